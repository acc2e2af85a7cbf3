/- The calculus in which this claim's walks are written: a weakest-precondition calculus over the model's code, in which the temporaries of a region are forgotten behind it, and memory stands for the world. Proved sound over the model's own steps; of no program in particular. -/
import Derived.Calls
import Derived.KernelRfl
namespace Go.M
open Go
abbrev Mem:=Array Obj
def cell? (m:Mem) (a:Addr):Option Value:=
 match m[a.block]? with
 | some (.cells c _ _)=>if a.spot.isSome then none else c[a.off]?
 | _=>none
def frozen? (m:Mem) (a:Addr):Bool:=
 match m[a.block]? with
 | some (.cells _ _ (lo,hi))=>lo≤a.off && a.off < hi
 | _=>false
def setCell (m:Mem) (a:Addr) (v:Value):Mem:=
 m.modify a.block fun
  | .cells c elem frozen=>.cells (if a.spot.isSome then c else c.setIfInBounds a.off v) elem frozen
  | o=>o
def shape? (m:Mem) (r:Nat):Option (TypeId×Nat):=
 match m[r]? with
 | some (.cells c elem _)=>some (elem,c.size)
 | _=>none
theorem cell?_heap (w:World) (a:Addr):w.cell? a=cell? w.heap a:=rfl
theorem frozen?_heap (w:World) (a:Addr):w.frozen? a=frozen? w.heap a:=rfl
theorem setCell_heap (w:World) (a:Addr) (v:Value):(w.setCell a v).heap=setCell w.heap a v:=rfl
theorem shape?_heap (w:World) (r:Nat):w.shape? r=shape? w.heap r:=rfl
def isCell:Value→Bool
 | .agg _ | .tuple _=>false
 | _=>true
def SemW {α:Type} (P:Program):Sem α→Mem→(α→Mem→Prop)→Prop
 | .pure a,m,K=>K a m
 | .load _ a k,m,K=>∃ v,cell? m a=some v∧SemW P (k v) m K
 | .store _ a v k,m,K=>isCell v=true∧(∃ old,cell? m a=some old)∧frozen? m a=false∧SemW P k (setCell m a v) K
 | .new o k,m,K=>SemW P (k m.size) (m.push o) K
 | .shape r k,m,K=>SemW P (k (shape? m r)) m K
 | .freeze _ _ _,_,_=>False
 | .frozen a k,m,K=>SemW P (k (frozen? m a)) m K
 | .getObj r k,m,K=>
  match m[r]? with
  | some (.cells ..)=>False
  | some o=>SemW P (k o) m K
  | none=>False
 | .setObj r o k,m,K=>
  match m[r]? with
  | some (.cells ..)=>False
  | some _=>SemW P k (m.setIfInBounds r o) K
  | none=>False
 | .choose q k,m,K=>∀ t:Nat,SemW P (k (if q.forced then 0 else q.cut t)) m K
 | .sys _ _,_,_=>False
 | .program k,m,K=>SemW P (k P) m K
 | .mark _ k,m,K=>SemW P k m K
 | .halt _,_,_=>False
def Same (w w':World):Prop:=w'.os=w.os∧w'.output=w.output
theorem Same.refl (w:World):Same w w:=⟨rfl,rfl⟩
theorem Same.trans {a b c:World} (h:Same a b) (h':Same b c):Same a c:=⟨h'.1.trans h.1,h'.2.trans h.2⟩
theorem SemW.sound {α:Type} {P:Program} {s:Sem α}:∀ {m:Mem} {K:α→Mem→Prop},SemW P s m K→
  ∀ w:World,w.heap=m→∃ a w',s.run P w=.ok a w'∧K a w'.heap∧Same w w':=by
 induction s with
 | pure a=>intro m K h w hw; exact ⟨a,w,rfl,by rw [hw]; exact h,.refl w⟩
 | load md a k ih=>
  intro m K h w hw
  obtain ⟨v,hv,h⟩:=h
  obtain ⟨x,w',hr,hk,hs⟩:=ih v h w hw
  refine ⟨x,w',?_,hk,hs⟩
  have:w.cell? a=some v:=by rw [cell?_heap,hw]; exact hv
  simp only [Sem.run,this,hr]
 | store md a v k ih=>
  intro m K h w hw
  obtain ⟨hc,⟨old,ho⟩,hf,h⟩:=h
  obtain ⟨x,w',hr,hk,hs⟩:=ih h (w.setCell a v) (by rw [setCell_heap,hw])
  refine ⟨x,w',?_,hk,?_⟩
  ·have h1:w.cell? a=some old:=by rw [cell?_heap,hw]; exact ho
   have h2:w.frozen? a=false:=by rw [frozen?_heap,hw]; exact hf
   cases v <;> simp [isCell] at hc <;> simp [Sem.run,h1,h2,hr]
  ·exact hs
 | new o k ih=>
  intro m K h w hw
  obtain ⟨x,w',hr,hk,hs⟩:=ih _ (m:=m.push o) (K:=K) h { w with heap:=w.heap.push o } (by simp [hw])
  exact ⟨x,w',by simp only [Sem.run,hw] at hr ⊢; exact hr,hk,hs⟩
 | shape r k ih=>
  intro m K h w hw
  obtain ⟨x,w',hr,hk,hs⟩:=ih _ (m:=m) (K:=K) h w hw
  refine ⟨x,w',?_,hk,hs⟩
  simp only [Sem.run,shape?_heap,hw,hr]
 | freeze a n k ih=>intro m K h; exact h.elim
 | frozen a k ih=>
  intro m K h w hw
  obtain ⟨x,w',hr,hk,hs⟩:=ih _ (m:=m) (K:=K) h w hw
  refine ⟨x,w',?_,hk,hs⟩
  simp only [Sem.run,frozen?_heap,hw,hr]
 | getObj r k ih=>
  intro m K h w hw
  simp only [SemW] at h
  split at h
  ·exact h.elim
  ·rename_i o hne ho
   obtain ⟨x,w',hr,hk,hs⟩:=ih o (m:=m) (K:=K) h w hw
   refine ⟨x,w',?_,hk,hs⟩
   simp only [Sem.run,hw,ho]
   exact hr
  ·exact h.elim
 | setObj r o k ih=>
  intro m K h w hw
  simp only [SemW] at h
  split at h
  ·exact h.elim
  ·rename_i o' hne ho
   obtain ⟨x,w',hr,hk,hs⟩:=ih (m:=m.setIfInBounds r o) (K:=K) h { w with heap:=w.heap.setIfInBounds r o } (by simp [hw])
   refine ⟨x,w',?_,hk,hs⟩
   simp only [Sem.run,hw,ho]
   simp only [hw] at hr; exact hr
  ·exact h.elim
 | choose q k ih=>
  intro m K h w hw
  simp only [SemW] at h
  by_cases hq:q.forced=true
  ·have h0:=h 0
   simp only [hq,if_true] at h0
   obtain ⟨x,w',hr,hk,hs⟩:=ih 0 (m:=m) (K:=K) h0 w hw
   exact ⟨x,w',by simp only [Sem.run,hq,if_true,hr],hk,hs⟩
  ·have h0:=h (w.tape w.drawn q)
   simp only [hq] at h0
   obtain ⟨x,w',hr,hk,hs⟩:=ih _ (m:=m) (K:=K) h0 { w with drawn:=w.drawn+1 } hw
   exact ⟨x,w',by simp only [Sem.run,hq]; exact hr,hk,hs⟩
 | sys c k ih=>intro m K h; exact h.elim
 | program k ih=>
  intro m K h w hw
  obtain ⟨x,w',hr,hk,hs⟩:=ih P (m:=m) (K:=K) h w hw
  exact ⟨x,w',by simp only [Sem.run,hr],hk,hs⟩
 | mark mk k ih=>
  intro m K h w hw
  obtain ⟨x,w',hr,hk,hs⟩:=ih (m:=m) (K:=K) h w hw
  exact ⟨x,w',by simp only [Sem.run,hr],hk,hs⟩
 | halt hlt=>intro m K h; exact h.elim
theorem SemW.bind {α β:Type} {P:Program} {s:Sem α} {f:α→Sem β}:∀ {m:Mem} {K:β→Mem→Prop},
  SemW P s m (fun a m'=>SemW P (f a) m' K)→SemW P (s.bind f) m K:=by
 induction s with
 | pure a=>intro m K h; exact h
 | load md a k ih=>intro m K ⟨v,hv,h⟩; exact ⟨v,hv,ih v h⟩
 | store md a v k ih=>intro m K ⟨h1,h2,h3,h⟩; exact ⟨h1,h2,h3,ih h⟩
 | new o k ih=>intro m K h; exact ih _ (m:=m.push o) h
 | shape r k ih=>intro m K h; exact ih _ (m:=m) h
 | freeze a n k ih=>intro m K h; exact h
 | frozen a k ih=>intro m K h; exact ih _ (m:=m) h
 | getObj r k ih=>
  intro m K h
  simp only [SemW,Sem.bind] at h ⊢
  split at h
  ·exact h
  ·exact ih _ h
  ·exact h
 | setObj r o k ih=>
  intro m K h
  simp only [SemW,Sem.bind] at h ⊢
  split at h
  ·exact h
  ·exact ih h
  ·exact h
 | choose q k ih=>intro m K h t; exact ih _ (h t)
 | sys c k ih=>intro m K h; exact h
 | program k ih=>intro m K h; exact ih P (m:=m) h
 | mark mk k ih=>intro m K h; exact ih (m:=m) h
 | halt hlt=>intro m K h; exact h
theorem SemW.mono {α:Type} {P:Program} {s:Sem α}:∀ {m:Mem} {K K':α→Mem→Prop},
  SemW P s m K→(∀ a m',K a m'→K' a m')→SemW P s m K':=by
 induction s with
 | pure a=>intro m K K' h hk; exact hk _ _ h
 | load md a k ih=>intro m K K' ⟨v,hv,h⟩ hk; exact ⟨v,hv,ih v h hk⟩
 | store md a v k ih=>intro m K K' ⟨h1,h2,h3,h⟩ hk; exact ⟨h1,h2,h3,ih h hk⟩
 | new o k ih=>intro m K K' h hk; exact ih _ (m:=m.push o) h hk
 | shape r k ih=>intro m K K' h hk; exact ih _ (m:=m) h hk
 | freeze a n k ih=>intro m K K' h hk; exact h
 | frozen a k ih=>intro m K K' h hk; exact ih _ (m:=m) h hk
 | getObj r k ih=>
  intro m K K' h hk
  simp only [SemW] at h ⊢
  split at h
  ·exact h
  ·exact ih _ h hk
  ·exact h
 | setObj r o k ih=>
  intro m K K' h hk
  simp only [SemW] at h ⊢
  split at h
  ·exact h
  ·exact ih h hk
  ·exact h
 | choose q k ih=>intro m K K' h hk t; exact ih _ (h t) hk
 | sys c k ih=>intro m K K' h hk; exact h
 | program k ih=>intro m K K' h hk; exact ih P (m:=m) h hk
 | mark mk k ih=>intro m K K' h hk; exact ih (m:=m) h hk
 | halt hlt=>intro m K K' h hk; exact h
def CallM (P:Program) (f:FuncId) (args:Array Value) (m:Mem) (K:Value→Mem→Prop):Prop:=
 ∀ w:World,w.heap=m→Calls P f args w fun e w'=>∃ v,e=.returned v∧K v w'.heap∧Same w w'
theorem CallM.mono {P:Program} {f:FuncId} {args:Array Value} {m:Mem} {K K':Value→Mem→Prop}
  (h:CallM P f args m K) (hk:∀ v m',K v m'→K' v m'):CallM P f args m K':=
 fun w hw=>(h w hw).mono fun _ _ ⟨v,he,hv,hs⟩=>⟨v,he,hk _ _ hv,hs⟩
abbrev Env:=List (Nat×Value)
def Env.get:Env→Nat→Option Value
 | [],_=>none
 | (j,v)::r,i=>if i=j then some v else Env.get r i
def Env.set:Env→Nat→Value→Env
 | [],i,v=>[(i,v)]
 | (j,u)::r,i,v=>if i=j then (i,v)::r else if i < j then (i,v)::(j,u)::r else (j,u)::Env.set r i v
def memNat:List Nat→Nat→Bool
 | [],_=>false
 | a::l,i=>if i=a then true else memNat l i
def Env.keep (L:List Nat):Env→Env
 | []=>[]
 | (j,v)::r=>match memNat L j with
  | true=>(j,v)::Env.keep L r
  | false=>Env.keep L r
def Env.del (i:Nat):Env→Env
 | []=>[]
 | (j,v)::r=>if i=j then Env.del i r else (j,v)::Env.del i r
def Env.put (r:Env) (d:Option Tmp) (v:Value):Env:=
 match d with
 | some d=>r.set d v
 | none=>r
theorem Env.get_set (r:Env) (i:Nat) (v:Value) (k:Nat):(r.set i v).get k=if k=i then some v else r.get k:=by
 induction r with
 | nil=>simp [Env.set,Env.get]
 | cons p r ih=>
  obtain ⟨j,u⟩:=p
  simp only [Env.set]
  split
  ·subst_vars; simp only [Env.get]; split <;> simp_all
  ·split
   ·simp only [Env.get]
   ·simp only [Env.get,ih]
    split
    ·split
     ·omega
     ·rfl
    ·rfl
theorem Env.get_keep_none {L:List Nat} {k:Nat} (h:memNat L k=false):∀ (r:Env),(Env.keep L r).get k=none
 | []=>rfl
 | (j,u)::r=>by
  simp only [Env.keep]
  split
  ·rename_i hj
   simp only [Env.get]
   split
   ·rename_i e; subst e; rw [h] at hj; cases hj
   ·exact Env.get_keep_none h r
  ·exact Env.get_keep_none h r
theorem Env.get_keep {L:List Nat} {r:Env} {k:Nat} {v:Value} (h:(Env.keep L r).get k=some v):r.get k=some v:=by
 have hk:memNat L k=true:=by
  cases hm:memNat L k with
  | true=>rfl
  | false=>rw [Env.get_keep_none hm] at h; cases h
 induction r with
 | nil=>simp [Env.keep,Env.get] at h
 | cons p r ih=>
  obtain ⟨j,u⟩:=p
  simp only [Env.keep] at h
  simp only [Env.get]
  split
  ·rename_i e; subst e
   simp only [hk,Env.get,if_true] at h
   exact h
  ·rename_i e
   split at h
   ·simp only [Env.get,if_neg e] at h; exact ih h
   ·exact ih h
theorem Env.get_del_none {k:Nat}:∀ (r:Env),(Env.del k r).get k=none
 | []=>rfl
 | (j,u)::r=>by
  simp only [Env.del]
  split
  ·exact Env.get_del_none r
  ·rename_i e
   simp only [Env.get,if_neg e]
   exact Env.get_del_none r
theorem Env.get_del {i:Nat} {r:Env} {k:Nat} {v:Value} (h:(Env.del i r).get k=some v):r.get k=some v:=by
 have hk:k≠i:=by
  intro e; subst e; rw [Env.get_del_none] at h; cases h
 induction r with
 | nil=>simp [Env.del,Env.get] at h
 | cons p r ih=>
  obtain ⟨j,u⟩:=p
  simp only [Env.del] at h
  simp only [Env.get]
  split at h
  ·rename_i e; subst e
   rw [if_neg hk]; exact ih h
  ·simp only [Env.get] at h
   split
   ·simp_all
   ·simp_all
def Agrees (n:Nat) (r:Env) (a:Act):Prop:=
 a.tmps.size=n∧a.defers=[]∧∀ i v,r.get i=some v→a.tmps[i]?=some v
theorem Agrees.keep {n:Nat} {r:Env} {a:Act} (h:Agrees n r a) (L:List Nat):Agrees n (Env.keep L r) a:=
 ⟨h.1,h.2.1,fun i v hv=>h.2.2 i v (Env.get_keep hv)⟩
theorem Agrees.del {n:Nat} {r:Env} {a:Act} (h:Agrees n r a) (L:Nat):Agrees n (Env.del L r) a:=
 ⟨h.1,h.2.1,fun i v hv=>h.2.2 i v (Env.get_del hv)⟩
def inB (n:Nat):Option Tmp→Bool
 | some d=>decide (d < n)
 | none=>true
theorem Agrees.put {n:Nat} {r:Env} {a:Act} (h:Agrees n r a) (d:Option Tmp) (v:Value) (hd:inB n d=true):
  Agrees n (r.put d v) (a.put d v):=by
 cases d with
 | none=>exact h
 | some d=>
  simp only [inB,decide_eq_true_eq] at hd
  refine ⟨by simp [Act.put,h.1],by simp [Act.put,h.2.1],fun i u hu=>?_⟩
  simp only [Env.put,Env.get_set] at hu
  simp only [Act.put,Array.getElem?_setIfInBounds]
  split at hu
  ·subst_vars; simp_all [h.1]
  ·rename_i hne
   rw [if_neg (fun e=>hne e.symm)]
   exact h.2.2 i u hu
def Env.val (r:Env):Operand→Value
 | .tmp t=>(r.get t).getD undef
 | .const v=>v
 | .global g=>.pointer (some ⟨g,0,none⟩)
 | .func f=>.func (.func f) #[] #[]
def Env.has (r:Env):Operand→Bool
 | .tmp t=>(r.get t).isSome
 | _=>true
def Env.hasAll (r:Env):List Operand→Bool
 | []=>true
 | x::xs=>match r.has x with
  | true=>Env.hasAll r xs
  | false=>false
theorem Env.hasAll_mem {r:Env} {l:List Operand} (h:r.hasAll l=true):∀ x ∈ l,r.has x=true:=by
 induction l with
 | nil=>intro x hx; cases hx
 | cons a l ih=>
  intro x hx
  simp only [Env.hasAll] at h
  cases ha:r.has a with
  | false=>simp [ha] at h
  | true=>
   simp only [ha] at h
   cases hx with
   | head=>exact ha
   | tail _ hx=>exact ih h x hx
theorem Agrees.eval {n:Nat} {r:Env} {a:Act} (h:Agrees n r a) {x:Operand} (hx:r.has x=true):a.eval x=r.val x:=by
 cases x with
 | tmp t=>
  simp only [Env.has] at hx
  obtain ⟨v,hv⟩:=Option.isSome_iff_exists.1 hx
  have:=h.2.2 t v hv
  simp [Act.eval,Env.val,hv,Array.getD_eq_getD_getElem?,this]
 | _=>rfl
end Go.M
