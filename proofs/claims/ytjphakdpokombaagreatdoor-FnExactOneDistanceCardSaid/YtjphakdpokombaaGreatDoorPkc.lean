/- The calculus: what a piece of code asks of memory and of the frame, as a proposition that the kernel computes off the code; and that it is sound. -/
import Derived.Laws.Sem
import Derived.Test.YtjphakdpokombaaGreatDoorPkb
namespace Go.M
open Go
def PureW {α:Type} (P:Program):Sem α→(α→Prop)→Prop
 | .pure a,K=>K a
 | .program k,K=>PureW P (k P) K
 | .mark _ k,K=>PureW P k K
 | _,_=>False
theorem PureW.sound {α:Type} {P:Program} {s:Sem α} {K:α→Prop} (h:PureW P s K):∃ a,(∀ w,s.run P w=.ok a w)∧K a:=by
 induction s with
 | pure a=>exact ⟨a,fun _=>rfl,h⟩
 | program k ih=>exact ih P h
 | mark mk k ih=>exact ih h
 | _=>exact h.elim
def ReadW {α:Type} (P:Program) (m:Mem):Sem α→(α→Prop)→Prop
 | .pure a,K=>K a
 | .program k,K=>ReadW P m (k P) K
 | .mark _ k,K=>ReadW P m k K
 | .load _ a k,K=>∃ v,cell? m a=some v∧ReadW P m (k v) K
 | .shape r k,K=>ReadW P m (k (shape? m r)) K
 | .frozen a k,K=>ReadW P m (k (frozen? m a)) K
 | .getObj r k,K=>
  match m[r]? with
  | some (.cells ..)=>False
  | some o=>ReadW P m (k o) K
  | none=>False
 | _,_=>False
theorem ReadW.sound {α:Type} {P:Program} {m:Mem} {s:Sem α} {K:α→Prop} (h:ReadW P m s K):
  ∃ a,(∀ w:World,w.heap=m→s.run P w=.ok a w)∧K a:=by
 induction s with
 | pure a=>exact ⟨a,fun _ _=>rfl,h⟩
 | program k ih=>exact ih P h
 | mark mk k ih=>exact ih h
 | load md a k ih=>
  obtain ⟨v,hv,h⟩:=h
  obtain ⟨x,hx,hk⟩:=ih v h
  refine ⟨x,fun w hw=>?_,hk⟩
  have:w.cell? a=some v:=by rw [cell?_heap,hw]; exact hv
  simp only [Sem.run,this,hx w hw]
 | shape r k ih=>
  obtain ⟨x,hx,hk⟩:=ih _ h
  exact ⟨x,fun w hw=>by simp only [Sem.run,shape?_heap,hw]; exact hx w hw,hk⟩
 | frozen a k ih=>
  obtain ⟨x,hx,hk⟩:=ih _ h
  exact ⟨x,fun w hw=>by simp only [Sem.run,frozen?_heap,hw]; exact hx w hw,hk⟩
 | getObj r k ih=>
  simp only [ReadW] at h
  split at h
  ·exact h.elim
  ·rename_i o hne ho
   obtain ⟨x,hx,hk⟩:=ih o h
   refine ⟨x,fun w hw=>?_,hk⟩
   simp only [Sem.run,hw,ho]
   exact hx w hw
  ·exact h.elim
 | _=>exact h.elim
theorem ReadW.bind {α β:Type} {P:Program} {m:Mem} {s:Sem α} {f:α→Sem β} {K:β→Prop}
  (h:ReadW P m s (fun a=>ReadW P m (f a) K)):ReadW P m (s.bind f) K:=by
 induction s with
 | pure a=>exact h
 | program k ih=>exact ih P h
 | mark mk k ih=>exact ih h
 | load md a k ih=>obtain ⟨v,hv,h⟩:=h; exact ⟨v,hv,ih v h⟩
 | shape r k ih=>exact ih _ h
 | frozen a k ih=>exact ih _ h
 | getObj r k ih=>
  simp only [ReadW,Sem.bind] at h ⊢
  split at h
  ·exact h
  ·exact ih _ h
  ·exact h
 | _=>exact h.elim
def onVal (K:Value→Prop):Next→Prop
 | .value v=>K v
 | _=>False
theorem PureW.next {P:Program} {s:Sem Next} {K:Value→Prop} (h:PureW P s (onVal K)):∃ v,(∀ w,s.run P w=.ok (.value v) w)∧K v:=by
 obtain ⟨a,ha,hk⟩:=h.sound
 cases a <;> first | exact hk.elim | exact ⟨_,ha,hk⟩
theorem ReadW.next {P:Program} {m:Mem} {s:Sem Next} {K:Value→Prop} (h:ReadW P m s (onVal K)):
  ∃ v,(∀ w:World,w.heap=m→s.run P w=.ok (.value v) w)∧K v:=by
 obtain ⟨a,ha,hk⟩:=h.sound
 cases a <;> first | exact hk.elim | exact ⟨_,ha,hk⟩
def NextW (P:Program) (K:Value→Mem→Prop):Next→Mem→Prop
 | .value v,m=>K v m
 | .skip,m=>K undef m
 | .enter f args,m=>CallM P f args m K
 | _,_=>False
def onSome (a:Option Addr) (K:Addr→Prop):Prop:=
 match a with
 | some a=>K a
 | none=>False
def onPtr (v:Value) (K:Addr→Prop):Prop:=
 match v with
 | .pointer a=>onSome a K
 | _=>False
theorem onSome_spec {a:Option Addr} {K:Addr→Prop} (h:onSome a K):∃ b,a=some b∧K b:=by
 cases a with
 | none=>exact h.elim
 | some b=>exact ⟨b,rfl,h⟩
theorem onPtr_spec {v:Value} {K:Addr→Prop} (h:onPtr v K):∃ b,v=.pointer (some b)∧K b:=by
 unfold onPtr at h
 split at h
 ·obtain ⟨b,rfl,hk⟩:=onSome_spec h; exact ⟨b,rfl,hk⟩
 ·exact h.elim
def Shape (P:Program) (t:TypeId) (K:Value→Prop):Prop:=
 match P.underlying t with
 | some (.int k)=>∃ n,K (.int k n)
 | some .bool=>∃ b,K (.bool b)
 | some (.pointer _)=>∃ a,K (.pointer a)
 | some (.slice _)=>∃ a l c,K (.slice a l c)
 | some .string=>∃ s,K (.string s)
 | some (.map ..)=>∃ r,K (.map r)
 | _=>∃ v,K v
theorem Shape.val {P:Program} {t:TypeId} {K:Value→Prop} (h:Shape P t K):∃ v,K v:=by
 unfold Shape at h
 split at h
 ·obtain ⟨n,h⟩:=h; exact ⟨_,h⟩
 ·obtain ⟨n,h⟩:=h; exact ⟨_,h⟩
 ·obtain ⟨n,h⟩:=h; exact ⟨_,h⟩
 ·obtain ⟨a,l,c,h⟩:=h; exact ⟨_,h⟩
 ·obtain ⟨n,h⟩:=h; exact ⟨_,h⟩
 ·obtain ⟨n,h⟩:=h; exact ⟨_,h⟩
 ·exact h
def ShapeAll (P:Program):List TypeId→List Value→(List Value→Prop)→Prop
 | [],acc,K=>K acc
 | t::ts,acc,K=>Shape P t fun v=>ShapeAll P ts (acc++[v]) K
theorem ShapeAll.val {P:Program}:∀ {ts:List TypeId} {acc:List Value} {K:List Value→Prop},ShapeAll P ts acc K→∃ vs,K vs
 | [],acc,_,h=>⟨acc,h⟩
 | _::_,_,_,h=>let ⟨_,h⟩:=Shape.val h; ShapeAll.val h
def ResultIs (P:Program) (t:TypeId) (v:Value) (K:Value→Prop):Prop:=
 match P.underlying t with
 | some (.tuple ts)=>ShapeAll P ts.toList [] fun vs=>v=.tuple vs.toArray∧K (.tuple vs.toArray)
 | _=>Shape P t fun u=>v=u∧K u
theorem ResultIs.val {P:Program} {t:TypeId} {v:Value} {K:Value→Prop} (h:ResultIs P t v K):K v:=by
 unfold ResultIs at h
 split at h
 ·obtain ⟨vs,rfl,h'⟩:=ShapeAll.val h; exact h'
 ·obtain ⟨u,rfl,h'⟩:=Shape.val h; exact h'
def aplus (a:Addr) (n:Nat):Addr:=⟨a.block,a.off+n,a.spot.bind fun s=>if n=0 then some s else none⟩
theorem aplus_add (a:Addr) (n:Nat):a.add n=aplus a n:=by
 obtain ⟨b,o,s⟩:=a
 unfold Addr.add aplus
 split
 ·subst_vars; cases s <;> rfl
 ·cases s <;> simp_all
def mulS (n size:Nat):Nat:=
 match size with
 | 1=>n
 | s=>n * s
theorem mulS_eq (n size:Nat):mulS n size=n * size:=by
 unfold mulS; split
 ·simp
 ·rfl
def isIfc:Value→Bool
 | .iface .. | .nilIface=>true
 | _=>false
def isNil:Value→Bool
 | .nilIface=>true
 | _=>false
def bitsOp (op:BinOp) (k:IntKind) (x y:Int):Int:=
 match op with
 | .and=>k.wrap (BitVec.ofInt k.bits x &&& BitVec.ofInt k.bits y).toNat
 | .or=>k.wrap (BitVec.ofInt k.bits x ||| BitVec.ofInt k.bits y).toNat
 | .xor=>k.wrap (BitVec.ofInt k.bits x ^^^ BitVec.ofInt k.bits y).toNat
 | _=>k.wrap (BitVec.ofInt k.bits x &&& ~~~ BitVec.ofInt k.bits y).toNat
def shlOp (k:IntKind) (x y:Int):Int:=k.wrap (x * 2 ^ (min y.toNat k.bits))
def shrOp (k:IntKind) (x y:Int):Int:=x.fdiv (2 ^ (min y.toNat k.bits))
def eqlB (op:BinOp) (b:Bool):Bool:=
 match op with
 | .eql=>b
 | _=> !b
def binW (P:Program) (op:BinOp) (t:TypeId) (y:Operand) (vx vy:Value) (raw:Prop) (K:Value→Prop):Prop:=
 match op with
 | .shl=>
  match vx,vy with
  | .int k a,.int _ b=>0≤b∧K (.int k (shlOp k a b))
  | _,_=>False
 | .shr=>
  match vx,vy with
  | .int k a,.int _ b=>0≤b∧K (.int k (shrOp k a b))
  | _,_=>False
 | .quo=>
  match vx,vy with
  | .int k a,.int k' b=>k=k'∧b≠0∧K (.int k (k.wrap (a.tdiv b)))
  | _,_=>False
 | .rem=>
  match vx,vy with
  | .int k a,.int k' b=>k=k'∧b≠0∧K (.int k (a.tmod b))
  | _,_=>False
 | .and | .or | .xor | .andNot=>
  match vx,vy with
  | .int k a,.int k' b=>k=k'∧K (.int k (bitsOp op k a b))
  | _,_=>False
 | .eql | .neq=>
  match P.underlying t,y with
  | some (.pointer _),.const (.pointer none)=>
   match vx with
   | .pointer a=>K (.bool (eqlB op a.isNone))
   | _=>False
  | some (.slice _),.const (.slice none 0 0)=>
   match vx with
   | .slice a _ _=>K (.bool (eqlB op a.isNone))
   | _=>False
  | some (.interface _),.const .nilIface=>isIfc vx=true∧K (.bool (eqlB op (isNil vx)))
  | _,_=>raw
 | _=>raw
theorem run_v {P:Program} {s:Sem Value} {v:Value} {w:World} (h:s.run P w=.ok v w):
  ((do pure (Next.value (← s))):Sem Next).run P w=.ok (.value v) w:=by
 rw [Sem.run_bind,h]; rfl
theorem equal_succ (t:TypeId) (x y:Value):Op.equal t x y=Op.equalIn (9999+1) t x y:=rfl
theorem equal_ptr_nil {P:Program} {t e:TypeId} (ht:P.underlying t=some (.pointer e)) (a:Option Addr) (w:World):
  (Op.equal t (.pointer a) (.pointer none)).run P w=.ok a.isNone w:=by
 rw [equal_succ]
 generalize 9999=d
 simp only [Op.equalIn,underlying,Sem.run_bind,run_program,Result.andThen_ok,ht]
 cases a <;> rfl
theorem equal_slice_nil {P:Program} {t e:TypeId} (ht:P.underlying t=some (.slice e)) (a:Option Addr) (l c:Nat) (w:World):
  (Op.equal t (.slice a l c) (.slice none 0 0)).run P w=.ok a.isNone w:=by
 rw [equal_succ]
 generalize 9999=d
 simp only [Op.equalIn,underlying,Sem.run_bind,run_program,Result.andThen_ok,ht]
 cases a <;> rfl
theorem equal_iface_nil {P:Program} {t:TypeId} {ms:Array (String×TypeId)} (ht:P.underlying t=some (.interface ms)) {v:Value} (hv:isIfc v=true) (w:World):
  (Op.equal t v .nilIface).run P w=.ok (isNil v) w:=by
 rw [equal_succ]
 generalize 9999=d
 simp only [Op.equalIn,underlying,Sem.run_bind,run_program,Result.andThen_ok,ht]
 cases v <;> simp [isIfc] at hv <;> rfl
theorem eqGuard_nil {P:Program} {op:BinOp} {t:TypeId} {x:Operand} {c v:Value} (hc:c=.pointer none∨c=.slice none 0 0∨c=.nilIface)
  (hv:∀ cs,v≠.agg cs) (w:World):(eqGuard op t x (.const c) v c).run P w=.ok () w:=by
 unfold eqGuard
 rcases hc with rfl | rfl | rfl <;> cases v <;> cases op <;> first | rfl | (simp; done) | (rename_i cs; exact absurd rfl (hv cs)) | (cases x <;> rfl)
theorem binW_sound {P:Program} {op:BinOp} {t yt:TypeId} {x y:Operand} {r:Env} {dst:Option Tmp} {ty:TypeId} {pos:String} {es:Array Edge} {g:Option (Nat×Bool)} {K:Value→Prop}
  (h:binW P op t y (r.val x) (r.val y) (PureW P (execOp r.val ⟨dst,.binOp op t x y yt,ty,pos,es,g⟩) (onVal K)) K):
  ∃ v,(∀ w,(execOp r.val ⟨dst,.binOp op t x y yt,ty,pos,es,g⟩).run P w=.ok (.value v) w)∧K v:=by
 have hex:∀ w v,(∀ w,(eqGuard op t x y (r.val x) (r.val y)).run P w=.ok () w)→(binOp op t (r.val x) (r.val y)).run P w=.ok v w→
   (execOp r.val ⟨dst,.binOp op t x y yt,ty,pos,es,g⟩).run P w=.ok (.value v) w:=by
  intro w v h1 h2
  refine run_v ?_
  rw [Sem.run_bind,h1]
  exact h2
 have hg:∀ w,op≠.eql→op≠.neq→(eqGuard op t x y (r.val x) (r.val y)).run P w=.ok () w:=by
  intro w h1 h2
  cases op <;> first | exact absurd rfl h1 | exact absurd rfl h2 | rfl
 unfold binW at h
 split at h
 ·split at h
  ·rename_i e1 e2
   refine ⟨_,fun w=>hex w _ (fun w=>hg w (by simp) (by simp)) ?_,h.2⟩
   rw [e1,e2]; simp only [binOp,Op.shift,if_neg (Int.not_lt.2 h.1)]; rfl
  ·exact h.elim
 ·split at h
  ·rename_i e1 e2
   refine ⟨_,fun w=>hex w _ (fun w=>hg w (by simp) (by simp)) ?_,h.2⟩
   rw [e1,e2]; simp only [binOp,Op.shift,if_neg (Int.not_lt.2 h.1)]; rfl
  ·exact h.elim
 ·split at h
  ·rename_i e1 e2
   obtain ⟨rfl,h0,hk⟩:=h
   refine ⟨_,fun w=>hex w _ (fun w=>hg w (by simp) (by simp)) ?_,hk⟩
   rw [e1,e2]; simp only [binOp,Op.intDiv,if_neg h0,ne_eq,not_true_eq_false,if_false]; rfl
  ·exact h.elim
 ·split at h
  ·rename_i e1 e2
   obtain ⟨rfl,h0,hk⟩:=h
   refine ⟨_,fun w=>hex w _ (fun w=>hg w (by simp) (by simp)) ?_,hk⟩
   rw [e1,e2]; simp only [binOp,Op.intDiv,if_neg h0,ne_eq,not_true_eq_false,if_false]; rfl
  ·exact h.elim
 ·split at h
  ·rename_i e1 e2
   obtain ⟨rfl,hk⟩:=h
   refine ⟨_,fun w=>hex w _ (fun w=>hg w (by simp) (by simp)) ?_,hk⟩
   rw [e1,e2]; simp only [binOp,Op.intBits,ne_eq,not_true_eq_false,if_false]; rfl
  ·exact h.elim
 ·split at h
  ·rename_i e1 e2
   obtain ⟨rfl,hk⟩:=h
   refine ⟨_,fun w=>hex w _ (fun w=>hg w (by simp) (by simp)) ?_,hk⟩
   rw [e1,e2]; simp only [binOp,Op.intBits,ne_eq,not_true_eq_false,if_false]; rfl
  ·exact h.elim
 ·split at h
  ·rename_i e1 e2
   obtain ⟨rfl,hk⟩:=h
   refine ⟨_,fun w=>hex w _ (fun w=>hg w (by simp) (by simp)) ?_,hk⟩
   rw [e1,e2]; simp only [binOp,Op.intBits,ne_eq,not_true_eq_false,if_false]; rfl
  ·exact h.elim
 ·split at h
  ·rename_i e1 e2
   obtain ⟨rfl,hk⟩:=h
   refine ⟨_,fun w=>hex w _ (fun w=>hg w (by simp) (by simp)) ?_,hk⟩
   rw [e1,e2]; simp only [binOp,Op.intBits,ne_eq,not_true_eq_false,if_false]; rfl
  ·exact h.elim
 ·split at h
  ·rename_i e1
   split at h
   ·rename_i e2
    refine ⟨_,fun w=>hex w _ (fun w=>?_) ?_,h⟩
    ·rw [e2]; exact eqGuard_nil (.inl rfl) (fun cs h=>by cases h) w
    ·rw [e2]
     change ((do pure (.bool (← Op.equal t _ _))):Sem Value).run P w=_
     rw [Sem.run_bind,show r.val (.const (.pointer none))=.pointer none from rfl,equal_ptr_nil e1]; rfl
   ·exact h.elim
  ·rename_i e1
   split at h
   ·rename_i e2
    refine ⟨_,fun w=>hex w _ (fun w=>?_) ?_,h⟩
    ·rw [e2]; exact eqGuard_nil (.inr (.inl rfl)) (fun cs h=>by cases h) w
    ·rw [e2]
     change ((do pure (.bool (← Op.equal t _ _))):Sem Value).run P w=_
     rw [Sem.run_bind,show r.val (.const (.slice none 0 0))=.slice none 0 0 from rfl,equal_slice_nil e1]; rfl
   ·exact h.elim
  ·rename_i e1
   refine ⟨_,fun w=>hex w _ (fun w=>?_) ?_,h.2⟩
   ·exact eqGuard_nil (.inr (.inr rfl)) (fun cs h'=>by rw [h'] at h; simp [isIfc] at h) w
   ·have h1:=h.1
    rw [show r.val (.const .nilIface)=.nilIface from rfl]
    have:(binOp .eql t (r.val x) .nilIface).run P w=((do pure (.bool (← Op.equal t (r.val x) .nilIface))):Sem Value).run P w:=by
     cases hv:r.val x <;> rw [hv] at h1 <;> simp [isIfc] at h1 <;> rfl
    rw [this,Sem.run_bind,equal_iface_nil e1 h1]; rfl
  ·exact h.next
 ·split at h
  ·rename_i e1
   split at h
   ·rename_i e2
    refine ⟨_,fun w=>hex w _ (fun w=>?_) ?_,h⟩
    ·rw [e2]; exact eqGuard_nil (.inl rfl) (fun cs h=>by cases h) w
    ·rw [e2]
     change ((do pure (.bool (!(← Op.equal t _ _)))):Sem Value).run P w=_
     rw [Sem.run_bind,show r.val (.const (.pointer none))=.pointer none from rfl,equal_ptr_nil e1]; rfl
   ·exact h.elim
  ·rename_i e1
   split at h
   ·rename_i e2
    refine ⟨_,fun w=>hex w _ (fun w=>?_) ?_,h⟩
    ·rw [e2]; exact eqGuard_nil (.inr (.inl rfl)) (fun cs h=>by cases h) w
    ·rw [e2]
     change ((do pure (.bool (!(← Op.equal t _ _)))):Sem Value).run P w=_
     rw [Sem.run_bind,show r.val (.const (.slice none 0 0))=.slice none 0 0 from rfl,equal_slice_nil e1]; rfl
   ·exact h.elim
  ·rename_i e1
   refine ⟨_,fun w=>hex w _ (fun w=>?_) ?_,h.2⟩
   ·exact eqGuard_nil (.inr (.inr rfl)) (fun cs h'=>by rw [h'] at h; simp [isIfc] at h) w
   ·have h1:=h.1
    rw [show r.val (.const .nilIface)=.nilIface from rfl]
    have:(binOp .neq t (r.val x) .nilIface).run P w=((do pure (.bool (!(← Op.equal t (r.val x) .nilIface)))):Sem Value).run P w:=by
     cases hv:r.val x <;> rw [hv] at h1 <;> simp [isIfc] at h1 <;> rfl
    rw [this,Sem.run_bind,equal_iface_nil e1 h1]; rfl
  ·exact h.next
 ·exact h.next
def boundsW (lo hi:Option Value) (len cap:Nat) (K:Option Nat→Nat→Prop):Prop:=
 match lo,hi with
 | none,none=>K none len
 | none,some (.int _ h)=>(0≤h∧h≤(cap:Int))∧K none h.toNat
 | some (.int _ l),none=>(0≤l∧l≤(len:Int))∧K (some l.toNat) len
 | some (.int _ l),some (.int _ h)=>(0≤h∧h≤(cap:Int))∧(0≤l∧l≤h)∧K (some l.toNat) h.toNat
 | _,_=>False
theorem boundsW_sound {P:Program} {isS:Bool} {lo hi:Option Value} {len cap:Nat} {K:Option Nat→Nat→Prop} (hl:len≤cap) (h:boundsW lo hi len cap K):
  ∃ l h,(∀ w,(Instr.sliceBounds isS len cap lo hi none).run P w=.ok (l.getD 0,h,cap) w)∧K l h∧l.getD 0≤h∧h≤cap∧(l=none ↔ lo=none):=by
 unfold boundsW at h
 split at h
 ·exact ⟨none,len,fun w=>rfl,h,Nat.zero_le _,hl,by simp⟩
 ·rename_i k n
  obtain ⟨hb,hk⟩:=h
  refine ⟨none,n.toNat,fun w=>?_,hk,Nat.zero_le _,by omega,by simp⟩
  cases isS <;> simp [Instr.sliceBounds,Instr.sliceBound,asIntOf,hb]
 ·rename_i k n
  obtain ⟨hb,hk⟩:=h
  refine ⟨some n.toNat,len,fun w=>?_,hk,by simp; omega,hl,by simp⟩
  cases isS <;> simp [Instr.sliceBounds,Instr.sliceBound,asIntOf,hb]
 ·rename_i k n k' n'
  obtain ⟨hb,hb',hk⟩:=h
  refine ⟨some n.toNat,n'.toNat,fun w=>?_,hk,by simp; omega,by omega,by simp⟩
  have h1:(n'.toNat:Int)=n':=Int.toNat_of_nonneg hb.1
  cases isS <;> simp [Instr.sliceBounds,Instr.sliceBound,asIntOf,hb,h1,hb']
 ·exact h.elim
def subA (a:Option Addr) (l size cap:Nat):Option Addr:=if cap=l then a else a.map (aplus · (mulS l size))
def sliceW (P:Program) (t:TypeId) (x:Value) (lo hi:Option Value) (K:Value→Prop):Prop:=
 match P.underlying t with
 | some (.slice e)=>
  match x with
  | .slice a len cap=>len≤cap∧boundsW lo hi len cap fun l h=>
    match l with
    | none=>K (.slice a h cap)
    | some l=>K (.slice (subA a l (P.cellsOf e) cap) (h - l) (cap - l))
  | _=>False
 | some (.array n e)=>
  match x with
  | .pointer a=>onSome a fun a=>boundsW lo hi n n fun l h=>
    match l with
    | none=>K (.slice (some a) h n)
    | some l=>K (.slice (some (if n=l then a else aplus a (mulS l (P.cellsOf e)))) (h - l) (n - l))
  | _=>False
 | _=>False
theorem cellsOf_run {P:Program} {t:TypeId} {i:TypeInfo} (h:P.info? t=some i) (w:World):(sizeOf t).run P w=.ok (P.cellsOf t) w:=by
 simp [sizeOf,typeInfo,h,Program.cellsOf]
theorem aplus_zero (a:Addr):aplus a 0=a:=by
 obtain ⟨b,o,s⟩:=a
 cases s <;> rfl
def hasInfo (P:Program) (t:TypeId):Bool:=(P.info? t).isSome
theorem sliceW_sound {P:Program} {t:TypeId} {x:Value} {lo hi:Option Value} {K:Value→Prop}
  (he:∀ e,P.underlying t=some (.slice e)∨(∃ n,P.underlying t=some (.array n e))→hasInfo P e=true) (h:sliceW P t x lo hi K):
  ∃ v,(∀ w,(Instr.sliceAt t x lo hi none).run P w=.ok v w)∧K v:=by
 unfold sliceW at h
 split at h
 ·rename_i e ht
  obtain ⟨i,hi'⟩:=Option.isSome_iff_exists.1 (he e (.inl ht))
  split at h
  ·rename_i a len cap
   obtain ⟨hlen,h⟩:=h
   obtain ⟨l,h',hr,hk,h1,h2,h3⟩:=boundsW_sound (P:=P) (isS:=true) hlen h
   cases l with
   | none=>
    refine ⟨_,fun w=>?_,hk⟩
    simp only [Instr.sliceAt,underlying,Sem.run_bind,run_program,Result.andThen_ok,ht,Sem.run_pure,Instr.slice,hr,cellsOf_run hi',Option.getD_none,Nat.sub_zero]
    have:(if cap=0 then a else a.map (·.add (0 * P.cellsOf e)))=a:=by
     split
     ·rfl
     ·cases a <;> simp [Addr.add]
    rw [this]
   | some l=>
    refine ⟨_,fun w=>?_,hk⟩
    simp only [Instr.sliceAt,underlying,Sem.run_bind,run_program,Result.andThen_ok,ht,Sem.run_pure,Instr.slice,hr,cellsOf_run hi',Option.getD_some]
    have:(if cap=l then a else a.map (·.add (l * P.cellsOf e)))=subA a l (P.cellsOf e) cap:=by
     unfold subA
     simp only [aplus_add,mulS_eq]
    rw [this]
  ·exact h.elim
 ·rename_i n e ht
  obtain ⟨i,hi'⟩:=Option.isSome_iff_exists.1 (he e (.inr ⟨n,ht⟩))
  split at h
  ·obtain ⟨a,rfl,hb⟩:=onSome_spec h
   clear h
   obtain ⟨l,h',hr,hk,h1,h2,h3⟩:=boundsW_sound (P:=P) (isS:=false) (Nat.le_refl _) hb
   cases l with
   | none=>
    refine ⟨_,fun w=>?_,hk⟩
    simp only [Instr.sliceAt,underlying,Sem.run_bind,run_program,Result.andThen_ok,ht,Sem.run_pure,Instr.sureAddr,hr,cellsOf_run hi',Option.getD_none,Nat.sub_zero]
    have:(if n=0 then a else a.add (0 * P.cellsOf e))=a:=by
     split
     ·rfl
     ·simp [Addr.add]
    rw [this]
   | some l=>
    refine ⟨_,fun w=>?_,hk⟩
    simp only [Instr.sliceAt,underlying,Sem.run_bind,run_program,Result.andThen_ok,ht,Sem.run_pure,Instr.sureAddr,hr,cellsOf_run hi',Option.getD_some,aplus_add,mulS_eq]
  ·exact h.elim
 ·exact h.elim
def indexAddrW (P:Program) (t:TypeId) (x ix:Value) (K:Value→Prop):Prop:=
 match P.underlying t with
 | some (.array n e)=>
  match x,ix with
  | .pointer a,.int _ i=>onSome a fun a=>(0≤i∧i < (n:Int))∧K (.pointer (some (aplus a (mulS i.toNat (P.cellsOf e)))))
  | _,_=>False
 | some (.slice e)=>
  match x,ix with
  | .slice a len _,.int _ i=>onSome a fun a=>(0≤i∧i < (len:Int))∧K (.pointer (some (aplus a (mulS i.toNat (P.cellsOf e)))))
  | _,_=>False
 | _=>False
theorem indexAddrW_sound {P:Program} {t:TypeId} {x ix:Value} {K:Value→Prop}
  (he:∀ e,P.underlying t=some (.slice e)∨(∃ n,P.underlying t=some (.array n e))→hasInfo P e=true) (h:indexAddrW P t x ix K):
  ∃ v,(∀ w,(Instr.indexAt t x ix).run P w=.ok v w)∧K v:=by
 unfold indexAddrW at h
 split at h
 ·rename_i n e ht
  obtain ⟨i,hi'⟩:=Option.isSome_iff_exists.1 (he e (.inr ⟨n,ht⟩))
  split at h
  ·obtain ⟨a,rfl,hb,hk⟩:=onSome_spec h
   refine ⟨_,fun w=>?_,hk⟩
   simp [Instr.indexAt,asIntOf,underlying,ht,Instr.sureAddr,hb,cellsOf_run hi',aplus_add,mulS_eq]
  ·exact h.elim
 ·rename_i e ht
  obtain ⟨i,hi'⟩:=Option.isSome_iff_exists.1 (he e (.inl ht))
  split at h
  ·obtain ⟨a,rfl,hb,hk⟩:=onSome_spec h
   refine ⟨_,fun w=>?_,hk⟩
   simp [Instr.indexAt,asIntOf,underlying,ht,hb,cellsOf_run hi',aplus_add,mulS_eq]
  ·exact h.elim
 ·exact h.elim
def elemHasInfo (P:Program) (t:TypeId):Bool:=
 match P.underlying t with
 | some (.slice e) | some (.array _ e)=>hasInfo P e
 | _=>false
theorem elemHasInfo_spec {P:Program} {t:TypeId} (h:elemHasInfo P t=true):
  ∀ e,P.underlying t=some (.slice e)∨(∃ n,P.underlying t=some (.array n e))→hasInfo P e=true:=by
 intro e he
 unfold elemHasInfo at h
 rcases he with he | ⟨n,he⟩ <;> (rw [he] at h; exact h)
def methNil (name:String) (first:Array Value):Sem Unit:=
 match (first[0]?:Option Value) with
 | some .nilIface=>runtimePanic .nilDeref
 | some (.iface t w)=>do
  if (← nilAhead ((← program).types.size+Made.depth) t w name) != some false then unsupported (.noEntry "")
  pure ()
 | _=>pure ()
def nilCheckW (P:Program) (v:Value) (K:Value→Prop):Prop:=
 match v with
 | .pointer a=>onSome a fun a=>K (.pointer (some a))
 | .iface t v=>K (.iface t v)
 | .func (.func f) a b=>K (.func (.func f) a b)
 | .func (.method name) first captured=>PureW P (methNil name first) fun _=>K (.func (.method name) first captured)
 | _=>False
theorem methNil_run {P:Program} {name:String} {first captured:Array Value} {r:Env} {x:Operand} {dst:Option Tmp} {ty:TypeId} {pos:String} {es:Array Edge} {g:Option (Nat×Bool)}
  (hv:r.val x=.func (.method name) first captured) (w:World) (h:(methNil name first).run P w=.ok () w):
  (execOp r.val ⟨dst,.nilCheck x,ty,pos,es,g⟩).run P w=.ok (.value (.func (.method name) first captured)) w:=by
 simp only [execOp,hv]
 unfold methNil at h
 cases hf:(first[0]?:Option Value) with
 | none=>rfl
 | some u=>
  rw [hf] at h
  cases u with
  | nilIface=>simp only [runtimePanic,Sem.run_bind,run_program,Result.andThen_ok,run_goPanic] at h; cases h
  | iface t u=>
   simp only [Sem.run_bind,run_program,Result.andThen_ok] at h ⊢
   cases hn:(nilAhead (P.types.size+Made.depth) t u name).run P w with
   | halt e w'=>rw [hn] at h; cases h
   | ok b w'=>
    rw [hn] at h
    simp only [Result.andThen_ok] at h ⊢
    by_cases hb:(b != some false)=true
    ·simp only [hb,if_true,Sem.run_bind,run_unsupported,Result.andThen_halt] at h; cases h
    ·simp only [hb] at h ⊢
     simp only [Bool.false_eq_true,if_false,Sem.run_pure] at h ⊢
     simp only [Result.ok.injEq,true_and] at h
     rw [h]
  | _=>rfl
def PureV (P:Program) (t:TypeId) (s:Sem Value) (K:Value→Prop):Prop:=PureW P s fun v=>ResultIs P t v K
theorem PureV.sound {P:Program} {t:TypeId} {s:Sem Value} {K:Value→Prop} (h:PureV P t s K):∃ v,(∀ w,s.run P w=.ok v w)∧K v:=by
 obtain ⟨v,hv,hk⟩:=PureW.sound h
 exact ⟨v,hv,hk.val⟩
def pureW (P:Program) (r:Env) (o:Oper) (K:Value→Prop):Prop:=
 match o.op with
 | .typeAssert x xt at_ ok=>PureV P o.type (Instr.typeAssert (r.val x) xt at_ ok) K
 | .index t x ix=>PureV P o.type (Instr.index t (r.val x) (r.val ix)) K
 | .move x | .assign x=>K (r.val x)
 | .nilCheck x=>nilCheckW P (r.val x) K
 | .binOp op t x y _=>binW P op t y (r.val x) (r.val y) (PureW P (execOp r.val o) (onVal K)) K
 | .slice t x lo hi none=>
  match elemHasInfo P t with
  | true=>sliceW P t (r.val x) (lo.map r.val) (hi.map r.val) K
  | false=>PureW P (execOp r.val o) (onVal K)
 | .indexAddr t x ix=>
  match elemHasInfo P t with
  | true=>indexAddrW P t (r.val x) (r.val ix) K
  | false=>False
 | _=>PureW P (execOp r.val o) (onVal K)
theorem pureW_sound {P:Program} {r:Env} {o:Oper} {K:Value→Prop} (h:pureW P r o K):
  ∃ v,(∀ w,(execOp r.val o).run P w=.ok (.value v) w)∧K v:=by
 obtain ⟨dst,op,ty,pos,es,g⟩:=o
 unfold pureW at h
 split at h
 ·rename_i x xt at_ ok he; simp only at he; subst he
  obtain ⟨v,hv,hk⟩:=h.sound
  exact ⟨v,fun w=>run_v (hv w),hk⟩
 ·rename_i t x ix he; simp only at he; subst he
  obtain ⟨v,hv,hk⟩:=h.sound
  exact ⟨v,fun w=>run_v (hv w),hk⟩
 ·rename_i x he; simp only at he; subst he; exact ⟨_,fun w=>rfl,h⟩
 ·rename_i x he; simp only at he; subst he; exact ⟨_,fun w=>rfl,h⟩
 ·rename_i x he
  simp only at he; subst he
  unfold nilCheckW at h
  split at h
  ·rename_i a ha
   obtain ⟨b,rfl,hk⟩:=onSome_spec h
   exact ⟨_,fun w=>by simp only [execOp,ha]; rfl,hk⟩
  ·rename_i t v ha
   exact ⟨_,fun w=>by simp only [execOp,ha]; rfl,h⟩
  ·rename_i f a b ha
   exact ⟨_,fun w=>by simp only [execOp,ha]; rfl,h⟩
  ·rename_i name first captured ha
   obtain ⟨u,hu,hk⟩:=h.sound
   exact ⟨_,fun w=>methNil_run ha w (hu w),hk⟩
  ·exact h.elim
 ·rename_i op t x y yt he
  simp only at he; subst he
  exact binW_sound h
 ·rename_i t x lo hi he
  simp only at he; subst he
  split at h
  ·rename_i hi'
   obtain ⟨v,hv,hk⟩:=sliceW_sound (elemHasInfo_spec hi') h
   exact ⟨v,fun w=>run_v (hv w),hk⟩
  ·exact h.next
 ·rename_i t x ix he
  simp only at he; subst he
  split at h
  ·rename_i hi'
   obtain ⟨v,hv,hk⟩:=indexAddrW_sound (elemHasInfo_spec hi') h
   exact ⟨v,fun w=>run_v (hv w),hk⟩
  ·exact h.elim
 ·exact h.next
def scalar (P:Program) (t:TypeId):Bool:=
 match P.underlying t with
 | some (.struct _) | some (.array ..) | none=>false
 | _=>true
def fieldTypes (P:Program):List Field→Option (List TypeId)
 | []=>some []
 | f::fs=>
  match scalar P f.type with
  | true=>(fieldTypes P fs).map (f.type:: ·)
  | false=>none
def CellsAre (m:Mem) (a:Addr):Nat→List Value→Prop
 | _,[]=>True
 | i,v::vs=>cell? m (aplus a i)=some v∧CellsAre m a (i+1) vs
def LdW (P:Program) (t:TypeId) (m:Mem) (a:Addr) (K:Value→Prop):Prop:=
 match scalar P t with
 | true=>Shape P t fun v=>cell? m a=some v∧K v
 | false=>
  match P.underlying t with
  | some (.struct fs)=>
   match fieldTypes P fs.toList with
   | some ts=>match Nat.beq ts.length (P.cellsOf t) with
    | true=>ShapeAll P ts [] fun vs=>vs.length=P.cellsOf t∧CellsAre m a 0 vs∧K (.agg vs.toArray)
    | false=>False
   | none=>∃ vs:List Value,vs.length=P.cellsOf t∧CellsAre m a 0 vs∧K (.agg vs.toArray)
  | some (.array ..)=>∃ vs:List Value,vs.length=P.cellsOf t∧CellsAre m a 0 vs∧K (.agg vs.toArray)
  | _=>False
theorem loadCellsFrom_run {P:Program} {m:Mem} {a:Addr} {w:World} (hw:w.heap=m):∀ (vs:List Value) (i:Nat) (acc:Array Value),CellsAre m a i vs→
  (loadCellsFrom a i vs.length acc).run P w=.ok (acc++vs.toArray) w
 | [],i,acc,_=>by simp [loadCellsFrom]
 | v::vs,i,acc,⟨h,hs⟩=>by
  have:w.cell? (a.add i)=some v:=by rw [aplus_add,cell?_heap,hw]; exact h
  simp only [List.length_cons,loadCellsFrom,Sem.run_bind,run_load,this,Result.andThen_ok]
  rw [loadCellsFrom_run hw vs (i+1) _ hs]
  simp
theorem scalar_isAgg {P:Program} {t:TypeId} (h:scalar P t=true) (w:World):(isAgg t).run P w=.ok false w:=by
 unfold scalar at h
 split at h
 ·cases h
 ·cases h
 ·cases h
 ·rename_i d h1 h2 h3
  unfold isAgg underlying
  simp only [Sem.run_bind,run_program,Result.andThen_ok]
  cases hd:P.underlying t with
  | none=>rw [hd] at h3; exact absurd rfl h3
  | some d'=>
   simp only [Sem.run_pure,Result.andThen_ok]
   cases d' <;> first | rfl | (rename_i x; exact absurd hd (h1 x)) | (rename_i x y; exact absurd hd (h2 x y))
theorem agg_isAgg {P:Program} {t:TypeId} (h:(∃ fs,P.underlying t=some (.struct fs))∨∃ n e,P.underlying t=some (.array n e)) (w:World):
  (isAgg t).run P w=.ok true w:=by
 rcases h with ⟨fs,h⟩ | ⟨n,e,h⟩ <;> simp [isAgg,underlying,h]
theorem info_of_underlying {P:Program} {t:TypeId} {d:TypeDesc} (h:P.underlying t=some d):∃ i,P.info? t=some i:=by
 unfold Program.underlying at h
 split at h
 ·rename_i hi; exact ⟨_,hi⟩
 ·rename_i hi; exact ⟨_,hi⟩
 ·cases h
theorem LdW.sound {P:Program} {t:TypeId} {m:Mem} {a:Addr} {K:Value→Prop} (h:LdW P t m a K):
  ∃ v,(∀ w:World,w.heap=m→(loadVar t a).run P w=.ok v w)∧K v:=by
 have agg:∀ (vs:List Value),((∃ fs,P.underlying t=some (.struct fs))∨∃ n e,P.underlying t=some (.array n e))→vs.length=P.cellsOf t→CellsAre m a 0 vs→
   ∀ w:World,w.heap=m→(loadVar t a).run P w=.ok (.agg vs.toArray) w:=by
  intro vs hu hl hc w hw
  have ⟨i,hi⟩:∃ i,P.info? t=some i:=by
   rcases hu with ⟨fs,h⟩ | ⟨n,e,h⟩ <;> exact info_of_underlying h
  simp only [loadVar,Sem.run_bind,agg_isAgg hu,Result.andThen_ok,if_true,cellsOf_run hi,loadCells]
  rw [← hl,loadCellsFrom_run hw vs 0 #[] hc]
  simp
 unfold LdW at h
 split at h
 ·rename_i hs
  obtain ⟨v,hv,hk⟩:=Shape.val h
  refine ⟨v,fun w hw=>?_,hk⟩
  have:w.cell? a=some v:=by rw [cell?_heap,hw]; exact hv
  simp [loadVar,scalar_isAgg hs,this]
 ·split at h
  ·rename_i fs hu
   split at h
   ·split at h
    ·obtain ⟨vs,hl,hc,hk⟩:=ShapeAll.val h
     exact ⟨_,agg vs (.inl ⟨fs,hu⟩) hl hc,hk⟩
    ·exact h.elim
   ·obtain ⟨vs,hl,hc,hk⟩:=h
    exact ⟨_,agg vs (.inl ⟨fs,hu⟩) hl hc,hk⟩
  ·rename_i n e hu
   obtain ⟨vs,hl,hc,hk⟩:=h
   exact ⟨_,agg vs (.inr ⟨n,e,hu⟩) hl hc,hk⟩
  ·exact h.elim
def ReadV (P:Program) (t:TypeId) (m:Mem) (s:Sem Value) (K:Value→Prop):Prop:=ReadW P m s fun v=>ResultIs P t v K
theorem ReadV.sound {P:Program} {t:TypeId} {m:Mem} {s:Sem Value} {K:Value→Prop} (h:ReadV P t m s K):
  ∃ v,(∀ w:World,w.heap=m→s.run P w=.ok v w)∧K v:=by
 obtain ⟨v,hv,hk⟩:=ReadW.sound h
 exact ⟨v,hv,hk.val⟩
def readW (P:Program) (r:Env) (o:Oper) (m:Mem) (K:Value→Prop):Prop:=
 match o.op with
 | .load t x=>onPtr (r.val x) fun a=>LdW P t m a K
 | .binOp op t x y _=>ReadV P o.type m (do eqGuard op t x y (r.val x) (r.val y); binOp op t (r.val x) (r.val y)) K
 | .lookup t x ix ok=>ReadV P o.type m (Instr.lookup t (r.val x) (r.val ix) ok) K
 | .call c=>
  match c.callee with
  | .builtin .len=>ReadV P o.type m (Builtin.len_ c.argTypes o.type (c.args.map r.val)) K
  | _=>False
 | _=>ReadW P m (execOp r.val o) (onVal K)
theorem readW_sound {P:Program} {r:Env} {o:Oper} {m:Mem} {K:Value→Prop} (h:readW P r o m K):
  ∃ v,(∀ w:World,w.heap=m→(execOp r.val o).run P w=.ok (.value v) w)∧K v:=by
 obtain ⟨dst,op,ty,pos,es,g⟩:=o
 unfold readW at h
 split at h
 ·rename_i t x he
  simp only at he; subst he
  obtain ⟨a,ha,h⟩:=onPtr_spec h
  obtain ⟨v,hv,hk⟩:=h.sound
  refine ⟨v,fun w hw=>run_v ?_,hk⟩
  simp only [Instr.loadAt,ha,Instr.sureAddr]
  exact hv w hw
 ·rename_i op t x y yt he
  simp only at he; subst he
  obtain ⟨v,hv,hk⟩:=h.sound
  exact ⟨v,fun w hw=>run_v (hv w hw),hk⟩
 ·rename_i t x ix ok he
  simp only at he; subst he
  obtain ⟨v,hv,hk⟩:=h.sound
  exact ⟨v,fun w hw=>run_v (hv w hw),hk⟩
 ·rename_i c he
  simp only at he; subst he
  split at h
  ·rename_i hb
   obtain ⟨v,hv,hk⟩:=h.sound
   refine ⟨v,fun w hw=>?_,hk⟩
   have:(execOp r.val ⟨dst,.call c,ty,pos,es,g⟩)=(do pure (Next.value (← Builtin.len_ c.argTypes ty (c.args.map r.val)))):=by
    simp only [execOp,resolve,hb,invoke,builtin,pure_bind]
   rw [this]
   exact run_v (hv w hw)
  ·exact h.elim
 ·exact h.next
def StW (m:Mem) (a:Addr) (v:Value) (K:Mem→Prop):Prop:=
 isCell v=true∧(∃ old,cell? m a=some old)∧frozen? m a=false∧K (setCell m a v)
def StAgg (P:Program) (t:TypeId) (m:Mem) (a:Addr) (v:Value) (K:Mem→Prop):Prop:=
 SemW P (storeVar t a v) m fun _ m'=>K m'
def zeroOf (P:Program) (t:TypeId):Option Value:=(P.info? t).bind (·.zero)
def AllocW (P:Program) (t:TypeId) (m:Mem) (K:Nat→Mem→Prop):Prop:=
 match zeroOf P t with
 | some z=>K m.size (m.push (.cells z.cells t))
 | none=>False
def zeroV (P:Program) (t:TypeId):Value:=(zeroOf P t).getD undef
def BoxW (t:TypeId) (v:Value) (m:Mem) (K:Nat→Mem→Prop):Prop:=K m.size (m.push (.cells v.cells t))
def CallT (P:Program) (t:TypeId) (f:FuncId) (args:Array Value) (m:Mem) (K:Value→Mem→Prop):Prop:=
 CallM P f args m fun v m'=>ResultIs P t v fun v=>K v m'
def RawW (P:Program) (t:TypeId) (s:Sem Next) (m:Mem) (K:Value→Mem→Prop):Prop:=
 SemW P s m (NextW P fun v m'=>ResultIs P t v fun v=>K v m')
def Enters (P:Program) (F:List FuncId):Prop:=
 ∀ f,memNat F f=true→∃ fn,P.funcs[f]?=some fn∧fn.body.isSome=true∧fn.name≠ "runtime.NumGoroutine"
def sv (s:Sem Value):Sem Next:=do pure (.value (← s))
def su (s:Sem Unit):Sem Next:=do s; pure .skip
def callVal (v:Value) (args:Array Value):Sem Next:=do let d ← Deferred.ofValue v args; invoke d.target d.args
def isConstO:Operand→Bool
 | .const _=>true
 | _=>false
def callW (P:Program) (F:List FuncId) (t:TypeId) (v:Value) (args:Array Value) (m:Mem) (K:Value→Mem→Prop):Prop:=
 match v with
 | .func (.func f) first captured=>
  match memNat F f with
  | true=>CallT P t f (first++args++captured) m K
  | false=>RawW P t (callVal v args) m K
 | .func (.method name) first captured=>RawW P t (callVal (.func (.method name) first captured) args) m K
 | _=>False
def effW (P:Program) (F:List FuncId) (r:Env) (o:Oper) (m:Mem) (K:Value→Mem→Prop):Prop:=
 match o.op with
 | .store t x y=>onPtr (r.val x) fun a=>
  match scalar P t && Nat.beq (P.cellsOf t) 1 with
  | true=>StW m a (r.val y) fun m'=>K undef m'
  | false=>StAgg P t m a (r.val y) fun m'=>K undef m'
 | .alloc t=>AllocW P t m fun b m'=>K (.pointer (some ⟨b,0,none⟩)) m'
 | .box t x=>BoxW t (r.val x) m fun b m'=>K (.pointer (some ⟨b,0,none⟩)) m'
 | .call c=>
  match c.callee with
  | .value x=>callW P F o.type (r.val x) (c.args.map r.val) m K
  | .invoke x name=>RawW P o.type (callMethod (r.val x) name (c.args.map r.val)) m K
  | .builtin b=>RawW P o.type (builtin b c.argTypes o.type (c.args.map isConstO) (c.args.map r.val)) m K
 | .panic _=>False
 | .makeSlice t l c=>RawW P o.type (sv (Instr.makeSlice t (r.val l) (r.val c))) m K
 | .mapUpdate t x k v=>RawW P o.type (su (Instr.mapUpdate t (r.val x) (r.val k) (r.val v))) m K
 | .range t x=>SemW P (sv (Instr.range t (r.val x))) m (NextW P fun v m'=>∃ a:Option Addr,v=.pointer a∧K (.pointer a) m')
 | .next it s=>SemW P (sv (Instr.next (r.val it) s o.type)) m (NextW P fun v m'=>
   (v=.tuple #[.bool false]∧K (.tuple #[.bool false]) m')∨∃ k e:Value,v=.tuple #[.bool true,k,e]∧K (.tuple #[.bool true,k,e]) m')
 | .entry it=>SemW P (sv (Instr.entry (r.val it))) m (NextW P fun v m'=>∃ (k:Int) (e:Value),v=.tuple #[.int .i64 k,e]∧K (.tuple #[.int .i64 k,e]) m')
 | .buildSlice t n ps=>RawW P o.type (sv (Instr.buildSlice t n (ps.map fun (i,x)=>(i,r.val x)))) m K
 | _=>RawW P o.type (execOp r.val o) m K
def Kept (K:Value→Mem→Prop) (w:World):Value→World→Prop:=fun v w'=>K v w'.heap∧Same w w'
theorem effS_of_semW {P:Program} {s:Sem Next} {m:Mem} {K:Value→Mem→Prop} (h:SemW P s m (NextW P K)) (w:World) (hw:w.heap=m):
  EffS P s w (Kept K w):=by
 obtain ⟨x,w',hr,hk,hs⟩:=h.sound w hw
 unfold EffS
 rw [hr]
 cases x <;> simp only [NextW] at hk ⊢ <;> first | exact hk.elim | exact ⟨hk,hs⟩ | skip
 rename_i f args
 exact (hk w' rfl).mono fun e w'' ⟨v,he,hv,hs'⟩=>⟨v,he,hv,hs.trans hs'⟩
theorem callFunc_run {P:Program} {F:List FuncId} (hF:Enters P F) {f:FuncId} (hf:memNat F f=true) (args:Array Value) (w:World):
  (callFunc f args).run P w=.ok (.enter f args) w:=by
 obtain ⟨fn,h1,h2,h3⟩:=hF f hf
 have h4: ¬ fn.body=none:=by
  intro hb; rw [hb] at h2; cases h2
 simp [callFunc,h1,h3,h4]
theorem effW_sound {P:Program} {F:List FuncId} (hF:Enters P F) {r:Env} {o:Oper} {m:Mem} {K:Value→Mem→Prop} (h:effW P F r o m K) (w:World) (hw:w.heap=m):
  EffS P (execOp r.val o) w (Kept K w):=by
 have raw:RawW P o.type (execOp r.val o) m K→EffS P (execOp r.val o) w (Kept K w):=fun h=>
  (effS_of_semW h w hw).mono fun v w' ⟨hv,hs⟩=>⟨hv.val,hs⟩
 obtain ⟨dst,op,ty,pos,es,g⟩:=o
 unfold effW at h
 split at h
 ·rename_i t x y he
  simp only at he; subst he
  obtain ⟨a,ha,h⟩:=onPtr_spec h
  split at h
  ·rename_i hsc
   simp only [Bool.and_eq_true] at hsc
   obtain ⟨hc,⟨old,ho⟩,hf,hk⟩:=h
   have h1:w.cell? a=some old:=by rw [cell?_heap,hw]; exact ho
   have h2:w.frozen? a=false:=by rw [frozen?_heap,hw]; exact hf
   have hsz:P.cellsOf t=1:=Nat.eq_of_beq_eq_true hsc.2
   have ⟨i,hi⟩:∃ i,P.info? t=some i:=by
    cases hi:P.info? t with
    | none=>simp [Program.cellsOf,hi] at hsz
    | some i=>exact ⟨i,rfl⟩
   have hcells:(r.val y).cells=#[r.val y]:=by cases hv:r.val y <;> rw [hv] at hc <;> first | rfl | simp [isCell] at hc
   have hst:(storeVar t a (r.val y)).run P w=.ok () (w.setCell a (r.val y)):=by
    have hcell:(store (a.add 0) (r.val y)).run P w=.ok () (w.setCell a (r.val y)):=by
     rw [show a.add 0=a from rfl,run_store P w a (r.val y) .plain (by cases hv:r.val y <;> rw [hv] at hc <;> first | rfl | simp [isCell] at hc)]
     simp [h1,h2]
    simp [storeVar,cellsOf_run hi,hsz,hcells,storeCells,hcell]
   unfold EffS
   have:(execOp r.val ⟨dst,.store t x y,ty,pos,es,g⟩).run P w=.ok .skip (w.setCell a (r.val y)):=by
    simp [execOp,Instr.storeAt,ha,Instr.sureAddr,hst]
   rw [this]
   exact ⟨by rw [setCell_heap,hw]; exact hk,rfl,rfl⟩
  ·obtain ⟨x',w',hr,hk,hs⟩:=SemW.sound h w hw
   unfold EffS
   have:(execOp r.val ⟨dst,.store t x y,ty,pos,es,g⟩).run P w=.ok .skip w':=by
    simp [execOp,Instr.storeAt,ha,Instr.sureAddr,hr]
   rw [this]
   exact ⟨hk,hs⟩
 ·rename_i t he
  simp only at he; subst he
  unfold AllocW at h
  split at h
  ·rename_i z hz
   unfold EffS
   have:(execOp r.val ⟨dst,.alloc t,ty,pos,es,g⟩).run P w=.ok (.value (.pointer (some ⟨m.size,0,none⟩))) { w with heap:=w.heap.push (.cells z.cells t) }:=by
    unfold zeroOf at hz
    cases hi:P.info? t with
    | none=>simp [hi] at hz
    | some i=>
     simp only [hi,Option.bind_some] at hz
     simp [execOp,Instr.alloc,zeroValue,typeInfo,hi,hz,newVar,newRow,hw]
   rw [this]
   exact ⟨by simp only [hw]; exact h,rfl,rfl⟩
  ·exact h.elim
 ·rename_i t x he
  simp only at he; subst he
  unfold EffS
  have:(execOp r.val ⟨dst,.box t x,ty,pos,es,g⟩).run P w=.ok (.value (.pointer (some ⟨m.size,0,none⟩))) { w with heap:=w.heap.push (.cells (r.val x).cells t) }:=by
   simp [execOp,Instr.box,newVar,newRow,hw]
  rw [this]
  exact ⟨by simp only [hw]; exact h,rfl,rfl⟩
 ·rename_i c he
  simp only at he; subst he
  split at h
  ·rename_i x hx
   have hval:execOp r.val ⟨dst,.call c,ty,pos,es,g⟩=callVal (r.val x) (c.args.map r.val):=by
    simp only [execOp,resolve,hx,callVal]
   unfold callW at h
   split at h
   ·rename_i f first captured hv
    split at h
    ·rename_i hf
     unfold EffS
     have:(execOp r.val ⟨dst,.call c,ty,pos,es,g⟩).run P w=.ok (.enter f (first++c.args.map r.val++captured)) w:=by
      simp only [hval,callVal,hv,Deferred.ofValue,invoke,Sem.run_bind,Sem.run_pure,Result.andThen_ok]
      exact callFunc_run hF hf _ w
     rw [this]
     exact (h w hw).mono fun e w'' ⟨v,he,hv,hs⟩=>⟨v,he,hv.val,hs⟩
    ·exact raw (by rw [hval]; exact h)
   ·rename_i name first captured hv
    exact raw (by rw [hval,hv]; exact h)
   ·exact h.elim
  ·rename_i x name hx
   refine raw ?_
   have:execOp r.val ⟨dst,.call c,ty,pos,es,g⟩=callMethod (r.val x) name (c.args.map r.val):=by
    have e1:(#[r.val x]++c.args.map r.val)[0]?=some (r.val x):=by rw [Array.getElem?_append_left (by simp)]; rfl
    have e2:(#[r.val x]++c.args.map r.val).extract 1 (#[r.val x]++c.args.map r.val).size=c.args.map r.val:=by
     apply Array.ext'
     simp [List.take_of_length_le]
    simp only [execOp,resolve,hx,invoke,pure_bind,e1,e2]
   rw [this]; exact h
  ·rename_i b hx
   refine raw ?_
   have:execOp r.val ⟨dst,.call c,ty,pos,es,g⟩=builtin b c.argTypes ty (c.args.map isConstO) (c.args.map r.val):=by
    simp only [execOp,resolve,hx,invoke,pure_bind]
    congr 1
   rw [this]; exact h
 ·exact h.elim
 ·rename_i t l c he; simp only at he; subst he; exact raw h
 ·rename_i t x k v he; simp only at he; subst he; exact raw h
 ·rename_i t x he; simp only at he; subst he
  exact (effS_of_semW h w hw).mono fun v w' ⟨⟨a,hv,hk⟩,hs⟩=>⟨by rw [hv]; exact hk,hs⟩
 ·rename_i it s he; simp only at he; subst he
  refine (effS_of_semW h w hw).mono fun v w' ⟨hk,hs⟩=>?_
  rcases hk with ⟨hv,hk⟩ | ⟨k,e,hv,hk⟩
  ·exact ⟨by rw [hv]; exact hk,hs⟩
  ·exact ⟨by rw [hv]; exact hk,hs⟩
 ·rename_i it he; simp only at he; subst he
  exact (effS_of_semW h w hw).mono fun v w' ⟨⟨k,e,hv,hk⟩,hs⟩=>⟨by rw [hv]; exact hk,hs⟩
 ·rename_i t n ps he; simp only at he; subst he; exact raw h
 ·exact raw h
def cls (P:Program) (o:Oper):Nat:=
 match o.op with
 | .move _ | .assign _ | .pick .. | .extract .. | .fieldAddr .. | .field .. | .nilCheck _ | .unOp .. | .convert .. | .makeInterface .. | .slice .. | .indexAddr ..
 | .index .. | .build .. | .typeAssert .. | .makeFunc .. =>0
 | .binOp op t _ y _=>
  match op with
  | .eql | .neq=>
   match P.underlying t,y with
   | some (.interface _),.const .nilIface=>0
   | some (.int _),_=>0
   | some .bool,_=>0
   | some (.pointer _),.const (.pointer none)=>0
   | some (.slice _),.const (.slice none 0 0)=>0
   | _,_=>1
  | _=>0
 | .load .. | .lookup .. =>1
 | .call c=>
  match c.callee with
  | .builtin .len=>
   match (c.argTypes[0]?).bind P.underlying with
   | some (.map ..)=>1
   | _=>0
  | .builtin .cap | .builtin .min | .builtin .max=>0
  | _=>2
 | _=>2
def readOneW (P:Program) (r:Env) (o:Oper) (m:Mem) (K:Addr→Value→Prop):Prop:=
 match o.op with
 | .load t x=>
  match scalar P t with
  | true=>onPtr (r.val x) fun a=>Shape P t fun v=>cell? m a=some v∧K a v
  | false=>False
 | _=>False
theorem readOneW_sound {P:Program} {r:Env} {o:Oper} {m:Mem} {K:Addr→Value→Prop} (h:readOneW P r o m K):
  ∃ a v,(∀ w:World,w.cell? a=some v→(execOp r.val o).run P w=.ok (.value v) w)∧cell? m a=some v∧K a v:=by
 obtain ⟨dst,op,ty,pos,es,g⟩:=o
 unfold readOneW at h
 split at h
 ·rename_i t x he
  simp only at he; subst he
  split at h
  ·rename_i hs
   obtain ⟨a,ha,h⟩:=onPtr_spec h
   obtain ⟨v,hv,hk⟩:=h.val
   refine ⟨a,v,fun w hw=>run_v ?_,hv,hk⟩
   simp [Instr.loadAt,ha,Instr.sureAddr,loadVar,scalar_isAgg hs,hw]
  ·exact h.elim
 ·exact h.elim
abbrev Cells:=List (Addr×Value)
def gKeep (G:Cells) (m:Mem) (X:Prop):Prop:=
 match G with
 | []=>X
 | (a,v)::G=>cell? m a=some v∧gKeep G m X
def opW (P:Program) (F:List FuncId) (c:Nat) (r:Env) (o:Oper) (G:Cells) (m:Mem) (K:Cells→Value→Mem→Prop):Prop:=
 match c with
 | 0=>pureW P r o fun v=>K G v m
 | 1=>readW P r o m fun v=>K G v m
 | 3=>readOneW P r o m fun a v=>K ((a,v)::G) v m
 | _=>effW P F r o m fun v m'=>gKeep G m' (K G v m')
def guardVal (ops:Array Oper) (r:Env) (o:Oper):Option Bool:=
 match o.guard with
 | none=>some true
 | some (j,want)=>
  match (ops[j]?).bind (·.dst) with
  | some d=>
   match r.get d with
   | some (.bool b)=>some (b == want)
   | some (.tuple _)=>some false
   | _=>none
  | none=>none
def isGuard (ops:Array Oper) (i:Nat):Bool:=
 ops.toList.any fun o=>
  match o.guard with
  | some (j,_)=>Nat.beq j i
  | none=>false
def ifB (b:Bool) (A B:Prop):Prop:=
 match b with
 | true=>A
 | false=>B
theorem ifB_of {b:Bool} {A B:Prop} (h1:b=true→A) (h2:b=false→B):ifB b A B:=by
 cases b
 ·exact h2 rfl
 ·exact h1 rfl
def splitB (sp:Bool) (v:Value) (K:Value→Prop):Prop:=
 match sp with
 | false=>K v
 | true=>
  match v with
  | .bool b=>ifB b (K (.bool true)) (K (.bool false))
  | _=>False
theorem splitB_spec {sp:Bool} {v:Value} {K:Value→Prop} (h:splitB sp v K):K v:=by
 unfold splitB at h
 split at h
 ·exact h
 ·split at h
  ·rename_i b
   cases b
   ·exact h
   ·exact h
  ·exact h.elim
def fits (n:Nat) (r:Env) (o:Oper):Bool:=
 match inB n o.dst with
 | true=>
  match r.hasAll o.op.operands.toList with
  | true=> !isSelect o.op
  | false=>false
 | false=>false
def beside (P:Program) (ops:Array Oper) (M:Array Nat) (i:Nat):Bool:=
 match ops[i]? with
 | some o=>
  match cls P o with
  | 1=>(List.range ops.size).any fun j=>
    match ops[j]? with
    | some x=>
     match cls P x with
     | 2=> !(M.getD i 0).testBit j && !(M.getD j 0).testBit i
     | _=>false
    | none=>false
  | _=>false
 | none=>false
def clsIn (P:Program) (S:List Nat) (i:Nat) (o:Oper):Nat:=
 match memNat S i with
 | true=>3
 | false=>cls P o
def plan (P:Program) (ops:Array Oper):List Nat×List Nat:=
 let M:=masks ops
 let S:=(List.range ops.size).filter (beside P ops M)
 let early:=(List.range ops.size).filter fun i=>S.any fun s=>Nat.beq s i || (M.getD s 0).testBit i
 (S,early++(List.range ops.size).filter fun i=> !memNat early i)
def opsW (P:Program) (F:List FuncId) (n:Nat) (S:List Nat) (ops:Array Oper) (K:Env→Mem→Prop):List Nat→Cells→Env→Mem→Prop
 | [],_,r,m=>K r m
 | i::rest,G,r,m=>
  match ops[i]? with
  | none=>False
  | some o=>
   match guardVal ops r o with
   | some true=>
    match fits n r o with
    | true=>opW P F (clsIn P S i o) r o G m fun G v m'=>splitB (isGuard ops i) v fun v=>opsW P F n S ops K rest G (r.put o.dst v) m'
    | false=>False
   | some false=>
    match inB n o.dst with
    | true=>opsW P F n S ops K rest G (r.put o.dst undef) m
    | false=>False
   | none=>False
theorem wanted_of_guardVal {ops:Array Oper} {n:Nat} {r:Env} {o:Oper} {a:Act} (ha:Agrees n r a) {b:Bool} (h:guardVal ops r o=some b):
  Region.wanted o (yielded ops a.tmps)=b:=by
 unfold guardVal at h
 unfold Region.wanted
 split at h
 ·rename_i hg; simp only [hg]; simpa using h
 ·rename_i j want hg
  simp only [hg]
  split at h
  ·rename_i d hd
   split at h
   ·rename_i c hc
    simp only [Option.some.injEq] at h
    subst h
    have:yielded ops a.tmps j=some c:=by
     unfold yielded
     rw [hd]
     simp [ha.2.2 d _ hc]
    rw [this]
    cases c <;> cases want <;> rfl
   ·rename_i vs hc
    simp only [Option.some.injEq] at h
    subst h
    have:yielded ops a.tmps j=none:=by
     unfold yielded
     rw [hd]
     simp [ha.2.2 d _ hc]
    rw [this]
    cases want <;> rfl
   ·cases h
  ·cases h
def Agree (G:Cells) (H:Held):Prop:=∀ a v,H a v→(a,v) ∈ G
theorem gKeep_spec {G:Cells} {m:Mem} {X:Prop} (h:gKeep G m X):(∀ p ∈ G,cell? m p.1=some p.2)∧X:=by
 induction G with
 | nil=>exact ⟨fun p hp=>(by cases hp),h⟩
 | cons q G ih=>
  obtain ⟨h1,h2⟩:=ih h.2
  refine ⟨fun p hp=>?_,h2⟩
  cases hp with
  | head=>exact h.1
  | tail _ hp=>exact h1 p hp
theorem opsW_sound {P:Program} {F:List FuncId} (hF:Enters P F) {n:Nat} {S:List Nat} {ops:Array Oper} {K:Env→Mem→Prop}:∀ {l:List Nat} {G:Cells} {r:Env} {m:Mem},opsW P F n S ops K l G r m→
  ∀ (H:Held) (a:Act) (w:World),Agree G H→Agrees n r a→w.heap=m→RunS P ops (clsIn P S) (fun a' w'=>∃ r',Agrees n r' a'∧K r' w'.heap∧Same w w') l H a w
 | [],G,r,m,h,H,a,w,hG,ha,hw=>⟨r,ha,by rw [hw]; exact h,.refl w⟩
 | i::rest,G,r,m,h,H,a,w,hG,ha,hw=>by
  simp only [opsW] at h
  simp only [RunS]
  split at h
  ·exact h.elim
  ·rename_i o ho
   simp only [ho]
   unfold StepS
   split at h
   ·rename_i hg
    rw [wanted_of_guardVal ha hg]
    simp only
    split at h
    ·rename_i hfit
     unfold fits at hfit
     split at hfit
     ·rename_i hd
      split at hfit
      ·rename_i hall
       have hsel:isSelect o.op=false:=by simpa using hfit
       have hex:execOp a.eval o=execOp r.val o:=
        execOp_congr o (isSelect_spec hsel) fun x hx=>ha.eval (Env.hasAll_mem hall x (by simpa using hx))
       rw [hex]
       unfold opW at h
       have fin:∀ (G:Cells) (H:Held) (v:Value) (m':Mem) (w':World),Agree G H→w'.heap=m'→Same w w'→
         (splitB (isGuard ops i) v fun v=>opsW P F n S ops K rest G (r.put o.dst v) m')→
         RunS P ops (clsIn P S) (fun a' w'=>∃ r',Agrees n r' a'∧K r' w'.heap∧Same w w') rest H (a.put o.dst v) w':=by
        intro G H v m' w' hG hw' hs hk
        have:=opsW_sound hF (splitB_spec hk) H (a.put o.dst v) w' hG (ha.put o.dst v hd) hw'
        exact this.mono fun a'' w'' ⟨r',h1,h2,h3⟩=>⟨r',h1,h2,hs.trans h3⟩
       split at h
       ·rename_i hc
        simp only [hc]
        obtain ⟨v,hv,hk⟩:=pureW_sound h
        exact ⟨v,hv,fin G H v m w hG hw (.refl w) hk⟩
       ·rename_i hc
        simp only [hc]
        obtain ⟨v,hv,hk⟩:=readW_sound h
        exact ⟨v,fun w' hw'=>hv w' (by rw [hw',hw]),fin G H v m w hG hw (.refl w) hk⟩
       ·rename_i hc
        simp only [hc]
        obtain ⟨ad,v,hv,hc',hk⟩:=readOneW_sound h
        refine ⟨ad,v,hv,by rw [cell?_heap,hw]; exact hc',fin ((ad,v)::G) (H.add ad v) v m w ?_ hw (.refl w) hk⟩
        rintro b u (⟨rfl,rfl⟩ | hb)
        ·exact List.mem_cons_self ..
        ·exact List.mem_cons_of_mem _ (hG _ _ hb)
       ·rename_i hc0 hc1 hc3
        split
        ·rename_i hc; exact absurd hc hc0
        ·rename_i hc; exact absurd hc hc1
        ·rename_i hc; exact absurd hc hc3
        ·refine (effW_sound hF h w hw).mono fun v w' ⟨hk,hs⟩=>?_
         obtain ⟨hkeep,hk⟩:=gKeep_spec hk
         exact ⟨fun b u hb=>hkeep (b,u) (hG b u hb),fin G H v w'.heap w' hG rfl hs hk⟩
      ·cases hfit
     ·cases hfit
    ·exact h.elim
   ·rename_i hg
    rw [wanted_of_guardVal ha hg]
    simp only
    split at h
    ·rename_i hd
     exact opsW_sound hF h H (a.put o.dst undef) w hG (ha.put o.dst undef hd) hw
    ·exact h.elim
   ·exact h.elim
structure Kont where
 kn:Env→Mem→Prop
 kx:Nat→Env→Mem→Prop
 kr:Env→Mem→Prop
 kg:Nat→Env→Mem→Prop
def Kont.withN (K:Kont) (f:Env→Mem→Prop):Kont:={ K with kn:=f }
def Kont.withX (K:Kont) (id:Nat):Kont:={ K with kx:=fun id' r m=>match Nat.beq id' id with | true=>K.kn r m | false=>K.kx id' r m }
def Lift (n:Nat) (K:Kont) (w₀:World):Exit→Act→World→Prop
 | .normal,a,w=>∃ r,Agrees n r a∧K.kn r w.heap∧Same w₀ w
 | .exit id,a,w=>∃ r,Agrees n r a∧K.kx id r w.heap∧Same w₀ w
 | .ret,a,w=>∃ r,Agrees n r a∧K.kr r w.heap∧Same w₀ w
 | .goto l,a,w=>∃ r,Agrees n r a∧K.kg l r w.heap∧Same w₀ w
 | _,_,_=>False
def WPS (P:Program) (n:Nat) (c:Code) (K:Kont) (r:Env) (m:Mem):Prop:=
 ∀ (a:Act) (w:World),Agrees n r a→w.heap=m→c.wp P (Lift n K w) a w
theorem Lift.same {n:Nat} {K:Kont} {w₀ w₁:World} (h:Same w₀ w₁) {e:Exit} {a:Act} {w:World} (hl:Lift n K w₁ e a w):Lift n K w₀ e a w:=by
 cases e <;> first | exact hl.elim | (obtain ⟨r,h1,h2,h3⟩:=hl; exact ⟨r,h1,h2,h.trans h3⟩)
def dropC (c:Operand) (r:Env):Env:=
 match c with
 | .tmp t=>Env.del t r
 | _=>r
def condW (r:Env) (c:Operand) (kt kf:Env→Prop):Prop:=
 match r.has c with
 | true=>
  match r.val c with
  | .bool b=>ifB b (kt (dropC c r)) (kf (dropC c r))
  | _=>False
 | false=>False
def lft:Code→Code
 | .seq a _=>a
 | .cond _ a _=>a
 | .block _ c=>c
 | .loop c=>c
 | .scope c=>c
 | c=>c
def rgt:Code→Code
 | .seq _ b=>b
 | .cond _ _ b=>b
 | c=>c
def exits (id:Nat):Code→Nat
 | .exit i=>match Nat.beq i id with | true=>1 | false=>0
 | .seq a b=>exits id a+exits id b
 | .cond _ a b=>exits id a+exits id b
 | .block _ c=>exits id c
 | .loop c=>exits id c
 | .scope c=>exits id c
 | _=>0
def falls:Code→Nat
 | .skip=>1
 | .label _=>1
 | .region .. =>1
 | .seq a b=>match falls a with | 0=>0 | _=>falls b
 | .cond _ a b=>falls a+falls b
 | .block id c=>falls c+exits id c
 | .scope _=>2
 | .loop _=>2
 | _=>0
def wpc (P:Program) (F:List FuncId) (n:Nat) (L:List Nat):Code→Kont→Env→Mem→Prop
 | .skip,K,r,m=>K.kn r m
 | .label _,K,r,m=>K.kn r m
 | .region _ ops draw,K,r,m=>
  match draw with
  | false=>opsW P F n [] ops (fun r m=>K.kn (Env.keep L r) m) (List.range ops.size) [] r m
  | true=>
   match drawOk ops (clsIn P []) (List.range ops.size) with
   | true=>opsW P F n [] ops (fun r m=>K.kn (Env.keep L r) m) (List.range ops.size) [] r m
   | false=>
    match drawOk ops (clsIn P (plan P ops).1) (plan P ops).2 with
    | true=>opsW P F n (plan P ops).1 ops (fun r m=>K.kn (Env.keep L r) m) (plan P ops).2 [] r m
    | false=>False
 | .seq a b,K,r,m=>
  match Nat.ble (falls a) 1 with
  | true=>wpc P F n L a (K.withN fun r m=>wpc P F n L b K r m) r m
  | false=>wpc P F n L a (K.withN fun r m=>WPS P n b K r m) r m
 | .cond c a b,K,r,m=>condW r c (fun r=>wpc P F n L a K r m) (fun r=>wpc P F n L b K r m)
 | .block id c,K,r,m=>wpc P F n L c (K.withX id) r m
 | .exit id,K,r,m=>K.kx id r m
 | .goto l,K,r,m=>K.kg l r m
 | .ret,K,r,m=>K.kr r m
 | .loop c,K,r,m=>WPS P n (.loop c) K r m
 | .scope c,K,r,m=>WPS P n (.scope c) K r m
 | _,_,_,_=>False
theorem wpc_sound {P:Program} {F:List FuncId} (hF:Enters P F) (hm:P.follows .mixedOrders=true) {n:Nat} {L:List Nat}:∀ {c:Code} {K:Kont} {r:Env} {m:Mem},
  wpc P F n L c K r m→WPS P n c K r m:=by
 intro c
 induction c with
 | skip=>intro K r m h a w ha hw; exact wp_skip ⟨r,ha,by rw [hw]; exact h,.refl w⟩
 | label l=>intro K r m h a w ha hw; exact wp_label ⟨r,ha,by rw [hw]; exact h,.refl w⟩
 | region id ops draw=>
  intro K r m h a w ha hw
  simp only [wpc] at h
  have none:Agree [] Held.no:=fun _ _ h=>h.elim
  split at h
  ·have:=opsW_sound hF h .no a w none ha hw
   exact wp_region_runS (fun a' w' ⟨r',h1,h2,h3⟩=>⟨_,h1.keep L,h2,h3⟩) this
  ·split at h
   ·rename_i hok
    have:=opsW_sound hF h .no a { w with drawn:=w.drawn+1 } none ha hw
    exact wp_region_draw_runS hm hok (fun a' w' ⟨r',h1,h2,h3⟩=>⟨_,h1.keep L,h2,h3⟩) this
   ·split at h
    ·rename_i hok
     have:=opsW_sound hF h .no a { w with drawn:=w.drawn+1 } none ha hw
     exact wp_region_draw_runS hm hok (fun a' w' ⟨r',h1,h2,h3⟩=>⟨_,h1.keep L,h2,h3⟩) this
    ·exact h.elim
 | seq x y ihx ihy=>
  intro K r m h a w ha hw
  simp only [wpc] at h
  split at h
  ·refine wp_seq (wp_mono (ihx h a w ha hw) fun e a' w' hl=>?_)
   cases e with
   | normal=>
    obtain ⟨r',h1,h2,h3⟩:=hl
    exact wp_mono (ihy h2 a' w' h1 rfl) fun e a'' w'' hl'=>hl'.same h3
   | _=>exact hl
  ·refine wp_seq (wp_mono (ihx h a w ha hw) fun e a' w' hl=>?_)
   cases e with
   | normal=>
    obtain ⟨r',h1,h2,h3⟩:=hl
    exact wp_mono (h2 a' w' h1 rfl) fun e a'' w'' hl'=>hl'.same h3
   | _=>exact hl
 | cond c x y ihx ihy=>
  intro K r m h a w ha hw
  simp only [wpc,condW] at h
  split at h
  ·rename_i hc
   split at h
   ·rename_i b hb
    have hev:a.eval c=.bool b:=by rw [ha.eval hc,hb]
    have ha':Agrees n (dropC c r) a:=by
     cases c <;> first | exact ha.del _ | exact ha
    refine wp_cond_split hev (fun hb=>ihx ?_ a w ha' hw) (fun hb=>ihy ?_ a w ha' hw)
    ·subst hb; exact h
    ·subst hb; exact h
   ·exact h.elim
  ·exact h.elim
 | block id c ih=>
  intro K r m h a w ha hw
  refine wp_block (wp_mono (ih h a w ha hw) fun e a' w' hl=>?_)
  cases e with
  | exit id'=>
   obtain ⟨r',h1,h2,h3⟩:=hl
   simp only [Kont.withX] at h2
   simp only [Exit.inBlock]
   split
   ·subst_vars
    simp only [Nat.beq_refl] at h2
    exact ⟨r',h1,h2,h3⟩
   ·rename_i hne
    have:Nat.beq id' id=false:=by
     cases hb:Nat.beq id' id with
     | true=>exact absurd (Nat.eq_of_beq_eq_true hb) hne
     | false=>rfl
    simp only [this] at h2
    exact ⟨r',h1,h2,h3⟩
  | _=>exact hl
 | loop c ih=>intro K r m h; exact h
 | scope c ih=>intro K r m h; exact h
 | exit id=>intro K r m h a w ha hw; exact wp_exit ⟨r,ha,by rw [hw]; exact h,.refl w⟩
 | goto l=>intro K r m h a w ha hw; exact wp_goto ⟨r,ha,by rw [hw]; exact h,.refl w⟩
 | ret=>intro K r m h a w ha hw; exact wp_ret ⟨r,ha,by rw [hw]; exact h,.refl w⟩
 | rangeFunc f ps x y=>intro K r m h; exact h.elim
 | refuse why=>intro K r m h; exact h.elim
theorem WPS.mono {P:Program} {n:Nat} {c:Code} {K K':Kont} {r:Env} {m:Mem} (h:WPS P n c K r m)
  (hn:∀ r m,K.kn r m→K'.kn r m) (hx:∀ i r m,K.kx i r m→K'.kx i r m) (hr:∀ r m,K.kr r m→K'.kr r m) (hg:∀ l r m,K.kg l r m→K'.kg l r m):
  WPS P n c K' r m:=fun a w ha hw=>wp_mono (h a w ha hw) fun e a' w' hl=>by
 cases e <;> first | exact hl.elim | skip
 all_goals obtain ⟨r',h1,h2,h3⟩:=hl
 ·exact ⟨r',h1,hn _ _ h2,h3⟩
 ·exact ⟨r',h1,hx _ _ _ h2,h3⟩
 ·exact ⟨r',h1,hg _ _ _ h2,h3⟩
 ·exact ⟨r',h1,hr _ _ h2,h3⟩
theorem WPS.keep {P:Program} {n:Nat} {c:Code} {K:Kont} {r:Env} {m:Mem} (L:List Nat) (h:WPS P n c K (Env.keep L r) m):WPS P n c K r m:=
 fun a w ha hw=>h a w (ha.keep L) hw
theorem loopW {P:Program} {F:List FuncId} (hF:Enters P F) (hm:P.follows .mixedOrders=true) {n:Nat} {L₀:List Nat} {c:Code} {K:Kont} {σ:Type} (L:List Nat) (I:σ→Env) (M:σ→Mem→Prop) (μ:σ→Nat)
  {r:Env} {m:Mem} (s₀:σ) (hr:Env.keep L r=I s₀) (h₀:M s₀ m)
  (body:∀ s m,M s m→wpc P F n L₀ c (K.withN fun r m=>∃ s',Env.keep L r=I s'∧M s' m∧μ s' < μ s) (I s) m):
  WPS P n (.loop c) K r m:=by
 refine WPS.keep L ?_
 rw [hr]
 clear hr r
 intro a w ha hw b k cs
 have key:∀ (j:Nat) (s:σ) (a:Act) (w:World),μ s=j→Agrees n (I s) a→M s w.heap→
   ∃ e a' w',Lift n K w e a' w'∧Arrives P (lone (b.at a (.code c::.inLoop c::k)) cs w) b k cs e a' w':=by
  intro j
  induction j using Nat.strongRecOn with
  | _ j ih=>
   intro s a w hj ha hM
   obtain ⟨e,a₁,w₁,hq,harr⟩:=wpc_sound hF hm (body s w.heap hM) a w ha rfl b (.inLoop c::k) cs
   cases e with
   | normal=>
    obtain ⟨r',h1,⟨s',h2,h3,h4⟩,h5⟩:=hq
    have ha':Agrees n (I s') a₁:=by rw [← h2]; exact h1.keep L
    obtain ⟨e₂,a₂,w₂,hq₂,harr₂⟩:=ih (μ s') (hj ▸ h4) s' a₁ w₁ rfl ha' h3
    exact ⟨e₂,a₂,w₂,hq₂.same h5,.of_steps (Steps.trans harr (.one step_inLoop)) harr₂⟩
   | exit id=>exact ⟨.exit id,a₁,w₁,hq,.pass (x:=.inLoop c) rfl (fun _ _=>.inl (by simp)) harr⟩
   | goto l=>exact ⟨.goto l,a₁,w₁,hq,.pass (x:=.inLoop c) rfl (fun _ _=>.inl (by simp)) harr⟩
   | ret=>exact ⟨.ret,a₁,w₁,hq,.pass (x:=.inLoop c) rfl (fun _ _=>.inl (by simp)) harr⟩
   | panic ch=>exact hq.elim
   | outgrown=>exact hq.elim
 obtain ⟨e,a',w',hq,harr⟩:=key _ s₀ a w rfl ha (by rw [hw]; exact h₀)
 exact ⟨e,a',w',hq,.of_steps (.one step_loop) harr⟩
def resW (P:Program):List ResultVar→List Value→Env→Mem→(Value→Mem→Prop)→Prop
 | [],acc,_,m,K=>
  match acc with
  | [v]=>K v m
  | vs=>K (.tuple vs.toArray) m
 | .tmp t::rs,acc,r,m,K=>
  match r.get t with
  | some v=>resW P rs (acc++[v]) r m K
  | none=>False
 | .cell a t::rs,acc,r,m,K=>
  match r.get a with
  | some v=>onPtr v fun ad=>LdW P t m ad fun v=>resW P rs (acc++[v]) r m K
  | none=>False
def resOne (tmps:Array Value):ResultVar→Sem Value
 | .tmp t=>pure (tmps.getD t undef)
 | .cell a t=>do loadVar t (← asAddr (tmps.getD a undef))
theorem resW_mapM {P:Program} {n:Nat} {r:Env} {a:Act} (ha:Agrees n r a) {K:Value→Mem→Prop} {w:World}:∀ {rs:List ResultVar} {acc:List Value},
  resW P rs acc r w.heap K→∃ vs,(rs.mapM (resOne a.tmps)).run P w=.ok vs w∧
   (match acc++vs with | [v]=>K v w.heap | vs=>K (.tuple vs.toArray) w.heap)
 | [],acc,h=>⟨[],by simp,by simpa [resW] using h⟩
 | .tmp t::rs,acc,h=>by
  simp only [resW] at h
  split at h
  ·rename_i v hv
   obtain ⟨vs,h1,h2⟩:=resW_mapM ha h
   refine ⟨v::vs,?_,by simpa using h2⟩
   have:a.tmps.getD t undef=v:=by simp [Array.getD_eq_getD_getElem?,ha.2.2 t v hv]
   simp [List.mapM_cons,resOne,this,h1]
  ·exact h.elim
 | .cell c t::rs,acc,h=>by
  simp only [resW] at h
  split at h
  ·rename_i v hv
   obtain ⟨ad,rfl,h⟩:=onPtr_spec h
   obtain ⟨u,hu,h⟩:=h.sound
   obtain ⟨vs,h1,h2⟩:=resW_mapM ha h
   refine ⟨u::vs,?_,by simpa using h2⟩
   have:a.tmps.getD c undef=.pointer (some ad):=by simp [Array.getD_eq_getD_getElem?,ha.2.2 c _ hv]
   simp [List.mapM_cons,resOne,this,asAddr,hu w rfl,h1]
  ·exact h.elim
theorem resW_sound {P:Program} {n:Nat} {r:Env} {a:Act} (ha:Agrees n r a) {fn:Func} {K:Value→Mem→Prop} {w:World}
  (h:resW P fn.results.toList [] r w.heap K):∃ v,(results fn a.tmps).run P w=.ok v w∧K v w.heap:=by
 obtain ⟨vs,h1,h2⟩:=resW_mapM ha h
 have hm:(fn.results.mapM (resOne a.tmps)).run P w=.ok vs.toArray w:=by
  rw [Array.mapM_eq_mapM_toList]
  simp [h1]
 have hr:(results fn a.tmps).run P w=.ok (if h:vs.toArray.size=1 then vs.toArray[0] else .tuple vs.toArray) w:=by
  have:results fn a.tmps=(do let vs ← fn.results.mapM (resOne a.tmps); pure (if h:vs.size=1 then vs[0] else .tuple vs)):=by
   unfold results
   congr 1
  rw [this,Sem.run_bind,hm]; rfl
 refine ⟨_,hr,?_⟩
 simp only [List.nil_append] at h2
 match vs,h2 with
 | [],h2=>exact h2
 | [v],h2=>exact h2
 | _::_::_,h2=>exact h2
def argEnv:List Value→Nat→Env
 | [],_=>[]
 | v::vs,i=>(i,v)::argEnv vs (i+1)
theorem argEnv_get:∀ (vs:List Value) (i k:Nat) (v:Value),(argEnv vs i).get k=some v→i≤k∧vs[k - i]?=some v
 | [],i,k,v,h=>by simp [argEnv,Env.get] at h
 | u::vs,i,k,v,h=>by
  simp only [argEnv,Env.get] at h
  split at h
  ·subst_vars; simpa using h
  ·have:=argEnv_get vs (i+1) k v h
   refine ⟨by omega,?_⟩
   rw [show k - i=(k - (i+1))+1 from by omega,List.getElem?_cons_succ]
   exact this.2
def retK (P:Program) (rs:List ResultVar) (R:Value→Mem→Prop):Kont where
 kn:=fun r m=>resW P rs [] r m R
 kx:=fun _ _ _=>False
 kr:=fun r m=>resW P rs [] r m R
 kg:=fun _ _ _=>False
theorem callM_enter {P:Program} {F:List FuncId} (hF:Enters P F) (hm:P.follows .mixedOrders=true) {f:FuncId} {fn:Func} {c:Code} {args:Array Value} {m:Mem} {R:Value→Mem→Prop}
  (n:Nat) (L:List Nat) (hf:P.funcs[f]?=some fn) (hb:fn.body=some c) (hn:fn.ntmps=n) (ha:args.size≤n)
  (h:wpc P F n L c (retK P fn.results.toList R) (argEnv args.toList 0) m):CallM P f args m R:=by
 intro w hw
 refine calls_of_wp hf hb ?_
 subst hn
 have hag:Agrees fn.ntmps (argEnv args.toList 0) { tmps:=args++Array.replicate (fn.ntmps - args.size) undef,defers:=[] }:=by
  refine ⟨by simp; omega,rfl,fun i v hv=>?_⟩
  have:=(argEnv_get _ _ _ _ hv).2
  simp only [Nat.sub_zero,Array.getElem?_toList] at this
  have hlt:i < args.size:=(Array.getElem?_eq_some_iff.1 this).1
  rw [Array.getElem?_append_left hlt]
  exact this
 refine wp_mono (wpc_sound hF hm h _ w hag hw) fun e a' w' hl=>?_
 have fin:(∃ r,Agrees fn.ntmps r a'∧resW P fn.results.toList [] r w'.heap R∧Same w w')→
   a'.defers=[]∧∃ v,(results fn a'.tmps).run P w'=.ok v w'∧∃ v',Ending.returned v=.returned v'∧R v' w'.heap∧Same w w':=by
  rintro ⟨r,h1,h2,h3⟩
  obtain ⟨v,hv,hr⟩:=resW_sound h1 h2
  exact ⟨h1.2.1,v,hv,v,rfl,hr,h3⟩
 cases e with
 | normal=>exact fin hl
 | ret=>exact fin hl
 | exit id=>obtain ⟨_,_,h,_⟩:=hl; exact h.elim
 | goto l=>obtain ⟨_,_,h,_⟩:=hl; exact h.elim
 | panic c=>exact hl.elim
 | outgrown=>exact hl.elim
end Go.M
