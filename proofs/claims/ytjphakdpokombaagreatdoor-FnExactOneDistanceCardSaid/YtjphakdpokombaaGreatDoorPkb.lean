/- A region whose order is open: what its operations do in the order of the text, they do in every order that its edges allow, if each pair that no edge orders is of operations that do not touch one another. -/
import Derived.Orders
import Derived.Test.YtjphakdpokombaaGreatDoorPka
namespace Go.M
open Go
def EffS (P:Program) (s:Sem Next) (w:World) (K:Value→World→Prop):Prop:=
 match s.run P w with
 | .ok (.value v) w'=>K v w'
 | .ok .skip w'=>K undef w'
 | .ok (.enter f args) w'=>Calls P f args w' fun e w''=>∃ v,e=.returned v∧K v w''
 | _=>False
theorem EffS.mono {P:Program} {s:Sem Next} {w:World} {K K':Value→World→Prop} (h:EffS P s w K) (hk:∀ v w',K v w'→K' v w'):
  EffS P s w K':=by
 unfold EffS at *
 generalize s.run P w=r at *
 cases r with
 | ok n w'=>
  cases n <;> simp only at h ⊢
  case value v=>exact hk _ _ h
  case skip=>exact hk _ _ h
  case enter f args=>exact h.mono fun e w'' ⟨v,he,hv⟩=>⟨v,he,hk _ _ hv⟩
 | halt x w'=>simp only at h
theorem EffS.ext {P:Program} {s:Sem Next} {w:World} {K:Value→World→Prop} {X:Prop} (h:EffS P s w K) (hk:∀ v w',K v w'→X):X:=by
 unfold EffS at *
 generalize s.run P w=r at *
 cases r with
 | ok n w'=>
  cases n <;> simp only at h
  case value v=>exact hk _ _ h
  case skip=>exact hk _ _ h
  case enter f args=>
   obtain ⟨e,w'',fr,⟨v,_,hv⟩,_⟩:=h []
   exact hk _ _ hv
 | halt x w'=>simp only at h
abbrev Held:=Addr→Value→Prop
def Held.add (G:Held) (a:Addr) (v:Value):Held:=fun b u=>(b=a∧u=v)∨G b u
theorem Held.add_comm (G:Held) (a b:Addr) (v u:Value):(G.add a v).add b u=(G.add b u).add a v:=by
 funext x y
 apply propext
 unfold Held.add
 constructor
 ·rintro (h | h | h)
  ·exact .inr (.inl h)
  ·exact .inl h
  ·exact .inr (.inr h)
 ·rintro (h | h | h)
  ·exact .inr (.inl h)
  ·exact .inl h
  ·exact .inr (.inr h)
def Held.In (G:Held) (w:World):Prop:=∀ a v,G a v→w.cell? a=some v
def StepS (P:Program) (ops:Array Oper) (c:Nat) (o:Oper) (K:Held→Act→World→Prop) (G:Held) (a:Act) (w:World):Prop:=
 match Region.wanted o (yielded ops a.tmps) with
 | true=>
  match c with
  | 0=>∃ v,(∀ w',(execOp a.eval o).run P w'=.ok (.value v) w')∧K G (a.put o.dst v) w
  | 1=>∃ v,(∀ w',w'.heap=w.heap→(execOp a.eval o).run P w'=.ok (.value v) w')∧K G (a.put o.dst v) w
  | 3=>∃ ad v,(∀ w',w'.cell? ad=some v→(execOp a.eval o).run P w'=.ok (.value v) w')∧w.cell? ad=some v∧K (G.add ad v) (a.put o.dst v) w
  | _=>EffS P (execOp a.eval o) w fun v w'=>G.In w'∧K G (a.put o.dst v) w'
 | false=>K G (a.put o.dst undef) w
theorem StepS.mono {P:Program} {ops:Array Oper} {c:Nat} {o:Oper} {K K':Held→Act→World→Prop} {G:Held} {a:Act} {w:World} (h:StepS P ops c o K G a w)
  (hk:∀ G a w,K G a w→K' G a w):StepS P ops c o K' G a w:=by
 unfold StepS at *
 split at h
 ·split at h
  ·obtain ⟨v,h1,h2⟩:=h; exact ⟨v,h1,hk _ _ _ h2⟩
  ·obtain ⟨v,h1,h2⟩:=h; exact ⟨v,h1,hk _ _ _ h2⟩
  ·obtain ⟨ad,v,h1,h2,h3⟩:=h; exact ⟨ad,v,h1,h2,hk _ _ _ h3⟩
  ·exact h.mono fun v w' ⟨h1,h2⟩=>⟨h1,hk _ _ _ h2⟩
 ·exact hk _ _ _ h
theorem StepS.wp {P:Program} {ops:Array Oper} {c:Nat} {o:Oper} {K:Held→Act→World→Prop} {Q:Exit→Act→World→Prop} {G:Held} {a:Act} {w:World}
  {i:Nat} (hi:ops[i]?=some o) (h:StepS P ops c o K G a w):wpOp P ops Q i (fun a w=>∃ G,K G a w) a w:=by
 unfold wpOp
 simp only [hi]
 unfold StepS at h
 split at h
 ·rename_i hw
  simp only [hw,if_true]
  refine .inl ?_
  unfold Oper.wp
  split at h
  ·obtain ⟨v,h1,h2⟩:=h; rw [h1]; exact ⟨_,h2⟩
  ·obtain ⟨v,h1,h2⟩:=h; rw [h1 w rfl]; exact ⟨_,h2⟩
  ·obtain ⟨ad,v,h1,h2,h3⟩:=h; rw [h1 w h2]; exact ⟨_,h3⟩
  ·unfold EffS at h
   generalize (execOp a.eval o).run P w=r at *
   cases r with
   | ok n w'=>
    cases n <;> simp only at h
    case value v=>exact ⟨_,h.2⟩
    case skip=>exact ⟨_,h.2⟩
    case enter f args=>
     refine Calls.mono h fun e w'' ⟨v,he,hv⟩=>?_
     subst he; exact ⟨_,hv.2⟩
   | halt x w'=>simp only at h
 ·rename_i hw
  simp only [hw]
  exact ⟨_,h⟩
def isSelect:Op→Bool
 | .select .. =>true
 | _=>false
theorem isSelect_spec {o:Oper} (h:isSelect o.op=false) (cs:Array SelectCase) (b:Bool):o.op≠.select cs b:=by
 intro he; rw [he] at h; cases h
def clsOk (c d:Nat):Bool:=
 match c,d with
 | 0,_=>true
 | _,0=>true
 | 1,1=>true
 | 1,3=>true
 | 3,1=>true
 | 3,_=>true
 | _,_=>false
theorem StepS.swap {P:Program} {ops:Array Oper} {c d:Nat} {x y:Oper} (hap:x.apart ops y=true) (hc:clsOk c d=true)
  (hx:isSelect x.op=false) (hy:isSelect y.op=false) {K:Held→Act→World→Prop} {G:Held} {a:Act} {w:World}
  (h:StepS P ops c x (StepS P ops d y K) G a w):StepS P ops d y (StepS P ops c x K) G a w:=by
 obtain ⟨h1,h2,h3⟩:=Oper.apart_spec hap
 have ey:∀ v,execOp (a.put x.dst v).eval y=execOp a.eval y:=fun v=>execOp_put y (isSelect_spec hy) a x.dst v h1
 have wy:∀ v,Region.wanted y (yielded ops (a.put x.dst v).tmps)=Region.wanted y (yielded ops a.tmps):=fun v=>wanted_put y a x.dst v h1
 have ex:∀ v,execOp (a.put y.dst v).eval x=execOp a.eval x:=fun v=>execOp_put x (isSelect_spec hx) a y.dst v h3
 have wx:∀ v,Region.wanted x (yielded ops (a.put y.dst v).tmps)=Region.wanted x (yielded ops a.tmps):=fun v=>wanted_put x a y.dst v h3
 have pc:∀ v u,(a.put x.dst v).put y.dst u=(a.put y.dst u).put x.dst v:=fun v u=>Act.put_comm a v u h2
 unfold StepS at *
 simp only [ey,wy,ex,wx,pc] at *
 cases hwx:Region.wanted x (yielded ops a.tmps) with
 | false=>
  simp only [hwx] at h ⊢
  exact h
 | true=>
  simp only [hwx] at h ⊢
  cases hwy:Region.wanted y (yielded ops a.tmps) with
  | false=>
   simp only [hwy] at h ⊢
   exact h
  | true=>
   simp only [hwy] at h ⊢
   match c,d,hc with
   | 0,0,_=>obtain ⟨v,hv,u,hu,hk⟩:=h; exact ⟨u,hu,v,hv,hk⟩
   | 0,1,_=>obtain ⟨v,hv,u,hu,hk⟩:=h; exact ⟨u,hu,v,hv,hk⟩
   | 0,3,_=>obtain ⟨v,hv,ad,u,hu,hc,hk⟩:=h; exact ⟨ad,u,hu,hc,v,hv,hk⟩
   | 0,2,_=>obtain ⟨v,hv,hk⟩:=h; exact hk.mono fun u w' ⟨hg,hu⟩=>⟨hg,v,hv,hu⟩
   | 0,d+4,_=>obtain ⟨v,hv,hk⟩:=h; exact hk.mono fun u w' ⟨hg,hu⟩=>⟨hg,v,hv,hu⟩
   | 1,0,_=>obtain ⟨v,hv,u,hu,hk⟩:=h; exact ⟨u,hu,v,hv,hk⟩
   | 1,1,_=>obtain ⟨v,hv,u,hu,hk⟩:=h; exact ⟨u,hu,v,hv,hk⟩
   | 1,3,_=>obtain ⟨v,hv,ad,u,hu,hc,hk⟩:=h; exact ⟨ad,u,hu,hc,v,hv,hk⟩
   | 3,0,_=>obtain ⟨ad,u,hu,hc,v,hv,hk⟩:=h; exact ⟨v,hv,ad,u,hu,hc,hk⟩
   | 3,1,_=>obtain ⟨ad,u,hu,hc,v,hv,hk⟩:=h; exact ⟨v,hv,ad,u,hu,hc,hk⟩
   | 3,3,_=>obtain ⟨ad,u,hu,hc,bd,v,hv,hd,hk⟩:=h; exact ⟨bd,v,hv,hd,ad,u,hu,hc,by rw [Held.add_comm]; exact hk⟩
   | 3,2,_=>
    obtain ⟨ad,u,hu,hc,hk⟩:=h
    exact hk.mono fun v w' ⟨hg,hk⟩=>⟨fun b x hb=>hg b x (.inr hb),ad,u,hu,hg ad u (.inl ⟨rfl,rfl⟩),hk⟩
   | 3,d+4,_=>
    obtain ⟨ad,u,hu,hc,hk⟩:=h
    exact hk.mono fun v w' ⟨hg,hk⟩=>⟨fun b x hb=>hg b x (.inr hb),ad,u,hu,hg ad u (.inl ⟨rfl,rfl⟩),hk⟩
   | 2,0,_=>
    obtain ⟨u,hu⟩:∃ u,∀ w',(execOp a.eval y).run P w'=.ok (.value u) w':=h.ext fun _ _ ⟨_,u,hu,_⟩=>⟨u,hu⟩
    refine ⟨u,hu,h.mono fun v w' ⟨hg,u',hu',hk⟩=>⟨hg,?_⟩⟩
    have:u'=u:=by have h1:=hu w'; rw [hu' w'] at h1; simp at h1; exact h1
    subst this; exact hk
   | c+4,0,_=>
    obtain ⟨u,hu⟩:∃ u,∀ w',(execOp a.eval y).run P w'=.ok (.value u) w':=h.ext fun _ _ ⟨_,u,hu,_⟩=>⟨u,hu⟩
    refine ⟨u,hu,h.mono fun v w' ⟨hg,u',hu',hk⟩=>⟨hg,?_⟩⟩
    have:u'=u:=by have h1:=hu w'; rw [hu' w'] at h1; simp at h1; exact h1
    subst this; exact hk
def RunS (P:Program) (ops:Array Oper) (cls:Nat→Oper→Nat) (K:Act→World→Prop):List Nat→Held→Act→World→Prop
 | [],_,a,w=>K a w
 | i::rest,G,a,w=>
  match ops[i]? with
  | none=>False
  | some o=>StepS P ops (cls i o) o (RunS P ops cls K rest) G a w
section
variable {P:Program} {ops:Array Oper} {cls:Nat→Oper→Nat} {K:Act→World→Prop}
theorem RunS.mono {K':Act→World→Prop} (hk:∀ a w,K a w→K' a w):∀ {l:List Nat} {G:Held} {a:Act} {w:World},RunS P ops cls K l G a w→RunS P ops cls K' l G a w
 | [],_,_,_,h=>hk _ _ h
 | i::rest,G,a,w,h=>by
  simp only [RunS] at h ⊢
  split at h
  ·exact h.elim
  ·exact h.mono fun G a w h'=>RunS.mono hk h'
theorem RunS.wpOps {Q:Exit→Act→World→Prop} (hk:∀ a w,K a w→Q .normal a w):∀ {l:List Nat} {G:Held} {a:Act} {w:World},
  RunS P ops cls K l G a w→Go.wpOps P ops Q l a w
 | [],_,_,_,h=>hk _ _ h
 | i::rest,G,a,w,h=>by
  rw [wpOps_cons]
  simp only [RunS] at h
  split at h
  ·exact h.elim
  ·rename_i o ho
   exact wpOp_mono (fun a w ⟨G,h'⟩=>RunS.wpOps hk h') (h.wp ho)
def indepAt (ops:Array Oper) (cls:Nat→Oper→Nat) (i j:Nat):Bool:=
 match ops[i]?,ops[j]? with
 | some x,some y=>x.apart ops y && clsOk (cls i x) (cls j y) && !isSelect x.op && !isSelect y.op
 | _,_=>true
theorem StepS.no {c:Nat} {o:Oper} {G:Held} {a:Act} {w:World} (h:StepS P ops c o (fun _ _ _=>False) G a w):False:=by
 unfold StepS at h
 split at h
 ·split at h
  ·obtain ⟨_,_,h⟩:=h; exact h
  ·obtain ⟨_,_,h⟩:=h; exact h
  ·obtain ⟨_,_,_,_,h⟩:=h; exact h
  ·exact h.ext fun _ _ h=>h.2
 ·exact h
theorem RunS.front {i:Nat}:∀ {p:List Nat} {q:List Nat} {G:Held} {a:Act} {w:World},(∀ j ∈ p,indepAt ops cls j i=true)→
  RunS P ops cls K (p++i::q) G a w→RunS P ops cls K (i::(p++q)) G a w
 | [],_,_,_,_,_,h=>h
 | j::p,q,G,a,w,hp,h=>by
  simp only [List.cons_append,RunS] at h
  split at h
  ·exact h.elim
  ·rename_i o ho
   have h':=h.mono fun G a w h'=>RunS.front (fun k hk=>hp k (List.mem_cons_of_mem _ hk)) h'
   have hind:=hp j (List.mem_cons_self ..)
   simp only [indepAt,ho] at hind
   simp only [RunS] at h' ⊢
   split
   ·rename_i hn
    simp only [hn] at h'
    exact h'.no
   ·rename_i oi hoi
    simp only [hoi,Bool.and_eq_true,Bool.not_eq_true'] at hind h'
    obtain ⟨⟨⟨h1,h2⟩,h3⟩,h4⟩:=hind
    have:=StepS.swap h1 h2 h3 h4 h'
    refine this.mono fun G a w h''=>?_
    simp only [List.cons_append,RunS,ho]
    exact h''
def maskOf (acc:Array Nat) (es:List Edge):Nat:=
 match es with
 | []=>0
 | e::es=>match Region.binds .any e with
  | true=>(2 ^ e.on ||| acc.getD e.on 0) ||| maskOf acc es
  | false=>maskOf acc es
def masksFrom (l:List Oper) (acc:Array Nat):Array Nat:=
 match l with
 | []=>acc
 | o::l=>masksFrom l (acc.push (maskOf acc o.after.toList))
def masks (ops:Array Oper):Array Nat:=masksFrom ops.toList #[]
theorem maskOf_spec {acc:Array Nat} {p:Nat}:∀ {es:List Edge},(maskOf acc es).testBit p=true→
  ∃ e ∈ es,Region.binds .any e=true∧(e.on=p∨(acc.getD e.on 0).testBit p=true)
 | [],h=>by simp [maskOf] at h
 | e::es,h=>by
  simp only [maskOf] at h
  cases hb:Region.binds .any e with
  | true=>
   simp only [hb,Nat.testBit_or,Bool.or_eq_true,Nat.testBit_two_pow,decide_eq_true_eq] at h
   rcases h with (h | h) | h
   ·exact ⟨e,List.mem_cons_self ..,hb,.inl h⟩
   ·exact ⟨e,List.mem_cons_self ..,hb,.inr h⟩
   ·obtain ⟨e',he',h'⟩:=maskOf_spec h
    exact ⟨e',List.mem_cons_of_mem _ he',h'⟩
  | false=>
   simp only [hb] at h
   obtain ⟨e',he',h'⟩:=maskOf_spec h
   exact ⟨e',List.mem_cons_of_mem _ he',h'⟩
theorem masksFrom_keeps:∀ (l:List Oper) (acc:Array Nat) (i:Nat),i < acc.size→(masksFrom l acc).getD i 0=acc.getD i 0
 | [],_,_,_=>rfl
 | o::l,acc,i,h=>by
  rw [masksFrom,masksFrom_keeps l _ i (by simp; omega)]
  simp only [Array.getD_eq_getD_getElem?]
  rw [Array.getElem?_push_lt h,Array.getElem?_eq_getElem h]
theorem masksFrom_spec:∀ (l:List Oper) (acc:Array Nat) (k:Nat) (o:Oper),l[k]?=some o→∀ p,((masksFrom l acc).getD (acc.size+k) 0).testBit p=true→
  ∃ e ∈ o.after.toList,Region.binds .any e=true∧(e.on=p∨(e.on < acc.size+k∧((masksFrom l acc).getD e.on 0).testBit p=true))
 | [],_,_,_,h,_,_=>by simp at h
 | x::l,acc,0,o,h,p,hp=>by
  simp only [List.getElem?_cons_zero,Option.some.injEq] at h
  subst h
  rw [masksFrom,Nat.add_zero,masksFrom_keeps l _ acc.size (by simp)] at hp
  have:(acc.push (maskOf acc x.after.toList)).getD acc.size 0=maskOf acc x.after.toList:=by simp [Array.getD_eq_getD_getElem?]
  rw [this] at hp
  obtain ⟨e,he,hb,h'⟩:=maskOf_spec hp
  refine ⟨e,he,hb,h'.imp id fun h'=>?_⟩
  have hlt:e.on < acc.size:=by
   rcases Nat.lt_or_ge e.on acc.size with h | h
   ·exact h
   ·simp [Array.getD_eq_getD_getElem?,Array.getElem?_eq_none h] at h'
  refine ⟨hlt,?_⟩
  rw [masksFrom,masksFrom_keeps l _ e.on (by simp; omega)]
  simp only [Array.getD_eq_getD_getElem?] at h' ⊢
  rw [Array.getElem?_push_lt hlt]
  rw [Array.getElem?_eq_getElem hlt] at h'
  exact h'
 | x::l,acc,k+1,o,h,p,hp=>by
  simp only [List.getElem?_cons_succ] at h
  have hs:acc.size+(k+1)=(acc.push (maskOf acc x.after.toList)).size+k:=by simp; omega
  rw [hs] at hp ⊢
  exact masksFrom_spec l _ k o h p hp
theorem masks_spec {q:Nat} {o:Oper} (h:ops[q]?=some o) {p:Nat} (hp:((masks ops).getD q 0).testBit p=true):
  ∃ e ∈ o.after,Region.binds .any e=true∧(e.on=p∨(e.on < q∧((masks ops).getD e.on 0).testBit p=true)):=by
 have:=masksFrom_spec ops.toList #[] q o (by simpa using h) p (by simpa [masks] using hp)
 obtain ⟨e,he,hb,h'⟩:=this
 exact ⟨e,by simpa using he,hb,by simpa [masks] using h'⟩
def allBelow (n:Nat) (f:Nat→Bool):Bool:=
 match n with
 | 0=>true
 | n+1=>match f n with
  | true=>allBelow n f
  | false=>false
theorem allBelow_spec {f:Nat→Bool}:∀ {n:Nat},allBelow n f=true→∀ i,i < n→f i=true
 | 0,_,i,h=>by omega
 | n+1,h,i,hi=>by
  simp only [allBelow] at h
  cases hn:f n with
  | false=>simp [hn] at h
  | true=>
   simp only [hn] at h
   rcases Nat.lt_or_ge i n with h' | h'
   ·exact allBelow_spec h i h'
   ·have:i=n:=by omega
    subst this; exact hn
def edgesBack (o:Oper) (q:Nat):List Edge→Bool
 | []=>true
 | e::es=>match Region.binds .any e && !decide (e.on < q) with
  | true=>false
  | false=>edgesBack o q es
theorem edgesBack_spec {o:Oper} {q:Nat}:∀ {es:List Edge},edgesBack o q es=true→∀ e ∈ es,Region.binds .any e=true→e.on < q
 | [],_,e,he=>by cases he
 | x::es,h,e,he=>by
  simp only [edgesBack] at h
  intro hb
  cases hx:(Region.binds .any x && !decide (x.on < q)) with
  | true=>simp [hx] at h
  | false=>
   simp only [hx] at h
   cases he with
   | head=>simpa [hb] using hx
   | tail _ he=>exact edgesBack_spec h e he hb
def edgesOk (ops:Array Oper):Bool:=
 allBelow ops.size fun q=>match ops[q]? with | some o=>edgesBack o q o.after.toList | none=>true
def beforeOk (ops:Array Oper) (cls:Nat→Oper→Nat) (M:Array Nat) (x:Nat):List Nat→Bool
 | []=>true
 | y::l=>
  match indepAt ops cls x y || (M.getD y 0).testBit x with
  | true=>beforeOk ops cls M x l
  | false=>false
def orderOk (ops:Array Oper) (cls:Nat→Oper→Nat) (M:Array Nat):List Nat→Bool
 | []=>true
 | x::l=>
  match beforeOk ops cls M x l with
  | true=>orderOk ops cls M l
  | false=>false
def allIn (n:Nat) (l:List Nat):Bool:=allBelow n fun i=>l.any (Nat.beq i)
def nodupB (n:Nat):List Nat→Bool
 | []=>true
 | x::l=>
  match Nat.blt x n && !l.any (Nat.beq x) with
  | true=>nodupB n l
  | false=>false
theorem nodupB_spec {n:Nat}:∀ {l:List Nat},nodupB n l=true→l.Nodup∧∀ i,i ∈ l→i < n
 | [],_=>⟨List.nodup_nil,fun i hi=>by cases hi⟩
 | x::l,h=>by
  simp only [nodupB] at h
  split at h
  ·rename_i hx
   simp only [Bool.and_eq_true,Bool.not_eq_true',List.any_eq_false] at hx
   obtain ⟨h1,h2⟩:=nodupB_spec h
   refine ⟨List.nodup_cons.2 ⟨fun hm=>hx.2 x hm (Nat.beq_refl x),h1⟩,fun i hi=>?_⟩
   cases hi with
   | head=>have:=hx.1; rw [Nat.blt_eq] at this; exact this
   | tail _ hi=>exact h2 i hi
  ·cases h
def drawOk (ops:Array Oper) (cls:Nat→Oper→Nat) (l:List Nat):Bool:=
 edgesOk ops && Nat.beq l.length ops.size && (nodupB ops.size l && allIn ops.size l) && orderOk ops cls (masks ops) l
theorem beforeOk_spec {M:Array Nat} {x:Nat}:∀ {l:List Nat},beforeOk ops cls M x l=true→∀ y ∈ l,indepAt ops cls x y=true∨(M.getD y 0).testBit x=true
 | [],_,y,hy=>by cases hy
 | z::l,h,y,hy=>by
  simp only [beforeOk] at h
  split at h
  ·rename_i hz
   cases hy with
   | head=>simpa using hz
   | tail _ hy=>exact beforeOk_spec h y hy
  ·cases h
theorem orderOk_spec {M:Array Nat}:∀ {l:List Nat},orderOk ops cls M l=true→l.Pairwise fun x y=>indepAt ops cls x y=true∨(M.getD y 0).testBit x=true
 | [],_=>List.Pairwise.nil
 | x::l,h=>by
  simp only [orderOk] at h
  split at h
  ·rename_i hx
   exact List.Pairwise.cons (beforeOk_spec hx) (orderOk_spec h)
  ·cases h
theorem ready_ancestors {listed:Array Bool} (hcl:∀ q o,ops[q]?=some o→listed.getD q false=true→∀ e ∈ o.after,Region.binds .any e=true→listed.getD e.on false=true):
  ∀ (q:Nat) (o:Oper),ops[q]?=some o→(∀ e ∈ o.after,Region.binds .any e=true→listed.getD e.on false=true)→
   ∀ p,((masks ops).getD q 0).testBit p=true→listed.getD p false=true:=by
 intro q
 induction q using Nat.strongRecOn with
 | _ q ih=>
  intro o ho hall p hp
  obtain ⟨e,he,hb,h⟩:=masks_spec ho hp
  rcases h with rfl | ⟨hlt,h⟩
  ·exact hall e he hb
  ·have hq:q < ops.size:=(Array.getElem?_eq_some_iff.1 ho).1
   have hel:=hall e he hb
   obtain ⟨oe,hoe⟩:∃ oe,ops[e.on]?=some oe:=⟨ops[e.on],Array.getElem?_eq_getElem (by omega)⟩
   exact ih e.on hlt oe hoe (hcl e.on oe hoe hel) p h
theorem runS_any {Q:Exit→Act→World→Prop} (hed:edgesOk ops=true) (hk:∀ a w,K a w→Q .normal a w):
  ∀ (U:List Nat) (listed:Array Bool) (G:Held) (a:Act) (w:World),listed.size=ops.size→U.Nodup→U.Pairwise (fun x y=>indepAt ops cls x y=true∨((masks ops).getD y 0).testBit x=true)→
   (∀ i,i ∈ U ↔ listed.getD i true=false)→
   (∀ q o,ops[q]?=some o→listed.getD q false=true→∀ e ∈ o.after,Region.binds .any e=true→listed.getD e.on false=true)→
   RunS P ops cls K U G a w→wpAny P .any ops Q U.length listed a w:=by
 have hed':∀ q,q < ops.size→∀ o,ops[q]?=some o→∀ e ∈ o.after,Region.binds .any e=true→e.on < q:=by
  intro q hq o ho e he hb
  have h:=allBelow_spec hed q hq
  simp only [ho] at h
  exact edgesBack_spec h e (by simpa using he) hb
 intro U
 induction hn:U.length generalizing U with
 | zero=>
  intro listed G a w hsz _ _ hU _ h
  have:U=[]:=List.eq_nil_of_length_eq_zero hn
  subst this
  refine ⟨?_,hk _ _ h⟩
  apply List.eq_nil_iff_forall_not_mem.2
  intro i hi
  have:=(mem_ready.1 hi).1
  exact absurd ((hU i).2 this) (by simp)
 | succ n ih=>
  intro listed G a w hsz hnd hpw hU hcl h
  have hlt:∀ i,listed.getD i true=false→i < listed.size:=by
   intro i hi
   rcases Nat.lt_or_ge i listed.size with h' | h'
   ·exact h'
   ·simp [Array.getD_eq_getD_getElem?,Array.getElem?_eq_none h'] at hi
  refine ⟨fun hr=>?_,fun i hi=>?_⟩
  ·exfalso
   have hne:∃ i,i ∈ U:=by
    cases U with
    | nil=>simp at hn
    | cons u U=>exact ⟨u,List.mem_cons_self ..⟩
   have hmin:∀ k,∀ i,i < k→i ∈ U→∃ j,j ∈ U∧∀ i ∈ U,j≤i:=by
    intro k
    induction k with
    | zero=>intro i hi; omega
    | succ k ihk=>
     intro i hi hiU
     by_cases hex:∃ j,j ∈ U∧j < i
     ·obtain ⟨j,hj,hji⟩:=hex
      exact ihk j (by omega) hj
     ·exact ⟨i,hiU,fun j hj=>by
       rcases Nat.lt_or_ge j i with h' | h'
       ·exact absurd ⟨j,hj,h'⟩ hex
       ·exact h'⟩
   obtain ⟨i0,hi0⟩:=hne
   obtain ⟨u,hu,hmin⟩:=hmin (i0+1) i0 (by omega) hi0
   have hul:=(hU u).1 hu
   have hus:u < ops.size:=by have:=hlt u hul; omega
   have:u ∈ Region.ready .any ops listed:=by
    refine mem_ready.2 ⟨hul,ops[u],Array.getElem?_eq_getElem hus,fun e he hb=>?_⟩
    have hlte:=hed' u hus _ (Array.getElem?_eq_getElem hus) e he hb
    have hnot:e.on ∉ U:=by
     intro hmem
     have:=hmin _ hmem
     omega
    have hne: ¬ listed.getD e.on true=false:=fun h'=>hnot ((hU e.on).2 h')
    have hes:e.on < listed.size:=by omega
    simp only [Array.getD_eq_getD_getElem?,Array.getElem?_eq_getElem hes,Option.getD_some] at hne ⊢
    simpa using hne
   rw [hr] at this
   cases this
  ·obtain ⟨hil,o,ho,hall⟩:=mem_ready.1 hi
   have hiU:i ∈ U:=(hU i).2 hil
   obtain ⟨p,q,hpq⟩:=List.append_of_mem hiU
   subst hpq
   have his:i < ops.size:=(Array.getElem?_eq_some_iff.1 ho).1
   have hpw2:=List.pairwise_append.1 hpw
   have hnd2:=List.nodup_append.1 hnd
   have hp:∀ j ∈ p,indepAt ops cls j i=true:=by
    intro j hj
    rcases hpw2.2.2 j hj i (List.mem_cons_self ..) with h' | h'
    ·exact h'
    ·have hlj:=ready_ancestors hcl i o ho hall j h'
     have hjl:=(hU j).1 (List.mem_append_left _ hj)
     have hjs:=hlt j hjl
     simp only [Array.getD_eq_getD_getElem?,Array.getElem?_eq_getElem hjs,Option.getD_some] at hlj hjl
     rw [hlj] at hjl; cases hjl
   have hfront:=RunS.front hp h
   simp only [RunS,ho] at hfront
   have hip:i ∉ p:=fun h'=>hnd2.2.2 i h' i (List.mem_cons_self ..) rfl
   have hiq:i ∉ q:=(List.nodup_cons.1 hnd2.2.1).1
   have hnd':(p++q).Nodup:=by
    rw [List.nodup_append]
    exact ⟨hnd2.1,(List.nodup_cons.1 hnd2.2.1).2,fun x hx y hy=>hnd2.2.2 x hx y (List.mem_cons_of_mem _ hy)⟩
   have hpw':(p++q).Pairwise (fun x y=>indepAt ops cls x y=true∨((masks ops).getD y 0).testBit x=true):=by
    rw [List.pairwise_append]
    exact ⟨hpw2.1,(List.pairwise_cons.1 hpw2.2.1).2,fun x hx y hy=>hpw2.2.2 x hx y (List.mem_cons_of_mem _ hy)⟩
   have hU':∀ k,k ∈ p++q ↔ (listed.setIfInBounds i true).getD k true=false:=by
    intro k
    by_cases hki:i=k
    ·subst hki
     have:i < listed.size:=by omega
     constructor
     ·intro hk'
      rcases List.mem_append.1 hk' with h' | h'
      ·exact absurd h' hip
      ·exact absurd h' hiq
     ·intro hk'; simp [this] at hk'
    ·rw [getD_set_ne true hki, ← hU k]
     simp only [List.mem_append,List.mem_cons]
     constructor
     ·rintro (h' | h')
      ·exact .inl h'
      ·exact .inr (.inr h')
     ·rintro (h' | h' | h')
      ·exact .inl h'
      ·exact absurd h'.symm hki
      ·exact .inr h'
   have hcl':∀ k ok,ops[k]?=some ok→(listed.setIfInBounds i true).getD k false=true→∀ e ∈ ok.after,Region.binds .any e=true→(listed.setIfInBounds i true).getD e.on false=true:=by
    intro k ok hok'' hkl e he hb
    by_cases hki:i=k
    ·subst hki
     rw [ho] at hok''
     cases hok''
     exact getD_set_true (hall e he hb)
    ·rw [getD_set_ne false hki] at hkl
     exact getD_set_true (hcl k ok hok'' hkl e he hb)
   have hlen:(p++q).length=n:=by simp at hn ⊢; omega
   exact wpOp_mono (fun a' w' ⟨G',h'⟩=>ih (p++q) hlen (listed.setIfInBounds i true) G' a' w' (by simpa using hsz) hnd' hpw' hU' hcl' h') (hfront.wp ho)
def Held.no:Held:=fun _ _=>False
theorem wp_region_runS {Q:Exit→Act→World→Prop} {id:Nat} {a:Act} {w:World} (hk:∀ a w,K a w→Q .normal a w)
  (h:RunS P ops cls K (List.range ops.size) .no a w):(Code.region id ops false).wp P Q a w:=
 wp_region (h.wpOps hk)
theorem wp_region_draw_runS {Q:Exit→Act→World→Prop} {id:Nat} {a:Act} {w:World} (hm:P.follows .mixedOrders=true) {l:List Nat} (hok:drawOk ops cls l=true)
  (hk:∀ a w,K a w→Q .normal a w) (h:RunS P ops cls K l .no a { w with drawn:=w.drawn+1 }):(Code.region id ops true).wp P Q a w:=by
 simp only [drawOk,Bool.and_eq_true] at hok
 obtain ⟨⟨⟨hed,hlen⟩,hnb,hall⟩,hord⟩:=hok
 have hlen':l.length=ops.size:=Nat.eq_of_beq_eq_true hlen
 have hin:∀ i,i < ops.size→i ∈ l:=by
  intro i hi
  have:=allBelow_spec hall i hi
  simp only [List.any_eq_true] at this
  obtain ⟨x,hx,hb⟩:=this
  rw [Nat.eq_of_beq_eq_true hb]; exact hx
 obtain ⟨hnd,hlt⟩:=nodupB_spec hnb
 refine wp_region_any hm ?_
 have:=runS_any (P:=P) (Q:=Q) hed hk l (Array.replicate ops.size false) .no a { w with drawn:=w.drawn+1 } (by simp) hnd (orderOk_spec hord) ?_ ?_ h
 ·rw [hlen'] at this; simpa using this
 ·intro i
  simp only [Array.getD_eq_getD_getElem?]
  constructor
  ·intro hi; simp [hlt i hi]
  ·intro hi
   rcases Nat.lt_or_ge i ops.size with h' | h'
   ·exact hin i h'
   ·rw [Array.getElem?_eq_none (by simpa using h')] at hi; cases hi
 ·intro q o _ hl
  exfalso
  rcases Nat.lt_or_ge q ops.size with h' | h'
  ·simp [h'] at hl
  ·simp [h'] at hl
end
end Go.M
