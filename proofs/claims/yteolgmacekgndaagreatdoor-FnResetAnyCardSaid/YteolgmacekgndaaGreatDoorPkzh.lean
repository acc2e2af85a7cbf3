/- A region whose order is open: of two operations either may be first; it is enough to know both cases. What pieces of the code come to. The thin package: Again. A reader is reset; its new source and its dictionary are made in either order. A decompressor is reset: its cells. A decompressor is reset: it stands as a new one, over its new source. The thin package: Again. A reader is reset behind one read: it gives what a new one gives. -/
import Derived.Test.YteolgmacekgndaaGreatDoorPkd
import Derived.Test.YteolgmacekgndaaGreatDoorPke
import Derived.Test.YteolgmacekgndaaGreatDoorPkzc
import Derived.Test.YteolgmacekgndaaGreatDoorPko
import Derived.Test.YteolgmacekgndaaGreatDoorPkq
namespace Go.M
open Go
def withEdge (ops:Array Oper) (x y:Nat):Array Oper:=ops.modify y fun o=>{ o with after:=o.after.push ⟨x,.data⟩ }
section
variable {P:Program} {ops:Array Oper} {Q:Exit→Act→World→Prop} {x y i:Nat} {listed:Array Bool}
theorem withEdge_size:(withEdge ops x y).size=ops.size:=by unfold withEdge; simp
theorem withEdge_get:(withEdge ops x y)[i]?=if y=i then ops[i]?.map (fun o=>{ o with after:=o.after.push ⟨x,.data⟩ }) else ops[i]?:=by
 unfold withEdge
 rw [Array.getElem?_modify]
theorem ready_edge:i ∈ Region.ready .any (withEdge ops x y) listed ↔ i ∈ Region.ready .any ops listed∧(y=i→listed.getD x false=true):=by
 rw [mem_ready,mem_ready,withEdge_get]
 constructor
 ·rintro ⟨h1,o,ho,hall⟩
  by_cases e:y=i
  ·rw [if_pos e] at ho
   cases hq:ops[i]? with
   | none=>rw [hq] at ho; cases ho
   | some o'=>
    rw [hq] at ho
    simp only [Option.map_some,Option.some.injEq] at ho
    subst ho
    refine ⟨⟨h1,o',rfl,fun e he hb=>hall e ?_ hb⟩,fun _=>hall ⟨x,.data⟩ ?_ rfl⟩
    ·exact Array.mem_push.2 (.inl he)
    ·exact Array.mem_push.2 (.inr rfl)
  ·rw [if_neg e] at ho
   exact ⟨⟨h1,o,ho,hall⟩,fun h=>absurd h e⟩
 ·rintro ⟨⟨h1,o,ho,hall⟩,h2⟩
  refine ⟨h1,?_⟩
  by_cases e:y=i
  ·rw [if_pos e,ho]
   refine ⟨_,rfl,fun e' he hb=>?_⟩
   rcases Array.mem_push.1 he with he | he
   ·exact hall e' he hb
   ·subst he; exact h2 e
  ·rw [if_neg e]; exact ⟨o,ho,hall⟩
theorem yielded_edge (t:Array Value):yielded (withEdge ops x y) t=yielded ops t:=by
 funext j
 unfold yielded
 rw [withEdge_get]
 by_cases e:y=j
 ·rw [if_pos e]
  cases ops[j]? <;> rfl
 ·rw [if_neg e]
theorem wpOp_edge {K:Act→World→Prop} {a:Act} {w:World}:wpOp P (withEdge ops x y) Q i K a w ↔ wpOp P ops Q i K a w:=by
 unfold wpOp
 rw [withEdge_get,yielded_edge]
 by_cases e:y=i
 ·rw [if_pos e]
  cases ops[i]? with
  | none=>exact Iff.rfl
  | some o=>exact Iff.rfl
 ·rw [if_neg e]
theorem ready_nil_iff {a b:List Nat} (h:∀ i,i ∈ a ↔ i ∈ b):a=[] ↔ b=[]:=by
 constructor
 ·rintro rfl
  cases b with
  | nil=>rfl
  | cons z l=>exact absurd ((h z).2 (List.mem_cons_self ..)) (by simp)
 ·rintro rfl
  cases a with
  | nil=>rfl
  | cons z l=>exact absurd ((h z).1 (List.mem_cons_self ..)) (by simp)
theorem wpAny_edge:∀ {fuel:Nat} {listed:Array Bool} {a:Act} {w:World},listed.getD x false=true∨listed.getD y true=true→wpAny P .any (withEdge ops x y) Q fuel listed a w→wpAny P .any ops Q fuel listed a w:=by
 intro fuel
 induction fuel with
 | zero=>
  intro listed a w h hw
  have hr:∀ i,i ∈ Region.ready .any (withEdge ops x y) listed ↔ i ∈ Region.ready .any ops listed:=fun i=>by
   rw [ready_edge]
   refine ⟨fun h'=>h'.1,fun h'=>⟨h',fun e=>?_⟩⟩
   rcases h with h | h
   ·exact h
   ·subst e
    rw [(mem_ready.1 h').1] at h; cases h
  exact ⟨(ready_nil_iff hr).1 hw.1,hw.2⟩
 | succ fuel ih=>
  intro listed a w h hw
  have hr:∀ i,i ∈ Region.ready .any (withEdge ops x y) listed ↔ i ∈ Region.ready .any ops listed:=fun i=>by
   rw [ready_edge]
   refine ⟨fun h'=>h'.1,fun h'=>⟨h',fun e=>?_⟩⟩
   rcases h with h | h
   ·exact h
   ·subst e
    rw [(mem_ready.1 h').1] at h; cases h
  refine ⟨fun h0=>hw.1 ((ready_nil_iff hr).2 h0),fun i hi=>?_⟩
  have:=hw.2 i ((hr i).2 hi)
  refine wpOp_mono (fun a' w' h'=>ih ?_ h') (wpOp_edge.1 this)
  rcases h with h | h
  ·exact .inl (getD_set_true h)
  ·refine .inr ?_
   by_cases e:i=y
   ·subst e
    rw [(mem_ready.1 hi).1] at h; cases h
   ·rw [getD_set_ne true e]; exact h
def NoEnter (P:Program) (o:Oper):Prop:=∀ (a:Act) (w:World),match (execOp a.eval o).run P w with
 | .ok (.enter _ _) _=>False
 | .ok (.row _ _) _=>False
 | _=>True
theorem wpOp_both {o:Oper} (ho:ops[i]?=some o) (hn:NoEnter P o) {K1 K2:Act→World→Prop} {a:Act} {w:World} (h1:wpOp P ops Q i K1 a w) (h2:wpOp P ops Q i K2 a w):wpOp P ops Q i (fun a w=>K1 a w∧K2 a w) a w:=by
 unfold wpOp at *
 simp only [ho] at *
 split
 ·rename_i hw
  rw [if_pos hw] at h1 h2
  rcases h1 with h1 | h1
  ·rcases h2 with h2 | h2
   ·refine .inl ?_
    have hn:=hn a w
    unfold Oper.wp at *
    generalize (execOp a.eval o).run P w=r at *
    cases r with
    | ok n w'=>cases n <;> first | exact ⟨h1,h2⟩ | exact hn.elim | exact h1
    | halt z w'=>cases z <;> exact h1
   ·exact .inr h2
  ·exact .inr h1
 ·rename_i hw
  rw [if_neg hw] at h1 h2
  exact ⟨h1,h2⟩
def NE (P:Program) (s:Sem Next):Prop:=∀ w,match s.run P w with
 | .ok (.enter _ _) _=>False
 | .ok (.row _ _) _=>False
 | _=>True
theorem NE.value (P:Program) (v:Value):NE P (pure (.value v)):=fun _=>trivial
theorem NE.bind {α:Type} {s:Sem α} {k:α→Sem Next} (h:∀ x,NE P (k x)):NE P (s >>= k):=fun w=>by
 rw [Sem.run_bind]
 cases s.run P w with
 | ok z w'=>exact h z w'
 | halt z w'=>trivial
theorem NE.nilDeref (P:Program):NE P (runtimePanic .nilDeref):=NE.bind fun _ _=>trivial
def plainB:Op→Bool
 | .move _=>true
 | .assign _=>true
 | .typeAssert .. =>true
 | .makeInterface .. =>true
 | .makeFunc .. =>true
 | .buildSlice .. =>true
 | .makeSlice .. =>true
 | .nilCheck _=>true
 | _=>false
theorem noEnter_plain {o:Oper} (h:plainB o.op=true):NoEnter P o:=by
 intro a
 show NE P (execOp a.eval o)
 unfold execOp
 cases ho:o.op <;> rw [ho] at h <;> first | cases h | skip
 case move=>exact NE.value P _
 case assign=>exact NE.value P _
 case typeAssert=>exact NE.bind fun _=>NE.value P _
 case makeInterface=>exact NE.bind fun _=>NE.value P _
 case makeFunc=>exact NE.bind fun _=>NE.value P _
 case buildSlice=>exact NE.bind fun _=>NE.value P _
 case makeSlice=>exact NE.bind fun _=>NE.value P _
 case nilCheck z=>
  simp only
  split
  ·exact NE.nilDeref P
  ·exact NE.nilDeref P
  ·exact NE.nilDeref P
  ·split
   ·exact NE.nilDeref P
   ·refine NE.bind fun _=>NE.bind fun _=>?_
    split
    ·exact NE.bind fun _=>NE.value P _
    ·exact NE.value P _
   ·exact NE.value P _
  ·exact NE.value P _
theorem wpAny_split (hxy:x≠y) (hx:x < ops.size) (hy:y < ops.size) (late:Nat→Bool) (hlate:∀ i o,late i=true→ops[i]?=some o→∃ e ∈ o.after,Region.binds .any e=true∧(e.on=x∨e.on=y∨late e.on=true)) (hn:∀ i o,ops[i]?=some o→i≠x→i≠y→late i=false→NoEnter P o):
  ∀ {fuel:Nat} {listed:Array Bool} {a:Act} {w:World},listed.size=ops.size→(∀ i,late i=true→listed.getD i false=false)→listed.getD x true=false→listed.getD y true=false→wpAny P .any (withEdge ops x y) Q fuel listed a w→wpAny P .any (withEdge ops y x) Q fuel listed a w→wpAny P .any ops Q fuel listed a w:=by
 have sub:∀ {listed:Array Bool} {i u v:Nat},i ∈ Region.ready .any ops listed→i≠v→i ∈ Region.ready .any (withEdge ops u v) listed:=fun h hne=>ready_edge.2 ⟨h,fun e=>absurd e.symm hne⟩
 have nil:∀ {listed:Array Bool},Region.ready .any (withEdge ops x y) listed=[]→Region.ready .any (withEdge ops y x) listed=[]→Region.ready .any ops listed=[]:=fun {listed} h1 h2=>by
  cases hr:Region.ready .any ops listed with
  | nil=>rfl
  | cons z l=>
   have hz:z ∈ Region.ready .any ops listed:=by rw [hr]; exact List.mem_cons_self ..
   by_cases e:z=y
   ·have:=sub (u:=y) (v:=x) hz (by rw [e]; exact fun h=>hxy h.symm)
    rw [h2] at this; cases this
   ·have:=sub (u:=x) (v:=y) hz e
    rw [h1] at this; cases this
 intro fuel
 induction fuel with
 | zero=>intro listed a w _ _ _ _ h1 h2; exact ⟨nil h1.1 h2.1,h1.2⟩
 | succ fuel ih=>
  intro listed a w hs hl lx ly h1 h2
  refine ⟨fun h0=>h1.1 ?_,fun i hi=>?_⟩
  ·cases hr:Region.ready .any (withEdge ops x y) listed with
   | nil=>rfl
   | cons z l=>
    have hz:z ∈ Region.ready .any (withEdge ops x y) listed:=by rw [hr]; exact List.mem_cons_self ..
    have:=(ready_edge.1 hz).1
    rw [h0] at this; cases this
  by_cases ex:i=x
  ·subst ex
   refine wpOp_mono (fun a' w' h'=>wpAny_edge (.inl ?_) h') (wpOp_edge.1 (h1.2 i (sub hi hxy)))
   rw [Array.getD_eq_getD_getElem?,Array.getElem?_setIfInBounds_self_of_lt (by omega)]; rfl
  by_cases ey:i=y
  ·subst ey
   refine wpOp_mono (fun a' w' h'=>wpAny_edge (.inl ?_) h') (wpOp_edge.1 (h2.2 i (sub hi fun h=>hxy h.symm)))
   rw [Array.getD_eq_getD_getElem?,Array.getElem?_setIfInBounds_self_of_lt (by omega)]; rfl
  obtain ⟨_,o,ho,hall⟩:=mem_ready.1 hi
  have k1:=wpOp_edge.1 (h1.2 i (sub hi ey))
  have k2:=wpOp_edge.1 (h2.2 i (sub hi ex))
  have un:∀ {z:Nat},z < ops.size→listed.getD z true=false→ ¬ listed.getD z false=true:=fun {z} hz h h'=>by
   rw [Array.getD_eq_getD_getElem?,Array.getElem?_eq_getElem (by omega)] at h h'
   simp only [Option.getD_some] at h h'
   rw [h] at h'; cases h'
  have hli:late i=false:=by
   cases hq:late i with
   | false=>rfl
   | true=>
    exfalso
    obtain ⟨e,he,hb,hon⟩:=hlate i o hq ho
    have:=hall e he hb
    rcases hon with hon | hon | hon
    ·rw [hon] at this; exact un hx lx this
    ·rw [hon] at this; exact un hy ly this
    ·rw [hl _ hon] at this; cases this
  refine wpOp_mono (fun a' w' h'=>ih (by simpa using hs) (fun j hj=>?_) ?_ ?_ h'.1 h'.2) (wpOp_both ho (hn i o ho ex ey hli) k1 k2)
  ·have hne:i≠j:=by rintro rfl; rw [hj] at hli; cases hli
   rw [getD_set_ne false hne]; exact hl j hj
  ·rw [getD_set_ne true ex]; exact lx
  ·rw [getD_set_ne true ey]; exact ly
def Dir (ops:Array Oper) (x y:Nat):Prop:=∃ o e,ops[x]?=some o∧e ∈ o.after∧Region.binds .any e=true∧e.on=y
inductive Anc (ops:Array Oper):Nat→Nat→Prop
 | one {y x:Nat}:Dir ops y x→Anc ops y x
 | more {y z x:Nat}:Dir ops y z→Anc ops z x→Anc ops y x
theorem anc_listed {listed:Array Bool} (hcl:∀ q o,ops[q]?=some o→listed.getD q false=true→∀ e ∈ o.after,Region.binds .any e=true→listed.getD e.on false=true) {y x:Nat} (h:Anc ops y x):
  ∀ o,ops[y]?=some o→(∀ e ∈ o.after,Region.binds .any e=true→listed.getD e.on false=true)→listed.getD x false=true:=by
 induction h with
 | one h=>
  obtain ⟨o',e,h1,h2,h3,h4⟩:=h
  intro o ho hall
  rw [h1] at ho; cases ho
  rw [← h4]; exact hall e h2 h3
 | @more y z x h _ ih=>
  obtain ⟨o',e,h1,h2,h3,h4⟩:=h
  intro o ho hall
  rw [h1] at ho; cases ho
  have hz:listed.getD z false=true:=by rw [← h4]; exact hall e h2 h3
  have hzs:z < listed.size:=by
   rcases Nat.lt_or_ge z listed.size with h' | h'
   ·exact h'
   ·rw [Array.getD_eq_getD_getElem?,Array.getElem?_eq_none h'] at hz; cases hz
  cases hoz:ops[z]? with
  | some oz=>exact ih oz hoz (hcl z oz hoz hz)
  | none=>
   rename_i hA
   cases hA with
   | one hd=>obtain ⟨_,_,h5,_⟩:=hd; rw [hoz] at h5; cases h5
   | more hd _=>obtain ⟨_,_,h5,_⟩:=hd; rw [hoz] at h5; cases h5
theorem runS_any2 {cls:Nat→Oper→Nat} {K:Act→World→Prop} (hk:∀ a w,K a w→Q .normal a w):
  ∀ (U:List Nat) (listed:Array Bool) (G:Held) (a:Act) (w:World),listed.size=ops.size→U.Nodup→U.Pairwise (fun x y=>indepAt ops cls x y=true∨Anc ops y x)→U.Pairwise (fun x y=> ¬ Dir ops x y)→(∀ x ∈ U, ¬ Dir ops x x)→(∀ x y,Dir ops x y→y < ops.size)→
   (∀ i,i ∈ U ↔ listed.getD i true=false)→
   (∀ q o,ops[q]?=some o→listed.getD q false=true→∀ e ∈ o.after,Region.binds .any e=true→listed.getD e.on false=true)→
   RunS P ops cls K U G a w→wpAny P .any ops Q U.length listed a w:=by
 intro U
 induction hn:U.length generalizing U with
 | zero=>
  intro listed G a w hsz _ _ _ _ _ hU _ h
  have:U=[]:=List.eq_nil_of_length_eq_zero hn
  subst this
  refine ⟨?_,hk _ _ h⟩
  apply List.eq_nil_iff_forall_not_mem.2
  intro i hi
  have:=(mem_ready.1 hi).1
  exact absurd ((hU i).2 this) (by simp)
 | succ n ih=>
  intro listed G a w hsz hnd hpw htp hsf hdl hU hcl h
  have hlt:∀ i,listed.getD i true=false→i < listed.size:=by
   intro i hi
   rcases Nat.lt_or_ge i listed.size with h' | h'
   ·exact h'
   ·simp [Array.getD_eq_getD_getElem?,Array.getElem?_eq_none h'] at hi
  refine ⟨fun hr=>?_,fun i hi=>?_⟩
  ·exfalso
   cases U with
   | nil=>simp at hn
   | cons u U'=>
    have hu:=(hU u).1 (List.mem_cons_self ..)
    have hus:u < ops.size:=by have:=hlt u hu; omega
    have:u ∈ Region.ready .any ops listed:=by
     refine mem_ready.2 ⟨hu,ops[u],Array.getElem?_eq_getElem hus,fun e he hb=>?_⟩
     have hD:Dir ops u e.on:=⟨_,e,Array.getElem?_eq_getElem hus,he,hb,rfl⟩
     have hnot:e.on ∉ u::U':=by
      intro hm
      rcases List.mem_cons.1 hm with hm | hm
      ·exact hsf u (List.mem_cons_self ..) (by rw [← hm] at hD ⊢; exact hm ▸ hD)
      ·exact (List.pairwise_cons.1 htp).1 _ hm hD
     have hne: ¬ listed.getD e.on true=false:=fun h'=>hnot ((hU e.on).2 h')
     have hes:e.on < listed.size:=by have:=hdl _ _ hD; omega
     simp only [Array.getD_eq_getD_getElem?,Array.getElem?_eq_getElem hes,Option.getD_some] at hne ⊢
     simpa using hne
    rw [hr] at this
    cases this
  ·obtain ⟨hil,o,ho,hall⟩:=mem_ready.1 hi
   have hiU:i ∈ U:=(hU i).2 hil
   obtain ⟨p,q,hpq⟩:=List.append_of_mem hiU
   subst hpq
   have his:i < ops.size:=(Array.getElem?_eq_some_iff.1 ho).1
   have hpw2:=List.pairwise_append.1 hpw
   have hnd2:=List.nodup_append.1 hnd
   have hp:∀ j ∈ p,indepAt ops cls j i=true:=by
    intro j hj
    rcases hpw2.2.2 j hj i (List.mem_cons_self ..) with h' | h'
    ·exact h'
    ·have hlj:=anc_listed hcl h' o ho hall
     have hjl:=(hU j).1 (List.mem_append_left _ hj)
     have hjs:=hlt j hjl
     simp only [Array.getD_eq_getD_getElem?,Array.getElem?_eq_getElem hjs,Option.getD_some] at hlj hjl
     rw [hlj] at hjl; cases hjl
   have hfront:=RunS.front hp h
   simp only [RunS,ho] at hfront
   have hip:i ∉ p:=fun h'=>hnd2.2.2 i h' i (List.mem_cons_self ..) rfl
   have hiq:i ∉ q:=(List.nodup_cons.1 hnd2.2.1).1
   have hnd':(p++q).Nodup:=by
    rw [List.nodup_append]
    exact ⟨hnd2.1,(List.nodup_cons.1 hnd2.2.1).2,fun x hx y hy=>hnd2.2.2 x hx y (List.mem_cons_of_mem _ hy)⟩
   have hpw':(p++q).Pairwise (fun x y=>indepAt ops cls x y=true∨Anc ops y x):=by
    rw [List.pairwise_append]
    exact ⟨hpw2.1,(List.pairwise_cons.1 hpw2.2.1).2,fun x hx y hy=>hpw2.2.2 x hx y (List.mem_cons_of_mem _ hy)⟩
   have htp2:=List.pairwise_append.1 htp
   have htp':(p++q).Pairwise (fun x y=> ¬ Dir ops x y):=by
    rw [List.pairwise_append]
    exact ⟨htp2.1,(List.pairwise_cons.1 htp2.2.1).2,fun x hx y hy=>htp2.2.2 x hx y (List.mem_cons_of_mem _ hy)⟩
   have hsf':∀ x ∈ p++q, ¬ Dir ops x x:=fun x hx=>hsf x (by
    rcases List.mem_append.1 hx with h' | h'
    ·exact List.mem_append_left _ h'
    ·exact List.mem_append_right _ (List.mem_cons_of_mem _ h'))
   have hU':∀ k,k ∈ p++q ↔ (listed.setIfInBounds i true).getD k true=false:=by
    intro k
    by_cases hki:i=k
    ·subst hki
     have:i < listed.size:=by omega
     constructor
     ·intro hk'
      rcases List.mem_append.1 hk' with h' | h'
      ·exact absurd h' hip
      ·exact absurd h' hiq
     ·intro hk'; simp [this] at hk'
    ·rw [getD_set_ne true hki, ← hU k]
     simp only [List.mem_append,List.mem_cons]
     constructor
     ·rintro (h' | h')
      ·exact .inl h'
      ·exact .inr (.inr h')
     ·rintro (h' | h' | h')
      ·exact .inl h'
      ·exact absurd h'.symm hki
      ·exact .inr h'
   have hcl':∀ k ok,ops[k]?=some ok→(listed.setIfInBounds i true).getD k false=true→∀ e ∈ ok.after,Region.binds .any e=true→(listed.setIfInBounds i true).getD e.on false=true:=by
    intro k ok hok'' hkl e he hb
    by_cases hki:i=k
    ·subst hki
     rw [ho] at hok''
     cases hok''
     exact getD_set_true (hall e he hb)
    ·rw [getD_set_ne false hki] at hkl
     exact getD_set_true (hcl k ok hok'' hkl e he hb)
   have hlen:(p++q).length=n:=by simp at hn ⊢; omega
   exact wpOp_mono (fun a' w' ⟨G',h'⟩=>ih (p++q) hlen (listed.setIfInBounds i true) G' a' w' (by simpa using hsz) hnd' hpw' htp' hsf' hdl hU' hcl' h') (hfront.wp ho)
def splitOk (ops:Array Oper) (x y:Nat) (late:List Nat):Bool:=
 Nat.blt x ops.size && Nat.blt y ops.size && !Nat.beq x y && late.all (fun i=>Nat.blt i ops.size) &&
  (List.range ops.size).all fun i=>
   match ops[i]? with
   | none=>false
   | some o=>
    if late.contains i then o.after.any fun e=>Region.binds .any e && (Nat.beq e.on x || Nat.beq e.on y || late.contains e.on)
    else Nat.beq i x || Nat.beq i y || plainB o.op
theorem wpAny_two {x y:Nat} {late:List Nat} (h:splitOk ops x y late=true) {a:Act} {w:World} (h1:wpAny P .any (withEdge ops x y) Q ops.size (Array.replicate ops.size false) a w) (h2:wpAny P .any (withEdge ops y x) Q ops.size (Array.replicate ops.size false) a w):wpAny P .any ops Q ops.size (Array.replicate ops.size false) a w:=by
 simp only [splitOk,Bool.and_eq_true,Bool.not_eq_true',List.all_eq_true,List.mem_range] at h
 obtain ⟨⟨⟨⟨hx,hy⟩,hxy⟩,hb⟩,hall⟩:=h
 have hx:x < ops.size:=by simpa [Nat.blt_eq] using hx
 have hy:y < ops.size:=by simpa [Nat.blt_eq] using hy
 have hxy:x≠y:=by rintro rfl; rw [Nat.beq_refl] at hxy; cases hxy
 refine wpAny_split hxy hx hy (fun i=>late.contains i) (fun i o hi ho=>?_) (fun i o ho ex ey hi=>?_) (by simp) (fun i hi=>?_) ?_ ?_ h1 h2
 ·have his:=(Array.getElem?_eq_some_iff.1 ho).1
  have:=hall i his
  rw [ho] at this
  simp only [hi,if_true] at this
  obtain ⟨j,hj,hp⟩:=Array.any_eq_true.1 this
  simp only [Bool.and_eq_true,Bool.or_eq_true] at hp
  refine ⟨o.after[j],Array.getElem_mem hj,hp.1,?_⟩
  rcases hp.2 with (h | h) | h
  ·exact .inl (Nat.eq_of_beq_eq_true h)
  ·exact .inr (.inl (Nat.eq_of_beq_eq_true h))
  ·exact .inr (.inr h)
 ·have his:=(Array.getElem?_eq_some_iff.1 ho).1
  have:=hall i his
  rw [ho] at this
  simp only [hi,Bool.false_eq_true,if_false,Bool.or_eq_true] at this
  rcases this with (h | h) | h
  ·exact absurd (Nat.eq_of_beq_eq_true h) ex
  ·exact absurd (Nat.eq_of_beq_eq_true h) ey
  ·exact noEnter_plain h
 ·rw [Array.getD_eq_getD_getElem?]
  by_cases hs:i < ops.size
  ·simp [hs]
  ·simp [hs]
 ·simp [hx]
 ·simp [hy]
def dirB (ops:Array Oper) (x y:Nat):Bool:=
 match ops[x]? with
 | some o=>o.after.any fun e=>Region.binds .any e && Nat.beq e.on y
 | none=>false
theorem dirB_spec {x y:Nat} (h:Dir ops x y):dirB ops x y=true:=by
 obtain ⟨o,e,h1,h2,h3,h4⟩:=h
 unfold dirB
 rw [h1]
 simp only
 obtain ⟨k,hk,he⟩:=Array.getElem_of_mem h2
 refine Array.any_eq_true.2 ⟨k,hk,?_⟩
 rw [he,h3,h4,Nat.beq_refl]; rfl
def ancB (ops:Array Oper):Nat→Nat→Nat→Bool
 | 0,_,_=>false
 | fuel+1,y,x=>
  match ops[y]? with
  | some o=>o.after.any fun e=>Region.binds .any e && (Nat.beq e.on x || ancB ops fuel e.on x)
  | none=>false
theorem ancB_spec:∀ {fuel y x:Nat},ancB ops fuel y x=true→Anc ops y x
 | 0,_,_,h=>by cases h
 | fuel+1,y,x,h=>by
  unfold ancB at h
  split at h
  ·rename_i o ho
   obtain ⟨k,hk,hp⟩:=Array.any_eq_true.1 h
   simp only [Bool.and_eq_true,Bool.or_eq_true] at hp
   have hd:Dir ops y o.after[k].on:=⟨o,o.after[k],ho,Array.getElem_mem hk,hp.1,rfl⟩
   rcases hp.2 with h' | h'
   ·rw [Nat.eq_of_beq_eq_true h'] at hd; exact .one hd
   ·exact .more hd (ancB_spec h')
  ·cases h
def pairsB (f:Nat→Nat→Bool):List Nat→Bool
 | []=>true
 | x::l=>l.all (f x) && pairsB f l
theorem pairsB_spec {f:Nat→Nat→Bool}:∀ {l:List Nat},pairsB f l=true→l.Pairwise fun x y=>f x y=true
 | [],_=>List.Pairwise.nil
 | x::l,h=>by
  simp only [pairsB,Bool.and_eq_true,List.all_eq_true] at h
  exact List.Pairwise.cons h.1 (pairsB_spec h.2)
def drawOk2 (ops:Array Oper) (cls:Nat→Oper→Nat) (l:List Nat):Bool:=
 Nat.beq l.length ops.size && (nodupB ops.size l && allIn ops.size l) && pairsB (fun x y=>(indepAt ops cls x y || ancB ops ops.size y x) && !dirB ops x y) l && l.all (fun x=> !dirB ops x x) &&
  allBelow ops.size fun q=>match ops[q]? with | some o=>o.after.all fun e=>Nat.blt e.on ops.size | none=>true
theorem wpAny_of_runS {cls:Nat→Oper→Nat} {K:Act→World→Prop} {a:Act} {w:World} {l:List Nat} (hok:drawOk2 ops cls l=true)
  (hk:∀ a w,K a w→Q .normal a w) (h:RunS P ops cls K l .no a w):wpAny P .any ops Q ops.size (Array.replicate ops.size false) a w:=by
 simp only [drawOk2,Bool.and_eq_true] at hok
 obtain ⟨⟨⟨⟨hlen,hnb,hall⟩,hpr⟩,hself⟩,hrange⟩:=hok
 have hlen':l.length=ops.size:=Nat.eq_of_beq_eq_true hlen
 have hin:∀ i,i < ops.size→i ∈ l:=by
  intro i hi
  have:=allBelow_spec hall i hi
  simp only [List.any_eq_true] at this
  obtain ⟨x,hx,hb⟩:=this
  rw [Nat.eq_of_beq_eq_true hb]; exact hx
 obtain ⟨hnd,hlt⟩:=nodupB_spec hnb
 have hpw:=pairsB_spec hpr
 have:=runS_any2 (P:=P) (Q:=Q) hk l (Array.replicate ops.size false) .no a w (by simp) hnd (hpw.imp fun {x y} h=>?_) (hpw.imp fun {x y} h hd=>?_) (fun x hx hd=>?_) (fun x y hd=>?_) ?_ ?_ h
 ·rw [hlen'] at this; simpa using this
 ·simp only [Bool.and_eq_true,Bool.or_eq_true] at h
  exact h.1.imp id ancB_spec
 ·simp only [Bool.and_eq_true,dirB_spec hd] at h
  exact absurd h.2 (by decide)
 ·have:=List.all_eq_true.1 hself x hx
  rw [dirB_spec hd] at this; cases this
 ·obtain ⟨o,e,h1,h2,_,h4⟩:=hd
  have h5:=allBelow_spec hrange x (Array.getElem?_eq_some_iff.1 h1).1
  simp only [h1] at h5
  obtain ⟨k,hk,he⟩:=Array.getElem_of_mem h2
  have:=Array.all_eq_true.1 h5 k hk
  rw [he,h4,Nat.blt_eq] at this; exact this
 ·intro i
  simp only [Array.getD_eq_getD_getElem?]
  constructor
  ·intro hi; simp [hlt i hi]
  ·intro hi
   rcases Nat.lt_or_ge i ops.size with h' | h'
   ·exact hin i h'
   ·rw [Array.getElem?_eq_none (by simpa using h')] at hi; cases hi
 ·intro q o _ hl
  exfalso
  rcases Nat.lt_or_ge q ops.size with h' | h'
  ·simp [h'] at hl
  ·simp [h'] at hl
theorem WPS.region2 {F:List FuncId} (hF:Enters P F) (hm:P.follows .mixedOrders=true) {n:Nat} (L:List Nat) {id:Nat} {K:Kont} {r:Env} {m:Mem} {x y:Nat} {late:List Nat} (c:splitOk ops x y late=true)
  {S1 S2 l1 l2:List Nat} (d1:drawOk2 (withEdge ops x y) (clsIn P S1) l1=true) (d2:drawOk2 (withEdge ops y x) (clsIn P S2) l2=true)
  (h1:opsW P F n S1 (withEdge ops x y) (fun r m=>K.kn (Env.keep L r) m) l1 [] r m) (h2:opsW P F n S2 (withEdge ops y x) (fun r m=>K.kn (Env.keep L r) m) l2 [] r m):WPS P n (.region id ops true) K r m:=by
 intro a w ha hw
 refine wp_region_any hm (wpAny_two c ?_ ?_)
 ·have:=wpAny_of_runS (Q:=Lift n K w) d1 (fun a' w' ⟨r',g1,g2,g3⟩=>⟨_,g1.keep L,g2,g3⟩) (opsW_sound hF h1 .no a { w with drawn:=w.drawn+1 } (fun _ _ h=>h.elim) ha hw)
  rwa [withEdge_size] at this
 ·have:=wpAny_of_runS (Q:=Lift n K w) d2 (fun a' w' ⟨r',g1,g2,g3⟩=>⟨_,g1.keep L,g2,g3⟩) (opsW_sound hF h2 .no a { w with drawn:=w.drawn+1 } (fun _ _ h=>h.elim) ha hw)
  rwa [withEdge_size] at this
theorem WPS.region3 {F:List FuncId} (hF:Enters P F) (hm:P.follows .mixedOrders=true) {n:Nat} (L:List Nat) {id:Nat} {K:Kont} {r:Env} {m:Mem} {x y z:Nat} {late1 late2:List Nat} (c1:splitOk ops x y late1=true) (c2:splitOk (withEdge ops y x) x z late2=true)
  {S1 S2 S3 l1 l2 l3:List Nat} (d1:drawOk2 (withEdge ops x y) (clsIn P S1) l1=true) (d2:drawOk2 (withEdge (withEdge ops y x) x z) (clsIn P S2) l2=true) (d3:drawOk2 (withEdge (withEdge ops y x) z x) (clsIn P S3) l3=true)
  (h1:opsW P F n S1 (withEdge ops x y) (fun r m=>K.kn (Env.keep L r) m) l1 [] r m) (h2:opsW P F n S2 (withEdge (withEdge ops y x) x z) (fun r m=>K.kn (Env.keep L r) m) l2 [] r m) (h3:opsW P F n S3 (withEdge (withEdge ops y x) z x) (fun r m=>K.kn (Env.keep L r) m) l3 [] r m):WPS P n (.region id ops true) K r m:=by
 intro a w ha hw
 refine wp_region_any hm (wpAny_two c1 ?_ ?_)
 ·have:=wpAny_of_runS (Q:=Lift n K w) d1 (fun a' w' ⟨r',g1,g2,g3⟩=>⟨_,g1.keep L,g2,g3⟩) (opsW_sound hF h1 .no a { w with drawn:=w.drawn+1 } (fun _ _ h=>h.elim) ha hw)
  rwa [withEdge_size] at this
 ·have k2:=wpAny_of_runS (Q:=Lift n K w) d2 (fun a' w' ⟨r',g1,g2,g3⟩=>⟨_,g1.keep L,g2,g3⟩) (opsW_sound hF h2 .no a { w with drawn:=w.drawn+1 } (fun _ _ h=>h.elim) ha hw)
  have k3:=wpAny_of_runS (Q:=Lift n K w) d3 (fun a' w' ⟨r',g1,g2,g3⟩=>⟨_,g1.keep L,g2,g3⟩) (opsW_sound hF h3 .no a { w with drawn:=w.drawn+1 } (fun _ _ h=>h.elim) ha hw)
  have:=wpAny_two c2 (by rwa [withEdge_size] at k2) (by rwa [withEdge_size] at k3)
  rwa [withEdge_size] at this
end
end Go.M

set_option maxRecDepth 100000
namespace Go.M
open Go Go.Proofs
def L_impl_Again:List Nat:=[0,1,2,3,4,10,11,12,13,40]
def r_impl_Again:List ResultVar:=[.tmp 10,.tmp 11]
noncomputable def c_impl_Again:Code:=(Go.Proofs.Tryz.f5.body).getD .skip
theorem b_impl_Again:Go.Proofs.Tryz.f5.body=some c_impl_Again:=by kernel_rfl
noncomputable def c_impl_Again_rrr:Code:=(rgt (rgt (rgt c_impl_Again)))
noncomputable def c_impl_Again_rrrr:Code:=(rgt c_impl_Again_rrr)
def k_impl_Again_rrrr:List Nat:=[4,12,13]
theorem p_impl_Again_rrrr (x1:Int) (v2:Value) (v3:Value) (m:Mem) (K:Kont)
  (h:isIfc v3=true∧ifB (!(isNil v3)) (K.kr [(4,.int .i64 x1),(10,.slice none 0 0),(11,.int .i64 4),(12,v2),(13,v3)] m) (CallM PP f_impl_all #[v2,.int .i64 x1] m fun v8 m9=>∃ a4 l5,∃ k6 x7,v8=.tuple #[.slice a4 l5 k6,.int .i64 x7]∧K.kr [(4,.int .i64 x1),(10,.slice a4 l5 k6),(11,.int .i64 x7),(12,v2),(13,v3)] m9)):
  wpc PP FF 46 L_impl_Again c_impl_Again_rrrr K [(4,.int .i64 x1),(12,v2),(13,v3)] m:=
 Eq.mpr (by kernel_rfl) h
theorem i_impl_Again:∃ fn,PP.funcs[f_impl_Again]?=some fn∧fn.body=some c_impl_Again∧fn.ntmps=46∧fn.results.toList=r_impl_Again:=⟨_,Tryz.func5,b_impl_Again,Tryz.ntmps5,by kernel_rfl⟩
def L_decompressor_Reset:List Nat:=[0,1,2,6]
def r_decompressor_Reset:List ResultVar:=[.tmp 6]
noncomputable def c_decompressor_Reset:Code:=(Go.Proofs.Tryz.f103.body).getD .skip
theorem b_decompressor_Reset:Go.Proofs.Tryz.f103.body=some c_decompressor_Reset:=by kernel_rfl
theorem i_decompressor_Reset:∃ fn,PP.funcs[f_decompressor_Reset]?=some fn∧fn.body=some c_decompressor_Reset∧fn.ntmps=34∧fn.results.toList=r_decompressor_Reset:=⟨_,Tryz.func103,b_decompressor_Reset,Tryz.ntmps103,by kernel_rfl⟩
end Go.M

namespace Go.M
open Go
set_option maxRecDepth 100000
noncomputable def agOps:Array Oper:=opsOf (lft c_impl_Again_rrr)
theorem ag_c:splitOk agOps 3 5 [4,7,11,12]=true:=by kernel_rfl
theorem ag_d1:drawOk2 (withEdge agOps 3 5) (clsIn PP []) [0,1,2,3,4,5,6,7,8,9,10,11,12]=true:=by kernel_rfl
theorem ag_d2:drawOk2 (withEdge agOps 5 3) (clsIn PP []) [0,1,2,5,3,4,6,7,8,9,10,11,12]=true:=by kernel_rfl
theorem ag_s:c_impl_Again_rrr=.seq (.region 3 agOps true) c_impl_Again_rrrr:=by kernel_rfl
theorem again_reset (a0:Option Addr) (l0 k0:Nat) (x1:Int) (a2:Option Addr) (l2 k2:Nat) (a3:Option Addr) (l3 k3:Nat) (x4:Int) (v5:Value) (m:Mem) (R:Value→Mem→Prop)
  (h1:PureW PP (Instr.typeAssert v5 t_io_ReadCloser t_flate_Resetter false) fun u6=>∃ (v7:Value),u6=v7∧CallM PP f_impl_source #[.slice a2 l2 k2] m fun v8 m1=>∃ (p9:Option Addr),v8=.pointer p9∧SemW PP (sv (Instr.buildSlice t_s_uint8 0 #[])) m1 (NextW PP fun v10 m2=>∃ (a11:Option Addr),∃ (l12:Nat),∃ (k13:Nat),v10=.slice a11 l12 k13∧SemW PP (builtin .append #[t_s_uint8,t_s_uint8] t_s_uint8 #[false,false] #[.slice a11 l12 k13,.slice a3 l3 k3]) m2 (NextW PP fun v14 m3=>∃ (a15:Option Addr),∃ (l16:Nat),∃ (k17:Nat),v14=.slice a15 l16 k17∧PureW PP (methNil "Reset" #[v7]) fun _=>SemW PP (callMethod v7 "Reset" #[.iface t_p_bytes_Reader (.pointer p9),.slice a15 l16 k17]) m3 (NextW PP fun v18 m19=>∃ (v30:Value),v18=v30∧WPS PP 46 c_impl_Again_rrrr (retK PP r_impl_Again R) [(0,.slice a0 l0 k0),(1,.int .i64 x1),(2,.slice a2 l2 k2),(3,.slice a3 l3 k3),(4,.int .i64 x4),(10,.slice none 0 0),(11,.int .i64 0),(12,v5),(13,v30)] m19))))
  (h2:PureW PP (Instr.typeAssert v5 t_io_ReadCloser t_flate_Resetter false) fun u6=>∃ (v7:Value),u6=v7∧SemW PP (sv (Instr.buildSlice t_s_uint8 0 #[])) m (NextW PP fun v10 m1=>∃ (a11:Option Addr),∃ (l12:Nat),∃ (k13:Nat),v10=.slice a11 l12 k13∧CallM PP f_impl_source #[.slice a2 l2 k2] m1 fun v8 m2=>∃ (p9:Option Addr),v8=.pointer p9∧SemW PP (builtin .append #[t_s_uint8,t_s_uint8] t_s_uint8 #[false,false] #[.slice a11 l12 k13,.slice a3 l3 k3]) m2 (NextW PP fun v14 m3=>∃ (a15:Option Addr),∃ (l16:Nat),∃ (k17:Nat),v14=.slice a15 l16 k17∧PureW PP (methNil "Reset" #[v7]) fun _=>SemW PP (callMethod v7 "Reset" #[.iface t_p_bytes_Reader (.pointer p9),.slice a15 l16 k17]) m3 (NextW PP fun v18 m19=>∃ (v30:Value),v18=v30∧WPS PP 46 c_impl_Again_rrrr (retK PP r_impl_Again R) [(0,.slice a0 l0 k0),(1,.int .i64 x1),(2,.slice a2 l2 k2),(3,.slice a3 l3 k3),(4,.int .i64 x4),(10,.slice none 0 0),(11,.int .i64 0),(12,v5),(13,v30)] m19)))):
  WPS PP 46 c_impl_Again_rrr (retK PP r_impl_Again R) [(0,.slice a0 l0 k0),(1,.int .i64 x1),(2,.slice a2 l2 k2),(3,.slice a3 l3 k3),(4,.int .i64 x4),(10,.slice none 0 0),(11,.int .i64 0),(12,v5)] m:=by
 rw [ag_s]
 refine WPS.seq (WPS.region2 ffOk mixedOk L_impl_Again ag_c ag_d1 ag_d2 ?_ ?_)
 ·exact Eq.mpr (by kernel_rfl) h1
 ·exact Eq.mpr (by kernel_rfl) h2
noncomputable def c_again_read:Code:=.seq (lft (rgt (rgt c_impl_Again))) c_impl_Again_rrr
theorem ag_s0:c_impl_Again=.seq (lft c_impl_Again) (.seq (lft (rgt c_impl_Again)) c_again_read):=by kernel_rfl
theorem again_read (a0:Option Addr) (l0 k0:Nat) (x1:Int) (a2:Option Addr) (l2 k2:Nat) (a3:Option Addr) (l3 k3:Nat) (x4:Int) (v5:Value) (m:Mem) (R:Value→Mem→Prop)
  (h:SemW PP (sv (Instr.makeSlice t_s_uint8 (.int .i64 (if (if (65536:Int) < x1 then 65536 else x1) > 0 then if (65536:Int) < x1 then 65536 else x1 else 0)) (.int .i64 (if (if (65536:Int) < x1 then 65536 else x1) > 0 then if (65536:Int) < x1 then 65536 else x1 else 0)))) m (NextW PP fun v6 m1=>∃ (a7:Option Addr),∃ (l8:Nat),∃ (k9:Nat),v6=.slice a7 l8 k9∧PureW PP (methNil "Read" #[v5]) fun _=>SemW PP (callMethod v5 "Read" #[.slice a7 l8 k9]) m1 (NextW PP fun v10 m2=>∃ (x11:Int),∃ (v12:Value),v10=.tuple #[.int .i64 x11,v12]∧WPS PP 46 c_impl_Again_rrr (retK PP r_impl_Again R) [(0,.slice a0 l0 k0),(1,.int .i64 x1),(2,.slice a2 l2 k2),(3,.slice a3 l3 k3),(4,.int .i64 x4),(10,.slice none 0 0),(11,.int .i64 0),(12,v5)] m2)) ):
  WPS PP 46 c_again_read (retK PP r_impl_Again R) [(0,.slice a0 l0 k0),(1,.int .i64 x1),(2,.slice a2 l2 k2),(3,.slice a3 l3 k3),(4,.int .i64 x4),(10,.slice none 0 0),(11,.int .i64 0),(12,v5)] m:=
 WPS.seq (wpc_sound ffOk mixedOk (L:=L_impl_Again) (Eq.mpr (by kernel_rfl) h))
theorem e_impl_Again (a0:Option Addr) (l0 k0:Nat) (x1:Int) (a2:Option Addr) (l2 k2:Nat) (a3:Option Addr) (l3 k3:Nat) (x4:Int) (m:Mem) (R:Value→Mem→Prop)
  (h:CallM PP f_impl_source #[.slice a0 l0 k0] m fun v5 m1=>∃ (p6:Option Addr),v5=.pointer p6∧CallM PP f_inflate_NewReader #[.iface t_p_bytes_Reader (.pointer p6)] m1 fun v7 m2=>∃ (v8:Value),v7=v8∧WPS PP 46 c_again_read (retK PP r_impl_Again R) [(0,.slice a0 l0 k0),(1,.int .i64 x1),(2,.slice a2 l2 k2),(3,.slice a3 l3 k3),(4,.int .i64 x4),(10,.slice none 0 0),(11,.int .i64 0),(12,v8)] m2):
  CallM PP f_impl_Again #[.slice a0 l0 k0,.int .i64 x1,.slice a2 l2 k2,.slice a3 l3 k3,.int .i64 x4] m R:=by
 obtain ⟨fn,h1,h2,h3,h4⟩:=i_impl_Again
 refine callM_enterS 46 h1 h2 h3 (by simp) ?_
 rw [h4]
 show WPS PP 46 c_impl_Again (retK PP r_impl_Again R) [(0,.slice a0 l0 k0),(1,.int .i64 x1),(2,.slice a2 l2 k2),(3,.slice a3 l3 k3),(4,.int .i64 x4)] m
 rw [ag_s0]
 refine WPS.seq (wpc_sound ffOk mixedOk (L:=L_impl_Again) ?_)
 refine Eq.mpr (by kernel_rfl) (?_:WPS PP 46 (.seq (lft (rgt c_impl_Again)) c_again_read) (retK PP r_impl_Again R) [(0,.slice a0 l0 k0),(1,.int .i64 x1),(2,.slice a2 l2 k2),(3,.slice a3 l3 k3),(4,.int .i64 x4),(10,.slice none 0 0),(11,.int .i64 0)] m)
 exact WPS.seq (wpc_sound ffOk mixedOk (L:=L_impl_Again) (Eq.mpr (by kernel_rfl) h))
end Go.M

namespace Go.M
open Go
set_option maxRecDepth 100000
def rzHead (p5:Option Addr):List Value:=[.nilIface,.pointer p5,.int .i64 0,.int .u32 0,.int .u64 0]
def rzTail (p6 p7 a8:Option Addr) (l9 k10:Nat) (x11 x12:Int) (b13:Bool):List Value:=
 [.pointer p6,.pointer p7,.slice a8 l9 k10,.int .i64 x11,.int .i64 x12,.bool b13,.int .u8 0,.int .u8 0,.int .u8 0,.int .u8 0,.func (.func f_decompressor_nextBlock) #[] #[],.int .i64 0,.bool false,.nilIface,.slice none 0 0,.pointer none,.pointer none,.int .i64 0,.int .i64 0]
def rzList (p5 p6 p7 a8:Option Addr) (l9 k10:Nat) (x11 x12:Int) (b13:Bool):List Value:=rzHead p5++(hzList++(hzList++rzTail p6 p7 a8 l9 k10 x11 x12 b13))
theorem e_decompressor_Reset (f:Nat) (v1:Value) (a2:Option Addr) (l3:Nat) (k4:Nat) (m:Mem) (R:Value→Mem→Prop)
  (h:∃ (p5:Option Addr),cell? m ⟨f,1,none⟩=some (.pointer p5)∧∃ (p6:Option Addr),cell? m ⟨f,1035,none⟩=some (.pointer p6)∧∃ (p7:Option Addr),cell? m ⟨f,1036,none⟩=some (.pointer p7)∧
   ∃ (a8:Option Addr),∃ (l9:Nat),∃ (k10:Nat),∃ (x11:Int),∃ (x12:Int),∃ (b13:Bool),([.slice a8 l9 k10,.int .i64 x11,.int .i64 x12,.bool b13]:List Value).length=4∧CellsAre m ⟨f,1037,none⟩ 0 [.slice a8 l9 k10,.int .i64 x11,.int .i64 x12,.bool b13]∧
   StAgg PP t_flate_decompressor m ⟨f,0,none⟩ (.agg (rzList p5 p6 p7 a8 l9 k10 x11 x12 b13).toArray) fun m14=>CallM PP f_decompressor_makeReader #[.pointer (some ⟨f,0,none⟩),v1] m14 fun v15 m16=>v15=.tuple #[]∧CallM PP f_dictDecoder_init #[.pointer (some ⟨f,1037,none⟩),.int .i64 32768,.slice a2 l3 k4] m16 fun v17 m18=>v17=.tuple #[]∧R (.nilIface) m18):
  CallM PP f_decompressor_Reset #[.pointer (some ⟨f,0,none⟩),v1,.slice a2 l3 k4] m R:=by
 obtain ⟨fn,h1,h2,h3,h4⟩:=i_decompressor_Reset
 refine callM_enterS 34 h1 h2 h3 (by simp) ?_
 rw [h4]
 exact wpc_sound ffOk mixedOk (L:=L_decompressor_Reset) (Eq.mpr (by kernel_rfl) h)
theorem reset_store {m:Mem} {a:Addr} {p5 p6 p7 a8:Option Addr} {l9 k10:Nat} {x11 x12:Int} {b13:Bool} {K:Mem→Prop} (h:SemW PP (storeCells a (rzList p5 p6 p7 a8 l9 k10 x11 x12 b13) 0) m fun _ m'=>K m'):StAgg PP t_flate_decompressor m a (.agg (rzList p5 p6 p7 a8 l9 k10 x11 x12 b13).toArray) K:=Eq.mpr (by kernel_rfl) h
theorem callM_Reset (f:Nat) (x y:Value) (m:Mem) (K:Value→Mem→Prop) (h:CallM PP f_decompressor_Reset #[.pointer (some ⟨f,0,none⟩),x,y] m K):
  SemW PP (callMethod (.iface t_p_flate_decompressor (.pointer (some ⟨f,0,none⟩))) "Reset" #[x,y]) m (NextW PP K):=Eq.mpr (by kernel_rfl) h
theorem meth_Reset (f:Nat) (K:Unit→Prop) (h:K ()):PureW PP (methNil "Reset" #[.iface t_p_flate_decompressor (.pointer (some ⟨f,0,none⟩))]) K:=Eq.mpr (by kernel_rfl) h
theorem meth_ReadD (f:Nat) (K:Unit→Prop) (h:K ()):PureW PP (methNil "Read" #[.iface t_p_flate_decompressor (.pointer (some ⟨f,0,none⟩))]) K:=Eq.mpr (by kernel_rfl) h
theorem assert_reset (f:Nat) (K:Value→Prop) (h:K (.iface t_p_flate_decompressor (.pointer (some ⟨f,0,none⟩)))):
  PureW PP (Instr.typeAssert (.iface t_p_flate_decompressor (.pointer (some ⟨f,0,none⟩))) t_io_ReadCloser t_flate_Resetter false) K:=Eq.mpr (by kernel_rfl) h
end Go.M

namespace Go.M
open Go
set_option maxRecDepth 100000
theorem rz_head {p5 p6 p7 a8:Option Addr} {l9 k10:Nat} {x11 x12:Int} {b13:Bool} {i:Nat} (h:i < 5):(rzList p5 p6 p7 a8 l9 k10 x11 x12 b13)[i]?=(rzHead p5)[i]?:=List.getElem?_append_left (by simpa [rzHead] using h)
theorem rz_h1 {p5 p6 p7 a8:Option Addr} {l9 k10:Nat} {x11 x12:Int} {b13:Bool} {i:Nat} (h:i < 515):(rzList p5 p6 p7 a8 l9 k10 x11 x12 b13)[5+i]?=hzList[i]?:=by
 unfold rzList
 rw [List.getElem?_append_right (by simp [rzHead]),List.getElem?_append_left (by rw [hzList_len]; simp [rzHead]; omega)]
 congr 1; simp [rzHead]
theorem rz_h2 {p5 p6 p7 a8:Option Addr} {l9 k10:Nat} {x11 x12:Int} {b13:Bool} {i:Nat} (h:i < 515):(rzList p5 p6 p7 a8 l9 k10 x11 x12 b13)[520+i]?=hzList[i]?:=by
 unfold rzList
 rw [List.getElem?_append_right (by simp [rzHead]; omega),List.getElem?_append_right (by rw [hzList_len]; simp [rzHead]; omega),List.getElem?_append_left (by rw [hzList_len]; simp [rzHead]; omega)]
 congr 1; rw [hzList_len]; simp [rzHead]; omega
theorem rz_tail {p5 p6 p7 a8:Option Addr} {l9 k10:Nat} {x11 x12:Int} {b13:Bool} {i:Nat}:(rzList p5 p6 p7 a8 l9 k10 x11 x12 b13)[1035+i]?=(rzTail p6 p7 a8 l9 k10 x11 x12 b13)[i]?:=by
 unfold rzList
 rw [List.getElem?_append_right (by simp [rzHead]; omega),List.getElem?_append_right (by rw [hzList_len]; simp [rzHead]; omega),List.getElem?_append_right (by rw [hzList_len]; simp [rzHead]; omega)]
 congr 1; rw [hzList_len]; simp [rzHead]; omega
theorem rz_len {p5 p6 p7 a8:Option Addr} {l9 k10:Nat} {x11 x12:Int} {b13:Bool}:(rzList p5 p6 p7 a8 l9 k10 x11 x12 b13).length=1054:=by simp [rzList,rzHead,rzTail,hzList_len]
theorem rz_cells {p5 p6 p7 a8:Option Addr} {l9 k10:Nat} {x11 x12:Int} {b13:Bool}:∀ v ∈ rzList p5 p6 p7 a8 l9 k10 x11 x12 b13,isCell v=true:=by
 have h0:(hzList.all isCell)=true:=by kernel_rfl
 have h0:=List.all_eq_true.1 h0
 intro v hv
 unfold rzList at hv
 rcases List.mem_append.1 hv with h | h
 ·simp only [rzHead,List.mem_cons,List.not_mem_nil,or_false] at h
  rcases h with rfl | rfl | rfl | rfl | rfl <;> rfl
 rcases List.mem_append.1 h with h | h
 ·exact h0 v h
 rcases List.mem_append.1 h with h | h
 ·exact h0 v h
 ·simp only [rzTail,List.mem_cons,List.not_mem_nil,or_false] at h
  rcases h with rfl | rfl | rfl | rfl | rfl | rfl | rfl | rfl | rfl | rfl | rfl | rfl | rfl | rfl | rfl | rfl | rfl | rfl | rfl <;> rfl
structure Stand (f bh bb cb:Nat) (m:Mem):Prop where
 own:OwnF f m
 rb:∃ p,cell? m ⟨f,1,none⟩=some (.pointer p)
 bits:cell? m ⟨f,1035,none⟩=some (.pointer (some ⟨bb,0,none⟩))
 cbits:cell? m ⟨f,1036,none⟩=some (.pointer (some ⟨cb,0,none⟩))
 wb:∀ i,i < 316→Wr m ⟨bb,i,none⟩
 wc:∀ i,i < 19→Wr m ⟨cb,i,none⟩
 dict:∃ h wr rd full,DictAt m f bh h wr rd full
 bbf:bb≠f
 cbf:cb≠f
 bbc:bb≠cb
 bbh:bb≠bh
 cbh:cb≠bh
 lob:4 < bb
 loc:4 < cb
section
variable {E:Errs} {src:List Nat} {D:Rdr E src} {f bh bb cb:Nat}
theorem Live.stand {m:Mem} {Hf:List Nat} {e:Er} {pf Dl:Nat} (h:Live D f bh bb cb Hf e pf Dl m):Stand f bh bb cb m:=by
 have key:AuxW D f bh bb cb m∧OwnF f m∧∃ H wr rd,Win m f bh H wr rd:=by
  rcases h with ⟨s,pos,wr,rd,l,h1,h2⟩ | ⟨wr,l,h1,h2⟩
  ·exact ⟨h2.weak,h1.base.inn.own,_,_,_,h1.base.win⟩
  ·exact ⟨h2,h1.own,_,_,_,h1.win⟩
 obtain ⟨hA,hO,H,wr,rd,hW⟩:=key
 obtain ⟨h,full,hD,_⟩:=hW.ex
 exact ⟨hO,hA.rb,hA.bits,hA.cbits,hA.wb,hA.wc,⟨h,_,_,full,hD⟩,hA.st.bbf,hA.st.cbf,hA.st.bbc,hA.st.bbh,hA.st.cbh,hA.st.lob,hA.st.loc⟩
theorem Stand.fr {m m':Mem} {S:Nat→Nat→Prop} (h:Stand f bh bb cb m) (hf:Fr S m m') (h1:∀ j, ¬ S f j) (h2:∀ j, ¬ S bh j):Stand f bh bb cb m':=by
 obtain ⟨d1,d2,d3,d4,d5⟩:=h.dict
 refine ⟨h.own.fr hf,h.rb.imp fun _ hp=>hf.cell hp (h1 _),hf.cell h.bits (h1 _),hf.cell h.cbits (h1 _),fun i hi=>(h.wb i hi).fr hf,fun i hi=>(h.wc i hi).fr hf,⟨d1,d2,d3,d4,d5.fr hf ?_⟩,h.bbf,h.cbf,h.bbc,h.bbh,h.cbh,h.lob,h.loc⟩
 rintro i j (⟨rfl,_⟩ | rfl)
 ·exact h1 _
 ·exact h2 _
theorem live_new {m:Mem} {d:List Nat} {wr:Nat} (hin:In D f 0 0 m) (hG:Glob E m) (hW:Win m f bh (last32 d) wr wr) (hwr:wr < 32768) (k10:cell? m ⟨f,1045,none⟩=some (stepF f_decompressor_nextBlock)) (k11:cell? m ⟨f,1046,none⟩=some (.int .i64 ((0:Nat):Int))) (k13:cell? m ⟨f,1048,none⟩=some .nilIface)
  (k14:cell? m ⟨f,1049,none⟩=some (.slice none 0 0)) (k17:cell? m ⟨f,1052,none⟩=some (.int .i64 ((0:Nat):Int))) (k18:cell? m ⟨f,1053,none⟩=some (.int .i64 ((0:Nat):Int))) (hA:Aux D f bh bb cb m) (nbh:∀ j, ¬ D.S bh j) (hlo:4 < bh) (hne:bh≠f)
  {Hf:List Nat} {e:Er} {pf:Nat} (hr:Runs (scOf src) ⟨0,last32 d,.block⟩ Hf e pf):Live D f bh bb cb Hf e pf (last32 d).length m:=by
 refine .inl ⟨⟨0,last32 d,.block⟩,0,wr,wr,0,?_,hA⟩
 have hB:Base D f bh m 0 0 (last32 d) wr wr:=⟨hin,hG,hW,nbh,hlo,hne⟩
 have hP:Pend m f bh (last32 d) wr wr (last32 d).length 0:=.none k14 (by omega)
 have h07:8 * 0≤0+7:=by omega
 have hmode:ModeAt D f bh m 0 0 (last32 d) .block:=⟨k10,h07,0,0,0,⟨k11,k17,k18⟩,.inl rfl⟩
 constructor
 ·simp only
  exact hB
 ·exact hwr
 ·simp only
  exact hP
 ·simp only
  exact hmode
 ·exact ⟨hr,Frm.begin _ _⟩
 ·exact k13
 ·exact fun h0=>absurd h0 (Nat.lt_irrefl _)
theorem dictInit_old {m:Mem} {h:Nat→Int} {x1 x2:Int} {b3:Bool} (hc:cell? m ⟨f,1037,none⟩=some (.slice (some ⟨bh,0,none⟩) 32768 32768)) (hd:∀ i,i < 32768→cell? m ⟨bh,i,none⟩=some (.int .u8 (h i))) (wf:∀ i,1037≤i→i≤1040→Wr m ⟨f,i,none⟩) (wh:∀ i,i < 32768→Wr m ⟨bh,i,none⟩) (hne:bh≠f)
  (_:cell? m ⟨f,1038,none⟩=some (.int .i64 x1)) (_:cell? m ⟨f,1039,none⟩=some (.int .i64 x2)) (_:cell? m ⟨f,1040,none⟩=some (.bool b3))
  {a:Option Addr} {dl dk db dq:Nat} {d:List Nat} (hs:SlcB m a dl dk db dq d) (hdb:0 < dl→db≠f∧db≠bh) (hbig:dl < 4611686018427387904) {R:Value→Mem→Prop}
  (hk:∀ m' wr,Win m' f bh (last32 d) wr wr→wr < 32768→Fr (DictS f bh) m m'→R (.tuple #[]) m'):CallM PP f_dictDecoder_init #[.pointer (some ⟨f,1037,none⟩),.int .i64 32768,.slice a dl dk] m R:=by
 refine e_dictDecoder_init f 32768 a dl dk m R ⟨_,_,_,hc,dict_store (Row.storeCells (vs:=[.slice (some ⟨bh,0,none⟩) 32768 32768,.int .i64 0,.int .i64 0,.bool false]) (i:=0) (fun v hv=>?_) (fun j hj=>?_) fun m1 r1 f1 s1=>?_)⟩
 ·simp only [List.mem_cons,List.not_mem_nil,or_false] at hv
  rcases hv with rfl | rfl | rfl | rfl <;> rfl
 ·simp only [List.length_cons,List.length_nil] at hj
  rw [Nat.add_zero]
  exact wf _ (by omega) (by omega)
 have f1':Fr (fun i j=>i=f∧1037≤j∧j≤1040) m m1:=f1.mono fun i j ⟨e,h1,h2⟩=>⟨e,by omega,by simp only [List.length_cons,List.length_nil] at h2; omega⟩
 have c0:cell? m1 ⟨f,1037,none⟩=some (.slice (some ⟨bh,0,none⟩) 32768 32768):=r1 0 _ rfl
 refine ⟨_,_,_,c0,?_⟩
 have hlt:decide (((32768:Nat):Int) < 32768)=false:=by decide
 rw [hlt]
 refine ifB_f ?_
 have main:∀ (db':Nat),SlcB m1 a dl dk db' dq d→db'≠f→db'≠bh→WPS PP 84 c_dictDecoder_init_rr (retK PP r_dictDecoder_init R) [(0,.pointer (some ⟨f,1037,none⟩)),(1,.int .i64 32768),(2,.slice a dl dk)] m1:=fun db' hs3 h1 h2=>
  dictInit_tail (h:=h) (hc:=c0) (Nat.le_refl _) (r1 1 _ rfl) (r1 2 _ rfl) (r1 3 _ rfl) (fun i hi=>f1'.cell (hd i hi) (by rintro ⟨e,_⟩; exact hne e)) (fun i h1 h2=>(wf i h1 h2).fr f1) (fun i hi=>(wh i hi).fr f1) hne hs3 ⟨h1,h2⟩ hbig
   (fun m4 wr hW hw hF r=>hk m4 wr hW hw ((f1'.mono fun i j h=>.inl h).trans hF)) rfl
 by_cases hz:dl=0
 ·subst hz
  exact main (f+bh+1) ⟨hs.len,hs.cap,fun h=>by omega,fun i hi=>by omega,hs.byte⟩ (by omega) (by omega)
 ·have h1:=hdb (by omega)
  exact main db (hs.fr f1' (by rintro j _ _ ⟨e,_⟩; exact h1.1 e)) h1.1 h1.2
theorem reset_spec {m:Mem} (hS:Stand f bh bb cb m) (hlof:4 < f) (hlobh:4 < bh) {rb db:Nat} (hlo:4 < rb∧4 < db) (hA:BytesAt src rb db 0 m) (hG:Glob E m) (hdb:db < m.size) (hb:∀ v ∈ src,v < 256) (hbig:src.length < 1152921504606846976)
  (apr:rb≠f∧rb≠bh∧rb≠bb∧rb≠cb) (apd:db≠f∧db≠bh∧db≠bb∧db≠cb) {a:Option Addr} {dl dk ab aq:Nat} {d:List Nat} (hs:SlcB m a dl dk ab aq d) (hab:0 < dl→ab≠f∧ab≠bh) (hdl:dl < 4611686018427387904) {R:Value→Mem→Prop}
  (hk:∀ m',(∀ Hf e pf,Runs (scOf src) ⟨0,last32 d,.block⟩ Hf e pf→Live (bytesRdr E src rb db hlo) f bh bb cb Hf e pf (last32 d).length m')→Fr (fun i _=>i=f∨i=bh) m m'→R .nilIface m'):
  CallM PP f_decompressor_Reset #[.pointer (some ⟨f,0,none⟩),.iface t_p_bytes_Reader (.pointer (some ⟨rb,0,none⟩)),.slice a dl dk] m R:=by
 obtain ⟨p5,hp5⟩:=hS.rb
 obtain ⟨h,wr,rd,full,hD⟩:=hS.dict
 have hne:=hD.ne
 have hrb:rb < m.size:=by have:=cell_block hA.i; simpa using this
 refine e_decompressor_Reset f _ a dl dk m R ⟨p5,hp5,_,hS.bits,_,hS.cbits,_,_,_,_,_,_,rfl,⟨hD.hist,hD.wr,hD.rd,hD.full,trivial⟩,reset_store (Row.storeCells (i:=0) rz_cells (fun j hj=>?_) fun m1 r1 f1 s1=>?_)⟩
 ·rw [rz_len] at hj
  rw [show 0+0+j=j from by omega]
  exact hS.own j hj
 have row:∀ (j:Nat) v,(rzList p5 (some ⟨bb,0,none⟩) (some ⟨cb,0,none⟩) (some ⟨bh,0,none⟩) 32768 32768 (wr:Int) (rd:Int) full)[j]?=some v→cell? m1 ⟨f,j,none⟩=some v:=fun j v hv=>by
  have:=r1 j v hv
  rwa [show 0+0+j=j from by omega] at this
 have F1:Fr (fun i _=>i=f) m m1:=f1.mono fun i j h=>h.1
 refine makeReader_bytes (hS.own.fr F1) fun m2 c2 d2 f2 s2=>⟨rfl,?_⟩
 have F2:Fr (fun i _=>i=f) m m2:=F1.trans (f2.mono fun i j h=>h.1)
 have tl:∀ i v,(rzTail (some ⟨bb,0,none⟩) (some ⟨cb,0,none⟩) (some ⟨bh,0,none⟩) 32768 32768 (wr:Int) (rd:Int) full)[i]?=some v→cell? m2 ⟨f,1035+i,none⟩=some v:=fun i v hv=>f2.cell (row _ v (by rw [rz_tail]; exact hv)) (by simp only; omega)
 have hd:∀ i v,(rzHead p5)[i]?=some v→2≤i→i < 5→cell? m2 ⟨f,i,none⟩=some v:=fun i v hv h1 h2=>f2.cell (row i v (by rw [rz_head h2]; exact hv)) (by simp only; omega)
 have own2:=hS.own.fr F2
 have hs2:SlcB m2 a dl dk ab aq d:=by
  rcases Nat.eq_zero_or_pos dl with h0 | h0
  ·exact ⟨hs.len,hs.cap,fun h=>by omega,fun i hi=>by omega,hs.byte⟩
  ·exact hs.fr F2 fun j _ _ e=>(hab h0).1 e
 refine dictInit_old (h:=h) (tl 2 _ rfl) (fun i hi=>F2.cell (hD.data i hi) hne) (fun i h1 h2=>own2 i (by omega)) (fun i hi=>(hD.wh i hi).fr F2) hne (tl 3 _ rfl) (tl 4 _ rfl) (tl 5 _ rfl) hs2 hab hdl fun m3 wr' hW hwr' f3=>⟨rfl,hk m3 (fun Hf e pf hr=>?_) ?_⟩
 ·have F3:Fr (fun i j=>i=f∧1037≤j∧j≤1040∨i=bh) m2 m3:=f3
  have F03:Fr (fun i _=>i=f∨i=bh) m m3:=(F2.mono fun i j h=>.inl h).trans (F3.mono fun i j h=>h.imp (fun h=>h.1) id)
  have nf:∀ j,(j < 1037∨1040 < j)→ ¬ (f=f∧1037≤j∧j≤1040∨f=bh):=by
   rintro j hj (h1 | h1)
   ·omega
   ·exact hne h1.symm
  have hA3:BytesAt src rb db 0 m3:=hA.fr F03 (by
   rintro i j (rfl | rfl) (h | h)
   ·exact apr.1 h
   ·exact apr.2.1 h
   ·exact apd.1 h
   ·exact apd.2.1 h)
  have e0:tk (num src) 0 (8 * 0 - 0)=0:=by simp [tk,Nat.mod_one]
  have hap:∀ j, ¬ (bytesRdr E src rb db hlo).S f j:=by
   rintro j (h | h)
   ·exact apr.1 h.symm
   ·exact apd.1 h.symm
  have hin:In (bytesRdr E src rb db hlo) f 0 0 m3:={ r:=F3.cell c2 (nf _ (by simp)),here:=hA3,off:=F3.cell (hd 2 _ rfl (by decide) (by decide)) (nf _ (by simp)),b:=(by rw [e0]; exact F3.cell (hd 3 _ rfl (by decide) (by decide)) (nf _ (by simp))),nb:=F3.cell (hd 4 _ rfl (by decide) (by decide)) (nf _ (by simp)),le:=Nat.le_refl _,few:=by decide,own:=own2.fr F3,apart:=hap,lo:=hlof,bytes:=hb,big:=hbig }
  have t3:∀ i v,(rzTail (some ⟨bb,0,none⟩) (some ⟨cb,0,none⟩) (some ⟨bh,0,none⟩) 32768 32768 (wr:Int) (rd:Int) full)[i]?=some v→(i < 2∨5 < i)→cell? m3 ⟨f,1035+i,none⟩=some v:=fun i v hv hi=>F3.cell (tl i v hv) (nf _ (by simp only; omega))
  refine live_new hin (hG.fr F03 (by rintro i j (rfl | rfl); exact hlof; exact hlobh)) hW hwr' (t3 10 _ rfl (by decide)) (t3 11 _ rfl (by decide)) (t3 13 _ rfl (by decide)) (t3 14 _ rfl (by decide)) (t3 17 _ rfl (by decide)) (t3 18 _ rfl (by decide)) ?_ (by
   rintro j (h | h)
   ·exact apr.2.1 h.symm
   ·exact apd.2.1 h.symm) hlobh hne hr
  have hz:∀ o,(o=5∨o=520)→HZ m3 f o:=by
   intro o ho
   refine (hnew_row (m:=m3) (fun i v hv=>?_) (fun j hj=>own2.fr F3 _ (by omega))).hz
   have hi:i < 515:=by have:=(List.getElem?_eq_some_iff.1 hv).1; rw [hzList_len] at this; exact this
   refine F3.cell (f2.cell (row (o+i) v ?_) (by simp only; omega)) (nf _ (by simp only; omega))
   rcases ho with rfl | rfl
   ·rw [rz_h1 hi]; exact hv
   ·rw [rz_h2 hi]; exact hv
  refine ⟨⟨hS.bbf,hS.cbf,hS.bbc,hS.bbh,hS.cbh,hS.lob,hS.loc,?_,?_⟩,?_,t3 0 _ rfl (by decide),t3 1 _ rfl (by decide),fun i hi=>(hS.wb i hi).fr F03,fun i hi=>(hS.wc i hi).fr F03,hz 5 (.inl rfl),hz 520 (.inr rfl),⟨_,F3.cell d2 (nf _ (by simp))⟩⟩
  ·rintro j (h | h)
   ·exact apr.2.2.1 h.symm
   ·exact apd.2.2.1 h.symm
  ·rintro j (h | h)
   ·exact apr.2.2.2 h.symm
   ·exact apd.2.2.2 h.symm
  ·have:=F03.size
   rintro i j (rfl | rfl) <;> omega
 ·exact (F2.mono fun i j h=>.inl h).trans (f3.mono fun i j h=>h.imp (fun h=>h.1) id)
end
end Go.M

namespace Go.M
open Go
set_option maxRecDepth 100000
theorem room_of (x:Int):∃ n:Nat,n≤65536∧(if (if (65536:Int) < x then 65536 else x) > 0 then if (65536:Int) < x then 65536 else x else 0)=(n:Int):=by
 refine ⟨(if (if (65536:Int) < x then 65536 else x) > 0 then if (65536:Int) < x then 65536 else x else 0).toNat,?_,?_⟩
 ·split <;> (try split) <;> omega
 ·split <;> (try split) <;> omega
section
variable {E:Errs} {src:List Nat}
theorem Again_spec {m:Mem} {a0 a2 a3:Option Addr} {l0 k0 b0 o0 l2 k2 b2 o2 l3 k3 b3 o3:Nat} {first d:List Nat} (hS0:SlcB m a0 l0 k0 b0 o0 first) (hS2:SlcB m a2 l2 k2 b2 o2 src) (hS3:SlcB m a3 l3 k3 b3 o3 d) (hG:Glob E m) (hb0:l0≤70368744177664) (hb2:l2≤70368744177664) (hb3:l3≤70368744177664) (x:Int) {lim:Int} (hlim:lim≤35184372088832)
  {Hf:List Nat} {e:Er} {pf:Nat} (hr:Runs (scOf src) ⟨0,last32 d,.block⟩ Hf e pf) (hpre:(last32 d).length≤Hf.length) {R:Value→Mem→Prop} (hk:GiveOk Hf e (last32 d).length lim m R):
  CallM PP f_impl_Again #[.slice a0 l0 k0,.int .i64 x,.slice a2 l2 k2,.slice a3 l3 k3,.int .i64 lim] m R:=by
 have h4:=hG.big
 have hlen0:=hS0.len
 have hlen2:=hS2.len
 have hlen3:=hS3.len
 refine e_impl_Again a0 l0 k0 x a2 l2 k2 a3 l3 k3 lim m R ?_
 refine source_spec hS0 hG hb0 fun m1 rb0 db0 hA0 g1 g2 g3 f1=>⟨_,rfl,?_⟩
 have hG1:Glob E m1:=hG.fr (f1 fun _ _=>False) (by intro i j h; exact h.elim)
 have s1:=(f1 fun _ _=>False).size
 refine newReader_bytes (E:=E) (src:=first) ⟨by omega,by omega⟩ hA0 hG1 g3 hS0.byte (by omega) fun m2 f bh bb cb k1 k2' k3' k4 f2 hDf hL=>⟨_,rfl,?_⟩
 have s2:=(f2 fun _ _=>False).size
 obtain ⟨Hg,eg,pg,hrg⟩:=runs_total (scOf_hd first) (8 * first.length) (wt .block) ⟨0,[],.block⟩ (by show 8 * first.length - 0=_; omega) rfl (Nat.zero_le _)
 have hL2:=hL Hg eg pg hrg
 have hlt:=hL2.lt
 have F2:∀ S,Fr S m m2:=fun S=>(f1 S).trans (f2 S)
 obtain ⟨n,hn,hne⟩:=room_of x
 refine again_read a0 l0 k0 x a2 l2 k2 a3 l3 k3 lim _ m2 R ?_
 rw [hne]
 obtain ⟨iu,hi⟩:=one_uint8
 refine make_W (n:=n) u_s_uint8 hi.info hi.zero rfl hi.size rfl rfl (by rw [hi.bytes]; omega) (by omega) fun m3 own3 f3 s3=>⟨_,_,_,rfl,?_⟩
 have hL3:=hL2.fresh f3
 have hB3:Buf (bytesRdr E first rb0 db0 ⟨by omega,by omega⟩) f bh bb cb m3 (some ⟨m2.size,0,none⟩) m2.size 0 n n:=
  ⟨fun _=>rfl,Nat.le_refl _,fun j hj=>own3.wr j (by omega),fun j hj=>⟨0,own3.row j _ (by rw [List.getElem?_replicate,if_pos hj])⟩,fun j hj=>by have:=hlt _ _ hj; omega,by omega,by omega⟩
 have hMw:∀ i j,RdS (bytesRdr E first rb0 db0 ⟨by omega,by omega⟩) f bh bb cb m2.size 0 n i j→m.size≤i:=by
  rintro i j (((rfl | rfl) | rfl | rfl | rfl | rfl) | ⟨rfl,_⟩) <;> omega
 have hfm:=hlt f 0 (.inr (.inl rfl))
 have hbhm:=hlt bh 0 (.inr (.inr (.inl rfl)))
 have hbbm:=hlt bb 0 (.inr (.inr (.inr (.inl rfl))))
 have hcbm:=hlt cb 0 (.inr (.inr (.inr (.inr rfl))))
 have rest:∀ m4,(∀ S,Fr S m m4)→m3.size≤m4.size→Stand f bh bb cb m4→Glob E m4→
   WPS PP 46 c_impl_Again_rrr (retK PP r_impl_Again R) [(0,.slice a0 l0 k0),(1,.int .i64 x),(2,.slice a2 l2 k2),(3,.slice a3 l3 k3),(4,.int .i64 lim),(10,.slice none 0 0),(11,.int .i64 0),(12,.iface t_p_flate_decompressor (.pointer (some ⟨f,0,none⟩)))] m4:=by
  intro m4 F4 s4 hSt hG4
  have fin:∀ m5 rb db a' k' ab aq,BytesAt src rb db 0 m5→SlcB m5 a' l3 k' ab aq d→m4.size≤rb→m4.size≤db→db < m5.size→(0 < l3→m4.size≤ab)→(∀ S,Fr S m4 m5)→∀ v8:Value,v8=.pointer (some ⟨rb,0,none⟩)→
    PureW PP (methNil "Reset" #[.iface t_p_flate_decompressor (.pointer (some ⟨f,0,none⟩))]) fun _=>SemW PP (callMethod (.iface t_p_flate_decompressor (.pointer (some ⟨f,0,none⟩))) "Reset" #[.iface t_p_bytes_Reader (.pointer (some ⟨rb,0,none⟩)),.slice a' l3 k']) m5 (NextW PP fun v18 m19=>∃ (v30:Value),v18=v30∧WPS PP 46 c_impl_Again_rrrr (retK PP r_impl_Again R) [(0,.slice a0 l0 k0),(1,.int .i64 x),(2,.slice a2 l2 k2),(3,.slice a3 l3 k3),(4,.int .i64 lim),(10,.slice none 0 0),(11,.int .i64 0),(12,.iface t_p_flate_decompressor (.pointer (some ⟨f,0,none⟩))),(13,v30)] m19):=by
   intro m5 rb db a' k' ab aq hA hS q1 q2 q3 q4 f5 v8 _
   have s5:=(f5 fun _ _=>False).size
   have hrb5:rb < m5.size:=by have:=cell_block hA.i; simpa using this
   refine meth_Reset f _ (callM_Reset f _ _ m5 _ (reset_spec (hSt.fr (f5 fun _ _=>False) (fun _=>id) fun _=>id) (by omega) (by omega) ⟨by omega,by omega⟩ hA (hG4.fr (f5 fun _ _=>False) (by intro i j h; exact h.elim)) q3 hS2.byte (by omega) ⟨by omega,by omega,by omega,by omega⟩ ⟨by omega,by omega,by omega,by omega⟩ hS (fun h=>by have:=q4 h; exact ⟨by omega,by omega⟩) (by omega) fun m6 hL6 f6=>⟨_,rfl,?_⟩))
   have hL6:=hL6 Hf e pf hr
   refine WPS.piece k_impl_Again_rrrr rfl (p_impl_Again_rrrr lim _ .nilIface m6 _ ⟨rfl,ifB_f ?_⟩)
   have hD6:∀ j, ¬ (bytesRdr E src rb db ⟨by omega,by omega⟩).S f j:=by
    rintro j (h | h) <;> omega
   have F06:Fr (fun i _=>i=f∨i=bh) m m6:=((F4 _).trans (f5 _)).trans f6
   refine all_spec hL6 hpre hD6 (by omega) hlim fun m7 a7 l7 k7 b7 o7 c7 hO7 hb7 hle7 _ hF7 hc7=>⟨_,_,_,_,rfl,?_⟩
   have s6:=f6.size
   refine hk m7 a7 l7 k7 b7 o7 c7 hO7 (fun h=>by have:=hb7 h; omega) hle7 (fun S=>?_) (hc7.imp (fun ⟨h1,h2,_⟩=>⟨h1,h2⟩) id)
   refine Fr.old (S:=fun i j=>m.size≤i) ((F06.mono ?_).trans (hF7.mono ?_)) ?_
   ·rintro i j (rfl | rfl) <;> omega
   ·rintro i j ((rfl | rfl) | rfl | rfl | rfl | rfl) <;> omega
   ·intro i j h1 h2; omega
  refine again_reset a0 l0 k0 x a2 l2 k2 a3 l3 k3 lim _ m4 R ?_ ?_
  ·refine assert_reset f _ ⟨_,rfl,?_⟩
   refine source_spec (hS2.fr (F4 fun _ _=>False) (by intros; exact id)) hG4 hb2 fun m5 rb db hA q1 q2 q3 f5=>⟨_,rfl,?_⟩
   have s5:=(f5 fun _ _=>False).size
   refine copied_W (hS3.fr ((F4 fun _ _=>False).trans (f5 _)) (by intros; exact id)) hb3 fun m6 a' k' ab aq hO q5 q6 _ f6=>?_
   have s6:=(f6 fun _ _=>False).size
   exact fin m6 rb db a' k' ab aq (hA.fr (f6 fun _ _=>False) (by intros; exact id)) (hO.slc hS3.byte) q1 q2 (by omega) (fun _=>by omega) (fun S=>(f5 S).trans (f6 S)) _ rfl
  ·refine assert_reset f _ ⟨_,rfl,?_⟩
   refine buildB_W ⟨_,_,_,rfl,?_⟩
   have f5:∀ S,Fr S m4 (m4.push (.cells #[] t_uint8)):=fun S=>Fr.push _
   have s5:(m4.push (.cells #[] t_uint8)).size=m4.size+1:=Array.size_push ..
   generalize m4.push (.cells #[] t_uint8)=m5 at f5 s5 ⊢
   refine source_spec (hS2.fr ((F4 fun _ _=>False).trans (f5 _)) (by intros; exact id)) (hG4.fr (f5 fun _ _=>False) (by intro i j h; exact h.elim)) hb2 fun m6 rb db hA q1 q2 q3 f6=>⟨_,rfl,?_⟩
   have s6:=(f6 fun _ _=>False).size
   have F6:∀ S,Fr S m m6:=fun S=>(F4 S).trans ((f5 S).trans (f6 S))
   have hS6:=hS3.fr (F6 fun _ _=>False) (by intros; exact id)
   have hO:OutB m6 (some ⟨m4.size,0,none⟩) 0 0 m4.size 0 []:=⟨⟨rfl,Nat.le_refl _,by omega,fun i v h=>by simp at h,fun i h=>by omega⟩,by omega⟩
   refine appendB_W (b2:=b3) (o2:=o3) hO hlen3 (fun h=>hS3.at_ (by rw [← hlen3]; exact List.length_pos_iff.2 h)) (fun i v hv=>?_) (by omega) ?_
   ·have hi:=(List.getElem?_eq_some_iff.1 hv).1
    rw [hlen3] at hi
    rw [hS6.data i hi,List.getD_eq_getElem?_getD,hv]; rfl
   ·intro m7 a' k' ab aq hO7 hb7 f7 h07
    rw [Nat.zero_add] at hO7 ⊢
    rw [List.nil_append] at hO7
    have f7':∀ S,Fr S m6 m7:=fun S=>f7.mono (by rintro i j ⟨_,h⟩; omega)
    have s7:=f7.size
    refine ⟨_,_,_,rfl,?_⟩
    refine fin m7 rb db a' k' ab aq (hA.fr (f7' fun _ _=>False) (by intros; exact id)) (hO7.slc hS3.byte) (by omega) (by omega) (by omega) (fun h=>?_) (fun S=>(f5 S).trans ((f6 S).trans (f7' S))) _ rfl
    rcases hb7 with ⟨rfl,_,_⟩ | ⟨rfl,_⟩ <;> omega
 have hlo3:4 < f:=by omega
 refine meth_ReadD f _ (callM_Read _ _ _ (read_spec hL3 hDf hlo3 hB3 ?_ ?_))
 ·intro m4 q hq _ _ _ hL4 _ hF4
  have F4:∀ S,Fr S m m4:=fun S=>Fr.old (S:=fun i _=>m.size≤i) (((F2 _).trans (f3 _)).trans (hF4.mono fun i j h=>hMw i j (h.imp id fun h=>⟨h.1,h.2.1,by omega⟩))) (by intro i j h1 h2; omega)
  exact ⟨_,_,rfl,rest m4 F4 hF4.size hL4.stand hL4.glob⟩
 ·intro m4 q v _ hq _ hL4 _ hF4
  have F4:∀ S,Fr S m m4:=fun S=>Fr.old (S:=fun i _=>m.size≤i) (((F2 _).trans (f3 _)).trans (hF4.mono fun i j h=>hMw i j (h.imp id fun h=>⟨h.1,h.2.1,by omega⟩))) (by intro i j h1 h2; omega)
  have hL:Live (bytesRdr E first rb0 db0 ⟨by omega,by omega⟩) f bh bb cb Hg eg pg (0+q) m4:=.inr hL4
  exact ⟨_,_,rfl,rest m4 F4 hF4.size hL.stand hL.glob⟩
theorem Again_short {m:Mem} {a0 a2 a3:Option Addr} {l0 k0 b0 o0 l2 k2 b2 o2 l3 k3 b3 o3:Nat} {first d:List Nat} (hS0:SlcB m a0 l0 k0 b0 o0 first) (hS2:SlcB m a2 l2 k2 b2 o2 src) (hS3:SlcB m a3 l3 k3 b3 o3 d) (hG:Glob E m) (hb0:l0≤70368744177664) (hb2:l2≤70368744177664) (hb3:l3≤70368744177664) (x:Int)
  {out:List Nat} {e:Er} {pf:Nat} (hr:Runs (scOf src) ⟨0,last32 d,.block⟩ (last32 d++out) e pf) (hH:out.length≤131072) {R:Value→Mem→Prop} (hk:∀ m' a' k' b' o',OutB m' a' out.length k' b' o' out→(∀ S,Fr S m m')→R (.tuple #[.slice a' out.length k',.int .i64 (codeOf e)]) m'):
  CallM PP f_impl_Again #[.slice a0 l0 k0,.int .i64 x,.slice a2 l2 k2,.slice a3 l3 k3,.int .i64 131072] m R:=by
 have hlen:(last32 d++out).length=(last32 d).length+out.length:=List.length_append ..
 refine Again_spec hS0 hS2 hS3 hG hb0 hb2 hb3 x (by decide) hr (by omega) fun m' a' l' k' b' o' c hO hb hle hf hc=>?_
 rcases hc with ⟨h1,rfl⟩ | ⟨h1,_⟩
 ·have:l'=out.length:=by omega
  subst this
  rw [List.drop_left,List.take_length] at hO
  exact hk m' a' k' b' o' hO hf
 ·omega
end
end Go.M
