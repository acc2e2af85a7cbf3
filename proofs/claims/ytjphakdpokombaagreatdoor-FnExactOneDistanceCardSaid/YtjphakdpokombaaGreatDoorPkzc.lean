/- A region whose order is open, and whose operations touch one another: what holds behind it in each order. Lengths of complete codes, as they are drawn: a leaf is split, and split again. No program in sight. A written block with codes of its own: its head is read as it was written. No program in sight. Runs of lengths, lengths without zeros at their end. No program in sight. Blocks behind any history, from any whole byte on. No program in sight. The random generator: its reader in memory; slices of numbers and of marks of its own. Written streams, joined and cut; what the symbols of items need. No program in sight. The random generator: picks, bytes, lengths, items. The random generator: rows of items. Written streams of one block: nothing in them is left open. No program in sight. The random generator: the length of a match. What items give, behind an older history. No program in sight. -/
import Derived.Test.YtjphakdpokombaaGreatDoorPkd
import Derived.Test.YtjphakdpokombaaGreatDoorPkk
import Derived.Test.YtjphakdpokombaaGreatDoorPkzb
import Derived.Test.YtjphakdpokombaaGreatDoorPkl
namespace Go.M
open Go
def conj (f:Nat→Prop):List Nat→Prop
 | []=>True
 | i::l=>match l with
  | []=>f i
  | _=>f i∧conj f l
theorem conj_mem {f:Nat→Prop}:∀ {l:List Nat},conj f l→∀ i ∈ l,f i
 | [],_,i,hi=>by cases hi
 | [j],h,i,hi=>by rw [List.mem_singleton.1 hi]; exact h
 | j::k::l,h,i,hi=>by
  rcases List.mem_cons.1 hi with rfl | hi
  ·exact h.1
  ·exact conj_mem (l:=k::l) h.2 i hi
def treeW (P:Program) (F:List FuncId) (n:Nat) (ops:Array Oper) (K:Env→Mem→Prop):Nat→Array Bool→Env→Mem→Prop
 | 0,listed,r,m=>
  match Region.ready .any ops listed with
  | []=>K r m
  | _=>False
 | fuel+1,listed,r,m=>
  match Region.ready .any ops listed with
  | []=>False
  | rs=>conj (fun i=>opsW P F n [] ops (fun r m=>treeW P F n ops K fuel (listed.setIfInBounds i true) r m) [i] [] r m) rs
theorem treeW_sound {P:Program} {F:List FuncId} (hF:Enters P F) {n:Nat} {ops:Array Oper} {K:Env→Mem→Prop} {w0:World} {Q:Exit→Act→World→Prop} (hk:∀ a w,(∃ r,Agrees n r a∧K r w.heap∧Same w0 w)→Q .normal a w):
  ∀ {fuel:Nat} {listed:Array Bool} {r:Env} {m:Mem},treeW P F n ops K fuel listed r m→∀ a w,Agrees n r a→w.heap=m→Same w0 w→wpAny P .any ops Q fuel listed a w
 | 0,listed,r,m,h,a,w,ha,hw,hs=>by
  simp only [treeW] at h
  split at h
  ·rename_i hr
   exact ⟨hr,hk a w ⟨r,ha,by rw [hw]; exact h,hs⟩⟩
  ·exact h.elim
 | fuel+1,listed,r,m,h,a,w,ha,hw,hs=>by
  simp only [treeW] at h
  split at h
  ·exact h.elim
  ·rename_i hne
   refine ⟨fun hr=>absurd hr hne,fun i hi=>?_⟩
   have h1:=conj_mem h i hi
   have h2:=opsW_sound hF h1 Held.no a w (fun _ _ h=>h.elim) ha hw
   simp only [RunS] at h2
   split at h2
   ·exact h2.elim
   ·rename_i o ho
    refine wpOp_mono ?_ (h2.wp ho)
    rintro a' w' ⟨G,h3⟩
    obtain ⟨r',g1,g2,g3⟩:∃ r',Agrees n r' a'∧treeW P F n ops K fuel (listed.setIfInBounds i true) r' w'.heap∧Same w w':=h3
    exact treeW_sound hF hk g2 a' w' g1 rfl (hs.trans g3)
theorem WPS.tree {P:Program} {F:List FuncId} (hF:Enters P F) (hm:P.follows .mixedOrders=true) {n:Nat} (L:List Nat) {id:Nat} {ops:Array Oper} {K:Kont} {r:Env} {m:Mem}
  (h:treeW P F n ops (fun r m=>K.kn (Env.keep L r) m) ops.size (Array.replicate ops.size false) r m):WPS P n (.region id ops true) K r m:=by
 intro a w ha hw
 refine wp_region_any hm (treeW_sound hF (w0:=w) ?_ h a { w with drawn:=w.drawn+1 } ha hw ⟨rfl,rfl⟩)
 rintro a' w' ⟨r',h1,h2,h3⟩
 exact ⟨_,h1.keep L,h2,h3⟩
theorem WPS.seq {P:Program} {n:Nat} {x y:Code} {K:Kont} {r:Env} {m:Mem} (h:WPS P n x (K.withN fun r m=>WPS P n y K r m) r m):WPS P n (.seq x y) K r m:=by
 intro a w ha hw
 refine wp_seq (wp_mono (h a w ha hw) fun e a' w' hl=>?_)
 cases e with
 | normal=>
  obtain ⟨r',h1,h2,h3⟩:=hl
  exact wp_mono (h2 a' w' h1 rfl) fun e a'' w'' hl'=>hl'.same h3
 | _=>exact hl
theorem callM_enterS {P:Program} {f:FuncId} {fn:Func} {c:Code} {args:Array Value} {m:Mem} {R:Value→Mem→Prop}
  (n:Nat) (hf:P.funcs[f]?=some fn) (hb:fn.body=some c) (hn:fn.ntmps=n) (ha:args.size≤n)
  (h:WPS P n c (retK P fn.results.toList R) (argEnv args.toList 0) m):CallM P f args m R:=by
 intro w hw
 refine calls_of_wp hf hb ?_
 subst hn
 have hag:Agrees fn.ntmps (argEnv args.toList 0) { tmps:=args++Array.replicate (fn.ntmps - args.size) undef,defers:=[] }:=by
  refine ⟨by simp; omega,rfl,fun i v hv=>?_⟩
  have:=(argEnv_get _ _ _ _ hv).2
  simp only [Nat.sub_zero,Array.getElem?_toList] at this
  have hlt:i < args.size:=(Array.getElem?_eq_some_iff.1 this).1
  rw [Array.getElem?_append_left hlt]
  exact this
 refine wp_mono (h _ w hag hw) fun e a' w' hl=>?_
 have fin:(∃ r,Agrees fn.ntmps r a'∧resW P fn.results.toList [] r w'.heap R∧Same w w')→
   a'.defers=[]∧∃ v,(results fn a'.tmps).run P w'=.ok v w'∧∃ v',Ending.returned v=.returned v'∧R v' w'.heap∧Same w w':=by
  rintro ⟨r,h1,h2,h3⟩
  obtain ⟨v,hv,hr⟩:=resW_sound h1 h2
  exact ⟨h1.2.1,v,hv,v,rfl,hr,h3⟩
 cases e with
 | normal=>exact fin hl
 | ret=>exact fin hl
 | exit id=>obtain ⟨_,_,h,_⟩:=hl; exact h.elim
 | goto l=>obtain ⟨_,_,h,_⟩:=hl; exact h.elim
 | panic c=>exact hl.elim
 | outgrown=>exact hl.elim
def opsOf:Code→Array Oper
 | .region _ ops _=>ops
 | _=>#[]
end Go.M

namespace Go.M
set_option maxRecDepth 100000
def kwt (v:Nat):Nat:=if v≠0∧v≤15 then 2 ^ (15 - v) else 0
theorem krn_cons (v:Nat) (L:List Nat):krn 15 (v::L)=kwt v+krn 15 L:=rfl
theorem krn_app:∀ A B:List Nat,krn 15 (A++B)=krn 15 A+krn 15 B
 | [],B=>by simp [krn]
 | v::A,B=>by rw [List.cons_append,krn_cons,krn_cons,krn_app A B]; omega
theorem krn_set:∀ {L:List Nat} {i:Nat} (v:Nat),i < L.length→krn 15 (L.set i v)+kwt (ln L i)=krn 15 L+kwt v
 | [],i,v,h=>by simp at h
 | x::L,0,v,_=>by
  rw [List.set_cons_zero,krn_cons,krn_cons]
  show kwt v+krn 15 L+kwt x=_
  omega
 | x::L,i+1,v,h=>by
  have:=krn_set (L:=L) (i:=i) v (by simpa using h)
  rw [List.set_cons_succ,krn_cons,krn_cons]
  show kwt x+krn 15 (L.set i v)+kwt (ln L i)=_
  omega
theorem ln_set {L:List Nat} {i v:Nat} (h:i < L.length) (j:Nat):ln (L.set i v) j=if j=i then v else ln L j:=by
 unfold ln
 rw [List.getD_eq_getElem?_getD,List.getD_eq_getElem?_getD,List.getElem?_set]
 by_cases e:i=j
 ·subst e; rw [if_pos rfl,if_pos h,if_pos rfl]; rfl
 ·rw [if_neg e,if_neg (fun h=>e h.symm)]
structure Leaves (most:Nat) (D:List Nat):Prop where
 kr:krn 15 D=2 ^ 15
 pos:∀ d ∈ D,1≤d∧d≤most
theorem wt_split {d:Nat} (h1:1≤d) (h2:d < 15):kwt d=kwt (d+1)+kwt (d+1):=by
 unfold kwt
 rw [if_pos ⟨by omega,by omega⟩,if_pos ⟨by omega,by omega⟩,show 15 - d=15 - (d+1)+1 from by omega,Nat.pow_succ]
 omega
theorem ln_of {L:List Nat} {i:Nat} (h:i < L.length):L[i]?=some (ln L i):=by
 unfold ln
 rw [List.getD_eq_getElem?_getD,List.getElem?_eq_getElem h]; rfl
theorem Leaves.two {most:Nat} (h:1≤most):Leaves most [1,1]:=
 ⟨by decide,fun d hd=>by simp at hd; omega⟩
theorem Leaves.split {most:Nat} {D:List Nat} (h:Leaves most D) (hm:most≤15) {k:Nat} (hk:k < D.length) (hlt:ln D k≠most):Leaves most (D.set k (ln D k+1)++[ln D k+1]):=by
 have hp:=h.pos _ (List.mem_of_getElem? (ln_of hk))
 refine ⟨?_,fun d hd=>?_⟩
 ·have h1:=krn_set (L:=D) (ln D k+1) hk
  have h2:=wt_split hp.1 (by omega)
  rw [krn_app,krn_cons]
  have:=h.kr
  simp only [krn]
  omega
 ·rcases List.mem_append.1 hd with hd | hd
  ·rcases List.mem_or_eq_of_mem_set hd with hd | rfl
   ·exact h.pos d hd
   ·omega
  ·simp only [List.mem_singleton] at hd; omega
theorem krn_const {most:Nat} (h1:1≤most) (h2:most≤15):∀ {D:List Nat},(∀ d ∈ D,d=most)→krn 15 D=D.length * 2 ^ (15 - most)
 | [],_=>by simp [krn]
 | d::D,h=>by
  have hd:=h d (List.mem_cons_self ..)
  subst hd
  rw [krn_cons,krn_const h1 h2 fun x hx=>h x (List.mem_cons_of_mem _ hx),List.length_cons,Nat.add_mul]
  unfold kwt
  rw [if_pos ⟨by omega,h2⟩]
  omega
theorem Leaves.free {most:Nat} {D:List Nat} (h:Leaves most D) (h1:1≤most) (h2:most≤15) (hl:D.length < 2 ^ most):∃ k,k < D.length∧ln D k≠most:=by
 refine Classical.byContradiction fun hn=>?_
 have hall:∀ d ∈ D,d=most:=by
  intro d hd
  obtain ⟨k,hk,he⟩:=List.getElem_of_mem hd
  refine Classical.byContradiction fun hne=>hn ⟨k,hk,?_⟩
  have:=ln_of hk
  rw [List.getElem?_eq_getElem hk,he] at this
  rw [← Option.some.inj this]; exact hne
 have h3:=krn_const h1 h2 hall
 rw [h.kr] at h3
 have h4:2 ^ most * 2 ^ (15 - most)=2 ^ 15:=by rw [← Nat.pow_add]; congr 1; omega
 rw [← h4] at h3
 have:=Nat.eq_of_mul_eq_mul_right (Nat.two_pow_pos _) h3
 omega
def swp (D:List Nat) (i k:Nat):List Nat:=(D.set i (ln D k)).set k (ln D i)
theorem swp_length (D:List Nat) (i k:Nat):(swp D i k).length=D.length:=by unfold swp; simp
theorem swp_krn {D:List Nat} {i k:Nat} (hi:i < D.length) (hk:k < D.length):krn 15 (swp D i k)=krn 15 D:=by
 unfold swp
 have h1:=krn_set (L:=D) (ln D k) hi
 have h2:=krn_set (L:=D.set i (ln D k)) (i:=k) (ln D i) (by simpa using hk)
 rw [ln_set hi] at h2
 split at h2
 ·rename_i e; subst e; omega
 ·omega
theorem swp_ln {D:List Nat} {i k:Nat} (hi:i < D.length) (hk:k < D.length) (j:Nat):ln (swp D i k) j=if j=k then ln D i else if j=i then ln D k else ln D j:=by
 unfold swp
 rw [ln_set (by simpa using hk),ln_set hi]
theorem swp_take {D:List Nat} {i k:Nat} (hik:i≤k):(swp D i k).take i=D.take i:=by
 unfold swp
 rw [List.take_set_of_le hik,List.take_set_of_le (Nat.le_refl _)]
theorem Leaves.swp {most:Nat} {D:List Nat} (h:Leaves most D) {i k:Nat} (hi:i < D.length) (hk:k < D.length):Leaves most (swp D i k):=by
 refine ⟨by rw [swp_krn hi hk]; exact h.kr,fun d hd=>?_⟩
 unfold M.swp at hd
 rcases List.mem_or_eq_of_mem_set hd with hd | rfl
 ·rcases List.mem_or_eq_of_mem_set hd with hd | rfl
  ·exact h.pos d hd
  ·exact h.pos _ (List.mem_of_getElem? (ln_of hk))
 ·exact h.pos _ (List.mem_of_getElem? (ln_of hi))
structure Handed (most:Nat) (D S out:List Nat) (N i:Nat):Prop where
 len:out.length=N
 le:∀ v ∈ out,v≤most
 kr:krn 15 out=krn 15 (D.take i)
 on:∀ j s,j < i→S[j]?=some s→ln out s≠0
 off:∀ j s,i≤j→S[j]?=some s→ln out s=0
theorem krn_zeros:∀ n,krn 15 (List.replicate n 0)=0
 | 0=>rfl
 | n+1=>by rw [List.replicate_succ,krn_cons,krn_zeros n]; rfl
theorem Handed.zero {most:Nat} {D S:List Nat} {N:Nat}:Handed most D S (List.replicate N 0) N 0:=by
 refine ⟨by simp,fun v hv=>?_,?_,fun j s h=>by omega,fun j s _ _=>?_⟩
 ·rw [(List.mem_replicate.1 hv).2]; omega
 ·rw [krn_zeros]; rfl
 ·unfold ln
  rw [List.getD_eq_getElem?_getD,List.getElem?_replicate]
  split <;> rfl
theorem Handed.step {most:Nat} {D S out:List Nat} {N i k s:Nat} (h:Handed most D S out N i) (hL:Leaves most D) (hlen:D.length=S.length) (hnd:S.Nodup) (hs:S[i]?=some s) (hsN:s < N) (hik:i≤k) (hk:k < D.length):
  Handed most (swp D i k) S (out.set s (ln (swp D i k) i)) N (i+1):=by
 have hi:i < D.length:=by have:=(List.getElem?_eq_some_iff.1 hs).1; omega
 have hso:s < out.length:=by rw [h.len]; exact hsN
 have hsl:=swp_length D i k
 have hv:ln (swp D i k) i ∈ swp D i k:=List.mem_of_getElem? (ln_of (by omega))
 have hp:=(hL.swp hi hk).pos _ hv
 have h0:=h.off i s (Nat.le_refl _) hs
 refine ⟨by simpa using h.len,fun v hv=>?_,?_,fun j t hj ht=>?_,fun j t hj ht=>?_⟩
 ·rcases List.mem_or_eq_of_mem_set hv with hv | rfl
  ·exact h.le v hv
  ·exact hp.2
 ·have h1:=krn_set (L:=out) (ln (swp D i k) i) hso
  rw [h0] at h1
  have e:(swp D i k).take (i+1)=D.take i++[ln (swp D i k) i]:=by
   rw [← swp_take hik,List.take_add_one,ln_of (by omega)]; rfl
  rw [e,krn_app,krn_cons, ← h.kr]
  simp only [krn]
  have:kwt 0=0:=rfl
  omega
 ·rw [ln_set hso]
  split
  ·omega
  ·rename_i hne
   refine h.on j t ?_ ht
   refine Classical.byContradiction fun hn=>hne ?_
   have:j=i:=by omega
   subst this
   rw [hs] at ht; exact (Option.some.inj ht).symm
 ·rw [ln_set hso]
  split
  ·rename_i he
   subst he
   have:=(List.getElem?_inj (List.getElem?_eq_some_iff.1 hs).1 hnd).1 (hs.trans ht.symm)
   omega
  ·exact h.off j t (by omega) ht
theorem Handed.full {most:Nat} {D S out:List Nat} {N:Nat} (h:Handed most D S out N S.length) (hL:Leaves most D) (hlen:D.length=S.length) (hm:most≤15):Full out∧∀ s ∈ S,ln out s≠0:=by
 refine ⟨(full_iff fun v hv=>by have:=h.le v hv; omega).2 ?_,fun s hs=>?_⟩
 ·rw [h.kr, ← hlen,List.take_length]; exact hL.kr
 ·obtain ⟨j,hj,he⟩:=List.getElem_of_mem hs
  exact h.on j s hj (by rw [List.getElem?_eq_getElem hj,he])
end Go.M

namespace Go.M
set_option maxRecDepth 100000
inductive RunIs (ls:List Nat):Nat→Nat→Nat→List Nat→Prop
 | one {x:Nat}:x < 16→RunIs ls x 0 0 (ls++[x])
 | again {v:Nat}:ls≠[]→v < 4→RunIs ls 16 v 2 (ls++List.replicate (3+v) (ls.getD (ls.length - 1) 0))
 | zero {v:Nat}:v < 8→RunIs ls 17 v 3 (ls++List.replicate (3+v) 0)
 | zeros {v:Nat}:v < 128→RunIs ls 18 v 7 (ls++List.replicate (11+v) 0)
inductive RunsAre (own:List Nat):List Nat→List (Nat×Nat)→List Nat→Prop
 | nil {ls:List Nat}:RunsAre own ls [] ls
 | cons {ls ls1 ls2:List Nat} {k v n:Nat} {a:List (Nat×Nat)}:RunIs ls k v n ls1→ln own k≠0→RunsAre own ls1 a ls2→RunsAre own ls (sy own k::(v,n)::a) ls2
theorem RunIs.len {ls ls1:List Nat} {k v n:Nat} (h:RunIs ls k v n ls1):ls.length < ls1.length:=by
 cases h <;> simp <;> omega
theorem RunIs.lt {ls ls1:List Nat} {k v n:Nat} (h:RunIs ls k v n ls1):v < 2 ^ n:=by
 cases h <;> simp <;> omega
theorem RunsAre.len {own ls ls2:List Nat} {a:List (Nat×Nat)} (h:RunsAre own ls a ls2):ls.length≤ls2.length:=by
 induction h with
 | nil=>exact Nat.le_refl _
 | cons h _ _ ih=>have:=h.len; omega
theorem RunsAre.ok {own ls ls2:List Nat} {a:List (Nat×Nat)} (h:RunsAre own ls a ls2):ChOk a:=by
 induction h with
 | nil=>intro q hq; cases hq
 | cons h _ _ ih=>
  intro q hq
  rcases List.mem_cons.1 hq with rfl | hq
  ·exact sy_ok _ _
  ·rcases List.mem_cons.1 hq with rfl | hq
   ·exact h.lt
   ·exact ih q hq
theorem RunIs.read {c:Sc} {N q:Nat} {ls ls1:List Nat} {k v n:Nat} (h:RunIs ls k v n ls1) (ht:tk c.N q n=v) (hle:q+n≤c.tot) (hn:ls1.length≤N):lsym c N ls k q=.go ls1 (q+n):=by
 have rep:∀ b base,ls1=ls++List.replicate (base+v) b→lrep c N ls b base n q=.go ls1 (q+n):=by
  intro b base h1
  unfold lrep
  rw [if_neg (by omega),ht,if_neg,h1]
  rw [h1] at hn
  simp only [List.length_append,List.length_replicate] at hn
  omega
 cases h with
 | one h1=>unfold lsym; rw [if_pos h1]; rfl
 | again h1 h2=>unfold lsym; rw [if_neg (by decide),if_pos rfl,if_neg h1]; exact rep _ _ rfl
 | zero h1=>unfold lsym; rw [if_neg (by decide),if_neg (by decide),if_pos rfl]; exact rep _ _ rfl
 | zeros h1=>unfold lsym; rw [if_neg (by decide),if_neg (by decide),if_neg (by decide)]; exact rep _ _ rfl
theorem runs_read {c:Sc} {own:List Nat} (hok:okL own=true) (h15:∀ v ∈ own,v≤15) {N:Nat} {ls ls2:List Nat} {a:List (Nat×Nat)} (h:RunsAre own ls a ls2):
  ∀ {p f:Nat},At c.N p a→p+chLen a≤c.tot→ls2.length=N→N≤ls.length+f→lrun c (tabV own) (mnOf own) N f ls p=.go ls2 (p+chLen a):=by
 induction h with
 | @nil ls=>
  intro p f _ _ hN hf
  cases f with
  | zero=>rfl
  | succ f=>rw [lrun,if_pos (by omega)]; rfl
 | @cons ls ls1 ls2 k v n a h1 hk h2 ih=>
  intro p f hA hle hN hf
  obtain ⟨a1,a2,a3⟩:=hA
  have hl1:=h1.len
  have hl2:=h2.len
  simp only [chLen] at hle ⊢
  simp only [sy] at hle a2 a3 ⊢
  obtain ⟨f,rfl⟩:∃ f',f=f'+1:=⟨f - 1,by omega⟩
  have hs:=sym_hit' h15 (sym_at hok hk a1 (by omega))
  rw [lrun,if_neg (by omega)]
  unfold lstep
  rw [hs]
  simp only
  rw [h1.read a2 (by omega) (by omega)]
  simp only
  rw [ih a3 (by omega) hN (by omega)]
  congr 1
  omega
theorem at_three {X:Nat} {f:Nat→Nat}:∀ {l:List Nat} {p i k:Nat},At X p (l.map fun k=>(f k,3))→l[i]?=some k→tk X (p+3 * i) 3=f k
 | [],_,_,_,_,h=>by simp at h
 | x::l,p,0,k,hA,h=>by
  simp only [List.getElem?_cons_zero,Option.some.injEq] at h
  subst h
  exact hA.1
 | x::l,p,i+1,k,hA,h=>by
  rw [List.getElem?_cons_succ] at h
  have:=at_three hA.2 h
  rw [show p+3 * (i+1)=p+3+3 * i from by omega]
  exact this
theorem chLen_three (f:Nat→Nat):∀ l:List Nat,chLen (l.map fun k=>(f k,3))=3 * l.length
 | []=>rfl
 | x::l=>by simp only [List.map_cons,chLen,chLen_three f l,List.length_cons]; omega
theorem clens_own {X p many:Nat} {own:List Nat} (hl:own.length=19) (h0:∀ s,s < 19→many≤clOrder.idxOf s→ln own s=0) (hA:At X p ((clOrder.take many).map fun k=>(ln own k,3))):clens X p many=own:=by
 refine List.ext_getElem? fun s=>?_
 unfold clens
 by_cases hs:s < 19
 ·have hd:∀ s:Fin 19,clOrder[clOrder.idxOf s.val]?=some s.val:=by decide+kernel
  have h1:=hd ⟨s,hs⟩
  simp only at h1
  have hg:own[s]?=some (ln own s):=by
   unfold ln
   rw [List.getD_eq_getElem?_getD,List.getElem?_eq_getElem (by omega)]; rfl
  rw [List.getElem?_map,List.getElem?_range hs,hg]
  simp only [Option.map_some,Option.some.injEq]
  by_cases hm:clOrder.idxOf s < many
  ·rw [if_pos hm]
   exact at_three hA (by rw [List.getElem?_take,if_pos hm,h1])
  ·rw [if_neg hm,h0 s hs (by omega)]
 ·rw [List.getElem?_eq_none (by simp; omega),List.getElem?_eq_none (by omega)]
theorem blk_dynamic {n:Nat} {H H' L D own:List Nat} {a rs:List (Nat×Nat)} (fin:Bool) {many:Nat} (hLl:257≤L.length) (hLu:L.length≤286) (hDl:1≤D.length) (hDu:D.length≤30) (hL15:∀ v ∈ L,v≤15) (hD15:∀ v ∈ D,v≤15) (hL:Full L) (hD:okL D=true) (he:ln L 256≠0)
  (hol:own.length=19) (ho7:∀ v ∈ own,v≤7) (ho:okL own=true) (hm4:4≤many) (hm19:many≤19) (hm0:∀ s,s < 19→many≤clOrder.idxOf s→ln own s=0) (hr:RunsAre own [] rs (L++D)) (hI:ItsAre L D H a H'):
  BlkIs n H ((fl fin+4,3)::(L.length - 257,5)::(D.length - 1,5)::(many - 4,4)::((clOrder.take many).map (fun k=>(ln own k,3))++(rs++(a++[sy L 256])))) H' fin:=by
 have hml:(clOrder.take many).length=many:=by rw [List.length_take]; show min many 19=many; omega
 refine ⟨?_,fun c s0 _ hhd hA hle hR=>?_⟩
 ·intro q hq
  simp only [List.mem_cons,List.mem_append,List.mem_map,List.not_mem_nil,or_false] at hq
  rcases hq with rfl | rfl | rfl | rfl | ⟨k,_,rfl⟩ | hq | hq | rfl
  ·cases fin <;> decide
  ·show L.length - 257 < 2 ^ 5; omega
  ·show D.length - 1 < 2 ^ 5; omega
  ·show many - 4 < 2 ^ 4; omega
  ·show ln own k < 2 ^ 3
   by_cases h:ln own k=0
   ·omega
   ·have:=ho7 _ (List.mem_of_getElem? (ln_mem h).2); omega
  ·exact hr.ok q hq
  ·exact hI.ok q hq
  ·exact sy_ok _ _
 ·obtain ⟨h1,h2,h3,h4,h5⟩:=hA
  simp only at h1 h2 h3 h4 h5
  obtain ⟨h5,h6⟩:=At.append.1 h5
  obtain ⟨h6,h7⟩:=At.append.1 h6
  simp only [chLen,chLen_append (List.map _ _),chLen_append rs] at hle ⊢
  rw [chLen_three,hml] at hle h6 h7 ⊢
  obtain ⟨g1,g2⟩:=head_bits h1
  have ht:tk c.N (n+1) 2=2:=by rw [g2]; cases fin <;> rfl
  have hf:(tk c.N n 1 == 1)=fin:=by rw [g1]; cases fin <;> rfl
  have hR2:=reach_dynamic hR (by omega) ht
  have hcl:=clens_own hol hm0 h5
  have ho15:∀ v ∈ own,v≤15:=fun v hv=>by have:=ho7 v hv; omega
  have hrun:=runs_read (c:=sc0 c.N c.tot) (N:=L.length+D.length) (f:=L.length+D.length) ho ho15 hr h6 (by show _≤c.tot; omega) (by rw [List.length_append]) (by simp)
  have hTb:=ownT_of hL hD hL15 hD15 (by omega)
  have hh:c.hd (n+3)=.ok (ownT L D) (n+3+5+5+4+3 * many+chLen rs):=by
   rw [hhd]
   unfold hdOf
   rw [h2,h3,show n+3+10=n+3+5+5 from by omega,h4]
   rw [if_neg (by omega),if_neg (by omega),if_neg (by omega),if_neg (by omega)]
   unfold hdLens
   rw [show L.length - 257+257=L.length from by omega,show D.length - 1+1=D.length from by omega,show many - 4+4=many from by omega,show n+3+14=n+3+5+5+4 from by omega,hcl,if_pos ho,hrun]
   simp only
   unfold hdCodes
   rw [List.take_left' rfl,List.drop_left' rfl,if_pos ⟨full_ok hL,hD⟩]
   rfl
  rw [hh] at hR2
  simp only at hR2
  rw [hf] at hR2
  have:=coded_reach hTb hI he h7 (by omega) hR2
  rw [show n+(3+(5+(5+(4+(3 * many+(chLen rs+chLen (a++[sy L 256])))))))=n+3+5+5+4+3 * many+chLen rs+chLen (a++[sy L 256]) from by omega]
  exact this
end Go.M

namespace Go.M
set_option maxRecDepth 100000
inductive RunSeq (ls:List Nat):List (Nat×Nat×Nat)→List Nat→Prop
 | nil:RunSeq ls [] ls
 | snoc {xs:List (Nat×Nat×Nat)} {ls1 ls2:List Nat} {k v n:Nat}:RunSeq ls xs ls1→RunIs ls1 k v n ls2→RunSeq ls (xs++[(k,v,n)]) ls2
theorem RunsAre.snoc {own ls ls1 ls2:List Nat} {a:List (Nat×Nat)} {k v n:Nat} (h:RunsAre own ls a ls1) (h1:RunIs ls1 k v n ls2) (hk:ln own k≠0):RunsAre own ls (a++[sy own k,(v,n)]) ls2:=by
 induction h with
 | nil=>exact .cons h1 hk .nil
 | cons g1 g2 _ ih=>exact .cons g1 g2 (ih h1)
def runCh (own:List Nat) (xs:List (Nat×Nat×Nat)):List (Nat×Nat):=xs.flatMap fun x=>[sy own x.1,(x.2.1,x.2.2)]
theorem RunSeq.are {own ls ls2:List Nat} {xs:List (Nat×Nat×Nat)} (h:RunSeq ls xs ls2) (hk:∀ x ∈ xs,ln own x.1≠0):RunsAre own ls (runCh own xs) ls2:=by
 induction h with
 | nil=>exact .nil
 | @snoc xs ls1 ls2 k v n _ h1 ih=>
  have:=(ih fun x hx=>hk x (List.mem_append_left _ hx)).snoc h1 (hk (k,v,n) (by simp))
  unfold runCh at this ⊢
  rw [List.flatMap_append]
  simpa using this
theorem RunIs.k {ls ls1:List Nat} {k v n:Nat} (h:RunIs ls k v n ls1):k < 19∧n≤7:=by
 cases h <;> omega
theorem RunSeq.k {ls ls1:List Nat} {xs:List (Nat×Nat×Nat)} (h:RunSeq ls xs ls1):∀ x ∈ xs,x.1 < 19∧x.2.1 < 2 ^ x.2.2∧x.2.2≤7:=by
 induction h with
 | nil=>intro x hx; cases hx
 | snoc _ h1 ih=>
  intro x hx
  rcases List.mem_append.1 hx with hx | hx
  ·exact ih x hx
  ·simp only [List.mem_singleton] at hx
   subst hx
   exact ⟨h1.k.1,h1.lt,h1.k.2⟩
theorem RunSeq.len {ls ls1:List Nat} {xs:List (Nat×Nat×Nat)} (h:RunSeq ls xs ls1):ls.length+xs.length≤ls1.length:=by
 induction h with
 | nil=>simp
 | snoc _ h1 ih=>have:=h1.len; simp only [List.length_append,List.length_singleton]; omega
theorem take_run {A:List Nat} {i c:Nat}:∀ {m:Nat},(∀ j,j < m→A[i+j]?=some c)→A.take (i+m)=A.take i++List.replicate m c
 | 0,_=>by simp
 | m+1,h=>by
  rw [← Nat.add_assoc,List.take_add_one,take_run fun j hj=>h j (by omega),h m (by omega),List.append_assoc,List.replicate_succ']
  rfl
theorem run_zeros {A:List Nat} {i m:Nat} {xs:List (Nat×Nat×Nat)} (h:RunSeq [] xs (A.take i)) (hm:11≤m) (hm2:m≤138) (hz:∀ j,j < m→A[i+j]?=some 0):RunSeq [] (xs++[(18,m - 11,7)]) (A.take (i+m)):=by
 refine .snoc h ?_
 rw [take_run hz]
 have:=RunIs.zeros (ls:=A.take i) (v:=m - 11) (by omega)
 rwa [show 11+(m - 11)=m from by omega] at this
theorem run_zero {A:List Nat} {i m:Nat} {xs:List (Nat×Nat×Nat)} (h:RunSeq [] xs (A.take i)) (hm:3≤m) (hm2:m≤10) (hz:∀ j,j < m→A[i+j]?=some 0):RunSeq [] (xs++[(17,m - 3,3)]) (A.take (i+m)):=by
 refine .snoc h ?_
 rw [take_run hz]
 have:=RunIs.zero (ls:=A.take i) (v:=m - 3) (by omega)
 rwa [show 3+(m - 3)=m from by omega] at this
theorem run_again {A:List Nat} {i m c:Nat} {xs:List (Nat×Nat×Nat)} (h:RunSeq [] xs (A.take i)) (hm:3≤m) (hm2:m≤6) (hi:0 < i) (hc:A[i - 1]?=some c) (hz:∀ j,j < m→A[i+j]?=some c):RunSeq [] (xs++[(16,m - 3,2)]) (A.take (i+m)):=by
 refine .snoc h ?_
 rw [take_run hz]
 have hlt:=(List.getElem?_eq_some_iff.1 hc).1
 have hlen:(A.take i).length=min i A.length:=List.length_take
 have h0:=(List.getElem?_eq_some_iff.1 (hz 0 (by omega))).1
 have:=RunIs.again (ls:=A.take i) (v:=m - 3) (by intro e; rw [e] at hlen; simp at hlen; omega) (by omega)
 rw [show 3+(m - 3)=m from by omega,show (A.take i).getD ((A.take i).length - 1) 0=c from by
  rw [List.getD_eq_getElem?_getD,List.getElem?_take,if_pos (by omega),show (A.take i).length - 1=i - 1 from by omega,hc]; rfl] at this
 exact this
theorem run_one {A:List Nat} {i c:Nat} {xs:List (Nat×Nat×Nat)} (h:RunSeq [] xs (A.take i)) (hc:A[i]?=some c) (h15:c≤15):RunSeq [] (xs++[(c,0,0)]) (A.take (i+1)):=by
 refine .snoc h ?_
 rw [List.take_add_one,hc]
 exact .one (by omega)
theorem trim_ln {L:List Nat} {n:Nat} (h0:∀ j,n≤j→ln L j=0) (j:Nat):ln (L.take n) j=ln L j:=by
 by_cases hj:j < n
 ·unfold ln
  rw [List.getD_eq_getElem?_getD,List.getD_eq_getElem?_getD,List.getElem?_take,if_pos hj]
 ·rw [h0 j (by omega)]
  unfold ln
  rw [List.getD_eq_getElem?_getD,List.getElem?_take,if_neg hj]; rfl
theorem krn_none:∀ {L:List Nat},(∀ v ∈ L,v=0)→krn 15 L=0
 | [],_=>rfl
 | v::L,h=>by
  rw [krn_cons,krn_none fun x hx=>h x (List.mem_cons_of_mem _ hx),h v (List.mem_cons_self ..)]; rfl
theorem trim_krn {L:List Nat} {n:Nat} (h0:∀ j,n≤j→ln L j=0):krn 15 (L.take n)=krn 15 L:=by
 have h1:krn 15 (L.take n++L.drop n)=krn 15 (L.take n)+krn 15 (L.drop n):=krn_app _ _
 rw [List.take_append_drop] at h1
 have h2:krn 15 (L.drop n)=0:=krn_none fun v hv=>by
  obtain ⟨j,hj,he⟩:=List.getElem_of_mem hv
  have h3:(L.drop n)[j]?=some v:=by rw [List.getElem?_eq_getElem hj,he]
  rw [List.getElem?_drop] at h3
  have:=h0 (n+j) (by omega)
  unfold ln at this
  rw [List.getD_eq_getElem?_getD,h3] at this
  exact this
 omega
theorem trim_full {L:List Nat} {n:Nat} (h15:∀ v ∈ L,v≤15) (hF:Full L) (h0:∀ j,n≤j→ln L j=0):Full (L.take n):=
 (full_iff fun v hv=>h15 v (List.mem_of_mem_take hv)).2 (by rw [trim_krn h0]; exact (full_iff h15).1 hF)
end Go.M

namespace Go.M
set_option maxRecDepth 100000
theorem lz_pre {X H:List Nat} {d:Nat} (h1:1≤d) (h2:d≤H.length):∀ n,lz (X++H) d n=X++lz H d n
 | 0=>rfl
 | n+1=>by
  have hl:=lz_length H d n
  rw [lz,lz,lz_pre h1 h2 n,List.append_assoc]
  congr 2
  rw [List.getD_eq_getElem?_getD,List.getD_eq_getElem?_getD,List.length_append,List.getElem?_append_right (by omega),show X.length+(lz H d n).length - d - X.length=(lz H d n).length - d from by omega]
theorem ItIs.pre {L D H H':List Nat} {a:List (Nat×Nat)} (X:List Nat) (h:ItIs L D H a H'):ItIs L D (X++H) a (X++H'):=by
 cases h with
 | lit h1 h2=>rw [← List.append_assoc]; exact .lit h1 h2
 | @mat k v d w h1 h2 h3 h4 h5 h6 h7 h8=>
  have:=dstS_pos h4
  rw [← lz_pre (by omega) (by omega)]
  exact .mat h1 h2 h3 h4 h5 h6 h7 (by rw [List.length_append]; omega)
theorem ItsAre.pre {L D H H':List Nat} {a:List (Nat×Nat)} (X:List Nat) (h:ItsAre L D H a H'):ItsAre L D (X++H) a (X++H'):=by
 induction h with
 | nil=>exact .nil
 | cons h1 _ ih=>exact .cons (h1.pre X) ih
def BlkX (k:Nat) (H:List Nat) (a:List (Nat×Nat)) (H':List Nat) (fin:Bool):Prop:=∀ n X,n % 8=0→BlkIs (n+k) (X++H) a (X++H') fin
theorem BlkX.nil (k:Nat) (H:List Nat):BlkX k H [] H false:=fun _ _ _=>BlkIs.nil _ _
theorem BlkX.append {k:Nat} {H H1 H2:List Nat} {a b:List (Nat×Nat)} {fin:Bool} (h1:BlkX k H a H1 false) (h2:BlkX (k+chLen a) H1 b H2 fin):BlkX k H (a++b) H2 fin:=fun n X hn=>
 (h1 n X hn).append (by rw [Nat.add_assoc]; exact h2 n X hn)
theorem BlkX.is {H H':List Nat} {a:List (Nat×Nat)} {fin:Bool} (h:BlkX 0 H a H' fin):BlkIs 0 H a H' fin:=h 0 [] rfl
theorem blkX_fixed {k:Nat} {H H':List Nat} {a:List (Nat×Nat)} (fin:Bool) (h:ItsAre fixL fixD H a H'):BlkX k H ((fl fin+2,3)::(a++[sy fixL 256])) H' fin:=fun _ X _=>blk_fixed fin (h.pre X)
theorem blkX_stored {k:Nat} {H T:List Nat} (fin:Bool) {pv pn:Nat} (hp:pv < 2 ^ pn) (hal:k+3+pn=8 * ((k+10) / 8)) (hT:T.length≤65535) (hb:∀ v ∈ T,v < 256):
  BlkX k H ((fl fin,3)::(pv,pn)::(T.length,16)::(65535 - T.length,16)::T.map fun b=>(b,8)) (H++T) fin:=fun n X hn=>by
 rw [← List.append_assoc]
 exact blk_stored fin hp (by omega) hT hb
end Go.M

namespace Go.M
open Go
set_option maxRecDepth 100000
structure RdM (m:Mem) (r c:Nat):Prop where
 code:∃ a l k b o d,cell? m ⟨r,0,none⟩=some (.slice a l k)∧SlcB m a l k b o d∧l≤3000∧(0 < l→b < r)
 cp:∃ p:Nat,p≤c∧cell? m ⟨r,1,none⟩=some (.int .i64 (p:Int))
 w1:Wr m ⟨r,1,none⟩
def RS (r:Nat):Nat→Nat→Prop:=fun i _=>i=r
variable {m m':Mem} {r c c':Nat} {S:Nat→Nat→Prop}
theorem RdM.fr (h:RdM m r c) (hf:Fr S m m') (h1:∀ i j,i≤r→ ¬ S i j):RdM m' r c:=by
 obtain ⟨a,l,k,b,o,d,c0,hS,hl,hb⟩:=h.code
 obtain ⟨p,hp,cp⟩:=h.cp
 exact ⟨⟨a,l,k,b,o,d,hf.cell c0 (h1 _ _ (Nat.le_refl _)),hS.sp hf fun h0 j=>h1 _ _ (by have:=hb h0; omega),hl,hb⟩,⟨p,hp,hf.cell cp (h1 _ _ (Nat.le_refl _))⟩,h.w1.fr hf⟩
theorem RdM.fresh (h:RdM m r c) (hf:∀ S,Fr S m m'):RdM m' r c:=h.fr (hf fun _ _=>False) fun _ _ _=>id
theorem RdM.mono (h:RdM m r c) (hc:c≤c'):RdM m r c':=let ⟨p,hp,cp⟩:=h.cp; ⟨h.code,⟨p,Nat.le_trans hp hc,cp⟩,h.w1⟩
theorem RdM.lo (h:RdM m r c):r < m.size:=by obtain ⟨p,_,cp⟩:=h.cp; have:=cell_block cp; simpa using this
def Picks (m:Mem) (r c n:Nat) (R:Value→Mem→Prop):Prop:=∀ m' (k:Nat),k < n→RdM m' r c→Fr (RS r) m m'→R (.int .i64 (k:Int)) m'
theorem rs_old {b r:Nat} (h:r < b) (j:Nat): ¬ RS r b j:=by intro e; unfold RS at e; omega
theorem OutI.set {a:Option Addr} {l k b o:Nat} {d:List Nat} (h:OutI m a l k b o d) {i v:Nat} (hi:i < l) (hc:cell? m' ⟨b,o+i,none⟩=some (.int .i64 (v:Int))) (hf:Fr (fun x y=>x=b∧y=o+i) m m'):OutI m' a l k b o (d.set i v):=by
 have hlen:=h.own.len
 have hle:=h.own.le
 simp only [List.length_map] at hlen
 refine ⟨⟨by simpa using hlen,h.own.le,h.own.at_,fun j x hj=>?_,h.own.wr.fr hf⟩,fun h0 j x hx=>?_⟩
 ·rw [List.getElem?_map,List.getElem?_set] at hj
  by_cases hij:i=j
  ·subst hij
   rw [if_pos rfl,if_pos (by omega)] at hj
   simp only [Option.map_some,Option.some.injEq] at hj
   subst hj
   exact hc
  ·rw [if_neg hij] at hj
   exact hf.cell (h.own.row j x (by rw [List.getElem?_map]; exact hj)) (by rintro ⟨_,e⟩; simp only at e; omega)
 ·by_cases hj:j=o+i
  ·subst hj
   rw [hc] at hx
   simp only [Option.some.injEq] at hx
   exact ⟨_,hx.symm⟩
  ·obtain ⟨⟨y,hy⟩,_⟩:=h.own.wr 0 (by omega)
   obtain ⟨z,hz⟩:=hf.back hy hx
   have:=hf.cell hz (by rintro ⟨_,e⟩; exact hj e)
   rw [hx] at this
   simp only [Option.some.injEq] at this
   subst this
   exact h.i64 h0 j _ hz
theorem OutI.lt {a:Option Addr} {l k b o:Nat} {d:List Nat} (h:OutI m a l k b o d) (hk:0 < k):b < m.size:=by
 obtain ⟨⟨v,hv⟩,_⟩:=h.own.wr 0 (by omega)
 exact cell_block hv
structure Mrk (m:Mem) (b n:Nat) (d:List Bool):Prop where
 len:d.length=n
 data:∀ (i:Nat) (v:Bool),d[i]?=some v→cell? m ⟨b,i,none⟩=some (.bool v)
 wr:∀ i,i < n→Wr m ⟨b,i,none⟩
theorem Mrk.fr {b n:Nat} {d:List Bool} (h:Mrk m b n d) (hf:Fr S m m') (hs:∀ j, ¬ S b j):Mrk m' b n d:=
 ⟨h.len,fun i v hv=>hf.cell (h.data i v hv) (hs _),fun i hi=>(h.wr i hi).fr hf⟩
theorem Mrk.fresh {b n:Nat} {d:List Bool} (h:Mrk m b n d) (hf:∀ S,Fr S m m'):Mrk m' b n d:=h.fr (hf fun _ _=>False) fun _=>id
theorem Mrk.set {b n:Nat} {d:List Bool} (h:Mrk m b n d) {i:Nat} {v:Bool} (hi:i < n) (hc:cell? m' ⟨b,i,none⟩=some (.bool v)) (hf:Fr (fun x y=>x=b∧y=i) m m'):Mrk m' b n (d.set i v):=by
 have hlen:=h.len
 refine ⟨by simpa using h.len,fun j x hj=>?_,fun j hj=>(h.wr j hj).fr hf⟩
 rw [List.getElem?_set] at hj
 by_cases hij:i=j
 ·subst hij
  rw [if_pos rfl,if_pos (by omega)] at hj
  simp only [Option.some.injEq] at hj
  subst hj
  exact hc
 ·rw [if_neg hij] at hj
  exact hf.cell (h.data j x hj) (by rintro ⟨_,e⟩; simp only at e; omega)
def OutT (m:Mem) (a:Option Addr) (l k b o:Nat) (its:List It):Prop:=Own m a l k 3 (its.flatMap itV) b o
theorem flat3_get {α:Type} {f:α→List Value} (h3:∀ x,(f x).length=3):∀ {its:List α} {i:Nat} {x:α} {j:Nat},its[i]?=some x→j < 3→(its.flatMap f)[i * 3+j]?=(f x)[j]?
 | [],i,x,j,h,_=>by simp at h
 | y::its,0,x,j,h,hj=>by
  simp only [List.getElem?_cons_zero,Option.some.injEq] at h
  subst h
  rw [List.flatMap_cons,Nat.zero_mul,Nat.zero_add,List.getElem?_append_left (by rw [h3]; exact hj)]
 | y::its,i+1,x,j,h,hj=>by
  simp only [List.getElem?_cons_succ] at h
  rw [List.flatMap_cons,List.getElem?_append_right (by rw [h3]; omega),h3,show (i+1) * 3+j - 3=i * 3+j from by omega]
  exact flat3_get h3 h hj
theorem flat3_len {α:Type} {f:α→List Value} (h3:∀ x,(f x).length=3):∀ its:List α,(its.flatMap f).length=its.length * 3
 | []=>rfl
 | y::its=>by rw [List.flatMap_cons,List.length_append,h3,flat3_len h3 its,List.length_cons]; omega
theorem OutT.len {a:Option Addr} {l k b o:Nat} {its:List It} (h:OutT m a l k b o its):its.length=l:=by
 have:=Own.len h
 rw [flat3_len (fun x=>rfl)] at this
 omega
theorem OutT.slc {a:Option Addr} {l k b o:Nat} {its:List It} (h:OutT m a l k b o its):SlcT m a l k b o its:=
 ⟨h.len,h.le,fun h0=>h.at_ (by have:=Own.le h; omega),fun i x hx=>by
  have g:∀ j v,j < 3→(itV x)[j]?=some v→cell? m ⟨b,o+i * 3+j,none⟩=some v:=fun j v hj hv=>by
   have:=h.row (i * 3+j) v (by rw [flat3_get (fun x=>rfl) hx hj]; exact hv)
   rw [← Nat.add_assoc] at this; exact this
  exact ⟨g 0 _ (by decide) rfl,g 1 _ (by decide) rfl,g 2 _ (by decide) rfl⟩⟩
end Go.M

namespace Go.M
set_option maxRecDepth 100000
theorem blkX_dynamic {k:Nat} {H H' L D own:List Nat} {a rs:List (Nat×Nat)} (fin:Bool) {many:Nat} (hLl:257≤L.length) (hLu:L.length≤286) (hDl:1≤D.length) (hDu:D.length≤30) (hL15:∀ v ∈ L,v≤15) (hD15:∀ v ∈ D,v≤15) (hL:Full L) (hD:okL D=true) (he:ln L 256≠0)
  (hol:own.length=19) (ho7:∀ v ∈ own,v≤7) (ho:okL own=true) (hm4:4≤many) (hm19:many≤19) (hm0:∀ s,s < 19→many≤clOrder.idxOf s→ln own s=0) (hr:RunsAre own [] rs (L++D)) (hI:ItsAre L D H a H'):
  BlkX k H ((fl fin+4,3)::(L.length - 257,5)::(D.length - 1,5)::(many - 4,4)::((clOrder.take many).map (fun k=>(ln own k,3))++(rs++(a++[sy L 256])))) H' fin:=
 fun _ X _=>blk_dynamic fin hLl hLu hDl hDu hL15 hD15 hL hD he hol ho7 ho hm4 hm19 hm0 hr (hI.pre X)
theorem StreamOf.join {c1 c2:List (Nat×Nat)} {s1 s2:List Nat} (h1:StreamOf c1 s1) (h2:StreamOf c2 s2) (h8:chLen c1 % 8=0):StreamOf (c1++c2) (s1++s2):=by
 have l1:=h1.len
 have l2:=h2.len
 refine ⟨fun v hv=>?_,?_,?_⟩
 ·rcases List.mem_append.1 hv with hv | hv
  ·exact h1.byte v hv
  ·exact h2.byte v hv
 ·rw [num_append,chVal_append,h1.num,h2.num,show 8 * s1.length=chLen c1 from by omega]
 ·rw [List.length_append,chLen_append]; omega
theorem BlkX.join {c1 c2:List (Nat×Nat)} {x y:List Nat} {fin:Bool} (h1:BlkX 0 [] c1 x false) (h2:BlkX 0 [] c2 y fin) (h8:chLen c1 % 8=0):BlkX 0 [] (c1++c2) (x++y) fin:=by
 intro n X hn
 refine (h1 n X hn).append ?_
 have:=h2 (n+0+chLen c1) (X++x) (by omega)
 rw [Nat.add_zero,List.append_nil,List.append_assoc] at this
 exact this
theorem BlkX.unended {c:List (Nat×Nat)} {x src:List Nat} (h:BlkX 0 [] c x false) (hs:StreamOf c src) (h8:chLen c % 8=0):Runs (scOf src) ⟨0,[],.block⟩ x .cut (chLen c):=by
 have hr:=h.is.reach (tail:=[]) hs.byte hs.num hs.len
 rw [List.append_nil] at hr
 have hl:=hs.len
 refine hr.runs (.stop ?_)
 show gblock (scOf src) x (chLen c)=_
 unfold gblock
 rw [if_pos (show (scOf src).tot < chLen c+3 by show 8 * src.length < _; omega)]
theorem LenC.det {n k1 k2:Nat} (h1:LenC n k1) (h2:LenC n k2):k1=k2:=by
 rcases h1 with ⟨rfl,rfl⟩ | ⟨a1,a2,a3,a4,a5⟩ <;> rcases h2 with ⟨b1,rfl⟩ | ⟨b1,b2,b3,b4,b5⟩
 ·rfl
 ·exact absurd rfl b1
 ·exact absurd b1 a1
 ·refine Classical.byContradiction fun hne=>?_
  rcases Nat.lt_or_gt_of_ne hne with h | h
  ·have:=a5 k2 h b3; omega
  ·have:=b5 k1 h a3; omega
theorem DstC.det {n k1 k2:Nat} (h1:DstC n k1) (h2:DstC n k2):k1=k2:=by
 obtain ⟨a1,a2,a3⟩:=h1
 obtain ⟨b1,b2,b3⟩:=h2
 refine Classical.byContradiction fun hne=>?_
 rcases Nat.lt_or_gt_of_ne hne with h | h
 ·have:=a3 k2 h b1; omega
 ·have:=b3 k1 h a1; omega
def MarkI (A B:List Bool) (x:It):Prop:=(x.len=0→A[x.b]?=some true)∧(x.len≠0→(∀ k,LenC x.len k→A[k]?=some true)∧∀ k,DstC x.d k→B[k]?=some true)
theorem mark_set {A:List Bool} {i j:Nat} (h:A[i]?=some true):(A.set j true)[i]?=some true:=by
 rw [List.getElem?_set]
 have:=(List.getElem?_eq_some_iff.1 h).1
 by_cases e:j=i
 ·subst e; rw [if_pos rfl,if_pos this]
 ·rw [if_neg e]; exact h
theorem MarkI.setL {A B:List Bool} {x:It} (h:MarkI A B x) (j:Nat):MarkI (A.set j true) B x:=
 ⟨fun h0=>mark_set (h.1 h0),fun h0=>⟨fun k hk=>mark_set ((h.2 h0).1 k hk),(h.2 h0).2⟩⟩
theorem MarkI.setD {A B:List Bool} {x:It} (h:MarkI A B x) (j:Nat):MarkI A (B.set j true) x:=
 ⟨h.1,fun h0=>⟨(h.2 h0).1,fun k hk=>mark_set ((h.2 h0).2 k hk)⟩⟩
theorem MarkI.need {A B:List Bool} {x:It} (h:MarkI A B x) {L D:List Nat} (hA:∀ i,A[i]?=some true→ln L i≠0) (hB:∀ i,B[i]?=some true→ln D i≠0):NeedL L D x:=
 ⟨fun h0=>hA _ (h.1 h0),fun h0=>⟨fun k hk=>hA _ ((h.2 h0).1 k hk),fun k hk=>hB _ ((h.2 h0).2 k hk)⟩⟩
theorem MarkI.need_lit {A B:List Bool} {x:It} (h:MarkI A B x) {L D:List Nat} (hA:∀ i,A[i]?=some true→ln L i≠0) (h0:x.len=0):NeedL L D x:=
 ⟨fun h0=>hA _ (h.1 h0),fun h1=>absurd h0 h1⟩
end Go.M

namespace Go.M
open Go
set_option maxRecDepth 100000
theorem mix_nat {v w p l:Nat} (hv:v < 256) (hw:w < 256) (hp:p < 1099511627776):
  ∃ x:Nat,bitsOp .xor .i64 (IntKind.wrap .i64 ((IntKind.wrap .i64 ((IntKind.wrap .i64 ((IntKind.wrap .i64 ((IntKind.wrap .i64 (v:Int)) * 131))+(IntKind.wrap .i64 ((IntKind.wrap .i64 (w:Int)) * 1117))))+(IntKind.wrap .i64 ((p:Int) * 29))))+(IntKind.wrap .i64 ((IntKind.wrap .i64 (Int.tdiv (p:Int) (l:Int))) * 53))))
   (IntKind.wrap .i64 (Int.tdiv (IntKind.wrap .i64 ((IntKind.wrap .i64 ((IntKind.wrap .i64 ((IntKind.wrap .i64 ((IntKind.wrap .i64 (v:Int)) * 131))+(IntKind.wrap .i64 ((IntKind.wrap .i64 (w:Int)) * 1117))))+(IntKind.wrap .i64 ((p:Int) * 29))))+(IntKind.wrap .i64 ((IntKind.wrap .i64 (Int.tdiv (p:Int) (l:Int))) * 53)))) 64))=(x:Int):=by
 have hd:Int.tdiv (p:Int) (l:Int)=((p / l:Nat):Int):=rfl
 have hle:p / l≤p:=Nat.div_le_self _ _
 rw [hd]
 generalize p / l=q at hle
 rw [wrap64_id (n:=(v:Int)) (by omega) (by omega),wrap64_id (n:=(w:Int)) (by omega) (by omega),wrap64_id (n:=(q:Int)) (by omega) (by omega),
  wrap64_id (n:=(v:Int) * 131) (by omega) (by omega),wrap64_id (n:=(w:Int) * 1117) (by omega) (by omega),wrap64_id (n:=(p:Int) * 29) (by omega) (by omega),wrap64_id (n:=(q:Int) * 53) (by omega) (by omega),
  wrap64_id (n:=(v:Int) * 131+(w:Int) * 1117) (by omega) (by omega),wrap64_id (n:=(v:Int) * 131+(w:Int) * 1117+(p:Int) * 29) (by omega) (by omega),wrap64_id (n:=(v:Int) * 131+(w:Int) * 1117+(p:Int) * 29+(q:Int) * 53) (by omega) (by omega)]
 have e:(v:Int) * 131+(w:Int) * 1117+(p:Int) * 29+(q:Int) * 53=((v * 131+w * 1117+p * 29+q * 53:Nat):Int):=by omega
 have hlt:v * 131+w * 1117+p * 29+q * 53 < 2 ^ 62:=by omega
 rw [e]
 generalize v * 131+w * 1117+p * 29+q * 53=s at hlt
 have h64:Int.tdiv (s:Int) 64=((s / 64:Nat):Int):=rfl
 rw [h64,wrap64_id (by omega) (by omega)]
 exact ⟨_,xor_i64 (by omega) (by omega)⟩
section
variable {m:Mem} {r c:Nat}
theorem pick_spec (h:RdM m r c) (hc:c < 1099511627776) {n:Nat} (hn:0 < n) {R:Value→Mem→Prop} (hk:Picks m r (c+1) n R):CallM PP f_reader_pick #[.pointer (some ⟨r,0,none⟩),.int .i64 (n:Int)] m R:=by
 obtain ⟨a,l,k,b,o,d,c0,hS,hl,hb⟩:=h.code
 obtain ⟨p,hp,cp⟩:=h.cp
 refine e_reader_pick r n m R ⟨_,cp,_,cp,StW.at rfl h.w1 fun m1 c1 f1 _=>?_⟩
 have hw:IntKind.wrap .i64 ((p:Int)+1)=((p+1:Nat):Int):=by rw [wrap64_id (by omega) (by omega)]; rfl
 rw [hw] at c1
 have g0:=f1.cell c0 (by simp)
 have hS1:=hS.sp f1 fun h0 j=>by rintro ⟨e,_⟩; have:=hb h0; omega
 have h1:RdM m1 r (c+1):=⟨⟨a,l,k,b,o,d,g0,hS1,hl,hb⟩,⟨p+1,by omega,c1⟩,h.w1.fr f1⟩
 have F1:Fr (RS r) m m1:=f1.mono fun i j h=>h.1
 rw [decide_eq_false (by omega: ¬ (n:Int) < 1)]
 refine ifB_f ⟨_,_,_,g0,?_⟩
 by_cases h0:l=0
 ·subst h0
  exact ifB_t (hk m1 0 hn h1 F1)
 have e0:((l:Int) == 0)=false:=by rw [beq_eq_false_iff_ne]; omega
 rw [e0]
 have hat:=hS.at_ (by omega)
 subst hat
 have hd1:∀ q:Nat,∃ v:Nat,v < 256∧cell? m1 (aplus ⟨b,o,none⟩ ((Int.tmod (q:Int) (l:Int)).toNat))=some (.int .u8 (v:Int)):=fun q=>by
  have hq:q % l < l:=Nat.mod_lt _ (by omega)
  have hlen:=hS.len
  refine ⟨d.getD (q % l) 0,?_,cellB (i:=q % l) (hS1.data _ hq)⟩
  rw [List.getD_eq_getElem?_getD,List.getElem?_eq_getElem (by omega)]
  exact hS.byte _ (List.getElem_mem _)
 have hm1:∀ q:Nat,(0:Int)≤Int.tmod (q:Int) (l:Int)∧Int.tmod (q:Int) (l:Int) < (l:Int):=fun q=>by
  have hq:q % l < l:=Nat.mod_lt _ (by omega)
  have e:Int.tmod (q:Int) (l:Int)=((q % l:Nat):Int):=rfl
  rw [e]; omega
 obtain ⟨v,hv,hcv⟩:=hd1 p
 have fin:∀ x:Nat,WPS PP 92 c_reader_pick_rrrrrr (retK PP r_reader_pick R) [(0,.pointer (some ⟨r,0,none⟩)),(1,.int .i64 (n:Int)),(4,.int .i64 0),(5,.int .i64 (p:Int)),(6,.int .i64 (x:Int))] m1:=fun x=>by
  refine WPS.piece [1,6] rfl (p_reader_pick_rrrrrr n x m1 _ ⟨rfl,by omega,?_⟩)
  exact hk m1 (x % n) (Nat.mod_lt _ hn) h1 F1
 have h7:IntKind.wrap .i64 (IntKind.wrap .i64 ((p:Int) * 7)+3)=((p * 7+3:Nat):Int):=by
  rw [wrap64_id (n:=(p:Int) * 7) (by omega) (by omega),wrap64_id (by omega) (by omega)]; omega
 obtain ⟨w,hw2,hcw⟩:=hd1 (p * 7+3)
 obtain ⟨x,hx⟩:=mix_nat (l:=l) hv hw2 (by omega:p < 1099511627776)
 refine ifB_f ⟨_,_,_,g0,_,_,_,g0,rfl,by omega,hm1 p,_,hcv,?_⟩
 refine ifB_of (fun _=>?_) (fun _=>⟨_,_,_,g0,ifB_of (fun _=>?_) (fun _=>?_)⟩)
 ·refine ⟨_,_,_,g0,_,_,_,g0,rfl,by omega,?_⟩
  rw [h7]
  refine ⟨hm1 _,_,hcw,_,_,_,g0,rfl,by omega,rfl,by decide,rfl,?_⟩
  rw [hx]
  exact fin x
 ·refine ⟨_,_,_,g0,_,_,_,g0,rfl,by omega,?_⟩
  rw [h7]
  refine ⟨hm1 _,_,hcw,_,_,_,g0,rfl,by omega,rfl,by decide,rfl,?_⟩
  rw [hx]
  exact fin x
 ·rw [wrap64_id (n:=(v:Int)) (by omega) (by omega)]
  exact fin v
theorem one_spec (h:RdM m r c) (hc:c < 1099511627776) {a:Option Addr} {l k b o:Nat} {zs:List Int} (hl:zs.length=l) (h0:0 < l) (hat:a=some ⟨b,o,none⟩) (hd:∀ i z,zs[i]?=some z→cell? m ⟨b,o+i,none⟩=some (.int .i64 z)) (hb:b≠r) {R:Value→Mem→Prop}
  (hk:∀ m' z,z ∈ zs→RdM m' r (c+1)→Fr (RS r) m m'→R (.int .i64 z) m'):CallM PP f_reader_one #[.pointer (some ⟨r,0,none⟩),.slice a l k] m R:=by
 refine e_reader_one r a l k m R (pick_spec h hc h0 fun m1 i hi h1 f1=>⟨_,rfl,?_⟩)
 subst hat
 have hg:zs[i]?=some (zs[i]'(by omega)):=List.getElem?_eq_getElem (by omega)
 exact ⟨⟨by omega,by omega⟩,_,cellB (f1.cell (hd i _ hg) (by intro e; exact hb e)),hk m1 _ (List.getElem_mem _) h1 f1⟩
theorem oneOf_W (h:RdM m r c) (hc:c < 1099511627776) {zs:List Int} {l:Nat} (hl:zs.length=l) (h0:0 < l) {K:Int→Mem→Prop} (hk:∀ m' z,z ∈ zs→RdM m' r (c+1)→Fr (RS r) m m'→K z m'):
  ∃ (a8:Option Addr),∃ (l9:Nat),∃ (k10:Nat),(.slice (some ⟨m.size,0,none⟩) l l:Value)=.slice a8 l9 k10∧CallM PP f_reader_one #[.pointer (some ⟨r,0,none⟩),.slice a8 l9 k10] (m.push (.cells (zs.map fun z=>Value.int .i64 z).toArray t_int)) fun v14 m15=>∃ (x13:Int),v14=.int .i64 x13∧K x13 m15:=by
 have f1:∀ S,Fr S m (m.push (.cells (zs.map fun z=>Value.int .i64 z).toArray t_int)):=fun S=>Fr.push _
 refine ⟨_,_,_,rfl,one_spec (h.fresh f1) hc hl h0 rfl (fun i z hz=>?_) (by have:=h.lo; omega) fun m2 z hz h2 f2=>⟨_,rfl,hk m2 z hz h2 ((f1 _).trans f2)⟩⟩
 rw [Nat.zero_add]
 refine cell_new ?_
 rw [List.getElem?_toArray,List.getElem?_map,hz]; rfl
theorem build4_W {x0 x1 x2 x3:Int} {K:Value→Mem→Prop} (h:K (.slice (some ⟨m.size,0,none⟩) 4 4) (m.push (.cells (([x0,x1,x2,x3]:List Int).map fun z=>Value.int .i64 z).toArray t_int))):
  SemW PP (sv (Instr.buildSlice t_s_int 4 #[(0,.int .i64 x0),(1,.int .i64 x1),(2,.int .i64 x2),(3,.int .i64 x3)])) m (NextW PP K):=Eq.mpr (by kernel_rfl) h
theorem pick4_W (h:RdM m r c) (hc:c < 1099511627776) {x0 x1 x2 x3:Int} {K:Int→Mem→Prop} (hk:∀ m' z,z ∈ ([x0,x1,x2,x3]:List Int)→RdM m' r (c+1)→Fr (RS r) m m'→K z m'):
  SemW PP (sv (Instr.buildSlice t_s_int 4 #[(0,.int .i64 x0),(1,.int .i64 x1),(2,.int .i64 x2),(3,.int .i64 x3)])) m (NextW PP fun v11 m12=>∃ (a8:Option Addr),∃ (l9:Nat),∃ (k10:Nat),v11=.slice a8 l9 k10∧CallM PP f_reader_one #[.pointer (some ⟨r,0,none⟩),.slice a8 l9 k10] m12 fun v14 m15=>∃ (x13:Int),v14=.int .i64 x13∧K x13 m15):=
 build4_W (oneOf_W (zs:=[x0,x1,x2,x3]) (l:=4) h hc rfl (by decide) hk)
theorem build5_W {x0 x1 x2 x3 x4:Int} {K:Value→Mem→Prop} (h:K (.slice (some ⟨m.size,0,none⟩) 5 5) (m.push (.cells (([x0,x1,x2,x3,x4]:List Int).map fun z=>Value.int .i64 z).toArray t_int))):
  SemW PP (sv (Instr.buildSlice t_s_int 5 #[(0,.int .i64 x0),(1,.int .i64 x1),(2,.int .i64 x2),(3,.int .i64 x3),(4,.int .i64 x4)])) m (NextW PP K):=Eq.mpr (by kernel_rfl) h
theorem pick5_W (h:RdM m r c) (hc:c < 1099511627776) {x0 x1 x2 x3 x4:Int} {K:Int→Mem→Prop} (hk:∀ m' z,z ∈ ([x0,x1,x2,x3,x4]:List Int)→RdM m' r (c+1)→Fr (RS r) m m'→K z m'):
  SemW PP (sv (Instr.buildSlice t_s_int 5 #[(0,.int .i64 x0),(1,.int .i64 x1),(2,.int .i64 x2),(3,.int .i64 x3),(4,.int .i64 x4)])) m (NextW PP fun v11 m12=>∃ (a8:Option Addr),∃ (l9:Nat),∃ (k10:Nat),v11=.slice a8 l9 k10∧CallM PP f_reader_one #[.pointer (some ⟨r,0,none⟩),.slice a8 l9 k10] m12 fun v14 m15=>∃ (x13:Int),v14=.int .i64 x13∧K x13 m15):=
 build5_W (oneOf_W (zs:=[x0,x1,x2,x3,x4]) (l:=5) h hc rfl (by decide) hk)
theorem build7_W {x0 x1 x2 x3 x4 x5 x6:Int} {K:Value→Mem→Prop} (h:K (.slice (some ⟨m.size,0,none⟩) 7 7) (m.push (.cells (([x0,x1,x2,x3,x4,x5,x6]:List Int).map fun z=>Value.int .i64 z).toArray t_int))):
  SemW PP (sv (Instr.buildSlice t_s_int 7 #[(0,.int .i64 x0),(1,.int .i64 x1),(2,.int .i64 x2),(3,.int .i64 x3),(4,.int .i64 x4),(5,.int .i64 x5),(6,.int .i64 x6)])) m (NextW PP K):=Eq.mpr (by kernel_rfl) h
theorem pick7_W (h:RdM m r c) (hc:c < 1099511627776) {x0 x1 x2 x3 x4 x5 x6:Int} {K:Int→Mem→Prop} (hk:∀ m' z,z ∈ ([x0,x1,x2,x3,x4,x5,x6]:List Int)→RdM m' r (c+1)→Fr (RS r) m m'→K z m'):
  SemW PP (sv (Instr.buildSlice t_s_int 7 #[(0,.int .i64 x0),(1,.int .i64 x1),(2,.int .i64 x2),(3,.int .i64 x3),(4,.int .i64 x4),(5,.int .i64 x5),(6,.int .i64 x6)])) m (NextW PP fun v11 m12=>∃ (a8:Option Addr),∃ (l9:Nat),∃ (k10:Nat),v11=.slice a8 l9 k10∧CallM PP f_reader_one #[.pointer (some ⟨r,0,none⟩),.slice a8 l9 k10] m12 fun v14 m15=>∃ (x13:Int),v14=.int .i64 x13∧K x13 m15):=
 build7_W (oneOf_W (zs:=[x0,x1,x2,x3,x4,x5,x6]) (l:=7) h hc rfl (by decide) hk)
theorem build8_W {x0 x1 x2 x3 x4 x5 x6 x7:Int} {K:Value→Mem→Prop} (h:K (.slice (some ⟨m.size,0,none⟩) 8 8) (m.push (.cells (([x0,x1,x2,x3,x4,x5,x6,x7]:List Int).map fun z=>Value.int .i64 z).toArray t_int))):
  SemW PP (sv (Instr.buildSlice t_s_int 8 #[(0,.int .i64 x0),(1,.int .i64 x1),(2,.int .i64 x2),(3,.int .i64 x3),(4,.int .i64 x4),(5,.int .i64 x5),(6,.int .i64 x6),(7,.int .i64 x7)])) m (NextW PP K):=Eq.mpr (by kernel_rfl) h
theorem pick8_W (h:RdM m r c) (hc:c < 1099511627776) {x0 x1 x2 x3 x4 x5 x6 x7:Int} {K:Int→Mem→Prop} (hk:∀ m' z,z ∈ ([x0,x1,x2,x3,x4,x5,x6,x7]:List Int)→RdM m' r (c+1)→Fr (RS r) m m'→K z m'):
  SemW PP (sv (Instr.buildSlice t_s_int 8 #[(0,.int .i64 x0),(1,.int .i64 x1),(2,.int .i64 x2),(3,.int .i64 x3),(4,.int .i64 x4),(5,.int .i64 x5),(6,.int .i64 x6),(7,.int .i64 x7)])) m (NextW PP fun v11 m12=>∃ (a8:Option Addr),∃ (l9:Nat),∃ (k10:Nat),v11=.slice a8 l9 k10∧CallM PP f_reader_one #[.pointer (some ⟨r,0,none⟩),.slice a8 l9 k10] m12 fun v14 m15=>∃ (x13:Int),v14=.int .i64 x13∧K x13 m15):=
 build8_W (oneOf_W (zs:=[x0,x1,x2,x3,x4,x5,x6,x7]) (l:=8) h hc rfl (by decide) hk)
theorem wrap8 (x:Int):∃ y:Nat,y < 256∧IntKind.wrap .u8 x=(y:Int):=⟨(x % 256).toNat,by omega,by rw [wrap_u8]; omega⟩
theorem wrap_succ {n:Nat} (h:n < 4611686018427387904):IntKind.wrap .i64 ((n:Int)+1)=((n+1:Nat):Int):=by rw [wrap64_id (by omega) (by omega)]; rfl
theorem wrap_pred {n:Nat} (h:n < 4611686018427387904):IntKind.wrap .i64 (((n+1:Nat):Int) - 1)=(n:Int):=by rw [wrap64_id (by omega) (by omega)]; omega
def RN (r N:Nat):Nat→Nat→Prop:=fun i _=>i=r∨N≤i
theorem Fr.rn {m':Mem} {r:Nat} (h:Fr (RN r m.size) m m'):Fr (RS r) m m':=h.old fun i j hi h=>by
 rcases h with h | h
 ·exact h
 ·omega
theorem data_spec (h:RdM m r c) {most:Nat} (hm:most≤1000) (hc:c+2 * most+2 < 1099511627776) {R:Value→Mem→Prop}
  (hk:∀ m' a l k b o T,OutB m' a l k b o T→l≤most→(∀ v ∈ T,v < 256)→m.size≤b→RdM m' r (c+1+2 * most)→Fr (RS r) m m'→R (.slice a l k) m'):CallM PP f_reader_data #[.pointer (some ⟨r,0,none⟩),.int .i64 (most:Int)] m R:=by
 refine e_reader_data r most m R ?_
 rw [wrap_succ (by omega)]
 refine pick_spec h (by omega) (Nat.succ_pos most) fun m1 n hn h1 f1=>⟨_,rfl,?_⟩
 rw [q_reader_data_rrlrl]
 refine loopW ffOk mixedOk (L₀:=L_reader_data) (σ:=Nat×Nat×Option Addr×Nat×Nat×Nat×List Nat) [0,5,6] (fun s=>[(0,.pointer (some ⟨r,0,none⟩)),(5,.slice s.2.2.1 s.2.1 s.2.2.2.1),(6,.int .i64 (s.1:Nat))])
  (fun s m'=>s.1+s.2.1=n∧OutB m' s.2.2.1 s.2.1 s.2.2.2.1 s.2.2.2.2.1 s.2.2.2.2.2.1 s.2.2.2.2.2.2∧m.size≤s.2.2.2.2.1∧(∀ v ∈ s.2.2.2.2.2.2,v < 256)∧RdM m' r (c+1+2 * s.2.1)∧Fr (RN r m.size) m m') (fun s=>s.1) (n,0,none,0,m.size,0,[]) rfl
  ⟨rfl,OutB.nil _ _,Nat.le_refl _,by simp,h1,f1.mono fun _ _ h=>.inl h⟩ ?_
 rintro ⟨i,l,a,k,b,o,T⟩ m2 ⟨hi,hO,hb,hT,h2,f2⟩
 simp only at hi hO hb hT h2
 refine p_reader_data_rrlrll r a l k i m2 _ ?_
 have hr:=h.lo
 cases i with
 | zero=>
  rw [decide_eq_false (by omega)]
  refine ifB_f (WPS.piece [5] rfl (p_reader_data_rrr a l k m2 _ ?_))
  exact hk m2 a l k b o T hO (by omega) hT hb (h2.mono (by omega)) f2.rn
 | succ i=>
  rw [decide_eq_true (by omega)]
  refine ifB_t (pick_spec h2 (by omega) (n:=256) (by decide) fun m3 x hx h3 f3=>⟨_,rfl,pick5_W h3 (by omega) (fun m4 z hz h4 f4=>?_)⟩)
  obtain ⟨y,hy,e⟩:=wrap8 z
  rw [e,wrap_pred (by omega)]
  have f24:=f3.trans f4
  have hO4:=hO.fr f24 fun _ j=>rs_old (by omega) j
  refine push8_W hO4 y (by omega) fun m5 a' k' b' o' hO5 _ hb5 _ _ f5=>?_
  have s4:=f24.size
  have s2:=f2.size
  refine ⟨(i,l+1,a',k',b',o',T++[y]),rfl,⟨by simp only; omega,hO5,?_,?_,(h4.fr f5 fun i j hi=>by omega).mono (by simp only; omega),?_⟩,by simp only; omega⟩
  ·simp only; omega
  ·intro v hv
   rcases List.mem_append.1 hv with hv | hv
   ·exact hT v hv
   ·rw [List.mem_singleton.1 hv]; exact hy
  ·exact f2.trans ((f24.mono fun _ _ h=>.inl h).trans (f5.mono fun i _ h=>.inr (by omega)))
end
end Go.M

namespace Go.M
open Go
set_option maxRecDepth 100000
theorem u_s_item:PP.underlying t_s_spec_Item=some (.slice t_spec_Item):=by kernel_rfl
def itemB (P:Program) (e:TypeId):Bool:=
 match P.info? e with
 | some i=>Nat.beq i.size 3 && Nat.beq i.bytes 24
 | none=>false
theorem item_info:∃ i,PP.info? t_spec_Item=some i∧i.zero=some (.agg #[.int .u8 0,.int .i64 0,.int .i64 0])∧i.size=3∧i.bytes=24:=by
 have h:itemB PP t_spec_Item=true:=by kernel_rfl
 have hz:=z_item
 unfold itemB at h
 unfold zeroOf at hz
 cases hi:PP.info? t_spec_Item with
 | none=>rw [hi] at h; cases h
 | some i=>
  rw [hi] at h hz
  simp only [Bool.and_eq_true] at h
  exact ⟨i,rfl,hz,Nat.eq_of_beq_eq_true h.1,Nat.eq_of_beq_eq_true h.2⟩
section
variable {m:Mem} {r c:Nat}
theorem OutT.nil (m:Mem) (b:Nat):OutT m none 0 0 b 0 []:=⟨rfl,Nat.le_refl _,by omega,fun i v h=>by simp at h,fun i h=>by omega⟩
theorem OutT.fr {m':Mem} {S:Nat→Nat→Prop} {a:Option Addr} {l k b o:Nat} {its:List It} (h:OutT m a l k b o its) (hf:Fr S m m') (hs:0 < k→∀ j, ¬ S b j):OutT m' a l k b o its:=by
 have hlen:=h.len
 have hle:=Own.le h
 refine ⟨Own.len h,Own.le h,Own.at_ h,fun i v hv=>hf.cell (Own.row h i v hv) ?_,(Own.wr h).fr hf⟩
 have:=(List.getElem?_eq_some_iff.1 hv).1
 rw [flat3_len (fun x=>rfl)] at this
 exact hs (by omega) _
theorem OutT.lt {a:Option Addr} {l k b o:Nat} {its:List It} (h:OutT m a l k b o its) (hk:0 < k):b < m.size:=by
 obtain ⟨⟨v,hv⟩,_⟩:=Own.wr h 0 (by omega)
 exact cell_block hv
theorem pushT_W {a:Option Addr} {l k b o:Nat} {its:List It} (hO:OutT m a l k b o its) (x:It) (hbig:l≤1048576) {K:Option Addr→Nat→Nat→Mem→Prop}
  (hk:∀ m' a' k' b' o',OutT m' a' (l+1) k' b' o' (its++[x])→0 < k'→((b'=b∧k'=k)∨m.size≤b')→Fr (fun x _=>x=b∧0 < k) m m'→K a' (l+1) k' m'):
  SemW PP (sv (Instr.buildSlice t_s_spec_Item 1 #[(0,.agg #[.int .u8 (x.b:Int),.int .i64 (x.len:Int),.int .i64 (x.d:Int)])])) m (NextW PP fun v11 m12=>∃ (a8:Option Addr),∃ (l9:Nat),∃ (k10:Nat),v11=.slice a8 l9 k10∧SemW PP (builtin .append #[t_s_spec_Item,t_s_spec_Item] t_s_spec_Item #[false,false] #[.slice a l k,.slice a8 l9 k10]) m12 (NextW PP fun v16 m17=>∃ (a13:Option Addr),∃ (l14:Nat),∃ (k15:Nat),v16=.slice a13 l14 k15∧K a13 l14 k15 m17)):=by
 refine item_W x fun m1 hI f1 s1=>⟨_,_,_,rfl,?_⟩
 have hO1:=hO.fr (f1 fun _ _=>False) fun _ _=>id
 obtain ⟨iu,i1,i2,i3,i4⟩:=item_info
 obtain ⟨e0,e1,e2⟩:=hI.data 0 x rfl
 refine append_Q (d2:=.slice t_spec_Item) u_s_item u_s_item (by intro k h; cases h) i1 i2 (by rw [i3]; decide) (by rw [i3]; rfl) b o m.size 0 (its.flatMap itV) (itV x) (by rw [i3]; exact hO1) (by rw [i3]; rfl) ?_ (fun _=>rfl) ?_ (by rw [i4]; omega) (by rw [i4]; decide) ?_
 ·intro v hv
  unfold itV at hv
  simp only [List.mem_cons,List.not_mem_nil,or_false] at hv
  rcases hv with rfl | rfl | rfl <;> rfl
 ·intro i v hv
  unfold itV at hv
  rcases i with _ | _ | _ | i
  ·simp only [List.getElem?_cons_zero,Option.some.injEq] at hv; subst hv; exact e0
  ·simp only [List.getElem?_cons_succ,List.getElem?_cons_zero,Option.some.injEq] at hv; subst hv; exact e1
  ·simp only [List.getElem?_cons_succ,List.getElem?_cons_zero,Option.some.injEq] at hv; subst hv; exact e2
  ·simp at hv
 ·intro m' a' k' b' o' hown hb hf h0 _
  rw [i3] at hown
  refine ⟨_,_,_,rfl,hk m' a' k' b' o' ?_ (h0 (by decide)) ?_ ((f1 _).trans hf)⟩
  ·show Own _ _ _ _ _ _ _ _
   rw [List.flatMap_append,List.flatMap_singleton]; exact hown
  ·rcases hb with ⟨rfl,_,rfl⟩ | ⟨rfl,_⟩
   ·exact .inl ⟨rfl,rfl⟩
   ·exact .inr (by omega)
def itsN (n:Nat) (its:List It):Nat:=its.foldl (fun n x=>n+max 1 x.len) n
theorem itsN_snoc (n:Nat) (its:List It) (x:It):itsN n (its++[x])=itsN n its+max 1 x.len:=by unfold itsN; rw [List.foldl_append]; rfl
theorem VIts.snoc:∀ {n:Nat} {its:List It} {x:It},VIts n its→VIt (itsN n its) x→VIts n (its++[x])
 | _,[],_,_,h=>⟨h,trivial⟩
 | _,_::_,_,h,h'=>⟨h.1,VIts.snoc h.2 h'⟩
end
end Go.M

namespace Go.M
set_option maxRecDepth 100000
def Nice (c:Sc) (s:St):Prop:=
 match s.md with
 | .coded _ T=> ¬ OddT c T s.p
 | .block=> ¬ (tk c.N (s.p+1) 2=2∧ ¬ Full (clens c.N (s.p+17) (tk c.N (s.p+13) 4+4)))
 | _=>True
def Pl (c:Sc) (s:St):Prop:=∀ s',Reach c s s'→Nice c s'
theorem Reach.head {c:Sc} {s x:St} (h:Reach c s x):x=s∨∃ s1,gstep c s=.go s1∧Reach c s1 x:=by
 induction h with
 | refl=>exact .inl rfl
 | step _ hs ih=>
  rcases ih with rfl | ⟨s1,h1,h2⟩
  ·exact .inr ⟨_,hs,Reach.refl _ _⟩
  ·exact .inr ⟨s1,h1,h2.go hs⟩
theorem Pl.stop {c:Sc} {s:St} {H:List Nat} {e:Er} {p:Nat} (hn:Nice c s) (hs:gstep c s=.stop H e p):Pl c s:=by
 intro x hx
 rcases hx.head with rfl | ⟨s1,h1,_⟩
 ·exact hn
 ·rw [hs] at h1; cases h1
theorem Pl.go {c:Sc} {s s1:St} (hn:Nice c s) (hs:gstep c s=.go s1) (h:Pl c s1):Pl c s:=by
 intro x hx
 rcases hx.head with rfl | ⟨s2,h1,h2⟩
 ·exact hn
 ·rw [hs] at h1
  simp only [Nx.go.injEq] at h1
  subst h1; exact h x h2
theorem Pl.copies {c:Sc} {p:Nat} {fin:Bool} {T:Tb} {d:Nat}:∀ (n:Nat) (K:List Nat),Pl c ⟨p,lz K d n,.coded fin T⟩→Pl c ⟨p,K,.copy fin T d n⟩
 | 0,K,h=>.go trivial (s1:=⟨p,K,.coded fin T⟩) rfl h
 | n+1,K,h=>by
  refine .go trivial (s1:=⟨p,lz K d 1,.copy fin T d n⟩) rfl (Pl.copies n _ ?_)
  rw [← lz_add,Nat.add_comm 1 n]; exact h
theorem Pl.odd {c:Sc} {s:St} {H:List Nat} {p:Nat} (h:Pl c s) (hr:Runs c s H .fin p): ¬ Odd c s:=by
 rintro (⟨H',e,p',h1,h2⟩ | ⟨p',H',fin,T,h1,h2⟩ | ⟨p',H',h1,h2⟩)
 ·exact h2 (h1.det hr).2.1
 ·exact h _ h1 h2
 ·exact h _ h1 h2
section
variable {c:Sc} {T:Tb} {L D:List Nat} {fin:Bool}
theorem nice_sym (hT:TbOf T L D) (he:ln L 256≠0) {n k p':Nat} {H:List Nat} (hs:SymOk L c n k p') (h:k=284→tk c.N p' 5≠31):Nice c ⟨n,H,.coded fin T⟩:=by
 rintro (⟨x,hx⟩ | hx | ⟨q,h1,h2⟩)
 ·rw [hT.lit] at hx
  obtain ⟨i,hi⟩:=hT.full.hits x
  rw [(tab_mod hT.l15 hi).1] at hx
  exact (hit_iff.1 hi).1 hx
 ·rw [hT.lit] at hx
  have hok:=full_ok hT.full
  have hh:hit L (rv (ln L 256) (cd L 256)) 256=true:=hit_iff.2 ⟨he,by rw [rv_rv,Nat.mod_eq_of_lt (cd_lt hok he)]⟩
  obtain ⟨g1,g2⟩:=tab_mod hT.l15 hh
  exact hx _ (by rw [g1]; exact he) g2
 ·rw [hT.lit,sym_hit hT.l15 hs] at h1
  split at h1
  ·cases h1
  ·simp only [Sy.ok.injEq] at h1
   obtain ⟨rfl,rfl⟩:=h1
   exact h rfl h2
theorem gcoded_sym (hT:TbOf T L D) {n k p':Nat} {H:List Nat} (hs:SymOk L c n k p') (hmn:n+T.mn≤c.tot):gstep c ⟨n,H,.coded fin T⟩=gsym c H fin T k p':=by
 show gcoded c H fin T n=_
 have h1:=hs.eq
 have h2:=hs.le
 unfold gcoded
 rw [hT.lit,sym_hit hT.l15 hs,if_neg (by omega)]
theorem item_pl (hT:TbOf T L D) (he:ln L 256≠0) {n:Nat} {H H':List Nat} {a:List (Nat×Nat)} (h:ItN L D H a H') (hA:At c.N n a) (hle:n+chLen a+T.mn≤c.tot) (hP:Pl c ⟨n+chLen a,H',.coded fin T⟩):
  Pl c ⟨n,H,.coded fin T⟩:=by
 cases h with
 | @lit b h1 h2=>
  simp only [chLen,sy] at hle hP
  have hs:=sym_at (full_ok hT.full) h2 hA.1 (by omega)
  refine .go (s1:=⟨n+ln L b,H++[b],.coded fin T⟩) (nice_sym hT he hs fun e=>by omega) ?_ hP
  rw [gcoded_sym hT hs (by omega)]
  unfold gsym; rw [if_pos h1]
 | @mat k v d w h31 h1 h2 h3 h4 h5 h6 h7 h8=>
  obtain ⟨a1,a2,a3,a4,_⟩:=hA
  simp only [chLen,sy] at hle a1 a2 a3 a4 hP
  have hs:=sym_at (full_ok hT.full) h6 a1 (by omega)
  have hs2:=sym_at hT.dok h7 a3 (by omega)
  have e:n+(ln L k+((lenS k).2+(ln D d+((dstS d).2+0))))=n+ln L k+(lenS k).2+ln D d+(dstS d).2:=by omega
  rw [e] at hP
  refine .go (nice_sym hT he hs fun hk=>?_) (s1:=⟨n+ln L k+(lenS k).2+ln D d+(dstS d).2,H,.copy fin T ((dstS d).1+w) ((lenS k).1+v)⟩) ?_ (Pl.copies _ _ hP)
  ·subst hk
   have a2:tk c.N (n+ln L 284) 5=v:=a2
   rw [a2]; exact h31 rfl
  ·rw [gcoded_sym hT hs (by omega)]
   unfold gsym
   rw [if_neg (by omega),if_neg (by omega),if_neg (by omega),lenS_eq h1 h2,if_neg (by omega),glen_sym hT,sym_hit' hT.d15 hs2]
   simp only
   rw [gdist_eq h4 (by omega),if_neg (by omega),a2,a4]
   unfold gfar
   rw [if_neg (by omega)]
theorem items_pl (hT:TbOf T L D) (he:ln L 256≠0) {H H':List Nat} {a:List (Nat×Nat)} (h:ItsN L D H a H'):∀ {n:Nat},At c.N n a→n+chLen a+T.mn≤c.tot→Pl c ⟨n+chLen a,H',.coded fin T⟩→Pl c ⟨n,H,.coded fin T⟩:=by
 induction h with
 | nil=>intro n _ _ hP; exact hP
 | cons h1 _ ih=>
  intro n hA hle hP
  rw [At.append] at hA
  rw [chLen_append] at hle hP
  rw [← Nat.add_assoc] at hP
  exact item_pl hT he h1 hA.1 (by omega) (ih hA.2 (by omega) hP)
theorem coded_pl (hT:TbOf T L D) {H H':List Nat} {a:List (Nat×Nat)} (h:ItsN L D H a H') {n:Nat} (he:ln L 256≠0) (hA:At c.N n (a++[sy L 256])) (hle:n+chLen (a++[sy L 256])≤c.tot):Pl c ⟨n,H,.coded true T⟩:=by
 rw [At.append] at hA
 rw [chLen_append] at hle
 have e:chLen [sy L 256]=ln L 256:=by simp [chLen,sy]
 rw [e] at hle
 have hmn:=hT.eob he
 have hs:=sym_at (full_ok hT.full) he hA.2.1 (by omega)
 refine items_pl hT he h hA.1 (by omega) (.stop (nice_sym hT he hs fun e=>by omega) (H:=H') (e:=.fin) (p:=n+chLen a+ln L 256) ?_)
 rw [gcoded_sym hT hs (by omega)]
 unfold gsym
 rw [if_neg (by decide),if_pos rfl]
end
def BlkN (n:Nat) (H:List Nat) (a:List (Nat×Nat)):Prop:=∀ c:Sc,c.fx=fxT→c.hd=hdOf c.N c.tot→At c.N n a→n+chLen a≤c.tot→Pl c ⟨n,H,.block⟩
theorem blkN_fixed {n:Nat} {H H':List Nat} {a:List (Nat×Nat)} (h:ItsN fixL fixD H a H'):BlkN n H ((fl true+2,3)::(a++[sy fixL 256])):=by
 intro c hfx _ hA hle
 obtain ⟨h1,h2⟩:=hA
 simp only at h1 h2
 simp only [chLen] at hle
 obtain ⟨g1,g2⟩:=head_bits h1
 have ht:tk c.N (n+1) 2=1:=by rw [g2]; rfl
 have hf:(tk c.N n 1 == 1)=true:=by rw [g1]; rfl
 refine .go (s1:=⟨n+3,H,.coded true fxT⟩) ?_ ?_ (coded_pl fixT_of h (fixL_ne (by decide)) h2 (by omega))
 ·rintro ⟨h3,_⟩
  have h3:tk c.N (n+1) 2=2:=h3
  omega
 ·show gblock c H n=_
  unfold gblock
  rw [if_neg (by omega),if_neg (by omega),if_pos ht,hf,hfx]
theorem blkN_dynamic {n:Nat} {H H' L D own:List Nat} {a rs:List (Nat×Nat)} {many:Nat} (hLl:257≤L.length) (hLu:L.length≤286) (hDl:1≤D.length) (hDu:D.length≤30) (hL15:∀ v ∈ L,v≤15) (hD15:∀ v ∈ D,v≤15) (hL:Full L) (hD:okL D=true) (he:ln L 256≠0)
  (hol:own.length=19) (ho7:∀ v ∈ own,v≤7) (ho:Full own) (hm4:4≤many) (hm19:many≤19) (hm0:∀ s,s < 19→many≤clOrder.idxOf s→ln own s=0) (hr:RunsAre own [] rs (L++D)) (hI:ItsN L D H a H'):
  BlkN n H ((fl true+4,3)::(L.length - 257,5)::(D.length - 1,5)::(many - 4,4)::((clOrder.take many).map (fun k=>(ln own k,3))++(rs++(a++[sy L 256])))):=by
 intro c _ hhd hA hle
 have hml:(clOrder.take many).length=many:=by rw [List.length_take]; show min many 19=many; omega
 obtain ⟨h1,h2,h3,h4,h5⟩:=hA
 simp only at h1 h2 h3 h4 h5
 obtain ⟨h5,h6⟩:=At.append.1 h5
 obtain ⟨h6,h7⟩:=At.append.1 h6
 simp only [chLen,chLen_append (List.map _ _),chLen_append rs] at hle
 rw [chLen_three,hml] at hle h6 h7
 obtain ⟨g1,g2⟩:=head_bits h1
 have ht:tk c.N (n+1) 2=2:=by rw [g2]; rfl
 have hf:(tk c.N n 1 == 1)=true:=by rw [g1]; rfl
 have hcl:=clens_own hol hm0 h5
 have ho15:∀ v ∈ own,v≤15:=fun v hv=>by have:=ho7 v hv; omega
 have hrun:=runs_read (c:=sc0 c.N c.tot) (N:=L.length+D.length) (f:=L.length+D.length) (full_ok ho) ho15 hr h6 (by show _≤c.tot; omega) (by rw [List.length_append]) (by simp)
 have hTb:=ownT_of hL hD hL15 hD15 (by omega)
 have hh:c.hd (n+3)=.ok (ownT L D) (n+3+5+5+4+3 * many+chLen rs):=by
  rw [hhd]
  unfold hdOf
  rw [h2,h3,show n+3+10=n+3+5+5 from by omega,h4]
  rw [if_neg (by omega),if_neg (by omega),if_neg (by omega),if_neg (by omega)]
  unfold hdLens
  rw [show L.length - 257+257=L.length from by omega,show D.length - 1+1=D.length from by omega,show many - 4+4=many from by omega,show n+3+14=n+3+5+5+4 from by omega,hcl,if_pos (full_ok ho),hrun]
  simp only
  unfold hdCodes
  rw [List.take_left' rfl,List.drop_left' rfl,if_pos ⟨full_ok hL,hD⟩]
  rfl
 refine .go (s1:=⟨n+3+5+5+4+3 * many+chLen rs,H,.coded true (ownT L D)⟩) ?_ ?_ (coded_pl hTb hI he h7 (by omega))
 ·rintro ⟨_,h8⟩
  refine h8 ?_
  show Full (clens c.N (n+17) (tk c.N (n+13) 4+4))
  rw [show n+13=n+3+5+5 from by omega,h4,show many - 4+4=many from by omega,show n+17=n+3+5+5+4 from by omega,hcl]
  exact ho
 ·show gblock c H n=_
  unfold gblock
  rw [if_neg (by omega),if_neg (by omega),if_neg (by omega),if_pos ht,hh]
  simp only
  rw [hf]
end Go.M

namespace Go.M
open Go
set_option maxRecDepth 100000
section
variable {m:Mem} {r c:Nat}
theorem length_spec (h:RdM m r c) (hc:c+2 < 1099511627776) {R:Value→Mem→Prop} (hk:∀ m' (n:Nat),3≤n→n≤258→RdM m' r (c+2)→Fr (RS r) m m'→R (.int .i64 (n:Int)) m'):CallM PP f_reader_length #[.pointer (some ⟨r,0,none⟩)] m R:=by
 refine e_reader_length r m R (pick_spec h (by omega) (n:=256) (by decide) fun m1 x hx h1 f1=>⟨_,rfl,?_⟩)
 rw [show IntKind.wrap .i64 (3+(x:Int))=3+(x:Int) from wrap64_id (by omega) (by omega)]
 refine pick8_W h1 (by omega) (fun m2 z hz h2 f2=>?_)
 have hz3:3≤z∧z≤258:=by
  simp only [List.mem_cons,List.not_mem_nil,or_false] at hz
  omega
 have:=hk m2 z.toNat (by omega) (by omega) h2 (f1.trans f2)
 rwa [Int.toNat_of_nonneg (by omega)] at this
end
end Go.M

namespace Go.M
open Go
set_option maxRecDepth 100000
theorem VIt.mono {n n':Nat} {x:It} (h:VIt n x) (hn:n≤n'):VIt n' x:=⟨h.1,h.2.imp id fun ⟨h1,h2,h3,h4,h5⟩=>⟨h1,h2,h3,h4,by omega⟩⟩
theorem VIts.mono:∀ {its:List It} {n n':Nat},VIts n its→n≤n'→VIts n' its
 | [],_,_,_,_=>trivial
 | _::_,_,_,h,hn=>⟨h.1.mono hn,VIts.mono h.2 (by omega)⟩
theorem giv_pre {A H:List Nat} {x:It} (h:VIt H.length x):giv (A++H) x=A++giv H x:=by
 unfold giv
 split
 ·rw [List.append_assoc]
 ·rename_i h0
  rcases h.2 with h1 | ⟨_,_,h3,_,h5⟩
  ·exact absurd h1 h0
  ·exact lz_pre h3 h5 _
theorem givs_pre {A:List Nat}:∀ {its:List It} {H:List Nat},VIts H.length its→givs (A++H) its=A++givs H its
 | [],_,_=>rfl
 | x::its,H,h=>by
  show givs (giv (A++H) x) its=A++givs (giv H x) its
  rw [giv_pre h.1]
  exact givs_pre (H:=giv H x) (by rw [giv_length]; exact h.2)
theorem givs_size:∀ {its:List It} {H:List Nat},VIts H.length its→H.length≤(givs H its).length∧(givs H its).length≤H.length+258 * its.length
 | [],_,_=>by simp [givs]
 | x::its,H,h=>by
  have h2:=h.2
  rw [← giv_length] at h2
  have:=givs_size (H:=giv H x) h2
  have hl:=giv_length H x
  have hx:max 1 x.len≤258:=by rcases h.1.2 with h0 | ⟨_,h0,_⟩ <;> omega
  show H.length≤(givs (giv H x) its).length∧_
  have e:givs H (x::its)=givs (giv H x) its:=rfl
  rw [e,List.length_cons]
  omega
theorem giv_byte {n:Nat} {H:List Nat} {x:It} (h:VIt n x) (hb:∀ v ∈ H,v < 256):∀ v ∈ giv H x,v < 256:=by
 unfold giv
 split
 ·intro v hv
  rcases List.mem_append.1 hv with hv | hv
  ·exact hb v hv
  ·rw [List.mem_singleton.1 hv]; exact h.1
 ·exact lz_byte hb _ _
theorem givs_byte:∀ {its:List It} {n:Nat} {H:List Nat},VIts n its→(∀ v ∈ H,v < 256)→∀ v ∈ givs H its,v < 256
 | [],_,_,_,hb=>hb
 | x::its,_,H,h,hb=>givs_byte (its:=its) (H:=giv H x) h.2 (giv_byte h.1 hb)
theorem giv_ext (H:List Nat) (x:It):∃ T,giv H x=H++T:=by
 unfold giv
 split
 ·exact ⟨_,rfl⟩
 ·have key:∀ n,∃ T,lz H x.d n=H++T:=by
   intro n
   induction n with
   | zero=>exact ⟨[],by simp [lz]⟩
   | succ n ih=>
    obtain ⟨T,hT⟩:=ih
    rw [lz,hT]
    exact ⟨_,List.append_assoc ..⟩
  exact key _
theorem givs_ext:∀ (its:List It) (H:List Nat),∃ T,givs H its=H++T
 | [],H=>⟨[],by simp [givs]⟩
 | x::its,H=>by
  obtain ⟨T,hT⟩:=giv_ext H x
  obtain ⟨T',hT'⟩:=givs_ext its (giv H x)
  exact ⟨T++T',by show givs (giv H x) its=_; rw [hT',hT,List.append_assoc]⟩
end Go.M
