/- A region whose order is open, and whose operations touch one another: what holds behind it in each order. -/
import Derived.Test.YteolgmacekgndaaGreatDoorPkd
namespace Go.M
open Go
def conj (f:Nat→Prop):List Nat→Prop
 | []=>True
 | i::l=>match l with
  | []=>f i
  | _=>f i∧conj f l
theorem conj_mem {f:Nat→Prop}:∀ {l:List Nat},conj f l→∀ i ∈ l,f i
 | [],_,i,hi=>by cases hi
 | [j],h,i,hi=>by rw [List.mem_singleton.1 hi]; exact h
 | j::k::l,h,i,hi=>by
  rcases List.mem_cons.1 hi with rfl | hi
  ·exact h.1
  ·exact conj_mem (l:=k::l) h.2 i hi
def treeW (P:Program) (F:List FuncId) (n:Nat) (ops:Array Oper) (K:Env→Mem→Prop):Nat→Array Bool→Env→Mem→Prop
 | 0,listed,r,m=>
  match Region.ready .any ops listed with
  | []=>K r m
  | _=>False
 | fuel+1,listed,r,m=>
  match Region.ready .any ops listed with
  | []=>False
  | rs=>conj (fun i=>opsW P F n [] ops (fun r m=>treeW P F n ops K fuel (listed.setIfInBounds i true) r m) [i] [] r m) rs
theorem treeW_sound {P:Program} {F:List FuncId} (hF:Enters P F) {n:Nat} {ops:Array Oper} {K:Env→Mem→Prop} {w0:World} {Q:Exit→Act→World→Prop} (hk:∀ a w,(∃ r,Agrees n r a∧K r w.heap∧Same w0 w)→Q .normal a w):
  ∀ {fuel:Nat} {listed:Array Bool} {r:Env} {m:Mem},treeW P F n ops K fuel listed r m→∀ a w,Agrees n r a→w.heap=m→Same w0 w→wpAny P .any ops Q fuel listed a w
 | 0,listed,r,m,h,a,w,ha,hw,hs=>by
  simp only [treeW] at h
  split at h
  ·rename_i hr
   exact ⟨hr,hk a w ⟨r,ha,by rw [hw]; exact h,hs⟩⟩
  ·exact h.elim
 | fuel+1,listed,r,m,h,a,w,ha,hw,hs=>by
  simp only [treeW] at h
  split at h
  ·exact h.elim
  ·rename_i hne
   refine ⟨fun hr=>absurd hr hne,fun i hi=>?_⟩
   have h1:=conj_mem h i hi
   have h2:=opsW_sound hF h1 Held.no a w (fun _ _ h=>h.elim) ha hw
   simp only [RunS] at h2
   split at h2
   ·exact h2.elim
   ·rename_i o ho
    refine wpOp_mono ?_ (h2.wp ho)
    rintro a' w' ⟨G,h3⟩
    obtain ⟨r',g1,g2,g3⟩:∃ r',Agrees n r' a'∧treeW P F n ops K fuel (listed.setIfInBounds i true) r' w'.heap∧Same w w':=h3
    exact treeW_sound hF hk g2 a' w' g1 rfl (hs.trans g3)
theorem WPS.tree {P:Program} {F:List FuncId} (hF:Enters P F) (hm:P.follows .mixedOrders=true) {n:Nat} (L:List Nat) {id:Nat} {ops:Array Oper} {K:Kont} {r:Env} {m:Mem}
  (h:treeW P F n ops (fun r m=>K.kn (Env.keep L r) m) ops.size (Array.replicate ops.size false) r m):WPS P n (.region id ops true) K r m:=by
 intro a w ha hw
 refine wp_region_any hm (treeW_sound hF (w0:=w) ?_ h a { w with drawn:=w.drawn+1 } ha hw ⟨rfl,rfl⟩)
 rintro a' w' ⟨r',h1,h2,h3⟩
 exact ⟨_,h1.keep L,h2,h3⟩
theorem WPS.seq {P:Program} {n:Nat} {x y:Code} {K:Kont} {r:Env} {m:Mem} (h:WPS P n x (K.withN fun r m=>WPS P n y K r m) r m):WPS P n (.seq x y) K r m:=by
 intro a w ha hw
 refine wp_seq (wp_mono (h a w ha hw) fun e a' w' hl=>?_)
 cases e with
 | normal=>
  obtain ⟨r',h1,h2,h3⟩:=hl
  exact wp_mono (h2 a' w' h1 rfl) fun e a'' w'' hl'=>hl'.same h3
 | _=>exact hl
theorem callM_enterS {P:Program} {f:FuncId} {fn:Func} {c:Code} {args:Array Value} {m:Mem} {R:Value→Mem→Prop}
  (n:Nat) (hf:P.funcs[f]?=some fn) (hb:fn.body=some c) (hn:fn.ntmps=n) (ha:args.size≤n)
  (h:WPS P n c (retK P fn.results.toList R) (argEnv args.toList 0) m):CallM P f args m R:=by
 intro w hw
 refine calls_of_wp hf hb ?_
 subst hn
 have hag:Agrees fn.ntmps (argEnv args.toList 0) { tmps:=args++Array.replicate (fn.ntmps - args.size) undef,defers:=[] }:=by
  refine ⟨by simp; omega,rfl,fun i v hv=>?_⟩
  have:=(argEnv_get _ _ _ _ hv).2
  simp only [Nat.sub_zero,Array.getElem?_toList] at this
  have hlt:i < args.size:=(Array.getElem?_eq_some_iff.1 this).1
  rw [Array.getElem?_append_left hlt]
  exact this
 refine wp_mono (h _ w hag hw) fun e a' w' hl=>?_
 have fin:(∃ r,Agrees fn.ntmps r a'∧resW P fn.results.toList [] r w'.heap R∧Same w w')→
   a'.defers=[]∧∃ v,(results fn a'.tmps).run P w'=.ok v w'∧∃ v',Ending.returned v=.returned v'∧R v' w'.heap∧Same w w':=by
  rintro ⟨r,h1,h2,h3⟩
  obtain ⟨v,hv,hr⟩:=resW_sound h1 h2
  exact ⟨h1.2.1,v,hv,v,rfl,hr,h3⟩
 cases e with
 | normal=>exact fin hl
 | ret=>exact fin hl
 | exit id=>obtain ⟨_,_,h,_⟩:=hl; exact h.elim
 | goto l=>obtain ⟨_,_,h,_⟩:=hl; exact h.elim
 | panic c=>exact hl.elim
 | outgrown=>exact hl.elim
def opsOf:Code→Array Oper
 | .region _ ops _=>ops
 | _=>#[]
end Go.M
