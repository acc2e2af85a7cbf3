/- The reference: the lengths of codes, as they are told. The reference: told. The reference: a block with codes of its own, behind the lengths. -/
import Derived.Test.YtjphakdpokombaaGreatDoorPku
import Derived.Test.YtjphakdpokombaaGreatDoorPkl
namespace Go.M
open Go
set_option maxRecDepth 100000
section
variable {N0 s:Nat} {src dict:List Nat} {p:Nat} {out:List Nat} {z:Int} {m m0 m1 m2:Mem}
theorem SpF.new {S:Nat→Nat→Prop} (h:SpF N0 s m0 m1) (hf:Fr S m1 m2) (hS:∀ i j,S i j→m0.size≤i):SpF N0 s m0 m2:=by
 refine ⟨Nat.le_trans h.size hf.size,fun i c t fr hc=>?_,fun i o ho hn=>?_⟩
 ·have hi:i < m0.size:=(Array.getElem?_eq_some_iff.1 hc).1
  obtain ⟨c',h1,h2,h3⟩:=h.cells i c t fr hc
  obtain ⟨c'',h4,h5,h6⟩:=hf.cells i c' t fr h1
  refine ⟨c'',h4,h5.trans h2,fun j v hv hk=>?_⟩
  rw [h6 j fun hs=>by have:=hS _ _ hs; omega]
  exact h3 j v hv hk
 ·have hi:i < m0.size:=(Array.getElem?_eq_some_iff.1 ho).1
  exact hf.objs i o (h.objs i o ho hn) hn fun hs=>by have:=hS _ _ hs; omega
theorem SpF.wr (h:SpF N0 s m m1) {a:Addr} (hw:Wr m a):Wr m1 a:=by
 obtain ⟨⟨v,hv⟩,hf⟩:=hw
 have hsp:=cell_spot hv
 unfold cell? at hv
 cases hb:m[a.block]? with
 | none=>simp only [hb] at hv; cases hv
 | some x=>
  cases x with
  | cells c t fr=>
   obtain ⟨c',h1,h2,_⟩:=h.cells _ _ _ _ hb
   simp only [hb,hsp,Option.isSome_none,Bool.false_eq_true,if_false] at hv
   have hlt:a.off < c.size:=(Array.getElem?_eq_some_iff.1 hv).1
   refine ⟨⟨c'[a.off]'(by omega),?_⟩,?_⟩
   ·unfold cell?
    simp only [h1,hsp,Option.isSome_none,Bool.false_eq_true,if_false]
    exact Array.getElem?_eq_getElem (by omega)
   ·unfold frozen? at hf ⊢
    simp only [hb] at hf
    simp only [h1]; exact hf
  | _=>simp only [hb] at hv; cases hv
theorem cell_there {b o j:Nat} {v w:Value} (hw:cell? m ⟨b,o,none⟩=some w) (hv:cell? m1 ⟨b,j,none⟩=some v) (h:SpF N0 s m m1):∃ v',cell? m ⟨b,j,none⟩=some v':=by
 unfold cell? at hw hv ⊢
 cases hb:m[b]? with
 | none=>simp only [hb] at hw; cases hw
 | some x=>
  cases x with
  | cells c t fr=>
   obtain ⟨c',h1,h2,_⟩:=h.cells _ _ _ _ hb
   simp only [h1,Option.isSome_none,Bool.false_eq_true,if_false] at hv
   have hlt:j < c'.size:=(Array.getElem?_eq_some_iff.1 hv).1
   simp only [Option.isSome_none,Bool.false_eq_true,if_false]
   exact ⟨_,Array.getElem?_eq_getElem (by omega)⟩
  | _=>simp only [hb] at hw; cases hw
theorem OutI.sp {a:Option Addr} {l k b o:Nat} {d:List Nat} (h:OutI m a l k b o d) (hf:SpF N0 s m m1) (hb:0 < k→b≠s):OutI m1 a l k b o d:=by
 have hlen:=h.len
 have hle:=h.own.le
 refine ⟨⟨h.own.len,h.own.le,h.own.at_,fun i v hv=>?_,fun i hi=>hf.wr (h.own.wr i hi)⟩,fun h0 j v hv=>?_⟩
 ·have hi:i < d.length:=by have:=(List.getElem?_eq_some_iff.1 hv).1; simpa using this
  refine hf.cell (h.own.row i v hv) (.inr ⟨hb (by omega),?_⟩)
  rw [List.getElem?_map] at hv
  cases hd:d[i]? with
  | none=>rw [hd] at hv; cases hv
  | some x=>
   rw [hd] at hv
   simp only [Option.map_some,Option.some.injEq] at hv
   subst hv
   intro y e; unfold i64V at e; cases e
 ·obtain ⟨⟨w,hw⟩,_⟩:=h.own.wr 0 (by omega)
  obtain ⟨v',hv'⟩:=cell_there hw hv hf
  obtain ⟨x,rfl⟩:=h.i64 h0 j v' hv'
  have:=hf.cell hv' (.inr ⟨hb h0,by intro y e; cases e⟩)
  rw [hv] at this
  simp only [Option.some.injEq] at this
  exact ⟨x,this⟩
theorem SpAt.rowI (h:SpAt N0 s src dict p out z m) {b k:Nat} (hf:Fr (fun x _=>x=b∧0 < k) m m1) (hb:0 < k→N0≤b∧b≠s) (hc:0 < k→∀ j v,cell? m ⟨b,j,none⟩=some v→∃ x,v=.int .i64 x):SpAt N0 s src dict p out z m1:=by
 obtain ⟨a1,l1,k1,b1,o1,h1,h2,h3⟩:=h.srcA
 obtain ⟨a4,l4,k4,b4,o4,h4,h5,h6⟩:=h.dictA
 obtain ⟨a7,l7,k7,b7,o7,h7,h8,h9⟩:=h.outA
 have ns: ¬ (s=b∧0 < k):=fun ⟨e,h0⟩=>(hb h0).2 e.symm
 have nb:∀ x,x < N0→ ¬ (x=b∧0 < k):=fun x hx ⟨e,h0⟩=>by have:=(hb h0).1; omega
 refine ⟨⟨a1,l1,k1,b1,o1,hf.cell h1 ns,h2.sp hf fun h0 j=>nb _ (h3 h0),h3⟩,hf.cell h.pos ns,⟨a4,l4,k4,b4,o4,hf.cell h4 ns,h5.sp hf fun h0 j=>nb _ (h6 h0),h6⟩,
  ⟨a7,l7,k7,b7,o7,hf.cell h7 ns,h8.fr hf (fun h0 j ⟨e,h00⟩=>?_),h9⟩,hf.cell h.z ns,fun i h1 h2=>(h.wr i h1 h2).fr hf,h.lo,h.le,h.big⟩
 subst e
 obtain ⟨⟨v,hv⟩,_⟩:=h8.own.wr 0 (by omega)
 obtain ⟨x,rfl⟩:=hc h00 _ v hv
 obtain ⟨y,hy⟩:=h8.u8 h0 _ _ hv
 cases hy
def Objs (m m':Mem):Prop:=∀ (i:Nat) (o:Obj),m[i]?=some o→(∀ c t fr,o≠.cells c t fr)→m'[i]?=some o
theorem Objs.refl (m:Mem):Objs m m:=fun _ _ h _=>h
theorem Objs.trans (h:Objs m m1) (h':Objs m1 m2):Objs m m2:=fun i o ho hn=>h' i o (h i o ho hn) hn
theorem MapI.ob {r:Nat} {es:Array MapEntry} {clock:Nat} {l:List (Int×Int)} (h:MapI m r es clock l) (hf:Objs m m1):MapI m1 r es clock l:=⟨hf r _ h.obj (by simp),h.kv,h.born⟩
theorem Objs.row {b o k:Nat} (hf:Fr (fun x _=>x=b∧0 < k) m m1) (hw:0 < k→Wr m ⟨b,o,none⟩):Objs m m1:=by
 intro i x hx hn
 refine hf.objs i x hx hn ?_
 rintro ⟨rfl,h0⟩
 obtain ⟨c,t,fr,hc⟩:=cells_of_wr (hw h0)
 rw [hx] at hc
 simp only [Option.some.injEq] at hc
 exact hn _ _ _ hc
def tEnv (s many:Nat) (r:Nat) (a:Option Addr) (l k:Nat):Env:=[(0,.pointer (some ⟨s,0,none⟩)),(1,.int .i64 (many:Int)),(7,.map (some r)),(8,.slice a l k)]
structure RowAt (N0 s:Nat) (src dict:List Nat) (p:Nat) (out:List Nat) (z:Int) (m0 m:Mem) (a:Option Addr) (k b o:Nat) (ls:List Nat):Prop where
 st:SpAt N0 s src dict p out z m
 fr:SpF N0 s m0 m
 row:OutI m a ls.length k b o ls
 new:0 < k→m0.size≤b
theorem RowAt.sp {p':Nat} {z':Int} {a:Option Addr} {k b o:Nat} {ls:List Nat} (h:RowAt N0 s src dict p out z m0 m a k b o ls) (hs:s < m0.size) (hf:SpF N0 s m m1) (h1:SpAt N0 s src dict p' out z' m1):RowAt N0 s src dict p' out z' m0 m1 a k b o ls:=
 ⟨h1,h.fr.trans hf,h.row.sp hf fun h0=>by have:=h.new h0; omega,h.new⟩
theorem told_push {a:Option Addr} {k b o many r:Nat} {ls:List Nat} (h:RowAt N0 s src dict p out z m0 m a k b o ls) (hs:s < m0.size) (hN:N0≤s) (n v:Nat) (hl:ls.length+n≤4096) {K:Kont} {r':Env}
  (hr':Env.keep [0,1,7,8,10,11] r'=[(0,.pointer (some ⟨s,0,none⟩)),(1,.int .i64 (many:Int)),(7,.map (some r)),(8,.slice a ls.length k),(10,.int .i64 (n:Int)),(11,.int .i64 (v:Int))])
  (hk:∀ m' a' k' b' o' q,RowAt N0 s src dict p out z m0 m' a' k' b' o' (ls++List.replicate n v)→Objs m m'→Env.keep [0,1,7,8] q=tEnv s many r a' (ls.length+n) k'→K.kn q m'):
  WPS PP 87 c_state_told_rrrlllrlrrrr K r' m:=by
 refine WPS.piece [0,1,7,8,10,11] hr' (p_state_told_rrrlllrlrrrr s many (some r) a ls.length k n v m K ?_)
 rw [q_state_told_rrrlllrlrrrrrl]
 refine loopW ffOk mixedOk (L₀:=L_state_told) (σ:=Nat×Option Addr×Nat×Nat×Nat) [0,1,7,8,11,78,79] (fun q=>[(0,.pointer (some ⟨s,0,none⟩)),(1,.int .i64 (many:Int)),(7,.map (some r)),(8,.slice q.2.1 (ls.length+q.1) q.2.2.1),(11,.int .i64 (v:Int)),(78,.int .i64 (n:Int)),(79,.int .i64 (q.1:Nat))])
  (fun q m'=>q.1≤n∧RowAt N0 s src dict p out z m0 m' q.2.1 q.2.2.1 q.2.2.2.1 q.2.2.2.2 (ls++List.replicate q.1 v)∧Objs m m') (fun q=>n - q.1) (0,a,k,b,o) rfl ⟨Nat.zero_le _,by simpa using h,Objs.refl _⟩ ?_
 rintro ⟨i,a1,k1,b1,o1⟩ m1 ⟨hi,h1,hO1⟩
 simp only at hi h1
 refine p_state_told_rrrlllrlrrrrrll s many (some r) a1 (ls.length+i) k1 v n i m1 _ ?_
 have hlen:(ls++List.replicate i v).length=ls.length+i:=by simp
 by_cases hin:i < n
 ·rw [decide_eq_true (by omega)]
  have hw:IntKind.wrap .i64 ((i:Int)+1)=((i+1:Nat):Int):=by rw [wrap64_id (by omega) (by omega)]; rfl
  rw [hw]
  have hrow:=h1.row
  rw [hlen] at hrow
  refine ifB_t (pushI_W hrow v (by omega) fun m2 a' k' b' o' hO hk' hb2 hf2=>?_)
  refine ⟨(i+1,a',k',b',o'),rfl,⟨by simp only; omega,?_,hO1.trans (Objs.row (o:=o1) hf2 fun h0=>by have:=hrow.own.wr 0 (by omega); rwa [Nat.add_zero] at this)⟩,by simp only; omega⟩
  simp only
  have e:ls++List.replicate (i+1) v=ls++List.replicate i v++[v]:=by rw [List.append_assoc, ← List.replicate_succ']
  rw [e]
  refine ⟨h1.st.rowI hf2 (fun h0=>?_) hrow.i64,h1.fr.new hf2 fun x _ ⟨e,h0⟩=>by have:=h1.new h0; omega,by rw [List.length_append,hlen]; exact hO,fun h0=>?_⟩
  ·have:=h1.new h0; omega
  ·rcases hb2 with ⟨e1,e2⟩ | h2
   ·rw [e1]; exact h1.new (by omega)
   ·have:=h1.fr.size; omega
 ·rw [decide_eq_false (by omega)]
  have hin':i=n:=by omega
  subst hin'
  exact ifB_f (hk m1 a1 k1 b1 o1 _ h1 hO1 rfl)
def Told (R:Ls) (z:Int):Prop:=False∨(z=3∧R=.cut)∨(z=2∧R=.bad)
theorem told_more {a:Option Addr} {k b o many r:Nat} {ls:List Nat} (h:RowAt N0 s src dict p out z m0 m a k b o ls) (hs:s < m0.size) (hN:N0≤s) (n v:Nat) (hl:ls.length+n≤4096) {K:Kont} {r':Env}
  (hr':Env.keep [0,1,7,8,10,11] r'=[(0,.pointer (some ⟨s,0,none⟩)),(1,.int .i64 (many:Int)),(7,.map (some r)),(8,.slice a ls.length k),(10,.int .i64 (n:Int)),(11,.int .i64 (v:Int))])
  (hk:∀ m' a' k' b' o' z' q,RowAt N0 s src dict p out z' m0 m' a' k' b' o' (ls++List.replicate n v)→Objs m m'→(0≤z→z'=z)→(z < 0→many < ls.length+n→z'=2)→(z < 0→ls.length+n≤many→z'=z)→Env.keep [0,1,7,8] q=tEnv s many r a' (ls.length+n) k'→K.kn q m'):
  WPS PP 87 c_state_told_rrrlllrlrrr K r' m:=by
 refine WPS.piece [0,1,7,8,10,11] hr' (p_state_told_rrrlllrlrrr s many (some r) a ls.length k n v m K (on_spec h.st ⟨_,rfl,?_⟩))
 have hw:IntKind.wrap .i64 ((ls.length:Int)+(n:Int))=((ls.length+n:Nat):Int):=by rw [wrap64_id (by omega) (by omega)]; rfl
 by_cases hz:z < 0
 ·rw [decide_eq_true hz,hw]
  refine ifB_t ?_
  by_cases hm:many < ls.length+n
  ·rw [decide_eq_true (by omega)]
   refine ifB_t (stop_spec h.st fun m1 h1 f1=>⟨rfl,?_⟩)
   rw [if_pos hz] at h1
   refine told_push (h.sp hs f1 h1) hs hN n v hl rfl fun m2 a' k' b' o' q h2 hO hq=>hk m2 a' k' b' o' 2 q h2 (Objs.trans (fun i o=>f1.objs i o) hO) (fun h0=>by omega) (fun _ _=>rfl) (fun _ h0=>by omega) hq
  ·rw [decide_eq_false (by omega)]
   exact ifB_f (told_push h hs hN n v hl rfl fun m2 a' k' b' o' q h2 hO hq=>hk m2 a' k' b' o' z q h2 hO (fun h0=>rfl) (fun _ h0=>by omega) (fun _ h0=>rfl) hq)
 ·rw [decide_eq_false hz]
  exact ifB_f (told_push h hs hN n v hl rfl fun m2 a' k' b' o' q h2 hO hq=>hk m2 a' k' b' o' z q h2 hO (fun h0=>rfl) (fun h0=>absurd h0 hz) (fun h0=>absurd h0 hz) hq)
end
end Go.M

namespace Go.M
open Go
set_option maxRecDepth 100000
section
variable {N0 s:Nat} {src dict:List Nat} {p:Nat} {out:List Nat} {z:Int} {m:Mem}
theorem lrun_step {c:Sc} {V:Nat→Nat} {mn n:Nat} {ls:List Nat} {p:Nat} (h:ls.length < n):
  lrun c V mn n (n - ls.length) ls p=match lstep c V mn n ls p with | .go ls' p'=>lrun c V mn n (n - ls'.length) ls' p' | .cut=>.cut | .bad=>.bad:=by
 obtain ⟨k,hk⟩:∃ k,n - ls.length=k+1:=⟨n - ls.length - 1,by omega⟩
 rw [hk,lrun,if_neg (by omega)]
 cases hs:lstep c V mn n ls p with
 | cut=>rfl
 | bad=>rfl
 | go ls' p'=>
  have:=(lstep_go hs h).1
  exact lrun_fuel (by omega) (by omega)
theorem lrun_done {c:Sc} {V:Nat→Nat} {mn n:Nat} {ls:List Nat} {p:Nat} (h:n≤ls.length):lrun c V mn n (n - ls.length) ls p=.go ls p:=by
 rw [show n - ls.length=0 by omega,lrun]
theorem told_spec (h:SpAt N0 s src dict p out z m) {a:Option Addr} {l k b o:Nat} {L:List Nat} (hS:SlcI m a l k b o L) (h15:∀ v ∈ L,v≤15) (hl:l=19) {many:Nat} (hmany:many≤400) (hfull:z < 0→Full L) {R:Value→Mem→Prop}
  (hk:∀ m' a' k' b' o' ls p' z',RowAt N0 s src dict p' out z' m m' a' k' b' o' ls→(0≤z→z'=z)→
   (z < 0→(z'=z∧p≤p'∧lrun (sc0 (num src) (8 * src.length)) (tabV L) (mnOf L) many many [] p=.go ls p')∨(0≤z'∧Told (lrun (sc0 (num src) (8 * src.length)) (tabV L) (mnOf L) many many [] p) z'))→R (.slice a' ls.length k') m'):
  CallM PP f_state_told #[.pointer (some ⟨s,0,none⟩),.int .i64 (many:Int),.slice a l k] m R:=by
 have hs:s < m.size:=by have:=cell_block h.z; simpa using this
 have hN:=h.lo
 have hlen:=hS.len
 refine e_state_told s many a l k m R (book_spec hS h15 (by omega) fun m1 r es clock lst hr hM hlst f1=>⟨_,rfl,?_⟩)
 have h1:=h.fresh f1
 have F1:SpF N0 s m m1:=.fresh f1
 generalize hRun:lrun (sc0 (num src) (8 * src.length)) (tabV L) (mnOf L) many many [] p=Run at hk
 rw [q_state_told_rrrll]
 refine loopW ffOk mixedOk (L₀:=L_state_told) (σ:=Nat×List Nat×Int×Option Addr×Nat×Nat×Nat) [0,1,7,8] (fun q=>tEnv s many r q.2.2.2.1 q.2.1.length q.2.2.2.2.1)
  (fun q m'=>q.2.1.length≤many+400∧Objs m1 m'∧RowAt N0 s src dict q.1 out q.2.2.1 m m' q.2.2.2.1 q.2.2.2.2.1 q.2.2.2.2.2.1 q.2.2.2.2.2.2 q.2.1∧
   ((q.2.2.1=z∧z < 0∧p≤q.1∧q.2.1.length≤many∧lrun (sc0 (num src) (8 * src.length)) (tabV L) (mnOf L) many (many - q.2.1.length) q.2.1 q.1=Run)∨(0≤q.2.2.1∧(z < 0→Told Run q.2.2.1)∧(0≤z→q.2.2.1=z))))
  (fun q=>if q.2.2.1 < 0 then 1+(many - q.2.1.length) else 0) (p,[],z,none,0,0,0) rfl ⟨Nat.zero_le _,Objs.refl _,⟨h1,F1,OutI.nil _ _,by simp⟩,?_⟩ ?_
 ·by_cases hz:z < 0
  ·exact .inl ⟨rfl,hz,Nat.le_refl _,Nat.zero_le _,hRun⟩
  ·exact .inr ⟨by show (0:Int)≤z; omega,fun h0=>absurd h0 hz,fun _=>rfl⟩
 rintro ⟨p1,ls,z1,a1,k1,b1,o1⟩ m2 ⟨hll,G2,h2,hst⟩
 simp only at hll h2 hst
 refine p_state_told_rrrlll s many (some r) a1 ls.length k1 m2 _ ?_
 have fin:∀ (r':Env),Env.keep [8] r'=[(8,.slice a1 ls.length k1)]→(many≤ls.length∨0≤z1)→WPS PP 87 c_state_told_rrrr (retK PP r_state_told R) r' m2:=by
  intro r' hr' hc
  refine WPS.piece [8] hr' (p_state_told_rrrr a1 ls.length k1 m2 _ ?_)
  refine hk m2 a1 k1 b1 o1 ls p1 z1 h2 (fun h0=>?_) (fun hz=>?_)
  ·rcases hst with ⟨_,hz,_⟩ | ⟨_,_,h3⟩
   ·omega
   ·exact h3 h0
  ·rcases hst with ⟨h3,_,h4,h5,h6⟩ | ⟨h3,h4,_⟩
   ·rcases hc with hc | hc
    ·exact .inl ⟨h3,h4,by rw [← h6,lrun_done hc]⟩
    ·omega
   ·exact .inr ⟨h3,h4 hz⟩
 by_cases hlt:ls.length < many
 rotate_left
 ·rw [decide_eq_false (by omega)]
  exact ifB_f (fin _ rfl (.inl (by omega)))
 rw [decide_eq_true (by omega)]
 refine ifB_t (on_spec h2.st ⟨_,rfl,?_⟩)
 rcases hst with ⟨hzz,hz,hp1,hle,hrun⟩ | ⟨hz1,hg1,hg2⟩
 rotate_left
 ·rw [decide_eq_false (by omega)]
  exact ifB_f (fin _ rfl (.inr hz1))
 subst hzz
 rw [decide_eq_true hz]
 have hF:=hfull hz
 rw [hlst (full_ok hF), ← hlen] at hM
 rw [lrun_step hlt] at hrun
 have stopped:∀ m3 p3 z3,0≤z3→Told Run z3→SpAt N0 s src dict p3 out z3 m3→SpF N0 s m2 m3→R (.slice a1 ls.length k1) m3:=by
  intro m3 p3 z3 hz3 ht h3 f3
  exact hk m3 a1 k1 b1 o1 ls p3 z3 (h2.sp hs f3 h3) (fun h0=>by omega) (fun _=>.inr ⟨hz3,ht⟩)
 refine ifB_t (symbol_spec h2.st (.inr (hM.ob G2)) (fun _=>full_ok hF) h15 (fun h0=>by omega) (fun _ m3 x p3 hx hsy h3 f3=>⟨_,rfl,on_spec h3 ⟨_,rfl,?_⟩⟩) (fun _ m3 hsh h3 f3=>⟨_,rfl,on_spec h3 ⟨_,rfl,?_⟩⟩) (fun _ hnh m3 p3 h3 f3=>⟨_,rfl,on_spec h3 ⟨_,rfl,?_⟩⟩))
 rotate_left
 ·refine ifB_t (stopped m3 _ 3 (by decide) (.inr (.inl ⟨rfl,?_⟩)) h3 f3)
  rw [← hrun]
  unfold lstep
  have:=sym_short (c:=sc0 (num src) (8 * src.length)) (mn:=mnOf L) h15 (full_ok hF) (usedN_full hF) ⟨hsh.hit,hsh.one⟩ (Nat.le_refl _)
  rw [this]
 ·obtain ⟨k,hk⟩:=hF.hits (num src / 2 ^ p1)
  rw [hnh k] at hk; cases hk
 rw [decide_eq_true hz]
 have hsym:=sym_hit' (c:=sc0 (num src) (8 * src.length)) h15 (⟨hsy.hit,hsy.eq,hsy.le⟩:SymOk L (sc0 (num src) (8 * src.length)) p1 x p3)
 have hp3:p1 < p3:=by have:=hsy.eq; have:=(hit_iff.1 hsy.hit).1; omega
 unfold lstep at hrun
 rw [hsym] at hrun
 simp only at hrun
 have h23:=h2.sp hs f3 h3
 have hx19:x < 19:=by omega
 refine ifB_f ?_
 have more:∀ (n v:Nat) m4 p4 z4 (r':Env),n≤138→0 < n→p≤p4→RowAt N0 s src dict p4 out z4 m m4 a1 k1 b1 o1 ls→Objs m2 m4→((z4=z1∧(if many < ls.length+n then Ls.bad else lrun (sc0 (num src) (8 * src.length)) (tabV L) (mnOf L) many (many - (ls++List.replicate n v).length) (ls++List.replicate n v) p4)=Run)∨(0≤z4∧Told Run z4))→
   Env.keep [0,1,7,8,10,11] r'=[(0,.pointer (some ⟨s,0,none⟩)),(1,.int .i64 (many:Int)),(7,.map (some r)),(8,.slice a1 ls.length k1),(10,.int .i64 (n:Int)),(11,.int .i64 (v:Int))]→
   WPS PP 87 c_state_told_rrrlllrlrrr (((((retK PP r_state_told R).withN fun r m=>WPS PP 87 c_state_told_rrrr (retK PP r_state_told R) r m).withX 0).withN fun r_1 m_1=>∃ s':Nat×List Nat×Int×Option Addr×Nat×Nat×Nat,Env.keep [0,1,7,8] r_1=tEnv s many r s'.2.2.2.1 s'.2.1.length s'.2.2.2.2.1∧
    (s'.2.1.length≤many+400∧Objs m1 m_1∧RowAt N0 s src dict s'.1 out s'.2.2.1 m m_1 s'.2.2.2.1 s'.2.2.2.2.1 s'.2.2.2.2.2.1 s'.2.2.2.2.2.2 s'.2.1∧
     ((s'.2.2.1=z1∧z1 < 0∧p≤s'.1∧s'.2.1.length≤many∧lrun (sc0 (num src) (8 * src.length)) (tabV L) (mnOf L) many (many - s'.2.1.length) s'.2.1 s'.1=Run)∨(0≤s'.2.2.1∧(z1 < 0→Told Run s'.2.2.1)∧(0≤z1→s'.2.2.1=z1))))∧
    (if s'.2.2.1 < 0 then 1+(many - s'.2.1.length) else 0) < (if z1 < 0 then 1+(many - ls.length) else 0)).withX 1) r' m4:=by
  intro n v m4 p4 z4 r' hn hn0 hp4 h4 hO4 hc hr'
  have hlr:(ls++List.replicate n v).length=ls.length+n:=by simp
  refine told_more h4 hs hN n v (by omega) hr' fun m5 a' k' b' o' z5 q h5 hO5 hz5 hbad hok hq=>?_
  refine ⟨(p4,ls++List.replicate n v,z5,a',k',b',o'),by rw [hq,hlr],⟨by simp only; omega,(G2.trans hO4).trans hO5,h5,?_⟩,?_⟩
  ·simp only
   rcases hc with ⟨rfl,hc⟩ | ⟨hz4,hT⟩
   ·by_cases hm:many < ls.length+n
    ·rw [if_pos hm] at hc
     rw [hbad hz hm]
     exact .inr ⟨by decide,fun _=>.inr (.inr ⟨rfl,hc.symm⟩),fun h0=>by omega⟩
    ·rw [if_neg hm] at hc
     exact .inl ⟨hok hz (by omega),hz,hp4,by omega,hc⟩
   ·rw [hz5 hz4]
    exact .inr ⟨hz4,fun _=>hT,fun h0=>by omega⟩
  ·simp only
   rw [if_pos hz]
   split <;> omega
 have rep:∀ (base nb v:Nat) (K:Int→Mem→Prop),nb≤7→0 < base→base≤11→lsym (sc0 (num src) (8 * src.length)) many ls x p3=lrep (sc0 (num src) (8 * src.length)) many ls v base nb p3→
   (∀ (w:Nat) m4 p4 z4,w < 2 ^ nb→p≤p4→RowAt N0 s src dict p4 out z4 m m4 a1 k1 b1 o1 ls→Objs m2 m4→((z4=z1∧(if many < ls.length+(base+w) then Ls.bad else lrun (sc0 (num src) (8 * src.length)) (tabV L) (mnOf L) many (many - (ls++List.replicate (base+w) v).length) (ls++List.replicate (base+w) v) p4)=Run)∨(0≤z4∧Told Run z4))→K (w:Nat) m4)→
   CallM PP f_state_bits #[.pointer (some ⟨s,0,none⟩),.int .i64 (nb:Int)] m3 fun v23 m24=>∃ (x22:Int),v23=.int .i64 x22∧K x22 m24:=by
  intro base nb v K hnb hb0 hb11 hls hK
  rw [hls] at hrun
  unfold lrep at hrun
  refine bits_spec h3 nb (by omega) (fun h0=>by omega) (fun _ hsh m4 w hw h4 f4=>⟨_,rfl,?_⟩) (fun _ hle4 m4 h4 f4=>⟨_,rfl,?_⟩)
  ·rw [if_pos (show (sc0 (num src) (8 * src.length)).tot < p3+nb from hsh)] at hrun
   have hle3:=h3.le
   exact hK w m4 _ 3 hw (by omega) (h23.sp hs f4 h4) (Objs.trans (fun i o=>f3.objs i o) fun i o=>f4.objs i o) (.inr ⟨by decide,.inr (.inl ⟨rfl,hrun.symm⟩)⟩)
  ·rw [if_neg (show ¬ (sc0 (num src) (8 * src.length)).tot < p3+nb by show ¬ 8 * src.length < _; omega)] at hrun
   refine hK _ m4 _ z1 (tk_lt ..) (by omega) (h23.sp hs f4 h4) (Objs.trans (fun i o=>f3.objs i o) fun i o=>f4.objs i o) (.inl ⟨rfl,?_⟩)
   by_cases hm:many < ls.length+(base+tk (num src) p3 nb)
   ·rw [if_pos hm]
    rw [if_pos (show many < ls.length+(base+tk (sc0 (num src) (8 * src.length)).N p3 nb) from hm)] at hrun
    exact hrun
   ·rw [if_neg hm]
    rw [if_neg (show ¬ many < ls.length+(base+tk (sc0 (num src) (8 * src.length)).N p3 nb) from hm)] at hrun
    exact hrun
 have O23:Objs m2 m3:=fun i o=>f3.objs i o
 by_cases h16:x=16
 ·subst h16
  refine ifB_t ?_
  by_cases hnil:ls=[]
  ·subst hnil
   refine ifB_t (stop_spec h3 fun m4 h4 f4=>⟨rfl,?_⟩)
   rw [if_pos hz] at h4
   exact stopped m4 _ 2 (by decide) (.inr (.inr ⟨rfl,hrun.symm⟩)) h4 (f3.trans f4)
  ·have hpos:0 < ls.length:=List.length_pos_iff.2 hnil
   have e0:((ls.length:Int) == 0)=false:=by rw [beq_eq_false_iff_ne]; omega
   rw [e0]
   refine ifB_f (ifB_t ?_)
   have hwl:IntKind.wrap .i64 ((ls.length:Int) - 1)=((ls.length - 1:Nat):Int):=by rw [wrap64_id (by omega) (by omega)]; omega
   have hrow:=h23.row
   have hat:=hrow.own.at_ (by have:=hrow.own.le; omega)
   have hget:ls[ls.length - 1]?=some (ls.getD (ls.length - 1) 0):=by rw [List.getD_eq_getElem?_getD,List.getElem?_eq_getElem (by omega)]; rfl
   have cellAt:∀ {m4 p4 z4},RowAt N0 s src dict p4 out z4 m m4 a1 k1 b1 o1 ls→cell? m4 ⟨b1,o1+(ls.length - 1),none⟩=some (.int .i64 ((ls.getD (ls.length - 1) 0:Nat):Int)):=fun h4=>by
    refine h4.row.own.row (ls.length - 1) _ ?_
    rw [List.getElem?_map,hget]; rfl
   rw [hwl,hat]
   refine ⟨⟨by omega,by omega⟩,_,cellAt h23,?_⟩
   refine rep 3 2 (ls.getD (ls.length - 1) 0) _ (by decide) (by decide) (by decide) ?_ fun w m4 p4 z4 hw hp4 h4 hO4 hc=>⟨?_,?_⟩
   ·unfold lsym
    rw [if_neg (by decide),if_pos rfl,if_neg hnil]
   ·exact cellAt h4
   ·have hww:IntKind.wrap .i64 (3+(w:Int))=((3+w:Nat):Int):=by rw [wrap64_id (by omega) (by omega)]; rfl
    rw [hww]
    exact more _ _ m4 p4 z4 _ (by omega) (by omega) hp4 h4 hO4 hc (by rw [hat]; rfl)
 have e16:((x:Int) == 16)=false:=by rw [beq_eq_false_iff_ne]; omega
 rw [e16]
 refine ifB_f (ifB_f ?_)
 by_cases h17:x=17
 ·subst h17
  refine ifB_t (rep 3 3 0 _ (by decide) (by decide) (by decide) rfl fun w m4 p4 z4 hw hp4 h4 hO4 hc=>?_)
  have hww:IntKind.wrap .i64 (3+(w:Int))=((3+w:Nat):Int):=by rw [wrap64_id (by omega) (by omega)]; rfl
  rw [hww]
  exact more _ 0 m4 p4 z4 _ (by omega) (by omega) hp4 h4 hO4 hc rfl
 have e17:((x:Int) == 17)=false:=by rw [beq_eq_false_iff_ne]; omega
 rw [e17]
 refine ifB_f ?_
 by_cases h18:x=18
 ·subst h18
  refine ifB_t (rep 11 7 0 _ (by decide) (by decide) (by decide) rfl fun w m4 p4 z4 hw hp4 h4 hO4 hc=>?_)
  have hww:IntKind.wrap .i64 (11+(w:Int))=((11+w:Nat):Int):=by rw [wrap64_id (by omega) (by omega)]; rfl
  rw [hww]
  exact more _ 0 m4 p4 z4 _ (by omega) (by omega) hp4 h4 hO4 hc rfl
 have e18:((x:Int) == 18)=false:=by rw [beq_eq_false_iff_ne]; omega
 rw [e18]
 refine ifB_f (more 1 x m3 p3 z1 _ (by decide) (by decide) (by omega) h23 O23 (.inl ⟨rfl,?_⟩) rfl)
 rw [if_neg (by omega)]
 unfold lsym at hrun
 rw [if_pos (by omega)] at hrun
 exact hrun
end
end Go.M

namespace Go.M
open Go
set_option maxRecDepth 100000
theorem miss_of {L:List Nat} (hok:okL L=true) (h15:∀ v ∈ L,v≤15) (h:krn 15 L < 32768):∃ x,tabV L x % 16=0:=by
 rcases okL_cases hok with h1 | h1 | ⟨h1,h2⟩
 ·refine ⟨0,?_⟩
  rw [tab_none fun i=>?_]
  cases hh:hit L 0 i with
  | false=>rfl
  | true=>
   have h3:=(hit_iff.1 hh).1
   have h4:=mx_ln (D:=L) (k:=i)
   omega
 ·have:=(full_iff h15).1 h1; omega
 ·refine ⟨1,?_⟩
  rw [tab_none fun i=>?_]
  cases hh:hit L 1 i with
  | false=>rfl
  | true=>
   obtain ⟨h3,h4⟩:=hit_iff.1 hh
   have h5:=mx_ln (D:=L) (k:=i)
   have h6:ln L i=1:=by omega
   have h7:=rank_lt h3
   have h8:nx L 1=0:=by simp [nx,cnt]
   unfold cd at h4
   rw [h6,h8] at h4
   rw [h6] at h7
   have h9:rv 1 1=1:=rfl
   omega
theorem few_bad {D:List Nat} (h15:∀ v ∈ D,v≤15) (h:krn 15 D < 32768) (hu:1 < usedN D∨usedN D=1∧krn 15 D≠16384):okL D=false:=by
 cases hok:okL D with
 | false=>rfl
 | true=>
  exfalso
  rcases okL_cases hok with h1 | h1 | ⟨h1,h2⟩
  ·have h0:usedN D=0:=by
    unfold usedN
    rw [List.length_eq_zero_iff,List.filter_eq_nil_iff]
    intro v hv
    have:=mx_le_mem v hv
    simp; omega
   omega
  ·have:=(full_iff h15).1 h1; omega
  ·have h3:=used_of_one (L:=D) fun v hv=>by have:=mx_le_mem v hv; omega
   have h4:nx D 1=0:=by simp [nx,cnt]
   have h5:cnt D 1=D.count 1:=by unfold cnt; rw [if_neg (by decide)]
   have hu1:usedN D=1:=by omega
   rcases hu with hu | ⟨_,hk⟩
   ·omega
   ·obtain ⟨l,k1,k2,k3,k4⟩:=used_one hu1
    have h6:=mx_le_mem l k2
    have h7:l=1:=by omega
    subst h7
    exact hk (k4 (by decide))
section
variable {N0 s:Nat} {src dict:List Nat} {p:Nat} {out:List Nat} {z:Int} {m:Mem}
theorem dyn_codes (h:SpAt N0 s src dict p out z m) (hout:OutOk out) (hdl:dict.length≤32768) {a a2:Option Addr} {l k b o l2 k2 b2 o2:Nat} {L D:List Nat} (hS:SlcI m a l k b o L) (hS2:SlcI m a2 l2 k2 b2 o2 D) (hb:0 < l→b≠s) (hb2:0 < l2→b2≠s) (hl:l≤288) (hl2:l2≤1000)
  (h15:∀ v ∈ L,v≤15) (h15':∀ v ∈ D,v≤15) {c0:Sc} (hc0:c0=scOf src) {s0:St} {fin:Bool} {q0:Nat} {r':Env}
  (hr':Env.keep [0,8,9] r'=[(0,.pointer (some ⟨s,0,none⟩)),(8,.slice a l k),(9,.slice a2 l2 k2)])
  (hr:z < 0→ReachN c0 s0 (if okL L=true∧okL D=true then .go ⟨p,dict++out,.coded fin (ownT L D)⟩ else .stop (dict++out) .bad q0)) {R:Value→Mem→Prop}
  (hgo:z < 0→∀ m' p' out',OutOk out'→p≤p'→SpAt N0 s src dict p' out' z m'→SpF N0 s m m'→(fin=true→Runs c0 s0 (dict++out') .fin p')→(fin=false→Reach c0 s0 ⟨p',dict++out',.block⟩)→R (.tuple #[]) m')
  (hend:∀ m' p' out' z',0≤z'→OutOk out'→SpAt N0 s src dict p' out' z' m'→SpF N0 s m m'→(z < 0→Good c0 s0 z' (dict++out') p')→(0≤z→z'=z∧out'=out)→R (.tuple #[]) m'):
  WPS PP 95 c_state_dynamic_rrrrrrrrrrr (retK PP r_state_dynamic R) r' m:=by
 subst hc0
 have hlen:=hS.len
 have hlen2:=hS2.len
 refine WPS.piece [0,8,9] hr' (p_state_dynamic_rrrrrrrrrrr s a l k a2 l2 k2 m _ (whole_spec h hS h15 (by omega) fun m1 h1 f1=>⟨rfl,?_⟩))
 have hS1:=hS.sp f1 hb
 have hS21:=hS2.sp f1 hb2
 have last:∀ m9 z9 (r9:Env),SpAt N0 s src dict p out z9 m9→SpF N0 s m m9→(z9 < 0→z < 0∧z9=z∧Full L∧okL D=true)→(0≤z9→(z < 0→Good (scOf src) s0 z9 (dict++out) p)∧(0≤z→z9=z))→
   Env.keep [0,8,9] r9=[(0,.pointer (some ⟨s,0,none⟩)),(8,.slice a l k),(9,.slice a2 l2 k2)]→WPS PP 95 c_state_dynamic_rrrrrrrrrrrrr (retK PP r_state_dynamic R) r9 m9:=by
  intro m9 z9 r9 h9 f9 hg hg2 hr9
  refine WPS.piece [0,8,9] hr9 (p_state_dynamic_rrrrrrrrrrrrr s a l k a2 l2 k2 m9 _ ?_)
  by_cases hz9:z9 < 0
  ·obtain ⟨hz,rfl,hFu,hD⟩:=hg hz9
   have hr:=hr hz
   rw [if_pos ⟨full_ok hFu,hD⟩] at hr
   refine coded_spec h9 hz hdl hout (hS.sp f9 hb) (hS2.sp f9 hb2) (by omega) hl2 hb2 rfl (ownT_of hFu hD h15 h15' (by omega)) (.inl hr) (fun m' p' out' ho hp h' f' g1 g2=>⟨rfl,?_⟩) (fun m' p' out' z' hz' ho h' f' g=>⟨rfl,?_⟩)
   ·exact hgo hz m' p' out' ho (by omega) h' (f9.trans f') g1 g2
   ·exact hend m' p' out' z' hz' ho h' (f9.trans f') (fun _=>g) (fun h0=>by omega)
  ·obtain ⟨g1,g2⟩:=hg2 (by omega)
   refine coded_off h9 (by omega) (hS.sp f9 hb) (hS2.sp f9 hb2) (by omega) hl2 h15 h15' fun m' h' f'=>⟨rfl,?_⟩
   exact hend m' p out z9 (by omega) hout h' (f9.trans f') g1 (fun h0=>⟨g2 h0,rfl⟩)
 generalize hz8:(if z < 0 then (if 32768 < krn 15 L then 2 else if krn 15 L < 32768 then 0 else z) else z)=z8 at h1
 have h8:(z8 < 0→z < 0∧z8=z∧Full L)∧(0≤z8→(z < 0→Good (scOf src) s0 z8 (dict++out) p)∧(0≤z→z8=z)):=by
  rw [← hz8]
  by_cases hz:z < 0
  ·rw [if_pos hz]
   by_cases g1:32768 < krn 15 L
   ·rw [if_pos g1]
    refine ⟨fun h0=>absurd h0 (by decide),fun _=>⟨fun _=>?_,fun h0=>by omega⟩⟩
    have hr:=hr hz
    rw [if_neg (by rw [over_bad h15 g1]; simp)] at hr
    exact .isWrong hr (by decide) (self_app _)
   ·rw [if_neg g1]
    by_cases g2:krn 15 L < 32768
    ·rw [if_pos g2]
     refine ⟨fun h0=>absurd h0 (by decide),fun _=>⟨fun _=>.isOpen ?_,fun h0=>by omega⟩⟩
     have hr:=hr hz
     by_cases hok:okL L=true∧okL D=true
     ·rw [if_pos hok] at hr
      exact .inr (.inl ⟨p,dict++out,fin,ownT L D,hr,.inl (miss_of hok.1 h15 g2)⟩)
     ·rw [if_neg hok] at hr; exact .bad hr (by decide)
    ·rw [if_neg g2]
     exact ⟨fun _=>⟨hz,rfl,(full_iff h15).2 (by show krn 15 L=32768; omega)⟩,fun h0=>by omega⟩
  ·rw [if_neg hz]
   exact ⟨fun h0=>absurd h0 hz,fun _=>⟨fun h0=>absurd h0 hz,fun _=>rfl⟩⟩
 clear hz8
 have judge:(krn 15 D < 32768→okL D=false)→∀ m3 (r9:Env),SpAt N0 s src dict p out z8 m3→SpF N0 s m m3→Env.keep [0,8,9] r9=[(0,.pointer (some ⟨s,0,none⟩)),(8,.slice a l k),(9,.slice a2 l2 k2)]→
   CallM PP f_state_whole #[.pointer (some ⟨s,0,none⟩),.slice a2 l2 k2] m3 fun v12 m13=>v12=.tuple #[]∧WPS PP 95 c_state_dynamic_rrrrrrrrrrrrr (retK PP r_state_dynamic R) r9 m13:=by
  intro hj m3 r9 h3 f3 hr9
  refine whole_spec h3 (hS2.sp f3 hb2) h15' (by omega) fun m4 h4 f4=>⟨rfl,?_⟩
  refine last m4 _ r9 h4 (f3.trans f4) ?_ ?_ hr9
  ·intro hz9
   by_cases hz:z8 < 0
   ·rw [if_pos hz] at hz9 ⊢
    obtain ⟨g1,g2,g3⟩:=h8.1 hz
    by_cases k1:32768 < krn 15 D
    ·rw [if_pos k1] at hz9; exact absurd hz9 (by decide)
    ·rw [if_neg k1] at hz9 ⊢
     by_cases k2:krn 15 D < 32768
     ·rw [if_pos k2] at hz9; exact absurd hz9 (by decide)
     ·rw [if_neg k2]
      exact ⟨g1,g2,g3,full_ok ((full_iff h15').2 (by show krn 15 D=32768; omega))⟩
   ·rw [if_neg hz] at hz9; exact absurd hz9 hz
  ·intro hz9
   by_cases hz:z8 < 0
   ·obtain ⟨g1,g2,g3⟩:=h8.1 hz
    rw [if_pos hz] at hz9 ⊢
    by_cases k1:32768 < krn 15 D
    ·rw [if_pos k1]
     have hr:=hr g1
     rw [if_neg (by rw [over_bad h15' k1]; simp)] at hr
     exact ⟨fun _=>.isWrong hr (by decide) (self_app _),fun h0=>by omega⟩
    ·rw [if_neg k1] at hz9 ⊢
     by_cases k2:krn 15 D < 32768
     ·rw [if_pos k2]
      have hr:=hr g1
      rw [if_neg (by rw [hj k2]; simp)] at hr
      exact ⟨fun _=>.isOpen (.bad hr (by decide)),fun h0=>by omega⟩
     ·rw [if_neg k2] at hz9; omega
   ·rw [if_neg hz]
    exact h8.2 (by omega)
 have skip:∀ (r9:Env),okL D=true→Env.keep [0,8,9] r9=[(0,.pointer (some ⟨s,0,none⟩)),(8,.slice a l k),(9,.slice a2 l2 k2)]→WPS PP 95 c_state_dynamic_rrrrrrrrrrrrr (retK PP r_state_dynamic R) r9 m1:=
  fun r9 hok hr9=>last m1 z8 r9 h1 f1 (fun h0=>let ⟨g1,g2,g3⟩:=h8.1 h0; ⟨g1,g2,g3,hok⟩) h8.2 hr9
 refine used_spec hS21 (by omega) ⟨_,rfl,?_⟩
 by_cases hu:1 < usedN D
 ·rw [decide_eq_true (by omega)]
  exact ifB_t (judge (fun hk=>few_bad h15' hk (.inl hu)) m1 _ h1 f1 rfl)
 ·rw [decide_eq_false (by omega)]
  refine ifB_f ?_
  by_cases hu1:usedN D=1
  ·rw [hu1]
   refine ifB_t (room_spec hS21 h15' (by omega) ⟨_,rfl,?_⟩)
   by_cases hk:krn 15 D=16384
   ·have e:((32768 - (krn 15 D:Int)) != 16384)=false:=by rw [bne_eq_false_iff_eq]; omega
    rw [e]
    exact ifB_f (skip _ (one_ok h15' hu1 hk) rfl)
   ·have e:((32768 - (krn 15 D:Int)) != 16384)=true:=by rw [bne_iff_ne]; omega
    rw [e]
    exact ifB_t (judge (fun hk'=>few_bad h15' hk' (.inr ⟨hu1,hk⟩)) m1 _ h1 f1 rfl)
  ·have e:(((usedN D:Nat):Int) == 1)=false:=by rw [beq_eq_false_iff_ne]; omega
   rw [e]
   exact ifB_f (skip _ (none_ok (by omega)) rfl)
end
end Go.M
