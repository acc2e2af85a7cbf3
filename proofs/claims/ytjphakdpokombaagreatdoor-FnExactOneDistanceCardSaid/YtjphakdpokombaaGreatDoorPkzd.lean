/- The random generator: lengths of codes. The random generator: lengths of complete codes. The random generator: which symbols items need. The random generator: lengths as runs. -/
import Derived.Test.YtjphakdpokombaaGreatDoorPkzc
namespace Go.M
open Go
set_option maxRecDepth 100000
def NumI (m:Mem) (a:Option Addr) (l k b o:Nat) (d:List Nat):Prop:=Own m a l k 1 (d.map i64V) b o
section
variable {m m':Mem} {r c:Nat} {a:Option Addr} {l k b o:Nat} {d:List Nat}
theorem NumI.nil (m:Mem) (b:Nat):NumI m none 0 0 b 0 []:=⟨rfl,Nat.le_refl _,by omega,fun i v h=>by simp at h,fun i h=>by omega⟩
theorem NumI.len (h:NumI m a l k b o d):d.length=l:=by simpa using Own.len h
theorem NumI.slc (h:NumI m a l k b o d):SlcI m a l k b o d:=
 ⟨h.len,Own.le h,fun h0=>Own.at_ h (by have:=Own.le h; omega),fun i v hv=>Own.row h i _ (by rw [List.getElem?_map,hv]; rfl)⟩
theorem NumI.fr {S:Nat→Nat→Prop} (h:NumI m a l k b o d) (hf:Fr S m m') (hs:0 < k→∀ j, ¬ S b j):NumI m' a l k b o d:=by
 refine ⟨Own.len h,Own.le h,Own.at_ h,(Own.row h).fr hf fun i hi=>hs ?_ _,(Own.wr h).fr hf⟩
 have:=Own.len h; have:=Own.le h; omega
theorem NumI.lt (h:NumI m a l k b o d) (hk:0 < k):b < m.size:=by
 obtain ⟨⟨v,hv⟩,_⟩:=Own.wr h 0 (by omega)
 exact cell_block hv
theorem NumI.set (h:NumI m a l k b o d) {i v:Nat} (hi:i < l) (hc:cell? m' ⟨b,o+i,none⟩=some (.int .i64 (v:Int))) (hf:Fr (fun x y=>x=b∧y=o+i) m m'):NumI m' a l k b o (d.set i v):=by
 have hlen:=h.len
 refine ⟨by simpa using Own.len h,Own.le h,Own.at_ h,fun j x hj=>?_,(Own.wr h).fr hf⟩
 rw [List.getElem?_map,List.getElem?_set] at hj
 by_cases hij:i=j
 ·subst hij
  rw [if_pos rfl,if_pos (by omega)] at hj
  simp only [Option.map_some,Option.some.injEq] at hj
  subst hj
  exact hc
 ·rw [if_neg hij] at hj
  exact hf.cell (Own.row h j x (by rw [List.getElem?_map]; exact hj)) (by rintro ⟨_,e⟩; simp only at e; omega)
theorem SlcI.take {n:Nat} (h:SlcI m a l k b o d) (hn:n≤l):SlcI m a n k b o (d.take n):=
 ⟨by rw [List.length_take,h.len]; omega,by have:=h.cap; omega,fun h0=>h.at_ (by omega),fun i v hv=>by
  rw [List.getElem?_take] at hv
  split at hv
  ·exact h.data i v hv
  ·cases hv⟩
theorem pushN_W (hO:NumI m a l k b o d) (v:Nat) (hbig:l≤1048576) {K:Option Addr→Nat→Nat→Mem→Prop}
  (hk:∀ m' a' k' b' o',NumI m' a' (l+1) k' b' o' (d++[v])→0 < k'→((b'=b∧k'=k)∨m.size≤b')→Fr (fun x _=>x=b∧0 < k) m m'→K a' (l+1) k' m'):
  SemW PP (sv (Instr.buildSlice t_s_int 1 #[(0,.int .i64 (v:Int))])) m (NextW PP fun v11 m12=>∃ (a8:Option Addr),∃ (l9:Nat),∃ (k10:Nat),v11=.slice a8 l9 k10∧SemW PP (builtin .append #[t_s_int,t_s_int] t_s_int #[false,false] #[.slice a l k,.slice a8 l9 k10]) m12 (NextW PP fun v16 m17=>∃ (a13:Option Addr),∃ (l14:Nat),∃ (k15:Nat),v16=.slice a13 l14 k15∧K a13 l14 k15 m17)):=by
 refine build1I_W ⟨_,_,_,rfl,?_⟩
 have f1:∀ S,Fr S m (m.push (.cells #[.int .i64 (v:Int)] t_int)):=fun S=>Fr.push _
 have c1:cell? (m.push (.cells #[.int .i64 (v:Int)] t_int)) ⟨m.size,0,none⟩=some (.int .i64 (v:Int)):=cell_new (c:=#[.int .i64 (v:Int)]) (i:=0) rfl
 have s1:(m.push (.cells #[.int .i64 (v:Int)] t_int)).size=m.size+1:=Array.size_push ..
 generalize m.push (.cells #[.int .i64 (v:Int)] t_int)=m1 at f1 c1 s1 ⊢
 have hO1:=hO.fr (f1 fun _ _=>False) fun _ _=>id
 obtain ⟨iu,hi⟩:=one_int
 refine append_Q (d2:=.slice t_int) u_s_int u_s_int (by intro k h; cases h) hi.info hi.zero (by rw [hi.size]; decide) (by rw [hi.size]; rfl) b o m.size 0 (d.map i64V) [i64V v] (by rw [hi.size]; exact hO1) (by rw [hi.size]; rfl) ?_ (fun _=>rfl) ?_ (by rw [hi.bytes]; omega) (by rw [hi.bytes]; decide) ?_
 ·intro x hx
  rw [List.mem_singleton.1 hx]; rfl
 ·intro i x hx
  cases i with
  | zero=>simp only [List.getElem?_cons_zero,Option.some.injEq] at hx; subst hx; exact c1
  | succ i=>simp at hx
 ·intro m' a' k' b' o' hown hb hf h0 _
  rw [hi.size] at hown
  refine ⟨_,_,_,rfl,hk m' a' k' b' o' ?_ (h0 (by decide)) ?_ ((f1 _).trans hf)⟩
  ·show Own _ _ _ _ _ _ _ _
   rw [List.map_append]; exact hown
  ·rcases hb with ⟨rfl,_,rfl⟩ | ⟨rfl,_⟩
   ·exact .inl ⟨rfl,rfl⟩
   ·exact .inr (by omega)
theorem zerosN_W {n:Nat} {x:Int} (hx:x=n) (hn:n≤1048576) {K:Value→Mem→Prop}
  (hk:∀ m',NumI m' (some ⟨m.size,0,none⟩) n n m.size 0 (List.replicate n 0)→(∀ S,Fr S m m')→m'.size=m.size+1→K (.slice (some ⟨m.size,0,none⟩) n n) m'):
  SemW PP (sv (Instr.makeSlice t_s_int (.int .i64 x) (.int .i64 x))) m (NextW PP K):=by
 obtain ⟨iu,hi⟩:=one_int
 refine make_W (n:=n) u_s_int hi.info hi.zero rfl hi.size hx hx (by rw [hi.bytes]; omega) (by omega) fun m1 own1 f1 s1=>hk m1 ?_ f1 s1
 show Own _ _ _ _ _ _ _ _
 rw [List.map_replicate]; exact own1
theorem build2N_W {K:Value→Mem→Prop} (h:K (.slice (some ⟨m.size,0,none⟩) 2 2) (m.push (.cells #[.int .i64 1,.int .i64 1] t_int))):
  SemW PP (sv (Instr.buildSlice t_s_int 2 #[(0,.int .i64 1),(1,.int .i64 1)])) m (NextW PP K):=Eq.mpr (by kernel_rfl) h
theorem two_W {K:Value→Mem→Prop} (hk:∀ m',NumI m' (some ⟨m.size,0,none⟩) 2 2 m.size 0 [1,1]→(∀ S,Fr S m m')→m'.size=m.size+1→K (.slice (some ⟨m.size,0,none⟩) 2 2) m'):
  SemW PP (sv (Instr.buildSlice t_s_int 2 #[(0,.int .i64 1),(1,.int .i64 1)])) m (NextW PP K):=by
 refine build2N_W (hk _ ⟨rfl,Nat.le_refl _,fun _=>rfl,fun i v hv=>?_,fun i hi=>?_⟩ (fun S=>Fr.push _) (Array.size_push ..))
 ·rw [Nat.zero_add]
  refine cell_new ?_
  rcases i with _ | _ | i
  ·simpa [i64V] using hv
  ·simpa [i64V] using hv
  ·simp at hv
 ·rw [Nat.zero_add]
  exact wr_new (by simpa using hi)
theorem Mrk.at {b n:Nat} {d:List Bool} (h:Mrk m b n d) {i:Nat} {v:Bool} (hv:d[i]?=some v):cell? m (aplus ⟨b,0,none⟩ ((i:Int)).toNat)=some (.bool v):=
 cellB (by rw [Nat.zero_add]; exact h.data i v hv)
theorem trimmed_spec (h:RdM m r c) (hc:c+1 < 1099511627776) {L:List Nat} (hS:SlcI m a l k b o L) {least:Nat} (hl:least≤l) (hl2:l≤1000) {R:Value→Mem→Prop}
  (hk:∀ m' n,least≤n→n≤l→(∀ j,n≤j→ln L j=0)→RdM m' r (c+1)→Fr (RS r) m m'→R (.slice a n k) m'):CallM PP f_reader_trimmed #[.pointer (some ⟨r,0,none⟩),.slice a l k,.int .i64 (least:Int)] m R:=by
 have hlen:=hS.len
 have hcap:=hS.cap
 refine e_reader_trimmed r a l k least m R ?_
 rw [q_reader_trimmed_rrll]
 refine loopW ffOk mixedOk (L₀:=L_reader_trimmed) (σ:=Nat) [0,1,2,7] (fun n=>[(0,.pointer (some ⟨r,0,none⟩)),(1,.slice a l k),(2,.int .i64 (least:Int)),(7,.int .i64 (n:Nat))])
  (fun n m'=>m'=m∧least≤n∧n≤l∧∀ j,n≤j→ln L j=0) (fun n=>n) l rfl ⟨rfl,hl,Nat.le_refl _,fun j hj=>?_⟩ ?_
 ·unfold ln
  rw [List.getD_eq_getElem?_getD,List.getElem?_eq_none (by omega)]; rfl
 rintro n m1 ⟨rfl,h1,h2,h3⟩
 refine p_reader_trimmed_rrlll r a l k least n m1 _ ?_
 have fin:WPS PP 34 c_reader_trimmed_rrr (retK PP r_reader_trimmed R) [(0,.pointer (some ⟨r,0,none⟩)),(1,.slice a l k),(2,.int .i64 (least:Int)),(7,.int .i64 (n:Int))] m1:=by
  refine WPS.piece [0,1,7] rfl (p_reader_trimmed_rrr r a l k n m1 _ ?_)
  rw [show IntKind.wrap .i64 (IntKind.wrap .i64 ((l:Int) - (n:Int))+1)=((l - n+1:Nat):Int) by rw [wrap64_id (n:=(l:Int) - (n:Int)) (by omega) (by omega),wrap64_id (by omega) (by omega)]; omega]
  refine pick_spec h (by omega) (Nat.succ_pos _) fun m2 q hq h4 f4=>⟨_,rfl,hcap,?_⟩
  rw [show IntKind.wrap .i64 ((n:Int)+(q:Int))=((n+q:Nat):Int) by rw [wrap64_id (by omega) (by omega)]; omega]
  refine ⟨⟨by omega,by omega⟩,?_⟩
  exact hk m2 (n+q) (by omega) (by omega) (fun j hj=>h3 j (by omega)) h4 f4
 by_cases hn:least < n
 ·rw [decide_eq_true (by omega)]
  obtain ⟨n,rfl⟩:∃ n',n=n'+1:=⟨n - 1,by omega⟩
  rw [wrap_pred (by omega)]
  refine ifB_t ?_
  have hat:=hS.at_ (by omega)
  subst hat
  refine ⟨⟨by omega,by omega⟩,_,cellB (hS.data n _ (ln_of (by omega))),?_⟩
  by_cases h0:ln L n=0
  ·rw [h0]
   refine ifB_t ⟨n,rfl,⟨rfl,by omega,by omega,fun j hj=>?_⟩,by omega⟩
   by_cases e:j=n
   ·subst e; exact h0
   ·exact h3 j (by omega)
  ·have e:(((ln L n:Nat):Int) == 0)=false:=by rw [beq_eq_false_iff_ne]; omega
   rw [e]
   exact ifB_f fin
 ·rw [decide_eq_false (by omega)]
  exact ifB_f fin
end
end Go.M

namespace Go.M
open Go
set_option maxRecDepth 100000
def circ (n f k:Nat):Nat:=if k≤f then f - k else f+n - k
theorem circ_step {n f k:Nat} (hf:f < n) (hk:k < n) (hne:k≠f):circ n f ((k+1) % n) < circ n f k:=by
 unfold circ
 by_cases h:k+1 < n
 ·rw [Nat.mod_eq_of_lt h]
  split <;> split <;> omega
 ·have:k+1=n:=by omega
  rw [this,Nat.mod_self]
  split <;> split <;> omega
section
variable {m:Mem} {r c:Nat}
theorem lengthsOf_spec (h:RdM m r c) (hc:c+2000 < 1099511627776) {bn N:Nat} {A:List Bool} (hA:Mrk m bn N A) (hbn:bn≠r) (h3:3≤N) (hN:N≤286) {most:Nat} (hm1:1≤most) (hm2:most≤15) (hN2:N≤2 ^ most) {R:Value→Mem→Prop}
  (hk:∀ m' b out,NumI m' (some ⟨b,0,none⟩) N N b 0 out→Full out→(∀ v ∈ out,v≤most)→(∀ i,A[i]?=some true→ln out i≠0)→m.size≤b→RdM m' r (c+1000)→Fr (RS r) m m'→R (.slice (some ⟨b,0,none⟩) N N) m'):
  CallM PP f_reader_lengthsOf #[.pointer (some ⟨r,0,none⟩),.slice (some ⟨bn,0,none⟩) N N,.int .i64 (most:Int)] m R:=by
 have hr:=h.lo
 have hAl:=hA.len
 refine e_reader_lengthsOf r _ N N most m R ?_
 rw [q_reader_lengthsOf_rrlrl]
 refine loopW ffOk mixedOk (L₀:=L_reader_lengthsOf) (σ:=Nat×Nat×Option Addr×Nat×Nat×Nat×List Nat) [0,1,2,7,16,17,18]
  (fun s=>[(0,.pointer (some ⟨r,0,none⟩)),(1,.slice (some ⟨bn,0,none⟩) N N),(2,.int .i64 (most:Int)),(7,.slice s.2.2.1 s.2.1 s.2.2.2.1),(16,.slice (some ⟨bn,0,none⟩) N N),(17,.int .i64 (N:Int)),(18,.int .i64 (s.1:Nat))])
  (fun s m'=>s.1≤N∧NumI m' s.2.2.1 s.2.1 s.2.2.2.1 s.2.2.2.2.1 s.2.2.2.2.2.1 s.2.2.2.2.2.2∧(0 < s.2.2.2.1→m.size≤s.2.2.2.2.1)∧s.2.1≤s.1∧s.2.2.2.2.2.2.Nodup∧(∀ x ∈ s.2.2.2.2.2.2,x < s.1)∧(∀ j,j < s.1→A[j]?=some true→j ∈ s.2.2.2.2.2.2)∧RdM m' r (c+s.1)∧Fr (RN r m.size) m m')
  (fun s=>N - s.1) (0,0,none,0,0,0,[]) rfl ⟨Nat.zero_le _,NumI.nil _ _,by simp,Nat.le_refl _,List.nodup_nil,by simp,by simp,h,Fr.refl _ _⟩ ?_
 rintro ⟨i,l,a,k,b,o,S⟩ m1 ⟨hi,hO,hb,hli,hnd,hlt,hin,h1,f1⟩
 simp only at hi hO hb hli hnd hlt hin h1
 have hs1:=f1.size
 refine p_reader_lengthsOf_rrlrll r _ N N most a l k _ N N N i m1 _ ?_
 by_cases hiN:i < N
 ·rw [decide_eq_true (by omega)]
  have hg:A[i]?=some (A[i]'(by omega)):=List.getElem?_eq_getElem (by omega)
  generalize A[i]'(by omega)=bi at hg
  have hbnS:∀ j, ¬ RN r m.size bn j:=by
   have:=cell_block (hA.data i bi hg)
   rintro j (h | h)
   ·exact hbn h
   ·simp only at this; omega
  have hA1:=hA.fr f1 hbnS
  refine ifB_t ⟨⟨by omega,by omega⟩,bi,hA1.at hg,?_⟩
  have next:∀ m2 a' l' k' b' o' S',NumI m2 a' l' k' b' o' S'→(0 < k'→m.size≤b')→l'≤i+1→S'.Nodup→(∀ x ∈ S',x < i+1)→(∀ j,j < i+1→A[j]?=some true→j ∈ S')→RdM m2 r (c+(i+1))→Fr (RN r m.size) m m2→∀ {K:Kont},
    (∀ r'' m',(∃ s':Nat×Nat×Option Addr×Nat×Nat×Nat×List Nat,Env.keep [0,1,2,7,16,17,18] r''=[(0,.pointer (some ⟨r,0,none⟩)),(1,.slice (some ⟨bn,0,none⟩) N N),(2,.int .i64 (most:Int)),(7,.slice s'.2.2.1 s'.2.1 s'.2.2.2.1),(16,.slice (some ⟨bn,0,none⟩) N N),(17,.int .i64 (N:Int)),(18,.int .i64 (s'.1:Nat))]∧(s'.1≤N∧NumI m' s'.2.2.1 s'.2.1 s'.2.2.2.1 s'.2.2.2.2.1 s'.2.2.2.2.2.1 s'.2.2.2.2.2.2∧(0 < s'.2.2.2.1→m.size≤s'.2.2.2.2.1)∧s'.2.1≤s'.1∧s'.2.2.2.2.2.2.Nodup∧(∀ x ∈ s'.2.2.2.2.2.2,x < s'.1)∧(∀ j,j < s'.1→A[j]?=some true→j ∈ s'.2.2.2.2.2.2)∧RdM m' r (c+s'.1)∧Fr (RN r m.size) m m')∧N - s'.1 < N - i)→K.kn r'' m')→
    WPS PP 129 c_reader_lengthsOf_rrlrllrrr K [(0,.pointer (some ⟨r,0,none⟩)),(1,.slice (some ⟨bn,0,none⟩) N N),(2,.int .i64 (most:Int)),(7,.slice a' l' k'),(8,.int .i64 (i:Int)),(9,.bool bi),(16,.slice (some ⟨bn,0,none⟩) N N),(17,.int .i64 (N:Int)),(18,.int .i64 (i:Int))] m2:=by
   intro m2 a' l' k' b' o' S' e1 e2 e3 e4 e5 e6 e7 e8 K hK
   refine WPS.piece [0,1,2,7,16,17,18] rfl (p_reader_lengthsOf_rrlrllrrr r _ N N most a' l' k' _ N N N i m2 _ ?_)
   rw [wrap_succ (by omega)]
   exact hK _ m2 ⟨(i+1,l',a',k',b',o',S'),rfl,⟨by simp only; omega,e1,e2,e3,e4,e5,e6,e7,e8⟩,by simp only; omega⟩
  have more:∀ m2 c2,RdM m2 r c2→c2≤c+(i+1)→Fr (RS r) m1 m2→∀ {K:Kont},
    (∀ r'' m',(∃ s':Nat×Nat×Option Addr×Nat×Nat×Nat×List Nat,Env.keep [0,1,2,7,16,17,18] r''=[(0,.pointer (some ⟨r,0,none⟩)),(1,.slice (some ⟨bn,0,none⟩) N N),(2,.int .i64 (most:Int)),(7,.slice s'.2.2.1 s'.2.1 s'.2.2.2.1),(16,.slice (some ⟨bn,0,none⟩) N N),(17,.int .i64 (N:Int)),(18,.int .i64 (s'.1:Nat))]∧(s'.1≤N∧NumI m' s'.2.2.1 s'.2.1 s'.2.2.2.1 s'.2.2.2.2.1 s'.2.2.2.2.2.1 s'.2.2.2.2.2.2∧(0 < s'.2.2.2.1→m.size≤s'.2.2.2.2.1)∧s'.2.1≤s'.1∧s'.2.2.2.2.2.2.Nodup∧(∀ x ∈ s'.2.2.2.2.2.2,x < s'.1)∧(∀ j,j < s'.1→A[j]?=some true→j ∈ s'.2.2.2.2.2.2)∧RdM m' r (c+s'.1)∧Fr (RN r m.size) m m')∧N - s'.1 < N - i)→K.kn r'' m')→
    SemW PP (sv (Instr.buildSlice t_s_int 1 #[(0,.int .i64 (i:Int))])) m2 (NextW PP fun v18 m19=>∃ (a15:Option Addr),∃ (l16:Nat),∃ (k17:Nat),v18=.slice a15 l16 k17∧SemW PP (builtin .append #[t_s_int,t_s_int] t_s_int #[false,false] #[.slice a l k,.slice a15 l16 k17]) m19 (NextW PP fun v23 m24=>∃ (a20:Option Addr),∃ (l21:Nat),∃ (k22:Nat),v23=.slice a20 l21 k22∧WPS PP 129 c_reader_lengthsOf_rrlrllrrr K [(0,.pointer (some ⟨r,0,none⟩)),(1,.slice (some ⟨bn,0,none⟩) N N),(2,.int .i64 (most:Int)),(7,.slice a20 l21 k22),(8,.int .i64 (i:Int)),(9,.bool bi),(16,.slice (some ⟨bn,0,none⟩) N N),(17,.int .i64 (N:Int)),(18,.int .i64 (i:Int))] m24)):=by
   intro m2 c2 h2 hc2 f2 K hK
   have s2:=f2.size
   refine pushN_W (hO.fr f2 fun h0 j=>rs_old (by have:=hb h0; omega) j) i (by omega) fun m3 a' k' b' o' hO3 hk3 hb3 f3=>?_
   have F3:Fr (RN r m.size) m m3:=f1.trans ((f2.mono fun _ _ h=>.inl h).trans (f3.mono fun x _ h=>by have:=hb h.2; exact .inr (by omega)))
   refine next m3 a' (l+1) k' b' o' (S++[i]) hO3 (fun _=>?_) (by omega) ?_ ?_ ?_ ((h2.fr f3 fun x j hx h=>by have:=hb h.2; omega).mono hc2) F3 hK
   ·rcases hb3 with ⟨rfl,rfl⟩ | h
    ·exact hb hk3
    ·omega
   ·rw [List.nodup_append]
    refine ⟨hnd,by simp,?_⟩
    intro x hx y hy e
    rw [List.mem_singleton.1 hy] at e
    have:=hlt x hx; omega
   ·intro x hx
    rcases List.mem_append.1 hx with hx | hx
    ·have:=hlt x hx; omega
    ·rw [List.mem_singleton.1 hx]; omega
   ·intro j hj hAj
    by_cases e:j=i
    ·subst e; simp
    ·exact List.mem_append_left _ (hin j (by omega) hAj)
  cases bi with
  | true=>exact ifB_t (more m1 _ h1 (by omega) (Fr.refl _ _) fun r'' m' h=>h)
  | false=>
   refine ifB_f (pick_spec h1 (by omega) (n:=40) (by decide) fun m2 q hq h2 f2=>⟨_,rfl,ifB_of (fun _=>more m2 _ h2 (by omega) f2 fun r'' m' h=>h) (fun _=>?_)⟩)
   refine next m2 a l k b o S (hO.fr f2 fun h0 j=>rs_old (by have:=hb h0; omega) j) hb (by omega) hnd (fun x hx=>by have:=hlt x hx; omega) (fun j hj hAj=>?_) (h2.mono (by omega)) (f1.trans (f2.mono fun _ _ h=>.inl h)) fun r'' m' h=>h
   by_cases e:j=i
   ·subst e; rw [hg] at hAj; cases hAj
   ·exact hin j (by omega) hAj
 rw [decide_eq_false (by omega)]
 have hiN':i=N:=by omega
 subst hiN'
 refine ifB_f (WPS.piece [0,1,2,7] rfl (p_reader_lengthsOf_rrr r _ i i most a l k m1 _ ?_))
 rw [q_reader_lengthsOf_rrrlrl]
 refine loopW ffOk mixedOk (L₀:=L_reader_lengthsOf) (σ:=Nat×Nat×Option Addr×Nat×Nat×Nat×List Nat) [0,1,2,7,10]
  (fun s=>[(0,.pointer (some ⟨r,0,none⟩)),(1,.slice (some ⟨bn,0,none⟩) i i),(2,.int .i64 (most:Int)),(7,.slice s.2.2.1 s.2.1 s.2.2.2.1),(10,.int .i64 (s.1:Nat))])
  (fun s m'=>NumI m' s.2.2.1 s.2.1 s.2.2.2.1 s.2.2.2.2.1 s.2.2.2.2.2.1 s.2.2.2.2.2.2∧(0 < s.2.2.2.1→m.size≤s.2.2.2.2.1)∧s.2.1≤i∧s.2.2.2.2.2.2.Nodup∧(∀ x ∈ s.2.2.2.2.2.2,x < i)∧(∀ j,j < i→A[j]?=some true→j ∈ s.2.2.2.2.2.2)∧RdM m' r (c+i)∧Fr (RN r m.size) m m'∧(2≤s.2.1∨s.1=0∨(s.1=1∧s.2.2.2.2.2.2=[0])))
  (fun s=>3 - s.1) (0,l,a,k,b,o,S) rfl ⟨hO,hb,hli,hnd,hlt,hin,h1,f1,.inr (.inl rfl)⟩ ?_
 clear hO hb hli hnd hlt hin h1 f1 hs1 m1 l a k b o S
 rintro ⟨q,l,a,k,b,o,S⟩ m1 ⟨hO,hb,hli,hnd,hlt,hin,h1,f1,hq⟩
 simp only at hO hb hli hnd hlt hin hq
 have hs1:=f1.size
 have hSl:=hO.len
 refine p_reader_lengthsOf_rrrlrll r _ i i most a l k q m1 _ ?_
 by_cases hl2:l < 2
 ·rw [decide_eq_true (by omega)]
  have hq1:q≤1:=by omega
  have next:∀ m2 a' l' k' b' o' S',NumI m2 a' l' k' b' o' S'→(0 < k'→m.size≤b')→l'≤i→S'.Nodup→(∀ x ∈ S',x < i)→(∀ j,j < i→A[j]?=some true→j ∈ S')→RdM m2 r (c+i)→Fr (RN r m.size) m m2→(2≤l'∨(q+1=1∧S'=[0]))→∀ {K:Kont},
    (∀ r'' m',(∃ s':Nat×Nat×Option Addr×Nat×Nat×Nat×List Nat,Env.keep [0,1,2,7,10] r''=[(0,.pointer (some ⟨r,0,none⟩)),(1,.slice (some ⟨bn,0,none⟩) i i),(2,.int .i64 (most:Int)),(7,.slice s'.2.2.1 s'.2.1 s'.2.2.2.1),(10,.int .i64 (s'.1:Nat))]∧(NumI m' s'.2.2.1 s'.2.1 s'.2.2.2.1 s'.2.2.2.2.1 s'.2.2.2.2.2.1 s'.2.2.2.2.2.2∧(0 < s'.2.2.2.1→m.size≤s'.2.2.2.2.1)∧s'.2.1≤i∧s'.2.2.2.2.2.2.Nodup∧(∀ x ∈ s'.2.2.2.2.2.2,x < i)∧(∀ j,j < i→A[j]?=some true→j ∈ s'.2.2.2.2.2.2)∧RdM m' r (c+i)∧Fr (RN r m.size) m m'∧(2≤s'.2.1∨s'.1=0∨(s'.1=1∧s'.2.2.2.2.2.2=[0])))∧3 - s'.1 < 3 - q)→K.kn r'' m')→
    WPS PP 129 c_reader_lengthsOf_rrrlrllrr K [(0,.pointer (some ⟨r,0,none⟩)),(1,.slice (some ⟨bn,0,none⟩) i i),(2,.int .i64 (most:Int)),(7,.slice a' l' k'),(10,.int .i64 (q:Int))] m2:=by
   intro m2 a' l' k' b' o' S' e1 e2 e3 e4 e5 e6 e7 e8 e9 K hK
   refine WPS.piece [0,1,2,7,10] rfl (p_reader_lengthsOf_rrrlrllrr r _ i i most a' l' k' q m2 _ ?_)
   rw [wrap_succ (by omega)]
   refine hK _ m2 ⟨(q+1,l',a',k',b',o',S'),rfl,⟨e1,e2,e3,e4,e5,e6,e7,e8,?_⟩,by simp only; omega⟩
   rcases e9 with e9 | e9
   ·exact .inl e9
   ·exact .inr (.inr e9)
  have more:q ∉ S→(l=0→q=0)→∀ {K:Kont},
    (∀ r'' m',(∃ s':Nat×Nat×Option Addr×Nat×Nat×Nat×List Nat,Env.keep [0,1,2,7,10] r''=[(0,.pointer (some ⟨r,0,none⟩)),(1,.slice (some ⟨bn,0,none⟩) i i),(2,.int .i64 (most:Int)),(7,.slice s'.2.2.1 s'.2.1 s'.2.2.2.1),(10,.int .i64 (s'.1:Nat))]∧(NumI m' s'.2.2.1 s'.2.1 s'.2.2.2.1 s'.2.2.2.2.1 s'.2.2.2.2.2.1 s'.2.2.2.2.2.2∧(0 < s'.2.2.2.1→m.size≤s'.2.2.2.2.1)∧s'.2.1≤i∧s'.2.2.2.2.2.2.Nodup∧(∀ x ∈ s'.2.2.2.2.2.2,x < i)∧(∀ j,j < i→A[j]?=some true→j ∈ s'.2.2.2.2.2.2)∧RdM m' r (c+i)∧Fr (RN r m.size) m m'∧(2≤s'.2.1∨s'.1=0∨(s'.1=1∧s'.2.2.2.2.2.2=[0])))∧3 - s'.1 < 3 - q)→K.kn r'' m')→
    SemW PP (sv (Instr.buildSlice t_s_int 1 #[(0,.int .i64 (q:Int))])) m1 (NextW PP fun v18 m19=>∃ (a15:Option Addr),∃ (l16:Nat),∃ (k17:Nat),v18=.slice a15 l16 k17∧SemW PP (builtin .append #[t_s_int,t_s_int] t_s_int #[false,false] #[.slice a l k,.slice a15 l16 k17]) m19 (NextW PP fun v23 m24=>∃ (a20:Option Addr),∃ (l21:Nat),∃ (k22:Nat),v23=.slice a20 l21 k22∧WPS PP 129 c_reader_lengthsOf_rrrlrllrr K [(0,.pointer (some ⟨r,0,none⟩)),(1,.slice (some ⟨bn,0,none⟩) i i),(2,.int .i64 (most:Int)),(7,.slice a20 l21 k22),(10,.int .i64 (q:Int))] m24)):=by
   intro hqS hl0 K hK
   refine pushN_W hO q (by omega) fun m3 a' k' b' o' hO3 hk3 hb3 f3=>?_
   have F3:Fr (RN r m.size) m m3:=f1.trans (f3.mono fun x _ h=>by have:=hb h.2; exact .inr (by omega))
   refine next m3 a' (l+1) k' b' o' (S++[q]) hO3 (fun _=>?_) (by omega) ?_ ?_ (fun j hj hAj=>List.mem_append_left _ (hin j hj hAj)) (h1.fr f3 fun x j hx h=>by have:=hb h.2; omega) F3 ?_ hK
   ·rcases hb3 with ⟨rfl,rfl⟩ | h
    ·exact hb hk3
    ·omega
   ·rw [List.nodup_append]
    refine ⟨hnd,by simp,?_⟩
    intro x hx y hy e
    rw [List.mem_singleton.1 hy] at e
    exact hqS (e ▸ hx)
   ·intro x hx
    rcases List.mem_append.1 hx with hx | hx
    ·exact hlt x hx
    ·rw [List.mem_singleton.1 hx]; omega
   ·by_cases h0:l=0
    ·have hq0:=hl0 h0
     have:S=[]:=List.eq_nil_of_length_eq_zero (by omega)
     subst this; subst hq0
     exact .inr ⟨rfl,rfl⟩
    ·exact .inl (by omega)
  refine ifB_t ?_
  by_cases h0:l=0
  ·have hS0:S=[]:=List.eq_nil_of_length_eq_zero (by omega)
   have hq0:q=0:=by
    rcases hq with h | h | ⟨_,h⟩
    ·omega
    ·exact h
    ·rw [hS0] at h; cases h
   have e:((l:Int) == 0)=true:=by rw [beq_iff_eq]; omega
   rw [e]
   exact ifB_t (more (by rw [hS0]; simp) (fun _=>hq0) fun r'' m' h=>h)
  ·have e:((l:Int) == 0)=false:=by rw [beq_eq_false_iff_ne]; omega
   rw [e]
   obtain ⟨x,hx⟩:∃ x,S=[x]:=by
    match S,hSl with
    | [x],_=>exact ⟨x,rfl⟩
    | [],hSl=>simp at hSl; omega
    | _::_::_,hSl=>simp at hSl; omega
   have hcx:=hO.slc.data 0 x (by rw [hx]; rfl)
   refine ifB_f ?_
   rw [Own.at_ hO (by have:=Own.le hO; omega)]
   refine ⟨⟨by omega,by omega⟩,_,cellB (i:=0) hcx,?_⟩
   rw [← Own.at_ hO (by have:=Own.le hO; omega)]
   by_cases hxq:x=q
   ·subst hxq
    rw [bne_self_eq_false]
    refine ifB_f (next m1 a l k b o S hO hb hli hnd hlt hin h1 f1 (.inr ?_) fun r'' m' h=>h)
    have:x=0:=by
     rcases hq with h | h | ⟨h,h'⟩
     ·omega
     ·exact h
     ·rw [hx] at h'; simp at h'; omega
    subst this
    exact ⟨rfl,hx⟩
   ·have e:(((x:Int)) != ((q:Nat):Int))=true:=by rw [bne_iff_ne]; omega
    rw [e]
    refine ifB_t (more ?_ (fun h=>absurd h h0) fun r'' m' h=>h)
    rw [hx]; simp; omega
 rw [decide_eq_false (by omega)]
 refine ifB_f (WPS.piece [0,1,2,7] rfl (p_reader_lengthsOf_rrrr r _ i i most a l k m1 _ ?_))
 have hkpos:0 < k:=by have:=Own.le hO; omega
 have hbm:=hb hkpos
 have hblt:=hO.lt hkpos
 refine two_W fun m2 hD f2 s2=>⟨_,_,_,rfl,?_⟩
 rw [q_reader_lengthsOf_rrrrrll]
 refine loopW ffOk mixedOk (L₀:=L_reader_lengthsOf) (σ:=Option Addr×Nat×Nat×Nat×Nat×List Nat) [0,1,2,7,11]
  (fun s=>[(0,.pointer (some ⟨r,0,none⟩)),(1,.slice (some ⟨bn,0,none⟩) i i),(2,.int .i64 (most:Int)),(7,.slice a l k),(11,.slice s.1 s.2.1 s.2.2.1)])
  (fun s m'=>NumI m' s.1 s.2.1 s.2.2.1 s.2.2.2.1 s.2.2.2.2.1 s.2.2.2.2.2∧m1.size≤s.2.2.2.1∧2≤s.2.1∧s.2.1≤l∧Leaves most s.2.2.2.2.2∧RdM m' r (c+i+s.2.1)∧Fr (RN r m1.size) m1 m')
  (fun s=>l - s.2.1) (some ⟨m1.size,0,none⟩,2,2,m1.size,0,[1,1]) rfl ⟨hD,Nat.le_refl _,Nat.le_refl _,by simp only; omega,Leaves.two hm1,(h1.fresh f2).mono (by simp only; omega),f2 _⟩ ?_
 clear hD f2 s2 m2
 rintro ⟨a2,l2,k2,b2,o2,D⟩ m2 ⟨hD,hb2,hl2',hl2l,hLv,h2,f2⟩
 simp only at hD hb2 hl2' hl2l hLv h2
 have hs2:=f2.size
 have hDl:=hD.len
 refine p_reader_lengthsOf_rrrrrlll r _ i i most a l k a2 l2 k2 m2 _ ?_
 by_cases hll:l2 < l
 ·rw [decide_eq_true (by omega)]
  refine ifB_t (pick_spec h2 (by omega) (n:=l2) (by omega) fun m3 q3 hq3 h3 f3=>⟨_,rfl,?_⟩)
  have hD3:=hD.fr f3 fun _ j=>rs_old (by omega) j
  have s3:=f3.size
  obtain ⟨fr,hfr,hfn⟩:=hLv.free hm1 hm2 (by
   have:i≤2 ^ most:=hN2
   omega)
  have hat:=Own.at_ hD3 (by have:=Own.le hD3; omega)
  rw [q_reader_lengthsOf_rrrrrlllrlrll]
  refine loopW ffOk mixedOk (L₀:=L_reader_lengthsOf) (σ:=Nat) [0,1,2,7,11,12]
   (fun q=>[(0,.pointer (some ⟨r,0,none⟩)),(1,.slice (some ⟨bn,0,none⟩) i i),(2,.int .i64 (most:Int)),(7,.slice a l k),(11,.slice a2 l2 k2),(12,.int .i64 (q:Nat))])
   (fun q m'=>m'=m3∧q < l2) (fun q=>circ l2 fr q) q3 rfl ⟨rfl,hq3⟩ ?_
  rintro q m4 ⟨rfl,hql⟩
  refine p_reader_lengthsOf_rrrrrlllrlrlll r _ i i most a l k a2 l2 k2 q m4 _ ?_
  subst hat
  have hcq:=hD3.slc.data q _ (ln_of (by omega))
  refine ⟨⟨by omega,by omega⟩,_,cellB hcq,?_⟩
  by_cases hqm:ln D q=most
  ·rw [hqm,beq_self_eq_true]
   refine ifB_t ⟨rfl,by omega,?_⟩
   rw [wrap_succ (by omega)]
   refine ⟨(q+1) % l2,rfl,⟨rfl,Nat.mod_lt _ (by omega)⟩,circ_step (by omega) hql ?_⟩
   rintro rfl
   exact hfn hqm
  ·have e:(((ln D q:Nat):Int) == (most:Int))=false:=by rw [beq_eq_false_iff_ne]; omega
   rw [e]
   have hle:ln D q≤most:=(hLv.pos _ (List.mem_of_getElem? (ln_of (by omega)))).2
   refine ifB_f (WPS.piece [0,1,2,7,11,12] rfl (p_reader_lengthsOf_rrrrrlllrlrr r _ i i most a l k _ l2 k2 q m4 _ ?_))
   refine ⟨⟨by omega,by omega⟩,_,cellB hcq,⟨by omega,by omega⟩,?_⟩
   rw [wrap_succ (by omega)]
   show StW m4 ⟨b2,o2+q,none⟩ _ _
   refine StW.at rfl (Own.wr hD3 q (by have:=Own.le hD3; omega)) fun m5 c5 f5 s5=>?_
   have hD5:=hD3.set (i:=q) (by omega) c5 f5
   refine ⟨⟨by omega,by omega⟩,_,cellB c5,?_⟩
   refine pushN_W hD5 (ln D q+1) (by omega) fun m6 a' k' b' o' hD6 hk6 hb6 f6=>?_
   refine ⟨(a',l2+1,k',b',o',D.set q (ln D q+1)++[ln D q+1]),rfl,⟨hD6,?_,by simp only; omega,by simp only; omega,hLv.split hm2 (by omega) hqm,?_,?_⟩,by simp only; omega⟩
   ·simp only
    rcases hb6 with ⟨rfl,_⟩ | h
    ·exact hb2
    ·omega
   ·have g:RdM m5 r (c+i+l2+1):=h3.fr f5 fun x j hx h=>by have:=h.1; omega
    exact (g.fr f6 fun x j hx h=>by have:=h.1; omega).mono (by simp only; omega)
   ·refine f2.trans ((f3.mono fun _ _ h=>.inl h).trans ((f5.mono fun x _ h=>.inr (by have:=h.1; omega)).trans (f6.mono fun x _ h=>.inr (by have:=h.1; omega))))
 rw [decide_eq_false (by omega)]
 have hll':l2=l:=by omega
 subst hll'
 have F2:Fr (RN r m.size) m m2:=f1.trans (f2.mono fun x _ h=>by
  rcases h with h | h
  ·exact .inl h
  ·exact .inr (by omega))
 have hO2:=hO.fr f2 fun _ j=>by
  rintro (h | h) <;> omega
 refine ifB_f (WPS.piece [0,1,7,11] rfl (p_reader_lengthsOf_rrrrrr r _ i i a l2 k a2 l2 k2 m2 _ ?_))
 refine zerosN_W rfl (by omega) fun m3 hZ f3 s3=>⟨_,_,_,rfl,?_⟩
 have hOb:m2.size≤m2.size:=Nat.le_refl _
 have hD3:=hD.fr (f3 fun _ _=>False) fun _ _=>id
 have hO3:=hO2.fr (f3 fun _ _=>False) fun _ _=>id
 have hat1:=Own.at_ hO3 hkpos
 have hk2:0 < k2:=by have:=Own.le hD3; omega
 have hat2:=Own.at_ hD3 hk2
 have hb2lt:=hD.lt hk2
 have hs3:m3.size=m2.size+1:=s3
 generalize hB:m2.size=B at *
 rw [q_reader_lengthsOf_rrrrrrrlrl]
 refine loopW ffOk mixedOk (L₀:=L_reader_lengthsOf) (σ:=Nat×List Nat×List Nat) [0,7,11,13,91,92]
  (fun s=>[(0,.pointer (some ⟨r,0,none⟩)),(7,.slice a l2 k),(11,.slice a2 l2 k2),(13,.slice (some ⟨B,0,none⟩) i i),(91,.int .i64 (l2:Int)),(92,.int .i64 (s.1:Nat))])
  (fun s m'=>s.1≤l2∧NumI m' a l2 k b o S∧NumI m' a2 l2 k2 b2 o2 s.2.1∧NumI m' (some ⟨B,0,none⟩) i i B 0 s.2.2∧Leaves most s.2.1∧Handed most s.2.1 S s.2.2 i s.1∧RdM m' r (c+i+l2+s.1)∧Fr (RN r m1.size) m3 m')
  (fun s=>l2 - s.1) (0,D,List.replicate i 0) rfl ⟨Nat.zero_le _,hO3,hD3,hZ,hLv,Handed.zero,h2.fresh f3,Fr.refl _ _⟩ ?_
 rintro ⟨j,D4,out⟩ m4 ⟨hj,hO4,hD4,hZ4,hLv4,hH4,h4,f4⟩
 simp only at hj hO4 hD4 hZ4 hLv4 hH4 h4
 have hSl4:=hO4.len
 have hDl4:=hD4.len
 refine p_reader_lengthsOf_rrrrrrrlrll r a l2 k a2 l2 k2 _ i i l2 j m4 _ ?_
 by_cases hjl:j < l2
 ·rw [decide_eq_true (by omega)]
  rw [show IntKind.wrap .i64 ((l2:Int) - (j:Int))=((l2 - j:Nat):Int) by rw [wrap64_id (by omega) (by omega)]; omega]
  refine ifB_t (pick_spec h4 (by omega) (n:=l2 - j) (by omega) fun m5 q hq h5 f5=>⟨_,rfl,?_⟩)
  have hO5:=hO4.fr f5 fun _ j=>rs_old (by omega) j
  have hD5:=hD4.fr f5 fun _ j=>rs_old (by omega) j
  have hZ5:=hZ4.fr f5 fun _ j=>rs_old (by omega) j
  rw [show IntKind.wrap .i64 ((j:Int)+(q:Int))=((j+q:Nat):Int) by rw [wrap64_id (by omega) (by omega)]; omega,wrap_succ (by omega)]
  subst hat1; subst hat2
  refine ⟨⟨by omega,by omega⟩,_,cellB (hD5.slc.data (j+q) _ (ln_of (by omega))),⟨by omega,by omega⟩,_,cellB (hD5.slc.data j _ (ln_of (by omega))),⟨by omega,by omega⟩,?_⟩
  show StW m5 ⟨b2,o2+j,none⟩ _ _
  refine StW.at rfl (Own.wr hD5 j (by have:=Own.le hD5; omega)) fun m6 c6 f6 s6=>⟨⟨by omega,by omega⟩,?_⟩
  have hD6:=hD5.set (i:=j) (by omega) c6 f6
  show StW m6 ⟨b2,o2+(j+q),none⟩ _ _
  refine StW.at rfl (Own.wr hD6 (j+q) (by have:=Own.le hD6; omega)) fun m7 c7 f7 s7=>⟨⟨by omega,by omega⟩,?_⟩
  have hD7:NumI m7 _ l2 k2 b2 o2 (swp D4 j (j+q)):=hD6.set (i:=j+q) (by omega) c7 f7
  have f67:Fr (fun x _=>x=b2) m5 m7:=(f6.mono fun _ _ h=>h.1).trans (f7.mono fun _ _ h=>h.1)
  have hO7:=hO5.fr f67 fun _ _=>by omega
  have hZ7:=hZ5.fr f67 fun _ _=>by omega
  have hg:S[j]?=some (S[j]'(by omega)):=List.getElem?_eq_getElem (by omega)
  generalize S[j]'(by omega)=sj at hg
  have hsj:sj < i:=hlt sj (List.mem_of_getElem? hg)
  have hsl:=swp_length D4 j (j+q)
  refine ⟨_,cellB (hO7.slc.data j _ hg),⟨by omega,by omega⟩,_,cellB (hD7.slc.data j _ (ln_of (by omega))),⟨by omega,by omega⟩,?_⟩
  show StW m7 ⟨B,0+sj,none⟩ _ _
  refine StW.at rfl (Own.wr hZ7 sj (by omega)) fun m8 c8 f8 s8=>?_
  have hZ8:=hZ7.set (i:=sj) (by omega) c8 f8
  have f8':Fr (fun x _=>x=B) m7 m8:=f8.mono fun _ _ h=>h.1
  refine ⟨(j+1,swp D4 j (j+q),out.set sj (ln (swp D4 j (j+q)) j)),rfl,⟨by simp only; omega,hO7.fr f8' fun _ _=>by omega,hD7.fr f8' fun _ _=>by omega,hZ8,hLv4.swp (by omega) (by omega),hH4.step hLv4 (by omega) hnd hg (by omega) (by omega) (by omega),?_,?_⟩,by simp only; omega⟩
  ·have g:RdM m7 r (c+i+l2+j+1):=h5.fr f67 fun x j hx h=>by omega
   exact (g.fr f8' fun x j hx h=>by omega).mono (by simp only; omega)
  ·exact f4.trans ((f5.mono fun _ _ h=>.inl h).trans ((f67.mono fun x _ h=>.inr (by omega)).trans (f8'.mono fun x _ h=>.inr (by omega))))
 ·rw [decide_eq_false (by omega)]
  have hj':j=S.length:=by omega
  refine ifB_f (WPS.piece [13] rfl (p_reader_lengthsOf_rrrrrrrr _ i i m4 _ ?_))
  rw [hj'] at hH4
  obtain ⟨hF,hon⟩:=hH4.full hLv4 (by omega) hm2
  refine hk m4 B out hZ4 hF hH4.le (fun x hx=>hon x (hin x ?_ hx)) (by omega) (h4.mono (by omega)) ?_
  ·have:=(List.getElem?_eq_some_iff.1 hx).1; omega
  ·refine (F2.trans ((f3 _).trans (f4.mono fun x _ h=>?_))).rn
   rcases h with h | h
   ·exact .inl h
   ·exact .inr (by omega)
end
end Go.M

namespace Go.M
open Go
set_option maxRecDepth 100000
theorem u_s_bool:PP.underlying t_s_bool=some (.slice t_bool):=by kernel_rfl
theorem one_bool:∃ i,One PP t_bool (.bool false) 1 i:=one_of (by kernel_rfl) (by kernel_rfl)
theorem marks_W {m:Mem} {n:Nat} {x:Int} (hx:x=n) (hn:n≤1048576) {K:Value→Mem→Prop}
  (hk:∀ m',Mrk m' m.size n (List.replicate n false)→(∀ S,Fr S m m')→m'.size=m.size+1→K (.slice (some ⟨m.size,0,none⟩) n n) m'):
  SemW PP (sv (Instr.makeSlice t_s_bool (.int .i64 x) (.int .i64 x))) m (NextW PP K):=by
 obtain ⟨iu,hi⟩:=one_bool
 refine make_W (n:=n) u_s_bool hi.info hi.zero rfl hi.size hx hx (by rw [hi.bytes]; omega) (by omega) fun m1 own1 f1 s1=>hk m1 ⟨by simp,fun i v hv=>?_,fun i hi=>?_⟩ f1 s1
 ·have:=own1.row i (.bool v) (by
   rw [List.getElem?_replicate] at hv ⊢
   split at hv
   ·rename_i h; rw [if_pos h]; simp only [Option.some.injEq] at hv; rw [hv]
   ·cases hv)
  rw [Nat.zero_add] at this; exact this
 ·have:=own1.wr i (by omega)
  rw [Nat.zero_add] at this; exact this
theorem s_spec_needs:c_spec_needs=.seq (lft c_spec_needs) (.seq (.region 1 (opsOf (lft (rgt c_spec_needs))) true) c_spec_needs_rr):=by kernel_rfl
theorem e_spec_needs (a1:Option Addr) (l2:Nat) (k3:Nat) (m:Mem) (R:Value→Mem→Prop)
  (h:(SemW PP (sv (Instr.makeSlice t_s_bool (.int .i64 286) (.int .i64 286))) m (NextW PP fun v1 m1=>∃ (a4:Option Addr),∃ (l5:Nat),∃ (k6:Nat),v1=.slice a4 l5 k6∧
    (SemW PP (sv (Instr.makeSlice t_s_bool (.int .i64 30) (.int .i64 30))) m1 (NextW PP fun v2 m2=>∃ (a7:Option Addr),∃ (l8:Nat),∃ (k9:Nat),v2=.slice a7 l8 k9∧WPS PP 54 c_spec_needs_rr (retK PP r_spec_needs R) [(0,.slice a1 l2 k3),(2,.slice none 0 0),(3,.slice none 0 0),(4,.slice a4 l5 k6),(5,.slice a7 l8 k9)] m2)∧
    SemW PP (sv (Instr.makeSlice t_s_bool (.int .i64 30) (.int .i64 30))) m1 (NextW PP fun v2 m2=>∃ (a7:Option Addr),∃ (l8:Nat),∃ (k9:Nat),v2=.slice a7 l8 k9∧WPS PP 54 c_spec_needs_rr (retK PP r_spec_needs R) [(0,.slice a1 l2 k3),(2,.slice none 0 0),(3,.slice none 0 0),(4,.slice a4 l5 k6),(5,.slice a7 l8 k9)] m2))))∧
   SemW PP (sv (Instr.makeSlice t_s_bool (.int .i64 30) (.int .i64 30))) m (NextW PP fun v1 m1=>∃ (a7:Option Addr),∃ (l8:Nat),∃ (k9:Nat),v1=.slice a7 l8 k9∧
    SemW PP (sv (Instr.makeSlice t_s_bool (.int .i64 286) (.int .i64 286))) m1 (NextW PP fun v2 m2=>∃ (a4:Option Addr),∃ (l5:Nat),∃ (k6:Nat),v2=.slice a4 l5 k6∧WPS PP 54 c_spec_needs_rr (retK PP r_spec_needs R) [(0,.slice a1 l2 k3),(2,.slice none 0 0),(3,.slice none 0 0),(4,.slice a4 l5 k6),(5,.slice a7 l8 k9)] m2))):
  CallM PP f_spec_needs #[.slice a1 l2 k3] m R:=by
 obtain ⟨fn,h1,h2,h3,h4⟩:=i_spec_needs
 refine callM_enterS 54 h1 h2 h3 (by simp) ?_
 rw [h4]
 show WPS PP 54 c_spec_needs (retK PP r_spec_needs R) [(0,.slice a1 l2 k3)] m
 rw [s_spec_needs]
 refine WPS.seq (wpc_sound ffOk mixedOk (L:=L_spec_needs) ?_)
 refine Eq.mpr (by kernel_rfl) (?_:WPS PP 54 (.seq (.region 1 (opsOf (lft (rgt c_spec_needs))) true) c_spec_needs_rr) (retK PP r_spec_needs R) [(0,.slice a1 l2 k3),(2,.slice none 0 0),(3,.slice none 0 0)] m)
 refine WPS.seq (WPS.tree ffOk mixedOk L_spec_needs ?_)
 exact Eq.mpr (by kernel_rfl) h
theorem aplusZ (b i:Nat):aplus ⟨b,0,none⟩ i=⟨b,i,none⟩:=by simp [aplus]
section
variable {m:Mem}
theorem needs_spec {a:Option Addr} {l k b o:Nat} {its:List It} (hI:SlcT m a l k b o its) {n:Nat} (hV:VIts n its) (hl:l≤1048576) {R:Value→Mem→Prop}
  (hk:∀ m' b1 b2 A B,Mrk m' b1 286 A→Mrk m' b2 30 B→m.size≤b1→m.size≤b2→b1≠b2→A[256]?=some true→(∀ x ∈ its,MarkI A B x)→(∀ S,Fr S m m')→R (.tuple #[.slice (some ⟨b1,0,none⟩) 286 286,.slice (some ⟨b2,0,none⟩) 30 30]) m'):
  CallM PP f_spec_needs #[.slice a l k] m R:=by
 have hlen:=hI.len
 have rest:∀ m2 b1 b2,Mrk m2 b1 286 (List.replicate 286 false)→Mrk m2 b2 30 (List.replicate 30 false)→m.size≤b1→m.size≤b2→b1≠b2→(∀ S,Fr S m m2)→
   WPS PP 54 c_spec_needs_rr (retK PP r_spec_needs R) [(0,.slice a l k),(2,.slice none 0 0),(3,.slice none 0 0),(4,.slice (some ⟨b1,0,none⟩) 286 286),(5,.slice (some ⟨b2,0,none⟩) 30 30)] m2:=by
  intro m2 b1 b2 hA hB h1 h2 h12 f2
  refine WPS.piece [0,4,5] rfl (p_spec_needs_rr a l k _ 286 286 _ 30 30 m2 _ ⟨⟨by omega,by omega⟩,?_⟩)
  show StW m2 ⟨b1,256,none⟩ _ _
  refine StW.at rfl (hA.wr 256 (by decide)) fun m3 c3 f3 s3=>?_
  have hA3:=hA.set (i:=256) (by decide) c3 f3
  have hB3:=hB.fr f3 fun j=>by rintro ⟨e,_⟩; exact h12 e.symm
  have F3:Fr (fun x _=>m.size≤x) m m3:=(f2 _).trans (f3.mono fun x _ h=>by have:=h.1; omega)
  rw [q_spec_needs_rrrlrl]
  refine loopW ffOk mixedOk (L₀:=L_spec_needs) (σ:=Nat×List Bool×List Bool) [4,5,18,19,20] (fun s=>[(4,.slice (some ⟨b1,0,none⟩) 286 286),(5,.slice (some ⟨b2,0,none⟩) 30 30),(18,.slice a l k),(19,.int .i64 (l:Int)),(20,.int .i64 (s.1:Nat))])
   (fun s m'=>s.1≤l∧Mrk m' b1 286 s.2.1∧Mrk m' b2 30 s.2.2∧s.2.1[256]?=some true∧(∀ j x,j < s.1→its[j]?=some x→MarkI s.2.1 s.2.2 x)∧Fr (fun x _=>m.size≤x) m m') (fun s=>l - s.1) (0,(List.replicate 286 false).set 256 true,List.replicate 30 false) rfl
   ⟨Nat.zero_le _,hA3,hB3,by simp only; rw [List.getElem?_set_self (by simp)],by intro j x hj; simp only at hj; omega,F3⟩ ?_
  clear hA hB hA3 hB3 F3 f3 c3 s3 m3
  rintro ⟨i,A,B⟩ m3 ⟨hi,hA,hB,h256,hM,F3⟩
  simp only at hi hA hB h256 hM
  have hAl:=hA.len
  have hBl:=hB.len
  refine p_spec_needs_rrrlrll _ 286 286 _ 30 30 a l k l i m3 _ ?_
  by_cases hil:i < l
  ·rw [decide_eq_true (by omega)]
   have hI3:=hI.fr F3 fun h0 j=>by have:=hI.lo h0; omega
   have hget:its[i]?=some (its[i]'(by omega)):=List.getElem?_eq_getElem (by omega)
   generalize its[i]'(by omega)=x at hget
   obtain ⟨d1,d2,d3⟩:=hI3.data i x hget
   obtain ⟨nx,hx⟩:=hV.mem (List.mem_of_getElem? hget)
   have hat:=hI3.at_ (by omega)
   refine ifB_t ?_
   subst hat
   refine ⟨⟨by omega,by omega⟩,(x.b:Int),(x.len:Int),(x.d:Int),rfl,⟨?_,?_,?_,trivial⟩,?_⟩
   ·rw [show aplus (aplus ⟨b,o,none⟩ ((i:Int).toNat * 3)) 0=⟨b,o+i * 3,none⟩ by simp [aplus]]; exact d1
   ·rw [show aplus (aplus ⟨b,o,none⟩ ((i:Int).toNat * 3)) (0+1)=⟨b,o+i * 3+1,none⟩ by simp [aplus,Nat.add_assoc]]; exact d2
   ·rw [show aplus (aplus ⟨b,o,none⟩ ((i:Int).toNat * 3)) (0+1+1)=⟨b,o+i * 3+2,none⟩ by simp [aplus,Nat.add_assoc]]; exact d3
   refine take_item_W fun m4 nn f4 hn1 hn2 e0 e1 e2=>⟨_,e1,?_⟩
   have hA4:=hA.fresh f4
   have hB4:=hB.fresh f4
   have next:∀ m5 A' B' r',Mrk m5 b1 286 A'→Mrk m5 b2 30 B'→A'[256]?=some true→(∀ y,MarkI A B y→MarkI A' B' y)→MarkI A' B' x→Fr (fun x _=>x=b1∨x=b2) m4 m5→Env.keep [4,5,18,19,20] r'=[(4,.slice (some ⟨b1,0,none⟩) 286 286),(5,.slice (some ⟨b2,0,none⟩) 30 30),(18,.slice (some ⟨b,o,none⟩) l k),(19,.int .i64 (l:Int)),(20,.int .i64 (i:Int))]→∀ {K:Kont},
     (∀ r'' m',(∃ s':Nat×List Bool×List Bool,Env.keep [4,5,18,19,20] r''=[(4,.slice (some ⟨b1,0,none⟩) 286 286),(5,.slice (some ⟨b2,0,none⟩) 30 30),(18,.slice (some ⟨b,o,none⟩) l k),(19,.int .i64 (l:Int)),(20,.int .i64 (s'.1:Nat))]∧(s'.1≤l∧Mrk m' b1 286 s'.2.1∧Mrk m' b2 30 s'.2.2∧s'.2.1[256]?=some true∧(∀ j x,j < s'.1→its[j]?=some x→MarkI s'.2.1 s'.2.2 x)∧Fr (fun x _=>m.size≤x) m m')∧l - s'.1 < l - i)→K.kn r'' m')→
     WPS PP 54 c_spec_needs_rrrlrllrrr K r' m5:=by
    intro m5 A' B' r' g1 g2 g3 g4 g5 f5 hr' K hK
    refine WPS.piece [4,5,18,19,20] hr' (p_spec_needs_rrrlrllrrr _ 286 286 _ 30 30 _ l k l i m5 _ ?_)
    rw [wrap_succ (by omega)]
    refine hK _ m5 ⟨(i+1,A',B'),rfl,⟨by simp only; omega,g1,g2,g3,fun j y hj hy=>?_,F3.trans ((f4 _).trans (f5.mono fun x _ h=>by omega))⟩,by simp only; omega⟩
    by_cases e:j=i
    ·subst e
     rw [hget] at hy
     simp only [Option.some.injEq] at hy
     subst hy; exact g5
    ·exact g4 y (hM j y (by simp only at hj; omega) hy)
   by_cases hx0:x.len=0
   ·have e:((x.len:Int) == 0)=true:=by rw [beq_iff_eq]; omega
    rw [e]
    have hb:=hx.1
    refine ifB_t ⟨_,e0,⟨by omega,by omega⟩,?_⟩
    rw [Int.toNat_natCast,aplusZ]
    refine StW.at rfl (hA4.wr x.b (by omega)) fun m5 c5 f5 _=>?_
    refine next m5 (A.set x.b true) B _ (hA4.set (by omega) c5 f5) (hB4.fr f5 fun j=>by rintro ⟨e,_⟩; exact h12 e.symm) (mark_set h256) (fun y hy=>hy.setL _) ⟨fun _=>?_,fun h=>absurd hx0 h⟩ (f5.mono fun x _ h=>.inl h.1) rfl fun r'' m' h=>h
    rw [List.getElem?_set_self (by omega)]
   ·have e:((x.len:Int) == 0)=false:=by rw [beq_eq_false_iff_ne]; omega
    rw [e]
    obtain ⟨g1,g2,g3,g4,_⟩:3≤x.len∧x.len≤258∧1≤x.d∧x.d≤32768∧x.d≤nx:=by
     rcases hx.2 with h | h
     ·exact absurd h hx0
     ·exact h
    refine ifB_f ⟨_,e1,LengthCode_spec g1 g2 fun kc hkc=>⟨_,_,_,rfl,_,e2,DistanceCode_spec g3 g4 fun dc hdc=>⟨_,_,_,rfl,?_⟩⟩⟩
    have hk1:=hkc.spec g2
    have hd1:=hdc.1
    refine ⟨⟨by omega,by omega⟩,?_⟩
    rw [Int.toNat_natCast,aplusZ]
    refine StW.at rfl (hA4.wr kc (by omega)) fun m5 c5 f5 _=>⟨⟨by omega,by omega⟩,?_⟩
    have hB5:=hB4.fr f5 fun j=>by rintro ⟨e,_⟩; exact h12 e.symm
    have hA5:=hA4.set (by omega) c5 f5
    rw [Int.toNat_natCast,aplusZ]
    refine StW.at rfl (hB5.wr dc (by omega)) fun m6 c6 f6 _=>?_
    refine next m6 (A.set kc true) (B.set dc true) _ (hA5.fr f6 fun j=>by rintro ⟨e,_⟩; exact h12 e) (hB5.set (by omega) c6 f6) (mark_set h256) (fun y hy=>(hy.setL _).setD _) ⟨fun h=>absurd h hx0,fun _=>⟨fun k' hk'=>?_,fun k' hk'=>?_⟩⟩ ((f5.mono fun x _ h=>.inl h.1).trans (f6.mono fun x _ h=>.inr h.1)) rfl fun r'' m' h=>h
    ·rw [hk'.det hkc,List.getElem?_set_self (by omega)]
    ·rw [hk'.det hdc,List.getElem?_set_self (by omega)]
  ·rw [decide_eq_false (by omega)]
   refine ifB_f (WPS.piece [4,5] rfl (p_spec_needs_rrrr _ 286 286 _ 30 30 m3 _ ?_))
   refine hk m3 b1 b2 A B hA hB h1 h2 h12 h256 (fun x hx=>?_) fun S=>F3.old fun x y hx he=>by omega
   obtain ⟨j,hj,he⟩:=List.getElem_of_mem hx
   exact hM j x (by omega) (by rw [List.getElem?_eq_getElem hj,he])
 refine e_spec_needs a l k m R ⟨?_,?_⟩
 ·refine marks_W (n:=286) (by rfl) (by decide) fun m1 hA f1 s1=>⟨_,_,_,rfl,?_⟩
  have T:SemW PP (sv (Instr.makeSlice t_s_bool (.int .i64 30) (.int .i64 30))) m1 (NextW PP fun v2 m2=>∃ (a7:Option Addr),∃ (l8:Nat),∃ (k9:Nat),v2=.slice a7 l8 k9∧WPS PP 54 c_spec_needs_rr (retK PP r_spec_needs R) [(0,.slice a l k),(2,.slice none 0 0),(3,.slice none 0 0),(4,.slice (some ⟨m.size,0,none⟩) 286 286),(5,.slice a7 l8 k9)] m2):=
   marks_W (n:=30) (by rfl) (by decide) fun m2 hB f2 s2=>⟨_,_,_,rfl,rest m2 m.size m1.size (hA.fresh f2) hB (Nat.le_refl _) (by omega) (by omega) fun S=>(f1 S).trans (f2 S)⟩
  exact ⟨T,T⟩
 ·refine marks_W (n:=30) (by rfl) (by decide) fun m1 hB f1 s1=>⟨_,_,_,rfl,?_⟩
  exact marks_W (n:=286) (by rfl) (by decide) fun m2 hA f2 s2=>⟨_,_,_,rfl,rest m2 m1.size m.size hA (hB.fresh f2) (by omega) (Nat.le_refl _) (by omega) fun S=>(f1 S).trans (f2 S)⟩
end
end Go.M

namespace Go.M
open Go
set_option maxRecDepth 100000
abbrev Run3:=Nat×Nat×Nat
def runV (x:Run3):List Value:=[.int .i64 (x.1:Int),.int .i64 (x.2.1:Int),.int .i64 (x.2.2:Int)]
def OutR (m:Mem) (a:Option Addr) (l k b o:Nat) (xs:List Run3):Prop:=Own m a l k 3 (xs.flatMap runV) b o
theorem z_run:zeroOf PP t_spec_run=some (.agg #[.int .i64 0,.int .i64 0,.int .i64 0]):=by kernel_rfl
theorem u_s_run:PP.underlying t_s_spec_run=some (.slice t_spec_run):=by kernel_rfl
theorem run_info:∃ i,PP.info? t_spec_run=some i∧i.zero=some (.agg #[.int .i64 0,.int .i64 0,.int .i64 0])∧i.size=3∧i.bytes=24:=by
 have h:itemB PP t_spec_run=true:=by kernel_rfl
 have hz:=z_run
 unfold itemB at h
 unfold zeroOf at hz
 cases hi:PP.info? t_spec_run with
 | none=>rw [hi] at h; cases h
 | some i=>
  rw [hi] at h hz
  simp only [Bool.and_eq_true] at h
  exact ⟨i,rfl,hz,Nat.eq_of_beq_eq_true h.1,Nat.eq_of_beq_eq_true h.2⟩
section
variable {m:Mem} {r c:Nat}
theorem OutR.nil (m:Mem) (b:Nat):OutR m none 0 0 b 0 []:=⟨rfl,Nat.le_refl _,by omega,fun i v h=>by simp at h,fun i h=>by omega⟩
theorem OutR.len {a:Option Addr} {l k b o:Nat} {xs:List Run3} (h:OutR m a l k b o xs):xs.length=l:=by
 have:=Own.len h
 rw [flat3_len (fun x=>rfl)] at this
 omega
theorem OutR.fr {m':Mem} {S:Nat→Nat→Prop} {a:Option Addr} {l k b o:Nat} {xs:List Run3} (h:OutR m a l k b o xs) (hf:Fr S m m') (hs:0 < k→∀ j, ¬ S b j):OutR m' a l k b o xs:=by
 have hlen:=h.len
 have hle:=Own.le h
 refine ⟨Own.len h,Own.le h,Own.at_ h,fun i v hv=>hf.cell (Own.row h i v hv) ?_,(Own.wr h).fr hf⟩
 have:=(List.getElem?_eq_some_iff.1 hv).1
 rw [flat3_len (fun x=>rfl)] at this
 exact hs (by omega) _
theorem OutR.lt {a:Option Addr} {l k b o:Nat} {xs:List Run3} (h:OutR m a l k b o xs) (hk:0 < k):b < m.size:=by
 obtain ⟨⟨v,hv⟩,_⟩:=Own.wr h 0 (by omega)
 exact cell_block hv
theorem OutR.get {a:Option Addr} {l k b o:Nat} {xs:List Run3} (h:OutR m a l k b o xs) {i:Nat} {x:Run3} (hx:xs[i]?=some x):cell? m ⟨b,o+i * 3,none⟩=some (.int .i64 (x.1:Int))∧cell? m ⟨b,o+i * 3+1,none⟩=some (.int .i64 (x.2.1:Int))∧cell? m ⟨b,o+i * 3+2,none⟩=some (.int .i64 (x.2.2:Int)):=by
 have g:∀ j v,j < 3→(runV x)[j]?=some v→cell? m ⟨b,o+i * 3+j,none⟩=some v:=fun j v hj hv=>by
  have:=Own.row h (i * 3+j) v (by rw [flat3_get (fun x=>rfl) hx hj]; exact hv)
  rw [← Nat.add_assoc] at this; exact this
 exact ⟨g 0 _ (by decide) rfl,g 1 _ (by decide) rfl,g 2 _ (by decide) rfl⟩
def putR (a4:Option Addr) (l5 k6:Nat) (x y z:Int) (m:Mem) (K:Option Addr→Nat→Nat→Mem→Prop):Prop:=
 SemW PP (sv (Instr.buildSlice t_s_spec_run 1 #[(0,.agg #[.int .i64 x,.int .i64 y,.int .i64 z])])) m (NextW PP fun v11 m12=>∃ (a8:Option Addr),∃ (l9:Nat),∃ (k10:Nat),v11=.slice a8 l9 k10∧SemW PP (builtin .append #[t_s_spec_run,t_s_spec_run] t_s_spec_run #[false,false] #[.slice a4 l5 k6,.slice a8 l9 k10]) m12 (NextW PP fun v16 m17=>∃ (a13:Option Addr),∃ (l14:Nat),∃ (k15:Nat),v16=.slice a13 l14 k15∧K a13 l14 k15 m17))
theorem build1R_W {x y z:Int} {K:Value→Mem→Prop} (h:K (.slice (some ⟨m.size,0,none⟩) 1 1) (m.push (.cells #[.int .i64 x,.int .i64 y,.int .i64 z] t_spec_run))):
  SemW PP (sv (Instr.buildSlice t_s_spec_run 1 #[(0,.agg #[.int .i64 x,.int .i64 y,.int .i64 z])])) m (NextW PP K):=Eq.mpr (by kernel_rfl) h
theorem putR_ok {a:Option Addr} {l k b o:Nat} {xs:List Run3} (hO:OutR m a l k b o xs) (x:Run3) {x1 x2 x3:Int} (e1:x1=(x.1:Int)) (e2:x2=(x.2.1:Int)) (e3:x3=(x.2.2:Int)) (hbig:l≤1048576) {K:Option Addr→Nat→Nat→Mem→Prop}
  (hk:∀ m' a' k' b' o',OutR m' a' (l+1) k' b' o' (xs++[x])→0 < k'→((b'=b∧k'=k)∨m.size≤b')→Fr (fun x _=>x=b∧0 < k) m m'→K a' (l+1) k' m'):putR a l k x1 x2 x3 m K:=by
 subst e1; subst e2; subst e3
 refine build1R_W ⟨_,_,_,rfl,?_⟩
 have f1:∀ S,Fr S m (m.push (.cells #[.int .i64 (x.1:Int),.int .i64 (x.2.1:Int),.int .i64 (x.2.2:Int)] t_spec_run)):=fun S=>Fr.push _
 have c1:∀ i v,(runV x)[i]?=some v→cell? (m.push (.cells #[.int .i64 (x.1:Int),.int .i64 (x.2.1:Int),.int .i64 (x.2.2:Int)] t_spec_run)) ⟨m.size,0+i,none⟩=some v:=fun i v hv=>by
  rw [Nat.zero_add]
  refine cell_new ?_
  unfold runV at hv
  rcases i with _ | _ | _ | i
  ·simpa using hv
  ·simpa using hv
  ·simpa using hv
  ·simp at hv
 have s1:(m.push (.cells #[.int .i64 (x.1:Int),.int .i64 (x.2.1:Int),.int .i64 (x.2.2:Int)] t_spec_run)).size=m.size+1:=Array.size_push ..
 generalize m.push (.cells #[.int .i64 (x.1:Int),.int .i64 (x.2.1:Int),.int .i64 (x.2.2:Int)] t_spec_run)=m1 at f1 c1 s1 ⊢
 have hO1:=hO.fr (f1 fun _ _=>False) fun _ _=>id
 obtain ⟨iu,i1,i2,i3,i4⟩:=run_info
 refine append_Q (d2:=.slice t_spec_run) u_s_run u_s_run (by intro k h; cases h) i1 i2 (by rw [i3]; decide) (by rw [i3]; rfl) b o m.size 0 (xs.flatMap runV) (runV x) (by rw [i3]; exact hO1) (by rw [i3]; rfl) ?_ (fun _=>rfl) c1 (by rw [i4]; omega) (by rw [i4]; decide) ?_
 ·intro v hv
  unfold runV at hv
  simp only [List.mem_cons,List.not_mem_nil,or_false] at hv
  rcases hv with rfl | rfl | rfl <;> rfl
 ·intro m' a' k' b' o' hown hb hf h0 _
  rw [i3] at hown
  refine ⟨_,_,_,rfl,hk m' a' k' b' o' ?_ (h0 (by decide)) ?_ ((f1 _).trans hf)⟩
  ·show Own _ _ _ _ _ _ _ _
   rw [List.flatMap_append,List.flatMap_singleton]; exact hown
  ·rcases hb with ⟨rfl,_,rfl⟩ | ⟨rfl,_⟩
   ·exact .inl ⟨rfl,rfl⟩
   ·exact .inr (by omega)
section
variable (r:Nat) (a1:Option Addr) (l2 k3:Nat) (a4:Option Addr) (l5 k6:Nat) (x7 x8 x9:Int) (K:Env→Mem→Prop)
def envR (a:Option Addr) (l k:Nat) (i:Int) (t:Env):Env:=(0,.pointer (some ⟨r,0,none⟩))::(1,.slice a1 l2 k3)::(5,.slice a l k)::(6,.int .i64 i)::(7,.int .i64 x8)::(8,.int .i64 x9)::t
def runD (m:Mem):Prop:=onSome a1 fun p=>(0≤x7∧x7 < (l2:Int))∧∃ (x:Int),cell? m (aplus p x7.toNat)=some (.int .i64 x)∧putR a4 l5 k6 x 0 0 m fun a l k m'=>K (envR r a1 l2 k3 x8 x9 a l k (IntKind.wrap .i64 (x7+1)) []) m'
def runP (sym base bits lim sub:Int) (slot:Nat) (m:Mem):Prop:=CallM PP f_reader_pick #[.pointer (some ⟨r,0,none⟩),.int .i64 (IntKind.wrap .i64 ((if lim < x8 then lim else x8) - sub))] m fun v m'=>∃ (x:Int),v=.int .i64 x∧putR a4 l5 k6 sym (IntKind.wrap .i64 ((IntKind.wrap .i64 (base+x)) - base)) bits m' fun a l k m''=>K (envR r a1 l2 k3 x8 x9 a l k (IntKind.wrap .i64 (x7+(IntKind.wrap .i64 (base+x)))) [(slot,.int .i64 (IntKind.wrap .i64 (base+x)))]) m''
def run3 (m:Mem):Prop:=ifB (decide (x7 > 0)) (onSome a1 fun p=>(0≤(IntKind.wrap .i64 (x7 - 1))∧(IntKind.wrap .i64 (x7 - 1)) < (l2:Int))∧∃ (x:Int),cell? m (aplus p ((IntKind.wrap .i64 (x7 - 1)).toNat))=some (.int .i64 x)∧onSome a1 fun p=>(0≤x7∧x7 < (l2:Int))∧∃ (y:Int),cell? m (aplus p x7.toNat)=some (.int .i64 y)∧ifB (x == y) (ifB (decide (x8 ≥ 3)) (ifB (decide (x9 > 0)) (runP r a1 l2 k3 a4 l5 k6 x7 x8 x9 K 16 3 2 6 2 11 m)
  (CallM PP f_reader_pick #[.pointer (some ⟨r,0,none⟩),.int .i64 2] m fun v m'=>∃ (q:Int),v=.int .i64 q∧ifB (q == 0) (runP r a1 l2 k3 a4 l5 k6 x7 x8 x9 K 16 3 2 6 2 11 m') (runD r a1 l2 k3 a4 l5 k6 x7 x8 x9 K m'))) (runD r a1 l2 k3 a4 l5 k6 x7 x8 x9 K m)) (runD r a1 l2 k3 a4 l5 k6 x7 x8 x9 K m)) (runD r a1 l2 k3 a4 l5 k6 x7 x8 x9 K m)
def run2 (m:Mem):Prop:=ifB (decide (x9 > 0)) (onSome a1 fun p=>(0≤x7∧x7 < (l2:Int))∧∃ (x:Int),cell? m (aplus p x7.toNat)=some (.int .i64 x)∧ifB (x == 0) (ifB (decide (x8 ≥ 3)) (runP r a1 l2 k3 a4 l5 k6 x7 x8 x9 K 17 3 3 10 2 10 m) (run3 r a1 l2 k3 a4 l5 k6 x7 x8 x9 K m)) (run3 r a1 l2 k3 a4 l5 k6 x7 x8 x9 K m)) (run3 r a1 l2 k3 a4 l5 k6 x7 x8 x9 K m)
def run1 (m:Mem):Prop:=ifB (decide (x9 > 0)) (onSome a1 fun p=>(0≤x7∧x7 < (l2:Int))∧∃ (x:Int),cell? m (aplus p x7.toNat)=some (.int .i64 x)∧ifB (x == 0) (ifB (decide (x8 ≥ 11)) (runP r a1 l2 k3 a4 l5 k6 x7 x8 x9 K 18 11 7 138 10 9 m) (run2 r a1 l2 k3 a4 l5 k6 x7 x8 x9 K m)) (run2 r a1 l2 k3 a4 l5 k6 x7 x8 x9 K m)) (run2 r a1 l2 k3 a4 l5 k6 x7 x8 x9 K m)
end
theorem p_reader_runs_rrlrllrlrr (r:Nat) (a1:Option Addr) (l2 k3:Nat) (a4:Option Addr) (l5 k6:Nat) (x7 x8:Int) (m:Mem) (K:Kont)
  (h:CallM PP f_reader_pick #[.pointer (some ⟨r,0,none⟩),.int .i64 4] m fun v m'=>∃ x9:Int,v=.int .i64 x9∧run1 r a1 l2 k3 a4 l5 k6 x7 x8 x9 K.kn m'):
  wpc PP FF 151 L_reader_runs c_reader_runs_rrlrllrlrr K [(0,.pointer (some ⟨r,0,none⟩)),(1,.slice a1 l2 k3),(5,.slice a4 l5 k6),(6,.int .i64 x7),(7,.int .i64 x8)] m:=Eq.mpr (by kernel_rfl) h
structure RunAt (m:Mem) (r c:Nat) (a:Option Addr) (l k b o:Nat) (all:List Nat) (ax:Option Addr) (lx kx bx ox:Nat) (xs:List Run3) (i n v:Nat):Prop where
 rd:RdM m r c
 rows:SlcI m a l k b o all
 out:OutR m ax lx kx bx ox xs
 seq:RunSeq [] xs (all.take i)
 eqs:∀ j,j < n→all[i+j]?=some v
 le:v≤15
 n1:1≤n
 lx:lx≤i
 l1:l≤1000
 apart:b≠r∧(0 < kx→r < bx)
theorem RunAt.fr {m':Mem} {c':Nat} {a:Option Addr} {l k b o:Nat} {all:List Nat} {ax:Option Addr} {lx kx bx ox:Nat} {xs:List Run3} {i n v:Nat} (h:RunAt m r c a l k b o all ax lx kx bx ox xs i n v) (hr:RdM m' r c') (hf:Fr (RS r) m m'):RunAt m' r c' a l k b o all ax lx kx bx ox xs i n v:=
 ⟨hr,h.rows.fr hf fun _ _ e=>h.apart.1 e,h.out.fr hf fun h0 j=>rs_old (h.apart.2 h0) j,h.seq,h.eqs,h.le,h.n1,h.lx,h.l1,h.apart⟩
theorem RunAt.lt {a:Option Addr} {l k b o:Nat} {all:List Nat} {ax:Option Addr} {lx kx bx ox:Nat} {xs:List Run3} {i n v:Nat} (h:RunAt m r c a l k b o all ax lx kx bx ox xs i n v):i+n≤l:=by
 have h1:=(List.getElem?_eq_some_iff.1 (h.eqs (n - 1) (by have:=h.n1; omega))).1
 have:=h.rows.len
 have:=h.n1
 omega
def RunK (m0:Mem) (r C:Nat) (a:Option Addr) (l k:Nat) (all:List Nat) (lx kx bx:Nat) (i:Nat) (K:Env→Mem→Prop):Prop:=
 ∀ env m' a' k' b' o' xs' mm,Env.keep [0,1,5,6] env=[(0,.pointer (some ⟨r,0,none⟩)),(1,.slice a l k),(5,.slice a' (lx+1) k'),(6,.int .i64 ((i+mm:Nat):Int))]→1≤mm→i+mm≤l→OutR m' a' (lx+1) k' b' o' xs'→RunSeq [] xs' (all.take (i+mm))→0 < k'→((b'=bx∧k'=kx)∨m0.size≤b')→RdM m' r C→Fr (fun x _=>x=r∨(x=bx∧0 < kx)) m0 m'→K env m'
variable {m0:Mem} {a:Option Addr} {l k b o:Nat} {all:List Nat} {ax:Option Addr} {lx kx bx ox:Nat} {xs:List Run3} {i n v:Nat} {C:Nat} {K:Env→Mem→Prop} {x9:Int}
theorem runPut (h:RunAt m r c a l k b o all ax lx kx bx ox xs i n v) (hK:RunK m0 r C a l k all lx kx bx i K) (hc:c≤C) (hf:Fr (RS r) m0 m) (x:Run3) {x1 x2 x3:Int} (e1:x1=(x.1:Int)) (e2:x2=(x.2.1:Int)) (e3:x3=(x.2.2:Int)) {mm:Nat} (h1:1≤mm) (h2:i+mm≤l) (hs:RunSeq [] (xs++[x]) (all.take (i+mm)))
  {x8 y:Int} (hy:y=((i+mm:Nat):Int)) (t:Env) (ht:Env.keep [0,1,5,6] t=[]):putR ax lx kx x1 x2 x3 m fun a' l' k' m'=>K (envR r a l k x8 x9 a' l' k' y t) m':=by
 have hlx:=h.lx
 have hl1:=h.l1
 have hs0:=hf.size
 refine putR_ok h.out x e1 e2 e3 (by omega) fun m' a' k' b' o' hO hk hb f=>?_
 refine hK _ m' a' k' b' o' _ mm ?_ h1 h2 hO hs hk (hb.imp id fun h=>by omega) ((h.rd.fr f fun x j hx hh=>?_).mono hc) ((hf.mono fun _ _ h=>.inl h).trans (f.mono fun _ _ h=>.inr h))
 ·unfold envR
  rw [hy]
  simp only [Env.keep,memNat,ht]
  rfl
 ·have:=h.apart.2 hh.2; omega
theorem runD_ok (h:RunAt m r c a l k b o all ax lx kx bx ox xs i n v) (hK:RunK m0 r C a l k all lx kx bx i K) (hc:c≤C) (hf:Fr (RS r) m0 m):runD r a l k ax lx kx (i:Int) (n:Int) x9 K m:=by
 have hlt:=h.lt
 have hn1:=h.n1
 have hl1:=h.l1
 have hat:=h.rows.at_ (by omega)
 have hg:=h.eqs 0 (by omega)
 rw [Nat.add_zero] at hg
 unfold runD
 rw [wrap_succ (by omega)]
 subst hat
 refine ⟨⟨by omega,by omega⟩,_,cellB (h.rows.data i _ hg),?_⟩
 exact runPut h hK hc hf (v,0,0) rfl rfl rfl (mm:=1) (by omega) (by omega) (run_one h.seq hg h.le) rfl [] rfl
theorem runP_ok (h:RunAt m r c a l k b o all ax lx kx bx ox xs i n v) (hK:RunK m0 r C a l k all lx kx bx i K) (hc:c+1≤C) (hC:C < 1099511627776) (hf:Fr (RS r) m0 m) {sym base bits lim sub slot:Nat} (hlim:lim≤200) (hbs:sub+1=base) (hsub:sub < lim) (hn:base≤n) (hbase:base≤20) (hslot:Env.keep [0,1,5,6] [(slot,.int .i64 0)]=[])
  (hrun:∀ mm,base≤mm→mm≤lim→mm≤n→RunSeq [] (xs++[(sym,mm - base,bits)]) (all.take (i+mm))):runP r a l k ax lx kx (i:Int) (n:Int) x9 K (sym:Int) (base:Int) (bits:Int) (lim:Int) (sub:Int) slot m:=by
 have hlt:=h.lt
 have hl1:=h.l1
 unfold runP
 have e:IntKind.wrap .i64 ((if (lim:Int) < (n:Int) then (lim:Int) else (n:Int)) - (sub:Int))=((min lim n - sub:Nat):Int):=by
  rw [wrap64_id (by split <;> omega) (by split <;> omega)]
  split <;> omega
 rw [e]
 refine pick_spec h.rd (by omega) (by omega) fun m1 q hq h1 f1=>⟨_,rfl,?_⟩
 have eb:IntKind.wrap .i64 ((base:Int)+(q:Int))=((base+q:Nat):Int):=by rw [wrap64_id (by omega) (by omega)]; omega
 rw [eb]
 have hq2:base+q≤lim:=by omega
 have hq3:base+q≤n:=by omega
 refine runPut (h.fr h1 f1) hK hc (hf.trans f1) (sym,base+q - base,bits) rfl ?_ rfl (mm:=base+q) (by omega) (by omega) (hrun _ (by omega) hq2 hq3) ?_ _ ?_
 ·rw [wrap64_id (by omega) (by omega)]; simp only; omega
 ·rw [wrap64_id (by omega) (by omega)]; omega
 ·simp only [Env.keep] at hslot ⊢
  cases hm:memNat [0,1,5,6] slot with
  | true=>rw [hm] at hslot; cases hslot
  | false=>rfl
theorem run3_ok (h:RunAt m r c a l k b o all ax lx kx bx ox xs i n v) (hK:RunK m0 r C a l k all lx kx bx i K) (hc:c+2≤C) (hC:C < 1099511627776) (hf:Fr (RS r) m0 m):run3 r a l k ax lx kx (i:Int) (n:Int) x9 K m:=by
 have hlt:=h.lt
 have hn1:=h.n1
 have hl1:=h.l1
 have hat:=h.rows.at_ (by omega)
 have hlen:=h.rows.len
 have hg:=h.eqs 0 (by omega)
 rw [Nat.add_zero] at hg
 have D:runD r a l k ax lx kx (i:Int) (n:Int) x9 K m:=runD_ok h hK (by omega) hf
 unfold run3
 by_cases hi:0 < i
 ·rw [decide_eq_true (by omega)]
  have e:IntKind.wrap .i64 ((i:Int) - 1)=((i - 1:Nat):Int):=by rw [wrap64_id (by omega) (by omega)]; omega
  rw [e]
  have hp:all[i - 1]?=some (all[i - 1]'(by omega)):=List.getElem?_eq_getElem (by omega)
  generalize all[i - 1]'(by omega)=u at hp
  refine ifB_t ?_
  subst hat
  refine ⟨⟨by omega,by omega⟩,_,cellB (h.rows.data _ _ hp),⟨by omega,by omega⟩,_,cellB (h.rows.data i _ hg),?_⟩
  refine ifB_of (fun he=>?_) (fun _=>D)
  have huv:u=v:=by have:=eq_of_beq he; omega
  subst huv
  refine ifB_of (fun h3=>?_) (fun _=>D)
  have h3:3≤n:=by have:=of_decide_eq_true h3; omega
  have P:∀ m1 c1,RunAt m1 r c1 _ l k b o all ax lx kx bx ox xs i n u→c1+1≤C→Fr (RS r) m0 m1→runP r _ l k ax lx kx (i:Int) (n:Int) x9 K 16 3 2 6 2 11 m1:=fun m1 c1 h1 hc1 f1=>
   runP_ok (sym:=16) (base:=3) (bits:=2) (lim:=6) (sub:=2) h1 hK hc1 hC f1 (by decide) rfl (by decide) h3 (by decide) rfl fun mm g1 g2 g3=>run_again h.seq g1 g2 hi hp fun j hj=>h.eqs j (by omega)
  refine ifB_of (fun _=>P m c h (by omega) hf) (fun _=>pick_spec h.rd (by omega) (n:=2) (by decide) fun m1 q hq h1 f1=>⟨_,rfl,ifB_of (fun _=>P m1 _ (h.fr h1 f1) (by omega) (hf.trans f1)) (fun _=>runD_ok (h.fr h1 f1) hK (by omega) (hf.trans f1))⟩)
 ·rw [decide_eq_false (by omega)]
  exact ifB_f D
theorem run2_ok (h:RunAt m r c a l k b o all ax lx kx bx ox xs i n v) (hK:RunK m0 r C a l k all lx kx bx i K) (hc:c+2≤C) (hC:C < 1099511627776) (hf:Fr (RS r) m0 m):run2 r a l k ax lx kx (i:Int) (n:Int) x9 K m:=by
 have hlt:=h.lt
 have hn1:=h.n1
 have hl1:=h.l1
 have hat:=h.rows.at_ (by omega)
 have hg:=h.eqs 0 (by omega)
 rw [Nat.add_zero] at hg
 have T:run3 r a l k ax lx kx (i:Int) (n:Int) x9 K m:=run3_ok h hK hc hC hf
 unfold run2
 refine ifB_of (fun _=>?_) (fun _=>T)
 subst hat
 refine ⟨⟨by omega,by omega⟩,_,cellB (h.rows.data i _ hg),ifB_of (fun he=>?_) (fun _=>T)⟩
 have hv0:v=0:=by have:=eq_of_beq he; omega
 subst hv0
 refine ifB_of (fun h3=>?_) (fun _=>T)
 have h3:3≤n:=by have:=of_decide_eq_true h3; omega
 exact runP_ok (sym:=17) (base:=3) (bits:=3) (lim:=10) (sub:=2) h hK (by omega) hC hf (by decide) rfl (by decide) h3 (by decide) rfl fun mm g1 g2 g3=>run_zero h.seq g1 g2 fun j hj=>h.eqs j (by omega)
theorem run1_ok (h:RunAt m r c a l k b o all ax lx kx bx ox xs i n v) (hK:RunK m0 r C a l k all lx kx bx i K) (hc:c+2≤C) (hC:C < 1099511627776) (hf:Fr (RS r) m0 m):run1 r a l k ax lx kx (i:Int) (n:Int) x9 K m:=by
 have hlt:=h.lt
 have hn1:=h.n1
 have hl1:=h.l1
 have hat:=h.rows.at_ (by omega)
 have hg:=h.eqs 0 (by omega)
 rw [Nat.add_zero] at hg
 have T:run2 r a l k ax lx kx (i:Int) (n:Int) x9 K m:=run2_ok h hK hc hC hf
 unfold run1
 refine ifB_of (fun _=>?_) (fun _=>T)
 subst hat
 refine ⟨⟨by omega,by omega⟩,_,cellB (h.rows.data i _ hg),ifB_of (fun he=>?_) (fun _=>T)⟩
 have hv0:v=0:=by have:=eq_of_beq he; omega
 subst hv0
 refine ifB_of (fun h3=>?_) (fun _=>T)
 have h3:11≤n:=by have:=of_decide_eq_true h3; omega
 exact runP_ok (sym:=18) (base:=11) (bits:=7) (lim:=138) (sub:=10) h hK (by omega) hC hf (by decide) rfl (by decide) h3 (by decide) rfl fun mm g1 g2 g3=>run_zeros h.seq g1 g2 fun j hj=>h.eqs j (by omega)
theorem runs_spec (h:RdM m r c) (hc:c+5000 < 1099511627776) (hS:SlcI m a l k b o all) (hb:b≠r) (h15:∀ v ∈ all,v≤15) (hl:l≤1000) {R:Value→Mem→Prop}
  (hk:∀ m' a' l' k' b' o' xs,OutR m' a' l' k' b' o' xs→RunSeq [] xs all→l'≤l→(0 < k'→m.size≤b')→RdM m' r (c+3 * l)→Fr (RS r) m m'→R (.slice a' l' k') m'):CallM PP f_reader_runs #[.pointer (some ⟨r,0,none⟩),.slice a l k] m R:=by
 have hr:=h.lo
 have hlen:=hS.len
 refine e_reader_runs r a l k m R ?_
 rw [q_reader_runs_rrlrl]
 refine loopW ffOk mixedOk (L₀:=L_reader_runs) (σ:=Nat×Nat×Option Addr×Nat×Nat×Nat×List Run3) [0,1,5,6]
  (fun s=>[(0,.pointer (some ⟨r,0,none⟩)),(1,.slice a l k),(5,.slice s.2.2.1 s.2.1 s.2.2.2.1),(6,.int .i64 (s.1:Nat))])
  (fun s m'=>s.1≤l∧OutR m' s.2.2.1 s.2.1 s.2.2.2.1 s.2.2.2.2.1 s.2.2.2.2.2.1 s.2.2.2.2.2.2∧(0 < s.2.2.2.1→m.size≤s.2.2.2.2.1)∧RunSeq [] s.2.2.2.2.2.2 (all.take s.1)∧s.2.1≤s.1∧RdM m' r (c+3 * s.1)∧Fr (RN r m.size) m m')
  (fun s=>l - s.1) (0,0,none,0,0,0,[]) rfl ⟨Nat.zero_le _,OutR.nil _ _,by simp,by simpa using RunSeq.nil,Nat.le_refl _,h,Fr.refl _ _⟩ ?_
 rintro ⟨i,lx,ax,kx,bx,ox,xs⟩ m1 ⟨hi,hO,hbx,hseq,hlx,h1,f1⟩
 simp only at hi hO hbx hseq hlx h1
 have hs1:=f1.size
 refine p_reader_runs_rrlrll r a l k ax lx kx i m1 _ ?_
 by_cases hil:i < l
 rotate_left
 ·rw [decide_eq_false (by omega)]
  have hi':i=all.length:=by omega
  rw [hi',List.take_length] at hseq
  refine ifB_f (WPS.piece [5] rfl (p_reader_runs_rrr ax lx kx m1 _ ?_))
  exact hk m1 ax lx kx bx ox xs hO hseq (by omega) hbx (h1.mono (by omega)) f1.rn
 rw [decide_eq_true (by omega)]
 have hS1:SlcI m1 a l k b o all:=hS.fr f1 fun h0 j=>by
  have:=hS.lo h0
  rintro (e | e)
  ·exact hb e
  ·omega
 have hgi:all[i]?=some (all[i]'(by omega)):=List.getElem?_eq_getElem (by omega)
 generalize all[i]'(by omega)=v at hgi
 have hat:=hS1.at_ (by omega)
 refine ifB_t ?_
 rw [q_reader_runs_rrlrllrlrll]
 refine loopW ffOk mixedOk (L₀:=L_reader_runs) (σ:=Nat) [0,1,5,6,7]
  (fun n=>[(0,.pointer (some ⟨r,0,none⟩)),(1,.slice a l k),(5,.slice ax lx kx),(6,.int .i64 (i:Int)),(7,.int .i64 (n:Nat))])
  (fun n m'=>m'=m1∧1≤n∧i+n≤l∧∀ j,j < n→all[i+j]?=some v) (fun n=>l - n) 1 rfl ⟨rfl,Nat.le_refl _,by omega,fun j hj=>by rw [show j=0 by omega,Nat.add_zero]; exact hgi⟩ ?_
 rintro n m2 ⟨rfl,hn1,hnl,heq⟩
 refine p_reader_runs_rrlrllrlrlll r a l k ax lx kx i n m2 _ ?_
 rw [show IntKind.wrap .i64 ((i:Int)+(n:Int))=((i+n:Nat):Int) by rw [wrap64_id (by omega) (by omega)]; omega]
 have fin:WPS PP 151 c_reader_runs_rrlrllrlrr _ [(0,.pointer (some ⟨r,0,none⟩)),(1,.slice a l k),(5,.slice ax lx kx),(6,.int .i64 (i:Int)),(7,.int .i64 (n:Int))] m2:=
  WPS.piece (K:=(((((retK PP r_reader_runs R).withN fun r m=>WPS PP 151 c_reader_runs_rrr (retK PP r_reader_runs R) r m).withX 0).withN fun r_1 m_1=>
   ∃ s':Nat×Nat×Option Addr×Nat×Nat×Nat×List Run3,Env.keep [0,1,5,6] r_1=[(0,.pointer (some ⟨r,0,none⟩)),(1,.slice a l k),(5,.slice s'.2.2.1 s'.2.1 s'.2.2.2.1),(6,.int .i64 (s'.1:Nat))]∧
    (s'.1≤l∧OutR m_1 s'.2.2.1 s'.2.1 s'.2.2.2.1 s'.2.2.2.2.1 s'.2.2.2.2.2.1 s'.2.2.2.2.2.2∧(0 < s'.2.2.2.1→m.size≤s'.2.2.2.2.1)∧RunSeq [] s'.2.2.2.2.2.2 (all.take s'.1)∧s'.2.1≤s'.1∧RdM m_1 r (c+3 * s'.1)∧Fr (RN r m.size) m m_1)∧l - s'.1 < l - i)).withX 1) [0,1,5,6,7] rfl (p_reader_runs_rrlrllrlrr r a l k ax lx kx i n m2 _ (by
   refine pick_spec h1 (by omega) (n:=4) (by decide) fun m3 q hq h3 f3=>⟨_,rfl,?_⟩
   have hA:RunAt m2 r (c+3 * i) a l k b o all ax lx kx bx ox xs i n v:=⟨h1,hS1,hO,hseq,heq,h15 v (List.mem_of_getElem? hgi),hn1,hlx,hl,hb,fun h0=>by have:=hbx h0; omega⟩
   refine run1_ok (hA.fr h3 f3) (m0:=m2) (C:=c+3 * i+3) (K:=fun env m'=>∃ s':Nat×Nat×Option Addr×Nat×Nat×Nat×List Run3,Env.keep [0,1,5,6] env=[(0,.pointer (some ⟨r,0,none⟩)),(1,.slice a l k),(5,.slice s'.2.2.1 s'.2.1 s'.2.2.2.1),(6,.int .i64 (s'.1:Nat))]∧
    (s'.1≤l∧OutR m' s'.2.2.1 s'.2.1 s'.2.2.2.1 s'.2.2.2.2.1 s'.2.2.2.2.2.1 s'.2.2.2.2.2.2∧(0 < s'.2.2.2.1→m.size≤s'.2.2.2.2.1)∧RunSeq [] s'.2.2.2.2.2.2 (all.take s'.1)∧s'.2.1≤s'.1∧RdM m' r (c+3 * s'.1)∧Fr (RN r m.size) m m')∧l - s'.1 < l - i) ?_ (by omega) (by omega) f3
   intro env m4 a4 k4 b4 o4 xs4 mm he hmm hmml hO4 hseq4 hk4 hb4 h4 f4
   refine ⟨(i+mm,lx+1,a4,k4,b4,o4,xs4),he,⟨hmml,hO4,fun _=>?_,hseq4,by simp only; omega,h4.mono (by simp only; omega),f1.trans (f4.mono fun x _ hx=>?_)⟩,by simp only; omega⟩
   ·simp only
    rcases hb4 with ⟨rfl,rfl⟩ | hh
    ·exact hbx hk4
    ·omega
   ·rcases hx with hx | ⟨hx,h0⟩
    ·exact .inl hx
    ·have:=hbx h0; exact .inr (by omega)))
 by_cases hin:i+n < l
 ·rw [decide_eq_true (by omega)]
  have hgn:all[i+n]?=some (all[i+n]'(by omega)):=List.getElem?_eq_getElem (by omega)
  generalize all[i+n]'(by omega)=u at hgn
  refine ifB_t ?_
  subst hat
  refine ⟨⟨by omega,by omega⟩,_,cellB (hS1.data _ _ hgn),⟨by omega,by omega⟩,_,cellB (hS1.data _ _ hgi),ifB_of (fun he=>?_) (fun _=>fin)⟩
  have huv:u=v:=by have:=eq_of_beq he; omega
  rw [wrap_succ (by omega)]
  refine ⟨n+1,rfl,⟨rfl,by omega,by omega,fun j hj=>?_⟩,by omega⟩
  by_cases e:j=n
  ·subst e; rw [hgn,huv]
  ·exact heq j (by omega)
 ·rw [decide_eq_false (by omega)]
  exact ifB_f fin
end
end Go.M
