/- Rows of numbers in memory: read, and grown. The reference: canonical codes. The reference: lengths and distances by their codes. The reference: the fixed codes' lengths. -/
import Derived.Test.YtlgdbjpeklangaaGreatDoorPkq
import Derived.Test.YtlgdbjpeklangaaGreatDoorPkl
namespace Go.M
open Go
set_option maxRecDepth 100000
structure SlcI (m:Mem) (a:Option Addr) (l k b o:Nat) (d:List Nat):Prop where
 len:d.length=l
 cap:l≤k
 at_:0 < l→a=some ⟨b,o,none⟩
 data:∀ (i v:Nat),d[i]?=some v→cell? m ⟨b,o+i,none⟩=some (.int .i64 (v:Int))
theorem SlcI.fr {S:Nat→Nat→Prop} {m m':Mem} {a:Option Addr} {l k b o:Nat} {d:List Nat} (h:SlcI m a l k b o d) (hf:Fr S m m') (hs:0 < l→∀ j, ¬ S b j):SlcI m' a l k b o d:=
 ⟨h.len,h.cap,h.at_,fun i v hv=>hf.cell (h.data i v hv) (hs (by have:=(List.getElem?_eq_some_iff.1 hv).1; have:=h.len; omega) _)⟩
theorem SlcI.old {m m':Mem} {a:Option Addr} {l k b o:Nat} {d:List Nat} (h:SlcI m a l k b o d) (hf:∀ S,Fr S m m'):SlcI m' a l k b o d:=h.fr (hf fun _ _=>False) fun _ _=>id
theorem SlcB.sp {m m':Mem} {a:Option Addr} {l k b o:Nat} {d:List Nat} {S:Nat→Nat→Prop} (h:SlcB m a l k b o d) (hf:Fr S m m') (hs:0 < l→∀ j, ¬ S b j):SlcB m' a l k b o d:=
 ⟨h.len,h.cap,h.at_,fun i hi=>hf.cell (h.data i hi) (hs (by omega) _),h.byte⟩
theorem build1_W {x:Int} {m:Mem} {K:Value→Mem→Prop} (h:K (.slice (some ⟨m.size,0,none⟩) 1 1) (m.push (.cells #[.int .u8 x] t_uint8))):
  SemW PP (sv (Instr.buildSlice t_s_uint8 1 #[(0,.int .u8 x)])) m (NextW PP K):=Eq.mpr (by kernel_rfl) h
theorem cells_of_wr {m:Mem} {b o:Nat} (hw:Wr m ⟨b,o,none⟩):∃ c t fr,m[b]?=some (.cells c t fr):=by
 obtain ⟨⟨v,hv⟩,_⟩:=hw
 unfold cell? at hv
 cases hb:m[b]? with
 | none=>simp only [hb] at hv; cases hv
 | some x=>
  cases x with
  | cells c t fr=>exact ⟨c,t,fr,rfl⟩
  | _=>simp only [hb] at hv; cases hv
theorem u_s_int:PP.underlying t_s_int=some (.slice t_int):=by kernel_rfl
theorem one_int:∃ i,One PP t_int (.int .i64 0) 8 i:=one_of (by kernel_rfl) (by kernel_rfl)
def i64V (v:Nat):Value:=.int .i64 (v:Int)
structure OutI (m:Mem) (a:Option Addr) (l k b o:Nat) (d:List Nat):Prop where
 own:Own m a l k 1 (d.map i64V) b o
 i64:0 < k→∀ j v,cell? m ⟨b,j,none⟩=some v→∃ x,v=.int .i64 x
theorem OutI.nil (m:Mem) (b:Nat):OutI m none 0 0 b 0 []:=⟨⟨rfl,Nat.le_refl _,by omega,fun i v h=>by simp at h,fun i h=>by omega⟩,by omega⟩
theorem OutI.len {m:Mem} {a:Option Addr} {l k b o:Nat} {d:List Nat} (h:OutI m a l k b o d):d.length=l:=by simpa using h.own.len
theorem OutI.slc {m:Mem} {a:Option Addr} {l k b o:Nat} {d:List Nat} (h:OutI m a l k b o d):SlcI m a l k b o d:=
 ⟨h.len,h.own.le,fun h0=>h.own.at_ (by have:=h.own.le; omega),fun i v hv=>h.own.row i _ (by rw [List.getElem?_map,hv]; rfl)⟩
theorem OutI.fr {m m':Mem} {S:Nat→Nat→Prop} {a:Option Addr} {l k b o:Nat} {d:List Nat} (h:OutI m a l k b o d) (hf:Fr S m m') (hs:0 < k→∀ j, ¬ S b j):OutI m' a l k b o d:=by
 refine ⟨⟨h.own.len,h.own.le,h.own.at_,?_,h.own.wr.fr hf⟩,fun h0 j v hv=>?_⟩
 ·refine h.own.row.fr hf fun i hi=>hs ?_ _
  have:=h.own.len; have:=h.own.le; omega
 ·obtain ⟨⟨w,hw⟩,_⟩:=h.own.wr 0 (by omega)
  obtain ⟨v',hv'⟩:=hf.back hw hv
  have:=hf.cell hv' (hs h0 j)
  rw [hv] at this
  simp only [Option.some.injEq] at this
  rw [this]; exact h.i64 h0 j v' hv'
theorem build1I_W {x:Int} {m:Mem} {K:Value→Mem→Prop} (h:K (.slice (some ⟨m.size,0,none⟩) 1 1) (m.push (.cells #[.int .i64 x] t_int))):
  SemW PP (sv (Instr.buildSlice t_s_int 1 #[(0,.int .i64 x)])) m (NextW PP K):=Eq.mpr (by kernel_rfl) h
theorem pushI_W {m:Mem} {a:Option Addr} {l k b o:Nat} {d:List Nat} (hO:OutI m a l k b o d) (v:Nat) (hbig:l≤1048576) {K:Option Addr→Nat→Nat→Mem→Prop}
  (hk:∀ m' a' k' b' o',OutI m' a' (l+1) k' b' o' (d++[v])→0 < k'→((b'=b∧k'=k)∨m.size≤b')→Fr (fun x _=>x=b∧0 < k) m m'→K a' (l+1) k' m'):
  SemW PP (sv (Instr.buildSlice t_s_int 1 #[(0,.int .i64 (v:Int))])) m (NextW PP fun v11 m12=>∃ (a8:Option Addr),∃ (l9:Nat),∃ (k10:Nat),v11=.slice a8 l9 k10∧SemW PP (builtin .append #[t_s_int,t_s_int] t_s_int #[false,false] #[.slice a l k,.slice a8 l9 k10]) m12 (NextW PP fun v16 m17=>∃ (a13:Option Addr),∃ (l14:Nat),∃ (k15:Nat),v16=.slice a13 l14 k15∧K a13 l14 k15 m17)):=by
 refine build1I_W ⟨_,_,_,rfl,?_⟩
 have f1:∀ S,Fr S m (m.push (.cells #[.int .i64 (v:Int)] t_int)):=fun S=>Fr.push _
 have c1:cell? (m.push (.cells #[.int .i64 (v:Int)] t_int)) ⟨m.size,0,none⟩=some (.int .i64 (v:Int)):=cell_new (c:=#[.int .i64 (v:Int)]) (i:=0) rfl
 have s1:(m.push (.cells #[.int .i64 (v:Int)] t_int)).size=m.size+1:=Array.size_push ..
 generalize m.push (.cells #[.int .i64 (v:Int)] t_int)=m1 at f1 c1 s1 ⊢
 have hO1:=hO.fr (f1 fun _ _=>False) fun _ _=>id
 obtain ⟨iu,hi⟩:=one_int
 refine append_Q (d2:=.slice t_int) u_s_int u_s_int (by intro k h; cases h) hi.info hi.zero (by rw [hi.size]; decide) (by rw [hi.size]; rfl) b o m.size 0 (d.map i64V) [i64V v] (by rw [hi.size]; exact hO1.own) (by rw [hi.size]; rfl) ?_ (fun _=>rfl) ?_ (by rw [hi.bytes]; omega) (by rw [hi.bytes]; decide) ?_
 ·intro x hx
  rw [List.mem_singleton.1 hx]; rfl
 ·intro i x hx
  cases i with
  | zero=>simp only [List.getElem?_cons_zero,Option.some.injEq] at hx; subst hx; exact c1
  | succ i=>simp at hx
 ·intro m' a' k' b' o' hown hb hf h0 hQ
  rw [hi.size] at hown
  refine ⟨_,_,_,rfl,hk m' a' k' b' o' ⟨by rw [List.map_append]; exact hown,fun h1=>?_⟩ (h0 (by decide)) ?_ ((f1 _).trans hf)⟩
  ·refine hQ (fun v=>∃ x,v=.int .i64 x) ?_ ?_ ?_ hO1.i64 h1
   ·intro v hv; simp only [List.mem_map] at hv; obtain ⟨x,_,rfl⟩:=hv; exact ⟨_,rfl⟩
   ·intro x hx; rw [List.mem_singleton.1 hx]; exact ⟨_,rfl⟩
   ·intro v hv
    have:v ∈ #[Value.int .i64 0]:=hv
    exact ⟨_,by simpa using this⟩
  ·rcases hb with ⟨rfl,_,rfl⟩ | ⟨rfl,_⟩
   ·exact .inl ⟨rfl,rfl⟩
   ·exact .inr (by omega)
end Go.M

namespace Go.M
open Go
set_option maxRecDepth 100000
theorem nx_le (L:List Nat):∀ n,nx L n+2 * L.length≤L.length * 2 ^ (n+1)
 | 0=>by simp [nx]; omega
 | n+1=>by
  have ih:=nx_le L n
  have hc:cnt L n≤L.length:=by
   unfold cnt; split
   ·omega
   ·exact List.count_le_length
  rw [nx,Nat.pow_succ, ← Nat.mul_assoc]
  generalize L.length * 2 ^ (n+1)=q at ih ⊢
  omega
theorem cd_bound {L:List Nat} (hl:L.length≤1000) {n:Nat} (hn:n≤15) (i:Nat):nx L n+(L.take i).count n≤65536 * 1000:=by
 have h1:=nx_le L n
 have h2:(L.take i).count n≤L.length:=Nat.le_trans List.count_le_length (by simp; omega)
 have h3:(2:Nat) ^ (n+1)≤2 ^ 16:=Nat.pow_le_pow_right (by decide) (by omega)
 have h4:L.length * 2 ^ (n+1)≤1000 * 2 ^ 16:=Nat.mul_le_mul hl h3
 omega
def cdAt (L:List Nat) (n i j:Nat):Nat:=if ln L j≠0∧(ln L j < n∨ln L j=n∧j < i) then cd L j else 0
def cds (L:List Nat):List Nat:=(List.range L.length).map fun j=>if ln L j=0 then 0 else cd L j
def CdRow (m:Mem) (b:Nat) (L:List Nat) (n i:Nat):Prop:=∀ j,j < L.length→cell? m ⟨b,j,none⟩=some (.int .i64 (cdAt L n i j:Nat))∧Wr m ⟨b,j,none⟩
theorem Codes_spec {m:Mem} {a:Option Addr} {l k b o:Nat} {L:List Nat} (hS:SlcI m a l k b o L) (h15:∀ v ∈ L,v≤15) (hl:l≤1000) {R:Value→Mem→Prop}
  (hk:∀ m' b',m.size≤b'→SlcI m' (some ⟨b',0,none⟩) l l b' 0 (cds L)→(∀ S,Fr S m m')→R (.slice (some ⟨b',0,none⟩) l l) m'):CallM PP f_spec_Codes #[.slice a l k] m R:=by
 have hlen:=hS.len
 obtain ⟨iu,hi⟩:=one_int
 refine e_spec_Codes a l k m R (make_W u_s_int hi.info hi.zero rfl hi.size rfl rfl (by rw [hi.bytes]; omega) (by omega) fun m1 own1 f1 s1=>⟨_,_,_,rfl,?_⟩)
 rw [q_spec_Codes_rrrlrl]
 have hB:m.size≤m.size:=Nat.le_refl _
 generalize hbb:m.size=B at own1 hB
 have hSB:0 < l→b < B:=fun h0=>by
  have hg:L[0]?=some (L[0]'(by omega)):=List.getElem?_eq_getElem (by omega)
  have:=cell_block (hS.data 0 _ hg)
  simp only at this; omega
 refine loopW ffOk mixedOk (L₀:=L_spec_Codes) (σ:=Nat) [0,3,4,5] (fun n=>[(0,.slice a l k),(3,.slice (some ⟨B,0,none⟩) l l),(4,.int .i64 (nx L n+cnt L n:Nat)),(5,.int .i64 ((n+1:Nat):Int))])
  (fun n m'=>n≤15∧CdRow m' B L (n+1) 0∧∀ S,Fr S m m') (fun n=>15 - n) 0 (by simp [nx,cnt,Env.keep,memNat]) ⟨by decide,?_,f1⟩ ?_
 ·intro j hj
  refine ⟨?_,by have:=own1.wr j (by omega); rwa [Nat.zero_add] at this⟩
  have:=own1.row j (.int .i64 0) (by rw [List.getElem?_replicate,if_pos (by omega)])
  rw [Nat.zero_add] at this
  rw [this]
  unfold cdAt
  rw [if_neg (by omega)]; rfl
 rintro n m2 ⟨hn,hrow,hf2⟩
 refine p_spec_Codes_rrrlrll a l k _ l l _ _ m2 _ ?_
 by_cases hn15:n < 15
 ·rw [decide_eq_true (by omega)]
  refine ifB_t ?_
  rw [q_spec_Codes_rrrlrllrllrrl]
  have hcb:=cd_bound (L:=L) (by omega) (show n+1≤15 by omega) 0
  have hnx:nx L (n+1)=2 * (nx L n+cnt L n):=rfl
  have hw0:IntKind.wrap .i64 (((nx L n+cnt L n:Nat):Int) * 2)=((nx L (n+1)+(L.take 0).count (n+1):Nat):Int):=by
   rw [wrap64_id (by omega) (by omega)]; simp; omega
  rw [hw0]
  refine loopW ffOk mixedOk (L₀:=L_spec_Codes) (σ:=Nat) [0,3,4,5,17,18,19] (fun i=>[(0,.slice a l k),(3,.slice (some ⟨B,0,none⟩) l l),(4,.int .i64 (nx L (n+1)+(L.take i).count (n+1):Nat)),(5,.int .i64 ((n+1:Nat):Int)),(17,.slice a l k),(18,.int .i64 (l:Int)),(19,.int .i64 (i:Nat))])
   (fun i m'=>i≤l∧CdRow m' B L (n+1) i∧∀ S,Fr S m m') (fun i=>l - i) 0 rfl ⟨Nat.zero_le _,hrow,hf2⟩ ?_
  rintro i m3 ⟨hi,hrow3,hf3⟩
  refine p_spec_Codes_rrrlrllrllrrll a l k _ l l _ _ a l k _ _ m3 _ ?_
  by_cases hil:i < l
  ·rw [decide_eq_true (by omega)]
   have hget:L[i]?=some (L[i]'(by omega)):=List.getElem?_eq_getElem (by omega)
   have hlni:ln L i=L[i]'(by omega):=by unfold ln; rw [List.getD_eq_getElem?_getD,hget]; rfl
   refine ifB_t ?_
   have hS3:=hS.old hf3
   rw [hS3.at_ (by omega)]
   refine ⟨⟨by omega,by omega⟩,_,hS3.data i _ hget,?_⟩
   rw [← hlni]
   have hw:IntKind.wrap .i64 ((i:Int)+1)=((i+1:Nat):Int):=by rw [wrap64_id (by omega) (by omega)]; rfl
   have htk:(L.take (i+1)).count (n+1)=(L.take i).count (n+1)+(if ln L i=n+1 then 1 else 0):=by
    rw [List.take_succ_eq_append_getElem (by omega:i < L.length),List.count_append,hlni]
    congr 1
    rw [List.count_singleton]
    by_cases h:L[i]=n+1
    ·simp [h]
    ·simp [h]
   by_cases he:ln L i=n+1
   ·have hb:((ln L i:Int) == ((n+1:Nat):Int))=true:=by rw [he]; simp
    rw [hb]
    refine ifB_t ⟨⟨by omega,by omega⟩,?_⟩
    have hcb':=cd_bound (L:=L) (by omega) (show n+1≤15 by omega) i
    obtain ⟨_,hw3⟩:=hrow3 i (by omega)
    have hap:aplus ⟨B,0,none⟩ ((i:Int)).toNat=⟨B,i,none⟩:=by simp [aplus]
    rw [hap]
    refine StW.at rfl hw3 fun m4 c4 f4 _=>?_
    refine WPS.piece [0,3,4,5,17,18,19] rfl (p_spec_Codes_rrrlrllrllrrllrrr _ _ _ _ _ _ _ _ _ _ _ _ _ _ _ ?_)
    rw [hw]
    have hw4:IntKind.wrap .i64 (((nx L (n+1)+(L.take i).count (n+1):Nat):Int)+1)=((nx L (n+1)+(L.take (i+1)).count (n+1):Nat):Int):=by
     rw [wrap64_id (by omega) (by omega),htk,if_pos he]; omega
    rw [hw4]
    refine ⟨i+1,rfl,⟨by omega,fun j hj=>?_,fun S=>?_⟩,by omega⟩
    ·obtain ⟨h1,h2⟩:=hrow3 j hj
     refine ⟨?_,h2.fr f4⟩
     by_cases hji:j=i
     ·subst hji
      rw [c4]
      unfold cdAt cd
      rw [if_pos ⟨by omega,.inr ⟨he,by omega⟩⟩,he]
     ·rw [f4.cell h1 (by simp only; omega)]
      unfold cdAt
      have:(ln L j≠0∧(ln L j < n+1∨ln L j=n+1∧j < i)) ↔ (ln L j≠0∧(ln L j < n+1∨ln L j=n+1∧j < i+1)):=by omega
      simp only [this]
    ·refine Fr.old ((hf3 _).trans f4) ?_
     rintro x y hx ⟨rfl,_⟩; omega
   ·have hb:((ln L i:Int) == ((n+1:Nat):Int))=false:=by
     rw [beq_eq_false_iff_ne]; omega
    rw [hb]
    refine ifB_f (WPS.piece [0,3,4,5,17,18,19] rfl (p_spec_Codes_rrrlrllrllrrllrrr _ _ _ _ _ _ _ _ _ _ _ _ _ _ _ ?_))
    rw [hw]
    rw [if_neg he,Nat.add_zero] at htk
    refine ⟨i+1,by rw [htk]; rfl,⟨by omega,fun j hj=>?_,hf3⟩,by omega⟩
    obtain ⟨h1,h2⟩:=hrow3 j hj
    refine ⟨?_,h2⟩
    rw [h1]
    unfold cdAt
    have:(ln L j≠0∧(ln L j < n+1∨ln L j=n+1∧j < i)) ↔ (ln L j≠0∧(ln L j < n+1∨ln L j=n+1∧j < i+1)):=by
     by_cases hji:j=i
     ·subst hji; omega
     ·omega
    simp only [this]
  ·rw [decide_eq_false (by omega)]
   have hil':i=L.length:=by omega
   refine ifB_f (WPS.piece [0,3,4,5] rfl (p_spec_Codes_rrrlrllrr _ _ _ _ _ _ _ _ _ _ ?_))
   have hw:IntKind.wrap .i64 (((n+1:Nat):Int)+1)=((n+1+1:Nat):Int):=by rw [wrap64_id (by omega) (by omega)]; rfl
   rw [hw,hil',List.take_length]
   have hcnt:cnt L (n+1)=L.count (n+1):=by unfold cnt; rw [if_neg (by omega)]
   refine ⟨n+1,by rw [hcnt]; rfl,⟨by omega,fun j hj=>?_,hf3⟩,by omega⟩
   obtain ⟨h1,h2⟩:=hrow3 j hj
   refine ⟨?_,h2⟩
   rw [h1]
   unfold cdAt
   have:(ln L j≠0∧(ln L j < n+1∨ln L j=n+1∧j < i)) ↔ (ln L j≠0∧(ln L j < n+1+1∨ln L j=n+1+1∧j < 0)):=by omega
   simp only [this]
 ·rw [decide_eq_false (by omega)]
  refine ifB_f (WPS.piece [3] rfl (p_spec_Codes_rrrr _ _ _ _ _ ?_))
  refine hk m2 B (by omega) ⟨by simp [cds]; omega,Nat.le_refl _,fun _=>rfl,fun i v hv=>?_⟩ hf2
  have hi:i < L.length:=by have:=(List.getElem?_eq_some_iff.1 hv).1; simpa [cds] using this
  have h1:=(hrow i hi).1
  rw [Nat.zero_add,h1]
  have hv':v=if ln L i=0 then 0 else cd L i:=by
   unfold cds at hv
   rw [List.getElem?_map,List.getElem?_range hi] at hv
   simpa using hv.symm
  subst hv'
  unfold cdAt
  have h2:=ln_15 h15 i
  by_cases h0:ln L i=0
  ·rw [if_neg (by omega),if_pos h0]
  ·rw [if_pos ⟨h0,by omega⟩,if_neg h0]
end Go.M

namespace Go.M
open Go
set_option maxRecDepth 100000
theorem Length_spec {k:Nat} (hk:257≤k) (hk2:k < 100000) {m:Mem} {R:Value→Mem→Prop} (h:R (.tuple #[.int .i64 ((lenS k).1:Int),.int .i64 ((lenS k).2:Int)]) m):CallM PP f_spec_Length #[.int .i64 (k:Int)] m R:=by
 refine e_spec_Length k m R ?_
 by_cases h1:k=285
 ·subst h1; exact ifB_t h
 have e1:((k:Int) == 285)=false:=by rw [beq_eq_false_iff_ne]; omega
 rw [e1,decide_eq_true (show (k:Int) ≥ 257 by omega)]
 refine ifB_f (ifB_t ?_)
 by_cases h2:k≤264
 ·rw [decide_eq_true (by omega)]
  have:lenS k=(k - 254,0):=by unfold lenS; rw [if_neg h1,if_pos ⟨hk,h2⟩]
  rw [this] at h
  refine ifB_t ?_
  rw [show IntKind.wrap .i64 ((k:Int) - 254)=((k - 254:Nat):Int) by rw [wrap64_id (by omega) (by omega)]; omega]
  exact h
 rw [decide_eq_false (by omega),decide_eq_true (show (k:Int) ≥ 265 by omega)]
 refine ifB_f (ifB_t ?_)
 by_cases h3:k≤284
 ·rw [decide_eq_true (by omega)]
  have key:∀ j:Fin 20,(0≤IntKind.wrap .i64 (Int.tdiv (IntKind.wrap .i64 (((265+j.val:Nat):Int) - 261)) 4))∧
    IntKind.wrap .i64 (3+(shlOp .i64 (IntKind.wrap .i64 (4+(Int.tmod (IntKind.wrap .i64 (((265+j.val:Nat):Int) - 261)) 4))) (IntKind.wrap .i64 (Int.tdiv (IntKind.wrap .i64 (((265+j.val:Nat):Int) - 261)) 4))))=((lenS (265+j.val)).1:Int)∧
    IntKind.wrap .i64 (Int.tdiv (IntKind.wrap .i64 (((265+j.val:Nat):Int) - 261)) 4)=((lenS (265+j.val)).2:Int):=by decide+kernel
  obtain ⟨g1,g2,g3⟩:=key ⟨k - 265,by omega⟩
  simp only [show 265+(k - 265)=k by omega] at g1 g2 g3
  refine ifB_t ⟨rfl,by decide,rfl,by decide,g1,?_⟩
  rw [g2,g3]; exact h
 ·rw [decide_eq_false (by omega)]
  rw [lenS_none (by omega)] at h
  exact ifB_f h
theorem Distance_spec {k:Nat} (hk2:k < 100000) {m:Mem} {R:Value→Mem→Prop} (h:R (.tuple #[.int .i64 ((dstS k).1:Int),.int .i64 ((dstS k).2:Int)]) m):CallM PP f_spec_Distance #[.int .i64 (k:Int)] m R:=by
 refine e_spec_Distance k m R ?_
 rw [decide_eq_true (show (k:Int) ≥ 0 by omega)]
 refine ifB_t ?_
 by_cases h2:k≤3
 ·rw [decide_eq_true (by omega)]
  have:dstS k=(k+1,0):=by unfold dstS; rw [if_pos (by omega)]
  rw [this] at h
  refine ifB_t ?_
  rw [show IntKind.wrap .i64 ((k:Int)+1)=((k+1:Nat):Int) by rw [wrap64_id (by omega) (by omega)]; omega]
  exact h
 rw [decide_eq_false (by omega),decide_eq_true (show (k:Int) ≥ 4 by omega)]
 refine ifB_f (ifB_t ?_)
 by_cases h3:k≤29
 ·rw [decide_eq_true (by omega)]
  have key:∀ j:Fin 26,(0≤IntKind.wrap .i64 ((IntKind.wrap .i64 (Int.tdiv ((4+j.val:Nat):Int) 2)) - 1))∧
    IntKind.wrap .i64 (1+(shlOp .i64 (IntKind.wrap .i64 (2+(Int.tmod ((4+j.val:Nat):Int) 2))) (IntKind.wrap .i64 ((IntKind.wrap .i64 (Int.tdiv ((4+j.val:Nat):Int) 2)) - 1))))=((dstS (4+j.val)).1:Int)∧
    IntKind.wrap .i64 ((IntKind.wrap .i64 (Int.tdiv ((4+j.val:Nat):Int) 2)) - 1)=((dstS (4+j.val)).2:Int):=by decide+kernel
  obtain ⟨g1,g2,g3⟩:=key ⟨k - 4,by omega⟩
  simp only [show 4+(k - 4)=k by omega] at g1 g2 g3
  refine ifB_t ⟨rfl,by decide,rfl,by decide,g1,?_⟩
  rw [g2,g3]; exact h
 ·rw [decide_eq_false (by omega)]
  have:dstS k=(0,0):=by unfold dstS; rw [if_neg (by omega),if_neg (by omega)]
  rw [this] at h
  exact ifB_f h
end Go.M

namespace Go.M
open Go
set_option maxRecDepth 100000
def fixV (i:Nat):Nat:=if 144≤i∧i≤255 then 9 else if 256≤i∧i≤279 then 7 else 8
theorem p_fixed_next (a1:Option Addr) (l2:Nat) (k3:Nat) (a4:Option Addr) (l5:Nat) (k6:Nat) (x5 x7:Int) (m:Mem) (K:Kont)
  (h:K.kn [(2,.slice a1 l2 k3),(3,.slice a4 l5 k6),(5,.int .i64 x5),(6,.int .i64 (IntKind.wrap .i64 (x7+1)))] m):
  wpc PP FF 36 L_spec_fixed c_spec_fixed_rrlrllrrr K [(2,.slice a1 l2 k3),(3,.slice a4 l5 k6),(5,.int .i64 x5),(6,.int .i64 x7)] m:=Eq.mpr (by kernel_rfl) h
theorem fixed_spec {m:Mem} {R:Value→Mem→Prop} (hk:∀ m' a l k b o a2 l2 k2 b2 o2,OutI m' a l k b o ((List.range 288).map fixV)→OutI m' a2 l2 k2 b2 o2 (List.replicate 32 5)→(0 < k→m.size≤b)→(0 < k2→m.size≤b2)→(∀ S,Fr S m m')→R (.tuple #[.slice a l k,.slice a2 l2 k2]) m'):
  CallM PP f_spec_fixed #[] m R:=by
 refine e_spec_fixed m R ?_
 rw [q_spec_fixed_rrlrl]
 refine loopW ffOk mixedOk (L₀:=L_spec_fixed) (σ:=Nat×Option Addr×Nat×Nat×Nat) [2,3,6] (fun s=>[(2,.slice s.2.1 s.1 s.2.2.1),(3,.slice none 0 0),(6,.int .i64 (s.1:Nat))])
  (fun s m'=>s.1≤288∧OutI m' s.2.1 s.1 s.2.2.1 s.2.2.2.1 s.2.2.2.2 ((List.range s.1).map fixV)∧(0 < s.2.2.1→m.size≤s.2.2.2.1)∧∀ S,Fr S m m') (fun s=>288 - s.1) (0,none,0,0,0) rfl ⟨by decide,OutI.nil _ _,by simp,fun S=>Fr.refl _ _⟩ ?_
 rintro ⟨i,a,k,b,o⟩ m1 ⟨hi,hO,hb,hF⟩
 simp only at hi hO hb hF
 refine p_spec_fixed_rrlrll a i k none 0 0 i m1 _ ?_
 by_cases hin:i < 288
 ·rw [decide_eq_true (by omega)]
  have hw:IntKind.wrap .i64 ((i:Int)+1)=((i+1:Nat):Int):=by rw [wrap64_id (by omega) (by omega)]; rfl
  refine ifB_t ?_
  have step:∀ v:Nat,v=fixV i→∀ K:Kont,(∀ r m',(∃ s':Nat×Option Addr×Nat×Nat×Nat,Env.keep [2,3,6] r=[(2,.slice s'.2.1 s'.1 s'.2.2.1),(3,.slice none 0 0),(6,.int .i64 (s'.1:Nat))]∧(s'.1≤288∧OutI m' s'.2.1 s'.1 s'.2.2.1 s'.2.2.2.1 s'.2.2.2.2 ((List.range s'.1).map fixV)∧(0 < s'.2.2.1→m.size≤s'.2.2.2.1)∧∀ S,Fr S m m')∧288 - s'.1 < 288 - i)→K.kn r m')→
    WPS PP 36 c_spec_fixed_rrlrllrrllrrr ((K.withN fun r m=>wpc PP FF 36 L_spec_fixed c_spec_fixed_rrlrllrrr K r m).withX 1) [(2,.slice a i k),(3,.slice none 0 0),(4,.int .i64 (i:Int)),(5,.int .i64 (v:Int)),(6,.int .i64 (i:Int))] m1:=by
   intro v hv K hK
   refine WPS.piece [2,3,5,6] rfl (p_spec_fixed_rrlrllrrllrrr a i k none 0 0 v i m1 _ (pushI_W hO v (by omega) fun m2 a' k' b' o' hO2 hk' hb2 hf2=>?_))
   refine p_fixed_next _ _ _ _ _ _ _ _ _ _ ?_
   rw [hw]
   refine hK _ _ ⟨(i+1,a',k',b',o'),rfl,⟨by simp only; omega,?_,?_,fun S=>?_⟩,by simp only; omega⟩
   ·simp only
    rw [List.range_succ,List.map_append,List.map_singleton, ← hv]; exact hO2
   ·intro _
    rcases hb2 with ⟨rfl,rfl⟩ | h
    ·exact hb hk'
    ·have:=(hF fun _ _=>False).size; simp only; omega
   ·refine Fr.old ((hF _).trans hf2) ?_
    rintro x j hx ⟨rfl,h0⟩
    have:=hb h0; omega
  by_cases h1:144≤i
  ·rw [decide_eq_true (show (i:Int) ≥ 144 by omega)]
   refine ifB_t ?_
   by_cases h2:i≤255
   ·rw [decide_eq_true (show (i:Int)≤255 by omega)]
    exact ifB_t (step 9 (by unfold fixV; rw [if_pos ⟨h1,h2⟩]) _ fun r m' h=>h)
   ·rw [decide_eq_false (show ¬ (i:Int)≤255 by omega),decide_eq_true (show (i:Int) ≥ 256 by omega)]
    refine ifB_f (ifB_t ?_)
    by_cases h3:i≤279
    ·rw [decide_eq_true (show (i:Int)≤279 by omega)]
     exact ifB_t (step 7 (by unfold fixV; rw [if_neg (by omega),if_pos (by omega)]) _ fun r m' h=>h)
    ·rw [decide_eq_false (show ¬ (i:Int)≤279 by omega)]
     exact ifB_f (step 8 (by unfold fixV; rw [if_neg (by omega),if_neg (by omega)]) _ fun r m' h=>h)
  ·rw [decide_eq_false (show ¬ (i:Int) ≥ 144 by omega),decide_eq_false (show ¬ (i:Int) ≥ 256 by omega)]
   exact ifB_f (ifB_f (step 8 (by unfold fixV; rw [if_neg (by omega),if_neg (by omega)]) _ fun r m' h=>h))
 ·rw [decide_eq_false (by omega)]
  have hi':i=288:=by omega
  subst hi'
  refine ifB_f ?_
  refine WPS.piece [2,3] rfl (p_spec_fixed_rrr a 288 k none 0 0 m1 _ ?_)
  rw [q_spec_fixed_rrrlrl]
  refine loopW ffOk mixedOk (L₀:=L_spec_fixed) (σ:=Nat×Option Addr×Nat×Nat×Nat) [2,3,28] (fun s=>[(2,.slice a 288 k),(3,.slice s.2.1 s.1 s.2.2.1),(28,.int .i64 (s.1:Nat))])
   (fun s m'=>s.1≤32∧OutI m' a 288 k b o ((List.range 288).map fixV)∧OutI m' s.2.1 s.1 s.2.2.1 s.2.2.2.1 s.2.2.2.2 (List.replicate s.1 5)∧(0 < s.2.2.1→m1.size≤s.2.2.2.1)∧∀ S,Fr S m1 m') (fun s=>32 - s.1) (0,none,0,0,0) rfl ⟨by decide,hO,OutI.nil _ _,by simp,fun S=>Fr.refl _ _⟩ ?_
  rintro ⟨j,a2,k2,b2,o2⟩ m2 ⟨hj,hO1,hO2,hb2,hF2⟩
  simp only at hj hO2 hb2
  refine p_spec_fixed_rrrlrll a 288 k a2 j k2 j m2 _ ?_
  have hbm:0 < k→b < m1.size:=fun h0=>by
   obtain ⟨⟨v,hv⟩,_⟩:=hO.own.wr 0 (by omega)
   have:=cell_block hv; simpa using this
  by_cases hjn:j < 32
  ·rw [decide_eq_true (by omega)]
   have hw:IntKind.wrap .i64 ((j:Int)+1)=((j+1:Nat):Int):=by rw [wrap64_id (by omega) (by omega)]; rfl
   rw [hw]
   refine ifB_t (pushI_W hO2 5 (by omega) fun m3 a' k' b' o' hO3 hk' hb3 hf3=>?_)
   refine ⟨(j+1,a',k',b',o'),rfl,⟨by simp only; omega,hO1.fr hf3 ?_,?_,?_,fun S=>?_⟩,by simp only; omega⟩
   ·rintro h0 x ⟨e,h1⟩
    have:=hbm h0; have:=hb2 h1; omega
   ·simp only
    rw [List.replicate_succ']; exact hO3
   ·intro _
    rcases hb3 with ⟨rfl,rfl⟩ | h
    ·exact hb2 hk'
    ·have:=(hF2 fun _ _=>False).size; simp only; omega
   ·refine Fr.old ((hF2 _).trans hf3) ?_
    rintro x y hx ⟨rfl,h0⟩
    have:=hb2 h0; omega
  ·rw [decide_eq_false (by omega)]
   have hj':j=32:=by omega
   subst hj'
   refine ifB_f ?_
   refine WPS.piece [2,3] rfl (p_spec_fixed_rrrr a 288 k a2 32 k2 m2 _ ?_)
   exact hk m2 a 288 k b o a2 32 k2 b2 o2 hO1 hO2 hb (fun h0=>by have:=hb2 h0; have:=(hF fun _ _=>False).size; omega) fun S=>(hF S).trans (hF2 S)
end Go.M
