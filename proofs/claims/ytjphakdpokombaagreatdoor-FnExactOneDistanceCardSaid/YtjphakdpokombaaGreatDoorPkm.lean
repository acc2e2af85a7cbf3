/- huffmanDecoder.init: how many codes of each length, and the first code of each length. huffmanDecoder.init: the second tables are made. huffmanDecoder.init: the tables are filled. huffmanDecoder.init: symbol by symbol. huffmanDecoder.init: what it makes of the lengths of codes. -/
import Derived.Test.YtjphakdpokombaaGreatDoorPkj
import Derived.Test.YtjphakdpokombaaGreatDoorPkk
namespace Go.M
open Go
set_option maxRecDepth 100000
def LenAt (m:Mem) (lb lo:Nat) (L:List Nat):Prop:=∀ i v,L[i]?=some v→cell? m ⟨lb,lo+i,none⟩=some (.int .i64 ((v:Nat):Int))
theorem LenAt.fr {S:Nat→Nat→Prop} {m m':Mem} {lb lo:Nat} {L:List Nat} (h:LenAt m lb lo L) (hf:Fr S m m') (hs:∀ j, ¬ S lb j):LenAt m' lb lo L:=fun i v hv=>hf.cell (h i v hv) (hs _)
def NumAt (m:Mem) (c:Nat) (f:Nat→Nat) (lo hi:Nat):Prop:=∀ j,lo≤j→j < hi→cell? m ⟨c,j,none⟩=some (.int .i64 ((f j:Nat):Int))
theorem mm_take {L:List Nat} {t:Nat} (h:t < L.length):mm (L.take (t+1))=mmStep (mm (L.take t)) L[t]:=by
 unfold mm
 rw [List.take_add_one,List.getElem?_eq_getElem h,List.foldl_append]
 rfl
theorem cnt_take {L:List Nat} {t:Nat} (h:t < L.length) (j:Nat):cnt (L.take (t+1)) j=cnt (L.take t) j+if j≠0∧L[t]=j then 1 else 0:=by
 unfold cnt
 by_cases h0:j=0
 ·simp [h0]
 ·rw [if_neg h0,if_neg h0,List.take_add_one,List.getElem?_eq_getElem h]
  simp only [Option.toList_some,List.count_append,List.count_cons,List.count_nil,Nat.zero_add]
  by_cases h1:L[t]=j
  ·simp [h1,h0]
  ·simp [h1]
theorem krn_le (n:Nat):∀ L:List Nat,krn n L≤L.length * 16384
 | []=>by simp [krn]
 | l::L=>by
  have ih:=krn_le n L
  rw [krn,List.length_cons,Nat.add_mul,Nat.one_mul]
  have h:(if l≠0∧l≤n then 2 ^ (15 - l) else 0)≤16384:=by
   split
   ·calc 2 ^ (15 - l)≤2 ^ 14:=Nat.pow_le_pow_right (by decide) (by omega)
     _=16384:=by decide
   ·omega
  omega
theorem nx_small {L:List Nat} (hlen:L.length≤400) {n:Nat} (h:n≤15):nx L n+cnt L n≤6553600:=by
 have h1:=nx_krn L n h
 have h2:=krn_le n L
 have h3:1≤2 ^ (15 - n):=Nat.pow_pos (by decide)
 have h4:(nx L n+cnt L n) * 1≤(nx L n+cnt L n) * 2 ^ (15 - n):=Nat.mul_le_mul_left _ h3
 omega
def cntEnv (b o lb lo n k c:Nat) (mn mx t:Nat):Env:=
 [(0,.pointer (some ⟨b,o,none⟩)),(1,.slice (some ⟨lb,lo,none⟩) n k),(5,.pointer (some ⟨c,0,none⟩)),(6,.int .i64 (mn:Int)),(7,.int .i64 (mx:Int)),(42,.slice (some ⟨lb,lo,none⟩) n k),(43,.int .i64 (n:Int)),(44,.int .i64 (t:Int))]
theorem cnt_fin {b o lb lo n k c t v mn' mx':Nat} {f g:Nat→Nat} {m:Mem} {K:Kont} (hv:v < 16) (ht:t < n) (hn:n≤400) (hc:NumAt m c f 0 16) (hf:f v≤400) (hw:Wr m ⟨c,v,none⟩) (hg:∀ j,g j=f j+if v=j then 1 else 0)
  (hk:∀ m',NumAt m' c g 0 16→Fr (fun i _=>i=c) m m'→K.kn (cntEnv b o lb lo n k c mn' mx' (t+1)) m') {r:Env}
  (hr:Env.keep [0,1,5,6,7,9,42,43,44] r=[(0,.pointer (some ⟨b,o,none⟩)),(1,.slice (some ⟨lb,lo,none⟩) n k),(5,.pointer (some ⟨c,0,none⟩)),(6,.int .i64 (mn':Int)),(7,.int .i64 (mx':Int)),(9,.int .i64 (v:Int)),(42,.slice (some ⟨lb,lo,none⟩) n k),(43,.int .i64 (n:Int)),(44,.int .i64 (t:Int))]):
  WPS PP 317 c_huffmanDecoder_init_rrrrlrllrrllrrrr ((K.withN fun r m=>WPS PP 317 c_huffmanDecoder_init_rrrrlrllrrr K r m).withX 1) r m:=by
 refine WPS.piece k_huffmanDecoder_init_rrrrlrllrrllrrrr hr (p_huffmanDecoder_init_rrrrlrllrrllrrrr b o _ _ _ c _ _ _ _ _ _ _ _ m _ ⟨⟨by omega,by omega⟩,(f v:Nat),?_,⟨by omega,by omega⟩,?_⟩)
 ·have:=hc v (by omega) (by omega)
  simpa using this
 ·rw [wrap64_id (by omega) (by omega)]
  refine StW.at rfl (by simpa using hw) fun m2 c2 f2 _=>?_
  refine WPS.piece k_huffmanDecoder_init_rrrrlrllrrr rfl (p_huffmanDecoder_init_rrrrlrllrrr b o _ _ _ c _ _ _ _ _ _ _ m2 _ ?_)
  rw [wrap64_id (by omega) (by omega)]
  refine hk m2 (fun j g1 g2=>?_) (f2.mono fun i j h=>h.1)
  rw [hg]
  by_cases hj:v=j
  ·rw [if_pos hj, ← hj]
   simpa using c2
  ·rw [if_neg hj]
   exact f2.cell (hc j g1 g2) (by rintro ⟨_,e⟩; simp at e; omega)
theorem init_count {b o lb lo n k c:Nat} {L:List Nat} (hL:∀ v ∈ L,v≤15) (hn:L.length=n) (hlen:n≤400) {m:Mem} {K:Kont} (hA:LenAt m lb lo L) (hne:lb≠c) (hc:NumAt m c (fun _=>0) 0 16) (hw:∀ j,j < 16→Wr m ⟨c,j,none⟩)
  (hk:∀ m',NumAt m' c (cnt L) 0 16→Fr (fun i _=>i=c) m m'→K.kx 0 (cntEnv b o lb lo n k c (mnOf L) (mxOf L) n) m') {r:Env} (hr:Env.keep [0,1,5,6,7,42,43,44] r=cntEnv b o lb lo n k c 0 0 0):
  WPS PP 317 c_huffmanDecoder_init_rrrrlrl K r m:=by
 rw [q_huffmanDecoder_init_rrrrlrl]
 refine loopW ffOk mixedOk (L₀:=L_huffmanDecoder_init) [0,1,5,6,7,42,43,44] (fun t:Nat=>cntEnv b o lb lo n k c (mm (L.take t)).1 (mm (L.take t)).2 t)
  (fun t m'=>t≤n∧NumAt m' c (cnt (L.take t)) 0 16∧Fr (fun i _=>i=c) m m') (fun t=>n - t) 0 hr ⟨Nat.zero_le _,fun j h1 h2=>by have:=hc j h1 h2; simpa [cnt] using this,Fr.refl _ _⟩ ?_
 rintro t m1 ⟨h1,h2,h3⟩
 refine p_huffmanDecoder_init_rrrrlrll b o (some ⟨lb,lo,none⟩) n k c _ _ (some ⟨lb,lo,none⟩) n k n t m1 _ (ifB_of (fun ht=>?_) (fun ht=>?_))
 ·have hlt:t < L.length:=by have:=of_decide_eq_true ht; omega
  have hv:L[t]≤15:=hL _ (List.getElem_mem hlt)
  refine ⟨⟨by omega,by omega⟩,(L[t]:Nat),?_,?_⟩
  ·have:=(hA.fr h3 (by simpa using hne)) t L[t] (List.getElem?_eq_getElem hlt)
   simpa [aplus] using this
  have hmm:=mm_take hlt
  have hcnt:=fun j=>cnt_take hlt j
  refine ifB_of (fun hz=>?_) (fun hz=>?_)
  ·have h0:L[t]=0:=by have:=eq_of_beq hz; omega
   refine WPS.piece k_huffmanDecoder_init_rrrrlrllrrr rfl (p_huffmanDecoder_init_rrrrlrllrrr b o _ _ _ c _ _ _ _ _ _ _ m1 _ ?_)
   rw [wrap64_id (by omega) (by omega)]
   refine ⟨t+1,?_,⟨by omega,fun j g1 g2=>?_,h3⟩,by omega⟩
   ·rw [hmm,h0]; rfl
   ·rw [hcnt,h0,if_neg (by omega)]; exact h2 j g1 g2
  ·have h0:L[t]≠0:=by intro h; rw [h] at hz; simp at hz
   have hcs:cnt (L.take t) L[t]≤400:=by
    unfold cnt
    split
    ·omega
    ·have:=List.count_le_length (l:=L.take t) (a:=L[t])
     have:=List.length_take_le t L
     omega
   have hg:∀ j,cnt (L.take (t+1)) j=cnt (L.take t) j+if L[t]=j then 1 else 0:=by
    intro j
    rw [hcnt]
    by_cases hj:L[t]=j
    ·rw [if_pos ⟨by omega,hj⟩,if_pos hj]
    ·rw [if_neg (fun h=>hj h.2),if_neg hj]
   have hwt:Wr m1 ⟨c,L[t],none⟩:=(hw _ (by omega)).fr h3
   have big:∀ (mx':Nat),mx'=(mmStep (mm (L.take t)) L[t]).2 ↔ mx'=if (mm (L.take t)).2 < L[t] then L[t] else (mm (L.take t)).2:=by intro mx'; unfold mmStep; rw [if_neg h0]
   have small:∀ (mn':Nat),mn'=(mmStep (mm (L.take t)) L[t]).1 ↔ mn'=if (mm (L.take t)).1=0∨L[t] < (mm (L.take t)).1 then L[t] else (mm (L.take t)).1:=by intro mn'; unfold mmStep; rw [if_neg h0]
   have goal:∀ m2 mn' mx',mn'=(mmStep (mm (L.take t)) L[t]).1→mx'=(mmStep (mm (L.take t)) L[t]).2→NumAt m2 c (cnt (L.take (t+1))) 0 16→Fr (fun i _=>i=c) m1 m2→∃ s':Nat,Env.keep [0,1,5,6,7,42,43,44] (cntEnv b o lb lo n k c mn' mx' (t+1))=cntEnv b o lb lo n k c (mm (L.take s')).1 (mm (L.take s')).2 s'∧
     (s'≤n∧NumAt m2 c (cnt (L.take s')) 0 16∧Fr (fun i _=>i=c) m m2)∧n - s' < n - t:=by
    intro m2 mn' mx' e1 e2 g1 g2
    exact ⟨t+1,by rw [hmm, ← e1, ← e2]; rfl,⟨by omega,g1,h3.trans g2⟩,by omega⟩
   refine ifB_of (fun hq=>?_) (fun hq=>?_)
   ·have hgt:=eq_of_beq hq
    have e1:=(small L[t]).2 (by rw [if_pos (.inl (by omega))])
    refine WPS.piece k_huffmanDecoder_init_rrrrlrllrrllrrr rfl (p_huffmanDecoder_init_rrrrlrllrrllrrr b o _ _ _ c _ _ _ _ _ _ _ _ m1 _ (ifB_of (fun hg'=>?_) (fun hg'=>?_)))
    ·have hgt:=of_decide_eq_true hg'
     exact cnt_fin (by omega) (by omega) hlen h2 hcs hwt hg (fun m2 g1 g2=>goal m2 _ _ e1 ((big L[t]).2 (by rw [if_pos (by omega)])) g1 g2) rfl
    ·have hgt:=of_decide_eq_false hg'
     exact cnt_fin (by omega) (by omega) hlen h2 hcs hwt hg (fun m2 g1 g2=>goal m2 _ _ e1 ((big (mm (L.take t)).2).2 (by rw [if_neg (by omega)])) g1 g2) rfl
   ·have hne0:(mm (L.take t)).1≠0:=by intro h; rw [h] at hq; simp at hq
    refine ifB_of (fun hl=>?_) (fun hl=>?_)
    ·have hl':=of_decide_eq_true hl
     have e1:=(small L[t]).2 (by rw [if_pos (.inr (by omega))])
     refine WPS.piece k_huffmanDecoder_init_rrrrlrllrrllrrr rfl (p_huffmanDecoder_init_rrrrlrllrrllrrr b o _ _ _ c _ _ _ _ _ _ _ _ m1 _ (ifB_of (fun hg'=>?_) (fun hg'=>?_)))
     ·have hgt:=of_decide_eq_true hg'
      exact cnt_fin (by omega) (by omega) hlen h2 hcs hwt hg (fun m2 g1 g2=>goal m2 _ _ e1 ((big L[t]).2 (by rw [if_pos (by omega)])) g1 g2) rfl
     ·have hgt:=of_decide_eq_false hg'
      exact cnt_fin (by omega) (by omega) hlen h2 hcs hwt hg (fun m2 g1 g2=>goal m2 _ _ e1 ((big (mm (L.take t)).2).2 (by rw [if_neg (by omega)])) g1 g2) rfl
    ·have hl':=of_decide_eq_false hl
     have e1:=(small (mm (L.take t)).1).2 (by rw [if_neg (by omega)])
     refine WPS.piece k_huffmanDecoder_init_rrrrlrllrrllrrr rfl (p_huffmanDecoder_init_rrrrlrllrrllrrr b o _ _ _ c _ _ _ _ _ _ _ _ m1 _ (ifB_of (fun hg'=>?_) (fun hg'=>?_)))
     ·have hgt:=of_decide_eq_true hg'
      exact cnt_fin (by omega) (by omega) hlen h2 hcs hwt hg (fun m2 g1 g2=>goal m2 _ _ e1 ((big L[t]).2 (by rw [if_pos (by omega)])) g1 g2) rfl
     ·have hgt:=of_decide_eq_false hg'
      exact cnt_fin (by omega) (by omega) hlen h2 hcs hwt hg (fun m2 g1 g2=>goal m2 _ _ e1 ((big (mm (L.take t)).2).2 (by rw [if_neg (by omega)])) g1 g2) rfl
 ·have hge:t=n:=by have:=of_decide_eq_false ht; omega
  subst hge
  have e:L.take t=L:=by rw [← hn]; exact List.take_length
  rw [e] at h2 ⊢
  exact hk m1 h2 h3
def nxEnv (b o lb lo n k c d:Nat) (mn mx code i:Nat):Env:=
 [(0,.pointer (some ⟨b,o,none⟩)),(1,.slice (some ⟨lb,lo,none⟩) n k),(5,.pointer (some ⟨c,0,none⟩)),(6,.int .i64 (mn:Int)),(7,.int .i64 (mx:Int)),(10,.int .i64 (code:Int)),(11,.pointer (some ⟨d,0,none⟩)),(12,.int .i64 (i:Int))]
theorem init_next {b o lb lo n k c d:Nat} {L:List Nat} (hL:∀ v ∈ L,v≤15) (hlen:L.length≤400) (hmx:mxOf L≠0) {m:Mem} {K:Kont} (hc:NumAt m c (cnt L) 0 16) (hcd:c≠d) (hz:NumAt m d (fun _=>0) 0 16) (hw:∀ j,j < 16→Wr m ⟨d,j,none⟩)
  (hk:∀ m',NumAt m' d (nx L) 0 (mxOf L+1)→Fr (fun i _=>i=d) m m'→K.kx 2 (nxEnv b o lb lo n k c d (mnOf L) (mxOf L) (nx L (mxOf L)+cnt L (mxOf L)) (mxOf L+1)) m') {r:Env}
  (hr:Env.keep [0,1,5,6,7,10,11,12] r=nxEnv b o lb lo n k c d (mnOf L) (mxOf L) 0 (mnOf L)):WPS PP 317 c_huffmanDecoder_init_rrrrrrrrlrl K r m:=by
 rw [q_huffmanDecoder_init_rrrrrrrrlrl]
 have hm:=mm_spec L
 have h15:=mx_15 hL
 have hmn:1≤mnOf L:=by
  rcases Nat.eq_zero_or_pos (mnOf L) with h | h
  ·exact absurd (hm.1.1 h) hmx
  ·exact h
 have e0:nx L (mnOf L - 1)+cnt L (mnOf L - 1)=0:=by rw [nx_zero_of (by omega),cnt_zero_of (.inl (by omega))]
 refine loopW ffOk mixedOk (L₀:=L_huffmanDecoder_init) [0,1,5,6,7,10,11,12] (fun i:Nat=>nxEnv b o lb lo n k c d (mnOf L) (mxOf L) (nx L (i - 1)+cnt L (i - 1)) i)
  (fun i m'=>mnOf L≤i∧i≤mxOf L+1∧NumAt m' d (nx L) 0 i∧Fr (fun i _=>i=d) m m') (fun i=>mxOf L+1 - i) (mnOf L) (by rw [hr,e0]) ⟨Nat.le_refl _,by omega,fun j h1 h2=>by rw [nx_zero_of (by omega)]; exact hz j h1 (by omega),Fr.refl _ _⟩ ?_
 rintro i m1 ⟨h1,h2,h3,h4⟩
 have hsm:=nx_small hlen (n:=i - 1) (by omega)
 refine p_huffmanDecoder_init_rrrrrrrrlrll b o (some ⟨lb,lo,none⟩) n k c _ _ _ d i m1 _ (ifB_of (fun ht=>?_) (fun ht=>?_))
 ·have hlt:i≤mxOf L:=by have:=of_decide_eq_true ht; omega
  have e1:shlOp .i64 ((nx L (i - 1)+cnt L (i - 1):Nat):Int) 1=((nx L i:Nat):Int):=by
   have:=shl_nat (k:=.i64) (a:=nx L (i - 1)+cnt L (i - 1)) (s:=1) (by decide)
   have h5:nx L i=2 * (nx L (i - 1)+cnt L (i - 1)):=by
    obtain ⟨j,rfl⟩:=Nat.exists_eq_add_of_le (show 1≤i by omega)
    rw [Nat.add_comm 1 j,Nat.add_sub_cancel,nx]
   rw [wrap64_id (by omega) (by omega)] at this
   rw [h5,Nat.mul_comm]
   exact this
  have hci:=hc i (by omega) (by omega)
  have hsi:=nx_small hlen (n:=i) (by omega)
  simp only [e1]
  refine ⟨by decide,⟨by omega,by omega⟩,StW.at rfl (by have:=(hw i (by omega)).fr h4; simpa using this) fun m2 c2 f2 _=>⟨⟨by omega,by omega⟩,((cnt L i:Nat):Int),?_,?_⟩⟩
  ·have:=f2.cell (h4.cell hci hcd) (by rintro ⟨e,_⟩; exact hcd e)
   simpa using this
  ·rw [wrap64_id (by omega) (by omega),wrap64_id (by omega) (by omega)]
   refine ⟨i+1,?_,⟨by omega,by omega,fun j g1 g2=>?_,h4.trans (f2.mono fun x y h=>h.1)⟩,by omega⟩
   ·rw [Nat.add_sub_cancel]; rfl
   ·by_cases hj:j=i
    ·subst hj; simpa using c2
    ·exact f2.cell (h3 j g1 (by omega)) (by rintro ⟨_,e⟩; simp at e; omega)
 ·have hge:i=mxOf L+1:=by have:=of_decide_eq_false ht; omega
  subst hge
  rw [Nat.add_sub_cancel]
  exact hk m1 h3 h4
end Go.M

namespace Go.M
open Go
set_option maxRecDepth 100000
theorem rv8_eq {x:Nat} (h:x < 256):rv8 x=rv 8 x:=by
 have h0:∀ j:Fin 256,rv8 j.val=rv 8 j.val:=by decide+kernel
 exact h0 ⟨x,h⟩
theorem rv16_eq {x:Nat} (h:x < 65536):rv16 x=rv 16 x:=by
 unfold rv16
 rw [rv_add 8 8 x,rv8_eq (by omega),rv8_eq (by omega),show (256:Nat)=2 ^ 8 from rfl,rv_mod 8 8 x (Nat.le_refl _)]
theorem rv16_top {x n:Nat} (h:x < 65536) (hn:n≤16):rv16 x / 2 ^ (16 - n)=rv n x:=by
 rw [rv16_eq h]
 have h2:=rv_add n (16 - n) x
 rw [show n+(16 - n)=16 from by omega] at h2
 rw [h2,Nat.add_comm,Nat.add_mul_div_right _ _ (Nat.pow_pos (by decide)),Nat.div_eq_of_lt (rv_lt _ _),Nat.zero_add]
theorem rv16_lt (x:Nat) (h:x < 65536):rv16 x < 65536:=by rw [rv16_eq h]; exact rv_lt 16 x
theorem u_s_uint32:PP.underlying t_s_uint32=some (.slice t_uint32):=by kernel_rfl
theorem one_uint32:∃ i,One PP t_uint32 (.int .u32 0) 4 i:=one_of (by kernel_rfl) (by kernel_rfl)
theorem u_s_s_uint32:PP.underlying t_s_s_uint32=some (.slice t_s_uint32):=by kernel_rfl
theorem one_s_uint32:∃ i,One PP t_s_uint32 (.slice none 0 0) 24 i:=one_of (by kernel_rfl) (by kernel_rfl)
structure LinkAt (m:Mem) (b o lk nl ll q:Nat) (F:Nat→Nat→Nat):Prop where
 lks:cell? m ⟨b,o+513,none⟩=some (.slice (some ⟨lk,0,none⟩) ll ll)
 arr:∀ off,off < q→cell? m ⟨lk,off,none⟩=some (.slice (some ⟨lk+1+off,0,none⟩) nl nl)
 tab:∀ off y,off < q→y < nl→cell? m ⟨lk+1+off,y,none⟩=some (.int .u32 ((F off y:Nat):Int))
 warr:∀ off,off < ll→Wr m ⟨lk,off,none⟩
 wtab:∀ off y,off < q→y < nl→Wr m ⟨lk+1+off,y,none⟩
structure ChunkAt (m:Mem) (b o:Nat) (C:Nat→Nat):Prop where
 cell:∀ r,r < 512→cell? m ⟨b,o+1+r,none⟩=some (.int .u32 ((C r:Nat):Int))
 wr:∀ j,j < 515→Wr m ⟨b,o+j,none⟩
theorem ChunkAt.fr {S:Nat→Nat→Prop} {m m':Mem} {b o:Nat} {C:Nat→Nat} (h:ChunkAt m b o C) (hf:Fr S m m') (hs:∀ j,o+1≤j→j≤o+512→ ¬ S b j):ChunkAt m' b o C:=
 ⟨fun r hr=>hf.cell (h.cell r hr) (hs _ (by simp only; omega) (by simp only; omega)),fun j hj=>(h.wr j hj).fr hf⟩
theorem ChunkAt.wr_fr {S:Nat→Nat→Prop} {m m':Mem} {b o:Nat} {C:Nat→Nat} (h:ChunkAt m b o C) (hf:Fr S m m'):∀ j,j < 515→Wr m' ⟨b,o+j,none⟩:=fun j hj=>(h.wr j hj).fr hf
theorem ChunkAt.set {m m':Mem} {b o r v:Nat} {C:Nat→Nat} (h:ChunkAt m b o C) (hr:r < 512) (hc:cell? m' ⟨b,o+1+r,none⟩=some (.int .u32 (v:Int))) (hf:Fr (fun i j=>i=b∧j=o+1+r) m m'):
  ChunkAt m' b o (fun x=>if x=r then v else C x):=by
 refine ⟨fun x hx=>?_,fun j hj=>(h.wr j hj).fr hf⟩
 by_cases he:x=r
 ·subst he; rw [if_pos rfl]; exact hc
 ·rw [if_neg he]; exact hf.cell (h.cell x hx) (by rintro ⟨_,e⟩; simp at e; omega)
theorem LinkAt.fr {S:Nat→Nat→Prop} {m m':Mem} {b o lk nl ll q:Nat} {F:Nat→Nat→Nat} (h:LinkAt m b o lk nl ll q F) (hf:Fr S m m') (h1: ¬ S b (o+513)) (h2:∀ i j,lk≤i→i < lk+1+q→ ¬ S i j):LinkAt m' b o lk nl ll q F:=
 ⟨hf.cell h.lks h1,fun off ho=>hf.cell (h.arr off ho) (h2 _ _ (Nat.le_refl _) (by simp only; omega)),fun off y ho hy=>hf.cell (h.tab off y ho hy) (h2 _ _ (by simp only; omega) (by simp only; omega)),
  fun off ho=>(h.warr off ho).fr hf,fun off y ho hy=>(h.wtab off y ho hy).fr hf⟩
def lnkEnv (b o lb lo n k d:Nat) (code nl link j:Nat):Env:=
 [(0,.pointer (some ⟨b,o,none⟩)),(1,.slice (some ⟨lb,lo,none⟩) n k),(10,.int .i64 (code:Int)),(11,.pointer (some ⟨d,0,none⟩)),(13,.int .i64 (nl:Int)),(14,.int .i64 (link:Int)),(15,.int .u64 (j:Int))]
def lnkC (link j r:Nat):Nat:=if link≤rv 9 r∧rv 9 r < j then (rv 9 r - link) * 16+10 else 0
theorem or10 {a:Nat} (h:a < 512):IntKind.wrap .u32 (bitsOp .or .u64 (shlOp .u64 (a:Int) 4) 10)=((a * 16+10:Nat):Int):=by
 have h1:=shl_nat (k:=.u64) (a:=a) (s:=4) (by decide)
 rw [wrap_u64_id (by omega) (by omega)] at h1
 have h1':shlOp .u64 (a:Int) 4=((a * 2 ^ 4:Nat):Int):=h1
 rw [h1']
 have h2:=or_nat (k:=.u64) rfl (a:=a * 2 ^ 4) (b:=10) (by show _ < 2 ^ 64; omega) (by decide)
 rw [show ((10:Nat):Int)=10 from rfl] at h2
 rw [h2,Nat.or_comm,or_add a (show 10 < 2 ^ 4 by decide),wrap_u32_id (by omega) (by omega)]
 congr 1; omega
theorem kn_XN {K:Kont} {f:Env→Mem→Prop} {i:Nat} {r:Env} {m:Mem} (h:f r m):((K.withN f).withX i).kn r m:=h
theorem lnk_next {b o:Nat} {a:Option Addr} {l k d:Nat} {x4 x6 x7 x8 x9 x10:Int} {m:Mem} {K:Kont}
  (h:K.kn [(0,.pointer (some ⟨b,o,none⟩)),(1,.slice a l k),(10,.int .i64 x4),(11,.pointer (some ⟨d,0,none⟩)),(13,.int .i64 x6),(14,.int .i64 x7),(15,.int .u64 (IntKind.wrap .u64 (x8+1))),(16,.int .i64 x9),(17,.int .u64 x10)] m):
  wpc PP FF 317 L_huffmanDecoder_init c_huffmanDecoder_init_rrrrrrrrrrrlrlrrrrrllrr K [(0,.pointer (some ⟨b,o,none⟩)),(1,.slice a l k),(10,.int .i64 x4),(11,.pointer (some ⟨d,0,none⟩)),(13,.int .i64 x6),(14,.int .i64 x7),(15,.int .u64 x8),(16,.int .i64 x9),(17,.int .u64 x10)] m:=
 Eq.mpr (by kernel_rfl) h
theorem init_links {b o lb lo n k d code nl link lk:Nat} {m:Mem} {K:Kont} (hnl:nl≤64) (hlink:link≤512) (hbig:m.size=lk+1) (hC:ChunkAt m b o (fun _=>0)) (hL:LinkAt m b o lk nl (512 - link) 0 (fun _ _=>0)) (hb:b < lk)
  (hk:∀ m',ChunkAt m' b o (lnkC link 512)→LinkAt m' b o lk nl (512 - link) (512 - link) (fun _ _=>0)→Fr (fun i j=>(i=b∧o+1≤j∧j≤o+512)∨i=lk) m m'→K.kx 4 (lnkEnv b o lb lo n k d code nl link 512) m') {r:Env}
  (hr:Env.keep [0,1,10,11,13,14,15] r=lnkEnv b o lb lo n k d code nl link link):WPS PP 317 c_huffmanDecoder_init_rrrrrrrrrrrlrlrrrrrl K r m:=by
 rw [q_huffmanDecoder_init_rrrrrrrrrrrlrlrrrrrl]
 refine loopW ffOk mixedOk (L₀:=L_huffmanDecoder_init) [0,1,10,11,13,14,15] (fun j:Nat=>lnkEnv b o lb lo n k d code nl link j)
  (fun j m'=>link≤j∧j≤512∧ChunkAt m' b o (lnkC link j)∧LinkAt m' b o lk nl (512 - link) (j - link) (fun _ _=>0)∧m'.size=lk+1+(j - link)∧Fr (fun i j=>(i=b∧o+1≤j∧j≤o+512)∨i=lk) m m') (fun j=>512 - j) link hr
  ⟨Nat.le_refl _,hlink,⟨fun r hr=>?_,hC.wr⟩,by rw [Nat.sub_self]; exact hL,by rw [Nat.sub_self]; exact hbig,Fr.refl _ _⟩ ?_
 ·have:=hC.cell r hr
  unfold lnkC
  rw [if_neg (by omega)]; exact this
 rintro j m1 ⟨h1,h2,h3,h4,h5,h6⟩
 refine p_huffmanDecoder_init_rrrrrrrrrrrlrlrrrrrll b o (some ⟨lb,lo,none⟩) n k code d nl link j m1 _ (ifB_of (fun ht=>?_) (fun ht=>?_))
 ·have hlt:j < 512:=by have:=of_decide_eq_true ht; omega
  rw [wrap_u16_id (by omega) (by omega)]
  refine reverse16_spec (by omega) ⟨_,rfl,by decide,?_⟩
  have hr16:=rv16_lt j (by omega)
  have hrv:rv 9 j < 512:=rv_lt 9 j
  have e1:shrOp .i64 (IntKind.wrap .i64 ((rv16 j:Nat):Int)) 7=((rv 9 j:Nat):Int):=by
   rw [wrap64_id (by omega) (by omega)]
   have:=shr_nat (k:=.i64) (a:=rv16 j) (s:=7) (by decide)
   rw [← rv16_top (n:=9) (by omega) (by decide)]
   exact this
  rw [e1,wrap_u64_id (n:=((link:Nat):Int)) (by omega) (by omega),show ((j:Int) - link)=((j - link:Nat):Int) from by omega,wrap_u64_id (by omega) (by omega)]
  refine WPS.piece k_huffmanDecoder_init_rrrrrrrrrrrlrlrrrrrllrllrrrr rfl (p_huffmanDecoder_init_rrrrrrrrrrrlrlrrrrrllrllrrrr b o _ _ _ _ d _ _ _ _ _ m1 _ ⟨by decide,rfl,⟨by omega,by omega⟩,?_⟩)
  rw [or10 (by omega),Int.toNat_natCast]
  refine StW.at rfl (by have:=h3.wr (1+rv 9 j) (by omega); rwa [← Nat.add_assoc] at this) fun m2 c2 f2 s2=>?_
  have C2:=h3.set hrv c2 f2
  have hbl:∀ i,lk≤i→i≠b:=fun i h=>by omega
  have L2:=h4.fr f2 (by simp; omega) (by rintro i jj g1 g2 ⟨rfl,_⟩; omega)
  refine ⟨_,_,_,L2.lks,?_⟩
  obtain ⟨i32,hi⟩:=one_uint32
  refine make_W u_s_uint32 hi.info hi.zero rfl hi.size rfl rfl (by rw [hi.bytes]; omega) (by omega) fun m3 own3 f3 s3=>?_
  have hs3:m3.size=lk+1+(j - link)+1:=by rw [s3,s2,h5]
  have hsz:m2.size=lk+1+(j - link):=by rw [s2,h5]
  rw [hsz] at own3
  have L3:LinkAt m3 b o lk nl (512 - link) (j - link) (fun _ _=>0):=L2.fr (f3 fun _ _=>False) (by simp) (by intros; exact id)
  have C3:=C2.fr (f3 fun _ _=>False) (by intros; exact id)
  refine ⟨_,_,_,rfl,L3.lks,?_⟩
  rw [hsz]
  refine ⟨⟨by omega,by omega⟩,?_⟩
  refine StW.of rfl (by have:=L3.warr (j - link) (by omega); simpa [aplus] using this) fun m4 c4 f4 s4=>?_
  have c4':cell? m4 ⟨lk,j - link,none⟩=some (.slice (some ⟨lk+1+(j - link),0,none⟩) nl nl):=by simpa [aplus] using c4
  have f4':Fr (fun x y=>x=lk∧y=j - link) m3 m4:=f4.mono fun x y h=>by simpa [aplus] using h
  have L4:LinkAt m4 b o lk nl (512 - link) (j+1 - link) (fun _ _=>0):=by
   refine ⟨f4'.cell L3.lks (by rintro ⟨e,_⟩; simp at e; omega),fun off ho=>?_,fun off y ho hy=>?_,fun off ho=>(L3.warr off ho).fr f4,fun off y ho hy=>?_⟩
   ·by_cases he:off=j - link
    ·rw [he]; exact c4'
    ·exact f4'.cell (L3.arr off (by omega)) (by rintro ⟨_,e⟩; simp at e; omega)
   ·by_cases he:off=j - link
    ·rw [he]
     refine f4'.cell ?_ (by rintro ⟨e,_⟩; simp at e; omega)
     have:=own3.row y (.int .u32 0) (by rw [List.getElem?_replicate,if_pos hy])
     simpa using this
    ·exact f4'.cell (L3.tab off y (by omega) hy) (by rintro ⟨e,_⟩; simp at e; omega)
   ·by_cases he:off=j - link
    ·rw [he]
     have:=own3.wr y (by omega)
     rw [Nat.zero_add] at this
     exact this.fr f4
    ·exact (L3.wtab off y (by omega) hy).fr f4
  have C4:=C3.fr f4' (by rintro y g1 g2 ⟨e,_⟩; omega)
  refine ⟨L4.lks,?_⟩
  refine kn_XN ?_
  refine lnk_next ?_
  rw [show ((j:Int)+1)=((j+1:Nat):Int) from by omega,wrap_u64_id (by omega) (by omega)]
  refine ⟨j+1,rfl,⟨by omega,by omega,⟨fun r hr=>?_,C4.wr⟩,L4,by rw [s4,hs3]; omega,?_⟩,by omega⟩
  ·rw [C4.cell r hr]
   congr 3
   unfold lnkC
   by_cases he:r=rv 9 j
   ·rw [if_pos he,he,rv_rv,show (2:Nat) ^ 9=512 from rfl,Nat.mod_eq_of_lt hlt,if_pos (by omega)]
   ·rw [if_neg he]
    have hne:rv 9 r≠j:=by
     intro e
     apply he
     rw [← e,rv_rv,show (2:Nat) ^ 9=512 from rfl,Nat.mod_eq_of_lt hr]
    by_cases hc:link≤rv 9 r∧rv 9 r < j
    ·rw [if_pos hc,if_pos (by omega)]
    ·rw [if_neg hc,if_neg (by omega)]
  ·refine h6.trans ((f2.mono ?_).trans ((f3 _).trans (f4'.mono ?_)))
   ·rintro x y ⟨rfl,rfl⟩; exact .inl ⟨rfl,by omega,by omega⟩
   ·rintro x y ⟨rfl,_⟩; exact .inr rfl
 ·have hge:j=512:=by have:=of_decide_eq_false ht; omega
  subst hge
  exact hk m1 h3 h4 h6
end Go.M

namespace Go.M
open Go
set_option maxRecDepth 100000
theorem shl_one {v:Nat} (h:v≤40):shlOp .i64 1 (v:Int)=((2 ^ v:Nat):Int):=by
 have h1:=shl_nat (k:=.i64) (a:=1) (s:=v) (by show _≤64; omega)
 have h2:(2:Nat) ^ v≤2 ^ 40:=Nat.pow_le_pow_right (by decide) h
 have key:∀ q:Nat,q≤2 ^ 40→IntKind.wrap .i64 ((q:Nat):Int)=q:=fun q hq=>wrap64_id (by omega) (by omega)
 rw [show ((1:Nat):Int)=1 from rfl,Nat.one_mul,key _ h2] at h1
 exact h1
def fsEnv (b o d lb lo n k code v ch off t:Nat):Env:=
 [(0,.pointer (some ⟨b,o,none⟩)),(10,.int .i64 (code:Int)),(11,.pointer (some ⟨d,0,none⟩)),(19,.int .i64 (v:Int)),(21,.int .u32 (ch:Int)),(23,.int .i64 (off:Int)),(168,.slice (some ⟨lb,lo,none⟩) n k),(169,.int .i64 (n:Int)),(170,.int .i64 (t:Int))]
theorem fill_short {b o d lb lo n k code v ch rev t:Nat} {C:Nat→Nat} {m:Mem} {K:Kont} (hv:v≤9) (hrev:rev < 2 ^ v) (hC:ChunkAt m b o C)
  (hk:∀ m' off,ChunkAt m' b o (fun r=>if r % 2 ^ v=rev then ch else C r)→Fr (fun i j=>i=b∧o+1≤j∧j≤o+512) m m'→K.kx 8 (fsEnv b o d lb lo n k code v ch off t) m') {r:Env}
  (hr:Env.keep [0,10,11,19,21,23,168,169,170] r=fsEnv b o d lb lo n k code v ch rev t):WPS PP 317 c_huffmanDecoder_init_rrrrrrrrrrrrlrllrrllrrrrrrrrlrl K r m:=by
 rw [q_huffmanDecoder_init_rrrrrrrrrrrrlrllrrllrrrrrrrrlrl]
 have hp0:0 < 2 ^ v:=Nat.pow_pos (by decide)
 have hp9:2 ^ v≤2 ^ 9:=Nat.pow_le_pow_right (by decide) hv
 refine loopW ffOk mixedOk (L₀:=L_huffmanDecoder_init) [0,10,11,19,21,23,168,169,170] (fun off:Nat=>fsEnv b o d lb lo n k code v ch off t)
  (fun off m'=>off % 2 ^ v=rev∧off < 512+2 ^ v∧ChunkAt m' b o (fun r=>if r % 2 ^ v=rev∧r < off then ch else C r)∧Fr (fun i j=>i=b∧o+1≤j∧j≤o+512) m m') (fun off=>512+2 ^ v - off) rev hr
  ⟨Nat.mod_eq_of_lt hrev,by omega,⟨fun r hr=>?_,hC.wr⟩,Fr.refl _ _⟩ ?_
 ·rw [hC.cell r hr,if_neg]
  rintro ⟨h1,h2⟩
  rw [Nat.mod_eq_of_lt (by omega)] at h1
  omega
 rintro off m1 ⟨h1,h2,h3,h4⟩
 refine p_huffmanDecoder_init_rrrrrrrrrrrrlrllrrllrrrrrrrrlrll b o code d v ch off (some ⟨lb,lo,none⟩) n k n t m1 _ (ifB_of (fun ht=>?_) (fun ht=>?_))
 ·have hlt:off < 512:=by have:=of_decide_eq_true ht; omega
  refine WPS.piece k_huffmanDecoder_init_rrrrrrrrrrrrlrllrrllrrrrrrrrlrllrllr rfl (p_huffmanDecoder_init_rrrrrrrrrrrrlrllrrllrrrrrrrrlrllrllr b o _ d _ _ _ _ _ _ _ _ m1 _ ⟨⟨by omega,by omega⟩,?_⟩)
  rw [Int.toNat_natCast]
  refine StW.at rfl (by have:=h3.wr (1+off) (by omega); rwa [← Nat.add_assoc] at this) fun m2 c2 f2 _=>?_
  refine kn_XN ?_
  refine p_huffmanDecoder_init_rrrrrrrrrrrrlrllrrllrrrrrrrrlrllrr b o _ d _ _ _ _ _ _ _ _ m2 _ ⟨by rw [wrap_u64_id (by omega) (by omega)]; omega,?_⟩
  rw [wrap_u64_id (by omega) (by omega),shl_one (by omega),show ((off:Int)+((2 ^ v:Nat):Int))=((off+2 ^ v:Nat):Int) from by omega,wrap64_id (by omega) (by omega)]
  refine ⟨off+2 ^ v,rfl,⟨by rw [Nat.add_mod_right]; exact h1,by omega,⟨fun r hr=>?_,h3.wr_fr f2⟩,h4.trans (f2.mono fun i j ⟨e1,e2⟩=>⟨e1,by omega,by omega⟩)⟩,by omega⟩
  have:=(h3.set hlt c2 f2).cell r hr
  rw [this]
  congr 3
  by_cases he:r=off
  ·subst he
   rw [if_pos rfl,if_pos ⟨h1,by omega⟩]
  ·rw [if_neg he]
   by_cases hm:r % 2 ^ v=rev
   ·by_cases hl:r < off
    ·rw [if_pos ⟨hm,hl⟩,if_pos ⟨hm,by omega⟩]
    ·rw [if_neg (fun h=>hl h.2),if_neg]
     rintro ⟨_,hl2⟩
     obtain ⟨e,he'⟩:=Nat.exists_eq_add_of_lt (show off < r by omega)
     rw [he'] at hm hl2
     have:(e+1) % 2 ^ v=0:=by
      have hh:(off+(e+1)) % 2 ^ v=off % 2 ^ v:=by rw [h1]; exact hm
      have h5:=Nat.mod_add_div (off+(e+1)) (2 ^ v)
      have h6:=Nat.mod_add_div off (2 ^ v)
      have h7:e+1=2 ^ v * ((off+(e+1)) / 2 ^ v - off / 2 ^ v):=by
       rw [Nat.mul_sub]; omega
      rw [h7,Nat.mul_mod_right]
     rw [Nat.mod_eq_of_lt (by omega)] at this
     omega
   ·rw [if_neg (fun h=>hm h.1),if_neg (fun h=>hm h.1)]
 ·have hge:512≤off:=by have:=of_decide_eq_false ht; omega
  refine hk m1 off ⟨fun r hr=>?_,h3.wr⟩ h4
  rw [h3.cell r hr]
  congr 3
  by_cases hm:r % 2 ^ v=rev
  ·rw [if_pos ⟨hm,by omega⟩,if_pos hm]
  ·rw [if_neg (fun h=>hm h.1),if_neg hm]
def flEnv (b o d lb lo n k code v ch tb nl y t:Nat):Env:=
 [(0,.pointer (some ⟨b,o,none⟩)),(10,.int .i64 (code:Int)),(11,.pointer (some ⟨d,0,none⟩)),(19,.int .i64 (v:Int)),(21,.int .u32 (ch:Int)),(26,.slice (some ⟨tb,0,none⟩) nl nl),(27,.int .i64 (y:Int)),(168,.slice (some ⟨lb,lo,none⟩) n k),(169,.int .i64 (n:Int)),(170,.int .i64 (t:Int))]
theorem fill_long {b o d lb lo n k code v ch rev tb nl t:Nat} {F:Nat→Nat} {m:Mem} {K:Kont} (hv:9 < v) (hv2:v≤15) (hnl:nl≤64) (hrev:rev < 2 ^ (v - 9)) (hF:∀ y,y < nl→cell? m ⟨tb,y,none⟩=some (.int .u32 ((F y:Nat):Int))) (hw:∀ y,y < nl→Wr m ⟨tb,y,none⟩)
  (hk:∀ m' y,(∀ y,y < nl→cell? m' ⟨tb,y,none⟩=some (.int .u32 ((if y % 2 ^ (v - 9)=rev then ch else F y:Nat):Int)))→Fr (fun i _=>i=tb) m m'→K.kx 10 (flEnv b o d lb lo n k code v ch tb nl y t) m') {r:Env}
  (hr:Env.keep [0,10,11,19,21,26,27,168,169,170] r=flEnv b o d lb lo n k code v ch tb nl rev t):WPS PP 317 c_huffmanDecoder_init_rrrrrrrrrrrrlrllrrllrrrrrrrrrrrrrrrl K r m:=by
 rw [q_huffmanDecoder_init_rrrrrrrrrrrrlrllrrllrrrrrrrrrrrrrrrl]
 have hp0:0 < 2 ^ (v - 9):=Nat.pow_pos (by decide)
 have hp9:2 ^ (v - 9)≤2 ^ 6:=Nat.pow_le_pow_right (by decide) (by omega)
 refine loopW ffOk mixedOk (L₀:=L_huffmanDecoder_init) [0,10,11,19,21,26,27,168,169,170] (fun y:Nat=>flEnv b o d lb lo n k code v ch tb nl y t)
  (fun y0 m'=>y0 % 2 ^ (v - 9)=rev∧y0 < 64+2 ^ (v - 9)∧(∀ y,y < nl→cell? m' ⟨tb,y,none⟩=some (.int .u32 ((if y % 2 ^ (v - 9)=rev∧y < y0 then ch else F y:Nat):Int)))∧Fr (fun i _=>i=tb) m m') (fun y=>64+2 ^ (v - 9) - y) rev hr
  ⟨Nat.mod_eq_of_lt hrev,by omega,fun y hy=>?_,Fr.refl _ _⟩ ?_
 ·rw [hF y hy,if_neg]
  rintro ⟨h1,h2⟩
  rw [Nat.mod_eq_of_lt (by omega)] at h1
  omega
 rintro y0 m1 ⟨h1,h2,h3,h4⟩
 refine p_huffmanDecoder_init_rrrrrrrrrrrrlrllrrllrrrrrrrrrrrrrrrll b o code d v ch (some ⟨tb,0,none⟩) nl nl y0 (some ⟨lb,lo,none⟩) n k n t m1 _ (ifB_of (fun ht=>?_) (fun ht=>?_))
 ·have hlt:y0 < nl:=by have:=of_decide_eq_true ht; omega
  refine WPS.piece k_huffmanDecoder_init_rrrrrrrrrrrrlrllrrllrrrrrrrrrrrrrrrllrllr rfl (p_huffmanDecoder_init_rrrrrrrrrrrrlrllrrllrrrrrrrrrrrrrrrllrllr b o _ d _ _ _ _ _ _ _ _ _ _ _ m1 _ ⟨⟨by omega,by omega⟩,?_⟩)
  rw [Int.toNat_natCast]
  refine StW.of rfl (by have:=(hw y0 hlt).fr h4; simpa [aplus] using this) fun m2 c2 f2 _=>?_
  have c2':cell? m2 ⟨tb,y0,none⟩=some (.int .u32 (ch:Int)):=by simpa [aplus] using c2
  have f2':Fr (fun i j=>i=tb∧j=y0) m1 m2:=f2.mono fun i j h=>by simpa [aplus] using h
  refine kn_XN ?_
  have e9:IntKind.wrap .u64 (IntKind.wrap .i64 ((v:Int) - 9))=((v - 9:Nat):Int):=by
   rw [wrap64_id (by omega) (by omega),show ((v:Int) - 9)=((v - 9:Nat):Int) from by omega,wrap_u64_id (by omega) (by omega)]
  refine p_huffmanDecoder_init_rrrrrrrrrrrrlrllrrllrrrrrrrrrrrrrrrllrr b o _ d _ _ _ _ _ _ _ _ _ _ _ m2 _ ⟨by rw [e9]; omega,?_⟩
  rw [e9,shl_one (by omega),show ((y0:Int)+((2 ^ (v - 9):Nat):Int))=((y0+2 ^ (v - 9):Nat):Int) from by omega,wrap64_id (by omega) (by omega)]
  refine ⟨y0+2 ^ (v - 9),rfl,⟨by rw [Nat.add_mod_right]; exact h1,by omega,fun y hy=>?_,h4.trans (f2'.mono fun i j h=>h.1)⟩,by omega⟩
  by_cases he:y=y0
  ·subst he
   rw [if_pos ⟨h1,by omega⟩]; exact c2'
  ·rw [f2'.cell (h3 y hy) (by rintro ⟨_,e⟩; exact he e)]
   congr 3
   by_cases hm:y % 2 ^ (v - 9)=rev
   ·by_cases hl:y < y0
    ·rw [if_pos ⟨hm,hl⟩,if_pos ⟨hm,by omega⟩]
    ·rw [if_neg (fun h=>hl h.2),if_neg]
     rintro ⟨_,hl2⟩
     obtain ⟨e,he'⟩:=Nat.exists_eq_add_of_lt (show y0 < y by omega)
     rw [he'] at hm hl2
     have:(e+1) % 2 ^ (v - 9)=0:=by
      have hh:(y0+(e+1)) % 2 ^ (v - 9)=y0 % 2 ^ (v - 9):=by rw [h1]; exact hm
      have h5:=Nat.mod_add_div (y0+(e+1)) (2 ^ (v - 9))
      have h6:=Nat.mod_add_div y0 (2 ^ (v - 9))
      have h7:e+1=2 ^ (v - 9) * ((y0+(e+1)) / 2 ^ (v - 9) - y0 / 2 ^ (v - 9)):=by
       rw [Nat.mul_sub]; omega
      rw [h7,Nat.mul_mod_right]
     rw [Nat.mod_eq_of_lt (by omega)] at this
     omega
   ·rw [if_neg (fun h=>hm h.1),if_neg (fun h=>hm h.1)]
 ·have hge:nl≤y0:=by have:=of_decide_eq_false ht; omega
  refine hk m1 y0 (fun y hy=>?_) h4
  rw [h3 y hy]
  congr 3
  by_cases hm:y % 2 ^ (v - 9)=rev
  ·rw [if_pos ⟨hm,by omega⟩,if_pos hm]
  ·rw [if_neg (fun h=>hm h.1),if_neg hm]
end Go.M

namespace Go.M
open Go
set_option maxRecDepth 100000
theorem kx_78 {K:Kont} {f:Env→Mem→Prop} {r:Env} {m:Mem} (h:f r m):(((K.withN f).withX 7).withX 8).kx 8 r m:=h
theorem kx_710 {K:Kont} {f:Env→Mem→Prop} {r:Env} {m:Mem} (h:f r m):(((K.withN f).withX 7).withX 10).kx 10 r m:=h
def fillEnv (b o d lb lo n k code t:Nat):Env:=
 [(0,.pointer (some ⟨b,o,none⟩)),(10,.int .i64 (code:Int)),(11,.pointer (some ⟨d,0,none⟩)),(168,.slice (some ⟨lb,lo,none⟩) n k),(169,.int .i64 (n:Int)),(170,.int .i64 (t:Int))]
def FillS (b o d lk:Nat):Nat→Nat→Prop:=fun i j=>(i=b∧o+1≤j∧j≤o+512)∨i=d∨lk≤i
theorem or_chunk {t v:Nat} (ht:t < 400) (hv:v < 16):IntKind.wrap .u32 (bitsOp .or .i64 (shlOp .i64 (t:Int) 4) (v:Int))=((t * 16+v:Nat):Int):=by
 have h1:=shl_nat (k:=.i64) (a:=t) (s:=4) (by decide)
 rw [wrap64_id (by omega) (by omega)] at h1
 have h1':shlOp .i64 (t:Int) 4=((t * 2 ^ 4:Nat):Int):=h1
 rw [h1',or_i64 (by omega) (by omega),Nat.or_comm,or_add t (show v < 2 ^ 4 by omega),wrap_u32_id (by omega) (by omega)]
 congr 1; omega
theorem rev_shift {c v:Nat} (hc:c < 65536) (hv:v≤15):shrOp .i64 (IntKind.wrap .i64 ((rv16 c:Nat):Int)) (IntKind.wrap .u64 (IntKind.wrap .i64 (16 - (v:Int))))=((rv v c:Nat):Int):=by
 have h16:=rv16_lt c hc
 rw [wrap64_id (n:=((rv16 c:Nat):Int)) (by omega) (by omega),wrap64_id (by omega) (by omega),show (16 - (v:Int))=((16 - v:Nat):Int) from by omega,wrap_u64_id (by omega) (by omega)]
 rw [shr_nat (k:=.i64) (by show _≤64; omega),rv16_top hc (by omega)]
theorem fill_next {b o d lb lo n k code t:Nat} {r:Env} {m:Mem} {K:Kont} (hr:Env.keep [0,10,11,168,169,170] r=fillEnv b o d lb lo n k code t) (ht:t < 400) (h:K.kn (fillEnv b o d lb lo n k code (t+1)) m):
  WPS PP 317 c_huffmanDecoder_init_rrrrrrrrrrrrlrllrrr K r m:=by
 refine WPS.piece k_huffmanDecoder_init_rrrrrrrrrrrrlrllrrr hr (p_huffmanDecoder_init_rrrrrrrrrrrrlrllrrr b o _ d _ _ _ _ _ m _ ?_)
 rw [wrap64_id (by omega) (by omega)]
 exact h
theorem nc_step {L:List Nat} {t:Nat} (h:t < L.length) (j:Nat):(L.take (t+1)).count j=(L.take t).count j+if L[t]=j then 1 else 0:=by
 rw [List.take_add_one,List.getElem?_eq_getElem h]
 simp only [Option.toList_some,List.count_append,List.count_cons,List.count_nil,Nat.zero_add]
 by_cases h1:L[t]=j
 ·simp [h1]
 ·simp [h1]
theorem init_fill {b o lb lo n k d code lk:Nat} {L:List Nat} (hL:∀ v ∈ L,v≤15) (hok:okL L=true) (hmx0:mxOf L≠0) (hn:L.length=n) (hlen:n < 400) {m:Mem} {K:Kont} (hA:LenAt m lb lo L) (hlb:lb≠b) (hld:lb≠d) (hll:lb < lk) (hbd:b≠d) (hdl:d < lk) (hbl:b < lk)
  (hC:ChunkAt m b o (chunkV L 0)) (hLk:9 < mxOf L→LinkAt m b o lk (2 ^ (mxOf L - 9)) (512 - link L) (512 - link L) (linkV L 0)) (hN:NumAt m d (nx L) (mnOf L) (mxOf L+1)) (hwd:∀ j,j < 16→Wr m ⟨d,j,none⟩)
  (hk:∀ m',ChunkAt m' b o (chunkV L n)→(9 < mxOf L→LinkAt m' b o lk (2 ^ (mxOf L - 9)) (512 - link L) (512 - link L) (linkV L n))→Fr (FillS b o d lk) m m'→K.kx 6 (fillEnv b o d lb lo n k code n) m') {r:Env}
  (hr:Env.keep [0,10,11,168,169,170] r=fillEnv b o d lb lo n k code 0):WPS PP 317 c_huffmanDecoder_init_rrrrrrrrrrrrlrl K r m:=by
 rw [q_huffmanDecoder_init_rrrrrrrrrrrrlrl]
 have h15:=mx_15 hL
 refine loopW ffOk mixedOk (L₀:=L_huffmanDecoder_init) [0,10,11,168,169,170] (fun t:Nat=>fillEnv b o d lb lo n k code t)
  (fun t m'=>t≤n∧ChunkAt m' b o (chunkV L t)∧(9 < mxOf L→LinkAt m' b o lk (2 ^ (mxOf L - 9)) (512 - link L) (512 - link L) (linkV L t))∧NumAt m' d (fun j=>nx L j+(L.take t).count j) (mnOf L) (mxOf L+1)∧Fr (FillS b o d lk) m m')
  (fun t=>n - t) 0 hr ⟨Nat.zero_le _,hC,hLk,fun j h1 h2=>by have:=hN j h1 h2; simpa using this,Fr.refl _ _⟩ ?_
 rintro t m1 ⟨h1,hC1,hL1,hN1,hF⟩
 refine p_huffmanDecoder_init_rrrrrrrrrrrrlrll b o code d (some ⟨lb,lo,none⟩) n k n t m1 _ (ifB_of (fun ht=>?_) (fun ht=>?_))
 ·have hlt:t < L.length:=by have:=of_decide_eq_true ht; omega
  have hv:L[t]≤15:=hL _ (List.getElem_mem hlt)
  have hln:ln L t=L[t]:=by unfold ln; rw [List.getD_eq_getElem?_getD,List.getElem?_eq_getElem hlt]; rfl
  have hA1:=hA.fr hF (fun j h=>by
   rcases h with ⟨e,_⟩ | e | e
   ·exact hlb e
   ·exact hld e
   ·omega)
  refine ⟨⟨by omega,by omega⟩,(L[t]:Nat),?_,?_⟩
  ·have:=hA1 t L[t] (List.getElem?_eq_getElem hlt)
   simpa [aplus] using this
  refine ifB_of (fun hz=>?_) (fun hz=>?_)
  ·have h0:L[t]=0:=by have:=eq_of_beq hz; omega
   refine fill_next rfl (by omega) ⟨t+1,rfl,⟨by omega,⟨fun r hr=>?_,hC1.wr⟩,fun h9=>?_,fun j g1 g2=>?_,hF⟩,by omega⟩
   ·rw [chunk_skip hL hok (by omega)]; exact hC1.cell r hr
   ·have:=hL1 h9
    exact ⟨this.lks,this.arr,fun off y g1 g2=>by rw [link_skip hL hok (by omega)]; exact this.tab off y g1 g2,this.warr,this.wtab⟩
   ·have:=hN1 j g1 g2
    have hj:L[t]≠j:=by
     have hm:=(mm_spec L).1
     rintro rfl
     have:mnOf L=0:=by omega
     have:=hm.1 this
     omega
    simp only [nc_step hlt,if_neg hj]
    exact this
  ·have h0:L[t]≠0:=by intro h; rw [h] at hz; simp at hz
   have hln0:ln L t≠0:=by omega
   have hle:=ln_le hln0
   rw [hln] at hle
   have hcd:=cd_lt hok hln0
   have hcde:cd L t=nx L L[t]+(L.take t).count L[t]:=by unfold cd; rw [hln]
   have hcode:=hN1 L[t] hle.1 (by omega)
   simp only at hcode
   rw [← hcde] at hcode
   rw [hln] at hcd
   have hp15:2 ^ L[t]≤2 ^ 15:=Nat.pow_le_pow_right (by decide) hv
   refine ⟨⟨by omega,by omega⟩,_,by simpa using hcode,⟨by omega,by omega⟩,_,by simpa using hcode,⟨by omega,by omega⟩,?_⟩
   rw [wrap64_id (n:=((cd L t:Nat):Int)+1) (by omega) (by omega)]
   refine StW.at rfl (by have:=(hwd L[t] (by omega)).fr hF; simpa using this) fun m2 c2 f2 _=>⟨by decide,rfl,?_⟩
   have c2':cell? m2 ⟨d,L[t],none⟩=some (.int .i64 ((cd L t+1:Nat):Int)):=by simpa using c2
   have f2':Fr (fun i j=>i=d∧j=L[t]) m1 m2:=f2.mono fun i j h=>by simpa using h
   rw [wrap_u16_id (by omega) (by omega)]
   refine reverse16_spec (by omega) ⟨_,rfl,?_,?_⟩
   ·rw [wrap64_id (by omega) (by omega),wrap_u64_id (by omega) (by omega)]; omega
   rw [rev_shift (by omega) hv,or_chunk (by omega) (by omega)]
   have hrv:=rv_lt L[t] (cd L t)
   have C2:=hC1.fr f2' (by rintro j _ _ ⟨e,_⟩; exact hbd e)
   have L2:9 < mxOf L→LinkAt m2 b o lk (2 ^ (mxOf L - 9)) (512 - link L) (512 - link L) (linkV L t):=fun h9=>(hL1 h9).fr f2' (by rintro ⟨e,_⟩; exact hbd e) (by rintro i j g1 _ ⟨e,_⟩; omega)
   have N2:NumAt m2 d (fun j=>nx L j+(L.take (t+1)).count j) (mnOf L) (mxOf L+1):=by
    intro j g1 g2
    simp only [nc_step hlt]
    by_cases hj:L[t]=j
    ·rw [if_pos hj, ← hj, ← Nat.add_assoc, ← hcde]; exact c2'
    ·rw [if_neg hj]
     exact f2'.cell (hN1 j g1 g2) (by rintro ⟨_,e⟩; exact hj e.symm)
   have F2:Fr (FillS b o d lk) m m2:=hF.trans (f2'.mono fun i j h=>.inr (.inl h.1))
   refine ifB_of (fun h9=>?_) (fun h9=>?_)
   ·have hv9:L[t]≤9:=by have:=of_decide_eq_true h9; omega
    refine fill_short hv9 hrv C2 (fun m3 off C3 F3=>?_) rfl
    refine kx_78 (fill_next rfl (by omega) ?_)
    refine ⟨t+1,rfl,⟨by omega,⟨fun r hr=>?_,C3.wr⟩,fun h9'=>?_,?_,F2.trans (F3.mono fun i j h=>.inl h)⟩,by omega⟩
    ·rw [C3.cell r hr,chunk_short hL hok hln0 (by omega),hln]
    ·have:=(L2 h9').fr F3 (by rintro ⟨_,_,e⟩; omega) (by rintro i j g1 _ ⟨e,_⟩; omega)
     have hlk:=link_le hok h9'
     exact ⟨this.lks,this.arr,fun off y g1 g2=>by rw [link_short hL hok hln0 (by omega) _ (by omega)]; exact this.tab off y g1 g2,this.warr,this.wtab⟩
    ·intro j g1 g2
     exact F3.cell (N2 j g1 g2) (by rintro ⟨e,_⟩; exact hbd e.symm)
   ·have hv9:9 < L[t]:=by have:=of_decide_eq_false h9; omega
    have hm9:9 < mxOf L:=by omega
    have hlk:=link_le hok hm9
    refine ⟨rfl,?_⟩
    have hfar:=long_far hL hok hln0 (by omega)
    rw [hln] at hfar
    have e511:bitsOp .and .i64 ((rv L[t] (cd L t):Nat):Int) 511=((rv L[t] (cd L t) % 512:Nat):Int):=by
     have:=and_i64 (a:=rv L[t] (cd L t)) (b:=511) (by omega) (by decide)
     rw [show ((511:Nat):Int)=511 from rfl] at this
     rw [this,show (511:Nat)=2 ^ 9 - 1 from rfl,Nat.and_two_pow_sub_one_eq_mod]
    rw [e511]
    refine WPS.piece k_huffmanDecoder_init_rrrrrrrrrrrrlrllrrllrrrrrrrrrrr rfl (p_huffmanDecoder_init_rrrrrrrrrrrrlrllrrllrrrrrrrrrrr b o _ d _ _ _ _ _ _ _ _ _ m2 _ ⟨⟨by omega,by omega⟩,?_⟩)
    have hcell:=C2.cell (rv L[t] (cd L t) % 512) (by omega)
    have hcv:chunkV L t (rv L[t] (cd L t) % 512)=(rv 9 (rv L[t] (cd L t) % 512) - link L) * 16+10:=by unfold chunkV; rw [if_pos hfar.1]
    rw [hcv] at hcell
    have hl2:=L2 hm9
    have hsh:shrOp .u32 (((rv 9 (rv L[t] (cd L t) % 512) - link L) * 16+10:Nat):Int) 4=((rv 9 (rv L[t] (cd L t) % 512) - link L:Nat):Int):=by
     rw [shr4]; congr 1; omega
    have hfl:=hfar.1.2
    have hsh9:shrOp .i64 ((rv L[t] (cd L t):Nat):Int) 9=((rv L[t] (cd L t) / 512:Nat):Int):=shr_nat (k:=.i64) (s:=9) (by decide)
    refine ⟨_,by rw [Int.toNat_natCast]; exact hcell,by decide,_,_,_,hl2.lks,?_⟩
    rw [hsh,hsh9]
    refine ⟨⟨by omega,by omega⟩,some ⟨lk+1+(rv 9 (rv L[t] (cd L t) % 512) - link L),0,none⟩,2 ^ (mxOf L - 9),2 ^ (mxOf L - 9),?_,by decide,?_⟩
    ·have:=hl2.arr (rv 9 (rv L[t] (cd L t) % 512) - link L) (by omega)
     simpa [aplus] using this
    have hp6:2 ^ (mxOf L - 9)≤2 ^ 6:=Nat.pow_le_pow_right (by decide) (by omega)
    have hrv2:rv L[t] (cd L t) / 512 < 2 ^ (L[t] - 9):=by
     refine (Nat.div_lt_iff_lt_mul (by decide)).2 ?_
     rw [show (512:Nat)=2 ^ 9 from rfl, ← Nat.pow_add,show L[t] - 9+9=L[t] from by omega]
     exact hrv
    refine fill_long hv9 hv (by omega) hrv2 (fun y hy=>hl2.tab _ y (by omega) hy) (fun y hy=>hl2.wtab _ y (by omega) hy) (fun m3 y0 T3 F3=>?_) rfl
    refine kx_710 (fill_next rfl (by omega) ?_)
    refine ⟨t+1,rfl,⟨by omega,⟨fun r hr=>?_,C2.wr_fr F3⟩,fun _=>?_,?_,F2.trans (F3.mono fun i j h=>.inr (.inr (by omega)))⟩,by omega⟩
    ·rw [chunk_long hL hok hln0 (by omega)]
     exact F3.cell (C2.cell r hr) (by simp only; omega)
    ·refine ⟨F3.cell hl2.lks (by simp only; omega),fun off ho=>F3.cell (hl2.arr off ho) (by simp only; omega),fun off y ho hy=>?_,fun off ho=>(hl2.warr off ho).fr F3,fun off y ho hy=>(hl2.wtab off y ho hy).fr F3⟩
     rw [link_long hL hok hln0 (by omega) (by omega),hln]
     by_cases he:off=rv 9 (rv L[t] (cd L t) % 512) - link L
     ·subst he
      rw [T3 y hy]
      congr 3
      by_cases hm:y % 2 ^ (L[t] - 9)=rv L[t] (cd L t) / 512
      ·rw [if_pos hm,if_pos ⟨rfl,hm⟩]
      ·rw [if_neg hm,if_neg (fun h=>hm h.2)]
     ·rw [if_neg (fun h=>he h.1)]
      exact F3.cell (hl2.tab off y ho hy) (by simp only; omega)
    ·intro j g1 g2
     exact F3.cell (N2 j g1 g2) (by simp only; omega)
 ·have hge:t=n:=by have:=of_decide_eq_false ht; omega
  subst hge
  exact hk m1 hC1 hL1 hF
end Go.M

namespace Go.M
open Go
set_option maxRecDepth 100000
structure HZ (m:Mem) (b o:Nat):Prop where
 mn:∃ x:Int,cell? m ⟨b,o,none⟩=some (.int .i64 x)∧(x=0→(∀ r,r < 512→cell? m ⟨b,o+1+r,none⟩=some (.int .u32 0))∧cell? m ⟨b,o+513,none⟩=some (.slice none 0 0)∧cell? m ⟨b,o+514,none⟩=some (.int .u32 0))
 wr:∀ j,j < 515→Wr m ⟨b,o+j,none⟩
def HS (b o:Nat):Nat→Nat→Prop:=fun i j=>i=b∧o≤j∧j≤o+514
theorem HZ.fr {S:Nat→Nat→Prop} {m m':Mem} {b o:Nat} (h:HZ m b o) (hf:Fr S m m') (hs:∀ j,o≤j→j≤o+514→ ¬ S b j):HZ m' b o:=by
 obtain ⟨⟨x,h1,h2⟩,h3⟩:=h
 refine ⟨⟨x,hf.cell h1 (hs _ (by simp) (by simp)),fun hx=>?_⟩,fun j hj=>(h3 j hj).fr hf⟩
 obtain ⟨g1,g2,g3⟩:=h2 hx
 exact ⟨fun r hr=>hf.cell (g1 r hr) (hs _ (by simp only; omega) (by simp only; omega)),hf.cell g2 (hs _ (by simp) (by simp)),hf.cell g3 (hs _ (by simp) (by simp))⟩
def hzList:List Value:=.int .i64 0::(List.replicate 512 (.int .u32 0)++[.slice none 0 0,.int .u32 0])
theorem hzList_len:hzList.length=515:=by simp [hzList]
theorem hz_store {m:Mem} {a:Addr} {K:Mem→Prop} (h:SemW PP (storeCells a hzList 0) m fun _ m'=>K m'):StAgg PP t_flate_huffmanDecoder m a (zeroV PP t_flate_huffmanDecoder) K:=Eq.mpr (by kernel_rfl) h
theorem hz_get {i:Nat}:(i=0→hzList[i]?=some (.int .i64 0))∧(1≤i→i≤512→hzList[i]?=some (.int .u32 0))∧hzList[513]?=some (.slice none 0 0)∧hzList[514]?=some (.int .u32 0):=by
 refine ⟨fun h=>by subst h; rfl,fun h1 h2=>?_,rfl,rfl⟩
 obtain ⟨j,rfl⟩:=Nat.exists_eq_add_of_le h1
 unfold hzList
 rw [Nat.add_comm 1 j,List.getElem?_cons_succ,List.getElem?_append_left (by simp; omega),List.getElem?_replicate,if_pos (by omega)]
structure HNew (m:Mem) (b o:Nat):Prop where
 mn:cell? m ⟨b,o,none⟩=some (.int .i64 0)
 ch:∀ r,r < 512→cell? m ⟨b,o+1+r,none⟩=some (.int .u32 0)
 lk:cell? m ⟨b,o+513,none⟩=some (.slice none 0 0)
 mask:cell? m ⟨b,o+514,none⟩=some (.int .u32 0)
 wr:∀ j,j < 515→Wr m ⟨b,o+j,none⟩
theorem HNew.hz {m:Mem} {b o:Nat} (h:HNew m b o):HZ m b o:=⟨⟨0,h.mn,fun _=>⟨h.ch,h.lk,h.mask⟩⟩,h.wr⟩
theorem HNew.fr {S:Nat→Nat→Prop} {m m':Mem} {b o:Nat} (h:HNew m b o) (hf:Fr S m m') (hs:∀ j,o≤j→j≤o+514→ ¬ S b j):HNew m' b o:=
 ⟨hf.cell h.mn (hs _ (by simp) (by simp)),fun r hr=>hf.cell (h.ch r hr) (hs _ (by simp only; omega) (by simp only; omega)),hf.cell h.lk (hs _ (by simp) (by simp)),hf.cell h.mask (hs _ (by simp) (by simp)),fun j hj=>(h.wr j hj).fr hf⟩
theorem hnew_row {m:Mem} {b o:Nat} (h:Row m b o hzList) (hw:∀ j,j < 515→Wr m ⟨b,o+j,none⟩):HNew m b o:=
 ⟨by have:=h 0 _ (hz_get.1 rfl); simpa using this,fun r hr=>by have:=h (1+r) _ (hz_get.2.1 (by omega) (by omega)); rwa [← Nat.add_assoc] at this,h 513 _ (hz_get (i:=0)).2.2.1,h 514 _ (hz_get (i:=0)).2.2.2,hw⟩
theorem alloc_W {P:Program} {t:TypeId} {m:Mem} {K:Nat→Mem→Prop} {z:Value} (hz:zeroOf P t=some z) (h:K m.size (m.push (.cells z.cells t))):AllocW P t m K:=by
 unfold AllocW
 rw [hz]; exact h
theorem z_16_int:zeroOf PP t_16_int=some (.agg (Array.replicate 16 (.int .i64 0))):=by kernel_rfl
theorem kx_0 {K:Kont} {f:Env→Mem→Prop} {r:Env} {m:Mem} (h:f r m):((K.withN f).withX 0).kx 0 r m:=h
theorem kx_2 {K:Kont} {f:Env→Mem→Prop} {r:Env} {m:Mem} (h:f r m):((K.withN f).withX 2).kx 2 r m:=h
theorem kx_4 {K:Kont} {f:Env→Mem→Prop} {r:Env} {m:Mem} (h:f r m):((K.withN f).withX 4).kx 4 r m:=h
theorem kx_6 {K:Kont} {f:Env→Mem→Prop} {r:Env} {m:Mem} (h:f r m):((K.withN f).withX 6).kx 6 r m:=h
theorem new16 (m:Mem):NumAt (m.push (.cells (Array.replicate 16 (.int .i64 0)) t_16_int)) m.size (fun _=>0) 0 16∧∀ j,j < 16→Wr (m.push (.cells (Array.replicate 16 (.int .i64 0)) t_16_int)) ⟨m.size,j,none⟩:=by
 refine ⟨fun j _ hj=>cell_new (by rw [Array.getElem?_replicate,if_pos hj]; rfl),fun j hj=>wr_new (by simpa using hj)⟩
theorem tab_at {m:Mem} {b o lk:Nat} {L:List Nat} (hL:∀ v ∈ L,v≤15) (hok:okL L=true) (hlen:L.length < 400) {B:Nat→Prop} (hB:∀ i,lk≤i→i < m.size→B i) (hm:cell? m ⟨b,o,none⟩=some (.int .i64 (mnOf L:Int))) (hC:ChunkAt m b o (chunkV L L.length))
  (hLk:9 < mxOf L→LinkAt m b o lk (2 ^ (mxOf L - 9)) (512 - link L) (512 - link L) (linkV L L.length)∧cell? m ⟨b,o+514,none⟩=some (.int .u32 ((2 ^ (mxOf L - 9) - 1:Nat):Int))):TabAt m b o B (mnOf L) (tabV L):=by
 refine ⟨hm,fun x=>?_,tab_small hL (by omega)⟩
 have hr:x % 512 < 512:=Nat.mod_lt _ (by decide)
 have hc:=hC.cell (x % 512) hr
 by_cases hf:far9 L (x % 512)
 ·obtain ⟨h1,h2,h3⟩:=link_all hL hok hf
  rw [h1] at hc
  obtain ⟨g1,g2⟩:=hLk hf.1
  have h15:=mx_15 hL
  have hp:2 ^ (mxOf L - 9)≤2 ^ 6:=Nat.pow_le_pow_right (by decide) (by omega)
  have hp0:0 < 2 ^ (mxOf L - 9):=Nat.pow_pos (by decide)
  have hy:x / 512 &&& (2 ^ (mxOf L - 9) - 1)=x / 512 % 2 ^ (mxOf L - 9):=Nat.and_two_pow_sub_one_eq_mod _ _
  have hylt:=Nat.mod_lt (x / 512) hp0
  have hdiv:((rv 9 (x % 512) - link L) * 16+10) / 16=rv 9 (x % 512) - link L:=by omega
  have c1:=g1.arr (rv 9 (x % 512) - link L) (by omega)
  have c2:=g1.tab (rv 9 (x % 512) - link L) (x / 512 % 2 ^ (mxOf L - 9)) (by omega) hylt
  rw [h3] at c2
  refine ⟨_,hc,by omega,.inr ⟨by omega,lk,0,_,_,g1.lks,hB _ (Nat.le_refl _) (cell_block c1),by rw [hdiv]; omega,_,0,_,_,by rw [hdiv,Nat.zero_add]; exact c1,hB _ (by simp only; omega) (cell_block c2),_,g2,by omega,by rw [hy]; exact hylt,?_⟩⟩
  rw [hy,Nat.zero_add]
  exact c2
 ·obtain ⟨h1,h2⟩:=chunk_all hL hok x hf
  rw [h1] at hc
  exact ⟨_,hc,tab_small hL (by omega) x,.inl ⟨h2,rfl⟩⟩
def initTail (b o:Nat) (a1:Option Addr) (l2 k3:Nat) (x4 x5 x6:Int) (n7:Nat) (K:Kont) (m:Mem):Prop:=
 StW m ⟨b,o,none⟩ (.int .i64 x4) fun m8=>ifB (decide (x5 > 9)) (0≤(IntKind.wrap .u64 ((IntKind.wrap .u64 x5) - 9))∧StW m8 ⟨b,o+514,none⟩ (.int .u32 (IntKind.wrap .u32 (IntKind.wrap .i64 ((shlOp .i64 1 (IntKind.wrap .u64 ((IntKind.wrap .u64 x5) - 9))) - 1)))) fun m9=>
  (0≤(10:Int)∧(10:Int) < ((16:Nat):Int))∧∃ (x10:Int),cell? m9 ⟨n7,10,none⟩=some (.int .i64 x10)∧0≤(1:Int)∧SemW PP (sv (Instr.makeSlice t_s_s_uint32 (.int .i64 (IntKind.wrap .i64 (512 - (shrOp .i64 x10 1)))) (.int .i64 (IntKind.wrap .i64 (512 - (shrOp .i64 x10 1)))))) m9
   (NextW PP fun v14 m15=>∃ (a11:Option Addr),∃ (l12:Nat),∃ (k13:Nat),v14=.slice a11 l12 k13∧StW m15 ⟨b,o+513,none⟩ (.slice a11 l12 k13) fun m16=>WPS PP 317 c_huffmanDecoder_init_rrrrrrrrrrrlrlrrrrrl ((K.withN fun r m=>WPS PP 317 c_huffmanDecoder_init_rrrrrrrrrrrr K r m).withX 4)
    [(0,.pointer (some ⟨b,o,none⟩)),(1,.slice a1 l2 k3),(6,.int .i64 x4),(7,.int .i64 x5),(10,.int .i64 x6),(11,.pointer (some ⟨n7,0,none⟩)),(13,.int .i64 (shlOp .i64 1 (IntKind.wrap .u64 ((IntKind.wrap .u64 x5) - 9)))),(14,.int .i64 (shrOp .i64 x10 1)),(15,.int .u64 (IntKind.wrap .u64 (shrOp .i64 x10 1)))] m16))
  (WPS PP 317 c_huffmanDecoder_init_rrrrrrrrrrrr K [(0,.pointer (some ⟨b,o,none⟩)),(1,.slice a1 l2 k3),(6,.int .i64 x4),(7,.int .i64 x5),(10,.int .i64 x6),(11,.pointer (some ⟨n7,0,none⟩))] m8)
theorem init_tail {b o lb lo n k d code:Nat} {L:List Nat} (hL:∀ v ∈ L,v≤15) (hok:okL L=true) (hmx0:mxOf L≠0) (hn:L.length=n) (hlen:n < 400) {m:Mem} {K:Kont} (hA:LenAt m lb lo L) (hlb:lb≠b) (hld:lb≠d) (hll:lb < m.size) (hbd:b≠d) (hd:d < m.size) (hb:b < m.size)
  (hN:NumAt m d (nx L) 0 (mxOf L+1)) (hwd:∀ j,j < 16→Wr m ⟨d,j,none⟩) (hZ:HNew m b o)
  (hk:∀ m',Fr (fun i j=>HS b o i j∨i=d) m m'→(∃ B,TabAt m' b o B (mnOf L) (tabV L)∧∀ i,B i→m.size≤i∧i < m'.size)→K.kr [(4,.bool true)] m'):initTail b o (some ⟨lb,lo,none⟩) n k (mnOf L:Int) (mxOf L:Int) (code:Int) d K m:=by
 have h15:=mx_15 hL
 have hmm:=mm_spec L
 have rest:∀ (lk:Nat) (m1:Mem),m.size≤lk→lk≤m1.size→Fr (fun i j=>HS b o i j∨lk≤i) m m1→cell? m1 ⟨b,o,none⟩=some (.int .i64 (mnOf L:Int))→ChunkAt m1 b o (chunkV L 0)→
   (9 < mxOf L→LinkAt m1 b o lk (2 ^ (mxOf L - 9)) (512 - link L) (512 - link L) (linkV L 0)∧cell? m1 ⟨b,o+514,none⟩=some (.int .u32 ((2 ^ (mxOf L - 9) - 1:Nat):Int)))→∀ {r:Env},
   Env.keep [0,1,10,11] r=[(0,.pointer (some ⟨b,o,none⟩)),(1,.slice (some ⟨lb,lo,none⟩) n k),(10,.int .i64 (code:Int)),(11,.pointer (some ⟨d,0,none⟩))]→WPS PP 317 c_huffmanDecoder_init_rrrrrrrrrrrr K r m1:=by
  intro lk m1 g0 g1 hF hm hC hLk r hr
  refine WPS.piece k_huffmanDecoder_init_rrrrrrrrrrrr hr (p_huffmanDecoder_init_rrrrrrrrrrrr b o _ n _ _ d m1 _ ?_)
  have hFd:∀ j, ¬ (HS b o d j∨lk≤d):=by
   rintro j (⟨e,_⟩ | e)
   ·exact hbd e.symm
   ·omega
  refine init_fill hL hok hmx0 hn hlen (hA.fr hF (by
   rintro j (⟨e,_⟩ | e)
   ·exact hlb e
   ·omega)) hlb hld (by omega) hbd (by omega) (by omega) hC (fun h9=>(hLk h9).1) (fun j q1 q2=>hF.cell (hN j (Nat.zero_le _) q2) (hFd _)) (fun j hj=>(hwd j hj).fr hF) (fun m2 C2 L2 F2=>kx_6 ?_) rfl
  refine WPS.piece k_huffmanDecoder_init_rrrrrrrrrrrrr rfl (p_huffmanDecoder_init_rrrrrrrrrrrrr b o _ m2 _ ?_)
  refine WPS.piece k_huffmanDecoder_init_rrrrrrrrrrrrrr rfl (p_huffmanDecoder_init_rrrrrrrrrrrrrr m2 _ ?_)
  rw [← hn] at C2 L2
  have F02:Fr (fun i j=>(HS b o i j∨i=d)∨lk≤i) m m2:=(hF.mono (by
   rintro i j (h | h)
   ·exact .inl (.inl h)
   ·exact .inr h)).trans (F2.mono (by
   rintro i j (⟨h1,h2,h3⟩ | h | h)
   ·exact .inl (.inl ⟨h1,by omega,by omega⟩)
   ·exact .inl (.inr h)
   ·exact .inr h))
  have hnb:∀ j,j≤o∨o+513≤j→ ¬ FillS b o d lk b j:=by
   rintro j hj (⟨_,h1,h2⟩ | h | h)
   ·omega
   ·exact hbd h
   ·omega
  refine hk m2 (F02.old (by
   rintro i j hi (h | h)
   ·exact h
   ·omega)) ⟨fun i=>lk≤i∧i < m2.size,tab_at hL hok (by omega) (lk:=lk) (fun i q1 q2=>⟨q1,q2⟩) (F2.cell hm (hnb _ (.inl (by simp)))) C2 fun h9=>⟨L2 h9,F2.cell (hLk h9).2 (hnb _ (.inr (by simp)))⟩,fun i hi=>⟨by have:=hi.1; omega,hi.2⟩⟩
 unfold initTail
 refine StW.at rfl (by simpa using hZ.wr 0 (by decide)) fun m8 c8 f8 s8=>?_
 have F8:Fr (HS b o) m m8:=f8.mono (by rintro i j ⟨rfl,rfl⟩; exact ⟨rfl,by omega,by omega⟩)
 have hCh:∀ {m1:Mem} {S:Nat→Nat→Prop},Fr S m m1→(∀ j,o+1≤j→j≤o+512→ ¬ S b j)→ChunkAt m1 b o (fun _=>0):=fun {m1 S} hF hS=>⟨fun r hr=>hF.cell (hZ.ch r hr) (hS _ (by simp only; omega) (by simp only; omega)),fun j hj=>(hZ.wr j hj).fr hF⟩
 refine ifB_of (fun h9=>?_) (fun h9=>?_)
 ·have h9:9 < mxOf L:=by have:=of_decide_eq_true h9; omega
  have hlk:=link_le hok h9
  have hp:2 ^ (mxOf L - 9)≤2 ^ 6:=Nat.pow_le_pow_right (by decide) (by omega)
  have hp0:0 < 2 ^ (mxOf L - 9):=Nat.pow_pos (by decide)
  have e9:IntKind.wrap .u64 ((IntKind.wrap .u64 ((mxOf L:Nat):Int)) - 9)=((mxOf L - 9:Nat):Int):=by
   rw [wrap_u64_id (n:=((mxOf L:Nat):Int)) (by omega) (by omega),show (((mxOf L:Nat):Int) - 9)=((mxOf L - 9:Nat):Int) from by omega,wrap_u64_id (by omega) (by omega)]
  rw [e9,shl_one (by omega)]
  have e1:IntKind.wrap .u32 (IntKind.wrap .i64 (((2 ^ (mxOf L - 9):Nat):Int) - 1))=((2 ^ (mxOf L - 9) - 1:Nat):Int):=by
   generalize 2 ^ (mxOf L - 9)=q at hp hp0
   rw [show ((q:Int) - 1)=((q - 1:Nat):Int) from by omega,wrap64_id (by omega) (by omega),wrap_u32_id (by omega) (by omega)]
  rw [e1]
  refine ⟨by omega,StW.at rfl ((hZ.wr 514 (by decide)).fr f8) fun m9 c9 f9 s9=>⟨⟨by decide,by decide⟩,((nx L 10:Nat):Int),?_,by decide,?_⟩⟩
  ·exact f9.cell (f8.cell (hN 10 (by decide) (by omega)) (by rintro ⟨e,_⟩; exact hbd e.symm)) (by rintro ⟨e,_⟩; exact hbd e.symm)
  have enx:nx L 10=2 * link L:=rfl
  have esh:shrOp .i64 ((nx L 10:Nat):Int) 1=((link L:Nat):Int):=by
   have:=shr_nat (k:=.i64) (a:=nx L 10) (s:=1) (by decide)
   rw [enx,Nat.pow_one,Nat.mul_div_cancel_left _ (by decide)] at this
   rw [enx]; exact this
  rw [esh,show (512 - ((link L:Nat):Int))=((512 - link L:Nat):Int) from by omega,wrap64_id (by omega) (by omega),wrap_u64_id (by omega) (by omega)]
  obtain ⟨is,hi⟩:=one_s_uint32
  refine make_W u_s_s_uint32 hi.info hi.zero rfl hi.size rfl rfl (by rw [hi.bytes]; omega) (by omega) fun m10 own10 f10 s10=>⟨_,_,_,rfl,?_⟩
  have F9:Fr (HS b o) m m9:=F8.trans (f9.mono (by rintro i j ⟨rfl,rfl⟩; exact ⟨rfl,by omega,by omega⟩))
  have hs9:m9.size=m.size:=by rw [s9,s8]
  refine StW.at rfl (((hZ.wr 513 (by decide)).fr F9).fr (f10 fun _ _=>False)) fun m11 c11 f11 s11=>?_
  rw [hs9] at own10 c11 s10
  have F11:Fr (fun i j=>i=b∧(j=o∨j=o+513∨j=o+514)) m m11:=(f8.mono (by rintro i j ⟨e1,e2⟩; exact ⟨e1,.inl e2⟩)).trans ((f9.mono (by rintro i j ⟨e1,e2⟩; exact ⟨e1,.inr (.inr e2)⟩)).trans ((f10 _).trans (f11.mono (by rintro i j ⟨e1,e2⟩; exact ⟨e1,.inr (.inl e2)⟩))))
  have hCz:=hCh F11 (by rintro j q1 q2 ⟨_,h⟩; omega)
  have hLz:LinkAt m11 b o m.size (2 ^ (mxOf L - 9)) (512 - link L) 0 (fun _ _=>0):=⟨c11,fun off ho=>by omega,fun off y ho=>by omega,fun off ho=>by
   have:=own10.wr off (by omega)
   rw [Nat.zero_add] at this
   exact this.fr f11,fun off y ho=>by omega⟩
  refine init_links hp hlk (by rw [s11,s10]) hCz hLz hb (fun m12 C12 L12 F12=>kx_4 ?_) rfl
  refine rest m.size m12 (Nat.le_refl _) ?_ ?_ ?_ ⟨fun r hr=>?_,C12.wr⟩ (fun _=>⟨⟨L12.lks,L12.arr,fun off y g1 g2=>?_,L12.warr,L12.wtab⟩,?_⟩) rfl
  ·exact Nat.le_trans (by rw [s11,s10]; omega) F12.size
  ·refine (F11.mono ?_).trans (F12.mono ?_)
   ·rintro i j ⟨rfl,h⟩; exact .inl ⟨rfl,by omega,by omega⟩
   ·rintro i j (⟨rfl,h1,h2⟩ | rfl)
    ·exact .inl ⟨rfl,by omega,by omega⟩
    ·exact .inr (Nat.le_refl _)
  ·refine F12.cell (f11.cell ((f10 fun _ _=>False).cell (f9.cell c8 (by simp)) (by simp)) (by simp)) ?_
   rintro (⟨_,h1,_⟩ | h)
   ·have:o+1≤o:=h1
    omega
   ·simp only at h; omega
  ·rw [chunk_zero,C12.cell r hr]
   congr 3
   unfold lnkC far9
   have:=rv_lt 9 r
   by_cases h:link L≤rv 9 r
   ·rw [if_pos ⟨h,by omega⟩]; exact (if_pos ⟨h9,h⟩).symm
   ·rw [if_neg (fun h'=>h h'.1)]; exact (if_neg (fun h'=>h h'.2)).symm
  ·rw [link_zero]; exact L12.tab off y g1 g2
  ·refine F12.cell (f11.cell ((f10 fun _ _=>False).cell c9 (by simp)) (by simp)) ?_
   rintro (⟨_,_,h1⟩ | h)
   ·simp at h1
   ·simp only at h; omega
 ·have h9:mxOf L≤9:=by have:=of_decide_eq_false h9; omega
  have hz:=hCh f8 (by rintro j q1 q2 ⟨_,h⟩; omega)
  refine rest m8.size m8 (by omega) (Nat.le_refl _) (F8.mono fun i j h=>.inl h) c8 ⟨fun r hr=>?_,hz.wr⟩ (fun h=>by omega) rfl
  rw [chunk_zero,if_neg (fun h=>by have:=h.1; omega)]
  exact hz.cell r hr
theorem init_spec {b o lb lo n k:Nat} {L:List Nat} (hL:∀ v ∈ L,v≤15) (hn:L.length=n) (hlen:n < 400) {m:Mem} (hZ:HZ m b o) (hA:LenAt m lb lo L) (hn0:0 < n) (hlb:lb≠b) {R:Value→Mem→Prop}
  (hk:∀ m',okL L=true→Fr (HS b o) m m'→HZ m' b o→(∃ B,TabAt m' b o B (mnOf L) (tabV L)∧∀ i,B i→m.size≤i∧i < m'.size)→R (.bool true) m')
  (hno:∀ m',okL L=false→Fr (HS b o) m m'→HZ m' b o→R (.bool false) m'):CallM PP f_huffmanDecoder_init #[.pointer (some ⟨b,o,none⟩),.slice (some ⟨lb,lo,none⟩) n k] m R:=by
 have hlbm:lb < m.size:=by
  have h0:0 < L.length:=by omega
  exact cell_block (hA 0 L[0] (List.getElem?_eq_getElem h0))
 obtain ⟨x,hx,hx0⟩:=hZ.mn
 have hbm:b < m.size:=cell_block hx
 have main:∀ m1,HNew m1 b o→Fr (HS b o) m m1→m1.size=m.size→WPS PP 317 c_huffmanDecoder_init_rr (retK PP r_huffmanDecoder_init R) [(0,.pointer (some ⟨b,o,none⟩)),(1,.slice (some ⟨lb,lo,none⟩) n k),(4,.bool false)] m1:=by
  intro m1 hN1 hF1 hs1
  have hA1:=hA.fr hF1 (by rintro j ⟨e,_⟩; exact hlb e)
  refine WPS.piece k_huffmanDecoder_init_rr rfl (p_huffmanDecoder_init_rr b o _ n k m1 _ (alloc_W z_16_int ?_))
  rw [hs1]
  have hw2:=new16 m1
  rw [hs1] at hw2
  have f2:∀ S,Fr S m1 (m1.push (.cells (Array.replicate 16 (.int .i64 0)) t_16_int)):=fun S=>Fr.push _
  have s2:(m1.push (.cells (Array.replicate 16 (.int .i64 0)) t_16_int)).size=m.size+1:=by rw [Array.size_push,hs1]
  show WPS PP 317 c_huffmanDecoder_init_rrrrlrl _ _ (m1.push (.cells (Array.replicate 16 (.int .i64 0)) t_16_int))
  generalize m1.push (.cells (Array.replicate 16 (.int .i64 0)) t_16_int)=m2 at hw2 f2 s2 ⊢
  refine init_count hL hn (by omega) (hA1.fr (f2 fun _ _=>False) (by intros; exact id)) (by omega) hw2.1 hw2.2 (fun m3 c3 f3=>kx_0 ?_) rfl
  have N3:HNew m3 b o:=(hN1.fr (f2 fun _ _=>False) (by intros; exact id)).fr f3 (by rintro j _ _ e; omega)
  have F3:Fr (HS b o) m m3:=(hF1.mono (S':=fun i j=>HS b o i j∨m.size≤i) fun i j h=>.inl h).trans ((f2 _).trans (f3.mono fun i j h=>.inr (by omega))) |>.old (by
   rintro i j hi (h | h)
   ·exact h
   ·omega)
  refine WPS.piece k_huffmanDecoder_init_rrrrr rfl (p_huffmanDecoder_init_rrrrr b o _ n k m.size _ _ m3 _ (ifB_of (fun hz=>?_) (fun hz=>?_)))
  ·have hmx0:mxOf L=0:=by have:=eq_of_beq hz; omega
   have hok:okL L=true:=by unfold okL; simp [hmx0]
   have hmn0:=(mm_spec L).1.2 hmx0
   show R (.bool true) m3
   refine hk m3 hok F3 N3.hz ⟨fun _=>False,⟨by rw [hmn0]; exact N3.mn,fun x=>?_,tab_small hL (by omega)⟩,fun i h=>h.elim⟩
   have hv:tabV L x=0:=tab_none fun i=>by
    cases hh:hit L x i with
    | false=>rfl
    | true=>have:=(hit_iff.1 hh).1; have:=ln_le this; omega
   rw [hv]
   exact ⟨0,N3.ch (x % 512) (Nat.mod_lt _ (by decide)),by decide,.inl ⟨by decide,rfl⟩⟩
  ·have hmx0:mxOf L≠0:=by intro h; rw [h] at hz; simp at hz
   have h15:=mx_15 hL
   refine alloc_W z_16_int ?_
   have s3:m3.size=m.size+1∨m.size+1≤m3.size:=.inr (by rw [← s2]; exact f3.size)
   have hs3:m.size+1≤m3.size:=by rw [← s2]; exact f3.size
   have hw4:=new16 m3
   have f4:∀ S,Fr S m3 (m3.push (.cells (Array.replicate 16 (.int .i64 0)) t_16_int)):=fun S=>Fr.push _
   have s4:(m3.push (.cells (Array.replicate 16 (.int .i64 0)) t_16_int)).size=m3.size+1:=by rw [Array.size_push]
   show WPS PP 317 c_huffmanDecoder_init_rrrrrrrrlrl _ _ (m3.push (.cells (Array.replicate 16 (.int .i64 0)) t_16_int))
   generalize m3.push (.cells (Array.replicate 16 (.int .i64 0)) t_16_int)=m4 at hw4 f4 s4 ⊢
   refine init_next hL (by omega) hmx0 (fun j q1 q2=>(f4 fun _ _=>False).cell (c3 j q1 q2) (by simp)) (by omega) hw4.1 hw4.2 (fun m5 c5 f5=>kx_2 ?_) rfl
   have N5:HNew m5 b o:=(N3.fr (f4 fun _ _=>False) (by intros; exact id)).fr f5 (by rintro j _ _ e; omega)
   have F5:Fr (HS b o) m m5:=(F3.mono (S':=fun i j=>HS b o i j∨m.size≤i) fun i j h=>.inl h).trans ((f4 _).trans (f5.mono fun i j h=>.inr (by omega))) |>.old (by
    rintro i j hi (h | h)
    ·exact h
    ·omega)
   have hs5:m3.size+1≤m5.size:=by rw [← s4]; exact f5.size
   have hsm:=nx_small (L:=L) (by omega) (n:=mxOf L) h15
   have hpm:2 ^ mxOf L≤2 ^ 15:=Nat.pow_le_pow_right (by decide) h15
   refine WPS.piece k_huffmanDecoder_init_rrrrrrrrr rfl (p_huffmanDecoder_init_rrrrrrrrr b o _ n k _ _ _ m3.size m5 _ ?_)
   have e2m:shlOp .i64 1 (IntKind.wrap .u64 ((mxOf L:Nat):Int))=((2 ^ mxOf L:Nat):Int):=by rw [wrap_u64_id (by omega) (by omega),shl_one (by omega)]
   have tail:okL L=true→initTail b o (some ⟨lb,lo,none⟩) n k (mnOf L:Int) (mxOf L:Int) ((nx L (mxOf L)+cnt L (mxOf L):Nat):Int) m3.size (retK PP r_huffmanDecoder_init R) m5:=by
    intro hok
    refine init_tail hL hok hmx0 hn hlen (hA.fr F5 (by rintro j ⟨e,_⟩; exact hlb e)) hlb (by omega) (by omega) (by omega) (by omega) (by omega) c5 (fun j hj=>(hw4.2 j hj).fr f5) N5 fun m6 F6 ⟨B,T6,hB⟩=>?_
    show R (.bool true) m6
    have F06:Fr (HS b o) m m6:=(F5.mono (S':=fun i j=>HS b o i j∨m.size≤i) fun i j h=>.inl h).trans (F6.mono (by
     rintro i j (h | h)
     ·exact .inl h
     ·exact .inr (by omega))) |>.old (by
     rintro i j hi (h | h)
     ·exact h
     ·omega)
    refine hk m6 hok F06 ⟨⟨_,T6.min,fun h0=>?_⟩,fun j hj=>(hZ.wr j hj).fr F06⟩ ⟨B,T6,fun i hi=>by have:=hB i hi; omega⟩
    exfalso
    have:=(mm_spec L).1
    omega
   have bad:okL L=false→(retK PP r_huffmanDecoder_init R).kr [(0,.pointer (some ⟨b,o,none⟩)),(1,.slice (some ⟨lb,lo,none⟩) n k),(4,.bool false),(6,.int .i64 (mnOf L:Int)),(7,.int .i64 (mxOf L:Int)),(10,.int .i64 ((nx L (mxOf L)+cnt L (mxOf L):Nat):Int)),(11,.pointer (some ⟨m3.size,0,none⟩))] m5:=by
    intro hok
    show R (.bool false) m5
    exact hno m5 hok F5 N5.hz
   refine ⟨by rw [wrap_u64_id (by omega) (by omega)]; omega,ifB_of (fun h1=>?_) (fun h1=>?_)⟩ <;> rw [e2m] at h1
   ·have hne:nx L (mxOf L)+cnt L (mxOf L)≠2 ^ mxOf L:=by
     intro h; rw [h] at h1; simp at h1
    refine ifB_of (fun h2=>?_) (fun h2=>?_)
    ·have h2:nx L (mxOf L)+cnt L (mxOf L)=1:=by have:=eq_of_beq h2; omega
     refine ifB_of (fun h3=>?_) (fun h3=>?_)
     ·have h3:mxOf L≠1:=by intro h; rw [h] at h3; simp at h3
      exact bad (by unfold okL; simp [hmx0,hne,h3])
     ·have h3:mxOf L=1:=by
       have:(((mxOf L:Nat):Int) == 1)=true:=by simpa using h3
       have:=eq_of_beq this
       omega
      exact tail (by
       rw [h3] at h2
       unfold okL
       rw [h3]
       simp [h2])
    ·have h2:nx L (mxOf L)+cnt L (mxOf L)≠1:=by intro h; rw [h] at h2; simp at h2
     exact bad (by unfold okL; simp [hmx0,hne,h2])
   ·have heq:nx L (mxOf L)+cnt L (mxOf L)=2 ^ mxOf L:=by
     have:((nx L (mxOf L)+cnt L (mxOf L):Nat):Int)=((2 ^ mxOf L:Nat):Int):=by simpa using h1
     exact Int.ofNat_inj.1 this
    exact tail (full_ok heq)
 refine e_huffmanDecoder_init b o _ n k m R ⟨x,hx,ifB_of (fun h=>?_) (fun h=>?_)⟩
 ·refine hz_store (Row.storeCells (vs:=hzList) (i:=0) (fun v hv=>?_) (fun j hj=>?_) fun m1 r1 f1 s1=>?_)
  ·unfold hzList at hv
   simp only [List.mem_cons,List.mem_append,List.mem_replicate,List.not_mem_nil,or_false] at hv
   rcases hv with rfl | ⟨_,rfl⟩ | rfl | rfl <;> rfl
  ·rw [hzList_len] at hj
   have:=hZ.wr j hj
   simpa using this
  ·rw [hzList_len] at f1
   have F1:Fr (HS b o) m m1:=f1.mono fun i j ⟨e,h1,h2⟩=>⟨e,by omega,by omega⟩
   refine main m1 (hnew_row (fun i v hv=>by have:=r1 i v hv; simpa using this) fun j hj=>(hZ.wr j hj).fr F1) F1 s1
 ·have h0:x=0:=by simpa using h
  obtain ⟨g1,g2,g3⟩:=hx0 h0
  subst h0
  exact main m ⟨hx,g1,g2,g3,hZ.wr⟩ (Fr.refl _ _) rfl
end Go.M
