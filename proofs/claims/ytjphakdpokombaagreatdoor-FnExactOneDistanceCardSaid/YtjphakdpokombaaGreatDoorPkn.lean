/- readHuffman: the lengths of the code length codes. readHuffman: the lengths of the codes, in the code length code. readHuffman: a block's own codes. fixedHuffman: the fixed codes' tables. nextBlock: one step from behind a block. -/
import Derived.Test.YtjphakdpokombaaGreatDoorPkm
import Derived.Test.YtjphakdpokombaaGreatDoorPkk
import Derived.Test.YtjphakdpokombaaGreatDoorPkl
namespace Go.M
open Go
set_option maxRecDepth 100000
section
variable {E:Errs} {src:List Nat}
structure AuxP (D:Rdr E src) (f bh bb cb:Nat):Prop where
 bbf:bb≠f
 cbf:cb≠f
 bbc:bb≠cb
 bbh:bb≠bh
 cbh:cb≠bh
 lob:4 < bb
 loc:4 < cb
 nb:∀ j, ¬ D.S bb j
 nc:∀ j, ¬ D.S cb j
structure Aux (D:Rdr E src) (f bh bb cb:Nat) (m:Mem):Prop where
 st:AuxP D f bh bb cb
 dlt:∀ i j,D.S i j→i < m.size
 bits:cell? m ⟨f,1035,none⟩=some (.pointer (some ⟨bb,0,none⟩))
 cbits:cell? m ⟨f,1036,none⟩=some (.pointer (some ⟨cb,0,none⟩))
 wb:∀ i,i < 316→Wr m ⟨bb,i,none⟩
 wc:∀ i,i < 19→Wr m ⟨cb,i,none⟩
 h1:HZ m f 5
 h2:HZ m f 520
 rb:∃ p,cell? m ⟨f,1,none⟩=some (.pointer p)
theorem Aux.fr {D:Rdr E src} {f bh bb cb:Nat} {m m':Mem} {S:Nat→Nat→Prop} (h:Aux D f bh bb cb m) (hf:Fr S m m') (hs:∀ j,(j=1∨5≤j)→j≤1036→ ¬ S f j):Aux D f bh bb cb m' where
 st:=h.st
 dlt:=fun i j hi=>Nat.lt_of_lt_of_le (h.dlt i j hi) hf.size
 bits:=hf.cell h.bits (hs _ (by simp) (by simp))
 cbits:=hf.cell h.cbits (hs _ (by simp) (by simp))
 wb:=fun i hi=>(h.wb i hi).fr hf
 wc:=fun i hi=>(h.wc i hi).fr hf
 h1:=h.h1.fr hf fun j h1 h2=>hs j (.inr h1) (by omega)
 h2:=h.h2.fr hf fun j h1 h2=>hs j (by omega) (by omega)
 rb:=h.rb.imp fun _ hp=>hf.cell hp (hs _ (.inl rfl) (by simp))
def RhS (D:Rdr E src) (f bb cb:Nat):Nat→Nat→Prop:=fun i j=>InS D f i j∨(i=f∧(5≤j∧j≤1034∨j=1048))∨i=bb∨i=cb
def rhEnv (f nl nd nc i:Nat):Env:=[(0,.pointer (some ⟨f,0,none⟩)),(4,.int .i64 (nl:Int)),(5,.int .i64 (nd:Int)),(6,.int .i64 (nc:Int)),(7,.int .i64 (i:Int))]
theorem and_low {N p k:Nat} (n:Nat) {M:Int} (hM:M=((2 ^ n - 1:Nat):Int)) (hn:n≤k) (hk:k≤31) (hn2:n≤8):IntKind.wrap .i64 (bitsOp .and .u32 (tk N p k:Nat) M)=(tk N p n:Nat):=by
 subst hM
 have h3:tk N p k < 2 ^ 31:=Nat.lt_of_lt_of_le (tk_lt ..) (Nat.pow_le_pow_right (by decide) hk)
 have h1:(2:Nat) ^ n≤2 ^ 8:=Nat.pow_le_pow_right (by decide) hn2
 have h4:=tk_lt N p n
 rw [and_nat rfl (by show _ < 2 ^ 32; omega) (by show _ < 2 ^ 32; omega),Nat.and_two_pow_sub_one_eq_mod,tk_low _ _ _ _ hn]
 rw [wrap64_id (by omega) (by omega)]
theorem clOrder_get {i:Nat} (h:i < 19):∃ v,clOrder[i]?=some v∧v < 19∧clOrder.idxOf v=i:=by
 have h0:∀ j:Fin 19,clOrder.getD j.val 0 < 19∧clOrder.idxOf (clOrder.getD j.val 0)=j.val:=by decide
 refine ⟨clOrder.getD i 0,?_,h0 ⟨i,h⟩⟩
 rw [List.getD_eq_getElem?_getD,List.getElem?_eq_getElem (by simpa [clOrder] using h)]; rfl
theorem clOrder_idx {s:Nat} (h:s < 19):clOrder[clOrder.idxOf s]?=some s∧clOrder.idxOf s < 19:=by
 have h0:∀ j:Fin 19,clOrder[clOrder.idxOf j.val]?=some j.val∧clOrder.idxOf j.val < 19:=by decide
 exact h0 ⟨s,h⟩
def ClAt (m:Mem) (cb:Nat) (F:Nat→Nat) (i:Nat):Prop:=∀ j v,j < i→clOrder[j]?=some v→cell? m ⟨cb,v,none⟩=some (.int .i64 ((F j:Nat):Int))
theorem ClAt.set {m m':Mem} {cb i v:Nat} {F:Nat→Nat} (h:ClAt m cb F i) (hi:i < 19) (hv:clOrder[i]?=some v) (hc:cell? m' ⟨cb,v,none⟩=some (.int .i64 ((F i:Nat):Int))) (hf:Fr (fun x y=>x=cb∧y=v) m m'):ClAt m' cb F (i+1):=by
 intro j u hj hu
 by_cases he:j=i
 ·subst he
  rw [hv] at hu
  simp only [Option.some.injEq] at hu
  subst hu; exact hc
 ·refine hf.cell (h j u (by omega) hu) ?_
  rintro ⟨_,e⟩
  simp only at e
  subst e
  obtain ⟨w,g1,_,g3⟩:=clOrder_get hi
  obtain ⟨w',k1,_,k3⟩:=clOrder_get (show j < 19 by omega)
  rw [hv] at g1
  rw [hu] at k1
  simp only [Option.some.injEq] at g1 k1
  subst g1; subst k1
  omega
theorem clAt_lens {m:Mem} {cb N p n:Nat} (h:ClAt m cb (fun j=>if j < n then tk N (p+3 * j) 3 else 0) 19):LenAt m cb 0 (clens N p n):=by
 intro i v hv
 unfold clens at hv
 rw [List.getElem?_map] at hv
 have hi:i < 19:=by
  by_cases hi:i < 19
  ·exact hi
  ·rw [List.getElem?_eq_none (by simpa using hi)] at hv; cases hv
 rw [List.getElem?_range hi] at hv
 simp only [Option.map_some,Option.some.injEq] at hv
 subst hv
 obtain ⟨g1,g2⟩:=clOrder_idx hi
 have:=h _ _ g2 g1
 rw [Nat.zero_add]
 exact this
variable {D:Rdr E src} {f bh bb cb:Nat}
theorem In.drop2 {p pos:Nat} {m:Mem} (hI:In D f p pos m) (n:Nat) (hn:p+n≤8 * pos) {K:Mem→Prop} (hk:∀ m',In D f (p+n) pos m'→Fr (InS D f) m m'→K m'):
  StW m ⟨f,3,none⟩ (.int .u32 (tk (num src) (p+n) (8 * pos - (p+n)):Nat)) fun m1=>∃ (x:Int),cell? m1 ⟨f,4,none⟩=some (.int .u64 x)∧StW m1 ⟨f,4,none⟩ (.int .u64 (IntKind.wrap .u64 (x - (n:Int)))) K:=by
 obtain ⟨w1,w2,w3,w4,w5⟩:=In.drop hI n hn hk
 have hfew:=hI.few
 refine ⟨w1,w2,w3,_,w4,?_⟩
 rw [show (((8 * pos - p:Nat):Int) - (n:Int))=((8 * pos - (p+n):Nat):Int) from by omega,wrap_u64_id (by omega) (by omega)]
 exact w5
theorem In.aux {p pos:Nat} {m m':Mem} (hI:In D f p pos m) (hA:Aux D f bh bb cb m) (hf:Fr (InS D f) m m'):Aux D f bh bb cb m':=
 hA.fr hf (by
  rintro j h1 h2 (h | ⟨_,h⟩)
  ·exact hI.apart _ h
  ·omega)
theorem rh_code {p pos nl nd nc:Nat} {m:Mem} {K:Kont} (hI:In D f p pos m) (hG:Glob E m) (hA:Aux D f bh bb cb m) (h7:8 * pos≤p+7) (hnc:nc≤19)
  (hk:∀ m' pos',In D f (p+3 * nc) pos' m'→p+3 * nc≤8 * src.length→Aux D f bh bb cb m'→8 * pos'≤p+3 * nc+7→ClAt m' cb (fun j=>if j < nc then tk (num src) (p+3 * j) 3 else 0) nc→Fr (RhS D f bb cb) m m'→K.kx 2 (rhEnv f nl nd nc nc) m')
  (he:∀ r m',8 * src.length < p+3 * nc→Fr (RhS D f bb cb) m m'→Env.get r 2=some E.cut→K.kr r m') {r:Env} (hr:Env.keep [0,4,5,6,7] r=rhEnv f nl nd nc 0):
  WPS PP 340 c_decompressor_readHuffman_rrrrrrrrrrrlrl K r m:=by
 rw [q_decompressor_readHuffman_rrrrrrrrrrrlrl]
 have hle0:=hI.le
 have hpl0:=hI.pos_le
 refine loopW ffOk mixedOk (L₀:=L_decompressor_readHuffman) (σ:=Nat×Nat) [0,4,5,6,7] (fun s=>rhEnv f nl nd nc s.1)
  (fun s m'=>s.1≤nc∧In D f (p+3 * s.1) s.2 m'∧Aux D f bh bb cb m'∧8 * s.2≤p+3 * s.1+7∧ClAt m' cb (fun j=>if j < nc then tk (num src) (p+3 * j) 3 else 0) s.1∧Fr (RhS D f bb cb) m m') (fun s=>nc - s.1) (0,pos) hr
  ⟨Nat.zero_le _,hI,hA,h7,fun j v hj=>by omega,Fr.refl _ _⟩ ?_
 rintro ⟨i,q⟩ m1 ⟨h1,hI1,hA1,h71,hC1,hF1⟩
 simp only at h1 hI1 h71 hC1
 have hG1:Glob E m1:=hG.fr hF1 (by
  rintro x y (h | ⟨rfl,_⟩ | rfl | rfl)
  ·exact InS.lo hI.lo _ _ h
  ·exact hI.lo
  ·exact hA.st.lob
  ·exact hA.st.loc)
 refine p_decompressor_readHuffman_rrrrrrrrrrrlrll f nl nd nc i m1 _ (ifB_of (fun ht=>?_) (fun ht=>?_))
 ·have hlt:i < nc:=by have:=of_decide_eq_true ht; omega
  rw [q_decompressor_readHuffman_rrrrrrrrrrrlrllrllll]
  refine needLoop (need:=3) (id:=4) [0,4,5,6,7] (rhEnv f nl nd nc i) (fun v=>[(0,.pointer (some ⟨f,0,none⟩)),(4,.int .i64 (nl:Int)),(5,.int .i64 (nd:Int)),(6,.int .i64 (nc:Int)),(7,.int .i64 (i:Int)),(8,v)])
   (fun K v m6=>K.kr [(0,.pointer (some ⟨f,0,none⟩)),(2,v),(4,.int .i64 (nl:Int)),(5,.int .i64 (nd:Int)),(6,.int .i64 (nc:Int)),(7,.int .i64 (i:Int)),(8,v)] m6)
   (fun K m h=>p_decompressor_readHuffman_rrrrrrrrrrrlrllrlllll f nl nd nc i m K h) (fun v=>rfl) hI1 hG1 (by omega) hI1.few (fun m2 q2 hI2 hF2 g1 g2 g3=>?_) (fun g m2 hI2 hF2 g1=>?_) rfl
  ·have hA2:=hI1.aux hA1 hF2
   have hql:=hI2.pos_le
   have hle1:=hI1.le
   show WPS PP 340 c_decompressor_readHuffman_rrrrrrrrrrrlrllrllr _ _ m2
   refine WPS.piece k_decompressor_readHuffman_rrrrrrrrrrrlrllrllr rfl (p_decompressor_readHuffman_rrrrrrrrrrrlrllrllr f nl nd nc i m2 _ ?_)
   obtain ⟨v,o1,o2,o3⟩:=clOrder_get (show i < 19 by omega)
   have hG2:=hG1.fr hF2 (InS.lo hI.lo)
   refine ⟨_,hA2.cbits,⟨by omega,by omega⟩,((v:Nat):Int),by rw [Int.toNat_natCast,Nat.zero_add]; exact hG2.order i v o1,_,hI2.b,rfl,⟨by omega,by omega⟩,?_⟩
   have e7:IntKind.wrap .i64 (bitsOp .and .u32 (tk (num src) (p+3 * i) (8 * q2 - (p+3 * i)):Nat) 7)=(tk (num src) (p+3 * i) 3:Nat):=and_low 3 rfl (by omega) (by omega) (by decide)
   rw [e7]
   refine StW.of rfl (by have:=hA2.wc v o2; simpa [aplus] using this) fun m3 c3 f3 _=>?_
   have c3':cell? m3 ⟨cb,v,none⟩=some (.int .i64 (tk (num src) (p+3 * i) 3:Nat)):=by simpa [aplus] using c3
   have f3':Fr (fun x y=>x=cb∧y=v) m2 m3:=f3.mono fun x y h=>by simpa [aplus] using h
   have hne:∀ j, ¬ (f=cb∧j=v):=fun j h=>hA.st.cbf h.1.symm
   have hI3:In D f (p+3 * i) q2 m3:=hI2.fr f3' (by
    rintro x y (h | ⟨rfl,_⟩) ⟨e,_⟩
    ·exact hA.st.nc y (by rw [← e]; exact h)
    ·exact hA.st.cbf e.symm)
   have hA3:Aux D f bh bb cb m3:=hA2.fr f3' (fun j _ _=>hne j)
   refine ⟨_,hI3.b,by decide,?_⟩
   have es:shrOp .u32 (tk (num src) (p+3 * i) (8 * q2 - (p+3 * i)):Nat) 3=(tk (num src) (p+3 * i+3) (8 * q2 - (p+3 * i+3)):Nat):=by
    have:=shr_tk (N:=num src) (p:=p+3 * i) (k:=8 * q2 - (p+3 * i)) (n:=3) (by omega) (by decide)
    rw [Nat.sub_sub] at this
    exact this
   rw [es]
   refine In.drop2 hI3 3 (by omega) fun m5 hI5 hF5=>?_
   have hA5:=hI3.aux hA3 hF5
   refine kn_XN ?_
   refine p_decompressor_readHuffman_rrrrrrrrrrrlrllrr f nl nd nc i m5 _ ?_
   rw [show ((i:Int)+1)=((i+1:Nat):Int) from by omega,wrap64_id (by omega) (by omega)]
   have hC5:ClAt m5 cb (fun j=>if j < nc then tk (num src) (p+3 * j) 3 else 0) (i+1):=by
    have h:=ClAt.set (m:=m2) (m':=m3) (cb:=cb) (F:=fun j=>if j < nc then tk (num src) (p+3 * j) 3 else 0) ?_ (show i < 19 by omega) o1 (by rw [if_pos hlt]; exact c3') f3'
    rotate_left
    ·intro j u hj hu
     exact hF2.cell (hC1 j u hj hu) (by
      rintro (h | ⟨e,_⟩)
      ·exact hA.st.nc _ h
      ·exact hA.st.cbf e)
    ·intro j u hj hu
     exact hF5.cell (h j u hj hu) (by
      rintro (h | ⟨e,_⟩)
      ·exact hA.st.nc _ h
      ·exact hA.st.cbf e)
   refine ⟨(i+1,q2),rfl,⟨by simp only; omega,by rw [show p+3 * (i+1)=p+3 * i+3 from by omega]; exact hI5,hA5,by simp only; omega,hC5,hF1.trans ((hF2.mono fun x y h=>.inl h).trans ((f3'.mono fun x y h=>.inr (.inr (.inr h.1))).trans (hF5.mono fun x y h=>.inl h)))⟩,by simp only; omega⟩
  ·exact he _ m2 (by omega) (hF1.trans (hF2.mono fun x y h=>.inl h)) rfl
 ·have hge:i=nc:=by have:=of_decide_eq_false ht; omega
  subst hge
  have:=hI1.pos_le
  have:=hI1.le
  exact hk m1 q hI1 (by omega) hA1 h71 hC1 hF1
def rzEnv (f nl nd i:Nat):Env:=[(0,.pointer (some ⟨f,0,none⟩)),(4,.int .i64 (nl:Int)),(5,.int .i64 (nd:Int)),(9,.int .i64 (i:Int))]
theorem rh_zero {nl nd nc:Nat} {F:Nat→Nat} {m:Mem} {K:Kont} (_hf:4 < f) (hG:Glob E m) (hA:Aux D f bh bb cb m) (hC:ClAt m cb F nc) (hF0:∀ j,nc≤j→F j=0) (hnc:nc≤19)
  (hk:∀ m',ClAt m' cb F 19→Fr (fun i _=>i=cb) m m'→K.kx 6 (rzEnv f nl nd 19) m') {r:Env} (hr:Env.keep [0,4,5,9] r=rzEnv f nl nd nc):WPS PP 340 c_decompressor_readHuffman_rrrrrrrrrrrrlrl K r m:=by
 rw [q_decompressor_readHuffman_rrrrrrrrrrrrlrl]
 refine loopW ffOk mixedOk (L₀:=L_decompressor_readHuffman) [0,4,5,9] (fun i:Nat=>rzEnv f nl nd i) (fun i m'=>i≤19∧nc≤i∧ClAt m' cb F i∧Fr (fun i _=>i=cb) m m') (fun i=>19 - i) nc hr ⟨hnc,Nat.le_refl _,hC,Fr.refl _ _⟩ ?_
 rintro i m1 ⟨h1,h2,h3,h4⟩
 have hG1:=hG.fr h4 (by rintro x y rfl; exact hA.st.loc)
 have hA1:=hA.fr h4 (by rintro j _ _ e; exact hA.st.cbf e.symm)
 refine p_decompressor_readHuffman_rrrrrrrrrrrrlrll f nl nd i m1 _ (ifB_of (fun ht=>?_) (fun ht=>?_))
 ·have hlt:i < 19:=by have:=of_decide_eq_true ht; omega
  obtain ⟨v,o1,o2,o3⟩:=clOrder_get hlt
  refine ⟨_,hA1.cbits,⟨by omega,by omega⟩,_,by rw [Int.toNat_natCast,Nat.zero_add]; exact hG1.order i v o1,⟨by omega,by omega⟩,?_⟩
  refine StW.of rfl (by have:=hA1.wc v o2; simpa [aplus] using this) fun m3 c3 f3 _=>?_
  have c3':cell? m3 ⟨cb,v,none⟩=some (.int .i64 0):=by simpa [aplus] using c3
  have f3':Fr (fun x y=>x=cb∧y=v) m1 m3:=f3.mono fun x y h=>by simpa [aplus] using h
  rw [show ((i:Int)+1)=((i+1:Nat):Int) from by omega,wrap64_id (by omega) (by omega)]
  exact ⟨i+1,rfl,⟨by omega,by omega,ClAt.set h3 hlt o1 (by rw [hF0 i h2]; exact c3') f3',h4.trans (f3'.mono fun x y h=>h.1)⟩,by omega⟩
 ·have hge:i=19:=by have:=of_decide_eq_false ht; omega
  subst hge
  exact hk m1 h3 h4
end
end Go.M

namespace Go.M
open Go
set_option maxRecDepth 100000
section
variable {E:Errs} {src:List Nat} {D:Rdr E src} {f bh bb cb:Nat}
theorem aplus0 (b n:Nat):aplus ⟨b,0,none⟩ n=⟨b,n,none⟩:=by simp [aplus]
def RlS (D:Rdr E src) (f bb:Nat):Nat→Nat→Prop:=fun i j=>InS D f i j∨(i=f∧j=1048)∨i=bb
theorem RlS.atF {p pos:Nat} {m:Mem} (hI:In D f p pos m) (hA:AuxP D f bh bb cb):∀ j,(j=1∨5≤j)→j≠1048→ ¬ RlS D f bb f j:=by
 rintro j h1 h2 ((h | ⟨_,h⟩) | ⟨_,h⟩ | h)
 ·exact hI.apart _ h
 ·omega
 ·exact h2 h
 ·exact hA.bbf h.symm
theorem RlS.lo {p pos:Nat} {m:Mem} (hI:In D f p pos m) (hA:AuxP D f bh bb cb):∀ i j,RlS D f bb i j→4 < i:=by
 rintro i j (h | ⟨rfl,_⟩ | rfl)
 ·exact InS.lo hI.lo _ _ h
 ·exact hI.lo
 ·exact hA.lob
def rlEnv (f nl nd i n:Nat):Env:=[(0,.pointer (some ⟨f,0,none⟩)),(4,.int .i64 (nl:Int)),(5,.int .i64 (nd:Int)),(10,.int .i64 (i:Int)),(11,.int .i64 (n:Int))]
def rpEnv (f nl nd i n rep b j:Nat):Env:=[(0,.pointer (some ⟨f,0,none⟩)),(4,.int .i64 (nl:Int)),(5,.int .i64 (nd:Int)),(10,.int .i64 (i:Int)),(11,.int .i64 (n:Int)),(14,.int .i64 (rep:Int)),(16,.int .i64 (b:Int)),(18,.int .i64 (j:Int))]
theorem LenAt.push {m m':Mem} {ls:List Nat} {v:Nat} (h:LenAt m bb 0 ls) (hc:cell? m' ⟨bb,ls.length,none⟩=some (.int .i64 (v:Int))) (hf:Fr (fun i j=>i=bb∧j=ls.length) m m'):LenAt m' bb 0 (ls++[v]):=by
 intro i u hu
 by_cases hi:i < ls.length
 ·rw [List.getElem?_append_left hi] at hu
  exact hf.cell (h i u hu) (by rintro ⟨_,e⟩; simp at e; omega)
 ·rw [List.getElem?_append_right (by omega)] at hu
  have h0:i - ls.length=0:=by
   by_cases h0:i - ls.length=0
   ·exact h0
   ·rw [List.getElem?_eq_none (by simp; omega)] at hu; cases hu
  rw [h0] at hu
  simp only [List.getElem?_cons_zero,Option.some.injEq] at hu
  subst hu
  rw [Nat.zero_add,show i=ls.length from by omega]
  exact hc
theorem rh_rep {nl nd n rep b:Nat} {ls:List Nat} {m:Mem} {K:Kont} (hA:Aux D f bh bb cb m) (hL:LenAt m bb 0 ls) (hn:ls.length+rep≤n) (hn2:n≤316)
  (hk:∀ m',LenAt m' bb 0 (ls++List.replicate rep b)→Fr (fun i _=>i=bb) m m'→K.kx 13 (rpEnv f nl nd (ls.length+rep) n rep b rep) m') {r:Env} (hr:Env.keep [0,4,5,10,11,14,16,18] r=rpEnv f nl nd ls.length n rep b 0):
  WPS PP 340 c_decompressor_readHuffman_rrrrrrrrrrrrrrlrllrlrrrrrrrrrrrrrl K r m:=by
 rw [q_decompressor_readHuffman_rrrrrrrrrrrrrrlrllrlrrrrrrrrrrrrrl]
 refine loopW ffOk mixedOk (L₀:=L_decompressor_readHuffman) [0,4,5,10,11,14,16,18] (fun j:Nat=>rpEnv f nl nd (ls.length+j) n rep b j) (fun j m'=>j≤rep∧LenAt m' bb 0 (ls++List.replicate j b)∧Fr (fun i _=>i=bb) m m') (fun j=>rep - j) 0 hr
  ⟨Nat.zero_le _,by simpa using hL,Fr.refl _ _⟩ ?_
 rintro j m1 ⟨h1,h2,h3⟩
 have hA1:=hA.fr h3 (by rintro j _ _ e; exact hA.st.bbf e.symm)
 refine p_decompressor_readHuffman_rrrrrrrrrrrrrrlrllrlrrrrrrrrrrrrrll f nl nd _ n rep b j m1 _ (ifB_of (fun ht=>?_) (fun ht=>?_))
 ·have hlt:j < rep:=by have:=of_decide_eq_true ht; omega
  refine ⟨_,hA1.bits,⟨by omega,by omega⟩,?_⟩
  rw [Int.toNat_natCast,aplus0]
  refine StW.at rfl (hA1.wb (ls.length+j) (by omega)) fun m2 c2' f2' _=>?_
  rw [show (((ls.length+j:Nat):Int)+1)=((ls.length+(j+1):Nat):Int) from by omega,wrap64_id (by omega) (by omega),show ((j:Int)+1)=((j+1:Nat):Int) from by omega,wrap64_id (by omega) (by omega)]
  refine ⟨j+1,rfl,⟨by omega,?_,h3.trans (f2'.mono fun x y h=>h.1)⟩,by omega⟩
  have:=LenAt.push h2 (v:=b) (m':=m2) (by simpa using c2') (by simpa using f2')
  rw [List.append_assoc, ← List.replicate_succ'] at this
  exact this
 ·have hge:j=rep:=by have:=of_decide_eq_false ht; omega
  subst hge
  exact hk m1 h2 h3
def rxEnv (f nl nd i n base nb b:Nat):Env:=[(0,.pointer (some ⟨f,0,none⟩)),(4,.int .i64 (nl:Int)),(5,.int .i64 (nd:Int)),(10,.int .i64 (i:Int)),(11,.int .i64 (n:Int)),(14,.int .i64 (base:Int)),(15,.int .u64 (nb:Int)),(16,.int .i64 (b:Int))]
theorem kx_X13 {K:Kont} {r:Env} {m:Mem} (h:K.kn r m):(K.withX 13).kx 13 r m:=h
theorem kx_XN11 {K:Kont} {f:Env→Mem→Prop} {r:Env} {m:Mem} (h:f r m):((K.withN f).withX 11).kx 11 r m:=h
theorem rh_extra {q pos nl nd n base nb b:Nat} {ls:List Nat} {m:Mem} {K:Kont} (hI:In D f q pos m) (hG:Glob E m) (hA:Aux D f bh bb cb m) (h7:8 * pos≤q+7) (hnb:nb≤7) (hbase:base≤11) (hL:LenAt m bb 0 ls) (hn:ls.length≤n) (hn2:n≤316)
  (hgo:∀ r m' ls' q' pos',lrep (sc0 (num src) (8 * src.length)) n ls b base nb q=.go ls' q'→In D f q' pos' m'→8 * pos'≤q'+7→LenAt m' bb 0 ls'→Fr (RlS D f bb) m m'→Env.keep [0,4,5,10,11] r=rlEnv f nl nd ls'.length n→K.kn r m')
  (hcut:∀ r m',lrep (sc0 (num src) (8 * src.length)) n ls b base nb q=.cut→Fr (RlS D f bb) m m'→Env.get r 2=some E.cut→K.kr r m')
  (hbad:∀ r m' x,lrep (sc0 (num src) (8 * src.length)) n ls b base nb q=.bad→Fr (RlS D f bb) m m'→Env.get r 2=some (.iface t_flate_CorruptInputError (.int .i64 x))→K.kr r m') {r:Env}
  (hr:Env.keep [0,4,5,10,11,14,15,16] r=rxEnv f nl nd ls.length n base nb b):WPS PP 340 c_decompressor_readHuffman_rrrrrrrrrrrrrrlrllrlrrrrrrr K r m:=by
 refine WPS.piece k_decompressor_readHuffman_rrrrrrrrrrrrrrlrllrlrrrrrrr hr (p_decompressor_readHuffman_rrrrrrrrrrrrrrlrllrlrrrrrrr f nl nd ls.length n base nb b m K ?_)
 rw [q_decompressor_readHuffman_rrrrrrrrrrrrrrlrllrlrrrrrrrll]
 have hle:=hI.le
 refine needLoop (need:=nb) (id:=11) [0,4,5,10,11,14,15,16] (rxEnv f nl nd ls.length n base nb b)
  (fun v=>[(0,.pointer (some ⟨f,0,none⟩)),(4,.int .i64 (nl:Int)),(5,.int .i64 (nd:Int)),(10,.int .i64 (ls.length:Int)),(11,.int .i64 (n:Int)),(14,.int .i64 (base:Int)),(15,.int .u64 (nb:Int)),(16,.int .i64 (b:Int)),(17,v)])
  (fun K v m6=>K.kr [(0,.pointer (some ⟨f,0,none⟩)),(2,v),(4,.int .i64 (nl:Int)),(5,.int .i64 (nd:Int)),(10,.int .i64 (ls.length:Int)),(11,.int .i64 (n:Int)),(14,.int .i64 (base:Int)),(15,.int .u64 (nb:Int)),(16,.int .i64 (b:Int)),(17,v)] m6)
  (fun K m h=>p_decompressor_readHuffman_rrrrrrrrrrrrrrlrllrlrrrrrrrlll f nl nd ls.length n base nb b m K h) (fun v=>rfl) hI hG (by omega) hI.few (fun m1 pos1 hI1 hF1 g1 g2 g3=>?_) (fun g m1 hI1 hF1 g1=>?_) rfl
 ·have hql:=hI1.pos_le
  have F1:Fr (RlS D f bb) m m1:=hF1.mono fun i j h=>.inl h
  refine kx_XN11 ?_
  refine WPS.piece k_decompressor_readHuffman_rrrrrrrrrrrrrrlrllrlrrrrrrrr rfl (p_decompressor_readHuffman_rrrrrrrrrrrrrrlrllrlrrrrrrrr f nl nd ls.length n base nb b m1 K ?_)
  refine ⟨_,hI1.b,by omega,rfl,_,hI1.b,by omega,?_⟩
  rw [shr_tk (by omega) (by omega),mask_tk (by omega) (by omega),Nat.sub_sub]
  have htk:tk (num src) q nb < 2 ^ nb:=tk_lt ..
  have hp7:(2:Nat) ^ nb≤2 ^ 7:=Nat.pow_le_pow_right (by decide) hnb
  refine In.drop2 hI1 nb (by omega) fun m2 hI2 hF2=>?_
  have F2:Fr (RlS D f bb) m m2:=F1.trans (hF2.mono fun i j h=>.inl h)
  have hA2:=hI1.aux (hI.aux hA hF1) hF2
  have hLe:lrep (sc0 (num src) (8 * src.length)) n ls b base nb q=if n < ls.length+(base+tk (num src) q nb) then .bad else .go (ls++List.replicate (base+tk (num src) q nb) b) (q+nb):=by
   unfold lrep
   rw [if_neg (by show ¬ 8 * src.length < _; omega)]
   rfl
  have hL2:LenAt m2 bb 0 ls:=hL.fr (hF1.trans hF2) (by
   rintro j (h | ⟨e,_⟩)
   ·exact hA.st.nb _ h
   ·exact hA.st.bbf e)
  generalize tk (num src) q nb=t at htk hLe ⊢
  rw [wrap64_id (n:=(t:Int)) (by omega) (by omega),show ((base:Int)+(t:Int))=((base+t:Nat):Int) from by omega,wrap64_id (n:=((base+t:Nat):Int)) (by omega) (by omega),show ((ls.length:Int)+((base+t:Nat):Int))=((ls.length+(base+t):Nat):Int) from by omega,wrap64_id (n:=((ls.length+(base+t):Nat):Int)) (by omega) (by omega)]
  refine ifB_of (fun ht=>?_) (fun ht=>?_)
  ·have hgt:=of_decide_eq_true ht
   rw [if_pos (by omega)] at hLe
   exact ⟨_,hI2.off,hbad _ m2 _ hLe F2 rfl⟩
  ·have hgt:=of_decide_eq_false ht
   rw [if_neg (by omega)] at hLe
   refine rh_rep hA2 hL2 (by omega) hn2 (fun m3 hL3 hF3=>kx_X13 ?_) rfl
   have hI3:In D f (q+nb) pos1 m3:=hI2.fr hF3 (by
    rintro i j (h | ⟨rfl,_⟩) e
    ·subst e; exact hA.st.nb _ h
    ·exact hA.st.bbf e.symm)
   refine hgo _ m3 _ _ pos1 hLe hI3 (by omega) hL3 (F2.trans (hF3.mono fun i j h=>.inr (.inr h))) ?_
   rw [List.length_append,List.length_replicate]
   rfl
 ·refine hcut _ m1 ?_ (hF1.mono fun i j h=>.inl h) rfl
  unfold lrep
  rw [if_pos (by show 8 * src.length < _; omega)]
theorem rh_lens {p pos nl nd n mn:Nat} {V:Nat→Nat} {B:Nat→Prop} {m:Mem} {K:Kont} (hI:In D f p pos m) (hG:Glob E m) (hA:Aux D f bh bb cb m) (h7:8 * pos≤p+7) (hT:TabAt m f 5 B mn V) (hV:CodeOk mn V) (hB:∀ i,B i→(∀ j, ¬ D.S i j)∧i≠f∧i≠bb) (hnear:∀ x,V x % 16≠0→mn≤V x % 16) (h19:∀ x,V x / 16 < 19)
  (hn2:n≤316)
  (hk:∀ m' ls p' pos',lrun (sc0 (num src) (8 * src.length)) V mn n n [] p=.go ls p'→ls.length=n→In D f p' pos' m'→8 * pos'≤p'+7→Aux D f bh bb cb m'→LenAt m' bb 0 ls→Fr (RlS D f bb) m m'→K.kx 8 (rlEnv f nl nd n n) m')
  (hcut:∀ r m',lrun (sc0 (num src) (8 * src.length)) V mn n n [] p=.cut→Fr (RlS D f bb) m m'→Env.get r 2=some E.cut→K.kr r m')
  (hbad:∀ r m' x,lrun (sc0 (num src) (8 * src.length)) V mn n n [] p=.bad→Fr (RlS D f bb) m m'→Env.get r 2=some (.iface t_flate_CorruptInputError (.int .i64 x))→K.kr r m') {r:Env}
  (hr:Env.keep [0,4,5,10,11] r=rlEnv f nl nd 0 n):WPS PP 340 c_decompressor_readHuffman_rrrrrrrrrrrrrrlrl K r m:=by
 rw [q_decompressor_readHuffman_rrrrrrrrrrrrrrlrl]
 generalize hTg:lrun (sc0 (num src) (8 * src.length)) V mn n n [] p=tg at hk hcut hbad
 refine loopW ffOk mixedOk (L₀:=L_decompressor_readHuffman) (σ:=List Nat×Nat×Nat) [0,4,5,10,11] (fun s=>rlEnv f nl nd s.1.length n)
  (fun s m'=>s.1.length≤n∧lrun (sc0 (num src) (8 * src.length)) V mn n (n - s.1.length) s.1 s.2.1=tg∧In D f s.2.1 s.2.2 m'∧8 * s.2.2≤s.2.1+7∧LenAt m' bb 0 s.1∧Fr (RlS D f bb) m m') (fun s=>n - s.1.length) ([],p,pos) hr
  ⟨Nat.zero_le _,hTg,hI,h7,fun i v h=>by simp at h,Fr.refl _ _⟩ ?_
 rintro ⟨ls,q,pos1⟩ m1 ⟨h1,h2,hI1,h71,hL1,hF1⟩
 simp only at h1 h2 hI1 h71 hL1
 have hA1:Aux D f bh bb cb m1:=hA.fr hF1 fun j g1 g2=>RlS.atF hI hA.st j g1 (by omega)
 have hG1:Glob E m1:=hG.fr hF1 (RlS.lo hI hA.st)
 refine p_decompressor_readHuffman_rrrrrrrrrrrrrrlrll f nl nd ls.length n m1 _ (ifB_of (fun ht=>?_) (fun ht=>?_))
 ·have hlt:ls.length < n:=by have:=of_decide_eq_true ht; omega
  have hst:lrun (sc0 (num src) (8 * src.length)) V mn n (n - ls.length) ls q=match lstep (sc0 (num src) (8 * src.length)) V mn n ls q with | .go ls' p'=>lrun (sc0 (num src) (8 * src.length)) V mn n (n - ls.length - 1) ls' p' | .cut=>.cut | .bad=>.bad:=by
   obtain ⟨k,hk⟩:=Nat.exists_eq_succ_of_ne_zero (show n - ls.length≠0 by omega)
   rw [hk]
   show (if _ then _ else _)=_
   rw [if_neg (by omega)]
   rfl
  rw [h2] at hst
  have goes:∀ ls' q',lstep (sc0 (num src) (8 * src.length)) V mn n ls q=.go ls' q'→ls.length < ls'.length∧ls'.length≤n∧lrun (sc0 (num src) (8 * src.length)) V mn n (n - ls'.length) ls' q'=tg:=by
   intro ls' q' h
   obtain ⟨g1,g2,_⟩:=lstep_go h hlt
   rw [h] at hst
   exact ⟨g1,g2,by rw [hst]; exact lrun_fuel (by omega) (by omega)⟩
  have hT1:TabAt m1 f 5 B mn V:=hT.fr hF1 (by
   rintro i j (⟨rfl,g1,g2⟩ | hb)
   ·exact RlS.atF hI hA.st j (.inr g1) (by omega)
   ·obtain ⟨b1,b2,b3⟩:=hB i hb
    rintro ((h | ⟨e,_⟩) | ⟨e,_⟩ | e)
    ·exact b1 _ h
    ·exact b2 e
    ·exact b2 e
    ·exact b3 e)
  have hle1:=hI1.le
  have hmn:=hV.mn
  refine huffSym_spec hI1 hG1 hT1 hV (by
   rintro i j (⟨rfl,g1,g2⟩ | hb)
   ·rintro ((h | ⟨_,h⟩) | ⟨_,h⟩)
    ·exact hI.apart _ h
    ·omega
    ·omega
   ·obtain ⟨b1,b2,b3⟩:=hB i hb
    rintro ((h | ⟨e,_⟩) | ⟨e,_⟩)
    ·exact b1 _ h
    ·exact b2 e
    ·exact b2 e) (by omega) (fun m2 pos2 g1 g2 hI2 g4 hF2=>?_) (fun m2 x pos2 g1 g2 g3 hF2=>?_) (fun m2 pos2 g1 g2 hF2=>?_)
  ·have hnr:=hnear _ g1
   have hQ:V (num src / 2 ^ q) % 16 < 16:=Nat.mod_lt _ (by decide)
   have hs:sym (sc0 (num src) (8 * src.length)) V mn q=.ok (V (num src / 2 ^ q) / 16) (q+V (num src / 2 ^ q) % 16):=by
    show (if 8 * src.length < _ then _ else _)=_
    rw [if_neg (by show ¬ 8 * src.length < q+max mn (V (num src / 2 ^ q) % 16); omega),if_neg (by exact g1)]
    rfl
   have h19x:=h19 (num src / 2 ^ q)
   have hstep:lstep (sc0 (num src) (8 * src.length)) V mn n ls q=lsym (sc0 (num src) (8 * src.length)) n ls (V (num src / 2 ^ q) / 16) (q+V (num src / 2 ^ q) % 16):=by
    unfold lstep; rw [hs]
   rw [hstep] at goes hst
   generalize V (num src / 2 ^ q) / 16=x at *
   generalize hq2:q+V (num src / 2 ^ q) % 16=q2 at *
   have F2:Fr (RlS D f bb) m m2:=hF1.trans (hF2.mono fun i j h=>.inl h)
   have hA2:Aux D f bh bb cb m2:=hI1.aux hA1 hF2
   have hG2:Glob E m2:=hG1.fr hF2 (InS.lo hI.lo)
   have h72:8 * pos2≤q2+7:=by have:=hI2.le; omega
   have hL2:LenAt m2 bb 0 ls:=hL1.fr hF2 (by
    rintro j (h | ⟨e,_⟩)
    ·exact hA.st.nb _ h
    ·exact hA.st.bbf e)
   refine ⟨_,_,rfl,rfl,ifB_f (ifB_of (fun hx=>?_) (fun hx=>?_))⟩
   ·have hx16:x < 16:=by have:=of_decide_eq_true hx; omega
    have hls:lsym (sc0 (num src) (8 * src.length)) n ls x q2=.go (ls++[x]) q2:=by unfold lsym; rw [if_pos hx16]
    obtain ⟨k1,k2,k3⟩:=goes _ _ hls
    refine ⟨_,hA2.bits,⟨by omega,by omega⟩,?_⟩
    refine StW.of rfl (by have:=hA2.wb ls.length (by omega); simpa [aplus] using this) fun m3 c3 f3 _=>?_
    have c3':cell? m3 ⟨bb,ls.length,none⟩=some (.int .i64 (x:Int)):=by simpa [aplus] using c3
    have f3':Fr (fun x y=>x=bb∧y=ls.length) m2 m3:=f3.mono fun x y h=>by simpa [aplus] using h
    rw [show ((ls.length:Int)+1)=((ls.length+1:Nat):Int) from by omega,wrap64_id (by omega) (by omega)]
    refine ⟨(ls++[x],q2,pos2),?_,⟨k2,k3,hI2.fr f3' ?_,h72,hL2.push c3' f3',F2.trans (f3'.mono fun i j h=>.inr (.inr h.1))⟩,by simp only; omega⟩
    ·simp only [List.length_append,List.length_singleton]; rfl
    ·rintro i j (h | ⟨rfl,_⟩) ⟨e,_⟩
     ·subst e; exact hA.st.nb _ h
     ·exact hA.st.bbf e.symm
   ·have hx16: ¬ x < 16:=by have:=of_decide_eq_false hx; omega
    have rep:∀ (base nb b:Nat) (v6:Value) (K0:Kont),lsym (sc0 (num src) (8 * src.length)) n ls x q2=lrep (sc0 (num src) (8 * src.length)) n ls b base nb q2→nb≤7→base≤11→K0.kn=(K.withN fun r m_1=>∃ s':List Nat×Nat×Nat,Env.keep [0,4,5,10,11] r=rlEnv f nl nd s'.1.length n∧(s'.1.length≤n∧lrun (sc0 (num src) (8 * src.length)) V mn n (n - s'.1.length) s'.1 s'.2.1=tg∧In D f s'.2.1 s'.2.2 m_1∧8 * s'.2.2≤s'.2.1+7∧LenAt m_1 bb 0 s'.1∧Fr (RlS D f bb) m m_1)∧n - s'.1.length < n - ls.length).kn→K0.kr=K.kr→
      WPS PP 340 c_decompressor_readHuffman_rrrrrrrrrrrrrrlrllrlrrrrrrr K0 [(0,.pointer (some ⟨f,0,none⟩)),(4,.int .i64 (nl:Int)),(5,.int .i64 (nd:Int)),(10,.int .i64 (ls.length:Int)),(11,.int .i64 (n:Int)),(12,.int .i64 (x:Int)),(13,v6),(14,.int .i64 (base:Int)),(15,.int .u64 (nb:Int)),(16,.int .i64 (b:Int)),(195,.int .i64 (x:Int))] m2:=by
     intro base nb b v6 K0 hls hnb hbase hkn hkr
     refine rh_extra hI2 hG2 hA2 h72 hnb hbase hL2 (by omega) hn2 (fun r m3 ls' q' pos' k1 k2 k3 k4 k5 k6=>?_) (fun r m3 k1 k2 k3=>?_) (fun r m3 y k1 k2 k3=>?_) rfl
     ·rw [hkn]
      obtain ⟨j1,j2,j3⟩:=goes _ _ (hls.trans k1)
      exact ⟨(ls',q',pos'),k6,⟨j2,j3,k2,k3,k4,F2.trans k5⟩,by simp only; omega⟩
     ·rw [hkr]
      rw [hls,k1] at hst
      exact hcut r m3 hst (F2.trans k2) k3
     ·rw [hkr]
      rw [hls,k1] at hst
      exact hbad r m3 y hst (F2.trans k2) k3
    refine ifB_of (fun hx2=>?_) (fun hx2=>?_)
    ·have hxe:x=16:=by have:=eq_of_beq hx2; omega
     subst hxe
     refine ifB_of (fun h0=>?_) (fun h0=>?_)
     ·have hl0:ls.length=0:=by have:=eq_of_beq h0; omega
      have hnil:ls=[]:=List.length_eq_zero_iff.1 hl0
      refine ⟨_,hI2.off,hbad _ m2 _ ?_ F2 rfl⟩
      rw [hst]
      unfold lsym
      rw [if_neg (by decide),if_pos rfl,if_pos hnil]
     ·have hl0:ls.length≠0:=by intro h; rw [h] at h0; simp at h0
      have hnil:ls≠[]:=fun h=>hl0 (by rw [h]; rfl)
      refine ⟨_,hA2.bits,?_⟩
      rw [show ((ls.length:Int) - 1)=((ls.length - 1:Nat):Int) from by omega,wrap64_id (by omega) (by omega)]
      refine ⟨⟨by omega,by omega⟩,((ls.getD (ls.length - 1) 0:Nat):Int),?_,?_⟩
      ·have:=hL2 (ls.length - 1) (ls.getD (ls.length - 1) 0) (by rw [List.getD_eq_getElem?_getD,List.getElem?_eq_getElem (by omega)]; rfl)
       simpa [aplus] using this
      ·exact rep 3 2 _ _ _ (by unfold lsym; rw [if_neg (by decide),if_pos rfl,if_neg hnil]) (by decide) (by decide) rfl rfl
    ·have hx2:x≠16:=by rintro rfl; simp at hx2
     refine ifB_of (fun hx3=>?_) (fun hx3=>?_)
     ·have hxe:x=17:=by have:=eq_of_beq hx3; omega
      subst hxe
      exact rep 3 3 0 _ _ (by unfold lsym; rw [if_neg (by decide),if_neg (by decide),if_pos rfl]) (by decide) (by decide) rfl rfl
     ·have hx3:x≠17:=by rintro rfl; simp at hx3
      have hxe:x=18:=by omega
      subst hxe
      refine ifB_t ?_
      exact rep 11 7 0 _ _ (by unfold lsym; rw [if_neg (by decide),if_neg (by decide),if_neg (by decide)]) (by decide) (by decide) rfl rfl
  ·refine ⟨_,_,rfl,rfl,ifB_t (hbad _ m2 x ?_ (hF1.trans (hF2.mono ?_)) rfl)⟩
   ·rw [hst]
    have hs:sym (sc0 (num src) (8 * src.length)) V mn q=.bad:=by
     show (if 8 * src.length < _ then _ else _)=_
     rw [if_neg (by show ¬ 8 * src.length < q+max mn (V (num src / 2 ^ q) % 16); omega),if_pos (by exact g1)]
    unfold lstep
    rw [hs]
   ·rintro i j (h | h)
    ·exact .inl h
    ·exact .inr (.inl h)
  ·refine ⟨_,_,rfl,rfl,ifB_t (hcut _ m2 ?_ (hF1.trans (hF2.mono ?_)) rfl)⟩
   ·rw [hst]
    have hs:sym (sc0 (num src) (8 * src.length)) V mn q=.cut:=by
     show (if 8 * src.length < _ then _ else _)=_
     rw [if_pos (by show 8 * src.length < q+max mn (V (num src / 2 ^ q) % 16); omega)]
    unfold lstep
    rw [hs]
   ·rintro i j (h | h)
    ·exact .inl h
    ·exact .inr (.inl h)
 ·have hge:ls.length=n:=by have:=of_decide_eq_false ht; omega
  rw [hge,Nat.sub_self] at h2
  have h2:Ls.go ls q=tg:=h2
  have:=hk m1 ls q pos1 h2.symm hge hI1 h71 hA1 hL1 hF1
  show K.kx 8 (rlEnv f nl nd ls.length n) m1
  rw [hge]; exact this
end
end Go.M

namespace Go.M
open Go
set_option maxRecDepth 100000
section
variable {E:Errs} {src:List Nat} {D:Rdr E src} {f bh bb cb:Nat}
theorem kx_6' {K:Kont} {f:Env→Mem→Prop} {r:Env} {m:Mem} (h:f r m):((K.withN f).withX 6).kx 6 r m:=h
theorem kx_8' {K:Kont} {f:Env→Mem→Prop} {r:Env} {m:Mem} (h:f r m):((K.withN f).withX 8).kx 8 r m:=h
theorem RlS.rh (i j:Nat) (h:RlS D f bb i j):RhS D f bb cb i j:=by
 rcases h with h | ⟨h1,h2⟩ | h
 ·exact .inl h
 ·exact .inr (.inl ⟨h1,.inr h2⟩)
 ·exact .inr (.inr (.inl h))
theorem RhS.lo {p pos:Nat} {m:Mem} (hI:In D f p pos m) (hA:AuxP D f bh bb cb):∀ i j,RhS D f bb cb i j→4 < i:=by
 rintro x y (h | ⟨rfl,_⟩ | rfl | rfl)
 ·exact InS.lo hI.lo _ _ h
 ·exact hI.lo
 ·exact hA.lob
 ·exact hA.loc
theorem HS.rh {o:Nat} (ho:5≤o) (ho2:o≤520) (i j:Nat) (h:HS f o i j):RhS D f bb cb i j:=by
 obtain ⟨rfl,h1,h2⟩:=h
 exact .inr (.inl ⟨rfl,.inl (by omega)⟩)
theorem In.hs {p pos o:Nat} {m m':Mem} (hI:In D f p pos m) (ho:5≤o) (hf:Fr (HS f o) m m'):In D f p pos m':=hI.fr hf (by
 rintro i j (h | ⟨rfl,h⟩) ⟨e,h1,h2⟩
 ·subst e; exact hI.apart _ h
 ·omega)
theorem clens_15 (N p n:Nat):∀ v ∈ clens N p n,v≤15:=by
 intro v hv
 obtain ⟨s,_,rfl⟩:=List.mem_map.1 hv
 split
 ·have:=tk_lt N (p+3 * clOrder.idxOf s) 3
  omega
 ·omega
theorem clens_len (N p n:Nat):(clens N p n).length=19:=by simp [clens]
theorem tab_idx {L:List Nat} (hL:∀ v ∈ L,v≤15) (hlen:0 < L.length) (x:Nat):tabV L x / 16 < L.length:=by
 rcases hit_dec L x with ⟨i,h⟩ | h
 ·rw [(tab_mod hL h).2]; exact (ln_mem (hit_iff.1 h).1).1
 ·rw [tab_none h]; simpa using hlen
theorem tab_near {L:List Nat} (hL:∀ v ∈ L,v≤15) (x:Nat) (h:tabV L x % 16≠0):mnOf L≤tabV L x % 16:=by
 obtain ⟨i,hi⟩:=tab_nonzero hL h
 rw [(tab_mod hL hi).1]
 exact (ln_le (hit_iff.1 hi).1).1
theorem ln_take {L:List Nat} {n i:Nat} (h:i < n):ln (L.take n) i=ln L i:=by
 unfold ln
 rw [List.getD_eq_getElem?_getD,List.getD_eq_getElem?_getD,List.getElem?_take_of_lt h]
structure HdrAt (D:Rdr E src) (f bh bb cb:Nat) (m0 m:Mem) (T:Tb) (p pos:Nat):Prop where
 inn:In D f p pos m
 few:8 * pos≤p+7
 aux:Aux D f bh bb cb m
 tab:∃ B B' V mn,T.dist=some (V,mn)∧TabAt m f 5 B T.mn T.lit∧TabAt m f 520 B' mn V∧(∀ i,B i∨B' i→m0.size≤i)∧CodeOk T.mn T.lit∧CodeOk mn V∧(∀ x,V x % 16≠0→mn≤V x % 16)∧(∀ x,T.lit x / 16=256→T.lit x % 16≠0→T.mn≤T.lit x % 16)
theorem readHuffman_spec {p pos:Nat} {m:Mem} (hI:In D f p pos m) (hG:Glob E m) (hA:Aux D f bh bb cb m) (h7:8 * pos≤p+7) {R:Value→Mem→Prop}
  (hk:∀ m' T p' pos',hdOf (num src) (8 * src.length) p=.ok T p'→HdrAt D f bh bb cb m m' T p' pos'→Fr (RhS D f bb cb) m m'→R .nilIface m')
  (hcut:∀ m',hdOf (num src) (8 * src.length) p=.cut→Fr (RhS D f bb cb) m m'→R E.cut m')
  (hbad:∀ m' n,hdOf (num src) (8 * src.length) p=.bad→Fr (RhS D f bb cb) m m'→R (.iface t_flate_CorruptInputError (.int .i64 n)) m'):
  CallM PP f_decompressor_readHuffman #[.pointer (some ⟨f,0,none⟩)] m R:=by
 have hle:=hI.le
 have hpl:=hI.pos_le
 refine e_decompressor_readHuffman f m R ?_
 rw [q_decompressor_readHuffman_rll]
 refine needLoop (need:=14) (id:=0) [0] [(0,.pointer (some ⟨f,0,none⟩))] (fun v=>[(0,.pointer (some ⟨f,0,none⟩)),(3,v)]) (fun K v m6=>K.kr [(0,.pointer (some ⟨f,0,none⟩)),(2,v),(3,v)] m6)
  (fun K m h=>p_decompressor_readHuffman_rlll f m K h) (fun v=>rfl) hI hG (by omega) hI.few (fun m1 pos1 hI1 hF1 g1 g2 g3=>?_) (fun g m1 hI1 hF1 g1=>?_) rfl
 rotate_left
 ·show R E.cut m1
  refine hcut m1 ?_ (hF1.mono fun i j h=>.inl h)
  unfold hdOf
  rw [if_pos g1]
 have hql:=hI1.pos_le
 have F1:Fr (RhS D f bb cb) m m1:=hF1.mono fun i j h=>.inl h
 have hA1:=hI.aux hA hF1
 have hG1:=hG.fr F1 (RhS.lo hI hA.st)
 have hH:hdOf (num src) (8 * src.length) p=if 29 < tk (num src) p 5 then .bad else if 29 < tk (num src) (p+5) 5 then .bad else if 8 * src.length < p+14+3 * (tk (num src) (p+10) 4+4) then .cut
   else hdLens (num src) (8 * src.length) (tk (num src) p 5+257) (tk (num src) (p+5) 5+1) (tk (num src) (p+10) 4+4) (p+14):=by
  unfold hdOf
  rw [if_neg (by omega)]
 rw [hH] at hk hcut hbad
 refine kx_0 ?_
 refine WPS.piece k_decompressor_readHuffman_rr rfl (p_decompressor_readHuffman_rr f m1 _ ?_)
 have t5:=tk_lt (num src) p 5
 have t55:=tk_lt (num src) (p+5) 5
 have t10:=tk_lt (num src) (p+10) 4
 have e1:IntKind.wrap .i64 (bitsOp .and .u32 (tk (num src) p (8 * pos1 - p):Nat) 31)=(tk (num src) p 5:Nat):=and_low 5 rfl (by omega) (by omega) (by decide)
 refine ⟨_,hI1.b,rfl,?_⟩
 rw [e1,show ((tk (num src) p 5:Nat):Int)+257=((tk (num src) p 5+257:Nat):Int) from by omega,wrap64_id (by omega) (by omega)]
 refine ifB_of (fun ht=>?_) (fun ht=>?_)
 ·have hgt:=of_decide_eq_true ht
  refine ⟨_,hI1.off,?_⟩
  exact hbad m1 _ (by rw [if_pos (by omega)]) F1
 have hn1:=of_decide_eq_false ht
 rw [if_neg (by omega)] at hk hcut hbad
 have s1:shrOp .u32 (tk (num src) p (8 * pos1 - p):Nat) 5=(tk (num src) (p+5) (8 * pos1 - p - 5):Nat):=shr_tk (N:=num src) (p:=p) (k:=8 * pos1 - p) (n:=5) (by omega) (by decide)
 refine ⟨_,hI1.b,by decide,?_⟩
 rw [s1]
 refine StW.at rfl (hI1.own 3 (by decide)) fun m2 c2 f2 _=>⟨_,c2,rfl,?_⟩
 have i2:=hI1.to0.set f2 (by decide) (by decide)
 have F2:Fr (RhS D f bb cb) m m2:=F1.trans (f2.mono (by rintro i j ⟨rfl,rfl⟩; exact .inl (.inr ⟨rfl,.inr (by decide)⟩)))
 have e2:IntKind.wrap .i64 (bitsOp .and .u32 (tk (num src) (p+5) (8 * pos1 - p - 5):Nat) 31)=(tk (num src) (p+5) 5:Nat):=and_low 5 rfl (by omega) (by omega) (by decide)
 rw [e2,show ((tk (num src) (p+5) 5:Nat):Int)+1=((tk (num src) (p+5) 5+1:Nat):Int) from by omega,wrap64_id (by omega) (by omega)]
 refine ifB_of (fun ht=>?_) (fun ht=>?_)
 ·have hgt:=of_decide_eq_true ht
  refine ⟨_,i2.off,?_⟩
  exact hbad m2 _ (by rw [if_pos (by omega)]) F2
 have hn2:=of_decide_eq_false ht
 rw [if_neg (by omega)] at hk hcut hbad
 have s2:shrOp .u32 (tk (num src) (p+5) (8 * pos1 - p - 5):Nat) 5=(tk (num src) (p+10) (8 * pos1 - p - 10):Nat):=by
  have:=shr_tk (N:=num src) (p:=p+5) (k:=8 * pos1 - p - 5) (n:=5) (by omega) (by decide)
  rw [show p+5+5=p+10 from by omega,Nat.sub_sub] at this
  exact this
 refine ⟨_,c2,by decide,?_⟩
 rw [s2]
 refine StW.at rfl (i2.own 3 (by decide)) fun m3 c3 f3 _=>⟨_,c3,rfl,_,c3,by decide,?_⟩
 have i3:=i2.set f3 (by decide) (by decide)
 have e3:IntKind.wrap .i64 (bitsOp .and .u32 (tk (num src) (p+10) (8 * pos1 - p - 10):Nat) 15)=(tk (num src) (p+10) 4:Nat):=and_low 4 rfl (by omega) (by omega) (by decide)
 have s3:shrOp .u32 (tk (num src) (p+10) (8 * pos1 - p - 10):Nat) 4=(tk (num src) (p+14) (8 * pos1 - (p+14)):Nat):=by
  have:=shr_tk (N:=num src) (p:=p+10) (k:=8 * pos1 - p - 10) (n:=4) (by omega) (by decide)
  rw [show p+10+4=p+14 from by omega,show 8 * pos1 - p - 10 - 4=8 * pos1 - (p+14) from by omega] at this
  exact this
 rw [s3]
 refine StW.at rfl (i3.own 3 (by decide)) fun m4 c4 f4 _=>?_
 have i4:=i3.set f4 (by decide) (by decide)
 refine ⟨_,f4.cell (f3.cell (f2.cell hI1.nb (by simp)) (by simp)) (by simp),?_⟩
 rw [show (((8 * pos1 - p:Nat):Int) - 14)=((8 * pos1 - (p+14):Nat):Int) from by omega,wrap_u64_id (by omega) (by omega)]
 refine StW.at rfl (i4.own 4 (by decide)) fun m5 c5 f5 _=>?_
 have i5:=i4.set f5 (by decide) (by decide)
 have I5:In D f (p+14) pos1 m5:=i5.of (f5.cell c4 (by simp)) c5 (by omega) (by omega)
 have f25:Fr (InS D f) m1 m5:=by
  refine (f2.mono ?_).trans ((f3.mono ?_).trans ((f4.mono ?_).trans (f5.mono ?_))) <;> (rintro i j ⟨rfl,rfl⟩; exact .inr ⟨rfl,.inr (by decide)⟩)
 have F5:Fr (RhS D f bb cb) m m5:=F1.trans (f25.mono fun i j h=>.inl h)
 have A5:=hI1.aux hA1 f25
 have G5:=hG.fr F5 (RhS.lo hI hA.st)
 rw [e3,show ((tk (num src) (p+10) 4:Nat):Int)+4=((tk (num src) (p+10) 4+4:Nat):Int) from by omega,wrap64_id (by omega) (by omega)]
 generalize hnl:tk (num src) p 5+257=nl at hk hcut hbad ⊢
 generalize hnd:tk (num src) (p+5) 5+1=nd at hk hcut hbad ⊢
 generalize hnc:tk (num src) (p+10) 4+4=nc at hk hcut hbad ⊢
 refine rh_code I5 G5 A5 (by omega) (by omega) (fun m6 pos6 I6 k1 A6 k2 C6 F6=>?_) (fun r m6 k1 F6 k2=>?_) rfl
 rotate_left
 ·show resW PP r_decompressor_readHuffman [] r m6 R
  simp only [r_decompressor_readHuffman,resW,k2]
  exact hcut m6 (by rw [if_pos k1]) (F5.trans F6)
 rw [if_neg (by omega)] at hk hcut hbad
 have G6:=G5.fr F6 (RhS.lo hI hA.st)
 refine kx_2 ?_
 refine WPS.piece k_decompressor_readHuffman_rrrrrrrrrrrr rfl (p_decompressor_readHuffman_rrrrrrrrrrrr f nl nd nc m6 _ ?_)
 refine rh_zero hI.lo G6 A6 C6 (fun j hj=>by rw [if_neg (by omega)]) (by omega) (fun m7 C7 F7=>kx_6' ?_) rfl
 have F57:Fr (RhS D f bb cb) m m7:=F5.trans (F6.trans (F7.mono fun i j h=>.inr (.inr (.inr h))))
 have I7:In D f (p+14+3 * nc) pos6 m7:=I6.fr F7 (by
  rintro i j (h | ⟨rfl,_⟩) e
  ·subst e; exact hA.st.nc _ h
  ·exact hA.st.cbf e.symm)
 have A7:Aux D f bh bb cb m7:=A6.fr F7 (by rintro j _ _ e; exact hA.st.cbf e.symm)
 have G7:=hG.fr F57 (RhS.lo hI hA.st)
 have hC15:=clens_15 (num src) (p+14) nc
 have hClen:=clens_len (num src) (p+14) nc
 have hCA:LenAt m7 cb 0 (clens (num src) (p+14) nc):=clAt_lens C7
 refine WPS.piece k_decompressor_readHuffman_rrrrrrrrrrrrr rfl (p_decompressor_readHuffman_rrrrrrrrrrrrr f nl nd m7 _ ⟨_,A7.cbits,⟨by decide,by decide⟩,?_⟩)
 rw [aplus0]
 unfold hdLens at hk hcut hbad
 generalize clens (num src) (p+14) nc=C at hC15 hClen hCA hk hcut hbad
 refine init_spec hC15 hClen (by decide) A7.h1 hCA (by decide) hA.st.cbf (fun m8 hok F8 Z8 hT8=>⟨true,rfl,ifB_f ?_⟩) (fun m8 hok F8 Z8=>⟨false,rfl,ifB_t ?_⟩)
 rotate_left
 ·have I8:=I7.hs (by decide) F8
  refine ⟨_,I8.off,?_⟩
  exact hbad m8 _ (by rw [hok]; rfl) (F57.trans (F8.mono (HS.rh (by decide) (by decide))))
 rw [if_pos hok] at hk hcut hbad
 obtain ⟨B8,T8,hB8⟩:=hT8
 have I8:=I7.hs (by decide) F8
 have F58:Fr (RhS D f bb cb) m m8:=F57.trans (F8.mono (HS.rh (by decide) (by decide)))
 have G8:=hG.fr F58 (RhS.lo hI hA.st)
 have A8:Aux D f bh bb cb m8:=by
  have noHS:∀ j, ¬ (5≤j∧j≤519)→ ¬ HS f 5 f j:=fun j h1 h2=>h1 ⟨h2.2.1,by have:=h2.2.2; omega⟩
  exact ⟨hA.st,fun i j h=>Nat.lt_of_lt_of_le (A7.dlt i j h) F8.size,F8.cell A7.bits (noHS _ (by simp)),F8.cell A7.cbits (noHS _ (by simp)),fun i hi=>(A7.wb i hi).fr F8,fun i hi=>(A7.wc i hi).fr F8,Z8,A7.h2.fr F8 (by rintro j g1 g2 ⟨_,_,h⟩; omega),A7.rb.imp fun _ hp=>F8.cell hp (noHS _ (by simp))⟩
 have hsz7:∀ i,B8 i→(∀ j, ¬ D.S i j)∧i≠f∧i≠bb:=by
  intro i hi
  have hb:=(hB8 i hi).1
  refine ⟨fun j h=>?_,?_,?_⟩
  ·have:=A7.dlt i j h; omega
  ·rintro rfl; have:=cell_block I7.r; simp only at this; omega
  ·rintro rfl
   obtain ⟨⟨v,hv⟩,_⟩:=A7.wb 0 (by decide)
   have:=cell_block hv
   simp only at this; omega
 have hnn:nl+nd≤316:=by omega
 rw [show ((nl:Int)+(nd:Int))=((nl+nd:Nat):Int) from by omega,wrap64_id (by omega) (by omega)]
 have hmn15:mnOf C≤15:=by have:=(mm_spec C).2.1; have:=mx_15 hC15; omega
 refine rh_lens I8 G8 A8 (by omega) T8 (codeOk hC15 hok _ (Nat.le_refl _) hmn15) hsz7 (tab_near hC15) (fun x=>by have:=tab_idx hC15 (by omega) x; omega) hnn (fun m9 ls p9 pos9 k1 k2 I9 k3 A9 L9 F9=>kx_8' ?_) (fun r m9 k1 F9 k2=>?_) (fun r m9 x k1 F9 k2=>?_) rfl
 ·rw [k1] at hk hcut hbad
  simp only at hk hcut hbad
  unfold hdCodes at hk hcut hbad
  have hl15:=(lrun_go (by simp) (by simp) (by show p+14+3 * nc≤8 * src.length; omega) (by simp) k1).2.2.2
  have F59:Fr (RhS D f bb cb) m m9:=F58.trans (F9.mono RlS.rh)
  have hA15:∀ v ∈ ls.take nl,v≤15:=fun v hv=>hl15 v (List.mem_of_mem_take hv)
  have hD15:∀ v ∈ ls.drop nl,v≤15:=fun v hv=>hl15 v (List.mem_of_mem_drop hv)
  have hAlen:(ls.take nl).length=nl:=by rw [List.length_take]; omega
  have hDlen:(ls.drop nl).length=nd:=by rw [List.length_drop]; omega
  have LA:LenAt m9 bb 0 (ls.take nl):=fun i v hv=>by
   have hi:i < nl:=by have:=(List.getElem?_eq_some_iff.1 hv).1; omega
   rw [List.getElem?_take_of_lt hi] at hv
   exact L9 i v hv
  have LD:∀ {m':Mem} {S:Nat→Nat→Prop},Fr S m9 m'→(∀ j, ¬ S bb j)→LenAt m' bb nl (ls.drop nl):=fun {m' S} hF hS i v hv=>by
   rw [List.getElem?_drop] at hv
   have:=hF.cell (L9 (nl+i) v hv) (hS _)
   rwa [Nat.zero_add] at this
  refine WPS.piece k_decompressor_readHuffman_rrrrrrrrrrrrrrr rfl (p_decompressor_readHuffman_rrrrrrrrrrrrrrr f nl nd m9 _ ⟨_,A9.bits,⟨by omega,by omega⟩,⟨by decide,by omega⟩,?_⟩)
  rw [aplus0,Int.toNat_natCast,Nat.sub_zero]
  refine init_spec hA15 hAlen (by omega) A9.h1 LA (by omega) hA.st.bbf (fun m10 ok10 F10 Z10 hT10=>⟨true,rfl,ifB_f ?_⟩) (fun m10 ok10 F10 Z10=>⟨false,rfl,ifB_t ?_⟩)
  rotate_left
  ·have I10:=I9.hs (by decide) F10
   refine ⟨_,I10.off,?_⟩
   exact hbad m10 _ (by rw [ok10]; simp) (F59.trans (F10.mono (HS.rh (by decide) (by decide))))
  have I10:=I9.hs (by decide) F10
  obtain ⟨B10,T10,hB10⟩:=hT10
  have F510:Fr (RhS D f bb cb) m m10:=F59.trans (F10.mono (HS.rh (by decide) (by decide)))
  have hnoHS:∀ (o j:Nat), ¬ HS f o bb j:=fun o j h=>hA.st.bbf h.1
  refine ⟨_,F10.cell A9.bits (by rintro ⟨_,_,h⟩; simp at h),?_⟩
  rw [show ((nl:Int)+(nd:Int))=((nl+nd:Nat):Int) from by omega,wrap64_id (by omega) (by omega)]
  refine ⟨⟨by omega,by omega⟩,⟨by omega,by omega⟩,?_⟩
  simp only [Int.toNat_natCast]
  rw [if_neg (by omega),aplus0,show nl+nd - nl=nd from by omega]
  have H2:HZ m10 f 520:=A9.h2.fr F10 (by rintro j g1 g2 ⟨_,_,h⟩; omega)
  refine init_spec hD15 hDlen (by omega) H2 (LD F10 (hnoHS 5)) (by omega) hA.st.bbf (fun m11 ok11 F11 Z11 hT11=>⟨true,rfl,ifB_f ?_⟩) (fun m11 ok11 F11 Z11=>⟨false,rfl,ifB_t ?_⟩)
  rotate_left
  ·have I11:=I10.hs (by decide) F11
   refine ⟨_,I11.off,?_⟩
   exact hbad m11 _ (by rw [ok11]; simp) (F510.trans (F11.mono (HS.rh (by decide) (by decide))))
  rw [if_pos ⟨ok10,ok11⟩] at hk
  have I11:=I10.hs (by decide) F11
  obtain ⟨B11,T11,hB11⟩:=hT11
  have F511:Fr (RhS D f bb cb) m m11:=F510.trans (F11.mono (HS.rh (by decide) (by decide)))
  have hbits11:cell? m11 ⟨f,1035,none⟩=some (.pointer (some ⟨bb,0,none⟩)):=F11.cell (F10.cell A9.bits (by rintro ⟨_,_,h⟩; simp at h)) (by rintro ⟨_,_,h⟩; simp at h)
  have hfm:f < m9.size:=by have:=cell_block I9.r; simpa using this
  have T10':TabAt m11 f 5 B10 (mnOf (ls.take nl)) (tabV (ls.take nl)):=T10.fr F11 (by
   rintro i j (⟨rfl,g1,g2⟩ | hb) ⟨e,g3,g4⟩
   ·omega
   ·have:=(hB10 i hb).1
    omega)
  have hsz:m.size≤m9.size:=F59.size
  have h256:ls[256]?=some (ln (ls.take nl) 256):=by
   rw [ln_take (by omega)]
   unfold ln
   rw [List.getD_eq_getElem?_getD,List.getElem?_eq_getElem (by omega)]; rfl
  have c256:cell? m11 (aplus ⟨bb,0,none⟩ 256)=some (.int .i64 ((ln (ls.take nl) 256:Nat):Int)):=by
   rw [aplus0]
   have:=F11.cell (F10.cell (L9 256 _ h256) (hnoHS 5 _)) (hnoHS 520 _)
   simpa using this
  have hm15:mnOf (ls.take nl)≤15:=by have:=(mm_spec (ls.take nl)).2.1; have:=mx_15 hA15; omega
  have hd15:mnOf (ls.drop nl)≤15:=by have:=(mm_spec (ls.drop nl)).2.1; have:=mx_15 hD15; omega
  have hln15:=ln_15 hA15 256
  have done:∀ m12,Fr (fun i j=>i=f∧j=5) m11 m12→cell? m12 ⟨f,5,none⟩=some (.int .i64 ((max (mnOf (ls.take nl)) (ln (ls.take nl) 256):Nat):Int))→R .nilIface m12:=by
   intro m12 F12 c12
   have I12:In D f p9 pos9 m12:=I11.hs (o:=5) (by decide) (F12.mono (by rintro i j ⟨rfl,rfl⟩; exact ⟨rfl,by decide,by decide⟩))
   have F512:Fr (RhS D f bb cb) m m12:=F511.trans (F12.mono (by rintro i j ⟨rfl,rfl⟩; exact .inr (.inl ⟨rfl,.inl (by decide)⟩)))
   have hno:∀ j,j≤519→ ¬ HS f 520 f j:=by rintro j hj ⟨_,h,_⟩; omega
   have z1:HZ m12 f 5:=by
    obtain ⟨⟨x,hx,hx0⟩,hw⟩:=Z10
    refine ⟨⟨_,c12,fun h0=>?_⟩,fun j hj=>((hw j hj).fr F11).fr F12⟩
    have hx1:x=((mnOf (ls.take nl):Nat):Int):=by
     have:=T10.min
     rw [hx] at this
     simpa using this
    obtain ⟨q1,q2,q3⟩:=hx0 (by omega)
    refine ⟨fun r hr=>F12.cell (F11.cell (q1 r hr) (hno _ (by simp only; omega))) (by simp only; omega),F12.cell (F11.cell q2 (hno _ (by simp))) (by simp),F12.cell (F11.cell q3 (hno _ (by simp))) (by simp)⟩
   have A12:Aux D f bh bb cb m12:=⟨hA.st,fun i j h=>Nat.lt_of_lt_of_le (hA.dlt i j h) F512.size,F12.cell hbits11 (by simp),F12.cell (F11.cell (F10.cell A9.cbits (by rintro ⟨_,_,h⟩; simp at h)) (by rintro ⟨_,_,h⟩; simp at h)) (by simp),fun i hi=>(hA.wb i hi).fr F512,fun i hi=>(hA.wc i hi).fr F512,z1,Z11.fr F12 (by rintro j g1 g2 ⟨_,h⟩; omega),hA.rb.imp fun _ hp=>F512.cell hp (by
    rintro ((h | ⟨_,h⟩) | ⟨_,h⟩ | h | h)
    ·exact hI.apart _ h
    ·simp at h
    ·simp at h
    ·exact hA.st.bbf h.symm
    ·exact hA.st.cbf h.symm)⟩
   have hcm:CodeOk (max (mnOf (ls.take nl)) (ln (ls.take nl) 256)) (tabV (ls.take nl)):=codeOk hA15 ok10 _ (Nat.le_max_left _ _) (by omega)
   refine hk m12 _ p9 pos9 rfl ⟨I12,k3,A12,B10,B11,_,_,rfl,⟨c12,fun x=>?_,T10.small⟩,T11.fr F12 ?_,fun i hi=>?_,hcm,codeOk hD15 ok11 _ (Nat.le_refl _) hd15,tab_near hD15,fun x h1 h2=>?_⟩ F512
   ·obtain ⟨cc,q1,q2,q3⟩:=T10'.look x
    have hx512:x % 512 < 512:=Nat.mod_lt _ (by decide)
    have hBm:∀ i,B10 i→i≠f:=fun i hi=>by have:=(hB10 i hi).1; omega
    refine ⟨cc,F12.cell q1 (by simp only; omega),q2,?_⟩
    rcases q3 with q3 | ⟨q3,lb,lo,ll,lk,q4,q5,q6,tb,to,tl,tk',q7,q8,kk,q9,q10,q11,q12⟩
    ·exact .inl q3
    ·exact .inr ⟨q3,lb,lo,ll,lk,F12.cell q4 (by simp),q5,q6,tb,to,tl,tk',F12.cell q7 (fun h=>hBm lb q5 h.1),q8,kk,F12.cell q9 (by simp),q10,q11,F12.cell q12 (fun h=>hBm tb q8 h.1)⟩
   ·rintro i j (⟨rfl,g1,g2⟩ | hb) ⟨e,g3⟩
    ·omega
    ·have:=(hB11 i hb).1
     have:=F10.size
     omega
   ·have:=F10.size
    rcases hi with hi | hi
    ·have:=(hB10 i hi).1
     omega
    ·have:=(hB11 i hi).1
     omega
   ·obtain ⟨i,hi⟩:=tab_nonzero hA15 h2
    obtain ⟨q1,q2⟩:=tab_mod hA15 hi
    rw [q2] at h1
    subst h1
    rw [q1]
    have:=ln_le (hit_iff.1 hi).1
    exact Nat.max_le.2 ⟨this.1,Nat.le_refl _⟩
  refine ⟨_,T10'.min,_,hbits11,⟨by decide,by decide⟩,_,c256,ifB_of (fun ht=>?_) (fun ht=>?_)⟩
  ·have hlt:=of_decide_eq_true ht
   refine ⟨_,hbits11,⟨by decide,by decide⟩,_,c256,?_⟩
   refine StW.at rfl (I11.own 5 (by decide)) fun m12 c12 f12 _=>?_
   refine WPS.piece k_decompressor_readHuffman_rrrrrrrrrrrrrrrrr rfl (p_decompressor_readHuffman_rrrrrrrrrrrrrrrrr m12 _ ?_)
   exact done m12 f12 (by rw [c12]; congr 3; omega)
  ·have hge:=of_decide_eq_false ht
   refine WPS.piece k_decompressor_readHuffman_rrrrrrrrrrrrrrrrr rfl (p_decompressor_readHuffman_rrrrrrrrrrrrrrrrr m11 _ ?_)
   exact done m11 (Fr.refl _ _) (by rw [T10'.min]; congr 3; omega)
 ·show resW PP r_decompressor_readHuffman [] r m9 R
  simp only [r_decompressor_readHuffman,resW,k2]
  exact hcut m9 (by rw [k1]) (F58.trans (F9.mono RlS.rh))
 ·show resW PP r_decompressor_readHuffman [] r m9 R
  simp only [r_decompressor_readHuffman,resW,k2]
  exact hbad m9 x (by rw [k1]) (F58.trans (F9.mono RlS.rh))
end
end Go.M

namespace Go.M
open Go
set_option maxRecDepth 100000
theorem z_288_int:zeroOf PP t_288_int=some (.agg (Array.replicate 288 (.int .i64 0))):=by kernel_rfl
theorem z_huffman:zeroOf PP t_flate_huffmanDecoder=some (.agg hzList.toArray):=by kernel_rfl
def Same1 (m:Mem) (b lo hi v:Nat):Prop:=∀ j,lo≤j→j < hi→cell? m ⟨b,j,none⟩=some (.int .i64 (v:Int))
theorem Same1.fr {m m':Mem} {b lo hi v:Nat} {S:Nat→Nat→Prop} (h:Same1 m b lo hi v) (hf:Fr S m m') (hs:∀ j,lo≤j→j < hi→ ¬ S b j):Same1 m' b lo hi v:=fun j h1 h2=>hf.cell (h j h1 h2) (hs j h1 h2)
theorem fix_loop0 {b:Nat} {m:Mem} {K:Kont} (hw:∀ j,j < 288→Wr m ⟨b,j,none⟩)
  (hk:∀ m',Same1 m' b 0 144 8→Fr (fun i j=>i=b∧0≤j∧j < 144) m m'→K.kx 0 [(1,.pointer (some ⟨b,0,none⟩)),(2,.int .i64 144)] m') {r:Env}
  (hr:Env.keep [1,2] r=[(1,.pointer (some ⟨b,0,none⟩)),(2,.int .i64 ((0:Nat):Int))]):WPS PP 36 c_inflate_fixedHuffman_rrlrl K r m:=by
 rw [q_inflate_fixedHuffman_rrlrl]
 refine loopW ffOk mixedOk (L₀:=L_inflate_fixedHuffman) [1,2] (fun i:Nat=>[(1,.pointer (some ⟨b,0,none⟩)),(2,.int .i64 (i:Int))]) (fun i m'=>0≤i∧i≤144∧Same1 m' b 0 i 8∧Fr (fun i j=>i=b∧0≤j∧j < 144) m m') (fun i=>144 - i) 0 hr
  ⟨Nat.le_refl _,by decide,fun j h1 h2=>by omega,Fr.refl _ _⟩ ?_
 rintro i m1 ⟨h1,h2,h3,h4⟩
 refine p_inflate_fixedHuffman_rrlrll b i m1 _ (ifB_of (fun ht=>?_) (fun ht=>?_))
 ·have hlt:i < 144:=by have:=of_decide_eq_true ht; omega
  refine ⟨⟨by omega,by omega⟩,?_⟩
  rw [Int.toNat_natCast,Nat.zero_add]
  refine StW.at rfl ((hw i (by omega)).fr h4) fun m2 c2 f2 _=>?_
  rw [show ((i:Int)+1)=((i+1:Nat):Int) from by omega,wrap64_id (by omega) (by omega)]
  refine ⟨i+1,rfl,⟨by omega,by omega,fun j g1 g2=>?_,h4.trans (f2.mono fun x y h=>⟨h.1,by omega,by omega⟩)⟩,by omega⟩
  by_cases hj:j=i
  ·subst hj; exact c2
  ·exact f2.cell (h3 j g1 (by omega)) (by rintro ⟨_,e⟩; exact hj e)
 ·have hge:i=144:=by have:=of_decide_eq_false ht; omega
  subst hge
  exact hk m1 h3 h4
theorem fix_loop1 {b:Nat} {m:Mem} {K:Kont} (hw:∀ j,j < 288→Wr m ⟨b,j,none⟩)
  (hk:∀ m',Same1 m' b 144 256 9→Fr (fun i j=>i=b∧144≤j∧j < 256) m m'→K.kx 2 [(1,.pointer (some ⟨b,0,none⟩)),(3,.int .i64 256)] m') {r:Env}
  (hr:Env.keep [1,3] r=[(1,.pointer (some ⟨b,0,none⟩)),(3,.int .i64 ((144:Nat):Int))]):WPS PP 36 c_inflate_fixedHuffman_rrrlrl K r m:=by
 rw [q_inflate_fixedHuffman_rrrlrl]
 refine loopW ffOk mixedOk (L₀:=L_inflate_fixedHuffman) [1,3] (fun i:Nat=>[(1,.pointer (some ⟨b,0,none⟩)),(3,.int .i64 (i:Int))]) (fun i m'=>144≤i∧i≤256∧Same1 m' b 144 i 9∧Fr (fun i j=>i=b∧144≤j∧j < 256) m m') (fun i=>256 - i) 144 hr
  ⟨Nat.le_refl _,by decide,fun j h1 h2=>by omega,Fr.refl _ _⟩ ?_
 rintro i m1 ⟨h1,h2,h3,h4⟩
 refine p_inflate_fixedHuffman_rrrlrll b i m1 _ (ifB_of (fun ht=>?_) (fun ht=>?_))
 ·have hlt:i < 256:=by have:=of_decide_eq_true ht; omega
  refine ⟨⟨by omega,by omega⟩,?_⟩
  rw [Int.toNat_natCast,Nat.zero_add]
  refine StW.at rfl ((hw i (by omega)).fr h4) fun m2 c2 f2 _=>?_
  rw [show ((i:Int)+1)=((i+1:Nat):Int) from by omega,wrap64_id (by omega) (by omega)]
  refine ⟨i+1,rfl,⟨by omega,by omega,fun j g1 g2=>?_,h4.trans (f2.mono fun x y h=>⟨h.1,by omega,by omega⟩)⟩,by omega⟩
  by_cases hj:j=i
  ·subst hj; exact c2
  ·exact f2.cell (h3 j g1 (by omega)) (by rintro ⟨_,e⟩; exact hj e)
 ·have hge:i=256:=by have:=of_decide_eq_false ht; omega
  subst hge
  exact hk m1 h3 h4
theorem fix_loop2 {b:Nat} {m:Mem} {K:Kont} (hw:∀ j,j < 288→Wr m ⟨b,j,none⟩)
  (hk:∀ m',Same1 m' b 256 280 7→Fr (fun i j=>i=b∧256≤j∧j < 280) m m'→K.kx 4 [(1,.pointer (some ⟨b,0,none⟩)),(4,.int .i64 280)] m') {r:Env}
  (hr:Env.keep [1,4] r=[(1,.pointer (some ⟨b,0,none⟩)),(4,.int .i64 ((256:Nat):Int))]):WPS PP 36 c_inflate_fixedHuffman_rrrrlrl K r m:=by
 rw [q_inflate_fixedHuffman_rrrrlrl]
 refine loopW ffOk mixedOk (L₀:=L_inflate_fixedHuffman) [1,4] (fun i:Nat=>[(1,.pointer (some ⟨b,0,none⟩)),(4,.int .i64 (i:Int))]) (fun i m'=>256≤i∧i≤280∧Same1 m' b 256 i 7∧Fr (fun i j=>i=b∧256≤j∧j < 280) m m') (fun i=>280 - i) 256 hr
  ⟨Nat.le_refl _,by decide,fun j h1 h2=>by omega,Fr.refl _ _⟩ ?_
 rintro i m1 ⟨h1,h2,h3,h4⟩
 refine p_inflate_fixedHuffman_rrrrlrll b i m1 _ (ifB_of (fun ht=>?_) (fun ht=>?_))
 ·have hlt:i < 280:=by have:=of_decide_eq_true ht; omega
  refine ⟨⟨by omega,by omega⟩,?_⟩
  rw [Int.toNat_natCast,Nat.zero_add]
  refine StW.at rfl ((hw i (by omega)).fr h4) fun m2 c2 f2 _=>?_
  rw [show ((i:Int)+1)=((i+1:Nat):Int) from by omega,wrap64_id (by omega) (by omega)]
  refine ⟨i+1,rfl,⟨by omega,by omega,fun j g1 g2=>?_,h4.trans (f2.mono fun x y h=>⟨h.1,by omega,by omega⟩)⟩,by omega⟩
  by_cases hj:j=i
  ·subst hj; exact c2
  ·exact f2.cell (h3 j g1 (by omega)) (by rintro ⟨_,e⟩; exact hj e)
 ·have hge:i=280:=by have:=of_decide_eq_false ht; omega
  subst hge
  exact hk m1 h3 h4
theorem fix_loop3 {b:Nat} {m:Mem} {K:Kont} (hw:∀ j,j < 288→Wr m ⟨b,j,none⟩)
  (hk:∀ m',Same1 m' b 280 288 8→Fr (fun i j=>i=b∧280≤j∧j < 288) m m'→K.kx 6 [(1,.pointer (some ⟨b,0,none⟩)),(5,.int .i64 288)] m') {r:Env}
  (hr:Env.keep [1,5] r=[(1,.pointer (some ⟨b,0,none⟩)),(5,.int .i64 ((280:Nat):Int))]):WPS PP 36 c_inflate_fixedHuffman_rrrrrlrl K r m:=by
 rw [q_inflate_fixedHuffman_rrrrrlrl]
 refine loopW ffOk mixedOk (L₀:=L_inflate_fixedHuffman) [1,5] (fun i:Nat=>[(1,.pointer (some ⟨b,0,none⟩)),(5,.int .i64 (i:Int))]) (fun i m'=>280≤i∧i≤288∧Same1 m' b 280 i 8∧Fr (fun i j=>i=b∧280≤j∧j < 288) m m') (fun i=>288 - i) 280 hr
  ⟨Nat.le_refl _,by decide,fun j h1 h2=>by omega,Fr.refl _ _⟩ ?_
 rintro i m1 ⟨h1,h2,h3,h4⟩
 refine p_inflate_fixedHuffman_rrrrrlrll b i m1 _ (ifB_of (fun ht=>?_) (fun ht=>?_))
 ·have hlt:i < 288:=by have:=of_decide_eq_true ht; omega
  refine ⟨⟨by omega,by omega⟩,?_⟩
  rw [Int.toNat_natCast,Nat.zero_add]
  refine StW.at rfl ((hw i (by omega)).fr h4) fun m2 c2 f2 _=>?_
  rw [show ((i:Int)+1)=((i+1:Nat):Int) from by omega,wrap64_id (by omega) (by omega)]
  refine ⟨i+1,rfl,⟨by omega,by omega,fun j g1 g2=>?_,h4.trans (f2.mono fun x y h=>⟨h.1,by omega,by omega⟩)⟩,by omega⟩
  by_cases hj:j=i
  ·subst hj; exact c2
  ·exact f2.cell (h3 j g1 (by omega)) (by rintro ⟨_,e⟩; exact hj e)
 ·have hge:i=288:=by have:=of_decide_eq_false ht; omega
  subst hge
  exact hk m1 h3 h4
theorem fixL_get {i:Nat} (h:i < 288):fixL[i]?=some (if i < 144 then 8 else if i < 256 then 9 else if i < 280 then 7 else 8):=by
 have h0:∀ j:Fin 288,fixL[j.val]?=some (if j.val < 144 then 8 else if j.val < 256 then 9 else if j.val < 280 then 7 else 8):=by decide+kernel
 exact h0 ⟨i,h⟩
theorem fixedHuffman_spec {m:Mem} {R:Value→Mem→Prop}
  (hk:∀ m' b B,TabAt m' b 0 B (mnOf fixL) (tabV fixL)→m.size≤b→(∀ i,B i→m.size≤i)→(∀ S,Fr S m m')→R (.pointer (some ⟨b,0,none⟩)) m'):CallM PP f_inflate_fixedHuffman #[] m R:=by
 refine e_inflate_fixedHuffman m R (alloc_W z_288_int ?_)
 have hw0:∀ j,j < 288→Wr (m.push (.cells (Array.replicate 288 (.int .i64 0)) t_288_int)) ⟨m.size,j,none⟩:=fun j hj=>wr_new (by simpa using hj)
 have f0:∀ S,Fr S m (m.push (.cells (Array.replicate 288 (.int .i64 0)) t_288_int)):=fun S=>Fr.push _
 have s0:(m.push (.cells (Array.replicate 288 (.int .i64 0)) t_288_int)).size=m.size+1:=Array.size_push ..
 show WPS PP 36 c_inflate_fixedHuffman_rrlrl _ _ (m.push (.cells (Array.replicate 288 (.int .i64 0)) t_288_int))
 generalize m.push (.cells (Array.replicate 288 (.int .i64 0)) t_288_int)=m0 at hw0 f0 s0 ⊢
 refine fix_loop0 hw0 (fun m1 S1 F1=>kx_0 ?_) rfl
 refine WPS.piece k_inflate_fixedHuffman_rrr rfl (p_inflate_fixedHuffman_rrr m.size m1 _ ?_)
 refine fix_loop1 (fun j hj=>(hw0 j hj).fr F1) (fun m2 S2 F2=>kx_2 ?_) rfl
 refine WPS.piece k_inflate_fixedHuffman_rrrr rfl (p_inflate_fixedHuffman_rrrr m.size m2 _ ?_)
 refine fix_loop2 (fun j hj=>((hw0 j hj).fr F1).fr F2) (fun m3 S3 F3=>kx_4 ?_) rfl
 refine WPS.piece k_inflate_fixedHuffman_rrrrr rfl (p_inflate_fixedHuffman_rrrrr m.size m3 _ ?_)
 refine fix_loop3 (fun j hj=>(((hw0 j hj).fr F1).fr F2).fr F3) (fun m4 S4 F4=>kx_6 ?_) rfl
 refine WPS.piece k_inflate_fixedHuffman_rrrrrr rfl (p_inflate_fixedHuffman_rrrrrr m.size m4 _ (alloc_W z_huffman ?_))
 have hF4:Fr (fun i _=>i=m.size) m0 m4:=(F1.mono fun i j h=>h.1).trans ((F2.mono fun i j h=>h.1).trans ((F3.mono fun i j h=>h.1).trans (F4.mono fun i j h=>h.1)))
 have L4:LenAt m4 m.size 0 fixL:=by
  intro i v hv
  have hi:i < 288:=by have:=(List.getElem?_eq_some_iff.1 hv).1; rw [fixL_len] at this; exact this
  rw [fixL_get hi] at hv
  simp only [Option.some.injEq] at hv
  subst hv
  rw [Nat.zero_add]
  by_cases h1:i < 144
  ·rw [if_pos h1]
   exact F4.cell (F3.cell (F2.cell (S1 i (Nat.zero_le _) h1) (by simp only; omega)) (by simp only; omega)) (by simp only; omega)
  ·rw [if_neg h1]
   by_cases h2:i < 256
   ·rw [if_pos h2]
    exact F4.cell (F3.cell (S2 i (by omega) h2) (by simp only; omega)) (by simp only; omega)
   ·rw [if_neg h2]
    by_cases h3:i < 280
    ·rw [if_pos h3]
     exact F4.cell (S3 i (by omega) h3) (by simp only; omega)
    ·rw [if_neg h3]
     exact S4 i (by omega) hi
 have hsz:m.size+1≤m4.size:=by rw [← s0]; exact hF4.size
 have f5:∀ S,Fr S m4 (m4.push (.cells hzList.toArray t_flate_huffmanDecoder)):=fun S=>Fr.push _
 have s5:(m4.push (.cells hzList.toArray t_flate_huffmanDecoder)).size=m4.size+1:=Array.size_push ..
 have n5:HNew (m4.push (.cells hzList.toArray t_flate_huffmanDecoder)) m4.size 0:=hnew_row (fun i v hv=>by rw [Nat.zero_add]; exact cell_new (by simpa using hv)) (fun j hj=>by rw [Nat.zero_add]; exact wr_new (by simpa [hzList_len] using hj))
 show CallM PP f_huffmanDecoder_init _ (m4.push (.cells hzList.toArray t_flate_huffmanDecoder)) _
 generalize m4.push (.cells hzList.toArray t_flate_huffmanDecoder)=m5 at f5 s5 n5 ⊢
 have fin:∀ {m'},Fr (HS m4.size 0) m5 m'→∀ S,Fr S m m':=by
  intro m' h S
  refine ((f0 (fun i _=>m.size≤i)).trans ((hF4.mono fun i j h=>by omega).trans ((f5 _).trans (h.mono fun i j h=>by have:=h.1; omega)))).old fun i j h1 h2=>?_
  omega
 refine init_spec fixL_15 fixL_len (by decide) n5.hz (L4.fr (f5 fun _ _=>False) (by intros; exact id)) (by decide) (by omega) (fun m6 ok F6 Z6 ⟨B,T6,hB⟩=>⟨true,rfl,?_⟩) (fun m6 ok F6 Z6=>?_)
 ·exact hk m6 m4.size B T6 (by omega) (fun i hi=>by have:=(hB i hi).1; omega) (fin F6)
 ·rw [full_ok fixL_full] at ok
  cases ok
end Go.M

namespace Go.M
open Go
set_option maxRecDepth 100000
section
variable {E:Errs} {src:List Nat} {D:Rdr E src} {f bh bb cb:Nat}
def Mw (D:Rdr E src) (f bh bb cb:Nat):Nat→Nat→Prop:=fun i j=>D.S i j∨i=f∨i=bh∨i=bb∨i=cb
theorem mw_mv (i j:Nat) (h:Mv D f bh i j):Mw D f bh bb cb i j:=by
 rcases h with h | h | ⟨h,_⟩
 ·exact .inl h
 ·exact .inr (.inr (.inl h))
 ·exact .inr (.inl h)
theorem mw_rh (i j:Nat) (h:RhS D f bb cb i j):Mw D f bh bb cb i j:=by
 rcases h with (h | ⟨h,_⟩) | ⟨h,_⟩ | h | h
 ·exact .inl h
 ·exact .inr (.inl h)
 ·exact .inr (.inl h)
 ·exact .inr (.inr (.inr (.inl h)))
 ·exact .inr (.inr (.inr (.inr h)))
theorem mw_f {j:Nat} (i k:Nat) (h:i=f∧k=j):Mw D f bh bb cb i k:=.inr (.inl h.1)
theorem Aux.mv {m m':Mem} {p pos:Nat} {H:List Nat} {wr rd:Nat} (hA:Aux D f bh bb cb m) (hB:Base D f bh m p pos H wr rd) (hf:Fr (Mv D f bh) m m'):Aux D f bh bb cb m':=
 hA.fr hf (by
  rintro j h1 h2 (h | h | ⟨_,h⟩)
  ·exact hB.inn.apart _ h
  ·exact hB.ne h.symm
  ·omega)
theorem ended_of {m m':Mem} {p pos:Nat} {H:List Nat} {wr rd Dl pf:Nat} {e:Er} {v:Value} {S:Nat→Nat→Prop} (hB:Base D f bh m p pos H wr rd) (hf:Fr S m m') (hlo:∀ i j,S i j→4 < i) (h1:∀ j,1037≤j→j≠1047→j≠1048→j≠1050→j≠1051→ ¬ S f j) (h2:∀ j, ¬ S bh j)
  (hemp:∃ a k,cell? m ⟨f,1049,none⟩=some (.slice a 0 k)) (hdel:Dl+(wr - rd)=H.length) (hv:cell? m' ⟨f,1048,none⟩=some v) (he:IsErr E e v) (hne:e≠.fin) (hn:src=[]→D.At 0 m'):Ended D f bh H e pf Dl m' wr rd 0:=by
 obtain ⟨a,k,hemp⟩:=hemp
 refine ⟨hB.glob.fr hf hlo,hB.win.fr hf ?_,.none (hf.cell hemp (h1 _ (by simp) (by simp) (by simp) (by simp) (by simp))) hdel,hB.inn.own.fr hf,⟨v,hv,he⟩,fun h=>absurd h hne,.inl rfl,hn⟩
 rintro i j (⟨rfl,g1,g2⟩ | rfl)
 ·exact h1 j g1 (by omega) (by omega) (by omega) (by omega)
 ·exact h2 j
structure AuxW (D:Rdr E src) (f bh bb cb:Nat) (m:Mem):Prop where
 st:AuxP D f bh bb cb
 dlt:∀ i j,D.S i j→i < m.size
 bits:cell? m ⟨f,1035,none⟩=some (.pointer (some ⟨bb,0,none⟩))
 cbits:cell? m ⟨f,1036,none⟩=some (.pointer (some ⟨cb,0,none⟩))
 wb:∀ i,i < 316→Wr m ⟨bb,i,none⟩
 wc:∀ i,i < 19→Wr m ⟨cb,i,none⟩
 rb:∃ p,cell? m ⟨f,1,none⟩=some (.pointer p)
theorem Aux.weak {m:Mem} (h:Aux D f bh bb cb m):AuxW D f bh bb cb m:=⟨h.st,h.dlt,h.bits,h.cbits,h.wb,h.wc,h.rb⟩
theorem AuxW.fr {m m':Mem} {S:Nat→Nat→Prop} (h:AuxW D f bh bb cb m) (hf:Fr S m m') (h1: ¬ S f 1035) (h2: ¬ S f 1036) (h3: ¬ S f 1):AuxW D f bh bb cb m':=
 ⟨h.st,fun i j hi=>Nat.lt_of_lt_of_le (h.dlt i j hi) hf.size,hf.cell h.bits h1,hf.cell h.cbits h2,fun i hi=>(h.wb i hi).fr hf,fun i hi=>(h.wc i hi).fr hf,h.rb.imp fun _ hp=>hf.cell hp h3⟩
def Stepped (D:Rdr E src) (f bh bb cb:Nat) (Hf:List Nat) (e:Er) (pf Dl Bd:Nat) (m:Mem):Prop:=
 (Back D f bh (scOf src) Hf e pf Dl Bd m∧Aux D f bh bb cb m)∨((∃ wr rd l,Ended D f bh Hf e pf Dl m wr rd l)∧AuxW D f bh bb cb m)
theorem nextBlock_spec {m:Mem} {Hf:List Nat} {e:Er} {pf Dl p pos wr rd:Nat} {H:List Nat} (hB:Base D f bh m p pos H wr rd) (hA:Aux D f bh bb cb m) (h7:8 * pos≤p+7) (hroom:wr < 32768) (herr:cell? m ⟨f,1048,none⟩=some .nilIface) (hemp:∃ a k,cell? m ⟨f,1049,none⟩=some (.slice a 0 k))
  (hdel:Dl+(wr - rd)=H.length) (hc:∃ ss cl cd,Ctl m f ss cl cd∧(ss=0∨ss=1∧cl=0∧0 < cd∧cd≤32768)) (hr:RunsB (scOf src) ⟨p,H,.block⟩ Hf e pf) {R:Value→Mem→Prop}
  (hk:∀ m',Stepped D f bh bb cb Hf e pf Dl (2 * (8 * src.length - p)) m'→Fr (Mw D f bh bb cb) m m'→R (.tuple #[]) m'):
  CallM PP f_decompressor_nextBlock #[.pointer (some ⟨f,0,none⟩)] m R:=by
 have hle:=hB.inn.le
 have hrdw:=hB.win.rd
 have hne:=hB.ne
 obtain ⟨ss,cl,cd,hctl,hss⟩:=hc
 have hapI:∀ j,(j=1∨5≤j)→ ¬ InS D f f j:=by
  rintro j hj (h1 | ⟨_,h1⟩)
  ·exact hB.inn.apart _ h1
  ·omega
 have hout:=hr.out
 have eg:gstep (scOf src) ⟨p,H,.block⟩=gblock (scOf src) H p:=rfl
 rw [eg] at hout
 unfold gblock at hout
 have etot:(scOf src).tot=8 * src.length:=rfl
 have eN:(scOf src).N=num src:=rfl
 rw [etot,eN] at hout
 refine e_decompressor_nextBlock f m R ?_
 rw [q_decompressor_nextBlock_ll]
 refine loopW ffOk mixedOk (L₀:=L_decompressor_nextBlock) [0] (fun _:Nat=>[(0,.pointer (some ⟨f,0,none⟩))]) (fun q m'=>In D f p q m'∧Fr (fun i j=>InS D f i j∨(i=f∧j=1048)) m m'∧cell? m' ⟨f,1048,none⟩=some .nilIface∧pos≤q∧8 * q - p≤max (8 * pos - p) 10) (fun q=>src.length - q) pos rfl
  ⟨hB.inn,Fr.refl _ _,herr,Nat.le_refl _,by omega⟩ ?_
 rintro q m1 ⟨hI1,hF1,he1,hq1,hq2⟩
 have hql:=hI1.pos_le
 have hle1:=hI1.le
 have hlo1:∀ i j,(InS D f i j∨(i=f∧j=1048))→4 < i:=by
  rintro i j (h | ⟨rfl,_⟩)
  ·exact InS.lo hB.inn.lo _ _ h
  ·exact hB.inn.lo
 have hG1:=hB.glob.fr hF1 hlo1
 refine p_decompressor_nextBlock_lll f m1 _ ⟨_,hI1.nb,ifB_of (fun ht=>?_) (fun ht=>?_)⟩
 ·have hlt:8 * q - p < 3:=by have:=of_decide_eq_true ht; omega
  refine moreBits_spec hI1 hG1 (by omega) (fun m2 g1 hI2 hF2=>⟨_,rfl,?_⟩) (fun m2 g1 hI2 hF2=>⟨_,rfl,?_⟩)
  ·refine StW.at rfl (hI2.own 1048 (by decide)) fun m3 c3 f3 _=>⟨_,c3,rfl,ifB_f ?_⟩
   refine ⟨q+1,rfl,⟨hI2.fr f3 ?_,hF1.trans ((hF2.mono fun i j h=>.inl h).trans (f3.mono fun i j h=>.inr h)),c3,by omega,by omega⟩,by omega⟩
   rintro i j (h | ⟨rfl,h⟩) ⟨e,h2⟩
   ·subst e; exact hB.inn.apart _ h
   ·omega
  ·refine StW.at rfl (hI2.own 1048 (by decide)) fun m3 c3 f3 _=>⟨_,c3,rfl,ifB_t ?_⟩
   have F3:Fr (fun i j=>InS D f i j∨(i=f∧j=1048)) m m3:=hF1.trans ((hF2.mono fun i j h=>.inl h).trans (f3.mono fun i j h=>.inr h))
   rw [if_pos (by omega)] at hout
   obtain ⟨o1,o2,o3⟩:=hout
   show R (.tuple #[]) m3
   refine hk m3 (.inl ⟨.inr ⟨wr,rd,0,?_⟩,hA.fr F3 ?_⟩) (F3.mono ?_)
   ·rw [o1,o2]
    refine ended_of hB F3 hlo1 (fun j g1 _ g3 _ _=>?_) (fun j=>?_) hemp hdel c3 rfl (by decide) (fun h0=>nil_at (D.fr hI2.here f3 (by rintro i j h1 ⟨rfl,_⟩; exact hB.inn.apart _ h1)) h0)
    ·rintro (h | ⟨_,h⟩)
     ·exact hapI j (by omega) h
     ·exact g3 h
    ·rintro (h | ⟨h,_⟩)
     ·exact hB.apartI _ _ (.inr rfl) h
     ·exact hne h
   ·rintro j g1 g2 (h | ⟨_,h⟩)
    ·exact hapI j g1 h
    ·omega
   ·rintro i j ((h | ⟨h,_⟩) | ⟨h,_⟩)
    ·exact .inl h
    ·exact .inr (.inl h)
    ·exact .inr (.inl h)
 ·have hge:3≤8 * q - p:=by have:=of_decide_eq_false ht; omega
  rw [if_neg (by omega)] at hout
  show WPS PP 103 c_decompressor_nextBlock_r _ _ m1
  refine WPS.piece k_decompressor_nextBlock_r rfl (p_decompressor_nextBlock_r f m1 _ ?_)
  have B1:=hB.moved hI1 hF1
  have A1:Aux D f bh bb cb m1:=hA.fr hF1 (by
   rintro j g1 g2 (h | ⟨_,h⟩)
   ·exact hapI j g1 h
   ·omega)
  have b1:=tk_low (num src) p (8 * q - p) 1 (by omega)
  have hb32:tk (num src) p (8 * q - p) < 2 ^ 31:=Nat.lt_of_lt_of_le (tk_lt ..) (Nat.pow_le_pow_right (by decide) (by omega))
  have e1:bitsOp .and .u32 (tk (num src) p (8 * q - p):Nat) 1=(tk (num src) p 1:Nat):=by
   have:=and_nat (k:=.u32) rfl (a:=tk (num src) p (8 * q - p)) (b:=1) (by show _ < 2 ^ 32; omega) (by decide)
   rw [show ((1:Nat):Int)=1 from rfl] at this
   rw [this,show (1:Nat)=2 ^ 1 - 1 from rfl,Nat.and_two_pow_sub_one_eq_mod,b1]
  refine ⟨_,hI1.b,rfl,?_⟩
  rw [e1]
  have hfin:(((tk (num src) p 1:Nat):Int) == 1)=(tk (num src) p 1 == 1):=by
   by_cases h:tk (num src) p 1=1
   ·simp [h]
   ·have h2: ¬ ((tk (num src) p 1:Nat):Int)=1:=by omega
    rw [beq_eq_false_iff_ne.2 h2,beq_eq_false_iff_ne.2 h]
  rw [hfin]
  refine StW.at rfl (hI1.own 1047 (by decide)) fun m2 c2 f2 _=>?_
  have I2:In D f p q m2:=hI1.fr f2 (by
   rintro i j (h | ⟨rfl,h⟩) ⟨e,h2⟩
   ·subst e; exact hB.inn.apart _ h
   ·omega)
  refine ⟨_,I2.b,by decide,?_⟩
  have s1:shrOp .u32 (tk (num src) p (8 * q - p):Nat) 1=(tk (num src) (p+1) (8 * q - p - 1):Nat):=shr_tk (N:=num src) (p:=p) (k:=8 * q - p) (n:=1) (by omega) (by decide)
  rw [s1]
  refine StW.at rfl (I2.own 3 (by decide)) fun m4 c4 f4 _=>⟨_,c4,rfl,_,c4,by decide,?_⟩
  have i4:=I2.to0.set f4 (by decide) (by decide)
  have s2:shrOp .u32 (tk (num src) (p+1) (8 * q - p - 1):Nat) 2=(tk (num src) (p+3) (8 * q - (p+3)):Nat):=by
   have:=shr_tk (N:=num src) (p:=p+1) (k:=8 * q - p - 1) (n:=2) (by omega) (by decide)
   rw [show p+1+2=p+3 from by omega,show 8 * q - p - 1 - 2=8 * q - (p+3) from by omega] at this
   exact this
  have b2:=tk_low (num src) (p+1) (8 * q - p - 1) 2 (by omega)
  have hb32':tk (num src) (p+1) (8 * q - p - 1) < 2 ^ 31:=Nat.lt_of_lt_of_le (tk_lt ..) (Nat.pow_le_pow_right (by decide) (by omega))
  have e2:bitsOp .and .u32 (tk (num src) (p+1) (8 * q - p - 1):Nat) 3=(tk (num src) (p+1) 2:Nat):=by
   have:=and_nat (k:=.u32) rfl (a:=tk (num src) (p+1) (8 * q - p - 1)) (b:=3) (by show _ < 2 ^ 32; omega) (by decide)
   rw [show ((3:Nat):Int)=3 from rfl] at this
   rw [this,show (3:Nat)=2 ^ 2 - 1 from rfl,Nat.and_two_pow_sub_one_eq_mod,b2]
  rw [s2,e2]
  refine StW.at rfl (i4.own 3 (by decide)) fun m7 c7 f7 _=>?_
  have i7:=i4.set f7 (by decide) (by decide)
  refine ⟨_,f7.cell (f4.cell I2.nb (by simp)) (by simp),?_⟩
  rw [show (((8 * q - p:Nat):Int) - 3)=((8 * q - (p+3):Nat):Int) from by omega,wrap_u64_id (by omega) (by omega)]
  refine StW.at rfl (i7.own 4 (by decide)) fun m9 c9 f9 _=>?_
  have i9:=i7.set f9 (by decide) (by decide)
  have I9:In D f (p+3) q m9:=i9.of (f9.cell c7 (by simp)) c9 (by omega) (by omega)
  have F19:Fr (fun i j=>i=f∧(j=3∨j=4∨j=1047)) m1 m9:=by
   refine (f2.mono ?_).trans ((f4.mono ?_).trans ((f7.mono ?_).trans (f9.mono ?_))) <;> (rintro i j ⟨rfl,rfl⟩; simp)
  have F24:Fr (InS D f) m2 m9:=by
   refine (f4.mono ?_).trans ((f7.mono ?_).trans (f9.mono ?_)) <;> (rintro i j ⟨rfl,rfl⟩; exact .inr ⟨rfl,.inr (by decide)⟩)
  have B2:=B1.ctl (f2.mono (ctl_f (by decide)))
  have B9:=B2.moved I9 (F24.mono fun i j h=>.inl h)
  have A9:Aux D f bh bb cb m9:=A1.fr F19 (by rintro j g1 g2 ⟨_,h⟩; omega)
  have fin9:cell? m9 ⟨f,1047,none⟩=some (.bool (tk (num src) p 1 == 1)):=F24.cell c2 (hapI _ (by simp))
  have err9:cell? m9 ⟨f,1048,none⟩=some .nilIface:=F19.cell he1 (by simp)
  obtain ⟨a0,k0,he0⟩:=hemp
  have emp1:cell? m1 ⟨f,1049,none⟩=some (.slice a0 0 k0):=hF1.cell he0 (by
   rintro (h | ⟨_,h⟩)
   ·exact hapI _ (by simp) h
   ·simp at h)
  have emp9:cell? m9 ⟨f,1049,none⟩=some (.slice a0 0 k0):=F19.cell emp1 (by simp)
  have hno1:∀ j,1041≤j→j≠1048→ ¬ (InS D f f j∨(f=f∧j=1048)):=by
   rintro j g1 g2 (h | ⟨_,h⟩)
   ·exact hapI j (by omega) h
   ·exact g2 h
  have C9:Ctl m9 f ss cl cd:=(hctl.fr hF1 (hno1 _ (by simp) (by simp)) (hno1 _ (by simp) (by simp)) (hno1 _ (by simp) (by simp))).fr F19 (by simp) (by simp) (by simp)
  have Mw1:Fr (Mw D f bh bb cb) m m1:=hF1.mono (by
   rintro i j ((h | ⟨h,_⟩) | ⟨h,_⟩)
   ·exact .inl h
   ·exact .inr (.inl h)
   ·exact .inr (.inl h))
  have Mw9:Fr (Mw D f bh bb cb) m m9:=Mw1.trans (F19.mono fun i j h=>.inr (.inl h.1))
  have h79:8 * q≤p+3+7:=by omega
  have codes:∀ (m':Mem) (p' q':Nat) (T:Tb),Base D f bh m' p' q' H wr rd→Aux D f bh bb cb m'→Fr (Mw D f bh bb cb) m m'→TbAt D f bh m' T→8 * q'≤p'+7→cell? m' ⟨f,1047,none⟩=some (.bool (tk (num src) p 1 == 1))→cell? m' ⟨f,1048,none⟩=some .nilIface→
    cell? m' ⟨f,1049,none⟩=some (.slice a0 0 k0)→Ctl m' f ss cl cd→p+3≤p'→RunsB (scOf src) ⟨p',H,.coded (tk (num src) p 1 == 1) T⟩ Hf e pf→∀ {r:Env},CallM PP f_decompressor_huffmanBlock #[.pointer (some ⟨f,0,none⟩)] m' fun v m''=>v=.tuple #[]∧(retK PP r_decompressor_nextBlock R).kn r m'':=by
   intro m' p' q' T hB' hA' hM' hT' h7' fin' err' emp' C' hp' hr' r
   have hrd32:rd < 32768:=by omega
   let x:Fx E src:={ D:=D,f:=f,bh:=bh,c:=scOf src,Hf:=Hf,e:=e,pf:=pf,Dl:=Dl,rd:=rd,fin:=tk (num src) p 1 == 1,T:=T,hN:=rfl,ht:=rfl,Bd:=2 * (8 * src.length - p),hrd:=hrd32 }
   have hCm:Cm x m' m' p' q' H wr:=⟨hB',hT',fin',err',⟨a0,k0,emp'⟩,hdel,by show 8 * q'≤p'+T.mn+7; omega,Fr.refl _ _⟩
   have hpl':=hB'.inn.pos_le
   have hle':=hB'.inn.le
   have ending:∀ m'',Back x.D x.f x.bh x.c x.Hf x.e x.pf x.Dl x.Bd m''→Fr (Mv x.D x.f x.bh) m' m''→(Value.tuple #[]=.tuple #[]∧(retK PP r_decompressor_nextBlock R).kn r m''):=by
    intro m'' hb hf
    exact ⟨rfl,hk m'' (.inl ⟨hb,hA'.mv hB' hf⟩) (hM'.trans (hf.mono mw_mv))⟩
   rcases hss with h0 | ⟨h0,h1,h2,h3⟩
   ·subst h0
    refine huffmanBlock_spec (x:=x) ⟨none,p',q',H,wr⟩ ⟨hCm,hroom,hr',⟨0,cl,cd,C',.inl rfl,fun d n h=>by cases h⟩,?_⟩ ⟨0,cl,cd,C',.inl ⟨rfl,rfl⟩⟩ ending
    show 2 * (8 * src.length - p')+0≤2 * (8 * src.length - p)
    omega
   ·subst h0; subst h1
    refine huffmanBlock_spec (x:=x) ⟨some (cd,0),p',q',H,wr⟩ ⟨hCm,hroom,⟨.step (s':=⟨p',H,.coded (tk (num src) p 1 == 1) T⟩) rfl hr'.run,hr'.frm.zero cd⟩,⟨1,0,cd,C',.inr ⟨rfl,h2,h3,fun h=>by cases h⟩,fun d n h=>?_⟩,?_⟩ ⟨1,0,cd,C',.inr ⟨rfl,rfl⟩⟩ ending
    ·simp only [Option.some.injEq,Prod.mk.injEq] at h
     obtain ⟨rfl,rfl⟩:=h
     exact ⟨rfl,rfl,h2,h3,.inl rfl,by decide⟩
    ·show 2 * (8 * src.length - p')+1≤2 * (8 * src.length - p)
     omega
  have t2:=tk_lt (num src) (p+1) 2
  refine ifB_of (fun h0=>?_) (fun h0=>?_)
  ·have h0:tk (num src) (p+1) 2=0:=by have:=eq_of_beq h0; omega
   rw [if_pos h0,show (p+10) / 8=q from by omega] at hout
   refine dataBlock_spec (c:=scOf src) (p0:=p) rfl rfl B9 hroom fin9 err9 ⟨a0,k0,emp9⟩ hdel C9 hss hout (Bd:=2 * (8 * src.length - p)) (by show 2 * (8 * src.length - 8 * q) < _; omega) fun m' hb hf=>?_
   exact ⟨rfl,hk m' (.inl ⟨hb,A9.mv B9 hf⟩) (Mw9.trans (hf.mono mw_mv))⟩
  have hn0:tk (num src) (p+1) 2≠0:=by intro h; rw [h] at h0; simp at h0
  rw [if_neg hn0] at hout
  refine ifB_of (fun h1=>?_) (fun h1=>?_)
  ·have h1:tk (num src) (p+1) 2=1:=by have:=eq_of_beq h1; omega
   rw [if_pos h1] at hout
   refine fixedHuffman_spec fun m14 b B T14 hb hBb F14=>⟨_,rfl,?_⟩
   have I14:In D f (p+3) q m14:=I9.fr (F14 fun _ _=>False) (by intros; exact id)
   refine StW.at rfl (I14.own 1050 (by decide)) fun m15 c15 f15 _=>?_
   refine StW.at rfl ((I14.own.fr f15) 1051 (by decide)) fun m16 c16 f16 _=>?_
   have F916:Fr (fun i j=>i=f∧(j=1050∨j=1051)) m9 m16:=(F14 _).trans ((f15.mono fun i j h=>⟨h.1,.inl h.2⟩).trans (f16.mono fun i j h=>⟨h.1,.inr h.2⟩))
   have B16:Base D f bh m16 (p+3) q H wr rd:=B9.ctl (F916.mono (by rintro i j ⟨rfl,h⟩; exact ⟨rfl,by omega⟩))
   have F1416:Fr (fun i j=>i=f∧(j=1050∨j=1051)) m14 m16:=(f15.mono fun i j h=>⟨h.1,.inl h.2⟩).trans (f16.mono fun i j h=>⟨h.1,.inr h.2⟩)
   have hfm:f < m9.size:=by have:=cell_block I9.r; simpa using this
   have hbhm:bh < m9.size:=by
    obtain ⟨h,full,hD,_⟩:=B9.win.ex
    have:=cell_block (hD.data 0 (by decide))
    simpa using this
   have T16:TabAt m16 b 0 B (mnOf fixL) (tabV fixL):=T14.fr F1416 (by
    rintro i j (⟨rfl,_,_⟩ | hb') ⟨e,_⟩
    ·omega
    ·have:=hBb i hb'; omega)
   have hap:∀ i j,TabS b 0 B i j→ ¬ Mv D f bh i j:=by
    have big:∀ i j,m9.size≤i→ ¬ Mv D f bh i j:=by
     rintro i j hi (h | h | ⟨h,_⟩)
     ·have:=A9.dlt i j h; omega
     ·omega
     ·omega
    rintro i j (⟨rfl,_,_⟩ | hb')
    ·exact big _ _ hb
    ·exact big _ _ (hBb i hb')
   refine codes m16 (p+3) q fxT B16 (A9.fr F916 (by rintro j g1 g2 ⟨_,h⟩; omega)) (Mw9.trans (F916.mono fun i j h=>.inr (.inl h.1))) ⟨⟨⟨b,0,B,f16.cell c15 (by simp),T16,hap⟩,codeOk fixL_15 (full_ok fixL_full) _ (Nat.le_refl _) (by show mnOf fixL≤15; rw [fixL_mn]; decide)⟩,?_,c16⟩ h79
    (F916.cell fin9 (by simp)) (F916.cell err9 (by simp)) (F916.cell emp9 (by simp)) (C9.fr F916 (by simp) (by simp) (by simp)) (Nat.le_refl _) hout
   intro y h1 h2
   exact tab_near fixL_15 y h2
  have hn1:tk (num src) (p+1) 2≠1:=by intro h; rw [h] at h1; simp at h1
  rw [if_neg hn1] at hout
  refine ifB_of (fun h2=>?_) (fun h2=>?_)
  ·have h2:tk (num src) (p+1) 2=2:=by have:=eq_of_beq h2; omega
   rw [if_pos h2] at hout
   have ehd:(scOf src).hd (p+3)=hdOf (num src) (8 * src.length) (p+3):=rfl
   rw [ehd] at hout
   have noF:∀ j,(j=1∨1035≤j)→j≠1048→ ¬ RhS D f bb cb f j:=by
    rintro j g1 g2 ((h | ⟨_,h⟩) | ⟨_,h⟩ | h | h)
    ·exact B9.inn.apart _ h
    ·omega
    ·omega
    ·exact hA.st.bbf h.symm
    ·exact hA.st.cbf h.symm
   have noBh:∀ j, ¬ RhS D f bb cb bh j:=by
    rintro j ((h | ⟨h,_⟩) | ⟨h,_⟩ | h | h)
    ·exact B9.nbh _ h
    ·exact hne h
    ·exact hne h
    ·exact hA.st.bbh h.symm
    ·exact hA.st.cbh h.symm
   have bad:∀ (m21 m22:Mem) (v:Value) (e':Er) (p'':Nat),IsErr E e' v→e'≠.fin→Out (scOf src) (.stop H e' p'') Hf e pf→Fr (RhS D f bb cb) m9 m21→cell? m22 ⟨f,1048,none⟩=some v→Fr (fun i j=>i=f∧j=1048) m21 m22→R (.tuple #[]) m22:=by
    intro m21 m22 v e' p'' hv hne' ho hF c22 f22
    obtain ⟨o1,o2,o3⟩:=ho
    have F22:Fr (RhS D f bb cb) m9 m22:=hF.trans (f22.mono (by rintro i j ⟨rfl,rfl⟩; exact .inr (.inl ⟨rfl,.inr rfl⟩)))
    refine hk m22 (.inr ⟨⟨wr,rd,0,?_⟩,A9.weak.fr F22 (noF _ (by decide) (by decide)) (noF _ (by decide) (by decide)) (noF _ (by decide) (by decide))⟩) (Mw9.trans (F22.mono mw_rh))
    rw [o1,o2]
    exact ended_of B9 F22 (RhS.lo I9 hA.st) (fun j g1 _ g3 _ _=>noF j (by omega) g3) noBh ⟨a0,k0,emp9⟩ hdel c22 hv hne' (fun h0=>by exfalso; have g1:=I9.le; have g2:=I9.pos_le; rw [h0] at g2; simp at g2; omega)
   refine readHuffman_spec I9 B9.glob A9 h79 (fun m21 T p' pos' hH hAt hF=>⟨_,rfl,?_⟩) (fun m21 hH hF=>⟨_,rfl,?_⟩) (fun m21 n hH hF=>⟨_,rfl,?_⟩)
   ·rw [hH] at hout
    have hout:RunsB (scOf src) ⟨p',H,.coded (tk (num src) p 1 == 1) T⟩ Hf e pf:=hout
    have I21:=hAt.inn
    refine StW.at rfl (I21.own 1048 (by decide)) fun m22 c22 f22 _=>⟨_,c22,rfl,ifB_f ?_⟩
    refine StW.at rfl ((I21.own.fr f22) 1050 (by decide)) fun m24 c24 f24 _=>?_
    refine StW.at rfl (((I21.own.fr f22).fr f24) 1051 (by decide)) fun m25 c25 f25 _=>?_
    have F2125:Fr (fun i j=>i=f∧(j=1048∨j=1050∨j=1051)) m21 m25:=(f22.mono fun i j h=>⟨h.1,.inl h.2⟩).trans ((f24.mono fun i j h=>⟨h.1,.inr (.inl h.2)⟩).trans (f25.mono fun i j h=>⟨h.1,.inr (.inr h.2)⟩))
    have B21:Base D f bh m21 p' pos' H wr rd:=⟨I21,B9.glob.fr hF (RhS.lo I9 hA.st),B9.win.fr hF (by
     rintro i j (⟨rfl,g1,g2⟩ | rfl)
     ·exact noF j (by omega) (by omega)
     ·exact noBh j),B9.nbh,B9.lobh,hne⟩
    have B25:=B21.ctl (F2125.mono (by rintro i j ⟨rfl,h⟩; exact ⟨rfl,by omega⟩))
    obtain ⟨BB,BB',V2,mn2,hd,T1,T2,hBB,k1,k2,k3,k4⟩:=hAt.tab
    have hfm:f < m9.size:=by have:=cell_block I9.r; simpa using this
    have hbhm:bh < m9.size:=by
     obtain ⟨h,full,hD,_⟩:=B9.win.ex
     have:=cell_block (hD.data 0 (by decide))
     simpa using this
    have big:∀ i j,m9.size≤i→ ¬ Mv D f bh i j:=by
     rintro i j hi (h | h | ⟨h,_⟩)
     ·have:=A9.dlt i j h; omega
     ·omega
     ·omega
    have hap1:∀ i j,TabS f 5 BB i j→ ¬ Mv D f bh i j:=by
     rintro i j (⟨rfl,g1,g2⟩ | hb)
     ·rintro (h | h | ⟨_,h⟩)
      ·exact B9.inn.apart _ h
      ·exact hne h.symm
      ·omega
     ·exact big _ _ (hBB i (.inl hb))
    have hap2:∀ i j,TabS f 520 BB' i j→ ¬ Mv D f bh i j:=by
     rintro i j (⟨rfl,g1,g2⟩ | hb)
     ·rintro (h | h | ⟨_,h⟩)
      ·exact B9.inn.apart _ h
      ·exact hne h.symm
      ·omega
     ·exact big _ _ (hBB i (.inr hb))
    have no2125:∀ (o:Nat) (B:Nat→Prop),o≤520→(∀ i,B i→m9.size≤i)→∀ i j,TabS f o B i j→ ¬ (i=f∧(j=1048∨j=1050∨j=1051)):=by
     rintro o B ho hb i j (⟨rfl,g1,g2⟩ | h) ⟨e,h2⟩
     ·omega
     ·have:=hb i h; omega
    have T25:TbAt D f bh m25 T:=by
     refine ⟨⟨⟨f,5,BB,f25.cell c24 (by simp),T1.fr F2125 (no2125 5 BB (by decide) fun i h=>hBB i (.inl h)),hap1⟩,k1⟩,k4,?_⟩
     rw [hd]
     exact ⟨⟨⟨f,520,BB',c25,T2.fr F2125 (no2125 520 BB' (by decide) fun i h=>hBB i (.inr h)),hap2⟩,k2⟩,k3⟩
    have F925:Fr (Mw D f bh bb cb) m9 m25:=(hF.mono mw_rh).trans (F2125.mono fun i j h=>.inr (.inl h.1))
    have hp':p+3≤p':=by
     have:=scOf_hd src (p+3) T p' hH
     exact this.1
    refine codes m25 p' pos' T B25 (hAt.aux.fr F2125 (by rintro j g1 g2 ⟨_,h⟩; omega)) (Mw9.trans F925) T25 hAt.few (F2125.cell (hF.cell fin9 (noF _ (by simp) (by simp))) (by simp)) (f25.cell (f24.cell c22 (by simp)) (by simp)) (F2125.cell (hF.cell emp9 (noF _ (by simp) (by simp))) (by simp))
     ((C9.fr hF (noF _ (by decide) (by decide)) (noF _ (by decide) (by decide)) (noF _ (by decide) (by decide))).fr F2125 (by simp) (by simp) (by simp)) hp' hout
   ·rw [hH] at hout
    refine StW.at rfl ((I9.own.fr hF) 1048 (by decide)) fun m22 c22 f22 _=>⟨_,c22,rfl,ifB_t ?_⟩
    exact bad m21 m22 E.cut .cut p rfl (by decide) hout hF c22 f22
   ·rw [hH] at hout
    refine StW.at rfl ((I9.own.fr hF) 1048 (by decide)) fun m22 c22 f22 _=>⟨_,c22,rfl,ifB_t ?_⟩
    exact bad m21 m22 _ .bad p ⟨n,rfl⟩ (by decide) hout hF c22 f22
  ·have h3:tk (num src) (p+1) 2≠2:=by intro h; rw [h] at h2; simp at h2
   rw [if_neg h3] at hout
   obtain ⟨o1,o2,o3⟩:=hout
   refine ⟨_,I9.off,?_⟩
   refine B9.fails (e:=.bad) (pf:=pf) emp9 hdel ⟨_,rfl⟩ (by decide) fun m' hE hF=>?_
   exact hk m' (.inl ⟨.inr ⟨wr,rd,0,by rw [o1,o2]; exact hE⟩,A9.mv B9 hF⟩) (Mw9.trans (hF.mono mw_mv))
end
end Go.M
