/- The window (dictDecoder): what each of its methods does to it. The window's copies: what tryWriteCopy and writeCopy do. Readers: what a reader of bytes is, for the decompressor; bytes.Reader is one. Error values: when they are equal. The bits that the decompressor holds, and moreBits. huffSym: a symbol by the tables. The window as the end of a history. io.ReadFull over a reader of bytes. -/
import Derived.Test.YtjphakdpokombaaGreatDoorPke
import Derived.Test.YtjphakdpokombaaGreatDoorPkf
import Derived.Test.YtjphakdpokombaaGreatDoorPkg
import Derived.Test.YtjphakdpokombaaGreatDoorPkh
namespace Go.M
open Go
set_option maxRecDepth 100000
theorem u_s_uint8:PP.underlying t_s_uint8=some (.slice t_uint8):=by kernel_rfl
theorem exists_info {P:Program} {t:TypeId} (h:hasInfo P t=true):∃ i,P.info? t=some i:=Option.isSome_iff_exists.1 h
structure One (P:Program) (e:TypeId) (z:Value) (bytes:Nat) (i:TypeInfo):Prop where
 info:P.info? e=some i
 size:i.size=1
 zero:i.zero=some z
 bytes:i.bytes=bytes
def oneB (P:Program) (e:TypeId) (bytes:Nat):Bool:=
 match P.info? e with
 | some i=>Nat.beq i.size 1 && Nat.beq i.bytes bytes
 | none=>false
theorem one_of {P:Program} {e:TypeId} {z:Value} {bytes:Nat} (h:oneB P e bytes=true) (hz:zeroOf P e=some z):∃ i,One P e z bytes i:=by
 unfold oneB at h
 cases hi:P.info? e with
 | none=>rw [hi] at h; cases h
 | some i=>
  rw [hi] at h
  simp only [Bool.and_eq_true] at h
  refine ⟨i,hi,Nat.eq_of_beq_eq_true h.1,?_,Nat.eq_of_beq_eq_true h.2⟩
  unfold zeroOf at hz
  rw [hi] at hz
  exact hz
theorem one_uint8:∃ i,One PP t_uint8 (.int .u8 0) 1 i:=one_of (by kernel_rfl) (by kernel_rfl)
theorem subA_lt {b o l k:Nat} (h:l < k):subA (some ⟨b,o,none⟩) l 1 k=some ⟨b,o+l,none⟩:=by
 unfold subA
 rw [if_neg (by omega)]
 rfl
theorem copyB_W {m:Mem} {a1 a2:Option Addr} {l1 k1 l2 k2:Nat} {K:Value→Mem→Prop} (b1 o1 b2 o2 n:Nat) (f:Nat→Int) (hn:n=min l2 l1)
  (h2:0 < n→a2=some ⟨b2,o2,none⟩) (hr:∀ i,i < n→cell? m ⟨b2,o2+i,none⟩=some (.int .u8 (f i)))
  (h1:0 < n→a1=some ⟨b1,o1,none⟩) (hw:WrRow m b1 o1 n)
  (hk:∀ m',(∀ i,i < n→cell? m' ⟨b1,o1+i,none⟩=some (.int .u8 (f i)))→Fr (fun x y=>x=b1∧o1≤y∧y < o1+n) m m'→m'.size=m.size→K (.int .i64 n) m'):
  SemW PP (builtin .copy #[t_s_uint8,t_s_uint8] t_int #[false,false] #[.slice a1 l1 k1,.slice a2 l2 k2]) m (NextW PP K):=by
 obtain ⟨i,hi⟩:=one_uint8
 have hlen:((List.range n).map fun j=>Value.int .u8 (f j)).length=n:=by simp
 have hget:∀ (j:Nat) v,((List.range n).map fun j=>Value.int .u8 (f j))[j]?=some v→j < n∧v=.int .u8 (f j):=by
  intro j v hj
  rw [List.getElem?_map] at hj
  cases hr:(List.range n)[j]? with
  | none=>rw [hr] at hj; cases hj
  | some q=>
   rw [hr] at hj
   have hlt:j < n:=by have:=(List.getElem?_eq_some_iff.1 hr).1; simpa using this
   rw [List.getElem?_range hlt] at hr
   simp only [Option.some.injEq] at hr
   subst hr
   simp only [Option.map_some,Option.some.injEq] at hj
   exact ⟨hlt,hj.symm⟩
 have hpos:((List.range n).map fun j=>Value.int .u8 (f j))≠[]→0 < n:=by
  intro h
  rcases Nat.eq_zero_or_pos n with h' | h'
  ·subst h'; simp at h
  ·exact h'
 refine copy_W u_s_uint8 hi.info hi.size b1 o1 b2 o2 ((List.range n).map fun j=>.int .u8 (f j)) (by rw [hlen]; exact hn) ?_ (fun h=>h2 (hpos h)) ?_ (fun h=>h1 (hpos h)) (by rw [hlen]; exact hw) ?_
 ·intro v hv
  obtain ⟨j,_,rfl⟩:=List.mem_map.1 hv
  rfl
 ·intro j v hj
  obtain ⟨h3,rfl⟩:=hget j v hj
  exact hr j h3
 ·rw [hlen]
  intro m' h3 h4 h5
  refine hk m' (fun j hj=>h3 j _ ?_) h4 h5
  rw [List.getElem?_map,List.getElem?_range hj]; rfl
structure DictAt (m:Mem) (f bh:Nat) (h:Nat→Int) (wr rd:Nat) (full:Bool):Prop where
 hist:cell? m ⟨f,1037,none⟩=some (.slice (some ⟨bh,0,none⟩) 32768 32768)
 wr:cell? m ⟨f,1038,none⟩=some (.int .i64 wr)
 rd:cell? m ⟨f,1039,none⟩=some (.int .i64 rd)
 full:cell? m ⟨f,1040,none⟩=some (.bool full)
 data:∀ i,i < 32768→cell? m ⟨bh,i,none⟩=some (.int .u8 (h i))
 wf:∀ i,1037≤i→i≤1040→Wr m ⟨f,i,none⟩
 wh:∀ i,i < 32768→Wr m ⟨bh,i,none⟩
 ne:bh≠f
def DictS (f bh:Nat):Nat→Nat→Prop:=fun i j=>(i=f∧1037≤j∧j≤1040)∨i=bh
theorem DictAt.fr {S:Nat→Nat→Prop} {m m':Mem} {f bh:Nat} {h:Nat→Int} {wr rd:Nat} {full:Bool} (hD:DictAt m f bh h wr rd full) (hf:Fr S m m')
  (hs:∀ i j,DictS f bh i j→ ¬ S i j):DictAt m' f bh h wr rd full where
 hist:=hf.cell hD.hist (hs _ _ (.inl ⟨rfl,by simp,by simp⟩))
 wr:=hf.cell hD.wr (hs _ _ (.inl ⟨rfl,by simp,by simp⟩))
 rd:=hf.cell hD.rd (hs _ _ (.inl ⟨rfl,by simp,by simp⟩))
 full:=hf.cell hD.full (hs _ _ (.inl ⟨rfl,by simp,by simp⟩))
 data:=fun i hi=>hf.cell (hD.data i hi) (hs _ _ (.inr rfl))
 wf:=fun i h1 h2=>(hD.wf i h1 h2).fr hf
 wh:=fun i h1=>(hD.wh i h1).fr hf
 ne:=hD.ne
section
variable {m:Mem} {f bh:Nat} {h:Nat→Int} {wr rd:Nat} {full:Bool}
theorem DictAt.setWr (hD:DictAt m f bh h wr rd full) (w':Nat) {m':Mem} (hc:cell? m' ⟨f,1038,none⟩=some (.int .i64 w')) (hf:Fr (fun i j=>i=f∧j=1038) m m'):
  DictAt m' f bh h w' rd full where
 hist:=hf.cell hD.hist (by simp)
 wr:=hc
 rd:=hf.cell hD.rd (by simp)
 full:=hf.cell hD.full (by simp)
 data:=fun i hi=>hf.cell (hD.data i hi) (by rintro ⟨e,_⟩; exact hD.ne e)
 wf:=fun i h1 h2=>(hD.wf i h1 h2).fr hf
 wh:=fun i h1=>(hD.wh i h1).fr hf
 ne:=hD.ne
theorem DictAt.setRd (hD:DictAt m f bh h wr rd full) (r':Nat) {m':Mem} (hc:cell? m' ⟨f,1039,none⟩=some (.int .i64 r')) (hf:Fr (fun i j=>i=f∧j=1039) m m'):
  DictAt m' f bh h wr r' full where
 hist:=hf.cell hD.hist (by simp)
 wr:=hf.cell hD.wr (by simp)
 rd:=hc
 full:=hf.cell hD.full (by simp)
 data:=fun i hi=>hf.cell (hD.data i hi) (by rintro ⟨e,_⟩; exact hD.ne e)
 wf:=fun i h1 h2=>(hD.wf i h1 h2).fr hf
 wh:=fun i h1=>(hD.wh i h1).fr hf
 ne:=hD.ne
theorem DictAt.setFull (hD:DictAt m f bh h wr rd full) (b':Bool) {m':Mem} (hc:cell? m' ⟨f,1040,none⟩=some (.bool b')) (hf:Fr (fun i j=>i=f∧j=1040) m m'):
  DictAt m' f bh h wr rd b' where
 hist:=hf.cell hD.hist (by simp)
 wr:=hf.cell hD.wr (by simp)
 rd:=hf.cell hD.rd (by simp)
 full:=hc
 data:=fun i hi=>hf.cell (hD.data i hi) (by rintro ⟨e,_⟩; exact hD.ne e)
 wf:=fun i h1 h2=>(hD.wf i h1 h2).fr hf
 wh:=fun i h1=>(hD.wh i h1).fr hf
 ne:=hD.ne
theorem DictAt.setData (hD:DictAt m f bh h wr rd full) (o n:Nat) (g:Nat→Int) {m':Mem} (hc:∀ i,i < n→cell? m' ⟨bh,o+i,none⟩=some (.int .u8 (g i)))
  (hf:Fr (fun i j=>i=bh∧o≤j∧j < o+n) m m'):DictAt m' f bh (fun i=>if o≤i∧i < o+n then g (i - o) else h i) wr rd full where
 hist:=hf.cell hD.hist (by rintro ⟨e,_⟩; exact hD.ne e.symm)
 wr:=hf.cell hD.wr (by rintro ⟨e,_⟩; exact hD.ne e.symm)
 rd:=hf.cell hD.rd (by rintro ⟨e,_⟩; exact hD.ne e.symm)
 full:=hf.cell hD.full (by rintro ⟨e,_⟩; exact hD.ne e.symm)
 data:=fun i hi=>by
  by_cases hin:o≤i∧i < o+n
  ·rw [if_pos hin]
   have:=hc (i - o) (by omega)
   rw [show o+(i - o)=i from by omega] at this
   exact this
  ·rw [if_neg hin]
   exact hf.cell (hD.data i hi) (by rintro ⟨_,h1,h2⟩; exact hin ⟨h1,h2⟩)
 wf:=fun i h1 h2=>(hD.wf i h1 h2).fr hf
 wh:=fun i h1=>(hD.wh i h1).fr hf
 ne:=hD.ne
theorem availRead_spec (hD:DictAt m f bh h wr rd full) (h1:rd≤wr) (h2:wr≤32768) {R:Value→Mem→Prop} (hk:R (.int .i64 ((wr - rd:Nat):Int)) m):
  CallM PP f_dictDecoder_availRead #[.pointer (some ⟨f,1037,none⟩)] m R:=by
 refine e_dictDecoder_availRead f m R ⟨_,hD.wr,_,hD.rd,?_⟩
 rw [wrap64_id (by omega) (by omega)]
 rw [show ((wr:Int) - rd)=((wr - rd:Nat):Int) from by omega]; exact hk
theorem availWrite_spec (hD:DictAt m f bh h wr rd full) (h2:wr≤32768) {R:Value→Mem→Prop} (hk:R (.int .i64 ((32768 - wr:Nat):Int)) m):
  CallM PP f_dictDecoder_availWrite #[.pointer (some ⟨f,1037,none⟩)] m R:=by
 refine e_dictDecoder_availWrite f m R ⟨_,_,_,hD.hist,_,hD.wr,?_⟩
 rw [wrap64_id (by omega) (by omega)]
 rw [show (((32768:Nat):Int) - wr)=((32768 - wr:Nat):Int) from by omega]; exact hk
theorem histSize_spec (hD:DictAt m f bh h wr rd full) {R:Value→Mem→Prop} (hk:R (.int .i64 ((if full then 32768 else wr:Nat):Int)) m):
  CallM PP f_dictDecoder_histSize #[.pointer (some ⟨f,1037,none⟩)] m R:=by
 refine e_dictDecoder_histSize f m R ?_
 refine ⟨_,hD.full,ifB_of (fun hb=>?_) (fun hb=>?_)⟩
 ·subst hb; exact ⟨_,_,_,hD.hist,hk⟩
 ·subst hb; exact ⟨_,hD.wr,hk⟩
theorem writeMark_spec (hD:DictAt m f bh h wr rd full) (n:Nat) (h2:wr+n≤32768) {R:Value→Mem→Prop}
  (hk:∀ m',DictAt m' f bh h (wr+n) rd full→Fr (DictS f bh) m m'→R (.tuple #[]) m'):
  CallM PP f_dictDecoder_writeMark #[.pointer (some ⟨f,1037,none⟩),.int .i64 n] m R:=by
 refine e_dictDecoder_writeMark f n m R ⟨_,hD.wr,?_⟩
 rw [wrap64_id (by omega) (by omega)]
 refine StW.at rfl (hD.wf _ (by simp) (by simp)) fun m' hc hf _=>?_
 exact hk m' (hD.setWr (wr+n) (by rw [hc]; simp) hf) (hf.mono fun i j ⟨e1,e2⟩=>.inl ⟨e1,by omega,by omega⟩)
theorem writeByte_spec (hD:DictAt m f bh h wr rd full) (c:Int) (h2:wr < 32768) {R:Value→Mem→Prop}
  (hk:∀ m',DictAt m' f bh (fun i=>if i=wr then c else h i) (wr+1) rd full→Fr (DictS f bh) m m'→R (.tuple #[]) m'):
  CallM PP f_dictDecoder_writeByte #[.pointer (some ⟨f,1037,none⟩),.int .u8 c] m R:=by
 refine e_dictDecoder_writeByte f c m R ⟨_,_,_,hD.hist,_,hD.wr,⟨by omega,by omega⟩,?_⟩
 refine StW.at rfl ?_ fun m1 hc1 hf1 _=>?_
 ·have:=hD.wh wr h2
  simpa [aplus] using this
 have hc1':cell? m1 ⟨bh,wr,none⟩=some (.int .u8 c):=by simpa [aplus] using hc1
 have hf1':Fr (fun i j=>i=bh∧wr≤j∧j < wr+1) m m1:=hf1.mono fun i j ⟨e1,e2⟩=>by
  simp at e1 e2
  exact ⟨e1,by omega,by omega⟩
 have hD1:=hD.setData wr 1 (fun _=>c) (fun i hi=>by rw [show wr+i=wr from by omega]; exact hc1') hf1'
 refine ⟨_,hD1.wr,?_⟩
 rw [wrap64_id (by omega) (by omega)]
 refine StW.at rfl (hD1.wf _ (by simp) (by simp)) fun m2 hc2 hf2 _=>?_
 have hD2:=hD1.setWr (wr+1) (by rw [hc2]; simp) hf2
 have hfun:(fun i=>if wr≤i∧i < wr+1 then c else h i)=(fun i=>if i=wr then c else h i):=by
  funext i
  by_cases hi:i=wr
  ·rw [if_pos hi,if_pos (by omega)]
  ·rw [if_neg hi,if_neg (by omega)]
 rw [hfun] at hD2
 refine hk m2 hD2 ((hf1'.mono fun i j ⟨e1,_⟩=>.inr e1).trans (hf2.mono fun i j ⟨e1,e2⟩=>.inl ⟨e1,by omega,by omega⟩))
end
end Go.M

namespace Go.M
open Go
set_option maxRecDepth 100000
def rep (h:Nat→Int) (src d dst:Nat):Nat→Int:=fun i=>if src≤i∧i < dst then h (src+(i - src) % d) else h i
theorem rep_start (h:Nat→Int) (src d:Nat):rep h src d (src+d)=h:=by
 funext i
 unfold rep
 split
 ·rename_i hi
  rw [Nat.mod_eq_of_lt (by omega)]
  congr 1; omega
 ·rfl
theorem rep_short (h:Nat→Int) {src d e:Nat} (hd:e≤src+d):rep h src d e=h:=by
 funext i
 unfold rep
 split
 ·rename_i hi
  rw [Nat.mod_eq_of_lt (by omega)]
  congr 1; omega
 ·rfl
theorem rep_step (h:Nat→Int) {src d dst n:Nat} (hd:d ∣ dst - src) (hs:src≤dst) (hn:n≤dst - src):
  (fun i=>if dst≤i∧i < dst+n then rep h src d dst (src+(i - dst)) else rep h src d dst i)=rep h src d (dst+n):=by
 funext i
 obtain ⟨q,hq⟩:=hd
 by_cases h1:dst≤i∧i < dst+n
 ·rw [if_pos h1]
  unfold rep
  rw [if_pos (by omega),if_pos (by omega)]
  have:i - src=(i - dst)+d * q:=by omega
  rw [this,Nat.add_mul_mod_self_left,Nat.add_sub_cancel_left]
 ·rw [if_neg h1]
  unfold rep
  by_cases h2:src≤i∧i < dst
  ·rw [if_pos h2,if_pos (by omega)]
  ·rw [if_neg h2,if_neg (by omega)]
theorem slice_u8:∀ {f:Nat} {m:Mem} {a b:Option Addr} {l k l' k':Nat},cell? m ⟨f,1037,none⟩=some (.slice a l k)→cell? m ⟨f,1037,none⟩=some (.slice b l' k')→a=b∧l=l'∧k=k':=by
 intro f m a b l k l' k' h1 h2
 rw [h1] at h2
 simpa using h2
section
variable {m:Mem} {f bh:Nat} {h:Nat→Int} {wr rd:Nat} {full:Bool}
theorem copyRound (hD:DictAt m f bh h wr rd full) {src dst en d:Nat} (hh:h=rep h src d dst) (hs:src < dst) (hd:d ∣ dst - src) (he:dst < en) (hen:en≤32768) {K:Value→Mem→Prop}
  (hk:∀ m' n,n=min (dst - src) (en - dst)→DictAt m' f bh (rep h src d (dst+n)) wr rd full→Fr (DictS f bh) m m'→K (.int .i64 (n:Nat)) m'):
  SemW PP (builtin .copy #[t_s_uint8,t_s_uint8] t_int #[false,false] #[.slice (subA (some ⟨bh,0,none⟩) dst 1 32768) (en - dst) (32768 - dst),.slice (subA (some ⟨bh,0,none⟩) src 1 32768) (dst - src) (32768 - src)]) m (NextW PP K):=by
 refine copyB_W bh dst bh src (min (dst - src) (en - dst)) (fun i=>h (src+i)) rfl (fun _=>by rw [subA_lt (by omega)]; simp) (fun i hi=>hD.data _ (by omega))
  (fun _=>by rw [subA_lt (by omega)]; simp) (fun i hi=>hD.wh _ (by omega)) fun m' h1 h2 h3=>?_
 refine hk m' _ rfl ?_ (h2.mono fun i j ⟨e,_⟩=>.inr e)
 have:=hD.setData dst (min (dst - src) (en - dst)) (fun i=>h (src+i)) h1 h2
 rw [hh] at this
 rw [rep_step h hd (by omega) (by omega)] at this
 exact this
theorem rep_rep (h:Nat→Int) {src d dst:Nat} (hd:0 < d) (hs:src+d≤dst):rep (rep h src d dst) src d dst=rep h src d dst:=by
 funext i
 unfold rep
 split
 ·have:=Nat.mod_lt (i - src) hd
  rw [if_pos (by omega)]
  congr 2
  rw [Nat.add_sub_cancel_left,Nat.mod_mod]
 ·rfl
theorem rep_more (h:Nat→Int) {src d dst e:Nat} (hd:0 < d) (hs:src+d≤dst):rep (rep h src d dst) src d e=rep h src d (max dst e):=by
 funext i
 unfold rep
 by_cases h1:src≤i∧i < e
 ·have:=Nat.mod_lt (i - src) hd
  rw [if_pos h1,if_pos (by omega),if_pos (by omega)]
  congr 2
  rw [Nat.add_sub_cancel_left,Nat.mod_mod]
 ·rw [if_neg h1]
  by_cases h2:src≤i∧i < dst
  ·rw [if_pos h2,if_pos (by omega)]
  ·rw [if_neg h2,if_neg (by omega)]
theorem tryCopyLoop (hD:DictAt m f bh h wr rd full) {src dst en d b:Nat} (hd:0 < d) (hb:src+d=dst) (hen:en≤32768) (hde:dst≤en) {K:Kont}
  (hk:∀ m',DictAt m' f bh (rep h src d en) wr rd full→Fr (DictS f bh) m m'→
   K.kx 0 [(0,.pointer (some ⟨f,1037,none⟩)),(7,.int .i64 (en:Nat)),(8,.int .i64 (en:Nat)),(9,.int .i64 (b:Nat)),(10,.int .i64 (src:Nat))] m') (r:Env)
  (hr:Env.keep [0,7,8,9,10] r=[(0,.pointer (some ⟨f,1037,none⟩)),(7,.int .i64 (dst:Nat)),(8,.int .i64 (en:Nat)),(9,.int .i64 (b:Nat)),(10,.int .i64 (src:Nat))]):
  WPS PP 61 c_dictDecoder_tryWriteCopy_rrrrrrll K r m:=by
 rw [q_dictDecoder_tryWriteCopy_rrrrrrll]
 refine loopW ffOk mixedOk (L₀:=L_dictDecoder_tryWriteCopy) [0,7,8,9,10] (fun x:Nat=>[(0,.pointer (some ⟨f,1037,none⟩)),(7,.int .i64 (x:Nat)),(8,.int .i64 (en:Nat)),(9,.int .i64 (b:Nat)),(10,.int .i64 (src:Nat))])
  (fun x m'=>DictAt m' f bh (rep h src d x) wr rd full∧Fr (DictS f bh) m m'∧src+d≤x∧x≤en∧(d ∣ x - src∨x=en)) (fun x=>en - x) dst hr ?_ ?_
 ·refine ⟨?_,Fr.refl _ _,by omega,hde,.inl ?_⟩
  ·rw [← hb,rep_start]; exact hD
  ·rw [← hb,Nat.add_sub_cancel_left]; exact Nat.dvd_refl _
 ·rintro x m' ⟨hX,hF,h1,h2,h3⟩
  refine p_dictDecoder_tryWriteCopy_rrrrrrlll f x en b src m' _ (ifB_of (fun ht=>?_) (fun ht=>?_))
  ·have hlt:x < en:=by simpa using ht
   refine ⟨_,_,_,hX.hist,by omega,⟨by omega,by omega⟩,⟨by omega,by omega⟩,_,_,_,hX.hist,by omega,⟨by omega,by omega⟩,⟨by omega,by omega⟩,?_⟩
   simp only [Int.toNat_natCast]
   have h3':d ∣ x - src:=by
    rcases h3 with h3 | h3
    ·exact h3
    ·omega
   refine copyRound hX (src:=src) (dst:=x) (en:=en) (d:=d) (by rw [rep_rep h hd h1]) (by omega) h3' hlt hen fun m'' n hn hY hF'=>?_
   refine ⟨_,rfl,x+n,?_,⟨?_,hF.trans hF',by omega,by omega,?_⟩,by omega⟩
   ·rw [wrap64_id (by omega) (by omega)]; rfl
   ·rw [rep_more h hd h1,Nat.max_eq_right (by omega)] at hY; exact hY
   ·rcases Nat.le_total (x - src) (en - x) with hm | hm
    ·left
     rw [hn,Nat.min_eq_left hm,show x+(x - src) - src=(x - src)+(x - src) from by omega]
     exact Nat.dvd_add h3' h3'
    ·right; omega
  ·have hge: ¬ x < en:=by simpa using ht
   have:x=en:=by omega
   subst this
   exact hk m' hX hF
theorem copyLoop (hD:DictAt m f bh h wr rd full) {src dst en d b:Nat} (hd:0 < d) (hb:src+d=dst∨dst=en) (hsd:src≤dst) (hen:en≤32768) (hde:dst≤en) {K:Kont}
  (hk:∀ m',DictAt m' f bh (if src+d=dst then rep h src d en else h) wr rd full→Fr (DictS f bh) m m'→
   K.kx 0 [(0,.pointer (some ⟨f,1037,none⟩)),(7,.int .i64 (b:Nat)),(8,.int .i64 (en:Nat)),(9,.int .i64 (src:Nat)),(10,.int .i64 (en:Nat))] m') (r:Env)
  (hr:Env.keep [0,7,8,9,10] r=[(0,.pointer (some ⟨f,1037,none⟩)),(7,.int .i64 (b:Nat)),(8,.int .i64 (dst:Nat)),(9,.int .i64 (src:Nat)),(10,.int .i64 (en:Nat))]):
  WPS PP 80 c_dictDecoder_writeCopy_rrrrrrll K r m:=by
 rw [q_dictDecoder_writeCopy_rrrrrrll]
 refine loopW ffOk mixedOk (L₀:=L_dictDecoder_writeCopy) [0,7,8,9,10] (fun x:Nat=>[(0,.pointer (some ⟨f,1037,none⟩)),(7,.int .i64 (b:Nat)),(8,.int .i64 (x:Nat)),(9,.int .i64 (src:Nat)),(10,.int .i64 (en:Nat))])
  (fun x m'=>DictAt m' f bh (if src+d=dst then rep h src d x else h) wr rd full∧Fr (DictS f bh) m m'∧dst≤x∧x≤en∧(d ∣ x - src∧src+d=dst∨x=en)) (fun x=>en - x) dst hr ?_ ?_
 ·refine ⟨?_,Fr.refl _ _,by omega,hde,?_⟩
  ·split
   ·rename_i e; rw [← e,rep_start]; exact hD
   ·exact hD
  ·rcases hb with hb | hb
   ·left; refine ⟨?_,hb⟩; rw [← hb,Nat.add_sub_cancel_left]; exact Nat.dvd_refl _
   ·right; exact hb
 ·rintro x m' ⟨hX,hF,h1,h2,h3⟩
  refine p_dictDecoder_writeCopy_rrrrrrlll f b x src en m' _ (ifB_of (fun ht=>?_) (fun ht=>?_))
  ·have hlt:x < en:=by simpa using ht
   refine ⟨_,_,_,hX.hist,by omega,⟨by omega,by omega⟩,⟨by omega,by omega⟩,_,_,_,hX.hist,by omega,⟨by omega,by omega⟩,⟨by omega,by omega⟩,?_⟩
   simp only [Int.toNat_natCast]
   have h3':d ∣ x - src∧src+d=dst:=by
    rcases h3 with h3 | h3
    ·exact h3
    ·omega
   obtain ⟨h3',h4⟩:=h3'
   rw [if_pos h4] at hX
   refine copyRound hX (src:=src) (dst:=x) (en:=en) (d:=d) (by rw [rep_rep h hd (by omega)]) (by omega) h3' hlt hen fun m'' n hn hY hF'=>?_
   refine ⟨_,rfl,x+n,?_,⟨?_,hF.trans hF',by omega,by omega,?_⟩,by omega⟩
   ·rw [wrap64_id (by omega) (by omega)]; rfl
   ·rw [if_pos h4]
    rw [rep_more h hd (by omega),Nat.max_eq_right (by omega)] at hY; exact hY
   ·rcases Nat.le_total (x - src) (en - x) with hm | hm
    ·left
     refine ⟨?_,h4⟩
     rw [hn,Nat.min_eq_left hm,show x+(x - src) - src=(x - src)+(x - src) from by omega]
     exact Nat.dvd_add h3' h3'
    ·right; omega
  ·have hge: ¬ x < en:=by simpa using ht
   have:x=en:=by omega
   subst this
   exact hk m' hX hF
theorem tryWriteCopy_spec (hD:DictAt m f bh h wr rd full) (d n:Nat) (hd:0 < d) (hd2:d≤32768) (hn2:n≤258) (hw:wr≤32768) {R:Value→Mem→Prop}
  (hno: ¬ (d≤wr∧wr+n≤32768)→R (.int .i64 0) m)
  (hk:∀ m',d≤wr→wr+n≤32768→DictAt m' f bh (rep h (wr - d) d (wr+n)) (wr+n) rd full→Fr (DictS f bh) m m'→R (.int .i64 (n:Nat)) m'):
  CallM PP f_dictDecoder_tryWriteCopy #[.pointer (some ⟨f,1037,none⟩),.int .i64 (d:Nat),.int .i64 (n:Nat)] m R:=by
 refine e_dictDecoder_tryWriteCopy f d n m R ⟨_,hD.wr,ifB_of (fun ht=>?_) (fun ht=>?_)⟩
 ·have:wr < d:=by simpa using ht
  exact hno (by omega)
 have h1:d≤wr:=by simpa using ht
 refine ⟨_,_,_,hD.hist,?_⟩
 rw [wrap64_id (n:=(wr:Int)+n) (by omega) (by omega),wrap64_id (n:=(wr:Int) - d) (by omega) (by omega)]
 refine ifB_of (fun ht=>?_) (fun ht=>?_)
 ·have:=of_decide_eq_true ht
  exact hno (by omega)
 have h2:wr+n≤32768:=by have:=of_decide_eq_false ht; omega
 refine tryCopyLoop hD (src:=wr - d) (dst:=wr) (en:=wr+n) (d:=d) (b:=wr) hd (by omega) h2 (by omega) (fun m' hX hF=>?_) _ ?_
 ·refine WPS.piece k_dictDecoder_tryWriteCopy_rrrrrrr rfl (p_dictDecoder_tryWriteCopy_rrrrrrr f _ _ m' _ (StW.at rfl (hX.wf _ (by simp) (by simp)) fun m'' hc hf _=>?_))
  show R (.int .i64 _) m''
  rw [wrap64_id (by omega) (by omega),show (((wr+n:Nat):Int) - wr)=n from by omega]
  exact hk m'' h1 h2 (hX.setWr _ hc hf) (hF.trans (hf.mono fun i j ⟨e1,e2⟩=>.inl ⟨e1,by omega,by omega⟩))
 ·rw [show ((wr:Int)+n)=((wr+n:Nat):Int) from by omega,show ((wr:Int) - d)=((wr - d:Nat):Int) from by omega]; rfl
def wrapCopy (h:Nat→Int) (wr d e:Nat):Nat→Int:=
 if d≤wr then rep h (wr - d) d e
 else rep (fun i=>if wr≤i∧i < min e d then h (wr+32768 - d+(i - wr)) else h i) 0 d e
theorem writeCopy_spec (hD:DictAt m f bh h wr rd full) (d n:Nat) (hd:0 < d) (hd2:d≤32768) (hn2:n≤258) (hw:wr≤32768) {R:Value→Mem→Prop}
  (hk:∀ m',DictAt m' f bh (wrapCopy h wr d (min 32768 (wr+n))) (min 32768 (wr+n)) rd full→Fr (DictS f bh) m m'→R (.int .i64 (min 32768 (wr+n) - wr:Nat)) m'):
  CallM PP f_dictDecoder_writeCopy #[.pointer (some ⟨f,1037,none⟩),.int .i64 (d:Nat),.int .i64 (n:Nat)] m R:=by
 refine e_dictDecoder_writeCopy f d n m R ⟨_,hD.wr,_,_,_,hD.hist,?_⟩
 rw [wrap64_id (n:=(wr:Int)+n) (by omega) (by omega),wrap64_id (n:=(wr:Int) - d) (by omega) (by omega)]
 have hen:(if (((32768:Nat):Int) < (wr:Int)+n) then (((32768:Nat):Int)) else (wr:Int)+n)=((min 32768 (wr+n):Nat):Int):=by split <;> omega
 rw [hen]
 have hW:wr≤min 32768 (wr+n):=by omega
 have hE:min 32768 (wr+n)≤32768:=by omega
 generalize min 32768 (wr+n)=e at hk hW hE hen ⊢
 have fin:∀ m',DictAt m' f bh (wrapCopy h wr d e) wr rd full→Fr (DictS f bh) m m'→wpc PP FF 80 L_dictDecoder_writeCopy c_dictDecoder_writeCopy_rrrrrrr (retK PP r_dictDecoder_writeCopy R) [(0,.pointer (some ⟨f,1037,none⟩)),(7,.int .i64 (wr:Nat)),(8,.int .i64 (e:Nat))] m':=by
  intro m' hX hF
  refine p_dictDecoder_writeCopy_rrrrrrr f _ _ m' _ (StW.at rfl (hX.wf _ (by simp) (by simp)) fun m'' hc hf _=>?_)
  show R (.int .i64 _) m''
  rw [wrap64_id (by omega) (by omega),show ((e:Int) - wr)=((e - wr:Nat):Int) from by omega]
  exact hk m'' (hX.setWr _ hc hf) (hF.trans (hf.mono fun i j ⟨e1,e2⟩=>.inl ⟨e1,by omega,by omega⟩))
 refine ifB_of (fun ht=>?_) (fun ht=>?_)
 ·have hlt:wr < d:=by have:=of_decide_eq_true ht; omega
  refine ⟨_,_,_,hD.hist,_,_,_,hD.hist,by omega,⟨by omega,by omega⟩,⟨by omega,by omega⟩,_,_,_,hD.hist,by omega,?_⟩
  have e1:IntKind.wrap .i64 ((wr:Int) - d+((32768:Nat):Int))=((wr+32768 - d:Nat):Int):=by
   rw [wrap64_id (by omega) (by omega)]; omega
  rw [e1]
  refine ⟨⟨by omega,by omega⟩,?_⟩
  simp only [Int.toNat_natCast]
  have hmin:min (32768 - (wr+32768 - d)) (e - wr)=min e d - wr:=by omega
  refine copyB_W bh wr bh (wr+32768 - d) (min e d - wr) (fun i=>h (wr+32768 - d+i)) hmin.symm (fun _=>by rw [subA_lt (by omega)]; simp) (fun i hi=>hD.data _ (by omega))
   (fun _=>by rw [subA_lt (by omega)]; simp) (fun i hi=>hD.wh _ (by omega)) fun m' h1 h2 h3=>?_
  refine ⟨_,rfl,?_⟩
  have hX:=hD.setData wr (min e d - wr) (fun i=>h (wr+32768 - d+i)) h1 h2
  have hF:Fr (DictS f bh) m m':=h2.mono fun i j ⟨e,_⟩=>.inr e
  have hw2:IntKind.wrap .i64 ((wr:Int)+((min e d - wr:Nat):Int))=((min e d:Nat):Int):=by rw [wrap64_id (by omega) (by omega)]; omega
  rw [hw2]
  refine WPS.piece [0,7,8,9,10] rfl (p_dictDecoder_writeCopy_rrrrrr f wr _ ((0:Nat):Int) e m' _ ?_)
  refine copyLoop hX (src:=0) (dst:=min e d) (en:=e) (d:=d) (b:=wr) hd (by omega) (by omega) hE (by omega) (fun m'' hY hF'=>?_) _ rfl
  refine WPS.piece k_dictDecoder_writeCopy_rrrrrrr rfl (fin m'' ?_ (hF.trans hF'))
  have:(if 0+d=min e d then rep (fun i=>if wr≤i∧i < wr+(min e d - wr) then h (wr+32768 - d+(i - wr)) else h i) 0 d e else fun i=>if wr≤i∧i < wr+(min e d - wr) then h (wr+32768 - d+(i - wr)) else h i)=wrapCopy h wr d e:=by
   unfold wrapCopy
   rw [if_neg (show ¬ d≤wr by omega),show wr+(min e d - wr)=min e d from by omega]
   split
   ·rfl
   ·rw [rep_short _ (by omega)]
  rw [this] at hY
  exact hY
 ·have hge:d≤wr:=by have:=of_decide_eq_false ht; omega
  refine WPS.piece [0,7,8,9,10] rfl (p_dictDecoder_writeCopy_rrrrrr f wr _ _ e m _ ?_)
  refine copyLoop hD (src:=wr - d) (dst:=wr) (en:=e) (d:=d) (b:=wr) hd (by omega) (by omega) hE (by omega) (fun m'' hY hF'=>?_) _ ?_
  ·refine WPS.piece k_dictDecoder_writeCopy_rrrrrrr rfl (fin m'' ?_ hF')
   unfold wrapCopy
   rw [if_pos hge]
   rw [if_pos (by omega)] at hY
   exact hY
  ·rw [show ((wr:Int) - d)=((wr - d:Nat):Int) from by omega]; rfl
end
end Go.M

namespace Go.M
open Go
set_option maxRecDepth 100000
structure Errs where
 pe:Addr
 pu:Addr
 ps:Addr
def errV (p:Addr):Value:=.iface t_p_errors_errorString (.pointer (some p))
def Errs.eof (E:Errs):Value:=errV E.pe
def Errs.cut (E:Errs):Value:=errV E.pu
def Plain (m:Mem) (p:Nat):Prop:=∃ c t lo hi,m[p]?=some (.cells c t (lo,hi))∧hi≤lo
theorem Plain.fr {S:Nat→Nat→Prop} {m m':Mem} {p:Nat} (h:Plain m p) (hf:Fr S m m'):Plain m' p:=by
 obtain ⟨c,t,lo,hi,h1,h2⟩:=h
 obtain ⟨c',h3,_,_⟩:=hf.cells _ _ _ _ h1
 exact ⟨c',t,lo,hi,h3,h2⟩
noncomputable def hd (t:Nat):Value:=.pointer (some ⟨PP.globals.size,t,none⟩)
noncomputable def rty (t:Nat):Value:=.iface t_reflectlite_rtype (.agg #[hd t])
structure Glob (E:Errs) (m:Mem):Prop where
 eof:cell? m ⟨g_io_EOF,0,none⟩=some E.eof
 cut:cell? m ⟨g_io_ErrUnexpectedEOF,0,none⟩=some E.cut
 short:cell? m ⟨g_io_ErrShortBuffer,0,none⟩=some (errV E.ps)
 order:∀ (i v:Nat),[16,17,18,0,8,7,9,6,10,5,11,4,12,3,13,2,14,1,15][i]?=some v→cell? m ⟨g_inflate_codeOrder,i,none⟩=some (.int .i64 (v:Int))
 et:cell? m ⟨g_errors_errorType,0,none⟩=some (rty t_error)
 ne:E.pe≠E.pu
 be:Plain m E.pe.block
 bu:Plain m E.pu.block
theorem Glob.fr {E:Errs} {S:Nat→Nat→Prop} {m m':Mem} (hG:Glob E m) (hf:Fr S m m') (hs:∀ i j,S i j→4 < i):Glob E m' where
 eof:=hf.cell hG.eof fun h=>absurd (hs _ _ h) (by decide)
 cut:=hf.cell hG.cut fun h=>absurd (hs _ _ h) (by decide)
 short:=hf.cell hG.short fun h=>absurd (hs _ _ h) (by decide)
 order:=fun i v hv=>hf.cell (hG.order i v hv) fun h=>absurd (hs _ _ h) (show ¬ 4 < g_inflate_codeOrder by decide)
 et:=hf.cell hG.et fun h=>absurd (hs _ _ h) (by decide)
 ne:=hG.ne
 be:=hG.be.fr hf
 bu:=hG.bu.fr hf
structure Rdr (E:Errs) (src:List Nat) where
 rv:Value
 At:Nat→Mem→Prop
 S:Nat→Nat→Prop
 isI:isIfc rv=true
 meth:∀ {K:Unit→Prop},K ()→PureW PP (methNil "Read" #[rv]) K
 notNil:isNil rv=false
 own:∀ i j,S i j→4 < i
 fr:∀ {T:Nat→Nat→Prop} {m m':Mem} {pos:Nat},At pos m→Fr T m m'→(∀ i j,S i j→ ¬ T i j)→At pos m'
 le:∀ {pos m},At pos m→pos≤src.length
 readByte:∀ {pos:Nat} {m:Mem} {K:Value→Mem→Prop},At pos m→Glob E m→
  (∀ c m',src[pos]?=some c→At (pos+1) m'→Fr S m m'→K (.tuple #[.int .u8 (c:Int),.nilIface]) m')→
  (∀ m',pos=src.length→At pos m'→Fr S m m'→K (.tuple #[.int .u8 0,E.eof]) m')→
  SemW PP (callMethod rv "ReadByte" #[]) m (NextW PP K)
 read:∀ {pos:Nat} {m:Mem} {K:Value→Mem→Prop} {b o n k:Nat},At pos m→Glob E m→0 < n→n≤k→WrRow m b o n→(∀ i,i < n→ ¬ S b (o+i))→
  (∀ c m',0 < c→c≤n→pos+c≤src.length→At (pos+c) m'→(∀ (i v:Nat),i < c→src[pos+i]?=some v→cell? m' ⟨b,o+i,none⟩=some (.int .u8 (v:Int)))→
   Fr (fun i j=>S i j∨(i=b∧o≤j∧j < o+c)) m m'→K (.tuple #[.int .i64 (c:Int),.nilIface]) m')→
  (∀ m',pos=src.length→At pos m'→Fr S m m'→K (.tuple #[.int .i64 0,E.eof]) m')→
  SemW PP (callMethod rv "Read" #[.slice (some ⟨b,o,none⟩) n k]) m (NextW PP K)
structure BytesAt (src:List Nat) (rb db:Nat) (pos:Nat) (m:Mem):Prop where
 s:∃ a k,cell? m ⟨rb,0,none⟩=some (.slice a src.length k)∧src.length≤k∧(src≠[]→a=some ⟨db,0,none⟩)
 i:cell? m ⟨rb,1,none⟩=some (.int .i64 (pos:Int))
 w1:Wr m ⟨rb,1,none⟩
 w2:Wr m ⟨rb,2,none⟩
 data:∀ (i:Nat) (v:Nat),src[i]?=some v→cell? m ⟨db,i,none⟩=some (.int .u8 (v:Int))
 le:pos≤src.length
 big:src.length < 4611686018427387904
 ne:rb≠db
 lo:4 < rb∧4 < db
def BytesS (rb db:Nat):Nat→Nat→Prop:=fun i _=>i=rb∨i=db
theorem BytesAt.fr {src:List Nat} {rb db pos:Nat} {m m':Mem} {T:Nat→Nat→Prop} (h:BytesAt src rb db pos m) (hf:Fr T m m') (hs:∀ i j,BytesS rb db i j→ ¬ T i j):BytesAt src rb db pos m' where
 s:=let ⟨a,k,h1,h2,h3⟩:=h.s; ⟨a,k,hf.cell h1 (hs _ _ (.inl rfl)),h2,h3⟩
 i:=hf.cell h.i (hs _ _ (.inl rfl))
 w1:=h.w1.fr hf
 w2:=h.w2.fr hf
 data:=fun i v hv=>hf.cell (h.data i v hv) (hs _ _ (.inr rfl))
 le:=h.le
 big:=h.big
 ne:=h.ne
 lo:=h.lo
theorem BytesAt.move {src:List Nat} {rb db pos pos':Nat} {m m':Mem} (h:BytesAt src rb db pos m) (hc:cell? m' ⟨rb,1,none⟩=some (.int .i64 (pos':Int))) (hf:Fr (fun i j=>i=rb∧1≤j) m m') (hle:pos'≤src.length):BytesAt src rb db pos' m' where
 s:=let ⟨a,k,h1,h2,h3⟩:=h.s; ⟨a,k,hf.cell h1 (by simp),h2,h3⟩
 i:=hc
 w1:=h.w1.fr hf
 w2:=h.w2.fr hf
 data:=fun i v hv=>hf.cell (h.data i v hv) (by rintro ⟨e,_⟩; exact h.ne e.symm)
 le:=hle
 big:=h.big
 ne:=h.ne
 lo:=h.lo
theorem callM_bytes_ReadByte (b:Nat) (m:Mem) (K:Value→Mem→Prop) (h:CallM PP f_bytes_Reader_ReadByte #[.pointer (some ⟨b,0,none⟩)] m K):
  SemW PP (callMethod (.iface t_p_bytes_Reader (.pointer (some ⟨b,0,none⟩))) "ReadByte" #[]) m (NextW PP K):=Eq.mpr (by kernel_rfl) h
theorem callM_bytes_Read (b:Nat) (x:Value) (m:Mem) (K:Value→Mem→Prop) (h:CallM PP f_bytes_Reader_Read #[.pointer (some ⟨b,0,none⟩),x] m K):
  SemW PP (callMethod (.iface t_p_bytes_Reader (.pointer (some ⟨b,0,none⟩))) "Read" #[x]) m (NextW PP K):=Eq.mpr (by kernel_rfl) h
theorem meth_bytes (b:Nat) (K:Unit→Prop) (h:K ()):PureW PP (methNil "Read" #[.iface t_p_bytes_Reader (.pointer (some ⟨b,0,none⟩))]) K:=Eq.mpr (by kernel_rfl) h
theorem bytes_ReadByte {E:Errs} {src:List Nat} {rb db pos:Nat} {m:Mem} {R:Value→Mem→Prop} (hA:BytesAt src rb db pos m) (hG:Glob E m)
  (hk:∀ c m',src[pos]?=some c→BytesAt src rb db (pos+1) m'→Fr (BytesS rb db) m m'→R (.tuple #[.int .u8 (c:Int),.nilIface]) m')
  (he:∀ m',pos=src.length→BytesAt src rb db pos m'→Fr (BytesS rb db) m m'→R (.tuple #[.int .u8 0,E.eof]) m'):
  CallM PP f_bytes_Reader_ReadByte #[.pointer (some ⟨rb,0,none⟩)] m R:=by
 have hb:=hA.big
 refine e_bytes_Reader_ReadByte rb m R (StW.at rfl hA.w2 fun m1 hc1 hf1 _=>?_)
 have hF1:Fr (BytesS rb db) m m1:=hf1.mono fun i j h=>.inl h.1
 have hA1:=hA.move (hf1.cell hA.i (by simp)) (hf1.mono fun i j h=>⟨h.1,by omega⟩) hA.le
 obtain ⟨a,k,h1,h2,h3⟩:=hA1.s
 refine ⟨_,hA1.i,_,_,_,h1,ifB_of (fun ht=>?_) (fun ht=>?_)⟩
 ·have hge:pos=src.length:=by have:=of_decide_eq_true ht; have:=hA.le; omega
  exact ⟨_,(hG.fr hF1 fun i j h=>by rcases h with rfl | rfl; exact hA.lo.1; exact hA.lo.2).eof,he m1 hge hA1 hF1⟩
 ·have hlt:pos < src.length:=by have:=of_decide_eq_false ht; omega
  have ha:=h3 (by rintro rfl; simp at hlt)
  subst ha
  refine ⟨_,_,_,h1,_,hA1.i,?_⟩
  show (0≤(pos:Int)∧(pos:Int) < _)∧_
  refine ⟨⟨by omega,by omega⟩,?_⟩
  refine ⟨(src[pos]:Nat),?_,?_⟩
  ·have:=hA1.data pos src[pos] (List.getElem?_eq_getElem hlt)
   simpa [aplus] using this
  refine ⟨_,hA1.i,?_⟩
  rw [wrap64_id (by omega) (by omega)]
  refine StW.at rfl hA1.w1 fun m2 hc2 hf2 _=>?_
  refine hk _ m2 (List.getElem?_eq_getElem hlt) (hA1.move (pos':=pos+1) (by rw [hc2]; rfl) (hf2.mono fun i j h=>⟨h.1,by omega⟩) hlt) (hF1.trans (hf2.mono fun i j h=>.inl h.1))
theorem bytes_Read {E:Errs} {src:List Nat} {rb db pos:Nat} {m:Mem} {R:Value→Mem→Prop} {b o n k:Nat} (hA:BytesAt src rb db pos m) (hG:Glob E m)
  (hn:0 < n) (_hnk:n≤k) (hw:WrRow m b o n) (hS:∀ i,i < n→ ¬ BytesS rb db b (o+i))
  (hk:∀ c m',0 < c→c≤n→pos+c≤src.length→BytesAt src rb db (pos+c) m'→(∀ (i v:Nat),i < c→src[pos+i]?=some v→cell? m' ⟨b,o+i,none⟩=some (.int .u8 (v:Int)))→
   Fr (fun i j=>BytesS rb db i j∨(i=b∧o≤j∧j < o+c)) m m'→R (.tuple #[.int .i64 (c:Int),.nilIface]) m')
  (he:∀ m',pos=src.length→BytesAt src rb db pos m'→Fr (BytesS rb db) m m'→R (.tuple #[.int .i64 0,E.eof]) m'):
  CallM PP f_bytes_Reader_Read #[.pointer (some ⟨rb,0,none⟩),.slice (some ⟨b,o,none⟩) n k] m R:=by
 have hb:=hA.big
 obtain ⟨a,l,h1,h2,h3⟩:=hA.s
 refine e_bytes_Reader_Read rb (some ⟨b,o,none⟩) n k m R ⟨_,hA.i,_,_,_,h1,ifB_of (fun ht=>?_) (fun ht=>?_)⟩
 ·have hge:pos=src.length:=by have:=of_decide_eq_true ht; have:=hA.le; omega
  exact ⟨_,hG.eof,he m hge hA (Fr.refl _ _)⟩
 ·have hlt:pos < src.length:=by have:=of_decide_eq_false ht; omega
  have ha:=h3 (by rintro rfl; simp at hlt)
  subst ha
  refine StW.at rfl hA.w2 fun m1 hc1 hf1 _=>?_
  have hA1:=hA.move (hf1.cell hA.i (by simp)) (hf1.mono fun i j h=>⟨h.1,by omega⟩) hA.le
  obtain ⟨a,l,h1,h2,h3⟩:=hA1.s
  have ha:=h3 (by rintro rfl; simp at hlt)
  subst ha
  refine ⟨_,_,_,h1,_,hA1.i,h2,⟨by omega,by omega⟩,?_⟩
  simp only [Int.toNat_natCast]
  have hbr:b≠rb∧b≠db:=⟨fun e=>hS 0 hn (.inl e),fun e=>hS 0 hn (.inr e)⟩
  refine copyB_W b o db pos (min (src.length - pos) n) (fun i=>((src[pos+i]?).getD 0:Nat)) rfl (fun _=>by rw [subA_lt (by omega)]; simp) (fun i hi=>?_) (fun _=>rfl)
   (fun i hi=>(hw i (by omega)).fr hf1) fun m2 g1 g2 g3=>?_
  ·refine hA1.data _ _ ?_
   rw [List.getElem?_eq_getElem (by omega)]; rfl
  ·have hA2:BytesAt src rb db pos m2:=hA1.fr g2 (by
    rintro i j hij ⟨rfl,_⟩
    rcases hij with h | h
    ·exact hbr.1 h
    ·exact hbr.2 h)
   refine ⟨_,rfl,_,hA2.i,?_⟩
   rw [wrap64_id (by omega) (by omega)]
   refine StW.at rfl hA2.w1 fun m3 hc3 hf3 _=>?_
   refine hk (min (src.length - pos) n) m3 (by omega) (by omega) (by omega) (hA2.move (by rw [hc3]; rfl) (hf3.mono fun i j h=>⟨h.1,by omega⟩) (by omega)) (fun i v hi hv=>?_) ?_
   ·refine hf3.cell ?_ (by rintro ⟨e,_⟩; exact hbr.1 e)
    have:=g1 i hi
    simp only [hv,Option.getD_some] at this
    exact this
   ·refine (hf1.mono ?_).trans ((g2.mono ?_).trans (hf3.mono ?_))
    ·rintro i j ⟨e,_⟩; exact .inl (.inl e)
    ·rintro i j ⟨e,g4,g5⟩; exact .inr ⟨e,g4,by omega⟩
    ·rintro i j ⟨e,_⟩; exact .inl (.inl e)
def bytesRdr (E:Errs) (src:List Nat) (rb db:Nat) (hlo:4 < rb∧4 < db):Rdr E src where
 rv:=.iface t_p_bytes_Reader (.pointer (some ⟨rb,0,none⟩))
 At:=BytesAt src rb db
 S:=BytesS rb db
 isI:=rfl
 meth:=fun h=>meth_bytes rb _ h
 notNil:=rfl
 own:=by rintro i j (rfl | rfl); exact hlo.1; exact hlo.2
 fr:=fun h hf hs=>h.fr hf hs
 le:=fun h=>h.le
 readByte:=fun hA hG hk he=>callM_bytes_ReadByte rb _ _ (bytes_ReadByte hA hG hk he)
 read:=fun hA hG hn hnk hw hS hk he=>callM_bytes_Read rb _ _ _ (bytes_Read hA hG hn hnk hw hS hk he)
end Go.M

namespace Go.M
open Go
set_option maxRecDepth 100000
theorem sameAddr_same {P:Program} (p:Addr) (m:Mem) (K:Bool→Prop) (h:K true):ReadW P m (sameAddr p p) K:=by
 have hb:(p == p)=true:=by simp
 unfold sameAddr
 simp only [beq_self_eq_true,if_true]
 exact h
theorem Plain.frozen {m:Mem} {p:Nat} (h:Plain m p) (i:Nat):frozen? m ⟨p,i,none⟩=false:=by
 obtain ⟨c,t,lo,hi,h1,h2⟩:=h
 simp only [frozen?,h1]
 simp
 omega
theorem frozen_bind {P:Program} {β:Type} {m:Mem} {a:Addr} {f:Bool→Sem β} {K:β→Prop} {b:Bool} (hb:frozen? m a=b) (h:ReadW P m (f b) K):ReadW P m (frozen a >>= f) K:=by
 subst hb; exact h
theorem shape_bind {P:Program} {β:Type} {m:Mem} {r:Nat} {f:Option (TypeId×Nat)→Sem β} {K:β→Prop} {b:Option (TypeId×Nat)} (hb:shape? m r=b) (h:ReadW P m (f b) K):ReadW P m (shape r >>= f) K:=by
 subst hb; exact h
theorem read_bind {P:Program} {α β:Type} {m:Mem} {s:Sem α} {f:α→Sem β} {K:β→Prop} (h:ReadW P m s (fun a=>ReadW P m (f a) K)):ReadW P m (s >>= f) K:=ReadW.bind h
theorem noView_W {P:Program} {m:Mem} {a:Addr} {K:Unit→Prop} {x:TypeId×Nat} (hb:shape? m a.block=some x) (h:K ()):ReadW P m (noView a) K:=by
 unfold noView viewAt
 refine read_bind (shape_bind hb ?_)
 exact h
theorem stringish_W {P:Program} {m:Mem} {a:Addr} {K:Bool→Prop} {t:TypeId} {n:Nat} (hf:frozen? m a=false) (hb:shape? m a.block=some (t,n)) (hf2:frozen? m ⟨a.block,n,none⟩=false) (h:K false):ReadW P m (stringish a) K:=by
 unfold stringish
 refine frozen_bind hf ?_
 refine shape_bind hb ?_
 show K (frozen? m ⟨a.block,n,none⟩)
 rw [hf2]; exact h
theorem sameAddr_other {P:Program} {p q:Addr} (hpq:p≠q) (m:Mem) (hp:Plain m p.block) (hq:Plain m q.block) (K:Bool→Prop) (h:K false):ReadW P m (sameAddr p q) K:=by
 have fp:=hp.frozen
 have fq:=hq.frozen
 obtain ⟨c,t,lo,hi,h1,h2⟩:=hp
 obtain ⟨c',t',lo',hi',h1',h2'⟩:=hq
 have s1:shape? m p.block=some (t,c.size):=by simp [shape?,h1]
 have s2:shape? m q.block=some (t',c'.size):=by simp [shape?,h1']
 unfold sameAddr
 by_cases hbl:p.block=q.block
 ·have hb:(p.block == q.block)=true:=by simpa using hbl
  have hq:(p == q)=false:=by simpa using hpq
  simp only [hb,if_true,hq]
  exact h
 have hb:(p.block == q.block)=false:=by simpa using hbl
 simp only [hb]
 refine frozen_bind (fp p.off) (frozen_bind (fq q.off) ?_)
 refine read_bind (noView_W s1 (read_bind (noView_W s2 (read_bind ?_))))
 unfold mayBeOne
 refine read_bind (stringish_W (fp p.off) s1 (fp _) (read_bind (stringish_W (fq q.off) s2 (fq _) ?_)))
 refine read_bind (shape_bind (r:=p.block) s1 ?_)
 refine read_bind (shape_bind (r:=q.block) s2 ?_)
 exact h
theorem eqErr_W (x y:Operand) (p q:Addr) (m:Mem) (K:Value→Prop) (h:ReadW PP m (sameAddr p q) fun b=>K (.bool b)):
  ReadW PP m (do eqGuard .eql t_error x y (errV p) (errV q); binOp .eql t_error (errV p) (errV q)) K:=by
 have h':ReadW PP m (Sem.bind (sameAddr p q) fun b=>pure (.bool b)) K:=ReadW.bind h
 exact Eq.mpr (by kernel_rfl) h'
theorem eqErr_same (x y:Operand) (p:Addr) (m:Mem) (K:Value→Prop) (h:K (.bool true)):
  ReadW PP m (do eqGuard .eql t_error x y (errV p) (errV p); binOp .eql t_error (errV p) (errV p)) K:=eqErr_W x y p p m K (sameAddr_same p m _ h)
theorem eqErr_other (x y:Operand) {p q:Addr} (hpq:p≠q) {m:Mem} (hp:Plain m p.block) (hq:Plain m q.block) (K:Value→Prop) (h:K (.bool false)):
  ReadW PP m (do eqGuard .eql t_error x y (errV p) (errV q); binOp .eql t_error (errV p) (errV q)) K:=eqErr_W x y p q m K (sameAddr_other hpq m hp hq _ h)
theorem eqCor_W (x y:Operand) (n:Int) (q:Addr) (m:Mem) (K:Value→Prop) (h:K (.bool false)):
  ReadW PP m (do eqGuard .eql t_error x y (.iface t_flate_CorruptInputError (.int .i64 n)) (errV q); binOp .eql t_error (.iface t_flate_CorruptInputError (.int .i64 n)) (errV q)) K:=Eq.mpr (by kernel_rfl) h
theorem noEOF_eof {E:Errs} {m:Mem} (hG:Glob E m) {R:Value→Mem→Prop} (hk:R E.cut m):CallM PP f_inflate_noEOF #[E.eof] m R:=by
 refine e_inflate_noEOF E.eof m R ⟨_,hG.eof,eqErr_same _ _ E.pe m _ ?_⟩
 exact ⟨true,rfl,_,hG.cut,hk⟩
theorem noEOF_cut {E:Errs} {m:Mem} (hG:Glob E m) {R:Value→Mem→Prop} (hk:R E.cut m):CallM PP f_inflate_noEOF #[E.cut] m R:=by
 refine e_inflate_noEOF E.cut m R ⟨_,hG.eof,eqErr_other _ _ (Ne.symm hG.ne) hG.bu hG.be _ ?_⟩
 exact ⟨false,rfl,hk⟩
end Go.M

namespace Go.M
open Go
set_option maxRecDepth 100000
def num:List Nat→Nat
 | []=>0
 | c::r=>c+256 * num r
theorem num_byte:∀ {src:List Nat} {i c:Nat},(∀ v ∈ src,v < 256)→src[i]?=some c→num src / 2 ^ (8 * i) % 256=c
 | [],i,c,_,h=>by simp at h
 | x::r,0,c,hb,h=>by
  simp only [List.getElem?_cons_zero,Option.some.injEq] at h
  subst h
  have:=hb x (List.mem_cons_self ..)
  simp only [num,Nat.mul_zero,Nat.pow_zero,Nat.div_one]
  omega
 | x::r,i+1,c,hb,h=>by
  simp only [List.getElem?_cons_succ] at h
  have ih:=num_byte (fun v hv=>hb v (List.mem_cons_of_mem _ hv)) h
  have hx:=hb x (List.mem_cons_self ..)
  rw [show 8 * (i+1)=8+8 * i from by omega,Nat.pow_add, ← Nat.div_div_eq_div_mul]
  have:num (x::r) / 2 ^ 8=num r:=by simp only [num]; omega
  rw [this]; exact ih
theorem num_lt:∀ {src:List Nat},(∀ v ∈ src,v < 256)→num src < 2 ^ (8 * src.length)
 | [],_=>by simp [num]
 | x::r,hb=>by
  have ih:=num_lt (src:=r) fun v hv=>hb v (List.mem_cons_of_mem _ hv)
  have hx:=hb x (List.mem_cons_self ..)
  simp only [num,List.length_cons]
  rw [show 8 * (r.length+1)=8+8 * r.length from by omega,Nat.pow_add]
  generalize 2 ^ (8 * r.length)=t at *
  omega
def tk (N p n:Nat):Nat:=N / 2 ^ p % 2 ^ n
theorem tk_lt (N p n:Nat):tk N p n < 2 ^ n:=Nat.mod_lt _ (Nat.pow_pos (by decide))
theorem tk_add (N p k n:Nat):tk N p (k+n)=tk N p k+2 ^ k * tk N (p+k) n:=by
 unfold tk
 rw [Nat.pow_add,Nat.mod_mul,Nat.pow_add,Nat.div_div_eq_div_mul]
theorem tk_drop (N p k n:Nat) (h:n≤k):tk N p k / 2 ^ n=tk N (p+n) (k - n):=by
 obtain ⟨d,rfl⟩:=Nat.exists_eq_add_of_le h
 rw [tk_add,Nat.add_sub_cancel_left,Nat.add_mul_div_left _ _ (Nat.pow_pos (by decide)),Nat.div_eq_of_lt (tk_lt ..),Nat.zero_add]
theorem tk_low (N p k n:Nat) (h:n≤k):tk N p k % 2 ^ n=tk N p n:=by
 obtain ⟨d,rfl⟩:=Nat.exists_eq_add_of_le h
 rw [tk_add,Nat.add_mul_mod_self_left,Nat.mod_eq_of_lt (tk_lt ..)]
theorem or_add {a k:Nat} (c:Nat) (h:a < 2 ^ k):a ||| (c * 2 ^ k)=a+2 ^ k * c:=by
 rw [Nat.mul_comm c,Nat.or_comm, ← Nat.two_pow_add_eq_or_of_lt h,Nat.add_comm]
section
variable {E:Errs} {src:List Nat}
def OwnF (f:Nat) (m:Mem):Prop:=∀ j,j < 1054→Wr m ⟨f,j,none⟩
theorem OwnF.fr {S:Nat→Nat→Prop} {m m':Mem} {f:Nat} (h:OwnF f m) (hf:Fr S m m'):OwnF f m':=fun j hj=>(h j hj).fr hf
structure In (D:Rdr E src) (f p pos:Nat) (m:Mem):Prop where
 r:cell? m ⟨f,0,none⟩=some D.rv
 here:D.At pos m
 off:cell? m ⟨f,2,none⟩=some (.int .i64 (pos:Nat))
 b:cell? m ⟨f,3,none⟩=some (.int .u32 (tk (num src) p (8 * pos - p):Nat))
 nb:cell? m ⟨f,4,none⟩=some (.int .u64 (8 * pos - p:Nat))
 le:p≤8 * pos
 few:8 * pos≤p+24
 own:OwnF f m
 apart:∀ j, ¬ D.S f j
 lo:4 < f
 bytes:∀ v ∈ src,v < 256
 big:src.length < 1152921504606846976
structure In0 (D:Rdr E src) (f pos:Nat) (m:Mem):Prop where
 r:cell? m ⟨f,0,none⟩=some D.rv
 here:D.At pos m
 off:cell? m ⟨f,2,none⟩=some (.int .i64 (pos:Nat))
 own:OwnF f m
 apart:∀ j, ¬ D.S f j
 lo:4 < f
 bytes:∀ v ∈ src,v < 256
 big:src.length < 1152921504606846976
theorem In.to0 {D:Rdr E src} {f p pos:Nat} {m:Mem} (h:In D f p pos m):In0 D f pos m:=
 ⟨h.r,h.here,h.off,h.own,h.apart,h.lo,h.bytes,h.big⟩
theorem In0.of {D:Rdr E src} {f p pos:Nat} {m:Mem} (h:In0 D f pos m) (hb:cell? m ⟨f,3,none⟩=some (.int .u32 (tk (num src) p (8 * pos - p):Nat)))
  (hn:cell? m ⟨f,4,none⟩=some (.int .u64 (8 * pos - p:Nat))) (hle:p≤8 * pos) (hf:8 * pos≤p+24):In D f p pos m:=
 ⟨h.r,h.here,h.off,hb,hn,hle,hf,h.own,h.apart,h.lo,h.bytes,h.big⟩
def InS (D:Rdr E src) (f:Nat):Nat→Nat→Prop:=fun i j=>D.S i j∨(i=f∧(j=0∨(2≤j∧j≤4)))
theorem In.fr {D:Rdr E src} {f p pos:Nat} {m m':Mem} {T:Nat→Nat→Prop} (h:In D f p pos m) (hf:Fr T m m') (hs:∀ i j,InS D f i j→ ¬ T i j):In D f p pos m' where
 r:=hf.cell h.r (hs _ _ (.inr ⟨rfl,.inl rfl⟩))
 here:=D.fr h.here hf fun i j hi=>hs i j (.inl hi)
 off:=hf.cell h.off (hs _ _ (.inr ⟨rfl,.inr (by simp)⟩))
 b:=hf.cell h.b (hs _ _ (.inr ⟨rfl,.inr (by simp)⟩))
 nb:=hf.cell h.nb (hs _ _ (.inr ⟨rfl,.inr (by simp)⟩))
 le:=h.le
 few:=h.few
 own:=h.own.fr hf
 apart:=h.apart
 lo:=h.lo
 bytes:=h.bytes
 big:=h.big
theorem In0.set {D:Rdr E src} {f pos:Nat} {m m':Mem} (h:In0 D f pos m) {j:Nat} (hf:Fr (fun i k=>i=f∧k=j) m m') (h0:j≠0) (h2:j≠2):In0 D f pos m' where
 r:=hf.cell h.r (by simp; omega)
 here:=D.fr h.here hf (by rintro i j hij ⟨rfl,_⟩; exact h.apart _ hij)
 off:=hf.cell h.off (by simp; omega)
 own:=h.own.fr hf
 apart:=h.apart
 lo:=h.lo
 bytes:=h.bytes
 big:=h.big
theorem In0.move {D:Rdr E src} {f pos:Nat} {m m':Mem} (h:In0 D f pos m) (hA:D.At (pos+1) m) (hf:Fr (fun i k=>i=f∧k=2) m m') (hc:cell? m' ⟨f,2,none⟩=some (.int .i64 (pos+1:Nat))):In0 D f (pos+1) m' where
 r:=hf.cell h.r (by simp)
 here:=D.fr hA hf (by rintro i j hij ⟨rfl,_⟩; exact h.apart _ hij)
 off:=hc
 own:=h.own.fr hf
 apart:=h.apart
 lo:=h.lo
 bytes:=h.bytes
 big:=h.big
theorem InS.lo {D:Rdr E src} {f:Nat} (h:4 < f):∀ i j,InS D f i j→4 < i:=by
 rintro i j (hi | ⟨rfl,_⟩)
 ·exact D.own _ _ hi
 ·exact h
theorem In.glob {D:Rdr E src} {f p pos:Nat} {m m':Mem} (h:In D f p pos m) (hG:Glob E m) (hf:Fr (InS D f) m m'):Glob E m':=hG.fr hf (InS.lo h.lo)
theorem In.pos_le {D:Rdr E src} {f p pos:Nat} {m:Mem} (h:In D f p pos m):pos≤src.length:=D.le h.here
theorem moreBits_spec {D:Rdr E src} {f p pos:Nat} {m:Mem} (hI:In D f p pos m) (hG:Glob E m) (hfew:8 * pos≤p+16) {R:Value→Mem→Prop}
  (hk:∀ m',pos < src.length→In D f p (pos+1) m'→Fr (InS D f) m m'→R .nilIface m')
  (he:∀ m',pos=src.length→In D f p pos m'→Fr (InS D f) m m'→R E.cut m'):
  CallM PP f_decompressor_moreBits #[.pointer (some ⟨f,0,none⟩)] m R:=by
 have hbig:=hI.big
 have hle:=hI.le
 have hpl:=hI.pos_le
 refine e_decompressor_moreBits f m R ⟨_,hI.r,D.readByte hI.here hG (fun c m1 hc h1 hf1=>?_) (fun m1 he1 h1 hf1=>?_)⟩
 ·have hlt:pos < src.length:=(List.getElem?_eq_some_iff.1 hc).1
  have hcb:c < 256:=hI.bytes c (List.mem_of_getElem? hc)
  have F1:Fr (InS D f) m m1:=hf1.mono fun i j h=>.inl h
  have off1:=hf1.cell hI.off (hI.apart _)
  have b1:=hf1.cell hI.b (hI.apart _)
  have nb1:=hf1.cell hI.nb (hI.apart _)
  have own1:=hI.own.fr hf1
  refine ⟨_,_,rfl,rfl,?_⟩
  refine ifB_f ?_
  refine ⟨_,off1,?_⟩
  rw [wrap64_id (by omega) (by omega)]
  refine StW.at rfl (own1 2 (by decide)) fun m2 c2 hf2 _=>?_
  refine ⟨_,hf2.cell b1 (by simp),_,hf2.cell nb1 (by simp),by omega,rfl,?_⟩
  refine StW.at rfl ((own1.fr hf2) 3 (by decide)) fun m3 c3 hf3 _=>?_
  refine ⟨_,hf3.cell (hf2.cell nb1 (by simp)) (by simp),?_⟩
  refine StW.at rfl (((own1.fr hf2).fr hf3) 4 (by decide)) fun m4 c4 hf4 _=>?_
  have F2:Fr (InS D f) m1 m2:=hf2.mono fun i j ⟨e1,e2⟩=>.inr ⟨e1,.inr (by omega)⟩
  have F3:Fr (InS D f) m2 m3:=hf3.mono fun i j ⟨e1,e2⟩=>.inr ⟨e1,.inr (by omega)⟩
  have F4:Fr (InS D f) m3 m4:=hf4.mono fun i j ⟨e1,e2⟩=>.inr ⟨e1,.inr (by omega)⟩
  refine hk m4 hlt ?_ (F1.trans (F2.trans (F3.trans F4)))
  have hkk:8 * (pos+1) - p=(8 * pos - p)+8:=by omega
  have hval:bitsOp .or .u32 (tk (num src) p (8 * pos - p):Nat) (shlOp .u32 (IntKind.wrap .u32 (c:Int)) (8 * pos - p:Nat))=(tk (num src) p (8 * (pos+1) - p):Nat):=by
   have hk16:8 * pos - p≤16:=by omega
   rw [wrap_u32_id (by omega) (by omega),shl_nat (k:=.u32) (by show _≤32; omega)]
   have h1:tk (num src) p (8 * pos - p) < 2 ^ (8 * pos - p):=tk_lt ..
   have h2:2 ^ (8 * pos - p)≤2 ^ 16:=Nat.pow_le_pow_right (by decide) hk16
   have h3:c * 2 ^ (8 * pos - p) < 2 ^ 24:=by
    calc c * 2 ^ (8 * pos - p)≤c * 2 ^ 16:=Nat.mul_le_mul_left _ h2
     _ < 2 ^ 24:=by omega
   rw [wrap_u32_id (by omega) (by omega),or_nat rfl (by show _ < 2 ^ 32; omega) (by show _ < 2 ^ 32; omega)]
   rw [or_add _ h1,hkk,tk_add]
   have hc8:tk (num src) (p+(8 * pos - p)) 8=c:=by
    rw [show p+(8 * pos - p)=8 * pos from by omega]
    exact num_byte hI.bytes hc
   rw [hc8]
  refine { r:=?_,here:=?_,off:=?_,b:=?_,nb:=?_,le:=by omega,few:=by omega,own:=(((own1.fr hf2).fr hf3).fr hf4),apart:=hI.apart,lo:=hI.lo,bytes:=hI.bytes,big:=hI.big }
  ·exact hf4.cell (hf3.cell (hf2.cell (hf1.cell hI.r (hI.apart _)) (by simp)) (by simp)) (by simp)
  ·refine D.fr (D.fr (D.fr h1 hf2 ?_) hf3 ?_) hf4 ?_ <;> (rintro i j hij ⟨rfl,_⟩; exact hI.apart _ hij)
  ·exact hf4.cell (hf3.cell c2 (by simp)) (by simp)
  ·rw [← hval]; exact hf4.cell c3 (by simp)
  ·rw [hkk,c4]
   rw [wrap_u64_id (by omega) (by omega)]
   rfl
 ·have F1:Fr (InS D f) m m1:=hf1.mono fun i j h=>.inl h
  refine ⟨_,_,rfl,rfl,?_⟩
  refine ifB_t ?_
  refine noEOF_eof (hI.glob hG F1) ?_
  refine ⟨_,rfl,he m1 he1 ?_ F1⟩
  exact { r:=hf1.cell hI.r (hI.apart _),here:=h1,off:=hf1.cell hI.off (hI.apart _),b:=hf1.cell hI.b (hI.apart _),nb:=hf1.cell hI.nb (hI.apart _),le:=hI.le,few:=hI.few,own:=hI.own.fr hf1,apart:=hI.apart,lo:=hI.lo,bytes:=hI.bytes,big:=hI.big }
end
end Go.M

namespace Go.M
open Go
set_option maxRecDepth 100000
def LookAt (m:Mem) (b o:Nat) (B:Nat→Prop) (x v:Nat):Prop:=
 ∃ c:Nat,cell? m ⟨b,o+1+x % 512,none⟩=some (.int .u32 (c:Int))∧c < 4294967296∧
  (c % 16≤9∧v=c∨9 < c % 16∧∃ lb lo ll lk,cell? m ⟨b,o+513,none⟩=some (.slice (some ⟨lb,lo,none⟩) ll lk)∧B lb∧c / 16 < ll∧
   ∃ tb to tl tk',cell? m ⟨lb,lo+c / 16,none⟩=some (.slice (some ⟨tb,to,none⟩) tl tk')∧B tb∧
   ∃ k:Nat,cell? m ⟨b,o+514,none⟩=some (.int .u32 (k:Int))∧k < 4294967296∧(x / 512 &&& k) < tl∧cell? m ⟨tb,to+(x / 512 &&& k),none⟩=some (.int .u32 (v:Int)))
structure TabAt (m:Mem) (b o:Nat) (B:Nat→Prop) (mn:Nat) (V:Nat→Nat):Prop where
 min:cell? m ⟨b,o,none⟩=some (.int .i64 (mn:Int))
 look:∀ x,LookAt m b o B x (V x)
 small:∀ x,V x < 4294967296
def TabS (b o:Nat) (B:Nat→Prop):Nat→Nat→Prop:=fun i j=>(i=b∧o≤j∧j≤o+514)∨B i
theorem LookAt.fr {S:Nat→Nat→Prop} {m m':Mem} {b o x v:Nat} {B:Nat→Prop} (h:LookAt m b o B x v) (hf:Fr S m m') (hs:∀ i j,TabS b o B i j→ ¬ S i j):LookAt m' b o B x v:=by
 obtain ⟨c,h1,h2,h3⟩:=h
 have hx:x % 512 < 512:=Nat.mod_lt _ (by decide)
 refine ⟨c,hf.cell h1 (hs _ _ (.inl ⟨rfl,by simp; omega,by simp; omega⟩)),h2,?_⟩
 rcases h3 with h3 | ⟨h3,lb,lo,ll,lk,h4,h5,h6,tb,to,tl,tk',h7,h8,k,h9,h10,h11,h12⟩
 ·exact .inl h3
 ·refine .inr ⟨h3,lb,lo,ll,lk,hf.cell h4 (hs _ _ (.inl ⟨rfl,by simp,by simp⟩)),h5,h6,tb,to,tl,tk',hf.cell h7 (hs _ _ (.inr h5)),h8,k,hf.cell h9 (hs _ _ (.inl ⟨rfl,by simp,by simp⟩)),h10,h11,hf.cell h12 (hs _ _ (.inr h8))⟩
theorem TabAt.fr {S:Nat→Nat→Prop} {m m':Mem} {b o mn:Nat} {V:Nat→Nat} {B:Nat→Prop} (h:TabAt m b o B mn V) (hf:Fr S m m') (hs:∀ i j,TabS b o B i j→ ¬ S i j):TabAt m' b o B mn V where
 min:=hf.cell h.min (hs _ _ (.inl ⟨rfl,by simp,by simp⟩))
 look:=fun x=>(h.look x).fr hf hs
 small:=h.small
structure CodeOk (mn:Nat) (V:Nat→Nat):Prop where
 same:∀ x y,V x % 16≠0→x % 2 ^ (V x % 16)=y % 2 ^ (V x % 16)→V y=V x
 none:∀ x y,V x % 16=0→x % 2 ^ mn=y % 2 ^ mn→V y % 16=0
 low:∀ x k,mn≤k→V (x % 2 ^ k) % 16≤V x % 16
 mn:mn≤15
section
variable {E:Errs} {src:List Nat}
def symEnv (f:Nat) (a:Option Addr) (n k x:Nat):Env:=[(0,.pointer (some ⟨f,0,none⟩)),(1,.pointer a),(6,.int .u64 (n:Int)),(7,.int .u64 (k:Int)),(8,.int .u32 (x:Int))]
theorem symFetch {D:Rdr E src} {f pos p n:Nat} {a:Option Addr} {m:Mem} {K:Kont} (hI:In0 D f pos m) (hG:Glob E m) (hle:p≤8 * pos) (hk24:8 * pos≤p+24) (hn:n≤15)
  (hk:∀ m' pos',In0 D f pos' m'→Fr (InS D f) m m'→pos≤pos'→n≤8 * pos' - p→8 * pos' - p≤max (8 * pos - p) (n+7)→K.kx 2 (symEnv f a n (8 * pos' - p) (tk (num src) p (8 * pos' - p))) m')
  (he:∀ m' r,In0 D f src.length m'→Fr (InS D f) m m'→8 * src.length < p+n→Env.get r 4=some (.int .i64 0)→Env.get r 5=some E.cut→K.kr r m')
  (r:Env) (hr:Env.keep [0,1,6,7,8] r=symEnv f a n (8 * pos - p) (tk (num src) p (8 * pos - p))):
  WPS PP 137 c_decompressor_huffSym_rrrlllll K r m:=by
 rw [q_decompressor_huffSym_rrrlllll]
 refine loopW ffOk mixedOk (L₀:=L_decompressor_huffSym) [0,1,6,7,8] (fun q:Nat=>symEnv f a n (8 * q - p) (tk (num src) p (8 * q - p)))
  (fun q m'=>In0 D f q m'∧Fr (InS D f) m m'∧pos≤q∧8 * q - p≤max (8 * pos - p) (n+7)) (fun q=>src.length - q) pos hr ⟨hI,Fr.refl _ _,Nat.le_refl _,by omega⟩ ?_
 rintro q m1 ⟨hJ,hF,h1,h2⟩
 have hbig:=hJ.big
 have hql:=D.le hJ.here
 have hG1:=hG.fr hF (InS.lo hI.lo)
 refine p_decompressor_huffSym_rrrllllll f a n (8 * q - p:Nat) (tk (num src) p (8 * q - p):Nat) m1 _ (ifB_of (fun ht=>?_) (fun ht=>?_))
 ·have hlt:8 * q - p < n:=by have:=of_decide_eq_true ht; omega
  refine ⟨_,hJ.r,D.readByte hJ.here hG1 (fun c m2 hc h3 hf2=>?_) (fun m2 he2 h3 hf2=>?_)⟩
  ·have hq:q < src.length:=(List.getElem?_eq_some_iff.1 hc).1
   have hcb:c < 256:=hJ.bytes c (List.mem_of_getElem? hc)
   have F2:Fr (InS D f) m1 m2:=hf2.mono fun i j h=>.inl h
   have hJ2:In0 D f q m2→True:=fun _=>trivial
   refine ⟨_,_,rfl,rfl,ifB_f ?_⟩
   refine ⟨_,hf2.cell hJ.off (hJ.apart _),?_⟩
   rw [wrap64_id (by omega) (by omega)]
   have own2:=hJ.own.fr hf2
   refine StW.at rfl (own2 2 (by decide)) fun m3 c3 hf3 _=>?_
   have F3:Fr (InS D f) m2 m3:=hf3.mono fun i j ⟨e1,e2⟩=>.inr ⟨e1,.inr (by omega)⟩
   have e31:bitsOp .and .u64 ((8 * q - p:Nat):Int) 31=((8 * q - p:Nat):Int):=by
    have:=and_nat (k:=.u64) rfl (a:=8 * q - p) (b:=31) (by show _ < 2 ^ 64; omega) (by decide)
    rw [show ((31:Nat):Int)=31 from rfl] at this
    rw [this,show (31:Nat)=2 ^ 5 - 1 from rfl,Nat.and_two_pow_sub_one_eq_mod,Nat.mod_eq_of_lt (by omega)]
   rw [e31]
   refine ⟨rfl,by omega,rfl,q+1,?_,⟨?_,hF.trans (F2.trans F3),by omega,by omega⟩,by omega⟩
   ·have hkk:8 * (q+1) - p=(8 * q - p)+8:=by omega
    have hval:bitsOp .or .u32 (tk (num src) p (8 * q - p):Nat) (shlOp .u32 (IntKind.wrap .u32 (c:Int)) (8 * q - p:Nat))=(tk (num src) p (8 * (q+1) - p):Nat):=by
     have hk16:8 * q - p≤15:=by omega
     rw [wrap_u32_id (by omega) (by omega),shl_nat (k:=.u32) (by show _≤32; omega)]
     have h1:tk (num src) p (8 * q - p) < 2 ^ (8 * q - p):=tk_lt ..
     have h2:2 ^ (8 * q - p)≤2 ^ 15:=Nat.pow_le_pow_right (by decide) hk16
     have h3:c * 2 ^ (8 * q - p) < 2 ^ 24:=by
      calc c * 2 ^ (8 * q - p)≤c * 2 ^ 15:=Nat.mul_le_mul_left _ h2
       _ < 2 ^ 24:=by omega
     rw [wrap_u32_id (by omega) (by omega),or_nat rfl (by show _ < 2 ^ 32; omega) (by show _ < 2 ^ 32; omega)]
     rw [or_add _ h1,hkk,tk_add]
     have hc8:tk (num src) (p+(8 * q - p)) 8=c:=by
      rw [show p+(8 * q - p)=8 * q from by omega]
      exact num_byte hJ.bytes hc
     rw [hc8]
    rw [hval,wrap_u64_id (by omega) (by omega),hkk]
    rfl
   ·refine { r:=?_,here:=?_,off:=?_,own:=own2.fr hf3,apart:=hJ.apart,lo:=hJ.lo,bytes:=hJ.bytes,big:=hJ.big }
    ·exact hf3.cell (hf2.cell hJ.r (hJ.apart _)) (by simp)
    ·exact D.fr h3 hf3 (by rintro i j hij ⟨rfl,_⟩; exact hJ.apart _ hij)
    ·rw [c3]; rfl
  ·have F2:Fr (InS D f) m1 m2:=hf2.mono fun i j h=>.inl h
   have own2:=hJ.own.fr hf2
   refine ⟨_,_,rfl,rfl,ifB_t ?_⟩
   refine StW.at rfl (own2 3 (by decide)) fun m3 c3 hf3 _=>?_
   refine StW.at rfl ((own2.fr hf3) 4 (by decide)) fun m4 c4 hf4 _=>?_
   have F3:Fr (InS D f) m2 m3:=hf3.mono fun i j ⟨e1,e2⟩=>.inr ⟨e1,.inr (by omega)⟩
   have F4:Fr (InS D f) m3 m4:=hf4.mono fun i j ⟨e1,e2⟩=>.inr ⟨e1,.inr (by omega)⟩
   refine noEOF_eof (hG1.fr (F2.trans (F3.trans F4)) (InS.lo hI.lo)) ⟨_,rfl,he m4 _ ?_ (hF.trans (F2.trans (F3.trans F4))) (by omega) rfl rfl⟩
   rw [← he2]
   have hJ2:In0 D f q m2:={ r:=hf2.cell hJ.r (hJ.apart _),here:=h3,off:=hf2.cell hJ.off (hJ.apart _),own:=own2,apart:=hJ.apart,lo:=hJ.lo,bytes:=hJ.bytes,big:=hJ.big }
   exact (hJ2.set hf3 (by decide) (by decide)).set hf4 (by decide) (by decide)
 ·have hge:n≤8 * q - p:=by have:=of_decide_eq_false ht; omega
  exact hk m1 q hJ hF h1 hge h2
theorem and_511 {x:Nat} (h:x < 2 ^ 32):bitsOp .and .u32 (x:Int) 511=((x % 512:Nat):Int):=by
 have:=and_nat (k:=.u32) rfl (a:=x) (b:=511) h (by decide)
 rw [show ((511:Nat):Int)=511 from rfl] at this
 rw [this,show (511:Nat)=2 ^ 9 - 1 from rfl,Nat.and_two_pow_sub_one_eq_mod]
theorem and_15 {x:Nat} (h:x < 2 ^ 32):bitsOp .and .u32 (x:Int) 15=((x % 16:Nat):Int):=by
 have:=and_nat (k:=.u32) rfl (a:=x) (b:=15) h (by decide)
 rw [show ((15:Nat):Int)=15 from rfl] at this
 rw [this,show (15:Nat)=2 ^ 4 - 1 from rfl,Nat.and_two_pow_sub_one_eq_mod]
theorem and_31' {x:Nat} (h:x < 32):bitsOp .and .u64 (x:Int) 31=(x:Int):=by
 have:=and_nat (k:=.u64) rfl (a:=x) (b:=31) (by show _ < 2 ^ 64; omega) (by decide)
 rw [show ((31:Nat):Int)=31 from rfl] at this
 rw [this,show (31:Nat)=2 ^ 5 - 1 from rfl,Nat.and_two_pow_sub_one_eq_mod,Nat.mod_eq_of_lt (by omega)]
theorem shr4 (x:Nat):shrOp .u32 (x:Int) 4=((x / 16:Nat):Int):=by
 have:=shr_nat (k:=.u32) (a:=x) (s:=4) (by decide)
 exact this
theorem shr9 (x:Nat):shrOp .u32 (x:Int) 9=((x / 512:Nat):Int):=by
 have:=shr_nat (k:=.u32) (a:=x) (s:=9) (by decide)
 exact this
theorem symLook {f b o mn k x:Nat} {B:Nat→Prop} {V:Nat→Nat} {m:Mem} {K:Kont} (hT:TabAt m b o B mn V) (hx:x < 2 ^ 32) (r:Env)
  (hr:Env.keep [0,1,7,8] r=[(0,.pointer (some ⟨f,0,none⟩)),(1,.pointer (some ⟨b,o,none⟩)),(7,.int .u64 (k:Int)),(8,.int .u32 (x:Int))])
  (hk:wpc PP FF 137 L_decompressor_huffSym c_decompressor_huffSym_rrrlllrrrr K [(0,.pointer (some ⟨f,0,none⟩)),(1,.pointer (some ⟨b,o,none⟩)),(6,.int .u64 ((V x % 16:Nat):Int)),(7,.int .u64 (k:Int)),(8,.int .u32 (x:Int)),(11,.int .u32 (V x:Int))] m):
  WPS PP 137 c_decompressor_huffSym_rrrlllr K r m:=by
 refine WPS.piece k_decompressor_huffSym_rrrlllr hr (p_decompressor_huffSym_rrrlllr f (some ⟨b,o,none⟩) k x m K ?_)
 obtain ⟨c,h1,h2,h3⟩:=hT.look x
 have hv:=hT.small x
 refine ⟨rfl,?_⟩
 show _∧_
 rw [and_511 hx]
 have hm:x % 512 < 512:=Nat.mod_lt _ (by decide)
 refine ⟨⟨by omega,by omega⟩,(c:Int),?_,rfl,?_⟩
 ·rw [Int.toNat_natCast]; exact h1
 rw [and_15 (x:=c) (by show c < 2 ^ 32; omega),wrap_u64_id (by omega) (by omega)]
 refine ifB_of (fun ht=>?_) (fun ht=>?_)
 ·have hgt:9 < c % 16:=by have:=of_decide_eq_true ht; omega
  rcases h3 with h3 | ⟨_,lb,lo,ll,lk,h4,h5,h6,tb,to,tl,tk',h7,h8,q,h9,h10,h11,h12⟩
  ·omega
  show ∃ _,_
  refine ⟨_,_,_,h4,by decide,?_⟩
  show _∧_
  rw [shr4]
  refine ⟨⟨by omega,by omega⟩,_,_,_,by rw [Int.toNat_natCast]; simpa [aplus] using h7,by decide,?_⟩
  show ∃ _,_
  refine ⟨_,h9,rfl,?_⟩
  show _∧_
  rw [shr9,and_nat (k:=.u32) rfl (by show _ < 2 ^ 32; omega) (by show _ < 2 ^ 32; omega)]
  refine ⟨⟨by omega,by omega⟩,(V x:Int),by rw [Int.toNat_natCast]; simpa [aplus] using h12,rfl,?_⟩
  rw [and_15 (x:=V x) (by show _ < 2 ^ 32; omega),wrap_u64_id (by omega) (by omega)]
  exact WPS.piece k_decompressor_huffSym_rrrlllrrrr rfl hk
 ·have hle:c % 16≤9:=by have:=of_decide_eq_false ht; omega
  have hvc:V x=c:=by
   rcases h3 with ⟨_,h3⟩ | ⟨h3,_⟩
   ·exact h3
   ·omega
  rw [← hvc]
  exact WPS.piece k_decompressor_huffSym_rrrlllrrrr rfl hk
theorem huffSym_spec {D:Rdr E src} {f p pos b o mn:Nat} {B:Nat→Prop} {V:Nat→Nat} {m:Mem} (hI:In D f p pos m) (hG:Glob E m) (hT:TabAt m b o B mn V) (hV:CodeOk mn V)
  (hap:∀ i j,TabS b o B i j→ ¬ (InS D f i j∨(i=f∧j=1048))) (hfew:8 * pos≤p+22) {R:Value→Mem→Prop}
  (hk:∀ m' pos',V (num src / 2 ^ p) % 16≠0→p+max mn (V (num src / 2 ^ p) % 16)≤8 * src.length→In D f (p+V (num src / 2 ^ p) % 16) pos' m'→
   8 * pos' - (p+V (num src / 2 ^ p) % 16)≤max (8 * pos - p) (max mn (V (num src / 2 ^ p) % 16)+7) - V (num src / 2 ^ p) % 16→
   Fr (InS D f) m m'→R (.tuple #[.int .i64 (V (num src / 2 ^ p) / 16:Nat),.nilIface]) m')
  (hc:∀ m' n pos',V (num src / 2 ^ p) % 16=0→p+mn≤8 * src.length→In0 D f pos' m'→Fr (fun i j=>InS D f i j∨(i=f∧j=1048)) m m'→
   R (.tuple #[.int .i64 0,.iface t_flate_CorruptInputError (.int .i64 n)]) m')
  (he:∀ m' pos',8 * src.length < p+max mn (V (num src / 2 ^ p) % 16)→In0 D f pos' m'→Fr (fun i j=>InS D f i j∨(i=f∧j=1048)) m m'→R (.tuple #[.int .i64 0,E.cut]) m'):
  CallM PP f_decompressor_huffSym #[.pointer (some ⟨f,0,none⟩),.pointer (some ⟨b,o,none⟩)] m R:=by
 have hmn:=hV.mn
 have hle:=hI.le
 refine e_decompressor_huffSym f (some ⟨b,o,none⟩) m R ?_
 show ∃ _,_
 refine ⟨_,hT.min,_,hI.nb,_,hI.b,?_⟩
 rw [wrap_u64_id (by omega) (by omega),q_decompressor_huffSym_rrrl]
 have hQ:V (num src / 2 ^ p) % 16 < 16:=Nat.mod_lt _ (by decide)
 refine loopW ffOk mixedOk (L₀:=L_decompressor_huffSym) (σ:=Nat×Nat) [0,1,6,7,8] (fun s=>symEnv f (some ⟨b,o,none⟩) s.1 (8 * s.2 - p) (tk (num src) p (8 * s.2 - p)))
  (fun s m'=>In0 D f s.2 m'∧Fr (InS D f) m m'∧pos≤s.2∧mn≤s.1∧s.1≤max mn (V (num src / 2 ^ p) % 16)∧8 * s.2 - p≤max (8 * pos - p) (max mn (V (num src / 2 ^ p) % 16)+7)) (fun s=>16 - s.1) (mn,pos) rfl
  ⟨hI.to0,Fr.refl _ _,Nat.le_refl _,Nat.le_refl _,by omega,by omega⟩ ?_
 rintro ⟨n,q⟩ m1 ⟨hJ,hF,h1,h2,h3,h4⟩
 have hIS:∀ i j,(InS D f i j∨(i=f∧j=1048))→4 < i:=by
  rintro i j (h | ⟨rfl,_⟩)
  ·exact InS.lo hI.lo _ _ h
  ·exact hI.lo
 have hG1:=hI.glob hG hF
 refine p_decompressor_huffSym_rrrll f (some ⟨b,o,none⟩) n (8 * q - p:Nat) (tk (num src) p (8 * q - p):Nat) m1 _ ?_
 refine symFetch hJ hG1 (by simp only at h1; omega) (by simp only at h1 h4; omega) (by simp only at h3; omega) (fun m2 q2 hJ2 hF2 h5 h6 h7=>?_) (fun m2 r hJ2 hF2 h5 hr4 hr5=>?_) _ rfl
 ·have hF02:=hF.trans hF2
  have hT2:=hT.fr hF02 fun i j h h'=>hap i j h (.inl h')
  have hx32:tk (num src) p (8 * q2 - p) < 2 ^ 32:=Nat.lt_of_lt_of_le (tk_lt ..) (Nat.pow_le_pow_right (by decide) (by simp only at h3 h4 h7; omega))
  refine symLook hT2 hx32 _ rfl ?_
  refine p_decompressor_huffSym_rrrlllrrrr f _ _ _ _ _ m2 _ ?_
  have hb2:=D.le hJ2.here
  have hbig:=hJ2.big
  have hmod:tk (num src) p (8 * q2 - p)=(num src / 2 ^ p) % 2 ^ (8 * q2 - p):=rfl
  have hvs:=hT2.small (tk (num src) p (8 * q2 - p))
  simp only at h3 h4 h7
  refine ifB_of (fun ht=>ifB_of (fun ht2=>?_) (fun ht2=>?_)) (fun ht=>?_)
  ·have hz:V (tk (num src) p (8 * q2 - p)) % 16=0:=by have:=eq_of_beq ht2; omega
   refine StW.at rfl (hJ2.own 3 (by decide)) fun m3 c3 hf3 _=>?_
   have hJ3:=hJ2.set hf3 (by decide) (by decide)
   refine StW.at rfl (hJ3.own 4 (by decide)) fun m4 c4 hf4 _=>?_
   have hJ4:=hJ3.set hf4 (by decide) (by decide)
   refine ⟨_,hJ4.off,StW.at rfl (hJ4.own 1048 (by decide)) fun m5 c5 hf5 _=>?_⟩
   have hJ5:=hJ4.set hf5 (by decide) (by decide)
   refine ⟨_,c5,?_⟩
   refine hc m5 _ q2 ?_ (by omega) hJ5 ((hF02.mono fun i j h=>.inl h).trans ((hf3.mono ?_).trans ((hf4.mono ?_).trans (hf5.mono ?_))))
   ·refine hV.none _ _ hz ?_
    exact Nat.mod_mod_of_dvd _ (Nat.pow_dvd_pow 2 (by omega))
   ·rintro i j ⟨rfl,rfl⟩; exact .inl (.inr ⟨rfl,.inr (by decide)⟩)
   ·rintro i j ⟨rfl,rfl⟩; exact .inl (.inr ⟨rfl,.inr (by decide)⟩)
   ·rintro i j ⟨rfl,rfl⟩; exact .inr ⟨rfl,rfl⟩
  ·have hz:V (tk (num src) p (8 * q2 - p)) % 16≠0:=by
    intro h; rw [h] at ht2; simp at ht2
   have hnk:V (tk (num src) p (8 * q2 - p)) % 16≤8 * q2 - p:=by have:=of_decide_eq_true ht; omega
   have hVV:V (num src / 2 ^ p)=V (tk (num src) p (8 * q2 - p)):=by
    refine hV.same _ _ hz ?_
    exact Nat.mod_mod_of_dvd _ (Nat.pow_dvd_pow 2 hnk)
   rw [hVV] at hk h3 h4 hQ
   have hV16:V (tk (num src) p (8 * q2 - p)) % 16 < 32:=by omega
   rw [and_31' hV16]
   refine ⟨rfl,by omega,StW.at rfl (hJ2.own 3 (by decide)) fun m3 c3 hf3 _=>?_⟩
   have hJ3:=hJ2.set hf3 (by decide) (by decide)
   refine StW.at rfl (hJ3.own 4 (by decide)) fun m4 c4 hf4 _=>?_
   have hJ4:=hJ3.set hf4 (by decide) (by decide)
   refine ⟨by decide,?_⟩
   rw [shr4,wrap64_id (by omega) (by omega)]
   refine hk m4 q2 hz (by omega) (hJ4.of ?_ ?_ (by omega) (by omega)) (by omega) (hF02.trans ((hf3.mono ?_).trans (hf4.mono ?_)))
   ·rw [hf4.cell c3 (by simp),shr_nat (k:=.u32) (by show _≤32; omega),tk_drop _ _ _ _ hnk,Nat.sub_sub]
   ·rw [c4,wrap_u64_id (by omega) (by omega)]
    congr 3
    omega
   ·rintro i j ⟨rfl,rfl⟩; exact .inr ⟨rfl,.inr (by decide)⟩
   ·rintro i j ⟨rfl,rfl⟩; exact .inr ⟨rfl,.inr (by decide)⟩
  ·have hnk:8 * q2 - p < V (tk (num src) p (8 * q2 - p)) % 16:=by have:=of_decide_eq_false ht; omega
   have hlow:V (tk (num src) p (8 * q2 - p)) % 16≤V (num src / 2 ^ p) % 16:=hV.low _ _ (by omega)
   exact ⟨(V (tk (num src) p (8 * q2 - p)) % 16,q2),rfl,⟨hJ2,hF02,by simp only; omega,by simp only; omega,by simp only; omega,by simp only; omega⟩,by simp only; omega⟩
 ·have hF02:=(hF.trans hF2).mono (S':=fun i j=>InS D f i j∨(i=f∧j=1048)) fun i j h=>.inl h
  have:R (.tuple #[.int .i64 0,E.cut]) m2:=he m2 src.length (by simp only at h3; omega) hJ2 hF02
  show resW PP r_decompressor_huffSym [] r m2 R
  simp only [r_decompressor_huffSym,resW,hr4,hr5]
  exact this
end
end Go.M

namespace Go.M
open Go
set_option maxRecDepth 100000
def lz (H:List Nat) (d:Nat):Nat→List Nat
 | 0=>H
 | n+1=>lz H d n++[(lz H d n).getD ((lz H d n).length - d) 0]
theorem lz_length (H:List Nat) (d:Nat):∀ n,(lz H d n).length=H.length+n
 | 0=>rfl
 | n+1=>by simp only [lz,List.length_append,List.length_singleton,lz_length H d n]; omega
theorem lz_add (H:List Nat) (d a:Nat):∀ b,lz H d (a+b)=lz (lz H d a) d b
 | 0=>rfl
 | b+1=>by rw [Nat.add_succ,lz,lz_add H d a b]; rfl
theorem getD_append_left {H T:List Nat} {i:Nat} (h:i < H.length):(H++T).getD i 0=H.getD i 0:=by
 simp [List.getD_eq_getElem?_getD,List.getElem?_append_left h]
theorem getD_append_right {H T:List Nat} {i:Nat}:(H++T).getD (H.length+i) 0=T.getD i 0:=by
 simp [List.getD_eq_getElem?_getD,List.getElem?_append_right]
theorem lz_old (H:List Nat) (d:Nat) {i:Nat} (hi:i < H.length):∀ n,(lz H d n).getD i 0=H.getD i 0
 | 0=>rfl
 | n+1=>by rw [lz,getD_append_left (by rw [lz_length]; omega),lz_old H d hi n]
theorem lz_new (H:List Nat) {d:Nat} (hd:0 < d) (hl:d≤H.length):∀ {n k:Nat},k < n→(lz H d n).getD (H.length+k) 0=H.getD (H.length - d+k % d) 0:=by
 intro n
 induction n with
 | zero=>intro k h; omega
 | succ n ih=>
  intro k hk
  rw [lz]
  by_cases h:k < n
  ·rw [getD_append_left (by rw [lz_length]; omega),ih h]
  ·have:k=n:=by omega
   subst this
   have e:H.length+k=(lz H d k).length+0:=by rw [lz_length]; omega
   rw [e,getD_append_right]
   show (lz H d k).getD ((lz H d k).length - d) 0=_
   rw [lz_length]
   by_cases hkd:k < d
   ·rw [lz_old _ _ (by omega),Nat.mod_eq_of_lt hkd]
    congr 1; omega
   ·rw [show H.length+k - d=H.length+(k - d) from by omega,ih (by omega)]
    congr 2
    rw [← Nat.mod_eq_sub_mod (by omega)]
structure Holds (h:Nat→Int) (wr:Nat) (full:Bool) (H:List Nat):Prop where
 le:wr≤32768
 fl:full=true→32768≤H.length
 part:full=false→H.length=wr
 data:∀ d,1≤d→d≤32768→d≤H.length→h ((wr+32768 - d) % 32768)=(H.getD (H.length - d) 0:Nat)
theorem Holds.wr_le {h:Nat→Int} {wr:Nat} {full:Bool} {H:List Nat} (hH:Holds h wr full H):wr≤H.length:=by
 have h1:=hH.le
 cases full with
 | true=>have:=hH.fl rfl; omega
 | false=>have:=hH.part rfl; omega
theorem Holds.push {h:Nat→Int} {wr:Nat} {full:Bool} {H:List Nat} (hH:Holds h wr full H) (hw:wr < 32768) (c:Nat):
  Holds (fun i=>if i=wr then (c:Int) else h i) (wr+1) full (H++[c]) where
 le:=by omega
 fl:=fun hf=>by have:=hH.fl hf; simp; omega
 part:=fun hf=>by have:=hH.part hf; simp; omega
 data:=fun d h1 h2 h3=>by
  simp only [List.length_append,List.length_singleton] at h3 ⊢
  by_cases hd:d=1
  ·subst hd
   rw [if_pos (by omega)]
   rw [show H.length+1 - 1=H.length+0 from rfl,getD_append_right]
   rfl
  ·rw [if_neg (by omega),getD_append_left (by omega)]
   have:=hH.data (d - 1) (by omega) (by omega) (by omega)
   rw [show wr+1+32768 - d=wr+32768 - (d - 1) from by omega,this]
   congr 2; omega
theorem Holds.pushes {h:Nat→Int} {wr:Nat} {full:Bool} {H:List Nat} (hH:Holds h wr full H) (T:List Nat) (hw:wr+T.length≤32768) (g:Nat→Int)
  (hg:∀ i,g i=if wr≤i∧i < wr+T.length then ((T.getD (i - wr) 0:Nat):Int) else h i):
  Holds g (wr+T.length) full (H++T) where
 le:=hw
 fl:=fun hf=>by have:=hH.fl hf; simp; omega
 part:=fun hf=>by have:=hH.part hf; simp; omega
 data:=fun d h1 h2 h3=>by
  simp only [List.length_append] at h3 ⊢
  rw [hg]
  by_cases hd:d≤T.length
  ·rw [if_pos (by omega),show H.length+T.length - d=H.length+(T.length - d) from by omega,getD_append_right]
   congr 2; omega
  ·rw [if_neg (by omega),getD_append_left (by omega)]
   have:=hH.data (d - T.length) (by omega) (by omega) (by omega)
   rw [show wr+T.length+32768 - d=wr+32768 - (d - T.length) from by omega,this]
   congr 2; omega
theorem Holds.copy {h:Nat→Int} {wr:Nat} {full:Bool} {H:List Nat} (hH:Holds h wr full H) {d e:Nat} (hd:0 < d) (hd2:d≤32768) (hl:d≤H.length) (he:wr≤e) (he2:e≤32768):
  Holds (wrapCopy h wr d e) e full (lz H d (e - wr)) where
 le:=he2
 fl:=fun hf=>by have:=hH.fl hf; rw [lz_length]; omega
 part:=fun hf=>by have:=hH.part hf; rw [lz_length]; omega
 data:=fun d' h1 h2 h3=>by
  rw [lz_length] at h3 ⊢
  have hwr:=hH.wr_le
  by_cases hn:d'≤e - wr
  ·have hk:e - wr - d' < e - wr:=by omega
   rw [show H.length+(e - wr) - d'=H.length+(e - wr - d') from by omega,lz_new H hd hl hk]
   rw [show (e+32768 - d') % 32768=wr+(e - wr - d') from by omega]
   generalize e - wr - d'=k at hk ⊢
   have hr:k % d < d:=Nat.mod_lt _ hd
   have hdat:=hH.data (d - k % d) (by omega) (by omega) (by omega)
   rw [show H.length - d+k % d=H.length - (d - k % d) from by omega, ← hdat]
   unfold wrapCopy
   by_cases hw:d≤wr
   ·rw [if_pos hw]
    unfold rep
    rw [if_pos (by omega),show wr+k - (wr - d)=k+d from by omega,Nat.add_mod_right]
    congr 1; omega
   ·rw [if_neg hw]
    unfold rep
    rw [if_pos (by omega),Nat.sub_zero,Nat.zero_add]
    have hmod:(wr+k) % d=if wr+k % d < d then wr+k % d else wr+k % d - d:=by
     rw [← Nat.add_mod_mod]
     split
     ·rw [Nat.mod_eq_of_lt (by assumption)]
     ·rw [Nat.mod_eq_sub_mod (by omega),Nat.mod_eq_of_lt (by omega)]
    have hmk:k % d≤k:=Nat.mod_le _ _
    by_cases hc:wr+k % d < d
    ·rw [if_pos hc] at hmod
     rw [hmod]
     show ite _ _ _=_
     rw [if_pos (by omega)]
     congr 1; omega
    ·rw [if_neg hc] at hmod
     rw [hmod]
     show ite _ _ _=_
     rw [if_neg (by omega)]
     congr 1; omega
  ·have hd':=hH.data (d' - (e - wr)) (by omega) (by omega) (by omega)
   rw [lz_old _ _ (by omega),show H.length+(e - wr) - d'=H.length - (d' - (e - wr)) from by omega, ← hd']
   rw [show (e+32768 - d') % 32768=(wr+32768 - (d' - (e - wr))) % 32768 from by omega]
   have hpos:(wr+32768 - (d' - (e - wr))) % 32768 < wr∨e≤(wr+32768 - (d' - (e - wr))) % 32768:=by omega
   generalize (wr+32768 - (d' - (e - wr))) % 32768=i at hpos ⊢
   unfold wrapCopy
   by_cases hw:d≤wr
   ·rw [if_pos hw]
    unfold rep
    split
    ·rw [Nat.mod_eq_of_lt (by omega)]
     congr 1; omega
    ·rfl
   ·rw [if_neg hw]
    unfold rep
    split
    ·rw [Nat.sub_zero,Nat.zero_add,Nat.mod_eq_of_lt (by omega)]
     show ite _ _ _=_
     rw [if_neg (by omega)]
    ·show ite _ _ _=_
     rw [if_neg (by omega)]
structure Win (m:Mem) (f bh:Nat) (H:List Nat) (wr rd:Nat):Prop where
 ex:∃ h full,DictAt m f bh h wr rd full∧Holds h wr full H
 rd:rd≤wr
 byte:∀ v ∈ H,v < 256
theorem Win.fr {S:Nat→Nat→Prop} {m m':Mem} {f bh:Nat} {H:List Nat} {wr rd:Nat} (hW:Win m f bh H wr rd) (hf:Fr S m m') (hs:∀ i j,DictS f bh i j→ ¬ S i j):Win m' f bh H wr rd:=
 ⟨let ⟨h,full,h1,h2⟩:=hW.ex; ⟨h,full,h1.fr hf hs,h2⟩,hW.rd,hW.byte⟩
section
variable {m:Mem} {f bh:Nat} {H:List Nat} {wr rd:Nat}
theorem Win.le (hW:Win m f bh H wr rd):wr≤32768:=let ⟨_,_,_,h2⟩:=hW.ex; h2.le
theorem Win.wr_le (hW:Win m f bh H wr rd):wr≤H.length:=let ⟨_,_,_,h2⟩:=hW.ex; h2.wr_le
theorem win_availRead (hW:Win m f bh H wr rd) {R:Value→Mem→Prop} (hk:R (.int .i64 ((wr - rd:Nat):Int)) m):
  CallM PP f_dictDecoder_availRead #[.pointer (some ⟨f,1037,none⟩)] m R:=
 let ⟨_,_,h1,h2⟩:=hW.ex; availRead_spec h1 hW.rd h2.le hk
theorem win_availWrite (hW:Win m f bh H wr rd) {R:Value→Mem→Prop} (hk:R (.int .i64 ((32768 - wr:Nat):Int)) m):
  CallM PP f_dictDecoder_availWrite #[.pointer (some ⟨f,1037,none⟩)] m R:=
 let ⟨_,_,h1,h2⟩:=hW.ex; availWrite_spec h1 h2.le hk
theorem win_histSize (hW:Win m f bh H wr rd) {R:Value→Mem→Prop} (hk:R (.int .i64 ((min 32768 H.length:Nat):Int)) m):
  CallM PP f_dictDecoder_histSize #[.pointer (some ⟨f,1037,none⟩)] m R:=by
 obtain ⟨h,full,h1,h2⟩:=hW.ex
 refine histSize_spec h1 ?_
 have hle:=h2.le
 cases full with
 | true=>have:=h2.fl rfl; rw [if_pos rfl,show (32768:Nat)=min 32768 H.length from by omega]; exact hk
 | false=>have:=h2.part rfl; rw [if_neg (by simp),show wr=min 32768 H.length from by omega]; exact hk
theorem win_writeByte (hW:Win m f bh H wr rd) (c:Nat) (hc:c < 256) (hw:wr < 32768) {R:Value→Mem→Prop}
  (hk:∀ m',Win m' f bh (H++[c]) (wr+1) rd→Fr (DictS f bh) m m'→R (.tuple #[]) m'):
  CallM PP f_dictDecoder_writeByte #[.pointer (some ⟨f,1037,none⟩),.int .u8 (c:Int)] m R:=by
 obtain ⟨h,full,h1,h2⟩:=hW.ex
 refine writeByte_spec h1 c hw fun m' h3 h4=>hk m' ⟨⟨_,full,h3,h2.push hw c⟩,by have:=hW.rd; omega,?_⟩ h4
 intro v hv
 rcases List.mem_append.1 hv with hv | hv
 ·exact hW.byte v hv
 ·simp only [List.mem_singleton] at hv; subst hv; exact hc
theorem lz_byte {H:List Nat} (hb:∀ v ∈ H,v < 256) (d:Nat):∀ n,∀ v ∈ lz H d n,v < 256
 | 0=>hb
 | n+1=>by
  intro v hv
  rw [lz] at hv
  rcases List.mem_append.1 hv with hv | hv
  ·exact lz_byte hb d n v hv
  ·simp only [List.mem_singleton] at hv
   subst hv
   by_cases hi:(lz H d n).length - d < (lz H d n).length
   ·rw [List.getD_eq_getElem?_getD,List.getElem?_eq_getElem hi]
    exact lz_byte hb d n _ (List.getElem_mem hi)
   ·rw [List.getD_eq_getElem?_getD,List.getElem?_eq_none (by omega)]
    simp
theorem win_tryWriteCopy (hW:Win m f bh H wr rd) (d n:Nat) (hd:0 < d) (hd2:d≤32768) (_hl:n=0∨d≤H.length) (hn2:n≤258) {R:Value→Mem→Prop}
  (hno:R (.int .i64 0) m)
  (hk:∀ m',wr+n≤32768→Win m' f bh (lz H d n) (wr+n) rd→Fr (DictS f bh) m m'→R (.int .i64 (n:Nat)) m'):
  CallM PP f_dictDecoder_tryWriteCopy #[.pointer (some ⟨f,1037,none⟩),.int .i64 (d:Nat),.int .i64 (n:Nat)] m R:=by
 obtain ⟨h,full,h1,h2⟩:=hW.ex
 have hwl:=h2.wr_le
 refine tryWriteCopy_spec h1 d n hd hd2 hn2 h2.le (fun _=>hno) fun m' h3 h4 h5 h6=>hk m' h4 ⟨⟨_,full,h5,?_⟩,by have:=hW.rd; omega,lz_byte hW.byte d n⟩ h6
 have:=h2.copy (d:=d) (e:=wr+n) hd hd2 (by omega) (by omega) h4
 rw [Nat.add_sub_cancel_left] at this
 unfold wrapCopy at this
 rw [if_pos h3] at this
 exact this
theorem win_writeCopy (hW:Win m f bh H wr rd) (d n:Nat) (hd:0 < d) (hd2:d≤32768) (hl:n=0∨d≤H.length) (hn2:n≤258) {R:Value→Mem→Prop}
  (hk:∀ m',Win m' f bh (lz H d (min n (32768 - wr))) (wr+min n (32768 - wr)) rd→Fr (DictS f bh) m m'→R (.int .i64 (min n (32768 - wr):Nat)) m'):
  CallM PP f_dictDecoder_writeCopy #[.pointer (some ⟨f,1037,none⟩),.int .i64 (d:Nat),.int .i64 (n:Nat)] m R:=by
 obtain ⟨h,full,h1,h2⟩:=hW.ex
 have hwl:=h2.wr_le
 have hle:=h2.le
 refine writeCopy_spec h1 d n hd hd2 hn2 h2.le fun m' h3 h4=>?_
 have e1:min 32768 (wr+n)=wr+min n (32768 - wr):=by omega
 rw [e1] at h3 ⊢
 rw [Nat.add_sub_cancel_left]
 refine hk m' ⟨⟨_,full,h3,?_⟩,by have:=hW.rd; omega,lz_byte hW.byte d _⟩ h4
 rcases Nat.eq_zero_or_pos n with h0 | h0
 ·subst h0
  simp only [Nat.zero_min,Nat.add_zero,lz]
  have hsame:wrapCopy h wr d wr=h:=by
   funext i
   unfold wrapCopy
   split
   ·rw [rep_short _ (by omega)]
   ·rw [rep_short _ (by omega),if_neg (by omega)]
  rw [hsame]; exact h2
 ·have:=h2.copy (d:=d) (e:=wr+min n (32768 - wr)) hd hd2 (by omega) (by omega) (by omega)
  rw [Nat.add_sub_cancel_left] at this
  exact this
theorem win_readFlush (hW:Win m f bh H wr rd) {R:Value→Mem→Prop}
  (hk:∀ m' o k wr' rd',Win m' f bh H wr' rd'→wr'=rd'→wr' < 32768→Fr (fun i j=>i=f∧1037≤j∧j≤1040) m m'→wr - rd≤k→
   (∀ i,i < wr - rd→o+i < 32768∧cell? m' ⟨bh,o+i,none⟩=some (.int .u8 (H.getD (H.length - (wr - rd)+i) 0:Nat)))→
   R (.slice (some ⟨bh,o,none⟩) (wr - rd) k) m'):
  CallM PP f_dictDecoder_readFlush #[.pointer (some ⟨f,1037,none⟩)] m R:=by
 obtain ⟨h,full,h1,h2⟩:=hW.ex
 have hle:=h2.le
 have hrd:=hW.rd
 have hwl:=h2.wr_le
 refine e_dictDecoder_readFlush f m R ⟨_,_,_,h1.hist,_,h1.rd,_,h1.wr,by omega,⟨by omega,by omega⟩,⟨by omega,by omega⟩,_,h1.wr,?_⟩
 refine StW.at rfl (h1.wf _ (by simp) (by simp)) fun m1 c1 f1 _=>?_
 have d1:=h1.setRd wr c1 f1
 simp only [Int.toNat_natCast]
 have hsub:∃ o k,subA (some ⟨bh,0,none⟩) rd 1 32768=some ⟨bh,o,none⟩∧wr - rd≤k∧k=32768 - rd∧(∀ i,i < wr - rd→o+i=rd+i):=by
  by_cases hr:rd < 32768
  ·exact ⟨rd,32768 - rd,by rw [subA_lt hr]; simp,by omega,rfl,fun i hi=>rfl⟩
  ·refine ⟨0,32768 - rd,?_,by omega,rfl,fun i hi=>by omega⟩
   unfold subA
   rw [if_pos (by omega)]
 obtain ⟨o,k,hs,hk1,hk2,ho⟩:=hsub
 have data:∀ m',(∀ i,i < 32768→cell? m' ⟨bh,i,none⟩=some (.int .u8 (h i)))→∀ i,i < wr - rd→o+i < 32768∧cell? m' ⟨bh,o+i,none⟩=some (.int .u8 (H.getD (H.length - (wr - rd)+i) 0:Nat)):=by
  intro m' hd i hi
  rw [ho i hi]
  refine ⟨by omega,?_⟩
  rw [hd _ (by omega)]
  have:=h2.data (wr - rd - i) (by omega) (by omega) (by omega)
  rw [show (wr+32768 - (wr - rd - i)) % 32768=rd+i from by omega] at this
  rw [this]
  congr 4; omega
 refine ⟨_,d1.wr,_,_,_,d1.hist,ifB_of (fun ht=>?_) (fun ht=>?_)⟩
 ·have hw:wr=32768:=by have:=eq_of_beq ht; omega
  refine StW.at rfl (d1.wf _ (by simp) (by simp)) fun m2 c2 f2 _=>?_
  have d2:=d1.setWr 0 c2 f2
  refine StW.at rfl (d2.wf _ (by simp) (by simp)) fun m3 c3 f3 _=>?_
  have d3:=d2.setRd 0 c3 f3
  refine StW.at rfl (d3.wf _ (by simp) (by simp)) fun m4 c4 f4 _=>?_
  have d4:=d3.setFull true c4 f4
  refine WPS.piece k_dictDecoder_readFlush_rrrr rfl (p_dictDecoder_readFlush_rrrr _ _ _ m4 _ ?_)
  rw [hs, ← hk2]
  show R (.slice (some ⟨bh,o,none⟩) (wr - rd) k) m4
  refine hk m4 o k 0 0 ⟨⟨_,_,d4,{ le:=by omega,fl:=fun _=>by omega,part:=fun h=>(by cases h),data:=fun d g1 g2 g3=>?_ }⟩,Nat.le_refl _,hW.byte⟩ rfl (by omega) ?_ hk1 (data m4 d4.data)
  ·have:=h2.data d g1 g2 g3
   rw [hw] at this
   rw [← this]
   congr 1; omega
  ·refine (f1.mono ?_).trans ((f2.mono ?_).trans ((f3.mono ?_).trans (f4.mono ?_))) <;> (rintro i j ⟨rfl,rfl⟩; exact ⟨rfl,by omega,by omega⟩)
 ·have hw:wr≠32768:=by intro h; rw [h] at ht; simp at ht
  refine WPS.piece k_dictDecoder_readFlush_rrrr rfl (p_dictDecoder_readFlush_rrrr _ _ _ m1 _ ?_)
  rw [hs, ← hk2]
  show R (.slice (some ⟨bh,o,none⟩) (wr - rd) k) m1
  refine hk m1 o k wr wr ⟨⟨_,_,d1,h2⟩,Nat.le_refl _,hW.byte⟩ rfl (by omega) (f1.mono ?_) hk1 (data m1 d1.data)
  rintro i j ⟨rfl,rfl⟩; exact ⟨rfl,by omega,by omega⟩
end
end Go.M

namespace Go.M
open Go
set_option maxRecDepth 100000
section
variable {E:Errs} {src:List Nat}
def fullEnv (v:Value) (a:Option Addr) (n k c:Nat) (e:Value):Env:=[(0,v),(1,.slice a n k),(2,.int .i64 (n:Int)),(6,.int .i64 (c:Int)),(7,e)]
structure Room (D:Rdr E src) (m:Mem) (a:Option Addr) (b o n k:Nat):Prop where
 at':0 < n→a=some ⟨b,o,none⟩
 cap:n≤k
 wr:WrRow m b o n
 apart:∀ i,i < n→ ¬ D.S b (o+i)
 lo:4 < b
 big:n < 4611686018427387904
theorem Room.fr {D:Rdr E src} {m m':Mem} {S:Nat→Nat→Prop} {a:Option Addr} {b o n k:Nat} (h:Room D m a b o n k) (hf:Fr S m m'):Room D m' a b o n k:=
 ⟨h.at',h.cap,h.wr.fr hf,h.apart,h.lo,h.big⟩
def RoomS (D:Rdr E src) (b o n:Nat):Nat→Nat→Prop:=fun i j=>D.S i j∨(i=b∧o≤j∧j < o+n)
theorem RoomS.lo {D:Rdr E src} {b o n:Nat} (h:4 < b):∀ i j,RoomS D b o n i j→4 < i:=by
 rintro i j (hi | ⟨rfl,_⟩)
 ·exact D.own _ _ hi
 ·exact h
def SrcAt (src:List Nat) (m:Mem) (b o pos c:Nat):Prop:=∀ i v,i < c→src[pos+i]?=some v→cell? m ⟨b,o+i,none⟩=some (.int .u8 ((v:Nat):Int))
theorem readAtLeast_spec {D:Rdr E src} {pos b o n k:Nat} {a:Option Addr} {m:Mem} (hA:D.At pos m) (hG:Glob E m) (hR:Room D m a b o n k) (hbig:src.length < 1152921504606846976) {R:Value→Mem→Prop}
  (hk:∀ m',pos+n≤src.length→D.At (pos+n) m'→SrcAt src m' b o pos n→Fr (RoomS D b o n) m m'→R (.tuple #[.int .i64 (n:Int),.nilIface]) m')
  (he:∀ m',src.length < pos+n→D.At src.length m'→SrcAt src m' b o pos (src.length - pos)→Fr (RoomS D b o (src.length - pos)) m m'→
   R (.tuple #[.int .i64 (src.length - pos:Nat),if src.length - pos=0 then E.eof else E.cut]) m'):
  CallM PP f_io_ReadAtLeast #[D.rv,.slice a n k,.int .i64 (n:Int)] m R:=by
 have hpl:=D.le hA
 refine e_io_ReadAtLeast D.rv a n k n m R (ifB_of (fun ht=>absurd (of_decide_eq_true ht) (by omega)) (fun _=>?_))
 rw [q_io_ReadAtLeast_rrll]
 have hbn:=hR.big
 refine loopW ffOk mixedOk (L₀:=L_io_ReadAtLeast) (σ:=Nat×Bool) [0,1,2,6,7] (fun s=>fullEnv D.rv a n k s.1 (if s.2 then E.eof else .nilIface))
  (fun s m'=>D.At (pos+s.1) m'∧SrcAt src m' b o pos s.1∧Fr (RoomS D b o s.1) m m'∧s.1≤n∧pos+s.1≤src.length∧(s.2=true→s.1 < n∧pos+s.1=src.length)) (fun s=>2 * (n - s.1)+(if s.2 then 0 else 1)) (0,false) rfl
  ⟨hA,fun i v hi=>by omega,Fr.refl _ _,by omega,hpl,fun h=>by cases h⟩ ?_
 rintro ⟨c,e⟩ m1 ⟨h1,h2,h3,h4,h5,h6⟩
 simp only at h1 h2 h4 h5 h6
 have hG1:=hG.fr h3 (RoomS.lo hR.lo)
 refine p_io_ReadAtLeast_rrlll D.rv a n k n c (if e then E.eof else .nilIface) m1 _ (ifB_of (fun ht=>?_) (fun ht=>?_))
 ·have hlt:c < n:=by have:=of_decide_eq_true ht; omega
  refine ⟨by cases e <;> rfl,?_⟩
  cases e with
  | true=>
   refine ifB_f ?_
   obtain ⟨_,h7⟩:=h6 rfl
   refine WPS.piece k_io_ReadAtLeast_rrr rfl (p_io_ReadAtLeast_rrr _ _ _ m1 _ (ifB_of (fun ht=>?_) (fun _=>ifB_of (fun ht=>?_) (fun ht=>?_))))
   ·have:=of_decide_eq_true ht; omega
   ·have hc0:0 < c:=by have:=of_decide_eq_true ht; omega
    refine ⟨_,hG1.eof,eqErr_same _ _ E.pe m1 _ ⟨true,rfl,ifB_t ⟨_,hG1.cut,?_⟩⟩⟩
    refine WPS.piece k_io_ReadAtLeast_rrrr rfl (p_io_ReadAtLeast_rrrr _ _ m1 _ ?_)
    have:=he m1 (by omega) (h7 ▸ h1) (by rw [show src.length - pos=c from by omega]; exact h2) (by rw [show src.length - pos=c from by omega]; exact h3)
    rw [if_neg (by omega),show src.length - pos=c from by omega] at this
    exact this
   ·have hc0:c=0:=by have:=of_decide_eq_false ht; omega
    refine WPS.piece k_io_ReadAtLeast_rrrr rfl (p_io_ReadAtLeast_rrrr _ _ m1 _ ?_)
    have:=he m1 (by omega) (h7 ▸ h1) (by rw [show src.length - pos=c from by omega]; exact h2) (by rw [show src.length - pos=c from by omega]; exact h3)
    rw [if_pos (by omega),show src.length - pos=c from by omega] at this
    exact this
  | false=>
   refine ifB_t ⟨hR.cap,⟨by omega,by omega⟩,D.meth ?_⟩
   have hcap:=hR.cap
   simp only [Int.toNat_natCast]
   rw [hR.at' (by omega),subA_lt (by omega)]
   refine D.read h1 hG1 (by omega) (by omega) (fun i hi=>?_) (fun i hi=>?_) (fun d m2 g1 g2 g3 g4 g5 g6=>?_) (fun m2 g1 g2 g3=>?_)
   ·have:=(hR.wr.fr h3) (c+i) (by omega)
    rw [show o+c+i=o+(c+i) from by omega]; exact this
   ·rw [show o+c+i=o+(c+i) from by omega]; exact hR.apart _ (by omega)
   ·refine ⟨_,_,rfl,(c+d,false),?_,⟨by rw [← Nat.add_assoc]; exact g4,?_,(h3.mono ?_).trans (g6.mono ?_),by simp only; omega,by simp only; omega,fun h=>by cases h⟩,?_⟩
    ·rw [wrap64_id (by omega) (by omega)]; rfl
    ·intro i v hi hv
     by_cases hic:i < c
     ·refine g6.cell (h2 i v hic hv) ?_
      rintro (hS | ⟨_,hS,_⟩)
      ·exact hR.apart _ (by omega) hS
      ·simp only at hS; omega
     ·have:=g5 (i - c) v (by simp only at hi; omega) (by rw [show pos+c+(i - c)=pos+i from by omega]; exact hv)
      rw [show o+c+(i - c)=o+i from by omega] at this
      exact this
    ·rintro i j (hS | ⟨rfl,hS,hS2⟩)
     ·exact .inl hS
     ·exact .inr ⟨rfl,hS,by simp only at hS2 ⊢; omega⟩
    ·rintro i j (hS | ⟨rfl,hS,hS2⟩)
     ·exact .inl hS
     ·exact .inr ⟨rfl,by omega,by simp only; omega⟩
    ·simp only [Bool.false_eq_true,if_false]; omega
   ·refine ⟨_,_,rfl,(c,true),?_,⟨g2,?_,h3.trans (g3.mono fun i j h=>.inl h),h4,h5,fun _=>⟨hlt,g1⟩⟩,?_⟩
    ·rw [wrap64_id (by omega) (by omega),Int.add_zero]; rfl
    ·intro i v hi hv
     exact g3.cell (h2 i v hi hv) (hR.apart _ (by simp only at hi; omega))
    ·simp only [Bool.false_eq_true,if_false,if_true]; omega
 ·have hge:c=n:=by have:=of_decide_eq_false ht; omega
  subst hge
  have he0:e=false:=by
   cases e with
   | false=>rfl
   | true=>obtain ⟨h7,_⟩:=h6 rfl; omega
  subst he0
  refine WPS.piece k_io_ReadAtLeast_rrr rfl (p_io_ReadAtLeast_rrr _ _ _ m1 _ (ifB_of (fun ht=>?_) (fun ht=>?_)))
  ·refine WPS.piece k_io_ReadAtLeast_rrrr rfl (p_io_ReadAtLeast_rrrr _ _ m1 _ ?_)
   exact hk m1 h5 h1 h2 h3
  ·have:=of_decide_eq_false ht; omega
theorem readFull_spec {D:Rdr E src} {pos b o n k:Nat} {a:Option Addr} {m:Mem} (hA:D.At pos m) (hG:Glob E m) (hR:Room D m a b o n k) (hbig:src.length < 1152921504606846976) {R:Value→Mem→Prop}
  (hk:∀ m',pos+n≤src.length→D.At (pos+n) m'→SrcAt src m' b o pos n→Fr (RoomS D b o n) m m'→R (.tuple #[.int .i64 (n:Int),.nilIface]) m')
  (he:∀ m',src.length < pos+n→D.At src.length m'→SrcAt src m' b o pos (src.length - pos)→Fr (RoomS D b o (src.length - pos)) m m'→
   R (.tuple #[.int .i64 (src.length - pos:Nat),if src.length - pos=0 then E.eof else E.cut]) m'):
  CallM PP f_io_ReadFull #[D.rv,.slice a n k] m R:=
 e_io_ReadFull D.rv a n k m R (readAtLeast_spec hA hG hR hbig (fun m' h1 h2 h3 h4=>⟨_,_,rfl,hk m' h1 h2 h3 h4⟩) (fun m' h1 h2 h3 h4=>⟨_,_,rfl,he m' h1 h2 h3 h4⟩))
end
end Go.M
