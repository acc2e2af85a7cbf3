/- The random generator: a new one; what a made stream is. The random generator: streams of some blocks. Slices of slices; literals alone. Two slices of bytes, joined. The random generator: a dictionary and a stream behind it. -/
import Derived.Test.YtlgdbjpeklangaaGreatDoorPkze
import Derived.Test.YtlgdbjpeklangaaGreatDoorPkzb
import Derived.Test.YtlgdbjpeklangaaGreatDoorPkq
namespace Go.M
open Go
set_option maxRecDepth 100000
theorem nilB (m:Mem):SlcB m none 0 0 0 0 []:=⟨rfl,Nat.le_refl _,by omega,fun i h=>by omega,by simp⟩
theorem nilT (m:Mem):SlcT m none 0 0 0 0 []:=⟨rfl,Nat.le_refl _,by omega,fun i x h=>by simp at h⟩
structure MadeS (m:Mem) (fin:Bool) (a1:Option Addr) (l1 k1 b1 o1:Nat) (src:List Nat) (ch:List (Nat×Nat)) (a2:Option Addr) (l2 k2 b2 o2:Nat) (H:List Nat):Prop where
 row:SlcB m a1 l1 k1 b1 o1 src
 st:StreamOf ch src
 blk:BlkX 0 [] ch H fin
 len:chLen ch≤1000000
 want:SlcB m a2 l2 k2 b2 o2 H
 size:H.length≤131072
 small:H.length≤60000
theorem MadeS.fr {m m':Mem} {fin:Bool} {a1:Option Addr} {l1 k1 b1 o1:Nat} {src:List Nat} {ch:List (Nat×Nat)} {a2:Option Addr} {l2 k2 b2 o2:Nat} {H:List Nat} (h:MadeS m fin a1 l1 k1 b1 o1 src ch a2 l2 k2 b2 o2 H) (hf:∀ S,Fr S m m'):MadeS m' fin a1 l1 k1 b1 o1 src ch a2 l2 k2 b2 o2 H:=
 ⟨h.row.sp (hf fun _ _=>False) fun _ _=>id,h.st,h.blk,h.len,h.want.sp (hf fun _ _=>False) fun _ _=>id,h.size,h.small⟩
theorem box_rd {v1 v2:Value} {m:Mem} {K:Nat→Mem→Prop} (h:K m.size (m.push (.cells #[v1,v2] t_spec_reader))):BoxW t_spec_reader (.agg #[v1,v2]) m K:=h
section
variable {m:Mem} {r c:Nat}
theorem newReader_spec {a:Option Addr} {l k b o:Nat} {d:List Nat} (hS:SlcB m a l k b o d) {R:Value→Mem→Prop} (hk:∀ m',RdM m' m.size 0→(∀ S,Fr S m m')→m'.size=m.size+1→R (.pointer (some ⟨m.size,0,none⟩)) m'):CallM PP f_spec_newReader #[.slice a l k] m R:=by
 have hcap:=hS.cap
 have e:(if (3000:Int) < (l:Int) then (3000:Int) else (l:Int))=((min l 3000:Nat):Int):=by split <;> omega
 refine e_spec_newReader a l k m R ⟨hcap,?_,?_⟩
 ·rw [e]; exact ⟨by omega,by omega⟩
 ·rw [e,Int.toNat_natCast]
  refine box_rd ?_
  have f1:∀ S,Fr S m (m.push (.cells #[.slice a (min l 3000) k,.int .i64 0] t_spec_reader)):=fun S=>Fr.push _
  have hS1:=(hS.take (n:=min l 3000) (by omega)).sp (f1 fun _ _=>False) fun _ _=>id
  refine hk _ ⟨⟨a,min l 3000,k,b,o,_,cell_new rfl,hS1,by omega,fun h0=>?_⟩,⟨0,Nat.le_refl _,cell_new rfl⟩,wr_new (by simp)⟩ f1 (Array.size_push ..)
  have:=cell_block (hS.data 0 (by omega))
  simpa using this
end
end Go.M

namespace Go.M
open Go
set_option maxRecDepth 100000
def GenOf (m:Mem) (fin:Bool) (S:Nat→Nat→Prop) (R:Value→Mem→Prop):Prop:=
 ∀ m' a1 l1 k1 b1 o1 src ch a2 l2 k2 b2 o2 H,MadeS m' fin a1 l1 k1 b1 o1 src ch a2 l2 k2 b2 o2 H→Fr S m m'→R (.tuple #[.slice a1 l1 k1,.slice a2 l2 k2]) m'
section
variable {m:Mem} {r c:Nat}
theorem stream_spec (h:RdM m r c) {how blocks most:Nat} (hbl:0 < blocks) (hbl2:blocks≤7) (hm:most≤30) (hc:c+200000 < 1099511627776) {R:Value→Mem→Prop} (hk:GenOf m true (RS r) R):
  CallM PP f_reader_stream #[.pointer (some ⟨r,0,none⟩),.int .i64 (how:Int),.int .i64 (blocks:Int),.int .i64 (most:Int)] m R:=by
 have hr:=h.lo
 refine e_reader_stream r how blocks most m R (box_writer fun m1 hW f1=>?_)
 have s1:=hW.lo
 refine pick_spec (h.fresh f1) (by omega) hbl fun m2 n hn h2 f2=>⟨_,rfl,?_⟩
 have g2:Gen m2 r (c+1) m.size m.size []:=⟨h2,WrM.fr hW f2 (fun j=>rs_old hr j) (fun j=>rs_old hr j),hr,hr⟩
 have F2:Fr (RN r m.size) m m2:=(f1 _).trans (f2.mono fun _ _ h=>.inl h)
 rw [q_reader_stream_rrrlrl]
 refine loopW ffOk mixedOk (L₀:=L_reader_stream) (σ:=Nat×Option Addr×Nat×Nat×Nat×Nat×Nat×List (Nat×Nat)×List Nat) [0,1,3,10,11,12]
  (fun s=>[(0,.pointer (some ⟨r,0,none⟩)),(1,.int .i64 (how:Int)),(3,.int .i64 (most:Int)),(10,.pointer (some ⟨m.size,0,none⟩)),(11,.slice s.2.1 s.2.2.1 s.2.2.2.1),(12,.int .i64 (s.1:Nat))])
  (fun s m'=>s.1≤n∧OutB m' s.2.1 s.2.2.1 s.2.2.2.1 s.2.2.2.2.1 s.2.2.2.2.2.1 s.2.2.2.2.2.2.2.2∧Gen m' r (c+1+10000 * (n - s.1)) m.size s.2.2.2.2.2.2.1 s.2.2.2.2.2.2.2.1∧BlkX 0 [] s.2.2.2.2.2.2.2.1 s.2.2.2.2.2.2.2.2 false∧
   (0 < s.2.2.2.1→Out3 s.2.2.2.2.1 r m.size s.2.2.2.2.2.2.1∧m.size≤s.2.2.2.2.1)∧m.size≤s.2.2.2.2.2.2.1∧(∀ v ∈ s.2.2.2.2.2.2.2.2,v < 256)∧s.2.2.2.2.2.2.2.2.length≤7740 * (n - s.1)∧chLen s.2.2.2.2.2.2.2.1≤10000 * (n - s.1)∧Fr (RN r m.size) m m')
  (fun s=>s.1) (n,none,0,0,0,0,m.size,[],[]) rfl ⟨Nat.le_refl _,OutB.nil _ _,by simpa using g2,BlkX.nil _ _,by simp,Nat.le_refl _,by simp,by simp,by simp [chLen],F2⟩ ?_
 rintro ⟨i,a,l,k,bo,o,b,ch,H⟩ m3 ⟨hi,hO,g3,hB,hbo,hbm,hby,hHl,hcl,F3⟩
 simp only at hi hO g3 hB hbo hbm hby hHl hcl
 have hlen:=hO.len
 refine p_reader_stream_rrrlrll r how most _ a l k i m3 _ ?_
 have hsz:=F3.size
 have old:∀ {m':Mem},Fr (fun x _=>GS r m.size b x 0∨(x=bo∧0 < k)) m3 m'→Fr (RN r m.size) m m':=fun f=>F3.trans (f.mono fun x _ hx=>by
  rcases hx with (hx | hx | hx) | ⟨hx,h0⟩
  ·exact .inl hx
  ·exact .inr (by omega)
  ·exact .inr (by omega)
  ·have:=(hbo h0).2; exact .inr (by omega))
 cases i with
 | zero=>
  rw [decide_eq_false (by omega)]
  refine ifB_f (WPS.piece [0,1,3,10,11] rfl (p_reader_stream_rrrr r how most _ a l k m3 _ ?_))
  refine block_spec g3 (A:=[]) (H:=H) (by simpa using hO) (fun h0=>(hbo h0).1) (fun h0=>by have:=(hbo h0).2; omega) (by simpa using hby) (how:=how) (most:=most) (by omega) true (by omega) (by omega) (by omega) (by simp) fun m4 b4 pc H' a' l' k' bo' o' hp=>⟨_,_,_,rfl,?_⟩
  obtain ⟨a1,l1,k1,o1,src,c1,c2,c3⟩:=WrL.stream hp.gen.wr
  refine ⟨a1,l1,k1,c1,?_⟩
  have hbl:=hB.append (by have:=hp.blk; rwa [Nat.zero_add])
  have hO4:OutB m4 a' l' k' bo' o' H':=by simpa using hp.out
  have hsize:=hp.size
  have hplen:=hp.len
  refine hk m4 a1 l1 k1 b4 o1 src _ a' l' k' bo' o' H' ⟨c2,c3,hbl,?_,hO4.slc (by simpa using hp.byte),?_,?_⟩ (old hp.fr).rn
  ·rw [chLen_append]; omega
  ·omega
  ·omega
 | succ i=>
  rw [decide_eq_true (by omega)]
  refine ifB_t (block_spec g3 (A:=[]) (H:=H) (by simpa using hO) (fun h0=>(hbo h0).1) (fun h0=>by have:=(hbo h0).2; omega) (by simpa using hby) (how:=how) (most:=most) (by omega) false (by omega) (by omega) (by omega) (by simp) fun m4 b4 pc H' a' l' k' bo' o' hp=>⟨_,_,_,rfl,?_⟩)
  rw [wrap_pred (by omega)]
  have hsize:=hp.size
  have hplen:=hp.len
  have hmv:=hp.mv
  refine ⟨(i,a',l',k',bo',o',b4,ch++pc,H'),rfl,⟨by simp only; omega,by simpa using hp.out,?_,hB.append (by have:=hp.blk; rwa [Nat.zero_add]),fun h0=>⟨hp.apart h0,?_⟩,by simp only; omega,by simpa using hp.byte,by simp only; omega,by simp only; rw [chLen_append]; omega,old hp.fr⟩,by simp only; omega⟩
  ·have hg:=hp.gen
   exact ⟨hg.rd.mono (by simp only; omega),hg.wr,hg.rw,hg.rb⟩
  ·simp only
   rcases hp.mvo h0 with ⟨h1,h2⟩ | h1
   ·have:=(hbo h2).2; omega
   ·omega
theorem MixedOf_spec {a:Option Addr} {l k b o:Nat} {d:List Nat} (hS:SlcB m a l k b o d) {R:Value→Mem→Prop} (hk:GenOf m true (fun _ _=>False) R):CallM PP f_spec_MixedOf #[.slice a l k] m R:=by
 refine e_spec_MixedOf a l k m R (newReader_spec hS fun m1 h1 f1 s1=>⟨_,rfl,?_⟩)
 refine stream_spec h1 (how:=3) (blocks:=6) (most:=30) (by decide) (by decide) (by decide) (by decide) fun m2 a1 l1 k1 b1 o1 src ch a2 l2 k2 b2 o2 H hM f2=>⟨_,_,_,_,_,_,rfl,?_⟩
 exact hk m2 a1 l1 k1 b1 o1 src ch a2 l2 k2 b2 o2 H hM (((f1 _).trans f2).old fun x y hx h=>by
  unfold RS at h; omega)
end
end Go.M

namespace Go.M
open Go
set_option maxRecDepth 100000
section
variable {m:Mem}
theorem SlcB.dropG {a:Option Addr} {l k b o n:Nat} {d:List Nat} (h:SlcB m a l k b o d) (hn:n≤l):SlcB m (subA a n 1 k) (l - n) (k - n) b (o+n) (d.drop n):=by
 have hl:=h.len
 have hc:=h.cap
 by_cases h0:n < l
 ·exact h.drop (by omega) (by omega)
 ·exact ⟨by rw [List.length_drop]; omega,by omega,fun h1=>by omega,fun i hi=>by omega,fun v hv=>h.byte v (List.mem_of_mem_drop hv)⟩
theorem SlcT.take {a:Option Addr} {l k b o n:Nat} {its:List It} (h:SlcT m a l k b o its) (hn:n≤l):SlcT m a n k b o (its.take n):=
 ⟨by rw [List.length_take,h.len]; omega,by have:=h.cap; omega,fun h0=>h.at_ (by omega),fun i x hx=>by
  rw [List.getElem?_take] at hx
  split at hx
  ·exact h.data i x hx
  ·cases hx⟩
theorem SlcT.drop {a:Option Addr} {l k b o n:Nat} {its:List It} (h:SlcT m a l k b o its) (hn:n≤l):SlcT m (subA a n 3 k) (l - n) (k - n) b (o+n * 3) (its.drop n):=by
 have hl:=h.len
 have hc:=h.cap
 refine ⟨by rw [List.length_drop]; omega,by omega,fun h0=>?_,fun i x hx=>?_⟩
 ·rw [h.at_ (by omega)]
  unfold subA
  rw [if_neg (by omega)]
  show some (aplus _ (mulS n 3))=_
  rw [show mulS n 3=n * 3 from rfl]
  rfl
 ·rw [List.getElem?_drop] at hx
  have:=h.data (n+i) x hx
  rw [show o+n * 3+i * 3=o+(n+i) * 3 from by omega]
  exact this
theorem VIts.split:∀ {its:List It} {n k:Nat},VIts n its→VIts n (its.take k)∧VIts (itsN n (its.take k)) (its.drop k)
 | [],n,k,_=>by simp [VIts]
 | x::its,n,0,h=>by simpa [VIts,itsN] using h
 | x::its,n,k+1,h=>by
  have:=VIts.split (its:=its) (k:=k) h.2
  exact ⟨⟨h.1,this.1⟩,this.2⟩
theorem givs_len:∀ (its:List It) (H:List Nat),(givs H its).length=itsN H.length its
 | [],_=>rfl
 | x::its,H=>by
  show (givs (giv H x) its).length=itsN (H.length+max 1 x.len) its
  rw [givs_len its (giv H x),giv_length]
theorem givs_cut (its:List It) (H:List Nat) (k:Nat):givs (givs H (its.take k)) (its.drop k)=givs H its:=by
 unfold givs
 rw [← List.foldl_append,List.take_append_drop]
def litIt (v:Nat):It:=⟨v,0,0⟩
theorem lits_valid:∀ {T:List Nat} {n:Nat},(∀ v ∈ T,v < 256)→VIts n (T.map litIt)
 | [],_,_=>trivial
 | v::_,_,h=>⟨⟨h v (List.mem_cons_self ..),.inl rfl⟩,lits_valid fun x hx=>h x (List.mem_cons_of_mem _ hx)⟩
theorem lits_give:∀ (T H:List Nat),givs H (T.map litIt)=H++T
 | [],H=>by simp [givs]
 | v::T,H=>by
  show givs (giv H (litIt v)) (T.map litIt)=_
  rw [lits_give T,show giv H (litIt v)=H++[v] from rfl,List.append_assoc]; rfl
end
end Go.M

namespace Go.M
open Go
set_option maxRecDepth 100000
section
variable {E:Errs} {src:List Nat} {m:Mem}
theorem joined_W {ax ay:Option Addr} {lx kx bx ox ly ky bY oy:Nat} {X Y:List Nat} (hX:SlcB m ax lx kx bx ox X) (hY:SlcB m ay ly ky bY oy Y) (h1:lx≤1099511627776) (h2:ly≤1099511627776) {K:Option Addr→Nat→Nat→Mem→Prop}
  (hk:∀ m' a' k' b' o',SlcB m' a' (lx+ly) k' b' o' (X++Y)→(∀ S,Fr S m m')→K a' (lx+ly) k' m'):
  SemW PP (sv (Instr.buildSlice t_s_uint8 0 #[])) m (NextW PP fun v14 m15=>∃ (a11:Option Addr),∃ (l12:Nat),∃ (k13:Nat),v14=.slice a11 l12 k13∧SemW PP (builtin .append #[t_s_uint8,t_s_uint8] t_s_uint8 #[false,false] #[.slice a11 l12 k13,.slice ax lx kx]) m15 (NextW PP fun v19 m20=>∃ (a16:Option Addr),∃ (l17:Nat),∃ (k18:Nat),v19=.slice a16 l17 k18∧
   SemW PP (builtin .append #[t_s_uint8,t_s_uint8] t_s_uint8 #[false,false] #[.slice a16 l17 k18,.slice ay ly ky]) m20 (NextW PP fun v24 m25=>∃ (a21:Option Addr),∃ (l22:Nat),∃ (k23:Nat),v24=.slice a21 l22 k23∧K a21 l22 k23 m25))):=by
 refine copied_W hX (by omega) fun m2 a5 k5 b5 o5 hO5 hb5 hb52 _ f2=>?_
 have hT2:=hY.sp (f2 fun _ _=>False) fun _ _=>id
 have hl2:=hY.len
 refine appendB_W (b2:=bY) (o2:=oy) hO5 hl2 (fun hne=>hT2.at_ ?_) (fun i v hv=>?_) (by omega) fun m3 a6 k6 b6 o6 hO6 hb6 f3 _=>⟨_,_,_,rfl,?_⟩
 ·rw [← hl2]; exact List.length_pos_iff.2 hne
 ·have hi:=(List.getElem?_eq_some_iff.1 hv).1
  have:=hT2.data i (by omega)
  rw [List.getD_eq_getElem?_getD,hv] at this
  exact this
 have hby:∀ v ∈ X++Y,v < 256:=fun v hv=>by
  rcases List.mem_append.1 hv with hv | hv
  ·exact hX.byte v hv
  ·exact hY.byte v hv
 exact hk m3 a6 k6 b6 o6 (hO6.slc hby) fun S=>((f2 _).trans f3).old fun x y hx h=>by have:=h.1; omega
theorem last32_tail {t d:List Nat} (h:32768≤d.length):last32 (t++d)=last32 d:=by
 unfold last32
 rw [List.length_append,List.drop_append,show t.length+d.length - 32768 - t.length=d.length - 32768 from by omega,List.drop_eq_nil_of_le (by omega),List.nil_append]
theorem last32_split (d:List Nat):d.take (d.length - 32768)++last32 d=d:=List.take_append_drop _ _
end
end Go.M

namespace Go.M
open Go
set_option maxRecDepth 100000
section
variable {m:Mem}
structure MadeD (m:Mem) (aD:Option Addr) (lD kD bD oD:Nat) (D:List Nat) (a1:Option Addr) (l1 k1 b1 o1:Nat) (src:List Nat) (ch:List (Nat×Nat)) (a2:Option Addr) (l2 k2 b2 o2:Nat) (T:List Nat):Prop where
 dict:SlcB m aD lD kD bD oD D
 row:SlcB m a1 l1 k1 b1 o1 src
 st:StreamOf ch src
 blk:BlkX 0 (last32 D) ch (last32 D++T) true
 len:chLen ch≤1000000
 want:SlcB m a2 l2 k2 b2 o2 T
 size:T.length≤60000
 dsize:D.length≤60000
theorem MadeD.fr {m':Mem} {aD:Option Addr} {lD kD bD oD:Nat} {D:List Nat} {a1:Option Addr} {l1 k1 b1 o1:Nat} {src:List Nat} {ch:List (Nat×Nat)} {a2:Option Addr} {l2 k2 b2 o2:Nat} {T:List Nat} (h:MadeD m aD lD kD bD oD D a1 l1 k1 b1 o1 src ch a2 l2 k2 b2 o2 T) (hf:∀ S,Fr S m m'):MadeD m' aD lD kD bD oD D a1 l1 k1 b1 o1 src ch a2 l2 k2 b2 o2 T:=
 ⟨h.dict.sp (hf fun _ _=>False) fun _ _=>id,h.row.sp (hf fun _ _=>False) fun _ _=>id,h.st,h.blk,h.len,h.want.sp (hf fun _ _=>False) fun _ _=>id,h.size,h.dsize⟩
theorem MadeD.run {aD:Option Addr} {lD kD bD oD:Nat} {D:List Nat} {a1:Option Addr} {l1 k1 b1 o1:Nat} {src:List Nat} {ch:List (Nat×Nat)} {a2:Option Addr} {l2 k2 b2 o2:Nat} {T:List Nat} (h:MadeD m aD lD kD bD oD D a1 l1 k1 b1 o1 src ch a2 l2 k2 b2 o2 T):Runs (scOf src) ⟨0,last32 D,.block⟩ (last32 D++T) .fin (chLen ch):=by
 have:=h.blk.is.run (tail:=[]) h.st.byte h.st.num h.st.len
 rwa [List.append_nil] at this
theorem build3_W {x0 x1 x2:Int} {K:Value→Mem→Prop} (h:K (.slice (some ⟨m.size,0,none⟩) 3 3) (m.push (.cells (([x0,x1,x2]:List Int).map fun z=>Value.int .i64 z).toArray t_int))):
  SemW PP (sv (Instr.buildSlice t_s_int 3 #[(0,.int .i64 x0),(1,.int .i64 x1),(2,.int .i64 x2)])) m (NextW PP K):=Eq.mpr (by kernel_rfl) h
theorem appendS_W {a a2:Option Addr} {l k l2 k2 b o b2 o2:Nat} {d ys:List Nat} {K:Value→Mem→Prop} (hO:Own m a l k 1 (d.map u8V) b o) (hby:∀ v ∈ d++ys,v < 256) (hy:ys.length=l2) (h2:ys≠[]→a2=some ⟨b2,o2,none⟩)
  (hr:∀ i v,ys[i]?=some v→cell? m ⟨b2,o2+i,none⟩=some (u8V v)) (hbig:l+l2≤70368744177664)
  (hk:∀ m' a' k' b' o',SlcB m' a' (l+l2) k' b' o' (d++ys)→((b'=b∧o'=o∧k'=k)∨(b'=m.size∧o'=0))→Fr (fun x _=>x=b∧0 < k) m m'→K (.slice a' (l+l2) k') m'):
  SemW PP (builtin .append #[t_s_uint8,t_s_uint8] t_s_uint8 #[false,false] #[.slice a l k,.slice a2 l2 k2]) m (NextW PP K):=by
 obtain ⟨iu,hi⟩:=one_uint8
 refine append_Q (d2:=.slice t_uint8) u_s_uint8 u_s_uint8 (by intro k h; cases h) hi.info hi.zero (by rw [hi.size]; decide) (by rw [hi.size]; rfl) b o b2 o2 (d.map u8V) (ys.map u8V) (by rw [hi.size]; exact hO) (by rw [hi.size]; simpa using hy) ?_ (fun h=>h2 (by intro e; rw [e] at h; exact h rfl)) ?_ (by rw [hi.bytes]; omega) (by rw [hi.bytes]; decide) ?_
 ·intro v hv
  simp only [List.mem_map] at hv
  obtain ⟨x,_,rfl⟩:=hv
  rfl
 ·intro i v hv
  rw [List.getElem?_map] at hv
  cases hq:ys[i]? with
  | none=>rw [hq] at hv; cases hv
  | some q=>rw [hq] at hv; simp only [Option.map_some,Option.some.injEq] at hv; rw [← hv]; exact hr i q hq
 ·intro m' a' k' b' o' hown hb hf _ _
  rw [hi.size, ← List.map_append] at hown
  have hlen:(d++ys).length=l+l2:=by simpa using hown.len
  refine hk m' a' k' b' o' ⟨hlen,hown.le,fun h0=>hown.at_ (by have:=hown.le; omega),fun i hi=>?_,hby⟩ hb hf
  have hi':i < (d++ys).length:=by omega
  refine hown.row i _ ?_
  rw [List.getElem?_map,List.getElem?_eq_getElem hi',List.getD_eq_getElem?_getD,List.getElem?_eq_getElem hi']; rfl
theorem DictOf_spec {a:Option Addr} {l k b o:Nat} {d:List Nat} (hS:SlcB m a l k b o d) {R:Value→Mem→Prop}
  (hk:∀ m' aD lD kD bD oD D a1 l1 k1 b1 o1 src ch a2 l2 k2 b2 o2 T,MadeD m' aD lD kD bD oD D a1 l1 k1 b1 o1 src ch a2 l2 k2 b2 o2 T→(∀ S,Fr S m m')→R (.tuple #[.slice aD lD kD,.slice a1 l1 k1,.slice a2 l2 k2]) m'):CallM PP f_spec_DictOf #[.slice a l k] m R:=by
 refine e_spec_DictOf a l k m R (newReader_spec hS fun m1 h1 f1 s1=>⟨_,rfl,?_⟩)
 refine data_spec h1 (most:=60) (by decide) (by decide) fun m2 aT lT kT bT oT T0 hT hlT hTb hbT h2 f2=>⟨_,_,_,rfl,?_⟩
 have hTl:=hT.len
 have s2:=f2.size
 have rest:∀ m3 c3 aD lD kD bD oD D,RdM m3 m.size c3→c3≤1000→SlcB m3 aD lD kD bD oD D→lD≤60000→(0 < lD→m.size < bD)→Fr (fun x _=>m.size≤x) m1 m3→
   WPS PP 59 c_spec_DictOf_rrrr (retK PP r_spec_DictOf R) [(0,.slice a l k),(2,.slice none 0 0),(3,.slice none 0 0),(4,.slice none 0 0),(5,.pointer (some ⟨m.size,0,none⟩)),(6,.slice aD lD kD)] m3:=by
  intro m3 c3 aD lD kD bD oD D h3 hc3 hD hlD hbD f13
  have hDl:=hD.len
  have hDb:0 < lD→bD < m3.size:=fun h0=>by have:=cell_block (hD.data 0 h0); simpa using this
  refine WPS.piece [5,6] rfl (p_spec_DictOf_rrrr _ aD lD kD m3 _ (box_writer fun m4 hW f4=>?_))
  have s3:=h3.lo
  have s4:=hW.lo
  have g4:Gen m4 m.size c3 m3.size m3.size []:=⟨h3.fresh f4,hW,s3,s3⟩
  have hD4:=hD.sp (f4 fun _ _=>False) fun _ _=>id
  refine copied_W hD4 (by omega) fun m5 aO kO bO oO hO hbO hbO2 _ f5=>?_
  have g5:=g4.fresh f5
  have s5:=(f5 fun _ _=>False).size
  have hD5:=hD4.sp (f5 fun _ _=>False) fun _ _=>id
  refine pick_spec g5.gen.rd (by omega) (n:=2) (by decide) fun m6 q hq h6 f6=>⟨_,rfl,?_⟩
  have g6:=g5.pick h6 f6
  have s6:=f6.size
  have hO6:=hO.fr f6 fun h0 j=>rs_old (by omega) j
  have hmin:(D.take (lD - 32768)).length=lD - 32768:=by rw [List.length_take]; omega
  have hx5:IntKind.wrap .i64 ((if (32768:Int) < (lD:Int) then 32768 else (lD:Int)) - (lD:Int))= -((D.take (lD - 32768)).length:Int):=by
   rw [hmin]
   split
   ·rw [wrap64_id (by omega) (by omega)]; omega
   ·rw [wrap64_id (by omega) (by omega)]; omega
  have hsp:D.take (lD - 32768)++last32 D=D:=by have:=last32_split D; rwa [hDl] at this
  have hl32:(last32 D).length≤32768:=by rw [last32_len]; omega
  have hq1:IntKind.wrap .i64 (1+(q:Int))=((1+q:Nat):Int):=by rw [wrap64_id (by omega) (by omega)]; omega
  rw [hx5,hq1]
  refine block_spec g6.gen (A:=D.take (lD - 32768)) (H:=last32 D) (by rw [hsp]; exact hO6) (fun h0=>⟨by omega,by omega,by omega⟩) (fun h0=>by omega) (by rw [hsp]; exact hD.byte) (how:=1+q) (most:=30) (by decide) false (by omega) (by omega) (by simp [chLen]) rfl fun m7 b7 pc H7 a7 l7 k7 bo7 o7 hp=>⟨_,_,_,rfl,?_⟩
  have hl7:=hp.out.len
  rw [List.length_append,hmin] at hl7
  have hz7:=hp.size
  have hn7:=hp.len
  have s7:=hp.fr.size
  have mv7:=hp.mv
  refine block_spec hp.gen (A:=D.take (lD - 32768)) (H:=H7) hp.out hp.apart hp.above hp.byte (how:=3) (most:=30) (by decide) true (by omega) (by omega) (by rw [List.nil_append]; omega) rfl fun m8 b8 pc2 H8 a8 l8 k8 bo8 o8 hp2=>⟨_,_,_,rfl,?_⟩
  obtain ⟨a1,l1,k1,o1,src,c1,c2,c3⟩:=WrL.stream hp2.gen.wr
  rw [List.nil_append] at c3
  have hl8:=hp2.out.len
  rw [List.length_append,hmin] at hl8
  have hz8:=hp2.size
  have hn8:=hp2.len
  obtain ⟨T1,hT1⟩:=hp.ext
  obtain ⟨T2,hT2⟩:=hp2.ext
  have hH8:H8=last32 D++(T1++T2):=by rw [hT2,hT1,List.append_assoc]
  have hall:D.take (lD - 32768)++H8=D++(T1++T2):=by rw [hH8, ← List.append_assoc,hsp]
  have hlT8:l8=lD+(T1++T2).length:=by
   have:=hp2.out.len
   rw [hall,List.length_append] at this; omega
  have hcap:=hp2.out.own.le
  have hW:=(hp2.out.slc hp2.byte).dropG (n:=lD) (by omega)
  rw [hall, ← hDl,List.drop_left,hDl] at hW
  refine ⟨a1,l1,k1,c1,hcap,⟨by omega,by omega⟩,?_⟩
  rw [Int.toNat_natCast]
  have off7:0 < k7→m4.size≤bo7:=fun h0=>by rcases hp.mvo h0 with ⟨e,_⟩ | e <;> omega
  have hD8:SlcB m8 aD lD kD bD oD D:=by
   refine ((hD5.sp f6 fun h0 j=>rs_old (by have:=hbD h0; omega) j).sp hp.fr fun h0 j=>?_).sp hp2.fr fun h0 j=>?_
   ·have:=hbD h0
    have:=hDb h0
    rintro ((h | h | h) | ⟨h,_⟩) <;> omega
   ·have:=hbD h0
    have:=hDb h0
    rintro ((h | h | h) | ⟨h,h7⟩)
    ·omega
    ·omega
    ·omega
    ·have:=off7 h7; omega
  have hblk:BlkX 0 (last32 D) (pc++pc2) (last32 D++(T1++T2)) true:=by
   rw [← hH8]
   exact BlkX.append hp.blk (by have:=hp2.blk; rw [List.nil_append] at this; rwa [Nat.zero_add])
  refine hk m8 aD lD kD bD oD D a1 l1 k1 b8 o1 src (pc++pc2) _ _ _ bo8 _ (T1++T2) ⟨hD8,c2,c3,hblk,by rw [chLen_append]; omega,hW,?_,by omega⟩ fun S=>?_
  ·have:=congrArg List.length hH8
   rw [List.length_append] at this
   omega
  ·have F:Fr (fun x _=>m.size≤x) m1 m8:=f13.trans (((f4 _).trans ((f5 _).trans (f6.mono fun x y h=>by unfold RS at h; omega))).trans ((hp.fr.mono fun x y h=>by
    rcases h with (h | h | h) | ⟨h,_⟩ <;> omega).trans (hp2.fr.mono fun x y h=>by
    rcases h with (h | h | h) | ⟨h,h7⟩
    ·omega
    ·omega
    ·omega
    ·have:=off7 h7; omega)))
   exact ((f1 _).trans F).old fun x y hx h=>by omega
 have F2:Fr (fun x _=>m.size≤x) m1 m2:=f2.mono fun x y h=>by unfold RS at h; omega
 refine pick_spec h2 (by decide) (n:=6) (by decide) fun m3 q hq h3 f3=>⟨_,rfl,?_⟩
 have s3:=f3.size
 have F3:Fr (fun x _=>m.size≤x) m1 m3:=F2.trans (f3.mono fun x y h=>by unfold RS at h; omega)
 have hT3:=(hT.slc hTb).sp f3 fun _ j=>rs_old (by omega) j
 refine ifB_of (fun _=>?_) (fun _=>rest m3 _ aT lT kT bT oT T0 h3 (by omega) hT3 (by omega) (fun _=>by omega) F3)
 refine build3_W (oneOf_W (zs:=[32760,32768,33000]) (l:=3) h3 (by omega) rfl (by decide) fun m4 z hz h4 f4=>?_)
 have s4:=f4.size
 have hT4:=hT3.sp f4 fun _ j=>rs_old (by omega) j
 have hz:∃ n:Nat,z=n∧n≤33000:=by
  simp only [List.mem_cons,List.mem_nil_iff,or_false] at hz
  rcases hz with rfl | rfl | rfl
  ·exact ⟨32760,rfl,by decide⟩
  ·exact ⟨32768,rfl,by decide⟩
  ·exact ⟨33000,rfl,by decide⟩
 obtain ⟨n,rfl,hn⟩:=hz
 obtain ⟨iu,hi⟩:=one_uint8
 refine make_W (n:=n) u_s_uint8 hi.info hi.zero rfl hi.size rfl rfl (by rw [hi.bytes]; omega) (by omega) fun m5 own5 f5 s5=>⟨_,_,_,rfl,?_⟩
 have hT5:=hT4.sp (f5 fun _ _=>False) fun _ _=>id
 refine appendS_W (d:=List.replicate n 0) (ys:=T0) (b2:=bT) (o2:=oT) (by rw [List.map_replicate]; exact own5) (fun v hv=>?_) hTl (fun hne=>hT5.at_ ?_) (fun i v hv=>?_) (by omega) fun m6 a6 k6 b6 o6 hS6 hb6 f6=>⟨_,_,_,rfl,?_⟩
 ·rcases List.mem_append.1 hv with hv | hv
  ·rw [(List.mem_replicate.1 hv).2]; decide
  ·exact hTb v hv
 ·rw [← hTl]; exact List.length_pos_iff.2 hne
 ·have hi:=(List.getElem?_eq_some_iff.1 hv).1
  have:=hT5.data i (by omega)
  rw [List.getD_eq_getElem?_getD,hv] at this
  exact this
 ·have h5:=h4.fresh f5
  have s6:=f6.size
  refine rest m6 _ a6 _ k6 b6 o6 _ (h5.fr f6 fun i j hi h=>by have:=h.1; have:=h3.lo; omega) (by omega) hS6 (by omega) (fun _=>?_) ((F3.trans (f4.mono fun x y h=>by unfold RS at h; omega)).trans ((f5 _).trans (f6.mono fun x y h=>by have:=h.1; omega)))
  have:=h3.lo
  rcases hb6 with ⟨h,_⟩ | ⟨h,_⟩ <;> omega
end
end Go.M
