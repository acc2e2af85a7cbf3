/- The random generator: a new one; what a made stream is. The random generator: streams of some blocks. -/
import Derived.Test.YtlgdbjpeklangaaGreatDoorPkze
namespace Go.M
open Go
set_option maxRecDepth 100000
theorem nilB (m:Mem):SlcB m none 0 0 0 0 []:=⟨rfl,Nat.le_refl _,by omega,fun i h=>by omega,by simp⟩
theorem nilT (m:Mem):SlcT m none 0 0 0 0 []:=⟨rfl,Nat.le_refl _,by omega,fun i x h=>by simp at h⟩
structure MadeS (m:Mem) (fin:Bool) (a1:Option Addr) (l1 k1 b1 o1:Nat) (src:List Nat) (ch:List (Nat×Nat)) (a2:Option Addr) (l2 k2 b2 o2:Nat) (H:List Nat):Prop where
 row:SlcB m a1 l1 k1 b1 o1 src
 st:StreamOf ch src
 blk:BlkX 0 [] ch H fin
 len:chLen ch≤1000000
 want:SlcB m a2 l2 k2 b2 o2 H
 size:H.length≤131072
 small:H.length≤60000
theorem MadeS.fr {m m':Mem} {fin:Bool} {a1:Option Addr} {l1 k1 b1 o1:Nat} {src:List Nat} {ch:List (Nat×Nat)} {a2:Option Addr} {l2 k2 b2 o2:Nat} {H:List Nat} (h:MadeS m fin a1 l1 k1 b1 o1 src ch a2 l2 k2 b2 o2 H) (hf:∀ S,Fr S m m'):MadeS m' fin a1 l1 k1 b1 o1 src ch a2 l2 k2 b2 o2 H:=
 ⟨h.row.sp (hf fun _ _=>False) fun _ _=>id,h.st,h.blk,h.len,h.want.sp (hf fun _ _=>False) fun _ _=>id,h.size,h.small⟩
theorem box_rd {v1 v2:Value} {m:Mem} {K:Nat→Mem→Prop} (h:K m.size (m.push (.cells #[v1,v2] t_spec_reader))):BoxW t_spec_reader (.agg #[v1,v2]) m K:=h
section
variable {m:Mem} {r c:Nat}
theorem newReader_spec {a:Option Addr} {l k b o:Nat} {d:List Nat} (hS:SlcB m a l k b o d) {R:Value→Mem→Prop} (hk:∀ m',RdM m' m.size 0→(∀ S,Fr S m m')→m'.size=m.size+1→R (.pointer (some ⟨m.size,0,none⟩)) m'):CallM PP f_spec_newReader #[.slice a l k] m R:=by
 have hcap:=hS.cap
 have e:(if (3000:Int) < (l:Int) then (3000:Int) else (l:Int))=((min l 3000:Nat):Int):=by split <;> omega
 refine e_spec_newReader a l k m R ⟨hcap,?_,?_⟩
 ·rw [e]; exact ⟨by omega,by omega⟩
 ·rw [e,Int.toNat_natCast]
  refine box_rd ?_
  have f1:∀ S,Fr S m (m.push (.cells #[.slice a (min l 3000) k,.int .i64 0] t_spec_reader)):=fun S=>Fr.push _
  have hS1:=(hS.take (n:=min l 3000) (by omega)).sp (f1 fun _ _=>False) fun _ _=>id
  refine hk _ ⟨⟨a,min l 3000,k,b,o,_,cell_new rfl,hS1,by omega,fun h0=>?_⟩,⟨0,Nat.le_refl _,cell_new rfl⟩,wr_new (by simp)⟩ f1 (Array.size_push ..)
  have:=cell_block (hS.data 0 (by omega))
  simpa using this
end
end Go.M

namespace Go.M
open Go
set_option maxRecDepth 100000
def GenOf (m:Mem) (fin:Bool) (S:Nat→Nat→Prop) (R:Value→Mem→Prop):Prop:=
 ∀ m' a1 l1 k1 b1 o1 src ch a2 l2 k2 b2 o2 H,MadeS m' fin a1 l1 k1 b1 o1 src ch a2 l2 k2 b2 o2 H→Fr S m m'→R (.tuple #[.slice a1 l1 k1,.slice a2 l2 k2]) m'
section
variable {m:Mem} {r c:Nat}
theorem stream_spec (h:RdM m r c) {how blocks most:Nat} (hbl:0 < blocks) (hbl2:blocks≤7) (hm:most≤30) (hc:c+200000 < 1099511627776) {R:Value→Mem→Prop} (hk:GenOf m true (RS r) R):
  CallM PP f_reader_stream #[.pointer (some ⟨r,0,none⟩),.int .i64 (how:Int),.int .i64 (blocks:Int),.int .i64 (most:Int)] m R:=by
 have hr:=h.lo
 refine e_reader_stream r how blocks most m R (box_writer fun m1 hW f1=>?_)
 have s1:=hW.lo
 refine pick_spec (h.fresh f1) (by omega) hbl fun m2 n hn h2 f2=>⟨_,rfl,?_⟩
 have g2:Gen m2 r (c+1) m.size m.size []:=⟨h2,WrM.fr hW f2 (fun j=>rs_old hr j) (fun j=>rs_old hr j),hr,hr⟩
 have F2:Fr (RN r m.size) m m2:=(f1 _).trans (f2.mono fun _ _ h=>.inl h)
 rw [q_reader_stream_rrrlrl]
 refine loopW ffOk mixedOk (L₀:=L_reader_stream) (σ:=Nat×Option Addr×Nat×Nat×Nat×Nat×Nat×List (Nat×Nat)×List Nat) [0,1,3,10,11,12]
  (fun s=>[(0,.pointer (some ⟨r,0,none⟩)),(1,.int .i64 (how:Int)),(3,.int .i64 (most:Int)),(10,.pointer (some ⟨m.size,0,none⟩)),(11,.slice s.2.1 s.2.2.1 s.2.2.2.1),(12,.int .i64 (s.1:Nat))])
  (fun s m'=>s.1≤n∧OutB m' s.2.1 s.2.2.1 s.2.2.2.1 s.2.2.2.2.1 s.2.2.2.2.2.1 s.2.2.2.2.2.2.2.2∧Gen m' r (c+1+10000 * (n - s.1)) m.size s.2.2.2.2.2.2.1 s.2.2.2.2.2.2.2.1∧BlkX 0 [] s.2.2.2.2.2.2.2.1 s.2.2.2.2.2.2.2.2 false∧
   (0 < s.2.2.2.1→Out3 s.2.2.2.2.1 r m.size s.2.2.2.2.2.2.1∧m.size≤s.2.2.2.2.1)∧m.size≤s.2.2.2.2.2.2.1∧(∀ v ∈ s.2.2.2.2.2.2.2.2,v < 256)∧s.2.2.2.2.2.2.2.2.length≤7740 * (n - s.1)∧chLen s.2.2.2.2.2.2.2.1≤10000 * (n - s.1)∧Fr (RN r m.size) m m')
  (fun s=>s.1) (n,none,0,0,0,0,m.size,[],[]) rfl ⟨Nat.le_refl _,OutB.nil _ _,by simpa using g2,BlkX.nil _ _,by simp,Nat.le_refl _,by simp,by simp,by simp [chLen],F2⟩ ?_
 rintro ⟨i,a,l,k,bo,o,b,ch,H⟩ m3 ⟨hi,hO,g3,hB,hbo,hbm,hby,hHl,hcl,F3⟩
 simp only at hi hO g3 hB hbo hbm hby hHl hcl
 have hlen:=hO.len
 refine p_reader_stream_rrrlrll r how most _ a l k i m3 _ ?_
 have hsz:=F3.size
 have old:∀ {m':Mem},Fr (fun x _=>GS r m.size b x 0∨(x=bo∧0 < k)) m3 m'→Fr (RN r m.size) m m':=fun f=>F3.trans (f.mono fun x _ hx=>by
  rcases hx with (hx | hx | hx) | ⟨hx,h0⟩
  ·exact .inl hx
  ·exact .inr (by omega)
  ·exact .inr (by omega)
  ·have:=(hbo h0).2; exact .inr (by omega))
 cases i with
 | zero=>
  rw [decide_eq_false (by omega)]
  refine ifB_f (WPS.piece [0,1,3,10,11] rfl (p_reader_stream_rrrr r how most _ a l k m3 _ ?_))
  refine block_spec g3 (A:=[]) (H:=H) (by simpa using hO) (fun h0=>(hbo h0).1) (fun h0=>by have:=(hbo h0).2; omega) (by simpa using hby) (how:=how) (most:=most) (by omega) true (by omega) (by omega) (by omega) (by simp) fun m4 b4 pc H' a' l' k' bo' o' hp=>⟨_,_,_,rfl,?_⟩
  obtain ⟨a1,l1,k1,o1,src,c1,c2,c3⟩:=WrL.stream hp.gen.wr
  refine ⟨a1,l1,k1,c1,?_⟩
  have hbl:=hB.append (by have:=hp.blk; rwa [Nat.zero_add])
  have hO4:OutB m4 a' l' k' bo' o' H':=by simpa using hp.out
  have hsize:=hp.size
  have hplen:=hp.len
  refine hk m4 a1 l1 k1 b4 o1 src _ a' l' k' bo' o' H' ⟨c2,c3,hbl,?_,hO4.slc (by simpa using hp.byte),?_,?_⟩ (old hp.fr).rn
  ·rw [chLen_append]; omega
  ·omega
  ·omega
 | succ i=>
  rw [decide_eq_true (by omega)]
  refine ifB_t (block_spec g3 (A:=[]) (H:=H) (by simpa using hO) (fun h0=>(hbo h0).1) (fun h0=>by have:=(hbo h0).2; omega) (by simpa using hby) (how:=how) (most:=most) (by omega) false (by omega) (by omega) (by omega) (by simp) fun m4 b4 pc H' a' l' k' bo' o' hp=>⟨_,_,_,rfl,?_⟩)
  rw [wrap_pred (by omega)]
  have hsize:=hp.size
  have hplen:=hp.len
  have hmv:=hp.mv
  refine ⟨(i,a',l',k',bo',o',b4,ch++pc,H'),rfl,⟨by simp only; omega,by simpa using hp.out,?_,hB.append (by have:=hp.blk; rwa [Nat.zero_add]),fun h0=>⟨hp.apart h0,?_⟩,by simp only; omega,by simpa using hp.byte,by simp only; omega,by simp only; rw [chLen_append]; omega,old hp.fr⟩,by simp only; omega⟩
  ·have hg:=hp.gen
   exact ⟨hg.rd.mono (by simp only; omega),hg.wr,hg.rw,hg.rb⟩
  ·simp only
   rcases hp.mvo h0 with ⟨h1,h2⟩ | h1
   ·have:=(hbo h2).2; omega
   ·omega
theorem MixedOf_spec {a:Option Addr} {l k b o:Nat} {d:List Nat} (hS:SlcB m a l k b o d) {R:Value→Mem→Prop} (hk:GenOf m true (fun _ _=>False) R):CallM PP f_spec_MixedOf #[.slice a l k] m R:=by
 refine e_spec_MixedOf a l k m R (newReader_spec hS fun m1 h1 f1 s1=>⟨_,rfl,?_⟩)
 refine stream_spec h1 (how:=3) (blocks:=6) (most:=30) (by decide) (by decide) (by decide) (by decide) fun m2 a1 l1 k1 b1 o1 src ch a2 l2 k2 b2 o2 H hM f2=>⟨_,_,_,_,_,_,rfl,?_⟩
 exact hk m2 a1 l1 k1 b1 o1 src ch a2 l2 k2 b2 o2 H hM (((f1 _).trans f2).old fun x y hx h=>by
  unfold RS at h; omega)
end
end Go.M
