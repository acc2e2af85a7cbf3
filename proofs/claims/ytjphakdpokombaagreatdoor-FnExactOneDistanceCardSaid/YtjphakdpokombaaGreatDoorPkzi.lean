/- A written stream of one block in which nothing is left open: the reference tells it as whole. -/
import Derived.Test.YtjphakdpokombaaGreatDoorPkw
import Derived.Test.YtjphakdpokombaaGreatDoorPkzf
import Derived.Test.YtjphakdpokombaaGreatDoorPkzc
namespace Go.M
open Go
set_option maxRecDepth 100000
theorem MadeS.run {m:Mem} {a1:Option Addr} {l1 k1 b1 o1:Nat} {src:List Nat} {ch:List (Nat×Nat)} {a2:Option Addr} {l2 k2 b2 o2:Nat} {H:List Nat} (h:MadeS m true a1 l1 k1 b1 o1 src ch a2 l2 k2 b2 o2 H):Runs (scOf src) ⟨0,[],.block⟩ H .fin (chLen ch):=by
 have:=h.blk.is.run (tail:=[]) h.st.byte h.st.num h.st.len
 rwa [List.append_nil] at this
theorem SpecOk.whole {m:Mem} {a1:Option Addr} {l1 k1 b1 o1:Nat} {src:List Nat} {ch:List (Nat×Nat)} {a2:Option Addr} {l2 k2 b2 o2:Nat} {H out:List Nat} {z:Int} {u:Nat} (hok:SpecOk src [] out z u) (h:MadeS m true a1 l1 k1 b1 o1 src ch a2 l2 k2 b2 o2 H) (hN:BlkN 0 [] ch):z=1∧out=H:=by
 have hr:=h.run
 have hlen:=h.st.len
 have hA:At (num src) 0 ch:=at_stream h.blk.is.1 (by rw [h.st.num,Nat.mod_eq_of_lt (chVal_lt h.blk.is.1)])
 have hP:Pl (scOf src) ⟨0,[],.block⟩:=hN (scOf src) rfl rfl hA (by show _≤8 * src.length; omega)
 have hno:=hP.odd hr
 have hle:=hok.le
 obtain ⟨_,h0,p,_,_,hG⟩:=hok
 rcases show z=0∨z=1∨z=2∨z=3∨z=4 by omega with rfl | rfl | rfl | rfl | rfl
 ·exact absurd (hG.odd rfl) hno
 ·exact ⟨rfl,((hG.fine rfl).det hr).1⟩
 ·obtain ⟨Hf,er,pf,g1,g2,_⟩:=hG.wrong rfl
  exact absurd (g1.det hr).2.1 g2
 ·obtain ⟨Hf,pf,g1,_⟩:=hG.short rfl
  have:=(g1.det hr).2.1
  cases this
 ·obtain ⟨Hf,er,pf,g1,g2⟩:=hG.long rfl
  obtain ⟨k1,k2,_⟩:=g1.det hr
  rcases g2 with g2 | g2
  ·exact absurd k2 g2
  ·have:=h.small
   rw [k1] at g2; omega
end Go.M
