/- What pieces of the code come to. -/
import Derived.Test.YtjphakdpokombaaGreatDoorPke
set_option maxRecDepth 100000
namespace Go.M
open Go Go.Proofs
def L_decompressor_huffSym:List Nat:=[0,1,4,5,6,7,8,9,10,11,27,37,75,98,100]
def r_decompressor_huffSym:List ResultVar:=[.tmp 4,.tmp 5]
noncomputable def c_decompressor_huffSym:Code:=(Go.Proofs.Tryz.f81.body).getD .skip
theorem b_decompressor_huffSym:Go.Proofs.Tryz.f81.body=some c_decompressor_huffSym:=by kernel_rfl
noncomputable def c_decompressor_huffSym_rrrl:Code:=(lft (rgt (rgt (rgt c_decompressor_huffSym))))
noncomputable def c_decompressor_huffSym_rrrll:Code:=(lft c_decompressor_huffSym_rrrl)
noncomputable def c_decompressor_huffSym_rrrlllr:Code:=(rgt (lft c_decompressor_huffSym_rrrll))
noncomputable def c_decompressor_huffSym_rrrlllll:Code:=(lft (lft (lft c_decompressor_huffSym_rrrll)))
noncomputable def c_decompressor_huffSym_rrrllllll:Code:=(lft c_decompressor_huffSym_rrrlllll)
noncomputable def c_decompressor_huffSym_rrrlllrrrr:Code:=(rgt (rgt (rgt c_decompressor_huffSym_rrrlllr)))
theorem q_decompressor_huffSym_rrrl:c_decompressor_huffSym_rrrl=.loop c_decompressor_huffSym_rrrll:=by kernel_rfl
theorem q_decompressor_huffSym_rrrlllll:c_decompressor_huffSym_rrrlllll=.loop c_decompressor_huffSym_rrrllllll:=by kernel_rfl
theorem e_decompressor_huffSym (f:Nat) (p1:Option Addr) (m:Mem) (R:Value→Mem→Prop)
  (h:onSome p1 fun p2=>∃ x3,cell? m p2=some (.int .i64 x3)∧∃ x4,cell? m ⟨f,4,none⟩=some (.int .u64 x4)∧∃ x5,cell? m ⟨f,3,none⟩=some (.int .u32 x5)∧WPS PP 137 c_decompressor_huffSym_rrrl ((retK PP r_decompressor_huffSym R).withX 0) [(0,.pointer (some ⟨f,0,none⟩)),(1,.pointer p1),(4,.int .i64 0),(5,.nilIface),(6,.int .u64 (IntKind.wrap .u64 x3)),(7,.int .u64 x4),(8,.int .u32 x5)] m):
  CallM PP f_decompressor_huffSym #[.pointer (some ⟨f,0,none⟩),.pointer p1] m R:=
 callM_enter ffOk mixedOk 137 L_decompressor_huffSym Tryz.func81 b_decompressor_huffSym Tryz.ntmps81 (by simp) (Eq.mpr (by kernel_rfl) h)
theorem p_decompressor_huffSym_rrrll (f:Nat) (p1:Option Addr) (x2:Int) (x3:Int) (x4:Int) (m:Mem) (K:Kont)
  (h:WPS PP 137 c_decompressor_huffSym_rrrlllll (((K.withX 1).withN fun r m=>WPS PP 137 c_decompressor_huffSym_rrrlllr (K.withX 1) r m).withX 2) [(0,.pointer (some ⟨f,0,none⟩)),(1,.pointer p1),(6,.int .u64 x2),(7,.int .u64 x3),(8,.int .u32 x4)] m):
  wpc PP FF 137 L_decompressor_huffSym c_decompressor_huffSym_rrrll K [(0,.pointer (some ⟨f,0,none⟩)),(1,.pointer p1),(6,.int .u64 x2),(7,.int .u64 x3),(8,.int .u32 x4)] m:=
 Eq.mpr (by kernel_rfl) h
theorem p_decompressor_huffSym_rrrllllll (f:Nat) (p1:Option Addr) (x2:Int) (x3:Int) (x4:Int) (m:Mem) (K:Kont)
  (h:ifB (decide (x3 < x2)) (∃ v5,cell? m ⟨f,0,none⟩=some (v5)∧SemW PP (callMethod v5 "ReadByte" #[]) m (NextW PP fun v8 m9=>∃ x6 v7,v8=.tuple #[.int .u8 x6,v7]∧isIfc v7=true∧ifB (!(isNil v7)) (StW m9 ⟨f,3,none⟩ (.int .u32 x4) fun m10=>StW m10 ⟨f,4,none⟩ (.int .u64 x3) fun m11=>CallM PP f_inflate_noEOF #[v7] m11 fun v13 m14=>∃ v12,v13=v12∧K.kr [(0,.pointer (some ⟨f,0,none⟩)),(1,.pointer p1),(4,.int .i64 0),(5,v12),(6,.int .u64 x2),(7,.int .u64 x3),(8,.int .u32 x4),(9,.int .u8 x6),(10,v7)] m14) (∃ x15,cell? m9 ⟨f,2,none⟩=some (.int .i64 x15)∧StW m9 ⟨f,2,none⟩ (.int .i64 (IntKind.wrap .i64 (x15+1))) fun m16=>IntKind.u64=IntKind.u64∧0≤(bitsOp .and .u64 x3 31)∧IntKind.u32=IntKind.u32∧K.kn [(0,.pointer (some ⟨f,0,none⟩)),(1,.pointer p1),(6,.int .u64 x2),(7,.int .u64 (IntKind.wrap .u64 (x3+8))),(8,.int .u32 (bitsOp .or .u32 x4 (shlOp .u32 (IntKind.wrap .u32 x6) (bitsOp .and .u64 x3 31)))),(9,.int .u8 x6),(10,v7)] m16))) (K.kx 2 [(0,.pointer (some ⟨f,0,none⟩)),(1,.pointer p1),(6,.int .u64 x2),(7,.int .u64 x3),(8,.int .u32 x4)] m)):
  wpc PP FF 137 L_decompressor_huffSym c_decompressor_huffSym_rrrllllll K [(0,.pointer (some ⟨f,0,none⟩)),(1,.pointer p1),(6,.int .u64 x2),(7,.int .u64 x3),(8,.int .u32 x4)] m:=
 Eq.mpr (by kernel_rfl) h
def k_decompressor_huffSym_rrrlllr:List Nat:=[0,1,7,8]
theorem p_decompressor_huffSym_rrrlllr (f:Nat) (p1:Option Addr) (x2:Int) (x3:Int) (m:Mem) (K:Kont)
  (h:IntKind.u32=IntKind.u32∧onSome p1 fun p4=>(0≤(bitsOp .and .u32 x3 511)∧(bitsOp .and .u32 x3 511) < ((512:Nat):Int))∧∃ x5,cell? m ⟨p4.block,p4.off+1+((bitsOp .and .u32 x3 511).toNat),none⟩=some (.int .u32 x5)∧IntKind.u32=IntKind.u32∧ifB (decide ((IntKind.wrap .u64 (bitsOp .and .u32 x5 15)) > 9)) (onSome p1 fun p6=>∃ a7 l8 k9,cell? m ⟨p6.block,p6.off+513,none⟩=some (.slice a7 l8 k9)∧0≤(4:Int)∧onSome a7 fun p10=>(0≤(shrOp .u32 x5 4)∧(shrOp .u32 x5 4) < (l8:Int))∧∃ a11 l12 k13,cell? m (aplus p10 ((shrOp .u32 x5 4).toNat))=some (.slice a11 l12 k13)∧0≤(9:Int)∧onSome p1 fun p14=>∃ x15,cell? m ⟨p14.block,p14.off+514,none⟩=some (.int .u32 x15)∧IntKind.u32=IntKind.u32∧onSome a11 fun p16=>(0≤(bitsOp .and .u32 (shrOp .u32 x3 9) x15)∧(bitsOp .and .u32 (shrOp .u32 x3 9) x15) < (l12:Int))∧∃ x17,cell? m (aplus p16 ((bitsOp .and .u32 (shrOp .u32 x3 9) x15).toNat))=some (.int .u32 x17)∧IntKind.u32=IntKind.u32∧WPS PP 137 c_decompressor_huffSym_rrrlllrrrr K [(0,.pointer (some ⟨f,0,none⟩)),(1,.pointer p1),(6,.int .u64 (IntKind.wrap .u64 (bitsOp .and .u32 x17 15))),(7,.int .u64 x2),(8,.int .u32 x3),(11,.int .u32 x17)] m) (WPS PP 137 c_decompressor_huffSym_rrrlllrrrr K [(0,.pointer (some ⟨f,0,none⟩)),(1,.pointer p1),(6,.int .u64 (IntKind.wrap .u64 (bitsOp .and .u32 x5 15))),(7,.int .u64 x2),(8,.int .u32 x3),(11,.int .u32 x5)] m)):
  wpc PP FF 137 L_decompressor_huffSym c_decompressor_huffSym_rrrlllr K [(0,.pointer (some ⟨f,0,none⟩)),(1,.pointer p1),(7,.int .u64 x2),(8,.int .u32 x3)] m:=
 Eq.mpr (by kernel_rfl) h
def k_decompressor_huffSym_rrrlllrrrr:List Nat:=[0,1,6,7,8,11]
theorem p_decompressor_huffSym_rrrlllrrrr (f:Nat) (p1:Option Addr) (x2:Int) (x3:Int) (x4:Int) (x5:Int) (m:Mem) (K:Kont)
  (h:ifB (decide (x2≤x3)) (ifB (x2 == 0) (StW m ⟨f,3,none⟩ (.int .u32 x4) fun m6=>StW m6 ⟨f,4,none⟩ (.int .u64 x3) fun m7=>∃ x8,cell? m7 ⟨f,2,none⟩=some (.int .i64 x8)∧StW m7 ⟨f,1048,none⟩ (.iface t_flate_CorruptInputError (.int .i64 x8)) fun m9=>∃ v10,cell? m9 ⟨f,1048,none⟩=some (v10)∧K.kr [(0,.pointer (some ⟨f,0,none⟩)),(1,.pointer p1),(4,.int .i64 0),(5,v10),(6,.int .u64 x2),(7,.int .u64 x3),(8,.int .u32 x4),(11,.int .u32 x5)] m9) (IntKind.u64=IntKind.u64∧0≤(bitsOp .and .u64 x2 31)∧StW m ⟨f,3,none⟩ (.int .u32 (shrOp .u32 x4 (bitsOp .and .u64 x2 31))) fun m11=>StW m11 ⟨f,4,none⟩ (.int .u64 (IntKind.wrap .u64 (x3 - x2))) fun m12=>0≤(4:Int)∧K.kr [(0,.pointer (some ⟨f,0,none⟩)),(1,.pointer p1),(4,.int .i64 (IntKind.wrap .i64 (shrOp .u32 x5 4))),(5,.nilIface),(6,.int .u64 x2),(7,.int .u64 x3),(8,.int .u32 x4),(11,.int .u32 x5)] m12)) (K.kn [(0,.pointer (some ⟨f,0,none⟩)),(1,.pointer p1),(6,.int .u64 x2),(7,.int .u64 x3),(8,.int .u32 x4),(11,.int .u32 x5)] m)):
  wpc PP FF 137 L_decompressor_huffSym c_decompressor_huffSym_rrrlllrrrr K [(0,.pointer (some ⟨f,0,none⟩)),(1,.pointer p1),(6,.int .u64 x2),(7,.int .u64 x3),(8,.int .u32 x4),(11,.int .u32 x5)] m:=
 Eq.mpr (by kernel_rfl) h
def L_dictDecoder_writeByte:List Nat:=[0,1]
def r_dictDecoder_writeByte:List ResultVar:=[]
noncomputable def c_dictDecoder_writeByte:Code:=(Go.Proofs.Tryz.f82.body).getD .skip
theorem b_dictDecoder_writeByte:Go.Proofs.Tryz.f82.body=some c_dictDecoder_writeByte:=by kernel_rfl
theorem e_dictDecoder_writeByte (f:Nat) (x1:Int) (m:Mem) (R:Value→Mem→Prop)
  (h:∃ a2 l3 k4,cell? m ⟨f,1037,none⟩=some (.slice a2 l3 k4)∧∃ x5,cell? m ⟨f,1038,none⟩=some (.int .i64 x5)∧onSome a2 fun p6=>(0≤x5∧x5 < (l3:Int))∧StW m (aplus p6 x5.toNat) (.int .u8 x1) fun m7=>∃ x8,cell? m7 ⟨f,1038,none⟩=some (.int .i64 x8)∧StW m7 ⟨f,1038,none⟩ (.int .i64 (IntKind.wrap .i64 (x8+1))) fun m9=>R (.tuple #[]) m9):
  CallM PP f_dictDecoder_writeByte #[.pointer (some ⟨f,1037,none⟩),.int .u8 x1] m R:=
 callM_enter ffOk mixedOk 21 L_dictDecoder_writeByte Tryz.func82 b_dictDecoder_writeByte Tryz.ntmps82 (by simp) (Eq.mpr (by kernel_rfl) h)
def L_dictDecoder_availWrite:List Nat:=[0,2]
def r_dictDecoder_availWrite:List ResultVar:=[.tmp 2]
noncomputable def c_dictDecoder_availWrite:Code:=(Go.Proofs.Tryz.f83.body).getD .skip
theorem b_dictDecoder_availWrite:Go.Proofs.Tryz.f83.body=some c_dictDecoder_availWrite:=by kernel_rfl
theorem e_dictDecoder_availWrite (f:Nat) (m:Mem) (R:Value→Mem→Prop)
  (h:∃ a1 l2 k3,cell? m ⟨f,1037,none⟩=some (.slice a1 l2 k3)∧∃ x4,cell? m ⟨f,1038,none⟩=some (.int .i64 x4)∧R (.int .i64 (IntKind.wrap .i64 ((l2:Int) - x4))) m  ):
  CallM PP f_dictDecoder_availWrite #[.pointer (some ⟨f,1037,none⟩)] m R:=
 callM_enter ffOk mixedOk 13 L_dictDecoder_availWrite Tryz.func83 b_dictDecoder_availWrite Tryz.ntmps83 (by simp) (Eq.mpr (by kernel_rfl) h)
def L_bits_Reverse8:List Nat:=[0,2]
def r_bits_Reverse8:List ResultVar:=[.tmp 2]
noncomputable def c_bits_Reverse8:Code:=(Go.Proofs.Tryz.f84.body).getD .skip
theorem b_bits_Reverse8:Go.Proofs.Tryz.f84.body=some c_bits_Reverse8:=by kernel_rfl
theorem e_bits_Reverse8 (x1:Int) (m:Mem) (R:Value→Mem→Prop)
  (h:PureW PP (Instr.index t_string (.string rev8) (.int .u8 x1)) fun u3=>∃ x2,u3=.int .u8 x2∧R (.int .u8 x2) m):
  CallM PP f_bits_Reverse8 #[.int .u8 x1] m R:=
 callM_enter ffOk mixedOk 5 L_bits_Reverse8 Tryz.func84 b_bits_Reverse8 Tryz.ntmps84 (by simp) (Eq.mpr (by kernel_rfl) h)
def L_dictDecoder_histSize:List Nat:=[0,2,6]
def r_dictDecoder_histSize:List ResultVar:=[.tmp 2]
noncomputable def c_dictDecoder_histSize:Code:=(Go.Proofs.Tryz.f85.body).getD .skip
theorem b_dictDecoder_histSize:Go.Proofs.Tryz.f85.body=some c_dictDecoder_histSize:=by kernel_rfl
theorem e_dictDecoder_histSize (f:Nat) (m:Mem) (R:Value→Mem→Prop)
  (h:∃ b1,cell? m ⟨f,1040,none⟩=some (.bool b1)∧ifB b1 (∃ a2 l3 k4,cell? m ⟨f,1037,none⟩=some (.slice a2 l3 k4)∧R (.int .i64 (l3:Int)) m) (∃ x5,cell? m ⟨f,1038,none⟩=some (.int .i64 x5)∧R (.int .i64 x5) m)  ):
  CallM PP f_dictDecoder_histSize #[.pointer (some ⟨f,1037,none⟩)] m R:=
 callM_enter ffOk mixedOk 16 L_dictDecoder_histSize Tryz.func85 b_dictDecoder_histSize Tryz.ntmps85 (by simp) (Eq.mpr (by kernel_rfl) h)
def L_dictDecoder_tryWriteCopy:List Nat:=[0,1,2,6,7,8,9,10,29,36]
def r_dictDecoder_tryWriteCopy:List ResultVar:=[.tmp 6]
noncomputable def c_dictDecoder_tryWriteCopy:Code:=(Go.Proofs.Tryz.f86.body).getD .skip
theorem b_dictDecoder_tryWriteCopy:Go.Proofs.Tryz.f86.body=some c_dictDecoder_tryWriteCopy:=by kernel_rfl
noncomputable def c_dictDecoder_tryWriteCopy_rrrrrrr:Code:=(rgt (rgt (rgt (rgt (rgt (rgt (rgt c_dictDecoder_tryWriteCopy)))))))
noncomputable def c_dictDecoder_tryWriteCopy_rrrrrrll:Code:=(lft (lft (rgt (rgt (rgt (rgt (rgt (rgt c_dictDecoder_tryWriteCopy))))))))
noncomputable def c_dictDecoder_tryWriteCopy_rrrrrrlll:Code:=(lft c_dictDecoder_tryWriteCopy_rrrrrrll)
theorem q_dictDecoder_tryWriteCopy_rrrrrrll:c_dictDecoder_tryWriteCopy_rrrrrrll=.loop c_dictDecoder_tryWriteCopy_rrrrrrlll:=by kernel_rfl
theorem e_dictDecoder_tryWriteCopy (f:Nat) (x1:Int) (x2:Int) (m:Mem) (R:Value→Mem→Prop)
  (h:∃ x3,cell? m ⟨f,1038,none⟩=some (.int .i64 x3)∧ifB (decide (x3 < x1)) (R (.int .i64 0) m) (∃ a4 l5 k6,cell? m ⟨f,1037,none⟩=some (.slice a4 l5 k6)∧ifB (decide ((IntKind.wrap .i64 (x3+x2)) > (l5:Int))) (R (.int .i64 0) m) (WPS PP 61 c_dictDecoder_tryWriteCopy_rrrrrrll (((retK PP r_dictDecoder_tryWriteCopy R).withN fun r m=>WPS PP 61 c_dictDecoder_tryWriteCopy_rrrrrrr (retK PP r_dictDecoder_tryWriteCopy R) r m).withX 0) [(0,.pointer (some ⟨f,1037,none⟩)),(1,.int .i64 x1),(2,.int .i64 x2),(6,.int .i64 0),(7,.int .i64 x3),(8,.int .i64 (IntKind.wrap .i64 (x3+x2))),(9,.int .i64 x3),(10,.int .i64 (IntKind.wrap .i64 (x3 - x1)))] m))):
  CallM PP f_dictDecoder_tryWriteCopy #[.pointer (some ⟨f,1037,none⟩),.int .i64 x1,.int .i64 x2] m R:=
 callM_enter ffOk mixedOk 61 L_dictDecoder_tryWriteCopy Tryz.func86 b_dictDecoder_tryWriteCopy Tryz.ntmps86 (by simp) (Eq.mpr (by kernel_rfl) h)
def k_dictDecoder_tryWriteCopy_rrrrrrr:List Nat:=[0,7,9]
theorem p_dictDecoder_tryWriteCopy_rrrrrrr (f:Nat) (x1:Int) (x2:Int) (m:Mem) (K:Kont)
  (h:StW m ⟨f,1038,none⟩ (.int .i64 x1) fun m3=>K.kr [(0,.pointer (some ⟨f,1037,none⟩)),(6,.int .i64 (IntKind.wrap .i64 (x1 - x2))),(7,.int .i64 x1),(9,.int .i64 x2)] m3):
  wpc PP FF 61 L_dictDecoder_tryWriteCopy c_dictDecoder_tryWriteCopy_rrrrrrr K [(0,.pointer (some ⟨f,1037,none⟩)),(7,.int .i64 x1),(9,.int .i64 x2)] m:=
 Eq.mpr (by kernel_rfl) h
theorem p_dictDecoder_tryWriteCopy_rrrrrrlll (f:Nat) (x1:Int) (x2:Int) (x3:Int) (x4:Int) (m:Mem) (K:Kont)
  (h:ifB (decide (x1 < x2)) (∃ a5 l6 k7,cell? m ⟨f,1037,none⟩=some (.slice a5 l6 k7)∧l6≤k7∧(0≤x2∧x2≤(k7:Int))∧(0≤x1∧x1≤x2)∧∃ a8 l9 k10,cell? m ⟨f,1037,none⟩=some (.slice a8 l9 k10)∧l9≤k10∧(0≤x1∧x1≤(k10:Int))∧(0≤x4∧x4≤x1)∧SemW PP (builtin .copy #[t_s_uint8,t_s_uint8] t_int #[false,false] #[.slice (subA a5 x1.toNat 1 k7) (x2.toNat - x1.toNat) (k7 - x1.toNat),.slice (subA a8 x4.toNat 1 k10) (x1.toNat - x4.toNat) (k10 - x4.toNat)]) m (NextW PP fun v12 m13=>∃ x11,v12=.int .i64 x11∧K.kn [(0,.pointer (some ⟨f,1037,none⟩)),(7,.int .i64 (IntKind.wrap .i64 (x1+x11))),(8,.int .i64 x2),(9,.int .i64 x3),(10,.int .i64 x4)] m13)) (K.kx 0 [(0,.pointer (some ⟨f,1037,none⟩)),(7,.int .i64 x1),(8,.int .i64 x2),(9,.int .i64 x3),(10,.int .i64 x4)] m)):
  wpc PP FF 61 L_dictDecoder_tryWriteCopy c_dictDecoder_tryWriteCopy_rrrrrrlll K [(0,.pointer (some ⟨f,1037,none⟩)),(7,.int .i64 x1),(8,.int .i64 x2),(9,.int .i64 x3),(10,.int .i64 x4)] m:=
 Eq.mpr (by kernel_rfl) h
def L_dictDecoder_writeCopy:List Nat:=[0,1,2,6,7,8,9,10,29,55]
def r_dictDecoder_writeCopy:List ResultVar:=[.tmp 6]
noncomputable def c_dictDecoder_writeCopy:Code:=(Go.Proofs.Tryz.f87.body).getD .skip
theorem b_dictDecoder_writeCopy:Go.Proofs.Tryz.f87.body=some c_dictDecoder_writeCopy:=by kernel_rfl
noncomputable def c_dictDecoder_writeCopy_rrrrrr:Code:=(rgt (rgt (rgt (rgt (rgt (rgt c_dictDecoder_writeCopy))))))
noncomputable def c_dictDecoder_writeCopy_rrrrrrr:Code:=(rgt c_dictDecoder_writeCopy_rrrrrr)
noncomputable def c_dictDecoder_writeCopy_rrrrrrll:Code:=(lft (lft c_dictDecoder_writeCopy_rrrrrr))
noncomputable def c_dictDecoder_writeCopy_rrrrrrlll:Code:=(lft c_dictDecoder_writeCopy_rrrrrrll)
theorem q_dictDecoder_writeCopy_rrrrrrll:c_dictDecoder_writeCopy_rrrrrrll=.loop c_dictDecoder_writeCopy_rrrrrrlll:=by kernel_rfl
theorem e_dictDecoder_writeCopy (f:Nat) (x1:Int) (x2:Int) (m:Mem) (R:Value→Mem→Prop)
  (h:∃ x3,cell? m ⟨f,1038,none⟩=some (.int .i64 x3)∧∃ a4 l5 k6,cell? m ⟨f,1037,none⟩=some (.slice a4 l5 k6)∧ifB (decide ((IntKind.wrap .i64 (x3 - x1)) < 0)) (∃ a7 l8 k9,cell? m ⟨f,1037,none⟩=some (.slice a7 l8 k9)∧∃ a10 l11 k12,cell? m ⟨f,1037,none⟩=some (.slice a10 l11 k12)∧l11≤k12∧(0≤(if (l5:Int) < IntKind.wrap .i64 (x3+x2) then (l5:Int) else IntKind.wrap .i64 (x3+x2))∧(if (l5:Int) < IntKind.wrap .i64 (x3+x2) then (l5:Int) else IntKind.wrap .i64 (x3+x2))≤(k12:Int))∧(0≤x3∧x3≤(if (l5:Int) < IntKind.wrap .i64 (x3+x2) then (l5:Int) else IntKind.wrap .i64 (x3+x2)))∧∃ a13 l14 k15,cell? m ⟨f,1037,none⟩=some (.slice a13 l14 k15)∧l14≤k15∧(0≤(IntKind.wrap .i64 ((IntKind.wrap .i64 (x3 - x1))+(l8:Int)))∧(IntKind.wrap .i64 ((IntKind.wrap .i64 (x3 - x1))+(l8:Int)))≤(l14:Int))∧SemW PP (builtin .copy #[t_s_uint8,t_s_uint8] t_int #[false,false] #[.slice (subA a10 x3.toNat 1 k12) ((if (l5:Int) < IntKind.wrap .i64 (x3+x2) then (l5:Int) else IntKind.wrap .i64 (x3+x2)).toNat - x3.toNat) (k12 - x3.toNat),.slice (subA a13 ((IntKind.wrap .i64 ((IntKind.wrap .i64 (x3 - x1))+(l8:Int))).toNat) 1 k15) (l14 - ((IntKind.wrap .i64 ((IntKind.wrap .i64 (x3 - x1))+(l8:Int))).toNat)) (k15 - ((IntKind.wrap .i64 ((IntKind.wrap .i64 (x3 - x1))+(l8:Int))).toNat))]) m (NextW PP fun v17 m18=>∃ x16,v17=.int .i64 x16∧WPS PP 80 c_dictDecoder_writeCopy_rrrrrr (retK PP r_dictDecoder_writeCopy R) [(0,.pointer (some ⟨f,1037,none⟩)),(1,.int .i64 x1),(2,.int .i64 x2),(6,.int .i64 0),(7,.int .i64 x3),(8,.int .i64 (IntKind.wrap .i64 (x3+x16))),(9,.int .i64 0),(10,.int .i64 (if (l5:Int) < IntKind.wrap .i64 (x3+x2) then (l5:Int) else IntKind.wrap .i64 (x3+x2)))] m18)) (WPS PP 80 c_dictDecoder_writeCopy_rrrrrr (retK PP r_dictDecoder_writeCopy R) [(0,.pointer (some ⟨f,1037,none⟩)),(1,.int .i64 x1),(2,.int .i64 x2),(6,.int .i64 0),(7,.int .i64 x3),(8,.int .i64 x3),(9,.int .i64 (IntKind.wrap .i64 (x3 - x1))),(10,.int .i64 (if (l5:Int) < IntKind.wrap .i64 (x3+x2) then (l5:Int) else IntKind.wrap .i64 (x3+x2)))] m)):
  CallM PP f_dictDecoder_writeCopy #[.pointer (some ⟨f,1037,none⟩),.int .i64 x1,.int .i64 x2] m R:=
 callM_enter ffOk mixedOk 80 L_dictDecoder_writeCopy Tryz.func87 b_dictDecoder_writeCopy Tryz.ntmps87 (by simp) (Eq.mpr (by kernel_rfl) h)
theorem p_dictDecoder_writeCopy_rrrrrr (f:Nat) (x1:Int) (x2:Int) (x3:Int) (x4:Int) (m:Mem) (K:Kont)
  (h:WPS PP 80 c_dictDecoder_writeCopy_rrrrrrll ((K.withN fun r m=>WPS PP 80 c_dictDecoder_writeCopy_rrrrrrr K r m).withX 0) [(0,.pointer (some ⟨f,1037,none⟩)),(7,.int .i64 x1),(8,.int .i64 x2),(9,.int .i64 x3),(10,.int .i64 x4)] m):
  wpc PP FF 80 L_dictDecoder_writeCopy c_dictDecoder_writeCopy_rrrrrr K [(0,.pointer (some ⟨f,1037,none⟩)),(7,.int .i64 x1),(8,.int .i64 x2),(9,.int .i64 x3),(10,.int .i64 x4)] m:=
 Eq.mpr (by kernel_rfl) h
theorem p_dictDecoder_writeCopy_rrrrrrlll (f:Nat) (x1:Int) (x2:Int) (x3:Int) (x4:Int) (m:Mem) (K:Kont)
  (h:ifB (decide (x2 < x4)) (∃ a5 l6 k7,cell? m ⟨f,1037,none⟩=some (.slice a5 l6 k7)∧l6≤k7∧(0≤x4∧x4≤(k7:Int))∧(0≤x2∧x2≤x4)∧∃ a8 l9 k10,cell? m ⟨f,1037,none⟩=some (.slice a8 l9 k10)∧l9≤k10∧(0≤x2∧x2≤(k10:Int))∧(0≤x3∧x3≤x2)∧SemW PP (builtin .copy #[t_s_uint8,t_s_uint8] t_int #[false,false] #[.slice (subA a5 x2.toNat 1 k7) (x4.toNat - x2.toNat) (k7 - x2.toNat),.slice (subA a8 x3.toNat 1 k10) (x2.toNat - x3.toNat) (k10 - x3.toNat)]) m (NextW PP fun v12 m13=>∃ x11,v12=.int .i64 x11∧K.kn [(0,.pointer (some ⟨f,1037,none⟩)),(7,.int .i64 x1),(8,.int .i64 (IntKind.wrap .i64 (x2+x11))),(9,.int .i64 x3),(10,.int .i64 x4)] m13)) (K.kx 0 [(0,.pointer (some ⟨f,1037,none⟩)),(7,.int .i64 x1),(8,.int .i64 x2),(9,.int .i64 x3),(10,.int .i64 x4)] m)):
  wpc PP FF 80 L_dictDecoder_writeCopy c_dictDecoder_writeCopy_rrrrrrlll K [(0,.pointer (some ⟨f,1037,none⟩)),(7,.int .i64 x1),(8,.int .i64 x2),(9,.int .i64 x3),(10,.int .i64 x4)] m:=
 Eq.mpr (by kernel_rfl) h
def k_dictDecoder_writeCopy_rrrrrrr:List Nat:=[0,7,8]
theorem p_dictDecoder_writeCopy_rrrrrrr (f:Nat) (x1:Int) (x2:Int) (m:Mem) (K:Kont)
  (h:StW m ⟨f,1038,none⟩ (.int .i64 x2) fun m3=>K.kr [(0,.pointer (some ⟨f,1037,none⟩)),(6,.int .i64 (IntKind.wrap .i64 (x2 - x1))),(7,.int .i64 x1),(8,.int .i64 x2)] m3):
  wpc PP FF 80 L_dictDecoder_writeCopy c_dictDecoder_writeCopy_rrrrrrr K [(0,.pointer (some ⟨f,1037,none⟩)),(7,.int .i64 x1),(8,.int .i64 x2)] m:=
 Eq.mpr (by kernel_rfl) h
def L_io_ReadAtLeast:List Nat:=[0,1,2,6,7,8,12,20,37,44]
def r_io_ReadAtLeast:List ResultVar:=[.tmp 6,.tmp 7]
noncomputable def c_io_ReadAtLeast:Code:=(Go.Proofs.Tryz.f91.body).getD .skip
theorem b_io_ReadAtLeast:Go.Proofs.Tryz.f91.body=some c_io_ReadAtLeast:=by kernel_rfl
noncomputable def c_io_ReadAtLeast_rrr:Code:=(rgt (rgt (rgt c_io_ReadAtLeast)))
noncomputable def c_io_ReadAtLeast_rrll:Code:=(lft (lft (rgt (rgt c_io_ReadAtLeast))))
noncomputable def c_io_ReadAtLeast_rrrr:Code:=(rgt c_io_ReadAtLeast_rrr)
noncomputable def c_io_ReadAtLeast_rrlll:Code:=(lft c_io_ReadAtLeast_rrll)
theorem q_io_ReadAtLeast_rrll:c_io_ReadAtLeast_rrll=.loop c_io_ReadAtLeast_rrlll:=by kernel_rfl
theorem e_io_ReadAtLeast (v1:Value) (a2:Option Addr) (l3:Nat) (k4:Nat) (x5:Int) (m:Mem) (R:Value→Mem→Prop)
  (h:ifB (decide ((l3:Int) < x5)) (∃ v6,cell? m ⟨g_io_ErrShortBuffer,0,none⟩=some (v6)∧R (.tuple #[.int .i64 0,v6]) m) (WPS PP 46 c_io_ReadAtLeast_rrll (((retK PP r_io_ReadAtLeast R).withN fun r m=>WPS PP 46 c_io_ReadAtLeast_rrr (retK PP r_io_ReadAtLeast R) r m).withX 0) [(0,v1),(1,.slice a2 l3 k4),(2,.int .i64 x5),(6,.int .i64 0),(7,.nilIface)] m)):
  CallM PP f_io_ReadAtLeast #[v1,.slice a2 l3 k4,.int .i64 x5] m R:=
 callM_enter ffOk mixedOk 46 L_io_ReadAtLeast Tryz.func91 b_io_ReadAtLeast Tryz.ntmps91 (by simp) (Eq.mpr (by kernel_rfl) h)
def k_io_ReadAtLeast_rrr:List Nat:=[2,6,7]
theorem p_io_ReadAtLeast_rrr (x1:Int) (x2:Int) (v3:Value) (m:Mem) (K:Kont)
  (h:ifB (decide (x2 ≥ x1)) (WPS PP 46 c_io_ReadAtLeast_rrrr K [(2,.int .i64 x1),(6,.int .i64 x2),(7,.nilIface)] m) (ifB (decide (x2 > 0)) (∃ v4,cell? m ⟨g_io_EOF,0,none⟩=some (v4)∧ReadW PP m (do eqGuard .eql t_error (.tmp 41) (.tmp 42) v3 v4; binOp .eql t_error v3 v4) fun u6=>∃ b5,u6=.bool b5∧ifB b5 (∃ v7,cell? m ⟨g_io_ErrUnexpectedEOF,0,none⟩=some (v7)∧WPS PP 46 c_io_ReadAtLeast_rrrr K [(2,.int .i64 x1),(6,.int .i64 x2),(7,v7)] m) (WPS PP 46 c_io_ReadAtLeast_rrrr K [(2,.int .i64 x1),(6,.int .i64 x2),(7,v3)] m)) (WPS PP 46 c_io_ReadAtLeast_rrrr K [(2,.int .i64 x1),(6,.int .i64 x2),(7,v3)] m))):
  wpc PP FF 46 L_io_ReadAtLeast c_io_ReadAtLeast_rrr K [(2,.int .i64 x1),(6,.int .i64 x2),(7,v3)] m:=
 Eq.mpr (by kernel_rfl) h
theorem p_io_ReadAtLeast_rrlll (v1:Value) (a2:Option Addr) (l3:Nat) (k4:Nat) (x5:Int) (x6:Int) (v7:Value) (m:Mem) (K:Kont)
  (h:ifB (decide (x6 < x5)) (isIfc v7=true∧ifB (isNil v7) (l3≤k4∧(0≤x6∧x6≤(l3:Int))∧PureW PP (methNil "Read" #[v1]) fun _=>SemW PP (callMethod v1 "Read" #[.slice (subA a2 x6.toNat 1 k4) (l3 - x6.toNat) (k4 - x6.toNat)]) m (NextW PP fun v10 m11=>∃ x8 v9,v10=.tuple #[.int .i64 x8,v9]∧K.kn [(0,v1),(1,.slice a2 l3 k4),(2,.int .i64 x5),(6,.int .i64 (IntKind.wrap .i64 (x6+x8))),(7,v9),(8,.int .i64 x8)] m11)) (K.kx 0 [(0,v1),(1,.slice a2 l3 k4),(2,.int .i64 x5),(6,.int .i64 x6),(7,v7)] m)) (K.kx 0 [(0,v1),(1,.slice a2 l3 k4),(2,.int .i64 x5),(6,.int .i64 x6),(7,v7)] m)):
  wpc PP FF 46 L_io_ReadAtLeast c_io_ReadAtLeast_rrlll K [(0,v1),(1,.slice a2 l3 k4),(2,.int .i64 x5),(6,.int .i64 x6),(7,v7)] m:=
 Eq.mpr (by kernel_rfl) h
def k_io_ReadAtLeast_rrrr:List Nat:=[6,7]
theorem p_io_ReadAtLeast_rrrr (x1:Int) (v2:Value) (m:Mem) (K:Kont)
  (h:K.kr [(6,.int .i64 x1),(7,v2)] m):
  wpc PP FF 46 L_io_ReadAtLeast c_io_ReadAtLeast_rrrr K [(6,.int .i64 x1),(7,v2)] m:=
 Eq.mpr (by kernel_rfl) h
def L_dictDecoder_availRead:List Nat:=[0,2]
def r_dictDecoder_availRead:List ResultVar:=[.tmp 2]
noncomputable def c_dictDecoder_availRead:Code:=(Go.Proofs.Tryz.f92.body).getD .skip
theorem b_dictDecoder_availRead:Go.Proofs.Tryz.f92.body=some c_dictDecoder_availRead:=by kernel_rfl
theorem e_dictDecoder_availRead (f:Nat) (m:Mem) (R:Value→Mem→Prop)
  (h:∃ x1,cell? m ⟨f,1038,none⟩=some (.int .i64 x1)∧∃ x2,cell? m ⟨f,1039,none⟩=some (.int .i64 x2)∧R (.int .i64 (IntKind.wrap .i64 (x1 - x2))) m  ):
  CallM PP f_dictDecoder_availRead #[.pointer (some ⟨f,1037,none⟩)] m R:=
 callM_enter ffOk mixedOk 12 L_dictDecoder_availRead Tryz.func92 b_dictDecoder_availRead Tryz.ntmps92 (by simp) (Eq.mpr (by kernel_rfl) h)
def L_dictDecoder_writeSlice:List Nat:=[0,2]
def r_dictDecoder_writeSlice:List ResultVar:=[.tmp 2]
noncomputable def c_dictDecoder_writeSlice:Code:=(Go.Proofs.Tryz.f93.body).getD .skip
theorem b_dictDecoder_writeSlice:Go.Proofs.Tryz.f93.body=some c_dictDecoder_writeSlice:=by kernel_rfl
theorem e_dictDecoder_writeSlice (f:Nat) (m:Mem) (R:Value→Mem→Prop)
  (h:∃ a1 l2 k3,cell? m ⟨f,1037,none⟩=some (.slice a1 l2 k3)∧∃ x4,cell? m ⟨f,1038,none⟩=some (.int .i64 x4)∧l2≤k3∧(0≤x4∧x4≤(l2:Int))∧R (.slice (subA a1 x4.toNat 1 k3) (l2 - x4.toNat) (k3 - x4.toNat)) m  ):
  CallM PP f_dictDecoder_writeSlice #[.pointer (some ⟨f,1037,none⟩)] m R:=
 callM_enter ffOk mixedOk 12 L_dictDecoder_writeSlice Tryz.func93 b_dictDecoder_writeSlice Tryz.ntmps93 (by simp) (Eq.mpr (by kernel_rfl) h)
def L_dictDecoder_writeMark:List Nat:=[0,1]
def r_dictDecoder_writeMark:List ResultVar:=[]
noncomputable def c_dictDecoder_writeMark:Code:=(Go.Proofs.Tryz.f94.body).getD .skip
theorem b_dictDecoder_writeMark:Go.Proofs.Tryz.f94.body=some c_dictDecoder_writeMark:=by kernel_rfl
theorem e_dictDecoder_writeMark (f:Nat) (x1:Int) (m:Mem) (R:Value→Mem→Prop)
  (h:∃ x2,cell? m ⟨f,1038,none⟩=some (.int .i64 x2)∧StW m ⟨f,1038,none⟩ (.int .i64 (IntKind.wrap .i64 (x2+x1))) fun m3=>R (.tuple #[]) m3):
  CallM PP f_dictDecoder_writeMark #[.pointer (some ⟨f,1037,none⟩),.int .i64 x1] m R:=
 callM_enter ffOk mixedOk 12 L_dictDecoder_writeMark Tryz.func94 b_dictDecoder_writeMark Tryz.ntmps94 (by simp) (Eq.mpr (by kernel_rfl) h)
def L_bits_Reverse16:List Nat:=[0,2]
def r_bits_Reverse16:List ResultVar:=[.tmp 2]
noncomputable def c_bits_Reverse16:Code:=(Go.Proofs.Tryz.f95.body).getD .skip
theorem b_bits_Reverse16:Go.Proofs.Tryz.f95.body=some c_bits_Reverse16:=by kernel_rfl
theorem e_bits_Reverse16 (x1:Int) (m:Mem) (R:Value→Mem→Prop)
  (h:0≤(8:Int)∧PureW PP (Instr.index t_string (.string rev8) (.int .u16 (shrOp .u16 x1 8))) fun u3=>∃ x2,u3=.int .u8 x2∧IntKind.u16=IntKind.u16∧PureW PP (Instr.index t_string (.string rev8) (.int .u16 (bitsOp .and .u16 x1 255))) fun u5=>∃ x4,u5=.int .u8 x4∧0≤(8:Int)∧IntKind.u16=IntKind.u16∧R (.int .u16 (bitsOp .or .u16 (IntKind.wrap .u16 x2) (shlOp .u16 (IntKind.wrap .u16 x4) 8))) m):
  CallM PP f_bits_Reverse16 #[.int .u16 x1] m R:=
 callM_enter ffOk mixedOk 13 L_bits_Reverse16 Tryz.func95 b_bits_Reverse16 Tryz.ntmps95 (by simp) (Eq.mpr (by kernel_rfl) h)
def L_bytes_Reader_Read:List Nat:=[0,1,4,5,15]
def r_bytes_Reader_Read:List ResultVar:=[.tmp 4,.tmp 5]
noncomputable def c_bytes_Reader_Read:Code:=(Go.Proofs.Tryz.f115.body).getD .skip
theorem b_bytes_Reader_Read:Go.Proofs.Tryz.f115.body=some c_bytes_Reader_Read:=by kernel_rfl
theorem e_bytes_Reader_Read (b:Nat) (a1:Option Addr) (l2:Nat) (k3:Nat) (m:Mem) (R:Value→Mem→Prop)
  (h:∃ x4,cell? m ⟨b,1,none⟩=some (.int .i64 x4)∧∃ a5 l6 k7,cell? m ⟨b,0,none⟩=some (.slice a5 l6 k7)∧ifB (decide (x4 ≥ (l6:Int))) (∃ v8,cell? m ⟨g_io_EOF,0,none⟩=some (v8)∧R (.tuple #[.int .i64 0,v8]) m) (StW m ⟨b,2,none⟩ (.int .i64 (-1)) fun m9=>∃ a10 l11 k12,cell? m9 ⟨b,0,none⟩=some (.slice a10 l11 k12)∧∃ x13,cell? m9 ⟨b,1,none⟩=some (.int .i64 x13)∧l11≤k12∧(0≤x13∧x13≤(l11:Int))∧SemW PP (builtin .copy #[t_s_uint8,t_s_uint8] t_int #[false,false] #[.slice a1 l2 k3,.slice (subA a10 x13.toNat 1 k12) (l11 - x13.toNat) (k12 - x13.toNat)]) m9 (NextW PP fun v15 m16=>∃ x14,v15=.int .i64 x14∧∃ x17,cell? m16 ⟨b,1,none⟩=some (.int .i64 x17)∧StW m16 ⟨b,1,none⟩ (.int .i64 (IntKind.wrap .i64 (x17+x14))) fun m18=>R (.tuple #[.int .i64 x14,.nilIface]) m18))):
  CallM PP f_bytes_Reader_Read #[.pointer (some ⟨b,0,none⟩),.slice a1 l2 k3] m R:=
 callM_enter ffOk mixedOk 39 L_bytes_Reader_Read Tryz.func115 b_bytes_Reader_Read Tryz.ntmps115 (by simp) (Eq.mpr (by kernel_rfl) h)
def L_bytes_Reader_ReadByte:List Nat:=[0,2,3,4,17]
def r_bytes_Reader_ReadByte:List ResultVar:=[.tmp 2,.tmp 3]
noncomputable def c_bytes_Reader_ReadByte:Code:=(Go.Proofs.Tryz.f116.body).getD .skip
theorem b_bytes_Reader_ReadByte:Go.Proofs.Tryz.f116.body=some c_bytes_Reader_ReadByte:=by kernel_rfl
theorem e_bytes_Reader_ReadByte (b:Nat) (m:Mem) (R:Value→Mem→Prop)
  (h:StW m ⟨b,2,none⟩ (.int .i64 (-1)) fun m1=>∃ x2,cell? m1 ⟨b,1,none⟩=some (.int .i64 x2)∧∃ a3 l4 k5,cell? m1 ⟨b,0,none⟩=some (.slice a3 l4 k5)∧ifB (decide (x2 ≥ (l4:Int))) (∃ v6,cell? m1 ⟨g_io_EOF,0,none⟩=some (v6)∧R (.tuple #[.int .u8 0,v6]) m1) (∃ a7 l8 k9,cell? m1 ⟨b,0,none⟩=some (.slice a7 l8 k9)∧∃ x10,cell? m1 ⟨b,1,none⟩=some (.int .i64 x10)∧onSome a7 fun p11=>(0≤x10∧x10 < (l8:Int))∧∃ x12,cell? m1 (aplus p11 x10.toNat)=some (.int .u8 x12)∧∃ x13,cell? m1 ⟨b,1,none⟩=some (.int .i64 x13)∧StW m1 ⟨b,1,none⟩ (.int .i64 (IntKind.wrap .i64 (x13+1))) fun m14=>R (.tuple #[.int .u8 x12,.nilIface]) m14)  ):
  CallM PP f_bytes_Reader_ReadByte #[.pointer (some ⟨b,0,none⟩)] m R:=
 callM_enter ffOk mixedOk 37 L_bytes_Reader_ReadByte Tryz.func116 b_bytes_Reader_ReadByte Tryz.ntmps116 (by simp) (Eq.mpr (by kernel_rfl) h)
def L_decompressor_Read:List Nat:=[0,1,4,5,6,12,33,44,67]
def r_decompressor_Read:List ResultVar:=[.tmp 4,.tmp 5]
noncomputable def c_decompressor_Read:Code:=(Go.Proofs.Tryz.f123.body).getD .skip
theorem b_decompressor_Read:Go.Proofs.Tryz.f123.body=some c_decompressor_Read:=by kernel_rfl
noncomputable def c_decompressor_Read_rl:Code:=(lft (rgt c_decompressor_Read))
noncomputable def c_decompressor_Read_rll:Code:=(lft c_decompressor_Read_rl)
theorem q_decompressor_Read_rl:c_decompressor_Read_rl=.loop c_decompressor_Read_rll:=by kernel_rfl
theorem e_decompressor_Read (f:Nat) (a1:Option Addr) (l2:Nat) (k3:Nat) (m:Mem) (R:Value→Mem→Prop)
  (h:WPS PP 75 c_decompressor_Read_rl ((retK PP r_decompressor_Read R).withX 0) [(0,.pointer (some ⟨f,0,none⟩)),(1,.slice a1 l2 k3),(4,.int .i64 0),(5,.nilIface)] m):
  CallM PP f_decompressor_Read #[.pointer (some ⟨f,0,none⟩),.slice a1 l2 k3] m R:=
 callM_enter ffOk mixedOk 75 L_decompressor_Read Tryz.func123 b_decompressor_Read Tryz.ntmps123 (by simp) (Eq.mpr (by kernel_rfl) h)
theorem p_decompressor_Read_rll (f:Nat) (a1:Option Addr) (l2:Nat) (k3:Nat) (m:Mem) (K:Kont)
  (h:∃ a4 l5 k6,cell? m ⟨f,1049,none⟩=some (.slice a4 l5 k6)∧ifB (decide ((l5:Int) > 0)) (∃ a7 l8 k9,cell? m ⟨f,1049,none⟩=some (.slice a7 l8 k9)∧SemW PP (builtin .copy #[t_s_uint8,t_s_uint8] t_int #[false,false] #[.slice a1 l2 k3,.slice a7 l8 k9]) m (NextW PP fun v11 m12=>∃ x10,v11=.int .i64 x10∧∃ a13 l14 k15,cell? m12 ⟨f,1049,none⟩=some (.slice a13 l14 k15)∧l14≤k15∧(0≤x10∧x10≤(l14:Int))∧StW m12 ⟨f,1049,none⟩ (.slice (subA a13 x10.toNat 1 k15) (l14 - x10.toNat) (k15 - x10.toNat)) fun m16=>∃ a17 l18 k19,cell? m16 ⟨f,1049,none⟩=some (.slice a17 l18 k19)∧ifB ((l18:Int) == 0) (∃ v20,cell? m16 ⟨f,1048,none⟩=some (v20)∧K.kr [(0,.pointer (some ⟨f,0,none⟩)),(1,.slice a1 l2 k3),(4,.int .i64 x10),(5,v20),(6,.int .i64 x10)] m16) (K.kr [(0,.pointer (some ⟨f,0,none⟩)),(1,.slice a1 l2 k3),(4,.int .i64 x10),(5,.nilIface),(6,.int .i64 x10)] m16))) (∃ v21,cell? m ⟨f,1048,none⟩=some (v21)∧isIfc v21=true∧ifB (!(isNil v21)) (∃ v22,cell? m ⟨f,1048,none⟩=some (v22)∧K.kr [(0,.pointer (some ⟨f,0,none⟩)),(1,.slice a1 l2 k3),(4,.int .i64 0),(5,v22)] m) (∃ v23,cell? m ⟨f,1045,none⟩=some (v23)∧callW PP FF 0 v23 #[.pointer (some ⟨f,0,none⟩)] m fun _v24 m25=>∃ v26,cell? m25 ⟨f,1048,none⟩=some (v26)∧isIfc v26=true∧ifB (!(isNil v26)) (∃ a27 l28 k29,cell? m25 ⟨f,1049,none⟩=some (.slice a27 l28 k29)∧ifB ((l28:Int) == 0) (CallM PP f_dictDecoder_readFlush #[.pointer (some ⟨f,1037,none⟩)] m25 fun v33 m34=>∃ a30 l31 k32,v33=.slice a30 l31 k32∧StW m34 ⟨f,1049,none⟩ (.slice a30 l31 k32) fun m35=>K.kn [(0,.pointer (some ⟨f,0,none⟩)),(1,.slice a1 l2 k3)] m35) (K.kn [(0,.pointer (some ⟨f,0,none⟩)),(1,.slice a1 l2 k3)] m25)) (K.kn [(0,.pointer (some ⟨f,0,none⟩)),(1,.slice a1 l2 k3)] m25)))):
  wpc PP FF 75 L_decompressor_Read c_decompressor_Read_rll K [(0,.pointer (some ⟨f,0,none⟩)),(1,.slice a1 l2 k3)] m:=
 Eq.mpr (by kernel_rfl) h
end Go.M
