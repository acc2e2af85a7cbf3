/- What pieces of the code come to. -/
import Derived.Test.YtlgdbjpeklangaaGreatDoorPke
set_option maxRecDepth 100000
namespace Go.M
open Go Go.Proofs
def L_bufio_Reader_ReadByte:List Nat:=[0,2,3,4,16,21]
def r_bufio_Reader_ReadByte:List ResultVar:=[.tmp 2,.tmp 3]
noncomputable def c_bufio_Reader_ReadByte:Code:=(Go.Proofs.Tryz.f107.body).getD .skip
theorem b_bufio_Reader_ReadByte:Go.Proofs.Tryz.f107.body=some c_bufio_Reader_ReadByte:=by kernel_rfl
noncomputable def c_bufio_Reader_ReadByte_rrr:Code:=(rgt (rgt (rgt c_bufio_Reader_ReadByte)))
noncomputable def c_bufio_Reader_ReadByte_rrll:Code:=(lft (lft (rgt (rgt c_bufio_Reader_ReadByte))))
noncomputable def c_bufio_Reader_ReadByte_rrlll:Code:=(lft c_bufio_Reader_ReadByte_rrll)
theorem q_bufio_Reader_ReadByte_rrll:c_bufio_Reader_ReadByte_rrll=.loop c_bufio_Reader_ReadByte_rrlll:=by kernel_rfl
theorem e_bufio_Reader_ReadByte (b:Nat) (m:Mem) (R:Value→Mem→Prop)
  (h:StW m ⟨b,6,none⟩ (.int .i64 (-1)) fun m1=>WPS PP 49 c_bufio_Reader_ReadByte_rrll (((retK PP r_bufio_Reader_ReadByte R).withN fun r m=>WPS PP 49 c_bufio_Reader_ReadByte_rrr (retK PP r_bufio_Reader_ReadByte R) r m).withX 0) [(0,.pointer (some ⟨b,0,none⟩)),(2,.int .u8 0),(3,.nilIface)] m1  ):
  CallM PP f_bufio_Reader_ReadByte #[.pointer (some ⟨b,0,none⟩)] m R:=
 callM_enter ffOk mixedOk 49 L_bufio_Reader_ReadByte Tryz.func107 b_bufio_Reader_ReadByte Tryz.ntmps107 (by simp) (Eq.mpr (by kernel_rfl) h)
theorem p_bufio_Reader_ReadByte_rrr (b:Nat) (m:Mem) (K:Kont)
  (h:∃ a1 l2 k3,cell? m ⟨b,0,none⟩=some (.slice a1 l2 k3)∧∃ x4,cell? m ⟨b,2,none⟩=some (.int .i64 x4)∧onSome a1 fun p5=>(0≤x4∧x4 < (l2:Int))∧∃ x6,cell? m (aplus p5 x4.toNat)=some (.int .u8 x6)∧∃ x7,cell? m ⟨b,2,none⟩=some (.int .i64 x7)∧StW m ⟨b,2,none⟩ (.int .i64 (IntKind.wrap .i64 (x7+1))) fun m8=>StW m8 ⟨b,5,none⟩ (.int .i64 (IntKind.wrap .i64 x6)) fun m9=>K.kr [(0,.pointer (some ⟨b,0,none⟩)),(2,.int .u8 x6),(3,.nilIface),(4,.int .u8 x6)] m9  ):
  wpc PP FF 49 L_bufio_Reader_ReadByte c_bufio_Reader_ReadByte_rrr K [(0,.pointer (some ⟨b,0,none⟩))] m:=
 Eq.mpr (by kernel_rfl) h
theorem p_bufio_Reader_ReadByte_rrlll (b:Nat) (m:Mem) (K:Kont)
  (h:∃ x1,cell? m ⟨b,2,none⟩=some (.int .i64 x1)∧∃ x2,cell? m ⟨b,3,none⟩=some (.int .i64 x2)∧ifB (x1 == x2) (∃ v3,cell? m ⟨b,4,none⟩=some (v3)∧isIfc v3=true∧ifB (!(isNil v3)) (CallM PP f_bufio_Reader_readErr #[.pointer (some ⟨b,0,none⟩)] m fun v5 m6=>∃ v4,v5=v4∧K.kr [(0,.pointer (some ⟨b,0,none⟩)),(2,.int .u8 0),(3,v4)] m6) (CallM PP f_bufio_Reader_fill #[.pointer (some ⟨b,0,none⟩)] m fun v7 m8=>v7=.tuple #[]∧K.kn [(0,.pointer (some ⟨b,0,none⟩))] m8)) (K.kx 0 [(0,.pointer (some ⟨b,0,none⟩))] m)  ):
  wpc PP FF 49 L_bufio_Reader_ReadByte c_bufio_Reader_ReadByte_rrlll K [(0,.pointer (some ⟨b,0,none⟩))] m:=
 Eq.mpr (by kernel_rfl) h
def L_bufio_Reader_fill:List Nat:=[0,2,3,4,9,51,54,77,88,94]
def r_bufio_Reader_fill:List ResultVar:=[]
noncomputable def c_bufio_Reader_fill:Code:=(Go.Proofs.Tryz.f108.body).getD .skip
theorem b_bufio_Reader_fill:Go.Proofs.Tryz.f108.body=some c_bufio_Reader_fill:=by kernel_rfl
noncomputable def c_bufio_Reader_fill_r:Code:=(rgt c_bufio_Reader_fill)
noncomputable def c_bufio_Reader_fill_rr:Code:=(rgt c_bufio_Reader_fill_r)
noncomputable def c_bufio_Reader_fill_rrr:Code:=(rgt c_bufio_Reader_fill_rr)
noncomputable def c_bufio_Reader_fill_rrlrl:Code:=(lft (rgt (lft c_bufio_Reader_fill_rr)))
noncomputable def c_bufio_Reader_fill_rrlrll:Code:=(lft c_bufio_Reader_fill_rrlrl)
noncomputable def c_bufio_Reader_fill_rrlrllrr:Code:=(rgt (rgt c_bufio_Reader_fill_rrlrll))
noncomputable def c_bufio_Reader_fill_rrlrllrllrr:Code:=(rgt (rgt (lft (lft (rgt c_bufio_Reader_fill_rrlrll)))))
theorem q_bufio_Reader_fill_rrlrl:c_bufio_Reader_fill_rrlrl=.loop c_bufio_Reader_fill_rrlrll:=by kernel_rfl
theorem e_bufio_Reader_fill (b:Nat) (m:Mem) (R:Value→Mem→Prop)
  (h:∃ x1,cell? m ⟨b,2,none⟩=some (.int .i64 x1)∧ifB (decide (x1 > 0)) (∃ a2 l3 k4,cell? m ⟨b,0,none⟩=some (.slice a2 l3 k4)∧∃ a5 l6 k7,cell? m ⟨b,0,none⟩=some (.slice a5 l6 k7)∧∃ x8,cell? m ⟨b,2,none⟩=some (.int .i64 x8)∧∃ x9,cell? m ⟨b,3,none⟩=some (.int .i64 x9)∧l6≤k7∧(0≤x9∧x9≤(k7:Int))∧(0≤x8∧x8≤x9)∧SemW PP (builtin .copy #[t_s_uint8,t_s_uint8] t_int #[false,false] #[.slice a2 l3 k4,.slice (subA a5 x8.toNat 1 k7) (x9.toNat - x8.toNat) (k7 - x8.toNat)]) m (NextW PP fun v11 m12=>∃ x10,v11=.int .i64 x10∧∃ x13,cell? m12 ⟨b,3,none⟩=some (.int .i64 x13)∧∃ x14,cell? m12 ⟨b,2,none⟩=some (.int .i64 x14)∧StW m12 ⟨b,3,none⟩ (.int .i64 (IntKind.wrap .i64 (x13 - x14))) fun m15=>StW m15 ⟨b,2,none⟩ (.int .i64 0) fun m16=>WPS PP 99 c_bufio_Reader_fill_r (retK PP r_bufio_Reader_fill R) [(0,.pointer (some ⟨b,0,none⟩))] m16)) (WPS PP 99 c_bufio_Reader_fill_r (retK PP r_bufio_Reader_fill R) [(0,.pointer (some ⟨b,0,none⟩))] m)  ):
  CallM PP f_bufio_Reader_fill #[.pointer (some ⟨b,0,none⟩)] m R:=
 callM_enter ffOk mixedOk 99 L_bufio_Reader_fill Tryz.func108 b_bufio_Reader_fill Tryz.ntmps108 (by simp) (Eq.mpr (by kernel_rfl) h)
theorem p_bufio_Reader_fill_r (b:Nat) (m:Mem) (K:Kont)
  (h:∃ x1,cell? m ⟨b,3,none⟩=some (.int .i64 x1)∧∃ a2 l3 k4,cell? m ⟨b,0,none⟩=some (.slice a2 l3 k4)∧ifB (decide (x1 ≥ (l3:Int))) (False) (WPS PP 99 c_bufio_Reader_fill_rr K [(0,.pointer (some ⟨b,0,none⟩))] m)  ):
  wpc PP FF 99 L_bufio_Reader_fill c_bufio_Reader_fill_r K [(0,.pointer (some ⟨b,0,none⟩))] m:=
 Eq.mpr (by kernel_rfl) h
theorem p_bufio_Reader_fill_rrlrll (b:Nat) (x1:Int) (m:Mem) (K:Kont)
  (h:ifB (decide (x1 > 0)) (∃ v2,cell? m ⟨b,1,none⟩=some (v2)∧∃ a3 l4 k5,cell? m ⟨b,0,none⟩=some (.slice a3 l4 k5)∧∃ x6,cell? m ⟨b,3,none⟩=some (.int .i64 x6)∧l4≤k5∧(0≤x6∧x6≤(l4:Int))∧nilCheckW PP v2 fun _v7=>SemW PP (callMethod v2 "Read" #[.slice (subA a3 x6.toNat 1 k5) (l4 - x6.toNat) (k5 - x6.toNat)]) m (NextW PP fun v10 m11=>∃ x8 v9,v10=.tuple #[.int .i64 x8,v9]∧ifB (decide (x8 < 0)) (∃ v12,cell? m11 ⟨g_bufio_errNegativeRead,0,none⟩=some (v12)∧False) (WPS PP 99 c_bufio_Reader_fill_rrlrllrllrr ((K.withN fun r m=>wpc PP FF 99 L_bufio_Reader_fill c_bufio_Reader_fill_rrlrllrr K r m).withX 1) [(0,.pointer (some ⟨b,0,none⟩)),(2,.int .i64 x1),(3,.int .i64 x8),(4,v9)] m11))) (K.kx 0 [(0,.pointer (some ⟨b,0,none⟩)),(2,.int .i64 x1)] m)):
  wpc PP FF 99 L_bufio_Reader_fill c_bufio_Reader_fill_rrlrll K [(0,.pointer (some ⟨b,0,none⟩)),(2,.int .i64 x1)] m:=
 Eq.mpr (by kernel_rfl) h
theorem p_bufio_Reader_fill_rr (b:Nat) (m:Mem) (K:Kont)
  (h:WPS PP 99 c_bufio_Reader_fill_rrlrl ((K.withN fun r m=>WPS PP 99 c_bufio_Reader_fill_rrr K r m).withX 0) [(0,.pointer (some ⟨b,0,none⟩)),(2,.int .i64 100)] m  ):
  wpc PP FF 99 L_bufio_Reader_fill c_bufio_Reader_fill_rr K [(0,.pointer (some ⟨b,0,none⟩))] m:=
 Eq.mpr (by kernel_rfl) h
theorem p_bufio_Reader_fill_rrlrllrr (b:Nat) (x1:Int) (m:Mem) (K:Kont)
  (h:K.kn [(0,.pointer (some ⟨b,0,none⟩)),(2,.int .i64 (IntKind.wrap .i64 (x1 - 1)))] m):
  wpc PP FF 99 L_bufio_Reader_fill c_bufio_Reader_fill_rrlrllrr K [(0,.pointer (some ⟨b,0,none⟩)),(2,.int .i64 x1)] m:=
 Eq.mpr (by kernel_rfl) h
theorem p_bufio_Reader_fill_rrlrllrllrr (b:Nat) (x1:Int) (x2:Int) (v3:Value) (m:Mem) (K:Kont)
  (h:∃ x4,cell? m ⟨b,3,none⟩=some (.int .i64 x4)∧StW m ⟨b,3,none⟩ (.int .i64 (IntKind.wrap .i64 (x4+x2))) fun m5=>isIfc v3=true∧ifB (!(isNil v3)) (StW m5 ⟨b,4,none⟩ v3 fun m6=>K.kr [(0,.pointer (some ⟨b,0,none⟩)),(2,.int .i64 x1),(3,.int .i64 x2),(4,v3)] m6) (ifB (decide (x2 > 0)) (K.kr [(0,.pointer (some ⟨b,0,none⟩)),(2,.int .i64 x1),(3,.int .i64 x2),(4,v3)] m5) (K.kn [(0,.pointer (some ⟨b,0,none⟩)),(2,.int .i64 x1),(3,.int .i64 x2),(4,v3)] m5))):
  wpc PP FF 99 L_bufio_Reader_fill c_bufio_Reader_fill_rrlrllrllrr K [(0,.pointer (some ⟨b,0,none⟩)),(2,.int .i64 x1),(3,.int .i64 x2),(4,v3)] m:=
 Eq.mpr (by kernel_rfl) h
theorem p_bufio_Reader_fill_rrr (b:Nat) (m:Mem) (K:Kont)
  (h:∃ v1,cell? m ⟨g_io_ErrNoProgress,0,none⟩=some (v1)∧StW m ⟨b,4,none⟩ v1 fun m2=>K.kn [(0,.pointer (some ⟨b,0,none⟩))] m2  ):
  wpc PP FF 99 L_bufio_Reader_fill c_bufio_Reader_fill_rrr K [(0,.pointer (some ⟨b,0,none⟩))] m:=
 Eq.mpr (by kernel_rfl) h
def L_bufio_Reader_Buffered:List Nat:=[0,2]
def r_bufio_Reader_Buffered:List ResultVar:=[.tmp 2]
noncomputable def c_bufio_Reader_Buffered:Code:=(Go.Proofs.Tryz.f109.body).getD .skip
theorem b_bufio_Reader_Buffered:Go.Proofs.Tryz.f109.body=some c_bufio_Reader_Buffered:=by kernel_rfl
theorem e_bufio_Reader_Buffered (b:Nat) (m:Mem) (R:Value→Mem→Prop)
  (h:∃ x1,cell? m ⟨b,3,none⟩=some (.int .i64 x1)∧∃ x2,cell? m ⟨b,2,none⟩=some (.int .i64 x2)∧R (.int .i64 (IntKind.wrap .i64 (x1 - x2))) m  ):
  CallM PP f_bufio_Reader_Buffered #[.pointer (some ⟨b,0,none⟩)] m R:=
 callM_enter ffOk mixedOk 12 L_bufio_Reader_Buffered Tryz.func109 b_bufio_Reader_Buffered Tryz.ntmps109 (by simp) (Eq.mpr (by kernel_rfl) h)
def L_bufio_Reader_readErr:List Nat:=[0,2,3]
def r_bufio_Reader_readErr:List ResultVar:=[.tmp 2]
noncomputable def c_bufio_Reader_readErr:Code:=(Go.Proofs.Tryz.f110.body).getD .skip
theorem b_bufio_Reader_readErr:Go.Proofs.Tryz.f110.body=some c_bufio_Reader_readErr:=by kernel_rfl
theorem e_bufio_Reader_readErr (b:Nat) (m:Mem) (R:Value→Mem→Prop)
  (h:∃ v1,cell? m ⟨b,4,none⟩=some (v1)∧StW m ⟨b,4,none⟩ .nilIface fun m2=>R (v1) m2  ):
  CallM PP f_bufio_Reader_readErr #[.pointer (some ⟨b,0,none⟩)] m R:=
 callM_enter ffOk mixedOk 12 L_bufio_Reader_readErr Tryz.func110 b_bufio_Reader_readErr Tryz.ntmps110 (by simp) (Eq.mpr (by kernel_rfl) h)
def L_decompressor_Read:List Nat:=[0,1,4,5,6,12,33,44,67]
def r_decompressor_Read:List ResultVar:=[.tmp 4,.tmp 5]
noncomputable def c_decompressor_Read:Code:=(Go.Proofs.Tryz.f112.body).getD .skip
theorem b_decompressor_Read:Go.Proofs.Tryz.f112.body=some c_decompressor_Read:=by kernel_rfl
noncomputable def c_decompressor_Read_rl:Code:=(lft (rgt c_decompressor_Read))
noncomputable def c_decompressor_Read_rll:Code:=(lft c_decompressor_Read_rl)
theorem q_decompressor_Read_rl:c_decompressor_Read_rl=.loop c_decompressor_Read_rll:=by kernel_rfl
theorem e_decompressor_Read (f:Nat) (a1:Option Addr) (l2:Nat) (k3:Nat) (m:Mem) (R:Value→Mem→Prop)
  (h:WPS PP 75 c_decompressor_Read_rl ((retK PP r_decompressor_Read R).withX 0) [(0,.pointer (some ⟨f,0,none⟩)),(1,.slice a1 l2 k3),(4,.int .i64 0),(5,.nilIface)] m):
  CallM PP f_decompressor_Read #[.pointer (some ⟨f,0,none⟩),.slice a1 l2 k3] m R:=
 callM_enter ffOk mixedOk 75 L_decompressor_Read Tryz.func112 b_decompressor_Read Tryz.ntmps112 (by simp) (Eq.mpr (by kernel_rfl) h)
theorem p_decompressor_Read_rll (f:Nat) (a1:Option Addr) (l2:Nat) (k3:Nat) (m:Mem) (K:Kont)
  (h:∃ a4 l5 k6,cell? m ⟨f,1049,none⟩=some (.slice a4 l5 k6)∧ifB (decide ((l5:Int) > 0)) (∃ a7 l8 k9,cell? m ⟨f,1049,none⟩=some (.slice a7 l8 k9)∧SemW PP (builtin .copy #[t_s_uint8,t_s_uint8] t_int #[false,false] #[.slice a1 l2 k3,.slice a7 l8 k9]) m (NextW PP fun v11 m12=>∃ x10,v11=.int .i64 x10∧∃ a13 l14 k15,cell? m12 ⟨f,1049,none⟩=some (.slice a13 l14 k15)∧l14≤k15∧(0≤x10∧x10≤(l14:Int))∧StW m12 ⟨f,1049,none⟩ (.slice (subA a13 x10.toNat 1 k15) (l14 - x10.toNat) (k15 - x10.toNat)) fun m16=>∃ a17 l18 k19,cell? m16 ⟨f,1049,none⟩=some (.slice a17 l18 k19)∧ifB ((l18:Int) == 0) (∃ v20,cell? m16 ⟨f,1048,none⟩=some (v20)∧K.kr [(0,.pointer (some ⟨f,0,none⟩)),(1,.slice a1 l2 k3),(4,.int .i64 x10),(5,v20),(6,.int .i64 x10)] m16) (K.kr [(0,.pointer (some ⟨f,0,none⟩)),(1,.slice a1 l2 k3),(4,.int .i64 x10),(5,.nilIface),(6,.int .i64 x10)] m16))) (∃ v21,cell? m ⟨f,1048,none⟩=some (v21)∧isIfc v21=true∧ifB (!(isNil v21)) (∃ v22,cell? m ⟨f,1048,none⟩=some (v22)∧K.kr [(0,.pointer (some ⟨f,0,none⟩)),(1,.slice a1 l2 k3),(4,.int .i64 0),(5,v22)] m) (∃ v23,cell? m ⟨f,1045,none⟩=some (v23)∧callW PP FF 0 v23 #[.pointer (some ⟨f,0,none⟩)] m fun _v24 m25=>∃ v26,cell? m25 ⟨f,1048,none⟩=some (v26)∧isIfc v26=true∧ifB (!(isNil v26)) (∃ a27 l28 k29,cell? m25 ⟨f,1049,none⟩=some (.slice a27 l28 k29)∧ifB ((l28:Int) == 0) (CallM PP f_dictDecoder_readFlush #[.pointer (some ⟨f,1037,none⟩)] m25 fun v33 m34=>∃ a30 l31 k32,v33=.slice a30 l31 k32∧StW m34 ⟨f,1049,none⟩ (.slice a30 l31 k32) fun m35=>K.kn [(0,.pointer (some ⟨f,0,none⟩)),(1,.slice a1 l2 k3)] m35) (K.kn [(0,.pointer (some ⟨f,0,none⟩)),(1,.slice a1 l2 k3)] m25)) (K.kn [(0,.pointer (some ⟨f,0,none⟩)),(1,.slice a1 l2 k3)] m25)))):
  wpc PP FF 75 L_decompressor_Read c_decompressor_Read_rll K [(0,.pointer (some ⟨f,0,none⟩)),(1,.slice a1 l2 k3)] m:=
 Eq.mpr (by kernel_rfl) h
end Go.M
