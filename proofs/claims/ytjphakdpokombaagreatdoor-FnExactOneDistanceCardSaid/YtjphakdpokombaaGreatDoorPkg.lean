/- What pieces of the code come to. -/
import Derived.Test.YtjphakdpokombaaGreatDoorPke
set_option maxRecDepth 100000
namespace Go.M
open Go Go.Proofs
def L_bytes_NewReader:List Nat:=[0,2]
def r_bytes_NewReader:List ResultVar:=[.tmp 2]
noncomputable def c_bytes_NewReader:Code:=(Go.Proofs.Tryz.f43.body).getD .skip
theorem b_bytes_NewReader:Go.Proofs.Tryz.f43.body=some c_bytes_NewReader:=by kernel_rfl
theorem e_bytes_NewReader (a1:Option Addr) (l2:Nat) (k3:Nat) (m:Mem) (R:Value→Mem→Prop)
  (h:BoxW t_bytes_Reader (.agg #[.slice a1 l2 k3,.int .i64 0,.int .i64 (-1)]) m fun n4 m5=>R (.pointer (some ⟨n4,0,none⟩)) m5):
  CallM PP f_bytes_NewReader #[.slice a1 l2 k3] m R:=
 callM_enter ffOk mixedOk 6 L_bytes_NewReader Tryz.func43 b_bytes_NewReader Tryz.ntmps43 (by simp) (Eq.mpr (by kernel_rfl) h)
def L_spec_LengthCode:List Nat:=[0,2,3,4,5,6,7,9,11,21]
def r_spec_LengthCode:List ResultVar:=[.tmp 2,.tmp 3,.tmp 4]
noncomputable def c_spec_LengthCode:Code:=(Go.Proofs.Tryz.f44.body).getD .skip
theorem b_spec_LengthCode:Go.Proofs.Tryz.f44.body=some c_spec_LengthCode:=by kernel_rfl
noncomputable def c_spec_LengthCode_rrr:Code:=(rgt (rgt (rgt c_spec_LengthCode)))
noncomputable def c_spec_LengthCode_rrlrl:Code:=(lft (rgt (lft (rgt (rgt c_spec_LengthCode)))))
noncomputable def c_spec_LengthCode_rrlrll:Code:=(lft c_spec_LengthCode_rrlrl)
theorem q_spec_LengthCode_rrlrl:c_spec_LengthCode_rrlrl=.loop c_spec_LengthCode_rrlrll:=by kernel_rfl
theorem e_spec_LengthCode (x1:Int) (m:Mem) (R:Value→Mem→Prop)
  (h:ifB (x1 == 258) (R (.tuple #[.int .i64 285,.int .i64 0,.int .i64 0]) m) (WPS PP 27 c_spec_LengthCode_rrlrl (((retK PP r_spec_LengthCode R).withN fun r m=>WPS PP 27 c_spec_LengthCode_rrr (retK PP r_spec_LengthCode R) r m).withX 0) [(0,.int .i64 x1),(2,.int .i64 0),(3,.int .i64 0),(4,.int .i64 0),(5,.int .i64 284)] m)):
  CallM PP f_spec_LengthCode #[.int .i64 x1] m R:=
 callM_enter ffOk mixedOk 27 L_spec_LengthCode Tryz.func44 b_spec_LengthCode Tryz.ntmps44 (by simp) (Eq.mpr (by kernel_rfl) h)
theorem p_spec_LengthCode_rrr  (m:Mem) (K:Kont)
  (h:K.kr [(2,.int .i64 0),(3,.int .i64 0),(4,.int .i64 0)] m  ):
  wpc PP FF 27 L_spec_LengthCode c_spec_LengthCode_rrr K [] m:=
 Eq.mpr (by kernel_rfl) h
theorem p_spec_LengthCode_rrlrll (x1:Int) (x2:Int) (m:Mem) (K:Kont)
  (h:ifB (decide (x2 ≥ 257)) (CallM PP f_spec_Length #[.int .i64 x2] m fun v5 m6=>∃ x3 x4,v5=.tuple #[.int .i64 x3,.int .i64 x4]∧ifB (decide (x1 ≥ x3)) (K.kr [(0,.int .i64 x1),(2,.int .i64 x2),(3,.int .i64 (IntKind.wrap .i64 (x1 - x3))),(4,.int .i64 x4),(5,.int .i64 x2),(6,.int .i64 x3),(7,.int .i64 x4)] m6) (K.kn [(0,.int .i64 x1),(5,.int .i64 (IntKind.wrap .i64 (x2 - 1))),(6,.int .i64 x3),(7,.int .i64 x4)] m6)) (K.kx 0 [(0,.int .i64 x1),(5,.int .i64 x2)] m)):
  wpc PP FF 27 L_spec_LengthCode c_spec_LengthCode_rrlrll K [(0,.int .i64 x1),(5,.int .i64 x2)] m:=
 Eq.mpr (by kernel_rfl) h
def L_spec_DistanceCode:List Nat:=[0,2,3,4,5,6,7,9,19]
def r_spec_DistanceCode:List ResultVar:=[.tmp 2,.tmp 3,.tmp 4]
noncomputable def c_spec_DistanceCode:Code:=(Go.Proofs.Tryz.f45.body).getD .skip
theorem b_spec_DistanceCode:Go.Proofs.Tryz.f45.body=some c_spec_DistanceCode:=by kernel_rfl
noncomputable def c_spec_DistanceCode_rr:Code:=(rgt (rgt c_spec_DistanceCode))
noncomputable def c_spec_DistanceCode_rlrl:Code:=(lft (rgt (lft (rgt c_spec_DistanceCode))))
noncomputable def c_spec_DistanceCode_rlrll:Code:=(lft c_spec_DistanceCode_rlrl)
theorem q_spec_DistanceCode_rlrl:c_spec_DistanceCode_rlrl=.loop c_spec_DistanceCode_rlrll:=by kernel_rfl
theorem e_spec_DistanceCode (x1:Int) (m:Mem) (R:Value→Mem→Prop)
  (h:WPS PP 25 c_spec_DistanceCode_rlrl (((retK PP r_spec_DistanceCode R).withN fun r m=>WPS PP 25 c_spec_DistanceCode_rr (retK PP r_spec_DistanceCode R) r m).withX 0) [(0,.int .i64 x1),(2,.int .i64 0),(3,.int .i64 0),(4,.int .i64 0),(5,.int .i64 29)] m):
  CallM PP f_spec_DistanceCode #[.int .i64 x1] m R:=
 callM_enter ffOk mixedOk 25 L_spec_DistanceCode Tryz.func45 b_spec_DistanceCode Tryz.ntmps45 (by simp) (Eq.mpr (by kernel_rfl) h)
theorem p_spec_DistanceCode_rr  (m:Mem) (K:Kont)
  (h:K.kr [(2,.int .i64 0),(3,.int .i64 0),(4,.int .i64 0)] m  ):
  wpc PP FF 25 L_spec_DistanceCode c_spec_DistanceCode_rr K [] m:=
 Eq.mpr (by kernel_rfl) h
theorem p_spec_DistanceCode_rlrll (x1:Int) (x2:Int) (m:Mem) (K:Kont)
  (h:ifB (decide (x2 ≥ 0)) (CallM PP f_spec_Distance #[.int .i64 x2] m fun v5 m6=>∃ x3 x4,v5=.tuple #[.int .i64 x3,.int .i64 x4]∧ifB (decide (x1 ≥ x3)) (K.kr [(0,.int .i64 x1),(2,.int .i64 x2),(3,.int .i64 (IntKind.wrap .i64 (x1 - x3))),(4,.int .i64 x4),(5,.int .i64 x2),(6,.int .i64 x3),(7,.int .i64 x4)] m6) (K.kn [(0,.int .i64 x1),(5,.int .i64 (IntKind.wrap .i64 (x2 - 1))),(6,.int .i64 x3),(7,.int .i64 x4)] m6)) (K.kx 0 [(0,.int .i64 x1),(5,.int .i64 x2)] m)):
  wpc PP FF 25 L_spec_DistanceCode c_spec_DistanceCode_rlrll K [(0,.int .i64 x1),(5,.int .i64 x2)] m:=
 Eq.mpr (by kernel_rfl) h
def L_Writer_bit:List Nat:=[0,1,9]
def r_Writer_bit:List ResultVar:=[]
noncomputable def c_Writer_bit:Code:=(Go.Proofs.Tryz.f46.body).getD .skip
theorem b_Writer_bit:Go.Proofs.Tryz.f46.body=some c_Writer_bit:=by kernel_rfl
noncomputable def c_Writer_bit_r:Code:=(rgt c_Writer_bit)
theorem e_Writer_bit (w:Nat) (x1:Int) (m:Mem) (R:Value→Mem→Prop)
  (h:∃ x2,cell? m ⟨w,1,none⟩=some (.int .i64 x2)∧IntKind.i64=IntKind.i64∧(8:Int)≠0∧ifB ((Int.tmod x2 8) == 0) (∃ a3 l4 k5,cell? m ⟨w,0,none⟩=some (.slice a3 l4 k5)∧SemW PP (sv (Instr.buildSlice t_s_uint8 1 #[(0,.int .u8 0)])) m (NextW PP fun v9 m10=>∃ a6 l7 k8,v9=.slice a6 l7 k8∧SemW PP (builtin .append #[t_s_uint8,t_s_uint8] t_s_uint8 #[false,false] #[.slice a3 l4 k5,.slice a6 l7 k8]) m10 (NextW PP fun v14 m15=>∃ a11 l12 k13,v14=.slice a11 l12 k13∧StW m15 ⟨w,0,none⟩ (.slice a11 l12 k13) fun m16=>WPS PP 48 c_Writer_bit_r (retK PP r_Writer_bit R) [(0,.pointer (some ⟨w,0,none⟩)),(1,.int .i64 x1)] m16))) (WPS PP 48 c_Writer_bit_r (retK PP r_Writer_bit R) [(0,.pointer (some ⟨w,0,none⟩)),(1,.int .i64 x1)] m)):
  CallM PP f_Writer_bit #[.pointer (some ⟨w,0,none⟩),.int .i64 x1] m R:=
 callM_enter ffOk mixedOk 48 L_Writer_bit Tryz.func46 b_Writer_bit Tryz.ntmps46 (by simp) (Eq.mpr (by kernel_rfl) h)
theorem p_Writer_bit_r (w:Nat) (x1:Int) (m:Mem) (K:Kont)
  (h:∃ a2 l3 k4,cell? m ⟨w,0,none⟩=some (.slice a2 l3 k4)∧∃ x5,cell? m ⟨w,1,none⟩=some (.int .i64 x5)∧IntKind.i64=IntKind.i64∧(8:Int)≠0∧onSome a2 fun p6=>(0≤(IntKind.wrap .i64 (Int.tdiv x5 8))∧(IntKind.wrap .i64 (Int.tdiv x5 8)) < (l3:Int))∧∃ x7,cell? m (aplus p6 ((IntKind.wrap .i64 (Int.tdiv x5 8)).toNat))=some (.int .u8 x7)∧IntKind.i64=IntKind.i64∧∃ x8,cell? m ⟨w,1,none⟩=some (.int .i64 x8)∧IntKind.i64=IntKind.i64∧(8:Int)≠0∧0≤(Int.tmod x8 8)∧IntKind.u8=IntKind.u8∧onSome a2 fun p9=>(0≤(IntKind.wrap .i64 (Int.tdiv x5 8))∧(IntKind.wrap .i64 (Int.tdiv x5 8)) < (l3:Int))∧StW m (aplus p9 ((IntKind.wrap .i64 (Int.tdiv x5 8)).toNat)) (.int .u8 (bitsOp .or .u8 x7 (shlOp .u8 (IntKind.wrap .u8 (bitsOp .and .i64 x1 1)) (Int.tmod x8 8)))) fun m10=>∃ x11,cell? m10 ⟨w,1,none⟩=some (.int .i64 x11)∧StW m10 ⟨w,1,none⟩ (.int .i64 (IntKind.wrap .i64 (x11+1))) fun m12=>K.kn [(0,.pointer (some ⟨w,0,none⟩)),(1,.int .i64 x1)] m12):
  wpc PP FF 48 L_Writer_bit c_Writer_bit_r K [(0,.pointer (some ⟨w,0,none⟩)),(1,.int .i64 x1)] m:=
 Eq.mpr (by kernel_rfl) h
def L_reader_runs:List Nat:=[0,1,4,5,6,7,8,9,10,11,15,34,49,78,107]
def r_reader_runs:List ResultVar:=[.tmp 4]
noncomputable def c_reader_runs:Code:=(Go.Proofs.Tryz.f47.body).getD .skip
theorem b_reader_runs:Go.Proofs.Tryz.f47.body=some c_reader_runs:=by kernel_rfl
noncomputable def c_reader_runs_rrr:Code:=(rgt (rgt (rgt c_reader_runs)))
noncomputable def c_reader_runs_rrlrl:Code:=(lft (rgt (lft (rgt (rgt c_reader_runs)))))
noncomputable def c_reader_runs_rrlrll:Code:=(lft c_reader_runs_rrlrl)
noncomputable def c_reader_runs_rrlrllrlrr:Code:=(rgt (rgt (lft (rgt c_reader_runs_rrlrll))))
noncomputable def c_reader_runs_rrlrllrlrll:Code:=(lft (lft (rgt (lft (rgt c_reader_runs_rrlrll)))))
noncomputable def c_reader_runs_rrlrllrlrlll:Code:=(lft c_reader_runs_rrlrllrlrll)
theorem q_reader_runs_rrlrl:c_reader_runs_rrlrl=.loop c_reader_runs_rrlrll:=by kernel_rfl
theorem q_reader_runs_rrlrllrlrll:c_reader_runs_rrlrllrlrll=.loop c_reader_runs_rrlrllrlrlll:=by kernel_rfl
theorem e_reader_runs (r:Nat) (a1:Option Addr) (l2:Nat) (k3:Nat) (m:Mem) (R:Value→Mem→Prop)
  (h:WPS PP 151 c_reader_runs_rrlrl (((retK PP r_reader_runs R).withN fun r m=>WPS PP 151 c_reader_runs_rrr (retK PP r_reader_runs R) r m).withX 0) [(0,.pointer (some ⟨r,0,none⟩)),(1,.slice a1 l2 k3),(4,.slice none 0 0),(5,.slice none 0 0),(6,.int .i64 0)] m):
  CallM PP f_reader_runs #[.pointer (some ⟨r,0,none⟩),.slice a1 l2 k3] m R:=
 callM_enter ffOk mixedOk 151 L_reader_runs Tryz.func47 b_reader_runs Tryz.ntmps47 (by simp) (Eq.mpr (by kernel_rfl) h)
theorem p_reader_runs_rrr (a1:Option Addr) (l2:Nat) (k3:Nat) (m:Mem) (K:Kont)
  (h:K.kr [(4,.slice a1 l2 k3),(5,.slice a1 l2 k3)] m):
  wpc PP FF 151 L_reader_runs c_reader_runs_rrr K [(5,.slice a1 l2 k3)] m:=
 Eq.mpr (by kernel_rfl) h
theorem p_reader_runs_rrlrll (r:Nat) (a1:Option Addr) (l2:Nat) (k3:Nat) (a4:Option Addr) (l5:Nat) (k6:Nat) (x7:Int) (m:Mem) (K:Kont)
  (h:ifB (decide (x7 < (l2:Int))) (WPS PP 151 c_reader_runs_rrlrllrlrll (((K.withX 1).withN fun r m=>WPS PP 151 c_reader_runs_rrlrllrlrr (K.withX 1) r m).withX 2) [(0,.pointer (some ⟨r,0,none⟩)),(1,.slice a1 l2 k3),(5,.slice a4 l5 k6),(6,.int .i64 x7),(7,.int .i64 1)] m) (K.kx 0 [(0,.pointer (some ⟨r,0,none⟩)),(1,.slice a1 l2 k3),(5,.slice a4 l5 k6),(6,.int .i64 x7)] m)):
  wpc PP FF 151 L_reader_runs c_reader_runs_rrlrll K [(0,.pointer (some ⟨r,0,none⟩)),(1,.slice a1 l2 k3),(5,.slice a4 l5 k6),(6,.int .i64 x7)] m:=
 Eq.mpr (by kernel_rfl) h
theorem p_reader_runs_rrlrllrlrlll (r:Nat) (a1:Option Addr) (l2:Nat) (k3:Nat) (a4:Option Addr) (l5:Nat) (k6:Nat) (x7:Int) (x8:Int) (m:Mem) (K:Kont)
  (h:ifB (decide ((IntKind.wrap .i64 (x7+x8)) < (l2:Int))) (onSome a1 fun p9=>(0≤(IntKind.wrap .i64 (x7+x8))∧(IntKind.wrap .i64 (x7+x8)) < (l2:Int))∧∃ x10,cell? m (aplus p9 ((IntKind.wrap .i64 (x7+x8)).toNat))=some (.int .i64 x10)∧onSome a1 fun p11=>(0≤x7∧x7 < (l2:Int))∧∃ x12,cell? m (aplus p11 x7.toNat)=some (.int .i64 x12)∧ifB (x10 == x12) (K.kn [(0,.pointer (some ⟨r,0,none⟩)),(1,.slice a1 l2 k3),(5,.slice a4 l5 k6),(6,.int .i64 x7),(7,.int .i64 (IntKind.wrap .i64 (x8+1)))] m) (K.kx 2 [(0,.pointer (some ⟨r,0,none⟩)),(1,.slice a1 l2 k3),(5,.slice a4 l5 k6),(6,.int .i64 x7),(7,.int .i64 x8)] m)) (K.kx 2 [(0,.pointer (some ⟨r,0,none⟩)),(1,.slice a1 l2 k3),(5,.slice a4 l5 k6),(6,.int .i64 x7),(7,.int .i64 x8)] m)):
  wpc PP FF 151 L_reader_runs c_reader_runs_rrlrllrlrlll K [(0,.pointer (some ⟨r,0,none⟩)),(1,.slice a1 l2 k3),(5,.slice a4 l5 k6),(6,.int .i64 x7),(7,.int .i64 x8)] m:=
 Eq.mpr (by kernel_rfl) h
def L_spec_Order:List Nat:=[0]
def r_spec_Order:List ResultVar:=[.tmp 0]
noncomputable def c_spec_Order:Code:=(Go.Proofs.Tryz.f48.body).getD .skip
theorem b_spec_Order:Go.Proofs.Tryz.f48.body=some c_spec_Order:=by kernel_rfl
theorem e_spec_Order  (m:Mem) (R:Value→Mem→Prop)
  (h:SemW PP (sv (Instr.buildSlice t_s_int 19 #[(0,.int .i64 16),(1,.int .i64 17),(2,.int .i64 18),(3,.int .i64 0),(4,.int .i64 8),(5,.int .i64 7),(6,.int .i64 9),(7,.int .i64 6),(8,.int .i64 10),(9,.int .i64 5),(10,.int .i64 11),(11,.int .i64 4),(12,.int .i64 12),(13,.int .i64 3),(14,.int .i64 13),(15,.int .i64 2),(16,.int .i64 14),(17,.int .i64 1),(18,.int .i64 15)])) m (NextW PP fun v4 m5=>∃ a1 l2 k3,v4=.slice a1 l2 k3∧R (.slice a1 l2 k3) m5)  ):
  CallM PP f_spec_Order #[] m R:=
 callM_enter ffOk mixedOk 2 L_spec_Order Tryz.func48 b_spec_Order Tryz.ntmps48 (by simp) (Eq.mpr (by kernel_rfl) h)
def L_spec_Codes:List Nat:=[0,2,3,4,5,6,7,12,17,18,19,20,26]
def r_spec_Codes:List ResultVar:=[.tmp 2]
noncomputable def c_spec_Codes:Code:=(Go.Proofs.Tryz.f49.body).getD .skip
theorem b_spec_Codes:Go.Proofs.Tryz.f49.body=some c_spec_Codes:=by kernel_rfl
noncomputable def c_spec_Codes_rrrr:Code:=(rgt (rgt (rgt (rgt c_spec_Codes))))
noncomputable def c_spec_Codes_rrrlrl:Code:=(lft (rgt (lft (rgt (rgt (rgt c_spec_Codes))))))
noncomputable def c_spec_Codes_rrrlrll:Code:=(lft c_spec_Codes_rrrlrl)
noncomputable def c_spec_Codes_rrrlrllrr:Code:=(rgt (rgt c_spec_Codes_rrrlrll))
noncomputable def c_spec_Codes_rrrlrllrllrrl:Code:=(lft (rgt (rgt (lft (lft (rgt c_spec_Codes_rrrlrll))))))
noncomputable def c_spec_Codes_rrrlrllrllrrll:Code:=(lft c_spec_Codes_rrrlrllrllrrl)
noncomputable def c_spec_Codes_rrrlrllrllrrllrrr:Code:=(rgt (rgt (rgt c_spec_Codes_rrrlrllrllrrll)))
theorem q_spec_Codes_rrrlrl:c_spec_Codes_rrrlrl=.loop c_spec_Codes_rrrlrll:=by kernel_rfl
theorem q_spec_Codes_rrrlrllrllrrl:c_spec_Codes_rrrlrllrllrrl=.loop c_spec_Codes_rrrlrllrllrrll:=by kernel_rfl
theorem e_spec_Codes (a1:Option Addr) (l2:Nat) (k3:Nat) (m:Mem) (R:Value→Mem→Prop)
  (h:SemW PP (sv (Instr.makeSlice t_s_int (.int .i64 (l2:Int)) (.int .i64 (l2:Int)))) m (NextW PP fun v7 m8=>∃ a4 l5 k6,v7=.slice a4 l5 k6∧WPS PP 35 c_spec_Codes_rrrlrl (((retK PP r_spec_Codes R).withN fun r m=>WPS PP 35 c_spec_Codes_rrrr (retK PP r_spec_Codes R) r m).withX 0) [(0,.slice a1 l2 k3),(2,.slice none 0 0),(3,.slice a4 l5 k6),(4,.int .i64 0),(5,.int .i64 1)] m8)):
  CallM PP f_spec_Codes #[.slice a1 l2 k3] m R:=
 callM_enter ffOk mixedOk 35 L_spec_Codes Tryz.func49 b_spec_Codes Tryz.ntmps49 (by simp) (Eq.mpr (by kernel_rfl) h)
theorem p_spec_Codes_rrrr (a1:Option Addr) (l2:Nat) (k3:Nat) (m:Mem) (K:Kont)
  (h:K.kr [(2,.slice a1 l2 k3),(3,.slice a1 l2 k3)] m):
  wpc PP FF 35 L_spec_Codes c_spec_Codes_rrrr K [(3,.slice a1 l2 k3)] m:=
 Eq.mpr (by kernel_rfl) h
theorem p_spec_Codes_rrrlrll (a1:Option Addr) (l2:Nat) (k3:Nat) (a4:Option Addr) (l5:Nat) (k6:Nat) (x7:Int) (x8:Int) (m:Mem) (K:Kont)
  (h:ifB (decide (x8≤15)) (WPS PP 35 c_spec_Codes_rrrlrllrllrrl (((K.withN fun r m=>WPS PP 35 c_spec_Codes_rrrlrllrr K r m).withX 1).withX 2) [(0,.slice a1 l2 k3),(3,.slice a4 l5 k6),(4,.int .i64 (IntKind.wrap .i64 (x7 * 2))),(5,.int .i64 x8),(17,.slice a1 l2 k3),(18,.int .i64 (l2:Int)),(19,.int .i64 0)] m) (K.kx 0 [(0,.slice a1 l2 k3),(3,.slice a4 l5 k6),(4,.int .i64 x7),(5,.int .i64 x8)] m)):
  wpc PP FF 35 L_spec_Codes c_spec_Codes_rrrlrll K [(0,.slice a1 l2 k3),(3,.slice a4 l5 k6),(4,.int .i64 x7),(5,.int .i64 x8)] m:=
 Eq.mpr (by kernel_rfl) h
theorem p_spec_Codes_rrrlrllrllrrll (a1:Option Addr) (l2:Nat) (k3:Nat) (a4:Option Addr) (l5:Nat) (k6:Nat) (x7:Int) (x8:Int) (a9:Option Addr) (l10:Nat) (k11:Nat) (x12:Int) (x13:Int) (m:Mem) (K:Kont)
  (h:ifB (decide (x13 < x12)) (onSome a9 fun p14=>(0≤x13∧x13 < (l10:Int))∧∃ x15,cell? m (aplus p14 x13.toNat)=some (.int .i64 x15)∧ifB (x15 == x8) (onSome a4 fun p16=>(0≤x13∧x13 < (l5:Int))∧StW m (aplus p16 x13.toNat) (.int .i64 x7) fun m17=>WPS PP 35 c_spec_Codes_rrrlrllrllrrllrrr K [(0,.slice a1 l2 k3),(3,.slice a4 l5 k6),(4,.int .i64 (IntKind.wrap .i64 (x7+1))),(5,.int .i64 x8),(6,.int .i64 x13),(7,.int .i64 x15),(17,.slice a9 l10 k11),(18,.int .i64 x12),(19,.int .i64 x13)] m17) (WPS PP 35 c_spec_Codes_rrrlrllrllrrllrrr K [(0,.slice a1 l2 k3),(3,.slice a4 l5 k6),(4,.int .i64 x7),(5,.int .i64 x8),(6,.int .i64 x13),(7,.int .i64 x15),(17,.slice a9 l10 k11),(18,.int .i64 x12),(19,.int .i64 x13)] m)) (K.kx 2 [(0,.slice a1 l2 k3),(3,.slice a4 l5 k6),(4,.int .i64 x7),(5,.int .i64 x8),(17,.slice a9 l10 k11),(18,.int .i64 x12),(19,.int .i64 x13)] m)):
  wpc PP FF 35 L_spec_Codes c_spec_Codes_rrrlrllrllrrll K [(0,.slice a1 l2 k3),(3,.slice a4 l5 k6),(4,.int .i64 x7),(5,.int .i64 x8),(17,.slice a9 l10 k11),(18,.int .i64 x12),(19,.int .i64 x13)] m:=
 Eq.mpr (by kernel_rfl) h
theorem p_spec_Codes_rrrlrllrr (a1:Option Addr) (l2:Nat) (k3:Nat) (a4:Option Addr) (l5:Nat) (k6:Nat) (x7:Int) (x8:Int) (m:Mem) (K:Kont)
  (h:K.kn [(0,.slice a1 l2 k3),(3,.slice a4 l5 k6),(4,.int .i64 x7),(5,.int .i64 (IntKind.wrap .i64 (x8+1)))] m):
  wpc PP FF 35 L_spec_Codes c_spec_Codes_rrrlrllrr K [(0,.slice a1 l2 k3),(3,.slice a4 l5 k6),(4,.int .i64 x7),(5,.int .i64 x8)] m:=
 Eq.mpr (by kernel_rfl) h
theorem p_spec_Codes_rrrlrllrllrrllrrr (a1:Option Addr) (l2:Nat) (k3:Nat) (a4:Option Addr) (l5:Nat) (k6:Nat) (x7:Int) (x8:Int) (a9:Option Addr) (l10:Nat) (k11:Nat) (x12:Int) (x13:Int) (m:Mem) (K:Kont)
  (h:K.kn [(0,.slice a1 l2 k3),(3,.slice a4 l5 k6),(4,.int .i64 x7),(5,.int .i64 x8),(17,.slice a9 l10 k11),(18,.int .i64 x12),(19,.int .i64 (IntKind.wrap .i64 (x13+1)))] m):
  wpc PP FF 35 L_spec_Codes c_spec_Codes_rrrlrllrllrrllrrr K [(0,.slice a1 l2 k3),(3,.slice a4 l5 k6),(4,.int .i64 x7),(5,.int .i64 x8),(17,.slice a9 l10 k11),(18,.int .i64 x12),(19,.int .i64 x13)] m:=
 Eq.mpr (by kernel_rfl) h
def L_Writer_code:List Nat:=[0,1,2,6,10]
def r_Writer_code:List ResultVar:=[]
noncomputable def c_Writer_code:Code:=(Go.Proofs.Tryz.f50.body).getD .skip
theorem b_Writer_code:Go.Proofs.Tryz.f50.body=some c_Writer_code:=by kernel_rfl
noncomputable def c_Writer_code_rl:Code:=(lft (rgt c_Writer_code))
noncomputable def c_Writer_code_rll:Code:=(lft c_Writer_code_rl)
theorem q_Writer_code_rl:c_Writer_code_rl=.loop c_Writer_code_rll:=by kernel_rfl
theorem e_Writer_code (w:Nat) (x1:Int) (x2:Int) (m:Mem) (R:Value→Mem→Prop)
  (h:WPS PP 18 c_Writer_code_rl ((retK PP r_Writer_code R).withX 0) [(0,.pointer (some ⟨w,0,none⟩)),(1,.int .i64 x1),(2,.int .i64 x2),(6,.int .i64 (IntKind.wrap .i64 (x2 - 1)))] m):
  CallM PP f_Writer_code #[.pointer (some ⟨w,0,none⟩),.int .i64 x1,.int .i64 x2] m R:=
 callM_enter ffOk mixedOk 18 L_Writer_code Tryz.func50 b_Writer_code Tryz.ntmps50 (by simp) (Eq.mpr (by kernel_rfl) h)
theorem p_Writer_code_rll (w:Nat) (x1:Int) (x2:Int) (m:Mem) (K:Kont)
  (h:ifB (decide (x2 ≥ 0)) (0≤x2∧CallM PP f_Writer_bit #[.pointer (some ⟨w,0,none⟩),.int .i64 (shrOp .i64 x1 x2)] m fun v3 m4=>v3=.tuple #[]∧K.kn [(0,.pointer (some ⟨w,0,none⟩)),(1,.int .i64 x1),(6,.int .i64 (IntKind.wrap .i64 (x2 - 1)))] m4) (K.kx 0 [(0,.pointer (some ⟨w,0,none⟩)),(1,.int .i64 x1),(6,.int .i64 x2)] m)):
  wpc PP FF 18 L_Writer_code c_Writer_code_rll K [(0,.pointer (some ⟨w,0,none⟩)),(1,.int .i64 x1),(6,.int .i64 x2)] m:=
 Eq.mpr (by kernel_rfl) h
def L_state_give:List Nat:=[0,1,6,12]
def r_state_give:List ResultVar:=[]
noncomputable def c_state_give:Code:=(Go.Proofs.Tryz.f51.body).getD .skip
theorem b_state_give:Go.Proofs.Tryz.f51.body=some c_state_give:=by kernel_rfl
theorem e_state_give (s:Nat) (x1:Int) (m:Mem) (R:Value→Mem→Prop)
  (h:CallM PP f_state_on #[.pointer (some ⟨s,0,none⟩)] m fun v3 m4=>∃ b2,v3=.bool b2∧ifB (!b2) (R (.tuple #[]) m4) (∃ a5 l6 k7,cell? m4 ⟨s,3,none⟩=some (.slice a5 l6 k7)∧ifB (decide ((l6:Int) ≥ 131072)) (CallM PP f_state_stop #[.pointer (some ⟨s,0,none⟩),.int .i64 4] m4 fun v8 m9=>v8=.tuple #[]∧R (.tuple #[]) m9) (∃ a10 l11 k12,cell? m4 ⟨s,3,none⟩=some (.slice a10 l11 k12)∧SemW PP (sv (Instr.buildSlice t_s_uint8 1 #[(0,.int .u8 x1)])) m4 (NextW PP fun v16 m17=>∃ a13 l14 k15,v16=.slice a13 l14 k15∧SemW PP (builtin .append #[t_s_uint8,t_s_uint8] t_s_uint8 #[false,false] #[.slice a10 l11 k12,.slice a13 l14 k15]) m17 (NextW PP fun v21 m22=>∃ a18 l19 k20,v21=.slice a18 l19 k20∧StW m22 ⟨s,3,none⟩ (.slice a18 l19 k20) fun m23=>R (.tuple #[]) m23))))):
  CallM PP f_state_give #[.pointer (some ⟨s,0,none⟩),.int .u8 x1] m R:=
 callM_enter ffOk mixedOk 25 L_state_give Tryz.func51 b_state_give Tryz.ntmps51 (by simp) (Eq.mpr (by kernel_rfl) h)
def L_spec_book:List Nat:=[0,2,3,4,5,8,9,10,11,19]
def r_spec_book:List ResultVar:=[.tmp 2]
noncomputable def c_spec_book:Code:=(Go.Proofs.Tryz.f52.body).getD .skip
theorem b_spec_book:Go.Proofs.Tryz.f52.body=some c_spec_book:=by kernel_rfl
noncomputable def c_spec_book_rrr:Code:=(rgt (rgt (rgt c_spec_book)))
noncomputable def c_spec_book_rrlrl:Code:=(lft (rgt (lft (rgt (rgt c_spec_book)))))
noncomputable def c_spec_book_rrlrll:Code:=(lft c_spec_book_rrlrl)
noncomputable def c_spec_book_rrlrllrrr:Code:=(rgt (rgt (rgt c_spec_book_rrlrll)))
theorem q_spec_book_rrlrl:c_spec_book_rrlrl=.loop c_spec_book_rrlrll:=by kernel_rfl
theorem e_spec_book (a1:Option Addr) (l2:Nat) (k3:Nat) (m:Mem) (R:Value→Mem→Prop)
  (h:SemW PP (sv (Instr.makeMap t_map_int_int none)) m (NextW PP fun v5 m6=>∃ r4,v5=.map r4∧CallM PP f_spec_Codes #[.slice a1 l2 k3] m6 fun v10 m11=>∃ a7 l8 k9,v10=.slice a7 l8 k9∧WPS PP 31 c_spec_book_rrlrl (((retK PP r_spec_book R).withN fun r m=>WPS PP 31 c_spec_book_rrr (retK PP r_spec_book R) r m).withX 0) [(0,.slice a1 l2 k3),(2,.map none),(3,.map r4),(8,.slice a7 l8 k9),(9,.int .i64 (l8:Int)),(10,.int .i64 0)] m11)):
  CallM PP f_spec_book #[.slice a1 l2 k3] m R:=
 callM_enter ffOk mixedOk 31 L_spec_book Tryz.func52 b_spec_book Tryz.ntmps52 (by simp) (Eq.mpr (by kernel_rfl) h)
theorem p_spec_book_rrr (r1:Option Nat) (m:Mem) (K:Kont)
  (h:K.kr [(2,.map r1),(3,.map r1)] m):
  wpc PP FF 31 L_spec_book c_spec_book_rrr K [(3,.map r1)] m:=
 Eq.mpr (by kernel_rfl) h
theorem p_spec_book_rrlrll (a1:Option Addr) (l2:Nat) (k3:Nat) (r4:Option Nat) (a5:Option Addr) (l6:Nat) (k7:Nat) (x8:Int) (x9:Int) (m:Mem) (K:Kont)
  (h:ifB (decide (x9 < x8)) (onSome a5 fun p10=>(0≤x9∧x9 < (l6:Int))∧∃ x11,cell? m (aplus p10 x9.toNat)=some (.int .i64 x11)∧onSome a1 fun p12=>(0≤x9∧x9 < (l2:Int))∧∃ x13,cell? m (aplus p12 x9.toNat)=some (.int .i64 x13)∧ifB (decide (x13 > 0)) (onSome a1 fun p14=>(0≤x9∧x9 < (l2:Int))∧∃ x15,cell? m (aplus p14 x9.toNat)=some (.int .i64 x15)∧0≤x15∧IntKind.i64=IntKind.i64∧SemW PP (su (Instr.mapUpdate t_map_int_int (.map r4) (.int .i64 (bitsOp .or .i64 (shlOp .i64 1 x15) x11)) (.int .i64 x9))) m (NextW PP fun v16 m17=>v16=.tuple #[]∧WPS PP 31 c_spec_book_rrlrllrrr K [(0,.slice a1 l2 k3),(3,.map r4),(4,.int .i64 x9),(5,.int .i64 x11),(8,.slice a5 l6 k7),(9,.int .i64 x8),(10,.int .i64 x9)] m17)) (WPS PP 31 c_spec_book_rrlrllrrr K [(0,.slice a1 l2 k3),(3,.map r4),(4,.int .i64 x9),(5,.int .i64 x11),(8,.slice a5 l6 k7),(9,.int .i64 x8),(10,.int .i64 x9)] m)) (K.kx 0 [(0,.slice a1 l2 k3),(3,.map r4),(8,.slice a5 l6 k7),(9,.int .i64 x8),(10,.int .i64 x9)] m)):
  wpc PP FF 31 L_spec_book c_spec_book_rrlrll K [(0,.slice a1 l2 k3),(3,.map r4),(8,.slice a5 l6 k7),(9,.int .i64 x8),(10,.int .i64 x9)] m:=
 Eq.mpr (by kernel_rfl) h
theorem p_spec_book_rrlrllrrr (a1:Option Addr) (l2:Nat) (k3:Nat) (r4:Option Nat) (a5:Option Addr) (l6:Nat) (k7:Nat) (x8:Int) (x9:Int) (m:Mem) (K:Kont)
  (h:K.kn [(0,.slice a1 l2 k3),(3,.map r4),(8,.slice a5 l6 k7),(9,.int .i64 x8),(10,.int .i64 (IntKind.wrap .i64 (x9+1)))] m):
  wpc PP FF 31 L_spec_book c_spec_book_rrlrllrrr K [(0,.slice a1 l2 k3),(3,.map r4),(8,.slice a5 l6 k7),(9,.int .i64 x8),(10,.int .i64 x9)] m:=
 Eq.mpr (by kernel_rfl) h
def L_state_symbol:List Nat:=[0,1,4,5,6,7,8,9,17,24,34]
def r_state_symbol:List ResultVar:=[.tmp 4]
noncomputable def c_state_symbol:Code:=(Go.Proofs.Tryz.f53.body).getD .skip
theorem b_state_symbol:Go.Proofs.Tryz.f53.body=some c_state_symbol:=by kernel_rfl
noncomputable def c_state_symbol_rrr:Code:=(rgt (rgt (rgt c_state_symbol)))
noncomputable def c_state_symbol_rrlrl:Code:=(lft (rgt (lft (rgt (rgt c_state_symbol)))))
noncomputable def c_state_symbol_rrlrll:Code:=(lft c_state_symbol_rrlrl)
theorem q_state_symbol_rrlrl:c_state_symbol_rrlrl=.loop c_state_symbol_rrlrll:=by kernel_rfl
theorem e_state_symbol (s:Nat) (r1:Option Nat) (m:Mem) (R:Value→Mem→Prop)
  (h:WPS PP 38 c_state_symbol_rrlrl (((retK PP r_state_symbol R).withN fun r m=>WPS PP 38 c_state_symbol_rrr (retK PP r_state_symbol R) r m).withX 0) [(0,.pointer (some ⟨s,0,none⟩)),(1,.map r1),(4,.int .i64 0),(5,.int .i64 1),(8,.int .i64 0)] m):
  CallM PP f_state_symbol #[.pointer (some ⟨s,0,none⟩),.map r1] m R:=
 callM_enter ffOk mixedOk 38 L_state_symbol Tryz.func53 b_state_symbol Tryz.ntmps53 (by simp) (Eq.mpr (by kernel_rfl) h)
theorem p_state_symbol_rrr (s:Nat) (m:Mem) (K:Kont)
  (h:CallM PP f_state_stop #[.pointer (some ⟨s,0,none⟩),.int .i64 0] m fun v1 m2=>v1=.tuple #[]∧K.kr [(0,.pointer (some ⟨s,0,none⟩)),(4,.int .i64 0)] m2  ):
  wpc PP FF 38 L_state_symbol c_state_symbol_rrr K [(0,.pointer (some ⟨s,0,none⟩))] m:=
 Eq.mpr (by kernel_rfl) h
theorem p_state_symbol_rrlrll (s:Nat) (r1:Option Nat) (x2:Int) (x3:Int) (m:Mem) (K:Kont)
  (h:ifB (decide (x3 < 15)) (CallM PP f_state_bit #[.pointer (some ⟨s,0,none⟩)] m fun v5 m6=>∃ x4,v5=.int .i64 x4∧CallM PP f_state_on #[.pointer (some ⟨s,0,none⟩)] m6 fun v8 m9=>∃ b7,v8=.bool b7∧ifB (!b7) (K.kr [(0,.pointer (some ⟨s,0,none⟩)),(1,.map r1),(4,.int .i64 0),(5,.int .i64 (IntKind.wrap .i64 ((IntKind.wrap .i64 (2 * x2))+x4))),(8,.int .i64 x3)] m9) (ReadW PP m9 (Instr.lookup t_map_int_int (.map r1) (.int .i64 (IntKind.wrap .i64 ((IntKind.wrap .i64 (2 * x2))+x4))) true) fun u12=>∃ x10 b11,u12=.tuple #[.int .i64 x10,.bool b11]∧ifB b11 (K.kr [(0,.pointer (some ⟨s,0,none⟩)),(1,.map r1),(4,.int .i64 x10),(5,.int .i64 (IntKind.wrap .i64 ((IntKind.wrap .i64 (2 * x2))+x4))),(6,.int .i64 x10),(7,.bool b11),(8,.int .i64 x3)] m9) (ReadW PP m9 (Builtin.len_ #[t_map_int_int] t_int #[.map r1]) fun u14=>∃ x13,u14=.int .i64 x13∧ifB (decide (x13 < 2)) (CallM PP f_spec_leads #[.map r1,.int .i64 (IntKind.wrap .i64 ((IntKind.wrap .i64 (2 * x2))+x4))] m9 fun v16 m17=>∃ b15,v16=.bool b15∧ifB (!b15) (K.kx 0 [(0,.pointer (some ⟨s,0,none⟩)),(1,.map r1),(5,.int .i64 (IntKind.wrap .i64 ((IntKind.wrap .i64 (2 * x2))+x4))),(6,.int .i64 x10),(7,.bool b11),(8,.int .i64 x3)] m17) (K.kn [(0,.pointer (some ⟨s,0,none⟩)),(1,.map r1),(5,.int .i64 (IntKind.wrap .i64 ((IntKind.wrap .i64 (2 * x2))+x4))),(6,.int .i64 x10),(7,.bool b11),(8,.int .i64 (IntKind.wrap .i64 (x3+1)))] m17)) (K.kn [(0,.pointer (some ⟨s,0,none⟩)),(1,.map r1),(5,.int .i64 (IntKind.wrap .i64 ((IntKind.wrap .i64 (2 * x2))+x4))),(6,.int .i64 x10),(7,.bool b11),(8,.int .i64 (IntKind.wrap .i64 (x3+1)))] m9)))) (K.kx 0 [(0,.pointer (some ⟨s,0,none⟩)),(1,.map r1),(5,.int .i64 x2),(8,.int .i64 x3)] m)):
  wpc PP FF 38 L_state_symbol c_state_symbol_rrlrll K [(0,.pointer (some ⟨s,0,none⟩)),(1,.map r1),(5,.int .i64 x2),(8,.int .i64 x3)] m:=
 Eq.mpr (by kernel_rfl) h
def L_spec_Length:List Nat:=[0,2,3,4,5,8,17]
def r_spec_Length:List ResultVar:=[.tmp 2,.tmp 3]
noncomputable def c_spec_Length:Code:=(Go.Proofs.Tryz.f54.body).getD .skip
theorem b_spec_Length:Go.Proofs.Tryz.f54.body=some c_spec_Length:=by kernel_rfl
theorem e_spec_Length (x1:Int) (m:Mem) (R:Value→Mem→Prop)
  (h:ifB (x1 == 285) (R (.tuple #[.int .i64 258,.int .i64 0]) m) (ifB (decide (x1 ≥ 257)) (ifB (decide (x1≤264)) (R (.tuple #[.int .i64 (IntKind.wrap .i64 (x1 - 254)),.int .i64 0]) m) (ifB (decide (x1 ≥ 265)) (ifB (decide (x1≤284)) (IntKind.i64=IntKind.i64∧(4:Int)≠0∧IntKind.i64=IntKind.i64∧(4:Int)≠0∧0≤(IntKind.wrap .i64 (Int.tdiv (IntKind.wrap .i64 (x1 - 261)) 4))∧R (.tuple #[.int .i64 (IntKind.wrap .i64 (3+(shlOp .i64 (IntKind.wrap .i64 (4+(Int.tmod (IntKind.wrap .i64 (x1 - 261)) 4))) (IntKind.wrap .i64 (Int.tdiv (IntKind.wrap .i64 (x1 - 261)) 4))))),.int .i64 (IntKind.wrap .i64 (Int.tdiv (IntKind.wrap .i64 (x1 - 261)) 4))]) m) (R (.tuple #[.int .i64 0,.int .i64 0]) m)) (R (.tuple #[.int .i64 0,.int .i64 0]) m))) (ifB (decide (x1 ≥ 265)) (ifB (decide (x1≤284)) (IntKind.i64=IntKind.i64∧(4:Int)≠0∧IntKind.i64=IntKind.i64∧(4:Int)≠0∧0≤(IntKind.wrap .i64 (Int.tdiv (IntKind.wrap .i64 (x1 - 261)) 4))∧R (.tuple #[.int .i64 (IntKind.wrap .i64 (3+(shlOp .i64 (IntKind.wrap .i64 (4+(Int.tmod (IntKind.wrap .i64 (x1 - 261)) 4))) (IntKind.wrap .i64 (Int.tdiv (IntKind.wrap .i64 (x1 - 261)) 4))))),.int .i64 (IntKind.wrap .i64 (Int.tdiv (IntKind.wrap .i64 (x1 - 261)) 4))]) m) (R (.tuple #[.int .i64 0,.int .i64 0]) m)) (R (.tuple #[.int .i64 0,.int .i64 0]) m)))):
  CallM PP f_spec_Length #[.int .i64 x1] m R:=
 callM_enter ffOk mixedOk 35 L_spec_Length Tryz.func54 b_spec_Length Tryz.ntmps54 (by simp) (Eq.mpr (by kernel_rfl) h)
def L_spec_used:List Nat:=[0,2,3,5,6,7,8,9,13]
def r_spec_used:List ResultVar:=[.tmp 2]
noncomputable def c_spec_used:Code:=(Go.Proofs.Tryz.f55.body).getD .skip
theorem b_spec_used:Go.Proofs.Tryz.f55.body=some c_spec_used:=by kernel_rfl
noncomputable def c_spec_used_rrr:Code:=(rgt (rgt (rgt c_spec_used)))
noncomputable def c_spec_used_rrlrl:Code:=(lft (rgt (lft (rgt (rgt c_spec_used)))))
noncomputable def c_spec_used_rrlrll:Code:=(lft c_spec_used_rrlrl)
noncomputable def c_spec_used_rrlrllrrr:Code:=(rgt (rgt (rgt c_spec_used_rrlrll)))
theorem q_spec_used_rrlrl:c_spec_used_rrlrl=.loop c_spec_used_rrlrll:=by kernel_rfl
theorem e_spec_used (a1:Option Addr) (l2:Nat) (k3:Nat) (m:Mem) (R:Value→Mem→Prop)
  (h:WPS PP 18 c_spec_used_rrlrl (((retK PP r_spec_used R).withN fun r m=>WPS PP 18 c_spec_used_rrr (retK PP r_spec_used R) r m).withX 0) [(0,.slice a1 l2 k3),(2,.int .i64 0),(3,.int .i64 0),(6,.slice a1 l2 k3),(7,.int .i64 (l2:Int)),(8,.int .i64 0)] m):
  CallM PP f_spec_used #[.slice a1 l2 k3] m R:=
 callM_enter ffOk mixedOk 18 L_spec_used Tryz.func55 b_spec_used Tryz.ntmps55 (by simp) (Eq.mpr (by kernel_rfl) h)
theorem p_spec_used_rrr (x1:Int) (m:Mem) (K:Kont)
  (h:K.kr [(2,.int .i64 x1),(3,.int .i64 x1)] m):
  wpc PP FF 18 L_spec_used c_spec_used_rrr K [(3,.int .i64 x1)] m:=
 Eq.mpr (by kernel_rfl) h
theorem p_spec_used_rrlrll (x1:Int) (a2:Option Addr) (l3:Nat) (k4:Nat) (x5:Int) (x6:Int) (m:Mem) (K:Kont)
  (h:ifB (decide (x6 < x5)) (onSome a2 fun p7=>(0≤x6∧x6 < (l3:Int))∧∃ x8,cell? m (aplus p7 x6.toNat)=some (.int .i64 x8)∧ifB (decide (x8 > 0)) (WPS PP 18 c_spec_used_rrlrllrrr K [(3,.int .i64 (IntKind.wrap .i64 (x1+1))),(5,.int .i64 x8),(6,.slice a2 l3 k4),(7,.int .i64 x5),(8,.int .i64 x6)] m) (WPS PP 18 c_spec_used_rrlrllrrr K [(3,.int .i64 x1),(5,.int .i64 x8),(6,.slice a2 l3 k4),(7,.int .i64 x5),(8,.int .i64 x6)] m)) (K.kx 0 [(3,.int .i64 x1),(6,.slice a2 l3 k4),(7,.int .i64 x5),(8,.int .i64 x6)] m)):
  wpc PP FF 18 L_spec_used c_spec_used_rrlrll K [(3,.int .i64 x1),(6,.slice a2 l3 k4),(7,.int .i64 x5),(8,.int .i64 x6)] m:=
 Eq.mpr (by kernel_rfl) h
theorem p_spec_used_rrlrllrrr (x1:Int) (a2:Option Addr) (l3:Nat) (k4:Nat) (x5:Int) (x6:Int) (m:Mem) (K:Kont)
  (h:K.kn [(3,.int .i64 x1),(6,.slice a2 l3 k4),(7,.int .i64 x5),(8,.int .i64 (IntKind.wrap .i64 (x6+1)))] m):
  wpc PP FF 18 L_spec_used c_spec_used_rrlrllrrr K [(3,.int .i64 x1),(6,.slice a2 l3 k4),(7,.int .i64 x5),(8,.int .i64 x6)] m:=
 Eq.mpr (by kernel_rfl) h
def L_state_far:List Nat:=[0,1,2,6,9,26,29,30,31,40,67]
def r_state_far:List ResultVar:=[]
noncomputable def c_state_far:Code:=(Go.Proofs.Tryz.f56.body).getD .skip
theorem b_state_far:Go.Proofs.Tryz.f56.body=some c_state_far:=by kernel_rfl
noncomputable def c_state_far_rrrl:Code:=(lft (rgt (rgt (rgt c_state_far))))
noncomputable def c_state_far_rrrll:Code:=(lft c_state_far_rrrl)
noncomputable def c_state_far_rrrllrrr:Code:=(rgt (rgt (rgt c_state_far_rrrll)))
noncomputable def c_state_far_rrrllrrllrr:Code:=(rgt (rgt (lft (lft (rgt (rgt c_state_far_rrrll))))))
theorem q_state_far_rrrl:c_state_far_rrrl=.loop c_state_far_rrrll:=by kernel_rfl
theorem e_state_far (s:Nat) (x1:Int) (x2:Int) (m:Mem) (R:Value→Mem→Prop)
  (h:CallM PP f_state_on #[.pointer (some ⟨s,0,none⟩)] m fun v4 m5=>∃ b3,v4=.bool b3∧ifB (!b3) (R (.tuple #[]) m5) (ifB (decide (x2 > 32768)) (CallM PP f_state_stop #[.pointer (some ⟨s,0,none⟩),.int .i64 2] m5 fun v6 m7=>v6=.tuple #[]∧R (.tuple #[]) m7) (∃ a8 l9 k10,cell? m5 ⟨s,2,none⟩=some (.slice a8 l9 k10)∧∃ a11 l12 k13,cell? m5 ⟨s,3,none⟩=some (.slice a11 l12 k13)∧ifB (decide (x2 > IntKind.wrap .i64 ((l9:Int)+(l12:Int)))) (CallM PP f_state_stop #[.pointer (some ⟨s,0,none⟩),.int .i64 2] m5 fun v14 m15=>v14=.tuple #[]∧R (.tuple #[]) m15) (WPS PP 69 c_state_far_rrrl ((retK PP r_state_far R).withX 0) [(0,.pointer (some ⟨s,0,none⟩)),(1,.int .i64 x1),(2,.int .i64 x2),(29,.int .i64 x1),(30,.int .i64 0)] m5)))):
  CallM PP f_state_far #[.pointer (some ⟨s,0,none⟩),.int .i64 x1,.int .i64 x2] m R:=
 callM_enter ffOk mixedOk 69 L_state_far Tryz.func56 b_state_far Tryz.ntmps56 (by simp) (Eq.mpr (by kernel_rfl) h)
theorem p_state_far_rrrll (s:Nat) (x1:Int) (x2:Int) (x3:Int) (m:Mem) (K:Kont)
  (h:ifB (decide (x3 < x2)) (∃ a4 l5 k6,cell? m ⟨s,3,none⟩=some (.slice a4 l5 k6)∧ifB (decide ((IntKind.wrap .i64 ((l5:Int) - x1)) ≥ 0)) (∃ a7 l8 k9,cell? m ⟨s,3,none⟩=some (.slice a7 l8 k9)∧onSome a7 fun p10=>(0≤(IntKind.wrap .i64 ((l5:Int) - x1))∧(IntKind.wrap .i64 ((l5:Int) - x1)) < (l8:Int))∧∃ x11,cell? m (aplus p10 ((IntKind.wrap .i64 ((l5:Int) - x1)).toNat))=some (.int .u8 x11)∧CallM PP f_state_give #[.pointer (some ⟨s,0,none⟩),.int .u8 x11] m fun v12 m13=>v12=.tuple #[]∧WPS PP 69 c_state_far_rrrllrrllrr ((K.withN fun r m=>wpc PP FF 69 L_state_far c_state_far_rrrllrrr K r m).withX 1) [(0,.pointer (some ⟨s,0,none⟩)),(2,.int .i64 x1),(6,.int .i64 (IntKind.wrap .i64 ((l5:Int) - x1))),(29,.int .i64 x2),(30,.int .i64 x3)] m13) (∃ a14 l15 k16,cell? m ⟨s,2,none⟩=some (.slice a14 l15 k16)∧∃ a17 l18 k19,cell? m ⟨s,2,none⟩=some (.slice a17 l18 k19)∧onSome a14 fun p20=>(0≤(IntKind.wrap .i64 ((l18:Int)+(IntKind.wrap .i64 ((l5:Int) - x1))))∧(IntKind.wrap .i64 ((l18:Int)+(IntKind.wrap .i64 ((l5:Int) - x1)))) < (l15:Int))∧∃ x21,cell? m (aplus p20 ((IntKind.wrap .i64 ((l18:Int)+(IntKind.wrap .i64 ((l5:Int) - x1)))).toNat))=some (.int .u8 x21)∧CallM PP f_state_give #[.pointer (some ⟨s,0,none⟩),.int .u8 x21] m fun v22 m23=>v22=.tuple #[]∧WPS PP 69 c_state_far_rrrllrrllrr ((K.withN fun r m=>wpc PP FF 69 L_state_far c_state_far_rrrllrrr K r m).withX 1) [(0,.pointer (some ⟨s,0,none⟩)),(2,.int .i64 x1),(6,.int .i64 (IntKind.wrap .i64 ((l5:Int) - x1))),(29,.int .i64 x2),(30,.int .i64 x3)] m23)) (K.kx 0 [(0,.pointer (some ⟨s,0,none⟩)),(2,.int .i64 x1),(29,.int .i64 x2),(30,.int .i64 x3)] m)):
  wpc PP FF 69 L_state_far c_state_far_rrrll K [(0,.pointer (some ⟨s,0,none⟩)),(2,.int .i64 x1),(29,.int .i64 x2),(30,.int .i64 x3)] m:=
 Eq.mpr (by kernel_rfl) h
theorem p_state_far_rrrllrrr (s:Nat) (x1:Int) (x2:Int) (x3:Int) (m:Mem) (K:Kont)
  (h:K.kn [(0,.pointer (some ⟨s,0,none⟩)),(2,.int .i64 x1),(29,.int .i64 x2),(30,.int .i64 (IntKind.wrap .i64 (x3+1)))] m):
  wpc PP FF 69 L_state_far c_state_far_rrrllrrr K [(0,.pointer (some ⟨s,0,none⟩)),(2,.int .i64 x1),(29,.int .i64 x2),(30,.int .i64 x3)] m:=
 Eq.mpr (by kernel_rfl) h
theorem p_state_far_rrrllrrllrr (s:Nat) (x1:Int) (x2:Int) (x3:Int) (m:Mem) (K:Kont)
  (h:CallM PP f_state_on #[.pointer (some ⟨s,0,none⟩)] m fun v5 m6=>∃ b4,v5=.bool b4∧ifB (!b4) (K.kr [(0,.pointer (some ⟨s,0,none⟩)),(2,.int .i64 x1),(29,.int .i64 x2),(30,.int .i64 x3)] m6) (K.kn [(0,.pointer (some ⟨s,0,none⟩)),(2,.int .i64 x1),(29,.int .i64 x2),(30,.int .i64 x3)] m6)):
  wpc PP FF 69 L_state_far c_state_far_rrrllrrllrr K [(0,.pointer (some ⟨s,0,none⟩)),(2,.int .i64 x1),(29,.int .i64 x2),(30,.int .i64 x3)] m:=
 Eq.mpr (by kernel_rfl) h
def L_state_whole:List Nat:=[0,1,4,7,12]
def r_state_whole:List ResultVar:=[]
noncomputable def c_state_whole:Code:=(Go.Proofs.Tryz.f57.body).getD .skip
theorem b_state_whole:Go.Proofs.Tryz.f57.body=some c_state_whole:=by kernel_rfl
theorem e_state_whole (s:Nat) (a1:Option Addr) (l2:Nat) (k3:Nat) (m:Mem) (R:Value→Mem→Prop)
  (h:CallM PP f_spec_Room #[.slice a1 l2 k3] m fun v5 m6=>∃ x4,v5=.int .i64 x4∧ifB (decide (x4 < 0)) (CallM PP f_state_stop #[.pointer (some ⟨s,0,none⟩),.int .i64 2] m6 fun v7 m8=>v7=.tuple #[]∧R (.tuple #[]) m8) (ifB (decide (x4 > 0)) (CallM PP f_state_stop #[.pointer (some ⟨s,0,none⟩),.int .i64 0] m6 fun v9 m10=>v9=.tuple #[]∧R (.tuple #[]) m10) (R (.tuple #[]) m6))):
  CallM PP f_state_whole #[.pointer (some ⟨s,0,none⟩),.slice a1 l2 k3] m R:=
 callM_enter ffOk mixedOk 17 L_state_whole Tryz.func57 b_state_whole Tryz.ntmps57 (by simp) (Eq.mpr (by kernel_rfl) h)
def L_state_told:List Nat:=[0,1,2,6,7,8,9,10,11,21,26,31,42,54,60,75,78,79,80]
def r_state_told:List ResultVar:=[.tmp 6]
noncomputable def c_state_told:Code:=(Go.Proofs.Tryz.f58.body).getD .skip
theorem b_state_told:Go.Proofs.Tryz.f58.body=some c_state_told:=by kernel_rfl
noncomputable def c_state_told_rrrr:Code:=(rgt (rgt (rgt (rgt c_state_told))))
noncomputable def c_state_told_rrrll:Code:=(lft (lft (rgt (rgt (rgt c_state_told)))))
noncomputable def c_state_told_rrrlll:Code:=(lft c_state_told_rrrll)
noncomputable def c_state_told_rrrlllrlrrr:Code:=(rgt (rgt (rgt (lft (rgt c_state_told_rrrlll)))))
noncomputable def c_state_told_rrrlllrlrrrr:Code:=(rgt c_state_told_rrrlllrlrrr)
noncomputable def c_state_told_rrrlllrlrrrrrl:Code:=(lft (rgt c_state_told_rrrlllrlrrrr))
noncomputable def c_state_told_rrrlllrlrrrrrll:Code:=(lft c_state_told_rrrlllrlrrrrrl)
theorem q_state_told_rrrll:c_state_told_rrrll=.loop c_state_told_rrrlll:=by kernel_rfl
theorem q_state_told_rrrlllrlrrrrrl:c_state_told_rrrlllrlrrrrrl=.loop c_state_told_rrrlllrlrrrrrll:=by kernel_rfl
theorem e_state_told (s:Nat) (x1:Int) (a2:Option Addr) (l3:Nat) (k4:Nat) (m:Mem) (R:Value→Mem→Prop)
  (h:CallM PP f_spec_book #[.slice a2 l3 k4] m fun v6 m7=>∃ r5,v6=.map r5∧WPS PP 87 c_state_told_rrrll (((retK PP r_state_told R).withN fun r m=>WPS PP 87 c_state_told_rrrr (retK PP r_state_told R) r m).withX 0) [(0,.pointer (some ⟨s,0,none⟩)),(1,.int .i64 x1),(2,.slice a2 l3 k4),(6,.slice none 0 0),(7,.map r5),(8,.slice none 0 0)] m7):
  CallM PP f_state_told #[.pointer (some ⟨s,0,none⟩),.int .i64 x1,.slice a2 l3 k4] m R:=
 callM_enter ffOk mixedOk 87 L_state_told Tryz.func58 b_state_told Tryz.ntmps58 (by simp) (Eq.mpr (by kernel_rfl) h)
theorem p_state_told_rrrr (a1:Option Addr) (l2:Nat) (k3:Nat) (m:Mem) (K:Kont)
  (h:K.kr [(6,.slice a1 l2 k3),(8,.slice a1 l2 k3)] m):
  wpc PP FF 87 L_state_told c_state_told_rrrr K [(8,.slice a1 l2 k3)] m:=
 Eq.mpr (by kernel_rfl) h
theorem p_state_told_rrrlll (s:Nat) (x1:Int) (r2:Option Nat) (a3:Option Addr) (l4:Nat) (k5:Nat) (m:Mem) (K:Kont)
  (h:ifB (decide ((l4:Int) < x1)) (CallM PP f_state_on #[.pointer (some ⟨s,0,none⟩)] m fun v7 m8=>∃ b6,v7=.bool b6∧ifB b6 (CallM PP f_state_symbol #[.pointer (some ⟨s,0,none⟩),.map r2] m8 fun v10 m11=>∃ x9,v10=.int .i64 x9∧CallM PP f_state_on #[.pointer (some ⟨s,0,none⟩)] m11 fun v13 m14=>∃ b12,v13=.bool b12∧ifB (!b12) (K.kr [(0,.pointer (some ⟨s,0,none⟩)),(1,.int .i64 x1),(6,.slice a3 l4 k5),(7,.map r2),(8,.slice a3 l4 k5),(9,.int .i64 x9),(10,.int .i64 1),(11,.int .i64 x9)] m14) (ifB (x9 == 16) (ifB ((l4:Int) == 0) (CallM PP f_state_stop #[.pointer (some ⟨s,0,none⟩),.int .i64 2] m14 fun v15 m16=>v15=.tuple #[]∧K.kr [(0,.pointer (some ⟨s,0,none⟩)),(1,.int .i64 x1),(6,.slice a3 l4 k5),(7,.map r2),(8,.slice a3 l4 k5),(9,.int .i64 x9),(10,.int .i64 1),(11,.int .i64 x9)] m16) (ifB (x9 == 16) (onSome a3 fun p17=>(0≤(IntKind.wrap .i64 ((l4:Int) - 1))∧(IntKind.wrap .i64 ((l4:Int) - 1)) < (l4:Int))∧∃ x18,cell? m14 (aplus p17 ((IntKind.wrap .i64 ((l4:Int) - 1)).toNat))=some (.int .i64 x18)∧CallM PP f_state_bits #[.pointer (some ⟨s,0,none⟩),.int .i64 2] m14 fun v20 m21=>∃ x19,v20=.int .i64 x19∧cell? m21 (aplus p17 ((IntKind.wrap .i64 ((l4:Int) - 1)).toNat))=some (.int .i64 x18)∧WPS PP 87 c_state_told_rrrlllrlrrr (K.withX 1) [(0,.pointer (some ⟨s,0,none⟩)),(1,.int .i64 x1),(7,.map r2),(8,.slice a3 l4 k5),(9,.int .i64 x9),(10,.int .i64 (IntKind.wrap .i64 (3+x19))),(11,.int .i64 x18)] m21) (ifB (x9 == 17) (CallM PP f_state_bits #[.pointer (some ⟨s,0,none⟩),.int .i64 3] m14 fun v23 m24=>∃ x22,v23=.int .i64 x22∧WPS PP 87 c_state_told_rrrlllrlrrr (K.withX 1) [(0,.pointer (some ⟨s,0,none⟩)),(1,.int .i64 x1),(7,.map r2),(8,.slice a3 l4 k5),(9,.int .i64 x9),(10,.int .i64 (IntKind.wrap .i64 (3+x22))),(11,.int .i64 0)] m24) (ifB (x9 == 18) (CallM PP f_state_bits #[.pointer (some ⟨s,0,none⟩),.int .i64 7] m14 fun v26 m27=>∃ x25,v26=.int .i64 x25∧WPS PP 87 c_state_told_rrrlllrlrrr (K.withX 1) [(0,.pointer (some ⟨s,0,none⟩)),(1,.int .i64 x1),(7,.map r2),(8,.slice a3 l4 k5),(9,.int .i64 x9),(10,.int .i64 (IntKind.wrap .i64 (11+x25))),(11,.int .i64 0)] m27) (WPS PP 87 c_state_told_rrrlllrlrrr (K.withX 1) [(0,.pointer (some ⟨s,0,none⟩)),(1,.int .i64 x1),(7,.map r2),(8,.slice a3 l4 k5),(9,.int .i64 x9),(10,.int .i64 1),(11,.int .i64 x9)] m14))))) (ifB (x9 == 16) (onSome a3 fun p28=>(0≤(IntKind.wrap .i64 ((l4:Int) - 1))∧(IntKind.wrap .i64 ((l4:Int) - 1)) < (l4:Int))∧∃ x29,cell? m14 (aplus p28 ((IntKind.wrap .i64 ((l4:Int) - 1)).toNat))=some (.int .i64 x29)∧CallM PP f_state_bits #[.pointer (some ⟨s,0,none⟩),.int .i64 2] m14 fun v31 m32=>∃ x30,v31=.int .i64 x30∧cell? m32 (aplus p28 ((IntKind.wrap .i64 ((l4:Int) - 1)).toNat))=some (.int .i64 x29)∧WPS PP 87 c_state_told_rrrlllrlrrr (K.withX 1) [(0,.pointer (some ⟨s,0,none⟩)),(1,.int .i64 x1),(7,.map r2),(8,.slice a3 l4 k5),(9,.int .i64 x9),(10,.int .i64 (IntKind.wrap .i64 (3+x30))),(11,.int .i64 x29)] m32) (ifB (x9 == 17) (CallM PP f_state_bits #[.pointer (some ⟨s,0,none⟩),.int .i64 3] m14 fun v34 m35=>∃ x33,v34=.int .i64 x33∧WPS PP 87 c_state_told_rrrlllrlrrr (K.withX 1) [(0,.pointer (some ⟨s,0,none⟩)),(1,.int .i64 x1),(7,.map r2),(8,.slice a3 l4 k5),(9,.int .i64 x9),(10,.int .i64 (IntKind.wrap .i64 (3+x33))),(11,.int .i64 0)] m35) (ifB (x9 == 18) (CallM PP f_state_bits #[.pointer (some ⟨s,0,none⟩),.int .i64 7] m14 fun v37 m38=>∃ x36,v37=.int .i64 x36∧WPS PP 87 c_state_told_rrrlllrlrrr (K.withX 1) [(0,.pointer (some ⟨s,0,none⟩)),(1,.int .i64 x1),(7,.map r2),(8,.slice a3 l4 k5),(9,.int .i64 x9),(10,.int .i64 (IntKind.wrap .i64 (11+x36))),(11,.int .i64 0)] m38) (WPS PP 87 c_state_told_rrrlllrlrrr (K.withX 1) [(0,.pointer (some ⟨s,0,none⟩)),(1,.int .i64 x1),(7,.map r2),(8,.slice a3 l4 k5),(9,.int .i64 x9),(10,.int .i64 1),(11,.int .i64 x9)] m14)))))) (K.kx 0 [(0,.pointer (some ⟨s,0,none⟩)),(1,.int .i64 x1),(7,.map r2),(8,.slice a3 l4 k5)] m8)) (K.kx 0 [(0,.pointer (some ⟨s,0,none⟩)),(1,.int .i64 x1),(7,.map r2),(8,.slice a3 l4 k5)] m)):
  wpc PP FF 87 L_state_told c_state_told_rrrlll K [(0,.pointer (some ⟨s,0,none⟩)),(1,.int .i64 x1),(7,.map r2),(8,.slice a3 l4 k5)] m:=
 Eq.mpr (by kernel_rfl) h
theorem p_state_told_rrrlllrlrrrrrll (s:Nat) (x1:Int) (r2:Option Nat) (a3:Option Addr) (l4:Nat) (k5:Nat) (x6:Int) (x7:Int) (x8:Int) (m:Mem) (K:Kont)
  (h:ifB (decide (x8 < x7)) (SemW PP (sv (Instr.buildSlice t_s_int 1 #[(0,.int .i64 x6)])) m (NextW PP fun v12 m13=>∃ a9 l10 k11,v12=.slice a9 l10 k11∧SemW PP (builtin .append #[t_s_int,t_s_int] t_s_int #[false,false] #[.slice a3 l4 k5,.slice a9 l10 k11]) m13 (NextW PP fun v17 m18=>∃ a14 l15 k16,v17=.slice a14 l15 k16∧K.kn [(0,.pointer (some ⟨s,0,none⟩)),(1,.int .i64 x1),(7,.map r2),(8,.slice a14 l15 k16),(11,.int .i64 x6),(78,.int .i64 x7),(79,.int .i64 (IntKind.wrap .i64 (x8+1)))] m18))) (K.kx 3 [(0,.pointer (some ⟨s,0,none⟩)),(1,.int .i64 x1),(7,.map r2),(8,.slice a3 l4 k5),(11,.int .i64 x6),(78,.int .i64 x7),(79,.int .i64 x8)] m)):
  wpc PP FF 87 L_state_told c_state_told_rrrlllrlrrrrrll K [(0,.pointer (some ⟨s,0,none⟩)),(1,.int .i64 x1),(7,.map r2),(8,.slice a3 l4 k5),(11,.int .i64 x6),(78,.int .i64 x7),(79,.int .i64 x8)] m:=
 Eq.mpr (by kernel_rfl) h
theorem p_state_told_rrrlllrlrrr (s:Nat) (x1:Int) (r2:Option Nat) (a3:Option Addr) (l4:Nat) (k5:Nat) (x6:Int) (x7:Int) (m:Mem) (K:Kont)
  (h:CallM PP f_state_on #[.pointer (some ⟨s,0,none⟩)] m fun v9 m10=>∃ b8,v9=.bool b8∧ifB b8 (ifB (decide ((IntKind.wrap .i64 ((l4:Int)+x6)) > x1)) (CallM PP f_state_stop #[.pointer (some ⟨s,0,none⟩),.int .i64 2] m10 fun v11 m12=>v11=.tuple #[]∧WPS PP 87 c_state_told_rrrlllrlrrrr K [(0,.pointer (some ⟨s,0,none⟩)),(1,.int .i64 x1),(7,.map r2),(8,.slice a3 l4 k5),(10,.int .i64 x6),(11,.int .i64 x7)] m12) (WPS PP 87 c_state_told_rrrlllrlrrrr K [(0,.pointer (some ⟨s,0,none⟩)),(1,.int .i64 x1),(7,.map r2),(8,.slice a3 l4 k5),(10,.int .i64 x6),(11,.int .i64 x7)] m10)) (WPS PP 87 c_state_told_rrrlllrlrrrr K [(0,.pointer (some ⟨s,0,none⟩)),(1,.int .i64 x1),(7,.map r2),(8,.slice a3 l4 k5),(10,.int .i64 x6),(11,.int .i64 x7)] m10)):
  wpc PP FF 87 L_state_told c_state_told_rrrlllrlrrr K [(0,.pointer (some ⟨s,0,none⟩)),(1,.int .i64 x1),(7,.map r2),(8,.slice a3 l4 k5),(10,.int .i64 x6),(11,.int .i64 x7)] m:=
 Eq.mpr (by kernel_rfl) h
theorem p_state_told_rrrlllrlrrrr (s:Nat) (x1:Int) (r2:Option Nat) (a3:Option Addr) (l4:Nat) (k5:Nat) (x6:Int) (x7:Int) (m:Mem) (K:Kont)
  (h:WPS PP 87 c_state_told_rrrlllrlrrrrrl (K.withX 3) [(0,.pointer (some ⟨s,0,none⟩)),(1,.int .i64 x1),(7,.map r2),(8,.slice a3 l4 k5),(10,.int .i64 x6),(11,.int .i64 x7),(78,.int .i64 x6),(79,.int .i64 0)] m):
  wpc PP FF 87 L_state_told c_state_told_rrrlllrlrrrr K [(0,.pointer (some ⟨s,0,none⟩)),(1,.int .i64 x1),(7,.map r2),(8,.slice a3 l4 k5),(10,.int .i64 x6),(11,.int .i64 x7)] m:=
 Eq.mpr (by kernel_rfl) h
def L_spec_Room:List Nat:=[0,2,3,5,6,7,8,9,13]
def r_spec_Room:List ResultVar:=[.tmp 2]
noncomputable def c_spec_Room:Code:=(Go.Proofs.Tryz.f59.body).getD .skip
theorem b_spec_Room:Go.Proofs.Tryz.f59.body=some c_spec_Room:=by kernel_rfl
noncomputable def c_spec_Room_rrr:Code:=(rgt (rgt (rgt c_spec_Room)))
noncomputable def c_spec_Room_rrlrl:Code:=(lft (rgt (lft (rgt (rgt c_spec_Room)))))
noncomputable def c_spec_Room_rrlrll:Code:=(lft c_spec_Room_rrlrl)
noncomputable def c_spec_Room_rrlrllrrr:Code:=(rgt (rgt (rgt c_spec_Room_rrlrll)))
theorem q_spec_Room_rrlrl:c_spec_Room_rrlrl=.loop c_spec_Room_rrlrll:=by kernel_rfl
theorem e_spec_Room (a1:Option Addr) (l2:Nat) (k3:Nat) (m:Mem) (R:Value→Mem→Prop)
  (h:WPS PP 21 c_spec_Room_rrlrl (((retK PP r_spec_Room R).withN fun r m=>WPS PP 21 c_spec_Room_rrr (retK PP r_spec_Room R) r m).withX 0) [(0,.slice a1 l2 k3),(2,.int .i64 0),(3,.int .i64 32768),(6,.slice a1 l2 k3),(7,.int .i64 (l2:Int)),(8,.int .i64 0)] m):
  CallM PP f_spec_Room #[.slice a1 l2 k3] m R:=
 callM_enter ffOk mixedOk 21 L_spec_Room Tryz.func59 b_spec_Room Tryz.ntmps59 (by simp) (Eq.mpr (by kernel_rfl) h)
theorem p_spec_Room_rrr (x1:Int) (m:Mem) (K:Kont)
  (h:K.kr [(2,.int .i64 x1),(3,.int .i64 x1)] m):
  wpc PP FF 21 L_spec_Room c_spec_Room_rrr K [(3,.int .i64 x1)] m:=
 Eq.mpr (by kernel_rfl) h
theorem p_spec_Room_rrlrll (x1:Int) (a2:Option Addr) (l3:Nat) (k4:Nat) (x5:Int) (x6:Int) (m:Mem) (K:Kont)
  (h:ifB (decide (x6 < x5)) (onSome a2 fun p7=>(0≤x6∧x6 < (l3:Int))∧∃ x8,cell? m (aplus p7 x6.toNat)=some (.int .i64 x8)∧ifB (decide (x8 > 0)) (0≤(IntKind.wrap .i64 (15 - x8))∧WPS PP 21 c_spec_Room_rrlrllrrr K [(3,.int .i64 (IntKind.wrap .i64 (x1 - (shlOp .i64 1 (IntKind.wrap .i64 (15 - x8)))))),(5,.int .i64 x8),(6,.slice a2 l3 k4),(7,.int .i64 x5),(8,.int .i64 x6)] m) (WPS PP 21 c_spec_Room_rrlrllrrr K [(3,.int .i64 x1),(5,.int .i64 x8),(6,.slice a2 l3 k4),(7,.int .i64 x5),(8,.int .i64 x6)] m)) (K.kx 0 [(3,.int .i64 x1),(6,.slice a2 l3 k4),(7,.int .i64 x5),(8,.int .i64 x6)] m)):
  wpc PP FF 21 L_spec_Room c_spec_Room_rrlrll K [(3,.int .i64 x1),(6,.slice a2 l3 k4),(7,.int .i64 x5),(8,.int .i64 x6)] m:=
 Eq.mpr (by kernel_rfl) h
theorem p_spec_Room_rrlrllrrr (x1:Int) (a2:Option Addr) (l3:Nat) (k4:Nat) (x5:Int) (x6:Int) (m:Mem) (K:Kont)
  (h:K.kn [(3,.int .i64 x1),(6,.slice a2 l3 k4),(7,.int .i64 x5),(8,.int .i64 (IntKind.wrap .i64 (x6+1)))] m):
  wpc PP FF 21 L_spec_Room c_spec_Room_rrlrllrrr K [(3,.int .i64 x1),(6,.slice a2 l3 k4),(7,.int .i64 x5),(8,.int .i64 x6)] m:=
 Eq.mpr (by kernel_rfl) h
def L_errors_As:List Nat:=[0,1,4,5,6,7,9,11,23,35]
def r_errors_As:List ResultVar:=[.tmp 4]
noncomputable def c_errors_As:Code:=(Go.Proofs.Tryz.f60.body).getD .skip
theorem b_errors_As:Go.Proofs.Tryz.f60.body=some c_errors_As:=by kernel_rfl
noncomputable def c_errors_As_rrr:Code:=(rgt (rgt (rgt c_errors_As)))
noncomputable def c_errors_As_rrrrrr:Code:=(rgt (rgt (rgt c_errors_As_rrr)))
noncomputable def c_errors_As_rrrrrrrr:Code:=(rgt (rgt c_errors_As_rrrrrr))
theorem e_errors_As (v1:Value) (v2:Value) (m:Mem) (R:Value→Mem→Prop)
  (h:isIfc v1=true∧ifB (isNil v1) (R (.bool false) m) (isIfc v2=true∧ifB (isNil v2) (False) (WPS PP 42 c_errors_As_rrr (retK PP r_errors_As R) [(0,v1),(1,v2),(4,.bool false)] m))):
  CallM PP f_errors_As #[v1,v2] m R:=
 callM_enter ffOk mixedOk 42 L_errors_As Tryz.func60 b_errors_As Tryz.ntmps60 (by simp) (Eq.mpr (by kernel_rfl) h)
theorem p_errors_As_rrr (v1:Value) (v2:Value) (m:Mem) (K:Kont)
  (h:SemW PP (callVal (.func (.func f_reflectlite_ValueOf) #[] #[]) #[v2]) m (NextW PP fun v4 m5=>∃ v3,v4=v3∧AllocW PP t_reflectlite_Value m5 fun n6 m7=>StAgg PP t_reflectlite_Value m7 ⟨n6,0,none⟩ v3 fun m8=>∃ p9 v10 x11,([.pointer p9,v10,.int .u64 x11]:List Value).length=3∧CellsAre m8 ⟨n6,0,none⟩ 0 [.pointer p9,v10,.int .u64 x11]∧SemW PP (callVal (.func (.func f_reflectlite_Value_Type) #[] #[]) #[.agg #[.pointer p9,v10,.int .u64 x11]]) m8 (NextW PP fun v13 m14=>∃ v12,v13=v12∧SemW PP (callMethod v12 "Kind" #[]) m14 (NextW PP fun v16 m17=>∃ x15,v16=.int .u8 x15∧ifB (x15 != 22) (False) (∃ p18 v19 x20,([.pointer p18,v19,.int .u64 x20]:List Value).length=3∧CellsAre m17 ⟨n6,0,none⟩ 0 [.pointer p18,v19,.int .u64 x20]∧SemW PP (callVal (.func (.func f_reflectlite_Value_IsNil) #[] #[]) #[.agg #[.pointer p18,v19,.int .u64 x20]]) m17 (NextW PP fun v22 m23=>∃ b21,v22=.bool b21∧ifB b21 (False) (WPS PP 42 c_errors_As_rrrrrr K [(0,v1),(1,v2),(5,.pointer (some ⟨n6,0,none⟩)),(6,v12)] m23))))))):
  wpc PP FF 42 L_errors_As c_errors_As_rrr K [(0,v1),(1,v2)] m:=
 Eq.mpr (by kernel_rfl) h
theorem p_errors_As_rrrrrr (v1:Value) (v2:Value) (n3:Nat) (v4:Value) (m:Mem) (K:Kont)
  (h:SemW PP (callMethod v4 "Elem" #[]) m (NextW PP fun v6 m7=>∃ v5,v6=v5∧SemW PP (callMethod v5 "Kind" #[]) m7 (NextW PP fun v9 m10=>∃ x8,v9=.int .u8 x8∧ifB (x8 != 20) (∃ v11,cell? m10 ⟨g_errors_errorType,0,none⟩=some (v11)∧SemW PP (callMethod v5 "Implements" #[v11]) m10 (NextW PP fun v13 m14=>∃ b12,v13=.bool b12∧ifB (!b12) (False) (WPS PP 42 c_errors_As_rrrrrrrr K [(0,v1),(1,v2),(5,.pointer (some ⟨n3,0,none⟩)),(6,v4),(7,v5)] m14))) (WPS PP 42 c_errors_As_rrrrrrrr K [(0,v1),(1,v2),(5,.pointer (some ⟨n3,0,none⟩)),(6,v4),(7,v5)] m10)))):
  wpc PP FF 42 L_errors_As c_errors_As_rrrrrr K [(0,v1),(1,v2),(5,.pointer (some ⟨n3,0,none⟩)),(6,v4)] m:=
 Eq.mpr (by kernel_rfl) h
theorem p_errors_As_rrrrrrrr (v1:Value) (v2:Value) (n3:Nat) (v4:Value) (m:Mem) (K:Kont)
  (h:∃ p5 v6 x7,([.pointer p5,v6,.int .u64 x7]:List Value).length=3∧CellsAre m ⟨n3,0,none⟩ 0 [.pointer p5,v6,.int .u64 x7]∧CallM PP f_errors_as #[v1,v2,.agg #[.pointer p5,v6,.int .u64 x7],v4] m fun v9 m10=>∃ b8,v9=.bool b8∧K.kr [(0,v1),(1,v2),(4,.bool b8),(5,.pointer (some ⟨n3,0,none⟩)),(7,v4)] m10):
  wpc PP FF 42 L_errors_As c_errors_As_rrrrrrrr K [(0,v1),(1,v2),(5,.pointer (some ⟨n3,0,none⟩)),(7,v4)] m:=
 Eq.mpr (by kernel_rfl) h
def L_decompressor_moreBits:List Nat:=[0,2,3,4,14]
def r_decompressor_moreBits:List ResultVar:=[.tmp 2]
noncomputable def c_decompressor_moreBits:Code:=(Go.Proofs.Tryz.f63.body).getD .skip
theorem b_decompressor_moreBits:Go.Proofs.Tryz.f63.body=some c_decompressor_moreBits:=by kernel_rfl
theorem e_decompressor_moreBits (f:Nat) (m:Mem) (R:Value→Mem→Prop)
  (h:∃ v1,cell? m ⟨f,0,none⟩=some (v1)∧SemW PP (callMethod v1 "ReadByte" #[]) m (NextW PP fun v4 m5=>∃ x2 v3,v4=.tuple #[.int .u8 x2,v3]∧isIfc v3=true∧ifB (!(isNil v3)) (CallM PP f_inflate_noEOF #[v3] m5 fun v7 m8=>∃ v6,v7=v6∧R (v6) m8) (∃ x9,cell? m5 ⟨f,2,none⟩=some (.int .i64 x9)∧StW m5 ⟨f,2,none⟩ (.int .i64 (IntKind.wrap .i64 (x9+1))) fun m10=>∃ x11,cell? m10 ⟨f,3,none⟩=some (.int .u32 x11)∧∃ x12,cell? m10 ⟨f,4,none⟩=some (.int .u64 x12)∧0≤x12∧IntKind.u32=IntKind.u32∧StW m10 ⟨f,3,none⟩ (.int .u32 (bitsOp .or .u32 x11 (shlOp .u32 (IntKind.wrap .u32 x2) x12))) fun m13=>∃ x14,cell? m13 ⟨f,4,none⟩=some (.int .u64 x14)∧StW m13 ⟨f,4,none⟩ (.int .u64 (IntKind.wrap .u64 (x14+8))) fun m15=>R (.nilIface) m15))  ):
  CallM PP f_decompressor_moreBits #[.pointer (some ⟨f,0,none⟩)] m R:=
 callM_enter ffOk mixedOk 45 L_decompressor_moreBits Tryz.func63 b_decompressor_moreBits Tryz.ntmps63 (by simp) (Eq.mpr (by kernel_rfl) h)
def L_decompressor_dataBlock:List Nat:=[0,2,3,4,5,33,72,82]
def r_decompressor_dataBlock:List ResultVar:=[]
noncomputable def c_decompressor_dataBlock:Code:=(Go.Proofs.Tryz.f64.body).getD .skip
theorem b_decompressor_dataBlock:Go.Proofs.Tryz.f64.body=some c_decompressor_dataBlock:=by kernel_rfl
theorem e_decompressor_dataBlock (f:Nat) (m:Mem) (R:Value→Mem→Prop)
  (h:StW m ⟨f,4,none⟩ (.int .u64 0) fun m1=>StW m1 ⟨f,3,none⟩ (.int .u32 0) fun m2=>∃ v3,cell? m2 ⟨f,0,none⟩=some (v3)∧(0≤(4:Int)∧(4:Int)≤(4:Int))∧(0≤(0:Int)∧(0:Int)≤4)∧CallM PP f_io_ReadFull #[v3,.slice (some ⟨f,1041,none⟩) 4 4] m2 fun v6 m7=>∃ x4 v5,v6=.tuple #[.int .i64 x4,v5]∧∃ x8,cell? m7 ⟨f,2,none⟩=some (.int .i64 x8)∧StW m7 ⟨f,2,none⟩ (.int .i64 (IntKind.wrap .i64 (x8+x4))) fun m9=>isIfc v5=true∧ifB (!(isNil v5)) (CallM PP f_inflate_noEOF #[v5] m9 fun v11 m12=>∃ v10,v11=v10∧StW m12 ⟨f,1048,none⟩ v10 fun m13=>R (.tuple #[]) m13) ((0≤(0:Int)∧(0:Int) < ((4:Nat):Int))∧∃ x14,cell? m9 ⟨f,1041,none⟩=some (.int .u8 x14)∧(0≤(1:Int)∧(1:Int) < ((4:Nat):Int))∧∃ x15,cell? m9 ⟨f,1042,none⟩=some (.int .u8 x15)∧0≤(8:Int)∧IntKind.i64=IntKind.i64∧(0≤(2:Int)∧(2:Int) < ((4:Nat):Int))∧∃ x16,cell? m9 ⟨f,1043,none⟩=some (.int .u8 x16)∧(0≤(3:Int)∧(3:Int) < ((4:Nat):Int))∧∃ x17,cell? m9 ⟨f,1044,none⟩=some (.int .u8 x17)∧0≤(8:Int)∧IntKind.i64=IntKind.i64∧ifB ((IntKind.wrap .u16 (bitsOp .or .i64 (IntKind.wrap .i64 x16) (shlOp .i64 (IntKind.wrap .i64 x17) 8))) != IntKind.wrap .u16 (bitsOp .xor .i64 (-1) (bitsOp .or .i64 (IntKind.wrap .i64 x14) (shlOp .i64 (IntKind.wrap .i64 x15) 8)))) (∃ x18,cell? m9 ⟨f,2,none⟩=some (.int .i64 x18)∧StW m9 ⟨f,1048,none⟩ (.iface t_flate_CorruptInputError (.int .i64 x18)) fun m19=>R (.tuple #[]) m19) (ifB ((bitsOp .or .i64 (IntKind.wrap .i64 x14) (shlOp .i64 (IntKind.wrap .i64 x15) 8)) == 0) (CallM PP f_dictDecoder_readFlush #[.pointer (some ⟨f,1037,none⟩)] m9 fun v23 m24=>∃ a20 l21 k22,v23=.slice a20 l21 k22∧StW m24 ⟨f,1049,none⟩ (.slice a20 l21 k22) fun m25=>CallM PP f_decompressor_finishBlock #[.pointer (some ⟨f,0,none⟩)] m25 fun v26 m27=>v26=.tuple #[]∧R (.tuple #[]) m27) (StW m9 ⟨f,1052,none⟩ (.int .i64 (bitsOp .or .i64 (IntKind.wrap .i64 x14) (shlOp .i64 (IntKind.wrap .i64 x15) 8))) fun m28=>CallM PP f_decompressor_copyData #[.pointer (some ⟨f,0,none⟩)] m28 fun v29 m30=>v29=.tuple #[]∧R (.tuple #[]) m30)))  ):
  CallM PP f_decompressor_dataBlock #[.pointer (some ⟨f,0,none⟩)] m R:=
 callM_enter ffOk mixedOk 98 L_decompressor_dataBlock Tryz.func64 b_decompressor_dataBlock Tryz.ntmps64 (by simp) (Eq.mpr (by kernel_rfl) h)
def L_inflate_fixedHuffman:List Nat:=[0,1,2,3,4,5,6,8,14,20,26]
def r_inflate_fixedHuffman:List ResultVar:=[.tmp 0]
noncomputable def c_inflate_fixedHuffman:Code:=(Go.Proofs.Tryz.f65.body).getD .skip
theorem b_inflate_fixedHuffman:Go.Proofs.Tryz.f65.body=some c_inflate_fixedHuffman:=by kernel_rfl
noncomputable def c_inflate_fixedHuffman_rrr:Code:=(rgt (rgt (rgt c_inflate_fixedHuffman)))
noncomputable def c_inflate_fixedHuffman_rrrr:Code:=(rgt c_inflate_fixedHuffman_rrr)
noncomputable def c_inflate_fixedHuffman_rrlrl:Code:=(lft (rgt (lft (rgt (rgt c_inflate_fixedHuffman)))))
noncomputable def c_inflate_fixedHuffman_rrrrr:Code:=(rgt c_inflate_fixedHuffman_rrrr)
noncomputable def c_inflate_fixedHuffman_rrlrll:Code:=(lft c_inflate_fixedHuffman_rrlrl)
noncomputable def c_inflate_fixedHuffman_rrrlrl:Code:=(lft (rgt (lft c_inflate_fixedHuffman_rrr)))
noncomputable def c_inflate_fixedHuffman_rrrrrr:Code:=(rgt c_inflate_fixedHuffman_rrrrr)
noncomputable def c_inflate_fixedHuffman_rrrlrll:Code:=(lft c_inflate_fixedHuffman_rrrlrl)
noncomputable def c_inflate_fixedHuffman_rrrrlrl:Code:=(lft (rgt (lft c_inflate_fixedHuffman_rrrr)))
noncomputable def c_inflate_fixedHuffman_rrrrlrll:Code:=(lft c_inflate_fixedHuffman_rrrrlrl)
noncomputable def c_inflate_fixedHuffman_rrrrrlrl:Code:=(lft (rgt (lft c_inflate_fixedHuffman_rrrrr)))
noncomputable def c_inflate_fixedHuffman_rrrrrlrll:Code:=(lft c_inflate_fixedHuffman_rrrrrlrl)
theorem q_inflate_fixedHuffman_rrlrl:c_inflate_fixedHuffman_rrlrl=.loop c_inflate_fixedHuffman_rrlrll:=by kernel_rfl
theorem q_inflate_fixedHuffman_rrrlrl:c_inflate_fixedHuffman_rrrlrl=.loop c_inflate_fixedHuffman_rrrlrll:=by kernel_rfl
theorem q_inflate_fixedHuffman_rrrrlrl:c_inflate_fixedHuffman_rrrrlrl=.loop c_inflate_fixedHuffman_rrrrlrll:=by kernel_rfl
theorem q_inflate_fixedHuffman_rrrrrlrl:c_inflate_fixedHuffman_rrrrrlrl=.loop c_inflate_fixedHuffman_rrrrrlrll:=by kernel_rfl
theorem e_inflate_fixedHuffman  (m:Mem) (R:Value→Mem→Prop)
  (h:AllocW PP t_288_int m fun n1 m2=>WPS PP 36 c_inflate_fixedHuffman_rrlrl (((retK PP r_inflate_fixedHuffman R).withN fun r m=>WPS PP 36 c_inflate_fixedHuffman_rrr (retK PP r_inflate_fixedHuffman R) r m).withX 0) [(0,.pointer none),(1,.pointer (some ⟨n1,0,none⟩)),(2,.int .i64 0)] m2  ):
  CallM PP f_inflate_fixedHuffman #[] m R:=
 callM_enter ffOk mixedOk 36 L_inflate_fixedHuffman Tryz.func65 b_inflate_fixedHuffman Tryz.ntmps65 (by simp) (Eq.mpr (by kernel_rfl) h)
def k_inflate_fixedHuffman_rrr:List Nat:=[1]
theorem p_inflate_fixedHuffman_rrr (n1:Nat) (m:Mem) (K:Kont)
  (h:WPS PP 36 c_inflate_fixedHuffman_rrrlrl ((K.withN fun r m=>WPS PP 36 c_inflate_fixedHuffman_rrrr K r m).withX 2) [(1,.pointer (some ⟨n1,0,none⟩)),(3,.int .i64 144)] m):
  wpc PP FF 36 L_inflate_fixedHuffman c_inflate_fixedHuffman_rrr K [(1,.pointer (some ⟨n1,0,none⟩))] m:=
 Eq.mpr (by kernel_rfl) h
theorem p_inflate_fixedHuffman_rrlrll (n1:Nat) (x2:Int) (m:Mem) (K:Kont)
  (h:ifB (decide (x2 < 144)) ((0≤x2∧x2 < ((288:Nat):Int))∧StW m ⟨n1,0+x2.toNat,none⟩ (.int .i64 8) fun m3=>K.kn [(1,.pointer (some ⟨n1,0,none⟩)),(2,.int .i64 (IntKind.wrap .i64 (x2+1)))] m3) (K.kx 0 [(1,.pointer (some ⟨n1,0,none⟩)),(2,.int .i64 x2)] m)):
  wpc PP FF 36 L_inflate_fixedHuffman c_inflate_fixedHuffman_rrlrll K [(1,.pointer (some ⟨n1,0,none⟩)),(2,.int .i64 x2)] m:=
 Eq.mpr (by kernel_rfl) h
theorem p_inflate_fixedHuffman_rrrlrll (n1:Nat) (x2:Int) (m:Mem) (K:Kont)
  (h:ifB (decide (x2 < 256)) ((0≤x2∧x2 < ((288:Nat):Int))∧StW m ⟨n1,0+x2.toNat,none⟩ (.int .i64 9) fun m3=>K.kn [(1,.pointer (some ⟨n1,0,none⟩)),(3,.int .i64 (IntKind.wrap .i64 (x2+1)))] m3) (K.kx 2 [(1,.pointer (some ⟨n1,0,none⟩)),(3,.int .i64 x2)] m)):
  wpc PP FF 36 L_inflate_fixedHuffman c_inflate_fixedHuffman_rrrlrll K [(1,.pointer (some ⟨n1,0,none⟩)),(3,.int .i64 x2)] m:=
 Eq.mpr (by kernel_rfl) h
theorem p_inflate_fixedHuffman_rrrrlrll (n1:Nat) (x2:Int) (m:Mem) (K:Kont)
  (h:ifB (decide (x2 < 280)) ((0≤x2∧x2 < ((288:Nat):Int))∧StW m ⟨n1,0+x2.toNat,none⟩ (.int .i64 7) fun m3=>K.kn [(1,.pointer (some ⟨n1,0,none⟩)),(4,.int .i64 (IntKind.wrap .i64 (x2+1)))] m3) (K.kx 4 [(1,.pointer (some ⟨n1,0,none⟩)),(4,.int .i64 x2)] m)):
  wpc PP FF 36 L_inflate_fixedHuffman c_inflate_fixedHuffman_rrrrlrll K [(1,.pointer (some ⟨n1,0,none⟩)),(4,.int .i64 x2)] m:=
 Eq.mpr (by kernel_rfl) h
theorem p_inflate_fixedHuffman_rrrrrlrll (n1:Nat) (x2:Int) (m:Mem) (K:Kont)
  (h:ifB (decide (x2 < 288)) ((0≤x2∧x2 < ((288:Nat):Int))∧StW m ⟨n1,0+x2.toNat,none⟩ (.int .i64 8) fun m3=>K.kn [(1,.pointer (some ⟨n1,0,none⟩)),(5,.int .i64 (IntKind.wrap .i64 (x2+1)))] m3) (K.kx 6 [(1,.pointer (some ⟨n1,0,none⟩)),(5,.int .i64 x2)] m)):
  wpc PP FF 36 L_inflate_fixedHuffman c_inflate_fixedHuffman_rrrrrlrll K [(1,.pointer (some ⟨n1,0,none⟩)),(5,.int .i64 x2)] m:=
 Eq.mpr (by kernel_rfl) h
def k_inflate_fixedHuffman_rrrr:List Nat:=[1]
theorem p_inflate_fixedHuffman_rrrr (n1:Nat) (m:Mem) (K:Kont)
  (h:WPS PP 36 c_inflate_fixedHuffman_rrrrlrl ((K.withN fun r m=>WPS PP 36 c_inflate_fixedHuffman_rrrrr K r m).withX 4) [(1,.pointer (some ⟨n1,0,none⟩)),(4,.int .i64 256)] m):
  wpc PP FF 36 L_inflate_fixedHuffman c_inflate_fixedHuffman_rrrr K [(1,.pointer (some ⟨n1,0,none⟩))] m:=
 Eq.mpr (by kernel_rfl) h
def k_inflate_fixedHuffman_rrrrr:List Nat:=[1]
theorem p_inflate_fixedHuffman_rrrrr (n1:Nat) (m:Mem) (K:Kont)
  (h:WPS PP 36 c_inflate_fixedHuffman_rrrrrlrl ((K.withN fun r m=>WPS PP 36 c_inflate_fixedHuffman_rrrrrr K r m).withX 6) [(1,.pointer (some ⟨n1,0,none⟩)),(5,.int .i64 280)] m):
  wpc PP FF 36 L_inflate_fixedHuffman c_inflate_fixedHuffman_rrrrr K [(1,.pointer (some ⟨n1,0,none⟩))] m:=
 Eq.mpr (by kernel_rfl) h
def k_inflate_fixedHuffman_rrrrrr:List Nat:=[1]
theorem p_inflate_fixedHuffman_rrrrrr (n1:Nat) (m:Mem) (K:Kont)
  (h:AllocW PP t_flate_huffmanDecoder m fun n2 m3=>CallM PP f_huffmanDecoder_init #[.pointer (some ⟨n2,0,none⟩),.slice (some ⟨n1,0,none⟩) 288 288] m3 fun v5 m6=>∃ b4,v5=.bool b4∧K.kr [(0,.pointer (some ⟨n2,0,none⟩)),(1,.pointer (some ⟨n1,0,none⟩)),(6,.pointer (some ⟨n2,0,none⟩))] m6):
  wpc PP FF 36 L_inflate_fixedHuffman c_inflate_fixedHuffman_rrrrrr K [(1,.pointer (some ⟨n1,0,none⟩))] m:=
 Eq.mpr (by kernel_rfl) h
def L_decompressor_huffmanBlock:List Nat:=[0,2,3,4,5,6,7,8,9,13,14,16,28,41,54,68,73,78,84,90,96,102,108,112,118,122,158,163,167,205,218,223,239,243,286,316,348]
def r_decompressor_huffmanBlock:List ResultVar:=[]
noncomputable def c_decompressor_huffmanBlock:Code:=(Go.Proofs.Tryz.f66.body).getD .skip
theorem b_decompressor_huffmanBlock:Go.Proofs.Tryz.f66.body=some c_decompressor_huffmanBlock:=by kernel_rfl
noncomputable def c_decompressor_huffmanBlock_l:Code:=(lft c_decompressor_huffmanBlock)
noncomputable def c_decompressor_huffmanBlock_lrr:Code:=(rgt (rgt c_decompressor_huffmanBlock_l))
noncomputable def c_decompressor_huffmanBlock_lrrr:Code:=(rgt c_decompressor_huffmanBlock_lrr)
noncomputable def c_decompressor_huffmanBlock_lrrrr:Code:=(rgt c_decompressor_huffmanBlock_lrrr)
noncomputable def c_decompressor_huffmanBlock_lrrrrrr:Code:=(rgt (rgt c_decompressor_huffmanBlock_lrrrr))
noncomputable def c_decompressor_huffmanBlock_lrrlrrrrr:Code:=(rgt (rgt (rgt (rgt (rgt (lft c_decompressor_huffmanBlock_lrr))))))
noncomputable def c_decompressor_huffmanBlock_lrrlrrrrrr:Code:=(rgt c_decompressor_huffmanBlock_lrrlrrrrr)
noncomputable def c_decompressor_huffmanBlock_lrrlrrrrrrrr:Code:=(rgt (rgt c_decompressor_huffmanBlock_lrrlrrrrrr))
noncomputable def c_decompressor_huffmanBlock_lrrlrrrrrlrlr:Code:=(rgt (lft (rgt (lft c_decompressor_huffmanBlock_lrrlrrrrr))))
noncomputable def c_decompressor_huffmanBlock_lrrlrrrrrrrrr:Code:=(rgt c_decompressor_huffmanBlock_lrrlrrrrrrrr)
noncomputable def c_decompressor_huffmanBlock_lrrlrrrrrlrlll:Code:=(lft (lft (lft (rgt (lft c_decompressor_huffmanBlock_lrrlrrrrr)))))
noncomputable def c_decompressor_huffmanBlock_lrrlrrrrrlrllll:Code:=(lft c_decompressor_huffmanBlock_lrrlrrrrrlrlll)
noncomputable def c_decompressor_huffmanBlock_lrrlrrrrrrrlrlr:Code:=(rgt (lft (rgt (lft (rgt c_decompressor_huffmanBlock_lrrlrrrrrr)))))
noncomputable def c_decompressor_huffmanBlock_lrrlrrrrrrrlrlll:Code:=(lft (lft (lft (rgt (lft (rgt c_decompressor_huffmanBlock_lrrlrrrrrr))))))
noncomputable def c_decompressor_huffmanBlock_lrrlrrrrrrrlrllll:Code:=(lft c_decompressor_huffmanBlock_lrrlrrrrrrrlrlll)
noncomputable def c_decompressor_huffmanBlock_lrrlrrrrrrrrllrrrlrrr:Code:=(rgt (rgt (rgt (lft (rgt (rgt (rgt (lft (lft c_decompressor_huffmanBlock_lrrlrrrrrrrr)))))))))
noncomputable def c_decompressor_huffmanBlock_lrrlrrrrrrrrllrrrlrrll:Code:=(lft (lft (rgt (rgt (lft (rgt (rgt (rgt (lft (lft c_decompressor_huffmanBlock_lrrlrrrrrrrr))))))))))
noncomputable def c_decompressor_huffmanBlock_lrrlrrrrrrrrllrrrlrrlll:Code:=(lft c_decompressor_huffmanBlock_lrrlrrrrrrrrllrrrlrrll)
theorem q_decompressor_huffmanBlock_:c_decompressor_huffmanBlock=.scope c_decompressor_huffmanBlock_l:=by kernel_rfl
theorem l_decompressor_huffmanBlock__0:findLabel c_decompressor_huffmanBlock_l 0=some (.seq .skip c_decompressor_huffmanBlock_lrr):=by kernel_rfl
theorem l_decompressor_huffmanBlock__1:findLabel c_decompressor_huffmanBlock_l 1=some (.seq .skip c_decompressor_huffmanBlock_lrrrr):=by kernel_rfl
theorem q_decompressor_huffmanBlock_lrrlrrrrrlrlll:c_decompressor_huffmanBlock_lrrlrrrrrlrlll=.loop c_decompressor_huffmanBlock_lrrlrrrrrlrllll:=by kernel_rfl
theorem q_decompressor_huffmanBlock_lrrlrrrrrrrlrlll:c_decompressor_huffmanBlock_lrrlrrrrrrrlrlll=.loop c_decompressor_huffmanBlock_lrrlrrrrrrrlrllll:=by kernel_rfl
theorem q_decompressor_huffmanBlock_lrrlrrrrrrrrllrrrlrrll:c_decompressor_huffmanBlock_lrrlrrrrrrrrllrrrlrrll=.loop c_decompressor_huffmanBlock_lrrlrrrrrrrrllrrrlrrlll:=by kernel_rfl
theorem e_decompressor_huffmanBlock (f:Nat) (m:Mem) (R:Value→Mem→Prop)
  (h:WPS PP 362 c_decompressor_huffmanBlock (retK PP r_decompressor_huffmanBlock R) [(0,.pointer (some ⟨f,0,none⟩))] m  ):
  CallM PP f_decompressor_huffmanBlock #[.pointer (some ⟨f,0,none⟩)] m R:=
 callM_enter ffOk mixedOk 362 L_decompressor_huffmanBlock Tryz.func66 b_decompressor_huffmanBlock Tryz.ntmps66 (by simp) (Eq.mpr (by kernel_rfl) h)
theorem p_decompressor_huffmanBlock_l (f:Nat) (m:Mem) (K:Kont)
  (h:∃ x1,cell? m ⟨f,1046,none⟩=some (.int .i64 x1)∧ifB (x1 == 0) (K.kg 0 [(0,.pointer (some ⟨f,0,none⟩)),(13,.int .i64 x1)] m) (ifB (x1 == 1) (K.kg 1 [(0,.pointer (some ⟨f,0,none⟩)),(13,.int .i64 x1)] m) (∃ p2,cell? m ⟨f,1050,none⟩=some (.pointer p2)∧CallM PP f_decompressor_huffSym #[.pointer (some ⟨f,0,none⟩),.pointer p2] m fun v5 m6=>∃ x3 v4,v5=.tuple #[.int .i64 x3,v4]∧isIfc v4=true∧ifB (!(isNil v4)) (StW m6 ⟨f,1048,none⟩ v4 fun m7=>K.kr [(0,.pointer (some ⟨f,0,none⟩)),(2,.int .i64 x3),(3,v4),(13,.int .i64 x1)] m7) (ifB (decide (x3 < 256)) (CallM PP f_dictDecoder_writeByte #[.pointer (some ⟨f,1037,none⟩),.int .u8 (IntKind.wrap .u8 x3)] m6 fun v8 m9=>v8=.tuple #[]∧CallM PP f_dictDecoder_availWrite #[.pointer (some ⟨f,1037,none⟩)] m9 fun v11 m12=>∃ x10,v11=.int .i64 x10∧ifB (x10 == 0) (CallM PP f_dictDecoder_readFlush #[.pointer (some ⟨f,1037,none⟩)] m12 fun v16 m17=>∃ a13 l14 k15,v16=.slice a13 l14 k15∧StW m17 ⟨f,1049,none⟩ (.slice a13 l14 k15) fun m18=>StW m18 ⟨f,1045,none⟩ (.func (.func f_decompressor_huffmanBlock) #[] #[]) fun m19=>StW m19 ⟨f,1046,none⟩ (.int .i64 0) fun m20=>K.kr [(0,.pointer (some ⟨f,0,none⟩)),(2,.int .i64 x3),(3,v4),(4,.int .u64 0),(5,.int .i64 0),(13,.int .i64 x1)] m20) (K.kg 0 [(0,.pointer (some ⟨f,0,none⟩)),(2,.int .i64 x3),(3,v4),(4,.int .u64 0),(5,.int .i64 0),(13,.int .i64 x1)] m12)) (ifB (x3 == 256) (CallM PP f_decompressor_finishBlock #[.pointer (some ⟨f,0,none⟩)] m6 fun v21 m22=>v21=.tuple #[]∧K.kr [(0,.pointer (some ⟨f,0,none⟩)),(2,.int .i64 x3),(3,v4),(4,.int .u64 0),(5,.int .i64 0),(13,.int .i64 x1)] m22) (ifB (decide (x3 < 265)) (WPS PP 362 c_decompressor_huffmanBlock_lrrlrrrrr (K.withN fun r m=>wpc PP FF 362 L_decompressor_huffmanBlock c_decompressor_huffmanBlock_lrrr K r m) [(0,.pointer (some ⟨f,0,none⟩)),(2,.int .i64 x3),(3,v4),(4,.int .u64 0),(5,.int .i64 (IntKind.wrap .i64 (x3 - 254))),(13,.int .i64 x1)] m6) (ifB (decide (x3 < 269)) (WPS PP 362 c_decompressor_huffmanBlock_lrrlrrrrr (K.withN fun r m=>wpc PP FF 362 L_decompressor_huffmanBlock c_decompressor_huffmanBlock_lrrr K r m) [(0,.pointer (some ⟨f,0,none⟩)),(2,.int .i64 x3),(3,v4),(4,.int .u64 1),(5,.int .i64 (IntKind.wrap .i64 ((IntKind.wrap .i64 (x3 * 2)) - 519))),(13,.int .i64 x1)] m6) (ifB (decide (x3 < 273)) (WPS PP 362 c_decompressor_huffmanBlock_lrrlrrrrr (K.withN fun r m=>wpc PP FF 362 L_decompressor_huffmanBlock c_decompressor_huffmanBlock_lrrr K r m) [(0,.pointer (some ⟨f,0,none⟩)),(2,.int .i64 x3),(3,v4),(4,.int .u64 2),(5,.int .i64 (IntKind.wrap .i64 ((IntKind.wrap .i64 (x3 * 4)) - 1057))),(13,.int .i64 x1)] m6) (ifB (decide (x3 < 277)) (WPS PP 362 c_decompressor_huffmanBlock_lrrlrrrrr (K.withN fun r m=>wpc PP FF 362 L_decompressor_huffmanBlock c_decompressor_huffmanBlock_lrrr K r m) [(0,.pointer (some ⟨f,0,none⟩)),(2,.int .i64 x3),(3,v4),(4,.int .u64 3),(5,.int .i64 (IntKind.wrap .i64 ((IntKind.wrap .i64 (x3 * 8)) - 2149))),(13,.int .i64 x1)] m6) (ifB (decide (x3 < 281)) (WPS PP 362 c_decompressor_huffmanBlock_lrrlrrrrr (K.withN fun r m=>wpc PP FF 362 L_decompressor_huffmanBlock c_decompressor_huffmanBlock_lrrr K r m) [(0,.pointer (some ⟨f,0,none⟩)),(2,.int .i64 x3),(3,v4),(4,.int .u64 4),(5,.int .i64 (IntKind.wrap .i64 ((IntKind.wrap .i64 (x3 * 16)) - 4365))),(13,.int .i64 x1)] m6) (ifB (decide (x3 < 285)) (WPS PP 362 c_decompressor_huffmanBlock_lrrlrrrrr (K.withN fun r m=>wpc PP FF 362 L_decompressor_huffmanBlock c_decompressor_huffmanBlock_lrrr K r m) [(0,.pointer (some ⟨f,0,none⟩)),(2,.int .i64 x3),(3,v4),(4,.int .u64 5),(5,.int .i64 (IntKind.wrap .i64 ((IntKind.wrap .i64 (x3 * 32)) - 8861))),(13,.int .i64 x1)] m6) (ifB (decide (x3 < 286)) (WPS PP 362 c_decompressor_huffmanBlock_lrrlrrrrr (K.withN fun r m=>wpc PP FF 362 L_decompressor_huffmanBlock c_decompressor_huffmanBlock_lrrr K r m) [(0,.pointer (some ⟨f,0,none⟩)),(2,.int .i64 x3),(3,v4),(4,.int .u64 0),(5,.int .i64 258),(13,.int .i64 x1)] m6) (∃ x23,cell? m6 ⟨f,2,none⟩=some (.int .i64 x23)∧StW m6 ⟨f,1048,none⟩ (.iface t_flate_CorruptInputError (.int .i64 x23)) fun m24=>K.kr [(0,.pointer (some ⟨f,0,none⟩)),(2,.int .i64 x3),(3,v4),(4,.int .u64 0),(5,.int .i64 0),(13,.int .i64 x1)] m24))))))))))))  ):
  wpc PP FF 362 L_decompressor_huffmanBlock c_decompressor_huffmanBlock_l K [(0,.pointer (some ⟨f,0,none⟩))] m:=
 Eq.mpr (by kernel_rfl) h
theorem p_decompressor_huffmanBlock_lrr (f:Nat) (m:Mem) (K:Kont)
  (h:∃ p1,cell? m ⟨f,1050,none⟩=some (.pointer p1)∧CallM PP f_decompressor_huffSym #[.pointer (some ⟨f,0,none⟩),.pointer p1] m fun v4 m5=>∃ x2 v3,v4=.tuple #[.int .i64 x2,v3]∧isIfc v3=true∧ifB (!(isNil v3)) (StW m5 ⟨f,1048,none⟩ v3 fun m6=>K.kr [(0,.pointer (some ⟨f,0,none⟩)),(2,.int .i64 x2),(3,v3)] m6) (ifB (decide (x2 < 256)) (CallM PP f_dictDecoder_writeByte #[.pointer (some ⟨f,1037,none⟩),.int .u8 (IntKind.wrap .u8 x2)] m5 fun v7 m8=>v7=.tuple #[]∧CallM PP f_dictDecoder_availWrite #[.pointer (some ⟨f,1037,none⟩)] m8 fun v10 m11=>∃ x9,v10=.int .i64 x9∧ifB (x9 == 0) (CallM PP f_dictDecoder_readFlush #[.pointer (some ⟨f,1037,none⟩)] m11 fun v15 m16=>∃ a12 l13 k14,v15=.slice a12 l13 k14∧StW m16 ⟨f,1049,none⟩ (.slice a12 l13 k14) fun m17=>StW m17 ⟨f,1045,none⟩ (.func (.func f_decompressor_huffmanBlock) #[] #[]) fun m18=>StW m18 ⟨f,1046,none⟩ (.int .i64 0) fun m19=>K.kr [(0,.pointer (some ⟨f,0,none⟩)),(2,.int .i64 x2),(3,v3),(4,.int .u64 0),(5,.int .i64 0)] m19) (K.kg 0 [(0,.pointer (some ⟨f,0,none⟩)),(2,.int .i64 x2),(3,v3),(4,.int .u64 0),(5,.int .i64 0)] m11)) (ifB (x2 == 256) (CallM PP f_decompressor_finishBlock #[.pointer (some ⟨f,0,none⟩)] m5 fun v20 m21=>v20=.tuple #[]∧K.kr [(0,.pointer (some ⟨f,0,none⟩)),(2,.int .i64 x2),(3,v3),(4,.int .u64 0),(5,.int .i64 0)] m21) (ifB (decide (x2 < 265)) (WPS PP 362 c_decompressor_huffmanBlock_lrrlrrrrr (K.withN fun r m=>wpc PP FF 362 L_decompressor_huffmanBlock c_decompressor_huffmanBlock_lrrr K r m) [(0,.pointer (some ⟨f,0,none⟩)),(2,.int .i64 x2),(3,v3),(4,.int .u64 0),(5,.int .i64 (IntKind.wrap .i64 (x2 - 254)))] m5) (ifB (decide (x2 < 269)) (WPS PP 362 c_decompressor_huffmanBlock_lrrlrrrrr (K.withN fun r m=>wpc PP FF 362 L_decompressor_huffmanBlock c_decompressor_huffmanBlock_lrrr K r m) [(0,.pointer (some ⟨f,0,none⟩)),(2,.int .i64 x2),(3,v3),(4,.int .u64 1),(5,.int .i64 (IntKind.wrap .i64 ((IntKind.wrap .i64 (x2 * 2)) - 519)))] m5) (ifB (decide (x2 < 273)) (WPS PP 362 c_decompressor_huffmanBlock_lrrlrrrrr (K.withN fun r m=>wpc PP FF 362 L_decompressor_huffmanBlock c_decompressor_huffmanBlock_lrrr K r m) [(0,.pointer (some ⟨f,0,none⟩)),(2,.int .i64 x2),(3,v3),(4,.int .u64 2),(5,.int .i64 (IntKind.wrap .i64 ((IntKind.wrap .i64 (x2 * 4)) - 1057)))] m5) (ifB (decide (x2 < 277)) (WPS PP 362 c_decompressor_huffmanBlock_lrrlrrrrr (K.withN fun r m=>wpc PP FF 362 L_decompressor_huffmanBlock c_decompressor_huffmanBlock_lrrr K r m) [(0,.pointer (some ⟨f,0,none⟩)),(2,.int .i64 x2),(3,v3),(4,.int .u64 3),(5,.int .i64 (IntKind.wrap .i64 ((IntKind.wrap .i64 (x2 * 8)) - 2149)))] m5) (ifB (decide (x2 < 281)) (WPS PP 362 c_decompressor_huffmanBlock_lrrlrrrrr (K.withN fun r m=>wpc PP FF 362 L_decompressor_huffmanBlock c_decompressor_huffmanBlock_lrrr K r m) [(0,.pointer (some ⟨f,0,none⟩)),(2,.int .i64 x2),(3,v3),(4,.int .u64 4),(5,.int .i64 (IntKind.wrap .i64 ((IntKind.wrap .i64 (x2 * 16)) - 4365)))] m5) (ifB (decide (x2 < 285)) (WPS PP 362 c_decompressor_huffmanBlock_lrrlrrrrr (K.withN fun r m=>wpc PP FF 362 L_decompressor_huffmanBlock c_decompressor_huffmanBlock_lrrr K r m) [(0,.pointer (some ⟨f,0,none⟩)),(2,.int .i64 x2),(3,v3),(4,.int .u64 5),(5,.int .i64 (IntKind.wrap .i64 ((IntKind.wrap .i64 (x2 * 32)) - 8861)))] m5) (ifB (decide (x2 < 286)) (WPS PP 362 c_decompressor_huffmanBlock_lrrlrrrrr (K.withN fun r m=>wpc PP FF 362 L_decompressor_huffmanBlock c_decompressor_huffmanBlock_lrrr K r m) [(0,.pointer (some ⟨f,0,none⟩)),(2,.int .i64 x2),(3,v3),(4,.int .u64 0),(5,.int .i64 258)] m5) (∃ x22,cell? m5 ⟨f,2,none⟩=some (.int .i64 x22)∧StW m5 ⟨f,1048,none⟩ (.iface t_flate_CorruptInputError (.int .i64 x22)) fun m23=>K.kr [(0,.pointer (some ⟨f,0,none⟩)),(2,.int .i64 x2),(3,v3),(4,.int .u64 0),(5,.int .i64 0)] m23))))))))))  ):
  wpc PP FF 362 L_decompressor_huffmanBlock c_decompressor_huffmanBlock_lrr K [(0,.pointer (some ⟨f,0,none⟩))] m:=
 Eq.mpr (by kernel_rfl) h
theorem p_decompressor_huffmanBlock_lrrrr (f:Nat) (m:Mem) (K:Kont)
  (h:∃ x1,cell? m ⟨f,1053,none⟩=some (.int .i64 x1)∧∃ x2,cell? m ⟨f,1052,none⟩=some (.int .i64 x2)∧CallM PP f_dictDecoder_tryWriteCopy #[.pointer (some ⟨f,1037,none⟩),.int .i64 x1,.int .i64 x2] m fun v4 m5=>∃ x3,v4=.int .i64 x3∧ifB (x3 == 0) (∃ x6,cell? m5 ⟨f,1053,none⟩=some (.int .i64 x6)∧∃ x7,cell? m5 ⟨f,1052,none⟩=some (.int .i64 x7)∧CallM PP f_dictDecoder_writeCopy #[.pointer (some ⟨f,1037,none⟩),.int .i64 x6,.int .i64 x7] m5 fun v9 m10=>∃ x8,v9=.int .i64 x8∧WPS PP 362 c_decompressor_huffmanBlock_lrrrrrr K [(0,.pointer (some ⟨f,0,none⟩)),(9,.int .i64 x8)] m10) (WPS PP 362 c_decompressor_huffmanBlock_lrrrrrr K [(0,.pointer (some ⟨f,0,none⟩)),(9,.int .i64 x3)] m5)  ):
  wpc PP FF 362 L_decompressor_huffmanBlock c_decompressor_huffmanBlock_lrrrr K [(0,.pointer (some ⟨f,0,none⟩))] m:=
 Eq.mpr (by kernel_rfl) h
theorem p_decompressor_huffmanBlock_lrrlrrrrrlrllll (f:Nat) (x1:Int) (x2:Int) (m:Mem) (K:Kont)
  (h:∃ x3,cell? m ⟨f,4,none⟩=some (.int .u64 x3)∧ifB (decide (x3 < x1)) (CallM PP f_decompressor_moreBits #[.pointer (some ⟨f,0,none⟩)] m fun v5 m6=>∃ v4,v5=v4∧isIfc v4=true∧ifB (!(isNil v4)) (StW m6 ⟨f,1048,none⟩ v4 fun m7=>K.kr [(0,.pointer (some ⟨f,0,none⟩)),(3,v4),(4,.int .u64 x1),(5,.int .i64 x2)] m7) (K.kn [(0,.pointer (some ⟨f,0,none⟩)),(3,v4),(4,.int .u64 x1),(5,.int .i64 x2)] m6)) (K.kx 2 [(0,.pointer (some ⟨f,0,none⟩)),(4,.int .u64 x1),(5,.int .i64 x2)] m)):
  wpc PP FF 362 L_decompressor_huffmanBlock c_decompressor_huffmanBlock_lrrlrrrrrlrllll K [(0,.pointer (some ⟨f,0,none⟩)),(4,.int .u64 x1),(5,.int .i64 x2)] m:=
 Eq.mpr (by kernel_rfl) h
theorem p_decompressor_huffmanBlock_lrrlrrrrrrrlrllll (f:Nat) (x1:Int) (m:Mem) (K:Kont)
  (h:∃ x2,cell? m ⟨f,4,none⟩=some (.int .u64 x2)∧ifB (decide (x2 < 5)) (CallM PP f_decompressor_moreBits #[.pointer (some ⟨f,0,none⟩)] m fun v4 m5=>∃ v3,v4=v3∧isIfc v3=true∧ifB (!(isNil v3)) (StW m5 ⟨f,1048,none⟩ v3 fun m6=>K.kr [(0,.pointer (some ⟨f,0,none⟩)),(3,v3),(5,.int .i64 x1)] m6) (K.kn [(0,.pointer (some ⟨f,0,none⟩)),(3,v3),(5,.int .i64 x1)] m5)) (K.kx 4 [(0,.pointer (some ⟨f,0,none⟩)),(5,.int .i64 x1)] m)):
  wpc PP FF 362 L_decompressor_huffmanBlock c_decompressor_huffmanBlock_lrrlrrrrrrrlrllll K [(0,.pointer (some ⟨f,0,none⟩)),(5,.int .i64 x1)] m:=
 Eq.mpr (by kernel_rfl) h
theorem p_decompressor_huffmanBlock_lrrlrrrrrrrrllrrrlrrlll (f:Nat) (x1:Int) (x2:Int) (x3:Int) (m:Mem) (K:Kont)
  (h:∃ x4,cell? m ⟨f,4,none⟩=some (.int .u64 x4)∧ifB (decide (x4 < x2)) (CallM PP f_decompressor_moreBits #[.pointer (some ⟨f,0,none⟩)] m fun v6 m7=>∃ v5,v6=v5∧isIfc v5=true∧ifB (!(isNil v5)) (StW m7 ⟨f,1048,none⟩ v5 fun m8=>K.kr [(0,.pointer (some ⟨f,0,none⟩)),(3,v5),(5,.int .i64 x1),(7,.int .u64 x2),(8,.int .i64 x3)] m8) (K.kn [(0,.pointer (some ⟨f,0,none⟩)),(3,v5),(5,.int .i64 x1),(7,.int .u64 x2),(8,.int .i64 x3)] m7)) (K.kx 7 [(0,.pointer (some ⟨f,0,none⟩)),(5,.int .i64 x1),(7,.int .u64 x2),(8,.int .i64 x3)] m)):
  wpc PP FF 362 L_decompressor_huffmanBlock c_decompressor_huffmanBlock_lrrlrrrrrrrrllrrrlrrlll K [(0,.pointer (some ⟨f,0,none⟩)),(5,.int .i64 x1),(7,.int .u64 x2),(8,.int .i64 x3)] m:=
 Eq.mpr (by kernel_rfl) h
theorem p_decompressor_huffmanBlock_lrrr (f:Nat) (m:Mem) (K:Kont)
  (h:∃ x1,cell? m ⟨f,1053,none⟩=some (.int .i64 x1)∧∃ x2,cell? m ⟨f,1052,none⟩=some (.int .i64 x2)∧CallM PP f_dictDecoder_tryWriteCopy #[.pointer (some ⟨f,1037,none⟩),.int .i64 x1,.int .i64 x2] m fun v4 m5=>∃ x3,v4=.int .i64 x3∧ifB (x3 == 0) (∃ x6,cell? m5 ⟨f,1053,none⟩=some (.int .i64 x6)∧∃ x7,cell? m5 ⟨f,1052,none⟩=some (.int .i64 x7)∧CallM PP f_dictDecoder_writeCopy #[.pointer (some ⟨f,1037,none⟩),.int .i64 x6,.int .i64 x7] m5 fun v9 m10=>∃ x8,v9=.int .i64 x8∧WPS PP 362 c_decompressor_huffmanBlock_lrrrrrr K [(0,.pointer (some ⟨f,0,none⟩)),(9,.int .i64 x8)] m10) (WPS PP 362 c_decompressor_huffmanBlock_lrrrrrr K [(0,.pointer (some ⟨f,0,none⟩)),(9,.int .i64 x3)] m5)  ):
  wpc PP FF 362 L_decompressor_huffmanBlock c_decompressor_huffmanBlock_lrrr K [(0,.pointer (some ⟨f,0,none⟩))] m:=
 Eq.mpr (by kernel_rfl) h
def k_decompressor_huffmanBlock_lrrrrrr:List Nat:=[0,9]
theorem p_decompressor_huffmanBlock_lrrrrrr (f:Nat) (x1:Int) (m:Mem) (K:Kont)
  (h:∃ x2,cell? m ⟨f,1052,none⟩=some (.int .i64 x2)∧StW m ⟨f,1052,none⟩ (.int .i64 (IntKind.wrap .i64 (x2 - x1))) fun m3=>CallM PP f_dictDecoder_availWrite #[.pointer (some ⟨f,1037,none⟩)] m3 fun v5 m6=>∃ x4,v5=.int .i64 x4∧ifB (x4 == 0) (CallM PP f_dictDecoder_readFlush #[.pointer (some ⟨f,1037,none⟩)] m6 fun v10 m11=>∃ a7 l8 k9,v10=.slice a7 l8 k9∧StW m11 ⟨f,1049,none⟩ (.slice a7 l8 k9) fun m12=>StW m12 ⟨f,1045,none⟩ (.func (.func f_decompressor_huffmanBlock) #[] #[]) fun m13=>StW m13 ⟨f,1046,none⟩ (.int .i64 1) fun m14=>K.kr [(0,.pointer (some ⟨f,0,none⟩)),(9,.int .i64 x1)] m14) (∃ x15,cell? m6 ⟨f,1052,none⟩=some (.int .i64 x15)∧ifB (decide (x15 > 0)) (CallM PP f_dictDecoder_readFlush #[.pointer (some ⟨f,1037,none⟩)] m6 fun v19 m20=>∃ a16 l17 k18,v19=.slice a16 l17 k18∧StW m20 ⟨f,1049,none⟩ (.slice a16 l17 k18) fun m21=>StW m21 ⟨f,1045,none⟩ (.func (.func f_decompressor_huffmanBlock) #[] #[]) fun m22=>StW m22 ⟨f,1046,none⟩ (.int .i64 1) fun m23=>K.kr [(0,.pointer (some ⟨f,0,none⟩)),(9,.int .i64 x1)] m23) (K.kg 0 [(0,.pointer (some ⟨f,0,none⟩)),(9,.int .i64 x1)] m6))):
  wpc PP FF 362 L_decompressor_huffmanBlock c_decompressor_huffmanBlock_lrrrrrr K [(0,.pointer (some ⟨f,0,none⟩)),(9,.int .i64 x1)] m:=
 Eq.mpr (by kernel_rfl) h
def k_decompressor_huffmanBlock_lrrlrrrrr:List Nat:=[0,4,5]
theorem p_decompressor_huffmanBlock_lrrlrrrrr (f:Nat) (x1:Int) (x2:Int) (m:Mem) (K:Kont)
  (h:ifB (decide (x1 > 0)) (WPS PP 362 c_decompressor_huffmanBlock_lrrlrrrrrlrlll (((K.withN fun r m=>WPS PP 362 c_decompressor_huffmanBlock_lrrlrrrrrr K r m).withN fun r m=>WPS PP 362 c_decompressor_huffmanBlock_lrrlrrrrrlrlr (K.withN fun r m=>WPS PP 362 c_decompressor_huffmanBlock_lrrlrrrrrr K r m) r m).withX 2) [(0,.pointer (some ⟨f,0,none⟩)),(4,.int .u64 x1),(5,.int .i64 x2)] m) (WPS PP 362 c_decompressor_huffmanBlock_lrrlrrrrrr K [(0,.pointer (some ⟨f,0,none⟩)),(4,.int .u64 x1),(5,.int .i64 x2)] m)):
  wpc PP FF 362 L_decompressor_huffmanBlock c_decompressor_huffmanBlock_lrrlrrrrr K [(0,.pointer (some ⟨f,0,none⟩)),(4,.int .u64 x1),(5,.int .i64 x2)] m:=
 Eq.mpr (by kernel_rfl) h
def k_decompressor_huffmanBlock_lrrlrrrrrr:List Nat:=[0,5]
theorem p_decompressor_huffmanBlock_lrrlrrrrrr (f:Nat) (x1:Int) (m:Mem) (K:Kont)
  (h:∃ p2,cell? m ⟨f,1051,none⟩=some (.pointer p2)∧ifB p2.isNone (WPS PP 362 c_decompressor_huffmanBlock_lrrlrrrrrrrlrlll (((K.withN fun r m=>WPS PP 362 c_decompressor_huffmanBlock_lrrlrrrrrrrr K r m).withN fun r m=>WPS PP 362 c_decompressor_huffmanBlock_lrrlrrrrrrrlrlr (K.withN fun r m=>WPS PP 362 c_decompressor_huffmanBlock_lrrlrrrrrrrr K r m) r m).withX 4) [(0,.pointer (some ⟨f,0,none⟩)),(5,.int .i64 x1),(6,.int .i64 0)] m) (∃ p3,cell? m ⟨f,1051,none⟩=some (.pointer p3)∧CallM PP f_decompressor_huffSym #[.pointer (some ⟨f,0,none⟩),.pointer p3] m fun v6 m7=>∃ x4 v5,v6=.tuple #[.int .i64 x4,v5]∧isIfc v5=true∧ifB (!(isNil v5)) (StW m7 ⟨f,1048,none⟩ v5 fun m8=>K.kr [(0,.pointer (some ⟨f,0,none⟩)),(3,v5),(5,.int .i64 x1),(6,.int .i64 x4)] m8) (WPS PP 362 c_decompressor_huffmanBlock_lrrlrrrrrrrr K [(0,.pointer (some ⟨f,0,none⟩)),(3,v5),(5,.int .i64 x1),(6,.int .i64 x4)] m7))):
  wpc PP FF 362 L_decompressor_huffmanBlock c_decompressor_huffmanBlock_lrrlrrrrrr K [(0,.pointer (some ⟨f,0,none⟩)),(5,.int .i64 x1)] m:=
 Eq.mpr (by kernel_rfl) h
def k_decompressor_huffmanBlock_lrrlrrrrrlrlr:List Nat:=[0,4,5]
theorem p_decompressor_huffmanBlock_lrrlrrrrrlrlr (f:Nat) (x1:Int) (x2:Int) (m:Mem) (K:Kont)
  (h:∃ x3,cell? m ⟨f,3,none⟩=some (.int .u32 x3)∧0≤x1∧IntKind.u32=IntKind.u32∧∃ x4,cell? m ⟨f,3,none⟩=some (.int .u32 x4)∧0≤x1∧StW m ⟨f,3,none⟩ (.int .u32 (shrOp .u32 x4 x1)) fun m5=>∃ x6,cell? m5 ⟨f,4,none⟩=some (.int .u64 x6)∧StW m5 ⟨f,4,none⟩ (.int .u64 (IntKind.wrap .u64 (x6 - x1))) fun m7=>K.kn [(0,.pointer (some ⟨f,0,none⟩)),(4,.int .u64 x1),(5,.int .i64 (IntKind.wrap .i64 (x2+(IntKind.wrap .i64 (bitsOp .and .u32 x3 (IntKind.wrap .u32 ((shlOp .u32 1 x1) - 1)))))))] m7):
  wpc PP FF 362 L_decompressor_huffmanBlock c_decompressor_huffmanBlock_lrrlrrrrrlrlr K [(0,.pointer (some ⟨f,0,none⟩)),(4,.int .u64 x1),(5,.int .i64 x2)] m:=
 Eq.mpr (by kernel_rfl) h
def k_decompressor_huffmanBlock_lrrlrrrrrrrr:List Nat:=[0,5,6]
theorem p_decompressor_huffmanBlock_lrrlrrrrrrrr (f:Nat) (x1:Int) (x2:Int) (m:Mem) (K:Kont)
  (h:ifB (decide (x2 < 4)) (WPS PP 362 c_decompressor_huffmanBlock_lrrlrrrrrrrrr K [(0,.pointer (some ⟨f,0,none⟩)),(5,.int .i64 x1),(6,.int .i64 (IntKind.wrap .i64 (x2+1)))] m) (ifB (decide (x2 < 30)) (0≤(1:Int)∧IntKind.i64=IntKind.i64∧0≤(shrOp .u64 (IntKind.wrap .u64 (IntKind.wrap .i64 (x2 - 2))) 1)∧WPS PP 362 c_decompressor_huffmanBlock_lrrlrrrrrrrrllrrrlrrll ((((K.withN fun r m=>WPS PP 362 c_decompressor_huffmanBlock_lrrlrrrrrrrrr K r m).withX 6).withN fun r m=>WPS PP 362 c_decompressor_huffmanBlock_lrrlrrrrrrrrllrrrlrrr ((K.withN fun r m=>WPS PP 362 c_decompressor_huffmanBlock_lrrlrrrrrrrrr K r m).withX 6) r m).withX 7) [(0,.pointer (some ⟨f,0,none⟩)),(5,.int .i64 x1),(6,.int .i64 x2),(7,.int .u64 (shrOp .u64 (IntKind.wrap .u64 (IntKind.wrap .i64 (x2 - 2))) 1)),(8,.int .i64 (shlOp .i64 (bitsOp .and .i64 x2 1) (shrOp .u64 (IntKind.wrap .u64 (IntKind.wrap .i64 (x2 - 2))) 1)))] m) (∃ x3,cell? m ⟨f,2,none⟩=some (.int .i64 x3)∧StW m ⟨f,1048,none⟩ (.iface t_flate_CorruptInputError (.int .i64 x3)) fun m4=>K.kr [(0,.pointer (some ⟨f,0,none⟩)),(5,.int .i64 x1),(6,.int .i64 x2)] m4))):
  wpc PP FF 362 L_decompressor_huffmanBlock c_decompressor_huffmanBlock_lrrlrrrrrrrr K [(0,.pointer (some ⟨f,0,none⟩)),(5,.int .i64 x1),(6,.int .i64 x2)] m:=
 Eq.mpr (by kernel_rfl) h
def k_decompressor_huffmanBlock_lrrlrrrrrrrlrlr:List Nat:=[0,5]
theorem p_decompressor_huffmanBlock_lrrlrrrrrrrlrlr (f:Nat) (x1:Int) (m:Mem) (K:Kont)
  (h:∃ x2,cell? m ⟨f,3,none⟩=some (.int .u32 x2)∧IntKind.u32=IntKind.u32∧0≤(3:Int)∧CallM PP f_bits_Reverse8 #[.int .u8 (IntKind.wrap .u8 (shlOp .u32 (bitsOp .and .u32 x2 31) 3))] m fun v4 m5=>∃ x3,v4=.int .u8 x3∧∃ x6,cell? m5 ⟨f,3,none⟩=some (.int .u32 x6)∧0≤(5:Int)∧StW m5 ⟨f,3,none⟩ (.int .u32 (shrOp .u32 x6 5)) fun m7=>∃ x8,cell? m7 ⟨f,4,none⟩=some (.int .u64 x8)∧StW m7 ⟨f,4,none⟩ (.int .u64 (IntKind.wrap .u64 (x8 - 5))) fun m9=>K.kn [(0,.pointer (some ⟨f,0,none⟩)),(5,.int .i64 x1),(6,.int .i64 (IntKind.wrap .i64 x3))] m9):
  wpc PP FF 362 L_decompressor_huffmanBlock c_decompressor_huffmanBlock_lrrlrrrrrrrlrlr K [(0,.pointer (some ⟨f,0,none⟩)),(5,.int .i64 x1)] m:=
 Eq.mpr (by kernel_rfl) h
def k_decompressor_huffmanBlock_lrrlrrrrrrrrr:List Nat:=[0,5,6]
theorem p_decompressor_huffmanBlock_lrrlrrrrrrrrr (f:Nat) (x1:Int) (x2:Int) (m:Mem) (K:Kont)
  (h:CallM PP f_dictDecoder_histSize #[.pointer (some ⟨f,1037,none⟩)] m fun v4 m5=>∃ x3,v4=.int .i64 x3∧ifB (decide (x2 > x3)) (∃ x6,cell? m5 ⟨f,2,none⟩=some (.int .i64 x6)∧StW m5 ⟨f,1048,none⟩ (.iface t_flate_CorruptInputError (.int .i64 x6)) fun m7=>K.kr [(0,.pointer (some ⟨f,0,none⟩)),(5,.int .i64 x1),(6,.int .i64 x2)] m7) (StW m5 ⟨f,1052,none⟩ (.int .i64 x1) fun m8=>StW m8 ⟨f,1053,none⟩ (.int .i64 x2) fun m9=>K.kg 1 [(0,.pointer (some ⟨f,0,none⟩)),(5,.int .i64 x1),(6,.int .i64 x2)] m9)):
  wpc PP FF 362 L_decompressor_huffmanBlock c_decompressor_huffmanBlock_lrrlrrrrrrrrr K [(0,.pointer (some ⟨f,0,none⟩)),(5,.int .i64 x1),(6,.int .i64 x2)] m:=
 Eq.mpr (by kernel_rfl) h
def k_decompressor_huffmanBlock_lrrlrrrrrrrrllrrrlrrr:List Nat:=[0,5,7,8]
theorem p_decompressor_huffmanBlock_lrrlrrrrrrrrllrrrlrrr (f:Nat) (x1:Int) (x2:Int) (x3:Int) (m:Mem) (K:Kont)
  (h:∃ x4,cell? m ⟨f,3,none⟩=some (.int .u32 x4)∧0≤x2∧IntKind.u32=IntKind.u32∧IntKind.i64=IntKind.i64∧∃ x5,cell? m ⟨f,3,none⟩=some (.int .u32 x5)∧0≤x2∧StW m ⟨f,3,none⟩ (.int .u32 (shrOp .u32 x5 x2)) fun m6=>∃ x7,cell? m6 ⟨f,4,none⟩=some (.int .u64 x7)∧StW m6 ⟨f,4,none⟩ (.int .u64 (IntKind.wrap .u64 (x7 - x2))) fun m8=>0≤(IntKind.wrap .u64 (x2+1))∧K.kn [(0,.pointer (some ⟨f,0,none⟩)),(5,.int .i64 x1),(6,.int .i64 (IntKind.wrap .i64 ((IntKind.wrap .i64 ((shlOp .i64 1 (IntKind.wrap .u64 (x2+1)))+1))+(bitsOp .or .i64 x3 (IntKind.wrap .i64 (bitsOp .and .u32 x4 (IntKind.wrap .u32 ((shlOp .u32 1 x2) - 1)))))))),(7,.int .u64 x2),(8,.int .i64 (bitsOp .or .i64 x3 (IntKind.wrap .i64 (bitsOp .and .u32 x4 (IntKind.wrap .u32 ((shlOp .u32 1 x2) - 1))))))] m8):
  wpc PP FF 362 L_decompressor_huffmanBlock c_decompressor_huffmanBlock_lrrlrrrrrrrrllrrrlrrr K [(0,.pointer (some ⟨f,0,none⟩)),(5,.int .i64 x1),(7,.int .u64 x2),(8,.int .i64 x3)] m:=
 Eq.mpr (by kernel_rfl) h
def L_decompressor_readHuffman:List Nat:=[0,2,3,4,5,6,7,8,9,10,11,12,13,14,15,16,17,18,23,27,37,58,94,101,105,138,160,171,181,184,195,197,200,215,217,224,228,261,269,310,328]
def r_decompressor_readHuffman:List ResultVar:=[.tmp 2]
noncomputable def c_decompressor_readHuffman:Code:=(Go.Proofs.Tryz.f67.body).getD .skip
theorem b_decompressor_readHuffman:Go.Proofs.Tryz.f67.body=some c_decompressor_readHuffman:=by kernel_rfl
noncomputable def c_decompressor_readHuffman_rr:Code:=(rgt (rgt c_decompressor_readHuffman))
noncomputable def c_decompressor_readHuffman_rll:Code:=(lft (lft (rgt c_decompressor_readHuffman)))
noncomputable def c_decompressor_readHuffman_rlll:Code:=(lft c_decompressor_readHuffman_rll)
noncomputable def c_decompressor_readHuffman_rrrrrrrrrrrr:Code:=(rgt (rgt (rgt (rgt (rgt (rgt (rgt (rgt (rgt (rgt c_decompressor_readHuffman_rr))))))))))
noncomputable def c_decompressor_readHuffman_rrrrrrrrrrrrr:Code:=(rgt c_decompressor_readHuffman_rrrrrrrrrrrr)
noncomputable def c_decompressor_readHuffman_rrrrrrrrrrrlrl:Code:=(lft (rgt (lft (rgt (rgt (rgt (rgt (rgt (rgt (rgt (rgt (rgt c_decompressor_readHuffman_rr))))))))))))
noncomputable def c_decompressor_readHuffman_rrrrrrrrrrrlrll:Code:=(lft c_decompressor_readHuffman_rrrrrrrrrrrlrl)
noncomputable def c_decompressor_readHuffman_rrrrrrrrrrrrlrl:Code:=(lft (rgt (lft c_decompressor_readHuffman_rrrrrrrrrrrr)))
noncomputable def c_decompressor_readHuffman_rrrrrrrrrrrrrrr:Code:=(rgt (rgt c_decompressor_readHuffman_rrrrrrrrrrrrr))
noncomputable def c_decompressor_readHuffman_rrrrrrrrrrrrlrll:Code:=(lft c_decompressor_readHuffman_rrrrrrrrrrrrlrl)
noncomputable def c_decompressor_readHuffman_rrrrrrrrrrrrrrlrl:Code:=(lft (rgt (lft (rgt c_decompressor_readHuffman_rrrrrrrrrrrrr))))
noncomputable def c_decompressor_readHuffman_rrrrrrrrrrrlrllrr:Code:=(rgt (rgt c_decompressor_readHuffman_rrrrrrrrrrrlrll))
noncomputable def c_decompressor_readHuffman_rrrrrrrrrrrrrrrrr:Code:=(rgt (rgt c_decompressor_readHuffman_rrrrrrrrrrrrrrr))
noncomputable def c_decompressor_readHuffman_rrrrrrrrrrrrrrlrll:Code:=(lft c_decompressor_readHuffman_rrrrrrrrrrrrrrlrl)
noncomputable def c_decompressor_readHuffman_rrrrrrrrrrrlrllrllr:Code:=(rgt (lft (lft (rgt c_decompressor_readHuffman_rrrrrrrrrrrlrll))))
noncomputable def c_decompressor_readHuffman_rrrrrrrrrrrlrllrllll:Code:=(lft (lft (lft (lft (rgt c_decompressor_readHuffman_rrrrrrrrrrrlrll)))))
noncomputable def c_decompressor_readHuffman_rrrrrrrrrrrlrllrlllll:Code:=(lft c_decompressor_readHuffman_rrrrrrrrrrrlrllrllll)
noncomputable def c_decompressor_readHuffman_rrrrrrrrrrrrrrlrllrlrrrrrrr:Code:=(rgt (rgt (rgt (rgt (rgt (rgt (rgt (lft (rgt c_decompressor_readHuffman_rrrrrrrrrrrrrrlrll)))))))))
noncomputable def c_decompressor_readHuffman_rrrrrrrrrrrrrrlrllrlrrrrrrrr:Code:=(rgt c_decompressor_readHuffman_rrrrrrrrrrrrrrlrllrlrrrrrrr)
noncomputable def c_decompressor_readHuffman_rrrrrrrrrrrrrrlrllrlrrrrrrrll:Code:=(lft (lft c_decompressor_readHuffman_rrrrrrrrrrrrrrlrllrlrrrrrrr))
noncomputable def c_decompressor_readHuffman_rrrrrrrrrrrrrrlrllrlrrrrrrrlll:Code:=(lft c_decompressor_readHuffman_rrrrrrrrrrrrrrlrllrlrrrrrrrll)
noncomputable def c_decompressor_readHuffman_rrrrrrrrrrrrrrlrllrlrrrrrrrrrrrrrl:Code:=(lft (rgt (rgt (rgt (rgt (rgt c_decompressor_readHuffman_rrrrrrrrrrrrrrlrllrlrrrrrrrr))))))
noncomputable def c_decompressor_readHuffman_rrrrrrrrrrrrrrlrllrlrrrrrrrrrrrrrll:Code:=(lft c_decompressor_readHuffman_rrrrrrrrrrrrrrlrllrlrrrrrrrrrrrrrl)
theorem q_decompressor_readHuffman_rll:c_decompressor_readHuffman_rll=.loop c_decompressor_readHuffman_rlll:=by kernel_rfl
theorem q_decompressor_readHuffman_rrrrrrrrrrrlrl:c_decompressor_readHuffman_rrrrrrrrrrrlrl=.loop c_decompressor_readHuffman_rrrrrrrrrrrlrll:=by kernel_rfl
theorem q_decompressor_readHuffman_rrrrrrrrrrrrlrl:c_decompressor_readHuffman_rrrrrrrrrrrrlrl=.loop c_decompressor_readHuffman_rrrrrrrrrrrrlrll:=by kernel_rfl
theorem q_decompressor_readHuffman_rrrrrrrrrrrrrrlrl:c_decompressor_readHuffman_rrrrrrrrrrrrrrlrl=.loop c_decompressor_readHuffman_rrrrrrrrrrrrrrlrll:=by kernel_rfl
theorem q_decompressor_readHuffman_rrrrrrrrrrrlrllrllll:c_decompressor_readHuffman_rrrrrrrrrrrlrllrllll=.loop c_decompressor_readHuffman_rrrrrrrrrrrlrllrlllll:=by kernel_rfl
theorem q_decompressor_readHuffman_rrrrrrrrrrrrrrlrllrlrrrrrrrll:c_decompressor_readHuffman_rrrrrrrrrrrrrrlrllrlrrrrrrrll=.loop c_decompressor_readHuffman_rrrrrrrrrrrrrrlrllrlrrrrrrrlll:=by kernel_rfl
theorem q_decompressor_readHuffman_rrrrrrrrrrrrrrlrllrlrrrrrrrrrrrrrl:c_decompressor_readHuffman_rrrrrrrrrrrrrrlrllrlrrrrrrrrrrrrrl=.loop c_decompressor_readHuffman_rrrrrrrrrrrrrrlrllrlrrrrrrrrrrrrrll:=by kernel_rfl
theorem e_decompressor_readHuffman (f:Nat) (m:Mem) (R:Value→Mem→Prop)
  (h:WPS PP 340 c_decompressor_readHuffman_rll (((retK PP r_decompressor_readHuffman R).withN fun r m=>WPS PP 340 c_decompressor_readHuffman_rr (retK PP r_decompressor_readHuffman R) r m).withX 0) [(0,.pointer (some ⟨f,0,none⟩)),(2,.nilIface)] m  ):
  CallM PP f_decompressor_readHuffman #[.pointer (some ⟨f,0,none⟩)] m R:=
 callM_enter ffOk mixedOk 340 L_decompressor_readHuffman Tryz.func67 b_decompressor_readHuffman Tryz.ntmps67 (by simp) (Eq.mpr (by kernel_rfl) h)
def k_decompressor_readHuffman_rr:List Nat:=[0]
theorem p_decompressor_readHuffman_rr (f:Nat) (m:Mem) (K:Kont)
  (h:∃ x1,cell? m ⟨f,3,none⟩=some (.int .u32 x1)∧IntKind.u32=IntKind.u32∧ifB (decide ((IntKind.wrap .i64 ((IntKind.wrap .i64 (bitsOp .and .u32 x1 31))+257)) > 286)) (∃ x2,cell? m ⟨f,2,none⟩=some (.int .i64 x2)∧K.kr [(0,.pointer (some ⟨f,0,none⟩)),(2,.iface t_flate_CorruptInputError (.int .i64 x2)),(4,.int .i64 (IntKind.wrap .i64 ((IntKind.wrap .i64 (bitsOp .and .u32 x1 31))+257)))] m) (∃ x3,cell? m ⟨f,3,none⟩=some (.int .u32 x3)∧0≤(5:Int)∧StW m ⟨f,3,none⟩ (.int .u32 (shrOp .u32 x3 5)) fun m4=>∃ x5,cell? m4 ⟨f,3,none⟩=some (.int .u32 x5)∧IntKind.u32=IntKind.u32∧ifB (decide ((IntKind.wrap .i64 ((IntKind.wrap .i64 (bitsOp .and .u32 x5 31))+1)) > 30)) (∃ x6,cell? m4 ⟨f,2,none⟩=some (.int .i64 x6)∧K.kr [(0,.pointer (some ⟨f,0,none⟩)),(2,.iface t_flate_CorruptInputError (.int .i64 x6)),(4,.int .i64 (IntKind.wrap .i64 ((IntKind.wrap .i64 (bitsOp .and .u32 x1 31))+257))),(5,.int .i64 (IntKind.wrap .i64 ((IntKind.wrap .i64 (bitsOp .and .u32 x5 31))+1)))] m4) (∃ x7,cell? m4 ⟨f,3,none⟩=some (.int .u32 x7)∧0≤(5:Int)∧StW m4 ⟨f,3,none⟩ (.int .u32 (shrOp .u32 x7 5)) fun m8=>∃ x9,cell? m8 ⟨f,3,none⟩=some (.int .u32 x9)∧IntKind.u32=IntKind.u32∧∃ x10,cell? m8 ⟨f,3,none⟩=some (.int .u32 x10)∧0≤(4:Int)∧StW m8 ⟨f,3,none⟩ (.int .u32 (shrOp .u32 x10 4)) fun m11=>∃ x12,cell? m11 ⟨f,4,none⟩=some (.int .u64 x12)∧StW m11 ⟨f,4,none⟩ (.int .u64 (IntKind.wrap .u64 (x12 - 14))) fun m13=>WPS PP 340 c_decompressor_readHuffman_rrrrrrrrrrrlrl ((K.withN fun r m=>WPS PP 340 c_decompressor_readHuffman_rrrrrrrrrrrr K r m).withX 2) [(0,.pointer (some ⟨f,0,none⟩)),(4,.int .i64 (IntKind.wrap .i64 ((IntKind.wrap .i64 (bitsOp .and .u32 x1 31))+257))),(5,.int .i64 (IntKind.wrap .i64 ((IntKind.wrap .i64 (bitsOp .and .u32 x5 31))+1))),(6,.int .i64 (IntKind.wrap .i64 ((IntKind.wrap .i64 (bitsOp .and .u32 x9 15))+4))),(7,.int .i64 0)] m13))  ):
  wpc PP FF 340 L_decompressor_readHuffman c_decompressor_readHuffman_rr K [(0,.pointer (some ⟨f,0,none⟩))] m:=
 Eq.mpr (by kernel_rfl) h
theorem p_decompressor_readHuffman_rlll (f:Nat) (m:Mem) (K:Kont)
  (h:∃ x1,cell? m ⟨f,4,none⟩=some (.int .u64 x1)∧ifB (decide (x1 < 14)) (CallM PP f_decompressor_moreBits #[.pointer (some ⟨f,0,none⟩)] m fun v3 m4=>∃ v2,v3=v2∧isIfc v2=true∧ifB (!(isNil v2)) (K.kr [(0,.pointer (some ⟨f,0,none⟩)),(2,v2),(3,v2)] m4) (K.kn [(0,.pointer (some ⟨f,0,none⟩)),(3,v2)] m4)) (K.kx 0 [(0,.pointer (some ⟨f,0,none⟩))] m)  ):
  wpc PP FF 340 L_decompressor_readHuffman c_decompressor_readHuffman_rlll K [(0,.pointer (some ⟨f,0,none⟩))] m:=
 Eq.mpr (by kernel_rfl) h
theorem p_decompressor_readHuffman_rrrrrrrrrrrlrll (f:Nat) (x1:Int) (x2:Int) (x3:Int) (x4:Int) (m:Mem) (K:Kont)
  (h:ifB (decide (x4 < x3)) (WPS PP 340 c_decompressor_readHuffman_rrrrrrrrrrrlrllrllll ((((K.withN fun r m=>wpc PP FF 340 L_decompressor_readHuffman c_decompressor_readHuffman_rrrrrrrrrrrlrllrr K r m).withX 3).withN fun r m=>WPS PP 340 c_decompressor_readHuffman_rrrrrrrrrrrlrllrllr ((K.withN fun r m=>wpc PP FF 340 L_decompressor_readHuffman c_decompressor_readHuffman_rrrrrrrrrrrlrllrr K r m).withX 3) r m).withX 4) [(0,.pointer (some ⟨f,0,none⟩)),(4,.int .i64 x1),(5,.int .i64 x2),(6,.int .i64 x3),(7,.int .i64 x4)] m) (K.kx 2 [(0,.pointer (some ⟨f,0,none⟩)),(4,.int .i64 x1),(5,.int .i64 x2),(6,.int .i64 x3),(7,.int .i64 x4)] m)):
  wpc PP FF 340 L_decompressor_readHuffman c_decompressor_readHuffman_rrrrrrrrrrrlrll K [(0,.pointer (some ⟨f,0,none⟩)),(4,.int .i64 x1),(5,.int .i64 x2),(6,.int .i64 x3),(7,.int .i64 x4)] m:=
 Eq.mpr (by kernel_rfl) h
theorem p_decompressor_readHuffman_rrrrrrrrrrrrlrll (f:Nat) (x1:Int) (x2:Int) (x3:Int) (m:Mem) (K:Kont)
  (h:ifB (decide (x3 < 19)) (∃ p4,cell? m ⟨f,1036,none⟩=some (.pointer p4)∧(0≤x3∧x3 < ((19:Nat):Int))∧∃ x5,cell? m ⟨g_inflate_codeOrder,0+x3.toNat,none⟩=some (.int .i64 x5)∧onSome p4 fun p6=>(0≤x5∧x5 < ((19:Nat):Int))∧StW m (aplus p6 x5.toNat) (.int .i64 0) fun m7=>K.kn [(0,.pointer (some ⟨f,0,none⟩)),(4,.int .i64 x1),(5,.int .i64 x2),(9,.int .i64 (IntKind.wrap .i64 (x3+1)))] m7) (K.kx 6 [(0,.pointer (some ⟨f,0,none⟩)),(4,.int .i64 x1),(5,.int .i64 x2),(9,.int .i64 x3)] m)):
  wpc PP FF 340 L_decompressor_readHuffman c_decompressor_readHuffman_rrrrrrrrrrrrlrll K [(0,.pointer (some ⟨f,0,none⟩)),(4,.int .i64 x1),(5,.int .i64 x2),(9,.int .i64 x3)] m:=
 Eq.mpr (by kernel_rfl) h
theorem p_decompressor_readHuffman_rrrrrrrrrrrrrrlrll (f:Nat) (x1:Int) (x2:Int) (x3:Int) (x4:Int) (m:Mem) (K:Kont)
  (h:ifB (decide (x3 < x4)) (CallM PP f_decompressor_huffSym #[.pointer (some ⟨f,0,none⟩),.pointer (some ⟨f,5,none⟩)] m fun v7 m8=>∃ x5 v6,v7=.tuple #[.int .i64 x5,v6]∧isIfc v6=true∧ifB (!(isNil v6)) (K.kr [(0,.pointer (some ⟨f,0,none⟩)),(2,v6),(4,.int .i64 x1),(5,.int .i64 x2),(10,.int .i64 x3),(11,.int .i64 x4),(12,.int .i64 x5),(13,v6)] m8) (ifB (decide (x5 < 16)) (∃ p9,cell? m8 ⟨f,1035,none⟩=some (.pointer p9)∧onSome p9 fun p10=>(0≤x3∧x3 < ((316:Nat):Int))∧StW m8 (aplus p10 x3.toNat) (.int .i64 x5) fun m11=>K.kn [(0,.pointer (some ⟨f,0,none⟩)),(4,.int .i64 x1),(5,.int .i64 x2),(10,.int .i64 (IntKind.wrap .i64 (x3+1))),(11,.int .i64 x4),(12,.int .i64 x5),(13,v6)] m11) (ifB (x5 == 16) (ifB (x3 == 0) (∃ x12,cell? m8 ⟨f,2,none⟩=some (.int .i64 x12)∧K.kr [(0,.pointer (some ⟨f,0,none⟩)),(2,.iface t_flate_CorruptInputError (.int .i64 x12)),(4,.int .i64 x1),(5,.int .i64 x2),(10,.int .i64 x3),(11,.int .i64 x4),(12,.int .i64 x5),(13,v6),(14,.int .i64 3),(15,.int .u64 2),(16,.int .i64 0),(195,.int .i64 x5)] m8) (∃ p13,cell? m8 ⟨f,1035,none⟩=some (.pointer p13)∧onSome p13 fun p14=>(0≤(IntKind.wrap .i64 (x3 - 1))∧(IntKind.wrap .i64 (x3 - 1)) < ((316:Nat):Int))∧∃ x15,cell? m8 (aplus p14 ((IntKind.wrap .i64 (x3 - 1)).toNat))=some (.int .i64 x15)∧WPS PP 340 c_decompressor_readHuffman_rrrrrrrrrrrrrrlrllrlrrrrrrr (K.withX 9) [(0,.pointer (some ⟨f,0,none⟩)),(4,.int .i64 x1),(5,.int .i64 x2),(10,.int .i64 x3),(11,.int .i64 x4),(12,.int .i64 x5),(13,v6),(14,.int .i64 3),(15,.int .u64 2),(16,.int .i64 x15),(195,.int .i64 x5)] m8)) (ifB (x5 == 17) (WPS PP 340 c_decompressor_readHuffman_rrrrrrrrrrrrrrlrllrlrrrrrrr (K.withX 9) [(0,.pointer (some ⟨f,0,none⟩)),(4,.int .i64 x1),(5,.int .i64 x2),(10,.int .i64 x3),(11,.int .i64 x4),(12,.int .i64 x5),(13,v6),(14,.int .i64 3),(15,.int .u64 3),(16,.int .i64 0),(195,.int .i64 x5)] m8) (ifB (x5 == 18) (WPS PP 340 c_decompressor_readHuffman_rrrrrrrrrrrrrrlrllrlrrrrrrr (K.withX 9) [(0,.pointer (some ⟨f,0,none⟩)),(4,.int .i64 x1),(5,.int .i64 x2),(10,.int .i64 x3),(11,.int .i64 x4),(12,.int .i64 x5),(13,v6),(14,.int .i64 11),(15,.int .u64 7),(16,.int .i64 0),(195,.int .i64 x5)] m8) (K.kr [(0,.pointer (some ⟨f,0,none⟩)),(2,.iface t_flate_InternalError (.string (⟨#[117,110,101,120,112,101,99,116,101,100,32,108,101,110,103,116,104,32,99,111,100,101]⟩))),(4,.int .i64 x1),(5,.int .i64 x2),(10,.int .i64 x3),(11,.int .i64 x4),(12,.int .i64 x5),(13,v6),(14,.int .i64 0),(15,.int .u64 0),(16,.int .i64 0),(195,.int .i64 x5)] m8)))))) (K.kx 8 [(0,.pointer (some ⟨f,0,none⟩)),(4,.int .i64 x1),(5,.int .i64 x2),(10,.int .i64 x3),(11,.int .i64 x4)] m)):
  wpc PP FF 340 L_decompressor_readHuffman c_decompressor_readHuffman_rrrrrrrrrrrrrrlrll K [(0,.pointer (some ⟨f,0,none⟩)),(4,.int .i64 x1),(5,.int .i64 x2),(10,.int .i64 x3),(11,.int .i64 x4)] m:=
 Eq.mpr (by kernel_rfl) h
theorem p_decompressor_readHuffman_rrrrrrrrrrrlrllrlllll (f:Nat) (x1:Int) (x2:Int) (x3:Int) (x4:Int) (m:Mem) (K:Kont)
  (h:∃ x5,cell? m ⟨f,4,none⟩=some (.int .u64 x5)∧ifB (decide (x5 < 3)) (CallM PP f_decompressor_moreBits #[.pointer (some ⟨f,0,none⟩)] m fun v7 m8=>∃ v6,v7=v6∧isIfc v6=true∧ifB (!(isNil v6)) (K.kr [(0,.pointer (some ⟨f,0,none⟩)),(2,v6),(4,.int .i64 x1),(5,.int .i64 x2),(6,.int .i64 x3),(7,.int .i64 x4),(8,v6)] m8) (K.kn [(0,.pointer (some ⟨f,0,none⟩)),(4,.int .i64 x1),(5,.int .i64 x2),(6,.int .i64 x3),(7,.int .i64 x4),(8,v6)] m8)) (K.kx 4 [(0,.pointer (some ⟨f,0,none⟩)),(4,.int .i64 x1),(5,.int .i64 x2),(6,.int .i64 x3),(7,.int .i64 x4)] m)):
  wpc PP FF 340 L_decompressor_readHuffman c_decompressor_readHuffman_rrrrrrrrrrrlrllrlllll K [(0,.pointer (some ⟨f,0,none⟩)),(4,.int .i64 x1),(5,.int .i64 x2),(6,.int .i64 x3),(7,.int .i64 x4)] m:=
 Eq.mpr (by kernel_rfl) h
theorem p_decompressor_readHuffman_rrrrrrrrrrrrrrlrllrlrrrrrrrlll (f:Nat) (x1:Int) (x2:Int) (x3:Int) (x4:Int) (x5:Int) (x6:Int) (x7:Int) (m:Mem) (K:Kont)
  (h:∃ x8,cell? m ⟨f,4,none⟩=some (.int .u64 x8)∧ifB (decide (x8 < x6)) (CallM PP f_decompressor_moreBits #[.pointer (some ⟨f,0,none⟩)] m fun v10 m11=>∃ v9,v10=v9∧isIfc v9=true∧ifB (!(isNil v9)) (K.kr [(0,.pointer (some ⟨f,0,none⟩)),(2,v9),(4,.int .i64 x1),(5,.int .i64 x2),(10,.int .i64 x3),(11,.int .i64 x4),(14,.int .i64 x5),(15,.int .u64 x6),(16,.int .i64 x7),(17,v9)] m11) (K.kn [(0,.pointer (some ⟨f,0,none⟩)),(4,.int .i64 x1),(5,.int .i64 x2),(10,.int .i64 x3),(11,.int .i64 x4),(14,.int .i64 x5),(15,.int .u64 x6),(16,.int .i64 x7),(17,v9)] m11)) (K.kx 11 [(0,.pointer (some ⟨f,0,none⟩)),(4,.int .i64 x1),(5,.int .i64 x2),(10,.int .i64 x3),(11,.int .i64 x4),(14,.int .i64 x5),(15,.int .u64 x6),(16,.int .i64 x7)] m)):
  wpc PP FF 340 L_decompressor_readHuffman c_decompressor_readHuffman_rrrrrrrrrrrrrrlrllrlrrrrrrrlll K [(0,.pointer (some ⟨f,0,none⟩)),(4,.int .i64 x1),(5,.int .i64 x2),(10,.int .i64 x3),(11,.int .i64 x4),(14,.int .i64 x5),(15,.int .u64 x6),(16,.int .i64 x7)] m:=
 Eq.mpr (by kernel_rfl) h
theorem p_decompressor_readHuffman_rrrrrrrrrrrrrrlrllrlrrrrrrrrrrrrrll (f:Nat) (x1:Int) (x2:Int) (x3:Int) (x4:Int) (x5:Int) (x6:Int) (x7:Int) (m:Mem) (K:Kont)
  (h:ifB (decide (x7 < x5)) (∃ p8,cell? m ⟨f,1035,none⟩=some (.pointer p8)∧onSome p8 fun p9=>(0≤x3∧x3 < ((316:Nat):Int))∧StW m (aplus p9 x3.toNat) (.int .i64 x6) fun m10=>K.kn [(0,.pointer (some ⟨f,0,none⟩)),(4,.int .i64 x1),(5,.int .i64 x2),(10,.int .i64 (IntKind.wrap .i64 (x3+1))),(11,.int .i64 x4),(14,.int .i64 x5),(16,.int .i64 x6),(18,.int .i64 (IntKind.wrap .i64 (x7+1)))] m10) (K.kx 13 [(0,.pointer (some ⟨f,0,none⟩)),(4,.int .i64 x1),(5,.int .i64 x2),(10,.int .i64 x3),(11,.int .i64 x4),(14,.int .i64 x5),(16,.int .i64 x6),(18,.int .i64 x7)] m)):
  wpc PP FF 340 L_decompressor_readHuffman c_decompressor_readHuffman_rrrrrrrrrrrrrrlrllrlrrrrrrrrrrrrrll K [(0,.pointer (some ⟨f,0,none⟩)),(4,.int .i64 x1),(5,.int .i64 x2),(10,.int .i64 x3),(11,.int .i64 x4),(14,.int .i64 x5),(16,.int .i64 x6),(18,.int .i64 x7)] m:=
 Eq.mpr (by kernel_rfl) h
def k_decompressor_readHuffman_rrrrrrrrrrrr:List Nat:=[0,4,5,6]
theorem p_decompressor_readHuffman_rrrrrrrrrrrr (f:Nat) (x1:Int) (x2:Int) (x3:Int) (m:Mem) (K:Kont)
  (h:WPS PP 340 c_decompressor_readHuffman_rrrrrrrrrrrrlrl ((K.withN fun r m=>WPS PP 340 c_decompressor_readHuffman_rrrrrrrrrrrrr K r m).withX 6) [(0,.pointer (some ⟨f,0,none⟩)),(4,.int .i64 x1),(5,.int .i64 x2),(6,.int .i64 x3),(9,.int .i64 x3)] m):
  wpc PP FF 340 L_decompressor_readHuffman c_decompressor_readHuffman_rrrrrrrrrrrr K [(0,.pointer (some ⟨f,0,none⟩)),(4,.int .i64 x1),(5,.int .i64 x2),(6,.int .i64 x3)] m:=
 Eq.mpr (by kernel_rfl) h
theorem p_decompressor_readHuffman_rrrrrrrrrrrlrllrr (f:Nat) (x1:Int) (x2:Int) (x3:Int) (x4:Int) (m:Mem) (K:Kont)
  (h:K.kn [(0,.pointer (some ⟨f,0,none⟩)),(4,.int .i64 x1),(5,.int .i64 x2),(6,.int .i64 x3),(7,.int .i64 (IntKind.wrap .i64 (x4+1)))] m):
  wpc PP FF 340 L_decompressor_readHuffman c_decompressor_readHuffman_rrrrrrrrrrrlrllrr K [(0,.pointer (some ⟨f,0,none⟩)),(4,.int .i64 x1),(5,.int .i64 x2),(6,.int .i64 x3),(7,.int .i64 x4)] m:=
 Eq.mpr (by kernel_rfl) h
def k_decompressor_readHuffman_rrrrrrrrrrrlrllrllr:List Nat:=[0,4,5,6,7]
theorem p_decompressor_readHuffman_rrrrrrrrrrrlrllrllr (f:Nat) (x1:Int) (x2:Int) (x3:Int) (x4:Int) (m:Mem) (K:Kont)
  (h:∃ p5,cell? m ⟨f,1036,none⟩=some (.pointer p5)∧(0≤x4∧x4 < ((19:Nat):Int))∧∃ x6,cell? m ⟨g_inflate_codeOrder,0+x4.toNat,none⟩=some (.int .i64 x6)∧∃ x7,cell? m ⟨f,3,none⟩=some (.int .u32 x7)∧IntKind.u32=IntKind.u32∧onSome p5 fun p8=>(0≤x6∧x6 < ((19:Nat):Int))∧StW m (aplus p8 x6.toNat) (.int .i64 (IntKind.wrap .i64 (bitsOp .and .u32 x7 7))) fun m9=>∃ x10,cell? m9 ⟨f,3,none⟩=some (.int .u32 x10)∧0≤(3:Int)∧StW m9 ⟨f,3,none⟩ (.int .u32 (shrOp .u32 x10 3)) fun m11=>∃ x12,cell? m11 ⟨f,4,none⟩=some (.int .u64 x12)∧StW m11 ⟨f,4,none⟩ (.int .u64 (IntKind.wrap .u64 (x12 - 3))) fun m13=>K.kn [(0,.pointer (some ⟨f,0,none⟩)),(4,.int .i64 x1),(5,.int .i64 x2),(6,.int .i64 x3),(7,.int .i64 x4)] m13):
  wpc PP FF 340 L_decompressor_readHuffman c_decompressor_readHuffman_rrrrrrrrrrrlrllrllr K [(0,.pointer (some ⟨f,0,none⟩)),(4,.int .i64 x1),(5,.int .i64 x2),(6,.int .i64 x3),(7,.int .i64 x4)] m:=
 Eq.mpr (by kernel_rfl) h
def k_decompressor_readHuffman_rrrrrrrrrrrrrrlrllrlrrrrrrr:List Nat:=[0,4,5,10,11,14,15,16]
theorem p_decompressor_readHuffman_rrrrrrrrrrrrrrlrllrlrrrrrrr (f:Nat) (x1:Int) (x2:Int) (x3:Int) (x4:Int) (x5:Int) (x6:Int) (x7:Int) (m:Mem) (K:Kont)
  (h:WPS PP 340 c_decompressor_readHuffman_rrrrrrrrrrrrrrlrllrlrrrrrrrll ((K.withN fun r m=>WPS PP 340 c_decompressor_readHuffman_rrrrrrrrrrrrrrlrllrlrrrrrrrr K r m).withX 11) [(0,.pointer (some ⟨f,0,none⟩)),(4,.int .i64 x1),(5,.int .i64 x2),(10,.int .i64 x3),(11,.int .i64 x4),(14,.int .i64 x5),(15,.int .u64 x6),(16,.int .i64 x7)] m):
  wpc PP FF 340 L_decompressor_readHuffman c_decompressor_readHuffman_rrrrrrrrrrrrrrlrllrlrrrrrrr K [(0,.pointer (some ⟨f,0,none⟩)),(4,.int .i64 x1),(5,.int .i64 x2),(10,.int .i64 x3),(11,.int .i64 x4),(14,.int .i64 x5),(15,.int .u64 x6),(16,.int .i64 x7)] m:=
 Eq.mpr (by kernel_rfl) h
def k_decompressor_readHuffman_rrrrrrrrrrrrr:List Nat:=[0,4,5]
theorem p_decompressor_readHuffman_rrrrrrrrrrrrr (f:Nat) (x1:Int) (x2:Int) (m:Mem) (K:Kont)
  (h:∃ p3,cell? m ⟨f,1036,none⟩=some (.pointer p3)∧onSome p3 fun p4=>(0≤(0:Int)∧(0:Int)≤(19:Int))∧CallM PP f_huffmanDecoder_init #[.pointer (some ⟨f,5,none⟩),.slice (some (aplus p4 0)) 19 19] m fun v6 m7=>∃ b5,v6=.bool b5∧ifB (!b5) (∃ x8,cell? m7 ⟨f,2,none⟩=some (.int .i64 x8)∧K.kr [(0,.pointer (some ⟨f,0,none⟩)),(2,.iface t_flate_CorruptInputError (.int .i64 x8)),(4,.int .i64 x1),(5,.int .i64 x2)] m7) (WPS PP 340 c_decompressor_readHuffman_rrrrrrrrrrrrrrlrl ((K.withN fun r m=>WPS PP 340 c_decompressor_readHuffman_rrrrrrrrrrrrrrr K r m).withX 8) [(0,.pointer (some ⟨f,0,none⟩)),(4,.int .i64 x1),(5,.int .i64 x2),(10,.int .i64 0),(11,.int .i64 (IntKind.wrap .i64 (x1+x2)))] m7)):
  wpc PP FF 340 L_decompressor_readHuffman c_decompressor_readHuffman_rrrrrrrrrrrrr K [(0,.pointer (some ⟨f,0,none⟩)),(4,.int .i64 x1),(5,.int .i64 x2)] m:=
 Eq.mpr (by kernel_rfl) h
def k_decompressor_readHuffman_rrrrrrrrrrrrrrlrllrlrrrrrrrr:List Nat:=[0,4,5,10,11,14,15,16]
theorem p_decompressor_readHuffman_rrrrrrrrrrrrrrlrllrlrrrrrrrr (f:Nat) (x1:Int) (x2:Int) (x3:Int) (x4:Int) (x5:Int) (x6:Int) (x7:Int) (m:Mem) (K:Kont)
  (h:∃ x8,cell? m ⟨f,3,none⟩=some (.int .u32 x8)∧0≤x6∧IntKind.u32=IntKind.u32∧∃ x9,cell? m ⟨f,3,none⟩=some (.int .u32 x9)∧0≤x6∧StW m ⟨f,3,none⟩ (.int .u32 (shrOp .u32 x9 x6)) fun m10=>∃ x11,cell? m10 ⟨f,4,none⟩=some (.int .u64 x11)∧StW m10 ⟨f,4,none⟩ (.int .u64 (IntKind.wrap .u64 (x11 - x6))) fun m12=>ifB (decide ((IntKind.wrap .i64 (x3+(IntKind.wrap .i64 (x5+(IntKind.wrap .i64 (bitsOp .and .u32 x8 (IntKind.wrap .u32 ((shlOp .u32 1 x6) - 1)))))))) > x4)) (∃ x13,cell? m12 ⟨f,2,none⟩=some (.int .i64 x13)∧K.kr [(0,.pointer (some ⟨f,0,none⟩)),(2,.iface t_flate_CorruptInputError (.int .i64 x13)),(4,.int .i64 x1),(5,.int .i64 x2),(10,.int .i64 x3),(11,.int .i64 x4),(14,.int .i64 (IntKind.wrap .i64 (x5+(IntKind.wrap .i64 (bitsOp .and .u32 x8 (IntKind.wrap .u32 ((shlOp .u32 1 x6) - 1))))))),(15,.int .u64 x6),(16,.int .i64 x7)] m12) (WPS PP 340 c_decompressor_readHuffman_rrrrrrrrrrrrrrlrllrlrrrrrrrrrrrrrl (K.withX 13) [(0,.pointer (some ⟨f,0,none⟩)),(4,.int .i64 x1),(5,.int .i64 x2),(10,.int .i64 x3),(11,.int .i64 x4),(14,.int .i64 (IntKind.wrap .i64 (x5+(IntKind.wrap .i64 (bitsOp .and .u32 x8 (IntKind.wrap .u32 ((shlOp .u32 1 x6) - 1))))))),(15,.int .u64 x6),(16,.int .i64 x7),(18,.int .i64 0)] m12)):
  wpc PP FF 340 L_decompressor_readHuffman c_decompressor_readHuffman_rrrrrrrrrrrrrrlrllrlrrrrrrrr K [(0,.pointer (some ⟨f,0,none⟩)),(4,.int .i64 x1),(5,.int .i64 x2),(10,.int .i64 x3),(11,.int .i64 x4),(14,.int .i64 x5),(15,.int .u64 x6),(16,.int .i64 x7)] m:=
 Eq.mpr (by kernel_rfl) h
def k_decompressor_readHuffman_rrrrrrrrrrrrrrr:List Nat:=[0,4,5]
theorem p_decompressor_readHuffman_rrrrrrrrrrrrrrr (f:Nat) (x1:Int) (x2:Int) (m:Mem) (K:Kont)
  (h:∃ p3,cell? m ⟨f,1035,none⟩=some (.pointer p3)∧onSome p3 fun p4=>(0≤x1∧x1≤(316:Int))∧(0≤(0:Int)∧(0:Int)≤x1)∧CallM PP f_huffmanDecoder_init #[.pointer (some ⟨f,5,none⟩),.slice (some (aplus p4 0)) (x1.toNat - 0) 316] m fun v6 m7=>∃ b5,v6=.bool b5∧ifB (!b5) (∃ x8,cell? m7 ⟨f,2,none⟩=some (.int .i64 x8)∧K.kr [(0,.pointer (some ⟨f,0,none⟩)),(2,.iface t_flate_CorruptInputError (.int .i64 x8)),(4,.int .i64 x1),(5,.int .i64 x2)] m7) (∃ p9,cell? m7 ⟨f,1035,none⟩=some (.pointer p9)∧onSome p9 fun p10=>(0≤(IntKind.wrap .i64 (x1+x2))∧(IntKind.wrap .i64 (x1+x2))≤(316:Int))∧(0≤x1∧x1≤(IntKind.wrap .i64 (x1+x2)))∧CallM PP f_huffmanDecoder_init #[.pointer (some ⟨f,520,none⟩),.slice (some (if 316=x1.toNat then p10 else aplus p10 x1.toNat)) ((IntKind.wrap .i64 (x1+x2)).toNat - x1.toNat) (316 - x1.toNat)] m7 fun v12 m13=>∃ b11,v12=.bool b11∧ifB (!b11) (∃ x14,cell? m13 ⟨f,2,none⟩=some (.int .i64 x14)∧K.kr [(0,.pointer (some ⟨f,0,none⟩)),(2,.iface t_flate_CorruptInputError (.int .i64 x14)),(4,.int .i64 x1),(5,.int .i64 x2)] m13) (∃ x15,cell? m13 ⟨f,5,none⟩=some (.int .i64 x15)∧∃ p16,cell? m13 ⟨f,1035,none⟩=some (.pointer p16)∧onSome p16 fun p17=>(0≤(256:Int)∧(256:Int) < ((316:Nat):Int))∧∃ x18,cell? m13 (aplus p17 256)=some (.int .i64 x18)∧ifB (decide (x15 < x18)) (∃ p19,cell? m13 ⟨f,1035,none⟩=some (.pointer p19)∧onSome p19 fun p20=>(0≤(256:Int)∧(256:Int) < ((316:Nat):Int))∧∃ x21,cell? m13 (aplus p20 256)=some (.int .i64 x21)∧StW m13 ⟨f,5,none⟩ (.int .i64 x21) fun m22=>WPS PP 340 c_decompressor_readHuffman_rrrrrrrrrrrrrrrrr K [(0,.pointer (some ⟨f,0,none⟩)),(4,.int .i64 x1),(5,.int .i64 x2)] m22) (WPS PP 340 c_decompressor_readHuffman_rrrrrrrrrrrrrrrrr K [(0,.pointer (some ⟨f,0,none⟩)),(4,.int .i64 x1),(5,.int .i64 x2)] m13)))):
  wpc PP FF 340 L_decompressor_readHuffman c_decompressor_readHuffman_rrrrrrrrrrrrrrr K [(0,.pointer (some ⟨f,0,none⟩)),(4,.int .i64 x1),(5,.int .i64 x2)] m:=
 Eq.mpr (by kernel_rfl) h
def k_decompressor_readHuffman_rrrrrrrrrrrrrrrrr:List Nat:=[]
theorem p_decompressor_readHuffman_rrrrrrrrrrrrrrrrr  (m:Mem) (K:Kont)
  (h:K.kr [(2,.nilIface)] m  ):
  wpc PP FF 340 L_decompressor_readHuffman c_decompressor_readHuffman_rrrrrrrrrrrrrrrrr K [] m:=
 Eq.mpr (by kernel_rfl) h
def L_spec_leads:List Nat:=[0,1,4,5,7,9,14,19]
def r_spec_leads:List ResultVar:=[.tmp 4]
noncomputable def c_spec_leads:Code:=(Go.Proofs.Tryz.f68.body).getD .skip
theorem b_spec_leads:Go.Proofs.Tryz.f68.body=some c_spec_leads:=by kernel_rfl
noncomputable def c_spec_leads_rr:Code:=(rgt (rgt c_spec_leads))
noncomputable def c_spec_leads_rlrl:Code:=(lft (rgt (lft (rgt c_spec_leads))))
noncomputable def c_spec_leads_rlrll:Code:=(lft c_spec_leads_rlrl)
noncomputable def c_spec_leads_rlrllrrlrr:Code:=(rgt (rgt (lft (rgt (rgt c_spec_leads_rlrll)))))
noncomputable def c_spec_leads_rlrllrrlrll:Code:=(lft (lft (rgt (lft (rgt (rgt c_spec_leads_rlrll))))))
noncomputable def c_spec_leads_rlrllrrlrlll:Code:=(lft c_spec_leads_rlrllrrlrll)
theorem q_spec_leads_rlrl:c_spec_leads_rlrl=.loop c_spec_leads_rlrll:=by kernel_rfl
theorem q_spec_leads_rlrllrrlrll:c_spec_leads_rlrllrrlrll=.loop c_spec_leads_rlrllrrlrlll:=by kernel_rfl
theorem e_spec_leads (r1:Option Nat) (x2:Int) (m:Mem) (R:Value→Mem→Prop)
  (h:SemW PP (sv (Instr.range t_map_int_int (.map r1))) m (NextW PP fun u4 m5=>∃ a3,u4=.pointer a3∧WPS PP 20 c_spec_leads_rlrl (((retK PP r_spec_leads R).withN fun r m=>WPS PP 20 c_spec_leads_rr (retK PP r_spec_leads R) r m).withX 0) [(0,.map r1),(1,.int .i64 x2),(4,.bool false),(7,.pointer a3)] m5)):
  CallM PP f_spec_leads #[.map r1,.int .i64 x2] m R:=
 callM_enter ffOk mixedOk 20 L_spec_leads Tryz.func68 b_spec_leads Tryz.ntmps68 (by simp) (Eq.mpr (by kernel_rfl) h)
theorem p_spec_leads_rr  (m:Mem) (K:Kont)
  (h:K.kr [(4,.bool false)] m  ):
  wpc PP FF 20 L_spec_leads c_spec_leads_rr K [] m:=
 Eq.mpr (by kernel_rfl) h
theorem p_spec_leads_rlrll (x1:Int) (p2:Option Addr) (m:Mem) (K:Kont)
  (h:SemW PP (sv (Instr.next (.pointer p2) false 0)) m (NextW PP fun u3 m4=>(u3=.tuple #[.bool false]∧K.kx 0 [(1,.int .i64 x1),(7,.pointer p2)] m4)∨∃ (v5:Value) (v6:Value),u3=.tuple #[.bool true,v5,v6]∧SemW PP (sv (Instr.entry (.pointer p2))) m4 (NextW PP fun u7 m8=>∃ (x9:Int) (v10:Value),u7=.tuple #[.int .i64 x9,v10]∧WPS PP 20 c_spec_leads_rlrllrrlrll (((K.withX 1).withN fun r m=>WPS PP 20 c_spec_leads_rlrllrrlrr (K.withX 1) r m).withX 2) [(1,.int .i64 x1),(5,.int .i64 x9),(7,.pointer p2)] m8))):
  wpc PP FF 20 L_spec_leads c_spec_leads_rlrll K [(1,.int .i64 x1),(7,.pointer p2)] m:=
 Eq.mpr (by kernel_rfl) h
theorem p_spec_leads_rlrllrrlrlll (x1:Int) (x2:Int) (p3:Option Addr) (m:Mem) (K:Kont)
  (h:ifB (decide (x2 > x1)) (IntKind.i64=IntKind.i64∧(2:Int)≠0∧K.kn [(1,.int .i64 x1),(5,.int .i64 (IntKind.wrap .i64 (Int.tdiv x2 2))),(7,.pointer p3)] m) (K.kx 2 [(1,.int .i64 x1),(5,.int .i64 x2),(7,.pointer p3)] m)):
  wpc PP FF 20 L_spec_leads c_spec_leads_rlrllrrlrlll K [(1,.int .i64 x1),(5,.int .i64 x2),(7,.pointer p3)] m:=
 Eq.mpr (by kernel_rfl) h
theorem p_spec_leads_rlrllrrlrr (x1:Int) (x2:Int) (p3:Option Addr) (m:Mem) (K:Kont)
  (h:ifB (x2 == x1) (K.kr [(1,.int .i64 x1),(4,.bool true),(5,.int .i64 x2),(7,.pointer p3)] m) (K.kn [(1,.int .i64 x1),(5,.int .i64 x2),(7,.pointer p3)] m)):
  wpc PP FF 20 L_spec_leads c_spec_leads_rlrllrrlrr K [(1,.int .i64 x1),(5,.int .i64 x2),(7,.pointer p3)] m:=
 Eq.mpr (by kernel_rfl) h
def L_errors_as:List Nat:=[0,1,2,3,6,8,9,10,11,12,14,19,35,36,38,39,43,45,46,48,49,50,51,55,60]
def r_errors_as:List ResultVar:=[.tmp 8]
noncomputable def c_errors_as:Code:=(Go.Proofs.Tryz.f72.body).getD .skip
theorem b_errors_as:Go.Proofs.Tryz.f72.body=some c_errors_as:=by kernel_rfl
noncomputable def c_errors_as_rl:Code:=(lft (rgt c_errors_as))
noncomputable def c_errors_as_rll:Code:=(lft c_errors_as_rl)
noncomputable def c_errors_as_rlllr:Code:=(rgt (lft c_errors_as_rll))
noncomputable def c_errors_as_rlllrrrlrrrlrlrl:Code:=(lft (rgt (lft (rgt (lft (rgt (rgt (rgt (lft (rgt (rgt c_errors_as_rlllr)))))))))))
noncomputable def c_errors_as_rlllrrrlrrrlrlrll:Code:=(lft c_errors_as_rlllrrrlrrrlrlrl)
noncomputable def c_errors_as_rlllrrrlrrrlrlrllrrr:Code:=(rgt (rgt (rgt c_errors_as_rlllrrrlrrrlrlrll)))
theorem q_errors_as_rl:c_errors_as_rl=.loop c_errors_as_rll:=by kernel_rfl
theorem q_errors_as_rlllrrrlrrrlrlrl:c_errors_as_rlllrrrlrrrlrlrl=.loop c_errors_as_rlllrrrlrrrlrlrll:=by kernel_rfl
theorem e_errors_as (v1:Value) (v2:Value) (p3:Option Addr) (v4:Value) (x5:Int) (v6:Value) (m:Mem) (R:Value→Mem→Prop)
  (h:BoxW t_reflectlite_Value (.agg #[.pointer p3,v4,.int .u64 x5]) m fun n7 m8=>WPS PP 62 c_errors_as_rl ((retK PP r_errors_as R).withX 0) [(0,v1),(1,v2),(2,.agg #[.pointer p3,v4,.int .u64 x5]),(3,v6),(6,.pointer (some ⟨n7,0,none⟩)),(8,.bool false)] m8):
  CallM PP f_errors_as #[v1,v2,.agg #[.pointer p3,v4,.int .u64 x5],v6] m R:=
 callM_enter ffOk mixedOk 62 L_errors_as Tryz.func72 b_errors_as Tryz.ntmps72 (by simp) (Eq.mpr (by kernel_rfl) h)
theorem p_errors_as_rll (v1:Value) (v2:Value) (v3:Value) (n4:Nat) (m:Mem) (K:Kont)
  (h:SemW PP (callVal (.func (.func f_reflectlite_TypeOf) #[] #[]) #[v1]) m (NextW PP fun v6 m7=>∃ v5,v6=v5∧SemW PP (callMethod v5 "AssignableTo" #[v3]) m7 (NextW PP fun v9 m10=>∃ b8,v9=.bool b8∧ifB b8 (∃ p11 v12 x13,([.pointer p11,v12,.int .u64 x13]:List Value).length=3∧CellsAre m10 ⟨n4,0,none⟩ 0 [.pointer p11,v12,.int .u64 x13]∧SemW PP (callVal (.func (.func f_reflectlite_Value_Elem) #[] #[]) #[.agg #[.pointer p11,v12,.int .u64 x13]]) m10 (NextW PP fun v15 m16=>∃ v14,v15=v14∧SemW PP (callVal (.func (.func f_reflectlite_ValueOf) #[] #[]) #[v1]) m16 (NextW PP fun v18 m19=>∃ v17,v18=v17∧SemW PP (callVal (.func (.func f_reflectlite_Value_Set) #[] #[]) #[v14,v17]) m19 (NextW PP fun v20 m21=>v20=.tuple #[]∧K.kr [(0,v1),(1,v2),(3,v3),(6,.pointer (some ⟨n4,0,none⟩)),(8,.bool true)] m21)))) (wpc PP FF 62 L_errors_as c_errors_as_rlllr (K.withX 1) [(0,v1),(1,v2),(3,v3),(6,.pointer (some ⟨n4,0,none⟩))] m10)))):
  wpc PP FF 62 L_errors_as c_errors_as_rll K [(0,v1),(1,v2),(3,v3),(6,.pointer (some ⟨n4,0,none⟩))] m:=
 Eq.mpr (by kernel_rfl) h
theorem p_errors_as_rlllrrrlrrrlrlrll (v1:Value) (v2:Value) (n3:Nat) (a4:Option Addr) (l5:Nat) (k6:Nat) (x7:Int) (x8:Int) (m:Mem) (K:Kont)
  (h:ifB (decide (x8 < x7)) (onSome a4 fun p9=>(0≤x8∧x8 < (l5:Int))∧∃ v10,cell? m (aplus p9 x8.toNat)=some (v10)∧isIfc v10=true∧ifB (isNil v10) (WPS PP 62 c_errors_as_rlllrrrlrrrlrlrllrrr K [(1,v1),(3,v2),(6,.pointer (some ⟨n3,0,none⟩)),(14,v10),(48,.slice a4 l5 k6),(49,.int .i64 x7),(50,.int .i64 x8)] m) (∃ p11 v12 x13,([.pointer p11,v12,.int .u64 x13]:List Value).length=3∧CellsAre m ⟨n3,0,none⟩ 0 [.pointer p11,v12,.int .u64 x13]∧CallM PP f_errors_as #[v10,v1,.agg #[.pointer p11,v12,.int .u64 x13],v2] m fun v15 m16=>∃ b14,v15=.bool b14∧ifB b14 (K.kr [(1,v1),(3,v2),(6,.pointer (some ⟨n3,0,none⟩)),(8,.bool true),(14,v10),(48,.slice a4 l5 k6),(49,.int .i64 x7),(50,.int .i64 x8)] m16) (WPS PP 62 c_errors_as_rlllrrrlrrrlrlrllrrr K [(1,v1),(3,v2),(6,.pointer (some ⟨n3,0,none⟩)),(14,v10),(48,.slice a4 l5 k6),(49,.int .i64 x7),(50,.int .i64 x8)] m16))) (K.kx 3 [(1,v1),(3,v2),(6,.pointer (some ⟨n3,0,none⟩)),(48,.slice a4 l5 k6),(49,.int .i64 x7),(50,.int .i64 x8)] m)):
  wpc PP FF 62 L_errors_as c_errors_as_rlllrrrlrrrlrlrll K [(1,v1),(3,v2),(6,.pointer (some ⟨n3,0,none⟩)),(48,.slice a4 l5 k6),(49,.int .i64 x7),(50,.int .i64 x8)] m:=
 Eq.mpr (by kernel_rfl) h
theorem p_errors_as_rlllrrrlrrrlrlrllrrr (v1:Value) (v2:Value) (n3:Nat) (a4:Option Addr) (l5:Nat) (k6:Nat) (x7:Int) (x8:Int) (m:Mem) (K:Kont)
  (h:K.kn [(1,v1),(3,v2),(6,.pointer (some ⟨n3,0,none⟩)),(48,.slice a4 l5 k6),(49,.int .i64 x7),(50,.int .i64 (IntKind.wrap .i64 (x8+1)))] m):
  wpc PP FF 62 L_errors_as c_errors_as_rlllrrrlrrrlrlrllrrr K [(1,v1),(3,v2),(6,.pointer (some ⟨n3,0,none⟩)),(48,.slice a4 l5 k6),(49,.int .i64 x7),(50,.int .i64 x8)] m:=
 Eq.mpr (by kernel_rfl) h
def L_inflate_noEOF:List Nat:=[0,2,5]
def r_inflate_noEOF:List ResultVar:=[.tmp 2]
noncomputable def c_inflate_noEOF:Code:=(Go.Proofs.Tryz.f75.body).getD .skip
theorem b_inflate_noEOF:Go.Proofs.Tryz.f75.body=some c_inflate_noEOF:=by kernel_rfl
theorem e_inflate_noEOF (v1:Value) (m:Mem) (R:Value→Mem→Prop)
  (h:∃ v2,cell? m ⟨g_io_EOF,0,none⟩=some (v2)∧ReadW PP m (do eqGuard .eql t_error (.tmp 3) (.tmp 4) v1 v2; binOp .eql t_error v1 v2) fun u4=>∃ b3,u4=.bool b3∧ifB b3 (∃ v5,cell? m ⟨g_io_ErrUnexpectedEOF,0,none⟩=some (v5)∧R (v5) m) (R (v1) m)):
  CallM PP f_inflate_noEOF #[v1] m R:=
 callM_enter ffOk mixedOk 8 L_inflate_noEOF Tryz.func75 b_inflate_noEOF Tryz.ntmps75 (by simp) (Eq.mpr (by kernel_rfl) h)
def L_io_ReadFull:List Nat:=[0,1,4,5]
def r_io_ReadFull:List ResultVar:=[.tmp 4,.tmp 5]
noncomputable def c_io_ReadFull:Code:=(Go.Proofs.Tryz.f76.body).getD .skip
theorem b_io_ReadFull:Go.Proofs.Tryz.f76.body=some c_io_ReadFull:=by kernel_rfl
theorem e_io_ReadFull (v1:Value) (a2:Option Addr) (l3:Nat) (k4:Nat) (m:Mem) (R:Value→Mem→Prop)
  (h:CallM PP f_io_ReadAtLeast #[v1,.slice a2 l3 k4,.int .i64 (l3:Int)] m fun v7 m8=>∃ x5 v6,v7=.tuple #[.int .i64 x5,v6]∧R (.tuple #[.int .i64 x5,v6]) m8):
  CallM PP f_io_ReadFull #[v1,.slice a2 l3 k4] m R:=
 callM_enter ffOk mixedOk 13 L_io_ReadFull Tryz.func76 b_io_ReadFull Tryz.ntmps76 (by simp) (Eq.mpr (by kernel_rfl) h)
def L_dictDecoder_readFlush:List Nat:=[0,2,3,33]
def r_dictDecoder_readFlush:List ResultVar:=[.tmp 2]
noncomputable def c_dictDecoder_readFlush:Code:=(Go.Proofs.Tryz.f77.body).getD .skip
theorem b_dictDecoder_readFlush:Go.Proofs.Tryz.f77.body=some c_dictDecoder_readFlush:=by kernel_rfl
noncomputable def c_dictDecoder_readFlush_rrrr:Code:=(rgt (rgt (rgt (rgt c_dictDecoder_readFlush))))
theorem e_dictDecoder_readFlush (f:Nat) (m:Mem) (R:Value→Mem→Prop)
  (h:∃ a1 l2 k3,cell? m ⟨f,1037,none⟩=some (.slice a1 l2 k3)∧∃ x4,cell? m ⟨f,1039,none⟩=some (.int .i64 x4)∧∃ x5,cell? m ⟨f,1038,none⟩=some (.int .i64 x5)∧l2≤k3∧(0≤x5∧x5≤(k3:Int))∧(0≤x4∧x4≤x5)∧∃ x6,cell? m ⟨f,1038,none⟩=some (.int .i64 x6)∧StW m ⟨f,1039,none⟩ (.int .i64 x6) fun m7=>∃ x8,cell? m7 ⟨f,1038,none⟩=some (.int .i64 x8)∧∃ a9 l10 k11,cell? m7 ⟨f,1037,none⟩=some (.slice a9 l10 k11)∧ifB (x8 == (l10:Int)) (StW m7 ⟨f,1038,none⟩ (.int .i64 0) fun m12=>StW m12 ⟨f,1039,none⟩ (.int .i64 0) fun m13=>StW m13 ⟨f,1040,none⟩ (.bool true) fun m14=>WPS PP 44 c_dictDecoder_readFlush_rrrr (retK PP r_dictDecoder_readFlush R) [(0,.pointer (some ⟨f,1037,none⟩)),(2,.slice none 0 0),(3,.slice (subA a1 x4.toNat 1 k3) (x5.toNat - x4.toNat) (k3 - x4.toNat))] m14) (WPS PP 44 c_dictDecoder_readFlush_rrrr (retK PP r_dictDecoder_readFlush R) [(0,.pointer (some ⟨f,1037,none⟩)),(2,.slice none 0 0),(3,.slice (subA a1 x4.toNat 1 k3) (x5.toNat - x4.toNat) (k3 - x4.toNat))] m7)  ):
  CallM PP f_dictDecoder_readFlush #[.pointer (some ⟨f,1037,none⟩)] m R:=
 callM_enter ffOk mixedOk 44 L_dictDecoder_readFlush Tryz.func77 b_dictDecoder_readFlush Tryz.ntmps77 (by simp) (Eq.mpr (by kernel_rfl) h)
def k_dictDecoder_readFlush_rrrr:List Nat:=[3]
theorem p_dictDecoder_readFlush_rrrr (a1:Option Addr) (l2:Nat) (k3:Nat) (m:Mem) (K:Kont)
  (h:K.kr [(2,.slice a1 l2 k3),(3,.slice a1 l2 k3)] m):
  wpc PP FF 44 L_dictDecoder_readFlush c_dictDecoder_readFlush_rrrr K [(3,.slice a1 l2 k3)] m:=
 Eq.mpr (by kernel_rfl) h
def L_decompressor_finishBlock:List Nat:=[0,5,10]
def r_decompressor_finishBlock:List ResultVar:=[]
noncomputable def c_decompressor_finishBlock:Code:=(Go.Proofs.Tryz.f78.body).getD .skip
theorem b_decompressor_finishBlock:Go.Proofs.Tryz.f78.body=some c_decompressor_finishBlock:=by kernel_rfl
noncomputable def c_decompressor_finishBlock_r:Code:=(rgt c_decompressor_finishBlock)
noncomputable def c_decompressor_finishBlock_lrlr:Code:=(rgt (lft (rgt (lft c_decompressor_finishBlock))))
theorem e_decompressor_finishBlock (f:Nat) (m:Mem) (R:Value→Mem→Prop)
  (h:∃ b1,cell? m ⟨f,1047,none⟩=some (.bool b1)∧ifB b1 (CallM PP f_dictDecoder_availRead #[.pointer (some ⟨f,1037,none⟩)] m fun v3 m4=>∃ x2,v3=.int .i64 x2∧ifB (decide (x2 > 0)) (CallM PP f_dictDecoder_readFlush #[.pointer (some ⟨f,1037,none⟩)] m4 fun v8 m9=>∃ a5 l6 k7,v8=.slice a5 l6 k7∧StW m9 ⟨f,1049,none⟩ (.slice a5 l6 k7) fun m10=>WPS PP 25 c_decompressor_finishBlock_lrlr ((retK PP r_decompressor_finishBlock R).withN fun r m=>WPS PP 25 c_decompressor_finishBlock_r (retK PP r_decompressor_finishBlock R) r m) [(0,.pointer (some ⟨f,0,none⟩))] m10) (WPS PP 25 c_decompressor_finishBlock_lrlr ((retK PP r_decompressor_finishBlock R).withN fun r m=>WPS PP 25 c_decompressor_finishBlock_r (retK PP r_decompressor_finishBlock R) r m) [(0,.pointer (some ⟨f,0,none⟩))] m4)) (WPS PP 25 c_decompressor_finishBlock_r (retK PP r_decompressor_finishBlock R) [(0,.pointer (some ⟨f,0,none⟩))] m)  ):
  CallM PP f_decompressor_finishBlock #[.pointer (some ⟨f,0,none⟩)] m R:=
 callM_enter ffOk mixedOk 25 L_decompressor_finishBlock Tryz.func78 b_decompressor_finishBlock Tryz.ntmps78 (by simp) (Eq.mpr (by kernel_rfl) h)
def k_decompressor_finishBlock_r:List Nat:=[0]
theorem p_decompressor_finishBlock_r (f:Nat) (m:Mem) (K:Kont)
  (h:StW m ⟨f,1045,none⟩ (.func (.func f_decompressor_nextBlock) #[] #[]) fun m1=>K.kn [(0,.pointer (some ⟨f,0,none⟩))] m1  ):
  wpc PP FF 25 L_decompressor_finishBlock c_decompressor_finishBlock_r K [(0,.pointer (some ⟨f,0,none⟩))] m:=
 Eq.mpr (by kernel_rfl) h
def k_decompressor_finishBlock_lrlr:List Nat:=[0]
theorem p_decompressor_finishBlock_lrlr (f:Nat) (m:Mem) (K:Kont)
  (h:∃ v1,cell? m ⟨g_io_EOF,0,none⟩=some (v1)∧StW m ⟨f,1048,none⟩ v1 fun m2=>K.kn [(0,.pointer (some ⟨f,0,none⟩))] m2  ):
  wpc PP FF 25 L_decompressor_finishBlock c_decompressor_finishBlock_lrlr K [(0,.pointer (some ⟨f,0,none⟩))] m:=
 Eq.mpr (by kernel_rfl) h
def L_decompressor_copyData:List Nat:=[0,2,3,4,15,53,70]
def r_decompressor_copyData:List ResultVar:=[]
noncomputable def c_decompressor_copyData:Code:=(Go.Proofs.Tryz.f79.body).getD .skip
theorem b_decompressor_copyData:Go.Proofs.Tryz.f79.body=some c_decompressor_copyData:=by kernel_rfl
noncomputable def c_decompressor_copyData_rr:Code:=(rgt (rgt c_decompressor_copyData))
theorem e_decompressor_copyData (f:Nat) (m:Mem) (R:Value→Mem→Prop)
  (h:CallM PP f_dictDecoder_writeSlice #[.pointer (some ⟨f,1037,none⟩)] m fun v4 m5=>∃ a1 l2 k3,v4=.slice a1 l2 k3∧∃ x6,cell? m5 ⟨f,1052,none⟩=some (.int .i64 x6)∧ifB (decide ((l2:Int) > x6)) (∃ x7,cell? m5 ⟨f,1052,none⟩=some (.int .i64 x7)∧l2≤k3∧(0≤x7∧x7≤(k3:Int))∧WPS PP 83 c_decompressor_copyData_rr (retK PP r_decompressor_copyData R) [(0,.pointer (some ⟨f,0,none⟩)),(2,.slice a1 x7.toNat k3)] m5) (WPS PP 83 c_decompressor_copyData_rr (retK PP r_decompressor_copyData R) [(0,.pointer (some ⟨f,0,none⟩)),(2,.slice a1 l2 k3)] m5)  ):
  CallM PP f_decompressor_copyData #[.pointer (some ⟨f,0,none⟩)] m R:=
 callM_enter ffOk mixedOk 83 L_decompressor_copyData Tryz.func79 b_decompressor_copyData Tryz.ntmps79 (by simp) (Eq.mpr (by kernel_rfl) h)
def k_decompressor_copyData_rr:List Nat:=[0,2]
theorem p_decompressor_copyData_rr (f:Nat) (a1:Option Addr) (l2:Nat) (k3:Nat) (m:Mem) (K:Kont)
  (h:∃ v4,cell? m ⟨f,0,none⟩=some (v4)∧CallM PP f_io_ReadFull #[v4,.slice a1 l2 k3] m fun v7 m8=>∃ x5 v6,v7=.tuple #[.int .i64 x5,v6]∧∃ x9,cell? m8 ⟨f,2,none⟩=some (.int .i64 x9)∧StW m8 ⟨f,2,none⟩ (.int .i64 (IntKind.wrap .i64 (x9+x5))) fun m10=>∃ x11,cell? m10 ⟨f,1052,none⟩=some (.int .i64 x11)∧StW m10 ⟨f,1052,none⟩ (.int .i64 (IntKind.wrap .i64 (x11 - x5))) fun m12=>CallM PP f_dictDecoder_writeMark #[.pointer (some ⟨f,1037,none⟩),.int .i64 x5] m12 fun v13 m14=>v13=.tuple #[]∧isIfc v6=true∧ifB (!(isNil v6)) (CallM PP f_inflate_noEOF #[v6] m14 fun v16 m17=>∃ v15,v16=v15∧StW m17 ⟨f,1048,none⟩ v15 fun m18=>K.kr [(0,.pointer (some ⟨f,0,none⟩)),(2,.slice a1 l2 k3),(3,.int .i64 x5),(4,v6)] m18) (CallM PP f_dictDecoder_availWrite #[.pointer (some ⟨f,1037,none⟩)] m14 fun v20 m21=>∃ x19,v20=.int .i64 x19∧ifB (x19 == 0) (CallM PP f_dictDecoder_readFlush #[.pointer (some ⟨f,1037,none⟩)] m21 fun v25 m26=>∃ a22 l23 k24,v25=.slice a22 l23 k24∧StW m26 ⟨f,1049,none⟩ (.slice a22 l23 k24) fun m27=>StW m27 ⟨f,1045,none⟩ (.func (.func f_decompressor_copyData) #[] #[]) fun m28=>K.kr [(0,.pointer (some ⟨f,0,none⟩)),(2,.slice a1 l2 k3),(3,.int .i64 x5),(4,v6)] m28) (∃ x29,cell? m21 ⟨f,1052,none⟩=some (.int .i64 x29)∧ifB (decide (x29 > 0)) (CallM PP f_dictDecoder_readFlush #[.pointer (some ⟨f,1037,none⟩)] m21 fun v33 m34=>∃ a30 l31 k32,v33=.slice a30 l31 k32∧StW m34 ⟨f,1049,none⟩ (.slice a30 l31 k32) fun m35=>StW m35 ⟨f,1045,none⟩ (.func (.func f_decompressor_copyData) #[] #[]) fun m36=>K.kr [(0,.pointer (some ⟨f,0,none⟩)),(2,.slice a1 l2 k3),(3,.int .i64 x5),(4,v6)] m36) (CallM PP f_decompressor_finishBlock #[.pointer (some ⟨f,0,none⟩)] m21 fun v37 m38=>v37=.tuple #[]∧K.kn [(0,.pointer (some ⟨f,0,none⟩)),(2,.slice a1 l2 k3),(3,.int .i64 x5),(4,v6)] m38)))):
  wpc PP FF 83 L_decompressor_copyData c_decompressor_copyData_rr K [(0,.pointer (some ⟨f,0,none⟩)),(2,.slice a1 l2 k3)] m:=
 Eq.mpr (by kernel_rfl) h
def L_huffmanDecoder_init:List Nat:=[0,1,4,5,6,7,9,10,11,12,13,14,15,16,17,18,19,20,21,22,23,24,25,26,27,28,29,31,33,38,42,43,44,45,49,56,60,69,73,99,105,128,149,168,169,170,171,176,200,203,217,236,258,271,281,282,283,287,294,300,301,302,303,306,307,308,309,313]
def r_huffmanDecoder_init:List ResultVar:=[.tmp 4]
noncomputable def c_huffmanDecoder_init:Code:=(Go.Proofs.Tryz.f80.body).getD .skip
theorem b_huffmanDecoder_init:Go.Proofs.Tryz.f80.body=some c_huffmanDecoder_init:=by kernel_rfl
noncomputable def c_huffmanDecoder_init_rr:Code:=(rgt (rgt c_huffmanDecoder_init))
noncomputable def c_huffmanDecoder_init_rrrrr:Code:=(rgt (rgt (rgt c_huffmanDecoder_init_rr)))
noncomputable def c_huffmanDecoder_init_rrrrlrl:Code:=(lft (rgt (lft (rgt (rgt c_huffmanDecoder_init_rr)))))
noncomputable def c_huffmanDecoder_init_rrrrlrll:Code:=(lft c_huffmanDecoder_init_rrrrlrl)
noncomputable def c_huffmanDecoder_init_rrrrrrrrr:Code:=(rgt (rgt (rgt (rgt c_huffmanDecoder_init_rrrrr))))
noncomputable def c_huffmanDecoder_init_rrrrrrrrlrl:Code:=(lft (rgt (lft (rgt (rgt (rgt c_huffmanDecoder_init_rrrrr))))))
noncomputable def c_huffmanDecoder_init_rrrrlrllrrr:Code:=(rgt (rgt (rgt c_huffmanDecoder_init_rrrrlrll)))
noncomputable def c_huffmanDecoder_init_rrrrrrrrlrll:Code:=(lft c_huffmanDecoder_init_rrrrrrrrlrl)
noncomputable def c_huffmanDecoder_init_rrrrrrrrrrrr:Code:=(rgt (rgt (rgt c_huffmanDecoder_init_rrrrrrrrr)))
noncomputable def c_huffmanDecoder_init_rrrrrrrrrrrrr:Code:=(rgt c_huffmanDecoder_init_rrrrrrrrrrrr)
noncomputable def c_huffmanDecoder_init_rrrrrrrrrrrrrr:Code:=(rgt c_huffmanDecoder_init_rrrrrrrrrrrrr)
noncomputable def c_huffmanDecoder_init_rrrrrrrrrrrrlrl:Code:=(lft (rgt (lft c_huffmanDecoder_init_rrrrrrrrrrrr)))
noncomputable def c_huffmanDecoder_init_rrrrlrllrrllrrr:Code:=(rgt (rgt (rgt (lft (lft (rgt (rgt c_huffmanDecoder_init_rrrrlrll)))))))
noncomputable def c_huffmanDecoder_init_rrrrrrrrrrrrlrll:Code:=(lft c_huffmanDecoder_init_rrrrrrrrrrrrlrl)
noncomputable def c_huffmanDecoder_init_rrrrlrllrrllrrrr:Code:=(rgt c_huffmanDecoder_init_rrrrlrllrrllrrr)
noncomputable def c_huffmanDecoder_init_rrrrrrrrrrrrrlllrl:Code:=(lft (rgt (lft (lft (lft c_huffmanDecoder_init_rrrrrrrrrrrrr)))))
noncomputable def c_huffmanDecoder_init_rrrrrrrrrrrrrllrrl:Code:=(lft (rgt (rgt (lft (lft c_huffmanDecoder_init_rrrrrrrrrrrrr)))))
noncomputable def c_huffmanDecoder_init_rrrrrrrrrrrrrlllrll:Code:=(lft c_huffmanDecoder_init_rrrrrrrrrrrrrlllrl)
noncomputable def c_huffmanDecoder_init_rrrrrrrrrrrrrllrrll:Code:=(lft c_huffmanDecoder_init_rrrrrrrrrrrrrllrrl)
noncomputable def c_huffmanDecoder_init_rrrrrrrrrrrrlrllrrr:Code:=(rgt (rgt (rgt c_huffmanDecoder_init_rrrrrrrrrrrrlrll)))
noncomputable def c_huffmanDecoder_init_rrrrrrrrrrrlrlrrrrrl:Code:=(lft (rgt (rgt (rgt (rgt (rgt (lft (rgt (lft (rgt (rgt c_huffmanDecoder_init_rrrrrrrrr)))))))))))
noncomputable def c_huffmanDecoder_init_rrrrrrrrrrrlrlrrrrrll:Code:=(lft c_huffmanDecoder_init_rrrrrrrrrrrlrlrrrrrl)
noncomputable def c_huffmanDecoder_init_rrrrrrrrrrrrrlllrllrrr:Code:=(rgt (rgt (rgt c_huffmanDecoder_init_rrrrrrrrrrrrrlllrll)))
noncomputable def c_huffmanDecoder_init_rrrrrrrrrrrrrllrrllrrr:Code:=(rgt (rgt (rgt c_huffmanDecoder_init_rrrrrrrrrrrrrllrrll)))
noncomputable def c_huffmanDecoder_init_rrrrrrrrrrrlrlrrrrrllrr:Code:=(rgt (rgt c_huffmanDecoder_init_rrrrrrrrrrrlrlrrrrrll))
noncomputable def c_huffmanDecoder_init_rrrrrrrrrrrrrllrrllrrllrrl:Code:=(lft (rgt (rgt (lft (lft (rgt (rgt c_huffmanDecoder_init_rrrrrrrrrrrrrllrrll)))))))
noncomputable def c_huffmanDecoder_init_rrrrrrrrrrrrrllrrllrrllrrll:Code:=(lft c_huffmanDecoder_init_rrrrrrrrrrrrrllrrllrrllrrl)
noncomputable def c_huffmanDecoder_init_rrrrrrrrrrrlrlrrrrrllrllrrrr:Code:=(rgt (rgt (rgt (rgt (lft (lft (rgt c_huffmanDecoder_init_rrrrrrrrrrrlrlrrrrrll)))))))
noncomputable def c_huffmanDecoder_init_rrrrrrrrrrrrrllrrllrrllrrllrrr:Code:=(rgt (rgt (rgt c_huffmanDecoder_init_rrrrrrrrrrrrrllrrllrrllrrll)))
noncomputable def c_huffmanDecoder_init_rrrrrrrrrrrrlrllrrllrrrrrrrrlrl:Code:=(lft (rgt (lft (rgt (rgt (rgt (rgt (rgt (rgt (rgt (rgt (lft (lft (rgt (rgt c_huffmanDecoder_init_rrrrrrrrrrrrlrll)))))))))))))))
noncomputable def c_huffmanDecoder_init_rrrrrrrrrrrrlrllrrllrrrrrrrrrrr:Code:=(rgt (rgt (rgt (rgt (rgt (rgt (rgt (rgt (rgt (rgt (rgt (lft (lft (rgt (rgt c_huffmanDecoder_init_rrrrrrrrrrrrlrll)))))))))))))))
noncomputable def c_huffmanDecoder_init_rrrrrrrrrrrrlrllrrllrrrrrrrrlrll:Code:=(lft c_huffmanDecoder_init_rrrrrrrrrrrrlrllrrllrrrrrrrrlrl)
noncomputable def c_huffmanDecoder_init_rrrrrrrrrrrrlrllrrllrrrrrrrrlrllrr:Code:=(rgt (rgt c_huffmanDecoder_init_rrrrrrrrrrrrlrllrrllrrrrrrrrlrll))
noncomputable def c_huffmanDecoder_init_rrrrrrrrrrrrlrllrrllrrrrrrrrrrrrrrrl:Code:=(lft (rgt (rgt (rgt (rgt c_huffmanDecoder_init_rrrrrrrrrrrrlrllrrllrrrrrrrrrrr)))))
noncomputable def c_huffmanDecoder_init_rrrrrrrrrrrrlrllrrllrrrrrrrrlrllrllr:Code:=(rgt (lft (lft (rgt c_huffmanDecoder_init_rrrrrrrrrrrrlrllrrllrrrrrrrrlrll))))
noncomputable def c_huffmanDecoder_init_rrrrrrrrrrrrlrllrrllrrrrrrrrrrrrrrrll:Code:=(lft c_huffmanDecoder_init_rrrrrrrrrrrrlrllrrllrrrrrrrrrrrrrrrl)
noncomputable def c_huffmanDecoder_init_rrrrrrrrrrrrlrllrrllrrrrrrrrrrrrrrrllrr:Code:=(rgt (rgt c_huffmanDecoder_init_rrrrrrrrrrrrlrllrrllrrrrrrrrrrrrrrrll))
noncomputable def c_huffmanDecoder_init_rrrrrrrrrrrrlrllrrllrrrrrrrrrrrrrrrllrllr:Code:=(rgt (lft (lft (rgt c_huffmanDecoder_init_rrrrrrrrrrrrlrllrrllrrrrrrrrrrrrrrrll))))
theorem q_huffmanDecoder_init_rrrrlrl:c_huffmanDecoder_init_rrrrlrl=.loop c_huffmanDecoder_init_rrrrlrll:=by kernel_rfl
theorem q_huffmanDecoder_init_rrrrrrrrlrl:c_huffmanDecoder_init_rrrrrrrrlrl=.loop c_huffmanDecoder_init_rrrrrrrrlrll:=by kernel_rfl
theorem q_huffmanDecoder_init_rrrrrrrrrrrrlrl:c_huffmanDecoder_init_rrrrrrrrrrrrlrl=.loop c_huffmanDecoder_init_rrrrrrrrrrrrlrll:=by kernel_rfl
theorem q_huffmanDecoder_init_rrrrrrrrrrrrrlllrl:c_huffmanDecoder_init_rrrrrrrrrrrrrlllrl=.loop c_huffmanDecoder_init_rrrrrrrrrrrrrlllrll:=by kernel_rfl
theorem q_huffmanDecoder_init_rrrrrrrrrrrrrllrrl:c_huffmanDecoder_init_rrrrrrrrrrrrrllrrl=.loop c_huffmanDecoder_init_rrrrrrrrrrrrrllrrll:=by kernel_rfl
theorem q_huffmanDecoder_init_rrrrrrrrrrrlrlrrrrrl:c_huffmanDecoder_init_rrrrrrrrrrrlrlrrrrrl=.loop c_huffmanDecoder_init_rrrrrrrrrrrlrlrrrrrll:=by kernel_rfl
theorem q_huffmanDecoder_init_rrrrrrrrrrrrrllrrllrrllrrl:c_huffmanDecoder_init_rrrrrrrrrrrrrllrrllrrllrrl=.loop c_huffmanDecoder_init_rrrrrrrrrrrrrllrrllrrllrrll:=by kernel_rfl
theorem q_huffmanDecoder_init_rrrrrrrrrrrrlrllrrllrrrrrrrrlrl:c_huffmanDecoder_init_rrrrrrrrrrrrlrllrrllrrrrrrrrlrl=.loop c_huffmanDecoder_init_rrrrrrrrrrrrlrllrrllrrrrrrrrlrll:=by kernel_rfl
theorem q_huffmanDecoder_init_rrrrrrrrrrrrlrllrrllrrrrrrrrrrrrrrrl:c_huffmanDecoder_init_rrrrrrrrrrrrlrllrrllrrrrrrrrrrrrrrrl=.loop c_huffmanDecoder_init_rrrrrrrrrrrrlrllrrllrrrrrrrrrrrrrrrll:=by kernel_rfl
theorem e_huffmanDecoder_init (b o:Nat) (a1:Option Addr) (l2:Nat) (k3:Nat) (m:Mem) (R:Value→Mem→Prop)
  (h:∃ x4,cell? m ⟨b,o,none⟩=some (.int .i64 x4)∧ifB (x4 != 0) (StAgg PP t_flate_huffmanDecoder m ⟨b,o,none⟩ (zeroV PP t_flate_huffmanDecoder) fun m5=>WPS PP 317 c_huffmanDecoder_init_rr (retK PP r_huffmanDecoder_init R) [(0,.pointer (some ⟨b,o,none⟩)),(1,.slice a1 l2 k3),(4,.bool false)] m5) (WPS PP 317 c_huffmanDecoder_init_rr (retK PP r_huffmanDecoder_init R) [(0,.pointer (some ⟨b,o,none⟩)),(1,.slice a1 l2 k3),(4,.bool false)] m)):
  CallM PP f_huffmanDecoder_init #[.pointer (some ⟨b,o,none⟩),.slice a1 l2 k3] m R:=
 callM_enter ffOk mixedOk 317 L_huffmanDecoder_init Tryz.func80 b_huffmanDecoder_init Tryz.ntmps80 (by simp) (Eq.mpr (by kernel_rfl) h)
def k_huffmanDecoder_init_rr:List Nat:=[0,1]
theorem p_huffmanDecoder_init_rr (b o:Nat) (a1:Option Addr) (l2:Nat) (k3:Nat) (m:Mem) (K:Kont)
  (h:AllocW PP t_16_int m fun n4 m5=>WPS PP 317 c_huffmanDecoder_init_rrrrlrl ((K.withN fun r m=>WPS PP 317 c_huffmanDecoder_init_rrrrr K r m).withX 0) [(0,.pointer (some ⟨b,o,none⟩)),(1,.slice a1 l2 k3),(5,.pointer (some ⟨n4,0,none⟩)),(6,.int .i64 0),(7,.int .i64 0),(42,.slice a1 l2 k3),(43,.int .i64 (l2:Int)),(44,.int .i64 0)] m5):
  wpc PP FF 317 L_huffmanDecoder_init c_huffmanDecoder_init_rr K [(0,.pointer (some ⟨b,o,none⟩)),(1,.slice a1 l2 k3)] m:=
 Eq.mpr (by kernel_rfl) h
theorem p_huffmanDecoder_init_rrrrlrll (b o:Nat) (a1:Option Addr) (l2:Nat) (k3:Nat) (n4:Nat) (x5:Int) (x6:Int) (a7:Option Addr) (l8:Nat) (k9:Nat) (x10:Int) (x11:Int) (m:Mem) (K:Kont)
  (h:ifB (decide (x11 < x10)) (onSome a7 fun p12=>(0≤x11∧x11 < (l8:Int))∧∃ x13,cell? m (aplus p12 x11.toNat)=some (.int .i64 x13)∧ifB (x13 == 0) (WPS PP 317 c_huffmanDecoder_init_rrrrlrllrrr K [(0,.pointer (some ⟨b,o,none⟩)),(1,.slice a1 l2 k3),(5,.pointer (some ⟨n4,0,none⟩)),(6,.int .i64 x5),(7,.int .i64 x6),(9,.int .i64 x13),(42,.slice a7 l8 k9),(43,.int .i64 x10),(44,.int .i64 x11)] m) (ifB (x5 == 0) (WPS PP 317 c_huffmanDecoder_init_rrrrlrllrrllrrr ((K.withN fun r m=>WPS PP 317 c_huffmanDecoder_init_rrrrlrllrrr K r m).withX 1) [(0,.pointer (some ⟨b,o,none⟩)),(1,.slice a1 l2 k3),(5,.pointer (some ⟨n4,0,none⟩)),(6,.int .i64 x13),(7,.int .i64 x6),(9,.int .i64 x13),(42,.slice a7 l8 k9),(43,.int .i64 x10),(44,.int .i64 x11)] m) (ifB (decide (x13 < x5)) (WPS PP 317 c_huffmanDecoder_init_rrrrlrllrrllrrr ((K.withN fun r m=>WPS PP 317 c_huffmanDecoder_init_rrrrlrllrrr K r m).withX 1) [(0,.pointer (some ⟨b,o,none⟩)),(1,.slice a1 l2 k3),(5,.pointer (some ⟨n4,0,none⟩)),(6,.int .i64 x13),(7,.int .i64 x6),(9,.int .i64 x13),(42,.slice a7 l8 k9),(43,.int .i64 x10),(44,.int .i64 x11)] m) (WPS PP 317 c_huffmanDecoder_init_rrrrlrllrrllrrr ((K.withN fun r m=>WPS PP 317 c_huffmanDecoder_init_rrrrlrllrrr K r m).withX 1) [(0,.pointer (some ⟨b,o,none⟩)),(1,.slice a1 l2 k3),(5,.pointer (some ⟨n4,0,none⟩)),(6,.int .i64 x5),(7,.int .i64 x6),(9,.int .i64 x13),(42,.slice a7 l8 k9),(43,.int .i64 x10),(44,.int .i64 x11)] m)))) (K.kx 0 [(0,.pointer (some ⟨b,o,none⟩)),(1,.slice a1 l2 k3),(5,.pointer (some ⟨n4,0,none⟩)),(6,.int .i64 x5),(7,.int .i64 x6),(42,.slice a7 l8 k9),(43,.int .i64 x10),(44,.int .i64 x11)] m)):
  wpc PP FF 317 L_huffmanDecoder_init c_huffmanDecoder_init_rrrrlrll K [(0,.pointer (some ⟨b,o,none⟩)),(1,.slice a1 l2 k3),(5,.pointer (some ⟨n4,0,none⟩)),(6,.int .i64 x5),(7,.int .i64 x6),(42,.slice a7 l8 k9),(43,.int .i64 x10),(44,.int .i64 x11)] m:=
 Eq.mpr (by kernel_rfl) h
theorem p_huffmanDecoder_init_rrrrrrrrlrll (b o:Nat) (a1:Option Addr) (l2:Nat) (k3:Nat) (n4:Nat) (x5:Int) (x6:Int) (x7:Int) (n8:Nat) (x9:Int) (m:Mem) (K:Kont)
  (h:ifB (decide (x9≤x6)) (0≤(1:Int)∧(0≤x9∧x9 < ((16:Nat):Int))∧StW m ⟨n8,0+x9.toNat,none⟩ (.int .i64 (shlOp .i64 x7 1)) fun m10=>(0≤x9∧x9 < ((16:Nat):Int))∧∃ x11,cell? m10 ⟨n4,0+x9.toNat,none⟩=some (.int .i64 x11)∧K.kn [(0,.pointer (some ⟨b,o,none⟩)),(1,.slice a1 l2 k3),(5,.pointer (some ⟨n4,0,none⟩)),(6,.int .i64 x5),(7,.int .i64 x6),(10,.int .i64 (IntKind.wrap .i64 ((shlOp .i64 x7 1)+x11))),(11,.pointer (some ⟨n8,0,none⟩)),(12,.int .i64 (IntKind.wrap .i64 (x9+1)))] m10) (K.kx 2 [(0,.pointer (some ⟨b,o,none⟩)),(1,.slice a1 l2 k3),(5,.pointer (some ⟨n4,0,none⟩)),(6,.int .i64 x5),(7,.int .i64 x6),(10,.int .i64 x7),(11,.pointer (some ⟨n8,0,none⟩)),(12,.int .i64 x9)] m)):
  wpc PP FF 317 L_huffmanDecoder_init c_huffmanDecoder_init_rrrrrrrrlrll K [(0,.pointer (some ⟨b,o,none⟩)),(1,.slice a1 l2 k3),(5,.pointer (some ⟨n4,0,none⟩)),(6,.int .i64 x5),(7,.int .i64 x6),(10,.int .i64 x7),(11,.pointer (some ⟨n8,0,none⟩)),(12,.int .i64 x9)] m:=
 Eq.mpr (by kernel_rfl) h
theorem p_huffmanDecoder_init_rrrrrrrrrrrrlrll (b o:Nat) (x1:Int) (n2:Nat) (a3:Option Addr) (l4:Nat) (k5:Nat) (x6:Int) (x7:Int) (m:Mem) (K:Kont)
  (h:ifB (decide (x7 < x6)) (onSome a3 fun p8=>(0≤x7∧x7 < (l4:Int))∧∃ x9,cell? m (aplus p8 x7.toNat)=some (.int .i64 x9)∧ifB (x9 == 0) (WPS PP 317 c_huffmanDecoder_init_rrrrrrrrrrrrlrllrrr K [(0,.pointer (some ⟨b,o,none⟩)),(10,.int .i64 x1),(11,.pointer (some ⟨n2,0,none⟩)),(18,.int .i64 x7),(19,.int .i64 x9),(168,.slice a3 l4 k5),(169,.int .i64 x6),(170,.int .i64 x7)] m) ((0≤x9∧x9 < ((16:Nat):Int))∧∃ x10,cell? m ⟨n2,0+x9.toNat,none⟩=some (.int .i64 x10)∧(0≤x9∧x9 < ((16:Nat):Int))∧∃ x11,cell? m ⟨n2,0+x9.toNat,none⟩=some (.int .i64 x11)∧(0≤x9∧x9 < ((16:Nat):Int))∧StW m ⟨n2,0+x9.toNat,none⟩ (.int .i64 (IntKind.wrap .i64 (x11+1))) fun m12=>0≤(4:Int)∧IntKind.i64=IntKind.i64∧CallM PP f_bits_Reverse16 #[.int .u16 (IntKind.wrap .u16 x10)] m12 fun v14 m15=>∃ x13,v14=.int .u16 x13∧0≤(IntKind.wrap .u64 (IntKind.wrap .i64 (16 - x9)))∧ifB (decide (x9≤9)) (WPS PP 317 c_huffmanDecoder_init_rrrrrrrrrrrrlrllrrllrrrrrrrrlrl (((K.withN fun r m=>WPS PP 317 c_huffmanDecoder_init_rrrrrrrrrrrrlrllrrr K r m).withX 7).withX 8) [(0,.pointer (some ⟨b,o,none⟩)),(10,.int .i64 x1),(11,.pointer (some ⟨n2,0,none⟩)),(18,.int .i64 x7),(19,.int .i64 x9),(20,.int .i64 x10),(21,.int .u32 (IntKind.wrap .u32 (bitsOp .or .i64 (shlOp .i64 x7 4) x9))),(22,.int .i64 (shrOp .i64 (IntKind.wrap .i64 x13) (IntKind.wrap .u64 (IntKind.wrap .i64 (16 - x9))))),(23,.int .i64 (shrOp .i64 (IntKind.wrap .i64 x13) (IntKind.wrap .u64 (IntKind.wrap .i64 (16 - x9))))),(168,.slice a3 l4 k5),(169,.int .i64 x6),(170,.int .i64 x7)] m15) (IntKind.i64=IntKind.i64∧WPS PP 317 c_huffmanDecoder_init_rrrrrrrrrrrrlrllrrllrrrrrrrrrrr ((K.withN fun r m=>WPS PP 317 c_huffmanDecoder_init_rrrrrrrrrrrrlrllrrr K r m).withX 7) [(0,.pointer (some ⟨b,o,none⟩)),(10,.int .i64 x1),(11,.pointer (some ⟨n2,0,none⟩)),(18,.int .i64 x7),(19,.int .i64 x9),(20,.int .i64 x10),(21,.int .u32 (IntKind.wrap .u32 (bitsOp .or .i64 (shlOp .i64 x7 4) x9))),(22,.int .i64 (shrOp .i64 (IntKind.wrap .i64 x13) (IntKind.wrap .u64 (IntKind.wrap .i64 (16 - x9))))),(24,.int .i64 (bitsOp .and .i64 (shrOp .i64 (IntKind.wrap .i64 x13) (IntKind.wrap .u64 (IntKind.wrap .i64 (16 - x9)))) 511)),(168,.slice a3 l4 k5),(169,.int .i64 x6),(170,.int .i64 x7)] m15))) (K.kx 6 [(0,.pointer (some ⟨b,o,none⟩)),(10,.int .i64 x1),(11,.pointer (some ⟨n2,0,none⟩)),(168,.slice a3 l4 k5),(169,.int .i64 x6),(170,.int .i64 x7)] m)):
  wpc PP FF 317 L_huffmanDecoder_init c_huffmanDecoder_init_rrrrrrrrrrrrlrll K [(0,.pointer (some ⟨b,o,none⟩)),(10,.int .i64 x1),(11,.pointer (some ⟨n2,0,none⟩)),(168,.slice a3 l4 k5),(169,.int .i64 x6),(170,.int .i64 x7)] m:=
 Eq.mpr (by kernel_rfl) h
theorem p_huffmanDecoder_init_rrrrrrrrrrrrrlllrll (b o:Nat) (x1:Int) (v2:Value) (x3:Int) (m:Mem) (K:Kont)
  (h:ifB (decide (x3 < 512)) (PureW PP (Instr.index t_512_uint32 v2 (.int .i64 x3)) fun u5=>∃ x4,u5=.int .u32 x4∧ifB (x4 == 0) (ifB (x1 == 1) (IntKind.i64=IntKind.i64∧(2:Int)≠0∧ifB ((Int.tmod x3 2) == 1) (WPS PP 317 c_huffmanDecoder_init_rrrrrrrrrrrrrlllrllrrr K [(0,.pointer (some ⟨b,o,none⟩)),(10,.int .i64 x1),(28,.int .i64 x3),(29,.int .u32 x4),(281,v2),(282,.int .i64 x3)] m) (False)) (False)) (WPS PP 317 c_huffmanDecoder_init_rrrrrrrrrrrrrlllrllrrr K [(0,.pointer (some ⟨b,o,none⟩)),(10,.int .i64 x1),(28,.int .i64 x3),(29,.int .u32 x4),(281,v2),(282,.int .i64 x3)] m)) (K.kx 12 [(0,.pointer (some ⟨b,o,none⟩)),(10,.int .i64 x1),(281,v2),(282,.int .i64 x3)] m)):
  wpc PP FF 317 L_huffmanDecoder_init c_huffmanDecoder_init_rrrrrrrrrrrrrlllrll K [(0,.pointer (some ⟨b,o,none⟩)),(10,.int .i64 x1),(281,v2),(282,.int .i64 x3)] m:=
 Eq.mpr (by kernel_rfl) h
theorem p_huffmanDecoder_init_rrrrrrrrrrrrrllrrll (a1:Option Addr) (l2:Nat) (k3:Nat) (x4:Int) (x5:Int) (m:Mem) (K:Kont)
  (h:ifB (decide (x5 < x4)) (onSome a1 fun p6=>(0≤x5∧x5 < (l2:Int))∧∃ a7 l8 k9,cell? m (aplus p6 x5.toNat)=some (.slice a7 l8 k9)∧WPS PP 317 c_huffmanDecoder_init_rrrrrrrrrrrrrllrrllrrllrrl (((K.withN fun r m=>WPS PP 317 c_huffmanDecoder_init_rrrrrrrrrrrrrllrrllrrr K r m).withX 15).withX 16) [(31,.slice a7 l8 k9),(300,.slice a1 l2 k3),(301,.int .i64 x4),(302,.int .i64 x5),(306,.slice a7 l8 k9),(307,.int .i64 (l8:Int)),(308,.int .i64 0)] m) (K.kx 14 [(300,.slice a1 l2 k3),(301,.int .i64 x4),(302,.int .i64 x5)] m)):
  wpc PP FF 317 L_huffmanDecoder_init c_huffmanDecoder_init_rrrrrrrrrrrrrllrrll K [(300,.slice a1 l2 k3),(301,.int .i64 x4),(302,.int .i64 x5)] m:=
 Eq.mpr (by kernel_rfl) h
theorem p_huffmanDecoder_init_rrrrrrrrrrrlrlrrrrrll (b o:Nat) (a1:Option Addr) (l2:Nat) (k3:Nat) (x4:Int) (n5:Nat) (x6:Int) (x7:Int) (x8:Int) (m:Mem) (K:Kont)
  (h:ifB (decide (x8 < 512)) (CallM PP f_bits_Reverse16 #[.int .u16 (IntKind.wrap .u16 x8)] m fun v10 m11=>∃ x9,v10=.int .u16 x9∧0≤(7:Int)∧WPS PP 317 c_huffmanDecoder_init_rrrrrrrrrrrlrlrrrrrllrllrrrr ((K.withN fun r m=>wpc PP FF 317 L_huffmanDecoder_init c_huffmanDecoder_init_rrrrrrrrrrrlrlrrrrrllrr K r m).withX 5) [(0,.pointer (some ⟨b,o,none⟩)),(1,.slice a1 l2 k3),(10,.int .i64 x4),(11,.pointer (some ⟨n5,0,none⟩)),(13,.int .i64 x6),(14,.int .i64 x7),(15,.int .u64 x8),(16,.int .i64 (shrOp .i64 (IntKind.wrap .i64 x9) 7)),(17,.int .u64 (IntKind.wrap .u64 (x8 - (IntKind.wrap .u64 x7))))] m11) (K.kx 4 [(0,.pointer (some ⟨b,o,none⟩)),(1,.slice a1 l2 k3),(10,.int .i64 x4),(11,.pointer (some ⟨n5,0,none⟩)),(13,.int .i64 x6),(14,.int .i64 x7),(15,.int .u64 x8)] m)):
  wpc PP FF 317 L_huffmanDecoder_init c_huffmanDecoder_init_rrrrrrrrrrrlrlrrrrrll K [(0,.pointer (some ⟨b,o,none⟩)),(1,.slice a1 l2 k3),(10,.int .i64 x4),(11,.pointer (some ⟨n5,0,none⟩)),(13,.int .i64 x6),(14,.int .i64 x7),(15,.int .u64 x8)] m:=
 Eq.mpr (by kernel_rfl) h
theorem p_huffmanDecoder_init_rrrrrrrrrrrrrllrrllrrllrrll (a1:Option Addr) (l2:Nat) (k3:Nat) (x4:Int) (x5:Int) (a6:Option Addr) (l7:Nat) (k8:Nat) (x9:Int) (x10:Int) (m:Mem) (K:Kont)
  (h:ifB (decide (x10 < x9)) (onSome a6 fun p11=>(0≤x10∧x10 < (l7:Int))∧∃ x12,cell? m (aplus p11 x10.toNat)=some (.int .u32 x12)∧ifB (x12 == 0) (False) (WPS PP 317 c_huffmanDecoder_init_rrrrrrrrrrrrrllrrllrrllrrllrrr K [(33,.int .u32 x12),(300,.slice a1 l2 k3),(301,.int .i64 x4),(302,.int .i64 x5),(306,.slice a6 l7 k8),(307,.int .i64 x9),(308,.int .i64 x10)] m)) (K.kx 16 [(300,.slice a1 l2 k3),(301,.int .i64 x4),(302,.int .i64 x5),(306,.slice a6 l7 k8),(307,.int .i64 x9),(308,.int .i64 x10)] m)):
  wpc PP FF 317 L_huffmanDecoder_init c_huffmanDecoder_init_rrrrrrrrrrrrrllrrllrrllrrll K [(300,.slice a1 l2 k3),(301,.int .i64 x4),(302,.int .i64 x5),(306,.slice a6 l7 k8),(307,.int .i64 x9),(308,.int .i64 x10)] m:=
 Eq.mpr (by kernel_rfl) h
theorem p_huffmanDecoder_init_rrrrrrrrrrrrlrllrrllrrrrrrrrlrll (b o:Nat) (x1:Int) (n2:Nat) (x3:Int) (x4:Int) (x5:Int) (a6:Option Addr) (l7:Nat) (k8:Nat) (x9:Int) (x10:Int) (m:Mem) (K:Kont)
  (h:ifB (decide (x5 < 512)) (WPS PP 317 c_huffmanDecoder_init_rrrrrrrrrrrrlrllrrllrrrrrrrrlrllrllr ((K.withN fun r m=>wpc PP FF 317 L_huffmanDecoder_init c_huffmanDecoder_init_rrrrrrrrrrrrlrllrrllrrrrrrrrlrllrr K r m).withX 9) [(0,.pointer (some ⟨b,o,none⟩)),(10,.int .i64 x1),(11,.pointer (some ⟨n2,0,none⟩)),(19,.int .i64 x3),(21,.int .u32 x4),(23,.int .i64 x5),(168,.slice a6 l7 k8),(169,.int .i64 x9),(170,.int .i64 x10)] m) (K.kx 8 [(0,.pointer (some ⟨b,o,none⟩)),(10,.int .i64 x1),(11,.pointer (some ⟨n2,0,none⟩)),(19,.int .i64 x3),(21,.int .u32 x4),(23,.int .i64 x5),(168,.slice a6 l7 k8),(169,.int .i64 x9),(170,.int .i64 x10)] m)):
  wpc PP FF 317 L_huffmanDecoder_init c_huffmanDecoder_init_rrrrrrrrrrrrlrllrrllrrrrrrrrlrll K [(0,.pointer (some ⟨b,o,none⟩)),(10,.int .i64 x1),(11,.pointer (some ⟨n2,0,none⟩)),(19,.int .i64 x3),(21,.int .u32 x4),(23,.int .i64 x5),(168,.slice a6 l7 k8),(169,.int .i64 x9),(170,.int .i64 x10)] m:=
 Eq.mpr (by kernel_rfl) h
theorem p_huffmanDecoder_init_rrrrrrrrrrrrlrllrrllrrrrrrrrrrrrrrrll (b o:Nat) (x1:Int) (n2:Nat) (x3:Int) (x4:Int) (a5:Option Addr) (l6:Nat) (k7:Nat) (x8:Int) (a9:Option Addr) (l10:Nat) (k11:Nat) (x12:Int) (x13:Int) (m:Mem) (K:Kont)
  (h:ifB (decide (x8 < (l6:Int))) (WPS PP 317 c_huffmanDecoder_init_rrrrrrrrrrrrlrllrrllrrrrrrrrrrrrrrrllrllr ((K.withN fun r m=>wpc PP FF 317 L_huffmanDecoder_init c_huffmanDecoder_init_rrrrrrrrrrrrlrllrrllrrrrrrrrrrrrrrrllrr K r m).withX 11) [(0,.pointer (some ⟨b,o,none⟩)),(10,.int .i64 x1),(11,.pointer (some ⟨n2,0,none⟩)),(19,.int .i64 x3),(21,.int .u32 x4),(26,.slice a5 l6 k7),(27,.int .i64 x8),(168,.slice a9 l10 k11),(169,.int .i64 x12),(170,.int .i64 x13)] m) (K.kx 10 [(0,.pointer (some ⟨b,o,none⟩)),(10,.int .i64 x1),(11,.pointer (some ⟨n2,0,none⟩)),(19,.int .i64 x3),(21,.int .u32 x4),(26,.slice a5 l6 k7),(27,.int .i64 x8),(168,.slice a9 l10 k11),(169,.int .i64 x12),(170,.int .i64 x13)] m)):
  wpc PP FF 317 L_huffmanDecoder_init c_huffmanDecoder_init_rrrrrrrrrrrrlrllrrllrrrrrrrrrrrrrrrll K [(0,.pointer (some ⟨b,o,none⟩)),(10,.int .i64 x1),(11,.pointer (some ⟨n2,0,none⟩)),(19,.int .i64 x3),(21,.int .u32 x4),(26,.slice a5 l6 k7),(27,.int .i64 x8),(168,.slice a9 l10 k11),(169,.int .i64 x12),(170,.int .i64 x13)] m:=
 Eq.mpr (by kernel_rfl) h
def k_huffmanDecoder_init_rrrrr:List Nat:=[0,1,5,6,7]
theorem p_huffmanDecoder_init_rrrrr (b o:Nat) (a1:Option Addr) (l2:Nat) (k3:Nat) (n4:Nat) (x5:Int) (x6:Int) (m:Mem) (K:Kont)
  (h:ifB (x6 == 0) (K.kr [(0,.pointer (some ⟨b,o,none⟩)),(1,.slice a1 l2 k3),(4,.bool true),(5,.pointer (some ⟨n4,0,none⟩)),(6,.int .i64 x5),(7,.int .i64 x6)] m) (AllocW PP t_16_int m fun n7 m8=>WPS PP 317 c_huffmanDecoder_init_rrrrrrrrlrl ((K.withN fun r m=>WPS PP 317 c_huffmanDecoder_init_rrrrrrrrr K r m).withX 2) [(0,.pointer (some ⟨b,o,none⟩)),(1,.slice a1 l2 k3),(5,.pointer (some ⟨n4,0,none⟩)),(6,.int .i64 x5),(7,.int .i64 x6),(10,.int .i64 0),(11,.pointer (some ⟨n7,0,none⟩)),(12,.int .i64 x5)] m8)):
  wpc PP FF 317 L_huffmanDecoder_init c_huffmanDecoder_init_rrrrr K [(0,.pointer (some ⟨b,o,none⟩)),(1,.slice a1 l2 k3),(5,.pointer (some ⟨n4,0,none⟩)),(6,.int .i64 x5),(7,.int .i64 x6)] m:=
 Eq.mpr (by kernel_rfl) h
def k_huffmanDecoder_init_rrrrlrllrrr:List Nat:=[0,1,5,6,7,42,43,44]
theorem p_huffmanDecoder_init_rrrrlrllrrr (b o:Nat) (a1:Option Addr) (l2:Nat) (k3:Nat) (n4:Nat) (x5:Int) (x6:Int) (a7:Option Addr) (l8:Nat) (k9:Nat) (x10:Int) (x11:Int) (m:Mem) (K:Kont)
  (h:K.kn [(0,.pointer (some ⟨b,o,none⟩)),(1,.slice a1 l2 k3),(5,.pointer (some ⟨n4,0,none⟩)),(6,.int .i64 x5),(7,.int .i64 x6),(42,.slice a7 l8 k9),(43,.int .i64 x10),(44,.int .i64 (IntKind.wrap .i64 (x11+1)))] m):
  wpc PP FF 317 L_huffmanDecoder_init c_huffmanDecoder_init_rrrrlrllrrr K [(0,.pointer (some ⟨b,o,none⟩)),(1,.slice a1 l2 k3),(5,.pointer (some ⟨n4,0,none⟩)),(6,.int .i64 x5),(7,.int .i64 x6),(42,.slice a7 l8 k9),(43,.int .i64 x10),(44,.int .i64 x11)] m:=
 Eq.mpr (by kernel_rfl) h
def k_huffmanDecoder_init_rrrrlrllrrllrrr:List Nat:=[0,1,5,6,7,9,42,43,44]
theorem p_huffmanDecoder_init_rrrrlrllrrllrrr (b o:Nat) (a1:Option Addr) (l2:Nat) (k3:Nat) (n4:Nat) (x5:Int) (x6:Int) (x7:Int) (a8:Option Addr) (l9:Nat) (k10:Nat) (x11:Int) (x12:Int) (m:Mem) (K:Kont)
  (h:ifB (decide (x7 > x6)) (WPS PP 317 c_huffmanDecoder_init_rrrrlrllrrllrrrr K [(0,.pointer (some ⟨b,o,none⟩)),(1,.slice a1 l2 k3),(5,.pointer (some ⟨n4,0,none⟩)),(6,.int .i64 x5),(7,.int .i64 x7),(9,.int .i64 x7),(42,.slice a8 l9 k10),(43,.int .i64 x11),(44,.int .i64 x12)] m) (WPS PP 317 c_huffmanDecoder_init_rrrrlrllrrllrrrr K [(0,.pointer (some ⟨b,o,none⟩)),(1,.slice a1 l2 k3),(5,.pointer (some ⟨n4,0,none⟩)),(6,.int .i64 x5),(7,.int .i64 x6),(9,.int .i64 x7),(42,.slice a8 l9 k10),(43,.int .i64 x11),(44,.int .i64 x12)] m)):
  wpc PP FF 317 L_huffmanDecoder_init c_huffmanDecoder_init_rrrrlrllrrllrrr K [(0,.pointer (some ⟨b,o,none⟩)),(1,.slice a1 l2 k3),(5,.pointer (some ⟨n4,0,none⟩)),(6,.int .i64 x5),(7,.int .i64 x6),(9,.int .i64 x7),(42,.slice a8 l9 k10),(43,.int .i64 x11),(44,.int .i64 x12)] m:=
 Eq.mpr (by kernel_rfl) h
def k_huffmanDecoder_init_rrrrrrrrrrrrlrllrrr:List Nat:=[0,10,11,168,169,170]
theorem p_huffmanDecoder_init_rrrrrrrrrrrrlrllrrr (b o:Nat) (x1:Int) (n2:Nat) (a3:Option Addr) (l4:Nat) (k5:Nat) (x6:Int) (x7:Int) (m:Mem) (K:Kont)
  (h:K.kn [(0,.pointer (some ⟨b,o,none⟩)),(10,.int .i64 x1),(11,.pointer (some ⟨n2,0,none⟩)),(168,.slice a3 l4 k5),(169,.int .i64 x6),(170,.int .i64 (IntKind.wrap .i64 (x7+1)))] m):
  wpc PP FF 317 L_huffmanDecoder_init c_huffmanDecoder_init_rrrrrrrrrrrrlrllrrr K [(0,.pointer (some ⟨b,o,none⟩)),(10,.int .i64 x1),(11,.pointer (some ⟨n2,0,none⟩)),(168,.slice a3 l4 k5),(169,.int .i64 x6),(170,.int .i64 x7)] m:=
 Eq.mpr (by kernel_rfl) h
theorem p_huffmanDecoder_init_rrrrrrrrrrrrrlllrllrrr (b o:Nat) (x1:Int) (v2:Value) (x3:Int) (m:Mem) (K:Kont)
  (h:K.kn [(0,.pointer (some ⟨b,o,none⟩)),(10,.int .i64 x1),(281,v2),(282,.int .i64 (IntKind.wrap .i64 (x3+1)))] m):
  wpc PP FF 317 L_huffmanDecoder_init c_huffmanDecoder_init_rrrrrrrrrrrrrlllrllrrr K [(0,.pointer (some ⟨b,o,none⟩)),(10,.int .i64 x1),(281,v2),(282,.int .i64 x3)] m:=
 Eq.mpr (by kernel_rfl) h
theorem p_huffmanDecoder_init_rrrrrrrrrrrrrllrrllrrr (a1:Option Addr) (l2:Nat) (k3:Nat) (x4:Int) (x5:Int) (m:Mem) (K:Kont)
  (h:K.kn [(300,.slice a1 l2 k3),(301,.int .i64 x4),(302,.int .i64 (IntKind.wrap .i64 (x5+1)))] m):
  wpc PP FF 317 L_huffmanDecoder_init c_huffmanDecoder_init_rrrrrrrrrrrrrllrrllrrr K [(300,.slice a1 l2 k3),(301,.int .i64 x4),(302,.int .i64 x5)] m:=
 Eq.mpr (by kernel_rfl) h
theorem p_huffmanDecoder_init_rrrrrrrrrrrlrlrrrrrllrr (b o:Nat) (a1:Option Addr) (l2:Nat) (k3:Nat) (x4:Int) (n5:Nat) (x6:Int) (x7:Int) (x8:Int) (m:Mem) (K:Kont)
  (h:K.kn [(0,.pointer (some ⟨b,o,none⟩)),(1,.slice a1 l2 k3),(10,.int .i64 x4),(11,.pointer (some ⟨n5,0,none⟩)),(13,.int .i64 x6),(14,.int .i64 x7),(15,.int .u64 (IntKind.wrap .u64 (x8+1)))] m):
  wpc PP FF 317 L_huffmanDecoder_init c_huffmanDecoder_init_rrrrrrrrrrrlrlrrrrrllrr K [(0,.pointer (some ⟨b,o,none⟩)),(1,.slice a1 l2 k3),(10,.int .i64 x4),(11,.pointer (some ⟨n5,0,none⟩)),(13,.int .i64 x6),(14,.int .i64 x7),(15,.int .u64 x8)] m:=
 Eq.mpr (by kernel_rfl) h
def k_huffmanDecoder_init_rrrrrrrrrrrlrlrrrrrllrllrrrr:List Nat:=[0,1,10,11,13,14,15,16,17]
theorem p_huffmanDecoder_init_rrrrrrrrrrrlrlrrrrrllrllrrrr (b o:Nat) (a1:Option Addr) (l2:Nat) (k3:Nat) (x4:Int) (n5:Nat) (x6:Int) (x7:Int) (x8:Int) (x9:Int) (x10:Int) (m:Mem) (K:Kont)
  (h:0≤(4:Int)∧IntKind.u64=IntKind.u64∧(0≤x9∧x9 < ((512:Nat):Int))∧StW m ⟨b,o+1+x9.toNat,none⟩ (.int .u32 (IntKind.wrap .u32 (bitsOp .or .u64 (shlOp .u64 x10 4) 10))) fun m11=>∃ a12 l13 k14,cell? m11 ⟨b,o+513,none⟩=some (.slice a12 l13 k14)∧SemW PP (sv (Instr.makeSlice t_s_uint32 (.int .i64 x6) (.int .i64 x6))) m11 (NextW PP fun v18 m19=>∃ a15 l16 k17,v18=.slice a15 l16 k17∧cell? m19 ⟨b,o+513,none⟩=some (.slice a12 l13 k14)∧onSome a12 fun p20=>(0≤x10∧x10 < (l13:Int))∧StW m19 (aplus p20 x10.toNat) (.slice a15 l16 k17) fun m21=>cell? m21 ⟨b,o+513,none⟩=some (.slice a12 l13 k14)∧K.kn [(0,.pointer (some ⟨b,o,none⟩)),(1,.slice a1 l2 k3),(10,.int .i64 x4),(11,.pointer (some ⟨n5,0,none⟩)),(13,.int .i64 x6),(14,.int .i64 x7),(15,.int .u64 x8),(16,.int .i64 x9),(17,.int .u64 x10)] m21)):
  wpc PP FF 317 L_huffmanDecoder_init c_huffmanDecoder_init_rrrrrrrrrrrlrlrrrrrllrllrrrr K [(0,.pointer (some ⟨b,o,none⟩)),(1,.slice a1 l2 k3),(10,.int .i64 x4),(11,.pointer (some ⟨n5,0,none⟩)),(13,.int .i64 x6),(14,.int .i64 x7),(15,.int .u64 x8),(16,.int .i64 x9),(17,.int .u64 x10)] m:=
 Eq.mpr (by kernel_rfl) h
theorem p_huffmanDecoder_init_rrrrrrrrrrrrrllrrllrrllrrllrrr (a1:Option Addr) (l2:Nat) (k3:Nat) (x4:Int) (x5:Int) (a6:Option Addr) (l7:Nat) (k8:Nat) (x9:Int) (x10:Int) (m:Mem) (K:Kont)
  (h:K.kn [(300,.slice a1 l2 k3),(301,.int .i64 x4),(302,.int .i64 x5),(306,.slice a6 l7 k8),(307,.int .i64 x9),(308,.int .i64 (IntKind.wrap .i64 (x10+1)))] m):
  wpc PP FF 317 L_huffmanDecoder_init c_huffmanDecoder_init_rrrrrrrrrrrrrllrrllrrllrrllrrr K [(300,.slice a1 l2 k3),(301,.int .i64 x4),(302,.int .i64 x5),(306,.slice a6 l7 k8),(307,.int .i64 x9),(308,.int .i64 x10)] m:=
 Eq.mpr (by kernel_rfl) h
def k_huffmanDecoder_init_rrrrrrrrrrrrlrllrrllrrrrrrrrrrr:List Nat:=[0,10,11,19,21,22,24,168,169,170]
theorem p_huffmanDecoder_init_rrrrrrrrrrrrlrllrrllrrrrrrrrrrr (b o:Nat) (x1:Int) (n2:Nat) (x3:Int) (x4:Int) (x5:Int) (x6:Int) (a7:Option Addr) (l8:Nat) (k9:Nat) (x10:Int) (x11:Int) (m:Mem) (K:Kont)
  (h:(0≤x6∧x6 < ((512:Nat):Int))∧∃ x12,cell? m ⟨b,o+1+x6.toNat,none⟩=some (.int .u32 x12)∧0≤(4:Int)∧∃ a13 l14 k15,cell? m ⟨b,o+513,none⟩=some (.slice a13 l14 k15)∧onSome a13 fun p16=>(0≤(shrOp .u32 x12 4)∧(shrOp .u32 x12 4) < (l14:Int))∧∃ a17 l18 k19,cell? m (aplus p16 ((shrOp .u32 x12 4).toNat))=some (.slice a17 l18 k19)∧0≤(9:Int)∧WPS PP 317 c_huffmanDecoder_init_rrrrrrrrrrrrlrllrrllrrrrrrrrrrrrrrrl (K.withX 10) [(0,.pointer (some ⟨b,o,none⟩)),(10,.int .i64 x1),(11,.pointer (some ⟨n2,0,none⟩)),(19,.int .i64 x3),(21,.int .u32 x4),(22,.int .i64 (shrOp .i64 x5 9)),(24,.int .i64 x6),(25,.int .u32 (shrOp .u32 x12 4)),(26,.slice a17 l18 k19),(27,.int .i64 (shrOp .i64 x5 9)),(168,.slice a7 l8 k9),(169,.int .i64 x10),(170,.int .i64 x11)] m):
  wpc PP FF 317 L_huffmanDecoder_init c_huffmanDecoder_init_rrrrrrrrrrrrlrllrrllrrrrrrrrrrr K [(0,.pointer (some ⟨b,o,none⟩)),(10,.int .i64 x1),(11,.pointer (some ⟨n2,0,none⟩)),(19,.int .i64 x3),(21,.int .u32 x4),(22,.int .i64 x5),(24,.int .i64 x6),(168,.slice a7 l8 k9),(169,.int .i64 x10),(170,.int .i64 x11)] m:=
 Eq.mpr (by kernel_rfl) h
theorem p_huffmanDecoder_init_rrrrrrrrrrrrlrllrrllrrrrrrrrlrllrr (b o:Nat) (x1:Int) (n2:Nat) (x3:Int) (x4:Int) (x5:Int) (a6:Option Addr) (l7:Nat) (k8:Nat) (x9:Int) (x10:Int) (m:Mem) (K:Kont)
  (h:0≤(IntKind.wrap .u64 x3)∧K.kn [(0,.pointer (some ⟨b,o,none⟩)),(10,.int .i64 x1),(11,.pointer (some ⟨n2,0,none⟩)),(19,.int .i64 x3),(21,.int .u32 x4),(23,.int .i64 (IntKind.wrap .i64 (x5+(shlOp .i64 1 (IntKind.wrap .u64 x3))))),(168,.slice a6 l7 k8),(169,.int .i64 x9),(170,.int .i64 x10)] m):
  wpc PP FF 317 L_huffmanDecoder_init c_huffmanDecoder_init_rrrrrrrrrrrrlrllrrllrrrrrrrrlrllrr K [(0,.pointer (some ⟨b,o,none⟩)),(10,.int .i64 x1),(11,.pointer (some ⟨n2,0,none⟩)),(19,.int .i64 x3),(21,.int .u32 x4),(23,.int .i64 x5),(168,.slice a6 l7 k8),(169,.int .i64 x9),(170,.int .i64 x10)] m:=
 Eq.mpr (by kernel_rfl) h
def k_huffmanDecoder_init_rrrrrrrrrrrrlrllrrllrrrrrrrrlrllrllr:List Nat:=[0,10,11,19,21,23,168,169,170]
theorem p_huffmanDecoder_init_rrrrrrrrrrrrlrllrrllrrrrrrrrlrllrllr (b o:Nat) (x1:Int) (n2:Nat) (x3:Int) (x4:Int) (x5:Int) (a6:Option Addr) (l7:Nat) (k8:Nat) (x9:Int) (x10:Int) (m:Mem) (K:Kont)
  (h:(0≤x5∧x5 < ((512:Nat):Int))∧StW m ⟨b,o+1+x5.toNat,none⟩ (.int .u32 x4) fun m11=>K.kn [(0,.pointer (some ⟨b,o,none⟩)),(10,.int .i64 x1),(11,.pointer (some ⟨n2,0,none⟩)),(19,.int .i64 x3),(21,.int .u32 x4),(23,.int .i64 x5),(168,.slice a6 l7 k8),(169,.int .i64 x9),(170,.int .i64 x10)] m11):
  wpc PP FF 317 L_huffmanDecoder_init c_huffmanDecoder_init_rrrrrrrrrrrrlrllrrllrrrrrrrrlrllrllr K [(0,.pointer (some ⟨b,o,none⟩)),(10,.int .i64 x1),(11,.pointer (some ⟨n2,0,none⟩)),(19,.int .i64 x3),(21,.int .u32 x4),(23,.int .i64 x5),(168,.slice a6 l7 k8),(169,.int .i64 x9),(170,.int .i64 x10)] m:=
 Eq.mpr (by kernel_rfl) h
theorem p_huffmanDecoder_init_rrrrrrrrrrrrlrllrrllrrrrrrrrrrrrrrrllrr (b o:Nat) (x1:Int) (n2:Nat) (x3:Int) (x4:Int) (a5:Option Addr) (l6:Nat) (k7:Nat) (x8:Int) (a9:Option Addr) (l10:Nat) (k11:Nat) (x12:Int) (x13:Int) (m:Mem) (K:Kont)
  (h:0≤(IntKind.wrap .u64 (IntKind.wrap .i64 (x3 - 9)))∧K.kn [(0,.pointer (some ⟨b,o,none⟩)),(10,.int .i64 x1),(11,.pointer (some ⟨n2,0,none⟩)),(19,.int .i64 x3),(21,.int .u32 x4),(26,.slice a5 l6 k7),(27,.int .i64 (IntKind.wrap .i64 (x8+(shlOp .i64 1 (IntKind.wrap .u64 (IntKind.wrap .i64 (x3 - 9))))))),(168,.slice a9 l10 k11),(169,.int .i64 x12),(170,.int .i64 x13)] m):
  wpc PP FF 317 L_huffmanDecoder_init c_huffmanDecoder_init_rrrrrrrrrrrrlrllrrllrrrrrrrrrrrrrrrllrr K [(0,.pointer (some ⟨b,o,none⟩)),(10,.int .i64 x1),(11,.pointer (some ⟨n2,0,none⟩)),(19,.int .i64 x3),(21,.int .u32 x4),(26,.slice a5 l6 k7),(27,.int .i64 x8),(168,.slice a9 l10 k11),(169,.int .i64 x12),(170,.int .i64 x13)] m:=
 Eq.mpr (by kernel_rfl) h
def k_huffmanDecoder_init_rrrrrrrrrrrrlrllrrllrrrrrrrrrrrrrrrllrllr:List Nat:=[0,10,11,19,21,26,27,168,169,170]
theorem p_huffmanDecoder_init_rrrrrrrrrrrrlrllrrllrrrrrrrrrrrrrrrllrllr (b o:Nat) (x1:Int) (n2:Nat) (x3:Int) (x4:Int) (a5:Option Addr) (l6:Nat) (k7:Nat) (x8:Int) (a9:Option Addr) (l10:Nat) (k11:Nat) (x12:Int) (x13:Int) (m:Mem) (K:Kont)
  (h:onSome a5 fun p14=>(0≤x8∧x8 < (l6:Int))∧StW m (aplus p14 x8.toNat) (.int .u32 x4) fun m15=>K.kn [(0,.pointer (some ⟨b,o,none⟩)),(10,.int .i64 x1),(11,.pointer (some ⟨n2,0,none⟩)),(19,.int .i64 x3),(21,.int .u32 x4),(26,.slice a5 l6 k7),(27,.int .i64 x8),(168,.slice a9 l10 k11),(169,.int .i64 x12),(170,.int .i64 x13)] m15):
  wpc PP FF 317 L_huffmanDecoder_init c_huffmanDecoder_init_rrrrrrrrrrrrlrllrrllrrrrrrrrrrrrrrrllrllr K [(0,.pointer (some ⟨b,o,none⟩)),(10,.int .i64 x1),(11,.pointer (some ⟨n2,0,none⟩)),(19,.int .i64 x3),(21,.int .u32 x4),(26,.slice a5 l6 k7),(27,.int .i64 x8),(168,.slice a9 l10 k11),(169,.int .i64 x12),(170,.int .i64 x13)] m:=
 Eq.mpr (by kernel_rfl) h
def k_huffmanDecoder_init_rrrrrrrrr:List Nat:=[0,1,6,7,10,11]
theorem p_huffmanDecoder_init_rrrrrrrrr (b o:Nat) (a1:Option Addr) (l2:Nat) (k3:Nat) (x4:Int) (x5:Int) (x6:Int) (n7:Nat) (m:Mem) (K:Kont)
  (h:0≤(IntKind.wrap .u64 x5)∧ifB (x6 != shlOp .i64 1 (IntKind.wrap .u64 x5)) (ifB (x6 == 1) (ifB (!(x5 == 1)) (K.kr [(0,.pointer (some ⟨b,o,none⟩)),(1,.slice a1 l2 k3),(4,.bool false),(6,.int .i64 x4),(7,.int .i64 x5),(10,.int .i64 x6),(11,.pointer (some ⟨n7,0,none⟩))] m) (StW m ⟨b,o,none⟩ (.int .i64 x4) fun m8=>ifB (decide (x5 > 9)) (0≤(IntKind.wrap .u64 ((IntKind.wrap .u64 x5) - 9))∧StW m8 ⟨b,o+514,none⟩ (.int .u32 (IntKind.wrap .u32 (IntKind.wrap .i64 ((shlOp .i64 1 (IntKind.wrap .u64 ((IntKind.wrap .u64 x5) - 9))) - 1)))) fun m9=>(0≤(10:Int)∧(10:Int) < ((16:Nat):Int))∧∃ x10,cell? m9 ⟨n7,10,none⟩=some (.int .i64 x10)∧0≤(1:Int)∧SemW PP (sv (Instr.makeSlice t_s_s_uint32 (.int .i64 (IntKind.wrap .i64 (512 - (shrOp .i64 x10 1)))) (.int .i64 (IntKind.wrap .i64 (512 - (shrOp .i64 x10 1)))))) m9 (NextW PP fun v14 m15=>∃ a11 l12 k13,v14=.slice a11 l12 k13∧StW m15 ⟨b,o+513,none⟩ (.slice a11 l12 k13) fun m16=>WPS PP 317 c_huffmanDecoder_init_rrrrrrrrrrrlrlrrrrrl ((K.withN fun r m=>WPS PP 317 c_huffmanDecoder_init_rrrrrrrrrrrr K r m).withX 4) [(0,.pointer (some ⟨b,o,none⟩)),(1,.slice a1 l2 k3),(6,.int .i64 x4),(7,.int .i64 x5),(10,.int .i64 x6),(11,.pointer (some ⟨n7,0,none⟩)),(13,.int .i64 (shlOp .i64 1 (IntKind.wrap .u64 ((IntKind.wrap .u64 x5) - 9)))),(14,.int .i64 (shrOp .i64 x10 1)),(15,.int .u64 (IntKind.wrap .u64 (shrOp .i64 x10 1)))] m16)) (WPS PP 317 c_huffmanDecoder_init_rrrrrrrrrrrr K [(0,.pointer (some ⟨b,o,none⟩)),(1,.slice a1 l2 k3),(6,.int .i64 x4),(7,.int .i64 x5),(10,.int .i64 x6),(11,.pointer (some ⟨n7,0,none⟩))] m8))) (K.kr [(0,.pointer (some ⟨b,o,none⟩)),(1,.slice a1 l2 k3),(4,.bool false),(6,.int .i64 x4),(7,.int .i64 x5),(10,.int .i64 x6),(11,.pointer (some ⟨n7,0,none⟩))] m)) (StW m ⟨b,o,none⟩ (.int .i64 x4) fun m17=>ifB (decide (x5 > 9)) (0≤(IntKind.wrap .u64 ((IntKind.wrap .u64 x5) - 9))∧StW m17 ⟨b,o+514,none⟩ (.int .u32 (IntKind.wrap .u32 (IntKind.wrap .i64 ((shlOp .i64 1 (IntKind.wrap .u64 ((IntKind.wrap .u64 x5) - 9))) - 1)))) fun m18=>(0≤(10:Int)∧(10:Int) < ((16:Nat):Int))∧∃ x19,cell? m18 ⟨n7,10,none⟩=some (.int .i64 x19)∧0≤(1:Int)∧SemW PP (sv (Instr.makeSlice t_s_s_uint32 (.int .i64 (IntKind.wrap .i64 (512 - (shrOp .i64 x19 1)))) (.int .i64 (IntKind.wrap .i64 (512 - (shrOp .i64 x19 1)))))) m18 (NextW PP fun v23 m24=>∃ a20 l21 k22,v23=.slice a20 l21 k22∧StW m24 ⟨b,o+513,none⟩ (.slice a20 l21 k22) fun m25=>WPS PP 317 c_huffmanDecoder_init_rrrrrrrrrrrlrlrrrrrl ((K.withN fun r m=>WPS PP 317 c_huffmanDecoder_init_rrrrrrrrrrrr K r m).withX 4) [(0,.pointer (some ⟨b,o,none⟩)),(1,.slice a1 l2 k3),(6,.int .i64 x4),(7,.int .i64 x5),(10,.int .i64 x6),(11,.pointer (some ⟨n7,0,none⟩)),(13,.int .i64 (shlOp .i64 1 (IntKind.wrap .u64 ((IntKind.wrap .u64 x5) - 9)))),(14,.int .i64 (shrOp .i64 x19 1)),(15,.int .u64 (IntKind.wrap .u64 (shrOp .i64 x19 1)))] m25)) (WPS PP 317 c_huffmanDecoder_init_rrrrrrrrrrrr K [(0,.pointer (some ⟨b,o,none⟩)),(1,.slice a1 l2 k3),(6,.int .i64 x4),(7,.int .i64 x5),(10,.int .i64 x6),(11,.pointer (some ⟨n7,0,none⟩))] m17))):
  wpc PP FF 317 L_huffmanDecoder_init c_huffmanDecoder_init_rrrrrrrrr K [(0,.pointer (some ⟨b,o,none⟩)),(1,.slice a1 l2 k3),(6,.int .i64 x4),(7,.int .i64 x5),(10,.int .i64 x6),(11,.pointer (some ⟨n7,0,none⟩))] m:=
 Eq.mpr (by kernel_rfl) h
def k_huffmanDecoder_init_rrrrlrllrrllrrrr:List Nat:=[0,1,5,6,7,9,42,43,44]
theorem p_huffmanDecoder_init_rrrrlrllrrllrrrr (b o:Nat) (a1:Option Addr) (l2:Nat) (k3:Nat) (n4:Nat) (x5:Int) (x6:Int) (x7:Int) (a8:Option Addr) (l9:Nat) (k10:Nat) (x11:Int) (x12:Int) (m:Mem) (K:Kont)
  (h:(0≤x7∧x7 < ((16:Nat):Int))∧∃ x13,cell? m ⟨n4,0+x7.toNat,none⟩=some (.int .i64 x13)∧(0≤x7∧x7 < ((16:Nat):Int))∧StW m ⟨n4,0+x7.toNat,none⟩ (.int .i64 (IntKind.wrap .i64 (x13+1))) fun m14=>K.kn [(0,.pointer (some ⟨b,o,none⟩)),(1,.slice a1 l2 k3),(5,.pointer (some ⟨n4,0,none⟩)),(6,.int .i64 x5),(7,.int .i64 x6),(9,.int .i64 x7),(42,.slice a8 l9 k10),(43,.int .i64 x11),(44,.int .i64 x12)] m14):
  wpc PP FF 317 L_huffmanDecoder_init c_huffmanDecoder_init_rrrrlrllrrllrrrr K [(0,.pointer (some ⟨b,o,none⟩)),(1,.slice a1 l2 k3),(5,.pointer (some ⟨n4,0,none⟩)),(6,.int .i64 x5),(7,.int .i64 x6),(9,.int .i64 x7),(42,.slice a8 l9 k10),(43,.int .i64 x11),(44,.int .i64 x12)] m:=
 Eq.mpr (by kernel_rfl) h
def k_huffmanDecoder_init_rrrrrrrrrrrr:List Nat:=[0,1,10,11]
theorem p_huffmanDecoder_init_rrrrrrrrrrrr (b o:Nat) (a1:Option Addr) (l2:Nat) (k3:Nat) (x4:Int) (n5:Nat) (m:Mem) (K:Kont)
  (h:WPS PP 317 c_huffmanDecoder_init_rrrrrrrrrrrrlrl ((K.withN fun r m=>WPS PP 317 c_huffmanDecoder_init_rrrrrrrrrrrrr K r m).withX 6) [(0,.pointer (some ⟨b,o,none⟩)),(1,.slice a1 l2 k3),(10,.int .i64 x4),(11,.pointer (some ⟨n5,0,none⟩)),(168,.slice a1 l2 k3),(169,.int .i64 (l2:Int)),(170,.int .i64 0)] m):
  wpc PP FF 317 L_huffmanDecoder_init c_huffmanDecoder_init_rrrrrrrrrrrr K [(0,.pointer (some ⟨b,o,none⟩)),(1,.slice a1 l2 k3),(10,.int .i64 x4),(11,.pointer (some ⟨n5,0,none⟩))] m:=
 Eq.mpr (by kernel_rfl) h
def k_huffmanDecoder_init_rrrrrrrrrrrrr:List Nat:=[0,10]
theorem p_huffmanDecoder_init_rrrrrrrrrrrrr (b o:Nat) (x1:Int) (m:Mem) (K:Kont)
  (h:WPS PP 317 c_huffmanDecoder_init_rrrrrrrrrrrrrr K [(0,.pointer (some ⟨b,o,none⟩)),(10,.int .i64 x1)] m):
  wpc PP FF 317 L_huffmanDecoder_init c_huffmanDecoder_init_rrrrrrrrrrrrr K [(0,.pointer (some ⟨b,o,none⟩)),(10,.int .i64 x1)] m:=
 Eq.mpr (by kernel_rfl) h
def k_huffmanDecoder_init_rrrrrrrrrrrrrr:List Nat:=[]
theorem p_huffmanDecoder_init_rrrrrrrrrrrrrr  (m:Mem) (K:Kont)
  (h:K.kr [(4,.bool true)] m  ):
  wpc PP FF 317 L_huffmanDecoder_init c_huffmanDecoder_init_rrrrrrrrrrrrrr K [] m:=
 Eq.mpr (by kernel_rfl) h
end Go.M
