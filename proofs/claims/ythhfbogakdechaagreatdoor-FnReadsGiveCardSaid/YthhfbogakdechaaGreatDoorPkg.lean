/- What pieces of the code come to. -/
import Derived.Test.YthhfbogakdechaaGreatDoorPke
set_option maxRecDepth 100000
namespace Go.M
open Go Go.Proofs
def L_errors_as : List Nat := [0, 1, 2, 3, 6, 8, 9, 10, 11, 12, 14, 19, 35, 36, 38, 39, 43, 45, 46, 48, 49, 50, 51, 55, 60]
def r_errors_as : List ResultVar := [.tmp 8]
noncomputable def c_errors_as : Code := (Go.Proofs.Tryz.f54.body).getD .skip
theorem b_errors_as : Go.Proofs.Tryz.f54.body = some c_errors_as := by kernel_rfl
noncomputable def c_errors_as_rl : Code := (lft (rgt c_errors_as))
noncomputable def c_errors_as_rll : Code := (lft c_errors_as_rl)
noncomputable def c_errors_as_rlllr : Code := (rgt (lft c_errors_as_rll))
noncomputable def c_errors_as_rlllrrrlrrrlrlrl : Code := (lft (rgt (lft (rgt (lft (rgt (rgt (rgt (lft (rgt (rgt c_errors_as_rlllr)))))))))))
noncomputable def c_errors_as_rlllrrrlrrrlrlrll : Code := (lft c_errors_as_rlllrrrlrrrlrlrl)
noncomputable def c_errors_as_rlllrrrlrrrlrlrllrrr : Code := (rgt (rgt (rgt c_errors_as_rlllrrrlrrrlrlrll)))
theorem q_errors_as_rl : c_errors_as_rl = .loop c_errors_as_rll := by kernel_rfl
theorem q_errors_as_rlllrrrlrrrlrlrl : c_errors_as_rlllrrrlrrrlrlrl = .loop c_errors_as_rlllrrrlrrrlrlrll := by kernel_rfl
theorem e_errors_as (v1 : Value) (v2 : Value) (p3 : Option Addr) (v4 : Value) (x5 : Int) (v6 : Value) (m : Mem) (R : Value → Mem → Prop)
    (h : BoxW t_reflectlite_Value (.agg #[.pointer p3, v4, .int .u64 x5]) m fun n7 m8 => WPS PP 62 c_errors_as_rl ((retK PP r_errors_as R).withX 0) [(0, v1), (1, v2), (2, .agg #[.pointer p3, v4, .int .u64 x5]), (3, v6), (6, .pointer (some ⟨n7, 0, none⟩)), (8, .bool false)] m8) :
    CallM PP f_errors_as #[v1, v2, .agg #[.pointer p3, v4, .int .u64 x5], v6] m R :=
  callM_enter ffOk mixedOk 62 L_errors_as Tryz.func54 b_errors_as Tryz.ntmps54 (by simp) (Eq.mpr (by kernel_rfl) h)
theorem p_errors_as_rll (v1 : Value) (v2 : Value) (v3 : Value) (n4 : Nat) (m : Mem) (K : Kont)
    (h : SemW PP (callVal (.func (.func f_reflectlite_TypeOf) #[] #[]) #[v1]) m (NextW PP fun v6 m7 => ∃ v5, v6 = v5 ∧ SemW PP (callMethod v5 "AssignableTo" #[v3]) m7 (NextW PP fun v9 m10 => ∃ b8, v9 = .bool b8 ∧ ifB b8 (∃ p11 v12 x13, ([.pointer p11, v12, .int .u64 x13] : List Value).length = 3 ∧ CellsAre m10 ⟨n4, 0, none⟩ 0 [.pointer p11, v12, .int .u64 x13] ∧ SemW PP (callVal (.func (.func f_reflectlite_Value_Elem) #[] #[]) #[.agg #[.pointer p11, v12, .int .u64 x13]]) m10 (NextW PP fun v15 m16 => ∃ v14, v15 = v14 ∧ SemW PP (callVal (.func (.func f_reflectlite_ValueOf) #[] #[]) #[v1]) m16 (NextW PP fun v18 m19 => ∃ v17, v18 = v17 ∧ SemW PP (callVal (.func (.func f_reflectlite_Value_Set) #[] #[]) #[v14, v17]) m19 (NextW PP fun v20 m21 => v20 = .tuple #[] ∧ K.kr [(0, v1), (1, v2), (3, v3), (6, .pointer (some ⟨n4, 0, none⟩)), (8, .bool true)] m21)))) (wpc PP FF 62 L_errors_as c_errors_as_rlllr (K.withX 1) [(0, v1), (1, v2), (3, v3), (6, .pointer (some ⟨n4, 0, none⟩))] m10)))) :
    wpc PP FF 62 L_errors_as c_errors_as_rll K [(0, v1), (1, v2), (3, v3), (6, .pointer (some ⟨n4, 0, none⟩))] m :=
  Eq.mpr (by kernel_rfl) h
theorem p_errors_as_rlllrrrlrrrlrlrll (v1 : Value) (v2 : Value) (n3 : Nat) (a4 : Option Addr) (l5 : Nat) (k6 : Nat) (x7 : Int) (x8 : Int) (m : Mem) (K : Kont)
    (h : ifB (decide (x8 < x7)) (onSome a4 fun p9 => (0 ≤ x8 ∧ x8 < (l5 : Int)) ∧ ∃ v10, cell? m (aplus p9 x8.toNat) = some (v10) ∧ isIfc v10 = true ∧ ifB (isNil v10) (WPS PP 62 c_errors_as_rlllrrrlrrrlrlrllrrr K [(1, v1), (3, v2), (6, .pointer (some ⟨n3, 0, none⟩)), (14, v10), (48, .slice a4 l5 k6), (49, .int .i64 x7), (50, .int .i64 x8)] m) (∃ p11 v12 x13, ([.pointer p11, v12, .int .u64 x13] : List Value).length = 3 ∧ CellsAre m ⟨n3, 0, none⟩ 0 [.pointer p11, v12, .int .u64 x13] ∧ CallM PP f_errors_as #[v10, v1, .agg #[.pointer p11, v12, .int .u64 x13], v2] m fun v15 m16 => ∃ b14, v15 = .bool b14 ∧ ifB b14 (K.kr [(1, v1), (3, v2), (6, .pointer (some ⟨n3, 0, none⟩)), (8, .bool true), (14, v10), (48, .slice a4 l5 k6), (49, .int .i64 x7), (50, .int .i64 x8)] m16) (WPS PP 62 c_errors_as_rlllrrrlrrrlrlrllrrr K [(1, v1), (3, v2), (6, .pointer (some ⟨n3, 0, none⟩)), (14, v10), (48, .slice a4 l5 k6), (49, .int .i64 x7), (50, .int .i64 x8)] m16))) (K.kx 3 [(1, v1), (3, v2), (6, .pointer (some ⟨n3, 0, none⟩)), (48, .slice a4 l5 k6), (49, .int .i64 x7), (50, .int .i64 x8)] m)) :
    wpc PP FF 62 L_errors_as c_errors_as_rlllrrrlrrrlrlrll K [(1, v1), (3, v2), (6, .pointer (some ⟨n3, 0, none⟩)), (48, .slice a4 l5 k6), (49, .int .i64 x7), (50, .int .i64 x8)] m :=
  Eq.mpr (by kernel_rfl) h
theorem p_errors_as_rlllrrrlrrrlrlrllrrr (v1 : Value) (v2 : Value) (n3 : Nat) (a4 : Option Addr) (l5 : Nat) (k6 : Nat) (x7 : Int) (x8 : Int) (m : Mem) (K : Kont)
    (h : K.kn [(1, v1), (3, v2), (6, .pointer (some ⟨n3, 0, none⟩)), (48, .slice a4 l5 k6), (49, .int .i64 x7), (50, .int .i64 (IntKind.wrap .i64 (x8 + 1)))] m) :
    wpc PP FF 62 L_errors_as c_errors_as_rlllrrrlrrrlrlrllrrr K [(1, v1), (3, v2), (6, .pointer (some ⟨n3, 0, none⟩)), (48, .slice a4 l5 k6), (49, .int .i64 x7), (50, .int .i64 x8)] m :=
  Eq.mpr (by kernel_rfl) h
def L_reader_one : List Nat := [0, 1, 4]
def r_reader_one : List ResultVar := [.tmp 4]
noncomputable def c_reader_one : Code := (Go.Proofs.Tryz.f55.body).getD .skip
theorem b_reader_one : Go.Proofs.Tryz.f55.body = some c_reader_one := by kernel_rfl
theorem e_reader_one (r : Nat) (a1 : Option Addr) (l2 : Nat) (k3 : Nat) (m : Mem) (R : Value → Mem → Prop)
    (h : CallM PP f_reader_pick #[.pointer (some ⟨r, 0, none⟩), .int .i64 (l2 : Int)] m fun v5 m6 => ∃ x4, v5 = .int .i64 x4 ∧ onSome a1 fun p7 => (0 ≤ x4 ∧ x4 < (l2 : Int)) ∧ ∃ x8, cell? m6 (aplus p7 x4.toNat) = some (.int .i64 x8) ∧ R (.int .i64 x8) m6) :
    CallM PP f_reader_one #[.pointer (some ⟨r, 0, none⟩), .slice a1 l2 k3] m R :=
  callM_enter ffOk mixedOk 12 L_reader_one Tryz.func55 b_reader_one Tryz.ntmps55 (by simp) (Eq.mpr (by kernel_rfl) h)
def L_reader_length : List Nat := [0, 2]
def r_reader_length : List ResultVar := [.tmp 2]
noncomputable def c_reader_length : Code := (Go.Proofs.Tryz.f56.body).getD .skip
theorem b_reader_length : Go.Proofs.Tryz.f56.body = some c_reader_length := by kernel_rfl
theorem e_reader_length (r : Nat) (m : Mem) (R : Value → Mem → Prop)
    (h : CallM PP f_reader_pick #[.pointer (some ⟨r, 0, none⟩), .int .i64 256] m fun v2 m3 => ∃ x1, v2 = .int .i64 x1 ∧ SemW PP (sv (Instr.buildSlice t_s_int 8 #[(0, .int .i64 3), (1, .int .i64 4), (2, .int .i64 10), (3, .int .i64 11), (4, .int .i64 18), (5, .int .i64 257), (6, .int .i64 258), (7, .int .i64 (IntKind.wrap .i64 (3 + x1)))])) m3 (NextW PP fun v7 m8 => ∃ a4 l5 k6, v7 = .slice a4 l5 k6 ∧ CallM PP f_reader_one #[.pointer (some ⟨r, 0, none⟩), .slice a4 l5 k6] m8 fun v10 m11 => ∃ x9, v10 = .int .i64 x9 ∧ R (.int .i64 x9) m11)  ) :
    CallM PP f_reader_length #[.pointer (some ⟨r, 0, none⟩)] m R :=
  callM_enter ffOk mixedOk 9 L_reader_length Tryz.func56 b_reader_length Tryz.ntmps56 (by simp) (Eq.mpr (by kernel_rfl) h)
def L_spec_fixed : List Nat := [0, 1, 2, 3, 4, 5, 6, 7, 9, 16, 28, 29]
def r_spec_fixed : List ResultVar := [.tmp 0, .tmp 1]
noncomputable def c_spec_fixed : Code := (Go.Proofs.Tryz.f57.body).getD .skip
theorem b_spec_fixed : Go.Proofs.Tryz.f57.body = some c_spec_fixed := by kernel_rfl
noncomputable def c_spec_fixed_rrr : Code := (rgt (rgt (rgt c_spec_fixed)))
noncomputable def c_spec_fixed_rrrr : Code := (rgt c_spec_fixed_rrr)
noncomputable def c_spec_fixed_rrlrl : Code := (lft (rgt (lft (rgt (rgt c_spec_fixed)))))
noncomputable def c_spec_fixed_rrlrll : Code := (lft c_spec_fixed_rrlrl)
noncomputable def c_spec_fixed_rrrlrl : Code := (lft (rgt (lft c_spec_fixed_rrr)))
noncomputable def c_spec_fixed_rrrlrll : Code := (lft c_spec_fixed_rrrlrl)
noncomputable def c_spec_fixed_rrlrllrrr : Code := (rgt (rgt (rgt c_spec_fixed_rrlrll)))
noncomputable def c_spec_fixed_rrlrllrrllrrr : Code := (rgt (rgt (rgt (lft (lft (rgt (rgt c_spec_fixed_rrlrll)))))))
theorem q_spec_fixed_rrlrl : c_spec_fixed_rrlrl = .loop c_spec_fixed_rrlrll := by kernel_rfl
theorem q_spec_fixed_rrrlrl : c_spec_fixed_rrrlrl = .loop c_spec_fixed_rrrlrll := by kernel_rfl
theorem e_spec_fixed  (m : Mem) (R : Value → Mem → Prop)
    (h : WPS PP 36 c_spec_fixed_rrlrl (((retK PP r_spec_fixed R).withN fun r m => WPS PP 36 c_spec_fixed_rrr (retK PP r_spec_fixed R) r m).withX 0) [(0, .slice none 0 0), (1, .slice none 0 0), (2, .slice none 0 0), (3, .slice none 0 0), (6, .int .i64 0)] m  ) :
    CallM PP f_spec_fixed #[] m R :=
  callM_enter ffOk mixedOk 36 L_spec_fixed Tryz.func57 b_spec_fixed Tryz.ntmps57 (by simp) (Eq.mpr (by kernel_rfl) h)
theorem p_spec_fixed_rrr (a1 : Option Addr) (l2 : Nat) (k3 : Nat) (a4 : Option Addr) (l5 : Nat) (k6 : Nat) (m : Mem) (K : Kont)
    (h : WPS PP 36 c_spec_fixed_rrrlrl ((K.withN fun r m => WPS PP 36 c_spec_fixed_rrrr K r m).withX 3) [(2, .slice a1 l2 k3), (3, .slice a4 l5 k6), (28, .int .i64 0)] m) :
    wpc PP FF 36 L_spec_fixed c_spec_fixed_rrr K [(2, .slice a1 l2 k3), (3, .slice a4 l5 k6)] m :=
  Eq.mpr (by kernel_rfl) h
theorem p_spec_fixed_rrlrll (a1 : Option Addr) (l2 : Nat) (k3 : Nat) (a4 : Option Addr) (l5 : Nat) (k6 : Nat) (x7 : Int) (m : Mem) (K : Kont)
    (h : ifB (decide (x7 < 288)) (ifB (decide (x7 ≥ 144)) (ifB (decide (x7 ≤ 255)) (WPS PP 36 c_spec_fixed_rrlrllrrllrrr ((K.withN fun r m => wpc PP FF 36 L_spec_fixed c_spec_fixed_rrlrllrrr K r m).withX 1) [(2, .slice a1 l2 k3), (3, .slice a4 l5 k6), (4, .int .i64 x7), (5, .int .i64 9), (6, .int .i64 x7)] m) (ifB (decide (x7 ≥ 256)) (ifB (decide (x7 ≤ 279)) (WPS PP 36 c_spec_fixed_rrlrllrrllrrr ((K.withN fun r m => wpc PP FF 36 L_spec_fixed c_spec_fixed_rrlrllrrr K r m).withX 1) [(2, .slice a1 l2 k3), (3, .slice a4 l5 k6), (4, .int .i64 x7), (5, .int .i64 7), (6, .int .i64 x7)] m) (WPS PP 36 c_spec_fixed_rrlrllrrllrrr ((K.withN fun r m => wpc PP FF 36 L_spec_fixed c_spec_fixed_rrlrllrrr K r m).withX 1) [(2, .slice a1 l2 k3), (3, .slice a4 l5 k6), (4, .int .i64 x7), (5, .int .i64 8), (6, .int .i64 x7)] m)) (WPS PP 36 c_spec_fixed_rrlrllrrllrrr ((K.withN fun r m => wpc PP FF 36 L_spec_fixed c_spec_fixed_rrlrllrrr K r m).withX 1) [(2, .slice a1 l2 k3), (3, .slice a4 l5 k6), (4, .int .i64 x7), (5, .int .i64 8), (6, .int .i64 x7)] m))) (ifB (decide (x7 ≥ 256)) (ifB (decide (x7 ≤ 279)) (WPS PP 36 c_spec_fixed_rrlrllrrllrrr ((K.withN fun r m => wpc PP FF 36 L_spec_fixed c_spec_fixed_rrlrllrrr K r m).withX 1) [(2, .slice a1 l2 k3), (3, .slice a4 l5 k6), (4, .int .i64 x7), (5, .int .i64 7), (6, .int .i64 x7)] m) (WPS PP 36 c_spec_fixed_rrlrllrrllrrr ((K.withN fun r m => wpc PP FF 36 L_spec_fixed c_spec_fixed_rrlrllrrr K r m).withX 1) [(2, .slice a1 l2 k3), (3, .slice a4 l5 k6), (4, .int .i64 x7), (5, .int .i64 8), (6, .int .i64 x7)] m)) (WPS PP 36 c_spec_fixed_rrlrllrrllrrr ((K.withN fun r m => wpc PP FF 36 L_spec_fixed c_spec_fixed_rrlrllrrr K r m).withX 1) [(2, .slice a1 l2 k3), (3, .slice a4 l5 k6), (4, .int .i64 x7), (5, .int .i64 8), (6, .int .i64 x7)] m))) (K.kx 0 [(2, .slice a1 l2 k3), (3, .slice a4 l5 k6), (6, .int .i64 x7)] m)) :
    wpc PP FF 36 L_spec_fixed c_spec_fixed_rrlrll K [(2, .slice a1 l2 k3), (3, .slice a4 l5 k6), (6, .int .i64 x7)] m :=
  Eq.mpr (by kernel_rfl) h
theorem p_spec_fixed_rrrlrll (a1 : Option Addr) (l2 : Nat) (k3 : Nat) (a4 : Option Addr) (l5 : Nat) (k6 : Nat) (x7 : Int) (m : Mem) (K : Kont)
    (h : ifB (decide (x7 < 32)) (SemW PP (sv (Instr.buildSlice t_s_int 1 #[(0, .int .i64 5)])) m (NextW PP fun v11 m12 => ∃ a8 l9 k10, v11 = .slice a8 l9 k10 ∧ SemW PP (builtin .append #[t_s_int, t_s_int] t_s_int #[false, false] #[.slice a4 l5 k6, .slice a8 l9 k10]) m12 (NextW PP fun v16 m17 => ∃ a13 l14 k15, v16 = .slice a13 l14 k15 ∧ K.kn [(2, .slice a1 l2 k3), (3, .slice a13 l14 k15), (28, .int .i64 (IntKind.wrap .i64 (x7 + 1)))] m17))) (K.kx 3 [(2, .slice a1 l2 k3), (3, .slice a4 l5 k6), (28, .int .i64 x7)] m)) :
    wpc PP FF 36 L_spec_fixed c_spec_fixed_rrrlrll K [(2, .slice a1 l2 k3), (3, .slice a4 l5 k6), (28, .int .i64 x7)] m :=
  Eq.mpr (by kernel_rfl) h
theorem p_spec_fixed_rrrr (a1 : Option Addr) (l2 : Nat) (k3 : Nat) (a4 : Option Addr) (l5 : Nat) (k6 : Nat) (m : Mem) (K : Kont)
    (h : K.kr [(0, .slice a1 l2 k3), (1, .slice a4 l5 k6), (2, .slice a1 l2 k3), (3, .slice a4 l5 k6)] m) :
    wpc PP FF 36 L_spec_fixed c_spec_fixed_rrrr K [(2, .slice a1 l2 k3), (3, .slice a4 l5 k6)] m :=
  Eq.mpr (by kernel_rfl) h
theorem p_spec_fixed_rrlrllrrr (a1 : Option Addr) (l2 : Nat) (k3 : Nat) (a4 : Option Addr) (l5 : Nat) (k6 : Nat) (x7 : Int) (m : Mem) (K : Kont)
    (h : K.kn [(2, .slice a1 l2 k3), (3, .slice a4 l5 k6), (6, .int .i64 (IntKind.wrap .i64 (x7 + 1)))] m) :
    wpc PP FF 36 L_spec_fixed c_spec_fixed_rrlrllrrr K [(2, .slice a1 l2 k3), (3, .slice a4 l5 k6), (6, .int .i64 x7)] m :=
  Eq.mpr (by kernel_rfl) h
theorem p_spec_fixed_rrlrllrrllrrr (a1 : Option Addr) (l2 : Nat) (k3 : Nat) (a4 : Option Addr) (l5 : Nat) (k6 : Nat) (x7 : Int) (x8 : Int) (m : Mem) (K : Kont)
    (h : SemW PP (sv (Instr.buildSlice t_s_int 1 #[(0, .int .i64 x7)])) m (NextW PP fun v12 m13 => ∃ a9 l10 k11, v12 = .slice a9 l10 k11 ∧ SemW PP (builtin .append #[t_s_int, t_s_int] t_s_int #[false, false] #[.slice a1 l2 k3, .slice a9 l10 k11]) m13 (NextW PP fun v17 m18 => ∃ a14 l15 k16, v17 = .slice a14 l15 k16 ∧ K.kn [(2, .slice a14 l15 k16), (3, .slice a4 l5 k6), (5, .int .i64 x7), (6, .int .i64 x8)] m18))) :
    wpc PP FF 36 L_spec_fixed c_spec_fixed_rrlrllrrllrrr K [(2, .slice a1 l2 k3), (3, .slice a4 l5 k6), (5, .int .i64 x7), (6, .int .i64 x8)] m :=
  Eq.mpr (by kernel_rfl) h
def L_Writer_items : List Nat := [0, 1, 2, 3, 8, 9, 11, 12, 13, 14, 15, 20, 21, 22, 23, 28]
def r_Writer_items : List ResultVar := []
noncomputable def c_Writer_items : Code := (Go.Proofs.Tryz.f58.body).getD .skip
theorem b_Writer_items : Go.Proofs.Tryz.f58.body = some c_Writer_items := by kernel_rfl
noncomputable def c_Writer_items_rr : Code := (rgt (rgt c_Writer_items))
noncomputable def c_Writer_items_rlrl : Code := (lft (rgt (lft (rgt c_Writer_items))))
noncomputable def c_Writer_items_rlrll : Code := (lft c_Writer_items_rlrl)
noncomputable def c_Writer_items_rlrllrrr : Code := (rgt (rgt (rgt c_Writer_items_rlrll)))
theorem q_Writer_items_rlrl : c_Writer_items_rlrl = .loop c_Writer_items_rlrll := by kernel_rfl
theorem e_Writer_items (w : Nat) (a1 : Option Addr) (l2 : Nat) (k3 : Nat) (a4 : Option Addr) (l5 : Nat) (k6 : Nat) (a7 : Option Addr) (l8 : Nat) (k9 : Nat) (m : Mem) (R : Value → Mem → Prop)
    (h : CallM PP f_spec_Codes #[.slice a4 l5 k6] m fun v13 m14 => ∃ a10 l11 k12, v13 = .slice a10 l11 k12 ∧ CallM PP f_spec_Codes #[.slice a7 l8 k9] m14 fun v18 m19 => ∃ a15 l16 k17, v18 = .slice a15 l16 k17 ∧ WPS PP 92 c_Writer_items_rlrl (((retK PP r_Writer_items R).withN fun r m => WPS PP 92 c_Writer_items_rr (retK PP r_Writer_items R) r m).withX 0) [(0, .pointer (some ⟨w, 0, none⟩)), (1, .slice a1 l2 k3), (2, .slice a4 l5 k6), (3, .slice a7 l8 k9), (8, .slice a10 l11 k12), (9, .slice a15 l16 k17), (20, .slice a1 l2 k3), (21, .int .i64 (l2 : Int)), (22, .int .i64 0)] m19) :
    CallM PP f_Writer_items #[.pointer (some ⟨w, 0, none⟩), .slice a1 l2 k3, .slice a4 l5 k6, .slice a7 l8 k9] m R :=
  callM_enter ffOk mixedOk 92 L_Writer_items Tryz.func58 b_Writer_items Tryz.ntmps58 (by simp) (Eq.mpr (by kernel_rfl) h)
theorem p_Writer_items_rr (w : Nat) (a1 : Option Addr) (l2 : Nat) (k3 : Nat) (a4 : Option Addr) (l5 : Nat) (k6 : Nat) (m : Mem) (K : Kont)
    (h : onSome a4 fun p7 => (0 ≤ (256 : Int) ∧ (256 : Int) < (l5 : Int)) ∧ ∃ x8, cell? m (aplus p7 256) = some (.int .i64 x8) ∧ onSome a1 fun p9 => (0 ≤ (256 : Int) ∧ (256 : Int) < (l2 : Int)) ∧ ∃ x10, cell? m (aplus p9 256) = some (.int .i64 x10) ∧ CallM PP f_Writer_code #[.pointer (some ⟨w, 0, none⟩), .int .i64 x8, .int .i64 x10] m fun v11 m12 => v11 = .tuple #[] ∧ K.kn [(0, .pointer (some ⟨w, 0, none⟩)), (2, .slice a1 l2 k3), (8, .slice a4 l5 k6)] m12) :
    wpc PP FF 92 L_Writer_items c_Writer_items_rr K [(0, .pointer (some ⟨w, 0, none⟩)), (2, .slice a1 l2 k3), (8, .slice a4 l5 k6)] m :=
  Eq.mpr (by kernel_rfl) h
theorem p_Writer_items_rlrll (w : Nat) (a1 : Option Addr) (l2 : Nat) (k3 : Nat) (a4 : Option Addr) (l5 : Nat) (k6 : Nat) (a7 : Option Addr) (l8 : Nat) (k9 : Nat) (a10 : Option Addr) (l11 : Nat) (k12 : Nat) (a13 : Option Addr) (l14 : Nat) (k15 : Nat) (x16 : Int) (x17 : Int) (m : Mem) (K : Kont)
    (h : ifB (decide (x17 < x16)) (onSome a13 fun p18 => (0 ≤ x17 ∧ x17 < (l14 : Int)) ∧ ∃ x19 x20 x21, ([.int .u8 x19, .int .i64 x20, .int .i64 x21] : List Value).length = 3 ∧ CellsAre m (aplus p18 (x17.toNat * 3)) 0 [.int .u8 x19, .int .i64 x20, .int .i64 x21] ∧ AllocW PP t_spec_Item m fun n22 m23 => StAgg PP t_spec_Item m23 ⟨n22, 0, none⟩ (.agg #[.int .u8 x19, .int .i64 x20, .int .i64 x21]) fun m24 => ∃ x25, cell? m24 ⟨n22, 1, none⟩ = some (.int .i64 x25) ∧ ifB (x25 == 0) (∃ x26, cell? m24 ⟨n22, 0, none⟩ = some (.int .u8 x26) ∧ onSome a7 fun p27 => (0 ≤ x26 ∧ x26 < (l8 : Int)) ∧ ∃ x28, cell? m24 (aplus p27 x26.toNat) = some (.int .i64 x28) ∧ ∃ x29, cell? m24 ⟨n22, 0, none⟩ = some (.int .u8 x29) ∧ onSome a1 fun p30 => (0 ≤ x29 ∧ x29 < (l2 : Int)) ∧ ∃ x31, cell? m24 (aplus p30 x29.toNat) = some (.int .i64 x31) ∧ CallM PP f_Writer_code #[.pointer (some ⟨w, 0, none⟩), .int .i64 x28, .int .i64 x31] m24 fun v32 m33 => v32 = .tuple #[] ∧ WPS PP 92 c_Writer_items_rlrllrrr K [(0, .pointer (some ⟨w, 0, none⟩)), (2, .slice a1 l2 k3), (3, .slice a4 l5 k6), (8, .slice a7 l8 k9), (9, .slice a10 l11 k12), (11, .pointer (some ⟨n22, 0, none⟩)), (20, .slice a13 l14 k15), (21, .int .i64 x16), (22, .int .i64 x17)] m33) (∃ x34, cell? m24 ⟨n22, 1, none⟩ = some (.int .i64 x34) ∧ CallM PP f_spec_LengthCode #[.int .i64 x34] m24 fun v38 m39 => ∃ x35 x36 x37, v38 = .tuple #[.int .i64 x35, .int .i64 x36, .int .i64 x37] ∧ onSome a7 fun p40 => (0 ≤ x35 ∧ x35 < (l8 : Int)) ∧ ∃ x41, cell? m39 (aplus p40 x35.toNat) = some (.int .i64 x41) ∧ onSome a1 fun p42 => (0 ≤ x35 ∧ x35 < (l2 : Int)) ∧ ∃ x43, cell? m39 (aplus p42 x35.toNat) = some (.int .i64 x43) ∧ CallM PP f_Writer_code #[.pointer (some ⟨w, 0, none⟩), .int .i64 x41, .int .i64 x43] m39 fun v44 m45 => v44 = .tuple #[] ∧ CallM PP f_Writer_Bits #[.pointer (some ⟨w, 0, none⟩), .int .i64 x36, .int .i64 x37] m45 fun v46 m47 => v46 = .tuple #[] ∧ ∃ x48, cell? m47 ⟨n22, 2, none⟩ = some (.int .i64 x48) ∧ CallM PP f_spec_DistanceCode #[.int .i64 x48] m47 fun v52 m53 => ∃ x49 x50 x51, v52 = .tuple #[.int .i64 x49, .int .i64 x50, .int .i64 x51] ∧ onSome a10 fun p54 => (0 ≤ x49 ∧ x49 < (l11 : Int)) ∧ ∃ x55, cell? m53 (aplus p54 x49.toNat) = some (.int .i64 x55) ∧ onSome a4 fun p56 => (0 ≤ x49 ∧ x49 < (l5 : Int)) ∧ ∃ x57, cell? m53 (aplus p56 x49.toNat) = some (.int .i64 x57) ∧ CallM PP f_Writer_code #[.pointer (some ⟨w, 0, none⟩), .int .i64 x55, .int .i64 x57] m53 fun v58 m59 => v58 = .tuple #[] ∧ CallM PP f_Writer_Bits #[.pointer (some ⟨w, 0, none⟩), .int .i64 x50, .int .i64 x51] m59 fun v60 m61 => v60 = .tuple #[] ∧ WPS PP 92 c_Writer_items_rlrllrrr K [(0, .pointer (some ⟨w, 0, none⟩)), (2, .slice a1 l2 k3), (3, .slice a4 l5 k6), (8, .slice a7 l8 k9), (9, .slice a10 l11 k12), (11, .pointer (some ⟨n22, 0, none⟩)), (12, .int .i64 x35), (13, .int .i64 x50), (14, .int .i64 x51), (15, .int .i64 x49), (20, .slice a13 l14 k15), (21, .int .i64 x16), (22, .int .i64 x17)] m61)) (K.kx 0 [(0, .pointer (some ⟨w, 0, none⟩)), (2, .slice a1 l2 k3), (3, .slice a4 l5 k6), (8, .slice a7 l8 k9), (9, .slice a10 l11 k12), (20, .slice a13 l14 k15), (21, .int .i64 x16), (22, .int .i64 x17)] m)) :
    wpc PP FF 92 L_Writer_items c_Writer_items_rlrll K [(0, .pointer (some ⟨w, 0, none⟩)), (2, .slice a1 l2 k3), (3, .slice a4 l5 k6), (8, .slice a7 l8 k9), (9, .slice a10 l11 k12), (20, .slice a13 l14 k15), (21, .int .i64 x16), (22, .int .i64 x17)] m :=
  Eq.mpr (by kernel_rfl) h
theorem p_Writer_items_rlrllrrr (w : Nat) (a1 : Option Addr) (l2 : Nat) (k3 : Nat) (a4 : Option Addr) (l5 : Nat) (k6 : Nat) (a7 : Option Addr) (l8 : Nat) (k9 : Nat) (a10 : Option Addr) (l11 : Nat) (k12 : Nat) (a13 : Option Addr) (l14 : Nat) (k15 : Nat) (x16 : Int) (x17 : Int) (m : Mem) (K : Kont)
    (h : K.kn [(0, .pointer (some ⟨w, 0, none⟩)), (2, .slice a1 l2 k3), (3, .slice a4 l5 k6), (8, .slice a7 l8 k9), (9, .slice a10 l11 k12), (20, .slice a13 l14 k15), (21, .int .i64 x16), (22, .int .i64 (IntKind.wrap .i64 (x17 + 1)))] m) :
    wpc PP FF 92 L_Writer_items c_Writer_items_rlrllrrr K [(0, .pointer (some ⟨w, 0, none⟩)), (2, .slice a1 l2 k3), (3, .slice a4 l5 k6), (8, .slice a7 l8 k9), (9, .slice a10 l11 k12), (20, .slice a13 l14 k15), (21, .int .i64 x16), (22, .int .i64 x17)] m :=
  Eq.mpr (by kernel_rfl) h
def L_spec_needs : List Nat := [0, 2, 3, 4, 5, 7, 8, 11, 18, 19, 20, 21, 26]
def r_spec_needs : List ResultVar := [.tmp 2, .tmp 3]
noncomputable def c_spec_needs : Code := (Go.Proofs.Tryz.f59.body).getD .skip
theorem b_spec_needs : Go.Proofs.Tryz.f59.body = some c_spec_needs := by kernel_rfl
noncomputable def c_spec_needs_rr : Code := (rgt (rgt c_spec_needs))
noncomputable def c_spec_needs_rrrr : Code := (rgt (rgt c_spec_needs_rr))
noncomputable def c_spec_needs_rrrlrl : Code := (lft (rgt (lft (rgt c_spec_needs_rr))))
noncomputable def c_spec_needs_rrrlrll : Code := (lft c_spec_needs_rrrlrl)
noncomputable def c_spec_needs_rrrlrllrrr : Code := (rgt (rgt (rgt c_spec_needs_rrrlrll)))
theorem q_spec_needs_rrrlrl : c_spec_needs_rrrlrl = .loop c_spec_needs_rrrlrll := by kernel_rfl
theorem p_spec_needs_rr (a1 : Option Addr) (l2 : Nat) (k3 : Nat) (a4 : Option Addr) (l5 : Nat) (k6 : Nat) (a7 : Option Addr) (l8 : Nat) (k9 : Nat) (m : Mem) (K : Kont)
    (h : onSome a4 fun p10 => (0 ≤ (256 : Int) ∧ (256 : Int) < (l5 : Int)) ∧ StW m (aplus p10 256) (.bool true) fun m11 => WPS PP 54 c_spec_needs_rrrlrl ((K.withN fun r m => WPS PP 54 c_spec_needs_rrrr K r m).withX 0) [(0, .slice a1 l2 k3), (4, .slice a4 l5 k6), (5, .slice a7 l8 k9), (18, .slice a1 l2 k3), (19, .int .i64 (l2 : Int)), (20, .int .i64 0)] m11) :
    wpc PP FF 54 L_spec_needs c_spec_needs_rr K [(0, .slice a1 l2 k3), (4, .slice a4 l5 k6), (5, .slice a7 l8 k9)] m :=
  Eq.mpr (by kernel_rfl) h
theorem p_spec_needs_rrrlrll (a1 : Option Addr) (l2 : Nat) (k3 : Nat) (a4 : Option Addr) (l5 : Nat) (k6 : Nat) (a7 : Option Addr) (l8 : Nat) (k9 : Nat) (x10 : Int) (x11 : Int) (m : Mem) (K : Kont)
    (h : ifB (decide (x11 < x10)) (onSome a7 fun p12 => (0 ≤ x11 ∧ x11 < (l8 : Int)) ∧ ∃ x13 x14 x15, ([.int .u8 x13, .int .i64 x14, .int .i64 x15] : List Value).length = 3 ∧ CellsAre m (aplus p12 (x11.toNat * 3)) 0 [.int .u8 x13, .int .i64 x14, .int .i64 x15] ∧ AllocW PP t_spec_Item m fun n16 m17 => StAgg PP t_spec_Item m17 ⟨n16, 0, none⟩ (.agg #[.int .u8 x13, .int .i64 x14, .int .i64 x15]) fun m18 => ∃ x19, cell? m18 ⟨n16, 1, none⟩ = some (.int .i64 x19) ∧ ifB (x19 == 0) (∃ x20, cell? m18 ⟨n16, 0, none⟩ = some (.int .u8 x20) ∧ onSome a1 fun p21 => (0 ≤ x20 ∧ x20 < (l2 : Int)) ∧ StW m18 (aplus p21 x20.toNat) (.bool true) fun m22 => WPS PP 54 c_spec_needs_rrrlrllrrr K [(4, .slice a1 l2 k3), (5, .slice a4 l5 k6), (7, .pointer (some ⟨n16, 0, none⟩)), (18, .slice a7 l8 k9), (19, .int .i64 x10), (20, .int .i64 x11)] m22) (∃ x23, cell? m18 ⟨n16, 1, none⟩ = some (.int .i64 x23) ∧ CallM PP f_spec_LengthCode #[.int .i64 x23] m18 fun v27 m28 => ∃ x24 x25 x26, v27 = .tuple #[.int .i64 x24, .int .i64 x25, .int .i64 x26] ∧ ∃ x29, cell? m28 ⟨n16, 2, none⟩ = some (.int .i64 x29) ∧ CallM PP f_spec_DistanceCode #[.int .i64 x29] m28 fun v33 m34 => ∃ x30 x31 x32, v33 = .tuple #[.int .i64 x30, .int .i64 x31, .int .i64 x32] ∧ onSome a1 fun p35 => (0 ≤ x24 ∧ x24 < (l2 : Int)) ∧ StW m34 (aplus p35 x24.toNat) (.bool true) fun m36 => onSome a4 fun p37 => (0 ≤ x30 ∧ x30 < (l5 : Int)) ∧ StW m36 (aplus p37 x30.toNat) (.bool true) fun m38 => WPS PP 54 c_spec_needs_rrrlrllrrr K [(4, .slice a1 l2 k3), (5, .slice a4 l5 k6), (7, .pointer (some ⟨n16, 0, none⟩)), (8, .int .i64 x24), (11, .int .i64 x30), (18, .slice a7 l8 k9), (19, .int .i64 x10), (20, .int .i64 x11)] m38)) (K.kx 0 [(4, .slice a1 l2 k3), (5, .slice a4 l5 k6), (18, .slice a7 l8 k9), (19, .int .i64 x10), (20, .int .i64 x11)] m)) :
    wpc PP FF 54 L_spec_needs c_spec_needs_rrrlrll K [(4, .slice a1 l2 k3), (5, .slice a4 l5 k6), (18, .slice a7 l8 k9), (19, .int .i64 x10), (20, .int .i64 x11)] m :=
  Eq.mpr (by kernel_rfl) h
theorem p_spec_needs_rrrr (a1 : Option Addr) (l2 : Nat) (k3 : Nat) (a4 : Option Addr) (l5 : Nat) (k6 : Nat) (m : Mem) (K : Kont)
    (h : K.kr [(2, .slice a1 l2 k3), (3, .slice a4 l5 k6), (4, .slice a1 l2 k3), (5, .slice a4 l5 k6)] m) :
    wpc PP FF 54 L_spec_needs c_spec_needs_rrrr K [(4, .slice a1 l2 k3), (5, .slice a4 l5 k6)] m :=
  Eq.mpr (by kernel_rfl) h
theorem p_spec_needs_rrrlrllrrr (a1 : Option Addr) (l2 : Nat) (k3 : Nat) (a4 : Option Addr) (l5 : Nat) (k6 : Nat) (a7 : Option Addr) (l8 : Nat) (k9 : Nat) (x10 : Int) (x11 : Int) (m : Mem) (K : Kont)
    (h : K.kn [(4, .slice a1 l2 k3), (5, .slice a4 l5 k6), (18, .slice a7 l8 k9), (19, .int .i64 x10), (20, .int .i64 (IntKind.wrap .i64 (x11 + 1)))] m) :
    wpc PP FF 54 L_spec_needs c_spec_needs_rrrlrllrrr K [(4, .slice a1 l2 k3), (5, .slice a4 l5 k6), (18, .slice a7 l8 k9), (19, .int .i64 x10), (20, .int .i64 x11)] m :=
  Eq.mpr (by kernel_rfl) h
theorem i_spec_needs : ∃ fn, PP.funcs[f_spec_needs]? = some fn ∧ fn.body = some c_spec_needs ∧ fn.ntmps = 54 ∧ fn.results.toList = r_spec_needs := ⟨_, Tryz.func59, b_spec_needs, Tryz.ntmps59, by kernel_rfl⟩
def L_reader_trimmed : List Nat := [0, 1, 2, 6, 7, 20]
def r_reader_trimmed : List ResultVar := [.tmp 6]
noncomputable def c_reader_trimmed : Code := (Go.Proofs.Tryz.f60.body).getD .skip
theorem b_reader_trimmed : Go.Proofs.Tryz.f60.body = some c_reader_trimmed := by kernel_rfl
noncomputable def c_reader_trimmed_rrr : Code := (rgt (rgt (rgt c_reader_trimmed)))
noncomputable def c_reader_trimmed_rrll : Code := (lft (lft (rgt (rgt c_reader_trimmed))))
noncomputable def c_reader_trimmed_rrlll : Code := (lft c_reader_trimmed_rrll)
theorem q_reader_trimmed_rrll : c_reader_trimmed_rrll = .loop c_reader_trimmed_rrlll := by kernel_rfl
theorem e_reader_trimmed (r : Nat) (a1 : Option Addr) (l2 : Nat) (k3 : Nat) (x4 : Int) (m : Mem) (R : Value → Mem → Prop)
    (h : WPS PP 34 c_reader_trimmed_rrll (((retK PP r_reader_trimmed R).withN fun r m => WPS PP 34 c_reader_trimmed_rrr (retK PP r_reader_trimmed R) r m).withX 0) [(0, .pointer (some ⟨r, 0, none⟩)), (1, .slice a1 l2 k3), (2, .int .i64 x4), (6, .slice none 0 0), (7, .int .i64 (l2 : Int))] m) :
    CallM PP f_reader_trimmed #[.pointer (some ⟨r, 0, none⟩), .slice a1 l2 k3, .int .i64 x4] m R :=
  callM_enter ffOk mixedOk 34 L_reader_trimmed Tryz.func60 b_reader_trimmed Tryz.ntmps60 (by simp) (Eq.mpr (by kernel_rfl) h)
theorem p_reader_trimmed_rrr (r : Nat) (a1 : Option Addr) (l2 : Nat) (k3 : Nat) (x4 : Int) (m : Mem) (K : Kont)
    (h : CallM PP f_reader_pick #[.pointer (some ⟨r, 0, none⟩), .int .i64 (IntKind.wrap .i64 ((IntKind.wrap .i64 ((l2 : Int) - x4)) + 1))] m fun v6 m7 => ∃ x5, v6 = .int .i64 x5 ∧ l2 ≤ k3 ∧ (0 ≤ (IntKind.wrap .i64 (x4 + x5)) ∧ (IntKind.wrap .i64 (x4 + x5)) ≤ (k3 : Int)) ∧ K.kr [(0, .pointer (some ⟨r, 0, none⟩)), (1, .slice a1 l2 k3), (6, .slice a1 ((IntKind.wrap .i64 (x4 + x5)).toNat) k3), (7, .int .i64 x4)] m7) :
    wpc PP FF 34 L_reader_trimmed c_reader_trimmed_rrr K [(0, .pointer (some ⟨r, 0, none⟩)), (1, .slice a1 l2 k3), (7, .int .i64 x4)] m :=
  Eq.mpr (by kernel_rfl) h
theorem p_reader_trimmed_rrlll (r : Nat) (a1 : Option Addr) (l2 : Nat) (k3 : Nat) (x4 : Int) (x5 : Int) (m : Mem) (K : Kont)
    (h : ifB (decide (x5 > x4)) (onSome a1 fun p6 => (0 ≤ (IntKind.wrap .i64 (x5 - 1)) ∧ (IntKind.wrap .i64 (x5 - 1)) < (l2 : Int)) ∧ ∃ x7, cell? m (aplus p6 ((IntKind.wrap .i64 (x5 - 1)).toNat)) = some (.int .i64 x7) ∧ ifB (x7 == 0) (K.kn [(0, .pointer (some ⟨r, 0, none⟩)), (1, .slice a1 l2 k3), (2, .int .i64 x4), (7, .int .i64 (IntKind.wrap .i64 (x5 - 1)))] m) (K.kx 0 [(0, .pointer (some ⟨r, 0, none⟩)), (1, .slice a1 l2 k3), (2, .int .i64 x4), (7, .int .i64 x5)] m)) (K.kx 0 [(0, .pointer (some ⟨r, 0, none⟩)), (1, .slice a1 l2 k3), (2, .int .i64 x4), (7, .int .i64 x5)] m)) :
    wpc PP FF 34 L_reader_trimmed c_reader_trimmed_rrlll K [(0, .pointer (some ⟨r, 0, none⟩)), (1, .slice a1 l2 k3), (2, .int .i64 x4), (7, .int .i64 x5)] m :=
  Eq.mpr (by kernel_rfl) h
def L_reader_lengthsOf : List Nat := [0, 1, 2, 6, 7, 8, 9, 10, 11, 12, 13, 14, 15, 16, 17, 18, 19, 28, 36, 48, 58, 68, 91, 92, 93]
def r_reader_lengthsOf : List ResultVar := [.tmp 6]
noncomputable def c_reader_lengthsOf : Code := (Go.Proofs.Tryz.f61.body).getD .skip
theorem b_reader_lengthsOf : Go.Proofs.Tryz.f61.body = some c_reader_lengthsOf := by kernel_rfl
noncomputable def c_reader_lengthsOf_rrr : Code := (rgt (rgt (rgt c_reader_lengthsOf)))
noncomputable def c_reader_lengthsOf_rrrr : Code := (rgt c_reader_lengthsOf_rrr)
noncomputable def c_reader_lengthsOf_rrlrl : Code := (lft (rgt (lft (rgt (rgt c_reader_lengthsOf)))))
noncomputable def c_reader_lengthsOf_rrlrll : Code := (lft c_reader_lengthsOf_rrlrl)
noncomputable def c_reader_lengthsOf_rrrlrl : Code := (lft (rgt (lft c_reader_lengthsOf_rrr)))
noncomputable def c_reader_lengthsOf_rrrrrr : Code := (rgt (rgt c_reader_lengthsOf_rrrr))
noncomputable def c_reader_lengthsOf_rrrlrll : Code := (lft c_reader_lengthsOf_rrrlrl)
noncomputable def c_reader_lengthsOf_rrrrrll : Code := (lft (lft (rgt c_reader_lengthsOf_rrrr)))
noncomputable def c_reader_lengthsOf_rrrrrlll : Code := (lft c_reader_lengthsOf_rrrrrll)
noncomputable def c_reader_lengthsOf_rrrrrrrr : Code := (rgt (rgt c_reader_lengthsOf_rrrrrr))
noncomputable def c_reader_lengthsOf_rrlrllrrr : Code := (rgt (rgt (rgt c_reader_lengthsOf_rrlrll)))
noncomputable def c_reader_lengthsOf_rrrlrllrr : Code := (rgt (rgt c_reader_lengthsOf_rrrlrll))
noncomputable def c_reader_lengthsOf_rrrrrrrlrl : Code := (lft (rgt (lft (rgt c_reader_lengthsOf_rrrrrr))))
noncomputable def c_reader_lengthsOf_rrrrrrrlrll : Code := (lft c_reader_lengthsOf_rrrrrrrlrl)
noncomputable def c_reader_lengthsOf_rrrrrlllrlrr : Code := (rgt (rgt (lft (rgt c_reader_lengthsOf_rrrrrlll))))
noncomputable def c_reader_lengthsOf_rrrrrlllrlrll : Code := (lft (lft (rgt (lft (rgt c_reader_lengthsOf_rrrrrlll)))))
noncomputable def c_reader_lengthsOf_rrrrrlllrlrlll : Code := (lft c_reader_lengthsOf_rrrrrlllrlrll)
theorem q_reader_lengthsOf_rrlrl : c_reader_lengthsOf_rrlrl = .loop c_reader_lengthsOf_rrlrll := by kernel_rfl
theorem q_reader_lengthsOf_rrrlrl : c_reader_lengthsOf_rrrlrl = .loop c_reader_lengthsOf_rrrlrll := by kernel_rfl
theorem q_reader_lengthsOf_rrrrrll : c_reader_lengthsOf_rrrrrll = .loop c_reader_lengthsOf_rrrrrlll := by kernel_rfl
theorem q_reader_lengthsOf_rrrrrrrlrl : c_reader_lengthsOf_rrrrrrrlrl = .loop c_reader_lengthsOf_rrrrrrrlrll := by kernel_rfl
theorem q_reader_lengthsOf_rrrrrlllrlrll : c_reader_lengthsOf_rrrrrlllrlrll = .loop c_reader_lengthsOf_rrrrrlllrlrlll := by kernel_rfl
theorem e_reader_lengthsOf (r : Nat) (a1 : Option Addr) (l2 : Nat) (k3 : Nat) (x4 : Int) (m : Mem) (R : Value → Mem → Prop)
    (h : WPS PP 129 c_reader_lengthsOf_rrlrl (((retK PP r_reader_lengthsOf R).withN fun r m => WPS PP 129 c_reader_lengthsOf_rrr (retK PP r_reader_lengthsOf R) r m).withX 0) [(0, .pointer (some ⟨r, 0, none⟩)), (1, .slice a1 l2 k3), (2, .int .i64 x4), (6, .slice none 0 0), (7, .slice none 0 0), (16, .slice a1 l2 k3), (17, .int .i64 (l2 : Int)), (18, .int .i64 0)] m) :
    CallM PP f_reader_lengthsOf #[.pointer (some ⟨r, 0, none⟩), .slice a1 l2 k3, .int .i64 x4] m R :=
  callM_enter ffOk mixedOk 129 L_reader_lengthsOf Tryz.func61 b_reader_lengthsOf Tryz.ntmps61 (by simp) (Eq.mpr (by kernel_rfl) h)
theorem p_reader_lengthsOf_rrr (r : Nat) (a1 : Option Addr) (l2 : Nat) (k3 : Nat) (x4 : Int) (a5 : Option Addr) (l6 : Nat) (k7 : Nat) (m : Mem) (K : Kont)
    (h : WPS PP 129 c_reader_lengthsOf_rrrlrl ((K.withN fun r m => WPS PP 129 c_reader_lengthsOf_rrrr K r m).withX 2) [(0, .pointer (some ⟨r, 0, none⟩)), (1, .slice a1 l2 k3), (2, .int .i64 x4), (7, .slice a5 l6 k7), (10, .int .i64 0)] m) :
    wpc PP FF 129 L_reader_lengthsOf c_reader_lengthsOf_rrr K [(0, .pointer (some ⟨r, 0, none⟩)), (1, .slice a1 l2 k3), (2, .int .i64 x4), (7, .slice a5 l6 k7)] m :=
  Eq.mpr (by kernel_rfl) h
theorem p_reader_lengthsOf_rrlrll (r : Nat) (a1 : Option Addr) (l2 : Nat) (k3 : Nat) (x4 : Int) (a5 : Option Addr) (l6 : Nat) (k7 : Nat) (a8 : Option Addr) (l9 : Nat) (k10 : Nat) (x11 : Int) (x12 : Int) (m : Mem) (K : Kont)
    (h : ifB (decide (x12 < x11)) (onSome a8 fun p13 => (0 ≤ x12 ∧ x12 < (l9 : Int)) ∧ ∃ b14, cell? m (aplus p13 x12.toNat) = some (.bool b14) ∧ ifB b14 (SemW PP (sv (Instr.buildSlice t_s_int 1 #[(0, .int .i64 x12)])) m (NextW PP fun v18 m19 => ∃ a15 l16 k17, v18 = .slice a15 l16 k17 ∧ SemW PP (builtin .append #[t_s_int, t_s_int] t_s_int #[false, false] #[.slice a5 l6 k7, .slice a15 l16 k17]) m19 (NextW PP fun v23 m24 => ∃ a20 l21 k22, v23 = .slice a20 l21 k22 ∧ WPS PP 129 c_reader_lengthsOf_rrlrllrrr K [(0, .pointer (some ⟨r, 0, none⟩)), (1, .slice a1 l2 k3), (2, .int .i64 x4), (7, .slice a20 l21 k22), (8, .int .i64 x12), (9, .bool b14), (16, .slice a8 l9 k10), (17, .int .i64 x11), (18, .int .i64 x12)] m24))) (CallM PP f_reader_pick #[.pointer (some ⟨r, 0, none⟩), .int .i64 40] m fun v26 m27 => ∃ x25, v26 = .int .i64 x25 ∧ ifB (x25 == 0) (SemW PP (sv (Instr.buildSlice t_s_int 1 #[(0, .int .i64 x12)])) m27 (NextW PP fun v31 m32 => ∃ a28 l29 k30, v31 = .slice a28 l29 k30 ∧ SemW PP (builtin .append #[t_s_int, t_s_int] t_s_int #[false, false] #[.slice a5 l6 k7, .slice a28 l29 k30]) m32 (NextW PP fun v36 m37 => ∃ a33 l34 k35, v36 = .slice a33 l34 k35 ∧ WPS PP 129 c_reader_lengthsOf_rrlrllrrr K [(0, .pointer (some ⟨r, 0, none⟩)), (1, .slice a1 l2 k3), (2, .int .i64 x4), (7, .slice a33 l34 k35), (8, .int .i64 x12), (9, .bool b14), (16, .slice a8 l9 k10), (17, .int .i64 x11), (18, .int .i64 x12)] m37))) (WPS PP 129 c_reader_lengthsOf_rrlrllrrr K [(0, .pointer (some ⟨r, 0, none⟩)), (1, .slice a1 l2 k3), (2, .int .i64 x4), (7, .slice a5 l6 k7), (8, .int .i64 x12), (9, .bool b14), (16, .slice a8 l9 k10), (17, .int .i64 x11), (18, .int .i64 x12)] m27))) (K.kx 0 [(0, .pointer (some ⟨r, 0, none⟩)), (1, .slice a1 l2 k3), (2, .int .i64 x4), (7, .slice a5 l6 k7), (16, .slice a8 l9 k10), (17, .int .i64 x11), (18, .int .i64 x12)] m)) :
    wpc PP FF 129 L_reader_lengthsOf c_reader_lengthsOf_rrlrll K [(0, .pointer (some ⟨r, 0, none⟩)), (1, .slice a1 l2 k3), (2, .int .i64 x4), (7, .slice a5 l6 k7), (16, .slice a8 l9 k10), (17, .int .i64 x11), (18, .int .i64 x12)] m :=
  Eq.mpr (by kernel_rfl) h
theorem p_reader_lengthsOf_rrrlrll (r : Nat) (a1 : Option Addr) (l2 : Nat) (k3 : Nat) (x4 : Int) (a5 : Option Addr) (l6 : Nat) (k7 : Nat) (x8 : Int) (m : Mem) (K : Kont)
    (h : ifB (decide ((l6 : Int) < 2)) (ifB ((l6 : Int) == 0) (SemW PP (sv (Instr.buildSlice t_s_int 1 #[(0, .int .i64 x8)])) m (NextW PP fun v12 m13 => ∃ a9 l10 k11, v12 = .slice a9 l10 k11 ∧ SemW PP (builtin .append #[t_s_int, t_s_int] t_s_int #[false, false] #[.slice a5 l6 k7, .slice a9 l10 k11]) m13 (NextW PP fun v17 m18 => ∃ a14 l15 k16, v17 = .slice a14 l15 k16 ∧ WPS PP 129 c_reader_lengthsOf_rrrlrllrr K [(0, .pointer (some ⟨r, 0, none⟩)), (1, .slice a1 l2 k3), (2, .int .i64 x4), (7, .slice a14 l15 k16), (10, .int .i64 x8)] m18))) (onSome a5 fun p19 => (0 ≤ (0 : Int) ∧ (0 : Int) < (l6 : Int)) ∧ ∃ x20, cell? m (aplus p19 0) = some (.int .i64 x20) ∧ ifB (x20 != x8) (SemW PP (sv (Instr.buildSlice t_s_int 1 #[(0, .int .i64 x8)])) m (NextW PP fun v24 m25 => ∃ a21 l22 k23, v24 = .slice a21 l22 k23 ∧ SemW PP (builtin .append #[t_s_int, t_s_int] t_s_int #[false, false] #[.slice a5 l6 k7, .slice a21 l22 k23]) m25 (NextW PP fun v29 m30 => ∃ a26 l27 k28, v29 = .slice a26 l27 k28 ∧ WPS PP 129 c_reader_lengthsOf_rrrlrllrr K [(0, .pointer (some ⟨r, 0, none⟩)), (1, .slice a1 l2 k3), (2, .int .i64 x4), (7, .slice a26 l27 k28), (10, .int .i64 x8)] m30))) (WPS PP 129 c_reader_lengthsOf_rrrlrllrr K [(0, .pointer (some ⟨r, 0, none⟩)), (1, .slice a1 l2 k3), (2, .int .i64 x4), (7, .slice a5 l6 k7), (10, .int .i64 x8)] m))) (K.kx 2 [(0, .pointer (some ⟨r, 0, none⟩)), (1, .slice a1 l2 k3), (2, .int .i64 x4), (7, .slice a5 l6 k7), (10, .int .i64 x8)] m)) :
    wpc PP FF 129 L_reader_lengthsOf c_reader_lengthsOf_rrrlrll K [(0, .pointer (some ⟨r, 0, none⟩)), (1, .slice a1 l2 k3), (2, .int .i64 x4), (7, .slice a5 l6 k7), (10, .int .i64 x8)] m :=
  Eq.mpr (by kernel_rfl) h
theorem p_reader_lengthsOf_rrrrrlll (r : Nat) (a1 : Option Addr) (l2 : Nat) (k3 : Nat) (x4 : Int) (a5 : Option Addr) (l6 : Nat) (k7 : Nat) (a8 : Option Addr) (l9 : Nat) (k10 : Nat) (m : Mem) (K : Kont)
    (h : ifB (decide ((l9 : Int) < (l6 : Int))) (CallM PP f_reader_pick #[.pointer (some ⟨r, 0, none⟩), .int .i64 (l9 : Int)] m fun v12 m13 => ∃ x11, v12 = .int .i64 x11 ∧ WPS PP 129 c_reader_lengthsOf_rrrrrlllrlrll (((K.withX 5).withN fun r m => WPS PP 129 c_reader_lengthsOf_rrrrrlllrlrr (K.withX 5) r m).withX 6) [(0, .pointer (some ⟨r, 0, none⟩)), (1, .slice a1 l2 k3), (2, .int .i64 x4), (7, .slice a5 l6 k7), (11, .slice a8 l9 k10), (12, .int .i64 x11)] m13) (K.kx 4 [(0, .pointer (some ⟨r, 0, none⟩)), (1, .slice a1 l2 k3), (2, .int .i64 x4), (7, .slice a5 l6 k7), (11, .slice a8 l9 k10)] m)) :
    wpc PP FF 129 L_reader_lengthsOf c_reader_lengthsOf_rrrrrlll K [(0, .pointer (some ⟨r, 0, none⟩)), (1, .slice a1 l2 k3), (2, .int .i64 x4), (7, .slice a5 l6 k7), (11, .slice a8 l9 k10)] m :=
  Eq.mpr (by kernel_rfl) h
theorem p_reader_lengthsOf_rrrrrrrlrll (r : Nat) (a1 : Option Addr) (l2 : Nat) (k3 : Nat) (a4 : Option Addr) (l5 : Nat) (k6 : Nat) (a7 : Option Addr) (l8 : Nat) (k9 : Nat) (x10 : Int) (x11 : Int) (m : Mem) (K : Kont)
    (h : ifB (decide (x11 < x10)) (CallM PP f_reader_pick #[.pointer (some ⟨r, 0, none⟩), .int .i64 (IntKind.wrap .i64 ((l2 : Int) - x11))] m fun v13 m14 => ∃ x12, v13 = .int .i64 x12 ∧ onSome a4 fun p15 => (0 ≤ (IntKind.wrap .i64 (x11 + x12)) ∧ (IntKind.wrap .i64 (x11 + x12)) < (l5 : Int)) ∧ ∃ x16, cell? m14 (aplus p15 ((IntKind.wrap .i64 (x11 + x12)).toNat)) = some (.int .i64 x16) ∧ onSome a4 fun p17 => (0 ≤ x11 ∧ x11 < (l5 : Int)) ∧ ∃ x18, cell? m14 (aplus p17 x11.toNat) = some (.int .i64 x18) ∧ onSome a4 fun p19 => (0 ≤ x11 ∧ x11 < (l5 : Int)) ∧ StW m14 (aplus p19 x11.toNat) (.int .i64 x16) fun m20 => onSome a4 fun p21 => (0 ≤ (IntKind.wrap .i64 (x11 + x12)) ∧ (IntKind.wrap .i64 (x11 + x12)) < (l5 : Int)) ∧ StW m20 (aplus p21 ((IntKind.wrap .i64 (x11 + x12)).toNat)) (.int .i64 x18) fun m22 => onSome a1 fun p23 => (0 ≤ x11 ∧ x11 < (l2 : Int)) ∧ ∃ x24, cell? m22 (aplus p23 x11.toNat) = some (.int .i64 x24) ∧ onSome a4 fun p25 => (0 ≤ x11 ∧ x11 < (l5 : Int)) ∧ ∃ x26, cell? m22 (aplus p25 x11.toNat) = some (.int .i64 x26) ∧ onSome a7 fun p27 => (0 ≤ x24 ∧ x24 < (l8 : Int)) ∧ StW m22 (aplus p27 x24.toNat) (.int .i64 x26) fun m28 => K.kn [(0, .pointer (some ⟨r, 0, none⟩)), (7, .slice a1 l2 k3), (11, .slice a4 l5 k6), (13, .slice a7 l8 k9), (14, .int .i64 x11), (15, .int .i64 (IntKind.wrap .i64 (x11 + x12))), (91, .int .i64 x10), (92, .int .i64 (IntKind.wrap .i64 (x11 + 1)))] m28) (K.kx 8 [(0, .pointer (some ⟨r, 0, none⟩)), (7, .slice a1 l2 k3), (11, .slice a4 l5 k6), (13, .slice a7 l8 k9), (91, .int .i64 x10), (92, .int .i64 x11)] m)) :
    wpc PP FF 129 L_reader_lengthsOf c_reader_lengthsOf_rrrrrrrlrll K [(0, .pointer (some ⟨r, 0, none⟩)), (7, .slice a1 l2 k3), (11, .slice a4 l5 k6), (13, .slice a7 l8 k9), (91, .int .i64 x10), (92, .int .i64 x11)] m :=
  Eq.mpr (by kernel_rfl) h
theorem p_reader_lengthsOf_rrrrrlllrlrlll (r : Nat) (a1 : Option Addr) (l2 : Nat) (k3 : Nat) (x4 : Int) (a5 : Option Addr) (l6 : Nat) (k7 : Nat) (a8 : Option Addr) (l9 : Nat) (k10 : Nat) (x11 : Int) (m : Mem) (K : Kont)
    (h : onSome a8 fun p12 => (0 ≤ x11 ∧ x11 < (l9 : Int)) ∧ ∃ x13, cell? m (aplus p12 x11.toNat) = some (.int .i64 x13) ∧ ifB (x13 == x4) (IntKind.i64 = IntKind.i64 ∧ (l9 : Int) ≠ 0 ∧ K.kn [(0, .pointer (some ⟨r, 0, none⟩)), (1, .slice a1 l2 k3), (2, .int .i64 x4), (7, .slice a5 l6 k7), (11, .slice a8 l9 k10), (12, .int .i64 (Int.tmod (IntKind.wrap .i64 (x11 + 1)) (l9 : Int)))] m) (K.kx 6 [(0, .pointer (some ⟨r, 0, none⟩)), (1, .slice a1 l2 k3), (2, .int .i64 x4), (7, .slice a5 l6 k7), (11, .slice a8 l9 k10), (12, .int .i64 x11)] m)) :
    wpc PP FF 129 L_reader_lengthsOf c_reader_lengthsOf_rrrrrlllrlrlll K [(0, .pointer (some ⟨r, 0, none⟩)), (1, .slice a1 l2 k3), (2, .int .i64 x4), (7, .slice a5 l6 k7), (11, .slice a8 l9 k10), (12, .int .i64 x11)] m :=
  Eq.mpr (by kernel_rfl) h
theorem p_reader_lengthsOf_rrrr (r : Nat) (a1 : Option Addr) (l2 : Nat) (k3 : Nat) (x4 : Int) (a5 : Option Addr) (l6 : Nat) (k7 : Nat) (m : Mem) (K : Kont)
    (h : SemW PP (sv (Instr.buildSlice t_s_int 2 #[(0, .int .i64 1), (1, .int .i64 1)])) m (NextW PP fun v11 m12 => ∃ a8 l9 k10, v11 = .slice a8 l9 k10 ∧ WPS PP 129 c_reader_lengthsOf_rrrrrll ((K.withN fun r m => WPS PP 129 c_reader_lengthsOf_rrrrrr K r m).withX 4) [(0, .pointer (some ⟨r, 0, none⟩)), (1, .slice a1 l2 k3), (2, .int .i64 x4), (7, .slice a5 l6 k7), (11, .slice a8 l9 k10)] m12)) :
    wpc PP FF 129 L_reader_lengthsOf c_reader_lengthsOf_rrrr K [(0, .pointer (some ⟨r, 0, none⟩)), (1, .slice a1 l2 k3), (2, .int .i64 x4), (7, .slice a5 l6 k7)] m :=
  Eq.mpr (by kernel_rfl) h
theorem p_reader_lengthsOf_rrlrllrrr (r : Nat) (a1 : Option Addr) (l2 : Nat) (k3 : Nat) (x4 : Int) (a5 : Option Addr) (l6 : Nat) (k7 : Nat) (a8 : Option Addr) (l9 : Nat) (k10 : Nat) (x11 : Int) (x12 : Int) (m : Mem) (K : Kont)
    (h : K.kn [(0, .pointer (some ⟨r, 0, none⟩)), (1, .slice a1 l2 k3), (2, .int .i64 x4), (7, .slice a5 l6 k7), (16, .slice a8 l9 k10), (17, .int .i64 x11), (18, .int .i64 (IntKind.wrap .i64 (x12 + 1)))] m) :
    wpc PP FF 129 L_reader_lengthsOf c_reader_lengthsOf_rrlrllrrr K [(0, .pointer (some ⟨r, 0, none⟩)), (1, .slice a1 l2 k3), (2, .int .i64 x4), (7, .slice a5 l6 k7), (16, .slice a8 l9 k10), (17, .int .i64 x11), (18, .int .i64 x12)] m :=
  Eq.mpr (by kernel_rfl) h
theorem p_reader_lengthsOf_rrrlrllrr (r : Nat) (a1 : Option Addr) (l2 : Nat) (k3 : Nat) (x4 : Int) (a5 : Option Addr) (l6 : Nat) (k7 : Nat) (x8 : Int) (m : Mem) (K : Kont)
    (h : K.kn [(0, .pointer (some ⟨r, 0, none⟩)), (1, .slice a1 l2 k3), (2, .int .i64 x4), (7, .slice a5 l6 k7), (10, .int .i64 (IntKind.wrap .i64 (x8 + 1)))] m) :
    wpc PP FF 129 L_reader_lengthsOf c_reader_lengthsOf_rrrlrllrr K [(0, .pointer (some ⟨r, 0, none⟩)), (1, .slice a1 l2 k3), (2, .int .i64 x4), (7, .slice a5 l6 k7), (10, .int .i64 x8)] m :=
  Eq.mpr (by kernel_rfl) h
theorem p_reader_lengthsOf_rrrrrlllrlrr (r : Nat) (a1 : Option Addr) (l2 : Nat) (k3 : Nat) (x4 : Int) (a5 : Option Addr) (l6 : Nat) (k7 : Nat) (a8 : Option Addr) (l9 : Nat) (k10 : Nat) (x11 : Int) (m : Mem) (K : Kont)
    (h : onSome a8 fun p12 => (0 ≤ x11 ∧ x11 < (l9 : Int)) ∧ ∃ x13, cell? m (aplus p12 x11.toNat) = some (.int .i64 x13) ∧ onSome a8 fun p14 => (0 ≤ x11 ∧ x11 < (l9 : Int)) ∧ StW m (aplus p14 x11.toNat) (.int .i64 (IntKind.wrap .i64 (x13 + 1))) fun m15 => onSome a8 fun p16 => (0 ≤ x11 ∧ x11 < (l9 : Int)) ∧ ∃ x17, cell? m15 (aplus p16 x11.toNat) = some (.int .i64 x17) ∧ SemW PP (sv (Instr.buildSlice t_s_int 1 #[(0, .int .i64 x17)])) m15 (NextW PP fun v21 m22 => ∃ a18 l19 k20, v21 = .slice a18 l19 k20 ∧ SemW PP (builtin .append #[t_s_int, t_s_int] t_s_int #[false, false] #[.slice a8 l9 k10, .slice a18 l19 k20]) m22 (NextW PP fun v26 m27 => ∃ a23 l24 k25, v26 = .slice a23 l24 k25 ∧ K.kn [(0, .pointer (some ⟨r, 0, none⟩)), (1, .slice a1 l2 k3), (2, .int .i64 x4), (7, .slice a5 l6 k7), (11, .slice a23 l24 k25), (12, .int .i64 x11)] m27))) :
    wpc PP FF 129 L_reader_lengthsOf c_reader_lengthsOf_rrrrrlllrlrr K [(0, .pointer (some ⟨r, 0, none⟩)), (1, .slice a1 l2 k3), (2, .int .i64 x4), (7, .slice a5 l6 k7), (11, .slice a8 l9 k10), (12, .int .i64 x11)] m :=
  Eq.mpr (by kernel_rfl) h
theorem p_reader_lengthsOf_rrrrrr (r : Nat) (a1 : Option Addr) (l2 : Nat) (k3 : Nat) (a4 : Option Addr) (l5 : Nat) (k6 : Nat) (a7 : Option Addr) (l8 : Nat) (k9 : Nat) (m : Mem) (K : Kont)
    (h : SemW PP (sv (Instr.makeSlice t_s_int (.int .i64 (l2 : Int)) (.int .i64 (l2 : Int)))) m (NextW PP fun v13 m14 => ∃ a10 l11 k12, v13 = .slice a10 l11 k12 ∧ WPS PP 129 c_reader_lengthsOf_rrrrrrrlrl ((K.withN fun r m => WPS PP 129 c_reader_lengthsOf_rrrrrrrr K r m).withX 8) [(0, .pointer (some ⟨r, 0, none⟩)), (1, .slice a1 l2 k3), (7, .slice a4 l5 k6), (11, .slice a7 l8 k9), (13, .slice a10 l11 k12), (91, .int .i64 (l5 : Int)), (92, .int .i64 0)] m14)) :
    wpc PP FF 129 L_reader_lengthsOf c_reader_lengthsOf_rrrrrr K [(0, .pointer (some ⟨r, 0, none⟩)), (1, .slice a1 l2 k3), (7, .slice a4 l5 k6), (11, .slice a7 l8 k9)] m :=
  Eq.mpr (by kernel_rfl) h
theorem p_reader_lengthsOf_rrrrrrrr (a1 : Option Addr) (l2 : Nat) (k3 : Nat) (m : Mem) (K : Kont)
    (h : K.kr [(6, .slice a1 l2 k3), (13, .slice a1 l2 k3)] m) :
    wpc PP FF 129 L_reader_lengthsOf c_reader_lengthsOf_rrrrrrrr K [(13, .slice a1 l2 k3)] m :=
  Eq.mpr (by kernel_rfl) h
def L_Writer_lengths : List Nat := [0, 1, 2, 3, 8, 9, 11, 12, 13, 15, 16, 18, 27, 28, 29, 30, 53, 72, 73, 74, 75, 87, 88, 89, 90]
def r_Writer_lengths : List ResultVar := []
noncomputable def c_Writer_lengths : Code := (Go.Proofs.Tryz.f62.body).getD .skip
theorem b_Writer_lengths : Go.Proofs.Tryz.f62.body = some c_Writer_lengths := by kernel_rfl
noncomputable def c_Writer_lengths_rrr : Code := (rgt (rgt (rgt c_Writer_lengths)))
noncomputable def c_Writer_lengths_rrlrl : Code := (lft (rgt (lft (rgt (rgt c_Writer_lengths)))))
noncomputable def c_Writer_lengths_rrlrll : Code := (lft c_Writer_lengths_rrlrl)
noncomputable def c_Writer_lengths_rrrrrr : Code := (rgt (rgt (rgt c_Writer_lengths_rrr)))
noncomputable def c_Writer_lengths_rrrrrll : Code := (lft (lft (rgt (rgt c_Writer_lengths_rrr))))
noncomputable def c_Writer_lengths_rrrrrlll : Code := (lft c_Writer_lengths_rrrrrll)
noncomputable def c_Writer_lengths_rrrrrrrrrr : Code := (rgt (rgt (rgt (rgt c_Writer_lengths_rrrrrr))))
noncomputable def c_Writer_lengths_rrrrrrrrrlrl : Code := (lft (rgt (lft (rgt (rgt (rgt c_Writer_lengths_rrrrrr))))))
noncomputable def c_Writer_lengths_rrrrrrrrrlrll : Code := (lft c_Writer_lengths_rrrrrrrrrlrl)
noncomputable def c_Writer_lengths_rrrrrrrrrrrrl : Code := (lft (rgt (rgt c_Writer_lengths_rrrrrrrrrr)))
noncomputable def c_Writer_lengths_rrrrrrrrrrrrll : Code := (lft c_Writer_lengths_rrrrrrrrrrrrl)
theorem q_Writer_lengths_rrlrl : c_Writer_lengths_rrlrl = .loop c_Writer_lengths_rrlrll := by kernel_rfl
theorem q_Writer_lengths_rrrrrll : c_Writer_lengths_rrrrrll = .loop c_Writer_lengths_rrrrrlll := by kernel_rfl
theorem q_Writer_lengths_rrrrrrrrrlrl : c_Writer_lengths_rrrrrrrrrlrl = .loop c_Writer_lengths_rrrrrrrrrlrll := by kernel_rfl
theorem q_Writer_lengths_rrrrrrrrrrrrl : c_Writer_lengths_rrrrrrrrrrrrl = .loop c_Writer_lengths_rrrrrrrrrrrrll := by kernel_rfl
theorem e_Writer_lengths (w : Nat) (p1 : Option Addr) (a2 : Option Addr) (l3 : Nat) (k4 : Nat) (a5 : Option Addr) (l6 : Nat) (k7 : Nat) (m : Mem) (R : Value → Mem → Prop)
    (h : SemW PP (sv (Instr.buildSlice t_s_int 0 #[])) m (NextW PP fun v11 m12 => ∃ a8 l9 k10, v11 = .slice a8 l9 k10 ∧ SemW PP (builtin .append #[t_s_int, t_s_int] t_s_int #[false, false] #[.slice a8 l9 k10, .slice a2 l3 k4]) m12 (NextW PP fun v16 m17 => ∃ a13 l14 k15, v16 = .slice a13 l14 k15 ∧ SemW PP (builtin .append #[t_s_int, t_s_int] t_s_int #[false, false] #[.slice a13 l14 k15, .slice a5 l6 k7]) m17 (NextW PP fun v21 m22 => ∃ a18 l19 k20, v21 = .slice a18 l19 k20 ∧ CallM PP f_reader_runs #[.pointer p1, .slice a18 l19 k20] m22 fun v26 m27 => ∃ a23 l24 k25, v26 = .slice a23 l24 k25 ∧ SemW PP (sv (Instr.makeSlice t_s_bool (.int .i64 19) (.int .i64 19))) m27 (NextW PP fun v31 m32 => ∃ a28 l29 k30, v31 = .slice a28 l29 k30 ∧ WPS PP 112 c_Writer_lengths_rrlrl (((retK PP r_Writer_lengths R).withN fun r m => WPS PP 112 c_Writer_lengths_rrr (retK PP r_Writer_lengths R) r m).withX 0) [(0, .pointer (some ⟨w, 0, none⟩)), (1, .pointer p1), (2, .slice a2 l3 k4), (3, .slice a5 l6 k7), (8, .slice a23 l24 k25), (9, .slice a28 l29 k30), (27, .slice a23 l24 k25), (28, .int .i64 (l24 : Int)), (29, .int .i64 0)] m32))))) :
    CallM PP f_Writer_lengths #[.pointer (some ⟨w, 0, none⟩), .pointer p1, .slice a2 l3 k4, .slice a5 l6 k7] m R :=
  callM_enter ffOk mixedOk 112 L_Writer_lengths Tryz.func62 b_Writer_lengths Tryz.ntmps62 (by simp) (Eq.mpr (by kernel_rfl) h)
theorem p_Writer_lengths_rrr (w : Nat) (p1 : Option Addr) (a2 : Option Addr) (l3 : Nat) (k4 : Nat) (a5 : Option Addr) (l6 : Nat) (k7 : Nat) (a8 : Option Addr) (l9 : Nat) (k10 : Nat) (a11 : Option Addr) (l12 : Nat) (k13 : Nat) (m : Mem) (K : Kont)
    (h : CallM PP f_reader_lengthsOf #[.pointer p1, .slice a11 l12 k13, .int .i64 7] m fun v17 m18 => ∃ a14 l15 k16, v17 = .slice a14 l15 k16 ∧ WPS PP 112 c_Writer_lengths_rrrrrll ((K.withN fun r m => WPS PP 112 c_Writer_lengths_rrrrrr K r m).withX 2) [(0, .pointer (some ⟨w, 0, none⟩)), (1, .pointer p1), (2, .slice a2 l3 k4), (3, .slice a5 l6 k7), (8, .slice a8 l9 k10), (9, .slice a11 l12 k13), (12, .slice a14 l15 k16), (13, .int .i64 19)] m18) :
    wpc PP FF 112 L_Writer_lengths c_Writer_lengths_rrr K [(0, .pointer (some ⟨w, 0, none⟩)), (1, .pointer p1), (2, .slice a2 l3 k4), (3, .slice a5 l6 k7), (8, .slice a8 l9 k10), (9, .slice a11 l12 k13)] m :=
  Eq.mpr (by kernel_rfl) h
theorem p_Writer_lengths_rrlrll (w : Nat) (p1 : Option Addr) (a2 : Option Addr) (l3 : Nat) (k4 : Nat) (a5 : Option Addr) (l6 : Nat) (k7 : Nat) (a8 : Option Addr) (l9 : Nat) (k10 : Nat) (a11 : Option Addr) (l12 : Nat) (k13 : Nat) (a14 : Option Addr) (l15 : Nat) (k16 : Nat) (x17 : Int) (x18 : Int) (m : Mem) (K : Kont)
    (h : ifB (decide (x18 < x17)) (onSome a14 fun p19 => (0 ≤ x18 ∧ x18 < (l15 : Int)) ∧ ∃ x20 x21 x22, ([.int .i64 x20, .int .i64 x21, .int .i64 x22] : List Value).length = 3 ∧ CellsAre m (aplus p19 (x18.toNat * 3)) 0 [.int .i64 x20, .int .i64 x21, .int .i64 x22] ∧ AllocW PP t_spec_run m fun n23 m24 => StAgg PP t_spec_run m24 ⟨n23, 0, none⟩ (.agg #[.int .i64 x20, .int .i64 x21, .int .i64 x22]) fun m25 => ∃ x26, cell? m25 ⟨n23, 0, none⟩ = some (.int .i64 x26) ∧ onSome a11 fun p27 => (0 ≤ x26 ∧ x26 < (l12 : Int)) ∧ StW m25 (aplus p27 x26.toNat) (.bool true) fun m28 => K.kn [(0, .pointer (some ⟨w, 0, none⟩)), (1, .pointer p1), (2, .slice a2 l3 k4), (3, .slice a5 l6 k7), (8, .slice a8 l9 k10), (9, .slice a11 l12 k13), (11, .pointer (some ⟨n23, 0, none⟩)), (27, .slice a14 l15 k16), (28, .int .i64 x17), (29, .int .i64 (IntKind.wrap .i64 (x18 + 1)))] m28) (K.kx 0 [(0, .pointer (some ⟨w, 0, none⟩)), (1, .pointer p1), (2, .slice a2 l3 k4), (3, .slice a5 l6 k7), (8, .slice a8 l9 k10), (9, .slice a11 l12 k13), (27, .slice a14 l15 k16), (28, .int .i64 x17), (29, .int .i64 x18)] m)) :
    wpc PP FF 112 L_Writer_lengths c_Writer_lengths_rrlrll K [(0, .pointer (some ⟨w, 0, none⟩)), (1, .pointer p1), (2, .slice a2 l3 k4), (3, .slice a5 l6 k7), (8, .slice a8 l9 k10), (9, .slice a11 l12 k13), (27, .slice a14 l15 k16), (28, .int .i64 x17), (29, .int .i64 x18)] m :=
  Eq.mpr (by kernel_rfl) h
theorem p_Writer_lengths_rrrrrlll (w : Nat) (a1 : Option Addr) (l2 : Nat) (k3 : Nat) (a4 : Option Addr) (l5 : Nat) (k6 : Nat) (a7 : Option Addr) (l8 : Nat) (k9 : Nat) (a10 : Option Addr) (l11 : Nat) (k12 : Nat) (x13 : Int) (m : Mem) (K : Kont)
    (h : ifB (decide (x13 > 4)) (CallM PP f_spec_Order #[] m fun v17 m18 => ∃ a14 l15 k16, v17 = .slice a14 l15 k16 ∧ onSome a14 fun p19 => (0 ≤ (IntKind.wrap .i64 (x13 - 1)) ∧ (IntKind.wrap .i64 (x13 - 1)) < (l15 : Int)) ∧ ∃ x20, cell? m18 (aplus p19 ((IntKind.wrap .i64 (x13 - 1)).toNat)) = some (.int .i64 x20) ∧ onSome a10 fun p21 => (0 ≤ x20 ∧ x20 < (l11 : Int)) ∧ ∃ x22, cell? m18 (aplus p21 x20.toNat) = some (.int .i64 x22) ∧ ifB (x22 == 0) (K.kn [(0, .pointer (some ⟨w, 0, none⟩)), (2, .slice a1 l2 k3), (3, .slice a4 l5 k6), (8, .slice a7 l8 k9), (12, .slice a10 l11 k12), (13, .int .i64 (IntKind.wrap .i64 (x13 - 1)))] m18) (K.kx 2 [(0, .pointer (some ⟨w, 0, none⟩)), (2, .slice a1 l2 k3), (3, .slice a4 l5 k6), (8, .slice a7 l8 k9), (12, .slice a10 l11 k12), (13, .int .i64 x13)] m18)) (K.kx 2 [(0, .pointer (some ⟨w, 0, none⟩)), (2, .slice a1 l2 k3), (3, .slice a4 l5 k6), (8, .slice a7 l8 k9), (12, .slice a10 l11 k12), (13, .int .i64 x13)] m)) :
    wpc PP FF 112 L_Writer_lengths c_Writer_lengths_rrrrrlll K [(0, .pointer (some ⟨w, 0, none⟩)), (2, .slice a1 l2 k3), (3, .slice a4 l5 k6), (8, .slice a7 l8 k9), (12, .slice a10 l11 k12), (13, .int .i64 x13)] m :=
  Eq.mpr (by kernel_rfl) h
theorem p_Writer_lengths_rrrrrrrrrlrll (w : Nat) (a1 : Option Addr) (l2 : Nat) (k3 : Nat) (a4 : Option Addr) (l5 : Nat) (k6 : Nat) (a7 : Option Addr) (l8 : Nat) (k9 : Nat) (x10 : Int) (x11 : Int) (m : Mem) (K : Kont)
    (h : ifB (decide (x11 < x10)) (onSome a7 fun p12 => (0 ≤ x11 ∧ x11 < (l8 : Int)) ∧ ∃ x13, cell? m (aplus p12 x11.toNat) = some (.int .i64 x13) ∧ onSome a4 fun p14 => (0 ≤ x13 ∧ x13 < (l5 : Int)) ∧ ∃ x15, cell? m (aplus p14 x13.toNat) = some (.int .i64 x15) ∧ CallM PP f_Writer_Bits #[.pointer (some ⟨w, 0, none⟩), .int .i64 x15, .int .i64 3] m fun v16 m17 => v16 = .tuple #[] ∧ K.kn [(0, .pointer (some ⟨w, 0, none⟩)), (8, .slice a1 l2 k3), (12, .slice a4 l5 k6), (15, .int .i64 x13), (72, .slice a7 l8 k9), (73, .int .i64 x10), (74, .int .i64 (IntKind.wrap .i64 (x11 + 1)))] m17) (K.kx 4 [(0, .pointer (some ⟨w, 0, none⟩)), (8, .slice a1 l2 k3), (12, .slice a4 l5 k6), (72, .slice a7 l8 k9), (73, .int .i64 x10), (74, .int .i64 x11)] m)) :
    wpc PP FF 112 L_Writer_lengths c_Writer_lengths_rrrrrrrrrlrll K [(0, .pointer (some ⟨w, 0, none⟩)), (8, .slice a1 l2 k3), (12, .slice a4 l5 k6), (72, .slice a7 l8 k9), (73, .int .i64 x10), (74, .int .i64 x11)] m :=
  Eq.mpr (by kernel_rfl) h
theorem p_Writer_lengths_rrrrrrrrrrrrll (w : Nat) (a1 : Option Addr) (l2 : Nat) (k3 : Nat) (a4 : Option Addr) (l5 : Nat) (k6 : Nat) (a7 : Option Addr) (l8 : Nat) (k9 : Nat) (x10 : Int) (x11 : Int) (m : Mem) (K : Kont)
    (h : ifB (decide (x11 < x10)) (onSome a7 fun p12 => (0 ≤ x11 ∧ x11 < (l8 : Int)) ∧ ∃ x13 x14 x15, ([.int .i64 x13, .int .i64 x14, .int .i64 x15] : List Value).length = 3 ∧ CellsAre m (aplus p12 (x11.toNat * 3)) 0 [.int .i64 x13, .int .i64 x14, .int .i64 x15] ∧ AllocW PP t_spec_run m fun n16 m17 => StAgg PP t_spec_run m17 ⟨n16, 0, none⟩ (.agg #[.int .i64 x13, .int .i64 x14, .int .i64 x15]) fun m18 => ∃ x19, cell? m18 ⟨n16, 0, none⟩ = some (.int .i64 x19) ∧ onSome a4 fun p20 => (0 ≤ x19 ∧ x19 < (l5 : Int)) ∧ ∃ x21, cell? m18 (aplus p20 x19.toNat) = some (.int .i64 x21) ∧ ∃ x22, cell? m18 ⟨n16, 0, none⟩ = some (.int .i64 x22) ∧ onSome a1 fun p23 => (0 ≤ x22 ∧ x22 < (l2 : Int)) ∧ ∃ x24, cell? m18 (aplus p23 x22.toNat) = some (.int .i64 x24) ∧ CallM PP f_Writer_code #[.pointer (some ⟨w, 0, none⟩), .int .i64 x21, .int .i64 x24] m18 fun v25 m26 => v25 = .tuple #[] ∧ ∃ x27, cell? m26 ⟨n16, 1, none⟩ = some (.int .i64 x27) ∧ ∃ x28, cell? m26 ⟨n16, 2, none⟩ = some (.int .i64 x28) ∧ CallM PP f_Writer_Bits #[.pointer (some ⟨w, 0, none⟩), .int .i64 x27, .int .i64 x28] m26 fun v29 m30 => v29 = .tuple #[] ∧ K.kn [(0, .pointer (some ⟨w, 0, none⟩)), (12, .slice a1 l2 k3), (16, .slice a4 l5 k6), (18, .pointer (some ⟨n16, 0, none⟩)), (87, .slice a7 l8 k9), (88, .int .i64 x10), (89, .int .i64 (IntKind.wrap .i64 (x11 + 1)))] m30) (K.kx 6 [(0, .pointer (some ⟨w, 0, none⟩)), (12, .slice a1 l2 k3), (16, .slice a4 l5 k6), (87, .slice a7 l8 k9), (88, .int .i64 x10), (89, .int .i64 x11)] m)) :
    wpc PP FF 112 L_Writer_lengths c_Writer_lengths_rrrrrrrrrrrrll K [(0, .pointer (some ⟨w, 0, none⟩)), (12, .slice a1 l2 k3), (16, .slice a4 l5 k6), (87, .slice a7 l8 k9), (88, .int .i64 x10), (89, .int .i64 x11)] m :=
  Eq.mpr (by kernel_rfl) h
theorem p_Writer_lengths_rrrrrr (w : Nat) (a1 : Option Addr) (l2 : Nat) (k3 : Nat) (a4 : Option Addr) (l5 : Nat) (k6 : Nat) (a7 : Option Addr) (l8 : Nat) (k9 : Nat) (a10 : Option Addr) (l11 : Nat) (k12 : Nat) (x13 : Int) (m : Mem) (K : Kont)
    (h : CallM PP f_Writer_Bits #[.pointer (some ⟨w, 0, none⟩), .int .i64 (IntKind.wrap .i64 ((l2 : Int) - 257)), .int .i64 5] m fun v14 m15 => v14 = .tuple #[] ∧ CallM PP f_Writer_Bits #[.pointer (some ⟨w, 0, none⟩), .int .i64 (IntKind.wrap .i64 ((l5 : Int) - 1)), .int .i64 5] m15 fun v16 m17 => v16 = .tuple #[] ∧ CallM PP f_Writer_Bits #[.pointer (some ⟨w, 0, none⟩), .int .i64 (IntKind.wrap .i64 (x13 - 4)), .int .i64 4] m17 fun v18 m19 => v18 = .tuple #[] ∧ CallM PP f_spec_Order #[] m19 fun v23 m24 => ∃ a20 l21 k22, v23 = .slice a20 l21 k22 ∧ l21 ≤ k22 ∧ (0 ≤ x13 ∧ x13 ≤ (k22 : Int)) ∧ WPS PP 112 c_Writer_lengths_rrrrrrrrrlrl ((K.withN fun r m => WPS PP 112 c_Writer_lengths_rrrrrrrrrr K r m).withX 4) [(0, .pointer (some ⟨w, 0, none⟩)), (2, .slice a1 l2 k3), (3, .slice a4 l5 k6), (8, .slice a7 l8 k9), (12, .slice a10 l11 k12), (13, .int .i64 x13), (72, .slice a20 x13.toNat k22), (73, .int .i64 ((x13.toNat : Nat) : Int)), (74, .int .i64 0)] m24) :
    wpc PP FF 112 L_Writer_lengths c_Writer_lengths_rrrrrr K [(0, .pointer (some ⟨w, 0, none⟩)), (2, .slice a1 l2 k3), (3, .slice a4 l5 k6), (8, .slice a7 l8 k9), (12, .slice a10 l11 k12), (13, .int .i64 x13)] m :=
  Eq.mpr (by kernel_rfl) h
theorem p_Writer_lengths_rrrrrrrrrr (w : Nat) (a1 : Option Addr) (l2 : Nat) (k3 : Nat) (a4 : Option Addr) (l5 : Nat) (k6 : Nat) (m : Mem) (K : Kont)
    (h : CallM PP f_spec_Codes #[.slice a4 l5 k6] m fun v10 m11 => ∃ a7 l8 k9, v10 = .slice a7 l8 k9 ∧ WPS PP 112 c_Writer_lengths_rrrrrrrrrrrrl (K.withX 6) [(0, .pointer (some ⟨w, 0, none⟩)), (8, .slice a1 l2 k3), (12, .slice a4 l5 k6), (16, .slice a7 l8 k9), (87, .slice a1 l2 k3), (88, .int .i64 (l2 : Int)), (89, .int .i64 0)] m11) :
    wpc PP FF 112 L_Writer_lengths c_Writer_lengths_rrrrrrrrrr K [(0, .pointer (some ⟨w, 0, none⟩)), (8, .slice a1 l2 k3), (12, .slice a4 l5 k6)] m :=
  Eq.mpr (by kernel_rfl) h
def L_inflate_noEOF : List Nat := [0, 2, 5]
def r_inflate_noEOF : List ResultVar := [.tmp 2]
noncomputable def c_inflate_noEOF : Code := (Go.Proofs.Tryz.f65.body).getD .skip
theorem b_inflate_noEOF : Go.Proofs.Tryz.f65.body = some c_inflate_noEOF := by kernel_rfl
theorem e_inflate_noEOF (v1 : Value) (m : Mem) (R : Value → Mem → Prop)
    (h : ∃ v2, cell? m ⟨g_io_EOF, 0, none⟩ = some (v2) ∧ ReadW PP m (do eqGuard .eql t_error (.tmp 3) (.tmp 4) v1 v2; binOp .eql t_error v1 v2) fun u4 => ∃ b3, u4 = .bool b3 ∧ ifB b3 (∃ v5, cell? m ⟨g_io_ErrUnexpectedEOF, 0, none⟩ = some (v5) ∧ R (v5) m) (R (v1) m)) :
    CallM PP f_inflate_noEOF #[v1] m R :=
  callM_enter ffOk mixedOk 8 L_inflate_noEOF Tryz.func65 b_inflate_noEOF Tryz.ntmps65 (by simp) (Eq.mpr (by kernel_rfl) h)
def L_io_ReadFull : List Nat := [0, 1, 4, 5]
def r_io_ReadFull : List ResultVar := [.tmp 4, .tmp 5]
noncomputable def c_io_ReadFull : Code := (Go.Proofs.Tryz.f66.body).getD .skip
theorem b_io_ReadFull : Go.Proofs.Tryz.f66.body = some c_io_ReadFull := by kernel_rfl
theorem e_io_ReadFull (v1 : Value) (a2 : Option Addr) (l3 : Nat) (k4 : Nat) (m : Mem) (R : Value → Mem → Prop)
    (h : CallM PP f_io_ReadAtLeast #[v1, .slice a2 l3 k4, .int .i64 (l3 : Int)] m fun v7 m8 => ∃ x5 v6, v7 = .tuple #[.int .i64 x5, v6] ∧ R (.tuple #[.int .i64 x5, v6]) m8) :
    CallM PP f_io_ReadFull #[v1, .slice a2 l3 k4] m R :=
  callM_enter ffOk mixedOk 13 L_io_ReadFull Tryz.func66 b_io_ReadFull Tryz.ntmps66 (by simp) (Eq.mpr (by kernel_rfl) h)
def L_dictDecoder_readFlush : List Nat := [0, 2, 3, 33]
def r_dictDecoder_readFlush : List ResultVar := [.tmp 2]
noncomputable def c_dictDecoder_readFlush : Code := (Go.Proofs.Tryz.f67.body).getD .skip
theorem b_dictDecoder_readFlush : Go.Proofs.Tryz.f67.body = some c_dictDecoder_readFlush := by kernel_rfl
noncomputable def c_dictDecoder_readFlush_rrrr : Code := (rgt (rgt (rgt (rgt c_dictDecoder_readFlush))))
theorem e_dictDecoder_readFlush (f : Nat) (m : Mem) (R : Value → Mem → Prop)
    (h : ∃ a1 l2 k3, cell? m ⟨f, 1037, none⟩ = some (.slice a1 l2 k3) ∧ ∃ x4, cell? m ⟨f, 1039, none⟩ = some (.int .i64 x4) ∧ ∃ x5, cell? m ⟨f, 1038, none⟩ = some (.int .i64 x5) ∧ l2 ≤ k3 ∧ (0 ≤ x5 ∧ x5 ≤ (k3 : Int)) ∧ (0 ≤ x4 ∧ x4 ≤ x5) ∧ ∃ x6, cell? m ⟨f, 1038, none⟩ = some (.int .i64 x6) ∧ StW m ⟨f, 1039, none⟩ (.int .i64 x6) fun m7 => ∃ x8, cell? m7 ⟨f, 1038, none⟩ = some (.int .i64 x8) ∧ ∃ a9 l10 k11, cell? m7 ⟨f, 1037, none⟩ = some (.slice a9 l10 k11) ∧ ifB (x8 == (l10 : Int)) (StW m7 ⟨f, 1038, none⟩ (.int .i64 0) fun m12 => StW m12 ⟨f, 1039, none⟩ (.int .i64 0) fun m13 => StW m13 ⟨f, 1040, none⟩ (.bool true) fun m14 => WPS PP 44 c_dictDecoder_readFlush_rrrr (retK PP r_dictDecoder_readFlush R) [(0, .pointer (some ⟨f, 1037, none⟩)), (2, .slice none 0 0), (3, .slice (subA a1 x4.toNat 1 k3) (x5.toNat - x4.toNat) (k3 - x4.toNat))] m14) (WPS PP 44 c_dictDecoder_readFlush_rrrr (retK PP r_dictDecoder_readFlush R) [(0, .pointer (some ⟨f, 1037, none⟩)), (2, .slice none 0 0), (3, .slice (subA a1 x4.toNat 1 k3) (x5.toNat - x4.toNat) (k3 - x4.toNat))] m7)  ) :
    CallM PP f_dictDecoder_readFlush #[.pointer (some ⟨f, 1037, none⟩)] m R :=
  callM_enter ffOk mixedOk 44 L_dictDecoder_readFlush Tryz.func67 b_dictDecoder_readFlush Tryz.ntmps67 (by simp) (Eq.mpr (by kernel_rfl) h)
def k_dictDecoder_readFlush_rrrr : List Nat := [3]
theorem p_dictDecoder_readFlush_rrrr (a1 : Option Addr) (l2 : Nat) (k3 : Nat) (m : Mem) (K : Kont)
    (h : K.kr [(2, .slice a1 l2 k3), (3, .slice a1 l2 k3)] m) :
    wpc PP FF 44 L_dictDecoder_readFlush c_dictDecoder_readFlush_rrrr K [(3, .slice a1 l2 k3)] m :=
  Eq.mpr (by kernel_rfl) h
def L_decompressor_finishBlock : List Nat := [0, 5, 10]
def r_decompressor_finishBlock : List ResultVar := []
noncomputable def c_decompressor_finishBlock : Code := (Go.Proofs.Tryz.f68.body).getD .skip
theorem b_decompressor_finishBlock : Go.Proofs.Tryz.f68.body = some c_decompressor_finishBlock := by kernel_rfl
noncomputable def c_decompressor_finishBlock_r : Code := (rgt c_decompressor_finishBlock)
noncomputable def c_decompressor_finishBlock_lrlr : Code := (rgt (lft (rgt (lft c_decompressor_finishBlock))))
theorem e_decompressor_finishBlock (f : Nat) (m : Mem) (R : Value → Mem → Prop)
    (h : ∃ b1, cell? m ⟨f, 1047, none⟩ = some (.bool b1) ∧ ifB b1 (CallM PP f_dictDecoder_availRead #[.pointer (some ⟨f, 1037, none⟩)] m fun v3 m4 => ∃ x2, v3 = .int .i64 x2 ∧ ifB (decide (x2 > 0)) (CallM PP f_dictDecoder_readFlush #[.pointer (some ⟨f, 1037, none⟩)] m4 fun v8 m9 => ∃ a5 l6 k7, v8 = .slice a5 l6 k7 ∧ StW m9 ⟨f, 1049, none⟩ (.slice a5 l6 k7) fun m10 => WPS PP 25 c_decompressor_finishBlock_lrlr ((retK PP r_decompressor_finishBlock R).withN fun r m => WPS PP 25 c_decompressor_finishBlock_r (retK PP r_decompressor_finishBlock R) r m) [(0, .pointer (some ⟨f, 0, none⟩))] m10) (WPS PP 25 c_decompressor_finishBlock_lrlr ((retK PP r_decompressor_finishBlock R).withN fun r m => WPS PP 25 c_decompressor_finishBlock_r (retK PP r_decompressor_finishBlock R) r m) [(0, .pointer (some ⟨f, 0, none⟩))] m4)) (WPS PP 25 c_decompressor_finishBlock_r (retK PP r_decompressor_finishBlock R) [(0, .pointer (some ⟨f, 0, none⟩))] m)  ) :
    CallM PP f_decompressor_finishBlock #[.pointer (some ⟨f, 0, none⟩)] m R :=
  callM_enter ffOk mixedOk 25 L_decompressor_finishBlock Tryz.func68 b_decompressor_finishBlock Tryz.ntmps68 (by simp) (Eq.mpr (by kernel_rfl) h)
def k_decompressor_finishBlock_r : List Nat := [0]
theorem p_decompressor_finishBlock_r (f : Nat) (m : Mem) (K : Kont)
    (h : StW m ⟨f, 1045, none⟩ (.func (.func f_decompressor_nextBlock) #[] #[]) fun m1 => K.kn [(0, .pointer (some ⟨f, 0, none⟩))] m1  ) :
    wpc PP FF 25 L_decompressor_finishBlock c_decompressor_finishBlock_r K [(0, .pointer (some ⟨f, 0, none⟩))] m :=
  Eq.mpr (by kernel_rfl) h
def k_decompressor_finishBlock_lrlr : List Nat := [0]
theorem p_decompressor_finishBlock_lrlr (f : Nat) (m : Mem) (K : Kont)
    (h : ∃ v1, cell? m ⟨g_io_EOF, 0, none⟩ = some (v1) ∧ StW m ⟨f, 1048, none⟩ v1 fun m2 => K.kn [(0, .pointer (some ⟨f, 0, none⟩))] m2  ) :
    wpc PP FF 25 L_decompressor_finishBlock c_decompressor_finishBlock_lrlr K [(0, .pointer (some ⟨f, 0, none⟩))] m :=
  Eq.mpr (by kernel_rfl) h
def L_decompressor_copyData : List Nat := [0, 2, 3, 4, 15, 53, 70]
def r_decompressor_copyData : List ResultVar := []
noncomputable def c_decompressor_copyData : Code := (Go.Proofs.Tryz.f69.body).getD .skip
theorem b_decompressor_copyData : Go.Proofs.Tryz.f69.body = some c_decompressor_copyData := by kernel_rfl
noncomputable def c_decompressor_copyData_rr : Code := (rgt (rgt c_decompressor_copyData))
theorem e_decompressor_copyData (f : Nat) (m : Mem) (R : Value → Mem → Prop)
    (h : CallM PP f_dictDecoder_writeSlice #[.pointer (some ⟨f, 1037, none⟩)] m fun v4 m5 => ∃ a1 l2 k3, v4 = .slice a1 l2 k3 ∧ ∃ x6, cell? m5 ⟨f, 1052, none⟩ = some (.int .i64 x6) ∧ ifB (decide ((l2 : Int) > x6)) (∃ x7, cell? m5 ⟨f, 1052, none⟩ = some (.int .i64 x7) ∧ l2 ≤ k3 ∧ (0 ≤ x7 ∧ x7 ≤ (k3 : Int)) ∧ WPS PP 83 c_decompressor_copyData_rr (retK PP r_decompressor_copyData R) [(0, .pointer (some ⟨f, 0, none⟩)), (2, .slice a1 x7.toNat k3)] m5) (WPS PP 83 c_decompressor_copyData_rr (retK PP r_decompressor_copyData R) [(0, .pointer (some ⟨f, 0, none⟩)), (2, .slice a1 l2 k3)] m5)  ) :
    CallM PP f_decompressor_copyData #[.pointer (some ⟨f, 0, none⟩)] m R :=
  callM_enter ffOk mixedOk 83 L_decompressor_copyData Tryz.func69 b_decompressor_copyData Tryz.ntmps69 (by simp) (Eq.mpr (by kernel_rfl) h)
def k_decompressor_copyData_rr : List Nat := [0, 2]
theorem p_decompressor_copyData_rr (f : Nat) (a1 : Option Addr) (l2 : Nat) (k3 : Nat) (m : Mem) (K : Kont)
    (h : ∃ v4, cell? m ⟨f, 0, none⟩ = some (v4) ∧ CallM PP f_io_ReadFull #[v4, .slice a1 l2 k3] m fun v7 m8 => ∃ x5 v6, v7 = .tuple #[.int .i64 x5, v6] ∧ ∃ x9, cell? m8 ⟨f, 2, none⟩ = some (.int .i64 x9) ∧ StW m8 ⟨f, 2, none⟩ (.int .i64 (IntKind.wrap .i64 (x9 + x5))) fun m10 => ∃ x11, cell? m10 ⟨f, 1052, none⟩ = some (.int .i64 x11) ∧ StW m10 ⟨f, 1052, none⟩ (.int .i64 (IntKind.wrap .i64 (x11 - x5))) fun m12 => CallM PP f_dictDecoder_writeMark #[.pointer (some ⟨f, 1037, none⟩), .int .i64 x5] m12 fun v13 m14 => v13 = .tuple #[] ∧ isIfc v6 = true ∧ ifB (!(isNil v6)) (CallM PP f_inflate_noEOF #[v6] m14 fun v16 m17 => ∃ v15, v16 = v15 ∧ StW m17 ⟨f, 1048, none⟩ v15 fun m18 => K.kr [(0, .pointer (some ⟨f, 0, none⟩)), (2, .slice a1 l2 k3), (3, .int .i64 x5), (4, v6)] m18) (CallM PP f_dictDecoder_availWrite #[.pointer (some ⟨f, 1037, none⟩)] m14 fun v20 m21 => ∃ x19, v20 = .int .i64 x19 ∧ ifB (x19 == 0) (CallM PP f_dictDecoder_readFlush #[.pointer (some ⟨f, 1037, none⟩)] m21 fun v25 m26 => ∃ a22 l23 k24, v25 = .slice a22 l23 k24 ∧ StW m26 ⟨f, 1049, none⟩ (.slice a22 l23 k24) fun m27 => StW m27 ⟨f, 1045, none⟩ (.func (.func f_decompressor_copyData) #[] #[]) fun m28 => K.kr [(0, .pointer (some ⟨f, 0, none⟩)), (2, .slice a1 l2 k3), (3, .int .i64 x5), (4, v6)] m28) (∃ x29, cell? m21 ⟨f, 1052, none⟩ = some (.int .i64 x29) ∧ ifB (decide (x29 > 0)) (CallM PP f_dictDecoder_readFlush #[.pointer (some ⟨f, 1037, none⟩)] m21 fun v33 m34 => ∃ a30 l31 k32, v33 = .slice a30 l31 k32 ∧ StW m34 ⟨f, 1049, none⟩ (.slice a30 l31 k32) fun m35 => StW m35 ⟨f, 1045, none⟩ (.func (.func f_decompressor_copyData) #[] #[]) fun m36 => K.kr [(0, .pointer (some ⟨f, 0, none⟩)), (2, .slice a1 l2 k3), (3, .int .i64 x5), (4, v6)] m36) (CallM PP f_decompressor_finishBlock #[.pointer (some ⟨f, 0, none⟩)] m21 fun v37 m38 => v37 = .tuple #[] ∧ K.kn [(0, .pointer (some ⟨f, 0, none⟩)), (2, .slice a1 l2 k3), (3, .int .i64 x5), (4, v6)] m38)))) :
    wpc PP FF 83 L_decompressor_copyData c_decompressor_copyData_rr K [(0, .pointer (some ⟨f, 0, none⟩)), (2, .slice a1 l2 k3)] m :=
  Eq.mpr (by kernel_rfl) h
def L_huffmanDecoder_init : List Nat := [0, 1, 4, 5, 6, 7, 9, 10, 11, 12, 13, 14, 15, 16, 17, 18, 19, 20, 21, 22, 23, 24, 25, 26, 27, 28, 29, 31, 33, 38, 42, 43, 44, 45, 49, 56, 60, 69, 73, 99, 105, 128, 149, 168, 169, 170, 171, 176, 200, 203, 217, 236, 258, 271, 281, 282, 283, 287, 294, 300, 301, 302, 303, 306, 307, 308, 309, 313]
def r_huffmanDecoder_init : List ResultVar := [.tmp 4]
noncomputable def c_huffmanDecoder_init : Code := (Go.Proofs.Tryz.f70.body).getD .skip
theorem b_huffmanDecoder_init : Go.Proofs.Tryz.f70.body = some c_huffmanDecoder_init := by kernel_rfl
noncomputable def c_huffmanDecoder_init_rr : Code := (rgt (rgt c_huffmanDecoder_init))
noncomputable def c_huffmanDecoder_init_rrrrr : Code := (rgt (rgt (rgt c_huffmanDecoder_init_rr)))
noncomputable def c_huffmanDecoder_init_rrrrlrl : Code := (lft (rgt (lft (rgt (rgt c_huffmanDecoder_init_rr)))))
noncomputable def c_huffmanDecoder_init_rrrrlrll : Code := (lft c_huffmanDecoder_init_rrrrlrl)
noncomputable def c_huffmanDecoder_init_rrrrrrrrr : Code := (rgt (rgt (rgt (rgt c_huffmanDecoder_init_rrrrr))))
noncomputable def c_huffmanDecoder_init_rrrrrrrrlrl : Code := (lft (rgt (lft (rgt (rgt (rgt c_huffmanDecoder_init_rrrrr))))))
noncomputable def c_huffmanDecoder_init_rrrrlrllrrr : Code := (rgt (rgt (rgt c_huffmanDecoder_init_rrrrlrll)))
noncomputable def c_huffmanDecoder_init_rrrrrrrrlrll : Code := (lft c_huffmanDecoder_init_rrrrrrrrlrl)
noncomputable def c_huffmanDecoder_init_rrrrrrrrrrrr : Code := (rgt (rgt (rgt c_huffmanDecoder_init_rrrrrrrrr)))
noncomputable def c_huffmanDecoder_init_rrrrrrrrrrrrr : Code := (rgt c_huffmanDecoder_init_rrrrrrrrrrrr)
noncomputable def c_huffmanDecoder_init_rrrrrrrrrrrrrr : Code := (rgt c_huffmanDecoder_init_rrrrrrrrrrrrr)
noncomputable def c_huffmanDecoder_init_rrrrrrrrrrrrlrl : Code := (lft (rgt (lft c_huffmanDecoder_init_rrrrrrrrrrrr)))
noncomputable def c_huffmanDecoder_init_rrrrlrllrrllrrr : Code := (rgt (rgt (rgt (lft (lft (rgt (rgt c_huffmanDecoder_init_rrrrlrll)))))))
noncomputable def c_huffmanDecoder_init_rrrrrrrrrrrrlrll : Code := (lft c_huffmanDecoder_init_rrrrrrrrrrrrlrl)
noncomputable def c_huffmanDecoder_init_rrrrlrllrrllrrrr : Code := (rgt c_huffmanDecoder_init_rrrrlrllrrllrrr)
noncomputable def c_huffmanDecoder_init_rrrrrrrrrrrrrlllrl : Code := (lft (rgt (lft (lft (lft c_huffmanDecoder_init_rrrrrrrrrrrrr)))))
noncomputable def c_huffmanDecoder_init_rrrrrrrrrrrrrllrrl : Code := (lft (rgt (rgt (lft (lft c_huffmanDecoder_init_rrrrrrrrrrrrr)))))
noncomputable def c_huffmanDecoder_init_rrrrrrrrrrrrrlllrll : Code := (lft c_huffmanDecoder_init_rrrrrrrrrrrrrlllrl)
noncomputable def c_huffmanDecoder_init_rrrrrrrrrrrrrllrrll : Code := (lft c_huffmanDecoder_init_rrrrrrrrrrrrrllrrl)
noncomputable def c_huffmanDecoder_init_rrrrrrrrrrrrlrllrrr : Code := (rgt (rgt (rgt c_huffmanDecoder_init_rrrrrrrrrrrrlrll)))
noncomputable def c_huffmanDecoder_init_rrrrrrrrrrrlrlrrrrrl : Code := (lft (rgt (rgt (rgt (rgt (rgt (lft (rgt (lft (rgt (rgt c_huffmanDecoder_init_rrrrrrrrr)))))))))))
noncomputable def c_huffmanDecoder_init_rrrrrrrrrrrlrlrrrrrll : Code := (lft c_huffmanDecoder_init_rrrrrrrrrrrlrlrrrrrl)
noncomputable def c_huffmanDecoder_init_rrrrrrrrrrrrrlllrllrrr : Code := (rgt (rgt (rgt c_huffmanDecoder_init_rrrrrrrrrrrrrlllrll)))
noncomputable def c_huffmanDecoder_init_rrrrrrrrrrrrrllrrllrrr : Code := (rgt (rgt (rgt c_huffmanDecoder_init_rrrrrrrrrrrrrllrrll)))
noncomputable def c_huffmanDecoder_init_rrrrrrrrrrrlrlrrrrrllrr : Code := (rgt (rgt c_huffmanDecoder_init_rrrrrrrrrrrlrlrrrrrll))
noncomputable def c_huffmanDecoder_init_rrrrrrrrrrrrrllrrllrrllrrl : Code := (lft (rgt (rgt (lft (lft (rgt (rgt c_huffmanDecoder_init_rrrrrrrrrrrrrllrrll)))))))
noncomputable def c_huffmanDecoder_init_rrrrrrrrrrrrrllrrllrrllrrll : Code := (lft c_huffmanDecoder_init_rrrrrrrrrrrrrllrrllrrllrrl)
noncomputable def c_huffmanDecoder_init_rrrrrrrrrrrlrlrrrrrllrllrrrr : Code := (rgt (rgt (rgt (rgt (lft (lft (rgt c_huffmanDecoder_init_rrrrrrrrrrrlrlrrrrrll)))))))
noncomputable def c_huffmanDecoder_init_rrrrrrrrrrrrrllrrllrrllrrllrrr : Code := (rgt (rgt (rgt c_huffmanDecoder_init_rrrrrrrrrrrrrllrrllrrllrrll)))
noncomputable def c_huffmanDecoder_init_rrrrrrrrrrrrlrllrrllrrrrrrrrlrl : Code := (lft (rgt (lft (rgt (rgt (rgt (rgt (rgt (rgt (rgt (rgt (lft (lft (rgt (rgt c_huffmanDecoder_init_rrrrrrrrrrrrlrll)))))))))))))))
noncomputable def c_huffmanDecoder_init_rrrrrrrrrrrrlrllrrllrrrrrrrrrrr : Code := (rgt (rgt (rgt (rgt (rgt (rgt (rgt (rgt (rgt (rgt (rgt (lft (lft (rgt (rgt c_huffmanDecoder_init_rrrrrrrrrrrrlrll)))))))))))))))
noncomputable def c_huffmanDecoder_init_rrrrrrrrrrrrlrllrrllrrrrrrrrlrll : Code := (lft c_huffmanDecoder_init_rrrrrrrrrrrrlrllrrllrrrrrrrrlrl)
noncomputable def c_huffmanDecoder_init_rrrrrrrrrrrrlrllrrllrrrrrrrrlrllrr : Code := (rgt (rgt c_huffmanDecoder_init_rrrrrrrrrrrrlrllrrllrrrrrrrrlrll))
noncomputable def c_huffmanDecoder_init_rrrrrrrrrrrrlrllrrllrrrrrrrrrrrrrrrl : Code := (lft (rgt (rgt (rgt (rgt c_huffmanDecoder_init_rrrrrrrrrrrrlrllrrllrrrrrrrrrrr)))))
noncomputable def c_huffmanDecoder_init_rrrrrrrrrrrrlrllrrllrrrrrrrrlrllrllr : Code := (rgt (lft (lft (rgt c_huffmanDecoder_init_rrrrrrrrrrrrlrllrrllrrrrrrrrlrll))))
noncomputable def c_huffmanDecoder_init_rrrrrrrrrrrrlrllrrllrrrrrrrrrrrrrrrll : Code := (lft c_huffmanDecoder_init_rrrrrrrrrrrrlrllrrllrrrrrrrrrrrrrrrl)
noncomputable def c_huffmanDecoder_init_rrrrrrrrrrrrlrllrrllrrrrrrrrrrrrrrrllrr : Code := (rgt (rgt c_huffmanDecoder_init_rrrrrrrrrrrrlrllrrllrrrrrrrrrrrrrrrll))
noncomputable def c_huffmanDecoder_init_rrrrrrrrrrrrlrllrrllrrrrrrrrrrrrrrrllrllr : Code := (rgt (lft (lft (rgt c_huffmanDecoder_init_rrrrrrrrrrrrlrllrrllrrrrrrrrrrrrrrrll))))
theorem q_huffmanDecoder_init_rrrrlrl : c_huffmanDecoder_init_rrrrlrl = .loop c_huffmanDecoder_init_rrrrlrll := by kernel_rfl
theorem q_huffmanDecoder_init_rrrrrrrrlrl : c_huffmanDecoder_init_rrrrrrrrlrl = .loop c_huffmanDecoder_init_rrrrrrrrlrll := by kernel_rfl
theorem q_huffmanDecoder_init_rrrrrrrrrrrrlrl : c_huffmanDecoder_init_rrrrrrrrrrrrlrl = .loop c_huffmanDecoder_init_rrrrrrrrrrrrlrll := by kernel_rfl
theorem q_huffmanDecoder_init_rrrrrrrrrrrrrlllrl : c_huffmanDecoder_init_rrrrrrrrrrrrrlllrl = .loop c_huffmanDecoder_init_rrrrrrrrrrrrrlllrll := by kernel_rfl
theorem q_huffmanDecoder_init_rrrrrrrrrrrrrllrrl : c_huffmanDecoder_init_rrrrrrrrrrrrrllrrl = .loop c_huffmanDecoder_init_rrrrrrrrrrrrrllrrll := by kernel_rfl
theorem q_huffmanDecoder_init_rrrrrrrrrrrlrlrrrrrl : c_huffmanDecoder_init_rrrrrrrrrrrlrlrrrrrl = .loop c_huffmanDecoder_init_rrrrrrrrrrrlrlrrrrrll := by kernel_rfl
theorem q_huffmanDecoder_init_rrrrrrrrrrrrrllrrllrrllrrl : c_huffmanDecoder_init_rrrrrrrrrrrrrllrrllrrllrrl = .loop c_huffmanDecoder_init_rrrrrrrrrrrrrllrrllrrllrrll := by kernel_rfl
theorem q_huffmanDecoder_init_rrrrrrrrrrrrlrllrrllrrrrrrrrlrl : c_huffmanDecoder_init_rrrrrrrrrrrrlrllrrllrrrrrrrrlrl = .loop c_huffmanDecoder_init_rrrrrrrrrrrrlrllrrllrrrrrrrrlrll := by kernel_rfl
theorem q_huffmanDecoder_init_rrrrrrrrrrrrlrllrrllrrrrrrrrrrrrrrrl : c_huffmanDecoder_init_rrrrrrrrrrrrlrllrrllrrrrrrrrrrrrrrrl = .loop c_huffmanDecoder_init_rrrrrrrrrrrrlrllrrllrrrrrrrrrrrrrrrll := by kernel_rfl
theorem e_huffmanDecoder_init (b o : Nat) (a1 : Option Addr) (l2 : Nat) (k3 : Nat) (m : Mem) (R : Value → Mem → Prop)
    (h : ∃ x4, cell? m ⟨b, o, none⟩ = some (.int .i64 x4) ∧ ifB (x4 != 0) (StAgg PP t_flate_huffmanDecoder m ⟨b, o, none⟩ (zeroV PP t_flate_huffmanDecoder) fun m5 => WPS PP 317 c_huffmanDecoder_init_rr (retK PP r_huffmanDecoder_init R) [(0, .pointer (some ⟨b, o, none⟩)), (1, .slice a1 l2 k3), (4, .bool false)] m5) (WPS PP 317 c_huffmanDecoder_init_rr (retK PP r_huffmanDecoder_init R) [(0, .pointer (some ⟨b, o, none⟩)), (1, .slice a1 l2 k3), (4, .bool false)] m)) :
    CallM PP f_huffmanDecoder_init #[.pointer (some ⟨b, o, none⟩), .slice a1 l2 k3] m R :=
  callM_enter ffOk mixedOk 317 L_huffmanDecoder_init Tryz.func70 b_huffmanDecoder_init Tryz.ntmps70 (by simp) (Eq.mpr (by kernel_rfl) h)
def k_huffmanDecoder_init_rr : List Nat := [0, 1]
theorem p_huffmanDecoder_init_rr (b o : Nat) (a1 : Option Addr) (l2 : Nat) (k3 : Nat) (m : Mem) (K : Kont)
    (h : AllocW PP t_16_int m fun n4 m5 => WPS PP 317 c_huffmanDecoder_init_rrrrlrl ((K.withN fun r m => WPS PP 317 c_huffmanDecoder_init_rrrrr K r m).withX 0) [(0, .pointer (some ⟨b, o, none⟩)), (1, .slice a1 l2 k3), (5, .pointer (some ⟨n4, 0, none⟩)), (6, .int .i64 0), (7, .int .i64 0), (42, .slice a1 l2 k3), (43, .int .i64 (l2 : Int)), (44, .int .i64 0)] m5) :
    wpc PP FF 317 L_huffmanDecoder_init c_huffmanDecoder_init_rr K [(0, .pointer (some ⟨b, o, none⟩)), (1, .slice a1 l2 k3)] m :=
  Eq.mpr (by kernel_rfl) h
theorem p_huffmanDecoder_init_rrrrlrll (b o : Nat) (a1 : Option Addr) (l2 : Nat) (k3 : Nat) (n4 : Nat) (x5 : Int) (x6 : Int) (a7 : Option Addr) (l8 : Nat) (k9 : Nat) (x10 : Int) (x11 : Int) (m : Mem) (K : Kont)
    (h : ifB (decide (x11 < x10)) (onSome a7 fun p12 => (0 ≤ x11 ∧ x11 < (l8 : Int)) ∧ ∃ x13, cell? m (aplus p12 x11.toNat) = some (.int .i64 x13) ∧ ifB (x13 == 0) (WPS PP 317 c_huffmanDecoder_init_rrrrlrllrrr K [(0, .pointer (some ⟨b, o, none⟩)), (1, .slice a1 l2 k3), (5, .pointer (some ⟨n4, 0, none⟩)), (6, .int .i64 x5), (7, .int .i64 x6), (9, .int .i64 x13), (42, .slice a7 l8 k9), (43, .int .i64 x10), (44, .int .i64 x11)] m) (ifB (x5 == 0) (WPS PP 317 c_huffmanDecoder_init_rrrrlrllrrllrrr ((K.withN fun r m => WPS PP 317 c_huffmanDecoder_init_rrrrlrllrrr K r m).withX 1) [(0, .pointer (some ⟨b, o, none⟩)), (1, .slice a1 l2 k3), (5, .pointer (some ⟨n4, 0, none⟩)), (6, .int .i64 x13), (7, .int .i64 x6), (9, .int .i64 x13), (42, .slice a7 l8 k9), (43, .int .i64 x10), (44, .int .i64 x11)] m) (ifB (decide (x13 < x5)) (WPS PP 317 c_huffmanDecoder_init_rrrrlrllrrllrrr ((K.withN fun r m => WPS PP 317 c_huffmanDecoder_init_rrrrlrllrrr K r m).withX 1) [(0, .pointer (some ⟨b, o, none⟩)), (1, .slice a1 l2 k3), (5, .pointer (some ⟨n4, 0, none⟩)), (6, .int .i64 x13), (7, .int .i64 x6), (9, .int .i64 x13), (42, .slice a7 l8 k9), (43, .int .i64 x10), (44, .int .i64 x11)] m) (WPS PP 317 c_huffmanDecoder_init_rrrrlrllrrllrrr ((K.withN fun r m => WPS PP 317 c_huffmanDecoder_init_rrrrlrllrrr K r m).withX 1) [(0, .pointer (some ⟨b, o, none⟩)), (1, .slice a1 l2 k3), (5, .pointer (some ⟨n4, 0, none⟩)), (6, .int .i64 x5), (7, .int .i64 x6), (9, .int .i64 x13), (42, .slice a7 l8 k9), (43, .int .i64 x10), (44, .int .i64 x11)] m)))) (K.kx 0 [(0, .pointer (some ⟨b, o, none⟩)), (1, .slice a1 l2 k3), (5, .pointer (some ⟨n4, 0, none⟩)), (6, .int .i64 x5), (7, .int .i64 x6), (42, .slice a7 l8 k9), (43, .int .i64 x10), (44, .int .i64 x11)] m)) :
    wpc PP FF 317 L_huffmanDecoder_init c_huffmanDecoder_init_rrrrlrll K [(0, .pointer (some ⟨b, o, none⟩)), (1, .slice a1 l2 k3), (5, .pointer (some ⟨n4, 0, none⟩)), (6, .int .i64 x5), (7, .int .i64 x6), (42, .slice a7 l8 k9), (43, .int .i64 x10), (44, .int .i64 x11)] m :=
  Eq.mpr (by kernel_rfl) h
theorem p_huffmanDecoder_init_rrrrrrrrlrll (b o : Nat) (a1 : Option Addr) (l2 : Nat) (k3 : Nat) (n4 : Nat) (x5 : Int) (x6 : Int) (x7 : Int) (n8 : Nat) (x9 : Int) (m : Mem) (K : Kont)
    (h : ifB (decide (x9 ≤ x6)) (0 ≤ (1 : Int) ∧ (0 ≤ x9 ∧ x9 < ((16 : Nat) : Int)) ∧ StW m ⟨n8, 0 + x9.toNat, none⟩ (.int .i64 (shlOp .i64 x7 1)) fun m10 => (0 ≤ x9 ∧ x9 < ((16 : Nat) : Int)) ∧ ∃ x11, cell? m10 ⟨n4, 0 + x9.toNat, none⟩ = some (.int .i64 x11) ∧ K.kn [(0, .pointer (some ⟨b, o, none⟩)), (1, .slice a1 l2 k3), (5, .pointer (some ⟨n4, 0, none⟩)), (6, .int .i64 x5), (7, .int .i64 x6), (10, .int .i64 (IntKind.wrap .i64 ((shlOp .i64 x7 1) + x11))), (11, .pointer (some ⟨n8, 0, none⟩)), (12, .int .i64 (IntKind.wrap .i64 (x9 + 1)))] m10) (K.kx 2 [(0, .pointer (some ⟨b, o, none⟩)), (1, .slice a1 l2 k3), (5, .pointer (some ⟨n4, 0, none⟩)), (6, .int .i64 x5), (7, .int .i64 x6), (10, .int .i64 x7), (11, .pointer (some ⟨n8, 0, none⟩)), (12, .int .i64 x9)] m)) :
    wpc PP FF 317 L_huffmanDecoder_init c_huffmanDecoder_init_rrrrrrrrlrll K [(0, .pointer (some ⟨b, o, none⟩)), (1, .slice a1 l2 k3), (5, .pointer (some ⟨n4, 0, none⟩)), (6, .int .i64 x5), (7, .int .i64 x6), (10, .int .i64 x7), (11, .pointer (some ⟨n8, 0, none⟩)), (12, .int .i64 x9)] m :=
  Eq.mpr (by kernel_rfl) h
theorem p_huffmanDecoder_init_rrrrrrrrrrrrlrll (b o : Nat) (x1 : Int) (n2 : Nat) (a3 : Option Addr) (l4 : Nat) (k5 : Nat) (x6 : Int) (x7 : Int) (m : Mem) (K : Kont)
    (h : ifB (decide (x7 < x6)) (onSome a3 fun p8 => (0 ≤ x7 ∧ x7 < (l4 : Int)) ∧ ∃ x9, cell? m (aplus p8 x7.toNat) = some (.int .i64 x9) ∧ ifB (x9 == 0) (WPS PP 317 c_huffmanDecoder_init_rrrrrrrrrrrrlrllrrr K [(0, .pointer (some ⟨b, o, none⟩)), (10, .int .i64 x1), (11, .pointer (some ⟨n2, 0, none⟩)), (18, .int .i64 x7), (19, .int .i64 x9), (168, .slice a3 l4 k5), (169, .int .i64 x6), (170, .int .i64 x7)] m) ((0 ≤ x9 ∧ x9 < ((16 : Nat) : Int)) ∧ ∃ x10, cell? m ⟨n2, 0 + x9.toNat, none⟩ = some (.int .i64 x10) ∧ (0 ≤ x9 ∧ x9 < ((16 : Nat) : Int)) ∧ ∃ x11, cell? m ⟨n2, 0 + x9.toNat, none⟩ = some (.int .i64 x11) ∧ (0 ≤ x9 ∧ x9 < ((16 : Nat) : Int)) ∧ StW m ⟨n2, 0 + x9.toNat, none⟩ (.int .i64 (IntKind.wrap .i64 (x11 + 1))) fun m12 => 0 ≤ (4 : Int) ∧ IntKind.i64 = IntKind.i64 ∧ CallM PP f_bits_Reverse16 #[.int .u16 (IntKind.wrap .u16 x10)] m12 fun v14 m15 => ∃ x13, v14 = .int .u16 x13 ∧ 0 ≤ (IntKind.wrap .u64 (IntKind.wrap .i64 (16 - x9))) ∧ ifB (decide (x9 ≤ 9)) (WPS PP 317 c_huffmanDecoder_init_rrrrrrrrrrrrlrllrrllrrrrrrrrlrl (((K.withN fun r m => WPS PP 317 c_huffmanDecoder_init_rrrrrrrrrrrrlrllrrr K r m).withX 7).withX 8) [(0, .pointer (some ⟨b, o, none⟩)), (10, .int .i64 x1), (11, .pointer (some ⟨n2, 0, none⟩)), (18, .int .i64 x7), (19, .int .i64 x9), (20, .int .i64 x10), (21, .int .u32 (IntKind.wrap .u32 (bitsOp .or .i64 (shlOp .i64 x7 4) x9))), (22, .int .i64 (shrOp .i64 (IntKind.wrap .i64 x13) (IntKind.wrap .u64 (IntKind.wrap .i64 (16 - x9))))), (23, .int .i64 (shrOp .i64 (IntKind.wrap .i64 x13) (IntKind.wrap .u64 (IntKind.wrap .i64 (16 - x9))))), (168, .slice a3 l4 k5), (169, .int .i64 x6), (170, .int .i64 x7)] m15) (IntKind.i64 = IntKind.i64 ∧ WPS PP 317 c_huffmanDecoder_init_rrrrrrrrrrrrlrllrrllrrrrrrrrrrr ((K.withN fun r m => WPS PP 317 c_huffmanDecoder_init_rrrrrrrrrrrrlrllrrr K r m).withX 7) [(0, .pointer (some ⟨b, o, none⟩)), (10, .int .i64 x1), (11, .pointer (some ⟨n2, 0, none⟩)), (18, .int .i64 x7), (19, .int .i64 x9), (20, .int .i64 x10), (21, .int .u32 (IntKind.wrap .u32 (bitsOp .or .i64 (shlOp .i64 x7 4) x9))), (22, .int .i64 (shrOp .i64 (IntKind.wrap .i64 x13) (IntKind.wrap .u64 (IntKind.wrap .i64 (16 - x9))))), (24, .int .i64 (bitsOp .and .i64 (shrOp .i64 (IntKind.wrap .i64 x13) (IntKind.wrap .u64 (IntKind.wrap .i64 (16 - x9)))) 511)), (168, .slice a3 l4 k5), (169, .int .i64 x6), (170, .int .i64 x7)] m15))) (K.kx 6 [(0, .pointer (some ⟨b, o, none⟩)), (10, .int .i64 x1), (11, .pointer (some ⟨n2, 0, none⟩)), (168, .slice a3 l4 k5), (169, .int .i64 x6), (170, .int .i64 x7)] m)) :
    wpc PP FF 317 L_huffmanDecoder_init c_huffmanDecoder_init_rrrrrrrrrrrrlrll K [(0, .pointer (some ⟨b, o, none⟩)), (10, .int .i64 x1), (11, .pointer (some ⟨n2, 0, none⟩)), (168, .slice a3 l4 k5), (169, .int .i64 x6), (170, .int .i64 x7)] m :=
  Eq.mpr (by kernel_rfl) h
theorem p_huffmanDecoder_init_rrrrrrrrrrrrrlllrll (b o : Nat) (x1 : Int) (v2 : Value) (x3 : Int) (m : Mem) (K : Kont)
    (h : ifB (decide (x3 < 512)) (PureW PP (Instr.index t_512_uint32 v2 (.int .i64 x3)) fun u5 => ∃ x4, u5 = .int .u32 x4 ∧ ifB (x4 == 0) (ifB (x1 == 1) (IntKind.i64 = IntKind.i64 ∧ (2 : Int) ≠ 0 ∧ ifB ((Int.tmod x3 2) == 1) (WPS PP 317 c_huffmanDecoder_init_rrrrrrrrrrrrrlllrllrrr K [(0, .pointer (some ⟨b, o, none⟩)), (10, .int .i64 x1), (28, .int .i64 x3), (29, .int .u32 x4), (281, v2), (282, .int .i64 x3)] m) (False)) (False)) (WPS PP 317 c_huffmanDecoder_init_rrrrrrrrrrrrrlllrllrrr K [(0, .pointer (some ⟨b, o, none⟩)), (10, .int .i64 x1), (28, .int .i64 x3), (29, .int .u32 x4), (281, v2), (282, .int .i64 x3)] m)) (K.kx 12 [(0, .pointer (some ⟨b, o, none⟩)), (10, .int .i64 x1), (281, v2), (282, .int .i64 x3)] m)) :
    wpc PP FF 317 L_huffmanDecoder_init c_huffmanDecoder_init_rrrrrrrrrrrrrlllrll K [(0, .pointer (some ⟨b, o, none⟩)), (10, .int .i64 x1), (281, v2), (282, .int .i64 x3)] m :=
  Eq.mpr (by kernel_rfl) h
theorem p_huffmanDecoder_init_rrrrrrrrrrrrrllrrll (a1 : Option Addr) (l2 : Nat) (k3 : Nat) (x4 : Int) (x5 : Int) (m : Mem) (K : Kont)
    (h : ifB (decide (x5 < x4)) (onSome a1 fun p6 => (0 ≤ x5 ∧ x5 < (l2 : Int)) ∧ ∃ a7 l8 k9, cell? m (aplus p6 x5.toNat) = some (.slice a7 l8 k9) ∧ WPS PP 317 c_huffmanDecoder_init_rrrrrrrrrrrrrllrrllrrllrrl (((K.withN fun r m => WPS PP 317 c_huffmanDecoder_init_rrrrrrrrrrrrrllrrllrrr K r m).withX 15).withX 16) [(31, .slice a7 l8 k9), (300, .slice a1 l2 k3), (301, .int .i64 x4), (302, .int .i64 x5), (306, .slice a7 l8 k9), (307, .int .i64 (l8 : Int)), (308, .int .i64 0)] m) (K.kx 14 [(300, .slice a1 l2 k3), (301, .int .i64 x4), (302, .int .i64 x5)] m)) :
    wpc PP FF 317 L_huffmanDecoder_init c_huffmanDecoder_init_rrrrrrrrrrrrrllrrll K [(300, .slice a1 l2 k3), (301, .int .i64 x4), (302, .int .i64 x5)] m :=
  Eq.mpr (by kernel_rfl) h
theorem p_huffmanDecoder_init_rrrrrrrrrrrlrlrrrrrll (b o : Nat) (a1 : Option Addr) (l2 : Nat) (k3 : Nat) (x4 : Int) (n5 : Nat) (x6 : Int) (x7 : Int) (x8 : Int) (m : Mem) (K : Kont)
    (h : ifB (decide (x8 < 512)) (CallM PP f_bits_Reverse16 #[.int .u16 (IntKind.wrap .u16 x8)] m fun v10 m11 => ∃ x9, v10 = .int .u16 x9 ∧ 0 ≤ (7 : Int) ∧ WPS PP 317 c_huffmanDecoder_init_rrrrrrrrrrrlrlrrrrrllrllrrrr ((K.withN fun r m => wpc PP FF 317 L_huffmanDecoder_init c_huffmanDecoder_init_rrrrrrrrrrrlrlrrrrrllrr K r m).withX 5) [(0, .pointer (some ⟨b, o, none⟩)), (1, .slice a1 l2 k3), (10, .int .i64 x4), (11, .pointer (some ⟨n5, 0, none⟩)), (13, .int .i64 x6), (14, .int .i64 x7), (15, .int .u64 x8), (16, .int .i64 (shrOp .i64 (IntKind.wrap .i64 x9) 7)), (17, .int .u64 (IntKind.wrap .u64 (x8 - (IntKind.wrap .u64 x7))))] m11) (K.kx 4 [(0, .pointer (some ⟨b, o, none⟩)), (1, .slice a1 l2 k3), (10, .int .i64 x4), (11, .pointer (some ⟨n5, 0, none⟩)), (13, .int .i64 x6), (14, .int .i64 x7), (15, .int .u64 x8)] m)) :
    wpc PP FF 317 L_huffmanDecoder_init c_huffmanDecoder_init_rrrrrrrrrrrlrlrrrrrll K [(0, .pointer (some ⟨b, o, none⟩)), (1, .slice a1 l2 k3), (10, .int .i64 x4), (11, .pointer (some ⟨n5, 0, none⟩)), (13, .int .i64 x6), (14, .int .i64 x7), (15, .int .u64 x8)] m :=
  Eq.mpr (by kernel_rfl) h
theorem p_huffmanDecoder_init_rrrrrrrrrrrrrllrrllrrllrrll (a1 : Option Addr) (l2 : Nat) (k3 : Nat) (x4 : Int) (x5 : Int) (a6 : Option Addr) (l7 : Nat) (k8 : Nat) (x9 : Int) (x10 : Int) (m : Mem) (K : Kont)
    (h : ifB (decide (x10 < x9)) (onSome a6 fun p11 => (0 ≤ x10 ∧ x10 < (l7 : Int)) ∧ ∃ x12, cell? m (aplus p11 x10.toNat) = some (.int .u32 x12) ∧ ifB (x12 == 0) (False) (WPS PP 317 c_huffmanDecoder_init_rrrrrrrrrrrrrllrrllrrllrrllrrr K [(33, .int .u32 x12), (300, .slice a1 l2 k3), (301, .int .i64 x4), (302, .int .i64 x5), (306, .slice a6 l7 k8), (307, .int .i64 x9), (308, .int .i64 x10)] m)) (K.kx 16 [(300, .slice a1 l2 k3), (301, .int .i64 x4), (302, .int .i64 x5), (306, .slice a6 l7 k8), (307, .int .i64 x9), (308, .int .i64 x10)] m)) :
    wpc PP FF 317 L_huffmanDecoder_init c_huffmanDecoder_init_rrrrrrrrrrrrrllrrllrrllrrll K [(300, .slice a1 l2 k3), (301, .int .i64 x4), (302, .int .i64 x5), (306, .slice a6 l7 k8), (307, .int .i64 x9), (308, .int .i64 x10)] m :=
  Eq.mpr (by kernel_rfl) h
theorem p_huffmanDecoder_init_rrrrrrrrrrrrlrllrrllrrrrrrrrlrll (b o : Nat) (x1 : Int) (n2 : Nat) (x3 : Int) (x4 : Int) (x5 : Int) (a6 : Option Addr) (l7 : Nat) (k8 : Nat) (x9 : Int) (x10 : Int) (m : Mem) (K : Kont)
    (h : ifB (decide (x5 < 512)) (WPS PP 317 c_huffmanDecoder_init_rrrrrrrrrrrrlrllrrllrrrrrrrrlrllrllr ((K.withN fun r m => wpc PP FF 317 L_huffmanDecoder_init c_huffmanDecoder_init_rrrrrrrrrrrrlrllrrllrrrrrrrrlrllrr K r m).withX 9) [(0, .pointer (some ⟨b, o, none⟩)), (10, .int .i64 x1), (11, .pointer (some ⟨n2, 0, none⟩)), (19, .int .i64 x3), (21, .int .u32 x4), (23, .int .i64 x5), (168, .slice a6 l7 k8), (169, .int .i64 x9), (170, .int .i64 x10)] m) (K.kx 8 [(0, .pointer (some ⟨b, o, none⟩)), (10, .int .i64 x1), (11, .pointer (some ⟨n2, 0, none⟩)), (19, .int .i64 x3), (21, .int .u32 x4), (23, .int .i64 x5), (168, .slice a6 l7 k8), (169, .int .i64 x9), (170, .int .i64 x10)] m)) :
    wpc PP FF 317 L_huffmanDecoder_init c_huffmanDecoder_init_rrrrrrrrrrrrlrllrrllrrrrrrrrlrll K [(0, .pointer (some ⟨b, o, none⟩)), (10, .int .i64 x1), (11, .pointer (some ⟨n2, 0, none⟩)), (19, .int .i64 x3), (21, .int .u32 x4), (23, .int .i64 x5), (168, .slice a6 l7 k8), (169, .int .i64 x9), (170, .int .i64 x10)] m :=
  Eq.mpr (by kernel_rfl) h
theorem p_huffmanDecoder_init_rrrrrrrrrrrrlrllrrllrrrrrrrrrrrrrrrll (b o : Nat) (x1 : Int) (n2 : Nat) (x3 : Int) (x4 : Int) (a5 : Option Addr) (l6 : Nat) (k7 : Nat) (x8 : Int) (a9 : Option Addr) (l10 : Nat) (k11 : Nat) (x12 : Int) (x13 : Int) (m : Mem) (K : Kont)
    (h : ifB (decide (x8 < (l6 : Int))) (WPS PP 317 c_huffmanDecoder_init_rrrrrrrrrrrrlrllrrllrrrrrrrrrrrrrrrllrllr ((K.withN fun r m => wpc PP FF 317 L_huffmanDecoder_init c_huffmanDecoder_init_rrrrrrrrrrrrlrllrrllrrrrrrrrrrrrrrrllrr K r m).withX 11) [(0, .pointer (some ⟨b, o, none⟩)), (10, .int .i64 x1), (11, .pointer (some ⟨n2, 0, none⟩)), (19, .int .i64 x3), (21, .int .u32 x4), (26, .slice a5 l6 k7), (27, .int .i64 x8), (168, .slice a9 l10 k11), (169, .int .i64 x12), (170, .int .i64 x13)] m) (K.kx 10 [(0, .pointer (some ⟨b, o, none⟩)), (10, .int .i64 x1), (11, .pointer (some ⟨n2, 0, none⟩)), (19, .int .i64 x3), (21, .int .u32 x4), (26, .slice a5 l6 k7), (27, .int .i64 x8), (168, .slice a9 l10 k11), (169, .int .i64 x12), (170, .int .i64 x13)] m)) :
    wpc PP FF 317 L_huffmanDecoder_init c_huffmanDecoder_init_rrrrrrrrrrrrlrllrrllrrrrrrrrrrrrrrrll K [(0, .pointer (some ⟨b, o, none⟩)), (10, .int .i64 x1), (11, .pointer (some ⟨n2, 0, none⟩)), (19, .int .i64 x3), (21, .int .u32 x4), (26, .slice a5 l6 k7), (27, .int .i64 x8), (168, .slice a9 l10 k11), (169, .int .i64 x12), (170, .int .i64 x13)] m :=
  Eq.mpr (by kernel_rfl) h
def k_huffmanDecoder_init_rrrrr : List Nat := [0, 1, 5, 6, 7]
theorem p_huffmanDecoder_init_rrrrr (b o : Nat) (a1 : Option Addr) (l2 : Nat) (k3 : Nat) (n4 : Nat) (x5 : Int) (x6 : Int) (m : Mem) (K : Kont)
    (h : ifB (x6 == 0) (K.kr [(0, .pointer (some ⟨b, o, none⟩)), (1, .slice a1 l2 k3), (4, .bool true), (5, .pointer (some ⟨n4, 0, none⟩)), (6, .int .i64 x5), (7, .int .i64 x6)] m) (AllocW PP t_16_int m fun n7 m8 => WPS PP 317 c_huffmanDecoder_init_rrrrrrrrlrl ((K.withN fun r m => WPS PP 317 c_huffmanDecoder_init_rrrrrrrrr K r m).withX 2) [(0, .pointer (some ⟨b, o, none⟩)), (1, .slice a1 l2 k3), (5, .pointer (some ⟨n4, 0, none⟩)), (6, .int .i64 x5), (7, .int .i64 x6), (10, .int .i64 0), (11, .pointer (some ⟨n7, 0, none⟩)), (12, .int .i64 x5)] m8)) :
    wpc PP FF 317 L_huffmanDecoder_init c_huffmanDecoder_init_rrrrr K [(0, .pointer (some ⟨b, o, none⟩)), (1, .slice a1 l2 k3), (5, .pointer (some ⟨n4, 0, none⟩)), (6, .int .i64 x5), (7, .int .i64 x6)] m :=
  Eq.mpr (by kernel_rfl) h
def k_huffmanDecoder_init_rrrrlrllrrr : List Nat := [0, 1, 5, 6, 7, 42, 43, 44]
theorem p_huffmanDecoder_init_rrrrlrllrrr (b o : Nat) (a1 : Option Addr) (l2 : Nat) (k3 : Nat) (n4 : Nat) (x5 : Int) (x6 : Int) (a7 : Option Addr) (l8 : Nat) (k9 : Nat) (x10 : Int) (x11 : Int) (m : Mem) (K : Kont)
    (h : K.kn [(0, .pointer (some ⟨b, o, none⟩)), (1, .slice a1 l2 k3), (5, .pointer (some ⟨n4, 0, none⟩)), (6, .int .i64 x5), (7, .int .i64 x6), (42, .slice a7 l8 k9), (43, .int .i64 x10), (44, .int .i64 (IntKind.wrap .i64 (x11 + 1)))] m) :
    wpc PP FF 317 L_huffmanDecoder_init c_huffmanDecoder_init_rrrrlrllrrr K [(0, .pointer (some ⟨b, o, none⟩)), (1, .slice a1 l2 k3), (5, .pointer (some ⟨n4, 0, none⟩)), (6, .int .i64 x5), (7, .int .i64 x6), (42, .slice a7 l8 k9), (43, .int .i64 x10), (44, .int .i64 x11)] m :=
  Eq.mpr (by kernel_rfl) h
def k_huffmanDecoder_init_rrrrlrllrrllrrr : List Nat := [0, 1, 5, 6, 7, 9, 42, 43, 44]
theorem p_huffmanDecoder_init_rrrrlrllrrllrrr (b o : Nat) (a1 : Option Addr) (l2 : Nat) (k3 : Nat) (n4 : Nat) (x5 : Int) (x6 : Int) (x7 : Int) (a8 : Option Addr) (l9 : Nat) (k10 : Nat) (x11 : Int) (x12 : Int) (m : Mem) (K : Kont)
    (h : ifB (decide (x7 > x6)) (WPS PP 317 c_huffmanDecoder_init_rrrrlrllrrllrrrr K [(0, .pointer (some ⟨b, o, none⟩)), (1, .slice a1 l2 k3), (5, .pointer (some ⟨n4, 0, none⟩)), (6, .int .i64 x5), (7, .int .i64 x7), (9, .int .i64 x7), (42, .slice a8 l9 k10), (43, .int .i64 x11), (44, .int .i64 x12)] m) (WPS PP 317 c_huffmanDecoder_init_rrrrlrllrrllrrrr K [(0, .pointer (some ⟨b, o, none⟩)), (1, .slice a1 l2 k3), (5, .pointer (some ⟨n4, 0, none⟩)), (6, .int .i64 x5), (7, .int .i64 x6), (9, .int .i64 x7), (42, .slice a8 l9 k10), (43, .int .i64 x11), (44, .int .i64 x12)] m)) :
    wpc PP FF 317 L_huffmanDecoder_init c_huffmanDecoder_init_rrrrlrllrrllrrr K [(0, .pointer (some ⟨b, o, none⟩)), (1, .slice a1 l2 k3), (5, .pointer (some ⟨n4, 0, none⟩)), (6, .int .i64 x5), (7, .int .i64 x6), (9, .int .i64 x7), (42, .slice a8 l9 k10), (43, .int .i64 x11), (44, .int .i64 x12)] m :=
  Eq.mpr (by kernel_rfl) h
def k_huffmanDecoder_init_rrrrrrrrrrrrlrllrrr : List Nat := [0, 10, 11, 168, 169, 170]
theorem p_huffmanDecoder_init_rrrrrrrrrrrrlrllrrr (b o : Nat) (x1 : Int) (n2 : Nat) (a3 : Option Addr) (l4 : Nat) (k5 : Nat) (x6 : Int) (x7 : Int) (m : Mem) (K : Kont)
    (h : K.kn [(0, .pointer (some ⟨b, o, none⟩)), (10, .int .i64 x1), (11, .pointer (some ⟨n2, 0, none⟩)), (168, .slice a3 l4 k5), (169, .int .i64 x6), (170, .int .i64 (IntKind.wrap .i64 (x7 + 1)))] m) :
    wpc PP FF 317 L_huffmanDecoder_init c_huffmanDecoder_init_rrrrrrrrrrrrlrllrrr K [(0, .pointer (some ⟨b, o, none⟩)), (10, .int .i64 x1), (11, .pointer (some ⟨n2, 0, none⟩)), (168, .slice a3 l4 k5), (169, .int .i64 x6), (170, .int .i64 x7)] m :=
  Eq.mpr (by kernel_rfl) h
theorem p_huffmanDecoder_init_rrrrrrrrrrrrrlllrllrrr (b o : Nat) (x1 : Int) (v2 : Value) (x3 : Int) (m : Mem) (K : Kont)
    (h : K.kn [(0, .pointer (some ⟨b, o, none⟩)), (10, .int .i64 x1), (281, v2), (282, .int .i64 (IntKind.wrap .i64 (x3 + 1)))] m) :
    wpc PP FF 317 L_huffmanDecoder_init c_huffmanDecoder_init_rrrrrrrrrrrrrlllrllrrr K [(0, .pointer (some ⟨b, o, none⟩)), (10, .int .i64 x1), (281, v2), (282, .int .i64 x3)] m :=
  Eq.mpr (by kernel_rfl) h
theorem p_huffmanDecoder_init_rrrrrrrrrrrrrllrrllrrr (a1 : Option Addr) (l2 : Nat) (k3 : Nat) (x4 : Int) (x5 : Int) (m : Mem) (K : Kont)
    (h : K.kn [(300, .slice a1 l2 k3), (301, .int .i64 x4), (302, .int .i64 (IntKind.wrap .i64 (x5 + 1)))] m) :
    wpc PP FF 317 L_huffmanDecoder_init c_huffmanDecoder_init_rrrrrrrrrrrrrllrrllrrr K [(300, .slice a1 l2 k3), (301, .int .i64 x4), (302, .int .i64 x5)] m :=
  Eq.mpr (by kernel_rfl) h
theorem p_huffmanDecoder_init_rrrrrrrrrrrlrlrrrrrllrr (b o : Nat) (a1 : Option Addr) (l2 : Nat) (k3 : Nat) (x4 : Int) (n5 : Nat) (x6 : Int) (x7 : Int) (x8 : Int) (m : Mem) (K : Kont)
    (h : K.kn [(0, .pointer (some ⟨b, o, none⟩)), (1, .slice a1 l2 k3), (10, .int .i64 x4), (11, .pointer (some ⟨n5, 0, none⟩)), (13, .int .i64 x6), (14, .int .i64 x7), (15, .int .u64 (IntKind.wrap .u64 (x8 + 1)))] m) :
    wpc PP FF 317 L_huffmanDecoder_init c_huffmanDecoder_init_rrrrrrrrrrrlrlrrrrrllrr K [(0, .pointer (some ⟨b, o, none⟩)), (1, .slice a1 l2 k3), (10, .int .i64 x4), (11, .pointer (some ⟨n5, 0, none⟩)), (13, .int .i64 x6), (14, .int .i64 x7), (15, .int .u64 x8)] m :=
  Eq.mpr (by kernel_rfl) h
def k_huffmanDecoder_init_rrrrrrrrrrrlrlrrrrrllrllrrrr : List Nat := [0, 1, 10, 11, 13, 14, 15, 16, 17]
theorem p_huffmanDecoder_init_rrrrrrrrrrrlrlrrrrrllrllrrrr (b o : Nat) (a1 : Option Addr) (l2 : Nat) (k3 : Nat) (x4 : Int) (n5 : Nat) (x6 : Int) (x7 : Int) (x8 : Int) (x9 : Int) (x10 : Int) (m : Mem) (K : Kont)
    (h : 0 ≤ (4 : Int) ∧ IntKind.u64 = IntKind.u64 ∧ (0 ≤ x9 ∧ x9 < ((512 : Nat) : Int)) ∧ StW m ⟨b, o + 1 + x9.toNat, none⟩ (.int .u32 (IntKind.wrap .u32 (bitsOp .or .u64 (shlOp .u64 x10 4) 10))) fun m11 => ∃ a12 l13 k14, cell? m11 ⟨b, o + 513, none⟩ = some (.slice a12 l13 k14) ∧ SemW PP (sv (Instr.makeSlice t_s_uint32 (.int .i64 x6) (.int .i64 x6))) m11 (NextW PP fun v18 m19 => ∃ a15 l16 k17, v18 = .slice a15 l16 k17 ∧ cell? m19 ⟨b, o + 513, none⟩ = some (.slice a12 l13 k14) ∧ onSome a12 fun p20 => (0 ≤ x10 ∧ x10 < (l13 : Int)) ∧ StW m19 (aplus p20 x10.toNat) (.slice a15 l16 k17) fun m21 => cell? m21 ⟨b, o + 513, none⟩ = some (.slice a12 l13 k14) ∧ K.kn [(0, .pointer (some ⟨b, o, none⟩)), (1, .slice a1 l2 k3), (10, .int .i64 x4), (11, .pointer (some ⟨n5, 0, none⟩)), (13, .int .i64 x6), (14, .int .i64 x7), (15, .int .u64 x8), (16, .int .i64 x9), (17, .int .u64 x10)] m21)) :
    wpc PP FF 317 L_huffmanDecoder_init c_huffmanDecoder_init_rrrrrrrrrrrlrlrrrrrllrllrrrr K [(0, .pointer (some ⟨b, o, none⟩)), (1, .slice a1 l2 k3), (10, .int .i64 x4), (11, .pointer (some ⟨n5, 0, none⟩)), (13, .int .i64 x6), (14, .int .i64 x7), (15, .int .u64 x8), (16, .int .i64 x9), (17, .int .u64 x10)] m :=
  Eq.mpr (by kernel_rfl) h
theorem p_huffmanDecoder_init_rrrrrrrrrrrrrllrrllrrllrrllrrr (a1 : Option Addr) (l2 : Nat) (k3 : Nat) (x4 : Int) (x5 : Int) (a6 : Option Addr) (l7 : Nat) (k8 : Nat) (x9 : Int) (x10 : Int) (m : Mem) (K : Kont)
    (h : K.kn [(300, .slice a1 l2 k3), (301, .int .i64 x4), (302, .int .i64 x5), (306, .slice a6 l7 k8), (307, .int .i64 x9), (308, .int .i64 (IntKind.wrap .i64 (x10 + 1)))] m) :
    wpc PP FF 317 L_huffmanDecoder_init c_huffmanDecoder_init_rrrrrrrrrrrrrllrrllrrllrrllrrr K [(300, .slice a1 l2 k3), (301, .int .i64 x4), (302, .int .i64 x5), (306, .slice a6 l7 k8), (307, .int .i64 x9), (308, .int .i64 x10)] m :=
  Eq.mpr (by kernel_rfl) h
def k_huffmanDecoder_init_rrrrrrrrrrrrlrllrrllrrrrrrrrrrr : List Nat := [0, 10, 11, 19, 21, 22, 24, 168, 169, 170]
theorem p_huffmanDecoder_init_rrrrrrrrrrrrlrllrrllrrrrrrrrrrr (b o : Nat) (x1 : Int) (n2 : Nat) (x3 : Int) (x4 : Int) (x5 : Int) (x6 : Int) (a7 : Option Addr) (l8 : Nat) (k9 : Nat) (x10 : Int) (x11 : Int) (m : Mem) (K : Kont)
    (h : (0 ≤ x6 ∧ x6 < ((512 : Nat) : Int)) ∧ ∃ x12, cell? m ⟨b, o + 1 + x6.toNat, none⟩ = some (.int .u32 x12) ∧ 0 ≤ (4 : Int) ∧ ∃ a13 l14 k15, cell? m ⟨b, o + 513, none⟩ = some (.slice a13 l14 k15) ∧ onSome a13 fun p16 => (0 ≤ (shrOp .u32 x12 4) ∧ (shrOp .u32 x12 4) < (l14 : Int)) ∧ ∃ a17 l18 k19, cell? m (aplus p16 ((shrOp .u32 x12 4).toNat)) = some (.slice a17 l18 k19) ∧ 0 ≤ (9 : Int) ∧ WPS PP 317 c_huffmanDecoder_init_rrrrrrrrrrrrlrllrrllrrrrrrrrrrrrrrrl (K.withX 10) [(0, .pointer (some ⟨b, o, none⟩)), (10, .int .i64 x1), (11, .pointer (some ⟨n2, 0, none⟩)), (19, .int .i64 x3), (21, .int .u32 x4), (22, .int .i64 (shrOp .i64 x5 9)), (24, .int .i64 x6), (25, .int .u32 (shrOp .u32 x12 4)), (26, .slice a17 l18 k19), (27, .int .i64 (shrOp .i64 x5 9)), (168, .slice a7 l8 k9), (169, .int .i64 x10), (170, .int .i64 x11)] m) :
    wpc PP FF 317 L_huffmanDecoder_init c_huffmanDecoder_init_rrrrrrrrrrrrlrllrrllrrrrrrrrrrr K [(0, .pointer (some ⟨b, o, none⟩)), (10, .int .i64 x1), (11, .pointer (some ⟨n2, 0, none⟩)), (19, .int .i64 x3), (21, .int .u32 x4), (22, .int .i64 x5), (24, .int .i64 x6), (168, .slice a7 l8 k9), (169, .int .i64 x10), (170, .int .i64 x11)] m :=
  Eq.mpr (by kernel_rfl) h
theorem p_huffmanDecoder_init_rrrrrrrrrrrrlrllrrllrrrrrrrrlrllrr (b o : Nat) (x1 : Int) (n2 : Nat) (x3 : Int) (x4 : Int) (x5 : Int) (a6 : Option Addr) (l7 : Nat) (k8 : Nat) (x9 : Int) (x10 : Int) (m : Mem) (K : Kont)
    (h : 0 ≤ (IntKind.wrap .u64 x3) ∧ K.kn [(0, .pointer (some ⟨b, o, none⟩)), (10, .int .i64 x1), (11, .pointer (some ⟨n2, 0, none⟩)), (19, .int .i64 x3), (21, .int .u32 x4), (23, .int .i64 (IntKind.wrap .i64 (x5 + (shlOp .i64 1 (IntKind.wrap .u64 x3))))), (168, .slice a6 l7 k8), (169, .int .i64 x9), (170, .int .i64 x10)] m) :
    wpc PP FF 317 L_huffmanDecoder_init c_huffmanDecoder_init_rrrrrrrrrrrrlrllrrllrrrrrrrrlrllrr K [(0, .pointer (some ⟨b, o, none⟩)), (10, .int .i64 x1), (11, .pointer (some ⟨n2, 0, none⟩)), (19, .int .i64 x3), (21, .int .u32 x4), (23, .int .i64 x5), (168, .slice a6 l7 k8), (169, .int .i64 x9), (170, .int .i64 x10)] m :=
  Eq.mpr (by kernel_rfl) h
def k_huffmanDecoder_init_rrrrrrrrrrrrlrllrrllrrrrrrrrlrllrllr : List Nat := [0, 10, 11, 19, 21, 23, 168, 169, 170]
theorem p_huffmanDecoder_init_rrrrrrrrrrrrlrllrrllrrrrrrrrlrllrllr (b o : Nat) (x1 : Int) (n2 : Nat) (x3 : Int) (x4 : Int) (x5 : Int) (a6 : Option Addr) (l7 : Nat) (k8 : Nat) (x9 : Int) (x10 : Int) (m : Mem) (K : Kont)
    (h : (0 ≤ x5 ∧ x5 < ((512 : Nat) : Int)) ∧ StW m ⟨b, o + 1 + x5.toNat, none⟩ (.int .u32 x4) fun m11 => K.kn [(0, .pointer (some ⟨b, o, none⟩)), (10, .int .i64 x1), (11, .pointer (some ⟨n2, 0, none⟩)), (19, .int .i64 x3), (21, .int .u32 x4), (23, .int .i64 x5), (168, .slice a6 l7 k8), (169, .int .i64 x9), (170, .int .i64 x10)] m11) :
    wpc PP FF 317 L_huffmanDecoder_init c_huffmanDecoder_init_rrrrrrrrrrrrlrllrrllrrrrrrrrlrllrllr K [(0, .pointer (some ⟨b, o, none⟩)), (10, .int .i64 x1), (11, .pointer (some ⟨n2, 0, none⟩)), (19, .int .i64 x3), (21, .int .u32 x4), (23, .int .i64 x5), (168, .slice a6 l7 k8), (169, .int .i64 x9), (170, .int .i64 x10)] m :=
  Eq.mpr (by kernel_rfl) h
theorem p_huffmanDecoder_init_rrrrrrrrrrrrlrllrrllrrrrrrrrrrrrrrrllrr (b o : Nat) (x1 : Int) (n2 : Nat) (x3 : Int) (x4 : Int) (a5 : Option Addr) (l6 : Nat) (k7 : Nat) (x8 : Int) (a9 : Option Addr) (l10 : Nat) (k11 : Nat) (x12 : Int) (x13 : Int) (m : Mem) (K : Kont)
    (h : 0 ≤ (IntKind.wrap .u64 (IntKind.wrap .i64 (x3 - 9))) ∧ K.kn [(0, .pointer (some ⟨b, o, none⟩)), (10, .int .i64 x1), (11, .pointer (some ⟨n2, 0, none⟩)), (19, .int .i64 x3), (21, .int .u32 x4), (26, .slice a5 l6 k7), (27, .int .i64 (IntKind.wrap .i64 (x8 + (shlOp .i64 1 (IntKind.wrap .u64 (IntKind.wrap .i64 (x3 - 9))))))), (168, .slice a9 l10 k11), (169, .int .i64 x12), (170, .int .i64 x13)] m) :
    wpc PP FF 317 L_huffmanDecoder_init c_huffmanDecoder_init_rrrrrrrrrrrrlrllrrllrrrrrrrrrrrrrrrllrr K [(0, .pointer (some ⟨b, o, none⟩)), (10, .int .i64 x1), (11, .pointer (some ⟨n2, 0, none⟩)), (19, .int .i64 x3), (21, .int .u32 x4), (26, .slice a5 l6 k7), (27, .int .i64 x8), (168, .slice a9 l10 k11), (169, .int .i64 x12), (170, .int .i64 x13)] m :=
  Eq.mpr (by kernel_rfl) h
def k_huffmanDecoder_init_rrrrrrrrrrrrlrllrrllrrrrrrrrrrrrrrrllrllr : List Nat := [0, 10, 11, 19, 21, 26, 27, 168, 169, 170]
theorem p_huffmanDecoder_init_rrrrrrrrrrrrlrllrrllrrrrrrrrrrrrrrrllrllr (b o : Nat) (x1 : Int) (n2 : Nat) (x3 : Int) (x4 : Int) (a5 : Option Addr) (l6 : Nat) (k7 : Nat) (x8 : Int) (a9 : Option Addr) (l10 : Nat) (k11 : Nat) (x12 : Int) (x13 : Int) (m : Mem) (K : Kont)
    (h : onSome a5 fun p14 => (0 ≤ x8 ∧ x8 < (l6 : Int)) ∧ StW m (aplus p14 x8.toNat) (.int .u32 x4) fun m15 => K.kn [(0, .pointer (some ⟨b, o, none⟩)), (10, .int .i64 x1), (11, .pointer (some ⟨n2, 0, none⟩)), (19, .int .i64 x3), (21, .int .u32 x4), (26, .slice a5 l6 k7), (27, .int .i64 x8), (168, .slice a9 l10 k11), (169, .int .i64 x12), (170, .int .i64 x13)] m15) :
    wpc PP FF 317 L_huffmanDecoder_init c_huffmanDecoder_init_rrrrrrrrrrrrlrllrrllrrrrrrrrrrrrrrrllrllr K [(0, .pointer (some ⟨b, o, none⟩)), (10, .int .i64 x1), (11, .pointer (some ⟨n2, 0, none⟩)), (19, .int .i64 x3), (21, .int .u32 x4), (26, .slice a5 l6 k7), (27, .int .i64 x8), (168, .slice a9 l10 k11), (169, .int .i64 x12), (170, .int .i64 x13)] m :=
  Eq.mpr (by kernel_rfl) h
def k_huffmanDecoder_init_rrrrrrrrr : List Nat := [0, 1, 6, 7, 10, 11]
theorem p_huffmanDecoder_init_rrrrrrrrr (b o : Nat) (a1 : Option Addr) (l2 : Nat) (k3 : Nat) (x4 : Int) (x5 : Int) (x6 : Int) (n7 : Nat) (m : Mem) (K : Kont)
    (h : 0 ≤ (IntKind.wrap .u64 x5) ∧ ifB (x6 != shlOp .i64 1 (IntKind.wrap .u64 x5)) (ifB (x6 == 1) (ifB (!(x5 == 1)) (K.kr [(0, .pointer (some ⟨b, o, none⟩)), (1, .slice a1 l2 k3), (4, .bool false), (6, .int .i64 x4), (7, .int .i64 x5), (10, .int .i64 x6), (11, .pointer (some ⟨n7, 0, none⟩))] m) (StW m ⟨b, o, none⟩ (.int .i64 x4) fun m8 => ifB (decide (x5 > 9)) (0 ≤ (IntKind.wrap .u64 ((IntKind.wrap .u64 x5) - 9)) ∧ StW m8 ⟨b, o + 514, none⟩ (.int .u32 (IntKind.wrap .u32 (IntKind.wrap .i64 ((shlOp .i64 1 (IntKind.wrap .u64 ((IntKind.wrap .u64 x5) - 9))) - 1)))) fun m9 => (0 ≤ (10 : Int) ∧ (10 : Int) < ((16 : Nat) : Int)) ∧ ∃ x10, cell? m9 ⟨n7, 10, none⟩ = some (.int .i64 x10) ∧ 0 ≤ (1 : Int) ∧ SemW PP (sv (Instr.makeSlice t_s_s_uint32 (.int .i64 (IntKind.wrap .i64 (512 - (shrOp .i64 x10 1)))) (.int .i64 (IntKind.wrap .i64 (512 - (shrOp .i64 x10 1)))))) m9 (NextW PP fun v14 m15 => ∃ a11 l12 k13, v14 = .slice a11 l12 k13 ∧ StW m15 ⟨b, o + 513, none⟩ (.slice a11 l12 k13) fun m16 => WPS PP 317 c_huffmanDecoder_init_rrrrrrrrrrrlrlrrrrrl ((K.withN fun r m => WPS PP 317 c_huffmanDecoder_init_rrrrrrrrrrrr K r m).withX 4) [(0, .pointer (some ⟨b, o, none⟩)), (1, .slice a1 l2 k3), (6, .int .i64 x4), (7, .int .i64 x5), (10, .int .i64 x6), (11, .pointer (some ⟨n7, 0, none⟩)), (13, .int .i64 (shlOp .i64 1 (IntKind.wrap .u64 ((IntKind.wrap .u64 x5) - 9)))), (14, .int .i64 (shrOp .i64 x10 1)), (15, .int .u64 (IntKind.wrap .u64 (shrOp .i64 x10 1)))] m16)) (WPS PP 317 c_huffmanDecoder_init_rrrrrrrrrrrr K [(0, .pointer (some ⟨b, o, none⟩)), (1, .slice a1 l2 k3), (6, .int .i64 x4), (7, .int .i64 x5), (10, .int .i64 x6), (11, .pointer (some ⟨n7, 0, none⟩))] m8))) (K.kr [(0, .pointer (some ⟨b, o, none⟩)), (1, .slice a1 l2 k3), (4, .bool false), (6, .int .i64 x4), (7, .int .i64 x5), (10, .int .i64 x6), (11, .pointer (some ⟨n7, 0, none⟩))] m)) (StW m ⟨b, o, none⟩ (.int .i64 x4) fun m17 => ifB (decide (x5 > 9)) (0 ≤ (IntKind.wrap .u64 ((IntKind.wrap .u64 x5) - 9)) ∧ StW m17 ⟨b, o + 514, none⟩ (.int .u32 (IntKind.wrap .u32 (IntKind.wrap .i64 ((shlOp .i64 1 (IntKind.wrap .u64 ((IntKind.wrap .u64 x5) - 9))) - 1)))) fun m18 => (0 ≤ (10 : Int) ∧ (10 : Int) < ((16 : Nat) : Int)) ∧ ∃ x19, cell? m18 ⟨n7, 10, none⟩ = some (.int .i64 x19) ∧ 0 ≤ (1 : Int) ∧ SemW PP (sv (Instr.makeSlice t_s_s_uint32 (.int .i64 (IntKind.wrap .i64 (512 - (shrOp .i64 x19 1)))) (.int .i64 (IntKind.wrap .i64 (512 - (shrOp .i64 x19 1)))))) m18 (NextW PP fun v23 m24 => ∃ a20 l21 k22, v23 = .slice a20 l21 k22 ∧ StW m24 ⟨b, o + 513, none⟩ (.slice a20 l21 k22) fun m25 => WPS PP 317 c_huffmanDecoder_init_rrrrrrrrrrrlrlrrrrrl ((K.withN fun r m => WPS PP 317 c_huffmanDecoder_init_rrrrrrrrrrrr K r m).withX 4) [(0, .pointer (some ⟨b, o, none⟩)), (1, .slice a1 l2 k3), (6, .int .i64 x4), (7, .int .i64 x5), (10, .int .i64 x6), (11, .pointer (some ⟨n7, 0, none⟩)), (13, .int .i64 (shlOp .i64 1 (IntKind.wrap .u64 ((IntKind.wrap .u64 x5) - 9)))), (14, .int .i64 (shrOp .i64 x19 1)), (15, .int .u64 (IntKind.wrap .u64 (shrOp .i64 x19 1)))] m25)) (WPS PP 317 c_huffmanDecoder_init_rrrrrrrrrrrr K [(0, .pointer (some ⟨b, o, none⟩)), (1, .slice a1 l2 k3), (6, .int .i64 x4), (7, .int .i64 x5), (10, .int .i64 x6), (11, .pointer (some ⟨n7, 0, none⟩))] m17))) :
    wpc PP FF 317 L_huffmanDecoder_init c_huffmanDecoder_init_rrrrrrrrr K [(0, .pointer (some ⟨b, o, none⟩)), (1, .slice a1 l2 k3), (6, .int .i64 x4), (7, .int .i64 x5), (10, .int .i64 x6), (11, .pointer (some ⟨n7, 0, none⟩))] m :=
  Eq.mpr (by kernel_rfl) h
def k_huffmanDecoder_init_rrrrlrllrrllrrrr : List Nat := [0, 1, 5, 6, 7, 9, 42, 43, 44]
theorem p_huffmanDecoder_init_rrrrlrllrrllrrrr (b o : Nat) (a1 : Option Addr) (l2 : Nat) (k3 : Nat) (n4 : Nat) (x5 : Int) (x6 : Int) (x7 : Int) (a8 : Option Addr) (l9 : Nat) (k10 : Nat) (x11 : Int) (x12 : Int) (m : Mem) (K : Kont)
    (h : (0 ≤ x7 ∧ x7 < ((16 : Nat) : Int)) ∧ ∃ x13, cell? m ⟨n4, 0 + x7.toNat, none⟩ = some (.int .i64 x13) ∧ (0 ≤ x7 ∧ x7 < ((16 : Nat) : Int)) ∧ StW m ⟨n4, 0 + x7.toNat, none⟩ (.int .i64 (IntKind.wrap .i64 (x13 + 1))) fun m14 => K.kn [(0, .pointer (some ⟨b, o, none⟩)), (1, .slice a1 l2 k3), (5, .pointer (some ⟨n4, 0, none⟩)), (6, .int .i64 x5), (7, .int .i64 x6), (9, .int .i64 x7), (42, .slice a8 l9 k10), (43, .int .i64 x11), (44, .int .i64 x12)] m14) :
    wpc PP FF 317 L_huffmanDecoder_init c_huffmanDecoder_init_rrrrlrllrrllrrrr K [(0, .pointer (some ⟨b, o, none⟩)), (1, .slice a1 l2 k3), (5, .pointer (some ⟨n4, 0, none⟩)), (6, .int .i64 x5), (7, .int .i64 x6), (9, .int .i64 x7), (42, .slice a8 l9 k10), (43, .int .i64 x11), (44, .int .i64 x12)] m :=
  Eq.mpr (by kernel_rfl) h
def k_huffmanDecoder_init_rrrrrrrrrrrr : List Nat := [0, 1, 10, 11]
theorem p_huffmanDecoder_init_rrrrrrrrrrrr (b o : Nat) (a1 : Option Addr) (l2 : Nat) (k3 : Nat) (x4 : Int) (n5 : Nat) (m : Mem) (K : Kont)
    (h : WPS PP 317 c_huffmanDecoder_init_rrrrrrrrrrrrlrl ((K.withN fun r m => WPS PP 317 c_huffmanDecoder_init_rrrrrrrrrrrrr K r m).withX 6) [(0, .pointer (some ⟨b, o, none⟩)), (1, .slice a1 l2 k3), (10, .int .i64 x4), (11, .pointer (some ⟨n5, 0, none⟩)), (168, .slice a1 l2 k3), (169, .int .i64 (l2 : Int)), (170, .int .i64 0)] m) :
    wpc PP FF 317 L_huffmanDecoder_init c_huffmanDecoder_init_rrrrrrrrrrrr K [(0, .pointer (some ⟨b, o, none⟩)), (1, .slice a1 l2 k3), (10, .int .i64 x4), (11, .pointer (some ⟨n5, 0, none⟩))] m :=
  Eq.mpr (by kernel_rfl) h
def k_huffmanDecoder_init_rrrrrrrrrrrrr : List Nat := [0, 10]
theorem p_huffmanDecoder_init_rrrrrrrrrrrrr (b o : Nat) (x1 : Int) (m : Mem) (K : Kont)
    (h : WPS PP 317 c_huffmanDecoder_init_rrrrrrrrrrrrrr K [(0, .pointer (some ⟨b, o, none⟩)), (10, .int .i64 x1)] m) :
    wpc PP FF 317 L_huffmanDecoder_init c_huffmanDecoder_init_rrrrrrrrrrrrr K [(0, .pointer (some ⟨b, o, none⟩)), (10, .int .i64 x1)] m :=
  Eq.mpr (by kernel_rfl) h
def k_huffmanDecoder_init_rrrrrrrrrrrrrr : List Nat := []
theorem p_huffmanDecoder_init_rrrrrrrrrrrrrr  (m : Mem) (K : Kont)
    (h : K.kr [(4, .bool true)] m  ) :
    wpc PP FF 317 L_huffmanDecoder_init c_huffmanDecoder_init_rrrrrrrrrrrrrr K [] m :=
  Eq.mpr (by kernel_rfl) h
def L_decompressor_huffSym : List Nat := [0, 1, 4, 5, 6, 7, 8, 9, 10, 11, 27, 37, 75, 98, 100]
def r_decompressor_huffSym : List ResultVar := [.tmp 4, .tmp 5]
noncomputable def c_decompressor_huffSym : Code := (Go.Proofs.Tryz.f71.body).getD .skip
theorem b_decompressor_huffSym : Go.Proofs.Tryz.f71.body = some c_decompressor_huffSym := by kernel_rfl
noncomputable def c_decompressor_huffSym_rrrl : Code := (lft (rgt (rgt (rgt c_decompressor_huffSym))))
noncomputable def c_decompressor_huffSym_rrrll : Code := (lft c_decompressor_huffSym_rrrl)
noncomputable def c_decompressor_huffSym_rrrlllr : Code := (rgt (lft c_decompressor_huffSym_rrrll))
noncomputable def c_decompressor_huffSym_rrrlllll : Code := (lft (lft (lft c_decompressor_huffSym_rrrll)))
noncomputable def c_decompressor_huffSym_rrrllllll : Code := (lft c_decompressor_huffSym_rrrlllll)
noncomputable def c_decompressor_huffSym_rrrlllrrrr : Code := (rgt (rgt (rgt c_decompressor_huffSym_rrrlllr)))
theorem q_decompressor_huffSym_rrrl : c_decompressor_huffSym_rrrl = .loop c_decompressor_huffSym_rrrll := by kernel_rfl
theorem q_decompressor_huffSym_rrrlllll : c_decompressor_huffSym_rrrlllll = .loop c_decompressor_huffSym_rrrllllll := by kernel_rfl
theorem e_decompressor_huffSym (f : Nat) (p1 : Option Addr) (m : Mem) (R : Value → Mem → Prop)
    (h : onSome p1 fun p2 => ∃ x3, cell? m p2 = some (.int .i64 x3) ∧ ∃ x4, cell? m ⟨f, 4, none⟩ = some (.int .u64 x4) ∧ ∃ x5, cell? m ⟨f, 3, none⟩ = some (.int .u32 x5) ∧ WPS PP 137 c_decompressor_huffSym_rrrl ((retK PP r_decompressor_huffSym R).withX 0) [(0, .pointer (some ⟨f, 0, none⟩)), (1, .pointer p1), (4, .int .i64 0), (5, .nilIface), (6, .int .u64 (IntKind.wrap .u64 x3)), (7, .int .u64 x4), (8, .int .u32 x5)] m) :
    CallM PP f_decompressor_huffSym #[.pointer (some ⟨f, 0, none⟩), .pointer p1] m R :=
  callM_enter ffOk mixedOk 137 L_decompressor_huffSym Tryz.func71 b_decompressor_huffSym Tryz.ntmps71 (by simp) (Eq.mpr (by kernel_rfl) h)
theorem p_decompressor_huffSym_rrrll (f : Nat) (p1 : Option Addr) (x2 : Int) (x3 : Int) (x4 : Int) (m : Mem) (K : Kont)
    (h : WPS PP 137 c_decompressor_huffSym_rrrlllll (((K.withX 1).withN fun r m => WPS PP 137 c_decompressor_huffSym_rrrlllr (K.withX 1) r m).withX 2) [(0, .pointer (some ⟨f, 0, none⟩)), (1, .pointer p1), (6, .int .u64 x2), (7, .int .u64 x3), (8, .int .u32 x4)] m) :
    wpc PP FF 137 L_decompressor_huffSym c_decompressor_huffSym_rrrll K [(0, .pointer (some ⟨f, 0, none⟩)), (1, .pointer p1), (6, .int .u64 x2), (7, .int .u64 x3), (8, .int .u32 x4)] m :=
  Eq.mpr (by kernel_rfl) h
theorem p_decompressor_huffSym_rrrllllll (f : Nat) (p1 : Option Addr) (x2 : Int) (x3 : Int) (x4 : Int) (m : Mem) (K : Kont)
    (h : ifB (decide (x3 < x2)) (∃ v5, cell? m ⟨f, 0, none⟩ = some (v5) ∧ SemW PP (callMethod v5 "ReadByte" #[]) m (NextW PP fun v8 m9 => ∃ x6 v7, v8 = .tuple #[.int .u8 x6, v7] ∧ isIfc v7 = true ∧ ifB (!(isNil v7)) (StW m9 ⟨f, 3, none⟩ (.int .u32 x4) fun m10 => StW m10 ⟨f, 4, none⟩ (.int .u64 x3) fun m11 => CallM PP f_inflate_noEOF #[v7] m11 fun v13 m14 => ∃ v12, v13 = v12 ∧ K.kr [(0, .pointer (some ⟨f, 0, none⟩)), (1, .pointer p1), (4, .int .i64 0), (5, v12), (6, .int .u64 x2), (7, .int .u64 x3), (8, .int .u32 x4), (9, .int .u8 x6), (10, v7)] m14) (∃ x15, cell? m9 ⟨f, 2, none⟩ = some (.int .i64 x15) ∧ StW m9 ⟨f, 2, none⟩ (.int .i64 (IntKind.wrap .i64 (x15 + 1))) fun m16 => IntKind.u64 = IntKind.u64 ∧ 0 ≤ (bitsOp .and .u64 x3 31) ∧ IntKind.u32 = IntKind.u32 ∧ K.kn [(0, .pointer (some ⟨f, 0, none⟩)), (1, .pointer p1), (6, .int .u64 x2), (7, .int .u64 (IntKind.wrap .u64 (x3 + 8))), (8, .int .u32 (bitsOp .or .u32 x4 (shlOp .u32 (IntKind.wrap .u32 x6) (bitsOp .and .u64 x3 31)))), (9, .int .u8 x6), (10, v7)] m16))) (K.kx 2 [(0, .pointer (some ⟨f, 0, none⟩)), (1, .pointer p1), (6, .int .u64 x2), (7, .int .u64 x3), (8, .int .u32 x4)] m)) :
    wpc PP FF 137 L_decompressor_huffSym c_decompressor_huffSym_rrrllllll K [(0, .pointer (some ⟨f, 0, none⟩)), (1, .pointer p1), (6, .int .u64 x2), (7, .int .u64 x3), (8, .int .u32 x4)] m :=
  Eq.mpr (by kernel_rfl) h
def k_decompressor_huffSym_rrrlllr : List Nat := [0, 1, 7, 8]
theorem p_decompressor_huffSym_rrrlllr (f : Nat) (p1 : Option Addr) (x2 : Int) (x3 : Int) (m : Mem) (K : Kont)
    (h : IntKind.u32 = IntKind.u32 ∧ onSome p1 fun p4 => (0 ≤ (bitsOp .and .u32 x3 511) ∧ (bitsOp .and .u32 x3 511) < ((512 : Nat) : Int)) ∧ ∃ x5, cell? m ⟨p4.block, p4.off + 1 + ((bitsOp .and .u32 x3 511).toNat), none⟩ = some (.int .u32 x5) ∧ IntKind.u32 = IntKind.u32 ∧ ifB (decide ((IntKind.wrap .u64 (bitsOp .and .u32 x5 15)) > 9)) (onSome p1 fun p6 => ∃ a7 l8 k9, cell? m ⟨p6.block, p6.off + 513, none⟩ = some (.slice a7 l8 k9) ∧ 0 ≤ (4 : Int) ∧ onSome a7 fun p10 => (0 ≤ (shrOp .u32 x5 4) ∧ (shrOp .u32 x5 4) < (l8 : Int)) ∧ ∃ a11 l12 k13, cell? m (aplus p10 ((shrOp .u32 x5 4).toNat)) = some (.slice a11 l12 k13) ∧ 0 ≤ (9 : Int) ∧ onSome p1 fun p14 => ∃ x15, cell? m ⟨p14.block, p14.off + 514, none⟩ = some (.int .u32 x15) ∧ IntKind.u32 = IntKind.u32 ∧ onSome a11 fun p16 => (0 ≤ (bitsOp .and .u32 (shrOp .u32 x3 9) x15) ∧ (bitsOp .and .u32 (shrOp .u32 x3 9) x15) < (l12 : Int)) ∧ ∃ x17, cell? m (aplus p16 ((bitsOp .and .u32 (shrOp .u32 x3 9) x15).toNat)) = some (.int .u32 x17) ∧ IntKind.u32 = IntKind.u32 ∧ WPS PP 137 c_decompressor_huffSym_rrrlllrrrr K [(0, .pointer (some ⟨f, 0, none⟩)), (1, .pointer p1), (6, .int .u64 (IntKind.wrap .u64 (bitsOp .and .u32 x17 15))), (7, .int .u64 x2), (8, .int .u32 x3), (11, .int .u32 x17)] m) (WPS PP 137 c_decompressor_huffSym_rrrlllrrrr K [(0, .pointer (some ⟨f, 0, none⟩)), (1, .pointer p1), (6, .int .u64 (IntKind.wrap .u64 (bitsOp .and .u32 x5 15))), (7, .int .u64 x2), (8, .int .u32 x3), (11, .int .u32 x5)] m)) :
    wpc PP FF 137 L_decompressor_huffSym c_decompressor_huffSym_rrrlllr K [(0, .pointer (some ⟨f, 0, none⟩)), (1, .pointer p1), (7, .int .u64 x2), (8, .int .u32 x3)] m :=
  Eq.mpr (by kernel_rfl) h
def k_decompressor_huffSym_rrrlllrrrr : List Nat := [0, 1, 6, 7, 8, 11]
theorem p_decompressor_huffSym_rrrlllrrrr (f : Nat) (p1 : Option Addr) (x2 : Int) (x3 : Int) (x4 : Int) (x5 : Int) (m : Mem) (K : Kont)
    (h : ifB (decide (x2 ≤ x3)) (ifB (x2 == 0) (StW m ⟨f, 3, none⟩ (.int .u32 x4) fun m6 => StW m6 ⟨f, 4, none⟩ (.int .u64 x3) fun m7 => ∃ x8, cell? m7 ⟨f, 2, none⟩ = some (.int .i64 x8) ∧ StW m7 ⟨f, 1048, none⟩ (.iface t_flate_CorruptInputError (.int .i64 x8)) fun m9 => ∃ v10, cell? m9 ⟨f, 1048, none⟩ = some (v10) ∧ K.kr [(0, .pointer (some ⟨f, 0, none⟩)), (1, .pointer p1), (4, .int .i64 0), (5, v10), (6, .int .u64 x2), (7, .int .u64 x3), (8, .int .u32 x4), (11, .int .u32 x5)] m9) (IntKind.u64 = IntKind.u64 ∧ 0 ≤ (bitsOp .and .u64 x2 31) ∧ StW m ⟨f, 3, none⟩ (.int .u32 (shrOp .u32 x4 (bitsOp .and .u64 x2 31))) fun m11 => StW m11 ⟨f, 4, none⟩ (.int .u64 (IntKind.wrap .u64 (x3 - x2))) fun m12 => 0 ≤ (4 : Int) ∧ K.kr [(0, .pointer (some ⟨f, 0, none⟩)), (1, .pointer p1), (4, .int .i64 (IntKind.wrap .i64 (shrOp .u32 x5 4))), (5, .nilIface), (6, .int .u64 x2), (7, .int .u64 x3), (8, .int .u32 x4), (11, .int .u32 x5)] m12)) (K.kn [(0, .pointer (some ⟨f, 0, none⟩)), (1, .pointer p1), (6, .int .u64 x2), (7, .int .u64 x3), (8, .int .u32 x4), (11, .int .u32 x5)] m)) :
    wpc PP FF 137 L_decompressor_huffSym c_decompressor_huffSym_rrrlllrrrr K [(0, .pointer (some ⟨f, 0, none⟩)), (1, .pointer p1), (6, .int .u64 x2), (7, .int .u64 x3), (8, .int .u32 x4), (11, .int .u32 x5)] m :=
  Eq.mpr (by kernel_rfl) h
def L_dictDecoder_writeByte : List Nat := [0, 1]
def r_dictDecoder_writeByte : List ResultVar := []
noncomputable def c_dictDecoder_writeByte : Code := (Go.Proofs.Tryz.f72.body).getD .skip
theorem b_dictDecoder_writeByte : Go.Proofs.Tryz.f72.body = some c_dictDecoder_writeByte := by kernel_rfl
theorem e_dictDecoder_writeByte (f : Nat) (x1 : Int) (m : Mem) (R : Value → Mem → Prop)
    (h : ∃ a2 l3 k4, cell? m ⟨f, 1037, none⟩ = some (.slice a2 l3 k4) ∧ ∃ x5, cell? m ⟨f, 1038, none⟩ = some (.int .i64 x5) ∧ onSome a2 fun p6 => (0 ≤ x5 ∧ x5 < (l3 : Int)) ∧ StW m (aplus p6 x5.toNat) (.int .u8 x1) fun m7 => ∃ x8, cell? m7 ⟨f, 1038, none⟩ = some (.int .i64 x8) ∧ StW m7 ⟨f, 1038, none⟩ (.int .i64 (IntKind.wrap .i64 (x8 + 1))) fun m9 => R (.tuple #[]) m9) :
    CallM PP f_dictDecoder_writeByte #[.pointer (some ⟨f, 1037, none⟩), .int .u8 x1] m R :=
  callM_enter ffOk mixedOk 21 L_dictDecoder_writeByte Tryz.func72 b_dictDecoder_writeByte Tryz.ntmps72 (by simp) (Eq.mpr (by kernel_rfl) h)
def L_dictDecoder_availWrite : List Nat := [0, 2]
def r_dictDecoder_availWrite : List ResultVar := [.tmp 2]
noncomputable def c_dictDecoder_availWrite : Code := (Go.Proofs.Tryz.f73.body).getD .skip
theorem b_dictDecoder_availWrite : Go.Proofs.Tryz.f73.body = some c_dictDecoder_availWrite := by kernel_rfl
theorem e_dictDecoder_availWrite (f : Nat) (m : Mem) (R : Value → Mem → Prop)
    (h : ∃ a1 l2 k3, cell? m ⟨f, 1037, none⟩ = some (.slice a1 l2 k3) ∧ ∃ x4, cell? m ⟨f, 1038, none⟩ = some (.int .i64 x4) ∧ R (.int .i64 (IntKind.wrap .i64 ((l2 : Int) - x4))) m  ) :
    CallM PP f_dictDecoder_availWrite #[.pointer (some ⟨f, 1037, none⟩)] m R :=
  callM_enter ffOk mixedOk 13 L_dictDecoder_availWrite Tryz.func73 b_dictDecoder_availWrite Tryz.ntmps73 (by simp) (Eq.mpr (by kernel_rfl) h)
def L_bits_Reverse8 : List Nat := [0, 2]
def r_bits_Reverse8 : List ResultVar := [.tmp 2]
noncomputable def c_bits_Reverse8 : Code := (Go.Proofs.Tryz.f74.body).getD .skip
theorem b_bits_Reverse8 : Go.Proofs.Tryz.f74.body = some c_bits_Reverse8 := by kernel_rfl
theorem e_bits_Reverse8 (x1 : Int) (m : Mem) (R : Value → Mem → Prop)
    (h : PureW PP (Instr.index t_string (.string rev8) (.int .u8 x1)) fun u3 => ∃ x2, u3 = .int .u8 x2 ∧ R (.int .u8 x2) m) :
    CallM PP f_bits_Reverse8 #[.int .u8 x1] m R :=
  callM_enter ffOk mixedOk 5 L_bits_Reverse8 Tryz.func74 b_bits_Reverse8 Tryz.ntmps74 (by simp) (Eq.mpr (by kernel_rfl) h)
def L_dictDecoder_histSize : List Nat := [0, 2, 6]
def r_dictDecoder_histSize : List ResultVar := [.tmp 2]
noncomputable def c_dictDecoder_histSize : Code := (Go.Proofs.Tryz.f75.body).getD .skip
theorem b_dictDecoder_histSize : Go.Proofs.Tryz.f75.body = some c_dictDecoder_histSize := by kernel_rfl
theorem e_dictDecoder_histSize (f : Nat) (m : Mem) (R : Value → Mem → Prop)
    (h : ∃ b1, cell? m ⟨f, 1040, none⟩ = some (.bool b1) ∧ ifB b1 (∃ a2 l3 k4, cell? m ⟨f, 1037, none⟩ = some (.slice a2 l3 k4) ∧ R (.int .i64 (l3 : Int)) m) (∃ x5, cell? m ⟨f, 1038, none⟩ = some (.int .i64 x5) ∧ R (.int .i64 x5) m)  ) :
    CallM PP f_dictDecoder_histSize #[.pointer (some ⟨f, 1037, none⟩)] m R :=
  callM_enter ffOk mixedOk 16 L_dictDecoder_histSize Tryz.func75 b_dictDecoder_histSize Tryz.ntmps75 (by simp) (Eq.mpr (by kernel_rfl) h)
def L_dictDecoder_tryWriteCopy : List Nat := [0, 1, 2, 6, 7, 8, 9, 10, 29, 36]
def r_dictDecoder_tryWriteCopy : List ResultVar := [.tmp 6]
noncomputable def c_dictDecoder_tryWriteCopy : Code := (Go.Proofs.Tryz.f76.body).getD .skip
theorem b_dictDecoder_tryWriteCopy : Go.Proofs.Tryz.f76.body = some c_dictDecoder_tryWriteCopy := by kernel_rfl
noncomputable def c_dictDecoder_tryWriteCopy_rrrrrrr : Code := (rgt (rgt (rgt (rgt (rgt (rgt (rgt c_dictDecoder_tryWriteCopy)))))))
noncomputable def c_dictDecoder_tryWriteCopy_rrrrrrll : Code := (lft (lft (rgt (rgt (rgt (rgt (rgt (rgt c_dictDecoder_tryWriteCopy))))))))
noncomputable def c_dictDecoder_tryWriteCopy_rrrrrrlll : Code := (lft c_dictDecoder_tryWriteCopy_rrrrrrll)
theorem q_dictDecoder_tryWriteCopy_rrrrrrll : c_dictDecoder_tryWriteCopy_rrrrrrll = .loop c_dictDecoder_tryWriteCopy_rrrrrrlll := by kernel_rfl
theorem e_dictDecoder_tryWriteCopy (f : Nat) (x1 : Int) (x2 : Int) (m : Mem) (R : Value → Mem → Prop)
    (h : ∃ x3, cell? m ⟨f, 1038, none⟩ = some (.int .i64 x3) ∧ ifB (decide (x3 < x1)) (R (.int .i64 0) m) (∃ a4 l5 k6, cell? m ⟨f, 1037, none⟩ = some (.slice a4 l5 k6) ∧ ifB (decide ((IntKind.wrap .i64 (x3 + x2)) > (l5 : Int))) (R (.int .i64 0) m) (WPS PP 61 c_dictDecoder_tryWriteCopy_rrrrrrll (((retK PP r_dictDecoder_tryWriteCopy R).withN fun r m => WPS PP 61 c_dictDecoder_tryWriteCopy_rrrrrrr (retK PP r_dictDecoder_tryWriteCopy R) r m).withX 0) [(0, .pointer (some ⟨f, 1037, none⟩)), (1, .int .i64 x1), (2, .int .i64 x2), (6, .int .i64 0), (7, .int .i64 x3), (8, .int .i64 (IntKind.wrap .i64 (x3 + x2))), (9, .int .i64 x3), (10, .int .i64 (IntKind.wrap .i64 (x3 - x1)))] m))) :
    CallM PP f_dictDecoder_tryWriteCopy #[.pointer (some ⟨f, 1037, none⟩), .int .i64 x1, .int .i64 x2] m R :=
  callM_enter ffOk mixedOk 61 L_dictDecoder_tryWriteCopy Tryz.func76 b_dictDecoder_tryWriteCopy Tryz.ntmps76 (by simp) (Eq.mpr (by kernel_rfl) h)
def k_dictDecoder_tryWriteCopy_rrrrrrr : List Nat := [0, 7, 9]
theorem p_dictDecoder_tryWriteCopy_rrrrrrr (f : Nat) (x1 : Int) (x2 : Int) (m : Mem) (K : Kont)
    (h : StW m ⟨f, 1038, none⟩ (.int .i64 x1) fun m3 => K.kr [(0, .pointer (some ⟨f, 1037, none⟩)), (6, .int .i64 (IntKind.wrap .i64 (x1 - x2))), (7, .int .i64 x1), (9, .int .i64 x2)] m3) :
    wpc PP FF 61 L_dictDecoder_tryWriteCopy c_dictDecoder_tryWriteCopy_rrrrrrr K [(0, .pointer (some ⟨f, 1037, none⟩)), (7, .int .i64 x1), (9, .int .i64 x2)] m :=
  Eq.mpr (by kernel_rfl) h
theorem p_dictDecoder_tryWriteCopy_rrrrrrlll (f : Nat) (x1 : Int) (x2 : Int) (x3 : Int) (x4 : Int) (m : Mem) (K : Kont)
    (h : ifB (decide (x1 < x2)) (∃ a5 l6 k7, cell? m ⟨f, 1037, none⟩ = some (.slice a5 l6 k7) ∧ l6 ≤ k7 ∧ (0 ≤ x2 ∧ x2 ≤ (k7 : Int)) ∧ (0 ≤ x1 ∧ x1 ≤ x2) ∧ ∃ a8 l9 k10, cell? m ⟨f, 1037, none⟩ = some (.slice a8 l9 k10) ∧ l9 ≤ k10 ∧ (0 ≤ x1 ∧ x1 ≤ (k10 : Int)) ∧ (0 ≤ x4 ∧ x4 ≤ x1) ∧ SemW PP (builtin .copy #[t_s_uint8, t_s_uint8] t_int #[false, false] #[.slice (subA a5 x1.toNat 1 k7) (x2.toNat - x1.toNat) (k7 - x1.toNat), .slice (subA a8 x4.toNat 1 k10) (x1.toNat - x4.toNat) (k10 - x4.toNat)]) m (NextW PP fun v12 m13 => ∃ x11, v12 = .int .i64 x11 ∧ K.kn [(0, .pointer (some ⟨f, 1037, none⟩)), (7, .int .i64 (IntKind.wrap .i64 (x1 + x11))), (8, .int .i64 x2), (9, .int .i64 x3), (10, .int .i64 x4)] m13)) (K.kx 0 [(0, .pointer (some ⟨f, 1037, none⟩)), (7, .int .i64 x1), (8, .int .i64 x2), (9, .int .i64 x3), (10, .int .i64 x4)] m)) :
    wpc PP FF 61 L_dictDecoder_tryWriteCopy c_dictDecoder_tryWriteCopy_rrrrrrlll K [(0, .pointer (some ⟨f, 1037, none⟩)), (7, .int .i64 x1), (8, .int .i64 x2), (9, .int .i64 x3), (10, .int .i64 x4)] m :=
  Eq.mpr (by kernel_rfl) h
def L_dictDecoder_writeCopy : List Nat := [0, 1, 2, 6, 7, 8, 9, 10, 29, 55]
def r_dictDecoder_writeCopy : List ResultVar := [.tmp 6]
noncomputable def c_dictDecoder_writeCopy : Code := (Go.Proofs.Tryz.f77.body).getD .skip
theorem b_dictDecoder_writeCopy : Go.Proofs.Tryz.f77.body = some c_dictDecoder_writeCopy := by kernel_rfl
noncomputable def c_dictDecoder_writeCopy_rrrrrr : Code := (rgt (rgt (rgt (rgt (rgt (rgt c_dictDecoder_writeCopy))))))
noncomputable def c_dictDecoder_writeCopy_rrrrrrr : Code := (rgt c_dictDecoder_writeCopy_rrrrrr)
noncomputable def c_dictDecoder_writeCopy_rrrrrrll : Code := (lft (lft c_dictDecoder_writeCopy_rrrrrr))
noncomputable def c_dictDecoder_writeCopy_rrrrrrlll : Code := (lft c_dictDecoder_writeCopy_rrrrrrll)
theorem q_dictDecoder_writeCopy_rrrrrrll : c_dictDecoder_writeCopy_rrrrrrll = .loop c_dictDecoder_writeCopy_rrrrrrlll := by kernel_rfl
theorem e_dictDecoder_writeCopy (f : Nat) (x1 : Int) (x2 : Int) (m : Mem) (R : Value → Mem → Prop)
    (h : ∃ x3, cell? m ⟨f, 1038, none⟩ = some (.int .i64 x3) ∧ ∃ a4 l5 k6, cell? m ⟨f, 1037, none⟩ = some (.slice a4 l5 k6) ∧ ifB (decide ((IntKind.wrap .i64 (x3 - x1)) < 0)) (∃ a7 l8 k9, cell? m ⟨f, 1037, none⟩ = some (.slice a7 l8 k9) ∧ ∃ a10 l11 k12, cell? m ⟨f, 1037, none⟩ = some (.slice a10 l11 k12) ∧ l11 ≤ k12 ∧ (0 ≤ (if (l5 : Int) < IntKind.wrap .i64 (x3 + x2) then (l5 : Int) else IntKind.wrap .i64 (x3 + x2)) ∧ (if (l5 : Int) < IntKind.wrap .i64 (x3 + x2) then (l5 : Int) else IntKind.wrap .i64 (x3 + x2)) ≤ (k12 : Int)) ∧ (0 ≤ x3 ∧ x3 ≤ (if (l5 : Int) < IntKind.wrap .i64 (x3 + x2) then (l5 : Int) else IntKind.wrap .i64 (x3 + x2))) ∧ ∃ a13 l14 k15, cell? m ⟨f, 1037, none⟩ = some (.slice a13 l14 k15) ∧ l14 ≤ k15 ∧ (0 ≤ (IntKind.wrap .i64 ((IntKind.wrap .i64 (x3 - x1)) + (l8 : Int))) ∧ (IntKind.wrap .i64 ((IntKind.wrap .i64 (x3 - x1)) + (l8 : Int))) ≤ (l14 : Int)) ∧ SemW PP (builtin .copy #[t_s_uint8, t_s_uint8] t_int #[false, false] #[.slice (subA a10 x3.toNat 1 k12) ((if (l5 : Int) < IntKind.wrap .i64 (x3 + x2) then (l5 : Int) else IntKind.wrap .i64 (x3 + x2)).toNat - x3.toNat) (k12 - x3.toNat), .slice (subA a13 ((IntKind.wrap .i64 ((IntKind.wrap .i64 (x3 - x1)) + (l8 : Int))).toNat) 1 k15) (l14 - ((IntKind.wrap .i64 ((IntKind.wrap .i64 (x3 - x1)) + (l8 : Int))).toNat)) (k15 - ((IntKind.wrap .i64 ((IntKind.wrap .i64 (x3 - x1)) + (l8 : Int))).toNat))]) m (NextW PP fun v17 m18 => ∃ x16, v17 = .int .i64 x16 ∧ WPS PP 80 c_dictDecoder_writeCopy_rrrrrr (retK PP r_dictDecoder_writeCopy R) [(0, .pointer (some ⟨f, 1037, none⟩)), (1, .int .i64 x1), (2, .int .i64 x2), (6, .int .i64 0), (7, .int .i64 x3), (8, .int .i64 (IntKind.wrap .i64 (x3 + x16))), (9, .int .i64 0), (10, .int .i64 (if (l5 : Int) < IntKind.wrap .i64 (x3 + x2) then (l5 : Int) else IntKind.wrap .i64 (x3 + x2)))] m18)) (WPS PP 80 c_dictDecoder_writeCopy_rrrrrr (retK PP r_dictDecoder_writeCopy R) [(0, .pointer (some ⟨f, 1037, none⟩)), (1, .int .i64 x1), (2, .int .i64 x2), (6, .int .i64 0), (7, .int .i64 x3), (8, .int .i64 x3), (9, .int .i64 (IntKind.wrap .i64 (x3 - x1))), (10, .int .i64 (if (l5 : Int) < IntKind.wrap .i64 (x3 + x2) then (l5 : Int) else IntKind.wrap .i64 (x3 + x2)))] m)) :
    CallM PP f_dictDecoder_writeCopy #[.pointer (some ⟨f, 1037, none⟩), .int .i64 x1, .int .i64 x2] m R :=
  callM_enter ffOk mixedOk 80 L_dictDecoder_writeCopy Tryz.func77 b_dictDecoder_writeCopy Tryz.ntmps77 (by simp) (Eq.mpr (by kernel_rfl) h)
theorem p_dictDecoder_writeCopy_rrrrrr (f : Nat) (x1 : Int) (x2 : Int) (x3 : Int) (x4 : Int) (m : Mem) (K : Kont)
    (h : WPS PP 80 c_dictDecoder_writeCopy_rrrrrrll ((K.withN fun r m => WPS PP 80 c_dictDecoder_writeCopy_rrrrrrr K r m).withX 0) [(0, .pointer (some ⟨f, 1037, none⟩)), (7, .int .i64 x1), (8, .int .i64 x2), (9, .int .i64 x3), (10, .int .i64 x4)] m) :
    wpc PP FF 80 L_dictDecoder_writeCopy c_dictDecoder_writeCopy_rrrrrr K [(0, .pointer (some ⟨f, 1037, none⟩)), (7, .int .i64 x1), (8, .int .i64 x2), (9, .int .i64 x3), (10, .int .i64 x4)] m :=
  Eq.mpr (by kernel_rfl) h
theorem p_dictDecoder_writeCopy_rrrrrrlll (f : Nat) (x1 : Int) (x2 : Int) (x3 : Int) (x4 : Int) (m : Mem) (K : Kont)
    (h : ifB (decide (x2 < x4)) (∃ a5 l6 k7, cell? m ⟨f, 1037, none⟩ = some (.slice a5 l6 k7) ∧ l6 ≤ k7 ∧ (0 ≤ x4 ∧ x4 ≤ (k7 : Int)) ∧ (0 ≤ x2 ∧ x2 ≤ x4) ∧ ∃ a8 l9 k10, cell? m ⟨f, 1037, none⟩ = some (.slice a8 l9 k10) ∧ l9 ≤ k10 ∧ (0 ≤ x2 ∧ x2 ≤ (k10 : Int)) ∧ (0 ≤ x3 ∧ x3 ≤ x2) ∧ SemW PP (builtin .copy #[t_s_uint8, t_s_uint8] t_int #[false, false] #[.slice (subA a5 x2.toNat 1 k7) (x4.toNat - x2.toNat) (k7 - x2.toNat), .slice (subA a8 x3.toNat 1 k10) (x2.toNat - x3.toNat) (k10 - x3.toNat)]) m (NextW PP fun v12 m13 => ∃ x11, v12 = .int .i64 x11 ∧ K.kn [(0, .pointer (some ⟨f, 1037, none⟩)), (7, .int .i64 x1), (8, .int .i64 (IntKind.wrap .i64 (x2 + x11))), (9, .int .i64 x3), (10, .int .i64 x4)] m13)) (K.kx 0 [(0, .pointer (some ⟨f, 1037, none⟩)), (7, .int .i64 x1), (8, .int .i64 x2), (9, .int .i64 x3), (10, .int .i64 x4)] m)) :
    wpc PP FF 80 L_dictDecoder_writeCopy c_dictDecoder_writeCopy_rrrrrrlll K [(0, .pointer (some ⟨f, 1037, none⟩)), (7, .int .i64 x1), (8, .int .i64 x2), (9, .int .i64 x3), (10, .int .i64 x4)] m :=
  Eq.mpr (by kernel_rfl) h
def k_dictDecoder_writeCopy_rrrrrrr : List Nat := [0, 7, 8]
theorem p_dictDecoder_writeCopy_rrrrrrr (f : Nat) (x1 : Int) (x2 : Int) (m : Mem) (K : Kont)
    (h : StW m ⟨f, 1038, none⟩ (.int .i64 x2) fun m3 => K.kr [(0, .pointer (some ⟨f, 1037, none⟩)), (6, .int .i64 (IntKind.wrap .i64 (x2 - x1))), (7, .int .i64 x1), (8, .int .i64 x2)] m3) :
    wpc PP FF 80 L_dictDecoder_writeCopy c_dictDecoder_writeCopy_rrrrrrr K [(0, .pointer (some ⟨f, 1037, none⟩)), (7, .int .i64 x1), (8, .int .i64 x2)] m :=
  Eq.mpr (by kernel_rfl) h
def L_spec_Codes : List Nat := [0, 2, 3, 4, 5, 6, 7, 12, 17, 18, 19, 20, 26]
def r_spec_Codes : List ResultVar := [.tmp 2]
noncomputable def c_spec_Codes : Code := (Go.Proofs.Tryz.f81.body).getD .skip
theorem b_spec_Codes : Go.Proofs.Tryz.f81.body = some c_spec_Codes := by kernel_rfl
noncomputable def c_spec_Codes_rrrr : Code := (rgt (rgt (rgt (rgt c_spec_Codes))))
noncomputable def c_spec_Codes_rrrlrl : Code := (lft (rgt (lft (rgt (rgt (rgt c_spec_Codes))))))
noncomputable def c_spec_Codes_rrrlrll : Code := (lft c_spec_Codes_rrrlrl)
noncomputable def c_spec_Codes_rrrlrllrr : Code := (rgt (rgt c_spec_Codes_rrrlrll))
noncomputable def c_spec_Codes_rrrlrllrllrrl : Code := (lft (rgt (rgt (lft (lft (rgt c_spec_Codes_rrrlrll))))))
noncomputable def c_spec_Codes_rrrlrllrllrrll : Code := (lft c_spec_Codes_rrrlrllrllrrl)
noncomputable def c_spec_Codes_rrrlrllrllrrllrrr : Code := (rgt (rgt (rgt c_spec_Codes_rrrlrllrllrrll)))
theorem q_spec_Codes_rrrlrl : c_spec_Codes_rrrlrl = .loop c_spec_Codes_rrrlrll := by kernel_rfl
theorem q_spec_Codes_rrrlrllrllrrl : c_spec_Codes_rrrlrllrllrrl = .loop c_spec_Codes_rrrlrllrllrrll := by kernel_rfl
theorem e_spec_Codes (a1 : Option Addr) (l2 : Nat) (k3 : Nat) (m : Mem) (R : Value → Mem → Prop)
    (h : SemW PP (sv (Instr.makeSlice t_s_int (.int .i64 (l2 : Int)) (.int .i64 (l2 : Int)))) m (NextW PP fun v7 m8 => ∃ a4 l5 k6, v7 = .slice a4 l5 k6 ∧ WPS PP 35 c_spec_Codes_rrrlrl (((retK PP r_spec_Codes R).withN fun r m => WPS PP 35 c_spec_Codes_rrrr (retK PP r_spec_Codes R) r m).withX 0) [(0, .slice a1 l2 k3), (2, .slice none 0 0), (3, .slice a4 l5 k6), (4, .int .i64 0), (5, .int .i64 1)] m8)) :
    CallM PP f_spec_Codes #[.slice a1 l2 k3] m R :=
  callM_enter ffOk mixedOk 35 L_spec_Codes Tryz.func81 b_spec_Codes Tryz.ntmps81 (by simp) (Eq.mpr (by kernel_rfl) h)
theorem p_spec_Codes_rrrr (a1 : Option Addr) (l2 : Nat) (k3 : Nat) (m : Mem) (K : Kont)
    (h : K.kr [(2, .slice a1 l2 k3), (3, .slice a1 l2 k3)] m) :
    wpc PP FF 35 L_spec_Codes c_spec_Codes_rrrr K [(3, .slice a1 l2 k3)] m :=
  Eq.mpr (by kernel_rfl) h
theorem p_spec_Codes_rrrlrll (a1 : Option Addr) (l2 : Nat) (k3 : Nat) (a4 : Option Addr) (l5 : Nat) (k6 : Nat) (x7 : Int) (x8 : Int) (m : Mem) (K : Kont)
    (h : ifB (decide (x8 ≤ 15)) (WPS PP 35 c_spec_Codes_rrrlrllrllrrl (((K.withN fun r m => WPS PP 35 c_spec_Codes_rrrlrllrr K r m).withX 1).withX 2) [(0, .slice a1 l2 k3), (3, .slice a4 l5 k6), (4, .int .i64 (IntKind.wrap .i64 (x7 * 2))), (5, .int .i64 x8), (17, .slice a1 l2 k3), (18, .int .i64 (l2 : Int)), (19, .int .i64 0)] m) (K.kx 0 [(0, .slice a1 l2 k3), (3, .slice a4 l5 k6), (4, .int .i64 x7), (5, .int .i64 x8)] m)) :
    wpc PP FF 35 L_spec_Codes c_spec_Codes_rrrlrll K [(0, .slice a1 l2 k3), (3, .slice a4 l5 k6), (4, .int .i64 x7), (5, .int .i64 x8)] m :=
  Eq.mpr (by kernel_rfl) h
theorem p_spec_Codes_rrrlrllrllrrll (a1 : Option Addr) (l2 : Nat) (k3 : Nat) (a4 : Option Addr) (l5 : Nat) (k6 : Nat) (x7 : Int) (x8 : Int) (a9 : Option Addr) (l10 : Nat) (k11 : Nat) (x12 : Int) (x13 : Int) (m : Mem) (K : Kont)
    (h : ifB (decide (x13 < x12)) (onSome a9 fun p14 => (0 ≤ x13 ∧ x13 < (l10 : Int)) ∧ ∃ x15, cell? m (aplus p14 x13.toNat) = some (.int .i64 x15) ∧ ifB (x15 == x8) (onSome a4 fun p16 => (0 ≤ x13 ∧ x13 < (l5 : Int)) ∧ StW m (aplus p16 x13.toNat) (.int .i64 x7) fun m17 => WPS PP 35 c_spec_Codes_rrrlrllrllrrllrrr K [(0, .slice a1 l2 k3), (3, .slice a4 l5 k6), (4, .int .i64 (IntKind.wrap .i64 (x7 + 1))), (5, .int .i64 x8), (6, .int .i64 x13), (7, .int .i64 x15), (17, .slice a9 l10 k11), (18, .int .i64 x12), (19, .int .i64 x13)] m17) (WPS PP 35 c_spec_Codes_rrrlrllrllrrllrrr K [(0, .slice a1 l2 k3), (3, .slice a4 l5 k6), (4, .int .i64 x7), (5, .int .i64 x8), (6, .int .i64 x13), (7, .int .i64 x15), (17, .slice a9 l10 k11), (18, .int .i64 x12), (19, .int .i64 x13)] m)) (K.kx 2 [(0, .slice a1 l2 k3), (3, .slice a4 l5 k6), (4, .int .i64 x7), (5, .int .i64 x8), (17, .slice a9 l10 k11), (18, .int .i64 x12), (19, .int .i64 x13)] m)) :
    wpc PP FF 35 L_spec_Codes c_spec_Codes_rrrlrllrllrrll K [(0, .slice a1 l2 k3), (3, .slice a4 l5 k6), (4, .int .i64 x7), (5, .int .i64 x8), (17, .slice a9 l10 k11), (18, .int .i64 x12), (19, .int .i64 x13)] m :=
  Eq.mpr (by kernel_rfl) h
theorem p_spec_Codes_rrrlrllrr (a1 : Option Addr) (l2 : Nat) (k3 : Nat) (a4 : Option Addr) (l5 : Nat) (k6 : Nat) (x7 : Int) (x8 : Int) (m : Mem) (K : Kont)
    (h : K.kn [(0, .slice a1 l2 k3), (3, .slice a4 l5 k6), (4, .int .i64 x7), (5, .int .i64 (IntKind.wrap .i64 (x8 + 1)))] m) :
    wpc PP FF 35 L_spec_Codes c_spec_Codes_rrrlrllrr K [(0, .slice a1 l2 k3), (3, .slice a4 l5 k6), (4, .int .i64 x7), (5, .int .i64 x8)] m :=
  Eq.mpr (by kernel_rfl) h
theorem p_spec_Codes_rrrlrllrllrrllrrr (a1 : Option Addr) (l2 : Nat) (k3 : Nat) (a4 : Option Addr) (l5 : Nat) (k6 : Nat) (x7 : Int) (x8 : Int) (a9 : Option Addr) (l10 : Nat) (k11 : Nat) (x12 : Int) (x13 : Int) (m : Mem) (K : Kont)
    (h : K.kn [(0, .slice a1 l2 k3), (3, .slice a4 l5 k6), (4, .int .i64 x7), (5, .int .i64 x8), (17, .slice a9 l10 k11), (18, .int .i64 x12), (19, .int .i64 (IntKind.wrap .i64 (x13 + 1)))] m) :
    wpc PP FF 35 L_spec_Codes c_spec_Codes_rrrlrllrllrrllrrr K [(0, .slice a1 l2 k3), (3, .slice a4 l5 k6), (4, .int .i64 x7), (5, .int .i64 x8), (17, .slice a9 l10 k11), (18, .int .i64 x12), (19, .int .i64 x13)] m :=
  Eq.mpr (by kernel_rfl) h
def L_Writer_code : List Nat := [0, 1, 2, 6, 10]
def r_Writer_code : List ResultVar := []
noncomputable def c_Writer_code : Code := (Go.Proofs.Tryz.f82.body).getD .skip
theorem b_Writer_code : Go.Proofs.Tryz.f82.body = some c_Writer_code := by kernel_rfl
noncomputable def c_Writer_code_rl : Code := (lft (rgt c_Writer_code))
noncomputable def c_Writer_code_rll : Code := (lft c_Writer_code_rl)
theorem q_Writer_code_rl : c_Writer_code_rl = .loop c_Writer_code_rll := by kernel_rfl
theorem e_Writer_code (w : Nat) (x1 : Int) (x2 : Int) (m : Mem) (R : Value → Mem → Prop)
    (h : WPS PP 18 c_Writer_code_rl ((retK PP r_Writer_code R).withX 0) [(0, .pointer (some ⟨w, 0, none⟩)), (1, .int .i64 x1), (2, .int .i64 x2), (6, .int .i64 (IntKind.wrap .i64 (x2 - 1)))] m) :
    CallM PP f_Writer_code #[.pointer (some ⟨w, 0, none⟩), .int .i64 x1, .int .i64 x2] m R :=
  callM_enter ffOk mixedOk 18 L_Writer_code Tryz.func82 b_Writer_code Tryz.ntmps82 (by simp) (Eq.mpr (by kernel_rfl) h)
theorem p_Writer_code_rll (w : Nat) (x1 : Int) (x2 : Int) (m : Mem) (K : Kont)
    (h : ifB (decide (x2 ≥ 0)) (0 ≤ x2 ∧ CallM PP f_Writer_bit #[.pointer (some ⟨w, 0, none⟩), .int .i64 (shrOp .i64 x1 x2)] m fun v3 m4 => v3 = .tuple #[] ∧ K.kn [(0, .pointer (some ⟨w, 0, none⟩)), (1, .int .i64 x1), (6, .int .i64 (IntKind.wrap .i64 (x2 - 1)))] m4) (K.kx 0 [(0, .pointer (some ⟨w, 0, none⟩)), (1, .int .i64 x1), (6, .int .i64 x2)] m)) :
    wpc PP FF 18 L_Writer_code c_Writer_code_rll K [(0, .pointer (some ⟨w, 0, none⟩)), (1, .int .i64 x1), (6, .int .i64 x2)] m :=
  Eq.mpr (by kernel_rfl) h
def L_spec_LengthCode : List Nat := [0, 2, 3, 4, 5, 6, 7, 9, 11, 21]
def r_spec_LengthCode : List ResultVar := [.tmp 2, .tmp 3, .tmp 4]
noncomputable def c_spec_LengthCode : Code := (Go.Proofs.Tryz.f83.body).getD .skip
theorem b_spec_LengthCode : Go.Proofs.Tryz.f83.body = some c_spec_LengthCode := by kernel_rfl
noncomputable def c_spec_LengthCode_rrr : Code := (rgt (rgt (rgt c_spec_LengthCode)))
noncomputable def c_spec_LengthCode_rrlrl : Code := (lft (rgt (lft (rgt (rgt c_spec_LengthCode)))))
noncomputable def c_spec_LengthCode_rrlrll : Code := (lft c_spec_LengthCode_rrlrl)
theorem q_spec_LengthCode_rrlrl : c_spec_LengthCode_rrlrl = .loop c_spec_LengthCode_rrlrll := by kernel_rfl
theorem e_spec_LengthCode (x1 : Int) (m : Mem) (R : Value → Mem → Prop)
    (h : ifB (x1 == 258) (R (.tuple #[.int .i64 285, .int .i64 0, .int .i64 0]) m) (WPS PP 27 c_spec_LengthCode_rrlrl (((retK PP r_spec_LengthCode R).withN fun r m => WPS PP 27 c_spec_LengthCode_rrr (retK PP r_spec_LengthCode R) r m).withX 0) [(0, .int .i64 x1), (2, .int .i64 0), (3, .int .i64 0), (4, .int .i64 0), (5, .int .i64 284)] m)) :
    CallM PP f_spec_LengthCode #[.int .i64 x1] m R :=
  callM_enter ffOk mixedOk 27 L_spec_LengthCode Tryz.func83 b_spec_LengthCode Tryz.ntmps83 (by simp) (Eq.mpr (by kernel_rfl) h)
theorem p_spec_LengthCode_rrr  (m : Mem) (K : Kont)
    (h : K.kr [(2, .int .i64 0), (3, .int .i64 0), (4, .int .i64 0)] m  ) :
    wpc PP FF 27 L_spec_LengthCode c_spec_LengthCode_rrr K [] m :=
  Eq.mpr (by kernel_rfl) h
theorem p_spec_LengthCode_rrlrll (x1 : Int) (x2 : Int) (m : Mem) (K : Kont)
    (h : ifB (decide (x2 ≥ 257)) (CallM PP f_spec_Length #[.int .i64 x2] m fun v5 m6 => ∃ x3 x4, v5 = .tuple #[.int .i64 x3, .int .i64 x4] ∧ ifB (decide (x1 ≥ x3)) (K.kr [(0, .int .i64 x1), (2, .int .i64 x2), (3, .int .i64 (IntKind.wrap .i64 (x1 - x3))), (4, .int .i64 x4), (5, .int .i64 x2), (6, .int .i64 x3), (7, .int .i64 x4)] m6) (K.kn [(0, .int .i64 x1), (5, .int .i64 (IntKind.wrap .i64 (x2 - 1))), (6, .int .i64 x3), (7, .int .i64 x4)] m6)) (K.kx 0 [(0, .int .i64 x1), (5, .int .i64 x2)] m)) :
    wpc PP FF 27 L_spec_LengthCode c_spec_LengthCode_rrlrll K [(0, .int .i64 x1), (5, .int .i64 x2)] m :=
  Eq.mpr (by kernel_rfl) h
def L_spec_DistanceCode : List Nat := [0, 2, 3, 4, 5, 6, 7, 9, 19]
def r_spec_DistanceCode : List ResultVar := [.tmp 2, .tmp 3, .tmp 4]
noncomputable def c_spec_DistanceCode : Code := (Go.Proofs.Tryz.f84.body).getD .skip
theorem b_spec_DistanceCode : Go.Proofs.Tryz.f84.body = some c_spec_DistanceCode := by kernel_rfl
noncomputable def c_spec_DistanceCode_rr : Code := (rgt (rgt c_spec_DistanceCode))
noncomputable def c_spec_DistanceCode_rlrl : Code := (lft (rgt (lft (rgt c_spec_DistanceCode))))
noncomputable def c_spec_DistanceCode_rlrll : Code := (lft c_spec_DistanceCode_rlrl)
theorem q_spec_DistanceCode_rlrl : c_spec_DistanceCode_rlrl = .loop c_spec_DistanceCode_rlrll := by kernel_rfl
theorem e_spec_DistanceCode (x1 : Int) (m : Mem) (R : Value → Mem → Prop)
    (h : WPS PP 25 c_spec_DistanceCode_rlrl (((retK PP r_spec_DistanceCode R).withN fun r m => WPS PP 25 c_spec_DistanceCode_rr (retK PP r_spec_DistanceCode R) r m).withX 0) [(0, .int .i64 x1), (2, .int .i64 0), (3, .int .i64 0), (4, .int .i64 0), (5, .int .i64 29)] m) :
    CallM PP f_spec_DistanceCode #[.int .i64 x1] m R :=
  callM_enter ffOk mixedOk 25 L_spec_DistanceCode Tryz.func84 b_spec_DistanceCode Tryz.ntmps84 (by simp) (Eq.mpr (by kernel_rfl) h)
theorem p_spec_DistanceCode_rr  (m : Mem) (K : Kont)
    (h : K.kr [(2, .int .i64 0), (3, .int .i64 0), (4, .int .i64 0)] m  ) :
    wpc PP FF 25 L_spec_DistanceCode c_spec_DistanceCode_rr K [] m :=
  Eq.mpr (by kernel_rfl) h
theorem p_spec_DistanceCode_rlrll (x1 : Int) (x2 : Int) (m : Mem) (K : Kont)
    (h : ifB (decide (x2 ≥ 0)) (CallM PP f_spec_Distance #[.int .i64 x2] m fun v5 m6 => ∃ x3 x4, v5 = .tuple #[.int .i64 x3, .int .i64 x4] ∧ ifB (decide (x1 ≥ x3)) (K.kr [(0, .int .i64 x1), (2, .int .i64 x2), (3, .int .i64 (IntKind.wrap .i64 (x1 - x3))), (4, .int .i64 x4), (5, .int .i64 x2), (6, .int .i64 x3), (7, .int .i64 x4)] m6) (K.kn [(0, .int .i64 x1), (5, .int .i64 (IntKind.wrap .i64 (x2 - 1))), (6, .int .i64 x3), (7, .int .i64 x4)] m6)) (K.kx 0 [(0, .int .i64 x1), (5, .int .i64 x2)] m)) :
    wpc PP FF 25 L_spec_DistanceCode c_spec_DistanceCode_rlrll K [(0, .int .i64 x1), (5, .int .i64 x2)] m :=
  Eq.mpr (by kernel_rfl) h
def L_reader_runs : List Nat := [0, 1, 4, 5, 6, 7, 8, 9, 10, 11, 15, 34, 49, 78, 107]
def r_reader_runs : List ResultVar := [.tmp 4]
noncomputable def c_reader_runs : Code := (Go.Proofs.Tryz.f85.body).getD .skip
theorem b_reader_runs : Go.Proofs.Tryz.f85.body = some c_reader_runs := by kernel_rfl
noncomputable def c_reader_runs_rrr : Code := (rgt (rgt (rgt c_reader_runs)))
noncomputable def c_reader_runs_rrlrl : Code := (lft (rgt (lft (rgt (rgt c_reader_runs)))))
noncomputable def c_reader_runs_rrlrll : Code := (lft c_reader_runs_rrlrl)
noncomputable def c_reader_runs_rrlrllrlrr : Code := (rgt (rgt (lft (rgt c_reader_runs_rrlrll))))
noncomputable def c_reader_runs_rrlrllrlrll : Code := (lft (lft (rgt (lft (rgt c_reader_runs_rrlrll)))))
noncomputable def c_reader_runs_rrlrllrlrlll : Code := (lft c_reader_runs_rrlrllrlrll)
theorem q_reader_runs_rrlrl : c_reader_runs_rrlrl = .loop c_reader_runs_rrlrll := by kernel_rfl
theorem q_reader_runs_rrlrllrlrll : c_reader_runs_rrlrllrlrll = .loop c_reader_runs_rrlrllrlrlll := by kernel_rfl
theorem e_reader_runs (r : Nat) (a1 : Option Addr) (l2 : Nat) (k3 : Nat) (m : Mem) (R : Value → Mem → Prop)
    (h : WPS PP 151 c_reader_runs_rrlrl (((retK PP r_reader_runs R).withN fun r m => WPS PP 151 c_reader_runs_rrr (retK PP r_reader_runs R) r m).withX 0) [(0, .pointer (some ⟨r, 0, none⟩)), (1, .slice a1 l2 k3), (4, .slice none 0 0), (5, .slice none 0 0), (6, .int .i64 0)] m) :
    CallM PP f_reader_runs #[.pointer (some ⟨r, 0, none⟩), .slice a1 l2 k3] m R :=
  callM_enter ffOk mixedOk 151 L_reader_runs Tryz.func85 b_reader_runs Tryz.ntmps85 (by simp) (Eq.mpr (by kernel_rfl) h)
theorem p_reader_runs_rrr (a1 : Option Addr) (l2 : Nat) (k3 : Nat) (m : Mem) (K : Kont)
    (h : K.kr [(4, .slice a1 l2 k3), (5, .slice a1 l2 k3)] m) :
    wpc PP FF 151 L_reader_runs c_reader_runs_rrr K [(5, .slice a1 l2 k3)] m :=
  Eq.mpr (by kernel_rfl) h
theorem p_reader_runs_rrlrll (r : Nat) (a1 : Option Addr) (l2 : Nat) (k3 : Nat) (a4 : Option Addr) (l5 : Nat) (k6 : Nat) (x7 : Int) (m : Mem) (K : Kont)
    (h : ifB (decide (x7 < (l2 : Int))) (WPS PP 151 c_reader_runs_rrlrllrlrll (((K.withX 1).withN fun r m => WPS PP 151 c_reader_runs_rrlrllrlrr (K.withX 1) r m).withX 2) [(0, .pointer (some ⟨r, 0, none⟩)), (1, .slice a1 l2 k3), (5, .slice a4 l5 k6), (6, .int .i64 x7), (7, .int .i64 1)] m) (K.kx 0 [(0, .pointer (some ⟨r, 0, none⟩)), (1, .slice a1 l2 k3), (5, .slice a4 l5 k6), (6, .int .i64 x7)] m)) :
    wpc PP FF 151 L_reader_runs c_reader_runs_rrlrll K [(0, .pointer (some ⟨r, 0, none⟩)), (1, .slice a1 l2 k3), (5, .slice a4 l5 k6), (6, .int .i64 x7)] m :=
  Eq.mpr (by kernel_rfl) h
theorem p_reader_runs_rrlrllrlrlll (r : Nat) (a1 : Option Addr) (l2 : Nat) (k3 : Nat) (a4 : Option Addr) (l5 : Nat) (k6 : Nat) (x7 : Int) (x8 : Int) (m : Mem) (K : Kont)
    (h : ifB (decide ((IntKind.wrap .i64 (x7 + x8)) < (l2 : Int))) (onSome a1 fun p9 => (0 ≤ (IntKind.wrap .i64 (x7 + x8)) ∧ (IntKind.wrap .i64 (x7 + x8)) < (l2 : Int)) ∧ ∃ x10, cell? m (aplus p9 ((IntKind.wrap .i64 (x7 + x8)).toNat)) = some (.int .i64 x10) ∧ onSome a1 fun p11 => (0 ≤ x7 ∧ x7 < (l2 : Int)) ∧ ∃ x12, cell? m (aplus p11 x7.toNat) = some (.int .i64 x12) ∧ ifB (x10 == x12) (K.kn [(0, .pointer (some ⟨r, 0, none⟩)), (1, .slice a1 l2 k3), (5, .slice a4 l5 k6), (6, .int .i64 x7), (7, .int .i64 (IntKind.wrap .i64 (x8 + 1)))] m) (K.kx 2 [(0, .pointer (some ⟨r, 0, none⟩)), (1, .slice a1 l2 k3), (5, .slice a4 l5 k6), (6, .int .i64 x7), (7, .int .i64 x8)] m)) (K.kx 2 [(0, .pointer (some ⟨r, 0, none⟩)), (1, .slice a1 l2 k3), (5, .slice a4 l5 k6), (6, .int .i64 x7), (7, .int .i64 x8)] m)) :
    wpc PP FF 151 L_reader_runs c_reader_runs_rrlrllrlrlll K [(0, .pointer (some ⟨r, 0, none⟩)), (1, .slice a1 l2 k3), (5, .slice a4 l5 k6), (6, .int .i64 x7), (7, .int .i64 x8)] m :=
  Eq.mpr (by kernel_rfl) h
end Go.M
