/- What pieces of the code come to. -/
import Derived.Test.YtaocijfaakgliaaDoorPke
set_option maxRecDepth 100000
namespace Go.M
open Go Go.Proofs
/-! loop.example/pub-inflation/laws.FnDistance -/
def L_laws_FnDistance : List Nat := [0, 1, 4, 5, 6, 7, 8, 22]
def r_laws_FnDistance : List ResultVar := [.tmp 4]
noncomputable def c_laws_FnDistance : Code := (Go.Proofs.Tryd.f3.body).getD .skip
theorem b_laws_FnDistance : Go.Proofs.Tryd.f3.body = some c_laws_FnDistance := by kernel_rfl
theorem e_laws_FnDistance (x1 : Int) (x2 : Int) (m : Mem) (R : Value → Mem → Prop)
    (h : ifB (decide (x1 < 1)) (R (.bool true) m) (ifB (decide (x1 > 32768)) (R (.bool true) m) (ifB (decide (x2 < 3)) (R (.bool true) m) (ifB (decide (x2 > 258)) (R (.bool true) m) (CallM PP f_spec_Count #[.int .i64 x1] m fun v6 m7 => ∃ (a3 : Option Addr), ∃ (l4 : Nat), ∃ (k5 : Nat), v6 = .slice a3 l4 k5 ∧ CallM PP f_spec_Match #[.slice a3 l4 k5, .int .i64 x2, .int .i64 x1] m7 fun v14 m15 => ∃ (a8 : Option Addr), ∃ (l9 : Nat), ∃ (k10 : Nat), ∃ (a11 : Option Addr), ∃ (l12 : Nat), ∃ (k13 : Nat), v14 = .tuple #[.slice a8 l9 k10, .slice a11 l12 k13] ∧ CallM PP f_impl_All #[.slice a8 l9 k10, .int .i64 131072] m15 fun v20 m21 => ∃ (a16 : Option Addr), ∃ (l17 : Nat), ∃ (k18 : Nat), ∃ (x19 : Int), v20 = .tuple #[.slice a16 l17 k18, .int .i64 x19] ∧ ifB (x19 == 1) (CallM PP f_laws_same #[.slice a16 l17 k18, .slice a11 l12 k13] m21 fun v23 m24 => ∃ (b22 : Bool), v23 = .bool b22 ∧ R (.bool b22) m24) (R (.bool false) m21)))))) :
    CallM PP f_laws_FnDistance #[.int .i64 x1, .int .i64 x2] m R :=
  callM_enter ffOk mixedOk 43 L_laws_FnDistance Tryd.func3 b_laws_FnDistance Tryd.ntmps3 (by simp) (Eq.mpr (by kernel_rfl) h)

/-! loop.example/pub-inflation/laws.FnLiteral -/
def L_laws_FnLiteral : List Nat := [0, 2, 3, 4]
def r_laws_FnLiteral : List ResultVar := [.tmp 2]
noncomputable def c_laws_FnLiteral : Code := (Go.Proofs.Tryd.f4.body).getD .skip
theorem b_laws_FnLiteral : Go.Proofs.Tryd.f4.body = some c_laws_FnLiteral := by kernel_rfl
theorem e_laws_FnLiteral (x1 : Int) (m : Mem) (R : Value → Mem → Prop)
    (h : CallM PP f_spec_Literal #[.int .u8 x1] m fun v5 m6 => ∃ (a2 : Option Addr), ∃ (l3 : Nat), ∃ (k4 : Nat), v5 = .slice a2 l3 k4 ∧ CallM PP f_impl_All #[.slice a2 l3 k4, .int .i64 131072] m6 fun v11 m12 => ∃ (a7 : Option Addr), ∃ (l8 : Nat), ∃ (k9 : Nat), ∃ (x10 : Int), v11 = .tuple #[.slice a7 l8 k9, .int .i64 x10] ∧ ifB (x10 == 1) (ifB ((l8 : Int) == 1) (onSome a7 fun p13 => (0 ≤ (0 : Int) ∧ (0 : Int) < (l8 : Int)) ∧ ∃ (x14 : Int), cell? m12 (aplus p13 0) = some (.int .u8 x14) ∧ R (.bool (x14 == x1)) m12) (R (.bool false) m12)) (R (.bool false) m12)) :
    CallM PP f_laws_FnLiteral #[.int .u8 x1] m R :=
  callM_enter ffOk mixedOk 25 L_laws_FnLiteral Tryd.func4 b_laws_FnLiteral Tryd.ntmps4 (by simp) (Eq.mpr (by kernel_rfl) h)

/-! loop.example/pub-inflation/laws.FnLong258 -/
def L_laws_FnLong258 : List Nat := [0, 2, 3, 4, 5, 6]
def r_laws_FnLong258 : List ResultVar := [.tmp 2]
noncomputable def c_laws_FnLong258 : Code := (Go.Proofs.Tryd.f5.body).getD .skip
theorem b_laws_FnLong258 : Go.Proofs.Tryd.f5.body = some c_laws_FnLong258 := by kernel_rfl
theorem e_laws_FnLong258 (x1 : Int) (m : Mem) (R : Value → Mem → Prop)
    (h : CallM PP f_spec_Long258 #[.int .u8 x1] m fun v8 m9 => ∃ (a2 : Option Addr), ∃ (l3 : Nat), ∃ (k4 : Nat), ∃ (a5 : Option Addr), ∃ (l6 : Nat), ∃ (k7 : Nat), v8 = .tuple #[.slice a2 l3 k4, .slice a5 l6 k7] ∧ CallM PP f_impl_All #[.slice a2 l3 k4, .int .i64 131072] m9 fun v14 m15 => ∃ (a10 : Option Addr), ∃ (l11 : Nat), ∃ (k12 : Nat), ∃ (x13 : Int), v14 = .tuple #[.slice a10 l11 k12, .int .i64 x13] ∧ ifB (x13 == 1) (CallM PP f_laws_same #[.slice a10 l11 k12, .slice a5 l6 k7] m15 fun v17 m18 => ∃ (b16 : Bool), v17 = .bool b16 ∧ R (.bool b16) m18) (R (.bool false) m15)) :
    CallM PP f_laws_FnLong258 #[.int .u8 x1] m R :=
  callM_enter ffOk mixedOk 24 L_laws_FnLong258 Tryd.func5 b_laws_FnLong258 Tryd.ntmps5 (by simp) (Eq.mpr (by kernel_rfl) h)

/-! loop.example/pub-inflation/laws.FnOverlap -/
def L_laws_FnOverlap : List Nat := [0, 1, 2, 6, 7, 9, 10, 11, 14, 17, 38, 67, 73, 86]
def r_laws_FnOverlap : List ResultVar := [.tmp 6]
noncomputable def c_laws_FnOverlap : Code := (Go.Proofs.Tryd.f6.body).getD .skip
theorem b_laws_FnOverlap : Go.Proofs.Tryd.f6.body = some c_laws_FnOverlap := by kernel_rfl
noncomputable def c_laws_FnOverlap_rrrrrrrr : Code := (rgt (rgt (rgt (rgt (rgt (rgt (rgt (rgt c_laws_FnOverlap))))))))
noncomputable def c_laws_FnOverlap_rrrrrrrlrl : Code := (lft (rgt (lft (rgt (rgt (rgt (rgt (rgt (rgt (rgt c_laws_FnOverlap))))))))))
noncomputable def c_laws_FnOverlap_rrrrrrrlrll : Code := (lft c_laws_FnOverlap_rrrrrrrlrl)
theorem q_laws_FnOverlap_rrrrrrrlrl : c_laws_FnOverlap_rrrrrrrlrl = .loop c_laws_FnOverlap_rrrrrrrlrll := by kernel_rfl
/- the loop at rrrrrrrlrl: slots [2, 9, 11] -/
theorem e_laws_FnOverlap (a1 : Option Addr) (l2 : Nat) (k3 : Nat) (x4 : Int) (x5 : Int) (m : Mem) (R : Value → Mem → Prop)
    (h : ifB (decide ((l2 : Int) > 2147483647)) (R (.bool true) m) (ifB (decide ((l2 : Int) > 16777216)) (R (.bool true) m) (ifB (decide (x4 < 3)) (R (.bool true) m) (ifB (decide (x4 > 258)) (R (.bool true) m) (ifB (decide (x5 < 1)) (R (.bool true) m) (ifB (decide (x5 > (l2 : Int))) (R (.bool true) m) (ifB (decide ((l2 : Int) > 300)) (R (.bool true) m) (CallM PP f_spec_Match #[.slice a1 l2 k3, .int .i64 x4, .int .i64 x5] m fun v12 m13 => ∃ (a6 : Option Addr), ∃ (l7 : Nat), ∃ (k8 : Nat), ∃ (a9 : Option Addr), ∃ (l10 : Nat), ∃ (k11 : Nat), v12 = .tuple #[.slice a6 l7 k8, .slice a9 l10 k11] ∧ CallM PP f_impl_All #[.slice a6 l7 k8, .int .i64 131072] m13 fun v18 m19 => ∃ (a14 : Option Addr), ∃ (l15 : Nat), ∃ (k16 : Nat), ∃ (x17 : Int), v18 = .tuple #[.slice a14 l15 k16, .int .i64 x17] ∧ ifB (x17 != 1) (R (.bool false) m19) (ifB ((l15 : Int) != IntKind.wrap .i64 ((l2 : Int) + x4)) (R (.bool false) m19) (CallM PP f_laws_begins #[.slice a14 l15 k16, .slice a1 l2 k3] m19 fun v21 m22 => ∃ (b20 : Bool), v21 = .bool b20 ∧ ifB (!b20) (R (.bool false) m22) (WPS PP 87 c_laws_FnOverlap_rrrrrrrlrl (((retK PP r_laws_FnOverlap R).withN fun r m => WPS PP 87 c_laws_FnOverlap_rrrrrrrr (retK PP r_laws_FnOverlap R) r m).withX 0) [(0, .slice a1 l2 k3), (1, .int .i64 x4), (2, .int .i64 x5), (6, .bool false), (7, .slice a6 l7 k8), (9, .slice a14 l15 k16), (10, .int .i64 x17), (11, .int .i64 (l2 : Int))] m22))))))))))) :
    CallM PP f_laws_FnOverlap #[.slice a1 l2 k3, .int .i64 x4, .int .i64 x5] m R :=
  callM_enter ffOk mixedOk 87 L_laws_FnOverlap Tryd.func6 b_laws_FnOverlap Tryd.ntmps6 (by simp) (Eq.mpr (by kernel_rfl) h)

def k_laws_FnOverlap_rrrrrrrr : List Nat := []
theorem p_laws_FnOverlap_rrrrrrrr  (m : Mem) (K : Kont)
    (h : K.kr [(6, .bool true)] m  ) :
    wpc PP FF 87 L_laws_FnOverlap c_laws_FnOverlap_rrrrrrrr K [] m :=
  Eq.mpr (by kernel_rfl) h

def k_laws_FnOverlap_rrrrrrrlrll : List Nat := [2, 9, 11]
theorem p_laws_FnOverlap_rrrrrrrlrll (x1 : Int) (a2 : Option Addr) (l3 : Nat) (k4 : Nat) (x5 : Int) (m : Mem) (K : Kont)
    (h : ifB (decide (x5 < (l3 : Int))) (onSome a2 fun p6 => (0 ≤ x5 ∧ x5 < (l3 : Int)) ∧ ∃ (x7 : Int), cell? m (aplus p6 x5.toNat) = some (.int .u8 x7) ∧ onSome a2 fun p8 => (0 ≤ (IntKind.wrap .i64 (x5 - x1)) ∧ (IntKind.wrap .i64 (x5 - x1)) < (l3 : Int)) ∧ ∃ (x9 : Int), cell? m (aplus p8 ((IntKind.wrap .i64 (x5 - x1)).toNat)) = some (.int .u8 x9) ∧ ifB (x7 != x9) (K.kr [(2, .int .i64 x1), (6, .bool false), (9, .slice a2 l3 k4), (11, .int .i64 x5)] m) (K.kn [(2, .int .i64 x1), (9, .slice a2 l3 k4), (11, .int .i64 (IntKind.wrap .i64 (x5 + 1)))] m)) (K.kx 0 [(2, .int .i64 x1), (9, .slice a2 l3 k4), (11, .int .i64 x5)] m)) :
    wpc PP FF 87 L_laws_FnOverlap c_laws_FnOverlap_rrrrrrrlrll K [(2, .int .i64 x1), (9, .slice a2 l3 k4), (11, .int .i64 x5)] m :=
  Eq.mpr (by kernel_rfl) h

/-! loop.example/pub-inflation/laws.FnRepeat -/
def L_laws_FnRepeat : List Nat := [0, 1, 4, 5, 7, 8, 10, 16, 37, 38, 39, 40, 41, 46]
def r_laws_FnRepeat : List ResultVar := [.tmp 4]
noncomputable def c_laws_FnRepeat : Code := (Go.Proofs.Tryd.f7.body).getD .skip
theorem b_laws_FnRepeat : Go.Proofs.Tryd.f7.body = some c_laws_FnRepeat := by kernel_rfl
noncomputable def c_laws_FnRepeat_rrrrrr : Code := (rgt (rgt (rgt (rgt (rgt (rgt c_laws_FnRepeat))))))
noncomputable def c_laws_FnRepeat_rrrrrlrl : Code := (lft (rgt (lft (rgt (rgt (rgt (rgt (rgt c_laws_FnRepeat))))))))
noncomputable def c_laws_FnRepeat_rrrrrlrll : Code := (lft c_laws_FnRepeat_rrrrrlrl)
theorem q_laws_FnRepeat_rrrrrlrl : c_laws_FnRepeat_rrrrrlrl = .loop c_laws_FnRepeat_rrrrrlrll := by kernel_rfl
/- the loop at rrrrrlrl: slots [0, 38, 39, 40] -/
theorem e_laws_FnRepeat (x1 : Int) (x2 : Int) (m : Mem) (R : Value → Mem → Prop)
    (h : ifB (decide (x2 < 3)) (R (.bool true) m) (ifB (decide (x2 > 258)) (R (.bool true) m) (SemW PP (sv (Instr.buildSlice t_s_uint8 1 #[(0, .int .u8 x1)])) m (NextW PP fun v6 m7 => ∃ (a3 : Option Addr), ∃ (l4 : Nat), ∃ (k5 : Nat), v6 = .slice a3 l4 k5 ∧ CallM PP f_spec_Match #[.slice a3 l4 k5, .int .i64 x2, .int .i64 1] m7 fun v14 m15 => ∃ (a8 : Option Addr), ∃ (l9 : Nat), ∃ (k10 : Nat), ∃ (a11 : Option Addr), ∃ (l12 : Nat), ∃ (k13 : Nat), v14 = .tuple #[.slice a8 l9 k10, .slice a11 l12 k13] ∧ CallM PP f_impl_All #[.slice a8 l9 k10, .int .i64 131072] m15 fun v20 m21 => ∃ (a16 : Option Addr), ∃ (l17 : Nat), ∃ (k18 : Nat), ∃ (x19 : Int), v20 = .tuple #[.slice a16 l17 k18, .int .i64 x19] ∧ ifB (x19 != 1) (R (.bool false) m21) (ifB ((l17 : Int) != IntKind.wrap .i64 (x2 + 1)) (R (.bool false) m21) (WPS PP 48 c_laws_FnRepeat_rrrrrlrl (((retK PP r_laws_FnRepeat R).withN fun r m => WPS PP 48 c_laws_FnRepeat_rrrrrr (retK PP r_laws_FnRepeat R) r m).withX 0) [(0, .int .u8 x1), (1, .int .i64 x2), (4, .bool false), (5, .slice a8 l9 k10), (7, .slice a16 l17 k18), (8, .int .i64 x19), (38, .slice a16 l17 k18), (39, .int .i64 (l17 : Int)), (40, .int .i64 0)] m21)))))) :
    CallM PP f_laws_FnRepeat #[.int .u8 x1, .int .i64 x2] m R :=
  callM_enter ffOk mixedOk 48 L_laws_FnRepeat Tryd.func7 b_laws_FnRepeat Tryd.ntmps7 (by simp) (Eq.mpr (by kernel_rfl) h)

def k_laws_FnRepeat_rrrrrr : List Nat := []
theorem p_laws_FnRepeat_rrrrrr  (m : Mem) (K : Kont)
    (h : K.kr [(4, .bool true)] m  ) :
    wpc PP FF 48 L_laws_FnRepeat c_laws_FnRepeat_rrrrrr K [] m :=
  Eq.mpr (by kernel_rfl) h

def k_laws_FnRepeat_rrrrrlrll : List Nat := [0, 38, 39, 40]
theorem p_laws_FnRepeat_rrrrrlrll (x1 : Int) (a2 : Option Addr) (l3 : Nat) (k4 : Nat) (x5 : Int) (x6 : Int) (m : Mem) (K : Kont)
    (h : ifB (decide (x6 < x5)) (onSome a2 fun p7 => (0 ≤ x6 ∧ x6 < (l3 : Int)) ∧ ∃ (x8 : Int), cell? m (aplus p7 x6.toNat) = some (.int .u8 x8) ∧ ifB (x8 != x1) (K.kr [(0, .int .u8 x1), (4, .bool false), (10, .int .u8 x8), (38, .slice a2 l3 k4), (39, .int .i64 x5), (40, .int .i64 x6)] m) (K.kn [(0, .int .u8 x1), (10, .int .u8 x8), (38, .slice a2 l3 k4), (39, .int .i64 x5), (40, .int .i64 (IntKind.wrap .i64 (x6 + 1)))] m)) (K.kx 0 [(0, .int .u8 x1), (38, .slice a2 l3 k4), (39, .int .i64 x5), (40, .int .i64 x6)] m)) :
    wpc PP FF 48 L_laws_FnRepeat c_laws_FnRepeat_rrrrrlrll K [(0, .int .u8 x1), (38, .slice a2 l3 k4), (39, .int .i64 x5), (40, .int .i64 x6)] m :=
  Eq.mpr (by kernel_rfl) h

/-! loop.example/pub-inflation/laws.FnStoredAny -/
def L_laws_FnStoredAny : List Nat := [0, 1, 4, 5, 6, 9, 12]
def r_laws_FnStoredAny : List ResultVar := [.tmp 4]
noncomputable def c_laws_FnStoredAny : Code := (Go.Proofs.Tryd.f8.body).getD .skip
theorem b_laws_FnStoredAny : Go.Proofs.Tryd.f8.body = some c_laws_FnStoredAny := by kernel_rfl
theorem e_laws_FnStoredAny (a1 : Option Addr) (l2 : Nat) (k3 : Nat) (x4 : Int) (m : Mem) (R : Value → Mem → Prop)
    (h : ifB (decide ((l2 : Int) > 2147483647)) (R (.bool true) m) (ifB (decide ((l2 : Int) > 16777216)) (R (.bool true) m) (CallM PP f_spec_Store #[.slice a1 l2 k3, .bool true, .int .i64 x4] m fun v8 m9 => ∃ (a5 : Option Addr), ∃ (l6 : Nat), ∃ (k7 : Nat), v8 = .slice a5 l6 k7 ∧ CallM PP f_impl_All #[.slice a5 l6 k7, .int .i64 131072] m9 fun v14 m15 => ∃ (a10 : Option Addr), ∃ (l11 : Nat), ∃ (k12 : Nat), ∃ (x13 : Int), v14 = .tuple #[.slice a10 l11 k12, .int .i64 x13] ∧ ifB (decide ((l2 : Int) > 131072)) (R (.bool true) m15) (ifB (x13 == 1) (CallM PP f_laws_same #[.slice a10 l11 k12, .slice a1 l2 k3] m15 fun v17 m18 => ∃ (b16 : Bool), v17 = .bool b16 ∧ R (.bool b16) m18) (R (.bool false) m15))))) :
    CallM PP f_laws_FnStoredAny #[.slice a1 l2 k3, .int .i64 x4] m R :=
  callM_enter ffOk mixedOk 32 L_laws_FnStoredAny Tryd.func8 b_laws_FnStoredAny Tryd.ntmps8 (by simp) (Eq.mpr (by kernel_rfl) h)

/-! loop.example/pub-inflation/laws.FnStoredSize -/
def L_laws_FnStoredSize : List Nat := [0, 2, 3, 4, 10]
def r_laws_FnStoredSize : List ResultVar := [.tmp 2]
noncomputable def c_laws_FnStoredSize : Code := (Go.Proofs.Tryd.f9.body).getD .skip
theorem b_laws_FnStoredSize : Go.Proofs.Tryd.f9.body = some c_laws_FnStoredSize := by kernel_rfl
theorem e_laws_FnStoredSize (x1 : Int) (m : Mem) (R : Value → Mem → Prop)
    (h : ifB (decide (x1 < 0)) (R (.bool true) m) (ifB (decide (x1 > 65535)) (R (.bool true) m) (SemW PP (sv (Instr.makeSlice t_s_uint8 (.int .i64 x1) (.int .i64 x1))) m (NextW PP fun v5 m6 => ∃ (a2 : Option Addr), ∃ (l3 : Nat), ∃ (k4 : Nat), v5 = .slice a2 l3 k4 ∧ CallM PP f_spec_Store #[.slice a2 l3 k4, .bool true, .int .i64 0] m6 fun v10 m11 => ∃ (a7 : Option Addr), ∃ (l8 : Nat), ∃ (k9 : Nat), v10 = .slice a7 l8 k9 ∧ CallM PP f_impl_All #[.slice a7 l8 k9, .int .i64 131072] m11 fun v16 m17 => ∃ (a12 : Option Addr), ∃ (l13 : Nat), ∃ (k14 : Nat), ∃ (x15 : Int), v16 = .tuple #[.slice a12 l13 k14, .int .i64 x15] ∧ ifB (x15 == 1) (SemW PP (sv (Instr.makeSlice t_s_uint8 (.int .i64 x1) (.int .i64 x1))) m17 (NextW PP fun v21 m22 => ∃ (a18 : Option Addr), ∃ (l19 : Nat), ∃ (k20 : Nat), v21 = .slice a18 l19 k20 ∧ CallM PP f_laws_same #[.slice a12 l13 k14, .slice a18 l19 k20] m22 fun v24 m25 => ∃ (b23 : Bool), v24 = .bool b23 ∧ R (.bool b23) m25)) (R (.bool false) m17))))) :
    CallM PP f_laws_FnStoredSize #[.int .i64 x1] m R :=
  callM_enter ffOk mixedOk 26 L_laws_FnStoredSize Tryd.func9 b_laws_FnStoredSize Tryd.ntmps9 (by simp) (Eq.mpr (by kernel_rfl) h)

/-! loop.example/pub-inflation/spec.Match -/
def L_spec_Match : List Nat := [0, 1, 2, 6, 7, 8, 9, 10, 16]
def r_spec_Match : List ResultVar := [.tmp 6, .tmp 7]
noncomputable def c_spec_Match : Code := (Go.Proofs.Tryd.f10.body).getD .skip
theorem b_spec_Match : Go.Proofs.Tryd.f10.body = some c_spec_Match := by kernel_rfl
noncomputable def c_spec_Match_rrr : Code := (rgt (rgt (rgt c_spec_Match)))
noncomputable def c_spec_Match_rrlrl : Code := (lft (rgt (lft (rgt (rgt c_spec_Match)))))
noncomputable def c_spec_Match_rrlrll : Code := (lft c_spec_Match_rrlrl)
theorem q_spec_Match_rrlrl : c_spec_Match_rrlrl = .loop c_spec_Match_rrlrll := by kernel_rfl
/- the loop at rrlrl: slots [0, 1, 2, 8, 9] -/
theorem e_spec_Match (a1 : Option Addr) (l2 : Nat) (k3 : Nat) (x4 : Int) (x5 : Int) (m : Mem) (R : Value → Mem → Prop)
    (h : BoxW t_spec_Writer (.agg #[.slice none 0 0, .int .i64 0]) m fun n6 m7 => WPS PP 45 c_spec_Match_rrlrl (((retK PP r_spec_Match R).withN fun r m => WPS PP 45 c_spec_Match_rrr (retK PP r_spec_Match R) r m).withX 0) [(0, .slice a1 l2 k3), (1, .int .i64 x4), (2, .int .i64 x5), (6, .slice none 0 0), (7, .slice none 0 0), (8, .pointer (some ⟨n6, 0, none⟩)), (9, .int .i64 0)] m7) :
    CallM PP f_spec_Match #[.slice a1 l2 k3, .int .i64 x4, .int .i64 x5] m R :=
  callM_enter ffOk mixedOk 45 L_spec_Match Tryd.func10 b_spec_Match Tryd.ntmps10 (by simp) (Eq.mpr (by kernel_rfl) h)

def k_spec_Match_rrr : List Nat := [0, 1, 2, 8]
theorem p_spec_Match_rrr (a1 : Option Addr) (l2 : Nat) (k3 : Nat) (x4 : Int) (x5 : Int) (p6 : Option Addr) (m : Mem) (K : Kont)
    (h : SemW PP (sv (Instr.buildSlice t_s_spec_Item 1 #[(0, .agg #[.int .u8 0, .int .i64 x4, .int .i64 x5])])) m (NextW PP fun v10 m11 => ∃ (a7 : Option Addr), ∃ (l8 : Nat), ∃ (k9 : Nat), v10 = .slice a7 l8 k9 ∧ CallM PP f_Writer_Fixed #[.pointer p6, .slice a7 l8 k9, .bool true] m11 fun v12 m13 => v12 = .tuple #[] ∧ onSome p6 fun p14 => ∃ (a15 : Option Addr), ∃ (l16 : Nat), ∃ (k17 : Nat), cell? m13 p14 = some (.slice a15 l16 k17) ∧ SemW PP (sv (Instr.buildSlice t_s_uint8 0 #[])) m13 (NextW PP fun v21 m22 => ∃ (a18 : Option Addr), ∃ (l19 : Nat), ∃ (k20 : Nat), v21 = .slice a18 l19 k20 ∧ cell? m22 p14 = some (.slice a15 l16 k17) ∧ SemW PP (builtin .append #[t_s_uint8, t_s_uint8] t_s_uint8 #[false, false] #[.slice a18 l19 k20, .slice a1 l2 k3]) m22 (NextW PP fun v26 m27 => ∃ (a23 : Option Addr), ∃ (l24 : Nat), ∃ (k25 : Nat), v26 = .slice a23 l24 k25 ∧ cell? m27 p14 = some (.slice a15 l16 k17) ∧ CallM PP f_spec_Given #[.slice a23 l24 k25, .slice a7 l8 k9] m27 fun v31 m32 => ∃ (a28 : Option Addr), ∃ (l29 : Nat), ∃ (k30 : Nat), v31 = .slice a28 l29 k30 ∧ cell? m32 p14 = some (.slice a15 l16 k17) ∧ K.kr [(0, .slice a1 l2 k3), (1, .int .i64 x4), (2, .int .i64 x5), (6, .slice a15 l16 k17), (7, .slice a28 l29 k30), (8, .pointer p6), (10, .slice a7 l8 k9)] m32)))) :
    wpc PP FF 45 L_spec_Match c_spec_Match_rrr K [(0, .slice a1 l2 k3), (1, .int .i64 x4), (2, .int .i64 x5), (8, .pointer p6)] m :=
  Eq.mpr (by kernel_rfl) h

def k_spec_Match_rrlrll : List Nat := [0, 1, 2, 8, 9]
theorem p_spec_Match_rrlrll (a1 : Option Addr) (l2 : Nat) (k3 : Nat) (x4 : Int) (x5 : Int) (p6 : Option Addr) (x7 : Int) (m : Mem) (K : Kont)
    (h : ifB (decide (x7 < (l2 : Int))) (l2 ≤ k3 ∧ (0 ≤ (if (IntKind.wrap .i64 (x7 + 60000)) < (l2 : Int) then IntKind.wrap .i64 (x7 + 60000) else (l2 : Int)) ∧ (if (IntKind.wrap .i64 (x7 + 60000)) < (l2 : Int) then IntKind.wrap .i64 (x7 + 60000) else (l2 : Int)) ≤ (k3 : Int)) ∧ (0 ≤ x7 ∧ x7 ≤ (if (IntKind.wrap .i64 (x7 + 60000)) < (l2 : Int) then IntKind.wrap .i64 (x7 + 60000) else (l2 : Int))) ∧ CallM PP f_Writer_Stored #[.pointer p6, .slice (subA a1 x7.toNat 1 k3) ((if (IntKind.wrap .i64 (x7 + 60000)) < (l2 : Int) then IntKind.wrap .i64 (x7 + 60000) else (l2 : Int)).toNat - x7.toNat) (k3 - x7.toNat), .bool false, .int .i64 0] m fun v8 m9 => v8 = .tuple #[] ∧ K.kn [(0, .slice a1 l2 k3), (1, .int .i64 x4), (2, .int .i64 x5), (8, .pointer p6), (9, .int .i64 (IntKind.wrap .i64 (x7 + 60000)))] m9) (K.kx 0 [(0, .slice a1 l2 k3), (1, .int .i64 x4), (2, .int .i64 x5), (8, .pointer p6), (9, .int .i64 x7)] m)) :
    wpc PP FF 45 L_spec_Match c_spec_Match_rrlrll K [(0, .slice a1 l2 k3), (1, .int .i64 x4), (2, .int .i64 x5), (8, .pointer p6), (9, .int .i64 x7)] m :=
  Eq.mpr (by kernel_rfl) h

/-! loop.example/pub-inflation/spec.Count -/
def L_spec_Count : List Nat := [0, 2, 3, 4, 8, 9, 10]
def r_spec_Count : List ResultVar := [.tmp 2]
noncomputable def c_spec_Count : Code := (Go.Proofs.Tryd.f11.body).getD .skip
theorem b_spec_Count : Go.Proofs.Tryd.f11.body = some c_spec_Count := by kernel_rfl
noncomputable def c_spec_Count_rrr : Code := (rgt (rgt (rgt c_spec_Count)))
noncomputable def c_spec_Count_rrlrl : Code := (lft (rgt (lft (rgt (rgt c_spec_Count)))))
noncomputable def c_spec_Count_rrlrll : Code := (lft c_spec_Count_rrlrl)
theorem q_spec_Count_rrlrl : c_spec_Count_rrlrl = .loop c_spec_Count_rrlrll := by kernel_rfl
/- the loop at rrlrl: slots [3, 8, 9] -/
theorem e_spec_Count (x1 : Int) (m : Mem) (R : Value → Mem → Prop)
    (h : SemW PP (sv (Instr.makeSlice t_s_uint8 (.int .i64 x1) (.int .i64 x1))) m (NextW PP fun v5 m6 => ∃ (a2 : Option Addr), ∃ (l3 : Nat), ∃ (k4 : Nat), v5 = .slice a2 l3 k4 ∧ WPS PP 24 c_spec_Count_rrlrl (((retK PP r_spec_Count R).withN fun r m => WPS PP 24 c_spec_Count_rrr (retK PP r_spec_Count R) r m).withX 0) [(0, .int .i64 x1), (2, .slice none 0 0), (3, .slice a2 l3 k4), (8, .int .i64 (l3 : Int)), (9, .int .i64 0)] m6)) :
    CallM PP f_spec_Count #[.int .i64 x1] m R :=
  callM_enter ffOk mixedOk 24 L_spec_Count Tryd.func11 b_spec_Count Tryd.ntmps11 (by simp) (Eq.mpr (by kernel_rfl) h)

def k_spec_Count_rrr : List Nat := [3]
theorem p_spec_Count_rrr (a1 : Option Addr) (l2 : Nat) (k3 : Nat) (m : Mem) (K : Kont)
    (h : K.kr [(2, .slice a1 l2 k3), (3, .slice a1 l2 k3)] m) :
    wpc PP FF 24 L_spec_Count c_spec_Count_rrr K [(3, .slice a1 l2 k3)] m :=
  Eq.mpr (by kernel_rfl) h

def k_spec_Count_rrlrll : List Nat := [3, 8, 9]
theorem p_spec_Count_rrlrll (a1 : Option Addr) (l2 : Nat) (k3 : Nat) (x4 : Int) (x5 : Int) (m : Mem) (K : Kont)
    (h : ifB (decide (x5 < x4)) (IntKind.i64 = IntKind.i64 ∧ (251 : Int) ≠ 0 ∧ onSome a1 fun p6 => (0 ≤ x5 ∧ x5 < (l2 : Int)) ∧ StW m (aplus p6 x5.toNat) (.int .u8 (IntKind.wrap .u8 (IntKind.wrap .i64 ((IntKind.wrap .i64 (x5 * 7)) + (IntKind.wrap .i64 ((IntKind.wrap .i64 (Int.tdiv x5 251)) * 3)))))) fun m7 => K.kn [(3, .slice a1 l2 k3), (4, .int .i64 x5), (8, .int .i64 x4), (9, .int .i64 (IntKind.wrap .i64 (x5 + 1)))] m7) (K.kx 0 [(3, .slice a1 l2 k3), (8, .int .i64 x4), (9, .int .i64 x5)] m)) :
    wpc PP FF 24 L_spec_Count c_spec_Count_rrlrll K [(3, .slice a1 l2 k3), (8, .int .i64 x4), (9, .int .i64 x5)] m :=
  Eq.mpr (by kernel_rfl) h

/-! loop.example/pub-inflation/impl.All -/
def L_impl_All : List Nat := [0, 1, 4, 5]
def r_impl_All : List ResultVar := [.tmp 4, .tmp 5]
noncomputable def c_impl_All : Code := (Go.Proofs.Tryd.f12.body).getD .skip
theorem b_impl_All : Go.Proofs.Tryd.f12.body = some c_impl_All := by kernel_rfl
theorem e_impl_All (a1 : Option Addr) (l2 : Nat) (k3 : Nat) (x4 : Int) (m : Mem) (R : Value → Mem → Prop)
    (h : CallM PP f_impl_source #[.slice a1 l2 k3] m fun v6 m7 => ∃ (p5 : Option Addr), v6 = .pointer p5 ∧ CallM PP f_inflate_NewReader #[.iface t_p_bytes_Reader (.pointer p5)] m7 fun v9 m10 => ∃ (v8 : Value), v9 = v8 ∧ CallM PP f_impl_all #[v8, .int .i64 x4] m10 fun v15 m16 => ∃ (a11 : Option Addr), ∃ (l12 : Nat), ∃ (k13 : Nat), ∃ (x14 : Int), v15 = .tuple #[.slice a11 l12 k13, .int .i64 x14] ∧ R (.tuple #[.slice a11 l12 k13, .int .i64 x14]) m16) :
    CallM PP f_impl_All #[.slice a1 l2 k3, .int .i64 x4] m R :=
  callM_enter ffOk mixedOk 14 L_impl_All Tryd.func12 b_impl_All Tryd.ntmps12 (by simp) (Eq.mpr (by kernel_rfl) h)

/-! loop.example/pub-inflation/laws.same -/
def L_laws_same : List Nat := [0, 1, 4]
def r_laws_same : List ResultVar := [.tmp 4]
noncomputable def c_laws_same : Code := (Go.Proofs.Tryd.f13.body).getD .skip
theorem b_laws_same : Go.Proofs.Tryd.f13.body = some c_laws_same := by kernel_rfl
theorem e_laws_same (a1 : Option Addr) (l2 : Nat) (k3 : Nat) (a4 : Option Addr) (l5 : Nat) (k6 : Nat) (m : Mem) (R : Value → Mem → Prop)
    (h : ifB ((l2 : Int) == (l5 : Int)) (CallM PP f_laws_begins #[.slice a1 l2 k3, .slice a4 l5 k6] m fun v8 m9 => ∃ (b7 : Bool), v8 = .bool b7 ∧ R (.bool b7) m9) (R (.bool false) m)) :
    CallM PP f_laws_same #[.slice a1 l2 k3, .slice a4 l5 k6] m R :=
  callM_enter ffOk mixedOk 15 L_laws_same Tryd.func13 b_laws_same Tryd.ntmps13 (by simp) (Eq.mpr (by kernel_rfl) h)

/-! loop.example/pub-inflation/spec.Literal -/
def L_spec_Literal : List Nat := [0, 2, 3]
def r_spec_Literal : List ResultVar := [.tmp 2]
noncomputable def c_spec_Literal : Code := (Go.Proofs.Tryd.f14.body).getD .skip
theorem b_spec_Literal : Go.Proofs.Tryd.f14.body = some c_spec_Literal := by kernel_rfl
theorem e_spec_Literal (x1 : Int) (m : Mem) (R : Value → Mem → Prop)
    (h : BoxW t_spec_Writer (.agg #[.slice none 0 0, .int .i64 0]) m fun n2 m3 => SemW PP (sv (Instr.buildSlice t_s_spec_Item 1 #[(0, .agg #[.int .u8 x1, .int .i64 0, .int .i64 0])])) m3 (NextW PP fun v7 m8 => ∃ (a4 : Option Addr), ∃ (l5 : Nat), ∃ (k6 : Nat), v7 = .slice a4 l5 k6 ∧ CallM PP f_Writer_Fixed #[.pointer (some ⟨n2, 0, none⟩), .slice a4 l5 k6, .bool true] m8 fun v9 m10 => v9 = .tuple #[] ∧ ∃ (a11 : Option Addr), ∃ (l12 : Nat), ∃ (k13 : Nat), cell? m10 ⟨n2, 0, none⟩ = some (.slice a11 l12 k13) ∧ R (.slice a11 l12 k13) m10)) :
    CallM PP f_spec_Literal #[.int .u8 x1] m R :=
  callM_enter ffOk mixedOk 15 L_spec_Literal Tryd.func14 b_spec_Literal Tryd.ntmps14 (by simp) (Eq.mpr (by kernel_rfl) h)

/-! loop.example/pub-inflation/spec.Long258 -/
def L_spec_Long258 : List Nat := [0, 2, 3, 4, 5, 22, 23]
def r_spec_Long258 : List ResultVar := [.tmp 2, .tmp 3]
noncomputable def c_spec_Long258 : Code := (Go.Proofs.Tryd.f15.body).getD .skip
theorem b_spec_Long258 : Go.Proofs.Tryd.f15.body = some c_spec_Long258 := by kernel_rfl
noncomputable def c_spec_Long258_rrrrrrrrrr : Code := (rgt (rgt (rgt (rgt (rgt (rgt (rgt (rgt (rgt (rgt c_spec_Long258))))))))))
noncomputable def c_spec_Long258_rrrrrrrrrlrl : Code := (lft (rgt (lft (rgt (rgt (rgt (rgt (rgt (rgt (rgt (rgt (rgt c_spec_Long258))))))))))))
noncomputable def c_spec_Long258_rrrrrrrrrlrll : Code := (lft c_spec_Long258_rrrrrrrrrlrl)
theorem q_spec_Long258_rrrrrrrrrlrl : c_spec_Long258_rrrrrrrrrlrl = .loop c_spec_Long258_rrrrrrrrrlrll := by kernel_rfl
/- the loop at rrrrrrrrrlrl: slots [0, 4, 5, 22] -/
theorem e_spec_Long258 (x1 : Int) (m : Mem) (R : Value → Mem → Prop)
    (h : BoxW t_spec_Writer (.agg #[.slice none 0 0, .int .i64 0]) m fun n2 m3 => CallM PP f_Writer_Bits #[.pointer (some ⟨n2, 0, none⟩), .int .i64 3, .int .i64 3] m3 fun v4 m5 => v4 = .tuple #[] ∧ CallM PP f_Writer_Symbol #[.pointer (some ⟨n2, 0, none⟩), .int .i64 (IntKind.wrap .i64 x1)] m5 fun v6 m7 => v6 = .tuple #[] ∧ CallM PP f_Writer_Symbol #[.pointer (some ⟨n2, 0, none⟩), .int .i64 284] m7 fun v8 m9 => v8 = .tuple #[] ∧ CallM PP f_Writer_Bits #[.pointer (some ⟨n2, 0, none⟩), .int .i64 31, .int .i64 5] m9 fun v10 m11 => v10 = .tuple #[] ∧ CallM PP f_Writer_code #[.pointer (some ⟨n2, 0, none⟩), .int .i64 0, .int .i64 5] m11 fun v12 m13 => v12 = .tuple #[] ∧ CallM PP f_Writer_Symbol #[.pointer (some ⟨n2, 0, none⟩), .int .i64 256] m13 fun v14 m15 => v14 = .tuple #[] ∧ WPS PP 34 c_spec_Long258_rrrrrrrrrlrl (((retK PP r_spec_Long258 R).withN fun r m => WPS PP 34 c_spec_Long258_rrrrrrrrrr (retK PP r_spec_Long258 R) r m).withX 0) [(0, .int .u8 x1), (2, .slice none 0 0), (3, .slice none 0 0), (4, .pointer (some ⟨n2, 0, none⟩)), (5, .slice none 0 0), (22, .int .i64 0)] m15) :
    CallM PP f_spec_Long258 #[.int .u8 x1] m R :=
  callM_enter ffOk mixedOk 34 L_spec_Long258 Tryd.func15 b_spec_Long258 Tryd.ntmps15 (by simp) (Eq.mpr (by kernel_rfl) h)

def k_spec_Long258_rrrrrrrrrr : List Nat := [4, 5]
theorem p_spec_Long258_rrrrrrrrrr (p1 : Option Addr) (a2 : Option Addr) (l3 : Nat) (k4 : Nat) (m : Mem) (K : Kont)
    (h : onSome p1 fun p5 => ∃ (a6 : Option Addr), ∃ (l7 : Nat), ∃ (k8 : Nat), cell? m p5 = some (.slice a6 l7 k8) ∧ K.kr [(2, .slice a6 l7 k8), (3, .slice a2 l3 k4), (4, .pointer p1), (5, .slice a2 l3 k4)] m) :
    wpc PP FF 34 L_spec_Long258 c_spec_Long258_rrrrrrrrrr K [(4, .pointer p1), (5, .slice a2 l3 k4)] m :=
  Eq.mpr (by kernel_rfl) h

def k_spec_Long258_rrrrrrrrrlrll : List Nat := [0, 4, 5, 22]
theorem p_spec_Long258_rrrrrrrrrlrll (x1 : Int) (p2 : Option Addr) (a3 : Option Addr) (l4 : Nat) (k5 : Nat) (x6 : Int) (m : Mem) (K : Kont)
    (h : ifB (decide (x6 < 259)) (SemW PP (sv (Instr.buildSlice t_s_uint8 1 #[(0, .int .u8 x1)])) m (NextW PP fun v10 m11 => ∃ (a7 : Option Addr), ∃ (l8 : Nat), ∃ (k9 : Nat), v10 = .slice a7 l8 k9 ∧ SemW PP (builtin .append #[t_s_uint8, t_s_uint8] t_s_uint8 #[false, false] #[.slice a3 l4 k5, .slice a7 l8 k9]) m11 (NextW PP fun v15 m16 => ∃ (a12 : Option Addr), ∃ (l13 : Nat), ∃ (k14 : Nat), v15 = .slice a12 l13 k14 ∧ K.kn [(0, .int .u8 x1), (4, .pointer p2), (5, .slice a12 l13 k14), (22, .int .i64 (IntKind.wrap .i64 (x6 + 1)))] m16))) (K.kx 0 [(0, .int .u8 x1), (4, .pointer p2), (5, .slice a3 l4 k5), (22, .int .i64 x6)] m)) :
    wpc PP FF 34 L_spec_Long258 c_spec_Long258_rrrrrrrrrlrll K [(0, .int .u8 x1), (4, .pointer p2), (5, .slice a3 l4 k5), (22, .int .i64 x6)] m :=
  Eq.mpr (by kernel_rfl) h

/-! loop.example/pub-inflation/laws.begins -/
def L_laws_begins : List Nat := [0, 1, 4, 5, 10, 12, 13, 14, 24]
def r_laws_begins : List ResultVar := [.tmp 4]
noncomputable def c_laws_begins : Code := (Go.Proofs.Tryd.f16.body).getD .skip
theorem b_laws_begins : Go.Proofs.Tryd.f16.body = some c_laws_begins := by kernel_rfl
noncomputable def c_laws_begins_rrr : Code := (rgt (rgt (rgt c_laws_begins)))
noncomputable def c_laws_begins_rrlrl : Code := (lft (rgt (lft (rgt (rgt c_laws_begins)))))
noncomputable def c_laws_begins_rrlrll : Code := (lft c_laws_begins_rrlrl)
theorem q_laws_begins_rrlrl : c_laws_begins_rrlrl = .loop c_laws_begins_rrlrll := by kernel_rfl
/- the loop at rrlrl: slots [0, 1, 12, 13] -/
theorem e_laws_begins (a1 : Option Addr) (l2 : Nat) (k3 : Nat) (a4 : Option Addr) (l5 : Nat) (k6 : Nat) (m : Mem) (R : Value → Mem → Prop)
    (h : ifB (decide ((l5 : Int) > (l2 : Int))) (R (.bool false) m) (WPS PP 26 c_laws_begins_rrlrl (((retK PP r_laws_begins R).withN fun r m => WPS PP 26 c_laws_begins_rrr (retK PP r_laws_begins R) r m).withX 0) [(0, .slice a1 l2 k3), (1, .slice a4 l5 k6), (4, .bool false), (12, .int .i64 (l5 : Int)), (13, .int .i64 0)] m)) :
    CallM PP f_laws_begins #[.slice a1 l2 k3, .slice a4 l5 k6] m R :=
  callM_enter ffOk mixedOk 26 L_laws_begins Tryd.func16 b_laws_begins Tryd.ntmps16 (by simp) (Eq.mpr (by kernel_rfl) h)

def k_laws_begins_rrr : List Nat := []
theorem p_laws_begins_rrr  (m : Mem) (K : Kont)
    (h : K.kr [(4, .bool true)] m  ) :
    wpc PP FF 26 L_laws_begins c_laws_begins_rrr K [] m :=
  Eq.mpr (by kernel_rfl) h

def k_laws_begins_rrlrll : List Nat := [0, 1, 12, 13]
theorem p_laws_begins_rrlrll (a1 : Option Addr) (l2 : Nat) (k3 : Nat) (a4 : Option Addr) (l5 : Nat) (k6 : Nat) (x7 : Int) (x8 : Int) (m : Mem) (K : Kont)
    (h : ifB (decide (x8 < x7)) (onSome a1 fun p9 => (0 ≤ x8 ∧ x8 < (l2 : Int)) ∧ ∃ (x10 : Int), cell? m (aplus p9 x8.toNat) = some (.int .u8 x10) ∧ onSome a4 fun p11 => (0 ≤ x8 ∧ x8 < (l5 : Int)) ∧ ∃ (x12 : Int), cell? m (aplus p11 x8.toNat) = some (.int .u8 x12) ∧ ifB (x10 != x12) (K.kr [(0, .slice a1 l2 k3), (1, .slice a4 l5 k6), (4, .bool false), (5, .int .i64 x8), (12, .int .i64 x7), (13, .int .i64 x8)] m) (K.kn [(0, .slice a1 l2 k3), (1, .slice a4 l5 k6), (5, .int .i64 x8), (12, .int .i64 x7), (13, .int .i64 (IntKind.wrap .i64 (x8 + 1)))] m)) (K.kx 0 [(0, .slice a1 l2 k3), (1, .slice a4 l5 k6), (12, .int .i64 x7), (13, .int .i64 x8)] m)) :
    wpc PP FF 26 L_laws_begins c_laws_begins_rrlrll K [(0, .slice a1 l2 k3), (1, .slice a4 l5 k6), (12, .int .i64 x7), (13, .int .i64 x8)] m :=
  Eq.mpr (by kernel_rfl) h

/-! loop.example/pub-inflation/spec.Store -/
def L_spec_Store : List Nat := [0, 1, 2, 6, 7, 12]
def r_spec_Store : List ResultVar := [.tmp 6]
noncomputable def c_spec_Store : Code := (Go.Proofs.Tryd.f17.body).getD .skip
theorem b_spec_Store : Go.Proofs.Tryd.f17.body = some c_spec_Store := by kernel_rfl
noncomputable def c_spec_Store_rrr : Code := (rgt (rgt (rgt c_spec_Store)))
noncomputable def c_spec_Store_rrll : Code := (lft (lft (rgt (rgt c_spec_Store))))
noncomputable def c_spec_Store_rrlll : Code := (lft c_spec_Store_rrll)
theorem q_spec_Store_rrll : c_spec_Store_rrll = .loop c_spec_Store_rrlll := by kernel_rfl
/- the loop at rrll: slots [0, 1, 2, 7] -/
theorem e_spec_Store (a1 : Option Addr) (l2 : Nat) (k3 : Nat) (b4 : Bool) (x5 : Int) (m : Mem) (R : Value → Mem → Prop)
    (h : BoxW t_spec_Writer (.agg #[.slice none 0 0, .int .i64 0]) m fun n6 m7 => WPS PP 29 c_spec_Store_rrll (((retK PP r_spec_Store R).withN fun r m => WPS PP 29 c_spec_Store_rrr (retK PP r_spec_Store R) r m).withX 0) [(0, .slice a1 l2 k3), (1, .bool b4), (2, .int .i64 x5), (6, .slice none 0 0), (7, .pointer (some ⟨n6, 0, none⟩))] m7) :
    CallM PP f_spec_Store #[.slice a1 l2 k3, .bool b4, .int .i64 x5] m R :=
  callM_enter ffOk mixedOk 29 L_spec_Store Tryd.func17 b_spec_Store Tryd.ntmps17 (by simp) (Eq.mpr (by kernel_rfl) h)

def k_spec_Store_rrr : List Nat := [0, 1, 2, 7]
theorem p_spec_Store_rrr (a1 : Option Addr) (l2 : Nat) (k3 : Nat) (b4 : Bool) (x5 : Int) (p6 : Option Addr) (m : Mem) (K : Kont)
    (h : CallM PP f_Writer_Stored #[.pointer p6, .slice a1 l2 k3, .bool b4, .int .i64 x5] m fun v7 m8 => v7 = .tuple #[] ∧ onSome p6 fun p9 => ∃ (a10 : Option Addr), ∃ (l11 : Nat), ∃ (k12 : Nat), cell? m8 p9 = some (.slice a10 l11 k12) ∧ K.kr [(0, .slice a1 l2 k3), (1, .bool b4), (2, .int .i64 x5), (6, .slice a10 l11 k12), (7, .pointer p6)] m8) :
    wpc PP FF 29 L_spec_Store c_spec_Store_rrr K [(0, .slice a1 l2 k3), (1, .bool b4), (2, .int .i64 x5), (7, .pointer p6)] m :=
  Eq.mpr (by kernel_rfl) h

def k_spec_Store_rrlll : List Nat := [0, 1, 2, 7]
theorem p_spec_Store_rrlll (a1 : Option Addr) (l2 : Nat) (k3 : Nat) (b4 : Bool) (x5 : Int) (p6 : Option Addr) (m : Mem) (K : Kont)
    (h : ifB (decide ((l2 : Int) > 65535)) (l2 ≤ k3 ∧ (0 ≤ (65535 : Int) ∧ (65535 : Int) ≤ (k3 : Int)) ∧ CallM PP f_Writer_Stored #[.pointer p6, .slice a1 65535 k3, .bool false, .int .i64 x5] m fun v7 m8 => v7 = .tuple #[] ∧ l2 ≤ k3 ∧ (0 ≤ (65535 : Int) ∧ (65535 : Int) ≤ (l2 : Int)) ∧ K.kn [(0, .slice (subA a1 65535 1 k3) (l2 - 65535) (k3 - 65535)), (1, .bool b4), (2, .int .i64 x5), (7, .pointer p6)] m8) (K.kx 0 [(0, .slice a1 l2 k3), (1, .bool b4), (2, .int .i64 x5), (7, .pointer p6)] m)) :
    wpc PP FF 29 L_spec_Store c_spec_Store_rrlll K [(0, .slice a1 l2 k3), (1, .bool b4), (2, .int .i64 x5), (7, .pointer p6)] m :=
  Eq.mpr (by kernel_rfl) h

/-! (*loop.example/pub-inflation/spec.Writer).Stored -/
def L_Writer_Stored : List Nat := [0, 1, 2, 3, 9, 26, 27, 28, 29]
def r_Writer_Stored : List ResultVar := []
noncomputable def c_Writer_Stored : Code := (Go.Proofs.Tryd.f18.body).getD .skip
theorem b_Writer_Stored : Go.Proofs.Tryd.f18.body = some c_Writer_Stored := by kernel_rfl
noncomputable def c_Writer_Stored_rrrrrl : Code := (lft (rgt (rgt (rgt (rgt (rgt c_Writer_Stored))))))
noncomputable def c_Writer_Stored_rrrrrll : Code := (lft c_Writer_Stored_rrrrrl)
theorem q_Writer_Stored_rrrrrl : c_Writer_Stored_rrrrrl = .loop c_Writer_Stored_rrrrrll := by kernel_rfl
/- the loop at rrrrrl: slots [0, 26, 27, 28] -/
theorem e_Writer_Stored (w : Nat) (a1 : Option Addr) (l2 : Nat) (k3 : Nat) (b4 : Bool) (x5 : Int) (m : Mem) (R : Value → Mem → Prop)
    (h : CallM PP f_spec_flag #[.bool b4] m fun v7 m8 => ∃ (x6 : Int), v7 = .int .i64 x6 ∧ CallM PP f_Writer_Bits #[.pointer (some ⟨w, 0, none⟩), .int .i64 x6, .int .i64 3] m8 fun v9 m10 => v9 = .tuple #[] ∧ CallM PP f_Writer_Pad #[.pointer (some ⟨w, 0, none⟩), .int .i64 x5] m10 fun v11 m12 => v11 = .tuple #[] ∧ CallM PP f_Writer_Bits #[.pointer (some ⟨w, 0, none⟩), .int .i64 (l2 : Int), .int .i64 16] m12 fun v13 m14 => v13 = .tuple #[] ∧ CallM PP f_Writer_Bits #[.pointer (some ⟨w, 0, none⟩), .int .i64 (IntKind.wrap .i64 (65535 - (l2 : Int))), .int .i64 16] m14 fun v15 m16 => v15 = .tuple #[] ∧ WPS PP 37 c_Writer_Stored_rrrrrl ((retK PP r_Writer_Stored R).withX 0) [(0, .pointer (some ⟨w, 0, none⟩)), (1, .slice a1 l2 k3), (2, .bool b4), (3, .int .i64 x5), (26, .slice a1 l2 k3), (27, .int .i64 (l2 : Int)), (28, .int .i64 0)] m16) :
    CallM PP f_Writer_Stored #[.pointer (some ⟨w, 0, none⟩), .slice a1 l2 k3, .bool b4, .int .i64 x5] m R :=
  callM_enter ffOk mixedOk 37 L_Writer_Stored Tryd.func18 b_Writer_Stored Tryd.ntmps18 (by simp) (Eq.mpr (by kernel_rfl) h)

def k_Writer_Stored_rrrrrll : List Nat := [0, 26, 27, 28]
theorem p_Writer_Stored_rrrrrll (w : Nat) (a1 : Option Addr) (l2 : Nat) (k3 : Nat) (x4 : Int) (x5 : Int) (m : Mem) (K : Kont)
    (h : ifB (decide (x5 < x4)) (onSome a1 fun p6 => (0 ≤ x5 ∧ x5 < (l2 : Int)) ∧ ∃ (x7 : Int), cell? m (aplus p6 x5.toNat) = some (.int .u8 x7) ∧ CallM PP f_Writer_Bits #[.pointer (some ⟨w, 0, none⟩), .int .i64 (IntKind.wrap .i64 x7), .int .i64 8] m fun v8 m9 => v8 = .tuple #[] ∧ K.kn [(0, .pointer (some ⟨w, 0, none⟩)), (9, .int .u8 x7), (26, .slice a1 l2 k3), (27, .int .i64 x4), (28, .int .i64 (IntKind.wrap .i64 (x5 + 1)))] m9) (K.kx 0 [(0, .pointer (some ⟨w, 0, none⟩)), (26, .slice a1 l2 k3), (27, .int .i64 x4), (28, .int .i64 x5)] m)) :
    wpc PP FF 37 L_Writer_Stored c_Writer_Stored_rrrrrll K [(0, .pointer (some ⟨w, 0, none⟩)), (26, .slice a1 l2 k3), (27, .int .i64 x4), (28, .int .i64 x5)] m :=
  Eq.mpr (by kernel_rfl) h

/-! (*loop.example/pub-inflation/spec.Writer).Fixed -/
def L_Writer_Fixed : List Nat := [0, 1, 2, 6, 7]
def r_Writer_Fixed : List ResultVar := []
noncomputable def c_Writer_Fixed : Code := (Go.Proofs.Tryd.f19.body).getD .skip
theorem b_Writer_Fixed : Go.Proofs.Tryd.f19.body = some c_Writer_Fixed := by kernel_rfl
theorem e_Writer_Fixed (w : Nat) (a1 : Option Addr) (l2 : Nat) (k3 : Nat) (b4 : Bool) (m : Mem) (R : Value → Mem → Prop)
    (h : CallM PP f_spec_flag #[.bool b4] m fun v6 m7 => ∃ (x5 : Int), v6 = .int .i64 x5 ∧ IntKind.i64 = IntKind.i64 ∧ CallM PP f_Writer_Bits #[.pointer (some ⟨w, 0, none⟩), .int .i64 (bitsOp .or .i64 x5 2), .int .i64 3] m7 fun v8 m9 => v8 = .tuple #[] ∧ CallM PP f_spec_fixed #[] m9 fun v16 m17 => ∃ (a10 : Option Addr), ∃ (l11 : Nat), ∃ (k12 : Nat), ∃ (a13 : Option Addr), ∃ (l14 : Nat), ∃ (k15 : Nat), v16 = .tuple #[.slice a10 l11 k12, .slice a13 l14 k15] ∧ CallM PP f_Writer_items #[.pointer (some ⟨w, 0, none⟩), .slice a1 l2 k3, .slice a10 l11 k12, .slice a13 l14 k15] m17 fun v18 m19 => v18 = .tuple #[] ∧ R (.tuple #[]) m19) :
    CallM PP f_Writer_Fixed #[.pointer (some ⟨w, 0, none⟩), .slice a1 l2 k3, .bool b4] m R :=
  callM_enter ffOk mixedOk 22 L_Writer_Fixed Tryd.func19 b_Writer_Fixed Tryd.ntmps19 (by simp) (Eq.mpr (by kernel_rfl) h)

/-! loop.example/pub-inflation/spec.Given -/
def L_spec_Given : List Nat := [0, 1, 4, 6, 7, 8, 9, 10, 15, 22, 23, 24]
def r_spec_Given : List ResultVar := [.tmp 4]
noncomputable def c_spec_Given : Code := (Go.Proofs.Tryd.f20.body).getD .skip
theorem b_spec_Given : Go.Proofs.Tryd.f20.body = some c_spec_Given := by kernel_rfl
noncomputable def c_spec_Given_rr : Code := (rgt (rgt c_spec_Given))
noncomputable def c_spec_Given_rlrl : Code := (lft (rgt (lft (rgt c_spec_Given))))
noncomputable def c_spec_Given_rlrll : Code := (lft c_spec_Given_rlrl)
noncomputable def c_spec_Given_rlrllrrr : Code := (rgt (rgt (rgt c_spec_Given_rlrll)))
noncomputable def c_spec_Given_rlrllrrllrr : Code := (rgt (rgt (lft (lft (rgt (rgt c_spec_Given_rlrll))))))
noncomputable def c_spec_Given_rlrllrrllrrrl : Code := (lft (rgt c_spec_Given_rlrllrrllrr))
noncomputable def c_spec_Given_rlrllrrllrrrll : Code := (lft c_spec_Given_rlrllrrllrrrl)
theorem q_spec_Given_rlrl : c_spec_Given_rlrl = .loop c_spec_Given_rlrll := by kernel_rfl
theorem q_spec_Given_rlrllrrllrrrl : c_spec_Given_rlrllrrllrrrl = .loop c_spec_Given_rlrllrrllrrrll := by kernel_rfl
/- the loop at rlrl: slots [0, 7, 8, 9] -/
/- the loop at rlrllrrllrrrl: slots [0, 6, 7, 8, 9, 22, 23] -/
theorem e_spec_Given (a1 : Option Addr) (l2 : Nat) (k3 : Nat) (a4 : Option Addr) (l5 : Nat) (k6 : Nat) (m : Mem) (R : Value → Mem → Prop)
    (h : WPS PP 39 c_spec_Given_rlrl (((retK PP r_spec_Given R).withN fun r m => WPS PP 39 c_spec_Given_rr (retK PP r_spec_Given R) r m).withX 0) [(0, .slice a1 l2 k3), (1, .slice a4 l5 k6), (4, .slice none 0 0), (7, .slice a4 l5 k6), (8, .int .i64 (l5 : Int)), (9, .int .i64 0)] m) :
    CallM PP f_spec_Given #[.slice a1 l2 k3, .slice a4 l5 k6] m R :=
  callM_enter ffOk mixedOk 39 L_spec_Given Tryd.func20 b_spec_Given Tryd.ntmps20 (by simp) (Eq.mpr (by kernel_rfl) h)

def k_spec_Given_rr : List Nat := [0]
theorem p_spec_Given_rr (a1 : Option Addr) (l2 : Nat) (k3 : Nat) (m : Mem) (K : Kont)
    (h : K.kr [(0, .slice a1 l2 k3), (4, .slice a1 l2 k3)] m) :
    wpc PP FF 39 L_spec_Given c_spec_Given_rr K [(0, .slice a1 l2 k3)] m :=
  Eq.mpr (by kernel_rfl) h

def k_spec_Given_rlrll : List Nat := [0, 7, 8, 9]
theorem p_spec_Given_rlrll (a1 : Option Addr) (l2 : Nat) (k3 : Nat) (a4 : Option Addr) (l5 : Nat) (k6 : Nat) (x7 : Int) (x8 : Int) (m : Mem) (K : Kont)
    (h : ifB (decide (x8 < x7)) (onSome a4 fun p9 => (0 ≤ x8 ∧ x8 < (l5 : Int)) ∧ ∃ (x10 : Int), ∃ (x11 : Int), ∃ (x12 : Int), ([.int .u8 x10, .int .i64 x11, .int .i64 x12] : List Value).length = 3 ∧ CellsAre m (aplus p9 (x8.toNat * 3)) 0 [.int .u8 x10, .int .i64 x11, .int .i64 x12] ∧ AllocW PP t_spec_Item m fun n13 m14 => StAgg PP t_spec_Item m14 ⟨n13, 0, none⟩ (.agg #[.int .u8 x10, .int .i64 x11, .int .i64 x12]) fun m15 => ∃ (x16 : Int), cell? m15 ⟨n13, 1, none⟩ = some (.int .i64 x16) ∧ ifB (x16 == 0) (∃ (x17 : Int), cell? m15 ⟨n13, 0, none⟩ = some (.int .u8 x17) ∧ SemW PP (sv (Instr.buildSlice t_s_uint8 1 #[(0, .int .u8 x17)])) m15 (NextW PP fun v21 m22 => ∃ (a18 : Option Addr), ∃ (l19 : Nat), ∃ (k20 : Nat), v21 = .slice a18 l19 k20 ∧ SemW PP (builtin .append #[t_s_uint8, t_s_uint8] t_s_uint8 #[false, false] #[.slice a1 l2 k3, .slice a18 l19 k20]) m22 (NextW PP fun v26 m27 => ∃ (a23 : Option Addr), ∃ (l24 : Nat), ∃ (k25 : Nat), v26 = .slice a23 l24 k25 ∧ WPS PP 39 c_spec_Given_rlrllrrllrr ((K.withN fun r m => WPS PP 39 c_spec_Given_rlrllrrr K r m).withX 1) [(0, .slice a23 l24 k25), (6, .pointer (some ⟨n13, 0, none⟩)), (7, .slice a4 l5 k6), (8, .int .i64 x7), (9, .int .i64 x8)] m27))) (WPS PP 39 c_spec_Given_rlrllrrllrr ((K.withN fun r m => WPS PP 39 c_spec_Given_rlrllrrr K r m).withX 1) [(0, .slice a1 l2 k3), (6, .pointer (some ⟨n13, 0, none⟩)), (7, .slice a4 l5 k6), (8, .int .i64 x7), (9, .int .i64 x8)] m15)) (K.kx 0 [(0, .slice a1 l2 k3), (7, .slice a4 l5 k6), (8, .int .i64 x7), (9, .int .i64 x8)] m)) :
    wpc PP FF 39 L_spec_Given c_spec_Given_rlrll K [(0, .slice a1 l2 k3), (7, .slice a4 l5 k6), (8, .int .i64 x7), (9, .int .i64 x8)] m :=
  Eq.mpr (by kernel_rfl) h

def k_spec_Given_rlrllrrllrrrll : List Nat := [0, 6, 7, 8, 9, 22, 23]
theorem p_spec_Given_rlrllrrllrrrll (a1 : Option Addr) (l2 : Nat) (k3 : Nat) (n4 : Nat) (a5 : Option Addr) (l6 : Nat) (k7 : Nat) (x8 : Int) (x9 : Int) (x10 : Int) (x11 : Int) (m : Mem) (K : Kont)
    (h : ifB (decide (x11 < x10)) (∃ (x12 : Int), cell? m ⟨n4, 2, none⟩ = some (.int .i64 x12) ∧ onSome a1 fun p13 => (0 ≤ (IntKind.wrap .i64 ((l2 : Int) - x12)) ∧ (IntKind.wrap .i64 ((l2 : Int) - x12)) < (l2 : Int)) ∧ ∃ (x14 : Int), cell? m (aplus p13 ((IntKind.wrap .i64 ((l2 : Int) - x12)).toNat)) = some (.int .u8 x14) ∧ SemW PP (sv (Instr.buildSlice t_s_uint8 1 #[(0, .int .u8 x14)])) m (NextW PP fun v18 m19 => ∃ (a15 : Option Addr), ∃ (l16 : Nat), ∃ (k17 : Nat), v18 = .slice a15 l16 k17 ∧ SemW PP (builtin .append #[t_s_uint8, t_s_uint8] t_s_uint8 #[false, false] #[.slice a1 l2 k3, .slice a15 l16 k17]) m19 (NextW PP fun v23 m24 => ∃ (a20 : Option Addr), ∃ (l21 : Nat), ∃ (k22 : Nat), v23 = .slice a20 l21 k22 ∧ K.kn [(0, .slice a20 l21 k22), (6, .pointer (some ⟨n4, 0, none⟩)), (7, .slice a5 l6 k7), (8, .int .i64 x8), (9, .int .i64 x9), (22, .int .i64 x10), (23, .int .i64 (IntKind.wrap .i64 (x11 + 1)))] m24))) (K.kx 2 [(0, .slice a1 l2 k3), (6, .pointer (some ⟨n4, 0, none⟩)), (7, .slice a5 l6 k7), (8, .int .i64 x8), (9, .int .i64 x9), (22, .int .i64 x10), (23, .int .i64 x11)] m)) :
    wpc PP FF 39 L_spec_Given c_spec_Given_rlrllrrllrrrll K [(0, .slice a1 l2 k3), (6, .pointer (some ⟨n4, 0, none⟩)), (7, .slice a5 l6 k7), (8, .int .i64 x8), (9, .int .i64 x9), (22, .int .i64 x10), (23, .int .i64 x11)] m :=
  Eq.mpr (by kernel_rfl) h

def k_spec_Given_rlrllrrr : List Nat := [0, 7, 8, 9]
theorem p_spec_Given_rlrllrrr (a1 : Option Addr) (l2 : Nat) (k3 : Nat) (a4 : Option Addr) (l5 : Nat) (k6 : Nat) (x7 : Int) (x8 : Int) (m : Mem) (K : Kont)
    (h : K.kn [(0, .slice a1 l2 k3), (7, .slice a4 l5 k6), (8, .int .i64 x7), (9, .int .i64 (IntKind.wrap .i64 (x8 + 1)))] m) :
    wpc PP FF 39 L_spec_Given c_spec_Given_rlrllrrr K [(0, .slice a1 l2 k3), (7, .slice a4 l5 k6), (8, .int .i64 x7), (9, .int .i64 x8)] m :=
  Eq.mpr (by kernel_rfl) h

def k_spec_Given_rlrllrrllrr : List Nat := [0, 6, 7, 8, 9]
theorem p_spec_Given_rlrllrrllrr (a1 : Option Addr) (l2 : Nat) (k3 : Nat) (n4 : Nat) (a5 : Option Addr) (l6 : Nat) (k7 : Nat) (x8 : Int) (x9 : Int) (m : Mem) (K : Kont)
    (h : ∃ (x10 : Int), cell? m ⟨n4, 1, none⟩ = some (.int .i64 x10) ∧ WPS PP 39 c_spec_Given_rlrllrrllrrrl (K.withX 2) [(0, .slice a1 l2 k3), (6, .pointer (some ⟨n4, 0, none⟩)), (7, .slice a5 l6 k7), (8, .int .i64 x8), (9, .int .i64 x9), (22, .int .i64 x10), (23, .int .i64 0)] m) :
    wpc PP FF 39 L_spec_Given c_spec_Given_rlrllrrllrr K [(0, .slice a1 l2 k3), (6, .pointer (some ⟨n4, 0, none⟩)), (7, .slice a5 l6 k7), (8, .int .i64 x8), (9, .int .i64 x9)] m :=
  Eq.mpr (by kernel_rfl) h

/-! loop.example/pub-inflation/impl.all -/
def L_impl_all : List Nat := [0, 1, 4, 5, 6, 7, 8, 9, 14, 27]
def r_impl_all : List ResultVar := [.tmp 4, .tmp 5]
noncomputable def c_impl_all : Code := (Go.Proofs.Tryd.f21.body).getD .skip
theorem b_impl_all : Go.Proofs.Tryd.f21.body = some c_impl_all := by kernel_rfl
noncomputable def c_impl_all_rrrr : Code := (rgt (rgt (rgt (rgt c_impl_all))))
noncomputable def c_impl_all_rrrll : Code := (lft (lft (rgt (rgt (rgt c_impl_all)))))
noncomputable def c_impl_all_rrrlll : Code := (lft c_impl_all_rrrll)
theorem q_impl_all_rrrll : c_impl_all_rrrll = .loop c_impl_all_rrrlll := by kernel_rfl
/- the loop at rrrll: slots [0, 1, 6, 7] -/
theorem e_impl_all (v1 : Value) (x2 : Int) (m : Mem) (R : Value → Mem → Prop)
    (h : SemW PP (sv (Instr.makeSlice t_s_uint8 (.int .i64 1000) (.int .i64 1000))) m (NextW PP fun v6 m7 => ∃ (a3 : Option Addr), ∃ (l4 : Nat), ∃ (k5 : Nat), v6 = .slice a3 l4 k5 ∧ WPS PP 32 c_impl_all_rrrll (((retK PP r_impl_all R).withN fun r m => WPS PP 32 c_impl_all_rrrr (retK PP r_impl_all R) r m).withX 0) [(0, v1), (1, .int .i64 x2), (4, .slice none 0 0), (5, .int .i64 0), (6, .slice none 0 0), (7, .slice a3 l4 k5)] m7)) :
    CallM PP f_impl_all #[v1, .int .i64 x2] m R :=
  callM_enter ffOk mixedOk 32 L_impl_all Tryd.func21 b_impl_all Tryd.ntmps21 (by simp) (Eq.mpr (by kernel_rfl) h)

def k_impl_all_rrrr : List Nat := [6]
theorem p_impl_all_rrrr (a1 : Option Addr) (l2 : Nat) (k3 : Nat) (m : Mem) (K : Kont)
    (h : K.kr [(4, .slice a1 l2 k3), (5, .int .i64 0), (6, .slice a1 l2 k3)] m) :
    wpc PP FF 32 L_impl_all c_impl_all_rrrr K [(6, .slice a1 l2 k3)] m :=
  Eq.mpr (by kernel_rfl) h

def k_impl_all_rrrlll : List Nat := [0, 1, 6, 7]
theorem p_impl_all_rrrlll (v1 : Value) (x2 : Int) (a3 : Option Addr) (l4 : Nat) (k5 : Nat) (a6 : Option Addr) (l7 : Nat) (k8 : Nat) (m : Mem) (K : Kont)
    (h : ifB (decide ((l4 : Int) ≤ x2)) (SemW PP (callMethod v1 "Read" #[.slice a6 l7 k8]) m (NextW PP fun v11 m12 => ∃ (x9 : Int), ∃ (v10 : Value), v11 = .tuple #[.int .i64 x9, v10] ∧ l7 ≤ k8 ∧ (0 ≤ x9 ∧ x9 ≤ (k8 : Int)) ∧ SemW PP (builtin .append #[t_s_uint8, t_s_uint8] t_s_uint8 #[false, false] #[.slice a3 l4 k5, .slice a6 x9.toNat k8]) m12 (NextW PP fun v16 m17 => ∃ (a13 : Option Addr), ∃ (l14 : Nat), ∃ (k15 : Nat), v16 = .slice a13 l14 k15 ∧ isIfc v10 = true ∧ ifB (!(isNil v10)) (CallM PP f_impl_code #[v10] m17 fun v19 m20 => ∃ (x18 : Int), v19 = .int .i64 x18 ∧ K.kr [(0, v1), (1, .int .i64 x2), (4, .slice a13 l14 k15), (5, .int .i64 x18), (6, .slice a13 l14 k15), (7, .slice a6 l7 k8), (8, .int .i64 x9), (9, v10)] m20) (K.kn [(0, v1), (1, .int .i64 x2), (6, .slice a13 l14 k15), (7, .slice a6 l7 k8), (8, .int .i64 x9), (9, v10)] m17)))) (K.kx 0 [(0, v1), (1, .int .i64 x2), (6, .slice a3 l4 k5), (7, .slice a6 l7 k8)] m)) :
    wpc PP FF 32 L_impl_all c_impl_all_rrrlll K [(0, v1), (1, .int .i64 x2), (6, .slice a3 l4 k5), (7, .slice a6 l7 k8)] m :=
  Eq.mpr (by kernel_rfl) h

/-! loop.example/pub-inflation/pub/inflate.NewReader -/
def L_inflate_NewReader : List Nat := [0, 2, 3]
def r_inflate_NewReader : List ResultVar := [.tmp 2]
noncomputable def c_inflate_NewReader : Code := (Go.Proofs.Tryd.f22.body).getD .skip
theorem b_inflate_NewReader : Go.Proofs.Tryd.f22.body = some c_inflate_NewReader := by kernel_rfl
theorem e_inflate_NewReader (v1 : Value) (m : Mem) (R : Value → Mem → Prop)
    (h : AllocW PP t_flate_decompressor m fun n2 m3 => CallM PP f_decompressor_makeReader #[.pointer (some ⟨n2, 0, none⟩), v1] m3 fun v4 m5 => v4 = .tuple #[] ∧ AllocW PP t_316_int m5 fun n6 m7 => StW m7 ⟨n2, 1035, none⟩ (.pointer (some ⟨n6, 0, none⟩)) fun m8 => AllocW PP t_19_int m8 fun n9 m10 => StW m10 ⟨n2, 1036, none⟩ (.pointer (some ⟨n9, 0, none⟩)) fun m11 => StW m11 ⟨n2, 1045, none⟩ (.func (.func f_decompressor_nextBlock) #[] #[]) fun m12 => CallM PP f_dictDecoder_init #[.pointer (some ⟨n2, 1037, none⟩), .int .i64 32768, .slice none 0 0] m12 fun v13 m14 => v13 = .tuple #[] ∧ R (.iface t_p_flate_decompressor (.pointer (some ⟨n2, 0, none⟩))) m14) :
    CallM PP f_inflate_NewReader #[v1] m R :=
  callM_enter ffOk mixedOk 14 L_inflate_NewReader Tryd.func22 b_inflate_NewReader Tryd.ntmps22 (by simp) (Eq.mpr (by kernel_rfl) h)

/-! loop.example/pub-inflation/impl.source -/
def L_impl_source : List Nat := [0, 2]
def r_impl_source : List ResultVar := [.tmp 2]
noncomputable def c_impl_source : Code := (Go.Proofs.Tryd.f23.body).getD .skip
theorem b_impl_source : Go.Proofs.Tryd.f23.body = some c_impl_source := by kernel_rfl
theorem e_impl_source (a1 : Option Addr) (l2 : Nat) (k3 : Nat) (m : Mem) (R : Value → Mem → Prop)
    (h : SemW PP (sv (Instr.buildSlice t_s_uint8 0 #[])) m (NextW PP fun v7 m8 => ∃ (a4 : Option Addr), ∃ (l5 : Nat), ∃ (k6 : Nat), v7 = .slice a4 l5 k6 ∧ SemW PP (builtin .append #[t_s_uint8, t_s_uint8] t_s_uint8 #[false, false] #[.slice a4 l5 k6, .slice a1 l2 k3]) m8 (NextW PP fun v12 m13 => ∃ (a9 : Option Addr), ∃ (l10 : Nat), ∃ (k11 : Nat), v12 = .slice a9 l10 k11 ∧ CallM PP f_bytes_NewReader #[.slice a9 l10 k11] m13 fun v15 m16 => ∃ (p14 : Option Addr), v15 = .pointer p14 ∧ R (.pointer p14) m16))) :
    CallM PP f_impl_source #[.slice a1 l2 k3] m R :=
  callM_enter ffOk mixedOk 7 L_impl_source Tryd.func23 b_impl_source Tryd.ntmps23 (by simp) (Eq.mpr (by kernel_rfl) h)

/-! (*loop.example/pub-inflation/spec.Writer).Bits -/
def L_Writer_Bits : List Nat := [0, 1, 2, 6, 7, 8, 9]
def r_Writer_Bits : List ResultVar := []
noncomputable def c_Writer_Bits : Code := (Go.Proofs.Tryd.f24.body).getD .skip
theorem b_Writer_Bits : Go.Proofs.Tryd.f24.body = some c_Writer_Bits := by kernel_rfl
noncomputable def c_Writer_Bits_rl : Code := (lft (rgt c_Writer_Bits))
noncomputable def c_Writer_Bits_rll : Code := (lft c_Writer_Bits_rl)
theorem q_Writer_Bits_rl : c_Writer_Bits_rl = .loop c_Writer_Bits_rll := by kernel_rfl
/- the loop at rl: slots [0, 1, 7, 8] -/
theorem e_Writer_Bits (w : Nat) (x1 : Int) (x2 : Int) (m : Mem) (R : Value → Mem → Prop)
    (h : WPS PP 17 c_Writer_Bits_rl ((retK PP r_Writer_Bits R).withX 0) [(0, .pointer (some ⟨w, 0, none⟩)), (1, .int .i64 x1), (2, .int .i64 x2), (7, .int .i64 x2), (8, .int .i64 0)] m) :
    CallM PP f_Writer_Bits #[.pointer (some ⟨w, 0, none⟩), .int .i64 x1, .int .i64 x2] m R :=
  callM_enter ffOk mixedOk 17 L_Writer_Bits Tryd.func24 b_Writer_Bits Tryd.ntmps24 (by simp) (Eq.mpr (by kernel_rfl) h)

def k_Writer_Bits_rll : List Nat := [0, 1, 7, 8]
theorem p_Writer_Bits_rll (w : Nat) (x1 : Int) (x2 : Int) (x3 : Int) (m : Mem) (K : Kont)
    (h : ifB (decide (x3 < x2)) (0 ≤ x3 ∧ CallM PP f_Writer_bit #[.pointer (some ⟨w, 0, none⟩), .int .i64 (shrOp .i64 x1 x3)] m fun v4 m5 => v4 = .tuple #[] ∧ K.kn [(0, .pointer (some ⟨w, 0, none⟩)), (1, .int .i64 x1), (6, .int .i64 x3), (7, .int .i64 x2), (8, .int .i64 (IntKind.wrap .i64 (x3 + 1)))] m5) (K.kx 0 [(0, .pointer (some ⟨w, 0, none⟩)), (1, .int .i64 x1), (7, .int .i64 x2), (8, .int .i64 x3)] m)) :
    wpc PP FF 17 L_Writer_Bits c_Writer_Bits_rll K [(0, .pointer (some ⟨w, 0, none⟩)), (1, .int .i64 x1), (7, .int .i64 x2), (8, .int .i64 x3)] m :=
  Eq.mpr (by kernel_rfl) h

/-! (*loop.example/pub-inflation/spec.Writer).Symbol -/
def L_Writer_Symbol : List Nat := [0, 1, 4]
def r_Writer_Symbol : List ResultVar := []
noncomputable def c_Writer_Symbol : Code := (Go.Proofs.Tryd.f25.body).getD .skip
theorem b_Writer_Symbol : Go.Proofs.Tryd.f25.body = some c_Writer_Symbol := by kernel_rfl
theorem e_Writer_Symbol (w : Nat) (x1 : Int) (m : Mem) (R : Value → Mem → Prop)
    (h : CallM PP f_spec_fixed #[] m fun v8 m9 => ∃ (a2 : Option Addr), ∃ (l3 : Nat), ∃ (k4 : Nat), ∃ (a5 : Option Addr), ∃ (l6 : Nat), ∃ (k7 : Nat), v8 = .tuple #[.slice a2 l3 k4, .slice a5 l6 k7] ∧ onSome a2 fun p10 => (0 ≤ x1 ∧ x1 < (l3 : Int)) ∧ ∃ (x11 : Int), cell? m9 (aplus p10 x1.toNat) = some (.int .i64 x11) ∧ CallM PP f_spec_Codes #[.slice a2 l3 k4] m9 fun v15 m16 => ∃ (a12 : Option Addr), ∃ (l13 : Nat), ∃ (k14 : Nat), v15 = .slice a12 l13 k14 ∧ cell? m16 (aplus p10 x1.toNat) = some (.int .i64 x11) ∧ onSome a12 fun p17 => (0 ≤ x1 ∧ x1 < (l13 : Int)) ∧ ∃ (x18 : Int), cell? m16 (aplus p17 x1.toNat) = some (.int .i64 x18) ∧ CallM PP f_Writer_code #[.pointer (some ⟨w, 0, none⟩), .int .i64 x18, .int .i64 x11] m16 fun v19 m20 => v19 = .tuple #[] ∧ cell? m20 (aplus p10 x1.toNat) = some (.int .i64 x11) ∧ R (.tuple #[]) m20) :
    CallM PP f_Writer_Symbol #[.pointer (some ⟨w, 0, none⟩), .int .i64 x1] m R :=
  callM_enter ffOk mixedOk 21 L_Writer_Symbol Tryd.func25 b_Writer_Symbol Tryd.ntmps25 (by simp) (Eq.mpr (by kernel_rfl) h)

/-! (*loop.example/pub-inflation/spec.Writer).code -/
def L_Writer_code : List Nat := [0, 1, 2, 6, 10]
def r_Writer_code : List ResultVar := []
noncomputable def c_Writer_code : Code := (Go.Proofs.Tryd.f26.body).getD .skip
theorem b_Writer_code : Go.Proofs.Tryd.f26.body = some c_Writer_code := by kernel_rfl
noncomputable def c_Writer_code_rl : Code := (lft (rgt c_Writer_code))
noncomputable def c_Writer_code_rll : Code := (lft c_Writer_code_rl)
theorem q_Writer_code_rl : c_Writer_code_rl = .loop c_Writer_code_rll := by kernel_rfl
/- the loop at rl: slots [0, 1, 6] -/
theorem e_Writer_code (w : Nat) (x1 : Int) (x2 : Int) (m : Mem) (R : Value → Mem → Prop)
    (h : WPS PP 18 c_Writer_code_rl ((retK PP r_Writer_code R).withX 0) [(0, .pointer (some ⟨w, 0, none⟩)), (1, .int .i64 x1), (2, .int .i64 x2), (6, .int .i64 (IntKind.wrap .i64 (x2 - 1)))] m) :
    CallM PP f_Writer_code #[.pointer (some ⟨w, 0, none⟩), .int .i64 x1, .int .i64 x2] m R :=
  callM_enter ffOk mixedOk 18 L_Writer_code Tryd.func26 b_Writer_code Tryd.ntmps26 (by simp) (Eq.mpr (by kernel_rfl) h)

def k_Writer_code_rll : List Nat := [0, 1, 6]
theorem p_Writer_code_rll (w : Nat) (x1 : Int) (x2 : Int) (m : Mem) (K : Kont)
    (h : ifB (decide (x2 ≥ 0)) (0 ≤ x2 ∧ CallM PP f_Writer_bit #[.pointer (some ⟨w, 0, none⟩), .int .i64 (shrOp .i64 x1 x2)] m fun v3 m4 => v3 = .tuple #[] ∧ K.kn [(0, .pointer (some ⟨w, 0, none⟩)), (1, .int .i64 x1), (6, .int .i64 (IntKind.wrap .i64 (x2 - 1)))] m4) (K.kx 0 [(0, .pointer (some ⟨w, 0, none⟩)), (1, .int .i64 x1), (6, .int .i64 x2)] m)) :
    wpc PP FF 18 L_Writer_code c_Writer_code_rll K [(0, .pointer (some ⟨w, 0, none⟩)), (1, .int .i64 x1), (6, .int .i64 x2)] m :=
  Eq.mpr (by kernel_rfl) h

/-! loop.example/pub-inflation/spec.flag -/
def L_spec_flag : List Nat := [0, 2, 3]
def r_spec_flag : List ResultVar := [.tmp 2]
noncomputable def c_spec_flag : Code := (Go.Proofs.Tryd.f27.body).getD .skip
theorem b_spec_flag : Go.Proofs.Tryd.f27.body = some c_spec_flag := by kernel_rfl
theorem e_spec_flag (b1 : Bool) (m : Mem) (R : Value → Mem → Prop)
    (h : ifB b1 (R (.int .i64 1) m) (R (.int .i64 0) m)) :
    CallM PP f_spec_flag #[.bool b1] m R :=
  callM_enter ffOk mixedOk 4 L_spec_flag Tryd.func27 b_spec_flag Tryd.ntmps27 (by simp) (Eq.mpr (by kernel_rfl) h)

/-! (*loop.example/pub-inflation/spec.Writer).Pad -/
def L_Writer_Pad : List Nat := [0, 1, 9]
def r_Writer_Pad : List ResultVar := []
noncomputable def c_Writer_Pad : Code := (Go.Proofs.Tryd.f28.body).getD .skip
theorem b_Writer_Pad : Go.Proofs.Tryd.f28.body = some c_Writer_Pad := by kernel_rfl
noncomputable def c_Writer_Pad_l : Code := (lft c_Writer_Pad)
noncomputable def c_Writer_Pad_ll : Code := (lft c_Writer_Pad_l)
theorem q_Writer_Pad_l : c_Writer_Pad_l = .loop c_Writer_Pad_ll := by kernel_rfl
/- the loop at l: slots [0, 1] -/
theorem e_Writer_Pad (w : Nat) (x1 : Int) (m : Mem) (R : Value → Mem → Prop)
    (h : WPS PP 15 c_Writer_Pad_l ((retK PP r_Writer_Pad R).withX 0) [(0, .pointer (some ⟨w, 0, none⟩)), (1, .int .i64 x1)] m) :
    CallM PP f_Writer_Pad #[.pointer (some ⟨w, 0, none⟩), .int .i64 x1] m R :=
  callM_enter ffOk mixedOk 15 L_Writer_Pad Tryd.func28 b_Writer_Pad Tryd.ntmps28 (by simp) (Eq.mpr (by kernel_rfl) h)

def k_Writer_Pad_ll : List Nat := [0, 1]
theorem p_Writer_Pad_ll (w : Nat) (x1 : Int) (m : Mem) (K : Kont)
    (h : ∃ (x2 : Int), cell? m ⟨w, 1, none⟩ = some (.int .i64 x2) ∧ IntKind.i64 = IntKind.i64 ∧ (8 : Int) ≠ 0 ∧ ifB ((Int.tmod x2 8) != 0) (CallM PP f_Writer_bit #[.pointer (some ⟨w, 0, none⟩), .int .i64 x1] m fun v3 m4 => v3 = .tuple #[] ∧ 0 ≤ (1 : Int) ∧ K.kn [(0, .pointer (some ⟨w, 0, none⟩)), (1, .int .i64 (shrOp .i64 x1 1))] m4) (K.kx 0 [(0, .pointer (some ⟨w, 0, none⟩)), (1, .int .i64 x1)] m)) :
    wpc PP FF 15 L_Writer_Pad c_Writer_Pad_ll K [(0, .pointer (some ⟨w, 0, none⟩)), (1, .int .i64 x1)] m :=
  Eq.mpr (by kernel_rfl) h

/-! loop.example/pub-inflation/spec.fixed -/
def L_spec_fixed : List Nat := [0, 1, 2, 3, 4, 5, 6, 7, 9, 16, 28, 29]
def r_spec_fixed : List ResultVar := [.tmp 0, .tmp 1]
noncomputable def c_spec_fixed : Code := (Go.Proofs.Tryd.f29.body).getD .skip
theorem b_spec_fixed : Go.Proofs.Tryd.f29.body = some c_spec_fixed := by kernel_rfl
noncomputable def c_spec_fixed_rrr : Code := (rgt (rgt (rgt c_spec_fixed)))
noncomputable def c_spec_fixed_rrrr : Code := (rgt c_spec_fixed_rrr)
noncomputable def c_spec_fixed_rrlrl : Code := (lft (rgt (lft (rgt (rgt c_spec_fixed)))))
noncomputable def c_spec_fixed_rrlrll : Code := (lft c_spec_fixed_rrlrl)
noncomputable def c_spec_fixed_rrrlrl : Code := (lft (rgt (lft c_spec_fixed_rrr)))
noncomputable def c_spec_fixed_rrrlrll : Code := (lft c_spec_fixed_rrrlrl)
noncomputable def c_spec_fixed_rrlrllrrr : Code := (rgt (rgt (rgt c_spec_fixed_rrlrll)))
noncomputable def c_spec_fixed_rrlrllrrllrrr : Code := (rgt (rgt (rgt (lft (lft (rgt (rgt c_spec_fixed_rrlrll)))))))
theorem q_spec_fixed_rrlrl : c_spec_fixed_rrlrl = .loop c_spec_fixed_rrlrll := by kernel_rfl
theorem q_spec_fixed_rrrlrl : c_spec_fixed_rrrlrl = .loop c_spec_fixed_rrrlrll := by kernel_rfl
/- the loop at rrlrl: slots [2, 3, 6] -/
/- the loop at rrrlrl: slots [2, 3, 28] -/
theorem e_spec_fixed  (m : Mem) (R : Value → Mem → Prop)
    (h : WPS PP 36 c_spec_fixed_rrlrl (((retK PP r_spec_fixed R).withN fun r m => WPS PP 36 c_spec_fixed_rrr (retK PP r_spec_fixed R) r m).withX 0) [(0, .slice none 0 0), (1, .slice none 0 0), (2, .slice none 0 0), (3, .slice none 0 0), (6, .int .i64 0)] m  ) :
    CallM PP f_spec_fixed #[] m R :=
  callM_enter ffOk mixedOk 36 L_spec_fixed Tryd.func29 b_spec_fixed Tryd.ntmps29 (by simp) (Eq.mpr (by kernel_rfl) h)

def k_spec_fixed_rrr : List Nat := [2, 3]
theorem p_spec_fixed_rrr (a1 : Option Addr) (l2 : Nat) (k3 : Nat) (a4 : Option Addr) (l5 : Nat) (k6 : Nat) (m : Mem) (K : Kont)
    (h : WPS PP 36 c_spec_fixed_rrrlrl ((K.withN fun r m => WPS PP 36 c_spec_fixed_rrrr K r m).withX 3) [(2, .slice a1 l2 k3), (3, .slice a4 l5 k6), (28, .int .i64 0)] m) :
    wpc PP FF 36 L_spec_fixed c_spec_fixed_rrr K [(2, .slice a1 l2 k3), (3, .slice a4 l5 k6)] m :=
  Eq.mpr (by kernel_rfl) h

def k_spec_fixed_rrlrll : List Nat := [2, 3, 6]
theorem p_spec_fixed_rrlrll (a1 : Option Addr) (l2 : Nat) (k3 : Nat) (a4 : Option Addr) (l5 : Nat) (k6 : Nat) (x7 : Int) (m : Mem) (K : Kont)
    (h : ifB (decide (x7 < 288)) (ifB (decide (x7 ≥ 144)) (ifB (decide (x7 ≤ 255)) (WPS PP 36 c_spec_fixed_rrlrllrrllrrr ((K.withN fun r m => wpc PP FF 36 L_spec_fixed c_spec_fixed_rrlrllrrr K r m).withX 1) [(2, .slice a1 l2 k3), (3, .slice a4 l5 k6), (4, .int .i64 x7), (5, .int .i64 9), (6, .int .i64 x7)] m) (ifB (decide (x7 ≥ 256)) (ifB (decide (x7 ≤ 279)) (WPS PP 36 c_spec_fixed_rrlrllrrllrrr ((K.withN fun r m => wpc PP FF 36 L_spec_fixed c_spec_fixed_rrlrllrrr K r m).withX 1) [(2, .slice a1 l2 k3), (3, .slice a4 l5 k6), (4, .int .i64 x7), (5, .int .i64 7), (6, .int .i64 x7)] m) (WPS PP 36 c_spec_fixed_rrlrllrrllrrr ((K.withN fun r m => wpc PP FF 36 L_spec_fixed c_spec_fixed_rrlrllrrr K r m).withX 1) [(2, .slice a1 l2 k3), (3, .slice a4 l5 k6), (4, .int .i64 x7), (5, .int .i64 8), (6, .int .i64 x7)] m)) (WPS PP 36 c_spec_fixed_rrlrllrrllrrr ((K.withN fun r m => wpc PP FF 36 L_spec_fixed c_spec_fixed_rrlrllrrr K r m).withX 1) [(2, .slice a1 l2 k3), (3, .slice a4 l5 k6), (4, .int .i64 x7), (5, .int .i64 8), (6, .int .i64 x7)] m))) (ifB (decide (x7 ≥ 256)) (ifB (decide (x7 ≤ 279)) (WPS PP 36 c_spec_fixed_rrlrllrrllrrr ((K.withN fun r m => wpc PP FF 36 L_spec_fixed c_spec_fixed_rrlrllrrr K r m).withX 1) [(2, .slice a1 l2 k3), (3, .slice a4 l5 k6), (4, .int .i64 x7), (5, .int .i64 7), (6, .int .i64 x7)] m) (WPS PP 36 c_spec_fixed_rrlrllrrllrrr ((K.withN fun r m => wpc PP FF 36 L_spec_fixed c_spec_fixed_rrlrllrrr K r m).withX 1) [(2, .slice a1 l2 k3), (3, .slice a4 l5 k6), (4, .int .i64 x7), (5, .int .i64 8), (6, .int .i64 x7)] m)) (WPS PP 36 c_spec_fixed_rrlrllrrllrrr ((K.withN fun r m => wpc PP FF 36 L_spec_fixed c_spec_fixed_rrlrllrrr K r m).withX 1) [(2, .slice a1 l2 k3), (3, .slice a4 l5 k6), (4, .int .i64 x7), (5, .int .i64 8), (6, .int .i64 x7)] m))) (K.kx 0 [(2, .slice a1 l2 k3), (3, .slice a4 l5 k6), (6, .int .i64 x7)] m)) :
    wpc PP FF 36 L_spec_fixed c_spec_fixed_rrlrll K [(2, .slice a1 l2 k3), (3, .slice a4 l5 k6), (6, .int .i64 x7)] m :=
  Eq.mpr (by kernel_rfl) h

def k_spec_fixed_rrrlrll : List Nat := [2, 3, 28]
theorem p_spec_fixed_rrrlrll (a1 : Option Addr) (l2 : Nat) (k3 : Nat) (a4 : Option Addr) (l5 : Nat) (k6 : Nat) (x7 : Int) (m : Mem) (K : Kont)
    (h : ifB (decide (x7 < 32)) (SemW PP (sv (Instr.buildSlice t_s_int 1 #[(0, .int .i64 5)])) m (NextW PP fun v11 m12 => ∃ (a8 : Option Addr), ∃ (l9 : Nat), ∃ (k10 : Nat), v11 = .slice a8 l9 k10 ∧ SemW PP (builtin .append #[t_s_int, t_s_int] t_s_int #[false, false] #[.slice a4 l5 k6, .slice a8 l9 k10]) m12 (NextW PP fun v16 m17 => ∃ (a13 : Option Addr), ∃ (l14 : Nat), ∃ (k15 : Nat), v16 = .slice a13 l14 k15 ∧ K.kn [(2, .slice a1 l2 k3), (3, .slice a13 l14 k15), (28, .int .i64 (IntKind.wrap .i64 (x7 + 1)))] m17))) (K.kx 3 [(2, .slice a1 l2 k3), (3, .slice a4 l5 k6), (28, .int .i64 x7)] m)) :
    wpc PP FF 36 L_spec_fixed c_spec_fixed_rrrlrll K [(2, .slice a1 l2 k3), (3, .slice a4 l5 k6), (28, .int .i64 x7)] m :=
  Eq.mpr (by kernel_rfl) h

def k_spec_fixed_rrrr : List Nat := [2, 3]
theorem p_spec_fixed_rrrr (a1 : Option Addr) (l2 : Nat) (k3 : Nat) (a4 : Option Addr) (l5 : Nat) (k6 : Nat) (m : Mem) (K : Kont)
    (h : K.kr [(0, .slice a1 l2 k3), (1, .slice a4 l5 k6), (2, .slice a1 l2 k3), (3, .slice a4 l5 k6)] m) :
    wpc PP FF 36 L_spec_fixed c_spec_fixed_rrrr K [(2, .slice a1 l2 k3), (3, .slice a4 l5 k6)] m :=
  Eq.mpr (by kernel_rfl) h

def k_spec_fixed_rrlrllrrr : List Nat := [2, 3, 6]
theorem p_spec_fixed_rrlrllrrr (a1 : Option Addr) (l2 : Nat) (k3 : Nat) (a4 : Option Addr) (l5 : Nat) (k6 : Nat) (x7 : Int) (m : Mem) (K : Kont)
    (h : K.kn [(2, .slice a1 l2 k3), (3, .slice a4 l5 k6), (6, .int .i64 (IntKind.wrap .i64 (x7 + 1)))] m) :
    wpc PP FF 36 L_spec_fixed c_spec_fixed_rrlrllrrr K [(2, .slice a1 l2 k3), (3, .slice a4 l5 k6), (6, .int .i64 x7)] m :=
  Eq.mpr (by kernel_rfl) h

def k_spec_fixed_rrlrllrrllrrr : List Nat := [2, 3, 5, 6]
theorem p_spec_fixed_rrlrllrrllrrr (a1 : Option Addr) (l2 : Nat) (k3 : Nat) (a4 : Option Addr) (l5 : Nat) (k6 : Nat) (x7 : Int) (x8 : Int) (m : Mem) (K : Kont)
    (h : SemW PP (sv (Instr.buildSlice t_s_int 1 #[(0, .int .i64 x7)])) m (NextW PP fun v12 m13 => ∃ (a9 : Option Addr), ∃ (l10 : Nat), ∃ (k11 : Nat), v12 = .slice a9 l10 k11 ∧ SemW PP (builtin .append #[t_s_int, t_s_int] t_s_int #[false, false] #[.slice a1 l2 k3, .slice a9 l10 k11]) m13 (NextW PP fun v17 m18 => ∃ (a14 : Option Addr), ∃ (l15 : Nat), ∃ (k16 : Nat), v17 = .slice a14 l15 k16 ∧ K.kn [(2, .slice a14 l15 k16), (3, .slice a4 l5 k6), (5, .int .i64 x7), (6, .int .i64 x8)] m18))) :
    wpc PP FF 36 L_spec_fixed c_spec_fixed_rrlrllrrllrrr K [(2, .slice a1 l2 k3), (3, .slice a4 l5 k6), (5, .int .i64 x7), (6, .int .i64 x8)] m :=
  Eq.mpr (by kernel_rfl) h

/-! (*loop.example/pub-inflation/spec.Writer).items -/
def L_Writer_items : List Nat := [0, 1, 2, 3, 8, 9, 11, 12, 13, 14, 15, 20, 21, 22, 23, 28]
def r_Writer_items : List ResultVar := []
noncomputable def c_Writer_items : Code := (Go.Proofs.Tryd.f30.body).getD .skip
theorem b_Writer_items : Go.Proofs.Tryd.f30.body = some c_Writer_items := by kernel_rfl
noncomputable def c_Writer_items_rr : Code := (rgt (rgt c_Writer_items))
noncomputable def c_Writer_items_rlrl : Code := (lft (rgt (lft (rgt c_Writer_items))))
noncomputable def c_Writer_items_rlrll : Code := (lft c_Writer_items_rlrl)
noncomputable def c_Writer_items_rlrllrrr : Code := (rgt (rgt (rgt c_Writer_items_rlrll)))
theorem q_Writer_items_rlrl : c_Writer_items_rlrl = .loop c_Writer_items_rlrll := by kernel_rfl
/- the loop at rlrl: slots [0, 2, 3, 8, 9, 20, 21, 22] -/
theorem e_Writer_items (w : Nat) (a1 : Option Addr) (l2 : Nat) (k3 : Nat) (a4 : Option Addr) (l5 : Nat) (k6 : Nat) (a7 : Option Addr) (l8 : Nat) (k9 : Nat) (m : Mem) (R : Value → Mem → Prop)
    (h : CallM PP f_spec_Codes #[.slice a4 l5 k6] m fun v13 m14 => ∃ (a10 : Option Addr), ∃ (l11 : Nat), ∃ (k12 : Nat), v13 = .slice a10 l11 k12 ∧ CallM PP f_spec_Codes #[.slice a7 l8 k9] m14 fun v18 m19 => ∃ (a15 : Option Addr), ∃ (l16 : Nat), ∃ (k17 : Nat), v18 = .slice a15 l16 k17 ∧ WPS PP 92 c_Writer_items_rlrl (((retK PP r_Writer_items R).withN fun r m => WPS PP 92 c_Writer_items_rr (retK PP r_Writer_items R) r m).withX 0) [(0, .pointer (some ⟨w, 0, none⟩)), (1, .slice a1 l2 k3), (2, .slice a4 l5 k6), (3, .slice a7 l8 k9), (8, .slice a10 l11 k12), (9, .slice a15 l16 k17), (20, .slice a1 l2 k3), (21, .int .i64 (l2 : Int)), (22, .int .i64 0)] m19) :
    CallM PP f_Writer_items #[.pointer (some ⟨w, 0, none⟩), .slice a1 l2 k3, .slice a4 l5 k6, .slice a7 l8 k9] m R :=
  callM_enter ffOk mixedOk 92 L_Writer_items Tryd.func30 b_Writer_items Tryd.ntmps30 (by simp) (Eq.mpr (by kernel_rfl) h)

def k_Writer_items_rr : List Nat := [0, 2, 8]
theorem p_Writer_items_rr (w : Nat) (a1 : Option Addr) (l2 : Nat) (k3 : Nat) (a4 : Option Addr) (l5 : Nat) (k6 : Nat) (m : Mem) (K : Kont)
    (h : onSome a4 fun p7 => (0 ≤ (256 : Int) ∧ (256 : Int) < (l5 : Int)) ∧ ∃ (x8 : Int), cell? m (aplus p7 256) = some (.int .i64 x8) ∧ onSome a1 fun p9 => (0 ≤ (256 : Int) ∧ (256 : Int) < (l2 : Int)) ∧ ∃ (x10 : Int), cell? m (aplus p9 256) = some (.int .i64 x10) ∧ CallM PP f_Writer_code #[.pointer (some ⟨w, 0, none⟩), .int .i64 x8, .int .i64 x10] m fun v11 m12 => v11 = .tuple #[] ∧ K.kn [(0, .pointer (some ⟨w, 0, none⟩)), (2, .slice a1 l2 k3), (8, .slice a4 l5 k6)] m12) :
    wpc PP FF 92 L_Writer_items c_Writer_items_rr K [(0, .pointer (some ⟨w, 0, none⟩)), (2, .slice a1 l2 k3), (8, .slice a4 l5 k6)] m :=
  Eq.mpr (by kernel_rfl) h

def k_Writer_items_rlrll : List Nat := [0, 2, 3, 8, 9, 20, 21, 22]
theorem p_Writer_items_rlrll (w : Nat) (a1 : Option Addr) (l2 : Nat) (k3 : Nat) (a4 : Option Addr) (l5 : Nat) (k6 : Nat) (a7 : Option Addr) (l8 : Nat) (k9 : Nat) (a10 : Option Addr) (l11 : Nat) (k12 : Nat) (a13 : Option Addr) (l14 : Nat) (k15 : Nat) (x16 : Int) (x17 : Int) (m : Mem) (K : Kont)
    (h : ifB (decide (x17 < x16)) (onSome a13 fun p18 => (0 ≤ x17 ∧ x17 < (l14 : Int)) ∧ ∃ (x19 : Int), ∃ (x20 : Int), ∃ (x21 : Int), ([.int .u8 x19, .int .i64 x20, .int .i64 x21] : List Value).length = 3 ∧ CellsAre m (aplus p18 (x17.toNat * 3)) 0 [.int .u8 x19, .int .i64 x20, .int .i64 x21] ∧ AllocW PP t_spec_Item m fun n22 m23 => StAgg PP t_spec_Item m23 ⟨n22, 0, none⟩ (.agg #[.int .u8 x19, .int .i64 x20, .int .i64 x21]) fun m24 => ∃ (x25 : Int), cell? m24 ⟨n22, 1, none⟩ = some (.int .i64 x25) ∧ ifB (x25 == 0) (∃ (x26 : Int), cell? m24 ⟨n22, 0, none⟩ = some (.int .u8 x26) ∧ onSome a7 fun p27 => (0 ≤ x26 ∧ x26 < (l8 : Int)) ∧ ∃ (x28 : Int), cell? m24 (aplus p27 x26.toNat) = some (.int .i64 x28) ∧ ∃ (x29 : Int), cell? m24 ⟨n22, 0, none⟩ = some (.int .u8 x29) ∧ onSome a1 fun p30 => (0 ≤ x29 ∧ x29 < (l2 : Int)) ∧ ∃ (x31 : Int), cell? m24 (aplus p30 x29.toNat) = some (.int .i64 x31) ∧ CallM PP f_Writer_code #[.pointer (some ⟨w, 0, none⟩), .int .i64 x28, .int .i64 x31] m24 fun v32 m33 => v32 = .tuple #[] ∧ WPS PP 92 c_Writer_items_rlrllrrr K [(0, .pointer (some ⟨w, 0, none⟩)), (2, .slice a1 l2 k3), (3, .slice a4 l5 k6), (8, .slice a7 l8 k9), (9, .slice a10 l11 k12), (11, .pointer (some ⟨n22, 0, none⟩)), (20, .slice a13 l14 k15), (21, .int .i64 x16), (22, .int .i64 x17)] m33) (∃ (x34 : Int), cell? m24 ⟨n22, 1, none⟩ = some (.int .i64 x34) ∧ CallM PP f_spec_LengthCode #[.int .i64 x34] m24 fun v38 m39 => ∃ (x35 : Int), ∃ (x36 : Int), ∃ (x37 : Int), v38 = .tuple #[.int .i64 x35, .int .i64 x36, .int .i64 x37] ∧ onSome a7 fun p40 => (0 ≤ x35 ∧ x35 < (l8 : Int)) ∧ ∃ (x41 : Int), cell? m39 (aplus p40 x35.toNat) = some (.int .i64 x41) ∧ onSome a1 fun p42 => (0 ≤ x35 ∧ x35 < (l2 : Int)) ∧ ∃ (x43 : Int), cell? m39 (aplus p42 x35.toNat) = some (.int .i64 x43) ∧ CallM PP f_Writer_code #[.pointer (some ⟨w, 0, none⟩), .int .i64 x41, .int .i64 x43] m39 fun v44 m45 => v44 = .tuple #[] ∧ CallM PP f_Writer_Bits #[.pointer (some ⟨w, 0, none⟩), .int .i64 x36, .int .i64 x37] m45 fun v46 m47 => v46 = .tuple #[] ∧ ∃ (x48 : Int), cell? m47 ⟨n22, 2, none⟩ = some (.int .i64 x48) ∧ CallM PP f_spec_DistanceCode #[.int .i64 x48] m47 fun v52 m53 => ∃ (x49 : Int), ∃ (x50 : Int), ∃ (x51 : Int), v52 = .tuple #[.int .i64 x49, .int .i64 x50, .int .i64 x51] ∧ onSome a10 fun p54 => (0 ≤ x49 ∧ x49 < (l11 : Int)) ∧ ∃ (x55 : Int), cell? m53 (aplus p54 x49.toNat) = some (.int .i64 x55) ∧ onSome a4 fun p56 => (0 ≤ x49 ∧ x49 < (l5 : Int)) ∧ ∃ (x57 : Int), cell? m53 (aplus p56 x49.toNat) = some (.int .i64 x57) ∧ CallM PP f_Writer_code #[.pointer (some ⟨w, 0, none⟩), .int .i64 x55, .int .i64 x57] m53 fun v58 m59 => v58 = .tuple #[] ∧ CallM PP f_Writer_Bits #[.pointer (some ⟨w, 0, none⟩), .int .i64 x50, .int .i64 x51] m59 fun v60 m61 => v60 = .tuple #[] ∧ WPS PP 92 c_Writer_items_rlrllrrr K [(0, .pointer (some ⟨w, 0, none⟩)), (2, .slice a1 l2 k3), (3, .slice a4 l5 k6), (8, .slice a7 l8 k9), (9, .slice a10 l11 k12), (11, .pointer (some ⟨n22, 0, none⟩)), (12, .int .i64 x35), (13, .int .i64 x50), (14, .int .i64 x51), (15, .int .i64 x49), (20, .slice a13 l14 k15), (21, .int .i64 x16), (22, .int .i64 x17)] m61)) (K.kx 0 [(0, .pointer (some ⟨w, 0, none⟩)), (2, .slice a1 l2 k3), (3, .slice a4 l5 k6), (8, .slice a7 l8 k9), (9, .slice a10 l11 k12), (20, .slice a13 l14 k15), (21, .int .i64 x16), (22, .int .i64 x17)] m)) :
    wpc PP FF 92 L_Writer_items c_Writer_items_rlrll K [(0, .pointer (some ⟨w, 0, none⟩)), (2, .slice a1 l2 k3), (3, .slice a4 l5 k6), (8, .slice a7 l8 k9), (9, .slice a10 l11 k12), (20, .slice a13 l14 k15), (21, .int .i64 x16), (22, .int .i64 x17)] m :=
  Eq.mpr (by kernel_rfl) h

def k_Writer_items_rlrllrrr : List Nat := [0, 2, 3, 8, 9, 20, 21, 22]
theorem p_Writer_items_rlrllrrr (w : Nat) (a1 : Option Addr) (l2 : Nat) (k3 : Nat) (a4 : Option Addr) (l5 : Nat) (k6 : Nat) (a7 : Option Addr) (l8 : Nat) (k9 : Nat) (a10 : Option Addr) (l11 : Nat) (k12 : Nat) (a13 : Option Addr) (l14 : Nat) (k15 : Nat) (x16 : Int) (x17 : Int) (m : Mem) (K : Kont)
    (h : K.kn [(0, .pointer (some ⟨w, 0, none⟩)), (2, .slice a1 l2 k3), (3, .slice a4 l5 k6), (8, .slice a7 l8 k9), (9, .slice a10 l11 k12), (20, .slice a13 l14 k15), (21, .int .i64 x16), (22, .int .i64 (IntKind.wrap .i64 (x17 + 1)))] m) :
    wpc PP FF 92 L_Writer_items c_Writer_items_rlrllrrr K [(0, .pointer (some ⟨w, 0, none⟩)), (2, .slice a1 l2 k3), (3, .slice a4 l5 k6), (8, .slice a7 l8 k9), (9, .slice a10 l11 k12), (20, .slice a13 l14 k15), (21, .int .i64 x16), (22, .int .i64 x17)] m :=
  Eq.mpr (by kernel_rfl) h

/-! loop.example/pub-inflation/impl.code -/
def L_impl_code : List Nat := [0, 2, 3, 4, 7, 11, 15]
def r_impl_code : List ResultVar := [.tmp 2]
noncomputable def c_impl_code : Code := (Go.Proofs.Tryd.f31.body).getD .skip
theorem b_impl_code : Go.Proofs.Tryd.f31.body = some c_impl_code := by kernel_rfl
theorem e_impl_code (v1 : Value) (m : Mem) (R : Value → Mem → Prop)
    (h : AllocW PP t_flate_CorruptInputError m fun n2 m3 => isIfc v1 = true ∧ ifB (isNil v1) (R (.int .i64 0) m3) (∃ (v4 : Value), cell? m3 ⟨g_io_EOF, 0, none⟩ = some (v4) ∧ ReadW PP m3 (do eqGuard .eql t_error (.tmp 8) (.tmp 9) v1 v4; binOp .eql t_error v1 v4) fun u6 => ∃ (b5 : Bool), u6 = .bool b5 ∧ ifB b5 (R (.int .i64 1) m3) (∃ (v7 : Value), cell? m3 ⟨g_io_ErrUnexpectedEOF, 0, none⟩ = some (v7) ∧ ReadW PP m3 (do eqGuard .eql t_error (.tmp 12) (.tmp 13) v1 v7; binOp .eql t_error v1 v7) fun u9 => ∃ (b8 : Bool), u9 = .bool b8 ∧ ifB b8 (R (.int .i64 2) m3) (CallM PP f_errors_As #[v1, .iface t_p_flate_CorruptInputError (.pointer (some ⟨n2, 0, none⟩))] m3 fun v11 m12 => ∃ (b10 : Bool), v11 = .bool b10 ∧ ifB b10 (R (.int .i64 3) m12) (R (.int .i64 4) m12))))) :
    CallM PP f_impl_code #[v1] m R :=
  callM_enter ffOk mixedOk 19 L_impl_code Tryd.func31 b_impl_code Tryd.ntmps31 (by simp) (Eq.mpr (by kernel_rfl) h)

/-! (*loop.example/pub-inflation/pub/inflate.decompressor).makeReader -/
def L_decompressor_makeReader : List Nat := [0, 1, 4, 5, 11, 23]
def r_decompressor_makeReader : List ResultVar := []
noncomputable def c_decompressor_makeReader : Code := (Go.Proofs.Tryd.f32.body).getD .skip
theorem b_decompressor_makeReader : Go.Proofs.Tryd.f32.body = some c_decompressor_makeReader := by kernel_rfl
noncomputable def c_decompressor_makeReader_rr : Code := (rgt (rgt c_decompressor_makeReader))
theorem e_decompressor_makeReader (f : Nat) (v1 : Value) (m : Mem) (R : Value → Mem → Prop)
    (h : PureW PP (Instr.typeAssert v1 t_io_Reader t_flate_Reader true) fun u4 => ∃ (v2 : Value), ∃ (b3 : Bool), u4 = .tuple #[v2, .bool b3] ∧ ifB b3 (StW m ⟨f, 1, none⟩ (.pointer none) fun m5 => StW m5 ⟨f, 0, none⟩ v2 fun m6 => R (.tuple #[]) m6) (∃ (p7 : Option Addr), cell? m ⟨f, 1, none⟩ = some (.pointer p7) ∧ ifB (!p7.isNone) (∃ (p8 : Option Addr), cell? m ⟨f, 1, none⟩ = some (.pointer p8) ∧ CallM PP f_bufio_Reader_Reset #[.pointer p8, v1] m fun v9 m10 => v9 = .tuple #[] ∧ WPS PP 43 c_decompressor_makeReader_rr (retK PP r_decompressor_makeReader R) [(0, .pointer (some ⟨f, 0, none⟩)), (1, v1), (4, v2), (5, .bool b3)] m10) (CallM PP f_bufio_NewReader #[v1] m fun v12 m13 => ∃ (p11 : Option Addr), v12 = .pointer p11 ∧ StW m13 ⟨f, 1, none⟩ (.pointer p11) fun m14 => WPS PP 43 c_decompressor_makeReader_rr (retK PP r_decompressor_makeReader R) [(0, .pointer (some ⟨f, 0, none⟩)), (1, v1), (4, v2), (5, .bool b3)] m14))) :
    CallM PP f_decompressor_makeReader #[.pointer (some ⟨f, 0, none⟩), v1] m R :=
  callM_enter ffOk mixedOk 43 L_decompressor_makeReader Tryd.func32 b_decompressor_makeReader Tryd.ntmps32 (by simp) (Eq.mpr (by kernel_rfl) h)

def k_decompressor_makeReader_rr : List Nat := [0]
theorem p_decompressor_makeReader_rr (f : Nat) (m : Mem) (K : Kont)
    (h : ∃ (p1 : Option Addr), cell? m ⟨f, 1, none⟩ = some (.pointer p1) ∧ StW m ⟨f, 0, none⟩ (.iface t_p_bufio_Reader (.pointer p1)) fun m2 => K.kn [(0, .pointer (some ⟨f, 0, none⟩))] m2  ) :
    wpc PP FF 43 L_decompressor_makeReader c_decompressor_makeReader_rr K [(0, .pointer (some ⟨f, 0, none⟩))] m :=
  Eq.mpr (by kernel_rfl) h

/-! (*loop.example/pub-inflation/pub/inflate.decompressor).nextBlock -/
def L_decompressor_nextBlock : List Nat := [0, 2, 7, 17, 53, 62, 66, 77, 88]
def r_decompressor_nextBlock : List ResultVar := []
noncomputable def c_decompressor_nextBlock : Code := (Go.Proofs.Tryd.f33.body).getD .skip
theorem b_decompressor_nextBlock : Go.Proofs.Tryd.f33.body = some c_decompressor_nextBlock := by kernel_rfl
noncomputable def c_decompressor_nextBlock_r : Code := (rgt c_decompressor_nextBlock)
noncomputable def c_decompressor_nextBlock_ll : Code := (lft (lft c_decompressor_nextBlock))
noncomputable def c_decompressor_nextBlock_lll : Code := (lft c_decompressor_nextBlock_ll)
theorem q_decompressor_nextBlock_ll : c_decompressor_nextBlock_ll = .loop c_decompressor_nextBlock_lll := by kernel_rfl
/- the loop at ll: slots [0] -/
theorem e_decompressor_nextBlock (f : Nat) (m : Mem) (R : Value → Mem → Prop)
    (h : WPS PP 103 c_decompressor_nextBlock_ll (((retK PP r_decompressor_nextBlock R).withN fun r m => WPS PP 103 c_decompressor_nextBlock_r (retK PP r_decompressor_nextBlock R) r m).withX 0) [(0, .pointer (some ⟨f, 0, none⟩))] m  ) :
    CallM PP f_decompressor_nextBlock #[.pointer (some ⟨f, 0, none⟩)] m R :=
  callM_enter ffOk mixedOk 103 L_decompressor_nextBlock Tryd.func33 b_decompressor_nextBlock Tryd.ntmps33 (by simp) (Eq.mpr (by kernel_rfl) h)

def k_decompressor_nextBlock_r : List Nat := [0]
theorem p_decompressor_nextBlock_r (f : Nat) (m : Mem) (K : Kont)
    (h : ∃ (x1 : Int), cell? m ⟨f, 3, none⟩ = some (.int .u32 x1) ∧ IntKind.u32 = IntKind.u32 ∧ StW m ⟨f, 1047, none⟩ (.bool ((bitsOp .and .u32 x1 1) == 1)) fun m2 => ∃ (x3 : Int), cell? m2 ⟨f, 3, none⟩ = some (.int .u32 x3) ∧ 0 ≤ (1 : Int) ∧ StW m2 ⟨f, 3, none⟩ (.int .u32 (shrOp .u32 x3 1)) fun m4 => ∃ (x5 : Int), cell? m4 ⟨f, 3, none⟩ = some (.int .u32 x5) ∧ IntKind.u32 = IntKind.u32 ∧ ∃ (x6 : Int), cell? m4 ⟨f, 3, none⟩ = some (.int .u32 x6) ∧ 0 ≤ (2 : Int) ∧ StW m4 ⟨f, 3, none⟩ (.int .u32 (shrOp .u32 x6 2)) fun m7 => ∃ (x8 : Int), cell? m7 ⟨f, 4, none⟩ = some (.int .u64 x8) ∧ StW m7 ⟨f, 4, none⟩ (.int .u64 (IntKind.wrap .u64 (x8 - 3))) fun m9 => ifB ((bitsOp .and .u32 x5 3) == 0) (CallM PP f_decompressor_dataBlock #[.pointer (some ⟨f, 0, none⟩)] m9 fun v10 m11 => v10 = .tuple #[] ∧ K.kn [(0, .pointer (some ⟨f, 0, none⟩)), (2, .int .u32 (bitsOp .and .u32 x5 3)), (53, .int .u32 (bitsOp .and .u32 x5 3))] m11) (ifB ((bitsOp .and .u32 x5 3) == 1) (CallM PP f_inflate_fixedHuffman #[] m9 fun v13 m14 => ∃ (p12 : Option Addr), v13 = .pointer p12 ∧ StW m14 ⟨f, 1050, none⟩ (.pointer p12) fun m15 => StW m15 ⟨f, 1051, none⟩ (.pointer none) fun m16 => CallM PP f_decompressor_huffmanBlock #[.pointer (some ⟨f, 0, none⟩)] m16 fun v17 m18 => v17 = .tuple #[] ∧ K.kn [(0, .pointer (some ⟨f, 0, none⟩)), (2, .int .u32 (bitsOp .and .u32 x5 3)), (53, .int .u32 (bitsOp .and .u32 x5 3))] m18) (ifB ((bitsOp .and .u32 x5 3) == 2) (CallM PP f_decompressor_readHuffman #[.pointer (some ⟨f, 0, none⟩)] m9 fun v20 m21 => ∃ (v19 : Value), v20 = v19 ∧ StW m21 ⟨f, 1048, none⟩ v19 fun m22 => ∃ (v23 : Value), cell? m22 ⟨f, 1048, none⟩ = some (v23) ∧ isIfc v23 = true ∧ ifB (!(isNil v23)) (K.kn [(0, .pointer (some ⟨f, 0, none⟩)), (2, .int .u32 (bitsOp .and .u32 x5 3)), (53, .int .u32 (bitsOp .and .u32 x5 3))] m22) (StW m22 ⟨f, 1050, none⟩ (.pointer (some ⟨f, 5, none⟩)) fun m24 => StW m24 ⟨f, 1051, none⟩ (.pointer (some ⟨f, 520, none⟩)) fun m25 => CallM PP f_decompressor_huffmanBlock #[.pointer (some ⟨f, 0, none⟩)] m25 fun v26 m27 => v26 = .tuple #[] ∧ K.kn [(0, .pointer (some ⟨f, 0, none⟩)), (2, .int .u32 (bitsOp .and .u32 x5 3)), (53, .int .u32 (bitsOp .and .u32 x5 3))] m27)) (∃ (x28 : Int), cell? m9 ⟨f, 2, none⟩ = some (.int .i64 x28) ∧ StW m9 ⟨f, 1048, none⟩ (.iface t_flate_CorruptInputError (.int .i64 x28)) fun m29 => K.kn [(0, .pointer (some ⟨f, 0, none⟩)), (2, .int .u32 (bitsOp .and .u32 x5 3)), (53, .int .u32 (bitsOp .and .u32 x5 3))] m29)))  ) :
    wpc PP FF 103 L_decompressor_nextBlock c_decompressor_nextBlock_r K [(0, .pointer (some ⟨f, 0, none⟩))] m :=
  Eq.mpr (by kernel_rfl) h

def k_decompressor_nextBlock_lll : List Nat := [0]
theorem p_decompressor_nextBlock_lll (f : Nat) (m : Mem) (K : Kont)
    (h : ∃ (x1 : Int), cell? m ⟨f, 4, none⟩ = some (.int .u64 x1) ∧ ifB (decide (x1 < 3)) (CallM PP f_decompressor_moreBits #[.pointer (some ⟨f, 0, none⟩)] m fun v3 m4 => ∃ (v2 : Value), v3 = v2 ∧ StW m4 ⟨f, 1048, none⟩ v2 fun m5 => ∃ (v6 : Value), cell? m5 ⟨f, 1048, none⟩ = some (v6) ∧ isIfc v6 = true ∧ ifB (!(isNil v6)) (K.kr [(0, .pointer (some ⟨f, 0, none⟩))] m5) (K.kn [(0, .pointer (some ⟨f, 0, none⟩))] m5)) (K.kx 0 [(0, .pointer (some ⟨f, 0, none⟩))] m)  ) :
    wpc PP FF 103 L_decompressor_nextBlock c_decompressor_nextBlock_lll K [(0, .pointer (some ⟨f, 0, none⟩))] m :=
  Eq.mpr (by kernel_rfl) h

/-! (*loop.example/pub-inflation/pub/inflate.dictDecoder).init -/
def L_dictDecoder_init : List Nat := [0, 1, 2, 19, 41, 70]
def r_dictDecoder_init : List ResultVar := []
noncomputable def c_dictDecoder_init : Code := (Go.Proofs.Tryd.f34.body).getD .skip
theorem b_dictDecoder_init : Go.Proofs.Tryd.f34.body = some c_dictDecoder_init := by kernel_rfl
noncomputable def c_dictDecoder_init_rr : Code := (rgt (rgt c_dictDecoder_init))
noncomputable def c_dictDecoder_init_rrrr : Code := (rgt (rgt c_dictDecoder_init_rr))
noncomputable def c_dictDecoder_init_rrrrrr : Code := (rgt (rgt c_dictDecoder_init_rrrr))
theorem e_dictDecoder_init (f : Nat) (x1 : Int) (a2 : Option Addr) (l3 : Nat) (k4 : Nat) (m : Mem) (R : Value → Mem → Prop)
    (h : ∃ (a5 : Option Addr), ∃ (l6 : Nat), ∃ (k7 : Nat), cell? m ⟨f, 1037, none⟩ = some (.slice a5 l6 k7) ∧ StAgg PP t_flate_dictDecoder m ⟨f, 1037, none⟩ (.agg #[.slice a5 l6 k7, .int .i64 0, .int .i64 0, .bool false]) fun m8 => ∃ (a9 : Option Addr), ∃ (l10 : Nat), ∃ (k11 : Nat), cell? m8 ⟨f, 1037, none⟩ = some (.slice a9 l10 k11) ∧ ifB (decide ((k11 : Int) < x1)) (SemW PP (sv (Instr.makeSlice t_s_uint8 (.int .i64 x1) (.int .i64 x1))) m8 (NextW PP fun v15 m16 => ∃ (a12 : Option Addr), ∃ (l13 : Nat), ∃ (k14 : Nat), v15 = .slice a12 l13 k14 ∧ StW m16 ⟨f, 1037, none⟩ (.slice a12 l13 k14) fun m17 => WPS PP 84 c_dictDecoder_init_rr (retK PP r_dictDecoder_init R) [(0, .pointer (some ⟨f, 1037, none⟩)), (1, .int .i64 x1), (2, .slice a2 l3 k4)] m17)) (WPS PP 84 c_dictDecoder_init_rr (retK PP r_dictDecoder_init R) [(0, .pointer (some ⟨f, 1037, none⟩)), (1, .int .i64 x1), (2, .slice a2 l3 k4)] m8)) :
    CallM PP f_dictDecoder_init #[.pointer (some ⟨f, 1037, none⟩), .int .i64 x1, .slice a2 l3 k4] m R :=
  callM_enter ffOk mixedOk 84 L_dictDecoder_init Tryd.func34 b_dictDecoder_init Tryd.ntmps34 (by simp) (Eq.mpr (by kernel_rfl) h)

def k_dictDecoder_init_rr : List Nat := [0, 1, 2]
theorem p_dictDecoder_init_rr (f : Nat) (x1 : Int) (a2 : Option Addr) (l3 : Nat) (k4 : Nat) (m : Mem) (K : Kont)
    (h : ∃ (a5 : Option Addr), ∃ (l6 : Nat), ∃ (k7 : Nat), cell? m ⟨f, 1037, none⟩ = some (.slice a5 l6 k7) ∧ l6 ≤ k7 ∧ (0 ≤ x1 ∧ x1 ≤ (k7 : Int)) ∧ StW m ⟨f, 1037, none⟩ (.slice a5 x1.toNat k7) fun m8 => ∃ (a9 : Option Addr), ∃ (l10 : Nat), ∃ (k11 : Nat), cell? m8 ⟨f, 1037, none⟩ = some (.slice a9 l10 k11) ∧ ifB (decide ((l3 : Int) > (l10 : Int))) (∃ (a12 : Option Addr), ∃ (l13 : Nat), ∃ (k14 : Nat), cell? m8 ⟨f, 1037, none⟩ = some (.slice a12 l13 k14) ∧ l3 ≤ k4 ∧ (0 ≤ (IntKind.wrap .i64 ((l3 : Int) - (l13 : Int))) ∧ (IntKind.wrap .i64 ((l3 : Int) - (l13 : Int))) ≤ (l3 : Int)) ∧ WPS PP 84 c_dictDecoder_init_rrrr K [(0, .pointer (some ⟨f, 1037, none⟩)), (1, .int .i64 x1), (2, .slice (subA a2 ((IntKind.wrap .i64 ((l3 : Int) - (l13 : Int))).toNat) 1 k4) (l3 - ((IntKind.wrap .i64 ((l3 : Int) - (l13 : Int))).toNat)) (k4 - ((IntKind.wrap .i64 ((l3 : Int) - (l13 : Int))).toNat)))] m8) (WPS PP 84 c_dictDecoder_init_rrrr K [(0, .pointer (some ⟨f, 1037, none⟩)), (1, .int .i64 x1), (2, .slice a2 l3 k4)] m8)) :
    wpc PP FF 84 L_dictDecoder_init c_dictDecoder_init_rr K [(0, .pointer (some ⟨f, 1037, none⟩)), (1, .int .i64 x1), (2, .slice a2 l3 k4)] m :=
  Eq.mpr (by kernel_rfl) h

def k_dictDecoder_init_rrrr : List Nat := [0, 2]
theorem p_dictDecoder_init_rrrr (f : Nat) (a1 : Option Addr) (l2 : Nat) (k3 : Nat) (m : Mem) (K : Kont)
    (h : ∃ (a4 : Option Addr), ∃ (l5 : Nat), ∃ (k6 : Nat), cell? m ⟨f, 1037, none⟩ = some (.slice a4 l5 k6) ∧ SemW PP (builtin .copy #[t_s_uint8, t_s_uint8] t_int #[false, false] #[.slice a4 l5 k6, .slice a1 l2 k3]) m (NextW PP fun v8 m9 => ∃ (x7 : Int), v8 = .int .i64 x7 ∧ StW m9 ⟨f, 1038, none⟩ (.int .i64 x7) fun m10 => ∃ (x11 : Int), cell? m10 ⟨f, 1038, none⟩ = some (.int .i64 x11) ∧ ∃ (a12 : Option Addr), ∃ (l13 : Nat), ∃ (k14 : Nat), cell? m10 ⟨f, 1037, none⟩ = some (.slice a12 l13 k14) ∧ ifB (x11 == (l13 : Int)) (StW m10 ⟨f, 1038, none⟩ (.int .i64 0) fun m15 => StW m15 ⟨f, 1040, none⟩ (.bool true) fun m16 => WPS PP 84 c_dictDecoder_init_rrrrrr K [(0, .pointer (some ⟨f, 1037, none⟩)), (2, .slice a1 l2 k3)] m16) (WPS PP 84 c_dictDecoder_init_rrrrrr K [(0, .pointer (some ⟨f, 1037, none⟩)), (2, .slice a1 l2 k3)] m10))) :
    wpc PP FF 84 L_dictDecoder_init c_dictDecoder_init_rrrr K [(0, .pointer (some ⟨f, 1037, none⟩)), (2, .slice a1 l2 k3)] m :=
  Eq.mpr (by kernel_rfl) h

def k_dictDecoder_init_rrrrrr : List Nat := [0]
theorem p_dictDecoder_init_rrrrrr (f : Nat) (m : Mem) (K : Kont)
    (h : ∃ (x1 : Int), cell? m ⟨f, 1038, none⟩ = some (.int .i64 x1) ∧ StW m ⟨f, 1039, none⟩ (.int .i64 x1) fun m2 => K.kn [(0, .pointer (some ⟨f, 1037, none⟩))] m2  ) :
    wpc PP FF 84 L_dictDecoder_init c_dictDecoder_init_rrrrrr K [(0, .pointer (some ⟨f, 1037, none⟩))] m :=
  Eq.mpr (by kernel_rfl) h

/-! bytes.NewReader -/
def L_bytes_NewReader : List Nat := [0, 2]
def r_bytes_NewReader : List ResultVar := [.tmp 2]
noncomputable def c_bytes_NewReader : Code := (Go.Proofs.Tryd.f35.body).getD .skip
theorem b_bytes_NewReader : Go.Proofs.Tryd.f35.body = some c_bytes_NewReader := by kernel_rfl
theorem e_bytes_NewReader (a1 : Option Addr) (l2 : Nat) (k3 : Nat) (m : Mem) (R : Value → Mem → Prop)
    (h : BoxW t_bytes_Reader (.agg #[.slice a1 l2 k3, .int .i64 0, .int .i64 (-1)]) m fun n4 m5 => R (.pointer (some ⟨n4, 0, none⟩)) m5) :
    CallM PP f_bytes_NewReader #[.slice a1 l2 k3] m R :=
  callM_enter ffOk mixedOk 6 L_bytes_NewReader Tryd.func35 b_bytes_NewReader Tryd.ntmps35 (by simp) (Eq.mpr (by kernel_rfl) h)

/-! (*loop.example/pub-inflation/spec.Writer).bit -/
def L_Writer_bit : List Nat := [0, 1, 9]
def r_Writer_bit : List ResultVar := []
noncomputable def c_Writer_bit : Code := (Go.Proofs.Tryd.f36.body).getD .skip
theorem b_Writer_bit : Go.Proofs.Tryd.f36.body = some c_Writer_bit := by kernel_rfl
noncomputable def c_Writer_bit_r : Code := (rgt c_Writer_bit)
theorem e_Writer_bit (w : Nat) (x1 : Int) (m : Mem) (R : Value → Mem → Prop)
    (h : ∃ (x2 : Int), cell? m ⟨w, 1, none⟩ = some (.int .i64 x2) ∧ IntKind.i64 = IntKind.i64 ∧ (8 : Int) ≠ 0 ∧ ifB ((Int.tmod x2 8) == 0) (∃ (a3 : Option Addr), ∃ (l4 : Nat), ∃ (k5 : Nat), cell? m ⟨w, 0, none⟩ = some (.slice a3 l4 k5) ∧ SemW PP (sv (Instr.buildSlice t_s_uint8 1 #[(0, .int .u8 0)])) m (NextW PP fun v9 m10 => ∃ (a6 : Option Addr), ∃ (l7 : Nat), ∃ (k8 : Nat), v9 = .slice a6 l7 k8 ∧ SemW PP (builtin .append #[t_s_uint8, t_s_uint8] t_s_uint8 #[false, false] #[.slice a3 l4 k5, .slice a6 l7 k8]) m10 (NextW PP fun v14 m15 => ∃ (a11 : Option Addr), ∃ (l12 : Nat), ∃ (k13 : Nat), v14 = .slice a11 l12 k13 ∧ StW m15 ⟨w, 0, none⟩ (.slice a11 l12 k13) fun m16 => WPS PP 48 c_Writer_bit_r (retK PP r_Writer_bit R) [(0, .pointer (some ⟨w, 0, none⟩)), (1, .int .i64 x1)] m16))) (WPS PP 48 c_Writer_bit_r (retK PP r_Writer_bit R) [(0, .pointer (some ⟨w, 0, none⟩)), (1, .int .i64 x1)] m)) :
    CallM PP f_Writer_bit #[.pointer (some ⟨w, 0, none⟩), .int .i64 x1] m R :=
  callM_enter ffOk mixedOk 48 L_Writer_bit Tryd.func36 b_Writer_bit Tryd.ntmps36 (by simp) (Eq.mpr (by kernel_rfl) h)

def k_Writer_bit_r : List Nat := [0, 1]
theorem p_Writer_bit_r (w : Nat) (x1 : Int) (m : Mem) (K : Kont)
    (h : ∃ (a2 : Option Addr), ∃ (l3 : Nat), ∃ (k4 : Nat), cell? m ⟨w, 0, none⟩ = some (.slice a2 l3 k4) ∧ ∃ (x5 : Int), cell? m ⟨w, 1, none⟩ = some (.int .i64 x5) ∧ IntKind.i64 = IntKind.i64 ∧ (8 : Int) ≠ 0 ∧ onSome a2 fun p6 => (0 ≤ (IntKind.wrap .i64 (Int.tdiv x5 8)) ∧ (IntKind.wrap .i64 (Int.tdiv x5 8)) < (l3 : Int)) ∧ ∃ (x7 : Int), cell? m (aplus p6 ((IntKind.wrap .i64 (Int.tdiv x5 8)).toNat)) = some (.int .u8 x7) ∧ IntKind.i64 = IntKind.i64 ∧ ∃ (x8 : Int), cell? m ⟨w, 1, none⟩ = some (.int .i64 x8) ∧ IntKind.i64 = IntKind.i64 ∧ (8 : Int) ≠ 0 ∧ 0 ≤ (Int.tmod x8 8) ∧ IntKind.u8 = IntKind.u8 ∧ onSome a2 fun p9 => (0 ≤ (IntKind.wrap .i64 (Int.tdiv x5 8)) ∧ (IntKind.wrap .i64 (Int.tdiv x5 8)) < (l3 : Int)) ∧ StW m (aplus p9 ((IntKind.wrap .i64 (Int.tdiv x5 8)).toNat)) (.int .u8 (bitsOp .or .u8 x7 (shlOp .u8 (IntKind.wrap .u8 (bitsOp .and .i64 x1 1)) (Int.tmod x8 8)))) fun m10 => ∃ (x11 : Int), cell? m10 ⟨w, 1, none⟩ = some (.int .i64 x11) ∧ StW m10 ⟨w, 1, none⟩ (.int .i64 (IntKind.wrap .i64 (x11 + 1))) fun m12 => K.kn [(0, .pointer (some ⟨w, 0, none⟩)), (1, .int .i64 x1)] m12) :
    wpc PP FF 48 L_Writer_bit c_Writer_bit_r K [(0, .pointer (some ⟨w, 0, none⟩)), (1, .int .i64 x1)] m :=
  Eq.mpr (by kernel_rfl) h

/-! loop.example/pub-inflation/spec.Codes -/
def L_spec_Codes : List Nat := [0, 2, 3, 4, 5, 6, 7, 12, 17, 18, 19, 20, 26]
def r_spec_Codes : List ResultVar := [.tmp 2]
noncomputable def c_spec_Codes : Code := (Go.Proofs.Tryd.f37.body).getD .skip
theorem b_spec_Codes : Go.Proofs.Tryd.f37.body = some c_spec_Codes := by kernel_rfl
noncomputable def c_spec_Codes_rrrr : Code := (rgt (rgt (rgt (rgt c_spec_Codes))))
noncomputable def c_spec_Codes_rrrlrl : Code := (lft (rgt (lft (rgt (rgt (rgt c_spec_Codes))))))
noncomputable def c_spec_Codes_rrrlrll : Code := (lft c_spec_Codes_rrrlrl)
noncomputable def c_spec_Codes_rrrlrllrr : Code := (rgt (rgt c_spec_Codes_rrrlrll))
noncomputable def c_spec_Codes_rrrlrllrllrrl : Code := (lft (rgt (rgt (lft (lft (rgt c_spec_Codes_rrrlrll))))))
noncomputable def c_spec_Codes_rrrlrllrllrrll : Code := (lft c_spec_Codes_rrrlrllrllrrl)
noncomputable def c_spec_Codes_rrrlrllrllrrllrrr : Code := (rgt (rgt (rgt c_spec_Codes_rrrlrllrllrrll)))
theorem q_spec_Codes_rrrlrl : c_spec_Codes_rrrlrl = .loop c_spec_Codes_rrrlrll := by kernel_rfl
theorem q_spec_Codes_rrrlrllrllrrl : c_spec_Codes_rrrlrllrllrrl = .loop c_spec_Codes_rrrlrllrllrrll := by kernel_rfl
/- the loop at rrrlrl: slots [0, 3, 4, 5] -/
/- the loop at rrrlrllrllrrl: slots [0, 3, 4, 5, 17, 18, 19] -/
theorem e_spec_Codes (a1 : Option Addr) (l2 : Nat) (k3 : Nat) (m : Mem) (R : Value → Mem → Prop)
    (h : SemW PP (sv (Instr.makeSlice t_s_int (.int .i64 (l2 : Int)) (.int .i64 (l2 : Int)))) m (NextW PP fun v7 m8 => ∃ (a4 : Option Addr), ∃ (l5 : Nat), ∃ (k6 : Nat), v7 = .slice a4 l5 k6 ∧ WPS PP 35 c_spec_Codes_rrrlrl (((retK PP r_spec_Codes R).withN fun r m => WPS PP 35 c_spec_Codes_rrrr (retK PP r_spec_Codes R) r m).withX 0) [(0, .slice a1 l2 k3), (2, .slice none 0 0), (3, .slice a4 l5 k6), (4, .int .i64 0), (5, .int .i64 1)] m8)) :
    CallM PP f_spec_Codes #[.slice a1 l2 k3] m R :=
  callM_enter ffOk mixedOk 35 L_spec_Codes Tryd.func37 b_spec_Codes Tryd.ntmps37 (by simp) (Eq.mpr (by kernel_rfl) h)

def k_spec_Codes_rrrr : List Nat := [3]
theorem p_spec_Codes_rrrr (a1 : Option Addr) (l2 : Nat) (k3 : Nat) (m : Mem) (K : Kont)
    (h : K.kr [(2, .slice a1 l2 k3), (3, .slice a1 l2 k3)] m) :
    wpc PP FF 35 L_spec_Codes c_spec_Codes_rrrr K [(3, .slice a1 l2 k3)] m :=
  Eq.mpr (by kernel_rfl) h

def k_spec_Codes_rrrlrll : List Nat := [0, 3, 4, 5]
theorem p_spec_Codes_rrrlrll (a1 : Option Addr) (l2 : Nat) (k3 : Nat) (a4 : Option Addr) (l5 : Nat) (k6 : Nat) (x7 : Int) (x8 : Int) (m : Mem) (K : Kont)
    (h : ifB (decide (x8 ≤ 15)) (WPS PP 35 c_spec_Codes_rrrlrllrllrrl (((K.withN fun r m => WPS PP 35 c_spec_Codes_rrrlrllrr K r m).withX 1).withX 2) [(0, .slice a1 l2 k3), (3, .slice a4 l5 k6), (4, .int .i64 (IntKind.wrap .i64 (x7 * 2))), (5, .int .i64 x8), (17, .slice a1 l2 k3), (18, .int .i64 (l2 : Int)), (19, .int .i64 0)] m) (K.kx 0 [(0, .slice a1 l2 k3), (3, .slice a4 l5 k6), (4, .int .i64 x7), (5, .int .i64 x8)] m)) :
    wpc PP FF 35 L_spec_Codes c_spec_Codes_rrrlrll K [(0, .slice a1 l2 k3), (3, .slice a4 l5 k6), (4, .int .i64 x7), (5, .int .i64 x8)] m :=
  Eq.mpr (by kernel_rfl) h

def k_spec_Codes_rrrlrllrllrrll : List Nat := [0, 3, 4, 5, 17, 18, 19]
theorem p_spec_Codes_rrrlrllrllrrll (a1 : Option Addr) (l2 : Nat) (k3 : Nat) (a4 : Option Addr) (l5 : Nat) (k6 : Nat) (x7 : Int) (x8 : Int) (a9 : Option Addr) (l10 : Nat) (k11 : Nat) (x12 : Int) (x13 : Int) (m : Mem) (K : Kont)
    (h : ifB (decide (x13 < x12)) (onSome a9 fun p14 => (0 ≤ x13 ∧ x13 < (l10 : Int)) ∧ ∃ (x15 : Int), cell? m (aplus p14 x13.toNat) = some (.int .i64 x15) ∧ ifB (x15 == x8) (onSome a4 fun p16 => (0 ≤ x13 ∧ x13 < (l5 : Int)) ∧ StW m (aplus p16 x13.toNat) (.int .i64 x7) fun m17 => WPS PP 35 c_spec_Codes_rrrlrllrllrrllrrr K [(0, .slice a1 l2 k3), (3, .slice a4 l5 k6), (4, .int .i64 (IntKind.wrap .i64 (x7 + 1))), (5, .int .i64 x8), (6, .int .i64 x13), (7, .int .i64 x15), (17, .slice a9 l10 k11), (18, .int .i64 x12), (19, .int .i64 x13)] m17) (WPS PP 35 c_spec_Codes_rrrlrllrllrrllrrr K [(0, .slice a1 l2 k3), (3, .slice a4 l5 k6), (4, .int .i64 x7), (5, .int .i64 x8), (6, .int .i64 x13), (7, .int .i64 x15), (17, .slice a9 l10 k11), (18, .int .i64 x12), (19, .int .i64 x13)] m)) (K.kx 2 [(0, .slice a1 l2 k3), (3, .slice a4 l5 k6), (4, .int .i64 x7), (5, .int .i64 x8), (17, .slice a9 l10 k11), (18, .int .i64 x12), (19, .int .i64 x13)] m)) :
    wpc PP FF 35 L_spec_Codes c_spec_Codes_rrrlrllrllrrll K [(0, .slice a1 l2 k3), (3, .slice a4 l5 k6), (4, .int .i64 x7), (5, .int .i64 x8), (17, .slice a9 l10 k11), (18, .int .i64 x12), (19, .int .i64 x13)] m :=
  Eq.mpr (by kernel_rfl) h

def k_spec_Codes_rrrlrllrr : List Nat := [0, 3, 4, 5]
theorem p_spec_Codes_rrrlrllrr (a1 : Option Addr) (l2 : Nat) (k3 : Nat) (a4 : Option Addr) (l5 : Nat) (k6 : Nat) (x7 : Int) (x8 : Int) (m : Mem) (K : Kont)
    (h : K.kn [(0, .slice a1 l2 k3), (3, .slice a4 l5 k6), (4, .int .i64 x7), (5, .int .i64 (IntKind.wrap .i64 (x8 + 1)))] m) :
    wpc PP FF 35 L_spec_Codes c_spec_Codes_rrrlrllrr K [(0, .slice a1 l2 k3), (3, .slice a4 l5 k6), (4, .int .i64 x7), (5, .int .i64 x8)] m :=
  Eq.mpr (by kernel_rfl) h

def k_spec_Codes_rrrlrllrllrrllrrr : List Nat := [0, 3, 4, 5, 17, 18, 19]
theorem p_spec_Codes_rrrlrllrllrrllrrr (a1 : Option Addr) (l2 : Nat) (k3 : Nat) (a4 : Option Addr) (l5 : Nat) (k6 : Nat) (x7 : Int) (x8 : Int) (a9 : Option Addr) (l10 : Nat) (k11 : Nat) (x12 : Int) (x13 : Int) (m : Mem) (K : Kont)
    (h : K.kn [(0, .slice a1 l2 k3), (3, .slice a4 l5 k6), (4, .int .i64 x7), (5, .int .i64 x8), (17, .slice a9 l10 k11), (18, .int .i64 x12), (19, .int .i64 (IntKind.wrap .i64 (x13 + 1)))] m) :
    wpc PP FF 35 L_spec_Codes c_spec_Codes_rrrlrllrllrrllrrr K [(0, .slice a1 l2 k3), (3, .slice a4 l5 k6), (4, .int .i64 x7), (5, .int .i64 x8), (17, .slice a9 l10 k11), (18, .int .i64 x12), (19, .int .i64 x13)] m :=
  Eq.mpr (by kernel_rfl) h

/-! loop.example/pub-inflation/spec.LengthCode -/
def L_spec_LengthCode : List Nat := [0, 2, 3, 4, 5, 6, 7, 9, 11, 21]
def r_spec_LengthCode : List ResultVar := [.tmp 2, .tmp 3, .tmp 4]
noncomputable def c_spec_LengthCode : Code := (Go.Proofs.Tryd.f38.body).getD .skip
theorem b_spec_LengthCode : Go.Proofs.Tryd.f38.body = some c_spec_LengthCode := by kernel_rfl
noncomputable def c_spec_LengthCode_rrr : Code := (rgt (rgt (rgt c_spec_LengthCode)))
noncomputable def c_spec_LengthCode_rrlrl : Code := (lft (rgt (lft (rgt (rgt c_spec_LengthCode)))))
noncomputable def c_spec_LengthCode_rrlrll : Code := (lft c_spec_LengthCode_rrlrl)
theorem q_spec_LengthCode_rrlrl : c_spec_LengthCode_rrlrl = .loop c_spec_LengthCode_rrlrll := by kernel_rfl
/- the loop at rrlrl: slots [0, 5] -/
theorem e_spec_LengthCode (x1 : Int) (m : Mem) (R : Value → Mem → Prop)
    (h : ifB (x1 == 258) (R (.tuple #[.int .i64 285, .int .i64 0, .int .i64 0]) m) (WPS PP 27 c_spec_LengthCode_rrlrl (((retK PP r_spec_LengthCode R).withN fun r m => WPS PP 27 c_spec_LengthCode_rrr (retK PP r_spec_LengthCode R) r m).withX 0) [(0, .int .i64 x1), (2, .int .i64 0), (3, .int .i64 0), (4, .int .i64 0), (5, .int .i64 284)] m)) :
    CallM PP f_spec_LengthCode #[.int .i64 x1] m R :=
  callM_enter ffOk mixedOk 27 L_spec_LengthCode Tryd.func38 b_spec_LengthCode Tryd.ntmps38 (by simp) (Eq.mpr (by kernel_rfl) h)

def k_spec_LengthCode_rrr : List Nat := []
theorem p_spec_LengthCode_rrr  (m : Mem) (K : Kont)
    (h : K.kr [(2, .int .i64 0), (3, .int .i64 0), (4, .int .i64 0)] m  ) :
    wpc PP FF 27 L_spec_LengthCode c_spec_LengthCode_rrr K [] m :=
  Eq.mpr (by kernel_rfl) h

def k_spec_LengthCode_rrlrll : List Nat := [0, 5]
theorem p_spec_LengthCode_rrlrll (x1 : Int) (x2 : Int) (m : Mem) (K : Kont)
    (h : ifB (decide (x2 ≥ 257)) (CallM PP f_spec_Length #[.int .i64 x2] m fun v5 m6 => ∃ (x3 : Int), ∃ (x4 : Int), v5 = .tuple #[.int .i64 x3, .int .i64 x4] ∧ ifB (decide (x1 ≥ x3)) (K.kr [(0, .int .i64 x1), (2, .int .i64 x2), (3, .int .i64 (IntKind.wrap .i64 (x1 - x3))), (4, .int .i64 x4), (5, .int .i64 x2), (6, .int .i64 x3), (7, .int .i64 x4)] m6) (K.kn [(0, .int .i64 x1), (5, .int .i64 (IntKind.wrap .i64 (x2 - 1))), (6, .int .i64 x3), (7, .int .i64 x4)] m6)) (K.kx 0 [(0, .int .i64 x1), (5, .int .i64 x2)] m)) :
    wpc PP FF 27 L_spec_LengthCode c_spec_LengthCode_rrlrll K [(0, .int .i64 x1), (5, .int .i64 x2)] m :=
  Eq.mpr (by kernel_rfl) h

/-! loop.example/pub-inflation/spec.DistanceCode -/
def L_spec_DistanceCode : List Nat := [0, 2, 3, 4, 5, 6, 7, 9, 19]
def r_spec_DistanceCode : List ResultVar := [.tmp 2, .tmp 3, .tmp 4]
noncomputable def c_spec_DistanceCode : Code := (Go.Proofs.Tryd.f39.body).getD .skip
theorem b_spec_DistanceCode : Go.Proofs.Tryd.f39.body = some c_spec_DistanceCode := by kernel_rfl
noncomputable def c_spec_DistanceCode_rr : Code := (rgt (rgt c_spec_DistanceCode))
noncomputable def c_spec_DistanceCode_rlrl : Code := (lft (rgt (lft (rgt c_spec_DistanceCode))))
noncomputable def c_spec_DistanceCode_rlrll : Code := (lft c_spec_DistanceCode_rlrl)
theorem q_spec_DistanceCode_rlrl : c_spec_DistanceCode_rlrl = .loop c_spec_DistanceCode_rlrll := by kernel_rfl
/- the loop at rlrl: slots [0, 5] -/
theorem e_spec_DistanceCode (x1 : Int) (m : Mem) (R : Value → Mem → Prop)
    (h : WPS PP 25 c_spec_DistanceCode_rlrl (((retK PP r_spec_DistanceCode R).withN fun r m => WPS PP 25 c_spec_DistanceCode_rr (retK PP r_spec_DistanceCode R) r m).withX 0) [(0, .int .i64 x1), (2, .int .i64 0), (3, .int .i64 0), (4, .int .i64 0), (5, .int .i64 29)] m) :
    CallM PP f_spec_DistanceCode #[.int .i64 x1] m R :=
  callM_enter ffOk mixedOk 25 L_spec_DistanceCode Tryd.func39 b_spec_DistanceCode Tryd.ntmps39 (by simp) (Eq.mpr (by kernel_rfl) h)

def k_spec_DistanceCode_rr : List Nat := []
theorem p_spec_DistanceCode_rr  (m : Mem) (K : Kont)
    (h : K.kr [(2, .int .i64 0), (3, .int .i64 0), (4, .int .i64 0)] m  ) :
    wpc PP FF 25 L_spec_DistanceCode c_spec_DistanceCode_rr K [] m :=
  Eq.mpr (by kernel_rfl) h

def k_spec_DistanceCode_rlrll : List Nat := [0, 5]
theorem p_spec_DistanceCode_rlrll (x1 : Int) (x2 : Int) (m : Mem) (K : Kont)
    (h : ifB (decide (x2 ≥ 0)) (CallM PP f_spec_Distance #[.int .i64 x2] m fun v5 m6 => ∃ (x3 : Int), ∃ (x4 : Int), v5 = .tuple #[.int .i64 x3, .int .i64 x4] ∧ ifB (decide (x1 ≥ x3)) (K.kr [(0, .int .i64 x1), (2, .int .i64 x2), (3, .int .i64 (IntKind.wrap .i64 (x1 - x3))), (4, .int .i64 x4), (5, .int .i64 x2), (6, .int .i64 x3), (7, .int .i64 x4)] m6) (K.kn [(0, .int .i64 x1), (5, .int .i64 (IntKind.wrap .i64 (x2 - 1))), (6, .int .i64 x3), (7, .int .i64 x4)] m6)) (K.kx 0 [(0, .int .i64 x1), (5, .int .i64 x2)] m)) :
    wpc PP FF 25 L_spec_DistanceCode c_spec_DistanceCode_rlrll K [(0, .int .i64 x1), (5, .int .i64 x2)] m :=
  Eq.mpr (by kernel_rfl) h

/-! errors.As -/
def L_errors_As : List Nat := [0, 1, 4, 5, 6, 7, 9, 11, 23, 35]
def r_errors_As : List ResultVar := [.tmp 4]
noncomputable def c_errors_As : Code := (Go.Proofs.Tryd.f40.body).getD .skip
theorem b_errors_As : Go.Proofs.Tryd.f40.body = some c_errors_As := by kernel_rfl
noncomputable def c_errors_As_rrr : Code := (rgt (rgt (rgt c_errors_As)))
noncomputable def c_errors_As_rrrrrr : Code := (rgt (rgt (rgt c_errors_As_rrr)))
noncomputable def c_errors_As_rrrrrrrr : Code := (rgt (rgt c_errors_As_rrrrrr))
theorem e_errors_As (v1 : Value) (v2 : Value) (m : Mem) (R : Value → Mem → Prop)
    (h : isIfc v1 = true ∧ ifB (isNil v1) (R (.bool false) m) (isIfc v2 = true ∧ ifB (isNil v2) (False) (WPS PP 42 c_errors_As_rrr (retK PP r_errors_As R) [(0, v1), (1, v2), (4, .bool false)] m))) :
    CallM PP f_errors_As #[v1, v2] m R :=
  callM_enter ffOk mixedOk 42 L_errors_As Tryd.func40 b_errors_As Tryd.ntmps40 (by simp) (Eq.mpr (by kernel_rfl) h)

def k_errors_As_rrr : List Nat := [0, 1]
theorem p_errors_As_rrr (v1 : Value) (v2 : Value) (m : Mem) (K : Kont)
    (h : SemW PP (callVal (.func (.func f_reflectlite_ValueOf) #[] #[]) #[v2]) m (NextW PP fun v4 m5 => ∃ (v3 : Value), v4 = v3 ∧ AllocW PP t_reflectlite_Value m5 fun n6 m7 => StAgg PP t_reflectlite_Value m7 ⟨n6, 0, none⟩ v3 fun m8 => ∃ (p9 : Option Addr), ∃ (v10 : Value), ∃ (x11 : Int), ([.pointer p9, v10, .int .u64 x11] : List Value).length = 3 ∧ CellsAre m8 ⟨n6, 0, none⟩ 0 [.pointer p9, v10, .int .u64 x11] ∧ SemW PP (callVal (.func (.func f_reflectlite_Value_Type) #[] #[]) #[.agg #[.pointer p9, v10, .int .u64 x11]]) m8 (NextW PP fun v13 m14 => ∃ (v12 : Value), v13 = v12 ∧ SemW PP (callMethod v12 "Kind" #[]) m14 (NextW PP fun v16 m17 => ∃ (x15 : Int), v16 = .int .u8 x15 ∧ ifB (x15 != 22) (False) (∃ (p18 : Option Addr), ∃ (v19 : Value), ∃ (x20 : Int), ([.pointer p18, v19, .int .u64 x20] : List Value).length = 3 ∧ CellsAre m17 ⟨n6, 0, none⟩ 0 [.pointer p18, v19, .int .u64 x20] ∧ SemW PP (callVal (.func (.func f_reflectlite_Value_IsNil) #[] #[]) #[.agg #[.pointer p18, v19, .int .u64 x20]]) m17 (NextW PP fun v22 m23 => ∃ (b21 : Bool), v22 = .bool b21 ∧ ifB b21 (False) (WPS PP 42 c_errors_As_rrrrrr K [(0, v1), (1, v2), (5, .pointer (some ⟨n6, 0, none⟩)), (6, v12)] m23))))))) :
    wpc PP FF 42 L_errors_As c_errors_As_rrr K [(0, v1), (1, v2)] m :=
  Eq.mpr (by kernel_rfl) h

def k_errors_As_rrrrrr : List Nat := [0, 1, 5, 6]
theorem p_errors_As_rrrrrr (v1 : Value) (v2 : Value) (n3 : Nat) (v4 : Value) (m : Mem) (K : Kont)
    (h : SemW PP (callMethod v4 "Elem" #[]) m (NextW PP fun v6 m7 => ∃ (v5 : Value), v6 = v5 ∧ SemW PP (callMethod v5 "Kind" #[]) m7 (NextW PP fun v9 m10 => ∃ (x8 : Int), v9 = .int .u8 x8 ∧ ifB (x8 != 20) (∃ (v11 : Value), cell? m10 ⟨g_errors_errorType, 0, none⟩ = some (v11) ∧ SemW PP (callMethod v5 "Implements" #[v11]) m10 (NextW PP fun v13 m14 => ∃ (b12 : Bool), v13 = .bool b12 ∧ ifB (!b12) (False) (WPS PP 42 c_errors_As_rrrrrrrr K [(0, v1), (1, v2), (5, .pointer (some ⟨n3, 0, none⟩)), (6, v4), (7, v5)] m14))) (WPS PP 42 c_errors_As_rrrrrrrr K [(0, v1), (1, v2), (5, .pointer (some ⟨n3, 0, none⟩)), (6, v4), (7, v5)] m10)))) :
    wpc PP FF 42 L_errors_As c_errors_As_rrrrrr K [(0, v1), (1, v2), (5, .pointer (some ⟨n3, 0, none⟩)), (6, v4)] m :=
  Eq.mpr (by kernel_rfl) h

def k_errors_As_rrrrrrrr : List Nat := [0, 1, 5, 7]
theorem p_errors_As_rrrrrrrr (v1 : Value) (v2 : Value) (n3 : Nat) (v4 : Value) (m : Mem) (K : Kont)
    (h : ∃ (p5 : Option Addr), ∃ (v6 : Value), ∃ (x7 : Int), ([.pointer p5, v6, .int .u64 x7] : List Value).length = 3 ∧ CellsAre m ⟨n3, 0, none⟩ 0 [.pointer p5, v6, .int .u64 x7] ∧ CallM PP f_errors_as #[v1, v2, .agg #[.pointer p5, v6, .int .u64 x7], v4] m fun v9 m10 => ∃ (b8 : Bool), v9 = .bool b8 ∧ K.kr [(0, v1), (1, v2), (4, .bool b8), (5, .pointer (some ⟨n3, 0, none⟩)), (7, v4)] m10) :
    wpc PP FF 42 L_errors_As c_errors_As_rrrrrrrr K [(0, v1), (1, v2), (5, .pointer (some ⟨n3, 0, none⟩)), (7, v4)] m :=
  Eq.mpr (by kernel_rfl) h

/-! (*bufio.Reader).Reset -/
def L_bufio_Reader_Reset : List Nat := [0, 1, 7, 12]
def r_bufio_Reader_Reset : List ResultVar := []
noncomputable def c_bufio_Reader_Reset : Code := (Go.Proofs.Tryd.f41.body).getD .skip
theorem b_bufio_Reader_Reset : Go.Proofs.Tryd.f41.body = some c_bufio_Reader_Reset := by kernel_rfl
noncomputable def c_bufio_Reader_Reset_rr : Code := (rgt (rgt c_bufio_Reader_Reset))
theorem e_bufio_Reader_Reset (b : Nat) (v1 : Value) (m : Mem) (R : Value → Mem → Prop)
    (h : ReadW PP m (do eqGuard .eql t_io_Reader (.tmp 5) (.tmp 6) (.iface t_p_bufio_Reader (.pointer (some ⟨b, 0, none⟩))) v1; binOp .eql t_io_Reader (.iface t_p_bufio_Reader (.pointer (some ⟨b, 0, none⟩))) v1) fun u3 => ∃ (b2 : Bool), u3 = .bool b2 ∧ ifB b2 (R (.tuple #[]) m) (∃ (a4 : Option Addr), ∃ (l5 : Nat), ∃ (k6 : Nat), cell? m ⟨b, 0, none⟩ = some (.slice a4 l5 k6) ∧ ifB a4.isNone (SemW PP (sv (Instr.makeSlice t_s_uint8 (.int .i64 4096) (.int .i64 4096))) m (NextW PP fun v10 m11 => ∃ (a7 : Option Addr), ∃ (l8 : Nat), ∃ (k9 : Nat), v10 = .slice a7 l8 k9 ∧ StW m11 ⟨b, 0, none⟩ (.slice a7 l8 k9) fun m12 => WPS PP 24 c_bufio_Reader_Reset_rr (retK PP r_bufio_Reader_Reset R) [(0, .pointer (some ⟨b, 0, none⟩)), (1, v1)] m12)) (WPS PP 24 c_bufio_Reader_Reset_rr (retK PP r_bufio_Reader_Reset R) [(0, .pointer (some ⟨b, 0, none⟩)), (1, v1)] m))) :
    CallM PP f_bufio_Reader_Reset #[.pointer (some ⟨b, 0, none⟩), v1] m R :=
  callM_enter ffOk mixedOk 24 L_bufio_Reader_Reset Tryd.func41 b_bufio_Reader_Reset Tryd.ntmps41 (by simp) (Eq.mpr (by kernel_rfl) h)

def k_bufio_Reader_Reset_rr : List Nat := [0, 1]
theorem p_bufio_Reader_Reset_rr (b : Nat) (v1 : Value) (m : Mem) (K : Kont)
    (h : ∃ (a2 : Option Addr), ∃ (l3 : Nat), ∃ (k4 : Nat), cell? m ⟨b, 0, none⟩ = some (.slice a2 l3 k4) ∧ CallM PP f_bufio_Reader_reset #[.pointer (some ⟨b, 0, none⟩), .slice a2 l3 k4, v1] m fun v5 m6 => v5 = .tuple #[] ∧ K.kn [(0, .pointer (some ⟨b, 0, none⟩)), (1, v1)] m6) :
    wpc PP FF 24 L_bufio_Reader_Reset c_bufio_Reader_Reset_rr K [(0, .pointer (some ⟨b, 0, none⟩)), (1, v1)] m :=
  Eq.mpr (by kernel_rfl) h

/-! bufio.NewReader -/
def L_bufio_NewReader : List Nat := [0, 2]
def r_bufio_NewReader : List ResultVar := [.tmp 2]
noncomputable def c_bufio_NewReader : Code := (Go.Proofs.Tryd.f42.body).getD .skip
theorem b_bufio_NewReader : Go.Proofs.Tryd.f42.body = some c_bufio_NewReader := by kernel_rfl
theorem e_bufio_NewReader (v1 : Value) (m : Mem) (R : Value → Mem → Prop)
    (h : CallM PP f_bufio_NewReaderSize #[v1, .int .i64 4096] m fun v3 m4 => ∃ (p2 : Option Addr), v3 = .pointer p2 ∧ R (.pointer p2) m4) :
    CallM PP f_bufio_NewReader #[v1] m R :=
  callM_enter ffOk mixedOk 5 L_bufio_NewReader Tryd.func42 b_bufio_NewReader Tryd.ntmps42 (by simp) (Eq.mpr (by kernel_rfl) h)

/-! (*loop.example/pub-inflation/pub/inflate.decompressor).moreBits -/
def L_decompressor_moreBits : List Nat := [0, 2, 3, 4, 14]
def r_decompressor_moreBits : List ResultVar := [.tmp 2]
noncomputable def c_decompressor_moreBits : Code := (Go.Proofs.Tryd.f43.body).getD .skip
theorem b_decompressor_moreBits : Go.Proofs.Tryd.f43.body = some c_decompressor_moreBits := by kernel_rfl
theorem e_decompressor_moreBits (f : Nat) (m : Mem) (R : Value → Mem → Prop)
    (h : ∃ (v1 : Value), cell? m ⟨f, 0, none⟩ = some (v1) ∧ SemW PP (callMethod v1 "ReadByte" #[]) m (NextW PP fun v4 m5 => ∃ (x2 : Int), ∃ (v3 : Value), v4 = .tuple #[.int .u8 x2, v3] ∧ isIfc v3 = true ∧ ifB (!(isNil v3)) (CallM PP f_inflate_noEOF #[v3] m5 fun v7 m8 => ∃ (v6 : Value), v7 = v6 ∧ R (v6) m8) (∃ (x9 : Int), cell? m5 ⟨f, 2, none⟩ = some (.int .i64 x9) ∧ StW m5 ⟨f, 2, none⟩ (.int .i64 (IntKind.wrap .i64 (x9 + 1))) fun m10 => ∃ (x11 : Int), cell? m10 ⟨f, 3, none⟩ = some (.int .u32 x11) ∧ ∃ (x12 : Int), cell? m10 ⟨f, 4, none⟩ = some (.int .u64 x12) ∧ 0 ≤ x12 ∧ IntKind.u32 = IntKind.u32 ∧ StW m10 ⟨f, 3, none⟩ (.int .u32 (bitsOp .or .u32 x11 (shlOp .u32 (IntKind.wrap .u32 x2) x12))) fun m13 => ∃ (x14 : Int), cell? m13 ⟨f, 4, none⟩ = some (.int .u64 x14) ∧ StW m13 ⟨f, 4, none⟩ (.int .u64 (IntKind.wrap .u64 (x14 + 8))) fun m15 => R (.nilIface) m15))  ) :
    CallM PP f_decompressor_moreBits #[.pointer (some ⟨f, 0, none⟩)] m R :=
  callM_enter ffOk mixedOk 45 L_decompressor_moreBits Tryd.func43 b_decompressor_moreBits Tryd.ntmps43 (by simp) (Eq.mpr (by kernel_rfl) h)

/-! (*loop.example/pub-inflation/pub/inflate.decompressor).dataBlock -/
def L_decompressor_dataBlock : List Nat := [0, 2, 3, 4, 5, 33, 72, 82]
def r_decompressor_dataBlock : List ResultVar := []
noncomputable def c_decompressor_dataBlock : Code := (Go.Proofs.Tryd.f44.body).getD .skip
theorem b_decompressor_dataBlock : Go.Proofs.Tryd.f44.body = some c_decompressor_dataBlock := by kernel_rfl
theorem e_decompressor_dataBlock (f : Nat) (m : Mem) (R : Value → Mem → Prop)
    (h : StW m ⟨f, 4, none⟩ (.int .u64 0) fun m1 => StW m1 ⟨f, 3, none⟩ (.int .u32 0) fun m2 => ∃ (v3 : Value), cell? m2 ⟨f, 0, none⟩ = some (v3) ∧ (0 ≤ (4 : Int) ∧ (4 : Int) ≤ (4 : Int)) ∧ (0 ≤ (0 : Int) ∧ (0 : Int) ≤ 4) ∧ CallM PP f_io_ReadFull #[v3, .slice (some ⟨f, 1041, none⟩) 4 4] m2 fun v6 m7 => ∃ (x4 : Int), ∃ (v5 : Value), v6 = .tuple #[.int .i64 x4, v5] ∧ ∃ (x8 : Int), cell? m7 ⟨f, 2, none⟩ = some (.int .i64 x8) ∧ StW m7 ⟨f, 2, none⟩ (.int .i64 (IntKind.wrap .i64 (x8 + x4))) fun m9 => isIfc v5 = true ∧ ifB (!(isNil v5)) (CallM PP f_inflate_noEOF #[v5] m9 fun v11 m12 => ∃ (v10 : Value), v11 = v10 ∧ StW m12 ⟨f, 1048, none⟩ v10 fun m13 => R (.tuple #[]) m13) ((0 ≤ (0 : Int) ∧ (0 : Int) < ((4 : Nat) : Int)) ∧ ∃ (x14 : Int), cell? m9 ⟨f, 1041, none⟩ = some (.int .u8 x14) ∧ (0 ≤ (1 : Int) ∧ (1 : Int) < ((4 : Nat) : Int)) ∧ ∃ (x15 : Int), cell? m9 ⟨f, 1042, none⟩ = some (.int .u8 x15) ∧ 0 ≤ (8 : Int) ∧ IntKind.i64 = IntKind.i64 ∧ (0 ≤ (2 : Int) ∧ (2 : Int) < ((4 : Nat) : Int)) ∧ ∃ (x16 : Int), cell? m9 ⟨f, 1043, none⟩ = some (.int .u8 x16) ∧ (0 ≤ (3 : Int) ∧ (3 : Int) < ((4 : Nat) : Int)) ∧ ∃ (x17 : Int), cell? m9 ⟨f, 1044, none⟩ = some (.int .u8 x17) ∧ 0 ≤ (8 : Int) ∧ IntKind.i64 = IntKind.i64 ∧ ifB ((IntKind.wrap .u16 (bitsOp .or .i64 (IntKind.wrap .i64 x16) (shlOp .i64 (IntKind.wrap .i64 x17) 8))) != IntKind.wrap .u16 (bitsOp .xor .i64 (-1) (bitsOp .or .i64 (IntKind.wrap .i64 x14) (shlOp .i64 (IntKind.wrap .i64 x15) 8)))) (∃ (x18 : Int), cell? m9 ⟨f, 2, none⟩ = some (.int .i64 x18) ∧ StW m9 ⟨f, 1048, none⟩ (.iface t_flate_CorruptInputError (.int .i64 x18)) fun m19 => R (.tuple #[]) m19) (ifB ((bitsOp .or .i64 (IntKind.wrap .i64 x14) (shlOp .i64 (IntKind.wrap .i64 x15) 8)) == 0) (CallM PP f_dictDecoder_readFlush #[.pointer (some ⟨f, 1037, none⟩)] m9 fun v23 m24 => ∃ (a20 : Option Addr), ∃ (l21 : Nat), ∃ (k22 : Nat), v23 = .slice a20 l21 k22 ∧ StW m24 ⟨f, 1049, none⟩ (.slice a20 l21 k22) fun m25 => CallM PP f_decompressor_finishBlock #[.pointer (some ⟨f, 0, none⟩)] m25 fun v26 m27 => v26 = .tuple #[] ∧ R (.tuple #[]) m27) (StW m9 ⟨f, 1052, none⟩ (.int .i64 (bitsOp .or .i64 (IntKind.wrap .i64 x14) (shlOp .i64 (IntKind.wrap .i64 x15) 8))) fun m28 => CallM PP f_decompressor_copyData #[.pointer (some ⟨f, 0, none⟩)] m28 fun v29 m30 => v29 = .tuple #[] ∧ R (.tuple #[]) m30)))  ) :
    CallM PP f_decompressor_dataBlock #[.pointer (some ⟨f, 0, none⟩)] m R :=
  callM_enter ffOk mixedOk 98 L_decompressor_dataBlock Tryd.func44 b_decompressor_dataBlock Tryd.ntmps44 (by simp) (Eq.mpr (by kernel_rfl) h)

/-! loop.example/pub-inflation/pub/inflate.fixedHuffman -/
def L_inflate_fixedHuffman : List Nat := [0, 1, 2, 3, 4, 5, 6, 8, 14, 20, 26]
def r_inflate_fixedHuffman : List ResultVar := [.tmp 0]
noncomputable def c_inflate_fixedHuffman : Code := (Go.Proofs.Tryd.f45.body).getD .skip
theorem b_inflate_fixedHuffman : Go.Proofs.Tryd.f45.body = some c_inflate_fixedHuffman := by kernel_rfl
noncomputable def c_inflate_fixedHuffman_rrr : Code := (rgt (rgt (rgt c_inflate_fixedHuffman)))
noncomputable def c_inflate_fixedHuffman_rrrr : Code := (rgt c_inflate_fixedHuffman_rrr)
noncomputable def c_inflate_fixedHuffman_rrlrl : Code := (lft (rgt (lft (rgt (rgt c_inflate_fixedHuffman)))))
noncomputable def c_inflate_fixedHuffman_rrrrr : Code := (rgt c_inflate_fixedHuffman_rrrr)
noncomputable def c_inflate_fixedHuffman_rrlrll : Code := (lft c_inflate_fixedHuffman_rrlrl)
noncomputable def c_inflate_fixedHuffman_rrrlrl : Code := (lft (rgt (lft c_inflate_fixedHuffman_rrr)))
noncomputable def c_inflate_fixedHuffman_rrrrrr : Code := (rgt c_inflate_fixedHuffman_rrrrr)
noncomputable def c_inflate_fixedHuffman_rrrlrll : Code := (lft c_inflate_fixedHuffman_rrrlrl)
noncomputable def c_inflate_fixedHuffman_rrrrlrl : Code := (lft (rgt (lft c_inflate_fixedHuffman_rrrr)))
noncomputable def c_inflate_fixedHuffman_rrrrlrll : Code := (lft c_inflate_fixedHuffman_rrrrlrl)
noncomputable def c_inflate_fixedHuffman_rrrrrlrl : Code := (lft (rgt (lft c_inflate_fixedHuffman_rrrrr)))
noncomputable def c_inflate_fixedHuffman_rrrrrlrll : Code := (lft c_inflate_fixedHuffman_rrrrrlrl)
theorem q_inflate_fixedHuffman_rrlrl : c_inflate_fixedHuffman_rrlrl = .loop c_inflate_fixedHuffman_rrlrll := by kernel_rfl
theorem q_inflate_fixedHuffman_rrrlrl : c_inflate_fixedHuffman_rrrlrl = .loop c_inflate_fixedHuffman_rrrlrll := by kernel_rfl
theorem q_inflate_fixedHuffman_rrrrlrl : c_inflate_fixedHuffman_rrrrlrl = .loop c_inflate_fixedHuffman_rrrrlrll := by kernel_rfl
theorem q_inflate_fixedHuffman_rrrrrlrl : c_inflate_fixedHuffman_rrrrrlrl = .loop c_inflate_fixedHuffman_rrrrrlrll := by kernel_rfl
/- the loop at rrlrl: slots [1, 2] -/
/- the loop at rrrlrl: slots [1, 3] -/
/- the loop at rrrrlrl: slots [1, 4] -/
/- the loop at rrrrrlrl: slots [1, 5] -/
theorem e_inflate_fixedHuffman  (m : Mem) (R : Value → Mem → Prop)
    (h : AllocW PP t_288_int m fun n1 m2 => WPS PP 36 c_inflate_fixedHuffman_rrlrl (((retK PP r_inflate_fixedHuffman R).withN fun r m => WPS PP 36 c_inflate_fixedHuffman_rrr (retK PP r_inflate_fixedHuffman R) r m).withX 0) [(0, .pointer none), (1, .pointer (some ⟨n1, 0, none⟩)), (2, .int .i64 0)] m2  ) :
    CallM PP f_inflate_fixedHuffman #[] m R :=
  callM_enter ffOk mixedOk 36 L_inflate_fixedHuffman Tryd.func45 b_inflate_fixedHuffman Tryd.ntmps45 (by simp) (Eq.mpr (by kernel_rfl) h)

def k_inflate_fixedHuffman_rrr : List Nat := [1]
theorem p_inflate_fixedHuffman_rrr (n1 : Nat) (m : Mem) (K : Kont)
    (h : WPS PP 36 c_inflate_fixedHuffman_rrrlrl ((K.withN fun r m => WPS PP 36 c_inflate_fixedHuffman_rrrr K r m).withX 2) [(1, .pointer (some ⟨n1, 0, none⟩)), (3, .int .i64 144)] m) :
    wpc PP FF 36 L_inflate_fixedHuffman c_inflate_fixedHuffman_rrr K [(1, .pointer (some ⟨n1, 0, none⟩))] m :=
  Eq.mpr (by kernel_rfl) h

def k_inflate_fixedHuffman_rrlrll : List Nat := [1, 2]
theorem p_inflate_fixedHuffman_rrlrll (n1 : Nat) (x2 : Int) (m : Mem) (K : Kont)
    (h : ifB (decide (x2 < 144)) ((0 ≤ x2 ∧ x2 < ((288 : Nat) : Int)) ∧ StW m ⟨n1, 0 + x2.toNat, none⟩ (.int .i64 8) fun m3 => K.kn [(1, .pointer (some ⟨n1, 0, none⟩)), (2, .int .i64 (IntKind.wrap .i64 (x2 + 1)))] m3) (K.kx 0 [(1, .pointer (some ⟨n1, 0, none⟩)), (2, .int .i64 x2)] m)) :
    wpc PP FF 36 L_inflate_fixedHuffman c_inflate_fixedHuffman_rrlrll K [(1, .pointer (some ⟨n1, 0, none⟩)), (2, .int .i64 x2)] m :=
  Eq.mpr (by kernel_rfl) h

def k_inflate_fixedHuffman_rrrlrll : List Nat := [1, 3]
theorem p_inflate_fixedHuffman_rrrlrll (n1 : Nat) (x2 : Int) (m : Mem) (K : Kont)
    (h : ifB (decide (x2 < 256)) ((0 ≤ x2 ∧ x2 < ((288 : Nat) : Int)) ∧ StW m ⟨n1, 0 + x2.toNat, none⟩ (.int .i64 9) fun m3 => K.kn [(1, .pointer (some ⟨n1, 0, none⟩)), (3, .int .i64 (IntKind.wrap .i64 (x2 + 1)))] m3) (K.kx 2 [(1, .pointer (some ⟨n1, 0, none⟩)), (3, .int .i64 x2)] m)) :
    wpc PP FF 36 L_inflate_fixedHuffman c_inflate_fixedHuffman_rrrlrll K [(1, .pointer (some ⟨n1, 0, none⟩)), (3, .int .i64 x2)] m :=
  Eq.mpr (by kernel_rfl) h

def k_inflate_fixedHuffman_rrrrlrll : List Nat := [1, 4]
theorem p_inflate_fixedHuffman_rrrrlrll (n1 : Nat) (x2 : Int) (m : Mem) (K : Kont)
    (h : ifB (decide (x2 < 280)) ((0 ≤ x2 ∧ x2 < ((288 : Nat) : Int)) ∧ StW m ⟨n1, 0 + x2.toNat, none⟩ (.int .i64 7) fun m3 => K.kn [(1, .pointer (some ⟨n1, 0, none⟩)), (4, .int .i64 (IntKind.wrap .i64 (x2 + 1)))] m3) (K.kx 4 [(1, .pointer (some ⟨n1, 0, none⟩)), (4, .int .i64 x2)] m)) :
    wpc PP FF 36 L_inflate_fixedHuffman c_inflate_fixedHuffman_rrrrlrll K [(1, .pointer (some ⟨n1, 0, none⟩)), (4, .int .i64 x2)] m :=
  Eq.mpr (by kernel_rfl) h

def k_inflate_fixedHuffman_rrrrrlrll : List Nat := [1, 5]
theorem p_inflate_fixedHuffman_rrrrrlrll (n1 : Nat) (x2 : Int) (m : Mem) (K : Kont)
    (h : ifB (decide (x2 < 288)) ((0 ≤ x2 ∧ x2 < ((288 : Nat) : Int)) ∧ StW m ⟨n1, 0 + x2.toNat, none⟩ (.int .i64 8) fun m3 => K.kn [(1, .pointer (some ⟨n1, 0, none⟩)), (5, .int .i64 (IntKind.wrap .i64 (x2 + 1)))] m3) (K.kx 6 [(1, .pointer (some ⟨n1, 0, none⟩)), (5, .int .i64 x2)] m)) :
    wpc PP FF 36 L_inflate_fixedHuffman c_inflate_fixedHuffman_rrrrrlrll K [(1, .pointer (some ⟨n1, 0, none⟩)), (5, .int .i64 x2)] m :=
  Eq.mpr (by kernel_rfl) h

def k_inflate_fixedHuffman_rrrr : List Nat := [1]
theorem p_inflate_fixedHuffman_rrrr (n1 : Nat) (m : Mem) (K : Kont)
    (h : WPS PP 36 c_inflate_fixedHuffman_rrrrlrl ((K.withN fun r m => WPS PP 36 c_inflate_fixedHuffman_rrrrr K r m).withX 4) [(1, .pointer (some ⟨n1, 0, none⟩)), (4, .int .i64 256)] m) :
    wpc PP FF 36 L_inflate_fixedHuffman c_inflate_fixedHuffman_rrrr K [(1, .pointer (some ⟨n1, 0, none⟩))] m :=
  Eq.mpr (by kernel_rfl) h

def k_inflate_fixedHuffman_rrrrr : List Nat := [1]
theorem p_inflate_fixedHuffman_rrrrr (n1 : Nat) (m : Mem) (K : Kont)
    (h : WPS PP 36 c_inflate_fixedHuffman_rrrrrlrl ((K.withN fun r m => WPS PP 36 c_inflate_fixedHuffman_rrrrrr K r m).withX 6) [(1, .pointer (some ⟨n1, 0, none⟩)), (5, .int .i64 280)] m) :
    wpc PP FF 36 L_inflate_fixedHuffman c_inflate_fixedHuffman_rrrrr K [(1, .pointer (some ⟨n1, 0, none⟩))] m :=
  Eq.mpr (by kernel_rfl) h

def k_inflate_fixedHuffman_rrrrrr : List Nat := [1]
theorem p_inflate_fixedHuffman_rrrrrr (n1 : Nat) (m : Mem) (K : Kont)
    (h : AllocW PP t_flate_huffmanDecoder m fun n2 m3 => CallM PP f_huffmanDecoder_init #[.pointer (some ⟨n2, 0, none⟩), .slice (some ⟨n1, 0, none⟩) 288 288] m3 fun v5 m6 => ∃ (b4 : Bool), v5 = .bool b4 ∧ K.kr [(0, .pointer (some ⟨n2, 0, none⟩)), (1, .pointer (some ⟨n1, 0, none⟩)), (6, .pointer (some ⟨n2, 0, none⟩))] m6) :
    wpc PP FF 36 L_inflate_fixedHuffman c_inflate_fixedHuffman_rrrrrr K [(1, .pointer (some ⟨n1, 0, none⟩))] m :=
  Eq.mpr (by kernel_rfl) h

/-! (*loop.example/pub-inflation/pub/inflate.decompressor).huffmanBlock -/
def L_decompressor_huffmanBlock : List Nat := [0, 2, 3, 4, 5, 6, 7, 8, 9, 13, 14, 16, 28, 41, 54, 68, 73, 78, 84, 90, 96, 102, 108, 112, 118, 122, 158, 163, 167, 205, 218, 223, 239, 243, 286, 316, 348]
def r_decompressor_huffmanBlock : List ResultVar := []
noncomputable def c_decompressor_huffmanBlock : Code := (Go.Proofs.Tryd.f46.body).getD .skip
theorem b_decompressor_huffmanBlock : Go.Proofs.Tryd.f46.body = some c_decompressor_huffmanBlock := by kernel_rfl
noncomputable def c_decompressor_huffmanBlock_l : Code := (lft c_decompressor_huffmanBlock)
noncomputable def c_decompressor_huffmanBlock_lrr : Code := (rgt (rgt c_decompressor_huffmanBlock_l))
noncomputable def c_decompressor_huffmanBlock_lrrr : Code := (rgt c_decompressor_huffmanBlock_lrr)
noncomputable def c_decompressor_huffmanBlock_lrrrr : Code := (rgt c_decompressor_huffmanBlock_lrrr)
noncomputable def c_decompressor_huffmanBlock_lrrrrrr : Code := (rgt (rgt c_decompressor_huffmanBlock_lrrrr))
noncomputable def c_decompressor_huffmanBlock_lrrlrrrrr : Code := (rgt (rgt (rgt (rgt (rgt (lft c_decompressor_huffmanBlock_lrr))))))
noncomputable def c_decompressor_huffmanBlock_lrrlrrrrrr : Code := (rgt c_decompressor_huffmanBlock_lrrlrrrrr)
noncomputable def c_decompressor_huffmanBlock_lrrlrrrrrrrr : Code := (rgt (rgt c_decompressor_huffmanBlock_lrrlrrrrrr))
noncomputable def c_decompressor_huffmanBlock_lrrlrrrrrlrlr : Code := (rgt (lft (rgt (lft c_decompressor_huffmanBlock_lrrlrrrrr))))
noncomputable def c_decompressor_huffmanBlock_lrrlrrrrrrrrr : Code := (rgt c_decompressor_huffmanBlock_lrrlrrrrrrrr)
noncomputable def c_decompressor_huffmanBlock_lrrlrrrrrlrlll : Code := (lft (lft (lft (rgt (lft c_decompressor_huffmanBlock_lrrlrrrrr)))))
noncomputable def c_decompressor_huffmanBlock_lrrlrrrrrlrllll : Code := (lft c_decompressor_huffmanBlock_lrrlrrrrrlrlll)
noncomputable def c_decompressor_huffmanBlock_lrrlrrrrrrrlrlr : Code := (rgt (lft (rgt (lft (rgt c_decompressor_huffmanBlock_lrrlrrrrrr)))))
noncomputable def c_decompressor_huffmanBlock_lrrlrrrrrrrlrlll : Code := (lft (lft (lft (rgt (lft (rgt c_decompressor_huffmanBlock_lrrlrrrrrr))))))
noncomputable def c_decompressor_huffmanBlock_lrrlrrrrrrrlrllll : Code := (lft c_decompressor_huffmanBlock_lrrlrrrrrrrlrlll)
noncomputable def c_decompressor_huffmanBlock_lrrlrrrrrrrrllrrrlrrr : Code := (rgt (rgt (rgt (lft (rgt (rgt (rgt (lft (lft c_decompressor_huffmanBlock_lrrlrrrrrrrr)))))))))
noncomputable def c_decompressor_huffmanBlock_lrrlrrrrrrrrllrrrlrrll : Code := (lft (lft (rgt (rgt (lft (rgt (rgt (rgt (lft (lft c_decompressor_huffmanBlock_lrrlrrrrrrrr))))))))))
noncomputable def c_decompressor_huffmanBlock_lrrlrrrrrrrrllrrrlrrlll : Code := (lft c_decompressor_huffmanBlock_lrrlrrrrrrrrllrrrlrrll)
theorem q_decompressor_huffmanBlock_ : c_decompressor_huffmanBlock = .scope c_decompressor_huffmanBlock_l := by kernel_rfl
theorem l_decompressor_huffmanBlock__0 : findLabel c_decompressor_huffmanBlock_l 0 = some (.seq .skip c_decompressor_huffmanBlock_lrr) := by kernel_rfl
theorem l_decompressor_huffmanBlock__1 : findLabel c_decompressor_huffmanBlock_l 1 = some (.seq .skip c_decompressor_huffmanBlock_lrrrr) := by kernel_rfl
theorem q_decompressor_huffmanBlock_lrrlrrrrrlrlll : c_decompressor_huffmanBlock_lrrlrrrrrlrlll = .loop c_decompressor_huffmanBlock_lrrlrrrrrlrllll := by kernel_rfl
theorem q_decompressor_huffmanBlock_lrrlrrrrrrrlrlll : c_decompressor_huffmanBlock_lrrlrrrrrrrlrlll = .loop c_decompressor_huffmanBlock_lrrlrrrrrrrlrllll := by kernel_rfl
theorem q_decompressor_huffmanBlock_lrrlrrrrrrrrllrrrlrrll : c_decompressor_huffmanBlock_lrrlrrrrrrrrllrrrlrrll = .loop c_decompressor_huffmanBlock_lrrlrrrrrrrrllrrrlrrlll := by kernel_rfl
/- the loop at : slots [0] -/
/- the loop at lrrlrrrrrlrlll: slots [0, 4, 5] -/
/- the loop at lrrlrrrrrrrlrlll: slots [0, 5] -/
/- the loop at lrrlrrrrrrrrllrrrlrrll: slots [0, 5, 7, 8] -/
theorem e_decompressor_huffmanBlock (f : Nat) (m : Mem) (R : Value → Mem → Prop)
    (h : WPS PP 362 c_decompressor_huffmanBlock (retK PP r_decompressor_huffmanBlock R) [(0, .pointer (some ⟨f, 0, none⟩))] m  ) :
    CallM PP f_decompressor_huffmanBlock #[.pointer (some ⟨f, 0, none⟩)] m R :=
  callM_enter ffOk mixedOk 362 L_decompressor_huffmanBlock Tryd.func46 b_decompressor_huffmanBlock Tryd.ntmps46 (by simp) (Eq.mpr (by kernel_rfl) h)

def k_decompressor_huffmanBlock_l : List Nat := [0]
theorem p_decompressor_huffmanBlock_l (f : Nat) (m : Mem) (K : Kont)
    (h : ∃ (x1 : Int), cell? m ⟨f, 1046, none⟩ = some (.int .i64 x1) ∧ ifB (x1 == 0) (K.kg 0 [(0, .pointer (some ⟨f, 0, none⟩)), (13, .int .i64 x1)] m) (ifB (x1 == 1) (K.kg 1 [(0, .pointer (some ⟨f, 0, none⟩)), (13, .int .i64 x1)] m) (∃ (p2 : Option Addr), cell? m ⟨f, 1050, none⟩ = some (.pointer p2) ∧ CallM PP f_decompressor_huffSym #[.pointer (some ⟨f, 0, none⟩), .pointer p2] m fun v5 m6 => ∃ (x3 : Int), ∃ (v4 : Value), v5 = .tuple #[.int .i64 x3, v4] ∧ isIfc v4 = true ∧ ifB (!(isNil v4)) (StW m6 ⟨f, 1048, none⟩ v4 fun m7 => K.kr [(0, .pointer (some ⟨f, 0, none⟩)), (2, .int .i64 x3), (3, v4), (13, .int .i64 x1)] m7) (ifB (decide (x3 < 256)) (CallM PP f_dictDecoder_writeByte #[.pointer (some ⟨f, 1037, none⟩), .int .u8 (IntKind.wrap .u8 x3)] m6 fun v8 m9 => v8 = .tuple #[] ∧ CallM PP f_dictDecoder_availWrite #[.pointer (some ⟨f, 1037, none⟩)] m9 fun v11 m12 => ∃ (x10 : Int), v11 = .int .i64 x10 ∧ ifB (x10 == 0) (CallM PP f_dictDecoder_readFlush #[.pointer (some ⟨f, 1037, none⟩)] m12 fun v16 m17 => ∃ (a13 : Option Addr), ∃ (l14 : Nat), ∃ (k15 : Nat), v16 = .slice a13 l14 k15 ∧ StW m17 ⟨f, 1049, none⟩ (.slice a13 l14 k15) fun m18 => StW m18 ⟨f, 1045, none⟩ (.func (.func f_decompressor_huffmanBlock) #[] #[]) fun m19 => StW m19 ⟨f, 1046, none⟩ (.int .i64 0) fun m20 => K.kr [(0, .pointer (some ⟨f, 0, none⟩)), (2, .int .i64 x3), (3, v4), (4, .int .u64 0), (5, .int .i64 0), (13, .int .i64 x1)] m20) (K.kg 0 [(0, .pointer (some ⟨f, 0, none⟩)), (2, .int .i64 x3), (3, v4), (4, .int .u64 0), (5, .int .i64 0), (13, .int .i64 x1)] m12)) (ifB (x3 == 256) (CallM PP f_decompressor_finishBlock #[.pointer (some ⟨f, 0, none⟩)] m6 fun v21 m22 => v21 = .tuple #[] ∧ K.kr [(0, .pointer (some ⟨f, 0, none⟩)), (2, .int .i64 x3), (3, v4), (4, .int .u64 0), (5, .int .i64 0), (13, .int .i64 x1)] m22) (ifB (decide (x3 < 265)) (WPS PP 362 c_decompressor_huffmanBlock_lrrlrrrrr (K.withN fun r m => wpc PP FF 362 L_decompressor_huffmanBlock c_decompressor_huffmanBlock_lrrr K r m) [(0, .pointer (some ⟨f, 0, none⟩)), (2, .int .i64 x3), (3, v4), (4, .int .u64 0), (5, .int .i64 (IntKind.wrap .i64 (x3 - 254))), (13, .int .i64 x1)] m6) (ifB (decide (x3 < 269)) (WPS PP 362 c_decompressor_huffmanBlock_lrrlrrrrr (K.withN fun r m => wpc PP FF 362 L_decompressor_huffmanBlock c_decompressor_huffmanBlock_lrrr K r m) [(0, .pointer (some ⟨f, 0, none⟩)), (2, .int .i64 x3), (3, v4), (4, .int .u64 1), (5, .int .i64 (IntKind.wrap .i64 ((IntKind.wrap .i64 (x3 * 2)) - 519))), (13, .int .i64 x1)] m6) (ifB (decide (x3 < 273)) (WPS PP 362 c_decompressor_huffmanBlock_lrrlrrrrr (K.withN fun r m => wpc PP FF 362 L_decompressor_huffmanBlock c_decompressor_huffmanBlock_lrrr K r m) [(0, .pointer (some ⟨f, 0, none⟩)), (2, .int .i64 x3), (3, v4), (4, .int .u64 2), (5, .int .i64 (IntKind.wrap .i64 ((IntKind.wrap .i64 (x3 * 4)) - 1057))), (13, .int .i64 x1)] m6) (ifB (decide (x3 < 277)) (WPS PP 362 c_decompressor_huffmanBlock_lrrlrrrrr (K.withN fun r m => wpc PP FF 362 L_decompressor_huffmanBlock c_decompressor_huffmanBlock_lrrr K r m) [(0, .pointer (some ⟨f, 0, none⟩)), (2, .int .i64 x3), (3, v4), (4, .int .u64 3), (5, .int .i64 (IntKind.wrap .i64 ((IntKind.wrap .i64 (x3 * 8)) - 2149))), (13, .int .i64 x1)] m6) (ifB (decide (x3 < 281)) (WPS PP 362 c_decompressor_huffmanBlock_lrrlrrrrr (K.withN fun r m => wpc PP FF 362 L_decompressor_huffmanBlock c_decompressor_huffmanBlock_lrrr K r m) [(0, .pointer (some ⟨f, 0, none⟩)), (2, .int .i64 x3), (3, v4), (4, .int .u64 4), (5, .int .i64 (IntKind.wrap .i64 ((IntKind.wrap .i64 (x3 * 16)) - 4365))), (13, .int .i64 x1)] m6) (ifB (decide (x3 < 285)) (WPS PP 362 c_decompressor_huffmanBlock_lrrlrrrrr (K.withN fun r m => wpc PP FF 362 L_decompressor_huffmanBlock c_decompressor_huffmanBlock_lrrr K r m) [(0, .pointer (some ⟨f, 0, none⟩)), (2, .int .i64 x3), (3, v4), (4, .int .u64 5), (5, .int .i64 (IntKind.wrap .i64 ((IntKind.wrap .i64 (x3 * 32)) - 8861))), (13, .int .i64 x1)] m6) (ifB (decide (x3 < 286)) (WPS PP 362 c_decompressor_huffmanBlock_lrrlrrrrr (K.withN fun r m => wpc PP FF 362 L_decompressor_huffmanBlock c_decompressor_huffmanBlock_lrrr K r m) [(0, .pointer (some ⟨f, 0, none⟩)), (2, .int .i64 x3), (3, v4), (4, .int .u64 0), (5, .int .i64 258), (13, .int .i64 x1)] m6) (∃ (x23 : Int), cell? m6 ⟨f, 2, none⟩ = some (.int .i64 x23) ∧ StW m6 ⟨f, 1048, none⟩ (.iface t_flate_CorruptInputError (.int .i64 x23)) fun m24 => K.kr [(0, .pointer (some ⟨f, 0, none⟩)), (2, .int .i64 x3), (3, v4), (4, .int .u64 0), (5, .int .i64 0), (13, .int .i64 x1)] m24))))))))))))  ) :
    wpc PP FF 362 L_decompressor_huffmanBlock c_decompressor_huffmanBlock_l K [(0, .pointer (some ⟨f, 0, none⟩))] m :=
  Eq.mpr (by kernel_rfl) h

def k_decompressor_huffmanBlock_lrr : List Nat := [0]
theorem p_decompressor_huffmanBlock_lrr (f : Nat) (m : Mem) (K : Kont)
    (h : ∃ (p1 : Option Addr), cell? m ⟨f, 1050, none⟩ = some (.pointer p1) ∧ CallM PP f_decompressor_huffSym #[.pointer (some ⟨f, 0, none⟩), .pointer p1] m fun v4 m5 => ∃ (x2 : Int), ∃ (v3 : Value), v4 = .tuple #[.int .i64 x2, v3] ∧ isIfc v3 = true ∧ ifB (!(isNil v3)) (StW m5 ⟨f, 1048, none⟩ v3 fun m6 => K.kr [(0, .pointer (some ⟨f, 0, none⟩)), (2, .int .i64 x2), (3, v3)] m6) (ifB (decide (x2 < 256)) (CallM PP f_dictDecoder_writeByte #[.pointer (some ⟨f, 1037, none⟩), .int .u8 (IntKind.wrap .u8 x2)] m5 fun v7 m8 => v7 = .tuple #[] ∧ CallM PP f_dictDecoder_availWrite #[.pointer (some ⟨f, 1037, none⟩)] m8 fun v10 m11 => ∃ (x9 : Int), v10 = .int .i64 x9 ∧ ifB (x9 == 0) (CallM PP f_dictDecoder_readFlush #[.pointer (some ⟨f, 1037, none⟩)] m11 fun v15 m16 => ∃ (a12 : Option Addr), ∃ (l13 : Nat), ∃ (k14 : Nat), v15 = .slice a12 l13 k14 ∧ StW m16 ⟨f, 1049, none⟩ (.slice a12 l13 k14) fun m17 => StW m17 ⟨f, 1045, none⟩ (.func (.func f_decompressor_huffmanBlock) #[] #[]) fun m18 => StW m18 ⟨f, 1046, none⟩ (.int .i64 0) fun m19 => K.kr [(0, .pointer (some ⟨f, 0, none⟩)), (2, .int .i64 x2), (3, v3), (4, .int .u64 0), (5, .int .i64 0)] m19) (K.kg 0 [(0, .pointer (some ⟨f, 0, none⟩)), (2, .int .i64 x2), (3, v3), (4, .int .u64 0), (5, .int .i64 0)] m11)) (ifB (x2 == 256) (CallM PP f_decompressor_finishBlock #[.pointer (some ⟨f, 0, none⟩)] m5 fun v20 m21 => v20 = .tuple #[] ∧ K.kr [(0, .pointer (some ⟨f, 0, none⟩)), (2, .int .i64 x2), (3, v3), (4, .int .u64 0), (5, .int .i64 0)] m21) (ifB (decide (x2 < 265)) (WPS PP 362 c_decompressor_huffmanBlock_lrrlrrrrr (K.withN fun r m => wpc PP FF 362 L_decompressor_huffmanBlock c_decompressor_huffmanBlock_lrrr K r m) [(0, .pointer (some ⟨f, 0, none⟩)), (2, .int .i64 x2), (3, v3), (4, .int .u64 0), (5, .int .i64 (IntKind.wrap .i64 (x2 - 254)))] m5) (ifB (decide (x2 < 269)) (WPS PP 362 c_decompressor_huffmanBlock_lrrlrrrrr (K.withN fun r m => wpc PP FF 362 L_decompressor_huffmanBlock c_decompressor_huffmanBlock_lrrr K r m) [(0, .pointer (some ⟨f, 0, none⟩)), (2, .int .i64 x2), (3, v3), (4, .int .u64 1), (5, .int .i64 (IntKind.wrap .i64 ((IntKind.wrap .i64 (x2 * 2)) - 519)))] m5) (ifB (decide (x2 < 273)) (WPS PP 362 c_decompressor_huffmanBlock_lrrlrrrrr (K.withN fun r m => wpc PP FF 362 L_decompressor_huffmanBlock c_decompressor_huffmanBlock_lrrr K r m) [(0, .pointer (some ⟨f, 0, none⟩)), (2, .int .i64 x2), (3, v3), (4, .int .u64 2), (5, .int .i64 (IntKind.wrap .i64 ((IntKind.wrap .i64 (x2 * 4)) - 1057)))] m5) (ifB (decide (x2 < 277)) (WPS PP 362 c_decompressor_huffmanBlock_lrrlrrrrr (K.withN fun r m => wpc PP FF 362 L_decompressor_huffmanBlock c_decompressor_huffmanBlock_lrrr K r m) [(0, .pointer (some ⟨f, 0, none⟩)), (2, .int .i64 x2), (3, v3), (4, .int .u64 3), (5, .int .i64 (IntKind.wrap .i64 ((IntKind.wrap .i64 (x2 * 8)) - 2149)))] m5) (ifB (decide (x2 < 281)) (WPS PP 362 c_decompressor_huffmanBlock_lrrlrrrrr (K.withN fun r m => wpc PP FF 362 L_decompressor_huffmanBlock c_decompressor_huffmanBlock_lrrr K r m) [(0, .pointer (some ⟨f, 0, none⟩)), (2, .int .i64 x2), (3, v3), (4, .int .u64 4), (5, .int .i64 (IntKind.wrap .i64 ((IntKind.wrap .i64 (x2 * 16)) - 4365)))] m5) (ifB (decide (x2 < 285)) (WPS PP 362 c_decompressor_huffmanBlock_lrrlrrrrr (K.withN fun r m => wpc PP FF 362 L_decompressor_huffmanBlock c_decompressor_huffmanBlock_lrrr K r m) [(0, .pointer (some ⟨f, 0, none⟩)), (2, .int .i64 x2), (3, v3), (4, .int .u64 5), (5, .int .i64 (IntKind.wrap .i64 ((IntKind.wrap .i64 (x2 * 32)) - 8861)))] m5) (ifB (decide (x2 < 286)) (WPS PP 362 c_decompressor_huffmanBlock_lrrlrrrrr (K.withN fun r m => wpc PP FF 362 L_decompressor_huffmanBlock c_decompressor_huffmanBlock_lrrr K r m) [(0, .pointer (some ⟨f, 0, none⟩)), (2, .int .i64 x2), (3, v3), (4, .int .u64 0), (5, .int .i64 258)] m5) (∃ (x22 : Int), cell? m5 ⟨f, 2, none⟩ = some (.int .i64 x22) ∧ StW m5 ⟨f, 1048, none⟩ (.iface t_flate_CorruptInputError (.int .i64 x22)) fun m23 => K.kr [(0, .pointer (some ⟨f, 0, none⟩)), (2, .int .i64 x2), (3, v3), (4, .int .u64 0), (5, .int .i64 0)] m23))))))))))  ) :
    wpc PP FF 362 L_decompressor_huffmanBlock c_decompressor_huffmanBlock_lrr K [(0, .pointer (some ⟨f, 0, none⟩))] m :=
  Eq.mpr (by kernel_rfl) h

def k_decompressor_huffmanBlock_lrrrr : List Nat := [0]
theorem p_decompressor_huffmanBlock_lrrrr (f : Nat) (m : Mem) (K : Kont)
    (h : ∃ (x1 : Int), cell? m ⟨f, 1053, none⟩ = some (.int .i64 x1) ∧ ∃ (x2 : Int), cell? m ⟨f, 1052, none⟩ = some (.int .i64 x2) ∧ CallM PP f_dictDecoder_tryWriteCopy #[.pointer (some ⟨f, 1037, none⟩), .int .i64 x1, .int .i64 x2] m fun v4 m5 => ∃ (x3 : Int), v4 = .int .i64 x3 ∧ ifB (x3 == 0) (∃ (x6 : Int), cell? m5 ⟨f, 1053, none⟩ = some (.int .i64 x6) ∧ ∃ (x7 : Int), cell? m5 ⟨f, 1052, none⟩ = some (.int .i64 x7) ∧ CallM PP f_dictDecoder_writeCopy #[.pointer (some ⟨f, 1037, none⟩), .int .i64 x6, .int .i64 x7] m5 fun v9 m10 => ∃ (x8 : Int), v9 = .int .i64 x8 ∧ WPS PP 362 c_decompressor_huffmanBlock_lrrrrrr K [(0, .pointer (some ⟨f, 0, none⟩)), (9, .int .i64 x8)] m10) (WPS PP 362 c_decompressor_huffmanBlock_lrrrrrr K [(0, .pointer (some ⟨f, 0, none⟩)), (9, .int .i64 x3)] m5)  ) :
    wpc PP FF 362 L_decompressor_huffmanBlock c_decompressor_huffmanBlock_lrrrr K [(0, .pointer (some ⟨f, 0, none⟩))] m :=
  Eq.mpr (by kernel_rfl) h

def k_decompressor_huffmanBlock_lrrlrrrrrlrllll : List Nat := [0, 4, 5]
theorem p_decompressor_huffmanBlock_lrrlrrrrrlrllll (f : Nat) (x1 : Int) (x2 : Int) (m : Mem) (K : Kont)
    (h : ∃ (x3 : Int), cell? m ⟨f, 4, none⟩ = some (.int .u64 x3) ∧ ifB (decide (x3 < x1)) (CallM PP f_decompressor_moreBits #[.pointer (some ⟨f, 0, none⟩)] m fun v5 m6 => ∃ (v4 : Value), v5 = v4 ∧ isIfc v4 = true ∧ ifB (!(isNil v4)) (StW m6 ⟨f, 1048, none⟩ v4 fun m7 => K.kr [(0, .pointer (some ⟨f, 0, none⟩)), (3, v4), (4, .int .u64 x1), (5, .int .i64 x2)] m7) (K.kn [(0, .pointer (some ⟨f, 0, none⟩)), (3, v4), (4, .int .u64 x1), (5, .int .i64 x2)] m6)) (K.kx 2 [(0, .pointer (some ⟨f, 0, none⟩)), (4, .int .u64 x1), (5, .int .i64 x2)] m)) :
    wpc PP FF 362 L_decompressor_huffmanBlock c_decompressor_huffmanBlock_lrrlrrrrrlrllll K [(0, .pointer (some ⟨f, 0, none⟩)), (4, .int .u64 x1), (5, .int .i64 x2)] m :=
  Eq.mpr (by kernel_rfl) h

def k_decompressor_huffmanBlock_lrrlrrrrrrrlrllll : List Nat := [0, 5]
theorem p_decompressor_huffmanBlock_lrrlrrrrrrrlrllll (f : Nat) (x1 : Int) (m : Mem) (K : Kont)
    (h : ∃ (x2 : Int), cell? m ⟨f, 4, none⟩ = some (.int .u64 x2) ∧ ifB (decide (x2 < 5)) (CallM PP f_decompressor_moreBits #[.pointer (some ⟨f, 0, none⟩)] m fun v4 m5 => ∃ (v3 : Value), v4 = v3 ∧ isIfc v3 = true ∧ ifB (!(isNil v3)) (StW m5 ⟨f, 1048, none⟩ v3 fun m6 => K.kr [(0, .pointer (some ⟨f, 0, none⟩)), (3, v3), (5, .int .i64 x1)] m6) (K.kn [(0, .pointer (some ⟨f, 0, none⟩)), (3, v3), (5, .int .i64 x1)] m5)) (K.kx 4 [(0, .pointer (some ⟨f, 0, none⟩)), (5, .int .i64 x1)] m)) :
    wpc PP FF 362 L_decompressor_huffmanBlock c_decompressor_huffmanBlock_lrrlrrrrrrrlrllll K [(0, .pointer (some ⟨f, 0, none⟩)), (5, .int .i64 x1)] m :=
  Eq.mpr (by kernel_rfl) h

def k_decompressor_huffmanBlock_lrrlrrrrrrrrllrrrlrrlll : List Nat := [0, 5, 7, 8]
theorem p_decompressor_huffmanBlock_lrrlrrrrrrrrllrrrlrrlll (f : Nat) (x1 : Int) (x2 : Int) (x3 : Int) (m : Mem) (K : Kont)
    (h : ∃ (x4 : Int), cell? m ⟨f, 4, none⟩ = some (.int .u64 x4) ∧ ifB (decide (x4 < x2)) (CallM PP f_decompressor_moreBits #[.pointer (some ⟨f, 0, none⟩)] m fun v6 m7 => ∃ (v5 : Value), v6 = v5 ∧ isIfc v5 = true ∧ ifB (!(isNil v5)) (StW m7 ⟨f, 1048, none⟩ v5 fun m8 => K.kr [(0, .pointer (some ⟨f, 0, none⟩)), (3, v5), (5, .int .i64 x1), (7, .int .u64 x2), (8, .int .i64 x3)] m8) (K.kn [(0, .pointer (some ⟨f, 0, none⟩)), (3, v5), (5, .int .i64 x1), (7, .int .u64 x2), (8, .int .i64 x3)] m7)) (K.kx 7 [(0, .pointer (some ⟨f, 0, none⟩)), (5, .int .i64 x1), (7, .int .u64 x2), (8, .int .i64 x3)] m)) :
    wpc PP FF 362 L_decompressor_huffmanBlock c_decompressor_huffmanBlock_lrrlrrrrrrrrllrrrlrrlll K [(0, .pointer (some ⟨f, 0, none⟩)), (5, .int .i64 x1), (7, .int .u64 x2), (8, .int .i64 x3)] m :=
  Eq.mpr (by kernel_rfl) h

def k_decompressor_huffmanBlock_lrrr : List Nat := [0]
theorem p_decompressor_huffmanBlock_lrrr (f : Nat) (m : Mem) (K : Kont)
    (h : ∃ (x1 : Int), cell? m ⟨f, 1053, none⟩ = some (.int .i64 x1) ∧ ∃ (x2 : Int), cell? m ⟨f, 1052, none⟩ = some (.int .i64 x2) ∧ CallM PP f_dictDecoder_tryWriteCopy #[.pointer (some ⟨f, 1037, none⟩), .int .i64 x1, .int .i64 x2] m fun v4 m5 => ∃ (x3 : Int), v4 = .int .i64 x3 ∧ ifB (x3 == 0) (∃ (x6 : Int), cell? m5 ⟨f, 1053, none⟩ = some (.int .i64 x6) ∧ ∃ (x7 : Int), cell? m5 ⟨f, 1052, none⟩ = some (.int .i64 x7) ∧ CallM PP f_dictDecoder_writeCopy #[.pointer (some ⟨f, 1037, none⟩), .int .i64 x6, .int .i64 x7] m5 fun v9 m10 => ∃ (x8 : Int), v9 = .int .i64 x8 ∧ WPS PP 362 c_decompressor_huffmanBlock_lrrrrrr K [(0, .pointer (some ⟨f, 0, none⟩)), (9, .int .i64 x8)] m10) (WPS PP 362 c_decompressor_huffmanBlock_lrrrrrr K [(0, .pointer (some ⟨f, 0, none⟩)), (9, .int .i64 x3)] m5)  ) :
    wpc PP FF 362 L_decompressor_huffmanBlock c_decompressor_huffmanBlock_lrrr K [(0, .pointer (some ⟨f, 0, none⟩))] m :=
  Eq.mpr (by kernel_rfl) h

def k_decompressor_huffmanBlock_lrrrrrr : List Nat := [0, 9]
theorem p_decompressor_huffmanBlock_lrrrrrr (f : Nat) (x1 : Int) (m : Mem) (K : Kont)
    (h : ∃ (x2 : Int), cell? m ⟨f, 1052, none⟩ = some (.int .i64 x2) ∧ StW m ⟨f, 1052, none⟩ (.int .i64 (IntKind.wrap .i64 (x2 - x1))) fun m3 => CallM PP f_dictDecoder_availWrite #[.pointer (some ⟨f, 1037, none⟩)] m3 fun v5 m6 => ∃ (x4 : Int), v5 = .int .i64 x4 ∧ ifB (x4 == 0) (CallM PP f_dictDecoder_readFlush #[.pointer (some ⟨f, 1037, none⟩)] m6 fun v10 m11 => ∃ (a7 : Option Addr), ∃ (l8 : Nat), ∃ (k9 : Nat), v10 = .slice a7 l8 k9 ∧ StW m11 ⟨f, 1049, none⟩ (.slice a7 l8 k9) fun m12 => StW m12 ⟨f, 1045, none⟩ (.func (.func f_decompressor_huffmanBlock) #[] #[]) fun m13 => StW m13 ⟨f, 1046, none⟩ (.int .i64 1) fun m14 => K.kr [(0, .pointer (some ⟨f, 0, none⟩)), (9, .int .i64 x1)] m14) (∃ (x15 : Int), cell? m6 ⟨f, 1052, none⟩ = some (.int .i64 x15) ∧ ifB (decide (x15 > 0)) (CallM PP f_dictDecoder_readFlush #[.pointer (some ⟨f, 1037, none⟩)] m6 fun v19 m20 => ∃ (a16 : Option Addr), ∃ (l17 : Nat), ∃ (k18 : Nat), v19 = .slice a16 l17 k18 ∧ StW m20 ⟨f, 1049, none⟩ (.slice a16 l17 k18) fun m21 => StW m21 ⟨f, 1045, none⟩ (.func (.func f_decompressor_huffmanBlock) #[] #[]) fun m22 => StW m22 ⟨f, 1046, none⟩ (.int .i64 1) fun m23 => K.kr [(0, .pointer (some ⟨f, 0, none⟩)), (9, .int .i64 x1)] m23) (K.kg 0 [(0, .pointer (some ⟨f, 0, none⟩)), (9, .int .i64 x1)] m6))) :
    wpc PP FF 362 L_decompressor_huffmanBlock c_decompressor_huffmanBlock_lrrrrrr K [(0, .pointer (some ⟨f, 0, none⟩)), (9, .int .i64 x1)] m :=
  Eq.mpr (by kernel_rfl) h

def k_decompressor_huffmanBlock_lrrlrrrrr : List Nat := [0, 4, 5]
theorem p_decompressor_huffmanBlock_lrrlrrrrr (f : Nat) (x1 : Int) (x2 : Int) (m : Mem) (K : Kont)
    (h : ifB (decide (x1 > 0)) (WPS PP 362 c_decompressor_huffmanBlock_lrrlrrrrrlrlll (((K.withN fun r m => WPS PP 362 c_decompressor_huffmanBlock_lrrlrrrrrr K r m).withN fun r m => WPS PP 362 c_decompressor_huffmanBlock_lrrlrrrrrlrlr (K.withN fun r m => WPS PP 362 c_decompressor_huffmanBlock_lrrlrrrrrr K r m) r m).withX 2) [(0, .pointer (some ⟨f, 0, none⟩)), (4, .int .u64 x1), (5, .int .i64 x2)] m) (WPS PP 362 c_decompressor_huffmanBlock_lrrlrrrrrr K [(0, .pointer (some ⟨f, 0, none⟩)), (4, .int .u64 x1), (5, .int .i64 x2)] m)) :
    wpc PP FF 362 L_decompressor_huffmanBlock c_decompressor_huffmanBlock_lrrlrrrrr K [(0, .pointer (some ⟨f, 0, none⟩)), (4, .int .u64 x1), (5, .int .i64 x2)] m :=
  Eq.mpr (by kernel_rfl) h

def k_decompressor_huffmanBlock_lrrlrrrrrr : List Nat := [0, 5]
theorem p_decompressor_huffmanBlock_lrrlrrrrrr (f : Nat) (x1 : Int) (m : Mem) (K : Kont)
    (h : ∃ (p2 : Option Addr), cell? m ⟨f, 1051, none⟩ = some (.pointer p2) ∧ ifB p2.isNone (WPS PP 362 c_decompressor_huffmanBlock_lrrlrrrrrrrlrlll (((K.withN fun r m => WPS PP 362 c_decompressor_huffmanBlock_lrrlrrrrrrrr K r m).withN fun r m => WPS PP 362 c_decompressor_huffmanBlock_lrrlrrrrrrrlrlr (K.withN fun r m => WPS PP 362 c_decompressor_huffmanBlock_lrrlrrrrrrrr K r m) r m).withX 4) [(0, .pointer (some ⟨f, 0, none⟩)), (5, .int .i64 x1), (6, .int .i64 0)] m) (∃ (p3 : Option Addr), cell? m ⟨f, 1051, none⟩ = some (.pointer p3) ∧ CallM PP f_decompressor_huffSym #[.pointer (some ⟨f, 0, none⟩), .pointer p3] m fun v6 m7 => ∃ (x4 : Int), ∃ (v5 : Value), v6 = .tuple #[.int .i64 x4, v5] ∧ isIfc v5 = true ∧ ifB (!(isNil v5)) (StW m7 ⟨f, 1048, none⟩ v5 fun m8 => K.kr [(0, .pointer (some ⟨f, 0, none⟩)), (3, v5), (5, .int .i64 x1), (6, .int .i64 x4)] m8) (WPS PP 362 c_decompressor_huffmanBlock_lrrlrrrrrrrr K [(0, .pointer (some ⟨f, 0, none⟩)), (3, v5), (5, .int .i64 x1), (6, .int .i64 x4)] m7))) :
    wpc PP FF 362 L_decompressor_huffmanBlock c_decompressor_huffmanBlock_lrrlrrrrrr K [(0, .pointer (some ⟨f, 0, none⟩)), (5, .int .i64 x1)] m :=
  Eq.mpr (by kernel_rfl) h

def k_decompressor_huffmanBlock_lrrlrrrrrlrlr : List Nat := [0, 4, 5]
theorem p_decompressor_huffmanBlock_lrrlrrrrrlrlr (f : Nat) (x1 : Int) (x2 : Int) (m : Mem) (K : Kont)
    (h : ∃ (x3 : Int), cell? m ⟨f, 3, none⟩ = some (.int .u32 x3) ∧ 0 ≤ x1 ∧ IntKind.u32 = IntKind.u32 ∧ ∃ (x4 : Int), cell? m ⟨f, 3, none⟩ = some (.int .u32 x4) ∧ 0 ≤ x1 ∧ StW m ⟨f, 3, none⟩ (.int .u32 (shrOp .u32 x4 x1)) fun m5 => ∃ (x6 : Int), cell? m5 ⟨f, 4, none⟩ = some (.int .u64 x6) ∧ StW m5 ⟨f, 4, none⟩ (.int .u64 (IntKind.wrap .u64 (x6 - x1))) fun m7 => K.kn [(0, .pointer (some ⟨f, 0, none⟩)), (4, .int .u64 x1), (5, .int .i64 (IntKind.wrap .i64 (x2 + (IntKind.wrap .i64 (bitsOp .and .u32 x3 (IntKind.wrap .u32 ((shlOp .u32 1 x1) - 1)))))))] m7) :
    wpc PP FF 362 L_decompressor_huffmanBlock c_decompressor_huffmanBlock_lrrlrrrrrlrlr K [(0, .pointer (some ⟨f, 0, none⟩)), (4, .int .u64 x1), (5, .int .i64 x2)] m :=
  Eq.mpr (by kernel_rfl) h

def k_decompressor_huffmanBlock_lrrlrrrrrrrr : List Nat := [0, 5, 6]
theorem p_decompressor_huffmanBlock_lrrlrrrrrrrr (f : Nat) (x1 : Int) (x2 : Int) (m : Mem) (K : Kont)
    (h : ifB (decide (x2 < 4)) (WPS PP 362 c_decompressor_huffmanBlock_lrrlrrrrrrrrr K [(0, .pointer (some ⟨f, 0, none⟩)), (5, .int .i64 x1), (6, .int .i64 (IntKind.wrap .i64 (x2 + 1)))] m) (ifB (decide (x2 < 30)) (0 ≤ (1 : Int) ∧ IntKind.i64 = IntKind.i64 ∧ 0 ≤ (shrOp .u64 (IntKind.wrap .u64 (IntKind.wrap .i64 (x2 - 2))) 1) ∧ WPS PP 362 c_decompressor_huffmanBlock_lrrlrrrrrrrrllrrrlrrll ((((K.withN fun r m => WPS PP 362 c_decompressor_huffmanBlock_lrrlrrrrrrrrr K r m).withX 6).withN fun r m => WPS PP 362 c_decompressor_huffmanBlock_lrrlrrrrrrrrllrrrlrrr ((K.withN fun r m => WPS PP 362 c_decompressor_huffmanBlock_lrrlrrrrrrrrr K r m).withX 6) r m).withX 7) [(0, .pointer (some ⟨f, 0, none⟩)), (5, .int .i64 x1), (6, .int .i64 x2), (7, .int .u64 (shrOp .u64 (IntKind.wrap .u64 (IntKind.wrap .i64 (x2 - 2))) 1)), (8, .int .i64 (shlOp .i64 (bitsOp .and .i64 x2 1) (shrOp .u64 (IntKind.wrap .u64 (IntKind.wrap .i64 (x2 - 2))) 1)))] m) (∃ (x3 : Int), cell? m ⟨f, 2, none⟩ = some (.int .i64 x3) ∧ StW m ⟨f, 1048, none⟩ (.iface t_flate_CorruptInputError (.int .i64 x3)) fun m4 => K.kr [(0, .pointer (some ⟨f, 0, none⟩)), (5, .int .i64 x1), (6, .int .i64 x2)] m4))) :
    wpc PP FF 362 L_decompressor_huffmanBlock c_decompressor_huffmanBlock_lrrlrrrrrrrr K [(0, .pointer (some ⟨f, 0, none⟩)), (5, .int .i64 x1), (6, .int .i64 x2)] m :=
  Eq.mpr (by kernel_rfl) h

def k_decompressor_huffmanBlock_lrrlrrrrrrrlrlr : List Nat := [0, 5]
theorem p_decompressor_huffmanBlock_lrrlrrrrrrrlrlr (f : Nat) (x1 : Int) (m : Mem) (K : Kont)
    (h : ∃ (x2 : Int), cell? m ⟨f, 3, none⟩ = some (.int .u32 x2) ∧ IntKind.u32 = IntKind.u32 ∧ 0 ≤ (3 : Int) ∧ CallM PP f_bits_Reverse8 #[.int .u8 (IntKind.wrap .u8 (shlOp .u32 (bitsOp .and .u32 x2 31) 3))] m fun v4 m5 => ∃ (x3 : Int), v4 = .int .u8 x3 ∧ ∃ (x6 : Int), cell? m5 ⟨f, 3, none⟩ = some (.int .u32 x6) ∧ 0 ≤ (5 : Int) ∧ StW m5 ⟨f, 3, none⟩ (.int .u32 (shrOp .u32 x6 5)) fun m7 => ∃ (x8 : Int), cell? m7 ⟨f, 4, none⟩ = some (.int .u64 x8) ∧ StW m7 ⟨f, 4, none⟩ (.int .u64 (IntKind.wrap .u64 (x8 - 5))) fun m9 => K.kn [(0, .pointer (some ⟨f, 0, none⟩)), (5, .int .i64 x1), (6, .int .i64 (IntKind.wrap .i64 x3))] m9) :
    wpc PP FF 362 L_decompressor_huffmanBlock c_decompressor_huffmanBlock_lrrlrrrrrrrlrlr K [(0, .pointer (some ⟨f, 0, none⟩)), (5, .int .i64 x1)] m :=
  Eq.mpr (by kernel_rfl) h

def k_decompressor_huffmanBlock_lrrlrrrrrrrrr : List Nat := [0, 5, 6]
theorem p_decompressor_huffmanBlock_lrrlrrrrrrrrr (f : Nat) (x1 : Int) (x2 : Int) (m : Mem) (K : Kont)
    (h : CallM PP f_dictDecoder_histSize #[.pointer (some ⟨f, 1037, none⟩)] m fun v4 m5 => ∃ (x3 : Int), v4 = .int .i64 x3 ∧ ifB (decide (x2 > x3)) (∃ (x6 : Int), cell? m5 ⟨f, 2, none⟩ = some (.int .i64 x6) ∧ StW m5 ⟨f, 1048, none⟩ (.iface t_flate_CorruptInputError (.int .i64 x6)) fun m7 => K.kr [(0, .pointer (some ⟨f, 0, none⟩)), (5, .int .i64 x1), (6, .int .i64 x2)] m7) (StW m5 ⟨f, 1052, none⟩ (.int .i64 x1) fun m8 => StW m8 ⟨f, 1053, none⟩ (.int .i64 x2) fun m9 => K.kg 1 [(0, .pointer (some ⟨f, 0, none⟩)), (5, .int .i64 x1), (6, .int .i64 x2)] m9)) :
    wpc PP FF 362 L_decompressor_huffmanBlock c_decompressor_huffmanBlock_lrrlrrrrrrrrr K [(0, .pointer (some ⟨f, 0, none⟩)), (5, .int .i64 x1), (6, .int .i64 x2)] m :=
  Eq.mpr (by kernel_rfl) h

def k_decompressor_huffmanBlock_lrrlrrrrrrrrllrrrlrrr : List Nat := [0, 5, 7, 8]
theorem p_decompressor_huffmanBlock_lrrlrrrrrrrrllrrrlrrr (f : Nat) (x1 : Int) (x2 : Int) (x3 : Int) (m : Mem) (K : Kont)
    (h : ∃ (x4 : Int), cell? m ⟨f, 3, none⟩ = some (.int .u32 x4) ∧ 0 ≤ x2 ∧ IntKind.u32 = IntKind.u32 ∧ IntKind.i64 = IntKind.i64 ∧ ∃ (x5 : Int), cell? m ⟨f, 3, none⟩ = some (.int .u32 x5) ∧ 0 ≤ x2 ∧ StW m ⟨f, 3, none⟩ (.int .u32 (shrOp .u32 x5 x2)) fun m6 => ∃ (x7 : Int), cell? m6 ⟨f, 4, none⟩ = some (.int .u64 x7) ∧ StW m6 ⟨f, 4, none⟩ (.int .u64 (IntKind.wrap .u64 (x7 - x2))) fun m8 => 0 ≤ (IntKind.wrap .u64 (x2 + 1)) ∧ K.kn [(0, .pointer (some ⟨f, 0, none⟩)), (5, .int .i64 x1), (6, .int .i64 (IntKind.wrap .i64 ((IntKind.wrap .i64 ((shlOp .i64 1 (IntKind.wrap .u64 (x2 + 1))) + 1)) + (bitsOp .or .i64 x3 (IntKind.wrap .i64 (bitsOp .and .u32 x4 (IntKind.wrap .u32 ((shlOp .u32 1 x2) - 1)))))))), (7, .int .u64 x2), (8, .int .i64 (bitsOp .or .i64 x3 (IntKind.wrap .i64 (bitsOp .and .u32 x4 (IntKind.wrap .u32 ((shlOp .u32 1 x2) - 1))))))] m8) :
    wpc PP FF 362 L_decompressor_huffmanBlock c_decompressor_huffmanBlock_lrrlrrrrrrrrllrrrlrrr K [(0, .pointer (some ⟨f, 0, none⟩)), (5, .int .i64 x1), (7, .int .u64 x2), (8, .int .i64 x3)] m :=
  Eq.mpr (by kernel_rfl) h

/-! (*loop.example/pub-inflation/pub/inflate.decompressor).readHuffman -/
def L_decompressor_readHuffman : List Nat := [0, 2, 3, 4, 5, 6, 7, 8, 9, 10, 11, 12, 13, 14, 15, 16, 17, 18, 23, 27, 37, 58, 94, 101, 105, 138, 160, 171, 181, 184, 195, 197, 200, 215, 217, 224, 228, 261, 269, 310, 328]
def r_decompressor_readHuffman : List ResultVar := [.tmp 2]
noncomputable def c_decompressor_readHuffman : Code := (Go.Proofs.Tryd.f47.body).getD .skip
theorem b_decompressor_readHuffman : Go.Proofs.Tryd.f47.body = some c_decompressor_readHuffman := by kernel_rfl
noncomputable def c_decompressor_readHuffman_rr : Code := (rgt (rgt c_decompressor_readHuffman))
noncomputable def c_decompressor_readHuffman_rll : Code := (lft (lft (rgt c_decompressor_readHuffman)))
noncomputable def c_decompressor_readHuffman_rlll : Code := (lft c_decompressor_readHuffman_rll)
noncomputable def c_decompressor_readHuffman_rrrrrrrrrrrr : Code := (rgt (rgt (rgt (rgt (rgt (rgt (rgt (rgt (rgt (rgt c_decompressor_readHuffman_rr))))))))))
noncomputable def c_decompressor_readHuffman_rrrrrrrrrrrrr : Code := (rgt c_decompressor_readHuffman_rrrrrrrrrrrr)
noncomputable def c_decompressor_readHuffman_rrrrrrrrrrrlrl : Code := (lft (rgt (lft (rgt (rgt (rgt (rgt (rgt (rgt (rgt (rgt (rgt c_decompressor_readHuffman_rr))))))))))))
noncomputable def c_decompressor_readHuffman_rrrrrrrrrrrlrll : Code := (lft c_decompressor_readHuffman_rrrrrrrrrrrlrl)
noncomputable def c_decompressor_readHuffman_rrrrrrrrrrrrlrl : Code := (lft (rgt (lft c_decompressor_readHuffman_rrrrrrrrrrrr)))
noncomputable def c_decompressor_readHuffman_rrrrrrrrrrrrrrr : Code := (rgt (rgt c_decompressor_readHuffman_rrrrrrrrrrrrr))
noncomputable def c_decompressor_readHuffman_rrrrrrrrrrrrlrll : Code := (lft c_decompressor_readHuffman_rrrrrrrrrrrrlrl)
noncomputable def c_decompressor_readHuffman_rrrrrrrrrrrrrrlrl : Code := (lft (rgt (lft (rgt c_decompressor_readHuffman_rrrrrrrrrrrrr))))
noncomputable def c_decompressor_readHuffman_rrrrrrrrrrrlrllrr : Code := (rgt (rgt c_decompressor_readHuffman_rrrrrrrrrrrlrll))
noncomputable def c_decompressor_readHuffman_rrrrrrrrrrrrrrrrr : Code := (rgt (rgt c_decompressor_readHuffman_rrrrrrrrrrrrrrr))
noncomputable def c_decompressor_readHuffman_rrrrrrrrrrrrrrlrll : Code := (lft c_decompressor_readHuffman_rrrrrrrrrrrrrrlrl)
noncomputable def c_decompressor_readHuffman_rrrrrrrrrrrlrllrllr : Code := (rgt (lft (lft (rgt c_decompressor_readHuffman_rrrrrrrrrrrlrll))))
noncomputable def c_decompressor_readHuffman_rrrrrrrrrrrlrllrllll : Code := (lft (lft (lft (lft (rgt c_decompressor_readHuffman_rrrrrrrrrrrlrll)))))
noncomputable def c_decompressor_readHuffman_rrrrrrrrrrrlrllrlllll : Code := (lft c_decompressor_readHuffman_rrrrrrrrrrrlrllrllll)
noncomputable def c_decompressor_readHuffman_rrrrrrrrrrrrrrlrllrlrrrrrrr : Code := (rgt (rgt (rgt (rgt (rgt (rgt (rgt (lft (rgt c_decompressor_readHuffman_rrrrrrrrrrrrrrlrll)))))))))
noncomputable def c_decompressor_readHuffman_rrrrrrrrrrrrrrlrllrlrrrrrrrr : Code := (rgt c_decompressor_readHuffman_rrrrrrrrrrrrrrlrllrlrrrrrrr)
noncomputable def c_decompressor_readHuffman_rrrrrrrrrrrrrrlrllrlrrrrrrrll : Code := (lft (lft c_decompressor_readHuffman_rrrrrrrrrrrrrrlrllrlrrrrrrr))
noncomputable def c_decompressor_readHuffman_rrrrrrrrrrrrrrlrllrlrrrrrrrlll : Code := (lft c_decompressor_readHuffman_rrrrrrrrrrrrrrlrllrlrrrrrrrll)
noncomputable def c_decompressor_readHuffman_rrrrrrrrrrrrrrlrllrlrrrrrrrrrrrrrl : Code := (lft (rgt (rgt (rgt (rgt (rgt c_decompressor_readHuffman_rrrrrrrrrrrrrrlrllrlrrrrrrrr))))))
noncomputable def c_decompressor_readHuffman_rrrrrrrrrrrrrrlrllrlrrrrrrrrrrrrrll : Code := (lft c_decompressor_readHuffman_rrrrrrrrrrrrrrlrllrlrrrrrrrrrrrrrl)
theorem q_decompressor_readHuffman_rll : c_decompressor_readHuffman_rll = .loop c_decompressor_readHuffman_rlll := by kernel_rfl
theorem q_decompressor_readHuffman_rrrrrrrrrrrlrl : c_decompressor_readHuffman_rrrrrrrrrrrlrl = .loop c_decompressor_readHuffman_rrrrrrrrrrrlrll := by kernel_rfl
theorem q_decompressor_readHuffman_rrrrrrrrrrrrlrl : c_decompressor_readHuffman_rrrrrrrrrrrrlrl = .loop c_decompressor_readHuffman_rrrrrrrrrrrrlrll := by kernel_rfl
theorem q_decompressor_readHuffman_rrrrrrrrrrrrrrlrl : c_decompressor_readHuffman_rrrrrrrrrrrrrrlrl = .loop c_decompressor_readHuffman_rrrrrrrrrrrrrrlrll := by kernel_rfl
theorem q_decompressor_readHuffman_rrrrrrrrrrrlrllrllll : c_decompressor_readHuffman_rrrrrrrrrrrlrllrllll = .loop c_decompressor_readHuffman_rrrrrrrrrrrlrllrlllll := by kernel_rfl
theorem q_decompressor_readHuffman_rrrrrrrrrrrrrrlrllrlrrrrrrrll : c_decompressor_readHuffman_rrrrrrrrrrrrrrlrllrlrrrrrrrll = .loop c_decompressor_readHuffman_rrrrrrrrrrrrrrlrllrlrrrrrrrlll := by kernel_rfl
theorem q_decompressor_readHuffman_rrrrrrrrrrrrrrlrllrlrrrrrrrrrrrrrl : c_decompressor_readHuffman_rrrrrrrrrrrrrrlrllrlrrrrrrrrrrrrrl = .loop c_decompressor_readHuffman_rrrrrrrrrrrrrrlrllrlrrrrrrrrrrrrrll := by kernel_rfl
/- the loop at rll: slots [0] -/
/- the loop at rrrrrrrrrrrlrl: slots [0, 4, 5, 6, 7] -/
/- the loop at rrrrrrrrrrrrlrl: slots [0, 4, 5, 9] -/
/- the loop at rrrrrrrrrrrrrrlrl: slots [0, 4, 5, 10, 11] -/
/- the loop at rrrrrrrrrrrlrllrllll: slots [0, 4, 5, 6, 7] -/
/- the loop at rrrrrrrrrrrrrrlrllrlrrrrrrrll: slots [0, 4, 5, 10, 11, 14, 15, 16] -/
/- the loop at rrrrrrrrrrrrrrlrllrlrrrrrrrrrrrrrl: slots [0, 4, 5, 10, 11, 14, 16, 18] -/
theorem e_decompressor_readHuffman (f : Nat) (m : Mem) (R : Value → Mem → Prop)
    (h : WPS PP 340 c_decompressor_readHuffman_rll (((retK PP r_decompressor_readHuffman R).withN fun r m => WPS PP 340 c_decompressor_readHuffman_rr (retK PP r_decompressor_readHuffman R) r m).withX 0) [(0, .pointer (some ⟨f, 0, none⟩)), (2, .nilIface)] m  ) :
    CallM PP f_decompressor_readHuffman #[.pointer (some ⟨f, 0, none⟩)] m R :=
  callM_enter ffOk mixedOk 340 L_decompressor_readHuffman Tryd.func47 b_decompressor_readHuffman Tryd.ntmps47 (by simp) (Eq.mpr (by kernel_rfl) h)

def k_decompressor_readHuffman_rr : List Nat := [0]
theorem p_decompressor_readHuffman_rr (f : Nat) (m : Mem) (K : Kont)
    (h : ∃ (x1 : Int), cell? m ⟨f, 3, none⟩ = some (.int .u32 x1) ∧ IntKind.u32 = IntKind.u32 ∧ ifB (decide ((IntKind.wrap .i64 ((IntKind.wrap .i64 (bitsOp .and .u32 x1 31)) + 257)) > 286)) (∃ (x2 : Int), cell? m ⟨f, 2, none⟩ = some (.int .i64 x2) ∧ K.kr [(0, .pointer (some ⟨f, 0, none⟩)), (2, .iface t_flate_CorruptInputError (.int .i64 x2)), (4, .int .i64 (IntKind.wrap .i64 ((IntKind.wrap .i64 (bitsOp .and .u32 x1 31)) + 257)))] m) (∃ (x3 : Int), cell? m ⟨f, 3, none⟩ = some (.int .u32 x3) ∧ 0 ≤ (5 : Int) ∧ StW m ⟨f, 3, none⟩ (.int .u32 (shrOp .u32 x3 5)) fun m4 => ∃ (x5 : Int), cell? m4 ⟨f, 3, none⟩ = some (.int .u32 x5) ∧ IntKind.u32 = IntKind.u32 ∧ ifB (decide ((IntKind.wrap .i64 ((IntKind.wrap .i64 (bitsOp .and .u32 x5 31)) + 1)) > 30)) (∃ (x6 : Int), cell? m4 ⟨f, 2, none⟩ = some (.int .i64 x6) ∧ K.kr [(0, .pointer (some ⟨f, 0, none⟩)), (2, .iface t_flate_CorruptInputError (.int .i64 x6)), (4, .int .i64 (IntKind.wrap .i64 ((IntKind.wrap .i64 (bitsOp .and .u32 x1 31)) + 257))), (5, .int .i64 (IntKind.wrap .i64 ((IntKind.wrap .i64 (bitsOp .and .u32 x5 31)) + 1)))] m4) (∃ (x7 : Int), cell? m4 ⟨f, 3, none⟩ = some (.int .u32 x7) ∧ 0 ≤ (5 : Int) ∧ StW m4 ⟨f, 3, none⟩ (.int .u32 (shrOp .u32 x7 5)) fun m8 => ∃ (x9 : Int), cell? m8 ⟨f, 3, none⟩ = some (.int .u32 x9) ∧ IntKind.u32 = IntKind.u32 ∧ ∃ (x10 : Int), cell? m8 ⟨f, 3, none⟩ = some (.int .u32 x10) ∧ 0 ≤ (4 : Int) ∧ StW m8 ⟨f, 3, none⟩ (.int .u32 (shrOp .u32 x10 4)) fun m11 => ∃ (x12 : Int), cell? m11 ⟨f, 4, none⟩ = some (.int .u64 x12) ∧ StW m11 ⟨f, 4, none⟩ (.int .u64 (IntKind.wrap .u64 (x12 - 14))) fun m13 => WPS PP 340 c_decompressor_readHuffman_rrrrrrrrrrrlrl ((K.withN fun r m => WPS PP 340 c_decompressor_readHuffman_rrrrrrrrrrrr K r m).withX 2) [(0, .pointer (some ⟨f, 0, none⟩)), (4, .int .i64 (IntKind.wrap .i64 ((IntKind.wrap .i64 (bitsOp .and .u32 x1 31)) + 257))), (5, .int .i64 (IntKind.wrap .i64 ((IntKind.wrap .i64 (bitsOp .and .u32 x5 31)) + 1))), (6, .int .i64 (IntKind.wrap .i64 ((IntKind.wrap .i64 (bitsOp .and .u32 x9 15)) + 4))), (7, .int .i64 0)] m13))  ) :
    wpc PP FF 340 L_decompressor_readHuffman c_decompressor_readHuffman_rr K [(0, .pointer (some ⟨f, 0, none⟩))] m :=
  Eq.mpr (by kernel_rfl) h

def k_decompressor_readHuffman_rlll : List Nat := [0]
theorem p_decompressor_readHuffman_rlll (f : Nat) (m : Mem) (K : Kont)
    (h : ∃ (x1 : Int), cell? m ⟨f, 4, none⟩ = some (.int .u64 x1) ∧ ifB (decide (x1 < 14)) (CallM PP f_decompressor_moreBits #[.pointer (some ⟨f, 0, none⟩)] m fun v3 m4 => ∃ (v2 : Value), v3 = v2 ∧ isIfc v2 = true ∧ ifB (!(isNil v2)) (K.kr [(0, .pointer (some ⟨f, 0, none⟩)), (2, v2), (3, v2)] m4) (K.kn [(0, .pointer (some ⟨f, 0, none⟩)), (3, v2)] m4)) (K.kx 0 [(0, .pointer (some ⟨f, 0, none⟩))] m)  ) :
    wpc PP FF 340 L_decompressor_readHuffman c_decompressor_readHuffman_rlll K [(0, .pointer (some ⟨f, 0, none⟩))] m :=
  Eq.mpr (by kernel_rfl) h

def k_decompressor_readHuffman_rrrrrrrrrrrlrll : List Nat := [0, 4, 5, 6, 7]
theorem p_decompressor_readHuffman_rrrrrrrrrrrlrll (f : Nat) (x1 : Int) (x2 : Int) (x3 : Int) (x4 : Int) (m : Mem) (K : Kont)
    (h : ifB (decide (x4 < x3)) (WPS PP 340 c_decompressor_readHuffman_rrrrrrrrrrrlrllrllll ((((K.withN fun r m => wpc PP FF 340 L_decompressor_readHuffman c_decompressor_readHuffman_rrrrrrrrrrrlrllrr K r m).withX 3).withN fun r m => WPS PP 340 c_decompressor_readHuffman_rrrrrrrrrrrlrllrllr ((K.withN fun r m => wpc PP FF 340 L_decompressor_readHuffman c_decompressor_readHuffman_rrrrrrrrrrrlrllrr K r m).withX 3) r m).withX 4) [(0, .pointer (some ⟨f, 0, none⟩)), (4, .int .i64 x1), (5, .int .i64 x2), (6, .int .i64 x3), (7, .int .i64 x4)] m) (K.kx 2 [(0, .pointer (some ⟨f, 0, none⟩)), (4, .int .i64 x1), (5, .int .i64 x2), (6, .int .i64 x3), (7, .int .i64 x4)] m)) :
    wpc PP FF 340 L_decompressor_readHuffman c_decompressor_readHuffman_rrrrrrrrrrrlrll K [(0, .pointer (some ⟨f, 0, none⟩)), (4, .int .i64 x1), (5, .int .i64 x2), (6, .int .i64 x3), (7, .int .i64 x4)] m :=
  Eq.mpr (by kernel_rfl) h

def k_decompressor_readHuffman_rrrrrrrrrrrrlrll : List Nat := [0, 4, 5, 9]
theorem p_decompressor_readHuffman_rrrrrrrrrrrrlrll (f : Nat) (x1 : Int) (x2 : Int) (x3 : Int) (m : Mem) (K : Kont)
    (h : ifB (decide (x3 < 19)) (∃ (p4 : Option Addr), cell? m ⟨f, 1036, none⟩ = some (.pointer p4) ∧ (0 ≤ x3 ∧ x3 < ((19 : Nat) : Int)) ∧ ∃ (x5 : Int), cell? m ⟨g_inflate_codeOrder, 0 + x3.toNat, none⟩ = some (.int .i64 x5) ∧ onSome p4 fun p6 => (0 ≤ x5 ∧ x5 < ((19 : Nat) : Int)) ∧ StW m (aplus p6 x5.toNat) (.int .i64 0) fun m7 => K.kn [(0, .pointer (some ⟨f, 0, none⟩)), (4, .int .i64 x1), (5, .int .i64 x2), (9, .int .i64 (IntKind.wrap .i64 (x3 + 1)))] m7) (K.kx 6 [(0, .pointer (some ⟨f, 0, none⟩)), (4, .int .i64 x1), (5, .int .i64 x2), (9, .int .i64 x3)] m)) :
    wpc PP FF 340 L_decompressor_readHuffman c_decompressor_readHuffman_rrrrrrrrrrrrlrll K [(0, .pointer (some ⟨f, 0, none⟩)), (4, .int .i64 x1), (5, .int .i64 x2), (9, .int .i64 x3)] m :=
  Eq.mpr (by kernel_rfl) h

def k_decompressor_readHuffman_rrrrrrrrrrrrrrlrll : List Nat := [0, 4, 5, 10, 11]
theorem p_decompressor_readHuffman_rrrrrrrrrrrrrrlrll (f : Nat) (x1 : Int) (x2 : Int) (x3 : Int) (x4 : Int) (m : Mem) (K : Kont)
    (h : ifB (decide (x3 < x4)) (CallM PP f_decompressor_huffSym #[.pointer (some ⟨f, 0, none⟩), .pointer (some ⟨f, 5, none⟩)] m fun v7 m8 => ∃ (x5 : Int), ∃ (v6 : Value), v7 = .tuple #[.int .i64 x5, v6] ∧ isIfc v6 = true ∧ ifB (!(isNil v6)) (K.kr [(0, .pointer (some ⟨f, 0, none⟩)), (2, v6), (4, .int .i64 x1), (5, .int .i64 x2), (10, .int .i64 x3), (11, .int .i64 x4), (12, .int .i64 x5), (13, v6)] m8) (ifB (decide (x5 < 16)) (∃ (p9 : Option Addr), cell? m8 ⟨f, 1035, none⟩ = some (.pointer p9) ∧ onSome p9 fun p10 => (0 ≤ x3 ∧ x3 < ((316 : Nat) : Int)) ∧ StW m8 (aplus p10 x3.toNat) (.int .i64 x5) fun m11 => K.kn [(0, .pointer (some ⟨f, 0, none⟩)), (4, .int .i64 x1), (5, .int .i64 x2), (10, .int .i64 (IntKind.wrap .i64 (x3 + 1))), (11, .int .i64 x4), (12, .int .i64 x5), (13, v6)] m11) (ifB (x5 == 16) (ifB (x3 == 0) (∃ (x12 : Int), cell? m8 ⟨f, 2, none⟩ = some (.int .i64 x12) ∧ K.kr [(0, .pointer (some ⟨f, 0, none⟩)), (2, .iface t_flate_CorruptInputError (.int .i64 x12)), (4, .int .i64 x1), (5, .int .i64 x2), (10, .int .i64 x3), (11, .int .i64 x4), (12, .int .i64 x5), (13, v6), (14, .int .i64 3), (15, .int .u64 2), (16, .int .i64 0), (195, .int .i64 x5)] m8) (∃ (p13 : Option Addr), cell? m8 ⟨f, 1035, none⟩ = some (.pointer p13) ∧ onSome p13 fun p14 => (0 ≤ (IntKind.wrap .i64 (x3 - 1)) ∧ (IntKind.wrap .i64 (x3 - 1)) < ((316 : Nat) : Int)) ∧ ∃ (x15 : Int), cell? m8 (aplus p14 ((IntKind.wrap .i64 (x3 - 1)).toNat)) = some (.int .i64 x15) ∧ WPS PP 340 c_decompressor_readHuffman_rrrrrrrrrrrrrrlrllrlrrrrrrr (K.withX 9) [(0, .pointer (some ⟨f, 0, none⟩)), (4, .int .i64 x1), (5, .int .i64 x2), (10, .int .i64 x3), (11, .int .i64 x4), (12, .int .i64 x5), (13, v6), (14, .int .i64 3), (15, .int .u64 2), (16, .int .i64 x15), (195, .int .i64 x5)] m8)) (ifB (x5 == 17) (WPS PP 340 c_decompressor_readHuffman_rrrrrrrrrrrrrrlrllrlrrrrrrr (K.withX 9) [(0, .pointer (some ⟨f, 0, none⟩)), (4, .int .i64 x1), (5, .int .i64 x2), (10, .int .i64 x3), (11, .int .i64 x4), (12, .int .i64 x5), (13, v6), (14, .int .i64 3), (15, .int .u64 3), (16, .int .i64 0), (195, .int .i64 x5)] m8) (ifB (x5 == 18) (WPS PP 340 c_decompressor_readHuffman_rrrrrrrrrrrrrrlrllrlrrrrrrr (K.withX 9) [(0, .pointer (some ⟨f, 0, none⟩)), (4, .int .i64 x1), (5, .int .i64 x2), (10, .int .i64 x3), (11, .int .i64 x4), (12, .int .i64 x5), (13, v6), (14, .int .i64 11), (15, .int .u64 7), (16, .int .i64 0), (195, .int .i64 x5)] m8) (K.kr [(0, .pointer (some ⟨f, 0, none⟩)), (2, .iface t_flate_InternalError (.string (⟨#[117, 110, 101, 120, 112, 101, 99, 116, 101, 100, 32, 108, 101, 110, 103, 116, 104, 32, 99, 111, 100, 101]⟩))), (4, .int .i64 x1), (5, .int .i64 x2), (10, .int .i64 x3), (11, .int .i64 x4), (12, .int .i64 x5), (13, v6), (14, .int .i64 0), (15, .int .u64 0), (16, .int .i64 0), (195, .int .i64 x5)] m8)))))) (K.kx 8 [(0, .pointer (some ⟨f, 0, none⟩)), (4, .int .i64 x1), (5, .int .i64 x2), (10, .int .i64 x3), (11, .int .i64 x4)] m)) :
    wpc PP FF 340 L_decompressor_readHuffman c_decompressor_readHuffman_rrrrrrrrrrrrrrlrll K [(0, .pointer (some ⟨f, 0, none⟩)), (4, .int .i64 x1), (5, .int .i64 x2), (10, .int .i64 x3), (11, .int .i64 x4)] m :=
  Eq.mpr (by kernel_rfl) h

def k_decompressor_readHuffman_rrrrrrrrrrrlrllrlllll : List Nat := [0, 4, 5, 6, 7]
theorem p_decompressor_readHuffman_rrrrrrrrrrrlrllrlllll (f : Nat) (x1 : Int) (x2 : Int) (x3 : Int) (x4 : Int) (m : Mem) (K : Kont)
    (h : ∃ (x5 : Int), cell? m ⟨f, 4, none⟩ = some (.int .u64 x5) ∧ ifB (decide (x5 < 3)) (CallM PP f_decompressor_moreBits #[.pointer (some ⟨f, 0, none⟩)] m fun v7 m8 => ∃ (v6 : Value), v7 = v6 ∧ isIfc v6 = true ∧ ifB (!(isNil v6)) (K.kr [(0, .pointer (some ⟨f, 0, none⟩)), (2, v6), (4, .int .i64 x1), (5, .int .i64 x2), (6, .int .i64 x3), (7, .int .i64 x4), (8, v6)] m8) (K.kn [(0, .pointer (some ⟨f, 0, none⟩)), (4, .int .i64 x1), (5, .int .i64 x2), (6, .int .i64 x3), (7, .int .i64 x4), (8, v6)] m8)) (K.kx 4 [(0, .pointer (some ⟨f, 0, none⟩)), (4, .int .i64 x1), (5, .int .i64 x2), (6, .int .i64 x3), (7, .int .i64 x4)] m)) :
    wpc PP FF 340 L_decompressor_readHuffman c_decompressor_readHuffman_rrrrrrrrrrrlrllrlllll K [(0, .pointer (some ⟨f, 0, none⟩)), (4, .int .i64 x1), (5, .int .i64 x2), (6, .int .i64 x3), (7, .int .i64 x4)] m :=
  Eq.mpr (by kernel_rfl) h

def k_decompressor_readHuffman_rrrrrrrrrrrrrrlrllrlrrrrrrrlll : List Nat := [0, 4, 5, 10, 11, 14, 15, 16]
theorem p_decompressor_readHuffman_rrrrrrrrrrrrrrlrllrlrrrrrrrlll (f : Nat) (x1 : Int) (x2 : Int) (x3 : Int) (x4 : Int) (x5 : Int) (x6 : Int) (x7 : Int) (m : Mem) (K : Kont)
    (h : ∃ (x8 : Int), cell? m ⟨f, 4, none⟩ = some (.int .u64 x8) ∧ ifB (decide (x8 < x6)) (CallM PP f_decompressor_moreBits #[.pointer (some ⟨f, 0, none⟩)] m fun v10 m11 => ∃ (v9 : Value), v10 = v9 ∧ isIfc v9 = true ∧ ifB (!(isNil v9)) (K.kr [(0, .pointer (some ⟨f, 0, none⟩)), (2, v9), (4, .int .i64 x1), (5, .int .i64 x2), (10, .int .i64 x3), (11, .int .i64 x4), (14, .int .i64 x5), (15, .int .u64 x6), (16, .int .i64 x7), (17, v9)] m11) (K.kn [(0, .pointer (some ⟨f, 0, none⟩)), (4, .int .i64 x1), (5, .int .i64 x2), (10, .int .i64 x3), (11, .int .i64 x4), (14, .int .i64 x5), (15, .int .u64 x6), (16, .int .i64 x7), (17, v9)] m11)) (K.kx 11 [(0, .pointer (some ⟨f, 0, none⟩)), (4, .int .i64 x1), (5, .int .i64 x2), (10, .int .i64 x3), (11, .int .i64 x4), (14, .int .i64 x5), (15, .int .u64 x6), (16, .int .i64 x7)] m)) :
    wpc PP FF 340 L_decompressor_readHuffman c_decompressor_readHuffman_rrrrrrrrrrrrrrlrllrlrrrrrrrlll K [(0, .pointer (some ⟨f, 0, none⟩)), (4, .int .i64 x1), (5, .int .i64 x2), (10, .int .i64 x3), (11, .int .i64 x4), (14, .int .i64 x5), (15, .int .u64 x6), (16, .int .i64 x7)] m :=
  Eq.mpr (by kernel_rfl) h

def k_decompressor_readHuffman_rrrrrrrrrrrrrrlrllrlrrrrrrrrrrrrrll : List Nat := [0, 4, 5, 10, 11, 14, 16, 18]
theorem p_decompressor_readHuffman_rrrrrrrrrrrrrrlrllrlrrrrrrrrrrrrrll (f : Nat) (x1 : Int) (x2 : Int) (x3 : Int) (x4 : Int) (x5 : Int) (x6 : Int) (x7 : Int) (m : Mem) (K : Kont)
    (h : ifB (decide (x7 < x5)) (∃ (p8 : Option Addr), cell? m ⟨f, 1035, none⟩ = some (.pointer p8) ∧ onSome p8 fun p9 => (0 ≤ x3 ∧ x3 < ((316 : Nat) : Int)) ∧ StW m (aplus p9 x3.toNat) (.int .i64 x6) fun m10 => K.kn [(0, .pointer (some ⟨f, 0, none⟩)), (4, .int .i64 x1), (5, .int .i64 x2), (10, .int .i64 (IntKind.wrap .i64 (x3 + 1))), (11, .int .i64 x4), (14, .int .i64 x5), (16, .int .i64 x6), (18, .int .i64 (IntKind.wrap .i64 (x7 + 1)))] m10) (K.kx 13 [(0, .pointer (some ⟨f, 0, none⟩)), (4, .int .i64 x1), (5, .int .i64 x2), (10, .int .i64 x3), (11, .int .i64 x4), (14, .int .i64 x5), (16, .int .i64 x6), (18, .int .i64 x7)] m)) :
    wpc PP FF 340 L_decompressor_readHuffman c_decompressor_readHuffman_rrrrrrrrrrrrrrlrllrlrrrrrrrrrrrrrll K [(0, .pointer (some ⟨f, 0, none⟩)), (4, .int .i64 x1), (5, .int .i64 x2), (10, .int .i64 x3), (11, .int .i64 x4), (14, .int .i64 x5), (16, .int .i64 x6), (18, .int .i64 x7)] m :=
  Eq.mpr (by kernel_rfl) h

def k_decompressor_readHuffman_rrrrrrrrrrrr : List Nat := [0, 4, 5, 6]
theorem p_decompressor_readHuffman_rrrrrrrrrrrr (f : Nat) (x1 : Int) (x2 : Int) (x3 : Int) (m : Mem) (K : Kont)
    (h : WPS PP 340 c_decompressor_readHuffman_rrrrrrrrrrrrlrl ((K.withN fun r m => WPS PP 340 c_decompressor_readHuffman_rrrrrrrrrrrrr K r m).withX 6) [(0, .pointer (some ⟨f, 0, none⟩)), (4, .int .i64 x1), (5, .int .i64 x2), (6, .int .i64 x3), (9, .int .i64 x3)] m) :
    wpc PP FF 340 L_decompressor_readHuffman c_decompressor_readHuffman_rrrrrrrrrrrr K [(0, .pointer (some ⟨f, 0, none⟩)), (4, .int .i64 x1), (5, .int .i64 x2), (6, .int .i64 x3)] m :=
  Eq.mpr (by kernel_rfl) h

def k_decompressor_readHuffman_rrrrrrrrrrrlrllrr : List Nat := [0, 4, 5, 6, 7]
theorem p_decompressor_readHuffman_rrrrrrrrrrrlrllrr (f : Nat) (x1 : Int) (x2 : Int) (x3 : Int) (x4 : Int) (m : Mem) (K : Kont)
    (h : K.kn [(0, .pointer (some ⟨f, 0, none⟩)), (4, .int .i64 x1), (5, .int .i64 x2), (6, .int .i64 x3), (7, .int .i64 (IntKind.wrap .i64 (x4 + 1)))] m) :
    wpc PP FF 340 L_decompressor_readHuffman c_decompressor_readHuffman_rrrrrrrrrrrlrllrr K [(0, .pointer (some ⟨f, 0, none⟩)), (4, .int .i64 x1), (5, .int .i64 x2), (6, .int .i64 x3), (7, .int .i64 x4)] m :=
  Eq.mpr (by kernel_rfl) h

def k_decompressor_readHuffman_rrrrrrrrrrrlrllrllr : List Nat := [0, 4, 5, 6, 7]
theorem p_decompressor_readHuffman_rrrrrrrrrrrlrllrllr (f : Nat) (x1 : Int) (x2 : Int) (x3 : Int) (x4 : Int) (m : Mem) (K : Kont)
    (h : ∃ (p5 : Option Addr), cell? m ⟨f, 1036, none⟩ = some (.pointer p5) ∧ (0 ≤ x4 ∧ x4 < ((19 : Nat) : Int)) ∧ ∃ (x6 : Int), cell? m ⟨g_inflate_codeOrder, 0 + x4.toNat, none⟩ = some (.int .i64 x6) ∧ ∃ (x7 : Int), cell? m ⟨f, 3, none⟩ = some (.int .u32 x7) ∧ IntKind.u32 = IntKind.u32 ∧ onSome p5 fun p8 => (0 ≤ x6 ∧ x6 < ((19 : Nat) : Int)) ∧ StW m (aplus p8 x6.toNat) (.int .i64 (IntKind.wrap .i64 (bitsOp .and .u32 x7 7))) fun m9 => ∃ (x10 : Int), cell? m9 ⟨f, 3, none⟩ = some (.int .u32 x10) ∧ 0 ≤ (3 : Int) ∧ StW m9 ⟨f, 3, none⟩ (.int .u32 (shrOp .u32 x10 3)) fun m11 => ∃ (x12 : Int), cell? m11 ⟨f, 4, none⟩ = some (.int .u64 x12) ∧ StW m11 ⟨f, 4, none⟩ (.int .u64 (IntKind.wrap .u64 (x12 - 3))) fun m13 => K.kn [(0, .pointer (some ⟨f, 0, none⟩)), (4, .int .i64 x1), (5, .int .i64 x2), (6, .int .i64 x3), (7, .int .i64 x4)] m13) :
    wpc PP FF 340 L_decompressor_readHuffman c_decompressor_readHuffman_rrrrrrrrrrrlrllrllr K [(0, .pointer (some ⟨f, 0, none⟩)), (4, .int .i64 x1), (5, .int .i64 x2), (6, .int .i64 x3), (7, .int .i64 x4)] m :=
  Eq.mpr (by kernel_rfl) h

def k_decompressor_readHuffman_rrrrrrrrrrrrrrlrllrlrrrrrrr : List Nat := [0, 4, 5, 10, 11, 14, 15, 16]
theorem p_decompressor_readHuffman_rrrrrrrrrrrrrrlrllrlrrrrrrr (f : Nat) (x1 : Int) (x2 : Int) (x3 : Int) (x4 : Int) (x5 : Int) (x6 : Int) (x7 : Int) (m : Mem) (K : Kont)
    (h : WPS PP 340 c_decompressor_readHuffman_rrrrrrrrrrrrrrlrllrlrrrrrrrll ((K.withN fun r m => WPS PP 340 c_decompressor_readHuffman_rrrrrrrrrrrrrrlrllrlrrrrrrrr K r m).withX 11) [(0, .pointer (some ⟨f, 0, none⟩)), (4, .int .i64 x1), (5, .int .i64 x2), (10, .int .i64 x3), (11, .int .i64 x4), (14, .int .i64 x5), (15, .int .u64 x6), (16, .int .i64 x7)] m) :
    wpc PP FF 340 L_decompressor_readHuffman c_decompressor_readHuffman_rrrrrrrrrrrrrrlrllrlrrrrrrr K [(0, .pointer (some ⟨f, 0, none⟩)), (4, .int .i64 x1), (5, .int .i64 x2), (10, .int .i64 x3), (11, .int .i64 x4), (14, .int .i64 x5), (15, .int .u64 x6), (16, .int .i64 x7)] m :=
  Eq.mpr (by kernel_rfl) h

def k_decompressor_readHuffman_rrrrrrrrrrrrr : List Nat := [0, 4, 5]
theorem p_decompressor_readHuffman_rrrrrrrrrrrrr (f : Nat) (x1 : Int) (x2 : Int) (m : Mem) (K : Kont)
    (h : ∃ (p3 : Option Addr), cell? m ⟨f, 1036, none⟩ = some (.pointer p3) ∧ onSome p3 fun p4 => (0 ≤ (0 : Int) ∧ (0 : Int) ≤ (19 : Int)) ∧ CallM PP f_huffmanDecoder_init #[.pointer (some ⟨f, 5, none⟩), .slice (some (aplus p4 0)) 19 19] m fun v6 m7 => ∃ (b5 : Bool), v6 = .bool b5 ∧ ifB (!b5) (∃ (x8 : Int), cell? m7 ⟨f, 2, none⟩ = some (.int .i64 x8) ∧ K.kr [(0, .pointer (some ⟨f, 0, none⟩)), (2, .iface t_flate_CorruptInputError (.int .i64 x8)), (4, .int .i64 x1), (5, .int .i64 x2)] m7) (WPS PP 340 c_decompressor_readHuffman_rrrrrrrrrrrrrrlrl ((K.withN fun r m => WPS PP 340 c_decompressor_readHuffman_rrrrrrrrrrrrrrr K r m).withX 8) [(0, .pointer (some ⟨f, 0, none⟩)), (4, .int .i64 x1), (5, .int .i64 x2), (10, .int .i64 0), (11, .int .i64 (IntKind.wrap .i64 (x1 + x2)))] m7)) :
    wpc PP FF 340 L_decompressor_readHuffman c_decompressor_readHuffman_rrrrrrrrrrrrr K [(0, .pointer (some ⟨f, 0, none⟩)), (4, .int .i64 x1), (5, .int .i64 x2)] m :=
  Eq.mpr (by kernel_rfl) h

def k_decompressor_readHuffman_rrrrrrrrrrrrrrlrllrlrrrrrrrr : List Nat := [0, 4, 5, 10, 11, 14, 15, 16]
theorem p_decompressor_readHuffman_rrrrrrrrrrrrrrlrllrlrrrrrrrr (f : Nat) (x1 : Int) (x2 : Int) (x3 : Int) (x4 : Int) (x5 : Int) (x6 : Int) (x7 : Int) (m : Mem) (K : Kont)
    (h : ∃ (x8 : Int), cell? m ⟨f, 3, none⟩ = some (.int .u32 x8) ∧ 0 ≤ x6 ∧ IntKind.u32 = IntKind.u32 ∧ ∃ (x9 : Int), cell? m ⟨f, 3, none⟩ = some (.int .u32 x9) ∧ 0 ≤ x6 ∧ StW m ⟨f, 3, none⟩ (.int .u32 (shrOp .u32 x9 x6)) fun m10 => ∃ (x11 : Int), cell? m10 ⟨f, 4, none⟩ = some (.int .u64 x11) ∧ StW m10 ⟨f, 4, none⟩ (.int .u64 (IntKind.wrap .u64 (x11 - x6))) fun m12 => ifB (decide ((IntKind.wrap .i64 (x3 + (IntKind.wrap .i64 (x5 + (IntKind.wrap .i64 (bitsOp .and .u32 x8 (IntKind.wrap .u32 ((shlOp .u32 1 x6) - 1)))))))) > x4)) (∃ (x13 : Int), cell? m12 ⟨f, 2, none⟩ = some (.int .i64 x13) ∧ K.kr [(0, .pointer (some ⟨f, 0, none⟩)), (2, .iface t_flate_CorruptInputError (.int .i64 x13)), (4, .int .i64 x1), (5, .int .i64 x2), (10, .int .i64 x3), (11, .int .i64 x4), (14, .int .i64 (IntKind.wrap .i64 (x5 + (IntKind.wrap .i64 (bitsOp .and .u32 x8 (IntKind.wrap .u32 ((shlOp .u32 1 x6) - 1))))))), (15, .int .u64 x6), (16, .int .i64 x7)] m12) (WPS PP 340 c_decompressor_readHuffman_rrrrrrrrrrrrrrlrllrlrrrrrrrrrrrrrl (K.withX 13) [(0, .pointer (some ⟨f, 0, none⟩)), (4, .int .i64 x1), (5, .int .i64 x2), (10, .int .i64 x3), (11, .int .i64 x4), (14, .int .i64 (IntKind.wrap .i64 (x5 + (IntKind.wrap .i64 (bitsOp .and .u32 x8 (IntKind.wrap .u32 ((shlOp .u32 1 x6) - 1))))))), (15, .int .u64 x6), (16, .int .i64 x7), (18, .int .i64 0)] m12)) :
    wpc PP FF 340 L_decompressor_readHuffman c_decompressor_readHuffman_rrrrrrrrrrrrrrlrllrlrrrrrrrr K [(0, .pointer (some ⟨f, 0, none⟩)), (4, .int .i64 x1), (5, .int .i64 x2), (10, .int .i64 x3), (11, .int .i64 x4), (14, .int .i64 x5), (15, .int .u64 x6), (16, .int .i64 x7)] m :=
  Eq.mpr (by kernel_rfl) h

def k_decompressor_readHuffman_rrrrrrrrrrrrrrr : List Nat := [0, 4, 5]
theorem p_decompressor_readHuffman_rrrrrrrrrrrrrrr (f : Nat) (x1 : Int) (x2 : Int) (m : Mem) (K : Kont)
    (h : ∃ (p3 : Option Addr), cell? m ⟨f, 1035, none⟩ = some (.pointer p3) ∧ onSome p3 fun p4 => (0 ≤ x1 ∧ x1 ≤ (316 : Int)) ∧ (0 ≤ (0 : Int) ∧ (0 : Int) ≤ x1) ∧ CallM PP f_huffmanDecoder_init #[.pointer (some ⟨f, 5, none⟩), .slice (some (aplus p4 0)) (x1.toNat - 0) 316] m fun v6 m7 => ∃ (b5 : Bool), v6 = .bool b5 ∧ ifB (!b5) (∃ (x8 : Int), cell? m7 ⟨f, 2, none⟩ = some (.int .i64 x8) ∧ K.kr [(0, .pointer (some ⟨f, 0, none⟩)), (2, .iface t_flate_CorruptInputError (.int .i64 x8)), (4, .int .i64 x1), (5, .int .i64 x2)] m7) (∃ (p9 : Option Addr), cell? m7 ⟨f, 1035, none⟩ = some (.pointer p9) ∧ onSome p9 fun p10 => (0 ≤ (IntKind.wrap .i64 (x1 + x2)) ∧ (IntKind.wrap .i64 (x1 + x2)) ≤ (316 : Int)) ∧ (0 ≤ x1 ∧ x1 ≤ (IntKind.wrap .i64 (x1 + x2))) ∧ CallM PP f_huffmanDecoder_init #[.pointer (some ⟨f, 520, none⟩), .slice (some (if 316 = x1.toNat then p10 else aplus p10 x1.toNat)) ((IntKind.wrap .i64 (x1 + x2)).toNat - x1.toNat) (316 - x1.toNat)] m7 fun v12 m13 => ∃ (b11 : Bool), v12 = .bool b11 ∧ ifB (!b11) (∃ (x14 : Int), cell? m13 ⟨f, 2, none⟩ = some (.int .i64 x14) ∧ K.kr [(0, .pointer (some ⟨f, 0, none⟩)), (2, .iface t_flate_CorruptInputError (.int .i64 x14)), (4, .int .i64 x1), (5, .int .i64 x2)] m13) (∃ (x15 : Int), cell? m13 ⟨f, 5, none⟩ = some (.int .i64 x15) ∧ ∃ (p16 : Option Addr), cell? m13 ⟨f, 1035, none⟩ = some (.pointer p16) ∧ onSome p16 fun p17 => (0 ≤ (256 : Int) ∧ (256 : Int) < ((316 : Nat) : Int)) ∧ ∃ (x18 : Int), cell? m13 (aplus p17 256) = some (.int .i64 x18) ∧ ifB (decide (x15 < x18)) (∃ (p19 : Option Addr), cell? m13 ⟨f, 1035, none⟩ = some (.pointer p19) ∧ onSome p19 fun p20 => (0 ≤ (256 : Int) ∧ (256 : Int) < ((316 : Nat) : Int)) ∧ ∃ (x21 : Int), cell? m13 (aplus p20 256) = some (.int .i64 x21) ∧ StW m13 ⟨f, 5, none⟩ (.int .i64 x21) fun m22 => WPS PP 340 c_decompressor_readHuffman_rrrrrrrrrrrrrrrrr K [(0, .pointer (some ⟨f, 0, none⟩)), (4, .int .i64 x1), (5, .int .i64 x2)] m22) (WPS PP 340 c_decompressor_readHuffman_rrrrrrrrrrrrrrrrr K [(0, .pointer (some ⟨f, 0, none⟩)), (4, .int .i64 x1), (5, .int .i64 x2)] m13)))) :
    wpc PP FF 340 L_decompressor_readHuffman c_decompressor_readHuffman_rrrrrrrrrrrrrrr K [(0, .pointer (some ⟨f, 0, none⟩)), (4, .int .i64 x1), (5, .int .i64 x2)] m :=
  Eq.mpr (by kernel_rfl) h

def k_decompressor_readHuffman_rrrrrrrrrrrrrrrrr : List Nat := []
theorem p_decompressor_readHuffman_rrrrrrrrrrrrrrrrr  (m : Mem) (K : Kont)
    (h : K.kr [(2, .nilIface)] m  ) :
    wpc PP FF 340 L_decompressor_readHuffman c_decompressor_readHuffman_rrrrrrrrrrrrrrrrr K [] m :=
  Eq.mpr (by kernel_rfl) h

end Go.M
