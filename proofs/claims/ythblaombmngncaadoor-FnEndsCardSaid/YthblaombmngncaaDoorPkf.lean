/- What pieces of the code come to. -/
import Derived.Test.YthblaombmngncaaDoorPke
set_option maxRecDepth 100000
namespace Go.M
open Go Go.Proofs
/-! loop.example/pub-inflation/laws.FnEnds -/
def L_laws_FnEnds : List Nat := [0, 2, 3, 4, 7, 10]
def r_laws_FnEnds : List ResultVar := [.tmp 2]
noncomputable def c_laws_FnEnds : Code := (Go.Proofs.Tryd.f3.body).getD .skip
theorem b_laws_FnEnds : Go.Proofs.Tryd.f3.body = some c_laws_FnEnds := by kernel_rfl
theorem e_laws_FnEnds (a1 : Option Addr) (l2 : Nat) (k3 : Nat) (m : Mem) (R : Value → Mem → Prop)
    (h : ifB (decide ((l2 : Int) > 2147483647)) (R (.bool true) m) (ifB (decide ((l2 : Int) > 16777216)) (R (.bool true) m) (CallM PP f_impl_All #[.slice a1 l2 k3, .int .i64 2000] m fun v8 m9 => ∃ (a4 : Option Addr), ∃ (l5 : Nat), ∃ (k6 : Nat), ∃ (x7 : Int), v8 = .tuple #[.slice a4 l5 k6, .int .i64 x7] ∧ ifB (x7 != 0) (R (.bool true) m9) (R (.bool (decide ((l5 : Int) > 2000))) m9)))) :
    CallM PP f_laws_FnEnds #[.slice a1 l2 k3] m R :=
  callM_enter ffOk mixedOk 23 L_laws_FnEnds Tryd.func3 b_laws_FnEnds Tryd.ntmps3 (by simp) (Eq.mpr (by kernel_rfl) h)

/-! loop.example/pub-inflation/laws.FnNothing -/
def L_laws_FnNothing : List Nat := [0, 2, 3, 4, 5, 6, 9, 12]
def r_laws_FnNothing : List ResultVar := [.tmp 2]
noncomputable def c_laws_FnNothing : Code := (Go.Proofs.Tryd.f4.body).getD .skip
theorem b_laws_FnNothing : Go.Proofs.Tryd.f4.body = some c_laws_FnNothing := by kernel_rfl
theorem e_laws_FnNothing (a1 : Option Addr) (l2 : Nat) (k3 : Nat) (m : Mem) (R : Value → Mem → Prop)
    (h : ifB (decide ((l2 : Int) > 2147483647)) (R (.bool true) m) (ifB (decide ((l2 : Int) > 16777216)) (R (.bool true) m) (CallM PP f_impl_All #[.slice none 0 0, .int .i64 131072] m fun v8 m9 => ∃ (a4 : Option Addr), ∃ (l5 : Nat), ∃ (k6 : Nat), ∃ (x7 : Int), v8 = .tuple #[.slice a4 l5 k6, .int .i64 x7] ∧ CallM PP f_impl_Left #[.slice none 0 0, .int .i64 131072] m9 fun v12 m13 => ∃ (x10 : Int), ∃ (x11 : Int), v12 = .tuple #[.int .i64 x10, .int .i64 x11] ∧ ifB ((l5 : Int) == 0) (ifB (x7 != 0) (ifB (x7 != 1) (ifB (x10 == 0) (R (.bool (x11 == x7)) m13) (R (.bool false) m13)) (R (.bool false) m13)) (R (.bool false) m13)) (R (.bool false) m13)))) :
    CallM PP f_laws_FnNothing #[.slice a1 l2 k3] m R :=
  callM_enter ffOk mixedOk 41 L_laws_FnNothing Tryd.func4 b_laws_FnNothing Tryd.ntmps4 (by simp) (Eq.mpr (by kernel_rfl) h)

/-! loop.example/pub-inflation/impl.All -/
def L_impl_All : List Nat := [0, 1, 4, 5]
def r_impl_All : List ResultVar := [.tmp 4, .tmp 5]
noncomputable def c_impl_All : Code := (Go.Proofs.Tryd.f5.body).getD .skip
theorem b_impl_All : Go.Proofs.Tryd.f5.body = some c_impl_All := by kernel_rfl
theorem e_impl_All (a1 : Option Addr) (l2 : Nat) (k3 : Nat) (x4 : Int) (m : Mem) (R : Value → Mem → Prop)
    (h : CallM PP f_impl_source #[.slice a1 l2 k3] m fun v6 m7 => ∃ (p5 : Option Addr), v6 = .pointer p5 ∧ CallM PP f_inflate_NewReader #[.iface t_p_bytes_Reader (.pointer p5)] m7 fun v9 m10 => ∃ (v8 : Value), v9 = v8 ∧ CallM PP f_impl_all #[v8, .int .i64 x4] m10 fun v15 m16 => ∃ (a11 : Option Addr), ∃ (l12 : Nat), ∃ (k13 : Nat), ∃ (x14 : Int), v15 = .tuple #[.slice a11 l12 k13, .int .i64 x14] ∧ R (.tuple #[.slice a11 l12 k13, .int .i64 x14]) m16) :
    CallM PP f_impl_All #[.slice a1 l2 k3, .int .i64 x4] m R :=
  callM_enter ffOk mixedOk 14 L_impl_All Tryd.func5 b_impl_All Tryd.ntmps5 (by simp) (Eq.mpr (by kernel_rfl) h)

/-! loop.example/pub-inflation/impl.Left -/
def L_impl_Left : List Nat := [0, 1, 4, 5, 6, 8]
def r_impl_Left : List ResultVar := [.tmp 4, .tmp 5]
noncomputable def c_impl_Left : Code := (Go.Proofs.Tryd.f6.body).getD .skip
theorem b_impl_Left : Go.Proofs.Tryd.f6.body = some c_impl_Left := by kernel_rfl
theorem e_impl_Left (a1 : Option Addr) (l2 : Nat) (k3 : Nat) (x4 : Int) (m : Mem) (R : Value → Mem → Prop)
    (h : CallM PP f_impl_source #[.slice a1 l2 k3] m fun v6 m7 => ∃ (p5 : Option Addr), v6 = .pointer p5 ∧ CallM PP f_inflate_NewReader #[.iface t_p_bytes_Reader (.pointer p5)] m7 fun v9 m10 => ∃ (v8 : Value), v9 = v8 ∧ CallM PP f_impl_all #[v8, .int .i64 x4] m10 fun v15 m16 => ∃ (a11 : Option Addr), ∃ (l12 : Nat), ∃ (k13 : Nat), ∃ (x14 : Int), v15 = .tuple #[.slice a11 l12 k13, .int .i64 x14] ∧ CallM PP f_bytes_Reader_Len #[.pointer p5] m16 fun v18 m19 => ∃ (x17 : Int), v18 = .int .i64 x17 ∧ R (.tuple #[.int .i64 x17, .int .i64 x14]) m19) :
    CallM PP f_impl_Left #[.slice a1 l2 k3, .int .i64 x4] m R :=
  callM_enter ffOk mixedOk 22 L_impl_Left Tryd.func6 b_impl_Left Tryd.ntmps6 (by simp) (Eq.mpr (by kernel_rfl) h)

/-! loop.example/pub-inflation/impl.all -/
def L_impl_all : List Nat := [0, 1, 4, 5, 6, 7, 8, 9, 14, 27]
def r_impl_all : List ResultVar := [.tmp 4, .tmp 5]
noncomputable def c_impl_all : Code := (Go.Proofs.Tryd.f7.body).getD .skip
theorem b_impl_all : Go.Proofs.Tryd.f7.body = some c_impl_all := by kernel_rfl
noncomputable def c_impl_all_rrrr : Code := (rgt (rgt (rgt (rgt c_impl_all))))
noncomputable def c_impl_all_rrrll : Code := (lft (lft (rgt (rgt (rgt c_impl_all)))))
noncomputable def c_impl_all_rrrlll : Code := (lft c_impl_all_rrrll)
theorem q_impl_all_rrrll : c_impl_all_rrrll = .loop c_impl_all_rrrlll := by kernel_rfl
/- the loop at rrrll: slots [0, 1, 6, 7] -/
theorem e_impl_all (v1 : Value) (x2 : Int) (m : Mem) (R : Value → Mem → Prop)
    (h : SemW PP (sv (Instr.makeSlice t_s_uint8 (.int .i64 1000) (.int .i64 1000))) m (NextW PP fun v6 m7 => ∃ (a3 : Option Addr), ∃ (l4 : Nat), ∃ (k5 : Nat), v6 = .slice a3 l4 k5 ∧ WPS PP 32 c_impl_all_rrrll (((retK PP r_impl_all R).withN fun r m => WPS PP 32 c_impl_all_rrrr (retK PP r_impl_all R) r m).withX 0) [(0, v1), (1, .int .i64 x2), (4, .slice none 0 0), (5, .int .i64 0), (6, .slice none 0 0), (7, .slice a3 l4 k5)] m7)) :
    CallM PP f_impl_all #[v1, .int .i64 x2] m R :=
  callM_enter ffOk mixedOk 32 L_impl_all Tryd.func7 b_impl_all Tryd.ntmps7 (by simp) (Eq.mpr (by kernel_rfl) h)

def k_impl_all_rrrr : List Nat := [6]
theorem p_impl_all_rrrr (a1 : Option Addr) (l2 : Nat) (k3 : Nat) (m : Mem) (K : Kont)
    (h : K.kr [(4, .slice a1 l2 k3), (5, .int .i64 0), (6, .slice a1 l2 k3)] m) :
    wpc PP FF 32 L_impl_all c_impl_all_rrrr K [(6, .slice a1 l2 k3)] m :=
  Eq.mpr (by kernel_rfl) h

def k_impl_all_rrrlll : List Nat := [0, 1, 6, 7]
theorem p_impl_all_rrrlll (v1 : Value) (x2 : Int) (a3 : Option Addr) (l4 : Nat) (k5 : Nat) (a6 : Option Addr) (l7 : Nat) (k8 : Nat) (m : Mem) (K : Kont)
    (h : ifB (decide ((l4 : Int) ≤ x2)) (SemW PP (callMethod v1 "Read" #[.slice a6 l7 k8]) m (NextW PP fun v11 m12 => ∃ (x9 : Int), ∃ (v10 : Value), v11 = .tuple #[.int .i64 x9, v10] ∧ l7 ≤ k8 ∧ (0 ≤ x9 ∧ x9 ≤ (k8 : Int)) ∧ SemW PP (builtin .append #[t_s_uint8, t_s_uint8] t_s_uint8 #[false, false] #[.slice a3 l4 k5, .slice a6 x9.toNat k8]) m12 (NextW PP fun v16 m17 => ∃ (a13 : Option Addr), ∃ (l14 : Nat), ∃ (k15 : Nat), v16 = .slice a13 l14 k15 ∧ isIfc v10 = true ∧ ifB (!(isNil v10)) (CallM PP f_impl_code #[v10] m17 fun v19 m20 => ∃ (x18 : Int), v19 = .int .i64 x18 ∧ K.kr [(0, v1), (1, .int .i64 x2), (4, .slice a13 l14 k15), (5, .int .i64 x18), (6, .slice a13 l14 k15), (7, .slice a6 l7 k8), (8, .int .i64 x9), (9, v10)] m20) (K.kn [(0, v1), (1, .int .i64 x2), (6, .slice a13 l14 k15), (7, .slice a6 l7 k8), (8, .int .i64 x9), (9, v10)] m17)))) (K.kx 0 [(0, v1), (1, .int .i64 x2), (6, .slice a3 l4 k5), (7, .slice a6 l7 k8)] m)) :
    wpc PP FF 32 L_impl_all c_impl_all_rrrlll K [(0, v1), (1, .int .i64 x2), (6, .slice a3 l4 k5), (7, .slice a6 l7 k8)] m :=
  Eq.mpr (by kernel_rfl) h

/-! loop.example/pub-inflation/pub/inflate.NewReader -/
def L_inflate_NewReader : List Nat := [0, 2, 3]
def r_inflate_NewReader : List ResultVar := [.tmp 2]
noncomputable def c_inflate_NewReader : Code := (Go.Proofs.Tryd.f8.body).getD .skip
theorem b_inflate_NewReader : Go.Proofs.Tryd.f8.body = some c_inflate_NewReader := by kernel_rfl
theorem e_inflate_NewReader (v1 : Value) (m : Mem) (R : Value → Mem → Prop)
    (h : AllocW PP t_flate_decompressor m fun n2 m3 => CallM PP f_decompressor_makeReader #[.pointer (some ⟨n2, 0, none⟩), v1] m3 fun v4 m5 => v4 = .tuple #[] ∧ AllocW PP t_316_int m5 fun n6 m7 => StW m7 ⟨n2, 1035, none⟩ (.pointer (some ⟨n6, 0, none⟩)) fun m8 => AllocW PP t_19_int m8 fun n9 m10 => StW m10 ⟨n2, 1036, none⟩ (.pointer (some ⟨n9, 0, none⟩)) fun m11 => StW m11 ⟨n2, 1045, none⟩ (.func (.func f_decompressor_nextBlock) #[] #[]) fun m12 => CallM PP f_dictDecoder_init #[.pointer (some ⟨n2, 1037, none⟩), .int .i64 32768, .slice none 0 0] m12 fun v13 m14 => v13 = .tuple #[] ∧ R (.iface t_p_flate_decompressor (.pointer (some ⟨n2, 0, none⟩))) m14) :
    CallM PP f_inflate_NewReader #[v1] m R :=
  callM_enter ffOk mixedOk 14 L_inflate_NewReader Tryd.func8 b_inflate_NewReader Tryd.ntmps8 (by simp) (Eq.mpr (by kernel_rfl) h)

/-! loop.example/pub-inflation/impl.source -/
def L_impl_source : List Nat := [0, 2]
def r_impl_source : List ResultVar := [.tmp 2]
noncomputable def c_impl_source : Code := (Go.Proofs.Tryd.f9.body).getD .skip
theorem b_impl_source : Go.Proofs.Tryd.f9.body = some c_impl_source := by kernel_rfl
theorem e_impl_source (a1 : Option Addr) (l2 : Nat) (k3 : Nat) (m : Mem) (R : Value → Mem → Prop)
    (h : SemW PP (sv (Instr.buildSlice t_s_uint8 0 #[])) m (NextW PP fun v7 m8 => ∃ (a4 : Option Addr), ∃ (l5 : Nat), ∃ (k6 : Nat), v7 = .slice a4 l5 k6 ∧ SemW PP (builtin .append #[t_s_uint8, t_s_uint8] t_s_uint8 #[false, false] #[.slice a4 l5 k6, .slice a1 l2 k3]) m8 (NextW PP fun v12 m13 => ∃ (a9 : Option Addr), ∃ (l10 : Nat), ∃ (k11 : Nat), v12 = .slice a9 l10 k11 ∧ CallM PP f_bytes_NewReader #[.slice a9 l10 k11] m13 fun v15 m16 => ∃ (p14 : Option Addr), v15 = .pointer p14 ∧ R (.pointer p14) m16))) :
    CallM PP f_impl_source #[.slice a1 l2 k3] m R :=
  callM_enter ffOk mixedOk 7 L_impl_source Tryd.func9 b_impl_source Tryd.ntmps9 (by simp) (Eq.mpr (by kernel_rfl) h)

/-! (*bytes.Reader).Len -/
def L_bytes_Reader_Len : List Nat := [0, 2, 12]
def r_bytes_Reader_Len : List ResultVar := [.tmp 2]
noncomputable def c_bytes_Reader_Len : Code := (Go.Proofs.Tryd.f10.body).getD .skip
theorem b_bytes_Reader_Len : Go.Proofs.Tryd.f10.body = some c_bytes_Reader_Len := by kernel_rfl
theorem e_bytes_Reader_Len (b : Nat) (m : Mem) (R : Value → Mem → Prop)
    (h : ∃ (x1 : Int), cell? m ⟨b, 1, none⟩ = some (.int .i64 x1) ∧ ∃ (a2 : Option Addr), ∃ (l3 : Nat), ∃ (k4 : Nat), cell? m ⟨b, 0, none⟩ = some (.slice a2 l3 k4) ∧ ifB (decide (x1 ≥ (l3 : Int))) (R (.int .i64 0) m) (∃ (a5 : Option Addr), ∃ (l6 : Nat), ∃ (k7 : Nat), cell? m ⟨b, 0, none⟩ = some (.slice a5 l6 k7) ∧ ∃ (x8 : Int), cell? m ⟨b, 1, none⟩ = some (.int .i64 x8) ∧ R (.int .i64 (IntKind.wrap .i64 ((l6 : Int) - x8))) m)  ) :
    CallM PP f_bytes_Reader_Len #[.pointer (some ⟨b, 0, none⟩)] m R :=
  callM_enter ffOk mixedOk 23 L_bytes_Reader_Len Tryd.func10 b_bytes_Reader_Len Tryd.ntmps10 (by simp) (Eq.mpr (by kernel_rfl) h)

/-! loop.example/pub-inflation/impl.code -/
def L_impl_code : List Nat := [0, 2, 3, 4, 7, 11, 15]
def r_impl_code : List ResultVar := [.tmp 2]
noncomputable def c_impl_code : Code := (Go.Proofs.Tryd.f11.body).getD .skip
theorem b_impl_code : Go.Proofs.Tryd.f11.body = some c_impl_code := by kernel_rfl
theorem e_impl_code (v1 : Value) (m : Mem) (R : Value → Mem → Prop)
    (h : AllocW PP t_flate_CorruptInputError m fun n2 m3 => isIfc v1 = true ∧ ifB (isNil v1) (R (.int .i64 0) m3) (∃ (v4 : Value), cell? m3 ⟨g_io_EOF, 0, none⟩ = some (v4) ∧ ReadW PP m3 (do eqGuard .eql t_error (.tmp 8) (.tmp 9) v1 v4; binOp .eql t_error v1 v4) fun u6 => ∃ (b5 : Bool), u6 = .bool b5 ∧ ifB b5 (R (.int .i64 1) m3) (∃ (v7 : Value), cell? m3 ⟨g_io_ErrUnexpectedEOF, 0, none⟩ = some (v7) ∧ ReadW PP m3 (do eqGuard .eql t_error (.tmp 12) (.tmp 13) v1 v7; binOp .eql t_error v1 v7) fun u9 => ∃ (b8 : Bool), u9 = .bool b8 ∧ ifB b8 (R (.int .i64 2) m3) (CallM PP f_errors_As #[v1, .iface t_p_flate_CorruptInputError (.pointer (some ⟨n2, 0, none⟩))] m3 fun v11 m12 => ∃ (b10 : Bool), v11 = .bool b10 ∧ ifB b10 (R (.int .i64 3) m12) (R (.int .i64 4) m12))))) :
    CallM PP f_impl_code #[v1] m R :=
  callM_enter ffOk mixedOk 19 L_impl_code Tryd.func11 b_impl_code Tryd.ntmps11 (by simp) (Eq.mpr (by kernel_rfl) h)

/-! (*loop.example/pub-inflation/pub/inflate.decompressor).makeReader -/
def L_decompressor_makeReader : List Nat := [0, 1, 4, 5, 11, 23]
def r_decompressor_makeReader : List ResultVar := []
noncomputable def c_decompressor_makeReader : Code := (Go.Proofs.Tryd.f12.body).getD .skip
theorem b_decompressor_makeReader : Go.Proofs.Tryd.f12.body = some c_decompressor_makeReader := by kernel_rfl
noncomputable def c_decompressor_makeReader_rr : Code := (rgt (rgt c_decompressor_makeReader))
theorem e_decompressor_makeReader (f : Nat) (v1 : Value) (m : Mem) (R : Value → Mem → Prop)
    (h : PureW PP (Instr.typeAssert v1 t_io_Reader t_flate_Reader true) fun u4 => ∃ (v2 : Value), ∃ (b3 : Bool), u4 = .tuple #[v2, .bool b3] ∧ ifB b3 (StW m ⟨f, 1, none⟩ (.pointer none) fun m5 => StW m5 ⟨f, 0, none⟩ v2 fun m6 => R (.tuple #[]) m6) (∃ (p7 : Option Addr), cell? m ⟨f, 1, none⟩ = some (.pointer p7) ∧ ifB (!p7.isNone) (∃ (p8 : Option Addr), cell? m ⟨f, 1, none⟩ = some (.pointer p8) ∧ CallM PP f_bufio_Reader_Reset #[.pointer p8, v1] m fun v9 m10 => v9 = .tuple #[] ∧ WPS PP 43 c_decompressor_makeReader_rr (retK PP r_decompressor_makeReader R) [(0, .pointer (some ⟨f, 0, none⟩)), (1, v1), (4, v2), (5, .bool b3)] m10) (CallM PP f_bufio_NewReader #[v1] m fun v12 m13 => ∃ (p11 : Option Addr), v12 = .pointer p11 ∧ StW m13 ⟨f, 1, none⟩ (.pointer p11) fun m14 => WPS PP 43 c_decompressor_makeReader_rr (retK PP r_decompressor_makeReader R) [(0, .pointer (some ⟨f, 0, none⟩)), (1, v1), (4, v2), (5, .bool b3)] m14))) :
    CallM PP f_decompressor_makeReader #[.pointer (some ⟨f, 0, none⟩), v1] m R :=
  callM_enter ffOk mixedOk 43 L_decompressor_makeReader Tryd.func12 b_decompressor_makeReader Tryd.ntmps12 (by simp) (Eq.mpr (by kernel_rfl) h)

def k_decompressor_makeReader_rr : List Nat := [0]
theorem p_decompressor_makeReader_rr (f : Nat) (m : Mem) (K : Kont)
    (h : ∃ (p1 : Option Addr), cell? m ⟨f, 1, none⟩ = some (.pointer p1) ∧ StW m ⟨f, 0, none⟩ (.iface t_p_bufio_Reader (.pointer p1)) fun m2 => K.kn [(0, .pointer (some ⟨f, 0, none⟩))] m2  ) :
    wpc PP FF 43 L_decompressor_makeReader c_decompressor_makeReader_rr K [(0, .pointer (some ⟨f, 0, none⟩))] m :=
  Eq.mpr (by kernel_rfl) h

/-! (*loop.example/pub-inflation/pub/inflate.decompressor).nextBlock -/
def L_decompressor_nextBlock : List Nat := [0, 2, 7, 17, 53, 62, 66, 77, 88]
def r_decompressor_nextBlock : List ResultVar := []
noncomputable def c_decompressor_nextBlock : Code := (Go.Proofs.Tryd.f13.body).getD .skip
theorem b_decompressor_nextBlock : Go.Proofs.Tryd.f13.body = some c_decompressor_nextBlock := by kernel_rfl
noncomputable def c_decompressor_nextBlock_r : Code := (rgt c_decompressor_nextBlock)
noncomputable def c_decompressor_nextBlock_ll : Code := (lft (lft c_decompressor_nextBlock))
noncomputable def c_decompressor_nextBlock_lll : Code := (lft c_decompressor_nextBlock_ll)
theorem q_decompressor_nextBlock_ll : c_decompressor_nextBlock_ll = .loop c_decompressor_nextBlock_lll := by kernel_rfl
/- the loop at ll: slots [0] -/
theorem e_decompressor_nextBlock (f : Nat) (m : Mem) (R : Value → Mem → Prop)
    (h : WPS PP 103 c_decompressor_nextBlock_ll (((retK PP r_decompressor_nextBlock R).withN fun r m => WPS PP 103 c_decompressor_nextBlock_r (retK PP r_decompressor_nextBlock R) r m).withX 0) [(0, .pointer (some ⟨f, 0, none⟩))] m  ) :
    CallM PP f_decompressor_nextBlock #[.pointer (some ⟨f, 0, none⟩)] m R :=
  callM_enter ffOk mixedOk 103 L_decompressor_nextBlock Tryd.func13 b_decompressor_nextBlock Tryd.ntmps13 (by simp) (Eq.mpr (by kernel_rfl) h)

def k_decompressor_nextBlock_r : List Nat := [0]
theorem p_decompressor_nextBlock_r (f : Nat) (m : Mem) (K : Kont)
    (h : ∃ (x1 : Int), cell? m ⟨f, 3, none⟩ = some (.int .u32 x1) ∧ IntKind.u32 = IntKind.u32 ∧ StW m ⟨f, 1047, none⟩ (.bool ((bitsOp .and .u32 x1 1) == 1)) fun m2 => ∃ (x3 : Int), cell? m2 ⟨f, 3, none⟩ = some (.int .u32 x3) ∧ 0 ≤ (1 : Int) ∧ StW m2 ⟨f, 3, none⟩ (.int .u32 (shrOp .u32 x3 1)) fun m4 => ∃ (x5 : Int), cell? m4 ⟨f, 3, none⟩ = some (.int .u32 x5) ∧ IntKind.u32 = IntKind.u32 ∧ ∃ (x6 : Int), cell? m4 ⟨f, 3, none⟩ = some (.int .u32 x6) ∧ 0 ≤ (2 : Int) ∧ StW m4 ⟨f, 3, none⟩ (.int .u32 (shrOp .u32 x6 2)) fun m7 => ∃ (x8 : Int), cell? m7 ⟨f, 4, none⟩ = some (.int .u64 x8) ∧ StW m7 ⟨f, 4, none⟩ (.int .u64 (IntKind.wrap .u64 (x8 - 3))) fun m9 => ifB ((bitsOp .and .u32 x5 3) == 0) (CallM PP f_decompressor_dataBlock #[.pointer (some ⟨f, 0, none⟩)] m9 fun v10 m11 => v10 = .tuple #[] ∧ K.kn [(0, .pointer (some ⟨f, 0, none⟩)), (2, .int .u32 (bitsOp .and .u32 x5 3)), (53, .int .u32 (bitsOp .and .u32 x5 3))] m11) (ifB ((bitsOp .and .u32 x5 3) == 1) (CallM PP f_inflate_fixedHuffman #[] m9 fun v13 m14 => ∃ (p12 : Option Addr), v13 = .pointer p12 ∧ StW m14 ⟨f, 1050, none⟩ (.pointer p12) fun m15 => StW m15 ⟨f, 1051, none⟩ (.pointer none) fun m16 => CallM PP f_decompressor_huffmanBlock #[.pointer (some ⟨f, 0, none⟩)] m16 fun v17 m18 => v17 = .tuple #[] ∧ K.kn [(0, .pointer (some ⟨f, 0, none⟩)), (2, .int .u32 (bitsOp .and .u32 x5 3)), (53, .int .u32 (bitsOp .and .u32 x5 3))] m18) (ifB ((bitsOp .and .u32 x5 3) == 2) (CallM PP f_decompressor_readHuffman #[.pointer (some ⟨f, 0, none⟩)] m9 fun v20 m21 => ∃ (v19 : Value), v20 = v19 ∧ StW m21 ⟨f, 1048, none⟩ v19 fun m22 => ∃ (v23 : Value), cell? m22 ⟨f, 1048, none⟩ = some (v23) ∧ isIfc v23 = true ∧ ifB (!(isNil v23)) (K.kn [(0, .pointer (some ⟨f, 0, none⟩)), (2, .int .u32 (bitsOp .and .u32 x5 3)), (53, .int .u32 (bitsOp .and .u32 x5 3))] m22) (StW m22 ⟨f, 1050, none⟩ (.pointer (some ⟨f, 5, none⟩)) fun m24 => StW m24 ⟨f, 1051, none⟩ (.pointer (some ⟨f, 520, none⟩)) fun m25 => CallM PP f_decompressor_huffmanBlock #[.pointer (some ⟨f, 0, none⟩)] m25 fun v26 m27 => v26 = .tuple #[] ∧ K.kn [(0, .pointer (some ⟨f, 0, none⟩)), (2, .int .u32 (bitsOp .and .u32 x5 3)), (53, .int .u32 (bitsOp .and .u32 x5 3))] m27)) (∃ (x28 : Int), cell? m9 ⟨f, 2, none⟩ = some (.int .i64 x28) ∧ StW m9 ⟨f, 1048, none⟩ (.iface t_flate_CorruptInputError (.int .i64 x28)) fun m29 => K.kn [(0, .pointer (some ⟨f, 0, none⟩)), (2, .int .u32 (bitsOp .and .u32 x5 3)), (53, .int .u32 (bitsOp .and .u32 x5 3))] m29)))  ) :
    wpc PP FF 103 L_decompressor_nextBlock c_decompressor_nextBlock_r K [(0, .pointer (some ⟨f, 0, none⟩))] m :=
  Eq.mpr (by kernel_rfl) h

def k_decompressor_nextBlock_lll : List Nat := [0]
theorem p_decompressor_nextBlock_lll (f : Nat) (m : Mem) (K : Kont)
    (h : ∃ (x1 : Int), cell? m ⟨f, 4, none⟩ = some (.int .u64 x1) ∧ ifB (decide (x1 < 3)) (CallM PP f_decompressor_moreBits #[.pointer (some ⟨f, 0, none⟩)] m fun v3 m4 => ∃ (v2 : Value), v3 = v2 ∧ StW m4 ⟨f, 1048, none⟩ v2 fun m5 => ∃ (v6 : Value), cell? m5 ⟨f, 1048, none⟩ = some (v6) ∧ isIfc v6 = true ∧ ifB (!(isNil v6)) (K.kr [(0, .pointer (some ⟨f, 0, none⟩))] m5) (K.kn [(0, .pointer (some ⟨f, 0, none⟩))] m5)) (K.kx 0 [(0, .pointer (some ⟨f, 0, none⟩))] m)  ) :
    wpc PP FF 103 L_decompressor_nextBlock c_decompressor_nextBlock_lll K [(0, .pointer (some ⟨f, 0, none⟩))] m :=
  Eq.mpr (by kernel_rfl) h

/-! (*loop.example/pub-inflation/pub/inflate.dictDecoder).init -/
def L_dictDecoder_init : List Nat := [0, 1, 2, 19, 41, 70]
def r_dictDecoder_init : List ResultVar := []
noncomputable def c_dictDecoder_init : Code := (Go.Proofs.Tryd.f14.body).getD .skip
theorem b_dictDecoder_init : Go.Proofs.Tryd.f14.body = some c_dictDecoder_init := by kernel_rfl
noncomputable def c_dictDecoder_init_rr : Code := (rgt (rgt c_dictDecoder_init))
noncomputable def c_dictDecoder_init_rrrr : Code := (rgt (rgt c_dictDecoder_init_rr))
noncomputable def c_dictDecoder_init_rrrrrr : Code := (rgt (rgt c_dictDecoder_init_rrrr))
theorem e_dictDecoder_init (f : Nat) (x1 : Int) (a2 : Option Addr) (l3 : Nat) (k4 : Nat) (m : Mem) (R : Value → Mem → Prop)
    (h : ∃ (a5 : Option Addr), ∃ (l6 : Nat), ∃ (k7 : Nat), cell? m ⟨f, 1037, none⟩ = some (.slice a5 l6 k7) ∧ StAgg PP t_flate_dictDecoder m ⟨f, 1037, none⟩ (.agg #[.slice a5 l6 k7, .int .i64 0, .int .i64 0, .bool false]) fun m8 => ∃ (a9 : Option Addr), ∃ (l10 : Nat), ∃ (k11 : Nat), cell? m8 ⟨f, 1037, none⟩ = some (.slice a9 l10 k11) ∧ ifB (decide ((k11 : Int) < x1)) (SemW PP (sv (Instr.makeSlice t_s_uint8 (.int .i64 x1) (.int .i64 x1))) m8 (NextW PP fun v15 m16 => ∃ (a12 : Option Addr), ∃ (l13 : Nat), ∃ (k14 : Nat), v15 = .slice a12 l13 k14 ∧ StW m16 ⟨f, 1037, none⟩ (.slice a12 l13 k14) fun m17 => WPS PP 84 c_dictDecoder_init_rr (retK PP r_dictDecoder_init R) [(0, .pointer (some ⟨f, 1037, none⟩)), (1, .int .i64 x1), (2, .slice a2 l3 k4)] m17)) (WPS PP 84 c_dictDecoder_init_rr (retK PP r_dictDecoder_init R) [(0, .pointer (some ⟨f, 1037, none⟩)), (1, .int .i64 x1), (2, .slice a2 l3 k4)] m8)) :
    CallM PP f_dictDecoder_init #[.pointer (some ⟨f, 1037, none⟩), .int .i64 x1, .slice a2 l3 k4] m R :=
  callM_enter ffOk mixedOk 84 L_dictDecoder_init Tryd.func14 b_dictDecoder_init Tryd.ntmps14 (by simp) (Eq.mpr (by kernel_rfl) h)

def k_dictDecoder_init_rr : List Nat := [0, 1, 2]
theorem p_dictDecoder_init_rr (f : Nat) (x1 : Int) (a2 : Option Addr) (l3 : Nat) (k4 : Nat) (m : Mem) (K : Kont)
    (h : ∃ (a5 : Option Addr), ∃ (l6 : Nat), ∃ (k7 : Nat), cell? m ⟨f, 1037, none⟩ = some (.slice a5 l6 k7) ∧ l6 ≤ k7 ∧ (0 ≤ x1 ∧ x1 ≤ (k7 : Int)) ∧ StW m ⟨f, 1037, none⟩ (.slice a5 x1.toNat k7) fun m8 => ∃ (a9 : Option Addr), ∃ (l10 : Nat), ∃ (k11 : Nat), cell? m8 ⟨f, 1037, none⟩ = some (.slice a9 l10 k11) ∧ ifB (decide ((l3 : Int) > (l10 : Int))) (∃ (a12 : Option Addr), ∃ (l13 : Nat), ∃ (k14 : Nat), cell? m8 ⟨f, 1037, none⟩ = some (.slice a12 l13 k14) ∧ l3 ≤ k4 ∧ (0 ≤ (IntKind.wrap .i64 ((l3 : Int) - (l13 : Int))) ∧ (IntKind.wrap .i64 ((l3 : Int) - (l13 : Int))) ≤ (l3 : Int)) ∧ WPS PP 84 c_dictDecoder_init_rrrr K [(0, .pointer (some ⟨f, 1037, none⟩)), (1, .int .i64 x1), (2, .slice (subA a2 ((IntKind.wrap .i64 ((l3 : Int) - (l13 : Int))).toNat) 1 k4) (l3 - ((IntKind.wrap .i64 ((l3 : Int) - (l13 : Int))).toNat)) (k4 - ((IntKind.wrap .i64 ((l3 : Int) - (l13 : Int))).toNat)))] m8) (WPS PP 84 c_dictDecoder_init_rrrr K [(0, .pointer (some ⟨f, 1037, none⟩)), (1, .int .i64 x1), (2, .slice a2 l3 k4)] m8)) :
    wpc PP FF 84 L_dictDecoder_init c_dictDecoder_init_rr K [(0, .pointer (some ⟨f, 1037, none⟩)), (1, .int .i64 x1), (2, .slice a2 l3 k4)] m :=
  Eq.mpr (by kernel_rfl) h

def k_dictDecoder_init_rrrr : List Nat := [0, 2]
theorem p_dictDecoder_init_rrrr (f : Nat) (a1 : Option Addr) (l2 : Nat) (k3 : Nat) (m : Mem) (K : Kont)
    (h : ∃ (a4 : Option Addr), ∃ (l5 : Nat), ∃ (k6 : Nat), cell? m ⟨f, 1037, none⟩ = some (.slice a4 l5 k6) ∧ SemW PP (builtin .copy #[t_s_uint8, t_s_uint8] t_int #[false, false] #[.slice a4 l5 k6, .slice a1 l2 k3]) m (NextW PP fun v8 m9 => ∃ (x7 : Int), v8 = .int .i64 x7 ∧ StW m9 ⟨f, 1038, none⟩ (.int .i64 x7) fun m10 => ∃ (x11 : Int), cell? m10 ⟨f, 1038, none⟩ = some (.int .i64 x11) ∧ ∃ (a12 : Option Addr), ∃ (l13 : Nat), ∃ (k14 : Nat), cell? m10 ⟨f, 1037, none⟩ = some (.slice a12 l13 k14) ∧ ifB (x11 == (l13 : Int)) (StW m10 ⟨f, 1038, none⟩ (.int .i64 0) fun m15 => StW m15 ⟨f, 1040, none⟩ (.bool true) fun m16 => WPS PP 84 c_dictDecoder_init_rrrrrr K [(0, .pointer (some ⟨f, 1037, none⟩)), (2, .slice a1 l2 k3)] m16) (WPS PP 84 c_dictDecoder_init_rrrrrr K [(0, .pointer (some ⟨f, 1037, none⟩)), (2, .slice a1 l2 k3)] m10))) :
    wpc PP FF 84 L_dictDecoder_init c_dictDecoder_init_rrrr K [(0, .pointer (some ⟨f, 1037, none⟩)), (2, .slice a1 l2 k3)] m :=
  Eq.mpr (by kernel_rfl) h

def k_dictDecoder_init_rrrrrr : List Nat := [0]
theorem p_dictDecoder_init_rrrrrr (f : Nat) (m : Mem) (K : Kont)
    (h : ∃ (x1 : Int), cell? m ⟨f, 1038, none⟩ = some (.int .i64 x1) ∧ StW m ⟨f, 1039, none⟩ (.int .i64 x1) fun m2 => K.kn [(0, .pointer (some ⟨f, 1037, none⟩))] m2  ) :
    wpc PP FF 84 L_dictDecoder_init c_dictDecoder_init_rrrrrr K [(0, .pointer (some ⟨f, 1037, none⟩))] m :=
  Eq.mpr (by kernel_rfl) h

/-! bytes.NewReader -/
def L_bytes_NewReader : List Nat := [0, 2]
def r_bytes_NewReader : List ResultVar := [.tmp 2]
noncomputable def c_bytes_NewReader : Code := (Go.Proofs.Tryd.f15.body).getD .skip
theorem b_bytes_NewReader : Go.Proofs.Tryd.f15.body = some c_bytes_NewReader := by kernel_rfl
theorem e_bytes_NewReader (a1 : Option Addr) (l2 : Nat) (k3 : Nat) (m : Mem) (R : Value → Mem → Prop)
    (h : BoxW t_bytes_Reader (.agg #[.slice a1 l2 k3, .int .i64 0, .int .i64 (-1)]) m fun n4 m5 => R (.pointer (some ⟨n4, 0, none⟩)) m5) :
    CallM PP f_bytes_NewReader #[.slice a1 l2 k3] m R :=
  callM_enter ffOk mixedOk 6 L_bytes_NewReader Tryd.func15 b_bytes_NewReader Tryd.ntmps15 (by simp) (Eq.mpr (by kernel_rfl) h)

/-! errors.As -/
def L_errors_As : List Nat := [0, 1, 4, 5, 6, 7, 9, 11, 23, 35]
def r_errors_As : List ResultVar := [.tmp 4]
noncomputable def c_errors_As : Code := (Go.Proofs.Tryd.f16.body).getD .skip
theorem b_errors_As : Go.Proofs.Tryd.f16.body = some c_errors_As := by kernel_rfl
noncomputable def c_errors_As_rrr : Code := (rgt (rgt (rgt c_errors_As)))
noncomputable def c_errors_As_rrrrrr : Code := (rgt (rgt (rgt c_errors_As_rrr)))
noncomputable def c_errors_As_rrrrrrrr : Code := (rgt (rgt c_errors_As_rrrrrr))
theorem e_errors_As (v1 : Value) (v2 : Value) (m : Mem) (R : Value → Mem → Prop)
    (h : isIfc v1 = true ∧ ifB (isNil v1) (R (.bool false) m) (isIfc v2 = true ∧ ifB (isNil v2) (False) (WPS PP 42 c_errors_As_rrr (retK PP r_errors_As R) [(0, v1), (1, v2), (4, .bool false)] m))) :
    CallM PP f_errors_As #[v1, v2] m R :=
  callM_enter ffOk mixedOk 42 L_errors_As Tryd.func16 b_errors_As Tryd.ntmps16 (by simp) (Eq.mpr (by kernel_rfl) h)

def k_errors_As_rrr : List Nat := [0, 1]
theorem p_errors_As_rrr (v1 : Value) (v2 : Value) (m : Mem) (K : Kont)
    (h : SemW PP (callVal (.func (.func f_reflectlite_ValueOf) #[] #[]) #[v2]) m (NextW PP fun v4 m5 => ∃ (v3 : Value), v4 = v3 ∧ AllocW PP t_reflectlite_Value m5 fun n6 m7 => StAgg PP t_reflectlite_Value m7 ⟨n6, 0, none⟩ v3 fun m8 => ∃ (p9 : Option Addr), ∃ (v10 : Value), ∃ (x11 : Int), ([.pointer p9, v10, .int .u64 x11] : List Value).length = 3 ∧ CellsAre m8 ⟨n6, 0, none⟩ 0 [.pointer p9, v10, .int .u64 x11] ∧ SemW PP (callVal (.func (.func f_reflectlite_Value_Type) #[] #[]) #[.agg #[.pointer p9, v10, .int .u64 x11]]) m8 (NextW PP fun v13 m14 => ∃ (v12 : Value), v13 = v12 ∧ SemW PP (callMethod v12 "Kind" #[]) m14 (NextW PP fun v16 m17 => ∃ (x15 : Int), v16 = .int .u8 x15 ∧ ifB (x15 != 22) (False) (∃ (p18 : Option Addr), ∃ (v19 : Value), ∃ (x20 : Int), ([.pointer p18, v19, .int .u64 x20] : List Value).length = 3 ∧ CellsAre m17 ⟨n6, 0, none⟩ 0 [.pointer p18, v19, .int .u64 x20] ∧ SemW PP (callVal (.func (.func f_reflectlite_Value_IsNil) #[] #[]) #[.agg #[.pointer p18, v19, .int .u64 x20]]) m17 (NextW PP fun v22 m23 => ∃ (b21 : Bool), v22 = .bool b21 ∧ ifB b21 (False) (WPS PP 42 c_errors_As_rrrrrr K [(0, v1), (1, v2), (5, .pointer (some ⟨n6, 0, none⟩)), (6, v12)] m23))))))) :
    wpc PP FF 42 L_errors_As c_errors_As_rrr K [(0, v1), (1, v2)] m :=
  Eq.mpr (by kernel_rfl) h

def k_errors_As_rrrrrr : List Nat := [0, 1, 5, 6]
theorem p_errors_As_rrrrrr (v1 : Value) (v2 : Value) (n3 : Nat) (v4 : Value) (m : Mem) (K : Kont)
    (h : SemW PP (callMethod v4 "Elem" #[]) m (NextW PP fun v6 m7 => ∃ (v5 : Value), v6 = v5 ∧ SemW PP (callMethod v5 "Kind" #[]) m7 (NextW PP fun v9 m10 => ∃ (x8 : Int), v9 = .int .u8 x8 ∧ ifB (x8 != 20) (∃ (v11 : Value), cell? m10 ⟨g_errors_errorType, 0, none⟩ = some (v11) ∧ SemW PP (callMethod v5 "Implements" #[v11]) m10 (NextW PP fun v13 m14 => ∃ (b12 : Bool), v13 = .bool b12 ∧ ifB (!b12) (False) (WPS PP 42 c_errors_As_rrrrrrrr K [(0, v1), (1, v2), (5, .pointer (some ⟨n3, 0, none⟩)), (6, v4), (7, v5)] m14))) (WPS PP 42 c_errors_As_rrrrrrrr K [(0, v1), (1, v2), (5, .pointer (some ⟨n3, 0, none⟩)), (6, v4), (7, v5)] m10)))) :
    wpc PP FF 42 L_errors_As c_errors_As_rrrrrr K [(0, v1), (1, v2), (5, .pointer (some ⟨n3, 0, none⟩)), (6, v4)] m :=
  Eq.mpr (by kernel_rfl) h

def k_errors_As_rrrrrrrr : List Nat := [0, 1, 5, 7]
theorem p_errors_As_rrrrrrrr (v1 : Value) (v2 : Value) (n3 : Nat) (v4 : Value) (m : Mem) (K : Kont)
    (h : ∃ (p5 : Option Addr), ∃ (v6 : Value), ∃ (x7 : Int), ([.pointer p5, v6, .int .u64 x7] : List Value).length = 3 ∧ CellsAre m ⟨n3, 0, none⟩ 0 [.pointer p5, v6, .int .u64 x7] ∧ CallM PP f_errors_as #[v1, v2, .agg #[.pointer p5, v6, .int .u64 x7], v4] m fun v9 m10 => ∃ (b8 : Bool), v9 = .bool b8 ∧ K.kr [(0, v1), (1, v2), (4, .bool b8), (5, .pointer (some ⟨n3, 0, none⟩)), (7, v4)] m10) :
    wpc PP FF 42 L_errors_As c_errors_As_rrrrrrrr K [(0, v1), (1, v2), (5, .pointer (some ⟨n3, 0, none⟩)), (7, v4)] m :=
  Eq.mpr (by kernel_rfl) h

/-! (*bufio.Reader).Reset -/
def L_bufio_Reader_Reset : List Nat := [0, 1, 7, 12]
def r_bufio_Reader_Reset : List ResultVar := []
noncomputable def c_bufio_Reader_Reset : Code := (Go.Proofs.Tryd.f17.body).getD .skip
theorem b_bufio_Reader_Reset : Go.Proofs.Tryd.f17.body = some c_bufio_Reader_Reset := by kernel_rfl
noncomputable def c_bufio_Reader_Reset_rr : Code := (rgt (rgt c_bufio_Reader_Reset))
theorem e_bufio_Reader_Reset (b : Nat) (v1 : Value) (m : Mem) (R : Value → Mem → Prop)
    (h : ReadW PP m (do eqGuard .eql t_io_Reader (.tmp 5) (.tmp 6) (.iface t_p_bufio_Reader (.pointer (some ⟨b, 0, none⟩))) v1; binOp .eql t_io_Reader (.iface t_p_bufio_Reader (.pointer (some ⟨b, 0, none⟩))) v1) fun u3 => ∃ (b2 : Bool), u3 = .bool b2 ∧ ifB b2 (R (.tuple #[]) m) (∃ (a4 : Option Addr), ∃ (l5 : Nat), ∃ (k6 : Nat), cell? m ⟨b, 0, none⟩ = some (.slice a4 l5 k6) ∧ ifB a4.isNone (SemW PP (sv (Instr.makeSlice t_s_uint8 (.int .i64 4096) (.int .i64 4096))) m (NextW PP fun v10 m11 => ∃ (a7 : Option Addr), ∃ (l8 : Nat), ∃ (k9 : Nat), v10 = .slice a7 l8 k9 ∧ StW m11 ⟨b, 0, none⟩ (.slice a7 l8 k9) fun m12 => WPS PP 24 c_bufio_Reader_Reset_rr (retK PP r_bufio_Reader_Reset R) [(0, .pointer (some ⟨b, 0, none⟩)), (1, v1)] m12)) (WPS PP 24 c_bufio_Reader_Reset_rr (retK PP r_bufio_Reader_Reset R) [(0, .pointer (some ⟨b, 0, none⟩)), (1, v1)] m))) :
    CallM PP f_bufio_Reader_Reset #[.pointer (some ⟨b, 0, none⟩), v1] m R :=
  callM_enter ffOk mixedOk 24 L_bufio_Reader_Reset Tryd.func17 b_bufio_Reader_Reset Tryd.ntmps17 (by simp) (Eq.mpr (by kernel_rfl) h)

def k_bufio_Reader_Reset_rr : List Nat := [0, 1]
theorem p_bufio_Reader_Reset_rr (b : Nat) (v1 : Value) (m : Mem) (K : Kont)
    (h : ∃ (a2 : Option Addr), ∃ (l3 : Nat), ∃ (k4 : Nat), cell? m ⟨b, 0, none⟩ = some (.slice a2 l3 k4) ∧ CallM PP f_bufio_Reader_reset #[.pointer (some ⟨b, 0, none⟩), .slice a2 l3 k4, v1] m fun v5 m6 => v5 = .tuple #[] ∧ K.kn [(0, .pointer (some ⟨b, 0, none⟩)), (1, v1)] m6) :
    wpc PP FF 24 L_bufio_Reader_Reset c_bufio_Reader_Reset_rr K [(0, .pointer (some ⟨b, 0, none⟩)), (1, v1)] m :=
  Eq.mpr (by kernel_rfl) h

/-! bufio.NewReader -/
def L_bufio_NewReader : List Nat := [0, 2]
def r_bufio_NewReader : List ResultVar := [.tmp 2]
noncomputable def c_bufio_NewReader : Code := (Go.Proofs.Tryd.f18.body).getD .skip
theorem b_bufio_NewReader : Go.Proofs.Tryd.f18.body = some c_bufio_NewReader := by kernel_rfl
theorem e_bufio_NewReader (v1 : Value) (m : Mem) (R : Value → Mem → Prop)
    (h : CallM PP f_bufio_NewReaderSize #[v1, .int .i64 4096] m fun v3 m4 => ∃ (p2 : Option Addr), v3 = .pointer p2 ∧ R (.pointer p2) m4) :
    CallM PP f_bufio_NewReader #[v1] m R :=
  callM_enter ffOk mixedOk 5 L_bufio_NewReader Tryd.func18 b_bufio_NewReader Tryd.ntmps18 (by simp) (Eq.mpr (by kernel_rfl) h)

/-! (*loop.example/pub-inflation/pub/inflate.decompressor).moreBits -/
def L_decompressor_moreBits : List Nat := [0, 2, 3, 4, 14]
def r_decompressor_moreBits : List ResultVar := [.tmp 2]
noncomputable def c_decompressor_moreBits : Code := (Go.Proofs.Tryd.f19.body).getD .skip
theorem b_decompressor_moreBits : Go.Proofs.Tryd.f19.body = some c_decompressor_moreBits := by kernel_rfl
theorem e_decompressor_moreBits (f : Nat) (m : Mem) (R : Value → Mem → Prop)
    (h : ∃ (v1 : Value), cell? m ⟨f, 0, none⟩ = some (v1) ∧ SemW PP (callMethod v1 "ReadByte" #[]) m (NextW PP fun v4 m5 => ∃ (x2 : Int), ∃ (v3 : Value), v4 = .tuple #[.int .u8 x2, v3] ∧ isIfc v3 = true ∧ ifB (!(isNil v3)) (CallM PP f_inflate_noEOF #[v3] m5 fun v7 m8 => ∃ (v6 : Value), v7 = v6 ∧ R (v6) m8) (∃ (x9 : Int), cell? m5 ⟨f, 2, none⟩ = some (.int .i64 x9) ∧ StW m5 ⟨f, 2, none⟩ (.int .i64 (IntKind.wrap .i64 (x9 + 1))) fun m10 => ∃ (x11 : Int), cell? m10 ⟨f, 3, none⟩ = some (.int .u32 x11) ∧ ∃ (x12 : Int), cell? m10 ⟨f, 4, none⟩ = some (.int .u64 x12) ∧ 0 ≤ x12 ∧ IntKind.u32 = IntKind.u32 ∧ StW m10 ⟨f, 3, none⟩ (.int .u32 (bitsOp .or .u32 x11 (shlOp .u32 (IntKind.wrap .u32 x2) x12))) fun m13 => ∃ (x14 : Int), cell? m13 ⟨f, 4, none⟩ = some (.int .u64 x14) ∧ StW m13 ⟨f, 4, none⟩ (.int .u64 (IntKind.wrap .u64 (x14 + 8))) fun m15 => R (.nilIface) m15))  ) :
    CallM PP f_decompressor_moreBits #[.pointer (some ⟨f, 0, none⟩)] m R :=
  callM_enter ffOk mixedOk 45 L_decompressor_moreBits Tryd.func19 b_decompressor_moreBits Tryd.ntmps19 (by simp) (Eq.mpr (by kernel_rfl) h)

/-! (*loop.example/pub-inflation/pub/inflate.decompressor).dataBlock -/
def L_decompressor_dataBlock : List Nat := [0, 2, 3, 4, 5, 33, 72, 82]
def r_decompressor_dataBlock : List ResultVar := []
noncomputable def c_decompressor_dataBlock : Code := (Go.Proofs.Tryd.f20.body).getD .skip
theorem b_decompressor_dataBlock : Go.Proofs.Tryd.f20.body = some c_decompressor_dataBlock := by kernel_rfl
theorem e_decompressor_dataBlock (f : Nat) (m : Mem) (R : Value → Mem → Prop)
    (h : StW m ⟨f, 4, none⟩ (.int .u64 0) fun m1 => StW m1 ⟨f, 3, none⟩ (.int .u32 0) fun m2 => ∃ (v3 : Value), cell? m2 ⟨f, 0, none⟩ = some (v3) ∧ (0 ≤ (4 : Int) ∧ (4 : Int) ≤ (4 : Int)) ∧ (0 ≤ (0 : Int) ∧ (0 : Int) ≤ 4) ∧ CallM PP f_io_ReadFull #[v3, .slice (some ⟨f, 1041, none⟩) 4 4] m2 fun v6 m7 => ∃ (x4 : Int), ∃ (v5 : Value), v6 = .tuple #[.int .i64 x4, v5] ∧ ∃ (x8 : Int), cell? m7 ⟨f, 2, none⟩ = some (.int .i64 x8) ∧ StW m7 ⟨f, 2, none⟩ (.int .i64 (IntKind.wrap .i64 (x8 + x4))) fun m9 => isIfc v5 = true ∧ ifB (!(isNil v5)) (CallM PP f_inflate_noEOF #[v5] m9 fun v11 m12 => ∃ (v10 : Value), v11 = v10 ∧ StW m12 ⟨f, 1048, none⟩ v10 fun m13 => R (.tuple #[]) m13) ((0 ≤ (0 : Int) ∧ (0 : Int) < ((4 : Nat) : Int)) ∧ ∃ (x14 : Int), cell? m9 ⟨f, 1041, none⟩ = some (.int .u8 x14) ∧ (0 ≤ (1 : Int) ∧ (1 : Int) < ((4 : Nat) : Int)) ∧ ∃ (x15 : Int), cell? m9 ⟨f, 1042, none⟩ = some (.int .u8 x15) ∧ 0 ≤ (8 : Int) ∧ IntKind.i64 = IntKind.i64 ∧ (0 ≤ (2 : Int) ∧ (2 : Int) < ((4 : Nat) : Int)) ∧ ∃ (x16 : Int), cell? m9 ⟨f, 1043, none⟩ = some (.int .u8 x16) ∧ (0 ≤ (3 : Int) ∧ (3 : Int) < ((4 : Nat) : Int)) ∧ ∃ (x17 : Int), cell? m9 ⟨f, 1044, none⟩ = some (.int .u8 x17) ∧ 0 ≤ (8 : Int) ∧ IntKind.i64 = IntKind.i64 ∧ ifB ((IntKind.wrap .u16 (bitsOp .or .i64 (IntKind.wrap .i64 x16) (shlOp .i64 (IntKind.wrap .i64 x17) 8))) != IntKind.wrap .u16 (bitsOp .xor .i64 (-1) (bitsOp .or .i64 (IntKind.wrap .i64 x14) (shlOp .i64 (IntKind.wrap .i64 x15) 8)))) (∃ (x18 : Int), cell? m9 ⟨f, 2, none⟩ = some (.int .i64 x18) ∧ StW m9 ⟨f, 1048, none⟩ (.iface t_flate_CorruptInputError (.int .i64 x18)) fun m19 => R (.tuple #[]) m19) (ifB ((bitsOp .or .i64 (IntKind.wrap .i64 x14) (shlOp .i64 (IntKind.wrap .i64 x15) 8)) == 0) (CallM PP f_dictDecoder_readFlush #[.pointer (some ⟨f, 1037, none⟩)] m9 fun v23 m24 => ∃ (a20 : Option Addr), ∃ (l21 : Nat), ∃ (k22 : Nat), v23 = .slice a20 l21 k22 ∧ StW m24 ⟨f, 1049, none⟩ (.slice a20 l21 k22) fun m25 => CallM PP f_decompressor_finishBlock #[.pointer (some ⟨f, 0, none⟩)] m25 fun v26 m27 => v26 = .tuple #[] ∧ R (.tuple #[]) m27) (StW m9 ⟨f, 1052, none⟩ (.int .i64 (bitsOp .or .i64 (IntKind.wrap .i64 x14) (shlOp .i64 (IntKind.wrap .i64 x15) 8))) fun m28 => CallM PP f_decompressor_copyData #[.pointer (some ⟨f, 0, none⟩)] m28 fun v29 m30 => v29 = .tuple #[] ∧ R (.tuple #[]) m30)))  ) :
    CallM PP f_decompressor_dataBlock #[.pointer (some ⟨f, 0, none⟩)] m R :=
  callM_enter ffOk mixedOk 98 L_decompressor_dataBlock Tryd.func20 b_decompressor_dataBlock Tryd.ntmps20 (by simp) (Eq.mpr (by kernel_rfl) h)

/-! loop.example/pub-inflation/pub/inflate.fixedHuffman -/
def L_inflate_fixedHuffman : List Nat := [0, 1, 2, 3, 4, 5, 6, 8, 14, 20, 26]
def r_inflate_fixedHuffman : List ResultVar := [.tmp 0]
noncomputable def c_inflate_fixedHuffman : Code := (Go.Proofs.Tryd.f21.body).getD .skip
theorem b_inflate_fixedHuffman : Go.Proofs.Tryd.f21.body = some c_inflate_fixedHuffman := by kernel_rfl
noncomputable def c_inflate_fixedHuffman_rrr : Code := (rgt (rgt (rgt c_inflate_fixedHuffman)))
noncomputable def c_inflate_fixedHuffman_rrrr : Code := (rgt c_inflate_fixedHuffman_rrr)
noncomputable def c_inflate_fixedHuffman_rrlrl : Code := (lft (rgt (lft (rgt (rgt c_inflate_fixedHuffman)))))
noncomputable def c_inflate_fixedHuffman_rrrrr : Code := (rgt c_inflate_fixedHuffman_rrrr)
noncomputable def c_inflate_fixedHuffman_rrlrll : Code := (lft c_inflate_fixedHuffman_rrlrl)
noncomputable def c_inflate_fixedHuffman_rrrlrl : Code := (lft (rgt (lft c_inflate_fixedHuffman_rrr)))
noncomputable def c_inflate_fixedHuffman_rrrrrr : Code := (rgt c_inflate_fixedHuffman_rrrrr)
noncomputable def c_inflate_fixedHuffman_rrrlrll : Code := (lft c_inflate_fixedHuffman_rrrlrl)
noncomputable def c_inflate_fixedHuffman_rrrrlrl : Code := (lft (rgt (lft c_inflate_fixedHuffman_rrrr)))
noncomputable def c_inflate_fixedHuffman_rrrrlrll : Code := (lft c_inflate_fixedHuffman_rrrrlrl)
noncomputable def c_inflate_fixedHuffman_rrrrrlrl : Code := (lft (rgt (lft c_inflate_fixedHuffman_rrrrr)))
noncomputable def c_inflate_fixedHuffman_rrrrrlrll : Code := (lft c_inflate_fixedHuffman_rrrrrlrl)
theorem q_inflate_fixedHuffman_rrlrl : c_inflate_fixedHuffman_rrlrl = .loop c_inflate_fixedHuffman_rrlrll := by kernel_rfl
theorem q_inflate_fixedHuffman_rrrlrl : c_inflate_fixedHuffman_rrrlrl = .loop c_inflate_fixedHuffman_rrrlrll := by kernel_rfl
theorem q_inflate_fixedHuffman_rrrrlrl : c_inflate_fixedHuffman_rrrrlrl = .loop c_inflate_fixedHuffman_rrrrlrll := by kernel_rfl
theorem q_inflate_fixedHuffman_rrrrrlrl : c_inflate_fixedHuffman_rrrrrlrl = .loop c_inflate_fixedHuffman_rrrrrlrll := by kernel_rfl
/- the loop at rrlrl: slots [1, 2] -/
/- the loop at rrrlrl: slots [1, 3] -/
/- the loop at rrrrlrl: slots [1, 4] -/
/- the loop at rrrrrlrl: slots [1, 5] -/
theorem e_inflate_fixedHuffman  (m : Mem) (R : Value → Mem → Prop)
    (h : AllocW PP t_288_int m fun n1 m2 => WPS PP 36 c_inflate_fixedHuffman_rrlrl (((retK PP r_inflate_fixedHuffman R).withN fun r m => WPS PP 36 c_inflate_fixedHuffman_rrr (retK PP r_inflate_fixedHuffman R) r m).withX 0) [(0, .pointer none), (1, .pointer (some ⟨n1, 0, none⟩)), (2, .int .i64 0)] m2  ) :
    CallM PP f_inflate_fixedHuffman #[] m R :=
  callM_enter ffOk mixedOk 36 L_inflate_fixedHuffman Tryd.func21 b_inflate_fixedHuffman Tryd.ntmps21 (by simp) (Eq.mpr (by kernel_rfl) h)

def k_inflate_fixedHuffman_rrr : List Nat := [1]
theorem p_inflate_fixedHuffman_rrr (n1 : Nat) (m : Mem) (K : Kont)
    (h : WPS PP 36 c_inflate_fixedHuffman_rrrlrl ((K.withN fun r m => WPS PP 36 c_inflate_fixedHuffman_rrrr K r m).withX 2) [(1, .pointer (some ⟨n1, 0, none⟩)), (3, .int .i64 144)] m) :
    wpc PP FF 36 L_inflate_fixedHuffman c_inflate_fixedHuffman_rrr K [(1, .pointer (some ⟨n1, 0, none⟩))] m :=
  Eq.mpr (by kernel_rfl) h

def k_inflate_fixedHuffman_rrlrll : List Nat := [1, 2]
theorem p_inflate_fixedHuffman_rrlrll (n1 : Nat) (x2 : Int) (m : Mem) (K : Kont)
    (h : ifB (decide (x2 < 144)) ((0 ≤ x2 ∧ x2 < ((288 : Nat) : Int)) ∧ StW m ⟨n1, 0 + x2.toNat, none⟩ (.int .i64 8) fun m3 => K.kn [(1, .pointer (some ⟨n1, 0, none⟩)), (2, .int .i64 (IntKind.wrap .i64 (x2 + 1)))] m3) (K.kx 0 [(1, .pointer (some ⟨n1, 0, none⟩)), (2, .int .i64 x2)] m)) :
    wpc PP FF 36 L_inflate_fixedHuffman c_inflate_fixedHuffman_rrlrll K [(1, .pointer (some ⟨n1, 0, none⟩)), (2, .int .i64 x2)] m :=
  Eq.mpr (by kernel_rfl) h

def k_inflate_fixedHuffman_rrrlrll : List Nat := [1, 3]
theorem p_inflate_fixedHuffman_rrrlrll (n1 : Nat) (x2 : Int) (m : Mem) (K : Kont)
    (h : ifB (decide (x2 < 256)) ((0 ≤ x2 ∧ x2 < ((288 : Nat) : Int)) ∧ StW m ⟨n1, 0 + x2.toNat, none⟩ (.int .i64 9) fun m3 => K.kn [(1, .pointer (some ⟨n1, 0, none⟩)), (3, .int .i64 (IntKind.wrap .i64 (x2 + 1)))] m3) (K.kx 2 [(1, .pointer (some ⟨n1, 0, none⟩)), (3, .int .i64 x2)] m)) :
    wpc PP FF 36 L_inflate_fixedHuffman c_inflate_fixedHuffman_rrrlrll K [(1, .pointer (some ⟨n1, 0, none⟩)), (3, .int .i64 x2)] m :=
  Eq.mpr (by kernel_rfl) h

def k_inflate_fixedHuffman_rrrrlrll : List Nat := [1, 4]
theorem p_inflate_fixedHuffman_rrrrlrll (n1 : Nat) (x2 : Int) (m : Mem) (K : Kont)
    (h : ifB (decide (x2 < 280)) ((0 ≤ x2 ∧ x2 < ((288 : Nat) : Int)) ∧ StW m ⟨n1, 0 + x2.toNat, none⟩ (.int .i64 7) fun m3 => K.kn [(1, .pointer (some ⟨n1, 0, none⟩)), (4, .int .i64 (IntKind.wrap .i64 (x2 + 1)))] m3) (K.kx 4 [(1, .pointer (some ⟨n1, 0, none⟩)), (4, .int .i64 x2)] m)) :
    wpc PP FF 36 L_inflate_fixedHuffman c_inflate_fixedHuffman_rrrrlrll K [(1, .pointer (some ⟨n1, 0, none⟩)), (4, .int .i64 x2)] m :=
  Eq.mpr (by kernel_rfl) h

def k_inflate_fixedHuffman_rrrrrlrll : List Nat := [1, 5]
theorem p_inflate_fixedHuffman_rrrrrlrll (n1 : Nat) (x2 : Int) (m : Mem) (K : Kont)
    (h : ifB (decide (x2 < 288)) ((0 ≤ x2 ∧ x2 < ((288 : Nat) : Int)) ∧ StW m ⟨n1, 0 + x2.toNat, none⟩ (.int .i64 8) fun m3 => K.kn [(1, .pointer (some ⟨n1, 0, none⟩)), (5, .int .i64 (IntKind.wrap .i64 (x2 + 1)))] m3) (K.kx 6 [(1, .pointer (some ⟨n1, 0, none⟩)), (5, .int .i64 x2)] m)) :
    wpc PP FF 36 L_inflate_fixedHuffman c_inflate_fixedHuffman_rrrrrlrll K [(1, .pointer (some ⟨n1, 0, none⟩)), (5, .int .i64 x2)] m :=
  Eq.mpr (by kernel_rfl) h

def k_inflate_fixedHuffman_rrrr : List Nat := [1]
theorem p_inflate_fixedHuffman_rrrr (n1 : Nat) (m : Mem) (K : Kont)
    (h : WPS PP 36 c_inflate_fixedHuffman_rrrrlrl ((K.withN fun r m => WPS PP 36 c_inflate_fixedHuffman_rrrrr K r m).withX 4) [(1, .pointer (some ⟨n1, 0, none⟩)), (4, .int .i64 256)] m) :
    wpc PP FF 36 L_inflate_fixedHuffman c_inflate_fixedHuffman_rrrr K [(1, .pointer (some ⟨n1, 0, none⟩))] m :=
  Eq.mpr (by kernel_rfl) h

def k_inflate_fixedHuffman_rrrrr : List Nat := [1]
theorem p_inflate_fixedHuffman_rrrrr (n1 : Nat) (m : Mem) (K : Kont)
    (h : WPS PP 36 c_inflate_fixedHuffman_rrrrrlrl ((K.withN fun r m => WPS PP 36 c_inflate_fixedHuffman_rrrrrr K r m).withX 6) [(1, .pointer (some ⟨n1, 0, none⟩)), (5, .int .i64 280)] m) :
    wpc PP FF 36 L_inflate_fixedHuffman c_inflate_fixedHuffman_rrrrr K [(1, .pointer (some ⟨n1, 0, none⟩))] m :=
  Eq.mpr (by kernel_rfl) h

def k_inflate_fixedHuffman_rrrrrr : List Nat := [1]
theorem p_inflate_fixedHuffman_rrrrrr (n1 : Nat) (m : Mem) (K : Kont)
    (h : AllocW PP t_flate_huffmanDecoder m fun n2 m3 => CallM PP f_huffmanDecoder_init #[.pointer (some ⟨n2, 0, none⟩), .slice (some ⟨n1, 0, none⟩) 288 288] m3 fun v5 m6 => ∃ (b4 : Bool), v5 = .bool b4 ∧ K.kr [(0, .pointer (some ⟨n2, 0, none⟩)), (1, .pointer (some ⟨n1, 0, none⟩)), (6, .pointer (some ⟨n2, 0, none⟩))] m6) :
    wpc PP FF 36 L_inflate_fixedHuffman c_inflate_fixedHuffman_rrrrrr K [(1, .pointer (some ⟨n1, 0, none⟩))] m :=
  Eq.mpr (by kernel_rfl) h

/-! (*loop.example/pub-inflation/pub/inflate.decompressor).huffmanBlock -/
def L_decompressor_huffmanBlock : List Nat := [0, 2, 3, 4, 5, 6, 7, 8, 9, 13, 14, 16, 28, 41, 54, 68, 73, 78, 84, 90, 96, 102, 108, 112, 118, 122, 158, 163, 167, 205, 218, 223, 239, 243, 286, 316, 348]
def r_decompressor_huffmanBlock : List ResultVar := []
noncomputable def c_decompressor_huffmanBlock : Code := (Go.Proofs.Tryd.f22.body).getD .skip
theorem b_decompressor_huffmanBlock : Go.Proofs.Tryd.f22.body = some c_decompressor_huffmanBlock := by kernel_rfl
noncomputable def c_decompressor_huffmanBlock_l : Code := (lft c_decompressor_huffmanBlock)
noncomputable def c_decompressor_huffmanBlock_lrr : Code := (rgt (rgt c_decompressor_huffmanBlock_l))
noncomputable def c_decompressor_huffmanBlock_lrrr : Code := (rgt c_decompressor_huffmanBlock_lrr)
noncomputable def c_decompressor_huffmanBlock_lrrrr : Code := (rgt c_decompressor_huffmanBlock_lrrr)
noncomputable def c_decompressor_huffmanBlock_lrrrrrr : Code := (rgt (rgt c_decompressor_huffmanBlock_lrrrr))
noncomputable def c_decompressor_huffmanBlock_lrrlrrrrr : Code := (rgt (rgt (rgt (rgt (rgt (lft c_decompressor_huffmanBlock_lrr))))))
noncomputable def c_decompressor_huffmanBlock_lrrlrrrrrr : Code := (rgt c_decompressor_huffmanBlock_lrrlrrrrr)
noncomputable def c_decompressor_huffmanBlock_lrrlrrrrrrrr : Code := (rgt (rgt c_decompressor_huffmanBlock_lrrlrrrrrr))
noncomputable def c_decompressor_huffmanBlock_lrrlrrrrrlrlr : Code := (rgt (lft (rgt (lft c_decompressor_huffmanBlock_lrrlrrrrr))))
noncomputable def c_decompressor_huffmanBlock_lrrlrrrrrrrrr : Code := (rgt c_decompressor_huffmanBlock_lrrlrrrrrrrr)
noncomputable def c_decompressor_huffmanBlock_lrrlrrrrrlrlll : Code := (lft (lft (lft (rgt (lft c_decompressor_huffmanBlock_lrrlrrrrr)))))
noncomputable def c_decompressor_huffmanBlock_lrrlrrrrrlrllll : Code := (lft c_decompressor_huffmanBlock_lrrlrrrrrlrlll)
noncomputable def c_decompressor_huffmanBlock_lrrlrrrrrrrlrlr : Code := (rgt (lft (rgt (lft (rgt c_decompressor_huffmanBlock_lrrlrrrrrr)))))
noncomputable def c_decompressor_huffmanBlock_lrrlrrrrrrrlrlll : Code := (lft (lft (lft (rgt (lft (rgt c_decompressor_huffmanBlock_lrrlrrrrrr))))))
noncomputable def c_decompressor_huffmanBlock_lrrlrrrrrrrlrllll : Code := (lft c_decompressor_huffmanBlock_lrrlrrrrrrrlrlll)
noncomputable def c_decompressor_huffmanBlock_lrrlrrrrrrrrllrrrlrrr : Code := (rgt (rgt (rgt (lft (rgt (rgt (rgt (lft (lft c_decompressor_huffmanBlock_lrrlrrrrrrrr)))))))))
noncomputable def c_decompressor_huffmanBlock_lrrlrrrrrrrrllrrrlrrll : Code := (lft (lft (rgt (rgt (lft (rgt (rgt (rgt (lft (lft c_decompressor_huffmanBlock_lrrlrrrrrrrr))))))))))
noncomputable def c_decompressor_huffmanBlock_lrrlrrrrrrrrllrrrlrrlll : Code := (lft c_decompressor_huffmanBlock_lrrlrrrrrrrrllrrrlrrll)
theorem q_decompressor_huffmanBlock_ : c_decompressor_huffmanBlock = .scope c_decompressor_huffmanBlock_l := by kernel_rfl
theorem l_decompressor_huffmanBlock__0 : findLabel c_decompressor_huffmanBlock_l 0 = some (.seq .skip c_decompressor_huffmanBlock_lrr) := by kernel_rfl
theorem l_decompressor_huffmanBlock__1 : findLabel c_decompressor_huffmanBlock_l 1 = some (.seq .skip c_decompressor_huffmanBlock_lrrrr) := by kernel_rfl
theorem q_decompressor_huffmanBlock_lrrlrrrrrlrlll : c_decompressor_huffmanBlock_lrrlrrrrrlrlll = .loop c_decompressor_huffmanBlock_lrrlrrrrrlrllll := by kernel_rfl
theorem q_decompressor_huffmanBlock_lrrlrrrrrrrlrlll : c_decompressor_huffmanBlock_lrrlrrrrrrrlrlll = .loop c_decompressor_huffmanBlock_lrrlrrrrrrrlrllll := by kernel_rfl
theorem q_decompressor_huffmanBlock_lrrlrrrrrrrrllrrrlrrll : c_decompressor_huffmanBlock_lrrlrrrrrrrrllrrrlrrll = .loop c_decompressor_huffmanBlock_lrrlrrrrrrrrllrrrlrrlll := by kernel_rfl
/- the loop at : slots [0] -/
/- the loop at lrrlrrrrrlrlll: slots [0, 4, 5] -/
/- the loop at lrrlrrrrrrrlrlll: slots [0, 5] -/
/- the loop at lrrlrrrrrrrrllrrrlrrll: slots [0, 5, 7, 8] -/
theorem e_decompressor_huffmanBlock (f : Nat) (m : Mem) (R : Value → Mem → Prop)
    (h : WPS PP 362 c_decompressor_huffmanBlock (retK PP r_decompressor_huffmanBlock R) [(0, .pointer (some ⟨f, 0, none⟩))] m  ) :
    CallM PP f_decompressor_huffmanBlock #[.pointer (some ⟨f, 0, none⟩)] m R :=
  callM_enter ffOk mixedOk 362 L_decompressor_huffmanBlock Tryd.func22 b_decompressor_huffmanBlock Tryd.ntmps22 (by simp) (Eq.mpr (by kernel_rfl) h)

def k_decompressor_huffmanBlock_l : List Nat := [0]
theorem p_decompressor_huffmanBlock_l (f : Nat) (m : Mem) (K : Kont)
    (h : ∃ (x1 : Int), cell? m ⟨f, 1046, none⟩ = some (.int .i64 x1) ∧ ifB (x1 == 0) (K.kg 0 [(0, .pointer (some ⟨f, 0, none⟩)), (13, .int .i64 x1)] m) (ifB (x1 == 1) (K.kg 1 [(0, .pointer (some ⟨f, 0, none⟩)), (13, .int .i64 x1)] m) (∃ (p2 : Option Addr), cell? m ⟨f, 1050, none⟩ = some (.pointer p2) ∧ CallM PP f_decompressor_huffSym #[.pointer (some ⟨f, 0, none⟩), .pointer p2] m fun v5 m6 => ∃ (x3 : Int), ∃ (v4 : Value), v5 = .tuple #[.int .i64 x3, v4] ∧ isIfc v4 = true ∧ ifB (!(isNil v4)) (StW m6 ⟨f, 1048, none⟩ v4 fun m7 => K.kr [(0, .pointer (some ⟨f, 0, none⟩)), (2, .int .i64 x3), (3, v4), (13, .int .i64 x1)] m7) (ifB (decide (x3 < 256)) (CallM PP f_dictDecoder_writeByte #[.pointer (some ⟨f, 1037, none⟩), .int .u8 (IntKind.wrap .u8 x3)] m6 fun v8 m9 => v8 = .tuple #[] ∧ CallM PP f_dictDecoder_availWrite #[.pointer (some ⟨f, 1037, none⟩)] m9 fun v11 m12 => ∃ (x10 : Int), v11 = .int .i64 x10 ∧ ifB (x10 == 0) (CallM PP f_dictDecoder_readFlush #[.pointer (some ⟨f, 1037, none⟩)] m12 fun v16 m17 => ∃ (a13 : Option Addr), ∃ (l14 : Nat), ∃ (k15 : Nat), v16 = .slice a13 l14 k15 ∧ StW m17 ⟨f, 1049, none⟩ (.slice a13 l14 k15) fun m18 => StW m18 ⟨f, 1045, none⟩ (.func (.func f_decompressor_huffmanBlock) #[] #[]) fun m19 => StW m19 ⟨f, 1046, none⟩ (.int .i64 0) fun m20 => K.kr [(0, .pointer (some ⟨f, 0, none⟩)), (2, .int .i64 x3), (3, v4), (4, .int .u64 0), (5, .int .i64 0), (13, .int .i64 x1)] m20) (K.kg 0 [(0, .pointer (some ⟨f, 0, none⟩)), (2, .int .i64 x3), (3, v4), (4, .int .u64 0), (5, .int .i64 0), (13, .int .i64 x1)] m12)) (ifB (x3 == 256) (CallM PP f_decompressor_finishBlock #[.pointer (some ⟨f, 0, none⟩)] m6 fun v21 m22 => v21 = .tuple #[] ∧ K.kr [(0, .pointer (some ⟨f, 0, none⟩)), (2, .int .i64 x3), (3, v4), (4, .int .u64 0), (5, .int .i64 0), (13, .int .i64 x1)] m22) (ifB (decide (x3 < 265)) (WPS PP 362 c_decompressor_huffmanBlock_lrrlrrrrr (K.withN fun r m => wpc PP FF 362 L_decompressor_huffmanBlock c_decompressor_huffmanBlock_lrrr K r m) [(0, .pointer (some ⟨f, 0, none⟩)), (2, .int .i64 x3), (3, v4), (4, .int .u64 0), (5, .int .i64 (IntKind.wrap .i64 (x3 - 254))), (13, .int .i64 x1)] m6) (ifB (decide (x3 < 269)) (WPS PP 362 c_decompressor_huffmanBlock_lrrlrrrrr (K.withN fun r m => wpc PP FF 362 L_decompressor_huffmanBlock c_decompressor_huffmanBlock_lrrr K r m) [(0, .pointer (some ⟨f, 0, none⟩)), (2, .int .i64 x3), (3, v4), (4, .int .u64 1), (5, .int .i64 (IntKind.wrap .i64 ((IntKind.wrap .i64 (x3 * 2)) - 519))), (13, .int .i64 x1)] m6) (ifB (decide (x3 < 273)) (WPS PP 362 c_decompressor_huffmanBlock_lrrlrrrrr (K.withN fun r m => wpc PP FF 362 L_decompressor_huffmanBlock c_decompressor_huffmanBlock_lrrr K r m) [(0, .pointer (some ⟨f, 0, none⟩)), (2, .int .i64 x3), (3, v4), (4, .int .u64 2), (5, .int .i64 (IntKind.wrap .i64 ((IntKind.wrap .i64 (x3 * 4)) - 1057))), (13, .int .i64 x1)] m6) (ifB (decide (x3 < 277)) (WPS PP 362 c_decompressor_huffmanBlock_lrrlrrrrr (K.withN fun r m => wpc PP FF 362 L_decompressor_huffmanBlock c_decompressor_huffmanBlock_lrrr K r m) [(0, .pointer (some ⟨f, 0, none⟩)), (2, .int .i64 x3), (3, v4), (4, .int .u64 3), (5, .int .i64 (IntKind.wrap .i64 ((IntKind.wrap .i64 (x3 * 8)) - 2149))), (13, .int .i64 x1)] m6) (ifB (decide (x3 < 281)) (WPS PP 362 c_decompressor_huffmanBlock_lrrlrrrrr (K.withN fun r m => wpc PP FF 362 L_decompressor_huffmanBlock c_decompressor_huffmanBlock_lrrr K r m) [(0, .pointer (some ⟨f, 0, none⟩)), (2, .int .i64 x3), (3, v4), (4, .int .u64 4), (5, .int .i64 (IntKind.wrap .i64 ((IntKind.wrap .i64 (x3 * 16)) - 4365))), (13, .int .i64 x1)] m6) (ifB (decide (x3 < 285)) (WPS PP 362 c_decompressor_huffmanBlock_lrrlrrrrr (K.withN fun r m => wpc PP FF 362 L_decompressor_huffmanBlock c_decompressor_huffmanBlock_lrrr K r m) [(0, .pointer (some ⟨f, 0, none⟩)), (2, .int .i64 x3), (3, v4), (4, .int .u64 5), (5, .int .i64 (IntKind.wrap .i64 ((IntKind.wrap .i64 (x3 * 32)) - 8861))), (13, .int .i64 x1)] m6) (ifB (decide (x3 < 286)) (WPS PP 362 c_decompressor_huffmanBlock_lrrlrrrrr (K.withN fun r m => wpc PP FF 362 L_decompressor_huffmanBlock c_decompressor_huffmanBlock_lrrr K r m) [(0, .pointer (some ⟨f, 0, none⟩)), (2, .int .i64 x3), (3, v4), (4, .int .u64 0), (5, .int .i64 258), (13, .int .i64 x1)] m6) (∃ (x23 : Int), cell? m6 ⟨f, 2, none⟩ = some (.int .i64 x23) ∧ StW m6 ⟨f, 1048, none⟩ (.iface t_flate_CorruptInputError (.int .i64 x23)) fun m24 => K.kr [(0, .pointer (some ⟨f, 0, none⟩)), (2, .int .i64 x3), (3, v4), (4, .int .u64 0), (5, .int .i64 0), (13, .int .i64 x1)] m24))))))))))))  ) :
    wpc PP FF 362 L_decompressor_huffmanBlock c_decompressor_huffmanBlock_l K [(0, .pointer (some ⟨f, 0, none⟩))] m :=
  Eq.mpr (by kernel_rfl) h

def k_decompressor_huffmanBlock_lrr : List Nat := [0]
theorem p_decompressor_huffmanBlock_lrr (f : Nat) (m : Mem) (K : Kont)
    (h : ∃ (p1 : Option Addr), cell? m ⟨f, 1050, none⟩ = some (.pointer p1) ∧ CallM PP f_decompressor_huffSym #[.pointer (some ⟨f, 0, none⟩), .pointer p1] m fun v4 m5 => ∃ (x2 : Int), ∃ (v3 : Value), v4 = .tuple #[.int .i64 x2, v3] ∧ isIfc v3 = true ∧ ifB (!(isNil v3)) (StW m5 ⟨f, 1048, none⟩ v3 fun m6 => K.kr [(0, .pointer (some ⟨f, 0, none⟩)), (2, .int .i64 x2), (3, v3)] m6) (ifB (decide (x2 < 256)) (CallM PP f_dictDecoder_writeByte #[.pointer (some ⟨f, 1037, none⟩), .int .u8 (IntKind.wrap .u8 x2)] m5 fun v7 m8 => v7 = .tuple #[] ∧ CallM PP f_dictDecoder_availWrite #[.pointer (some ⟨f, 1037, none⟩)] m8 fun v10 m11 => ∃ (x9 : Int), v10 = .int .i64 x9 ∧ ifB (x9 == 0) (CallM PP f_dictDecoder_readFlush #[.pointer (some ⟨f, 1037, none⟩)] m11 fun v15 m16 => ∃ (a12 : Option Addr), ∃ (l13 : Nat), ∃ (k14 : Nat), v15 = .slice a12 l13 k14 ∧ StW m16 ⟨f, 1049, none⟩ (.slice a12 l13 k14) fun m17 => StW m17 ⟨f, 1045, none⟩ (.func (.func f_decompressor_huffmanBlock) #[] #[]) fun m18 => StW m18 ⟨f, 1046, none⟩ (.int .i64 0) fun m19 => K.kr [(0, .pointer (some ⟨f, 0, none⟩)), (2, .int .i64 x2), (3, v3), (4, .int .u64 0), (5, .int .i64 0)] m19) (K.kg 0 [(0, .pointer (some ⟨f, 0, none⟩)), (2, .int .i64 x2), (3, v3), (4, .int .u64 0), (5, .int .i64 0)] m11)) (ifB (x2 == 256) (CallM PP f_decompressor_finishBlock #[.pointer (some ⟨f, 0, none⟩)] m5 fun v20 m21 => v20 = .tuple #[] ∧ K.kr [(0, .pointer (some ⟨f, 0, none⟩)), (2, .int .i64 x2), (3, v3), (4, .int .u64 0), (5, .int .i64 0)] m21) (ifB (decide (x2 < 265)) (WPS PP 362 c_decompressor_huffmanBlock_lrrlrrrrr (K.withN fun r m => wpc PP FF 362 L_decompressor_huffmanBlock c_decompressor_huffmanBlock_lrrr K r m) [(0, .pointer (some ⟨f, 0, none⟩)), (2, .int .i64 x2), (3, v3), (4, .int .u64 0), (5, .int .i64 (IntKind.wrap .i64 (x2 - 254)))] m5) (ifB (decide (x2 < 269)) (WPS PP 362 c_decompressor_huffmanBlock_lrrlrrrrr (K.withN fun r m => wpc PP FF 362 L_decompressor_huffmanBlock c_decompressor_huffmanBlock_lrrr K r m) [(0, .pointer (some ⟨f, 0, none⟩)), (2, .int .i64 x2), (3, v3), (4, .int .u64 1), (5, .int .i64 (IntKind.wrap .i64 ((IntKind.wrap .i64 (x2 * 2)) - 519)))] m5) (ifB (decide (x2 < 273)) (WPS PP 362 c_decompressor_huffmanBlock_lrrlrrrrr (K.withN fun r m => wpc PP FF 362 L_decompressor_huffmanBlock c_decompressor_huffmanBlock_lrrr K r m) [(0, .pointer (some ⟨f, 0, none⟩)), (2, .int .i64 x2), (3, v3), (4, .int .u64 2), (5, .int .i64 (IntKind.wrap .i64 ((IntKind.wrap .i64 (x2 * 4)) - 1057)))] m5) (ifB (decide (x2 < 277)) (WPS PP 362 c_decompressor_huffmanBlock_lrrlrrrrr (K.withN fun r m => wpc PP FF 362 L_decompressor_huffmanBlock c_decompressor_huffmanBlock_lrrr K r m) [(0, .pointer (some ⟨f, 0, none⟩)), (2, .int .i64 x2), (3, v3), (4, .int .u64 3), (5, .int .i64 (IntKind.wrap .i64 ((IntKind.wrap .i64 (x2 * 8)) - 2149)))] m5) (ifB (decide (x2 < 281)) (WPS PP 362 c_decompressor_huffmanBlock_lrrlrrrrr (K.withN fun r m => wpc PP FF 362 L_decompressor_huffmanBlock c_decompressor_huffmanBlock_lrrr K r m) [(0, .pointer (some ⟨f, 0, none⟩)), (2, .int .i64 x2), (3, v3), (4, .int .u64 4), (5, .int .i64 (IntKind.wrap .i64 ((IntKind.wrap .i64 (x2 * 16)) - 4365)))] m5) (ifB (decide (x2 < 285)) (WPS PP 362 c_decompressor_huffmanBlock_lrrlrrrrr (K.withN fun r m => wpc PP FF 362 L_decompressor_huffmanBlock c_decompressor_huffmanBlock_lrrr K r m) [(0, .pointer (some ⟨f, 0, none⟩)), (2, .int .i64 x2), (3, v3), (4, .int .u64 5), (5, .int .i64 (IntKind.wrap .i64 ((IntKind.wrap .i64 (x2 * 32)) - 8861)))] m5) (ifB (decide (x2 < 286)) (WPS PP 362 c_decompressor_huffmanBlock_lrrlrrrrr (K.withN fun r m => wpc PP FF 362 L_decompressor_huffmanBlock c_decompressor_huffmanBlock_lrrr K r m) [(0, .pointer (some ⟨f, 0, none⟩)), (2, .int .i64 x2), (3, v3), (4, .int .u64 0), (5, .int .i64 258)] m5) (∃ (x22 : Int), cell? m5 ⟨f, 2, none⟩ = some (.int .i64 x22) ∧ StW m5 ⟨f, 1048, none⟩ (.iface t_flate_CorruptInputError (.int .i64 x22)) fun m23 => K.kr [(0, .pointer (some ⟨f, 0, none⟩)), (2, .int .i64 x2), (3, v3), (4, .int .u64 0), (5, .int .i64 0)] m23))))))))))  ) :
    wpc PP FF 362 L_decompressor_huffmanBlock c_decompressor_huffmanBlock_lrr K [(0, .pointer (some ⟨f, 0, none⟩))] m :=
  Eq.mpr (by kernel_rfl) h

def k_decompressor_huffmanBlock_lrrrr : List Nat := [0]
theorem p_decompressor_huffmanBlock_lrrrr (f : Nat) (m : Mem) (K : Kont)
    (h : ∃ (x1 : Int), cell? m ⟨f, 1053, none⟩ = some (.int .i64 x1) ∧ ∃ (x2 : Int), cell? m ⟨f, 1052, none⟩ = some (.int .i64 x2) ∧ CallM PP f_dictDecoder_tryWriteCopy #[.pointer (some ⟨f, 1037, none⟩), .int .i64 x1, .int .i64 x2] m fun v4 m5 => ∃ (x3 : Int), v4 = .int .i64 x3 ∧ ifB (x3 == 0) (∃ (x6 : Int), cell? m5 ⟨f, 1053, none⟩ = some (.int .i64 x6) ∧ ∃ (x7 : Int), cell? m5 ⟨f, 1052, none⟩ = some (.int .i64 x7) ∧ CallM PP f_dictDecoder_writeCopy #[.pointer (some ⟨f, 1037, none⟩), .int .i64 x6, .int .i64 x7] m5 fun v9 m10 => ∃ (x8 : Int), v9 = .int .i64 x8 ∧ WPS PP 362 c_decompressor_huffmanBlock_lrrrrrr K [(0, .pointer (some ⟨f, 0, none⟩)), (9, .int .i64 x8)] m10) (WPS PP 362 c_decompressor_huffmanBlock_lrrrrrr K [(0, .pointer (some ⟨f, 0, none⟩)), (9, .int .i64 x3)] m5)  ) :
    wpc PP FF 362 L_decompressor_huffmanBlock c_decompressor_huffmanBlock_lrrrr K [(0, .pointer (some ⟨f, 0, none⟩))] m :=
  Eq.mpr (by kernel_rfl) h

def k_decompressor_huffmanBlock_lrrlrrrrrlrllll : List Nat := [0, 4, 5]
theorem p_decompressor_huffmanBlock_lrrlrrrrrlrllll (f : Nat) (x1 : Int) (x2 : Int) (m : Mem) (K : Kont)
    (h : ∃ (x3 : Int), cell? m ⟨f, 4, none⟩ = some (.int .u64 x3) ∧ ifB (decide (x3 < x1)) (CallM PP f_decompressor_moreBits #[.pointer (some ⟨f, 0, none⟩)] m fun v5 m6 => ∃ (v4 : Value), v5 = v4 ∧ isIfc v4 = true ∧ ifB (!(isNil v4)) (StW m6 ⟨f, 1048, none⟩ v4 fun m7 => K.kr [(0, .pointer (some ⟨f, 0, none⟩)), (3, v4), (4, .int .u64 x1), (5, .int .i64 x2)] m7) (K.kn [(0, .pointer (some ⟨f, 0, none⟩)), (3, v4), (4, .int .u64 x1), (5, .int .i64 x2)] m6)) (K.kx 2 [(0, .pointer (some ⟨f, 0, none⟩)), (4, .int .u64 x1), (5, .int .i64 x2)] m)) :
    wpc PP FF 362 L_decompressor_huffmanBlock c_decompressor_huffmanBlock_lrrlrrrrrlrllll K [(0, .pointer (some ⟨f, 0, none⟩)), (4, .int .u64 x1), (5, .int .i64 x2)] m :=
  Eq.mpr (by kernel_rfl) h

def k_decompressor_huffmanBlock_lrrlrrrrrrrlrllll : List Nat := [0, 5]
theorem p_decompressor_huffmanBlock_lrrlrrrrrrrlrllll (f : Nat) (x1 : Int) (m : Mem) (K : Kont)
    (h : ∃ (x2 : Int), cell? m ⟨f, 4, none⟩ = some (.int .u64 x2) ∧ ifB (decide (x2 < 5)) (CallM PP f_decompressor_moreBits #[.pointer (some ⟨f, 0, none⟩)] m fun v4 m5 => ∃ (v3 : Value), v4 = v3 ∧ isIfc v3 = true ∧ ifB (!(isNil v3)) (StW m5 ⟨f, 1048, none⟩ v3 fun m6 => K.kr [(0, .pointer (some ⟨f, 0, none⟩)), (3, v3), (5, .int .i64 x1)] m6) (K.kn [(0, .pointer (some ⟨f, 0, none⟩)), (3, v3), (5, .int .i64 x1)] m5)) (K.kx 4 [(0, .pointer (some ⟨f, 0, none⟩)), (5, .int .i64 x1)] m)) :
    wpc PP FF 362 L_decompressor_huffmanBlock c_decompressor_huffmanBlock_lrrlrrrrrrrlrllll K [(0, .pointer (some ⟨f, 0, none⟩)), (5, .int .i64 x1)] m :=
  Eq.mpr (by kernel_rfl) h

def k_decompressor_huffmanBlock_lrrlrrrrrrrrllrrrlrrlll : List Nat := [0, 5, 7, 8]
theorem p_decompressor_huffmanBlock_lrrlrrrrrrrrllrrrlrrlll (f : Nat) (x1 : Int) (x2 : Int) (x3 : Int) (m : Mem) (K : Kont)
    (h : ∃ (x4 : Int), cell? m ⟨f, 4, none⟩ = some (.int .u64 x4) ∧ ifB (decide (x4 < x2)) (CallM PP f_decompressor_moreBits #[.pointer (some ⟨f, 0, none⟩)] m fun v6 m7 => ∃ (v5 : Value), v6 = v5 ∧ isIfc v5 = true ∧ ifB (!(isNil v5)) (StW m7 ⟨f, 1048, none⟩ v5 fun m8 => K.kr [(0, .pointer (some ⟨f, 0, none⟩)), (3, v5), (5, .int .i64 x1), (7, .int .u64 x2), (8, .int .i64 x3)] m8) (K.kn [(0, .pointer (some ⟨f, 0, none⟩)), (3, v5), (5, .int .i64 x1), (7, .int .u64 x2), (8, .int .i64 x3)] m7)) (K.kx 7 [(0, .pointer (some ⟨f, 0, none⟩)), (5, .int .i64 x1), (7, .int .u64 x2), (8, .int .i64 x3)] m)) :
    wpc PP FF 362 L_decompressor_huffmanBlock c_decompressor_huffmanBlock_lrrlrrrrrrrrllrrrlrrlll K [(0, .pointer (some ⟨f, 0, none⟩)), (5, .int .i64 x1), (7, .int .u64 x2), (8, .int .i64 x3)] m :=
  Eq.mpr (by kernel_rfl) h

def k_decompressor_huffmanBlock_lrrr : List Nat := [0]
theorem p_decompressor_huffmanBlock_lrrr (f : Nat) (m : Mem) (K : Kont)
    (h : ∃ (x1 : Int), cell? m ⟨f, 1053, none⟩ = some (.int .i64 x1) ∧ ∃ (x2 : Int), cell? m ⟨f, 1052, none⟩ = some (.int .i64 x2) ∧ CallM PP f_dictDecoder_tryWriteCopy #[.pointer (some ⟨f, 1037, none⟩), .int .i64 x1, .int .i64 x2] m fun v4 m5 => ∃ (x3 : Int), v4 = .int .i64 x3 ∧ ifB (x3 == 0) (∃ (x6 : Int), cell? m5 ⟨f, 1053, none⟩ = some (.int .i64 x6) ∧ ∃ (x7 : Int), cell? m5 ⟨f, 1052, none⟩ = some (.int .i64 x7) ∧ CallM PP f_dictDecoder_writeCopy #[.pointer (some ⟨f, 1037, none⟩), .int .i64 x6, .int .i64 x7] m5 fun v9 m10 => ∃ (x8 : Int), v9 = .int .i64 x8 ∧ WPS PP 362 c_decompressor_huffmanBlock_lrrrrrr K [(0, .pointer (some ⟨f, 0, none⟩)), (9, .int .i64 x8)] m10) (WPS PP 362 c_decompressor_huffmanBlock_lrrrrrr K [(0, .pointer (some ⟨f, 0, none⟩)), (9, .int .i64 x3)] m5)  ) :
    wpc PP FF 362 L_decompressor_huffmanBlock c_decompressor_huffmanBlock_lrrr K [(0, .pointer (some ⟨f, 0, none⟩))] m :=
  Eq.mpr (by kernel_rfl) h

def k_decompressor_huffmanBlock_lrrrrrr : List Nat := [0, 9]
theorem p_decompressor_huffmanBlock_lrrrrrr (f : Nat) (x1 : Int) (m : Mem) (K : Kont)
    (h : ∃ (x2 : Int), cell? m ⟨f, 1052, none⟩ = some (.int .i64 x2) ∧ StW m ⟨f, 1052, none⟩ (.int .i64 (IntKind.wrap .i64 (x2 - x1))) fun m3 => CallM PP f_dictDecoder_availWrite #[.pointer (some ⟨f, 1037, none⟩)] m3 fun v5 m6 => ∃ (x4 : Int), v5 = .int .i64 x4 ∧ ifB (x4 == 0) (CallM PP f_dictDecoder_readFlush #[.pointer (some ⟨f, 1037, none⟩)] m6 fun v10 m11 => ∃ (a7 : Option Addr), ∃ (l8 : Nat), ∃ (k9 : Nat), v10 = .slice a7 l8 k9 ∧ StW m11 ⟨f, 1049, none⟩ (.slice a7 l8 k9) fun m12 => StW m12 ⟨f, 1045, none⟩ (.func (.func f_decompressor_huffmanBlock) #[] #[]) fun m13 => StW m13 ⟨f, 1046, none⟩ (.int .i64 1) fun m14 => K.kr [(0, .pointer (some ⟨f, 0, none⟩)), (9, .int .i64 x1)] m14) (∃ (x15 : Int), cell? m6 ⟨f, 1052, none⟩ = some (.int .i64 x15) ∧ ifB (decide (x15 > 0)) (CallM PP f_dictDecoder_readFlush #[.pointer (some ⟨f, 1037, none⟩)] m6 fun v19 m20 => ∃ (a16 : Option Addr), ∃ (l17 : Nat), ∃ (k18 : Nat), v19 = .slice a16 l17 k18 ∧ StW m20 ⟨f, 1049, none⟩ (.slice a16 l17 k18) fun m21 => StW m21 ⟨f, 1045, none⟩ (.func (.func f_decompressor_huffmanBlock) #[] #[]) fun m22 => StW m22 ⟨f, 1046, none⟩ (.int .i64 1) fun m23 => K.kr [(0, .pointer (some ⟨f, 0, none⟩)), (9, .int .i64 x1)] m23) (K.kg 0 [(0, .pointer (some ⟨f, 0, none⟩)), (9, .int .i64 x1)] m6))) :
    wpc PP FF 362 L_decompressor_huffmanBlock c_decompressor_huffmanBlock_lrrrrrr K [(0, .pointer (some ⟨f, 0, none⟩)), (9, .int .i64 x1)] m :=
  Eq.mpr (by kernel_rfl) h

def k_decompressor_huffmanBlock_lrrlrrrrr : List Nat := [0, 4, 5]
theorem p_decompressor_huffmanBlock_lrrlrrrrr (f : Nat) (x1 : Int) (x2 : Int) (m : Mem) (K : Kont)
    (h : ifB (decide (x1 > 0)) (WPS PP 362 c_decompressor_huffmanBlock_lrrlrrrrrlrlll (((K.withN fun r m => WPS PP 362 c_decompressor_huffmanBlock_lrrlrrrrrr K r m).withN fun r m => WPS PP 362 c_decompressor_huffmanBlock_lrrlrrrrrlrlr (K.withN fun r m => WPS PP 362 c_decompressor_huffmanBlock_lrrlrrrrrr K r m) r m).withX 2) [(0, .pointer (some ⟨f, 0, none⟩)), (4, .int .u64 x1), (5, .int .i64 x2)] m) (WPS PP 362 c_decompressor_huffmanBlock_lrrlrrrrrr K [(0, .pointer (some ⟨f, 0, none⟩)), (4, .int .u64 x1), (5, .int .i64 x2)] m)) :
    wpc PP FF 362 L_decompressor_huffmanBlock c_decompressor_huffmanBlock_lrrlrrrrr K [(0, .pointer (some ⟨f, 0, none⟩)), (4, .int .u64 x1), (5, .int .i64 x2)] m :=
  Eq.mpr (by kernel_rfl) h

def k_decompressor_huffmanBlock_lrrlrrrrrr : List Nat := [0, 5]
theorem p_decompressor_huffmanBlock_lrrlrrrrrr (f : Nat) (x1 : Int) (m : Mem) (K : Kont)
    (h : ∃ (p2 : Option Addr), cell? m ⟨f, 1051, none⟩ = some (.pointer p2) ∧ ifB p2.isNone (WPS PP 362 c_decompressor_huffmanBlock_lrrlrrrrrrrlrlll (((K.withN fun r m => WPS PP 362 c_decompressor_huffmanBlock_lrrlrrrrrrrr K r m).withN fun r m => WPS PP 362 c_decompressor_huffmanBlock_lrrlrrrrrrrlrlr (K.withN fun r m => WPS PP 362 c_decompressor_huffmanBlock_lrrlrrrrrrrr K r m) r m).withX 4) [(0, .pointer (some ⟨f, 0, none⟩)), (5, .int .i64 x1), (6, .int .i64 0)] m) (∃ (p3 : Option Addr), cell? m ⟨f, 1051, none⟩ = some (.pointer p3) ∧ CallM PP f_decompressor_huffSym #[.pointer (some ⟨f, 0, none⟩), .pointer p3] m fun v6 m7 => ∃ (x4 : Int), ∃ (v5 : Value), v6 = .tuple #[.int .i64 x4, v5] ∧ isIfc v5 = true ∧ ifB (!(isNil v5)) (StW m7 ⟨f, 1048, none⟩ v5 fun m8 => K.kr [(0, .pointer (some ⟨f, 0, none⟩)), (3, v5), (5, .int .i64 x1), (6, .int .i64 x4)] m8) (WPS PP 362 c_decompressor_huffmanBlock_lrrlrrrrrrrr K [(0, .pointer (some ⟨f, 0, none⟩)), (3, v5), (5, .int .i64 x1), (6, .int .i64 x4)] m7))) :
    wpc PP FF 362 L_decompressor_huffmanBlock c_decompressor_huffmanBlock_lrrlrrrrrr K [(0, .pointer (some ⟨f, 0, none⟩)), (5, .int .i64 x1)] m :=
  Eq.mpr (by kernel_rfl) h

def k_decompressor_huffmanBlock_lrrlrrrrrlrlr : List Nat := [0, 4, 5]
theorem p_decompressor_huffmanBlock_lrrlrrrrrlrlr (f : Nat) (x1 : Int) (x2 : Int) (m : Mem) (K : Kont)
    (h : ∃ (x3 : Int), cell? m ⟨f, 3, none⟩ = some (.int .u32 x3) ∧ 0 ≤ x1 ∧ IntKind.u32 = IntKind.u32 ∧ ∃ (x4 : Int), cell? m ⟨f, 3, none⟩ = some (.int .u32 x4) ∧ 0 ≤ x1 ∧ StW m ⟨f, 3, none⟩ (.int .u32 (shrOp .u32 x4 x1)) fun m5 => ∃ (x6 : Int), cell? m5 ⟨f, 4, none⟩ = some (.int .u64 x6) ∧ StW m5 ⟨f, 4, none⟩ (.int .u64 (IntKind.wrap .u64 (x6 - x1))) fun m7 => K.kn [(0, .pointer (some ⟨f, 0, none⟩)), (4, .int .u64 x1), (5, .int .i64 (IntKind.wrap .i64 (x2 + (IntKind.wrap .i64 (bitsOp .and .u32 x3 (IntKind.wrap .u32 ((shlOp .u32 1 x1) - 1)))))))] m7) :
    wpc PP FF 362 L_decompressor_huffmanBlock c_decompressor_huffmanBlock_lrrlrrrrrlrlr K [(0, .pointer (some ⟨f, 0, none⟩)), (4, .int .u64 x1), (5, .int .i64 x2)] m :=
  Eq.mpr (by kernel_rfl) h

def k_decompressor_huffmanBlock_lrrlrrrrrrrr : List Nat := [0, 5, 6]
theorem p_decompressor_huffmanBlock_lrrlrrrrrrrr (f : Nat) (x1 : Int) (x2 : Int) (m : Mem) (K : Kont)
    (h : ifB (decide (x2 < 4)) (WPS PP 362 c_decompressor_huffmanBlock_lrrlrrrrrrrrr K [(0, .pointer (some ⟨f, 0, none⟩)), (5, .int .i64 x1), (6, .int .i64 (IntKind.wrap .i64 (x2 + 1)))] m) (ifB (decide (x2 < 30)) (0 ≤ (1 : Int) ∧ IntKind.i64 = IntKind.i64 ∧ 0 ≤ (shrOp .u64 (IntKind.wrap .u64 (IntKind.wrap .i64 (x2 - 2))) 1) ∧ WPS PP 362 c_decompressor_huffmanBlock_lrrlrrrrrrrrllrrrlrrll ((((K.withN fun r m => WPS PP 362 c_decompressor_huffmanBlock_lrrlrrrrrrrrr K r m).withX 6).withN fun r m => WPS PP 362 c_decompressor_huffmanBlock_lrrlrrrrrrrrllrrrlrrr ((K.withN fun r m => WPS PP 362 c_decompressor_huffmanBlock_lrrlrrrrrrrrr K r m).withX 6) r m).withX 7) [(0, .pointer (some ⟨f, 0, none⟩)), (5, .int .i64 x1), (6, .int .i64 x2), (7, .int .u64 (shrOp .u64 (IntKind.wrap .u64 (IntKind.wrap .i64 (x2 - 2))) 1)), (8, .int .i64 (shlOp .i64 (bitsOp .and .i64 x2 1) (shrOp .u64 (IntKind.wrap .u64 (IntKind.wrap .i64 (x2 - 2))) 1)))] m) (∃ (x3 : Int), cell? m ⟨f, 2, none⟩ = some (.int .i64 x3) ∧ StW m ⟨f, 1048, none⟩ (.iface t_flate_CorruptInputError (.int .i64 x3)) fun m4 => K.kr [(0, .pointer (some ⟨f, 0, none⟩)), (5, .int .i64 x1), (6, .int .i64 x2)] m4))) :
    wpc PP FF 362 L_decompressor_huffmanBlock c_decompressor_huffmanBlock_lrrlrrrrrrrr K [(0, .pointer (some ⟨f, 0, none⟩)), (5, .int .i64 x1), (6, .int .i64 x2)] m :=
  Eq.mpr (by kernel_rfl) h

def k_decompressor_huffmanBlock_lrrlrrrrrrrlrlr : List Nat := [0, 5]
theorem p_decompressor_huffmanBlock_lrrlrrrrrrrlrlr (f : Nat) (x1 : Int) (m : Mem) (K : Kont)
    (h : ∃ (x2 : Int), cell? m ⟨f, 3, none⟩ = some (.int .u32 x2) ∧ IntKind.u32 = IntKind.u32 ∧ 0 ≤ (3 : Int) ∧ CallM PP f_bits_Reverse8 #[.int .u8 (IntKind.wrap .u8 (shlOp .u32 (bitsOp .and .u32 x2 31) 3))] m fun v4 m5 => ∃ (x3 : Int), v4 = .int .u8 x3 ∧ ∃ (x6 : Int), cell? m5 ⟨f, 3, none⟩ = some (.int .u32 x6) ∧ 0 ≤ (5 : Int) ∧ StW m5 ⟨f, 3, none⟩ (.int .u32 (shrOp .u32 x6 5)) fun m7 => ∃ (x8 : Int), cell? m7 ⟨f, 4, none⟩ = some (.int .u64 x8) ∧ StW m7 ⟨f, 4, none⟩ (.int .u64 (IntKind.wrap .u64 (x8 - 5))) fun m9 => K.kn [(0, .pointer (some ⟨f, 0, none⟩)), (5, .int .i64 x1), (6, .int .i64 (IntKind.wrap .i64 x3))] m9) :
    wpc PP FF 362 L_decompressor_huffmanBlock c_decompressor_huffmanBlock_lrrlrrrrrrrlrlr K [(0, .pointer (some ⟨f, 0, none⟩)), (5, .int .i64 x1)] m :=
  Eq.mpr (by kernel_rfl) h

def k_decompressor_huffmanBlock_lrrlrrrrrrrrr : List Nat := [0, 5, 6]
theorem p_decompressor_huffmanBlock_lrrlrrrrrrrrr (f : Nat) (x1 : Int) (x2 : Int) (m : Mem) (K : Kont)
    (h : CallM PP f_dictDecoder_histSize #[.pointer (some ⟨f, 1037, none⟩)] m fun v4 m5 => ∃ (x3 : Int), v4 = .int .i64 x3 ∧ ifB (decide (x2 > x3)) (∃ (x6 : Int), cell? m5 ⟨f, 2, none⟩ = some (.int .i64 x6) ∧ StW m5 ⟨f, 1048, none⟩ (.iface t_flate_CorruptInputError (.int .i64 x6)) fun m7 => K.kr [(0, .pointer (some ⟨f, 0, none⟩)), (5, .int .i64 x1), (6, .int .i64 x2)] m7) (StW m5 ⟨f, 1052, none⟩ (.int .i64 x1) fun m8 => StW m8 ⟨f, 1053, none⟩ (.int .i64 x2) fun m9 => K.kg 1 [(0, .pointer (some ⟨f, 0, none⟩)), (5, .int .i64 x1), (6, .int .i64 x2)] m9)) :
    wpc PP FF 362 L_decompressor_huffmanBlock c_decompressor_huffmanBlock_lrrlrrrrrrrrr K [(0, .pointer (some ⟨f, 0, none⟩)), (5, .int .i64 x1), (6, .int .i64 x2)] m :=
  Eq.mpr (by kernel_rfl) h

def k_decompressor_huffmanBlock_lrrlrrrrrrrrllrrrlrrr : List Nat := [0, 5, 7, 8]
theorem p_decompressor_huffmanBlock_lrrlrrrrrrrrllrrrlrrr (f : Nat) (x1 : Int) (x2 : Int) (x3 : Int) (m : Mem) (K : Kont)
    (h : ∃ (x4 : Int), cell? m ⟨f, 3, none⟩ = some (.int .u32 x4) ∧ 0 ≤ x2 ∧ IntKind.u32 = IntKind.u32 ∧ IntKind.i64 = IntKind.i64 ∧ ∃ (x5 : Int), cell? m ⟨f, 3, none⟩ = some (.int .u32 x5) ∧ 0 ≤ x2 ∧ StW m ⟨f, 3, none⟩ (.int .u32 (shrOp .u32 x5 x2)) fun m6 => ∃ (x7 : Int), cell? m6 ⟨f, 4, none⟩ = some (.int .u64 x7) ∧ StW m6 ⟨f, 4, none⟩ (.int .u64 (IntKind.wrap .u64 (x7 - x2))) fun m8 => 0 ≤ (IntKind.wrap .u64 (x2 + 1)) ∧ K.kn [(0, .pointer (some ⟨f, 0, none⟩)), (5, .int .i64 x1), (6, .int .i64 (IntKind.wrap .i64 ((IntKind.wrap .i64 ((shlOp .i64 1 (IntKind.wrap .u64 (x2 + 1))) + 1)) + (bitsOp .or .i64 x3 (IntKind.wrap .i64 (bitsOp .and .u32 x4 (IntKind.wrap .u32 ((shlOp .u32 1 x2) - 1)))))))), (7, .int .u64 x2), (8, .int .i64 (bitsOp .or .i64 x3 (IntKind.wrap .i64 (bitsOp .and .u32 x4 (IntKind.wrap .u32 ((shlOp .u32 1 x2) - 1))))))] m8) :
    wpc PP FF 362 L_decompressor_huffmanBlock c_decompressor_huffmanBlock_lrrlrrrrrrrrllrrrlrrr K [(0, .pointer (some ⟨f, 0, none⟩)), (5, .int .i64 x1), (7, .int .u64 x2), (8, .int .i64 x3)] m :=
  Eq.mpr (by kernel_rfl) h

/-! (*loop.example/pub-inflation/pub/inflate.decompressor).readHuffman -/
def L_decompressor_readHuffman : List Nat := [0, 2, 3, 4, 5, 6, 7, 8, 9, 10, 11, 12, 13, 14, 15, 16, 17, 18, 23, 27, 37, 58, 94, 101, 105, 138, 160, 171, 181, 184, 195, 197, 200, 215, 217, 224, 228, 261, 269, 310, 328]
def r_decompressor_readHuffman : List ResultVar := [.tmp 2]
noncomputable def c_decompressor_readHuffman : Code := (Go.Proofs.Tryd.f23.body).getD .skip
theorem b_decompressor_readHuffman : Go.Proofs.Tryd.f23.body = some c_decompressor_readHuffman := by kernel_rfl
noncomputable def c_decompressor_readHuffman_rr : Code := (rgt (rgt c_decompressor_readHuffman))
noncomputable def c_decompressor_readHuffman_rll : Code := (lft (lft (rgt c_decompressor_readHuffman)))
noncomputable def c_decompressor_readHuffman_rlll : Code := (lft c_decompressor_readHuffman_rll)
noncomputable def c_decompressor_readHuffman_rrrrrrrrrrrr : Code := (rgt (rgt (rgt (rgt (rgt (rgt (rgt (rgt (rgt (rgt c_decompressor_readHuffman_rr))))))))))
noncomputable def c_decompressor_readHuffman_rrrrrrrrrrrrr : Code := (rgt c_decompressor_readHuffman_rrrrrrrrrrrr)
noncomputable def c_decompressor_readHuffman_rrrrrrrrrrrlrl : Code := (lft (rgt (lft (rgt (rgt (rgt (rgt (rgt (rgt (rgt (rgt (rgt c_decompressor_readHuffman_rr))))))))))))
noncomputable def c_decompressor_readHuffman_rrrrrrrrrrrlrll : Code := (lft c_decompressor_readHuffman_rrrrrrrrrrrlrl)
noncomputable def c_decompressor_readHuffman_rrrrrrrrrrrrlrl : Code := (lft (rgt (lft c_decompressor_readHuffman_rrrrrrrrrrrr)))
noncomputable def c_decompressor_readHuffman_rrrrrrrrrrrrrrr : Code := (rgt (rgt c_decompressor_readHuffman_rrrrrrrrrrrrr))
noncomputable def c_decompressor_readHuffman_rrrrrrrrrrrrlrll : Code := (lft c_decompressor_readHuffman_rrrrrrrrrrrrlrl)
noncomputable def c_decompressor_readHuffman_rrrrrrrrrrrrrrlrl : Code := (lft (rgt (lft (rgt c_decompressor_readHuffman_rrrrrrrrrrrrr))))
noncomputable def c_decompressor_readHuffman_rrrrrrrrrrrlrllrr : Code := (rgt (rgt c_decompressor_readHuffman_rrrrrrrrrrrlrll))
noncomputable def c_decompressor_readHuffman_rrrrrrrrrrrrrrrrr : Code := (rgt (rgt c_decompressor_readHuffman_rrrrrrrrrrrrrrr))
noncomputable def c_decompressor_readHuffman_rrrrrrrrrrrrrrlrll : Code := (lft c_decompressor_readHuffman_rrrrrrrrrrrrrrlrl)
noncomputable def c_decompressor_readHuffman_rrrrrrrrrrrlrllrllr : Code := (rgt (lft (lft (rgt c_decompressor_readHuffman_rrrrrrrrrrrlrll))))
noncomputable def c_decompressor_readHuffman_rrrrrrrrrrrlrllrllll : Code := (lft (lft (lft (lft (rgt c_decompressor_readHuffman_rrrrrrrrrrrlrll)))))
noncomputable def c_decompressor_readHuffman_rrrrrrrrrrrlrllrlllll : Code := (lft c_decompressor_readHuffman_rrrrrrrrrrrlrllrllll)
noncomputable def c_decompressor_readHuffman_rrrrrrrrrrrrrrlrllrlrrrrrrr : Code := (rgt (rgt (rgt (rgt (rgt (rgt (rgt (lft (rgt c_decompressor_readHuffman_rrrrrrrrrrrrrrlrll)))))))))
noncomputable def c_decompressor_readHuffman_rrrrrrrrrrrrrrlrllrlrrrrrrrr : Code := (rgt c_decompressor_readHuffman_rrrrrrrrrrrrrrlrllrlrrrrrrr)
noncomputable def c_decompressor_readHuffman_rrrrrrrrrrrrrrlrllrlrrrrrrrll : Code := (lft (lft c_decompressor_readHuffman_rrrrrrrrrrrrrrlrllrlrrrrrrr))
noncomputable def c_decompressor_readHuffman_rrrrrrrrrrrrrrlrllrlrrrrrrrlll : Code := (lft c_decompressor_readHuffman_rrrrrrrrrrrrrrlrllrlrrrrrrrll)
noncomputable def c_decompressor_readHuffman_rrrrrrrrrrrrrrlrllrlrrrrrrrrrrrrrl : Code := (lft (rgt (rgt (rgt (rgt (rgt c_decompressor_readHuffman_rrrrrrrrrrrrrrlrllrlrrrrrrrr))))))
noncomputable def c_decompressor_readHuffman_rrrrrrrrrrrrrrlrllrlrrrrrrrrrrrrrll : Code := (lft c_decompressor_readHuffman_rrrrrrrrrrrrrrlrllrlrrrrrrrrrrrrrl)
theorem q_decompressor_readHuffman_rll : c_decompressor_readHuffman_rll = .loop c_decompressor_readHuffman_rlll := by kernel_rfl
theorem q_decompressor_readHuffman_rrrrrrrrrrrlrl : c_decompressor_readHuffman_rrrrrrrrrrrlrl = .loop c_decompressor_readHuffman_rrrrrrrrrrrlrll := by kernel_rfl
theorem q_decompressor_readHuffman_rrrrrrrrrrrrlrl : c_decompressor_readHuffman_rrrrrrrrrrrrlrl = .loop c_decompressor_readHuffman_rrrrrrrrrrrrlrll := by kernel_rfl
theorem q_decompressor_readHuffman_rrrrrrrrrrrrrrlrl : c_decompressor_readHuffman_rrrrrrrrrrrrrrlrl = .loop c_decompressor_readHuffman_rrrrrrrrrrrrrrlrll := by kernel_rfl
theorem q_decompressor_readHuffman_rrrrrrrrrrrlrllrllll : c_decompressor_readHuffman_rrrrrrrrrrrlrllrllll = .loop c_decompressor_readHuffman_rrrrrrrrrrrlrllrlllll := by kernel_rfl
theorem q_decompressor_readHuffman_rrrrrrrrrrrrrrlrllrlrrrrrrrll : c_decompressor_readHuffman_rrrrrrrrrrrrrrlrllrlrrrrrrrll = .loop c_decompressor_readHuffman_rrrrrrrrrrrrrrlrllrlrrrrrrrlll := by kernel_rfl
theorem q_decompressor_readHuffman_rrrrrrrrrrrrrrlrllrlrrrrrrrrrrrrrl : c_decompressor_readHuffman_rrrrrrrrrrrrrrlrllrlrrrrrrrrrrrrrl = .loop c_decompressor_readHuffman_rrrrrrrrrrrrrrlrllrlrrrrrrrrrrrrrll := by kernel_rfl
/- the loop at rll: slots [0] -/
/- the loop at rrrrrrrrrrrlrl: slots [0, 4, 5, 6, 7] -/
/- the loop at rrrrrrrrrrrrlrl: slots [0, 4, 5, 9] -/
/- the loop at rrrrrrrrrrrrrrlrl: slots [0, 4, 5, 10, 11] -/
/- the loop at rrrrrrrrrrrlrllrllll: slots [0, 4, 5, 6, 7] -/
/- the loop at rrrrrrrrrrrrrrlrllrlrrrrrrrll: slots [0, 4, 5, 10, 11, 14, 15, 16] -/
/- the loop at rrrrrrrrrrrrrrlrllrlrrrrrrrrrrrrrl: slots [0, 4, 5, 10, 11, 14, 16, 18] -/
theorem e_decompressor_readHuffman (f : Nat) (m : Mem) (R : Value → Mem → Prop)
    (h : WPS PP 340 c_decompressor_readHuffman_rll (((retK PP r_decompressor_readHuffman R).withN fun r m => WPS PP 340 c_decompressor_readHuffman_rr (retK PP r_decompressor_readHuffman R) r m).withX 0) [(0, .pointer (some ⟨f, 0, none⟩)), (2, .nilIface)] m  ) :
    CallM PP f_decompressor_readHuffman #[.pointer (some ⟨f, 0, none⟩)] m R :=
  callM_enter ffOk mixedOk 340 L_decompressor_readHuffman Tryd.func23 b_decompressor_readHuffman Tryd.ntmps23 (by simp) (Eq.mpr (by kernel_rfl) h)

def k_decompressor_readHuffman_rr : List Nat := [0]
theorem p_decompressor_readHuffman_rr (f : Nat) (m : Mem) (K : Kont)
    (h : ∃ (x1 : Int), cell? m ⟨f, 3, none⟩ = some (.int .u32 x1) ∧ IntKind.u32 = IntKind.u32 ∧ ifB (decide ((IntKind.wrap .i64 ((IntKind.wrap .i64 (bitsOp .and .u32 x1 31)) + 257)) > 286)) (∃ (x2 : Int), cell? m ⟨f, 2, none⟩ = some (.int .i64 x2) ∧ K.kr [(0, .pointer (some ⟨f, 0, none⟩)), (2, .iface t_flate_CorruptInputError (.int .i64 x2)), (4, .int .i64 (IntKind.wrap .i64 ((IntKind.wrap .i64 (bitsOp .and .u32 x1 31)) + 257)))] m) (∃ (x3 : Int), cell? m ⟨f, 3, none⟩ = some (.int .u32 x3) ∧ 0 ≤ (5 : Int) ∧ StW m ⟨f, 3, none⟩ (.int .u32 (shrOp .u32 x3 5)) fun m4 => ∃ (x5 : Int), cell? m4 ⟨f, 3, none⟩ = some (.int .u32 x5) ∧ IntKind.u32 = IntKind.u32 ∧ ifB (decide ((IntKind.wrap .i64 ((IntKind.wrap .i64 (bitsOp .and .u32 x5 31)) + 1)) > 30)) (∃ (x6 : Int), cell? m4 ⟨f, 2, none⟩ = some (.int .i64 x6) ∧ K.kr [(0, .pointer (some ⟨f, 0, none⟩)), (2, .iface t_flate_CorruptInputError (.int .i64 x6)), (4, .int .i64 (IntKind.wrap .i64 ((IntKind.wrap .i64 (bitsOp .and .u32 x1 31)) + 257))), (5, .int .i64 (IntKind.wrap .i64 ((IntKind.wrap .i64 (bitsOp .and .u32 x5 31)) + 1)))] m4) (∃ (x7 : Int), cell? m4 ⟨f, 3, none⟩ = some (.int .u32 x7) ∧ 0 ≤ (5 : Int) ∧ StW m4 ⟨f, 3, none⟩ (.int .u32 (shrOp .u32 x7 5)) fun m8 => ∃ (x9 : Int), cell? m8 ⟨f, 3, none⟩ = some (.int .u32 x9) ∧ IntKind.u32 = IntKind.u32 ∧ ∃ (x10 : Int), cell? m8 ⟨f, 3, none⟩ = some (.int .u32 x10) ∧ 0 ≤ (4 : Int) ∧ StW m8 ⟨f, 3, none⟩ (.int .u32 (shrOp .u32 x10 4)) fun m11 => ∃ (x12 : Int), cell? m11 ⟨f, 4, none⟩ = some (.int .u64 x12) ∧ StW m11 ⟨f, 4, none⟩ (.int .u64 (IntKind.wrap .u64 (x12 - 14))) fun m13 => WPS PP 340 c_decompressor_readHuffman_rrrrrrrrrrrlrl ((K.withN fun r m => WPS PP 340 c_decompressor_readHuffman_rrrrrrrrrrrr K r m).withX 2) [(0, .pointer (some ⟨f, 0, none⟩)), (4, .int .i64 (IntKind.wrap .i64 ((IntKind.wrap .i64 (bitsOp .and .u32 x1 31)) + 257))), (5, .int .i64 (IntKind.wrap .i64 ((IntKind.wrap .i64 (bitsOp .and .u32 x5 31)) + 1))), (6, .int .i64 (IntKind.wrap .i64 ((IntKind.wrap .i64 (bitsOp .and .u32 x9 15)) + 4))), (7, .int .i64 0)] m13))  ) :
    wpc PP FF 340 L_decompressor_readHuffman c_decompressor_readHuffman_rr K [(0, .pointer (some ⟨f, 0, none⟩))] m :=
  Eq.mpr (by kernel_rfl) h

def k_decompressor_readHuffman_rlll : List Nat := [0]
theorem p_decompressor_readHuffman_rlll (f : Nat) (m : Mem) (K : Kont)
    (h : ∃ (x1 : Int), cell? m ⟨f, 4, none⟩ = some (.int .u64 x1) ∧ ifB (decide (x1 < 14)) (CallM PP f_decompressor_moreBits #[.pointer (some ⟨f, 0, none⟩)] m fun v3 m4 => ∃ (v2 : Value), v3 = v2 ∧ isIfc v2 = true ∧ ifB (!(isNil v2)) (K.kr [(0, .pointer (some ⟨f, 0, none⟩)), (2, v2), (3, v2)] m4) (K.kn [(0, .pointer (some ⟨f, 0, none⟩)), (3, v2)] m4)) (K.kx 0 [(0, .pointer (some ⟨f, 0, none⟩))] m)  ) :
    wpc PP FF 340 L_decompressor_readHuffman c_decompressor_readHuffman_rlll K [(0, .pointer (some ⟨f, 0, none⟩))] m :=
  Eq.mpr (by kernel_rfl) h

def k_decompressor_readHuffman_rrrrrrrrrrrlrll : List Nat := [0, 4, 5, 6, 7]
theorem p_decompressor_readHuffman_rrrrrrrrrrrlrll (f : Nat) (x1 : Int) (x2 : Int) (x3 : Int) (x4 : Int) (m : Mem) (K : Kont)
    (h : ifB (decide (x4 < x3)) (WPS PP 340 c_decompressor_readHuffman_rrrrrrrrrrrlrllrllll ((((K.withN fun r m => wpc PP FF 340 L_decompressor_readHuffman c_decompressor_readHuffman_rrrrrrrrrrrlrllrr K r m).withX 3).withN fun r m => WPS PP 340 c_decompressor_readHuffman_rrrrrrrrrrrlrllrllr ((K.withN fun r m => wpc PP FF 340 L_decompressor_readHuffman c_decompressor_readHuffman_rrrrrrrrrrrlrllrr K r m).withX 3) r m).withX 4) [(0, .pointer (some ⟨f, 0, none⟩)), (4, .int .i64 x1), (5, .int .i64 x2), (6, .int .i64 x3), (7, .int .i64 x4)] m) (K.kx 2 [(0, .pointer (some ⟨f, 0, none⟩)), (4, .int .i64 x1), (5, .int .i64 x2), (6, .int .i64 x3), (7, .int .i64 x4)] m)) :
    wpc PP FF 340 L_decompressor_readHuffman c_decompressor_readHuffman_rrrrrrrrrrrlrll K [(0, .pointer (some ⟨f, 0, none⟩)), (4, .int .i64 x1), (5, .int .i64 x2), (6, .int .i64 x3), (7, .int .i64 x4)] m :=
  Eq.mpr (by kernel_rfl) h

def k_decompressor_readHuffman_rrrrrrrrrrrrlrll : List Nat := [0, 4, 5, 9]
theorem p_decompressor_readHuffman_rrrrrrrrrrrrlrll (f : Nat) (x1 : Int) (x2 : Int) (x3 : Int) (m : Mem) (K : Kont)
    (h : ifB (decide (x3 < 19)) (∃ (p4 : Option Addr), cell? m ⟨f, 1036, none⟩ = some (.pointer p4) ∧ (0 ≤ x3 ∧ x3 < ((19 : Nat) : Int)) ∧ ∃ (x5 : Int), cell? m ⟨g_inflate_codeOrder, 0 + x3.toNat, none⟩ = some (.int .i64 x5) ∧ onSome p4 fun p6 => (0 ≤ x5 ∧ x5 < ((19 : Nat) : Int)) ∧ StW m (aplus p6 x5.toNat) (.int .i64 0) fun m7 => K.kn [(0, .pointer (some ⟨f, 0, none⟩)), (4, .int .i64 x1), (5, .int .i64 x2), (9, .int .i64 (IntKind.wrap .i64 (x3 + 1)))] m7) (K.kx 6 [(0, .pointer (some ⟨f, 0, none⟩)), (4, .int .i64 x1), (5, .int .i64 x2), (9, .int .i64 x3)] m)) :
    wpc PP FF 340 L_decompressor_readHuffman c_decompressor_readHuffman_rrrrrrrrrrrrlrll K [(0, .pointer (some ⟨f, 0, none⟩)), (4, .int .i64 x1), (5, .int .i64 x2), (9, .int .i64 x3)] m :=
  Eq.mpr (by kernel_rfl) h

def k_decompressor_readHuffman_rrrrrrrrrrrrrrlrll : List Nat := [0, 4, 5, 10, 11]
theorem p_decompressor_readHuffman_rrrrrrrrrrrrrrlrll (f : Nat) (x1 : Int) (x2 : Int) (x3 : Int) (x4 : Int) (m : Mem) (K : Kont)
    (h : ifB (decide (x3 < x4)) (CallM PP f_decompressor_huffSym #[.pointer (some ⟨f, 0, none⟩), .pointer (some ⟨f, 5, none⟩)] m fun v7 m8 => ∃ (x5 : Int), ∃ (v6 : Value), v7 = .tuple #[.int .i64 x5, v6] ∧ isIfc v6 = true ∧ ifB (!(isNil v6)) (K.kr [(0, .pointer (some ⟨f, 0, none⟩)), (2, v6), (4, .int .i64 x1), (5, .int .i64 x2), (10, .int .i64 x3), (11, .int .i64 x4), (12, .int .i64 x5), (13, v6)] m8) (ifB (decide (x5 < 16)) (∃ (p9 : Option Addr), cell? m8 ⟨f, 1035, none⟩ = some (.pointer p9) ∧ onSome p9 fun p10 => (0 ≤ x3 ∧ x3 < ((316 : Nat) : Int)) ∧ StW m8 (aplus p10 x3.toNat) (.int .i64 x5) fun m11 => K.kn [(0, .pointer (some ⟨f, 0, none⟩)), (4, .int .i64 x1), (5, .int .i64 x2), (10, .int .i64 (IntKind.wrap .i64 (x3 + 1))), (11, .int .i64 x4), (12, .int .i64 x5), (13, v6)] m11) (ifB (x5 == 16) (ifB (x3 == 0) (∃ (x12 : Int), cell? m8 ⟨f, 2, none⟩ = some (.int .i64 x12) ∧ K.kr [(0, .pointer (some ⟨f, 0, none⟩)), (2, .iface t_flate_CorruptInputError (.int .i64 x12)), (4, .int .i64 x1), (5, .int .i64 x2), (10, .int .i64 x3), (11, .int .i64 x4), (12, .int .i64 x5), (13, v6), (14, .int .i64 3), (15, .int .u64 2), (16, .int .i64 0), (195, .int .i64 x5)] m8) (∃ (p13 : Option Addr), cell? m8 ⟨f, 1035, none⟩ = some (.pointer p13) ∧ onSome p13 fun p14 => (0 ≤ (IntKind.wrap .i64 (x3 - 1)) ∧ (IntKind.wrap .i64 (x3 - 1)) < ((316 : Nat) : Int)) ∧ ∃ (x15 : Int), cell? m8 (aplus p14 ((IntKind.wrap .i64 (x3 - 1)).toNat)) = some (.int .i64 x15) ∧ WPS PP 340 c_decompressor_readHuffman_rrrrrrrrrrrrrrlrllrlrrrrrrr (K.withX 9) [(0, .pointer (some ⟨f, 0, none⟩)), (4, .int .i64 x1), (5, .int .i64 x2), (10, .int .i64 x3), (11, .int .i64 x4), (12, .int .i64 x5), (13, v6), (14, .int .i64 3), (15, .int .u64 2), (16, .int .i64 x15), (195, .int .i64 x5)] m8)) (ifB (x5 == 17) (WPS PP 340 c_decompressor_readHuffman_rrrrrrrrrrrrrrlrllrlrrrrrrr (K.withX 9) [(0, .pointer (some ⟨f, 0, none⟩)), (4, .int .i64 x1), (5, .int .i64 x2), (10, .int .i64 x3), (11, .int .i64 x4), (12, .int .i64 x5), (13, v6), (14, .int .i64 3), (15, .int .u64 3), (16, .int .i64 0), (195, .int .i64 x5)] m8) (ifB (x5 == 18) (WPS PP 340 c_decompressor_readHuffman_rrrrrrrrrrrrrrlrllrlrrrrrrr (K.withX 9) [(0, .pointer (some ⟨f, 0, none⟩)), (4, .int .i64 x1), (5, .int .i64 x2), (10, .int .i64 x3), (11, .int .i64 x4), (12, .int .i64 x5), (13, v6), (14, .int .i64 11), (15, .int .u64 7), (16, .int .i64 0), (195, .int .i64 x5)] m8) (K.kr [(0, .pointer (some ⟨f, 0, none⟩)), (2, .iface t_flate_InternalError (.string (⟨#[117, 110, 101, 120, 112, 101, 99, 116, 101, 100, 32, 108, 101, 110, 103, 116, 104, 32, 99, 111, 100, 101]⟩))), (4, .int .i64 x1), (5, .int .i64 x2), (10, .int .i64 x3), (11, .int .i64 x4), (12, .int .i64 x5), (13, v6), (14, .int .i64 0), (15, .int .u64 0), (16, .int .i64 0), (195, .int .i64 x5)] m8)))))) (K.kx 8 [(0, .pointer (some ⟨f, 0, none⟩)), (4, .int .i64 x1), (5, .int .i64 x2), (10, .int .i64 x3), (11, .int .i64 x4)] m)) :
    wpc PP FF 340 L_decompressor_readHuffman c_decompressor_readHuffman_rrrrrrrrrrrrrrlrll K [(0, .pointer (some ⟨f, 0, none⟩)), (4, .int .i64 x1), (5, .int .i64 x2), (10, .int .i64 x3), (11, .int .i64 x4)] m :=
  Eq.mpr (by kernel_rfl) h

def k_decompressor_readHuffman_rrrrrrrrrrrlrllrlllll : List Nat := [0, 4, 5, 6, 7]
theorem p_decompressor_readHuffman_rrrrrrrrrrrlrllrlllll (f : Nat) (x1 : Int) (x2 : Int) (x3 : Int) (x4 : Int) (m : Mem) (K : Kont)
    (h : ∃ (x5 : Int), cell? m ⟨f, 4, none⟩ = some (.int .u64 x5) ∧ ifB (decide (x5 < 3)) (CallM PP f_decompressor_moreBits #[.pointer (some ⟨f, 0, none⟩)] m fun v7 m8 => ∃ (v6 : Value), v7 = v6 ∧ isIfc v6 = true ∧ ifB (!(isNil v6)) (K.kr [(0, .pointer (some ⟨f, 0, none⟩)), (2, v6), (4, .int .i64 x1), (5, .int .i64 x2), (6, .int .i64 x3), (7, .int .i64 x4), (8, v6)] m8) (K.kn [(0, .pointer (some ⟨f, 0, none⟩)), (4, .int .i64 x1), (5, .int .i64 x2), (6, .int .i64 x3), (7, .int .i64 x4), (8, v6)] m8)) (K.kx 4 [(0, .pointer (some ⟨f, 0, none⟩)), (4, .int .i64 x1), (5, .int .i64 x2), (6, .int .i64 x3), (7, .int .i64 x4)] m)) :
    wpc PP FF 340 L_decompressor_readHuffman c_decompressor_readHuffman_rrrrrrrrrrrlrllrlllll K [(0, .pointer (some ⟨f, 0, none⟩)), (4, .int .i64 x1), (5, .int .i64 x2), (6, .int .i64 x3), (7, .int .i64 x4)] m :=
  Eq.mpr (by kernel_rfl) h

def k_decompressor_readHuffman_rrrrrrrrrrrrrrlrllrlrrrrrrrlll : List Nat := [0, 4, 5, 10, 11, 14, 15, 16]
theorem p_decompressor_readHuffman_rrrrrrrrrrrrrrlrllrlrrrrrrrlll (f : Nat) (x1 : Int) (x2 : Int) (x3 : Int) (x4 : Int) (x5 : Int) (x6 : Int) (x7 : Int) (m : Mem) (K : Kont)
    (h : ∃ (x8 : Int), cell? m ⟨f, 4, none⟩ = some (.int .u64 x8) ∧ ifB (decide (x8 < x6)) (CallM PP f_decompressor_moreBits #[.pointer (some ⟨f, 0, none⟩)] m fun v10 m11 => ∃ (v9 : Value), v10 = v9 ∧ isIfc v9 = true ∧ ifB (!(isNil v9)) (K.kr [(0, .pointer (some ⟨f, 0, none⟩)), (2, v9), (4, .int .i64 x1), (5, .int .i64 x2), (10, .int .i64 x3), (11, .int .i64 x4), (14, .int .i64 x5), (15, .int .u64 x6), (16, .int .i64 x7), (17, v9)] m11) (K.kn [(0, .pointer (some ⟨f, 0, none⟩)), (4, .int .i64 x1), (5, .int .i64 x2), (10, .int .i64 x3), (11, .int .i64 x4), (14, .int .i64 x5), (15, .int .u64 x6), (16, .int .i64 x7), (17, v9)] m11)) (K.kx 11 [(0, .pointer (some ⟨f, 0, none⟩)), (4, .int .i64 x1), (5, .int .i64 x2), (10, .int .i64 x3), (11, .int .i64 x4), (14, .int .i64 x5), (15, .int .u64 x6), (16, .int .i64 x7)] m)) :
    wpc PP FF 340 L_decompressor_readHuffman c_decompressor_readHuffman_rrrrrrrrrrrrrrlrllrlrrrrrrrlll K [(0, .pointer (some ⟨f, 0, none⟩)), (4, .int .i64 x1), (5, .int .i64 x2), (10, .int .i64 x3), (11, .int .i64 x4), (14, .int .i64 x5), (15, .int .u64 x6), (16, .int .i64 x7)] m :=
  Eq.mpr (by kernel_rfl) h

def k_decompressor_readHuffman_rrrrrrrrrrrrrrlrllrlrrrrrrrrrrrrrll : List Nat := [0, 4, 5, 10, 11, 14, 16, 18]
theorem p_decompressor_readHuffman_rrrrrrrrrrrrrrlrllrlrrrrrrrrrrrrrll (f : Nat) (x1 : Int) (x2 : Int) (x3 : Int) (x4 : Int) (x5 : Int) (x6 : Int) (x7 : Int) (m : Mem) (K : Kont)
    (h : ifB (decide (x7 < x5)) (∃ (p8 : Option Addr), cell? m ⟨f, 1035, none⟩ = some (.pointer p8) ∧ onSome p8 fun p9 => (0 ≤ x3 ∧ x3 < ((316 : Nat) : Int)) ∧ StW m (aplus p9 x3.toNat) (.int .i64 x6) fun m10 => K.kn [(0, .pointer (some ⟨f, 0, none⟩)), (4, .int .i64 x1), (5, .int .i64 x2), (10, .int .i64 (IntKind.wrap .i64 (x3 + 1))), (11, .int .i64 x4), (14, .int .i64 x5), (16, .int .i64 x6), (18, .int .i64 (IntKind.wrap .i64 (x7 + 1)))] m10) (K.kx 13 [(0, .pointer (some ⟨f, 0, none⟩)), (4, .int .i64 x1), (5, .int .i64 x2), (10, .int .i64 x3), (11, .int .i64 x4), (14, .int .i64 x5), (16, .int .i64 x6), (18, .int .i64 x7)] m)) :
    wpc PP FF 340 L_decompressor_readHuffman c_decompressor_readHuffman_rrrrrrrrrrrrrrlrllrlrrrrrrrrrrrrrll K [(0, .pointer (some ⟨f, 0, none⟩)), (4, .int .i64 x1), (5, .int .i64 x2), (10, .int .i64 x3), (11, .int .i64 x4), (14, .int .i64 x5), (16, .int .i64 x6), (18, .int .i64 x7)] m :=
  Eq.mpr (by kernel_rfl) h

def k_decompressor_readHuffman_rrrrrrrrrrrr : List Nat := [0, 4, 5, 6]
theorem p_decompressor_readHuffman_rrrrrrrrrrrr (f : Nat) (x1 : Int) (x2 : Int) (x3 : Int) (m : Mem) (K : Kont)
    (h : WPS PP 340 c_decompressor_readHuffman_rrrrrrrrrrrrlrl ((K.withN fun r m => WPS PP 340 c_decompressor_readHuffman_rrrrrrrrrrrrr K r m).withX 6) [(0, .pointer (some ⟨f, 0, none⟩)), (4, .int .i64 x1), (5, .int .i64 x2), (6, .int .i64 x3), (9, .int .i64 x3)] m) :
    wpc PP FF 340 L_decompressor_readHuffman c_decompressor_readHuffman_rrrrrrrrrrrr K [(0, .pointer (some ⟨f, 0, none⟩)), (4, .int .i64 x1), (5, .int .i64 x2), (6, .int .i64 x3)] m :=
  Eq.mpr (by kernel_rfl) h

def k_decompressor_readHuffman_rrrrrrrrrrrlrllrr : List Nat := [0, 4, 5, 6, 7]
theorem p_decompressor_readHuffman_rrrrrrrrrrrlrllrr (f : Nat) (x1 : Int) (x2 : Int) (x3 : Int) (x4 : Int) (m : Mem) (K : Kont)
    (h : K.kn [(0, .pointer (some ⟨f, 0, none⟩)), (4, .int .i64 x1), (5, .int .i64 x2), (6, .int .i64 x3), (7, .int .i64 (IntKind.wrap .i64 (x4 + 1)))] m) :
    wpc PP FF 340 L_decompressor_readHuffman c_decompressor_readHuffman_rrrrrrrrrrrlrllrr K [(0, .pointer (some ⟨f, 0, none⟩)), (4, .int .i64 x1), (5, .int .i64 x2), (6, .int .i64 x3), (7, .int .i64 x4)] m :=
  Eq.mpr (by kernel_rfl) h

def k_decompressor_readHuffman_rrrrrrrrrrrlrllrllr : List Nat := [0, 4, 5, 6, 7]
theorem p_decompressor_readHuffman_rrrrrrrrrrrlrllrllr (f : Nat) (x1 : Int) (x2 : Int) (x3 : Int) (x4 : Int) (m : Mem) (K : Kont)
    (h : ∃ (p5 : Option Addr), cell? m ⟨f, 1036, none⟩ = some (.pointer p5) ∧ (0 ≤ x4 ∧ x4 < ((19 : Nat) : Int)) ∧ ∃ (x6 : Int), cell? m ⟨g_inflate_codeOrder, 0 + x4.toNat, none⟩ = some (.int .i64 x6) ∧ ∃ (x7 : Int), cell? m ⟨f, 3, none⟩ = some (.int .u32 x7) ∧ IntKind.u32 = IntKind.u32 ∧ onSome p5 fun p8 => (0 ≤ x6 ∧ x6 < ((19 : Nat) : Int)) ∧ StW m (aplus p8 x6.toNat) (.int .i64 (IntKind.wrap .i64 (bitsOp .and .u32 x7 7))) fun m9 => ∃ (x10 : Int), cell? m9 ⟨f, 3, none⟩ = some (.int .u32 x10) ∧ 0 ≤ (3 : Int) ∧ StW m9 ⟨f, 3, none⟩ (.int .u32 (shrOp .u32 x10 3)) fun m11 => ∃ (x12 : Int), cell? m11 ⟨f, 4, none⟩ = some (.int .u64 x12) ∧ StW m11 ⟨f, 4, none⟩ (.int .u64 (IntKind.wrap .u64 (x12 - 3))) fun m13 => K.kn [(0, .pointer (some ⟨f, 0, none⟩)), (4, .int .i64 x1), (5, .int .i64 x2), (6, .int .i64 x3), (7, .int .i64 x4)] m13) :
    wpc PP FF 340 L_decompressor_readHuffman c_decompressor_readHuffman_rrrrrrrrrrrlrllrllr K [(0, .pointer (some ⟨f, 0, none⟩)), (4, .int .i64 x1), (5, .int .i64 x2), (6, .int .i64 x3), (7, .int .i64 x4)] m :=
  Eq.mpr (by kernel_rfl) h

def k_decompressor_readHuffman_rrrrrrrrrrrrrrlrllrlrrrrrrr : List Nat := [0, 4, 5, 10, 11, 14, 15, 16]
theorem p_decompressor_readHuffman_rrrrrrrrrrrrrrlrllrlrrrrrrr (f : Nat) (x1 : Int) (x2 : Int) (x3 : Int) (x4 : Int) (x5 : Int) (x6 : Int) (x7 : Int) (m : Mem) (K : Kont)
    (h : WPS PP 340 c_decompressor_readHuffman_rrrrrrrrrrrrrrlrllrlrrrrrrrll ((K.withN fun r m => WPS PP 340 c_decompressor_readHuffman_rrrrrrrrrrrrrrlrllrlrrrrrrrr K r m).withX 11) [(0, .pointer (some ⟨f, 0, none⟩)), (4, .int .i64 x1), (5, .int .i64 x2), (10, .int .i64 x3), (11, .int .i64 x4), (14, .int .i64 x5), (15, .int .u64 x6), (16, .int .i64 x7)] m) :
    wpc PP FF 340 L_decompressor_readHuffman c_decompressor_readHuffman_rrrrrrrrrrrrrrlrllrlrrrrrrr K [(0, .pointer (some ⟨f, 0, none⟩)), (4, .int .i64 x1), (5, .int .i64 x2), (10, .int .i64 x3), (11, .int .i64 x4), (14, .int .i64 x5), (15, .int .u64 x6), (16, .int .i64 x7)] m :=
  Eq.mpr (by kernel_rfl) h

def k_decompressor_readHuffman_rrrrrrrrrrrrr : List Nat := [0, 4, 5]
theorem p_decompressor_readHuffman_rrrrrrrrrrrrr (f : Nat) (x1 : Int) (x2 : Int) (m : Mem) (K : Kont)
    (h : ∃ (p3 : Option Addr), cell? m ⟨f, 1036, none⟩ = some (.pointer p3) ∧ onSome p3 fun p4 => (0 ≤ (0 : Int) ∧ (0 : Int) ≤ (19 : Int)) ∧ CallM PP f_huffmanDecoder_init #[.pointer (some ⟨f, 5, none⟩), .slice (some (aplus p4 0)) 19 19] m fun v6 m7 => ∃ (b5 : Bool), v6 = .bool b5 ∧ ifB (!b5) (∃ (x8 : Int), cell? m7 ⟨f, 2, none⟩ = some (.int .i64 x8) ∧ K.kr [(0, .pointer (some ⟨f, 0, none⟩)), (2, .iface t_flate_CorruptInputError (.int .i64 x8)), (4, .int .i64 x1), (5, .int .i64 x2)] m7) (WPS PP 340 c_decompressor_readHuffman_rrrrrrrrrrrrrrlrl ((K.withN fun r m => WPS PP 340 c_decompressor_readHuffman_rrrrrrrrrrrrrrr K r m).withX 8) [(0, .pointer (some ⟨f, 0, none⟩)), (4, .int .i64 x1), (5, .int .i64 x2), (10, .int .i64 0), (11, .int .i64 (IntKind.wrap .i64 (x1 + x2)))] m7)) :
    wpc PP FF 340 L_decompressor_readHuffman c_decompressor_readHuffman_rrrrrrrrrrrrr K [(0, .pointer (some ⟨f, 0, none⟩)), (4, .int .i64 x1), (5, .int .i64 x2)] m :=
  Eq.mpr (by kernel_rfl) h

def k_decompressor_readHuffman_rrrrrrrrrrrrrrlrllrlrrrrrrrr : List Nat := [0, 4, 5, 10, 11, 14, 15, 16]
theorem p_decompressor_readHuffman_rrrrrrrrrrrrrrlrllrlrrrrrrrr (f : Nat) (x1 : Int) (x2 : Int) (x3 : Int) (x4 : Int) (x5 : Int) (x6 : Int) (x7 : Int) (m : Mem) (K : Kont)
    (h : ∃ (x8 : Int), cell? m ⟨f, 3, none⟩ = some (.int .u32 x8) ∧ 0 ≤ x6 ∧ IntKind.u32 = IntKind.u32 ∧ ∃ (x9 : Int), cell? m ⟨f, 3, none⟩ = some (.int .u32 x9) ∧ 0 ≤ x6 ∧ StW m ⟨f, 3, none⟩ (.int .u32 (shrOp .u32 x9 x6)) fun m10 => ∃ (x11 : Int), cell? m10 ⟨f, 4, none⟩ = some (.int .u64 x11) ∧ StW m10 ⟨f, 4, none⟩ (.int .u64 (IntKind.wrap .u64 (x11 - x6))) fun m12 => ifB (decide ((IntKind.wrap .i64 (x3 + (IntKind.wrap .i64 (x5 + (IntKind.wrap .i64 (bitsOp .and .u32 x8 (IntKind.wrap .u32 ((shlOp .u32 1 x6) - 1)))))))) > x4)) (∃ (x13 : Int), cell? m12 ⟨f, 2, none⟩ = some (.int .i64 x13) ∧ K.kr [(0, .pointer (some ⟨f, 0, none⟩)), (2, .iface t_flate_CorruptInputError (.int .i64 x13)), (4, .int .i64 x1), (5, .int .i64 x2), (10, .int .i64 x3), (11, .int .i64 x4), (14, .int .i64 (IntKind.wrap .i64 (x5 + (IntKind.wrap .i64 (bitsOp .and .u32 x8 (IntKind.wrap .u32 ((shlOp .u32 1 x6) - 1))))))), (15, .int .u64 x6), (16, .int .i64 x7)] m12) (WPS PP 340 c_decompressor_readHuffman_rrrrrrrrrrrrrrlrllrlrrrrrrrrrrrrrl (K.withX 13) [(0, .pointer (some ⟨f, 0, none⟩)), (4, .int .i64 x1), (5, .int .i64 x2), (10, .int .i64 x3), (11, .int .i64 x4), (14, .int .i64 (IntKind.wrap .i64 (x5 + (IntKind.wrap .i64 (bitsOp .and .u32 x8 (IntKind.wrap .u32 ((shlOp .u32 1 x6) - 1))))))), (15, .int .u64 x6), (16, .int .i64 x7), (18, .int .i64 0)] m12)) :
    wpc PP FF 340 L_decompressor_readHuffman c_decompressor_readHuffman_rrrrrrrrrrrrrrlrllrlrrrrrrrr K [(0, .pointer (some ⟨f, 0, none⟩)), (4, .int .i64 x1), (5, .int .i64 x2), (10, .int .i64 x3), (11, .int .i64 x4), (14, .int .i64 x5), (15, .int .u64 x6), (16, .int .i64 x7)] m :=
  Eq.mpr (by kernel_rfl) h

def k_decompressor_readHuffman_rrrrrrrrrrrrrrr : List Nat := [0, 4, 5]
theorem p_decompressor_readHuffman_rrrrrrrrrrrrrrr (f : Nat) (x1 : Int) (x2 : Int) (m : Mem) (K : Kont)
    (h : ∃ (p3 : Option Addr), cell? m ⟨f, 1035, none⟩ = some (.pointer p3) ∧ onSome p3 fun p4 => (0 ≤ x1 ∧ x1 ≤ (316 : Int)) ∧ (0 ≤ (0 : Int) ∧ (0 : Int) ≤ x1) ∧ CallM PP f_huffmanDecoder_init #[.pointer (some ⟨f, 5, none⟩), .slice (some (aplus p4 0)) (x1.toNat - 0) 316] m fun v6 m7 => ∃ (b5 : Bool), v6 = .bool b5 ∧ ifB (!b5) (∃ (x8 : Int), cell? m7 ⟨f, 2, none⟩ = some (.int .i64 x8) ∧ K.kr [(0, .pointer (some ⟨f, 0, none⟩)), (2, .iface t_flate_CorruptInputError (.int .i64 x8)), (4, .int .i64 x1), (5, .int .i64 x2)] m7) (∃ (p9 : Option Addr), cell? m7 ⟨f, 1035, none⟩ = some (.pointer p9) ∧ onSome p9 fun p10 => (0 ≤ (IntKind.wrap .i64 (x1 + x2)) ∧ (IntKind.wrap .i64 (x1 + x2)) ≤ (316 : Int)) ∧ (0 ≤ x1 ∧ x1 ≤ (IntKind.wrap .i64 (x1 + x2))) ∧ CallM PP f_huffmanDecoder_init #[.pointer (some ⟨f, 520, none⟩), .slice (some (if 316 = x1.toNat then p10 else aplus p10 x1.toNat)) ((IntKind.wrap .i64 (x1 + x2)).toNat - x1.toNat) (316 - x1.toNat)] m7 fun v12 m13 => ∃ (b11 : Bool), v12 = .bool b11 ∧ ifB (!b11) (∃ (x14 : Int), cell? m13 ⟨f, 2, none⟩ = some (.int .i64 x14) ∧ K.kr [(0, .pointer (some ⟨f, 0, none⟩)), (2, .iface t_flate_CorruptInputError (.int .i64 x14)), (4, .int .i64 x1), (5, .int .i64 x2)] m13) (∃ (x15 : Int), cell? m13 ⟨f, 5, none⟩ = some (.int .i64 x15) ∧ ∃ (p16 : Option Addr), cell? m13 ⟨f, 1035, none⟩ = some (.pointer p16) ∧ onSome p16 fun p17 => (0 ≤ (256 : Int) ∧ (256 : Int) < ((316 : Nat) : Int)) ∧ ∃ (x18 : Int), cell? m13 (aplus p17 256) = some (.int .i64 x18) ∧ ifB (decide (x15 < x18)) (∃ (p19 : Option Addr), cell? m13 ⟨f, 1035, none⟩ = some (.pointer p19) ∧ onSome p19 fun p20 => (0 ≤ (256 : Int) ∧ (256 : Int) < ((316 : Nat) : Int)) ∧ ∃ (x21 : Int), cell? m13 (aplus p20 256) = some (.int .i64 x21) ∧ StW m13 ⟨f, 5, none⟩ (.int .i64 x21) fun m22 => WPS PP 340 c_decompressor_readHuffman_rrrrrrrrrrrrrrrrr K [(0, .pointer (some ⟨f, 0, none⟩)), (4, .int .i64 x1), (5, .int .i64 x2)] m22) (WPS PP 340 c_decompressor_readHuffman_rrrrrrrrrrrrrrrrr K [(0, .pointer (some ⟨f, 0, none⟩)), (4, .int .i64 x1), (5, .int .i64 x2)] m13)))) :
    wpc PP FF 340 L_decompressor_readHuffman c_decompressor_readHuffman_rrrrrrrrrrrrrrr K [(0, .pointer (some ⟨f, 0, none⟩)), (4, .int .i64 x1), (5, .int .i64 x2)] m :=
  Eq.mpr (by kernel_rfl) h

def k_decompressor_readHuffman_rrrrrrrrrrrrrrrrr : List Nat := []
theorem p_decompressor_readHuffman_rrrrrrrrrrrrrrrrr  (m : Mem) (K : Kont)
    (h : K.kr [(2, .nilIface)] m  ) :
    wpc PP FF 340 L_decompressor_readHuffman c_decompressor_readHuffman_rrrrrrrrrrrrrrrrr K [] m :=
  Eq.mpr (by kernel_rfl) h

/-! errors.as -/
def L_errors_as : List Nat := [0, 1, 2, 3, 6, 8, 9, 10, 11, 12, 14, 19, 35, 36, 38, 39, 43, 45, 46, 48, 49, 50, 51, 55, 60]
def r_errors_as : List ResultVar := [.tmp 8]
noncomputable def c_errors_as : Code := (Go.Proofs.Tryd.f27.body).getD .skip
theorem b_errors_as : Go.Proofs.Tryd.f27.body = some c_errors_as := by kernel_rfl
noncomputable def c_errors_as_rl : Code := (lft (rgt c_errors_as))
noncomputable def c_errors_as_rll : Code := (lft c_errors_as_rl)
noncomputable def c_errors_as_rlllr : Code := (rgt (lft c_errors_as_rll))
noncomputable def c_errors_as_rlllrrrlrrrlrlrl : Code := (lft (rgt (lft (rgt (lft (rgt (rgt (rgt (lft (rgt (rgt c_errors_as_rlllr)))))))))))
noncomputable def c_errors_as_rlllrrrlrrrlrlrll : Code := (lft c_errors_as_rlllrrrlrrrlrlrl)
noncomputable def c_errors_as_rlllrrrlrrrlrlrllrrr : Code := (rgt (rgt (rgt c_errors_as_rlllrrrlrrrlrlrll)))
theorem q_errors_as_rl : c_errors_as_rl = .loop c_errors_as_rll := by kernel_rfl
theorem q_errors_as_rlllrrrlrrrlrlrl : c_errors_as_rlllrrrlrrrlrlrl = .loop c_errors_as_rlllrrrlrrrlrlrll := by kernel_rfl
/- the loop at rl: slots [0, 1, 3, 6] -/
/- the loop at rlllrrrlrrrlrlrl: slots [1, 3, 6, 48, 49, 50] -/
theorem e_errors_as (v1 : Value) (v2 : Value) (p3 : Option Addr) (v4 : Value) (x5 : Int) (v6 : Value) (m : Mem) (R : Value → Mem → Prop)
    (h : BoxW t_reflectlite_Value (.agg #[.pointer p3, v4, .int .u64 x5]) m fun n7 m8 => WPS PP 62 c_errors_as_rl ((retK PP r_errors_as R).withX 0) [(0, v1), (1, v2), (2, .agg #[.pointer p3, v4, .int .u64 x5]), (3, v6), (6, .pointer (some ⟨n7, 0, none⟩)), (8, .bool false)] m8) :
    CallM PP f_errors_as #[v1, v2, .agg #[.pointer p3, v4, .int .u64 x5], v6] m R :=
  callM_enter ffOk mixedOk 62 L_errors_as Tryd.func27 b_errors_as Tryd.ntmps27 (by simp) (Eq.mpr (by kernel_rfl) h)

def k_errors_as_rll : List Nat := [0, 1, 3, 6]
theorem p_errors_as_rll (v1 : Value) (v2 : Value) (v3 : Value) (n4 : Nat) (m : Mem) (K : Kont)
    (h : SemW PP (callVal (.func (.func f_reflectlite_TypeOf) #[] #[]) #[v1]) m (NextW PP fun v6 m7 => ∃ (v5 : Value), v6 = v5 ∧ SemW PP (callMethod v5 "AssignableTo" #[v3]) m7 (NextW PP fun v9 m10 => ∃ (b8 : Bool), v9 = .bool b8 ∧ ifB b8 (∃ (p11 : Option Addr), ∃ (v12 : Value), ∃ (x13 : Int), ([.pointer p11, v12, .int .u64 x13] : List Value).length = 3 ∧ CellsAre m10 ⟨n4, 0, none⟩ 0 [.pointer p11, v12, .int .u64 x13] ∧ SemW PP (callVal (.func (.func f_reflectlite_Value_Elem) #[] #[]) #[.agg #[.pointer p11, v12, .int .u64 x13]]) m10 (NextW PP fun v15 m16 => ∃ (v14 : Value), v15 = v14 ∧ SemW PP (callVal (.func (.func f_reflectlite_ValueOf) #[] #[]) #[v1]) m16 (NextW PP fun v18 m19 => ∃ (v17 : Value), v18 = v17 ∧ SemW PP (callVal (.func (.func f_reflectlite_Value_Set) #[] #[]) #[v14, v17]) m19 (NextW PP fun v20 m21 => v20 = .tuple #[] ∧ K.kr [(0, v1), (1, v2), (3, v3), (6, .pointer (some ⟨n4, 0, none⟩)), (8, .bool true)] m21)))) (wpc PP FF 62 L_errors_as c_errors_as_rlllr (K.withX 1) [(0, v1), (1, v2), (3, v3), (6, .pointer (some ⟨n4, 0, none⟩))] m10)))) :
    wpc PP FF 62 L_errors_as c_errors_as_rll K [(0, v1), (1, v2), (3, v3), (6, .pointer (some ⟨n4, 0, none⟩))] m :=
  Eq.mpr (by kernel_rfl) h

def k_errors_as_rlllrrrlrrrlrlrll : List Nat := [1, 3, 6, 48, 49, 50]
theorem p_errors_as_rlllrrrlrrrlrlrll (v1 : Value) (v2 : Value) (n3 : Nat) (a4 : Option Addr) (l5 : Nat) (k6 : Nat) (x7 : Int) (x8 : Int) (m : Mem) (K : Kont)
    (h : ifB (decide (x8 < x7)) (onSome a4 fun p9 => (0 ≤ x8 ∧ x8 < (l5 : Int)) ∧ ∃ (v10 : Value), cell? m (aplus p9 x8.toNat) = some (v10) ∧ isIfc v10 = true ∧ ifB (isNil v10) (WPS PP 62 c_errors_as_rlllrrrlrrrlrlrllrrr K [(1, v1), (3, v2), (6, .pointer (some ⟨n3, 0, none⟩)), (14, v10), (48, .slice a4 l5 k6), (49, .int .i64 x7), (50, .int .i64 x8)] m) (∃ (p11 : Option Addr), ∃ (v12 : Value), ∃ (x13 : Int), ([.pointer p11, v12, .int .u64 x13] : List Value).length = 3 ∧ CellsAre m ⟨n3, 0, none⟩ 0 [.pointer p11, v12, .int .u64 x13] ∧ CallM PP f_errors_as #[v10, v1, .agg #[.pointer p11, v12, .int .u64 x13], v2] m fun v15 m16 => ∃ (b14 : Bool), v15 = .bool b14 ∧ ifB b14 (K.kr [(1, v1), (3, v2), (6, .pointer (some ⟨n3, 0, none⟩)), (8, .bool true), (14, v10), (48, .slice a4 l5 k6), (49, .int .i64 x7), (50, .int .i64 x8)] m16) (WPS PP 62 c_errors_as_rlllrrrlrrrlrlrllrrr K [(1, v1), (3, v2), (6, .pointer (some ⟨n3, 0, none⟩)), (14, v10), (48, .slice a4 l5 k6), (49, .int .i64 x7), (50, .int .i64 x8)] m16))) (K.kx 3 [(1, v1), (3, v2), (6, .pointer (some ⟨n3, 0, none⟩)), (48, .slice a4 l5 k6), (49, .int .i64 x7), (50, .int .i64 x8)] m)) :
    wpc PP FF 62 L_errors_as c_errors_as_rlllrrrlrrrlrlrll K [(1, v1), (3, v2), (6, .pointer (some ⟨n3, 0, none⟩)), (48, .slice a4 l5 k6), (49, .int .i64 x7), (50, .int .i64 x8)] m :=
  Eq.mpr (by kernel_rfl) h

def k_errors_as_rlllrrrlrrrlrlrllrrr : List Nat := [1, 3, 6, 48, 49, 50]
theorem p_errors_as_rlllrrrlrrrlrlrllrrr (v1 : Value) (v2 : Value) (n3 : Nat) (a4 : Option Addr) (l5 : Nat) (k6 : Nat) (x7 : Int) (x8 : Int) (m : Mem) (K : Kont)
    (h : K.kn [(1, v1), (3, v2), (6, .pointer (some ⟨n3, 0, none⟩)), (48, .slice a4 l5 k6), (49, .int .i64 x7), (50, .int .i64 (IntKind.wrap .i64 (x8 + 1)))] m) :
    wpc PP FF 62 L_errors_as c_errors_as_rlllrrrlrrrlrlrllrrr K [(1, v1), (3, v2), (6, .pointer (some ⟨n3, 0, none⟩)), (48, .slice a4 l5 k6), (49, .int .i64 x7), (50, .int .i64 x8)] m :=
  Eq.mpr (by kernel_rfl) h

/-! bufio.NewReaderSize -/
def L_bufio_NewReaderSize : List Nat := [0, 1, 4, 5, 6, 7, 22]
def r_bufio_NewReaderSize : List ResultVar := [.tmp 4]
noncomputable def c_bufio_NewReaderSize : Code := (Go.Proofs.Tryd.f29.body).getD .skip
theorem b_bufio_NewReaderSize : Go.Proofs.Tryd.f29.body = some c_bufio_NewReaderSize := by kernel_rfl
theorem e_bufio_NewReaderSize (v1 : Value) (x2 : Int) (m : Mem) (R : Value → Mem → Prop)
    (h : PureW PP (Instr.typeAssert v1 t_io_Reader t_p_bufio_Reader true) fun u5 => ∃ (p3 : Option Addr), ∃ (b4 : Bool), u5 = .tuple #[.pointer p3, .bool b4] ∧ ifB b4 (onSome p3 fun p6 => ∃ (a7 : Option Addr), ∃ (l8 : Nat), ∃ (k9 : Nat), cell? m p6 = some (.slice a7 l8 k9) ∧ ifB (decide ((l8 : Int) ≥ x2)) (R (.pointer p3) m) (AllocW PP t_bufio_Reader m fun n10 m11 => SemW PP (sv (Instr.makeSlice t_s_uint8 (.int .i64 (if (16 : Int) > x2 then 16 else x2)) (.int .i64 (if (16 : Int) > x2 then 16 else x2)))) m11 (NextW PP fun v15 m16 => ∃ (a12 : Option Addr), ∃ (l13 : Nat), ∃ (k14 : Nat), v15 = .slice a12 l13 k14 ∧ CallM PP f_bufio_Reader_reset #[.pointer (some ⟨n10, 0, none⟩), .slice a12 l13 k14, v1] m16 fun v17 m18 => v17 = .tuple #[] ∧ R (.pointer (some ⟨n10, 0, none⟩)) m18))) (AllocW PP t_bufio_Reader m fun n19 m20 => SemW PP (sv (Instr.makeSlice t_s_uint8 (.int .i64 (if (16 : Int) > x2 then 16 else x2)) (.int .i64 (if (16 : Int) > x2 then 16 else x2)))) m20 (NextW PP fun v24 m25 => ∃ (a21 : Option Addr), ∃ (l22 : Nat), ∃ (k23 : Nat), v24 = .slice a21 l22 k23 ∧ CallM PP f_bufio_Reader_reset #[.pointer (some ⟨n19, 0, none⟩), .slice a21 l22 k23, v1] m25 fun v26 m27 => v26 = .tuple #[] ∧ R (.pointer (some ⟨n19, 0, none⟩)) m27))) :
    CallM PP f_bufio_NewReaderSize #[v1, .int .i64 x2] m R :=
  callM_enter ffOk mixedOk 32 L_bufio_NewReaderSize Tryd.func29 b_bufio_NewReaderSize Tryd.ntmps29 (by simp) (Eq.mpr (by kernel_rfl) h)

/-! loop.example/pub-inflation/pub/inflate.noEOF -/
def L_inflate_noEOF : List Nat := [0, 2, 5]
def r_inflate_noEOF : List ResultVar := [.tmp 2]
noncomputable def c_inflate_noEOF : Code := (Go.Proofs.Tryd.f30.body).getD .skip
theorem b_inflate_noEOF : Go.Proofs.Tryd.f30.body = some c_inflate_noEOF := by kernel_rfl
theorem e_inflate_noEOF (v1 : Value) (m : Mem) (R : Value → Mem → Prop)
    (h : ∃ (v2 : Value), cell? m ⟨g_io_EOF, 0, none⟩ = some (v2) ∧ ReadW PP m (do eqGuard .eql t_error (.tmp 3) (.tmp 4) v1 v2; binOp .eql t_error v1 v2) fun u4 => ∃ (b3 : Bool), u4 = .bool b3 ∧ ifB b3 (∃ (v5 : Value), cell? m ⟨g_io_ErrUnexpectedEOF, 0, none⟩ = some (v5) ∧ R (v5) m) (R (v1) m)) :
    CallM PP f_inflate_noEOF #[v1] m R :=
  callM_enter ffOk mixedOk 8 L_inflate_noEOF Tryd.func30 b_inflate_noEOF Tryd.ntmps30 (by simp) (Eq.mpr (by kernel_rfl) h)

/-! io.ReadFull -/
def L_io_ReadFull : List Nat := [0, 1, 4, 5]
def r_io_ReadFull : List ResultVar := [.tmp 4, .tmp 5]
noncomputable def c_io_ReadFull : Code := (Go.Proofs.Tryd.f31.body).getD .skip
theorem b_io_ReadFull : Go.Proofs.Tryd.f31.body = some c_io_ReadFull := by kernel_rfl
theorem e_io_ReadFull (v1 : Value) (a2 : Option Addr) (l3 : Nat) (k4 : Nat) (m : Mem) (R : Value → Mem → Prop)
    (h : CallM PP f_io_ReadAtLeast #[v1, .slice a2 l3 k4, .int .i64 (l3 : Int)] m fun v7 m8 => ∃ (x5 : Int), ∃ (v6 : Value), v7 = .tuple #[.int .i64 x5, v6] ∧ R (.tuple #[.int .i64 x5, v6]) m8) :
    CallM PP f_io_ReadFull #[v1, .slice a2 l3 k4] m R :=
  callM_enter ffOk mixedOk 13 L_io_ReadFull Tryd.func31 b_io_ReadFull Tryd.ntmps31 (by simp) (Eq.mpr (by kernel_rfl) h)

/-! (*loop.example/pub-inflation/pub/inflate.dictDecoder).readFlush -/
def L_dictDecoder_readFlush : List Nat := [0, 2, 3, 33]
def r_dictDecoder_readFlush : List ResultVar := [.tmp 2]
noncomputable def c_dictDecoder_readFlush : Code := (Go.Proofs.Tryd.f32.body).getD .skip
theorem b_dictDecoder_readFlush : Go.Proofs.Tryd.f32.body = some c_dictDecoder_readFlush := by kernel_rfl
noncomputable def c_dictDecoder_readFlush_rrrr : Code := (rgt (rgt (rgt (rgt c_dictDecoder_readFlush))))
theorem e_dictDecoder_readFlush (f : Nat) (m : Mem) (R : Value → Mem → Prop)
    (h : ∃ (a1 : Option Addr), ∃ (l2 : Nat), ∃ (k3 : Nat), cell? m ⟨f, 1037, none⟩ = some (.slice a1 l2 k3) ∧ ∃ (x4 : Int), cell? m ⟨f, 1039, none⟩ = some (.int .i64 x4) ∧ ∃ (x5 : Int), cell? m ⟨f, 1038, none⟩ = some (.int .i64 x5) ∧ l2 ≤ k3 ∧ (0 ≤ x5 ∧ x5 ≤ (k3 : Int)) ∧ (0 ≤ x4 ∧ x4 ≤ x5) ∧ ∃ (x6 : Int), cell? m ⟨f, 1038, none⟩ = some (.int .i64 x6) ∧ StW m ⟨f, 1039, none⟩ (.int .i64 x6) fun m7 => ∃ (x8 : Int), cell? m7 ⟨f, 1038, none⟩ = some (.int .i64 x8) ∧ ∃ (a9 : Option Addr), ∃ (l10 : Nat), ∃ (k11 : Nat), cell? m7 ⟨f, 1037, none⟩ = some (.slice a9 l10 k11) ∧ ifB (x8 == (l10 : Int)) (StW m7 ⟨f, 1038, none⟩ (.int .i64 0) fun m12 => StW m12 ⟨f, 1039, none⟩ (.int .i64 0) fun m13 => StW m13 ⟨f, 1040, none⟩ (.bool true) fun m14 => WPS PP 44 c_dictDecoder_readFlush_rrrr (retK PP r_dictDecoder_readFlush R) [(0, .pointer (some ⟨f, 1037, none⟩)), (2, .slice none 0 0), (3, .slice (subA a1 x4.toNat 1 k3) (x5.toNat - x4.toNat) (k3 - x4.toNat))] m14) (WPS PP 44 c_dictDecoder_readFlush_rrrr (retK PP r_dictDecoder_readFlush R) [(0, .pointer (some ⟨f, 1037, none⟩)), (2, .slice none 0 0), (3, .slice (subA a1 x4.toNat 1 k3) (x5.toNat - x4.toNat) (k3 - x4.toNat))] m7)  ) :
    CallM PP f_dictDecoder_readFlush #[.pointer (some ⟨f, 1037, none⟩)] m R :=
  callM_enter ffOk mixedOk 44 L_dictDecoder_readFlush Tryd.func32 b_dictDecoder_readFlush Tryd.ntmps32 (by simp) (Eq.mpr (by kernel_rfl) h)

def k_dictDecoder_readFlush_rrrr : List Nat := [3]
theorem p_dictDecoder_readFlush_rrrr (a1 : Option Addr) (l2 : Nat) (k3 : Nat) (m : Mem) (K : Kont)
    (h : K.kr [(2, .slice a1 l2 k3), (3, .slice a1 l2 k3)] m) :
    wpc PP FF 44 L_dictDecoder_readFlush c_dictDecoder_readFlush_rrrr K [(3, .slice a1 l2 k3)] m :=
  Eq.mpr (by kernel_rfl) h

/-! (*loop.example/pub-inflation/pub/inflate.decompressor).finishBlock -/
def L_decompressor_finishBlock : List Nat := [0, 5, 10]
def r_decompressor_finishBlock : List ResultVar := []
noncomputable def c_decompressor_finishBlock : Code := (Go.Proofs.Tryd.f33.body).getD .skip
theorem b_decompressor_finishBlock : Go.Proofs.Tryd.f33.body = some c_decompressor_finishBlock := by kernel_rfl
noncomputable def c_decompressor_finishBlock_r : Code := (rgt c_decompressor_finishBlock)
noncomputable def c_decompressor_finishBlock_lrlr : Code := (rgt (lft (rgt (lft c_decompressor_finishBlock))))
theorem e_decompressor_finishBlock (f : Nat) (m : Mem) (R : Value → Mem → Prop)
    (h : ∃ (b1 : Bool), cell? m ⟨f, 1047, none⟩ = some (.bool b1) ∧ ifB b1 (CallM PP f_dictDecoder_availRead #[.pointer (some ⟨f, 1037, none⟩)] m fun v3 m4 => ∃ (x2 : Int), v3 = .int .i64 x2 ∧ ifB (decide (x2 > 0)) (CallM PP f_dictDecoder_readFlush #[.pointer (some ⟨f, 1037, none⟩)] m4 fun v8 m9 => ∃ (a5 : Option Addr), ∃ (l6 : Nat), ∃ (k7 : Nat), v8 = .slice a5 l6 k7 ∧ StW m9 ⟨f, 1049, none⟩ (.slice a5 l6 k7) fun m10 => WPS PP 25 c_decompressor_finishBlock_lrlr ((retK PP r_decompressor_finishBlock R).withN fun r m => WPS PP 25 c_decompressor_finishBlock_r (retK PP r_decompressor_finishBlock R) r m) [(0, .pointer (some ⟨f, 0, none⟩))] m10) (WPS PP 25 c_decompressor_finishBlock_lrlr ((retK PP r_decompressor_finishBlock R).withN fun r m => WPS PP 25 c_decompressor_finishBlock_r (retK PP r_decompressor_finishBlock R) r m) [(0, .pointer (some ⟨f, 0, none⟩))] m4)) (WPS PP 25 c_decompressor_finishBlock_r (retK PP r_decompressor_finishBlock R) [(0, .pointer (some ⟨f, 0, none⟩))] m)  ) :
    CallM PP f_decompressor_finishBlock #[.pointer (some ⟨f, 0, none⟩)] m R :=
  callM_enter ffOk mixedOk 25 L_decompressor_finishBlock Tryd.func33 b_decompressor_finishBlock Tryd.ntmps33 (by simp) (Eq.mpr (by kernel_rfl) h)

def k_decompressor_finishBlock_r : List Nat := [0]
theorem p_decompressor_finishBlock_r (f : Nat) (m : Mem) (K : Kont)
    (h : StW m ⟨f, 1045, none⟩ (.func (.func f_decompressor_nextBlock) #[] #[]) fun m1 => K.kn [(0, .pointer (some ⟨f, 0, none⟩))] m1  ) :
    wpc PP FF 25 L_decompressor_finishBlock c_decompressor_finishBlock_r K [(0, .pointer (some ⟨f, 0, none⟩))] m :=
  Eq.mpr (by kernel_rfl) h

def k_decompressor_finishBlock_lrlr : List Nat := [0]
theorem p_decompressor_finishBlock_lrlr (f : Nat) (m : Mem) (K : Kont)
    (h : ∃ (v1 : Value), cell? m ⟨g_io_EOF, 0, none⟩ = some (v1) ∧ StW m ⟨f, 1048, none⟩ v1 fun m2 => K.kn [(0, .pointer (some ⟨f, 0, none⟩))] m2  ) :
    wpc PP FF 25 L_decompressor_finishBlock c_decompressor_finishBlock_lrlr K [(0, .pointer (some ⟨f, 0, none⟩))] m :=
  Eq.mpr (by kernel_rfl) h

/-! (*loop.example/pub-inflation/pub/inflate.decompressor).copyData -/
def L_decompressor_copyData : List Nat := [0, 2, 3, 4, 15, 53, 70]
def r_decompressor_copyData : List ResultVar := []
noncomputable def c_decompressor_copyData : Code := (Go.Proofs.Tryd.f34.body).getD .skip
theorem b_decompressor_copyData : Go.Proofs.Tryd.f34.body = some c_decompressor_copyData := by kernel_rfl
noncomputable def c_decompressor_copyData_rr : Code := (rgt (rgt c_decompressor_copyData))
theorem e_decompressor_copyData (f : Nat) (m : Mem) (R : Value → Mem → Prop)
    (h : CallM PP f_dictDecoder_writeSlice #[.pointer (some ⟨f, 1037, none⟩)] m fun v4 m5 => ∃ (a1 : Option Addr), ∃ (l2 : Nat), ∃ (k3 : Nat), v4 = .slice a1 l2 k3 ∧ ∃ (x6 : Int), cell? m5 ⟨f, 1052, none⟩ = some (.int .i64 x6) ∧ ifB (decide ((l2 : Int) > x6)) (∃ (x7 : Int), cell? m5 ⟨f, 1052, none⟩ = some (.int .i64 x7) ∧ l2 ≤ k3 ∧ (0 ≤ x7 ∧ x7 ≤ (k3 : Int)) ∧ WPS PP 83 c_decompressor_copyData_rr (retK PP r_decompressor_copyData R) [(0, .pointer (some ⟨f, 0, none⟩)), (2, .slice a1 x7.toNat k3)] m5) (WPS PP 83 c_decompressor_copyData_rr (retK PP r_decompressor_copyData R) [(0, .pointer (some ⟨f, 0, none⟩)), (2, .slice a1 l2 k3)] m5)  ) :
    CallM PP f_decompressor_copyData #[.pointer (some ⟨f, 0, none⟩)] m R :=
  callM_enter ffOk mixedOk 83 L_decompressor_copyData Tryd.func34 b_decompressor_copyData Tryd.ntmps34 (by simp) (Eq.mpr (by kernel_rfl) h)

def k_decompressor_copyData_rr : List Nat := [0, 2]
theorem p_decompressor_copyData_rr (f : Nat) (a1 : Option Addr) (l2 : Nat) (k3 : Nat) (m : Mem) (K : Kont)
    (h : ∃ (v4 : Value), cell? m ⟨f, 0, none⟩ = some (v4) ∧ CallM PP f_io_ReadFull #[v4, .slice a1 l2 k3] m fun v7 m8 => ∃ (x5 : Int), ∃ (v6 : Value), v7 = .tuple #[.int .i64 x5, v6] ∧ ∃ (x9 : Int), cell? m8 ⟨f, 2, none⟩ = some (.int .i64 x9) ∧ StW m8 ⟨f, 2, none⟩ (.int .i64 (IntKind.wrap .i64 (x9 + x5))) fun m10 => ∃ (x11 : Int), cell? m10 ⟨f, 1052, none⟩ = some (.int .i64 x11) ∧ StW m10 ⟨f, 1052, none⟩ (.int .i64 (IntKind.wrap .i64 (x11 - x5))) fun m12 => CallM PP f_dictDecoder_writeMark #[.pointer (some ⟨f, 1037, none⟩), .int .i64 x5] m12 fun v13 m14 => v13 = .tuple #[] ∧ isIfc v6 = true ∧ ifB (!(isNil v6)) (CallM PP f_inflate_noEOF #[v6] m14 fun v16 m17 => ∃ (v15 : Value), v16 = v15 ∧ StW m17 ⟨f, 1048, none⟩ v15 fun m18 => K.kr [(0, .pointer (some ⟨f, 0, none⟩)), (2, .slice a1 l2 k3), (3, .int .i64 x5), (4, v6)] m18) (CallM PP f_dictDecoder_availWrite #[.pointer (some ⟨f, 1037, none⟩)] m14 fun v20 m21 => ∃ (x19 : Int), v20 = .int .i64 x19 ∧ ifB (x19 == 0) (CallM PP f_dictDecoder_readFlush #[.pointer (some ⟨f, 1037, none⟩)] m21 fun v25 m26 => ∃ (a22 : Option Addr), ∃ (l23 : Nat), ∃ (k24 : Nat), v25 = .slice a22 l23 k24 ∧ StW m26 ⟨f, 1049, none⟩ (.slice a22 l23 k24) fun m27 => StW m27 ⟨f, 1045, none⟩ (.func (.func f_decompressor_copyData) #[] #[]) fun m28 => K.kr [(0, .pointer (some ⟨f, 0, none⟩)), (2, .slice a1 l2 k3), (3, .int .i64 x5), (4, v6)] m28) (∃ (x29 : Int), cell? m21 ⟨f, 1052, none⟩ = some (.int .i64 x29) ∧ ifB (decide (x29 > 0)) (CallM PP f_dictDecoder_readFlush #[.pointer (some ⟨f, 1037, none⟩)] m21 fun v33 m34 => ∃ (a30 : Option Addr), ∃ (l31 : Nat), ∃ (k32 : Nat), v33 = .slice a30 l31 k32 ∧ StW m34 ⟨f, 1049, none⟩ (.slice a30 l31 k32) fun m35 => StW m35 ⟨f, 1045, none⟩ (.func (.func f_decompressor_copyData) #[] #[]) fun m36 => K.kr [(0, .pointer (some ⟨f, 0, none⟩)), (2, .slice a1 l2 k3), (3, .int .i64 x5), (4, v6)] m36) (CallM PP f_decompressor_finishBlock #[.pointer (some ⟨f, 0, none⟩)] m21 fun v37 m38 => v37 = .tuple #[] ∧ K.kn [(0, .pointer (some ⟨f, 0, none⟩)), (2, .slice a1 l2 k3), (3, .int .i64 x5), (4, v6)] m38)))) :
    wpc PP FF 83 L_decompressor_copyData c_decompressor_copyData_rr K [(0, .pointer (some ⟨f, 0, none⟩)), (2, .slice a1 l2 k3)] m :=
  Eq.mpr (by kernel_rfl) h

/-! (*loop.example/pub-inflation/pub/inflate.huffmanDecoder).init -/
def L_huffmanDecoder_init : List Nat := [0, 1, 4, 5, 6, 7, 9, 10, 11, 12, 13, 14, 15, 16, 17, 18, 19, 20, 21, 22, 23, 24, 25, 26, 27, 28, 29, 31, 33, 38, 42, 43, 44, 45, 49, 56, 60, 69, 73, 99, 105, 128, 149, 168, 169, 170, 171, 176, 200, 203, 217, 236, 258, 271, 281, 282, 283, 287, 294, 300, 301, 302, 303, 306, 307, 308, 309, 313]
def r_huffmanDecoder_init : List ResultVar := [.tmp 4]
noncomputable def c_huffmanDecoder_init : Code := (Go.Proofs.Tryd.f35.body).getD .skip
theorem b_huffmanDecoder_init : Go.Proofs.Tryd.f35.body = some c_huffmanDecoder_init := by kernel_rfl
noncomputable def c_huffmanDecoder_init_rr : Code := (rgt (rgt c_huffmanDecoder_init))
noncomputable def c_huffmanDecoder_init_rrrrr : Code := (rgt (rgt (rgt c_huffmanDecoder_init_rr)))
noncomputable def c_huffmanDecoder_init_rrrrlrl : Code := (lft (rgt (lft (rgt (rgt c_huffmanDecoder_init_rr)))))
noncomputable def c_huffmanDecoder_init_rrrrlrll : Code := (lft c_huffmanDecoder_init_rrrrlrl)
noncomputable def c_huffmanDecoder_init_rrrrrrrrr : Code := (rgt (rgt (rgt (rgt c_huffmanDecoder_init_rrrrr))))
noncomputable def c_huffmanDecoder_init_rrrrrrrrlrl : Code := (lft (rgt (lft (rgt (rgt (rgt c_huffmanDecoder_init_rrrrr))))))
noncomputable def c_huffmanDecoder_init_rrrrlrllrrr : Code := (rgt (rgt (rgt c_huffmanDecoder_init_rrrrlrll)))
noncomputable def c_huffmanDecoder_init_rrrrrrrrlrll : Code := (lft c_huffmanDecoder_init_rrrrrrrrlrl)
noncomputable def c_huffmanDecoder_init_rrrrrrrrrrrr : Code := (rgt (rgt (rgt c_huffmanDecoder_init_rrrrrrrrr)))
noncomputable def c_huffmanDecoder_init_rrrrrrrrrrrrr : Code := (rgt c_huffmanDecoder_init_rrrrrrrrrrrr)
noncomputable def c_huffmanDecoder_init_rrrrrrrrrrrrrr : Code := (rgt c_huffmanDecoder_init_rrrrrrrrrrrrr)
noncomputable def c_huffmanDecoder_init_rrrrrrrrrrrrlrl : Code := (lft (rgt (lft c_huffmanDecoder_init_rrrrrrrrrrrr)))
noncomputable def c_huffmanDecoder_init_rrrrlrllrrllrrr : Code := (rgt (rgt (rgt (lft (lft (rgt (rgt c_huffmanDecoder_init_rrrrlrll)))))))
noncomputable def c_huffmanDecoder_init_rrrrrrrrrrrrlrll : Code := (lft c_huffmanDecoder_init_rrrrrrrrrrrrlrl)
noncomputable def c_huffmanDecoder_init_rrrrlrllrrllrrrr : Code := (rgt c_huffmanDecoder_init_rrrrlrllrrllrrr)
noncomputable def c_huffmanDecoder_init_rrrrrrrrrrrrrlllrl : Code := (lft (rgt (lft (lft (lft c_huffmanDecoder_init_rrrrrrrrrrrrr)))))
noncomputable def c_huffmanDecoder_init_rrrrrrrrrrrrrllrrl : Code := (lft (rgt (rgt (lft (lft c_huffmanDecoder_init_rrrrrrrrrrrrr)))))
noncomputable def c_huffmanDecoder_init_rrrrrrrrrrrrrlllrll : Code := (lft c_huffmanDecoder_init_rrrrrrrrrrrrrlllrl)
noncomputable def c_huffmanDecoder_init_rrrrrrrrrrrrrllrrll : Code := (lft c_huffmanDecoder_init_rrrrrrrrrrrrrllrrl)
noncomputable def c_huffmanDecoder_init_rrrrrrrrrrrrlrllrrr : Code := (rgt (rgt (rgt c_huffmanDecoder_init_rrrrrrrrrrrrlrll)))
noncomputable def c_huffmanDecoder_init_rrrrrrrrrrrlrlrrrrrl : Code := (lft (rgt (rgt (rgt (rgt (rgt (lft (rgt (lft (rgt (rgt c_huffmanDecoder_init_rrrrrrrrr)))))))))))
noncomputable def c_huffmanDecoder_init_rrrrrrrrrrrlrlrrrrrll : Code := (lft c_huffmanDecoder_init_rrrrrrrrrrrlrlrrrrrl)
noncomputable def c_huffmanDecoder_init_rrrrrrrrrrrrrlllrllrrr : Code := (rgt (rgt (rgt c_huffmanDecoder_init_rrrrrrrrrrrrrlllrll)))
noncomputable def c_huffmanDecoder_init_rrrrrrrrrrrrrllrrllrrr : Code := (rgt (rgt (rgt c_huffmanDecoder_init_rrrrrrrrrrrrrllrrll)))
noncomputable def c_huffmanDecoder_init_rrrrrrrrrrrlrlrrrrrllrr : Code := (rgt (rgt c_huffmanDecoder_init_rrrrrrrrrrrlrlrrrrrll))
noncomputable def c_huffmanDecoder_init_rrrrrrrrrrrrrllrrllrrllrrl : Code := (lft (rgt (rgt (lft (lft (rgt (rgt c_huffmanDecoder_init_rrrrrrrrrrrrrllrrll)))))))
noncomputable def c_huffmanDecoder_init_rrrrrrrrrrrrrllrrllrrllrrll : Code := (lft c_huffmanDecoder_init_rrrrrrrrrrrrrllrrllrrllrrl)
noncomputable def c_huffmanDecoder_init_rrrrrrrrrrrlrlrrrrrllrllrrrr : Code := (rgt (rgt (rgt (rgt (lft (lft (rgt c_huffmanDecoder_init_rrrrrrrrrrrlrlrrrrrll)))))))
noncomputable def c_huffmanDecoder_init_rrrrrrrrrrrrrllrrllrrllrrllrrr : Code := (rgt (rgt (rgt c_huffmanDecoder_init_rrrrrrrrrrrrrllrrllrrllrrll)))
noncomputable def c_huffmanDecoder_init_rrrrrrrrrrrrlrllrrllrrrrrrrrlrl : Code := (lft (rgt (lft (rgt (rgt (rgt (rgt (rgt (rgt (rgt (rgt (lft (lft (rgt (rgt c_huffmanDecoder_init_rrrrrrrrrrrrlrll)))))))))))))))
noncomputable def c_huffmanDecoder_init_rrrrrrrrrrrrlrllrrllrrrrrrrrrrr : Code := (rgt (rgt (rgt (rgt (rgt (rgt (rgt (rgt (rgt (rgt (rgt (lft (lft (rgt (rgt c_huffmanDecoder_init_rrrrrrrrrrrrlrll)))))))))))))))
noncomputable def c_huffmanDecoder_init_rrrrrrrrrrrrlrllrrllrrrrrrrrlrll : Code := (lft c_huffmanDecoder_init_rrrrrrrrrrrrlrllrrllrrrrrrrrlrl)
noncomputable def c_huffmanDecoder_init_rrrrrrrrrrrrlrllrrllrrrrrrrrlrllrr : Code := (rgt (rgt c_huffmanDecoder_init_rrrrrrrrrrrrlrllrrllrrrrrrrrlrll))
noncomputable def c_huffmanDecoder_init_rrrrrrrrrrrrlrllrrllrrrrrrrrrrrrrrrl : Code := (lft (rgt (rgt (rgt (rgt c_huffmanDecoder_init_rrrrrrrrrrrrlrllrrllrrrrrrrrrrr)))))
noncomputable def c_huffmanDecoder_init_rrrrrrrrrrrrlrllrrllrrrrrrrrlrllrllr : Code := (rgt (lft (lft (rgt c_huffmanDecoder_init_rrrrrrrrrrrrlrllrrllrrrrrrrrlrll))))
noncomputable def c_huffmanDecoder_init_rrrrrrrrrrrrlrllrrllrrrrrrrrrrrrrrrll : Code := (lft c_huffmanDecoder_init_rrrrrrrrrrrrlrllrrllrrrrrrrrrrrrrrrl)
noncomputable def c_huffmanDecoder_init_rrrrrrrrrrrrlrllrrllrrrrrrrrrrrrrrrllrr : Code := (rgt (rgt c_huffmanDecoder_init_rrrrrrrrrrrrlrllrrllrrrrrrrrrrrrrrrll))
noncomputable def c_huffmanDecoder_init_rrrrrrrrrrrrlrllrrllrrrrrrrrrrrrrrrllrllr : Code := (rgt (lft (lft (rgt c_huffmanDecoder_init_rrrrrrrrrrrrlrllrrllrrrrrrrrrrrrrrrll))))
theorem q_huffmanDecoder_init_rrrrlrl : c_huffmanDecoder_init_rrrrlrl = .loop c_huffmanDecoder_init_rrrrlrll := by kernel_rfl
theorem q_huffmanDecoder_init_rrrrrrrrlrl : c_huffmanDecoder_init_rrrrrrrrlrl = .loop c_huffmanDecoder_init_rrrrrrrrlrll := by kernel_rfl
theorem q_huffmanDecoder_init_rrrrrrrrrrrrlrl : c_huffmanDecoder_init_rrrrrrrrrrrrlrl = .loop c_huffmanDecoder_init_rrrrrrrrrrrrlrll := by kernel_rfl
theorem q_huffmanDecoder_init_rrrrrrrrrrrrrlllrl : c_huffmanDecoder_init_rrrrrrrrrrrrrlllrl = .loop c_huffmanDecoder_init_rrrrrrrrrrrrrlllrll := by kernel_rfl
theorem q_huffmanDecoder_init_rrrrrrrrrrrrrllrrl : c_huffmanDecoder_init_rrrrrrrrrrrrrllrrl = .loop c_huffmanDecoder_init_rrrrrrrrrrrrrllrrll := by kernel_rfl
theorem q_huffmanDecoder_init_rrrrrrrrrrrlrlrrrrrl : c_huffmanDecoder_init_rrrrrrrrrrrlrlrrrrrl = .loop c_huffmanDecoder_init_rrrrrrrrrrrlrlrrrrrll := by kernel_rfl
theorem q_huffmanDecoder_init_rrrrrrrrrrrrrllrrllrrllrrl : c_huffmanDecoder_init_rrrrrrrrrrrrrllrrllrrllrrl = .loop c_huffmanDecoder_init_rrrrrrrrrrrrrllrrllrrllrrll := by kernel_rfl
theorem q_huffmanDecoder_init_rrrrrrrrrrrrlrllrrllrrrrrrrrlrl : c_huffmanDecoder_init_rrrrrrrrrrrrlrllrrllrrrrrrrrlrl = .loop c_huffmanDecoder_init_rrrrrrrrrrrrlrllrrllrrrrrrrrlrll := by kernel_rfl
theorem q_huffmanDecoder_init_rrrrrrrrrrrrlrllrrllrrrrrrrrrrrrrrrl : c_huffmanDecoder_init_rrrrrrrrrrrrlrllrrllrrrrrrrrrrrrrrrl = .loop c_huffmanDecoder_init_rrrrrrrrrrrrlrllrrllrrrrrrrrrrrrrrrll := by kernel_rfl
/- the loop at rrrrlrl: slots [0, 1, 5, 6, 7, 42, 43, 44] -/
/- the loop at rrrrrrrrlrl: slots [0, 1, 5, 6, 7, 10, 11, 12] -/
/- the loop at rrrrrrrrrrrrlrl: slots [0, 10, 11, 168, 169, 170] -/
/- the loop at rrrrrrrrrrrrrlllrl: slots [0, 10, 281, 282] -/
/- the loop at rrrrrrrrrrrrrllrrl: slots [300, 301, 302] -/
/- the loop at rrrrrrrrrrrlrlrrrrrl: slots [0, 1, 10, 11, 13, 14, 15] -/
/- the loop at rrrrrrrrrrrrrllrrllrrllrrl: slots [300, 301, 302, 306, 307, 308] -/
/- the loop at rrrrrrrrrrrrlrllrrllrrrrrrrrlrl: slots [0, 10, 11, 19, 21, 23, 168, 169, 170] -/
/- the loop at rrrrrrrrrrrrlrllrrllrrrrrrrrrrrrrrrl: slots [0, 10, 11, 19, 21, 26, 27, 168, 169, 170] -/
theorem e_huffmanDecoder_init (b o : Nat) (a1 : Option Addr) (l2 : Nat) (k3 : Nat) (m : Mem) (R : Value → Mem → Prop)
    (h : ∃ (x4 : Int), cell? m ⟨b, o, none⟩ = some (.int .i64 x4) ∧ ifB (x4 != 0) (StAgg PP t_flate_huffmanDecoder m ⟨b, o, none⟩ (zeroV PP t_flate_huffmanDecoder) fun m5 => WPS PP 317 c_huffmanDecoder_init_rr (retK PP r_huffmanDecoder_init R) [(0, .pointer (some ⟨b, o, none⟩)), (1, .slice a1 l2 k3), (4, .bool false)] m5) (WPS PP 317 c_huffmanDecoder_init_rr (retK PP r_huffmanDecoder_init R) [(0, .pointer (some ⟨b, o, none⟩)), (1, .slice a1 l2 k3), (4, .bool false)] m)) :
    CallM PP f_huffmanDecoder_init #[.pointer (some ⟨b, o, none⟩), .slice a1 l2 k3] m R :=
  callM_enter ffOk mixedOk 317 L_huffmanDecoder_init Tryd.func35 b_huffmanDecoder_init Tryd.ntmps35 (by simp) (Eq.mpr (by kernel_rfl) h)

def k_huffmanDecoder_init_rr : List Nat := [0, 1]
theorem p_huffmanDecoder_init_rr (b o : Nat) (a1 : Option Addr) (l2 : Nat) (k3 : Nat) (m : Mem) (K : Kont)
    (h : AllocW PP t_16_int m fun n4 m5 => WPS PP 317 c_huffmanDecoder_init_rrrrlrl ((K.withN fun r m => WPS PP 317 c_huffmanDecoder_init_rrrrr K r m).withX 0) [(0, .pointer (some ⟨b, o, none⟩)), (1, .slice a1 l2 k3), (5, .pointer (some ⟨n4, 0, none⟩)), (6, .int .i64 0), (7, .int .i64 0), (42, .slice a1 l2 k3), (43, .int .i64 (l2 : Int)), (44, .int .i64 0)] m5) :
    wpc PP FF 317 L_huffmanDecoder_init c_huffmanDecoder_init_rr K [(0, .pointer (some ⟨b, o, none⟩)), (1, .slice a1 l2 k3)] m :=
  Eq.mpr (by kernel_rfl) h

def k_huffmanDecoder_init_rrrrlrll : List Nat := [0, 1, 5, 6, 7, 42, 43, 44]
theorem p_huffmanDecoder_init_rrrrlrll (b o : Nat) (a1 : Option Addr) (l2 : Nat) (k3 : Nat) (n4 : Nat) (x5 : Int) (x6 : Int) (a7 : Option Addr) (l8 : Nat) (k9 : Nat) (x10 : Int) (x11 : Int) (m : Mem) (K : Kont)
    (h : ifB (decide (x11 < x10)) (onSome a7 fun p12 => (0 ≤ x11 ∧ x11 < (l8 : Int)) ∧ ∃ (x13 : Int), cell? m (aplus p12 x11.toNat) = some (.int .i64 x13) ∧ ifB (x13 == 0) (WPS PP 317 c_huffmanDecoder_init_rrrrlrllrrr K [(0, .pointer (some ⟨b, o, none⟩)), (1, .slice a1 l2 k3), (5, .pointer (some ⟨n4, 0, none⟩)), (6, .int .i64 x5), (7, .int .i64 x6), (9, .int .i64 x13), (42, .slice a7 l8 k9), (43, .int .i64 x10), (44, .int .i64 x11)] m) (ifB (x5 == 0) (WPS PP 317 c_huffmanDecoder_init_rrrrlrllrrllrrr ((K.withN fun r m => WPS PP 317 c_huffmanDecoder_init_rrrrlrllrrr K r m).withX 1) [(0, .pointer (some ⟨b, o, none⟩)), (1, .slice a1 l2 k3), (5, .pointer (some ⟨n4, 0, none⟩)), (6, .int .i64 x13), (7, .int .i64 x6), (9, .int .i64 x13), (42, .slice a7 l8 k9), (43, .int .i64 x10), (44, .int .i64 x11)] m) (ifB (decide (x13 < x5)) (WPS PP 317 c_huffmanDecoder_init_rrrrlrllrrllrrr ((K.withN fun r m => WPS PP 317 c_huffmanDecoder_init_rrrrlrllrrr K r m).withX 1) [(0, .pointer (some ⟨b, o, none⟩)), (1, .slice a1 l2 k3), (5, .pointer (some ⟨n4, 0, none⟩)), (6, .int .i64 x13), (7, .int .i64 x6), (9, .int .i64 x13), (42, .slice a7 l8 k9), (43, .int .i64 x10), (44, .int .i64 x11)] m) (WPS PP 317 c_huffmanDecoder_init_rrrrlrllrrllrrr ((K.withN fun r m => WPS PP 317 c_huffmanDecoder_init_rrrrlrllrrr K r m).withX 1) [(0, .pointer (some ⟨b, o, none⟩)), (1, .slice a1 l2 k3), (5, .pointer (some ⟨n4, 0, none⟩)), (6, .int .i64 x5), (7, .int .i64 x6), (9, .int .i64 x13), (42, .slice a7 l8 k9), (43, .int .i64 x10), (44, .int .i64 x11)] m)))) (K.kx 0 [(0, .pointer (some ⟨b, o, none⟩)), (1, .slice a1 l2 k3), (5, .pointer (some ⟨n4, 0, none⟩)), (6, .int .i64 x5), (7, .int .i64 x6), (42, .slice a7 l8 k9), (43, .int .i64 x10), (44, .int .i64 x11)] m)) :
    wpc PP FF 317 L_huffmanDecoder_init c_huffmanDecoder_init_rrrrlrll K [(0, .pointer (some ⟨b, o, none⟩)), (1, .slice a1 l2 k3), (5, .pointer (some ⟨n4, 0, none⟩)), (6, .int .i64 x5), (7, .int .i64 x6), (42, .slice a7 l8 k9), (43, .int .i64 x10), (44, .int .i64 x11)] m :=
  Eq.mpr (by kernel_rfl) h

def k_huffmanDecoder_init_rrrrrrrrlrll : List Nat := [0, 1, 5, 6, 7, 10, 11, 12]
theorem p_huffmanDecoder_init_rrrrrrrrlrll (b o : Nat) (a1 : Option Addr) (l2 : Nat) (k3 : Nat) (n4 : Nat) (x5 : Int) (x6 : Int) (x7 : Int) (n8 : Nat) (x9 : Int) (m : Mem) (K : Kont)
    (h : ifB (decide (x9 ≤ x6)) (0 ≤ (1 : Int) ∧ (0 ≤ x9 ∧ x9 < ((16 : Nat) : Int)) ∧ StW m ⟨n8, 0 + x9.toNat, none⟩ (.int .i64 (shlOp .i64 x7 1)) fun m10 => (0 ≤ x9 ∧ x9 < ((16 : Nat) : Int)) ∧ ∃ (x11 : Int), cell? m10 ⟨n4, 0 + x9.toNat, none⟩ = some (.int .i64 x11) ∧ K.kn [(0, .pointer (some ⟨b, o, none⟩)), (1, .slice a1 l2 k3), (5, .pointer (some ⟨n4, 0, none⟩)), (6, .int .i64 x5), (7, .int .i64 x6), (10, .int .i64 (IntKind.wrap .i64 ((shlOp .i64 x7 1) + x11))), (11, .pointer (some ⟨n8, 0, none⟩)), (12, .int .i64 (IntKind.wrap .i64 (x9 + 1)))] m10) (K.kx 2 [(0, .pointer (some ⟨b, o, none⟩)), (1, .slice a1 l2 k3), (5, .pointer (some ⟨n4, 0, none⟩)), (6, .int .i64 x5), (7, .int .i64 x6), (10, .int .i64 x7), (11, .pointer (some ⟨n8, 0, none⟩)), (12, .int .i64 x9)] m)) :
    wpc PP FF 317 L_huffmanDecoder_init c_huffmanDecoder_init_rrrrrrrrlrll K [(0, .pointer (some ⟨b, o, none⟩)), (1, .slice a1 l2 k3), (5, .pointer (some ⟨n4, 0, none⟩)), (6, .int .i64 x5), (7, .int .i64 x6), (10, .int .i64 x7), (11, .pointer (some ⟨n8, 0, none⟩)), (12, .int .i64 x9)] m :=
  Eq.mpr (by kernel_rfl) h

def k_huffmanDecoder_init_rrrrrrrrrrrrlrll : List Nat := [0, 10, 11, 168, 169, 170]
theorem p_huffmanDecoder_init_rrrrrrrrrrrrlrll (b o : Nat) (x1 : Int) (n2 : Nat) (a3 : Option Addr) (l4 : Nat) (k5 : Nat) (x6 : Int) (x7 : Int) (m : Mem) (K : Kont)
    (h : ifB (decide (x7 < x6)) (onSome a3 fun p8 => (0 ≤ x7 ∧ x7 < (l4 : Int)) ∧ ∃ (x9 : Int), cell? m (aplus p8 x7.toNat) = some (.int .i64 x9) ∧ ifB (x9 == 0) (WPS PP 317 c_huffmanDecoder_init_rrrrrrrrrrrrlrllrrr K [(0, .pointer (some ⟨b, o, none⟩)), (10, .int .i64 x1), (11, .pointer (some ⟨n2, 0, none⟩)), (18, .int .i64 x7), (19, .int .i64 x9), (168, .slice a3 l4 k5), (169, .int .i64 x6), (170, .int .i64 x7)] m) ((0 ≤ x9 ∧ x9 < ((16 : Nat) : Int)) ∧ ∃ (x10 : Int), cell? m ⟨n2, 0 + x9.toNat, none⟩ = some (.int .i64 x10) ∧ (0 ≤ x9 ∧ x9 < ((16 : Nat) : Int)) ∧ ∃ (x11 : Int), cell? m ⟨n2, 0 + x9.toNat, none⟩ = some (.int .i64 x11) ∧ (0 ≤ x9 ∧ x9 < ((16 : Nat) : Int)) ∧ StW m ⟨n2, 0 + x9.toNat, none⟩ (.int .i64 (IntKind.wrap .i64 (x11 + 1))) fun m12 => 0 ≤ (4 : Int) ∧ IntKind.i64 = IntKind.i64 ∧ CallM PP f_bits_Reverse16 #[.int .u16 (IntKind.wrap .u16 x10)] m12 fun v14 m15 => ∃ (x13 : Int), v14 = .int .u16 x13 ∧ 0 ≤ (IntKind.wrap .u64 (IntKind.wrap .i64 (16 - x9))) ∧ ifB (decide (x9 ≤ 9)) (WPS PP 317 c_huffmanDecoder_init_rrrrrrrrrrrrlrllrrllrrrrrrrrlrl (((K.withN fun r m => WPS PP 317 c_huffmanDecoder_init_rrrrrrrrrrrrlrllrrr K r m).withX 7).withX 8) [(0, .pointer (some ⟨b, o, none⟩)), (10, .int .i64 x1), (11, .pointer (some ⟨n2, 0, none⟩)), (18, .int .i64 x7), (19, .int .i64 x9), (20, .int .i64 x10), (21, .int .u32 (IntKind.wrap .u32 (bitsOp .or .i64 (shlOp .i64 x7 4) x9))), (22, .int .i64 (shrOp .i64 (IntKind.wrap .i64 x13) (IntKind.wrap .u64 (IntKind.wrap .i64 (16 - x9))))), (23, .int .i64 (shrOp .i64 (IntKind.wrap .i64 x13) (IntKind.wrap .u64 (IntKind.wrap .i64 (16 - x9))))), (168, .slice a3 l4 k5), (169, .int .i64 x6), (170, .int .i64 x7)] m15) (IntKind.i64 = IntKind.i64 ∧ WPS PP 317 c_huffmanDecoder_init_rrrrrrrrrrrrlrllrrllrrrrrrrrrrr ((K.withN fun r m => WPS PP 317 c_huffmanDecoder_init_rrrrrrrrrrrrlrllrrr K r m).withX 7) [(0, .pointer (some ⟨b, o, none⟩)), (10, .int .i64 x1), (11, .pointer (some ⟨n2, 0, none⟩)), (18, .int .i64 x7), (19, .int .i64 x9), (20, .int .i64 x10), (21, .int .u32 (IntKind.wrap .u32 (bitsOp .or .i64 (shlOp .i64 x7 4) x9))), (22, .int .i64 (shrOp .i64 (IntKind.wrap .i64 x13) (IntKind.wrap .u64 (IntKind.wrap .i64 (16 - x9))))), (24, .int .i64 (bitsOp .and .i64 (shrOp .i64 (IntKind.wrap .i64 x13) (IntKind.wrap .u64 (IntKind.wrap .i64 (16 - x9)))) 511)), (168, .slice a3 l4 k5), (169, .int .i64 x6), (170, .int .i64 x7)] m15))) (K.kx 6 [(0, .pointer (some ⟨b, o, none⟩)), (10, .int .i64 x1), (11, .pointer (some ⟨n2, 0, none⟩)), (168, .slice a3 l4 k5), (169, .int .i64 x6), (170, .int .i64 x7)] m)) :
    wpc PP FF 317 L_huffmanDecoder_init c_huffmanDecoder_init_rrrrrrrrrrrrlrll K [(0, .pointer (some ⟨b, o, none⟩)), (10, .int .i64 x1), (11, .pointer (some ⟨n2, 0, none⟩)), (168, .slice a3 l4 k5), (169, .int .i64 x6), (170, .int .i64 x7)] m :=
  Eq.mpr (by kernel_rfl) h

def k_huffmanDecoder_init_rrrrrrrrrrrrrlllrll : List Nat := [0, 10, 281, 282]
theorem p_huffmanDecoder_init_rrrrrrrrrrrrrlllrll (b o : Nat) (x1 : Int) (v2 : Value) (x3 : Int) (m : Mem) (K : Kont)
    (h : ifB (decide (x3 < 512)) (PureW PP (Instr.index t_512_uint32 v2 (.int .i64 x3)) fun u5 => ∃ (x4 : Int), u5 = .int .u32 x4 ∧ ifB (x4 == 0) (ifB (x1 == 1) (IntKind.i64 = IntKind.i64 ∧ (2 : Int) ≠ 0 ∧ ifB ((Int.tmod x3 2) == 1) (WPS PP 317 c_huffmanDecoder_init_rrrrrrrrrrrrrlllrllrrr K [(0, .pointer (some ⟨b, o, none⟩)), (10, .int .i64 x1), (28, .int .i64 x3), (29, .int .u32 x4), (281, v2), (282, .int .i64 x3)] m) (False)) (False)) (WPS PP 317 c_huffmanDecoder_init_rrrrrrrrrrrrrlllrllrrr K [(0, .pointer (some ⟨b, o, none⟩)), (10, .int .i64 x1), (28, .int .i64 x3), (29, .int .u32 x4), (281, v2), (282, .int .i64 x3)] m)) (K.kx 12 [(0, .pointer (some ⟨b, o, none⟩)), (10, .int .i64 x1), (281, v2), (282, .int .i64 x3)] m)) :
    wpc PP FF 317 L_huffmanDecoder_init c_huffmanDecoder_init_rrrrrrrrrrrrrlllrll K [(0, .pointer (some ⟨b, o, none⟩)), (10, .int .i64 x1), (281, v2), (282, .int .i64 x3)] m :=
  Eq.mpr (by kernel_rfl) h

def k_huffmanDecoder_init_rrrrrrrrrrrrrllrrll : List Nat := [300, 301, 302]
theorem p_huffmanDecoder_init_rrrrrrrrrrrrrllrrll (a1 : Option Addr) (l2 : Nat) (k3 : Nat) (x4 : Int) (x5 : Int) (m : Mem) (K : Kont)
    (h : ifB (decide (x5 < x4)) (onSome a1 fun p6 => (0 ≤ x5 ∧ x5 < (l2 : Int)) ∧ ∃ (a7 : Option Addr), ∃ (l8 : Nat), ∃ (k9 : Nat), cell? m (aplus p6 x5.toNat) = some (.slice a7 l8 k9) ∧ WPS PP 317 c_huffmanDecoder_init_rrrrrrrrrrrrrllrrllrrllrrl (((K.withN fun r m => WPS PP 317 c_huffmanDecoder_init_rrrrrrrrrrrrrllrrllrrr K r m).withX 15).withX 16) [(31, .slice a7 l8 k9), (300, .slice a1 l2 k3), (301, .int .i64 x4), (302, .int .i64 x5), (306, .slice a7 l8 k9), (307, .int .i64 (l8 : Int)), (308, .int .i64 0)] m) (K.kx 14 [(300, .slice a1 l2 k3), (301, .int .i64 x4), (302, .int .i64 x5)] m)) :
    wpc PP FF 317 L_huffmanDecoder_init c_huffmanDecoder_init_rrrrrrrrrrrrrllrrll K [(300, .slice a1 l2 k3), (301, .int .i64 x4), (302, .int .i64 x5)] m :=
  Eq.mpr (by kernel_rfl) h

def k_huffmanDecoder_init_rrrrrrrrrrrlrlrrrrrll : List Nat := [0, 1, 10, 11, 13, 14, 15]
theorem p_huffmanDecoder_init_rrrrrrrrrrrlrlrrrrrll (b o : Nat) (a1 : Option Addr) (l2 : Nat) (k3 : Nat) (x4 : Int) (n5 : Nat) (x6 : Int) (x7 : Int) (x8 : Int) (m : Mem) (K : Kont)
    (h : ifB (decide (x8 < 512)) (CallM PP f_bits_Reverse16 #[.int .u16 (IntKind.wrap .u16 x8)] m fun v10 m11 => ∃ (x9 : Int), v10 = .int .u16 x9 ∧ 0 ≤ (7 : Int) ∧ WPS PP 317 c_huffmanDecoder_init_rrrrrrrrrrrlrlrrrrrllrllrrrr ((K.withN fun r m => wpc PP FF 317 L_huffmanDecoder_init c_huffmanDecoder_init_rrrrrrrrrrrlrlrrrrrllrr K r m).withX 5) [(0, .pointer (some ⟨b, o, none⟩)), (1, .slice a1 l2 k3), (10, .int .i64 x4), (11, .pointer (some ⟨n5, 0, none⟩)), (13, .int .i64 x6), (14, .int .i64 x7), (15, .int .u64 x8), (16, .int .i64 (shrOp .i64 (IntKind.wrap .i64 x9) 7)), (17, .int .u64 (IntKind.wrap .u64 (x8 - (IntKind.wrap .u64 x7))))] m11) (K.kx 4 [(0, .pointer (some ⟨b, o, none⟩)), (1, .slice a1 l2 k3), (10, .int .i64 x4), (11, .pointer (some ⟨n5, 0, none⟩)), (13, .int .i64 x6), (14, .int .i64 x7), (15, .int .u64 x8)] m)) :
    wpc PP FF 317 L_huffmanDecoder_init c_huffmanDecoder_init_rrrrrrrrrrrlrlrrrrrll K [(0, .pointer (some ⟨b, o, none⟩)), (1, .slice a1 l2 k3), (10, .int .i64 x4), (11, .pointer (some ⟨n5, 0, none⟩)), (13, .int .i64 x6), (14, .int .i64 x7), (15, .int .u64 x8)] m :=
  Eq.mpr (by kernel_rfl) h

def k_huffmanDecoder_init_rrrrrrrrrrrrrllrrllrrllrrll : List Nat := [300, 301, 302, 306, 307, 308]
theorem p_huffmanDecoder_init_rrrrrrrrrrrrrllrrllrrllrrll (a1 : Option Addr) (l2 : Nat) (k3 : Nat) (x4 : Int) (x5 : Int) (a6 : Option Addr) (l7 : Nat) (k8 : Nat) (x9 : Int) (x10 : Int) (m : Mem) (K : Kont)
    (h : ifB (decide (x10 < x9)) (onSome a6 fun p11 => (0 ≤ x10 ∧ x10 < (l7 : Int)) ∧ ∃ (x12 : Int), cell? m (aplus p11 x10.toNat) = some (.int .u32 x12) ∧ ifB (x12 == 0) (False) (WPS PP 317 c_huffmanDecoder_init_rrrrrrrrrrrrrllrrllrrllrrllrrr K [(33, .int .u32 x12), (300, .slice a1 l2 k3), (301, .int .i64 x4), (302, .int .i64 x5), (306, .slice a6 l7 k8), (307, .int .i64 x9), (308, .int .i64 x10)] m)) (K.kx 16 [(300, .slice a1 l2 k3), (301, .int .i64 x4), (302, .int .i64 x5), (306, .slice a6 l7 k8), (307, .int .i64 x9), (308, .int .i64 x10)] m)) :
    wpc PP FF 317 L_huffmanDecoder_init c_huffmanDecoder_init_rrrrrrrrrrrrrllrrllrrllrrll K [(300, .slice a1 l2 k3), (301, .int .i64 x4), (302, .int .i64 x5), (306, .slice a6 l7 k8), (307, .int .i64 x9), (308, .int .i64 x10)] m :=
  Eq.mpr (by kernel_rfl) h

def k_huffmanDecoder_init_rrrrrrrrrrrrlrllrrllrrrrrrrrlrll : List Nat := [0, 10, 11, 19, 21, 23, 168, 169, 170]
theorem p_huffmanDecoder_init_rrrrrrrrrrrrlrllrrllrrrrrrrrlrll (b o : Nat) (x1 : Int) (n2 : Nat) (x3 : Int) (x4 : Int) (x5 : Int) (a6 : Option Addr) (l7 : Nat) (k8 : Nat) (x9 : Int) (x10 : Int) (m : Mem) (K : Kont)
    (h : ifB (decide (x5 < 512)) (WPS PP 317 c_huffmanDecoder_init_rrrrrrrrrrrrlrllrrllrrrrrrrrlrllrllr ((K.withN fun r m => wpc PP FF 317 L_huffmanDecoder_init c_huffmanDecoder_init_rrrrrrrrrrrrlrllrrllrrrrrrrrlrllrr K r m).withX 9) [(0, .pointer (some ⟨b, o, none⟩)), (10, .int .i64 x1), (11, .pointer (some ⟨n2, 0, none⟩)), (19, .int .i64 x3), (21, .int .u32 x4), (23, .int .i64 x5), (168, .slice a6 l7 k8), (169, .int .i64 x9), (170, .int .i64 x10)] m) (K.kx 8 [(0, .pointer (some ⟨b, o, none⟩)), (10, .int .i64 x1), (11, .pointer (some ⟨n2, 0, none⟩)), (19, .int .i64 x3), (21, .int .u32 x4), (23, .int .i64 x5), (168, .slice a6 l7 k8), (169, .int .i64 x9), (170, .int .i64 x10)] m)) :
    wpc PP FF 317 L_huffmanDecoder_init c_huffmanDecoder_init_rrrrrrrrrrrrlrllrrllrrrrrrrrlrll K [(0, .pointer (some ⟨b, o, none⟩)), (10, .int .i64 x1), (11, .pointer (some ⟨n2, 0, none⟩)), (19, .int .i64 x3), (21, .int .u32 x4), (23, .int .i64 x5), (168, .slice a6 l7 k8), (169, .int .i64 x9), (170, .int .i64 x10)] m :=
  Eq.mpr (by kernel_rfl) h

def k_huffmanDecoder_init_rrrrrrrrrrrrlrllrrllrrrrrrrrrrrrrrrll : List Nat := [0, 10, 11, 19, 21, 26, 27, 168, 169, 170]
theorem p_huffmanDecoder_init_rrrrrrrrrrrrlrllrrllrrrrrrrrrrrrrrrll (b o : Nat) (x1 : Int) (n2 : Nat) (x3 : Int) (x4 : Int) (a5 : Option Addr) (l6 : Nat) (k7 : Nat) (x8 : Int) (a9 : Option Addr) (l10 : Nat) (k11 : Nat) (x12 : Int) (x13 : Int) (m : Mem) (K : Kont)
    (h : ifB (decide (x8 < (l6 : Int))) (WPS PP 317 c_huffmanDecoder_init_rrrrrrrrrrrrlrllrrllrrrrrrrrrrrrrrrllrllr ((K.withN fun r m => wpc PP FF 317 L_huffmanDecoder_init c_huffmanDecoder_init_rrrrrrrrrrrrlrllrrllrrrrrrrrrrrrrrrllrr K r m).withX 11) [(0, .pointer (some ⟨b, o, none⟩)), (10, .int .i64 x1), (11, .pointer (some ⟨n2, 0, none⟩)), (19, .int .i64 x3), (21, .int .u32 x4), (26, .slice a5 l6 k7), (27, .int .i64 x8), (168, .slice a9 l10 k11), (169, .int .i64 x12), (170, .int .i64 x13)] m) (K.kx 10 [(0, .pointer (some ⟨b, o, none⟩)), (10, .int .i64 x1), (11, .pointer (some ⟨n2, 0, none⟩)), (19, .int .i64 x3), (21, .int .u32 x4), (26, .slice a5 l6 k7), (27, .int .i64 x8), (168, .slice a9 l10 k11), (169, .int .i64 x12), (170, .int .i64 x13)] m)) :
    wpc PP FF 317 L_huffmanDecoder_init c_huffmanDecoder_init_rrrrrrrrrrrrlrllrrllrrrrrrrrrrrrrrrll K [(0, .pointer (some ⟨b, o, none⟩)), (10, .int .i64 x1), (11, .pointer (some ⟨n2, 0, none⟩)), (19, .int .i64 x3), (21, .int .u32 x4), (26, .slice a5 l6 k7), (27, .int .i64 x8), (168, .slice a9 l10 k11), (169, .int .i64 x12), (170, .int .i64 x13)] m :=
  Eq.mpr (by kernel_rfl) h

def k_huffmanDecoder_init_rrrrr : List Nat := [0, 1, 5, 6, 7]
theorem p_huffmanDecoder_init_rrrrr (b o : Nat) (a1 : Option Addr) (l2 : Nat) (k3 : Nat) (n4 : Nat) (x5 : Int) (x6 : Int) (m : Mem) (K : Kont)
    (h : ifB (x6 == 0) (K.kr [(0, .pointer (some ⟨b, o, none⟩)), (1, .slice a1 l2 k3), (4, .bool true), (5, .pointer (some ⟨n4, 0, none⟩)), (6, .int .i64 x5), (7, .int .i64 x6)] m) (AllocW PP t_16_int m fun n7 m8 => WPS PP 317 c_huffmanDecoder_init_rrrrrrrrlrl ((K.withN fun r m => WPS PP 317 c_huffmanDecoder_init_rrrrrrrrr K r m).withX 2) [(0, .pointer (some ⟨b, o, none⟩)), (1, .slice a1 l2 k3), (5, .pointer (some ⟨n4, 0, none⟩)), (6, .int .i64 x5), (7, .int .i64 x6), (10, .int .i64 0), (11, .pointer (some ⟨n7, 0, none⟩)), (12, .int .i64 x5)] m8)) :
    wpc PP FF 317 L_huffmanDecoder_init c_huffmanDecoder_init_rrrrr K [(0, .pointer (some ⟨b, o, none⟩)), (1, .slice a1 l2 k3), (5, .pointer (some ⟨n4, 0, none⟩)), (6, .int .i64 x5), (7, .int .i64 x6)] m :=
  Eq.mpr (by kernel_rfl) h

def k_huffmanDecoder_init_rrrrlrllrrr : List Nat := [0, 1, 5, 6, 7, 42, 43, 44]
theorem p_huffmanDecoder_init_rrrrlrllrrr (b o : Nat) (a1 : Option Addr) (l2 : Nat) (k3 : Nat) (n4 : Nat) (x5 : Int) (x6 : Int) (a7 : Option Addr) (l8 : Nat) (k9 : Nat) (x10 : Int) (x11 : Int) (m : Mem) (K : Kont)
    (h : K.kn [(0, .pointer (some ⟨b, o, none⟩)), (1, .slice a1 l2 k3), (5, .pointer (some ⟨n4, 0, none⟩)), (6, .int .i64 x5), (7, .int .i64 x6), (42, .slice a7 l8 k9), (43, .int .i64 x10), (44, .int .i64 (IntKind.wrap .i64 (x11 + 1)))] m) :
    wpc PP FF 317 L_huffmanDecoder_init c_huffmanDecoder_init_rrrrlrllrrr K [(0, .pointer (some ⟨b, o, none⟩)), (1, .slice a1 l2 k3), (5, .pointer (some ⟨n4, 0, none⟩)), (6, .int .i64 x5), (7, .int .i64 x6), (42, .slice a7 l8 k9), (43, .int .i64 x10), (44, .int .i64 x11)] m :=
  Eq.mpr (by kernel_rfl) h

def k_huffmanDecoder_init_rrrrlrllrrllrrr : List Nat := [0, 1, 5, 6, 7, 9, 42, 43, 44]
theorem p_huffmanDecoder_init_rrrrlrllrrllrrr (b o : Nat) (a1 : Option Addr) (l2 : Nat) (k3 : Nat) (n4 : Nat) (x5 : Int) (x6 : Int) (x7 : Int) (a8 : Option Addr) (l9 : Nat) (k10 : Nat) (x11 : Int) (x12 : Int) (m : Mem) (K : Kont)
    (h : ifB (decide (x7 > x6)) (WPS PP 317 c_huffmanDecoder_init_rrrrlrllrrllrrrr K [(0, .pointer (some ⟨b, o, none⟩)), (1, .slice a1 l2 k3), (5, .pointer (some ⟨n4, 0, none⟩)), (6, .int .i64 x5), (7, .int .i64 x7), (9, .int .i64 x7), (42, .slice a8 l9 k10), (43, .int .i64 x11), (44, .int .i64 x12)] m) (WPS PP 317 c_huffmanDecoder_init_rrrrlrllrrllrrrr K [(0, .pointer (some ⟨b, o, none⟩)), (1, .slice a1 l2 k3), (5, .pointer (some ⟨n4, 0, none⟩)), (6, .int .i64 x5), (7, .int .i64 x6), (9, .int .i64 x7), (42, .slice a8 l9 k10), (43, .int .i64 x11), (44, .int .i64 x12)] m)) :
    wpc PP FF 317 L_huffmanDecoder_init c_huffmanDecoder_init_rrrrlrllrrllrrr K [(0, .pointer (some ⟨b, o, none⟩)), (1, .slice a1 l2 k3), (5, .pointer (some ⟨n4, 0, none⟩)), (6, .int .i64 x5), (7, .int .i64 x6), (9, .int .i64 x7), (42, .slice a8 l9 k10), (43, .int .i64 x11), (44, .int .i64 x12)] m :=
  Eq.mpr (by kernel_rfl) h

def k_huffmanDecoder_init_rrrrrrrrrrrrlrllrrr : List Nat := [0, 10, 11, 168, 169, 170]
theorem p_huffmanDecoder_init_rrrrrrrrrrrrlrllrrr (b o : Nat) (x1 : Int) (n2 : Nat) (a3 : Option Addr) (l4 : Nat) (k5 : Nat) (x6 : Int) (x7 : Int) (m : Mem) (K : Kont)
    (h : K.kn [(0, .pointer (some ⟨b, o, none⟩)), (10, .int .i64 x1), (11, .pointer (some ⟨n2, 0, none⟩)), (168, .slice a3 l4 k5), (169, .int .i64 x6), (170, .int .i64 (IntKind.wrap .i64 (x7 + 1)))] m) :
    wpc PP FF 317 L_huffmanDecoder_init c_huffmanDecoder_init_rrrrrrrrrrrrlrllrrr K [(0, .pointer (some ⟨b, o, none⟩)), (10, .int .i64 x1), (11, .pointer (some ⟨n2, 0, none⟩)), (168, .slice a3 l4 k5), (169, .int .i64 x6), (170, .int .i64 x7)] m :=
  Eq.mpr (by kernel_rfl) h

def k_huffmanDecoder_init_rrrrrrrrrrrrrlllrllrrr : List Nat := [0, 10, 281, 282]
theorem p_huffmanDecoder_init_rrrrrrrrrrrrrlllrllrrr (b o : Nat) (x1 : Int) (v2 : Value) (x3 : Int) (m : Mem) (K : Kont)
    (h : K.kn [(0, .pointer (some ⟨b, o, none⟩)), (10, .int .i64 x1), (281, v2), (282, .int .i64 (IntKind.wrap .i64 (x3 + 1)))] m) :
    wpc PP FF 317 L_huffmanDecoder_init c_huffmanDecoder_init_rrrrrrrrrrrrrlllrllrrr K [(0, .pointer (some ⟨b, o, none⟩)), (10, .int .i64 x1), (281, v2), (282, .int .i64 x3)] m :=
  Eq.mpr (by kernel_rfl) h

def k_huffmanDecoder_init_rrrrrrrrrrrrrllrrllrrr : List Nat := [300, 301, 302]
theorem p_huffmanDecoder_init_rrrrrrrrrrrrrllrrllrrr (a1 : Option Addr) (l2 : Nat) (k3 : Nat) (x4 : Int) (x5 : Int) (m : Mem) (K : Kont)
    (h : K.kn [(300, .slice a1 l2 k3), (301, .int .i64 x4), (302, .int .i64 (IntKind.wrap .i64 (x5 + 1)))] m) :
    wpc PP FF 317 L_huffmanDecoder_init c_huffmanDecoder_init_rrrrrrrrrrrrrllrrllrrr K [(300, .slice a1 l2 k3), (301, .int .i64 x4), (302, .int .i64 x5)] m :=
  Eq.mpr (by kernel_rfl) h

def k_huffmanDecoder_init_rrrrrrrrrrrlrlrrrrrllrr : List Nat := [0, 1, 10, 11, 13, 14, 15]
theorem p_huffmanDecoder_init_rrrrrrrrrrrlrlrrrrrllrr (b o : Nat) (a1 : Option Addr) (l2 : Nat) (k3 : Nat) (x4 : Int) (n5 : Nat) (x6 : Int) (x7 : Int) (x8 : Int) (m : Mem) (K : Kont)
    (h : K.kn [(0, .pointer (some ⟨b, o, none⟩)), (1, .slice a1 l2 k3), (10, .int .i64 x4), (11, .pointer (some ⟨n5, 0, none⟩)), (13, .int .i64 x6), (14, .int .i64 x7), (15, .int .u64 (IntKind.wrap .u64 (x8 + 1)))] m) :
    wpc PP FF 317 L_huffmanDecoder_init c_huffmanDecoder_init_rrrrrrrrrrrlrlrrrrrllrr K [(0, .pointer (some ⟨b, o, none⟩)), (1, .slice a1 l2 k3), (10, .int .i64 x4), (11, .pointer (some ⟨n5, 0, none⟩)), (13, .int .i64 x6), (14, .int .i64 x7), (15, .int .u64 x8)] m :=
  Eq.mpr (by kernel_rfl) h

def k_huffmanDecoder_init_rrrrrrrrrrrlrlrrrrrllrllrrrr : List Nat := [0, 1, 10, 11, 13, 14, 15, 16, 17]
theorem p_huffmanDecoder_init_rrrrrrrrrrrlrlrrrrrllrllrrrr (b o : Nat) (a1 : Option Addr) (l2 : Nat) (k3 : Nat) (x4 : Int) (n5 : Nat) (x6 : Int) (x7 : Int) (x8 : Int) (x9 : Int) (x10 : Int) (m : Mem) (K : Kont)
    (h : 0 ≤ (4 : Int) ∧ IntKind.u64 = IntKind.u64 ∧ (0 ≤ x9 ∧ x9 < ((512 : Nat) : Int)) ∧ StW m ⟨b, o + 1 + x9.toNat, none⟩ (.int .u32 (IntKind.wrap .u32 (bitsOp .or .u64 (shlOp .u64 x10 4) 10))) fun m11 => ∃ (a12 : Option Addr), ∃ (l13 : Nat), ∃ (k14 : Nat), cell? m11 ⟨b, o + 513, none⟩ = some (.slice a12 l13 k14) ∧ SemW PP (sv (Instr.makeSlice t_s_uint32 (.int .i64 x6) (.int .i64 x6))) m11 (NextW PP fun v18 m19 => ∃ (a15 : Option Addr), ∃ (l16 : Nat), ∃ (k17 : Nat), v18 = .slice a15 l16 k17 ∧ cell? m19 ⟨b, o + 513, none⟩ = some (.slice a12 l13 k14) ∧ onSome a12 fun p20 => (0 ≤ x10 ∧ x10 < (l13 : Int)) ∧ StW m19 (aplus p20 x10.toNat) (.slice a15 l16 k17) fun m21 => cell? m21 ⟨b, o + 513, none⟩ = some (.slice a12 l13 k14) ∧ K.kn [(0, .pointer (some ⟨b, o, none⟩)), (1, .slice a1 l2 k3), (10, .int .i64 x4), (11, .pointer (some ⟨n5, 0, none⟩)), (13, .int .i64 x6), (14, .int .i64 x7), (15, .int .u64 x8), (16, .int .i64 x9), (17, .int .u64 x10)] m21)) :
    wpc PP FF 317 L_huffmanDecoder_init c_huffmanDecoder_init_rrrrrrrrrrrlrlrrrrrllrllrrrr K [(0, .pointer (some ⟨b, o, none⟩)), (1, .slice a1 l2 k3), (10, .int .i64 x4), (11, .pointer (some ⟨n5, 0, none⟩)), (13, .int .i64 x6), (14, .int .i64 x7), (15, .int .u64 x8), (16, .int .i64 x9), (17, .int .u64 x10)] m :=
  Eq.mpr (by kernel_rfl) h

def k_huffmanDecoder_init_rrrrrrrrrrrrrllrrllrrllrrllrrr : List Nat := [300, 301, 302, 306, 307, 308]
theorem p_huffmanDecoder_init_rrrrrrrrrrrrrllrrllrrllrrllrrr (a1 : Option Addr) (l2 : Nat) (k3 : Nat) (x4 : Int) (x5 : Int) (a6 : Option Addr) (l7 : Nat) (k8 : Nat) (x9 : Int) (x10 : Int) (m : Mem) (K : Kont)
    (h : K.kn [(300, .slice a1 l2 k3), (301, .int .i64 x4), (302, .int .i64 x5), (306, .slice a6 l7 k8), (307, .int .i64 x9), (308, .int .i64 (IntKind.wrap .i64 (x10 + 1)))] m) :
    wpc PP FF 317 L_huffmanDecoder_init c_huffmanDecoder_init_rrrrrrrrrrrrrllrrllrrllrrllrrr K [(300, .slice a1 l2 k3), (301, .int .i64 x4), (302, .int .i64 x5), (306, .slice a6 l7 k8), (307, .int .i64 x9), (308, .int .i64 x10)] m :=
  Eq.mpr (by kernel_rfl) h

def k_huffmanDecoder_init_rrrrrrrrrrrrlrllrrllrrrrrrrrrrr : List Nat := [0, 10, 11, 19, 21, 22, 24, 168, 169, 170]
theorem p_huffmanDecoder_init_rrrrrrrrrrrrlrllrrllrrrrrrrrrrr (b o : Nat) (x1 : Int) (n2 : Nat) (x3 : Int) (x4 : Int) (x5 : Int) (x6 : Int) (a7 : Option Addr) (l8 : Nat) (k9 : Nat) (x10 : Int) (x11 : Int) (m : Mem) (K : Kont)
    (h : (0 ≤ x6 ∧ x6 < ((512 : Nat) : Int)) ∧ ∃ (x12 : Int), cell? m ⟨b, o + 1 + x6.toNat, none⟩ = some (.int .u32 x12) ∧ 0 ≤ (4 : Int) ∧ ∃ (a13 : Option Addr), ∃ (l14 : Nat), ∃ (k15 : Nat), cell? m ⟨b, o + 513, none⟩ = some (.slice a13 l14 k15) ∧ onSome a13 fun p16 => (0 ≤ (shrOp .u32 x12 4) ∧ (shrOp .u32 x12 4) < (l14 : Int)) ∧ ∃ (a17 : Option Addr), ∃ (l18 : Nat), ∃ (k19 : Nat), cell? m (aplus p16 ((shrOp .u32 x12 4).toNat)) = some (.slice a17 l18 k19) ∧ 0 ≤ (9 : Int) ∧ WPS PP 317 c_huffmanDecoder_init_rrrrrrrrrrrrlrllrrllrrrrrrrrrrrrrrrl (K.withX 10) [(0, .pointer (some ⟨b, o, none⟩)), (10, .int .i64 x1), (11, .pointer (some ⟨n2, 0, none⟩)), (19, .int .i64 x3), (21, .int .u32 x4), (22, .int .i64 (shrOp .i64 x5 9)), (24, .int .i64 x6), (25, .int .u32 (shrOp .u32 x12 4)), (26, .slice a17 l18 k19), (27, .int .i64 (shrOp .i64 x5 9)), (168, .slice a7 l8 k9), (169, .int .i64 x10), (170, .int .i64 x11)] m) :
    wpc PP FF 317 L_huffmanDecoder_init c_huffmanDecoder_init_rrrrrrrrrrrrlrllrrllrrrrrrrrrrr K [(0, .pointer (some ⟨b, o, none⟩)), (10, .int .i64 x1), (11, .pointer (some ⟨n2, 0, none⟩)), (19, .int .i64 x3), (21, .int .u32 x4), (22, .int .i64 x5), (24, .int .i64 x6), (168, .slice a7 l8 k9), (169, .int .i64 x10), (170, .int .i64 x11)] m :=
  Eq.mpr (by kernel_rfl) h

def k_huffmanDecoder_init_rrrrrrrrrrrrlrllrrllrrrrrrrrlrllrr : List Nat := [0, 10, 11, 19, 21, 23, 168, 169, 170]
theorem p_huffmanDecoder_init_rrrrrrrrrrrrlrllrrllrrrrrrrrlrllrr (b o : Nat) (x1 : Int) (n2 : Nat) (x3 : Int) (x4 : Int) (x5 : Int) (a6 : Option Addr) (l7 : Nat) (k8 : Nat) (x9 : Int) (x10 : Int) (m : Mem) (K : Kont)
    (h : 0 ≤ (IntKind.wrap .u64 x3) ∧ K.kn [(0, .pointer (some ⟨b, o, none⟩)), (10, .int .i64 x1), (11, .pointer (some ⟨n2, 0, none⟩)), (19, .int .i64 x3), (21, .int .u32 x4), (23, .int .i64 (IntKind.wrap .i64 (x5 + (shlOp .i64 1 (IntKind.wrap .u64 x3))))), (168, .slice a6 l7 k8), (169, .int .i64 x9), (170, .int .i64 x10)] m) :
    wpc PP FF 317 L_huffmanDecoder_init c_huffmanDecoder_init_rrrrrrrrrrrrlrllrrllrrrrrrrrlrllrr K [(0, .pointer (some ⟨b, o, none⟩)), (10, .int .i64 x1), (11, .pointer (some ⟨n2, 0, none⟩)), (19, .int .i64 x3), (21, .int .u32 x4), (23, .int .i64 x5), (168, .slice a6 l7 k8), (169, .int .i64 x9), (170, .int .i64 x10)] m :=
  Eq.mpr (by kernel_rfl) h

def k_huffmanDecoder_init_rrrrrrrrrrrrlrllrrllrrrrrrrrlrllrllr : List Nat := [0, 10, 11, 19, 21, 23, 168, 169, 170]
theorem p_huffmanDecoder_init_rrrrrrrrrrrrlrllrrllrrrrrrrrlrllrllr (b o : Nat) (x1 : Int) (n2 : Nat) (x3 : Int) (x4 : Int) (x5 : Int) (a6 : Option Addr) (l7 : Nat) (k8 : Nat) (x9 : Int) (x10 : Int) (m : Mem) (K : Kont)
    (h : (0 ≤ x5 ∧ x5 < ((512 : Nat) : Int)) ∧ StW m ⟨b, o + 1 + x5.toNat, none⟩ (.int .u32 x4) fun m11 => K.kn [(0, .pointer (some ⟨b, o, none⟩)), (10, .int .i64 x1), (11, .pointer (some ⟨n2, 0, none⟩)), (19, .int .i64 x3), (21, .int .u32 x4), (23, .int .i64 x5), (168, .slice a6 l7 k8), (169, .int .i64 x9), (170, .int .i64 x10)] m11) :
    wpc PP FF 317 L_huffmanDecoder_init c_huffmanDecoder_init_rrrrrrrrrrrrlrllrrllrrrrrrrrlrllrllr K [(0, .pointer (some ⟨b, o, none⟩)), (10, .int .i64 x1), (11, .pointer (some ⟨n2, 0, none⟩)), (19, .int .i64 x3), (21, .int .u32 x4), (23, .int .i64 x5), (168, .slice a6 l7 k8), (169, .int .i64 x9), (170, .int .i64 x10)] m :=
  Eq.mpr (by kernel_rfl) h

def k_huffmanDecoder_init_rrrrrrrrrrrrlrllrrllrrrrrrrrrrrrrrrllrr : List Nat := [0, 10, 11, 19, 21, 26, 27, 168, 169, 170]
theorem p_huffmanDecoder_init_rrrrrrrrrrrrlrllrrllrrrrrrrrrrrrrrrllrr (b o : Nat) (x1 : Int) (n2 : Nat) (x3 : Int) (x4 : Int) (a5 : Option Addr) (l6 : Nat) (k7 : Nat) (x8 : Int) (a9 : Option Addr) (l10 : Nat) (k11 : Nat) (x12 : Int) (x13 : Int) (m : Mem) (K : Kont)
    (h : 0 ≤ (IntKind.wrap .u64 (IntKind.wrap .i64 (x3 - 9))) ∧ K.kn [(0, .pointer (some ⟨b, o, none⟩)), (10, .int .i64 x1), (11, .pointer (some ⟨n2, 0, none⟩)), (19, .int .i64 x3), (21, .int .u32 x4), (26, .slice a5 l6 k7), (27, .int .i64 (IntKind.wrap .i64 (x8 + (shlOp .i64 1 (IntKind.wrap .u64 (IntKind.wrap .i64 (x3 - 9))))))), (168, .slice a9 l10 k11), (169, .int .i64 x12), (170, .int .i64 x13)] m) :
    wpc PP FF 317 L_huffmanDecoder_init c_huffmanDecoder_init_rrrrrrrrrrrrlrllrrllrrrrrrrrrrrrrrrllrr K [(0, .pointer (some ⟨b, o, none⟩)), (10, .int .i64 x1), (11, .pointer (some ⟨n2, 0, none⟩)), (19, .int .i64 x3), (21, .int .u32 x4), (26, .slice a5 l6 k7), (27, .int .i64 x8), (168, .slice a9 l10 k11), (169, .int .i64 x12), (170, .int .i64 x13)] m :=
  Eq.mpr (by kernel_rfl) h

def k_huffmanDecoder_init_rrrrrrrrrrrrlrllrrllrrrrrrrrrrrrrrrllrllr : List Nat := [0, 10, 11, 19, 21, 26, 27, 168, 169, 170]
theorem p_huffmanDecoder_init_rrrrrrrrrrrrlrllrrllrrrrrrrrrrrrrrrllrllr (b o : Nat) (x1 : Int) (n2 : Nat) (x3 : Int) (x4 : Int) (a5 : Option Addr) (l6 : Nat) (k7 : Nat) (x8 : Int) (a9 : Option Addr) (l10 : Nat) (k11 : Nat) (x12 : Int) (x13 : Int) (m : Mem) (K : Kont)
    (h : onSome a5 fun p14 => (0 ≤ x8 ∧ x8 < (l6 : Int)) ∧ StW m (aplus p14 x8.toNat) (.int .u32 x4) fun m15 => K.kn [(0, .pointer (some ⟨b, o, none⟩)), (10, .int .i64 x1), (11, .pointer (some ⟨n2, 0, none⟩)), (19, .int .i64 x3), (21, .int .u32 x4), (26, .slice a5 l6 k7), (27, .int .i64 x8), (168, .slice a9 l10 k11), (169, .int .i64 x12), (170, .int .i64 x13)] m15) :
    wpc PP FF 317 L_huffmanDecoder_init c_huffmanDecoder_init_rrrrrrrrrrrrlrllrrllrrrrrrrrrrrrrrrllrllr K [(0, .pointer (some ⟨b, o, none⟩)), (10, .int .i64 x1), (11, .pointer (some ⟨n2, 0, none⟩)), (19, .int .i64 x3), (21, .int .u32 x4), (26, .slice a5 l6 k7), (27, .int .i64 x8), (168, .slice a9 l10 k11), (169, .int .i64 x12), (170, .int .i64 x13)] m :=
  Eq.mpr (by kernel_rfl) h

def k_huffmanDecoder_init_rrrrrrrrr : List Nat := [0, 1, 6, 7, 10, 11]
theorem p_huffmanDecoder_init_rrrrrrrrr (b o : Nat) (a1 : Option Addr) (l2 : Nat) (k3 : Nat) (x4 : Int) (x5 : Int) (x6 : Int) (n7 : Nat) (m : Mem) (K : Kont)
    (h : 0 ≤ (IntKind.wrap .u64 x5) ∧ ifB (x6 != shlOp .i64 1 (IntKind.wrap .u64 x5)) (ifB (x6 == 1) (ifB (!(x5 == 1)) (K.kr [(0, .pointer (some ⟨b, o, none⟩)), (1, .slice a1 l2 k3), (4, .bool false), (6, .int .i64 x4), (7, .int .i64 x5), (10, .int .i64 x6), (11, .pointer (some ⟨n7, 0, none⟩))] m) (StW m ⟨b, o, none⟩ (.int .i64 x4) fun m8 => ifB (decide (x5 > 9)) (0 ≤ (IntKind.wrap .u64 ((IntKind.wrap .u64 x5) - 9)) ∧ StW m8 ⟨b, o + 514, none⟩ (.int .u32 (IntKind.wrap .u32 (IntKind.wrap .i64 ((shlOp .i64 1 (IntKind.wrap .u64 ((IntKind.wrap .u64 x5) - 9))) - 1)))) fun m9 => (0 ≤ (10 : Int) ∧ (10 : Int) < ((16 : Nat) : Int)) ∧ ∃ (x10 : Int), cell? m9 ⟨n7, 10, none⟩ = some (.int .i64 x10) ∧ 0 ≤ (1 : Int) ∧ SemW PP (sv (Instr.makeSlice t_s_s_uint32 (.int .i64 (IntKind.wrap .i64 (512 - (shrOp .i64 x10 1)))) (.int .i64 (IntKind.wrap .i64 (512 - (shrOp .i64 x10 1)))))) m9 (NextW PP fun v14 m15 => ∃ (a11 : Option Addr), ∃ (l12 : Nat), ∃ (k13 : Nat), v14 = .slice a11 l12 k13 ∧ StW m15 ⟨b, o + 513, none⟩ (.slice a11 l12 k13) fun m16 => WPS PP 317 c_huffmanDecoder_init_rrrrrrrrrrrlrlrrrrrl ((K.withN fun r m => WPS PP 317 c_huffmanDecoder_init_rrrrrrrrrrrr K r m).withX 4) [(0, .pointer (some ⟨b, o, none⟩)), (1, .slice a1 l2 k3), (6, .int .i64 x4), (7, .int .i64 x5), (10, .int .i64 x6), (11, .pointer (some ⟨n7, 0, none⟩)), (13, .int .i64 (shlOp .i64 1 (IntKind.wrap .u64 ((IntKind.wrap .u64 x5) - 9)))), (14, .int .i64 (shrOp .i64 x10 1)), (15, .int .u64 (IntKind.wrap .u64 (shrOp .i64 x10 1)))] m16)) (WPS PP 317 c_huffmanDecoder_init_rrrrrrrrrrrr K [(0, .pointer (some ⟨b, o, none⟩)), (1, .slice a1 l2 k3), (6, .int .i64 x4), (7, .int .i64 x5), (10, .int .i64 x6), (11, .pointer (some ⟨n7, 0, none⟩))] m8))) (K.kr [(0, .pointer (some ⟨b, o, none⟩)), (1, .slice a1 l2 k3), (4, .bool false), (6, .int .i64 x4), (7, .int .i64 x5), (10, .int .i64 x6), (11, .pointer (some ⟨n7, 0, none⟩))] m)) (StW m ⟨b, o, none⟩ (.int .i64 x4) fun m17 => ifB (decide (x5 > 9)) (0 ≤ (IntKind.wrap .u64 ((IntKind.wrap .u64 x5) - 9)) ∧ StW m17 ⟨b, o + 514, none⟩ (.int .u32 (IntKind.wrap .u32 (IntKind.wrap .i64 ((shlOp .i64 1 (IntKind.wrap .u64 ((IntKind.wrap .u64 x5) - 9))) - 1)))) fun m18 => (0 ≤ (10 : Int) ∧ (10 : Int) < ((16 : Nat) : Int)) ∧ ∃ (x19 : Int), cell? m18 ⟨n7, 10, none⟩ = some (.int .i64 x19) ∧ 0 ≤ (1 : Int) ∧ SemW PP (sv (Instr.makeSlice t_s_s_uint32 (.int .i64 (IntKind.wrap .i64 (512 - (shrOp .i64 x19 1)))) (.int .i64 (IntKind.wrap .i64 (512 - (shrOp .i64 x19 1)))))) m18 (NextW PP fun v23 m24 => ∃ (a20 : Option Addr), ∃ (l21 : Nat), ∃ (k22 : Nat), v23 = .slice a20 l21 k22 ∧ StW m24 ⟨b, o + 513, none⟩ (.slice a20 l21 k22) fun m25 => WPS PP 317 c_huffmanDecoder_init_rrrrrrrrrrrlrlrrrrrl ((K.withN fun r m => WPS PP 317 c_huffmanDecoder_init_rrrrrrrrrrrr K r m).withX 4) [(0, .pointer (some ⟨b, o, none⟩)), (1, .slice a1 l2 k3), (6, .int .i64 x4), (7, .int .i64 x5), (10, .int .i64 x6), (11, .pointer (some ⟨n7, 0, none⟩)), (13, .int .i64 (shlOp .i64 1 (IntKind.wrap .u64 ((IntKind.wrap .u64 x5) - 9)))), (14, .int .i64 (shrOp .i64 x19 1)), (15, .int .u64 (IntKind.wrap .u64 (shrOp .i64 x19 1)))] m25)) (WPS PP 317 c_huffmanDecoder_init_rrrrrrrrrrrr K [(0, .pointer (some ⟨b, o, none⟩)), (1, .slice a1 l2 k3), (6, .int .i64 x4), (7, .int .i64 x5), (10, .int .i64 x6), (11, .pointer (some ⟨n7, 0, none⟩))] m17))) :
    wpc PP FF 317 L_huffmanDecoder_init c_huffmanDecoder_init_rrrrrrrrr K [(0, .pointer (some ⟨b, o, none⟩)), (1, .slice a1 l2 k3), (6, .int .i64 x4), (7, .int .i64 x5), (10, .int .i64 x6), (11, .pointer (some ⟨n7, 0, none⟩))] m :=
  Eq.mpr (by kernel_rfl) h

def k_huffmanDecoder_init_rrrrlrllrrllrrrr : List Nat := [0, 1, 5, 6, 7, 9, 42, 43, 44]
theorem p_huffmanDecoder_init_rrrrlrllrrllrrrr (b o : Nat) (a1 : Option Addr) (l2 : Nat) (k3 : Nat) (n4 : Nat) (x5 : Int) (x6 : Int) (x7 : Int) (a8 : Option Addr) (l9 : Nat) (k10 : Nat) (x11 : Int) (x12 : Int) (m : Mem) (K : Kont)
    (h : (0 ≤ x7 ∧ x7 < ((16 : Nat) : Int)) ∧ ∃ (x13 : Int), cell? m ⟨n4, 0 + x7.toNat, none⟩ = some (.int .i64 x13) ∧ (0 ≤ x7 ∧ x7 < ((16 : Nat) : Int)) ∧ StW m ⟨n4, 0 + x7.toNat, none⟩ (.int .i64 (IntKind.wrap .i64 (x13 + 1))) fun m14 => K.kn [(0, .pointer (some ⟨b, o, none⟩)), (1, .slice a1 l2 k3), (5, .pointer (some ⟨n4, 0, none⟩)), (6, .int .i64 x5), (7, .int .i64 x6), (9, .int .i64 x7), (42, .slice a8 l9 k10), (43, .int .i64 x11), (44, .int .i64 x12)] m14) :
    wpc PP FF 317 L_huffmanDecoder_init c_huffmanDecoder_init_rrrrlrllrrllrrrr K [(0, .pointer (some ⟨b, o, none⟩)), (1, .slice a1 l2 k3), (5, .pointer (some ⟨n4, 0, none⟩)), (6, .int .i64 x5), (7, .int .i64 x6), (9, .int .i64 x7), (42, .slice a8 l9 k10), (43, .int .i64 x11), (44, .int .i64 x12)] m :=
  Eq.mpr (by kernel_rfl) h

def k_huffmanDecoder_init_rrrrrrrrrrrr : List Nat := [0, 1, 10, 11]
theorem p_huffmanDecoder_init_rrrrrrrrrrrr (b o : Nat) (a1 : Option Addr) (l2 : Nat) (k3 : Nat) (x4 : Int) (n5 : Nat) (m : Mem) (K : Kont)
    (h : WPS PP 317 c_huffmanDecoder_init_rrrrrrrrrrrrlrl ((K.withN fun r m => WPS PP 317 c_huffmanDecoder_init_rrrrrrrrrrrrr K r m).withX 6) [(0, .pointer (some ⟨b, o, none⟩)), (1, .slice a1 l2 k3), (10, .int .i64 x4), (11, .pointer (some ⟨n5, 0, none⟩)), (168, .slice a1 l2 k3), (169, .int .i64 (l2 : Int)), (170, .int .i64 0)] m) :
    wpc PP FF 317 L_huffmanDecoder_init c_huffmanDecoder_init_rrrrrrrrrrrr K [(0, .pointer (some ⟨b, o, none⟩)), (1, .slice a1 l2 k3), (10, .int .i64 x4), (11, .pointer (some ⟨n5, 0, none⟩))] m :=
  Eq.mpr (by kernel_rfl) h

def k_huffmanDecoder_init_rrrrrrrrrrrrr : List Nat := [0, 10]
theorem p_huffmanDecoder_init_rrrrrrrrrrrrr (b o : Nat) (x1 : Int) (m : Mem) (K : Kont)
    (h : WPS PP 317 c_huffmanDecoder_init_rrrrrrrrrrrrrr K [(0, .pointer (some ⟨b, o, none⟩)), (10, .int .i64 x1)] m) :
    wpc PP FF 317 L_huffmanDecoder_init c_huffmanDecoder_init_rrrrrrrrrrrrr K [(0, .pointer (some ⟨b, o, none⟩)), (10, .int .i64 x1)] m :=
  Eq.mpr (by kernel_rfl) h

def k_huffmanDecoder_init_rrrrrrrrrrrrrr : List Nat := []
theorem p_huffmanDecoder_init_rrrrrrrrrrrrrr  (m : Mem) (K : Kont)
    (h : K.kr [(4, .bool true)] m  ) :
    wpc PP FF 317 L_huffmanDecoder_init c_huffmanDecoder_init_rrrrrrrrrrrrrr K [] m :=
  Eq.mpr (by kernel_rfl) h

end Go.M
