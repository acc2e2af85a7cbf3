/- What pieces of the code come to. -/
import Derived.Test.YtobbgfnnlbopjabDoorPke
set_option maxRecDepth 100000
namespace Go.M
open Go Go.Proofs
/-! (*bufio.Reader).readErr -/
def L_bufio_Reader_readErr : List Nat := [0, 2, 3]
def r_bufio_Reader_readErr : List ResultVar := [.tmp 2]
noncomputable def c_bufio_Reader_readErr : Code := (Go.Proofs.Tryd.f107.body).getD .skip
theorem b_bufio_Reader_readErr : Go.Proofs.Tryd.f107.body = some c_bufio_Reader_readErr := by kernel_rfl
theorem e_bufio_Reader_readErr (b : Nat) (m : Mem) (R : Value → Mem → Prop)
    (h : ∃ (v1 : Value), cell? m ⟨b, 4, none⟩ = some (v1) ∧ StW m ⟨b, 4, none⟩ .nilIface fun m2 => R (v1) m2  ) :
    CallM PP f_bufio_Reader_readErr #[.pointer (some ⟨b, 0, none⟩)] m R :=
  callM_enter ffOk mixedOk 12 L_bufio_Reader_readErr Tryd.func107 b_bufio_Reader_readErr Tryd.ntmps107 (by simp) (Eq.mpr (by kernel_rfl) h)

/-! (*loop.example/pub-inflation/pub/inflate.decompressor).Read -/
def L_decompressor_Read : List Nat := [0, 1, 4, 5, 6, 12, 33, 44, 67]
def r_decompressor_Read : List ResultVar := [.tmp 4, .tmp 5]
noncomputable def c_decompressor_Read : Code := (Go.Proofs.Tryd.f109.body).getD .skip
theorem b_decompressor_Read : Go.Proofs.Tryd.f109.body = some c_decompressor_Read := by kernel_rfl
noncomputable def c_decompressor_Read_rl : Code := (lft (rgt c_decompressor_Read))
noncomputable def c_decompressor_Read_rll : Code := (lft c_decompressor_Read_rl)
theorem q_decompressor_Read_rl : c_decompressor_Read_rl = .loop c_decompressor_Read_rll := by kernel_rfl
/- the loop at rl: slots [0, 1] -/
theorem e_decompressor_Read (f : Nat) (a1 : Option Addr) (l2 : Nat) (k3 : Nat) (m : Mem) (R : Value → Mem → Prop)
    (h : WPS PP 75 c_decompressor_Read_rl ((retK PP r_decompressor_Read R).withX 0) [(0, .pointer (some ⟨f, 0, none⟩)), (1, .slice a1 l2 k3), (4, .int .i64 0), (5, .nilIface)] m) :
    CallM PP f_decompressor_Read #[.pointer (some ⟨f, 0, none⟩), .slice a1 l2 k3] m R :=
  callM_enter ffOk mixedOk 75 L_decompressor_Read Tryd.func109 b_decompressor_Read Tryd.ntmps109 (by simp) (Eq.mpr (by kernel_rfl) h)

def k_decompressor_Read_rll : List Nat := [0, 1]
theorem p_decompressor_Read_rll (f : Nat) (a1 : Option Addr) (l2 : Nat) (k3 : Nat) (m : Mem) (K : Kont)
    (h : ∃ (a4 : Option Addr), ∃ (l5 : Nat), ∃ (k6 : Nat), cell? m ⟨f, 1049, none⟩ = some (.slice a4 l5 k6) ∧ ifB (decide ((l5 : Int) > 0)) (∃ (a7 : Option Addr), ∃ (l8 : Nat), ∃ (k9 : Nat), cell? m ⟨f, 1049, none⟩ = some (.slice a7 l8 k9) ∧ SemW PP (builtin .copy #[t_s_uint8, t_s_uint8] t_int #[false, false] #[.slice a1 l2 k3, .slice a7 l8 k9]) m (NextW PP fun v11 m12 => ∃ (x10 : Int), v11 = .int .i64 x10 ∧ ∃ (a13 : Option Addr), ∃ (l14 : Nat), ∃ (k15 : Nat), cell? m12 ⟨f, 1049, none⟩ = some (.slice a13 l14 k15) ∧ l14 ≤ k15 ∧ (0 ≤ x10 ∧ x10 ≤ (l14 : Int)) ∧ StW m12 ⟨f, 1049, none⟩ (.slice (subA a13 x10.toNat 1 k15) (l14 - x10.toNat) (k15 - x10.toNat)) fun m16 => ∃ (a17 : Option Addr), ∃ (l18 : Nat), ∃ (k19 : Nat), cell? m16 ⟨f, 1049, none⟩ = some (.slice a17 l18 k19) ∧ ifB ((l18 : Int) == 0) (∃ (v20 : Value), cell? m16 ⟨f, 1048, none⟩ = some (v20) ∧ K.kr [(0, .pointer (some ⟨f, 0, none⟩)), (1, .slice a1 l2 k3), (4, .int .i64 x10), (5, v20), (6, .int .i64 x10)] m16) (K.kr [(0, .pointer (some ⟨f, 0, none⟩)), (1, .slice a1 l2 k3), (4, .int .i64 x10), (5, .nilIface), (6, .int .i64 x10)] m16))) (∃ (v21 : Value), cell? m ⟨f, 1048, none⟩ = some (v21) ∧ isIfc v21 = true ∧ ifB (!(isNil v21)) (∃ (v22 : Value), cell? m ⟨f, 1048, none⟩ = some (v22) ∧ K.kr [(0, .pointer (some ⟨f, 0, none⟩)), (1, .slice a1 l2 k3), (4, .int .i64 0), (5, v22)] m) (∃ (v23 : Value), cell? m ⟨f, 1045, none⟩ = some (v23) ∧ callW PP FF 0 v23 #[.pointer (some ⟨f, 0, none⟩)] m fun _v24 m25 => ∃ (v26 : Value), cell? m25 ⟨f, 1048, none⟩ = some (v26) ∧ isIfc v26 = true ∧ ifB (!(isNil v26)) (∃ (a27 : Option Addr), ∃ (l28 : Nat), ∃ (k29 : Nat), cell? m25 ⟨f, 1049, none⟩ = some (.slice a27 l28 k29) ∧ ifB ((l28 : Int) == 0) (CallM PP f_dictDecoder_readFlush #[.pointer (some ⟨f, 1037, none⟩)] m25 fun v33 m34 => ∃ (a30 : Option Addr), ∃ (l31 : Nat), ∃ (k32 : Nat), v33 = .slice a30 l31 k32 ∧ StW m34 ⟨f, 1049, none⟩ (.slice a30 l31 k32) fun m35 => K.kn [(0, .pointer (some ⟨f, 0, none⟩)), (1, .slice a1 l2 k3)] m35) (K.kn [(0, .pointer (some ⟨f, 0, none⟩)), (1, .slice a1 l2 k3)] m25)) (K.kn [(0, .pointer (some ⟨f, 0, none⟩)), (1, .slice a1 l2 k3)] m25)))) :
    wpc PP FF 75 L_decompressor_Read c_decompressor_Read_rll K [(0, .pointer (some ⟨f, 0, none⟩)), (1, .slice a1 l2 k3)] m :=
  Eq.mpr (by kernel_rfl) h

end Go.M
