/- FnExactEmpty: empty blocks give nothing: the tied card. For every slice of bytes. The package variables are as the program's text lays them. -/
import Derived.Test.YthmddkghlmgpaaaDoorPke
import Derived.Test.YthmddkghlmgpaaaDoorPkx
import Derived.Test.YthmddkghlmgpaaaDoorPkr
import Derived.Test.YthmddkghlmgpaaaDoorPkzf
import Derived.Test.YthmddkghlmgpaaaDoorCards
import Derived.SevenTiedAt
set_option maxRecDepth 100000
namespace Go.M
open Go Go.Proofs
def L_laws_FnExactEmpty : List Nat := [0, 2, 3, 4, 7, 10]
def r_laws_FnExactEmpty : List ResultVar := [.tmp 2]
noncomputable def c_laws_FnExactEmpty : Code := (Go.Proofs.Tryd.f4.body).getD .skip
theorem b_laws_FnExactEmpty : Go.Proofs.Tryd.f4.body = some c_laws_FnExactEmpty := by kernel_rfl
theorem e_laws_FnExactEmpty (a1 : Option Addr) (l2 : Nat) (k3 : Nat) (m : Mem) (R : Value → Mem → Prop)
    (h : ifB (decide ((l2 : Int) > 2147483647)) (R (.bool true) m) (ifB (decide ((l2 : Int) > 16777216)) (R (.bool true) m) (CallM PP f_spec_Empty #[.slice a1 l2 k3] m fun v7 m8 => ∃ a4 l5 k6, v7 = .slice a4 l5 k6 ∧ CallM PP f_impl_All #[.slice a4 l5 k6, .int .i64 131072] m8 fun v13 m14 => ∃ a9 l10, ∃ k11 x12, v13 = .tuple #[.slice a9 l10 k11, .int .i64 x12] ∧ ifB (x12 == 1) (R (.bool ((l10 : Int) == 0)) m14) (R (.bool false) m14)))) :
    CallM PP f_laws_FnExactEmpty #[.slice a1 l2 k3] m R :=
  callM_enter ffOk mixedOk 24 L_laws_FnExactEmpty Tryd.func4 b_laws_FnExactEmpty Tryd.ntmps4 (by simp) (Eq.mpr (by kernel_rfl) h)
end Go.M

namespace Go.Proofs.YthmddkghlmgpaaaDoor
open Go Go.M Go.ChangeShapes Go.WideShapes Go.ChangeAt Go.RowKit
set_option maxRecDepth 100000
theorem exactEmpty_walk {E : Errs} {d : List Nat} {m : Mem} {a : Option Addr} {l k b o : Nat} (hS : SlcB m a l k b o d) (hG : Glob E m) {R : Value → Mem → Prop} (hk : ∀ m', (∀ S, Fr S m m') → R (.bool true) m') :
    CallM PP f_laws_FnExactEmpty #[.slice a l k] m R := by
  refine e_laws_FnExactEmpty a l k m R ?_
  by_cases h1 : (l : Int) > 2147483647
  · rw [decide_eq_true h1]; exact ifB_t (hk m fun S => Fr.refl S m)
  rw [decide_eq_false h1]
  refine ifB_f ?_
  by_cases h2 : (l : Int) > 16777216
  · rw [decide_eq_true h2]; exact ifB_t (hk m fun S => Fr.refl S m)
  rw [decide_eq_false h2]
  refine ifB_f ?_
  refine Empty_spec hS fun m1 a1 l1 k1 b1 o1 src ch hS1 hst hB hcl F1 => ⟨_, _, _, rfl, ?_⟩
  refine read_of hG F1 hS1 hst hB.is (by omega) (by simp) fun m2 a5 k5 b5 o5 hO5 f2 F2 => ⟨_, _, _, _, rfl, ifB_t ?_⟩
  exact hk m2 F2
theorem exactEmpty_lifted (os : Os) (started : os.Started) (H : Type) (enc : TypeId × Value → H) :
    ReturnsInHanded {} Tryd.checked os f_laws_FnExactEmpty .any (fun w args => (Rows.fnExactEmptySpec.pre enc Tryd.prog (fnAt f_laws_FnExactEmpty) [] false w args ∧ laidMetH Tryd.prog laidL w) ∧ sizedMet enc Tryd.prog (fnAt f_laws_FnExactEmpty) (OpenSpec.ofChange Rows.fnExactEmptySpec) false w args)
      (Rows.fnExactEmptySpec.post enc Tryd.prog (fnAt f_laws_FnExactEmpty) false true false false) := by
  refine returnsInHanded_of_change_and (C := Tryd.checked) (X := fun w _ => laidMetH Tryd.prog laidL w) (fun _ _ _ hh h => h.of_heap hh) own started (by kernel_rfl) (by kernel_rfl)
    (ChangeSpec.witness_shaped (enc := enc) (C := Tryd.checked) (os := os) (X := fun w _ => laidMetH Tryd.prog laidL w) false (World.doorLaid Tryd.prog 400 os) #[.slice none 0 0] 8 rfl (shaped os _) (by kernel_rfl) (by kernel_rfl) (by kernel_rfl) (door_met os _)) ?_
  intro W base args ds gs before hval0 hW _ _ hL _
  have hp : (fnAt f_laws_FnExactEmpty).params = #[t_s_uint8] := by kernel_rfl
  have hval : ∀ (j : Nat) t v, (fnAt f_laws_FnExactEmpty).params[j]? = some t → args[j]? = some v → Value.okWide Tryd.prog W .any base t v := hval0
  have hW' := hW
  obtain ⟨p, q, hA, hV, _, _, _⟩ := hW
  rw [hp] at hA hval
  obtain ⟨v0, d0, rfl, rfl, h0⟩ := trodAll_one hA
  obtain ⟨a0, l0, k0, b0, o0, s0, rfl, hS0⟩ := bytes_arg (hval 0 _ v0 rfl rfl) h0
  obtain ⟨E, hG⟩ := glob_laid hL
  obtain ⟨g, rfl⟩ : ∃ g, gs = [g] := by
    match gs, hV with
    | [g], _ => exact ⟨g, rfl⟩
    | _ :: _ :: _, ⟨_, _, _, _, _, _, _, _, _, _, h, _⟩ => exact h.elim
  refine (calls_of (exactEmpty_walk hS0 hG fun m' hf => ⟨rfl, hf⟩)).mono fun e W' ⟨he, hs, hf⟩ => ⟨_, he, ?_⟩
  exact law_post hW' hs hf (tb := t_bool) (by kernel_rfl) (by kernel_rfl) rfl readable (by kernel_rfl) codeVar
theorem exactEmpty_said : Rows.FnExactEmptySaid :=
  OpenClaim.holds_of_wide f_laws_FnExactEmpty (fnAt f_laws_FnExactEmpty) rfl rfl rfl rfl rfl rfl rfl ⟨rfl, rfl, rfl, rfl, rfl⟩ rfl rfl rfl rfl rfl (by kernel_rfl) (by kernel_rfl) (by kernel_rfl)
    (of_decide_eq_true (by kernel_rfl)) (by unfold Func.isWrapper; rw [if_neg (of_decide_eq_false (by kernel_rfl))]; exact ⟨rfl, rfl⟩)
    (fun os started H enc _ => exactEmpty_lifted os started H enc)
end Go.Proofs.YthmddkghlmgpaaaDoor

namespace Go.Proofs.YthmddkghlmgpaaaDoor
open Go Go.M
set_option maxRecDepth 100000
theorem exactEmpty_card : Rows.FnExactEmptyCardSaid :=
  Claim7.holds_tied_plain_at .later [] [.handle, .sentinel, .sentinel, .sentinel, .data] true Rows.fnExactEmptyCard.stood.harness true
    exactEmpty_said (fun _ h => by cases h) (by kernel_rfl) (fun _ h => by cases h) fnExactEmpty_row_tie rfl ⟨rfl, rfl⟩ (by kernel_rfl) rfl
    (fun f fn hf hfn => by
      obtain rfl : f = f_laws_FnExactEmpty := Option.some.inj ((show Tryd.prog.funcNamed "loop.example/pub-inflation/laws.FnExactEmpty" = some f_laws_FnExactEmpty by kernel_rfl).symm.trans hf) |>.symm
      obtain rfl : fn = fnAt f_laws_FnExactEmpty := (Option.some.inj ((show Tryd.prog.funcs[f_laws_FnExactEmpty]? = some (fnAt f_laws_FnExactEmpty) by kernel_rfl).symm.trans hfn)).symm
      exact ⟨by kernel_rfl, fun j t ht => by
        rw [show (fnAt f_laws_FnExactEmpty).params = #[t_s_uint8] by kernel_rfl] at ht
        have h3 : t = t_s_uint8 := by
          rcases j with _ | j
          · simpa using ht.symm
          · simp at ht
        subst h3
        exact (show Tryd.prog.wantsStandIn t_s_uint8 = false by kernel_rfl)⟩)
    (by kernel_rfl)
end Go.Proofs.YthmddkghlmgpaaaDoor
