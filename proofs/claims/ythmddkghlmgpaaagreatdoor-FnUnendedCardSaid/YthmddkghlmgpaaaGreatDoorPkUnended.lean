/- FnUnended: a stream without a final block ends with an error, behind what it gives: the tied card. For every slice of bytes. The package variables are as the program's text lays them. -/
import Derived.Test.YthmddkghlmgpaaaGreatDoorPke
import Derived.Test.YthmddkghlmgpaaaGreatDoorPkx
import Derived.Test.YthmddkghlmgpaaaGreatDoorPkr
import Derived.Test.YthmddkghlmgpaaaGreatDoorPkzf
import Derived.Test.YthmddkghlmgpaaaGreatDoorCards
import Derived.SevenTiedAt
set_option maxRecDepth 100000
namespace Go.M
open Go Go.Proofs
def L_laws_FnUnended : List Nat := [0, 2, 3, 4, 5, 6, 9, 12]
def r_laws_FnUnended : List ResultVar := [.tmp 2]
noncomputable def c_laws_FnUnended : Code := (Go.Proofs.Tryz.f8.body).getD .skip
theorem b_laws_FnUnended : Go.Proofs.Tryz.f8.body = some c_laws_FnUnended := by kernel_rfl
theorem e_laws_FnUnended (a1 : Option Addr) (l2 : Nat) (k3 : Nat) (m : Mem) (R : Value → Mem → Prop)
    (h : ifB (decide ((l2 : Int) > 2147483647)) (R (.bool true) m) (ifB (decide ((l2 : Int) > 16777216)) (R (.bool true) m) (CallM PP f_spec_SplitOf #[.slice a1 l2 k3] m fun v10 m11 => ∃ a4 l5, ∃ k6 a7, ∃ l8 k9, v10 = .tuple #[.slice a4 l5 k6, .slice a7 l8 k9] ∧ CallM PP f_impl_All #[.slice a4 l5 k6, .int .i64 131072] m11 fun v16 m17 => ∃ a12 l13, ∃ k14 x15, v16 = .tuple #[.slice a12 l13 k14, .int .i64 x15] ∧ ifB (x15 != 0) (ifB (x15 != 1) (CallM PP f_laws_begins #[.slice a7 l8 k9, .slice a12 l13 k14] m17 fun v19 m20 => ∃ b18, v19 = .bool b18 ∧ R (.bool b18) m20) (R (.bool false) m17)) (R (.bool false) m17)))) :
    CallM PP f_laws_FnUnended #[.slice a1 l2 k3] m R :=
  callM_enter ffOk mixedOk 34 L_laws_FnUnended Tryz.func8 b_laws_FnUnended Tryz.ntmps8 (by simp) (Eq.mpr (by kernel_rfl) h)
end Go.M

namespace Go.Proofs.YthmddkghlmgpaaaGreatDoor
open Go Go.M Go.ChangeShapes Go.WideShapes Go.ChangeAt Go.RowKit
set_option maxRecDepth 100000
theorem unended_walk {E : Errs} {d : List Nat} {m : Mem} {a : Option Addr} {l k b o : Nat} (hS : SlcB m a l k b o d) (hG : Glob E m) {R : Value → Mem → Prop} (hk : ∀ m', (∀ S, Fr S m m') → R (.bool true) m') :
    CallM PP f_laws_FnUnended #[.slice a l k] m R := by
  refine e_laws_FnUnended a l k m R ?_
  by_cases h1 : (l : Int) > 2147483647
  · rw [decide_eq_true h1]; exact ifB_t (hk m fun S => Fr.refl S m)
  rw [decide_eq_false h1]
  refine ifB_f ?_
  by_cases h2 : (l : Int) > 16777216
  · rw [decide_eq_true h2]; exact ifB_t (hk m fun S => Fr.refl S m)
  rw [decide_eq_false h2]
  refine ifB_f ?_
  refine SplitOf_spec hS fun m1 a1 l1 k1 b1 o1 src ch a4 l4 k4 b4 o4 H hM h8 F1 => ⟨_, _, _, _, _, _, rfl, ?_⟩
  have hG1 := hG.fr (F1 fun _ _ => False) (by intro i j h; exact h.elim)
  have hlen := hM.st.len
  have hcl := hM.len
  have hsz := hM.size
  have hl1 := hM.row.len
  have hl4 := hM.want.len
  have hr := hM.blk.unended hM.st h8
  refine All_short hM.row hG1 (by omega) hr hM.size fun m2 a5 k5 b5 o5 hO5 _ f2 => ⟨_, _, _, _, rfl, ifB_t (ifB_t ?_)⟩
  exact begins_true (hM.want.sp (f2 fun _ _ => False) fun _ _ => id) (hO5.slc hM.want.byte) (by omega) ⟨[], (List.append_nil _).symm⟩ ⟨_, rfl, hk m2 fun S => (F1 S).trans (f2 S)⟩
theorem unended_lifted (os : Os) (started : os.Started) (H : Type) (enc : TypeId × Value → H) :
    ReturnsInHanded {} Tryz.checked os f_laws_FnUnended .any (fun w args => (Rows.fnUnendedSpec.pre enc Tryz.prog (fnAt f_laws_FnUnended) [] false w args ∧ laidMetH Tryz.prog laidL w) ∧ sizedMet enc Tryz.prog (fnAt f_laws_FnUnended) (OpenSpec.ofChange Rows.fnUnendedSpec) false w args)
      (Rows.fnUnendedSpec.post enc Tryz.prog (fnAt f_laws_FnUnended) false true false false) := by
  refine returnsInHanded_of_change_and (C := Tryz.checked) (X := fun w _ => laidMetH Tryz.prog laidL w) (fun _ _ _ hh h => h.of_heap hh) own started (by kernel_rfl) (by kernel_rfl)
    (ChangeSpec.witness_shaped (enc := enc) (C := Tryz.checked) (os := os) (X := fun w _ => laidMetH Tryz.prog laidL w) false (World.doorLaid Tryz.prog 400 os) #[.slice none 0 0] 8 rfl (shaped os _) (by kernel_rfl) (by kernel_rfl) (by kernel_rfl) (door_met os _)) ?_
  intro W base args ds gs before hval0 hW _ _ hL _
  have hp : (fnAt f_laws_FnUnended).params = #[t_s_uint8] := by kernel_rfl
  have hval : ∀ (j : Nat) t v, (fnAt f_laws_FnUnended).params[j]? = some t → args[j]? = some v → Value.okWide Tryz.prog W .any base t v := hval0
  have hW' := hW
  obtain ⟨p, q, hA, hV, _, _, _⟩ := hW
  rw [hp] at hA hval
  obtain ⟨v0, d0, rfl, rfl, h0⟩ := trodAll_one hA
  obtain ⟨a0, l0, k0, b0, o0, s0, rfl, hS0⟩ := bytes_arg (hval 0 _ v0 rfl rfl) h0
  obtain ⟨E, hG⟩ := glob_laid hL
  obtain ⟨g, rfl⟩ : ∃ g, gs = [g] := by
    match gs, hV with
    | [g], _ => exact ⟨g, rfl⟩
    | _ :: _ :: _, ⟨_, _, _, _, _, _, _, _, _, _, h, _⟩ => exact h.elim
  refine (calls_of (unended_walk hS0 hG fun m' hf => ⟨rfl, hf⟩)).mono fun e W' ⟨he, hs, hf⟩ => ⟨_, he, ?_⟩
  exact law_post hW' hs hf (tb := t_bool) (by kernel_rfl) (by kernel_rfl) rfl readable (by kernel_rfl) codeVar
theorem unended_said : Rows.FnUnendedSaid :=
  OpenClaim.holds_of_wide f_laws_FnUnended (fnAt f_laws_FnUnended) rfl rfl rfl rfl rfl rfl rfl ⟨rfl, rfl, rfl, rfl, rfl⟩ rfl rfl rfl rfl rfl (by kernel_rfl) (by kernel_rfl) (by kernel_rfl)
    (of_decide_eq_true (by kernel_rfl)) (by unfold Func.isWrapper; rw [if_neg (of_decide_eq_false (by kernel_rfl))]; exact ⟨rfl, rfl⟩)
    (fun os started H enc _ => unended_lifted os started H enc)
end Go.Proofs.YthmddkghlmgpaaaGreatDoor

namespace Go.Proofs.YthmddkghlmgpaaaGreatDoor
open Go Go.M
set_option maxRecDepth 100000
theorem unended_card : Rows.FnUnendedCardSaid :=
  Claim7.holds_tied_plain_at .later [] [.handle, .sentinel, .sentinel, .sentinel, .data] true Rows.fnUnendedCard.stood.harness true
    unended_said (fun _ h => by cases h) (by kernel_rfl) (fun _ h => by cases h) fnUnended_row_tie rfl ⟨rfl, rfl⟩ (by kernel_rfl) rfl
    (fun f fn hf hfn => by
      obtain rfl : f = f_laws_FnUnended := Option.some.inj ((show Tryz.prog.funcNamed "loop.example/pub-inflation/laws.FnUnended" = some f_laws_FnUnended by kernel_rfl).symm.trans hf) |>.symm
      obtain rfl : fn = fnAt f_laws_FnUnended := (Option.some.inj ((show Tryz.prog.funcs[f_laws_FnUnended]? = some (fnAt f_laws_FnUnended) by kernel_rfl).symm.trans hfn)).symm
      exact ⟨by kernel_rfl, fun j t ht => by
        rw [show (fnAt f_laws_FnUnended).params = #[t_s_uint8] by kernel_rfl] at ht
        have h3 : t = t_s_uint8 := by
          rcases j with _ | j
          · simpa using ht.symm
          · simp at ht
        subst h3
        exact (show Tryz.prog.wantsStandIn t_s_uint8 = false by kernel_rfl)⟩)
    (by kernel_rfl)
end Go.Proofs.YthmddkghlmgpaaaGreatDoor
