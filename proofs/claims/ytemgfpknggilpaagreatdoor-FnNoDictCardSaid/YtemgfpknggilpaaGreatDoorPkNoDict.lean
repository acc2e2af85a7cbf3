/- FnNoDict: an empty dictionary is none: the tied card. For every slice of bytes. The package variables are as the program's text lays them. -/
import Derived.Test.YtemgfpknggilpaaGreatDoorPkx
import Derived.Test.YtemgfpknggilpaaGreatDoorPkr
import Derived.Test.YtemgfpknggilpaaGreatDoorPkw
import Derived.Test.YtemgfpknggilpaaGreatDoorCards
import Derived.SevenTiedAt
namespace Go.Proofs.YtemgfpknggilpaaGreatDoor
open Go Go.M Go.ChangeShapes Go.WideShapes Go.ChangeAt Go.RowKit
set_option maxRecDepth 100000

theorem noDict_walk {E : Errs} {src : List Nat} {m : Mem} {a : Option Addr} {l k b o : Nat} (hS : SlcB m a l k b o src) (hG : Glob E m) {R : Value → Mem → Prop} (hk : ∀ m', (∀ S, Fr S m m') → R (.bool true) m') : CallM PP f_laws_FnNoDict #[.slice a l k] m R := by
  refine e_laws_FnNoDict a l k m R ?_
  by_cases h1 : (l : Int) > 2147483647
  · rw [decide_eq_true h1]; exact ifB_t (hk m fun S => Fr.refl S m)
  rw [decide_eq_false h1]
  refine ifB_f ?_
  by_cases h2 : (l : Int) > 16777216
  · rw [decide_eq_true h2]; exact ifB_t (hk m fun S => Fr.refl S m)
  rw [decide_eq_false h2]
  refine ifB_f (State_spec hS (by omega) fun m1 z u out hok f1 => ⟨_, rfl, ?_⟩)
  by_cases hz4 : z = 4
  · subst hz4; exact ifB_t (hk m1 f1)
  have e4 : (z == 4) = false := by rw [beq_eq_false_iff_ne]; exact hz4
  rw [e4]
  refine ifB_f ?_
  by_cases hz0 : z = 0
  · subst hz0; exact ifB_t (hk m1 f1)
  have e0 : (z == 0) = false := by rw [beq_eq_false_iff_ne]; exact hz0
  rw [e0]
  refine ifB_f ?_
  have hz : z = 1 ∨ z = 2 ∨ z = 3 := by have := hok.2.1; have := hok.le; omega
  obtain ⟨q, e, pf, hr, hq, hb, _⟩ := hok.run hz
  have F1 := f1 fun _ _ => False
  have hS1 := hS.sp F1 fun _ _ => id
  have hG1 := hG.fr F1 fun _ _ h => h.elim
  have hr0 : Runs (scOf src) ⟨0, [], .block⟩ q e pf := hr
  refine All_short hS1 hG1 (by omega) hr0 hq fun m2 a2 k2 b2 o2 hO2 hb2 f2 => ⟨_, _, _, _, rfl, ?_⟩
  have F2 := f2 fun _ _ => False
  have hS2 := hS1.sp F2 fun _ _ => id
  have hG2 := hG1.fr F2 fun _ _ h => h.elim
  have h0 : SlcB m2 none 0 0 0 0 [] := ⟨rfl, Nat.le_refl _, fun h0 => absurd h0 (by decide), fun i hi => absurd hi (Nat.not_lt_zero i), by simp⟩
  refine AllDict_short (d := []) hS2 h0 hG2 (by omega) (by decide) hr hq fun m3 a3 k3 b3 o3 hO3 hb3 f3 => ⟨_, _, _, _, rfl, ?_⟩
  have c0 : (codeOf e != 0) = true := by cases e <;> decide
  rw [c0, beq_self_eq_true]
  have hO23 := hO2.fr (f3 fun _ _ => False) fun _ _ => id
  exact ifB_t (ifB_t (same_true (hO23.slc hb) (hO3.slc hb) (by omega) rfl ⟨_, rfl, hk m3 fun S => (f1 S).trans ((f2 S).trans (f3 S))⟩))

theorem noDict_lifted (os : Os) (started : os.Started) (H : Type) (enc : TypeId × Value → H) :
    ReturnsInHanded {} Tryz.checked os f_laws_FnNoDict .any (fun w args => (Rows.fnNoDictSpec.pre enc Tryz.prog (fnAt f_laws_FnNoDict) [] false w args ∧ laidMetH Tryz.prog laidL w) ∧ sizedMet enc Tryz.prog (fnAt f_laws_FnNoDict) (OpenSpec.ofChange Rows.fnNoDictSpec) false w args)
      (Rows.fnNoDictSpec.post enc Tryz.prog (fnAt f_laws_FnNoDict) false true false false) := by
  refine returnsInHanded_of_change_and (C := Tryz.checked) (X := fun w _ => laidMetH Tryz.prog laidL w) (fun _ _ _ hh h => h.of_heap hh) own started (by kernel_rfl) (by kernel_rfl)
    (ChangeSpec.witness_shaped (enc := enc) (C := Tryz.checked) (os := os) (X := fun w _ => laidMetH Tryz.prog laidL w) false (World.doorLaid Tryz.prog 400 os) #[.slice none 0 0] 8 rfl (shaped os _) (by kernel_rfl) (by kernel_rfl) (by kernel_rfl) (door_met os _)) ?_
  intro W base args ds gs before hval0 hW _ _ hL _
  have hp : (fnAt f_laws_FnNoDict).params = #[t_s_uint8] := by kernel_rfl
  have hval : ∀ (j : Nat) t v, (fnAt f_laws_FnNoDict).params[j]? = some t → args[j]? = some v → Value.okWide Tryz.prog W .any base t v := hval0
  have hW' := hW
  obtain ⟨p, q, hA, hV, _, _, _⟩ := hW
  rw [hp] at hA hval
  obtain ⟨v0, d0, rfl, rfl, h0⟩ := trodAll_one hA
  obtain ⟨a0, l0, k0, b0, o0, s0, rfl, hS0⟩ := bytes_arg (hval 0 _ v0 rfl rfl) h0
  obtain ⟨E, hG⟩ := glob_laid hL
  obtain ⟨g, rfl⟩ : ∃ g, gs = [g] := by
    match gs, hV with
    | [g], _ => exact ⟨g, rfl⟩
    | _ :: _ :: _, ⟨_, _, _, _, _, _, _, _, _, _, h, _⟩ => exact h.elim
  refine (calls_of (noDict_walk hS0 hG fun m' hf => ⟨rfl, hf⟩)).mono fun e W' ⟨he, hs, hf⟩ => ⟨_, he, ?_⟩
  exact law_post hW' hs hf (tb := t_bool) (by kernel_rfl) (by kernel_rfl) rfl readable (by kernel_rfl) codeVar

theorem noDict_said : Rows.FnNoDictSaid :=
  OpenClaim.holds_of_wide f_laws_FnNoDict (fnAt f_laws_FnNoDict) rfl rfl rfl rfl rfl rfl rfl ⟨rfl, rfl, rfl, rfl, rfl⟩ rfl rfl rfl rfl rfl (by kernel_rfl) (by kernel_rfl) (by kernel_rfl)
    (of_decide_eq_true (by kernel_rfl)) (by unfold Func.isWrapper; rw [if_neg (of_decide_eq_false (by kernel_rfl))]; exact ⟨rfl, rfl⟩)
    (fun os started H enc _ => noDict_lifted os started H enc)
end Go.Proofs.YtemgfpknggilpaaGreatDoor

namespace Go.Proofs.YtemgfpknggilpaaGreatDoor
open Go Go.M
set_option maxRecDepth 100000

theorem noDict_card : Rows.FnNoDictCardSaid :=
  Claim7.holds_tied_plain_at .later [] [.handle, .sentinel, .sentinel, .sentinel, .data] true Rows.fnNoDictCard.stood.harness true
    noDict_said (fun _ h => by cases h) (by kernel_rfl) (fun _ h => by cases h) fnNoDict_row_tie rfl ⟨rfl, rfl⟩ (by kernel_rfl) rfl
    (fun f fn hf hfn => by
      obtain rfl : f = f_laws_FnNoDict := Option.some.inj ((show Tryz.prog.funcNamed "loop.example/pub-inflation/laws.FnNoDict" = some f_laws_FnNoDict by kernel_rfl).symm.trans hf) |>.symm
      obtain rfl : fn = fnAt f_laws_FnNoDict := (Option.some.inj ((show Tryz.prog.funcs[f_laws_FnNoDict]? = some (fnAt f_laws_FnNoDict) by kernel_rfl).symm.trans hfn)).symm
      exact ⟨by kernel_rfl, fun j t ht => by
        rw [show (fnAt f_laws_FnNoDict).params = #[t_s_uint8] by kernel_rfl] at ht
        have h3 : t = t_s_uint8 := by
          rcases j with _ | j
          · simpa using ht.symm
          · simp at ht
        subst h3
        exact (show Tryz.prog.wantsStandIn t_s_uint8 = false by kernel_rfl)⟩)
    (by kernel_rfl)
end Go.Proofs.YtemgfpknggilpaaGreatDoor
