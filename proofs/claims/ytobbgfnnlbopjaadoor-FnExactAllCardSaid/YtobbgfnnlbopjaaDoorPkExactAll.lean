/- FnExactAll: a stream that is whole by the RFC gives what the RFC tells, and then the end: the tied card. For every slice of bytes. The package variables are as the program's text lays them. -/
import Derived.Test.YtobbgfnnlbopjaaDoorPkx
import Derived.Test.YtobbgfnnlbopjaaDoorPkr
import Derived.Test.YtobbgfnnlbopjaaDoorPkw
import Derived.Test.YtobbgfnnlbopjaaDoorCards
import Derived.SevenTiedAt
namespace Go.Proofs.YtobbgfnnlbopjaaDoor
open Go Go.M Go.ChangeShapes Go.WideShapes Go.ChangeAt Go.RowKit
set_option maxRecDepth 100000

theorem exactAll_walk {E : Errs} {src : List Nat} {m : Mem} {a : Option Addr} {l k b o : Nat} (hS : SlcB m a l k b o src) (hG : Glob E m) {R : Value → Mem → Prop} (hk : ∀ m', (∀ S, Fr S m m') → R (.bool true) m') : CallM PP f_laws_FnExactAll #[.slice a l k] m R := by
  refine e_laws_FnExactAll a l k m R ?_
  by_cases h1 : (l : Int) > 2147483647
  · rw [decide_eq_true h1]; exact ifB_t (hk m fun S => Fr.refl S m)
  rw [decide_eq_false h1]
  refine ifB_f ?_
  by_cases h2 : (l : Int) > 16777216
  · rw [decide_eq_true h2]; exact ifB_t (hk m fun S => Fr.refl S m)
  rw [decide_eq_false h2]
  have h0 : SlcB m none 0 0 0 0 [] := ⟨rfl, Nat.le_refl _, fun h0 => absurd h0 (by decide), fun i hi => absurd hi (Nat.not_lt_zero i), by simp⟩
  refine ifB_f (Inflate_spec (d := []) hS h0 (by omega) (by decide) fun m1 a1 l1 k1 b1 o1 z u out hO1 hok f1 => ⟨_, _, _, _, _, rfl, ?_⟩)
  by_cases hz : z = 1
  rotate_left
  · have e1 : (z != 1) = true := by rw [bne_iff_ne]; exact hz
    rw [e1]; exact ifB_t (hk m1 f1)
  subst hz
  refine ifB_f ?_
  have F1 := f1 fun _ _ => False
  have hS1 := hS.sp F1 fun _ _ => id
  have hG1 := hG.fr F1 fun _ _ h => h.elim
  obtain ⟨q, e, pf, hr, hq, hb, hpre, r1, r2, r3⟩ := hok.run (by omega)
  replace hr : Runs (scOf src) ⟨0, [], .block⟩ q e pf := hr
  refine All_short hS1 hG1 (by omega) hr hq fun m2 a2 k2 b2 o2 hO2 hb2 f2 => ⟨_, _, _, _, rfl, ?_⟩
  obtain ⟨rfl, rfl, _⟩ := r1 rfl
  have F12 : ∀ S, Fr S m m2 := fun S => (f1 S).trans (f2 S)
  have hO12 := hO1.fr (f2 fun _ _ => False) fun _ _ => id
  exact ifB_t (same_true (hO2.slc hb) (hO12.slc hb) (by omega) rfl ⟨_, rfl, hk m2 F12⟩)

theorem exactAll_lifted (os : Os) (started : os.Started) (H : Type) (enc : TypeId × Value → H) :
    ReturnsInHanded {} Tryd.checked os f_laws_FnExactAll .any (fun w args => (Rows.fnExactAllSpec.pre enc Tryd.prog (fnAt f_laws_FnExactAll) [] false w args ∧ laidMetH Tryd.prog laidL w) ∧ sizedMet enc Tryd.prog (fnAt f_laws_FnExactAll) (OpenSpec.ofChange Rows.fnExactAllSpec) false w args)
      (Rows.fnExactAllSpec.post enc Tryd.prog (fnAt f_laws_FnExactAll) false true false false) := by
  refine returnsInHanded_of_change_and (C := Tryd.checked) (X := fun w _ => laidMetH Tryd.prog laidL w) (fun _ _ _ hh h => h.of_heap hh) own started (by kernel_rfl) (by kernel_rfl)
    (ChangeSpec.witness_shaped (enc := enc) (C := Tryd.checked) (os := os) (X := fun w _ => laidMetH Tryd.prog laidL w) false (World.doorLaid Tryd.prog 400 os) #[.slice none 0 0] 8 rfl (shaped os _) (by kernel_rfl) (by kernel_rfl) (by kernel_rfl) (door_met os _)) ?_
  intro W base args ds gs before hval0 hW _ _ hL _
  have hp : (fnAt f_laws_FnExactAll).params = #[t_s_uint8] := by kernel_rfl
  have hval : ∀ (j : Nat) t v, (fnAt f_laws_FnExactAll).params[j]? = some t → args[j]? = some v → Value.okWide Tryd.prog W .any base t v := hval0
  have hW' := hW
  obtain ⟨p, q, hA, hV, _, _, _⟩ := hW
  rw [hp] at hA hval
  obtain ⟨v0, d0, rfl, rfl, h0⟩ := trodAll_one hA
  obtain ⟨a0, l0, k0, b0, o0, s0, rfl, hS0⟩ := bytes_arg (hval 0 _ v0 rfl rfl) h0
  obtain ⟨E, hG⟩ := glob_laid hL
  obtain ⟨g, rfl⟩ : ∃ g, gs = [g] := by
    match gs, hV with
    | [g], _ => exact ⟨g, rfl⟩
    | _ :: _ :: _, ⟨_, _, _, _, _, _, _, _, _, _, h, _⟩ => exact h.elim
  refine (calls_of (exactAll_walk hS0 hG fun m' hf => ⟨rfl, hf⟩)).mono fun e W' ⟨he, hs, hf⟩ => ⟨_, he, ?_⟩
  exact law_post hW' hs hf (tb := t_bool) (by kernel_rfl) (by kernel_rfl) rfl readable (by kernel_rfl) codeVar

theorem exactAll_said : Rows.FnExactAllSaid :=
  OpenClaim.holds_of_wide f_laws_FnExactAll (fnAt f_laws_FnExactAll) rfl rfl rfl rfl rfl rfl rfl ⟨rfl, rfl, rfl, rfl, rfl⟩ rfl rfl rfl rfl rfl (by kernel_rfl) (by kernel_rfl) (by kernel_rfl)
    (of_decide_eq_true (by kernel_rfl)) (by unfold Func.isWrapper; rw [if_neg (of_decide_eq_false (by kernel_rfl))]; exact ⟨rfl, rfl⟩)
    (fun os started H enc _ => exactAll_lifted os started H enc)
end Go.Proofs.YtobbgfnnlbopjaaDoor

namespace Go.Proofs.YtobbgfnnlbopjaaDoor
open Go Go.M
set_option maxRecDepth 100000

theorem exactAll_card : Rows.FnExactAllCardSaid :=
  Claim7.holds_tied_plain_at .later [] [.handle, .sentinel, .sentinel, .sentinel, .data] true Rows.fnExactAllCard.stood.harness true
    exactAll_said (fun _ h => by cases h) (by kernel_rfl) (fun _ h => by cases h) fnExactAll_row_tie rfl ⟨rfl, rfl⟩ (by kernel_rfl) rfl
    (fun f fn hf hfn => by
      obtain rfl : f = f_laws_FnExactAll := Option.some.inj ((show Tryd.prog.funcNamed "loop.example/pub-inflation/laws.FnExactAll" = some f_laws_FnExactAll by kernel_rfl).symm.trans hf) |>.symm
      obtain rfl : fn = fnAt f_laws_FnExactAll := (Option.some.inj ((show Tryd.prog.funcs[f_laws_FnExactAll]? = some (fnAt f_laws_FnExactAll) by kernel_rfl).symm.trans hfn)).symm
      exact ⟨by kernel_rfl, fun j t ht => by
        rw [show (fnAt f_laws_FnExactAll).params = #[t_s_uint8] by kernel_rfl] at ht
        have h3 : t = t_s_uint8 := by
          rcases j with _ | j
          · simpa using ht.symm
          · simp at ht
        subst h3
        exact (show Tryd.prog.wantsStandIn t_s_uint8 = false by kernel_rfl)⟩)
    (by kernel_rfl)
end Go.Proofs.YtobbgfnnlbopjaaDoor
