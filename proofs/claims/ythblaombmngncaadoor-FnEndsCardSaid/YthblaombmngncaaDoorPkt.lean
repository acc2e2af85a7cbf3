/- FnEnds: the reading always ends, with bytes enough or an error: the tied card. For every slice of bytes; the package variables as the program's text lays them. -/
import Derived.Test.YthblaombmngncaaDoorPks
import Derived.Test.YthblaombmngncaaDoorPkr
import Derived.Test.YthblaombmngncaaDoorCards
import Derived.SevenTiedAt
namespace Go.Proofs.YthblaombmngncaaDoor
open Go Go.M Go.ChangeShapes Go.WideShapes Go.ChangeAt Go.RowKit
set_option maxRecDepth 100000

theorem ends_walk {E : Errs} {src : List Nat} {m : Mem} {a : Option Addr} {l k b o : Nat} (hS : SlcB m a l k b o src) (hG : Glob E m) {R : Value → Mem → Prop} (hk : ∀ m', (∀ S, Fr S m m') → R (.bool true) m') : CallM PP f_laws_FnEnds #[.slice a l k] m R := by
  refine e_laws_FnEnds a l k m R ?_
  by_cases h1 : (l : Int) > 2147483647
  · rw [decide_eq_true h1]; exact ifB_t (hk m fun S => Fr.refl S m)
  rw [decide_eq_false h1]
  refine ifB_f ?_
  by_cases h2 : (l : Int) > 16777216
  · rw [decide_eq_true h2]; exact ifB_t (hk m fun S => Fr.refl S m)
  rw [decide_eq_false h2]
  refine ifB_f ?_
  obtain ⟨Hf, e, pf, hr⟩ := runs_total (scOf_hd src) _ _ ⟨0, [], .block⟩ rfl rfl (Nat.zero_le _)
  refine All_spec hS hG (by omega) (by decide) hr fun m' a' l' k' b' o' c hO hb hle hf hc => ⟨_, _, _, _, rfl, ?_⟩
  rcases hc with ⟨_, rfl⟩ | ⟨h, rfl⟩
  · have : (codeOf e != 0) = true := by cases e <;> decide
    rw [this]
    exact ifB_t (hk m' hf)
  · refine ifB_f ?_
    rw [decide_eq_true (by omega)]
    exact hk m' hf

theorem ends_lifted (os : Os) (started : os.Started) (H : Type) (enc : TypeId × Value → H) :
    ReturnsInHanded {} Tryd.checked os f_laws_FnEnds .any (fun w args => (Rows.fnEndsSpec.pre enc Tryd.prog (fnAt f_laws_FnEnds) [] false w args ∧ laidMetH Tryd.prog laidL w) ∧ sizedMet enc Tryd.prog (fnAt f_laws_FnEnds) (OpenSpec.ofChange Rows.fnEndsSpec) false w args)
      (Rows.fnEndsSpec.post enc Tryd.prog (fnAt f_laws_FnEnds) false true false false) := by
  refine returnsInHanded_of_change_and (C := Tryd.checked) (X := fun w _ => laidMetH Tryd.prog laidL w) (fun _ _ _ hh h => h.of_heap hh) own started (by kernel_rfl) (by kernel_rfl)
    (ChangeSpec.witness_shaped (enc := enc) (C := Tryd.checked) (os := os) (X := fun w _ => laidMetH Tryd.prog laidL w) false (World.doorLaid Tryd.prog 400 os) #[.slice none 0 0] 8 rfl (shaped os _) (by kernel_rfl) (by kernel_rfl) (by kernel_rfl) (door_met os _)) ?_
  intro W base args ds gs before hval0 hW _ _ hL _
  have hp : (fnAt f_laws_FnEnds).params = #[t_s_uint8] := by kernel_rfl
  have hval : ∀ (j : Nat) t v, (fnAt f_laws_FnEnds).params[j]? = some t → args[j]? = some v → Value.okWide Tryd.prog W .any base t v := hval0
  have hW' := hW
  obtain ⟨p, q, hA, hV, _, _, _⟩ := hW
  rw [hp] at hA hval
  obtain ⟨v0, d0, rfl, rfl, h0⟩ := trodAll_one hA
  obtain ⟨a, l, k, b, o, src, rfl, hS⟩ := bytes_arg (hval 0 _ v0 rfl rfl) h0
  obtain ⟨E, hG⟩ := glob_laid hL
  obtain ⟨g, rfl⟩ : ∃ g, gs = [g] := by
    match gs, hV with
    | [g], _ => exact ⟨g, rfl⟩
    | _ :: _ :: _, ⟨_, _, _, _, _, _, _, _, _, _, h, _⟩ => exact h.elim
  refine (calls_of (ends_walk hS hG fun m' hf => ⟨rfl, hf⟩)).mono fun e W' ⟨he, hs, hf⟩ => ⟨_, he, ?_⟩
  exact law_post hW' hs hf (tb := t_bool) (by kernel_rfl) (by kernel_rfl) rfl readable (by kernel_rfl) codeVar

theorem ends_said : Rows.FnEndsSaid :=
  OpenClaim.holds_of_wide f_laws_FnEnds (fnAt f_laws_FnEnds) rfl rfl rfl rfl rfl rfl rfl ⟨rfl, rfl, rfl, rfl, rfl⟩ rfl rfl rfl rfl rfl (by kernel_rfl) (by kernel_rfl) (by kernel_rfl)
    (of_decide_eq_true (by kernel_rfl)) (by unfold Func.isWrapper; rw [if_neg (of_decide_eq_false (by kernel_rfl))]; exact ⟨rfl, rfl⟩)
    (fun os started H enc _ => ends_lifted os started H enc)
end Go.Proofs.YthblaombmngncaaDoor

namespace Go.Proofs.YthblaombmngncaaDoor
open Go Go.M
set_option maxRecDepth 100000

theorem ends_card : Rows.FnEndsCardSaid :=
  Claim7.holds_tied_plain_at .later [] [.handle, .sentinel, .sentinel, .sentinel, .data] true Rows.fnEndsCard.stood.harness true
    ends_said (fun _ h => by cases h) (by kernel_rfl) (fun _ h => by cases h) fnEnds_row_tie rfl ⟨rfl, rfl⟩ (by kernel_rfl) rfl
    (fun f fn hf hfn => by
      obtain rfl : f = f_laws_FnEnds := Option.some.inj ((show Tryd.prog.funcNamed "loop.example/pub-inflation/laws.FnEnds" = some f_laws_FnEnds by kernel_rfl).symm.trans hf) |>.symm
      obtain rfl : fn = fnAt f_laws_FnEnds := (Option.some.inj ((show Tryd.prog.funcs[f_laws_FnEnds]? = some (fnAt f_laws_FnEnds) by kernel_rfl).symm.trans hfn)).symm
      exact ⟨by kernel_rfl, fun j t ht => by
        rw [show (fnAt f_laws_FnEnds).params = #[t_s_uint8] by kernel_rfl] at ht
        have h3 : t = t_s_uint8 := by
          rcases j with _ | j
          · simpa using ht.symm
          · simp at ht
        subst h3
        exact (show Tryd.prog.wantsStandIn t_s_uint8 = false by kernel_rfl)⟩)
    (by kernel_rfl)
end Go.Proofs.YthblaombmngncaaDoor
