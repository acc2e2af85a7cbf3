/- FnStoredSize: a stored stream of so many zero bytes gives them: the tied card. For every number. The package variables are as the program's text lays them. -/
import Derived.Test.YtaocijfaakgliaaDoorPkx
import Derived.Test.YtaocijfaakgliaaDoorPkr
import Derived.Test.YtaocijfaakgliaaDoorPkz
import Derived.Test.YtaocijfaakgliaaDoorCards
import Derived.SevenTiedAt
namespace Go.Proofs.YtaocijfaakgliaaDoor
open Go Go.M Go.ChangeShapes Go.WideShapes Go.ChangeAt Go.RowKit
set_option maxRecDepth 100000

theorem storedSize_walk {E : Errs} {m : Mem} {x : Int} (_ : -9223372036854775808 ≤ x ∧ x ≤ 9223372036854775807) (hG : Glob E m) {R : Value → Mem → Prop} (hk : ∀ m', (∀ S, Fr S m m') → R (.bool true) m') :
    CallM PP f_laws_FnStoredSize #[.int .i64 x] m R := by
  refine e_laws_FnStoredSize x m R ?_
  by_cases h1 : x < 0
  · rw [decide_eq_true h1]; exact ifB_t (hk m fun S => Fr.refl S m)
  rw [decide_eq_false h1]
  refine ifB_f ?_
  by_cases h2 : x > 65535
  · rw [decide_eq_true h2]; exact ifB_t (hk m fun S => Fr.refl S m)
  rw [decide_eq_false h2]
  refine ifB_f ?_
  obtain ⟨n, rfl⟩ : ∃ n : Nat, x = (n : Int) := ⟨x.toNat, by omega⟩
  have hn : n ≤ 65535 := by omega
  refine zeros_W rfl (by omega) fun m1 hS1 _ f1 s1 => ⟨_, _, _, rfl, ?_⟩
  refine Store_spec hS1 (fun _ => by omega) (by omega) true 0 (Wrote.read (hG.fr (f1 fun _ _ => False) (by intro i j h; exact h.elim)) (by omega) (by rw [List.length_replicate]; omega) fun m2 a2 k2 b2 o2 hO _ f2 => ⟨_, _, _, _, rfl, ifB_t ?_⟩)
  refine zeros_W rfl (by omega) fun m3 hS3 _ f3 s3 => ⟨_, _, _, rfl, ?_⟩
  refine same_true ((hO.slc hS1.byte).sp (f3 fun _ _ => False) fun _ _ => id) hS3 (by rw [List.length_replicate]; omega) rfl ⟨_, rfl, hk m3 fun S => ((f1 S).trans (f2 S)).trans (f3 S)⟩

theorem storedSize_lifted (os : Os) (started : os.Started) (H : Type) (enc : TypeId × Value → H) :
    ReturnsInHanded {} Tryd.checked os f_laws_FnStoredSize .any (fun w args => (Rows.fnStoredSizeSpec.pre enc Tryd.prog (fnAt f_laws_FnStoredSize) [] false w args ∧ laidMetH Tryd.prog laidL w) ∧ sizedMet enc Tryd.prog (fnAt f_laws_FnStoredSize) (OpenSpec.ofChange Rows.fnStoredSizeSpec) false w args)
      (Rows.fnStoredSizeSpec.post enc Tryd.prog (fnAt f_laws_FnStoredSize) false true false false) := by
  refine returnsInHanded_of_change_and (C := Tryd.checked) (X := fun w _ => laidMetH Tryd.prog laidL w) (fun _ _ _ hh h => h.of_heap hh) own started (by kernel_rfl) (by kernel_rfl)
    (ChangeSpec.witness_shaped (enc := enc) (C := Tryd.checked) (os := os) (X := fun w _ => laidMetH Tryd.prog laidL w) false (World.doorLaid Tryd.prog 400 os) #[.int .i64 0] 8 rfl (shaped os _) (by kernel_rfl) (by kernel_rfl) (by kernel_rfl) (door_met os _)) ?_
  intro W base args ds gs before hval0 hW _ _ hL _
  have hp : (fnAt f_laws_FnStoredSize).params = #[t_int] := by kernel_rfl
  have hval : ∀ (j : Nat) t v, (fnAt f_laws_FnStoredSize).params[j]? = some t → args[j]? = some v → Value.okWide Tryd.prog W .any base t v := hval0
  have hW' := hW
  obtain ⟨p, q, hA, hV, _, _, _⟩ := hW
  rw [hp] at hA hval
  obtain ⟨v0, d0, rfl, rfl, h0⟩ := trodAll_one hA
  obtain ⟨x0, rfl, hx0⟩ := int_arg (hval 0 _ v0 rfl rfl) h0
  obtain ⟨E, hG⟩ := glob_laid hL
  obtain ⟨g, rfl⟩ : ∃ g, gs = [g] := by
    match gs, hV with
    | [g], _ => exact ⟨g, rfl⟩
    | _ :: _ :: _, ⟨_, _, _, _, _, _, _, _, _, _, h, _⟩ => exact h.elim
  refine (calls_of (storedSize_walk hx0 hG fun m' hf => ⟨rfl, hf⟩)).mono fun e W' ⟨he, hs, hf⟩ => ⟨_, he, ?_⟩
  exact law_post hW' hs hf (tb := t_bool) (by kernel_rfl) (by kernel_rfl) rfl readable (by kernel_rfl) codeVar

theorem storedSize_said : Rows.FnStoredSizeSaid :=
  OpenClaim.holds_of_wide f_laws_FnStoredSize (fnAt f_laws_FnStoredSize) rfl rfl rfl rfl rfl rfl rfl ⟨rfl, rfl, rfl, rfl, rfl⟩ rfl rfl rfl rfl rfl (by kernel_rfl) (by kernel_rfl) (by kernel_rfl)
    (of_decide_eq_true (by kernel_rfl)) (by unfold Func.isWrapper; rw [if_neg (of_decide_eq_false (by kernel_rfl))]; exact ⟨rfl, rfl⟩)
    (fun os started H enc _ => storedSize_lifted os started H enc)
end Go.Proofs.YtaocijfaakgliaaDoor

namespace Go.Proofs.YtaocijfaakgliaaDoor
open Go Go.M
set_option maxRecDepth 100000

theorem storedSize_card : Rows.FnStoredSizeCardSaid :=
  Claim7.holds_tied_plain_at .later [] [.handle, .sentinel, .sentinel, .sentinel, .data] true Rows.fnStoredSizeCard.stood.harness true
    storedSize_said (fun _ h => by cases h) (by kernel_rfl) (fun _ h => by cases h) fnStoredSize_row_tie rfl ⟨rfl, rfl⟩ (by kernel_rfl) rfl
    (fun f fn hf hfn => by
      obtain rfl : f = f_laws_FnStoredSize := Option.some.inj ((show Tryd.prog.funcNamed "loop.example/pub-inflation/laws.FnStoredSize" = some f_laws_FnStoredSize by kernel_rfl).symm.trans hf) |>.symm
      obtain rfl : fn = fnAt f_laws_FnStoredSize := (Option.some.inj ((show Tryd.prog.funcs[f_laws_FnStoredSize]? = some (fnAt f_laws_FnStoredSize) by kernel_rfl).symm.trans hfn)).symm
      exact ⟨by kernel_rfl, fun j t ht => by
        rw [show (fnAt f_laws_FnStoredSize).params = #[t_int] by kernel_rfl] at ht
        have h3 : t = t_int := by
          rcases j with _ | j
          · simpa using ht.symm
          · simp at ht
        subst h3
        exact (show Tryd.prog.wantsStandIn t_int = false by kernel_rfl)⟩)
    (by kernel_rfl)
end Go.Proofs.YtaocijfaakgliaaDoor
