/- FnLong258: the longest match, by the code that is not the shortest, gives its bytes: the tied card. For every byte. The package variables are as the program's text lays them. -/
import Derived.Test.YtaocijfaakgliaaDoorPkx
import Derived.Test.YtaocijfaakgliaaDoorPkr
import Derived.Test.YtaocijfaakgliaaDoorPkz
import Derived.Test.YtaocijfaakgliaaDoorCards
import Derived.SevenTiedAt
namespace Go.Proofs.YtaocijfaakgliaaDoor
open Go Go.M Go.ChangeShapes Go.WideShapes Go.ChangeAt Go.RowKit
set_option maxRecDepth 100000

theorem long258_walk {E : Errs} {m : Mem} {x : Nat} (hx : x < 256) (hG : Glob E m) {R : Value → Mem → Prop} (hk : ∀ m', (∀ S, Fr S m m') → R (.bool true) m') : CallM PP f_laws_FnLong258 #[.int .u8 (x : Int)] m R := by
  refine e_laws_FnLong258 x m R (Long258_spec hx fun m1 a l k b o src ch a2 k2 b2 o2 hS hst hB hn hS2 f1 => ⟨_, _, _, _, _, _, rfl, ?_⟩)
  refine read_of hG f1 hS hst hB (by omega) (by rw [List.length_replicate]; decide) fun m3 a3 k3 b3 o3 hO f3 f13 => ⟨_, _, _, _, rfl, ifB_t ?_⟩
  exact same_true (hO.slc hS2.byte) (hS2.sp (f3 fun _ _ => False) fun _ _ => id) (by rw [List.length_replicate]; decide) rfl ⟨_, rfl, hk m3 f13⟩

theorem long258_lifted (os : Os) (started : os.Started) (H : Type) (enc : TypeId × Value → H) :
    ReturnsInHanded {} Tryd.checked os f_laws_FnLong258 .any (fun w args => (Rows.fnLong258Spec.pre enc Tryd.prog (fnAt f_laws_FnLong258) [] false w args ∧ laidMetH Tryd.prog laidL w) ∧ sizedMet enc Tryd.prog (fnAt f_laws_FnLong258) (OpenSpec.ofChange Rows.fnLong258Spec) false w args)
      (Rows.fnLong258Spec.post enc Tryd.prog (fnAt f_laws_FnLong258) false true false false) := by
  refine returnsInHanded_of_change_and (C := Tryd.checked) (X := fun w _ => laidMetH Tryd.prog laidL w) (fun _ _ _ hh h => h.of_heap hh) own started (by kernel_rfl) (by kernel_rfl)
    (ChangeSpec.witness_shaped (enc := enc) (C := Tryd.checked) (os := os) (X := fun w _ => laidMetH Tryd.prog laidL w) false (World.doorLaid Tryd.prog 400 os) #[.int .u8 0] 8 rfl (shaped os _) (by kernel_rfl) (by kernel_rfl) (by kernel_rfl) (door_met os _)) ?_
  intro W base args ds gs before hval0 hW _ _ hL _
  have hp : (fnAt f_laws_FnLong258).params = #[t_uint8] := by kernel_rfl
  have hval : ∀ (j : Nat) t v, (fnAt f_laws_FnLong258).params[j]? = some t → args[j]? = some v → Value.okWide Tryd.prog W .any base t v := hval0
  have hW' := hW
  obtain ⟨p, q, hA, hV, _, _, _⟩ := hW
  rw [hp] at hA hval
  obtain ⟨v0, d0, rfl, rfl, h0⟩ := trodAll_one hA
  obtain ⟨x0, rfl, hx0⟩ := byte_arg (hval 0 _ v0 rfl rfl) h0
  obtain ⟨E, hG⟩ := glob_laid hL
  obtain ⟨g, rfl⟩ : ∃ g, gs = [g] := by
    match gs, hV with
    | [g], _ => exact ⟨g, rfl⟩
    | _ :: _ :: _, ⟨_, _, _, _, _, _, _, _, _, _, h, _⟩ => exact h.elim
  refine (calls_of (long258_walk hx0 hG fun m' hf => ⟨rfl, hf⟩)).mono fun e W' ⟨he, hs, hf⟩ => ⟨_, he, ?_⟩
  exact law_post hW' hs hf (tb := t_bool) (by kernel_rfl) (by kernel_rfl) rfl readable (by kernel_rfl) codeVar

theorem long258_said : Rows.FnLong258Said :=
  OpenClaim.holds_of_wide f_laws_FnLong258 (fnAt f_laws_FnLong258) rfl rfl rfl rfl rfl rfl rfl ⟨rfl, rfl, rfl, rfl, rfl⟩ rfl rfl rfl rfl rfl (by kernel_rfl) (by kernel_rfl) (by kernel_rfl)
    (of_decide_eq_true (by kernel_rfl)) (by unfold Func.isWrapper; rw [if_neg (of_decide_eq_false (by kernel_rfl))]; exact ⟨rfl, rfl⟩)
    (fun os started H enc _ => long258_lifted os started H enc)
end Go.Proofs.YtaocijfaakgliaaDoor

namespace Go.Proofs.YtaocijfaakgliaaDoor
open Go Go.M
set_option maxRecDepth 100000

theorem long258_card : Rows.FnLong258CardSaid :=
  Claim7.holds_tied_plain_at .later [] [.handle, .sentinel, .sentinel, .sentinel, .data] true Rows.fnLong258Card.stood.harness true
    long258_said (fun _ h => by cases h) (by kernel_rfl) (fun _ h => by cases h) fnLong258_row_tie rfl ⟨rfl, rfl⟩ (by kernel_rfl) rfl
    (fun f fn hf hfn => by
      obtain rfl : f = f_laws_FnLong258 := Option.some.inj ((show Tryd.prog.funcNamed "loop.example/pub-inflation/laws.FnLong258" = some f_laws_FnLong258 by kernel_rfl).symm.trans hf) |>.symm
      obtain rfl : fn = fnAt f_laws_FnLong258 := (Option.some.inj ((show Tryd.prog.funcs[f_laws_FnLong258]? = some (fnAt f_laws_FnLong258) by kernel_rfl).symm.trans hfn)).symm
      exact ⟨by kernel_rfl, fun j t ht => by
        rw [show (fnAt f_laws_FnLong258).params = #[t_uint8] by kernel_rfl] at ht
        have h3 : t = t_uint8 := by
          rcases j with _ | j
          · simpa using ht.symm
          · simp at ht
        subst h3
        exact (show Tryd.prog.wantsStandIn t_uint8 = false by kernel_rfl)⟩)
    (by kernel_rfl)
end Go.Proofs.YtaocijfaakgliaaDoor
