/- FnFew: a stream gives at most 1032 times as many bytes as it has: the tied card. For every slice of bytes. The package variables are as the program's text lays them. -/
import Derived.Test.YtobbgfnnlbopjabDoorPkx
import Derived.Test.YtobbgfnnlbopjabDoorPkr
import Derived.Test.YtobbgfnnlbopjabDoorPkw
import Derived.Test.YtobbgfnnlbopjabDoorCards
import Derived.SevenTiedAt
namespace Go.Proofs.YtobbgfnnlbopjabDoor
open Go Go.M Go.ChangeShapes Go.WideShapes Go.ChangeAt Go.RowKit
set_option maxRecDepth 100000

theorem few_walk {E : Errs} {src : List Nat} {m : Mem} {a : Option Addr} {l k b o : Nat} (hS : SlcB m a l k b o src) (hG : Glob E m) {R : Value → Mem → Prop} (hk : ∀ m', (∀ S, Fr S m m') → R (.bool true) m') : CallM PP f_laws_FnFew #[.slice a l k] m R := by
  refine e_laws_FnFew a l k m R ?_
  by_cases h1 : (l : Int) > 2147483647
  · rw [decide_eq_true h1]; exact ifB_t (hk m fun S => Fr.refl S m)
  rw [decide_eq_false h1]
  refine ifB_f ?_
  by_cases h2 : (l : Int) > 16777216
  · rw [decide_eq_true h2]; exact ifB_t (hk m fun S => Fr.refl S m)
  rw [decide_eq_false h2]
  refine ifB_f (State_spec hS (by omega) fun m1 z u out hok f1 => ⟨_, rfl, ?_⟩)
  by_cases hz0 : z = 0
  · subst hz0; exact ifB_t (hk m1 f1)
  have e0 : (z == 0) = false := by rw [beq_eq_false_iff_ne]; exact hz0
  rw [e0]
  refine ifB_f ?_
  have F1 := f1 fun _ _ => False
  have hS1 := hS.sp F1 fun _ _ => id
  have hG1 := hG.fr F1 fun _ _ h => h.elim
  obtain ⟨Hf, e, pf, hr⟩ := runs_total (scOf_hd src) _ _ ⟨0, [], .block⟩ rfl rfl (Nat.zero_le _)
  obtain ⟨hbd, _⟩ := hr.bound (scOf_hd src) (Nat.zero_le _)
  have hbd : Hf.length ≤ 0 + 0 + 129 * (8 * src.length - 0) := hbd
  have hlen := hS.len
  refine All_spec hS1 hG1 (by omega) (by decide) hr fun m2 a2 l2 k2 b2 o2 c hO2 hb2 hle f2 hc => ⟨_, _, _, _, rfl, ?_⟩
  have F12 : ∀ S, Fr S m m2 := fun S => (f1 S).trans (f2 S)
  refine ⟨rfl, by decide, ?_⟩
  have hw : IntKind.wrap .i64 (Int.tdiv (IntKind.wrap .i64 ((l2 : Int) + 1031)) 1032) = (((l2 + 1031) / 1032 : Nat) : Int) := by
    rw [wrap64_id (n := (l2 : Int) + 1031) (by omega) (by omega), show Int.tdiv ((l2 : Int) + 1031) 1032 = (((l2 + 1031) / 1032 : Nat) : Int) from rfl, wrap64_id (by omega) (by omega)]
  rw [hw, decide_eq_true (by omega)]
  refine ifB_t ?_
  rcases hc with ⟨_, rfl⟩ | ⟨h, rfl⟩
  · have : (codeOf e != 0) = true := by cases e <;> decide
    rw [this]
    exact ifB_t (hk m2 F12)
  · refine ifB_f ?_
    rw [decide_eq_true (by omega)]
    exact hk m2 F12

theorem few_lifted (os : Os) (started : os.Started) (H : Type) (enc : TypeId × Value → H) :
    ReturnsInHanded {} Tryd.checked os f_laws_FnFew .any (fun w args => (Rows.fnFewSpec.pre enc Tryd.prog (fnAt f_laws_FnFew) [] false w args ∧ laidMetH Tryd.prog laidL w) ∧ sizedMet enc Tryd.prog (fnAt f_laws_FnFew) (OpenSpec.ofChange Rows.fnFewSpec) false w args)
      (Rows.fnFewSpec.post enc Tryd.prog (fnAt f_laws_FnFew) false true false false) := by
  refine returnsInHanded_of_change_and (C := Tryd.checked) (X := fun w _ => laidMetH Tryd.prog laidL w) (fun _ _ _ hh h => h.of_heap hh) own started (by kernel_rfl) (by kernel_rfl)
    (ChangeSpec.witness_shaped (enc := enc) (C := Tryd.checked) (os := os) (X := fun w _ => laidMetH Tryd.prog laidL w) false (World.doorLaid Tryd.prog 400 os) #[.slice none 0 0] 8 rfl (shaped os _) (by kernel_rfl) (by kernel_rfl) (by kernel_rfl) (door_met os _)) ?_
  intro W base args ds gs before hval0 hW _ _ hL _
  have hp : (fnAt f_laws_FnFew).params = #[t_s_uint8] := by kernel_rfl
  have hval : ∀ (j : Nat) t v, (fnAt f_laws_FnFew).params[j]? = some t → args[j]? = some v → Value.okWide Tryd.prog W .any base t v := hval0
  have hW' := hW
  obtain ⟨p, q, hA, hV, _, _, _⟩ := hW
  rw [hp] at hA hval
  obtain ⟨v0, d0, rfl, rfl, h0⟩ := trodAll_one hA
  obtain ⟨a0, l0, k0, b0, o0, s0, rfl, hS0⟩ := bytes_arg (hval 0 _ v0 rfl rfl) h0
  obtain ⟨E, hG⟩ := glob_laid hL
  obtain ⟨g, rfl⟩ : ∃ g, gs = [g] := by
    match gs, hV with
    | [g], _ => exact ⟨g, rfl⟩
    | _ :: _ :: _, ⟨_, _, _, _, _, _, _, _, _, _, h, _⟩ => exact h.elim
  refine (calls_of (few_walk hS0 hG fun m' hf => ⟨rfl, hf⟩)).mono fun e W' ⟨he, hs, hf⟩ => ⟨_, he, ?_⟩
  exact law_post hW' hs hf (tb := t_bool) (by kernel_rfl) (by kernel_rfl) rfl readable (by kernel_rfl) codeVar

theorem few_said : Rows.FnFewSaid :=
  OpenClaim.holds_of_wide f_laws_FnFew (fnAt f_laws_FnFew) rfl rfl rfl rfl rfl rfl rfl ⟨rfl, rfl, rfl, rfl, rfl⟩ rfl rfl rfl rfl rfl (by kernel_rfl) (by kernel_rfl) (by kernel_rfl)
    (of_decide_eq_true (by kernel_rfl)) (by unfold Func.isWrapper; rw [if_neg (of_decide_eq_false (by kernel_rfl))]; exact ⟨rfl, rfl⟩)
    (fun os started H enc _ => few_lifted os started H enc)
end Go.Proofs.YtobbgfnnlbopjabDoor

namespace Go.Proofs.YtobbgfnnlbopjabDoor
open Go Go.M
set_option maxRecDepth 100000

theorem few_card : Rows.FnFewCardSaid :=
  Claim7.holds_tied_plain_at .later [] [.handle, .sentinel, .sentinel, .sentinel, .data] true Rows.fnFewCard.stood.harness true
    few_said (fun _ h => by cases h) (by kernel_rfl) (fun _ h => by cases h) fnFew_row_tie rfl ⟨rfl, rfl⟩ (by kernel_rfl) rfl
    (fun f fn hf hfn => by
      obtain rfl : f = f_laws_FnFew := Option.some.inj ((show Tryd.prog.funcNamed "loop.example/pub-inflation/laws.FnFew" = some f_laws_FnFew by kernel_rfl).symm.trans hf) |>.symm
      obtain rfl : fn = fnAt f_laws_FnFew := (Option.some.inj ((show Tryd.prog.funcs[f_laws_FnFew]? = some (fnAt f_laws_FnFew) by kernel_rfl).symm.trans hfn)).symm
      exact ⟨by kernel_rfl, fun j t ht => by
        rw [show (fnAt f_laws_FnFew).params = #[t_s_uint8] by kernel_rfl] at ht
        have h3 : t = t_s_uint8 := by
          rcases j with _ | j
          · simpa using ht.symm
          · simp at ht
        subst h3
        exact (show Tryd.prog.wantsStandIn t_s_uint8 = false by kernel_rfl)⟩)
    (by kernel_rfl)
end Go.Proofs.YtobbgfnnlbopjabDoor
