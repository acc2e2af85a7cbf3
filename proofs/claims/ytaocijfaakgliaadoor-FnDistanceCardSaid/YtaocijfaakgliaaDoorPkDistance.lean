/- FnDistance: a match of so many bytes at such a distance gives its bytes: the tied card. For every two numbers. The package variables are as the program's text lays them. -/
import Derived.Test.YtaocijfaakgliaaDoorPkx
import Derived.Test.YtaocijfaakgliaaDoorPkr
import Derived.Test.YtaocijfaakgliaaDoorPkz
import Derived.Test.YtaocijfaakgliaaDoorCards
import Derived.SevenTiedAt
namespace Go.Proofs.YtaocijfaakgliaaDoor
open Go Go.M Go.ChangeShapes Go.WideShapes Go.ChangeAt Go.RowKit
set_option maxRecDepth 100000

theorem distance_walk {E : Errs} {m : Mem} {x y : Int} (_ : -9223372036854775808 ≤ x ∧ x ≤ 9223372036854775807) (_ : -9223372036854775808 ≤ y ∧ y ≤ 9223372036854775807) (hG : Glob E m) {R : Value → Mem → Prop} (hk : ∀ m', (∀ S, Fr S m m') → R (.bool true) m') :
    CallM PP f_laws_FnDistance #[.int .i64 x, .int .i64 y] m R := by
  refine e_laws_FnDistance x y m R ?_
  have out : R (.bool true) m := hk m fun S => Fr.refl S m
  by_cases h1 : x < 1
  · rw [decide_eq_true h1]; exact ifB_t out
  rw [decide_eq_false h1]
  refine ifB_f ?_
  by_cases h2 : x > 32768
  · rw [decide_eq_true h2]; exact ifB_t out
  rw [decide_eq_false h2]
  refine ifB_f ?_
  by_cases h3 : y < 3
  · rw [decide_eq_true h3]; exact ifB_t out
  rw [decide_eq_false h3]
  refine ifB_f ?_
  by_cases h4 : y > 258
  · rw [decide_eq_true h4]; exact ifB_t out
  rw [decide_eq_false h4]
  refine ifB_f ?_
  obtain ⟨d, rfl⟩ : ∃ d : Nat, x = (d : Int) := ⟨x.toNat, by omega⟩
  obtain ⟨n, rfl⟩ : ∃ n : Nat, y = (n : Int) := ⟨y.toNat, by omega⟩
  refine Count_spec (by omega) fun m1 hS1 f1 s1 => ⟨_, _, _, rfl, ?_⟩
  refine Match_spec hS1 (fun _ => s1) (by omega) ⟨by omega, by omega⟩ ⟨by omega, by omega, by omega⟩ fun m2 a l k b o src ch a2 k2 b2 o2 hS hst hB hn hS2 f2 => ⟨_, _, _, _, _, _, rfl, ?_⟩
  have hl : (lz ((List.range d).map cntB) d n).length = d + n := by rw [lz_length, List.length_map, List.length_range]
  refine read_of hG (fun S => (f1 S).trans (f2 S)) hS hst hB (by omega) (by omega) fun m3 a3 k3 b3 o3 hO f3 f13 => ⟨_, _, _, _, rfl, ifB_t ?_⟩
  exact same_true (hO.slc hS2.byte) (hS2.sp (f3 fun _ _ => False) fun _ _ => id) (by omega) rfl ⟨_, rfl, hk m3 f13⟩

theorem distance_lifted (os : Os) (started : os.Started) (H : Type) (enc : TypeId × Value → H) :
    ReturnsInHanded {} Tryd.checked os f_laws_FnDistance .any (fun w args => (Rows.fnDistanceSpec.pre enc Tryd.prog (fnAt f_laws_FnDistance) [] false w args ∧ laidMetH Tryd.prog laidL w) ∧ sizedMet enc Tryd.prog (fnAt f_laws_FnDistance) (OpenSpec.ofChange Rows.fnDistanceSpec) false w args)
      (Rows.fnDistanceSpec.post enc Tryd.prog (fnAt f_laws_FnDistance) false true false false) := by
  refine returnsInHanded_of_change_and (C := Tryd.checked) (X := fun w _ => laidMetH Tryd.prog laidL w) (fun _ _ _ hh h => h.of_heap hh) own started (by kernel_rfl) (by kernel_rfl)
    (ChangeSpec.witness_shaped (enc := enc) (C := Tryd.checked) (os := os) (X := fun w _ => laidMetH Tryd.prog laidL w) false (World.doorLaid Tryd.prog 400 os) #[.int .i64 0, .int .i64 0] 8 rfl (shaped os _) (by kernel_rfl) (by kernel_rfl) (by kernel_rfl) (door_met os _)) ?_
  intro W base args ds gs before hval0 hW _ _ hL _
  have hp : (fnAt f_laws_FnDistance).params = #[t_int, t_int] := by kernel_rfl
  have hval : ∀ (j : Nat) t v, (fnAt f_laws_FnDistance).params[j]? = some t → args[j]? = some v → Value.okWide Tryd.prog W .any base t v := hval0
  have hW' := hW
  obtain ⟨p, q, hA, hV, _, _, _⟩ := hW
  rw [hp] at hA hval
  obtain ⟨v0, v1, d0, d1, p0, p1, rfl, rfl, rfl, h0, h1⟩ := trodAll_two hA
  obtain ⟨x0, rfl, hx0⟩ := int_arg (hval 0 _ v0 rfl rfl) h0
  obtain ⟨x1, rfl, hx1⟩ := int_arg (hval 1 _ v1 rfl rfl) h1
  obtain ⟨E, hG⟩ := glob_laid hL
  obtain ⟨g, rfl⟩ : ∃ g, gs = [g] := by
    match gs, hV with
    | [g], _ => exact ⟨g, rfl⟩
    | _ :: _ :: _, ⟨_, _, _, _, _, _, _, _, _, _, h, _⟩ => exact h.elim
  refine (calls_of (distance_walk hx0 hx1 hG fun m' hf => ⟨rfl, hf⟩)).mono fun e W' ⟨he, hs, hf⟩ => ⟨_, he, ?_⟩
  exact law_post hW' hs hf (tb := t_bool) (by kernel_rfl) (by kernel_rfl) rfl readable (by kernel_rfl) codeVar

theorem distance_said : Rows.FnDistanceSaid :=
  OpenClaim.holds_of_wide f_laws_FnDistance (fnAt f_laws_FnDistance) rfl rfl rfl rfl rfl rfl rfl ⟨rfl, rfl, rfl, rfl, rfl⟩ rfl rfl rfl rfl rfl (by kernel_rfl) (by kernel_rfl) (by kernel_rfl)
    (of_decide_eq_true (by kernel_rfl)) (by unfold Func.isWrapper; rw [if_neg (of_decide_eq_false (by kernel_rfl))]; exact ⟨rfl, rfl⟩)
    (fun os started H enc _ => distance_lifted os started H enc)
end Go.Proofs.YtaocijfaakgliaaDoor

namespace Go.Proofs.YtaocijfaakgliaaDoor
open Go Go.M
set_option maxRecDepth 100000

theorem distance_card : Rows.FnDistanceCardSaid :=
  Claim7.holds_tied_plain_at .later [] [.handle, .sentinel, .sentinel, .sentinel, .data] true Rows.fnDistanceCard.stood.harness true
    distance_said (fun _ h => by cases h) (by kernel_rfl) (fun _ h => by cases h) fnDistance_row_tie rfl ⟨rfl, rfl⟩ (by kernel_rfl) rfl
    (fun f fn hf hfn => by
      obtain rfl : f = f_laws_FnDistance := Option.some.inj ((show Tryd.prog.funcNamed "loop.example/pub-inflation/laws.FnDistance" = some f_laws_FnDistance by kernel_rfl).symm.trans hf) |>.symm
      obtain rfl : fn = fnAt f_laws_FnDistance := (Option.some.inj ((show Tryd.prog.funcs[f_laws_FnDistance]? = some (fnAt f_laws_FnDistance) by kernel_rfl).symm.trans hfn)).symm
      exact ⟨by kernel_rfl, fun j t ht => by
        rw [show (fnAt f_laws_FnDistance).params = #[t_int, t_int] by kernel_rfl] at ht
        have h3 : t = t_int := by
          have hm : t ∈ [t_int, t_int] := List.mem_of_getElem? (by simpa using ht)
          simp only [List.mem_cons, List.not_mem_nil, or_false] at hm
          rcases hm with rfl | rfl <;> simp
        rcases h3 with rfl
        · exact (show Tryd.prog.wantsStandIn t_int = false by kernel_rfl)⟩)
    (by kernel_rfl)
end Go.Proofs.YtaocijfaakgliaaDoor
