/- FnRepeat: a match at distance 1 gives one byte so many times more: the tied card. For every byte and every number. The package variables are as the program's text lays them. -/
import Derived.Test.YtaocijfaakgliaaDoorPkx
import Derived.Test.YtaocijfaakgliaaDoorPkr
import Derived.Test.YtaocijfaakgliaaDoorPkz
import Derived.Test.YtaocijfaakgliaaDoorCards
import Derived.SevenTiedAt
namespace Go.Proofs.YtaocijfaakgliaaDoor
open Go Go.M Go.ChangeShapes Go.WideShapes Go.ChangeAt Go.RowKit
set_option maxRecDepth 100000

theorem repeat_walk {E : Errs} {m : Mem} {y : Nat} (hy : y < 256) {x : Int} (_ : -9223372036854775808 ≤ x ∧ x ≤ 9223372036854775807) (hG : Glob E m) {R : Value → Mem → Prop} (hk : ∀ m', (∀ S, Fr S m m') → R (.bool true) m') :
    CallM PP f_laws_FnRepeat #[.int .u8 (y : Int), .int .i64 x] m R := by
  refine e_laws_FnRepeat y x m R ?_
  have out : R (.bool true) m := hk m fun S => Fr.refl S m
  by_cases h1 : x < 3
  · rw [decide_eq_true h1]; exact ifB_t out
  rw [decide_eq_false h1]
  refine ifB_f ?_
  by_cases h2 : x > 258
  · rw [decide_eq_true h2]; exact ifB_t out
  rw [decide_eq_false h2]
  refine ifB_f ?_
  obtain ⟨n, rfl⟩ : ∃ n : Nat, x = (n : Int) := ⟨x.toNat, by omega⟩
  refine one_W hy fun m1 hS1 f1 s1 => ⟨_, _, _, rfl, ?_⟩
  refine Match_spec (d := 1) hS1 (fun _ => s1) (by decide) ⟨by omega, by omega⟩ ⟨by decide, by decide, by decide⟩ fun m2 a l k b o src ch a2 k2 b2 o2 hS hst hB hn hS2 f2 => ⟨_, _, _, _, _, _, rfl, ?_⟩
  have hl : (lz [y] 1 n).length = n + 1 := by rw [lz_one, List.length_replicate]
  refine read_of hG (fun S => (f1 S).trans (f2 S)) hS hst hB (by omega) (by omega) fun m3 a3 k3 b3 o3 hO f3 f13 => ⟨_, _, _, _, rfl, ifB_f ?_⟩
  rw [hl] at hO ⊢
  rw [lz_one] at hO
  have hw : IntKind.wrap .i64 ((n : Int) + 1) = ((n + 1 : Nat) : Int) := by rw [wrap64_id (by omega) (by omega)]; rfl
  rw [hw, bne_self_eq_false]
  refine ifB_f ?_
  rw [q_laws_FnRepeat_rrrrrlrl]
  refine loopW ffOk mixedOk (L₀ := L_laws_FnRepeat) (σ := Nat) [0, 38, 39, 40] (fun i => [(0, .int .u8 (y : Int)), (38, .slice a3 (n + 1) k3), (39, .int .i64 ((n + 1 : Nat) : Int)), (40, .int .i64 (i : Nat))])
    (fun i m' => i ≤ n + 1 ∧ m' = m3) (fun i => n + 1 - i) 0 rfl ⟨Nat.zero_le _, rfl⟩ ?_
  rintro i m4 ⟨hi, rfl⟩
  refine p_laws_FnRepeat_rrrrrlrll y a3 _ k3 _ i m4 _ ?_
  by_cases hil : i < n + 1
  · rw [decide_eq_true (by omega)]
    have hwi : IntKind.wrap .i64 ((i : Int) + 1) = ((i + 1 : Nat) : Int) := by rw [wrap64_id (by omega) (by omega)]; rfl
    have hle := hO.own.le
    rw [hwi, hO.own.at_ (by omega)]
    refine ifB_t ⟨⟨by omega, by omega⟩, (y : Int), hO.own.row i _ (by rw [List.getElem?_map, List.getElem?_replicate, if_pos hil]; rfl), ?_⟩
    rw [bne_self_eq_false]
    exact ifB_f ⟨i + 1, rfl, ⟨by omega, rfl⟩, by omega⟩
  · rw [decide_eq_false (by omega)]
    exact ifB_f (WPS.piece [] rfl (p_laws_FnRepeat_rrrrrr m4 _ (hk m4 f13)))

theorem repeat_lifted (os : Os) (started : os.Started) (H : Type) (enc : TypeId × Value → H) :
    ReturnsInHanded {} Tryd.checked os f_laws_FnRepeat .any (fun w args => (Rows.fnRepeatSpec.pre enc Tryd.prog (fnAt f_laws_FnRepeat) [] false w args ∧ laidMetH Tryd.prog laidL w) ∧ sizedMet enc Tryd.prog (fnAt f_laws_FnRepeat) (OpenSpec.ofChange Rows.fnRepeatSpec) false w args)
      (Rows.fnRepeatSpec.post enc Tryd.prog (fnAt f_laws_FnRepeat) false true false false) := by
  refine returnsInHanded_of_change_and (C := Tryd.checked) (X := fun w _ => laidMetH Tryd.prog laidL w) (fun _ _ _ hh h => h.of_heap hh) own started (by kernel_rfl) (by kernel_rfl)
    (ChangeSpec.witness_shaped (enc := enc) (C := Tryd.checked) (os := os) (X := fun w _ => laidMetH Tryd.prog laidL w) false (World.doorLaid Tryd.prog 400 os) #[.int .u8 0, .int .i64 0] 8 rfl (shaped os _) (by kernel_rfl) (by kernel_rfl) (by kernel_rfl) (door_met os _)) ?_
  intro W base args ds gs before hval0 hW _ _ hL _
  have hp : (fnAt f_laws_FnRepeat).params = #[t_uint8, t_int] := by kernel_rfl
  have hval : ∀ (j : Nat) t v, (fnAt f_laws_FnRepeat).params[j]? = some t → args[j]? = some v → Value.okWide Tryd.prog W .any base t v := hval0
  have hW' := hW
  obtain ⟨p, q, hA, hV, _, _, _⟩ := hW
  rw [hp] at hA hval
  obtain ⟨v0, v1, d0, d1, p0, p1, rfl, rfl, rfl, h0, h1⟩ := trodAll_two hA
  obtain ⟨x0, rfl, hx0⟩ := byte_arg (hval 0 _ v0 rfl rfl) h0
  obtain ⟨x1, rfl, hx1⟩ := int_arg (hval 1 _ v1 rfl rfl) h1
  obtain ⟨E, hG⟩ := glob_laid hL
  obtain ⟨g, rfl⟩ : ∃ g, gs = [g] := by
    match gs, hV with
    | [g], _ => exact ⟨g, rfl⟩
    | _ :: _ :: _, ⟨_, _, _, _, _, _, _, _, _, _, h, _⟩ => exact h.elim
  refine (calls_of (repeat_walk hx0 hx1 hG fun m' hf => ⟨rfl, hf⟩)).mono fun e W' ⟨he, hs, hf⟩ => ⟨_, he, ?_⟩
  exact law_post hW' hs hf (tb := t_bool) (by kernel_rfl) (by kernel_rfl) rfl readable (by kernel_rfl) codeVar

theorem repeat_said : Rows.FnRepeatSaid :=
  OpenClaim.holds_of_wide f_laws_FnRepeat (fnAt f_laws_FnRepeat) rfl rfl rfl rfl rfl rfl rfl ⟨rfl, rfl, rfl, rfl, rfl⟩ rfl rfl rfl rfl rfl (by kernel_rfl) (by kernel_rfl) (by kernel_rfl)
    (of_decide_eq_true (by kernel_rfl)) (by unfold Func.isWrapper; rw [if_neg (of_decide_eq_false (by kernel_rfl))]; exact ⟨rfl, rfl⟩)
    (fun os started H enc _ => repeat_lifted os started H enc)
end Go.Proofs.YtaocijfaakgliaaDoor

namespace Go.Proofs.YtaocijfaakgliaaDoor
open Go Go.M
set_option maxRecDepth 100000

theorem repeat_card : Rows.FnRepeatCardSaid :=
  Claim7.holds_tied_plain_at .later [] [.handle, .sentinel, .sentinel, .sentinel, .data] true Rows.fnRepeatCard.stood.harness true
    repeat_said (fun _ h => by cases h) (by kernel_rfl) (fun _ h => by cases h) fnRepeat_row_tie rfl ⟨rfl, rfl⟩ (by kernel_rfl) rfl
    (fun f fn hf hfn => by
      obtain rfl : f = f_laws_FnRepeat := Option.some.inj ((show Tryd.prog.funcNamed "loop.example/pub-inflation/laws.FnRepeat" = some f_laws_FnRepeat by kernel_rfl).symm.trans hf) |>.symm
      obtain rfl : fn = fnAt f_laws_FnRepeat := (Option.some.inj ((show Tryd.prog.funcs[f_laws_FnRepeat]? = some (fnAt f_laws_FnRepeat) by kernel_rfl).symm.trans hfn)).symm
      exact ⟨by kernel_rfl, fun j t ht => by
        rw [show (fnAt f_laws_FnRepeat).params = #[t_uint8, t_int] by kernel_rfl] at ht
        have h3 : t = t_int ∨ t = t_uint8 := by
          have hm : t ∈ [t_uint8, t_int] := List.mem_of_getElem? (by simpa using ht)
          simp only [List.mem_cons, List.not_mem_nil, or_false] at hm
          rcases hm with rfl | rfl <;> simp
        rcases h3 with rfl | rfl
        · exact (show Tryd.prog.wantsStandIn t_int = false by kernel_rfl)
        · exact (show Tryd.prog.wantsStandIn t_uint8 = false by kernel_rfl)⟩)
    (by kernel_rfl)
end Go.Proofs.YtaocijfaakgliaaDoor
