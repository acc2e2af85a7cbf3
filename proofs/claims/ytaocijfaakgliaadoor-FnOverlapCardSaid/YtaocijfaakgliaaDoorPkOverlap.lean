/- FnOverlap: a match gives what stands before it, over and over: the tied card. For every slice of bytes and every two numbers. The package variables are as the program's text lays them. -/
import Derived.Test.YtaocijfaakgliaaDoorPkx
import Derived.Test.YtaocijfaakgliaaDoorPkr
import Derived.Test.YtaocijfaakgliaaDoorPkz
import Derived.Test.YtaocijfaakgliaaDoorCards
import Derived.SevenTiedAt
namespace Go.Proofs.YtaocijfaakgliaaDoor
open Go Go.M Go.ChangeShapes Go.WideShapes Go.ChangeAt Go.RowKit
set_option maxRecDepth 100000

theorem overlap_walk {E : Errs} {src : List Nat} {m : Mem} {a : Option Addr} {l k b o : Nat} (hS : SlcB m a l k b o src) {x y : Int} (_ : -9223372036854775808 ≤ x ∧ x ≤ 9223372036854775807) (_ : -9223372036854775808 ≤ y ∧ y ≤ 9223372036854775807) (hG : Glob E m) {R : Value → Mem → Prop} (hk : ∀ m', (∀ S, Fr S m m') → R (.bool true) m') :
    CallM PP f_laws_FnOverlap #[.slice a l k, .int .i64 x, .int .i64 y] m R := by
  refine e_laws_FnOverlap a l k x y m R ?_
  have out : R (.bool true) m := hk m fun S => Fr.refl S m
  by_cases h1 : (l : Int) > 2147483647
  · rw [decide_eq_true h1]; exact ifB_t out
  rw [decide_eq_false h1]
  refine ifB_f ?_
  by_cases h2 : (l : Int) > 16777216
  · rw [decide_eq_true h2]; exact ifB_t out
  rw [decide_eq_false h2]
  refine ifB_f ?_
  by_cases h3 : x < 3
  · rw [decide_eq_true h3]; exact ifB_t out
  rw [decide_eq_false h3]
  refine ifB_f ?_
  by_cases h4 : x > 258
  · rw [decide_eq_true h4]; exact ifB_t out
  rw [decide_eq_false h4]
  refine ifB_f ?_
  by_cases h5 : y < 1
  · rw [decide_eq_true h5]; exact ifB_t out
  rw [decide_eq_false h5]
  refine ifB_f ?_
  by_cases h6 : y > (l : Int)
  · rw [decide_eq_true h6]; exact ifB_t out
  rw [decide_eq_false h6]
  refine ifB_f ?_
  by_cases h7 : (l : Int) > 300
  · rw [decide_eq_true h7]; exact ifB_t out
  rw [decide_eq_false h7]
  refine ifB_f ?_
  obtain ⟨n, rfl⟩ : ∃ n : Nat, x = (n : Int) := ⟨x.toNat, by omega⟩
  obtain ⟨d, rfl⟩ : ∃ d : Nat, y = (d : Int) := ⟨y.toNat, by omega⟩
  have hlen := hS.len
  refine Match_spec hS (fun h0 => cell_block (hS.data 0 h0)) (by omega) ⟨by omega, by omega⟩ ⟨by omega, by omega, by omega⟩ fun m2 a1 l1 k1 b1 o1 s1 ch a2 k2 b2 o2 hS1 hst hB hn hS2 f2 => ⟨_, _, _, _, _, _, rfl, ?_⟩
  have hl : (lz src d n).length = l + n := by rw [lz_length, hlen]
  refine read_of hG f2 hS1 hst hB (by omega) (by omega) fun m3 a3 k3 b3 o3 hO f3 f13 => ⟨_, _, _, _, rfl, ifB_f ?_⟩
  have hO3 := hO.slc hS2.byte
  rw [hl] at hO3 ⊢
  have hw : IntKind.wrap .i64 ((l : Int) + (n : Int)) = ((l + n : Nat) : Int) := by rw [wrap64_id (by omega) (by omega)]; omega
  rw [hw, bne_self_eq_false]
  obtain ⟨U, hU⟩ := lz_app src d n
  refine ifB_f (begins_true hO3 (hS.sp (f13 fun _ _ => False) fun _ _ => id) (by omega) ⟨U, hU⟩ ⟨_, rfl, ifB_f ?_⟩)
  rw [q_laws_FnOverlap_rrrrrrrlrl]
  refine loopW ffOk mixedOk (L₀ := L_laws_FnOverlap) (σ := Nat) [2, 9, 11] (fun i => [(2, .int .i64 (d : Int)), (9, .slice a3 (l + n) k3), (11, .int .i64 ((l + i : Nat) : Int))])
    (fun i m' => i ≤ n ∧ m' = m3) (fun i => n - i) 0 rfl ⟨Nat.zero_le _, rfl⟩ ?_
  rintro i m4 ⟨hi, rfl⟩
  refine p_laws_FnOverlap_rrrrrrrlrll d a3 _ k3 _ m4 _ ?_
  by_cases hil : i < n
  · rw [decide_eq_true (by omega)]
    have hwi : IntKind.wrap .i64 (((l + i : Nat) : Int) + 1) = ((l + (i + 1) : Nat) : Int) := by rw [wrap64_id (by omega) (by omega)]; omega
    have hwd : IntKind.wrap .i64 (((l + i : Nat) : Int) - (d : Int)) = ((l + i - d : Nat) : Int) := by rw [wrap64_id (by omega) (by omega)]; omega
    rw [hwi, hwd, hO3.at_ (by omega)]
    refine ifB_t ⟨⟨by omega, by omega⟩, _, hO3.data (l + i) (by omega), ?_⟩
    refine ⟨⟨by omega, by omega⟩, _, hO3.data (l + i - d) (by omega), ?_⟩
    have e := lz_back src d (by omega : 0 < d) (by omega : d ≤ src.length) n i hil
    rw [hlen] at e
    rw [e, bne_self_eq_false]
    exact ifB_f ⟨i + 1, rfl, ⟨by omega, rfl⟩, by omega⟩
  · rw [decide_eq_false (by omega)]
    exact ifB_f (WPS.piece [] rfl (p_laws_FnOverlap_rrrrrrrr m4 _ (hk m4 f13)))

theorem overlap_lifted (os : Os) (started : os.Started) (H : Type) (enc : TypeId × Value → H) :
    ReturnsInHanded {} Tryd.checked os f_laws_FnOverlap .any (fun w args => (Rows.fnOverlapSpec.pre enc Tryd.prog (fnAt f_laws_FnOverlap) [] false w args ∧ laidMetH Tryd.prog laidL w) ∧ sizedMet enc Tryd.prog (fnAt f_laws_FnOverlap) (OpenSpec.ofChange Rows.fnOverlapSpec) false w args)
      (Rows.fnOverlapSpec.post enc Tryd.prog (fnAt f_laws_FnOverlap) false true false false) := by
  refine returnsInHanded_of_change_and (C := Tryd.checked) (X := fun w _ => laidMetH Tryd.prog laidL w) (fun _ _ _ hh h => h.of_heap hh) own started (by kernel_rfl) (by kernel_rfl)
    (ChangeSpec.witness_shaped (enc := enc) (C := Tryd.checked) (os := os) (X := fun w _ => laidMetH Tryd.prog laidL w) false (World.doorLaid Tryd.prog 400 os) #[.slice none 0 0, .int .i64 0, .int .i64 0] 8 rfl (shaped os _) (by kernel_rfl) (by kernel_rfl) (by kernel_rfl) (door_met os _)) ?_
  intro W base args ds gs before hval0 hW _ _ hL _
  have hp : (fnAt f_laws_FnOverlap).params = #[t_s_uint8, t_int, t_int] := by kernel_rfl
  have hval : ∀ (j : Nat) t v, (fnAt f_laws_FnOverlap).params[j]? = some t → args[j]? = some v → Value.okWide Tryd.prog W .any base t v := hval0
  have hW' := hW
  obtain ⟨p, q, hA, hV, _, _, _⟩ := hW
  rw [hp] at hA hval
  obtain ⟨v0, v1, v2, d0, d1, d2, p0, p1, p2, rfl, rfl, rfl, h0, h1, h2⟩ := trodAll_three hA
  obtain ⟨a0, l0, k0, b0, o0, s0, rfl, hS0⟩ := bytes_arg (hval 0 _ v0 rfl rfl) h0
  obtain ⟨x1, rfl, hx1⟩ := int_arg (hval 1 _ v1 rfl rfl) h1
  obtain ⟨x2, rfl, hx2⟩ := int_arg (hval 2 _ v2 rfl rfl) h2
  obtain ⟨E, hG⟩ := glob_laid hL
  obtain ⟨g, rfl⟩ : ∃ g, gs = [g] := by
    match gs, hV with
    | [g], _ => exact ⟨g, rfl⟩
    | _ :: _ :: _, ⟨_, _, _, _, _, _, _, _, _, _, h, _⟩ => exact h.elim
  refine (calls_of (overlap_walk hS0 hx1 hx2 hG fun m' hf => ⟨rfl, hf⟩)).mono fun e W' ⟨he, hs, hf⟩ => ⟨_, he, ?_⟩
  exact law_post hW' hs hf (tb := t_bool) (by kernel_rfl) (by kernel_rfl) rfl readable (by kernel_rfl) codeVar

theorem overlap_said : Rows.FnOverlapSaid :=
  OpenClaim.holds_of_wide f_laws_FnOverlap (fnAt f_laws_FnOverlap) rfl rfl rfl rfl rfl rfl rfl ⟨rfl, rfl, rfl, rfl, rfl⟩ rfl rfl rfl rfl rfl (by kernel_rfl) (by kernel_rfl) (by kernel_rfl)
    (of_decide_eq_true (by kernel_rfl)) (by unfold Func.isWrapper; rw [if_neg (of_decide_eq_false (by kernel_rfl))]; exact ⟨rfl, rfl⟩)
    (fun os started H enc _ => overlap_lifted os started H enc)
end Go.Proofs.YtaocijfaakgliaaDoor

namespace Go.Proofs.YtaocijfaakgliaaDoor
open Go Go.M
set_option maxRecDepth 100000

theorem overlap_card : Rows.FnOverlapCardSaid :=
  Claim7.holds_tied_plain_at .later [] [.handle, .sentinel, .sentinel, .sentinel, .data] true Rows.fnOverlapCard.stood.harness true
    overlap_said (fun _ h => by cases h) (by kernel_rfl) (fun _ h => by cases h) fnOverlap_row_tie rfl ⟨rfl, rfl⟩ (by kernel_rfl) rfl
    (fun f fn hf hfn => by
      obtain rfl : f = f_laws_FnOverlap := Option.some.inj ((show Tryd.prog.funcNamed "loop.example/pub-inflation/laws.FnOverlap" = some f_laws_FnOverlap by kernel_rfl).symm.trans hf) |>.symm
      obtain rfl : fn = fnAt f_laws_FnOverlap := (Option.some.inj ((show Tryd.prog.funcs[f_laws_FnOverlap]? = some (fnAt f_laws_FnOverlap) by kernel_rfl).symm.trans hfn)).symm
      exact ⟨by kernel_rfl, fun j t ht => by
        rw [show (fnAt f_laws_FnOverlap).params = #[t_s_uint8, t_int, t_int] by kernel_rfl] at ht
        have h3 : t = t_int ∨ t = t_s_uint8 := by
          have hm : t ∈ [t_s_uint8, t_int, t_int] := List.mem_of_getElem? (by simpa using ht)
          simp only [List.mem_cons, List.not_mem_nil, or_false] at hm
          rcases hm with rfl | rfl | rfl <;> simp
        rcases h3 with rfl | rfl
        · exact (show Tryd.prog.wantsStandIn t_int = false by kernel_rfl)
        · exact (show Tryd.prog.wantsStandIn t_s_uint8 = false by kernel_rfl)⟩)
    (by kernel_rfl)
end Go.Proofs.YtaocijfaakgliaaDoor
