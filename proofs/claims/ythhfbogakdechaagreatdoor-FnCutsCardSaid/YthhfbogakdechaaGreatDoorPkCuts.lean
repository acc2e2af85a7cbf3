/- FnCuts: each part of a stream from its beginning ends with an error, behind first bytes of what it gives: the tied card. For every slice of bytes. The package variables are as the program's text lays them. -/
import Derived.Test.YthhfbogakdechaaGreatDoorPke
import Derived.Test.YthhfbogakdechaaGreatDoorPkx
import Derived.Test.YthhfbogakdechaaGreatDoorPkr
import Derived.Test.YthhfbogakdechaaGreatDoorPkzf
import Derived.Test.YthhfbogakdechaaGreatDoorCards
import Derived.SevenTiedAt
set_option maxRecDepth 100000
namespace Go.M
open Go Go.Proofs
def L_laws_FnCuts : List Nat := [0, 2, 3, 4, 5, 6, 7, 10, 13, 21, 22, 23, 43]
def r_laws_FnCuts : List ResultVar := [.tmp 2]
noncomputable def c_laws_FnCuts : Code := (Go.Proofs.Tryz.f6.body).getD .skip
theorem b_laws_FnCuts : Go.Proofs.Tryz.f6.body = some c_laws_FnCuts := by kernel_rfl
noncomputable def c_laws_FnCuts_rrrrr : Code := (rgt (rgt (rgt (rgt (rgt c_laws_FnCuts)))))
noncomputable def c_laws_FnCuts_rrrrlrl : Code := (lft (rgt (lft (rgt (rgt (rgt (rgt c_laws_FnCuts)))))))
noncomputable def c_laws_FnCuts_rrrrlrll : Code := (lft c_laws_FnCuts_rrrrlrl)
theorem q_laws_FnCuts_rrrrlrl : c_laws_FnCuts_rrrrlrl = .loop c_laws_FnCuts_rrrrlrll := by kernel_rfl
theorem e_laws_FnCuts (a1 : Option Addr) (l2 : Nat) (k3 : Nat) (m : Mem) (R : Value → Mem → Prop)
    (h : ifB (decide ((l2 : Int) > 2147483647)) (R (.bool true) m) (ifB (decide ((l2 : Int) > 16777216)) (R (.bool true) m) (CallM PP f_spec_MixedOf #[.slice a1 l2 k3] m fun v10 m11 => ∃ a4 l5, ∃ k6 a7, ∃ l8 k9, v10 = .tuple #[.slice a4 l5 k6, .slice a7 l8 k9] ∧ WPS PP 45 c_laws_FnCuts_rrrrlrl (((retK PP r_laws_FnCuts R).withN fun r m => WPS PP 45 c_laws_FnCuts_rrrrr (retK PP r_laws_FnCuts R) r m).withX 0) [(0, .slice a1 l2 k3), (2, .bool false), (3, .slice a4 l5 k6), (4, .slice a7 l8 k9), (21, .int .i64 (if (80 : Int) < (l5 : Int) then 80 else (l5 : Int))), (22, .int .i64 0)] m11))) :
    CallM PP f_laws_FnCuts #[.slice a1 l2 k3] m R :=
  callM_enter ffOk mixedOk 45 L_laws_FnCuts Tryz.func6 b_laws_FnCuts Tryz.ntmps6 (by simp) (Eq.mpr (by kernel_rfl) h)
theorem p_laws_FnCuts_rrrrr  (m : Mem) (K : Kont)
    (h : K.kr [(2, .bool true)] m  ) :
    wpc PP FF 45 L_laws_FnCuts c_laws_FnCuts_rrrrr K [] m :=
  Eq.mpr (by kernel_rfl) h
theorem p_laws_FnCuts_rrrrlrll (a1 : Option Addr) (l2 : Nat) (k3 : Nat) (a4 : Option Addr) (l5 : Nat) (k6 : Nat) (x7 : Int) (x8 : Int) (m : Mem) (K : Kont)
    (h : ifB (decide (x8 < x7)) (l2 ≤ k3 ∧ (0 ≤ x8 ∧ x8 ≤ (k3 : Int)) ∧ CallM PP f_impl_All #[.slice a1 x8.toNat k3, .int .i64 131072] m fun v13 m14 => ∃ a9 l10, ∃ k11 x12, v13 = .tuple #[.slice a9 l10 k11, .int .i64 x12] ∧ ifB (x12 == 0) (K.kr [(2, .bool false), (3, .slice a1 l2 k3), (4, .slice a4 l5 k6), (5, .int .i64 x8), (6, .slice a9 l10 k11), (7, .int .i64 x12), (21, .int .i64 x7), (22, .int .i64 x8)] m14) (ifB (x12 == 1) (K.kr [(2, .bool false), (3, .slice a1 l2 k3), (4, .slice a4 l5 k6), (5, .int .i64 x8), (6, .slice a9 l10 k11), (7, .int .i64 x12), (21, .int .i64 x7), (22, .int .i64 x8)] m14) (CallM PP f_laws_begins #[.slice a4 l5 k6, .slice a9 l10 k11] m14 fun v16 m17 => ∃ b15, v16 = .bool b15 ∧ ifB (!b15) (K.kr [(2, .bool false), (3, .slice a1 l2 k3), (4, .slice a4 l5 k6), (5, .int .i64 x8), (6, .slice a9 l10 k11), (7, .int .i64 x12), (21, .int .i64 x7), (22, .int .i64 x8)] m17) (K.kn [(3, .slice a1 l2 k3), (4, .slice a4 l5 k6), (5, .int .i64 x8), (6, .slice a9 l10 k11), (7, .int .i64 x12), (21, .int .i64 x7), (22, .int .i64 (IntKind.wrap .i64 (x8 + 1)))] m17)))) (K.kx 0 [(3, .slice a1 l2 k3), (4, .slice a4 l5 k6), (21, .int .i64 x7), (22, .int .i64 x8)] m)) :
    wpc PP FF 45 L_laws_FnCuts c_laws_FnCuts_rrrrlrll K [(3, .slice a1 l2 k3), (4, .slice a4 l5 k6), (21, .int .i64 x7), (22, .int .i64 x8)] m :=
  Eq.mpr (by kernel_rfl) h
end Go.M

namespace Go.Proofs.YthhfbogakdechaaGreatDoor
open Go Go.M Go.ChangeShapes Go.WideShapes Go.ChangeAt Go.RowKit
set_option maxRecDepth 100000
theorem cuts_walk {E : Errs} {d : List Nat} {m : Mem} {a : Option Addr} {l k b o : Nat} (hS : SlcB m a l k b o d) (hG : Glob E m) {R : Value → Mem → Prop} (hk : ∀ m', (∀ S, Fr S m m') → R (.bool true) m') :
    CallM PP f_laws_FnCuts #[.slice a l k] m R := by
  refine e_laws_FnCuts a l k m R ?_
  by_cases h1 : (l : Int) > 2147483647
  · rw [decide_eq_true h1]; exact ifB_t (hk m fun S => Fr.refl S m)
  rw [decide_eq_false h1]
  refine ifB_f ?_
  by_cases h2 : (l : Int) > 16777216
  · rw [decide_eq_true h2]; exact ifB_t (hk m fun S => Fr.refl S m)
  rw [decide_eq_false h2]
  refine ifB_f ?_
  refine MixedOf_spec hS fun m1 a1 l1 k1 b1 o1 src ch a4 l4 k4 b4 o4 H hM f1 => ⟨_, _, _, _, _, _, rfl, ?_⟩
  have F1 : ∀ S, Fr S m m1 := fun S => f1.mono fun _ _ h => h.elim
  have hG1 := hG.fr (F1 fun _ _ => False) (by intro i j h; exact h.elim)
  have hlen := hM.st.len
  have hcl := hM.len
  have hsz := hM.size
  have hl1 := hM.row.len
  have hl4 := hM.want.len
  have hcap := hM.row.cap
  have he : (if (80 : Int) < (l1 : Int) then (80 : Int) else (l1 : Int)) = ((min l1 80 : Nat) : Int) := by split <;> omega
  rw [he, q_laws_FnCuts_rrrrlrl]
  refine loopW ffOk mixedOk (L₀ := L_laws_FnCuts) (σ := Nat) [3, 4, 21, 22] (fun n => [(3, .slice a1 l1 k1), (4, .slice a4 l4 k4), (21, .int .i64 ((min l1 80 : Nat) : Int)), (22, .int .i64 (n : Nat))])
    (fun n m' => n ≤ min l1 80 ∧ ∀ S, Fr S m1 m') (fun n => min l1 80 - n) 0 rfl ⟨Nat.zero_le _, fun S => Fr.refl _ _⟩ ?_
  rintro n m2 ⟨hn, f2⟩
  refine p_laws_FnCuts_rrrrlrll a1 l1 k1 a4 l4 k4 _ n m2 _ ?_
  have F2 : ∀ S, Fr S m m2 := fun S => (F1 S).trans (f2 S)
  by_cases hnl : n < min l1 80
  · rw [decide_eq_true (by omega)]
    have hw : IntKind.wrap .i64 ((n : Int) + 1) = ((n + 1 : Nat) : Int) := by rw [wrap64_id (by omega) (by omega)]; rfl
    rw [hw, Int.toNat_natCast]
    obtain ⟨H', p, hr, T, hT⟩ := cut_mixed hM (n := n) (by omega)
    have hHl : H.length = H'.length + T.length := by rw [hT, List.length_append]
    refine ifB_t ⟨hcap, ⟨by omega, by omega⟩, ?_⟩
    refine All_short ((hM.row.take (n := n) (by omega)).sp (f2 fun _ _ => False) fun _ _ => id) (hG.fr (F2 fun _ _ => False) (by intro i j h; exact h.elim)) (by omega) hr (by omega) fun m3 a5 k5 b5 o5 hO5 _ f3 => ⟨_, _, _, _, rfl, ifB_f (ifB_f ?_)⟩
    refine begins_true ((hM.want.sp (f2 fun _ _ => False) fun _ _ => id).sp (f3 fun _ _ => False) fun _ _ => id) (hO5.slc fun v hv => hM.want.byte v (by rw [hT]; exact List.mem_append_left _ hv)) (by omega) ⟨T, hT⟩ ⟨_, rfl, ifB_f ?_⟩
    exact ⟨n + 1, rfl, ⟨by omega, fun S => (f2 S).trans (f3 S)⟩, by omega⟩
  · rw [decide_eq_false (by omega)]
    exact ifB_f (WPS.piece [] rfl (p_laws_FnCuts_rrrrr m2 _ (hk m2 F2)))
theorem cuts_lifted (os : Os) (started : os.Started) (H : Type) (enc : TypeId × Value → H) :
    ReturnsInHanded {} Tryz.checked os f_laws_FnCuts .any (fun w args => (Rows.fnCutsSpec.pre enc Tryz.prog (fnAt f_laws_FnCuts) [] false w args ∧ laidMetH Tryz.prog laidL w) ∧ sizedMet enc Tryz.prog (fnAt f_laws_FnCuts) (OpenSpec.ofChange Rows.fnCutsSpec) false w args)
      (Rows.fnCutsSpec.post enc Tryz.prog (fnAt f_laws_FnCuts) false true false false) := by
  refine returnsInHanded_of_change_and (C := Tryz.checked) (X := fun w _ => laidMetH Tryz.prog laidL w) (fun _ _ _ hh h => h.of_heap hh) own started (by kernel_rfl) (by kernel_rfl)
    (ChangeSpec.witness_shaped (enc := enc) (C := Tryz.checked) (os := os) (X := fun w _ => laidMetH Tryz.prog laidL w) false (World.doorLaid Tryz.prog 400 os) #[.slice none 0 0] 8 rfl (shaped os _) (by kernel_rfl) (by kernel_rfl) (by kernel_rfl) (door_met os _)) ?_
  intro W base args ds gs before hval0 hW _ _ hL _
  have hp : (fnAt f_laws_FnCuts).params = #[t_s_uint8] := by kernel_rfl
  have hval : ∀ (j : Nat) t v, (fnAt f_laws_FnCuts).params[j]? = some t → args[j]? = some v → Value.okWide Tryz.prog W .any base t v := hval0
  have hW' := hW
  obtain ⟨p, q, hA, hV, _, _, _⟩ := hW
  rw [hp] at hA hval
  obtain ⟨v0, d0, rfl, rfl, h0⟩ := trodAll_one hA
  obtain ⟨a0, l0, k0, b0, o0, s0, rfl, hS0⟩ := bytes_arg (hval 0 _ v0 rfl rfl) h0
  obtain ⟨E, hG⟩ := glob_laid hL
  obtain ⟨g, rfl⟩ : ∃ g, gs = [g] := by
    match gs, hV with
    | [g], _ => exact ⟨g, rfl⟩
    | _ :: _ :: _, ⟨_, _, _, _, _, _, _, _, _, _, h, _⟩ => exact h.elim
  refine (calls_of (cuts_walk hS0 hG fun m' hf => ⟨rfl, hf⟩)).mono fun e W' ⟨he, hs, hf⟩ => ⟨_, he, ?_⟩
  exact law_post hW' hs hf (tb := t_bool) (by kernel_rfl) (by kernel_rfl) rfl readable (by kernel_rfl) codeVar
theorem cuts_said : Rows.FnCutsSaid :=
  OpenClaim.holds_of_wide f_laws_FnCuts (fnAt f_laws_FnCuts) rfl rfl rfl rfl rfl rfl rfl ⟨rfl, rfl, rfl, rfl, rfl⟩ rfl rfl rfl rfl rfl (by kernel_rfl) (by kernel_rfl) (by kernel_rfl)
    (of_decide_eq_true (by kernel_rfl)) (by unfold Func.isWrapper; rw [if_neg (of_decide_eq_false (by kernel_rfl))]; exact ⟨rfl, rfl⟩)
    (fun os started H enc _ => cuts_lifted os started H enc)
end Go.Proofs.YthhfbogakdechaaGreatDoor

namespace Go.Proofs.YthhfbogakdechaaGreatDoor
open Go Go.M
set_option maxRecDepth 100000
theorem cuts_card : Rows.FnCutsCardSaid :=
  Claim7.holds_tied_plain_at .later [] [.handle, .sentinel, .sentinel, .sentinel, .data] true Rows.fnCutsCard.stood.harness true
    cuts_said (fun _ h => by cases h) (by kernel_rfl) (fun _ h => by cases h) fnCuts_row_tie rfl ⟨rfl, rfl⟩ (by kernel_rfl) rfl
    (fun f fn hf hfn => by
      obtain rfl : f = f_laws_FnCuts := Option.some.inj ((show Tryz.prog.funcNamed "loop.example/pub-inflation/laws.FnCuts" = some f_laws_FnCuts by kernel_rfl).symm.trans hf) |>.symm
      obtain rfl : fn = fnAt f_laws_FnCuts := (Option.some.inj ((show Tryz.prog.funcs[f_laws_FnCuts]? = some (fnAt f_laws_FnCuts) by kernel_rfl).symm.trans hfn)).symm
      exact ⟨by kernel_rfl, fun j t ht => by
        rw [show (fnAt f_laws_FnCuts).params = #[t_s_uint8] by kernel_rfl] at ht
        have h3 : t = t_s_uint8 := by
          rcases j with _ | j
          · simpa using ht.symm
          · simp at ht
        subst h3
        exact (show Tryz.prog.wantsStandIn t_s_uint8 = false by kernel_rfl)⟩)
    (by kernel_rfl)
end Go.Proofs.YthhfbogakdechaaGreatDoor
