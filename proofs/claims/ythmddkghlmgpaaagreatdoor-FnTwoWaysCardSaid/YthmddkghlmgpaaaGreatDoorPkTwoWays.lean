/- FnTwoWays: the same items in other codes and other blocks give the same: the tied card. For every slice of bytes. The package variables are as the program's text lays them. -/
import Derived.Test.YthmddkghlmgpaaaGreatDoorPke
import Derived.Test.YthmddkghlmgpaaaGreatDoorPkx
import Derived.Test.YthmddkghlmgpaaaGreatDoorPkr
import Derived.Test.YthmddkghlmgpaaaGreatDoorPkzf
import Derived.Test.YthmddkghlmgpaaaGreatDoorCards
import Derived.SevenTiedAt
set_option maxRecDepth 100000
namespace Go.M
open Go Go.Proofs
def L_laws_FnTwoWays : List Nat := [0, 2, 3, 4, 5, 6, 7, 8, 9, 12, 15]
def r_laws_FnTwoWays : List ResultVar := [.tmp 2]
noncomputable def c_laws_FnTwoWays : Code := (Go.Proofs.Tryz.f7.body).getD .skip
theorem b_laws_FnTwoWays : Go.Proofs.Tryz.f7.body = some c_laws_FnTwoWays := by kernel_rfl
theorem e_laws_FnTwoWays (a1 : Option Addr) (l2 : Nat) (k3 : Nat) (m : Mem) (R : Value → Mem → Prop)
    (h : ifB (decide ((l2 : Int) > 2147483647)) (R (.bool true) m) (ifB (decide ((l2 : Int) > 16777216)) (R (.bool true) m) (CallM PP f_spec_TwoWays #[.slice a1 l2 k3] m fun v13 m14 => ∃ a4 l5, ∃ k6 a7, ∃ l8 k9, ∃ a10 l11 k12, v13 = .tuple #[.slice a4 l5 k6, .slice a7 l8 k9, .slice a10 l11 k12] ∧ CallM PP f_impl_All #[.slice a4 l5 k6, .int .i64 131072] m14 fun v19 m20 => ∃ a15 l16, ∃ k17 x18, v19 = .tuple #[.slice a15 l16 k17, .int .i64 x18] ∧ CallM PP f_impl_All #[.slice a7 l8 k9, .int .i64 131072] m20 fun v25 m26 => ∃ a21 l22, ∃ k23 x24, v25 = .tuple #[.slice a21 l22 k23, .int .i64 x24] ∧ ifB (x18 == 1) (ifB (x24 == 1) (CallM PP f_laws_same #[.slice a15 l16 k17, .slice a10 l11 k12] m26 fun v28 m29 => ∃ b27, v28 = .bool b27 ∧ ifB b27 (CallM PP f_laws_same #[.slice a21 l22 k23, .slice a10 l11 k12] m29 fun v31 m32 => ∃ b30, v31 = .bool b30 ∧ R (.bool b30) m32) (R (.bool false) m29)) (R (.bool false) m26)) (R (.bool false) m26)))) :
    CallM PP f_laws_FnTwoWays #[.slice a1 l2 k3] m R :=
  callM_enter ffOk mixedOk 48 L_laws_FnTwoWays Tryz.func7 b_laws_FnTwoWays Tryz.ntmps7 (by simp) (Eq.mpr (by kernel_rfl) h)
end Go.M

namespace Go.Proofs.YthmddkghlmgpaaaGreatDoor
open Go Go.M Go.ChangeShapes Go.WideShapes Go.ChangeAt Go.RowKit
set_option maxRecDepth 100000
theorem twoWays_walk {E : Errs} {d : List Nat} {m : Mem} {a : Option Addr} {l k b o : Nat} (hS : SlcB m a l k b o d) (hG : Glob E m) {R : Value → Mem → Prop} (hk : ∀ m', (∀ S, Fr S m m') → R (.bool true) m') :
    CallM PP f_laws_FnTwoWays #[.slice a l k] m R := by
  refine e_laws_FnTwoWays a l k m R ?_
  by_cases h1 : (l : Int) > 2147483647
  · rw [decide_eq_true h1]; exact ifB_t (hk m fun S => Fr.refl S m)
  rw [decide_eq_false h1]
  refine ifB_f ?_
  by_cases h2 : (l : Int) > 16777216
  · rw [decide_eq_true h2]; exact ifB_t (hk m fun S => Fr.refl S m)
  rw [decide_eq_false h2]
  refine ifB_f ?_
  refine TwoWays_spec hS fun m1 a1 l1 k1 b1 o1 src ch a2 l2 k2 b2 o2 src2 ch2 a4 l4 k4 b4 o4 H hM hM2 F1 => ⟨_, _, _, _, _, _, _, _, _, rfl, ?_⟩
  have hG1 := hG.fr (F1 fun _ _ => False) (by intro i j h; exact h.elim)
  have hlen := hM.st.len
  have hcl := hM.len
  have hsz := hM.size
  have hl1 := hM.row.len
  have hl4 := hM.want.len
  have hlen2 := hM2.st.len
  have hcl2 := hM2.len
  refine read_of hG F1 hM.row hM.st hM.blk.is (by omega) hM.size fun m2 a5 k5 b5 o5 hO5 f2 F2 => ⟨_, _, _, _, rfl, ?_⟩
  have hM22 := hM2.fr f2
  refine read_of hG F2 hM22.row hM2.st hM2.blk.is (by omega) hM.size fun m3 a6 k6 b6 o6 hO6 f3 F3 => ⟨_, _, _, _, rfl, ifB_t (ifB_t ?_)⟩
  have hM33 := hM22.fr f3
  have hS5 := (hO5.slc hM.want.byte).sp (f3 fun _ _ => False) fun _ _ => id
  refine same_true hS5 hM33.want (by omega) rfl ⟨_, rfl, ifB_t ?_⟩
  exact same_true (hO6.slc hM.want.byte) hM33.want (by omega) rfl ⟨_, rfl, hk m3 F3⟩
theorem twoWays_lifted (os : Os) (started : os.Started) (H : Type) (enc : TypeId × Value → H) :
    ReturnsInHanded {} Tryz.checked os f_laws_FnTwoWays .any (fun w args => (Rows.fnTwoWaysSpec.pre enc Tryz.prog (fnAt f_laws_FnTwoWays) [] false w args ∧ laidMetH Tryz.prog laidL w) ∧ sizedMet enc Tryz.prog (fnAt f_laws_FnTwoWays) (OpenSpec.ofChange Rows.fnTwoWaysSpec) false w args)
      (Rows.fnTwoWaysSpec.post enc Tryz.prog (fnAt f_laws_FnTwoWays) false true false false) := by
  refine returnsInHanded_of_change_and (C := Tryz.checked) (X := fun w _ => laidMetH Tryz.prog laidL w) (fun _ _ _ hh h => h.of_heap hh) own started (by kernel_rfl) (by kernel_rfl)
    (ChangeSpec.witness_shaped (enc := enc) (C := Tryz.checked) (os := os) (X := fun w _ => laidMetH Tryz.prog laidL w) false (World.doorLaid Tryz.prog 400 os) #[.slice none 0 0] 8 rfl (shaped os _) (by kernel_rfl) (by kernel_rfl) (by kernel_rfl) (door_met os _)) ?_
  intro W base args ds gs before hval0 hW _ _ hL _
  have hp : (fnAt f_laws_FnTwoWays).params = #[t_s_uint8] := by kernel_rfl
  have hval : ∀ (j : Nat) t v, (fnAt f_laws_FnTwoWays).params[j]? = some t → args[j]? = some v → Value.okWide Tryz.prog W .any base t v := hval0
  have hW' := hW
  obtain ⟨p, q, hA, hV, _, _, _⟩ := hW
  rw [hp] at hA hval
  obtain ⟨v0, d0, rfl, rfl, h0⟩ := trodAll_one hA
  obtain ⟨a0, l0, k0, b0, o0, s0, rfl, hS0⟩ := bytes_arg (hval 0 _ v0 rfl rfl) h0
  obtain ⟨E, hG⟩ := glob_laid hL
  obtain ⟨g, rfl⟩ : ∃ g, gs = [g] := by
    match gs, hV with
    | [g], _ => exact ⟨g, rfl⟩
    | _ :: _ :: _, ⟨_, _, _, _, _, _, _, _, _, _, h, _⟩ => exact h.elim
  refine (calls_of (twoWays_walk hS0 hG fun m' hf => ⟨rfl, hf⟩)).mono fun e W' ⟨he, hs, hf⟩ => ⟨_, he, ?_⟩
  exact law_post hW' hs hf (tb := t_bool) (by kernel_rfl) (by kernel_rfl) rfl readable (by kernel_rfl) codeVar
theorem twoWays_said : Rows.FnTwoWaysSaid :=
  OpenClaim.holds_of_wide f_laws_FnTwoWays (fnAt f_laws_FnTwoWays) rfl rfl rfl rfl rfl rfl rfl ⟨rfl, rfl, rfl, rfl, rfl⟩ rfl rfl rfl rfl rfl (by kernel_rfl) (by kernel_rfl) (by kernel_rfl)
    (of_decide_eq_true (by kernel_rfl)) (by unfold Func.isWrapper; rw [if_neg (of_decide_eq_false (by kernel_rfl))]; exact ⟨rfl, rfl⟩)
    (fun os started H enc _ => twoWays_lifted os started H enc)
end Go.Proofs.YthmddkghlmgpaaaGreatDoor

namespace Go.Proofs.YthmddkghlmgpaaaGreatDoor
open Go Go.M
set_option maxRecDepth 100000
theorem twoWays_card : Rows.FnTwoWaysCardSaid :=
  Claim7.holds_tied_plain_at .later [] [.handle, .sentinel, .sentinel, .sentinel, .data] true Rows.fnTwoWaysCard.stood.harness true
    twoWays_said (fun _ h => by cases h) (by kernel_rfl) (fun _ h => by cases h) fnTwoWays_row_tie rfl ⟨rfl, rfl⟩ (by kernel_rfl) rfl
    (fun f fn hf hfn => by
      obtain rfl : f = f_laws_FnTwoWays := Option.some.inj ((show Tryz.prog.funcNamed "loop.example/pub-inflation/laws.FnTwoWays" = some f_laws_FnTwoWays by kernel_rfl).symm.trans hf) |>.symm
      obtain rfl : fn = fnAt f_laws_FnTwoWays := (Option.some.inj ((show Tryz.prog.funcs[f_laws_FnTwoWays]? = some (fnAt f_laws_FnTwoWays) by kernel_rfl).symm.trans hfn)).symm
      exact ⟨by kernel_rfl, fun j t ht => by
        rw [show (fnAt f_laws_FnTwoWays).params = #[t_s_uint8] by kernel_rfl] at ht
        have h3 : t = t_s_uint8 := by
          rcases j with _ | j
          · simpa using ht.symm
          · simp at ht
        subst h3
        exact (show Tryz.prog.wantsStandIn t_s_uint8 = false by kernel_rfl)⟩)
    (by kernel_rfl)
end Go.Proofs.YthmddkghlmgpaaaGreatDoor
