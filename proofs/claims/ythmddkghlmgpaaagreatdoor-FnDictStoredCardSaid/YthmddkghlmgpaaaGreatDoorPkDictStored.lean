/- FnDictStored: a dictionary is nothing to blocks that do not reach into it: the tied card. For every slice of bytes. The package variables are as the program's text lays them. -/
import Derived.Test.YthmddkghlmgpaaaGreatDoorPke
import Derived.Test.YthmddkghlmgpaaaGreatDoorPkx
import Derived.Test.YthmddkghlmgpaaaGreatDoorPkr
import Derived.Test.YthmddkghlmgpaaaGreatDoorPkzf
import Derived.Test.YthmddkghlmgpaaaGreatDoorCards
import Derived.SevenTiedAt
set_option maxRecDepth 100000
namespace Go.M
open Go Go.Proofs
def L_laws_FnDictStored : List Nat := [0, 1, 4, 5, 6, 7, 8, 16, 24]
def r_laws_FnDictStored : List ResultVar := [.tmp 4]
noncomputable def c_laws_FnDictStored : Code := (Go.Proofs.Tryz.f5.body).getD .skip
theorem b_laws_FnDictStored : Go.Proofs.Tryz.f5.body = some c_laws_FnDictStored := by kernel_rfl
theorem e_laws_FnDictStored (a1 : Option Addr) (l2 : Nat) (k3 : Nat) (a4 : Option Addr) (l5 : Nat) (k6 : Nat) (m : Mem) (R : Value → Mem → Prop)
    (h : ifB (decide ((l2 : Int) > 2147483647)) (R (.bool true) m) (ifB (decide ((l5 : Int) > 2147483647)) (R (.bool true) m) (ifB (decide ((l2 : Int) > 16777216)) (R (.bool true) m) (ifB (decide ((l5 : Int) > 16777216)) (R (.bool true) m) (CallM PP f_spec_LiteralsOf #[.slice a1 l2 k3] m fun v13 m14 => ∃ a7 l8, ∃ k9 a10, ∃ l11 k12, v13 = .tuple #[.slice a7 l8 k9, .slice a10 l11 k12] ∧ CallM PP f_impl_AllDict #[.slice a7 l8 k9, .slice a4 l5 k6, .int .i64 131072] m14 fun v19 m20 => ∃ a15 l16, ∃ k17 x18, v19 = .tuple #[.slice a15 l16 k17, .int .i64 x18] ∧ ifB (x18 == 1) (CallM PP f_laws_same #[.slice a15 l16 k17, .slice a10 l11 k12] m20 fun v22 m23 => ∃ b21, v22 = .bool b21 ∧ R (.bool b21) m23) (R (.bool false) m20)))))) :
    CallM PP f_laws_FnDictStored #[.slice a1 l2 k3, .slice a4 l5 k6] m R :=
  callM_enter ffOk mixedOk 43 L_laws_FnDictStored Tryz.func5 b_laws_FnDictStored Tryz.ntmps5 (by simp) (Eq.mpr (by kernel_rfl) h)
end Go.M

namespace Go.Proofs.YthmddkghlmgpaaaGreatDoor
open Go Go.M Go.ChangeShapes Go.WideShapes Go.ChangeAt Go.RowKit
set_option maxRecDepth 100000
theorem dictStored_walk {E : Errs} {d : List Nat} {m : Mem} {a : Option Addr} {l k b o : Nat} (hS : SlcB m a l k b o d) {tl : List Nat} {a2 : Option Addr} {l2 k2 b2 o2 : Nat} (hS2 : SlcB m a2 l2 k2 b2 o2 tl) (hG : Glob E m) {R : Value → Mem → Prop} (hk : ∀ m', (∀ S, Fr S m m') → R (.bool true) m') :
    CallM PP f_laws_FnDictStored #[.slice a l k, .slice a2 l2 k2] m R := by
  refine e_laws_FnDictStored a l k a2 l2 k2 m R ?_
  by_cases h1 : (l : Int) > 2147483647
  · rw [decide_eq_true h1]; exact ifB_t (hk m fun S => Fr.refl S m)
  rw [decide_eq_false h1]
  refine ifB_f ?_
  by_cases h2 : (l2 : Int) > 2147483647
  · rw [decide_eq_true h2]; exact ifB_t (hk m fun S => Fr.refl S m)
  rw [decide_eq_false h2]
  refine ifB_f ?_
  by_cases h3 : (l : Int) > 16777216
  · rw [decide_eq_true h3]; exact ifB_t (hk m fun S => Fr.refl S m)
  rw [decide_eq_false h3]
  refine ifB_f ?_
  by_cases h4 : (l2 : Int) > 16777216
  · rw [decide_eq_true h4]; exact ifB_t (hk m fun S => Fr.refl S m)
  rw [decide_eq_false h4]
  refine ifB_f ?_
  refine LiteralsOf_spec hS fun m1 a1 l1 k1 b1 o1 src ch a4 l4 k4 b4 o4 H hM h200 hbit F1 => ⟨_, _, _, _, _, _, rfl, ?_⟩
  have hG1 := hG.fr (F1 fun _ _ => False) (by intro i j h; exact h.elim)
  have hlen := hM.st.len
  have hcl := hM.len
  have hsz := hM.size
  have hl1 := hM.row.len
  have hl4 := hM.want.len
  have hT1 := hS2.sp (F1 fun _ _ => False) fun _ _ => id
  have q7 := hS2.len
  have hB := hM.blk 0 (last32 tl) rfl
  rw [List.append_nil] at hB
  have hr := hB.run (tail := []) hM.st.byte hM.st.num hM.st.len
  rw [List.append_nil] at hr
  refine AllDict_short0 hM.row hT1 hG1 (by omega) (by omega) hr (by omega) fun m2 a6 k6 b6 o6 hO6 _ f2 => ⟨_, _, _, _, rfl, ifB_t ?_⟩
  have hM2 := hM.fr f2
  exact same_true (hO6.slc hM.want.byte) hM2.want (by omega) rfl ⟨_, rfl, hk m2 fun S => (F1 S).trans (f2 S)⟩
theorem dictStored_lifted (os : Os) (started : os.Started) (H : Type) (enc : TypeId × Value → H) :
    ReturnsInHanded {} Tryz.checked os f_laws_FnDictStored .any (fun w args => (Rows.fnDictStoredSpec.pre enc Tryz.prog (fnAt f_laws_FnDictStored) [] false w args ∧ laidMetH Tryz.prog laidL w) ∧ sizedMet enc Tryz.prog (fnAt f_laws_FnDictStored) (OpenSpec.ofChange Rows.fnDictStoredSpec) false w args)
      (Rows.fnDictStoredSpec.post enc Tryz.prog (fnAt f_laws_FnDictStored) false true false false) := by
  refine returnsInHanded_of_change_and (C := Tryz.checked) (X := fun w _ => laidMetH Tryz.prog laidL w) (fun _ _ _ hh h => h.of_heap hh) own started (by kernel_rfl) (by kernel_rfl)
    (ChangeSpec.witness_shaped (enc := enc) (C := Tryz.checked) (os := os) (X := fun w _ => laidMetH Tryz.prog laidL w) false (World.doorLaid Tryz.prog 400 os) #[.slice none 0 0, .slice none 0 0] 8 rfl (shaped os _) (by kernel_rfl) (by kernel_rfl) (by kernel_rfl) (door_met os _)) ?_
  intro W base args ds gs before hval0 hW _ _ hL _
  have hp : (fnAt f_laws_FnDictStored).params = #[t_s_uint8, t_s_uint8] := by kernel_rfl
  have hval : ∀ (j : Nat) t v, (fnAt f_laws_FnDictStored).params[j]? = some t → args[j]? = some v → Value.okWide Tryz.prog W .any base t v := hval0
  have hW' := hW
  obtain ⟨p, q, hA, hV, _, _, _⟩ := hW
  rw [hp] at hA hval
  obtain ⟨v0, v1, d0, d1, p0, p1, rfl, rfl, rfl, h0, h1⟩ := trodAll_two hA
  obtain ⟨a0, l0, k0, b0, o0, s0, rfl, hS0⟩ := bytes_arg (hval 0 _ v0 rfl rfl) h0
  obtain ⟨a1, l1, k1, b1, o1, s1, rfl, hS1⟩ := bytes_arg (hval 1 _ v1 rfl rfl) h1
  obtain ⟨E, hG⟩ := glob_laid hL
  obtain ⟨g, rfl⟩ : ∃ g, gs = [g] := by
    match gs, hV with
    | [g], _ => exact ⟨g, rfl⟩
    | _ :: _ :: _, ⟨_, _, _, _, _, _, _, _, _, _, h, _⟩ => exact h.elim
  refine (calls_of (dictStored_walk hS0 hS1 hG fun m' hf => ⟨rfl, hf⟩)).mono fun e W' ⟨he, hs, hf⟩ => ⟨_, he, ?_⟩
  exact law_post hW' hs hf (tb := t_bool) (by kernel_rfl) (by kernel_rfl) rfl readable (by kernel_rfl) codeVar
theorem dictStored_said : Rows.FnDictStoredSaid :=
  OpenClaim.holds_of_wide f_laws_FnDictStored (fnAt f_laws_FnDictStored) rfl rfl rfl rfl rfl rfl rfl ⟨rfl, rfl, rfl, rfl, rfl⟩ rfl rfl rfl rfl rfl (by kernel_rfl) (by kernel_rfl) (by kernel_rfl)
    (of_decide_eq_true (by kernel_rfl)) (by unfold Func.isWrapper; rw [if_neg (of_decide_eq_false (by kernel_rfl))]; exact ⟨rfl, rfl⟩)
    (fun os started H enc _ => dictStored_lifted os started H enc)
end Go.Proofs.YthmddkghlmgpaaaGreatDoor

namespace Go.Proofs.YthmddkghlmgpaaaGreatDoor
open Go Go.M
set_option maxRecDepth 100000
theorem dictStored_card : Rows.FnDictStoredCardSaid :=
  Claim7.holds_tied_plain_at .later [] [.handle, .sentinel, .sentinel, .sentinel, .data] true Rows.fnDictStoredCard.stood.harness true
    dictStored_said (fun _ h => by cases h) (by kernel_rfl) (fun _ h => by cases h) fnDictStored_row_tie rfl ⟨rfl, rfl⟩ (by kernel_rfl) rfl
    (fun f fn hf hfn => by
      obtain rfl : f = f_laws_FnDictStored := Option.some.inj ((show Tryz.prog.funcNamed "loop.example/pub-inflation/laws.FnDictStored" = some f_laws_FnDictStored by kernel_rfl).symm.trans hf) |>.symm
      obtain rfl : fn = fnAt f_laws_FnDictStored := (Option.some.inj ((show Tryz.prog.funcs[f_laws_FnDictStored]? = some (fnAt f_laws_FnDictStored) by kernel_rfl).symm.trans hfn)).symm
      exact ⟨by kernel_rfl, fun j t ht => by
        rw [show (fnAt f_laws_FnDictStored).params = #[t_s_uint8, t_s_uint8] by kernel_rfl] at ht
        have h3 : t = t_s_uint8 := by
          have hm : t ∈ [t_s_uint8, t_s_uint8] := List.mem_of_getElem? (by simpa using ht)
          simp only [List.mem_cons, List.not_mem_nil, or_false] at hm
          rcases hm with rfl | rfl <;> simp
        rcases h3 with rfl
        · exact (show Tryz.prog.wantsStandIn t_s_uint8 = false by kernel_rfl)⟩)
    (by kernel_rfl)
end Go.Proofs.YthmddkghlmgpaaaGreatDoor
