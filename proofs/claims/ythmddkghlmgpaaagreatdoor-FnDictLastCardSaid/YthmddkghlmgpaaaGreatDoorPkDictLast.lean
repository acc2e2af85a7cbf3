/- FnDictLast: of a long dictionary the last 32768 bytes count: the tied card. For every slice of bytes. The package variables are as the program's text lays them. -/
import Derived.Test.YthmddkghlmgpaaaGreatDoorPke
import Derived.Test.YthmddkghlmgpaaaGreatDoorPkx
import Derived.Test.YthmddkghlmgpaaaGreatDoorPkr
import Derived.Test.YthmddkghlmgpaaaGreatDoorPkzf
import Derived.Test.YthmddkghlmgpaaaGreatDoorCards
import Derived.SevenTiedAt
set_option maxRecDepth 100000
namespace Go.M
open Go Go.Proofs
def L_laws_FnDictLast : List Nat := [0, 1, 4, 5, 6, 7, 8, 9, 17, 25, 34]
def r_laws_FnDictLast : List ResultVar := [.tmp 4]
noncomputable def c_laws_FnDictLast : Code := (Go.Proofs.Tryz.f4.body).getD .skip
theorem b_laws_FnDictLast : Go.Proofs.Tryz.f4.body = some c_laws_FnDictLast := by kernel_rfl
theorem e_laws_FnDictLast (a1 : Option Addr) (l2 : Nat) (k3 : Nat) (a4 : Option Addr) (l5 : Nat) (k6 : Nat) (m : Mem) (R : Value → Mem → Prop)
    (h : ifB (decide ((l2 : Int) > 2147483647)) (R (.bool true) m) (ifB (decide ((l5 : Int) > 2147483647)) (R (.bool true) m) (ifB (decide ((l2 : Int) > 16777216)) (R (.bool true) m) (ifB (decide ((l5 : Int) > 16777216)) (R (.bool true) m) (CallM PP f_spec_DictOf #[.slice a1 l2 k3] m fun v16 m17 => ∃ a7 l8, ∃ k9 a10, ∃ l11 k12, ∃ a13 l14 k15, v16 = .tuple #[.slice a7 l8 k9, .slice a10 l11 k12, .slice a13 l14 k15] ∧ ifB (decide ((l8 : Int) < 32768)) (R (.bool true) m17) (SemW PP (sv (Instr.buildSlice t_s_uint8 0 #[])) m17 (NextW PP fun v21 m22 => ∃ a18 l19 k20, v21 = .slice a18 l19 k20 ∧ SemW PP (builtin .append #[t_s_uint8, t_s_uint8] t_s_uint8 #[false, false] #[.slice a18 l19 k20, .slice a4 l5 k6]) m22 (NextW PP fun v26 m27 => ∃ a23 l24 k25, v26 = .slice a23 l24 k25 ∧ SemW PP (builtin .append #[t_s_uint8, t_s_uint8] t_s_uint8 #[false, false] #[.slice a23 l24 k25, .slice a7 l8 k9]) m27 (NextW PP fun v31 m32 => ∃ a28 l29 k30, v31 = .slice a28 l29 k30 ∧ CallM PP f_impl_AllDict #[.slice a10 l11 k12, .slice a28 l29 k30, .int .i64 131072] m32 fun v37 m38 => ∃ a33 l34, ∃ k35 x36, v37 = .tuple #[.slice a33 l34 k35, .int .i64 x36] ∧ ifB (x36 == 1) (CallM PP f_laws_same #[.slice a33 l34 k35, .slice a13 l14 k15] m38 fun v40 m41 => ∃ b39, v40 = .bool b39 ∧ R (.bool b39) m41) (R (.bool false) m38)))))))))) :
    CallM PP f_laws_FnDictLast #[.slice a1 l2 k3, .slice a4 l5 k6] m R :=
  callM_enter ffOk mixedOk 52 L_laws_FnDictLast Tryz.func4 b_laws_FnDictLast Tryz.ntmps4 (by simp) (Eq.mpr (by kernel_rfl) h)
end Go.M

namespace Go.Proofs.YthmddkghlmgpaaaGreatDoor
open Go Go.M Go.ChangeShapes Go.WideShapes Go.ChangeAt Go.RowKit
set_option maxRecDepth 100000
theorem dictLast_walk {E : Errs} {d : List Nat} {m : Mem} {a : Option Addr} {l k b o : Nat} (hS : SlcB m a l k b o d) {tl : List Nat} {a2 : Option Addr} {l2 k2 b2 o2 : Nat} (hS2 : SlcB m a2 l2 k2 b2 o2 tl) (hG : Glob E m) {R : Value → Mem → Prop} (hk : ∀ m', (∀ S, Fr S m m') → R (.bool true) m') :
    CallM PP f_laws_FnDictLast #[.slice a l k, .slice a2 l2 k2] m R := by
  refine e_laws_FnDictLast a l k a2 l2 k2 m R ?_
  by_cases h1 : (l : Int) > 2147483647
  · rw [decide_eq_true h1]; exact ifB_t (hk m fun S => Fr.refl S m)
  rw [decide_eq_false h1]
  refine ifB_f ?_
  by_cases h2 : (l2 : Int) > 2147483647
  · rw [decide_eq_true h2]; exact ifB_t (hk m fun S => Fr.refl S m)
  rw [decide_eq_false h2]
  refine ifB_f ?_
  by_cases h3 : (l : Int) > 16777216
  · rw [decide_eq_true h3]; exact ifB_t (hk m fun S => Fr.refl S m)
  rw [decide_eq_false h3]
  refine ifB_f ?_
  by_cases h4 : (l2 : Int) > 16777216
  · rw [decide_eq_true h4]; exact ifB_t (hk m fun S => Fr.refl S m)
  rw [decide_eq_false h4]
  refine ifB_f ?_
  refine DictOf_spec hS fun m1 aD lD kD bD oD D a1 l1 k1 b1 o1 src ch a4 l4 k4 b4 o4 T hM F1 => ⟨_, _, _, _, _, _, _, _, _, rfl, ?_⟩
  have hG1 := hG.fr (F1 fun _ _ => False) (by intro i j h; exact h.elim)
  have q1 := hM.st.len
  have q2 := hM.len
  have q3 := hM.row.len
  have q4 := hM.dict.len
  have q5 := hM.dsize
  have q6 := hM.size
  unfold ifB
  split
  · exact hk m1 F1
  rename_i h5
  have h5 := of_decide_eq_false h5
  have hT1 := hS2.sp (F1 fun _ _ => False) fun _ _ => id
  have q7 := hS2.len
  refine joined_W hT1 hM.dict (by omega) (by omega) fun m2 a5 k5 b5 o5 hS5 f2 => ?_
  have hM2 := hM.fr f2
  have F2 : ∀ S, Fr S m m2 := fun S => (F1 S).trans (f2 S)
  have hr := hM.run
  rw [← last32_tail (t := tl) (by omega)] at hr
  refine AllDict_short0 hM2.row hS5 (hG.fr (F2 fun _ _ => False) (by intro i j h; exact h.elim)) (by omega) (by omega) hr (by omega) fun m3 a6 k6 b6 o6 hO6 _ f3 => ⟨_, _, _, _, rfl, ?_⟩
  show CallM PP f_laws_same #[.slice a6 T.length k6, .slice a4 l4 k4] m3 _
  have hM3 := hM2.fr f3
  exact same_true (hO6.slc hM.want.byte) hM3.want (by have := hM.want.len; omega) rfl ⟨_, rfl, hk m3 fun S => (F2 S).trans (f3 S)⟩
theorem dictLast_lifted (os : Os) (started : os.Started) (H : Type) (enc : TypeId × Value → H) :
    ReturnsInHanded {} Tryz.checked os f_laws_FnDictLast .any (fun w args => (Rows.fnDictLastSpec.pre enc Tryz.prog (fnAt f_laws_FnDictLast) [] false w args ∧ laidMetH Tryz.prog laidL w) ∧ sizedMet enc Tryz.prog (fnAt f_laws_FnDictLast) (OpenSpec.ofChange Rows.fnDictLastSpec) false w args)
      (Rows.fnDictLastSpec.post enc Tryz.prog (fnAt f_laws_FnDictLast) false true false false) := by
  refine returnsInHanded_of_change_and (C := Tryz.checked) (X := fun w _ => laidMetH Tryz.prog laidL w) (fun _ _ _ hh h => h.of_heap hh) own started (by kernel_rfl) (by kernel_rfl)
    (ChangeSpec.witness_shaped (enc := enc) (C := Tryz.checked) (os := os) (X := fun w _ => laidMetH Tryz.prog laidL w) false (World.doorLaid Tryz.prog 400 os) #[.slice none 0 0, .slice none 0 0] 8 rfl (shaped os _) (by kernel_rfl) (by kernel_rfl) (by kernel_rfl) (door_met os _)) ?_
  intro W base args ds gs before hval0 hW _ _ hL _
  have hp : (fnAt f_laws_FnDictLast).params = #[t_s_uint8, t_s_uint8] := by kernel_rfl
  have hval : ∀ (j : Nat) t v, (fnAt f_laws_FnDictLast).params[j]? = some t → args[j]? = some v → Value.okWide Tryz.prog W .any base t v := hval0
  have hW' := hW
  obtain ⟨p, q, hA, hV, _, _, _⟩ := hW
  rw [hp] at hA hval
  obtain ⟨v0, v1, d0, d1, p0, p1, rfl, rfl, rfl, h0, h1⟩ := trodAll_two hA
  obtain ⟨a0, l0, k0, b0, o0, s0, rfl, hS0⟩ := bytes_arg (hval 0 _ v0 rfl rfl) h0
  obtain ⟨a1, l1, k1, b1, o1, s1, rfl, hS1⟩ := bytes_arg (hval 1 _ v1 rfl rfl) h1
  obtain ⟨E, hG⟩ := glob_laid hL
  obtain ⟨g, rfl⟩ : ∃ g, gs = [g] := by
    match gs, hV with
    | [g], _ => exact ⟨g, rfl⟩
    | _ :: _ :: _, ⟨_, _, _, _, _, _, _, _, _, _, h, _⟩ => exact h.elim
  refine (calls_of (dictLast_walk hS0 hS1 hG fun m' hf => ⟨rfl, hf⟩)).mono fun e W' ⟨he, hs, hf⟩ => ⟨_, he, ?_⟩
  exact law_post hW' hs hf (tb := t_bool) (by kernel_rfl) (by kernel_rfl) rfl readable (by kernel_rfl) codeVar
theorem dictLast_said : Rows.FnDictLastSaid :=
  OpenClaim.holds_of_wide f_laws_FnDictLast (fnAt f_laws_FnDictLast) rfl rfl rfl rfl rfl rfl rfl ⟨rfl, rfl, rfl, rfl, rfl⟩ rfl rfl rfl rfl rfl (by kernel_rfl) (by kernel_rfl) (by kernel_rfl)
    (of_decide_eq_true (by kernel_rfl)) (by unfold Func.isWrapper; rw [if_neg (of_decide_eq_false (by kernel_rfl))]; exact ⟨rfl, rfl⟩)
    (fun os started H enc _ => dictLast_lifted os started H enc)
end Go.Proofs.YthmddkghlmgpaaaGreatDoor

namespace Go.Proofs.YthmddkghlmgpaaaGreatDoor
open Go Go.M
set_option maxRecDepth 100000
theorem dictLast_card : Rows.FnDictLastCardSaid :=
  Claim7.holds_tied_plain_at .later [] [.handle, .sentinel, .sentinel, .sentinel, .data] true Rows.fnDictLastCard.stood.harness true
    dictLast_said (fun _ h => by cases h) (by kernel_rfl) (fun _ h => by cases h) fnDictLast_row_tie rfl ⟨rfl, rfl⟩ (by kernel_rfl) rfl
    (fun f fn hf hfn => by
      obtain rfl : f = f_laws_FnDictLast := Option.some.inj ((show Tryz.prog.funcNamed "loop.example/pub-inflation/laws.FnDictLast" = some f_laws_FnDictLast by kernel_rfl).symm.trans hf) |>.symm
      obtain rfl : fn = fnAt f_laws_FnDictLast := (Option.some.inj ((show Tryz.prog.funcs[f_laws_FnDictLast]? = some (fnAt f_laws_FnDictLast) by kernel_rfl).symm.trans hfn)).symm
      exact ⟨by kernel_rfl, fun j t ht => by
        rw [show (fnAt f_laws_FnDictLast).params = #[t_s_uint8, t_s_uint8] by kernel_rfl] at ht
        have h3 : t = t_s_uint8 := by
          have hm : t ∈ [t_s_uint8, t_s_uint8] := List.mem_of_getElem? (by simpa using ht)
          simp only [List.mem_cons, List.not_mem_nil, or_false] at hm
          rcases hm with rfl | rfl <;> simp
        rcases h3 with rfl
        · exact (show Tryz.prog.wantsStandIn t_s_uint8 = false by kernel_rfl)⟩)
    (by kernel_rfl)
end Go.Proofs.YthmddkghlmgpaaaGreatDoor
