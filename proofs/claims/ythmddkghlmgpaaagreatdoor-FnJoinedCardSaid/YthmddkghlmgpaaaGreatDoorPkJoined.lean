/- FnJoined: a stream without a final block and one behind it give what both give: the tied card. For every slice of bytes. The package variables are as the program's text lays them. -/
import Derived.Test.YthmddkghlmgpaaaGreatDoorPke
import Derived.Test.YthmddkghlmgpaaaGreatDoorPkx
import Derived.Test.YthmddkghlmgpaaaGreatDoorPkr
import Derived.Test.YthmddkghlmgpaaaGreatDoorPkzf
import Derived.Test.YthmddkghlmgpaaaGreatDoorPkzc
import Derived.Test.YthmddkghlmgpaaaGreatDoorCards
import Derived.SevenTiedAt
set_option maxRecDepth 100000
namespace Go.M
open Go Go.Proofs
def L_laws_FnJoined : List Nat := [0, 1, 4, 5, 6, 7, 8, 9, 10, 18, 26]
def r_laws_FnJoined : List ResultVar := [.tmp 4]
noncomputable def c_laws_FnJoined : Code := (Go.Proofs.Tryz.f6.body).getD .skip
theorem b_laws_FnJoined : Go.Proofs.Tryz.f6.body = some c_laws_FnJoined := by kernel_rfl
theorem e_laws_FnJoined (a1 : Option Addr) (l2 : Nat) (k3 : Nat) (a4 : Option Addr) (l5 : Nat) (k6 : Nat) (m : Mem) (R : Value → Mem → Prop)
    (h : ifB (decide ((l2 : Int) > 2147483647)) (R (.bool true) m) (ifB (decide ((l5 : Int) > 2147483647)) (R (.bool true) m) (ifB (decide ((l2 : Int) > 16777216)) (R (.bool true) m) (ifB (decide ((l5 : Int) > 16777216)) (R (.bool true) m) (CallM PP f_spec_SplitOf #[.slice a1 l2 k3] m fun v13 m14 => ∃ a7 l8, ∃ k9 a10, ∃ l11 k12, v13 = .tuple #[.slice a7 l8 k9, .slice a10 l11 k12] ∧ CallM PP f_spec_MixedOf #[.slice a4 l5 k6] m14 fun v21 m22 => ∃ a15 l16, ∃ k17 a18, ∃ l19 k20, v21 = .tuple #[.slice a15 l16 k17, .slice a18 l19 k20] ∧ SemW PP (sv (Instr.buildSlice t_s_uint8 0 #[])) m22 (NextW PP fun v26 m27 => ∃ a23 l24 k25, v26 = .slice a23 l24 k25 ∧ SemW PP (builtin .append #[t_s_uint8, t_s_uint8] t_s_uint8 #[false, false] #[.slice a23 l24 k25, .slice a7 l8 k9]) m27 (NextW PP fun v31 m32 => ∃ a28 l29 k30, v31 = .slice a28 l29 k30 ∧ SemW PP (builtin .append #[t_s_uint8, t_s_uint8] t_s_uint8 #[false, false] #[.slice a28 l29 k30, .slice a15 l16 k17]) m32 (NextW PP fun v36 m37 => ∃ a33 l34 k35, v36 = .slice a33 l34 k35 ∧ CallM PP f_impl_All #[.slice a33 l34 k35, .int .i64 131072] m37 fun v42 m43 => ∃ a38 l39, ∃ k40 x41, v42 = .tuple #[.slice a38 l39 k40, .int .i64 x41] ∧ ifB (x41 == 1) (SemW PP (sv (Instr.buildSlice t_s_uint8 0 #[])) m43 (NextW PP fun v47 m48 => ∃ a44 l45 k46, v47 = .slice a44 l45 k46 ∧ SemW PP (builtin .append #[t_s_uint8, t_s_uint8] t_s_uint8 #[false, false] #[.slice a44 l45 k46, .slice a10 l11 k12]) m48 (NextW PP fun v52 m53 => ∃ a49 l50 k51, v52 = .slice a49 l50 k51 ∧ SemW PP (builtin .append #[t_s_uint8, t_s_uint8] t_s_uint8 #[false, false] #[.slice a49 l50 k51, .slice a18 l19 k20]) m53 (NextW PP fun v57 m58 => ∃ a54 l55 k56, v57 = .slice a54 l55 k56 ∧ CallM PP f_laws_same #[.slice a38 l39 k40, .slice a54 l55 k56] m58 fun v60 m61 => ∃ b59, v60 = .bool b59 ∧ R (.bool b59) m61)))) (R (.bool false) m43))))))))) :
    CallM PP f_laws_FnJoined #[.slice a1 l2 k3, .slice a4 l5 k6] m R :=
  callM_enter ffOk mixedOk 57 L_laws_FnJoined Tryz.func6 b_laws_FnJoined Tryz.ntmps6 (by simp) (Eq.mpr (by kernel_rfl) h)
end Go.M

namespace Go.Proofs.YthmddkghlmgpaaaGreatDoor
open Go Go.M Go.ChangeShapes Go.WideShapes Go.ChangeAt Go.RowKit
set_option maxRecDepth 100000
theorem joined_walk {E : Errs} {d : List Nat} {m : Mem} {a : Option Addr} {l k b o : Nat} (hS : SlcB m a l k b o d) {tl : List Nat} {a2 : Option Addr} {l2 k2 b2 o2 : Nat} (hS2 : SlcB m a2 l2 k2 b2 o2 tl) (hG : Glob E m) {R : Value → Mem → Prop} (hk : ∀ m', (∀ S, Fr S m m') → R (.bool true) m') :
    CallM PP f_laws_FnJoined #[.slice a l k, .slice a2 l2 k2] m R := by
  refine e_laws_FnJoined a l k a2 l2 k2 m R ?_
  by_cases h1 : (l : Int) > 2147483647
  · rw [decide_eq_true h1]; exact ifB_t (hk m fun S => Fr.refl S m)
  rw [decide_eq_false h1]
  refine ifB_f ?_
  by_cases h2 : (l2 : Int) > 2147483647
  · rw [decide_eq_true h2]; exact ifB_t (hk m fun S => Fr.refl S m)
  rw [decide_eq_false h2]
  refine ifB_f ?_
  by_cases h3 : (l : Int) > 16777216
  · rw [decide_eq_true h3]; exact ifB_t (hk m fun S => Fr.refl S m)
  rw [decide_eq_false h3]
  refine ifB_f ?_
  by_cases h4 : (l2 : Int) > 16777216
  · rw [decide_eq_true h4]; exact ifB_t (hk m fun S => Fr.refl S m)
  rw [decide_eq_false h4]
  refine ifB_f ?_
  refine SplitOf_spec hS fun m1 a1 l1 k1 b1 o1 src ch a4 l4 k4 b4 o4 H hM h8 F1 => ⟨_, _, _, _, _, _, rfl, ?_⟩
  refine MixedOf_spec (hS2.sp (F1 fun _ _ => False) fun _ _ => id) fun m2 a5 l5 k5 b5 o5 src2 ch2 a6 l6 k6 b6 o6 H2 hM2 f2 => ⟨_, _, _, _, _, _, rfl, ?_⟩
  have F12 : ∀ S, Fr S m1 m2 := fun S => f2.mono fun _ _ h => h.elim
  have F2 : ∀ S, Fr S m m2 := fun S => (F1 S).trans (F12 S)
  have hM1 := hM.fr F12
  have q1 := hM.st.len
  have q2 := hM2.st.len
  have q3 := hM.len
  have q4 := hM2.len
  have q5 := hM.row.len
  have q6 := hM2.row.len
  have q7 := hM.want.len
  have q8 := hM2.want.len
  have q9 := hM.small
  have q10 := hM2.small
  have hst := hM.st.join hM2.st h8
  have hB := (hM.blk.join hM2.blk h8).is
  have hr := hB.run (tail := []) hst.byte hst.num hst.len
  rw [List.append_nil] at hr
  have hHl : (H ++ H2).length = H.length + H2.length := List.length_append ..
  refine joined_W hM1.row hM2.row (by omega) (by omega) fun m3 a7 k7 b7 o7 hS7 f3 => ?_
  have F3 : ∀ S, Fr S m m3 := fun S => (F2 S).trans (f3 S)
  have hM3 := hM1.fr f3
  have hM32 := hM2.fr f3
  refine All_short hS7 (hG.fr (F3 fun _ _ => False) (by intro i j h; exact h.elim)) (by omega) hr (by omega) fun m4 a8 k8 b8 o8 hO8 _ f4 => ⟨_, _, _, _, rfl, ifB_t ?_⟩
  have hM4 := hM3.fr f4
  have hM42 := hM32.fr f4
  refine joined_W hM4.want hM42.want (by omega) (by omega) fun m5 a9 k9 b9 o9 hS9 f5 => ?_
  exact same_true ((hO8.slc (fun v hv => by
    rcases List.mem_append.1 hv with hv | hv
    · exact hM.want.byte v hv
    · exact hM2.want.byte v hv)).sp (f5 fun _ _ => False) fun _ _ => id) hS9 (by omega) rfl ⟨_, rfl, hk m5 fun S => ((F3 S).trans (f4 S)).trans (f5 S)⟩
theorem joined_lifted (os : Os) (started : os.Started) (H : Type) (enc : TypeId × Value → H) :
    ReturnsInHanded {} Tryz.checked os f_laws_FnJoined .any (fun w args => (Rows.fnJoinedSpec.pre enc Tryz.prog (fnAt f_laws_FnJoined) [] false w args ∧ laidMetH Tryz.prog laidL w) ∧ sizedMet enc Tryz.prog (fnAt f_laws_FnJoined) (OpenSpec.ofChange Rows.fnJoinedSpec) false w args)
      (Rows.fnJoinedSpec.post enc Tryz.prog (fnAt f_laws_FnJoined) false true false false) := by
  refine returnsInHanded_of_change_and (C := Tryz.checked) (X := fun w _ => laidMetH Tryz.prog laidL w) (fun _ _ _ hh h => h.of_heap hh) own started (by kernel_rfl) (by kernel_rfl)
    (ChangeSpec.witness_shaped (enc := enc) (C := Tryz.checked) (os := os) (X := fun w _ => laidMetH Tryz.prog laidL w) false (World.doorLaid Tryz.prog 400 os) #[.slice none 0 0, .slice none 0 0] 8 rfl (shaped os _) (by kernel_rfl) (by kernel_rfl) (by kernel_rfl) (door_met os _)) ?_
  intro W base args ds gs before hval0 hW _ _ hL _
  have hp : (fnAt f_laws_FnJoined).params = #[t_s_uint8, t_s_uint8] := by kernel_rfl
  have hval : ∀ (j : Nat) t v, (fnAt f_laws_FnJoined).params[j]? = some t → args[j]? = some v → Value.okWide Tryz.prog W .any base t v := hval0
  have hW' := hW
  obtain ⟨p, q, hA, hV, _, _, _⟩ := hW
  rw [hp] at hA hval
  obtain ⟨v0, v1, d0, d1, p0, p1, rfl, rfl, rfl, h0, h1⟩ := trodAll_two hA
  obtain ⟨a0, l0, k0, b0, o0, s0, rfl, hS0⟩ := bytes_arg (hval 0 _ v0 rfl rfl) h0
  obtain ⟨a1, l1, k1, b1, o1, s1, rfl, hS1⟩ := bytes_arg (hval 1 _ v1 rfl rfl) h1
  obtain ⟨E, hG⟩ := glob_laid hL
  obtain ⟨g, rfl⟩ : ∃ g, gs = [g] := by
    match gs, hV with
    | [g], _ => exact ⟨g, rfl⟩
    | _ :: _ :: _, ⟨_, _, _, _, _, _, _, _, _, _, h, _⟩ => exact h.elim
  refine (calls_of (joined_walk hS0 hS1 hG fun m' hf => ⟨rfl, hf⟩)).mono fun e W' ⟨he, hs, hf⟩ => ⟨_, he, ?_⟩
  exact law_post hW' hs hf (tb := t_bool) (by kernel_rfl) (by kernel_rfl) rfl readable (by kernel_rfl) codeVar
theorem joined_said : Rows.FnJoinedSaid :=
  OpenClaim.holds_of_wide f_laws_FnJoined (fnAt f_laws_FnJoined) rfl rfl rfl rfl rfl rfl rfl ⟨rfl, rfl, rfl, rfl, rfl⟩ rfl rfl rfl rfl rfl (by kernel_rfl) (by kernel_rfl) (by kernel_rfl)
    (of_decide_eq_true (by kernel_rfl)) (by unfold Func.isWrapper; rw [if_neg (of_decide_eq_false (by kernel_rfl))]; exact ⟨rfl, rfl⟩)
    (fun os started H enc _ => joined_lifted os started H enc)
end Go.Proofs.YthmddkghlmgpaaaGreatDoor

namespace Go.Proofs.YthmddkghlmgpaaaGreatDoor
open Go Go.M
set_option maxRecDepth 100000
theorem joined_card : Rows.FnJoinedCardSaid :=
  Claim7.holds_tied_plain_at .later [] [.handle, .sentinel, .sentinel, .sentinel, .data] true Rows.fnJoinedCard.stood.harness true
    joined_said (fun _ h => by cases h) (by kernel_rfl) (fun _ h => by cases h) fnJoined_row_tie rfl ⟨rfl, rfl⟩ (by kernel_rfl) rfl
    (fun f fn hf hfn => by
      obtain rfl : f = f_laws_FnJoined := Option.some.inj ((show Tryz.prog.funcNamed "loop.example/pub-inflation/laws.FnJoined" = some f_laws_FnJoined by kernel_rfl).symm.trans hf) |>.symm
      obtain rfl : fn = fnAt f_laws_FnJoined := (Option.some.inj ((show Tryz.prog.funcs[f_laws_FnJoined]? = some (fnAt f_laws_FnJoined) by kernel_rfl).symm.trans hfn)).symm
      exact ⟨by kernel_rfl, fun j t ht => by
        rw [show (fnAt f_laws_FnJoined).params = #[t_s_uint8, t_s_uint8] by kernel_rfl] at ht
        have h3 : t = t_s_uint8 := by
          have hm : t ∈ [t_s_uint8, t_s_uint8] := List.mem_of_getElem? (by simpa using ht)
          simp only [List.mem_cons, List.not_mem_nil, or_false] at hm
          rcases hm with rfl | rfl <;> simp
        rcases h3 with rfl
        · exact (show Tryz.prog.wantsStandIn t_s_uint8 = false by kernel_rfl)⟩)
    (by kernel_rfl)
end Go.Proofs.YthmddkghlmgpaaaGreatDoor
