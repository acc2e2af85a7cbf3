/- FnTail: bytes behind the final block are left in a reader with ReadByte: the tied card. For every two slices of bytes. The package variables are as the program's text lays them. -/
import Derived.Test.YthhfbogakdechaaGreatDoorPke
import Derived.Test.YthhfbogakdechaaGreatDoorPkx
import Derived.Test.YthhfbogakdechaaGreatDoorPkr
import Derived.Test.YthhfbogakdechaaGreatDoorPkzf
import Derived.Test.YthhfbogakdechaaGreatDoorPky
import Derived.Test.YthhfbogakdechaaGreatDoorCards
import Derived.SevenTiedAt
set_option maxRecDepth 100000
namespace Go.M
open Go Go.Proofs
def L_laws_FnTail : List Nat := [0, 1, 4, 5, 7, 8, 16, 24]
def r_laws_FnTail : List ResultVar := [.tmp 4]
noncomputable def c_laws_FnTail : Code := (Go.Proofs.Tryz.f10.body).getD .skip
theorem b_laws_FnTail : Go.Proofs.Tryz.f10.body = some c_laws_FnTail := by kernel_rfl
theorem e_laws_FnTail (a1 : Option Addr) (l2 : Nat) (k3 : Nat) (a4 : Option Addr) (l5 : Nat) (k6 : Nat) (m : Mem) (R : Value → Mem → Prop)
    (h : ifB (decide ((l2 : Int) > 2147483647)) (R (.bool true) m) (ifB (decide ((l5 : Int) > 2147483647)) (R (.bool true) m) (ifB (decide ((l2 : Int) > 16777216)) (R (.bool true) m) (ifB (decide ((l5 : Int) > 16777216)) (R (.bool true) m) (CallM PP f_spec_MixedOf #[.slice a1 l2 k3] m fun v13 m14 => ∃ a7 l8, ∃ k9 a10, ∃ l11 k12, v13 = .tuple #[.slice a7 l8 k9, .slice a10 l11 k12] ∧ SemW PP (sv (Instr.buildSlice t_s_uint8 0 #[])) m14 (NextW PP fun v18 m19 => ∃ a15 l16 k17, v18 = .slice a15 l16 k17 ∧ SemW PP (builtin .append #[t_s_uint8, t_s_uint8] t_s_uint8 #[false, false] #[.slice a15 l16 k17, .slice a7 l8 k9]) m19 (NextW PP fun v23 m24 => ∃ a20 l21 k22, v23 = .slice a20 l21 k22 ∧ SemW PP (builtin .append #[t_s_uint8, t_s_uint8] t_s_uint8 #[false, false] #[.slice a20 l21 k22, .slice a4 l5 k6]) m24 (NextW PP fun v28 m29 => ∃ a25 l26 k27, v28 = .slice a25 l26 k27 ∧ CallM PP f_impl_Left #[.slice a25 l26 k27, .int .i64 131072] m29 fun v32 m33 => ∃ x30 x31, v32 = .tuple #[.int .i64 x30, .int .i64 x31] ∧ ifB (x31 == 1) (R (.bool (x30 == (l5 : Int))) m33) (R (.bool false) m33))))))))) :
    CallM PP f_laws_FnTail #[.slice a1 l2 k3, .slice a4 l5 k6] m R :=
  callM_enter ffOk mixedOk 47 L_laws_FnTail Tryz.func10 b_laws_FnTail Tryz.ntmps10 (by simp) (Eq.mpr (by kernel_rfl) h)
end Go.M

namespace Go.Proofs.YthhfbogakdechaaGreatDoor
open Go Go.M Go.ChangeShapes Go.WideShapes Go.ChangeAt Go.RowKit
set_option maxRecDepth 100000
theorem tail_walk {E : Errs} {d : List Nat} {m : Mem} {a : Option Addr} {l k b o : Nat} (hS : SlcB m a l k b o d) {tl : List Nat} {a2 : Option Addr} {l2 k2 b2 o2 : Nat} (hS2 : SlcB m a2 l2 k2 b2 o2 tl) (hG : Glob E m) {R : Value → Mem → Prop} (hk : ∀ m', (∀ S, Fr S m m') → R (.bool true) m') :
    CallM PP f_laws_FnTail #[.slice a l k, .slice a2 l2 k2] m R := by
  refine e_laws_FnTail a l k a2 l2 k2 m R ?_
  by_cases h1 : (l : Int) > 2147483647
  · rw [decide_eq_true h1]; exact ifB_t (hk m fun S => Fr.refl S m)
  rw [decide_eq_false h1]
  refine ifB_f ?_
  by_cases h2 : (l2 : Int) > 2147483647
  · rw [decide_eq_true h2]; exact ifB_t (hk m fun S => Fr.refl S m)
  rw [decide_eq_false h2]
  refine ifB_f ?_
  by_cases h3 : (l : Int) > 16777216
  · rw [decide_eq_true h3]; exact ifB_t (hk m fun S => Fr.refl S m)
  rw [decide_eq_false h3]
  refine ifB_f ?_
  by_cases h4 : (l2 : Int) > 16777216
  · rw [decide_eq_true h4]; exact ifB_t (hk m fun S => Fr.refl S m)
  rw [decide_eq_false h4]
  refine ifB_f ?_
  refine MixedOf_spec hS fun m1 a1 l1 k1 b1 o1 src ch a4 l4 k4 b4 o4 H hM f1 => ⟨_, _, _, _, _, _, rfl, ?_⟩
  have F1 : ∀ S, Fr S m m1 := fun S => f1.mono fun _ _ h => h.elim
  have hG1 := hG.fr (F1 fun _ _ => False) (by intro i j h; exact h.elim)
  have hlen := hM.st.len
  have hcl := hM.len
  have hsz := hM.size
  have hl1 := hM.row.len
  have hl4 := hM.want.len
  refine copied_W hM.row (by omega) fun m2 a5 k5 b5 o5 hO5 hb5 hb52 _ f2 => ?_
  have hT2 := (hS2.sp (F1 fun _ _ => False) fun _ _ => id).sp (f2 fun _ _ => False) fun _ _ => id
  have hl2 := hS2.len
  refine appendB_W (b2 := b2) (o2 := o2) hO5 hl2 (fun hne => hT2.at_ ?_) (fun i v hv => ?_) (by omega) fun m3 a6 k6 b6 o6 hO6 hb6 f3 _ => ⟨_, _, _, rfl, ?_⟩
  · rw [← hl2]; exact List.length_pos_iff.2 hne
  · have hi := (List.getElem?_eq_some_iff.1 hv).1
    have := hT2.data i (by omega)
    rw [List.getD_eq_getElem?_getD, hv] at this
    exact this
  have hby : ∀ v ∈ src ++ tl, v < 256 := fun v hv => by
    rcases List.mem_append.1 hv with hv | hv
    · exact hM.st.byte v hv
    · exact hS2.byte v hv
  have hS6 := hO6.slc hby
  have F3 : ∀ S, Fr S m1 m3 := fun S => ((f2 _).trans f3).old fun x y hx h => by have := h.1; omega
  have F03 : ∀ S, Fr S m m3 := fun S => (F1 S).trans (F3 S)
  have hr := hM.blk.is.run (tail := tl) hM.st.byte hM.st.num hM.st.len
  have hG3 := hG.fr (F03 fun _ _ => False) (by intro i j h; exact h.elim)
  refine Left_spec hS6 hG3 (by omega) hr hM.size (.inl rfl) fun m4 x hx _ f4 => ⟨_, _, rfl, ifB_t ?_⟩
  have hx := hx rfl
  rw [List.length_append] at hx
  have e : ((x : Int) == (l2 : Int)) = true := by rw [beq_iff_eq]; omega
  rw [e]
  exact hk m4 fun S => (F03 S).trans (f4 S)
theorem tail_lifted (os : Os) (started : os.Started) (H : Type) (enc : TypeId × Value → H) :
    ReturnsInHanded {} Tryz.checked os f_laws_FnTail .any (fun w args => (Rows.fnTailSpec.pre enc Tryz.prog (fnAt f_laws_FnTail) [] false w args ∧ laidMetH Tryz.prog laidL w) ∧ sizedMet enc Tryz.prog (fnAt f_laws_FnTail) (OpenSpec.ofChange Rows.fnTailSpec) false w args)
      (Rows.fnTailSpec.post enc Tryz.prog (fnAt f_laws_FnTail) false true false false) := by
  refine returnsInHanded_of_change_and (C := Tryz.checked) (X := fun w _ => laidMetH Tryz.prog laidL w) (fun _ _ _ hh h => h.of_heap hh) own started (by kernel_rfl) (by kernel_rfl)
    (ChangeSpec.witness_shaped (enc := enc) (C := Tryz.checked) (os := os) (X := fun w _ => laidMetH Tryz.prog laidL w) false (World.doorLaid Tryz.prog 400 os) #[.slice none 0 0, .slice none 0 0] 8 rfl (shaped os _) (by kernel_rfl) (by kernel_rfl) (by kernel_rfl) (door_met os _)) ?_
  intro W base args ds gs before hval0 hW _ _ hL _
  have hp : (fnAt f_laws_FnTail).params = #[t_s_uint8, t_s_uint8] := by kernel_rfl
  have hval : ∀ (j : Nat) t v, (fnAt f_laws_FnTail).params[j]? = some t → args[j]? = some v → Value.okWide Tryz.prog W .any base t v := hval0
  have hW' := hW
  obtain ⟨p, q, hA, hV, _, _, _⟩ := hW
  rw [hp] at hA hval
  obtain ⟨v0, v1, d0, d1, p0, p1, rfl, rfl, rfl, h0, h1⟩ := trodAll_two hA
  obtain ⟨a0, l0, k0, b0, o0, s0, rfl, hS0⟩ := bytes_arg (hval 0 _ v0 rfl rfl) h0
  obtain ⟨a1, l1, k1, b1, o1, s1, rfl, hS1⟩ := bytes_arg (hval 1 _ v1 rfl rfl) h1
  obtain ⟨E, hG⟩ := glob_laid hL
  obtain ⟨g, rfl⟩ : ∃ g, gs = [g] := by
    match gs, hV with
    | [g], _ => exact ⟨g, rfl⟩
    | _ :: _ :: _, ⟨_, _, _, _, _, _, _, _, _, _, h, _⟩ => exact h.elim
  refine (calls_of (tail_walk hS0 hS1 hG fun m' hf => ⟨rfl, hf⟩)).mono fun e W' ⟨he, hs, hf⟩ => ⟨_, he, ?_⟩
  exact law_post hW' hs hf (tb := t_bool) (by kernel_rfl) (by kernel_rfl) rfl readable (by kernel_rfl) codeVar
theorem tail_said : Rows.FnTailSaid :=
  OpenClaim.holds_of_wide f_laws_FnTail (fnAt f_laws_FnTail) rfl rfl rfl rfl rfl rfl rfl ⟨rfl, rfl, rfl, rfl, rfl⟩ rfl rfl rfl rfl rfl (by kernel_rfl) (by kernel_rfl) (by kernel_rfl)
    (of_decide_eq_true (by kernel_rfl)) (by unfold Func.isWrapper; rw [if_neg (of_decide_eq_false (by kernel_rfl))]; exact ⟨rfl, rfl⟩)
    (fun os started H enc _ => tail_lifted os started H enc)
end Go.Proofs.YthhfbogakdechaaGreatDoor

namespace Go.Proofs.YthhfbogakdechaaGreatDoor
open Go Go.M
set_option maxRecDepth 100000
theorem tail_card : Rows.FnTailCardSaid :=
  Claim7.holds_tied_plain_at .later [] [.handle, .sentinel, .sentinel, .sentinel, .data] true Rows.fnTailCard.stood.harness true
    tail_said (fun _ h => by cases h) (by kernel_rfl) (fun _ h => by cases h) fnTail_row_tie rfl ⟨rfl, rfl⟩ (by kernel_rfl) rfl
    (fun f fn hf hfn => by
      obtain rfl : f = f_laws_FnTail := Option.some.inj ((show Tryz.prog.funcNamed "loop.example/pub-inflation/laws.FnTail" = some f_laws_FnTail by kernel_rfl).symm.trans hf) |>.symm
      obtain rfl : fn = fnAt f_laws_FnTail := (Option.some.inj ((show Tryz.prog.funcs[f_laws_FnTail]? = some (fnAt f_laws_FnTail) by kernel_rfl).symm.trans hfn)).symm
      exact ⟨by kernel_rfl, fun j t ht => by
        rw [show (fnAt f_laws_FnTail).params = #[t_s_uint8, t_s_uint8] by kernel_rfl] at ht
        have h3 : t = t_s_uint8 := by
          have hm : t ∈ [t_s_uint8, t_s_uint8] := List.mem_of_getElem? (by simpa using ht)
          simp only [List.mem_cons, List.not_mem_nil, or_false] at hm
          rcases hm with rfl | rfl <;> simp
        rcases h3 with rfl
        · exact (show Tryz.prog.wantsStandIn t_s_uint8 = false by kernel_rfl)⟩)
    (by kernel_rfl)
end Go.Proofs.YthhfbogakdechaaGreatDoor
