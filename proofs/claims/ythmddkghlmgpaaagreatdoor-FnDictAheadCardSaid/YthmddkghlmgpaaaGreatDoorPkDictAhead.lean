/- FnDictAhead: a dictionary is as if its bytes had come ahead: the tied card. For every slice of bytes. The package variables are as the program's text lays them. -/
import Derived.Test.YthmddkghlmgpaaaGreatDoorPke
import Derived.Test.YthmddkghlmgpaaaGreatDoorPkx
import Derived.Test.YthmddkghlmgpaaaGreatDoorPkr
import Derived.Test.YthmddkghlmgpaaaGreatDoorPkzf
import Derived.Test.YthmddkghlmgpaaaGreatDoorPkzb
import Derived.Test.YthmddkghlmgpaaaGreatDoorCards
import Derived.SevenTiedAt
set_option maxRecDepth 100000
namespace Go.M
open Go Go.Proofs
def L_laws_FnDictAhead : List Nat := [0, 2, 3, 4, 6, 7, 8, 9, 12, 15]
def r_laws_FnDictAhead : List ResultVar := [.tmp 2]
noncomputable def c_laws_FnDictAhead : Code := (Go.Proofs.Tryz.f3.body).getD .skip
theorem b_laws_FnDictAhead : Go.Proofs.Tryz.f3.body = some c_laws_FnDictAhead := by kernel_rfl
theorem e_laws_FnDictAhead (a1 : Option Addr) (l2 : Nat) (k3 : Nat) (m : Mem) (R : Value → Mem → Prop)
    (h : ifB (decide ((l2 : Int) > 2147483647)) (R (.bool true) m) (ifB (decide ((l2 : Int) > 16777216)) (R (.bool true) m) (CallM PP f_spec_DictOf #[.slice a1 l2 k3] m fun v13 m14 => ∃ a4 l5, ∃ k6 a7, ∃ l8 k9, ∃ a10 l11 k12, v13 = .tuple #[.slice a4 l5 k6, .slice a7 l8 k9, .slice a10 l11 k12] ∧ CallM PP f_impl_AllDict #[.slice a7 l8 k9, .slice a4 l5 k6, .int .i64 131072] m14 fun v19 m20 => ∃ a15 l16, ∃ k17 x18, v19 = .tuple #[.slice a15 l16 k17, .int .i64 x18] ∧ CallM PP f_spec_Store #[.slice a4 l5 k6, .bool false, .int .i64 0] m20 fun v24 m25 => ∃ a21 l22 k23, v24 = .slice a21 l22 k23 ∧ SemW PP (builtin .append #[t_s_uint8, t_s_uint8] t_s_uint8 #[false, false] #[.slice a21 l22 k23, .slice a7 l8 k9]) m25 (NextW PP fun v29 m30 => ∃ a26 l27 k28, v29 = .slice a26 l27 k28 ∧ CallM PP f_impl_All #[.slice a26 l27 k28, .int .i64 131072] m30 fun v35 m36 => ∃ a31 l32, ∃ k33 x34, v35 = .tuple #[.slice a31 l32 k33, .int .i64 x34] ∧ ifB (x18 == 1) (ifB (x34 == 1) (SemW PP (sv (Instr.buildSlice t_s_uint8 0 #[])) m36 (NextW PP fun v40 m41 => ∃ a37 l38 k39, v40 = .slice a37 l38 k39 ∧ SemW PP (builtin .append #[t_s_uint8, t_s_uint8] t_s_uint8 #[false, false] #[.slice a37 l38 k39, .slice a4 l5 k6]) m41 (NextW PP fun v45 m46 => ∃ a42 l43 k44, v45 = .slice a42 l43 k44 ∧ SemW PP (builtin .append #[t_s_uint8, t_s_uint8] t_s_uint8 #[false, false] #[.slice a42 l43 k44, .slice a15 l16 k17]) m46 (NextW PP fun v50 m51 => ∃ a47 l48 k49, v50 = .slice a47 l48 k49 ∧ CallM PP f_laws_same #[.slice a31 l32 k33, .slice a47 l48 k49] m51 fun v53 m54 => ∃ b52, v53 = .bool b52 ∧ R (.bool b52) m54)))) (R (.bool false) m36)) (R (.bool false) m36))))) :
    CallM PP f_laws_FnDictAhead #[.slice a1 l2 k3] m R :=
  callM_enter ffOk mixedOk 51 L_laws_FnDictAhead Tryz.func3 b_laws_FnDictAhead Tryz.ntmps3 (by simp) (Eq.mpr (by kernel_rfl) h)
end Go.M

namespace Go.Proofs.YthmddkghlmgpaaaGreatDoor
open Go Go.M Go.ChangeShapes Go.WideShapes Go.ChangeAt Go.RowKit
set_option maxRecDepth 100000
theorem dictAhead_walk {E : Errs} {d : List Nat} {m : Mem} {a : Option Addr} {l k b o : Nat} (hS : SlcB m a l k b o d) (hG : Glob E m) {R : Value → Mem → Prop} (hk : ∀ m', (∀ S, Fr S m m') → R (.bool true) m') :
    CallM PP f_laws_FnDictAhead #[.slice a l k] m R := by
  refine e_laws_FnDictAhead a l k m R ?_
  by_cases h1 : (l : Int) > 2147483647
  · rw [decide_eq_true h1]; exact ifB_t (hk m fun S => Fr.refl S m)
  rw [decide_eq_false h1]
  refine ifB_f ?_
  by_cases h2 : (l : Int) > 16777216
  · rw [decide_eq_true h2]; exact ifB_t (hk m fun S => Fr.refl S m)
  rw [decide_eq_false h2]
  refine ifB_f ?_
  refine DictOf_spec hS fun m1 aD lD kD bD oD D a1 l1 k1 b1 o1 src ch a4 l4 k4 b4 o4 T hM F1 => ⟨_, _, _, _, _, _, _, _, _, rfl, ?_⟩
  have hG1 := hG.fr (F1 fun _ _ => False) (by intro i j h; exact h.elim)
  have q1 := hM.st.len
  have q2 := hM.len
  have q3 := hM.row.len
  have q4 := hM.dict.len
  have q5 := hM.dsize
  have q6 := hM.size
  have hr := hM.run
  refine AllDict_short0 hM.row hM.dict hG1 (by omega) (by omega) hr (by omega) fun m2 a5 k5 b5 o5 hO5 _ f2 => ⟨_, _, _, _, rfl, ?_⟩
  have hM2 := hM.fr f2
  have F2 : ∀ S, Fr S m m2 := fun S => (F1 S).trans (f2 S)
  refine StoreO_spec hM2.dict (fun h0 => cell_block (hM2.dict.data 0 h0)) (by omega) false 0 fun m3 a6 l6 k6 b6 o6 s6 ch6 hO6 hst6 hB6 hn6 hb6 h86 f3 => ⟨_, _, _, rfl, ?_⟩
  have hM3 := hM2.fr f3
  have hl6 := hO6.len
  have q7 := hst6.len
  refine appendB_W (b2 := b1) (o2 := o1) hO6 hM3.row.len (fun hne => hM3.row.at_ ?_) (fun i v hv => ?_) (by omega) fun m4 a8 k8 b8 o8 hO8 hb8 f4 _ => ⟨_, _, _, rfl, ?_⟩
  · rw [← hM3.row.len]; exact List.length_pos_iff.2 hne
  · have hi := (List.getElem?_eq_some_iff.1 hv).1
    have := hM3.row.data i (by omega)
    rw [List.getD_eq_getElem?_getD, hv] at this
    exact this
  have F24 : ∀ S, Fr S m2 m4 := fun S => ((f3 _).trans f4).old fun x y hx h => by have := h.1; omega
  have F4 : ∀ S, Fr S m m4 := fun S => (F2 S).trans (F24 S)
  have hM4 := hM2.fr F24
  have hst := hst6.join hM.st h86
  have hBX : BlkIs (chLen ch6) D ch (D ++ T) true := by
    have := hM.blk (chLen ch6) (D.take (D.length - 32768)) h86
    rwa [Nat.add_zero, ← List.append_assoc, last32_split] at this
  have hr2 := (hB6.append (by rwa [Nat.zero_add])).run (tail := []) hst.byte hst.num hst.len
  rw [List.append_nil] at hr2
  have hDT : (D ++ T).length = D.length + T.length := List.length_append ..
  have hby : ∀ v ∈ D ++ T, v < 256 := fun v hv => by
    rcases List.mem_append.1 hv with hv | hv
    · exact hM.dict.byte v hv
    · exact hM.want.byte v hv
  refine All_short (hO8.slc hst.byte) (hG.fr (F4 fun _ _ => False) (by intro i j h; exact h.elim)) (by omega) hr2 (by omega) fun m5 a9 k9 b9 o9 hO9 _ f5 => ⟨_, _, _, _, rfl, ifB_t (ifB_t ?_)⟩
  have hM5 := hM4.fr f5
  have hS5 := ((hO5.slc hM.want.byte).sp (F24 fun _ _ => False) fun _ _ => id).sp (f5 fun _ _ => False) fun _ _ => id
  refine joined_W hM5.dict hS5 (by omega) (by omega) fun m6 a10 k10 b10 o10 hS10 f6 => ?_
  exact same_true ((hO9.slc hby).sp (f6 fun _ _ => False) fun _ _ => id) hS10 (by omega) rfl ⟨_, rfl, hk m6 fun S => ((F4 S).trans (f5 S)).trans (f6 S)⟩
theorem dictAhead_lifted (os : Os) (started : os.Started) (H : Type) (enc : TypeId × Value → H) :
    ReturnsInHanded {} Tryz.checked os f_laws_FnDictAhead .any (fun w args => (Rows.fnDictAheadSpec.pre enc Tryz.prog (fnAt f_laws_FnDictAhead) [] false w args ∧ laidMetH Tryz.prog laidL w) ∧ sizedMet enc Tryz.prog (fnAt f_laws_FnDictAhead) (OpenSpec.ofChange Rows.fnDictAheadSpec) false w args)
      (Rows.fnDictAheadSpec.post enc Tryz.prog (fnAt f_laws_FnDictAhead) false true false false) := by
  refine returnsInHanded_of_change_and (C := Tryz.checked) (X := fun w _ => laidMetH Tryz.prog laidL w) (fun _ _ _ hh h => h.of_heap hh) own started (by kernel_rfl) (by kernel_rfl)
    (ChangeSpec.witness_shaped (enc := enc) (C := Tryz.checked) (os := os) (X := fun w _ => laidMetH Tryz.prog laidL w) false (World.doorLaid Tryz.prog 400 os) #[.slice none 0 0] 8 rfl (shaped os _) (by kernel_rfl) (by kernel_rfl) (by kernel_rfl) (door_met os _)) ?_
  intro W base args ds gs before hval0 hW _ _ hL _
  have hp : (fnAt f_laws_FnDictAhead).params = #[t_s_uint8] := by kernel_rfl
  have hval : ∀ (j : Nat) t v, (fnAt f_laws_FnDictAhead).params[j]? = some t → args[j]? = some v → Value.okWide Tryz.prog W .any base t v := hval0
  have hW' := hW
  obtain ⟨p, q, hA, hV, _, _, _⟩ := hW
  rw [hp] at hA hval
  obtain ⟨v0, d0, rfl, rfl, h0⟩ := trodAll_one hA
  obtain ⟨a0, l0, k0, b0, o0, s0, rfl, hS0⟩ := bytes_arg (hval 0 _ v0 rfl rfl) h0
  obtain ⟨E, hG⟩ := glob_laid hL
  obtain ⟨g, rfl⟩ : ∃ g, gs = [g] := by
    match gs, hV with
    | [g], _ => exact ⟨g, rfl⟩
    | _ :: _ :: _, ⟨_, _, _, _, _, _, _, _, _, _, h, _⟩ => exact h.elim
  refine (calls_of (dictAhead_walk hS0 hG fun m' hf => ⟨rfl, hf⟩)).mono fun e W' ⟨he, hs, hf⟩ => ⟨_, he, ?_⟩
  exact law_post hW' hs hf (tb := t_bool) (by kernel_rfl) (by kernel_rfl) rfl readable (by kernel_rfl) codeVar
theorem dictAhead_said : Rows.FnDictAheadSaid :=
  OpenClaim.holds_of_wide f_laws_FnDictAhead (fnAt f_laws_FnDictAhead) rfl rfl rfl rfl rfl rfl rfl ⟨rfl, rfl, rfl, rfl, rfl⟩ rfl rfl rfl rfl rfl (by kernel_rfl) (by kernel_rfl) (by kernel_rfl)
    (of_decide_eq_true (by kernel_rfl)) (by unfold Func.isWrapper; rw [if_neg (of_decide_eq_false (by kernel_rfl))]; exact ⟨rfl, rfl⟩)
    (fun os started H enc _ => dictAhead_lifted os started H enc)
end Go.Proofs.YthmddkghlmgpaaaGreatDoor

namespace Go.Proofs.YthmddkghlmgpaaaGreatDoor
open Go Go.M
set_option maxRecDepth 100000
theorem dictAhead_card : Rows.FnDictAheadCardSaid :=
  Claim7.holds_tied_plain_at .later [] [.handle, .sentinel, .sentinel, .sentinel, .data] true Rows.fnDictAheadCard.stood.harness true
    dictAhead_said (fun _ h => by cases h) (by kernel_rfl) (fun _ h => by cases h) fnDictAhead_row_tie rfl ⟨rfl, rfl⟩ (by kernel_rfl) rfl
    (fun f fn hf hfn => by
      obtain rfl : f = f_laws_FnDictAhead := Option.some.inj ((show Tryz.prog.funcNamed "loop.example/pub-inflation/laws.FnDictAhead" = some f_laws_FnDictAhead by kernel_rfl).symm.trans hf) |>.symm
      obtain rfl : fn = fnAt f_laws_FnDictAhead := (Option.some.inj ((show Tryz.prog.funcs[f_laws_FnDictAhead]? = some (fnAt f_laws_FnDictAhead) by kernel_rfl).symm.trans hfn)).symm
      exact ⟨by kernel_rfl, fun j t ht => by
        rw [show (fnAt f_laws_FnDictAhead).params = #[t_s_uint8] by kernel_rfl] at ht
        have h3 : t = t_s_uint8 := by
          rcases j with _ | j
          · simpa using ht.symm
          · simp at ht
        subst h3
        exact (show Tryz.prog.wantsStandIn t_s_uint8 = false by kernel_rfl)⟩)
    (by kernel_rfl)
end Go.Proofs.YthmddkghlmgpaaaGreatDoor
