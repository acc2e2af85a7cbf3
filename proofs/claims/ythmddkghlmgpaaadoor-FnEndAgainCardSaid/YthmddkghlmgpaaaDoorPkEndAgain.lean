/- FnEndAgain: behind the end there is the end again: the tied card. For every slice of bytes. The package variables are as the program's text lays them. -/
import Derived.Test.YthmddkghlmgpaaaDoorPke
import Derived.Test.YthmddkghlmgpaaaDoorPkx
import Derived.Test.YthmddkghlmgpaaaDoorPkr
import Derived.Test.YthmddkghlmgpaaaDoorPkzf
import Derived.Test.YthmddkghlmgpaaaDoorPkza
import Derived.Test.YthmddkghlmgpaaaDoorCards
import Derived.SevenTiedAt
set_option maxRecDepth 100000
namespace Go.M
open Go Go.Proofs
def L_laws_FnEndAgain : List Nat := [0, 2, 3, 4, 5, 8, 11, 22]
def r_laws_FnEndAgain : List ResultVar := [.tmp 2]
noncomputable def c_laws_FnEndAgain : Code := (Go.Proofs.Tryd.f3.body).getD .skip
theorem b_laws_FnEndAgain : Go.Proofs.Tryd.f3.body = some c_laws_FnEndAgain := by kernel_rfl
theorem e_laws_FnEndAgain (a1 : Option Addr) (l2 : Nat) (k3 : Nat) (m : Mem) (R : Value → Mem → Prop)
    (h : ifB (decide ((l2 : Int) > 2147483647)) (R (.bool true) m) (ifB (decide ((l2 : Int) > 16777216)) (R (.bool true) m) (CallM PP f_spec_LiteralsOf #[.slice a1 l2 k3] m fun v10 m11 => ∃ a4 l5, ∃ k6 a7, ∃ l8 k9, v10 = .tuple #[.slice a4 l5 k6, .slice a7 l8 k9] ∧ SemW PP (sv (Instr.buildSlice t_s_int 4 #[(0, .int .i64 65536), (1, .int .i64 65536), (2, .int .i64 9), (3, .int .i64 1)])) m11 (NextW PP fun v15 m16 => ∃ a12 l13 k14, v15 = .slice a12 l13 k14 ∧ CallM PP f_impl_Reads #[.slice a4 l5 k6, .slice a12 l13 k14] m16 fun v20 m21 => ∃ a17 l18 k19, v20 = .slice a17 l18 k19 ∧ ifB ((l18 : Int) != 4) (R (.bool false) m21) (onSome a17 fun p22 => (0 ≤ (2 : Int) ∧ (2 : Int) < (l18 : Int)) ∧ ∃ x23, cell? m21 ⟨(aplus p22 4).block, (aplus p22 4).off + 1, none⟩ = some (.int .i64 x23) ∧ ifB (x23 == 1) (onSome a17 fun p24 => (0 ≤ (3 : Int) ∧ (3 : Int) < (l18 : Int)) ∧ ∃ x25, cell? m21 ⟨(aplus p24 6).block, (aplus p24 6).off + 1, none⟩ = some (.int .i64 x25) ∧ ifB (x25 == 1) (onSome a17 fun p26 => (0 ≤ (2 : Int) ∧ (2 : Int) < (l18 : Int)) ∧ ∃ a27 l28 k29, cell? m21 (aplus p26 4) = some (.slice a27 l28 k29) ∧ onSome a17 fun p30 => (0 ≤ (3 : Int) ∧ (3 : Int) < (l18 : Int)) ∧ ∃ a31 l32 k33, cell? m21 (aplus p30 6) = some (.slice a31 l32 k33) ∧ ifB ((IntKind.wrap .i64 ((l28 : Int) + (l32 : Int))) == 0) (onSome a17 fun p34 => (0 ≤ (0 : Int) ∧ (0 : Int) < (l18 : Int)) ∧ ∃ a35 l36 k37, cell? m21 (aplus p34 0) = some (.slice a35 l36 k37) ∧ onSome a17 fun p38 => (0 ≤ (1 : Int) ∧ (1 : Int) < (l18 : Int)) ∧ ∃ a39 l40 k41, cell? m21 (aplus p38 2) = some (.slice a39 l40 k41) ∧ R (.bool ((IntKind.wrap .i64 ((l36 : Int) + (l40 : Int))) == (l8 : Int))) m21) (R (.bool false) m21)) (R (.bool false) m21)) (R (.bool false) m21)))))) :
    CallM PP f_laws_FnEndAgain #[.slice a1 l2 k3] m R :=
  callM_enter ffOk mixedOk 65 L_laws_FnEndAgain Tryd.func3 b_laws_FnEndAgain Tryd.ntmps3 (by simp) (Eq.mpr (by kernel_rfl) h)
end Go.M

namespace Go.Proofs.YthmddkghlmgpaaaDoor
open Go Go.M Go.ChangeShapes Go.WideShapes Go.ChangeAt Go.RowKit
set_option maxRecDepth 100000
theorem endAgain_walk {E : Errs} {d : List Nat} {m : Mem} {a : Option Addr} {l k b o : Nat} (hS : SlcB m a l k b o d) (hG : Glob E m) {R : Value → Mem → Prop} (hk : ∀ m', (∀ S, Fr S m m') → R (.bool true) m') :
    CallM PP f_laws_FnEndAgain #[.slice a l k] m R := by
  refine e_laws_FnEndAgain a l k m R ?_
  by_cases h1 : (l : Int) > 2147483647
  · rw [decide_eq_true h1]; exact ifB_t (hk m fun S => Fr.refl S m)
  rw [decide_eq_false h1]
  refine ifB_f ?_
  by_cases h2 : (l : Int) > 16777216
  · rw [decide_eq_true h2]; exact ifB_t (hk m fun S => Fr.refl S m)
  rw [decide_eq_false h2]
  refine ifB_f ?_
  refine LiteralsOf_spec hS fun m1 a1 l1 k1 b1 o1 src ch a4 l4 k4 b4 o4 H hM h200 hbit F1 => ⟨_, _, _, _, _, _, rfl, ?_⟩
  have hG1 := hG.fr (F1 fun _ _ => False) (by intro i j h; exact h.elim)
  have hlen := hM.st.len
  have hcl := hM.len
  have hsz := hM.size
  have hl1 := hM.row.len
  have hl4 := hM.want.len
  have hr := hM.blk.is.run (tail := []) hM.st.byte hM.st.num hM.st.len
  rw [List.append_nil] at hr
  refine build4_W ⟨_, _, _, rfl, ?_⟩
  have f2 : ∀ S, Fr S m1 (m1.push (.cells (([65536, 65536, 9, 1] : List Int).map fun z => Value.int .i64 z).toArray t_int)) := fun S => Fr.push _
  have hZ : SlcZ (m1.push (.cells (([65536, 65536, 9, 1] : List Int).map fun z => Value.int .i64 z).toArray t_int)) (some ⟨m1.size, 0, none⟩) 4 4 m1.size 0 [65536, 65536, 9, 1] := ⟨rfl, Nat.le_refl _, fun _ => rfl, fun i z hz => by
    rw [Nat.zero_add]
    refine cell_new ?_
    rw [List.getElem?_toArray, List.getElem?_map, hz]; rfl⟩
  generalize m1.push (.cells (([65536, 65536, 9, 1] : List Int).map fun z => Value.int .i64 z).toArray t_int) = m2 at f2 hZ ⊢
  have F2 : ∀ S, Fr S m m2 := fun S => (F1 S).trans (f2 S)
  refine Reads_spec (hM.row.sp (f2 fun _ _ => False) fun _ _ => id) hZ (by decide) (hG.fr (F2 fun _ _ => False) (by intro i j h; exact h.elim)) (by omega) hr fun m3 a5 k5 b5 o5 gs Dl hR hok f3 => ⟨_, _, _, rfl, ifB_f ?_⟩
  have F3 : ∀ S, Fr S m m3 := fun S => (F2 S).trans (f3 S)
  have hgl := hR.len
  have g : ∀ i, i < 4 → ∃ x, gs[i]? = some x := fun i hi => ⟨_, List.getElem?_eq_getElem (by omega)⟩
  obtain ⟨x0, e0⟩ := g 0 (by decide)
  obtain ⟨x1, e1⟩ := g 1 (by decide)
  obtain ⟨x2, e2⟩ := g 2 (by decide)
  obtain ⟨x3, e3⟩ := g 3 (by decide)
  have t1 : gs.take 1 = [x0] := by rw [List.take_add_one, List.take_zero, e0]; rfl
  have t2 : gs.take 2 = [x0, x1] := by rw [List.take_add_one, t1, e1]; rfl
  have t3 : gs.take 3 = [x0, x1, x2] := by rw [List.take_add_one, t2, e2]; rfl
  have d0 : x0.Dl = 0 := by have := hok.at_ 0 x0 e0; simpa using this
  have d1 : x1.Dl = x0.q := by have := hok.at_ 1 x1 e1; rw [t1] at this; simpa using this
  have d2 : x2.Dl = x0.q + x1.q := by have := hok.at_ 2 x2 e2; rw [t2] at this; simpa using this
  have d3 : x3.Dl = x0.q + x1.q + x2.q := by have := hok.at_ 3 x3 e3; rw [t3] at this; simp at this; omega
  obtain ⟨q0, c0⟩ := hok.one 0 x0 65536 e0 rfl
  obtain ⟨q1, c1⟩ := hok.one 1 x1 65536 e1 rfl
  obtain ⟨q2, c2⟩ := hok.one 2 x2 9 e2 rfl
  obtain ⟨q3, c3⟩ := hok.one 3 x3 1 e3 rfl
  have r0 : roomOf 65536 = 65536 := by decide
  have r2 : 0 < roomOf 9 := by decide
  have r3 : 0 < roomOf 1 := by decide
  have ce : codeOf .fin = 1 := rfl
  have n0 : x0.c ≠ 0 := fun h0 => by
    rcases hok.full 0 x0 65536 e0 rfl h0 with h | h | h
    · rcases c0 with ⟨_, _, h4⟩ | ⟨h4, _⟩ <;> omega
    · omega
    · exact no_ends hbit h
  have k0 : x0.q = H.length := by rcases c0 with ⟨h4, _⟩ | ⟨_, h4⟩ <;> omega
  have k1 : x1.q = 0 := by rcases c1 with ⟨_, h3, h4⟩ | ⟨_, h4⟩ <;> omega
  have k2 : x2.c = 1 ∧ x2.q = 0 := by rcases c2 with ⟨_, h3, h4⟩ | ⟨h3, h4⟩ <;> omega
  have k3 : x3.c = 1 ∧ x3.q = 0 := by rcases c3 with ⟨_, h3, h4⟩ | ⟨h3, h4⟩ <;> omega
  obtain ⟨p00, p01⟩ := hR.get e0
  obtain ⟨p10, p11⟩ := hR.get e1
  obtain ⟨p20, p21⟩ := hR.get e2
  obtain ⟨p30, p31⟩ := hR.get e3
  have hat := hR.own.at_ (by have := hR.own.le; omega)
  subst hat
  refine ⟨⟨by decide, by decide⟩, x2.c, p21, ?_⟩
  rw [k2.1]
  refine ifB_t ⟨⟨by decide, by decide⟩, x3.c, p31, ?_⟩
  rw [k3.1]
  refine ifB_t ⟨⟨by decide, by decide⟩, _, _, _, p20, ⟨by decide, by decide⟩, _, _, _, p30, ?_⟩
  rw [k2.2, k3.2]
  refine ifB_t ⟨⟨by decide, by decide⟩, _, _, _, p00, ⟨by decide, by decide⟩, _, _, _, p10, ?_⟩
  have e : (IntKind.wrap .i64 ((x0.q : Int) + (x1.q : Int)) == (l4 : Int)) = true := by
    rw [beq_iff_eq, wrap64_id (by omega) (by omega)]; omega
  rw [e]
  exact hk m3 F3
theorem endAgain_lifted (os : Os) (started : os.Started) (H : Type) (enc : TypeId × Value → H) :
    ReturnsInHanded {} Tryd.checked os f_laws_FnEndAgain .any (fun w args => (Rows.fnEndAgainSpec.pre enc Tryd.prog (fnAt f_laws_FnEndAgain) [] false w args ∧ laidMetH Tryd.prog laidL w) ∧ sizedMet enc Tryd.prog (fnAt f_laws_FnEndAgain) (OpenSpec.ofChange Rows.fnEndAgainSpec) false w args)
      (Rows.fnEndAgainSpec.post enc Tryd.prog (fnAt f_laws_FnEndAgain) false true false false) := by
  refine returnsInHanded_of_change_and (C := Tryd.checked) (X := fun w _ => laidMetH Tryd.prog laidL w) (fun _ _ _ hh h => h.of_heap hh) own started (by kernel_rfl) (by kernel_rfl)
    (ChangeSpec.witness_shaped (enc := enc) (C := Tryd.checked) (os := os) (X := fun w _ => laidMetH Tryd.prog laidL w) false (World.doorLaid Tryd.prog 400 os) #[.slice none 0 0] 8 rfl (shaped os _) (by kernel_rfl) (by kernel_rfl) (by kernel_rfl) (door_met os _)) ?_
  intro W base args ds gs before hval0 hW _ _ hL _
  have hp : (fnAt f_laws_FnEndAgain).params = #[t_s_uint8] := by kernel_rfl
  have hval : ∀ (j : Nat) t v, (fnAt f_laws_FnEndAgain).params[j]? = some t → args[j]? = some v → Value.okWide Tryd.prog W .any base t v := hval0
  have hW' := hW
  obtain ⟨p, q, hA, hV, _, _, _⟩ := hW
  rw [hp] at hA hval
  obtain ⟨v0, d0, rfl, rfl, h0⟩ := trodAll_one hA
  obtain ⟨a0, l0, k0, b0, o0, s0, rfl, hS0⟩ := bytes_arg (hval 0 _ v0 rfl rfl) h0
  obtain ⟨E, hG⟩ := glob_laid hL
  obtain ⟨g, rfl⟩ : ∃ g, gs = [g] := by
    match gs, hV with
    | [g], _ => exact ⟨g, rfl⟩
    | _ :: _ :: _, ⟨_, _, _, _, _, _, _, _, _, _, h, _⟩ => exact h.elim
  refine (calls_of (endAgain_walk hS0 hG fun m' hf => ⟨rfl, hf⟩)).mono fun e W' ⟨he, hs, hf⟩ => ⟨_, he, ?_⟩
  exact law_post hW' hs hf (tb := t_bool) (by kernel_rfl) (by kernel_rfl) rfl readable (by kernel_rfl) codeVar
theorem endAgain_said : Rows.FnEndAgainSaid :=
  OpenClaim.holds_of_wide f_laws_FnEndAgain (fnAt f_laws_FnEndAgain) rfl rfl rfl rfl rfl rfl rfl ⟨rfl, rfl, rfl, rfl, rfl⟩ rfl rfl rfl rfl rfl (by kernel_rfl) (by kernel_rfl) (by kernel_rfl)
    (of_decide_eq_true (by kernel_rfl)) (by unfold Func.isWrapper; rw [if_neg (of_decide_eq_false (by kernel_rfl))]; exact ⟨rfl, rfl⟩)
    (fun os started H enc _ => endAgain_lifted os started H enc)
end Go.Proofs.YthmddkghlmgpaaaDoor

namespace Go.Proofs.YthmddkghlmgpaaaDoor
open Go Go.M
set_option maxRecDepth 100000
theorem endAgain_card : Rows.FnEndAgainCardSaid :=
  Claim7.holds_tied_plain_at .later [] [.handle, .sentinel, .sentinel, .sentinel, .data] true Rows.fnEndAgainCard.stood.harness true
    endAgain_said (fun _ h => by cases h) (by kernel_rfl) (fun _ h => by cases h) fnEndAgain_row_tie rfl ⟨rfl, rfl⟩ (by kernel_rfl) rfl
    (fun f fn hf hfn => by
      obtain rfl : f = f_laws_FnEndAgain := Option.some.inj ((show Tryd.prog.funcNamed "loop.example/pub-inflation/laws.FnEndAgain" = some f_laws_FnEndAgain by kernel_rfl).symm.trans hf) |>.symm
      obtain rfl : fn = fnAt f_laws_FnEndAgain := (Option.some.inj ((show Tryd.prog.funcs[f_laws_FnEndAgain]? = some (fnAt f_laws_FnEndAgain) by kernel_rfl).symm.trans hfn)).symm
      exact ⟨by kernel_rfl, fun j t ht => by
        rw [show (fnAt f_laws_FnEndAgain).params = #[t_s_uint8] by kernel_rfl] at ht
        have h3 : t = t_s_uint8 := by
          rcases j with _ | j
          · simpa using ht.symm
          · simp at ht
        subst h3
        exact (show Tryd.prog.wantsStandIn t_s_uint8 = false by kernel_rfl)⟩)
    (by kernel_rfl)
end Go.Proofs.YthmddkghlmgpaaaDoor
