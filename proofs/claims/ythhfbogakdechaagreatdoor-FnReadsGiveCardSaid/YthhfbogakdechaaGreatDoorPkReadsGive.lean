/- FnReadsGive: each read with room gives a byte at least, until there is the end: the tied card. For every slice of bytes and every slice of numbers. The package variables are as the program's text lays them. -/
import Derived.Test.YthhfbogakdechaaGreatDoorPke
import Derived.Test.YthhfbogakdechaaGreatDoorPkx
import Derived.Test.YthhfbogakdechaaGreatDoorPkr
import Derived.Test.YthhfbogakdechaaGreatDoorPkza
import Derived.Test.YthhfbogakdechaaGreatDoorPkzf
import Derived.Test.YthhfbogakdechaaGreatDoorCards
import Derived.SevenTiedAt
set_option maxRecDepth 100000
namespace Go.M
open Go Go.Proofs
def L_laws_FnReadsGive : List Nat := [0, 1, 4, 5, 7, 8, 9, 17, 25, 34, 35, 36, 37, 62]
def r_laws_FnReadsGive : List ResultVar := [.tmp 4]
noncomputable def c_laws_FnReadsGive : Code := (Go.Proofs.Tryz.f9.body).getD .skip
theorem b_laws_FnReadsGive : Go.Proofs.Tryz.f9.body = some c_laws_FnReadsGive := by kernel_rfl
noncomputable def c_laws_FnReadsGive_rrrrrr : Code := (rgt (rgt (rgt (rgt (rgt (rgt c_laws_FnReadsGive))))))
noncomputable def c_laws_FnReadsGive_rrrrrlrl : Code := (lft (rgt (lft (rgt (rgt (rgt (rgt (rgt c_laws_FnReadsGive))))))))
noncomputable def c_laws_FnReadsGive_rrrrrlrll : Code := (lft c_laws_FnReadsGive_rrrrrlrl)
theorem q_laws_FnReadsGive_rrrrrlrl : c_laws_FnReadsGive_rrrrrlrl = .loop c_laws_FnReadsGive_rrrrrlrll := by kernel_rfl
theorem e_laws_FnReadsGive (a1 : Option Addr) (l2 : Nat) (k3 : Nat) (a4 : Option Addr) (l5 : Nat) (k6 : Nat) (m : Mem) (R : Value → Mem → Prop)
    (h : ifB (decide ((l2 : Int) > 2147483647)) (R (.bool true) m) (ifB (decide ((l5 : Int) > 2147483647)) (R (.bool true) m) (ifB (decide ((l2 : Int) > 16777216)) (R (.bool true) m) (ifB (decide ((l5 : Int) > 16777216)) (R (.bool true) m) (CallM PP f_spec_MixedOf #[.slice a1 l2 k3] m fun v13 m14 => ∃ a7 l8, ∃ k9 a10, ∃ l11 k12, v13 = .tuple #[.slice a7 l8 k9, .slice a10 l11 k12] ∧ CallM PP f_impl_Reads #[.slice a7 l8 k9, .slice a4 l5 k6] m14 fun v18 m19 => ∃ a15 l16 k17, v18 = .slice a15 l16 k17 ∧ WPS PP 69 c_laws_FnReadsGive_rrrrrlrl (((retK PP r_laws_FnReadsGive R).withN fun r m => WPS PP 69 c_laws_FnReadsGive_rrrrrr (retK PP r_laws_FnReadsGive R) r m).withX 0) [(0, .slice a1 l2 k3), (1, .slice a4 l5 k6), (4, .bool false), (5, .slice a7 l8 k9), (7, .slice a15 l16 k17), (34, .slice a15 l16 k17), (35, .int .i64 (l16 : Int)), (36, .int .i64 0)] m19))))) :
    CallM PP f_laws_FnReadsGive #[.slice a1 l2 k3, .slice a4 l5 k6] m R :=
  callM_enter ffOk mixedOk 69 L_laws_FnReadsGive Tryz.func9 b_laws_FnReadsGive Tryz.ntmps9 (by simp) (Eq.mpr (by kernel_rfl) h)
theorem p_laws_FnReadsGive_rrrrrr (a1 : Option Addr) (l2 : Nat) (k3 : Nat) (a4 : Option Addr) (l5 : Nat) (k6 : Nat) (m : Mem) (K : Kont)
    (h : K.kr [(1, .slice a1 l2 k3), (4, .bool ((l5 : Int) == (l2 : Int))), (7, .slice a4 l5 k6)] m) :
    wpc PP FF 69 L_laws_FnReadsGive c_laws_FnReadsGive_rrrrrr K [(1, .slice a1 l2 k3), (7, .slice a4 l5 k6)] m :=
  Eq.mpr (by kernel_rfl) h
theorem p_laws_FnReadsGive_rrrrrlrll (a1 : Option Addr) (l2 : Nat) (k3 : Nat) (a4 : Option Addr) (l5 : Nat) (k6 : Nat) (a7 : Option Addr) (l8 : Nat) (k9 : Nat) (x10 : Int) (x11 : Int) (m : Mem) (K : Kont)
    (h : ifB (decide (x11 < x10)) (onSome a7 fun p12 => (0 ≤ x11 ∧ x11 < (l8 : Int)) ∧ ∃ a13 l14, ∃ k15 x16, ([.slice a13 l14 k15, .int .i64 x16] : List Value).length = 2 ∧ CellsAre m (aplus p12 (x11.toNat * 2)) 0 [.slice a13 l14 k15, .int .i64 x16] ∧ AllocW PP t_impl_Got m fun n17 m18 => StAgg PP t_impl_Got m18 ⟨n17, 0, none⟩ (.agg #[.slice a13 l14 k15, .int .i64 x16]) fun m19 => ifB (decide (x11 < (l2 : Int))) (onSome a1 fun p20 => (0 ≤ x11 ∧ x11 < (l2 : Int)) ∧ ∃ x21, cell? m19 (aplus p20 x11.toNat) = some (.int .i64 x21) ∧ ifB (decide (x21 > 0)) (∃ a22 l23 k24, cell? m19 ⟨n17, 0, none⟩ = some (.slice a22 l23 k24) ∧ ifB ((l23 : Int) == 0) (∃ x25, cell? m19 ⟨n17, 1, none⟩ = some (.int .i64 x25) ∧ ifB (x25 == 0) (K.kr [(1, .slice a1 l2 k3), (4, .bool false), (7, .slice a4 l5 k6), (8, .int .i64 x11), (9, .pointer (some ⟨n17, 0, none⟩)), (34, .slice a7 l8 k9), (35, .int .i64 x10), (36, .int .i64 x11)] m19) (K.kn [(1, .slice a1 l2 k3), (7, .slice a4 l5 k6), (8, .int .i64 x11), (9, .pointer (some ⟨n17, 0, none⟩)), (34, .slice a7 l8 k9), (35, .int .i64 x10), (36, .int .i64 (IntKind.wrap .i64 (x11 + 1)))] m19)) (K.kn [(1, .slice a1 l2 k3), (7, .slice a4 l5 k6), (8, .int .i64 x11), (9, .pointer (some ⟨n17, 0, none⟩)), (34, .slice a7 l8 k9), (35, .int .i64 x10), (36, .int .i64 (IntKind.wrap .i64 (x11 + 1)))] m19)) (K.kn [(1, .slice a1 l2 k3), (7, .slice a4 l5 k6), (8, .int .i64 x11), (9, .pointer (some ⟨n17, 0, none⟩)), (34, .slice a7 l8 k9), (35, .int .i64 x10), (36, .int .i64 (IntKind.wrap .i64 (x11 + 1)))] m19)) (K.kn [(1, .slice a1 l2 k3), (7, .slice a4 l5 k6), (8, .int .i64 x11), (9, .pointer (some ⟨n17, 0, none⟩)), (34, .slice a7 l8 k9), (35, .int .i64 x10), (36, .int .i64 (IntKind.wrap .i64 (x11 + 1)))] m19)) (K.kx 0 [(1, .slice a1 l2 k3), (7, .slice a4 l5 k6), (34, .slice a7 l8 k9), (35, .int .i64 x10), (36, .int .i64 x11)] m)) :
    wpc PP FF 69 L_laws_FnReadsGive c_laws_FnReadsGive_rrrrrlrll K [(1, .slice a1 l2 k3), (7, .slice a4 l5 k6), (34, .slice a7 l8 k9), (35, .int .i64 x10), (36, .int .i64 x11)] m :=
  Eq.mpr (by kernel_rfl) h
end Go.M

namespace Go.Proofs.YthhfbogakdechaaGreatDoor
open Go Go.M Go.ChangeShapes Go.WideShapes Go.ChangeAt Go.RowKit
set_option maxRecDepth 100000
theorem readsGive_walk {E : Errs} {d : List Nat} {m : Mem} {a : Option Addr} {l k b o : Nat} (hS : SlcB m a l k b o d) {zs : List Int} {a2 : Option Addr} {l2 k2 b2 o2 : Nat} (hZ : SlcZ m a2 l2 k2 b2 o2 zs) (hG : Glob E m) {R : Value → Mem → Prop} (hk : ∀ m', (∀ S, Fr S m m') → R (.bool true) m') :
    CallM PP f_laws_FnReadsGive #[.slice a l k, .slice a2 l2 k2] m R := by
  refine e_laws_FnReadsGive a l k a2 l2 k2 m R ?_
  by_cases h1 : (l : Int) > 2147483647
  · rw [decide_eq_true h1]; exact ifB_t (hk m fun S => Fr.refl S m)
  rw [decide_eq_false h1]
  refine ifB_f ?_
  by_cases h2 : (l2 : Int) > 2147483647
  · rw [decide_eq_true h2]; exact ifB_t (hk m fun S => Fr.refl S m)
  rw [decide_eq_false h2]
  refine ifB_f ?_
  by_cases h3 : (l : Int) > 16777216
  · rw [decide_eq_true h3]; exact ifB_t (hk m fun S => Fr.refl S m)
  rw [decide_eq_false h3]
  refine ifB_f ?_
  by_cases h4 : (l2 : Int) > 16777216
  · rw [decide_eq_true h4]; exact ifB_t (hk m fun S => Fr.refl S m)
  rw [decide_eq_false h4]
  refine ifB_f ?_
  refine MixedOf_spec hS fun m1 a1 l1 k1 b1 o1 src ch a4 l4 k4 b4 o4 H hM f1 => ⟨_, _, _, _, _, _, rfl, ?_⟩
  have F1 : ∀ S, Fr S m m1 := fun S => f1.mono fun _ _ h => h.elim
  have hG1 := hG.fr (F1 fun _ _ => False) (by intro i j h; exact h.elim)
  have hlen := hM.st.len
  have hcl := hM.len
  have hsz := hM.size
  have hl1 := hM.row.len
  have hl4 := hM.want.len
  have hr := hM.blk.is.run (tail := []) hM.st.byte hM.st.num hM.st.len
  rw [List.append_nil] at hr
  refine Reads_spec hM.row (hZ.old F1) (by omega) hG1 (by omega) hr fun m2 a5 k5 b5 o5 gs Dl hR hok f2 => ⟨_, _, _, rfl, ?_⟩
  have F2 : ∀ S, Fr S m m2 := fun S => (F1 S).trans (f2 S)
  have hgl := hR.len
  have hzl := hZ.len
  rw [q_laws_FnReadsGive_rrrrrlrl]
  refine loopW ffOk mixedOk (L₀ := L_laws_FnReadsGive) (σ := Nat) [1, 7, 34, 35, 36]
    (fun i => [(1, .slice a2 l2 k2), (7, .slice a5 l2 k5), (34, .slice a5 l2 k5), (35, .int .i64 (l2 : Int)), (36, .int .i64 (i : Nat))])
    (fun i m' => i ≤ l2 ∧ ∀ S, Fr S m2 m') (fun i => l2 - i) 0 rfl ⟨Nat.zero_le _, fun S => Fr.refl _ _⟩ ?_
  rintro i m3 ⟨hi, f23⟩
  have F3 : ∀ S, Fr S m m3 := fun S => (F2 S).trans (f23 S)
  refine p_laws_FnReadsGive_rrrrrlrll a2 l2 k2 a5 l2 k5 a5 l2 k5 l2 i m3 _ ?_
  by_cases hil : i < l2
  · rw [decide_eq_true (by omega)]
    have hgi : gs[i]? = some (gs[i]'(by omega)) := List.getElem?_eq_getElem (by omega)
    generalize gs[i]'(by omega) = g at hgi
    have hzi : zs[i]? = some (zs[i]'(by omega)) := List.getElem?_eq_getElem (by omega)
    generalize zs[i]'(by omega) = z at hzi
    obtain ⟨hq, hcs⟩ := hok.one i g z hgi hzi
    have hR3 := hR.fr (f23 fun _ _ => False) (fun _ _ => id) fun _ _ _ _ => id
    obtain ⟨d1, d2⟩ := hR3.get hgi
    have hat := hR3.own.at_ (by have := hR3.own.le; omega)
    have hw : IntKind.wrap .i64 ((i : Int) + 1) = ((i + 1 : Nat) : Int) := by rw [wrap64_id (by omega) (by omega)]; rfl
    have hat2 := hZ.at_ (by omega)
    refine ifB_t ?_
    subst hat; subst hat2
    refine ⟨⟨by omega, by omega⟩, g.a, g.q, g.k, g.c, rfl, ⟨?_, ?_, trivial⟩, ?_⟩
    · rw [show aplus (aplus ⟨b5, o5, none⟩ ((i : Int).toNat * 2)) 0 = ⟨b5, o5 + i * 2, none⟩ by simp [aplus]]; exact d1
    · rw [show aplus (aplus ⟨b5, o5, none⟩ ((i : Int).toNat * 2)) (0 + 1) = ⟨b5, o5 + i * 2 + 1, none⟩ by simp [aplus, Nat.add_assoc]]; exact d2
    refine take_got_W fun m4 n f4 hn1 hn2 e0 e1 => ?_
    rw [hw]
    have next : ∃ s' : Nat, Env.keep [1, 7, 34, 35, 36] [(1, Value.slice (some ⟨b2, o2, none⟩) l2 k2), (7, .slice (some ⟨b5, o5, none⟩) l2 k5), (8, .int .i64 (i : Int)), (9, .pointer (some ⟨n, 0, none⟩)), (34, .slice (some ⟨b5, o5, none⟩) l2 k5), (35, .int .i64 (l2 : Int)), (36, .int .i64 ((i + 1 : Nat) : Int))] = [(1, .slice (some ⟨b2, o2, none⟩) l2 k2), (7, .slice (some ⟨b5, o5, none⟩) l2 k5), (34, .slice (some ⟨b5, o5, none⟩) l2 k5), (35, .int .i64 (l2 : Int)), (36, .int .i64 (s' : Nat))] ∧ (s' ≤ l2 ∧ ∀ S, Fr S m2 m4) ∧ l2 - s' < l2 - i := by
      exact ⟨i + 1, rfl, ⟨by omega, fun S => (f23 S).trans (f4 S)⟩, by omega⟩
    refine ifB_t ?_
    refine ⟨⟨by omega, by omega⟩, z, cellB ((((F3 fun _ _ => False).trans (f4 _)).cell (hZ.data i z hzi) id)), ?_⟩
    refine ifB_of (fun hz => ?_) (fun _ => next)
    have hz : 0 < z := by have := of_decide_eq_true hz; omega
    have hroom : 0 < roomOf z := by
      unfold roomOf
      rw [if_neg (by omega)]
      split <;> omega
    refine ⟨_, _, _, e0, ?_⟩
    refine ifB_of (fun hq0 => ?_) (fun _ => next)
    have hq0 : g.q = 0 := by have := eq_of_beq hq0; omega
    refine ⟨_, e1, ?_⟩
    rcases hcs with ⟨_, h1, _⟩ | ⟨hc, _⟩
    · have := h1 hroom; omega
    · have hc1 : g.c = 1 := hc
      rw [hc1]
      exact ifB_f next
  · rw [decide_eq_false (by omega)]
    refine ifB_f (WPS.piece [1, 7] rfl (p_laws_FnReadsGive_rrrrrr a2 l2 k2 a5 l2 k5 m3 _ ?_))
    have : ((l2 : Int) == (l2 : Int)) = true := beq_self_eq_true _
    rw [this]
    exact hk m3 F3
theorem readsGive_lifted (os : Os) (started : os.Started) (H : Type) (enc : TypeId × Value → H) :
    ReturnsInHanded {} Tryz.checked os f_laws_FnReadsGive .any (fun w args => (Rows.fnReadsGiveSpec.pre enc Tryz.prog (fnAt f_laws_FnReadsGive) [] false w args ∧ laidMetH Tryz.prog laidL w) ∧ sizedMet enc Tryz.prog (fnAt f_laws_FnReadsGive) (OpenSpec.ofChange Rows.fnReadsGiveSpec) false w args)
      (Rows.fnReadsGiveSpec.post enc Tryz.prog (fnAt f_laws_FnReadsGive) false true false false) := by
  refine returnsInHanded_of_change_and (C := Tryz.checked) (X := fun w _ => laidMetH Tryz.prog laidL w) (fun _ _ _ hh h => h.of_heap hh) own started (by kernel_rfl) (by kernel_rfl)
    (ChangeSpec.witness_shaped (enc := enc) (C := Tryz.checked) (os := os) (X := fun w _ => laidMetH Tryz.prog laidL w) false (World.doorLaid Tryz.prog 400 os) #[.slice none 0 0, .slice none 0 0] 8 rfl (shaped os _) (by kernel_rfl) (by kernel_rfl) (by kernel_rfl) (door_met os _)) ?_
  intro W base args ds gs before hval0 hW _ _ hL _
  have hp : (fnAt f_laws_FnReadsGive).params = #[t_s_uint8, t_s_int] := by kernel_rfl
  have hval : ∀ (j : Nat) t v, (fnAt f_laws_FnReadsGive).params[j]? = some t → args[j]? = some v → Value.okWide Tryz.prog W .any base t v := hval0
  have hW' := hW
  obtain ⟨p, q, hA, hV, _, _, _⟩ := hW
  rw [hp] at hA hval
  obtain ⟨v0, v1, d0, d1, p0, p1, rfl, rfl, rfl, h0, h1⟩ := trodAll_two hA
  obtain ⟨a0, l0, k0, b0, o0, s0, rfl, hS0⟩ := bytes_arg (hval 0 _ v0 rfl rfl) h0
  obtain ⟨a1, l1, k1, b1, o1, s1, rfl, hS1⟩ := ints_arg (hval 1 _ v1 rfl rfl) h1
  obtain ⟨E, hG⟩ := glob_laid hL
  obtain ⟨g, rfl⟩ : ∃ g, gs = [g] := by
    match gs, hV with
    | [g], _ => exact ⟨g, rfl⟩
    | _ :: _ :: _, ⟨_, _, _, _, _, _, _, _, _, _, h, _⟩ => exact h.elim
  refine (calls_of (readsGive_walk hS0 hS1 hG fun m' hf => ⟨rfl, hf⟩)).mono fun e W' ⟨he, hs, hf⟩ => ⟨_, he, ?_⟩
  exact law_post hW' hs hf (tb := t_bool) (by kernel_rfl) (by kernel_rfl) rfl readable (by kernel_rfl) codeVar
theorem readsGive_said : Rows.FnReadsGiveSaid :=
  OpenClaim.holds_of_wide f_laws_FnReadsGive (fnAt f_laws_FnReadsGive) rfl rfl rfl rfl rfl rfl rfl ⟨rfl, rfl, rfl, rfl, rfl⟩ rfl rfl rfl rfl rfl (by kernel_rfl) (by kernel_rfl) (by kernel_rfl)
    (of_decide_eq_true (by kernel_rfl)) (by unfold Func.isWrapper; rw [if_neg (of_decide_eq_false (by kernel_rfl))]; exact ⟨rfl, rfl⟩)
    (fun os started H enc _ => readsGive_lifted os started H enc)
end Go.Proofs.YthhfbogakdechaaGreatDoor

namespace Go.Proofs.YthhfbogakdechaaGreatDoor
open Go Go.M
set_option maxRecDepth 100000
theorem readsGive_card : Rows.FnReadsGiveCardSaid :=
  Claim7.holds_tied_plain_at .later [] [.handle, .sentinel, .sentinel, .sentinel, .data] true Rows.fnReadsGiveCard.stood.harness true
    readsGive_said (fun _ h => by cases h) (by kernel_rfl) (fun _ h => by cases h) fnReadsGive_row_tie rfl ⟨rfl, rfl⟩ (by kernel_rfl) rfl
    (fun f fn hf hfn => by
      obtain rfl : f = f_laws_FnReadsGive := Option.some.inj ((show Tryz.prog.funcNamed "loop.example/pub-inflation/laws.FnReadsGive" = some f_laws_FnReadsGive by kernel_rfl).symm.trans hf) |>.symm
      obtain rfl : fn = fnAt f_laws_FnReadsGive := (Option.some.inj ((show Tryz.prog.funcs[f_laws_FnReadsGive]? = some (fnAt f_laws_FnReadsGive) by kernel_rfl).symm.trans hfn)).symm
      exact ⟨by kernel_rfl, fun j t ht => by
        rw [show (fnAt f_laws_FnReadsGive).params = #[t_s_uint8, t_s_int] by kernel_rfl] at ht
        have h3 : t = t_s_int ∨ t = t_s_uint8 := by
          have hm : t ∈ [t_s_uint8, t_s_int] := List.mem_of_getElem? (by simpa using ht)
          simp only [List.mem_cons, List.not_mem_nil, or_false] at hm
          rcases hm with rfl | rfl <;> simp
        rcases h3 with rfl | rfl
        · exact (show Tryz.prog.wantsStandIn t_s_int = false by kernel_rfl)
        · exact (show Tryz.prog.wantsStandIn t_s_uint8 = false by kernel_rfl)⟩)
    (by kernel_rfl)
end Go.Proofs.YthhfbogakdechaaGreatDoor
