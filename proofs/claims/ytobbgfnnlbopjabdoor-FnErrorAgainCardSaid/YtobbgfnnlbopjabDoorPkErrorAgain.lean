/- FnErrorAgain: behind an error there is the same one again, of streams that give at most 60000 bytes: the tied card. For every slice of bytes. The package variables are as the program's text lays them. -/
import Derived.Test.YtobbgfnnlbopjabDoorPkx
import Derived.Test.YtobbgfnnlbopjabDoorPkr
import Derived.Test.YtobbgfnnlbopjabDoorPkw
import Derived.Test.YtobbgfnnlbopjabDoorPky
import Derived.Test.YtobbgfnnlbopjabDoorCards
import Derived.SevenTiedAt
namespace Go.M
open Go
set_option maxRecDepth 100000

theorem got_store {m : Mem} {a : Addr} {v1 v2 : Value} {K : Mem → Prop} (h : SemW PP (storeCells a [v1, v2] 0) m fun _ m' => K m') : StAgg PP t_impl_Got m a (.agg #[v1, v2]) K := Eq.mpr (by kernel_rfl) h

theorem sum_take_le (L : List Nat) : ∀ {i j : Nat}, i ≤ j → (L.take i).sum ≤ (L.take j).sum := by
  induction L with
  | nil => intro i j _; simp
  | cons a L ih =>
    intro i j h
    cases i with
    | zero => simp
    | succ i =>
      cases j with
      | zero => omega
      | succ j => simp only [List.take_succ_cons, List.sum_cons]; have := ih (show i ≤ j by omega); omega

/-- Behind an error: nothing more, and the same error. -/
theorem GotsOk.dead {Hf : List Nat} {e : Er} {zs : List Int} {gs : List GotR} {Dl : Nat} (h : GotsOk Hf e zs gs Dl) {i j : Nat} {g g' : GotR} {z z' : Int} (hi : gs[i]? = some g) (hz : zs[i]? = some z) (hc : g.c ≠ 0) (hij : i < j) (hj : gs[j]? = some g') (hz' : zs[j]? = some z') (hr : 0 < roomOf z') : g'.q = 0 ∧ g'.c = codeOf e := by
  obtain ⟨_, h1⟩ := h.one i g z hi hz
  obtain ⟨_, h2⟩ := h.one j g' z' hj hz'
  have h3 := h.at_ i g hi
  have h4 := h.at_ j g' hj
  have h5 : ((gs.take (i + 1)).map GotR.q).sum = g.Dl + g.q := by
    have hlt := (List.getElem?_eq_some_iff.1 hi).1
    have he : gs[i] = g := (List.getElem?_eq_some_iff.1 hi).2
    rw [List.take_succ_eq_append_getElem hlt, List.map_append, List.sum_append, ← h3, he]; simp
  have h6 := sum_take_le (gs.map GotR.q) (show i + 1 ≤ j by omega)
  rw [← List.map_take, ← List.map_take, h5, ← h4] at h6
  rcases h1 with ⟨h7, _⟩ | ⟨h7, h8⟩
  · exact absurd h7 hc
  · rcases h2 with ⟨h9, h10, h11⟩ | ⟨h9, h10⟩
    · have := h10 hr; omega
    · exact ⟨by omega, h9⟩

theorem GotRow.cells {m : Mem} {a : Option Addr} {l k b o : Nat} {Hf : List Nat} {gs : List GotR} (h : GotRow m a l k b o Hf gs) {i : Nat} {g : GotR} (hi : gs[i]? = some g) : cell? m ⟨b, o + i * 2, none⟩ = some (.slice g.a g.q g.k) ∧ cell? m ⟨b, o + i * 2 + 1, none⟩ = some (.int .i64 g.c) := by
  have key : ∀ (gs : List GotR) (i : Nat), gs[i]? = some g → (gs.flatMap gotV)[i * 2]? = some (.slice g.a g.q g.k) ∧ (gs.flatMap gotV)[i * 2 + 1]? = some (.int .i64 g.c) := by
    intro gs
    induction gs with
    | nil => intro i h; simp at h
    | cons x gs ih =>
      intro i h
      cases i with
      | zero =>
        simp only [List.getElem?_cons_zero, Option.some.injEq] at h
        subst h
        simp [gotV]
      | succ i =>
        simp only [List.getElem?_cons_succ] at h
        have := ih i h
        rw [List.flatMap_cons, show (i + 1) * 2 = i * 2 + 2 from by omega]
        have hl : (gotV x).length = 2 := rfl
        refine ⟨?_, ?_⟩
        · rw [List.getElem?_append_right (by omega), hl, show i * 2 + 2 - 2 = i * 2 from by omega]; exact this.1
        · rw [List.getElem?_append_right (by omega), hl, show i * 2 + 2 + 1 - 2 = i * 2 + 1 from by omega]; exact this.2
  obtain ⟨h1, h2⟩ := key gs i hi
  exact ⟨h.own.row _ _ h1, by rw [Nat.add_assoc]; exact h.own.row _ _ h2⟩

/-- An answer is taken out of the row: a copy of it. -/
theorem take_got_W {m : Mem} {g : GotR} {K : Nat → Mem → Prop}
    (hk : ∀ m' n, (∀ S, Fr S m m') → cell? m' ⟨n, 0, none⟩ = some (.slice g.a g.q g.k) → cell? m' ⟨n, 1, none⟩ = some (.int .i64 g.c) → K n m') :
    AllocW PP t_impl_Got m fun n18 m19 => StAgg PP t_impl_Got m19 ⟨n18, 0, none⟩ (.agg #[.slice g.a g.q g.k, .int .i64 g.c]) fun m20 => K n18 m20 := by
  refine alloc_W z_got ?_
  have w0 : ∀ j, j < 2 → Wr (m.push (.cells #[.slice none 0 0, .int .i64 0] t_impl_Got)) ⟨m.size, j, none⟩ := fun j hj => wr_new (by simpa using hj)
  have f1 : ∀ S, Fr S m (m.push (.cells #[.slice none 0 0, .int .i64 0] t_impl_Got)) := fun S => Fr.push _
  show StAgg PP t_impl_Got (m.push (.cells #[.slice none 0 0, .int .i64 0] t_impl_Got)) _ _ _
  generalize m.push (.cells #[.slice none 0 0, .int .i64 0] t_impl_Got) = m1 at w0 f1 ⊢
  refine got_store (Row.storeCells (vs := [.slice g.a g.q g.k, .int .i64 g.c]) (i := 0) (by intro v hv; simp at hv; rcases hv with rfl | rfl <;> rfl) (fun j hj => by simpa using w0 j hj) fun m2 h1 h2 _ => ?_)
  refine hk m2 m.size (fun S => ?_) (by have := h1 0 _ rfl; simpa using this) (by have := h1 1 _ rfl; simpa using this)
  refine Fr.old ((f1 _).trans h2) ?_
  rintro x y hx ⟨rfl, _⟩; omega
end Go.M
namespace Go.Proofs.YtobbgfnnlbopjabDoor
open Go Go.M Go.ChangeShapes Go.WideShapes Go.ChangeAt Go.RowKit
set_option maxRecDepth 100000

theorem errorAgain_walk {E : Errs} {src : List Nat} {m : Mem} {a : Option Addr} {l k b o : Nat} (hS : SlcB m a l k b o src) (hG : Glob E m) {R : Value → Mem → Prop} (hk : ∀ m', (∀ S, Fr S m m') → R (.bool true) m') : CallM PP f_laws_FnErrorAgain #[.slice a l k] m R := by
  refine e_laws_FnErrorAgain a l k m R ?_
  by_cases h1 : (l : Int) > 2147483647
  · rw [decide_eq_true h1]; exact ifB_t (hk m fun S => Fr.refl S m)
  rw [decide_eq_false h1]
  refine ifB_f ?_
  by_cases h2 : (l : Int) > 16777216
  · rw [decide_eq_true h2]; exact ifB_t (hk m fun S => Fr.refl S m)
  rw [decide_eq_false h2]
  have h0 : SlcB m none 0 0 0 0 [] := ⟨rfl, Nat.le_refl _, fun h0 => absurd h0 (by decide), fun i hi => absurd hi (Nat.not_lt_zero i), by simp⟩
  refine ifB_f (Inflate_spec (d := []) hS h0 (by omega) (by decide) fun m1 a1 l1 k1 b1 o1 z u out hO1 hok f1 => ⟨_, _, _, _, _, rfl, ?_⟩)
  have main : z = 2 ∨ z = 3 → SemW PP (sv (Instr.makeSlice t_s_int (.int .i64 40) (.int .i64 40))) m1 (NextW PP fun v14 m15 => ∃ (a11 : Option Addr), ∃ (l12 : Nat), ∃ (k13 : Nat), v14 = .slice a11 l12 k13 ∧ WPS PP 101 c_laws_FnErrorAgain_rrrrrrlrl (((retK PP r_laws_FnErrorAgain R).withN fun r m => WPS PP 101 c_laws_FnErrorAgain_rrrrrrr (retK PP r_laws_FnErrorAgain R) r m).withX 0) [(0, .slice a l k), (2, .bool false), (3, .slice a1 l1 k1), (4, .int .i64 z), (6, .slice a11 l12 k13), (40, .int .i64 (l12 : Int)), (41, .int .i64 0)] m15) := by
    intro hz
    have F1 := f1 fun _ _ => False
    have hS1 := hS.sp F1 fun _ _ => id
    have hG1 := hG.fr F1 fun _ _ h => h.elim
    obtain ⟨q, e, pf, hr, hq, hb, hpre, r1, r2, r3⟩ := hok.run (by omega)
    replace hr : Runs (scOf src) ⟨0, [], .block⟩ q e pf := hr
    obtain ⟨iu, hi⟩ := one_int
    refine make_W (n := 40) u_s_int hi.info hi.zero rfl hi.size rfl rfl (by rw [hi.bytes]; omega) (by omega) fun m2 own2 f2 s2 => ⟨_, _, _, rfl, ?_⟩
    generalize hB : m1.size = B at own2
    rw [q_laws_FnErrorAgain_rrrrrrlrl]
    refine loopW ffOk mixedOk (L₀ := L_laws_FnErrorAgain) (σ := Nat) [0, 6, 40, 41] (fun i => [(0, .slice a l k), (6, .slice (some ⟨B, 0, none⟩) 40 40), (40, .int .i64 40), (41, .int .i64 (i : Nat))])
      (fun i m' => i ≤ 40 ∧ (∀ j, j < i → cell? m' ⟨B, j, none⟩ = some (.int .i64 65536)) ∧ (∀ j, j < 40 → Wr m' ⟨B, j, none⟩) ∧ ∀ S, Fr S m1 m') (fun i => 40 - i) 0 rfl ⟨Nat.zero_le _, fun j hj => by omega, fun j hj => by have := own2.wr j (by omega); rwa [Nat.zero_add] at this, f2⟩ ?_
    rintro i m3 ⟨hi3, hc3, hw3, f3⟩
    refine p_laws_FnErrorAgain_rrrrrrlrll a l k _ 40 40 40 i m3 _ ?_
    by_cases hil : i < 40
    · rw [decide_eq_true (by omega)]
      have hw : IntKind.wrap .i64 ((i : Int) + 1) = ((i + 1 : Nat) : Int) := by rw [wrap64_id (by omega) (by omega)]; rfl
      rw [hw]
      refine ifB_t ⟨⟨by omega, by omega⟩, ?_⟩
      rw [show aplus ⟨B, 0, none⟩ ((i : Int)).toNat = ⟨B, i, none⟩ by simp [aplus]]
      refine StW.at rfl (hw3 i hil) fun m4 c4 f4 _ => ?_
      refine ⟨i + 1, rfl, ⟨by omega, fun j hj => ?_, fun j hj => (hw3 j hj).fr f4, fun S => ?_⟩, by omega⟩
      · by_cases hji : j = i
        · subst hji; exact c4
        · exact f4.cell (hc3 j (by omega)) (by rintro ⟨_, e⟩; exact hji e)
      · refine Fr.old ((f3 _).trans f4) ?_
        rintro x y hx ⟨rfl, _⟩; omega
    rw [decide_eq_false (by omega)]
    have hi40 : i = 40 := by omega
    subst hi40
    refine ifB_f (WPS.piece [0, 6] rfl (p_laws_FnErrorAgain_rrrrrrr a l k _ 40 40 m3 _ ?_))
    have hS3 := hS1.sp (f3 fun _ _ => False) fun _ _ => id
    have hG3 := hG1.fr (f3 fun _ _ => False) fun _ _ h => h.elim
    have hZ : SlcZ m3 (some ⟨B, 0, none⟩) 40 40 B 0 (List.replicate 40 65536) := ⟨rfl, Nat.le_refl _, fun _ => rfl, fun j v hv => by
      rw [List.getElem?_replicate] at hv
      split at hv
      · simp only [Option.some.injEq] at hv
        subst hv
        rw [Nat.zero_add]; exact hc3 j ‹_›
      · cases hv⟩
    refine Reads_spec hS3 hZ (by decide) hG3 (by omega) hr fun m4 a4 k4 b4 o4 gs Dl hR4 hgs f4 => ⟨_, _, _, rfl, ?_⟩
    have hS4 := hS3.sp (f4 fun _ _ => False) fun _ _ => id
    have hG4 := hG3.fr (f4 fun _ _ => False) fun _ _ h => h.elim
    refine All_short hS4 hG4 (by omega) hr hq fun m5 a5 k5 b5 o5 hO5 _ f5 => ⟨_, _, _, _, rfl, ?_⟩
    have hR5 := hR4.fr (f5 fun _ _ => False) (fun _ _ => id) (fun _ _ _ _ => id)
    have F5 : ∀ S, Fr S m m5 := fun S => (f1 S).trans ((f3 S).trans ((f4 S).trans (f5 S)))
    have hgl := hR5.len
    have hat := hR5.own.at_ (by have := hR5.own.le; omega)
    subst hat
    have hle := hR5.own.le
    have e0 : codeOf e ≠ 0 := by cases e <;> decide
    have hz40 : ∀ i, i < 40 → (List.replicate 40 (65536 : Int))[i]? = some 65536 := fun i h => by rw [List.getElem?_replicate, if_pos h]
    rw [q_laws_FnErrorAgain_rrrrrrrrrlrl]
    refine loopW ffOk mixedOk (L₀ := L_laws_FnErrorAgain) (σ := Nat) [6, 8, 10, 56, 57, 58] (fun i => [(6, .slice (some ⟨B, 0, none⟩) 40 40), (8, .slice (some ⟨b4, o4, none⟩) 40 k4), (10, .int .i64 (codeOf e)), (56, .slice (some ⟨b4, o4, none⟩) 40 k4), (57, .int .i64 40), (58, .int .i64 (i : Nat))])
      (fun i m' => i ≤ 40 ∧ GotRow m' (some ⟨b4, o4, none⟩) 40 k4 b4 o4 q gs ∧ ∀ S, Fr S m m') (fun i => 40 - i) 0 rfl ⟨Nat.zero_le _, hR5, F5⟩ ?_
    rintro i m6 ⟨hi6, hR6, F6⟩
    refine p_laws_FnErrorAgain_rrrrrrrrrlrll _ 40 40 _ 40 k4 _ _ 40 k4 40 i m6 _ ?_
    by_cases hil : i < 40
    rotate_left
    · rw [decide_eq_false (by omega)]
      exact ifB_f (WPS.piece [6, 8] rfl (p_laws_FnErrorAgain_rrrrrrrrrr _ 40 40 _ 40 k4 m6 _ (hk m6 F6)))
    rw [decide_eq_true (by omega)]
    have hw : IntKind.wrap .i64 ((i : Int) + 1) = ((i + 1 : Nat) : Int) := by rw [wrap64_id (by omega) (by omega)]; rfl
    have hgi : gs[i]? = some (gs[i]'(by omega)) := List.getElem?_eq_getElem (by omega)
    generalize gs[i]'(by omega) = g at hgi
    obtain ⟨c1, c2⟩ := hR6.cells hgi
    refine ifB_t ⟨⟨by omega, by omega⟩, g.a, g.q, g.k, g.c, rfl, ⟨?_, ?_, trivial⟩, ?_⟩
    · rw [show aplus (aplus ⟨b4, o4, none⟩ ((i : Int).toNat * 2)) 0 = ⟨b4, o4 + i * 2, none⟩ by simp [aplus]]; exact c1
    · rw [show aplus (aplus ⟨b4, o4, none⟩ ((i : Int).toNat * 2)) (0 + 1) = ⟨b4, o4 + i * 2 + 1, none⟩ by simp [aplus, Nat.add_assoc]]; exact c2
    refine take_got_W fun m7 n f7 c3 c4 => ⟨_, c4, ?_⟩
    rw [hw]
    have hR7 := hR6.fr (f7 fun _ _ => False) (fun _ _ => id) (fun _ _ _ _ => id)
    have F7 : ∀ S, Fr S m m7 := fun S => (F6 S).trans (f7 S)
    by_cases hc : g.c = 0
    · rw [hc]
      exact ifB_t ⟨i + 1, rfl, ⟨by omega, hR7, F7⟩, by omega⟩
    have ec : (g.c == 0) = false := by rw [beq_eq_false_iff_ne]; exact hc
    rw [ec]
    refine ifB_f ⟨_, c4, ?_⟩
    have hce : g.c = codeOf e := by
      rcases (hgs.one i g 65536 hgi (hz40 i hil)).2 with ⟨h, _⟩ | ⟨h, _⟩
      · exact absurd h hc
      · exact h
    rw [hce, bne_self_eq_false]
    refine ifB_f ⟨by omega, ⟨by omega, by omega⟩, ?_⟩
    have hn1 : ((i + 1 : Nat) : Int).toNat = i + 1 := Int.toNat_natCast _
    rw [hn1]
    rw [q_laws_FnErrorAgain_rrrrrrrrrlrllrrllrrrlrl]
    generalize hsa : subA (some ⟨b4, o4, none⟩) (i + 1) 2 k4 = sa
    have hsa' : i + 1 < 40 → sa = some ⟨b4, o4 + (i + 1) * 2, none⟩ := fun h => by
      rw [← hsa]
      unfold subA
      rw [if_neg (by omega)]
      rfl
    refine loopW ffOk mixedOk (L₀ := L_laws_FnErrorAgain) (σ := Nat) [6, 8, 10, 73, 74, 75] (fun j => [(6, .slice (some ⟨B, 0, none⟩) 40 40), (8, .slice (some ⟨b4, o4, none⟩) 40 k4), (10, .int .i64 (codeOf e)), (73, .slice sa (40 - (i + 1)) (k4 - (i + 1))), (74, .int .i64 ((40 - (i + 1) : Nat) : Int)), (75, .int .i64 (j : Nat))])
      (fun j m' => j ≤ 40 - (i + 1) ∧ GotRow m' (some ⟨b4, o4, none⟩) 40 k4 b4 o4 q gs ∧ ∀ S, Fr S m m') (fun j => 40 - j) 0 rfl ⟨Nat.zero_le _, hR7, F7⟩ ?_
    rintro j m8 ⟨hj8, hR8, F8⟩
    refine p_laws_FnErrorAgain_rrrrrrrrrlrllrrllrrrlrll _ 40 40 _ 40 k4 _ sa _ _ _ j m8 _ ?_
    by_cases hjl : j < 40 - (i + 1)
    rotate_left
    · rw [decide_eq_false (by omega)]
      exact ifB_f (WPS.piece [6, 8] rfl (p_laws_FnErrorAgain_rrrrrrrrrlrllrrllrrrr _ 40 40 _ 40 k4 m8 _ (hk m8 F8)))
    rw [decide_eq_true (by omega)]
    have hwj : IntKind.wrap .i64 ((j : Int) + 1) = ((j + 1 : Nat) : Int) := by rw [wrap64_id (by omega) (by omega)]; rfl
    have hgj : gs[i + 1 + j]? = some (gs[i + 1 + j]'(by omega)) := List.getElem?_eq_getElem (by omega)
    generalize gs[i + 1 + j]'(by omega) = g' at hgj
    obtain ⟨d1, d2⟩ := hR8.cells hgj
    obtain ⟨hq0, hc0⟩ := hgs.dead hgi (hz40 i hil) hc (show i < i + 1 + j by omega) hgj (hz40 _ (by omega)) (by decide)
    rw [hsa' (by omega)]
    refine ifB_t ⟨⟨by omega, by omega⟩, g'.a, g'.q, g'.k, g'.c, rfl, ⟨?_, ?_, trivial⟩, ?_⟩
    · rw [show aplus (aplus ⟨b4, o4 + (i + 1) * 2, none⟩ ((j : Int).toNat * 2)) 0 = ⟨b4, o4 + (i + 1 + j) * 2, none⟩ by simp [aplus]; omega]; exact d1
    · rw [show aplus (aplus ⟨b4, o4 + (i + 1) * 2, none⟩ ((j : Int).toNat * 2)) (0 + 1) = ⟨b4, o4 + (i + 1 + j) * 2 + 1, none⟩ by simp [aplus]; omega]; exact d2
    refine take_got_W fun m9 n9 f9 c5 c6 => ⟨_, c6, ?_⟩
    rw [hc0, bne_self_eq_false]
    refine ifB_f ⟨_, _, _, c5, ?_⟩
    rw [hq0, hwj]
    refine ifB_f ⟨j + 1, rfl, ⟨by omega, hR8.fr (f9 fun _ _ => False) (fun _ _ => id) (fun _ _ _ _ => id), fun S => (F8 S).trans (f9 S)⟩, by omega⟩
  by_cases hz2 : z = 2
  · have e2 : (z != 2) = false := by rw [hz2]; rfl
    rw [e2]
    refine ifB_f ?_
    by_cases h6 : (l1 : Int) > 60000
    · rw [decide_eq_true h6]; exact ifB_t (hk m1 f1)
    · rw [decide_eq_false h6]; exact ifB_f (main (.inl hz2))
  · have e2 : (z != 2) = true := by rw [bne_iff_ne]; exact hz2
    rw [e2]
    refine ifB_t ?_
    by_cases hz3 : z = 3
    · have e3 : (z != 3) = false := by rw [hz3]; rfl
      rw [e3]
      refine ifB_f ?_
      by_cases h6 : (l1 : Int) > 60000
      · rw [decide_eq_true h6]; exact ifB_t (hk m1 f1)
      · rw [decide_eq_false h6]; exact ifB_f (main (.inr hz3))
    · have e3 : (z != 3) = true := by rw [bne_iff_ne]; exact hz3
      rw [e3]
      exact ifB_t (hk m1 f1)

theorem errorAgain_lifted (os : Os) (started : os.Started) (H : Type) (enc : TypeId × Value → H) :
    ReturnsInHanded {} Tryd.checked os f_laws_FnErrorAgain .any (fun w args => (Rows.fnErrorAgainSpec.pre enc Tryd.prog (fnAt f_laws_FnErrorAgain) [] false w args ∧ laidMetH Tryd.prog laidL w) ∧ sizedMet enc Tryd.prog (fnAt f_laws_FnErrorAgain) (OpenSpec.ofChange Rows.fnErrorAgainSpec) false w args)
      (Rows.fnErrorAgainSpec.post enc Tryd.prog (fnAt f_laws_FnErrorAgain) false true false false) := by
  refine returnsInHanded_of_change_and (C := Tryd.checked) (X := fun w _ => laidMetH Tryd.prog laidL w) (fun _ _ _ hh h => h.of_heap hh) own started (by kernel_rfl) (by kernel_rfl)
    (ChangeSpec.witness_shaped (enc := enc) (C := Tryd.checked) (os := os) (X := fun w _ => laidMetH Tryd.prog laidL w) false (World.doorLaid Tryd.prog 400 os) #[.slice none 0 0] 8 rfl (shaped os _) (by kernel_rfl) (by kernel_rfl) (by kernel_rfl) (door_met os _)) ?_
  intro W base args ds gs before hval0 hW _ _ hL _
  have hp : (fnAt f_laws_FnErrorAgain).params = #[t_s_uint8] := by kernel_rfl
  have hval : ∀ (j : Nat) t v, (fnAt f_laws_FnErrorAgain).params[j]? = some t → args[j]? = some v → Value.okWide Tryd.prog W .any base t v := hval0
  have hW' := hW
  obtain ⟨p, q, hA, hV, _, _, _⟩ := hW
  rw [hp] at hA hval
  obtain ⟨v0, d0, rfl, rfl, h0⟩ := trodAll_one hA
  obtain ⟨a0, l0, k0, b0, o0, s0, rfl, hS0⟩ := bytes_arg (hval 0 _ v0 rfl rfl) h0
  obtain ⟨E, hG⟩ := glob_laid hL
  obtain ⟨g, rfl⟩ : ∃ g, gs = [g] := by
    match gs, hV with
    | [g], _ => exact ⟨g, rfl⟩
    | _ :: _ :: _, ⟨_, _, _, _, _, _, _, _, _, _, h, _⟩ => exact h.elim
  refine (calls_of (errorAgain_walk hS0 hG fun m' hf => ⟨rfl, hf⟩)).mono fun e W' ⟨he, hs, hf⟩ => ⟨_, he, ?_⟩
  exact law_post hW' hs hf (tb := t_bool) (by kernel_rfl) (by kernel_rfl) rfl readable (by kernel_rfl) codeVar

theorem errorAgain_said : Rows.FnErrorAgainSaid :=
  OpenClaim.holds_of_wide f_laws_FnErrorAgain (fnAt f_laws_FnErrorAgain) rfl rfl rfl rfl rfl rfl rfl ⟨rfl, rfl, rfl, rfl, rfl⟩ rfl rfl rfl rfl rfl (by kernel_rfl) (by kernel_rfl) (by kernel_rfl)
    (of_decide_eq_true (by kernel_rfl)) (by unfold Func.isWrapper; rw [if_neg (of_decide_eq_false (by kernel_rfl))]; exact ⟨rfl, rfl⟩)
    (fun os started H enc _ => errorAgain_lifted os started H enc)
end Go.Proofs.YtobbgfnnlbopjabDoor

namespace Go.Proofs.YtobbgfnnlbopjabDoor
open Go Go.M
set_option maxRecDepth 100000

theorem errorAgain_card : Rows.FnErrorAgainCardSaid :=
  Claim7.holds_tied_plain_at .later [] [.handle, .sentinel, .sentinel, .sentinel, .data] true Rows.fnErrorAgainCard.stood.harness true
    errorAgain_said (fun _ h => by cases h) (by kernel_rfl) (fun _ h => by cases h) fnErrorAgain_row_tie rfl ⟨rfl, rfl⟩ (by kernel_rfl) rfl
    (fun f fn hf hfn => by
      obtain rfl : f = f_laws_FnErrorAgain := Option.some.inj ((show Tryd.prog.funcNamed "loop.example/pub-inflation/laws.FnErrorAgain" = some f_laws_FnErrorAgain by kernel_rfl).symm.trans hf) |>.symm
      obtain rfl : fn = fnAt f_laws_FnErrorAgain := (Option.some.inj ((show Tryd.prog.funcs[f_laws_FnErrorAgain]? = some (fnAt f_laws_FnErrorAgain) by kernel_rfl).symm.trans hfn)).symm
      exact ⟨by kernel_rfl, fun j t ht => by
        rw [show (fnAt f_laws_FnErrorAgain).params = #[t_s_uint8] by kernel_rfl] at ht
        have h3 : t = t_s_uint8 := by
          rcases j with _ | j
          · simpa using ht.symm
          · simp at ht
        subst h3
        exact (show Tryd.prog.wantsStandIn t_s_uint8 = false by kernel_rfl)⟩)
    (by kernel_rfl)
end Go.Proofs.YtobbgfnnlbopjabDoor
