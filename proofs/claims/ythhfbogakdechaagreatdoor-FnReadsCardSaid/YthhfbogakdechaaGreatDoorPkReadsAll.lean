/- FnReads: reads of any sizes give the same bytes one behind the other: the tied card. For every slice of bytes and every slice of numbers. The package variables are as the program's text lays them. -/
import Derived.Test.YthhfbogakdechaaGreatDoorPke
import Derived.Test.YthhfbogakdechaaGreatDoorPkx
import Derived.Test.YthhfbogakdechaaGreatDoorPkr
import Derived.Test.YthhfbogakdechaaGreatDoorPkza
import Derived.Test.YthhfbogakdechaaGreatDoorPkzf
import Derived.Test.YthhfbogakdechaaGreatDoorCards
import Derived.SevenTiedAt
set_option maxRecDepth 100000
namespace Go.M
open Go Go.Proofs
def L_laws_FnReads : List Nat := [0, 1, 4, 5, 6, 7, 8, 9, 10, 18, 26, 35, 36, 37, 38, 66, 80]
def r_laws_FnReads : List ResultVar := [.tmp 4]
noncomputable def c_laws_FnReads : Code := (Go.Proofs.Tryz.f8.body).getD .skip
theorem b_laws_FnReads : Go.Proofs.Tryz.f8.body = some c_laws_FnReads := by kernel_rfl
noncomputable def c_laws_FnReads_rrrrrrr : Code := (rgt (rgt (rgt (rgt (rgt (rgt (rgt c_laws_FnReads)))))))
noncomputable def c_laws_FnReads_rrrrrrlrl : Code := (lft (rgt (lft (rgt (rgt (rgt (rgt (rgt (rgt c_laws_FnReads)))))))))
noncomputable def c_laws_FnReads_rrrrrrlrll : Code := (lft c_laws_FnReads_rrrrrrlrl)
theorem q_laws_FnReads_rrrrrrlrl : c_laws_FnReads_rrrrrrlrl = .loop c_laws_FnReads_rrrrrrlrll := by kernel_rfl
theorem e_laws_FnReads (a1 : Option Addr) (l2 : Nat) (k3 : Nat) (a4 : Option Addr) (l5 : Nat) (k6 : Nat) (m : Mem) (R : Value → Mem → Prop)
    (h : ifB (decide ((l2 : Int) > 2147483647)) (R (.bool true) m) (ifB (decide ((l5 : Int) > 2147483647)) (R (.bool true) m) (ifB (decide ((l2 : Int) > 16777216)) (R (.bool true) m) (ifB (decide ((l5 : Int) > 16777216)) (R (.bool true) m) (CallM PP f_spec_MixedOf #[.slice a1 l2 k3] m fun v13 m14 => ∃ a7 l8, ∃ k9 a10, ∃ l11 k12, v13 = .tuple #[.slice a7 l8 k9, .slice a10 l11 k12] ∧ CallM PP f_impl_Reads #[.slice a7 l8 k9, .slice a4 l5 k6] m14 fun v18 m19 => ∃ a15 l16 k17, v18 = .slice a15 l16 k17 ∧ WPS PP 92 c_laws_FnReads_rrrrrrlrl (((retK PP r_laws_FnReads R).withN fun r m => WPS PP 92 c_laws_FnReads_rrrrrrr (retK PP r_laws_FnReads R) r m).withX 0) [(0, .slice a1 l2 k3), (1, .slice a4 l5 k6), (4, .bool false), (5, .slice a7 l8 k9), (6, .slice a10 l11 k12), (7, .slice none 0 0), (8, .slice a15 l16 k17), (35, .slice a15 l16 k17), (36, .int .i64 (l16 : Int)), (37, .int .i64 0)] m19))))) :
    CallM PP f_laws_FnReads #[.slice a1 l2 k3, .slice a4 l5 k6] m R :=
  callM_enter ffOk mixedOk 92 L_laws_FnReads Tryz.func8 b_laws_FnReads Tryz.ntmps8 (by simp) (Eq.mpr (by kernel_rfl) h)
theorem p_laws_FnReads_rrrrrrr (a1 : Option Addr) (l2 : Nat) (k3 : Nat) (a4 : Option Addr) (l5 : Nat) (k6 : Nat) (a7 : Option Addr) (l8 : Nat) (k9 : Nat) (a10 : Option Addr) (l11 : Nat) (k12 : Nat) (m : Mem) (K : Kont)
    (h : ifB ((l11 : Int) == (l2 : Int)) (CallM PP f_laws_begins #[.slice a4 l5 k6, .slice a7 l8 k9] m fun v14 m15 => ∃ b13, v14 = .bool b13 ∧ K.kr [(1, .slice a1 l2 k3), (4, .bool b13), (6, .slice a4 l5 k6), (7, .slice a7 l8 k9), (8, .slice a10 l11 k12)] m15) (K.kr [(1, .slice a1 l2 k3), (4, .bool false), (6, .slice a4 l5 k6), (7, .slice a7 l8 k9), (8, .slice a10 l11 k12)] m)) :
    wpc PP FF 92 L_laws_FnReads c_laws_FnReads_rrrrrrr K [(1, .slice a1 l2 k3), (6, .slice a4 l5 k6), (7, .slice a7 l8 k9), (8, .slice a10 l11 k12)] m :=
  Eq.mpr (by kernel_rfl) h
theorem p_laws_FnReads_rrrrrrlrll (a1 : Option Addr) (l2 : Nat) (k3 : Nat) (a4 : Option Addr) (l5 : Nat) (k6 : Nat) (a7 : Option Addr) (l8 : Nat) (k9 : Nat) (a10 : Option Addr) (l11 : Nat) (k12 : Nat) (a13 : Option Addr) (l14 : Nat) (k15 : Nat) (x16 : Int) (x17 : Int) (m : Mem) (K : Kont)
    (h : ifB (decide (x17 < x16)) (onSome a13 fun p18 => (0 ≤ x17 ∧ x17 < (l14 : Int)) ∧ ∃ a19 l20, ∃ k21 x22, ([.slice a19 l20 k21, .int .i64 x22] : List Value).length = 2 ∧ CellsAre m (aplus p18 (x17.toNat * 2)) 0 [.slice a19 l20 k21, .int .i64 x22] ∧ AllocW PP t_impl_Got m fun n23 m24 => StAgg PP t_impl_Got m24 ⟨n23, 0, none⟩ (.agg #[.slice a19 l20 k21, .int .i64 x22]) fun m25 => ifB (decide (x17 ≥ (l2 : Int))) (K.kr [(1, .slice a1 l2 k3), (4, .bool false), (6, .slice a4 l5 k6), (7, .slice a7 l8 k9), (8, .slice a10 l11 k12), (9, .int .i64 x17), (10, .pointer (some ⟨n23, 0, none⟩)), (35, .slice a13 l14 k15), (36, .int .i64 x16), (37, .int .i64 x17)] m25) (∃ a26 l27 k28, cell? m25 ⟨n23, 0, none⟩ = some (.slice a26 l27 k28) ∧ onSome a1 fun p29 => (0 ≤ x17 ∧ x17 < (l2 : Int)) ∧ ∃ x30, cell? m25 (aplus p29 x17.toNat) = some (.int .i64 x30) ∧ ifB (decide ((l27 : Int) > if x30 > 0 then x30 else 0)) (K.kr [(1, .slice a1 l2 k3), (4, .bool false), (6, .slice a4 l5 k6), (7, .slice a7 l8 k9), (8, .slice a10 l11 k12), (9, .int .i64 x17), (10, .pointer (some ⟨n23, 0, none⟩)), (35, .slice a13 l14 k15), (36, .int .i64 x16), (37, .int .i64 x17)] m25) (∃ x31, cell? m25 ⟨n23, 1, none⟩ = some (.int .i64 x31) ∧ ifB (x31 != 0) (∃ x32, cell? m25 ⟨n23, 1, none⟩ = some (.int .i64 x32) ∧ ifB (x32 != 1) (K.kr [(1, .slice a1 l2 k3), (4, .bool false), (6, .slice a4 l5 k6), (7, .slice a7 l8 k9), (8, .slice a10 l11 k12), (9, .int .i64 x17), (10, .pointer (some ⟨n23, 0, none⟩)), (35, .slice a13 l14 k15), (36, .int .i64 x16), (37, .int .i64 x17)] m25) (∃ a33 l34 k35, cell? m25 ⟨n23, 0, none⟩ = some (.slice a33 l34 k35) ∧ SemW PP (builtin .append #[t_s_uint8, t_s_uint8] t_s_uint8 #[false, false] #[.slice a7 l8 k9, .slice a33 l34 k35]) m25 (NextW PP fun v39 m40 => ∃ a36 l37 k38, v39 = .slice a36 l37 k38 ∧ ∃ x41, cell? m40 ⟨n23, 1, none⟩ = some (.int .i64 x41) ∧ ifB (x41 == 1) (ifB ((l37 : Int) != (l5 : Int)) (K.kr [(1, .slice a1 l2 k3), (4, .bool false), (6, .slice a4 l5 k6), (7, .slice a36 l37 k38), (8, .slice a10 l11 k12), (9, .int .i64 x17), (10, .pointer (some ⟨n23, 0, none⟩)), (35, .slice a13 l14 k15), (36, .int .i64 x16), (37, .int .i64 x17)] m40) (K.kn [(1, .slice a1 l2 k3), (6, .slice a4 l5 k6), (7, .slice a36 l37 k38), (8, .slice a10 l11 k12), (9, .int .i64 x17), (10, .pointer (some ⟨n23, 0, none⟩)), (35, .slice a13 l14 k15), (36, .int .i64 x16), (37, .int .i64 (IntKind.wrap .i64 (x17 + 1)))] m40)) (K.kn [(1, .slice a1 l2 k3), (6, .slice a4 l5 k6), (7, .slice a36 l37 k38), (8, .slice a10 l11 k12), (9, .int .i64 x17), (10, .pointer (some ⟨n23, 0, none⟩)), (35, .slice a13 l14 k15), (36, .int .i64 x16), (37, .int .i64 (IntKind.wrap .i64 (x17 + 1)))] m40)))) (∃ a42 l43 k44, cell? m25 ⟨n23, 0, none⟩ = some (.slice a42 l43 k44) ∧ SemW PP (builtin .append #[t_s_uint8, t_s_uint8] t_s_uint8 #[false, false] #[.slice a7 l8 k9, .slice a42 l43 k44]) m25 (NextW PP fun v48 m49 => ∃ a45 l46 k47, v48 = .slice a45 l46 k47 ∧ ∃ x50, cell? m49 ⟨n23, 1, none⟩ = some (.int .i64 x50) ∧ ifB (x50 == 1) (ifB ((l46 : Int) != (l5 : Int)) (K.kr [(1, .slice a1 l2 k3), (4, .bool false), (6, .slice a4 l5 k6), (7, .slice a45 l46 k47), (8, .slice a10 l11 k12), (9, .int .i64 x17), (10, .pointer (some ⟨n23, 0, none⟩)), (35, .slice a13 l14 k15), (36, .int .i64 x16), (37, .int .i64 x17)] m49) (K.kn [(1, .slice a1 l2 k3), (6, .slice a4 l5 k6), (7, .slice a45 l46 k47), (8, .slice a10 l11 k12), (9, .int .i64 x17), (10, .pointer (some ⟨n23, 0, none⟩)), (35, .slice a13 l14 k15), (36, .int .i64 x16), (37, .int .i64 (IntKind.wrap .i64 (x17 + 1)))] m49)) (K.kn [(1, .slice a1 l2 k3), (6, .slice a4 l5 k6), (7, .slice a45 l46 k47), (8, .slice a10 l11 k12), (9, .int .i64 x17), (10, .pointer (some ⟨n23, 0, none⟩)), (35, .slice a13 l14 k15), (36, .int .i64 x16), (37, .int .i64 (IntKind.wrap .i64 (x17 + 1)))] m49)))))) (K.kx 0 [(1, .slice a1 l2 k3), (6, .slice a4 l5 k6), (7, .slice a7 l8 k9), (8, .slice a10 l11 k12), (35, .slice a13 l14 k15), (36, .int .i64 x16), (37, .int .i64 x17)] m)) :
    wpc PP FF 92 L_laws_FnReads c_laws_FnReads_rrrrrrlrll K [(1, .slice a1 l2 k3), (6, .slice a4 l5 k6), (7, .slice a7 l8 k9), (8, .slice a10 l11 k12), (35, .slice a13 l14 k15), (36, .int .i64 x16), (37, .int .i64 x17)] m :=
  Eq.mpr (by kernel_rfl) h
end Go.M

namespace Go.Proofs.YthhfbogakdechaaGreatDoor
open Go Go.M Go.ChangeShapes Go.WideShapes Go.ChangeAt Go.RowKit
set_option maxRecDepth 100000
theorem readsAll_walk {E : Errs} {d : List Nat} {m : Mem} {a : Option Addr} {l k b o : Nat} (hS : SlcB m a l k b o d) {zs : List Int} {a2 : Option Addr} {l2 k2 b2 o2 : Nat} (hZ : SlcZ m a2 l2 k2 b2 o2 zs) (hG : Glob E m) {R : Value → Mem → Prop} (hk : ∀ m', (∀ S, Fr S m m') → R (.bool true) m') :
    CallM PP f_laws_FnReads #[.slice a l k, .slice a2 l2 k2] m R := by
  refine e_laws_FnReads a l k a2 l2 k2 m R ?_
  by_cases h1 : (l : Int) > 2147483647
  · rw [decide_eq_true h1]; exact ifB_t (hk m fun S => Fr.refl S m)
  rw [decide_eq_false h1]
  refine ifB_f ?_
  by_cases h2 : (l2 : Int) > 2147483647
  · rw [decide_eq_true h2]; exact ifB_t (hk m fun S => Fr.refl S m)
  rw [decide_eq_false h2]
  refine ifB_f ?_
  by_cases h3 : (l : Int) > 16777216
  · rw [decide_eq_true h3]; exact ifB_t (hk m fun S => Fr.refl S m)
  rw [decide_eq_false h3]
  refine ifB_f ?_
  by_cases h4 : (l2 : Int) > 16777216
  · rw [decide_eq_true h4]; exact ifB_t (hk m fun S => Fr.refl S m)
  rw [decide_eq_false h4]
  refine ifB_f ?_
  refine MixedOf_spec hS fun m1 a1 l1 k1 b1 o1 src ch a4 l4 k4 b4 o4 H hM f1 => ⟨_, _, _, _, _, _, rfl, ?_⟩
  have F1 : ∀ S, Fr S m m1 := fun S => f1.mono fun _ _ h => h.elim
  have hG1 := hG.fr (F1 fun _ _ => False) (by intro i j h; exact h.elim)
  have hlen := hM.st.len
  have hcl := hM.len
  have hsz := hM.size
  have hl1 := hM.row.len
  have hl4 := hM.want.len
  have hr := hM.blk.is.run (tail := []) hM.st.byte hM.st.num hM.st.len
  rw [List.append_nil] at hr
  refine Reads_spec hM.row (hZ.old F1) (by omega) hG1 (by omega) hr fun m2 a5 k5 b5 o5 gs Dl hR hok f2 => ⟨_, _, _, rfl, ?_⟩
  have F2 : ∀ S, Fr S m m2 := fun S => (F1 S).trans (f2 S)
  have hgl := hR.len
  have hzl := hZ.len
  have hW2 := hM.want.sp (f2 fun _ _ => False) fun _ _ => id
  rw [q_laws_FnReads_rrrrrrlrl]
  refine loopW ffOk mixedOk (L₀ := L_laws_FnReads) (σ := Nat × Option Addr × Nat × Nat × Nat × Nat) [1, 6, 7, 8, 35, 36, 37]
    (fun s => [(1, .slice a2 l2 k2), (6, .slice a4 l4 k4), (7, .slice s.2.1 s.2.2.1 s.2.2.2.1), (8, .slice a5 l2 k5), (35, .slice a5 l2 k5), (36, .int .i64 (l2 : Int)), (37, .int .i64 (s.1 : Nat))])
    (fun s m' => s.1 ≤ l2 ∧ OutB m' s.2.1 s.2.2.1 s.2.2.2.1 s.2.2.2.2.1 s.2.2.2.2.2 (H.take s.2.2.1) ∧ s.2.2.1 = ((gs.take s.1).map GotR.q).sum ∧ s.2.2.1 ≤ H.length ∧ (0 < s.2.2.2.1 → m2.size ≤ s.2.2.2.2.1) ∧ Fr (fun x _ => m2.size ≤ x) m2 m')
    (fun s => l2 - s.1) (0, none, 0, 0, 0, 0) rfl ⟨Nat.zero_le _, OutB.nil _ _, rfl, Nat.zero_le _, by simp, Fr.refl _ _⟩ ?_
  rintro ⟨i, ao, lo, ko, bo, oo⟩ m3 ⟨hi, hO, hlo, hloH, hbo, f3⟩
  simp only at hi hO hlo hloH hbo
  have f23 : ∀ S, Fr S m2 m3 := fun S => f3.old fun x y hx h => by omega
  have F3 : ∀ S, Fr S m m3 := fun S => (F2 S).trans (f23 S)
  refine p_laws_FnReads_rrrrrrlrll a2 l2 k2 a4 l4 k4 ao lo ko a5 l2 k5 a5 l2 k5 l2 i m3 _ ?_
  by_cases hil : i < l2
  · rw [decide_eq_true (by omega)]
    have hgi : gs[i]? = some (gs[i]'(by omega)) := List.getElem?_eq_getElem (by omega)
    generalize gs[i]'(by omega) = g at hgi
    have hzi : zs[i]? = some (zs[i]'(by omega)) := List.getElem?_eq_getElem (by omega)
    generalize zs[i]'(by omega) = z at hzi
    obtain ⟨hq, hcs⟩ := hok.one i g z hgi hzi
    have hDl := hok.at_ i g hgi
    rw [← hlo] at hDl
    have hR3 := hR.fr (f23 fun _ _ => False) (fun _ _ => id) fun _ _ _ _ => id
    obtain ⟨d1, d2⟩ := hR3.get hgi
    have hdat := (hR3.data g (List.mem_of_getElem? hgi)).2
    have hat := hR3.own.at_ (by have := hR3.own.le; omega)
    refine ifB_t ?_
    rw [hat]
    refine ⟨⟨by omega, by omega⟩, g.a, g.q, g.k, g.c, rfl, ⟨?_, ?_, trivial⟩, ?_⟩
    · rw [show aplus (aplus ⟨b5, o5, none⟩ ((i : Int).toNat * 2)) 0 = ⟨b5, o5 + i * 2, none⟩ by simp [aplus]]; exact d1
    · rw [show aplus (aplus ⟨b5, o5, none⟩ ((i : Int).toNat * 2)) (0 + 1) = ⟨b5, o5 + i * 2 + 1, none⟩ by simp [aplus, Nat.add_assoc]]; exact d2
    refine take_got_W fun m4 n f4 hn1 hn2 e0 e1 => ?_
    rw [decide_eq_false (by omega : ¬ (i : Int) ≥ (l2 : Int))]
    refine ifB_f ⟨_, _, _, e0, ?_⟩
    rw [hZ.at_ (by omega)]
    refine ⟨⟨by omega, by omega⟩, z, cellB ((((F3 fun _ _ => False).trans (f4 _)).cell (hZ.data i z hzi) id)), ?_⟩
    have hroom : ¬ (((g.q : Nat) : Int) > if z > 0 then z else 0) := by
      unfold roomOf at hq
      split at hq <;> split <;> (try split at hq) <;> omega
    rw [decide_eq_false hroom]
    have hlen2 : lo + g.q ≤ H.length := by
      rcases hcs with ⟨_, _, h⟩ | ⟨_, h⟩ <;> omega
    have hO4 := hO.fr (f4 fun _ _ => False) fun _ _ => id
    have s4 := (f4 fun _ _ => False).size
    have s3 := f3.size
    have hys : ((H.drop lo).take g.q).length = g.q := by rw [List.length_take, List.length_drop]; omega
    have put : ∀ {K : Option Addr → Nat → Nat → Mem → Prop}, (∀ m5 a' k' b' o', OutB m5 a' (lo + g.q) k' b' o' (H.take (lo + g.q)) → (0 < k' → m2.size ≤ b') → cell? m5 ⟨n, 1, none⟩ = some (.int .i64 g.c) → Fr (fun x _ => m2.size ≤ x) m2 m5 → K a' (lo + g.q) k' m5) →
        SemW PP (builtin .append #[t_s_uint8, t_s_uint8] t_s_uint8 #[false, false] #[.slice ao lo ko, .slice g.a g.q g.k]) m4 (NextW PP fun v39 m40 => ∃ (a36 : Option Addr), ∃ (l37 : Nat), ∃ (k38 : Nat), v39 = .slice a36 l37 k38 ∧ K a36 l37 k38 m40) := by
      intro K hK
      refine appendB_W (b2 := g.b) (o2 := g.o) hO4 hys (fun hne => ?_) (fun j v hv => ?_) (by omega) fun m5 a' k' b' o' hO5 hb5 f5 h05 => ⟨_, _, _, rfl, ?_⟩
      · have h0 : 0 < g.q := by rw [← hys]; exact List.length_pos_iff.2 hne
        exact (hdat 0 h0).1
      · have hj := (List.getElem?_eq_some_iff.1 hv).1
        rw [hys] at hj
        rw [(f4 fun _ _ => False).cell (hdat j hj).2 id, hDl]
        rw [List.getElem?_take_of_lt hj, List.getElem?_drop] at hv
        rw [List.getD_eq_getElem?_getD, hv]; rfl
      · rw [← List.take_add] at hO5
        refine hK m5 a' k' b' o' hO5 (fun h0 => ?_) (f5.cell e1 fun h => ?_) (f3.trans ((f4 _).trans (f5.mono fun x y h => by have := hbo h.2; omega)))
        · rcases hb5 with ⟨rfl, _, rfl⟩ | ⟨rfl, _⟩
          · exact hbo h0
          · omega
        · have h1 := hO.u8
          have hlt : bo < m3.size := by
            obtain ⟨⟨v, hv⟩, _⟩ := hO.own.wr 0 (by have := h.2; omega)
            have := cell_block hv; simpa using this
          have := h.1
          simp only at this
          omega
    have hsum : lo + g.q = ((gs.take (i + 1)).map GotR.q).sum := by
      rw [List.take_add_one, hgi, List.map_append, List.sum_append, ← hlo]; simp
    have hw : IntKind.wrap .i64 ((i : Int) + 1) = ((i + 1 : Nat) : Int) := by rw [wrap64_id (by omega) (by omega)]; rfl
    rw [hw]
    refine ifB_f ⟨_, e1, ?_⟩
    rcases hcs with ⟨hc, _, _⟩ | ⟨hc, hend⟩
    · rw [hc]
      refine ifB_f ⟨_, _, _, e0, put fun m5 a' k' b' o' hO5 hb5 e15 f5 => ⟨_, e15, ?_⟩⟩
      rw [hc]
      refine ifB_f ⟨(i + 1, a', lo + g.q, k', b', o'), ?_, ⟨by simp only; omega, hO5, hsum, hlen2, hb5, f5⟩, by simp only; omega⟩
      rw [← hZ.at_ (by omega), ← hat]; rfl
    · have hc1 : g.c = 1 := hc
      rw [hc1]
      refine ifB_t ⟨_, e1, ?_⟩
      rw [hc1]
      refine ifB_f ⟨_, _, _, e0, put fun m5 a' k' b' o' hO5 hb5 e15 f5 => ⟨_, e15, ?_⟩⟩
      rw [hc1]
      have hne : (((lo + g.q : Nat) : Int) != (l4 : Int)) = false := by
        rw [bne_eq_false_iff_eq]; omega
      rw [hne]
      refine ifB_t (ifB_f ⟨(i + 1, a', lo + g.q, k', b', o'), ?_, ⟨by simp only; omega, hO5, hsum, hlen2, hb5, f5⟩, by simp only; omega⟩)
      rw [← hZ.at_ (by omega), ← hat]; rfl
  · rw [decide_eq_false (by omega)]
    refine ifB_f (WPS.piece [1, 6, 7, 8] rfl (p_laws_FnReads_rrrrrrr a2 l2 k2 a4 l4 k4 ao lo ko a5 l2 k5 m3 _ ?_))
    rw [beq_self_eq_true]
    exact ifB_t (begins_true (hW2.sp (f23 fun _ _ => False) fun _ _ => id) (hO.slc fun v hv => hM.want.byte v (List.mem_of_mem_take hv)) (by omega) ⟨_, (List.take_append_drop lo H).symm⟩ ⟨_, rfl, hk m3 F3⟩)
theorem readsAll_lifted (os : Os) (started : os.Started) (H : Type) (enc : TypeId × Value → H) :
    ReturnsInHanded {} Tryz.checked os f_laws_FnReads .any (fun w args => (Rows.fnReadsSpec.pre enc Tryz.prog (fnAt f_laws_FnReads) [] false w args ∧ laidMetH Tryz.prog laidL w) ∧ sizedMet enc Tryz.prog (fnAt f_laws_FnReads) (OpenSpec.ofChange Rows.fnReadsSpec) false w args)
      (Rows.fnReadsSpec.post enc Tryz.prog (fnAt f_laws_FnReads) false true false false) := by
  refine returnsInHanded_of_change_and (C := Tryz.checked) (X := fun w _ => laidMetH Tryz.prog laidL w) (fun _ _ _ hh h => h.of_heap hh) own started (by kernel_rfl) (by kernel_rfl)
    (ChangeSpec.witness_shaped (enc := enc) (C := Tryz.checked) (os := os) (X := fun w _ => laidMetH Tryz.prog laidL w) false (World.doorLaid Tryz.prog 400 os) #[.slice none 0 0, .slice none 0 0] 8 rfl (shaped os _) (by kernel_rfl) (by kernel_rfl) (by kernel_rfl) (door_met os _)) ?_
  intro W base args ds gs before hval0 hW _ _ hL _
  have hp : (fnAt f_laws_FnReads).params = #[t_s_uint8, t_s_int] := by kernel_rfl
  have hval : ∀ (j : Nat) t v, (fnAt f_laws_FnReads).params[j]? = some t → args[j]? = some v → Value.okWide Tryz.prog W .any base t v := hval0
  have hW' := hW
  obtain ⟨p, q, hA, hV, _, _, _⟩ := hW
  rw [hp] at hA hval
  obtain ⟨v0, v1, d0, d1, p0, p1, rfl, rfl, rfl, h0, h1⟩ := trodAll_two hA
  obtain ⟨a0, l0, k0, b0, o0, s0, rfl, hS0⟩ := bytes_arg (hval 0 _ v0 rfl rfl) h0
  obtain ⟨a1, l1, k1, b1, o1, s1, rfl, hS1⟩ := ints_arg (hval 1 _ v1 rfl rfl) h1
  obtain ⟨E, hG⟩ := glob_laid hL
  obtain ⟨g, rfl⟩ : ∃ g, gs = [g] := by
    match gs, hV with
    | [g], _ => exact ⟨g, rfl⟩
    | _ :: _ :: _, ⟨_, _, _, _, _, _, _, _, _, _, h, _⟩ => exact h.elim
  refine (calls_of (readsAll_walk hS0 hS1 hG fun m' hf => ⟨rfl, hf⟩)).mono fun e W' ⟨he, hs, hf⟩ => ⟨_, he, ?_⟩
  exact law_post hW' hs hf (tb := t_bool) (by kernel_rfl) (by kernel_rfl) rfl readable (by kernel_rfl) codeVar
theorem readsAll_said : Rows.FnReadsSaid :=
  OpenClaim.holds_of_wide f_laws_FnReads (fnAt f_laws_FnReads) rfl rfl rfl rfl rfl rfl rfl ⟨rfl, rfl, rfl, rfl, rfl⟩ rfl rfl rfl rfl rfl (by kernel_rfl) (by kernel_rfl) (by kernel_rfl)
    (of_decide_eq_true (by kernel_rfl)) (by unfold Func.isWrapper; rw [if_neg (of_decide_eq_false (by kernel_rfl))]; exact ⟨rfl, rfl⟩)
    (fun os started H enc _ => readsAll_lifted os started H enc)
end Go.Proofs.YthhfbogakdechaaGreatDoor

namespace Go.Proofs.YthhfbogakdechaaGreatDoor
open Go Go.M
set_option maxRecDepth 100000
theorem readsAll_card : Rows.FnReadsCardSaid :=
  Claim7.holds_tied_plain_at .later [] [.handle, .sentinel, .sentinel, .sentinel, .data] true Rows.fnReadsCard.stood.harness true
    readsAll_said (fun _ h => by cases h) (by kernel_rfl) (fun _ h => by cases h) fnReads_row_tie rfl ⟨rfl, rfl⟩ (by kernel_rfl) rfl
    (fun f fn hf hfn => by
      obtain rfl : f = f_laws_FnReads := Option.some.inj ((show Tryz.prog.funcNamed "loop.example/pub-inflation/laws.FnReads" = some f_laws_FnReads by kernel_rfl).symm.trans hf) |>.symm
      obtain rfl : fn = fnAt f_laws_FnReads := (Option.some.inj ((show Tryz.prog.funcs[f_laws_FnReads]? = some (fnAt f_laws_FnReads) by kernel_rfl).symm.trans hfn)).symm
      exact ⟨by kernel_rfl, fun j t ht => by
        rw [show (fnAt f_laws_FnReads).params = #[t_s_uint8, t_s_int] by kernel_rfl] at ht
        have h3 : t = t_s_int ∨ t = t_s_uint8 := by
          have hm : t ∈ [t_s_uint8, t_s_int] := List.mem_of_getElem? (by simpa using ht)
          simp only [List.mem_cons, List.not_mem_nil, or_false] at hm
          rcases hm with rfl | rfl <;> simp
        rcases h3 with rfl | rfl
        · exact (show Tryz.prog.wantsStandIn t_s_int = false by kernel_rfl)
        · exact (show Tryz.prog.wantsStandIn t_s_uint8 = false by kernel_rfl)⟩)
    (by kernel_rfl)
end Go.Proofs.YthhfbogakdechaaGreatDoor
