/- The random generator: a new one; what a made stream is. Slices of slices; literals alone. A stream whose first block is the last: no block ends amid it. No program in sight. The random generator: streams of literals. The random generator: streams of empty blocks. -/
import Derived.Test.YthmddkghlmgpaaaDoorPkze
import Derived.Test.YthmddkghlmgpaaaDoorPkzb
import Derived.Test.YthmddkghlmgpaaaDoorPkzc
namespace Go.M
open Go
set_option maxRecDepth 100000
theorem nilB (m : Mem) : SlcB m none 0 0 0 0 [] := ⟨rfl, Nat.le_refl _, by omega, fun i h => by omega, by simp⟩
theorem nilT (m : Mem) : SlcT m none 0 0 0 0 [] := ⟨rfl, Nat.le_refl _, by omega, fun i x h => by simp at h⟩
structure MadeS (m : Mem) (fin : Bool) (a1 : Option Addr) (l1 k1 b1 o1 : Nat) (src : List Nat) (ch : List (Nat × Nat)) (a2 : Option Addr) (l2 k2 b2 o2 : Nat) (H : List Nat) : Prop where
  row : SlcB m a1 l1 k1 b1 o1 src
  st : StreamOf ch src
  blk : BlkX 0 [] ch H fin
  len : chLen ch ≤ 1000000
  want : SlcB m a2 l2 k2 b2 o2 H
  size : H.length ≤ 131072
  small : H.length ≤ 60000
theorem MadeS.fr {m m' : Mem} {fin : Bool} {a1 : Option Addr} {l1 k1 b1 o1 : Nat} {src : List Nat} {ch : List (Nat × Nat)} {a2 : Option Addr} {l2 k2 b2 o2 : Nat} {H : List Nat} (h : MadeS m fin a1 l1 k1 b1 o1 src ch a2 l2 k2 b2 o2 H) (hf : ∀ S, Fr S m m') : MadeS m' fin a1 l1 k1 b1 o1 src ch a2 l2 k2 b2 o2 H :=
  ⟨h.row.sp (hf fun _ _ => False) fun _ _ => id, h.st, h.blk, h.len, h.want.sp (hf fun _ _ => False) fun _ _ => id, h.size, h.small⟩
theorem box_rd {v1 v2 : Value} {m : Mem} {K : Nat → Mem → Prop} (h : K m.size (m.push (.cells #[v1, v2] t_spec_reader))) : BoxW t_spec_reader (.agg #[v1, v2]) m K := h
section
variable {m : Mem} {r c : Nat}
theorem newReader_spec {a : Option Addr} {l k b o : Nat} {d : List Nat} (hS : SlcB m a l k b o d) {R : Value → Mem → Prop} (hk : ∀ m', RdM m' m.size 0 → (∀ S, Fr S m m') → m'.size = m.size + 1 → R (.pointer (some ⟨m.size, 0, none⟩)) m') : CallM PP f_spec_newReader #[.slice a l k] m R := by
  have hcap := hS.cap
  have e : (if (3000 : Int) < (l : Int) then (3000 : Int) else (l : Int)) = ((min l 3000 : Nat) : Int) := by split <;> omega
  refine e_spec_newReader a l k m R ⟨hcap, ?_, ?_⟩
  · rw [e]; exact ⟨by omega, by omega⟩
  · rw [e, Int.toNat_natCast]
    refine box_rd ?_
    have f1 : ∀ S, Fr S m (m.push (.cells #[.slice a (min l 3000) k, .int .i64 0] t_spec_reader)) := fun S => Fr.push _
    have hS1 := (hS.take (n := min l 3000) (by omega)).sp (f1 fun _ _ => False) fun _ _ => id
    refine hk _ ⟨⟨a, min l 3000, k, b, o, _, cell_new rfl, hS1, by omega, fun h0 => ?_⟩, ⟨0, Nat.le_refl _, cell_new rfl⟩, wr_new (by simp)⟩ f1 (Array.size_push ..)
    have := cell_block (hS.data 0 (by omega))
    simpa using this
end
end Go.M

namespace Go.M
open Go
set_option maxRecDepth 100000
section
variable {m : Mem}
theorem SlcB.dropG {a : Option Addr} {l k b o n : Nat} {d : List Nat} (h : SlcB m a l k b o d) (hn : n ≤ l) : SlcB m (subA a n 1 k) (l - n) (k - n) b (o + n) (d.drop n) := by
  have hl := h.len
  have hc := h.cap
  by_cases h0 : n < l
  · exact h.drop (by omega) (by omega)
  · exact ⟨by rw [List.length_drop]; omega, by omega, fun h1 => by omega, fun i hi => by omega, fun v hv => h.byte v (List.mem_of_mem_drop hv)⟩
theorem SlcT.take {a : Option Addr} {l k b o n : Nat} {its : List It} (h : SlcT m a l k b o its) (hn : n ≤ l) : SlcT m a n k b o (its.take n) :=
  ⟨by rw [List.length_take, h.len]; omega, by have := h.cap; omega, fun h0 => h.at_ (by omega), fun i x hx => by
    rw [List.getElem?_take] at hx
    split at hx
    · exact h.data i x hx
    · cases hx⟩
theorem SlcT.drop {a : Option Addr} {l k b o n : Nat} {its : List It} (h : SlcT m a l k b o its) (hn : n ≤ l) : SlcT m (subA a n 3 k) (l - n) (k - n) b (o + n * 3) (its.drop n) := by
  have hl := h.len
  have hc := h.cap
  refine ⟨by rw [List.length_drop]; omega, by omega, fun h0 => ?_, fun i x hx => ?_⟩
  · rw [h.at_ (by omega)]
    unfold subA
    rw [if_neg (by omega)]
    show some (aplus _ (mulS n 3)) = _
    rw [show mulS n 3 = n * 3 from rfl]
    rfl
  · rw [List.getElem?_drop] at hx
    have := h.data (n + i) x hx
    rw [show o + n * 3 + i * 3 = o + (n + i) * 3 from by omega]
    exact this
theorem VIts.split : ∀ {its : List It} {n k : Nat}, VIts n its → VIts n (its.take k) ∧ VIts (itsN n (its.take k)) (its.drop k)
  | [], n, k, _ => by simp [VIts]
  | x :: its, n, 0, h => by simpa [VIts, itsN] using h
  | x :: its, n, k + 1, h => by
    have := VIts.split (its := its) (k := k) h.2
    exact ⟨⟨h.1, this.1⟩, this.2⟩
theorem givs_len : ∀ (its : List It) (H : List Nat), (givs H its).length = itsN H.length its
  | [], _ => rfl
  | x :: its, H => by
    show (givs (giv H x) its).length = itsN (H.length + max 1 x.len) its
    rw [givs_len its (giv H x), giv_length]
theorem givs_cut (its : List It) (H : List Nat) (k : Nat) : givs (givs H (its.take k)) (its.drop k) = givs H its := by
  unfold givs
  rw [← List.foldl_append, List.take_append_drop]
def litIt (v : Nat) : It := ⟨v, 0, 0⟩
theorem lits_valid : ∀ {T : List Nat} {n : Nat}, (∀ v ∈ T, v < 256) → VIts n (T.map litIt)
  | [], _, _ => trivial
  | v :: _, _, h => ⟨⟨h v (List.mem_cons_self ..), .inl rfl⟩, lits_valid fun x hx => h x (List.mem_cons_of_mem _ hx)⟩
theorem lits_give : ∀ (T H : List Nat), givs H (T.map litIt) = H ++ T
  | [], H => by simp [givs]
  | v :: T, H => by
    show givs (giv H (litIt v)) (T.map litIt) = _
    rw [lits_give T, show giv H (litIt v) = H ++ [v] from rfl, List.append_assoc]; rfl
end
end Go.M

namespace Go.M
set_option maxRecDepth 100000
def finM : Md → Bool
  | .block => false
  | .stored fin _ => fin
  | .coded fin _ => fin
  | .copy fin _ _ _ => fin
def LastS (s : St) : Prop := (s.md = .block ∧ s.p = 0) ∨ finM s.md = true
theorem gfar_last {c : Sc} {H : List Nat} {T : Tb} {len d p : Nat} {s : St} (h : gfar c H true T len d p = .go s) : finM s.md = true := by
  unfold gfar at h
  split at h
  · cases h
  · simp only [Nx.go.injEq] at h; subst h; rfl
theorem gdist_last {c : Sc} {H : List Nat} {T : Tb} {len k p : Nat} {s : St} (h : gdist c H true T len k p = .go s) : finM s.md = true := by
  unfold gdist at h
  split at h
  · exact gfar_last h
  · split at h
    · split at h
      · cases h
      · exact gfar_last h
    · cases h
theorem glen_last {c : Sc} {H : List Nat} {T : Tb} {len p : Nat} {s : St} (h : glen c H true T len p = .go s) : finM s.md = true := by
  unfold glen at h
  split at h
  · split at h
    · cases h
    · exact gdist_last h
  · split at h
    · cases h
    · cases h
    · exact gdist_last h
theorem gcoded_last {c : Sc} {H : List Nat} {T : Tb} {p : Nat} {s : St} (h : gcoded c H true T p = .go s) : finM s.md = true := by
  unfold gcoded at h
  split at h
  · cases h
  · cases h
  · unfold gsym at h
    split at h
    · simp only [Nx.go.injEq] at h; subst h; rfl
    · split at h
      · simp at h
      · split at h
        · cases h
        · split at h
          · cases h
          · exact glen_last h
theorem gblock_last {c : Sc} {H : List Nat} {s : St} (h1 : tk c.N 0 1 = 1) (h : gblock c H 0 = .go s) : finM s.md = true := by
  have e : (tk c.N 0 1 == 1) = true := by rw [h1]; rfl
  unfold gblock at h
  rw [e] at h
  split at h
  · cases h
  · split at h
    · split at h
      · cases h
      · split at h
        · cases h
        · simp only [Nx.go.injEq] at h; subst h; rfl
    · split at h
      · simp only [Nx.go.injEq] at h; subst h; rfl
      · split at h
        · split at h
          · cases h
          · cases h
          · simp only [Nx.go.injEq] at h; subst h; rfl
        · cases h
theorem last_step {c : Sc} (h1 : tk c.N 0 1 = 1) {s s' : St} (hs : LastS s) (h : gstep c s = .go s') : LastS s' := by
  obtain ⟨p, H, md⟩ := s
  refine .inr ?_
  cases md with
  | block =>
    have hp : p = 0 := by
      rcases hs with ⟨_, h2⟩ | h2
      · exact h2
      · cases h2
    subst hp
    exact gblock_last h1 h
  | stored fin n =>
    have hf : fin = true := by
      rcases hs with ⟨h2, _⟩ | h2
      · cases h2
      · exact h2
    subst hf
    cases n with
    | zero => cases h
    | succ n =>
      have h : (if c.tot < p + 8 then _ else _) = Nx.go s' := h
      split at h
      · cases h
      · simp only [Nx.go.injEq] at h; subst h; rfl
  | coded fin T =>
    have hf : fin = true := by
      rcases hs with ⟨h2, _⟩ | h2
      · cases h2
      · exact h2
    subst hf
    exact gcoded_last h
  | copy fin T d n =>
    have hf : fin = true := by
      rcases hs with ⟨h2, _⟩ | h2
      · cases h2
      · exact h2
    subst hf
    cases n with
    | zero => have h : Nx.go _ = Nx.go s' := h; simp only [Nx.go.injEq] at h; subst h; rfl
    | succ n => have h : Nx.go _ = Nx.go s' := h; simp only [Nx.go.injEq] at h; subst h; rfl
theorem last_to {c : Sc} (h1 : tk c.N 0 1 = 1) {s s' : St} (h : GTo c s s') : LastS s → LastS s' := by
  induction h with
  | refl => exact id
  | step _ h2 ih => exact fun hs => last_step h1 (ih hs) h2
theorem no_ends {c : Sc} (h1 : tk c.N 0 1 = 1) : ¬ Ends c := by
  rintro ⟨s, ⟨d, h | ⟨_, _, _, h, _⟩⟩, h2, h3⟩
  · rcases last_to h1 h (.inl ⟨rfl, rfl⟩) with ⟨_, h4⟩ | h4
    · omega
    · rw [h2] at h4; cases h4
  · rw [h2] at h; cases h
theorem first_bit {src : List Nat} {ch rest : List (Nat × Nat)} {v : Nat} (hst : StreamOf ch src) (hok : ChOk ch) (h : ch = (v, 3) :: rest) (hv : v % 2 = 1) : tk (num src) 0 1 = 1 := by
  have hA : At (num src) 0 ch := at_stream hok (by rw [hst.num]; exact Nat.mod_eq_of_lt (chVal_lt hok))
  rw [h] at hA
  rw [(head_bits hA.1).1]; exact hv
end Go.M

namespace Go.M
open Go
set_option maxRecDepth 100000
section
variable {m : Mem}
theorem LiteralsOf_spec {a : Option Addr} {l k b o : Nat} {d : List Nat} (hS : SlcB m a l k b o d) {R : Value → Mem → Prop}
    (hk : ∀ m' a1 l1 k1 b1 o1 src ch a2 l2 k2 b2 o2 H, MadeS m' true a1 l1 k1 b1 o1 src ch a2 l2 k2 b2 o2 H → H.length ≤ 200 → tk (num src) 0 1 = 1 → (∀ S, Fr S m m') → R (.tuple #[.slice a1 l1 k1, .slice a2 l2 k2]) m') : CallM PP f_spec_LiteralsOf #[.slice a l k] m R := by
  refine e_spec_LiteralsOf a l k m R (newReader_spec hS fun m1 h1 f1 s1 => ⟨_, rfl, ?_⟩)
  have hr := h1.lo
  refine data_spec h1 (most := 200) (by decide) (by decide) fun m2 aT lT kT bT oT T hT hlT hTb hbT h2 f2 => ⟨_, _, _, rfl, box_writer fun m3 hW f3 => ?_⟩
  have s2 := f2.size
  have s3 := hW.lo
  have hTl := hT.len
  have hT3 := (hT.slc hTb).sp (f3 fun _ _ => False) fun _ _ => id
  have h3 := h2.fresh f3
  have hw : m1.size ≤ m2.size := s2
  have hbT2 : 0 < kT → bT < m2.size := hT.lt
  have hTle := hT.own.le
  generalize hwN : m2.size = wN at *
  rw [q_spec_LiteralsOf_rrrrrlrl]
  refine loopW ffOk mixedOk (L₀ := L_spec_LiteralsOf) (σ := Nat × Option Addr × Nat × Nat × Nat) [4, 5, 6, 7, 16, 17, 18]
    (fun s => [(4, .pointer (some ⟨m.size, 0, none⟩)), (5, .slice aT lT kT), (6, .pointer (some ⟨wN, 0, none⟩)), (7, .slice s.2.1 s.1 s.2.2.1), (16, .slice aT lT kT), (17, .int .i64 (lT : Int)), (18, .int .i64 (s.1 : Nat))])
    (fun s m' => s.1 ≤ lT ∧ OutT m' s.2.1 s.1 s.2.2.1 s.2.2.2.1 s.2.2.2.2 ((T.take s.1).map litIt) ∧ (0 < s.2.2.1 → m3.size ≤ s.2.2.2.1) ∧ Fr (fun x _ => m3.size ≤ x) m3 m')
    (fun s => lT - s.1) (0, none, 0, 0, 0) rfl ⟨Nat.zero_le _, OutT.nil _ _, by simp, Fr.refl _ _⟩ ?_
  rintro ⟨i, a4, k4, b4, o4⟩ m4 ⟨hi, hO, hb4, f4⟩
  simp only at hi hO hb4
  have f34 : ∀ S, Fr S m3 m4 := fun S => f4.old fun x y hx h => by omega
  have hT4 := hT3.sp (f34 fun _ _ => False) fun _ _ => id
  refine p_spec_LiteralsOf_rrrrrlrll _ aT lT kT _ a4 i k4 aT lT kT lT i m4 _ ?_
  by_cases hil : i < lT
  · rw [decide_eq_true (by omega)]
    have hg : T[i]? = some (T[i]'(by omega)) := List.getElem?_eq_getElem (by omega)
    have hd := hT4.data i hil
    rw [List.getD_eq_getElem?_getD, hg] at hd
    generalize T[i]'(by omega) = v at hg hd
    have hat := hT4.at_ (by omega)
    refine ifB_t ?_
    rw [hat]
    refine ⟨⟨by omega, by omega⟩, (v : Int), cellB hd, ?_⟩
    rw [← hat]
    refine pushT_W hO (litIt v) (by omega) fun m5 a' k' b' o' hO5 hk5 hb5 f5 => ?_
    rw [wrap_succ (by omega)]
    have s4 := f4.size
    refine ⟨(i + 1, a', k', b', o'), rfl, ⟨by simp only; omega, ?_, fun _ => ?_, f4.trans (f5.mono fun x _ h => by have := hb4 h.2; omega)⟩, by simp only; omega⟩
    · simp only
      rw [List.take_add_one, hg, List.map_append]; exact hO5
    · simp only
      rcases hb5 with ⟨rfl, rfl⟩ | h
      · exact hb4 hk5
      · omega
  · rw [decide_eq_false (by omega)]
    have htk : T.take i = T := List.take_of_length_le (by omega)
    rw [htk] at hO
    have hI := hO.slc
    have hV := lits_valid (n := 0) hTb
    have hgv := lits_give T []
    rw [List.nil_append] at hgv
    have g4 : Gen m4 m.size (1 + 2 * 200) wN wN [] := ⟨(h3.fresh f34).mono (by omega), WrM.fresh hW f34, by omega, by omega⟩
    refine ifB_f (WPS.piece [4, 5, 6, 7] rfl (p_spec_LiteralsOf_rrrrrr _ aT lT kT _ a4 i k4 m4 _ ?_))
    refine pick_spec g4.rd (by decide) (n := 2) (by decide) fun m5 q hq h5 f5 => ⟨_, rfl, ?_⟩
    have g5 := g4.pick h5 f5
    have hI5 := hI.fr f5 fun h0 j => rs_old (by have := hb4 (by have := Own.le hO; omega); have := (f3 fun _ _ => False).size; omega) j
    have hIo : 0 < i → Out3 b4 m.size wN wN := fun h0 => by
      have := hb4 (by have := Own.le hO; omega)
      exact ⟨by omega, by omega, by omega⟩
    have done : ∀ m6 c6 b6 pc v, GOp m5 m.size wN wN m6 c6 b6 ([] ++ pc) → (∃ rest, pc = (v, 3) :: rest) → v % 2 = 1 → BlkX 0 [] pc T true → chLen pc ≤ 60 * 200 + 6000 → WPS PP 43 c_spec_LiteralsOf_rrrrrrr (retK PP r_spec_LiteralsOf R) [(4, .pointer (some ⟨m.size, 0, none⟩)), (5, .slice aT lT kT), (6, .pointer (some ⟨wN, 0, none⟩)), (7, .slice a4 i k4)] m6 := by
      intro m6 c6 b6 pc v g6 ⟨rest, hrest⟩ hv hB hpl
      rw [List.nil_append] at g6
      obtain ⟨a1, l1, k1, o1, src, c1, c2, c3⟩ := WrL.stream g6.gen.wr
      have g56 := g5.trans g6
      have hT6 := hT4.sp g56.fr fun h0 j => by
        have := hbT2 (by omega)
        rintro (e | e | e) <;> omega
      refine WPS.piece [5, 6] rfl (p_spec_LiteralsOf_rrrrrrr aT lT kT _ m6 _ ?_)
      refine ⟨a1, l1, k1, c1, hk m6 a1 l1 k1 b6 o1 src pc aT lT kT bT oT T ⟨c2, c3, hB, by omega, hT6, by omega, by omega⟩ (by omega) (first_bit c3 (hB.is).1 hrest hv) fun S => ?_⟩
      refine ((((f1 _).trans (f2.mono (S' := fun x _ => m.size ≤ x) fun x y h => by unfold RS at h; omega)).trans ((f3 _).trans (f34 _))).trans (g56.fr.mono fun x y h => ?_)).old fun x y hx h => by omega
      rcases h with h | h | h <;> omega
    refine ifB_of (fun _ => ?_) (fun _ => ?_)
    · refine Fixed_spec g5.gen.wr hI5 (fun h0 => (hIo (by omega)).off) true [] hV (by omega) (by simp [chLen]; omega) fun m6 b6 pc hIt hpc W6 => ⟨rfl, ?_⟩
      rw [hgv] at hIt
      have := fixL_256
      exact done m6 _ b6 _ (fl true + 2) (g5.gen.wol W6) ⟨_, rfl⟩ (by decide) (blkX_fixed true hIt) (by simp only [chLen, chLen_append, sy]; omega)
    · refine dynamic_spec g5.gen hI5 (fun h0 => hIo (by omega)) true [] hV (by omega) (by decide) (by simp [chLen]) fun m6 b6 pc hfirst hB hpl g6 => ⟨rfl, ?_⟩
      rw [hgv] at hB
      exact done m6 _ b6 pc (fl true + 4) g6 hfirst (by decide) (by simpa [chLen] using hB) (by omega)
end
end Go.M

namespace Go.M
open Go
set_option maxRecDepth 100000
section
variable {m : Mem}
theorem Empty_spec {a : Option Addr} {l k b o : Nat} {d : List Nat} (hS : SlcB m a l k b o d) {R : Value → Mem → Prop}
    (hk : ∀ m' a1 l1 k1 b1 o1 src ch, SlcB m' a1 l1 k1 b1 o1 src → StreamOf ch src → BlkX 0 [] ch [] true → chLen ch ≤ 200000 → (∀ S, Fr S m m') → R (.slice a1 l1 k1) m') : CallM PP f_spec_Empty #[.slice a l k] m R := by
  refine e_spec_Empty a l k m R (newReader_spec hS fun m1 h1 f1 s1 => ⟨_, rfl, box_writer fun m2 hW f2 => ?_⟩)
  have s2 := hW.lo
  have hr := h1.lo
  refine pick_spec (h1.fresh f2) (by decide) (n := 9) (by decide) fun m3 n hn h3 f3 => ⟨_, rfl, ?_⟩
  have g3 : Gen m3 m.size 1 m1.size m1.size [] := ⟨h3, WrM.fr hW f3 (fun j => rs_old hr j) (fun j => rs_old hr j), hr, hr⟩
  have F3 : Fr (RN m.size m1.size) m1 m3 := (f2 _).trans (f3.mono fun _ _ h => .inl h)
  have old : ∀ {m4 m5 : Mem} {c5 b4 b5 : Nat} {ch5 : List (Nat × Nat)}, Fr (RN m.size m1.size) m1 m4 → m1.size ≤ b4 → GOp m4 m.size m1.size b4 m5 c5 b5 ch5 → Fr (RN m.size m1.size) m1 m5 ∧ m1.size ≤ b5 := fun {m4 m5 c5 b4 b5 ch5} hF hb g => by
    have := hF.size
    have := g.mv
    refine ⟨hF.trans (g.fr.mono fun x _ h => ?_), by omega⟩
    rcases h with h | h | h
    · exact .inl h
    · exact .inr (by omega)
    · exact .inr (by omega)
  rw [q_spec_Empty_rrrlrl]
  refine loopW ffOk mixedOk (L₀ := L_spec_Empty) (σ := Nat × Nat × Nat × List (Nat × Nat)) [3, 4, 5]
    (fun s => [(3, .pointer (some ⟨m.size, 0, none⟩)), (4, .pointer (some ⟨m1.size, 0, none⟩)), (5, .int .i64 (s.1 : Nat))])
    (fun s m' => s.1 + s.2.1 = n ∧ Gen m' m.size (1 + 2 * s.2.1) m1.size s.2.2.1 s.2.2.2 ∧ BlkX 0 [] s.2.2.2 [] false ∧ chLen s.2.2.2 ≤ 100 * s.2.1 ∧ m1.size ≤ s.2.2.1 ∧ Fr (RN m.size m1.size) m1 m')
    (fun s => s.1) (n, 0, m1.size, []) rfl ⟨rfl, by simpa using g3, BlkX.nil _ _, by simp [chLen], Nat.le_refl _, F3⟩ ?_
  rintro ⟨i, q, b4, ch⟩ m4 ⟨hi, g4, hB, hcl, hb4, F4⟩
  simp only at hi g4 hB hcl hb4
  refine p_spec_Empty_rrrlrll _ _ i m4 _ ?_
  have h256 := fixL_256
  cases i with
  | zero =>
    rw [decide_eq_false (by omega)]
    refine ifB_f (WPS.piece [3, 4] rfl (p_spec_Empty_rrrr _ _ m4 _ ?_))
    refine pick_spec g4.rd (by omega) (n := 2) (by decide) fun m5 x hx h5 f5 => ⟨_, rfl, ?_⟩
    have g5 := g4.pick h5 f5
    have done : ∀ m6 c6 b6 pc, GOp m5 m.size m1.size b4 m6 c6 b6 (ch ++ pc) → BlkX (chLen ch) [] pc [] true → chLen pc ≤ 6100 → WPS PP 37 c_spec_Empty_rrrrr (retK PP r_spec_Empty R) [(3, .pointer (some ⟨m.size, 0, none⟩)), (4, .pointer (some ⟨m1.size, 0, none⟩))] m6 := by
      intro m6 c6 b6 pc g6 hB6 hpl
      obtain ⟨a1, l1, k1, o1, src, c1, c2, c3⟩ := WrL.stream g6.gen.wr
      have hF := (old F4 hb4 (g5.trans g6)).1
      refine WPS.piece [4] rfl (p_spec_Empty_rrrrr _ m6 _ ?_)
      refine ⟨a1, l1, k1, c1, hk m6 a1 l1 k1 b6 o1 src _ c2 c3 (hB.append (by rwa [Nat.zero_add])) (by rw [chLen_append]; omega) fun S => ((f1 _).trans hF).old fun x y hx h => ?_⟩
      rcases h with h | h <;> omega
    refine ifB_of (fun _ => ?_) (fun _ => ?_)
    · exact dynamic_spec g5.gen (nilT m5) (fun h => absurd h (by omega)) true [] trivial (by decide) (by omega) (by omega) fun m6 b6 pc _ hB6 hpl g6 => ⟨rfl, done m6 _ b6 pc g6 hB6 (by omega)⟩
    · refine Fixed_spec g5.gen.wr (nilT m5) (fun h => absurd h (by omega)) true [] trivial (by decide) (by omega) fun m6 b6 pc hIt hpc W6 => ⟨rfl, ?_⟩
      exact done m6 _ b6 _ (g5.gen.wol W6) (blkX_fixed true hIt) (by simp only [chLen, chLen_append, sy]; omega)
  | succ i =>
    rw [decide_eq_true (by omega)]
    refine ifB_t (pick_spec g4.rd (by omega) (n := 2) (by decide) fun m5 x hx h5 f5 => ⟨_, rfl, ?_⟩)
    have g5 := g4.pick h5 f5
    have next : ∀ m6 c6 b6 pc, GOp m4 m.size m1.size b4 m6 c6 b6 (ch ++ pc) → c6 ≤ 1 + 2 * q + 2 → BlkX (chLen ch) [] pc [] false → chLen pc ≤ 100 →
        ∃ s' : Nat × Nat × Nat × List (Nat × Nat), [(3, Value.pointer (some ⟨m.size, 0, none⟩)), (4, .pointer (some ⟨m1.size, 0, none⟩)), (5, .int .i64 (IntKind.wrap .i64 (((i + 1 : Nat) : Int) - 1)))] = [(3, .pointer (some ⟨m.size, 0, none⟩)), (4, .pointer (some ⟨m1.size, 0, none⟩)), (5, .int .i64 (s'.1 : Nat))] ∧
          (s'.1 + s'.2.1 = n ∧ Gen m6 m.size (1 + 2 * s'.2.1) m1.size s'.2.2.1 s'.2.2.2 ∧ BlkX 0 [] s'.2.2.2 [] false ∧ chLen s'.2.2.2 ≤ 100 * s'.2.1 ∧ m1.size ≤ s'.2.2.1 ∧ Fr (RN m.size m1.size) m1 m6) ∧ s'.1 < i + 1 := by
      intro m6 c6 b6 pc g6 hc6 hB6 hpl
      obtain ⟨hF, hb6⟩ := old F4 hb4 g6
      exact ⟨(i, q + 1, b6, ch ++ pc), by rw [wrap_pred (by omega)], ⟨by simp only; omega, (g6.mono (by simp only; omega)).gen, hB.append (by rwa [Nat.zero_add]), by simp only; rw [chLen_append]; omega, hb6, hF⟩, by simp only; omega⟩
    refine ifB_of (fun _ => ?_) (fun _ => ?_)
    · refine pick_spec g5.gen.rd (by omega) (n := 256) (by decide) fun m6 y hy h6 f6 => ⟨_, rfl, ?_⟩
      have g6 := g5.pick h6 f6
      refine Stored_spec g6.gen.wr (nilB m6) (fun h => absurd h (by omega)) (by decide) false y (by omega) fun m7 b7 pv pn hpv hpn W7 => ⟨rfl, ?_⟩
      have hst := chLen_st false pv pn []
      simp only [List.length_nil] at hst
      exact WPS.piece [3, 4, 5] rfl (p_spec_Empty_rrrlrllrr _ _ _ m7 _ (next m7 _ b7 _ (g6.wol W7) (by omega) (blkX_stored (H := []) (T := []) false hpv hpn (by decide) (by simp)) (by omega)))
    · refine Fixed_spec g5.gen.wr (nilT m5) (fun h => absurd h (by omega)) false [] trivial (by decide) (by omega) fun m6 b6 pc hIt hpc W6 => ⟨rfl, ?_⟩
      exact WPS.piece [3, 4, 5] rfl (p_spec_Empty_rrrlrllrr _ _ _ m6 _ (next m6 _ b6 _ (g5.wol W6) (by omega) (blkX_fixed false hIt) (by simp only [chLen, chLen_append, sy]; omega)))
end
end Go.M
