/- The thin package: Reads. Answers of reads, taken out of their row. -/
import Derived.Test.YthmddkghlmgpaaaDoorPkq
namespace Go.M
open Go
set_option maxRecDepth 100000
theorem u_s_got : PP.underlying t_s_impl_Got = some (.slice t_impl_Got) := by kernel_rfl
def gotB (P : Program) (e : TypeId) : Bool :=
  match P.info? e with
  | some i => Nat.beq i.size 2 && Nat.beq i.bytes 32
  | none => false
theorem z_got : zeroOf PP t_impl_Got = some (.agg #[.slice none 0 0, .int .i64 0]) := by kernel_rfl
theorem got_info : ∃ i, PP.info? t_impl_Got = some i ∧ i.zero = some (.agg #[.slice none 0 0, .int .i64 0]) ∧ i.size = 2 ∧ i.bytes = 32 := by
  have h : gotB PP t_impl_Got = true := by kernel_rfl
  have hz := z_got
  unfold gotB at h
  unfold zeroOf at hz
  cases hi : PP.info? t_impl_Got with
  | none => rw [hi] at h; cases h
  | some i =>
    rw [hi] at h hz
    simp only [Bool.and_eq_true] at h
    exact ⟨i, rfl, hz, Nat.eq_of_beq_eq_true h.1, Nat.eq_of_beq_eq_true h.2⟩
structure SlcZ (m : Mem) (a : Option Addr) (l k b o : Nat) (d : List Int) : Prop where
  len : d.length = l
  cap : l ≤ k
  at_ : 0 < l → a = some ⟨b, o, none⟩
  data : ∀ (i : Nat) (v : Int), d[i]? = some v → cell? m ⟨b, o + i, none⟩ = some (.int .i64 v)
def roomOf (z : Int) : Nat := (if z < 0 then 0 else if 65536 < z then 65536 else z).toNat
theorem roomOf_eq (z : Int) : (if (if (65536 : Int) < z then 65536 else z) > 0 then if (65536 : Int) < z then 65536 else z else 0) = ((roomOf z : Nat) : Int) := by
  unfold roomOf
  split <;> split <;> (try split) <;> omega
theorem roomOf_le (z : Int) : roomOf z ≤ 65536 := by
  unfold roomOf
  split
  · decide
  · split <;> omega
structure GotR where
  a : Option Addr
  q : Nat
  k : Nat
  b : Nat
  o : Nat
  c : Int
  Dl : Nat
def gotV (g : GotR) : List Value := [.slice g.a g.q g.k, .int .i64 g.c]
structure GotsOk (X : Prop) (Hf : List Nat) (e : Er) (zs : List Int) (gs : List GotR) (Dl : Nat) : Prop where
  full : ∀ (i : Nat) (g : GotR) (z : Int), gs[i]? = some g → zs[i]? = some z → g.c = 0 → g.q = roomOf z ∨ 32768 ≤ Hf.length ∨ X
  one : ∀ (i : Nat) (g : GotR) (z : Int), gs[i]? = some g → zs[i]? = some z → g.q ≤ roomOf z ∧ ((g.c = 0 ∧ (0 < roomOf z → 0 < g.q) ∧ g.Dl + g.q ≤ Hf.length) ∨ (g.c = codeOf e ∧ g.Dl + g.q = Hf.length))
  at_ : ∀ (i : Nat) (g : GotR), gs[i]? = some g → g.Dl = ((gs.take i).map GotR.q).sum
  all : Dl = (gs.map GotR.q).sum
  le : Dl ≤ Hf.length
theorem GotsOk.snoc {X : Prop} {Hf : List Nat} {e : Er} {zs : List Int} {gs : List GotR} {Dl : Nat} (h : GotsOk X Hf e zs gs Dl) {g : GotR} (hg : g.Dl = Dl) (hle : Dl + g.q ≤ Hf.length)
    (h1 : ∀ z, zs[gs.length]? = some z → g.q ≤ roomOf z ∧ ((g.c = 0 ∧ (0 < roomOf z → 0 < g.q) ∧ g.Dl + g.q ≤ Hf.length) ∨ (g.c = codeOf e ∧ g.Dl + g.q = Hf.length))) (h2 : ∀ z, zs[gs.length]? = some z → g.c = 0 → g.q = roomOf z ∨ 32768 ≤ Hf.length ∨ X) : GotsOk X Hf e zs (gs ++ [g]) (Dl + g.q) := by
  refine ⟨fun i g' z hi hz => ?_, fun i g' z hi hz => ?_, fun i g' hi => ?_, by rw [List.map_append, List.sum_append, ← h.all]; simp, hle⟩
  · rcases Nat.lt_trichotomy i gs.length with h3 | h3 | h3
    · rw [List.getElem?_append_left h3] at hi
      exact h.full i g' z hi hz
    · subst h3
      simp only [List.getElem?_concat_length, Option.some.injEq] at hi
      subst hi
      exact h2 z hz
    · rw [List.getElem?_eq_none (by simp; omega)] at hi; cases hi
  · rcases Nat.lt_trichotomy i gs.length with h3 | h3 | h3
    · rw [List.getElem?_append_left h3] at hi
      exact h.one i g' z hi hz
    · subst h3
      simp only [List.getElem?_concat_length, Option.some.injEq] at hi
      subst hi
      exact h1 z hz
    · rw [List.getElem?_eq_none (by simp; omega)] at hi; cases hi
  · rcases Nat.lt_trichotomy i gs.length with h2 | h2 | h2
    · rw [List.getElem?_append_left h2] at hi
      rw [List.take_append_of_le_length (by omega)]
      exact h.at_ i g' hi
    · subst h2
      simp only [List.getElem?_concat_length, Option.some.injEq] at hi
      subst hi
      rw [List.take_left, hg, h.all]
    · rw [List.getElem?_eq_none (by simp; omega)] at hi; cases hi
structure GotRow (m : Mem) (a : Option Addr) (l k b o : Nat) (Hf : List Nat) (gs : List GotR) : Prop where
  own : Own m a l k 2 (gs.flatMap gotV) b o
  len : gs.length = l
  data : ∀ g ∈ gs, g.q ≤ g.k ∧ ∀ i, i < g.q → g.a = some ⟨g.b, g.o, none⟩ ∧ cell? m ⟨g.b, g.o + i, none⟩ = some (.int .u8 ((Hf.getD (g.Dl + i) 0 : Nat) : Int))
  apart : 0 < k → ∀ g ∈ gs, 0 < g.q → g.b ≠ b
  al : 0 < k → ∀ (j : Nat) (v : Value), cell? m ⟨b, j, none⟩ = some v → (∃ x, v = .int .i64 x) ∨ v = .slice none 0 0 ∨ ∃ g ∈ gs, v = .slice g.a g.q g.k
theorem GotRow.nil (m : Mem) (b : Nat) (Hf : List Nat) : GotRow m none 0 0 b 0 Hf [] :=
  ⟨⟨rfl, Nat.le_refl _, by omega, fun i v h => by simp at h, fun i h => by omega⟩, rfl, by simp, by omega, by omega⟩
theorem GotRow.alien {m : Mem} {a : Option Addr} {l k b o : Nat} {Hf : List Nat} {gs : List GotR} (h : GotRow m a l k b o Hf gs) (h0 : 0 < k) (j : Nat) (v : Value) (hv : cell? m ⟨b, j, none⟩ = some v) : Alien m v := by
  rcases h.al h0 j v hv with h1 | rfl | ⟨g, hg, rfl⟩
  · exact .inl h1
  · exact .inr ⟨_, _, _, rfl, fun tb to i h2 _ => by cases h2⟩
  · refine .inr ⟨_, _, _, rfl, fun tb to i h2 hi => ?_⟩
    obtain ⟨h3, h4⟩ := (h.data g hg).2 i hi
    rw [h3] at h2
    simp only [Option.some.injEq, Addr.mk.injEq, and_true] at h2
    obtain ⟨rfl, rfl⟩ := h2
    exact ⟨_, h4⟩
theorem GotRow.fr {m m' : Mem} {a : Option Addr} {l k b o : Nat} {Hf : List Nat} {gs : List GotR} {S : Nat → Nat → Prop} (h : GotRow m a l k b o Hf gs) (hf : Fr S m m') (h1 : 0 < k → ∀ j, ¬ S b j) (h2 : ∀ g ∈ gs, 0 < g.q → ∀ j, ¬ S g.b j) : GotRow m' a l k b o Hf gs := by
  refine ⟨⟨h.own.len, h.own.le, h.own.at_, fun i v hv => hf.cell (h.own.row i v hv) ?_, h.own.wr.fr hf⟩, h.len, fun g hg => ⟨(h.data g hg).1, fun i hi => ⟨((h.data g hg).2 i hi).1, hf.cell ((h.data g hg).2 i hi).2 (h2 g hg (by omega) _)⟩⟩, h.apart, fun h0 j v hv => ?_⟩
  rotate_left
  · obtain ⟨⟨w, hw⟩, _⟩ := h.own.wr 0 (by omega)
    obtain ⟨v', hv'⟩ := hf.back hw hv
    have := hf.cell hv' (h1 h0 _)
    rw [hv] at this
    simp only [Option.some.injEq] at this
    rw [this]; exact h.al h0 j v' hv'
  have := (List.getElem?_eq_some_iff.1 hv).1
  have h3 := h.own.len
  have h4 := h.own.le
  refine h1 ?_ _
  rcases Nat.eq_zero_or_pos k with h0 | h0
  · have : l = 0 := by omega
    subst this
    omega
  · exact h0
theorem build1G_W {x y : Value} {m : Mem} {K : Value → Mem → Prop} (h : K (.slice (some ⟨m.size, 0, none⟩) 1 1) (m.push (.cells #[x, y] t_impl_Got))) :
    SemW PP (sv (Instr.buildSlice t_s_impl_Got 1 #[(0, .agg #[x, y])])) m (NextW PP K) := Eq.mpr (by kernel_rfl) h
theorem pushG_W {m : Mem} {a : Option Addr} {l k b o : Nat} {Hf : List Nat} {gs : List GotR} (h : GotRow m a l k b o Hf gs) (g : GotR) (hq : g.q ≤ g.k) (hd : ∀ i, i < g.q → g.a = some ⟨g.b, g.o, none⟩ ∧ cell? m ⟨g.b, g.o + i, none⟩ = some (.int .u8 ((Hf.getD (g.Dl + i) 0 : Nat) : Int))) (hgb : 0 < k → 0 < g.q → g.b ≠ b)
    (hbig : l ≤ 16777216) {K : Option Addr → Nat → Nat → Mem → Prop}
    (hk : ∀ m' a' k' b' o', GotRow m' a' (l + 1) k' b' o' Hf (gs ++ [g]) → 0 < k' → ((b' = b ∧ k' = k) ∨ m.size ≤ b') → Fr (fun x _ => x = b ∧ 0 < k) m m' → K a' (l + 1) k' m') :
    SemW PP (sv (Instr.buildSlice t_s_impl_Got 1 #[(0, .agg #[.slice g.a g.q g.k, .int .i64 g.c])])) m (NextW PP fun v27 m28 => ∃ (a24 : Option Addr), ∃ (l25 : Nat), ∃ (k26 : Nat), v27 = .slice a24 l25 k26 ∧ SemW PP (builtin .append #[t_s_impl_Got, t_s_impl_Got] t_s_impl_Got #[false, false] #[.slice a l k, .slice a24 l25 k26]) m28 (NextW PP fun v32 m33 => ∃ (a29 : Option Addr), ∃ (l30 : Nat), ∃ (k31 : Nat), v32 = .slice a29 l30 k31 ∧ K a29 l30 k31 m33)) := by
  refine build1G_W ⟨_, _, _, rfl, ?_⟩
  have f1 : ∀ S, Fr S m (m.push (.cells #[.slice g.a g.q g.k, .int .i64 g.c] t_impl_Got)) := fun S => Fr.push _
  have c1 : ∀ i v, (gotV g)[i]? = some v → cell? (m.push (.cells #[.slice g.a g.q g.k, .int .i64 g.c] t_impl_Got)) ⟨m.size, 0 + i, none⟩ = some v := fun i v hv => by
    rw [Nat.zero_add]
    refine cell_new ?_
    unfold gotV at hv
    rcases i with _ | _ | i
    · simpa using hv
    · simpa using hv
    · simp at hv
  have s1 : (m.push (.cells #[.slice g.a g.q g.k, .int .i64 g.c] t_impl_Got)).size = m.size + 1 := Array.size_push ..
  generalize m.push (.cells #[.slice g.a g.q g.k, .int .i64 g.c] t_impl_Got) = m1 at f1 c1 s1 ⊢
  have h1 := h.fr (f1 fun _ _ => False) (fun _ _ => id) (fun _ _ _ _ => id)
  obtain ⟨iu, i1, i2, i3, i4⟩ := got_info
  refine append_Q (d2 := .slice t_impl_Got) u_s_got u_s_got (by intro k h; cases h) i1 i2 (by rw [i3]; decide) (by rw [i3]; rfl) b o m.size 0 (gs.flatMap gotV) (gotV g) (by rw [i3]; exact h1.own) (by rw [i3]; rfl) ?_ (fun _ => rfl) c1 (by rw [i4]; omega) (by rw [i4]; decide) ?_
  · intro x hx
    unfold gotV at hx
    simp only [List.mem_cons, List.not_mem_nil, or_false] at hx
    rcases hx with rfl | rfl <;> rfl
  · intro m' a' k' b' o' hown hb hf h0 hQ
    rw [i3] at hown
    have hm : ∀ g' ∈ gs ++ [g], 0 < g'.q → g'.b < m.size := fun g' hg' hq0 => by
      rcases List.mem_append.1 hg' with hg' | hg'
      · have := cell_block ((h.data g' hg').2 0 hq0).2; simpa using this
      · rw [List.mem_singleton.1 hg'] at hq0 ⊢
        have := cell_block (hd 0 hq0).2; simpa using this
    refine ⟨_, _, _, rfl, hk m' a' k' b' o' ⟨by rw [List.flatMap_append, List.flatMap_singleton]; exact hown, by simp [h.len], fun g' hg' => ?_, fun hk0 g' hg' hq0 => ?_, fun hk0 => hQ (fun v => (∃ x, v = .int .i64 x) ∨ v = .slice none 0 0 ∨ ∃ g' ∈ gs ++ [g], v = .slice g'.a g'.q g'.k) ?_ ?_ ?_ ?_ hk0⟩ (h0 (by decide)) ?_ ((f1 _).trans hf)⟩
    · rcases List.mem_append.1 hg' with hg' | hg'
      · exact ⟨(h1.data g' hg').1, fun i hi => ⟨((h1.data g' hg').2 i hi).1, hf.cell ((h1.data g' hg').2 i hi).2 fun hs => h1.apart hs.2 g' hg' (by omega) hs.1⟩⟩
      · rw [List.mem_singleton.1 hg']
        exact ⟨hq, fun i hi => ⟨(hd i hi).1, hf.cell ((f1 fun _ _ => False).cell (hd i hi).2 id) fun hs => hgb hs.2 (by omega) hs.1⟩⟩
    · rcases hb with ⟨rfl, _, rfl⟩ | ⟨rfl, _⟩
      · rcases List.mem_append.1 hg' with hg' | hg'
        · exact h.apart hk0 g' hg' hq0
        · rw [List.mem_singleton.1 hg'] at hq0 ⊢
          exact hgb hk0 hq0
      · have := hm g' hg' hq0; omega
    · intro v hv
      obtain ⟨g', hg', hv⟩ := List.mem_flatMap.1 hv
      unfold gotV at hv
      simp only [List.mem_cons, List.not_mem_nil, or_false] at hv
      rcases hv with rfl | rfl
      · exact .inr (.inr ⟨g', List.mem_append_left _ hg', rfl⟩)
      · exact .inl ⟨_, rfl⟩
    · intro v hv
      unfold gotV at hv
      simp only [List.mem_cons, List.not_mem_nil, or_false] at hv
      rcases hv with rfl | rfl
      · exact .inr (.inr ⟨g, List.mem_append_right _ (List.mem_singleton.2 rfl), rfl⟩)
      · exact .inl ⟨_, rfl⟩
    · intro v hv
      have hv : v ∈ #[Value.slice none 0 0, .int .i64 0] := hv
      simp only [List.mem_toArray, List.mem_cons, List.not_mem_nil, or_false] at hv
      rcases hv with rfl | rfl
      · exact .inr (.inl rfl)
      · exact .inl ⟨_, rfl⟩
    · intro hk1 j v hv
      rcases h1.al hk1 j v hv with h2 | h2 | ⟨g', hg', h2⟩
      · exact .inl h2
      · exact .inr (.inl h2)
      · exact .inr (.inr ⟨g', List.mem_append_left _ hg', h2⟩)
    · rcases hb with ⟨rfl, _, rfl⟩ | ⟨rfl, _⟩
      · exact .inl ⟨rfl, rfl⟩
      · exact .inr (by omega)
theorem code_nil {m : Mem} {R : Value → Mem → Prop} (hk : ∀ m', (∀ S, Fr S m m') → R (.int .i64 0) m') : CallM PP f_impl_code #[.nilIface] m R := by
  refine e_impl_code .nilIface m R (alloc_W z_corrupt ?_)
  exact ⟨rfl, ifB_t (hk _ fun S => Fr.push _)⟩
section
variable {E : Errs} {src : List Nat}
theorem Reads_spec {m : Mem} {a a2 : Option Addr} {l k b o l2 k2 b2 o2 : Nat} {zs : List Int} (hS : SlcB m a l k b o src) (hZ : SlcZ m a2 l2 k2 b2 o2 zs) (hl2 : l2 ≤ 16777216) (hG : Glob E m) (hbig : l ≤ 70368744177664) {Hf : List Nat} {e : Er} {pf : Nat} (hr : Runs (scOf src) ⟨0, [], .block⟩ Hf e pf)
    {R : Value → Mem → Prop} (hk : ∀ m' a' k' b' o' gs Dl, GotRow m' a' l2 k' b' o' Hf gs → GotsOk (Ends (scOf src)) Hf e zs gs Dl → (∀ S, Fr S m m') → R (.slice a' l2 k') m') : CallM PP f_impl_Reads #[.slice a l k, .slice a2 l2 k2] m R := by
  refine e_impl_Reads a l k a2 l2 k2 m R ?_
  refine source_spec hS hG hbig fun m1 rb db hA h1 h2 h3 f1 => ⟨_, rfl, ?_⟩
  have hG1 : Glob E m1 := hG.fr (f1 fun _ _ => False) (by intro i j h; exact h.elim)
  have h4 := hG.big
  have hlen := hS.len
  have hlen2 := hZ.len
  refine newReader_bytes (E := E) (src := src) ⟨by omega, by omega⟩ hA hG1 h3 hS.byte (by omega) fun m2 f bh bb cb k1 k2' k3 k4 f2 hDf hL => ⟨_, rfl, ?_⟩
  have s1 := (f1 fun _ _ => False).size
  have s2 := (f2 fun _ _ => False).size
  have hL0 := hL Hf e pf hr
  have hlt := hL0.lt
  have F02 : ∀ S, Fr S m m2 := fun S => (f1 S).trans (f2 S)
  have hMw : ∀ i j, Mw (bytesRdr E src rb db ⟨by omega, by omega⟩) f bh bb cb i j → m.size ≤ i := by
    rintro i j ((rfl | rfl) | rfl | rfl | rfl | rfl) <;> omega
  rw [q_impl_Reads_rrrlrl]
  refine loopW ffOk mixedOk (L₀ := L_impl_Reads) (σ := Nat × Option Addr × Nat × Nat × Nat × List GotR × Nat) [5, 6, 16, 17, 18]
    (fun q => [(5, .slice q.2.1 q.1 q.2.2.1), (6, .iface t_p_flate_decompressor (.pointer (some ⟨f, 0, none⟩))), (16, .slice a2 l2 k2), (17, .int .i64 (l2 : Int)), (18, .int .i64 (q.1 : Nat))])
    (fun q m' => q.1 ≤ l2 ∧ GotRow m' q.2.1 q.1 q.2.2.1 q.2.2.2.1 q.2.2.2.2.1 Hf q.2.2.2.2.2.1 ∧ (0 < q.2.2.1 → m2.size ≤ q.2.2.2.1) ∧ (∀ g ∈ q.2.2.2.2.2.1, 0 < g.q → m2.size ≤ g.b) ∧ GotsOk (Ends (scOf src)) Hf e zs q.2.2.2.2.2.1 q.2.2.2.2.2.2 ∧ Live (bytesRdr E src rb db ⟨by omega, by omega⟩) f bh bb cb Hf e pf q.2.2.2.2.2.2 m' ∧ m2.size ≤ m'.size ∧ ∀ S, Fr S m m')
    (fun q => l2 - q.1) (0, none, 0, 0, 0, [], 0) rfl ⟨Nat.zero_le _, GotRow.nil _ _ _, by simp, by simp, ⟨by simp, by simp, by simp, by simp, Nat.zero_le _⟩, hL0, Nat.le_refl _, F02⟩ ?_
  rintro ⟨i, a3, k3', b3, o3, gs, Dl⟩ m3 ⟨hi, hR, hb3, hgb, hgs, hL3, hsz, F3⟩
  simp only at hi hR hb3 hgb hgs hL3
  refine p_impl_Reads_rrrlrll a3 i k3' _ a2 l2 k2 _ _ m3 _ ?_
  by_cases hil : i < l2
  · rw [decide_eq_true (by omega)]
    have hget : zs[i]? = some (zs[i]'(by omega)) := List.getElem?_eq_getElem (by omega)
    generalize zs[i]'(by omega) = z at hget
    have hcz := (F3 fun _ _ => False).cell (hZ.data i z hget) id
    refine ifB_t ?_
    rw [hZ.at_ (by omega)]
    refine ⟨⟨by omega, by omega⟩, _, hcz, ?_⟩
    rw [roomOf_eq]
    have hroom := roomOf_le z
    obtain ⟨iu, hi8⟩ := one_uint8
    have hgl := hR.len
    have hw : IntKind.wrap .i64 ((i : Int) + 1) = ((i + 1 : Nat) : Int) := by rw [wrap64_id (by omega) (by omega)]; rfl
    refine make_W u_s_uint8 hi8.info hi8.zero rfl hi8.size rfl rfl (by rw [hi8.bytes]; omega) (by omega) fun m4 own4 f4 s4 => ⟨_, _, _, rfl, ?_⟩
    have hL4 := hL3.fresh f4
    have hlt3 := hL3.lt
    have hs3 := (F3 fun _ _ => False).size
    have hf3 : f < m3.size := hlt3 f 0 (.inr (.inl rfl))
    have hB : Buf (bytesRdr E src rb db ⟨by omega, by omega⟩) f bh bb cb m4 (some ⟨m3.size, 0, none⟩) m3.size 0 (roomOf z) (roomOf z) :=
      ⟨fun _ => rfl, Nat.le_refl _, fun j hj => own4.wr j (by omega), fun j hj => ⟨0, own4.row j _ (by rw [List.getElem?_replicate, if_pos hj])⟩, fun j hj => by have := hlt3 _ _ hj; omega, by omega, by omega⟩
    have hR4 := hR.fr (f4 fun _ _ => False) (fun _ _ => id) (fun _ _ _ _ => id)
    have step : ∀ m5 (q : Nat) (c : Int), q ≤ roomOf z → Dl + q ≤ Hf.length → ((c = 0 ∧ (0 < roomOf z → 0 < q) ∧ Dl + q ≤ Hf.length) ∨ (c = codeOf e ∧ Dl + q = Hf.length)) → (c = 0 → q = roomOf z ∨ 32768 ≤ Hf.length ∨ Ends (scOf src)) → Live (bytesRdr E src rb db ⟨by omega, by omega⟩) f bh bb cb Hf e pf (Dl + q) m5 → (∀ j, j < q → cell? m5 ⟨m3.size, 0 + j, none⟩ = some (.int .u8 ((Hf.getD (Dl + j) 0 : Nat) : Int))) →
        GotRow m5 a3 i k3' b3 o3 Hf gs → (∀ S, Fr S m m5) → m3.size < m5.size → ∀ {K : Option Addr → Nat → Nat → Mem → Prop},
        (∀ m' a' k' b' o' g, GotRow m' a' (i + 1) k' b' o' Hf (gs ++ [g]) → (0 < k' → m2.size ≤ b') → (∀ g' ∈ gs ++ [g], 0 < g'.q → m2.size ≤ g'.b) → GotsOk (Ends (scOf src)) Hf e zs (gs ++ [g]) (Dl + q) → Live (bytesRdr E src rb db ⟨by omega, by omega⟩) f bh bb cb Hf e pf (Dl + q) m' → m2.size ≤ m'.size → (∀ S, Fr S m m') → K a' (i + 1) k' m') →
        SemW PP (sv (Instr.buildSlice t_s_impl_Got 1 #[(0, .agg #[.slice (some ⟨m3.size, 0, none⟩) q (roomOf z), .int .i64 c])])) m5 (NextW PP fun v27 m28 => ∃ (a24 : Option Addr), ∃ (l25 : Nat), ∃ (k26 : Nat), v27 = .slice a24 l25 k26 ∧ SemW PP (builtin .append #[t_s_impl_Got, t_s_impl_Got] t_s_impl_Got #[false, false] #[.slice a3 i k3', .slice a24 l25 k26]) m28 (NextW PP fun v32 m33 => ∃ (a29 : Option Addr), ∃ (l30 : Nat), ∃ (k31 : Nat), v32 = .slice a29 l30 k31 ∧ K a29 l30 k31 m33)) := by
      intro m5 q c hq hle hc hfu hL5 hgot hR5 F5 hs5 K hK
      have hb3lt : 0 < k3' → b3 < m3.size := fun h0 => by
        obtain ⟨⟨v, hv⟩, _⟩ := hR.own.wr 0 (by omega)
        have := cell_block hv; simpa using this
      have h23 : m2.size ≤ m3.size := hsz
      refine pushG_W hR5 ⟨some ⟨m3.size, 0, none⟩, q, roomOf z, m3.size, 0, c, Dl⟩ hq (fun j hj => ⟨rfl, hgot j hj⟩) (fun h0 _ => by have := hb3lt h0; simp only; omega) (by omega) fun m6 a' k' b' o' hR6 hk6 hb6 f6 => ?_
      refine hK m6 a' k' b' o' _ hR6 (fun _ => ?_) (fun g' hg' hq0 => ?_) (hgs.snoc rfl hle (fun z' hz' => ?_) fun z' hz' => ?_) (hL5.beside f6 ?_) (by have := f6.size; omega) (fun S => ?_)
      · rcases hb6 with ⟨rfl, rfl⟩ | h
        · exact hb3 hk6
        · omega
      · rcases List.mem_append.1 hg' with hg' | hg'
        · exact hgb g' hg' hq0
        · rw [List.mem_singleton.1 hg']; exact h23
      · rw [hgl, hget] at hz'
        simp only [Option.some.injEq] at hz'
        subst hz'
        exact ⟨hq, hc⟩
      · rw [hgl, hget] at hz'
        simp only [Option.some.injEq] at hz'
        subst hz'
        exact hfu
      · refine ⟨?_, ?_, ?_⟩
        · rintro x y v ⟨rfl, h0⟩ hv
          exact .inr fun j' v' hv' => hR5.alien h0 j' v' hv'
        · rintro x y ⟨rfl, h0⟩ hmw
          have := hlt _ _ hmw
          have := hb3 h0; omega
        · rintro x y ⟨rfl, h0⟩
          have := hb3 h0
          have := hlt f 0 (.inr (.inl rfl)); omega
      · refine Fr.old ((F5 _).trans f6) ?_
        rintro x y hx ⟨rfl, h0⟩
        have := hb3 h0
        have := (F02 fun _ _ => False).size; omega
    have hb3lt : 0 < k3' → b3 < m3.size := fun h0 => by
      obtain ⟨⟨v, hv⟩, _⟩ := hR.own.wr 0 (by omega)
      have := cell_block hv; simpa using this
    have hgblt : ∀ g ∈ gs, 0 < g.q → g.b < m3.size := fun g hg h0 => by
      have := cell_block ((hR.data g hg).2 0 h0).2; simpa using this
    have after : ∀ m5 m6 q, Fr (RdS (bytesRdr E src rb db ⟨by omega, by omega⟩) f bh bb cb m3.size 0 q) m4 m5 → (∀ S, Fr S m5 m6) → GotRow m6 a3 i k3' b3 o3 Hf gs := fun m5 m6 q hf5 f6 => by
      refine (hR4.fr hf5 (fun h0 j => ?_) (fun g hg h0 j => ?_)).fr (f6 fun _ _ => False) (fun _ _ => id) (fun _ _ _ _ => id)
      · rintro (h | ⟨h, _⟩)
        · have := hlt _ _ h; have := hb3 h0; omega
        · have := hb3lt h0; omega
      · rintro (h | ⟨h, _⟩)
        · have := hlt _ _ h; have := hgb g hg h0; omega
        · have := hgblt g hg h0; omega
    have old5 : ∀ m5 q, Fr (RdS (bytesRdr E src rb db ⟨by omega, by omega⟩) f bh bb cb m3.size 0 q) m4 m5 → ∀ S, Fr S m m5 := fun m5 q hf5 S => by
      refine Fr.old ((F3 _).trans ((f4 _).trans hf5)) ?_
      rintro x y hx (h | ⟨h, _⟩)
      · have := hMw _ _ h; omega
      · omega
    refine callM_Read _ _ _ (read_spec hL4 hDf (by omega) hB (fun m5 q hq hq0 hfu hlen5 hL5 hgot hf5 => ⟨_, _, rfl, Nat.le_refl _, ⟨by omega, by omega⟩, code_nil fun m6 f6 => ⟨_, rfl, ?_⟩⟩) (fun m5 q v he hq hlen5 hL5 hgot hf5 => ⟨_, _, rfl, Nat.le_refl _, ⟨by omega, by omega⟩, code_spec (Live.glob (.inr hL5)) he fun m6 f6 => ⟨_, rfl, ?_⟩⟩))
    · rw [Int.toNat_natCast]
      refine step m6 q 0 hq hlen5 (.inl ⟨rfl, hq0, hlen5⟩) (fun _ => hfu) (hL5.fresh f6) (fun j hj => (f6 fun _ _ => False).cell (hgot j hj) id) (after m5 m6 q hf5 f6) (fun S => (old5 m5 q hf5 S).trans (f6 S)) (by have := hf5.size; have := (f6 fun _ _ => False).size; omega) fun m7 a' k' b' o' g hR7 hb7 hg7 hgs7 hL7 hsz7 F7 => ?_
      rw [hw]
      exact ⟨(i + 1, a', k', b', o', gs ++ [g], Dl + q), rfl, ⟨by simp only; omega, hR7, hb7, hg7, hgs7, hL7, hsz7, F7⟩, by simp only; omega⟩
    · rw [Int.toNat_natCast]
      refine step m6 q _ hq (by omega) (.inr ⟨rfl, hlen5⟩) (fun h => absurd h (by cases e <;> decide)) (Live.fresh (.inr hL5) f6) (fun j hj => (f6 fun _ _ => False).cell (hgot j hj) id) (after m5 m6 q hf5 f6) (fun S => (old5 m5 q hf5 S).trans (f6 S)) (by have := hf5.size; have := (f6 fun _ _ => False).size; omega) fun m7 a' k' b' o' g hR7 hb7 hg7 hgs7 hL7 hsz7 F7 => ?_
      rw [hw]
      exact ⟨(i + 1, a', k', b', o', gs ++ [g], Dl + q), rfl, ⟨by simp only; omega, hR7, hb7, hg7, hgs7, hL7, hsz7, F7⟩, by simp only; omega⟩
  · rw [decide_eq_false (by omega)]
    have hil' : i = l2 := by omega
    subst hil'
    refine ifB_f (WPS.piece [5] rfl (p_impl_Reads_rrrr _ _ _ _ _ ?_))
    exact hk m3 a3 k3' b3 o3 gs Dl hR hgs F3
end
end Go.M

namespace Go.M
open Go
set_option maxRecDepth 100000
theorem flat2_get {α : Type} {f : α → List Value} (h2 : ∀ x, (f x).length = 2) : ∀ {its : List α} {i : Nat} {x : α} {j : Nat}, its[i]? = some x → j < 2 → (its.flatMap f)[i * 2 + j]? = (f x)[j]?
  | [], i, x, j, h, _ => by simp at h
  | y :: its, 0, x, j, h, hj => by
    simp only [List.getElem?_cons_zero, Option.some.injEq] at h
    subst h
    rw [List.flatMap_cons, Nat.zero_mul, Nat.zero_add, List.getElem?_append_left (by rw [h2]; exact hj)]
  | y :: its, i + 1, x, j, h, hj => by
    simp only [List.getElem?_cons_succ] at h
    rw [List.flatMap_cons, List.getElem?_append_right (by rw [h2]; omega), h2, show (i + 1) * 2 + j - 2 = i * 2 + j from by omega]
    exact flat2_get h2 h hj
section
variable {m m' : Mem}
theorem GotRow.get {a : Option Addr} {l k b o : Nat} {Hf : List Nat} {gs : List GotR} (h : GotRow m a l k b o Hf gs) {i : Nat} {g : GotR} (hg : gs[i]? = some g) : cell? m ⟨b, o + i * 2, none⟩ = some (.slice g.a g.q g.k) ∧ cell? m ⟨b, o + i * 2 + 1, none⟩ = some (.int .i64 g.c) := by
  have q : ∀ j v, j < 2 → (gotV g)[j]? = some v → cell? m ⟨b, o + i * 2 + j, none⟩ = some v := fun j v hj hv => by
    have := h.own.row (i * 2 + j) v (by rw [flat2_get (fun x => rfl) hg hj]; exact hv)
    rw [← Nat.add_assoc] at this; exact this
  exact ⟨q 0 _ (by decide) rfl, q 1 _ (by decide) rfl⟩
theorem got_store {a : Addr} {v1 v2 : Value} {K : Mem → Prop} (h : SemW PP (storeCells a [v1, v2] 0) m fun _ m' => K m') : StAgg PP t_impl_Got m a (.agg #[v1, v2]) K := Eq.mpr (by kernel_rfl) h
theorem take_got_W {a : Option Addr} {q k : Nat} {c : Int} {K : Nat → Mem → Prop}
    (hk : ∀ m' n, (∀ S, Fr S m m') → m.size ≤ n → n < m'.size → cell? m' ⟨n, 0, none⟩ = some (.slice a q k) → cell? m' ⟨n, 1, none⟩ = some (.int .i64 c) → K n m') :
    AllocW PP t_impl_Got m fun n18 m19 => StAgg PP t_impl_Got m19 ⟨n18, 0, none⟩ (.agg #[.slice a q k, .int .i64 c]) fun m20 => K n18 m20 := by
  refine alloc_W z_got ?_
  have w0 : ∀ j, j < 2 → Wr (m.push (.cells #[.slice none 0 0, .int .i64 0] t_impl_Got)) ⟨m.size, j, none⟩ := fun j hj => wr_new (by simpa using hj)
  have f1 : ∀ S, Fr S m (m.push (.cells #[.slice none 0 0, .int .i64 0] t_impl_Got)) := fun S => Fr.push _
  show StAgg PP t_impl_Got (m.push (.cells #[.slice none 0 0, .int .i64 0] t_impl_Got)) _ _ _
  generalize m.push (.cells #[.slice none 0 0, .int .i64 0] t_impl_Got) = m1 at w0 f1 ⊢
  refine got_store (Row.storeCells (vs := [.slice a q k, .int .i64 c]) (i := 0) (by intro v hv; simp at hv; rcases hv with rfl | rfl <;> rfl) (fun j hj => by simpa using w0 j hj) fun m2 h1 h2 _ => ?_)
  have c0 : cell? m2 ⟨m.size, 0, none⟩ = some (.slice a q k) := by have := h1 0 _ rfl; simpa using this
  refine hk m2 m.size (fun S => ?_) (Nat.le_refl _) (by have := cell_block c0; simpa using this) c0 (by have := h1 1 _ rfl; simpa using this)
  refine Fr.old ((f1 _).trans h2) ?_
  rintro x y hx ⟨rfl, _⟩; omega
theorem SlcZ.old {a : Option Addr} {l k b o : Nat} {d : List Int} (h : SlcZ m a l k b o d) (hf : ∀ S, Fr S m m') : SlcZ m' a l k b o d :=
  ⟨h.len, h.cap, h.at_, fun i v hv => (hf fun _ _ => False).cell (h.data i v hv) id⟩
end
end Go.M
