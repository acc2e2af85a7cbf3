/- The random generator: a new one; what a made stream is. The random generator: streams of some blocks. Slices of slices; literals alone. The random generator: streams block by block. The random generator: streams without a final block. Two slices of bytes, joined; what is read with a dictionary. The random generator: a dictionary and a stream behind it; two streams that give the same. A stream whose first block is the last: no block ends amid it. No program in sight. The random generator: streams of literals. -/
import Derived.Test.YthmddkghlmgpaaaGreatDoorPkze
import Derived.Test.YthmddkghlmgpaaaGreatDoorPkzb
import Derived.Test.YthmddkghlmgpaaaGreatDoorPkq
import Derived.Test.YthmddkghlmgpaaaGreatDoorPkzc
namespace Go.M
open Go
set_option maxRecDepth 100000
theorem nilB (m : Mem) : SlcB m none 0 0 0 0 [] := ⟨rfl, Nat.le_refl _, by omega, fun i h => by omega, by simp⟩
theorem nilT (m : Mem) : SlcT m none 0 0 0 0 [] := ⟨rfl, Nat.le_refl _, by omega, fun i x h => by simp at h⟩
structure MadeS (m : Mem) (fin : Bool) (a1 : Option Addr) (l1 k1 b1 o1 : Nat) (src : List Nat) (ch : List (Nat × Nat)) (a2 : Option Addr) (l2 k2 b2 o2 : Nat) (H : List Nat) : Prop where
  row : SlcB m a1 l1 k1 b1 o1 src
  st : StreamOf ch src
  blk : BlkX 0 [] ch H fin
  len : chLen ch ≤ 1000000
  want : SlcB m a2 l2 k2 b2 o2 H
  size : H.length ≤ 131072
  small : H.length ≤ 60000
theorem MadeS.fr {m m' : Mem} {fin : Bool} {a1 : Option Addr} {l1 k1 b1 o1 : Nat} {src : List Nat} {ch : List (Nat × Nat)} {a2 : Option Addr} {l2 k2 b2 o2 : Nat} {H : List Nat} (h : MadeS m fin a1 l1 k1 b1 o1 src ch a2 l2 k2 b2 o2 H) (hf : ∀ S, Fr S m m') : MadeS m' fin a1 l1 k1 b1 o1 src ch a2 l2 k2 b2 o2 H :=
  ⟨h.row.sp (hf fun _ _ => False) fun _ _ => id, h.st, h.blk, h.len, h.want.sp (hf fun _ _ => False) fun _ _ => id, h.size, h.small⟩
theorem box_rd {v1 v2 : Value} {m : Mem} {K : Nat → Mem → Prop} (h : K m.size (m.push (.cells #[v1, v2] t_spec_reader))) : BoxW t_spec_reader (.agg #[v1, v2]) m K := h
section
variable {m : Mem} {r c : Nat}
theorem newReader_spec {a : Option Addr} {l k b o : Nat} {d : List Nat} (hS : SlcB m a l k b o d) {R : Value → Mem → Prop} (hk : ∀ m', RdM m' m.size 0 → (∀ S, Fr S m m') → m'.size = m.size + 1 → R (.pointer (some ⟨m.size, 0, none⟩)) m') : CallM PP f_spec_newReader #[.slice a l k] m R := by
  have hcap := hS.cap
  have e : (if (3000 : Int) < (l : Int) then (3000 : Int) else (l : Int)) = ((min l 3000 : Nat) : Int) := by split <;> omega
  refine e_spec_newReader a l k m R ⟨hcap, ?_, ?_⟩
  · rw [e]; exact ⟨by omega, by omega⟩
  · rw [e, Int.toNat_natCast]
    refine box_rd ?_
    have f1 : ∀ S, Fr S m (m.push (.cells #[.slice a (min l 3000) k, .int .i64 0] t_spec_reader)) := fun S => Fr.push _
    have hS1 := (hS.take (n := min l 3000) (by omega)).sp (f1 fun _ _ => False) fun _ _ => id
    refine hk _ ⟨⟨a, min l 3000, k, b, o, _, cell_new rfl, hS1, by omega, fun h0 => ?_⟩, ⟨0, Nat.le_refl _, cell_new rfl⟩, wr_new (by simp)⟩ f1 (Array.size_push ..)
    have := cell_block (hS.data 0 (by omega))
    simpa using this
end
end Go.M

namespace Go.M
open Go
set_option maxRecDepth 100000
def GenOf (m : Mem) (fin : Bool) (S : Nat → Nat → Prop) (R : Value → Mem → Prop) : Prop :=
  ∀ m' a1 l1 k1 b1 o1 src ch a2 l2 k2 b2 o2 H, MadeS m' fin a1 l1 k1 b1 o1 src ch a2 l2 k2 b2 o2 H → Fr S m m' → R (.tuple #[.slice a1 l1 k1, .slice a2 l2 k2]) m'
section
variable {m : Mem} {r c : Nat}
theorem stream_spec (h : RdM m r c) {how blocks most : Nat} (hbl : 0 < blocks) (hbl2 : blocks ≤ 7) (hm : most ≤ 30) (hc : c + 200000 < 1099511627776) {R : Value → Mem → Prop} (hk : GenOf m true (RS r) R) :
    CallM PP f_reader_stream #[.pointer (some ⟨r, 0, none⟩), .int .i64 (how : Int), .int .i64 (blocks : Int), .int .i64 (most : Int)] m R := by
  have hr := h.lo
  refine e_reader_stream r how blocks most m R (box_writer fun m1 hW f1 => ?_)
  have s1 := hW.lo
  refine pick_spec (h.fresh f1) (by omega) hbl fun m2 n hn h2 f2 => ⟨_, rfl, ?_⟩
  have g2 : Gen m2 r (c + 1) m.size m.size [] := ⟨h2, WrM.fr hW f2 (fun j => rs_old hr j) (fun j => rs_old hr j), hr, hr⟩
  have F2 : Fr (RN r m.size) m m2 := (f1 _).trans (f2.mono fun _ _ h => .inl h)
  rw [q_reader_stream_rrrlrl]
  refine loopW ffOk mixedOk (L₀ := L_reader_stream) (σ := Nat × Option Addr × Nat × Nat × Nat × Nat × Nat × List (Nat × Nat) × List Nat) [0, 1, 3, 10, 11, 12]
    (fun s => [(0, .pointer (some ⟨r, 0, none⟩)), (1, .int .i64 (how : Int)), (3, .int .i64 (most : Int)), (10, .pointer (some ⟨m.size, 0, none⟩)), (11, .slice s.2.1 s.2.2.1 s.2.2.2.1), (12, .int .i64 (s.1 : Nat))])
    (fun s m' => s.1 ≤ n ∧ OutB m' s.2.1 s.2.2.1 s.2.2.2.1 s.2.2.2.2.1 s.2.2.2.2.2.1 s.2.2.2.2.2.2.2.2 ∧ Gen m' r (c + 1 + 10000 * (n - s.1)) m.size s.2.2.2.2.2.2.1 s.2.2.2.2.2.2.2.1 ∧ BlkX 0 [] s.2.2.2.2.2.2.2.1 s.2.2.2.2.2.2.2.2 false ∧
      (0 < s.2.2.2.1 → Out3 s.2.2.2.2.1 r m.size s.2.2.2.2.2.2.1 ∧ m.size ≤ s.2.2.2.2.1) ∧ m.size ≤ s.2.2.2.2.2.2.1 ∧ (∀ v ∈ s.2.2.2.2.2.2.2.2, v < 256) ∧ s.2.2.2.2.2.2.2.2.length ≤ 7740 * (n - s.1) ∧ chLen s.2.2.2.2.2.2.2.1 ≤ 10000 * (n - s.1) ∧ Fr (RN r m.size) m m')
    (fun s => s.1) (n, none, 0, 0, 0, 0, m.size, [], []) rfl ⟨Nat.le_refl _, OutB.nil _ _, by simpa using g2, BlkX.nil _ _, by simp, Nat.le_refl _, by simp, by simp, by simp [chLen], F2⟩ ?_
  rintro ⟨i, a, l, k, bo, o, b, ch, H⟩ m3 ⟨hi, hO, g3, hB, hbo, hbm, hby, hHl, hcl, F3⟩
  simp only at hi hO g3 hB hbo hbm hby hHl hcl
  have hlen := hO.len
  refine p_reader_stream_rrrlrll r how most _ a l k i m3 _ ?_
  have hsz := F3.size
  have old : ∀ {m' : Mem}, Fr (fun x _ => GS r m.size b x 0 ∨ (x = bo ∧ 0 < k)) m3 m' → Fr (RN r m.size) m m' := fun f => F3.trans (f.mono fun x _ hx => by
    rcases hx with (hx | hx | hx) | ⟨hx, h0⟩
    · exact .inl hx
    · exact .inr (by omega)
    · exact .inr (by omega)
    · have := (hbo h0).2; exact .inr (by omega))
  cases i with
  | zero =>
    rw [decide_eq_false (by omega)]
    refine ifB_f (WPS.piece [0, 1, 3, 10, 11] rfl (p_reader_stream_rrrr r how most _ a l k m3 _ ?_))
    refine block_spec g3 (A := []) (H := H) (by simpa using hO) (fun h0 => (hbo h0).1) (fun h0 => by have := (hbo h0).2; omega) (by simpa using hby) (how := how) (most := most) (by omega) true (by omega) (by omega) (by omega) (by simp) fun m4 b4 pc H' a' l' k' bo' o' hp => ⟨_, _, _, rfl, ?_⟩
    obtain ⟨a1, l1, k1, o1, src, c1, c2, c3⟩ := WrL.stream hp.gen.wr
    refine ⟨a1, l1, k1, c1, ?_⟩
    have hbl := hB.append (by have := hp.blk; rwa [Nat.zero_add])
    have hO4 : OutB m4 a' l' k' bo' o' H' := by simpa using hp.out
    have hsize := hp.size
    have hplen := hp.len
    refine hk m4 a1 l1 k1 b4 o1 src _ a' l' k' bo' o' H' ⟨c2, c3, hbl, ?_, hO4.slc (by simpa using hp.byte), ?_, ?_⟩ (old hp.fr).rn
    · rw [chLen_append]; omega
    · omega
    · omega
  | succ i =>
    rw [decide_eq_true (by omega)]
    refine ifB_t (block_spec g3 (A := []) (H := H) (by simpa using hO) (fun h0 => (hbo h0).1) (fun h0 => by have := (hbo h0).2; omega) (by simpa using hby) (how := how) (most := most) (by omega) false (by omega) (by omega) (by omega) (by simp) fun m4 b4 pc H' a' l' k' bo' o' hp => ⟨_, _, _, rfl, ?_⟩)
    rw [wrap_pred (by omega)]
    have hsize := hp.size
    have hplen := hp.len
    have hmv := hp.mv
    refine ⟨(i, a', l', k', bo', o', b4, ch ++ pc, H'), rfl, ⟨by simp only; omega, by simpa using hp.out, ?_, hB.append (by have := hp.blk; rwa [Nat.zero_add]), fun h0 => ⟨hp.apart h0, ?_⟩, by simp only; omega, by simpa using hp.byte, by simp only; omega, by simp only; rw [chLen_append]; omega, old hp.fr⟩, by simp only; omega⟩
    · have hg := hp.gen
      exact ⟨hg.rd.mono (by simp only; omega), hg.wr, hg.rw, hg.rb⟩
    · simp only
      rcases hp.mvo h0 with ⟨h1, h2⟩ | h1
      · have := (hbo h2).2; omega
      · omega
theorem MixedOf_spec {a : Option Addr} {l k b o : Nat} {d : List Nat} (hS : SlcB m a l k b o d) {R : Value → Mem → Prop} (hk : GenOf m true (fun _ _ => False) R) : CallM PP f_spec_MixedOf #[.slice a l k] m R := by
  refine e_spec_MixedOf a l k m R (newReader_spec hS fun m1 h1 f1 s1 => ⟨_, rfl, ?_⟩)
  refine stream_spec h1 (how := 3) (blocks := 6) (most := 30) (by decide) (by decide) (by decide) (by decide) fun m2 a1 l1 k1 b1 o1 src ch a2 l2 k2 b2 o2 H hM f2 => ⟨_, _, _, _, _, _, rfl, ?_⟩
  exact hk m2 a1 l1 k1 b1 o1 src ch a2 l2 k2 b2 o2 H hM (((f1 _).trans f2).old fun x y hx h => by
    unfold RS at h; omega)
end
end Go.M

namespace Go.M
open Go
set_option maxRecDepth 100000
section
variable {m : Mem}
theorem SlcB.dropG {a : Option Addr} {l k b o n : Nat} {d : List Nat} (h : SlcB m a l k b o d) (hn : n ≤ l) : SlcB m (subA a n 1 k) (l - n) (k - n) b (o + n) (d.drop n) := by
  have hl := h.len
  have hc := h.cap
  by_cases h0 : n < l
  · exact h.drop (by omega) (by omega)
  · exact ⟨by rw [List.length_drop]; omega, by omega, fun h1 => by omega, fun i hi => by omega, fun v hv => h.byte v (List.mem_of_mem_drop hv)⟩
theorem SlcT.take {a : Option Addr} {l k b o n : Nat} {its : List It} (h : SlcT m a l k b o its) (hn : n ≤ l) : SlcT m a n k b o (its.take n) :=
  ⟨by rw [List.length_take, h.len]; omega, by have := h.cap; omega, fun h0 => h.at_ (by omega), fun i x hx => by
    rw [List.getElem?_take] at hx
    split at hx
    · exact h.data i x hx
    · cases hx⟩
theorem SlcT.drop {a : Option Addr} {l k b o n : Nat} {its : List It} (h : SlcT m a l k b o its) (hn : n ≤ l) : SlcT m (subA a n 3 k) (l - n) (k - n) b (o + n * 3) (its.drop n) := by
  have hl := h.len
  have hc := h.cap
  refine ⟨by rw [List.length_drop]; omega, by omega, fun h0 => ?_, fun i x hx => ?_⟩
  · rw [h.at_ (by omega)]
    unfold subA
    rw [if_neg (by omega)]
    show some (aplus _ (mulS n 3)) = _
    rw [show mulS n 3 = n * 3 from rfl]
    rfl
  · rw [List.getElem?_drop] at hx
    have := h.data (n + i) x hx
    rw [show o + n * 3 + i * 3 = o + (n + i) * 3 from by omega]
    exact this
theorem VIts.split : ∀ {its : List It} {n k : Nat}, VIts n its → VIts n (its.take k) ∧ VIts (itsN n (its.take k)) (its.drop k)
  | [], n, k, _ => by simp [VIts]
  | x :: its, n, 0, h => by simpa [VIts, itsN] using h
  | x :: its, n, k + 1, h => by
    have := VIts.split (its := its) (k := k) h.2
    exact ⟨⟨h.1, this.1⟩, this.2⟩
theorem givs_len : ∀ (its : List It) (H : List Nat), (givs H its).length = itsN H.length its
  | [], _ => rfl
  | x :: its, H => by
    show (givs (giv H x) its).length = itsN (H.length + max 1 x.len) its
    rw [givs_len its (giv H x), giv_length]
theorem givs_cut (its : List It) (H : List Nat) (k : Nat) : givs (givs H (its.take k)) (its.drop k) = givs H its := by
  unfold givs
  rw [← List.foldl_append, List.take_append_drop]
def litIt (v : Nat) : It := ⟨v, 0, 0⟩
theorem lits_valid : ∀ {T : List Nat} {n : Nat}, (∀ v ∈ T, v < 256) → VIts n (T.map litIt)
  | [], _, _ => trivial
  | v :: _, _, h => ⟨⟨h v (List.mem_cons_self ..), .inl rfl⟩, lits_valid fun x hx => h x (List.mem_cons_of_mem _ hx)⟩
theorem lits_give : ∀ (T H : List Nat), givs H (T.map litIt) = H ++ T
  | [], H => by simp [givs]
  | v :: T, H => by
    show givs (giv H (litIt v)) (T.map litIt) = _
    rw [lits_give T, show giv H (litIt v) = H ++ [v] from rfl, List.append_assoc]; rfl
end
end Go.M

namespace Go.M
open Go
set_option maxRecDepth 100000
section
variable {m : Mem}
variable {r c w : Nat}
structure StrAt (m0 m : Mem) (N r C w q : Nat) (a : Option Addr) (l k bo o b : Nat) (ch : List (Nat × Nat)) (H : List Nat) : Prop where
  out : OutB m a l k bo o H
  gen : Gen m r (C + 10000 * q) w b ch
  blk : BlkX 0 [] ch H false
  apart : 0 < k → Out3 bo r w b ∧ N ≤ bo
  above : N ≤ w ∧ N ≤ b
  byte : ∀ v ∈ H, v < 256
  size : H.length ≤ 7740 * q
  len : chLen ch ≤ 10000 * q
  lo : r < N ∧ N ≤ m.size
  fr : Fr (RN r N) m0 m
structure StrEnd (m0 m : Mem) (N r C w q : Nat) (a : Option Addr) (l k bo o b : Nat) (ch : List (Nat × Nat)) (H : List Nat) : Prop where
  out : OutB m a l k bo o H
  gen : Gen m r (C + 10000 * q) w b ch
  blk : BlkX 0 [] ch H true
  byte : ∀ v ∈ H, v < 256
  size : H.length ≤ 7740 * q
  len : chLen ch ≤ 10000 * q
  fr : Fr (RN r N) m0 m
theorem StrAt.step {m0 m m' : Mem} {N C q : Nat} {a : Option Addr} {l k bo o b : Nat} {ch : List (Nat × Nat)} {H : List Nat} (h : StrAt m0 m N r C w q a l k bo o b ch H) {most : Nat} (hm : most ≤ 30) {fin : Bool} {b' : Nat} {pc : List (Nat × Nat)} {H' : List Nat} {a' : Option Addr} {l' k' bo' o' : Nat}
    (hp : BlkOp m r w b ch [] H bo k most fin m' (C + 10000 * q + 10000) b' pc H' a' l' k' bo' o') : (fin = false → StrAt m0 m' N r C w (q + 1) a' l' k' bo' o' b' (ch ++ pc) H') ∧ (fin = true → StrEnd m0 m' N r C w (q + 1) a' l' k' bo' o' b' (ch ++ pc) H') := by
  have h1 := hp.size
  have h2 := hp.len
  have h3 := h.size
  have h4 := h.len
  have h5 := h.lo
  have h6 := hp.mv
  have h7 := h.above
  have hg := hp.gen
  have hO : OutB m' a' l' k' bo' o' H' := by simpa using hp.out
  have hG : Gen m' r (C + 10000 * (q + 1)) w b' (ch ++ pc) := ⟨hg.rd.mono (by omega), hg.wr, hg.rw, hg.rb⟩
  have hF : Fr (RN r N) m0 m' := h.fr.trans (hp.fr.mono fun x _ hx => by
    rcases hx with (hx | hx | hx) | ⟨hx, h0⟩
    · exact .inl hx
    · exact .inr (by omega)
    · exact .inr (by omega)
    · have := (h.apart h0).2; exact .inr (by omega))
  have hby : ∀ v ∈ H', v < 256 := by simpa using hp.byte
  refine ⟨fun e => ?_, fun e => ?_⟩
  · subst e
    refine ⟨hO, hG, h.blk.append (by have := hp.blk; rwa [Nat.zero_add]), fun h0 => ⟨hp.apart h0, ?_⟩, ⟨h7.1, by omega⟩, hby, by omega, by rw [chLen_append]; omega, ⟨h5.1, ?_⟩, hF⟩
    · rcases hp.mvo h0 with ⟨h8, h9⟩ | h8
      · have := (h.apart h9).2; omega
      · omega
    · have := hp.fr.size; omega
  · subst e
    exact ⟨hO, hG, h.blk.append (by have := hp.blk; rwa [Nat.zero_add]), hby, by omega, by rw [chLen_append]; omega, hF⟩
theorem StrAt.block {m0 m : Mem} {N C q : Nat} {a : Option Addr} {l k bo o b : Nat} {ch : List (Nat × Nat)} {H : List Nat} (h : StrAt m0 m N r C w q a l k bo o b ch H) {how most : Nat} (hm : most ≤ 30) (hq : q ≤ 20) (hC : C ≤ 1000000) (fin : Bool) {R : Value → Mem → Prop}
    (hk : ∀ m' a' l' k' bo' o' b' ch' H', (fin = false → StrAt m0 m' N r C w (q + 1) a' l' k' bo' o' b' ch' H') → (fin = true → StrEnd m0 m' N r C w (q + 1) a' l' k' bo' o' b' ch' H') → R (.slice a' l' k') m') :
    CallM PP f_reader_block #[.pointer (some ⟨r, 0, none⟩), .pointer (some ⟨w, 0, none⟩), .slice a l k, .int .i64 0, .int .i64 (how : Int), .int .i64 (most : Int), .bool fin] m R := by
  have h3 := h.size
  have h4 := h.len
  have h5 := h.lo
  have hlen := h.out.len
  refine block_spec h.gen (A := []) (H := H) (by simpa using h.out) (fun h0 => (h.apart h0).1) (fun h0 => by have := (h.apart h0).2; omega) (by simpa using h.byte) (how := how) (most := most) (by omega) fin (by omega) (by omega) (by omega) (by simp) fun m' b' pc H' a' l' k' bo' o' hp => ?_
  have := h.step hm hp
  exact hk m' a' l' k' bo' o' b' _ H' this.1 this.2
theorem StrAt.zero {m0 m : Mem} {C : Nat} (hg : Gen m r C w w []) (hN : r < m0.size) (hw : m0.size ≤ w) (hf : Fr (RN r m0.size) m0 m) : StrAt m0 m m0.size r C w 0 none 0 0 0 0 w [] [] :=
  ⟨OutB.nil _ _, by simpa using hg, BlkX.nil _ _, by simp, ⟨hw, hw⟩, by simp, by simp, by simp [chLen], ⟨hN, hf.size⟩, hf⟩
end
end Go.M

namespace Go.M
open Go
set_option maxRecDepth 100000
section
variable {m : Mem}
theorem SplitOf_spec {a : Option Addr} {l k b o : Nat} {d : List Nat} (hS : SlcB m a l k b o d) {R : Value → Mem → Prop}
    (hk : ∀ m' a1 l1 k1 b1 o1 src ch a2 l2 k2 b2 o2 H, MadeS m' false a1 l1 k1 b1 o1 src ch a2 l2 k2 b2 o2 H → chLen ch % 8 = 0 → (∀ S, Fr S m m') → R (.tuple #[.slice a1 l1 k1, .slice a2 l2 k2]) m') : CallM PP f_spec_SplitOf #[.slice a l k] m R := by
  refine e_spec_SplitOf a l k m R (newReader_spec hS fun m1 h1 f1 s1 => ⟨_, rfl, box_writer fun m2 hW f2 => ?_⟩)
  have s2 := hW.lo
  have hr := h1.lo
  refine pick_spec (h1.fresh f2) (by decide) (n := 4) (by decide) fun m3 n hn h3 f3 => ⟨_, rfl, ?_⟩
  have g3 : Gen m3 m.size 1 m1.size m1.size [] := ⟨h3, WrM.fr hW f3 (fun j => rs_old hr j) (fun j => rs_old hr j), hr, hr⟩
  have z := StrAt.zero (m0 := m1) g3 hr (Nat.le_refl _) ((f2 _).trans (f3.mono fun _ _ h => .inl h))
  rw [q_spec_SplitOf_rrrrlrl]
  refine loopW ffOk mixedOk (L₀ := L_spec_SplitOf) (σ := Nat × Nat × Option Addr × Nat × Nat × Nat × Nat × Nat × List (Nat × Nat) × List Nat) [4, 5, 6, 7]
    (fun s => [(4, .pointer (some ⟨m.size, 0, none⟩)), (5, .pointer (some ⟨m1.size, 0, none⟩)), (6, .slice s.2.2.1 s.2.2.2.1 s.2.2.2.2.1), (7, .int .i64 (s.1 : Nat))])
    (fun s m' => s.1 + s.2.1 = n ∧ StrAt m1 m' m1.size m.size 1 m1.size s.2.1 s.2.2.1 s.2.2.2.1 s.2.2.2.2.1 s.2.2.2.2.2.1 s.2.2.2.2.2.2.1 s.2.2.2.2.2.2.2.1 s.2.2.2.2.2.2.2.2.1 s.2.2.2.2.2.2.2.2.2)
    (fun s => s.1) (n, 0, none, 0, 0, 0, 0, m1.size, [], []) rfl ⟨rfl, z⟩ ?_
  rintro ⟨i, q, a3, l3, k3, bo, o3, b3, ch, H⟩ m4 ⟨hi, hA⟩
  simp only at hi hA
  refine p_spec_SplitOf_rrrrlrll _ _ a3 l3 k3 i m4 _ ?_
  have hlen := hA.len
  have hsz := hA.size
  have hlo := hA.lo
  cases i with
  | zero =>
    rw [decide_eq_false (by omega)]
    refine ifB_f (WPS.piece [5, 6] rfl (p_spec_SplitOf_rrrrr _ a3 l3 k3 m4 _ ?_))
    refine Stored_spec hA.gen.wr (nilB m4) (fun h => absurd h (by omega)) (by decide) false 0 (by omega) fun m5 b5 pv pn hpv hpn W5 => ⟨rfl, ?_⟩
    obtain ⟨a1, l1, k1, o1, src, c1, c2, c3⟩ := WrL.stream W5.wrl
    refine ⟨a1, l1, k1, c1, ?_⟩
    have hst := chLen_st false pv pn []
    have hcl := chLen_append ch (stCh false pv pn [])
    simp only [List.length_nil] at hst
    have hB := hA.blk.append (b := stCh false pv pn []) (H2 := H) (fin := false) (by
      have := blkX_stored (k := 0 + chLen ch) (H := H) (T := []) false hpv (by omega) (by decide) (by simp)
      rwa [List.append_nil] at this)
    have hO5 := hA.out.fr W5.fr fun h0 j => off_ws (hA.apart h0).1.off j
    have hab := hA.above
    refine hk m5 a1 l1 k1 b5 o1 src _ a3 l3 k3 bo o3 H ⟨c2, c3, hB, by omega, hO5.slc hA.byte, by omega, by omega⟩ (by omega) fun S => ?_
    refine (((f1 _).trans hA.fr).trans (W5.fr.mono (S' := RN m.size m1.size) fun x y h => ?_)).old fun x y hx h => ?_
    · rcases h with h | h
      · exact .inr (by omega)
      · exact .inr (by omega)
    · rcases h with h | h <;> omega
  | succ i =>
    rw [decide_eq_true (by omega)]
    refine ifB_t (hA.block (how := 3) (most := 30) (by decide) (by omega) (by decide) false fun m5 a' l' k' bo' o' b' ch' H' hgo _ => ⟨_, _, _, rfl, ?_⟩)
    rw [wrap_pred (by omega)]
    exact ⟨(i, q + 1, a', l', k', bo', o', b', ch', H'), rfl, ⟨by simp only; omega, hgo rfl⟩, by simp only; omega⟩
end
end Go.M

namespace Go.M
open Go
set_option maxRecDepth 100000
section
variable {E : Errs} {src : List Nat} {m : Mem}
theorem joined_W {ax ay : Option Addr} {lx kx bx ox ly ky bY oy : Nat} {X Y : List Nat} (hX : SlcB m ax lx kx bx ox X) (hY : SlcB m ay ly ky bY oy Y) (h1 : lx ≤ 1099511627776) (h2 : ly ≤ 1099511627776) {K : Option Addr → Nat → Nat → Mem → Prop}
    (hk : ∀ m' a' k' b' o', SlcB m' a' (lx + ly) k' b' o' (X ++ Y) → (∀ S, Fr S m m') → K a' (lx + ly) k' m') :
    SemW PP (sv (Instr.buildSlice t_s_uint8 0 #[])) m (NextW PP fun v14 m15 => ∃ (a11 : Option Addr), ∃ (l12 : Nat), ∃ (k13 : Nat), v14 = .slice a11 l12 k13 ∧ SemW PP (builtin .append #[t_s_uint8, t_s_uint8] t_s_uint8 #[false, false] #[.slice a11 l12 k13, .slice ax lx kx]) m15 (NextW PP fun v19 m20 => ∃ (a16 : Option Addr), ∃ (l17 : Nat), ∃ (k18 : Nat), v19 = .slice a16 l17 k18 ∧
      SemW PP (builtin .append #[t_s_uint8, t_s_uint8] t_s_uint8 #[false, false] #[.slice a16 l17 k18, .slice ay ly ky]) m20 (NextW PP fun v24 m25 => ∃ (a21 : Option Addr), ∃ (l22 : Nat), ∃ (k23 : Nat), v24 = .slice a21 l22 k23 ∧ K a21 l22 k23 m25))) := by
  refine copied_W hX (by omega) fun m2 a5 k5 b5 o5 hO5 hb5 hb52 _ f2 => ?_
  have hT2 := hY.sp (f2 fun _ _ => False) fun _ _ => id
  have hl2 := hY.len
  refine appendB_W (b2 := bY) (o2 := oy) hO5 hl2 (fun hne => hT2.at_ ?_) (fun i v hv => ?_) (by omega) fun m3 a6 k6 b6 o6 hO6 hb6 f3 _ => ⟨_, _, _, rfl, ?_⟩
  · rw [← hl2]; exact List.length_pos_iff.2 hne
  · have hi := (List.getElem?_eq_some_iff.1 hv).1
    have := hT2.data i (by omega)
    rw [List.getD_eq_getElem?_getD, hv] at this
    exact this
  have hby : ∀ v ∈ X ++ Y, v < 256 := fun v hv => by
    rcases List.mem_append.1 hv with hv | hv
    · exact hX.byte v hv
    · exact hY.byte v hv
  exact hk m3 a6 k6 b6 o6 (hO6.slc hby) fun S => ((f2 _).trans f3).old fun x y hx h => by have := h.1; omega
theorem AllDict_short0 {a a2 : Option Addr} {l k b o l2 k2 b2 o2 : Nat} {d : List Nat} (hS : SlcB m a l k b o src) (hS2 : SlcB m a2 l2 k2 b2 o2 d) (hG : Glob E m) (hbig : l ≤ 70368744177664) (hbig2 : l2 ≤ 70368744177664) {out : List Nat} {e : Er} {pf : Nat} (hr : Runs (scOf src) ⟨0, last32 d, .block⟩ (last32 d ++ out) e pf) (hH : out.length ≤ 131072)
    {R : Value → Mem → Prop} (hk : ∀ m' a' k' b' o', OutB m' a' out.length k' b' o' out → (0 < k' → m.size ≤ b') → (∀ S, Fr S m m') → R (.tuple #[.slice a' out.length k', .int .i64 (codeOf e)]) m') : CallM PP f_impl_AllDict #[.slice a l k, .slice a2 l2 k2, .int .i64 131072] m R := by
  have hlen : (last32 d ++ out).length = (last32 d).length + out.length := List.length_append ..
  refine AllDict_spec hS hS2 hG hbig hbig2 (by decide) hr (by omega) fun m' a' l' k' b' o' c hO hb hle hf hc => ?_
  rcases hc with ⟨h1, rfl⟩ | ⟨h1, _⟩
  · have : l' = out.length := by omega
    subst this
    rw [List.drop_left, List.take_length] at hO
    exact hk m' a' k' b' o' hO hb hf
  · omega
theorem last32_tail {t d : List Nat} (h : 32768 ≤ d.length) : last32 (t ++ d) = last32 d := by
  unfold last32
  rw [List.length_append, List.drop_append, show t.length + d.length - 32768 - t.length = d.length - 32768 from by omega, List.drop_eq_nil_of_le (by omega), List.nil_append]
theorem last32_split (d : List Nat) : d.take (d.length - 32768) ++ last32 d = d := List.take_append_drop _ _
end
end Go.M

namespace Go.M
open Go
set_option maxRecDepth 100000
section
variable {m : Mem}
structure MadeD (m : Mem) (aD : Option Addr) (lD kD bD oD : Nat) (D : List Nat) (a1 : Option Addr) (l1 k1 b1 o1 : Nat) (src : List Nat) (ch : List (Nat × Nat)) (a2 : Option Addr) (l2 k2 b2 o2 : Nat) (T : List Nat) : Prop where
  dict : SlcB m aD lD kD bD oD D
  row : SlcB m a1 l1 k1 b1 o1 src
  st : StreamOf ch src
  blk : BlkX 0 (last32 D) ch (last32 D ++ T) true
  len : chLen ch ≤ 1000000
  want : SlcB m a2 l2 k2 b2 o2 T
  size : T.length ≤ 60000
  dsize : D.length ≤ 60000
theorem MadeD.fr {m' : Mem} {aD : Option Addr} {lD kD bD oD : Nat} {D : List Nat} {a1 : Option Addr} {l1 k1 b1 o1 : Nat} {src : List Nat} {ch : List (Nat × Nat)} {a2 : Option Addr} {l2 k2 b2 o2 : Nat} {T : List Nat} (h : MadeD m aD lD kD bD oD D a1 l1 k1 b1 o1 src ch a2 l2 k2 b2 o2 T) (hf : ∀ S, Fr S m m') : MadeD m' aD lD kD bD oD D a1 l1 k1 b1 o1 src ch a2 l2 k2 b2 o2 T :=
  ⟨h.dict.sp (hf fun _ _ => False) fun _ _ => id, h.row.sp (hf fun _ _ => False) fun _ _ => id, h.st, h.blk, h.len, h.want.sp (hf fun _ _ => False) fun _ _ => id, h.size, h.dsize⟩
theorem MadeD.run {aD : Option Addr} {lD kD bD oD : Nat} {D : List Nat} {a1 : Option Addr} {l1 k1 b1 o1 : Nat} {src : List Nat} {ch : List (Nat × Nat)} {a2 : Option Addr} {l2 k2 b2 o2 : Nat} {T : List Nat} (h : MadeD m aD lD kD bD oD D a1 l1 k1 b1 o1 src ch a2 l2 k2 b2 o2 T) : Runs (scOf src) ⟨0, last32 D, .block⟩ (last32 D ++ T) .fin (chLen ch) := by
  have := h.blk.is.run (tail := []) h.st.byte h.st.num h.st.len
  rwa [List.append_nil] at this
theorem build3_W {x0 x1 x2 : Int} {K : Value → Mem → Prop} (h : K (.slice (some ⟨m.size, 0, none⟩) 3 3) (m.push (.cells (([x0, x1, x2] : List Int).map fun z => Value.int .i64 z).toArray t_int))) :
    SemW PP (sv (Instr.buildSlice t_s_int 3 #[(0, .int .i64 x0), (1, .int .i64 x1), (2, .int .i64 x2)])) m (NextW PP K) := Eq.mpr (by kernel_rfl) h
theorem appendS_W {a a2 : Option Addr} {l k l2 k2 b o b2 o2 : Nat} {d ys : List Nat} {K : Value → Mem → Prop} (hO : Own m a l k 1 (d.map u8V) b o) (hby : ∀ v ∈ d ++ ys, v < 256) (hy : ys.length = l2) (h2 : ys ≠ [] → a2 = some ⟨b2, o2, none⟩)
    (hr : ∀ i v, ys[i]? = some v → cell? m ⟨b2, o2 + i, none⟩ = some (u8V v)) (hbig : l + l2 ≤ 70368744177664)
    (hk : ∀ m' a' k' b' o', SlcB m' a' (l + l2) k' b' o' (d ++ ys) → ((b' = b ∧ o' = o ∧ k' = k) ∨ (b' = m.size ∧ o' = 0)) → Fr (fun x _ => x = b ∧ 0 < k) m m' → K (.slice a' (l + l2) k') m') :
    SemW PP (builtin .append #[t_s_uint8, t_s_uint8] t_s_uint8 #[false, false] #[.slice a l k, .slice a2 l2 k2]) m (NextW PP K) := by
  obtain ⟨iu, hi⟩ := one_uint8
  refine append_Q (d2 := .slice t_uint8) u_s_uint8 u_s_uint8 (by intro k h; cases h) hi.info hi.zero (by rw [hi.size]; decide) (by rw [hi.size]; rfl) b o b2 o2 (d.map u8V) (ys.map u8V) (by rw [hi.size]; exact hO) (by rw [hi.size]; simpa using hy) ?_ (fun h => h2 (by intro e; rw [e] at h; exact h rfl)) ?_ (by rw [hi.bytes]; omega) (by rw [hi.bytes]; decide) ?_
  · intro v hv
    simp only [List.mem_map] at hv
    obtain ⟨x, _, rfl⟩ := hv
    rfl
  · intro i v hv
    rw [List.getElem?_map] at hv
    cases hq : ys[i]? with
    | none => rw [hq] at hv; cases hv
    | some q => rw [hq] at hv; simp only [Option.map_some, Option.some.injEq] at hv; rw [← hv]; exact hr i q hq
  · intro m' a' k' b' o' hown hb hf _ _
    rw [hi.size, ← List.map_append] at hown
    have hlen : (d ++ ys).length = l + l2 := by simpa using hown.len
    refine hk m' a' k' b' o' ⟨hlen, hown.le, fun h0 => hown.at_ (by have := hown.le; omega), fun i hi => ?_, hby⟩ hb hf
    have hi' : i < (d ++ ys).length := by omega
    refine hown.row i _ ?_
    rw [List.getElem?_map, List.getElem?_eq_getElem hi', List.getD_eq_getElem?_getD, List.getElem?_eq_getElem hi']; rfl
theorem DictOf_spec {a : Option Addr} {l k b o : Nat} {d : List Nat} (hS : SlcB m a l k b o d) {R : Value → Mem → Prop}
    (hk : ∀ m' aD lD kD bD oD D a1 l1 k1 b1 o1 src ch a2 l2 k2 b2 o2 T, MadeD m' aD lD kD bD oD D a1 l1 k1 b1 o1 src ch a2 l2 k2 b2 o2 T → (∀ S, Fr S m m') → R (.tuple #[.slice aD lD kD, .slice a1 l1 k1, .slice a2 l2 k2]) m') : CallM PP f_spec_DictOf #[.slice a l k] m R := by
  refine e_spec_DictOf a l k m R (newReader_spec hS fun m1 h1 f1 s1 => ⟨_, rfl, ?_⟩)
  refine data_spec h1 (most := 60) (by decide) (by decide) fun m2 aT lT kT bT oT T0 hT hlT hTb hbT h2 f2 => ⟨_, _, _, rfl, ?_⟩
  have hTl := hT.len
  have s2 := f2.size
  have rest : ∀ m3 c3 aD lD kD bD oD D, RdM m3 m.size c3 → c3 ≤ 1000 → SlcB m3 aD lD kD bD oD D → lD ≤ 60000 → (0 < lD → m.size < bD) → Fr (fun x _ => m.size ≤ x) m1 m3 →
      WPS PP 59 c_spec_DictOf_rrrr (retK PP r_spec_DictOf R) [(0, .slice a l k), (2, .slice none 0 0), (3, .slice none 0 0), (4, .slice none 0 0), (5, .pointer (some ⟨m.size, 0, none⟩)), (6, .slice aD lD kD)] m3 := by
    intro m3 c3 aD lD kD bD oD D h3 hc3 hD hlD hbD f13
    have hDl := hD.len
    have hDb : 0 < lD → bD < m3.size := fun h0 => by have := cell_block (hD.data 0 h0); simpa using this
    refine WPS.piece [5, 6] rfl (p_spec_DictOf_rrrr _ aD lD kD m3 _ (box_writer fun m4 hW f4 => ?_))
    have s3 := h3.lo
    have s4 := hW.lo
    have g4 : Gen m4 m.size c3 m3.size m3.size [] := ⟨h3.fresh f4, hW, s3, s3⟩
    have hD4 := hD.sp (f4 fun _ _ => False) fun _ _ => id
    refine copied_W hD4 (by omega) fun m5 aO kO bO oO hO hbO hbO2 _ f5 => ?_
    have g5 := g4.fresh f5
    have s5 := (f5 fun _ _ => False).size
    have hD5 := hD4.sp (f5 fun _ _ => False) fun _ _ => id
    refine pick_spec g5.gen.rd (by omega) (n := 2) (by decide) fun m6 q hq h6 f6 => ⟨_, rfl, ?_⟩
    have g6 := g5.pick h6 f6
    have s6 := f6.size
    have hO6 := hO.fr f6 fun h0 j => rs_old (by omega) j
    have hmin : (D.take (lD - 32768)).length = lD - 32768 := by rw [List.length_take]; omega
    have hx5 : IntKind.wrap .i64 ((if (32768 : Int) < (lD : Int) then 32768 else (lD : Int)) - (lD : Int)) = -((D.take (lD - 32768)).length : Int) := by
      rw [hmin]
      split
      · rw [wrap64_id (by omega) (by omega)]; omega
      · rw [wrap64_id (by omega) (by omega)]; omega
    have hsp : D.take (lD - 32768) ++ last32 D = D := by have := last32_split D; rwa [hDl] at this
    have hl32 : (last32 D).length ≤ 32768 := by rw [last32_len]; omega
    have hq1 : IntKind.wrap .i64 (1 + (q : Int)) = ((1 + q : Nat) : Int) := by rw [wrap64_id (by omega) (by omega)]; omega
    rw [hx5, hq1]
    refine block_spec g6.gen (A := D.take (lD - 32768)) (H := last32 D) (by rw [hsp]; exact hO6) (fun h0 => ⟨by omega, by omega, by omega⟩) (fun h0 => by omega) (by rw [hsp]; exact hD.byte) (how := 1 + q) (most := 30) (by decide) false (by omega) (by omega) (by simp [chLen]) rfl fun m7 b7 pc H7 a7 l7 k7 bo7 o7 hp => ⟨_, _, _, rfl, ?_⟩
    have hl7 := hp.out.len
    rw [List.length_append, hmin] at hl7
    have hz7 := hp.size
    have hn7 := hp.len
    have s7 := hp.fr.size
    have mv7 := hp.mv
    refine block_spec hp.gen (A := D.take (lD - 32768)) (H := H7) hp.out hp.apart hp.above hp.byte (how := 3) (most := 30) (by decide) true (by omega) (by omega) (by rw [List.nil_append]; omega) rfl fun m8 b8 pc2 H8 a8 l8 k8 bo8 o8 hp2 => ⟨_, _, _, rfl, ?_⟩
    obtain ⟨a1, l1, k1, o1, src, c1, c2, c3⟩ := WrL.stream hp2.gen.wr
    rw [List.nil_append] at c3
    have hl8 := hp2.out.len
    rw [List.length_append, hmin] at hl8
    have hz8 := hp2.size
    have hn8 := hp2.len
    obtain ⟨T1, hT1⟩ := hp.ext
    obtain ⟨T2, hT2⟩ := hp2.ext
    have hH8 : H8 = last32 D ++ (T1 ++ T2) := by rw [hT2, hT1, List.append_assoc]
    have hall : D.take (lD - 32768) ++ H8 = D ++ (T1 ++ T2) := by rw [hH8, ← List.append_assoc, hsp]
    have hlT8 : l8 = lD + (T1 ++ T2).length := by
      have := hp2.out.len
      rw [hall, List.length_append] at this; omega
    have hcap := hp2.out.own.le
    have hW := (hp2.out.slc hp2.byte).dropG (n := lD) (by omega)
    rw [hall, ← hDl, List.drop_left, hDl] at hW
    refine ⟨a1, l1, k1, c1, hcap, ⟨by omega, by omega⟩, ?_⟩
    rw [Int.toNat_natCast]
    have off7 : 0 < k7 → m4.size ≤ bo7 := fun h0 => by rcases hp.mvo h0 with ⟨e, _⟩ | e <;> omega
    have hD8 : SlcB m8 aD lD kD bD oD D := by
      refine ((hD5.sp f6 fun h0 j => rs_old (by have := hbD h0; omega) j).sp hp.fr fun h0 j => ?_).sp hp2.fr fun h0 j => ?_
      · have := hbD h0
        have := hDb h0
        rintro ((h | h | h) | ⟨h, _⟩) <;> omega
      · have := hbD h0
        have := hDb h0
        rintro ((h | h | h) | ⟨h, h7⟩)
        · omega
        · omega
        · omega
        · have := off7 h7; omega
    have hblk : BlkX 0 (last32 D) (pc ++ pc2) (last32 D ++ (T1 ++ T2)) true := by
      rw [← hH8]
      exact BlkX.append hp.blk (by have := hp2.blk; rw [List.nil_append] at this; rwa [Nat.zero_add])
    refine hk m8 aD lD kD bD oD D a1 l1 k1 b8 o1 src (pc ++ pc2) _ _ _ bo8 _ (T1 ++ T2) ⟨hD8, c2, c3, hblk, by rw [chLen_append]; omega, hW, ?_, by omega⟩ fun S => ?_
    · have := congrArg List.length hH8
      rw [List.length_append] at this
      omega
    · have F : Fr (fun x _ => m.size ≤ x) m1 m8 := f13.trans (((f4 _).trans ((f5 _).trans (f6.mono fun x y h => by unfold RS at h; omega))).trans ((hp.fr.mono fun x y h => by
        rcases h with (h | h | h) | ⟨h, _⟩ <;> omega).trans (hp2.fr.mono fun x y h => by
        rcases h with (h | h | h) | ⟨h, h7⟩
        · omega
        · omega
        · omega
        · have := off7 h7; omega)))
      exact ((f1 _).trans F).old fun x y hx h => by omega
  have F2 : Fr (fun x _ => m.size ≤ x) m1 m2 := f2.mono fun x y h => by unfold RS at h; omega
  refine pick_spec h2 (by decide) (n := 6) (by decide) fun m3 q hq h3 f3 => ⟨_, rfl, ?_⟩
  have s3 := f3.size
  have F3 : Fr (fun x _ => m.size ≤ x) m1 m3 := F2.trans (f3.mono fun x y h => by unfold RS at h; omega)
  have hT3 := (hT.slc hTb).sp f3 fun _ j => rs_old (by omega) j
  refine ifB_of (fun _ => ?_) (fun _ => rest m3 _ aT lT kT bT oT T0 h3 (by omega) hT3 (by omega) (fun _ => by omega) F3)
  refine build3_W (oneOf_W (zs := [32760, 32768, 33000]) (l := 3) h3 (by omega) rfl (by decide) fun m4 z hz h4 f4 => ?_)
  have s4 := f4.size
  have hT4 := hT3.sp f4 fun _ j => rs_old (by omega) j
  have hz : ∃ n : Nat, z = n ∧ n ≤ 33000 := by
    simp only [List.mem_cons, List.mem_nil_iff, or_false] at hz
    rcases hz with rfl | rfl | rfl
    · exact ⟨32760, rfl, by decide⟩
    · exact ⟨32768, rfl, by decide⟩
    · exact ⟨33000, rfl, by decide⟩
  obtain ⟨n, rfl, hn⟩ := hz
  obtain ⟨iu, hi⟩ := one_uint8
  refine make_W (n := n) u_s_uint8 hi.info hi.zero rfl hi.size rfl rfl (by rw [hi.bytes]; omega) (by omega) fun m5 own5 f5 s5 => ⟨_, _, _, rfl, ?_⟩
  have hT5 := hT4.sp (f5 fun _ _ => False) fun _ _ => id
  refine appendS_W (d := List.replicate n 0) (ys := T0) (b2 := bT) (o2 := oT) (by rw [List.map_replicate]; exact own5) (fun v hv => ?_) hTl (fun hne => hT5.at_ ?_) (fun i v hv => ?_) (by omega) fun m6 a6 k6 b6 o6 hS6 hb6 f6 => ⟨_, _, _, rfl, ?_⟩
  · rcases List.mem_append.1 hv with hv | hv
    · rw [(List.mem_replicate.1 hv).2]; decide
    · exact hTb v hv
  · rw [← hTl]; exact List.length_pos_iff.2 hne
  · have hi := (List.getElem?_eq_some_iff.1 hv).1
    have := hT5.data i (by omega)
    rw [List.getD_eq_getElem?_getD, hv] at this
    exact this
  · have h5 := h4.fresh f5
    have s6 := f6.size
    refine rest m6 _ a6 _ k6 b6 o6 _ (h5.fr f6 fun i j hi h => by have := h.1; have := h3.lo; omega) (by omega) hS6 (by omega) (fun _ => ?_) ((F3.trans (f4.mono fun x y h => by unfold RS at h; omega)).trans ((f5 _).trans (f6.mono fun x y h => by have := h.1; omega)))
    have := h3.lo
    rcases hb6 with ⟨h, _⟩ | ⟨h, _⟩ <;> omega
theorem TwoWays_spec {a : Option Addr} {l k b o : Nat} {d : List Nat} (hS : SlcB m a l k b o d) {R : Value → Mem → Prop}
    (hk : ∀ m' a1 l1 k1 b1 o1 src ch a2 l2 k2 b2 o2 src2 ch2 a4 l4 k4 b4 o4 H, MadeS m' true a1 l1 k1 b1 o1 src ch a4 l4 k4 b4 o4 H → MadeS m' true a2 l2 k2 b2 o2 src2 ch2 a4 l4 k4 b4 o4 H → (∀ S, Fr S m m') → R (.tuple #[.slice a1 l1 k1, .slice a2 l2 k2, .slice a4 l4 k4]) m') : CallM PP f_spec_TwoWays #[.slice a l k] m R := by
  refine e_spec_TwoWays a l k m R (newReader_spec hS fun m1 h1 f1 s1 => ⟨_, rfl, ?_⟩)
  have hr := h1.lo
  refine listOf_spec h1 (behind := 0) (most := 40) (by decide) (by decide) (by decide) fun m2 aI lI kI bI oI its hI hlI hV hbI h2 f2 => ⟨_, _, _, rfl, ?_⟩
  have hIl := hI.len
  have s2 := f2.size
  refine box_writer fun m3 hWa f3 => box_writer fun m4 hWb f4 => ?_
  have s3 := hWa.lo
  have s4 := hWb.lo
  have hgs := givs_size (H := []) hV
  rw [List.length_nil, Nat.zero_add] at hgs
  have hHb : ∀ v ∈ givs [] its, v < 256 := givs_byte (n := 0) hV (by simp)
  have hI4 := (hI.fr (f3 fun _ _ => False) fun _ _ => id).fr (f4 fun _ _ => False) fun _ _ => id
  have hWa4 := WrM.fresh hWa f4
  refine pick_spec ((h2.fresh f3).fresh f4) (by decide) (n := 2) (by decide) fun m5 x hx h5 f5 => ⟨_, rfl, ?_⟩
  have s5 := f5.size
  have ga5 : Gen m5 m.size 242 m2.size m2.size [] := ⟨h5.mono (by decide), WrM.fr hWa4 f5 (fun j => rs_old (by omega) j) (fun j => rs_old (by omega) j), by omega, by omega⟩
  have hWb5 : WrL m5 m3.size m3.size [] := WrM.fr hWb f5 (fun j => rs_old (by omega) j) (fun j => rs_old (by omega) j)
  have hI5 := hI4.fr f5 fun h0 j => rs_old (by have := hbI h0; omega) j
  have hIo : 0 < lI → m1.size ≤ bI ∧ bI < m2.size := fun h0 => ⟨hbI h0, by
    have hne : its ≠ [] := by rintro rfl; simp at hIl; omega
    obtain ⟨y, hy⟩ : ∃ y, its[0]? = some y := ⟨_, List.getElem?_eq_getElem (by omega)⟩
    have := cell_block (hI.data 0 y hy).1
    simpa using this⟩
  have rest : ∀ m6 c6 b6 pc, GOp m5 m.size m2.size m2.size m6 c6 b6 pc → c6 ≤ 100000 → BlkX 0 [] pc (givs [] its) true → chLen pc ≤ 20000 → WPS PP 54 c_spec_TwoWays_rrrrr (retK PP r_spec_TwoWays R) [(0, .slice a l k), (2, .slice none 0 0), (3, .slice none 0 0), (4, .slice none 0 0), (5, .pointer (some ⟨m.size, 0, none⟩)), (6, .slice aI lI kI), (7, .pointer (some ⟨m2.size, 0, none⟩)), (8, .pointer (some ⟨m3.size, 0, none⟩))] m6 := by
    intro m6 c6 b6 pc g6 hc6 hB6 hpl
    have s6 := g6.fr.size
    have mv6 := g6.mv
    have hI6 := hI5.fr g6.fr fun h0 j => by
      have := hIo h0
      rintro (h | h | h) <;> omega
    have hWb6 : WrL m6 m3.size m3.size [] := WrM.fr hWb5 g6.fr (fun j => by rintro (h | h | h) <;> omega) fun j => by rintro (h | h | h) <;> omega
    refine WPS.piece [5, 6, 7, 8] rfl (p_spec_TwoWays_rrrrr _ aI lI kI _ _ m6 _ ?_)
    rw [wrap_succ (by omega)]
    refine pick_spec g6.gen.rd (by omega) (Nat.succ_pos lI) fun m7 n hn h7 f7 => ⟨_, rfl, ?_⟩
    have s7 := f7.size
    have hnl : n ≤ lI := by omega
    have hcap := hI.cap
    have ga7 := g6.pick h7 f7
    have hI7 := hI6.fr f7 fun h0 j => rs_old (by have := hIo h0; omega) j
    have gb7 : Gen m7 m.size (c6 + 1) m3.size m3.size [] := ⟨h7, WrM.fr hWb6 f7 (fun j => rs_old (by omega) j) (fun j => rs_old (by omega) j), by omega, by omega⟩
    obtain ⟨hV1, hV2⟩ := hV.split (k := n)
    rw [← List.length_nil (α := Nat), ← givs_len] at hV2
    refine ⟨hcap, ⟨by omega, by omega⟩, ?_⟩
    rw [Int.toNat_natCast]
    have hIa := hI7.take (n := n) hnl
    have oI : 0 < n → Out3 bI m.size m3.size m3.size := fun h0 => by have := hIo (by omega); exact ⟨by omega, by omega, by omega⟩
    refine dynamic_spec gb7 hIa oI false [] hV1 (by omega) (by omega) (by simp [chLen]) fun m8 b8 pd _ hB8 hdl g8 => ⟨rfl, hcap, ⟨by omega, by omega⟩, ?_⟩
    rw [List.nil_append] at g8
    have s8 := g8.fr.size
    have mv8 := g8.mv
    have hI8 := hI7.fr g8.fr fun h0 => by
      have := hIo h0
      intro j
      rintro (h | h | h) <;> omega
    have hIb := hI8.drop (n := n) hnl
    have oI8 : 0 < lI → Off bI m3.size b8 := fun h0 => by have := hIo (by omega); exact ⟨by omega, by omega⟩
    refine Fixed_spec g8.gen.wr hIb (fun h0 => oI8 (by omega)) true (givs [] (its.take n)) hV2 (by omega) (by omega) fun m9 b9 pf hIt hpc W9 => ⟨rfl, ?_⟩
    rw [givs_cut] at hIt
    have g9 := g8.wol W9
    have s9 := g9.fr.size
    have mv9 := g9.mv
    have hBb : BlkX 0 [] (pd ++ ((fl true + 2, 3) :: (pf ++ [sy fixL 256]))) (givs [] its) true := BlkX.append hB8 (blkX_fixed true hIt)
    have hWa9 : WrL m9 m2.size b6 pc := WrM.fr ga7.gen.wr g9.fr (fun j => by rintro (h | h | h) <;> omega) fun j => by rintro (h | h | h) <;> omega
    obtain ⟨a1, l1, k1, o1, src, c1, c2, c3⟩ := hWa9.stream
    obtain ⟨a2, l2, k2, o2, src2, d1, d2, d3⟩ := WrL.stream g9.gen.wr
    have hI9 := hI8.fr W9.fr fun h0 j => off_ws (oI8 h0) j
    refine ⟨a1, l1, k1, c1, a2, l2, k2, d1, ?_⟩
    refine GivenP_spec (OutB.nil m9 0) hI9 (fun _ h => absurd h (by omega)) hV (by omega) (by omega) fun m10 a4 k4 b4 o4 hO10 _ f10 => ⟨_, _, _, rfl, ?_⟩
    have F10 : ∀ S, Fr S m9 m10 := fun S => f10.mono fun x y h => absurd h.2 (by omega)
    have hO' := hO10.slc hHb
    have h256 := fixL_256
    refine ⟨(F10 fun _ _ => False).cell d1 id, (F10 fun _ _ => False).cell c1 id, ?_⟩
    refine hk m10 a1 l1 k1 b6 o1 src pc a2 l2 k2 b9 o2 src2 _ a4 _ k4 b4 o4 (givs [] its) ⟨c2.sp (F10 fun _ _ => False) fun _ _ => id, c3, hB6, by omega, hO', by omega, by omega⟩ ⟨d2.sp (F10 fun _ _ => False) fun _ _ => id, d3, hBb, ?_, hO', by omega, by omega⟩ fun S => ?_
    · simp only [chLen_append, chLen, sy]; omega
    · have F : Fr (fun x _ => m.size ≤ x) m1 m9 := (f2.mono fun x y h => by unfold RS at h; omega).trans ((f3 _).trans ((f4 _).trans ((f5.mono fun x y h => by unfold RS at h; omega).trans ((g6.fr.mono fun x y h => by rcases h with h | h | h <;> omega).trans ((f7.mono fun x y h => by unfold RS at h; omega).trans (g9.fr.mono fun x y h => by rcases h with h | h | h <;> omega))))))
      exact (((f1 _).trans F).trans (F10 _)).old fun x y hx h => by omega
  refine ifB_of (fun _ => ?_) (fun _ => ?_)
  · refine Fixed_spec ga5.wr hI5 (fun h0 => by have := hIo h0; exact ⟨by omega, by omega⟩) true [] hV (by omega) (by simp [chLen]; omega) fun m6 b6 pc hIt hpc W6 => ⟨rfl, ?_⟩
    have := fixL_256
    exact rest m6 _ b6 _ (ga5.wol W6) (by decide) (blkX_fixed true hIt) (by simp only [chLen, chLen_append, sy]; omega)
  · exact dynamic_spec ga5 hI5 (fun h0 => by have := hIo h0; exact ⟨by omega, by omega, by omega⟩) true [] hV (by omega) (by decide) (by simp [chLen]) fun m6 b6 pc _ hB6 hpl g6 => ⟨rfl, rest m6 _ b6 pc g6 (by decide) hB6 (by omega)⟩
end
end Go.M

namespace Go.M
set_option maxRecDepth 100000
def finM : Md → Bool
  | .block => false
  | .stored fin _ => fin
  | .coded fin _ => fin
  | .copy fin _ _ _ => fin
def LastS (s : St) : Prop := (s.md = .block ∧ s.p = 0) ∨ finM s.md = true
theorem gfar_last {c : Sc} {H : List Nat} {T : Tb} {len d p : Nat} {s : St} (h : gfar c H true T len d p = .go s) : finM s.md = true := by
  unfold gfar at h
  split at h
  · cases h
  · simp only [Nx.go.injEq] at h; subst h; rfl
theorem gdist_last {c : Sc} {H : List Nat} {T : Tb} {len k p : Nat} {s : St} (h : gdist c H true T len k p = .go s) : finM s.md = true := by
  unfold gdist at h
  split at h
  · exact gfar_last h
  · split at h
    · split at h
      · cases h
      · exact gfar_last h
    · cases h
theorem glen_last {c : Sc} {H : List Nat} {T : Tb} {len p : Nat} {s : St} (h : glen c H true T len p = .go s) : finM s.md = true := by
  unfold glen at h
  split at h
  · split at h
    · cases h
    · exact gdist_last h
  · split at h
    · cases h
    · cases h
    · exact gdist_last h
theorem gcoded_last {c : Sc} {H : List Nat} {T : Tb} {p : Nat} {s : St} (h : gcoded c H true T p = .go s) : finM s.md = true := by
  unfold gcoded at h
  split at h
  · cases h
  · cases h
  · unfold gsym at h
    split at h
    · simp only [Nx.go.injEq] at h; subst h; rfl
    · split at h
      · simp at h
      · split at h
        · cases h
        · split at h
          · cases h
          · exact glen_last h
theorem gblock_last {c : Sc} {H : List Nat} {s : St} (h1 : tk c.N 0 1 = 1) (h : gblock c H 0 = .go s) : finM s.md = true := by
  have e : (tk c.N 0 1 == 1) = true := by rw [h1]; rfl
  unfold gblock at h
  rw [e] at h
  split at h
  · cases h
  · split at h
    · split at h
      · cases h
      · split at h
        · cases h
        · simp only [Nx.go.injEq] at h; subst h; rfl
    · split at h
      · simp only [Nx.go.injEq] at h; subst h; rfl
      · split at h
        · split at h
          · cases h
          · cases h
          · simp only [Nx.go.injEq] at h; subst h; rfl
        · cases h
theorem last_step {c : Sc} (h1 : tk c.N 0 1 = 1) {s s' : St} (hs : LastS s) (h : gstep c s = .go s') : LastS s' := by
  obtain ⟨p, H, md⟩ := s
  refine .inr ?_
  cases md with
  | block =>
    have hp : p = 0 := by
      rcases hs with ⟨_, h2⟩ | h2
      · exact h2
      · cases h2
    subst hp
    exact gblock_last h1 h
  | stored fin n =>
    have hf : fin = true := by
      rcases hs with ⟨h2, _⟩ | h2
      · cases h2
      · exact h2
    subst hf
    cases n with
    | zero => cases h
    | succ n =>
      have h : (if c.tot < p + 8 then _ else _) = Nx.go s' := h
      split at h
      · cases h
      · simp only [Nx.go.injEq] at h; subst h; rfl
  | coded fin T =>
    have hf : fin = true := by
      rcases hs with ⟨h2, _⟩ | h2
      · cases h2
      · exact h2
    subst hf
    exact gcoded_last h
  | copy fin T d n =>
    have hf : fin = true := by
      rcases hs with ⟨h2, _⟩ | h2
      · cases h2
      · exact h2
    subst hf
    cases n with
    | zero => have h : Nx.go _ = Nx.go s' := h; simp only [Nx.go.injEq] at h; subst h; rfl
    | succ n => have h : Nx.go _ = Nx.go s' := h; simp only [Nx.go.injEq] at h; subst h; rfl
theorem last_to {c : Sc} (h1 : tk c.N 0 1 = 1) {s s' : St} (h : GTo c s s') : LastS s → LastS s' := by
  induction h with
  | refl => exact id
  | step _ h2 ih => exact fun hs => last_step h1 (ih hs) h2
theorem no_ends {c : Sc} (h1 : tk c.N 0 1 = 1) : ¬ Ends c := by
  rintro ⟨s, ⟨d, h | ⟨_, _, _, h, _⟩⟩, h2, h3⟩
  · rcases last_to h1 h (.inl ⟨rfl, rfl⟩) with ⟨_, h4⟩ | h4
    · omega
    · rw [h2] at h4; cases h4
  · rw [h2] at h; cases h
theorem first_bit {src : List Nat} {ch rest : List (Nat × Nat)} {v : Nat} (hst : StreamOf ch src) (hok : ChOk ch) (h : ch = (v, 3) :: rest) (hv : v % 2 = 1) : tk (num src) 0 1 = 1 := by
  have hA : At (num src) 0 ch := at_stream hok (by rw [hst.num]; exact Nat.mod_eq_of_lt (chVal_lt hok))
  rw [h] at hA
  rw [(head_bits hA.1).1]; exact hv
end Go.M

namespace Go.M
open Go
set_option maxRecDepth 100000
section
variable {m : Mem}
theorem LiteralsOf_spec {a : Option Addr} {l k b o : Nat} {d : List Nat} (hS : SlcB m a l k b o d) {R : Value → Mem → Prop}
    (hk : ∀ m' a1 l1 k1 b1 o1 src ch a2 l2 k2 b2 o2 H, MadeS m' true a1 l1 k1 b1 o1 src ch a2 l2 k2 b2 o2 H → H.length ≤ 200 → tk (num src) 0 1 = 1 → (∀ S, Fr S m m') → R (.tuple #[.slice a1 l1 k1, .slice a2 l2 k2]) m') : CallM PP f_spec_LiteralsOf #[.slice a l k] m R := by
  refine e_spec_LiteralsOf a l k m R (newReader_spec hS fun m1 h1 f1 s1 => ⟨_, rfl, ?_⟩)
  have hr := h1.lo
  refine data_spec h1 (most := 200) (by decide) (by decide) fun m2 aT lT kT bT oT T hT hlT hTb hbT h2 f2 => ⟨_, _, _, rfl, box_writer fun m3 hW f3 => ?_⟩
  have s2 := f2.size
  have s3 := hW.lo
  have hTl := hT.len
  have hT3 := (hT.slc hTb).sp (f3 fun _ _ => False) fun _ _ => id
  have h3 := h2.fresh f3
  have hw : m1.size ≤ m2.size := s2
  have hbT2 : 0 < kT → bT < m2.size := hT.lt
  have hTle := hT.own.le
  generalize hwN : m2.size = wN at *
  rw [q_spec_LiteralsOf_rrrrrlrl]
  refine loopW ffOk mixedOk (L₀ := L_spec_LiteralsOf) (σ := Nat × Option Addr × Nat × Nat × Nat) [4, 5, 6, 7, 16, 17, 18]
    (fun s => [(4, .pointer (some ⟨m.size, 0, none⟩)), (5, .slice aT lT kT), (6, .pointer (some ⟨wN, 0, none⟩)), (7, .slice s.2.1 s.1 s.2.2.1), (16, .slice aT lT kT), (17, .int .i64 (lT : Int)), (18, .int .i64 (s.1 : Nat))])
    (fun s m' => s.1 ≤ lT ∧ OutT m' s.2.1 s.1 s.2.2.1 s.2.2.2.1 s.2.2.2.2 ((T.take s.1).map litIt) ∧ (0 < s.2.2.1 → m3.size ≤ s.2.2.2.1) ∧ Fr (fun x _ => m3.size ≤ x) m3 m')
    (fun s => lT - s.1) (0, none, 0, 0, 0) rfl ⟨Nat.zero_le _, OutT.nil _ _, by simp, Fr.refl _ _⟩ ?_
  rintro ⟨i, a4, k4, b4, o4⟩ m4 ⟨hi, hO, hb4, f4⟩
  simp only at hi hO hb4
  have f34 : ∀ S, Fr S m3 m4 := fun S => f4.old fun x y hx h => by omega
  have hT4 := hT3.sp (f34 fun _ _ => False) fun _ _ => id
  refine p_spec_LiteralsOf_rrrrrlrll _ aT lT kT _ a4 i k4 aT lT kT lT i m4 _ ?_
  by_cases hil : i < lT
  · rw [decide_eq_true (by omega)]
    have hg : T[i]? = some (T[i]'(by omega)) := List.getElem?_eq_getElem (by omega)
    have hd := hT4.data i hil
    rw [List.getD_eq_getElem?_getD, hg] at hd
    generalize T[i]'(by omega) = v at hg hd
    have hat := hT4.at_ (by omega)
    refine ifB_t ?_
    rw [hat]
    refine ⟨⟨by omega, by omega⟩, (v : Int), cellB hd, ?_⟩
    rw [← hat]
    refine pushT_W hO (litIt v) (by omega) fun m5 a' k' b' o' hO5 hk5 hb5 f5 => ?_
    rw [wrap_succ (by omega)]
    have s4 := f4.size
    refine ⟨(i + 1, a', k', b', o'), rfl, ⟨by simp only; omega, ?_, fun _ => ?_, f4.trans (f5.mono fun x _ h => by have := hb4 h.2; omega)⟩, by simp only; omega⟩
    · simp only
      rw [List.take_add_one, hg, List.map_append]; exact hO5
    · simp only
      rcases hb5 with ⟨rfl, rfl⟩ | h
      · exact hb4 hk5
      · omega
  · rw [decide_eq_false (by omega)]
    have htk : T.take i = T := List.take_of_length_le (by omega)
    rw [htk] at hO
    have hI := hO.slc
    have hV := lits_valid (n := 0) hTb
    have hgv := lits_give T []
    rw [List.nil_append] at hgv
    have g4 : Gen m4 m.size (1 + 2 * 200) wN wN [] := ⟨(h3.fresh f34).mono (by omega), WrM.fresh hW f34, by omega, by omega⟩
    refine ifB_f (WPS.piece [4, 5, 6, 7] rfl (p_spec_LiteralsOf_rrrrrr _ aT lT kT _ a4 i k4 m4 _ ?_))
    refine pick_spec g4.rd (by decide) (n := 2) (by decide) fun m5 q hq h5 f5 => ⟨_, rfl, ?_⟩
    have g5 := g4.pick h5 f5
    have hI5 := hI.fr f5 fun h0 j => rs_old (by have := hb4 (by have := Own.le hO; omega); have := (f3 fun _ _ => False).size; omega) j
    have hIo : 0 < i → Out3 b4 m.size wN wN := fun h0 => by
      have := hb4 (by have := Own.le hO; omega)
      exact ⟨by omega, by omega, by omega⟩
    have done : ∀ m6 c6 b6 pc v, GOp m5 m.size wN wN m6 c6 b6 ([] ++ pc) → (∃ rest, pc = (v, 3) :: rest) → v % 2 = 1 → BlkX 0 [] pc T true → chLen pc ≤ 60 * 200 + 6000 → WPS PP 43 c_spec_LiteralsOf_rrrrrrr (retK PP r_spec_LiteralsOf R) [(4, .pointer (some ⟨m.size, 0, none⟩)), (5, .slice aT lT kT), (6, .pointer (some ⟨wN, 0, none⟩)), (7, .slice a4 i k4)] m6 := by
      intro m6 c6 b6 pc v g6 ⟨rest, hrest⟩ hv hB hpl
      rw [List.nil_append] at g6
      obtain ⟨a1, l1, k1, o1, src, c1, c2, c3⟩ := WrL.stream g6.gen.wr
      have g56 := g5.trans g6
      have hT6 := hT4.sp g56.fr fun h0 j => by
        have := hbT2 (by omega)
        rintro (e | e | e) <;> omega
      refine WPS.piece [5, 6] rfl (p_spec_LiteralsOf_rrrrrrr aT lT kT _ m6 _ ?_)
      refine ⟨a1, l1, k1, c1, hk m6 a1 l1 k1 b6 o1 src pc aT lT kT bT oT T ⟨c2, c3, hB, by omega, hT6, by omega, by omega⟩ (by omega) (first_bit c3 (hB.is).1 hrest hv) fun S => ?_⟩
      refine ((((f1 _).trans (f2.mono (S' := fun x _ => m.size ≤ x) fun x y h => by unfold RS at h; omega)).trans ((f3 _).trans (f34 _))).trans (g56.fr.mono fun x y h => ?_)).old fun x y hx h => by omega
      rcases h with h | h | h <;> omega
    refine ifB_of (fun _ => ?_) (fun _ => ?_)
    · refine Fixed_spec g5.gen.wr hI5 (fun h0 => (hIo (by omega)).off) true [] hV (by omega) (by simp [chLen]; omega) fun m6 b6 pc hIt hpc W6 => ⟨rfl, ?_⟩
      rw [hgv] at hIt
      have := fixL_256
      exact done m6 _ b6 _ (fl true + 2) (g5.gen.wol W6) ⟨_, rfl⟩ (by decide) (blkX_fixed true hIt) (by simp only [chLen, chLen_append, sy]; omega)
    · refine dynamic_spec g5.gen hI5 (fun h0 => hIo (by omega)) true [] hV (by omega) (by decide) (by simp [chLen]) fun m6 b6 pc hfirst hB hpl g6 => ⟨rfl, ?_⟩
      rw [hgv] at hB
      exact done m6 _ b6 pc (fl true + 4) g6 hfirst (by decide) (by simpa [chLen] using hB) (by omega)
end
end Go.M
