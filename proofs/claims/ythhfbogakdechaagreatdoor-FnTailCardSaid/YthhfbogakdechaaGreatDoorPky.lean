/- The thin package: Left. -/
import Derived.Test.YthhfbogakdechaaGreatDoorPkq
namespace Go.M
open Go
set_option maxRecDepth 100000
section
variable {E : Errs} {src : List Nat}
theorem Len_spec {rb db pos : Nat} {m : Mem} (hA : BytesAt src rb db pos m) {R : Value → Mem → Prop} (hk : R (.int .i64 ((src.length - pos : Nat) : Int)) m) : CallM PP f_bytes_Reader_Len #[.pointer (some ⟨rb, 0, none⟩)] m R := by
  obtain ⟨a, k, h1, h2, h3⟩ := hA.s
  have hle := hA.le
  have hbig := hA.big
  refine e_bytes_Reader_Len rb m R ⟨_, hA.i, _, _, _, h1, ?_⟩
  by_cases hp : pos = src.length
  · rw [decide_eq_true (by omega)]
    rw [show src.length - pos = 0 by omega] at hk
    exact ifB_t hk
  · rw [decide_eq_false (by omega)]
    refine ifB_f ⟨_, _, _, h1, _, hA.i, ?_⟩
    rw [show IntKind.wrap .i64 ((src.length : Int) - (pos : Int)) = ((src.length - pos : Nat) : Int) by rw [wrap64_id (by omega) (by omega)]; omega]
    exact hk
theorem Left_spec {m : Mem} {a : Option Addr} {l k b o : Nat} (hS : SlcB m a l k b o src) (hG : Glob E m) (hbig : l ≤ 70368744177664) {Hf : List Nat} {e : Er} {pf : Nat} (hr : Runs (scOf src) ⟨0, [], .block⟩ Hf e pf) (hH : Hf.length ≤ 131072) (he : e = .fin ∨ src = [])
    {R : Value → Mem → Prop} (hk : ∀ m' (x : Nat), (e = .fin → x = src.length - (pf + 7) / 8) → (src = [] → x = 0) → (∀ S, Fr S m m') → R (.tuple #[.int .i64 (x : Int), .int .i64 (codeOf e)]) m') : CallM PP f_impl_Left #[.slice a l k, .int .i64 131072] m R := by
  refine e_impl_Left a l k 131072 m R ?_
  refine source_spec hS hG hbig fun m1 rb db hA h1 h2 h3 f1 => ⟨_, rfl, ?_⟩
  have hG1 : Glob E m1 := hG.fr (f1 fun _ _ => False) (by intro i j h; exact h.elim)
  have h4 := hG.big
  have hlen := hS.len
  refine newReader_bytes (E := E) (src := src) ⟨by omega, by omega⟩ hA hG1 h3 hS.byte (by omega) fun m2 f bh bb cb k1 k2 k3 k4 f2 hDf hL => ⟨_, rfl, ?_⟩
  have s1 := (f1 fun _ _ => False).size
  refine all_spec (hL Hf e pf hr) (by simp) hDf (by omega) (by decide) fun m3 a' l' k' b' o' c hO hb hle _ hF hc => ⟨_, _, _, _, rfl, ?_⟩
  have s2 := (f2 fun _ _ => False).size
  rcases hc with ⟨hl, rfl, wr, l2, hE, _⟩ | ⟨hl, _⟩
  rotate_left
  · omega
  have old : ∀ S, Fr S m m3 := fun S => by
    refine Fr.old ((f1 _).trans ((f2 _).trans hF)) ?_
    rintro i j hi ((rfl | rfl) | rfl | rfl | rfl | rfl) <;> omega
  rcases he with rfl | rfl
  · have hB : BytesAt src rb db ((pf + 7) / 8) m3 := hE.left rfl
    exact Len_spec hB ⟨_, rfl, hk m3 _ (fun _ => rfl) (fun h => by rw [h]; simp) old⟩
  · have hB : BytesAt [] rb db 0 m3 := hE.nil rfl
    exact Len_spec hB ⟨_, rfl, hk m3 _ (fun _ => by simp) (fun _ => rfl) old⟩
end
end Go.M
