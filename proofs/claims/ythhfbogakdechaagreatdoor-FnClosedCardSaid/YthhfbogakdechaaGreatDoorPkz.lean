/- The thin package: Closed. -/
import Derived.Test.YthhfbogakdechaaGreatDoorPkq
namespace Go.M
open Go
set_option maxRecDepth 100000
theorem callM_Close (f : Nat) (m : Mem) (K : Value → Mem → Prop) (h : CallM PP f_decompressor_Close #[.pointer (some ⟨f, 0, none⟩)] m K) :
    SemW PP (callMethod (.iface t_p_flate_decompressor (.pointer (some ⟨f, 0, none⟩))) "Close" #[]) m (NextW PP K) := Eq.mpr (by kernel_rfl) h
section
variable {E : Errs} {src : List Nat}
theorem Closed_spec {m : Mem} {a : Option Addr} {l k b o : Nat} (hS : SlcB m a l k b o src) (hG : Glob E m) (hbig : l ≤ 70368744177664) {Hf : List Nat} {pf : Nat} (hr : Runs (scOf src) ⟨0, [], .block⟩ Hf .fin pf) (hH : Hf.length ≤ 131072)
    {R : Value → Mem → Prop} (hk : ∀ m', (∀ S, Fr S m m') → R (.bool true) m') : CallM PP f_impl_Closed #[.slice a l k, .int .i64 131072] m R := by
  refine e_impl_Closed a l k 131072 m R ?_
  refine source_spec hS hG hbig fun m1 rb db hA h1 h2 h3 f1 => ⟨_, rfl, ?_⟩
  have hG1 : Glob E m1 := hG.fr (f1 fun _ _ => False) (by intro i j h; exact h.elim)
  have h4 := hG.big
  have hlen := hS.len
  refine newReader_bytes (E := E) (src := src) ⟨by omega, by omega⟩ hA hG1 h3 hS.byte (by omega) fun m2 f bh bb cb k1 k2 k3 k4 f2 hDf hL => ⟨_, rfl, ?_⟩
  have s1 := (f1 fun _ _ => False).size
  refine all_spec (hL Hf .fin pf hr) (by simp) hDf (by omega) (by decide) fun m3 a' l' k' b' o' c hO hb hle _ hF hc => ⟨_, _, _, _, rfl, ?_⟩
  have s2 := (f2 fun _ _ => False).size
  rcases hc with ⟨hl, rfl, wr, l2, hE, _⟩ | ⟨hl, _⟩
  rotate_left
  · omega
  have old : ∀ S, Fr S m m3 := fun S => by
    refine Fr.old ((f1 _).trans ((f2 _).trans hF)) ?_
    rintro i j hi ((rfl | rfl) | rfl | rfl | rfl | rfl) <;> omega
  obtain ⟨v, hv, he⟩ := hE.err
  refine callM_Close _ _ _ (e_decompressor_Close f m3 _ ⟨_, hv, _, hE.glob.eof, ?_⟩)
  cases he
  exact eqErr_same _ _ E.pe m3 _ ⟨true, rfl, ifB_t ⟨_, rfl, rfl, hk m3 old⟩⟩
end
end Go.M
