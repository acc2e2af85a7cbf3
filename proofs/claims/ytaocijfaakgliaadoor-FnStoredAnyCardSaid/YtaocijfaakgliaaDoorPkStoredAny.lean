/- FnStoredAny: a stored stream gives its bytes: the tied card. For every slice of bytes and every number. The package variables are as the program's text lays them. -/
import Derived.Test.YtaocijfaakgliaaDoorPkx
import Derived.Test.YtaocijfaakgliaaDoorPkr
import Derived.Test.YtaocijfaakgliaaDoorPkz
import Derived.Test.YtaocijfaakgliaaDoorCards
import Derived.SevenTiedAt
namespace Go.Proofs.YtaocijfaakgliaaDoor
open Go Go.M Go.ChangeShapes Go.WideShapes Go.ChangeAt Go.RowKit
set_option maxRecDepth 100000

theorem storedAny_walk {E : Errs} {src : List Nat} {m : Mem} {a : Option Addr} {l k b o : Nat} (hS : SlcB m a l k b o src) {x : Int} (_ : -9223372036854775808 ≤ x ∧ x ≤ 9223372036854775807) (hG : Glob E m) {R : Value → Mem → Prop} (hk : ∀ m', (∀ S, Fr S m m') → R (.bool true) m') :
    CallM PP f_laws_FnStoredAny #[.slice a l k, .int .i64 x] m R := by
  refine e_laws_FnStoredAny a l k x m R ?_
  by_cases h1 : (l : Int) > 2147483647
  · rw [decide_eq_true h1]; exact ifB_t (hk m fun S => Fr.refl S m)
  rw [decide_eq_false h1]
  refine ifB_f ?_
  by_cases h2 : (l : Int) > 16777216
  · rw [decide_eq_true h2]; exact ifB_t (hk m fun S => Fr.refl S m)
  rw [decide_eq_false h2]
  refine ifB_f ?_
  have hlen := hS.len
  have hb : 0 < l → b < m.size := fun h0 => cell_block (hS.data 0 h0)
  by_cases h3 : (l : Int) > 131072
  · rw [decide_eq_true h3]
    refine Store_spec hS hb (by omega) true x fun m1 a1 l1 k1 b1 o1 s1 ch hS1 hst hB hn f1 => ⟨_, _, _, rfl, ?_⟩
    have hr := hB.run (tail := []) hst.byte hst.num hst.len
    rw [List.append_nil] at hr
    have hl1 := hst.len
    have hl2 := hS1.len
    refine All_spec hS1 (hG.fr (f1 fun _ _ => False) (by intro i j h; exact h.elim)) (by omega) (by decide) hr fun m2 a2 l2 k2 b2 o2 c hO hb hle hf hc => ⟨_, _, _, _, rfl, ?_⟩
    exact ifB_t (hk m2 fun S => (f1 S).trans (hf S))
  · rw [decide_eq_false h3]
    refine Store_spec hS hb (by omega) true x (Wrote.read hG (by omega) (by omega) fun m1 a1 k1 b1 o1 hO _ f1 => ⟨_, _, _, _, rfl, ifB_f (ifB_t ?_)⟩)
    exact same_true (hO.slc hS.byte) (hS.sp (f1 fun _ _ => False) fun _ _ => id) (by omega) rfl ⟨_, rfl, hk m1 f1⟩

theorem storedAny_lifted (os : Os) (started : os.Started) (H : Type) (enc : TypeId × Value → H) :
    ReturnsInHanded {} Tryd.checked os f_laws_FnStoredAny .any (fun w args => (Rows.fnStoredAnySpec.pre enc Tryd.prog (fnAt f_laws_FnStoredAny) [] false w args ∧ laidMetH Tryd.prog laidL w) ∧ sizedMet enc Tryd.prog (fnAt f_laws_FnStoredAny) (OpenSpec.ofChange Rows.fnStoredAnySpec) false w args)
      (Rows.fnStoredAnySpec.post enc Tryd.prog (fnAt f_laws_FnStoredAny) false true false false) := by
  refine returnsInHanded_of_change_and (C := Tryd.checked) (X := fun w _ => laidMetH Tryd.prog laidL w) (fun _ _ _ hh h => h.of_heap hh) own started (by kernel_rfl) (by kernel_rfl)
    (ChangeSpec.witness_shaped (enc := enc) (C := Tryd.checked) (os := os) (X := fun w _ => laidMetH Tryd.prog laidL w) false (World.doorLaid Tryd.prog 400 os) #[.slice none 0 0, .int .i64 0] 8 rfl (shaped os _) (by kernel_rfl) (by kernel_rfl) (by kernel_rfl) (door_met os _)) ?_
  intro W base args ds gs before hval0 hW _ _ hL _
  have hp : (fnAt f_laws_FnStoredAny).params = #[t_s_uint8, t_int] := by kernel_rfl
  have hval : ∀ (j : Nat) t v, (fnAt f_laws_FnStoredAny).params[j]? = some t → args[j]? = some v → Value.okWide Tryd.prog W .any base t v := hval0
  have hW' := hW
  obtain ⟨p, q, hA, hV, _, _, _⟩ := hW
  rw [hp] at hA hval
  obtain ⟨v0, v1, d0, d1, p0, p1, rfl, rfl, rfl, h0, h1⟩ := trodAll_two hA
  obtain ⟨a0, l0, k0, b0, o0, s0, rfl, hS0⟩ := bytes_arg (hval 0 _ v0 rfl rfl) h0
  obtain ⟨x1, rfl, hx1⟩ := int_arg (hval 1 _ v1 rfl rfl) h1
  obtain ⟨E, hG⟩ := glob_laid hL
  obtain ⟨g, rfl⟩ : ∃ g, gs = [g] := by
    match gs, hV with
    | [g], _ => exact ⟨g, rfl⟩
    | _ :: _ :: _, ⟨_, _, _, _, _, _, _, _, _, _, h, _⟩ => exact h.elim
  refine (calls_of (storedAny_walk hS0 hx1 hG fun m' hf => ⟨rfl, hf⟩)).mono fun e W' ⟨he, hs, hf⟩ => ⟨_, he, ?_⟩
  exact law_post hW' hs hf (tb := t_bool) (by kernel_rfl) (by kernel_rfl) rfl readable (by kernel_rfl) codeVar

theorem storedAny_said : Rows.FnStoredAnySaid :=
  OpenClaim.holds_of_wide f_laws_FnStoredAny (fnAt f_laws_FnStoredAny) rfl rfl rfl rfl rfl rfl rfl ⟨rfl, rfl, rfl, rfl, rfl⟩ rfl rfl rfl rfl rfl (by kernel_rfl) (by kernel_rfl) (by kernel_rfl)
    (of_decide_eq_true (by kernel_rfl)) (by unfold Func.isWrapper; rw [if_neg (of_decide_eq_false (by kernel_rfl))]; exact ⟨rfl, rfl⟩)
    (fun os started H enc _ => storedAny_lifted os started H enc)
end Go.Proofs.YtaocijfaakgliaaDoor

namespace Go.Proofs.YtaocijfaakgliaaDoor
open Go Go.M
set_option maxRecDepth 100000

theorem storedAny_card : Rows.FnStoredAnyCardSaid :=
  Claim7.holds_tied_plain_at .later [] [.handle, .sentinel, .sentinel, .sentinel, .data] true Rows.fnStoredAnyCard.stood.harness true
    storedAny_said (fun _ h => by cases h) (by kernel_rfl) (fun _ h => by cases h) fnStoredAny_row_tie rfl ⟨rfl, rfl⟩ (by kernel_rfl) rfl
    (fun f fn hf hfn => by
      obtain rfl : f = f_laws_FnStoredAny := Option.some.inj ((show Tryd.prog.funcNamed "loop.example/pub-inflation/laws.FnStoredAny" = some f_laws_FnStoredAny by kernel_rfl).symm.trans hf) |>.symm
      obtain rfl : fn = fnAt f_laws_FnStoredAny := (Option.some.inj ((show Tryd.prog.funcs[f_laws_FnStoredAny]? = some (fnAt f_laws_FnStoredAny) by kernel_rfl).symm.trans hfn)).symm
      exact ⟨by kernel_rfl, fun j t ht => by
        rw [show (fnAt f_laws_FnStoredAny).params = #[t_s_uint8, t_int] by kernel_rfl] at ht
        have h3 : t = t_int ∨ t = t_s_uint8 := by
          have hm : t ∈ [t_s_uint8, t_int] := List.mem_of_getElem? (by simpa using ht)
          simp only [List.mem_cons, List.not_mem_nil, or_false] at hm
          rcases hm with rfl | rfl <;> simp
        rcases h3 with rfl | rfl
        · exact (show Tryd.prog.wantsStandIn t_int = false by kernel_rfl)
        · exact (show Tryd.prog.wantsStandIn t_s_uint8 = false by kernel_rfl)⟩)
    (by kernel_rfl)
end Go.Proofs.YtaocijfaakgliaaDoor
