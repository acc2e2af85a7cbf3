/- FnReset: a reader that is reset is as a new one, wherever it stood: the tied card. For every two slices of bytes and every number. The package variables are as the program's text lays them. -/
import Derived.Test.YtlgdbjpeklangaaGreatDoorPke
import Derived.Test.YtlgdbjpeklangaaGreatDoorPkx
import Derived.Test.YtlgdbjpeklangaaGreatDoorPkr
import Derived.Test.YtlgdbjpeklangaaGreatDoorPkzh
import Derived.Test.YtlgdbjpeklangaaGreatDoorPkzf
import Derived.Test.YtlgdbjpeklangaaGreatDoorCards
import Derived.SevenTiedAt
set_option maxRecDepth 100000
namespace Go.M
open Go Go.Proofs
def L_laws_FnReset:List Nat:=[0,1,2,6,7,8,9,10,11,19,27]
def r_laws_FnReset:List ResultVar:=[.tmp 6]
noncomputable def c_laws_FnReset:Code:=(Go.Proofs.Tryz.f3.body).getD .skip
theorem b_laws_FnReset:Go.Proofs.Tryz.f3.body=some c_laws_FnReset:=by kernel_rfl
theorem e_laws_FnReset (a1:Option Addr) (l2:Nat) (k3:Nat) (x4:Int) (a5:Option Addr) (l6:Nat) (k7:Nat) (m:Mem) (R:Value→Mem→Prop)
  (h:ifB (decide ((l2:Int) > 2147483647)) (R (.bool true) m) (ifB (decide ((l6:Int) > 2147483647)) (R (.bool true) m) (ifB (decide ((l2:Int) > 16777216)) (R (.bool true) m) (ifB (decide ((l6:Int) > 16777216)) (R (.bool true) m) (CallM PP f_spec_DictOf #[.slice a5 l6 k7] m fun v17 m18=>∃ a8 l9,∃ k10 a11,∃ l12 k13,∃ a14 l15 k16,v17=.tuple #[.slice a8 l9 k10,.slice a11 l12 k13,.slice a14 l15 k16]∧CallM PP f_impl_Again #[.slice a1 l2 k3,.int .i64 x4,.slice a11 l12 k13,.slice a8 l9 k10,.int .i64 131072] m18 fun v23 m24=>∃ a19 l20,∃ k21 x22,v23=.tuple #[.slice a19 l20 k21,.int .i64 x22]∧ifB (x22 == 1) (CallM PP f_laws_same #[.slice a19 l20 k21,.slice a14 l15 k16] m24 fun v26 m27=>∃ b25,v26=.bool b25∧R (.bool b25) m27) (R (.bool false) m24)))))):
  CallM PP f_laws_FnReset #[.slice a1 l2 k3,.int .i64 x4,.slice a5 l6 k7] m R:=
 callM_enter ffOk mixedOk 49 L_laws_FnReset Tryz.func3 b_laws_FnReset Tryz.ntmps3 (by simp) (Eq.mpr (by kernel_rfl) h)
end Go.M

namespace Go.Proofs.YtlgdbjpeklangaaGreatDoor
open Go Go.M Go.ChangeShapes Go.WideShapes Go.ChangeAt Go.RowKit
set_option maxRecDepth 100000
theorem resetAll_walk {E:Errs} {first:List Nat} {m:Mem} {a:Option Addr} {l k b o:Nat} (hS:SlcB m a l k b o first) {x:Int} (_: -9223372036854775808≤x∧x≤9223372036854775807) {d:List Nat} {a2:Option Addr} {l2 k2 b2 o2:Nat} (hS2:SlcB m a2 l2 k2 b2 o2 d) (hG:Glob E m) {R:Value→Mem→Prop} (hk:∀ m',(∀ S,Fr S m m')→R (.bool true) m'):
  CallM PP f_laws_FnReset #[.slice a l k,.int .i64 x,.slice a2 l2 k2] m R:=by
 refine e_laws_FnReset a l k x a2 l2 k2 m R ?_
 by_cases h1:(l:Int) > 2147483647
 ·rw [decide_eq_true h1]; exact ifB_t (hk m fun S=>Fr.refl S m)
 rw [decide_eq_false h1]
 refine ifB_f ?_
 by_cases h2:(l2:Int) > 2147483647
 ·rw [decide_eq_true h2]; exact ifB_t (hk m fun S=>Fr.refl S m)
 rw [decide_eq_false h2]
 refine ifB_f ?_
 by_cases h3:(l:Int) > 16777216
 ·rw [decide_eq_true h3]; exact ifB_t (hk m fun S=>Fr.refl S m)
 rw [decide_eq_false h3]
 refine ifB_f ?_
 by_cases h4:(l2:Int) > 16777216
 ·rw [decide_eq_true h4]; exact ifB_t (hk m fun S=>Fr.refl S m)
 rw [decide_eq_false h4]
 refine ifB_f ?_
 refine DictOf_spec hS2 fun m1 aD lD kD bD oD D a1 l1 k1 b1 o1 src ch a4 l4 k4 b4 o4 T hM F1=>⟨_,_,_,_,_,_,_,_,_,rfl,?_⟩
 have hG1:=hG.fr (F1 fun _ _=>False) (by intro i j h; exact h.elim)
 have q1:=hM.st.len
 have q2:=hM.len
 have q3:=hM.row.len
 have q4:=hM.dict.len
 have q5:=hM.dsize
 have q6:=hM.size
 refine Again_short (hS.sp (F1 fun _ _=>False) fun _ _=>id) hM.row hM.dict hG1 (by omega) (by omega) (by omega) x hM.run (by omega) fun m3 a6 k6 b6 o6 hO6 f3=>⟨_,_,_,_,rfl,ifB_t ?_⟩
 have hM3:=hM.fr f3
 exact same_true (hO6.slc hM.want.byte) hM3.want (by have:=hM.want.len; omega) rfl ⟨_,rfl,hk m3 fun S=>(F1 S).trans (f3 S)⟩
theorem resetAll_lifted (os:Os) (started:os.Started) (H:Type) (enc:TypeId×Value→H):
  ReturnsInHanded {} Tryz.checked os f_laws_FnReset .any (fun w args=>(Rows.fnResetSpec.pre enc Tryz.prog (fnAt f_laws_FnReset) [] false w args∧laidMetH Tryz.prog laidL w)∧sizedMet enc Tryz.prog (fnAt f_laws_FnReset) (OpenSpec.ofChange Rows.fnResetSpec) false w args)
   (Rows.fnResetSpec.post enc Tryz.prog (fnAt f_laws_FnReset) false true false false):=by
 refine returnsInHanded_of_change_and (C:=Tryz.checked) (X:=fun w _=>laidMetH Tryz.prog laidL w) (fun _ _ _ hh h=>h.of_heap hh) own started (by kernel_rfl) (by kernel_rfl)
  (ChangeSpec.witness_shaped (enc:=enc) (C:=Tryz.checked) (os:=os) (X:=fun w _=>laidMetH Tryz.prog laidL w) false (World.doorLaid Tryz.prog 400 os) #[.slice none 0 0,.int .i64 0,.slice none 0 0] 8 rfl (shaped os _) (by kernel_rfl) (by kernel_rfl) (by kernel_rfl) (door_met os _)) ?_
 intro W base args ds gs before hval0 hW _ _ hL _
 have hp:(fnAt f_laws_FnReset).params=#[t_s_uint8,t_int,t_s_uint8]:=by kernel_rfl
 have hval:∀ (j:Nat) t v,(fnAt f_laws_FnReset).params[j]?=some t→args[j]?=some v→Value.okWide Tryz.prog W .any base t v:=hval0
 have hW':=hW
 obtain ⟨p,q,hA,hV,_,_,_⟩:=hW
 rw [hp] at hA hval
 obtain ⟨v0,v1,v2,d0,d1,d2,p0,p1,p2,rfl,rfl,rfl,h0,h1,h2⟩:=trodAll_three hA
 obtain ⟨a0,l0,k0,b0,o0,s0,rfl,hS0⟩:=bytes_arg (hval 0 _ v0 rfl rfl) h0
 obtain ⟨x1,rfl,hx1⟩:=int_arg (hval 1 _ v1 rfl rfl) h1
 obtain ⟨a2,l2,k2,b2,o2,s2,rfl,hS2⟩:=bytes_arg (hval 2 _ v2 rfl rfl) h2
 obtain ⟨E,hG⟩:=glob_laid hL
 obtain ⟨g,rfl⟩:∃ g,gs=[g]:=by
  match gs,hV with
  | [g],_=>exact ⟨g,rfl⟩
  | _::_::_,⟨_,_,_,_,_,_,_,_,_,_,h,_⟩=>exact h.elim
 refine (calls_of (resetAll_walk hS0 hx1 hS2 hG fun m' hf=>⟨rfl,hf⟩)).mono fun e W' ⟨he,hs,hf⟩=>⟨_,he,?_⟩
 exact law_post hW' hs hf (tb:=t_bool) (by kernel_rfl) (by kernel_rfl) rfl readable (by kernel_rfl) codeVar
theorem resetAll_said:Rows.FnResetSaid:=
 OpenClaim.holds_of_wide f_laws_FnReset (fnAt f_laws_FnReset) rfl rfl rfl rfl rfl rfl rfl ⟨rfl,rfl,rfl,rfl,rfl⟩ rfl rfl rfl rfl rfl (by kernel_rfl) (by kernel_rfl) (by kernel_rfl)
  (of_decide_eq_true (by kernel_rfl)) (by unfold Func.isWrapper; rw [if_neg (of_decide_eq_false (by kernel_rfl))]; exact ⟨rfl,rfl⟩)
  (fun os started H enc _=>resetAll_lifted os started H enc)
end Go.Proofs.YtlgdbjpeklangaaGreatDoor

namespace Go.Proofs.YtlgdbjpeklangaaGreatDoor
open Go Go.M
set_option maxRecDepth 100000
theorem resetAll_card:Rows.FnResetCardSaid:=
 Claim7.holds_tied_plain_at .later [] [.handle,.sentinel,.sentinel,.sentinel,.data] true Rows.fnResetCard.stood.harness true
  resetAll_said (fun _ h=>by cases h) (by kernel_rfl) (fun _ h=>by cases h) fnReset_row_tie rfl ⟨rfl,rfl⟩ (by kernel_rfl) rfl
  (fun f fn hf hfn=>by
   obtain rfl:f=f_laws_FnReset:=Option.some.inj ((show Tryz.prog.funcNamed "loop.example/pub-inflation/laws.FnReset" =some f_laws_FnReset by kernel_rfl).symm.trans hf) |>.symm
   obtain rfl:fn=fnAt f_laws_FnReset:=(Option.some.inj ((show Tryz.prog.funcs[f_laws_FnReset]?=some (fnAt f_laws_FnReset) by kernel_rfl).symm.trans hfn)).symm
   exact ⟨by kernel_rfl,fun j t ht=>by
    rw [show (fnAt f_laws_FnReset).params=#[t_s_uint8,t_int,t_s_uint8] by kernel_rfl] at ht
    have h3:t=t_int∨t=t_s_uint8:=by
     have hm:t ∈ [t_s_uint8,t_int,t_s_uint8]:=List.mem_of_getElem? (by simpa using ht)
     simp only [List.mem_cons,List.not_mem_nil,or_false] at hm
     rcases hm with rfl | rfl | rfl <;> simp
    rcases h3 with rfl | rfl
    ·exact (show Tryz.prog.wantsStandIn t_int=false by kernel_rfl)
    ·exact (show Tryz.prog.wantsStandIn t_s_uint8=false by kernel_rfl)⟩)
  (by kernel_rfl)
end Go.Proofs.YtlgdbjpeklangaaGreatDoor
