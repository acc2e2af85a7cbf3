/- FnResetAny: a reader that is reset is as a new one, also with a stream that is not whole: the tied card. For every two slices of bytes and every number. The package variables are as the program's text lays them. -/
import Derived.Test.YteolgmacekgndaaGreatDoorPke
import Derived.Test.YteolgmacekgndaaGreatDoorPkx
import Derived.Test.YteolgmacekgndaaGreatDoorPkr
import Derived.Test.YteolgmacekgndaaGreatDoorPkzh
import Derived.Test.YteolgmacekgndaaGreatDoorPkw
import Derived.Test.YteolgmacekgndaaGreatDoorCards
import Derived.SevenTiedAt
set_option maxRecDepth 100000
namespace Go.M
open Go Go.Proofs
def L_laws_FnResetAny:List Nat:=[0,1,2,6,7,8,9,10,11,19,27,35]
def r_laws_FnResetAny:List ResultVar:=[.tmp 6]
noncomputable def c_laws_FnResetAny:Code:=(Go.Proofs.Tryz.f3.body).getD .skip
theorem b_laws_FnResetAny:Go.Proofs.Tryz.f3.body=some c_laws_FnResetAny:=by kernel_rfl
theorem e_laws_FnResetAny (a1:Option Addr) (l2:Nat) (k3:Nat) (x4:Int) (a5:Option Addr) (l6:Nat) (k7:Nat) (m:Mem) (R:Value→Mem→Prop)
  (h:ifB (decide ((l2:Int) > 2147483647)) (R (.bool true) m) (ifB (decide ((l6:Int) > 2147483647)) (R (.bool true) m) (ifB (decide ((l2:Int) > 16777216)) (R (.bool true) m) (ifB (decide ((l6:Int) > 16777216)) (R (.bool true) m) (CallM PP f_spec_State #[.slice a5 l6 k7] m fun v9 m10=>∃ x8,v9=.int .i64 x8∧ifB (x8 == 4) (R (.bool true) m10) (ifB (x8 == 0) (R (.bool true) m10) (CallM PP f_impl_Again #[.slice a1 l2 k3,.int .i64 x4,.slice a5 l6 k7,.slice none 0 0,.int .i64 131072] m10 fun v15 m16=>∃ a11 l12,∃ k13 x14,v15=.tuple #[.slice a11 l12 k13,.int .i64 x14]∧CallM PP f_impl_All #[.slice a5 l6 k7,.int .i64 131072] m16 fun v21 m22=>∃ a17 l18,∃ k19 x20,v21=.tuple #[.slice a17 l18 k19,.int .i64 x20]∧ifB (x14 != 0) (ifB (x14 == x20) (CallM PP f_laws_same #[.slice a11 l12 k13,.slice a17 l18 k19] m22 fun v24 m25=>∃ b23,v24=.bool b23∧R (.bool b23) m25) (R (.bool false) m22)) (R (.bool false) m22)))))))):
  CallM PP f_laws_FnResetAny #[.slice a1 l2 k3,.int .i64 x4,.slice a5 l6 k7] m R:=
 callM_enter ffOk mixedOk 60 L_laws_FnResetAny Tryz.func3 b_laws_FnResetAny Tryz.ntmps3 (by simp) (Eq.mpr (by kernel_rfl) h)
end Go.M

namespace Go.Proofs.YteolgmacekgndaaGreatDoor
open Go Go.M Go.ChangeShapes Go.WideShapes Go.ChangeAt Go.RowKit
set_option maxRecDepth 100000
theorem resetAny_walk {E:Errs} {first:List Nat} {m:Mem} {a:Option Addr} {l k b o:Nat} (hS:SlcB m a l k b o first) {x:Int} (_: -9223372036854775808≤x∧x≤9223372036854775807) {src:List Nat} {a2:Option Addr} {l2 k2 b2 o2:Nat} (hS2:SlcB m a2 l2 k2 b2 o2 src) (hG:Glob E m) {R:Value→Mem→Prop} (hk:∀ m',(∀ S,Fr S m m')→R (.bool true) m'):
  CallM PP f_laws_FnResetAny #[.slice a l k,.int .i64 x,.slice a2 l2 k2] m R:=by
 refine e_laws_FnResetAny a l k x a2 l2 k2 m R ?_
 by_cases h1:(l:Int) > 2147483647
 ·rw [decide_eq_true h1]; exact ifB_t (hk m fun S=>Fr.refl S m)
 rw [decide_eq_false h1]
 refine ifB_f ?_
 by_cases h2:(l2:Int) > 2147483647
 ·rw [decide_eq_true h2]; exact ifB_t (hk m fun S=>Fr.refl S m)
 rw [decide_eq_false h2]
 refine ifB_f ?_
 by_cases h3:(l:Int) > 16777216
 ·rw [decide_eq_true h3]; exact ifB_t (hk m fun S=>Fr.refl S m)
 rw [decide_eq_false h3]
 refine ifB_f ?_
 by_cases h4:(l2:Int) > 16777216
 ·rw [decide_eq_true h4]; exact ifB_t (hk m fun S=>Fr.refl S m)
 rw [decide_eq_false h4]
 refine ifB_f ?_
 refine State_spec hS2 (by omega) fun m1 z u out hok f1=>⟨_,rfl,?_⟩
 by_cases hz4:z=4
 ·subst hz4; exact ifB_t (hk m1 f1)
 have e4:(z == 4)=false:=by rw [beq_eq_false_iff_ne]; exact hz4
 rw [e4]
 refine ifB_f ?_
 by_cases hz0:z=0
 ·subst hz0; exact ifB_t (hk m1 f1)
 have e0:(z == 0)=false:=by rw [beq_eq_false_iff_ne]; exact hz0
 rw [e0]
 refine ifB_f ?_
 have hz:z=1∨z=2∨z=3:=by have:=hok.2.1; have:=hok.le; omega
 obtain ⟨q,e,pf,hr,hq,hb,_⟩:=hok.run hz
 have F1:=f1 fun _ _=>False
 have hS1:=hS2.sp F1 fun _ _=>id
 have hG1:=hG.fr F1 fun _ _ h=>h.elim
 have hr0:Runs (scOf src) ⟨0,[],.block⟩ q e pf:=hr
 have h0:SlcB m1 none 0 0 0 0 []:=⟨rfl,Nat.le_refl _,fun h0=>absurd h0 (by decide),fun i hi=>absurd hi (Nat.not_lt_zero i),by simp⟩
 refine Again_short (d:=[]) (hS.sp F1 fun _ _=>id) hS1 h0 hG1 (by omega) (by omega) (by decide) x hr0 hq fun m2 a3 k3 b3 o3 hO2 f2=>⟨_,_,_,_,rfl,?_⟩
 have F2:=f2 fun _ _=>False
 refine All_short (hS1.sp F2 fun _ _=>id) (hG1.fr F2 fun _ _ h=>h.elim) (by omega) hr0 hq fun m3 a4 k4 b4 o4 hO3 _ f3=>⟨_,_,_,_,rfl,?_⟩
 have c0:(codeOf e != 0)=true:=by cases e <;> decide
 rw [c0,beq_self_eq_true]
 have hO23:=hO2.fr (f3 fun _ _=>False) fun _ _=>id
 exact ifB_t (ifB_t (same_true (hO23.slc hb) (hO3.slc hb) (by omega) rfl ⟨_,rfl,hk m3 fun S=>(f1 S).trans ((f2 S).trans (f3 S))⟩))
theorem resetAny_lifted (os:Os) (started:os.Started) (H:Type) (enc:TypeId×Value→H):
  ReturnsInHanded {} Tryz.checked os f_laws_FnResetAny .any (fun w args=>(Rows.fnResetAnySpec.pre enc Tryz.prog (fnAt f_laws_FnResetAny) [] false w args∧laidMetH Tryz.prog laidL w)∧sizedMet enc Tryz.prog (fnAt f_laws_FnResetAny) (OpenSpec.ofChange Rows.fnResetAnySpec) false w args)
   (Rows.fnResetAnySpec.post enc Tryz.prog (fnAt f_laws_FnResetAny) false true false false):=by
 refine returnsInHanded_of_change_and (C:=Tryz.checked) (X:=fun w _=>laidMetH Tryz.prog laidL w) (fun _ _ _ hh h=>h.of_heap hh) own started (by kernel_rfl) (by kernel_rfl)
  (ChangeSpec.witness_shaped (enc:=enc) (C:=Tryz.checked) (os:=os) (X:=fun w _=>laidMetH Tryz.prog laidL w) false (World.doorLaid Tryz.prog 400 os) #[.slice none 0 0,.int .i64 0,.slice none 0 0] 8 rfl (shaped os _) (by kernel_rfl) (by kernel_rfl) (by kernel_rfl) (door_met os _)) ?_
 intro W base args ds gs before hval0 hW _ _ hL _
 have hp:(fnAt f_laws_FnResetAny).params=#[t_s_uint8,t_int,t_s_uint8]:=by kernel_rfl
 have hval:∀ (j:Nat) t v,(fnAt f_laws_FnResetAny).params[j]?=some t→args[j]?=some v→Value.okWide Tryz.prog W .any base t v:=hval0
 have hW':=hW
 obtain ⟨p,q,hA,hV,_,_,_⟩:=hW
 rw [hp] at hA hval
 obtain ⟨v0,v1,v2,d0,d1,d2,p0,p1,p2,rfl,rfl,rfl,h0,h1,h2⟩:=trodAll_three hA
 obtain ⟨a0,l0,k0,b0,o0,s0,rfl,hS0⟩:=bytes_arg (hval 0 _ v0 rfl rfl) h0
 obtain ⟨x1,rfl,hx1⟩:=int_arg (hval 1 _ v1 rfl rfl) h1
 obtain ⟨a2,l2,k2,b2,o2,s2,rfl,hS2⟩:=bytes_arg (hval 2 _ v2 rfl rfl) h2
 obtain ⟨E,hG⟩:=glob_laid hL
 obtain ⟨g,rfl⟩:∃ g,gs=[g]:=by
  match gs,hV with
  | [g],_=>exact ⟨g,rfl⟩
  | _::_::_,⟨_,_,_,_,_,_,_,_,_,_,h,_⟩=>exact h.elim
 refine (calls_of (resetAny_walk hS0 hx1 hS2 hG fun m' hf=>⟨rfl,hf⟩)).mono fun e W' ⟨he,hs,hf⟩=>⟨_,he,?_⟩
 exact law_post hW' hs hf (tb:=t_bool) (by kernel_rfl) (by kernel_rfl) rfl readable (by kernel_rfl) codeVar
theorem resetAny_said:Rows.FnResetAnySaid:=
 OpenClaim.holds_of_wide f_laws_FnResetAny (fnAt f_laws_FnResetAny) rfl rfl rfl rfl rfl rfl rfl ⟨rfl,rfl,rfl,rfl,rfl⟩ rfl rfl rfl rfl rfl (by kernel_rfl) (by kernel_rfl) (by kernel_rfl)
  (of_decide_eq_true (by kernel_rfl)) (by unfold Func.isWrapper; rw [if_neg (of_decide_eq_false (by kernel_rfl))]; exact ⟨rfl,rfl⟩)
  (fun os started H enc _=>resetAny_lifted os started H enc)
end Go.Proofs.YteolgmacekgndaaGreatDoor

namespace Go.Proofs.YteolgmacekgndaaGreatDoor
open Go Go.M
set_option maxRecDepth 100000
theorem resetAny_card:Rows.FnResetAnyCardSaid:=
 Claim7.holds_tied_plain_at .later [] [.handle,.sentinel,.sentinel,.sentinel,.data] true Rows.fnResetAnyCard.stood.harness true
  resetAny_said (fun _ h=>by cases h) (by kernel_rfl) (fun _ h=>by cases h) fnResetAny_row_tie rfl ⟨rfl,rfl⟩ (by kernel_rfl) rfl
  (fun f fn hf hfn=>by
   obtain rfl:f=f_laws_FnResetAny:=Option.some.inj ((show Tryz.prog.funcNamed "loop.example/pub-inflation/laws.FnResetAny" =some f_laws_FnResetAny by kernel_rfl).symm.trans hf) |>.symm
   obtain rfl:fn=fnAt f_laws_FnResetAny:=(Option.some.inj ((show Tryz.prog.funcs[f_laws_FnResetAny]?=some (fnAt f_laws_FnResetAny) by kernel_rfl).symm.trans hfn)).symm
   exact ⟨by kernel_rfl,fun j t ht=>by
    rw [show (fnAt f_laws_FnResetAny).params=#[t_s_uint8,t_int,t_s_uint8] by kernel_rfl] at ht
    have h3:t=t_int∨t=t_s_uint8:=by
     have hm:t ∈ [t_s_uint8,t_int,t_s_uint8]:=List.mem_of_getElem? (by simpa using ht)
     simp only [List.mem_cons,List.not_mem_nil,or_false] at hm
     rcases hm with rfl | rfl | rfl <;> simp
    rcases h3 with rfl | rfl
    ·exact (show Tryz.prog.wantsStandIn t_int=false by kernel_rfl)
    ·exact (show Tryz.prog.wantsStandIn t_s_uint8=false by kernel_rfl)⟩)
  (by kernel_rfl)
end Go.Proofs.YteolgmacekgndaaGreatDoor
