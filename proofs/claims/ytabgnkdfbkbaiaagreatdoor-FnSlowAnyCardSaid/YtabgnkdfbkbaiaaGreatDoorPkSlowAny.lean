/- FnSlowAny: a slow reader gives the same of a stream that is not whole, with the same error: the tied card. For every slice of bytes. The package variables are as the program's text lays them. -/
import Derived.Test.YtabgnkdfbkbaiaaGreatDoorPke
import Derived.Test.YtabgnkdfbkbaiaaGreatDoorPkx
import Derived.Test.YtabgnkdfbkbaiaaGreatDoorPkr
import Derived.Test.YtabgnkdfbkbaiaaGreatDoorPkzg
import Derived.Test.YtabgnkdfbkbaiaaGreatDoorPkw
import Derived.Test.YtabgnkdfbkbaiaaGreatDoorCards
import Derived.SevenTiedAt
set_option maxRecDepth 100000
namespace Go.M
open Go Go.Proofs
def L_laws_FnSlowAny:List Nat:=[0,1,4,5,6,7,8,9,12,15,23]
def r_laws_FnSlowAny:List ResultVar:=[.tmp 4]
noncomputable def c_laws_FnSlowAny:Code:=(Go.Proofs.Tryz.f3.body).getD .skip
theorem b_laws_FnSlowAny:Go.Proofs.Tryz.f3.body=some c_laws_FnSlowAny:=by kernel_rfl
theorem e_laws_FnSlowAny (a1:Option Addr) (l2:Nat) (k3:Nat) (x4:Int) (m:Mem) (R:Value→Mem→Prop)
  (h:ifB (decide ((l2:Int) > 2147483647)) (R (.bool true) m) (ifB (decide ((l2:Int) > 16777216)) (R (.bool true) m) (CallM PP f_spec_State #[.slice a1 l2 k3] m fun v6 m7=>∃ x5,v6=.int .i64 x5∧ifB (x5 == 4) (R (.bool true) m7) (ifB (x5 == 0) (R (.bool true) m7) (CallM PP f_impl_Slow #[.slice a1 l2 k3,.int .i64 x4,.int .i64 131072] m7 fun v12 m13=>∃ a8 l9,∃ k10 x11,v12=.tuple #[.slice a8 l9 k10,.int .i64 x11]∧CallM PP f_impl_All #[.slice a1 l2 k3,.int .i64 131072] m13 fun v18 m19=>∃ a14 l15,∃ k16 x17,v18=.tuple #[.slice a14 l15 k16,.int .i64 x17]∧ifB (x11 != 0) (ifB (x11 == x17) (CallM PP f_laws_same #[.slice a8 l9 k10,.slice a14 l15 k16] m19 fun v21 m22=>∃ b20,v21=.bool b20∧R (.bool b20) m22) (R (.bool false) m19)) (R (.bool false) m19)))))):
  CallM PP f_laws_FnSlowAny #[.slice a1 l2 k3,.int .i64 x4] m R:=
 callM_enter ffOk mixedOk 47 L_laws_FnSlowAny Tryz.func3 b_laws_FnSlowAny Tryz.ntmps3 (by simp) (Eq.mpr (by kernel_rfl) h)
end Go.M

namespace Go.Proofs.YtabgnkdfbkbaiaaGreatDoor
open Go Go.M Go.ChangeShapes Go.WideShapes Go.ChangeAt Go.RowKit
set_option maxRecDepth 100000
theorem slowAny_walk {E:Errs} {src:List Nat} {m:Mem} {a:Option Addr} {l k b o:Nat} (hS:SlcB m a l k b o src) {x:Int} (_: -9223372036854775808≤x∧x≤9223372036854775807) (hG:Glob E m) {R:Value→Mem→Prop} (hk:∀ m',(∀ S,Fr S m m')→R (.bool true) m'):
  CallM PP f_laws_FnSlowAny #[.slice a l k,.int .i64 x] m R:=by
 refine e_laws_FnSlowAny a l k x m R ?_
 by_cases h1:(l:Int) > 2147483647
 ·rw [decide_eq_true h1]; exact ifB_t (hk m fun S=>Fr.refl S m)
 rw [decide_eq_false h1]
 refine ifB_f ?_
 by_cases h2:(l:Int) > 16777216
 ·rw [decide_eq_true h2]; exact ifB_t (hk m fun S=>Fr.refl S m)
 rw [decide_eq_false h2]
 refine ifB_f ?_
 refine State_spec hS (by omega) fun m1 z u out hok f1=>⟨_,rfl,?_⟩
 by_cases hz4:z=4
 ·subst hz4; exact ifB_t (hk m1 f1)
 have e4:(z == 4)=false:=by rw [beq_eq_false_iff_ne]; exact hz4
 rw [e4]
 refine ifB_f ?_
 by_cases hz0:z=0
 ·subst hz0; exact ifB_t (hk m1 f1)
 have e0:(z == 0)=false:=by rw [beq_eq_false_iff_ne]; exact hz0
 rw [e0]
 refine ifB_f ?_
 have hz:z=1∨z=2∨z=3:=by have:=hok.2.1; have:=hok.le; omega
 obtain ⟨q,e,pf,hr,hq,hb,_⟩:=hok.run hz
 have F1:=f1 fun _ _=>False
 have hS1:=hS.sp F1 fun _ _=>id
 have hG1:=hG.fr F1 fun _ _ h=>h.elim
 have hr0:Runs (scOf src) ⟨0,[],.block⟩ q e pf:=hr
 refine Slow_short hS1 hG1 (by omega) x hr0 hq fun m2 a2 k2 b2 o2 hO2 f2=>⟨_,_,_,_,rfl,?_⟩
 have F2:=f2 fun _ _=>False
 refine All_short (hS1.sp F2 fun _ _=>id) (hG1.fr F2 fun _ _ h=>h.elim) (by omega) hr0 hq fun m3 a3 k3 b3 o3 hO3 _ f3=>⟨_,_,_,_,rfl,?_⟩
 have c0:(codeOf e != 0)=true:=by cases e <;> decide
 rw [c0,beq_self_eq_true]
 have hO23:=hO2.fr (f3 fun _ _=>False) fun _ _=>id
 exact ifB_t (ifB_t (same_true (hO23.slc hb) (hO3.slc hb) (by omega) rfl ⟨_,rfl,hk m3 fun S=>(f1 S).trans ((f2 S).trans (f3 S))⟩))
theorem slowAny_lifted (os:Os) (started:os.Started) (H:Type) (enc:TypeId×Value→H):
  ReturnsInHanded {} Tryz.checked os f_laws_FnSlowAny .any (fun w args=>(Rows.fnSlowAnySpec.pre enc Tryz.prog (fnAt f_laws_FnSlowAny) [] false w args∧laidMetH Tryz.prog laidL w)∧sizedMet enc Tryz.prog (fnAt f_laws_FnSlowAny) (OpenSpec.ofChange Rows.fnSlowAnySpec) false w args)
   (Rows.fnSlowAnySpec.post enc Tryz.prog (fnAt f_laws_FnSlowAny) false true false false):=by
 refine returnsInHanded_of_change_and (C:=Tryz.checked) (X:=fun w _=>laidMetH Tryz.prog laidL w) (fun _ _ _ hh h=>h.of_heap hh) own started (by kernel_rfl) (by kernel_rfl)
  (ChangeSpec.witness_shaped (enc:=enc) (C:=Tryz.checked) (os:=os) (X:=fun w _=>laidMetH Tryz.prog laidL w) false (World.doorLaid Tryz.prog 400 os) #[.slice none 0 0,.int .i64 0] 8 rfl (shaped os _) (by kernel_rfl) (by kernel_rfl) (by kernel_rfl) (door_met os _)) ?_
 intro W base args ds gs before hval0 hW _ _ hL _
 have hp:(fnAt f_laws_FnSlowAny).params=#[t_s_uint8,t_int]:=by kernel_rfl
 have hval:∀ (j:Nat) t v,(fnAt f_laws_FnSlowAny).params[j]?=some t→args[j]?=some v→Value.okWide Tryz.prog W .any base t v:=hval0
 have hW':=hW
 obtain ⟨p,q,hA,hV,_,_,_⟩:=hW
 rw [hp] at hA hval
 obtain ⟨v0,v1,d0,d1,p0,p1,rfl,rfl,rfl,h0,h1⟩:=trodAll_two hA
 obtain ⟨a0,l0,k0,b0,o0,s0,rfl,hS0⟩:=bytes_arg (hval 0 _ v0 rfl rfl) h0
 obtain ⟨x1,rfl,hx1⟩:=int_arg (hval 1 _ v1 rfl rfl) h1
 obtain ⟨E,hG⟩:=glob_laid hL
 obtain ⟨g,rfl⟩:∃ g,gs=[g]:=by
  match gs,hV with
  | [g],_=>exact ⟨g,rfl⟩
  | _::_::_,⟨_,_,_,_,_,_,_,_,_,_,h,_⟩=>exact h.elim
 refine (calls_of (slowAny_walk hS0 hx1 hG fun m' hf=>⟨rfl,hf⟩)).mono fun e W' ⟨he,hs,hf⟩=>⟨_,he,?_⟩
 exact law_post hW' hs hf (tb:=t_bool) (by kernel_rfl) (by kernel_rfl) rfl readable (by kernel_rfl) codeVar
theorem slowAny_said:Rows.FnSlowAnySaid:=
 OpenClaim.holds_of_wide f_laws_FnSlowAny (fnAt f_laws_FnSlowAny) rfl rfl rfl rfl rfl rfl rfl ⟨rfl,rfl,rfl,rfl,rfl⟩ rfl rfl rfl rfl rfl (by kernel_rfl) (by kernel_rfl) (by kernel_rfl)
  (of_decide_eq_true (by kernel_rfl)) (by unfold Func.isWrapper; rw [if_neg (of_decide_eq_false (by kernel_rfl))]; exact ⟨rfl,rfl⟩)
  (fun os started H enc _=>slowAny_lifted os started H enc)
end Go.Proofs.YtabgnkdfbkbaiaaGreatDoor

namespace Go.Proofs.YtabgnkdfbkbaiaaGreatDoor
open Go Go.M
set_option maxRecDepth 100000
theorem slowAny_card:Rows.FnSlowAnyCardSaid:=
 Claim7.holds_tied_plain_at .later [] [.handle,.sentinel,.sentinel,.sentinel,.data] true Rows.fnSlowAnyCard.stood.harness true
  slowAny_said (fun _ h=>by cases h) (by kernel_rfl) (fun _ h=>by cases h) fnSlowAny_row_tie rfl ⟨rfl,rfl⟩ (by kernel_rfl) rfl
  (fun f fn hf hfn=>by
   obtain rfl:f=f_laws_FnSlowAny:=Option.some.inj ((show Tryz.prog.funcNamed "loop.example/pub-inflation/laws.FnSlowAny" =some f_laws_FnSlowAny by kernel_rfl).symm.trans hf) |>.symm
   obtain rfl:fn=fnAt f_laws_FnSlowAny:=(Option.some.inj ((show Tryz.prog.funcs[f_laws_FnSlowAny]?=some (fnAt f_laws_FnSlowAny) by kernel_rfl).symm.trans hfn)).symm
   exact ⟨by kernel_rfl,fun j t ht=>by
    rw [show (fnAt f_laws_FnSlowAny).params=#[t_s_uint8,t_int] by kernel_rfl] at ht
    have h3:t=t_int∨t=t_s_uint8:=by
     have hm:t ∈ [t_s_uint8,t_int]:=List.mem_of_getElem? (by simpa using ht)
     simp only [List.mem_cons,List.not_mem_nil,or_false] at hm
     rcases hm with rfl | rfl <;> simp
    rcases h3 with rfl | rfl
    ·exact (show Tryz.prog.wantsStandIn t_int=false by kernel_rfl)
    ·exact (show Tryz.prog.wantsStandIn t_s_uint8=false by kernel_rfl)⟩)
  (by kernel_rfl)
end Go.Proofs.YtabgnkdfbkbaiaaGreatDoor
