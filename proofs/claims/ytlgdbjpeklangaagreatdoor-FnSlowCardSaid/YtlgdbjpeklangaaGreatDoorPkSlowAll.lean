/- FnSlow: a reader without ReadByte that gives a few bytes at a time gives the same: the tied card. For every slice of bytes. The package variables are as the program's text lays them. -/
import Derived.Test.YtlgdbjpeklangaaGreatDoorPke
import Derived.Test.YtlgdbjpeklangaaGreatDoorPkx
import Derived.Test.YtlgdbjpeklangaaGreatDoorPkr
import Derived.Test.YtlgdbjpeklangaaGreatDoorPkzf
import Derived.Test.YtlgdbjpeklangaaGreatDoorPkzg
import Derived.Test.YtlgdbjpeklangaaGreatDoorCards
import Derived.SevenTiedAt
set_option maxRecDepth 100000
namespace Go.M
open Go Go.Proofs
def L_laws_FnSlow:List Nat:=[0,1,4,5,6,7,8,11,14]
def r_laws_FnSlow:List ResultVar:=[.tmp 4]
noncomputable def c_laws_FnSlow:Code:=(Go.Proofs.Tryz.f4.body).getD .skip
theorem b_laws_FnSlow:Go.Proofs.Tryz.f4.body=some c_laws_FnSlow:=by kernel_rfl
theorem e_laws_FnSlow (a1:Option Addr) (l2:Nat) (k3:Nat) (x4:Int) (m:Mem) (R:Value→Mem→Prop)
  (h:ifB (decide ((l2:Int) > 2147483647)) (R (.bool true) m) (ifB (decide ((l2:Int) > 16777216)) (R (.bool true) m) (CallM PP f_spec_MixedOf #[.slice a1 l2 k3] m fun v11 m12=>∃ a5 l6,∃ k7 a8,∃ l9 k10,v11=.tuple #[.slice a5 l6 k7,.slice a8 l9 k10]∧CallM PP f_impl_Slow #[.slice a5 l6 k7,.int .i64 x4,.int .i64 131072] m12 fun v17 m18=>∃ a13 l14,∃ k15 x16,v17=.tuple #[.slice a13 l14 k15,.int .i64 x16]∧ifB (x16 == 1) (CallM PP f_laws_same #[.slice a13 l14 k15,.slice a8 l9 k10] m18 fun v20 m21=>∃ b19,v20=.bool b19∧R (.bool b19) m21) (R (.bool false) m18)))):
  CallM PP f_laws_FnSlow #[.slice a1 l2 k3,.int .i64 x4] m R:=
 callM_enter ffOk mixedOk 33 L_laws_FnSlow Tryz.func4 b_laws_FnSlow Tryz.ntmps4 (by simp) (Eq.mpr (by kernel_rfl) h)
end Go.M

namespace Go.Proofs.YtlgdbjpeklangaaGreatDoor
open Go Go.M Go.ChangeShapes Go.WideShapes Go.ChangeAt Go.RowKit
set_option maxRecDepth 100000
theorem slowAll_walk {E:Errs} {d:List Nat} {m:Mem} {a:Option Addr} {l k b o:Nat} (hS:SlcB m a l k b o d) {x:Int} (_: -9223372036854775808≤x∧x≤9223372036854775807) (hG:Glob E m) {R:Value→Mem→Prop} (hk:∀ m',(∀ S,Fr S m m')→R (.bool true) m'):
  CallM PP f_laws_FnSlow #[.slice a l k,.int .i64 x] m R:=by
 refine e_laws_FnSlow a l k x m R ?_
 by_cases h1:(l:Int) > 2147483647
 ·rw [decide_eq_true h1]; exact ifB_t (hk m fun S=>Fr.refl S m)
 rw [decide_eq_false h1]
 refine ifB_f ?_
 by_cases h2:(l:Int) > 16777216
 ·rw [decide_eq_true h2]; exact ifB_t (hk m fun S=>Fr.refl S m)
 rw [decide_eq_false h2]
 refine ifB_f ?_
 refine MixedOf_spec hS fun m1 a1 l1 k1 b1 o1 src ch a4 l4 k4 b4 o4 H hM f1=>⟨_,_,_,_,_,_,rfl,?_⟩
 have F1:∀ S,Fr S m m1:=fun S=>f1.mono fun _ _ h=>h.elim
 have hG1:=hG.fr (F1 fun _ _=>False) (by intro i j h; exact h.elim)
 have hlen:=hM.st.len
 have hcl:=hM.len
 have hsz:=hM.size
 have hl1:=hM.row.len
 have hl4:=hM.want.len
 have hr:=hM.blk.is.run (tail:=[]) hM.st.byte hM.st.num hM.st.len
 rw [List.append_nil] at hr
 refine Slow_short hM.row hG1 (by omega) x hr hM.size fun m2 a5 k5 b5 o5 hO5 f2=>⟨_,_,_,_,rfl,ifB_t ?_⟩
 exact same_true (hO5.slc hM.want.byte) (hM.want.sp (f2 fun _ _=>False) fun _ _=>id) (by omega) rfl ⟨_,rfl,hk m2 fun S=>(F1 S).trans (f2 S)⟩
theorem slowAll_lifted (os:Os) (started:os.Started) (H:Type) (enc:TypeId×Value→H):
  ReturnsInHanded {} Tryz.checked os f_laws_FnSlow .any (fun w args=>(Rows.fnSlowSpec.pre enc Tryz.prog (fnAt f_laws_FnSlow) [] false w args∧laidMetH Tryz.prog laidL w)∧sizedMet enc Tryz.prog (fnAt f_laws_FnSlow) (OpenSpec.ofChange Rows.fnSlowSpec) false w args)
   (Rows.fnSlowSpec.post enc Tryz.prog (fnAt f_laws_FnSlow) false true false false):=by
 refine returnsInHanded_of_change_and (C:=Tryz.checked) (X:=fun w _=>laidMetH Tryz.prog laidL w) (fun _ _ _ hh h=>h.of_heap hh) own started (by kernel_rfl) (by kernel_rfl)
  (ChangeSpec.witness_shaped (enc:=enc) (C:=Tryz.checked) (os:=os) (X:=fun w _=>laidMetH Tryz.prog laidL w) false (World.doorLaid Tryz.prog 400 os) #[.slice none 0 0,.int .i64 0] 8 rfl (shaped os _) (by kernel_rfl) (by kernel_rfl) (by kernel_rfl) (door_met os _)) ?_
 intro W base args ds gs before hval0 hW _ _ hL _
 have hp:(fnAt f_laws_FnSlow).params=#[t_s_uint8,t_int]:=by kernel_rfl
 have hval:∀ (j:Nat) t v,(fnAt f_laws_FnSlow).params[j]?=some t→args[j]?=some v→Value.okWide Tryz.prog W .any base t v:=hval0
 have hW':=hW
 obtain ⟨p,q,hA,hV,_,_,_⟩:=hW
 rw [hp] at hA hval
 obtain ⟨v0,v1,d0,d1,p0,p1,rfl,rfl,rfl,h0,h1⟩:=trodAll_two hA
 obtain ⟨a0,l0,k0,b0,o0,s0,rfl,hS0⟩:=bytes_arg (hval 0 _ v0 rfl rfl) h0
 obtain ⟨x1,rfl,hx1⟩:=int_arg (hval 1 _ v1 rfl rfl) h1
 obtain ⟨E,hG⟩:=glob_laid hL
 obtain ⟨g,rfl⟩:∃ g,gs=[g]:=by
  match gs,hV with
  | [g],_=>exact ⟨g,rfl⟩
  | _::_::_,⟨_,_,_,_,_,_,_,_,_,_,h,_⟩=>exact h.elim
 refine (calls_of (slowAll_walk hS0 hx1 hG fun m' hf=>⟨rfl,hf⟩)).mono fun e W' ⟨he,hs,hf⟩=>⟨_,he,?_⟩
 exact law_post hW' hs hf (tb:=t_bool) (by kernel_rfl) (by kernel_rfl) rfl readable (by kernel_rfl) codeVar
theorem slowAll_said:Rows.FnSlowSaid:=
 OpenClaim.holds_of_wide f_laws_FnSlow (fnAt f_laws_FnSlow) rfl rfl rfl rfl rfl rfl rfl ⟨rfl,rfl,rfl,rfl,rfl⟩ rfl rfl rfl rfl rfl (by kernel_rfl) (by kernel_rfl) (by kernel_rfl)
  (of_decide_eq_true (by kernel_rfl)) (by unfold Func.isWrapper; rw [if_neg (of_decide_eq_false (by kernel_rfl))]; exact ⟨rfl,rfl⟩)
  (fun os started H enc _=>slowAll_lifted os started H enc)
end Go.Proofs.YtlgdbjpeklangaaGreatDoor

namespace Go.Proofs.YtlgdbjpeklangaaGreatDoor
open Go Go.M
set_option maxRecDepth 100000
theorem slowAll_card:Rows.FnSlowCardSaid:=
 Claim7.holds_tied_plain_at .later [] [.handle,.sentinel,.sentinel,.sentinel,.data] true Rows.fnSlowCard.stood.harness true
  slowAll_said (fun _ h=>by cases h) (by kernel_rfl) (fun _ h=>by cases h) fnSlow_row_tie rfl ⟨rfl,rfl⟩ (by kernel_rfl) rfl
  (fun f fn hf hfn=>by
   obtain rfl:f=f_laws_FnSlow:=Option.some.inj ((show Tryz.prog.funcNamed "loop.example/pub-inflation/laws.FnSlow" =some f_laws_FnSlow by kernel_rfl).symm.trans hf) |>.symm
   obtain rfl:fn=fnAt f_laws_FnSlow:=(Option.some.inj ((show Tryz.prog.funcs[f_laws_FnSlow]?=some (fnAt f_laws_FnSlow) by kernel_rfl).symm.trans hfn)).symm
   exact ⟨by kernel_rfl,fun j t ht=>by
    rw [show (fnAt f_laws_FnSlow).params=#[t_s_uint8,t_int] by kernel_rfl] at ht
    have h3:t=t_int∨t=t_s_uint8:=by
     have hm:t ∈ [t_s_uint8,t_int]:=List.mem_of_getElem? (by simpa using ht)
     simp only [List.mem_cons,List.not_mem_nil,or_false] at hm
     rcases hm with rfl | rfl <;> simp
    rcases h3 with rfl | rfl
    ·exact (show Tryz.prog.wantsStandIn t_int=false by kernel_rfl)
    ·exact (show Tryz.prog.wantsStandIn t_s_uint8=false by kernel_rfl)⟩)
  (by kernel_rfl)
end Go.Proofs.YtlgdbjpeklangaaGreatDoor
