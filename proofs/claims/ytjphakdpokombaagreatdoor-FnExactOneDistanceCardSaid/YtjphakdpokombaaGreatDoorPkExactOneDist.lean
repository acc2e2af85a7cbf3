/- FnExactOneDistance: one distance code of one bit is enough: the tied card. For every slice of bytes. The package variables are as the program's text lays them. -/
import Derived.Test.YtjphakdpokombaaGreatDoorPke
import Derived.Test.YtjphakdpokombaaGreatDoorPkx
import Derived.Test.YtjphakdpokombaaGreatDoorPkr
import Derived.Test.YtjphakdpokombaaGreatDoorPkzi
import Derived.Test.YtjphakdpokombaaGreatDoorPkzf
import Derived.Test.YtjphakdpokombaaGreatDoorCards
import Derived.SevenTiedAt
set_option maxRecDepth 100000
namespace Go.M
open Go Go.Proofs
def L_laws_FnExactOneDistance:List Nat:=[0,2,3,4,5,6,8,9,12,15]
def r_laws_FnExactOneDistance:List ResultVar:=[.tmp 2]
noncomputable def c_laws_FnExactOneDistance:Code:=(Go.Proofs.Tryz.f4.body).getD .skip
theorem b_laws_FnExactOneDistance:Go.Proofs.Tryz.f4.body=some c_laws_FnExactOneDistance:=by kernel_rfl
theorem e_laws_FnExactOneDistance (a1:Option Addr) (l2:Nat) (k3:Nat) (m:Mem) (R:Value→Mem→Prop)
  (h:ifB (decide ((l2:Int) > 2147483647)) (R (.bool true) m) (ifB (decide ((l2:Int) > 16777216)) (R (.bool true) m) (CallM PP f_spec_OneDistance #[.slice a1 l2 k3] m fun v10 m11=>∃ a4 l5,∃ k6 a7,∃ l8 k9,v10=.tuple #[.slice a4 l5 k6,.slice a7 l8 k9]∧CallM PP f_spec_Inflate #[.slice a4 l5 k6,.slice none 0 0] m11 fun v17 m18=>∃ a12 l13,∃ k14 x15 x16,v17=.tuple #[.slice a12 l13 k14,.int .i64 x15,.int .i64 x16]∧CallM PP f_impl_All #[.slice a4 l5 k6,.int .i64 131072] m18 fun v23 m24=>∃ a19 l20,∃ k21 x22,v23=.tuple #[.slice a19 l20 k21,.int .i64 x22]∧ifB (x15 == 1) (CallM PP f_laws_same #[.slice a12 l13 k14,.slice a7 l8 k9] m24 fun v26 m27=>∃ b25,v26=.bool b25∧ifB b25 (ifB (x22 == 1) (CallM PP f_laws_same #[.slice a19 l20 k21,.slice a7 l8 k9] m27 fun v29 m30=>∃ b28,v29=.bool b28∧R (.bool b28) m30) (R (.bool false) m27)) (R (.bool false) m27)) (R (.bool false) m24)))):
  CallM PP f_laws_FnExactOneDistance #[.slice a1 l2 k3] m R:=
 callM_enter ffOk mixedOk 48 L_laws_FnExactOneDistance Tryz.func4 b_laws_FnExactOneDistance Tryz.ntmps4 (by simp) (Eq.mpr (by kernel_rfl) h)
end Go.M

namespace Go.Proofs.YtjphakdpokombaaGreatDoor
open Go Go.M Go.ChangeShapes Go.WideShapes Go.ChangeAt Go.RowKit
set_option maxRecDepth 100000
theorem exactOneDist_walk {E:Errs} {d:List Nat} {m:Mem} {a:Option Addr} {l k b o:Nat} (hS:SlcB m a l k b o d) (hG:Glob E m) {R:Value→Mem→Prop} (hk:∀ m',(∀ S,Fr S m m')→R (.bool true) m'):
  CallM PP f_laws_FnExactOneDistance #[.slice a l k] m R:=by
 refine e_laws_FnExactOneDistance a l k m R ?_
 by_cases h1:(l:Int) > 2147483647
 ·rw [decide_eq_true h1]; exact ifB_t (hk m fun S=>Fr.refl S m)
 rw [decide_eq_false h1]
 refine ifB_f ?_
 by_cases h2:(l:Int) > 16777216
 ·rw [decide_eq_true h2]; exact ifB_t (hk m fun S=>Fr.refl S m)
 rw [decide_eq_false h2]
 refine ifB_f ?_
 refine OneDistance_spec hS fun m1 a1 l1 k1 b1 o1 src ch a4 l4 k4 b4 o4 H hM hN f1=>⟨_,_,_,_,_,_,rfl,?_⟩
 have q1:=hM.st.len
 have q2:=hM.len
 have q3:=hM.row.len
 have q4:=hM.want.len
 have h0:SlcB m1 none 0 0 0 0 []:=⟨rfl,Nat.le_refl _,fun h0=>absurd h0 (by decide),fun i hi=>absurd hi (Nat.not_lt_zero i),by simp⟩
 refine Inflate_spec (d:=[]) hM.row h0 (by omega) (by decide) fun m2 a5 l5 k5 b5 o5 z u out hO5 hok f2=>⟨_,_,_,_,_,rfl,?_⟩
 obtain ⟨rfl,rfl⟩:=hok.whole hM hN
 have q5:=hO5.len
 have q6:=hM.small
 have F2:∀ S,Fr S m m2:=fun S=>(f1 S).trans (f2 S)
 have hM2:=hM.fr f2
 refine All_short hM2.row (hG.fr (F2 fun _ _=>False) (by intro i j h; exact h.elim)) (by omega) hM.run hM.size fun m3 a6 k6 b6 o6 hO6 _ f3=>⟨_,_,_,_,rfl,ifB_t ?_⟩
 have hM3:=hM2.fr f3
 have hO53:=(hO5.slc hM.want.byte).sp (f3 fun _ _=>False) fun _ _=>id
 refine same_true hO53 hM3.want (by omega) rfl ⟨_,rfl,ifB_t (ifB_t ?_)⟩
 exact same_true (hO6.slc hM.want.byte) hM3.want (by omega) rfl ⟨_,rfl,hk m3 fun S=>(F2 S).trans (f3 S)⟩
theorem exactOneDist_lifted (os:Os) (started:os.Started) (H:Type) (enc:TypeId×Value→H):
  ReturnsInHanded {} Tryz.checked os f_laws_FnExactOneDistance .any (fun w args=>(Rows.fnExactOneDistanceSpec.pre enc Tryz.prog (fnAt f_laws_FnExactOneDistance) [] false w args∧laidMetH Tryz.prog laidL w)∧sizedMet enc Tryz.prog (fnAt f_laws_FnExactOneDistance) (OpenSpec.ofChange Rows.fnExactOneDistanceSpec) false w args)
   (Rows.fnExactOneDistanceSpec.post enc Tryz.prog (fnAt f_laws_FnExactOneDistance) false true false false):=by
 refine returnsInHanded_of_change_and (C:=Tryz.checked) (X:=fun w _=>laidMetH Tryz.prog laidL w) (fun _ _ _ hh h=>h.of_heap hh) own started (by kernel_rfl) (by kernel_rfl)
  (ChangeSpec.witness_shaped (enc:=enc) (C:=Tryz.checked) (os:=os) (X:=fun w _=>laidMetH Tryz.prog laidL w) false (World.doorLaid Tryz.prog 400 os) #[.slice none 0 0] 8 rfl (shaped os _) (by kernel_rfl) (by kernel_rfl) (by kernel_rfl) (door_met os _)) ?_
 intro W base args ds gs before hval0 hW _ _ hL _
 have hp:(fnAt f_laws_FnExactOneDistance).params=#[t_s_uint8]:=by kernel_rfl
 have hval:∀ (j:Nat) t v,(fnAt f_laws_FnExactOneDistance).params[j]?=some t→args[j]?=some v→Value.okWide Tryz.prog W .any base t v:=hval0
 have hW':=hW
 obtain ⟨p,q,hA,hV,_,_,_⟩:=hW
 rw [hp] at hA hval
 obtain ⟨v0,d0,rfl,rfl,h0⟩:=trodAll_one hA
 obtain ⟨a0,l0,k0,b0,o0,s0,rfl,hS0⟩:=bytes_arg (hval 0 _ v0 rfl rfl) h0
 obtain ⟨E,hG⟩:=glob_laid hL
 obtain ⟨g,rfl⟩:∃ g,gs=[g]:=by
  match gs,hV with
  | [g],_=>exact ⟨g,rfl⟩
  | _::_::_,⟨_,_,_,_,_,_,_,_,_,_,h,_⟩=>exact h.elim
 refine (calls_of (exactOneDist_walk hS0 hG fun m' hf=>⟨rfl,hf⟩)).mono fun e W' ⟨he,hs,hf⟩=>⟨_,he,?_⟩
 exact law_post hW' hs hf (tb:=t_bool) (by kernel_rfl) (by kernel_rfl) rfl readable (by kernel_rfl) codeVar
theorem exactOneDist_said:Rows.FnExactOneDistanceSaid:=
 OpenClaim.holds_of_wide f_laws_FnExactOneDistance (fnAt f_laws_FnExactOneDistance) rfl rfl rfl rfl rfl rfl rfl ⟨rfl,rfl,rfl,rfl,rfl⟩ rfl rfl rfl rfl rfl (by kernel_rfl) (by kernel_rfl) (by kernel_rfl)
  (of_decide_eq_true (by kernel_rfl)) (by unfold Func.isWrapper; rw [if_neg (of_decide_eq_false (by kernel_rfl))]; exact ⟨rfl,rfl⟩)
  (fun os started H enc _=>exactOneDist_lifted os started H enc)
end Go.Proofs.YtjphakdpokombaaGreatDoor

namespace Go.Proofs.YtjphakdpokombaaGreatDoor
open Go Go.M
set_option maxRecDepth 100000
theorem exactOneDist_card:Rows.FnExactOneDistanceCardSaid:=
 Claim7.holds_tied_plain_at .later [] [.handle,.sentinel,.sentinel,.sentinel,.data] true Rows.fnExactOneDistanceCard.stood.harness true
  exactOneDist_said (fun _ h=>by cases h) (by kernel_rfl) (fun _ h=>by cases h) fnExactOneDistance_row_tie rfl ⟨rfl,rfl⟩ (by kernel_rfl) rfl
  (fun f fn hf hfn=>by
   obtain rfl:f=f_laws_FnExactOneDistance:=Option.some.inj ((show Tryz.prog.funcNamed "loop.example/pub-inflation/laws.FnExactOneDistance" =some f_laws_FnExactOneDistance by kernel_rfl).symm.trans hf) |>.symm
   obtain rfl:fn=fnAt f_laws_FnExactOneDistance:=(Option.some.inj ((show Tryz.prog.funcs[f_laws_FnExactOneDistance]?=some (fnAt f_laws_FnExactOneDistance) by kernel_rfl).symm.trans hfn)).symm
   exact ⟨by kernel_rfl,fun j t ht=>by
    rw [show (fnAt f_laws_FnExactOneDistance).params=#[t_s_uint8] by kernel_rfl] at ht
    have h3:t=t_s_uint8:=by
     rcases j with _ | j
     ·simpa using ht.symm
     ·simp at ht
    subst h3
    exact (show Tryz.prog.wantsStandIn t_s_uint8=false by kernel_rfl)⟩)
  (by kernel_rfl)
end Go.Proofs.YtjphakdpokombaaGreatDoor
