/- What pieces of the code come to. -/
import Derived.Test.YteolgmacekgndaaGreatDoorPke
set_option maxRecDepth 100000
namespace Go.M
open Go Go.Proofs
def L_spec_State:List Nat:=[0,2,4]
def r_spec_State:List ResultVar:=[.tmp 2]
noncomputable def c_spec_State:Code:=(Go.Proofs.Tryz.f4.body).getD .skip
theorem b_spec_State:Go.Proofs.Tryz.f4.body=some c_spec_State:=by kernel_rfl
theorem e_spec_State (a1:Option Addr) (l2:Nat) (k3:Nat) (m:Mem) (R:Value→Mem→Prop)
  (h:CallM PP f_spec_Inflate #[.slice a1 l2 k3,.slice none 0 0] m fun v9 m10=>∃ a4 l5,∃ k6 x7 x8,v9=.tuple #[.slice a4 l5 k6,.int .i64 x7,.int .i64 x8]∧R (.int .i64 x7) m10):
  CallM PP f_spec_State #[.slice a1 l2 k3] m R:=
 callM_enter ffOk mixedOk 13 L_spec_State Tryz.func4 b_spec_State Tryz.ntmps4 (by simp) (Eq.mpr (by kernel_rfl) h)
def L_impl_All:List Nat:=[0,1,4,5]
def r_impl_All:List ResultVar:=[.tmp 4,.tmp 5]
noncomputable def c_impl_All:Code:=(Go.Proofs.Tryz.f6.body).getD .skip
theorem b_impl_All:Go.Proofs.Tryz.f6.body=some c_impl_All:=by kernel_rfl
theorem e_impl_All (a1:Option Addr) (l2:Nat) (k3:Nat) (x4:Int) (m:Mem) (R:Value→Mem→Prop)
  (h:CallM PP f_impl_source #[.slice a1 l2 k3] m fun v6 m7=>∃ p5,v6=.pointer p5∧CallM PP f_inflate_NewReader #[.iface t_p_bytes_Reader (.pointer p5)] m7 fun v9 m10=>∃ v8,v9=v8∧CallM PP f_impl_all #[v8,.int .i64 x4] m10 fun v15 m16=>∃ a11 l12,∃ k13 x14,v15=.tuple #[.slice a11 l12 k13,.int .i64 x14]∧R (.tuple #[.slice a11 l12 k13,.int .i64 x14]) m16):
  CallM PP f_impl_All #[.slice a1 l2 k3,.int .i64 x4] m R:=
 callM_enter ffOk mixedOk 14 L_impl_All Tryz.func6 b_impl_All Tryz.ntmps6 (by simp) (Eq.mpr (by kernel_rfl) h)
def L_laws_same:List Nat:=[0,1,4]
def r_laws_same:List ResultVar:=[.tmp 4]
noncomputable def c_laws_same:Code:=(Go.Proofs.Tryz.f7.body).getD .skip
theorem b_laws_same:Go.Proofs.Tryz.f7.body=some c_laws_same:=by kernel_rfl
theorem e_laws_same (a1:Option Addr) (l2:Nat) (k3:Nat) (a4:Option Addr) (l5:Nat) (k6:Nat) (m:Mem) (R:Value→Mem→Prop)
  (h:ifB ((l2:Int) == (l5:Int)) (CallM PP f_laws_begins #[.slice a1 l2 k3,.slice a4 l5 k6] m fun v8 m9=>∃ b7,v8=.bool b7∧R (.bool b7) m9) (R (.bool false) m)):
  CallM PP f_laws_same #[.slice a1 l2 k3,.slice a4 l5 k6] m R:=
 callM_enter ffOk mixedOk 15 L_laws_same Tryz.func7 b_laws_same Tryz.ntmps7 (by simp) (Eq.mpr (by kernel_rfl) h)
def L_spec_Inflate:List Nat:=[0,1,4,5,6,7,18,20]
def r_spec_Inflate:List ResultVar:=[.tmp 4,.tmp 5,.tmp 6]
noncomputable def c_spec_Inflate:Code:=(Go.Proofs.Tryz.f8.body).getD .skip
theorem b_spec_Inflate:Go.Proofs.Tryz.f8.body=some c_spec_Inflate:=by kernel_rfl
noncomputable def c_spec_Inflate_rrr:Code:=(rgt (rgt (rgt c_spec_Inflate)))
noncomputable def c_spec_Inflate_rrll:Code:=(lft (lft (rgt (rgt c_spec_Inflate))))
noncomputable def c_spec_Inflate_rrlll:Code:=(lft c_spec_Inflate_rrll)
theorem q_spec_Inflate_rrll:c_spec_Inflate_rrll=.loop c_spec_Inflate_rrlll:=by kernel_rfl
theorem e_spec_Inflate (a1:Option Addr) (l2:Nat) (k3:Nat) (a4:Option Addr) (l5:Nat) (k6:Nat) (m:Mem) (R:Value→Mem→Prop)
  (h:l5≤k6∧(0≤(if (IntKind.wrap .i64 ((l5:Int) - 32768)) > 0 then IntKind.wrap .i64 ((l5:Int) - 32768) else 0)∧(if (IntKind.wrap .i64 ((l5:Int) - 32768)) > 0 then IntKind.wrap .i64 ((l5:Int) - 32768) else 0)≤(l5:Int))∧BoxW t_spec_state (.agg #[.slice a1 l2 k3,.int .i64 0,.slice (subA a4 ((if (IntKind.wrap .i64 ((l5:Int) - 32768)) > 0 then IntKind.wrap .i64 ((l5:Int) - 32768) else 0).toNat) 1 k6) (l5 - ((if (IntKind.wrap .i64 ((l5:Int) - 32768)) > 0 then IntKind.wrap .i64 ((l5:Int) - 32768) else 0).toNat)) (k6 - ((if (IntKind.wrap .i64 ((l5:Int) - 32768)) > 0 then IntKind.wrap .i64 ((l5:Int) - 32768) else 0).toNat)),.slice none 0 0,.int .i64 (-1)]) m fun n7 m8=>WPS PP 37 c_spec_Inflate_rrll (((retK PP r_spec_Inflate R).withN fun r m=>WPS PP 37 c_spec_Inflate_rrr (retK PP r_spec_Inflate R) r m).withX 0) [(0,.slice a1 l2 k3),(1,.slice a4 l5 k6),(4,.slice none 0 0),(5,.int .i64 0),(6,.int .i64 0),(7,.pointer (some ⟨n7,0,none⟩))] m8):
  CallM PP f_spec_Inflate #[.slice a1 l2 k3,.slice a4 l5 k6] m R:=
 callM_enter ffOk mixedOk 37 L_spec_Inflate Tryz.func8 b_spec_Inflate Tryz.ntmps8 (by simp) (Eq.mpr (by kernel_rfl) h)
theorem p_spec_Inflate_rrr (p1:Option Addr) (m:Mem) (K:Kont)
  (h:onSome p1 fun p2=>∃ a3 l4 k5,cell? m ⟨p2.block,p2.off+3,none⟩=some (.slice a3 l4 k5)∧onSome p1 fun p6=>∃ x7,cell? m ⟨p6.block,p6.off+4,none⟩=some (.int .i64 x7)∧onSome p1 fun p8=>∃ x9,cell? m ⟨p8.block,p8.off+1,none⟩=some (.int .i64 x9)∧IntKind.i64=IntKind.i64∧(8:Int)≠0∧K.kr [(4,.slice a3 l4 k5),(5,.int .i64 x7),(6,.int .i64 (IntKind.wrap .i64 (Int.tdiv (IntKind.wrap .i64 (x9+7)) 8))),(7,.pointer p1)] m):
  wpc PP FF 37 L_spec_Inflate c_spec_Inflate_rrr K [(7,.pointer p1)] m:=
 Eq.mpr (by kernel_rfl) h
theorem p_spec_Inflate_rrlll (p1:Option Addr) (m:Mem) (K:Kont)
  (h:CallM PP f_state_on #[.pointer p1] m fun v3 m4=>∃ b2,v3=.bool b2∧ifB b2 (CallM PP f_state_block #[.pointer p1] m4 fun v6 m7=>∃ b5,v6=.bool b5∧ifB b5 (CallM PP f_state_stop #[.pointer p1,.int .i64 1] m7 fun v8 m9=>v8=.tuple #[]∧K.kn [(7,.pointer p1)] m9) (K.kn [(7,.pointer p1)] m7)) (K.kx 0 [(7,.pointer p1)] m4)):
  wpc PP FF 37 L_spec_Inflate c_spec_Inflate_rrlll K [(7,.pointer p1)] m:=
 Eq.mpr (by kernel_rfl) h
def L_inflate_NewReader:List Nat:=[0,2,3]
def r_inflate_NewReader:List ResultVar:=[.tmp 2]
noncomputable def c_inflate_NewReader:Code:=(Go.Proofs.Tryz.f9.body).getD .skip
theorem b_inflate_NewReader:Go.Proofs.Tryz.f9.body=some c_inflate_NewReader:=by kernel_rfl
theorem e_inflate_NewReader (v1:Value) (m:Mem) (R:Value→Mem→Prop)
  (h:AllocW PP t_flate_decompressor m fun n2 m3=>CallM PP f_decompressor_makeReader #[.pointer (some ⟨n2,0,none⟩),v1] m3 fun v4 m5=>v4=.tuple #[]∧AllocW PP t_316_int m5 fun n6 m7=>StW m7 ⟨n2,1035,none⟩ (.pointer (some ⟨n6,0,none⟩)) fun m8=>AllocW PP t_19_int m8 fun n9 m10=>StW m10 ⟨n2,1036,none⟩ (.pointer (some ⟨n9,0,none⟩)) fun m11=>StW m11 ⟨n2,1045,none⟩ (.func (.func f_decompressor_nextBlock) #[] #[]) fun m12=>CallM PP f_dictDecoder_init #[.pointer (some ⟨n2,1037,none⟩),.int .i64 32768,.slice none 0 0] m12 fun v13 m14=>v13=.tuple #[]∧R (.iface t_p_flate_decompressor (.pointer (some ⟨n2,0,none⟩))) m14):
  CallM PP f_inflate_NewReader #[v1] m R:=
 callM_enter ffOk mixedOk 14 L_inflate_NewReader Tryz.func9 b_inflate_NewReader Tryz.ntmps9 (by simp) (Eq.mpr (by kernel_rfl) h)
def L_impl_source:List Nat:=[0,2]
def r_impl_source:List ResultVar:=[.tmp 2]
noncomputable def c_impl_source:Code:=(Go.Proofs.Tryz.f10.body).getD .skip
theorem b_impl_source:Go.Proofs.Tryz.f10.body=some c_impl_source:=by kernel_rfl
theorem e_impl_source (a1:Option Addr) (l2:Nat) (k3:Nat) (m:Mem) (R:Value→Mem→Prop)
  (h:SemW PP (sv (Instr.buildSlice t_s_uint8 0 #[])) m (NextW PP fun v7 m8=>∃ a4 l5 k6,v7=.slice a4 l5 k6∧SemW PP (builtin .append #[t_s_uint8,t_s_uint8] t_s_uint8 #[false,false] #[.slice a4 l5 k6,.slice a1 l2 k3]) m8 (NextW PP fun v12 m13=>∃ a9 l10 k11,v12=.slice a9 l10 k11∧CallM PP f_bytes_NewReader #[.slice a9 l10 k11] m13 fun v15 m16=>∃ p14,v15=.pointer p14∧R (.pointer p14) m16))):
  CallM PP f_impl_source #[.slice a1 l2 k3] m R:=
 callM_enter ffOk mixedOk 7 L_impl_source Tryz.func10 b_impl_source Tryz.ntmps10 (by simp) (Eq.mpr (by kernel_rfl) h)
def L_impl_all:List Nat:=[0,1,4,5,6,7,8,9,14,27]
def r_impl_all:List ResultVar:=[.tmp 4,.tmp 5]
noncomputable def c_impl_all:Code:=(Go.Proofs.Tryz.f11.body).getD .skip
theorem b_impl_all:Go.Proofs.Tryz.f11.body=some c_impl_all:=by kernel_rfl
noncomputable def c_impl_all_rrrr:Code:=(rgt (rgt (rgt (rgt c_impl_all))))
noncomputable def c_impl_all_rrrll:Code:=(lft (lft (rgt (rgt (rgt c_impl_all)))))
noncomputable def c_impl_all_rrrlll:Code:=(lft c_impl_all_rrrll)
theorem q_impl_all_rrrll:c_impl_all_rrrll=.loop c_impl_all_rrrlll:=by kernel_rfl
theorem e_impl_all (v1:Value) (x2:Int) (m:Mem) (R:Value→Mem→Prop)
  (h:SemW PP (sv (Instr.makeSlice t_s_uint8 (.int .i64 1000) (.int .i64 1000))) m (NextW PP fun v6 m7=>∃ a3 l4 k5,v6=.slice a3 l4 k5∧WPS PP 32 c_impl_all_rrrll (((retK PP r_impl_all R).withN fun r m=>WPS PP 32 c_impl_all_rrrr (retK PP r_impl_all R) r m).withX 0) [(0,v1),(1,.int .i64 x2),(4,.slice none 0 0),(5,.int .i64 0),(6,.slice none 0 0),(7,.slice a3 l4 k5)] m7)):
  CallM PP f_impl_all #[v1,.int .i64 x2] m R:=
 callM_enter ffOk mixedOk 32 L_impl_all Tryz.func11 b_impl_all Tryz.ntmps11 (by simp) (Eq.mpr (by kernel_rfl) h)
theorem p_impl_all_rrrr (a1:Option Addr) (l2:Nat) (k3:Nat) (m:Mem) (K:Kont)
  (h:K.kr [(4,.slice a1 l2 k3),(5,.int .i64 0),(6,.slice a1 l2 k3)] m):
  wpc PP FF 32 L_impl_all c_impl_all_rrrr K [(6,.slice a1 l2 k3)] m:=
 Eq.mpr (by kernel_rfl) h
theorem p_impl_all_rrrlll (v1:Value) (x2:Int) (a3:Option Addr) (l4:Nat) (k5:Nat) (a6:Option Addr) (l7:Nat) (k8:Nat) (m:Mem) (K:Kont)
  (h:ifB (decide ((l4:Int)≤x2)) (SemW PP (callMethod v1 "Read" #[.slice a6 l7 k8]) m (NextW PP fun v11 m12=>∃ x9 v10,v11=.tuple #[.int .i64 x9,v10]∧l7≤k8∧(0≤x9∧x9≤(k8:Int))∧SemW PP (builtin .append #[t_s_uint8,t_s_uint8] t_s_uint8 #[false,false] #[.slice a3 l4 k5,.slice a6 x9.toNat k8]) m12 (NextW PP fun v16 m17=>∃ a13 l14 k15,v16=.slice a13 l14 k15∧isIfc v10=true∧ifB (!(isNil v10)) (CallM PP f_impl_code #[v10] m17 fun v19 m20=>∃ x18,v19=.int .i64 x18∧K.kr [(0,v1),(1,.int .i64 x2),(4,.slice a13 l14 k15),(5,.int .i64 x18),(6,.slice a13 l14 k15),(7,.slice a6 l7 k8),(8,.int .i64 x9),(9,v10)] m20) (K.kn [(0,v1),(1,.int .i64 x2),(6,.slice a13 l14 k15),(7,.slice a6 l7 k8),(8,.int .i64 x9),(9,v10)] m17)))) (K.kx 0 [(0,v1),(1,.int .i64 x2),(6,.slice a3 l4 k5),(7,.slice a6 l7 k8)] m)):
  wpc PP FF 32 L_impl_all c_impl_all_rrrlll K [(0,v1),(1,.int .i64 x2),(6,.slice a3 l4 k5),(7,.slice a6 l7 k8)] m:=
 Eq.mpr (by kernel_rfl) h
def L_laws_begins:List Nat:=[0,1,4,5,10,12,13,14,24]
def r_laws_begins:List ResultVar:=[.tmp 4]
noncomputable def c_laws_begins:Code:=(Go.Proofs.Tryz.f12.body).getD .skip
theorem b_laws_begins:Go.Proofs.Tryz.f12.body=some c_laws_begins:=by kernel_rfl
noncomputable def c_laws_begins_rrr:Code:=(rgt (rgt (rgt c_laws_begins)))
noncomputable def c_laws_begins_rrlrl:Code:=(lft (rgt (lft (rgt (rgt c_laws_begins)))))
noncomputable def c_laws_begins_rrlrll:Code:=(lft c_laws_begins_rrlrl)
theorem q_laws_begins_rrlrl:c_laws_begins_rrlrl=.loop c_laws_begins_rrlrll:=by kernel_rfl
theorem e_laws_begins (a1:Option Addr) (l2:Nat) (k3:Nat) (a4:Option Addr) (l5:Nat) (k6:Nat) (m:Mem) (R:Value→Mem→Prop)
  (h:ifB (decide ((l5:Int) > (l2:Int))) (R (.bool false) m) (WPS PP 26 c_laws_begins_rrlrl (((retK PP r_laws_begins R).withN fun r m=>WPS PP 26 c_laws_begins_rrr (retK PP r_laws_begins R) r m).withX 0) [(0,.slice a1 l2 k3),(1,.slice a4 l5 k6),(4,.bool false),(12,.int .i64 (l5:Int)),(13,.int .i64 0)] m)):
  CallM PP f_laws_begins #[.slice a1 l2 k3,.slice a4 l5 k6] m R:=
 callM_enter ffOk mixedOk 26 L_laws_begins Tryz.func12 b_laws_begins Tryz.ntmps12 (by simp) (Eq.mpr (by kernel_rfl) h)
theorem p_laws_begins_rrr  (m:Mem) (K:Kont)
  (h:K.kr [(4,.bool true)] m  ):
  wpc PP FF 26 L_laws_begins c_laws_begins_rrr K [] m:=
 Eq.mpr (by kernel_rfl) h
theorem p_laws_begins_rrlrll (a1:Option Addr) (l2:Nat) (k3:Nat) (a4:Option Addr) (l5:Nat) (k6:Nat) (x7:Int) (x8:Int) (m:Mem) (K:Kont)
  (h:ifB (decide (x8 < x7)) (onSome a1 fun p9=>(0≤x8∧x8 < (l2:Int))∧∃ x10,cell? m (aplus p9 x8.toNat)=some (.int .u8 x10)∧onSome a4 fun p11=>(0≤x8∧x8 < (l5:Int))∧∃ x12,cell? m (aplus p11 x8.toNat)=some (.int .u8 x12)∧ifB (x10 != x12) (K.kr [(0,.slice a1 l2 k3),(1,.slice a4 l5 k6),(4,.bool false),(5,.int .i64 x8),(12,.int .i64 x7),(13,.int .i64 x8)] m) (K.kn [(0,.slice a1 l2 k3),(1,.slice a4 l5 k6),(5,.int .i64 x8),(12,.int .i64 x7),(13,.int .i64 (IntKind.wrap .i64 (x8+1)))] m)) (K.kx 0 [(0,.slice a1 l2 k3),(1,.slice a4 l5 k6),(12,.int .i64 x7),(13,.int .i64 x8)] m)):
  wpc PP FF 26 L_laws_begins c_laws_begins_rrlrll K [(0,.slice a1 l2 k3),(1,.slice a4 l5 k6),(12,.int .i64 x7),(13,.int .i64 x8)] m:=
 Eq.mpr (by kernel_rfl) h
def L_state_on:List Nat:=[0,2]
def r_state_on:List ResultVar:=[.tmp 2]
noncomputable def c_state_on:Code:=(Go.Proofs.Tryz.f13.body).getD .skip
theorem b_state_on:Go.Proofs.Tryz.f13.body=some c_state_on:=by kernel_rfl
theorem e_state_on (s:Nat) (m:Mem) (R:Value→Mem→Prop)
  (h:∃ x1,cell? m ⟨s,4,none⟩=some (.int .i64 x1)∧R (.bool (decide (x1 < 0))) m  ):
  CallM PP f_state_on #[.pointer (some ⟨s,0,none⟩)] m R:=
 callM_enter ffOk mixedOk 8 L_state_on Tryz.func13 b_state_on Tryz.ntmps13 (by simp) (Eq.mpr (by kernel_rfl) h)
def L_state_block:List Nat:=[0,2,3,7,10,14,21]
def r_state_block:List ResultVar:=[.tmp 2]
noncomputable def c_state_block:Code:=(Go.Proofs.Tryz.f14.body).getD .skip
theorem b_state_block:Go.Proofs.Tryz.f14.body=some c_state_block:=by kernel_rfl
noncomputable def c_state_block_rrr:Code:=(rgt (rgt (rgt c_state_block)))
theorem e_state_block (s:Nat) (m:Mem) (R:Value→Mem→Prop)
  (h:CallM PP f_state_bit #[.pointer (some ⟨s,0,none⟩)] m fun v2 m3=>∃ x1,v2=.int .i64 x1∧CallM PP f_state_bits #[.pointer (some ⟨s,0,none⟩),.int .i64 2] m3 fun v5 m6=>∃ x4,v5=.int .i64 x4∧ifB (x4 == 0) (CallM PP f_state_stored #[.pointer (some ⟨s,0,none⟩)] m6 fun v7 m8=>v7=.tuple #[]∧WPS PP 27 c_state_block_rrr (retK PP r_state_block R) [(0,.pointer (some ⟨s,0,none⟩)),(2,.bool false),(3,.int .i64 x1),(7,.int .i64 x4)] m8) (ifB (x4 == 1) (CallM PP f_spec_fixed #[] m6 fun v15 m16=>∃ a9 l10,∃ k11 a12,∃ l13 k14,v15=.tuple #[.slice a9 l10 k11,.slice a12 l13 k14]∧CallM PP f_state_coded #[.pointer (some ⟨s,0,none⟩),.slice a9 l10 k11,.slice a12 l13 k14] m16 fun v17 m18=>v17=.tuple #[]∧WPS PP 27 c_state_block_rrr (retK PP r_state_block R) [(0,.pointer (some ⟨s,0,none⟩)),(2,.bool false),(3,.int .i64 x1),(7,.int .i64 x4)] m18) (ifB (x4 == 2) (CallM PP f_state_dynamic #[.pointer (some ⟨s,0,none⟩)] m6 fun v19 m20=>v19=.tuple #[]∧WPS PP 27 c_state_block_rrr (retK PP r_state_block R) [(0,.pointer (some ⟨s,0,none⟩)),(2,.bool false),(3,.int .i64 x1),(7,.int .i64 x4)] m20) (CallM PP f_state_stop #[.pointer (some ⟨s,0,none⟩),.int .i64 2] m6 fun v21 m22=>v21=.tuple #[]∧WPS PP 27 c_state_block_rrr (retK PP r_state_block R) [(0,.pointer (some ⟨s,0,none⟩)),(2,.bool false),(3,.int .i64 x1),(7,.int .i64 x4)] m22)))  ):
  CallM PP f_state_block #[.pointer (some ⟨s,0,none⟩)] m R:=
 callM_enter ffOk mixedOk 27 L_state_block Tryz.func14 b_state_block Tryz.ntmps14 (by simp) (Eq.mpr (by kernel_rfl) h)
theorem p_state_block_rrr (x1:Int) (m:Mem) (K:Kont)
  (h:K.kr [(2,.bool (x1 == 1)),(3,.int .i64 x1)] m):
  wpc PP FF 27 L_state_block c_state_block_rrr K [(3,.int .i64 x1)] m:=
 Eq.mpr (by kernel_rfl) h
def L_state_stop:List Nat:=[0,1,8]
def r_state_stop:List ResultVar:=[]
noncomputable def c_state_stop:Code:=(Go.Proofs.Tryz.f15.body).getD .skip
theorem b_state_stop:Go.Proofs.Tryz.f15.body=some c_state_stop:=by kernel_rfl
theorem e_state_stop (s:Nat) (x1:Int) (m:Mem) (R:Value→Mem→Prop)
  (h:∃ x2,cell? m ⟨s,4,none⟩=some (.int .i64 x2)∧ifB (decide (x2 < 0)) (StW m ⟨s,4,none⟩ (.int .i64 x1) fun m3=>R (.tuple #[]) m3) (R (.tuple #[]) m)):
  CallM PP f_state_stop #[.pointer (some ⟨s,0,none⟩),.int .i64 x1] m R:=
 callM_enter ffOk mixedOk 13 L_state_stop Tryz.func15 b_state_stop Tryz.ntmps15 (by simp) (Eq.mpr (by kernel_rfl) h)
def L_decompressor_makeReader:List Nat:=[0,1,4,5,11,23]
def r_decompressor_makeReader:List ResultVar:=[]
noncomputable def c_decompressor_makeReader:Code:=(Go.Proofs.Tryz.f16.body).getD .skip
theorem b_decompressor_makeReader:Go.Proofs.Tryz.f16.body=some c_decompressor_makeReader:=by kernel_rfl
noncomputable def c_decompressor_makeReader_rr:Code:=(rgt (rgt c_decompressor_makeReader))
theorem e_decompressor_makeReader (f:Nat) (v1:Value) (m:Mem) (R:Value→Mem→Prop)
  (h:PureW PP (Instr.typeAssert v1 t_io_Reader t_flate_Reader true) fun u4=>∃ v2 b3,u4=.tuple #[v2,.bool b3]∧ifB b3 (StW m ⟨f,1,none⟩ (.pointer none) fun m5=>StW m5 ⟨f,0,none⟩ v2 fun m6=>R (.tuple #[]) m6) (∃ p7,cell? m ⟨f,1,none⟩=some (.pointer p7)∧ifB (!p7.isNone) (∃ p8,cell? m ⟨f,1,none⟩=some (.pointer p8)∧CallM PP f_bufio_Reader_Reset #[.pointer p8,v1] m fun v9 m10=>v9=.tuple #[]∧WPS PP 43 c_decompressor_makeReader_rr (retK PP r_decompressor_makeReader R) [(0,.pointer (some ⟨f,0,none⟩)),(1,v1),(4,v2),(5,.bool b3)] m10) (CallM PP f_bufio_NewReader #[v1] m fun v12 m13=>∃ p11,v12=.pointer p11∧StW m13 ⟨f,1,none⟩ (.pointer p11) fun m14=>WPS PP 43 c_decompressor_makeReader_rr (retK PP r_decompressor_makeReader R) [(0,.pointer (some ⟨f,0,none⟩)),(1,v1),(4,v2),(5,.bool b3)] m14))):
  CallM PP f_decompressor_makeReader #[.pointer (some ⟨f,0,none⟩),v1] m R:=
 callM_enter ffOk mixedOk 43 L_decompressor_makeReader Tryz.func16 b_decompressor_makeReader Tryz.ntmps16 (by simp) (Eq.mpr (by kernel_rfl) h)
theorem p_decompressor_makeReader_rr (f:Nat) (m:Mem) (K:Kont)
  (h:∃ p1,cell? m ⟨f,1,none⟩=some (.pointer p1)∧StW m ⟨f,0,none⟩ (.iface t_p_bufio_Reader (.pointer p1)) fun m2=>K.kn [(0,.pointer (some ⟨f,0,none⟩))] m2  ):
  wpc PP FF 43 L_decompressor_makeReader c_decompressor_makeReader_rr K [(0,.pointer (some ⟨f,0,none⟩))] m:=
 Eq.mpr (by kernel_rfl) h
def L_decompressor_nextBlock:List Nat:=[0,2,7,17,53,62,66,77,88]
def r_decompressor_nextBlock:List ResultVar:=[]
noncomputable def c_decompressor_nextBlock:Code:=(Go.Proofs.Tryz.f17.body).getD .skip
theorem b_decompressor_nextBlock:Go.Proofs.Tryz.f17.body=some c_decompressor_nextBlock:=by kernel_rfl
noncomputable def c_decompressor_nextBlock_r:Code:=(rgt c_decompressor_nextBlock)
noncomputable def c_decompressor_nextBlock_ll:Code:=(lft (lft c_decompressor_nextBlock))
noncomputable def c_decompressor_nextBlock_lll:Code:=(lft c_decompressor_nextBlock_ll)
theorem q_decompressor_nextBlock_ll:c_decompressor_nextBlock_ll=.loop c_decompressor_nextBlock_lll:=by kernel_rfl
theorem e_decompressor_nextBlock (f:Nat) (m:Mem) (R:Value→Mem→Prop)
  (h:WPS PP 103 c_decompressor_nextBlock_ll (((retK PP r_decompressor_nextBlock R).withN fun r m=>WPS PP 103 c_decompressor_nextBlock_r (retK PP r_decompressor_nextBlock R) r m).withX 0) [(0,.pointer (some ⟨f,0,none⟩))] m  ):
  CallM PP f_decompressor_nextBlock #[.pointer (some ⟨f,0,none⟩)] m R:=
 callM_enter ffOk mixedOk 103 L_decompressor_nextBlock Tryz.func17 b_decompressor_nextBlock Tryz.ntmps17 (by simp) (Eq.mpr (by kernel_rfl) h)
def k_decompressor_nextBlock_r:List Nat:=[0]
theorem p_decompressor_nextBlock_r (f:Nat) (m:Mem) (K:Kont)
  (h:∃ x1,cell? m ⟨f,3,none⟩=some (.int .u32 x1)∧IntKind.u32=IntKind.u32∧StW m ⟨f,1047,none⟩ (.bool ((bitsOp .and .u32 x1 1) == 1)) fun m2=>∃ x3,cell? m2 ⟨f,3,none⟩=some (.int .u32 x3)∧0≤(1:Int)∧StW m2 ⟨f,3,none⟩ (.int .u32 (shrOp .u32 x3 1)) fun m4=>∃ x5,cell? m4 ⟨f,3,none⟩=some (.int .u32 x5)∧IntKind.u32=IntKind.u32∧∃ x6,cell? m4 ⟨f,3,none⟩=some (.int .u32 x6)∧0≤(2:Int)∧StW m4 ⟨f,3,none⟩ (.int .u32 (shrOp .u32 x6 2)) fun m7=>∃ x8,cell? m7 ⟨f,4,none⟩=some (.int .u64 x8)∧StW m7 ⟨f,4,none⟩ (.int .u64 (IntKind.wrap .u64 (x8 - 3))) fun m9=>ifB ((bitsOp .and .u32 x5 3) == 0) (CallM PP f_decompressor_dataBlock #[.pointer (some ⟨f,0,none⟩)] m9 fun v10 m11=>v10=.tuple #[]∧K.kn [(0,.pointer (some ⟨f,0,none⟩)),(2,.int .u32 (bitsOp .and .u32 x5 3)),(53,.int .u32 (bitsOp .and .u32 x5 3))] m11) (ifB ((bitsOp .and .u32 x5 3) == 1) (CallM PP f_inflate_fixedHuffman #[] m9 fun v13 m14=>∃ p12,v13=.pointer p12∧StW m14 ⟨f,1050,none⟩ (.pointer p12) fun m15=>StW m15 ⟨f,1051,none⟩ (.pointer none) fun m16=>CallM PP f_decompressor_huffmanBlock #[.pointer (some ⟨f,0,none⟩)] m16 fun v17 m18=>v17=.tuple #[]∧K.kn [(0,.pointer (some ⟨f,0,none⟩)),(2,.int .u32 (bitsOp .and .u32 x5 3)),(53,.int .u32 (bitsOp .and .u32 x5 3))] m18) (ifB ((bitsOp .and .u32 x5 3) == 2) (CallM PP f_decompressor_readHuffman #[.pointer (some ⟨f,0,none⟩)] m9 fun v20 m21=>∃ v19,v20=v19∧StW m21 ⟨f,1048,none⟩ v19 fun m22=>∃ v23,cell? m22 ⟨f,1048,none⟩=some (v23)∧isIfc v23=true∧ifB (!(isNil v23)) (K.kn [(0,.pointer (some ⟨f,0,none⟩)),(2,.int .u32 (bitsOp .and .u32 x5 3)),(53,.int .u32 (bitsOp .and .u32 x5 3))] m22) (StW m22 ⟨f,1050,none⟩ (.pointer (some ⟨f,5,none⟩)) fun m24=>StW m24 ⟨f,1051,none⟩ (.pointer (some ⟨f,520,none⟩)) fun m25=>CallM PP f_decompressor_huffmanBlock #[.pointer (some ⟨f,0,none⟩)] m25 fun v26 m27=>v26=.tuple #[]∧K.kn [(0,.pointer (some ⟨f,0,none⟩)),(2,.int .u32 (bitsOp .and .u32 x5 3)),(53,.int .u32 (bitsOp .and .u32 x5 3))] m27)) (∃ x28,cell? m9 ⟨f,2,none⟩=some (.int .i64 x28)∧StW m9 ⟨f,1048,none⟩ (.iface t_flate_CorruptInputError (.int .i64 x28)) fun m29=>K.kn [(0,.pointer (some ⟨f,0,none⟩)),(2,.int .u32 (bitsOp .and .u32 x5 3)),(53,.int .u32 (bitsOp .and .u32 x5 3))] m29)))  ):
  wpc PP FF 103 L_decompressor_nextBlock c_decompressor_nextBlock_r K [(0,.pointer (some ⟨f,0,none⟩))] m:=
 Eq.mpr (by kernel_rfl) h
theorem p_decompressor_nextBlock_lll (f:Nat) (m:Mem) (K:Kont)
  (h:∃ x1,cell? m ⟨f,4,none⟩=some (.int .u64 x1)∧ifB (decide (x1 < 3)) (CallM PP f_decompressor_moreBits #[.pointer (some ⟨f,0,none⟩)] m fun v3 m4=>∃ v2,v3=v2∧StW m4 ⟨f,1048,none⟩ v2 fun m5=>∃ v6,cell? m5 ⟨f,1048,none⟩=some (v6)∧isIfc v6=true∧ifB (!(isNil v6)) (K.kr [(0,.pointer (some ⟨f,0,none⟩))] m5) (K.kn [(0,.pointer (some ⟨f,0,none⟩))] m5)) (K.kx 0 [(0,.pointer (some ⟨f,0,none⟩))] m)  ):
  wpc PP FF 103 L_decompressor_nextBlock c_decompressor_nextBlock_lll K [(0,.pointer (some ⟨f,0,none⟩))] m:=
 Eq.mpr (by kernel_rfl) h
def L_dictDecoder_init:List Nat:=[0,1,2,19,41,70]
def r_dictDecoder_init:List ResultVar:=[]
noncomputable def c_dictDecoder_init:Code:=(Go.Proofs.Tryz.f18.body).getD .skip
theorem b_dictDecoder_init:Go.Proofs.Tryz.f18.body=some c_dictDecoder_init:=by kernel_rfl
noncomputable def c_dictDecoder_init_rr:Code:=(rgt (rgt c_dictDecoder_init))
noncomputable def c_dictDecoder_init_rrrr:Code:=(rgt (rgt c_dictDecoder_init_rr))
noncomputable def c_dictDecoder_init_rrrrrr:Code:=(rgt (rgt c_dictDecoder_init_rrrr))
theorem e_dictDecoder_init (f:Nat) (x1:Int) (a2:Option Addr) (l3:Nat) (k4:Nat) (m:Mem) (R:Value→Mem→Prop)
  (h:∃ a5 l6 k7,cell? m ⟨f,1037,none⟩=some (.slice a5 l6 k7)∧StAgg PP t_flate_dictDecoder m ⟨f,1037,none⟩ (.agg #[.slice a5 l6 k7,.int .i64 0,.int .i64 0,.bool false]) fun m8=>∃ a9 l10 k11,cell? m8 ⟨f,1037,none⟩=some (.slice a9 l10 k11)∧ifB (decide ((k11:Int) < x1)) (SemW PP (sv (Instr.makeSlice t_s_uint8 (.int .i64 x1) (.int .i64 x1))) m8 (NextW PP fun v15 m16=>∃ a12 l13 k14,v15=.slice a12 l13 k14∧StW m16 ⟨f,1037,none⟩ (.slice a12 l13 k14) fun m17=>WPS PP 84 c_dictDecoder_init_rr (retK PP r_dictDecoder_init R) [(0,.pointer (some ⟨f,1037,none⟩)),(1,.int .i64 x1),(2,.slice a2 l3 k4)] m17)) (WPS PP 84 c_dictDecoder_init_rr (retK PP r_dictDecoder_init R) [(0,.pointer (some ⟨f,1037,none⟩)),(1,.int .i64 x1),(2,.slice a2 l3 k4)] m8)):
  CallM PP f_dictDecoder_init #[.pointer (some ⟨f,1037,none⟩),.int .i64 x1,.slice a2 l3 k4] m R:=
 callM_enter ffOk mixedOk 84 L_dictDecoder_init Tryz.func18 b_dictDecoder_init Tryz.ntmps18 (by simp) (Eq.mpr (by kernel_rfl) h)
def k_dictDecoder_init_rr:List Nat:=[0,1,2]
theorem p_dictDecoder_init_rr (f:Nat) (x1:Int) (a2:Option Addr) (l3:Nat) (k4:Nat) (m:Mem) (K:Kont)
  (h:∃ a5 l6 k7,cell? m ⟨f,1037,none⟩=some (.slice a5 l6 k7)∧l6≤k7∧(0≤x1∧x1≤(k7:Int))∧StW m ⟨f,1037,none⟩ (.slice a5 x1.toNat k7) fun m8=>∃ a9 l10 k11,cell? m8 ⟨f,1037,none⟩=some (.slice a9 l10 k11)∧ifB (decide ((l3:Int) > (l10:Int))) (∃ a12 l13 k14,cell? m8 ⟨f,1037,none⟩=some (.slice a12 l13 k14)∧l3≤k4∧(0≤(IntKind.wrap .i64 ((l3:Int) - (l13:Int)))∧(IntKind.wrap .i64 ((l3:Int) - (l13:Int)))≤(l3:Int))∧WPS PP 84 c_dictDecoder_init_rrrr K [(0,.pointer (some ⟨f,1037,none⟩)),(1,.int .i64 x1),(2,.slice (subA a2 ((IntKind.wrap .i64 ((l3:Int) - (l13:Int))).toNat) 1 k4) (l3 - ((IntKind.wrap .i64 ((l3:Int) - (l13:Int))).toNat)) (k4 - ((IntKind.wrap .i64 ((l3:Int) - (l13:Int))).toNat)))] m8) (WPS PP 84 c_dictDecoder_init_rrrr K [(0,.pointer (some ⟨f,1037,none⟩)),(1,.int .i64 x1),(2,.slice a2 l3 k4)] m8)):
  wpc PP FF 84 L_dictDecoder_init c_dictDecoder_init_rr K [(0,.pointer (some ⟨f,1037,none⟩)),(1,.int .i64 x1),(2,.slice a2 l3 k4)] m:=
 Eq.mpr (by kernel_rfl) h
def k_dictDecoder_init_rrrr:List Nat:=[0,2]
theorem p_dictDecoder_init_rrrr (f:Nat) (a1:Option Addr) (l2:Nat) (k3:Nat) (m:Mem) (K:Kont)
  (h:∃ a4 l5 k6,cell? m ⟨f,1037,none⟩=some (.slice a4 l5 k6)∧SemW PP (builtin .copy #[t_s_uint8,t_s_uint8] t_int #[false,false] #[.slice a4 l5 k6,.slice a1 l2 k3]) m (NextW PP fun v8 m9=>∃ x7,v8=.int .i64 x7∧StW m9 ⟨f,1038,none⟩ (.int .i64 x7) fun m10=>∃ x11,cell? m10 ⟨f,1038,none⟩=some (.int .i64 x11)∧∃ a12 l13 k14,cell? m10 ⟨f,1037,none⟩=some (.slice a12 l13 k14)∧ifB (x11 == (l13:Int)) (StW m10 ⟨f,1038,none⟩ (.int .i64 0) fun m15=>StW m15 ⟨f,1040,none⟩ (.bool true) fun m16=>WPS PP 84 c_dictDecoder_init_rrrrrr K [(0,.pointer (some ⟨f,1037,none⟩)),(2,.slice a1 l2 k3)] m16) (WPS PP 84 c_dictDecoder_init_rrrrrr K [(0,.pointer (some ⟨f,1037,none⟩)),(2,.slice a1 l2 k3)] m10))):
  wpc PP FF 84 L_dictDecoder_init c_dictDecoder_init_rrrr K [(0,.pointer (some ⟨f,1037,none⟩)),(2,.slice a1 l2 k3)] m:=
 Eq.mpr (by kernel_rfl) h
def k_dictDecoder_init_rrrrrr:List Nat:=[0]
theorem p_dictDecoder_init_rrrrrr (f:Nat) (m:Mem) (K:Kont)
  (h:∃ x1,cell? m ⟨f,1038,none⟩=some (.int .i64 x1)∧StW m ⟨f,1039,none⟩ (.int .i64 x1) fun m2=>K.kn [(0,.pointer (some ⟨f,1037,none⟩))] m2  ):
  wpc PP FF 84 L_dictDecoder_init c_dictDecoder_init_rrrrrr K [(0,.pointer (some ⟨f,1037,none⟩))] m:=
 Eq.mpr (by kernel_rfl) h
def L_bytes_NewReader:List Nat:=[0,2]
def r_bytes_NewReader:List ResultVar:=[.tmp 2]
noncomputable def c_bytes_NewReader:Code:=(Go.Proofs.Tryz.f19.body).getD .skip
theorem b_bytes_NewReader:Go.Proofs.Tryz.f19.body=some c_bytes_NewReader:=by kernel_rfl
theorem e_bytes_NewReader (a1:Option Addr) (l2:Nat) (k3:Nat) (m:Mem) (R:Value→Mem→Prop)
  (h:BoxW t_bytes_Reader (.agg #[.slice a1 l2 k3,.int .i64 0,.int .i64 (-1)]) m fun n4 m5=>R (.pointer (some ⟨n4,0,none⟩)) m5):
  CallM PP f_bytes_NewReader #[.slice a1 l2 k3] m R:=
 callM_enter ffOk mixedOk 6 L_bytes_NewReader Tryz.func19 b_bytes_NewReader Tryz.ntmps19 (by simp) (Eq.mpr (by kernel_rfl) h)
def L_impl_code:List Nat:=[0,2,3,4,7,11,15]
def r_impl_code:List ResultVar:=[.tmp 2]
noncomputable def c_impl_code:Code:=(Go.Proofs.Tryz.f20.body).getD .skip
theorem b_impl_code:Go.Proofs.Tryz.f20.body=some c_impl_code:=by kernel_rfl
theorem e_impl_code (v1:Value) (m:Mem) (R:Value→Mem→Prop)
  (h:AllocW PP t_flate_CorruptInputError m fun n2 m3=>isIfc v1=true∧ifB (isNil v1) (R (.int .i64 0) m3) (∃ v4,cell? m3 ⟨g_io_EOF,0,none⟩=some (v4)∧ReadW PP m3 (do eqGuard .eql t_error (.tmp 8) (.tmp 9) v1 v4; binOp .eql t_error v1 v4) fun u6=>∃ b5,u6=.bool b5∧ifB b5 (R (.int .i64 1) m3) (∃ v7,cell? m3 ⟨g_io_ErrUnexpectedEOF,0,none⟩=some (v7)∧ReadW PP m3 (do eqGuard .eql t_error (.tmp 12) (.tmp 13) v1 v7; binOp .eql t_error v1 v7) fun u9=>∃ b8,u9=.bool b8∧ifB b8 (R (.int .i64 2) m3) (CallM PP f_errors_As #[v1,.iface t_p_flate_CorruptInputError (.pointer (some ⟨n2,0,none⟩))] m3 fun v11 m12=>∃ b10,v11=.bool b10∧ifB b10 (R (.int .i64 3) m12) (R (.int .i64 4) m12))))):
  CallM PP f_impl_code #[v1] m R:=
 callM_enter ffOk mixedOk 19 L_impl_code Tryz.func20 b_impl_code Tryz.ntmps20 (by simp) (Eq.mpr (by kernel_rfl) h)
def L_state_bit:List Nat:=[0,2,3,6,17]
def r_state_bit:List ResultVar:=[.tmp 2]
noncomputable def c_state_bit:Code:=(Go.Proofs.Tryz.f21.body).getD .skip
theorem b_state_bit:Go.Proofs.Tryz.f21.body=some c_state_bit:=by kernel_rfl
theorem e_state_bit (s:Nat) (m:Mem) (R:Value→Mem→Prop)
  (h:CallM PP f_state_on #[.pointer (some ⟨s,0,none⟩)] m fun v2 m3=>∃ b1,v2=.bool b1∧ifB (!b1) (R (.int .i64 0) m3) (∃ x4,cell? m3 ⟨s,1,none⟩=some (.int .i64 x4)∧IntKind.i64=IntKind.i64∧(8:Int)≠0∧∃ a5 l6 k7,cell? m3 ⟨s,0,none⟩=some (.slice a5 l6 k7)∧ifB (decide ((IntKind.wrap .i64 (Int.tdiv x4 8)) ≥ (l6:Int))) (CallM PP f_state_stop #[.pointer (some ⟨s,0,none⟩),.int .i64 3] m3 fun v8 m9=>v8=.tuple #[]∧R (.int .i64 0) m9) (∃ a10 l11 k12,cell? m3 ⟨s,0,none⟩=some (.slice a10 l11 k12)∧∃ x13,cell? m3 ⟨s,1,none⟩=some (.int .i64 x13)∧IntKind.i64=IntKind.i64∧(8:Int)≠0∧onSome a10 fun p14=>(0≤(IntKind.wrap .i64 (Int.tdiv x13 8))∧(IntKind.wrap .i64 (Int.tdiv x13 8)) < (l11:Int))∧∃ x15,cell? m3 (aplus p14 ((IntKind.wrap .i64 (Int.tdiv x13 8)).toNat))=some (.int .u8 x15)∧∃ x16,cell? m3 ⟨s,1,none⟩=some (.int .i64 x16)∧IntKind.i64=IntKind.i64∧(8:Int)≠0∧0≤(Int.tmod x16 8)∧IntKind.i64=IntKind.i64∧∃ x17,cell? m3 ⟨s,1,none⟩=some (.int .i64 x17)∧StW m3 ⟨s,1,none⟩ (.int .i64 (IntKind.wrap .i64 (x17+1))) fun m18=>R (.int .i64 (bitsOp .and .i64 (shrOp .i64 (IntKind.wrap .i64 x15) (Int.tmod x16 8)) 1)) m18))  ):
  CallM PP f_state_bit #[.pointer (some ⟨s,0,none⟩)] m R:=
 callM_enter ffOk mixedOk 47 L_state_bit Tryz.func21 b_state_bit Tryz.ntmps21 (by simp) (Eq.mpr (by kernel_rfl) h)
def L_state_bits:List Nat:=[0,1,4,5,6,7,8,9]
def r_state_bits:List ResultVar:=[.tmp 4]
noncomputable def c_state_bits:Code:=(Go.Proofs.Tryz.f22.body).getD .skip
theorem b_state_bits:Go.Proofs.Tryz.f22.body=some c_state_bits:=by kernel_rfl
noncomputable def c_state_bits_rrr:Code:=(rgt (rgt (rgt c_state_bits)))
noncomputable def c_state_bits_rrlrl:Code:=(lft (rgt (lft (rgt (rgt c_state_bits)))))
noncomputable def c_state_bits_rrlrll:Code:=(lft c_state_bits_rrlrl)
theorem q_state_bits_rrlrl:c_state_bits_rrlrl=.loop c_state_bits_rrlrll:=by kernel_rfl
theorem e_state_bits (s:Nat) (x1:Int) (m:Mem) (R:Value→Mem→Prop)
  (h:WPS PP 19 c_state_bits_rrlrl (((retK PP r_state_bits R).withN fun r m=>WPS PP 19 c_state_bits_rrr (retK PP r_state_bits R) r m).withX 0) [(0,.pointer (some ⟨s,0,none⟩)),(1,.int .i64 x1),(4,.int .i64 0),(5,.int .i64 0),(7,.int .i64 x1),(8,.int .i64 0)] m):
  CallM PP f_state_bits #[.pointer (some ⟨s,0,none⟩),.int .i64 x1] m R:=
 callM_enter ffOk mixedOk 19 L_state_bits Tryz.func22 b_state_bits Tryz.ntmps22 (by simp) (Eq.mpr (by kernel_rfl) h)
theorem p_state_bits_rrr (x1:Int) (m:Mem) (K:Kont)
  (h:K.kr [(4,.int .i64 x1),(5,.int .i64 x1)] m):
  wpc PP FF 19 L_state_bits c_state_bits_rrr K [(5,.int .i64 x1)] m:=
 Eq.mpr (by kernel_rfl) h
theorem p_state_bits_rrlrll (s:Nat) (x1:Int) (x2:Int) (x3:Int) (m:Mem) (K:Kont)
  (h:ifB (decide (x3 < x2)) (CallM PP f_state_bit #[.pointer (some ⟨s,0,none⟩)] m fun v5 m6=>∃ x4,v5=.int .i64 x4∧0≤x3∧IntKind.i64=IntKind.i64∧K.kn [(0,.pointer (some ⟨s,0,none⟩)),(5,.int .i64 (bitsOp .or .i64 x1 (shlOp .i64 x4 x3))),(6,.int .i64 x3),(7,.int .i64 x2),(8,.int .i64 (IntKind.wrap .i64 (x3+1)))] m6) (K.kx 0 [(0,.pointer (some ⟨s,0,none⟩)),(5,.int .i64 x1),(7,.int .i64 x2),(8,.int .i64 x3)] m)):
  wpc PP FF 19 L_state_bits c_state_bits_rrlrll K [(0,.pointer (some ⟨s,0,none⟩)),(5,.int .i64 x1),(7,.int .i64 x2),(8,.int .i64 x3)] m:=
 Eq.mpr (by kernel_rfl) h
def L_state_stored:List Nat:=[0,2,3,4,5,27,36]
def r_state_stored:List ResultVar:=[]
noncomputable def c_state_stored:Code:=(Go.Proofs.Tryz.f23.body).getD .skip
theorem b_state_stored:Go.Proofs.Tryz.f23.body=some c_state_stored:=by kernel_rfl
noncomputable def c_state_stored_rrrr:Code:=(rgt (rgt (rgt (rgt c_state_stored))))
noncomputable def c_state_stored_rrrrrl:Code:=(lft (rgt c_state_stored_rrrr))
noncomputable def c_state_stored_rrrrrll:Code:=(lft c_state_stored_rrrrrl)
theorem q_state_stored_rrrrrl:c_state_stored_rrrrrl=.loop c_state_stored_rrrrrll:=by kernel_rfl
theorem e_state_stored (s:Nat) (m:Mem) (R:Value→Mem→Prop)
  (h:∃ x1,cell? m ⟨s,1,none⟩=some (.int .i64 x1)∧IntKind.i64=IntKind.i64∧(8:Int)≠0∧StW m ⟨s,1,none⟩ (.int .i64 (IntKind.wrap .i64 ((IntKind.wrap .i64 (Int.tdiv (IntKind.wrap .i64 (x1+7)) 8)) * 8))) fun m2=>CallM PP f_state_bits #[.pointer (some ⟨s,0,none⟩),.int .i64 16] m2 fun v4 m5=>∃ x3,v4=.int .i64 x3∧CallM PP f_state_bits #[.pointer (some ⟨s,0,none⟩),.int .i64 16] m5 fun v7 m8=>∃ x6,v7=.int .i64 x6∧CallM PP f_state_on #[.pointer (some ⟨s,0,none⟩)] m8 fun v10 m11=>∃ b9,v10=.bool b9∧ifB b9 (ifB ((IntKind.wrap .i64 (x3+x6)) != 65535) (CallM PP f_state_stop #[.pointer (some ⟨s,0,none⟩),.int .i64 2] m11 fun v12 m13=>v12=.tuple #[]∧WPS PP 45 c_state_stored_rrrr (retK PP r_state_stored R) [(0,.pointer (some ⟨s,0,none⟩)),(2,.int .i64 x3),(3,.int .i64 x6)] m13) (WPS PP 45 c_state_stored_rrrr (retK PP r_state_stored R) [(0,.pointer (some ⟨s,0,none⟩)),(2,.int .i64 x3),(3,.int .i64 x6)] m11)) (WPS PP 45 c_state_stored_rrrr (retK PP r_state_stored R) [(0,.pointer (some ⟨s,0,none⟩)),(2,.int .i64 x3),(3,.int .i64 x6)] m11)  ):
  CallM PP f_state_stored #[.pointer (some ⟨s,0,none⟩)] m R:=
 callM_enter ffOk mixedOk 45 L_state_stored Tryz.func23 b_state_stored Tryz.ntmps23 (by simp) (Eq.mpr (by kernel_rfl) h)
theorem p_state_stored_rrrr (s:Nat) (x1:Int) (m:Mem) (K:Kont)
  (h:WPS PP 45 c_state_stored_rrrrrl (K.withX 0) [(0,.pointer (some ⟨s,0,none⟩)),(2,.int .i64 x1),(4,.int .i64 0)] m):
  wpc PP FF 45 L_state_stored c_state_stored_rrrr K [(0,.pointer (some ⟨s,0,none⟩)),(2,.int .i64 x1)] m:=
 Eq.mpr (by kernel_rfl) h
theorem p_state_stored_rrrrrll (s:Nat) (x1:Int) (x2:Int) (m:Mem) (K:Kont)
  (h:ifB (decide (x2 < x1)) (CallM PP f_state_on #[.pointer (some ⟨s,0,none⟩)] m fun v4 m5=>∃ b3,v4=.bool b3∧ifB b3 (CallM PP f_state_bits #[.pointer (some ⟨s,0,none⟩),.int .i64 8] m5 fun v7 m8=>∃ x6,v7=.int .i64 x6∧CallM PP f_state_give #[.pointer (some ⟨s,0,none⟩),.int .u8 (IntKind.wrap .u8 x6)] m8 fun v9 m10=>v9=.tuple #[]∧K.kn [(0,.pointer (some ⟨s,0,none⟩)),(2,.int .i64 x1),(4,.int .i64 (IntKind.wrap .i64 (x2+1))),(5,.int .i64 x6)] m10) (K.kx 0 [(0,.pointer (some ⟨s,0,none⟩)),(2,.int .i64 x1),(4,.int .i64 x2)] m5)) (K.kx 0 [(0,.pointer (some ⟨s,0,none⟩)),(2,.int .i64 x1),(4,.int .i64 x2)] m)):
  wpc PP FF 45 L_state_stored c_state_stored_rrrrrll K [(0,.pointer (some ⟨s,0,none⟩)),(2,.int .i64 x1),(4,.int .i64 x2)] m:=
 Eq.mpr (by kernel_rfl) h
def L_state_coded:List Nat:=[0,1,2,6,7,8,9,10,11,12,13,14,20,24,28,35,44,61,66,74,81]
def r_state_coded:List ResultVar:=[]
noncomputable def c_state_coded:Code:=(Go.Proofs.Tryz.f24.body).getD .skip
theorem b_state_coded:Go.Proofs.Tryz.f24.body=some c_state_coded:=by kernel_rfl
noncomputable def c_state_coded_rl:Code:=(lft (rgt c_state_coded))
noncomputable def c_state_coded_rll:Code:=(lft c_state_coded_rl)
theorem q_state_coded_rl:c_state_coded_rl=.loop c_state_coded_rll:=by kernel_rfl
theorem e_state_coded (s:Nat) (a1:Option Addr) (l2:Nat) (k3:Nat) (a4:Option Addr) (l5:Nat) (k6:Nat) (m:Mem) (R:Value→Mem→Prop)
  (h:CallM PP f_spec_book #[.slice a1 l2 k3] m fun v8 m9=>∃ r7,v8=.map r7∧CallM PP f_spec_book #[.slice a4 l5 k6] m9 fun v11 m12=>∃ r10,v11=.map r10∧WPS PP 92 c_state_coded_rl ((retK PP r_state_coded R).withX 0) [(0,.pointer (some ⟨s,0,none⟩)),(1,.slice a1 l2 k3),(2,.slice a4 l5 k6),(6,.map r7),(7,.map r10)] m12):
  CallM PP f_state_coded #[.pointer (some ⟨s,0,none⟩),.slice a1 l2 k3,.slice a4 l5 k6] m R:=
 callM_enter ffOk mixedOk 92 L_state_coded Tryz.func24 b_state_coded Tryz.ntmps24 (by simp) (Eq.mpr (by kernel_rfl) h)
theorem p_state_coded_rll (s:Nat) (a1:Option Addr) (l2:Nat) (k3:Nat) (r4:Option Nat) (r5:Option Nat) (m:Mem) (K:Kont)
  (h:CallM PP f_state_on #[.pointer (some ⟨s,0,none⟩)] m fun v7 m8=>∃ b6,v7=.bool b6∧ifB b6 (CallM PP f_state_symbol #[.pointer (some ⟨s,0,none⟩),.map r4] m8 fun v10 m11=>∃ x9,v10=.int .i64 x9∧CallM PP f_state_on #[.pointer (some ⟨s,0,none⟩)] m11 fun v13 m14=>∃ b12,v13=.bool b12∧ifB (!b12) (K.kr [(0,.pointer (some ⟨s,0,none⟩)),(2,.slice a1 l2 k3),(6,.map r4),(7,.map r5),(8,.int .i64 x9)] m14) (ifB (decide (x9 < 256)) (CallM PP f_state_give #[.pointer (some ⟨s,0,none⟩),.int .u8 (IntKind.wrap .u8 x9)] m14 fun v15 m16=>v15=.tuple #[]∧K.kn [(0,.pointer (some ⟨s,0,none⟩)),(2,.slice a1 l2 k3),(6,.map r4),(7,.map r5),(8,.int .i64 x9)] m16) (ifB (x9 == 256) (K.kr [(0,.pointer (some ⟨s,0,none⟩)),(2,.slice a1 l2 k3),(6,.map r4),(7,.map r5),(8,.int .i64 x9)] m14) (CallM PP f_spec_Length #[.int .i64 x9] m14 fun v19 m20=>∃ x17 x18,v19=.tuple #[.int .i64 x17,.int .i64 x18]∧ifB (x17 == 0) (CallM PP f_state_stop #[.pointer (some ⟨s,0,none⟩),.int .i64 2] m20 fun v21 m22=>v21=.tuple #[]∧K.kr [(0,.pointer (some ⟨s,0,none⟩)),(2,.slice a1 l2 k3),(6,.map r4),(7,.map r5),(8,.int .i64 x9),(9,.int .i64 x17),(10,.int .i64 x18)] m22) (CallM PP f_state_bits #[.pointer (some ⟨s,0,none⟩),.int .i64 x18] m20 fun v24 m25=>∃ x23,v24=.int .i64 x23∧CallM PP f_state_on #[.pointer (some ⟨s,0,none⟩)] m25 fun v27 m28=>∃ b26,v27=.bool b26∧ifB b26 (ifB (x9 == 284) (ifB ((IntKind.wrap .i64 (x17+x23)) == 258) (CallM PP f_state_stop #[.pointer (some ⟨s,0,none⟩),.int .i64 0] m28 fun v29 m30=>v29=.tuple #[]∧K.kr [(0,.pointer (some ⟨s,0,none⟩)),(2,.slice a1 l2 k3),(6,.map r4),(7,.map r5),(8,.int .i64 x9),(9,.int .i64 x17),(10,.int .i64 x18),(11,.int .i64 (IntKind.wrap .i64 (x17+x23)))] m30) (CallM PP f_spec_used #[.slice a1 l2 k3] m28 fun v32 m33=>∃ x31,v32=.int .i64 x31∧ifB (x31 == 0) (CallM PP f_state_stop #[.pointer (some ⟨s,0,none⟩),.int .i64 0] m33 fun v34 m35=>v34=.tuple #[]∧K.kr [(0,.pointer (some ⟨s,0,none⟩)),(2,.slice a1 l2 k3),(6,.map r4),(7,.map r5),(8,.int .i64 x9),(9,.int .i64 x17),(10,.int .i64 x18),(11,.int .i64 (IntKind.wrap .i64 (x17+x23)))] m35) (CallM PP f_state_symbol #[.pointer (some ⟨s,0,none⟩),.map r5] m33 fun v37 m38=>∃ x36,v37=.int .i64 x36∧CallM PP f_state_on #[.pointer (some ⟨s,0,none⟩)] m38 fun v40 m41=>∃ b39,v40=.bool b39∧ifB (!b39) (K.kr [(0,.pointer (some ⟨s,0,none⟩)),(2,.slice a1 l2 k3),(6,.map r4),(7,.map r5),(8,.int .i64 x9),(9,.int .i64 x17),(10,.int .i64 x18),(11,.int .i64 (IntKind.wrap .i64 (x17+x23))),(12,.int .i64 x36)] m41) (CallM PP f_spec_Distance #[.int .i64 x36] m41 fun v44 m45=>∃ x42 x43,v44=.tuple #[.int .i64 x42,.int .i64 x43]∧ifB (x42 == 0) (CallM PP f_state_stop #[.pointer (some ⟨s,0,none⟩),.int .i64 2] m45 fun v46 m47=>v46=.tuple #[]∧K.kr [(0,.pointer (some ⟨s,0,none⟩)),(2,.slice a1 l2 k3),(6,.map r4),(7,.map r5),(8,.int .i64 x9),(9,.int .i64 x17),(10,.int .i64 x18),(11,.int .i64 (IntKind.wrap .i64 (x17+x23))),(12,.int .i64 x36),(13,.int .i64 x42),(14,.int .i64 x43)] m47) (CallM PP f_state_bits #[.pointer (some ⟨s,0,none⟩),.int .i64 x43] m45 fun v49 m50=>∃ x48,v49=.int .i64 x48∧CallM PP f_state_far #[.pointer (some ⟨s,0,none⟩),.int .i64 (IntKind.wrap .i64 (x17+x23)),.int .i64 (IntKind.wrap .i64 (x42+x48))] m50 fun v51 m52=>v51=.tuple #[]∧K.kn [(0,.pointer (some ⟨s,0,none⟩)),(2,.slice a1 l2 k3),(6,.map r4),(7,.map r5),(8,.int .i64 x9),(9,.int .i64 x17),(10,.int .i64 x18),(11,.int .i64 (IntKind.wrap .i64 (x17+x23))),(12,.int .i64 x36),(13,.int .i64 x42),(14,.int .i64 x43)] m52))))) (CallM PP f_spec_used #[.slice a1 l2 k3] m28 fun v54 m55=>∃ x53,v54=.int .i64 x53∧ifB (x53 == 0) (CallM PP f_state_stop #[.pointer (some ⟨s,0,none⟩),.int .i64 0] m55 fun v56 m57=>v56=.tuple #[]∧K.kr [(0,.pointer (some ⟨s,0,none⟩)),(2,.slice a1 l2 k3),(6,.map r4),(7,.map r5),(8,.int .i64 x9),(9,.int .i64 x17),(10,.int .i64 x18),(11,.int .i64 (IntKind.wrap .i64 (x17+x23)))] m57) (CallM PP f_state_symbol #[.pointer (some ⟨s,0,none⟩),.map r5] m55 fun v59 m60=>∃ x58,v59=.int .i64 x58∧CallM PP f_state_on #[.pointer (some ⟨s,0,none⟩)] m60 fun v62 m63=>∃ b61,v62=.bool b61∧ifB (!b61) (K.kr [(0,.pointer (some ⟨s,0,none⟩)),(2,.slice a1 l2 k3),(6,.map r4),(7,.map r5),(8,.int .i64 x9),(9,.int .i64 x17),(10,.int .i64 x18),(11,.int .i64 (IntKind.wrap .i64 (x17+x23))),(12,.int .i64 x58)] m63) (CallM PP f_spec_Distance #[.int .i64 x58] m63 fun v66 m67=>∃ x64 x65,v66=.tuple #[.int .i64 x64,.int .i64 x65]∧ifB (x64 == 0) (CallM PP f_state_stop #[.pointer (some ⟨s,0,none⟩),.int .i64 2] m67 fun v68 m69=>v68=.tuple #[]∧K.kr [(0,.pointer (some ⟨s,0,none⟩)),(2,.slice a1 l2 k3),(6,.map r4),(7,.map r5),(8,.int .i64 x9),(9,.int .i64 x17),(10,.int .i64 x18),(11,.int .i64 (IntKind.wrap .i64 (x17+x23))),(12,.int .i64 x58),(13,.int .i64 x64),(14,.int .i64 x65)] m69) (CallM PP f_state_bits #[.pointer (some ⟨s,0,none⟩),.int .i64 x65] m67 fun v71 m72=>∃ x70,v71=.int .i64 x70∧CallM PP f_state_far #[.pointer (some ⟨s,0,none⟩),.int .i64 (IntKind.wrap .i64 (x17+x23)),.int .i64 (IntKind.wrap .i64 (x64+x70))] m72 fun v73 m74=>v73=.tuple #[]∧K.kn [(0,.pointer (some ⟨s,0,none⟩)),(2,.slice a1 l2 k3),(6,.map r4),(7,.map r5),(8,.int .i64 x9),(9,.int .i64 x17),(10,.int .i64 x18),(11,.int .i64 (IntKind.wrap .i64 (x17+x23))),(12,.int .i64 x58),(13,.int .i64 x64),(14,.int .i64 x65)] m74))))) (CallM PP f_spec_used #[.slice a1 l2 k3] m28 fun v76 m77=>∃ x75,v76=.int .i64 x75∧ifB (x75 == 0) (CallM PP f_state_stop #[.pointer (some ⟨s,0,none⟩),.int .i64 0] m77 fun v78 m79=>v78=.tuple #[]∧K.kr [(0,.pointer (some ⟨s,0,none⟩)),(2,.slice a1 l2 k3),(6,.map r4),(7,.map r5),(8,.int .i64 x9),(9,.int .i64 x17),(10,.int .i64 x18),(11,.int .i64 (IntKind.wrap .i64 (x17+x23)))] m79) (CallM PP f_state_symbol #[.pointer (some ⟨s,0,none⟩),.map r5] m77 fun v81 m82=>∃ x80,v81=.int .i64 x80∧CallM PP f_state_on #[.pointer (some ⟨s,0,none⟩)] m82 fun v84 m85=>∃ b83,v84=.bool b83∧ifB (!b83) (K.kr [(0,.pointer (some ⟨s,0,none⟩)),(2,.slice a1 l2 k3),(6,.map r4),(7,.map r5),(8,.int .i64 x9),(9,.int .i64 x17),(10,.int .i64 x18),(11,.int .i64 (IntKind.wrap .i64 (x17+x23))),(12,.int .i64 x80)] m85) (CallM PP f_spec_Distance #[.int .i64 x80] m85 fun v88 m89=>∃ x86 x87,v88=.tuple #[.int .i64 x86,.int .i64 x87]∧ifB (x86 == 0) (CallM PP f_state_stop #[.pointer (some ⟨s,0,none⟩),.int .i64 2] m89 fun v90 m91=>v90=.tuple #[]∧K.kr [(0,.pointer (some ⟨s,0,none⟩)),(2,.slice a1 l2 k3),(6,.map r4),(7,.map r5),(8,.int .i64 x9),(9,.int .i64 x17),(10,.int .i64 x18),(11,.int .i64 (IntKind.wrap .i64 (x17+x23))),(12,.int .i64 x80),(13,.int .i64 x86),(14,.int .i64 x87)] m91) (CallM PP f_state_bits #[.pointer (some ⟨s,0,none⟩),.int .i64 x87] m89 fun v93 m94=>∃ x92,v93=.int .i64 x92∧CallM PP f_state_far #[.pointer (some ⟨s,0,none⟩),.int .i64 (IntKind.wrap .i64 (x17+x23)),.int .i64 (IntKind.wrap .i64 (x86+x92))] m94 fun v95 m96=>v95=.tuple #[]∧K.kn [(0,.pointer (some ⟨s,0,none⟩)),(2,.slice a1 l2 k3),(6,.map r4),(7,.map r5),(8,.int .i64 x9),(9,.int .i64 x17),(10,.int .i64 x18),(11,.int .i64 (IntKind.wrap .i64 (x17+x23))),(12,.int .i64 x80),(13,.int .i64 x86),(14,.int .i64 x87)] m96))))))))) (K.kx 0 [(0,.pointer (some ⟨s,0,none⟩)),(2,.slice a1 l2 k3),(6,.map r4),(7,.map r5)] m8)):
  wpc PP FF 92 L_state_coded c_state_coded_rll K [(0,.pointer (some ⟨s,0,none⟩)),(2,.slice a1 l2 k3),(6,.map r4),(7,.map r5)] m:=
 Eq.mpr (by kernel_rfl) h
def L_spec_fixed:List Nat:=[0,1,2,3,4,5,6,7,9,16,28,29]
def r_spec_fixed:List ResultVar:=[.tmp 0,.tmp 1]
noncomputable def c_spec_fixed:Code:=(Go.Proofs.Tryz.f25.body).getD .skip
theorem b_spec_fixed:Go.Proofs.Tryz.f25.body=some c_spec_fixed:=by kernel_rfl
noncomputable def c_spec_fixed_rrr:Code:=(rgt (rgt (rgt c_spec_fixed)))
noncomputable def c_spec_fixed_rrrr:Code:=(rgt c_spec_fixed_rrr)
noncomputable def c_spec_fixed_rrlrl:Code:=(lft (rgt (lft (rgt (rgt c_spec_fixed)))))
noncomputable def c_spec_fixed_rrlrll:Code:=(lft c_spec_fixed_rrlrl)
noncomputable def c_spec_fixed_rrrlrl:Code:=(lft (rgt (lft c_spec_fixed_rrr)))
noncomputable def c_spec_fixed_rrrlrll:Code:=(lft c_spec_fixed_rrrlrl)
noncomputable def c_spec_fixed_rrlrllrrr:Code:=(rgt (rgt (rgt c_spec_fixed_rrlrll)))
noncomputable def c_spec_fixed_rrlrllrrllrrr:Code:=(rgt (rgt (rgt (lft (lft (rgt (rgt c_spec_fixed_rrlrll)))))))
theorem q_spec_fixed_rrlrl:c_spec_fixed_rrlrl=.loop c_spec_fixed_rrlrll:=by kernel_rfl
theorem q_spec_fixed_rrrlrl:c_spec_fixed_rrrlrl=.loop c_spec_fixed_rrrlrll:=by kernel_rfl
theorem e_spec_fixed  (m:Mem) (R:Value→Mem→Prop)
  (h:WPS PP 36 c_spec_fixed_rrlrl (((retK PP r_spec_fixed R).withN fun r m=>WPS PP 36 c_spec_fixed_rrr (retK PP r_spec_fixed R) r m).withX 0) [(0,.slice none 0 0),(1,.slice none 0 0),(2,.slice none 0 0),(3,.slice none 0 0),(6,.int .i64 0)] m  ):
  CallM PP f_spec_fixed #[] m R:=
 callM_enter ffOk mixedOk 36 L_spec_fixed Tryz.func25 b_spec_fixed Tryz.ntmps25 (by simp) (Eq.mpr (by kernel_rfl) h)
theorem p_spec_fixed_rrr (a1:Option Addr) (l2:Nat) (k3:Nat) (a4:Option Addr) (l5:Nat) (k6:Nat) (m:Mem) (K:Kont)
  (h:WPS PP 36 c_spec_fixed_rrrlrl ((K.withN fun r m=>WPS PP 36 c_spec_fixed_rrrr K r m).withX 3) [(2,.slice a1 l2 k3),(3,.slice a4 l5 k6),(28,.int .i64 0)] m):
  wpc PP FF 36 L_spec_fixed c_spec_fixed_rrr K [(2,.slice a1 l2 k3),(3,.slice a4 l5 k6)] m:=
 Eq.mpr (by kernel_rfl) h
theorem p_spec_fixed_rrlrll (a1:Option Addr) (l2:Nat) (k3:Nat) (a4:Option Addr) (l5:Nat) (k6:Nat) (x7:Int) (m:Mem) (K:Kont)
  (h:ifB (decide (x7 < 288)) (ifB (decide (x7 ≥ 144)) (ifB (decide (x7≤255)) (WPS PP 36 c_spec_fixed_rrlrllrrllrrr ((K.withN fun r m=>wpc PP FF 36 L_spec_fixed c_spec_fixed_rrlrllrrr K r m).withX 1) [(2,.slice a1 l2 k3),(3,.slice a4 l5 k6),(4,.int .i64 x7),(5,.int .i64 9),(6,.int .i64 x7)] m) (ifB (decide (x7 ≥ 256)) (ifB (decide (x7≤279)) (WPS PP 36 c_spec_fixed_rrlrllrrllrrr ((K.withN fun r m=>wpc PP FF 36 L_spec_fixed c_spec_fixed_rrlrllrrr K r m).withX 1) [(2,.slice a1 l2 k3),(3,.slice a4 l5 k6),(4,.int .i64 x7),(5,.int .i64 7),(6,.int .i64 x7)] m) (WPS PP 36 c_spec_fixed_rrlrllrrllrrr ((K.withN fun r m=>wpc PP FF 36 L_spec_fixed c_spec_fixed_rrlrllrrr K r m).withX 1) [(2,.slice a1 l2 k3),(3,.slice a4 l5 k6),(4,.int .i64 x7),(5,.int .i64 8),(6,.int .i64 x7)] m)) (WPS PP 36 c_spec_fixed_rrlrllrrllrrr ((K.withN fun r m=>wpc PP FF 36 L_spec_fixed c_spec_fixed_rrlrllrrr K r m).withX 1) [(2,.slice a1 l2 k3),(3,.slice a4 l5 k6),(4,.int .i64 x7),(5,.int .i64 8),(6,.int .i64 x7)] m))) (ifB (decide (x7 ≥ 256)) (ifB (decide (x7≤279)) (WPS PP 36 c_spec_fixed_rrlrllrrllrrr ((K.withN fun r m=>wpc PP FF 36 L_spec_fixed c_spec_fixed_rrlrllrrr K r m).withX 1) [(2,.slice a1 l2 k3),(3,.slice a4 l5 k6),(4,.int .i64 x7),(5,.int .i64 7),(6,.int .i64 x7)] m) (WPS PP 36 c_spec_fixed_rrlrllrrllrrr ((K.withN fun r m=>wpc PP FF 36 L_spec_fixed c_spec_fixed_rrlrllrrr K r m).withX 1) [(2,.slice a1 l2 k3),(3,.slice a4 l5 k6),(4,.int .i64 x7),(5,.int .i64 8),(6,.int .i64 x7)] m)) (WPS PP 36 c_spec_fixed_rrlrllrrllrrr ((K.withN fun r m=>wpc PP FF 36 L_spec_fixed c_spec_fixed_rrlrllrrr K r m).withX 1) [(2,.slice a1 l2 k3),(3,.slice a4 l5 k6),(4,.int .i64 x7),(5,.int .i64 8),(6,.int .i64 x7)] m))) (K.kx 0 [(2,.slice a1 l2 k3),(3,.slice a4 l5 k6),(6,.int .i64 x7)] m)):
  wpc PP FF 36 L_spec_fixed c_spec_fixed_rrlrll K [(2,.slice a1 l2 k3),(3,.slice a4 l5 k6),(6,.int .i64 x7)] m:=
 Eq.mpr (by kernel_rfl) h
theorem p_spec_fixed_rrrlrll (a1:Option Addr) (l2:Nat) (k3:Nat) (a4:Option Addr) (l5:Nat) (k6:Nat) (x7:Int) (m:Mem) (K:Kont)
  (h:ifB (decide (x7 < 32)) (SemW PP (sv (Instr.buildSlice t_s_int 1 #[(0,.int .i64 5)])) m (NextW PP fun v11 m12=>∃ a8 l9 k10,v11=.slice a8 l9 k10∧SemW PP (builtin .append #[t_s_int,t_s_int] t_s_int #[false,false] #[.slice a4 l5 k6,.slice a8 l9 k10]) m12 (NextW PP fun v16 m17=>∃ a13 l14 k15,v16=.slice a13 l14 k15∧K.kn [(2,.slice a1 l2 k3),(3,.slice a13 l14 k15),(28,.int .i64 (IntKind.wrap .i64 (x7+1)))] m17))) (K.kx 3 [(2,.slice a1 l2 k3),(3,.slice a4 l5 k6),(28,.int .i64 x7)] m)):
  wpc PP FF 36 L_spec_fixed c_spec_fixed_rrrlrll K [(2,.slice a1 l2 k3),(3,.slice a4 l5 k6),(28,.int .i64 x7)] m:=
 Eq.mpr (by kernel_rfl) h
theorem p_spec_fixed_rrrr (a1:Option Addr) (l2:Nat) (k3:Nat) (a4:Option Addr) (l5:Nat) (k6:Nat) (m:Mem) (K:Kont)
  (h:K.kr [(0,.slice a1 l2 k3),(1,.slice a4 l5 k6),(2,.slice a1 l2 k3),(3,.slice a4 l5 k6)] m):
  wpc PP FF 36 L_spec_fixed c_spec_fixed_rrrr K [(2,.slice a1 l2 k3),(3,.slice a4 l5 k6)] m:=
 Eq.mpr (by kernel_rfl) h
theorem p_spec_fixed_rrlrllrrr (a1:Option Addr) (l2:Nat) (k3:Nat) (a4:Option Addr) (l5:Nat) (k6:Nat) (x7:Int) (m:Mem) (K:Kont)
  (h:K.kn [(2,.slice a1 l2 k3),(3,.slice a4 l5 k6),(6,.int .i64 (IntKind.wrap .i64 (x7+1)))] m):
  wpc PP FF 36 L_spec_fixed c_spec_fixed_rrlrllrrr K [(2,.slice a1 l2 k3),(3,.slice a4 l5 k6),(6,.int .i64 x7)] m:=
 Eq.mpr (by kernel_rfl) h
theorem p_spec_fixed_rrlrllrrllrrr (a1:Option Addr) (l2:Nat) (k3:Nat) (a4:Option Addr) (l5:Nat) (k6:Nat) (x7:Int) (x8:Int) (m:Mem) (K:Kont)
  (h:SemW PP (sv (Instr.buildSlice t_s_int 1 #[(0,.int .i64 x7)])) m (NextW PP fun v12 m13=>∃ a9 l10 k11,v12=.slice a9 l10 k11∧SemW PP (builtin .append #[t_s_int,t_s_int] t_s_int #[false,false] #[.slice a1 l2 k3,.slice a9 l10 k11]) m13 (NextW PP fun v17 m18=>∃ a14 l15 k16,v17=.slice a14 l15 k16∧K.kn [(2,.slice a14 l15 k16),(3,.slice a4 l5 k6),(5,.int .i64 x7),(6,.int .i64 x8)] m18))):
  wpc PP FF 36 L_spec_fixed c_spec_fixed_rrlrllrrllrrr K [(2,.slice a1 l2 k3),(3,.slice a4 l5 k6),(5,.int .i64 x7),(6,.int .i64 x8)] m:=
 Eq.mpr (by kernel_rfl) h
def L_state_dynamic:List Nat:=[0,2,3,4,5,6,7,8,9,10,29,33,34,35,47,59,69,87]
def r_state_dynamic:List ResultVar:=[]
noncomputable def c_state_dynamic:Code:=(Go.Proofs.Tryz.f26.body).getD .skip
theorem b_state_dynamic:Go.Proofs.Tryz.f26.body=some c_state_dynamic:=by kernel_rfl
noncomputable def c_state_dynamic_rrrr:Code:=(rgt (rgt (rgt (rgt c_state_dynamic))))
noncomputable def c_state_dynamic_rrrrrr:Code:=(rgt (rgt c_state_dynamic_rrrr))
noncomputable def c_state_dynamic_rrrrrrr:Code:=(rgt c_state_dynamic_rrrrrr)
noncomputable def c_state_dynamic_rrrrrlrl:Code:=(lft (rgt (lft (rgt c_state_dynamic_rrrr))))
noncomputable def c_state_dynamic_rrrrrlrll:Code:=(lft c_state_dynamic_rrrrrlrl)
noncomputable def c_state_dynamic_rrrrrrrrrrr:Code:=(rgt (rgt (rgt (rgt c_state_dynamic_rrrrrrr))))
noncomputable def c_state_dynamic_rrrrrrrrrrrrr:Code:=(rgt (rgt c_state_dynamic_rrrrrrrrrrr))
theorem q_state_dynamic_rrrrrlrl:c_state_dynamic_rrrrrlrl=.loop c_state_dynamic_rrrrrlrll:=by kernel_rfl
theorem e_state_dynamic (s:Nat) (m:Mem) (R:Value→Mem→Prop)
  (h:CallM PP f_state_bits #[.pointer (some ⟨s,0,none⟩),.int .i64 5] m fun v2 m3=>∃ x1,v2=.int .i64 x1∧CallM PP f_state_bits #[.pointer (some ⟨s,0,none⟩),.int .i64 5] m3 fun v5 m6=>∃ x4,v5=.int .i64 x4∧CallM PP f_state_bits #[.pointer (some ⟨s,0,none⟩),.int .i64 4] m6 fun v8 m9=>∃ x7,v8=.int .i64 x7∧CallM PP f_state_on #[.pointer (some ⟨s,0,none⟩)] m9 fun v11 m12=>∃ b10,v11=.bool b10∧ifB b10 (ifB (decide ((IntKind.wrap .i64 (257+x1)) > 286)) (CallM PP f_state_stop #[.pointer (some ⟨s,0,none⟩),.int .i64 0] m12 fun v13 m14=>v13=.tuple #[]∧WPS PP 95 c_state_dynamic_rrrr (retK PP r_state_dynamic R) [(0,.pointer (some ⟨s,0,none⟩)),(2,.int .i64 (IntKind.wrap .i64 (257+x1))),(3,.int .i64 (IntKind.wrap .i64 (1+x4))),(4,.int .i64 (IntKind.wrap .i64 (4+x7)))] m14) (ifB (decide ((IntKind.wrap .i64 (1+x4)) > 30)) (CallM PP f_state_stop #[.pointer (some ⟨s,0,none⟩),.int .i64 0] m12 fun v15 m16=>v15=.tuple #[]∧WPS PP 95 c_state_dynamic_rrrr (retK PP r_state_dynamic R) [(0,.pointer (some ⟨s,0,none⟩)),(2,.int .i64 (IntKind.wrap .i64 (257+x1))),(3,.int .i64 (IntKind.wrap .i64 (1+x4))),(4,.int .i64 (IntKind.wrap .i64 (4+x7)))] m16) (WPS PP 95 c_state_dynamic_rrrr (retK PP r_state_dynamic R) [(0,.pointer (some ⟨s,0,none⟩)),(2,.int .i64 (IntKind.wrap .i64 (257+x1))),(3,.int .i64 (IntKind.wrap .i64 (1+x4))),(4,.int .i64 (IntKind.wrap .i64 (4+x7)))] m12))) (WPS PP 95 c_state_dynamic_rrrr (retK PP r_state_dynamic R) [(0,.pointer (some ⟨s,0,none⟩)),(2,.int .i64 (IntKind.wrap .i64 (257+x1))),(3,.int .i64 (IntKind.wrap .i64 (1+x4))),(4,.int .i64 (IntKind.wrap .i64 (4+x7)))] m12)  ):
  CallM PP f_state_dynamic #[.pointer (some ⟨s,0,none⟩)] m R:=
 callM_enter ffOk mixedOk 95 L_state_dynamic Tryz.func26 b_state_dynamic Tryz.ntmps26 (by simp) (Eq.mpr (by kernel_rfl) h)
theorem p_state_dynamic_rrrr (s:Nat) (x1:Int) (x2:Int) (x3:Int) (m:Mem) (K:Kont)
  (h:SemW PP (sv (Instr.makeSlice t_s_int (.int .i64 19) (.int .i64 19))) m (NextW PP fun v7 m8=>∃ a4 l5 k6,v7=.slice a4 l5 k6∧WPS PP 95 c_state_dynamic_rrrrrlrl ((K.withN fun r m=>WPS PP 95 c_state_dynamic_rrrrrr K r m).withX 0) [(0,.pointer (some ⟨s,0,none⟩)),(2,.int .i64 x1),(3,.int .i64 x2),(4,.int .i64 x3),(5,.slice a4 l5 k6),(33,.int .i64 x3),(34,.int .i64 0)] m8)):
  wpc PP FF 95 L_state_dynamic c_state_dynamic_rrrr K [(0,.pointer (some ⟨s,0,none⟩)),(2,.int .i64 x1),(3,.int .i64 x2),(4,.int .i64 x3)] m:=
 Eq.mpr (by kernel_rfl) h
theorem p_state_dynamic_rrrrrlrll (s:Nat) (x1:Int) (x2:Int) (a3:Option Addr) (l4:Nat) (k5:Nat) (x6:Int) (x7:Int) (m:Mem) (K:Kont)
  (h:ifB (decide (x7 < x6)) (CallM PP f_spec_Order #[] m fun v11 m12=>∃ a8 l9 k10,v11=.slice a8 l9 k10∧onSome a8 fun p13=>(0≤x7∧x7 < (l9:Int))∧∃ x14,cell? m12 (aplus p13 x7.toNat)=some (.int .i64 x14)∧CallM PP f_state_bits #[.pointer (some ⟨s,0,none⟩),.int .i64 3] m12 fun v16 m17=>∃ x15,v16=.int .i64 x15∧cell? m17 (aplus p13 x7.toNat)=some (.int .i64 x14)∧onSome a3 fun p18=>(0≤x14∧x14 < (l4:Int))∧StW m17 (aplus p18 x14.toNat) (.int .i64 x15) fun m19=>cell? m19 (aplus p13 x7.toNat)=some (.int .i64 x14)∧K.kn [(0,.pointer (some ⟨s,0,none⟩)),(2,.int .i64 x1),(3,.int .i64 x2),(5,.slice a3 l4 k5),(6,.int .i64 x7),(33,.int .i64 x6),(34,.int .i64 (IntKind.wrap .i64 (x7+1)))] m19) (K.kx 0 [(0,.pointer (some ⟨s,0,none⟩)),(2,.int .i64 x1),(3,.int .i64 x2),(5,.slice a3 l4 k5),(33,.int .i64 x6),(34,.int .i64 x7)] m)):
  wpc PP FF 95 L_state_dynamic c_state_dynamic_rrrrrlrll K [(0,.pointer (some ⟨s,0,none⟩)),(2,.int .i64 x1),(3,.int .i64 x2),(5,.slice a3 l4 k5),(33,.int .i64 x6),(34,.int .i64 x7)] m:=
 Eq.mpr (by kernel_rfl) h
theorem p_state_dynamic_rrrrrr (s:Nat) (x1:Int) (x2:Int) (a3:Option Addr) (l4:Nat) (k5:Nat) (m:Mem) (K:Kont)
  (h:CallM PP f_state_on #[.pointer (some ⟨s,0,none⟩)] m fun v7 m8=>∃ b6,v7=.bool b6∧ifB b6 (CallM PP f_state_whole #[.pointer (some ⟨s,0,none⟩),.slice a3 l4 k5] m8 fun v9 m10=>v9=.tuple #[]∧WPS PP 95 c_state_dynamic_rrrrrrr K [(0,.pointer (some ⟨s,0,none⟩)),(2,.int .i64 x1),(3,.int .i64 x2),(5,.slice a3 l4 k5)] m10) (WPS PP 95 c_state_dynamic_rrrrrrr K [(0,.pointer (some ⟨s,0,none⟩)),(2,.int .i64 x1),(3,.int .i64 x2),(5,.slice a3 l4 k5)] m8)):
  wpc PP FF 95 L_state_dynamic c_state_dynamic_rrrrrr K [(0,.pointer (some ⟨s,0,none⟩)),(2,.int .i64 x1),(3,.int .i64 x2),(5,.slice a3 l4 k5)] m:=
 Eq.mpr (by kernel_rfl) h
theorem p_state_dynamic_rrrrrrr (s:Nat) (x1:Int) (x2:Int) (a3:Option Addr) (l4:Nat) (k5:Nat) (m:Mem) (K:Kont)
  (h:CallM PP f_state_told #[.pointer (some ⟨s,0,none⟩),.int .i64 (IntKind.wrap .i64 (x1+x2)),.slice a3 l4 k5] m fun v9 m10=>∃ a6 l7 k8,v9=.slice a6 l7 k8∧CallM PP f_state_on #[.pointer (some ⟨s,0,none⟩)] m10 fun v12 m13=>∃ b11,v12=.bool b11∧ifB (!b11) (K.kr [(0,.pointer (some ⟨s,0,none⟩)),(2,.int .i64 x1),(3,.int .i64 x2),(5,.slice a3 l4 k5),(7,.slice a6 l7 k8)] m13) (l7≤k8∧(0≤x1∧x1≤(k8:Int))∧l7≤k8∧(0≤x1∧x1≤(l7:Int))∧onSome a6 fun p14=>(0≤(256:Int)∧(256:Int) < ((x1.toNat:Nat):Int))∧∃ x15,cell? m13 (aplus p14 256)=some (.int .i64 x15)∧ifB (x15 == 0) (CallM PP f_state_stop #[.pointer (some ⟨s,0,none⟩),.int .i64 0] m13 fun v16 m17=>v16=.tuple #[]∧WPS PP 95 c_state_dynamic_rrrrrrrrrrr K [(0,.pointer (some ⟨s,0,none⟩)),(2,.int .i64 x1),(3,.int .i64 x2),(5,.slice a3 l4 k5),(7,.slice a6 l7 k8),(8,.slice a6 x1.toNat k8),(9,.slice (subA a6 x1.toNat 1 k8) (l7 - x1.toNat) (k8 - x1.toNat))] m17) (WPS PP 95 c_state_dynamic_rrrrrrrrrrr K [(0,.pointer (some ⟨s,0,none⟩)),(2,.int .i64 x1),(3,.int .i64 x2),(5,.slice a3 l4 k5),(7,.slice a6 l7 k8),(8,.slice a6 x1.toNat k8),(9,.slice (subA a6 x1.toNat 1 k8) (l7 - x1.toNat) (k8 - x1.toNat))] m13))):
  wpc PP FF 95 L_state_dynamic c_state_dynamic_rrrrrrr K [(0,.pointer (some ⟨s,0,none⟩)),(2,.int .i64 x1),(3,.int .i64 x2),(5,.slice a3 l4 k5)] m:=
 Eq.mpr (by kernel_rfl) h
theorem p_state_dynamic_rrrrrrrrrrr (s:Nat) (a1:Option Addr) (l2:Nat) (k3:Nat) (a4:Option Addr) (l5:Nat) (k6:Nat) (m:Mem) (K:Kont)
  (h:CallM PP f_state_whole #[.pointer (some ⟨s,0,none⟩),.slice a1 l2 k3] m fun v7 m8=>v7=.tuple #[]∧CallM PP f_spec_used #[.slice a4 l5 k6] m8 fun v10 m11=>∃ x9,v10=.int .i64 x9∧ifB (decide (x9 > 1)) (CallM PP f_state_whole #[.pointer (some ⟨s,0,none⟩),.slice a4 l5 k6] m11 fun v12 m13=>v12=.tuple #[]∧WPS PP 95 c_state_dynamic_rrrrrrrrrrrrr K [(0,.pointer (some ⟨s,0,none⟩)),(8,.slice a1 l2 k3),(9,.slice a4 l5 k6),(10,.int .i64 x9)] m13) (ifB (x9 == 1) (CallM PP f_spec_Room #[.slice a4 l5 k6] m11 fun v15 m16=>∃ x14,v15=.int .i64 x14∧ifB (x14 != 16384) (CallM PP f_state_whole #[.pointer (some ⟨s,0,none⟩),.slice a4 l5 k6] m16 fun v17 m18=>v17=.tuple #[]∧WPS PP 95 c_state_dynamic_rrrrrrrrrrrrr K [(0,.pointer (some ⟨s,0,none⟩)),(8,.slice a1 l2 k3),(9,.slice a4 l5 k6),(10,.int .i64 x9)] m18) (WPS PP 95 c_state_dynamic_rrrrrrrrrrrrr K [(0,.pointer (some ⟨s,0,none⟩)),(8,.slice a1 l2 k3),(9,.slice a4 l5 k6),(10,.int .i64 x9)] m16)) (WPS PP 95 c_state_dynamic_rrrrrrrrrrrrr K [(0,.pointer (some ⟨s,0,none⟩)),(8,.slice a1 l2 k3),(9,.slice a4 l5 k6),(10,.int .i64 x9)] m11))):
  wpc PP FF 95 L_state_dynamic c_state_dynamic_rrrrrrrrrrr K [(0,.pointer (some ⟨s,0,none⟩)),(8,.slice a1 l2 k3),(9,.slice a4 l5 k6)] m:=
 Eq.mpr (by kernel_rfl) h
theorem p_state_dynamic_rrrrrrrrrrrrr (s:Nat) (a1:Option Addr) (l2:Nat) (k3:Nat) (a4:Option Addr) (l5:Nat) (k6:Nat) (m:Mem) (K:Kont)
  (h:CallM PP f_state_coded #[.pointer (some ⟨s,0,none⟩),.slice a1 l2 k3,.slice a4 l5 k6] m fun v7 m8=>v7=.tuple #[]∧K.kn [(0,.pointer (some ⟨s,0,none⟩)),(8,.slice a1 l2 k3),(9,.slice a4 l5 k6)] m8):
  wpc PP FF 95 L_state_dynamic c_state_dynamic_rrrrrrrrrrrrr K [(0,.pointer (some ⟨s,0,none⟩)),(8,.slice a1 l2 k3),(9,.slice a4 l5 k6)] m:=
 Eq.mpr (by kernel_rfl) h
def L_decompressor_moreBits:List Nat:=[0,2,3,4,14]
def r_decompressor_moreBits:List ResultVar:=[.tmp 2]
noncomputable def c_decompressor_moreBits:Code:=(Go.Proofs.Tryz.f29.body).getD .skip
theorem b_decompressor_moreBits:Go.Proofs.Tryz.f29.body=some c_decompressor_moreBits:=by kernel_rfl
theorem e_decompressor_moreBits (f:Nat) (m:Mem) (R:Value→Mem→Prop)
  (h:∃ v1,cell? m ⟨f,0,none⟩=some (v1)∧SemW PP (callMethod v1 "ReadByte" #[]) m (NextW PP fun v4 m5=>∃ x2 v3,v4=.tuple #[.int .u8 x2,v3]∧isIfc v3=true∧ifB (!(isNil v3)) (CallM PP f_inflate_noEOF #[v3] m5 fun v7 m8=>∃ v6,v7=v6∧R (v6) m8) (∃ x9,cell? m5 ⟨f,2,none⟩=some (.int .i64 x9)∧StW m5 ⟨f,2,none⟩ (.int .i64 (IntKind.wrap .i64 (x9+1))) fun m10=>∃ x11,cell? m10 ⟨f,3,none⟩=some (.int .u32 x11)∧∃ x12,cell? m10 ⟨f,4,none⟩=some (.int .u64 x12)∧0≤x12∧IntKind.u32=IntKind.u32∧StW m10 ⟨f,3,none⟩ (.int .u32 (bitsOp .or .u32 x11 (shlOp .u32 (IntKind.wrap .u32 x2) x12))) fun m13=>∃ x14,cell? m13 ⟨f,4,none⟩=some (.int .u64 x14)∧StW m13 ⟨f,4,none⟩ (.int .u64 (IntKind.wrap .u64 (x14+8))) fun m15=>R (.nilIface) m15))  ):
  CallM PP f_decompressor_moreBits #[.pointer (some ⟨f,0,none⟩)] m R:=
 callM_enter ffOk mixedOk 45 L_decompressor_moreBits Tryz.func29 b_decompressor_moreBits Tryz.ntmps29 (by simp) (Eq.mpr (by kernel_rfl) h)
def L_decompressor_dataBlock:List Nat:=[0,2,3,4,5,33,72,82]
def r_decompressor_dataBlock:List ResultVar:=[]
noncomputable def c_decompressor_dataBlock:Code:=(Go.Proofs.Tryz.f30.body).getD .skip
theorem b_decompressor_dataBlock:Go.Proofs.Tryz.f30.body=some c_decompressor_dataBlock:=by kernel_rfl
theorem e_decompressor_dataBlock (f:Nat) (m:Mem) (R:Value→Mem→Prop)
  (h:StW m ⟨f,4,none⟩ (.int .u64 0) fun m1=>StW m1 ⟨f,3,none⟩ (.int .u32 0) fun m2=>∃ v3,cell? m2 ⟨f,0,none⟩=some (v3)∧(0≤(4:Int)∧(4:Int)≤(4:Int))∧(0≤(0:Int)∧(0:Int)≤4)∧CallM PP f_io_ReadFull #[v3,.slice (some ⟨f,1041,none⟩) 4 4] m2 fun v6 m7=>∃ x4 v5,v6=.tuple #[.int .i64 x4,v5]∧∃ x8,cell? m7 ⟨f,2,none⟩=some (.int .i64 x8)∧StW m7 ⟨f,2,none⟩ (.int .i64 (IntKind.wrap .i64 (x8+x4))) fun m9=>isIfc v5=true∧ifB (!(isNil v5)) (CallM PP f_inflate_noEOF #[v5] m9 fun v11 m12=>∃ v10,v11=v10∧StW m12 ⟨f,1048,none⟩ v10 fun m13=>R (.tuple #[]) m13) ((0≤(0:Int)∧(0:Int) < ((4:Nat):Int))∧∃ x14,cell? m9 ⟨f,1041,none⟩=some (.int .u8 x14)∧(0≤(1:Int)∧(1:Int) < ((4:Nat):Int))∧∃ x15,cell? m9 ⟨f,1042,none⟩=some (.int .u8 x15)∧0≤(8:Int)∧IntKind.i64=IntKind.i64∧(0≤(2:Int)∧(2:Int) < ((4:Nat):Int))∧∃ x16,cell? m9 ⟨f,1043,none⟩=some (.int .u8 x16)∧(0≤(3:Int)∧(3:Int) < ((4:Nat):Int))∧∃ x17,cell? m9 ⟨f,1044,none⟩=some (.int .u8 x17)∧0≤(8:Int)∧IntKind.i64=IntKind.i64∧ifB ((IntKind.wrap .u16 (bitsOp .or .i64 (IntKind.wrap .i64 x16) (shlOp .i64 (IntKind.wrap .i64 x17) 8))) != IntKind.wrap .u16 (bitsOp .xor .i64 (-1) (bitsOp .or .i64 (IntKind.wrap .i64 x14) (shlOp .i64 (IntKind.wrap .i64 x15) 8)))) (∃ x18,cell? m9 ⟨f,2,none⟩=some (.int .i64 x18)∧StW m9 ⟨f,1048,none⟩ (.iface t_flate_CorruptInputError (.int .i64 x18)) fun m19=>R (.tuple #[]) m19) (ifB ((bitsOp .or .i64 (IntKind.wrap .i64 x14) (shlOp .i64 (IntKind.wrap .i64 x15) 8)) == 0) (CallM PP f_dictDecoder_readFlush #[.pointer (some ⟨f,1037,none⟩)] m9 fun v23 m24=>∃ a20 l21 k22,v23=.slice a20 l21 k22∧StW m24 ⟨f,1049,none⟩ (.slice a20 l21 k22) fun m25=>CallM PP f_decompressor_finishBlock #[.pointer (some ⟨f,0,none⟩)] m25 fun v26 m27=>v26=.tuple #[]∧R (.tuple #[]) m27) (StW m9 ⟨f,1052,none⟩ (.int .i64 (bitsOp .or .i64 (IntKind.wrap .i64 x14) (shlOp .i64 (IntKind.wrap .i64 x15) 8))) fun m28=>CallM PP f_decompressor_copyData #[.pointer (some ⟨f,0,none⟩)] m28 fun v29 m30=>v29=.tuple #[]∧R (.tuple #[]) m30)))  ):
  CallM PP f_decompressor_dataBlock #[.pointer (some ⟨f,0,none⟩)] m R:=
 callM_enter ffOk mixedOk 98 L_decompressor_dataBlock Tryz.func30 b_decompressor_dataBlock Tryz.ntmps30 (by simp) (Eq.mpr (by kernel_rfl) h)
def L_inflate_fixedHuffman:List Nat:=[0,1,2,3,4,5,6,8,14,20,26]
def r_inflate_fixedHuffman:List ResultVar:=[.tmp 0]
noncomputable def c_inflate_fixedHuffman:Code:=(Go.Proofs.Tryz.f31.body).getD .skip
theorem b_inflate_fixedHuffman:Go.Proofs.Tryz.f31.body=some c_inflate_fixedHuffman:=by kernel_rfl
noncomputable def c_inflate_fixedHuffman_rrr:Code:=(rgt (rgt (rgt c_inflate_fixedHuffman)))
noncomputable def c_inflate_fixedHuffman_rrrr:Code:=(rgt c_inflate_fixedHuffman_rrr)
noncomputable def c_inflate_fixedHuffman_rrlrl:Code:=(lft (rgt (lft (rgt (rgt c_inflate_fixedHuffman)))))
noncomputable def c_inflate_fixedHuffman_rrrrr:Code:=(rgt c_inflate_fixedHuffman_rrrr)
noncomputable def c_inflate_fixedHuffman_rrlrll:Code:=(lft c_inflate_fixedHuffman_rrlrl)
noncomputable def c_inflate_fixedHuffman_rrrlrl:Code:=(lft (rgt (lft c_inflate_fixedHuffman_rrr)))
noncomputable def c_inflate_fixedHuffman_rrrrrr:Code:=(rgt c_inflate_fixedHuffman_rrrrr)
noncomputable def c_inflate_fixedHuffman_rrrlrll:Code:=(lft c_inflate_fixedHuffman_rrrlrl)
noncomputable def c_inflate_fixedHuffman_rrrrlrl:Code:=(lft (rgt (lft c_inflate_fixedHuffman_rrrr)))
noncomputable def c_inflate_fixedHuffman_rrrrlrll:Code:=(lft c_inflate_fixedHuffman_rrrrlrl)
noncomputable def c_inflate_fixedHuffman_rrrrrlrl:Code:=(lft (rgt (lft c_inflate_fixedHuffman_rrrrr)))
noncomputable def c_inflate_fixedHuffman_rrrrrlrll:Code:=(lft c_inflate_fixedHuffman_rrrrrlrl)
theorem q_inflate_fixedHuffman_rrlrl:c_inflate_fixedHuffman_rrlrl=.loop c_inflate_fixedHuffman_rrlrll:=by kernel_rfl
theorem q_inflate_fixedHuffman_rrrlrl:c_inflate_fixedHuffman_rrrlrl=.loop c_inflate_fixedHuffman_rrrlrll:=by kernel_rfl
theorem q_inflate_fixedHuffman_rrrrlrl:c_inflate_fixedHuffman_rrrrlrl=.loop c_inflate_fixedHuffman_rrrrlrll:=by kernel_rfl
theorem q_inflate_fixedHuffman_rrrrrlrl:c_inflate_fixedHuffman_rrrrrlrl=.loop c_inflate_fixedHuffman_rrrrrlrll:=by kernel_rfl
theorem e_inflate_fixedHuffman  (m:Mem) (R:Value→Mem→Prop)
  (h:AllocW PP t_288_int m fun n1 m2=>WPS PP 36 c_inflate_fixedHuffman_rrlrl (((retK PP r_inflate_fixedHuffman R).withN fun r m=>WPS PP 36 c_inflate_fixedHuffman_rrr (retK PP r_inflate_fixedHuffman R) r m).withX 0) [(0,.pointer none),(1,.pointer (some ⟨n1,0,none⟩)),(2,.int .i64 0)] m2  ):
  CallM PP f_inflate_fixedHuffman #[] m R:=
 callM_enter ffOk mixedOk 36 L_inflate_fixedHuffman Tryz.func31 b_inflate_fixedHuffman Tryz.ntmps31 (by simp) (Eq.mpr (by kernel_rfl) h)
def k_inflate_fixedHuffman_rrr:List Nat:=[1]
theorem p_inflate_fixedHuffman_rrr (n1:Nat) (m:Mem) (K:Kont)
  (h:WPS PP 36 c_inflate_fixedHuffman_rrrlrl ((K.withN fun r m=>WPS PP 36 c_inflate_fixedHuffman_rrrr K r m).withX 2) [(1,.pointer (some ⟨n1,0,none⟩)),(3,.int .i64 144)] m):
  wpc PP FF 36 L_inflate_fixedHuffman c_inflate_fixedHuffman_rrr K [(1,.pointer (some ⟨n1,0,none⟩))] m:=
 Eq.mpr (by kernel_rfl) h
theorem p_inflate_fixedHuffman_rrlrll (n1:Nat) (x2:Int) (m:Mem) (K:Kont)
  (h:ifB (decide (x2 < 144)) ((0≤x2∧x2 < ((288:Nat):Int))∧StW m ⟨n1,0+x2.toNat,none⟩ (.int .i64 8) fun m3=>K.kn [(1,.pointer (some ⟨n1,0,none⟩)),(2,.int .i64 (IntKind.wrap .i64 (x2+1)))] m3) (K.kx 0 [(1,.pointer (some ⟨n1,0,none⟩)),(2,.int .i64 x2)] m)):
  wpc PP FF 36 L_inflate_fixedHuffman c_inflate_fixedHuffman_rrlrll K [(1,.pointer (some ⟨n1,0,none⟩)),(2,.int .i64 x2)] m:=
 Eq.mpr (by kernel_rfl) h
theorem p_inflate_fixedHuffman_rrrlrll (n1:Nat) (x2:Int) (m:Mem) (K:Kont)
  (h:ifB (decide (x2 < 256)) ((0≤x2∧x2 < ((288:Nat):Int))∧StW m ⟨n1,0+x2.toNat,none⟩ (.int .i64 9) fun m3=>K.kn [(1,.pointer (some ⟨n1,0,none⟩)),(3,.int .i64 (IntKind.wrap .i64 (x2+1)))] m3) (K.kx 2 [(1,.pointer (some ⟨n1,0,none⟩)),(3,.int .i64 x2)] m)):
  wpc PP FF 36 L_inflate_fixedHuffman c_inflate_fixedHuffman_rrrlrll K [(1,.pointer (some ⟨n1,0,none⟩)),(3,.int .i64 x2)] m:=
 Eq.mpr (by kernel_rfl) h
theorem p_inflate_fixedHuffman_rrrrlrll (n1:Nat) (x2:Int) (m:Mem) (K:Kont)
  (h:ifB (decide (x2 < 280)) ((0≤x2∧x2 < ((288:Nat):Int))∧StW m ⟨n1,0+x2.toNat,none⟩ (.int .i64 7) fun m3=>K.kn [(1,.pointer (some ⟨n1,0,none⟩)),(4,.int .i64 (IntKind.wrap .i64 (x2+1)))] m3) (K.kx 4 [(1,.pointer (some ⟨n1,0,none⟩)),(4,.int .i64 x2)] m)):
  wpc PP FF 36 L_inflate_fixedHuffman c_inflate_fixedHuffman_rrrrlrll K [(1,.pointer (some ⟨n1,0,none⟩)),(4,.int .i64 x2)] m:=
 Eq.mpr (by kernel_rfl) h
theorem p_inflate_fixedHuffman_rrrrrlrll (n1:Nat) (x2:Int) (m:Mem) (K:Kont)
  (h:ifB (decide (x2 < 288)) ((0≤x2∧x2 < ((288:Nat):Int))∧StW m ⟨n1,0+x2.toNat,none⟩ (.int .i64 8) fun m3=>K.kn [(1,.pointer (some ⟨n1,0,none⟩)),(5,.int .i64 (IntKind.wrap .i64 (x2+1)))] m3) (K.kx 6 [(1,.pointer (some ⟨n1,0,none⟩)),(5,.int .i64 x2)] m)):
  wpc PP FF 36 L_inflate_fixedHuffman c_inflate_fixedHuffman_rrrrrlrll K [(1,.pointer (some ⟨n1,0,none⟩)),(5,.int .i64 x2)] m:=
 Eq.mpr (by kernel_rfl) h
def k_inflate_fixedHuffman_rrrr:List Nat:=[1]
theorem p_inflate_fixedHuffman_rrrr (n1:Nat) (m:Mem) (K:Kont)
  (h:WPS PP 36 c_inflate_fixedHuffman_rrrrlrl ((K.withN fun r m=>WPS PP 36 c_inflate_fixedHuffman_rrrrr K r m).withX 4) [(1,.pointer (some ⟨n1,0,none⟩)),(4,.int .i64 256)] m):
  wpc PP FF 36 L_inflate_fixedHuffman c_inflate_fixedHuffman_rrrr K [(1,.pointer (some ⟨n1,0,none⟩))] m:=
 Eq.mpr (by kernel_rfl) h
def k_inflate_fixedHuffman_rrrrr:List Nat:=[1]
theorem p_inflate_fixedHuffman_rrrrr (n1:Nat) (m:Mem) (K:Kont)
  (h:WPS PP 36 c_inflate_fixedHuffman_rrrrrlrl ((K.withN fun r m=>WPS PP 36 c_inflate_fixedHuffman_rrrrrr K r m).withX 6) [(1,.pointer (some ⟨n1,0,none⟩)),(5,.int .i64 280)] m):
  wpc PP FF 36 L_inflate_fixedHuffman c_inflate_fixedHuffman_rrrrr K [(1,.pointer (some ⟨n1,0,none⟩))] m:=
 Eq.mpr (by kernel_rfl) h
def k_inflate_fixedHuffman_rrrrrr:List Nat:=[1]
theorem p_inflate_fixedHuffman_rrrrrr (n1:Nat) (m:Mem) (K:Kont)
  (h:AllocW PP t_flate_huffmanDecoder m fun n2 m3=>CallM PP f_huffmanDecoder_init #[.pointer (some ⟨n2,0,none⟩),.slice (some ⟨n1,0,none⟩) 288 288] m3 fun v5 m6=>∃ b4,v5=.bool b4∧K.kr [(0,.pointer (some ⟨n2,0,none⟩)),(1,.pointer (some ⟨n1,0,none⟩)),(6,.pointer (some ⟨n2,0,none⟩))] m6):
  wpc PP FF 36 L_inflate_fixedHuffman c_inflate_fixedHuffman_rrrrrr K [(1,.pointer (some ⟨n1,0,none⟩))] m:=
 Eq.mpr (by kernel_rfl) h
def L_decompressor_huffmanBlock:List Nat:=[0,2,3,4,5,6,7,8,9,13,14,16,28,41,54,68,73,78,84,90,96,102,108,112,118,122,158,163,167,205,218,223,239,243,286,316,348]
def r_decompressor_huffmanBlock:List ResultVar:=[]
noncomputable def c_decompressor_huffmanBlock:Code:=(Go.Proofs.Tryz.f32.body).getD .skip
theorem b_decompressor_huffmanBlock:Go.Proofs.Tryz.f32.body=some c_decompressor_huffmanBlock:=by kernel_rfl
noncomputable def c_decompressor_huffmanBlock_l:Code:=(lft c_decompressor_huffmanBlock)
noncomputable def c_decompressor_huffmanBlock_lrr:Code:=(rgt (rgt c_decompressor_huffmanBlock_l))
noncomputable def c_decompressor_huffmanBlock_lrrr:Code:=(rgt c_decompressor_huffmanBlock_lrr)
noncomputable def c_decompressor_huffmanBlock_lrrrr:Code:=(rgt c_decompressor_huffmanBlock_lrrr)
noncomputable def c_decompressor_huffmanBlock_lrrrrrr:Code:=(rgt (rgt c_decompressor_huffmanBlock_lrrrr))
noncomputable def c_decompressor_huffmanBlock_lrrlrrrrr:Code:=(rgt (rgt (rgt (rgt (rgt (lft c_decompressor_huffmanBlock_lrr))))))
noncomputable def c_decompressor_huffmanBlock_lrrlrrrrrr:Code:=(rgt c_decompressor_huffmanBlock_lrrlrrrrr)
noncomputable def c_decompressor_huffmanBlock_lrrlrrrrrrrr:Code:=(rgt (rgt c_decompressor_huffmanBlock_lrrlrrrrrr))
noncomputable def c_decompressor_huffmanBlock_lrrlrrrrrlrlr:Code:=(rgt (lft (rgt (lft c_decompressor_huffmanBlock_lrrlrrrrr))))
noncomputable def c_decompressor_huffmanBlock_lrrlrrrrrrrrr:Code:=(rgt c_decompressor_huffmanBlock_lrrlrrrrrrrr)
noncomputable def c_decompressor_huffmanBlock_lrrlrrrrrlrlll:Code:=(lft (lft (lft (rgt (lft c_decompressor_huffmanBlock_lrrlrrrrr)))))
noncomputable def c_decompressor_huffmanBlock_lrrlrrrrrlrllll:Code:=(lft c_decompressor_huffmanBlock_lrrlrrrrrlrlll)
noncomputable def c_decompressor_huffmanBlock_lrrlrrrrrrrlrlr:Code:=(rgt (lft (rgt (lft (rgt c_decompressor_huffmanBlock_lrrlrrrrrr)))))
noncomputable def c_decompressor_huffmanBlock_lrrlrrrrrrrlrlll:Code:=(lft (lft (lft (rgt (lft (rgt c_decompressor_huffmanBlock_lrrlrrrrrr))))))
noncomputable def c_decompressor_huffmanBlock_lrrlrrrrrrrlrllll:Code:=(lft c_decompressor_huffmanBlock_lrrlrrrrrrrlrlll)
noncomputable def c_decompressor_huffmanBlock_lrrlrrrrrrrrllrrrlrrr:Code:=(rgt (rgt (rgt (lft (rgt (rgt (rgt (lft (lft c_decompressor_huffmanBlock_lrrlrrrrrrrr)))))))))
noncomputable def c_decompressor_huffmanBlock_lrrlrrrrrrrrllrrrlrrll:Code:=(lft (lft (rgt (rgt (lft (rgt (rgt (rgt (lft (lft c_decompressor_huffmanBlock_lrrlrrrrrrrr))))))))))
noncomputable def c_decompressor_huffmanBlock_lrrlrrrrrrrrllrrrlrrlll:Code:=(lft c_decompressor_huffmanBlock_lrrlrrrrrrrrllrrrlrrll)
theorem q_decompressor_huffmanBlock_:c_decompressor_huffmanBlock=.scope c_decompressor_huffmanBlock_l:=by kernel_rfl
theorem l_decompressor_huffmanBlock__0:findLabel c_decompressor_huffmanBlock_l 0=some (.seq .skip c_decompressor_huffmanBlock_lrr):=by kernel_rfl
theorem l_decompressor_huffmanBlock__1:findLabel c_decompressor_huffmanBlock_l 1=some (.seq .skip c_decompressor_huffmanBlock_lrrrr):=by kernel_rfl
theorem q_decompressor_huffmanBlock_lrrlrrrrrlrlll:c_decompressor_huffmanBlock_lrrlrrrrrlrlll=.loop c_decompressor_huffmanBlock_lrrlrrrrrlrllll:=by kernel_rfl
theorem q_decompressor_huffmanBlock_lrrlrrrrrrrlrlll:c_decompressor_huffmanBlock_lrrlrrrrrrrlrlll=.loop c_decompressor_huffmanBlock_lrrlrrrrrrrlrllll:=by kernel_rfl
theorem q_decompressor_huffmanBlock_lrrlrrrrrrrrllrrrlrrll:c_decompressor_huffmanBlock_lrrlrrrrrrrrllrrrlrrll=.loop c_decompressor_huffmanBlock_lrrlrrrrrrrrllrrrlrrlll:=by kernel_rfl
theorem e_decompressor_huffmanBlock (f:Nat) (m:Mem) (R:Value→Mem→Prop)
  (h:WPS PP 362 c_decompressor_huffmanBlock (retK PP r_decompressor_huffmanBlock R) [(0,.pointer (some ⟨f,0,none⟩))] m  ):
  CallM PP f_decompressor_huffmanBlock #[.pointer (some ⟨f,0,none⟩)] m R:=
 callM_enter ffOk mixedOk 362 L_decompressor_huffmanBlock Tryz.func32 b_decompressor_huffmanBlock Tryz.ntmps32 (by simp) (Eq.mpr (by kernel_rfl) h)
theorem p_decompressor_huffmanBlock_l (f:Nat) (m:Mem) (K:Kont)
  (h:∃ x1,cell? m ⟨f,1046,none⟩=some (.int .i64 x1)∧ifB (x1 == 0) (K.kg 0 [(0,.pointer (some ⟨f,0,none⟩)),(13,.int .i64 x1)] m) (ifB (x1 == 1) (K.kg 1 [(0,.pointer (some ⟨f,0,none⟩)),(13,.int .i64 x1)] m) (∃ p2,cell? m ⟨f,1050,none⟩=some (.pointer p2)∧CallM PP f_decompressor_huffSym #[.pointer (some ⟨f,0,none⟩),.pointer p2] m fun v5 m6=>∃ x3 v4,v5=.tuple #[.int .i64 x3,v4]∧isIfc v4=true∧ifB (!(isNil v4)) (StW m6 ⟨f,1048,none⟩ v4 fun m7=>K.kr [(0,.pointer (some ⟨f,0,none⟩)),(2,.int .i64 x3),(3,v4),(13,.int .i64 x1)] m7) (ifB (decide (x3 < 256)) (CallM PP f_dictDecoder_writeByte #[.pointer (some ⟨f,1037,none⟩),.int .u8 (IntKind.wrap .u8 x3)] m6 fun v8 m9=>v8=.tuple #[]∧CallM PP f_dictDecoder_availWrite #[.pointer (some ⟨f,1037,none⟩)] m9 fun v11 m12=>∃ x10,v11=.int .i64 x10∧ifB (x10 == 0) (CallM PP f_dictDecoder_readFlush #[.pointer (some ⟨f,1037,none⟩)] m12 fun v16 m17=>∃ a13 l14 k15,v16=.slice a13 l14 k15∧StW m17 ⟨f,1049,none⟩ (.slice a13 l14 k15) fun m18=>StW m18 ⟨f,1045,none⟩ (.func (.func f_decompressor_huffmanBlock) #[] #[]) fun m19=>StW m19 ⟨f,1046,none⟩ (.int .i64 0) fun m20=>K.kr [(0,.pointer (some ⟨f,0,none⟩)),(2,.int .i64 x3),(3,v4),(4,.int .u64 0),(5,.int .i64 0),(13,.int .i64 x1)] m20) (K.kg 0 [(0,.pointer (some ⟨f,0,none⟩)),(2,.int .i64 x3),(3,v4),(4,.int .u64 0),(5,.int .i64 0),(13,.int .i64 x1)] m12)) (ifB (x3 == 256) (CallM PP f_decompressor_finishBlock #[.pointer (some ⟨f,0,none⟩)] m6 fun v21 m22=>v21=.tuple #[]∧K.kr [(0,.pointer (some ⟨f,0,none⟩)),(2,.int .i64 x3),(3,v4),(4,.int .u64 0),(5,.int .i64 0),(13,.int .i64 x1)] m22) (ifB (decide (x3 < 265)) (WPS PP 362 c_decompressor_huffmanBlock_lrrlrrrrr (K.withN fun r m=>wpc PP FF 362 L_decompressor_huffmanBlock c_decompressor_huffmanBlock_lrrr K r m) [(0,.pointer (some ⟨f,0,none⟩)),(2,.int .i64 x3),(3,v4),(4,.int .u64 0),(5,.int .i64 (IntKind.wrap .i64 (x3 - 254))),(13,.int .i64 x1)] m6) (ifB (decide (x3 < 269)) (WPS PP 362 c_decompressor_huffmanBlock_lrrlrrrrr (K.withN fun r m=>wpc PP FF 362 L_decompressor_huffmanBlock c_decompressor_huffmanBlock_lrrr K r m) [(0,.pointer (some ⟨f,0,none⟩)),(2,.int .i64 x3),(3,v4),(4,.int .u64 1),(5,.int .i64 (IntKind.wrap .i64 ((IntKind.wrap .i64 (x3 * 2)) - 519))),(13,.int .i64 x1)] m6) (ifB (decide (x3 < 273)) (WPS PP 362 c_decompressor_huffmanBlock_lrrlrrrrr (K.withN fun r m=>wpc PP FF 362 L_decompressor_huffmanBlock c_decompressor_huffmanBlock_lrrr K r m) [(0,.pointer (some ⟨f,0,none⟩)),(2,.int .i64 x3),(3,v4),(4,.int .u64 2),(5,.int .i64 (IntKind.wrap .i64 ((IntKind.wrap .i64 (x3 * 4)) - 1057))),(13,.int .i64 x1)] m6) (ifB (decide (x3 < 277)) (WPS PP 362 c_decompressor_huffmanBlock_lrrlrrrrr (K.withN fun r m=>wpc PP FF 362 L_decompressor_huffmanBlock c_decompressor_huffmanBlock_lrrr K r m) [(0,.pointer (some ⟨f,0,none⟩)),(2,.int .i64 x3),(3,v4),(4,.int .u64 3),(5,.int .i64 (IntKind.wrap .i64 ((IntKind.wrap .i64 (x3 * 8)) - 2149))),(13,.int .i64 x1)] m6) (ifB (decide (x3 < 281)) (WPS PP 362 c_decompressor_huffmanBlock_lrrlrrrrr (K.withN fun r m=>wpc PP FF 362 L_decompressor_huffmanBlock c_decompressor_huffmanBlock_lrrr K r m) [(0,.pointer (some ⟨f,0,none⟩)),(2,.int .i64 x3),(3,v4),(4,.int .u64 4),(5,.int .i64 (IntKind.wrap .i64 ((IntKind.wrap .i64 (x3 * 16)) - 4365))),(13,.int .i64 x1)] m6) (ifB (decide (x3 < 285)) (WPS PP 362 c_decompressor_huffmanBlock_lrrlrrrrr (K.withN fun r m=>wpc PP FF 362 L_decompressor_huffmanBlock c_decompressor_huffmanBlock_lrrr K r m) [(0,.pointer (some ⟨f,0,none⟩)),(2,.int .i64 x3),(3,v4),(4,.int .u64 5),(5,.int .i64 (IntKind.wrap .i64 ((IntKind.wrap .i64 (x3 * 32)) - 8861))),(13,.int .i64 x1)] m6) (ifB (decide (x3 < 286)) (WPS PP 362 c_decompressor_huffmanBlock_lrrlrrrrr (K.withN fun r m=>wpc PP FF 362 L_decompressor_huffmanBlock c_decompressor_huffmanBlock_lrrr K r m) [(0,.pointer (some ⟨f,0,none⟩)),(2,.int .i64 x3),(3,v4),(4,.int .u64 0),(5,.int .i64 258),(13,.int .i64 x1)] m6) (∃ x23,cell? m6 ⟨f,2,none⟩=some (.int .i64 x23)∧StW m6 ⟨f,1048,none⟩ (.iface t_flate_CorruptInputError (.int .i64 x23)) fun m24=>K.kr [(0,.pointer (some ⟨f,0,none⟩)),(2,.int .i64 x3),(3,v4),(4,.int .u64 0),(5,.int .i64 0),(13,.int .i64 x1)] m24))))))))))))  ):
  wpc PP FF 362 L_decompressor_huffmanBlock c_decompressor_huffmanBlock_l K [(0,.pointer (some ⟨f,0,none⟩))] m:=
 Eq.mpr (by kernel_rfl) h
theorem p_decompressor_huffmanBlock_lrr (f:Nat) (m:Mem) (K:Kont)
  (h:∃ p1,cell? m ⟨f,1050,none⟩=some (.pointer p1)∧CallM PP f_decompressor_huffSym #[.pointer (some ⟨f,0,none⟩),.pointer p1] m fun v4 m5=>∃ x2 v3,v4=.tuple #[.int .i64 x2,v3]∧isIfc v3=true∧ifB (!(isNil v3)) (StW m5 ⟨f,1048,none⟩ v3 fun m6=>K.kr [(0,.pointer (some ⟨f,0,none⟩)),(2,.int .i64 x2),(3,v3)] m6) (ifB (decide (x2 < 256)) (CallM PP f_dictDecoder_writeByte #[.pointer (some ⟨f,1037,none⟩),.int .u8 (IntKind.wrap .u8 x2)] m5 fun v7 m8=>v7=.tuple #[]∧CallM PP f_dictDecoder_availWrite #[.pointer (some ⟨f,1037,none⟩)] m8 fun v10 m11=>∃ x9,v10=.int .i64 x9∧ifB (x9 == 0) (CallM PP f_dictDecoder_readFlush #[.pointer (some ⟨f,1037,none⟩)] m11 fun v15 m16=>∃ a12 l13 k14,v15=.slice a12 l13 k14∧StW m16 ⟨f,1049,none⟩ (.slice a12 l13 k14) fun m17=>StW m17 ⟨f,1045,none⟩ (.func (.func f_decompressor_huffmanBlock) #[] #[]) fun m18=>StW m18 ⟨f,1046,none⟩ (.int .i64 0) fun m19=>K.kr [(0,.pointer (some ⟨f,0,none⟩)),(2,.int .i64 x2),(3,v3),(4,.int .u64 0),(5,.int .i64 0)] m19) (K.kg 0 [(0,.pointer (some ⟨f,0,none⟩)),(2,.int .i64 x2),(3,v3),(4,.int .u64 0),(5,.int .i64 0)] m11)) (ifB (x2 == 256) (CallM PP f_decompressor_finishBlock #[.pointer (some ⟨f,0,none⟩)] m5 fun v20 m21=>v20=.tuple #[]∧K.kr [(0,.pointer (some ⟨f,0,none⟩)),(2,.int .i64 x2),(3,v3),(4,.int .u64 0),(5,.int .i64 0)] m21) (ifB (decide (x2 < 265)) (WPS PP 362 c_decompressor_huffmanBlock_lrrlrrrrr (K.withN fun r m=>wpc PP FF 362 L_decompressor_huffmanBlock c_decompressor_huffmanBlock_lrrr K r m) [(0,.pointer (some ⟨f,0,none⟩)),(2,.int .i64 x2),(3,v3),(4,.int .u64 0),(5,.int .i64 (IntKind.wrap .i64 (x2 - 254)))] m5) (ifB (decide (x2 < 269)) (WPS PP 362 c_decompressor_huffmanBlock_lrrlrrrrr (K.withN fun r m=>wpc PP FF 362 L_decompressor_huffmanBlock c_decompressor_huffmanBlock_lrrr K r m) [(0,.pointer (some ⟨f,0,none⟩)),(2,.int .i64 x2),(3,v3),(4,.int .u64 1),(5,.int .i64 (IntKind.wrap .i64 ((IntKind.wrap .i64 (x2 * 2)) - 519)))] m5) (ifB (decide (x2 < 273)) (WPS PP 362 c_decompressor_huffmanBlock_lrrlrrrrr (K.withN fun r m=>wpc PP FF 362 L_decompressor_huffmanBlock c_decompressor_huffmanBlock_lrrr K r m) [(0,.pointer (some ⟨f,0,none⟩)),(2,.int .i64 x2),(3,v3),(4,.int .u64 2),(5,.int .i64 (IntKind.wrap .i64 ((IntKind.wrap .i64 (x2 * 4)) - 1057)))] m5) (ifB (decide (x2 < 277)) (WPS PP 362 c_decompressor_huffmanBlock_lrrlrrrrr (K.withN fun r m=>wpc PP FF 362 L_decompressor_huffmanBlock c_decompressor_huffmanBlock_lrrr K r m) [(0,.pointer (some ⟨f,0,none⟩)),(2,.int .i64 x2),(3,v3),(4,.int .u64 3),(5,.int .i64 (IntKind.wrap .i64 ((IntKind.wrap .i64 (x2 * 8)) - 2149)))] m5) (ifB (decide (x2 < 281)) (WPS PP 362 c_decompressor_huffmanBlock_lrrlrrrrr (K.withN fun r m=>wpc PP FF 362 L_decompressor_huffmanBlock c_decompressor_huffmanBlock_lrrr K r m) [(0,.pointer (some ⟨f,0,none⟩)),(2,.int .i64 x2),(3,v3),(4,.int .u64 4),(5,.int .i64 (IntKind.wrap .i64 ((IntKind.wrap .i64 (x2 * 16)) - 4365)))] m5) (ifB (decide (x2 < 285)) (WPS PP 362 c_decompressor_huffmanBlock_lrrlrrrrr (K.withN fun r m=>wpc PP FF 362 L_decompressor_huffmanBlock c_decompressor_huffmanBlock_lrrr K r m) [(0,.pointer (some ⟨f,0,none⟩)),(2,.int .i64 x2),(3,v3),(4,.int .u64 5),(5,.int .i64 (IntKind.wrap .i64 ((IntKind.wrap .i64 (x2 * 32)) - 8861)))] m5) (ifB (decide (x2 < 286)) (WPS PP 362 c_decompressor_huffmanBlock_lrrlrrrrr (K.withN fun r m=>wpc PP FF 362 L_decompressor_huffmanBlock c_decompressor_huffmanBlock_lrrr K r m) [(0,.pointer (some ⟨f,0,none⟩)),(2,.int .i64 x2),(3,v3),(4,.int .u64 0),(5,.int .i64 258)] m5) (∃ x22,cell? m5 ⟨f,2,none⟩=some (.int .i64 x22)∧StW m5 ⟨f,1048,none⟩ (.iface t_flate_CorruptInputError (.int .i64 x22)) fun m23=>K.kr [(0,.pointer (some ⟨f,0,none⟩)),(2,.int .i64 x2),(3,v3),(4,.int .u64 0),(5,.int .i64 0)] m23))))))))))  ):
  wpc PP FF 362 L_decompressor_huffmanBlock c_decompressor_huffmanBlock_lrr K [(0,.pointer (some ⟨f,0,none⟩))] m:=
 Eq.mpr (by kernel_rfl) h
theorem p_decompressor_huffmanBlock_lrrrr (f:Nat) (m:Mem) (K:Kont)
  (h:∃ x1,cell? m ⟨f,1053,none⟩=some (.int .i64 x1)∧∃ x2,cell? m ⟨f,1052,none⟩=some (.int .i64 x2)∧CallM PP f_dictDecoder_tryWriteCopy #[.pointer (some ⟨f,1037,none⟩),.int .i64 x1,.int .i64 x2] m fun v4 m5=>∃ x3,v4=.int .i64 x3∧ifB (x3 == 0) (∃ x6,cell? m5 ⟨f,1053,none⟩=some (.int .i64 x6)∧∃ x7,cell? m5 ⟨f,1052,none⟩=some (.int .i64 x7)∧CallM PP f_dictDecoder_writeCopy #[.pointer (some ⟨f,1037,none⟩),.int .i64 x6,.int .i64 x7] m5 fun v9 m10=>∃ x8,v9=.int .i64 x8∧WPS PP 362 c_decompressor_huffmanBlock_lrrrrrr K [(0,.pointer (some ⟨f,0,none⟩)),(9,.int .i64 x8)] m10) (WPS PP 362 c_decompressor_huffmanBlock_lrrrrrr K [(0,.pointer (some ⟨f,0,none⟩)),(9,.int .i64 x3)] m5)  ):
  wpc PP FF 362 L_decompressor_huffmanBlock c_decompressor_huffmanBlock_lrrrr K [(0,.pointer (some ⟨f,0,none⟩))] m:=
 Eq.mpr (by kernel_rfl) h
theorem p_decompressor_huffmanBlock_lrrlrrrrrlrllll (f:Nat) (x1:Int) (x2:Int) (m:Mem) (K:Kont)
  (h:∃ x3,cell? m ⟨f,4,none⟩=some (.int .u64 x3)∧ifB (decide (x3 < x1)) (CallM PP f_decompressor_moreBits #[.pointer (some ⟨f,0,none⟩)] m fun v5 m6=>∃ v4,v5=v4∧isIfc v4=true∧ifB (!(isNil v4)) (StW m6 ⟨f,1048,none⟩ v4 fun m7=>K.kr [(0,.pointer (some ⟨f,0,none⟩)),(3,v4),(4,.int .u64 x1),(5,.int .i64 x2)] m7) (K.kn [(0,.pointer (some ⟨f,0,none⟩)),(3,v4),(4,.int .u64 x1),(5,.int .i64 x2)] m6)) (K.kx 2 [(0,.pointer (some ⟨f,0,none⟩)),(4,.int .u64 x1),(5,.int .i64 x2)] m)):
  wpc PP FF 362 L_decompressor_huffmanBlock c_decompressor_huffmanBlock_lrrlrrrrrlrllll K [(0,.pointer (some ⟨f,0,none⟩)),(4,.int .u64 x1),(5,.int .i64 x2)] m:=
 Eq.mpr (by kernel_rfl) h
theorem p_decompressor_huffmanBlock_lrrlrrrrrrrlrllll (f:Nat) (x1:Int) (m:Mem) (K:Kont)
  (h:∃ x2,cell? m ⟨f,4,none⟩=some (.int .u64 x2)∧ifB (decide (x2 < 5)) (CallM PP f_decompressor_moreBits #[.pointer (some ⟨f,0,none⟩)] m fun v4 m5=>∃ v3,v4=v3∧isIfc v3=true∧ifB (!(isNil v3)) (StW m5 ⟨f,1048,none⟩ v3 fun m6=>K.kr [(0,.pointer (some ⟨f,0,none⟩)),(3,v3),(5,.int .i64 x1)] m6) (K.kn [(0,.pointer (some ⟨f,0,none⟩)),(3,v3),(5,.int .i64 x1)] m5)) (K.kx 4 [(0,.pointer (some ⟨f,0,none⟩)),(5,.int .i64 x1)] m)):
  wpc PP FF 362 L_decompressor_huffmanBlock c_decompressor_huffmanBlock_lrrlrrrrrrrlrllll K [(0,.pointer (some ⟨f,0,none⟩)),(5,.int .i64 x1)] m:=
 Eq.mpr (by kernel_rfl) h
theorem p_decompressor_huffmanBlock_lrrlrrrrrrrrllrrrlrrlll (f:Nat) (x1:Int) (x2:Int) (x3:Int) (m:Mem) (K:Kont)
  (h:∃ x4,cell? m ⟨f,4,none⟩=some (.int .u64 x4)∧ifB (decide (x4 < x2)) (CallM PP f_decompressor_moreBits #[.pointer (some ⟨f,0,none⟩)] m fun v6 m7=>∃ v5,v6=v5∧isIfc v5=true∧ifB (!(isNil v5)) (StW m7 ⟨f,1048,none⟩ v5 fun m8=>K.kr [(0,.pointer (some ⟨f,0,none⟩)),(3,v5),(5,.int .i64 x1),(7,.int .u64 x2),(8,.int .i64 x3)] m8) (K.kn [(0,.pointer (some ⟨f,0,none⟩)),(3,v5),(5,.int .i64 x1),(7,.int .u64 x2),(8,.int .i64 x3)] m7)) (K.kx 7 [(0,.pointer (some ⟨f,0,none⟩)),(5,.int .i64 x1),(7,.int .u64 x2),(8,.int .i64 x3)] m)):
  wpc PP FF 362 L_decompressor_huffmanBlock c_decompressor_huffmanBlock_lrrlrrrrrrrrllrrrlrrlll K [(0,.pointer (some ⟨f,0,none⟩)),(5,.int .i64 x1),(7,.int .u64 x2),(8,.int .i64 x3)] m:=
 Eq.mpr (by kernel_rfl) h
theorem p_decompressor_huffmanBlock_lrrr (f:Nat) (m:Mem) (K:Kont)
  (h:∃ x1,cell? m ⟨f,1053,none⟩=some (.int .i64 x1)∧∃ x2,cell? m ⟨f,1052,none⟩=some (.int .i64 x2)∧CallM PP f_dictDecoder_tryWriteCopy #[.pointer (some ⟨f,1037,none⟩),.int .i64 x1,.int .i64 x2] m fun v4 m5=>∃ x3,v4=.int .i64 x3∧ifB (x3 == 0) (∃ x6,cell? m5 ⟨f,1053,none⟩=some (.int .i64 x6)∧∃ x7,cell? m5 ⟨f,1052,none⟩=some (.int .i64 x7)∧CallM PP f_dictDecoder_writeCopy #[.pointer (some ⟨f,1037,none⟩),.int .i64 x6,.int .i64 x7] m5 fun v9 m10=>∃ x8,v9=.int .i64 x8∧WPS PP 362 c_decompressor_huffmanBlock_lrrrrrr K [(0,.pointer (some ⟨f,0,none⟩)),(9,.int .i64 x8)] m10) (WPS PP 362 c_decompressor_huffmanBlock_lrrrrrr K [(0,.pointer (some ⟨f,0,none⟩)),(9,.int .i64 x3)] m5)  ):
  wpc PP FF 362 L_decompressor_huffmanBlock c_decompressor_huffmanBlock_lrrr K [(0,.pointer (some ⟨f,0,none⟩))] m:=
 Eq.mpr (by kernel_rfl) h
def k_decompressor_huffmanBlock_lrrrrrr:List Nat:=[0,9]
theorem p_decompressor_huffmanBlock_lrrrrrr (f:Nat) (x1:Int) (m:Mem) (K:Kont)
  (h:∃ x2,cell? m ⟨f,1052,none⟩=some (.int .i64 x2)∧StW m ⟨f,1052,none⟩ (.int .i64 (IntKind.wrap .i64 (x2 - x1))) fun m3=>CallM PP f_dictDecoder_availWrite #[.pointer (some ⟨f,1037,none⟩)] m3 fun v5 m6=>∃ x4,v5=.int .i64 x4∧ifB (x4 == 0) (CallM PP f_dictDecoder_readFlush #[.pointer (some ⟨f,1037,none⟩)] m6 fun v10 m11=>∃ a7 l8 k9,v10=.slice a7 l8 k9∧StW m11 ⟨f,1049,none⟩ (.slice a7 l8 k9) fun m12=>StW m12 ⟨f,1045,none⟩ (.func (.func f_decompressor_huffmanBlock) #[] #[]) fun m13=>StW m13 ⟨f,1046,none⟩ (.int .i64 1) fun m14=>K.kr [(0,.pointer (some ⟨f,0,none⟩)),(9,.int .i64 x1)] m14) (∃ x15,cell? m6 ⟨f,1052,none⟩=some (.int .i64 x15)∧ifB (decide (x15 > 0)) (CallM PP f_dictDecoder_readFlush #[.pointer (some ⟨f,1037,none⟩)] m6 fun v19 m20=>∃ a16 l17 k18,v19=.slice a16 l17 k18∧StW m20 ⟨f,1049,none⟩ (.slice a16 l17 k18) fun m21=>StW m21 ⟨f,1045,none⟩ (.func (.func f_decompressor_huffmanBlock) #[] #[]) fun m22=>StW m22 ⟨f,1046,none⟩ (.int .i64 1) fun m23=>K.kr [(0,.pointer (some ⟨f,0,none⟩)),(9,.int .i64 x1)] m23) (K.kg 0 [(0,.pointer (some ⟨f,0,none⟩)),(9,.int .i64 x1)] m6))):
  wpc PP FF 362 L_decompressor_huffmanBlock c_decompressor_huffmanBlock_lrrrrrr K [(0,.pointer (some ⟨f,0,none⟩)),(9,.int .i64 x1)] m:=
 Eq.mpr (by kernel_rfl) h
def k_decompressor_huffmanBlock_lrrlrrrrr:List Nat:=[0,4,5]
theorem p_decompressor_huffmanBlock_lrrlrrrrr (f:Nat) (x1:Int) (x2:Int) (m:Mem) (K:Kont)
  (h:ifB (decide (x1 > 0)) (WPS PP 362 c_decompressor_huffmanBlock_lrrlrrrrrlrlll (((K.withN fun r m=>WPS PP 362 c_decompressor_huffmanBlock_lrrlrrrrrr K r m).withN fun r m=>WPS PP 362 c_decompressor_huffmanBlock_lrrlrrrrrlrlr (K.withN fun r m=>WPS PP 362 c_decompressor_huffmanBlock_lrrlrrrrrr K r m) r m).withX 2) [(0,.pointer (some ⟨f,0,none⟩)),(4,.int .u64 x1),(5,.int .i64 x2)] m) (WPS PP 362 c_decompressor_huffmanBlock_lrrlrrrrrr K [(0,.pointer (some ⟨f,0,none⟩)),(4,.int .u64 x1),(5,.int .i64 x2)] m)):
  wpc PP FF 362 L_decompressor_huffmanBlock c_decompressor_huffmanBlock_lrrlrrrrr K [(0,.pointer (some ⟨f,0,none⟩)),(4,.int .u64 x1),(5,.int .i64 x2)] m:=
 Eq.mpr (by kernel_rfl) h
def k_decompressor_huffmanBlock_lrrlrrrrrr:List Nat:=[0,5]
theorem p_decompressor_huffmanBlock_lrrlrrrrrr (f:Nat) (x1:Int) (m:Mem) (K:Kont)
  (h:∃ p2,cell? m ⟨f,1051,none⟩=some (.pointer p2)∧ifB p2.isNone (WPS PP 362 c_decompressor_huffmanBlock_lrrlrrrrrrrlrlll (((K.withN fun r m=>WPS PP 362 c_decompressor_huffmanBlock_lrrlrrrrrrrr K r m).withN fun r m=>WPS PP 362 c_decompressor_huffmanBlock_lrrlrrrrrrrlrlr (K.withN fun r m=>WPS PP 362 c_decompressor_huffmanBlock_lrrlrrrrrrrr K r m) r m).withX 4) [(0,.pointer (some ⟨f,0,none⟩)),(5,.int .i64 x1),(6,.int .i64 0)] m) (∃ p3,cell? m ⟨f,1051,none⟩=some (.pointer p3)∧CallM PP f_decompressor_huffSym #[.pointer (some ⟨f,0,none⟩),.pointer p3] m fun v6 m7=>∃ x4 v5,v6=.tuple #[.int .i64 x4,v5]∧isIfc v5=true∧ifB (!(isNil v5)) (StW m7 ⟨f,1048,none⟩ v5 fun m8=>K.kr [(0,.pointer (some ⟨f,0,none⟩)),(3,v5),(5,.int .i64 x1),(6,.int .i64 x4)] m8) (WPS PP 362 c_decompressor_huffmanBlock_lrrlrrrrrrrr K [(0,.pointer (some ⟨f,0,none⟩)),(3,v5),(5,.int .i64 x1),(6,.int .i64 x4)] m7))):
  wpc PP FF 362 L_decompressor_huffmanBlock c_decompressor_huffmanBlock_lrrlrrrrrr K [(0,.pointer (some ⟨f,0,none⟩)),(5,.int .i64 x1)] m:=
 Eq.mpr (by kernel_rfl) h
def k_decompressor_huffmanBlock_lrrlrrrrrlrlr:List Nat:=[0,4,5]
theorem p_decompressor_huffmanBlock_lrrlrrrrrlrlr (f:Nat) (x1:Int) (x2:Int) (m:Mem) (K:Kont)
  (h:∃ x3,cell? m ⟨f,3,none⟩=some (.int .u32 x3)∧0≤x1∧IntKind.u32=IntKind.u32∧∃ x4,cell? m ⟨f,3,none⟩=some (.int .u32 x4)∧0≤x1∧StW m ⟨f,3,none⟩ (.int .u32 (shrOp .u32 x4 x1)) fun m5=>∃ x6,cell? m5 ⟨f,4,none⟩=some (.int .u64 x6)∧StW m5 ⟨f,4,none⟩ (.int .u64 (IntKind.wrap .u64 (x6 - x1))) fun m7=>K.kn [(0,.pointer (some ⟨f,0,none⟩)),(4,.int .u64 x1),(5,.int .i64 (IntKind.wrap .i64 (x2+(IntKind.wrap .i64 (bitsOp .and .u32 x3 (IntKind.wrap .u32 ((shlOp .u32 1 x1) - 1)))))))] m7):
  wpc PP FF 362 L_decompressor_huffmanBlock c_decompressor_huffmanBlock_lrrlrrrrrlrlr K [(0,.pointer (some ⟨f,0,none⟩)),(4,.int .u64 x1),(5,.int .i64 x2)] m:=
 Eq.mpr (by kernel_rfl) h
def k_decompressor_huffmanBlock_lrrlrrrrrrrr:List Nat:=[0,5,6]
theorem p_decompressor_huffmanBlock_lrrlrrrrrrrr (f:Nat) (x1:Int) (x2:Int) (m:Mem) (K:Kont)
  (h:ifB (decide (x2 < 4)) (WPS PP 362 c_decompressor_huffmanBlock_lrrlrrrrrrrrr K [(0,.pointer (some ⟨f,0,none⟩)),(5,.int .i64 x1),(6,.int .i64 (IntKind.wrap .i64 (x2+1)))] m) (ifB (decide (x2 < 30)) (0≤(1:Int)∧IntKind.i64=IntKind.i64∧0≤(shrOp .u64 (IntKind.wrap .u64 (IntKind.wrap .i64 (x2 - 2))) 1)∧WPS PP 362 c_decompressor_huffmanBlock_lrrlrrrrrrrrllrrrlrrll ((((K.withN fun r m=>WPS PP 362 c_decompressor_huffmanBlock_lrrlrrrrrrrrr K r m).withX 6).withN fun r m=>WPS PP 362 c_decompressor_huffmanBlock_lrrlrrrrrrrrllrrrlrrr ((K.withN fun r m=>WPS PP 362 c_decompressor_huffmanBlock_lrrlrrrrrrrrr K r m).withX 6) r m).withX 7) [(0,.pointer (some ⟨f,0,none⟩)),(5,.int .i64 x1),(6,.int .i64 x2),(7,.int .u64 (shrOp .u64 (IntKind.wrap .u64 (IntKind.wrap .i64 (x2 - 2))) 1)),(8,.int .i64 (shlOp .i64 (bitsOp .and .i64 x2 1) (shrOp .u64 (IntKind.wrap .u64 (IntKind.wrap .i64 (x2 - 2))) 1)))] m) (∃ x3,cell? m ⟨f,2,none⟩=some (.int .i64 x3)∧StW m ⟨f,1048,none⟩ (.iface t_flate_CorruptInputError (.int .i64 x3)) fun m4=>K.kr [(0,.pointer (some ⟨f,0,none⟩)),(5,.int .i64 x1),(6,.int .i64 x2)] m4))):
  wpc PP FF 362 L_decompressor_huffmanBlock c_decompressor_huffmanBlock_lrrlrrrrrrrr K [(0,.pointer (some ⟨f,0,none⟩)),(5,.int .i64 x1),(6,.int .i64 x2)] m:=
 Eq.mpr (by kernel_rfl) h
def k_decompressor_huffmanBlock_lrrlrrrrrrrlrlr:List Nat:=[0,5]
theorem p_decompressor_huffmanBlock_lrrlrrrrrrrlrlr (f:Nat) (x1:Int) (m:Mem) (K:Kont)
  (h:∃ x2,cell? m ⟨f,3,none⟩=some (.int .u32 x2)∧IntKind.u32=IntKind.u32∧0≤(3:Int)∧CallM PP f_bits_Reverse8 #[.int .u8 (IntKind.wrap .u8 (shlOp .u32 (bitsOp .and .u32 x2 31) 3))] m fun v4 m5=>∃ x3,v4=.int .u8 x3∧∃ x6,cell? m5 ⟨f,3,none⟩=some (.int .u32 x6)∧0≤(5:Int)∧StW m5 ⟨f,3,none⟩ (.int .u32 (shrOp .u32 x6 5)) fun m7=>∃ x8,cell? m7 ⟨f,4,none⟩=some (.int .u64 x8)∧StW m7 ⟨f,4,none⟩ (.int .u64 (IntKind.wrap .u64 (x8 - 5))) fun m9=>K.kn [(0,.pointer (some ⟨f,0,none⟩)),(5,.int .i64 x1),(6,.int .i64 (IntKind.wrap .i64 x3))] m9):
  wpc PP FF 362 L_decompressor_huffmanBlock c_decompressor_huffmanBlock_lrrlrrrrrrrlrlr K [(0,.pointer (some ⟨f,0,none⟩)),(5,.int .i64 x1)] m:=
 Eq.mpr (by kernel_rfl) h
def k_decompressor_huffmanBlock_lrrlrrrrrrrrr:List Nat:=[0,5,6]
theorem p_decompressor_huffmanBlock_lrrlrrrrrrrrr (f:Nat) (x1:Int) (x2:Int) (m:Mem) (K:Kont)
  (h:CallM PP f_dictDecoder_histSize #[.pointer (some ⟨f,1037,none⟩)] m fun v4 m5=>∃ x3,v4=.int .i64 x3∧ifB (decide (x2 > x3)) (∃ x6,cell? m5 ⟨f,2,none⟩=some (.int .i64 x6)∧StW m5 ⟨f,1048,none⟩ (.iface t_flate_CorruptInputError (.int .i64 x6)) fun m7=>K.kr [(0,.pointer (some ⟨f,0,none⟩)),(5,.int .i64 x1),(6,.int .i64 x2)] m7) (StW m5 ⟨f,1052,none⟩ (.int .i64 x1) fun m8=>StW m8 ⟨f,1053,none⟩ (.int .i64 x2) fun m9=>K.kg 1 [(0,.pointer (some ⟨f,0,none⟩)),(5,.int .i64 x1),(6,.int .i64 x2)] m9)):
  wpc PP FF 362 L_decompressor_huffmanBlock c_decompressor_huffmanBlock_lrrlrrrrrrrrr K [(0,.pointer (some ⟨f,0,none⟩)),(5,.int .i64 x1),(6,.int .i64 x2)] m:=
 Eq.mpr (by kernel_rfl) h
def k_decompressor_huffmanBlock_lrrlrrrrrrrrllrrrlrrr:List Nat:=[0,5,7,8]
theorem p_decompressor_huffmanBlock_lrrlrrrrrrrrllrrrlrrr (f:Nat) (x1:Int) (x2:Int) (x3:Int) (m:Mem) (K:Kont)
  (h:∃ x4,cell? m ⟨f,3,none⟩=some (.int .u32 x4)∧0≤x2∧IntKind.u32=IntKind.u32∧IntKind.i64=IntKind.i64∧∃ x5,cell? m ⟨f,3,none⟩=some (.int .u32 x5)∧0≤x2∧StW m ⟨f,3,none⟩ (.int .u32 (shrOp .u32 x5 x2)) fun m6=>∃ x7,cell? m6 ⟨f,4,none⟩=some (.int .u64 x7)∧StW m6 ⟨f,4,none⟩ (.int .u64 (IntKind.wrap .u64 (x7 - x2))) fun m8=>0≤(IntKind.wrap .u64 (x2+1))∧K.kn [(0,.pointer (some ⟨f,0,none⟩)),(5,.int .i64 x1),(6,.int .i64 (IntKind.wrap .i64 ((IntKind.wrap .i64 ((shlOp .i64 1 (IntKind.wrap .u64 (x2+1)))+1))+(bitsOp .or .i64 x3 (IntKind.wrap .i64 (bitsOp .and .u32 x4 (IntKind.wrap .u32 ((shlOp .u32 1 x2) - 1)))))))),(7,.int .u64 x2),(8,.int .i64 (bitsOp .or .i64 x3 (IntKind.wrap .i64 (bitsOp .and .u32 x4 (IntKind.wrap .u32 ((shlOp .u32 1 x2) - 1))))))] m8):
  wpc PP FF 362 L_decompressor_huffmanBlock c_decompressor_huffmanBlock_lrrlrrrrrrrrllrrrlrrr K [(0,.pointer (some ⟨f,0,none⟩)),(5,.int .i64 x1),(7,.int .u64 x2),(8,.int .i64 x3)] m:=
 Eq.mpr (by kernel_rfl) h
def L_decompressor_readHuffman:List Nat:=[0,2,3,4,5,6,7,8,9,10,11,12,13,14,15,16,17,18,23,27,37,58,94,101,105,138,160,171,181,184,195,197,200,215,217,224,228,261,269,310,328]
def r_decompressor_readHuffman:List ResultVar:=[.tmp 2]
noncomputable def c_decompressor_readHuffman:Code:=(Go.Proofs.Tryz.f33.body).getD .skip
theorem b_decompressor_readHuffman:Go.Proofs.Tryz.f33.body=some c_decompressor_readHuffman:=by kernel_rfl
noncomputable def c_decompressor_readHuffman_rr:Code:=(rgt (rgt c_decompressor_readHuffman))
noncomputable def c_decompressor_readHuffman_rll:Code:=(lft (lft (rgt c_decompressor_readHuffman)))
noncomputable def c_decompressor_readHuffman_rlll:Code:=(lft c_decompressor_readHuffman_rll)
noncomputable def c_decompressor_readHuffman_rrrrrrrrrrrr:Code:=(rgt (rgt (rgt (rgt (rgt (rgt (rgt (rgt (rgt (rgt c_decompressor_readHuffman_rr))))))))))
noncomputable def c_decompressor_readHuffman_rrrrrrrrrrrrr:Code:=(rgt c_decompressor_readHuffman_rrrrrrrrrrrr)
noncomputable def c_decompressor_readHuffman_rrrrrrrrrrrlrl:Code:=(lft (rgt (lft (rgt (rgt (rgt (rgt (rgt (rgt (rgt (rgt (rgt c_decompressor_readHuffman_rr))))))))))))
noncomputable def c_decompressor_readHuffman_rrrrrrrrrrrlrll:Code:=(lft c_decompressor_readHuffman_rrrrrrrrrrrlrl)
noncomputable def c_decompressor_readHuffman_rrrrrrrrrrrrlrl:Code:=(lft (rgt (lft c_decompressor_readHuffman_rrrrrrrrrrrr)))
noncomputable def c_decompressor_readHuffman_rrrrrrrrrrrrrrr:Code:=(rgt (rgt c_decompressor_readHuffman_rrrrrrrrrrrrr))
noncomputable def c_decompressor_readHuffman_rrrrrrrrrrrrlrll:Code:=(lft c_decompressor_readHuffman_rrrrrrrrrrrrlrl)
noncomputable def c_decompressor_readHuffman_rrrrrrrrrrrrrrlrl:Code:=(lft (rgt (lft (rgt c_decompressor_readHuffman_rrrrrrrrrrrrr))))
noncomputable def c_decompressor_readHuffman_rrrrrrrrrrrlrllrr:Code:=(rgt (rgt c_decompressor_readHuffman_rrrrrrrrrrrlrll))
noncomputable def c_decompressor_readHuffman_rrrrrrrrrrrrrrrrr:Code:=(rgt (rgt c_decompressor_readHuffman_rrrrrrrrrrrrrrr))
noncomputable def c_decompressor_readHuffman_rrrrrrrrrrrrrrlrll:Code:=(lft c_decompressor_readHuffman_rrrrrrrrrrrrrrlrl)
noncomputable def c_decompressor_readHuffman_rrrrrrrrrrrlrllrllr:Code:=(rgt (lft (lft (rgt c_decompressor_readHuffman_rrrrrrrrrrrlrll))))
noncomputable def c_decompressor_readHuffman_rrrrrrrrrrrlrllrllll:Code:=(lft (lft (lft (lft (rgt c_decompressor_readHuffman_rrrrrrrrrrrlrll)))))
noncomputable def c_decompressor_readHuffman_rrrrrrrrrrrlrllrlllll:Code:=(lft c_decompressor_readHuffman_rrrrrrrrrrrlrllrllll)
noncomputable def c_decompressor_readHuffman_rrrrrrrrrrrrrrlrllrlrrrrrrr:Code:=(rgt (rgt (rgt (rgt (rgt (rgt (rgt (lft (rgt c_decompressor_readHuffman_rrrrrrrrrrrrrrlrll)))))))))
noncomputable def c_decompressor_readHuffman_rrrrrrrrrrrrrrlrllrlrrrrrrrr:Code:=(rgt c_decompressor_readHuffman_rrrrrrrrrrrrrrlrllrlrrrrrrr)
noncomputable def c_decompressor_readHuffman_rrrrrrrrrrrrrrlrllrlrrrrrrrll:Code:=(lft (lft c_decompressor_readHuffman_rrrrrrrrrrrrrrlrllrlrrrrrrr))
noncomputable def c_decompressor_readHuffman_rrrrrrrrrrrrrrlrllrlrrrrrrrlll:Code:=(lft c_decompressor_readHuffman_rrrrrrrrrrrrrrlrllrlrrrrrrrll)
noncomputable def c_decompressor_readHuffman_rrrrrrrrrrrrrrlrllrlrrrrrrrrrrrrrl:Code:=(lft (rgt (rgt (rgt (rgt (rgt c_decompressor_readHuffman_rrrrrrrrrrrrrrlrllrlrrrrrrrr))))))
noncomputable def c_decompressor_readHuffman_rrrrrrrrrrrrrrlrllrlrrrrrrrrrrrrrll:Code:=(lft c_decompressor_readHuffman_rrrrrrrrrrrrrrlrllrlrrrrrrrrrrrrrl)
theorem q_decompressor_readHuffman_rll:c_decompressor_readHuffman_rll=.loop c_decompressor_readHuffman_rlll:=by kernel_rfl
theorem q_decompressor_readHuffman_rrrrrrrrrrrlrl:c_decompressor_readHuffman_rrrrrrrrrrrlrl=.loop c_decompressor_readHuffman_rrrrrrrrrrrlrll:=by kernel_rfl
theorem q_decompressor_readHuffman_rrrrrrrrrrrrlrl:c_decompressor_readHuffman_rrrrrrrrrrrrlrl=.loop c_decompressor_readHuffman_rrrrrrrrrrrrlrll:=by kernel_rfl
theorem q_decompressor_readHuffman_rrrrrrrrrrrrrrlrl:c_decompressor_readHuffman_rrrrrrrrrrrrrrlrl=.loop c_decompressor_readHuffman_rrrrrrrrrrrrrrlrll:=by kernel_rfl
theorem q_decompressor_readHuffman_rrrrrrrrrrrlrllrllll:c_decompressor_readHuffman_rrrrrrrrrrrlrllrllll=.loop c_decompressor_readHuffman_rrrrrrrrrrrlrllrlllll:=by kernel_rfl
theorem q_decompressor_readHuffman_rrrrrrrrrrrrrrlrllrlrrrrrrrll:c_decompressor_readHuffman_rrrrrrrrrrrrrrlrllrlrrrrrrrll=.loop c_decompressor_readHuffman_rrrrrrrrrrrrrrlrllrlrrrrrrrlll:=by kernel_rfl
theorem q_decompressor_readHuffman_rrrrrrrrrrrrrrlrllrlrrrrrrrrrrrrrl:c_decompressor_readHuffman_rrrrrrrrrrrrrrlrllrlrrrrrrrrrrrrrl=.loop c_decompressor_readHuffman_rrrrrrrrrrrrrrlrllrlrrrrrrrrrrrrrll:=by kernel_rfl
theorem e_decompressor_readHuffman (f:Nat) (m:Mem) (R:Value→Mem→Prop)
  (h:WPS PP 340 c_decompressor_readHuffman_rll (((retK PP r_decompressor_readHuffman R).withN fun r m=>WPS PP 340 c_decompressor_readHuffman_rr (retK PP r_decompressor_readHuffman R) r m).withX 0) [(0,.pointer (some ⟨f,0,none⟩)),(2,.nilIface)] m  ):
  CallM PP f_decompressor_readHuffman #[.pointer (some ⟨f,0,none⟩)] m R:=
 callM_enter ffOk mixedOk 340 L_decompressor_readHuffman Tryz.func33 b_decompressor_readHuffman Tryz.ntmps33 (by simp) (Eq.mpr (by kernel_rfl) h)
def k_decompressor_readHuffman_rr:List Nat:=[0]
theorem p_decompressor_readHuffman_rr (f:Nat) (m:Mem) (K:Kont)
  (h:∃ x1,cell? m ⟨f,3,none⟩=some (.int .u32 x1)∧IntKind.u32=IntKind.u32∧ifB (decide ((IntKind.wrap .i64 ((IntKind.wrap .i64 (bitsOp .and .u32 x1 31))+257)) > 286)) (∃ x2,cell? m ⟨f,2,none⟩=some (.int .i64 x2)∧K.kr [(0,.pointer (some ⟨f,0,none⟩)),(2,.iface t_flate_CorruptInputError (.int .i64 x2)),(4,.int .i64 (IntKind.wrap .i64 ((IntKind.wrap .i64 (bitsOp .and .u32 x1 31))+257)))] m) (∃ x3,cell? m ⟨f,3,none⟩=some (.int .u32 x3)∧0≤(5:Int)∧StW m ⟨f,3,none⟩ (.int .u32 (shrOp .u32 x3 5)) fun m4=>∃ x5,cell? m4 ⟨f,3,none⟩=some (.int .u32 x5)∧IntKind.u32=IntKind.u32∧ifB (decide ((IntKind.wrap .i64 ((IntKind.wrap .i64 (bitsOp .and .u32 x5 31))+1)) > 30)) (∃ x6,cell? m4 ⟨f,2,none⟩=some (.int .i64 x6)∧K.kr [(0,.pointer (some ⟨f,0,none⟩)),(2,.iface t_flate_CorruptInputError (.int .i64 x6)),(4,.int .i64 (IntKind.wrap .i64 ((IntKind.wrap .i64 (bitsOp .and .u32 x1 31))+257))),(5,.int .i64 (IntKind.wrap .i64 ((IntKind.wrap .i64 (bitsOp .and .u32 x5 31))+1)))] m4) (∃ x7,cell? m4 ⟨f,3,none⟩=some (.int .u32 x7)∧0≤(5:Int)∧StW m4 ⟨f,3,none⟩ (.int .u32 (shrOp .u32 x7 5)) fun m8=>∃ x9,cell? m8 ⟨f,3,none⟩=some (.int .u32 x9)∧IntKind.u32=IntKind.u32∧∃ x10,cell? m8 ⟨f,3,none⟩=some (.int .u32 x10)∧0≤(4:Int)∧StW m8 ⟨f,3,none⟩ (.int .u32 (shrOp .u32 x10 4)) fun m11=>∃ x12,cell? m11 ⟨f,4,none⟩=some (.int .u64 x12)∧StW m11 ⟨f,4,none⟩ (.int .u64 (IntKind.wrap .u64 (x12 - 14))) fun m13=>WPS PP 340 c_decompressor_readHuffman_rrrrrrrrrrrlrl ((K.withN fun r m=>WPS PP 340 c_decompressor_readHuffman_rrrrrrrrrrrr K r m).withX 2) [(0,.pointer (some ⟨f,0,none⟩)),(4,.int .i64 (IntKind.wrap .i64 ((IntKind.wrap .i64 (bitsOp .and .u32 x1 31))+257))),(5,.int .i64 (IntKind.wrap .i64 ((IntKind.wrap .i64 (bitsOp .and .u32 x5 31))+1))),(6,.int .i64 (IntKind.wrap .i64 ((IntKind.wrap .i64 (bitsOp .and .u32 x9 15))+4))),(7,.int .i64 0)] m13))  ):
  wpc PP FF 340 L_decompressor_readHuffman c_decompressor_readHuffman_rr K [(0,.pointer (some ⟨f,0,none⟩))] m:=
 Eq.mpr (by kernel_rfl) h
theorem p_decompressor_readHuffman_rlll (f:Nat) (m:Mem) (K:Kont)
  (h:∃ x1,cell? m ⟨f,4,none⟩=some (.int .u64 x1)∧ifB (decide (x1 < 14)) (CallM PP f_decompressor_moreBits #[.pointer (some ⟨f,0,none⟩)] m fun v3 m4=>∃ v2,v3=v2∧isIfc v2=true∧ifB (!(isNil v2)) (K.kr [(0,.pointer (some ⟨f,0,none⟩)),(2,v2),(3,v2)] m4) (K.kn [(0,.pointer (some ⟨f,0,none⟩)),(3,v2)] m4)) (K.kx 0 [(0,.pointer (some ⟨f,0,none⟩))] m)  ):
  wpc PP FF 340 L_decompressor_readHuffman c_decompressor_readHuffman_rlll K [(0,.pointer (some ⟨f,0,none⟩))] m:=
 Eq.mpr (by kernel_rfl) h
theorem p_decompressor_readHuffman_rrrrrrrrrrrlrll (f:Nat) (x1:Int) (x2:Int) (x3:Int) (x4:Int) (m:Mem) (K:Kont)
  (h:ifB (decide (x4 < x3)) (WPS PP 340 c_decompressor_readHuffman_rrrrrrrrrrrlrllrllll ((((K.withN fun r m=>wpc PP FF 340 L_decompressor_readHuffman c_decompressor_readHuffman_rrrrrrrrrrrlrllrr K r m).withX 3).withN fun r m=>WPS PP 340 c_decompressor_readHuffman_rrrrrrrrrrrlrllrllr ((K.withN fun r m=>wpc PP FF 340 L_decompressor_readHuffman c_decompressor_readHuffman_rrrrrrrrrrrlrllrr K r m).withX 3) r m).withX 4) [(0,.pointer (some ⟨f,0,none⟩)),(4,.int .i64 x1),(5,.int .i64 x2),(6,.int .i64 x3),(7,.int .i64 x4)] m) (K.kx 2 [(0,.pointer (some ⟨f,0,none⟩)),(4,.int .i64 x1),(5,.int .i64 x2),(6,.int .i64 x3),(7,.int .i64 x4)] m)):
  wpc PP FF 340 L_decompressor_readHuffman c_decompressor_readHuffman_rrrrrrrrrrrlrll K [(0,.pointer (some ⟨f,0,none⟩)),(4,.int .i64 x1),(5,.int .i64 x2),(6,.int .i64 x3),(7,.int .i64 x4)] m:=
 Eq.mpr (by kernel_rfl) h
theorem p_decompressor_readHuffman_rrrrrrrrrrrrlrll (f:Nat) (x1:Int) (x2:Int) (x3:Int) (m:Mem) (K:Kont)
  (h:ifB (decide (x3 < 19)) (∃ p4,cell? m ⟨f,1036,none⟩=some (.pointer p4)∧(0≤x3∧x3 < ((19:Nat):Int))∧∃ x5,cell? m ⟨g_inflate_codeOrder,0+x3.toNat,none⟩=some (.int .i64 x5)∧onSome p4 fun p6=>(0≤x5∧x5 < ((19:Nat):Int))∧StW m (aplus p6 x5.toNat) (.int .i64 0) fun m7=>K.kn [(0,.pointer (some ⟨f,0,none⟩)),(4,.int .i64 x1),(5,.int .i64 x2),(9,.int .i64 (IntKind.wrap .i64 (x3+1)))] m7) (K.kx 6 [(0,.pointer (some ⟨f,0,none⟩)),(4,.int .i64 x1),(5,.int .i64 x2),(9,.int .i64 x3)] m)):
  wpc PP FF 340 L_decompressor_readHuffman c_decompressor_readHuffman_rrrrrrrrrrrrlrll K [(0,.pointer (some ⟨f,0,none⟩)),(4,.int .i64 x1),(5,.int .i64 x2),(9,.int .i64 x3)] m:=
 Eq.mpr (by kernel_rfl) h
theorem p_decompressor_readHuffman_rrrrrrrrrrrrrrlrll (f:Nat) (x1:Int) (x2:Int) (x3:Int) (x4:Int) (m:Mem) (K:Kont)
  (h:ifB (decide (x3 < x4)) (CallM PP f_decompressor_huffSym #[.pointer (some ⟨f,0,none⟩),.pointer (some ⟨f,5,none⟩)] m fun v7 m8=>∃ x5 v6,v7=.tuple #[.int .i64 x5,v6]∧isIfc v6=true∧ifB (!(isNil v6)) (K.kr [(0,.pointer (some ⟨f,0,none⟩)),(2,v6),(4,.int .i64 x1),(5,.int .i64 x2),(10,.int .i64 x3),(11,.int .i64 x4),(12,.int .i64 x5),(13,v6)] m8) (ifB (decide (x5 < 16)) (∃ p9,cell? m8 ⟨f,1035,none⟩=some (.pointer p9)∧onSome p9 fun p10=>(0≤x3∧x3 < ((316:Nat):Int))∧StW m8 (aplus p10 x3.toNat) (.int .i64 x5) fun m11=>K.kn [(0,.pointer (some ⟨f,0,none⟩)),(4,.int .i64 x1),(5,.int .i64 x2),(10,.int .i64 (IntKind.wrap .i64 (x3+1))),(11,.int .i64 x4),(12,.int .i64 x5),(13,v6)] m11) (ifB (x5 == 16) (ifB (x3 == 0) (∃ x12,cell? m8 ⟨f,2,none⟩=some (.int .i64 x12)∧K.kr [(0,.pointer (some ⟨f,0,none⟩)),(2,.iface t_flate_CorruptInputError (.int .i64 x12)),(4,.int .i64 x1),(5,.int .i64 x2),(10,.int .i64 x3),(11,.int .i64 x4),(12,.int .i64 x5),(13,v6),(14,.int .i64 3),(15,.int .u64 2),(16,.int .i64 0),(195,.int .i64 x5)] m8) (∃ p13,cell? m8 ⟨f,1035,none⟩=some (.pointer p13)∧onSome p13 fun p14=>(0≤(IntKind.wrap .i64 (x3 - 1))∧(IntKind.wrap .i64 (x3 - 1)) < ((316:Nat):Int))∧∃ x15,cell? m8 (aplus p14 ((IntKind.wrap .i64 (x3 - 1)).toNat))=some (.int .i64 x15)∧WPS PP 340 c_decompressor_readHuffman_rrrrrrrrrrrrrrlrllrlrrrrrrr (K.withX 9) [(0,.pointer (some ⟨f,0,none⟩)),(4,.int .i64 x1),(5,.int .i64 x2),(10,.int .i64 x3),(11,.int .i64 x4),(12,.int .i64 x5),(13,v6),(14,.int .i64 3),(15,.int .u64 2),(16,.int .i64 x15),(195,.int .i64 x5)] m8)) (ifB (x5 == 17) (WPS PP 340 c_decompressor_readHuffman_rrrrrrrrrrrrrrlrllrlrrrrrrr (K.withX 9) [(0,.pointer (some ⟨f,0,none⟩)),(4,.int .i64 x1),(5,.int .i64 x2),(10,.int .i64 x3),(11,.int .i64 x4),(12,.int .i64 x5),(13,v6),(14,.int .i64 3),(15,.int .u64 3),(16,.int .i64 0),(195,.int .i64 x5)] m8) (ifB (x5 == 18) (WPS PP 340 c_decompressor_readHuffman_rrrrrrrrrrrrrrlrllrlrrrrrrr (K.withX 9) [(0,.pointer (some ⟨f,0,none⟩)),(4,.int .i64 x1),(5,.int .i64 x2),(10,.int .i64 x3),(11,.int .i64 x4),(12,.int .i64 x5),(13,v6),(14,.int .i64 11),(15,.int .u64 7),(16,.int .i64 0),(195,.int .i64 x5)] m8) (K.kr [(0,.pointer (some ⟨f,0,none⟩)),(2,.iface t_flate_InternalError (.string (⟨#[117,110,101,120,112,101,99,116,101,100,32,108,101,110,103,116,104,32,99,111,100,101]⟩))),(4,.int .i64 x1),(5,.int .i64 x2),(10,.int .i64 x3),(11,.int .i64 x4),(12,.int .i64 x5),(13,v6),(14,.int .i64 0),(15,.int .u64 0),(16,.int .i64 0),(195,.int .i64 x5)] m8)))))) (K.kx 8 [(0,.pointer (some ⟨f,0,none⟩)),(4,.int .i64 x1),(5,.int .i64 x2),(10,.int .i64 x3),(11,.int .i64 x4)] m)):
  wpc PP FF 340 L_decompressor_readHuffman c_decompressor_readHuffman_rrrrrrrrrrrrrrlrll K [(0,.pointer (some ⟨f,0,none⟩)),(4,.int .i64 x1),(5,.int .i64 x2),(10,.int .i64 x3),(11,.int .i64 x4)] m:=
 Eq.mpr (by kernel_rfl) h
theorem p_decompressor_readHuffman_rrrrrrrrrrrlrllrlllll (f:Nat) (x1:Int) (x2:Int) (x3:Int) (x4:Int) (m:Mem) (K:Kont)
  (h:∃ x5,cell? m ⟨f,4,none⟩=some (.int .u64 x5)∧ifB (decide (x5 < 3)) (CallM PP f_decompressor_moreBits #[.pointer (some ⟨f,0,none⟩)] m fun v7 m8=>∃ v6,v7=v6∧isIfc v6=true∧ifB (!(isNil v6)) (K.kr [(0,.pointer (some ⟨f,0,none⟩)),(2,v6),(4,.int .i64 x1),(5,.int .i64 x2),(6,.int .i64 x3),(7,.int .i64 x4),(8,v6)] m8) (K.kn [(0,.pointer (some ⟨f,0,none⟩)),(4,.int .i64 x1),(5,.int .i64 x2),(6,.int .i64 x3),(7,.int .i64 x4),(8,v6)] m8)) (K.kx 4 [(0,.pointer (some ⟨f,0,none⟩)),(4,.int .i64 x1),(5,.int .i64 x2),(6,.int .i64 x3),(7,.int .i64 x4)] m)):
  wpc PP FF 340 L_decompressor_readHuffman c_decompressor_readHuffman_rrrrrrrrrrrlrllrlllll K [(0,.pointer (some ⟨f,0,none⟩)),(4,.int .i64 x1),(5,.int .i64 x2),(6,.int .i64 x3),(7,.int .i64 x4)] m:=
 Eq.mpr (by kernel_rfl) h
theorem p_decompressor_readHuffman_rrrrrrrrrrrrrrlrllrlrrrrrrrlll (f:Nat) (x1:Int) (x2:Int) (x3:Int) (x4:Int) (x5:Int) (x6:Int) (x7:Int) (m:Mem) (K:Kont)
  (h:∃ x8,cell? m ⟨f,4,none⟩=some (.int .u64 x8)∧ifB (decide (x8 < x6)) (CallM PP f_decompressor_moreBits #[.pointer (some ⟨f,0,none⟩)] m fun v10 m11=>∃ v9,v10=v9∧isIfc v9=true∧ifB (!(isNil v9)) (K.kr [(0,.pointer (some ⟨f,0,none⟩)),(2,v9),(4,.int .i64 x1),(5,.int .i64 x2),(10,.int .i64 x3),(11,.int .i64 x4),(14,.int .i64 x5),(15,.int .u64 x6),(16,.int .i64 x7),(17,v9)] m11) (K.kn [(0,.pointer (some ⟨f,0,none⟩)),(4,.int .i64 x1),(5,.int .i64 x2),(10,.int .i64 x3),(11,.int .i64 x4),(14,.int .i64 x5),(15,.int .u64 x6),(16,.int .i64 x7),(17,v9)] m11)) (K.kx 11 [(0,.pointer (some ⟨f,0,none⟩)),(4,.int .i64 x1),(5,.int .i64 x2),(10,.int .i64 x3),(11,.int .i64 x4),(14,.int .i64 x5),(15,.int .u64 x6),(16,.int .i64 x7)] m)):
  wpc PP FF 340 L_decompressor_readHuffman c_decompressor_readHuffman_rrrrrrrrrrrrrrlrllrlrrrrrrrlll K [(0,.pointer (some ⟨f,0,none⟩)),(4,.int .i64 x1),(5,.int .i64 x2),(10,.int .i64 x3),(11,.int .i64 x4),(14,.int .i64 x5),(15,.int .u64 x6),(16,.int .i64 x7)] m:=
 Eq.mpr (by kernel_rfl) h
theorem p_decompressor_readHuffman_rrrrrrrrrrrrrrlrllrlrrrrrrrrrrrrrll (f:Nat) (x1:Int) (x2:Int) (x3:Int) (x4:Int) (x5:Int) (x6:Int) (x7:Int) (m:Mem) (K:Kont)
  (h:ifB (decide (x7 < x5)) (∃ p8,cell? m ⟨f,1035,none⟩=some (.pointer p8)∧onSome p8 fun p9=>(0≤x3∧x3 < ((316:Nat):Int))∧StW m (aplus p9 x3.toNat) (.int .i64 x6) fun m10=>K.kn [(0,.pointer (some ⟨f,0,none⟩)),(4,.int .i64 x1),(5,.int .i64 x2),(10,.int .i64 (IntKind.wrap .i64 (x3+1))),(11,.int .i64 x4),(14,.int .i64 x5),(16,.int .i64 x6),(18,.int .i64 (IntKind.wrap .i64 (x7+1)))] m10) (K.kx 13 [(0,.pointer (some ⟨f,0,none⟩)),(4,.int .i64 x1),(5,.int .i64 x2),(10,.int .i64 x3),(11,.int .i64 x4),(14,.int .i64 x5),(16,.int .i64 x6),(18,.int .i64 x7)] m)):
  wpc PP FF 340 L_decompressor_readHuffman c_decompressor_readHuffman_rrrrrrrrrrrrrrlrllrlrrrrrrrrrrrrrll K [(0,.pointer (some ⟨f,0,none⟩)),(4,.int .i64 x1),(5,.int .i64 x2),(10,.int .i64 x3),(11,.int .i64 x4),(14,.int .i64 x5),(16,.int .i64 x6),(18,.int .i64 x7)] m:=
 Eq.mpr (by kernel_rfl) h
def k_decompressor_readHuffman_rrrrrrrrrrrr:List Nat:=[0,4,5,6]
theorem p_decompressor_readHuffman_rrrrrrrrrrrr (f:Nat) (x1:Int) (x2:Int) (x3:Int) (m:Mem) (K:Kont)
  (h:WPS PP 340 c_decompressor_readHuffman_rrrrrrrrrrrrlrl ((K.withN fun r m=>WPS PP 340 c_decompressor_readHuffman_rrrrrrrrrrrrr K r m).withX 6) [(0,.pointer (some ⟨f,0,none⟩)),(4,.int .i64 x1),(5,.int .i64 x2),(6,.int .i64 x3),(9,.int .i64 x3)] m):
  wpc PP FF 340 L_decompressor_readHuffman c_decompressor_readHuffman_rrrrrrrrrrrr K [(0,.pointer (some ⟨f,0,none⟩)),(4,.int .i64 x1),(5,.int .i64 x2),(6,.int .i64 x3)] m:=
 Eq.mpr (by kernel_rfl) h
theorem p_decompressor_readHuffman_rrrrrrrrrrrlrllrr (f:Nat) (x1:Int) (x2:Int) (x3:Int) (x4:Int) (m:Mem) (K:Kont)
  (h:K.kn [(0,.pointer (some ⟨f,0,none⟩)),(4,.int .i64 x1),(5,.int .i64 x2),(6,.int .i64 x3),(7,.int .i64 (IntKind.wrap .i64 (x4+1)))] m):
  wpc PP FF 340 L_decompressor_readHuffman c_decompressor_readHuffman_rrrrrrrrrrrlrllrr K [(0,.pointer (some ⟨f,0,none⟩)),(4,.int .i64 x1),(5,.int .i64 x2),(6,.int .i64 x3),(7,.int .i64 x4)] m:=
 Eq.mpr (by kernel_rfl) h
def k_decompressor_readHuffman_rrrrrrrrrrrlrllrllr:List Nat:=[0,4,5,6,7]
theorem p_decompressor_readHuffman_rrrrrrrrrrrlrllrllr (f:Nat) (x1:Int) (x2:Int) (x3:Int) (x4:Int) (m:Mem) (K:Kont)
  (h:∃ p5,cell? m ⟨f,1036,none⟩=some (.pointer p5)∧(0≤x4∧x4 < ((19:Nat):Int))∧∃ x6,cell? m ⟨g_inflate_codeOrder,0+x4.toNat,none⟩=some (.int .i64 x6)∧∃ x7,cell? m ⟨f,3,none⟩=some (.int .u32 x7)∧IntKind.u32=IntKind.u32∧onSome p5 fun p8=>(0≤x6∧x6 < ((19:Nat):Int))∧StW m (aplus p8 x6.toNat) (.int .i64 (IntKind.wrap .i64 (bitsOp .and .u32 x7 7))) fun m9=>∃ x10,cell? m9 ⟨f,3,none⟩=some (.int .u32 x10)∧0≤(3:Int)∧StW m9 ⟨f,3,none⟩ (.int .u32 (shrOp .u32 x10 3)) fun m11=>∃ x12,cell? m11 ⟨f,4,none⟩=some (.int .u64 x12)∧StW m11 ⟨f,4,none⟩ (.int .u64 (IntKind.wrap .u64 (x12 - 3))) fun m13=>K.kn [(0,.pointer (some ⟨f,0,none⟩)),(4,.int .i64 x1),(5,.int .i64 x2),(6,.int .i64 x3),(7,.int .i64 x4)] m13):
  wpc PP FF 340 L_decompressor_readHuffman c_decompressor_readHuffman_rrrrrrrrrrrlrllrllr K [(0,.pointer (some ⟨f,0,none⟩)),(4,.int .i64 x1),(5,.int .i64 x2),(6,.int .i64 x3),(7,.int .i64 x4)] m:=
 Eq.mpr (by kernel_rfl) h
def k_decompressor_readHuffman_rrrrrrrrrrrrrrlrllrlrrrrrrr:List Nat:=[0,4,5,10,11,14,15,16]
theorem p_decompressor_readHuffman_rrrrrrrrrrrrrrlrllrlrrrrrrr (f:Nat) (x1:Int) (x2:Int) (x3:Int) (x4:Int) (x5:Int) (x6:Int) (x7:Int) (m:Mem) (K:Kont)
  (h:WPS PP 340 c_decompressor_readHuffman_rrrrrrrrrrrrrrlrllrlrrrrrrrll ((K.withN fun r m=>WPS PP 340 c_decompressor_readHuffman_rrrrrrrrrrrrrrlrllrlrrrrrrrr K r m).withX 11) [(0,.pointer (some ⟨f,0,none⟩)),(4,.int .i64 x1),(5,.int .i64 x2),(10,.int .i64 x3),(11,.int .i64 x4),(14,.int .i64 x5),(15,.int .u64 x6),(16,.int .i64 x7)] m):
  wpc PP FF 340 L_decompressor_readHuffman c_decompressor_readHuffman_rrrrrrrrrrrrrrlrllrlrrrrrrr K [(0,.pointer (some ⟨f,0,none⟩)),(4,.int .i64 x1),(5,.int .i64 x2),(10,.int .i64 x3),(11,.int .i64 x4),(14,.int .i64 x5),(15,.int .u64 x6),(16,.int .i64 x7)] m:=
 Eq.mpr (by kernel_rfl) h
def k_decompressor_readHuffman_rrrrrrrrrrrrr:List Nat:=[0,4,5]
theorem p_decompressor_readHuffman_rrrrrrrrrrrrr (f:Nat) (x1:Int) (x2:Int) (m:Mem) (K:Kont)
  (h:∃ p3,cell? m ⟨f,1036,none⟩=some (.pointer p3)∧onSome p3 fun p4=>(0≤(0:Int)∧(0:Int)≤(19:Int))∧CallM PP f_huffmanDecoder_init #[.pointer (some ⟨f,5,none⟩),.slice (some (aplus p4 0)) 19 19] m fun v6 m7=>∃ b5,v6=.bool b5∧ifB (!b5) (∃ x8,cell? m7 ⟨f,2,none⟩=some (.int .i64 x8)∧K.kr [(0,.pointer (some ⟨f,0,none⟩)),(2,.iface t_flate_CorruptInputError (.int .i64 x8)),(4,.int .i64 x1),(5,.int .i64 x2)] m7) (WPS PP 340 c_decompressor_readHuffman_rrrrrrrrrrrrrrlrl ((K.withN fun r m=>WPS PP 340 c_decompressor_readHuffman_rrrrrrrrrrrrrrr K r m).withX 8) [(0,.pointer (some ⟨f,0,none⟩)),(4,.int .i64 x1),(5,.int .i64 x2),(10,.int .i64 0),(11,.int .i64 (IntKind.wrap .i64 (x1+x2)))] m7)):
  wpc PP FF 340 L_decompressor_readHuffman c_decompressor_readHuffman_rrrrrrrrrrrrr K [(0,.pointer (some ⟨f,0,none⟩)),(4,.int .i64 x1),(5,.int .i64 x2)] m:=
 Eq.mpr (by kernel_rfl) h
def k_decompressor_readHuffman_rrrrrrrrrrrrrrlrllrlrrrrrrrr:List Nat:=[0,4,5,10,11,14,15,16]
theorem p_decompressor_readHuffman_rrrrrrrrrrrrrrlrllrlrrrrrrrr (f:Nat) (x1:Int) (x2:Int) (x3:Int) (x4:Int) (x5:Int) (x6:Int) (x7:Int) (m:Mem) (K:Kont)
  (h:∃ x8,cell? m ⟨f,3,none⟩=some (.int .u32 x8)∧0≤x6∧IntKind.u32=IntKind.u32∧∃ x9,cell? m ⟨f,3,none⟩=some (.int .u32 x9)∧0≤x6∧StW m ⟨f,3,none⟩ (.int .u32 (shrOp .u32 x9 x6)) fun m10=>∃ x11,cell? m10 ⟨f,4,none⟩=some (.int .u64 x11)∧StW m10 ⟨f,4,none⟩ (.int .u64 (IntKind.wrap .u64 (x11 - x6))) fun m12=>ifB (decide ((IntKind.wrap .i64 (x3+(IntKind.wrap .i64 (x5+(IntKind.wrap .i64 (bitsOp .and .u32 x8 (IntKind.wrap .u32 ((shlOp .u32 1 x6) - 1)))))))) > x4)) (∃ x13,cell? m12 ⟨f,2,none⟩=some (.int .i64 x13)∧K.kr [(0,.pointer (some ⟨f,0,none⟩)),(2,.iface t_flate_CorruptInputError (.int .i64 x13)),(4,.int .i64 x1),(5,.int .i64 x2),(10,.int .i64 x3),(11,.int .i64 x4),(14,.int .i64 (IntKind.wrap .i64 (x5+(IntKind.wrap .i64 (bitsOp .and .u32 x8 (IntKind.wrap .u32 ((shlOp .u32 1 x6) - 1))))))),(15,.int .u64 x6),(16,.int .i64 x7)] m12) (WPS PP 340 c_decompressor_readHuffman_rrrrrrrrrrrrrrlrllrlrrrrrrrrrrrrrl (K.withX 13) [(0,.pointer (some ⟨f,0,none⟩)),(4,.int .i64 x1),(5,.int .i64 x2),(10,.int .i64 x3),(11,.int .i64 x4),(14,.int .i64 (IntKind.wrap .i64 (x5+(IntKind.wrap .i64 (bitsOp .and .u32 x8 (IntKind.wrap .u32 ((shlOp .u32 1 x6) - 1))))))),(15,.int .u64 x6),(16,.int .i64 x7),(18,.int .i64 0)] m12)):
  wpc PP FF 340 L_decompressor_readHuffman c_decompressor_readHuffman_rrrrrrrrrrrrrrlrllrlrrrrrrrr K [(0,.pointer (some ⟨f,0,none⟩)),(4,.int .i64 x1),(5,.int .i64 x2),(10,.int .i64 x3),(11,.int .i64 x4),(14,.int .i64 x5),(15,.int .u64 x6),(16,.int .i64 x7)] m:=
 Eq.mpr (by kernel_rfl) h
def k_decompressor_readHuffman_rrrrrrrrrrrrrrr:List Nat:=[0,4,5]
theorem p_decompressor_readHuffman_rrrrrrrrrrrrrrr (f:Nat) (x1:Int) (x2:Int) (m:Mem) (K:Kont)
  (h:∃ p3,cell? m ⟨f,1035,none⟩=some (.pointer p3)∧onSome p3 fun p4=>(0≤x1∧x1≤(316:Int))∧(0≤(0:Int)∧(0:Int)≤x1)∧CallM PP f_huffmanDecoder_init #[.pointer (some ⟨f,5,none⟩),.slice (some (aplus p4 0)) (x1.toNat - 0) 316] m fun v6 m7=>∃ b5,v6=.bool b5∧ifB (!b5) (∃ x8,cell? m7 ⟨f,2,none⟩=some (.int .i64 x8)∧K.kr [(0,.pointer (some ⟨f,0,none⟩)),(2,.iface t_flate_CorruptInputError (.int .i64 x8)),(4,.int .i64 x1),(5,.int .i64 x2)] m7) (∃ p9,cell? m7 ⟨f,1035,none⟩=some (.pointer p9)∧onSome p9 fun p10=>(0≤(IntKind.wrap .i64 (x1+x2))∧(IntKind.wrap .i64 (x1+x2))≤(316:Int))∧(0≤x1∧x1≤(IntKind.wrap .i64 (x1+x2)))∧CallM PP f_huffmanDecoder_init #[.pointer (some ⟨f,520,none⟩),.slice (some (if 316=x1.toNat then p10 else aplus p10 x1.toNat)) ((IntKind.wrap .i64 (x1+x2)).toNat - x1.toNat) (316 - x1.toNat)] m7 fun v12 m13=>∃ b11,v12=.bool b11∧ifB (!b11) (∃ x14,cell? m13 ⟨f,2,none⟩=some (.int .i64 x14)∧K.kr [(0,.pointer (some ⟨f,0,none⟩)),(2,.iface t_flate_CorruptInputError (.int .i64 x14)),(4,.int .i64 x1),(5,.int .i64 x2)] m13) (∃ x15,cell? m13 ⟨f,5,none⟩=some (.int .i64 x15)∧∃ p16,cell? m13 ⟨f,1035,none⟩=some (.pointer p16)∧onSome p16 fun p17=>(0≤(256:Int)∧(256:Int) < ((316:Nat):Int))∧∃ x18,cell? m13 (aplus p17 256)=some (.int .i64 x18)∧ifB (decide (x15 < x18)) (∃ p19,cell? m13 ⟨f,1035,none⟩=some (.pointer p19)∧onSome p19 fun p20=>(0≤(256:Int)∧(256:Int) < ((316:Nat):Int))∧∃ x21,cell? m13 (aplus p20 256)=some (.int .i64 x21)∧StW m13 ⟨f,5,none⟩ (.int .i64 x21) fun m22=>WPS PP 340 c_decompressor_readHuffman_rrrrrrrrrrrrrrrrr K [(0,.pointer (some ⟨f,0,none⟩)),(4,.int .i64 x1),(5,.int .i64 x2)] m22) (WPS PP 340 c_decompressor_readHuffman_rrrrrrrrrrrrrrrrr K [(0,.pointer (some ⟨f,0,none⟩)),(4,.int .i64 x1),(5,.int .i64 x2)] m13)))):
  wpc PP FF 340 L_decompressor_readHuffman c_decompressor_readHuffman_rrrrrrrrrrrrrrr K [(0,.pointer (some ⟨f,0,none⟩)),(4,.int .i64 x1),(5,.int .i64 x2)] m:=
 Eq.mpr (by kernel_rfl) h
def k_decompressor_readHuffman_rrrrrrrrrrrrrrrrr:List Nat:=[]
theorem p_decompressor_readHuffman_rrrrrrrrrrrrrrrrr  (m:Mem) (K:Kont)
  (h:K.kr [(2,.nilIface)] m  ):
  wpc PP FF 340 L_decompressor_readHuffman c_decompressor_readHuffman_rrrrrrrrrrrrrrrrr K [] m:=
 Eq.mpr (by kernel_rfl) h
def L_errors_As:List Nat:=[0,1,4,5,6,7,9,11,23,35]
def r_errors_As:List ResultVar:=[.tmp 4]
noncomputable def c_errors_As:Code:=(Go.Proofs.Tryz.f34.body).getD .skip
theorem b_errors_As:Go.Proofs.Tryz.f34.body=some c_errors_As:=by kernel_rfl
noncomputable def c_errors_As_rrr:Code:=(rgt (rgt (rgt c_errors_As)))
noncomputable def c_errors_As_rrrrrr:Code:=(rgt (rgt (rgt c_errors_As_rrr)))
noncomputable def c_errors_As_rrrrrrrr:Code:=(rgt (rgt c_errors_As_rrrrrr))
theorem e_errors_As (v1:Value) (v2:Value) (m:Mem) (R:Value→Mem→Prop)
  (h:isIfc v1=true∧ifB (isNil v1) (R (.bool false) m) (isIfc v2=true∧ifB (isNil v2) (False) (WPS PP 42 c_errors_As_rrr (retK PP r_errors_As R) [(0,v1),(1,v2),(4,.bool false)] m))):
  CallM PP f_errors_As #[v1,v2] m R:=
 callM_enter ffOk mixedOk 42 L_errors_As Tryz.func34 b_errors_As Tryz.ntmps34 (by simp) (Eq.mpr (by kernel_rfl) h)
theorem p_errors_As_rrr (v1:Value) (v2:Value) (m:Mem) (K:Kont)
  (h:SemW PP (callVal (.func (.func f_reflectlite_ValueOf) #[] #[]) #[v2]) m (NextW PP fun v4 m5=>∃ v3,v4=v3∧AllocW PP t_reflectlite_Value m5 fun n6 m7=>StAgg PP t_reflectlite_Value m7 ⟨n6,0,none⟩ v3 fun m8=>∃ p9 v10 x11,([.pointer p9,v10,.int .u64 x11]:List Value).length=3∧CellsAre m8 ⟨n6,0,none⟩ 0 [.pointer p9,v10,.int .u64 x11]∧SemW PP (callVal (.func (.func f_reflectlite_Value_Type) #[] #[]) #[.agg #[.pointer p9,v10,.int .u64 x11]]) m8 (NextW PP fun v13 m14=>∃ v12,v13=v12∧SemW PP (callMethod v12 "Kind" #[]) m14 (NextW PP fun v16 m17=>∃ x15,v16=.int .u8 x15∧ifB (x15 != 22) (False) (∃ p18 v19 x20,([.pointer p18,v19,.int .u64 x20]:List Value).length=3∧CellsAre m17 ⟨n6,0,none⟩ 0 [.pointer p18,v19,.int .u64 x20]∧SemW PP (callVal (.func (.func f_reflectlite_Value_IsNil) #[] #[]) #[.agg #[.pointer p18,v19,.int .u64 x20]]) m17 (NextW PP fun v22 m23=>∃ b21,v22=.bool b21∧ifB b21 (False) (WPS PP 42 c_errors_As_rrrrrr K [(0,v1),(1,v2),(5,.pointer (some ⟨n6,0,none⟩)),(6,v12)] m23))))))):
  wpc PP FF 42 L_errors_As c_errors_As_rrr K [(0,v1),(1,v2)] m:=
 Eq.mpr (by kernel_rfl) h
theorem p_errors_As_rrrrrr (v1:Value) (v2:Value) (n3:Nat) (v4:Value) (m:Mem) (K:Kont)
  (h:SemW PP (callMethod v4 "Elem" #[]) m (NextW PP fun v6 m7=>∃ v5,v6=v5∧SemW PP (callMethod v5 "Kind" #[]) m7 (NextW PP fun v9 m10=>∃ x8,v9=.int .u8 x8∧ifB (x8 != 20) (∃ v11,cell? m10 ⟨g_errors_errorType,0,none⟩=some (v11)∧SemW PP (callMethod v5 "Implements" #[v11]) m10 (NextW PP fun v13 m14=>∃ b12,v13=.bool b12∧ifB (!b12) (False) (WPS PP 42 c_errors_As_rrrrrrrr K [(0,v1),(1,v2),(5,.pointer (some ⟨n3,0,none⟩)),(6,v4),(7,v5)] m14))) (WPS PP 42 c_errors_As_rrrrrrrr K [(0,v1),(1,v2),(5,.pointer (some ⟨n3,0,none⟩)),(6,v4),(7,v5)] m10)))):
  wpc PP FF 42 L_errors_As c_errors_As_rrrrrr K [(0,v1),(1,v2),(5,.pointer (some ⟨n3,0,none⟩)),(6,v4)] m:=
 Eq.mpr (by kernel_rfl) h
theorem p_errors_As_rrrrrrrr (v1:Value) (v2:Value) (n3:Nat) (v4:Value) (m:Mem) (K:Kont)
  (h:∃ p5 v6 x7,([.pointer p5,v6,.int .u64 x7]:List Value).length=3∧CellsAre m ⟨n3,0,none⟩ 0 [.pointer p5,v6,.int .u64 x7]∧CallM PP f_errors_as #[v1,v2,.agg #[.pointer p5,v6,.int .u64 x7],v4] m fun v9 m10=>∃ b8,v9=.bool b8∧K.kr [(0,v1),(1,v2),(4,.bool b8),(5,.pointer (some ⟨n3,0,none⟩)),(7,v4)] m10):
  wpc PP FF 42 L_errors_As c_errors_As_rrrrrrrr K [(0,v1),(1,v2),(5,.pointer (some ⟨n3,0,none⟩)),(7,v4)] m:=
 Eq.mpr (by kernel_rfl) h
def L_state_give:List Nat:=[0,1,6,12]
def r_state_give:List ResultVar:=[]
noncomputable def c_state_give:Code:=(Go.Proofs.Tryz.f35.body).getD .skip
theorem b_state_give:Go.Proofs.Tryz.f35.body=some c_state_give:=by kernel_rfl
theorem e_state_give (s:Nat) (x1:Int) (m:Mem) (R:Value→Mem→Prop)
  (h:CallM PP f_state_on #[.pointer (some ⟨s,0,none⟩)] m fun v3 m4=>∃ b2,v3=.bool b2∧ifB (!b2) (R (.tuple #[]) m4) (∃ a5 l6 k7,cell? m4 ⟨s,3,none⟩=some (.slice a5 l6 k7)∧ifB (decide ((l6:Int) ≥ 131072)) (CallM PP f_state_stop #[.pointer (some ⟨s,0,none⟩),.int .i64 4] m4 fun v8 m9=>v8=.tuple #[]∧R (.tuple #[]) m9) (∃ a10 l11 k12,cell? m4 ⟨s,3,none⟩=some (.slice a10 l11 k12)∧SemW PP (sv (Instr.buildSlice t_s_uint8 1 #[(0,.int .u8 x1)])) m4 (NextW PP fun v16 m17=>∃ a13 l14 k15,v16=.slice a13 l14 k15∧SemW PP (builtin .append #[t_s_uint8,t_s_uint8] t_s_uint8 #[false,false] #[.slice a10 l11 k12,.slice a13 l14 k15]) m17 (NextW PP fun v21 m22=>∃ a18 l19 k20,v21=.slice a18 l19 k20∧StW m22 ⟨s,3,none⟩ (.slice a18 l19 k20) fun m23=>R (.tuple #[]) m23))))):
  CallM PP f_state_give #[.pointer (some ⟨s,0,none⟩),.int .u8 x1] m R:=
 callM_enter ffOk mixedOk 25 L_state_give Tryz.func35 b_state_give Tryz.ntmps35 (by simp) (Eq.mpr (by kernel_rfl) h)
def L_spec_book:List Nat:=[0,2,3,4,5,8,9,10,11,19]
def r_spec_book:List ResultVar:=[.tmp 2]
noncomputable def c_spec_book:Code:=(Go.Proofs.Tryz.f36.body).getD .skip
theorem b_spec_book:Go.Proofs.Tryz.f36.body=some c_spec_book:=by kernel_rfl
noncomputable def c_spec_book_rrr:Code:=(rgt (rgt (rgt c_spec_book)))
noncomputable def c_spec_book_rrlrl:Code:=(lft (rgt (lft (rgt (rgt c_spec_book)))))
noncomputable def c_spec_book_rrlrll:Code:=(lft c_spec_book_rrlrl)
noncomputable def c_spec_book_rrlrllrrr:Code:=(rgt (rgt (rgt c_spec_book_rrlrll)))
theorem q_spec_book_rrlrl:c_spec_book_rrlrl=.loop c_spec_book_rrlrll:=by kernel_rfl
theorem e_spec_book (a1:Option Addr) (l2:Nat) (k3:Nat) (m:Mem) (R:Value→Mem→Prop)
  (h:SemW PP (sv (Instr.makeMap t_map_int_int none)) m (NextW PP fun v5 m6=>∃ r4,v5=.map r4∧CallM PP f_spec_Codes #[.slice a1 l2 k3] m6 fun v10 m11=>∃ a7 l8 k9,v10=.slice a7 l8 k9∧WPS PP 31 c_spec_book_rrlrl (((retK PP r_spec_book R).withN fun r m=>WPS PP 31 c_spec_book_rrr (retK PP r_spec_book R) r m).withX 0) [(0,.slice a1 l2 k3),(2,.map none),(3,.map r4),(8,.slice a7 l8 k9),(9,.int .i64 (l8:Int)),(10,.int .i64 0)] m11)):
  CallM PP f_spec_book #[.slice a1 l2 k3] m R:=
 callM_enter ffOk mixedOk 31 L_spec_book Tryz.func36 b_spec_book Tryz.ntmps36 (by simp) (Eq.mpr (by kernel_rfl) h)
theorem p_spec_book_rrr (r1:Option Nat) (m:Mem) (K:Kont)
  (h:K.kr [(2,.map r1),(3,.map r1)] m):
  wpc PP FF 31 L_spec_book c_spec_book_rrr K [(3,.map r1)] m:=
 Eq.mpr (by kernel_rfl) h
theorem p_spec_book_rrlrll (a1:Option Addr) (l2:Nat) (k3:Nat) (r4:Option Nat) (a5:Option Addr) (l6:Nat) (k7:Nat) (x8:Int) (x9:Int) (m:Mem) (K:Kont)
  (h:ifB (decide (x9 < x8)) (onSome a5 fun p10=>(0≤x9∧x9 < (l6:Int))∧∃ x11,cell? m (aplus p10 x9.toNat)=some (.int .i64 x11)∧onSome a1 fun p12=>(0≤x9∧x9 < (l2:Int))∧∃ x13,cell? m (aplus p12 x9.toNat)=some (.int .i64 x13)∧ifB (decide (x13 > 0)) (onSome a1 fun p14=>(0≤x9∧x9 < (l2:Int))∧∃ x15,cell? m (aplus p14 x9.toNat)=some (.int .i64 x15)∧0≤x15∧IntKind.i64=IntKind.i64∧SemW PP (su (Instr.mapUpdate t_map_int_int (.map r4) (.int .i64 (bitsOp .or .i64 (shlOp .i64 1 x15) x11)) (.int .i64 x9))) m (NextW PP fun v16 m17=>v16=.tuple #[]∧WPS PP 31 c_spec_book_rrlrllrrr K [(0,.slice a1 l2 k3),(3,.map r4),(4,.int .i64 x9),(5,.int .i64 x11),(8,.slice a5 l6 k7),(9,.int .i64 x8),(10,.int .i64 x9)] m17)) (WPS PP 31 c_spec_book_rrlrllrrr K [(0,.slice a1 l2 k3),(3,.map r4),(4,.int .i64 x9),(5,.int .i64 x11),(8,.slice a5 l6 k7),(9,.int .i64 x8),(10,.int .i64 x9)] m)) (K.kx 0 [(0,.slice a1 l2 k3),(3,.map r4),(8,.slice a5 l6 k7),(9,.int .i64 x8),(10,.int .i64 x9)] m)):
  wpc PP FF 31 L_spec_book c_spec_book_rrlrll K [(0,.slice a1 l2 k3),(3,.map r4),(8,.slice a5 l6 k7),(9,.int .i64 x8),(10,.int .i64 x9)] m:=
 Eq.mpr (by kernel_rfl) h
theorem p_spec_book_rrlrllrrr (a1:Option Addr) (l2:Nat) (k3:Nat) (r4:Option Nat) (a5:Option Addr) (l6:Nat) (k7:Nat) (x8:Int) (x9:Int) (m:Mem) (K:Kont)
  (h:K.kn [(0,.slice a1 l2 k3),(3,.map r4),(8,.slice a5 l6 k7),(9,.int .i64 x8),(10,.int .i64 (IntKind.wrap .i64 (x9+1)))] m):
  wpc PP FF 31 L_spec_book c_spec_book_rrlrllrrr K [(0,.slice a1 l2 k3),(3,.map r4),(8,.slice a5 l6 k7),(9,.int .i64 x8),(10,.int .i64 x9)] m:=
 Eq.mpr (by kernel_rfl) h
def L_state_symbol:List Nat:=[0,1,4,5,6,7,8,9,17,24,34]
def r_state_symbol:List ResultVar:=[.tmp 4]
noncomputable def c_state_symbol:Code:=(Go.Proofs.Tryz.f37.body).getD .skip
theorem b_state_symbol:Go.Proofs.Tryz.f37.body=some c_state_symbol:=by kernel_rfl
noncomputable def c_state_symbol_rrr:Code:=(rgt (rgt (rgt c_state_symbol)))
noncomputable def c_state_symbol_rrlrl:Code:=(lft (rgt (lft (rgt (rgt c_state_symbol)))))
noncomputable def c_state_symbol_rrlrll:Code:=(lft c_state_symbol_rrlrl)
theorem q_state_symbol_rrlrl:c_state_symbol_rrlrl=.loop c_state_symbol_rrlrll:=by kernel_rfl
theorem e_state_symbol (s:Nat) (r1:Option Nat) (m:Mem) (R:Value→Mem→Prop)
  (h:WPS PP 38 c_state_symbol_rrlrl (((retK PP r_state_symbol R).withN fun r m=>WPS PP 38 c_state_symbol_rrr (retK PP r_state_symbol R) r m).withX 0) [(0,.pointer (some ⟨s,0,none⟩)),(1,.map r1),(4,.int .i64 0),(5,.int .i64 1),(8,.int .i64 0)] m):
  CallM PP f_state_symbol #[.pointer (some ⟨s,0,none⟩),.map r1] m R:=
 callM_enter ffOk mixedOk 38 L_state_symbol Tryz.func37 b_state_symbol Tryz.ntmps37 (by simp) (Eq.mpr (by kernel_rfl) h)
theorem p_state_symbol_rrr (s:Nat) (m:Mem) (K:Kont)
  (h:CallM PP f_state_stop #[.pointer (some ⟨s,0,none⟩),.int .i64 0] m fun v1 m2=>v1=.tuple #[]∧K.kr [(0,.pointer (some ⟨s,0,none⟩)),(4,.int .i64 0)] m2  ):
  wpc PP FF 38 L_state_symbol c_state_symbol_rrr K [(0,.pointer (some ⟨s,0,none⟩))] m:=
 Eq.mpr (by kernel_rfl) h
theorem p_state_symbol_rrlrll (s:Nat) (r1:Option Nat) (x2:Int) (x3:Int) (m:Mem) (K:Kont)
  (h:ifB (decide (x3 < 15)) (CallM PP f_state_bit #[.pointer (some ⟨s,0,none⟩)] m fun v5 m6=>∃ x4,v5=.int .i64 x4∧CallM PP f_state_on #[.pointer (some ⟨s,0,none⟩)] m6 fun v8 m9=>∃ b7,v8=.bool b7∧ifB (!b7) (K.kr [(0,.pointer (some ⟨s,0,none⟩)),(1,.map r1),(4,.int .i64 0),(5,.int .i64 (IntKind.wrap .i64 ((IntKind.wrap .i64 (2 * x2))+x4))),(8,.int .i64 x3)] m9) (ReadW PP m9 (Instr.lookup t_map_int_int (.map r1) (.int .i64 (IntKind.wrap .i64 ((IntKind.wrap .i64 (2 * x2))+x4))) true) fun u12=>∃ x10 b11,u12=.tuple #[.int .i64 x10,.bool b11]∧ifB b11 (K.kr [(0,.pointer (some ⟨s,0,none⟩)),(1,.map r1),(4,.int .i64 x10),(5,.int .i64 (IntKind.wrap .i64 ((IntKind.wrap .i64 (2 * x2))+x4))),(6,.int .i64 x10),(7,.bool b11),(8,.int .i64 x3)] m9) (ReadW PP m9 (Builtin.len_ #[t_map_int_int] t_int #[.map r1]) fun u14=>∃ x13,u14=.int .i64 x13∧ifB (decide (x13 < 2)) (CallM PP f_spec_leads #[.map r1,.int .i64 (IntKind.wrap .i64 ((IntKind.wrap .i64 (2 * x2))+x4))] m9 fun v16 m17=>∃ b15,v16=.bool b15∧ifB (!b15) (K.kx 0 [(0,.pointer (some ⟨s,0,none⟩)),(1,.map r1),(5,.int .i64 (IntKind.wrap .i64 ((IntKind.wrap .i64 (2 * x2))+x4))),(6,.int .i64 x10),(7,.bool b11),(8,.int .i64 x3)] m17) (K.kn [(0,.pointer (some ⟨s,0,none⟩)),(1,.map r1),(5,.int .i64 (IntKind.wrap .i64 ((IntKind.wrap .i64 (2 * x2))+x4))),(6,.int .i64 x10),(7,.bool b11),(8,.int .i64 (IntKind.wrap .i64 (x3+1)))] m17)) (K.kn [(0,.pointer (some ⟨s,0,none⟩)),(1,.map r1),(5,.int .i64 (IntKind.wrap .i64 ((IntKind.wrap .i64 (2 * x2))+x4))),(6,.int .i64 x10),(7,.bool b11),(8,.int .i64 (IntKind.wrap .i64 (x3+1)))] m9)))) (K.kx 0 [(0,.pointer (some ⟨s,0,none⟩)),(1,.map r1),(5,.int .i64 x2),(8,.int .i64 x3)] m)):
  wpc PP FF 38 L_state_symbol c_state_symbol_rrlrll K [(0,.pointer (some ⟨s,0,none⟩)),(1,.map r1),(5,.int .i64 x2),(8,.int .i64 x3)] m:=
 Eq.mpr (by kernel_rfl) h
def L_spec_Length:List Nat:=[0,2,3,4,5,8,17]
def r_spec_Length:List ResultVar:=[.tmp 2,.tmp 3]
noncomputable def c_spec_Length:Code:=(Go.Proofs.Tryz.f38.body).getD .skip
theorem b_spec_Length:Go.Proofs.Tryz.f38.body=some c_spec_Length:=by kernel_rfl
theorem e_spec_Length (x1:Int) (m:Mem) (R:Value→Mem→Prop)
  (h:ifB (x1 == 285) (R (.tuple #[.int .i64 258,.int .i64 0]) m) (ifB (decide (x1 ≥ 257)) (ifB (decide (x1≤264)) (R (.tuple #[.int .i64 (IntKind.wrap .i64 (x1 - 254)),.int .i64 0]) m) (ifB (decide (x1 ≥ 265)) (ifB (decide (x1≤284)) (IntKind.i64=IntKind.i64∧(4:Int)≠0∧IntKind.i64=IntKind.i64∧(4:Int)≠0∧0≤(IntKind.wrap .i64 (Int.tdiv (IntKind.wrap .i64 (x1 - 261)) 4))∧R (.tuple #[.int .i64 (IntKind.wrap .i64 (3+(shlOp .i64 (IntKind.wrap .i64 (4+(Int.tmod (IntKind.wrap .i64 (x1 - 261)) 4))) (IntKind.wrap .i64 (Int.tdiv (IntKind.wrap .i64 (x1 - 261)) 4))))),.int .i64 (IntKind.wrap .i64 (Int.tdiv (IntKind.wrap .i64 (x1 - 261)) 4))]) m) (R (.tuple #[.int .i64 0,.int .i64 0]) m)) (R (.tuple #[.int .i64 0,.int .i64 0]) m))) (ifB (decide (x1 ≥ 265)) (ifB (decide (x1≤284)) (IntKind.i64=IntKind.i64∧(4:Int)≠0∧IntKind.i64=IntKind.i64∧(4:Int)≠0∧0≤(IntKind.wrap .i64 (Int.tdiv (IntKind.wrap .i64 (x1 - 261)) 4))∧R (.tuple #[.int .i64 (IntKind.wrap .i64 (3+(shlOp .i64 (IntKind.wrap .i64 (4+(Int.tmod (IntKind.wrap .i64 (x1 - 261)) 4))) (IntKind.wrap .i64 (Int.tdiv (IntKind.wrap .i64 (x1 - 261)) 4))))),.int .i64 (IntKind.wrap .i64 (Int.tdiv (IntKind.wrap .i64 (x1 - 261)) 4))]) m) (R (.tuple #[.int .i64 0,.int .i64 0]) m)) (R (.tuple #[.int .i64 0,.int .i64 0]) m)))):
  CallM PP f_spec_Length #[.int .i64 x1] m R:=
 callM_enter ffOk mixedOk 35 L_spec_Length Tryz.func38 b_spec_Length Tryz.ntmps38 (by simp) (Eq.mpr (by kernel_rfl) h)
def L_spec_used:List Nat:=[0,2,3,5,6,7,8,9,13]
def r_spec_used:List ResultVar:=[.tmp 2]
noncomputable def c_spec_used:Code:=(Go.Proofs.Tryz.f39.body).getD .skip
theorem b_spec_used:Go.Proofs.Tryz.f39.body=some c_spec_used:=by kernel_rfl
noncomputable def c_spec_used_rrr:Code:=(rgt (rgt (rgt c_spec_used)))
noncomputable def c_spec_used_rrlrl:Code:=(lft (rgt (lft (rgt (rgt c_spec_used)))))
noncomputable def c_spec_used_rrlrll:Code:=(lft c_spec_used_rrlrl)
noncomputable def c_spec_used_rrlrllrrr:Code:=(rgt (rgt (rgt c_spec_used_rrlrll)))
theorem q_spec_used_rrlrl:c_spec_used_rrlrl=.loop c_spec_used_rrlrll:=by kernel_rfl
theorem e_spec_used (a1:Option Addr) (l2:Nat) (k3:Nat) (m:Mem) (R:Value→Mem→Prop)
  (h:WPS PP 18 c_spec_used_rrlrl (((retK PP r_spec_used R).withN fun r m=>WPS PP 18 c_spec_used_rrr (retK PP r_spec_used R) r m).withX 0) [(0,.slice a1 l2 k3),(2,.int .i64 0),(3,.int .i64 0),(6,.slice a1 l2 k3),(7,.int .i64 (l2:Int)),(8,.int .i64 0)] m):
  CallM PP f_spec_used #[.slice a1 l2 k3] m R:=
 callM_enter ffOk mixedOk 18 L_spec_used Tryz.func39 b_spec_used Tryz.ntmps39 (by simp) (Eq.mpr (by kernel_rfl) h)
theorem p_spec_used_rrr (x1:Int) (m:Mem) (K:Kont)
  (h:K.kr [(2,.int .i64 x1),(3,.int .i64 x1)] m):
  wpc PP FF 18 L_spec_used c_spec_used_rrr K [(3,.int .i64 x1)] m:=
 Eq.mpr (by kernel_rfl) h
theorem p_spec_used_rrlrll (x1:Int) (a2:Option Addr) (l3:Nat) (k4:Nat) (x5:Int) (x6:Int) (m:Mem) (K:Kont)
  (h:ifB (decide (x6 < x5)) (onSome a2 fun p7=>(0≤x6∧x6 < (l3:Int))∧∃ x8,cell? m (aplus p7 x6.toNat)=some (.int .i64 x8)∧ifB (decide (x8 > 0)) (WPS PP 18 c_spec_used_rrlrllrrr K [(3,.int .i64 (IntKind.wrap .i64 (x1+1))),(5,.int .i64 x8),(6,.slice a2 l3 k4),(7,.int .i64 x5),(8,.int .i64 x6)] m) (WPS PP 18 c_spec_used_rrlrllrrr K [(3,.int .i64 x1),(5,.int .i64 x8),(6,.slice a2 l3 k4),(7,.int .i64 x5),(8,.int .i64 x6)] m)) (K.kx 0 [(3,.int .i64 x1),(6,.slice a2 l3 k4),(7,.int .i64 x5),(8,.int .i64 x6)] m)):
  wpc PP FF 18 L_spec_used c_spec_used_rrlrll K [(3,.int .i64 x1),(6,.slice a2 l3 k4),(7,.int .i64 x5),(8,.int .i64 x6)] m:=
 Eq.mpr (by kernel_rfl) h
theorem p_spec_used_rrlrllrrr (x1:Int) (a2:Option Addr) (l3:Nat) (k4:Nat) (x5:Int) (x6:Int) (m:Mem) (K:Kont)
  (h:K.kn [(3,.int .i64 x1),(6,.slice a2 l3 k4),(7,.int .i64 x5),(8,.int .i64 (IntKind.wrap .i64 (x6+1)))] m):
  wpc PP FF 18 L_spec_used c_spec_used_rrlrllrrr K [(3,.int .i64 x1),(6,.slice a2 l3 k4),(7,.int .i64 x5),(8,.int .i64 x6)] m:=
 Eq.mpr (by kernel_rfl) h
def L_spec_Distance:List Nat:=[0,2,3,4,5,14]
def r_spec_Distance:List ResultVar:=[.tmp 2,.tmp 3]
noncomputable def c_spec_Distance:Code:=(Go.Proofs.Tryz.f40.body).getD .skip
theorem b_spec_Distance:Go.Proofs.Tryz.f40.body=some c_spec_Distance:=by kernel_rfl
theorem e_spec_Distance (x1:Int) (m:Mem) (R:Value→Mem→Prop)
  (h:ifB (decide (x1 ≥ 0)) (ifB (decide (x1≤3)) (R (.tuple #[.int .i64 (IntKind.wrap .i64 (x1+1)),.int .i64 0]) m) (ifB (decide (x1 ≥ 4)) (ifB (decide (x1≤29)) (IntKind.i64=IntKind.i64∧(2:Int)≠0∧IntKind.i64=IntKind.i64∧(2:Int)≠0∧0≤(IntKind.wrap .i64 ((IntKind.wrap .i64 (Int.tdiv x1 2)) - 1))∧R (.tuple #[.int .i64 (IntKind.wrap .i64 (1+(shlOp .i64 (IntKind.wrap .i64 (2+(Int.tmod x1 2))) (IntKind.wrap .i64 ((IntKind.wrap .i64 (Int.tdiv x1 2)) - 1))))),.int .i64 (IntKind.wrap .i64 ((IntKind.wrap .i64 (Int.tdiv x1 2)) - 1))]) m) (R (.tuple #[.int .i64 0,.int .i64 0]) m)) (R (.tuple #[.int .i64 0,.int .i64 0]) m))) (ifB (decide (x1 ≥ 4)) (ifB (decide (x1≤29)) (IntKind.i64=IntKind.i64∧(2:Int)≠0∧IntKind.i64=IntKind.i64∧(2:Int)≠0∧0≤(IntKind.wrap .i64 ((IntKind.wrap .i64 (Int.tdiv x1 2)) - 1))∧R (.tuple #[.int .i64 (IntKind.wrap .i64 (1+(shlOp .i64 (IntKind.wrap .i64 (2+(Int.tmod x1 2))) (IntKind.wrap .i64 ((IntKind.wrap .i64 (Int.tdiv x1 2)) - 1))))),.int .i64 (IntKind.wrap .i64 ((IntKind.wrap .i64 (Int.tdiv x1 2)) - 1))]) m) (R (.tuple #[.int .i64 0,.int .i64 0]) m)) (R (.tuple #[.int .i64 0,.int .i64 0]) m))):
  CallM PP f_spec_Distance #[.int .i64 x1] m R:=
 callM_enter ffOk mixedOk 31 L_spec_Distance Tryz.func40 b_spec_Distance Tryz.ntmps40 (by simp) (Eq.mpr (by kernel_rfl) h)
def L_state_far:List Nat:=[0,1,2,6,9,26,29,30,31,40,67]
def r_state_far:List ResultVar:=[]
noncomputable def c_state_far:Code:=(Go.Proofs.Tryz.f41.body).getD .skip
theorem b_state_far:Go.Proofs.Tryz.f41.body=some c_state_far:=by kernel_rfl
noncomputable def c_state_far_rrrl:Code:=(lft (rgt (rgt (rgt c_state_far))))
noncomputable def c_state_far_rrrll:Code:=(lft c_state_far_rrrl)
noncomputable def c_state_far_rrrllrrr:Code:=(rgt (rgt (rgt c_state_far_rrrll)))
noncomputable def c_state_far_rrrllrrllrr:Code:=(rgt (rgt (lft (lft (rgt (rgt c_state_far_rrrll))))))
theorem q_state_far_rrrl:c_state_far_rrrl=.loop c_state_far_rrrll:=by kernel_rfl
theorem e_state_far (s:Nat) (x1:Int) (x2:Int) (m:Mem) (R:Value→Mem→Prop)
  (h:CallM PP f_state_on #[.pointer (some ⟨s,0,none⟩)] m fun v4 m5=>∃ b3,v4=.bool b3∧ifB (!b3) (R (.tuple #[]) m5) (ifB (decide (x2 > 32768)) (CallM PP f_state_stop #[.pointer (some ⟨s,0,none⟩),.int .i64 2] m5 fun v6 m7=>v6=.tuple #[]∧R (.tuple #[]) m7) (∃ a8 l9 k10,cell? m5 ⟨s,2,none⟩=some (.slice a8 l9 k10)∧∃ a11 l12 k13,cell? m5 ⟨s,3,none⟩=some (.slice a11 l12 k13)∧ifB (decide (x2 > IntKind.wrap .i64 ((l9:Int)+(l12:Int)))) (CallM PP f_state_stop #[.pointer (some ⟨s,0,none⟩),.int .i64 2] m5 fun v14 m15=>v14=.tuple #[]∧R (.tuple #[]) m15) (WPS PP 69 c_state_far_rrrl ((retK PP r_state_far R).withX 0) [(0,.pointer (some ⟨s,0,none⟩)),(1,.int .i64 x1),(2,.int .i64 x2),(29,.int .i64 x1),(30,.int .i64 0)] m5)))):
  CallM PP f_state_far #[.pointer (some ⟨s,0,none⟩),.int .i64 x1,.int .i64 x2] m R:=
 callM_enter ffOk mixedOk 69 L_state_far Tryz.func41 b_state_far Tryz.ntmps41 (by simp) (Eq.mpr (by kernel_rfl) h)
theorem p_state_far_rrrll (s:Nat) (x1:Int) (x2:Int) (x3:Int) (m:Mem) (K:Kont)
  (h:ifB (decide (x3 < x2)) (∃ a4 l5 k6,cell? m ⟨s,3,none⟩=some (.slice a4 l5 k6)∧ifB (decide ((IntKind.wrap .i64 ((l5:Int) - x1)) ≥ 0)) (∃ a7 l8 k9,cell? m ⟨s,3,none⟩=some (.slice a7 l8 k9)∧onSome a7 fun p10=>(0≤(IntKind.wrap .i64 ((l5:Int) - x1))∧(IntKind.wrap .i64 ((l5:Int) - x1)) < (l8:Int))∧∃ x11,cell? m (aplus p10 ((IntKind.wrap .i64 ((l5:Int) - x1)).toNat))=some (.int .u8 x11)∧CallM PP f_state_give #[.pointer (some ⟨s,0,none⟩),.int .u8 x11] m fun v12 m13=>v12=.tuple #[]∧WPS PP 69 c_state_far_rrrllrrllrr ((K.withN fun r m=>wpc PP FF 69 L_state_far c_state_far_rrrllrrr K r m).withX 1) [(0,.pointer (some ⟨s,0,none⟩)),(2,.int .i64 x1),(6,.int .i64 (IntKind.wrap .i64 ((l5:Int) - x1))),(29,.int .i64 x2),(30,.int .i64 x3)] m13) (∃ a14 l15 k16,cell? m ⟨s,2,none⟩=some (.slice a14 l15 k16)∧∃ a17 l18 k19,cell? m ⟨s,2,none⟩=some (.slice a17 l18 k19)∧onSome a14 fun p20=>(0≤(IntKind.wrap .i64 ((l18:Int)+(IntKind.wrap .i64 ((l5:Int) - x1))))∧(IntKind.wrap .i64 ((l18:Int)+(IntKind.wrap .i64 ((l5:Int) - x1)))) < (l15:Int))∧∃ x21,cell? m (aplus p20 ((IntKind.wrap .i64 ((l18:Int)+(IntKind.wrap .i64 ((l5:Int) - x1)))).toNat))=some (.int .u8 x21)∧CallM PP f_state_give #[.pointer (some ⟨s,0,none⟩),.int .u8 x21] m fun v22 m23=>v22=.tuple #[]∧WPS PP 69 c_state_far_rrrllrrllrr ((K.withN fun r m=>wpc PP FF 69 L_state_far c_state_far_rrrllrrr K r m).withX 1) [(0,.pointer (some ⟨s,0,none⟩)),(2,.int .i64 x1),(6,.int .i64 (IntKind.wrap .i64 ((l5:Int) - x1))),(29,.int .i64 x2),(30,.int .i64 x3)] m23)) (K.kx 0 [(0,.pointer (some ⟨s,0,none⟩)),(2,.int .i64 x1),(29,.int .i64 x2),(30,.int .i64 x3)] m)):
  wpc PP FF 69 L_state_far c_state_far_rrrll K [(0,.pointer (some ⟨s,0,none⟩)),(2,.int .i64 x1),(29,.int .i64 x2),(30,.int .i64 x3)] m:=
 Eq.mpr (by kernel_rfl) h
theorem p_state_far_rrrllrrr (s:Nat) (x1:Int) (x2:Int) (x3:Int) (m:Mem) (K:Kont)
  (h:K.kn [(0,.pointer (some ⟨s,0,none⟩)),(2,.int .i64 x1),(29,.int .i64 x2),(30,.int .i64 (IntKind.wrap .i64 (x3+1)))] m):
  wpc PP FF 69 L_state_far c_state_far_rrrllrrr K [(0,.pointer (some ⟨s,0,none⟩)),(2,.int .i64 x1),(29,.int .i64 x2),(30,.int .i64 x3)] m:=
 Eq.mpr (by kernel_rfl) h
theorem p_state_far_rrrllrrllrr (s:Nat) (x1:Int) (x2:Int) (x3:Int) (m:Mem) (K:Kont)
  (h:CallM PP f_state_on #[.pointer (some ⟨s,0,none⟩)] m fun v5 m6=>∃ b4,v5=.bool b4∧ifB (!b4) (K.kr [(0,.pointer (some ⟨s,0,none⟩)),(2,.int .i64 x1),(29,.int .i64 x2),(30,.int .i64 x3)] m6) (K.kn [(0,.pointer (some ⟨s,0,none⟩)),(2,.int .i64 x1),(29,.int .i64 x2),(30,.int .i64 x3)] m6)):
  wpc PP FF 69 L_state_far c_state_far_rrrllrrllrr K [(0,.pointer (some ⟨s,0,none⟩)),(2,.int .i64 x1),(29,.int .i64 x2),(30,.int .i64 x3)] m:=
 Eq.mpr (by kernel_rfl) h
end Go.M
