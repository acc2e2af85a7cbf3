/- What pieces of the code come to. -/
import Derived.Test.YtlgdbjpeklangaaGreatDoorPke
set_option maxRecDepth 100000
namespace Go.M
open Go Go.Proofs
def L_spec_DictOf:List Nat:=[0,2,3,4,5,6,7,8,9,16]
def r_spec_DictOf:List ResultVar:=[.tmp 2,.tmp 3,.tmp 4]
noncomputable def c_spec_DictOf:Code:=(Go.Proofs.Tryz.f5.body).getD .skip
theorem b_spec_DictOf:Go.Proofs.Tryz.f5.body=some c_spec_DictOf:=by kernel_rfl
noncomputable def c_spec_DictOf_rrrr:Code:=(rgt (rgt (rgt (rgt c_spec_DictOf))))
theorem e_spec_DictOf (a1:Option Addr) (l2:Nat) (k3:Nat) (m:Mem) (R:Value→Mem→Prop)
  (h:CallM PP f_spec_newReader #[.slice a1 l2 k3] m fun v5 m6=>∃ p4,v5=.pointer p4∧CallM PP f_reader_data #[.pointer p4,.int .i64 60] m6 fun v10 m11=>∃ a7 l8 k9,v10=.slice a7 l8 k9∧CallM PP f_reader_pick #[.pointer p4,.int .i64 6] m11 fun v13 m14=>∃ x12,v13=.int .i64 x12∧ifB (x12 == 0) (SemW PP (sv (Instr.buildSlice t_s_int 3 #[(0,.int .i64 32760),(1,.int .i64 32768),(2,.int .i64 33000)])) m14 (NextW PP fun v18 m19=>∃ a15 l16 k17,v18=.slice a15 l16 k17∧CallM PP f_reader_one #[.pointer p4,.slice a15 l16 k17] m19 fun v21 m22=>∃ x20,v21=.int .i64 x20∧SemW PP (sv (Instr.makeSlice t_s_uint8 (.int .i64 x20) (.int .i64 x20))) m22 (NextW PP fun v26 m27=>∃ a23 l24 k25,v26=.slice a23 l24 k25∧SemW PP (builtin .append #[t_s_uint8,t_s_uint8] t_s_uint8 #[false,false] #[.slice a23 l24 k25,.slice a7 l8 k9]) m27 (NextW PP fun v31 m32=>∃ a28 l29 k30,v31=.slice a28 l29 k30∧WPS PP 59 c_spec_DictOf_rrrr (retK PP r_spec_DictOf R) [(0,.slice a1 l2 k3),(2,.slice none 0 0),(3,.slice none 0 0),(4,.slice none 0 0),(5,.pointer p4),(6,.slice a28 l29 k30)] m32)))) (WPS PP 59 c_spec_DictOf_rrrr (retK PP r_spec_DictOf R) [(0,.slice a1 l2 k3),(2,.slice none 0 0),(3,.slice none 0 0),(4,.slice none 0 0),(5,.pointer p4),(6,.slice a7 l8 k9)] m14)):
  CallM PP f_spec_DictOf #[.slice a1 l2 k3] m R:=
 callM_enter ffOk mixedOk 59 L_spec_DictOf Tryz.func5 b_spec_DictOf Tryz.ntmps5 (by simp) (Eq.mpr (by kernel_rfl) h)
theorem p_spec_DictOf_rrrr (p1:Option Addr) (a2:Option Addr) (l3:Nat) (k4:Nat) (m:Mem) (K:Kont)
  (h:BoxW t_spec_Writer (.agg #[.slice none 0 0,.int .i64 0]) m fun n5 m6=>SemW PP (sv (Instr.buildSlice t_s_uint8 0 #[])) m6 (NextW PP fun v10 m11=>∃ a7 l8 k9,v10=.slice a7 l8 k9∧SemW PP (builtin .append #[t_s_uint8,t_s_uint8] t_s_uint8 #[false,false] #[.slice a7 l8 k9,.slice a2 l3 k4]) m11 (NextW PP fun v15 m16=>∃ a12 l13 k14,v15=.slice a12 l13 k14∧CallM PP f_reader_pick #[.pointer p1,.int .i64 2] m16 fun v18 m19=>∃ x17,v18=.int .i64 x17∧CallM PP f_reader_block #[.pointer p1,.pointer (some ⟨n5,0,none⟩),.slice a12 l13 k14,.int .i64 (IntKind.wrap .i64 ((if (32768:Int) < (l3:Int) then 32768 else (l3:Int)) - (l3:Int))),.int .i64 (IntKind.wrap .i64 (1+x17)),.int .i64 30,.bool false] m19 fun v23 m24=>∃ a20 l21 k22,v23=.slice a20 l21 k22∧CallM PP f_reader_block #[.pointer p1,.pointer (some ⟨n5,0,none⟩),.slice a20 l21 k22,.int .i64 (IntKind.wrap .i64 ((if (32768:Int) < (l3:Int) then 32768 else (l3:Int)) - (l3:Int))),.int .i64 3,.int .i64 30,.bool true] m24 fun v28 m29=>∃ a25 l26 k27,v28=.slice a25 l26 k27∧∃ a30 l31 k32,cell? m29 ⟨n5,0,none⟩=some (.slice a30 l31 k32)∧l26≤k27∧(0≤(l3:Int)∧(l3:Int)≤(l26:Int))∧K.kr [(2,.slice a2 l3 k4),(3,.slice a30 l31 k32),(4,.slice (subA a25 ((l3:Int).toNat) 1 k27) (l26 - ((l3:Int).toNat)) (k27 - ((l3:Int).toNat))),(5,.pointer p1),(6,.slice a2 l3 k4),(7,.pointer (some ⟨n5,0,none⟩)),(8,.int .i64 (if (32768:Int) < (l3:Int) then 32768 else (l3:Int))),(9,.slice a25 l26 k27)] m29))):
  wpc PP FF 59 L_spec_DictOf c_spec_DictOf_rrrr K [(5,.pointer p1),(6,.slice a2 l3 k4)] m:=
 Eq.mpr (by kernel_rfl) h
def L_laws_same:List Nat:=[0,1,4]
def r_laws_same:List ResultVar:=[.tmp 4]
noncomputable def c_laws_same:Code:=(Go.Proofs.Tryz.f7.body).getD .skip
theorem b_laws_same:Go.Proofs.Tryz.f7.body=some c_laws_same:=by kernel_rfl
theorem e_laws_same (a1:Option Addr) (l2:Nat) (k3:Nat) (a4:Option Addr) (l5:Nat) (k6:Nat) (m:Mem) (R:Value→Mem→Prop)
  (h:ifB ((l2:Int) == (l5:Int)) (CallM PP f_laws_begins #[.slice a1 l2 k3,.slice a4 l5 k6] m fun v8 m9=>∃ b7,v8=.bool b7∧R (.bool b7) m9) (R (.bool false) m)):
  CallM PP f_laws_same #[.slice a1 l2 k3,.slice a4 l5 k6] m R:=
 callM_enter ffOk mixedOk 15 L_laws_same Tryz.func7 b_laws_same Tryz.ntmps7 (by simp) (Eq.mpr (by kernel_rfl) h)
def L_spec_MixedOf:List Nat:=[0,2,3]
def r_spec_MixedOf:List ResultVar:=[.tmp 2,.tmp 3]
noncomputable def c_spec_MixedOf:Code:=(Go.Proofs.Tryz.f8.body).getD .skip
theorem b_spec_MixedOf:Go.Proofs.Tryz.f8.body=some c_spec_MixedOf:=by kernel_rfl
theorem e_spec_MixedOf (a1:Option Addr) (l2:Nat) (k3:Nat) (m:Mem) (R:Value→Mem→Prop)
  (h:CallM PP f_spec_newReader #[.slice a1 l2 k3] m fun v5 m6=>∃ p4,v5=.pointer p4∧CallM PP f_reader_stream #[.pointer p4,.int .i64 3,.int .i64 6,.int .i64 30] m6 fun v13 m14=>∃ a7 l8,∃ k9 a10,∃ l11 k12,v13=.tuple #[.slice a7 l8 k9,.slice a10 l11 k12]∧R (.tuple #[.slice a7 l8 k9,.slice a10 l11 k12]) m14):
  CallM PP f_spec_MixedOf #[.slice a1 l2 k3] m R:=
 callM_enter ffOk mixedOk 9 L_spec_MixedOf Tryz.func8 b_spec_MixedOf Tryz.ntmps8 (by simp) (Eq.mpr (by kernel_rfl) h)
def L_impl_Slow:List Nat:=[0,1,2,6,7]
def r_impl_Slow:List ResultVar:=[.tmp 6,.tmp 7]
noncomputable def c_impl_Slow:Code:=(Go.Proofs.Tryz.f9.body).getD .skip
theorem b_impl_Slow:Go.Proofs.Tryz.f9.body=some c_impl_Slow:=by kernel_rfl
theorem e_impl_Slow (a1:Option Addr) (l2:Nat) (k3:Nat) (x4:Int) (x5:Int) (m:Mem) (R:Value→Mem→Prop)
  (h:SemW PP (sv (Instr.buildSlice t_s_uint8 0 #[])) m (NextW PP fun v9 m10=>∃ a6 l7 k8,v9=.slice a6 l7 k8∧SemW PP (builtin .append #[t_s_uint8,t_s_uint8] t_s_uint8 #[false,false] #[.slice a6 l7 k8,.slice a1 l2 k3]) m10 (NextW PP fun v14 m15=>∃ a11 l12 k13,v14=.slice a11 l12 k13∧BoxW t_impl_slow (.agg #[.slice a11 l12 k13,.int .i64 (if x4 > 1 then x4 else 1)]) m15 fun n16 m17=>CallM PP f_inflate_NewReader #[.iface t_p_impl_slow (.pointer (some ⟨n16,0,none⟩))] m17 fun v19 m20=>∃ v18,v19=v18∧CallM PP f_impl_all #[v18,.int .i64 x5] m20 fun v25 m26=>∃ a21 l22,∃ k23 x24,v25=.tuple #[.slice a21 l22 k23,.int .i64 x24]∧R (.tuple #[.slice a21 l22 k23,.int .i64 x24]) m26))):
  CallM PP f_impl_Slow #[.slice a1 l2 k3,.int .i64 x4,.int .i64 x5] m R:=
 callM_enter ffOk mixedOk 21 L_impl_Slow Tryz.func9 b_impl_Slow Tryz.ntmps9 (by simp) (Eq.mpr (by kernel_rfl) h)
def L_spec_newReader:List Nat:=[0,2]
def r_spec_newReader:List ResultVar:=[.tmp 2]
noncomputable def c_spec_newReader:Code:=(Go.Proofs.Tryz.f10.body).getD .skip
theorem b_spec_newReader:Go.Proofs.Tryz.f10.body=some c_spec_newReader:=by kernel_rfl
theorem e_spec_newReader (a1:Option Addr) (l2:Nat) (k3:Nat) (m:Mem) (R:Value→Mem→Prop)
  (h:l2≤k3∧(0≤(if (3000:Int) < (l2:Int) then 3000 else (l2:Int))∧(if (3000:Int) < (l2:Int) then 3000 else (l2:Int))≤(k3:Int))∧BoxW t_spec_reader (.agg #[.slice a1 ((if (3000:Int) < (l2:Int) then 3000 else (l2:Int)).toNat) k3,.int .i64 0]) m fun n4 m5=>R (.pointer (some ⟨n4,0,none⟩)) m5):
  CallM PP f_spec_newReader #[.slice a1 l2 k3] m R:=
 callM_enter ffOk mixedOk 10 L_spec_newReader Tryz.func10 b_spec_newReader Tryz.ntmps10 (by simp) (Eq.mpr (by kernel_rfl) h)
def L_reader_data:List Nat:=[0,1,4,5,6,12]
def r_reader_data:List ResultVar:=[.tmp 4]
noncomputable def c_reader_data:Code:=(Go.Proofs.Tryz.f11.body).getD .skip
theorem b_reader_data:Go.Proofs.Tryz.f11.body=some c_reader_data:=by kernel_rfl
noncomputable def c_reader_data_rrr:Code:=(rgt (rgt (rgt c_reader_data)))
noncomputable def c_reader_data_rrlrl:Code:=(lft (rgt (lft (rgt (rgt c_reader_data)))))
noncomputable def c_reader_data_rrlrll:Code:=(lft c_reader_data_rrlrl)
theorem q_reader_data_rrlrl:c_reader_data_rrlrl=.loop c_reader_data_rrlrll:=by kernel_rfl
theorem e_reader_data (r:Nat) (x1:Int) (m:Mem) (R:Value→Mem→Prop)
  (h:CallM PP f_reader_pick #[.pointer (some ⟨r,0,none⟩),.int .i64 (IntKind.wrap .i64 (x1+1))] m fun v3 m4=>∃ x2,v3=.int .i64 x2∧WPS PP 25 c_reader_data_rrlrl (((retK PP r_reader_data R).withN fun r m=>WPS PP 25 c_reader_data_rrr (retK PP r_reader_data R) r m).withX 0) [(0,.pointer (some ⟨r,0,none⟩)),(1,.int .i64 x1),(4,.slice none 0 0),(5,.slice none 0 0),(6,.int .i64 x2)] m4):
  CallM PP f_reader_data #[.pointer (some ⟨r,0,none⟩),.int .i64 x1] m R:=
 callM_enter ffOk mixedOk 25 L_reader_data Tryz.func11 b_reader_data Tryz.ntmps11 (by simp) (Eq.mpr (by kernel_rfl) h)
theorem p_reader_data_rrr (a1:Option Addr) (l2:Nat) (k3:Nat) (m:Mem) (K:Kont)
  (h:K.kr [(4,.slice a1 l2 k3),(5,.slice a1 l2 k3)] m):
  wpc PP FF 25 L_reader_data c_reader_data_rrr K [(5,.slice a1 l2 k3)] m:=
 Eq.mpr (by kernel_rfl) h
theorem p_reader_data_rrlrll (r:Nat) (a1:Option Addr) (l2:Nat) (k3:Nat) (x4:Int) (m:Mem) (K:Kont)
  (h:ifB (decide (x4 > 0)) (CallM PP f_reader_pick #[.pointer (some ⟨r,0,none⟩),.int .i64 256] m fun v6 m7=>∃ x5,v6=.int .i64 x5∧SemW PP (sv (Instr.buildSlice t_s_int 5 #[(0,.int .i64 97),(1,.int .i64 98),(2,.int .i64 0),(3,.int .i64 255),(4,.int .i64 x5)])) m7 (NextW PP fun v11 m12=>∃ a8 l9 k10,v11=.slice a8 l9 k10∧CallM PP f_reader_one #[.pointer (some ⟨r,0,none⟩),.slice a8 l9 k10] m12 fun v14 m15=>∃ x13,v14=.int .i64 x13∧SemW PP (sv (Instr.buildSlice t_s_uint8 1 #[(0,.int .u8 (IntKind.wrap .u8 x13))])) m15 (NextW PP fun v19 m20=>∃ a16 l17 k18,v19=.slice a16 l17 k18∧SemW PP (builtin .append #[t_s_uint8,t_s_uint8] t_s_uint8 #[false,false] #[.slice a1 l2 k3,.slice a16 l17 k18]) m20 (NextW PP fun v24 m25=>∃ a21 l22 k23,v24=.slice a21 l22 k23∧K.kn [(0,.pointer (some ⟨r,0,none⟩)),(5,.slice a21 l22 k23),(6,.int .i64 (IntKind.wrap .i64 (x4 - 1)))] m25)))) (K.kx 0 [(0,.pointer (some ⟨r,0,none⟩)),(5,.slice a1 l2 k3),(6,.int .i64 x4)] m)):
  wpc PP FF 25 L_reader_data c_reader_data_rrlrll K [(0,.pointer (some ⟨r,0,none⟩)),(5,.slice a1 l2 k3),(6,.int .i64 x4)] m:=
 Eq.mpr (by kernel_rfl) h
def L_reader_pick:List Nat:=[0,1,4,5,6,27,52]
def r_reader_pick:List ResultVar:=[.tmp 4]
noncomputable def c_reader_pick:Code:=(Go.Proofs.Tryz.f12.body).getD .skip
theorem b_reader_pick:Go.Proofs.Tryz.f12.body=some c_reader_pick:=by kernel_rfl
noncomputable def c_reader_pick_rrrrrr:Code:=(rgt (rgt (rgt (rgt (rgt (rgt c_reader_pick))))))
theorem e_reader_pick (r:Nat) (x1:Int) (m:Mem) (R:Value→Mem→Prop)
  (h:∃ x2,cell? m ⟨r,1,none⟩=some (.int .i64 x2)∧∃ x3,cell? m ⟨r,1,none⟩=some (.int .i64 x3)∧StW m ⟨r,1,none⟩ (.int .i64 (IntKind.wrap .i64 (x3+1))) fun m4=>ifB (decide (x1 < 1)) (R (.int .i64 0) m4) (∃ a5 l6 k7,cell? m4 ⟨r,0,none⟩=some (.slice a5 l6 k7)∧ifB ((l6:Int) == 0) (R (.int .i64 0) m4) (∃ a8 l9 k10,cell? m4 ⟨r,0,none⟩=some (.slice a8 l9 k10)∧∃ a11 l12 k13,cell? m4 ⟨r,0,none⟩=some (.slice a11 l12 k13)∧IntKind.i64=IntKind.i64∧(l12:Int)≠0∧onSome a8 fun p14=>(0≤(Int.tmod x2 (l12:Int))∧(Int.tmod x2 (l12:Int)) < (l9:Int))∧∃ x15,cell? m4 (aplus p14 ((Int.tmod x2 (l12:Int)).toNat))=some (.int .u8 x15)∧ifB (decide (x1 > 256)) (∃ a16 l17 k18,cell? m4 ⟨r,0,none⟩=some (.slice a16 l17 k18)∧∃ a19 l20 k21,cell? m4 ⟨r,0,none⟩=some (.slice a19 l20 k21)∧IntKind.i64=IntKind.i64∧(l20:Int)≠0∧onSome a16 fun p22=>(0≤(Int.tmod (IntKind.wrap .i64 ((IntKind.wrap .i64 (x2 * 7))+3)) (l20:Int))∧(Int.tmod (IntKind.wrap .i64 ((IntKind.wrap .i64 (x2 * 7))+3)) (l20:Int)) < (l17:Int))∧∃ x23,cell? m4 (aplus p22 ((Int.tmod (IntKind.wrap .i64 ((IntKind.wrap .i64 (x2 * 7))+3)) (l20:Int)).toNat))=some (.int .u8 x23)∧∃ a24 l25 k26,cell? m4 ⟨r,0,none⟩=some (.slice a24 l25 k26)∧IntKind.i64=IntKind.i64∧(l25:Int)≠0∧IntKind.i64=IntKind.i64∧(64:Int)≠0∧IntKind.i64=IntKind.i64∧WPS PP 92 c_reader_pick_rrrrrr (retK PP r_reader_pick R) [(0,.pointer (some ⟨r,0,none⟩)),(1,.int .i64 x1),(4,.int .i64 0),(5,.int .i64 x2),(6,.int .i64 (bitsOp .xor .i64 (IntKind.wrap .i64 ((IntKind.wrap .i64 ((IntKind.wrap .i64 ((IntKind.wrap .i64 ((IntKind.wrap .i64 x15) * 131))+(IntKind.wrap .i64 ((IntKind.wrap .i64 x23) * 1117))))+(IntKind.wrap .i64 (x2 * 29))))+(IntKind.wrap .i64 ((IntKind.wrap .i64 (Int.tdiv x2 (l25:Int))) * 53)))) (IntKind.wrap .i64 (Int.tdiv (IntKind.wrap .i64 ((IntKind.wrap .i64 ((IntKind.wrap .i64 ((IntKind.wrap .i64 ((IntKind.wrap .i64 x15) * 131))+(IntKind.wrap .i64 ((IntKind.wrap .i64 x23) * 1117))))+(IntKind.wrap .i64 (x2 * 29))))+(IntKind.wrap .i64 ((IntKind.wrap .i64 (Int.tdiv x2 (l25:Int))) * 53)))) 64))))] m4) (∃ a27 l28 k29,cell? m4 ⟨r,0,none⟩=some (.slice a27 l28 k29)∧ifB (decide (x2 ≥ (l28:Int))) (∃ a30 l31 k32,cell? m4 ⟨r,0,none⟩=some (.slice a30 l31 k32)∧∃ a33 l34 k35,cell? m4 ⟨r,0,none⟩=some (.slice a33 l34 k35)∧IntKind.i64=IntKind.i64∧(l34:Int)≠0∧onSome a30 fun p36=>(0≤(Int.tmod (IntKind.wrap .i64 ((IntKind.wrap .i64 (x2 * 7))+3)) (l34:Int))∧(Int.tmod (IntKind.wrap .i64 ((IntKind.wrap .i64 (x2 * 7))+3)) (l34:Int)) < (l31:Int))∧∃ x37,cell? m4 (aplus p36 ((Int.tmod (IntKind.wrap .i64 ((IntKind.wrap .i64 (x2 * 7))+3)) (l34:Int)).toNat))=some (.int .u8 x37)∧∃ a38 l39 k40,cell? m4 ⟨r,0,none⟩=some (.slice a38 l39 k40)∧IntKind.i64=IntKind.i64∧(l39:Int)≠0∧IntKind.i64=IntKind.i64∧(64:Int)≠0∧IntKind.i64=IntKind.i64∧WPS PP 92 c_reader_pick_rrrrrr (retK PP r_reader_pick R) [(0,.pointer (some ⟨r,0,none⟩)),(1,.int .i64 x1),(4,.int .i64 0),(5,.int .i64 x2),(6,.int .i64 (bitsOp .xor .i64 (IntKind.wrap .i64 ((IntKind.wrap .i64 ((IntKind.wrap .i64 ((IntKind.wrap .i64 ((IntKind.wrap .i64 x15) * 131))+(IntKind.wrap .i64 ((IntKind.wrap .i64 x37) * 1117))))+(IntKind.wrap .i64 (x2 * 29))))+(IntKind.wrap .i64 ((IntKind.wrap .i64 (Int.tdiv x2 (l39:Int))) * 53)))) (IntKind.wrap .i64 (Int.tdiv (IntKind.wrap .i64 ((IntKind.wrap .i64 ((IntKind.wrap .i64 ((IntKind.wrap .i64 ((IntKind.wrap .i64 x15) * 131))+(IntKind.wrap .i64 ((IntKind.wrap .i64 x37) * 1117))))+(IntKind.wrap .i64 (x2 * 29))))+(IntKind.wrap .i64 ((IntKind.wrap .i64 (Int.tdiv x2 (l39:Int))) * 53)))) 64))))] m4) (WPS PP 92 c_reader_pick_rrrrrr (retK PP r_reader_pick R) [(0,.pointer (some ⟨r,0,none⟩)),(1,.int .i64 x1),(4,.int .i64 0),(5,.int .i64 x2),(6,.int .i64 (IntKind.wrap .i64 x15))] m4))))):
  CallM PP f_reader_pick #[.pointer (some ⟨r,0,none⟩),.int .i64 x1] m R:=
 callM_enter ffOk mixedOk 92 L_reader_pick Tryz.func12 b_reader_pick Tryz.ntmps12 (by simp) (Eq.mpr (by kernel_rfl) h)
theorem p_reader_pick_rrrrrr (x1:Int) (x2:Int) (m:Mem) (K:Kont)
  (h:IntKind.i64=IntKind.i64∧x1≠0∧K.kr [(1,.int .i64 x1),(4,.int .i64 (Int.tmod x2 x1)),(6,.int .i64 x2)] m):
  wpc PP FF 92 L_reader_pick c_reader_pick_rrrrrr K [(1,.int .i64 x1),(6,.int .i64 x2)] m:=
 Eq.mpr (by kernel_rfl) h
def L_reader_one:List Nat:=[0,1,4]
def r_reader_one:List ResultVar:=[.tmp 4]
noncomputable def c_reader_one:Code:=(Go.Proofs.Tryz.f13.body).getD .skip
theorem b_reader_one:Go.Proofs.Tryz.f13.body=some c_reader_one:=by kernel_rfl
theorem e_reader_one (r:Nat) (a1:Option Addr) (l2:Nat) (k3:Nat) (m:Mem) (R:Value→Mem→Prop)
  (h:CallM PP f_reader_pick #[.pointer (some ⟨r,0,none⟩),.int .i64 (l2:Int)] m fun v5 m6=>∃ x4,v5=.int .i64 x4∧onSome a1 fun p7=>(0≤x4∧x4 < (l2:Int))∧∃ x8,cell? m6 (aplus p7 x4.toNat)=some (.int .i64 x8)∧R (.int .i64 x8) m6):
  CallM PP f_reader_one #[.pointer (some ⟨r,0,none⟩),.slice a1 l2 k3] m R:=
 callM_enter ffOk mixedOk 12 L_reader_one Tryz.func13 b_reader_one Tryz.ntmps13 (by simp) (Eq.mpr (by kernel_rfl) h)
def L_reader_block:List Nat:=[0,1,2,3,4,5,6,14,15,16,18,22,43]
def r_reader_block:List ResultVar:=[.tmp 14]
noncomputable def c_reader_block:Code:=(Go.Proofs.Tryz.f14.body).getD .skip
theorem b_reader_block:Go.Proofs.Tryz.f14.body=some c_reader_block:=by kernel_rfl
noncomputable def c_reader_block_rr:Code:=(rgt (rgt c_reader_block))
noncomputable def c_reader_block_rrrrr:Code:=(rgt (rgt (rgt c_reader_block_rr)))
theorem e_reader_block (r:Nat) (p1:Option Addr) (a2:Option Addr) (l3:Nat) (k4:Nat) (x5:Int) (x6:Int) (x7:Int) (b8:Bool) (m:Mem) (R:Value→Mem→Prop)
  (h:ifB (x6 == 3) (CallM PP f_reader_pick #[.pointer (some ⟨r,0,none⟩),.int .i64 3] m fun v10 m11=>∃ x9,v10=.int .i64 x9∧WPS PP 56 c_reader_block_rr (retK PP r_reader_block R) [(0,.pointer (some ⟨r,0,none⟩)),(1,.pointer p1),(2,.slice a2 l3 k4),(3,.int .i64 x5),(4,.int .i64 x9),(5,.int .i64 x7),(6,.bool b8),(14,.slice none 0 0)] m11) (WPS PP 56 c_reader_block_rr (retK PP r_reader_block R) [(0,.pointer (some ⟨r,0,none⟩)),(1,.pointer p1),(2,.slice a2 l3 k4),(3,.int .i64 x5),(4,.int .i64 x6),(5,.int .i64 x7),(6,.bool b8),(14,.slice none 0 0)] m)):
  CallM PP f_reader_block #[.pointer (some ⟨r,0,none⟩),.pointer p1,.slice a2 l3 k4,.int .i64 x5,.int .i64 x6,.int .i64 x7,.bool b8] m R:=
 callM_enter ffOk mixedOk 56 L_reader_block Tryz.func14 b_reader_block Tryz.ntmps14 (by simp) (Eq.mpr (by kernel_rfl) h)
theorem p_reader_block_rr (r:Nat) (p1:Option Addr) (a2:Option Addr) (l3:Nat) (k4:Nat) (x5:Int) (x6:Int) (x7:Int) (b8:Bool) (m:Mem) (K:Kont)
  (h:ifB (x6 == 0) (CallM PP f_reader_data #[.pointer (some ⟨r,0,none⟩),.int .i64 x7] m fun v12 m13=>∃ a9 l10 k11,v12=.slice a9 l10 k11∧CallM PP f_reader_pick #[.pointer (some ⟨r,0,none⟩),.int .i64 256] m13 fun v15 m16=>∃ x14,v15=.int .i64 x14∧CallM PP f_Writer_Stored #[.pointer p1,.slice a9 l10 k11,.bool b8,.int .i64 x14] m16 fun v17 m18=>v17=.tuple #[]∧SemW PP (builtin .append #[t_s_uint8,t_s_uint8] t_s_uint8 #[false,false] #[.slice a2 l3 k4,.slice a9 l10 k11]) m18 (NextW PP fun v22 m23=>∃ a19 l20 k21,v22=.slice a19 l20 k21∧K.kr [(0,.pointer (some ⟨r,0,none⟩)),(1,.pointer p1),(2,.slice a2 l3 k4),(3,.int .i64 x5),(4,.int .i64 x6),(5,.int .i64 x7),(6,.bool b8),(14,.slice a19 l20 k21),(15,.slice a9 l10 k11)] m23)) (CallM PP f_reader_listOf #[.pointer (some ⟨r,0,none⟩),.int .i64 (IntKind.wrap .i64 ((l3:Int)+x5)),.int .i64 x7] m fun v27 m28=>∃ a24 l25 k26,v27=.slice a24 l25 k26∧ifB (x6 == 1) (CallM PP f_Writer_Fixed #[.pointer p1,.slice a24 l25 k26,.bool b8] m28 fun v29 m30=>v29=.tuple #[]∧WPS PP 56 c_reader_block_rrrrr K [(0,.pointer (some ⟨r,0,none⟩)),(1,.pointer p1),(2,.slice a2 l3 k4),(3,.int .i64 x5),(4,.int .i64 x6),(5,.int .i64 x7),(6,.bool b8),(16,.slice a24 l25 k26)] m30) (CallM PP f_Writer_dynamic #[.pointer p1,.pointer (some ⟨r,0,none⟩),.slice a24 l25 k26,.bool b8] m28 fun v31 m32=>v31=.tuple #[]∧WPS PP 56 c_reader_block_rrrrr K [(0,.pointer (some ⟨r,0,none⟩)),(1,.pointer p1),(2,.slice a2 l3 k4),(3,.int .i64 x5),(4,.int .i64 x6),(5,.int .i64 x7),(6,.bool b8),(16,.slice a24 l25 k26)] m32))):
  wpc PP FF 56 L_reader_block c_reader_block_rr K [(0,.pointer (some ⟨r,0,none⟩)),(1,.pointer p1),(2,.slice a2 l3 k4),(3,.int .i64 x5),(4,.int .i64 x6),(5,.int .i64 x7),(6,.bool b8)] m:=
 Eq.mpr (by kernel_rfl) h
theorem p_reader_block_rrrrr (a1:Option Addr) (l2:Nat) (k3:Nat) (a4:Option Addr) (l5:Nat) (k6:Nat) (m:Mem) (K:Kont)
  (h:CallM PP f_spec_Given #[.slice a1 l2 k3,.slice a4 l5 k6] m fun v10 m11=>∃ a7 l8 k9,v10=.slice a7 l8 k9∧K.kr [(2,.slice a1 l2 k3),(14,.slice a7 l8 k9),(16,.slice a4 l5 k6)] m11):
  wpc PP FF 56 L_reader_block c_reader_block_rrrrr K [(2,.slice a1 l2 k3),(16,.slice a4 l5 k6)] m:=
 Eq.mpr (by kernel_rfl) h
def L_inflate_NewReader:List Nat:=[0,2,3]
def r_inflate_NewReader:List ResultVar:=[.tmp 2]
noncomputable def c_inflate_NewReader:Code:=(Go.Proofs.Tryz.f15.body).getD .skip
theorem b_inflate_NewReader:Go.Proofs.Tryz.f15.body=some c_inflate_NewReader:=by kernel_rfl
theorem e_inflate_NewReader (v1:Value) (m:Mem) (R:Value→Mem→Prop)
  (h:AllocW PP t_flate_decompressor m fun n2 m3=>CallM PP f_decompressor_makeReader #[.pointer (some ⟨n2,0,none⟩),v1] m3 fun v4 m5=>v4=.tuple #[]∧AllocW PP t_316_int m5 fun n6 m7=>StW m7 ⟨n2,1035,none⟩ (.pointer (some ⟨n6,0,none⟩)) fun m8=>AllocW PP t_19_int m8 fun n9 m10=>StW m10 ⟨n2,1036,none⟩ (.pointer (some ⟨n9,0,none⟩)) fun m11=>StW m11 ⟨n2,1045,none⟩ (.func (.func f_decompressor_nextBlock) #[] #[]) fun m12=>CallM PP f_dictDecoder_init #[.pointer (some ⟨n2,1037,none⟩),.int .i64 32768,.slice none 0 0] m12 fun v13 m14=>v13=.tuple #[]∧R (.iface t_p_flate_decompressor (.pointer (some ⟨n2,0,none⟩))) m14):
  CallM PP f_inflate_NewReader #[v1] m R:=
 callM_enter ffOk mixedOk 14 L_inflate_NewReader Tryz.func15 b_inflate_NewReader Tryz.ntmps15 (by simp) (Eq.mpr (by kernel_rfl) h)
def L_impl_source:List Nat:=[0,2]
def r_impl_source:List ResultVar:=[.tmp 2]
noncomputable def c_impl_source:Code:=(Go.Proofs.Tryz.f16.body).getD .skip
theorem b_impl_source:Go.Proofs.Tryz.f16.body=some c_impl_source:=by kernel_rfl
theorem e_impl_source (a1:Option Addr) (l2:Nat) (k3:Nat) (m:Mem) (R:Value→Mem→Prop)
  (h:SemW PP (sv (Instr.buildSlice t_s_uint8 0 #[])) m (NextW PP fun v7 m8=>∃ a4 l5 k6,v7=.slice a4 l5 k6∧SemW PP (builtin .append #[t_s_uint8,t_s_uint8] t_s_uint8 #[false,false] #[.slice a4 l5 k6,.slice a1 l2 k3]) m8 (NextW PP fun v12 m13=>∃ a9 l10 k11,v12=.slice a9 l10 k11∧CallM PP f_bytes_NewReader #[.slice a9 l10 k11] m13 fun v15 m16=>∃ p14,v15=.pointer p14∧R (.pointer p14) m16))):
  CallM PP f_impl_source #[.slice a1 l2 k3] m R:=
 callM_enter ffOk mixedOk 7 L_impl_source Tryz.func16 b_impl_source Tryz.ntmps16 (by simp) (Eq.mpr (by kernel_rfl) h)
def L_impl_all:List Nat:=[0,1,4,5,6,7,8,9,14,27]
def r_impl_all:List ResultVar:=[.tmp 4,.tmp 5]
noncomputable def c_impl_all:Code:=(Go.Proofs.Tryz.f17.body).getD .skip
theorem b_impl_all:Go.Proofs.Tryz.f17.body=some c_impl_all:=by kernel_rfl
noncomputable def c_impl_all_rrrr:Code:=(rgt (rgt (rgt (rgt c_impl_all))))
noncomputable def c_impl_all_rrrll:Code:=(lft (lft (rgt (rgt (rgt c_impl_all)))))
noncomputable def c_impl_all_rrrlll:Code:=(lft c_impl_all_rrrll)
theorem q_impl_all_rrrll:c_impl_all_rrrll=.loop c_impl_all_rrrlll:=by kernel_rfl
theorem e_impl_all (v1:Value) (x2:Int) (m:Mem) (R:Value→Mem→Prop)
  (h:SemW PP (sv (Instr.makeSlice t_s_uint8 (.int .i64 1000) (.int .i64 1000))) m (NextW PP fun v6 m7=>∃ a3 l4 k5,v6=.slice a3 l4 k5∧WPS PP 32 c_impl_all_rrrll (((retK PP r_impl_all R).withN fun r m=>WPS PP 32 c_impl_all_rrrr (retK PP r_impl_all R) r m).withX 0) [(0,v1),(1,.int .i64 x2),(4,.slice none 0 0),(5,.int .i64 0),(6,.slice none 0 0),(7,.slice a3 l4 k5)] m7)):
  CallM PP f_impl_all #[v1,.int .i64 x2] m R:=
 callM_enter ffOk mixedOk 32 L_impl_all Tryz.func17 b_impl_all Tryz.ntmps17 (by simp) (Eq.mpr (by kernel_rfl) h)
theorem p_impl_all_rrrr (a1:Option Addr) (l2:Nat) (k3:Nat) (m:Mem) (K:Kont)
  (h:K.kr [(4,.slice a1 l2 k3),(5,.int .i64 0),(6,.slice a1 l2 k3)] m):
  wpc PP FF 32 L_impl_all c_impl_all_rrrr K [(6,.slice a1 l2 k3)] m:=
 Eq.mpr (by kernel_rfl) h
theorem p_impl_all_rrrlll (v1:Value) (x2:Int) (a3:Option Addr) (l4:Nat) (k5:Nat) (a6:Option Addr) (l7:Nat) (k8:Nat) (m:Mem) (K:Kont)
  (h:ifB (decide ((l4:Int)≤x2)) (SemW PP (callMethod v1 "Read" #[.slice a6 l7 k8]) m (NextW PP fun v11 m12=>∃ x9 v10,v11=.tuple #[.int .i64 x9,v10]∧l7≤k8∧(0≤x9∧x9≤(k8:Int))∧SemW PP (builtin .append #[t_s_uint8,t_s_uint8] t_s_uint8 #[false,false] #[.slice a3 l4 k5,.slice a6 x9.toNat k8]) m12 (NextW PP fun v16 m17=>∃ a13 l14 k15,v16=.slice a13 l14 k15∧isIfc v10=true∧ifB (!(isNil v10)) (CallM PP f_impl_code #[v10] m17 fun v19 m20=>∃ x18,v19=.int .i64 x18∧K.kr [(0,v1),(1,.int .i64 x2),(4,.slice a13 l14 k15),(5,.int .i64 x18),(6,.slice a13 l14 k15),(7,.slice a6 l7 k8),(8,.int .i64 x9),(9,v10)] m20) (K.kn [(0,v1),(1,.int .i64 x2),(6,.slice a13 l14 k15),(7,.slice a6 l7 k8),(8,.int .i64 x9),(9,v10)] m17)))) (K.kx 0 [(0,v1),(1,.int .i64 x2),(6,.slice a3 l4 k5),(7,.slice a6 l7 k8)] m)):
  wpc PP FF 32 L_impl_all c_impl_all_rrrlll K [(0,v1),(1,.int .i64 x2),(6,.slice a3 l4 k5),(7,.slice a6 l7 k8)] m:=
 Eq.mpr (by kernel_rfl) h
def L_laws_begins:List Nat:=[0,1,4,5,10,12,13,14,24]
def r_laws_begins:List ResultVar:=[.tmp 4]
noncomputable def c_laws_begins:Code:=(Go.Proofs.Tryz.f18.body).getD .skip
theorem b_laws_begins:Go.Proofs.Tryz.f18.body=some c_laws_begins:=by kernel_rfl
noncomputable def c_laws_begins_rrr:Code:=(rgt (rgt (rgt c_laws_begins)))
noncomputable def c_laws_begins_rrlrl:Code:=(lft (rgt (lft (rgt (rgt c_laws_begins)))))
noncomputable def c_laws_begins_rrlrll:Code:=(lft c_laws_begins_rrlrl)
theorem q_laws_begins_rrlrl:c_laws_begins_rrlrl=.loop c_laws_begins_rrlrll:=by kernel_rfl
theorem e_laws_begins (a1:Option Addr) (l2:Nat) (k3:Nat) (a4:Option Addr) (l5:Nat) (k6:Nat) (m:Mem) (R:Value→Mem→Prop)
  (h:ifB (decide ((l5:Int) > (l2:Int))) (R (.bool false) m) (WPS PP 26 c_laws_begins_rrlrl (((retK PP r_laws_begins R).withN fun r m=>WPS PP 26 c_laws_begins_rrr (retK PP r_laws_begins R) r m).withX 0) [(0,.slice a1 l2 k3),(1,.slice a4 l5 k6),(4,.bool false),(12,.int .i64 (l5:Int)),(13,.int .i64 0)] m)):
  CallM PP f_laws_begins #[.slice a1 l2 k3,.slice a4 l5 k6] m R:=
 callM_enter ffOk mixedOk 26 L_laws_begins Tryz.func18 b_laws_begins Tryz.ntmps18 (by simp) (Eq.mpr (by kernel_rfl) h)
theorem p_laws_begins_rrr  (m:Mem) (K:Kont)
  (h:K.kr [(4,.bool true)] m  ):
  wpc PP FF 26 L_laws_begins c_laws_begins_rrr K [] m:=
 Eq.mpr (by kernel_rfl) h
theorem p_laws_begins_rrlrll (a1:Option Addr) (l2:Nat) (k3:Nat) (a4:Option Addr) (l5:Nat) (k6:Nat) (x7:Int) (x8:Int) (m:Mem) (K:Kont)
  (h:ifB (decide (x8 < x7)) (onSome a1 fun p9=>(0≤x8∧x8 < (l2:Int))∧∃ x10,cell? m (aplus p9 x8.toNat)=some (.int .u8 x10)∧onSome a4 fun p11=>(0≤x8∧x8 < (l5:Int))∧∃ x12,cell? m (aplus p11 x8.toNat)=some (.int .u8 x12)∧ifB (x10 != x12) (K.kr [(0,.slice a1 l2 k3),(1,.slice a4 l5 k6),(4,.bool false),(5,.int .i64 x8),(12,.int .i64 x7),(13,.int .i64 x8)] m) (K.kn [(0,.slice a1 l2 k3),(1,.slice a4 l5 k6),(5,.int .i64 x8),(12,.int .i64 x7),(13,.int .i64 (IntKind.wrap .i64 (x8+1)))] m)) (K.kx 0 [(0,.slice a1 l2 k3),(1,.slice a4 l5 k6),(12,.int .i64 x7),(13,.int .i64 x8)] m)):
  wpc PP FF 26 L_laws_begins c_laws_begins_rrlrll K [(0,.slice a1 l2 k3),(1,.slice a4 l5 k6),(12,.int .i64 x7),(13,.int .i64 x8)] m:=
 Eq.mpr (by kernel_rfl) h
def L_reader_stream:List Nat:=[0,1,2,3,8,9,10,11,12,19]
def r_reader_stream:List ResultVar:=[.tmp 8,.tmp 9]
noncomputable def c_reader_stream:Code:=(Go.Proofs.Tryz.f19.body).getD .skip
theorem b_reader_stream:Go.Proofs.Tryz.f19.body=some c_reader_stream:=by kernel_rfl
noncomputable def c_reader_stream_rrrr:Code:=(rgt (rgt (rgt (rgt c_reader_stream))))
noncomputable def c_reader_stream_rrrlrl:Code:=(lft (rgt (lft (rgt (rgt (rgt c_reader_stream))))))
noncomputable def c_reader_stream_rrrlrll:Code:=(lft c_reader_stream_rrrlrl)
theorem q_reader_stream_rrrlrl:c_reader_stream_rrrlrl=.loop c_reader_stream_rrrlrll:=by kernel_rfl
theorem e_reader_stream (r:Nat) (x1:Int) (x2:Int) (x3:Int) (m:Mem) (R:Value→Mem→Prop)
  (h:BoxW t_spec_Writer (.agg #[.slice none 0 0,.int .i64 0]) m fun n4 m5=>CallM PP f_reader_pick #[.pointer (some ⟨r,0,none⟩),.int .i64 x2] m5 fun v7 m8=>∃ x6,v7=.int .i64 x6∧WPS PP 39 c_reader_stream_rrrlrl (((retK PP r_reader_stream R).withN fun r m=>WPS PP 39 c_reader_stream_rrrr (retK PP r_reader_stream R) r m).withX 0) [(0,.pointer (some ⟨r,0,none⟩)),(1,.int .i64 x1),(2,.int .i64 x2),(3,.int .i64 x3),(8,.slice none 0 0),(9,.slice none 0 0),(10,.pointer (some ⟨n4,0,none⟩)),(11,.slice none 0 0),(12,.int .i64 x6)] m8):
  CallM PP f_reader_stream #[.pointer (some ⟨r,0,none⟩),.int .i64 x1,.int .i64 x2,.int .i64 x3] m R:=
 callM_enter ffOk mixedOk 39 L_reader_stream Tryz.func19 b_reader_stream Tryz.ntmps19 (by simp) (Eq.mpr (by kernel_rfl) h)
theorem p_reader_stream_rrrr (r:Nat) (x1:Int) (x2:Int) (p3:Option Addr) (a4:Option Addr) (l5:Nat) (k6:Nat) (m:Mem) (K:Kont)
  (h:CallM PP f_reader_block #[.pointer (some ⟨r,0,none⟩),.pointer p3,.slice a4 l5 k6,.int .i64 0,.int .i64 x1,.int .i64 x2,.bool true] m fun v10 m11=>∃ a7 l8 k9,v10=.slice a7 l8 k9∧onSome p3 fun p12=>∃ a13 l14 k15,cell? m11 p12=some (.slice a13 l14 k15)∧K.kr [(0,.pointer (some ⟨r,0,none⟩)),(1,.int .i64 x1),(3,.int .i64 x2),(8,.slice a13 l14 k15),(9,.slice a7 l8 k9),(10,.pointer p3),(11,.slice a7 l8 k9)] m11):
  wpc PP FF 39 L_reader_stream c_reader_stream_rrrr K [(0,.pointer (some ⟨r,0,none⟩)),(1,.int .i64 x1),(3,.int .i64 x2),(10,.pointer p3),(11,.slice a4 l5 k6)] m:=
 Eq.mpr (by kernel_rfl) h
theorem p_reader_stream_rrrlrll (r:Nat) (x1:Int) (x2:Int) (p3:Option Addr) (a4:Option Addr) (l5:Nat) (k6:Nat) (x7:Int) (m:Mem) (K:Kont)
  (h:ifB (decide (x7 > 0)) (CallM PP f_reader_block #[.pointer (some ⟨r,0,none⟩),.pointer p3,.slice a4 l5 k6,.int .i64 0,.int .i64 x1,.int .i64 x2,.bool false] m fun v11 m12=>∃ a8 l9 k10,v11=.slice a8 l9 k10∧K.kn [(0,.pointer (some ⟨r,0,none⟩)),(1,.int .i64 x1),(3,.int .i64 x2),(10,.pointer p3),(11,.slice a8 l9 k10),(12,.int .i64 (IntKind.wrap .i64 (x7 - 1)))] m12) (K.kx 0 [(0,.pointer (some ⟨r,0,none⟩)),(1,.int .i64 x1),(3,.int .i64 x2),(10,.pointer p3),(11,.slice a4 l5 k6),(12,.int .i64 x7)] m)):
  wpc PP FF 39 L_reader_stream c_reader_stream_rrrlrll K [(0,.pointer (some ⟨r,0,none⟩)),(1,.int .i64 x1),(3,.int .i64 x2),(10,.pointer p3),(11,.slice a4 l5 k6),(12,.int .i64 x7)] m:=
 Eq.mpr (by kernel_rfl) h
def L_Writer_Stored:List Nat:=[0,1,2,3,9,26,27,28,29]
def r_Writer_Stored:List ResultVar:=[]
noncomputable def c_Writer_Stored:Code:=(Go.Proofs.Tryz.f20.body).getD .skip
theorem b_Writer_Stored:Go.Proofs.Tryz.f20.body=some c_Writer_Stored:=by kernel_rfl
noncomputable def c_Writer_Stored_rrrrrl:Code:=(lft (rgt (rgt (rgt (rgt (rgt c_Writer_Stored))))))
noncomputable def c_Writer_Stored_rrrrrll:Code:=(lft c_Writer_Stored_rrrrrl)
theorem q_Writer_Stored_rrrrrl:c_Writer_Stored_rrrrrl=.loop c_Writer_Stored_rrrrrll:=by kernel_rfl
theorem e_Writer_Stored (w:Nat) (a1:Option Addr) (l2:Nat) (k3:Nat) (b4:Bool) (x5:Int) (m:Mem) (R:Value→Mem→Prop)
  (h:CallM PP f_spec_flag #[.bool b4] m fun v7 m8=>∃ x6,v7=.int .i64 x6∧CallM PP f_Writer_Bits #[.pointer (some ⟨w,0,none⟩),.int .i64 x6,.int .i64 3] m8 fun v9 m10=>v9=.tuple #[]∧CallM PP f_Writer_Pad #[.pointer (some ⟨w,0,none⟩),.int .i64 x5] m10 fun v11 m12=>v11=.tuple #[]∧CallM PP f_Writer_Bits #[.pointer (some ⟨w,0,none⟩),.int .i64 (l2:Int),.int .i64 16] m12 fun v13 m14=>v13=.tuple #[]∧CallM PP f_Writer_Bits #[.pointer (some ⟨w,0,none⟩),.int .i64 (IntKind.wrap .i64 (65535 - (l2:Int))),.int .i64 16] m14 fun v15 m16=>v15=.tuple #[]∧WPS PP 37 c_Writer_Stored_rrrrrl ((retK PP r_Writer_Stored R).withX 0) [(0,.pointer (some ⟨w,0,none⟩)),(1,.slice a1 l2 k3),(2,.bool b4),(3,.int .i64 x5),(26,.slice a1 l2 k3),(27,.int .i64 (l2:Int)),(28,.int .i64 0)] m16):
  CallM PP f_Writer_Stored #[.pointer (some ⟨w,0,none⟩),.slice a1 l2 k3,.bool b4,.int .i64 x5] m R:=
 callM_enter ffOk mixedOk 37 L_Writer_Stored Tryz.func20 b_Writer_Stored Tryz.ntmps20 (by simp) (Eq.mpr (by kernel_rfl) h)
theorem p_Writer_Stored_rrrrrll (w:Nat) (a1:Option Addr) (l2:Nat) (k3:Nat) (x4:Int) (x5:Int) (m:Mem) (K:Kont)
  (h:ifB (decide (x5 < x4)) (onSome a1 fun p6=>(0≤x5∧x5 < (l2:Int))∧∃ x7,cell? m (aplus p6 x5.toNat)=some (.int .u8 x7)∧CallM PP f_Writer_Bits #[.pointer (some ⟨w,0,none⟩),.int .i64 (IntKind.wrap .i64 x7),.int .i64 8] m fun v8 m9=>v8=.tuple #[]∧K.kn [(0,.pointer (some ⟨w,0,none⟩)),(9,.int .u8 x7),(26,.slice a1 l2 k3),(27,.int .i64 x4),(28,.int .i64 (IntKind.wrap .i64 (x5+1)))] m9) (K.kx 0 [(0,.pointer (some ⟨w,0,none⟩)),(26,.slice a1 l2 k3),(27,.int .i64 x4),(28,.int .i64 x5)] m)):
  wpc PP FF 37 L_Writer_Stored c_Writer_Stored_rrrrrll K [(0,.pointer (some ⟨w,0,none⟩)),(26,.slice a1 l2 k3),(27,.int .i64 x4),(28,.int .i64 x5)] m:=
 Eq.mpr (by kernel_rfl) h
def L_reader_listOf:List Nat:=[0,1,2,6,7,8,9,10,16,25]
def r_reader_listOf:List ResultVar:=[.tmp 6]
noncomputable def c_reader_listOf:Code:=(Go.Proofs.Tryz.f21.body).getD .skip
theorem b_reader_listOf:Go.Proofs.Tryz.f21.body=some c_reader_listOf:=by kernel_rfl
noncomputable def c_reader_listOf_rrr:Code:=(rgt (rgt (rgt c_reader_listOf)))
noncomputable def c_reader_listOf_rrlrl:Code:=(lft (rgt (lft (rgt (rgt c_reader_listOf)))))
noncomputable def c_reader_listOf_rrlrll:Code:=(lft c_reader_listOf_rrlrl)
noncomputable def c_reader_listOf_rrlrllrr:Code:=(rgt (rgt c_reader_listOf_rrlrll))
theorem q_reader_listOf_rrlrl:c_reader_listOf_rrlrl=.loop c_reader_listOf_rrlrll:=by kernel_rfl
theorem e_reader_listOf (r:Nat) (x1:Int) (x2:Int) (m:Mem) (R:Value→Mem→Prop)
  (h:CallM PP f_reader_pick #[.pointer (some ⟨r,0,none⟩),.int .i64 (IntKind.wrap .i64 (x2+1))] m fun v4 m5=>∃ x3,v4=.int .i64 x3∧WPS PP 65 c_reader_listOf_rrlrl (((retK PP r_reader_listOf R).withN fun r m=>WPS PP 65 c_reader_listOf_rrr (retK PP r_reader_listOf R) r m).withX 0) [(0,.pointer (some ⟨r,0,none⟩)),(1,.int .i64 x1),(2,.int .i64 x2),(6,.slice none 0 0),(7,.slice none 0 0),(8,.int .i64 x3)] m5):
  CallM PP f_reader_listOf #[.pointer (some ⟨r,0,none⟩),.int .i64 x1,.int .i64 x2] m R:=
 callM_enter ffOk mixedOk 65 L_reader_listOf Tryz.func21 b_reader_listOf Tryz.ntmps21 (by simp) (Eq.mpr (by kernel_rfl) h)
theorem p_reader_listOf_rrr (a1:Option Addr) (l2:Nat) (k3:Nat) (m:Mem) (K:Kont)
  (h:K.kr [(6,.slice a1 l2 k3),(7,.slice a1 l2 k3)] m):
  wpc PP FF 65 L_reader_listOf c_reader_listOf_rrr K [(7,.slice a1 l2 k3)] m:=
 Eq.mpr (by kernel_rfl) h
theorem p_reader_listOf_rrlrll (r:Nat) (x1:Int) (a2:Option Addr) (l3:Nat) (k4:Nat) (x5:Int) (m:Mem) (K:Kont)
  (h:ifB (decide (x5 > 0)) (ifB (x1 == 0) (CallM PP f_reader_pick #[.pointer (some ⟨r,0,none⟩),.int .i64 256] m fun v7 m8=>∃ x6,v7=.int .i64 x6∧SemW PP (sv (Instr.buildSlice t_s_int 7 #[(0,.int .i64 97),(1,.int .i64 98),(2,.int .i64 0),(3,.int .i64 143),(4,.int .i64 144),(5,.int .i64 255),(6,.int .i64 x6)])) m8 (NextW PP fun v12 m13=>∃ a9 l10 k11,v12=.slice a9 l10 k11∧CallM PP f_reader_one #[.pointer (some ⟨r,0,none⟩),.slice a9 l10 k11] m13 fun v15 m16=>∃ x14,v15=.int .i64 x14∧SemW PP (sv (Instr.buildSlice t_s_spec_Item 1 #[(0,.agg #[.int .u8 (IntKind.wrap .u8 x14),.int .i64 0,.int .i64 0])])) m16 (NextW PP fun v20 m21=>∃ a17 l18 k19,v20=.slice a17 l18 k19∧SemW PP (builtin .append #[t_s_spec_Item,t_s_spec_Item] t_s_spec_Item #[false,false] #[.slice a2 l3 k4,.slice a17 l18 k19]) m21 (NextW PP fun v25 m26=>∃ a22 l23 k24,v25=.slice a22 l23 k24∧WPS PP 65 c_reader_listOf_rrlrllrr K [(0,.pointer (some ⟨r,0,none⟩)),(1,.int .i64 (IntKind.wrap .i64 (x1+1))),(7,.slice a22 l23 k24),(8,.int .i64 x5)] m26)))) (CallM PP f_reader_pick #[.pointer (some ⟨r,0,none⟩),.int .i64 3] m fun v28 m29=>∃ x27,v28=.int .i64 x27∧ifB (decide (x27 > 0)) (CallM PP f_reader_pick #[.pointer (some ⟨r,0,none⟩),.int .i64 256] m29 fun v31 m32=>∃ x30,v31=.int .i64 x30∧SemW PP (sv (Instr.buildSlice t_s_int 7 #[(0,.int .i64 97),(1,.int .i64 98),(2,.int .i64 0),(3,.int .i64 143),(4,.int .i64 144),(5,.int .i64 255),(6,.int .i64 x30)])) m32 (NextW PP fun v36 m37=>∃ a33 l34 k35,v36=.slice a33 l34 k35∧CallM PP f_reader_one #[.pointer (some ⟨r,0,none⟩),.slice a33 l34 k35] m37 fun v39 m40=>∃ x38,v39=.int .i64 x38∧SemW PP (sv (Instr.buildSlice t_s_spec_Item 1 #[(0,.agg #[.int .u8 (IntKind.wrap .u8 x38),.int .i64 0,.int .i64 0])])) m40 (NextW PP fun v44 m45=>∃ a41 l42 k43,v44=.slice a41 l42 k43∧SemW PP (builtin .append #[t_s_spec_Item,t_s_spec_Item] t_s_spec_Item #[false,false] #[.slice a2 l3 k4,.slice a41 l42 k43]) m45 (NextW PP fun v49 m50=>∃ a46 l47 k48,v49=.slice a46 l47 k48∧WPS PP 65 c_reader_listOf_rrlrllrr K [(0,.pointer (some ⟨r,0,none⟩)),(1,.int .i64 (IntKind.wrap .i64 (x1+1))),(7,.slice a46 l47 k48),(8,.int .i64 x5)] m50)))) (CallM PP f_reader_length #[.pointer (some ⟨r,0,none⟩)] m29 fun v52 m53=>∃ x51,v52=.int .i64 x51∧CallM PP f_reader_pick #[.pointer (some ⟨r,0,none⟩),.int .i64 (if (32768:Int) < x1 then 32768 else x1)] m53 fun v55 m56=>∃ x54,v55=.int .i64 x54∧CallM PP f_reader_pick #[.pointer (some ⟨r,0,none⟩),.int .i64 (if (40:Int) < if (32768:Int) < x1 then 32768 else x1 then 40 else if (32768:Int) < x1 then 32768 else x1)] m56 fun v58 m59=>∃ x57,v58=.int .i64 x57∧SemW PP (sv (Instr.buildSlice t_s_int 4 #[(0,.int .i64 1),(1,.int .i64 (IntKind.wrap .i64 (1+x54))),(2,.int .i64 (IntKind.wrap .i64 (1+x57))),(3,.int .i64 (if (32768:Int) < x1 then 32768 else x1))])) m59 (NextW PP fun v63 m64=>∃ a60 l61 k62,v63=.slice a60 l61 k62∧CallM PP f_reader_one #[.pointer (some ⟨r,0,none⟩),.slice a60 l61 k62] m64 fun v66 m67=>∃ x65,v66=.int .i64 x65∧AllocW PP t_spec_Item m67 fun n68 m69=>StAgg PP t_spec_Item m69 ⟨n68,0,none⟩ (.agg #[.int .u8 0,.int .i64 x51,.int .i64 x65]) fun m70=>∃ x71 x72 x73,([.int .u8 x71,.int .i64 x72,.int .i64 x73]:List Value).length=3∧CellsAre m70 ⟨n68,0,none⟩ 0 [.int .u8 x71,.int .i64 x72,.int .i64 x73]∧SemW PP (sv (Instr.buildSlice t_s_spec_Item 1 #[(0,.agg #[.int .u8 x71,.int .i64 x72,.int .i64 x73])])) m70 (NextW PP fun v77 m78=>∃ a74 l75 k76,v77=.slice a74 l75 k76∧SemW PP (builtin .append #[t_s_spec_Item,t_s_spec_Item] t_s_spec_Item #[false,false] #[.slice a2 l3 k4,.slice a74 l75 k76]) m78 (NextW PP fun v82 m83=>∃ a79 l80 k81,v82=.slice a79 l80 k81∧∃ x84,cell? m83 ⟨n68,1,none⟩=some (.int .i64 x84)∧WPS PP 65 c_reader_listOf_rrlrllrr K [(0,.pointer (some ⟨r,0,none⟩)),(1,.int .i64 (IntKind.wrap .i64 (x1+x84))),(7,.slice a79 l80 k81),(8,.int .i64 x5),(9,.int .i64 (if (32768:Int) < x1 then 32768 else x1)),(10,.pointer (some ⟨n68,0,none⟩))] m83)))))) (K.kx 0 [(0,.pointer (some ⟨r,0,none⟩)),(1,.int .i64 x1),(7,.slice a2 l3 k4),(8,.int .i64 x5)] m)):
  wpc PP FF 65 L_reader_listOf c_reader_listOf_rrlrll K [(0,.pointer (some ⟨r,0,none⟩)),(1,.int .i64 x1),(7,.slice a2 l3 k4),(8,.int .i64 x5)] m:=
 Eq.mpr (by kernel_rfl) h
theorem p_reader_listOf_rrlrllrr (r:Nat) (x1:Int) (a2:Option Addr) (l3:Nat) (k4:Nat) (x5:Int) (m:Mem) (K:Kont)
  (h:K.kn [(0,.pointer (some ⟨r,0,none⟩)),(1,.int .i64 x1),(7,.slice a2 l3 k4),(8,.int .i64 (IntKind.wrap .i64 (x5 - 1)))] m):
  wpc PP FF 65 L_reader_listOf c_reader_listOf_rrlrllrr K [(0,.pointer (some ⟨r,0,none⟩)),(1,.int .i64 x1),(7,.slice a2 l3 k4),(8,.int .i64 x5)] m:=
 Eq.mpr (by kernel_rfl) h
def L_Writer_Fixed:List Nat:=[0,1,2,6,7]
def r_Writer_Fixed:List ResultVar:=[]
noncomputable def c_Writer_Fixed:Code:=(Go.Proofs.Tryz.f22.body).getD .skip
theorem b_Writer_Fixed:Go.Proofs.Tryz.f22.body=some c_Writer_Fixed:=by kernel_rfl
theorem e_Writer_Fixed (w:Nat) (a1:Option Addr) (l2:Nat) (k3:Nat) (b4:Bool) (m:Mem) (R:Value→Mem→Prop)
  (h:CallM PP f_spec_flag #[.bool b4] m fun v6 m7=>∃ x5,v6=.int .i64 x5∧IntKind.i64=IntKind.i64∧CallM PP f_Writer_Bits #[.pointer (some ⟨w,0,none⟩),.int .i64 (bitsOp .or .i64 x5 2),.int .i64 3] m7 fun v8 m9=>v8=.tuple #[]∧CallM PP f_spec_fixed #[] m9 fun v16 m17=>∃ a10 l11,∃ k12 a13,∃ l14 k15,v16=.tuple #[.slice a10 l11 k12,.slice a13 l14 k15]∧CallM PP f_Writer_items #[.pointer (some ⟨w,0,none⟩),.slice a1 l2 k3,.slice a10 l11 k12,.slice a13 l14 k15] m17 fun v18 m19=>v18=.tuple #[]∧R (.tuple #[]) m19):
  CallM PP f_Writer_Fixed #[.pointer (some ⟨w,0,none⟩),.slice a1 l2 k3,.bool b4] m R:=
 callM_enter ffOk mixedOk 22 L_Writer_Fixed Tryz.func22 b_Writer_Fixed Tryz.ntmps22 (by simp) (Eq.mpr (by kernel_rfl) h)
def L_Writer_dynamic:List Nat:=[0,1,2,3,8,9,10,11,12,14,28,29,30,31,47]
def r_Writer_dynamic:List ResultVar:=[]
noncomputable def c_Writer_dynamic:Code:=(Go.Proofs.Tryz.f23.body).getD .skip
theorem b_Writer_dynamic:Go.Proofs.Tryz.f23.body=some c_Writer_dynamic:=by kernel_rfl
noncomputable def c_Writer_dynamic_rrrrr:Code:=(rgt (rgt (rgt (rgt (rgt c_Writer_dynamic)))))
noncomputable def c_Writer_dynamic_rrrrrr:Code:=(rgt c_Writer_dynamic_rrrrr)
noncomputable def c_Writer_dynamic_rrrrlrl:Code:=(lft (rgt (lft (rgt (rgt (rgt (rgt c_Writer_dynamic)))))))
noncomputable def c_Writer_dynamic_rrrrlrll:Code:=(lft c_Writer_dynamic_rrrrlrl)
theorem q_Writer_dynamic_rrrrlrl:c_Writer_dynamic_rrrrlrl=.loop c_Writer_dynamic_rrrrlrll:=by kernel_rfl
theorem e_Writer_dynamic (w:Nat) (p1:Option Addr) (a2:Option Addr) (l3:Nat) (k4:Nat) (b5:Bool) (m:Mem) (R:Value→Mem→Prop)
  (h:CallM PP f_spec_needs #[.slice a2 l3 k4] m fun v12 m13=>∃ a6 l7,∃ k8 a9,∃ l10 k11,v12=.tuple #[.slice a6 l7 k8,.slice a9 l10 k11]∧CallM PP f_reader_lengthsOf #[.pointer p1,.slice a6 l7 k8,.int .i64 15] m13 fun v17 m18=>∃ a14 l15 k16,v17=.slice a14 l15 k16∧CallM PP f_reader_trimmed #[.pointer p1,.slice a14 l15 k16,.int .i64 257] m18 fun v22 m23=>∃ a19 l20 k21,v22=.slice a19 l20 k21∧CallM PP f_reader_lengthsOf #[.pointer p1,.slice a9 l10 k11,.int .i64 15] m23 fun v27 m28=>∃ a24 l25 k26,v27=.slice a24 l25 k26∧WPS PP 67 c_Writer_dynamic_rrrrlrl (((retK PP r_Writer_dynamic R).withN fun r m=>WPS PP 67 c_Writer_dynamic_rrrrr (retK PP r_Writer_dynamic R) r m).withX 0) [(0,.pointer (some ⟨w,0,none⟩)),(1,.pointer p1),(2,.slice a2 l3 k4),(3,.bool b5),(8,.slice a6 l7 k8),(9,.slice a9 l10 k11),(10,.slice a19 l20 k21),(11,.slice a24 l25 k26),(12,.bool false),(28,.slice a2 l3 k4),(29,.int .i64 (l3:Int)),(30,.int .i64 0)] m28):
  CallM PP f_Writer_dynamic #[.pointer (some ⟨w,0,none⟩),.pointer p1,.slice a2 l3 k4,.bool b5] m R:=
 callM_enter ffOk mixedOk 67 L_Writer_dynamic Tryz.func23 b_Writer_dynamic Tryz.ntmps23 (by simp) (Eq.mpr (by kernel_rfl) h)
theorem p_Writer_dynamic_rrrrr (w:Nat) (p1:Option Addr) (a2:Option Addr) (l3:Nat) (k4:Nat) (b5:Bool) (a6:Option Addr) (l7:Nat) (k8:Nat) (a9:Option Addr) (l10:Nat) (k11:Nat) (b12:Bool) (m:Mem) (K:Kont)
  (h:ifB (!b12) (CallM PP f_reader_pick #[.pointer p1,.int .i64 2] m fun v14 m15=>∃ x13,v14=.int .i64 x13∧ifB (x13 == 0) (SemW PP (sv (Instr.makeSlice t_s_int (.int .i64 30) (.int .i64 30))) m15 (NextW PP fun v19 m20=>∃ a16 l17 k18,v19=.slice a16 l17 k18∧WPS PP 67 c_Writer_dynamic_rrrrrr K [(0,.pointer (some ⟨w,0,none⟩)),(1,.pointer p1),(2,.slice a2 l3 k4),(3,.bool b5),(10,.slice a6 l7 k8),(11,.slice a16 l17 k18),(12,.bool b12)] m20)) (WPS PP 67 c_Writer_dynamic_rrrrrr K [(0,.pointer (some ⟨w,0,none⟩)),(1,.pointer p1),(2,.slice a2 l3 k4),(3,.bool b5),(10,.slice a6 l7 k8),(11,.slice a9 l10 k11),(12,.bool b12)] m15)) (WPS PP 67 c_Writer_dynamic_rrrrrr K [(0,.pointer (some ⟨w,0,none⟩)),(1,.pointer p1),(2,.slice a2 l3 k4),(3,.bool b5),(10,.slice a6 l7 k8),(11,.slice a9 l10 k11),(12,.bool b12)] m)):
  wpc PP FF 67 L_Writer_dynamic c_Writer_dynamic_rrrrr K [(0,.pointer (some ⟨w,0,none⟩)),(1,.pointer p1),(2,.slice a2 l3 k4),(3,.bool b5),(10,.slice a6 l7 k8),(11,.slice a9 l10 k11),(12,.bool b12)] m:=
 Eq.mpr (by kernel_rfl) h
theorem p_Writer_dynamic_rrrrlrll (w:Nat) (p1:Option Addr) (a2:Option Addr) (l3:Nat) (k4:Nat) (b5:Bool) (a6:Option Addr) (l7:Nat) (k8:Nat) (a9:Option Addr) (l10:Nat) (k11:Nat) (b12:Bool) (a13:Option Addr) (l14:Nat) (k15:Nat) (x16:Int) (x17:Int) (m:Mem) (K:Kont)
  (h:ifB (decide (x17 < x16)) (onSome a13 fun p18=>(0≤x17∧x17 < (l14:Int))∧∃ x19 x20 x21,([.int .u8 x19,.int .i64 x20,.int .i64 x21]:List Value).length=3∧CellsAre m (aplus p18 (x17.toNat * 3)) 0 [.int .u8 x19,.int .i64 x20,.int .i64 x21]∧AllocW PP t_spec_Item m fun n22 m23=>StAgg PP t_spec_Item m23 ⟨n22,0,none⟩ (.agg #[.int .u8 x19,.int .i64 x20,.int .i64 x21]) fun m24=>ifB b12 (K.kn [(0,.pointer (some ⟨w,0,none⟩)),(1,.pointer p1),(2,.slice a2 l3 k4),(3,.bool b5),(10,.slice a6 l7 k8),(11,.slice a9 l10 k11),(12,.bool true),(14,.pointer (some ⟨n22,0,none⟩)),(28,.slice a13 l14 k15),(29,.int .i64 x16),(30,.int .i64 (IntKind.wrap .i64 (x17+1)))] m24) (∃ x25,cell? m24 ⟨n22,1,none⟩=some (.int .i64 x25)∧K.kn [(0,.pointer (some ⟨w,0,none⟩)),(1,.pointer p1),(2,.slice a2 l3 k4),(3,.bool b5),(10,.slice a6 l7 k8),(11,.slice a9 l10 k11),(12,.bool (decide (x25 > 0))),(14,.pointer (some ⟨n22,0,none⟩)),(28,.slice a13 l14 k15),(29,.int .i64 x16),(30,.int .i64 (IntKind.wrap .i64 (x17+1)))] m24)) (K.kx 0 [(0,.pointer (some ⟨w,0,none⟩)),(1,.pointer p1),(2,.slice a2 l3 k4),(3,.bool b5),(10,.slice a6 l7 k8),(11,.slice a9 l10 k11),(12,.bool b12),(28,.slice a13 l14 k15),(29,.int .i64 x16),(30,.int .i64 x17)] m)):
  wpc PP FF 67 L_Writer_dynamic c_Writer_dynamic_rrrrlrll K [(0,.pointer (some ⟨w,0,none⟩)),(1,.pointer p1),(2,.slice a2 l3 k4),(3,.bool b5),(10,.slice a6 l7 k8),(11,.slice a9 l10 k11),(12,.bool b12),(28,.slice a13 l14 k15),(29,.int .i64 x16),(30,.int .i64 x17)] m:=
 Eq.mpr (by kernel_rfl) h
theorem p_Writer_dynamic_rrrrrr (w:Nat) (p1:Option Addr) (a2:Option Addr) (l3:Nat) (k4:Nat) (b5:Bool) (a6:Option Addr) (l7:Nat) (k8:Nat) (a9:Option Addr) (l10:Nat) (k11:Nat) (m:Mem) (K:Kont)
  (h:CallM PP f_reader_trimmed #[.pointer p1,.slice a9 l10 k11,.int .i64 1] m fun v15 m16=>∃ a12 l13 k14,v15=.slice a12 l13 k14∧CallM PP f_spec_flag #[.bool b5] m16 fun v18 m19=>∃ x17,v18=.int .i64 x17∧IntKind.i64=IntKind.i64∧CallM PP f_Writer_Bits #[.pointer (some ⟨w,0,none⟩),.int .i64 (bitsOp .or .i64 x17 4),.int .i64 3] m19 fun v20 m21=>v20=.tuple #[]∧CallM PP f_Writer_lengths #[.pointer (some ⟨w,0,none⟩),.pointer p1,.slice a6 l7 k8,.slice a12 l13 k14] m21 fun v22 m23=>v22=.tuple #[]∧CallM PP f_Writer_items #[.pointer (some ⟨w,0,none⟩),.slice a2 l3 k4,.slice a6 l7 k8,.slice a12 l13 k14] m23 fun v24 m25=>v24=.tuple #[]∧K.kn [(0,.pointer (some ⟨w,0,none⟩)),(1,.pointer p1),(2,.slice a2 l3 k4),(3,.bool b5),(10,.slice a6 l7 k8),(11,.slice a12 l13 k14)] m25):
  wpc PP FF 67 L_Writer_dynamic c_Writer_dynamic_rrrrrr K [(0,.pointer (some ⟨w,0,none⟩)),(1,.pointer p1),(2,.slice a2 l3 k4),(3,.bool b5),(10,.slice a6 l7 k8),(11,.slice a9 l10 k11)] m:=
 Eq.mpr (by kernel_rfl) h
def L_spec_Given:List Nat:=[0,1,4,6,7,8,9,10,15,22,23,24]
def r_spec_Given:List ResultVar:=[.tmp 4]
noncomputable def c_spec_Given:Code:=(Go.Proofs.Tryz.f24.body).getD .skip
theorem b_spec_Given:Go.Proofs.Tryz.f24.body=some c_spec_Given:=by kernel_rfl
noncomputable def c_spec_Given_rr:Code:=(rgt (rgt c_spec_Given))
noncomputable def c_spec_Given_rlrl:Code:=(lft (rgt (lft (rgt c_spec_Given))))
noncomputable def c_spec_Given_rlrll:Code:=(lft c_spec_Given_rlrl)
noncomputable def c_spec_Given_rlrllrrr:Code:=(rgt (rgt (rgt c_spec_Given_rlrll)))
noncomputable def c_spec_Given_rlrllrrllrr:Code:=(rgt (rgt (lft (lft (rgt (rgt c_spec_Given_rlrll))))))
noncomputable def c_spec_Given_rlrllrrllrrrl:Code:=(lft (rgt c_spec_Given_rlrllrrllrr))
noncomputable def c_spec_Given_rlrllrrllrrrll:Code:=(lft c_spec_Given_rlrllrrllrrrl)
theorem q_spec_Given_rlrl:c_spec_Given_rlrl=.loop c_spec_Given_rlrll:=by kernel_rfl
theorem q_spec_Given_rlrllrrllrrrl:c_spec_Given_rlrllrrllrrrl=.loop c_spec_Given_rlrllrrllrrrll:=by kernel_rfl
theorem e_spec_Given (a1:Option Addr) (l2:Nat) (k3:Nat) (a4:Option Addr) (l5:Nat) (k6:Nat) (m:Mem) (R:Value→Mem→Prop)
  (h:WPS PP 39 c_spec_Given_rlrl (((retK PP r_spec_Given R).withN fun r m=>WPS PP 39 c_spec_Given_rr (retK PP r_spec_Given R) r m).withX 0) [(0,.slice a1 l2 k3),(1,.slice a4 l5 k6),(4,.slice none 0 0),(7,.slice a4 l5 k6),(8,.int .i64 (l5:Int)),(9,.int .i64 0)] m):
  CallM PP f_spec_Given #[.slice a1 l2 k3,.slice a4 l5 k6] m R:=
 callM_enter ffOk mixedOk 39 L_spec_Given Tryz.func24 b_spec_Given Tryz.ntmps24 (by simp) (Eq.mpr (by kernel_rfl) h)
theorem p_spec_Given_rr (a1:Option Addr) (l2:Nat) (k3:Nat) (m:Mem) (K:Kont)
  (h:K.kr [(0,.slice a1 l2 k3),(4,.slice a1 l2 k3)] m):
  wpc PP FF 39 L_spec_Given c_spec_Given_rr K [(0,.slice a1 l2 k3)] m:=
 Eq.mpr (by kernel_rfl) h
theorem p_spec_Given_rlrll (a1:Option Addr) (l2:Nat) (k3:Nat) (a4:Option Addr) (l5:Nat) (k6:Nat) (x7:Int) (x8:Int) (m:Mem) (K:Kont)
  (h:ifB (decide (x8 < x7)) (onSome a4 fun p9=>(0≤x8∧x8 < (l5:Int))∧∃ x10 x11 x12,([.int .u8 x10,.int .i64 x11,.int .i64 x12]:List Value).length=3∧CellsAre m (aplus p9 (x8.toNat * 3)) 0 [.int .u8 x10,.int .i64 x11,.int .i64 x12]∧AllocW PP t_spec_Item m fun n13 m14=>StAgg PP t_spec_Item m14 ⟨n13,0,none⟩ (.agg #[.int .u8 x10,.int .i64 x11,.int .i64 x12]) fun m15=>∃ x16,cell? m15 ⟨n13,1,none⟩=some (.int .i64 x16)∧ifB (x16 == 0) (∃ x17,cell? m15 ⟨n13,0,none⟩=some (.int .u8 x17)∧SemW PP (sv (Instr.buildSlice t_s_uint8 1 #[(0,.int .u8 x17)])) m15 (NextW PP fun v21 m22=>∃ a18 l19 k20,v21=.slice a18 l19 k20∧SemW PP (builtin .append #[t_s_uint8,t_s_uint8] t_s_uint8 #[false,false] #[.slice a1 l2 k3,.slice a18 l19 k20]) m22 (NextW PP fun v26 m27=>∃ a23 l24 k25,v26=.slice a23 l24 k25∧WPS PP 39 c_spec_Given_rlrllrrllrr ((K.withN fun r m=>WPS PP 39 c_spec_Given_rlrllrrr K r m).withX 1) [(0,.slice a23 l24 k25),(6,.pointer (some ⟨n13,0,none⟩)),(7,.slice a4 l5 k6),(8,.int .i64 x7),(9,.int .i64 x8)] m27))) (WPS PP 39 c_spec_Given_rlrllrrllrr ((K.withN fun r m=>WPS PP 39 c_spec_Given_rlrllrrr K r m).withX 1) [(0,.slice a1 l2 k3),(6,.pointer (some ⟨n13,0,none⟩)),(7,.slice a4 l5 k6),(8,.int .i64 x7),(9,.int .i64 x8)] m15)) (K.kx 0 [(0,.slice a1 l2 k3),(7,.slice a4 l5 k6),(8,.int .i64 x7),(9,.int .i64 x8)] m)):
  wpc PP FF 39 L_spec_Given c_spec_Given_rlrll K [(0,.slice a1 l2 k3),(7,.slice a4 l5 k6),(8,.int .i64 x7),(9,.int .i64 x8)] m:=
 Eq.mpr (by kernel_rfl) h
theorem p_spec_Given_rlrllrrllrrrll (a1:Option Addr) (l2:Nat) (k3:Nat) (n4:Nat) (a5:Option Addr) (l6:Nat) (k7:Nat) (x8:Int) (x9:Int) (x10:Int) (x11:Int) (m:Mem) (K:Kont)
  (h:ifB (decide (x11 < x10)) (∃ x12,cell? m ⟨n4,2,none⟩=some (.int .i64 x12)∧onSome a1 fun p13=>(0≤(IntKind.wrap .i64 ((l2:Int) - x12))∧(IntKind.wrap .i64 ((l2:Int) - x12)) < (l2:Int))∧∃ x14,cell? m (aplus p13 ((IntKind.wrap .i64 ((l2:Int) - x12)).toNat))=some (.int .u8 x14)∧SemW PP (sv (Instr.buildSlice t_s_uint8 1 #[(0,.int .u8 x14)])) m (NextW PP fun v18 m19=>∃ a15 l16 k17,v18=.slice a15 l16 k17∧SemW PP (builtin .append #[t_s_uint8,t_s_uint8] t_s_uint8 #[false,false] #[.slice a1 l2 k3,.slice a15 l16 k17]) m19 (NextW PP fun v23 m24=>∃ a20 l21 k22,v23=.slice a20 l21 k22∧K.kn [(0,.slice a20 l21 k22),(6,.pointer (some ⟨n4,0,none⟩)),(7,.slice a5 l6 k7),(8,.int .i64 x8),(9,.int .i64 x9),(22,.int .i64 x10),(23,.int .i64 (IntKind.wrap .i64 (x11+1)))] m24))) (K.kx 2 [(0,.slice a1 l2 k3),(6,.pointer (some ⟨n4,0,none⟩)),(7,.slice a5 l6 k7),(8,.int .i64 x8),(9,.int .i64 x9),(22,.int .i64 x10),(23,.int .i64 x11)] m)):
  wpc PP FF 39 L_spec_Given c_spec_Given_rlrllrrllrrrll K [(0,.slice a1 l2 k3),(6,.pointer (some ⟨n4,0,none⟩)),(7,.slice a5 l6 k7),(8,.int .i64 x8),(9,.int .i64 x9),(22,.int .i64 x10),(23,.int .i64 x11)] m:=
 Eq.mpr (by kernel_rfl) h
theorem p_spec_Given_rlrllrrr (a1:Option Addr) (l2:Nat) (k3:Nat) (a4:Option Addr) (l5:Nat) (k6:Nat) (x7:Int) (x8:Int) (m:Mem) (K:Kont)
  (h:K.kn [(0,.slice a1 l2 k3),(7,.slice a4 l5 k6),(8,.int .i64 x7),(9,.int .i64 (IntKind.wrap .i64 (x8+1)))] m):
  wpc PP FF 39 L_spec_Given c_spec_Given_rlrllrrr K [(0,.slice a1 l2 k3),(7,.slice a4 l5 k6),(8,.int .i64 x7),(9,.int .i64 x8)] m:=
 Eq.mpr (by kernel_rfl) h
theorem p_spec_Given_rlrllrrllrr (a1:Option Addr) (l2:Nat) (k3:Nat) (n4:Nat) (a5:Option Addr) (l6:Nat) (k7:Nat) (x8:Int) (x9:Int) (m:Mem) (K:Kont)
  (h:∃ x10,cell? m ⟨n4,1,none⟩=some (.int .i64 x10)∧WPS PP 39 c_spec_Given_rlrllrrllrrrl (K.withX 2) [(0,.slice a1 l2 k3),(6,.pointer (some ⟨n4,0,none⟩)),(7,.slice a5 l6 k7),(8,.int .i64 x8),(9,.int .i64 x9),(22,.int .i64 x10),(23,.int .i64 0)] m):
  wpc PP FF 39 L_spec_Given c_spec_Given_rlrllrrllrr K [(0,.slice a1 l2 k3),(6,.pointer (some ⟨n4,0,none⟩)),(7,.slice a5 l6 k7),(8,.int .i64 x8),(9,.int .i64 x9)] m:=
 Eq.mpr (by kernel_rfl) h
def L_decompressor_makeReader:List Nat:=[0,1,4,5,11,23]
def r_decompressor_makeReader:List ResultVar:=[]
noncomputable def c_decompressor_makeReader:Code:=(Go.Proofs.Tryz.f25.body).getD .skip
theorem b_decompressor_makeReader:Go.Proofs.Tryz.f25.body=some c_decompressor_makeReader:=by kernel_rfl
noncomputable def c_decompressor_makeReader_rr:Code:=(rgt (rgt c_decompressor_makeReader))
theorem e_decompressor_makeReader (f:Nat) (v1:Value) (m:Mem) (R:Value→Mem→Prop)
  (h:PureW PP (Instr.typeAssert v1 t_io_Reader t_flate_Reader true) fun u4=>∃ v2 b3,u4=.tuple #[v2,.bool b3]∧ifB b3 (StW m ⟨f,1,none⟩ (.pointer none) fun m5=>StW m5 ⟨f,0,none⟩ v2 fun m6=>R (.tuple #[]) m6) (∃ p7,cell? m ⟨f,1,none⟩=some (.pointer p7)∧ifB (!p7.isNone) (∃ p8,cell? m ⟨f,1,none⟩=some (.pointer p8)∧CallM PP f_bufio_Reader_Reset #[.pointer p8,v1] m fun v9 m10=>v9=.tuple #[]∧WPS PP 43 c_decompressor_makeReader_rr (retK PP r_decompressor_makeReader R) [(0,.pointer (some ⟨f,0,none⟩)),(1,v1),(4,v2),(5,.bool b3)] m10) (CallM PP f_bufio_NewReader #[v1] m fun v12 m13=>∃ p11,v12=.pointer p11∧StW m13 ⟨f,1,none⟩ (.pointer p11) fun m14=>WPS PP 43 c_decompressor_makeReader_rr (retK PP r_decompressor_makeReader R) [(0,.pointer (some ⟨f,0,none⟩)),(1,v1),(4,v2),(5,.bool b3)] m14))):
  CallM PP f_decompressor_makeReader #[.pointer (some ⟨f,0,none⟩),v1] m R:=
 callM_enter ffOk mixedOk 43 L_decompressor_makeReader Tryz.func25 b_decompressor_makeReader Tryz.ntmps25 (by simp) (Eq.mpr (by kernel_rfl) h)
theorem p_decompressor_makeReader_rr (f:Nat) (m:Mem) (K:Kont)
  (h:∃ p1,cell? m ⟨f,1,none⟩=some (.pointer p1)∧StW m ⟨f,0,none⟩ (.iface t_p_bufio_Reader (.pointer p1)) fun m2=>K.kn [(0,.pointer (some ⟨f,0,none⟩))] m2  ):
  wpc PP FF 43 L_decompressor_makeReader c_decompressor_makeReader_rr K [(0,.pointer (some ⟨f,0,none⟩))] m:=
 Eq.mpr (by kernel_rfl) h
def L_decompressor_nextBlock:List Nat:=[0,2,7,17,53,62,66,77,88]
def r_decompressor_nextBlock:List ResultVar:=[]
noncomputable def c_decompressor_nextBlock:Code:=(Go.Proofs.Tryz.f26.body).getD .skip
theorem b_decompressor_nextBlock:Go.Proofs.Tryz.f26.body=some c_decompressor_nextBlock:=by kernel_rfl
noncomputable def c_decompressor_nextBlock_r:Code:=(rgt c_decompressor_nextBlock)
noncomputable def c_decompressor_nextBlock_ll:Code:=(lft (lft c_decompressor_nextBlock))
noncomputable def c_decompressor_nextBlock_lll:Code:=(lft c_decompressor_nextBlock_ll)
theorem q_decompressor_nextBlock_ll:c_decompressor_nextBlock_ll=.loop c_decompressor_nextBlock_lll:=by kernel_rfl
theorem e_decompressor_nextBlock (f:Nat) (m:Mem) (R:Value→Mem→Prop)
  (h:WPS PP 103 c_decompressor_nextBlock_ll (((retK PP r_decompressor_nextBlock R).withN fun r m=>WPS PP 103 c_decompressor_nextBlock_r (retK PP r_decompressor_nextBlock R) r m).withX 0) [(0,.pointer (some ⟨f,0,none⟩))] m  ):
  CallM PP f_decompressor_nextBlock #[.pointer (some ⟨f,0,none⟩)] m R:=
 callM_enter ffOk mixedOk 103 L_decompressor_nextBlock Tryz.func26 b_decompressor_nextBlock Tryz.ntmps26 (by simp) (Eq.mpr (by kernel_rfl) h)
def k_decompressor_nextBlock_r:List Nat:=[0]
theorem p_decompressor_nextBlock_r (f:Nat) (m:Mem) (K:Kont)
  (h:∃ x1,cell? m ⟨f,3,none⟩=some (.int .u32 x1)∧IntKind.u32=IntKind.u32∧StW m ⟨f,1047,none⟩ (.bool ((bitsOp .and .u32 x1 1) == 1)) fun m2=>∃ x3,cell? m2 ⟨f,3,none⟩=some (.int .u32 x3)∧0≤(1:Int)∧StW m2 ⟨f,3,none⟩ (.int .u32 (shrOp .u32 x3 1)) fun m4=>∃ x5,cell? m4 ⟨f,3,none⟩=some (.int .u32 x5)∧IntKind.u32=IntKind.u32∧∃ x6,cell? m4 ⟨f,3,none⟩=some (.int .u32 x6)∧0≤(2:Int)∧StW m4 ⟨f,3,none⟩ (.int .u32 (shrOp .u32 x6 2)) fun m7=>∃ x8,cell? m7 ⟨f,4,none⟩=some (.int .u64 x8)∧StW m7 ⟨f,4,none⟩ (.int .u64 (IntKind.wrap .u64 (x8 - 3))) fun m9=>ifB ((bitsOp .and .u32 x5 3) == 0) (CallM PP f_decompressor_dataBlock #[.pointer (some ⟨f,0,none⟩)] m9 fun v10 m11=>v10=.tuple #[]∧K.kn [(0,.pointer (some ⟨f,0,none⟩)),(2,.int .u32 (bitsOp .and .u32 x5 3)),(53,.int .u32 (bitsOp .and .u32 x5 3))] m11) (ifB ((bitsOp .and .u32 x5 3) == 1) (CallM PP f_inflate_fixedHuffman #[] m9 fun v13 m14=>∃ p12,v13=.pointer p12∧StW m14 ⟨f,1050,none⟩ (.pointer p12) fun m15=>StW m15 ⟨f,1051,none⟩ (.pointer none) fun m16=>CallM PP f_decompressor_huffmanBlock #[.pointer (some ⟨f,0,none⟩)] m16 fun v17 m18=>v17=.tuple #[]∧K.kn [(0,.pointer (some ⟨f,0,none⟩)),(2,.int .u32 (bitsOp .and .u32 x5 3)),(53,.int .u32 (bitsOp .and .u32 x5 3))] m18) (ifB ((bitsOp .and .u32 x5 3) == 2) (CallM PP f_decompressor_readHuffman #[.pointer (some ⟨f,0,none⟩)] m9 fun v20 m21=>∃ v19,v20=v19∧StW m21 ⟨f,1048,none⟩ v19 fun m22=>∃ v23,cell? m22 ⟨f,1048,none⟩=some (v23)∧isIfc v23=true∧ifB (!(isNil v23)) (K.kn [(0,.pointer (some ⟨f,0,none⟩)),(2,.int .u32 (bitsOp .and .u32 x5 3)),(53,.int .u32 (bitsOp .and .u32 x5 3))] m22) (StW m22 ⟨f,1050,none⟩ (.pointer (some ⟨f,5,none⟩)) fun m24=>StW m24 ⟨f,1051,none⟩ (.pointer (some ⟨f,520,none⟩)) fun m25=>CallM PP f_decompressor_huffmanBlock #[.pointer (some ⟨f,0,none⟩)] m25 fun v26 m27=>v26=.tuple #[]∧K.kn [(0,.pointer (some ⟨f,0,none⟩)),(2,.int .u32 (bitsOp .and .u32 x5 3)),(53,.int .u32 (bitsOp .and .u32 x5 3))] m27)) (∃ x28,cell? m9 ⟨f,2,none⟩=some (.int .i64 x28)∧StW m9 ⟨f,1048,none⟩ (.iface t_flate_CorruptInputError (.int .i64 x28)) fun m29=>K.kn [(0,.pointer (some ⟨f,0,none⟩)),(2,.int .u32 (bitsOp .and .u32 x5 3)),(53,.int .u32 (bitsOp .and .u32 x5 3))] m29)))  ):
  wpc PP FF 103 L_decompressor_nextBlock c_decompressor_nextBlock_r K [(0,.pointer (some ⟨f,0,none⟩))] m:=
 Eq.mpr (by kernel_rfl) h
theorem p_decompressor_nextBlock_lll (f:Nat) (m:Mem) (K:Kont)
  (h:∃ x1,cell? m ⟨f,4,none⟩=some (.int .u64 x1)∧ifB (decide (x1 < 3)) (CallM PP f_decompressor_moreBits #[.pointer (some ⟨f,0,none⟩)] m fun v3 m4=>∃ v2,v3=v2∧StW m4 ⟨f,1048,none⟩ v2 fun m5=>∃ v6,cell? m5 ⟨f,1048,none⟩=some (v6)∧isIfc v6=true∧ifB (!(isNil v6)) (K.kr [(0,.pointer (some ⟨f,0,none⟩))] m5) (K.kn [(0,.pointer (some ⟨f,0,none⟩))] m5)) (K.kx 0 [(0,.pointer (some ⟨f,0,none⟩))] m)  ):
  wpc PP FF 103 L_decompressor_nextBlock c_decompressor_nextBlock_lll K [(0,.pointer (some ⟨f,0,none⟩))] m:=
 Eq.mpr (by kernel_rfl) h
def L_dictDecoder_init:List Nat:=[0,1,2,19,41,70]
def r_dictDecoder_init:List ResultVar:=[]
noncomputable def c_dictDecoder_init:Code:=(Go.Proofs.Tryz.f27.body).getD .skip
theorem b_dictDecoder_init:Go.Proofs.Tryz.f27.body=some c_dictDecoder_init:=by kernel_rfl
noncomputable def c_dictDecoder_init_rr:Code:=(rgt (rgt c_dictDecoder_init))
noncomputable def c_dictDecoder_init_rrrr:Code:=(rgt (rgt c_dictDecoder_init_rr))
noncomputable def c_dictDecoder_init_rrrrrr:Code:=(rgt (rgt c_dictDecoder_init_rrrr))
theorem e_dictDecoder_init (f:Nat) (x1:Int) (a2:Option Addr) (l3:Nat) (k4:Nat) (m:Mem) (R:Value→Mem→Prop)
  (h:∃ a5 l6 k7,cell? m ⟨f,1037,none⟩=some (.slice a5 l6 k7)∧StAgg PP t_flate_dictDecoder m ⟨f,1037,none⟩ (.agg #[.slice a5 l6 k7,.int .i64 0,.int .i64 0,.bool false]) fun m8=>∃ a9 l10 k11,cell? m8 ⟨f,1037,none⟩=some (.slice a9 l10 k11)∧ifB (decide ((k11:Int) < x1)) (SemW PP (sv (Instr.makeSlice t_s_uint8 (.int .i64 x1) (.int .i64 x1))) m8 (NextW PP fun v15 m16=>∃ a12 l13 k14,v15=.slice a12 l13 k14∧StW m16 ⟨f,1037,none⟩ (.slice a12 l13 k14) fun m17=>WPS PP 84 c_dictDecoder_init_rr (retK PP r_dictDecoder_init R) [(0,.pointer (some ⟨f,1037,none⟩)),(1,.int .i64 x1),(2,.slice a2 l3 k4)] m17)) (WPS PP 84 c_dictDecoder_init_rr (retK PP r_dictDecoder_init R) [(0,.pointer (some ⟨f,1037,none⟩)),(1,.int .i64 x1),(2,.slice a2 l3 k4)] m8)):
  CallM PP f_dictDecoder_init #[.pointer (some ⟨f,1037,none⟩),.int .i64 x1,.slice a2 l3 k4] m R:=
 callM_enter ffOk mixedOk 84 L_dictDecoder_init Tryz.func27 b_dictDecoder_init Tryz.ntmps27 (by simp) (Eq.mpr (by kernel_rfl) h)
def k_dictDecoder_init_rr:List Nat:=[0,1,2]
theorem p_dictDecoder_init_rr (f:Nat) (x1:Int) (a2:Option Addr) (l3:Nat) (k4:Nat) (m:Mem) (K:Kont)
  (h:∃ a5 l6 k7,cell? m ⟨f,1037,none⟩=some (.slice a5 l6 k7)∧l6≤k7∧(0≤x1∧x1≤(k7:Int))∧StW m ⟨f,1037,none⟩ (.slice a5 x1.toNat k7) fun m8=>∃ a9 l10 k11,cell? m8 ⟨f,1037,none⟩=some (.slice a9 l10 k11)∧ifB (decide ((l3:Int) > (l10:Int))) (∃ a12 l13 k14,cell? m8 ⟨f,1037,none⟩=some (.slice a12 l13 k14)∧l3≤k4∧(0≤(IntKind.wrap .i64 ((l3:Int) - (l13:Int)))∧(IntKind.wrap .i64 ((l3:Int) - (l13:Int)))≤(l3:Int))∧WPS PP 84 c_dictDecoder_init_rrrr K [(0,.pointer (some ⟨f,1037,none⟩)),(1,.int .i64 x1),(2,.slice (subA a2 ((IntKind.wrap .i64 ((l3:Int) - (l13:Int))).toNat) 1 k4) (l3 - ((IntKind.wrap .i64 ((l3:Int) - (l13:Int))).toNat)) (k4 - ((IntKind.wrap .i64 ((l3:Int) - (l13:Int))).toNat)))] m8) (WPS PP 84 c_dictDecoder_init_rrrr K [(0,.pointer (some ⟨f,1037,none⟩)),(1,.int .i64 x1),(2,.slice a2 l3 k4)] m8)):
  wpc PP FF 84 L_dictDecoder_init c_dictDecoder_init_rr K [(0,.pointer (some ⟨f,1037,none⟩)),(1,.int .i64 x1),(2,.slice a2 l3 k4)] m:=
 Eq.mpr (by kernel_rfl) h
def k_dictDecoder_init_rrrr:List Nat:=[0,2]
theorem p_dictDecoder_init_rrrr (f:Nat) (a1:Option Addr) (l2:Nat) (k3:Nat) (m:Mem) (K:Kont)
  (h:∃ a4 l5 k6,cell? m ⟨f,1037,none⟩=some (.slice a4 l5 k6)∧SemW PP (builtin .copy #[t_s_uint8,t_s_uint8] t_int #[false,false] #[.slice a4 l5 k6,.slice a1 l2 k3]) m (NextW PP fun v8 m9=>∃ x7,v8=.int .i64 x7∧StW m9 ⟨f,1038,none⟩ (.int .i64 x7) fun m10=>∃ x11,cell? m10 ⟨f,1038,none⟩=some (.int .i64 x11)∧∃ a12 l13 k14,cell? m10 ⟨f,1037,none⟩=some (.slice a12 l13 k14)∧ifB (x11 == (l13:Int)) (StW m10 ⟨f,1038,none⟩ (.int .i64 0) fun m15=>StW m15 ⟨f,1040,none⟩ (.bool true) fun m16=>WPS PP 84 c_dictDecoder_init_rrrrrr K [(0,.pointer (some ⟨f,1037,none⟩)),(2,.slice a1 l2 k3)] m16) (WPS PP 84 c_dictDecoder_init_rrrrrr K [(0,.pointer (some ⟨f,1037,none⟩)),(2,.slice a1 l2 k3)] m10))):
  wpc PP FF 84 L_dictDecoder_init c_dictDecoder_init_rrrr K [(0,.pointer (some ⟨f,1037,none⟩)),(2,.slice a1 l2 k3)] m:=
 Eq.mpr (by kernel_rfl) h
def k_dictDecoder_init_rrrrrr:List Nat:=[0]
theorem p_dictDecoder_init_rrrrrr (f:Nat) (m:Mem) (K:Kont)
  (h:∃ x1,cell? m ⟨f,1038,none⟩=some (.int .i64 x1)∧StW m ⟨f,1039,none⟩ (.int .i64 x1) fun m2=>K.kn [(0,.pointer (some ⟨f,1037,none⟩))] m2  ):
  wpc PP FF 84 L_dictDecoder_init c_dictDecoder_init_rrrrrr K [(0,.pointer (some ⟨f,1037,none⟩))] m:=
 Eq.mpr (by kernel_rfl) h
def L_bytes_NewReader:List Nat:=[0,2]
def r_bytes_NewReader:List ResultVar:=[.tmp 2]
noncomputable def c_bytes_NewReader:Code:=(Go.Proofs.Tryz.f28.body).getD .skip
theorem b_bytes_NewReader:Go.Proofs.Tryz.f28.body=some c_bytes_NewReader:=by kernel_rfl
theorem e_bytes_NewReader (a1:Option Addr) (l2:Nat) (k3:Nat) (m:Mem) (R:Value→Mem→Prop)
  (h:BoxW t_bytes_Reader (.agg #[.slice a1 l2 k3,.int .i64 0,.int .i64 (-1)]) m fun n4 m5=>R (.pointer (some ⟨n4,0,none⟩)) m5):
  CallM PP f_bytes_NewReader #[.slice a1 l2 k3] m R:=
 callM_enter ffOk mixedOk 6 L_bytes_NewReader Tryz.func28 b_bytes_NewReader Tryz.ntmps28 (by simp) (Eq.mpr (by kernel_rfl) h)
def L_impl_code:List Nat:=[0,2,3,4,7,11,15]
def r_impl_code:List ResultVar:=[.tmp 2]
noncomputable def c_impl_code:Code:=(Go.Proofs.Tryz.f29.body).getD .skip
theorem b_impl_code:Go.Proofs.Tryz.f29.body=some c_impl_code:=by kernel_rfl
theorem e_impl_code (v1:Value) (m:Mem) (R:Value→Mem→Prop)
  (h:AllocW PP t_flate_CorruptInputError m fun n2 m3=>isIfc v1=true∧ifB (isNil v1) (R (.int .i64 0) m3) (∃ v4,cell? m3 ⟨g_io_EOF,0,none⟩=some (v4)∧ReadW PP m3 (do eqGuard .eql t_error (.tmp 8) (.tmp 9) v1 v4; binOp .eql t_error v1 v4) fun u6=>∃ b5,u6=.bool b5∧ifB b5 (R (.int .i64 1) m3) (∃ v7,cell? m3 ⟨g_io_ErrUnexpectedEOF,0,none⟩=some (v7)∧ReadW PP m3 (do eqGuard .eql t_error (.tmp 12) (.tmp 13) v1 v7; binOp .eql t_error v1 v7) fun u9=>∃ b8,u9=.bool b8∧ifB b8 (R (.int .i64 2) m3) (CallM PP f_errors_As #[v1,.iface t_p_flate_CorruptInputError (.pointer (some ⟨n2,0,none⟩))] m3 fun v11 m12=>∃ b10,v11=.bool b10∧ifB b10 (R (.int .i64 3) m12) (R (.int .i64 4) m12))))):
  CallM PP f_impl_code #[v1] m R:=
 callM_enter ffOk mixedOk 19 L_impl_code Tryz.func29 b_impl_code Tryz.ntmps29 (by simp) (Eq.mpr (by kernel_rfl) h)
def L_Writer_Bits:List Nat:=[0,1,2,6,7,8,9]
def r_Writer_Bits:List ResultVar:=[]
noncomputable def c_Writer_Bits:Code:=(Go.Proofs.Tryz.f30.body).getD .skip
theorem b_Writer_Bits:Go.Proofs.Tryz.f30.body=some c_Writer_Bits:=by kernel_rfl
noncomputable def c_Writer_Bits_rl:Code:=(lft (rgt c_Writer_Bits))
noncomputable def c_Writer_Bits_rll:Code:=(lft c_Writer_Bits_rl)
theorem q_Writer_Bits_rl:c_Writer_Bits_rl=.loop c_Writer_Bits_rll:=by kernel_rfl
theorem e_Writer_Bits (w:Nat) (x1:Int) (x2:Int) (m:Mem) (R:Value→Mem→Prop)
  (h:WPS PP 17 c_Writer_Bits_rl ((retK PP r_Writer_Bits R).withX 0) [(0,.pointer (some ⟨w,0,none⟩)),(1,.int .i64 x1),(2,.int .i64 x2),(7,.int .i64 x2),(8,.int .i64 0)] m):
  CallM PP f_Writer_Bits #[.pointer (some ⟨w,0,none⟩),.int .i64 x1,.int .i64 x2] m R:=
 callM_enter ffOk mixedOk 17 L_Writer_Bits Tryz.func30 b_Writer_Bits Tryz.ntmps30 (by simp) (Eq.mpr (by kernel_rfl) h)
theorem p_Writer_Bits_rll (w:Nat) (x1:Int) (x2:Int) (x3:Int) (m:Mem) (K:Kont)
  (h:ifB (decide (x3 < x2)) (0≤x3∧CallM PP f_Writer_bit #[.pointer (some ⟨w,0,none⟩),.int .i64 (shrOp .i64 x1 x3)] m fun v4 m5=>v4=.tuple #[]∧K.kn [(0,.pointer (some ⟨w,0,none⟩)),(1,.int .i64 x1),(6,.int .i64 x3),(7,.int .i64 x2),(8,.int .i64 (IntKind.wrap .i64 (x3+1)))] m5) (K.kx 0 [(0,.pointer (some ⟨w,0,none⟩)),(1,.int .i64 x1),(7,.int .i64 x2),(8,.int .i64 x3)] m)):
  wpc PP FF 17 L_Writer_Bits c_Writer_Bits_rll K [(0,.pointer (some ⟨w,0,none⟩)),(1,.int .i64 x1),(7,.int .i64 x2),(8,.int .i64 x3)] m:=
 Eq.mpr (by kernel_rfl) h
def L_spec_flag:List Nat:=[0,2,3]
def r_spec_flag:List ResultVar:=[.tmp 2]
noncomputable def c_spec_flag:Code:=(Go.Proofs.Tryz.f31.body).getD .skip
theorem b_spec_flag:Go.Proofs.Tryz.f31.body=some c_spec_flag:=by kernel_rfl
theorem e_spec_flag (b1:Bool) (m:Mem) (R:Value→Mem→Prop)
  (h:ifB b1 (R (.int .i64 1) m) (R (.int .i64 0) m)):
  CallM PP f_spec_flag #[.bool b1] m R:=
 callM_enter ffOk mixedOk 4 L_spec_flag Tryz.func31 b_spec_flag Tryz.ntmps31 (by simp) (Eq.mpr (by kernel_rfl) h)
def L_Writer_Pad:List Nat:=[0,1,9]
def r_Writer_Pad:List ResultVar:=[]
noncomputable def c_Writer_Pad:Code:=(Go.Proofs.Tryz.f32.body).getD .skip
theorem b_Writer_Pad:Go.Proofs.Tryz.f32.body=some c_Writer_Pad:=by kernel_rfl
noncomputable def c_Writer_Pad_l:Code:=(lft c_Writer_Pad)
noncomputable def c_Writer_Pad_ll:Code:=(lft c_Writer_Pad_l)
theorem q_Writer_Pad_l:c_Writer_Pad_l=.loop c_Writer_Pad_ll:=by kernel_rfl
theorem e_Writer_Pad (w:Nat) (x1:Int) (m:Mem) (R:Value→Mem→Prop)
  (h:WPS PP 15 c_Writer_Pad_l ((retK PP r_Writer_Pad R).withX 0) [(0,.pointer (some ⟨w,0,none⟩)),(1,.int .i64 x1)] m):
  CallM PP f_Writer_Pad #[.pointer (some ⟨w,0,none⟩),.int .i64 x1] m R:=
 callM_enter ffOk mixedOk 15 L_Writer_Pad Tryz.func32 b_Writer_Pad Tryz.ntmps32 (by simp) (Eq.mpr (by kernel_rfl) h)
theorem p_Writer_Pad_ll (w:Nat) (x1:Int) (m:Mem) (K:Kont)
  (h:∃ x2,cell? m ⟨w,1,none⟩=some (.int .i64 x2)∧IntKind.i64=IntKind.i64∧(8:Int)≠0∧ifB ((Int.tmod x2 8) != 0) (CallM PP f_Writer_bit #[.pointer (some ⟨w,0,none⟩),.int .i64 x1] m fun v3 m4=>v3=.tuple #[]∧0≤(1:Int)∧K.kn [(0,.pointer (some ⟨w,0,none⟩)),(1,.int .i64 (shrOp .i64 x1 1))] m4) (K.kx 0 [(0,.pointer (some ⟨w,0,none⟩)),(1,.int .i64 x1)] m)):
  wpc PP FF 15 L_Writer_Pad c_Writer_Pad_ll K [(0,.pointer (some ⟨w,0,none⟩)),(1,.int .i64 x1)] m:=
 Eq.mpr (by kernel_rfl) h
def L_reader_length:List Nat:=[0,2]
def r_reader_length:List ResultVar:=[.tmp 2]
noncomputable def c_reader_length:Code:=(Go.Proofs.Tryz.f33.body).getD .skip
theorem b_reader_length:Go.Proofs.Tryz.f33.body=some c_reader_length:=by kernel_rfl
theorem e_reader_length (r:Nat) (m:Mem) (R:Value→Mem→Prop)
  (h:CallM PP f_reader_pick #[.pointer (some ⟨r,0,none⟩),.int .i64 256] m fun v2 m3=>∃ x1,v2=.int .i64 x1∧SemW PP (sv (Instr.buildSlice t_s_int 8 #[(0,.int .i64 3),(1,.int .i64 4),(2,.int .i64 10),(3,.int .i64 11),(4,.int .i64 18),(5,.int .i64 257),(6,.int .i64 258),(7,.int .i64 (IntKind.wrap .i64 (3+x1)))])) m3 (NextW PP fun v7 m8=>∃ a4 l5 k6,v7=.slice a4 l5 k6∧CallM PP f_reader_one #[.pointer (some ⟨r,0,none⟩),.slice a4 l5 k6] m8 fun v10 m11=>∃ x9,v10=.int .i64 x9∧R (.int .i64 x9) m11)  ):
  CallM PP f_reader_length #[.pointer (some ⟨r,0,none⟩)] m R:=
 callM_enter ffOk mixedOk 9 L_reader_length Tryz.func33 b_reader_length Tryz.ntmps33 (by simp) (Eq.mpr (by kernel_rfl) h)
def L_spec_fixed:List Nat:=[0,1,2,3,4,5,6,7,9,16,28,29]
def r_spec_fixed:List ResultVar:=[.tmp 0,.tmp 1]
noncomputable def c_spec_fixed:Code:=(Go.Proofs.Tryz.f34.body).getD .skip
theorem b_spec_fixed:Go.Proofs.Tryz.f34.body=some c_spec_fixed:=by kernel_rfl
noncomputable def c_spec_fixed_rrr:Code:=(rgt (rgt (rgt c_spec_fixed)))
noncomputable def c_spec_fixed_rrrr:Code:=(rgt c_spec_fixed_rrr)
noncomputable def c_spec_fixed_rrlrl:Code:=(lft (rgt (lft (rgt (rgt c_spec_fixed)))))
noncomputable def c_spec_fixed_rrlrll:Code:=(lft c_spec_fixed_rrlrl)
noncomputable def c_spec_fixed_rrrlrl:Code:=(lft (rgt (lft c_spec_fixed_rrr)))
noncomputable def c_spec_fixed_rrrlrll:Code:=(lft c_spec_fixed_rrrlrl)
noncomputable def c_spec_fixed_rrlrllrrr:Code:=(rgt (rgt (rgt c_spec_fixed_rrlrll)))
noncomputable def c_spec_fixed_rrlrllrrllrrr:Code:=(rgt (rgt (rgt (lft (lft (rgt (rgt c_spec_fixed_rrlrll)))))))
theorem q_spec_fixed_rrlrl:c_spec_fixed_rrlrl=.loop c_spec_fixed_rrlrll:=by kernel_rfl
theorem q_spec_fixed_rrrlrl:c_spec_fixed_rrrlrl=.loop c_spec_fixed_rrrlrll:=by kernel_rfl
theorem e_spec_fixed  (m:Mem) (R:Value→Mem→Prop)
  (h:WPS PP 36 c_spec_fixed_rrlrl (((retK PP r_spec_fixed R).withN fun r m=>WPS PP 36 c_spec_fixed_rrr (retK PP r_spec_fixed R) r m).withX 0) [(0,.slice none 0 0),(1,.slice none 0 0),(2,.slice none 0 0),(3,.slice none 0 0),(6,.int .i64 0)] m  ):
  CallM PP f_spec_fixed #[] m R:=
 callM_enter ffOk mixedOk 36 L_spec_fixed Tryz.func34 b_spec_fixed Tryz.ntmps34 (by simp) (Eq.mpr (by kernel_rfl) h)
theorem p_spec_fixed_rrr (a1:Option Addr) (l2:Nat) (k3:Nat) (a4:Option Addr) (l5:Nat) (k6:Nat) (m:Mem) (K:Kont)
  (h:WPS PP 36 c_spec_fixed_rrrlrl ((K.withN fun r m=>WPS PP 36 c_spec_fixed_rrrr K r m).withX 3) [(2,.slice a1 l2 k3),(3,.slice a4 l5 k6),(28,.int .i64 0)] m):
  wpc PP FF 36 L_spec_fixed c_spec_fixed_rrr K [(2,.slice a1 l2 k3),(3,.slice a4 l5 k6)] m:=
 Eq.mpr (by kernel_rfl) h
theorem p_spec_fixed_rrlrll (a1:Option Addr) (l2:Nat) (k3:Nat) (a4:Option Addr) (l5:Nat) (k6:Nat) (x7:Int) (m:Mem) (K:Kont)
  (h:ifB (decide (x7 < 288)) (ifB (decide (x7 ≥ 144)) (ifB (decide (x7≤255)) (WPS PP 36 c_spec_fixed_rrlrllrrllrrr ((K.withN fun r m=>wpc PP FF 36 L_spec_fixed c_spec_fixed_rrlrllrrr K r m).withX 1) [(2,.slice a1 l2 k3),(3,.slice a4 l5 k6),(4,.int .i64 x7),(5,.int .i64 9),(6,.int .i64 x7)] m) (ifB (decide (x7 ≥ 256)) (ifB (decide (x7≤279)) (WPS PP 36 c_spec_fixed_rrlrllrrllrrr ((K.withN fun r m=>wpc PP FF 36 L_spec_fixed c_spec_fixed_rrlrllrrr K r m).withX 1) [(2,.slice a1 l2 k3),(3,.slice a4 l5 k6),(4,.int .i64 x7),(5,.int .i64 7),(6,.int .i64 x7)] m) (WPS PP 36 c_spec_fixed_rrlrllrrllrrr ((K.withN fun r m=>wpc PP FF 36 L_spec_fixed c_spec_fixed_rrlrllrrr K r m).withX 1) [(2,.slice a1 l2 k3),(3,.slice a4 l5 k6),(4,.int .i64 x7),(5,.int .i64 8),(6,.int .i64 x7)] m)) (WPS PP 36 c_spec_fixed_rrlrllrrllrrr ((K.withN fun r m=>wpc PP FF 36 L_spec_fixed c_spec_fixed_rrlrllrrr K r m).withX 1) [(2,.slice a1 l2 k3),(3,.slice a4 l5 k6),(4,.int .i64 x7),(5,.int .i64 8),(6,.int .i64 x7)] m))) (ifB (decide (x7 ≥ 256)) (ifB (decide (x7≤279)) (WPS PP 36 c_spec_fixed_rrlrllrrllrrr ((K.withN fun r m=>wpc PP FF 36 L_spec_fixed c_spec_fixed_rrlrllrrr K r m).withX 1) [(2,.slice a1 l2 k3),(3,.slice a4 l5 k6),(4,.int .i64 x7),(5,.int .i64 7),(6,.int .i64 x7)] m) (WPS PP 36 c_spec_fixed_rrlrllrrllrrr ((K.withN fun r m=>wpc PP FF 36 L_spec_fixed c_spec_fixed_rrlrllrrr K r m).withX 1) [(2,.slice a1 l2 k3),(3,.slice a4 l5 k6),(4,.int .i64 x7),(5,.int .i64 8),(6,.int .i64 x7)] m)) (WPS PP 36 c_spec_fixed_rrlrllrrllrrr ((K.withN fun r m=>wpc PP FF 36 L_spec_fixed c_spec_fixed_rrlrllrrr K r m).withX 1) [(2,.slice a1 l2 k3),(3,.slice a4 l5 k6),(4,.int .i64 x7),(5,.int .i64 8),(6,.int .i64 x7)] m))) (K.kx 0 [(2,.slice a1 l2 k3),(3,.slice a4 l5 k6),(6,.int .i64 x7)] m)):
  wpc PP FF 36 L_spec_fixed c_spec_fixed_rrlrll K [(2,.slice a1 l2 k3),(3,.slice a4 l5 k6),(6,.int .i64 x7)] m:=
 Eq.mpr (by kernel_rfl) h
theorem p_spec_fixed_rrrlrll (a1:Option Addr) (l2:Nat) (k3:Nat) (a4:Option Addr) (l5:Nat) (k6:Nat) (x7:Int) (m:Mem) (K:Kont)
  (h:ifB (decide (x7 < 32)) (SemW PP (sv (Instr.buildSlice t_s_int 1 #[(0,.int .i64 5)])) m (NextW PP fun v11 m12=>∃ a8 l9 k10,v11=.slice a8 l9 k10∧SemW PP (builtin .append #[t_s_int,t_s_int] t_s_int #[false,false] #[.slice a4 l5 k6,.slice a8 l9 k10]) m12 (NextW PP fun v16 m17=>∃ a13 l14 k15,v16=.slice a13 l14 k15∧K.kn [(2,.slice a1 l2 k3),(3,.slice a13 l14 k15),(28,.int .i64 (IntKind.wrap .i64 (x7+1)))] m17))) (K.kx 3 [(2,.slice a1 l2 k3),(3,.slice a4 l5 k6),(28,.int .i64 x7)] m)):
  wpc PP FF 36 L_spec_fixed c_spec_fixed_rrrlrll K [(2,.slice a1 l2 k3),(3,.slice a4 l5 k6),(28,.int .i64 x7)] m:=
 Eq.mpr (by kernel_rfl) h
theorem p_spec_fixed_rrrr (a1:Option Addr) (l2:Nat) (k3:Nat) (a4:Option Addr) (l5:Nat) (k6:Nat) (m:Mem) (K:Kont)
  (h:K.kr [(0,.slice a1 l2 k3),(1,.slice a4 l5 k6),(2,.slice a1 l2 k3),(3,.slice a4 l5 k6)] m):
  wpc PP FF 36 L_spec_fixed c_spec_fixed_rrrr K [(2,.slice a1 l2 k3),(3,.slice a4 l5 k6)] m:=
 Eq.mpr (by kernel_rfl) h
theorem p_spec_fixed_rrlrllrrr (a1:Option Addr) (l2:Nat) (k3:Nat) (a4:Option Addr) (l5:Nat) (k6:Nat) (x7:Int) (m:Mem) (K:Kont)
  (h:K.kn [(2,.slice a1 l2 k3),(3,.slice a4 l5 k6),(6,.int .i64 (IntKind.wrap .i64 (x7+1)))] m):
  wpc PP FF 36 L_spec_fixed c_spec_fixed_rrlrllrrr K [(2,.slice a1 l2 k3),(3,.slice a4 l5 k6),(6,.int .i64 x7)] m:=
 Eq.mpr (by kernel_rfl) h
theorem p_spec_fixed_rrlrllrrllrrr (a1:Option Addr) (l2:Nat) (k3:Nat) (a4:Option Addr) (l5:Nat) (k6:Nat) (x7:Int) (x8:Int) (m:Mem) (K:Kont)
  (h:SemW PP (sv (Instr.buildSlice t_s_int 1 #[(0,.int .i64 x7)])) m (NextW PP fun v12 m13=>∃ a9 l10 k11,v12=.slice a9 l10 k11∧SemW PP (builtin .append #[t_s_int,t_s_int] t_s_int #[false,false] #[.slice a1 l2 k3,.slice a9 l10 k11]) m13 (NextW PP fun v17 m18=>∃ a14 l15 k16,v17=.slice a14 l15 k16∧K.kn [(2,.slice a14 l15 k16),(3,.slice a4 l5 k6),(5,.int .i64 x7),(6,.int .i64 x8)] m18))):
  wpc PP FF 36 L_spec_fixed c_spec_fixed_rrlrllrrllrrr K [(2,.slice a1 l2 k3),(3,.slice a4 l5 k6),(5,.int .i64 x7),(6,.int .i64 x8)] m:=
 Eq.mpr (by kernel_rfl) h
def L_Writer_items:List Nat:=[0,1,2,3,8,9,11,12,13,14,15,20,21,22,23,28]
def r_Writer_items:List ResultVar:=[]
noncomputable def c_Writer_items:Code:=(Go.Proofs.Tryz.f35.body).getD .skip
theorem b_Writer_items:Go.Proofs.Tryz.f35.body=some c_Writer_items:=by kernel_rfl
noncomputable def c_Writer_items_rr:Code:=(rgt (rgt c_Writer_items))
noncomputable def c_Writer_items_rlrl:Code:=(lft (rgt (lft (rgt c_Writer_items))))
noncomputable def c_Writer_items_rlrll:Code:=(lft c_Writer_items_rlrl)
noncomputable def c_Writer_items_rlrllrrr:Code:=(rgt (rgt (rgt c_Writer_items_rlrll)))
theorem q_Writer_items_rlrl:c_Writer_items_rlrl=.loop c_Writer_items_rlrll:=by kernel_rfl
theorem e_Writer_items (w:Nat) (a1:Option Addr) (l2:Nat) (k3:Nat) (a4:Option Addr) (l5:Nat) (k6:Nat) (a7:Option Addr) (l8:Nat) (k9:Nat) (m:Mem) (R:Value→Mem→Prop)
  (h:CallM PP f_spec_Codes #[.slice a4 l5 k6] m fun v13 m14=>∃ a10 l11 k12,v13=.slice a10 l11 k12∧CallM PP f_spec_Codes #[.slice a7 l8 k9] m14 fun v18 m19=>∃ a15 l16 k17,v18=.slice a15 l16 k17∧WPS PP 92 c_Writer_items_rlrl (((retK PP r_Writer_items R).withN fun r m=>WPS PP 92 c_Writer_items_rr (retK PP r_Writer_items R) r m).withX 0) [(0,.pointer (some ⟨w,0,none⟩)),(1,.slice a1 l2 k3),(2,.slice a4 l5 k6),(3,.slice a7 l8 k9),(8,.slice a10 l11 k12),(9,.slice a15 l16 k17),(20,.slice a1 l2 k3),(21,.int .i64 (l2:Int)),(22,.int .i64 0)] m19):
  CallM PP f_Writer_items #[.pointer (some ⟨w,0,none⟩),.slice a1 l2 k3,.slice a4 l5 k6,.slice a7 l8 k9] m R:=
 callM_enter ffOk mixedOk 92 L_Writer_items Tryz.func35 b_Writer_items Tryz.ntmps35 (by simp) (Eq.mpr (by kernel_rfl) h)
theorem p_Writer_items_rr (w:Nat) (a1:Option Addr) (l2:Nat) (k3:Nat) (a4:Option Addr) (l5:Nat) (k6:Nat) (m:Mem) (K:Kont)
  (h:onSome a4 fun p7=>(0≤(256:Int)∧(256:Int) < (l5:Int))∧∃ x8,cell? m (aplus p7 256)=some (.int .i64 x8)∧onSome a1 fun p9=>(0≤(256:Int)∧(256:Int) < (l2:Int))∧∃ x10,cell? m (aplus p9 256)=some (.int .i64 x10)∧CallM PP f_Writer_code #[.pointer (some ⟨w,0,none⟩),.int .i64 x8,.int .i64 x10] m fun v11 m12=>v11=.tuple #[]∧K.kn [(0,.pointer (some ⟨w,0,none⟩)),(2,.slice a1 l2 k3),(8,.slice a4 l5 k6)] m12):
  wpc PP FF 92 L_Writer_items c_Writer_items_rr K [(0,.pointer (some ⟨w,0,none⟩)),(2,.slice a1 l2 k3),(8,.slice a4 l5 k6)] m:=
 Eq.mpr (by kernel_rfl) h
theorem p_Writer_items_rlrll (w:Nat) (a1:Option Addr) (l2:Nat) (k3:Nat) (a4:Option Addr) (l5:Nat) (k6:Nat) (a7:Option Addr) (l8:Nat) (k9:Nat) (a10:Option Addr) (l11:Nat) (k12:Nat) (a13:Option Addr) (l14:Nat) (k15:Nat) (x16:Int) (x17:Int) (m:Mem) (K:Kont)
  (h:ifB (decide (x17 < x16)) (onSome a13 fun p18=>(0≤x17∧x17 < (l14:Int))∧∃ x19 x20 x21,([.int .u8 x19,.int .i64 x20,.int .i64 x21]:List Value).length=3∧CellsAre m (aplus p18 (x17.toNat * 3)) 0 [.int .u8 x19,.int .i64 x20,.int .i64 x21]∧AllocW PP t_spec_Item m fun n22 m23=>StAgg PP t_spec_Item m23 ⟨n22,0,none⟩ (.agg #[.int .u8 x19,.int .i64 x20,.int .i64 x21]) fun m24=>∃ x25,cell? m24 ⟨n22,1,none⟩=some (.int .i64 x25)∧ifB (x25 == 0) (∃ x26,cell? m24 ⟨n22,0,none⟩=some (.int .u8 x26)∧onSome a7 fun p27=>(0≤x26∧x26 < (l8:Int))∧∃ x28,cell? m24 (aplus p27 x26.toNat)=some (.int .i64 x28)∧∃ x29,cell? m24 ⟨n22,0,none⟩=some (.int .u8 x29)∧onSome a1 fun p30=>(0≤x29∧x29 < (l2:Int))∧∃ x31,cell? m24 (aplus p30 x29.toNat)=some (.int .i64 x31)∧CallM PP f_Writer_code #[.pointer (some ⟨w,0,none⟩),.int .i64 x28,.int .i64 x31] m24 fun v32 m33=>v32=.tuple #[]∧WPS PP 92 c_Writer_items_rlrllrrr K [(0,.pointer (some ⟨w,0,none⟩)),(2,.slice a1 l2 k3),(3,.slice a4 l5 k6),(8,.slice a7 l8 k9),(9,.slice a10 l11 k12),(11,.pointer (some ⟨n22,0,none⟩)),(20,.slice a13 l14 k15),(21,.int .i64 x16),(22,.int .i64 x17)] m33) (∃ x34,cell? m24 ⟨n22,1,none⟩=some (.int .i64 x34)∧CallM PP f_spec_LengthCode #[.int .i64 x34] m24 fun v38 m39=>∃ x35 x36 x37,v38=.tuple #[.int .i64 x35,.int .i64 x36,.int .i64 x37]∧onSome a7 fun p40=>(0≤x35∧x35 < (l8:Int))∧∃ x41,cell? m39 (aplus p40 x35.toNat)=some (.int .i64 x41)∧onSome a1 fun p42=>(0≤x35∧x35 < (l2:Int))∧∃ x43,cell? m39 (aplus p42 x35.toNat)=some (.int .i64 x43)∧CallM PP f_Writer_code #[.pointer (some ⟨w,0,none⟩),.int .i64 x41,.int .i64 x43] m39 fun v44 m45=>v44=.tuple #[]∧CallM PP f_Writer_Bits #[.pointer (some ⟨w,0,none⟩),.int .i64 x36,.int .i64 x37] m45 fun v46 m47=>v46=.tuple #[]∧∃ x48,cell? m47 ⟨n22,2,none⟩=some (.int .i64 x48)∧CallM PP f_spec_DistanceCode #[.int .i64 x48] m47 fun v52 m53=>∃ x49 x50 x51,v52=.tuple #[.int .i64 x49,.int .i64 x50,.int .i64 x51]∧onSome a10 fun p54=>(0≤x49∧x49 < (l11:Int))∧∃ x55,cell? m53 (aplus p54 x49.toNat)=some (.int .i64 x55)∧onSome a4 fun p56=>(0≤x49∧x49 < (l5:Int))∧∃ x57,cell? m53 (aplus p56 x49.toNat)=some (.int .i64 x57)∧CallM PP f_Writer_code #[.pointer (some ⟨w,0,none⟩),.int .i64 x55,.int .i64 x57] m53 fun v58 m59=>v58=.tuple #[]∧CallM PP f_Writer_Bits #[.pointer (some ⟨w,0,none⟩),.int .i64 x50,.int .i64 x51] m59 fun v60 m61=>v60=.tuple #[]∧WPS PP 92 c_Writer_items_rlrllrrr K [(0,.pointer (some ⟨w,0,none⟩)),(2,.slice a1 l2 k3),(3,.slice a4 l5 k6),(8,.slice a7 l8 k9),(9,.slice a10 l11 k12),(11,.pointer (some ⟨n22,0,none⟩)),(12,.int .i64 x35),(13,.int .i64 x50),(14,.int .i64 x51),(15,.int .i64 x49),(20,.slice a13 l14 k15),(21,.int .i64 x16),(22,.int .i64 x17)] m61)) (K.kx 0 [(0,.pointer (some ⟨w,0,none⟩)),(2,.slice a1 l2 k3),(3,.slice a4 l5 k6),(8,.slice a7 l8 k9),(9,.slice a10 l11 k12),(20,.slice a13 l14 k15),(21,.int .i64 x16),(22,.int .i64 x17)] m)):
  wpc PP FF 92 L_Writer_items c_Writer_items_rlrll K [(0,.pointer (some ⟨w,0,none⟩)),(2,.slice a1 l2 k3),(3,.slice a4 l5 k6),(8,.slice a7 l8 k9),(9,.slice a10 l11 k12),(20,.slice a13 l14 k15),(21,.int .i64 x16),(22,.int .i64 x17)] m:=
 Eq.mpr (by kernel_rfl) h
theorem p_Writer_items_rlrllrrr (w:Nat) (a1:Option Addr) (l2:Nat) (k3:Nat) (a4:Option Addr) (l5:Nat) (k6:Nat) (a7:Option Addr) (l8:Nat) (k9:Nat) (a10:Option Addr) (l11:Nat) (k12:Nat) (a13:Option Addr) (l14:Nat) (k15:Nat) (x16:Int) (x17:Int) (m:Mem) (K:Kont)
  (h:K.kn [(0,.pointer (some ⟨w,0,none⟩)),(2,.slice a1 l2 k3),(3,.slice a4 l5 k6),(8,.slice a7 l8 k9),(9,.slice a10 l11 k12),(20,.slice a13 l14 k15),(21,.int .i64 x16),(22,.int .i64 (IntKind.wrap .i64 (x17+1)))] m):
  wpc PP FF 92 L_Writer_items c_Writer_items_rlrllrrr K [(0,.pointer (some ⟨w,0,none⟩)),(2,.slice a1 l2 k3),(3,.slice a4 l5 k6),(8,.slice a7 l8 k9),(9,.slice a10 l11 k12),(20,.slice a13 l14 k15),(21,.int .i64 x16),(22,.int .i64 x17)] m:=
 Eq.mpr (by kernel_rfl) h
def L_spec_needs:List Nat:=[0,2,3,4,5,7,8,11,18,19,20,21,26]
def r_spec_needs:List ResultVar:=[.tmp 2,.tmp 3]
noncomputable def c_spec_needs:Code:=(Go.Proofs.Tryz.f36.body).getD .skip
theorem b_spec_needs:Go.Proofs.Tryz.f36.body=some c_spec_needs:=by kernel_rfl
noncomputable def c_spec_needs_rr:Code:=(rgt (rgt c_spec_needs))
noncomputable def c_spec_needs_rrrr:Code:=(rgt (rgt c_spec_needs_rr))
noncomputable def c_spec_needs_rrrlrl:Code:=(lft (rgt (lft (rgt c_spec_needs_rr))))
noncomputable def c_spec_needs_rrrlrll:Code:=(lft c_spec_needs_rrrlrl)
noncomputable def c_spec_needs_rrrlrllrrr:Code:=(rgt (rgt (rgt c_spec_needs_rrrlrll)))
theorem q_spec_needs_rrrlrl:c_spec_needs_rrrlrl=.loop c_spec_needs_rrrlrll:=by kernel_rfl
theorem p_spec_needs_rr (a1:Option Addr) (l2:Nat) (k3:Nat) (a4:Option Addr) (l5:Nat) (k6:Nat) (a7:Option Addr) (l8:Nat) (k9:Nat) (m:Mem) (K:Kont)
  (h:onSome a4 fun p10=>(0≤(256:Int)∧(256:Int) < (l5:Int))∧StW m (aplus p10 256) (.bool true) fun m11=>WPS PP 54 c_spec_needs_rrrlrl ((K.withN fun r m=>WPS PP 54 c_spec_needs_rrrr K r m).withX 0) [(0,.slice a1 l2 k3),(4,.slice a4 l5 k6),(5,.slice a7 l8 k9),(18,.slice a1 l2 k3),(19,.int .i64 (l2:Int)),(20,.int .i64 0)] m11):
  wpc PP FF 54 L_spec_needs c_spec_needs_rr K [(0,.slice a1 l2 k3),(4,.slice a4 l5 k6),(5,.slice a7 l8 k9)] m:=
 Eq.mpr (by kernel_rfl) h
theorem p_spec_needs_rrrlrll (a1:Option Addr) (l2:Nat) (k3:Nat) (a4:Option Addr) (l5:Nat) (k6:Nat) (a7:Option Addr) (l8:Nat) (k9:Nat) (x10:Int) (x11:Int) (m:Mem) (K:Kont)
  (h:ifB (decide (x11 < x10)) (onSome a7 fun p12=>(0≤x11∧x11 < (l8:Int))∧∃ x13 x14 x15,([.int .u8 x13,.int .i64 x14,.int .i64 x15]:List Value).length=3∧CellsAre m (aplus p12 (x11.toNat * 3)) 0 [.int .u8 x13,.int .i64 x14,.int .i64 x15]∧AllocW PP t_spec_Item m fun n16 m17=>StAgg PP t_spec_Item m17 ⟨n16,0,none⟩ (.agg #[.int .u8 x13,.int .i64 x14,.int .i64 x15]) fun m18=>∃ x19,cell? m18 ⟨n16,1,none⟩=some (.int .i64 x19)∧ifB (x19 == 0) (∃ x20,cell? m18 ⟨n16,0,none⟩=some (.int .u8 x20)∧onSome a1 fun p21=>(0≤x20∧x20 < (l2:Int))∧StW m18 (aplus p21 x20.toNat) (.bool true) fun m22=>WPS PP 54 c_spec_needs_rrrlrllrrr K [(4,.slice a1 l2 k3),(5,.slice a4 l5 k6),(7,.pointer (some ⟨n16,0,none⟩)),(18,.slice a7 l8 k9),(19,.int .i64 x10),(20,.int .i64 x11)] m22) (∃ x23,cell? m18 ⟨n16,1,none⟩=some (.int .i64 x23)∧CallM PP f_spec_LengthCode #[.int .i64 x23] m18 fun v27 m28=>∃ x24 x25 x26,v27=.tuple #[.int .i64 x24,.int .i64 x25,.int .i64 x26]∧∃ x29,cell? m28 ⟨n16,2,none⟩=some (.int .i64 x29)∧CallM PP f_spec_DistanceCode #[.int .i64 x29] m28 fun v33 m34=>∃ x30 x31 x32,v33=.tuple #[.int .i64 x30,.int .i64 x31,.int .i64 x32]∧onSome a1 fun p35=>(0≤x24∧x24 < (l2:Int))∧StW m34 (aplus p35 x24.toNat) (.bool true) fun m36=>onSome a4 fun p37=>(0≤x30∧x30 < (l5:Int))∧StW m36 (aplus p37 x30.toNat) (.bool true) fun m38=>WPS PP 54 c_spec_needs_rrrlrllrrr K [(4,.slice a1 l2 k3),(5,.slice a4 l5 k6),(7,.pointer (some ⟨n16,0,none⟩)),(8,.int .i64 x24),(11,.int .i64 x30),(18,.slice a7 l8 k9),(19,.int .i64 x10),(20,.int .i64 x11)] m38)) (K.kx 0 [(4,.slice a1 l2 k3),(5,.slice a4 l5 k6),(18,.slice a7 l8 k9),(19,.int .i64 x10),(20,.int .i64 x11)] m)):
  wpc PP FF 54 L_spec_needs c_spec_needs_rrrlrll K [(4,.slice a1 l2 k3),(5,.slice a4 l5 k6),(18,.slice a7 l8 k9),(19,.int .i64 x10),(20,.int .i64 x11)] m:=
 Eq.mpr (by kernel_rfl) h
theorem p_spec_needs_rrrr (a1:Option Addr) (l2:Nat) (k3:Nat) (a4:Option Addr) (l5:Nat) (k6:Nat) (m:Mem) (K:Kont)
  (h:K.kr [(2,.slice a1 l2 k3),(3,.slice a4 l5 k6),(4,.slice a1 l2 k3),(5,.slice a4 l5 k6)] m):
  wpc PP FF 54 L_spec_needs c_spec_needs_rrrr K [(4,.slice a1 l2 k3),(5,.slice a4 l5 k6)] m:=
 Eq.mpr (by kernel_rfl) h
theorem p_spec_needs_rrrlrllrrr (a1:Option Addr) (l2:Nat) (k3:Nat) (a4:Option Addr) (l5:Nat) (k6:Nat) (a7:Option Addr) (l8:Nat) (k9:Nat) (x10:Int) (x11:Int) (m:Mem) (K:Kont)
  (h:K.kn [(4,.slice a1 l2 k3),(5,.slice a4 l5 k6),(18,.slice a7 l8 k9),(19,.int .i64 x10),(20,.int .i64 (IntKind.wrap .i64 (x11+1)))] m):
  wpc PP FF 54 L_spec_needs c_spec_needs_rrrlrllrrr K [(4,.slice a1 l2 k3),(5,.slice a4 l5 k6),(18,.slice a7 l8 k9),(19,.int .i64 x10),(20,.int .i64 x11)] m:=
 Eq.mpr (by kernel_rfl) h
theorem i_spec_needs:∃ fn,PP.funcs[f_spec_needs]?=some fn∧fn.body=some c_spec_needs∧fn.ntmps=54∧fn.results.toList=r_spec_needs:=⟨_,Tryz.func36,b_spec_needs,Tryz.ntmps36,by kernel_rfl⟩
def L_reader_trimmed:List Nat:=[0,1,2,6,7,20]
def r_reader_trimmed:List ResultVar:=[.tmp 6]
noncomputable def c_reader_trimmed:Code:=(Go.Proofs.Tryz.f37.body).getD .skip
theorem b_reader_trimmed:Go.Proofs.Tryz.f37.body=some c_reader_trimmed:=by kernel_rfl
noncomputable def c_reader_trimmed_rrr:Code:=(rgt (rgt (rgt c_reader_trimmed)))
noncomputable def c_reader_trimmed_rrll:Code:=(lft (lft (rgt (rgt c_reader_trimmed))))
noncomputable def c_reader_trimmed_rrlll:Code:=(lft c_reader_trimmed_rrll)
theorem q_reader_trimmed_rrll:c_reader_trimmed_rrll=.loop c_reader_trimmed_rrlll:=by kernel_rfl
theorem e_reader_trimmed (r:Nat) (a1:Option Addr) (l2:Nat) (k3:Nat) (x4:Int) (m:Mem) (R:Value→Mem→Prop)
  (h:WPS PP 34 c_reader_trimmed_rrll (((retK PP r_reader_trimmed R).withN fun r m=>WPS PP 34 c_reader_trimmed_rrr (retK PP r_reader_trimmed R) r m).withX 0) [(0,.pointer (some ⟨r,0,none⟩)),(1,.slice a1 l2 k3),(2,.int .i64 x4),(6,.slice none 0 0),(7,.int .i64 (l2:Int))] m):
  CallM PP f_reader_trimmed #[.pointer (some ⟨r,0,none⟩),.slice a1 l2 k3,.int .i64 x4] m R:=
 callM_enter ffOk mixedOk 34 L_reader_trimmed Tryz.func37 b_reader_trimmed Tryz.ntmps37 (by simp) (Eq.mpr (by kernel_rfl) h)
theorem p_reader_trimmed_rrr (r:Nat) (a1:Option Addr) (l2:Nat) (k3:Nat) (x4:Int) (m:Mem) (K:Kont)
  (h:CallM PP f_reader_pick #[.pointer (some ⟨r,0,none⟩),.int .i64 (IntKind.wrap .i64 ((IntKind.wrap .i64 ((l2:Int) - x4))+1))] m fun v6 m7=>∃ x5,v6=.int .i64 x5∧l2≤k3∧(0≤(IntKind.wrap .i64 (x4+x5))∧(IntKind.wrap .i64 (x4+x5))≤(k3:Int))∧K.kr [(0,.pointer (some ⟨r,0,none⟩)),(1,.slice a1 l2 k3),(6,.slice a1 ((IntKind.wrap .i64 (x4+x5)).toNat) k3),(7,.int .i64 x4)] m7):
  wpc PP FF 34 L_reader_trimmed c_reader_trimmed_rrr K [(0,.pointer (some ⟨r,0,none⟩)),(1,.slice a1 l2 k3),(7,.int .i64 x4)] m:=
 Eq.mpr (by kernel_rfl) h
theorem p_reader_trimmed_rrlll (r:Nat) (a1:Option Addr) (l2:Nat) (k3:Nat) (x4:Int) (x5:Int) (m:Mem) (K:Kont)
  (h:ifB (decide (x5 > x4)) (onSome a1 fun p6=>(0≤(IntKind.wrap .i64 (x5 - 1))∧(IntKind.wrap .i64 (x5 - 1)) < (l2:Int))∧∃ x7,cell? m (aplus p6 ((IntKind.wrap .i64 (x5 - 1)).toNat))=some (.int .i64 x7)∧ifB (x7 == 0) (K.kn [(0,.pointer (some ⟨r,0,none⟩)),(1,.slice a1 l2 k3),(2,.int .i64 x4),(7,.int .i64 (IntKind.wrap .i64 (x5 - 1)))] m) (K.kx 0 [(0,.pointer (some ⟨r,0,none⟩)),(1,.slice a1 l2 k3),(2,.int .i64 x4),(7,.int .i64 x5)] m)) (K.kx 0 [(0,.pointer (some ⟨r,0,none⟩)),(1,.slice a1 l2 k3),(2,.int .i64 x4),(7,.int .i64 x5)] m)):
  wpc PP FF 34 L_reader_trimmed c_reader_trimmed_rrlll K [(0,.pointer (some ⟨r,0,none⟩)),(1,.slice a1 l2 k3),(2,.int .i64 x4),(7,.int .i64 x5)] m:=
 Eq.mpr (by kernel_rfl) h
def L_reader_lengthsOf:List Nat:=[0,1,2,6,7,8,9,10,11,12,13,14,15,16,17,18,19,28,36,48,58,68,91,92,93]
def r_reader_lengthsOf:List ResultVar:=[.tmp 6]
noncomputable def c_reader_lengthsOf:Code:=(Go.Proofs.Tryz.f38.body).getD .skip
theorem b_reader_lengthsOf:Go.Proofs.Tryz.f38.body=some c_reader_lengthsOf:=by kernel_rfl
noncomputable def c_reader_lengthsOf_rrr:Code:=(rgt (rgt (rgt c_reader_lengthsOf)))
noncomputable def c_reader_lengthsOf_rrrr:Code:=(rgt c_reader_lengthsOf_rrr)
noncomputable def c_reader_lengthsOf_rrlrl:Code:=(lft (rgt (lft (rgt (rgt c_reader_lengthsOf)))))
noncomputable def c_reader_lengthsOf_rrlrll:Code:=(lft c_reader_lengthsOf_rrlrl)
noncomputable def c_reader_lengthsOf_rrrlrl:Code:=(lft (rgt (lft c_reader_lengthsOf_rrr)))
noncomputable def c_reader_lengthsOf_rrrrrr:Code:=(rgt (rgt c_reader_lengthsOf_rrrr))
noncomputable def c_reader_lengthsOf_rrrlrll:Code:=(lft c_reader_lengthsOf_rrrlrl)
noncomputable def c_reader_lengthsOf_rrrrrll:Code:=(lft (lft (rgt c_reader_lengthsOf_rrrr)))
noncomputable def c_reader_lengthsOf_rrrrrlll:Code:=(lft c_reader_lengthsOf_rrrrrll)
noncomputable def c_reader_lengthsOf_rrrrrrrr:Code:=(rgt (rgt c_reader_lengthsOf_rrrrrr))
noncomputable def c_reader_lengthsOf_rrlrllrrr:Code:=(rgt (rgt (rgt c_reader_lengthsOf_rrlrll)))
noncomputable def c_reader_lengthsOf_rrrlrllrr:Code:=(rgt (rgt c_reader_lengthsOf_rrrlrll))
noncomputable def c_reader_lengthsOf_rrrrrrrlrl:Code:=(lft (rgt (lft (rgt c_reader_lengthsOf_rrrrrr))))
noncomputable def c_reader_lengthsOf_rrrrrrrlrll:Code:=(lft c_reader_lengthsOf_rrrrrrrlrl)
noncomputable def c_reader_lengthsOf_rrrrrlllrlrr:Code:=(rgt (rgt (lft (rgt c_reader_lengthsOf_rrrrrlll))))
noncomputable def c_reader_lengthsOf_rrrrrlllrlrll:Code:=(lft (lft (rgt (lft (rgt c_reader_lengthsOf_rrrrrlll)))))
noncomputable def c_reader_lengthsOf_rrrrrlllrlrlll:Code:=(lft c_reader_lengthsOf_rrrrrlllrlrll)
theorem q_reader_lengthsOf_rrlrl:c_reader_lengthsOf_rrlrl=.loop c_reader_lengthsOf_rrlrll:=by kernel_rfl
theorem q_reader_lengthsOf_rrrlrl:c_reader_lengthsOf_rrrlrl=.loop c_reader_lengthsOf_rrrlrll:=by kernel_rfl
theorem q_reader_lengthsOf_rrrrrll:c_reader_lengthsOf_rrrrrll=.loop c_reader_lengthsOf_rrrrrlll:=by kernel_rfl
theorem q_reader_lengthsOf_rrrrrrrlrl:c_reader_lengthsOf_rrrrrrrlrl=.loop c_reader_lengthsOf_rrrrrrrlrll:=by kernel_rfl
theorem q_reader_lengthsOf_rrrrrlllrlrll:c_reader_lengthsOf_rrrrrlllrlrll=.loop c_reader_lengthsOf_rrrrrlllrlrlll:=by kernel_rfl
theorem e_reader_lengthsOf (r:Nat) (a1:Option Addr) (l2:Nat) (k3:Nat) (x4:Int) (m:Mem) (R:Value→Mem→Prop)
  (h:WPS PP 129 c_reader_lengthsOf_rrlrl (((retK PP r_reader_lengthsOf R).withN fun r m=>WPS PP 129 c_reader_lengthsOf_rrr (retK PP r_reader_lengthsOf R) r m).withX 0) [(0,.pointer (some ⟨r,0,none⟩)),(1,.slice a1 l2 k3),(2,.int .i64 x4),(6,.slice none 0 0),(7,.slice none 0 0),(16,.slice a1 l2 k3),(17,.int .i64 (l2:Int)),(18,.int .i64 0)] m):
  CallM PP f_reader_lengthsOf #[.pointer (some ⟨r,0,none⟩),.slice a1 l2 k3,.int .i64 x4] m R:=
 callM_enter ffOk mixedOk 129 L_reader_lengthsOf Tryz.func38 b_reader_lengthsOf Tryz.ntmps38 (by simp) (Eq.mpr (by kernel_rfl) h)
theorem p_reader_lengthsOf_rrr (r:Nat) (a1:Option Addr) (l2:Nat) (k3:Nat) (x4:Int) (a5:Option Addr) (l6:Nat) (k7:Nat) (m:Mem) (K:Kont)
  (h:WPS PP 129 c_reader_lengthsOf_rrrlrl ((K.withN fun r m=>WPS PP 129 c_reader_lengthsOf_rrrr K r m).withX 2) [(0,.pointer (some ⟨r,0,none⟩)),(1,.slice a1 l2 k3),(2,.int .i64 x4),(7,.slice a5 l6 k7),(10,.int .i64 0)] m):
  wpc PP FF 129 L_reader_lengthsOf c_reader_lengthsOf_rrr K [(0,.pointer (some ⟨r,0,none⟩)),(1,.slice a1 l2 k3),(2,.int .i64 x4),(7,.slice a5 l6 k7)] m:=
 Eq.mpr (by kernel_rfl) h
theorem p_reader_lengthsOf_rrlrll (r:Nat) (a1:Option Addr) (l2:Nat) (k3:Nat) (x4:Int) (a5:Option Addr) (l6:Nat) (k7:Nat) (a8:Option Addr) (l9:Nat) (k10:Nat) (x11:Int) (x12:Int) (m:Mem) (K:Kont)
  (h:ifB (decide (x12 < x11)) (onSome a8 fun p13=>(0≤x12∧x12 < (l9:Int))∧∃ b14,cell? m (aplus p13 x12.toNat)=some (.bool b14)∧ifB b14 (SemW PP (sv (Instr.buildSlice t_s_int 1 #[(0,.int .i64 x12)])) m (NextW PP fun v18 m19=>∃ a15 l16 k17,v18=.slice a15 l16 k17∧SemW PP (builtin .append #[t_s_int,t_s_int] t_s_int #[false,false] #[.slice a5 l6 k7,.slice a15 l16 k17]) m19 (NextW PP fun v23 m24=>∃ a20 l21 k22,v23=.slice a20 l21 k22∧WPS PP 129 c_reader_lengthsOf_rrlrllrrr K [(0,.pointer (some ⟨r,0,none⟩)),(1,.slice a1 l2 k3),(2,.int .i64 x4),(7,.slice a20 l21 k22),(8,.int .i64 x12),(9,.bool b14),(16,.slice a8 l9 k10),(17,.int .i64 x11),(18,.int .i64 x12)] m24))) (CallM PP f_reader_pick #[.pointer (some ⟨r,0,none⟩),.int .i64 40] m fun v26 m27=>∃ x25,v26=.int .i64 x25∧ifB (x25 == 0) (SemW PP (sv (Instr.buildSlice t_s_int 1 #[(0,.int .i64 x12)])) m27 (NextW PP fun v31 m32=>∃ a28 l29 k30,v31=.slice a28 l29 k30∧SemW PP (builtin .append #[t_s_int,t_s_int] t_s_int #[false,false] #[.slice a5 l6 k7,.slice a28 l29 k30]) m32 (NextW PP fun v36 m37=>∃ a33 l34 k35,v36=.slice a33 l34 k35∧WPS PP 129 c_reader_lengthsOf_rrlrllrrr K [(0,.pointer (some ⟨r,0,none⟩)),(1,.slice a1 l2 k3),(2,.int .i64 x4),(7,.slice a33 l34 k35),(8,.int .i64 x12),(9,.bool b14),(16,.slice a8 l9 k10),(17,.int .i64 x11),(18,.int .i64 x12)] m37))) (WPS PP 129 c_reader_lengthsOf_rrlrllrrr K [(0,.pointer (some ⟨r,0,none⟩)),(1,.slice a1 l2 k3),(2,.int .i64 x4),(7,.slice a5 l6 k7),(8,.int .i64 x12),(9,.bool b14),(16,.slice a8 l9 k10),(17,.int .i64 x11),(18,.int .i64 x12)] m27))) (K.kx 0 [(0,.pointer (some ⟨r,0,none⟩)),(1,.slice a1 l2 k3),(2,.int .i64 x4),(7,.slice a5 l6 k7),(16,.slice a8 l9 k10),(17,.int .i64 x11),(18,.int .i64 x12)] m)):
  wpc PP FF 129 L_reader_lengthsOf c_reader_lengthsOf_rrlrll K [(0,.pointer (some ⟨r,0,none⟩)),(1,.slice a1 l2 k3),(2,.int .i64 x4),(7,.slice a5 l6 k7),(16,.slice a8 l9 k10),(17,.int .i64 x11),(18,.int .i64 x12)] m:=
 Eq.mpr (by kernel_rfl) h
theorem p_reader_lengthsOf_rrrlrll (r:Nat) (a1:Option Addr) (l2:Nat) (k3:Nat) (x4:Int) (a5:Option Addr) (l6:Nat) (k7:Nat) (x8:Int) (m:Mem) (K:Kont)
  (h:ifB (decide ((l6:Int) < 2)) (ifB ((l6:Int) == 0) (SemW PP (sv (Instr.buildSlice t_s_int 1 #[(0,.int .i64 x8)])) m (NextW PP fun v12 m13=>∃ a9 l10 k11,v12=.slice a9 l10 k11∧SemW PP (builtin .append #[t_s_int,t_s_int] t_s_int #[false,false] #[.slice a5 l6 k7,.slice a9 l10 k11]) m13 (NextW PP fun v17 m18=>∃ a14 l15 k16,v17=.slice a14 l15 k16∧WPS PP 129 c_reader_lengthsOf_rrrlrllrr K [(0,.pointer (some ⟨r,0,none⟩)),(1,.slice a1 l2 k3),(2,.int .i64 x4),(7,.slice a14 l15 k16),(10,.int .i64 x8)] m18))) (onSome a5 fun p19=>(0≤(0:Int)∧(0:Int) < (l6:Int))∧∃ x20,cell? m (aplus p19 0)=some (.int .i64 x20)∧ifB (x20 != x8) (SemW PP (sv (Instr.buildSlice t_s_int 1 #[(0,.int .i64 x8)])) m (NextW PP fun v24 m25=>∃ a21 l22 k23,v24=.slice a21 l22 k23∧SemW PP (builtin .append #[t_s_int,t_s_int] t_s_int #[false,false] #[.slice a5 l6 k7,.slice a21 l22 k23]) m25 (NextW PP fun v29 m30=>∃ a26 l27 k28,v29=.slice a26 l27 k28∧WPS PP 129 c_reader_lengthsOf_rrrlrllrr K [(0,.pointer (some ⟨r,0,none⟩)),(1,.slice a1 l2 k3),(2,.int .i64 x4),(7,.slice a26 l27 k28),(10,.int .i64 x8)] m30))) (WPS PP 129 c_reader_lengthsOf_rrrlrllrr K [(0,.pointer (some ⟨r,0,none⟩)),(1,.slice a1 l2 k3),(2,.int .i64 x4),(7,.slice a5 l6 k7),(10,.int .i64 x8)] m))) (K.kx 2 [(0,.pointer (some ⟨r,0,none⟩)),(1,.slice a1 l2 k3),(2,.int .i64 x4),(7,.slice a5 l6 k7),(10,.int .i64 x8)] m)):
  wpc PP FF 129 L_reader_lengthsOf c_reader_lengthsOf_rrrlrll K [(0,.pointer (some ⟨r,0,none⟩)),(1,.slice a1 l2 k3),(2,.int .i64 x4),(7,.slice a5 l6 k7),(10,.int .i64 x8)] m:=
 Eq.mpr (by kernel_rfl) h
theorem p_reader_lengthsOf_rrrrrlll (r:Nat) (a1:Option Addr) (l2:Nat) (k3:Nat) (x4:Int) (a5:Option Addr) (l6:Nat) (k7:Nat) (a8:Option Addr) (l9:Nat) (k10:Nat) (m:Mem) (K:Kont)
  (h:ifB (decide ((l9:Int) < (l6:Int))) (CallM PP f_reader_pick #[.pointer (some ⟨r,0,none⟩),.int .i64 (l9:Int)] m fun v12 m13=>∃ x11,v12=.int .i64 x11∧WPS PP 129 c_reader_lengthsOf_rrrrrlllrlrll (((K.withX 5).withN fun r m=>WPS PP 129 c_reader_lengthsOf_rrrrrlllrlrr (K.withX 5) r m).withX 6) [(0,.pointer (some ⟨r,0,none⟩)),(1,.slice a1 l2 k3),(2,.int .i64 x4),(7,.slice a5 l6 k7),(11,.slice a8 l9 k10),(12,.int .i64 x11)] m13) (K.kx 4 [(0,.pointer (some ⟨r,0,none⟩)),(1,.slice a1 l2 k3),(2,.int .i64 x4),(7,.slice a5 l6 k7),(11,.slice a8 l9 k10)] m)):
  wpc PP FF 129 L_reader_lengthsOf c_reader_lengthsOf_rrrrrlll K [(0,.pointer (some ⟨r,0,none⟩)),(1,.slice a1 l2 k3),(2,.int .i64 x4),(7,.slice a5 l6 k7),(11,.slice a8 l9 k10)] m:=
 Eq.mpr (by kernel_rfl) h
theorem p_reader_lengthsOf_rrrrrrrlrll (r:Nat) (a1:Option Addr) (l2:Nat) (k3:Nat) (a4:Option Addr) (l5:Nat) (k6:Nat) (a7:Option Addr) (l8:Nat) (k9:Nat) (x10:Int) (x11:Int) (m:Mem) (K:Kont)
  (h:ifB (decide (x11 < x10)) (CallM PP f_reader_pick #[.pointer (some ⟨r,0,none⟩),.int .i64 (IntKind.wrap .i64 ((l2:Int) - x11))] m fun v13 m14=>∃ x12,v13=.int .i64 x12∧onSome a4 fun p15=>(0≤(IntKind.wrap .i64 (x11+x12))∧(IntKind.wrap .i64 (x11+x12)) < (l5:Int))∧∃ x16,cell? m14 (aplus p15 ((IntKind.wrap .i64 (x11+x12)).toNat))=some (.int .i64 x16)∧onSome a4 fun p17=>(0≤x11∧x11 < (l5:Int))∧∃ x18,cell? m14 (aplus p17 x11.toNat)=some (.int .i64 x18)∧onSome a4 fun p19=>(0≤x11∧x11 < (l5:Int))∧StW m14 (aplus p19 x11.toNat) (.int .i64 x16) fun m20=>onSome a4 fun p21=>(0≤(IntKind.wrap .i64 (x11+x12))∧(IntKind.wrap .i64 (x11+x12)) < (l5:Int))∧StW m20 (aplus p21 ((IntKind.wrap .i64 (x11+x12)).toNat)) (.int .i64 x18) fun m22=>onSome a1 fun p23=>(0≤x11∧x11 < (l2:Int))∧∃ x24,cell? m22 (aplus p23 x11.toNat)=some (.int .i64 x24)∧onSome a4 fun p25=>(0≤x11∧x11 < (l5:Int))∧∃ x26,cell? m22 (aplus p25 x11.toNat)=some (.int .i64 x26)∧onSome a7 fun p27=>(0≤x24∧x24 < (l8:Int))∧StW m22 (aplus p27 x24.toNat) (.int .i64 x26) fun m28=>K.kn [(0,.pointer (some ⟨r,0,none⟩)),(7,.slice a1 l2 k3),(11,.slice a4 l5 k6),(13,.slice a7 l8 k9),(14,.int .i64 x11),(15,.int .i64 (IntKind.wrap .i64 (x11+x12))),(91,.int .i64 x10),(92,.int .i64 (IntKind.wrap .i64 (x11+1)))] m28) (K.kx 8 [(0,.pointer (some ⟨r,0,none⟩)),(7,.slice a1 l2 k3),(11,.slice a4 l5 k6),(13,.slice a7 l8 k9),(91,.int .i64 x10),(92,.int .i64 x11)] m)):
  wpc PP FF 129 L_reader_lengthsOf c_reader_lengthsOf_rrrrrrrlrll K [(0,.pointer (some ⟨r,0,none⟩)),(7,.slice a1 l2 k3),(11,.slice a4 l5 k6),(13,.slice a7 l8 k9),(91,.int .i64 x10),(92,.int .i64 x11)] m:=
 Eq.mpr (by kernel_rfl) h
theorem p_reader_lengthsOf_rrrrrlllrlrlll (r:Nat) (a1:Option Addr) (l2:Nat) (k3:Nat) (x4:Int) (a5:Option Addr) (l6:Nat) (k7:Nat) (a8:Option Addr) (l9:Nat) (k10:Nat) (x11:Int) (m:Mem) (K:Kont)
  (h:onSome a8 fun p12=>(0≤x11∧x11 < (l9:Int))∧∃ x13,cell? m (aplus p12 x11.toNat)=some (.int .i64 x13)∧ifB (x13 == x4) (IntKind.i64=IntKind.i64∧(l9:Int)≠0∧K.kn [(0,.pointer (some ⟨r,0,none⟩)),(1,.slice a1 l2 k3),(2,.int .i64 x4),(7,.slice a5 l6 k7),(11,.slice a8 l9 k10),(12,.int .i64 (Int.tmod (IntKind.wrap .i64 (x11+1)) (l9:Int)))] m) (K.kx 6 [(0,.pointer (some ⟨r,0,none⟩)),(1,.slice a1 l2 k3),(2,.int .i64 x4),(7,.slice a5 l6 k7),(11,.slice a8 l9 k10),(12,.int .i64 x11)] m)):
  wpc PP FF 129 L_reader_lengthsOf c_reader_lengthsOf_rrrrrlllrlrlll K [(0,.pointer (some ⟨r,0,none⟩)),(1,.slice a1 l2 k3),(2,.int .i64 x4),(7,.slice a5 l6 k7),(11,.slice a8 l9 k10),(12,.int .i64 x11)] m:=
 Eq.mpr (by kernel_rfl) h
theorem p_reader_lengthsOf_rrrr (r:Nat) (a1:Option Addr) (l2:Nat) (k3:Nat) (x4:Int) (a5:Option Addr) (l6:Nat) (k7:Nat) (m:Mem) (K:Kont)
  (h:SemW PP (sv (Instr.buildSlice t_s_int 2 #[(0,.int .i64 1),(1,.int .i64 1)])) m (NextW PP fun v11 m12=>∃ a8 l9 k10,v11=.slice a8 l9 k10∧WPS PP 129 c_reader_lengthsOf_rrrrrll ((K.withN fun r m=>WPS PP 129 c_reader_lengthsOf_rrrrrr K r m).withX 4) [(0,.pointer (some ⟨r,0,none⟩)),(1,.slice a1 l2 k3),(2,.int .i64 x4),(7,.slice a5 l6 k7),(11,.slice a8 l9 k10)] m12)):
  wpc PP FF 129 L_reader_lengthsOf c_reader_lengthsOf_rrrr K [(0,.pointer (some ⟨r,0,none⟩)),(1,.slice a1 l2 k3),(2,.int .i64 x4),(7,.slice a5 l6 k7)] m:=
 Eq.mpr (by kernel_rfl) h
theorem p_reader_lengthsOf_rrlrllrrr (r:Nat) (a1:Option Addr) (l2:Nat) (k3:Nat) (x4:Int) (a5:Option Addr) (l6:Nat) (k7:Nat) (a8:Option Addr) (l9:Nat) (k10:Nat) (x11:Int) (x12:Int) (m:Mem) (K:Kont)
  (h:K.kn [(0,.pointer (some ⟨r,0,none⟩)),(1,.slice a1 l2 k3),(2,.int .i64 x4),(7,.slice a5 l6 k7),(16,.slice a8 l9 k10),(17,.int .i64 x11),(18,.int .i64 (IntKind.wrap .i64 (x12+1)))] m):
  wpc PP FF 129 L_reader_lengthsOf c_reader_lengthsOf_rrlrllrrr K [(0,.pointer (some ⟨r,0,none⟩)),(1,.slice a1 l2 k3),(2,.int .i64 x4),(7,.slice a5 l6 k7),(16,.slice a8 l9 k10),(17,.int .i64 x11),(18,.int .i64 x12)] m:=
 Eq.mpr (by kernel_rfl) h
theorem p_reader_lengthsOf_rrrlrllrr (r:Nat) (a1:Option Addr) (l2:Nat) (k3:Nat) (x4:Int) (a5:Option Addr) (l6:Nat) (k7:Nat) (x8:Int) (m:Mem) (K:Kont)
  (h:K.kn [(0,.pointer (some ⟨r,0,none⟩)),(1,.slice a1 l2 k3),(2,.int .i64 x4),(7,.slice a5 l6 k7),(10,.int .i64 (IntKind.wrap .i64 (x8+1)))] m):
  wpc PP FF 129 L_reader_lengthsOf c_reader_lengthsOf_rrrlrllrr K [(0,.pointer (some ⟨r,0,none⟩)),(1,.slice a1 l2 k3),(2,.int .i64 x4),(7,.slice a5 l6 k7),(10,.int .i64 x8)] m:=
 Eq.mpr (by kernel_rfl) h
theorem p_reader_lengthsOf_rrrrrlllrlrr (r:Nat) (a1:Option Addr) (l2:Nat) (k3:Nat) (x4:Int) (a5:Option Addr) (l6:Nat) (k7:Nat) (a8:Option Addr) (l9:Nat) (k10:Nat) (x11:Int) (m:Mem) (K:Kont)
  (h:onSome a8 fun p12=>(0≤x11∧x11 < (l9:Int))∧∃ x13,cell? m (aplus p12 x11.toNat)=some (.int .i64 x13)∧onSome a8 fun p14=>(0≤x11∧x11 < (l9:Int))∧StW m (aplus p14 x11.toNat) (.int .i64 (IntKind.wrap .i64 (x13+1))) fun m15=>onSome a8 fun p16=>(0≤x11∧x11 < (l9:Int))∧∃ x17,cell? m15 (aplus p16 x11.toNat)=some (.int .i64 x17)∧SemW PP (sv (Instr.buildSlice t_s_int 1 #[(0,.int .i64 x17)])) m15 (NextW PP fun v21 m22=>∃ a18 l19 k20,v21=.slice a18 l19 k20∧SemW PP (builtin .append #[t_s_int,t_s_int] t_s_int #[false,false] #[.slice a8 l9 k10,.slice a18 l19 k20]) m22 (NextW PP fun v26 m27=>∃ a23 l24 k25,v26=.slice a23 l24 k25∧K.kn [(0,.pointer (some ⟨r,0,none⟩)),(1,.slice a1 l2 k3),(2,.int .i64 x4),(7,.slice a5 l6 k7),(11,.slice a23 l24 k25),(12,.int .i64 x11)] m27))):
  wpc PP FF 129 L_reader_lengthsOf c_reader_lengthsOf_rrrrrlllrlrr K [(0,.pointer (some ⟨r,0,none⟩)),(1,.slice a1 l2 k3),(2,.int .i64 x4),(7,.slice a5 l6 k7),(11,.slice a8 l9 k10),(12,.int .i64 x11)] m:=
 Eq.mpr (by kernel_rfl) h
theorem p_reader_lengthsOf_rrrrrr (r:Nat) (a1:Option Addr) (l2:Nat) (k3:Nat) (a4:Option Addr) (l5:Nat) (k6:Nat) (a7:Option Addr) (l8:Nat) (k9:Nat) (m:Mem) (K:Kont)
  (h:SemW PP (sv (Instr.makeSlice t_s_int (.int .i64 (l2:Int)) (.int .i64 (l2:Int)))) m (NextW PP fun v13 m14=>∃ a10 l11 k12,v13=.slice a10 l11 k12∧WPS PP 129 c_reader_lengthsOf_rrrrrrrlrl ((K.withN fun r m=>WPS PP 129 c_reader_lengthsOf_rrrrrrrr K r m).withX 8) [(0,.pointer (some ⟨r,0,none⟩)),(1,.slice a1 l2 k3),(7,.slice a4 l5 k6),(11,.slice a7 l8 k9),(13,.slice a10 l11 k12),(91,.int .i64 (l5:Int)),(92,.int .i64 0)] m14)):
  wpc PP FF 129 L_reader_lengthsOf c_reader_lengthsOf_rrrrrr K [(0,.pointer (some ⟨r,0,none⟩)),(1,.slice a1 l2 k3),(7,.slice a4 l5 k6),(11,.slice a7 l8 k9)] m:=
 Eq.mpr (by kernel_rfl) h
theorem p_reader_lengthsOf_rrrrrrrr (a1:Option Addr) (l2:Nat) (k3:Nat) (m:Mem) (K:Kont)
  (h:K.kr [(6,.slice a1 l2 k3),(13,.slice a1 l2 k3)] m):
  wpc PP FF 129 L_reader_lengthsOf c_reader_lengthsOf_rrrrrrrr K [(13,.slice a1 l2 k3)] m:=
 Eq.mpr (by kernel_rfl) h
def L_Writer_lengths:List Nat:=[0,1,2,3,8,9,11,12,13,15,16,18,27,28,29,30,53,72,73,74,75,87,88,89,90]
def r_Writer_lengths:List ResultVar:=[]
noncomputable def c_Writer_lengths:Code:=(Go.Proofs.Tryz.f39.body).getD .skip
theorem b_Writer_lengths:Go.Proofs.Tryz.f39.body=some c_Writer_lengths:=by kernel_rfl
noncomputable def c_Writer_lengths_rrr:Code:=(rgt (rgt (rgt c_Writer_lengths)))
noncomputable def c_Writer_lengths_rrlrl:Code:=(lft (rgt (lft (rgt (rgt c_Writer_lengths)))))
noncomputable def c_Writer_lengths_rrlrll:Code:=(lft c_Writer_lengths_rrlrl)
noncomputable def c_Writer_lengths_rrrrrr:Code:=(rgt (rgt (rgt c_Writer_lengths_rrr)))
noncomputable def c_Writer_lengths_rrrrrll:Code:=(lft (lft (rgt (rgt c_Writer_lengths_rrr))))
noncomputable def c_Writer_lengths_rrrrrlll:Code:=(lft c_Writer_lengths_rrrrrll)
noncomputable def c_Writer_lengths_rrrrrrrrrr:Code:=(rgt (rgt (rgt (rgt c_Writer_lengths_rrrrrr))))
noncomputable def c_Writer_lengths_rrrrrrrrrlrl:Code:=(lft (rgt (lft (rgt (rgt (rgt c_Writer_lengths_rrrrrr))))))
noncomputable def c_Writer_lengths_rrrrrrrrrlrll:Code:=(lft c_Writer_lengths_rrrrrrrrrlrl)
noncomputable def c_Writer_lengths_rrrrrrrrrrrrl:Code:=(lft (rgt (rgt c_Writer_lengths_rrrrrrrrrr)))
noncomputable def c_Writer_lengths_rrrrrrrrrrrrll:Code:=(lft c_Writer_lengths_rrrrrrrrrrrrl)
theorem q_Writer_lengths_rrlrl:c_Writer_lengths_rrlrl=.loop c_Writer_lengths_rrlrll:=by kernel_rfl
theorem q_Writer_lengths_rrrrrll:c_Writer_lengths_rrrrrll=.loop c_Writer_lengths_rrrrrlll:=by kernel_rfl
theorem q_Writer_lengths_rrrrrrrrrlrl:c_Writer_lengths_rrrrrrrrrlrl=.loop c_Writer_lengths_rrrrrrrrrlrll:=by kernel_rfl
theorem q_Writer_lengths_rrrrrrrrrrrrl:c_Writer_lengths_rrrrrrrrrrrrl=.loop c_Writer_lengths_rrrrrrrrrrrrll:=by kernel_rfl
theorem e_Writer_lengths (w:Nat) (p1:Option Addr) (a2:Option Addr) (l3:Nat) (k4:Nat) (a5:Option Addr) (l6:Nat) (k7:Nat) (m:Mem) (R:Value→Mem→Prop)
  (h:SemW PP (sv (Instr.buildSlice t_s_int 0 #[])) m (NextW PP fun v11 m12=>∃ a8 l9 k10,v11=.slice a8 l9 k10∧SemW PP (builtin .append #[t_s_int,t_s_int] t_s_int #[false,false] #[.slice a8 l9 k10,.slice a2 l3 k4]) m12 (NextW PP fun v16 m17=>∃ a13 l14 k15,v16=.slice a13 l14 k15∧SemW PP (builtin .append #[t_s_int,t_s_int] t_s_int #[false,false] #[.slice a13 l14 k15,.slice a5 l6 k7]) m17 (NextW PP fun v21 m22=>∃ a18 l19 k20,v21=.slice a18 l19 k20∧CallM PP f_reader_runs #[.pointer p1,.slice a18 l19 k20] m22 fun v26 m27=>∃ a23 l24 k25,v26=.slice a23 l24 k25∧SemW PP (sv (Instr.makeSlice t_s_bool (.int .i64 19) (.int .i64 19))) m27 (NextW PP fun v31 m32=>∃ a28 l29 k30,v31=.slice a28 l29 k30∧WPS PP 112 c_Writer_lengths_rrlrl (((retK PP r_Writer_lengths R).withN fun r m=>WPS PP 112 c_Writer_lengths_rrr (retK PP r_Writer_lengths R) r m).withX 0) [(0,.pointer (some ⟨w,0,none⟩)),(1,.pointer p1),(2,.slice a2 l3 k4),(3,.slice a5 l6 k7),(8,.slice a23 l24 k25),(9,.slice a28 l29 k30),(27,.slice a23 l24 k25),(28,.int .i64 (l24:Int)),(29,.int .i64 0)] m32))))):
  CallM PP f_Writer_lengths #[.pointer (some ⟨w,0,none⟩),.pointer p1,.slice a2 l3 k4,.slice a5 l6 k7] m R:=
 callM_enter ffOk mixedOk 112 L_Writer_lengths Tryz.func39 b_Writer_lengths Tryz.ntmps39 (by simp) (Eq.mpr (by kernel_rfl) h)
theorem p_Writer_lengths_rrr (w:Nat) (p1:Option Addr) (a2:Option Addr) (l3:Nat) (k4:Nat) (a5:Option Addr) (l6:Nat) (k7:Nat) (a8:Option Addr) (l9:Nat) (k10:Nat) (a11:Option Addr) (l12:Nat) (k13:Nat) (m:Mem) (K:Kont)
  (h:CallM PP f_reader_lengthsOf #[.pointer p1,.slice a11 l12 k13,.int .i64 7] m fun v17 m18=>∃ a14 l15 k16,v17=.slice a14 l15 k16∧WPS PP 112 c_Writer_lengths_rrrrrll ((K.withN fun r m=>WPS PP 112 c_Writer_lengths_rrrrrr K r m).withX 2) [(0,.pointer (some ⟨w,0,none⟩)),(1,.pointer p1),(2,.slice a2 l3 k4),(3,.slice a5 l6 k7),(8,.slice a8 l9 k10),(9,.slice a11 l12 k13),(12,.slice a14 l15 k16),(13,.int .i64 19)] m18):
  wpc PP FF 112 L_Writer_lengths c_Writer_lengths_rrr K [(0,.pointer (some ⟨w,0,none⟩)),(1,.pointer p1),(2,.slice a2 l3 k4),(3,.slice a5 l6 k7),(8,.slice a8 l9 k10),(9,.slice a11 l12 k13)] m:=
 Eq.mpr (by kernel_rfl) h
theorem p_Writer_lengths_rrlrll (w:Nat) (p1:Option Addr) (a2:Option Addr) (l3:Nat) (k4:Nat) (a5:Option Addr) (l6:Nat) (k7:Nat) (a8:Option Addr) (l9:Nat) (k10:Nat) (a11:Option Addr) (l12:Nat) (k13:Nat) (a14:Option Addr) (l15:Nat) (k16:Nat) (x17:Int) (x18:Int) (m:Mem) (K:Kont)
  (h:ifB (decide (x18 < x17)) (onSome a14 fun p19=>(0≤x18∧x18 < (l15:Int))∧∃ x20 x21 x22,([.int .i64 x20,.int .i64 x21,.int .i64 x22]:List Value).length=3∧CellsAre m (aplus p19 (x18.toNat * 3)) 0 [.int .i64 x20,.int .i64 x21,.int .i64 x22]∧AllocW PP t_spec_run m fun n23 m24=>StAgg PP t_spec_run m24 ⟨n23,0,none⟩ (.agg #[.int .i64 x20,.int .i64 x21,.int .i64 x22]) fun m25=>∃ x26,cell? m25 ⟨n23,0,none⟩=some (.int .i64 x26)∧onSome a11 fun p27=>(0≤x26∧x26 < (l12:Int))∧StW m25 (aplus p27 x26.toNat) (.bool true) fun m28=>K.kn [(0,.pointer (some ⟨w,0,none⟩)),(1,.pointer p1),(2,.slice a2 l3 k4),(3,.slice a5 l6 k7),(8,.slice a8 l9 k10),(9,.slice a11 l12 k13),(11,.pointer (some ⟨n23,0,none⟩)),(27,.slice a14 l15 k16),(28,.int .i64 x17),(29,.int .i64 (IntKind.wrap .i64 (x18+1)))] m28) (K.kx 0 [(0,.pointer (some ⟨w,0,none⟩)),(1,.pointer p1),(2,.slice a2 l3 k4),(3,.slice a5 l6 k7),(8,.slice a8 l9 k10),(9,.slice a11 l12 k13),(27,.slice a14 l15 k16),(28,.int .i64 x17),(29,.int .i64 x18)] m)):
  wpc PP FF 112 L_Writer_lengths c_Writer_lengths_rrlrll K [(0,.pointer (some ⟨w,0,none⟩)),(1,.pointer p1),(2,.slice a2 l3 k4),(3,.slice a5 l6 k7),(8,.slice a8 l9 k10),(9,.slice a11 l12 k13),(27,.slice a14 l15 k16),(28,.int .i64 x17),(29,.int .i64 x18)] m:=
 Eq.mpr (by kernel_rfl) h
theorem p_Writer_lengths_rrrrrlll (w:Nat) (a1:Option Addr) (l2:Nat) (k3:Nat) (a4:Option Addr) (l5:Nat) (k6:Nat) (a7:Option Addr) (l8:Nat) (k9:Nat) (a10:Option Addr) (l11:Nat) (k12:Nat) (x13:Int) (m:Mem) (K:Kont)
  (h:ifB (decide (x13 > 4)) (CallM PP f_spec_Order #[] m fun v17 m18=>∃ a14 l15 k16,v17=.slice a14 l15 k16∧onSome a14 fun p19=>(0≤(IntKind.wrap .i64 (x13 - 1))∧(IntKind.wrap .i64 (x13 - 1)) < (l15:Int))∧∃ x20,cell? m18 (aplus p19 ((IntKind.wrap .i64 (x13 - 1)).toNat))=some (.int .i64 x20)∧onSome a10 fun p21=>(0≤x20∧x20 < (l11:Int))∧∃ x22,cell? m18 (aplus p21 x20.toNat)=some (.int .i64 x22)∧ifB (x22 == 0) (K.kn [(0,.pointer (some ⟨w,0,none⟩)),(2,.slice a1 l2 k3),(3,.slice a4 l5 k6),(8,.slice a7 l8 k9),(12,.slice a10 l11 k12),(13,.int .i64 (IntKind.wrap .i64 (x13 - 1)))] m18) (K.kx 2 [(0,.pointer (some ⟨w,0,none⟩)),(2,.slice a1 l2 k3),(3,.slice a4 l5 k6),(8,.slice a7 l8 k9),(12,.slice a10 l11 k12),(13,.int .i64 x13)] m18)) (K.kx 2 [(0,.pointer (some ⟨w,0,none⟩)),(2,.slice a1 l2 k3),(3,.slice a4 l5 k6),(8,.slice a7 l8 k9),(12,.slice a10 l11 k12),(13,.int .i64 x13)] m)):
  wpc PP FF 112 L_Writer_lengths c_Writer_lengths_rrrrrlll K [(0,.pointer (some ⟨w,0,none⟩)),(2,.slice a1 l2 k3),(3,.slice a4 l5 k6),(8,.slice a7 l8 k9),(12,.slice a10 l11 k12),(13,.int .i64 x13)] m:=
 Eq.mpr (by kernel_rfl) h
theorem p_Writer_lengths_rrrrrrrrrlrll (w:Nat) (a1:Option Addr) (l2:Nat) (k3:Nat) (a4:Option Addr) (l5:Nat) (k6:Nat) (a7:Option Addr) (l8:Nat) (k9:Nat) (x10:Int) (x11:Int) (m:Mem) (K:Kont)
  (h:ifB (decide (x11 < x10)) (onSome a7 fun p12=>(0≤x11∧x11 < (l8:Int))∧∃ x13,cell? m (aplus p12 x11.toNat)=some (.int .i64 x13)∧onSome a4 fun p14=>(0≤x13∧x13 < (l5:Int))∧∃ x15,cell? m (aplus p14 x13.toNat)=some (.int .i64 x15)∧CallM PP f_Writer_Bits #[.pointer (some ⟨w,0,none⟩),.int .i64 x15,.int .i64 3] m fun v16 m17=>v16=.tuple #[]∧K.kn [(0,.pointer (some ⟨w,0,none⟩)),(8,.slice a1 l2 k3),(12,.slice a4 l5 k6),(15,.int .i64 x13),(72,.slice a7 l8 k9),(73,.int .i64 x10),(74,.int .i64 (IntKind.wrap .i64 (x11+1)))] m17) (K.kx 4 [(0,.pointer (some ⟨w,0,none⟩)),(8,.slice a1 l2 k3),(12,.slice a4 l5 k6),(72,.slice a7 l8 k9),(73,.int .i64 x10),(74,.int .i64 x11)] m)):
  wpc PP FF 112 L_Writer_lengths c_Writer_lengths_rrrrrrrrrlrll K [(0,.pointer (some ⟨w,0,none⟩)),(8,.slice a1 l2 k3),(12,.slice a4 l5 k6),(72,.slice a7 l8 k9),(73,.int .i64 x10),(74,.int .i64 x11)] m:=
 Eq.mpr (by kernel_rfl) h
theorem p_Writer_lengths_rrrrrrrrrrrrll (w:Nat) (a1:Option Addr) (l2:Nat) (k3:Nat) (a4:Option Addr) (l5:Nat) (k6:Nat) (a7:Option Addr) (l8:Nat) (k9:Nat) (x10:Int) (x11:Int) (m:Mem) (K:Kont)
  (h:ifB (decide (x11 < x10)) (onSome a7 fun p12=>(0≤x11∧x11 < (l8:Int))∧∃ x13 x14 x15,([.int .i64 x13,.int .i64 x14,.int .i64 x15]:List Value).length=3∧CellsAre m (aplus p12 (x11.toNat * 3)) 0 [.int .i64 x13,.int .i64 x14,.int .i64 x15]∧AllocW PP t_spec_run m fun n16 m17=>StAgg PP t_spec_run m17 ⟨n16,0,none⟩ (.agg #[.int .i64 x13,.int .i64 x14,.int .i64 x15]) fun m18=>∃ x19,cell? m18 ⟨n16,0,none⟩=some (.int .i64 x19)∧onSome a4 fun p20=>(0≤x19∧x19 < (l5:Int))∧∃ x21,cell? m18 (aplus p20 x19.toNat)=some (.int .i64 x21)∧∃ x22,cell? m18 ⟨n16,0,none⟩=some (.int .i64 x22)∧onSome a1 fun p23=>(0≤x22∧x22 < (l2:Int))∧∃ x24,cell? m18 (aplus p23 x22.toNat)=some (.int .i64 x24)∧CallM PP f_Writer_code #[.pointer (some ⟨w,0,none⟩),.int .i64 x21,.int .i64 x24] m18 fun v25 m26=>v25=.tuple #[]∧∃ x27,cell? m26 ⟨n16,1,none⟩=some (.int .i64 x27)∧∃ x28,cell? m26 ⟨n16,2,none⟩=some (.int .i64 x28)∧CallM PP f_Writer_Bits #[.pointer (some ⟨w,0,none⟩),.int .i64 x27,.int .i64 x28] m26 fun v29 m30=>v29=.tuple #[]∧K.kn [(0,.pointer (some ⟨w,0,none⟩)),(12,.slice a1 l2 k3),(16,.slice a4 l5 k6),(18,.pointer (some ⟨n16,0,none⟩)),(87,.slice a7 l8 k9),(88,.int .i64 x10),(89,.int .i64 (IntKind.wrap .i64 (x11+1)))] m30) (K.kx 6 [(0,.pointer (some ⟨w,0,none⟩)),(12,.slice a1 l2 k3),(16,.slice a4 l5 k6),(87,.slice a7 l8 k9),(88,.int .i64 x10),(89,.int .i64 x11)] m)):
  wpc PP FF 112 L_Writer_lengths c_Writer_lengths_rrrrrrrrrrrrll K [(0,.pointer (some ⟨w,0,none⟩)),(12,.slice a1 l2 k3),(16,.slice a4 l5 k6),(87,.slice a7 l8 k9),(88,.int .i64 x10),(89,.int .i64 x11)] m:=
 Eq.mpr (by kernel_rfl) h
theorem p_Writer_lengths_rrrrrr (w:Nat) (a1:Option Addr) (l2:Nat) (k3:Nat) (a4:Option Addr) (l5:Nat) (k6:Nat) (a7:Option Addr) (l8:Nat) (k9:Nat) (a10:Option Addr) (l11:Nat) (k12:Nat) (x13:Int) (m:Mem) (K:Kont)
  (h:CallM PP f_Writer_Bits #[.pointer (some ⟨w,0,none⟩),.int .i64 (IntKind.wrap .i64 ((l2:Int) - 257)),.int .i64 5] m fun v14 m15=>v14=.tuple #[]∧CallM PP f_Writer_Bits #[.pointer (some ⟨w,0,none⟩),.int .i64 (IntKind.wrap .i64 ((l5:Int) - 1)),.int .i64 5] m15 fun v16 m17=>v16=.tuple #[]∧CallM PP f_Writer_Bits #[.pointer (some ⟨w,0,none⟩),.int .i64 (IntKind.wrap .i64 (x13 - 4)),.int .i64 4] m17 fun v18 m19=>v18=.tuple #[]∧CallM PP f_spec_Order #[] m19 fun v23 m24=>∃ a20 l21 k22,v23=.slice a20 l21 k22∧l21≤k22∧(0≤x13∧x13≤(k22:Int))∧WPS PP 112 c_Writer_lengths_rrrrrrrrrlrl ((K.withN fun r m=>WPS PP 112 c_Writer_lengths_rrrrrrrrrr K r m).withX 4) [(0,.pointer (some ⟨w,0,none⟩)),(2,.slice a1 l2 k3),(3,.slice a4 l5 k6),(8,.slice a7 l8 k9),(12,.slice a10 l11 k12),(13,.int .i64 x13),(72,.slice a20 x13.toNat k22),(73,.int .i64 ((x13.toNat:Nat):Int)),(74,.int .i64 0)] m24):
  wpc PP FF 112 L_Writer_lengths c_Writer_lengths_rrrrrr K [(0,.pointer (some ⟨w,0,none⟩)),(2,.slice a1 l2 k3),(3,.slice a4 l5 k6),(8,.slice a7 l8 k9),(12,.slice a10 l11 k12),(13,.int .i64 x13)] m:=
 Eq.mpr (by kernel_rfl) h
theorem p_Writer_lengths_rrrrrrrrrr (w:Nat) (a1:Option Addr) (l2:Nat) (k3:Nat) (a4:Option Addr) (l5:Nat) (k6:Nat) (m:Mem) (K:Kont)
  (h:CallM PP f_spec_Codes #[.slice a4 l5 k6] m fun v10 m11=>∃ a7 l8 k9,v10=.slice a7 l8 k9∧WPS PP 112 c_Writer_lengths_rrrrrrrrrrrrl (K.withX 6) [(0,.pointer (some ⟨w,0,none⟩)),(8,.slice a1 l2 k3),(12,.slice a4 l5 k6),(16,.slice a7 l8 k9),(87,.slice a1 l2 k3),(88,.int .i64 (l2:Int)),(89,.int .i64 0)] m11):
  wpc PP FF 112 L_Writer_lengths c_Writer_lengths_rrrrrrrrrr K [(0,.pointer (some ⟨w,0,none⟩)),(8,.slice a1 l2 k3),(12,.slice a4 l5 k6)] m:=
 Eq.mpr (by kernel_rfl) h
def L_bufio_Reader_Reset:List Nat:=[0,1,7,12]
def r_bufio_Reader_Reset:List ResultVar:=[]
noncomputable def c_bufio_Reader_Reset:Code:=(Go.Proofs.Tryz.f40.body).getD .skip
theorem b_bufio_Reader_Reset:Go.Proofs.Tryz.f40.body=some c_bufio_Reader_Reset:=by kernel_rfl
noncomputable def c_bufio_Reader_Reset_rr:Code:=(rgt (rgt c_bufio_Reader_Reset))
theorem e_bufio_Reader_Reset (b:Nat) (v1:Value) (m:Mem) (R:Value→Mem→Prop)
  (h:ReadW PP m (do eqGuard .eql t_io_Reader (.tmp 5) (.tmp 6) (.iface t_p_bufio_Reader (.pointer (some ⟨b,0,none⟩))) v1; binOp .eql t_io_Reader (.iface t_p_bufio_Reader (.pointer (some ⟨b,0,none⟩))) v1) fun u3=>∃ b2,u3=.bool b2∧ifB b2 (R (.tuple #[]) m) (∃ a4 l5 k6,cell? m ⟨b,0,none⟩=some (.slice a4 l5 k6)∧ifB a4.isNone (SemW PP (sv (Instr.makeSlice t_s_uint8 (.int .i64 4096) (.int .i64 4096))) m (NextW PP fun v10 m11=>∃ a7 l8 k9,v10=.slice a7 l8 k9∧StW m11 ⟨b,0,none⟩ (.slice a7 l8 k9) fun m12=>WPS PP 24 c_bufio_Reader_Reset_rr (retK PP r_bufio_Reader_Reset R) [(0,.pointer (some ⟨b,0,none⟩)),(1,v1)] m12)) (WPS PP 24 c_bufio_Reader_Reset_rr (retK PP r_bufio_Reader_Reset R) [(0,.pointer (some ⟨b,0,none⟩)),(1,v1)] m))):
  CallM PP f_bufio_Reader_Reset #[.pointer (some ⟨b,0,none⟩),v1] m R:=
 callM_enter ffOk mixedOk 24 L_bufio_Reader_Reset Tryz.func40 b_bufio_Reader_Reset Tryz.ntmps40 (by simp) (Eq.mpr (by kernel_rfl) h)
theorem p_bufio_Reader_Reset_rr (b:Nat) (v1:Value) (m:Mem) (K:Kont)
  (h:∃ a2 l3 k4,cell? m ⟨b,0,none⟩=some (.slice a2 l3 k4)∧CallM PP f_bufio_Reader_reset #[.pointer (some ⟨b,0,none⟩),.slice a2 l3 k4,v1] m fun v5 m6=>v5=.tuple #[]∧K.kn [(0,.pointer (some ⟨b,0,none⟩)),(1,v1)] m6):
  wpc PP FF 24 L_bufio_Reader_Reset c_bufio_Reader_Reset_rr K [(0,.pointer (some ⟨b,0,none⟩)),(1,v1)] m:=
 Eq.mpr (by kernel_rfl) h
def L_bufio_NewReader:List Nat:=[0,2]
def r_bufio_NewReader:List ResultVar:=[.tmp 2]
noncomputable def c_bufio_NewReader:Code:=(Go.Proofs.Tryz.f41.body).getD .skip
theorem b_bufio_NewReader:Go.Proofs.Tryz.f41.body=some c_bufio_NewReader:=by kernel_rfl
theorem e_bufio_NewReader (v1:Value) (m:Mem) (R:Value→Mem→Prop)
  (h:CallM PP f_bufio_NewReaderSize #[v1,.int .i64 4096] m fun v3 m4=>∃ p2,v3=.pointer p2∧R (.pointer p2) m4):
  CallM PP f_bufio_NewReader #[v1] m R:=
 callM_enter ffOk mixedOk 5 L_bufio_NewReader Tryz.func41 b_bufio_NewReader Tryz.ntmps41 (by simp) (Eq.mpr (by kernel_rfl) h)
def L_decompressor_moreBits:List Nat:=[0,2,3,4,14]
def r_decompressor_moreBits:List ResultVar:=[.tmp 2]
noncomputable def c_decompressor_moreBits:Code:=(Go.Proofs.Tryz.f42.body).getD .skip
theorem b_decompressor_moreBits:Go.Proofs.Tryz.f42.body=some c_decompressor_moreBits:=by kernel_rfl
theorem e_decompressor_moreBits (f:Nat) (m:Mem) (R:Value→Mem→Prop)
  (h:∃ v1,cell? m ⟨f,0,none⟩=some (v1)∧SemW PP (callMethod v1 "ReadByte" #[]) m (NextW PP fun v4 m5=>∃ x2 v3,v4=.tuple #[.int .u8 x2,v3]∧isIfc v3=true∧ifB (!(isNil v3)) (CallM PP f_inflate_noEOF #[v3] m5 fun v7 m8=>∃ v6,v7=v6∧R (v6) m8) (∃ x9,cell? m5 ⟨f,2,none⟩=some (.int .i64 x9)∧StW m5 ⟨f,2,none⟩ (.int .i64 (IntKind.wrap .i64 (x9+1))) fun m10=>∃ x11,cell? m10 ⟨f,3,none⟩=some (.int .u32 x11)∧∃ x12,cell? m10 ⟨f,4,none⟩=some (.int .u64 x12)∧0≤x12∧IntKind.u32=IntKind.u32∧StW m10 ⟨f,3,none⟩ (.int .u32 (bitsOp .or .u32 x11 (shlOp .u32 (IntKind.wrap .u32 x2) x12))) fun m13=>∃ x14,cell? m13 ⟨f,4,none⟩=some (.int .u64 x14)∧StW m13 ⟨f,4,none⟩ (.int .u64 (IntKind.wrap .u64 (x14+8))) fun m15=>R (.nilIface) m15))  ):
  CallM PP f_decompressor_moreBits #[.pointer (some ⟨f,0,none⟩)] m R:=
 callM_enter ffOk mixedOk 45 L_decompressor_moreBits Tryz.func42 b_decompressor_moreBits Tryz.ntmps42 (by simp) (Eq.mpr (by kernel_rfl) h)
def L_decompressor_dataBlock:List Nat:=[0,2,3,4,5,33,72,82]
def r_decompressor_dataBlock:List ResultVar:=[]
noncomputable def c_decompressor_dataBlock:Code:=(Go.Proofs.Tryz.f43.body).getD .skip
theorem b_decompressor_dataBlock:Go.Proofs.Tryz.f43.body=some c_decompressor_dataBlock:=by kernel_rfl
theorem e_decompressor_dataBlock (f:Nat) (m:Mem) (R:Value→Mem→Prop)
  (h:StW m ⟨f,4,none⟩ (.int .u64 0) fun m1=>StW m1 ⟨f,3,none⟩ (.int .u32 0) fun m2=>∃ v3,cell? m2 ⟨f,0,none⟩=some (v3)∧(0≤(4:Int)∧(4:Int)≤(4:Int))∧(0≤(0:Int)∧(0:Int)≤4)∧CallM PP f_io_ReadFull #[v3,.slice (some ⟨f,1041,none⟩) 4 4] m2 fun v6 m7=>∃ x4 v5,v6=.tuple #[.int .i64 x4,v5]∧∃ x8,cell? m7 ⟨f,2,none⟩=some (.int .i64 x8)∧StW m7 ⟨f,2,none⟩ (.int .i64 (IntKind.wrap .i64 (x8+x4))) fun m9=>isIfc v5=true∧ifB (!(isNil v5)) (CallM PP f_inflate_noEOF #[v5] m9 fun v11 m12=>∃ v10,v11=v10∧StW m12 ⟨f,1048,none⟩ v10 fun m13=>R (.tuple #[]) m13) ((0≤(0:Int)∧(0:Int) < ((4:Nat):Int))∧∃ x14,cell? m9 ⟨f,1041,none⟩=some (.int .u8 x14)∧(0≤(1:Int)∧(1:Int) < ((4:Nat):Int))∧∃ x15,cell? m9 ⟨f,1042,none⟩=some (.int .u8 x15)∧0≤(8:Int)∧IntKind.i64=IntKind.i64∧(0≤(2:Int)∧(2:Int) < ((4:Nat):Int))∧∃ x16,cell? m9 ⟨f,1043,none⟩=some (.int .u8 x16)∧(0≤(3:Int)∧(3:Int) < ((4:Nat):Int))∧∃ x17,cell? m9 ⟨f,1044,none⟩=some (.int .u8 x17)∧0≤(8:Int)∧IntKind.i64=IntKind.i64∧ifB ((IntKind.wrap .u16 (bitsOp .or .i64 (IntKind.wrap .i64 x16) (shlOp .i64 (IntKind.wrap .i64 x17) 8))) != IntKind.wrap .u16 (bitsOp .xor .i64 (-1) (bitsOp .or .i64 (IntKind.wrap .i64 x14) (shlOp .i64 (IntKind.wrap .i64 x15) 8)))) (∃ x18,cell? m9 ⟨f,2,none⟩=some (.int .i64 x18)∧StW m9 ⟨f,1048,none⟩ (.iface t_flate_CorruptInputError (.int .i64 x18)) fun m19=>R (.tuple #[]) m19) (ifB ((bitsOp .or .i64 (IntKind.wrap .i64 x14) (shlOp .i64 (IntKind.wrap .i64 x15) 8)) == 0) (CallM PP f_dictDecoder_readFlush #[.pointer (some ⟨f,1037,none⟩)] m9 fun v23 m24=>∃ a20 l21 k22,v23=.slice a20 l21 k22∧StW m24 ⟨f,1049,none⟩ (.slice a20 l21 k22) fun m25=>CallM PP f_decompressor_finishBlock #[.pointer (some ⟨f,0,none⟩)] m25 fun v26 m27=>v26=.tuple #[]∧R (.tuple #[]) m27) (StW m9 ⟨f,1052,none⟩ (.int .i64 (bitsOp .or .i64 (IntKind.wrap .i64 x14) (shlOp .i64 (IntKind.wrap .i64 x15) 8))) fun m28=>CallM PP f_decompressor_copyData #[.pointer (some ⟨f,0,none⟩)] m28 fun v29 m30=>v29=.tuple #[]∧R (.tuple #[]) m30)))  ):
  CallM PP f_decompressor_dataBlock #[.pointer (some ⟨f,0,none⟩)] m R:=
 callM_enter ffOk mixedOk 98 L_decompressor_dataBlock Tryz.func43 b_decompressor_dataBlock Tryz.ntmps43 (by simp) (Eq.mpr (by kernel_rfl) h)
def L_inflate_fixedHuffman:List Nat:=[0,1,2,3,4,5,6,8,14,20,26]
def r_inflate_fixedHuffman:List ResultVar:=[.tmp 0]
noncomputable def c_inflate_fixedHuffman:Code:=(Go.Proofs.Tryz.f44.body).getD .skip
theorem b_inflate_fixedHuffman:Go.Proofs.Tryz.f44.body=some c_inflate_fixedHuffman:=by kernel_rfl
noncomputable def c_inflate_fixedHuffman_rrr:Code:=(rgt (rgt (rgt c_inflate_fixedHuffman)))
noncomputable def c_inflate_fixedHuffman_rrrr:Code:=(rgt c_inflate_fixedHuffman_rrr)
noncomputable def c_inflate_fixedHuffman_rrlrl:Code:=(lft (rgt (lft (rgt (rgt c_inflate_fixedHuffman)))))
noncomputable def c_inflate_fixedHuffman_rrrrr:Code:=(rgt c_inflate_fixedHuffman_rrrr)
noncomputable def c_inflate_fixedHuffman_rrlrll:Code:=(lft c_inflate_fixedHuffman_rrlrl)
noncomputable def c_inflate_fixedHuffman_rrrlrl:Code:=(lft (rgt (lft c_inflate_fixedHuffman_rrr)))
noncomputable def c_inflate_fixedHuffman_rrrrrr:Code:=(rgt c_inflate_fixedHuffman_rrrrr)
noncomputable def c_inflate_fixedHuffman_rrrlrll:Code:=(lft c_inflate_fixedHuffman_rrrlrl)
noncomputable def c_inflate_fixedHuffman_rrrrlrl:Code:=(lft (rgt (lft c_inflate_fixedHuffman_rrrr)))
noncomputable def c_inflate_fixedHuffman_rrrrlrll:Code:=(lft c_inflate_fixedHuffman_rrrrlrl)
noncomputable def c_inflate_fixedHuffman_rrrrrlrl:Code:=(lft (rgt (lft c_inflate_fixedHuffman_rrrrr)))
noncomputable def c_inflate_fixedHuffman_rrrrrlrll:Code:=(lft c_inflate_fixedHuffman_rrrrrlrl)
theorem q_inflate_fixedHuffman_rrlrl:c_inflate_fixedHuffman_rrlrl=.loop c_inflate_fixedHuffman_rrlrll:=by kernel_rfl
theorem q_inflate_fixedHuffman_rrrlrl:c_inflate_fixedHuffman_rrrlrl=.loop c_inflate_fixedHuffman_rrrlrll:=by kernel_rfl
theorem q_inflate_fixedHuffman_rrrrlrl:c_inflate_fixedHuffman_rrrrlrl=.loop c_inflate_fixedHuffman_rrrrlrll:=by kernel_rfl
theorem q_inflate_fixedHuffman_rrrrrlrl:c_inflate_fixedHuffman_rrrrrlrl=.loop c_inflate_fixedHuffman_rrrrrlrll:=by kernel_rfl
theorem e_inflate_fixedHuffman  (m:Mem) (R:Value→Mem→Prop)
  (h:AllocW PP t_288_int m fun n1 m2=>WPS PP 36 c_inflate_fixedHuffman_rrlrl (((retK PP r_inflate_fixedHuffman R).withN fun r m=>WPS PP 36 c_inflate_fixedHuffman_rrr (retK PP r_inflate_fixedHuffman R) r m).withX 0) [(0,.pointer none),(1,.pointer (some ⟨n1,0,none⟩)),(2,.int .i64 0)] m2  ):
  CallM PP f_inflate_fixedHuffman #[] m R:=
 callM_enter ffOk mixedOk 36 L_inflate_fixedHuffman Tryz.func44 b_inflate_fixedHuffman Tryz.ntmps44 (by simp) (Eq.mpr (by kernel_rfl) h)
def k_inflate_fixedHuffman_rrr:List Nat:=[1]
theorem p_inflate_fixedHuffman_rrr (n1:Nat) (m:Mem) (K:Kont)
  (h:WPS PP 36 c_inflate_fixedHuffman_rrrlrl ((K.withN fun r m=>WPS PP 36 c_inflate_fixedHuffman_rrrr K r m).withX 2) [(1,.pointer (some ⟨n1,0,none⟩)),(3,.int .i64 144)] m):
  wpc PP FF 36 L_inflate_fixedHuffman c_inflate_fixedHuffman_rrr K [(1,.pointer (some ⟨n1,0,none⟩))] m:=
 Eq.mpr (by kernel_rfl) h
theorem p_inflate_fixedHuffman_rrlrll (n1:Nat) (x2:Int) (m:Mem) (K:Kont)
  (h:ifB (decide (x2 < 144)) ((0≤x2∧x2 < ((288:Nat):Int))∧StW m ⟨n1,0+x2.toNat,none⟩ (.int .i64 8) fun m3=>K.kn [(1,.pointer (some ⟨n1,0,none⟩)),(2,.int .i64 (IntKind.wrap .i64 (x2+1)))] m3) (K.kx 0 [(1,.pointer (some ⟨n1,0,none⟩)),(2,.int .i64 x2)] m)):
  wpc PP FF 36 L_inflate_fixedHuffman c_inflate_fixedHuffman_rrlrll K [(1,.pointer (some ⟨n1,0,none⟩)),(2,.int .i64 x2)] m:=
 Eq.mpr (by kernel_rfl) h
theorem p_inflate_fixedHuffman_rrrlrll (n1:Nat) (x2:Int) (m:Mem) (K:Kont)
  (h:ifB (decide (x2 < 256)) ((0≤x2∧x2 < ((288:Nat):Int))∧StW m ⟨n1,0+x2.toNat,none⟩ (.int .i64 9) fun m3=>K.kn [(1,.pointer (some ⟨n1,0,none⟩)),(3,.int .i64 (IntKind.wrap .i64 (x2+1)))] m3) (K.kx 2 [(1,.pointer (some ⟨n1,0,none⟩)),(3,.int .i64 x2)] m)):
  wpc PP FF 36 L_inflate_fixedHuffman c_inflate_fixedHuffman_rrrlrll K [(1,.pointer (some ⟨n1,0,none⟩)),(3,.int .i64 x2)] m:=
 Eq.mpr (by kernel_rfl) h
theorem p_inflate_fixedHuffman_rrrrlrll (n1:Nat) (x2:Int) (m:Mem) (K:Kont)
  (h:ifB (decide (x2 < 280)) ((0≤x2∧x2 < ((288:Nat):Int))∧StW m ⟨n1,0+x2.toNat,none⟩ (.int .i64 7) fun m3=>K.kn [(1,.pointer (some ⟨n1,0,none⟩)),(4,.int .i64 (IntKind.wrap .i64 (x2+1)))] m3) (K.kx 4 [(1,.pointer (some ⟨n1,0,none⟩)),(4,.int .i64 x2)] m)):
  wpc PP FF 36 L_inflate_fixedHuffman c_inflate_fixedHuffman_rrrrlrll K [(1,.pointer (some ⟨n1,0,none⟩)),(4,.int .i64 x2)] m:=
 Eq.mpr (by kernel_rfl) h
theorem p_inflate_fixedHuffman_rrrrrlrll (n1:Nat) (x2:Int) (m:Mem) (K:Kont)
  (h:ifB (decide (x2 < 288)) ((0≤x2∧x2 < ((288:Nat):Int))∧StW m ⟨n1,0+x2.toNat,none⟩ (.int .i64 8) fun m3=>K.kn [(1,.pointer (some ⟨n1,0,none⟩)),(5,.int .i64 (IntKind.wrap .i64 (x2+1)))] m3) (K.kx 6 [(1,.pointer (some ⟨n1,0,none⟩)),(5,.int .i64 x2)] m)):
  wpc PP FF 36 L_inflate_fixedHuffman c_inflate_fixedHuffman_rrrrrlrll K [(1,.pointer (some ⟨n1,0,none⟩)),(5,.int .i64 x2)] m:=
 Eq.mpr (by kernel_rfl) h
def k_inflate_fixedHuffman_rrrr:List Nat:=[1]
theorem p_inflate_fixedHuffman_rrrr (n1:Nat) (m:Mem) (K:Kont)
  (h:WPS PP 36 c_inflate_fixedHuffman_rrrrlrl ((K.withN fun r m=>WPS PP 36 c_inflate_fixedHuffman_rrrrr K r m).withX 4) [(1,.pointer (some ⟨n1,0,none⟩)),(4,.int .i64 256)] m):
  wpc PP FF 36 L_inflate_fixedHuffman c_inflate_fixedHuffman_rrrr K [(1,.pointer (some ⟨n1,0,none⟩))] m:=
 Eq.mpr (by kernel_rfl) h
def k_inflate_fixedHuffman_rrrrr:List Nat:=[1]
theorem p_inflate_fixedHuffman_rrrrr (n1:Nat) (m:Mem) (K:Kont)
  (h:WPS PP 36 c_inflate_fixedHuffman_rrrrrlrl ((K.withN fun r m=>WPS PP 36 c_inflate_fixedHuffman_rrrrrr K r m).withX 6) [(1,.pointer (some ⟨n1,0,none⟩)),(5,.int .i64 280)] m):
  wpc PP FF 36 L_inflate_fixedHuffman c_inflate_fixedHuffman_rrrrr K [(1,.pointer (some ⟨n1,0,none⟩))] m:=
 Eq.mpr (by kernel_rfl) h
def k_inflate_fixedHuffman_rrrrrr:List Nat:=[1]
theorem p_inflate_fixedHuffman_rrrrrr (n1:Nat) (m:Mem) (K:Kont)
  (h:AllocW PP t_flate_huffmanDecoder m fun n2 m3=>CallM PP f_huffmanDecoder_init #[.pointer (some ⟨n2,0,none⟩),.slice (some ⟨n1,0,none⟩) 288 288] m3 fun v5 m6=>∃ b4,v5=.bool b4∧K.kr [(0,.pointer (some ⟨n2,0,none⟩)),(1,.pointer (some ⟨n1,0,none⟩)),(6,.pointer (some ⟨n2,0,none⟩))] m6):
  wpc PP FF 36 L_inflate_fixedHuffman c_inflate_fixedHuffman_rrrrrr K [(1,.pointer (some ⟨n1,0,none⟩))] m:=
 Eq.mpr (by kernel_rfl) h
def L_decompressor_huffmanBlock:List Nat:=[0,2,3,4,5,6,7,8,9,13,14,16,28,41,54,68,73,78,84,90,96,102,108,112,118,122,158,163,167,205,218,223,239,243,286,316,348]
def r_decompressor_huffmanBlock:List ResultVar:=[]
noncomputable def c_decompressor_huffmanBlock:Code:=(Go.Proofs.Tryz.f45.body).getD .skip
theorem b_decompressor_huffmanBlock:Go.Proofs.Tryz.f45.body=some c_decompressor_huffmanBlock:=by kernel_rfl
noncomputable def c_decompressor_huffmanBlock_l:Code:=(lft c_decompressor_huffmanBlock)
noncomputable def c_decompressor_huffmanBlock_lrr:Code:=(rgt (rgt c_decompressor_huffmanBlock_l))
noncomputable def c_decompressor_huffmanBlock_lrrr:Code:=(rgt c_decompressor_huffmanBlock_lrr)
noncomputable def c_decompressor_huffmanBlock_lrrrr:Code:=(rgt c_decompressor_huffmanBlock_lrrr)
noncomputable def c_decompressor_huffmanBlock_lrrrrrr:Code:=(rgt (rgt c_decompressor_huffmanBlock_lrrrr))
noncomputable def c_decompressor_huffmanBlock_lrrlrrrrr:Code:=(rgt (rgt (rgt (rgt (rgt (lft c_decompressor_huffmanBlock_lrr))))))
noncomputable def c_decompressor_huffmanBlock_lrrlrrrrrr:Code:=(rgt c_decompressor_huffmanBlock_lrrlrrrrr)
noncomputable def c_decompressor_huffmanBlock_lrrlrrrrrrrr:Code:=(rgt (rgt c_decompressor_huffmanBlock_lrrlrrrrrr))
noncomputable def c_decompressor_huffmanBlock_lrrlrrrrrlrlr:Code:=(rgt (lft (rgt (lft c_decompressor_huffmanBlock_lrrlrrrrr))))
noncomputable def c_decompressor_huffmanBlock_lrrlrrrrrrrrr:Code:=(rgt c_decompressor_huffmanBlock_lrrlrrrrrrrr)
noncomputable def c_decompressor_huffmanBlock_lrrlrrrrrlrlll:Code:=(lft (lft (lft (rgt (lft c_decompressor_huffmanBlock_lrrlrrrrr)))))
noncomputable def c_decompressor_huffmanBlock_lrrlrrrrrlrllll:Code:=(lft c_decompressor_huffmanBlock_lrrlrrrrrlrlll)
noncomputable def c_decompressor_huffmanBlock_lrrlrrrrrrrlrlr:Code:=(rgt (lft (rgt (lft (rgt c_decompressor_huffmanBlock_lrrlrrrrrr)))))
noncomputable def c_decompressor_huffmanBlock_lrrlrrrrrrrlrlll:Code:=(lft (lft (lft (rgt (lft (rgt c_decompressor_huffmanBlock_lrrlrrrrrr))))))
noncomputable def c_decompressor_huffmanBlock_lrrlrrrrrrrlrllll:Code:=(lft c_decompressor_huffmanBlock_lrrlrrrrrrrlrlll)
noncomputable def c_decompressor_huffmanBlock_lrrlrrrrrrrrllrrrlrrr:Code:=(rgt (rgt (rgt (lft (rgt (rgt (rgt (lft (lft c_decompressor_huffmanBlock_lrrlrrrrrrrr)))))))))
noncomputable def c_decompressor_huffmanBlock_lrrlrrrrrrrrllrrrlrrll:Code:=(lft (lft (rgt (rgt (lft (rgt (rgt (rgt (lft (lft c_decompressor_huffmanBlock_lrrlrrrrrrrr))))))))))
noncomputable def c_decompressor_huffmanBlock_lrrlrrrrrrrrllrrrlrrlll:Code:=(lft c_decompressor_huffmanBlock_lrrlrrrrrrrrllrrrlrrll)
theorem q_decompressor_huffmanBlock_:c_decompressor_huffmanBlock=.scope c_decompressor_huffmanBlock_l:=by kernel_rfl
theorem l_decompressor_huffmanBlock__0:findLabel c_decompressor_huffmanBlock_l 0=some (.seq .skip c_decompressor_huffmanBlock_lrr):=by kernel_rfl
theorem l_decompressor_huffmanBlock__1:findLabel c_decompressor_huffmanBlock_l 1=some (.seq .skip c_decompressor_huffmanBlock_lrrrr):=by kernel_rfl
theorem q_decompressor_huffmanBlock_lrrlrrrrrlrlll:c_decompressor_huffmanBlock_lrrlrrrrrlrlll=.loop c_decompressor_huffmanBlock_lrrlrrrrrlrllll:=by kernel_rfl
theorem q_decompressor_huffmanBlock_lrrlrrrrrrrlrlll:c_decompressor_huffmanBlock_lrrlrrrrrrrlrlll=.loop c_decompressor_huffmanBlock_lrrlrrrrrrrlrllll:=by kernel_rfl
theorem q_decompressor_huffmanBlock_lrrlrrrrrrrrllrrrlrrll:c_decompressor_huffmanBlock_lrrlrrrrrrrrllrrrlrrll=.loop c_decompressor_huffmanBlock_lrrlrrrrrrrrllrrrlrrlll:=by kernel_rfl
theorem e_decompressor_huffmanBlock (f:Nat) (m:Mem) (R:Value→Mem→Prop)
  (h:WPS PP 362 c_decompressor_huffmanBlock (retK PP r_decompressor_huffmanBlock R) [(0,.pointer (some ⟨f,0,none⟩))] m  ):
  CallM PP f_decompressor_huffmanBlock #[.pointer (some ⟨f,0,none⟩)] m R:=
 callM_enter ffOk mixedOk 362 L_decompressor_huffmanBlock Tryz.func45 b_decompressor_huffmanBlock Tryz.ntmps45 (by simp) (Eq.mpr (by kernel_rfl) h)
theorem p_decompressor_huffmanBlock_l (f:Nat) (m:Mem) (K:Kont)
  (h:∃ x1,cell? m ⟨f,1046,none⟩=some (.int .i64 x1)∧ifB (x1 == 0) (K.kg 0 [(0,.pointer (some ⟨f,0,none⟩)),(13,.int .i64 x1)] m) (ifB (x1 == 1) (K.kg 1 [(0,.pointer (some ⟨f,0,none⟩)),(13,.int .i64 x1)] m) (∃ p2,cell? m ⟨f,1050,none⟩=some (.pointer p2)∧CallM PP f_decompressor_huffSym #[.pointer (some ⟨f,0,none⟩),.pointer p2] m fun v5 m6=>∃ x3 v4,v5=.tuple #[.int .i64 x3,v4]∧isIfc v4=true∧ifB (!(isNil v4)) (StW m6 ⟨f,1048,none⟩ v4 fun m7=>K.kr [(0,.pointer (some ⟨f,0,none⟩)),(2,.int .i64 x3),(3,v4),(13,.int .i64 x1)] m7) (ifB (decide (x3 < 256)) (CallM PP f_dictDecoder_writeByte #[.pointer (some ⟨f,1037,none⟩),.int .u8 (IntKind.wrap .u8 x3)] m6 fun v8 m9=>v8=.tuple #[]∧CallM PP f_dictDecoder_availWrite #[.pointer (some ⟨f,1037,none⟩)] m9 fun v11 m12=>∃ x10,v11=.int .i64 x10∧ifB (x10 == 0) (CallM PP f_dictDecoder_readFlush #[.pointer (some ⟨f,1037,none⟩)] m12 fun v16 m17=>∃ a13 l14 k15,v16=.slice a13 l14 k15∧StW m17 ⟨f,1049,none⟩ (.slice a13 l14 k15) fun m18=>StW m18 ⟨f,1045,none⟩ (.func (.func f_decompressor_huffmanBlock) #[] #[]) fun m19=>StW m19 ⟨f,1046,none⟩ (.int .i64 0) fun m20=>K.kr [(0,.pointer (some ⟨f,0,none⟩)),(2,.int .i64 x3),(3,v4),(4,.int .u64 0),(5,.int .i64 0),(13,.int .i64 x1)] m20) (K.kg 0 [(0,.pointer (some ⟨f,0,none⟩)),(2,.int .i64 x3),(3,v4),(4,.int .u64 0),(5,.int .i64 0),(13,.int .i64 x1)] m12)) (ifB (x3 == 256) (CallM PP f_decompressor_finishBlock #[.pointer (some ⟨f,0,none⟩)] m6 fun v21 m22=>v21=.tuple #[]∧K.kr [(0,.pointer (some ⟨f,0,none⟩)),(2,.int .i64 x3),(3,v4),(4,.int .u64 0),(5,.int .i64 0),(13,.int .i64 x1)] m22) (ifB (decide (x3 < 265)) (WPS PP 362 c_decompressor_huffmanBlock_lrrlrrrrr (K.withN fun r m=>wpc PP FF 362 L_decompressor_huffmanBlock c_decompressor_huffmanBlock_lrrr K r m) [(0,.pointer (some ⟨f,0,none⟩)),(2,.int .i64 x3),(3,v4),(4,.int .u64 0),(5,.int .i64 (IntKind.wrap .i64 (x3 - 254))),(13,.int .i64 x1)] m6) (ifB (decide (x3 < 269)) (WPS PP 362 c_decompressor_huffmanBlock_lrrlrrrrr (K.withN fun r m=>wpc PP FF 362 L_decompressor_huffmanBlock c_decompressor_huffmanBlock_lrrr K r m) [(0,.pointer (some ⟨f,0,none⟩)),(2,.int .i64 x3),(3,v4),(4,.int .u64 1),(5,.int .i64 (IntKind.wrap .i64 ((IntKind.wrap .i64 (x3 * 2)) - 519))),(13,.int .i64 x1)] m6) (ifB (decide (x3 < 273)) (WPS PP 362 c_decompressor_huffmanBlock_lrrlrrrrr (K.withN fun r m=>wpc PP FF 362 L_decompressor_huffmanBlock c_decompressor_huffmanBlock_lrrr K r m) [(0,.pointer (some ⟨f,0,none⟩)),(2,.int .i64 x3),(3,v4),(4,.int .u64 2),(5,.int .i64 (IntKind.wrap .i64 ((IntKind.wrap .i64 (x3 * 4)) - 1057))),(13,.int .i64 x1)] m6) (ifB (decide (x3 < 277)) (WPS PP 362 c_decompressor_huffmanBlock_lrrlrrrrr (K.withN fun r m=>wpc PP FF 362 L_decompressor_huffmanBlock c_decompressor_huffmanBlock_lrrr K r m) [(0,.pointer (some ⟨f,0,none⟩)),(2,.int .i64 x3),(3,v4),(4,.int .u64 3),(5,.int .i64 (IntKind.wrap .i64 ((IntKind.wrap .i64 (x3 * 8)) - 2149))),(13,.int .i64 x1)] m6) (ifB (decide (x3 < 281)) (WPS PP 362 c_decompressor_huffmanBlock_lrrlrrrrr (K.withN fun r m=>wpc PP FF 362 L_decompressor_huffmanBlock c_decompressor_huffmanBlock_lrrr K r m) [(0,.pointer (some ⟨f,0,none⟩)),(2,.int .i64 x3),(3,v4),(4,.int .u64 4),(5,.int .i64 (IntKind.wrap .i64 ((IntKind.wrap .i64 (x3 * 16)) - 4365))),(13,.int .i64 x1)] m6) (ifB (decide (x3 < 285)) (WPS PP 362 c_decompressor_huffmanBlock_lrrlrrrrr (K.withN fun r m=>wpc PP FF 362 L_decompressor_huffmanBlock c_decompressor_huffmanBlock_lrrr K r m) [(0,.pointer (some ⟨f,0,none⟩)),(2,.int .i64 x3),(3,v4),(4,.int .u64 5),(5,.int .i64 (IntKind.wrap .i64 ((IntKind.wrap .i64 (x3 * 32)) - 8861))),(13,.int .i64 x1)] m6) (ifB (decide (x3 < 286)) (WPS PP 362 c_decompressor_huffmanBlock_lrrlrrrrr (K.withN fun r m=>wpc PP FF 362 L_decompressor_huffmanBlock c_decompressor_huffmanBlock_lrrr K r m) [(0,.pointer (some ⟨f,0,none⟩)),(2,.int .i64 x3),(3,v4),(4,.int .u64 0),(5,.int .i64 258),(13,.int .i64 x1)] m6) (∃ x23,cell? m6 ⟨f,2,none⟩=some (.int .i64 x23)∧StW m6 ⟨f,1048,none⟩ (.iface t_flate_CorruptInputError (.int .i64 x23)) fun m24=>K.kr [(0,.pointer (some ⟨f,0,none⟩)),(2,.int .i64 x3),(3,v4),(4,.int .u64 0),(5,.int .i64 0),(13,.int .i64 x1)] m24))))))))))))  ):
  wpc PP FF 362 L_decompressor_huffmanBlock c_decompressor_huffmanBlock_l K [(0,.pointer (some ⟨f,0,none⟩))] m:=
 Eq.mpr (by kernel_rfl) h
theorem p_decompressor_huffmanBlock_lrr (f:Nat) (m:Mem) (K:Kont)
  (h:∃ p1,cell? m ⟨f,1050,none⟩=some (.pointer p1)∧CallM PP f_decompressor_huffSym #[.pointer (some ⟨f,0,none⟩),.pointer p1] m fun v4 m5=>∃ x2 v3,v4=.tuple #[.int .i64 x2,v3]∧isIfc v3=true∧ifB (!(isNil v3)) (StW m5 ⟨f,1048,none⟩ v3 fun m6=>K.kr [(0,.pointer (some ⟨f,0,none⟩)),(2,.int .i64 x2),(3,v3)] m6) (ifB (decide (x2 < 256)) (CallM PP f_dictDecoder_writeByte #[.pointer (some ⟨f,1037,none⟩),.int .u8 (IntKind.wrap .u8 x2)] m5 fun v7 m8=>v7=.tuple #[]∧CallM PP f_dictDecoder_availWrite #[.pointer (some ⟨f,1037,none⟩)] m8 fun v10 m11=>∃ x9,v10=.int .i64 x9∧ifB (x9 == 0) (CallM PP f_dictDecoder_readFlush #[.pointer (some ⟨f,1037,none⟩)] m11 fun v15 m16=>∃ a12 l13 k14,v15=.slice a12 l13 k14∧StW m16 ⟨f,1049,none⟩ (.slice a12 l13 k14) fun m17=>StW m17 ⟨f,1045,none⟩ (.func (.func f_decompressor_huffmanBlock) #[] #[]) fun m18=>StW m18 ⟨f,1046,none⟩ (.int .i64 0) fun m19=>K.kr [(0,.pointer (some ⟨f,0,none⟩)),(2,.int .i64 x2),(3,v3),(4,.int .u64 0),(5,.int .i64 0)] m19) (K.kg 0 [(0,.pointer (some ⟨f,0,none⟩)),(2,.int .i64 x2),(3,v3),(4,.int .u64 0),(5,.int .i64 0)] m11)) (ifB (x2 == 256) (CallM PP f_decompressor_finishBlock #[.pointer (some ⟨f,0,none⟩)] m5 fun v20 m21=>v20=.tuple #[]∧K.kr [(0,.pointer (some ⟨f,0,none⟩)),(2,.int .i64 x2),(3,v3),(4,.int .u64 0),(5,.int .i64 0)] m21) (ifB (decide (x2 < 265)) (WPS PP 362 c_decompressor_huffmanBlock_lrrlrrrrr (K.withN fun r m=>wpc PP FF 362 L_decompressor_huffmanBlock c_decompressor_huffmanBlock_lrrr K r m) [(0,.pointer (some ⟨f,0,none⟩)),(2,.int .i64 x2),(3,v3),(4,.int .u64 0),(5,.int .i64 (IntKind.wrap .i64 (x2 - 254)))] m5) (ifB (decide (x2 < 269)) (WPS PP 362 c_decompressor_huffmanBlock_lrrlrrrrr (K.withN fun r m=>wpc PP FF 362 L_decompressor_huffmanBlock c_decompressor_huffmanBlock_lrrr K r m) [(0,.pointer (some ⟨f,0,none⟩)),(2,.int .i64 x2),(3,v3),(4,.int .u64 1),(5,.int .i64 (IntKind.wrap .i64 ((IntKind.wrap .i64 (x2 * 2)) - 519)))] m5) (ifB (decide (x2 < 273)) (WPS PP 362 c_decompressor_huffmanBlock_lrrlrrrrr (K.withN fun r m=>wpc PP FF 362 L_decompressor_huffmanBlock c_decompressor_huffmanBlock_lrrr K r m) [(0,.pointer (some ⟨f,0,none⟩)),(2,.int .i64 x2),(3,v3),(4,.int .u64 2),(5,.int .i64 (IntKind.wrap .i64 ((IntKind.wrap .i64 (x2 * 4)) - 1057)))] m5) (ifB (decide (x2 < 277)) (WPS PP 362 c_decompressor_huffmanBlock_lrrlrrrrr (K.withN fun r m=>wpc PP FF 362 L_decompressor_huffmanBlock c_decompressor_huffmanBlock_lrrr K r m) [(0,.pointer (some ⟨f,0,none⟩)),(2,.int .i64 x2),(3,v3),(4,.int .u64 3),(5,.int .i64 (IntKind.wrap .i64 ((IntKind.wrap .i64 (x2 * 8)) - 2149)))] m5) (ifB (decide (x2 < 281)) (WPS PP 362 c_decompressor_huffmanBlock_lrrlrrrrr (K.withN fun r m=>wpc PP FF 362 L_decompressor_huffmanBlock c_decompressor_huffmanBlock_lrrr K r m) [(0,.pointer (some ⟨f,0,none⟩)),(2,.int .i64 x2),(3,v3),(4,.int .u64 4),(5,.int .i64 (IntKind.wrap .i64 ((IntKind.wrap .i64 (x2 * 16)) - 4365)))] m5) (ifB (decide (x2 < 285)) (WPS PP 362 c_decompressor_huffmanBlock_lrrlrrrrr (K.withN fun r m=>wpc PP FF 362 L_decompressor_huffmanBlock c_decompressor_huffmanBlock_lrrr K r m) [(0,.pointer (some ⟨f,0,none⟩)),(2,.int .i64 x2),(3,v3),(4,.int .u64 5),(5,.int .i64 (IntKind.wrap .i64 ((IntKind.wrap .i64 (x2 * 32)) - 8861)))] m5) (ifB (decide (x2 < 286)) (WPS PP 362 c_decompressor_huffmanBlock_lrrlrrrrr (K.withN fun r m=>wpc PP FF 362 L_decompressor_huffmanBlock c_decompressor_huffmanBlock_lrrr K r m) [(0,.pointer (some ⟨f,0,none⟩)),(2,.int .i64 x2),(3,v3),(4,.int .u64 0),(5,.int .i64 258)] m5) (∃ x22,cell? m5 ⟨f,2,none⟩=some (.int .i64 x22)∧StW m5 ⟨f,1048,none⟩ (.iface t_flate_CorruptInputError (.int .i64 x22)) fun m23=>K.kr [(0,.pointer (some ⟨f,0,none⟩)),(2,.int .i64 x2),(3,v3),(4,.int .u64 0),(5,.int .i64 0)] m23))))))))))  ):
  wpc PP FF 362 L_decompressor_huffmanBlock c_decompressor_huffmanBlock_lrr K [(0,.pointer (some ⟨f,0,none⟩))] m:=
 Eq.mpr (by kernel_rfl) h
theorem p_decompressor_huffmanBlock_lrrrr (f:Nat) (m:Mem) (K:Kont)
  (h:∃ x1,cell? m ⟨f,1053,none⟩=some (.int .i64 x1)∧∃ x2,cell? m ⟨f,1052,none⟩=some (.int .i64 x2)∧CallM PP f_dictDecoder_tryWriteCopy #[.pointer (some ⟨f,1037,none⟩),.int .i64 x1,.int .i64 x2] m fun v4 m5=>∃ x3,v4=.int .i64 x3∧ifB (x3 == 0) (∃ x6,cell? m5 ⟨f,1053,none⟩=some (.int .i64 x6)∧∃ x7,cell? m5 ⟨f,1052,none⟩=some (.int .i64 x7)∧CallM PP f_dictDecoder_writeCopy #[.pointer (some ⟨f,1037,none⟩),.int .i64 x6,.int .i64 x7] m5 fun v9 m10=>∃ x8,v9=.int .i64 x8∧WPS PP 362 c_decompressor_huffmanBlock_lrrrrrr K [(0,.pointer (some ⟨f,0,none⟩)),(9,.int .i64 x8)] m10) (WPS PP 362 c_decompressor_huffmanBlock_lrrrrrr K [(0,.pointer (some ⟨f,0,none⟩)),(9,.int .i64 x3)] m5)  ):
  wpc PP FF 362 L_decompressor_huffmanBlock c_decompressor_huffmanBlock_lrrrr K [(0,.pointer (some ⟨f,0,none⟩))] m:=
 Eq.mpr (by kernel_rfl) h
theorem p_decompressor_huffmanBlock_lrrlrrrrrlrllll (f:Nat) (x1:Int) (x2:Int) (m:Mem) (K:Kont)
  (h:∃ x3,cell? m ⟨f,4,none⟩=some (.int .u64 x3)∧ifB (decide (x3 < x1)) (CallM PP f_decompressor_moreBits #[.pointer (some ⟨f,0,none⟩)] m fun v5 m6=>∃ v4,v5=v4∧isIfc v4=true∧ifB (!(isNil v4)) (StW m6 ⟨f,1048,none⟩ v4 fun m7=>K.kr [(0,.pointer (some ⟨f,0,none⟩)),(3,v4),(4,.int .u64 x1),(5,.int .i64 x2)] m7) (K.kn [(0,.pointer (some ⟨f,0,none⟩)),(3,v4),(4,.int .u64 x1),(5,.int .i64 x2)] m6)) (K.kx 2 [(0,.pointer (some ⟨f,0,none⟩)),(4,.int .u64 x1),(5,.int .i64 x2)] m)):
  wpc PP FF 362 L_decompressor_huffmanBlock c_decompressor_huffmanBlock_lrrlrrrrrlrllll K [(0,.pointer (some ⟨f,0,none⟩)),(4,.int .u64 x1),(5,.int .i64 x2)] m:=
 Eq.mpr (by kernel_rfl) h
theorem p_decompressor_huffmanBlock_lrrlrrrrrrrlrllll (f:Nat) (x1:Int) (m:Mem) (K:Kont)
  (h:∃ x2,cell? m ⟨f,4,none⟩=some (.int .u64 x2)∧ifB (decide (x2 < 5)) (CallM PP f_decompressor_moreBits #[.pointer (some ⟨f,0,none⟩)] m fun v4 m5=>∃ v3,v4=v3∧isIfc v3=true∧ifB (!(isNil v3)) (StW m5 ⟨f,1048,none⟩ v3 fun m6=>K.kr [(0,.pointer (some ⟨f,0,none⟩)),(3,v3),(5,.int .i64 x1)] m6) (K.kn [(0,.pointer (some ⟨f,0,none⟩)),(3,v3),(5,.int .i64 x1)] m5)) (K.kx 4 [(0,.pointer (some ⟨f,0,none⟩)),(5,.int .i64 x1)] m)):
  wpc PP FF 362 L_decompressor_huffmanBlock c_decompressor_huffmanBlock_lrrlrrrrrrrlrllll K [(0,.pointer (some ⟨f,0,none⟩)),(5,.int .i64 x1)] m:=
 Eq.mpr (by kernel_rfl) h
theorem p_decompressor_huffmanBlock_lrrlrrrrrrrrllrrrlrrlll (f:Nat) (x1:Int) (x2:Int) (x3:Int) (m:Mem) (K:Kont)
  (h:∃ x4,cell? m ⟨f,4,none⟩=some (.int .u64 x4)∧ifB (decide (x4 < x2)) (CallM PP f_decompressor_moreBits #[.pointer (some ⟨f,0,none⟩)] m fun v6 m7=>∃ v5,v6=v5∧isIfc v5=true∧ifB (!(isNil v5)) (StW m7 ⟨f,1048,none⟩ v5 fun m8=>K.kr [(0,.pointer (some ⟨f,0,none⟩)),(3,v5),(5,.int .i64 x1),(7,.int .u64 x2),(8,.int .i64 x3)] m8) (K.kn [(0,.pointer (some ⟨f,0,none⟩)),(3,v5),(5,.int .i64 x1),(7,.int .u64 x2),(8,.int .i64 x3)] m7)) (K.kx 7 [(0,.pointer (some ⟨f,0,none⟩)),(5,.int .i64 x1),(7,.int .u64 x2),(8,.int .i64 x3)] m)):
  wpc PP FF 362 L_decompressor_huffmanBlock c_decompressor_huffmanBlock_lrrlrrrrrrrrllrrrlrrlll K [(0,.pointer (some ⟨f,0,none⟩)),(5,.int .i64 x1),(7,.int .u64 x2),(8,.int .i64 x3)] m:=
 Eq.mpr (by kernel_rfl) h
theorem p_decompressor_huffmanBlock_lrrr (f:Nat) (m:Mem) (K:Kont)
  (h:∃ x1,cell? m ⟨f,1053,none⟩=some (.int .i64 x1)∧∃ x2,cell? m ⟨f,1052,none⟩=some (.int .i64 x2)∧CallM PP f_dictDecoder_tryWriteCopy #[.pointer (some ⟨f,1037,none⟩),.int .i64 x1,.int .i64 x2] m fun v4 m5=>∃ x3,v4=.int .i64 x3∧ifB (x3 == 0) (∃ x6,cell? m5 ⟨f,1053,none⟩=some (.int .i64 x6)∧∃ x7,cell? m5 ⟨f,1052,none⟩=some (.int .i64 x7)∧CallM PP f_dictDecoder_writeCopy #[.pointer (some ⟨f,1037,none⟩),.int .i64 x6,.int .i64 x7] m5 fun v9 m10=>∃ x8,v9=.int .i64 x8∧WPS PP 362 c_decompressor_huffmanBlock_lrrrrrr K [(0,.pointer (some ⟨f,0,none⟩)),(9,.int .i64 x8)] m10) (WPS PP 362 c_decompressor_huffmanBlock_lrrrrrr K [(0,.pointer (some ⟨f,0,none⟩)),(9,.int .i64 x3)] m5)  ):
  wpc PP FF 362 L_decompressor_huffmanBlock c_decompressor_huffmanBlock_lrrr K [(0,.pointer (some ⟨f,0,none⟩))] m:=
 Eq.mpr (by kernel_rfl) h
def k_decompressor_huffmanBlock_lrrrrrr:List Nat:=[0,9]
theorem p_decompressor_huffmanBlock_lrrrrrr (f:Nat) (x1:Int) (m:Mem) (K:Kont)
  (h:∃ x2,cell? m ⟨f,1052,none⟩=some (.int .i64 x2)∧StW m ⟨f,1052,none⟩ (.int .i64 (IntKind.wrap .i64 (x2 - x1))) fun m3=>CallM PP f_dictDecoder_availWrite #[.pointer (some ⟨f,1037,none⟩)] m3 fun v5 m6=>∃ x4,v5=.int .i64 x4∧ifB (x4 == 0) (CallM PP f_dictDecoder_readFlush #[.pointer (some ⟨f,1037,none⟩)] m6 fun v10 m11=>∃ a7 l8 k9,v10=.slice a7 l8 k9∧StW m11 ⟨f,1049,none⟩ (.slice a7 l8 k9) fun m12=>StW m12 ⟨f,1045,none⟩ (.func (.func f_decompressor_huffmanBlock) #[] #[]) fun m13=>StW m13 ⟨f,1046,none⟩ (.int .i64 1) fun m14=>K.kr [(0,.pointer (some ⟨f,0,none⟩)),(9,.int .i64 x1)] m14) (∃ x15,cell? m6 ⟨f,1052,none⟩=some (.int .i64 x15)∧ifB (decide (x15 > 0)) (CallM PP f_dictDecoder_readFlush #[.pointer (some ⟨f,1037,none⟩)] m6 fun v19 m20=>∃ a16 l17 k18,v19=.slice a16 l17 k18∧StW m20 ⟨f,1049,none⟩ (.slice a16 l17 k18) fun m21=>StW m21 ⟨f,1045,none⟩ (.func (.func f_decompressor_huffmanBlock) #[] #[]) fun m22=>StW m22 ⟨f,1046,none⟩ (.int .i64 1) fun m23=>K.kr [(0,.pointer (some ⟨f,0,none⟩)),(9,.int .i64 x1)] m23) (K.kg 0 [(0,.pointer (some ⟨f,0,none⟩)),(9,.int .i64 x1)] m6))):
  wpc PP FF 362 L_decompressor_huffmanBlock c_decompressor_huffmanBlock_lrrrrrr K [(0,.pointer (some ⟨f,0,none⟩)),(9,.int .i64 x1)] m:=
 Eq.mpr (by kernel_rfl) h
def k_decompressor_huffmanBlock_lrrlrrrrr:List Nat:=[0,4,5]
theorem p_decompressor_huffmanBlock_lrrlrrrrr (f:Nat) (x1:Int) (x2:Int) (m:Mem) (K:Kont)
  (h:ifB (decide (x1 > 0)) (WPS PP 362 c_decompressor_huffmanBlock_lrrlrrrrrlrlll (((K.withN fun r m=>WPS PP 362 c_decompressor_huffmanBlock_lrrlrrrrrr K r m).withN fun r m=>WPS PP 362 c_decompressor_huffmanBlock_lrrlrrrrrlrlr (K.withN fun r m=>WPS PP 362 c_decompressor_huffmanBlock_lrrlrrrrrr K r m) r m).withX 2) [(0,.pointer (some ⟨f,0,none⟩)),(4,.int .u64 x1),(5,.int .i64 x2)] m) (WPS PP 362 c_decompressor_huffmanBlock_lrrlrrrrrr K [(0,.pointer (some ⟨f,0,none⟩)),(4,.int .u64 x1),(5,.int .i64 x2)] m)):
  wpc PP FF 362 L_decompressor_huffmanBlock c_decompressor_huffmanBlock_lrrlrrrrr K [(0,.pointer (some ⟨f,0,none⟩)),(4,.int .u64 x1),(5,.int .i64 x2)] m:=
 Eq.mpr (by kernel_rfl) h
def k_decompressor_huffmanBlock_lrrlrrrrrr:List Nat:=[0,5]
theorem p_decompressor_huffmanBlock_lrrlrrrrrr (f:Nat) (x1:Int) (m:Mem) (K:Kont)
  (h:∃ p2,cell? m ⟨f,1051,none⟩=some (.pointer p2)∧ifB p2.isNone (WPS PP 362 c_decompressor_huffmanBlock_lrrlrrrrrrrlrlll (((K.withN fun r m=>WPS PP 362 c_decompressor_huffmanBlock_lrrlrrrrrrrr K r m).withN fun r m=>WPS PP 362 c_decompressor_huffmanBlock_lrrlrrrrrrrlrlr (K.withN fun r m=>WPS PP 362 c_decompressor_huffmanBlock_lrrlrrrrrrrr K r m) r m).withX 4) [(0,.pointer (some ⟨f,0,none⟩)),(5,.int .i64 x1),(6,.int .i64 0)] m) (∃ p3,cell? m ⟨f,1051,none⟩=some (.pointer p3)∧CallM PP f_decompressor_huffSym #[.pointer (some ⟨f,0,none⟩),.pointer p3] m fun v6 m7=>∃ x4 v5,v6=.tuple #[.int .i64 x4,v5]∧isIfc v5=true∧ifB (!(isNil v5)) (StW m7 ⟨f,1048,none⟩ v5 fun m8=>K.kr [(0,.pointer (some ⟨f,0,none⟩)),(3,v5),(5,.int .i64 x1),(6,.int .i64 x4)] m8) (WPS PP 362 c_decompressor_huffmanBlock_lrrlrrrrrrrr K [(0,.pointer (some ⟨f,0,none⟩)),(3,v5),(5,.int .i64 x1),(6,.int .i64 x4)] m7))):
  wpc PP FF 362 L_decompressor_huffmanBlock c_decompressor_huffmanBlock_lrrlrrrrrr K [(0,.pointer (some ⟨f,0,none⟩)),(5,.int .i64 x1)] m:=
 Eq.mpr (by kernel_rfl) h
def k_decompressor_huffmanBlock_lrrlrrrrrlrlr:List Nat:=[0,4,5]
theorem p_decompressor_huffmanBlock_lrrlrrrrrlrlr (f:Nat) (x1:Int) (x2:Int) (m:Mem) (K:Kont)
  (h:∃ x3,cell? m ⟨f,3,none⟩=some (.int .u32 x3)∧0≤x1∧IntKind.u32=IntKind.u32∧∃ x4,cell? m ⟨f,3,none⟩=some (.int .u32 x4)∧0≤x1∧StW m ⟨f,3,none⟩ (.int .u32 (shrOp .u32 x4 x1)) fun m5=>∃ x6,cell? m5 ⟨f,4,none⟩=some (.int .u64 x6)∧StW m5 ⟨f,4,none⟩ (.int .u64 (IntKind.wrap .u64 (x6 - x1))) fun m7=>K.kn [(0,.pointer (some ⟨f,0,none⟩)),(4,.int .u64 x1),(5,.int .i64 (IntKind.wrap .i64 (x2+(IntKind.wrap .i64 (bitsOp .and .u32 x3 (IntKind.wrap .u32 ((shlOp .u32 1 x1) - 1)))))))] m7):
  wpc PP FF 362 L_decompressor_huffmanBlock c_decompressor_huffmanBlock_lrrlrrrrrlrlr K [(0,.pointer (some ⟨f,0,none⟩)),(4,.int .u64 x1),(5,.int .i64 x2)] m:=
 Eq.mpr (by kernel_rfl) h
def k_decompressor_huffmanBlock_lrrlrrrrrrrr:List Nat:=[0,5,6]
theorem p_decompressor_huffmanBlock_lrrlrrrrrrrr (f:Nat) (x1:Int) (x2:Int) (m:Mem) (K:Kont)
  (h:ifB (decide (x2 < 4)) (WPS PP 362 c_decompressor_huffmanBlock_lrrlrrrrrrrrr K [(0,.pointer (some ⟨f,0,none⟩)),(5,.int .i64 x1),(6,.int .i64 (IntKind.wrap .i64 (x2+1)))] m) (ifB (decide (x2 < 30)) (0≤(1:Int)∧IntKind.i64=IntKind.i64∧0≤(shrOp .u64 (IntKind.wrap .u64 (IntKind.wrap .i64 (x2 - 2))) 1)∧WPS PP 362 c_decompressor_huffmanBlock_lrrlrrrrrrrrllrrrlrrll ((((K.withN fun r m=>WPS PP 362 c_decompressor_huffmanBlock_lrrlrrrrrrrrr K r m).withX 6).withN fun r m=>WPS PP 362 c_decompressor_huffmanBlock_lrrlrrrrrrrrllrrrlrrr ((K.withN fun r m=>WPS PP 362 c_decompressor_huffmanBlock_lrrlrrrrrrrrr K r m).withX 6) r m).withX 7) [(0,.pointer (some ⟨f,0,none⟩)),(5,.int .i64 x1),(6,.int .i64 x2),(7,.int .u64 (shrOp .u64 (IntKind.wrap .u64 (IntKind.wrap .i64 (x2 - 2))) 1)),(8,.int .i64 (shlOp .i64 (bitsOp .and .i64 x2 1) (shrOp .u64 (IntKind.wrap .u64 (IntKind.wrap .i64 (x2 - 2))) 1)))] m) (∃ x3,cell? m ⟨f,2,none⟩=some (.int .i64 x3)∧StW m ⟨f,1048,none⟩ (.iface t_flate_CorruptInputError (.int .i64 x3)) fun m4=>K.kr [(0,.pointer (some ⟨f,0,none⟩)),(5,.int .i64 x1),(6,.int .i64 x2)] m4))):
  wpc PP FF 362 L_decompressor_huffmanBlock c_decompressor_huffmanBlock_lrrlrrrrrrrr K [(0,.pointer (some ⟨f,0,none⟩)),(5,.int .i64 x1),(6,.int .i64 x2)] m:=
 Eq.mpr (by kernel_rfl) h
def k_decompressor_huffmanBlock_lrrlrrrrrrrlrlr:List Nat:=[0,5]
theorem p_decompressor_huffmanBlock_lrrlrrrrrrrlrlr (f:Nat) (x1:Int) (m:Mem) (K:Kont)
  (h:∃ x2,cell? m ⟨f,3,none⟩=some (.int .u32 x2)∧IntKind.u32=IntKind.u32∧0≤(3:Int)∧CallM PP f_bits_Reverse8 #[.int .u8 (IntKind.wrap .u8 (shlOp .u32 (bitsOp .and .u32 x2 31) 3))] m fun v4 m5=>∃ x3,v4=.int .u8 x3∧∃ x6,cell? m5 ⟨f,3,none⟩=some (.int .u32 x6)∧0≤(5:Int)∧StW m5 ⟨f,3,none⟩ (.int .u32 (shrOp .u32 x6 5)) fun m7=>∃ x8,cell? m7 ⟨f,4,none⟩=some (.int .u64 x8)∧StW m7 ⟨f,4,none⟩ (.int .u64 (IntKind.wrap .u64 (x8 - 5))) fun m9=>K.kn [(0,.pointer (some ⟨f,0,none⟩)),(5,.int .i64 x1),(6,.int .i64 (IntKind.wrap .i64 x3))] m9):
  wpc PP FF 362 L_decompressor_huffmanBlock c_decompressor_huffmanBlock_lrrlrrrrrrrlrlr K [(0,.pointer (some ⟨f,0,none⟩)),(5,.int .i64 x1)] m:=
 Eq.mpr (by kernel_rfl) h
def k_decompressor_huffmanBlock_lrrlrrrrrrrrr:List Nat:=[0,5,6]
theorem p_decompressor_huffmanBlock_lrrlrrrrrrrrr (f:Nat) (x1:Int) (x2:Int) (m:Mem) (K:Kont)
  (h:CallM PP f_dictDecoder_histSize #[.pointer (some ⟨f,1037,none⟩)] m fun v4 m5=>∃ x3,v4=.int .i64 x3∧ifB (decide (x2 > x3)) (∃ x6,cell? m5 ⟨f,2,none⟩=some (.int .i64 x6)∧StW m5 ⟨f,1048,none⟩ (.iface t_flate_CorruptInputError (.int .i64 x6)) fun m7=>K.kr [(0,.pointer (some ⟨f,0,none⟩)),(5,.int .i64 x1),(6,.int .i64 x2)] m7) (StW m5 ⟨f,1052,none⟩ (.int .i64 x1) fun m8=>StW m8 ⟨f,1053,none⟩ (.int .i64 x2) fun m9=>K.kg 1 [(0,.pointer (some ⟨f,0,none⟩)),(5,.int .i64 x1),(6,.int .i64 x2)] m9)):
  wpc PP FF 362 L_decompressor_huffmanBlock c_decompressor_huffmanBlock_lrrlrrrrrrrrr K [(0,.pointer (some ⟨f,0,none⟩)),(5,.int .i64 x1),(6,.int .i64 x2)] m:=
 Eq.mpr (by kernel_rfl) h
def k_decompressor_huffmanBlock_lrrlrrrrrrrrllrrrlrrr:List Nat:=[0,5,7,8]
theorem p_decompressor_huffmanBlock_lrrlrrrrrrrrllrrrlrrr (f:Nat) (x1:Int) (x2:Int) (x3:Int) (m:Mem) (K:Kont)
  (h:∃ x4,cell? m ⟨f,3,none⟩=some (.int .u32 x4)∧0≤x2∧IntKind.u32=IntKind.u32∧IntKind.i64=IntKind.i64∧∃ x5,cell? m ⟨f,3,none⟩=some (.int .u32 x5)∧0≤x2∧StW m ⟨f,3,none⟩ (.int .u32 (shrOp .u32 x5 x2)) fun m6=>∃ x7,cell? m6 ⟨f,4,none⟩=some (.int .u64 x7)∧StW m6 ⟨f,4,none⟩ (.int .u64 (IntKind.wrap .u64 (x7 - x2))) fun m8=>0≤(IntKind.wrap .u64 (x2+1))∧K.kn [(0,.pointer (some ⟨f,0,none⟩)),(5,.int .i64 x1),(6,.int .i64 (IntKind.wrap .i64 ((IntKind.wrap .i64 ((shlOp .i64 1 (IntKind.wrap .u64 (x2+1)))+1))+(bitsOp .or .i64 x3 (IntKind.wrap .i64 (bitsOp .and .u32 x4 (IntKind.wrap .u32 ((shlOp .u32 1 x2) - 1)))))))),(7,.int .u64 x2),(8,.int .i64 (bitsOp .or .i64 x3 (IntKind.wrap .i64 (bitsOp .and .u32 x4 (IntKind.wrap .u32 ((shlOp .u32 1 x2) - 1))))))] m8):
  wpc PP FF 362 L_decompressor_huffmanBlock c_decompressor_huffmanBlock_lrrlrrrrrrrrllrrrlrrr K [(0,.pointer (some ⟨f,0,none⟩)),(5,.int .i64 x1),(7,.int .u64 x2),(8,.int .i64 x3)] m:=
 Eq.mpr (by kernel_rfl) h
end Go.M
