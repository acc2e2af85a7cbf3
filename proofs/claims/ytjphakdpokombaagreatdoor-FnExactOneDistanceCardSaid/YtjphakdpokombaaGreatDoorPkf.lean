/- What pieces of the code come to. -/
import Derived.Test.YtjphakdpokombaaGreatDoorPke
set_option maxRecDepth 100000
namespace Go.M
open Go Go.Proofs
def L_spec_LiteralsOf:List Nat:=[0,2,3,4,5,6,7,9,16,17,18,19,30]
def r_spec_LiteralsOf:List ResultVar:=[.tmp 2,.tmp 3]
noncomputable def c_spec_LiteralsOf:Code:=(Go.Proofs.Tryz.f5.body).getD .skip
theorem b_spec_LiteralsOf:Go.Proofs.Tryz.f5.body=some c_spec_LiteralsOf:=by kernel_rfl
noncomputable def c_spec_LiteralsOf_rrrrrr:Code:=(rgt (rgt (rgt (rgt (rgt (rgt c_spec_LiteralsOf))))))
noncomputable def c_spec_LiteralsOf_rrrrrrr:Code:=(rgt c_spec_LiteralsOf_rrrrrr)
noncomputable def c_spec_LiteralsOf_rrrrrlrl:Code:=(lft (rgt (lft (rgt (rgt (rgt (rgt (rgt c_spec_LiteralsOf))))))))
noncomputable def c_spec_LiteralsOf_rrrrrlrll:Code:=(lft c_spec_LiteralsOf_rrrrrlrl)
theorem q_spec_LiteralsOf_rrrrrlrl:c_spec_LiteralsOf_rrrrrlrl=.loop c_spec_LiteralsOf_rrrrrlrll:=by kernel_rfl
theorem e_spec_LiteralsOf (a1:Option Addr) (l2:Nat) (k3:Nat) (m:Mem) (R:Value→Mem→Prop)
  (h:CallM PP f_spec_newReader #[.slice a1 l2 k3] m fun v5 m6=>∃ p4,v5=.pointer p4∧CallM PP f_reader_data #[.pointer p4,.int .i64 200] m6 fun v10 m11=>∃ a7 l8 k9,v10=.slice a7 l8 k9∧BoxW t_spec_Writer (.agg #[.slice none 0 0,.int .i64 0]) m11 fun n12 m13=>WPS PP 43 c_spec_LiteralsOf_rrrrrlrl (((retK PP r_spec_LiteralsOf R).withN fun r m=>WPS PP 43 c_spec_LiteralsOf_rrrrrr (retK PP r_spec_LiteralsOf R) r m).withX 0) [(0,.slice a1 l2 k3),(2,.slice none 0 0),(3,.slice none 0 0),(4,.pointer p4),(5,.slice a7 l8 k9),(6,.pointer (some ⟨n12,0,none⟩)),(7,.slice none 0 0),(16,.slice a7 l8 k9),(17,.int .i64 (l8:Int)),(18,.int .i64 0)] m13):
  CallM PP f_spec_LiteralsOf #[.slice a1 l2 k3] m R:=
 callM_enter ffOk mixedOk 43 L_spec_LiteralsOf Tryz.func5 b_spec_LiteralsOf Tryz.ntmps5 (by simp) (Eq.mpr (by kernel_rfl) h)
theorem p_spec_LiteralsOf_rrrrrr (p1:Option Addr) (a2:Option Addr) (l3:Nat) (k4:Nat) (p5:Option Addr) (a6:Option Addr) (l7:Nat) (k8:Nat) (m:Mem) (K:Kont)
  (h:CallM PP f_reader_pick #[.pointer p1,.int .i64 2] m fun v10 m11=>∃ x9,v10=.int .i64 x9∧ifB (x9 == 0) (CallM PP f_Writer_Fixed #[.pointer p5,.slice a6 l7 k8,.bool true] m11 fun v12 m13=>v12=.tuple #[]∧WPS PP 43 c_spec_LiteralsOf_rrrrrrr K [(4,.pointer p1),(5,.slice a2 l3 k4),(6,.pointer p5),(7,.slice a6 l7 k8)] m13) (CallM PP f_Writer_dynamic #[.pointer p5,.pointer p1,.slice a6 l7 k8,.bool true] m11 fun v14 m15=>v14=.tuple #[]∧WPS PP 43 c_spec_LiteralsOf_rrrrrrr K [(4,.pointer p1),(5,.slice a2 l3 k4),(6,.pointer p5),(7,.slice a6 l7 k8)] m15)):
  wpc PP FF 43 L_spec_LiteralsOf c_spec_LiteralsOf_rrrrrr K [(4,.pointer p1),(5,.slice a2 l3 k4),(6,.pointer p5),(7,.slice a6 l7 k8)] m:=
 Eq.mpr (by kernel_rfl) h
theorem p_spec_LiteralsOf_rrrrrlrll (p1:Option Addr) (a2:Option Addr) (l3:Nat) (k4:Nat) (p5:Option Addr) (a6:Option Addr) (l7:Nat) (k8:Nat) (a9:Option Addr) (l10:Nat) (k11:Nat) (x12:Int) (x13:Int) (m:Mem) (K:Kont)
  (h:ifB (decide (x13 < x12)) (onSome a9 fun p14=>(0≤x13∧x13 < (l10:Int))∧∃ x15,cell? m (aplus p14 x13.toNat)=some (.int .u8 x15)∧SemW PP (sv (Instr.buildSlice t_s_spec_Item 1 #[(0,.agg #[.int .u8 x15,.int .i64 0,.int .i64 0])])) m (NextW PP fun v19 m20=>∃ a16 l17 k18,v19=.slice a16 l17 k18∧SemW PP (builtin .append #[t_s_spec_Item,t_s_spec_Item] t_s_spec_Item #[false,false] #[.slice a6 l7 k8,.slice a16 l17 k18]) m20 (NextW PP fun v24 m25=>∃ a21 l22 k23,v24=.slice a21 l22 k23∧K.kn [(4,.pointer p1),(5,.slice a2 l3 k4),(6,.pointer p5),(7,.slice a21 l22 k23),(9,.int .u8 x15),(16,.slice a9 l10 k11),(17,.int .i64 x12),(18,.int .i64 (IntKind.wrap .i64 (x13+1)))] m25))) (K.kx 0 [(4,.pointer p1),(5,.slice a2 l3 k4),(6,.pointer p5),(7,.slice a6 l7 k8),(16,.slice a9 l10 k11),(17,.int .i64 x12),(18,.int .i64 x13)] m)):
  wpc PP FF 43 L_spec_LiteralsOf c_spec_LiteralsOf_rrrrrlrll K [(4,.pointer p1),(5,.slice a2 l3 k4),(6,.pointer p5),(7,.slice a6 l7 k8),(16,.slice a9 l10 k11),(17,.int .i64 x12),(18,.int .i64 x13)] m:=
 Eq.mpr (by kernel_rfl) h
theorem p_spec_LiteralsOf_rrrrrrr (a1:Option Addr) (l2:Nat) (k3:Nat) (p4:Option Addr) (m:Mem) (K:Kont)
  (h:onSome p4 fun p5=>∃ a6 l7 k8,cell? m p5=some (.slice a6 l7 k8)∧K.kr [(2,.slice a6 l7 k8),(3,.slice a1 l2 k3),(5,.slice a1 l2 k3),(6,.pointer p4)] m):
  wpc PP FF 43 L_spec_LiteralsOf c_spec_LiteralsOf_rrrrrrr K [(5,.slice a1 l2 k3),(6,.pointer p4)] m:=
 Eq.mpr (by kernel_rfl) h
def L_spec_Inflate:List Nat:=[0,1,4,5,6,7,18,20]
def r_spec_Inflate:List ResultVar:=[.tmp 4,.tmp 5,.tmp 6]
noncomputable def c_spec_Inflate:Code:=(Go.Proofs.Tryz.f6.body).getD .skip
theorem b_spec_Inflate:Go.Proofs.Tryz.f6.body=some c_spec_Inflate:=by kernel_rfl
noncomputable def c_spec_Inflate_rrr:Code:=(rgt (rgt (rgt c_spec_Inflate)))
noncomputable def c_spec_Inflate_rrll:Code:=(lft (lft (rgt (rgt c_spec_Inflate))))
noncomputable def c_spec_Inflate_rrlll:Code:=(lft c_spec_Inflate_rrll)
theorem q_spec_Inflate_rrll:c_spec_Inflate_rrll=.loop c_spec_Inflate_rrlll:=by kernel_rfl
theorem e_spec_Inflate (a1:Option Addr) (l2:Nat) (k3:Nat) (a4:Option Addr) (l5:Nat) (k6:Nat) (m:Mem) (R:Value→Mem→Prop)
  (h:l5≤k6∧(0≤(if (IntKind.wrap .i64 ((l5:Int) - 32768)) > 0 then IntKind.wrap .i64 ((l5:Int) - 32768) else 0)∧(if (IntKind.wrap .i64 ((l5:Int) - 32768)) > 0 then IntKind.wrap .i64 ((l5:Int) - 32768) else 0)≤(l5:Int))∧BoxW t_spec_state (.agg #[.slice a1 l2 k3,.int .i64 0,.slice (subA a4 ((if (IntKind.wrap .i64 ((l5:Int) - 32768)) > 0 then IntKind.wrap .i64 ((l5:Int) - 32768) else 0).toNat) 1 k6) (l5 - ((if (IntKind.wrap .i64 ((l5:Int) - 32768)) > 0 then IntKind.wrap .i64 ((l5:Int) - 32768) else 0).toNat)) (k6 - ((if (IntKind.wrap .i64 ((l5:Int) - 32768)) > 0 then IntKind.wrap .i64 ((l5:Int) - 32768) else 0).toNat)),.slice none 0 0,.int .i64 (-1)]) m fun n7 m8=>WPS PP 37 c_spec_Inflate_rrll (((retK PP r_spec_Inflate R).withN fun r m=>WPS PP 37 c_spec_Inflate_rrr (retK PP r_spec_Inflate R) r m).withX 0) [(0,.slice a1 l2 k3),(1,.slice a4 l5 k6),(4,.slice none 0 0),(5,.int .i64 0),(6,.int .i64 0),(7,.pointer (some ⟨n7,0,none⟩))] m8):
  CallM PP f_spec_Inflate #[.slice a1 l2 k3,.slice a4 l5 k6] m R:=
 callM_enter ffOk mixedOk 37 L_spec_Inflate Tryz.func6 b_spec_Inflate Tryz.ntmps6 (by simp) (Eq.mpr (by kernel_rfl) h)
theorem p_spec_Inflate_rrr (p1:Option Addr) (m:Mem) (K:Kont)
  (h:onSome p1 fun p2=>∃ a3 l4 k5,cell? m ⟨p2.block,p2.off+3,none⟩=some (.slice a3 l4 k5)∧onSome p1 fun p6=>∃ x7,cell? m ⟨p6.block,p6.off+4,none⟩=some (.int .i64 x7)∧onSome p1 fun p8=>∃ x9,cell? m ⟨p8.block,p8.off+1,none⟩=some (.int .i64 x9)∧IntKind.i64=IntKind.i64∧(8:Int)≠0∧K.kr [(4,.slice a3 l4 k5),(5,.int .i64 x7),(6,.int .i64 (IntKind.wrap .i64 (Int.tdiv (IntKind.wrap .i64 (x9+7)) 8))),(7,.pointer p1)] m):
  wpc PP FF 37 L_spec_Inflate c_spec_Inflate_rrr K [(7,.pointer p1)] m:=
 Eq.mpr (by kernel_rfl) h
theorem p_spec_Inflate_rrlll (p1:Option Addr) (m:Mem) (K:Kont)
  (h:CallM PP f_state_on #[.pointer p1] m fun v3 m4=>∃ b2,v3=.bool b2∧ifB b2 (CallM PP f_state_block #[.pointer p1] m4 fun v6 m7=>∃ b5,v6=.bool b5∧ifB b5 (CallM PP f_state_stop #[.pointer p1,.int .i64 1] m7 fun v8 m9=>v8=.tuple #[]∧K.kn [(7,.pointer p1)] m9) (K.kn [(7,.pointer p1)] m7)) (K.kx 0 [(7,.pointer p1)] m4)):
  wpc PP FF 37 L_spec_Inflate c_spec_Inflate_rrlll K [(7,.pointer p1)] m:=
 Eq.mpr (by kernel_rfl) h
def L_impl_All:List Nat:=[0,1,4,5]
def r_impl_All:List ResultVar:=[.tmp 4,.tmp 5]
noncomputable def c_impl_All:Code:=(Go.Proofs.Tryz.f7.body).getD .skip
theorem b_impl_All:Go.Proofs.Tryz.f7.body=some c_impl_All:=by kernel_rfl
theorem e_impl_All (a1:Option Addr) (l2:Nat) (k3:Nat) (x4:Int) (m:Mem) (R:Value→Mem→Prop)
  (h:CallM PP f_impl_source #[.slice a1 l2 k3] m fun v6 m7=>∃ p5,v6=.pointer p5∧CallM PP f_inflate_NewReader #[.iface t_p_bytes_Reader (.pointer p5)] m7 fun v9 m10=>∃ v8,v9=v8∧CallM PP f_impl_all #[v8,.int .i64 x4] m10 fun v15 m16=>∃ a11 l12,∃ k13 x14,v15=.tuple #[.slice a11 l12 k13,.int .i64 x14]∧R (.tuple #[.slice a11 l12 k13,.int .i64 x14]) m16):
  CallM PP f_impl_All #[.slice a1 l2 k3,.int .i64 x4] m R:=
 callM_enter ffOk mixedOk 14 L_impl_All Tryz.func7 b_impl_All Tryz.ntmps7 (by simp) (Eq.mpr (by kernel_rfl) h)
def L_laws_same:List Nat:=[0,1,4]
def r_laws_same:List ResultVar:=[.tmp 4]
noncomputable def c_laws_same:Code:=(Go.Proofs.Tryz.f8.body).getD .skip
theorem b_laws_same:Go.Proofs.Tryz.f8.body=some c_laws_same:=by kernel_rfl
theorem e_laws_same (a1:Option Addr) (l2:Nat) (k3:Nat) (a4:Option Addr) (l5:Nat) (k6:Nat) (m:Mem) (R:Value→Mem→Prop)
  (h:ifB ((l2:Int) == (l5:Int)) (CallM PP f_laws_begins #[.slice a1 l2 k3,.slice a4 l5 k6] m fun v8 m9=>∃ b7,v8=.bool b7∧R (.bool b7) m9) (R (.bool false) m)):
  CallM PP f_laws_same #[.slice a1 l2 k3,.slice a4 l5 k6] m R:=
 callM_enter ffOk mixedOk 15 L_laws_same Tryz.func8 b_laws_same Tryz.ntmps8 (by simp) (Eq.mpr (by kernel_rfl) h)
def L_spec_OneDistance:List Nat:=[0,2,3,4,5,6,7,8,9,10,12,13,14,27,28,29,42]
def r_spec_OneDistance:List ResultVar:=[.tmp 2,.tmp 3]
noncomputable def c_spec_OneDistance:Code:=(Go.Proofs.Tryz.f9.body).getD .skip
theorem b_spec_OneDistance:Go.Proofs.Tryz.f9.body=some c_spec_OneDistance:=by kernel_rfl
noncomputable def c_spec_OneDistance_rrrrrr:Code:=(rgt (rgt (rgt (rgt (rgt (rgt c_spec_OneDistance))))))
noncomputable def c_spec_OneDistance_rrrrrrr:Code:=(rgt c_spec_OneDistance_rrrrrr)
noncomputable def c_spec_OneDistance_rrrrrlrl:Code:=(lft (rgt (lft (rgt (rgt (rgt (rgt (rgt c_spec_OneDistance))))))))
noncomputable def c_spec_OneDistance_rrrrrlrll:Code:=(lft c_spec_OneDistance_rrrrrlrl)
noncomputable def c_spec_OneDistance_rrrrrrlrl:Code:=(lft (rgt (lft c_spec_OneDistance_rrrrrr)))
noncomputable def c_spec_OneDistance_rrrrrrlrll:Code:=(lft c_spec_OneDistance_rrrrrrlrl)
theorem q_spec_OneDistance_rrrrrlrl:c_spec_OneDistance_rrrrrlrl=.loop c_spec_OneDistance_rrrrrlrll:=by kernel_rfl
theorem q_spec_OneDistance_rrrrrrlrl:c_spec_OneDistance_rrrrrrlrl=.loop c_spec_OneDistance_rrrrrrlrll:=by kernel_rfl
theorem e_spec_OneDistance (a1:Option Addr) (l2:Nat) (k3:Nat) (m:Mem) (R:Value→Mem→Prop)
  (h:CallM PP f_spec_newReader #[.slice a1 l2 k3] m fun v5 m6=>∃ p4,v5=.pointer p4∧CallM PP f_reader_pick #[.pointer p4,.int .i64 6] m6 fun v8 m9=>∃ x7,v8=.int .i64 x7∧CallM PP f_spec_Distance #[.int .i64 x7] m9 fun v12 m13=>∃ x10 x11,v12=.tuple #[.int .i64 x10,.int .i64 x11]∧0≤x11∧WPS PP 89 c_spec_OneDistance_rrrrrlrl (((retK PP r_spec_OneDistance R).withN fun r m=>WPS PP 89 c_spec_OneDistance_rrrrrr (retK PP r_spec_OneDistance R) r m).withX 0) [(0,.slice a1 l2 k3),(2,.slice none 0 0),(3,.slice none 0 0),(4,.pointer p4),(5,.int .i64 x7),(6,.int .i64 x10),(7,.int .i64 x11),(8,.slice none 0 0),(27,.int .i64 (IntKind.wrap .i64 (x10+(shlOp .i64 1 x11)))),(28,.int .i64 0)] m13):
  CallM PP f_spec_OneDistance #[.slice a1 l2 k3] m R:=
 callM_enter ffOk mixedOk 89 L_spec_OneDistance Tryz.func9 b_spec_OneDistance Tryz.ntmps9 (by simp) (Eq.mpr (by kernel_rfl) h)
theorem p_spec_OneDistance_rrrrrr (p1:Option Addr) (x2:Int) (x3:Int) (x4:Int) (a5:Option Addr) (l6:Nat) (k7:Nat) (m:Mem) (K:Kont)
  (h:CallM PP f_reader_pick #[.pointer p1,.int .i64 5] m fun v9 m10=>∃ x8,v9=.int .i64 x8∧WPS PP 89 c_spec_OneDistance_rrrrrrlrl ((K.withN fun r m=>WPS PP 89 c_spec_OneDistance_rrrrrrr K r m).withX 2) [(4,.pointer p1),(5,.int .i64 x2),(6,.int .i64 x3),(7,.int .i64 x4),(8,.slice a5 l6 k7),(9,.int .i64 x8)] m10):
  wpc PP FF 89 L_spec_OneDistance c_spec_OneDistance_rrrrrr K [(4,.pointer p1),(5,.int .i64 x2),(6,.int .i64 x3),(7,.int .i64 x4),(8,.slice a5 l6 k7)] m:=
 Eq.mpr (by kernel_rfl) h
theorem p_spec_OneDistance_rrrrrlrll (p1:Option Addr) (x2:Int) (x3:Int) (x4:Int) (a5:Option Addr) (l6:Nat) (k7:Nat) (x8:Int) (x9:Int) (m:Mem) (K:Kont)
  (h:ifB (decide (x9 < x8)) (CallM PP f_reader_pick #[.pointer p1,.int .i64 3] m fun v11 m12=>∃ x10,v11=.int .i64 x10∧SemW PP (sv (Instr.buildSlice t_s_spec_Item 1 #[(0,.agg #[.int .u8 (IntKind.wrap .u8 (IntKind.wrap .i64 (97+x10))),.int .i64 0,.int .i64 0])])) m12 (NextW PP fun v16 m17=>∃ a13 l14 k15,v16=.slice a13 l14 k15∧SemW PP (builtin .append #[t_s_spec_Item,t_s_spec_Item] t_s_spec_Item #[false,false] #[.slice a5 l6 k7,.slice a13 l14 k15]) m17 (NextW PP fun v21 m22=>∃ a18 l19 k20,v21=.slice a18 l19 k20∧K.kn [(4,.pointer p1),(5,.int .i64 x2),(6,.int .i64 x3),(7,.int .i64 x4),(8,.slice a18 l19 k20),(27,.int .i64 x8),(28,.int .i64 (IntKind.wrap .i64 (x9+1)))] m22))) (K.kx 0 [(4,.pointer p1),(5,.int .i64 x2),(6,.int .i64 x3),(7,.int .i64 x4),(8,.slice a5 l6 k7),(27,.int .i64 x8),(28,.int .i64 x9)] m)):
  wpc PP FF 89 L_spec_OneDistance c_spec_OneDistance_rrrrrlrll K [(4,.pointer p1),(5,.int .i64 x2),(6,.int .i64 x3),(7,.int .i64 x4),(8,.slice a5 l6 k7),(27,.int .i64 x8),(28,.int .i64 x9)] m:=
 Eq.mpr (by kernel_rfl) h
theorem p_spec_OneDistance_rrrrrrlrll (p1:Option Addr) (x2:Int) (x3:Int) (x4:Int) (a5:Option Addr) (l6:Nat) (k7:Nat) (x8:Int) (m:Mem) (K:Kont)
  (h:ifB (decide (x8 > 0)) (CallM PP f_reader_length #[.pointer p1] m fun v10 m11=>∃ x9,v10=.int .i64 x9∧0≤x4∧CallM PP f_reader_pick #[.pointer p1,.int .i64 (shlOp .i64 1 x4)] m11 fun v13 m14=>∃ x12,v13=.int .i64 x12∧SemW PP (sv (Instr.buildSlice t_s_spec_Item 1 #[(0,.agg #[.int .u8 0,.int .i64 x9,.int .i64 (IntKind.wrap .i64 (x3+x12))])])) m14 (NextW PP fun v18 m19=>∃ a15 l16 k17,v18=.slice a15 l16 k17∧SemW PP (builtin .append #[t_s_spec_Item,t_s_spec_Item] t_s_spec_Item #[false,false] #[.slice a5 l6 k7,.slice a15 l16 k17]) m19 (NextW PP fun v23 m24=>∃ a20 l21 k22,v23=.slice a20 l21 k22∧K.kn [(4,.pointer p1),(5,.int .i64 x2),(6,.int .i64 x3),(7,.int .i64 x4),(8,.slice a20 l21 k22),(9,.int .i64 (IntKind.wrap .i64 (x8 - 1)))] m24))) (K.kx 2 [(4,.pointer p1),(5,.int .i64 x2),(6,.int .i64 x3),(7,.int .i64 x4),(8,.slice a5 l6 k7),(9,.int .i64 x8)] m)):
  wpc PP FF 89 L_spec_OneDistance c_spec_OneDistance_rrrrrrlrll K [(4,.pointer p1),(5,.int .i64 x2),(6,.int .i64 x3),(7,.int .i64 x4),(8,.slice a5 l6 k7),(9,.int .i64 x8)] m:=
 Eq.mpr (by kernel_rfl) h
theorem p_spec_OneDistance_rrrrrrr (p1:Option Addr) (x2:Int) (a3:Option Addr) (l4:Nat) (k5:Nat) (m:Mem) (K:Kont)
  (h:CallM PP f_spec_needs #[.slice a3 l4 k5] m fun v12 m13=>∃ a6 l7,∃ k8 a9,∃ l10 k11,v12=.tuple #[.slice a6 l7 k8,.slice a9 l10 k11]∧CallM PP f_reader_lengthsOf #[.pointer p1,.slice a6 l7 k8,.int .i64 15] m13 fun v17 m18=>∃ a14 l15 k16,v17=.slice a14 l15 k16∧SemW PP (sv (Instr.makeSlice t_s_int (.int .i64 30) (.int .i64 30))) m18 (NextW PP fun v22 m23=>∃ a19 l20 k21,v22=.slice a19 l20 k21∧onSome a19 fun p24=>(0≤x2∧x2 < (l20:Int))∧StW m23 (aplus p24 x2.toNat) (.int .i64 1) fun m25=>BoxW t_spec_Writer (.agg #[.slice none 0 0,.int .i64 0]) m25 fun n26 m27=>CallM PP f_Writer_Bits #[.pointer (some ⟨n26,0,none⟩),.int .i64 5,.int .i64 3] m27 fun v28 m29=>v28=.tuple #[]∧CallM PP f_Writer_lengths #[.pointer (some ⟨n26,0,none⟩),.pointer p1,.slice a14 l15 k16,.slice a19 l20 k21] m29 fun v30 m31=>v30=.tuple #[]∧CallM PP f_Writer_items #[.pointer (some ⟨n26,0,none⟩),.slice a3 l4 k5,.slice a14 l15 k16,.slice a19 l20 k21] m31 fun v32 m33=>v32=.tuple #[]∧∃ a34 l35 k36,cell? m33 ⟨n26,0,none⟩=some (.slice a34 l35 k36)∧CallM PP f_spec_Given #[.slice none 0 0,.slice a3 l4 k5] m33 fun v40 m41=>∃ a37 l38 k39,v40=.slice a37 l38 k39∧cell? m41 ⟨n26,0,none⟩=some (.slice a34 l35 k36)∧K.kr [(2,.slice a34 l35 k36),(3,.slice a37 l38 k39),(4,.pointer p1),(5,.int .i64 x2),(8,.slice a3 l4 k5),(10,.slice a6 l7 k8),(12,.slice a14 l15 k16),(13,.slice a19 l20 k21),(14,.pointer (some ⟨n26,0,none⟩))] m41)):
  wpc PP FF 89 L_spec_OneDistance c_spec_OneDistance_rrrrrrr K [(4,.pointer p1),(5,.int .i64 x2),(8,.slice a3 l4 k5)] m:=
 Eq.mpr (by kernel_rfl) h
def L_spec_newReader:List Nat:=[0,2]
def r_spec_newReader:List ResultVar:=[.tmp 2]
noncomputable def c_spec_newReader:Code:=(Go.Proofs.Tryz.f10.body).getD .skip
theorem b_spec_newReader:Go.Proofs.Tryz.f10.body=some c_spec_newReader:=by kernel_rfl
theorem e_spec_newReader (a1:Option Addr) (l2:Nat) (k3:Nat) (m:Mem) (R:Value→Mem→Prop)
  (h:l2≤k3∧(0≤(if (3000:Int) < (l2:Int) then 3000 else (l2:Int))∧(if (3000:Int) < (l2:Int) then 3000 else (l2:Int))≤(k3:Int))∧BoxW t_spec_reader (.agg #[.slice a1 ((if (3000:Int) < (l2:Int) then 3000 else (l2:Int)).toNat) k3,.int .i64 0]) m fun n4 m5=>R (.pointer (some ⟨n4,0,none⟩)) m5):
  CallM PP f_spec_newReader #[.slice a1 l2 k3] m R:=
 callM_enter ffOk mixedOk 10 L_spec_newReader Tryz.func10 b_spec_newReader Tryz.ntmps10 (by simp) (Eq.mpr (by kernel_rfl) h)
def L_reader_data:List Nat:=[0,1,4,5,6,12]
def r_reader_data:List ResultVar:=[.tmp 4]
noncomputable def c_reader_data:Code:=(Go.Proofs.Tryz.f11.body).getD .skip
theorem b_reader_data:Go.Proofs.Tryz.f11.body=some c_reader_data:=by kernel_rfl
noncomputable def c_reader_data_rrr:Code:=(rgt (rgt (rgt c_reader_data)))
noncomputable def c_reader_data_rrlrl:Code:=(lft (rgt (lft (rgt (rgt c_reader_data)))))
noncomputable def c_reader_data_rrlrll:Code:=(lft c_reader_data_rrlrl)
theorem q_reader_data_rrlrl:c_reader_data_rrlrl=.loop c_reader_data_rrlrll:=by kernel_rfl
theorem e_reader_data (r:Nat) (x1:Int) (m:Mem) (R:Value→Mem→Prop)
  (h:CallM PP f_reader_pick #[.pointer (some ⟨r,0,none⟩),.int .i64 (IntKind.wrap .i64 (x1+1))] m fun v3 m4=>∃ x2,v3=.int .i64 x2∧WPS PP 25 c_reader_data_rrlrl (((retK PP r_reader_data R).withN fun r m=>WPS PP 25 c_reader_data_rrr (retK PP r_reader_data R) r m).withX 0) [(0,.pointer (some ⟨r,0,none⟩)),(1,.int .i64 x1),(4,.slice none 0 0),(5,.slice none 0 0),(6,.int .i64 x2)] m4):
  CallM PP f_reader_data #[.pointer (some ⟨r,0,none⟩),.int .i64 x1] m R:=
 callM_enter ffOk mixedOk 25 L_reader_data Tryz.func11 b_reader_data Tryz.ntmps11 (by simp) (Eq.mpr (by kernel_rfl) h)
theorem p_reader_data_rrr (a1:Option Addr) (l2:Nat) (k3:Nat) (m:Mem) (K:Kont)
  (h:K.kr [(4,.slice a1 l2 k3),(5,.slice a1 l2 k3)] m):
  wpc PP FF 25 L_reader_data c_reader_data_rrr K [(5,.slice a1 l2 k3)] m:=
 Eq.mpr (by kernel_rfl) h
theorem p_reader_data_rrlrll (r:Nat) (a1:Option Addr) (l2:Nat) (k3:Nat) (x4:Int) (m:Mem) (K:Kont)
  (h:ifB (decide (x4 > 0)) (CallM PP f_reader_pick #[.pointer (some ⟨r,0,none⟩),.int .i64 256] m fun v6 m7=>∃ x5,v6=.int .i64 x5∧SemW PP (sv (Instr.buildSlice t_s_int 5 #[(0,.int .i64 97),(1,.int .i64 98),(2,.int .i64 0),(3,.int .i64 255),(4,.int .i64 x5)])) m7 (NextW PP fun v11 m12=>∃ a8 l9 k10,v11=.slice a8 l9 k10∧CallM PP f_reader_one #[.pointer (some ⟨r,0,none⟩),.slice a8 l9 k10] m12 fun v14 m15=>∃ x13,v14=.int .i64 x13∧SemW PP (sv (Instr.buildSlice t_s_uint8 1 #[(0,.int .u8 (IntKind.wrap .u8 x13))])) m15 (NextW PP fun v19 m20=>∃ a16 l17 k18,v19=.slice a16 l17 k18∧SemW PP (builtin .append #[t_s_uint8,t_s_uint8] t_s_uint8 #[false,false] #[.slice a1 l2 k3,.slice a16 l17 k18]) m20 (NextW PP fun v24 m25=>∃ a21 l22 k23,v24=.slice a21 l22 k23∧K.kn [(0,.pointer (some ⟨r,0,none⟩)),(5,.slice a21 l22 k23),(6,.int .i64 (IntKind.wrap .i64 (x4 - 1)))] m25)))) (K.kx 0 [(0,.pointer (some ⟨r,0,none⟩)),(5,.slice a1 l2 k3),(6,.int .i64 x4)] m)):
  wpc PP FF 25 L_reader_data c_reader_data_rrlrll K [(0,.pointer (some ⟨r,0,none⟩)),(5,.slice a1 l2 k3),(6,.int .i64 x4)] m:=
 Eq.mpr (by kernel_rfl) h
def L_reader_pick:List Nat:=[0,1,4,5,6,27,52]
def r_reader_pick:List ResultVar:=[.tmp 4]
noncomputable def c_reader_pick:Code:=(Go.Proofs.Tryz.f12.body).getD .skip
theorem b_reader_pick:Go.Proofs.Tryz.f12.body=some c_reader_pick:=by kernel_rfl
noncomputable def c_reader_pick_rrrrrr:Code:=(rgt (rgt (rgt (rgt (rgt (rgt c_reader_pick))))))
theorem e_reader_pick (r:Nat) (x1:Int) (m:Mem) (R:Value→Mem→Prop)
  (h:∃ x2,cell? m ⟨r,1,none⟩=some (.int .i64 x2)∧∃ x3,cell? m ⟨r,1,none⟩=some (.int .i64 x3)∧StW m ⟨r,1,none⟩ (.int .i64 (IntKind.wrap .i64 (x3+1))) fun m4=>ifB (decide (x1 < 1)) (R (.int .i64 0) m4) (∃ a5 l6 k7,cell? m4 ⟨r,0,none⟩=some (.slice a5 l6 k7)∧ifB ((l6:Int) == 0) (R (.int .i64 0) m4) (∃ a8 l9 k10,cell? m4 ⟨r,0,none⟩=some (.slice a8 l9 k10)∧∃ a11 l12 k13,cell? m4 ⟨r,0,none⟩=some (.slice a11 l12 k13)∧IntKind.i64=IntKind.i64∧(l12:Int)≠0∧onSome a8 fun p14=>(0≤(Int.tmod x2 (l12:Int))∧(Int.tmod x2 (l12:Int)) < (l9:Int))∧∃ x15,cell? m4 (aplus p14 ((Int.tmod x2 (l12:Int)).toNat))=some (.int .u8 x15)∧ifB (decide (x1 > 256)) (∃ a16 l17 k18,cell? m4 ⟨r,0,none⟩=some (.slice a16 l17 k18)∧∃ a19 l20 k21,cell? m4 ⟨r,0,none⟩=some (.slice a19 l20 k21)∧IntKind.i64=IntKind.i64∧(l20:Int)≠0∧onSome a16 fun p22=>(0≤(Int.tmod (IntKind.wrap .i64 ((IntKind.wrap .i64 (x2 * 7))+3)) (l20:Int))∧(Int.tmod (IntKind.wrap .i64 ((IntKind.wrap .i64 (x2 * 7))+3)) (l20:Int)) < (l17:Int))∧∃ x23,cell? m4 (aplus p22 ((Int.tmod (IntKind.wrap .i64 ((IntKind.wrap .i64 (x2 * 7))+3)) (l20:Int)).toNat))=some (.int .u8 x23)∧∃ a24 l25 k26,cell? m4 ⟨r,0,none⟩=some (.slice a24 l25 k26)∧IntKind.i64=IntKind.i64∧(l25:Int)≠0∧IntKind.i64=IntKind.i64∧(64:Int)≠0∧IntKind.i64=IntKind.i64∧WPS PP 92 c_reader_pick_rrrrrr (retK PP r_reader_pick R) [(0,.pointer (some ⟨r,0,none⟩)),(1,.int .i64 x1),(4,.int .i64 0),(5,.int .i64 x2),(6,.int .i64 (bitsOp .xor .i64 (IntKind.wrap .i64 ((IntKind.wrap .i64 ((IntKind.wrap .i64 ((IntKind.wrap .i64 ((IntKind.wrap .i64 x15) * 131))+(IntKind.wrap .i64 ((IntKind.wrap .i64 x23) * 1117))))+(IntKind.wrap .i64 (x2 * 29))))+(IntKind.wrap .i64 ((IntKind.wrap .i64 (Int.tdiv x2 (l25:Int))) * 53)))) (IntKind.wrap .i64 (Int.tdiv (IntKind.wrap .i64 ((IntKind.wrap .i64 ((IntKind.wrap .i64 ((IntKind.wrap .i64 ((IntKind.wrap .i64 x15) * 131))+(IntKind.wrap .i64 ((IntKind.wrap .i64 x23) * 1117))))+(IntKind.wrap .i64 (x2 * 29))))+(IntKind.wrap .i64 ((IntKind.wrap .i64 (Int.tdiv x2 (l25:Int))) * 53)))) 64))))] m4) (∃ a27 l28 k29,cell? m4 ⟨r,0,none⟩=some (.slice a27 l28 k29)∧ifB (decide (x2 ≥ (l28:Int))) (∃ a30 l31 k32,cell? m4 ⟨r,0,none⟩=some (.slice a30 l31 k32)∧∃ a33 l34 k35,cell? m4 ⟨r,0,none⟩=some (.slice a33 l34 k35)∧IntKind.i64=IntKind.i64∧(l34:Int)≠0∧onSome a30 fun p36=>(0≤(Int.tmod (IntKind.wrap .i64 ((IntKind.wrap .i64 (x2 * 7))+3)) (l34:Int))∧(Int.tmod (IntKind.wrap .i64 ((IntKind.wrap .i64 (x2 * 7))+3)) (l34:Int)) < (l31:Int))∧∃ x37,cell? m4 (aplus p36 ((Int.tmod (IntKind.wrap .i64 ((IntKind.wrap .i64 (x2 * 7))+3)) (l34:Int)).toNat))=some (.int .u8 x37)∧∃ a38 l39 k40,cell? m4 ⟨r,0,none⟩=some (.slice a38 l39 k40)∧IntKind.i64=IntKind.i64∧(l39:Int)≠0∧IntKind.i64=IntKind.i64∧(64:Int)≠0∧IntKind.i64=IntKind.i64∧WPS PP 92 c_reader_pick_rrrrrr (retK PP r_reader_pick R) [(0,.pointer (some ⟨r,0,none⟩)),(1,.int .i64 x1),(4,.int .i64 0),(5,.int .i64 x2),(6,.int .i64 (bitsOp .xor .i64 (IntKind.wrap .i64 ((IntKind.wrap .i64 ((IntKind.wrap .i64 ((IntKind.wrap .i64 ((IntKind.wrap .i64 x15) * 131))+(IntKind.wrap .i64 ((IntKind.wrap .i64 x37) * 1117))))+(IntKind.wrap .i64 (x2 * 29))))+(IntKind.wrap .i64 ((IntKind.wrap .i64 (Int.tdiv x2 (l39:Int))) * 53)))) (IntKind.wrap .i64 (Int.tdiv (IntKind.wrap .i64 ((IntKind.wrap .i64 ((IntKind.wrap .i64 ((IntKind.wrap .i64 ((IntKind.wrap .i64 x15) * 131))+(IntKind.wrap .i64 ((IntKind.wrap .i64 x37) * 1117))))+(IntKind.wrap .i64 (x2 * 29))))+(IntKind.wrap .i64 ((IntKind.wrap .i64 (Int.tdiv x2 (l39:Int))) * 53)))) 64))))] m4) (WPS PP 92 c_reader_pick_rrrrrr (retK PP r_reader_pick R) [(0,.pointer (some ⟨r,0,none⟩)),(1,.int .i64 x1),(4,.int .i64 0),(5,.int .i64 x2),(6,.int .i64 (IntKind.wrap .i64 x15))] m4))))):
  CallM PP f_reader_pick #[.pointer (some ⟨r,0,none⟩),.int .i64 x1] m R:=
 callM_enter ffOk mixedOk 92 L_reader_pick Tryz.func12 b_reader_pick Tryz.ntmps12 (by simp) (Eq.mpr (by kernel_rfl) h)
theorem p_reader_pick_rrrrrr (x1:Int) (x2:Int) (m:Mem) (K:Kont)
  (h:IntKind.i64=IntKind.i64∧x1≠0∧K.kr [(1,.int .i64 x1),(4,.int .i64 (Int.tmod x2 x1)),(6,.int .i64 x2)] m):
  wpc PP FF 92 L_reader_pick c_reader_pick_rrrrrr K [(1,.int .i64 x1),(6,.int .i64 x2)] m:=
 Eq.mpr (by kernel_rfl) h
def L_Writer_Fixed:List Nat:=[0,1,2,6,7]
def r_Writer_Fixed:List ResultVar:=[]
noncomputable def c_Writer_Fixed:Code:=(Go.Proofs.Tryz.f13.body).getD .skip
theorem b_Writer_Fixed:Go.Proofs.Tryz.f13.body=some c_Writer_Fixed:=by kernel_rfl
theorem e_Writer_Fixed (w:Nat) (a1:Option Addr) (l2:Nat) (k3:Nat) (b4:Bool) (m:Mem) (R:Value→Mem→Prop)
  (h:CallM PP f_spec_flag #[.bool b4] m fun v6 m7=>∃ x5,v6=.int .i64 x5∧IntKind.i64=IntKind.i64∧CallM PP f_Writer_Bits #[.pointer (some ⟨w,0,none⟩),.int .i64 (bitsOp .or .i64 x5 2),.int .i64 3] m7 fun v8 m9=>v8=.tuple #[]∧CallM PP f_spec_fixed #[] m9 fun v16 m17=>∃ a10 l11,∃ k12 a13,∃ l14 k15,v16=.tuple #[.slice a10 l11 k12,.slice a13 l14 k15]∧CallM PP f_Writer_items #[.pointer (some ⟨w,0,none⟩),.slice a1 l2 k3,.slice a10 l11 k12,.slice a13 l14 k15] m17 fun v18 m19=>v18=.tuple #[]∧R (.tuple #[]) m19):
  CallM PP f_Writer_Fixed #[.pointer (some ⟨w,0,none⟩),.slice a1 l2 k3,.bool b4] m R:=
 callM_enter ffOk mixedOk 22 L_Writer_Fixed Tryz.func13 b_Writer_Fixed Tryz.ntmps13 (by simp) (Eq.mpr (by kernel_rfl) h)
def L_Writer_dynamic:List Nat:=[0,1,2,3,8,9,10,11,12,14,28,29,30,31,47]
def r_Writer_dynamic:List ResultVar:=[]
noncomputable def c_Writer_dynamic:Code:=(Go.Proofs.Tryz.f14.body).getD .skip
theorem b_Writer_dynamic:Go.Proofs.Tryz.f14.body=some c_Writer_dynamic:=by kernel_rfl
noncomputable def c_Writer_dynamic_rrrrr:Code:=(rgt (rgt (rgt (rgt (rgt c_Writer_dynamic)))))
noncomputable def c_Writer_dynamic_rrrrrr:Code:=(rgt c_Writer_dynamic_rrrrr)
noncomputable def c_Writer_dynamic_rrrrlrl:Code:=(lft (rgt (lft (rgt (rgt (rgt (rgt c_Writer_dynamic)))))))
noncomputable def c_Writer_dynamic_rrrrlrll:Code:=(lft c_Writer_dynamic_rrrrlrl)
theorem q_Writer_dynamic_rrrrlrl:c_Writer_dynamic_rrrrlrl=.loop c_Writer_dynamic_rrrrlrll:=by kernel_rfl
theorem e_Writer_dynamic (w:Nat) (p1:Option Addr) (a2:Option Addr) (l3:Nat) (k4:Nat) (b5:Bool) (m:Mem) (R:Value→Mem→Prop)
  (h:CallM PP f_spec_needs #[.slice a2 l3 k4] m fun v12 m13=>∃ a6 l7,∃ k8 a9,∃ l10 k11,v12=.tuple #[.slice a6 l7 k8,.slice a9 l10 k11]∧CallM PP f_reader_lengthsOf #[.pointer p1,.slice a6 l7 k8,.int .i64 15] m13 fun v17 m18=>∃ a14 l15 k16,v17=.slice a14 l15 k16∧CallM PP f_reader_trimmed #[.pointer p1,.slice a14 l15 k16,.int .i64 257] m18 fun v22 m23=>∃ a19 l20 k21,v22=.slice a19 l20 k21∧CallM PP f_reader_lengthsOf #[.pointer p1,.slice a9 l10 k11,.int .i64 15] m23 fun v27 m28=>∃ a24 l25 k26,v27=.slice a24 l25 k26∧WPS PP 67 c_Writer_dynamic_rrrrlrl (((retK PP r_Writer_dynamic R).withN fun r m=>WPS PP 67 c_Writer_dynamic_rrrrr (retK PP r_Writer_dynamic R) r m).withX 0) [(0,.pointer (some ⟨w,0,none⟩)),(1,.pointer p1),(2,.slice a2 l3 k4),(3,.bool b5),(8,.slice a6 l7 k8),(9,.slice a9 l10 k11),(10,.slice a19 l20 k21),(11,.slice a24 l25 k26),(12,.bool false),(28,.slice a2 l3 k4),(29,.int .i64 (l3:Int)),(30,.int .i64 0)] m28):
  CallM PP f_Writer_dynamic #[.pointer (some ⟨w,0,none⟩),.pointer p1,.slice a2 l3 k4,.bool b5] m R:=
 callM_enter ffOk mixedOk 67 L_Writer_dynamic Tryz.func14 b_Writer_dynamic Tryz.ntmps14 (by simp) (Eq.mpr (by kernel_rfl) h)
theorem p_Writer_dynamic_rrrrr (w:Nat) (p1:Option Addr) (a2:Option Addr) (l3:Nat) (k4:Nat) (b5:Bool) (a6:Option Addr) (l7:Nat) (k8:Nat) (a9:Option Addr) (l10:Nat) (k11:Nat) (b12:Bool) (m:Mem) (K:Kont)
  (h:ifB (!b12) (CallM PP f_reader_pick #[.pointer p1,.int .i64 2] m fun v14 m15=>∃ x13,v14=.int .i64 x13∧ifB (x13 == 0) (SemW PP (sv (Instr.makeSlice t_s_int (.int .i64 30) (.int .i64 30))) m15 (NextW PP fun v19 m20=>∃ a16 l17 k18,v19=.slice a16 l17 k18∧WPS PP 67 c_Writer_dynamic_rrrrrr K [(0,.pointer (some ⟨w,0,none⟩)),(1,.pointer p1),(2,.slice a2 l3 k4),(3,.bool b5),(10,.slice a6 l7 k8),(11,.slice a16 l17 k18),(12,.bool b12)] m20)) (WPS PP 67 c_Writer_dynamic_rrrrrr K [(0,.pointer (some ⟨w,0,none⟩)),(1,.pointer p1),(2,.slice a2 l3 k4),(3,.bool b5),(10,.slice a6 l7 k8),(11,.slice a9 l10 k11),(12,.bool b12)] m15)) (WPS PP 67 c_Writer_dynamic_rrrrrr K [(0,.pointer (some ⟨w,0,none⟩)),(1,.pointer p1),(2,.slice a2 l3 k4),(3,.bool b5),(10,.slice a6 l7 k8),(11,.slice a9 l10 k11),(12,.bool b12)] m)):
  wpc PP FF 67 L_Writer_dynamic c_Writer_dynamic_rrrrr K [(0,.pointer (some ⟨w,0,none⟩)),(1,.pointer p1),(2,.slice a2 l3 k4),(3,.bool b5),(10,.slice a6 l7 k8),(11,.slice a9 l10 k11),(12,.bool b12)] m:=
 Eq.mpr (by kernel_rfl) h
theorem p_Writer_dynamic_rrrrlrll (w:Nat) (p1:Option Addr) (a2:Option Addr) (l3:Nat) (k4:Nat) (b5:Bool) (a6:Option Addr) (l7:Nat) (k8:Nat) (a9:Option Addr) (l10:Nat) (k11:Nat) (b12:Bool) (a13:Option Addr) (l14:Nat) (k15:Nat) (x16:Int) (x17:Int) (m:Mem) (K:Kont)
  (h:ifB (decide (x17 < x16)) (onSome a13 fun p18=>(0≤x17∧x17 < (l14:Int))∧∃ x19 x20 x21,([.int .u8 x19,.int .i64 x20,.int .i64 x21]:List Value).length=3∧CellsAre m (aplus p18 (x17.toNat * 3)) 0 [.int .u8 x19,.int .i64 x20,.int .i64 x21]∧AllocW PP t_spec_Item m fun n22 m23=>StAgg PP t_spec_Item m23 ⟨n22,0,none⟩ (.agg #[.int .u8 x19,.int .i64 x20,.int .i64 x21]) fun m24=>ifB b12 (K.kn [(0,.pointer (some ⟨w,0,none⟩)),(1,.pointer p1),(2,.slice a2 l3 k4),(3,.bool b5),(10,.slice a6 l7 k8),(11,.slice a9 l10 k11),(12,.bool true),(14,.pointer (some ⟨n22,0,none⟩)),(28,.slice a13 l14 k15),(29,.int .i64 x16),(30,.int .i64 (IntKind.wrap .i64 (x17+1)))] m24) (∃ x25,cell? m24 ⟨n22,1,none⟩=some (.int .i64 x25)∧K.kn [(0,.pointer (some ⟨w,0,none⟩)),(1,.pointer p1),(2,.slice a2 l3 k4),(3,.bool b5),(10,.slice a6 l7 k8),(11,.slice a9 l10 k11),(12,.bool (decide (x25 > 0))),(14,.pointer (some ⟨n22,0,none⟩)),(28,.slice a13 l14 k15),(29,.int .i64 x16),(30,.int .i64 (IntKind.wrap .i64 (x17+1)))] m24)) (K.kx 0 [(0,.pointer (some ⟨w,0,none⟩)),(1,.pointer p1),(2,.slice a2 l3 k4),(3,.bool b5),(10,.slice a6 l7 k8),(11,.slice a9 l10 k11),(12,.bool b12),(28,.slice a13 l14 k15),(29,.int .i64 x16),(30,.int .i64 x17)] m)):
  wpc PP FF 67 L_Writer_dynamic c_Writer_dynamic_rrrrlrll K [(0,.pointer (some ⟨w,0,none⟩)),(1,.pointer p1),(2,.slice a2 l3 k4),(3,.bool b5),(10,.slice a6 l7 k8),(11,.slice a9 l10 k11),(12,.bool b12),(28,.slice a13 l14 k15),(29,.int .i64 x16),(30,.int .i64 x17)] m:=
 Eq.mpr (by kernel_rfl) h
theorem p_Writer_dynamic_rrrrrr (w:Nat) (p1:Option Addr) (a2:Option Addr) (l3:Nat) (k4:Nat) (b5:Bool) (a6:Option Addr) (l7:Nat) (k8:Nat) (a9:Option Addr) (l10:Nat) (k11:Nat) (m:Mem) (K:Kont)
  (h:CallM PP f_reader_trimmed #[.pointer p1,.slice a9 l10 k11,.int .i64 1] m fun v15 m16=>∃ a12 l13 k14,v15=.slice a12 l13 k14∧CallM PP f_spec_flag #[.bool b5] m16 fun v18 m19=>∃ x17,v18=.int .i64 x17∧IntKind.i64=IntKind.i64∧CallM PP f_Writer_Bits #[.pointer (some ⟨w,0,none⟩),.int .i64 (bitsOp .or .i64 x17 4),.int .i64 3] m19 fun v20 m21=>v20=.tuple #[]∧CallM PP f_Writer_lengths #[.pointer (some ⟨w,0,none⟩),.pointer p1,.slice a6 l7 k8,.slice a12 l13 k14] m21 fun v22 m23=>v22=.tuple #[]∧CallM PP f_Writer_items #[.pointer (some ⟨w,0,none⟩),.slice a2 l3 k4,.slice a6 l7 k8,.slice a12 l13 k14] m23 fun v24 m25=>v24=.tuple #[]∧K.kn [(0,.pointer (some ⟨w,0,none⟩)),(1,.pointer p1),(2,.slice a2 l3 k4),(3,.bool b5),(10,.slice a6 l7 k8),(11,.slice a12 l13 k14)] m25):
  wpc PP FF 67 L_Writer_dynamic c_Writer_dynamic_rrrrrr K [(0,.pointer (some ⟨w,0,none⟩)),(1,.pointer p1),(2,.slice a2 l3 k4),(3,.bool b5),(10,.slice a6 l7 k8),(11,.slice a9 l10 k11)] m:=
 Eq.mpr (by kernel_rfl) h
def L_state_on:List Nat:=[0,2]
def r_state_on:List ResultVar:=[.tmp 2]
noncomputable def c_state_on:Code:=(Go.Proofs.Tryz.f15.body).getD .skip
theorem b_state_on:Go.Proofs.Tryz.f15.body=some c_state_on:=by kernel_rfl
theorem e_state_on (s:Nat) (m:Mem) (R:Value→Mem→Prop)
  (h:∃ x1,cell? m ⟨s,4,none⟩=some (.int .i64 x1)∧R (.bool (decide (x1 < 0))) m  ):
  CallM PP f_state_on #[.pointer (some ⟨s,0,none⟩)] m R:=
 callM_enter ffOk mixedOk 8 L_state_on Tryz.func15 b_state_on Tryz.ntmps15 (by simp) (Eq.mpr (by kernel_rfl) h)
def L_state_block:List Nat:=[0,2,3,7,10,14,21]
def r_state_block:List ResultVar:=[.tmp 2]
noncomputable def c_state_block:Code:=(Go.Proofs.Tryz.f16.body).getD .skip
theorem b_state_block:Go.Proofs.Tryz.f16.body=some c_state_block:=by kernel_rfl
noncomputable def c_state_block_rrr:Code:=(rgt (rgt (rgt c_state_block)))
theorem e_state_block (s:Nat) (m:Mem) (R:Value→Mem→Prop)
  (h:CallM PP f_state_bit #[.pointer (some ⟨s,0,none⟩)] m fun v2 m3=>∃ x1,v2=.int .i64 x1∧CallM PP f_state_bits #[.pointer (some ⟨s,0,none⟩),.int .i64 2] m3 fun v5 m6=>∃ x4,v5=.int .i64 x4∧ifB (x4 == 0) (CallM PP f_state_stored #[.pointer (some ⟨s,0,none⟩)] m6 fun v7 m8=>v7=.tuple #[]∧WPS PP 27 c_state_block_rrr (retK PP r_state_block R) [(0,.pointer (some ⟨s,0,none⟩)),(2,.bool false),(3,.int .i64 x1),(7,.int .i64 x4)] m8) (ifB (x4 == 1) (CallM PP f_spec_fixed #[] m6 fun v15 m16=>∃ a9 l10,∃ k11 a12,∃ l13 k14,v15=.tuple #[.slice a9 l10 k11,.slice a12 l13 k14]∧CallM PP f_state_coded #[.pointer (some ⟨s,0,none⟩),.slice a9 l10 k11,.slice a12 l13 k14] m16 fun v17 m18=>v17=.tuple #[]∧WPS PP 27 c_state_block_rrr (retK PP r_state_block R) [(0,.pointer (some ⟨s,0,none⟩)),(2,.bool false),(3,.int .i64 x1),(7,.int .i64 x4)] m18) (ifB (x4 == 2) (CallM PP f_state_dynamic #[.pointer (some ⟨s,0,none⟩)] m6 fun v19 m20=>v19=.tuple #[]∧WPS PP 27 c_state_block_rrr (retK PP r_state_block R) [(0,.pointer (some ⟨s,0,none⟩)),(2,.bool false),(3,.int .i64 x1),(7,.int .i64 x4)] m20) (CallM PP f_state_stop #[.pointer (some ⟨s,0,none⟩),.int .i64 2] m6 fun v21 m22=>v21=.tuple #[]∧WPS PP 27 c_state_block_rrr (retK PP r_state_block R) [(0,.pointer (some ⟨s,0,none⟩)),(2,.bool false),(3,.int .i64 x1),(7,.int .i64 x4)] m22)))  ):
  CallM PP f_state_block #[.pointer (some ⟨s,0,none⟩)] m R:=
 callM_enter ffOk mixedOk 27 L_state_block Tryz.func16 b_state_block Tryz.ntmps16 (by simp) (Eq.mpr (by kernel_rfl) h)
theorem p_state_block_rrr (x1:Int) (m:Mem) (K:Kont)
  (h:K.kr [(2,.bool (x1 == 1)),(3,.int .i64 x1)] m):
  wpc PP FF 27 L_state_block c_state_block_rrr K [(3,.int .i64 x1)] m:=
 Eq.mpr (by kernel_rfl) h
def L_state_stop:List Nat:=[0,1,8]
def r_state_stop:List ResultVar:=[]
noncomputable def c_state_stop:Code:=(Go.Proofs.Tryz.f17.body).getD .skip
theorem b_state_stop:Go.Proofs.Tryz.f17.body=some c_state_stop:=by kernel_rfl
theorem e_state_stop (s:Nat) (x1:Int) (m:Mem) (R:Value→Mem→Prop)
  (h:∃ x2,cell? m ⟨s,4,none⟩=some (.int .i64 x2)∧ifB (decide (x2 < 0)) (StW m ⟨s,4,none⟩ (.int .i64 x1) fun m3=>R (.tuple #[]) m3) (R (.tuple #[]) m)):
  CallM PP f_state_stop #[.pointer (some ⟨s,0,none⟩),.int .i64 x1] m R:=
 callM_enter ffOk mixedOk 13 L_state_stop Tryz.func17 b_state_stop Tryz.ntmps17 (by simp) (Eq.mpr (by kernel_rfl) h)
def L_impl_all:List Nat:=[0,1,4,5,6,7,8,9,14,27]
def r_impl_all:List ResultVar:=[.tmp 4,.tmp 5]
noncomputable def c_impl_all:Code:=(Go.Proofs.Tryz.f18.body).getD .skip
theorem b_impl_all:Go.Proofs.Tryz.f18.body=some c_impl_all:=by kernel_rfl
noncomputable def c_impl_all_rrrr:Code:=(rgt (rgt (rgt (rgt c_impl_all))))
noncomputable def c_impl_all_rrrll:Code:=(lft (lft (rgt (rgt (rgt c_impl_all)))))
noncomputable def c_impl_all_rrrlll:Code:=(lft c_impl_all_rrrll)
theorem q_impl_all_rrrll:c_impl_all_rrrll=.loop c_impl_all_rrrlll:=by kernel_rfl
theorem e_impl_all (v1:Value) (x2:Int) (m:Mem) (R:Value→Mem→Prop)
  (h:SemW PP (sv (Instr.makeSlice t_s_uint8 (.int .i64 1000) (.int .i64 1000))) m (NextW PP fun v6 m7=>∃ a3 l4 k5,v6=.slice a3 l4 k5∧WPS PP 32 c_impl_all_rrrll (((retK PP r_impl_all R).withN fun r m=>WPS PP 32 c_impl_all_rrrr (retK PP r_impl_all R) r m).withX 0) [(0,v1),(1,.int .i64 x2),(4,.slice none 0 0),(5,.int .i64 0),(6,.slice none 0 0),(7,.slice a3 l4 k5)] m7)):
  CallM PP f_impl_all #[v1,.int .i64 x2] m R:=
 callM_enter ffOk mixedOk 32 L_impl_all Tryz.func18 b_impl_all Tryz.ntmps18 (by simp) (Eq.mpr (by kernel_rfl) h)
theorem p_impl_all_rrrr (a1:Option Addr) (l2:Nat) (k3:Nat) (m:Mem) (K:Kont)
  (h:K.kr [(4,.slice a1 l2 k3),(5,.int .i64 0),(6,.slice a1 l2 k3)] m):
  wpc PP FF 32 L_impl_all c_impl_all_rrrr K [(6,.slice a1 l2 k3)] m:=
 Eq.mpr (by kernel_rfl) h
theorem p_impl_all_rrrlll (v1:Value) (x2:Int) (a3:Option Addr) (l4:Nat) (k5:Nat) (a6:Option Addr) (l7:Nat) (k8:Nat) (m:Mem) (K:Kont)
  (h:ifB (decide ((l4:Int)≤x2)) (SemW PP (callMethod v1 "Read" #[.slice a6 l7 k8]) m (NextW PP fun v11 m12=>∃ x9 v10,v11=.tuple #[.int .i64 x9,v10]∧l7≤k8∧(0≤x9∧x9≤(k8:Int))∧SemW PP (builtin .append #[t_s_uint8,t_s_uint8] t_s_uint8 #[false,false] #[.slice a3 l4 k5,.slice a6 x9.toNat k8]) m12 (NextW PP fun v16 m17=>∃ a13 l14 k15,v16=.slice a13 l14 k15∧isIfc v10=true∧ifB (!(isNil v10)) (CallM PP f_impl_code #[v10] m17 fun v19 m20=>∃ x18,v19=.int .i64 x18∧K.kr [(0,v1),(1,.int .i64 x2),(4,.slice a13 l14 k15),(5,.int .i64 x18),(6,.slice a13 l14 k15),(7,.slice a6 l7 k8),(8,.int .i64 x9),(9,v10)] m20) (K.kn [(0,v1),(1,.int .i64 x2),(6,.slice a13 l14 k15),(7,.slice a6 l7 k8),(8,.int .i64 x9),(9,v10)] m17)))) (K.kx 0 [(0,v1),(1,.int .i64 x2),(6,.slice a3 l4 k5),(7,.slice a6 l7 k8)] m)):
  wpc PP FF 32 L_impl_all c_impl_all_rrrlll K [(0,v1),(1,.int .i64 x2),(6,.slice a3 l4 k5),(7,.slice a6 l7 k8)] m:=
 Eq.mpr (by kernel_rfl) h
def L_inflate_NewReader:List Nat:=[0,2,3]
def r_inflate_NewReader:List ResultVar:=[.tmp 2]
noncomputable def c_inflate_NewReader:Code:=(Go.Proofs.Tryz.f19.body).getD .skip
theorem b_inflate_NewReader:Go.Proofs.Tryz.f19.body=some c_inflate_NewReader:=by kernel_rfl
theorem e_inflate_NewReader (v1:Value) (m:Mem) (R:Value→Mem→Prop)
  (h:AllocW PP t_flate_decompressor m fun n2 m3=>CallM PP f_decompressor_makeReader #[.pointer (some ⟨n2,0,none⟩),v1] m3 fun v4 m5=>v4=.tuple #[]∧AllocW PP t_316_int m5 fun n6 m7=>StW m7 ⟨n2,1035,none⟩ (.pointer (some ⟨n6,0,none⟩)) fun m8=>AllocW PP t_19_int m8 fun n9 m10=>StW m10 ⟨n2,1036,none⟩ (.pointer (some ⟨n9,0,none⟩)) fun m11=>StW m11 ⟨n2,1045,none⟩ (.func (.func f_decompressor_nextBlock) #[] #[]) fun m12=>CallM PP f_dictDecoder_init #[.pointer (some ⟨n2,1037,none⟩),.int .i64 32768,.slice none 0 0] m12 fun v13 m14=>v13=.tuple #[]∧R (.iface t_p_flate_decompressor (.pointer (some ⟨n2,0,none⟩))) m14):
  CallM PP f_inflate_NewReader #[v1] m R:=
 callM_enter ffOk mixedOk 14 L_inflate_NewReader Tryz.func19 b_inflate_NewReader Tryz.ntmps19 (by simp) (Eq.mpr (by kernel_rfl) h)
def L_impl_source:List Nat:=[0,2]
def r_impl_source:List ResultVar:=[.tmp 2]
noncomputable def c_impl_source:Code:=(Go.Proofs.Tryz.f20.body).getD .skip
theorem b_impl_source:Go.Proofs.Tryz.f20.body=some c_impl_source:=by kernel_rfl
theorem e_impl_source (a1:Option Addr) (l2:Nat) (k3:Nat) (m:Mem) (R:Value→Mem→Prop)
  (h:SemW PP (sv (Instr.buildSlice t_s_uint8 0 #[])) m (NextW PP fun v7 m8=>∃ a4 l5 k6,v7=.slice a4 l5 k6∧SemW PP (builtin .append #[t_s_uint8,t_s_uint8] t_s_uint8 #[false,false] #[.slice a4 l5 k6,.slice a1 l2 k3]) m8 (NextW PP fun v12 m13=>∃ a9 l10 k11,v12=.slice a9 l10 k11∧CallM PP f_bytes_NewReader #[.slice a9 l10 k11] m13 fun v15 m16=>∃ p14,v15=.pointer p14∧R (.pointer p14) m16))):
  CallM PP f_impl_source #[.slice a1 l2 k3] m R:=
 callM_enter ffOk mixedOk 7 L_impl_source Tryz.func20 b_impl_source Tryz.ntmps20 (by simp) (Eq.mpr (by kernel_rfl) h)
def L_laws_begins:List Nat:=[0,1,4,5,10,12,13,14,24]
def r_laws_begins:List ResultVar:=[.tmp 4]
noncomputable def c_laws_begins:Code:=(Go.Proofs.Tryz.f21.body).getD .skip
theorem b_laws_begins:Go.Proofs.Tryz.f21.body=some c_laws_begins:=by kernel_rfl
noncomputable def c_laws_begins_rrr:Code:=(rgt (rgt (rgt c_laws_begins)))
noncomputable def c_laws_begins_rrlrl:Code:=(lft (rgt (lft (rgt (rgt c_laws_begins)))))
noncomputable def c_laws_begins_rrlrll:Code:=(lft c_laws_begins_rrlrl)
theorem q_laws_begins_rrlrl:c_laws_begins_rrlrl=.loop c_laws_begins_rrlrll:=by kernel_rfl
theorem e_laws_begins (a1:Option Addr) (l2:Nat) (k3:Nat) (a4:Option Addr) (l5:Nat) (k6:Nat) (m:Mem) (R:Value→Mem→Prop)
  (h:ifB (decide ((l5:Int) > (l2:Int))) (R (.bool false) m) (WPS PP 26 c_laws_begins_rrlrl (((retK PP r_laws_begins R).withN fun r m=>WPS PP 26 c_laws_begins_rrr (retK PP r_laws_begins R) r m).withX 0) [(0,.slice a1 l2 k3),(1,.slice a4 l5 k6),(4,.bool false),(12,.int .i64 (l5:Int)),(13,.int .i64 0)] m)):
  CallM PP f_laws_begins #[.slice a1 l2 k3,.slice a4 l5 k6] m R:=
 callM_enter ffOk mixedOk 26 L_laws_begins Tryz.func21 b_laws_begins Tryz.ntmps21 (by simp) (Eq.mpr (by kernel_rfl) h)
theorem p_laws_begins_rrr  (m:Mem) (K:Kont)
  (h:K.kr [(4,.bool true)] m  ):
  wpc PP FF 26 L_laws_begins c_laws_begins_rrr K [] m:=
 Eq.mpr (by kernel_rfl) h
theorem p_laws_begins_rrlrll (a1:Option Addr) (l2:Nat) (k3:Nat) (a4:Option Addr) (l5:Nat) (k6:Nat) (x7:Int) (x8:Int) (m:Mem) (K:Kont)
  (h:ifB (decide (x8 < x7)) (onSome a1 fun p9=>(0≤x8∧x8 < (l2:Int))∧∃ x10,cell? m (aplus p9 x8.toNat)=some (.int .u8 x10)∧onSome a4 fun p11=>(0≤x8∧x8 < (l5:Int))∧∃ x12,cell? m (aplus p11 x8.toNat)=some (.int .u8 x12)∧ifB (x10 != x12) (K.kr [(0,.slice a1 l2 k3),(1,.slice a4 l5 k6),(4,.bool false),(5,.int .i64 x8),(12,.int .i64 x7),(13,.int .i64 x8)] m) (K.kn [(0,.slice a1 l2 k3),(1,.slice a4 l5 k6),(5,.int .i64 x8),(12,.int .i64 x7),(13,.int .i64 (IntKind.wrap .i64 (x8+1)))] m)) (K.kx 0 [(0,.slice a1 l2 k3),(1,.slice a4 l5 k6),(12,.int .i64 x7),(13,.int .i64 x8)] m)):
  wpc PP FF 26 L_laws_begins c_laws_begins_rrlrll K [(0,.slice a1 l2 k3),(1,.slice a4 l5 k6),(12,.int .i64 x7),(13,.int .i64 x8)] m:=
 Eq.mpr (by kernel_rfl) h
def L_spec_Distance:List Nat:=[0,2,3,4,5,14]
def r_spec_Distance:List ResultVar:=[.tmp 2,.tmp 3]
noncomputable def c_spec_Distance:Code:=(Go.Proofs.Tryz.f22.body).getD .skip
theorem b_spec_Distance:Go.Proofs.Tryz.f22.body=some c_spec_Distance:=by kernel_rfl
theorem e_spec_Distance (x1:Int) (m:Mem) (R:Value→Mem→Prop)
  (h:ifB (decide (x1 ≥ 0)) (ifB (decide (x1≤3)) (R (.tuple #[.int .i64 (IntKind.wrap .i64 (x1+1)),.int .i64 0]) m) (ifB (decide (x1 ≥ 4)) (ifB (decide (x1≤29)) (IntKind.i64=IntKind.i64∧(2:Int)≠0∧IntKind.i64=IntKind.i64∧(2:Int)≠0∧0≤(IntKind.wrap .i64 ((IntKind.wrap .i64 (Int.tdiv x1 2)) - 1))∧R (.tuple #[.int .i64 (IntKind.wrap .i64 (1+(shlOp .i64 (IntKind.wrap .i64 (2+(Int.tmod x1 2))) (IntKind.wrap .i64 ((IntKind.wrap .i64 (Int.tdiv x1 2)) - 1))))),.int .i64 (IntKind.wrap .i64 ((IntKind.wrap .i64 (Int.tdiv x1 2)) - 1))]) m) (R (.tuple #[.int .i64 0,.int .i64 0]) m)) (R (.tuple #[.int .i64 0,.int .i64 0]) m))) (ifB (decide (x1 ≥ 4)) (ifB (decide (x1≤29)) (IntKind.i64=IntKind.i64∧(2:Int)≠0∧IntKind.i64=IntKind.i64∧(2:Int)≠0∧0≤(IntKind.wrap .i64 ((IntKind.wrap .i64 (Int.tdiv x1 2)) - 1))∧R (.tuple #[.int .i64 (IntKind.wrap .i64 (1+(shlOp .i64 (IntKind.wrap .i64 (2+(Int.tmod x1 2))) (IntKind.wrap .i64 ((IntKind.wrap .i64 (Int.tdiv x1 2)) - 1))))),.int .i64 (IntKind.wrap .i64 ((IntKind.wrap .i64 (Int.tdiv x1 2)) - 1))]) m) (R (.tuple #[.int .i64 0,.int .i64 0]) m)) (R (.tuple #[.int .i64 0,.int .i64 0]) m))):
  CallM PP f_spec_Distance #[.int .i64 x1] m R:=
 callM_enter ffOk mixedOk 31 L_spec_Distance Tryz.func22 b_spec_Distance Tryz.ntmps22 (by simp) (Eq.mpr (by kernel_rfl) h)
def L_reader_length:List Nat:=[0,2]
def r_reader_length:List ResultVar:=[.tmp 2]
noncomputable def c_reader_length:Code:=(Go.Proofs.Tryz.f23.body).getD .skip
theorem b_reader_length:Go.Proofs.Tryz.f23.body=some c_reader_length:=by kernel_rfl
theorem e_reader_length (r:Nat) (m:Mem) (R:Value→Mem→Prop)
  (h:CallM PP f_reader_pick #[.pointer (some ⟨r,0,none⟩),.int .i64 256] m fun v2 m3=>∃ x1,v2=.int .i64 x1∧SemW PP (sv (Instr.buildSlice t_s_int 8 #[(0,.int .i64 3),(1,.int .i64 4),(2,.int .i64 10),(3,.int .i64 11),(4,.int .i64 18),(5,.int .i64 257),(6,.int .i64 258),(7,.int .i64 (IntKind.wrap .i64 (3+x1)))])) m3 (NextW PP fun v7 m8=>∃ a4 l5 k6,v7=.slice a4 l5 k6∧CallM PP f_reader_one #[.pointer (some ⟨r,0,none⟩),.slice a4 l5 k6] m8 fun v10 m11=>∃ x9,v10=.int .i64 x9∧R (.int .i64 x9) m11)  ):
  CallM PP f_reader_length #[.pointer (some ⟨r,0,none⟩)] m R:=
 callM_enter ffOk mixedOk 9 L_reader_length Tryz.func23 b_reader_length Tryz.ntmps23 (by simp) (Eq.mpr (by kernel_rfl) h)
def L_spec_needs:List Nat:=[0,2,3,4,5,7,8,11,18,19,20,21,26]
def r_spec_needs:List ResultVar:=[.tmp 2,.tmp 3]
noncomputable def c_spec_needs:Code:=(Go.Proofs.Tryz.f24.body).getD .skip
theorem b_spec_needs:Go.Proofs.Tryz.f24.body=some c_spec_needs:=by kernel_rfl
noncomputable def c_spec_needs_rr:Code:=(rgt (rgt c_spec_needs))
noncomputable def c_spec_needs_rrrr:Code:=(rgt (rgt c_spec_needs_rr))
noncomputable def c_spec_needs_rrrlrl:Code:=(lft (rgt (lft (rgt c_spec_needs_rr))))
noncomputable def c_spec_needs_rrrlrll:Code:=(lft c_spec_needs_rrrlrl)
noncomputable def c_spec_needs_rrrlrllrrr:Code:=(rgt (rgt (rgt c_spec_needs_rrrlrll)))
theorem q_spec_needs_rrrlrl:c_spec_needs_rrrlrl=.loop c_spec_needs_rrrlrll:=by kernel_rfl
theorem p_spec_needs_rr (a1:Option Addr) (l2:Nat) (k3:Nat) (a4:Option Addr) (l5:Nat) (k6:Nat) (a7:Option Addr) (l8:Nat) (k9:Nat) (m:Mem) (K:Kont)
  (h:onSome a4 fun p10=>(0≤(256:Int)∧(256:Int) < (l5:Int))∧StW m (aplus p10 256) (.bool true) fun m11=>WPS PP 54 c_spec_needs_rrrlrl ((K.withN fun r m=>WPS PP 54 c_spec_needs_rrrr K r m).withX 0) [(0,.slice a1 l2 k3),(4,.slice a4 l5 k6),(5,.slice a7 l8 k9),(18,.slice a1 l2 k3),(19,.int .i64 (l2:Int)),(20,.int .i64 0)] m11):
  wpc PP FF 54 L_spec_needs c_spec_needs_rr K [(0,.slice a1 l2 k3),(4,.slice a4 l5 k6),(5,.slice a7 l8 k9)] m:=
 Eq.mpr (by kernel_rfl) h
theorem p_spec_needs_rrrlrll (a1:Option Addr) (l2:Nat) (k3:Nat) (a4:Option Addr) (l5:Nat) (k6:Nat) (a7:Option Addr) (l8:Nat) (k9:Nat) (x10:Int) (x11:Int) (m:Mem) (K:Kont)
  (h:ifB (decide (x11 < x10)) (onSome a7 fun p12=>(0≤x11∧x11 < (l8:Int))∧∃ x13 x14 x15,([.int .u8 x13,.int .i64 x14,.int .i64 x15]:List Value).length=3∧CellsAre m (aplus p12 (x11.toNat * 3)) 0 [.int .u8 x13,.int .i64 x14,.int .i64 x15]∧AllocW PP t_spec_Item m fun n16 m17=>StAgg PP t_spec_Item m17 ⟨n16,0,none⟩ (.agg #[.int .u8 x13,.int .i64 x14,.int .i64 x15]) fun m18=>∃ x19,cell? m18 ⟨n16,1,none⟩=some (.int .i64 x19)∧ifB (x19 == 0) (∃ x20,cell? m18 ⟨n16,0,none⟩=some (.int .u8 x20)∧onSome a1 fun p21=>(0≤x20∧x20 < (l2:Int))∧StW m18 (aplus p21 x20.toNat) (.bool true) fun m22=>WPS PP 54 c_spec_needs_rrrlrllrrr K [(4,.slice a1 l2 k3),(5,.slice a4 l5 k6),(7,.pointer (some ⟨n16,0,none⟩)),(18,.slice a7 l8 k9),(19,.int .i64 x10),(20,.int .i64 x11)] m22) (∃ x23,cell? m18 ⟨n16,1,none⟩=some (.int .i64 x23)∧CallM PP f_spec_LengthCode #[.int .i64 x23] m18 fun v27 m28=>∃ x24 x25 x26,v27=.tuple #[.int .i64 x24,.int .i64 x25,.int .i64 x26]∧∃ x29,cell? m28 ⟨n16,2,none⟩=some (.int .i64 x29)∧CallM PP f_spec_DistanceCode #[.int .i64 x29] m28 fun v33 m34=>∃ x30 x31 x32,v33=.tuple #[.int .i64 x30,.int .i64 x31,.int .i64 x32]∧onSome a1 fun p35=>(0≤x24∧x24 < (l2:Int))∧StW m34 (aplus p35 x24.toNat) (.bool true) fun m36=>onSome a4 fun p37=>(0≤x30∧x30 < (l5:Int))∧StW m36 (aplus p37 x30.toNat) (.bool true) fun m38=>WPS PP 54 c_spec_needs_rrrlrllrrr K [(4,.slice a1 l2 k3),(5,.slice a4 l5 k6),(7,.pointer (some ⟨n16,0,none⟩)),(8,.int .i64 x24),(11,.int .i64 x30),(18,.slice a7 l8 k9),(19,.int .i64 x10),(20,.int .i64 x11)] m38)) (K.kx 0 [(4,.slice a1 l2 k3),(5,.slice a4 l5 k6),(18,.slice a7 l8 k9),(19,.int .i64 x10),(20,.int .i64 x11)] m)):
  wpc PP FF 54 L_spec_needs c_spec_needs_rrrlrll K [(4,.slice a1 l2 k3),(5,.slice a4 l5 k6),(18,.slice a7 l8 k9),(19,.int .i64 x10),(20,.int .i64 x11)] m:=
 Eq.mpr (by kernel_rfl) h
theorem p_spec_needs_rrrr (a1:Option Addr) (l2:Nat) (k3:Nat) (a4:Option Addr) (l5:Nat) (k6:Nat) (m:Mem) (K:Kont)
  (h:K.kr [(2,.slice a1 l2 k3),(3,.slice a4 l5 k6),(4,.slice a1 l2 k3),(5,.slice a4 l5 k6)] m):
  wpc PP FF 54 L_spec_needs c_spec_needs_rrrr K [(4,.slice a1 l2 k3),(5,.slice a4 l5 k6)] m:=
 Eq.mpr (by kernel_rfl) h
theorem p_spec_needs_rrrlrllrrr (a1:Option Addr) (l2:Nat) (k3:Nat) (a4:Option Addr) (l5:Nat) (k6:Nat) (a7:Option Addr) (l8:Nat) (k9:Nat) (x10:Int) (x11:Int) (m:Mem) (K:Kont)
  (h:K.kn [(4,.slice a1 l2 k3),(5,.slice a4 l5 k6),(18,.slice a7 l8 k9),(19,.int .i64 x10),(20,.int .i64 (IntKind.wrap .i64 (x11+1)))] m):
  wpc PP FF 54 L_spec_needs c_spec_needs_rrrlrllrrr K [(4,.slice a1 l2 k3),(5,.slice a4 l5 k6),(18,.slice a7 l8 k9),(19,.int .i64 x10),(20,.int .i64 x11)] m:=
 Eq.mpr (by kernel_rfl) h
theorem i_spec_needs:∃ fn,PP.funcs[f_spec_needs]?=some fn∧fn.body=some c_spec_needs∧fn.ntmps=54∧fn.results.toList=r_spec_needs:=⟨_,Tryz.func24,b_spec_needs,Tryz.ntmps24,by kernel_rfl⟩
def L_reader_lengthsOf:List Nat:=[0,1,2,6,7,8,9,10,11,12,13,14,15,16,17,18,19,28,36,48,58,68,91,92,93]
def r_reader_lengthsOf:List ResultVar:=[.tmp 6]
noncomputable def c_reader_lengthsOf:Code:=(Go.Proofs.Tryz.f25.body).getD .skip
theorem b_reader_lengthsOf:Go.Proofs.Tryz.f25.body=some c_reader_lengthsOf:=by kernel_rfl
noncomputable def c_reader_lengthsOf_rrr:Code:=(rgt (rgt (rgt c_reader_lengthsOf)))
noncomputable def c_reader_lengthsOf_rrrr:Code:=(rgt c_reader_lengthsOf_rrr)
noncomputable def c_reader_lengthsOf_rrlrl:Code:=(lft (rgt (lft (rgt (rgt c_reader_lengthsOf)))))
noncomputable def c_reader_lengthsOf_rrlrll:Code:=(lft c_reader_lengthsOf_rrlrl)
noncomputable def c_reader_lengthsOf_rrrlrl:Code:=(lft (rgt (lft c_reader_lengthsOf_rrr)))
noncomputable def c_reader_lengthsOf_rrrrrr:Code:=(rgt (rgt c_reader_lengthsOf_rrrr))
noncomputable def c_reader_lengthsOf_rrrlrll:Code:=(lft c_reader_lengthsOf_rrrlrl)
noncomputable def c_reader_lengthsOf_rrrrrll:Code:=(lft (lft (rgt c_reader_lengthsOf_rrrr)))
noncomputable def c_reader_lengthsOf_rrrrrlll:Code:=(lft c_reader_lengthsOf_rrrrrll)
noncomputable def c_reader_lengthsOf_rrrrrrrr:Code:=(rgt (rgt c_reader_lengthsOf_rrrrrr))
noncomputable def c_reader_lengthsOf_rrlrllrrr:Code:=(rgt (rgt (rgt c_reader_lengthsOf_rrlrll)))
noncomputable def c_reader_lengthsOf_rrrlrllrr:Code:=(rgt (rgt c_reader_lengthsOf_rrrlrll))
noncomputable def c_reader_lengthsOf_rrrrrrrlrl:Code:=(lft (rgt (lft (rgt c_reader_lengthsOf_rrrrrr))))
noncomputable def c_reader_lengthsOf_rrrrrrrlrll:Code:=(lft c_reader_lengthsOf_rrrrrrrlrl)
noncomputable def c_reader_lengthsOf_rrrrrlllrlrr:Code:=(rgt (rgt (lft (rgt c_reader_lengthsOf_rrrrrlll))))
noncomputable def c_reader_lengthsOf_rrrrrlllrlrll:Code:=(lft (lft (rgt (lft (rgt c_reader_lengthsOf_rrrrrlll)))))
noncomputable def c_reader_lengthsOf_rrrrrlllrlrlll:Code:=(lft c_reader_lengthsOf_rrrrrlllrlrll)
theorem q_reader_lengthsOf_rrlrl:c_reader_lengthsOf_rrlrl=.loop c_reader_lengthsOf_rrlrll:=by kernel_rfl
theorem q_reader_lengthsOf_rrrlrl:c_reader_lengthsOf_rrrlrl=.loop c_reader_lengthsOf_rrrlrll:=by kernel_rfl
theorem q_reader_lengthsOf_rrrrrll:c_reader_lengthsOf_rrrrrll=.loop c_reader_lengthsOf_rrrrrlll:=by kernel_rfl
theorem q_reader_lengthsOf_rrrrrrrlrl:c_reader_lengthsOf_rrrrrrrlrl=.loop c_reader_lengthsOf_rrrrrrrlrll:=by kernel_rfl
theorem q_reader_lengthsOf_rrrrrlllrlrll:c_reader_lengthsOf_rrrrrlllrlrll=.loop c_reader_lengthsOf_rrrrrlllrlrlll:=by kernel_rfl
theorem e_reader_lengthsOf (r:Nat) (a1:Option Addr) (l2:Nat) (k3:Nat) (x4:Int) (m:Mem) (R:Value→Mem→Prop)
  (h:WPS PP 129 c_reader_lengthsOf_rrlrl (((retK PP r_reader_lengthsOf R).withN fun r m=>WPS PP 129 c_reader_lengthsOf_rrr (retK PP r_reader_lengthsOf R) r m).withX 0) [(0,.pointer (some ⟨r,0,none⟩)),(1,.slice a1 l2 k3),(2,.int .i64 x4),(6,.slice none 0 0),(7,.slice none 0 0),(16,.slice a1 l2 k3),(17,.int .i64 (l2:Int)),(18,.int .i64 0)] m):
  CallM PP f_reader_lengthsOf #[.pointer (some ⟨r,0,none⟩),.slice a1 l2 k3,.int .i64 x4] m R:=
 callM_enter ffOk mixedOk 129 L_reader_lengthsOf Tryz.func25 b_reader_lengthsOf Tryz.ntmps25 (by simp) (Eq.mpr (by kernel_rfl) h)
theorem p_reader_lengthsOf_rrr (r:Nat) (a1:Option Addr) (l2:Nat) (k3:Nat) (x4:Int) (a5:Option Addr) (l6:Nat) (k7:Nat) (m:Mem) (K:Kont)
  (h:WPS PP 129 c_reader_lengthsOf_rrrlrl ((K.withN fun r m=>WPS PP 129 c_reader_lengthsOf_rrrr K r m).withX 2) [(0,.pointer (some ⟨r,0,none⟩)),(1,.slice a1 l2 k3),(2,.int .i64 x4),(7,.slice a5 l6 k7),(10,.int .i64 0)] m):
  wpc PP FF 129 L_reader_lengthsOf c_reader_lengthsOf_rrr K [(0,.pointer (some ⟨r,0,none⟩)),(1,.slice a1 l2 k3),(2,.int .i64 x4),(7,.slice a5 l6 k7)] m:=
 Eq.mpr (by kernel_rfl) h
theorem p_reader_lengthsOf_rrlrll (r:Nat) (a1:Option Addr) (l2:Nat) (k3:Nat) (x4:Int) (a5:Option Addr) (l6:Nat) (k7:Nat) (a8:Option Addr) (l9:Nat) (k10:Nat) (x11:Int) (x12:Int) (m:Mem) (K:Kont)
  (h:ifB (decide (x12 < x11)) (onSome a8 fun p13=>(0≤x12∧x12 < (l9:Int))∧∃ b14,cell? m (aplus p13 x12.toNat)=some (.bool b14)∧ifB b14 (SemW PP (sv (Instr.buildSlice t_s_int 1 #[(0,.int .i64 x12)])) m (NextW PP fun v18 m19=>∃ a15 l16 k17,v18=.slice a15 l16 k17∧SemW PP (builtin .append #[t_s_int,t_s_int] t_s_int #[false,false] #[.slice a5 l6 k7,.slice a15 l16 k17]) m19 (NextW PP fun v23 m24=>∃ a20 l21 k22,v23=.slice a20 l21 k22∧WPS PP 129 c_reader_lengthsOf_rrlrllrrr K [(0,.pointer (some ⟨r,0,none⟩)),(1,.slice a1 l2 k3),(2,.int .i64 x4),(7,.slice a20 l21 k22),(8,.int .i64 x12),(9,.bool b14),(16,.slice a8 l9 k10),(17,.int .i64 x11),(18,.int .i64 x12)] m24))) (CallM PP f_reader_pick #[.pointer (some ⟨r,0,none⟩),.int .i64 40] m fun v26 m27=>∃ x25,v26=.int .i64 x25∧ifB (x25 == 0) (SemW PP (sv (Instr.buildSlice t_s_int 1 #[(0,.int .i64 x12)])) m27 (NextW PP fun v31 m32=>∃ a28 l29 k30,v31=.slice a28 l29 k30∧SemW PP (builtin .append #[t_s_int,t_s_int] t_s_int #[false,false] #[.slice a5 l6 k7,.slice a28 l29 k30]) m32 (NextW PP fun v36 m37=>∃ a33 l34 k35,v36=.slice a33 l34 k35∧WPS PP 129 c_reader_lengthsOf_rrlrllrrr K [(0,.pointer (some ⟨r,0,none⟩)),(1,.slice a1 l2 k3),(2,.int .i64 x4),(7,.slice a33 l34 k35),(8,.int .i64 x12),(9,.bool b14),(16,.slice a8 l9 k10),(17,.int .i64 x11),(18,.int .i64 x12)] m37))) (WPS PP 129 c_reader_lengthsOf_rrlrllrrr K [(0,.pointer (some ⟨r,0,none⟩)),(1,.slice a1 l2 k3),(2,.int .i64 x4),(7,.slice a5 l6 k7),(8,.int .i64 x12),(9,.bool b14),(16,.slice a8 l9 k10),(17,.int .i64 x11),(18,.int .i64 x12)] m27))) (K.kx 0 [(0,.pointer (some ⟨r,0,none⟩)),(1,.slice a1 l2 k3),(2,.int .i64 x4),(7,.slice a5 l6 k7),(16,.slice a8 l9 k10),(17,.int .i64 x11),(18,.int .i64 x12)] m)):
  wpc PP FF 129 L_reader_lengthsOf c_reader_lengthsOf_rrlrll K [(0,.pointer (some ⟨r,0,none⟩)),(1,.slice a1 l2 k3),(2,.int .i64 x4),(7,.slice a5 l6 k7),(16,.slice a8 l9 k10),(17,.int .i64 x11),(18,.int .i64 x12)] m:=
 Eq.mpr (by kernel_rfl) h
theorem p_reader_lengthsOf_rrrlrll (r:Nat) (a1:Option Addr) (l2:Nat) (k3:Nat) (x4:Int) (a5:Option Addr) (l6:Nat) (k7:Nat) (x8:Int) (m:Mem) (K:Kont)
  (h:ifB (decide ((l6:Int) < 2)) (ifB ((l6:Int) == 0) (SemW PP (sv (Instr.buildSlice t_s_int 1 #[(0,.int .i64 x8)])) m (NextW PP fun v12 m13=>∃ a9 l10 k11,v12=.slice a9 l10 k11∧SemW PP (builtin .append #[t_s_int,t_s_int] t_s_int #[false,false] #[.slice a5 l6 k7,.slice a9 l10 k11]) m13 (NextW PP fun v17 m18=>∃ a14 l15 k16,v17=.slice a14 l15 k16∧WPS PP 129 c_reader_lengthsOf_rrrlrllrr K [(0,.pointer (some ⟨r,0,none⟩)),(1,.slice a1 l2 k3),(2,.int .i64 x4),(7,.slice a14 l15 k16),(10,.int .i64 x8)] m18))) (onSome a5 fun p19=>(0≤(0:Int)∧(0:Int) < (l6:Int))∧∃ x20,cell? m (aplus p19 0)=some (.int .i64 x20)∧ifB (x20 != x8) (SemW PP (sv (Instr.buildSlice t_s_int 1 #[(0,.int .i64 x8)])) m (NextW PP fun v24 m25=>∃ a21 l22 k23,v24=.slice a21 l22 k23∧SemW PP (builtin .append #[t_s_int,t_s_int] t_s_int #[false,false] #[.slice a5 l6 k7,.slice a21 l22 k23]) m25 (NextW PP fun v29 m30=>∃ a26 l27 k28,v29=.slice a26 l27 k28∧WPS PP 129 c_reader_lengthsOf_rrrlrllrr K [(0,.pointer (some ⟨r,0,none⟩)),(1,.slice a1 l2 k3),(2,.int .i64 x4),(7,.slice a26 l27 k28),(10,.int .i64 x8)] m30))) (WPS PP 129 c_reader_lengthsOf_rrrlrllrr K [(0,.pointer (some ⟨r,0,none⟩)),(1,.slice a1 l2 k3),(2,.int .i64 x4),(7,.slice a5 l6 k7),(10,.int .i64 x8)] m))) (K.kx 2 [(0,.pointer (some ⟨r,0,none⟩)),(1,.slice a1 l2 k3),(2,.int .i64 x4),(7,.slice a5 l6 k7),(10,.int .i64 x8)] m)):
  wpc PP FF 129 L_reader_lengthsOf c_reader_lengthsOf_rrrlrll K [(0,.pointer (some ⟨r,0,none⟩)),(1,.slice a1 l2 k3),(2,.int .i64 x4),(7,.slice a5 l6 k7),(10,.int .i64 x8)] m:=
 Eq.mpr (by kernel_rfl) h
theorem p_reader_lengthsOf_rrrrrlll (r:Nat) (a1:Option Addr) (l2:Nat) (k3:Nat) (x4:Int) (a5:Option Addr) (l6:Nat) (k7:Nat) (a8:Option Addr) (l9:Nat) (k10:Nat) (m:Mem) (K:Kont)
  (h:ifB (decide ((l9:Int) < (l6:Int))) (CallM PP f_reader_pick #[.pointer (some ⟨r,0,none⟩),.int .i64 (l9:Int)] m fun v12 m13=>∃ x11,v12=.int .i64 x11∧WPS PP 129 c_reader_lengthsOf_rrrrrlllrlrll (((K.withX 5).withN fun r m=>WPS PP 129 c_reader_lengthsOf_rrrrrlllrlrr (K.withX 5) r m).withX 6) [(0,.pointer (some ⟨r,0,none⟩)),(1,.slice a1 l2 k3),(2,.int .i64 x4),(7,.slice a5 l6 k7),(11,.slice a8 l9 k10),(12,.int .i64 x11)] m13) (K.kx 4 [(0,.pointer (some ⟨r,0,none⟩)),(1,.slice a1 l2 k3),(2,.int .i64 x4),(7,.slice a5 l6 k7),(11,.slice a8 l9 k10)] m)):
  wpc PP FF 129 L_reader_lengthsOf c_reader_lengthsOf_rrrrrlll K [(0,.pointer (some ⟨r,0,none⟩)),(1,.slice a1 l2 k3),(2,.int .i64 x4),(7,.slice a5 l6 k7),(11,.slice a8 l9 k10)] m:=
 Eq.mpr (by kernel_rfl) h
theorem p_reader_lengthsOf_rrrrrrrlrll (r:Nat) (a1:Option Addr) (l2:Nat) (k3:Nat) (a4:Option Addr) (l5:Nat) (k6:Nat) (a7:Option Addr) (l8:Nat) (k9:Nat) (x10:Int) (x11:Int) (m:Mem) (K:Kont)
  (h:ifB (decide (x11 < x10)) (CallM PP f_reader_pick #[.pointer (some ⟨r,0,none⟩),.int .i64 (IntKind.wrap .i64 ((l2:Int) - x11))] m fun v13 m14=>∃ x12,v13=.int .i64 x12∧onSome a4 fun p15=>(0≤(IntKind.wrap .i64 (x11+x12))∧(IntKind.wrap .i64 (x11+x12)) < (l5:Int))∧∃ x16,cell? m14 (aplus p15 ((IntKind.wrap .i64 (x11+x12)).toNat))=some (.int .i64 x16)∧onSome a4 fun p17=>(0≤x11∧x11 < (l5:Int))∧∃ x18,cell? m14 (aplus p17 x11.toNat)=some (.int .i64 x18)∧onSome a4 fun p19=>(0≤x11∧x11 < (l5:Int))∧StW m14 (aplus p19 x11.toNat) (.int .i64 x16) fun m20=>onSome a4 fun p21=>(0≤(IntKind.wrap .i64 (x11+x12))∧(IntKind.wrap .i64 (x11+x12)) < (l5:Int))∧StW m20 (aplus p21 ((IntKind.wrap .i64 (x11+x12)).toNat)) (.int .i64 x18) fun m22=>onSome a1 fun p23=>(0≤x11∧x11 < (l2:Int))∧∃ x24,cell? m22 (aplus p23 x11.toNat)=some (.int .i64 x24)∧onSome a4 fun p25=>(0≤x11∧x11 < (l5:Int))∧∃ x26,cell? m22 (aplus p25 x11.toNat)=some (.int .i64 x26)∧onSome a7 fun p27=>(0≤x24∧x24 < (l8:Int))∧StW m22 (aplus p27 x24.toNat) (.int .i64 x26) fun m28=>K.kn [(0,.pointer (some ⟨r,0,none⟩)),(7,.slice a1 l2 k3),(11,.slice a4 l5 k6),(13,.slice a7 l8 k9),(14,.int .i64 x11),(15,.int .i64 (IntKind.wrap .i64 (x11+x12))),(91,.int .i64 x10),(92,.int .i64 (IntKind.wrap .i64 (x11+1)))] m28) (K.kx 8 [(0,.pointer (some ⟨r,0,none⟩)),(7,.slice a1 l2 k3),(11,.slice a4 l5 k6),(13,.slice a7 l8 k9),(91,.int .i64 x10),(92,.int .i64 x11)] m)):
  wpc PP FF 129 L_reader_lengthsOf c_reader_lengthsOf_rrrrrrrlrll K [(0,.pointer (some ⟨r,0,none⟩)),(7,.slice a1 l2 k3),(11,.slice a4 l5 k6),(13,.slice a7 l8 k9),(91,.int .i64 x10),(92,.int .i64 x11)] m:=
 Eq.mpr (by kernel_rfl) h
theorem p_reader_lengthsOf_rrrrrlllrlrlll (r:Nat) (a1:Option Addr) (l2:Nat) (k3:Nat) (x4:Int) (a5:Option Addr) (l6:Nat) (k7:Nat) (a8:Option Addr) (l9:Nat) (k10:Nat) (x11:Int) (m:Mem) (K:Kont)
  (h:onSome a8 fun p12=>(0≤x11∧x11 < (l9:Int))∧∃ x13,cell? m (aplus p12 x11.toNat)=some (.int .i64 x13)∧ifB (x13 == x4) (IntKind.i64=IntKind.i64∧(l9:Int)≠0∧K.kn [(0,.pointer (some ⟨r,0,none⟩)),(1,.slice a1 l2 k3),(2,.int .i64 x4),(7,.slice a5 l6 k7),(11,.slice a8 l9 k10),(12,.int .i64 (Int.tmod (IntKind.wrap .i64 (x11+1)) (l9:Int)))] m) (K.kx 6 [(0,.pointer (some ⟨r,0,none⟩)),(1,.slice a1 l2 k3),(2,.int .i64 x4),(7,.slice a5 l6 k7),(11,.slice a8 l9 k10),(12,.int .i64 x11)] m)):
  wpc PP FF 129 L_reader_lengthsOf c_reader_lengthsOf_rrrrrlllrlrlll K [(0,.pointer (some ⟨r,0,none⟩)),(1,.slice a1 l2 k3),(2,.int .i64 x4),(7,.slice a5 l6 k7),(11,.slice a8 l9 k10),(12,.int .i64 x11)] m:=
 Eq.mpr (by kernel_rfl) h
theorem p_reader_lengthsOf_rrrr (r:Nat) (a1:Option Addr) (l2:Nat) (k3:Nat) (x4:Int) (a5:Option Addr) (l6:Nat) (k7:Nat) (m:Mem) (K:Kont)
  (h:SemW PP (sv (Instr.buildSlice t_s_int 2 #[(0,.int .i64 1),(1,.int .i64 1)])) m (NextW PP fun v11 m12=>∃ a8 l9 k10,v11=.slice a8 l9 k10∧WPS PP 129 c_reader_lengthsOf_rrrrrll ((K.withN fun r m=>WPS PP 129 c_reader_lengthsOf_rrrrrr K r m).withX 4) [(0,.pointer (some ⟨r,0,none⟩)),(1,.slice a1 l2 k3),(2,.int .i64 x4),(7,.slice a5 l6 k7),(11,.slice a8 l9 k10)] m12)):
  wpc PP FF 129 L_reader_lengthsOf c_reader_lengthsOf_rrrr K [(0,.pointer (some ⟨r,0,none⟩)),(1,.slice a1 l2 k3),(2,.int .i64 x4),(7,.slice a5 l6 k7)] m:=
 Eq.mpr (by kernel_rfl) h
theorem p_reader_lengthsOf_rrlrllrrr (r:Nat) (a1:Option Addr) (l2:Nat) (k3:Nat) (x4:Int) (a5:Option Addr) (l6:Nat) (k7:Nat) (a8:Option Addr) (l9:Nat) (k10:Nat) (x11:Int) (x12:Int) (m:Mem) (K:Kont)
  (h:K.kn [(0,.pointer (some ⟨r,0,none⟩)),(1,.slice a1 l2 k3),(2,.int .i64 x4),(7,.slice a5 l6 k7),(16,.slice a8 l9 k10),(17,.int .i64 x11),(18,.int .i64 (IntKind.wrap .i64 (x12+1)))] m):
  wpc PP FF 129 L_reader_lengthsOf c_reader_lengthsOf_rrlrllrrr K [(0,.pointer (some ⟨r,0,none⟩)),(1,.slice a1 l2 k3),(2,.int .i64 x4),(7,.slice a5 l6 k7),(16,.slice a8 l9 k10),(17,.int .i64 x11),(18,.int .i64 x12)] m:=
 Eq.mpr (by kernel_rfl) h
theorem p_reader_lengthsOf_rrrlrllrr (r:Nat) (a1:Option Addr) (l2:Nat) (k3:Nat) (x4:Int) (a5:Option Addr) (l6:Nat) (k7:Nat) (x8:Int) (m:Mem) (K:Kont)
  (h:K.kn [(0,.pointer (some ⟨r,0,none⟩)),(1,.slice a1 l2 k3),(2,.int .i64 x4),(7,.slice a5 l6 k7),(10,.int .i64 (IntKind.wrap .i64 (x8+1)))] m):
  wpc PP FF 129 L_reader_lengthsOf c_reader_lengthsOf_rrrlrllrr K [(0,.pointer (some ⟨r,0,none⟩)),(1,.slice a1 l2 k3),(2,.int .i64 x4),(7,.slice a5 l6 k7),(10,.int .i64 x8)] m:=
 Eq.mpr (by kernel_rfl) h
theorem p_reader_lengthsOf_rrrrrlllrlrr (r:Nat) (a1:Option Addr) (l2:Nat) (k3:Nat) (x4:Int) (a5:Option Addr) (l6:Nat) (k7:Nat) (a8:Option Addr) (l9:Nat) (k10:Nat) (x11:Int) (m:Mem) (K:Kont)
  (h:onSome a8 fun p12=>(0≤x11∧x11 < (l9:Int))∧∃ x13,cell? m (aplus p12 x11.toNat)=some (.int .i64 x13)∧onSome a8 fun p14=>(0≤x11∧x11 < (l9:Int))∧StW m (aplus p14 x11.toNat) (.int .i64 (IntKind.wrap .i64 (x13+1))) fun m15=>onSome a8 fun p16=>(0≤x11∧x11 < (l9:Int))∧∃ x17,cell? m15 (aplus p16 x11.toNat)=some (.int .i64 x17)∧SemW PP (sv (Instr.buildSlice t_s_int 1 #[(0,.int .i64 x17)])) m15 (NextW PP fun v21 m22=>∃ a18 l19 k20,v21=.slice a18 l19 k20∧SemW PP (builtin .append #[t_s_int,t_s_int] t_s_int #[false,false] #[.slice a8 l9 k10,.slice a18 l19 k20]) m22 (NextW PP fun v26 m27=>∃ a23 l24 k25,v26=.slice a23 l24 k25∧K.kn [(0,.pointer (some ⟨r,0,none⟩)),(1,.slice a1 l2 k3),(2,.int .i64 x4),(7,.slice a5 l6 k7),(11,.slice a23 l24 k25),(12,.int .i64 x11)] m27))):
  wpc PP FF 129 L_reader_lengthsOf c_reader_lengthsOf_rrrrrlllrlrr K [(0,.pointer (some ⟨r,0,none⟩)),(1,.slice a1 l2 k3),(2,.int .i64 x4),(7,.slice a5 l6 k7),(11,.slice a8 l9 k10),(12,.int .i64 x11)] m:=
 Eq.mpr (by kernel_rfl) h
theorem p_reader_lengthsOf_rrrrrr (r:Nat) (a1:Option Addr) (l2:Nat) (k3:Nat) (a4:Option Addr) (l5:Nat) (k6:Nat) (a7:Option Addr) (l8:Nat) (k9:Nat) (m:Mem) (K:Kont)
  (h:SemW PP (sv (Instr.makeSlice t_s_int (.int .i64 (l2:Int)) (.int .i64 (l2:Int)))) m (NextW PP fun v13 m14=>∃ a10 l11 k12,v13=.slice a10 l11 k12∧WPS PP 129 c_reader_lengthsOf_rrrrrrrlrl ((K.withN fun r m=>WPS PP 129 c_reader_lengthsOf_rrrrrrrr K r m).withX 8) [(0,.pointer (some ⟨r,0,none⟩)),(1,.slice a1 l2 k3),(7,.slice a4 l5 k6),(11,.slice a7 l8 k9),(13,.slice a10 l11 k12),(91,.int .i64 (l5:Int)),(92,.int .i64 0)] m14)):
  wpc PP FF 129 L_reader_lengthsOf c_reader_lengthsOf_rrrrrr K [(0,.pointer (some ⟨r,0,none⟩)),(1,.slice a1 l2 k3),(7,.slice a4 l5 k6),(11,.slice a7 l8 k9)] m:=
 Eq.mpr (by kernel_rfl) h
theorem p_reader_lengthsOf_rrrrrrrr (a1:Option Addr) (l2:Nat) (k3:Nat) (m:Mem) (K:Kont)
  (h:K.kr [(6,.slice a1 l2 k3),(13,.slice a1 l2 k3)] m):
  wpc PP FF 129 L_reader_lengthsOf c_reader_lengthsOf_rrrrrrrr K [(13,.slice a1 l2 k3)] m:=
 Eq.mpr (by kernel_rfl) h
def L_Writer_Bits:List Nat:=[0,1,2,6,7,8,9]
def r_Writer_Bits:List ResultVar:=[]
noncomputable def c_Writer_Bits:Code:=(Go.Proofs.Tryz.f26.body).getD .skip
theorem b_Writer_Bits:Go.Proofs.Tryz.f26.body=some c_Writer_Bits:=by kernel_rfl
noncomputable def c_Writer_Bits_rl:Code:=(lft (rgt c_Writer_Bits))
noncomputable def c_Writer_Bits_rll:Code:=(lft c_Writer_Bits_rl)
theorem q_Writer_Bits_rl:c_Writer_Bits_rl=.loop c_Writer_Bits_rll:=by kernel_rfl
theorem e_Writer_Bits (w:Nat) (x1:Int) (x2:Int) (m:Mem) (R:Value→Mem→Prop)
  (h:WPS PP 17 c_Writer_Bits_rl ((retK PP r_Writer_Bits R).withX 0) [(0,.pointer (some ⟨w,0,none⟩)),(1,.int .i64 x1),(2,.int .i64 x2),(7,.int .i64 x2),(8,.int .i64 0)] m):
  CallM PP f_Writer_Bits #[.pointer (some ⟨w,0,none⟩),.int .i64 x1,.int .i64 x2] m R:=
 callM_enter ffOk mixedOk 17 L_Writer_Bits Tryz.func26 b_Writer_Bits Tryz.ntmps26 (by simp) (Eq.mpr (by kernel_rfl) h)
theorem p_Writer_Bits_rll (w:Nat) (x1:Int) (x2:Int) (x3:Int) (m:Mem) (K:Kont)
  (h:ifB (decide (x3 < x2)) (0≤x3∧CallM PP f_Writer_bit #[.pointer (some ⟨w,0,none⟩),.int .i64 (shrOp .i64 x1 x3)] m fun v4 m5=>v4=.tuple #[]∧K.kn [(0,.pointer (some ⟨w,0,none⟩)),(1,.int .i64 x1),(6,.int .i64 x3),(7,.int .i64 x2),(8,.int .i64 (IntKind.wrap .i64 (x3+1)))] m5) (K.kx 0 [(0,.pointer (some ⟨w,0,none⟩)),(1,.int .i64 x1),(7,.int .i64 x2),(8,.int .i64 x3)] m)):
  wpc PP FF 17 L_Writer_Bits c_Writer_Bits_rll K [(0,.pointer (some ⟨w,0,none⟩)),(1,.int .i64 x1),(7,.int .i64 x2),(8,.int .i64 x3)] m:=
 Eq.mpr (by kernel_rfl) h
def L_Writer_lengths:List Nat:=[0,1,2,3,8,9,11,12,13,15,16,18,27,28,29,30,53,72,73,74,75,87,88,89,90]
def r_Writer_lengths:List ResultVar:=[]
noncomputable def c_Writer_lengths:Code:=(Go.Proofs.Tryz.f27.body).getD .skip
theorem b_Writer_lengths:Go.Proofs.Tryz.f27.body=some c_Writer_lengths:=by kernel_rfl
noncomputable def c_Writer_lengths_rrr:Code:=(rgt (rgt (rgt c_Writer_lengths)))
noncomputable def c_Writer_lengths_rrlrl:Code:=(lft (rgt (lft (rgt (rgt c_Writer_lengths)))))
noncomputable def c_Writer_lengths_rrlrll:Code:=(lft c_Writer_lengths_rrlrl)
noncomputable def c_Writer_lengths_rrrrrr:Code:=(rgt (rgt (rgt c_Writer_lengths_rrr)))
noncomputable def c_Writer_lengths_rrrrrll:Code:=(lft (lft (rgt (rgt c_Writer_lengths_rrr))))
noncomputable def c_Writer_lengths_rrrrrlll:Code:=(lft c_Writer_lengths_rrrrrll)
noncomputable def c_Writer_lengths_rrrrrrrrrr:Code:=(rgt (rgt (rgt (rgt c_Writer_lengths_rrrrrr))))
noncomputable def c_Writer_lengths_rrrrrrrrrlrl:Code:=(lft (rgt (lft (rgt (rgt (rgt c_Writer_lengths_rrrrrr))))))
noncomputable def c_Writer_lengths_rrrrrrrrrlrll:Code:=(lft c_Writer_lengths_rrrrrrrrrlrl)
noncomputable def c_Writer_lengths_rrrrrrrrrrrrl:Code:=(lft (rgt (rgt c_Writer_lengths_rrrrrrrrrr)))
noncomputable def c_Writer_lengths_rrrrrrrrrrrrll:Code:=(lft c_Writer_lengths_rrrrrrrrrrrrl)
theorem q_Writer_lengths_rrlrl:c_Writer_lengths_rrlrl=.loop c_Writer_lengths_rrlrll:=by kernel_rfl
theorem q_Writer_lengths_rrrrrll:c_Writer_lengths_rrrrrll=.loop c_Writer_lengths_rrrrrlll:=by kernel_rfl
theorem q_Writer_lengths_rrrrrrrrrlrl:c_Writer_lengths_rrrrrrrrrlrl=.loop c_Writer_lengths_rrrrrrrrrlrll:=by kernel_rfl
theorem q_Writer_lengths_rrrrrrrrrrrrl:c_Writer_lengths_rrrrrrrrrrrrl=.loop c_Writer_lengths_rrrrrrrrrrrrll:=by kernel_rfl
theorem e_Writer_lengths (w:Nat) (p1:Option Addr) (a2:Option Addr) (l3:Nat) (k4:Nat) (a5:Option Addr) (l6:Nat) (k7:Nat) (m:Mem) (R:Value→Mem→Prop)
  (h:SemW PP (sv (Instr.buildSlice t_s_int 0 #[])) m (NextW PP fun v11 m12=>∃ a8 l9 k10,v11=.slice a8 l9 k10∧SemW PP (builtin .append #[t_s_int,t_s_int] t_s_int #[false,false] #[.slice a8 l9 k10,.slice a2 l3 k4]) m12 (NextW PP fun v16 m17=>∃ a13 l14 k15,v16=.slice a13 l14 k15∧SemW PP (builtin .append #[t_s_int,t_s_int] t_s_int #[false,false] #[.slice a13 l14 k15,.slice a5 l6 k7]) m17 (NextW PP fun v21 m22=>∃ a18 l19 k20,v21=.slice a18 l19 k20∧CallM PP f_reader_runs #[.pointer p1,.slice a18 l19 k20] m22 fun v26 m27=>∃ a23 l24 k25,v26=.slice a23 l24 k25∧SemW PP (sv (Instr.makeSlice t_s_bool (.int .i64 19) (.int .i64 19))) m27 (NextW PP fun v31 m32=>∃ a28 l29 k30,v31=.slice a28 l29 k30∧WPS PP 112 c_Writer_lengths_rrlrl (((retK PP r_Writer_lengths R).withN fun r m=>WPS PP 112 c_Writer_lengths_rrr (retK PP r_Writer_lengths R) r m).withX 0) [(0,.pointer (some ⟨w,0,none⟩)),(1,.pointer p1),(2,.slice a2 l3 k4),(3,.slice a5 l6 k7),(8,.slice a23 l24 k25),(9,.slice a28 l29 k30),(27,.slice a23 l24 k25),(28,.int .i64 (l24:Int)),(29,.int .i64 0)] m32))))):
  CallM PP f_Writer_lengths #[.pointer (some ⟨w,0,none⟩),.pointer p1,.slice a2 l3 k4,.slice a5 l6 k7] m R:=
 callM_enter ffOk mixedOk 112 L_Writer_lengths Tryz.func27 b_Writer_lengths Tryz.ntmps27 (by simp) (Eq.mpr (by kernel_rfl) h)
theorem p_Writer_lengths_rrr (w:Nat) (p1:Option Addr) (a2:Option Addr) (l3:Nat) (k4:Nat) (a5:Option Addr) (l6:Nat) (k7:Nat) (a8:Option Addr) (l9:Nat) (k10:Nat) (a11:Option Addr) (l12:Nat) (k13:Nat) (m:Mem) (K:Kont)
  (h:CallM PP f_reader_lengthsOf #[.pointer p1,.slice a11 l12 k13,.int .i64 7] m fun v17 m18=>∃ a14 l15 k16,v17=.slice a14 l15 k16∧WPS PP 112 c_Writer_lengths_rrrrrll ((K.withN fun r m=>WPS PP 112 c_Writer_lengths_rrrrrr K r m).withX 2) [(0,.pointer (some ⟨w,0,none⟩)),(1,.pointer p1),(2,.slice a2 l3 k4),(3,.slice a5 l6 k7),(8,.slice a8 l9 k10),(9,.slice a11 l12 k13),(12,.slice a14 l15 k16),(13,.int .i64 19)] m18):
  wpc PP FF 112 L_Writer_lengths c_Writer_lengths_rrr K [(0,.pointer (some ⟨w,0,none⟩)),(1,.pointer p1),(2,.slice a2 l3 k4),(3,.slice a5 l6 k7),(8,.slice a8 l9 k10),(9,.slice a11 l12 k13)] m:=
 Eq.mpr (by kernel_rfl) h
theorem p_Writer_lengths_rrlrll (w:Nat) (p1:Option Addr) (a2:Option Addr) (l3:Nat) (k4:Nat) (a5:Option Addr) (l6:Nat) (k7:Nat) (a8:Option Addr) (l9:Nat) (k10:Nat) (a11:Option Addr) (l12:Nat) (k13:Nat) (a14:Option Addr) (l15:Nat) (k16:Nat) (x17:Int) (x18:Int) (m:Mem) (K:Kont)
  (h:ifB (decide (x18 < x17)) (onSome a14 fun p19=>(0≤x18∧x18 < (l15:Int))∧∃ x20 x21 x22,([.int .i64 x20,.int .i64 x21,.int .i64 x22]:List Value).length=3∧CellsAre m (aplus p19 (x18.toNat * 3)) 0 [.int .i64 x20,.int .i64 x21,.int .i64 x22]∧AllocW PP t_spec_run m fun n23 m24=>StAgg PP t_spec_run m24 ⟨n23,0,none⟩ (.agg #[.int .i64 x20,.int .i64 x21,.int .i64 x22]) fun m25=>∃ x26,cell? m25 ⟨n23,0,none⟩=some (.int .i64 x26)∧onSome a11 fun p27=>(0≤x26∧x26 < (l12:Int))∧StW m25 (aplus p27 x26.toNat) (.bool true) fun m28=>K.kn [(0,.pointer (some ⟨w,0,none⟩)),(1,.pointer p1),(2,.slice a2 l3 k4),(3,.slice a5 l6 k7),(8,.slice a8 l9 k10),(9,.slice a11 l12 k13),(11,.pointer (some ⟨n23,0,none⟩)),(27,.slice a14 l15 k16),(28,.int .i64 x17),(29,.int .i64 (IntKind.wrap .i64 (x18+1)))] m28) (K.kx 0 [(0,.pointer (some ⟨w,0,none⟩)),(1,.pointer p1),(2,.slice a2 l3 k4),(3,.slice a5 l6 k7),(8,.slice a8 l9 k10),(9,.slice a11 l12 k13),(27,.slice a14 l15 k16),(28,.int .i64 x17),(29,.int .i64 x18)] m)):
  wpc PP FF 112 L_Writer_lengths c_Writer_lengths_rrlrll K [(0,.pointer (some ⟨w,0,none⟩)),(1,.pointer p1),(2,.slice a2 l3 k4),(3,.slice a5 l6 k7),(8,.slice a8 l9 k10),(9,.slice a11 l12 k13),(27,.slice a14 l15 k16),(28,.int .i64 x17),(29,.int .i64 x18)] m:=
 Eq.mpr (by kernel_rfl) h
theorem p_Writer_lengths_rrrrrlll (w:Nat) (a1:Option Addr) (l2:Nat) (k3:Nat) (a4:Option Addr) (l5:Nat) (k6:Nat) (a7:Option Addr) (l8:Nat) (k9:Nat) (a10:Option Addr) (l11:Nat) (k12:Nat) (x13:Int) (m:Mem) (K:Kont)
  (h:ifB (decide (x13 > 4)) (CallM PP f_spec_Order #[] m fun v17 m18=>∃ a14 l15 k16,v17=.slice a14 l15 k16∧onSome a14 fun p19=>(0≤(IntKind.wrap .i64 (x13 - 1))∧(IntKind.wrap .i64 (x13 - 1)) < (l15:Int))∧∃ x20,cell? m18 (aplus p19 ((IntKind.wrap .i64 (x13 - 1)).toNat))=some (.int .i64 x20)∧onSome a10 fun p21=>(0≤x20∧x20 < (l11:Int))∧∃ x22,cell? m18 (aplus p21 x20.toNat)=some (.int .i64 x22)∧ifB (x22 == 0) (K.kn [(0,.pointer (some ⟨w,0,none⟩)),(2,.slice a1 l2 k3),(3,.slice a4 l5 k6),(8,.slice a7 l8 k9),(12,.slice a10 l11 k12),(13,.int .i64 (IntKind.wrap .i64 (x13 - 1)))] m18) (K.kx 2 [(0,.pointer (some ⟨w,0,none⟩)),(2,.slice a1 l2 k3),(3,.slice a4 l5 k6),(8,.slice a7 l8 k9),(12,.slice a10 l11 k12),(13,.int .i64 x13)] m18)) (K.kx 2 [(0,.pointer (some ⟨w,0,none⟩)),(2,.slice a1 l2 k3),(3,.slice a4 l5 k6),(8,.slice a7 l8 k9),(12,.slice a10 l11 k12),(13,.int .i64 x13)] m)):
  wpc PP FF 112 L_Writer_lengths c_Writer_lengths_rrrrrlll K [(0,.pointer (some ⟨w,0,none⟩)),(2,.slice a1 l2 k3),(3,.slice a4 l5 k6),(8,.slice a7 l8 k9),(12,.slice a10 l11 k12),(13,.int .i64 x13)] m:=
 Eq.mpr (by kernel_rfl) h
theorem p_Writer_lengths_rrrrrrrrrlrll (w:Nat) (a1:Option Addr) (l2:Nat) (k3:Nat) (a4:Option Addr) (l5:Nat) (k6:Nat) (a7:Option Addr) (l8:Nat) (k9:Nat) (x10:Int) (x11:Int) (m:Mem) (K:Kont)
  (h:ifB (decide (x11 < x10)) (onSome a7 fun p12=>(0≤x11∧x11 < (l8:Int))∧∃ x13,cell? m (aplus p12 x11.toNat)=some (.int .i64 x13)∧onSome a4 fun p14=>(0≤x13∧x13 < (l5:Int))∧∃ x15,cell? m (aplus p14 x13.toNat)=some (.int .i64 x15)∧CallM PP f_Writer_Bits #[.pointer (some ⟨w,0,none⟩),.int .i64 x15,.int .i64 3] m fun v16 m17=>v16=.tuple #[]∧K.kn [(0,.pointer (some ⟨w,0,none⟩)),(8,.slice a1 l2 k3),(12,.slice a4 l5 k6),(15,.int .i64 x13),(72,.slice a7 l8 k9),(73,.int .i64 x10),(74,.int .i64 (IntKind.wrap .i64 (x11+1)))] m17) (K.kx 4 [(0,.pointer (some ⟨w,0,none⟩)),(8,.slice a1 l2 k3),(12,.slice a4 l5 k6),(72,.slice a7 l8 k9),(73,.int .i64 x10),(74,.int .i64 x11)] m)):
  wpc PP FF 112 L_Writer_lengths c_Writer_lengths_rrrrrrrrrlrll K [(0,.pointer (some ⟨w,0,none⟩)),(8,.slice a1 l2 k3),(12,.slice a4 l5 k6),(72,.slice a7 l8 k9),(73,.int .i64 x10),(74,.int .i64 x11)] m:=
 Eq.mpr (by kernel_rfl) h
theorem p_Writer_lengths_rrrrrrrrrrrrll (w:Nat) (a1:Option Addr) (l2:Nat) (k3:Nat) (a4:Option Addr) (l5:Nat) (k6:Nat) (a7:Option Addr) (l8:Nat) (k9:Nat) (x10:Int) (x11:Int) (m:Mem) (K:Kont)
  (h:ifB (decide (x11 < x10)) (onSome a7 fun p12=>(0≤x11∧x11 < (l8:Int))∧∃ x13 x14 x15,([.int .i64 x13,.int .i64 x14,.int .i64 x15]:List Value).length=3∧CellsAre m (aplus p12 (x11.toNat * 3)) 0 [.int .i64 x13,.int .i64 x14,.int .i64 x15]∧AllocW PP t_spec_run m fun n16 m17=>StAgg PP t_spec_run m17 ⟨n16,0,none⟩ (.agg #[.int .i64 x13,.int .i64 x14,.int .i64 x15]) fun m18=>∃ x19,cell? m18 ⟨n16,0,none⟩=some (.int .i64 x19)∧onSome a4 fun p20=>(0≤x19∧x19 < (l5:Int))∧∃ x21,cell? m18 (aplus p20 x19.toNat)=some (.int .i64 x21)∧∃ x22,cell? m18 ⟨n16,0,none⟩=some (.int .i64 x22)∧onSome a1 fun p23=>(0≤x22∧x22 < (l2:Int))∧∃ x24,cell? m18 (aplus p23 x22.toNat)=some (.int .i64 x24)∧CallM PP f_Writer_code #[.pointer (some ⟨w,0,none⟩),.int .i64 x21,.int .i64 x24] m18 fun v25 m26=>v25=.tuple #[]∧∃ x27,cell? m26 ⟨n16,1,none⟩=some (.int .i64 x27)∧∃ x28,cell? m26 ⟨n16,2,none⟩=some (.int .i64 x28)∧CallM PP f_Writer_Bits #[.pointer (some ⟨w,0,none⟩),.int .i64 x27,.int .i64 x28] m26 fun v29 m30=>v29=.tuple #[]∧K.kn [(0,.pointer (some ⟨w,0,none⟩)),(12,.slice a1 l2 k3),(16,.slice a4 l5 k6),(18,.pointer (some ⟨n16,0,none⟩)),(87,.slice a7 l8 k9),(88,.int .i64 x10),(89,.int .i64 (IntKind.wrap .i64 (x11+1)))] m30) (K.kx 6 [(0,.pointer (some ⟨w,0,none⟩)),(12,.slice a1 l2 k3),(16,.slice a4 l5 k6),(87,.slice a7 l8 k9),(88,.int .i64 x10),(89,.int .i64 x11)] m)):
  wpc PP FF 112 L_Writer_lengths c_Writer_lengths_rrrrrrrrrrrrll K [(0,.pointer (some ⟨w,0,none⟩)),(12,.slice a1 l2 k3),(16,.slice a4 l5 k6),(87,.slice a7 l8 k9),(88,.int .i64 x10),(89,.int .i64 x11)] m:=
 Eq.mpr (by kernel_rfl) h
theorem p_Writer_lengths_rrrrrr (w:Nat) (a1:Option Addr) (l2:Nat) (k3:Nat) (a4:Option Addr) (l5:Nat) (k6:Nat) (a7:Option Addr) (l8:Nat) (k9:Nat) (a10:Option Addr) (l11:Nat) (k12:Nat) (x13:Int) (m:Mem) (K:Kont)
  (h:CallM PP f_Writer_Bits #[.pointer (some ⟨w,0,none⟩),.int .i64 (IntKind.wrap .i64 ((l2:Int) - 257)),.int .i64 5] m fun v14 m15=>v14=.tuple #[]∧CallM PP f_Writer_Bits #[.pointer (some ⟨w,0,none⟩),.int .i64 (IntKind.wrap .i64 ((l5:Int) - 1)),.int .i64 5] m15 fun v16 m17=>v16=.tuple #[]∧CallM PP f_Writer_Bits #[.pointer (some ⟨w,0,none⟩),.int .i64 (IntKind.wrap .i64 (x13 - 4)),.int .i64 4] m17 fun v18 m19=>v18=.tuple #[]∧CallM PP f_spec_Order #[] m19 fun v23 m24=>∃ a20 l21 k22,v23=.slice a20 l21 k22∧l21≤k22∧(0≤x13∧x13≤(k22:Int))∧WPS PP 112 c_Writer_lengths_rrrrrrrrrlrl ((K.withN fun r m=>WPS PP 112 c_Writer_lengths_rrrrrrrrrr K r m).withX 4) [(0,.pointer (some ⟨w,0,none⟩)),(2,.slice a1 l2 k3),(3,.slice a4 l5 k6),(8,.slice a7 l8 k9),(12,.slice a10 l11 k12),(13,.int .i64 x13),(72,.slice a20 x13.toNat k22),(73,.int .i64 ((x13.toNat:Nat):Int)),(74,.int .i64 0)] m24):
  wpc PP FF 112 L_Writer_lengths c_Writer_lengths_rrrrrr K [(0,.pointer (some ⟨w,0,none⟩)),(2,.slice a1 l2 k3),(3,.slice a4 l5 k6),(8,.slice a7 l8 k9),(12,.slice a10 l11 k12),(13,.int .i64 x13)] m:=
 Eq.mpr (by kernel_rfl) h
theorem p_Writer_lengths_rrrrrrrrrr (w:Nat) (a1:Option Addr) (l2:Nat) (k3:Nat) (a4:Option Addr) (l5:Nat) (k6:Nat) (m:Mem) (K:Kont)
  (h:CallM PP f_spec_Codes #[.slice a4 l5 k6] m fun v10 m11=>∃ a7 l8 k9,v10=.slice a7 l8 k9∧WPS PP 112 c_Writer_lengths_rrrrrrrrrrrrl (K.withX 6) [(0,.pointer (some ⟨w,0,none⟩)),(8,.slice a1 l2 k3),(12,.slice a4 l5 k6),(16,.slice a7 l8 k9),(87,.slice a1 l2 k3),(88,.int .i64 (l2:Int)),(89,.int .i64 0)] m11):
  wpc PP FF 112 L_Writer_lengths c_Writer_lengths_rrrrrrrrrr K [(0,.pointer (some ⟨w,0,none⟩)),(8,.slice a1 l2 k3),(12,.slice a4 l5 k6)] m:=
 Eq.mpr (by kernel_rfl) h
def L_Writer_items:List Nat:=[0,1,2,3,8,9,11,12,13,14,15,20,21,22,23,28]
def r_Writer_items:List ResultVar:=[]
noncomputable def c_Writer_items:Code:=(Go.Proofs.Tryz.f28.body).getD .skip
theorem b_Writer_items:Go.Proofs.Tryz.f28.body=some c_Writer_items:=by kernel_rfl
noncomputable def c_Writer_items_rr:Code:=(rgt (rgt c_Writer_items))
noncomputable def c_Writer_items_rlrl:Code:=(lft (rgt (lft (rgt c_Writer_items))))
noncomputable def c_Writer_items_rlrll:Code:=(lft c_Writer_items_rlrl)
noncomputable def c_Writer_items_rlrllrrr:Code:=(rgt (rgt (rgt c_Writer_items_rlrll)))
theorem q_Writer_items_rlrl:c_Writer_items_rlrl=.loop c_Writer_items_rlrll:=by kernel_rfl
theorem e_Writer_items (w:Nat) (a1:Option Addr) (l2:Nat) (k3:Nat) (a4:Option Addr) (l5:Nat) (k6:Nat) (a7:Option Addr) (l8:Nat) (k9:Nat) (m:Mem) (R:Value→Mem→Prop)
  (h:CallM PP f_spec_Codes #[.slice a4 l5 k6] m fun v13 m14=>∃ a10 l11 k12,v13=.slice a10 l11 k12∧CallM PP f_spec_Codes #[.slice a7 l8 k9] m14 fun v18 m19=>∃ a15 l16 k17,v18=.slice a15 l16 k17∧WPS PP 92 c_Writer_items_rlrl (((retK PP r_Writer_items R).withN fun r m=>WPS PP 92 c_Writer_items_rr (retK PP r_Writer_items R) r m).withX 0) [(0,.pointer (some ⟨w,0,none⟩)),(1,.slice a1 l2 k3),(2,.slice a4 l5 k6),(3,.slice a7 l8 k9),(8,.slice a10 l11 k12),(9,.slice a15 l16 k17),(20,.slice a1 l2 k3),(21,.int .i64 (l2:Int)),(22,.int .i64 0)] m19):
  CallM PP f_Writer_items #[.pointer (some ⟨w,0,none⟩),.slice a1 l2 k3,.slice a4 l5 k6,.slice a7 l8 k9] m R:=
 callM_enter ffOk mixedOk 92 L_Writer_items Tryz.func28 b_Writer_items Tryz.ntmps28 (by simp) (Eq.mpr (by kernel_rfl) h)
theorem p_Writer_items_rr (w:Nat) (a1:Option Addr) (l2:Nat) (k3:Nat) (a4:Option Addr) (l5:Nat) (k6:Nat) (m:Mem) (K:Kont)
  (h:onSome a4 fun p7=>(0≤(256:Int)∧(256:Int) < (l5:Int))∧∃ x8,cell? m (aplus p7 256)=some (.int .i64 x8)∧onSome a1 fun p9=>(0≤(256:Int)∧(256:Int) < (l2:Int))∧∃ x10,cell? m (aplus p9 256)=some (.int .i64 x10)∧CallM PP f_Writer_code #[.pointer (some ⟨w,0,none⟩),.int .i64 x8,.int .i64 x10] m fun v11 m12=>v11=.tuple #[]∧K.kn [(0,.pointer (some ⟨w,0,none⟩)),(2,.slice a1 l2 k3),(8,.slice a4 l5 k6)] m12):
  wpc PP FF 92 L_Writer_items c_Writer_items_rr K [(0,.pointer (some ⟨w,0,none⟩)),(2,.slice a1 l2 k3),(8,.slice a4 l5 k6)] m:=
 Eq.mpr (by kernel_rfl) h
theorem p_Writer_items_rlrll (w:Nat) (a1:Option Addr) (l2:Nat) (k3:Nat) (a4:Option Addr) (l5:Nat) (k6:Nat) (a7:Option Addr) (l8:Nat) (k9:Nat) (a10:Option Addr) (l11:Nat) (k12:Nat) (a13:Option Addr) (l14:Nat) (k15:Nat) (x16:Int) (x17:Int) (m:Mem) (K:Kont)
  (h:ifB (decide (x17 < x16)) (onSome a13 fun p18=>(0≤x17∧x17 < (l14:Int))∧∃ x19 x20 x21,([.int .u8 x19,.int .i64 x20,.int .i64 x21]:List Value).length=3∧CellsAre m (aplus p18 (x17.toNat * 3)) 0 [.int .u8 x19,.int .i64 x20,.int .i64 x21]∧AllocW PP t_spec_Item m fun n22 m23=>StAgg PP t_spec_Item m23 ⟨n22,0,none⟩ (.agg #[.int .u8 x19,.int .i64 x20,.int .i64 x21]) fun m24=>∃ x25,cell? m24 ⟨n22,1,none⟩=some (.int .i64 x25)∧ifB (x25 == 0) (∃ x26,cell? m24 ⟨n22,0,none⟩=some (.int .u8 x26)∧onSome a7 fun p27=>(0≤x26∧x26 < (l8:Int))∧∃ x28,cell? m24 (aplus p27 x26.toNat)=some (.int .i64 x28)∧∃ x29,cell? m24 ⟨n22,0,none⟩=some (.int .u8 x29)∧onSome a1 fun p30=>(0≤x29∧x29 < (l2:Int))∧∃ x31,cell? m24 (aplus p30 x29.toNat)=some (.int .i64 x31)∧CallM PP f_Writer_code #[.pointer (some ⟨w,0,none⟩),.int .i64 x28,.int .i64 x31] m24 fun v32 m33=>v32=.tuple #[]∧WPS PP 92 c_Writer_items_rlrllrrr K [(0,.pointer (some ⟨w,0,none⟩)),(2,.slice a1 l2 k3),(3,.slice a4 l5 k6),(8,.slice a7 l8 k9),(9,.slice a10 l11 k12),(11,.pointer (some ⟨n22,0,none⟩)),(20,.slice a13 l14 k15),(21,.int .i64 x16),(22,.int .i64 x17)] m33) (∃ x34,cell? m24 ⟨n22,1,none⟩=some (.int .i64 x34)∧CallM PP f_spec_LengthCode #[.int .i64 x34] m24 fun v38 m39=>∃ x35 x36 x37,v38=.tuple #[.int .i64 x35,.int .i64 x36,.int .i64 x37]∧onSome a7 fun p40=>(0≤x35∧x35 < (l8:Int))∧∃ x41,cell? m39 (aplus p40 x35.toNat)=some (.int .i64 x41)∧onSome a1 fun p42=>(0≤x35∧x35 < (l2:Int))∧∃ x43,cell? m39 (aplus p42 x35.toNat)=some (.int .i64 x43)∧CallM PP f_Writer_code #[.pointer (some ⟨w,0,none⟩),.int .i64 x41,.int .i64 x43] m39 fun v44 m45=>v44=.tuple #[]∧CallM PP f_Writer_Bits #[.pointer (some ⟨w,0,none⟩),.int .i64 x36,.int .i64 x37] m45 fun v46 m47=>v46=.tuple #[]∧∃ x48,cell? m47 ⟨n22,2,none⟩=some (.int .i64 x48)∧CallM PP f_spec_DistanceCode #[.int .i64 x48] m47 fun v52 m53=>∃ x49 x50 x51,v52=.tuple #[.int .i64 x49,.int .i64 x50,.int .i64 x51]∧onSome a10 fun p54=>(0≤x49∧x49 < (l11:Int))∧∃ x55,cell? m53 (aplus p54 x49.toNat)=some (.int .i64 x55)∧onSome a4 fun p56=>(0≤x49∧x49 < (l5:Int))∧∃ x57,cell? m53 (aplus p56 x49.toNat)=some (.int .i64 x57)∧CallM PP f_Writer_code #[.pointer (some ⟨w,0,none⟩),.int .i64 x55,.int .i64 x57] m53 fun v58 m59=>v58=.tuple #[]∧CallM PP f_Writer_Bits #[.pointer (some ⟨w,0,none⟩),.int .i64 x50,.int .i64 x51] m59 fun v60 m61=>v60=.tuple #[]∧WPS PP 92 c_Writer_items_rlrllrrr K [(0,.pointer (some ⟨w,0,none⟩)),(2,.slice a1 l2 k3),(3,.slice a4 l5 k6),(8,.slice a7 l8 k9),(9,.slice a10 l11 k12),(11,.pointer (some ⟨n22,0,none⟩)),(12,.int .i64 x35),(13,.int .i64 x50),(14,.int .i64 x51),(15,.int .i64 x49),(20,.slice a13 l14 k15),(21,.int .i64 x16),(22,.int .i64 x17)] m61)) (K.kx 0 [(0,.pointer (some ⟨w,0,none⟩)),(2,.slice a1 l2 k3),(3,.slice a4 l5 k6),(8,.slice a7 l8 k9),(9,.slice a10 l11 k12),(20,.slice a13 l14 k15),(21,.int .i64 x16),(22,.int .i64 x17)] m)):
  wpc PP FF 92 L_Writer_items c_Writer_items_rlrll K [(0,.pointer (some ⟨w,0,none⟩)),(2,.slice a1 l2 k3),(3,.slice a4 l5 k6),(8,.slice a7 l8 k9),(9,.slice a10 l11 k12),(20,.slice a13 l14 k15),(21,.int .i64 x16),(22,.int .i64 x17)] m:=
 Eq.mpr (by kernel_rfl) h
theorem p_Writer_items_rlrllrrr (w:Nat) (a1:Option Addr) (l2:Nat) (k3:Nat) (a4:Option Addr) (l5:Nat) (k6:Nat) (a7:Option Addr) (l8:Nat) (k9:Nat) (a10:Option Addr) (l11:Nat) (k12:Nat) (a13:Option Addr) (l14:Nat) (k15:Nat) (x16:Int) (x17:Int) (m:Mem) (K:Kont)
  (h:K.kn [(0,.pointer (some ⟨w,0,none⟩)),(2,.slice a1 l2 k3),(3,.slice a4 l5 k6),(8,.slice a7 l8 k9),(9,.slice a10 l11 k12),(20,.slice a13 l14 k15),(21,.int .i64 x16),(22,.int .i64 (IntKind.wrap .i64 (x17+1)))] m):
  wpc PP FF 92 L_Writer_items c_Writer_items_rlrllrrr K [(0,.pointer (some ⟨w,0,none⟩)),(2,.slice a1 l2 k3),(3,.slice a4 l5 k6),(8,.slice a7 l8 k9),(9,.slice a10 l11 k12),(20,.slice a13 l14 k15),(21,.int .i64 x16),(22,.int .i64 x17)] m:=
 Eq.mpr (by kernel_rfl) h
def L_spec_Given:List Nat:=[0,1,4,6,7,8,9,10,15,22,23,24]
def r_spec_Given:List ResultVar:=[.tmp 4]
noncomputable def c_spec_Given:Code:=(Go.Proofs.Tryz.f29.body).getD .skip
theorem b_spec_Given:Go.Proofs.Tryz.f29.body=some c_spec_Given:=by kernel_rfl
noncomputable def c_spec_Given_rr:Code:=(rgt (rgt c_spec_Given))
noncomputable def c_spec_Given_rlrl:Code:=(lft (rgt (lft (rgt c_spec_Given))))
noncomputable def c_spec_Given_rlrll:Code:=(lft c_spec_Given_rlrl)
noncomputable def c_spec_Given_rlrllrrr:Code:=(rgt (rgt (rgt c_spec_Given_rlrll)))
noncomputable def c_spec_Given_rlrllrrllrr:Code:=(rgt (rgt (lft (lft (rgt (rgt c_spec_Given_rlrll))))))
noncomputable def c_spec_Given_rlrllrrllrrrl:Code:=(lft (rgt c_spec_Given_rlrllrrllrr))
noncomputable def c_spec_Given_rlrllrrllrrrll:Code:=(lft c_spec_Given_rlrllrrllrrrl)
theorem q_spec_Given_rlrl:c_spec_Given_rlrl=.loop c_spec_Given_rlrll:=by kernel_rfl
theorem q_spec_Given_rlrllrrllrrrl:c_spec_Given_rlrllrrllrrrl=.loop c_spec_Given_rlrllrrllrrrll:=by kernel_rfl
theorem e_spec_Given (a1:Option Addr) (l2:Nat) (k3:Nat) (a4:Option Addr) (l5:Nat) (k6:Nat) (m:Mem) (R:Value→Mem→Prop)
  (h:WPS PP 39 c_spec_Given_rlrl (((retK PP r_spec_Given R).withN fun r m=>WPS PP 39 c_spec_Given_rr (retK PP r_spec_Given R) r m).withX 0) [(0,.slice a1 l2 k3),(1,.slice a4 l5 k6),(4,.slice none 0 0),(7,.slice a4 l5 k6),(8,.int .i64 (l5:Int)),(9,.int .i64 0)] m):
  CallM PP f_spec_Given #[.slice a1 l2 k3,.slice a4 l5 k6] m R:=
 callM_enter ffOk mixedOk 39 L_spec_Given Tryz.func29 b_spec_Given Tryz.ntmps29 (by simp) (Eq.mpr (by kernel_rfl) h)
theorem p_spec_Given_rr (a1:Option Addr) (l2:Nat) (k3:Nat) (m:Mem) (K:Kont)
  (h:K.kr [(0,.slice a1 l2 k3),(4,.slice a1 l2 k3)] m):
  wpc PP FF 39 L_spec_Given c_spec_Given_rr K [(0,.slice a1 l2 k3)] m:=
 Eq.mpr (by kernel_rfl) h
theorem p_spec_Given_rlrll (a1:Option Addr) (l2:Nat) (k3:Nat) (a4:Option Addr) (l5:Nat) (k6:Nat) (x7:Int) (x8:Int) (m:Mem) (K:Kont)
  (h:ifB (decide (x8 < x7)) (onSome a4 fun p9=>(0≤x8∧x8 < (l5:Int))∧∃ x10 x11 x12,([.int .u8 x10,.int .i64 x11,.int .i64 x12]:List Value).length=3∧CellsAre m (aplus p9 (x8.toNat * 3)) 0 [.int .u8 x10,.int .i64 x11,.int .i64 x12]∧AllocW PP t_spec_Item m fun n13 m14=>StAgg PP t_spec_Item m14 ⟨n13,0,none⟩ (.agg #[.int .u8 x10,.int .i64 x11,.int .i64 x12]) fun m15=>∃ x16,cell? m15 ⟨n13,1,none⟩=some (.int .i64 x16)∧ifB (x16 == 0) (∃ x17,cell? m15 ⟨n13,0,none⟩=some (.int .u8 x17)∧SemW PP (sv (Instr.buildSlice t_s_uint8 1 #[(0,.int .u8 x17)])) m15 (NextW PP fun v21 m22=>∃ a18 l19 k20,v21=.slice a18 l19 k20∧SemW PP (builtin .append #[t_s_uint8,t_s_uint8] t_s_uint8 #[false,false] #[.slice a1 l2 k3,.slice a18 l19 k20]) m22 (NextW PP fun v26 m27=>∃ a23 l24 k25,v26=.slice a23 l24 k25∧WPS PP 39 c_spec_Given_rlrllrrllrr ((K.withN fun r m=>WPS PP 39 c_spec_Given_rlrllrrr K r m).withX 1) [(0,.slice a23 l24 k25),(6,.pointer (some ⟨n13,0,none⟩)),(7,.slice a4 l5 k6),(8,.int .i64 x7),(9,.int .i64 x8)] m27))) (WPS PP 39 c_spec_Given_rlrllrrllrr ((K.withN fun r m=>WPS PP 39 c_spec_Given_rlrllrrr K r m).withX 1) [(0,.slice a1 l2 k3),(6,.pointer (some ⟨n13,0,none⟩)),(7,.slice a4 l5 k6),(8,.int .i64 x7),(9,.int .i64 x8)] m15)) (K.kx 0 [(0,.slice a1 l2 k3),(7,.slice a4 l5 k6),(8,.int .i64 x7),(9,.int .i64 x8)] m)):
  wpc PP FF 39 L_spec_Given c_spec_Given_rlrll K [(0,.slice a1 l2 k3),(7,.slice a4 l5 k6),(8,.int .i64 x7),(9,.int .i64 x8)] m:=
 Eq.mpr (by kernel_rfl) h
theorem p_spec_Given_rlrllrrllrrrll (a1:Option Addr) (l2:Nat) (k3:Nat) (n4:Nat) (a5:Option Addr) (l6:Nat) (k7:Nat) (x8:Int) (x9:Int) (x10:Int) (x11:Int) (m:Mem) (K:Kont)
  (h:ifB (decide (x11 < x10)) (∃ x12,cell? m ⟨n4,2,none⟩=some (.int .i64 x12)∧onSome a1 fun p13=>(0≤(IntKind.wrap .i64 ((l2:Int) - x12))∧(IntKind.wrap .i64 ((l2:Int) - x12)) < (l2:Int))∧∃ x14,cell? m (aplus p13 ((IntKind.wrap .i64 ((l2:Int) - x12)).toNat))=some (.int .u8 x14)∧SemW PP (sv (Instr.buildSlice t_s_uint8 1 #[(0,.int .u8 x14)])) m (NextW PP fun v18 m19=>∃ a15 l16 k17,v18=.slice a15 l16 k17∧SemW PP (builtin .append #[t_s_uint8,t_s_uint8] t_s_uint8 #[false,false] #[.slice a1 l2 k3,.slice a15 l16 k17]) m19 (NextW PP fun v23 m24=>∃ a20 l21 k22,v23=.slice a20 l21 k22∧K.kn [(0,.slice a20 l21 k22),(6,.pointer (some ⟨n4,0,none⟩)),(7,.slice a5 l6 k7),(8,.int .i64 x8),(9,.int .i64 x9),(22,.int .i64 x10),(23,.int .i64 (IntKind.wrap .i64 (x11+1)))] m24))) (K.kx 2 [(0,.slice a1 l2 k3),(6,.pointer (some ⟨n4,0,none⟩)),(7,.slice a5 l6 k7),(8,.int .i64 x8),(9,.int .i64 x9),(22,.int .i64 x10),(23,.int .i64 x11)] m)):
  wpc PP FF 39 L_spec_Given c_spec_Given_rlrllrrllrrrll K [(0,.slice a1 l2 k3),(6,.pointer (some ⟨n4,0,none⟩)),(7,.slice a5 l6 k7),(8,.int .i64 x8),(9,.int .i64 x9),(22,.int .i64 x10),(23,.int .i64 x11)] m:=
 Eq.mpr (by kernel_rfl) h
theorem p_spec_Given_rlrllrrr (a1:Option Addr) (l2:Nat) (k3:Nat) (a4:Option Addr) (l5:Nat) (k6:Nat) (x7:Int) (x8:Int) (m:Mem) (K:Kont)
  (h:K.kn [(0,.slice a1 l2 k3),(7,.slice a4 l5 k6),(8,.int .i64 x7),(9,.int .i64 (IntKind.wrap .i64 (x8+1)))] m):
  wpc PP FF 39 L_spec_Given c_spec_Given_rlrllrrr K [(0,.slice a1 l2 k3),(7,.slice a4 l5 k6),(8,.int .i64 x7),(9,.int .i64 x8)] m:=
 Eq.mpr (by kernel_rfl) h
theorem p_spec_Given_rlrllrrllrr (a1:Option Addr) (l2:Nat) (k3:Nat) (n4:Nat) (a5:Option Addr) (l6:Nat) (k7:Nat) (x8:Int) (x9:Int) (m:Mem) (K:Kont)
  (h:∃ x10,cell? m ⟨n4,1,none⟩=some (.int .i64 x10)∧WPS PP 39 c_spec_Given_rlrllrrllrrrl (K.withX 2) [(0,.slice a1 l2 k3),(6,.pointer (some ⟨n4,0,none⟩)),(7,.slice a5 l6 k7),(8,.int .i64 x8),(9,.int .i64 x9),(22,.int .i64 x10),(23,.int .i64 0)] m):
  wpc PP FF 39 L_spec_Given c_spec_Given_rlrllrrllrr K [(0,.slice a1 l2 k3),(6,.pointer (some ⟨n4,0,none⟩)),(7,.slice a5 l6 k7),(8,.int .i64 x8),(9,.int .i64 x9)] m:=
 Eq.mpr (by kernel_rfl) h
def L_reader_one:List Nat:=[0,1,4]
def r_reader_one:List ResultVar:=[.tmp 4]
noncomputable def c_reader_one:Code:=(Go.Proofs.Tryz.f30.body).getD .skip
theorem b_reader_one:Go.Proofs.Tryz.f30.body=some c_reader_one:=by kernel_rfl
theorem e_reader_one (r:Nat) (a1:Option Addr) (l2:Nat) (k3:Nat) (m:Mem) (R:Value→Mem→Prop)
  (h:CallM PP f_reader_pick #[.pointer (some ⟨r,0,none⟩),.int .i64 (l2:Int)] m fun v5 m6=>∃ x4,v5=.int .i64 x4∧onSome a1 fun p7=>(0≤x4∧x4 < (l2:Int))∧∃ x8,cell? m6 (aplus p7 x4.toNat)=some (.int .i64 x8)∧R (.int .i64 x8) m6):
  CallM PP f_reader_one #[.pointer (some ⟨r,0,none⟩),.slice a1 l2 k3] m R:=
 callM_enter ffOk mixedOk 12 L_reader_one Tryz.func30 b_reader_one Tryz.ntmps30 (by simp) (Eq.mpr (by kernel_rfl) h)
def L_spec_flag:List Nat:=[0,2,3]
def r_spec_flag:List ResultVar:=[.tmp 2]
noncomputable def c_spec_flag:Code:=(Go.Proofs.Tryz.f31.body).getD .skip
theorem b_spec_flag:Go.Proofs.Tryz.f31.body=some c_spec_flag:=by kernel_rfl
theorem e_spec_flag (b1:Bool) (m:Mem) (R:Value→Mem→Prop)
  (h:ifB b1 (R (.int .i64 1) m) (R (.int .i64 0) m)):
  CallM PP f_spec_flag #[.bool b1] m R:=
 callM_enter ffOk mixedOk 4 L_spec_flag Tryz.func31 b_spec_flag Tryz.ntmps31 (by simp) (Eq.mpr (by kernel_rfl) h)
def L_spec_fixed:List Nat:=[0,1,2,3,4,5,6,7,9,16,28,29]
def r_spec_fixed:List ResultVar:=[.tmp 0,.tmp 1]
noncomputable def c_spec_fixed:Code:=(Go.Proofs.Tryz.f32.body).getD .skip
theorem b_spec_fixed:Go.Proofs.Tryz.f32.body=some c_spec_fixed:=by kernel_rfl
noncomputable def c_spec_fixed_rrr:Code:=(rgt (rgt (rgt c_spec_fixed)))
noncomputable def c_spec_fixed_rrrr:Code:=(rgt c_spec_fixed_rrr)
noncomputable def c_spec_fixed_rrlrl:Code:=(lft (rgt (lft (rgt (rgt c_spec_fixed)))))
noncomputable def c_spec_fixed_rrlrll:Code:=(lft c_spec_fixed_rrlrl)
noncomputable def c_spec_fixed_rrrlrl:Code:=(lft (rgt (lft c_spec_fixed_rrr)))
noncomputable def c_spec_fixed_rrrlrll:Code:=(lft c_spec_fixed_rrrlrl)
noncomputable def c_spec_fixed_rrlrllrrr:Code:=(rgt (rgt (rgt c_spec_fixed_rrlrll)))
noncomputable def c_spec_fixed_rrlrllrrllrrr:Code:=(rgt (rgt (rgt (lft (lft (rgt (rgt c_spec_fixed_rrlrll)))))))
theorem q_spec_fixed_rrlrl:c_spec_fixed_rrlrl=.loop c_spec_fixed_rrlrll:=by kernel_rfl
theorem q_spec_fixed_rrrlrl:c_spec_fixed_rrrlrl=.loop c_spec_fixed_rrrlrll:=by kernel_rfl
theorem e_spec_fixed  (m:Mem) (R:Value→Mem→Prop)
  (h:WPS PP 36 c_spec_fixed_rrlrl (((retK PP r_spec_fixed R).withN fun r m=>WPS PP 36 c_spec_fixed_rrr (retK PP r_spec_fixed R) r m).withX 0) [(0,.slice none 0 0),(1,.slice none 0 0),(2,.slice none 0 0),(3,.slice none 0 0),(6,.int .i64 0)] m  ):
  CallM PP f_spec_fixed #[] m R:=
 callM_enter ffOk mixedOk 36 L_spec_fixed Tryz.func32 b_spec_fixed Tryz.ntmps32 (by simp) (Eq.mpr (by kernel_rfl) h)
theorem p_spec_fixed_rrr (a1:Option Addr) (l2:Nat) (k3:Nat) (a4:Option Addr) (l5:Nat) (k6:Nat) (m:Mem) (K:Kont)
  (h:WPS PP 36 c_spec_fixed_rrrlrl ((K.withN fun r m=>WPS PP 36 c_spec_fixed_rrrr K r m).withX 3) [(2,.slice a1 l2 k3),(3,.slice a4 l5 k6),(28,.int .i64 0)] m):
  wpc PP FF 36 L_spec_fixed c_spec_fixed_rrr K [(2,.slice a1 l2 k3),(3,.slice a4 l5 k6)] m:=
 Eq.mpr (by kernel_rfl) h
theorem p_spec_fixed_rrlrll (a1:Option Addr) (l2:Nat) (k3:Nat) (a4:Option Addr) (l5:Nat) (k6:Nat) (x7:Int) (m:Mem) (K:Kont)
  (h:ifB (decide (x7 < 288)) (ifB (decide (x7 ≥ 144)) (ifB (decide (x7≤255)) (WPS PP 36 c_spec_fixed_rrlrllrrllrrr ((K.withN fun r m=>wpc PP FF 36 L_spec_fixed c_spec_fixed_rrlrllrrr K r m).withX 1) [(2,.slice a1 l2 k3),(3,.slice a4 l5 k6),(4,.int .i64 x7),(5,.int .i64 9),(6,.int .i64 x7)] m) (ifB (decide (x7 ≥ 256)) (ifB (decide (x7≤279)) (WPS PP 36 c_spec_fixed_rrlrllrrllrrr ((K.withN fun r m=>wpc PP FF 36 L_spec_fixed c_spec_fixed_rrlrllrrr K r m).withX 1) [(2,.slice a1 l2 k3),(3,.slice a4 l5 k6),(4,.int .i64 x7),(5,.int .i64 7),(6,.int .i64 x7)] m) (WPS PP 36 c_spec_fixed_rrlrllrrllrrr ((K.withN fun r m=>wpc PP FF 36 L_spec_fixed c_spec_fixed_rrlrllrrr K r m).withX 1) [(2,.slice a1 l2 k3),(3,.slice a4 l5 k6),(4,.int .i64 x7),(5,.int .i64 8),(6,.int .i64 x7)] m)) (WPS PP 36 c_spec_fixed_rrlrllrrllrrr ((K.withN fun r m=>wpc PP FF 36 L_spec_fixed c_spec_fixed_rrlrllrrr K r m).withX 1) [(2,.slice a1 l2 k3),(3,.slice a4 l5 k6),(4,.int .i64 x7),(5,.int .i64 8),(6,.int .i64 x7)] m))) (ifB (decide (x7 ≥ 256)) (ifB (decide (x7≤279)) (WPS PP 36 c_spec_fixed_rrlrllrrllrrr ((K.withN fun r m=>wpc PP FF 36 L_spec_fixed c_spec_fixed_rrlrllrrr K r m).withX 1) [(2,.slice a1 l2 k3),(3,.slice a4 l5 k6),(4,.int .i64 x7),(5,.int .i64 7),(6,.int .i64 x7)] m) (WPS PP 36 c_spec_fixed_rrlrllrrllrrr ((K.withN fun r m=>wpc PP FF 36 L_spec_fixed c_spec_fixed_rrlrllrrr K r m).withX 1) [(2,.slice a1 l2 k3),(3,.slice a4 l5 k6),(4,.int .i64 x7),(5,.int .i64 8),(6,.int .i64 x7)] m)) (WPS PP 36 c_spec_fixed_rrlrllrrllrrr ((K.withN fun r m=>wpc PP FF 36 L_spec_fixed c_spec_fixed_rrlrllrrr K r m).withX 1) [(2,.slice a1 l2 k3),(3,.slice a4 l5 k6),(4,.int .i64 x7),(5,.int .i64 8),(6,.int .i64 x7)] m))) (K.kx 0 [(2,.slice a1 l2 k3),(3,.slice a4 l5 k6),(6,.int .i64 x7)] m)):
  wpc PP FF 36 L_spec_fixed c_spec_fixed_rrlrll K [(2,.slice a1 l2 k3),(3,.slice a4 l5 k6),(6,.int .i64 x7)] m:=
 Eq.mpr (by kernel_rfl) h
theorem p_spec_fixed_rrrlrll (a1:Option Addr) (l2:Nat) (k3:Nat) (a4:Option Addr) (l5:Nat) (k6:Nat) (x7:Int) (m:Mem) (K:Kont)
  (h:ifB (decide (x7 < 32)) (SemW PP (sv (Instr.buildSlice t_s_int 1 #[(0,.int .i64 5)])) m (NextW PP fun v11 m12=>∃ a8 l9 k10,v11=.slice a8 l9 k10∧SemW PP (builtin .append #[t_s_int,t_s_int] t_s_int #[false,false] #[.slice a4 l5 k6,.slice a8 l9 k10]) m12 (NextW PP fun v16 m17=>∃ a13 l14 k15,v16=.slice a13 l14 k15∧K.kn [(2,.slice a1 l2 k3),(3,.slice a13 l14 k15),(28,.int .i64 (IntKind.wrap .i64 (x7+1)))] m17))) (K.kx 3 [(2,.slice a1 l2 k3),(3,.slice a4 l5 k6),(28,.int .i64 x7)] m)):
  wpc PP FF 36 L_spec_fixed c_spec_fixed_rrrlrll K [(2,.slice a1 l2 k3),(3,.slice a4 l5 k6),(28,.int .i64 x7)] m:=
 Eq.mpr (by kernel_rfl) h
theorem p_spec_fixed_rrrr (a1:Option Addr) (l2:Nat) (k3:Nat) (a4:Option Addr) (l5:Nat) (k6:Nat) (m:Mem) (K:Kont)
  (h:K.kr [(0,.slice a1 l2 k3),(1,.slice a4 l5 k6),(2,.slice a1 l2 k3),(3,.slice a4 l5 k6)] m):
  wpc PP FF 36 L_spec_fixed c_spec_fixed_rrrr K [(2,.slice a1 l2 k3),(3,.slice a4 l5 k6)] m:=
 Eq.mpr (by kernel_rfl) h
theorem p_spec_fixed_rrlrllrrr (a1:Option Addr) (l2:Nat) (k3:Nat) (a4:Option Addr) (l5:Nat) (k6:Nat) (x7:Int) (m:Mem) (K:Kont)
  (h:K.kn [(2,.slice a1 l2 k3),(3,.slice a4 l5 k6),(6,.int .i64 (IntKind.wrap .i64 (x7+1)))] m):
  wpc PP FF 36 L_spec_fixed c_spec_fixed_rrlrllrrr K [(2,.slice a1 l2 k3),(3,.slice a4 l5 k6),(6,.int .i64 x7)] m:=
 Eq.mpr (by kernel_rfl) h
theorem p_spec_fixed_rrlrllrrllrrr (a1:Option Addr) (l2:Nat) (k3:Nat) (a4:Option Addr) (l5:Nat) (k6:Nat) (x7:Int) (x8:Int) (m:Mem) (K:Kont)
  (h:SemW PP (sv (Instr.buildSlice t_s_int 1 #[(0,.int .i64 x7)])) m (NextW PP fun v12 m13=>∃ a9 l10 k11,v12=.slice a9 l10 k11∧SemW PP (builtin .append #[t_s_int,t_s_int] t_s_int #[false,false] #[.slice a1 l2 k3,.slice a9 l10 k11]) m13 (NextW PP fun v17 m18=>∃ a14 l15 k16,v17=.slice a14 l15 k16∧K.kn [(2,.slice a14 l15 k16),(3,.slice a4 l5 k6),(5,.int .i64 x7),(6,.int .i64 x8)] m18))):
  wpc PP FF 36 L_spec_fixed c_spec_fixed_rrlrllrrllrrr K [(2,.slice a1 l2 k3),(3,.slice a4 l5 k6),(5,.int .i64 x7),(6,.int .i64 x8)] m:=
 Eq.mpr (by kernel_rfl) h
def L_reader_trimmed:List Nat:=[0,1,2,6,7,20]
def r_reader_trimmed:List ResultVar:=[.tmp 6]
noncomputable def c_reader_trimmed:Code:=(Go.Proofs.Tryz.f33.body).getD .skip
theorem b_reader_trimmed:Go.Proofs.Tryz.f33.body=some c_reader_trimmed:=by kernel_rfl
noncomputable def c_reader_trimmed_rrr:Code:=(rgt (rgt (rgt c_reader_trimmed)))
noncomputable def c_reader_trimmed_rrll:Code:=(lft (lft (rgt (rgt c_reader_trimmed))))
noncomputable def c_reader_trimmed_rrlll:Code:=(lft c_reader_trimmed_rrll)
theorem q_reader_trimmed_rrll:c_reader_trimmed_rrll=.loop c_reader_trimmed_rrlll:=by kernel_rfl
theorem e_reader_trimmed (r:Nat) (a1:Option Addr) (l2:Nat) (k3:Nat) (x4:Int) (m:Mem) (R:Value→Mem→Prop)
  (h:WPS PP 34 c_reader_trimmed_rrll (((retK PP r_reader_trimmed R).withN fun r m=>WPS PP 34 c_reader_trimmed_rrr (retK PP r_reader_trimmed R) r m).withX 0) [(0,.pointer (some ⟨r,0,none⟩)),(1,.slice a1 l2 k3),(2,.int .i64 x4),(6,.slice none 0 0),(7,.int .i64 (l2:Int))] m):
  CallM PP f_reader_trimmed #[.pointer (some ⟨r,0,none⟩),.slice a1 l2 k3,.int .i64 x4] m R:=
 callM_enter ffOk mixedOk 34 L_reader_trimmed Tryz.func33 b_reader_trimmed Tryz.ntmps33 (by simp) (Eq.mpr (by kernel_rfl) h)
theorem p_reader_trimmed_rrr (r:Nat) (a1:Option Addr) (l2:Nat) (k3:Nat) (x4:Int) (m:Mem) (K:Kont)
  (h:CallM PP f_reader_pick #[.pointer (some ⟨r,0,none⟩),.int .i64 (IntKind.wrap .i64 ((IntKind.wrap .i64 ((l2:Int) - x4))+1))] m fun v6 m7=>∃ x5,v6=.int .i64 x5∧l2≤k3∧(0≤(IntKind.wrap .i64 (x4+x5))∧(IntKind.wrap .i64 (x4+x5))≤(k3:Int))∧K.kr [(0,.pointer (some ⟨r,0,none⟩)),(1,.slice a1 l2 k3),(6,.slice a1 ((IntKind.wrap .i64 (x4+x5)).toNat) k3),(7,.int .i64 x4)] m7):
  wpc PP FF 34 L_reader_trimmed c_reader_trimmed_rrr K [(0,.pointer (some ⟨r,0,none⟩)),(1,.slice a1 l2 k3),(7,.int .i64 x4)] m:=
 Eq.mpr (by kernel_rfl) h
theorem p_reader_trimmed_rrlll (r:Nat) (a1:Option Addr) (l2:Nat) (k3:Nat) (x4:Int) (x5:Int) (m:Mem) (K:Kont)
  (h:ifB (decide (x5 > x4)) (onSome a1 fun p6=>(0≤(IntKind.wrap .i64 (x5 - 1))∧(IntKind.wrap .i64 (x5 - 1)) < (l2:Int))∧∃ x7,cell? m (aplus p6 ((IntKind.wrap .i64 (x5 - 1)).toNat))=some (.int .i64 x7)∧ifB (x7 == 0) (K.kn [(0,.pointer (some ⟨r,0,none⟩)),(1,.slice a1 l2 k3),(2,.int .i64 x4),(7,.int .i64 (IntKind.wrap .i64 (x5 - 1)))] m) (K.kx 0 [(0,.pointer (some ⟨r,0,none⟩)),(1,.slice a1 l2 k3),(2,.int .i64 x4),(7,.int .i64 x5)] m)) (K.kx 0 [(0,.pointer (some ⟨r,0,none⟩)),(1,.slice a1 l2 k3),(2,.int .i64 x4),(7,.int .i64 x5)] m)):
  wpc PP FF 34 L_reader_trimmed c_reader_trimmed_rrlll K [(0,.pointer (some ⟨r,0,none⟩)),(1,.slice a1 l2 k3),(2,.int .i64 x4),(7,.int .i64 x5)] m:=
 Eq.mpr (by kernel_rfl) h
def L_state_bit:List Nat:=[0,2,3,6,17]
def r_state_bit:List ResultVar:=[.tmp 2]
noncomputable def c_state_bit:Code:=(Go.Proofs.Tryz.f34.body).getD .skip
theorem b_state_bit:Go.Proofs.Tryz.f34.body=some c_state_bit:=by kernel_rfl
theorem e_state_bit (s:Nat) (m:Mem) (R:Value→Mem→Prop)
  (h:CallM PP f_state_on #[.pointer (some ⟨s,0,none⟩)] m fun v2 m3=>∃ b1,v2=.bool b1∧ifB (!b1) (R (.int .i64 0) m3) (∃ x4,cell? m3 ⟨s,1,none⟩=some (.int .i64 x4)∧IntKind.i64=IntKind.i64∧(8:Int)≠0∧∃ a5 l6 k7,cell? m3 ⟨s,0,none⟩=some (.slice a5 l6 k7)∧ifB (decide ((IntKind.wrap .i64 (Int.tdiv x4 8)) ≥ (l6:Int))) (CallM PP f_state_stop #[.pointer (some ⟨s,0,none⟩),.int .i64 3] m3 fun v8 m9=>v8=.tuple #[]∧R (.int .i64 0) m9) (∃ a10 l11 k12,cell? m3 ⟨s,0,none⟩=some (.slice a10 l11 k12)∧∃ x13,cell? m3 ⟨s,1,none⟩=some (.int .i64 x13)∧IntKind.i64=IntKind.i64∧(8:Int)≠0∧onSome a10 fun p14=>(0≤(IntKind.wrap .i64 (Int.tdiv x13 8))∧(IntKind.wrap .i64 (Int.tdiv x13 8)) < (l11:Int))∧∃ x15,cell? m3 (aplus p14 ((IntKind.wrap .i64 (Int.tdiv x13 8)).toNat))=some (.int .u8 x15)∧∃ x16,cell? m3 ⟨s,1,none⟩=some (.int .i64 x16)∧IntKind.i64=IntKind.i64∧(8:Int)≠0∧0≤(Int.tmod x16 8)∧IntKind.i64=IntKind.i64∧∃ x17,cell? m3 ⟨s,1,none⟩=some (.int .i64 x17)∧StW m3 ⟨s,1,none⟩ (.int .i64 (IntKind.wrap .i64 (x17+1))) fun m18=>R (.int .i64 (bitsOp .and .i64 (shrOp .i64 (IntKind.wrap .i64 x15) (Int.tmod x16 8)) 1)) m18))  ):
  CallM PP f_state_bit #[.pointer (some ⟨s,0,none⟩)] m R:=
 callM_enter ffOk mixedOk 47 L_state_bit Tryz.func34 b_state_bit Tryz.ntmps34 (by simp) (Eq.mpr (by kernel_rfl) h)
def L_state_bits:List Nat:=[0,1,4,5,6,7,8,9]
def r_state_bits:List ResultVar:=[.tmp 4]
noncomputable def c_state_bits:Code:=(Go.Proofs.Tryz.f35.body).getD .skip
theorem b_state_bits:Go.Proofs.Tryz.f35.body=some c_state_bits:=by kernel_rfl
noncomputable def c_state_bits_rrr:Code:=(rgt (rgt (rgt c_state_bits)))
noncomputable def c_state_bits_rrlrl:Code:=(lft (rgt (lft (rgt (rgt c_state_bits)))))
noncomputable def c_state_bits_rrlrll:Code:=(lft c_state_bits_rrlrl)
theorem q_state_bits_rrlrl:c_state_bits_rrlrl=.loop c_state_bits_rrlrll:=by kernel_rfl
theorem e_state_bits (s:Nat) (x1:Int) (m:Mem) (R:Value→Mem→Prop)
  (h:WPS PP 19 c_state_bits_rrlrl (((retK PP r_state_bits R).withN fun r m=>WPS PP 19 c_state_bits_rrr (retK PP r_state_bits R) r m).withX 0) [(0,.pointer (some ⟨s,0,none⟩)),(1,.int .i64 x1),(4,.int .i64 0),(5,.int .i64 0),(7,.int .i64 x1),(8,.int .i64 0)] m):
  CallM PP f_state_bits #[.pointer (some ⟨s,0,none⟩),.int .i64 x1] m R:=
 callM_enter ffOk mixedOk 19 L_state_bits Tryz.func35 b_state_bits Tryz.ntmps35 (by simp) (Eq.mpr (by kernel_rfl) h)
theorem p_state_bits_rrr (x1:Int) (m:Mem) (K:Kont)
  (h:K.kr [(4,.int .i64 x1),(5,.int .i64 x1)] m):
  wpc PP FF 19 L_state_bits c_state_bits_rrr K [(5,.int .i64 x1)] m:=
 Eq.mpr (by kernel_rfl) h
theorem p_state_bits_rrlrll (s:Nat) (x1:Int) (x2:Int) (x3:Int) (m:Mem) (K:Kont)
  (h:ifB (decide (x3 < x2)) (CallM PP f_state_bit #[.pointer (some ⟨s,0,none⟩)] m fun v5 m6=>∃ x4,v5=.int .i64 x4∧0≤x3∧IntKind.i64=IntKind.i64∧K.kn [(0,.pointer (some ⟨s,0,none⟩)),(5,.int .i64 (bitsOp .or .i64 x1 (shlOp .i64 x4 x3))),(6,.int .i64 x3),(7,.int .i64 x2),(8,.int .i64 (IntKind.wrap .i64 (x3+1)))] m6) (K.kx 0 [(0,.pointer (some ⟨s,0,none⟩)),(5,.int .i64 x1),(7,.int .i64 x2),(8,.int .i64 x3)] m)):
  wpc PP FF 19 L_state_bits c_state_bits_rrlrll K [(0,.pointer (some ⟨s,0,none⟩)),(5,.int .i64 x1),(7,.int .i64 x2),(8,.int .i64 x3)] m:=
 Eq.mpr (by kernel_rfl) h
def L_state_stored:List Nat:=[0,2,3,4,5,27,36]
def r_state_stored:List ResultVar:=[]
noncomputable def c_state_stored:Code:=(Go.Proofs.Tryz.f36.body).getD .skip
theorem b_state_stored:Go.Proofs.Tryz.f36.body=some c_state_stored:=by kernel_rfl
noncomputable def c_state_stored_rrrr:Code:=(rgt (rgt (rgt (rgt c_state_stored))))
noncomputable def c_state_stored_rrrrrl:Code:=(lft (rgt c_state_stored_rrrr))
noncomputable def c_state_stored_rrrrrll:Code:=(lft c_state_stored_rrrrrl)
theorem q_state_stored_rrrrrl:c_state_stored_rrrrrl=.loop c_state_stored_rrrrrll:=by kernel_rfl
theorem e_state_stored (s:Nat) (m:Mem) (R:Value→Mem→Prop)
  (h:∃ x1,cell? m ⟨s,1,none⟩=some (.int .i64 x1)∧IntKind.i64=IntKind.i64∧(8:Int)≠0∧StW m ⟨s,1,none⟩ (.int .i64 (IntKind.wrap .i64 ((IntKind.wrap .i64 (Int.tdiv (IntKind.wrap .i64 (x1+7)) 8)) * 8))) fun m2=>CallM PP f_state_bits #[.pointer (some ⟨s,0,none⟩),.int .i64 16] m2 fun v4 m5=>∃ x3,v4=.int .i64 x3∧CallM PP f_state_bits #[.pointer (some ⟨s,0,none⟩),.int .i64 16] m5 fun v7 m8=>∃ x6,v7=.int .i64 x6∧CallM PP f_state_on #[.pointer (some ⟨s,0,none⟩)] m8 fun v10 m11=>∃ b9,v10=.bool b9∧ifB b9 (ifB ((IntKind.wrap .i64 (x3+x6)) != 65535) (CallM PP f_state_stop #[.pointer (some ⟨s,0,none⟩),.int .i64 2] m11 fun v12 m13=>v12=.tuple #[]∧WPS PP 45 c_state_stored_rrrr (retK PP r_state_stored R) [(0,.pointer (some ⟨s,0,none⟩)),(2,.int .i64 x3),(3,.int .i64 x6)] m13) (WPS PP 45 c_state_stored_rrrr (retK PP r_state_stored R) [(0,.pointer (some ⟨s,0,none⟩)),(2,.int .i64 x3),(3,.int .i64 x6)] m11)) (WPS PP 45 c_state_stored_rrrr (retK PP r_state_stored R) [(0,.pointer (some ⟨s,0,none⟩)),(2,.int .i64 x3),(3,.int .i64 x6)] m11)  ):
  CallM PP f_state_stored #[.pointer (some ⟨s,0,none⟩)] m R:=
 callM_enter ffOk mixedOk 45 L_state_stored Tryz.func36 b_state_stored Tryz.ntmps36 (by simp) (Eq.mpr (by kernel_rfl) h)
theorem p_state_stored_rrrr (s:Nat) (x1:Int) (m:Mem) (K:Kont)
  (h:WPS PP 45 c_state_stored_rrrrrl (K.withX 0) [(0,.pointer (some ⟨s,0,none⟩)),(2,.int .i64 x1),(4,.int .i64 0)] m):
  wpc PP FF 45 L_state_stored c_state_stored_rrrr K [(0,.pointer (some ⟨s,0,none⟩)),(2,.int .i64 x1)] m:=
 Eq.mpr (by kernel_rfl) h
theorem p_state_stored_rrrrrll (s:Nat) (x1:Int) (x2:Int) (m:Mem) (K:Kont)
  (h:ifB (decide (x2 < x1)) (CallM PP f_state_on #[.pointer (some ⟨s,0,none⟩)] m fun v4 m5=>∃ b3,v4=.bool b3∧ifB b3 (CallM PP f_state_bits #[.pointer (some ⟨s,0,none⟩),.int .i64 8] m5 fun v7 m8=>∃ x6,v7=.int .i64 x6∧CallM PP f_state_give #[.pointer (some ⟨s,0,none⟩),.int .u8 (IntKind.wrap .u8 x6)] m8 fun v9 m10=>v9=.tuple #[]∧K.kn [(0,.pointer (some ⟨s,0,none⟩)),(2,.int .i64 x1),(4,.int .i64 (IntKind.wrap .i64 (x2+1))),(5,.int .i64 x6)] m10) (K.kx 0 [(0,.pointer (some ⟨s,0,none⟩)),(2,.int .i64 x1),(4,.int .i64 x2)] m5)) (K.kx 0 [(0,.pointer (some ⟨s,0,none⟩)),(2,.int .i64 x1),(4,.int .i64 x2)] m)):
  wpc PP FF 45 L_state_stored c_state_stored_rrrrrll K [(0,.pointer (some ⟨s,0,none⟩)),(2,.int .i64 x1),(4,.int .i64 x2)] m:=
 Eq.mpr (by kernel_rfl) h
def L_state_coded:List Nat:=[0,1,2,6,7,8,9,10,11,12,13,14,20,24,28,35,44,61,66,74,81]
def r_state_coded:List ResultVar:=[]
noncomputable def c_state_coded:Code:=(Go.Proofs.Tryz.f37.body).getD .skip
theorem b_state_coded:Go.Proofs.Tryz.f37.body=some c_state_coded:=by kernel_rfl
noncomputable def c_state_coded_rl:Code:=(lft (rgt c_state_coded))
noncomputable def c_state_coded_rll:Code:=(lft c_state_coded_rl)
theorem q_state_coded_rl:c_state_coded_rl=.loop c_state_coded_rll:=by kernel_rfl
theorem e_state_coded (s:Nat) (a1:Option Addr) (l2:Nat) (k3:Nat) (a4:Option Addr) (l5:Nat) (k6:Nat) (m:Mem) (R:Value→Mem→Prop)
  (h:CallM PP f_spec_book #[.slice a1 l2 k3] m fun v8 m9=>∃ r7,v8=.map r7∧CallM PP f_spec_book #[.slice a4 l5 k6] m9 fun v11 m12=>∃ r10,v11=.map r10∧WPS PP 92 c_state_coded_rl ((retK PP r_state_coded R).withX 0) [(0,.pointer (some ⟨s,0,none⟩)),(1,.slice a1 l2 k3),(2,.slice a4 l5 k6),(6,.map r7),(7,.map r10)] m12):
  CallM PP f_state_coded #[.pointer (some ⟨s,0,none⟩),.slice a1 l2 k3,.slice a4 l5 k6] m R:=
 callM_enter ffOk mixedOk 92 L_state_coded Tryz.func37 b_state_coded Tryz.ntmps37 (by simp) (Eq.mpr (by kernel_rfl) h)
theorem p_state_coded_rll (s:Nat) (a1:Option Addr) (l2:Nat) (k3:Nat) (r4:Option Nat) (r5:Option Nat) (m:Mem) (K:Kont)
  (h:CallM PP f_state_on #[.pointer (some ⟨s,0,none⟩)] m fun v7 m8=>∃ b6,v7=.bool b6∧ifB b6 (CallM PP f_state_symbol #[.pointer (some ⟨s,0,none⟩),.map r4] m8 fun v10 m11=>∃ x9,v10=.int .i64 x9∧CallM PP f_state_on #[.pointer (some ⟨s,0,none⟩)] m11 fun v13 m14=>∃ b12,v13=.bool b12∧ifB (!b12) (K.kr [(0,.pointer (some ⟨s,0,none⟩)),(2,.slice a1 l2 k3),(6,.map r4),(7,.map r5),(8,.int .i64 x9)] m14) (ifB (decide (x9 < 256)) (CallM PP f_state_give #[.pointer (some ⟨s,0,none⟩),.int .u8 (IntKind.wrap .u8 x9)] m14 fun v15 m16=>v15=.tuple #[]∧K.kn [(0,.pointer (some ⟨s,0,none⟩)),(2,.slice a1 l2 k3),(6,.map r4),(7,.map r5),(8,.int .i64 x9)] m16) (ifB (x9 == 256) (K.kr [(0,.pointer (some ⟨s,0,none⟩)),(2,.slice a1 l2 k3),(6,.map r4),(7,.map r5),(8,.int .i64 x9)] m14) (CallM PP f_spec_Length #[.int .i64 x9] m14 fun v19 m20=>∃ x17 x18,v19=.tuple #[.int .i64 x17,.int .i64 x18]∧ifB (x17 == 0) (CallM PP f_state_stop #[.pointer (some ⟨s,0,none⟩),.int .i64 2] m20 fun v21 m22=>v21=.tuple #[]∧K.kr [(0,.pointer (some ⟨s,0,none⟩)),(2,.slice a1 l2 k3),(6,.map r4),(7,.map r5),(8,.int .i64 x9),(9,.int .i64 x17),(10,.int .i64 x18)] m22) (CallM PP f_state_bits #[.pointer (some ⟨s,0,none⟩),.int .i64 x18] m20 fun v24 m25=>∃ x23,v24=.int .i64 x23∧CallM PP f_state_on #[.pointer (some ⟨s,0,none⟩)] m25 fun v27 m28=>∃ b26,v27=.bool b26∧ifB b26 (ifB (x9 == 284) (ifB ((IntKind.wrap .i64 (x17+x23)) == 258) (CallM PP f_state_stop #[.pointer (some ⟨s,0,none⟩),.int .i64 0] m28 fun v29 m30=>v29=.tuple #[]∧K.kr [(0,.pointer (some ⟨s,0,none⟩)),(2,.slice a1 l2 k3),(6,.map r4),(7,.map r5),(8,.int .i64 x9),(9,.int .i64 x17),(10,.int .i64 x18),(11,.int .i64 (IntKind.wrap .i64 (x17+x23)))] m30) (CallM PP f_spec_used #[.slice a1 l2 k3] m28 fun v32 m33=>∃ x31,v32=.int .i64 x31∧ifB (x31 == 0) (CallM PP f_state_stop #[.pointer (some ⟨s,0,none⟩),.int .i64 0] m33 fun v34 m35=>v34=.tuple #[]∧K.kr [(0,.pointer (some ⟨s,0,none⟩)),(2,.slice a1 l2 k3),(6,.map r4),(7,.map r5),(8,.int .i64 x9),(9,.int .i64 x17),(10,.int .i64 x18),(11,.int .i64 (IntKind.wrap .i64 (x17+x23)))] m35) (CallM PP f_state_symbol #[.pointer (some ⟨s,0,none⟩),.map r5] m33 fun v37 m38=>∃ x36,v37=.int .i64 x36∧CallM PP f_state_on #[.pointer (some ⟨s,0,none⟩)] m38 fun v40 m41=>∃ b39,v40=.bool b39∧ifB (!b39) (K.kr [(0,.pointer (some ⟨s,0,none⟩)),(2,.slice a1 l2 k3),(6,.map r4),(7,.map r5),(8,.int .i64 x9),(9,.int .i64 x17),(10,.int .i64 x18),(11,.int .i64 (IntKind.wrap .i64 (x17+x23))),(12,.int .i64 x36)] m41) (CallM PP f_spec_Distance #[.int .i64 x36] m41 fun v44 m45=>∃ x42 x43,v44=.tuple #[.int .i64 x42,.int .i64 x43]∧ifB (x42 == 0) (CallM PP f_state_stop #[.pointer (some ⟨s,0,none⟩),.int .i64 2] m45 fun v46 m47=>v46=.tuple #[]∧K.kr [(0,.pointer (some ⟨s,0,none⟩)),(2,.slice a1 l2 k3),(6,.map r4),(7,.map r5),(8,.int .i64 x9),(9,.int .i64 x17),(10,.int .i64 x18),(11,.int .i64 (IntKind.wrap .i64 (x17+x23))),(12,.int .i64 x36),(13,.int .i64 x42),(14,.int .i64 x43)] m47) (CallM PP f_state_bits #[.pointer (some ⟨s,0,none⟩),.int .i64 x43] m45 fun v49 m50=>∃ x48,v49=.int .i64 x48∧CallM PP f_state_far #[.pointer (some ⟨s,0,none⟩),.int .i64 (IntKind.wrap .i64 (x17+x23)),.int .i64 (IntKind.wrap .i64 (x42+x48))] m50 fun v51 m52=>v51=.tuple #[]∧K.kn [(0,.pointer (some ⟨s,0,none⟩)),(2,.slice a1 l2 k3),(6,.map r4),(7,.map r5),(8,.int .i64 x9),(9,.int .i64 x17),(10,.int .i64 x18),(11,.int .i64 (IntKind.wrap .i64 (x17+x23))),(12,.int .i64 x36),(13,.int .i64 x42),(14,.int .i64 x43)] m52))))) (CallM PP f_spec_used #[.slice a1 l2 k3] m28 fun v54 m55=>∃ x53,v54=.int .i64 x53∧ifB (x53 == 0) (CallM PP f_state_stop #[.pointer (some ⟨s,0,none⟩),.int .i64 0] m55 fun v56 m57=>v56=.tuple #[]∧K.kr [(0,.pointer (some ⟨s,0,none⟩)),(2,.slice a1 l2 k3),(6,.map r4),(7,.map r5),(8,.int .i64 x9),(9,.int .i64 x17),(10,.int .i64 x18),(11,.int .i64 (IntKind.wrap .i64 (x17+x23)))] m57) (CallM PP f_state_symbol #[.pointer (some ⟨s,0,none⟩),.map r5] m55 fun v59 m60=>∃ x58,v59=.int .i64 x58∧CallM PP f_state_on #[.pointer (some ⟨s,0,none⟩)] m60 fun v62 m63=>∃ b61,v62=.bool b61∧ifB (!b61) (K.kr [(0,.pointer (some ⟨s,0,none⟩)),(2,.slice a1 l2 k3),(6,.map r4),(7,.map r5),(8,.int .i64 x9),(9,.int .i64 x17),(10,.int .i64 x18),(11,.int .i64 (IntKind.wrap .i64 (x17+x23))),(12,.int .i64 x58)] m63) (CallM PP f_spec_Distance #[.int .i64 x58] m63 fun v66 m67=>∃ x64 x65,v66=.tuple #[.int .i64 x64,.int .i64 x65]∧ifB (x64 == 0) (CallM PP f_state_stop #[.pointer (some ⟨s,0,none⟩),.int .i64 2] m67 fun v68 m69=>v68=.tuple #[]∧K.kr [(0,.pointer (some ⟨s,0,none⟩)),(2,.slice a1 l2 k3),(6,.map r4),(7,.map r5),(8,.int .i64 x9),(9,.int .i64 x17),(10,.int .i64 x18),(11,.int .i64 (IntKind.wrap .i64 (x17+x23))),(12,.int .i64 x58),(13,.int .i64 x64),(14,.int .i64 x65)] m69) (CallM PP f_state_bits #[.pointer (some ⟨s,0,none⟩),.int .i64 x65] m67 fun v71 m72=>∃ x70,v71=.int .i64 x70∧CallM PP f_state_far #[.pointer (some ⟨s,0,none⟩),.int .i64 (IntKind.wrap .i64 (x17+x23)),.int .i64 (IntKind.wrap .i64 (x64+x70))] m72 fun v73 m74=>v73=.tuple #[]∧K.kn [(0,.pointer (some ⟨s,0,none⟩)),(2,.slice a1 l2 k3),(6,.map r4),(7,.map r5),(8,.int .i64 x9),(9,.int .i64 x17),(10,.int .i64 x18),(11,.int .i64 (IntKind.wrap .i64 (x17+x23))),(12,.int .i64 x58),(13,.int .i64 x64),(14,.int .i64 x65)] m74))))) (CallM PP f_spec_used #[.slice a1 l2 k3] m28 fun v76 m77=>∃ x75,v76=.int .i64 x75∧ifB (x75 == 0) (CallM PP f_state_stop #[.pointer (some ⟨s,0,none⟩),.int .i64 0] m77 fun v78 m79=>v78=.tuple #[]∧K.kr [(0,.pointer (some ⟨s,0,none⟩)),(2,.slice a1 l2 k3),(6,.map r4),(7,.map r5),(8,.int .i64 x9),(9,.int .i64 x17),(10,.int .i64 x18),(11,.int .i64 (IntKind.wrap .i64 (x17+x23)))] m79) (CallM PP f_state_symbol #[.pointer (some ⟨s,0,none⟩),.map r5] m77 fun v81 m82=>∃ x80,v81=.int .i64 x80∧CallM PP f_state_on #[.pointer (some ⟨s,0,none⟩)] m82 fun v84 m85=>∃ b83,v84=.bool b83∧ifB (!b83) (K.kr [(0,.pointer (some ⟨s,0,none⟩)),(2,.slice a1 l2 k3),(6,.map r4),(7,.map r5),(8,.int .i64 x9),(9,.int .i64 x17),(10,.int .i64 x18),(11,.int .i64 (IntKind.wrap .i64 (x17+x23))),(12,.int .i64 x80)] m85) (CallM PP f_spec_Distance #[.int .i64 x80] m85 fun v88 m89=>∃ x86 x87,v88=.tuple #[.int .i64 x86,.int .i64 x87]∧ifB (x86 == 0) (CallM PP f_state_stop #[.pointer (some ⟨s,0,none⟩),.int .i64 2] m89 fun v90 m91=>v90=.tuple #[]∧K.kr [(0,.pointer (some ⟨s,0,none⟩)),(2,.slice a1 l2 k3),(6,.map r4),(7,.map r5),(8,.int .i64 x9),(9,.int .i64 x17),(10,.int .i64 x18),(11,.int .i64 (IntKind.wrap .i64 (x17+x23))),(12,.int .i64 x80),(13,.int .i64 x86),(14,.int .i64 x87)] m91) (CallM PP f_state_bits #[.pointer (some ⟨s,0,none⟩),.int .i64 x87] m89 fun v93 m94=>∃ x92,v93=.int .i64 x92∧CallM PP f_state_far #[.pointer (some ⟨s,0,none⟩),.int .i64 (IntKind.wrap .i64 (x17+x23)),.int .i64 (IntKind.wrap .i64 (x86+x92))] m94 fun v95 m96=>v95=.tuple #[]∧K.kn [(0,.pointer (some ⟨s,0,none⟩)),(2,.slice a1 l2 k3),(6,.map r4),(7,.map r5),(8,.int .i64 x9),(9,.int .i64 x17),(10,.int .i64 x18),(11,.int .i64 (IntKind.wrap .i64 (x17+x23))),(12,.int .i64 x80),(13,.int .i64 x86),(14,.int .i64 x87)] m96))))))))) (K.kx 0 [(0,.pointer (some ⟨s,0,none⟩)),(2,.slice a1 l2 k3),(6,.map r4),(7,.map r5)] m8)):
  wpc PP FF 92 L_state_coded c_state_coded_rll K [(0,.pointer (some ⟨s,0,none⟩)),(2,.slice a1 l2 k3),(6,.map r4),(7,.map r5)] m:=
 Eq.mpr (by kernel_rfl) h
def L_state_dynamic:List Nat:=[0,2,3,4,5,6,7,8,9,10,29,33,34,35,47,59,69,87]
def r_state_dynamic:List ResultVar:=[]
noncomputable def c_state_dynamic:Code:=(Go.Proofs.Tryz.f38.body).getD .skip
theorem b_state_dynamic:Go.Proofs.Tryz.f38.body=some c_state_dynamic:=by kernel_rfl
noncomputable def c_state_dynamic_rrrr:Code:=(rgt (rgt (rgt (rgt c_state_dynamic))))
noncomputable def c_state_dynamic_rrrrrr:Code:=(rgt (rgt c_state_dynamic_rrrr))
noncomputable def c_state_dynamic_rrrrrrr:Code:=(rgt c_state_dynamic_rrrrrr)
noncomputable def c_state_dynamic_rrrrrlrl:Code:=(lft (rgt (lft (rgt c_state_dynamic_rrrr))))
noncomputable def c_state_dynamic_rrrrrlrll:Code:=(lft c_state_dynamic_rrrrrlrl)
noncomputable def c_state_dynamic_rrrrrrrrrrr:Code:=(rgt (rgt (rgt (rgt c_state_dynamic_rrrrrrr))))
noncomputable def c_state_dynamic_rrrrrrrrrrrrr:Code:=(rgt (rgt c_state_dynamic_rrrrrrrrrrr))
theorem q_state_dynamic_rrrrrlrl:c_state_dynamic_rrrrrlrl=.loop c_state_dynamic_rrrrrlrll:=by kernel_rfl
theorem e_state_dynamic (s:Nat) (m:Mem) (R:Value→Mem→Prop)
  (h:CallM PP f_state_bits #[.pointer (some ⟨s,0,none⟩),.int .i64 5] m fun v2 m3=>∃ x1,v2=.int .i64 x1∧CallM PP f_state_bits #[.pointer (some ⟨s,0,none⟩),.int .i64 5] m3 fun v5 m6=>∃ x4,v5=.int .i64 x4∧CallM PP f_state_bits #[.pointer (some ⟨s,0,none⟩),.int .i64 4] m6 fun v8 m9=>∃ x7,v8=.int .i64 x7∧CallM PP f_state_on #[.pointer (some ⟨s,0,none⟩)] m9 fun v11 m12=>∃ b10,v11=.bool b10∧ifB b10 (ifB (decide ((IntKind.wrap .i64 (257+x1)) > 286)) (CallM PP f_state_stop #[.pointer (some ⟨s,0,none⟩),.int .i64 0] m12 fun v13 m14=>v13=.tuple #[]∧WPS PP 95 c_state_dynamic_rrrr (retK PP r_state_dynamic R) [(0,.pointer (some ⟨s,0,none⟩)),(2,.int .i64 (IntKind.wrap .i64 (257+x1))),(3,.int .i64 (IntKind.wrap .i64 (1+x4))),(4,.int .i64 (IntKind.wrap .i64 (4+x7)))] m14) (ifB (decide ((IntKind.wrap .i64 (1+x4)) > 30)) (CallM PP f_state_stop #[.pointer (some ⟨s,0,none⟩),.int .i64 0] m12 fun v15 m16=>v15=.tuple #[]∧WPS PP 95 c_state_dynamic_rrrr (retK PP r_state_dynamic R) [(0,.pointer (some ⟨s,0,none⟩)),(2,.int .i64 (IntKind.wrap .i64 (257+x1))),(3,.int .i64 (IntKind.wrap .i64 (1+x4))),(4,.int .i64 (IntKind.wrap .i64 (4+x7)))] m16) (WPS PP 95 c_state_dynamic_rrrr (retK PP r_state_dynamic R) [(0,.pointer (some ⟨s,0,none⟩)),(2,.int .i64 (IntKind.wrap .i64 (257+x1))),(3,.int .i64 (IntKind.wrap .i64 (1+x4))),(4,.int .i64 (IntKind.wrap .i64 (4+x7)))] m12))) (WPS PP 95 c_state_dynamic_rrrr (retK PP r_state_dynamic R) [(0,.pointer (some ⟨s,0,none⟩)),(2,.int .i64 (IntKind.wrap .i64 (257+x1))),(3,.int .i64 (IntKind.wrap .i64 (1+x4))),(4,.int .i64 (IntKind.wrap .i64 (4+x7)))] m12)  ):
  CallM PP f_state_dynamic #[.pointer (some ⟨s,0,none⟩)] m R:=
 callM_enter ffOk mixedOk 95 L_state_dynamic Tryz.func38 b_state_dynamic Tryz.ntmps38 (by simp) (Eq.mpr (by kernel_rfl) h)
theorem p_state_dynamic_rrrr (s:Nat) (x1:Int) (x2:Int) (x3:Int) (m:Mem) (K:Kont)
  (h:SemW PP (sv (Instr.makeSlice t_s_int (.int .i64 19) (.int .i64 19))) m (NextW PP fun v7 m8=>∃ a4 l5 k6,v7=.slice a4 l5 k6∧WPS PP 95 c_state_dynamic_rrrrrlrl ((K.withN fun r m=>WPS PP 95 c_state_dynamic_rrrrrr K r m).withX 0) [(0,.pointer (some ⟨s,0,none⟩)),(2,.int .i64 x1),(3,.int .i64 x2),(4,.int .i64 x3),(5,.slice a4 l5 k6),(33,.int .i64 x3),(34,.int .i64 0)] m8)):
  wpc PP FF 95 L_state_dynamic c_state_dynamic_rrrr K [(0,.pointer (some ⟨s,0,none⟩)),(2,.int .i64 x1),(3,.int .i64 x2),(4,.int .i64 x3)] m:=
 Eq.mpr (by kernel_rfl) h
theorem p_state_dynamic_rrrrrlrll (s:Nat) (x1:Int) (x2:Int) (a3:Option Addr) (l4:Nat) (k5:Nat) (x6:Int) (x7:Int) (m:Mem) (K:Kont)
  (h:ifB (decide (x7 < x6)) (CallM PP f_spec_Order #[] m fun v11 m12=>∃ a8 l9 k10,v11=.slice a8 l9 k10∧onSome a8 fun p13=>(0≤x7∧x7 < (l9:Int))∧∃ x14,cell? m12 (aplus p13 x7.toNat)=some (.int .i64 x14)∧CallM PP f_state_bits #[.pointer (some ⟨s,0,none⟩),.int .i64 3] m12 fun v16 m17=>∃ x15,v16=.int .i64 x15∧cell? m17 (aplus p13 x7.toNat)=some (.int .i64 x14)∧onSome a3 fun p18=>(0≤x14∧x14 < (l4:Int))∧StW m17 (aplus p18 x14.toNat) (.int .i64 x15) fun m19=>cell? m19 (aplus p13 x7.toNat)=some (.int .i64 x14)∧K.kn [(0,.pointer (some ⟨s,0,none⟩)),(2,.int .i64 x1),(3,.int .i64 x2),(5,.slice a3 l4 k5),(6,.int .i64 x7),(33,.int .i64 x6),(34,.int .i64 (IntKind.wrap .i64 (x7+1)))] m19) (K.kx 0 [(0,.pointer (some ⟨s,0,none⟩)),(2,.int .i64 x1),(3,.int .i64 x2),(5,.slice a3 l4 k5),(33,.int .i64 x6),(34,.int .i64 x7)] m)):
  wpc PP FF 95 L_state_dynamic c_state_dynamic_rrrrrlrll K [(0,.pointer (some ⟨s,0,none⟩)),(2,.int .i64 x1),(3,.int .i64 x2),(5,.slice a3 l4 k5),(33,.int .i64 x6),(34,.int .i64 x7)] m:=
 Eq.mpr (by kernel_rfl) h
theorem p_state_dynamic_rrrrrr (s:Nat) (x1:Int) (x2:Int) (a3:Option Addr) (l4:Nat) (k5:Nat) (m:Mem) (K:Kont)
  (h:CallM PP f_state_on #[.pointer (some ⟨s,0,none⟩)] m fun v7 m8=>∃ b6,v7=.bool b6∧ifB b6 (CallM PP f_state_whole #[.pointer (some ⟨s,0,none⟩),.slice a3 l4 k5] m8 fun v9 m10=>v9=.tuple #[]∧WPS PP 95 c_state_dynamic_rrrrrrr K [(0,.pointer (some ⟨s,0,none⟩)),(2,.int .i64 x1),(3,.int .i64 x2),(5,.slice a3 l4 k5)] m10) (WPS PP 95 c_state_dynamic_rrrrrrr K [(0,.pointer (some ⟨s,0,none⟩)),(2,.int .i64 x1),(3,.int .i64 x2),(5,.slice a3 l4 k5)] m8)):
  wpc PP FF 95 L_state_dynamic c_state_dynamic_rrrrrr K [(0,.pointer (some ⟨s,0,none⟩)),(2,.int .i64 x1),(3,.int .i64 x2),(5,.slice a3 l4 k5)] m:=
 Eq.mpr (by kernel_rfl) h
theorem p_state_dynamic_rrrrrrr (s:Nat) (x1:Int) (x2:Int) (a3:Option Addr) (l4:Nat) (k5:Nat) (m:Mem) (K:Kont)
  (h:CallM PP f_state_told #[.pointer (some ⟨s,0,none⟩),.int .i64 (IntKind.wrap .i64 (x1+x2)),.slice a3 l4 k5] m fun v9 m10=>∃ a6 l7 k8,v9=.slice a6 l7 k8∧CallM PP f_state_on #[.pointer (some ⟨s,0,none⟩)] m10 fun v12 m13=>∃ b11,v12=.bool b11∧ifB (!b11) (K.kr [(0,.pointer (some ⟨s,0,none⟩)),(2,.int .i64 x1),(3,.int .i64 x2),(5,.slice a3 l4 k5),(7,.slice a6 l7 k8)] m13) (l7≤k8∧(0≤x1∧x1≤(k8:Int))∧l7≤k8∧(0≤x1∧x1≤(l7:Int))∧onSome a6 fun p14=>(0≤(256:Int)∧(256:Int) < ((x1.toNat:Nat):Int))∧∃ x15,cell? m13 (aplus p14 256)=some (.int .i64 x15)∧ifB (x15 == 0) (CallM PP f_state_stop #[.pointer (some ⟨s,0,none⟩),.int .i64 0] m13 fun v16 m17=>v16=.tuple #[]∧WPS PP 95 c_state_dynamic_rrrrrrrrrrr K [(0,.pointer (some ⟨s,0,none⟩)),(2,.int .i64 x1),(3,.int .i64 x2),(5,.slice a3 l4 k5),(7,.slice a6 l7 k8),(8,.slice a6 x1.toNat k8),(9,.slice (subA a6 x1.toNat 1 k8) (l7 - x1.toNat) (k8 - x1.toNat))] m17) (WPS PP 95 c_state_dynamic_rrrrrrrrrrr K [(0,.pointer (some ⟨s,0,none⟩)),(2,.int .i64 x1),(3,.int .i64 x2),(5,.slice a3 l4 k5),(7,.slice a6 l7 k8),(8,.slice a6 x1.toNat k8),(9,.slice (subA a6 x1.toNat 1 k8) (l7 - x1.toNat) (k8 - x1.toNat))] m13))):
  wpc PP FF 95 L_state_dynamic c_state_dynamic_rrrrrrr K [(0,.pointer (some ⟨s,0,none⟩)),(2,.int .i64 x1),(3,.int .i64 x2),(5,.slice a3 l4 k5)] m:=
 Eq.mpr (by kernel_rfl) h
theorem p_state_dynamic_rrrrrrrrrrr (s:Nat) (a1:Option Addr) (l2:Nat) (k3:Nat) (a4:Option Addr) (l5:Nat) (k6:Nat) (m:Mem) (K:Kont)
  (h:CallM PP f_state_whole #[.pointer (some ⟨s,0,none⟩),.slice a1 l2 k3] m fun v7 m8=>v7=.tuple #[]∧CallM PP f_spec_used #[.slice a4 l5 k6] m8 fun v10 m11=>∃ x9,v10=.int .i64 x9∧ifB (decide (x9 > 1)) (CallM PP f_state_whole #[.pointer (some ⟨s,0,none⟩),.slice a4 l5 k6] m11 fun v12 m13=>v12=.tuple #[]∧WPS PP 95 c_state_dynamic_rrrrrrrrrrrrr K [(0,.pointer (some ⟨s,0,none⟩)),(8,.slice a1 l2 k3),(9,.slice a4 l5 k6),(10,.int .i64 x9)] m13) (ifB (x9 == 1) (CallM PP f_spec_Room #[.slice a4 l5 k6] m11 fun v15 m16=>∃ x14,v15=.int .i64 x14∧ifB (x14 != 16384) (CallM PP f_state_whole #[.pointer (some ⟨s,0,none⟩),.slice a4 l5 k6] m16 fun v17 m18=>v17=.tuple #[]∧WPS PP 95 c_state_dynamic_rrrrrrrrrrrrr K [(0,.pointer (some ⟨s,0,none⟩)),(8,.slice a1 l2 k3),(9,.slice a4 l5 k6),(10,.int .i64 x9)] m18) (WPS PP 95 c_state_dynamic_rrrrrrrrrrrrr K [(0,.pointer (some ⟨s,0,none⟩)),(8,.slice a1 l2 k3),(9,.slice a4 l5 k6),(10,.int .i64 x9)] m16)) (WPS PP 95 c_state_dynamic_rrrrrrrrrrrrr K [(0,.pointer (some ⟨s,0,none⟩)),(8,.slice a1 l2 k3),(9,.slice a4 l5 k6),(10,.int .i64 x9)] m11))):
  wpc PP FF 95 L_state_dynamic c_state_dynamic_rrrrrrrrrrr K [(0,.pointer (some ⟨s,0,none⟩)),(8,.slice a1 l2 k3),(9,.slice a4 l5 k6)] m:=
 Eq.mpr (by kernel_rfl) h
theorem p_state_dynamic_rrrrrrrrrrrrr (s:Nat) (a1:Option Addr) (l2:Nat) (k3:Nat) (a4:Option Addr) (l5:Nat) (k6:Nat) (m:Mem) (K:Kont)
  (h:CallM PP f_state_coded #[.pointer (some ⟨s,0,none⟩),.slice a1 l2 k3,.slice a4 l5 k6] m fun v7 m8=>v7=.tuple #[]∧K.kn [(0,.pointer (some ⟨s,0,none⟩)),(8,.slice a1 l2 k3),(9,.slice a4 l5 k6)] m8):
  wpc PP FF 95 L_state_dynamic c_state_dynamic_rrrrrrrrrrrrr K [(0,.pointer (some ⟨s,0,none⟩)),(8,.slice a1 l2 k3),(9,.slice a4 l5 k6)] m:=
 Eq.mpr (by kernel_rfl) h
def L_impl_code:List Nat:=[0,2,3,4,7,11,15]
def r_impl_code:List ResultVar:=[.tmp 2]
noncomputable def c_impl_code:Code:=(Go.Proofs.Tryz.f39.body).getD .skip
theorem b_impl_code:Go.Proofs.Tryz.f39.body=some c_impl_code:=by kernel_rfl
theorem e_impl_code (v1:Value) (m:Mem) (R:Value→Mem→Prop)
  (h:AllocW PP t_flate_CorruptInputError m fun n2 m3=>isIfc v1=true∧ifB (isNil v1) (R (.int .i64 0) m3) (∃ v4,cell? m3 ⟨g_io_EOF,0,none⟩=some (v4)∧ReadW PP m3 (do eqGuard .eql t_error (.tmp 8) (.tmp 9) v1 v4; binOp .eql t_error v1 v4) fun u6=>∃ b5,u6=.bool b5∧ifB b5 (R (.int .i64 1) m3) (∃ v7,cell? m3 ⟨g_io_ErrUnexpectedEOF,0,none⟩=some (v7)∧ReadW PP m3 (do eqGuard .eql t_error (.tmp 12) (.tmp 13) v1 v7; binOp .eql t_error v1 v7) fun u9=>∃ b8,u9=.bool b8∧ifB b8 (R (.int .i64 2) m3) (CallM PP f_errors_As #[v1,.iface t_p_flate_CorruptInputError (.pointer (some ⟨n2,0,none⟩))] m3 fun v11 m12=>∃ b10,v11=.bool b10∧ifB b10 (R (.int .i64 3) m12) (R (.int .i64 4) m12))))):
  CallM PP f_impl_code #[v1] m R:=
 callM_enter ffOk mixedOk 19 L_impl_code Tryz.func39 b_impl_code Tryz.ntmps39 (by simp) (Eq.mpr (by kernel_rfl) h)
def L_decompressor_makeReader:List Nat:=[0,1,4,5,11,23]
def r_decompressor_makeReader:List ResultVar:=[]
noncomputable def c_decompressor_makeReader:Code:=(Go.Proofs.Tryz.f40.body).getD .skip
theorem b_decompressor_makeReader:Go.Proofs.Tryz.f40.body=some c_decompressor_makeReader:=by kernel_rfl
noncomputable def c_decompressor_makeReader_rr:Code:=(rgt (rgt c_decompressor_makeReader))
theorem e_decompressor_makeReader (f:Nat) (v1:Value) (m:Mem) (R:Value→Mem→Prop)
  (h:PureW PP (Instr.typeAssert v1 t_io_Reader t_flate_Reader true) fun u4=>∃ v2 b3,u4=.tuple #[v2,.bool b3]∧ifB b3 (StW m ⟨f,1,none⟩ (.pointer none) fun m5=>StW m5 ⟨f,0,none⟩ v2 fun m6=>R (.tuple #[]) m6) (∃ p7,cell? m ⟨f,1,none⟩=some (.pointer p7)∧ifB (!p7.isNone) (∃ p8,cell? m ⟨f,1,none⟩=some (.pointer p8)∧CallM PP f_bufio_Reader_Reset #[.pointer p8,v1] m fun v9 m10=>v9=.tuple #[]∧WPS PP 43 c_decompressor_makeReader_rr (retK PP r_decompressor_makeReader R) [(0,.pointer (some ⟨f,0,none⟩)),(1,v1),(4,v2),(5,.bool b3)] m10) (CallM PP f_bufio_NewReader #[v1] m fun v12 m13=>∃ p11,v12=.pointer p11∧StW m13 ⟨f,1,none⟩ (.pointer p11) fun m14=>WPS PP 43 c_decompressor_makeReader_rr (retK PP r_decompressor_makeReader R) [(0,.pointer (some ⟨f,0,none⟩)),(1,v1),(4,v2),(5,.bool b3)] m14))):
  CallM PP f_decompressor_makeReader #[.pointer (some ⟨f,0,none⟩),v1] m R:=
 callM_enter ffOk mixedOk 43 L_decompressor_makeReader Tryz.func40 b_decompressor_makeReader Tryz.ntmps40 (by simp) (Eq.mpr (by kernel_rfl) h)
theorem p_decompressor_makeReader_rr (f:Nat) (m:Mem) (K:Kont)
  (h:∃ p1,cell? m ⟨f,1,none⟩=some (.pointer p1)∧StW m ⟨f,0,none⟩ (.iface t_p_bufio_Reader (.pointer p1)) fun m2=>K.kn [(0,.pointer (some ⟨f,0,none⟩))] m2  ):
  wpc PP FF 43 L_decompressor_makeReader c_decompressor_makeReader_rr K [(0,.pointer (some ⟨f,0,none⟩))] m:=
 Eq.mpr (by kernel_rfl) h
def L_decompressor_nextBlock:List Nat:=[0,2,7,17,53,62,66,77,88]
def r_decompressor_nextBlock:List ResultVar:=[]
noncomputable def c_decompressor_nextBlock:Code:=(Go.Proofs.Tryz.f41.body).getD .skip
theorem b_decompressor_nextBlock:Go.Proofs.Tryz.f41.body=some c_decompressor_nextBlock:=by kernel_rfl
noncomputable def c_decompressor_nextBlock_r:Code:=(rgt c_decompressor_nextBlock)
noncomputable def c_decompressor_nextBlock_ll:Code:=(lft (lft c_decompressor_nextBlock))
noncomputable def c_decompressor_nextBlock_lll:Code:=(lft c_decompressor_nextBlock_ll)
theorem q_decompressor_nextBlock_ll:c_decompressor_nextBlock_ll=.loop c_decompressor_nextBlock_lll:=by kernel_rfl
theorem e_decompressor_nextBlock (f:Nat) (m:Mem) (R:Value→Mem→Prop)
  (h:WPS PP 103 c_decompressor_nextBlock_ll (((retK PP r_decompressor_nextBlock R).withN fun r m=>WPS PP 103 c_decompressor_nextBlock_r (retK PP r_decompressor_nextBlock R) r m).withX 0) [(0,.pointer (some ⟨f,0,none⟩))] m  ):
  CallM PP f_decompressor_nextBlock #[.pointer (some ⟨f,0,none⟩)] m R:=
 callM_enter ffOk mixedOk 103 L_decompressor_nextBlock Tryz.func41 b_decompressor_nextBlock Tryz.ntmps41 (by simp) (Eq.mpr (by kernel_rfl) h)
def k_decompressor_nextBlock_r:List Nat:=[0]
theorem p_decompressor_nextBlock_r (f:Nat) (m:Mem) (K:Kont)
  (h:∃ x1,cell? m ⟨f,3,none⟩=some (.int .u32 x1)∧IntKind.u32=IntKind.u32∧StW m ⟨f,1047,none⟩ (.bool ((bitsOp .and .u32 x1 1) == 1)) fun m2=>∃ x3,cell? m2 ⟨f,3,none⟩=some (.int .u32 x3)∧0≤(1:Int)∧StW m2 ⟨f,3,none⟩ (.int .u32 (shrOp .u32 x3 1)) fun m4=>∃ x5,cell? m4 ⟨f,3,none⟩=some (.int .u32 x5)∧IntKind.u32=IntKind.u32∧∃ x6,cell? m4 ⟨f,3,none⟩=some (.int .u32 x6)∧0≤(2:Int)∧StW m4 ⟨f,3,none⟩ (.int .u32 (shrOp .u32 x6 2)) fun m7=>∃ x8,cell? m7 ⟨f,4,none⟩=some (.int .u64 x8)∧StW m7 ⟨f,4,none⟩ (.int .u64 (IntKind.wrap .u64 (x8 - 3))) fun m9=>ifB ((bitsOp .and .u32 x5 3) == 0) (CallM PP f_decompressor_dataBlock #[.pointer (some ⟨f,0,none⟩)] m9 fun v10 m11=>v10=.tuple #[]∧K.kn [(0,.pointer (some ⟨f,0,none⟩)),(2,.int .u32 (bitsOp .and .u32 x5 3)),(53,.int .u32 (bitsOp .and .u32 x5 3))] m11) (ifB ((bitsOp .and .u32 x5 3) == 1) (CallM PP f_inflate_fixedHuffman #[] m9 fun v13 m14=>∃ p12,v13=.pointer p12∧StW m14 ⟨f,1050,none⟩ (.pointer p12) fun m15=>StW m15 ⟨f,1051,none⟩ (.pointer none) fun m16=>CallM PP f_decompressor_huffmanBlock #[.pointer (some ⟨f,0,none⟩)] m16 fun v17 m18=>v17=.tuple #[]∧K.kn [(0,.pointer (some ⟨f,0,none⟩)),(2,.int .u32 (bitsOp .and .u32 x5 3)),(53,.int .u32 (bitsOp .and .u32 x5 3))] m18) (ifB ((bitsOp .and .u32 x5 3) == 2) (CallM PP f_decompressor_readHuffman #[.pointer (some ⟨f,0,none⟩)] m9 fun v20 m21=>∃ v19,v20=v19∧StW m21 ⟨f,1048,none⟩ v19 fun m22=>∃ v23,cell? m22 ⟨f,1048,none⟩=some (v23)∧isIfc v23=true∧ifB (!(isNil v23)) (K.kn [(0,.pointer (some ⟨f,0,none⟩)),(2,.int .u32 (bitsOp .and .u32 x5 3)),(53,.int .u32 (bitsOp .and .u32 x5 3))] m22) (StW m22 ⟨f,1050,none⟩ (.pointer (some ⟨f,5,none⟩)) fun m24=>StW m24 ⟨f,1051,none⟩ (.pointer (some ⟨f,520,none⟩)) fun m25=>CallM PP f_decompressor_huffmanBlock #[.pointer (some ⟨f,0,none⟩)] m25 fun v26 m27=>v26=.tuple #[]∧K.kn [(0,.pointer (some ⟨f,0,none⟩)),(2,.int .u32 (bitsOp .and .u32 x5 3)),(53,.int .u32 (bitsOp .and .u32 x5 3))] m27)) (∃ x28,cell? m9 ⟨f,2,none⟩=some (.int .i64 x28)∧StW m9 ⟨f,1048,none⟩ (.iface t_flate_CorruptInputError (.int .i64 x28)) fun m29=>K.kn [(0,.pointer (some ⟨f,0,none⟩)),(2,.int .u32 (bitsOp .and .u32 x5 3)),(53,.int .u32 (bitsOp .and .u32 x5 3))] m29)))  ):
  wpc PP FF 103 L_decompressor_nextBlock c_decompressor_nextBlock_r K [(0,.pointer (some ⟨f,0,none⟩))] m:=
 Eq.mpr (by kernel_rfl) h
theorem p_decompressor_nextBlock_lll (f:Nat) (m:Mem) (K:Kont)
  (h:∃ x1,cell? m ⟨f,4,none⟩=some (.int .u64 x1)∧ifB (decide (x1 < 3)) (CallM PP f_decompressor_moreBits #[.pointer (some ⟨f,0,none⟩)] m fun v3 m4=>∃ v2,v3=v2∧StW m4 ⟨f,1048,none⟩ v2 fun m5=>∃ v6,cell? m5 ⟨f,1048,none⟩=some (v6)∧isIfc v6=true∧ifB (!(isNil v6)) (K.kr [(0,.pointer (some ⟨f,0,none⟩))] m5) (K.kn [(0,.pointer (some ⟨f,0,none⟩))] m5)) (K.kx 0 [(0,.pointer (some ⟨f,0,none⟩))] m)  ):
  wpc PP FF 103 L_decompressor_nextBlock c_decompressor_nextBlock_lll K [(0,.pointer (some ⟨f,0,none⟩))] m:=
 Eq.mpr (by kernel_rfl) h
def L_dictDecoder_init:List Nat:=[0,1,2,19,41,70]
def r_dictDecoder_init:List ResultVar:=[]
noncomputable def c_dictDecoder_init:Code:=(Go.Proofs.Tryz.f42.body).getD .skip
theorem b_dictDecoder_init:Go.Proofs.Tryz.f42.body=some c_dictDecoder_init:=by kernel_rfl
noncomputable def c_dictDecoder_init_rr:Code:=(rgt (rgt c_dictDecoder_init))
noncomputable def c_dictDecoder_init_rrrr:Code:=(rgt (rgt c_dictDecoder_init_rr))
noncomputable def c_dictDecoder_init_rrrrrr:Code:=(rgt (rgt c_dictDecoder_init_rrrr))
theorem e_dictDecoder_init (f:Nat) (x1:Int) (a2:Option Addr) (l3:Nat) (k4:Nat) (m:Mem) (R:Value→Mem→Prop)
  (h:∃ a5 l6 k7,cell? m ⟨f,1037,none⟩=some (.slice a5 l6 k7)∧StAgg PP t_flate_dictDecoder m ⟨f,1037,none⟩ (.agg #[.slice a5 l6 k7,.int .i64 0,.int .i64 0,.bool false]) fun m8=>∃ a9 l10 k11,cell? m8 ⟨f,1037,none⟩=some (.slice a9 l10 k11)∧ifB (decide ((k11:Int) < x1)) (SemW PP (sv (Instr.makeSlice t_s_uint8 (.int .i64 x1) (.int .i64 x1))) m8 (NextW PP fun v15 m16=>∃ a12 l13 k14,v15=.slice a12 l13 k14∧StW m16 ⟨f,1037,none⟩ (.slice a12 l13 k14) fun m17=>WPS PP 84 c_dictDecoder_init_rr (retK PP r_dictDecoder_init R) [(0,.pointer (some ⟨f,1037,none⟩)),(1,.int .i64 x1),(2,.slice a2 l3 k4)] m17)) (WPS PP 84 c_dictDecoder_init_rr (retK PP r_dictDecoder_init R) [(0,.pointer (some ⟨f,1037,none⟩)),(1,.int .i64 x1),(2,.slice a2 l3 k4)] m8)):
  CallM PP f_dictDecoder_init #[.pointer (some ⟨f,1037,none⟩),.int .i64 x1,.slice a2 l3 k4] m R:=
 callM_enter ffOk mixedOk 84 L_dictDecoder_init Tryz.func42 b_dictDecoder_init Tryz.ntmps42 (by simp) (Eq.mpr (by kernel_rfl) h)
def k_dictDecoder_init_rr:List Nat:=[0,1,2]
theorem p_dictDecoder_init_rr (f:Nat) (x1:Int) (a2:Option Addr) (l3:Nat) (k4:Nat) (m:Mem) (K:Kont)
  (h:∃ a5 l6 k7,cell? m ⟨f,1037,none⟩=some (.slice a5 l6 k7)∧l6≤k7∧(0≤x1∧x1≤(k7:Int))∧StW m ⟨f,1037,none⟩ (.slice a5 x1.toNat k7) fun m8=>∃ a9 l10 k11,cell? m8 ⟨f,1037,none⟩=some (.slice a9 l10 k11)∧ifB (decide ((l3:Int) > (l10:Int))) (∃ a12 l13 k14,cell? m8 ⟨f,1037,none⟩=some (.slice a12 l13 k14)∧l3≤k4∧(0≤(IntKind.wrap .i64 ((l3:Int) - (l13:Int)))∧(IntKind.wrap .i64 ((l3:Int) - (l13:Int)))≤(l3:Int))∧WPS PP 84 c_dictDecoder_init_rrrr K [(0,.pointer (some ⟨f,1037,none⟩)),(1,.int .i64 x1),(2,.slice (subA a2 ((IntKind.wrap .i64 ((l3:Int) - (l13:Int))).toNat) 1 k4) (l3 - ((IntKind.wrap .i64 ((l3:Int) - (l13:Int))).toNat)) (k4 - ((IntKind.wrap .i64 ((l3:Int) - (l13:Int))).toNat)))] m8) (WPS PP 84 c_dictDecoder_init_rrrr K [(0,.pointer (some ⟨f,1037,none⟩)),(1,.int .i64 x1),(2,.slice a2 l3 k4)] m8)):
  wpc PP FF 84 L_dictDecoder_init c_dictDecoder_init_rr K [(0,.pointer (some ⟨f,1037,none⟩)),(1,.int .i64 x1),(2,.slice a2 l3 k4)] m:=
 Eq.mpr (by kernel_rfl) h
def k_dictDecoder_init_rrrr:List Nat:=[0,2]
theorem p_dictDecoder_init_rrrr (f:Nat) (a1:Option Addr) (l2:Nat) (k3:Nat) (m:Mem) (K:Kont)
  (h:∃ a4 l5 k6,cell? m ⟨f,1037,none⟩=some (.slice a4 l5 k6)∧SemW PP (builtin .copy #[t_s_uint8,t_s_uint8] t_int #[false,false] #[.slice a4 l5 k6,.slice a1 l2 k3]) m (NextW PP fun v8 m9=>∃ x7,v8=.int .i64 x7∧StW m9 ⟨f,1038,none⟩ (.int .i64 x7) fun m10=>∃ x11,cell? m10 ⟨f,1038,none⟩=some (.int .i64 x11)∧∃ a12 l13 k14,cell? m10 ⟨f,1037,none⟩=some (.slice a12 l13 k14)∧ifB (x11 == (l13:Int)) (StW m10 ⟨f,1038,none⟩ (.int .i64 0) fun m15=>StW m15 ⟨f,1040,none⟩ (.bool true) fun m16=>WPS PP 84 c_dictDecoder_init_rrrrrr K [(0,.pointer (some ⟨f,1037,none⟩)),(2,.slice a1 l2 k3)] m16) (WPS PP 84 c_dictDecoder_init_rrrrrr K [(0,.pointer (some ⟨f,1037,none⟩)),(2,.slice a1 l2 k3)] m10))):
  wpc PP FF 84 L_dictDecoder_init c_dictDecoder_init_rrrr K [(0,.pointer (some ⟨f,1037,none⟩)),(2,.slice a1 l2 k3)] m:=
 Eq.mpr (by kernel_rfl) h
def k_dictDecoder_init_rrrrrr:List Nat:=[0]
theorem p_dictDecoder_init_rrrrrr (f:Nat) (m:Mem) (K:Kont)
  (h:∃ x1,cell? m ⟨f,1038,none⟩=some (.int .i64 x1)∧StW m ⟨f,1039,none⟩ (.int .i64 x1) fun m2=>K.kn [(0,.pointer (some ⟨f,1037,none⟩))] m2  ):
  wpc PP FF 84 L_dictDecoder_init c_dictDecoder_init_rrrrrr K [(0,.pointer (some ⟨f,1037,none⟩))] m:=
 Eq.mpr (by kernel_rfl) h
end Go.M
