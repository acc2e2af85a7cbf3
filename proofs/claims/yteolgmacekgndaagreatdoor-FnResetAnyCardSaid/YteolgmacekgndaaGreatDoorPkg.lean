/- What pieces of the code come to. -/
import Derived.Test.YteolgmacekgndaaGreatDoorPke
set_option maxRecDepth 100000
namespace Go.M
open Go Go.Proofs
def L_spec_Order:List Nat:=[0]
def r_spec_Order:List ResultVar:=[.tmp 0]
noncomputable def c_spec_Order:Code:=(Go.Proofs.Tryz.f42.body).getD .skip
theorem b_spec_Order:Go.Proofs.Tryz.f42.body=some c_spec_Order:=by kernel_rfl
theorem e_spec_Order  (m:Mem) (R:Value→Mem→Prop)
  (h:SemW PP (sv (Instr.buildSlice t_s_int 19 #[(0,.int .i64 16),(1,.int .i64 17),(2,.int .i64 18),(3,.int .i64 0),(4,.int .i64 8),(5,.int .i64 7),(6,.int .i64 9),(7,.int .i64 6),(8,.int .i64 10),(9,.int .i64 5),(10,.int .i64 11),(11,.int .i64 4),(12,.int .i64 12),(13,.int .i64 3),(14,.int .i64 13),(15,.int .i64 2),(16,.int .i64 14),(17,.int .i64 1),(18,.int .i64 15)])) m (NextW PP fun v4 m5=>∃ a1 l2 k3,v4=.slice a1 l2 k3∧R (.slice a1 l2 k3) m5)  ):
  CallM PP f_spec_Order #[] m R:=
 callM_enter ffOk mixedOk 2 L_spec_Order Tryz.func42 b_spec_Order Tryz.ntmps42 (by simp) (Eq.mpr (by kernel_rfl) h)
def L_state_whole:List Nat:=[0,1,4,7,12]
def r_state_whole:List ResultVar:=[]
noncomputable def c_state_whole:Code:=(Go.Proofs.Tryz.f43.body).getD .skip
theorem b_state_whole:Go.Proofs.Tryz.f43.body=some c_state_whole:=by kernel_rfl
theorem e_state_whole (s:Nat) (a1:Option Addr) (l2:Nat) (k3:Nat) (m:Mem) (R:Value→Mem→Prop)
  (h:CallM PP f_spec_Room #[.slice a1 l2 k3] m fun v5 m6=>∃ x4,v5=.int .i64 x4∧ifB (decide (x4 < 0)) (CallM PP f_state_stop #[.pointer (some ⟨s,0,none⟩),.int .i64 2] m6 fun v7 m8=>v7=.tuple #[]∧R (.tuple #[]) m8) (ifB (decide (x4 > 0)) (CallM PP f_state_stop #[.pointer (some ⟨s,0,none⟩),.int .i64 0] m6 fun v9 m10=>v9=.tuple #[]∧R (.tuple #[]) m10) (R (.tuple #[]) m6))):
  CallM PP f_state_whole #[.pointer (some ⟨s,0,none⟩),.slice a1 l2 k3] m R:=
 callM_enter ffOk mixedOk 17 L_state_whole Tryz.func43 b_state_whole Tryz.ntmps43 (by simp) (Eq.mpr (by kernel_rfl) h)
def L_state_told:List Nat:=[0,1,2,6,7,8,9,10,11,21,26,31,42,54,60,75,78,79,80]
def r_state_told:List ResultVar:=[.tmp 6]
noncomputable def c_state_told:Code:=(Go.Proofs.Tryz.f44.body).getD .skip
theorem b_state_told:Go.Proofs.Tryz.f44.body=some c_state_told:=by kernel_rfl
noncomputable def c_state_told_rrrr:Code:=(rgt (rgt (rgt (rgt c_state_told))))
noncomputable def c_state_told_rrrll:Code:=(lft (lft (rgt (rgt (rgt c_state_told)))))
noncomputable def c_state_told_rrrlll:Code:=(lft c_state_told_rrrll)
noncomputable def c_state_told_rrrlllrlrrr:Code:=(rgt (rgt (rgt (lft (rgt c_state_told_rrrlll)))))
noncomputable def c_state_told_rrrlllrlrrrr:Code:=(rgt c_state_told_rrrlllrlrrr)
noncomputable def c_state_told_rrrlllrlrrrrrl:Code:=(lft (rgt c_state_told_rrrlllrlrrrr))
noncomputable def c_state_told_rrrlllrlrrrrrll:Code:=(lft c_state_told_rrrlllrlrrrrrl)
theorem q_state_told_rrrll:c_state_told_rrrll=.loop c_state_told_rrrlll:=by kernel_rfl
theorem q_state_told_rrrlllrlrrrrrl:c_state_told_rrrlllrlrrrrrl=.loop c_state_told_rrrlllrlrrrrrll:=by kernel_rfl
theorem e_state_told (s:Nat) (x1:Int) (a2:Option Addr) (l3:Nat) (k4:Nat) (m:Mem) (R:Value→Mem→Prop)
  (h:CallM PP f_spec_book #[.slice a2 l3 k4] m fun v6 m7=>∃ r5,v6=.map r5∧WPS PP 87 c_state_told_rrrll (((retK PP r_state_told R).withN fun r m=>WPS PP 87 c_state_told_rrrr (retK PP r_state_told R) r m).withX 0) [(0,.pointer (some ⟨s,0,none⟩)),(1,.int .i64 x1),(2,.slice a2 l3 k4),(6,.slice none 0 0),(7,.map r5),(8,.slice none 0 0)] m7):
  CallM PP f_state_told #[.pointer (some ⟨s,0,none⟩),.int .i64 x1,.slice a2 l3 k4] m R:=
 callM_enter ffOk mixedOk 87 L_state_told Tryz.func44 b_state_told Tryz.ntmps44 (by simp) (Eq.mpr (by kernel_rfl) h)
theorem p_state_told_rrrr (a1:Option Addr) (l2:Nat) (k3:Nat) (m:Mem) (K:Kont)
  (h:K.kr [(6,.slice a1 l2 k3),(8,.slice a1 l2 k3)] m):
  wpc PP FF 87 L_state_told c_state_told_rrrr K [(8,.slice a1 l2 k3)] m:=
 Eq.mpr (by kernel_rfl) h
theorem p_state_told_rrrlll (s:Nat) (x1:Int) (r2:Option Nat) (a3:Option Addr) (l4:Nat) (k5:Nat) (m:Mem) (K:Kont)
  (h:ifB (decide ((l4:Int) < x1)) (CallM PP f_state_on #[.pointer (some ⟨s,0,none⟩)] m fun v7 m8=>∃ b6,v7=.bool b6∧ifB b6 (CallM PP f_state_symbol #[.pointer (some ⟨s,0,none⟩),.map r2] m8 fun v10 m11=>∃ x9,v10=.int .i64 x9∧CallM PP f_state_on #[.pointer (some ⟨s,0,none⟩)] m11 fun v13 m14=>∃ b12,v13=.bool b12∧ifB (!b12) (K.kr [(0,.pointer (some ⟨s,0,none⟩)),(1,.int .i64 x1),(6,.slice a3 l4 k5),(7,.map r2),(8,.slice a3 l4 k5),(9,.int .i64 x9),(10,.int .i64 1),(11,.int .i64 x9)] m14) (ifB (x9 == 16) (ifB ((l4:Int) == 0) (CallM PP f_state_stop #[.pointer (some ⟨s,0,none⟩),.int .i64 2] m14 fun v15 m16=>v15=.tuple #[]∧K.kr [(0,.pointer (some ⟨s,0,none⟩)),(1,.int .i64 x1),(6,.slice a3 l4 k5),(7,.map r2),(8,.slice a3 l4 k5),(9,.int .i64 x9),(10,.int .i64 1),(11,.int .i64 x9)] m16) (ifB (x9 == 16) (onSome a3 fun p17=>(0≤(IntKind.wrap .i64 ((l4:Int) - 1))∧(IntKind.wrap .i64 ((l4:Int) - 1)) < (l4:Int))∧∃ x18,cell? m14 (aplus p17 ((IntKind.wrap .i64 ((l4:Int) - 1)).toNat))=some (.int .i64 x18)∧CallM PP f_state_bits #[.pointer (some ⟨s,0,none⟩),.int .i64 2] m14 fun v20 m21=>∃ x19,v20=.int .i64 x19∧cell? m21 (aplus p17 ((IntKind.wrap .i64 ((l4:Int) - 1)).toNat))=some (.int .i64 x18)∧WPS PP 87 c_state_told_rrrlllrlrrr (K.withX 1) [(0,.pointer (some ⟨s,0,none⟩)),(1,.int .i64 x1),(7,.map r2),(8,.slice a3 l4 k5),(9,.int .i64 x9),(10,.int .i64 (IntKind.wrap .i64 (3+x19))),(11,.int .i64 x18)] m21) (ifB (x9 == 17) (CallM PP f_state_bits #[.pointer (some ⟨s,0,none⟩),.int .i64 3] m14 fun v23 m24=>∃ x22,v23=.int .i64 x22∧WPS PP 87 c_state_told_rrrlllrlrrr (K.withX 1) [(0,.pointer (some ⟨s,0,none⟩)),(1,.int .i64 x1),(7,.map r2),(8,.slice a3 l4 k5),(9,.int .i64 x9),(10,.int .i64 (IntKind.wrap .i64 (3+x22))),(11,.int .i64 0)] m24) (ifB (x9 == 18) (CallM PP f_state_bits #[.pointer (some ⟨s,0,none⟩),.int .i64 7] m14 fun v26 m27=>∃ x25,v26=.int .i64 x25∧WPS PP 87 c_state_told_rrrlllrlrrr (K.withX 1) [(0,.pointer (some ⟨s,0,none⟩)),(1,.int .i64 x1),(7,.map r2),(8,.slice a3 l4 k5),(9,.int .i64 x9),(10,.int .i64 (IntKind.wrap .i64 (11+x25))),(11,.int .i64 0)] m27) (WPS PP 87 c_state_told_rrrlllrlrrr (K.withX 1) [(0,.pointer (some ⟨s,0,none⟩)),(1,.int .i64 x1),(7,.map r2),(8,.slice a3 l4 k5),(9,.int .i64 x9),(10,.int .i64 1),(11,.int .i64 x9)] m14))))) (ifB (x9 == 16) (onSome a3 fun p28=>(0≤(IntKind.wrap .i64 ((l4:Int) - 1))∧(IntKind.wrap .i64 ((l4:Int) - 1)) < (l4:Int))∧∃ x29,cell? m14 (aplus p28 ((IntKind.wrap .i64 ((l4:Int) - 1)).toNat))=some (.int .i64 x29)∧CallM PP f_state_bits #[.pointer (some ⟨s,0,none⟩),.int .i64 2] m14 fun v31 m32=>∃ x30,v31=.int .i64 x30∧cell? m32 (aplus p28 ((IntKind.wrap .i64 ((l4:Int) - 1)).toNat))=some (.int .i64 x29)∧WPS PP 87 c_state_told_rrrlllrlrrr (K.withX 1) [(0,.pointer (some ⟨s,0,none⟩)),(1,.int .i64 x1),(7,.map r2),(8,.slice a3 l4 k5),(9,.int .i64 x9),(10,.int .i64 (IntKind.wrap .i64 (3+x30))),(11,.int .i64 x29)] m32) (ifB (x9 == 17) (CallM PP f_state_bits #[.pointer (some ⟨s,0,none⟩),.int .i64 3] m14 fun v34 m35=>∃ x33,v34=.int .i64 x33∧WPS PP 87 c_state_told_rrrlllrlrrr (K.withX 1) [(0,.pointer (some ⟨s,0,none⟩)),(1,.int .i64 x1),(7,.map r2),(8,.slice a3 l4 k5),(9,.int .i64 x9),(10,.int .i64 (IntKind.wrap .i64 (3+x33))),(11,.int .i64 0)] m35) (ifB (x9 == 18) (CallM PP f_state_bits #[.pointer (some ⟨s,0,none⟩),.int .i64 7] m14 fun v37 m38=>∃ x36,v37=.int .i64 x36∧WPS PP 87 c_state_told_rrrlllrlrrr (K.withX 1) [(0,.pointer (some ⟨s,0,none⟩)),(1,.int .i64 x1),(7,.map r2),(8,.slice a3 l4 k5),(9,.int .i64 x9),(10,.int .i64 (IntKind.wrap .i64 (11+x36))),(11,.int .i64 0)] m38) (WPS PP 87 c_state_told_rrrlllrlrrr (K.withX 1) [(0,.pointer (some ⟨s,0,none⟩)),(1,.int .i64 x1),(7,.map r2),(8,.slice a3 l4 k5),(9,.int .i64 x9),(10,.int .i64 1),(11,.int .i64 x9)] m14)))))) (K.kx 0 [(0,.pointer (some ⟨s,0,none⟩)),(1,.int .i64 x1),(7,.map r2),(8,.slice a3 l4 k5)] m8)) (K.kx 0 [(0,.pointer (some ⟨s,0,none⟩)),(1,.int .i64 x1),(7,.map r2),(8,.slice a3 l4 k5)] m)):
  wpc PP FF 87 L_state_told c_state_told_rrrlll K [(0,.pointer (some ⟨s,0,none⟩)),(1,.int .i64 x1),(7,.map r2),(8,.slice a3 l4 k5)] m:=
 Eq.mpr (by kernel_rfl) h
theorem p_state_told_rrrlllrlrrrrrll (s:Nat) (x1:Int) (r2:Option Nat) (a3:Option Addr) (l4:Nat) (k5:Nat) (x6:Int) (x7:Int) (x8:Int) (m:Mem) (K:Kont)
  (h:ifB (decide (x8 < x7)) (SemW PP (sv (Instr.buildSlice t_s_int 1 #[(0,.int .i64 x6)])) m (NextW PP fun v12 m13=>∃ a9 l10 k11,v12=.slice a9 l10 k11∧SemW PP (builtin .append #[t_s_int,t_s_int] t_s_int #[false,false] #[.slice a3 l4 k5,.slice a9 l10 k11]) m13 (NextW PP fun v17 m18=>∃ a14 l15 k16,v17=.slice a14 l15 k16∧K.kn [(0,.pointer (some ⟨s,0,none⟩)),(1,.int .i64 x1),(7,.map r2),(8,.slice a14 l15 k16),(11,.int .i64 x6),(78,.int .i64 x7),(79,.int .i64 (IntKind.wrap .i64 (x8+1)))] m18))) (K.kx 3 [(0,.pointer (some ⟨s,0,none⟩)),(1,.int .i64 x1),(7,.map r2),(8,.slice a3 l4 k5),(11,.int .i64 x6),(78,.int .i64 x7),(79,.int .i64 x8)] m)):
  wpc PP FF 87 L_state_told c_state_told_rrrlllrlrrrrrll K [(0,.pointer (some ⟨s,0,none⟩)),(1,.int .i64 x1),(7,.map r2),(8,.slice a3 l4 k5),(11,.int .i64 x6),(78,.int .i64 x7),(79,.int .i64 x8)] m:=
 Eq.mpr (by kernel_rfl) h
theorem p_state_told_rrrlllrlrrr (s:Nat) (x1:Int) (r2:Option Nat) (a3:Option Addr) (l4:Nat) (k5:Nat) (x6:Int) (x7:Int) (m:Mem) (K:Kont)
  (h:CallM PP f_state_on #[.pointer (some ⟨s,0,none⟩)] m fun v9 m10=>∃ b8,v9=.bool b8∧ifB b8 (ifB (decide ((IntKind.wrap .i64 ((l4:Int)+x6)) > x1)) (CallM PP f_state_stop #[.pointer (some ⟨s,0,none⟩),.int .i64 2] m10 fun v11 m12=>v11=.tuple #[]∧WPS PP 87 c_state_told_rrrlllrlrrrr K [(0,.pointer (some ⟨s,0,none⟩)),(1,.int .i64 x1),(7,.map r2),(8,.slice a3 l4 k5),(10,.int .i64 x6),(11,.int .i64 x7)] m12) (WPS PP 87 c_state_told_rrrlllrlrrrr K [(0,.pointer (some ⟨s,0,none⟩)),(1,.int .i64 x1),(7,.map r2),(8,.slice a3 l4 k5),(10,.int .i64 x6),(11,.int .i64 x7)] m10)) (WPS PP 87 c_state_told_rrrlllrlrrrr K [(0,.pointer (some ⟨s,0,none⟩)),(1,.int .i64 x1),(7,.map r2),(8,.slice a3 l4 k5),(10,.int .i64 x6),(11,.int .i64 x7)] m10)):
  wpc PP FF 87 L_state_told c_state_told_rrrlllrlrrr K [(0,.pointer (some ⟨s,0,none⟩)),(1,.int .i64 x1),(7,.map r2),(8,.slice a3 l4 k5),(10,.int .i64 x6),(11,.int .i64 x7)] m:=
 Eq.mpr (by kernel_rfl) h
theorem p_state_told_rrrlllrlrrrr (s:Nat) (x1:Int) (r2:Option Nat) (a3:Option Addr) (l4:Nat) (k5:Nat) (x6:Int) (x7:Int) (m:Mem) (K:Kont)
  (h:WPS PP 87 c_state_told_rrrlllrlrrrrrl (K.withX 3) [(0,.pointer (some ⟨s,0,none⟩)),(1,.int .i64 x1),(7,.map r2),(8,.slice a3 l4 k5),(10,.int .i64 x6),(11,.int .i64 x7),(78,.int .i64 x6),(79,.int .i64 0)] m):
  wpc PP FF 87 L_state_told c_state_told_rrrlllrlrrrr K [(0,.pointer (some ⟨s,0,none⟩)),(1,.int .i64 x1),(7,.map r2),(8,.slice a3 l4 k5),(10,.int .i64 x6),(11,.int .i64 x7)] m:=
 Eq.mpr (by kernel_rfl) h
def L_spec_Room:List Nat:=[0,2,3,5,6,7,8,9,13]
def r_spec_Room:List ResultVar:=[.tmp 2]
noncomputable def c_spec_Room:Code:=(Go.Proofs.Tryz.f45.body).getD .skip
theorem b_spec_Room:Go.Proofs.Tryz.f45.body=some c_spec_Room:=by kernel_rfl
noncomputable def c_spec_Room_rrr:Code:=(rgt (rgt (rgt c_spec_Room)))
noncomputable def c_spec_Room_rrlrl:Code:=(lft (rgt (lft (rgt (rgt c_spec_Room)))))
noncomputable def c_spec_Room_rrlrll:Code:=(lft c_spec_Room_rrlrl)
noncomputable def c_spec_Room_rrlrllrrr:Code:=(rgt (rgt (rgt c_spec_Room_rrlrll)))
theorem q_spec_Room_rrlrl:c_spec_Room_rrlrl=.loop c_spec_Room_rrlrll:=by kernel_rfl
theorem e_spec_Room (a1:Option Addr) (l2:Nat) (k3:Nat) (m:Mem) (R:Value→Mem→Prop)
  (h:WPS PP 21 c_spec_Room_rrlrl (((retK PP r_spec_Room R).withN fun r m=>WPS PP 21 c_spec_Room_rrr (retK PP r_spec_Room R) r m).withX 0) [(0,.slice a1 l2 k3),(2,.int .i64 0),(3,.int .i64 32768),(6,.slice a1 l2 k3),(7,.int .i64 (l2:Int)),(8,.int .i64 0)] m):
  CallM PP f_spec_Room #[.slice a1 l2 k3] m R:=
 callM_enter ffOk mixedOk 21 L_spec_Room Tryz.func45 b_spec_Room Tryz.ntmps45 (by simp) (Eq.mpr (by kernel_rfl) h)
theorem p_spec_Room_rrr (x1:Int) (m:Mem) (K:Kont)
  (h:K.kr [(2,.int .i64 x1),(3,.int .i64 x1)] m):
  wpc PP FF 21 L_spec_Room c_spec_Room_rrr K [(3,.int .i64 x1)] m:=
 Eq.mpr (by kernel_rfl) h
theorem p_spec_Room_rrlrll (x1:Int) (a2:Option Addr) (l3:Nat) (k4:Nat) (x5:Int) (x6:Int) (m:Mem) (K:Kont)
  (h:ifB (decide (x6 < x5)) (onSome a2 fun p7=>(0≤x6∧x6 < (l3:Int))∧∃ x8,cell? m (aplus p7 x6.toNat)=some (.int .i64 x8)∧ifB (decide (x8 > 0)) (0≤(IntKind.wrap .i64 (15 - x8))∧WPS PP 21 c_spec_Room_rrlrllrrr K [(3,.int .i64 (IntKind.wrap .i64 (x1 - (shlOp .i64 1 (IntKind.wrap .i64 (15 - x8)))))),(5,.int .i64 x8),(6,.slice a2 l3 k4),(7,.int .i64 x5),(8,.int .i64 x6)] m) (WPS PP 21 c_spec_Room_rrlrllrrr K [(3,.int .i64 x1),(5,.int .i64 x8),(6,.slice a2 l3 k4),(7,.int .i64 x5),(8,.int .i64 x6)] m)) (K.kx 0 [(3,.int .i64 x1),(6,.slice a2 l3 k4),(7,.int .i64 x5),(8,.int .i64 x6)] m)):
  wpc PP FF 21 L_spec_Room c_spec_Room_rrlrll K [(3,.int .i64 x1),(6,.slice a2 l3 k4),(7,.int .i64 x5),(8,.int .i64 x6)] m:=
 Eq.mpr (by kernel_rfl) h
theorem p_spec_Room_rrlrllrrr (x1:Int) (a2:Option Addr) (l3:Nat) (k4:Nat) (x5:Int) (x6:Int) (m:Mem) (K:Kont)
  (h:K.kn [(3,.int .i64 x1),(6,.slice a2 l3 k4),(7,.int .i64 x5),(8,.int .i64 (IntKind.wrap .i64 (x6+1)))] m):
  wpc PP FF 21 L_spec_Room c_spec_Room_rrlrllrrr K [(3,.int .i64 x1),(6,.slice a2 l3 k4),(7,.int .i64 x5),(8,.int .i64 x6)] m:=
 Eq.mpr (by kernel_rfl) h
def L_inflate_noEOF:List Nat:=[0,2,5]
def r_inflate_noEOF:List ResultVar:=[.tmp 2]
noncomputable def c_inflate_noEOF:Code:=(Go.Proofs.Tryz.f48.body).getD .skip
theorem b_inflate_noEOF:Go.Proofs.Tryz.f48.body=some c_inflate_noEOF:=by kernel_rfl
theorem e_inflate_noEOF (v1:Value) (m:Mem) (R:Value→Mem→Prop)
  (h:∃ v2,cell? m ⟨g_io_EOF,0,none⟩=some (v2)∧ReadW PP m (do eqGuard .eql t_error (.tmp 3) (.tmp 4) v1 v2; binOp .eql t_error v1 v2) fun u4=>∃ b3,u4=.bool b3∧ifB b3 (∃ v5,cell? m ⟨g_io_ErrUnexpectedEOF,0,none⟩=some (v5)∧R (v5) m) (R (v1) m)):
  CallM PP f_inflate_noEOF #[v1] m R:=
 callM_enter ffOk mixedOk 8 L_inflate_noEOF Tryz.func48 b_inflate_noEOF Tryz.ntmps48 (by simp) (Eq.mpr (by kernel_rfl) h)
def L_io_ReadFull:List Nat:=[0,1,4,5]
def r_io_ReadFull:List ResultVar:=[.tmp 4,.tmp 5]
noncomputable def c_io_ReadFull:Code:=(Go.Proofs.Tryz.f49.body).getD .skip
theorem b_io_ReadFull:Go.Proofs.Tryz.f49.body=some c_io_ReadFull:=by kernel_rfl
theorem e_io_ReadFull (v1:Value) (a2:Option Addr) (l3:Nat) (k4:Nat) (m:Mem) (R:Value→Mem→Prop)
  (h:CallM PP f_io_ReadAtLeast #[v1,.slice a2 l3 k4,.int .i64 (l3:Int)] m fun v7 m8=>∃ x5 v6,v7=.tuple #[.int .i64 x5,v6]∧R (.tuple #[.int .i64 x5,v6]) m8):
  CallM PP f_io_ReadFull #[v1,.slice a2 l3 k4] m R:=
 callM_enter ffOk mixedOk 13 L_io_ReadFull Tryz.func49 b_io_ReadFull Tryz.ntmps49 (by simp) (Eq.mpr (by kernel_rfl) h)
def L_dictDecoder_readFlush:List Nat:=[0,2,3,33]
def r_dictDecoder_readFlush:List ResultVar:=[.tmp 2]
noncomputable def c_dictDecoder_readFlush:Code:=(Go.Proofs.Tryz.f50.body).getD .skip
theorem b_dictDecoder_readFlush:Go.Proofs.Tryz.f50.body=some c_dictDecoder_readFlush:=by kernel_rfl
noncomputable def c_dictDecoder_readFlush_rrrr:Code:=(rgt (rgt (rgt (rgt c_dictDecoder_readFlush))))
theorem e_dictDecoder_readFlush (f:Nat) (m:Mem) (R:Value→Mem→Prop)
  (h:∃ a1 l2 k3,cell? m ⟨f,1037,none⟩=some (.slice a1 l2 k3)∧∃ x4,cell? m ⟨f,1039,none⟩=some (.int .i64 x4)∧∃ x5,cell? m ⟨f,1038,none⟩=some (.int .i64 x5)∧l2≤k3∧(0≤x5∧x5≤(k3:Int))∧(0≤x4∧x4≤x5)∧∃ x6,cell? m ⟨f,1038,none⟩=some (.int .i64 x6)∧StW m ⟨f,1039,none⟩ (.int .i64 x6) fun m7=>∃ x8,cell? m7 ⟨f,1038,none⟩=some (.int .i64 x8)∧∃ a9 l10 k11,cell? m7 ⟨f,1037,none⟩=some (.slice a9 l10 k11)∧ifB (x8 == (l10:Int)) (StW m7 ⟨f,1038,none⟩ (.int .i64 0) fun m12=>StW m12 ⟨f,1039,none⟩ (.int .i64 0) fun m13=>StW m13 ⟨f,1040,none⟩ (.bool true) fun m14=>WPS PP 44 c_dictDecoder_readFlush_rrrr (retK PP r_dictDecoder_readFlush R) [(0,.pointer (some ⟨f,1037,none⟩)),(2,.slice none 0 0),(3,.slice (subA a1 x4.toNat 1 k3) (x5.toNat - x4.toNat) (k3 - x4.toNat))] m14) (WPS PP 44 c_dictDecoder_readFlush_rrrr (retK PP r_dictDecoder_readFlush R) [(0,.pointer (some ⟨f,1037,none⟩)),(2,.slice none 0 0),(3,.slice (subA a1 x4.toNat 1 k3) (x5.toNat - x4.toNat) (k3 - x4.toNat))] m7)  ):
  CallM PP f_dictDecoder_readFlush #[.pointer (some ⟨f,1037,none⟩)] m R:=
 callM_enter ffOk mixedOk 44 L_dictDecoder_readFlush Tryz.func50 b_dictDecoder_readFlush Tryz.ntmps50 (by simp) (Eq.mpr (by kernel_rfl) h)
def k_dictDecoder_readFlush_rrrr:List Nat:=[3]
theorem p_dictDecoder_readFlush_rrrr (a1:Option Addr) (l2:Nat) (k3:Nat) (m:Mem) (K:Kont)
  (h:K.kr [(2,.slice a1 l2 k3),(3,.slice a1 l2 k3)] m):
  wpc PP FF 44 L_dictDecoder_readFlush c_dictDecoder_readFlush_rrrr K [(3,.slice a1 l2 k3)] m:=
 Eq.mpr (by kernel_rfl) h
def L_decompressor_finishBlock:List Nat:=[0,5,10]
def r_decompressor_finishBlock:List ResultVar:=[]
noncomputable def c_decompressor_finishBlock:Code:=(Go.Proofs.Tryz.f51.body).getD .skip
theorem b_decompressor_finishBlock:Go.Proofs.Tryz.f51.body=some c_decompressor_finishBlock:=by kernel_rfl
noncomputable def c_decompressor_finishBlock_r:Code:=(rgt c_decompressor_finishBlock)
noncomputable def c_decompressor_finishBlock_lrlr:Code:=(rgt (lft (rgt (lft c_decompressor_finishBlock))))
theorem e_decompressor_finishBlock (f:Nat) (m:Mem) (R:Value→Mem→Prop)
  (h:∃ b1,cell? m ⟨f,1047,none⟩=some (.bool b1)∧ifB b1 (CallM PP f_dictDecoder_availRead #[.pointer (some ⟨f,1037,none⟩)] m fun v3 m4=>∃ x2,v3=.int .i64 x2∧ifB (decide (x2 > 0)) (CallM PP f_dictDecoder_readFlush #[.pointer (some ⟨f,1037,none⟩)] m4 fun v8 m9=>∃ a5 l6 k7,v8=.slice a5 l6 k7∧StW m9 ⟨f,1049,none⟩ (.slice a5 l6 k7) fun m10=>WPS PP 25 c_decompressor_finishBlock_lrlr ((retK PP r_decompressor_finishBlock R).withN fun r m=>WPS PP 25 c_decompressor_finishBlock_r (retK PP r_decompressor_finishBlock R) r m) [(0,.pointer (some ⟨f,0,none⟩))] m10) (WPS PP 25 c_decompressor_finishBlock_lrlr ((retK PP r_decompressor_finishBlock R).withN fun r m=>WPS PP 25 c_decompressor_finishBlock_r (retK PP r_decompressor_finishBlock R) r m) [(0,.pointer (some ⟨f,0,none⟩))] m4)) (WPS PP 25 c_decompressor_finishBlock_r (retK PP r_decompressor_finishBlock R) [(0,.pointer (some ⟨f,0,none⟩))] m)  ):
  CallM PP f_decompressor_finishBlock #[.pointer (some ⟨f,0,none⟩)] m R:=
 callM_enter ffOk mixedOk 25 L_decompressor_finishBlock Tryz.func51 b_decompressor_finishBlock Tryz.ntmps51 (by simp) (Eq.mpr (by kernel_rfl) h)
def k_decompressor_finishBlock_r:List Nat:=[0]
theorem p_decompressor_finishBlock_r (f:Nat) (m:Mem) (K:Kont)
  (h:StW m ⟨f,1045,none⟩ (.func (.func f_decompressor_nextBlock) #[] #[]) fun m1=>K.kn [(0,.pointer (some ⟨f,0,none⟩))] m1  ):
  wpc PP FF 25 L_decompressor_finishBlock c_decompressor_finishBlock_r K [(0,.pointer (some ⟨f,0,none⟩))] m:=
 Eq.mpr (by kernel_rfl) h
def k_decompressor_finishBlock_lrlr:List Nat:=[0]
theorem p_decompressor_finishBlock_lrlr (f:Nat) (m:Mem) (K:Kont)
  (h:∃ v1,cell? m ⟨g_io_EOF,0,none⟩=some (v1)∧StW m ⟨f,1048,none⟩ v1 fun m2=>K.kn [(0,.pointer (some ⟨f,0,none⟩))] m2  ):
  wpc PP FF 25 L_decompressor_finishBlock c_decompressor_finishBlock_lrlr K [(0,.pointer (some ⟨f,0,none⟩))] m:=
 Eq.mpr (by kernel_rfl) h
def L_decompressor_copyData:List Nat:=[0,2,3,4,15,53,70]
def r_decompressor_copyData:List ResultVar:=[]
noncomputable def c_decompressor_copyData:Code:=(Go.Proofs.Tryz.f52.body).getD .skip
theorem b_decompressor_copyData:Go.Proofs.Tryz.f52.body=some c_decompressor_copyData:=by kernel_rfl
noncomputable def c_decompressor_copyData_rr:Code:=(rgt (rgt c_decompressor_copyData))
theorem e_decompressor_copyData (f:Nat) (m:Mem) (R:Value→Mem→Prop)
  (h:CallM PP f_dictDecoder_writeSlice #[.pointer (some ⟨f,1037,none⟩)] m fun v4 m5=>∃ a1 l2 k3,v4=.slice a1 l2 k3∧∃ x6,cell? m5 ⟨f,1052,none⟩=some (.int .i64 x6)∧ifB (decide ((l2:Int) > x6)) (∃ x7,cell? m5 ⟨f,1052,none⟩=some (.int .i64 x7)∧l2≤k3∧(0≤x7∧x7≤(k3:Int))∧WPS PP 83 c_decompressor_copyData_rr (retK PP r_decompressor_copyData R) [(0,.pointer (some ⟨f,0,none⟩)),(2,.slice a1 x7.toNat k3)] m5) (WPS PP 83 c_decompressor_copyData_rr (retK PP r_decompressor_copyData R) [(0,.pointer (some ⟨f,0,none⟩)),(2,.slice a1 l2 k3)] m5)  ):
  CallM PP f_decompressor_copyData #[.pointer (some ⟨f,0,none⟩)] m R:=
 callM_enter ffOk mixedOk 83 L_decompressor_copyData Tryz.func52 b_decompressor_copyData Tryz.ntmps52 (by simp) (Eq.mpr (by kernel_rfl) h)
def k_decompressor_copyData_rr:List Nat:=[0,2]
theorem p_decompressor_copyData_rr (f:Nat) (a1:Option Addr) (l2:Nat) (k3:Nat) (m:Mem) (K:Kont)
  (h:∃ v4,cell? m ⟨f,0,none⟩=some (v4)∧CallM PP f_io_ReadFull #[v4,.slice a1 l2 k3] m fun v7 m8=>∃ x5 v6,v7=.tuple #[.int .i64 x5,v6]∧∃ x9,cell? m8 ⟨f,2,none⟩=some (.int .i64 x9)∧StW m8 ⟨f,2,none⟩ (.int .i64 (IntKind.wrap .i64 (x9+x5))) fun m10=>∃ x11,cell? m10 ⟨f,1052,none⟩=some (.int .i64 x11)∧StW m10 ⟨f,1052,none⟩ (.int .i64 (IntKind.wrap .i64 (x11 - x5))) fun m12=>CallM PP f_dictDecoder_writeMark #[.pointer (some ⟨f,1037,none⟩),.int .i64 x5] m12 fun v13 m14=>v13=.tuple #[]∧isIfc v6=true∧ifB (!(isNil v6)) (CallM PP f_inflate_noEOF #[v6] m14 fun v16 m17=>∃ v15,v16=v15∧StW m17 ⟨f,1048,none⟩ v15 fun m18=>K.kr [(0,.pointer (some ⟨f,0,none⟩)),(2,.slice a1 l2 k3),(3,.int .i64 x5),(4,v6)] m18) (CallM PP f_dictDecoder_availWrite #[.pointer (some ⟨f,1037,none⟩)] m14 fun v20 m21=>∃ x19,v20=.int .i64 x19∧ifB (x19 == 0) (CallM PP f_dictDecoder_readFlush #[.pointer (some ⟨f,1037,none⟩)] m21 fun v25 m26=>∃ a22 l23 k24,v25=.slice a22 l23 k24∧StW m26 ⟨f,1049,none⟩ (.slice a22 l23 k24) fun m27=>StW m27 ⟨f,1045,none⟩ (.func (.func f_decompressor_copyData) #[] #[]) fun m28=>K.kr [(0,.pointer (some ⟨f,0,none⟩)),(2,.slice a1 l2 k3),(3,.int .i64 x5),(4,v6)] m28) (∃ x29,cell? m21 ⟨f,1052,none⟩=some (.int .i64 x29)∧ifB (decide (x29 > 0)) (CallM PP f_dictDecoder_readFlush #[.pointer (some ⟨f,1037,none⟩)] m21 fun v33 m34=>∃ a30 l31 k32,v33=.slice a30 l31 k32∧StW m34 ⟨f,1049,none⟩ (.slice a30 l31 k32) fun m35=>StW m35 ⟨f,1045,none⟩ (.func (.func f_decompressor_copyData) #[] #[]) fun m36=>K.kr [(0,.pointer (some ⟨f,0,none⟩)),(2,.slice a1 l2 k3),(3,.int .i64 x5),(4,v6)] m36) (CallM PP f_decompressor_finishBlock #[.pointer (some ⟨f,0,none⟩)] m21 fun v37 m38=>v37=.tuple #[]∧K.kn [(0,.pointer (some ⟨f,0,none⟩)),(2,.slice a1 l2 k3),(3,.int .i64 x5),(4,v6)] m38)))):
  wpc PP FF 83 L_decompressor_copyData c_decompressor_copyData_rr K [(0,.pointer (some ⟨f,0,none⟩)),(2,.slice a1 l2 k3)] m:=
 Eq.mpr (by kernel_rfl) h
def L_huffmanDecoder_init:List Nat:=[0,1,4,5,6,7,9,10,11,12,13,14,15,16,17,18,19,20,21,22,23,24,25,26,27,28,29,31,33,38,42,43,44,45,49,56,60,69,73,99,105,128,149,168,169,170,171,176,200,203,217,236,258,271,281,282,283,287,294,300,301,302,303,306,307,308,309,313]
def r_huffmanDecoder_init:List ResultVar:=[.tmp 4]
noncomputable def c_huffmanDecoder_init:Code:=(Go.Proofs.Tryz.f53.body).getD .skip
theorem b_huffmanDecoder_init:Go.Proofs.Tryz.f53.body=some c_huffmanDecoder_init:=by kernel_rfl
noncomputable def c_huffmanDecoder_init_rr:Code:=(rgt (rgt c_huffmanDecoder_init))
noncomputable def c_huffmanDecoder_init_rrrrr:Code:=(rgt (rgt (rgt c_huffmanDecoder_init_rr)))
noncomputable def c_huffmanDecoder_init_rrrrlrl:Code:=(lft (rgt (lft (rgt (rgt c_huffmanDecoder_init_rr)))))
noncomputable def c_huffmanDecoder_init_rrrrlrll:Code:=(lft c_huffmanDecoder_init_rrrrlrl)
noncomputable def c_huffmanDecoder_init_rrrrrrrrr:Code:=(rgt (rgt (rgt (rgt c_huffmanDecoder_init_rrrrr))))
noncomputable def c_huffmanDecoder_init_rrrrrrrrlrl:Code:=(lft (rgt (lft (rgt (rgt (rgt c_huffmanDecoder_init_rrrrr))))))
noncomputable def c_huffmanDecoder_init_rrrrlrllrrr:Code:=(rgt (rgt (rgt c_huffmanDecoder_init_rrrrlrll)))
noncomputable def c_huffmanDecoder_init_rrrrrrrrlrll:Code:=(lft c_huffmanDecoder_init_rrrrrrrrlrl)
noncomputable def c_huffmanDecoder_init_rrrrrrrrrrrr:Code:=(rgt (rgt (rgt c_huffmanDecoder_init_rrrrrrrrr)))
noncomputable def c_huffmanDecoder_init_rrrrrrrrrrrrr:Code:=(rgt c_huffmanDecoder_init_rrrrrrrrrrrr)
noncomputable def c_huffmanDecoder_init_rrrrrrrrrrrrrr:Code:=(rgt c_huffmanDecoder_init_rrrrrrrrrrrrr)
noncomputable def c_huffmanDecoder_init_rrrrrrrrrrrrlrl:Code:=(lft (rgt (lft c_huffmanDecoder_init_rrrrrrrrrrrr)))
noncomputable def c_huffmanDecoder_init_rrrrlrllrrllrrr:Code:=(rgt (rgt (rgt (lft (lft (rgt (rgt c_huffmanDecoder_init_rrrrlrll)))))))
noncomputable def c_huffmanDecoder_init_rrrrrrrrrrrrlrll:Code:=(lft c_huffmanDecoder_init_rrrrrrrrrrrrlrl)
noncomputable def c_huffmanDecoder_init_rrrrlrllrrllrrrr:Code:=(rgt c_huffmanDecoder_init_rrrrlrllrrllrrr)
noncomputable def c_huffmanDecoder_init_rrrrrrrrrrrrrlllrl:Code:=(lft (rgt (lft (lft (lft c_huffmanDecoder_init_rrrrrrrrrrrrr)))))
noncomputable def c_huffmanDecoder_init_rrrrrrrrrrrrrllrrl:Code:=(lft (rgt (rgt (lft (lft c_huffmanDecoder_init_rrrrrrrrrrrrr)))))
noncomputable def c_huffmanDecoder_init_rrrrrrrrrrrrrlllrll:Code:=(lft c_huffmanDecoder_init_rrrrrrrrrrrrrlllrl)
noncomputable def c_huffmanDecoder_init_rrrrrrrrrrrrrllrrll:Code:=(lft c_huffmanDecoder_init_rrrrrrrrrrrrrllrrl)
noncomputable def c_huffmanDecoder_init_rrrrrrrrrrrrlrllrrr:Code:=(rgt (rgt (rgt c_huffmanDecoder_init_rrrrrrrrrrrrlrll)))
noncomputable def c_huffmanDecoder_init_rrrrrrrrrrrlrlrrrrrl:Code:=(lft (rgt (rgt (rgt (rgt (rgt (lft (rgt (lft (rgt (rgt c_huffmanDecoder_init_rrrrrrrrr)))))))))))
noncomputable def c_huffmanDecoder_init_rrrrrrrrrrrlrlrrrrrll:Code:=(lft c_huffmanDecoder_init_rrrrrrrrrrrlrlrrrrrl)
noncomputable def c_huffmanDecoder_init_rrrrrrrrrrrrrlllrllrrr:Code:=(rgt (rgt (rgt c_huffmanDecoder_init_rrrrrrrrrrrrrlllrll)))
noncomputable def c_huffmanDecoder_init_rrrrrrrrrrrrrllrrllrrr:Code:=(rgt (rgt (rgt c_huffmanDecoder_init_rrrrrrrrrrrrrllrrll)))
noncomputable def c_huffmanDecoder_init_rrrrrrrrrrrlrlrrrrrllrr:Code:=(rgt (rgt c_huffmanDecoder_init_rrrrrrrrrrrlrlrrrrrll))
noncomputable def c_huffmanDecoder_init_rrrrrrrrrrrrrllrrllrrllrrl:Code:=(lft (rgt (rgt (lft (lft (rgt (rgt c_huffmanDecoder_init_rrrrrrrrrrrrrllrrll)))))))
noncomputable def c_huffmanDecoder_init_rrrrrrrrrrrrrllrrllrrllrrll:Code:=(lft c_huffmanDecoder_init_rrrrrrrrrrrrrllrrllrrllrrl)
noncomputable def c_huffmanDecoder_init_rrrrrrrrrrrlrlrrrrrllrllrrrr:Code:=(rgt (rgt (rgt (rgt (lft (lft (rgt c_huffmanDecoder_init_rrrrrrrrrrrlrlrrrrrll)))))))
noncomputable def c_huffmanDecoder_init_rrrrrrrrrrrrrllrrllrrllrrllrrr:Code:=(rgt (rgt (rgt c_huffmanDecoder_init_rrrrrrrrrrrrrllrrllrrllrrll)))
noncomputable def c_huffmanDecoder_init_rrrrrrrrrrrrlrllrrllrrrrrrrrlrl:Code:=(lft (rgt (lft (rgt (rgt (rgt (rgt (rgt (rgt (rgt (rgt (lft (lft (rgt (rgt c_huffmanDecoder_init_rrrrrrrrrrrrlrll)))))))))))))))
noncomputable def c_huffmanDecoder_init_rrrrrrrrrrrrlrllrrllrrrrrrrrrrr:Code:=(rgt (rgt (rgt (rgt (rgt (rgt (rgt (rgt (rgt (rgt (rgt (lft (lft (rgt (rgt c_huffmanDecoder_init_rrrrrrrrrrrrlrll)))))))))))))))
noncomputable def c_huffmanDecoder_init_rrrrrrrrrrrrlrllrrllrrrrrrrrlrll:Code:=(lft c_huffmanDecoder_init_rrrrrrrrrrrrlrllrrllrrrrrrrrlrl)
noncomputable def c_huffmanDecoder_init_rrrrrrrrrrrrlrllrrllrrrrrrrrlrllrr:Code:=(rgt (rgt c_huffmanDecoder_init_rrrrrrrrrrrrlrllrrllrrrrrrrrlrll))
noncomputable def c_huffmanDecoder_init_rrrrrrrrrrrrlrllrrllrrrrrrrrrrrrrrrl:Code:=(lft (rgt (rgt (rgt (rgt c_huffmanDecoder_init_rrrrrrrrrrrrlrllrrllrrrrrrrrrrr)))))
noncomputable def c_huffmanDecoder_init_rrrrrrrrrrrrlrllrrllrrrrrrrrlrllrllr:Code:=(rgt (lft (lft (rgt c_huffmanDecoder_init_rrrrrrrrrrrrlrllrrllrrrrrrrrlrll))))
noncomputable def c_huffmanDecoder_init_rrrrrrrrrrrrlrllrrllrrrrrrrrrrrrrrrll:Code:=(lft c_huffmanDecoder_init_rrrrrrrrrrrrlrllrrllrrrrrrrrrrrrrrrl)
noncomputable def c_huffmanDecoder_init_rrrrrrrrrrrrlrllrrllrrrrrrrrrrrrrrrllrr:Code:=(rgt (rgt c_huffmanDecoder_init_rrrrrrrrrrrrlrllrrllrrrrrrrrrrrrrrrll))
noncomputable def c_huffmanDecoder_init_rrrrrrrrrrrrlrllrrllrrrrrrrrrrrrrrrllrllr:Code:=(rgt (lft (lft (rgt c_huffmanDecoder_init_rrrrrrrrrrrrlrllrrllrrrrrrrrrrrrrrrll))))
theorem q_huffmanDecoder_init_rrrrlrl:c_huffmanDecoder_init_rrrrlrl=.loop c_huffmanDecoder_init_rrrrlrll:=by kernel_rfl
theorem q_huffmanDecoder_init_rrrrrrrrlrl:c_huffmanDecoder_init_rrrrrrrrlrl=.loop c_huffmanDecoder_init_rrrrrrrrlrll:=by kernel_rfl
theorem q_huffmanDecoder_init_rrrrrrrrrrrrlrl:c_huffmanDecoder_init_rrrrrrrrrrrrlrl=.loop c_huffmanDecoder_init_rrrrrrrrrrrrlrll:=by kernel_rfl
theorem q_huffmanDecoder_init_rrrrrrrrrrrrrlllrl:c_huffmanDecoder_init_rrrrrrrrrrrrrlllrl=.loop c_huffmanDecoder_init_rrrrrrrrrrrrrlllrll:=by kernel_rfl
theorem q_huffmanDecoder_init_rrrrrrrrrrrrrllrrl:c_huffmanDecoder_init_rrrrrrrrrrrrrllrrl=.loop c_huffmanDecoder_init_rrrrrrrrrrrrrllrrll:=by kernel_rfl
theorem q_huffmanDecoder_init_rrrrrrrrrrrlrlrrrrrl:c_huffmanDecoder_init_rrrrrrrrrrrlrlrrrrrl=.loop c_huffmanDecoder_init_rrrrrrrrrrrlrlrrrrrll:=by kernel_rfl
theorem q_huffmanDecoder_init_rrrrrrrrrrrrrllrrllrrllrrl:c_huffmanDecoder_init_rrrrrrrrrrrrrllrrllrrllrrl=.loop c_huffmanDecoder_init_rrrrrrrrrrrrrllrrllrrllrrll:=by kernel_rfl
theorem q_huffmanDecoder_init_rrrrrrrrrrrrlrllrrllrrrrrrrrlrl:c_huffmanDecoder_init_rrrrrrrrrrrrlrllrrllrrrrrrrrlrl=.loop c_huffmanDecoder_init_rrrrrrrrrrrrlrllrrllrrrrrrrrlrll:=by kernel_rfl
theorem q_huffmanDecoder_init_rrrrrrrrrrrrlrllrrllrrrrrrrrrrrrrrrl:c_huffmanDecoder_init_rrrrrrrrrrrrlrllrrllrrrrrrrrrrrrrrrl=.loop c_huffmanDecoder_init_rrrrrrrrrrrrlrllrrllrrrrrrrrrrrrrrrll:=by kernel_rfl
theorem e_huffmanDecoder_init (b o:Nat) (a1:Option Addr) (l2:Nat) (k3:Nat) (m:Mem) (R:Value→Mem→Prop)
  (h:∃ x4,cell? m ⟨b,o,none⟩=some (.int .i64 x4)∧ifB (x4 != 0) (StAgg PP t_flate_huffmanDecoder m ⟨b,o,none⟩ (zeroV PP t_flate_huffmanDecoder) fun m5=>WPS PP 317 c_huffmanDecoder_init_rr (retK PP r_huffmanDecoder_init R) [(0,.pointer (some ⟨b,o,none⟩)),(1,.slice a1 l2 k3),(4,.bool false)] m5) (WPS PP 317 c_huffmanDecoder_init_rr (retK PP r_huffmanDecoder_init R) [(0,.pointer (some ⟨b,o,none⟩)),(1,.slice a1 l2 k3),(4,.bool false)] m)):
  CallM PP f_huffmanDecoder_init #[.pointer (some ⟨b,o,none⟩),.slice a1 l2 k3] m R:=
 callM_enter ffOk mixedOk 317 L_huffmanDecoder_init Tryz.func53 b_huffmanDecoder_init Tryz.ntmps53 (by simp) (Eq.mpr (by kernel_rfl) h)
def k_huffmanDecoder_init_rr:List Nat:=[0,1]
theorem p_huffmanDecoder_init_rr (b o:Nat) (a1:Option Addr) (l2:Nat) (k3:Nat) (m:Mem) (K:Kont)
  (h:AllocW PP t_16_int m fun n4 m5=>WPS PP 317 c_huffmanDecoder_init_rrrrlrl ((K.withN fun r m=>WPS PP 317 c_huffmanDecoder_init_rrrrr K r m).withX 0) [(0,.pointer (some ⟨b,o,none⟩)),(1,.slice a1 l2 k3),(5,.pointer (some ⟨n4,0,none⟩)),(6,.int .i64 0),(7,.int .i64 0),(42,.slice a1 l2 k3),(43,.int .i64 (l2:Int)),(44,.int .i64 0)] m5):
  wpc PP FF 317 L_huffmanDecoder_init c_huffmanDecoder_init_rr K [(0,.pointer (some ⟨b,o,none⟩)),(1,.slice a1 l2 k3)] m:=
 Eq.mpr (by kernel_rfl) h
theorem p_huffmanDecoder_init_rrrrlrll (b o:Nat) (a1:Option Addr) (l2:Nat) (k3:Nat) (n4:Nat) (x5:Int) (x6:Int) (a7:Option Addr) (l8:Nat) (k9:Nat) (x10:Int) (x11:Int) (m:Mem) (K:Kont)
  (h:ifB (decide (x11 < x10)) (onSome a7 fun p12=>(0≤x11∧x11 < (l8:Int))∧∃ x13,cell? m (aplus p12 x11.toNat)=some (.int .i64 x13)∧ifB (x13 == 0) (WPS PP 317 c_huffmanDecoder_init_rrrrlrllrrr K [(0,.pointer (some ⟨b,o,none⟩)),(1,.slice a1 l2 k3),(5,.pointer (some ⟨n4,0,none⟩)),(6,.int .i64 x5),(7,.int .i64 x6),(9,.int .i64 x13),(42,.slice a7 l8 k9),(43,.int .i64 x10),(44,.int .i64 x11)] m) (ifB (x5 == 0) (WPS PP 317 c_huffmanDecoder_init_rrrrlrllrrllrrr ((K.withN fun r m=>WPS PP 317 c_huffmanDecoder_init_rrrrlrllrrr K r m).withX 1) [(0,.pointer (some ⟨b,o,none⟩)),(1,.slice a1 l2 k3),(5,.pointer (some ⟨n4,0,none⟩)),(6,.int .i64 x13),(7,.int .i64 x6),(9,.int .i64 x13),(42,.slice a7 l8 k9),(43,.int .i64 x10),(44,.int .i64 x11)] m) (ifB (decide (x13 < x5)) (WPS PP 317 c_huffmanDecoder_init_rrrrlrllrrllrrr ((K.withN fun r m=>WPS PP 317 c_huffmanDecoder_init_rrrrlrllrrr K r m).withX 1) [(0,.pointer (some ⟨b,o,none⟩)),(1,.slice a1 l2 k3),(5,.pointer (some ⟨n4,0,none⟩)),(6,.int .i64 x13),(7,.int .i64 x6),(9,.int .i64 x13),(42,.slice a7 l8 k9),(43,.int .i64 x10),(44,.int .i64 x11)] m) (WPS PP 317 c_huffmanDecoder_init_rrrrlrllrrllrrr ((K.withN fun r m=>WPS PP 317 c_huffmanDecoder_init_rrrrlrllrrr K r m).withX 1) [(0,.pointer (some ⟨b,o,none⟩)),(1,.slice a1 l2 k3),(5,.pointer (some ⟨n4,0,none⟩)),(6,.int .i64 x5),(7,.int .i64 x6),(9,.int .i64 x13),(42,.slice a7 l8 k9),(43,.int .i64 x10),(44,.int .i64 x11)] m)))) (K.kx 0 [(0,.pointer (some ⟨b,o,none⟩)),(1,.slice a1 l2 k3),(5,.pointer (some ⟨n4,0,none⟩)),(6,.int .i64 x5),(7,.int .i64 x6),(42,.slice a7 l8 k9),(43,.int .i64 x10),(44,.int .i64 x11)] m)):
  wpc PP FF 317 L_huffmanDecoder_init c_huffmanDecoder_init_rrrrlrll K [(0,.pointer (some ⟨b,o,none⟩)),(1,.slice a1 l2 k3),(5,.pointer (some ⟨n4,0,none⟩)),(6,.int .i64 x5),(7,.int .i64 x6),(42,.slice a7 l8 k9),(43,.int .i64 x10),(44,.int .i64 x11)] m:=
 Eq.mpr (by kernel_rfl) h
theorem p_huffmanDecoder_init_rrrrrrrrlrll (b o:Nat) (a1:Option Addr) (l2:Nat) (k3:Nat) (n4:Nat) (x5:Int) (x6:Int) (x7:Int) (n8:Nat) (x9:Int) (m:Mem) (K:Kont)
  (h:ifB (decide (x9≤x6)) (0≤(1:Int)∧(0≤x9∧x9 < ((16:Nat):Int))∧StW m ⟨n8,0+x9.toNat,none⟩ (.int .i64 (shlOp .i64 x7 1)) fun m10=>(0≤x9∧x9 < ((16:Nat):Int))∧∃ x11,cell? m10 ⟨n4,0+x9.toNat,none⟩=some (.int .i64 x11)∧K.kn [(0,.pointer (some ⟨b,o,none⟩)),(1,.slice a1 l2 k3),(5,.pointer (some ⟨n4,0,none⟩)),(6,.int .i64 x5),(7,.int .i64 x6),(10,.int .i64 (IntKind.wrap .i64 ((shlOp .i64 x7 1)+x11))),(11,.pointer (some ⟨n8,0,none⟩)),(12,.int .i64 (IntKind.wrap .i64 (x9+1)))] m10) (K.kx 2 [(0,.pointer (some ⟨b,o,none⟩)),(1,.slice a1 l2 k3),(5,.pointer (some ⟨n4,0,none⟩)),(6,.int .i64 x5),(7,.int .i64 x6),(10,.int .i64 x7),(11,.pointer (some ⟨n8,0,none⟩)),(12,.int .i64 x9)] m)):
  wpc PP FF 317 L_huffmanDecoder_init c_huffmanDecoder_init_rrrrrrrrlrll K [(0,.pointer (some ⟨b,o,none⟩)),(1,.slice a1 l2 k3),(5,.pointer (some ⟨n4,0,none⟩)),(6,.int .i64 x5),(7,.int .i64 x6),(10,.int .i64 x7),(11,.pointer (some ⟨n8,0,none⟩)),(12,.int .i64 x9)] m:=
 Eq.mpr (by kernel_rfl) h
theorem p_huffmanDecoder_init_rrrrrrrrrrrrlrll (b o:Nat) (x1:Int) (n2:Nat) (a3:Option Addr) (l4:Nat) (k5:Nat) (x6:Int) (x7:Int) (m:Mem) (K:Kont)
  (h:ifB (decide (x7 < x6)) (onSome a3 fun p8=>(0≤x7∧x7 < (l4:Int))∧∃ x9,cell? m (aplus p8 x7.toNat)=some (.int .i64 x9)∧ifB (x9 == 0) (WPS PP 317 c_huffmanDecoder_init_rrrrrrrrrrrrlrllrrr K [(0,.pointer (some ⟨b,o,none⟩)),(10,.int .i64 x1),(11,.pointer (some ⟨n2,0,none⟩)),(18,.int .i64 x7),(19,.int .i64 x9),(168,.slice a3 l4 k5),(169,.int .i64 x6),(170,.int .i64 x7)] m) ((0≤x9∧x9 < ((16:Nat):Int))∧∃ x10,cell? m ⟨n2,0+x9.toNat,none⟩=some (.int .i64 x10)∧(0≤x9∧x9 < ((16:Nat):Int))∧∃ x11,cell? m ⟨n2,0+x9.toNat,none⟩=some (.int .i64 x11)∧(0≤x9∧x9 < ((16:Nat):Int))∧StW m ⟨n2,0+x9.toNat,none⟩ (.int .i64 (IntKind.wrap .i64 (x11+1))) fun m12=>0≤(4:Int)∧IntKind.i64=IntKind.i64∧CallM PP f_bits_Reverse16 #[.int .u16 (IntKind.wrap .u16 x10)] m12 fun v14 m15=>∃ x13,v14=.int .u16 x13∧0≤(IntKind.wrap .u64 (IntKind.wrap .i64 (16 - x9)))∧ifB (decide (x9≤9)) (WPS PP 317 c_huffmanDecoder_init_rrrrrrrrrrrrlrllrrllrrrrrrrrlrl (((K.withN fun r m=>WPS PP 317 c_huffmanDecoder_init_rrrrrrrrrrrrlrllrrr K r m).withX 7).withX 8) [(0,.pointer (some ⟨b,o,none⟩)),(10,.int .i64 x1),(11,.pointer (some ⟨n2,0,none⟩)),(18,.int .i64 x7),(19,.int .i64 x9),(20,.int .i64 x10),(21,.int .u32 (IntKind.wrap .u32 (bitsOp .or .i64 (shlOp .i64 x7 4) x9))),(22,.int .i64 (shrOp .i64 (IntKind.wrap .i64 x13) (IntKind.wrap .u64 (IntKind.wrap .i64 (16 - x9))))),(23,.int .i64 (shrOp .i64 (IntKind.wrap .i64 x13) (IntKind.wrap .u64 (IntKind.wrap .i64 (16 - x9))))),(168,.slice a3 l4 k5),(169,.int .i64 x6),(170,.int .i64 x7)] m15) (IntKind.i64=IntKind.i64∧WPS PP 317 c_huffmanDecoder_init_rrrrrrrrrrrrlrllrrllrrrrrrrrrrr ((K.withN fun r m=>WPS PP 317 c_huffmanDecoder_init_rrrrrrrrrrrrlrllrrr K r m).withX 7) [(0,.pointer (some ⟨b,o,none⟩)),(10,.int .i64 x1),(11,.pointer (some ⟨n2,0,none⟩)),(18,.int .i64 x7),(19,.int .i64 x9),(20,.int .i64 x10),(21,.int .u32 (IntKind.wrap .u32 (bitsOp .or .i64 (shlOp .i64 x7 4) x9))),(22,.int .i64 (shrOp .i64 (IntKind.wrap .i64 x13) (IntKind.wrap .u64 (IntKind.wrap .i64 (16 - x9))))),(24,.int .i64 (bitsOp .and .i64 (shrOp .i64 (IntKind.wrap .i64 x13) (IntKind.wrap .u64 (IntKind.wrap .i64 (16 - x9)))) 511)),(168,.slice a3 l4 k5),(169,.int .i64 x6),(170,.int .i64 x7)] m15))) (K.kx 6 [(0,.pointer (some ⟨b,o,none⟩)),(10,.int .i64 x1),(11,.pointer (some ⟨n2,0,none⟩)),(168,.slice a3 l4 k5),(169,.int .i64 x6),(170,.int .i64 x7)] m)):
  wpc PP FF 317 L_huffmanDecoder_init c_huffmanDecoder_init_rrrrrrrrrrrrlrll K [(0,.pointer (some ⟨b,o,none⟩)),(10,.int .i64 x1),(11,.pointer (some ⟨n2,0,none⟩)),(168,.slice a3 l4 k5),(169,.int .i64 x6),(170,.int .i64 x7)] m:=
 Eq.mpr (by kernel_rfl) h
theorem p_huffmanDecoder_init_rrrrrrrrrrrrrlllrll (b o:Nat) (x1:Int) (v2:Value) (x3:Int) (m:Mem) (K:Kont)
  (h:ifB (decide (x3 < 512)) (PureW PP (Instr.index t_512_uint32 v2 (.int .i64 x3)) fun u5=>∃ x4,u5=.int .u32 x4∧ifB (x4 == 0) (ifB (x1 == 1) (IntKind.i64=IntKind.i64∧(2:Int)≠0∧ifB ((Int.tmod x3 2) == 1) (WPS PP 317 c_huffmanDecoder_init_rrrrrrrrrrrrrlllrllrrr K [(0,.pointer (some ⟨b,o,none⟩)),(10,.int .i64 x1),(28,.int .i64 x3),(29,.int .u32 x4),(281,v2),(282,.int .i64 x3)] m) (False)) (False)) (WPS PP 317 c_huffmanDecoder_init_rrrrrrrrrrrrrlllrllrrr K [(0,.pointer (some ⟨b,o,none⟩)),(10,.int .i64 x1),(28,.int .i64 x3),(29,.int .u32 x4),(281,v2),(282,.int .i64 x3)] m)) (K.kx 12 [(0,.pointer (some ⟨b,o,none⟩)),(10,.int .i64 x1),(281,v2),(282,.int .i64 x3)] m)):
  wpc PP FF 317 L_huffmanDecoder_init c_huffmanDecoder_init_rrrrrrrrrrrrrlllrll K [(0,.pointer (some ⟨b,o,none⟩)),(10,.int .i64 x1),(281,v2),(282,.int .i64 x3)] m:=
 Eq.mpr (by kernel_rfl) h
theorem p_huffmanDecoder_init_rrrrrrrrrrrrrllrrll (a1:Option Addr) (l2:Nat) (k3:Nat) (x4:Int) (x5:Int) (m:Mem) (K:Kont)
  (h:ifB (decide (x5 < x4)) (onSome a1 fun p6=>(0≤x5∧x5 < (l2:Int))∧∃ a7 l8 k9,cell? m (aplus p6 x5.toNat)=some (.slice a7 l8 k9)∧WPS PP 317 c_huffmanDecoder_init_rrrrrrrrrrrrrllrrllrrllrrl (((K.withN fun r m=>WPS PP 317 c_huffmanDecoder_init_rrrrrrrrrrrrrllrrllrrr K r m).withX 15).withX 16) [(31,.slice a7 l8 k9),(300,.slice a1 l2 k3),(301,.int .i64 x4),(302,.int .i64 x5),(306,.slice a7 l8 k9),(307,.int .i64 (l8:Int)),(308,.int .i64 0)] m) (K.kx 14 [(300,.slice a1 l2 k3),(301,.int .i64 x4),(302,.int .i64 x5)] m)):
  wpc PP FF 317 L_huffmanDecoder_init c_huffmanDecoder_init_rrrrrrrrrrrrrllrrll K [(300,.slice a1 l2 k3),(301,.int .i64 x4),(302,.int .i64 x5)] m:=
 Eq.mpr (by kernel_rfl) h
theorem p_huffmanDecoder_init_rrrrrrrrrrrlrlrrrrrll (b o:Nat) (a1:Option Addr) (l2:Nat) (k3:Nat) (x4:Int) (n5:Nat) (x6:Int) (x7:Int) (x8:Int) (m:Mem) (K:Kont)
  (h:ifB (decide (x8 < 512)) (CallM PP f_bits_Reverse16 #[.int .u16 (IntKind.wrap .u16 x8)] m fun v10 m11=>∃ x9,v10=.int .u16 x9∧0≤(7:Int)∧WPS PP 317 c_huffmanDecoder_init_rrrrrrrrrrrlrlrrrrrllrllrrrr ((K.withN fun r m=>wpc PP FF 317 L_huffmanDecoder_init c_huffmanDecoder_init_rrrrrrrrrrrlrlrrrrrllrr K r m).withX 5) [(0,.pointer (some ⟨b,o,none⟩)),(1,.slice a1 l2 k3),(10,.int .i64 x4),(11,.pointer (some ⟨n5,0,none⟩)),(13,.int .i64 x6),(14,.int .i64 x7),(15,.int .u64 x8),(16,.int .i64 (shrOp .i64 (IntKind.wrap .i64 x9) 7)),(17,.int .u64 (IntKind.wrap .u64 (x8 - (IntKind.wrap .u64 x7))))] m11) (K.kx 4 [(0,.pointer (some ⟨b,o,none⟩)),(1,.slice a1 l2 k3),(10,.int .i64 x4),(11,.pointer (some ⟨n5,0,none⟩)),(13,.int .i64 x6),(14,.int .i64 x7),(15,.int .u64 x8)] m)):
  wpc PP FF 317 L_huffmanDecoder_init c_huffmanDecoder_init_rrrrrrrrrrrlrlrrrrrll K [(0,.pointer (some ⟨b,o,none⟩)),(1,.slice a1 l2 k3),(10,.int .i64 x4),(11,.pointer (some ⟨n5,0,none⟩)),(13,.int .i64 x6),(14,.int .i64 x7),(15,.int .u64 x8)] m:=
 Eq.mpr (by kernel_rfl) h
theorem p_huffmanDecoder_init_rrrrrrrrrrrrrllrrllrrllrrll (a1:Option Addr) (l2:Nat) (k3:Nat) (x4:Int) (x5:Int) (a6:Option Addr) (l7:Nat) (k8:Nat) (x9:Int) (x10:Int) (m:Mem) (K:Kont)
  (h:ifB (decide (x10 < x9)) (onSome a6 fun p11=>(0≤x10∧x10 < (l7:Int))∧∃ x12,cell? m (aplus p11 x10.toNat)=some (.int .u32 x12)∧ifB (x12 == 0) (False) (WPS PP 317 c_huffmanDecoder_init_rrrrrrrrrrrrrllrrllrrllrrllrrr K [(33,.int .u32 x12),(300,.slice a1 l2 k3),(301,.int .i64 x4),(302,.int .i64 x5),(306,.slice a6 l7 k8),(307,.int .i64 x9),(308,.int .i64 x10)] m)) (K.kx 16 [(300,.slice a1 l2 k3),(301,.int .i64 x4),(302,.int .i64 x5),(306,.slice a6 l7 k8),(307,.int .i64 x9),(308,.int .i64 x10)] m)):
  wpc PP FF 317 L_huffmanDecoder_init c_huffmanDecoder_init_rrrrrrrrrrrrrllrrllrrllrrll K [(300,.slice a1 l2 k3),(301,.int .i64 x4),(302,.int .i64 x5),(306,.slice a6 l7 k8),(307,.int .i64 x9),(308,.int .i64 x10)] m:=
 Eq.mpr (by kernel_rfl) h
theorem p_huffmanDecoder_init_rrrrrrrrrrrrlrllrrllrrrrrrrrlrll (b o:Nat) (x1:Int) (n2:Nat) (x3:Int) (x4:Int) (x5:Int) (a6:Option Addr) (l7:Nat) (k8:Nat) (x9:Int) (x10:Int) (m:Mem) (K:Kont)
  (h:ifB (decide (x5 < 512)) (WPS PP 317 c_huffmanDecoder_init_rrrrrrrrrrrrlrllrrllrrrrrrrrlrllrllr ((K.withN fun r m=>wpc PP FF 317 L_huffmanDecoder_init c_huffmanDecoder_init_rrrrrrrrrrrrlrllrrllrrrrrrrrlrllrr K r m).withX 9) [(0,.pointer (some ⟨b,o,none⟩)),(10,.int .i64 x1),(11,.pointer (some ⟨n2,0,none⟩)),(19,.int .i64 x3),(21,.int .u32 x4),(23,.int .i64 x5),(168,.slice a6 l7 k8),(169,.int .i64 x9),(170,.int .i64 x10)] m) (K.kx 8 [(0,.pointer (some ⟨b,o,none⟩)),(10,.int .i64 x1),(11,.pointer (some ⟨n2,0,none⟩)),(19,.int .i64 x3),(21,.int .u32 x4),(23,.int .i64 x5),(168,.slice a6 l7 k8),(169,.int .i64 x9),(170,.int .i64 x10)] m)):
  wpc PP FF 317 L_huffmanDecoder_init c_huffmanDecoder_init_rrrrrrrrrrrrlrllrrllrrrrrrrrlrll K [(0,.pointer (some ⟨b,o,none⟩)),(10,.int .i64 x1),(11,.pointer (some ⟨n2,0,none⟩)),(19,.int .i64 x3),(21,.int .u32 x4),(23,.int .i64 x5),(168,.slice a6 l7 k8),(169,.int .i64 x9),(170,.int .i64 x10)] m:=
 Eq.mpr (by kernel_rfl) h
theorem p_huffmanDecoder_init_rrrrrrrrrrrrlrllrrllrrrrrrrrrrrrrrrll (b o:Nat) (x1:Int) (n2:Nat) (x3:Int) (x4:Int) (a5:Option Addr) (l6:Nat) (k7:Nat) (x8:Int) (a9:Option Addr) (l10:Nat) (k11:Nat) (x12:Int) (x13:Int) (m:Mem) (K:Kont)
  (h:ifB (decide (x8 < (l6:Int))) (WPS PP 317 c_huffmanDecoder_init_rrrrrrrrrrrrlrllrrllrrrrrrrrrrrrrrrllrllr ((K.withN fun r m=>wpc PP FF 317 L_huffmanDecoder_init c_huffmanDecoder_init_rrrrrrrrrrrrlrllrrllrrrrrrrrrrrrrrrllrr K r m).withX 11) [(0,.pointer (some ⟨b,o,none⟩)),(10,.int .i64 x1),(11,.pointer (some ⟨n2,0,none⟩)),(19,.int .i64 x3),(21,.int .u32 x4),(26,.slice a5 l6 k7),(27,.int .i64 x8),(168,.slice a9 l10 k11),(169,.int .i64 x12),(170,.int .i64 x13)] m) (K.kx 10 [(0,.pointer (some ⟨b,o,none⟩)),(10,.int .i64 x1),(11,.pointer (some ⟨n2,0,none⟩)),(19,.int .i64 x3),(21,.int .u32 x4),(26,.slice a5 l6 k7),(27,.int .i64 x8),(168,.slice a9 l10 k11),(169,.int .i64 x12),(170,.int .i64 x13)] m)):
  wpc PP FF 317 L_huffmanDecoder_init c_huffmanDecoder_init_rrrrrrrrrrrrlrllrrllrrrrrrrrrrrrrrrll K [(0,.pointer (some ⟨b,o,none⟩)),(10,.int .i64 x1),(11,.pointer (some ⟨n2,0,none⟩)),(19,.int .i64 x3),(21,.int .u32 x4),(26,.slice a5 l6 k7),(27,.int .i64 x8),(168,.slice a9 l10 k11),(169,.int .i64 x12),(170,.int .i64 x13)] m:=
 Eq.mpr (by kernel_rfl) h
def k_huffmanDecoder_init_rrrrr:List Nat:=[0,1,5,6,7]
theorem p_huffmanDecoder_init_rrrrr (b o:Nat) (a1:Option Addr) (l2:Nat) (k3:Nat) (n4:Nat) (x5:Int) (x6:Int) (m:Mem) (K:Kont)
  (h:ifB (x6 == 0) (K.kr [(0,.pointer (some ⟨b,o,none⟩)),(1,.slice a1 l2 k3),(4,.bool true),(5,.pointer (some ⟨n4,0,none⟩)),(6,.int .i64 x5),(7,.int .i64 x6)] m) (AllocW PP t_16_int m fun n7 m8=>WPS PP 317 c_huffmanDecoder_init_rrrrrrrrlrl ((K.withN fun r m=>WPS PP 317 c_huffmanDecoder_init_rrrrrrrrr K r m).withX 2) [(0,.pointer (some ⟨b,o,none⟩)),(1,.slice a1 l2 k3),(5,.pointer (some ⟨n4,0,none⟩)),(6,.int .i64 x5),(7,.int .i64 x6),(10,.int .i64 0),(11,.pointer (some ⟨n7,0,none⟩)),(12,.int .i64 x5)] m8)):
  wpc PP FF 317 L_huffmanDecoder_init c_huffmanDecoder_init_rrrrr K [(0,.pointer (some ⟨b,o,none⟩)),(1,.slice a1 l2 k3),(5,.pointer (some ⟨n4,0,none⟩)),(6,.int .i64 x5),(7,.int .i64 x6)] m:=
 Eq.mpr (by kernel_rfl) h
def k_huffmanDecoder_init_rrrrlrllrrr:List Nat:=[0,1,5,6,7,42,43,44]
theorem p_huffmanDecoder_init_rrrrlrllrrr (b o:Nat) (a1:Option Addr) (l2:Nat) (k3:Nat) (n4:Nat) (x5:Int) (x6:Int) (a7:Option Addr) (l8:Nat) (k9:Nat) (x10:Int) (x11:Int) (m:Mem) (K:Kont)
  (h:K.kn [(0,.pointer (some ⟨b,o,none⟩)),(1,.slice a1 l2 k3),(5,.pointer (some ⟨n4,0,none⟩)),(6,.int .i64 x5),(7,.int .i64 x6),(42,.slice a7 l8 k9),(43,.int .i64 x10),(44,.int .i64 (IntKind.wrap .i64 (x11+1)))] m):
  wpc PP FF 317 L_huffmanDecoder_init c_huffmanDecoder_init_rrrrlrllrrr K [(0,.pointer (some ⟨b,o,none⟩)),(1,.slice a1 l2 k3),(5,.pointer (some ⟨n4,0,none⟩)),(6,.int .i64 x5),(7,.int .i64 x6),(42,.slice a7 l8 k9),(43,.int .i64 x10),(44,.int .i64 x11)] m:=
 Eq.mpr (by kernel_rfl) h
def k_huffmanDecoder_init_rrrrlrllrrllrrr:List Nat:=[0,1,5,6,7,9,42,43,44]
theorem p_huffmanDecoder_init_rrrrlrllrrllrrr (b o:Nat) (a1:Option Addr) (l2:Nat) (k3:Nat) (n4:Nat) (x5:Int) (x6:Int) (x7:Int) (a8:Option Addr) (l9:Nat) (k10:Nat) (x11:Int) (x12:Int) (m:Mem) (K:Kont)
  (h:ifB (decide (x7 > x6)) (WPS PP 317 c_huffmanDecoder_init_rrrrlrllrrllrrrr K [(0,.pointer (some ⟨b,o,none⟩)),(1,.slice a1 l2 k3),(5,.pointer (some ⟨n4,0,none⟩)),(6,.int .i64 x5),(7,.int .i64 x7),(9,.int .i64 x7),(42,.slice a8 l9 k10),(43,.int .i64 x11),(44,.int .i64 x12)] m) (WPS PP 317 c_huffmanDecoder_init_rrrrlrllrrllrrrr K [(0,.pointer (some ⟨b,o,none⟩)),(1,.slice a1 l2 k3),(5,.pointer (some ⟨n4,0,none⟩)),(6,.int .i64 x5),(7,.int .i64 x6),(9,.int .i64 x7),(42,.slice a8 l9 k10),(43,.int .i64 x11),(44,.int .i64 x12)] m)):
  wpc PP FF 317 L_huffmanDecoder_init c_huffmanDecoder_init_rrrrlrllrrllrrr K [(0,.pointer (some ⟨b,o,none⟩)),(1,.slice a1 l2 k3),(5,.pointer (some ⟨n4,0,none⟩)),(6,.int .i64 x5),(7,.int .i64 x6),(9,.int .i64 x7),(42,.slice a8 l9 k10),(43,.int .i64 x11),(44,.int .i64 x12)] m:=
 Eq.mpr (by kernel_rfl) h
def k_huffmanDecoder_init_rrrrrrrrrrrrlrllrrr:List Nat:=[0,10,11,168,169,170]
theorem p_huffmanDecoder_init_rrrrrrrrrrrrlrllrrr (b o:Nat) (x1:Int) (n2:Nat) (a3:Option Addr) (l4:Nat) (k5:Nat) (x6:Int) (x7:Int) (m:Mem) (K:Kont)
  (h:K.kn [(0,.pointer (some ⟨b,o,none⟩)),(10,.int .i64 x1),(11,.pointer (some ⟨n2,0,none⟩)),(168,.slice a3 l4 k5),(169,.int .i64 x6),(170,.int .i64 (IntKind.wrap .i64 (x7+1)))] m):
  wpc PP FF 317 L_huffmanDecoder_init c_huffmanDecoder_init_rrrrrrrrrrrrlrllrrr K [(0,.pointer (some ⟨b,o,none⟩)),(10,.int .i64 x1),(11,.pointer (some ⟨n2,0,none⟩)),(168,.slice a3 l4 k5),(169,.int .i64 x6),(170,.int .i64 x7)] m:=
 Eq.mpr (by kernel_rfl) h
theorem p_huffmanDecoder_init_rrrrrrrrrrrrrlllrllrrr (b o:Nat) (x1:Int) (v2:Value) (x3:Int) (m:Mem) (K:Kont)
  (h:K.kn [(0,.pointer (some ⟨b,o,none⟩)),(10,.int .i64 x1),(281,v2),(282,.int .i64 (IntKind.wrap .i64 (x3+1)))] m):
  wpc PP FF 317 L_huffmanDecoder_init c_huffmanDecoder_init_rrrrrrrrrrrrrlllrllrrr K [(0,.pointer (some ⟨b,o,none⟩)),(10,.int .i64 x1),(281,v2),(282,.int .i64 x3)] m:=
 Eq.mpr (by kernel_rfl) h
theorem p_huffmanDecoder_init_rrrrrrrrrrrrrllrrllrrr (a1:Option Addr) (l2:Nat) (k3:Nat) (x4:Int) (x5:Int) (m:Mem) (K:Kont)
  (h:K.kn [(300,.slice a1 l2 k3),(301,.int .i64 x4),(302,.int .i64 (IntKind.wrap .i64 (x5+1)))] m):
  wpc PP FF 317 L_huffmanDecoder_init c_huffmanDecoder_init_rrrrrrrrrrrrrllrrllrrr K [(300,.slice a1 l2 k3),(301,.int .i64 x4),(302,.int .i64 x5)] m:=
 Eq.mpr (by kernel_rfl) h
theorem p_huffmanDecoder_init_rrrrrrrrrrrlrlrrrrrllrr (b o:Nat) (a1:Option Addr) (l2:Nat) (k3:Nat) (x4:Int) (n5:Nat) (x6:Int) (x7:Int) (x8:Int) (m:Mem) (K:Kont)
  (h:K.kn [(0,.pointer (some ⟨b,o,none⟩)),(1,.slice a1 l2 k3),(10,.int .i64 x4),(11,.pointer (some ⟨n5,0,none⟩)),(13,.int .i64 x6),(14,.int .i64 x7),(15,.int .u64 (IntKind.wrap .u64 (x8+1)))] m):
  wpc PP FF 317 L_huffmanDecoder_init c_huffmanDecoder_init_rrrrrrrrrrrlrlrrrrrllrr K [(0,.pointer (some ⟨b,o,none⟩)),(1,.slice a1 l2 k3),(10,.int .i64 x4),(11,.pointer (some ⟨n5,0,none⟩)),(13,.int .i64 x6),(14,.int .i64 x7),(15,.int .u64 x8)] m:=
 Eq.mpr (by kernel_rfl) h
def k_huffmanDecoder_init_rrrrrrrrrrrlrlrrrrrllrllrrrr:List Nat:=[0,1,10,11,13,14,15,16,17]
theorem p_huffmanDecoder_init_rrrrrrrrrrrlrlrrrrrllrllrrrr (b o:Nat) (a1:Option Addr) (l2:Nat) (k3:Nat) (x4:Int) (n5:Nat) (x6:Int) (x7:Int) (x8:Int) (x9:Int) (x10:Int) (m:Mem) (K:Kont)
  (h:0≤(4:Int)∧IntKind.u64=IntKind.u64∧(0≤x9∧x9 < ((512:Nat):Int))∧StW m ⟨b,o+1+x9.toNat,none⟩ (.int .u32 (IntKind.wrap .u32 (bitsOp .or .u64 (shlOp .u64 x10 4) 10))) fun m11=>∃ a12 l13 k14,cell? m11 ⟨b,o+513,none⟩=some (.slice a12 l13 k14)∧SemW PP (sv (Instr.makeSlice t_s_uint32 (.int .i64 x6) (.int .i64 x6))) m11 (NextW PP fun v18 m19=>∃ a15 l16 k17,v18=.slice a15 l16 k17∧cell? m19 ⟨b,o+513,none⟩=some (.slice a12 l13 k14)∧onSome a12 fun p20=>(0≤x10∧x10 < (l13:Int))∧StW m19 (aplus p20 x10.toNat) (.slice a15 l16 k17) fun m21=>cell? m21 ⟨b,o+513,none⟩=some (.slice a12 l13 k14)∧K.kn [(0,.pointer (some ⟨b,o,none⟩)),(1,.slice a1 l2 k3),(10,.int .i64 x4),(11,.pointer (some ⟨n5,0,none⟩)),(13,.int .i64 x6),(14,.int .i64 x7),(15,.int .u64 x8),(16,.int .i64 x9),(17,.int .u64 x10)] m21)):
  wpc PP FF 317 L_huffmanDecoder_init c_huffmanDecoder_init_rrrrrrrrrrrlrlrrrrrllrllrrrr K [(0,.pointer (some ⟨b,o,none⟩)),(1,.slice a1 l2 k3),(10,.int .i64 x4),(11,.pointer (some ⟨n5,0,none⟩)),(13,.int .i64 x6),(14,.int .i64 x7),(15,.int .u64 x8),(16,.int .i64 x9),(17,.int .u64 x10)] m:=
 Eq.mpr (by kernel_rfl) h
theorem p_huffmanDecoder_init_rrrrrrrrrrrrrllrrllrrllrrllrrr (a1:Option Addr) (l2:Nat) (k3:Nat) (x4:Int) (x5:Int) (a6:Option Addr) (l7:Nat) (k8:Nat) (x9:Int) (x10:Int) (m:Mem) (K:Kont)
  (h:K.kn [(300,.slice a1 l2 k3),(301,.int .i64 x4),(302,.int .i64 x5),(306,.slice a6 l7 k8),(307,.int .i64 x9),(308,.int .i64 (IntKind.wrap .i64 (x10+1)))] m):
  wpc PP FF 317 L_huffmanDecoder_init c_huffmanDecoder_init_rrrrrrrrrrrrrllrrllrrllrrllrrr K [(300,.slice a1 l2 k3),(301,.int .i64 x4),(302,.int .i64 x5),(306,.slice a6 l7 k8),(307,.int .i64 x9),(308,.int .i64 x10)] m:=
 Eq.mpr (by kernel_rfl) h
def k_huffmanDecoder_init_rrrrrrrrrrrrlrllrrllrrrrrrrrrrr:List Nat:=[0,10,11,19,21,22,24,168,169,170]
theorem p_huffmanDecoder_init_rrrrrrrrrrrrlrllrrllrrrrrrrrrrr (b o:Nat) (x1:Int) (n2:Nat) (x3:Int) (x4:Int) (x5:Int) (x6:Int) (a7:Option Addr) (l8:Nat) (k9:Nat) (x10:Int) (x11:Int) (m:Mem) (K:Kont)
  (h:(0≤x6∧x6 < ((512:Nat):Int))∧∃ x12,cell? m ⟨b,o+1+x6.toNat,none⟩=some (.int .u32 x12)∧0≤(4:Int)∧∃ a13 l14 k15,cell? m ⟨b,o+513,none⟩=some (.slice a13 l14 k15)∧onSome a13 fun p16=>(0≤(shrOp .u32 x12 4)∧(shrOp .u32 x12 4) < (l14:Int))∧∃ a17 l18 k19,cell? m (aplus p16 ((shrOp .u32 x12 4).toNat))=some (.slice a17 l18 k19)∧0≤(9:Int)∧WPS PP 317 c_huffmanDecoder_init_rrrrrrrrrrrrlrllrrllrrrrrrrrrrrrrrrl (K.withX 10) [(0,.pointer (some ⟨b,o,none⟩)),(10,.int .i64 x1),(11,.pointer (some ⟨n2,0,none⟩)),(19,.int .i64 x3),(21,.int .u32 x4),(22,.int .i64 (shrOp .i64 x5 9)),(24,.int .i64 x6),(25,.int .u32 (shrOp .u32 x12 4)),(26,.slice a17 l18 k19),(27,.int .i64 (shrOp .i64 x5 9)),(168,.slice a7 l8 k9),(169,.int .i64 x10),(170,.int .i64 x11)] m):
  wpc PP FF 317 L_huffmanDecoder_init c_huffmanDecoder_init_rrrrrrrrrrrrlrllrrllrrrrrrrrrrr K [(0,.pointer (some ⟨b,o,none⟩)),(10,.int .i64 x1),(11,.pointer (some ⟨n2,0,none⟩)),(19,.int .i64 x3),(21,.int .u32 x4),(22,.int .i64 x5),(24,.int .i64 x6),(168,.slice a7 l8 k9),(169,.int .i64 x10),(170,.int .i64 x11)] m:=
 Eq.mpr (by kernel_rfl) h
theorem p_huffmanDecoder_init_rrrrrrrrrrrrlrllrrllrrrrrrrrlrllrr (b o:Nat) (x1:Int) (n2:Nat) (x3:Int) (x4:Int) (x5:Int) (a6:Option Addr) (l7:Nat) (k8:Nat) (x9:Int) (x10:Int) (m:Mem) (K:Kont)
  (h:0≤(IntKind.wrap .u64 x3)∧K.kn [(0,.pointer (some ⟨b,o,none⟩)),(10,.int .i64 x1),(11,.pointer (some ⟨n2,0,none⟩)),(19,.int .i64 x3),(21,.int .u32 x4),(23,.int .i64 (IntKind.wrap .i64 (x5+(shlOp .i64 1 (IntKind.wrap .u64 x3))))),(168,.slice a6 l7 k8),(169,.int .i64 x9),(170,.int .i64 x10)] m):
  wpc PP FF 317 L_huffmanDecoder_init c_huffmanDecoder_init_rrrrrrrrrrrrlrllrrllrrrrrrrrlrllrr K [(0,.pointer (some ⟨b,o,none⟩)),(10,.int .i64 x1),(11,.pointer (some ⟨n2,0,none⟩)),(19,.int .i64 x3),(21,.int .u32 x4),(23,.int .i64 x5),(168,.slice a6 l7 k8),(169,.int .i64 x9),(170,.int .i64 x10)] m:=
 Eq.mpr (by kernel_rfl) h
def k_huffmanDecoder_init_rrrrrrrrrrrrlrllrrllrrrrrrrrlrllrllr:List Nat:=[0,10,11,19,21,23,168,169,170]
theorem p_huffmanDecoder_init_rrrrrrrrrrrrlrllrrllrrrrrrrrlrllrllr (b o:Nat) (x1:Int) (n2:Nat) (x3:Int) (x4:Int) (x5:Int) (a6:Option Addr) (l7:Nat) (k8:Nat) (x9:Int) (x10:Int) (m:Mem) (K:Kont)
  (h:(0≤x5∧x5 < ((512:Nat):Int))∧StW m ⟨b,o+1+x5.toNat,none⟩ (.int .u32 x4) fun m11=>K.kn [(0,.pointer (some ⟨b,o,none⟩)),(10,.int .i64 x1),(11,.pointer (some ⟨n2,0,none⟩)),(19,.int .i64 x3),(21,.int .u32 x4),(23,.int .i64 x5),(168,.slice a6 l7 k8),(169,.int .i64 x9),(170,.int .i64 x10)] m11):
  wpc PP FF 317 L_huffmanDecoder_init c_huffmanDecoder_init_rrrrrrrrrrrrlrllrrllrrrrrrrrlrllrllr K [(0,.pointer (some ⟨b,o,none⟩)),(10,.int .i64 x1),(11,.pointer (some ⟨n2,0,none⟩)),(19,.int .i64 x3),(21,.int .u32 x4),(23,.int .i64 x5),(168,.slice a6 l7 k8),(169,.int .i64 x9),(170,.int .i64 x10)] m:=
 Eq.mpr (by kernel_rfl) h
theorem p_huffmanDecoder_init_rrrrrrrrrrrrlrllrrllrrrrrrrrrrrrrrrllrr (b o:Nat) (x1:Int) (n2:Nat) (x3:Int) (x4:Int) (a5:Option Addr) (l6:Nat) (k7:Nat) (x8:Int) (a9:Option Addr) (l10:Nat) (k11:Nat) (x12:Int) (x13:Int) (m:Mem) (K:Kont)
  (h:0≤(IntKind.wrap .u64 (IntKind.wrap .i64 (x3 - 9)))∧K.kn [(0,.pointer (some ⟨b,o,none⟩)),(10,.int .i64 x1),(11,.pointer (some ⟨n2,0,none⟩)),(19,.int .i64 x3),(21,.int .u32 x4),(26,.slice a5 l6 k7),(27,.int .i64 (IntKind.wrap .i64 (x8+(shlOp .i64 1 (IntKind.wrap .u64 (IntKind.wrap .i64 (x3 - 9))))))),(168,.slice a9 l10 k11),(169,.int .i64 x12),(170,.int .i64 x13)] m):
  wpc PP FF 317 L_huffmanDecoder_init c_huffmanDecoder_init_rrrrrrrrrrrrlrllrrllrrrrrrrrrrrrrrrllrr K [(0,.pointer (some ⟨b,o,none⟩)),(10,.int .i64 x1),(11,.pointer (some ⟨n2,0,none⟩)),(19,.int .i64 x3),(21,.int .u32 x4),(26,.slice a5 l6 k7),(27,.int .i64 x8),(168,.slice a9 l10 k11),(169,.int .i64 x12),(170,.int .i64 x13)] m:=
 Eq.mpr (by kernel_rfl) h
def k_huffmanDecoder_init_rrrrrrrrrrrrlrllrrllrrrrrrrrrrrrrrrllrllr:List Nat:=[0,10,11,19,21,26,27,168,169,170]
theorem p_huffmanDecoder_init_rrrrrrrrrrrrlrllrrllrrrrrrrrrrrrrrrllrllr (b o:Nat) (x1:Int) (n2:Nat) (x3:Int) (x4:Int) (a5:Option Addr) (l6:Nat) (k7:Nat) (x8:Int) (a9:Option Addr) (l10:Nat) (k11:Nat) (x12:Int) (x13:Int) (m:Mem) (K:Kont)
  (h:onSome a5 fun p14=>(0≤x8∧x8 < (l6:Int))∧StW m (aplus p14 x8.toNat) (.int .u32 x4) fun m15=>K.kn [(0,.pointer (some ⟨b,o,none⟩)),(10,.int .i64 x1),(11,.pointer (some ⟨n2,0,none⟩)),(19,.int .i64 x3),(21,.int .u32 x4),(26,.slice a5 l6 k7),(27,.int .i64 x8),(168,.slice a9 l10 k11),(169,.int .i64 x12),(170,.int .i64 x13)] m15):
  wpc PP FF 317 L_huffmanDecoder_init c_huffmanDecoder_init_rrrrrrrrrrrrlrllrrllrrrrrrrrrrrrrrrllrllr K [(0,.pointer (some ⟨b,o,none⟩)),(10,.int .i64 x1),(11,.pointer (some ⟨n2,0,none⟩)),(19,.int .i64 x3),(21,.int .u32 x4),(26,.slice a5 l6 k7),(27,.int .i64 x8),(168,.slice a9 l10 k11),(169,.int .i64 x12),(170,.int .i64 x13)] m:=
 Eq.mpr (by kernel_rfl) h
def k_huffmanDecoder_init_rrrrrrrrr:List Nat:=[0,1,6,7,10,11]
theorem p_huffmanDecoder_init_rrrrrrrrr (b o:Nat) (a1:Option Addr) (l2:Nat) (k3:Nat) (x4:Int) (x5:Int) (x6:Int) (n7:Nat) (m:Mem) (K:Kont)
  (h:0≤(IntKind.wrap .u64 x5)∧ifB (x6 != shlOp .i64 1 (IntKind.wrap .u64 x5)) (ifB (x6 == 1) (ifB (!(x5 == 1)) (K.kr [(0,.pointer (some ⟨b,o,none⟩)),(1,.slice a1 l2 k3),(4,.bool false),(6,.int .i64 x4),(7,.int .i64 x5),(10,.int .i64 x6),(11,.pointer (some ⟨n7,0,none⟩))] m) (StW m ⟨b,o,none⟩ (.int .i64 x4) fun m8=>ifB (decide (x5 > 9)) (0≤(IntKind.wrap .u64 ((IntKind.wrap .u64 x5) - 9))∧StW m8 ⟨b,o+514,none⟩ (.int .u32 (IntKind.wrap .u32 (IntKind.wrap .i64 ((shlOp .i64 1 (IntKind.wrap .u64 ((IntKind.wrap .u64 x5) - 9))) - 1)))) fun m9=>(0≤(10:Int)∧(10:Int) < ((16:Nat):Int))∧∃ x10,cell? m9 ⟨n7,10,none⟩=some (.int .i64 x10)∧0≤(1:Int)∧SemW PP (sv (Instr.makeSlice t_s_s_uint32 (.int .i64 (IntKind.wrap .i64 (512 - (shrOp .i64 x10 1)))) (.int .i64 (IntKind.wrap .i64 (512 - (shrOp .i64 x10 1)))))) m9 (NextW PP fun v14 m15=>∃ a11 l12 k13,v14=.slice a11 l12 k13∧StW m15 ⟨b,o+513,none⟩ (.slice a11 l12 k13) fun m16=>WPS PP 317 c_huffmanDecoder_init_rrrrrrrrrrrlrlrrrrrl ((K.withN fun r m=>WPS PP 317 c_huffmanDecoder_init_rrrrrrrrrrrr K r m).withX 4) [(0,.pointer (some ⟨b,o,none⟩)),(1,.slice a1 l2 k3),(6,.int .i64 x4),(7,.int .i64 x5),(10,.int .i64 x6),(11,.pointer (some ⟨n7,0,none⟩)),(13,.int .i64 (shlOp .i64 1 (IntKind.wrap .u64 ((IntKind.wrap .u64 x5) - 9)))),(14,.int .i64 (shrOp .i64 x10 1)),(15,.int .u64 (IntKind.wrap .u64 (shrOp .i64 x10 1)))] m16)) (WPS PP 317 c_huffmanDecoder_init_rrrrrrrrrrrr K [(0,.pointer (some ⟨b,o,none⟩)),(1,.slice a1 l2 k3),(6,.int .i64 x4),(7,.int .i64 x5),(10,.int .i64 x6),(11,.pointer (some ⟨n7,0,none⟩))] m8))) (K.kr [(0,.pointer (some ⟨b,o,none⟩)),(1,.slice a1 l2 k3),(4,.bool false),(6,.int .i64 x4),(7,.int .i64 x5),(10,.int .i64 x6),(11,.pointer (some ⟨n7,0,none⟩))] m)) (StW m ⟨b,o,none⟩ (.int .i64 x4) fun m17=>ifB (decide (x5 > 9)) (0≤(IntKind.wrap .u64 ((IntKind.wrap .u64 x5) - 9))∧StW m17 ⟨b,o+514,none⟩ (.int .u32 (IntKind.wrap .u32 (IntKind.wrap .i64 ((shlOp .i64 1 (IntKind.wrap .u64 ((IntKind.wrap .u64 x5) - 9))) - 1)))) fun m18=>(0≤(10:Int)∧(10:Int) < ((16:Nat):Int))∧∃ x19,cell? m18 ⟨n7,10,none⟩=some (.int .i64 x19)∧0≤(1:Int)∧SemW PP (sv (Instr.makeSlice t_s_s_uint32 (.int .i64 (IntKind.wrap .i64 (512 - (shrOp .i64 x19 1)))) (.int .i64 (IntKind.wrap .i64 (512 - (shrOp .i64 x19 1)))))) m18 (NextW PP fun v23 m24=>∃ a20 l21 k22,v23=.slice a20 l21 k22∧StW m24 ⟨b,o+513,none⟩ (.slice a20 l21 k22) fun m25=>WPS PP 317 c_huffmanDecoder_init_rrrrrrrrrrrlrlrrrrrl ((K.withN fun r m=>WPS PP 317 c_huffmanDecoder_init_rrrrrrrrrrrr K r m).withX 4) [(0,.pointer (some ⟨b,o,none⟩)),(1,.slice a1 l2 k3),(6,.int .i64 x4),(7,.int .i64 x5),(10,.int .i64 x6),(11,.pointer (some ⟨n7,0,none⟩)),(13,.int .i64 (shlOp .i64 1 (IntKind.wrap .u64 ((IntKind.wrap .u64 x5) - 9)))),(14,.int .i64 (shrOp .i64 x19 1)),(15,.int .u64 (IntKind.wrap .u64 (shrOp .i64 x19 1)))] m25)) (WPS PP 317 c_huffmanDecoder_init_rrrrrrrrrrrr K [(0,.pointer (some ⟨b,o,none⟩)),(1,.slice a1 l2 k3),(6,.int .i64 x4),(7,.int .i64 x5),(10,.int .i64 x6),(11,.pointer (some ⟨n7,0,none⟩))] m17))):
  wpc PP FF 317 L_huffmanDecoder_init c_huffmanDecoder_init_rrrrrrrrr K [(0,.pointer (some ⟨b,o,none⟩)),(1,.slice a1 l2 k3),(6,.int .i64 x4),(7,.int .i64 x5),(10,.int .i64 x6),(11,.pointer (some ⟨n7,0,none⟩))] m:=
 Eq.mpr (by kernel_rfl) h
def k_huffmanDecoder_init_rrrrlrllrrllrrrr:List Nat:=[0,1,5,6,7,9,42,43,44]
theorem p_huffmanDecoder_init_rrrrlrllrrllrrrr (b o:Nat) (a1:Option Addr) (l2:Nat) (k3:Nat) (n4:Nat) (x5:Int) (x6:Int) (x7:Int) (a8:Option Addr) (l9:Nat) (k10:Nat) (x11:Int) (x12:Int) (m:Mem) (K:Kont)
  (h:(0≤x7∧x7 < ((16:Nat):Int))∧∃ x13,cell? m ⟨n4,0+x7.toNat,none⟩=some (.int .i64 x13)∧(0≤x7∧x7 < ((16:Nat):Int))∧StW m ⟨n4,0+x7.toNat,none⟩ (.int .i64 (IntKind.wrap .i64 (x13+1))) fun m14=>K.kn [(0,.pointer (some ⟨b,o,none⟩)),(1,.slice a1 l2 k3),(5,.pointer (some ⟨n4,0,none⟩)),(6,.int .i64 x5),(7,.int .i64 x6),(9,.int .i64 x7),(42,.slice a8 l9 k10),(43,.int .i64 x11),(44,.int .i64 x12)] m14):
  wpc PP FF 317 L_huffmanDecoder_init c_huffmanDecoder_init_rrrrlrllrrllrrrr K [(0,.pointer (some ⟨b,o,none⟩)),(1,.slice a1 l2 k3),(5,.pointer (some ⟨n4,0,none⟩)),(6,.int .i64 x5),(7,.int .i64 x6),(9,.int .i64 x7),(42,.slice a8 l9 k10),(43,.int .i64 x11),(44,.int .i64 x12)] m:=
 Eq.mpr (by kernel_rfl) h
def k_huffmanDecoder_init_rrrrrrrrrrrr:List Nat:=[0,1,10,11]
theorem p_huffmanDecoder_init_rrrrrrrrrrrr (b o:Nat) (a1:Option Addr) (l2:Nat) (k3:Nat) (x4:Int) (n5:Nat) (m:Mem) (K:Kont)
  (h:WPS PP 317 c_huffmanDecoder_init_rrrrrrrrrrrrlrl ((K.withN fun r m=>WPS PP 317 c_huffmanDecoder_init_rrrrrrrrrrrrr K r m).withX 6) [(0,.pointer (some ⟨b,o,none⟩)),(1,.slice a1 l2 k3),(10,.int .i64 x4),(11,.pointer (some ⟨n5,0,none⟩)),(168,.slice a1 l2 k3),(169,.int .i64 (l2:Int)),(170,.int .i64 0)] m):
  wpc PP FF 317 L_huffmanDecoder_init c_huffmanDecoder_init_rrrrrrrrrrrr K [(0,.pointer (some ⟨b,o,none⟩)),(1,.slice a1 l2 k3),(10,.int .i64 x4),(11,.pointer (some ⟨n5,0,none⟩))] m:=
 Eq.mpr (by kernel_rfl) h
def k_huffmanDecoder_init_rrrrrrrrrrrrr:List Nat:=[0,10]
theorem p_huffmanDecoder_init_rrrrrrrrrrrrr (b o:Nat) (x1:Int) (m:Mem) (K:Kont)
  (h:WPS PP 317 c_huffmanDecoder_init_rrrrrrrrrrrrrr K [(0,.pointer (some ⟨b,o,none⟩)),(10,.int .i64 x1)] m):
  wpc PP FF 317 L_huffmanDecoder_init c_huffmanDecoder_init_rrrrrrrrrrrrr K [(0,.pointer (some ⟨b,o,none⟩)),(10,.int .i64 x1)] m:=
 Eq.mpr (by kernel_rfl) h
def k_huffmanDecoder_init_rrrrrrrrrrrrrr:List Nat:=[]
theorem p_huffmanDecoder_init_rrrrrrrrrrrrrr  (m:Mem) (K:Kont)
  (h:K.kr [(4,.bool true)] m  ):
  wpc PP FF 317 L_huffmanDecoder_init c_huffmanDecoder_init_rrrrrrrrrrrrrr K [] m:=
 Eq.mpr (by kernel_rfl) h
def L_decompressor_huffSym:List Nat:=[0,1,4,5,6,7,8,9,10,11,27,37,75,98,100]
def r_decompressor_huffSym:List ResultVar:=[.tmp 4,.tmp 5]
noncomputable def c_decompressor_huffSym:Code:=(Go.Proofs.Tryz.f54.body).getD .skip
theorem b_decompressor_huffSym:Go.Proofs.Tryz.f54.body=some c_decompressor_huffSym:=by kernel_rfl
noncomputable def c_decompressor_huffSym_rrrl:Code:=(lft (rgt (rgt (rgt c_decompressor_huffSym))))
noncomputable def c_decompressor_huffSym_rrrll:Code:=(lft c_decompressor_huffSym_rrrl)
noncomputable def c_decompressor_huffSym_rrrlllr:Code:=(rgt (lft c_decompressor_huffSym_rrrll))
noncomputable def c_decompressor_huffSym_rrrlllll:Code:=(lft (lft (lft c_decompressor_huffSym_rrrll)))
noncomputable def c_decompressor_huffSym_rrrllllll:Code:=(lft c_decompressor_huffSym_rrrlllll)
noncomputable def c_decompressor_huffSym_rrrlllrrrr:Code:=(rgt (rgt (rgt c_decompressor_huffSym_rrrlllr)))
theorem q_decompressor_huffSym_rrrl:c_decompressor_huffSym_rrrl=.loop c_decompressor_huffSym_rrrll:=by kernel_rfl
theorem q_decompressor_huffSym_rrrlllll:c_decompressor_huffSym_rrrlllll=.loop c_decompressor_huffSym_rrrllllll:=by kernel_rfl
theorem e_decompressor_huffSym (f:Nat) (p1:Option Addr) (m:Mem) (R:Value→Mem→Prop)
  (h:onSome p1 fun p2=>∃ x3,cell? m p2=some (.int .i64 x3)∧∃ x4,cell? m ⟨f,4,none⟩=some (.int .u64 x4)∧∃ x5,cell? m ⟨f,3,none⟩=some (.int .u32 x5)∧WPS PP 137 c_decompressor_huffSym_rrrl ((retK PP r_decompressor_huffSym R).withX 0) [(0,.pointer (some ⟨f,0,none⟩)),(1,.pointer p1),(4,.int .i64 0),(5,.nilIface),(6,.int .u64 (IntKind.wrap .u64 x3)),(7,.int .u64 x4),(8,.int .u32 x5)] m):
  CallM PP f_decompressor_huffSym #[.pointer (some ⟨f,0,none⟩),.pointer p1] m R:=
 callM_enter ffOk mixedOk 137 L_decompressor_huffSym Tryz.func54 b_decompressor_huffSym Tryz.ntmps54 (by simp) (Eq.mpr (by kernel_rfl) h)
theorem p_decompressor_huffSym_rrrll (f:Nat) (p1:Option Addr) (x2:Int) (x3:Int) (x4:Int) (m:Mem) (K:Kont)
  (h:WPS PP 137 c_decompressor_huffSym_rrrlllll (((K.withX 1).withN fun r m=>WPS PP 137 c_decompressor_huffSym_rrrlllr (K.withX 1) r m).withX 2) [(0,.pointer (some ⟨f,0,none⟩)),(1,.pointer p1),(6,.int .u64 x2),(7,.int .u64 x3),(8,.int .u32 x4)] m):
  wpc PP FF 137 L_decompressor_huffSym c_decompressor_huffSym_rrrll K [(0,.pointer (some ⟨f,0,none⟩)),(1,.pointer p1),(6,.int .u64 x2),(7,.int .u64 x3),(8,.int .u32 x4)] m:=
 Eq.mpr (by kernel_rfl) h
theorem p_decompressor_huffSym_rrrllllll (f:Nat) (p1:Option Addr) (x2:Int) (x3:Int) (x4:Int) (m:Mem) (K:Kont)
  (h:ifB (decide (x3 < x2)) (∃ v5,cell? m ⟨f,0,none⟩=some (v5)∧SemW PP (callMethod v5 "ReadByte" #[]) m (NextW PP fun v8 m9=>∃ x6 v7,v8=.tuple #[.int .u8 x6,v7]∧isIfc v7=true∧ifB (!(isNil v7)) (StW m9 ⟨f,3,none⟩ (.int .u32 x4) fun m10=>StW m10 ⟨f,4,none⟩ (.int .u64 x3) fun m11=>CallM PP f_inflate_noEOF #[v7] m11 fun v13 m14=>∃ v12,v13=v12∧K.kr [(0,.pointer (some ⟨f,0,none⟩)),(1,.pointer p1),(4,.int .i64 0),(5,v12),(6,.int .u64 x2),(7,.int .u64 x3),(8,.int .u32 x4),(9,.int .u8 x6),(10,v7)] m14) (∃ x15,cell? m9 ⟨f,2,none⟩=some (.int .i64 x15)∧StW m9 ⟨f,2,none⟩ (.int .i64 (IntKind.wrap .i64 (x15+1))) fun m16=>IntKind.u64=IntKind.u64∧0≤(bitsOp .and .u64 x3 31)∧IntKind.u32=IntKind.u32∧K.kn [(0,.pointer (some ⟨f,0,none⟩)),(1,.pointer p1),(6,.int .u64 x2),(7,.int .u64 (IntKind.wrap .u64 (x3+8))),(8,.int .u32 (bitsOp .or .u32 x4 (shlOp .u32 (IntKind.wrap .u32 x6) (bitsOp .and .u64 x3 31)))),(9,.int .u8 x6),(10,v7)] m16))) (K.kx 2 [(0,.pointer (some ⟨f,0,none⟩)),(1,.pointer p1),(6,.int .u64 x2),(7,.int .u64 x3),(8,.int .u32 x4)] m)):
  wpc PP FF 137 L_decompressor_huffSym c_decompressor_huffSym_rrrllllll K [(0,.pointer (some ⟨f,0,none⟩)),(1,.pointer p1),(6,.int .u64 x2),(7,.int .u64 x3),(8,.int .u32 x4)] m:=
 Eq.mpr (by kernel_rfl) h
def k_decompressor_huffSym_rrrlllr:List Nat:=[0,1,7,8]
theorem p_decompressor_huffSym_rrrlllr (f:Nat) (p1:Option Addr) (x2:Int) (x3:Int) (m:Mem) (K:Kont)
  (h:IntKind.u32=IntKind.u32∧onSome p1 fun p4=>(0≤(bitsOp .and .u32 x3 511)∧(bitsOp .and .u32 x3 511) < ((512:Nat):Int))∧∃ x5,cell? m ⟨p4.block,p4.off+1+((bitsOp .and .u32 x3 511).toNat),none⟩=some (.int .u32 x5)∧IntKind.u32=IntKind.u32∧ifB (decide ((IntKind.wrap .u64 (bitsOp .and .u32 x5 15)) > 9)) (onSome p1 fun p6=>∃ a7 l8 k9,cell? m ⟨p6.block,p6.off+513,none⟩=some (.slice a7 l8 k9)∧0≤(4:Int)∧onSome a7 fun p10=>(0≤(shrOp .u32 x5 4)∧(shrOp .u32 x5 4) < (l8:Int))∧∃ a11 l12 k13,cell? m (aplus p10 ((shrOp .u32 x5 4).toNat))=some (.slice a11 l12 k13)∧0≤(9:Int)∧onSome p1 fun p14=>∃ x15,cell? m ⟨p14.block,p14.off+514,none⟩=some (.int .u32 x15)∧IntKind.u32=IntKind.u32∧onSome a11 fun p16=>(0≤(bitsOp .and .u32 (shrOp .u32 x3 9) x15)∧(bitsOp .and .u32 (shrOp .u32 x3 9) x15) < (l12:Int))∧∃ x17,cell? m (aplus p16 ((bitsOp .and .u32 (shrOp .u32 x3 9) x15).toNat))=some (.int .u32 x17)∧IntKind.u32=IntKind.u32∧WPS PP 137 c_decompressor_huffSym_rrrlllrrrr K [(0,.pointer (some ⟨f,0,none⟩)),(1,.pointer p1),(6,.int .u64 (IntKind.wrap .u64 (bitsOp .and .u32 x17 15))),(7,.int .u64 x2),(8,.int .u32 x3),(11,.int .u32 x17)] m) (WPS PP 137 c_decompressor_huffSym_rrrlllrrrr K [(0,.pointer (some ⟨f,0,none⟩)),(1,.pointer p1),(6,.int .u64 (IntKind.wrap .u64 (bitsOp .and .u32 x5 15))),(7,.int .u64 x2),(8,.int .u32 x3),(11,.int .u32 x5)] m)):
  wpc PP FF 137 L_decompressor_huffSym c_decompressor_huffSym_rrrlllr K [(0,.pointer (some ⟨f,0,none⟩)),(1,.pointer p1),(7,.int .u64 x2),(8,.int .u32 x3)] m:=
 Eq.mpr (by kernel_rfl) h
def k_decompressor_huffSym_rrrlllrrrr:List Nat:=[0,1,6,7,8,11]
theorem p_decompressor_huffSym_rrrlllrrrr (f:Nat) (p1:Option Addr) (x2:Int) (x3:Int) (x4:Int) (x5:Int) (m:Mem) (K:Kont)
  (h:ifB (decide (x2≤x3)) (ifB (x2 == 0) (StW m ⟨f,3,none⟩ (.int .u32 x4) fun m6=>StW m6 ⟨f,4,none⟩ (.int .u64 x3) fun m7=>∃ x8,cell? m7 ⟨f,2,none⟩=some (.int .i64 x8)∧StW m7 ⟨f,1048,none⟩ (.iface t_flate_CorruptInputError (.int .i64 x8)) fun m9=>∃ v10,cell? m9 ⟨f,1048,none⟩=some (v10)∧K.kr [(0,.pointer (some ⟨f,0,none⟩)),(1,.pointer p1),(4,.int .i64 0),(5,v10),(6,.int .u64 x2),(7,.int .u64 x3),(8,.int .u32 x4),(11,.int .u32 x5)] m9) (IntKind.u64=IntKind.u64∧0≤(bitsOp .and .u64 x2 31)∧StW m ⟨f,3,none⟩ (.int .u32 (shrOp .u32 x4 (bitsOp .and .u64 x2 31))) fun m11=>StW m11 ⟨f,4,none⟩ (.int .u64 (IntKind.wrap .u64 (x3 - x2))) fun m12=>0≤(4:Int)∧K.kr [(0,.pointer (some ⟨f,0,none⟩)),(1,.pointer p1),(4,.int .i64 (IntKind.wrap .i64 (shrOp .u32 x5 4))),(5,.nilIface),(6,.int .u64 x2),(7,.int .u64 x3),(8,.int .u32 x4),(11,.int .u32 x5)] m12)) (K.kn [(0,.pointer (some ⟨f,0,none⟩)),(1,.pointer p1),(6,.int .u64 x2),(7,.int .u64 x3),(8,.int .u32 x4),(11,.int .u32 x5)] m)):
  wpc PP FF 137 L_decompressor_huffSym c_decompressor_huffSym_rrrlllrrrr K [(0,.pointer (some ⟨f,0,none⟩)),(1,.pointer p1),(6,.int .u64 x2),(7,.int .u64 x3),(8,.int .u32 x4),(11,.int .u32 x5)] m:=
 Eq.mpr (by kernel_rfl) h
def L_dictDecoder_writeByte:List Nat:=[0,1]
def r_dictDecoder_writeByte:List ResultVar:=[]
noncomputable def c_dictDecoder_writeByte:Code:=(Go.Proofs.Tryz.f55.body).getD .skip
theorem b_dictDecoder_writeByte:Go.Proofs.Tryz.f55.body=some c_dictDecoder_writeByte:=by kernel_rfl
theorem e_dictDecoder_writeByte (f:Nat) (x1:Int) (m:Mem) (R:Value→Mem→Prop)
  (h:∃ a2 l3 k4,cell? m ⟨f,1037,none⟩=some (.slice a2 l3 k4)∧∃ x5,cell? m ⟨f,1038,none⟩=some (.int .i64 x5)∧onSome a2 fun p6=>(0≤x5∧x5 < (l3:Int))∧StW m (aplus p6 x5.toNat) (.int .u8 x1) fun m7=>∃ x8,cell? m7 ⟨f,1038,none⟩=some (.int .i64 x8)∧StW m7 ⟨f,1038,none⟩ (.int .i64 (IntKind.wrap .i64 (x8+1))) fun m9=>R (.tuple #[]) m9):
  CallM PP f_dictDecoder_writeByte #[.pointer (some ⟨f,1037,none⟩),.int .u8 x1] m R:=
 callM_enter ffOk mixedOk 21 L_dictDecoder_writeByte Tryz.func55 b_dictDecoder_writeByte Tryz.ntmps55 (by simp) (Eq.mpr (by kernel_rfl) h)
def L_dictDecoder_availWrite:List Nat:=[0,2]
def r_dictDecoder_availWrite:List ResultVar:=[.tmp 2]
noncomputable def c_dictDecoder_availWrite:Code:=(Go.Proofs.Tryz.f56.body).getD .skip
theorem b_dictDecoder_availWrite:Go.Proofs.Tryz.f56.body=some c_dictDecoder_availWrite:=by kernel_rfl
theorem e_dictDecoder_availWrite (f:Nat) (m:Mem) (R:Value→Mem→Prop)
  (h:∃ a1 l2 k3,cell? m ⟨f,1037,none⟩=some (.slice a1 l2 k3)∧∃ x4,cell? m ⟨f,1038,none⟩=some (.int .i64 x4)∧R (.int .i64 (IntKind.wrap .i64 ((l2:Int) - x4))) m  ):
  CallM PP f_dictDecoder_availWrite #[.pointer (some ⟨f,1037,none⟩)] m R:=
 callM_enter ffOk mixedOk 13 L_dictDecoder_availWrite Tryz.func56 b_dictDecoder_availWrite Tryz.ntmps56 (by simp) (Eq.mpr (by kernel_rfl) h)
def L_bits_Reverse8:List Nat:=[0,2]
def r_bits_Reverse8:List ResultVar:=[.tmp 2]
noncomputable def c_bits_Reverse8:Code:=(Go.Proofs.Tryz.f57.body).getD .skip
theorem b_bits_Reverse8:Go.Proofs.Tryz.f57.body=some c_bits_Reverse8:=by kernel_rfl
theorem e_bits_Reverse8 (x1:Int) (m:Mem) (R:Value→Mem→Prop)
  (h:PureW PP (Instr.index t_string (.string rev8) (.int .u8 x1)) fun u3=>∃ x2,u3=.int .u8 x2∧R (.int .u8 x2) m):
  CallM PP f_bits_Reverse8 #[.int .u8 x1] m R:=
 callM_enter ffOk mixedOk 5 L_bits_Reverse8 Tryz.func57 b_bits_Reverse8 Tryz.ntmps57 (by simp) (Eq.mpr (by kernel_rfl) h)
def L_dictDecoder_histSize:List Nat:=[0,2,6]
def r_dictDecoder_histSize:List ResultVar:=[.tmp 2]
noncomputable def c_dictDecoder_histSize:Code:=(Go.Proofs.Tryz.f58.body).getD .skip
theorem b_dictDecoder_histSize:Go.Proofs.Tryz.f58.body=some c_dictDecoder_histSize:=by kernel_rfl
theorem e_dictDecoder_histSize (f:Nat) (m:Mem) (R:Value→Mem→Prop)
  (h:∃ b1,cell? m ⟨f,1040,none⟩=some (.bool b1)∧ifB b1 (∃ a2 l3 k4,cell? m ⟨f,1037,none⟩=some (.slice a2 l3 k4)∧R (.int .i64 (l3:Int)) m) (∃ x5,cell? m ⟨f,1038,none⟩=some (.int .i64 x5)∧R (.int .i64 x5) m)  ):
  CallM PP f_dictDecoder_histSize #[.pointer (some ⟨f,1037,none⟩)] m R:=
 callM_enter ffOk mixedOk 16 L_dictDecoder_histSize Tryz.func58 b_dictDecoder_histSize Tryz.ntmps58 (by simp) (Eq.mpr (by kernel_rfl) h)
def L_dictDecoder_tryWriteCopy:List Nat:=[0,1,2,6,7,8,9,10,29,36]
def r_dictDecoder_tryWriteCopy:List ResultVar:=[.tmp 6]
noncomputable def c_dictDecoder_tryWriteCopy:Code:=(Go.Proofs.Tryz.f59.body).getD .skip
theorem b_dictDecoder_tryWriteCopy:Go.Proofs.Tryz.f59.body=some c_dictDecoder_tryWriteCopy:=by kernel_rfl
noncomputable def c_dictDecoder_tryWriteCopy_rrrrrrr:Code:=(rgt (rgt (rgt (rgt (rgt (rgt (rgt c_dictDecoder_tryWriteCopy)))))))
noncomputable def c_dictDecoder_tryWriteCopy_rrrrrrll:Code:=(lft (lft (rgt (rgt (rgt (rgt (rgt (rgt c_dictDecoder_tryWriteCopy))))))))
noncomputable def c_dictDecoder_tryWriteCopy_rrrrrrlll:Code:=(lft c_dictDecoder_tryWriteCopy_rrrrrrll)
theorem q_dictDecoder_tryWriteCopy_rrrrrrll:c_dictDecoder_tryWriteCopy_rrrrrrll=.loop c_dictDecoder_tryWriteCopy_rrrrrrlll:=by kernel_rfl
theorem e_dictDecoder_tryWriteCopy (f:Nat) (x1:Int) (x2:Int) (m:Mem) (R:Value→Mem→Prop)
  (h:∃ x3,cell? m ⟨f,1038,none⟩=some (.int .i64 x3)∧ifB (decide (x3 < x1)) (R (.int .i64 0) m) (∃ a4 l5 k6,cell? m ⟨f,1037,none⟩=some (.slice a4 l5 k6)∧ifB (decide ((IntKind.wrap .i64 (x3+x2)) > (l5:Int))) (R (.int .i64 0) m) (WPS PP 61 c_dictDecoder_tryWriteCopy_rrrrrrll (((retK PP r_dictDecoder_tryWriteCopy R).withN fun r m=>WPS PP 61 c_dictDecoder_tryWriteCopy_rrrrrrr (retK PP r_dictDecoder_tryWriteCopy R) r m).withX 0) [(0,.pointer (some ⟨f,1037,none⟩)),(1,.int .i64 x1),(2,.int .i64 x2),(6,.int .i64 0),(7,.int .i64 x3),(8,.int .i64 (IntKind.wrap .i64 (x3+x2))),(9,.int .i64 x3),(10,.int .i64 (IntKind.wrap .i64 (x3 - x1)))] m))):
  CallM PP f_dictDecoder_tryWriteCopy #[.pointer (some ⟨f,1037,none⟩),.int .i64 x1,.int .i64 x2] m R:=
 callM_enter ffOk mixedOk 61 L_dictDecoder_tryWriteCopy Tryz.func59 b_dictDecoder_tryWriteCopy Tryz.ntmps59 (by simp) (Eq.mpr (by kernel_rfl) h)
def k_dictDecoder_tryWriteCopy_rrrrrrr:List Nat:=[0,7,9]
theorem p_dictDecoder_tryWriteCopy_rrrrrrr (f:Nat) (x1:Int) (x2:Int) (m:Mem) (K:Kont)
  (h:StW m ⟨f,1038,none⟩ (.int .i64 x1) fun m3=>K.kr [(0,.pointer (some ⟨f,1037,none⟩)),(6,.int .i64 (IntKind.wrap .i64 (x1 - x2))),(7,.int .i64 x1),(9,.int .i64 x2)] m3):
  wpc PP FF 61 L_dictDecoder_tryWriteCopy c_dictDecoder_tryWriteCopy_rrrrrrr K [(0,.pointer (some ⟨f,1037,none⟩)),(7,.int .i64 x1),(9,.int .i64 x2)] m:=
 Eq.mpr (by kernel_rfl) h
theorem p_dictDecoder_tryWriteCopy_rrrrrrlll (f:Nat) (x1:Int) (x2:Int) (x3:Int) (x4:Int) (m:Mem) (K:Kont)
  (h:ifB (decide (x1 < x2)) (∃ a5 l6 k7,cell? m ⟨f,1037,none⟩=some (.slice a5 l6 k7)∧l6≤k7∧(0≤x2∧x2≤(k7:Int))∧(0≤x1∧x1≤x2)∧∃ a8 l9 k10,cell? m ⟨f,1037,none⟩=some (.slice a8 l9 k10)∧l9≤k10∧(0≤x1∧x1≤(k10:Int))∧(0≤x4∧x4≤x1)∧SemW PP (builtin .copy #[t_s_uint8,t_s_uint8] t_int #[false,false] #[.slice (subA a5 x1.toNat 1 k7) (x2.toNat - x1.toNat) (k7 - x1.toNat),.slice (subA a8 x4.toNat 1 k10) (x1.toNat - x4.toNat) (k10 - x4.toNat)]) m (NextW PP fun v12 m13=>∃ x11,v12=.int .i64 x11∧K.kn [(0,.pointer (some ⟨f,1037,none⟩)),(7,.int .i64 (IntKind.wrap .i64 (x1+x11))),(8,.int .i64 x2),(9,.int .i64 x3),(10,.int .i64 x4)] m13)) (K.kx 0 [(0,.pointer (some ⟨f,1037,none⟩)),(7,.int .i64 x1),(8,.int .i64 x2),(9,.int .i64 x3),(10,.int .i64 x4)] m)):
  wpc PP FF 61 L_dictDecoder_tryWriteCopy c_dictDecoder_tryWriteCopy_rrrrrrlll K [(0,.pointer (some ⟨f,1037,none⟩)),(7,.int .i64 x1),(8,.int .i64 x2),(9,.int .i64 x3),(10,.int .i64 x4)] m:=
 Eq.mpr (by kernel_rfl) h
def L_dictDecoder_writeCopy:List Nat:=[0,1,2,6,7,8,9,10,29,55]
def r_dictDecoder_writeCopy:List ResultVar:=[.tmp 6]
noncomputable def c_dictDecoder_writeCopy:Code:=(Go.Proofs.Tryz.f60.body).getD .skip
theorem b_dictDecoder_writeCopy:Go.Proofs.Tryz.f60.body=some c_dictDecoder_writeCopy:=by kernel_rfl
noncomputable def c_dictDecoder_writeCopy_rrrrrr:Code:=(rgt (rgt (rgt (rgt (rgt (rgt c_dictDecoder_writeCopy))))))
noncomputable def c_dictDecoder_writeCopy_rrrrrrr:Code:=(rgt c_dictDecoder_writeCopy_rrrrrr)
noncomputable def c_dictDecoder_writeCopy_rrrrrrll:Code:=(lft (lft c_dictDecoder_writeCopy_rrrrrr))
noncomputable def c_dictDecoder_writeCopy_rrrrrrlll:Code:=(lft c_dictDecoder_writeCopy_rrrrrrll)
theorem q_dictDecoder_writeCopy_rrrrrrll:c_dictDecoder_writeCopy_rrrrrrll=.loop c_dictDecoder_writeCopy_rrrrrrlll:=by kernel_rfl
theorem e_dictDecoder_writeCopy (f:Nat) (x1:Int) (x2:Int) (m:Mem) (R:Value→Mem→Prop)
  (h:∃ x3,cell? m ⟨f,1038,none⟩=some (.int .i64 x3)∧∃ a4 l5 k6,cell? m ⟨f,1037,none⟩=some (.slice a4 l5 k6)∧ifB (decide ((IntKind.wrap .i64 (x3 - x1)) < 0)) (∃ a7 l8 k9,cell? m ⟨f,1037,none⟩=some (.slice a7 l8 k9)∧∃ a10 l11 k12,cell? m ⟨f,1037,none⟩=some (.slice a10 l11 k12)∧l11≤k12∧(0≤(if (l5:Int) < IntKind.wrap .i64 (x3+x2) then (l5:Int) else IntKind.wrap .i64 (x3+x2))∧(if (l5:Int) < IntKind.wrap .i64 (x3+x2) then (l5:Int) else IntKind.wrap .i64 (x3+x2))≤(k12:Int))∧(0≤x3∧x3≤(if (l5:Int) < IntKind.wrap .i64 (x3+x2) then (l5:Int) else IntKind.wrap .i64 (x3+x2)))∧∃ a13 l14 k15,cell? m ⟨f,1037,none⟩=some (.slice a13 l14 k15)∧l14≤k15∧(0≤(IntKind.wrap .i64 ((IntKind.wrap .i64 (x3 - x1))+(l8:Int)))∧(IntKind.wrap .i64 ((IntKind.wrap .i64 (x3 - x1))+(l8:Int)))≤(l14:Int))∧SemW PP (builtin .copy #[t_s_uint8,t_s_uint8] t_int #[false,false] #[.slice (subA a10 x3.toNat 1 k12) ((if (l5:Int) < IntKind.wrap .i64 (x3+x2) then (l5:Int) else IntKind.wrap .i64 (x3+x2)).toNat - x3.toNat) (k12 - x3.toNat),.slice (subA a13 ((IntKind.wrap .i64 ((IntKind.wrap .i64 (x3 - x1))+(l8:Int))).toNat) 1 k15) (l14 - ((IntKind.wrap .i64 ((IntKind.wrap .i64 (x3 - x1))+(l8:Int))).toNat)) (k15 - ((IntKind.wrap .i64 ((IntKind.wrap .i64 (x3 - x1))+(l8:Int))).toNat))]) m (NextW PP fun v17 m18=>∃ x16,v17=.int .i64 x16∧WPS PP 80 c_dictDecoder_writeCopy_rrrrrr (retK PP r_dictDecoder_writeCopy R) [(0,.pointer (some ⟨f,1037,none⟩)),(1,.int .i64 x1),(2,.int .i64 x2),(6,.int .i64 0),(7,.int .i64 x3),(8,.int .i64 (IntKind.wrap .i64 (x3+x16))),(9,.int .i64 0),(10,.int .i64 (if (l5:Int) < IntKind.wrap .i64 (x3+x2) then (l5:Int) else IntKind.wrap .i64 (x3+x2)))] m18)) (WPS PP 80 c_dictDecoder_writeCopy_rrrrrr (retK PP r_dictDecoder_writeCopy R) [(0,.pointer (some ⟨f,1037,none⟩)),(1,.int .i64 x1),(2,.int .i64 x2),(6,.int .i64 0),(7,.int .i64 x3),(8,.int .i64 x3),(9,.int .i64 (IntKind.wrap .i64 (x3 - x1))),(10,.int .i64 (if (l5:Int) < IntKind.wrap .i64 (x3+x2) then (l5:Int) else IntKind.wrap .i64 (x3+x2)))] m)):
  CallM PP f_dictDecoder_writeCopy #[.pointer (some ⟨f,1037,none⟩),.int .i64 x1,.int .i64 x2] m R:=
 callM_enter ffOk mixedOk 80 L_dictDecoder_writeCopy Tryz.func60 b_dictDecoder_writeCopy Tryz.ntmps60 (by simp) (Eq.mpr (by kernel_rfl) h)
theorem p_dictDecoder_writeCopy_rrrrrr (f:Nat) (x1:Int) (x2:Int) (x3:Int) (x4:Int) (m:Mem) (K:Kont)
  (h:WPS PP 80 c_dictDecoder_writeCopy_rrrrrrll ((K.withN fun r m=>WPS PP 80 c_dictDecoder_writeCopy_rrrrrrr K r m).withX 0) [(0,.pointer (some ⟨f,1037,none⟩)),(7,.int .i64 x1),(8,.int .i64 x2),(9,.int .i64 x3),(10,.int .i64 x4)] m):
  wpc PP FF 80 L_dictDecoder_writeCopy c_dictDecoder_writeCopy_rrrrrr K [(0,.pointer (some ⟨f,1037,none⟩)),(7,.int .i64 x1),(8,.int .i64 x2),(9,.int .i64 x3),(10,.int .i64 x4)] m:=
 Eq.mpr (by kernel_rfl) h
theorem p_dictDecoder_writeCopy_rrrrrrlll (f:Nat) (x1:Int) (x2:Int) (x3:Int) (x4:Int) (m:Mem) (K:Kont)
  (h:ifB (decide (x2 < x4)) (∃ a5 l6 k7,cell? m ⟨f,1037,none⟩=some (.slice a5 l6 k7)∧l6≤k7∧(0≤x4∧x4≤(k7:Int))∧(0≤x2∧x2≤x4)∧∃ a8 l9 k10,cell? m ⟨f,1037,none⟩=some (.slice a8 l9 k10)∧l9≤k10∧(0≤x2∧x2≤(k10:Int))∧(0≤x3∧x3≤x2)∧SemW PP (builtin .copy #[t_s_uint8,t_s_uint8] t_int #[false,false] #[.slice (subA a5 x2.toNat 1 k7) (x4.toNat - x2.toNat) (k7 - x2.toNat),.slice (subA a8 x3.toNat 1 k10) (x2.toNat - x3.toNat) (k10 - x3.toNat)]) m (NextW PP fun v12 m13=>∃ x11,v12=.int .i64 x11∧K.kn [(0,.pointer (some ⟨f,1037,none⟩)),(7,.int .i64 x1),(8,.int .i64 (IntKind.wrap .i64 (x2+x11))),(9,.int .i64 x3),(10,.int .i64 x4)] m13)) (K.kx 0 [(0,.pointer (some ⟨f,1037,none⟩)),(7,.int .i64 x1),(8,.int .i64 x2),(9,.int .i64 x3),(10,.int .i64 x4)] m)):
  wpc PP FF 80 L_dictDecoder_writeCopy c_dictDecoder_writeCopy_rrrrrrlll K [(0,.pointer (some ⟨f,1037,none⟩)),(7,.int .i64 x1),(8,.int .i64 x2),(9,.int .i64 x3),(10,.int .i64 x4)] m:=
 Eq.mpr (by kernel_rfl) h
def k_dictDecoder_writeCopy_rrrrrrr:List Nat:=[0,7,8]
theorem p_dictDecoder_writeCopy_rrrrrrr (f:Nat) (x1:Int) (x2:Int) (m:Mem) (K:Kont)
  (h:StW m ⟨f,1038,none⟩ (.int .i64 x2) fun m3=>K.kr [(0,.pointer (some ⟨f,1037,none⟩)),(6,.int .i64 (IntKind.wrap .i64 (x2 - x1))),(7,.int .i64 x1),(8,.int .i64 x2)] m3):
  wpc PP FF 80 L_dictDecoder_writeCopy c_dictDecoder_writeCopy_rrrrrrr K [(0,.pointer (some ⟨f,1037,none⟩)),(7,.int .i64 x1),(8,.int .i64 x2)] m:=
 Eq.mpr (by kernel_rfl) h
def L_errors_as:List Nat:=[0,1,2,3,6,8,9,10,11,12,14,19,35,36,38,39,43,45,46,48,49,50,51,55,60]
def r_errors_as:List ResultVar:=[.tmp 8]
noncomputable def c_errors_as:Code:=(Go.Proofs.Tryz.f64.body).getD .skip
theorem b_errors_as:Go.Proofs.Tryz.f64.body=some c_errors_as:=by kernel_rfl
noncomputable def c_errors_as_rl:Code:=(lft (rgt c_errors_as))
noncomputable def c_errors_as_rll:Code:=(lft c_errors_as_rl)
noncomputable def c_errors_as_rlllr:Code:=(rgt (lft c_errors_as_rll))
noncomputable def c_errors_as_rlllrrrlrrrlrlrl:Code:=(lft (rgt (lft (rgt (lft (rgt (rgt (rgt (lft (rgt (rgt c_errors_as_rlllr)))))))))))
noncomputable def c_errors_as_rlllrrrlrrrlrlrll:Code:=(lft c_errors_as_rlllrrrlrrrlrlrl)
noncomputable def c_errors_as_rlllrrrlrrrlrlrllrrr:Code:=(rgt (rgt (rgt c_errors_as_rlllrrrlrrrlrlrll)))
theorem q_errors_as_rl:c_errors_as_rl=.loop c_errors_as_rll:=by kernel_rfl
theorem q_errors_as_rlllrrrlrrrlrlrl:c_errors_as_rlllrrrlrrrlrlrl=.loop c_errors_as_rlllrrrlrrrlrlrll:=by kernel_rfl
theorem e_errors_as (v1:Value) (v2:Value) (p3:Option Addr) (v4:Value) (x5:Int) (v6:Value) (m:Mem) (R:Value→Mem→Prop)
  (h:BoxW t_reflectlite_Value (.agg #[.pointer p3,v4,.int .u64 x5]) m fun n7 m8=>WPS PP 62 c_errors_as_rl ((retK PP r_errors_as R).withX 0) [(0,v1),(1,v2),(2,.agg #[.pointer p3,v4,.int .u64 x5]),(3,v6),(6,.pointer (some ⟨n7,0,none⟩)),(8,.bool false)] m8):
  CallM PP f_errors_as #[v1,v2,.agg #[.pointer p3,v4,.int .u64 x5],v6] m R:=
 callM_enter ffOk mixedOk 62 L_errors_as Tryz.func64 b_errors_as Tryz.ntmps64 (by simp) (Eq.mpr (by kernel_rfl) h)
theorem p_errors_as_rll (v1:Value) (v2:Value) (v3:Value) (n4:Nat) (m:Mem) (K:Kont)
  (h:SemW PP (callVal (.func (.func f_reflectlite_TypeOf) #[] #[]) #[v1]) m (NextW PP fun v6 m7=>∃ v5,v6=v5∧SemW PP (callMethod v5 "AssignableTo" #[v3]) m7 (NextW PP fun v9 m10=>∃ b8,v9=.bool b8∧ifB b8 (∃ p11 v12 x13,([.pointer p11,v12,.int .u64 x13]:List Value).length=3∧CellsAre m10 ⟨n4,0,none⟩ 0 [.pointer p11,v12,.int .u64 x13]∧SemW PP (callVal (.func (.func f_reflectlite_Value_Elem) #[] #[]) #[.agg #[.pointer p11,v12,.int .u64 x13]]) m10 (NextW PP fun v15 m16=>∃ v14,v15=v14∧SemW PP (callVal (.func (.func f_reflectlite_ValueOf) #[] #[]) #[v1]) m16 (NextW PP fun v18 m19=>∃ v17,v18=v17∧SemW PP (callVal (.func (.func f_reflectlite_Value_Set) #[] #[]) #[v14,v17]) m19 (NextW PP fun v20 m21=>v20=.tuple #[]∧K.kr [(0,v1),(1,v2),(3,v3),(6,.pointer (some ⟨n4,0,none⟩)),(8,.bool true)] m21)))) (wpc PP FF 62 L_errors_as c_errors_as_rlllr (K.withX 1) [(0,v1),(1,v2),(3,v3),(6,.pointer (some ⟨n4,0,none⟩))] m10)))):
  wpc PP FF 62 L_errors_as c_errors_as_rll K [(0,v1),(1,v2),(3,v3),(6,.pointer (some ⟨n4,0,none⟩))] m:=
 Eq.mpr (by kernel_rfl) h
theorem p_errors_as_rlllrrrlrrrlrlrll (v1:Value) (v2:Value) (n3:Nat) (a4:Option Addr) (l5:Nat) (k6:Nat) (x7:Int) (x8:Int) (m:Mem) (K:Kont)
  (h:ifB (decide (x8 < x7)) (onSome a4 fun p9=>(0≤x8∧x8 < (l5:Int))∧∃ v10,cell? m (aplus p9 x8.toNat)=some (v10)∧isIfc v10=true∧ifB (isNil v10) (WPS PP 62 c_errors_as_rlllrrrlrrrlrlrllrrr K [(1,v1),(3,v2),(6,.pointer (some ⟨n3,0,none⟩)),(14,v10),(48,.slice a4 l5 k6),(49,.int .i64 x7),(50,.int .i64 x8)] m) (∃ p11 v12 x13,([.pointer p11,v12,.int .u64 x13]:List Value).length=3∧CellsAre m ⟨n3,0,none⟩ 0 [.pointer p11,v12,.int .u64 x13]∧CallM PP f_errors_as #[v10,v1,.agg #[.pointer p11,v12,.int .u64 x13],v2] m fun v15 m16=>∃ b14,v15=.bool b14∧ifB b14 (K.kr [(1,v1),(3,v2),(6,.pointer (some ⟨n3,0,none⟩)),(8,.bool true),(14,v10),(48,.slice a4 l5 k6),(49,.int .i64 x7),(50,.int .i64 x8)] m16) (WPS PP 62 c_errors_as_rlllrrrlrrrlrlrllrrr K [(1,v1),(3,v2),(6,.pointer (some ⟨n3,0,none⟩)),(14,v10),(48,.slice a4 l5 k6),(49,.int .i64 x7),(50,.int .i64 x8)] m16))) (K.kx 3 [(1,v1),(3,v2),(6,.pointer (some ⟨n3,0,none⟩)),(48,.slice a4 l5 k6),(49,.int .i64 x7),(50,.int .i64 x8)] m)):
  wpc PP FF 62 L_errors_as c_errors_as_rlllrrrlrrrlrlrll K [(1,v1),(3,v2),(6,.pointer (some ⟨n3,0,none⟩)),(48,.slice a4 l5 k6),(49,.int .i64 x7),(50,.int .i64 x8)] m:=
 Eq.mpr (by kernel_rfl) h
theorem p_errors_as_rlllrrrlrrrlrlrllrrr (v1:Value) (v2:Value) (n3:Nat) (a4:Option Addr) (l5:Nat) (k6:Nat) (x7:Int) (x8:Int) (m:Mem) (K:Kont)
  (h:K.kn [(1,v1),(3,v2),(6,.pointer (some ⟨n3,0,none⟩)),(48,.slice a4 l5 k6),(49,.int .i64 x7),(50,.int .i64 (IntKind.wrap .i64 (x8+1)))] m):
  wpc PP FF 62 L_errors_as c_errors_as_rlllrrrlrrrlrlrllrrr K [(1,v1),(3,v2),(6,.pointer (some ⟨n3,0,none⟩)),(48,.slice a4 l5 k6),(49,.int .i64 x7),(50,.int .i64 x8)] m:=
 Eq.mpr (by kernel_rfl) h
def L_spec_Codes:List Nat:=[0,2,3,4,5,6,7,12,17,18,19,20,26]
def r_spec_Codes:List ResultVar:=[.tmp 2]
noncomputable def c_spec_Codes:Code:=(Go.Proofs.Tryz.f65.body).getD .skip
theorem b_spec_Codes:Go.Proofs.Tryz.f65.body=some c_spec_Codes:=by kernel_rfl
noncomputable def c_spec_Codes_rrrr:Code:=(rgt (rgt (rgt (rgt c_spec_Codes))))
noncomputable def c_spec_Codes_rrrlrl:Code:=(lft (rgt (lft (rgt (rgt (rgt c_spec_Codes))))))
noncomputable def c_spec_Codes_rrrlrll:Code:=(lft c_spec_Codes_rrrlrl)
noncomputable def c_spec_Codes_rrrlrllrr:Code:=(rgt (rgt c_spec_Codes_rrrlrll))
noncomputable def c_spec_Codes_rrrlrllrllrrl:Code:=(lft (rgt (rgt (lft (lft (rgt c_spec_Codes_rrrlrll))))))
noncomputable def c_spec_Codes_rrrlrllrllrrll:Code:=(lft c_spec_Codes_rrrlrllrllrrl)
noncomputable def c_spec_Codes_rrrlrllrllrrllrrr:Code:=(rgt (rgt (rgt c_spec_Codes_rrrlrllrllrrll)))
theorem q_spec_Codes_rrrlrl:c_spec_Codes_rrrlrl=.loop c_spec_Codes_rrrlrll:=by kernel_rfl
theorem q_spec_Codes_rrrlrllrllrrl:c_spec_Codes_rrrlrllrllrrl=.loop c_spec_Codes_rrrlrllrllrrll:=by kernel_rfl
theorem e_spec_Codes (a1:Option Addr) (l2:Nat) (k3:Nat) (m:Mem) (R:Value→Mem→Prop)
  (h:SemW PP (sv (Instr.makeSlice t_s_int (.int .i64 (l2:Int)) (.int .i64 (l2:Int)))) m (NextW PP fun v7 m8=>∃ a4 l5 k6,v7=.slice a4 l5 k6∧WPS PP 35 c_spec_Codes_rrrlrl (((retK PP r_spec_Codes R).withN fun r m=>WPS PP 35 c_spec_Codes_rrrr (retK PP r_spec_Codes R) r m).withX 0) [(0,.slice a1 l2 k3),(2,.slice none 0 0),(3,.slice a4 l5 k6),(4,.int .i64 0),(5,.int .i64 1)] m8)):
  CallM PP f_spec_Codes #[.slice a1 l2 k3] m R:=
 callM_enter ffOk mixedOk 35 L_spec_Codes Tryz.func65 b_spec_Codes Tryz.ntmps65 (by simp) (Eq.mpr (by kernel_rfl) h)
theorem p_spec_Codes_rrrr (a1:Option Addr) (l2:Nat) (k3:Nat) (m:Mem) (K:Kont)
  (h:K.kr [(2,.slice a1 l2 k3),(3,.slice a1 l2 k3)] m):
  wpc PP FF 35 L_spec_Codes c_spec_Codes_rrrr K [(3,.slice a1 l2 k3)] m:=
 Eq.mpr (by kernel_rfl) h
theorem p_spec_Codes_rrrlrll (a1:Option Addr) (l2:Nat) (k3:Nat) (a4:Option Addr) (l5:Nat) (k6:Nat) (x7:Int) (x8:Int) (m:Mem) (K:Kont)
  (h:ifB (decide (x8≤15)) (WPS PP 35 c_spec_Codes_rrrlrllrllrrl (((K.withN fun r m=>WPS PP 35 c_spec_Codes_rrrlrllrr K r m).withX 1).withX 2) [(0,.slice a1 l2 k3),(3,.slice a4 l5 k6),(4,.int .i64 (IntKind.wrap .i64 (x7 * 2))),(5,.int .i64 x8),(17,.slice a1 l2 k3),(18,.int .i64 (l2:Int)),(19,.int .i64 0)] m) (K.kx 0 [(0,.slice a1 l2 k3),(3,.slice a4 l5 k6),(4,.int .i64 x7),(5,.int .i64 x8)] m)):
  wpc PP FF 35 L_spec_Codes c_spec_Codes_rrrlrll K [(0,.slice a1 l2 k3),(3,.slice a4 l5 k6),(4,.int .i64 x7),(5,.int .i64 x8)] m:=
 Eq.mpr (by kernel_rfl) h
theorem p_spec_Codes_rrrlrllrllrrll (a1:Option Addr) (l2:Nat) (k3:Nat) (a4:Option Addr) (l5:Nat) (k6:Nat) (x7:Int) (x8:Int) (a9:Option Addr) (l10:Nat) (k11:Nat) (x12:Int) (x13:Int) (m:Mem) (K:Kont)
  (h:ifB (decide (x13 < x12)) (onSome a9 fun p14=>(0≤x13∧x13 < (l10:Int))∧∃ x15,cell? m (aplus p14 x13.toNat)=some (.int .i64 x15)∧ifB (x15 == x8) (onSome a4 fun p16=>(0≤x13∧x13 < (l5:Int))∧StW m (aplus p16 x13.toNat) (.int .i64 x7) fun m17=>WPS PP 35 c_spec_Codes_rrrlrllrllrrllrrr K [(0,.slice a1 l2 k3),(3,.slice a4 l5 k6),(4,.int .i64 (IntKind.wrap .i64 (x7+1))),(5,.int .i64 x8),(6,.int .i64 x13),(7,.int .i64 x15),(17,.slice a9 l10 k11),(18,.int .i64 x12),(19,.int .i64 x13)] m17) (WPS PP 35 c_spec_Codes_rrrlrllrllrrllrrr K [(0,.slice a1 l2 k3),(3,.slice a4 l5 k6),(4,.int .i64 x7),(5,.int .i64 x8),(6,.int .i64 x13),(7,.int .i64 x15),(17,.slice a9 l10 k11),(18,.int .i64 x12),(19,.int .i64 x13)] m)) (K.kx 2 [(0,.slice a1 l2 k3),(3,.slice a4 l5 k6),(4,.int .i64 x7),(5,.int .i64 x8),(17,.slice a9 l10 k11),(18,.int .i64 x12),(19,.int .i64 x13)] m)):
  wpc PP FF 35 L_spec_Codes c_spec_Codes_rrrlrllrllrrll K [(0,.slice a1 l2 k3),(3,.slice a4 l5 k6),(4,.int .i64 x7),(5,.int .i64 x8),(17,.slice a9 l10 k11),(18,.int .i64 x12),(19,.int .i64 x13)] m:=
 Eq.mpr (by kernel_rfl) h
theorem p_spec_Codes_rrrlrllrr (a1:Option Addr) (l2:Nat) (k3:Nat) (a4:Option Addr) (l5:Nat) (k6:Nat) (x7:Int) (x8:Int) (m:Mem) (K:Kont)
  (h:K.kn [(0,.slice a1 l2 k3),(3,.slice a4 l5 k6),(4,.int .i64 x7),(5,.int .i64 (IntKind.wrap .i64 (x8+1)))] m):
  wpc PP FF 35 L_spec_Codes c_spec_Codes_rrrlrllrr K [(0,.slice a1 l2 k3),(3,.slice a4 l5 k6),(4,.int .i64 x7),(5,.int .i64 x8)] m:=
 Eq.mpr (by kernel_rfl) h
theorem p_spec_Codes_rrrlrllrllrrllrrr (a1:Option Addr) (l2:Nat) (k3:Nat) (a4:Option Addr) (l5:Nat) (k6:Nat) (x7:Int) (x8:Int) (a9:Option Addr) (l10:Nat) (k11:Nat) (x12:Int) (x13:Int) (m:Mem) (K:Kont)
  (h:K.kn [(0,.slice a1 l2 k3),(3,.slice a4 l5 k6),(4,.int .i64 x7),(5,.int .i64 x8),(17,.slice a9 l10 k11),(18,.int .i64 x12),(19,.int .i64 (IntKind.wrap .i64 (x13+1)))] m):
  wpc PP FF 35 L_spec_Codes c_spec_Codes_rrrlrllrllrrllrrr K [(0,.slice a1 l2 k3),(3,.slice a4 l5 k6),(4,.int .i64 x7),(5,.int .i64 x8),(17,.slice a9 l10 k11),(18,.int .i64 x12),(19,.int .i64 x13)] m:=
 Eq.mpr (by kernel_rfl) h
def L_spec_leads:List Nat:=[0,1,4,5,7,9,14,19]
def r_spec_leads:List ResultVar:=[.tmp 4]
noncomputable def c_spec_leads:Code:=(Go.Proofs.Tryz.f66.body).getD .skip
theorem b_spec_leads:Go.Proofs.Tryz.f66.body=some c_spec_leads:=by kernel_rfl
noncomputable def c_spec_leads_rr:Code:=(rgt (rgt c_spec_leads))
noncomputable def c_spec_leads_rlrl:Code:=(lft (rgt (lft (rgt c_spec_leads))))
noncomputable def c_spec_leads_rlrll:Code:=(lft c_spec_leads_rlrl)
noncomputable def c_spec_leads_rlrllrrlrr:Code:=(rgt (rgt (lft (rgt (rgt c_spec_leads_rlrll)))))
noncomputable def c_spec_leads_rlrllrrlrll:Code:=(lft (lft (rgt (lft (rgt (rgt c_spec_leads_rlrll))))))
noncomputable def c_spec_leads_rlrllrrlrlll:Code:=(lft c_spec_leads_rlrllrrlrll)
theorem q_spec_leads_rlrl:c_spec_leads_rlrl=.loop c_spec_leads_rlrll:=by kernel_rfl
theorem q_spec_leads_rlrllrrlrll:c_spec_leads_rlrllrrlrll=.loop c_spec_leads_rlrllrrlrlll:=by kernel_rfl
theorem e_spec_leads (r1:Option Nat) (x2:Int) (m:Mem) (R:Value→Mem→Prop)
  (h:SemW PP (sv (Instr.range t_map_int_int (.map r1))) m (NextW PP fun u4 m5=>∃ a3,u4=.pointer a3∧WPS PP 20 c_spec_leads_rlrl (((retK PP r_spec_leads R).withN fun r m=>WPS PP 20 c_spec_leads_rr (retK PP r_spec_leads R) r m).withX 0) [(0,.map r1),(1,.int .i64 x2),(4,.bool false),(7,.pointer a3)] m5)):
  CallM PP f_spec_leads #[.map r1,.int .i64 x2] m R:=
 callM_enter ffOk mixedOk 20 L_spec_leads Tryz.func66 b_spec_leads Tryz.ntmps66 (by simp) (Eq.mpr (by kernel_rfl) h)
theorem p_spec_leads_rr  (m:Mem) (K:Kont)
  (h:K.kr [(4,.bool false)] m  ):
  wpc PP FF 20 L_spec_leads c_spec_leads_rr K [] m:=
 Eq.mpr (by kernel_rfl) h
theorem p_spec_leads_rlrll (x1:Int) (p2:Option Addr) (m:Mem) (K:Kont)
  (h:SemW PP (sv (Instr.next (.pointer p2) false 0)) m (NextW PP fun u3 m4=>(u3=.tuple #[.bool false]∧K.kx 0 [(1,.int .i64 x1),(7,.pointer p2)] m4)∨∃ (v5:Value) (v6:Value),u3=.tuple #[.bool true,v5,v6]∧SemW PP (sv (Instr.entry (.pointer p2))) m4 (NextW PP fun u7 m8=>∃ (x9:Int) (v10:Value),u7=.tuple #[.int .i64 x9,v10]∧WPS PP 20 c_spec_leads_rlrllrrlrll (((K.withX 1).withN fun r m=>WPS PP 20 c_spec_leads_rlrllrrlrr (K.withX 1) r m).withX 2) [(1,.int .i64 x1),(5,.int .i64 x9),(7,.pointer p2)] m8))):
  wpc PP FF 20 L_spec_leads c_spec_leads_rlrll K [(1,.int .i64 x1),(7,.pointer p2)] m:=
 Eq.mpr (by kernel_rfl) h
theorem p_spec_leads_rlrllrrlrlll (x1:Int) (x2:Int) (p3:Option Addr) (m:Mem) (K:Kont)
  (h:ifB (decide (x2 > x1)) (IntKind.i64=IntKind.i64∧(2:Int)≠0∧K.kn [(1,.int .i64 x1),(5,.int .i64 (IntKind.wrap .i64 (Int.tdiv x2 2))),(7,.pointer p3)] m) (K.kx 2 [(1,.int .i64 x1),(5,.int .i64 x2),(7,.pointer p3)] m)):
  wpc PP FF 20 L_spec_leads c_spec_leads_rlrllrrlrlll K [(1,.int .i64 x1),(5,.int .i64 x2),(7,.pointer p3)] m:=
 Eq.mpr (by kernel_rfl) h
theorem p_spec_leads_rlrllrrlrr (x1:Int) (x2:Int) (p3:Option Addr) (m:Mem) (K:Kont)
  (h:ifB (x2 == x1) (K.kr [(1,.int .i64 x1),(4,.bool true),(5,.int .i64 x2),(7,.pointer p3)] m) (K.kn [(1,.int .i64 x1),(5,.int .i64 x2),(7,.pointer p3)] m)):
  wpc PP FF 20 L_spec_leads c_spec_leads_rlrllrrlrr K [(1,.int .i64 x1),(5,.int .i64 x2),(7,.pointer p3)] m:=
 Eq.mpr (by kernel_rfl) h
def L_io_ReadAtLeast:List Nat:=[0,1,2,6,7,8,12,20,37,44]
def r_io_ReadAtLeast:List ResultVar:=[.tmp 6,.tmp 7]
noncomputable def c_io_ReadAtLeast:Code:=(Go.Proofs.Tryz.f67.body).getD .skip
theorem b_io_ReadAtLeast:Go.Proofs.Tryz.f67.body=some c_io_ReadAtLeast:=by kernel_rfl
noncomputable def c_io_ReadAtLeast_rrr:Code:=(rgt (rgt (rgt c_io_ReadAtLeast)))
noncomputable def c_io_ReadAtLeast_rrll:Code:=(lft (lft (rgt (rgt c_io_ReadAtLeast))))
noncomputable def c_io_ReadAtLeast_rrrr:Code:=(rgt c_io_ReadAtLeast_rrr)
noncomputable def c_io_ReadAtLeast_rrlll:Code:=(lft c_io_ReadAtLeast_rrll)
theorem q_io_ReadAtLeast_rrll:c_io_ReadAtLeast_rrll=.loop c_io_ReadAtLeast_rrlll:=by kernel_rfl
theorem e_io_ReadAtLeast (v1:Value) (a2:Option Addr) (l3:Nat) (k4:Nat) (x5:Int) (m:Mem) (R:Value→Mem→Prop)
  (h:ifB (decide ((l3:Int) < x5)) (∃ v6,cell? m ⟨g_io_ErrShortBuffer,0,none⟩=some (v6)∧R (.tuple #[.int .i64 0,v6]) m) (WPS PP 46 c_io_ReadAtLeast_rrll (((retK PP r_io_ReadAtLeast R).withN fun r m=>WPS PP 46 c_io_ReadAtLeast_rrr (retK PP r_io_ReadAtLeast R) r m).withX 0) [(0,v1),(1,.slice a2 l3 k4),(2,.int .i64 x5),(6,.int .i64 0),(7,.nilIface)] m)):
  CallM PP f_io_ReadAtLeast #[v1,.slice a2 l3 k4,.int .i64 x5] m R:=
 callM_enter ffOk mixedOk 46 L_io_ReadAtLeast Tryz.func67 b_io_ReadAtLeast Tryz.ntmps67 (by simp) (Eq.mpr (by kernel_rfl) h)
def k_io_ReadAtLeast_rrr:List Nat:=[2,6,7]
theorem p_io_ReadAtLeast_rrr (x1:Int) (x2:Int) (v3:Value) (m:Mem) (K:Kont)
  (h:ifB (decide (x2 ≥ x1)) (WPS PP 46 c_io_ReadAtLeast_rrrr K [(2,.int .i64 x1),(6,.int .i64 x2),(7,.nilIface)] m) (ifB (decide (x2 > 0)) (∃ v4,cell? m ⟨g_io_EOF,0,none⟩=some (v4)∧ReadW PP m (do eqGuard .eql t_error (.tmp 41) (.tmp 42) v3 v4; binOp .eql t_error v3 v4) fun u6=>∃ b5,u6=.bool b5∧ifB b5 (∃ v7,cell? m ⟨g_io_ErrUnexpectedEOF,0,none⟩=some (v7)∧WPS PP 46 c_io_ReadAtLeast_rrrr K [(2,.int .i64 x1),(6,.int .i64 x2),(7,v7)] m) (WPS PP 46 c_io_ReadAtLeast_rrrr K [(2,.int .i64 x1),(6,.int .i64 x2),(7,v3)] m)) (WPS PP 46 c_io_ReadAtLeast_rrrr K [(2,.int .i64 x1),(6,.int .i64 x2),(7,v3)] m))):
  wpc PP FF 46 L_io_ReadAtLeast c_io_ReadAtLeast_rrr K [(2,.int .i64 x1),(6,.int .i64 x2),(7,v3)] m:=
 Eq.mpr (by kernel_rfl) h
theorem p_io_ReadAtLeast_rrlll (v1:Value) (a2:Option Addr) (l3:Nat) (k4:Nat) (x5:Int) (x6:Int) (v7:Value) (m:Mem) (K:Kont)
  (h:ifB (decide (x6 < x5)) (isIfc v7=true∧ifB (isNil v7) (l3≤k4∧(0≤x6∧x6≤(l3:Int))∧PureW PP (methNil "Read" #[v1]) fun _=>SemW PP (callMethod v1 "Read" #[.slice (subA a2 x6.toNat 1 k4) (l3 - x6.toNat) (k4 - x6.toNat)]) m (NextW PP fun v10 m11=>∃ x8 v9,v10=.tuple #[.int .i64 x8,v9]∧K.kn [(0,v1),(1,.slice a2 l3 k4),(2,.int .i64 x5),(6,.int .i64 (IntKind.wrap .i64 (x6+x8))),(7,v9),(8,.int .i64 x8)] m11)) (K.kx 0 [(0,v1),(1,.slice a2 l3 k4),(2,.int .i64 x5),(6,.int .i64 x6),(7,v7)] m)) (K.kx 0 [(0,v1),(1,.slice a2 l3 k4),(2,.int .i64 x5),(6,.int .i64 x6),(7,v7)] m)):
  wpc PP FF 46 L_io_ReadAtLeast c_io_ReadAtLeast_rrlll K [(0,v1),(1,.slice a2 l3 k4),(2,.int .i64 x5),(6,.int .i64 x6),(7,v7)] m:=
 Eq.mpr (by kernel_rfl) h
def k_io_ReadAtLeast_rrrr:List Nat:=[6,7]
theorem p_io_ReadAtLeast_rrrr (x1:Int) (v2:Value) (m:Mem) (K:Kont)
  (h:K.kr [(6,.int .i64 x1),(7,v2)] m):
  wpc PP FF 46 L_io_ReadAtLeast c_io_ReadAtLeast_rrrr K [(6,.int .i64 x1),(7,v2)] m:=
 Eq.mpr (by kernel_rfl) h
def L_dictDecoder_availRead:List Nat:=[0,2]
def r_dictDecoder_availRead:List ResultVar:=[.tmp 2]
noncomputable def c_dictDecoder_availRead:Code:=(Go.Proofs.Tryz.f68.body).getD .skip
theorem b_dictDecoder_availRead:Go.Proofs.Tryz.f68.body=some c_dictDecoder_availRead:=by kernel_rfl
theorem e_dictDecoder_availRead (f:Nat) (m:Mem) (R:Value→Mem→Prop)
  (h:∃ x1,cell? m ⟨f,1038,none⟩=some (.int .i64 x1)∧∃ x2,cell? m ⟨f,1039,none⟩=some (.int .i64 x2)∧R (.int .i64 (IntKind.wrap .i64 (x1 - x2))) m  ):
  CallM PP f_dictDecoder_availRead #[.pointer (some ⟨f,1037,none⟩)] m R:=
 callM_enter ffOk mixedOk 12 L_dictDecoder_availRead Tryz.func68 b_dictDecoder_availRead Tryz.ntmps68 (by simp) (Eq.mpr (by kernel_rfl) h)
def L_dictDecoder_writeSlice:List Nat:=[0,2]
def r_dictDecoder_writeSlice:List ResultVar:=[.tmp 2]
noncomputable def c_dictDecoder_writeSlice:Code:=(Go.Proofs.Tryz.f69.body).getD .skip
theorem b_dictDecoder_writeSlice:Go.Proofs.Tryz.f69.body=some c_dictDecoder_writeSlice:=by kernel_rfl
theorem e_dictDecoder_writeSlice (f:Nat) (m:Mem) (R:Value→Mem→Prop)
  (h:∃ a1 l2 k3,cell? m ⟨f,1037,none⟩=some (.slice a1 l2 k3)∧∃ x4,cell? m ⟨f,1038,none⟩=some (.int .i64 x4)∧l2≤k3∧(0≤x4∧x4≤(l2:Int))∧R (.slice (subA a1 x4.toNat 1 k3) (l2 - x4.toNat) (k3 - x4.toNat)) m  ):
  CallM PP f_dictDecoder_writeSlice #[.pointer (some ⟨f,1037,none⟩)] m R:=
 callM_enter ffOk mixedOk 12 L_dictDecoder_writeSlice Tryz.func69 b_dictDecoder_writeSlice Tryz.ntmps69 (by simp) (Eq.mpr (by kernel_rfl) h)
def L_dictDecoder_writeMark:List Nat:=[0,1]
def r_dictDecoder_writeMark:List ResultVar:=[]
noncomputable def c_dictDecoder_writeMark:Code:=(Go.Proofs.Tryz.f70.body).getD .skip
theorem b_dictDecoder_writeMark:Go.Proofs.Tryz.f70.body=some c_dictDecoder_writeMark:=by kernel_rfl
theorem e_dictDecoder_writeMark (f:Nat) (x1:Int) (m:Mem) (R:Value→Mem→Prop)
  (h:∃ x2,cell? m ⟨f,1038,none⟩=some (.int .i64 x2)∧StW m ⟨f,1038,none⟩ (.int .i64 (IntKind.wrap .i64 (x2+x1))) fun m3=>R (.tuple #[]) m3):
  CallM PP f_dictDecoder_writeMark #[.pointer (some ⟨f,1037,none⟩),.int .i64 x1] m R:=
 callM_enter ffOk mixedOk 12 L_dictDecoder_writeMark Tryz.func70 b_dictDecoder_writeMark Tryz.ntmps70 (by simp) (Eq.mpr (by kernel_rfl) h)
def L_bits_Reverse16:List Nat:=[0,2]
def r_bits_Reverse16:List ResultVar:=[.tmp 2]
noncomputable def c_bits_Reverse16:Code:=(Go.Proofs.Tryz.f71.body).getD .skip
theorem b_bits_Reverse16:Go.Proofs.Tryz.f71.body=some c_bits_Reverse16:=by kernel_rfl
theorem e_bits_Reverse16 (x1:Int) (m:Mem) (R:Value→Mem→Prop)
  (h:0≤(8:Int)∧PureW PP (Instr.index t_string (.string rev8) (.int .u16 (shrOp .u16 x1 8))) fun u3=>∃ x2,u3=.int .u8 x2∧IntKind.u16=IntKind.u16∧PureW PP (Instr.index t_string (.string rev8) (.int .u16 (bitsOp .and .u16 x1 255))) fun u5=>∃ x4,u5=.int .u8 x4∧0≤(8:Int)∧IntKind.u16=IntKind.u16∧R (.int .u16 (bitsOp .or .u16 (IntKind.wrap .u16 x2) (shlOp .u16 (IntKind.wrap .u16 x4) 8))) m):
  CallM PP f_bits_Reverse16 #[.int .u16 x1] m R:=
 callM_enter ffOk mixedOk 13 L_bits_Reverse16 Tryz.func71 b_bits_Reverse16 Tryz.ntmps71 (by simp) (Eq.mpr (by kernel_rfl) h)
def L_bytes_Reader_Read:List Nat:=[0,1,4,5,15]
def r_bytes_Reader_Read:List ResultVar:=[.tmp 4,.tmp 5]
noncomputable def c_bytes_Reader_Read:Code:=(Go.Proofs.Tryz.f93.body).getD .skip
theorem b_bytes_Reader_Read:Go.Proofs.Tryz.f93.body=some c_bytes_Reader_Read:=by kernel_rfl
theorem e_bytes_Reader_Read (b:Nat) (a1:Option Addr) (l2:Nat) (k3:Nat) (m:Mem) (R:Value→Mem→Prop)
  (h:∃ x4,cell? m ⟨b,1,none⟩=some (.int .i64 x4)∧∃ a5 l6 k7,cell? m ⟨b,0,none⟩=some (.slice a5 l6 k7)∧ifB (decide (x4 ≥ (l6:Int))) (∃ v8,cell? m ⟨g_io_EOF,0,none⟩=some (v8)∧R (.tuple #[.int .i64 0,v8]) m) (StW m ⟨b,2,none⟩ (.int .i64 (-1)) fun m9=>∃ a10 l11 k12,cell? m9 ⟨b,0,none⟩=some (.slice a10 l11 k12)∧∃ x13,cell? m9 ⟨b,1,none⟩=some (.int .i64 x13)∧l11≤k12∧(0≤x13∧x13≤(l11:Int))∧SemW PP (builtin .copy #[t_s_uint8,t_s_uint8] t_int #[false,false] #[.slice a1 l2 k3,.slice (subA a10 x13.toNat 1 k12) (l11 - x13.toNat) (k12 - x13.toNat)]) m9 (NextW PP fun v15 m16=>∃ x14,v15=.int .i64 x14∧∃ x17,cell? m16 ⟨b,1,none⟩=some (.int .i64 x17)∧StW m16 ⟨b,1,none⟩ (.int .i64 (IntKind.wrap .i64 (x17+x14))) fun m18=>R (.tuple #[.int .i64 x14,.nilIface]) m18))):
  CallM PP f_bytes_Reader_Read #[.pointer (some ⟨b,0,none⟩),.slice a1 l2 k3] m R:=
 callM_enter ffOk mixedOk 39 L_bytes_Reader_Read Tryz.func93 b_bytes_Reader_Read Tryz.ntmps93 (by simp) (Eq.mpr (by kernel_rfl) h)
def L_bytes_Reader_ReadByte:List Nat:=[0,2,3,4,17]
def r_bytes_Reader_ReadByte:List ResultVar:=[.tmp 2,.tmp 3]
noncomputable def c_bytes_Reader_ReadByte:Code:=(Go.Proofs.Tryz.f94.body).getD .skip
theorem b_bytes_Reader_ReadByte:Go.Proofs.Tryz.f94.body=some c_bytes_Reader_ReadByte:=by kernel_rfl
theorem e_bytes_Reader_ReadByte (b:Nat) (m:Mem) (R:Value→Mem→Prop)
  (h:StW m ⟨b,2,none⟩ (.int .i64 (-1)) fun m1=>∃ x2,cell? m1 ⟨b,1,none⟩=some (.int .i64 x2)∧∃ a3 l4 k5,cell? m1 ⟨b,0,none⟩=some (.slice a3 l4 k5)∧ifB (decide (x2 ≥ (l4:Int))) (∃ v6,cell? m1 ⟨g_io_EOF,0,none⟩=some (v6)∧R (.tuple #[.int .u8 0,v6]) m1) (∃ a7 l8 k9,cell? m1 ⟨b,0,none⟩=some (.slice a7 l8 k9)∧∃ x10,cell? m1 ⟨b,1,none⟩=some (.int .i64 x10)∧onSome a7 fun p11=>(0≤x10∧x10 < (l8:Int))∧∃ x12,cell? m1 (aplus p11 x10.toNat)=some (.int .u8 x12)∧∃ x13,cell? m1 ⟨b,1,none⟩=some (.int .i64 x13)∧StW m1 ⟨b,1,none⟩ (.int .i64 (IntKind.wrap .i64 (x13+1))) fun m14=>R (.tuple #[.int .u8 x12,.nilIface]) m14)  ):
  CallM PP f_bytes_Reader_ReadByte #[.pointer (some ⟨b,0,none⟩)] m R:=
 callM_enter ffOk mixedOk 37 L_bytes_Reader_ReadByte Tryz.func94 b_bytes_Reader_ReadByte Tryz.ntmps94 (by simp) (Eq.mpr (by kernel_rfl) h)
def L_bytes_Reader_Reset:List Nat:=[0,1]
def r_bytes_Reader_Reset:List ResultVar:=[]
noncomputable def c_bytes_Reader_Reset:Code:=(Go.Proofs.Tryz.f95.body).getD .skip
theorem b_bytes_Reader_Reset:Go.Proofs.Tryz.f95.body=some c_bytes_Reader_Reset:=by kernel_rfl
theorem e_bytes_Reader_Reset (b:Nat) (a1:Option Addr) (l2:Nat) (k3:Nat) (m:Mem) (R:Value→Mem→Prop)
  (h:StAgg PP t_bytes_Reader m ⟨b,0,none⟩ (.agg #[.slice a1 l2 k3,.int .i64 0,.int .i64 (-1)]) fun m4=>R (.tuple #[]) m4):
  CallM PP f_bytes_Reader_Reset #[.pointer (some ⟨b,0,none⟩),.slice a1 l2 k3] m R:=
 callM_enter ffOk mixedOk 8 L_bytes_Reader_Reset Tryz.func95 b_bytes_Reader_Reset Tryz.ntmps95 (by simp) (Eq.mpr (by kernel_rfl) h)
def L_decompressor_Read:List Nat:=[0,1,4,5,6,12,33,44,67]
def r_decompressor_Read:List ResultVar:=[.tmp 4,.tmp 5]
noncomputable def c_decompressor_Read:Code:=(Go.Proofs.Tryz.f102.body).getD .skip
theorem b_decompressor_Read:Go.Proofs.Tryz.f102.body=some c_decompressor_Read:=by kernel_rfl
noncomputable def c_decompressor_Read_rl:Code:=(lft (rgt c_decompressor_Read))
noncomputable def c_decompressor_Read_rll:Code:=(lft c_decompressor_Read_rl)
theorem q_decompressor_Read_rl:c_decompressor_Read_rl=.loop c_decompressor_Read_rll:=by kernel_rfl
theorem e_decompressor_Read (f:Nat) (a1:Option Addr) (l2:Nat) (k3:Nat) (m:Mem) (R:Value→Mem→Prop)
  (h:WPS PP 75 c_decompressor_Read_rl ((retK PP r_decompressor_Read R).withX 0) [(0,.pointer (some ⟨f,0,none⟩)),(1,.slice a1 l2 k3),(4,.int .i64 0),(5,.nilIface)] m):
  CallM PP f_decompressor_Read #[.pointer (some ⟨f,0,none⟩),.slice a1 l2 k3] m R:=
 callM_enter ffOk mixedOk 75 L_decompressor_Read Tryz.func102 b_decompressor_Read Tryz.ntmps102 (by simp) (Eq.mpr (by kernel_rfl) h)
theorem p_decompressor_Read_rll (f:Nat) (a1:Option Addr) (l2:Nat) (k3:Nat) (m:Mem) (K:Kont)
  (h:∃ a4 l5 k6,cell? m ⟨f,1049,none⟩=some (.slice a4 l5 k6)∧ifB (decide ((l5:Int) > 0)) (∃ a7 l8 k9,cell? m ⟨f,1049,none⟩=some (.slice a7 l8 k9)∧SemW PP (builtin .copy #[t_s_uint8,t_s_uint8] t_int #[false,false] #[.slice a1 l2 k3,.slice a7 l8 k9]) m (NextW PP fun v11 m12=>∃ x10,v11=.int .i64 x10∧∃ a13 l14 k15,cell? m12 ⟨f,1049,none⟩=some (.slice a13 l14 k15)∧l14≤k15∧(0≤x10∧x10≤(l14:Int))∧StW m12 ⟨f,1049,none⟩ (.slice (subA a13 x10.toNat 1 k15) (l14 - x10.toNat) (k15 - x10.toNat)) fun m16=>∃ a17 l18 k19,cell? m16 ⟨f,1049,none⟩=some (.slice a17 l18 k19)∧ifB ((l18:Int) == 0) (∃ v20,cell? m16 ⟨f,1048,none⟩=some (v20)∧K.kr [(0,.pointer (some ⟨f,0,none⟩)),(1,.slice a1 l2 k3),(4,.int .i64 x10),(5,v20),(6,.int .i64 x10)] m16) (K.kr [(0,.pointer (some ⟨f,0,none⟩)),(1,.slice a1 l2 k3),(4,.int .i64 x10),(5,.nilIface),(6,.int .i64 x10)] m16))) (∃ v21,cell? m ⟨f,1048,none⟩=some (v21)∧isIfc v21=true∧ifB (!(isNil v21)) (∃ v22,cell? m ⟨f,1048,none⟩=some (v22)∧K.kr [(0,.pointer (some ⟨f,0,none⟩)),(1,.slice a1 l2 k3),(4,.int .i64 0),(5,v22)] m) (∃ v23,cell? m ⟨f,1045,none⟩=some (v23)∧callW PP FF 0 v23 #[.pointer (some ⟨f,0,none⟩)] m fun _v24 m25=>∃ v26,cell? m25 ⟨f,1048,none⟩=some (v26)∧isIfc v26=true∧ifB (!(isNil v26)) (∃ a27 l28 k29,cell? m25 ⟨f,1049,none⟩=some (.slice a27 l28 k29)∧ifB ((l28:Int) == 0) (CallM PP f_dictDecoder_readFlush #[.pointer (some ⟨f,1037,none⟩)] m25 fun v33 m34=>∃ a30 l31 k32,v33=.slice a30 l31 k32∧StW m34 ⟨f,1049,none⟩ (.slice a30 l31 k32) fun m35=>K.kn [(0,.pointer (some ⟨f,0,none⟩)),(1,.slice a1 l2 k3)] m35) (K.kn [(0,.pointer (some ⟨f,0,none⟩)),(1,.slice a1 l2 k3)] m25)) (K.kn [(0,.pointer (some ⟨f,0,none⟩)),(1,.slice a1 l2 k3)] m25)))):
  wpc PP FF 75 L_decompressor_Read c_decompressor_Read_rll K [(0,.pointer (some ⟨f,0,none⟩)),(1,.slice a1 l2 k3)] m:=
 Eq.mpr (by kernel_rfl) h
end Go.M
