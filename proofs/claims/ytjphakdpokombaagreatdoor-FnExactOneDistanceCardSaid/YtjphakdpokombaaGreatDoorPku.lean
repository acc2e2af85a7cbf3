/- The reference: the symbols of a block. The reference: the symbols of a block, to its end. The reference: blocks that are not compressed; whole; the order. -/
import Derived.Test.YtjphakdpokombaaGreatDoorPkt
import Derived.Test.YtjphakdpokombaaGreatDoorPks
namespace Go.M
open Go
set_option maxRecDepth 100000
def CodedTail (K:Kont) (s:Nat) (a1:Option Addr) (l2 k3:Nat) (r4 r5:Option Nat) (x9 x17 x18 xl:Int) (m28:Mem):Prop:=
 CallM PP f_spec_used #[.slice a1 l2 k3] m28 fun v54 m55=>∃ (x53:Int),v54=.int .i64 x53∧ifB (x53 == 0) (CallM PP f_state_stop #[.pointer (some ⟨s,0,none⟩),.int .i64 0] m55 fun v56 m57=>v56=.tuple #[]∧K.kr [(0,.pointer (some ⟨s,0,none⟩)),(2,.slice a1 l2 k3),(6,.map r4),(7,.map r5),(8,.int .i64 x9),(9,.int .i64 x17),(10,.int .i64 x18),(11,.int .i64 xl)] m57) (CallM PP f_state_symbol #[.pointer (some ⟨s,0,none⟩),.map r5] m55 fun v59 m60=>∃ (x58:Int),v59=.int .i64 x58∧CallM PP f_state_on #[.pointer (some ⟨s,0,none⟩)] m60 fun v62 m63=>∃ (b61:Bool),v62=.bool b61∧ifB (!b61) (K.kr [(0,.pointer (some ⟨s,0,none⟩)),(2,.slice a1 l2 k3),(6,.map r4),(7,.map r5),(8,.int .i64 x9),(9,.int .i64 x17),(10,.int .i64 x18),(11,.int .i64 xl),(12,.int .i64 x58)] m63) (CallM PP f_spec_Distance #[.int .i64 x58] m63 fun v66 m67=>∃ (x64:Int),∃ (x65:Int),v66=.tuple #[.int .i64 x64,.int .i64 x65]∧ifB (x64 == 0) (CallM PP f_state_stop #[.pointer (some ⟨s,0,none⟩),.int .i64 2] m67 fun v68 m69=>v68=.tuple #[]∧K.kr [(0,.pointer (some ⟨s,0,none⟩)),(2,.slice a1 l2 k3),(6,.map r4),(7,.map r5),(8,.int .i64 x9),(9,.int .i64 x17),(10,.int .i64 x18),(11,.int .i64 xl),(12,.int .i64 x58),(13,.int .i64 x64),(14,.int .i64 x65)] m69) (CallM PP f_state_bits #[.pointer (some ⟨s,0,none⟩),.int .i64 x65] m67 fun v71 m72=>∃ (x70:Int),v71=.int .i64 x70∧CallM PP f_state_far #[.pointer (some ⟨s,0,none⟩),.int .i64 xl,.int .i64 (IntKind.wrap .i64 (x64+x70))] m72 fun v73 m74=>v73=.tuple #[]∧K.kn [(0,.pointer (some ⟨s,0,none⟩)),(2,.slice a1 l2 k3),(6,.map r4),(7,.map r5),(8,.int .i64 x9),(9,.int .i64 x17),(10,.int .i64 x18),(11,.int .i64 xl),(12,.int .i64 x58),(13,.int .i64 x64),(14,.int .i64 x65)] m74)))
section
variable {N0 s:Nat} {src dict:List Nat} {p:Nat} {out:List Nat} {z:Int} {m:Mem}
def OutOk (out:List Nat):Prop:=(∀ v ∈ out,v < 256)∧out.length≤131072
theorem coded_tail {K:Kont} (h:SpAt N0 s src dict p out z m) (hdl:dict.length≤32768) (hout:OutOk out) {a2:Option Addr} {l2 k2 b2 o2:Nat} {D:List Nat} (hS2:SlcI m a2 l2 k2 b2 o2 D) (hl2:l2≤1000)
  {r4:Option Nat} {r5:Nat} {es:Array MapEntry} {clock:Nat} (hM:0≤z∨MapI m r5 es clock (bk D D.length)) {c0:Sc} (hc0:c0=scOf src) {s0:St} {fin:Bool} {T:Tb} {L:List Nat} {len:Nat} (hlen:len < 4096) {x9 x17 x18:Int}
  (hT:TbOf T L D) (hmat:z < 0→Mat c0 s0 p (dict++out) T.mn (glen c0 (dict++out) fin T len p))
  (hQ:∀ m' p' out' z',0≤z'→OutOk out'→SpAt N0 s src dict p' out' z' m'→SpF N0 s m m'→(z < 0→Good c0 s0 z' (dict++out') p')→(0≤z→z'=z∧p'=p∧out'=out)→
   (∀ r,K.kr r m')∧(∀ r,Env.keep [0,2,6,7] r=[(0,.pointer (some ⟨s,0,none⟩)),(2,.slice a2 l2 k2),(6,.map r4),(7,.map (some r5))]→K.kn r m'))
  (hC:z < 0→∀ m' p' out',OutOk out'→p≤p'→SpAt N0 s src dict p' out' z m'→SpF N0 s m m'→Cod c0 s0 p' (dict++out') fin T→∀ r,Env.keep [0,2,6,7] r=[(0,.pointer (some ⟨s,0,none⟩)),(2,.slice a2 l2 k2),(6,.map r4),(7,.map (some r5))]→K.kn r m'):
  CodedTail K s a2 l2 k2 r4 (some r5) x9 x17 x18 (len:Int) m:=by
 subst hc0
 refine used_spec hS2 (by omega) ⟨_,rfl,?_⟩
 have hD:D.length=l2:=hS2.len
 by_cases hz:z < 0
 rotate_left
 ·have stay:=hQ m p out z (by omega) hout h (SpF.refl _ _ _) (fun h0=>absurd h0 hz) (fun _=>⟨rfl,rfl,rfl⟩)
  by_cases hu:usedN D=0
  ·rw [hu]
   refine ifB_t (stop_spec h fun m1 h1 f1=>⟨rfl,?_⟩)
   rw [if_neg hz] at h1
   exact (hQ m1 p out z (by omega) hout h1 f1 (fun h0=>absurd h0 hz) (fun _=>⟨rfl,rfl,rfl⟩)).1 _
  ·have:(((usedN D:Nat):Int) == 0)=false:=by rw [beq_eq_false_iff_ne]; omega
   rw [this]
   refine ifB_f (symbol_spec h (L:=D) (es:=es) (clock:=clock) (.inl (by omega)) (fun h0=>absurd h0 hz) hT.d15 (fun _=>⟨_,rfl,on_spec h ⟨_,rfl,?_⟩⟩) (fun h0=>absurd h0 hz) (fun h0=>absurd h0 hz) (fun h0=>absurd h0 hz))
   rw [decide_eq_false hz]
   exact ifB_t (stay.1 _)
 have hM':MapI m r5 es clock (bk D D.length):=by
  rcases hM with hM | hM
  ·omega
  ·exact hM
 have hG:=hmat hz
 by_cases hu:usedN D=0
 ·rw [hu]
  refine ifB_t (stop_spec h fun m1 h1 f1=>⟨rfl,?_⟩)
  rw [if_pos hz] at h1
  exact (hQ m1 p out 0 (by omega) hout h1 f1 (fun _=>.isOpen (mat_dNone hT hG fun k=>no_hit hu _ k)) (fun h0=>absurd h0 (by omega))).1 _
 have:(((usedN D:Nat):Int) == 0)=false:=by rw [beq_eq_false_iff_ne]; omega
 rw [this]
 refine ifB_f (symbol_spec h (.inr hM') (fun _=>hT.dok) hT.d15 (fun h0=>absurd hz (by omega)) (fun _ m1 d p1 hd hsy h1 f1=>⟨_,rfl,on_spec h1 ⟨_,rfl,?_⟩⟩) (fun _ m1 hsh h1 f1=>⟨_,rfl,on_spec h1 ⟨_,rfl,?_⟩⟩) (fun _ hnh m1 p1 h1 f1=>⟨_,rfl,on_spec h1 ⟨_,rfl,?_⟩⟩))
 ·rw [decide_eq_true hz]
  have hG1:=mat_dSym hT hG hsy
  have hpp:p≤p1:=by have:=hsy.eq; omega
  refine ifB_f (Distance_spec (by omega) ⟨_,_,rfl,?_⟩)
  by_cases hd30:30≤d
  ·have:dstS d=(0,0):=by unfold dstS; rw [if_neg (by omega),if_neg (by omega)]
   rw [this]
   refine ifB_t (stop_spec h1 fun m2 h2 f2=>⟨rfl,?_⟩)
   rw [if_pos hz] at h2
   exact (hQ m2 p1 out 2 (by omega) hout h2 (f1.trans f2) (fun _=>mat_dNever hG1 hd30) (fun h0=>absurd h0 (by omega))).1 _
  ·have hdp:=dstS_pos (show d < 30 by omega)
   have:(((dstS d).1:Int) == 0)=false:=by rw [beq_eq_false_iff_ne]; omega
   rw [this]
   have hle1:=h1.le
   refine ifB_f (bits_spec h1 (dstS d).2 (by omega) (fun h0=>absurd hz (by omega)) (fun _ hsh m2 v hv h2 f2=>⟨_,rfl,?_⟩) (fun _ hle m2 h2 f2=>⟨_,rfl,?_⟩))
   ·have hw:IntKind.wrap .i64 (((dstS d).1:Int)+(v:Int))=(((dstS d).1+v:Nat):Int):=by rw [wrap64_id (by omega) (by omega)]; rfl
    rw [hw]
    refine far_spec h2 len _ hlen (by omega) (by omega) hdl hout.1 hout.2 (fun _=>⟨rfl,?_⟩) (fun h0=>absurd h0 (by decide)) (fun h0=>absurd h0 (by decide)) (fun h0=>absurd h0 (by decide))
    exact (hQ m2 _ out 3 (by omega) hout h2 (f1.trans f2) (fun _=>mat_farCut hG1 (by omega) hle1 hsh) (fun h0=>absurd h0 (by omega))).2 _ rfl
   ·have htk:=tk_lt (num src) p1 (dstS d).2
    have hw:IntKind.wrap .i64 (((dstS d).1:Int)+((tk (num src) p1 (dstS d).2:Nat):Int))=(((dstS d).1+tk (num src) p1 (dstS d).2:Nat):Int):=by rw [wrap64_id (by omega) (by omega)]; rfl
    rw [hw]
    have hG2:=mat_far hG1 (by omega) hle
    refine far_spec h2 len _ hlen (by omega) (by omega) hdl hout.1 hout.2 (fun h0=>absurd hz (by omega)) (fun _ hfar m3 h3 f3=>⟨rfl,?_⟩) (fun _ hlg m3 out3 ho1 ho2 h3 f3=>⟨rfl,?_⟩) (fun _ hnear m3 out3 ho1 ho2 hlz h3 f3=>⟨rfl,?_⟩)
    ·exact (hQ m3 _ out 2 (by omega) hout h3 ((f1.trans f2).trans f3) (fun _=>mat_tooFar hG2 hfar) (fun h0=>absurd h0 (by omega))).2 _ rfl
    ·exact (hQ m3 _ out3 4 (by omega) ⟨ho1,ho2⟩ h3 ((f1.trans f2).trans f3) (fun _=>.isLong (mat_long hG2 (scOf_hd src) hle (by rw [List.length_append]; omega))) (fun h0=>absurd h0 (by omega))).2 _ rfl
    ·refine hC hz m3 _ out3 ⟨ho1,ho2⟩ (by omega) h3 ((f1.trans f2).trans f3) ?_ _ rfl
     rw [hlz]
     exact mat_copy hG2 hnear
 ·refine ifB_t ((hQ m1 _ out 3 (by omega) hout h1 f1 (fun _=>mat_dCut hT hG hu hsh) (fun h0=>absurd h0 (by omega))).1 _)
 ·refine ifB_t ((hQ m1 _ out 0 (by omega) hout h1 f1 (fun _=>.isOpen (mat_dNone hT hG hnh)) (fun h0=>absurd h0 (by omega))).1 _)
end
end Go.M

namespace Go.M
open Go
set_option maxRecDepth 100000
section
variable {N0 s:Nat} {src dict:List Nat} {p:Nat} {out:List Nat} {z:Int} {m:Mem}
theorem OutOk.push {out:List Nat} (h:OutOk out) {b:Nat} (hb:b < 256) (hl:out.length < 131072):OutOk (out++[b]):=by
 refine ⟨fun v hv=>?_,by simp; omega⟩
 rcases List.mem_append.1 hv with hv | hv
 ·exact h.1 v hv
 ·rw [List.mem_singleton.1 hv]; exact hb
theorem coded_off (h:SpAt N0 s src dict p out z m) (hz:0≤z) {a a2:Option Addr} {l k b o l2 k2 b2 o2:Nat} {L D:List Nat} (hS:SlcI m a l k b o L) (hS2:SlcI m a2 l2 k2 b2 o2 D) (hl:l≤1000) (hl2:l2≤1000)
  (h15:∀ v ∈ L,v≤15) (h15':∀ v ∈ D,v≤15) {R:Value→Mem→Prop} (hk:∀ m',SpAt N0 s src dict p out z m'→SpF N0 s m m'→R (.tuple #[]) m'):
  CallM PP f_state_coded #[.pointer (some ⟨s,0,none⟩),.slice a l k,.slice a2 l2 k2] m R:=by
 refine e_state_coded s a l k a2 l2 k2 m R (book_spec hS h15 hl fun m1 r es clock lst hr hM _ f1=>⟨_,rfl,book_spec (hS2.old f1) h15' hl2 fun m2 r2 es2 clock2 lst2 hr2 hM2 _ f2=>⟨_,rfl,?_⟩⟩)
 have f12:∀ S,Fr S m m2:=fun S=>(f1 S).trans (f2 S)
 rw [q_state_coded_rl]
 refine loopW ffOk mixedOk (L₀:=L_state_coded) (σ:=Unit) [0,2,6,7] (fun _=>[(0,.pointer (some ⟨s,0,none⟩)),(2,.slice a2 l2 k2),(6,.map (some r)),(7,.map (some r2))])
  (fun _ m'=>m'=m2) (fun _=>0) () rfl rfl ?_
 rintro _ m3 rfl
 have h3:=h.fresh f12
 refine p_state_coded_rll s a2 l2 k2 _ _ m3 _ (on_spec h3 ⟨_,rfl,?_⟩)
 rw [decide_eq_false (by omega)]
 exact ifB_f (hk m3 h3 (.fresh f12))
theorem coded_spec (h:SpAt N0 s src dict p out z m) (hz:z < 0) (hdl:dict.length≤32768) (hout:OutOk out) {a a2:Option Addr} {l k b o l2 k2 b2 o2:Nat} {L D:List Nat} (hS:SlcI m a l k b o L) (hS2:SlcI m a2 l2 k2 b2 o2 D) (hl:l≤1000) (hl2:l2≤1000)
  (hb2:0 < l2→b2≠s) {c0:Sc} (hc0:c0=scOf src) {s0:St} {fin:Bool} {T:Tb} (hT:TbOf T L D) (hcod:Cod c0 s0 p (dict++out) fin T) {R:Value→Mem→Prop}
  (hgo:∀ m' p' out',OutOk out'→p < p'→SpAt N0 s src dict p' out' z m'→SpF N0 s m m'→(fin=true→Runs c0 s0 (dict++out') .fin p')→(fin=false→Reach c0 s0 ⟨p',dict++out',.block⟩)→R (.tuple #[]) m')
  (hend:∀ m' p' out' z',0≤z'→OutOk out'→SpAt N0 s src dict p' out' z' m'→SpF N0 s m m'→Good c0 s0 z' (dict++out') p'→R (.tuple #[]) m'):
  CallM PP f_state_coded #[.pointer (some ⟨s,0,none⟩),.slice a l k,.slice a2 l2 k2] m R:=by
 subst hc0
 refine e_state_coded s a l k a2 l2 k2 m R (book_spec hS hT.l15 hl fun m1 r es clock lst hr hM1 hlst f1=>⟨_,rfl,book_spec (hS2.old f1) hT.d15 hl2 fun m2 r2 es2 clock2 lst2 hr2 hM2 hlst2 f2=>⟨_,rfl,?_⟩⟩)
 have hlen:=hS.len
 have hlen2:=hS2.len
 rw [hlst (full_ok hT.full), ← hlen] at hM1
 rw [hlst2 hT.dok, ← hlen2] at hM2
 have hM12:=hM1.fr (f2 fun _ _=>False) id
 have f12:∀ S,Fr S m m2:=fun S=>(f1 S).trans (f2 S)
 rw [q_state_coded_rl]
 refine loopW ffOk mixedOk (L₀:=L_state_coded) (σ:=Nat×List Nat×Int) [0,2,6,7] (fun _=>[(0,.pointer (some ⟨s,0,none⟩)),(2,.slice a2 l2 k2),(6,.map (some r)),(7,.map (some r2))])
  (fun q m'=>OutOk q.2.1∧SpAt N0 s src dict q.1 q.2.1 q.2.2 m'∧SpF N0 s m m'∧SpF N0 s m2 m'∧((q.2.2=z∧p≤q.1∧Cod (scOf src) s0 q.1 (dict++q.2.1) fin T)∨(0≤q.2.2∧Good (scOf src) s0 q.2.2 (dict++q.2.1) q.1)))
  (fun q=>if q.2.2 < 0 then 1+(8 * src.length - q.1) else 0) (p,out,z) rfl ⟨hout,h.fresh f12,.fresh f12,SpF.refl _ _ _,.inl ⟨rfl,Nat.le_refl _,hcod⟩⟩ ?_
 rintro ⟨p1,out1,z1⟩ m3 ⟨ho1,h3,F3,G3,hst⟩
 simp only at ho1 h3 hst
 refine p_state_coded_rll s a2 l2 k2 _ _ m3 _ (on_spec h3 ⟨_,rfl,?_⟩)
 rcases hst with ⟨rfl,hp1,hC⟩ | ⟨hz1,hG⟩
 rotate_left
 ·rw [decide_eq_false (by omega)]
  exact ifB_f (hend m3 p1 out1 z1 hz1 ho1 h3 F3 hG)
 rw [decide_eq_true hz]
 have hle3:=h3.le
 refine ifB_t (symbol_spec h3 (.inr (hM12.sp G3)) (fun _=>full_ok hT.full) hT.l15 (fun h0=>by omega) (fun _ m4 x p4 hx hsy h4 f4=>⟨_,rfl,on_spec h4 ⟨_,rfl,?_⟩⟩) (fun _ m4 hsh h4 f4=>⟨_,rfl,on_spec h4 ⟨_,rfl,?_⟩⟩) (fun _ hnh m4 p4 h4 f4=>⟨_,rfl,on_spec h4 ⟨_,rfl,?_⟩⟩))
 ·rw [decide_eq_true hz]
  have hp4:p1 < p4:=by have:=hsy.eq; have:=(hit_iff.1 hsy.hit).1; omega
  have hll:=hT.ll
  have hMat:=cod_sym hT hC hsy
  have hle4:=h4.le
  refine ifB_f ?_
  by_cases hx256:x < 256
  ·rw [decide_eq_true (by omega)]
   refine ifB_t ?_
   rw [wrap_u8_id (by omega) (by omega)]
   refine give_spec h4 hx256 (fun h0=>by omega) (fun _ hl m5 h5 f5=>⟨rfl,?_⟩) (fun _ hl m5 h5 f5=>⟨rfl,?_⟩)
   ·exact ⟨(p4,out1,4),rfl,⟨ho1,h5,(F3.trans f4).trans f5,(G3.trans f4).trans f5,.inr ⟨(by show (0:Int)≤4; decide),.isLong (cod_long hC (scOf_hd src) hle3 (by rw [List.length_append]; omega))⟩⟩,by simp only; rw [if_neg (by decide),if_pos hz]; omega⟩
   ·refine ⟨(p4,out1++[x],z1),rfl,⟨ho1.push hx256 hl,h5,(F3.trans f4).trans f5,(G3.trans f4).trans f5,.inl ⟨rfl,by simp only; omega,?_⟩⟩,by simp only; rw [if_pos hz,if_pos hz]; omega⟩
    simp only
    rw [← List.append_assoc]
    exact mat_lit hMat hx256
  rw [decide_eq_false (by omega)]
  refine ifB_f ?_
  by_cases hx2:x=256
  ·subst hx2
   obtain ⟨g1,g2⟩:=cod_eob hT hC hsy
   exact ifB_t (hgo m4 p4 out1 ho1 (by omega) h4 (F3.trans f4) g1 g2)
  have e1:((x:Int) == 256)=false:=by rw [beq_eq_false_iff_ne]; omega
  rw [e1]
  refine ifB_f (Length_spec (by omega) (by omega) ⟨_,_,rfl,?_⟩)
  by_cases hx3:286≤x
  ·rw [lenS_none hx3]
   refine ifB_t (stop_spec h4 fun m5 h5 f5=>⟨rfl,?_⟩)
   rw [if_pos hz] at h5
   exact hend m5 p4 out1 2 (by decide) ho1 h5 ((F3.trans f4).trans f5) (mat_never hMat hx3)
  have hlp:=lenS_pos (show 257≤x by omega) (by omega)
  have hle2:=lenOf_le (show 257≤x by omega)
  rw [lenS_eq (by omega) (by omega)] at hle2
  have e2:(((lenS x).1:Int) == 0)=false:=by rw [beq_eq_false_iff_ne]; omega
  rw [e2]
  have tail:∀ m5 p5 z5 len,SpAt N0 s src dict p5 out1 z5 m5→SpF N0 s m4 m5→len < 4096→p4≤p5→(z5=z1∨(0≤z5∧Good (scOf src) s0 z5 (dict++out1) p5))→(z5 < 0→Mat (scOf src) s0 p5 (dict++out1) T.mn (glen (scOf src) (dict++out1) fin T len p5))→
    CodedTail (((retK PP r_state_coded R).withX 0).withN fun r_1 m'=>∃ s':Nat×List Nat×Int,Env.keep [0,2,6,7] r_1=[(0,.pointer (some ⟨s,0,none⟩)),(2,.slice a2 l2 k2),(6,.map (some r)),(7,.map (some r2))]∧
     (OutOk s'.2.1∧SpAt N0 s src dict s'.1 s'.2.1 s'.2.2 m'∧SpF N0 s m m'∧SpF N0 s m2 m'∧((s'.2.2=z1∧p≤s'.1∧Cod (scOf src) s0 s'.1 (dict++s'.2.1) fin T)∨(0≤s'.2.2∧Good (scOf src) s0 s'.2.2 (dict++s'.2.1) s'.1)))∧
     (if s'.2.2 < 0 then 1+(8 * src.length - s'.1) else 0) < (if z1 < 0 then 1+(8 * src.length - p1) else 0)) s a2 l2 k2 (some r) (some r2) (x:Int) ((lenS x).1:Int) ((lenS x).2:Int) (len:Int) m5:=by
   intro m5 p5 z5 len h5 f5 hlen hp5 hzz hmat
   have FF5:=(F3.trans f4).trans f5
   have GG5:=(G3.trans f4).trans f5
   refine coded_tail h5 hdl ho1 ((hS2.old f12).sp GG5 hb2) hl2 (.inr (hM2.sp GG5)) rfl hlen hT hmat ?_ ?_
   ·intro m6 p6 out6 z6 hz6 ho6 h6 f6 hg hsame
    have hG6:Good (scOf src) s0 z6 (dict++out6) p6:=by
     rcases hzz with rfl | ⟨hz5,hG5⟩
     ·exact hg hz
     ·obtain ⟨rfl,rfl,rfl⟩:=hsame hz5; exact hG5
    refine ⟨fun r'=>hend m6 p6 out6 z6 hz6 ho6 h6 (FF5.trans f6) hG6,fun r' hr'=>⟨(p6,out6,z6),hr',⟨ho6,h6,FF5.trans f6,GG5.trans f6,.inr ⟨hz6,hG6⟩⟩,?_⟩⟩
    simp only
    rw [if_neg (by omega),if_pos hz]; omega
   ·intro hz5 m6 p6 out6 ho6 hp6 h6 f6 hC6 r' hr'
    have hz51:z5=z1:=by
     rcases hzz with rfl | ⟨hz5',_⟩
     ·rfl
     ·omega
    subst hz51
    refine ⟨(p6,out6,z5),hr',⟨ho6,h6,FF5.trans f6,GG5.trans f6,.inl ⟨rfl,by simp only; omega,hC6⟩⟩,?_⟩
    simp only
    rw [if_pos hz,if_pos hz]; omega
  refine ifB_f (bits_spec h4 (lenS x).2 (by omega) (fun h0=>by omega) (fun _ hsh m5 v hv h5 f5=>⟨_,rfl,on_spec h5 ⟨_,rfl,?_⟩⟩) (fun _ hle m5 h5 f5=>⟨_,rfl,on_spec h5 ⟨_,rfl,?_⟩⟩))
  ·have hw:IntKind.wrap .i64 (((lenS x).1:Int)+(v:Int))=(((lenS x).1+v:Nat):Int):=by rw [wrap64_id (by omega) (by omega)]; rfl
   rw [hw]
   exact ifB_f (tail m5 _ 3 _ h5 f5 (by omega) hle4 (.inr ⟨by decide,mat_lenCut hMat (by omega) (by omega) hsh⟩) (fun h0=>absurd h0 (by decide)))
  ·rw [decide_eq_true hz]
   have htk:=tk_lt (num src) p4 (lenS x).2
   have hw:IntKind.wrap .i64 (((lenS x).1:Int)+((tk (num src) p4 (lenS x).2:Nat):Int))=(((lenS x).1+tk (num src) p4 (lenS x).2:Nat):Int):=by rw [wrap64_id (by omega) (by omega)]; rfl
   rw [hw]
   have hT':=tail m5 _ z1 ((lenS x).1+tk (num src) p4 (lenS x).2) h5 f5 (by omega) (by omega) (.inl rfl) (fun _=>mat_len hMat (by omega) (by omega) hle)
   refine ifB_t ?_
   by_cases h284:x=284
   ·have e3:((x:Int) == 284)=true:=by rw [beq_iff_eq]; omega
    rw [e3]
    refine ifB_t ?_
    by_cases h258:(lenS x).1+tk (num src) p4 (lenS x).2=258
    ·have e4:((((lenS x).1+tk (num src) p4 (lenS x).2:Nat):Int) == 258)=true:=by rw [beq_iff_eq]; omega
     rw [e4]
     refine ifB_t (stop_spec h5 fun m6 h6 f6=>⟨rfl,?_⟩)
     rw [if_pos hz] at h6
     subst h284
     have h31:tk (num src) p4 5=31:=by
      have e5:(lenS 284).1+tk (num src) p4 (lenS 284).2=227+tk (num src) p4 5:=rfl
      omega
     exact hend m6 _ out1 0 (by decide) ho1 h6 (((F3.trans f4).trans f5).trans f6) (.isOpen (cod_284 hT hC hsy h31))
    ·have e4:((((lenS x).1+tk (num src) p4 (lenS x).2:Nat):Int) == 258)=false:=by rw [beq_eq_false_iff_ne]; omega
     rw [e4]
     exact ifB_f hT'
   ·have e3:((x:Int) == 284)=false:=by rw [beq_eq_false_iff_ne]; omega
    rw [e3]
    exact ifB_f hT'
 ·exact ifB_t (hend m4 _ out1 3 (by decide) ho1 h4 (F3.trans f4) (cod_short hT hC hsh))
 ·obtain ⟨k,hk⟩:=hT.full.hits (num src / 2 ^ p1)
  rw [hnh k] at hk; cases hk
end
end Go.M

namespace Go.M
open Go
set_option maxRecDepth 100000
section
variable {N0 s:Nat} {src dict:List Nat} {p:Nat} {out:List Nat} {z:Int} {m:Mem}
theorem stored_loop (h:SpAt N0 s src dict p out z m) (hout:OutOk out) {n:Nat} (hn:n < 65536) {c0:Sc} (hc0:c0=scOf src) {s0:St} {fin:Bool} {r':Env} {K:Kont} (hr':Env.keep [0,2] r'=[(0,.pointer (some ⟨s,0,none⟩)),(2,.int .i64 (n:Int))])
  (hst:z < 0→Reach c0 s0 ⟨p,dict++out,.stored fin n⟩)
  (hgo:z < 0→∀ m' p' out' r,OutOk out'→p≤p'→SpAt N0 s src dict p' out' z m'→SpF N0 s m m'→Reach c0 s0 ⟨p',dict++out',.stored fin 0⟩→K.kn r m')
  (hend:∀ m' p' out' z' r,0≤z'→OutOk out'→SpAt N0 s src dict p' out' z' m'→SpF N0 s m m'→(z < 0→Good c0 s0 z' (dict++out') p')→(0≤z→z'=z∧out'=out)→K.kn r m'):
  WPS PP 45 c_state_stored_rrrr K r' m:=by
 subst hc0
 refine WPS.piece [0,2] hr' (p_state_stored_rrrr s n m K ?_)
 rw [q_state_stored_rrrrrl]
 refine loopW ffOk mixedOk (L₀:=L_state_stored) (σ:=Nat×Nat×List Nat×Int) [0,2,4] (fun q=>[(0,.pointer (some ⟨s,0,none⟩)),(2,.int .i64 (n:Int)),(4,.int .i64 (q.1:Nat))])
  (fun q m'=>q.1≤n∧OutOk q.2.2.1∧SpAt N0 s src dict q.2.1 q.2.2.1 q.2.2.2 m'∧SpF N0 s m m'∧((q.2.2.2=z∧z < 0∧p≤q.2.1∧Reach (scOf src) s0 ⟨q.2.1,dict++q.2.2.1,.stored fin (n - q.1)⟩)∨(0≤q.2.2.2∧(z < 0→Good (scOf src) s0 q.2.2.2 (dict++q.2.2.1) q.2.1)∧(0≤z→q.2.2.2=z∧q.2.2.1=out))))
  (fun q=>n - q.1) (0,p,out,z) rfl ⟨Nat.zero_le _,hout,h,SpF.refl _ _ _,?_⟩ ?_
 ·by_cases hz:z < 0
  ·exact .inl ⟨rfl,hz,Nat.le_refl _,hst hz⟩
  ·exact .inr ⟨by show (0:Int)≤z; omega,fun h0=>absurd h0 hz,fun _=>⟨rfl,rfl⟩⟩
 rintro ⟨i,p1,out1,z1⟩ m1 ⟨hi,ho1,h1,F1,hs1⟩
 simp only at hi ho1 h1 hs1
 refine p_state_stored_rrrrrll s n i m1 _ ?_
 by_cases hin:i < n
 ·rw [decide_eq_true (by omega)]
  refine ifB_t (on_spec h1 ⟨_,rfl,?_⟩)
  rcases hs1 with ⟨rfl,hz,hpp,hR⟩ | ⟨hz1,hG,hsame⟩
  ·rw [decide_eq_true hz]
   have hw:IntKind.wrap .i64 ((i:Int)+1)=((i+1:Nat):Int):=by rw [wrap64_id (by omega) (by omega)]; rfl
   have hni:n - i=(n - (i+1))+1:=by omega
   rw [hni] at hR
   refine ifB_t (bits_spec h1 8 (by decide) (fun h0=>by omega) (fun _ hsh m2 v hv h2 f2=>⟨_,rfl,?_⟩) (fun _ hle m2 h2 f2=>⟨_,rfl,?_⟩))
   ·have hv':v < 256:=by simpa using hv
    rw [wrap_u8_id (by omega) (by omega),hw]
    refine give_spec h2 hv' (fun _=>⟨rfl,?_⟩) (fun h0=>absurd h0 (by decide)) (fun h0=>absurd h0 (by decide))
    exact ⟨(i+1,_,out1,3),rfl,⟨hin,ho1,h2,F1.trans f2,.inr ⟨(by show (0:Int)≤3; decide),fun _=>(stored_byte (n:=n - (i+1)) hR).1 hsh,fun h0=>by omega⟩⟩,by simp only; omega⟩
   ·have hb:=tk_lt (num src) p1 8
    have hb':tk (num src) p1 8 < 256:=by simpa using hb
    rw [wrap_u8_id (by omega) (by omega),hw]
    refine give_spec h2 hb' (fun h0=>by omega) (fun _ hl m3 h3 f3=>⟨rfl,?_⟩) (fun _ hl m3 h3 f3=>⟨rfl,?_⟩)
    ·exact ⟨(i+1,_,out1,4),rfl,⟨hin,ho1,h3,(F1.trans f2).trans f3,.inr ⟨(by show (0:Int)≤4; decide),fun _=>.isLong (Reach.long hR (scOf_hd src) h1.le (by show 126976≤(dict++out1).length; rw [List.length_append]; omega)),fun h0=>by omega⟩⟩,by simp only; omega⟩
    ·refine ⟨(i+1,_,out1++[tk (num src) p1 8],z1),rfl,⟨hin,ho1.push hb' hl,h3,(F1.trans f2).trans f3,.inl ⟨rfl,hz,by simp only; omega,?_⟩⟩,by simp only; omega⟩
     simp only
     rw [← List.append_assoc]
     exact (stored_byte (q:=0) hR).2 hle
  ·rw [decide_eq_false (by omega)]
   exact ifB_f (hend m1 p1 out1 z1 _ hz1 ho1 h1 F1 hG hsame)
 ·rw [decide_eq_false (by omega)]
  have hin':i=n:=by omega
  subst hin'
  refine ifB_f ?_
  rcases hs1 with ⟨rfl,hz,hpp,hR⟩ | ⟨hz1,hG,hsame⟩
  ·rw [Nat.sub_self] at hR
   exact hgo hz m1 p1 out1 _ ho1 hpp h1 F1 hR
  ·exact hend m1 p1 out1 z1 _ hz1 ho1 h1 F1 hG hsame
theorem stored_spec (h:SpAt N0 s src dict p out z m) (hout:OutOk out) {c0:Sc} (hc0:c0=scOf src) {s0:St} {fin:Bool} {q0:Nat}
  (hr:z < 0→ReachN c0 s0 (if c0.tot < 8 * ((p+7) / 8)+32 then .stop (dict++out) .cut q0
   else if tk c0.N (8 * ((p+7) / 8)) 16+tk c0.N (8 * ((p+7) / 8)+16) 16≠65535 then .stop (dict++out) .bad q0
   else .go ⟨8 * ((p+7) / 8)+32,dict++out,.stored fin (tk c0.N (8 * ((p+7) / 8)) 16)⟩)) {R:Value→Mem→Prop}
  (hgo:z < 0→∀ m' p' out',OutOk out'→p≤p'→SpAt N0 s src dict p' out' z m'→SpF N0 s m m'→(fin=true→Runs c0 s0 (dict++out') .fin p')→(fin=false→Reach c0 s0 ⟨p',dict++out',.block⟩)→R (.tuple #[]) m')
  (hend:∀ m' p' out' z',0≤z'→OutOk out'→SpAt N0 s src dict p' out' z' m'→SpF N0 s m m'→(z < 0→Good c0 s0 z' (dict++out') p')→(0≤z→z'=z∧out'=out)→R (.tuple #[]) m'):
  CallM PP f_state_stored #[.pointer (some ⟨s,0,none⟩)] m R:=by
 subst hc0
 have hle:=h.le
 have hbig:=h.big
 refine e_state_stored s m R ⟨_,h.pos,rfl,by decide,?_⟩
 have hq:IntKind.wrap .i64 (IntKind.wrap .i64 (Int.tdiv (IntKind.wrap .i64 ((p:Int)+7)) 8) * 8)=((8 * ((p+7) / 8):Nat):Int):=by
  rw [wrap64_id (n:=(p:Int)+7) (by omega) (by omega),show Int.tdiv ((p:Int)+7) 8=(((p+7) / 8:Nat):Int) from rfl,wrap64_id (n:=(((p+7) / 8:Nat):Int)) (by omega) (by omega),wrap64_id (by omega) (by omega)]
  omega
 rw [hq]
 refine StW.at rfl (h.wr 1 (by decide) (by decide)) fun m1 c1 f1 _=>?_
 obtain ⟨k1,k2,k3,k4,k5,k6⟩:=h.set f1 (by decide)
 have F1:=spF_set h.lo (h.wr 1 (by decide) (by decide)) f1
 have h1:SpAt N0 s src dict (8 * ((p+7) / 8)) out z m1:=⟨k1,c1,k3 (by decide),k4 (by decide),k5 (by decide),k6,h.lo,by omega,h.big⟩
 generalize hqq:8 * ((p+7) / 8)=q at h1 hr
 have hpq:p≤q:=by omega
 by_cases hz:z < 0
 rotate_left
 ·refine bits_spec h1 16 (by decide) (fun _=>⟨_,rfl,?_⟩) (fun h0=>absurd h0 hz) (fun h0=>absurd h0 hz)
  refine bits_spec h1 16 (by decide) (fun _=>⟨_,rfl,on_spec h1 ⟨_,rfl,?_⟩⟩) (fun h0=>absurd h0 hz) (fun h0=>absurd h0 hz)
  rw [decide_eq_false hz]
  refine ifB_f (stored_loop (n:=0) h1 hout (by decide) rfl (s0:=s0) (fin:=fin) rfl (fun h0=>absurd h0 hz) (fun h0=>absurd h0 hz) fun m2 p2 out2 z2 r hz2 ho2 h2 f2 hg hs=>?_)
  exact hend m2 p2 out2 z2 hz2 ho2 h2 (F1.trans f2) hg hs
 have hr:=hr hz
 have off:∀ (n:Nat) m2 p2 z2 r',n < 65536→0≤z2→SpAt N0 s src dict p2 out z2 m2→SpF N0 s m m2→(∀ p',Good (scOf src) s0 z2 (dict++out) p')→Env.keep [0,2] r'=[(0,.pointer (some ⟨s,0,none⟩)),(2,.int .i64 (n:Int))]→
   WPS PP 45 c_state_stored_rrrr (retK PP r_state_stored R) r' m2:=by
  intro n m2 p2 z2 r' hn hz2 h2 f2 hg hr'
  refine stored_loop h2 hout hn rfl (s0:=s0) (fin:=fin) hr' (fun h0=>by omega) (fun h0=>by omega) fun m3 p3 out3 z3 r hz3 ho3 h3 f3 _ hs=>?_
  obtain ⟨rfl,rfl⟩:=hs hz2
  exact hend m3 p3 out3 z3 hz3 ho3 h3 (f2.trans f3) (fun _=>hg p3) (fun h0=>by omega)
 refine bits_spec h1 16 (by decide) (fun h0=>by omega) (fun _ hsh m2 v hv h2 f2=>⟨_,rfl,?_⟩) (fun _ hle2 m2 h2 f2=>⟨_,rfl,?_⟩)
 ·refine bits_spec h2 16 (by decide) (fun _=>⟨_,rfl,on_spec h2 ⟨_,rfl,ifB_f ?_⟩⟩) (fun h0=>absurd h0 (by decide)) (fun h0=>absurd h0 (by decide))
  rw [if_pos (show (scOf src).tot < q+32 by show 8 * src.length < _; omega)] at hr
  exact off v m2 _ 3 _ (by simpa using hv) (by decide) h2 (F1.trans f2) (fun p'=>.isShort hr (self_app _)) rfl
 ·have hn:=tk_lt (num src) q 16
  have hn':tk (num src) q 16 < 65536:=by simpa using hn
  refine bits_spec h2 16 (by decide) (fun h0=>by omega) (fun _ hsh m3 v hv h3 f3=>⟨_,rfl,on_spec h3 ⟨_,rfl,ifB_f ?_⟩⟩) (fun _ hle3 m3 h3 f3=>⟨_,rfl,on_spec h3 ⟨_,rfl,?_⟩⟩)
  ·rw [if_pos (show (scOf src).tot < q+32 by show 8 * src.length < _; omega)] at hr
   exact off _ m3 _ 3 _ hn' (by decide) h3 ((F1.trans f2).trans f3) (fun p'=>.isShort hr (self_app _)) rfl
  ·rw [decide_eq_true hz]
   rw [if_neg (show ¬ (scOf src).tot < q+32 by show ¬ 8 * src.length < _; omega)] at hr
   have hm:=tk_lt (num src) (q+16) 16
   have hm':tk (num src) (q+16) 16 < 65536:=by simpa using hm
   have hw:IntKind.wrap .i64 (((tk (num src) q 16:Nat):Int)+((tk (num src) (q+16) 16:Nat):Int))=((tk (num src) q 16+tk (num src) (q+16) 16:Nat):Int):=by rw [wrap64_id (by omega) (by omega)]; rfl
   rw [hw]
   refine ifB_t ?_
   by_cases hne:tk (num src) q 16+tk (num src) (q+16) 16≠65535
   ·rw [if_pos (show tk (scOf src).N q 16+tk (scOf src).N (q+16) 16≠65535 from hne)] at hr
    have e1:(((tk (num src) q 16+tk (num src) (q+16) 16:Nat):Int) != 65535)=true:=by rw [bne_iff_ne]; omega
    rw [e1]
    refine ifB_t (stop_spec h3 fun m4 h4 f4=>⟨rfl,?_⟩)
    rw [if_pos hz] at h4
    exact off _ m4 _ 2 _ hn' (by decide) h4 (((F1.trans f2).trans f3).trans f4) (fun p'=>.isWrong hr (by decide) (self_app _)) rfl
   ·rw [if_neg (show ¬ tk (scOf src).N q 16+tk (scOf src).N (q+16) 16≠65535 from hne)] at hr
    have e1:(((tk (num src) q 16+tk (num src) (q+16) 16:Nat):Int) != 65535)=false:=by rw [bne_eq_false_iff_eq]; omega
    rw [e1]
    refine ifB_f (stored_loop h3 hout hn' rfl (s0:=s0) (fin:=fin) rfl (fun _=>?_) (fun _ m4 p4 out4 r ho4 hp4 h4 f4 hR=>?_) (fun m4 p4 out4 z4 r hz4 ho4 h4 f4 hg hs=>?_))
    ·rw [show q+16+16=q+32 by omega]; exact hr
    ·obtain ⟨g1,g2⟩:=stored_end hR
     exact hgo hz m4 p4 out4 ho4 (by omega) h4 (((F1.trans f2).trans f3).trans f4) g1 g2
    ·exact hend m4 p4 out4 z4 hz4 ho4 h4 (((F1.trans f2).trans f3).trans f4) (fun _=>hg hz) (fun h0=>by omega)
theorem whole_spec (h:SpAt N0 s src dict p out z m) {a:Option Addr} {l k b o:Nat} {L:List Nat} (hS:SlcI m a l k b o L) (h15:∀ v ∈ L,v≤15) (hl:l < 65536) {R:Value→Mem→Prop}
  (hk:∀ m',SpAt N0 s src dict p out (if z < 0 then (if 32768 < krn 15 L then 2 else if krn 15 L < 32768 then 0 else z) else z) m'→SpF N0 s m m'→R (.tuple #[]) m'):
  CallM PP f_state_whole #[.pointer (some ⟨s,0,none⟩),.slice a l k] m R:=by
 refine e_state_whole s a l k m R (room_spec hS h15 hl ⟨_,rfl,?_⟩)
 by_cases h1:32768 < krn 15 L
 ·rw [decide_eq_true (by omega)]
  rw [if_pos h1] at hk
  exact ifB_t (stop_spec h fun m1 h2 f1=>⟨rfl,hk m1 h2 f1⟩)
 ·rw [decide_eq_false (by omega)]
  rw [if_neg h1] at hk
  refine ifB_f ?_
  by_cases h2:krn 15 L < 32768
  ·rw [decide_eq_true (by omega)]
   rw [if_pos h2] at hk
   exact ifB_t (stop_spec h fun m1 h2 f1=>⟨rfl,hk m1 h2 f1⟩)
  ·rw [decide_eq_false (by omega)]
   rw [if_neg h2] at hk
   refine ifB_f (hk m ?_ (SpF.refl _ _ _))
   have:(if z < 0 then z else z)=z:=by split <;> rfl
   rw [this]; exact h
theorem Order_spec {R:Value→Mem→Prop} (hk:∀ m',(∀ (i v:Nat),clOrder[i]?=some v→cell? m' ⟨m.size,i,none⟩=some (.int .i64 (v:Int)))→(∀ S,Fr S m m')→m.size < m'.size→R (.slice (some ⟨m.size,0,none⟩) 19 19) m'):CallM PP f_spec_Order #[] m R:=by
 refine e_spec_Order m R ?_
 have key:∀ {K:Value→Mem→Prop},K (.slice (some ⟨m.size,0,none⟩) 19 19) (m.push (.cells ((clOrder.map fun v:Nat=>Value.int .i64 ((v:Nat):Int)).toArray) t_int))→
   SemW PP (sv (Instr.buildSlice t_s_int 19 #[(0,.int .i64 16),(1,.int .i64 17),(2,.int .i64 18),(3,.int .i64 0),(4,.int .i64 8),(5,.int .i64 7),(6,.int .i64 9),(7,.int .i64 6),(8,.int .i64 10),(9,.int .i64 5),(10,.int .i64 11),(11,.int .i64 4),(12,.int .i64 12),(13,.int .i64 3),(14,.int .i64 13),(15,.int .i64 2),(16,.int .i64 14),(17,.int .i64 1),(18,.int .i64 15)])) m (NextW PP K):=fun h=>Eq.mpr (by kernel_rfl) h
 refine key ⟨_,_,_,rfl,hk _ (fun i v hv=>?_) (fun S=>Fr.push _) (by simp)⟩
 refine cell_new ?_
 simp [hv]
end
end Go.M
