/- The reference: a block with codes of its own. The reference: blocks, and the whole stream. What is read of a stream that the reference has told. -/
import Derived.Test.YtjphakdpokombaaGreatDoorPkv
import Derived.Test.YtjphakdpokombaaGreatDoorPkn
import Derived.Test.YtjphakdpokombaaGreatDoorPks
import Derived.Test.YtjphakdpokombaaGreatDoorPkr
namespace Go.M
open Go
set_option maxRecDepth 100000
section
variable {N0 s:Nat} {src dict:List Nat} {p:Nat} {out:List Nat} {z:Int} {m:Mem}
def hdNx (H:List Nat) (fin:Bool) (q0:Nat):Hd→Nx
 | .cut=>.stop H .cut q0
 | .bad=>.stop H .bad q0
 | .ok T p'=>.go ⟨p',H,.coded fin T⟩
def lsHd (nl:Nat):Ls→Hd
 | .cut=>.cut
 | .bad=>.bad
 | .go ls q=>hdCodes nl ls q
theorem dyn_told (h:SpAt N0 s src dict p out z m) (hout:OutOk out) (hdl:dict.length≤32768) {a:Option Addr} {l k b o:Nat} {L:List Nat} (hS:SlcI m a l k b o L) (h15:∀ v ∈ L,v≤15) (hl:l=19) (hfull:z < 0→Full L)
  {nl nd:Nat} (hnl:257≤nl∧nl≤288) (hnd:1≤nd∧nd≤32) {c0:Sc} (hc0:c0=scOf src) {s0:St} {fin:Bool} {q0:Nat} {r':Env}
  (hr':Env.keep [0,2,3,5] r'=[(0,.pointer (some ⟨s,0,none⟩)),(2,.int .i64 (nl:Int)),(3,.int .i64 (nd:Int)),(5,.slice a l k)])
  (hr:z < 0→ReachN c0 s0 (hdNx (dict++out) fin q0 (lsHd nl (lrun (sc0 (num src) (8 * src.length)) (tabV L) (mnOf L) (nl+nd) (nl+nd) [] p)))) {R:Value→Mem→Prop}
  (hgo:z < 0→∀ m' p' out',OutOk out'→p≤p'→SpAt N0 s src dict p' out' z m'→SpF N0 s m m'→(fin=true→Runs c0 s0 (dict++out') .fin p')→(fin=false→Reach c0 s0 ⟨p',dict++out',.block⟩)→R (.tuple #[]) m')
  (hend:∀ m' p' out' z',0≤z'→OutOk out'→SpAt N0 s src dict p' out' z' m'→SpF N0 s m m'→(z < 0→Good c0 s0 z' (dict++out') p')→(0≤z→z'=z∧out'=out)→R (.tuple #[]) m'):
  WPS PP 95 c_state_dynamic_rrrrrrr (retK PP r_state_dynamic R) r' m:=by
 subst hc0
 have hs:s < m.size:=by have:=cell_block h.z; simpa using this
 refine WPS.piece [0,2,3,5] hr' (p_state_dynamic_rrrrrrr s nl nd a l k m _ ?_)
 have hw:IntKind.wrap .i64 ((nl:Int)+(nd:Int))=((nl+nd:Nat):Int):=by rw [wrap64_id (by omega) (by omega)]; rfl
 rw [hw]
 refine told_spec h hS h15 hl (by omega) hfull fun m1 a1 k1 b1 o1 ls p1 z1 hrow hz0 hz1=>⟨_,_,_,rfl,on_spec hrow.st ⟨_,rfl,?_⟩⟩
 have h1:=hrow.st
 have f1:=hrow.fr
 by_cases hz1':z1 < 0
 rotate_left
 ·rw [decide_eq_false hz1']
  refine ifB_t (hend m1 p1 out z1 (by omega) hout h1 f1 (fun hz=>?_) (fun h0=>⟨hz0 h0,rfl⟩))
  have hr:=hr hz
  rcases hz1 hz with ⟨g1,_⟩ | ⟨_,g⟩
  ·omega
  ·rcases g with g | ⟨rfl,g⟩ | ⟨rfl,g⟩
   ·exact g.elim
   ·rw [g] at hr; exact .isShort hr (self_app _)
   ·rw [g] at hr; exact .isWrong hr (by decide) (self_app _)
 have hz:z < 0:=by
  by_cases h0:z < 0
  ·exact h0
  ·have:=hz0 (by omega); omega
 obtain ⟨rfl,hp1,hrun⟩:z1=z∧p≤p1∧lrun (sc0 (num src) (8 * src.length)) (tabV L) (mnOf L) (nl+nd) (nl+nd) [] p=.go ls p1:=by
  rcases hz1 hz with g | ⟨g,_⟩
  ·exact g
  ·omega
 rw [decide_eq_true hz]
 have hle:=h.le
 obtain ⟨hll,_,hp1t,hls15⟩:=lrun_go (by simp) (by simp) (show p≤(sc0 (num src) (8 * src.length)).tot from hle) (by simp) hrun
 have hr:=hr hz
 rw [hrun] at hr
 have hro:=hrow.row
 have hle1:=hro.own.le
 have hat:=hro.own.at_ (by omega)
 have hbs:b1≠s:=by have:=hrow.new (by omega); omega
 have hcell:∀ (i v:Nat),ls[i]?=some v→cell? m1 ⟨b1,o1+i,none⟩=some (.int .i64 (v:Int)):=fun i v hv=>hro.own.row i _ (by rw [List.getElem?_map,hv]; rfl)
 have h256:ls[256]?=some (ls.getD 256 0):=by rw [List.getD_eq_getElem?_getD,List.getElem?_eq_getElem (by omega)]; rfl
 have hln:ln (ls.take nl) 256=ls.getD 256 0:=by unfold ln; rw [List.getD_eq_getElem?_getD,List.getElem?_take_of_lt (by omega), ← List.getD_eq_getElem?_getD]
 have hSl:SlcI m1 (some ⟨b1,o1,none⟩) nl k1 b1 o1 (ls.take nl):=⟨by simp; omega,by omega,fun _=>rfl,fun i v hv=>hcell i v (by
  have hi:=(List.getElem?_eq_some_iff.1 hv).1
  rw [List.getElem?_take_of_lt (by simp at hi; omega)] at hv; exact hv)⟩
 have hSd:SlcI m1 (some ⟨b1,o1+nl,none⟩) (ls.length - nl) (k1 - nl) b1 (o1+nl) (ls.drop nl):=⟨by simp,by omega,fun _=>rfl,fun i v hv=>by
  rw [List.getElem?_drop] at hv
  rw [Nat.add_assoc]; exact hcell _ v hv⟩
 have hl15:∀ v ∈ ls.take nl,v≤15:=fun v hv=>hls15 v (List.mem_of_mem_take hv)
 have hd15:∀ v ∈ ls.drop nl,v≤15:=fun v hv=>hls15 v (List.mem_of_mem_drop hv)
 subst hat
 refine ifB_f ⟨by omega,⟨by omega,by omega⟩,by omega,⟨by omega,by omega⟩,⟨by omega,by omega⟩,_,hcell 256 _ h256,?_⟩
 have hsub:subA (some ⟨b1,o1,none⟩) ((nl:Int).toNat) 1 k1=some ⟨b1,o1+nl,none⟩:=by
  rw [Int.toNat_natCast,subA_lt (by omega)]
 rw [hsub,Int.toNat_natCast]
 by_cases h0:ls.getD 256 0=0
 ·have h0':=h0
  rw [h0]
  refine ifB_t (stop_spec h1 fun m2 h2 f2=>⟨rfl,?_⟩)
  rw [if_pos hz] at h2
  refine dyn_codes h2 hout hdl (hSl.sp f2 fun _=>hbs) (hSd.sp f2 fun _=>hbs) (fun _=>hbs) (fun _=>hbs) (by omega) (by omega) hl15 hd15 rfl (s0:=s0) (fin:=fin) (q0:=q0) rfl (fun h0=>absurd h0 (by decide)) (fun h0=>absurd h0 (by decide)) fun m' p' out' z' hz' ho' h' f' _ hsame=>?_
  obtain ⟨rfl,rfl⟩:=hsame (by decide)
  refine hend m' p' out' 0 (by decide) ho' h' ((f1.trans f2).trans f') (fun _=>.isOpen ?_) (fun h0=>by omega)
  have hr:ReachN (scOf src) s0 (hdNx (dict++out') fin q0 (hdCodes nl ls p1)):=hr
  unfold hdCodes at hr
  split at hr
  ·refine .inr (.inl ⟨p1,dict++out',fin,_,hr,.inr (.inl fun x hx=>?_)⟩)
   have hx:tabV (ls.take nl) x % 16≠0:=hx
   show tabV (ls.take nl) x / 16≠256
   rcases hit_dec (ls.take nl) x with ⟨k,hk⟩ | hn
   ·rw [(tab_mod hl15 hk).2]
    rintro rfl
    exact (hit_iff.1 hk).1 (by rw [hln,h0'])
   ·rw [tab_none hn] at hx; exact absurd rfl hx
  ·exact .bad hr (by decide)
 ·have e:(((ls.getD 256 0:Nat):Int) == 0)=false:=by rw [beq_eq_false_iff_ne]; omega
  rw [e]
  refine ifB_f (dyn_codes h1 hout hdl hSl hSd (fun _=>hbs) (fun _=>hbs) (by omega) (by omega) hl15 hd15 rfl (s0:=s0) (fin:=fin) (q0:=q0) rfl (fun _=>?_) (fun _ m' p' out' ho' hp' h' f' g1 g2=>?_) (fun m' p' out' z' hz' ho' h' f' g hsame=>?_))
  ·have hr:ReachN (scOf src) s0 (hdNx (dict++out) fin q0 (hdCodes nl ls p1)):=hr
   unfold hdCodes at hr
   split at hr
   ·rename_i hc; rw [if_pos hc]; exact hr
   ·rename_i hc; rw [if_neg hc]; exact hr
  ·exact hgo hz m' p' out' ho' (by omega) h' (f1.trans f') g1 g2
  ·exact hend m' p' out' z' hz' ho' h' (f1.trans f') (fun _=>g hz) (fun h0=>by omega)
structure ClsAt (m:Mem) (cb:Nat) (f:Nat→Nat):Prop where
 cell:∀ j,j < 19→cell? m ⟨cb,j,none⟩=some (.int .i64 (f j:Nat))∧Wr m ⟨cb,j,none⟩
 small:∀ j,f j < 8
 all:∀ (j:Nat) (v:Value),cell? m ⟨cb,j,none⟩=some v→∃ x,v=.int .i64 x
theorem make19_W {m:Mem} {K:Value→Mem→Prop} (h:K (.slice (some ⟨m.size,0,none⟩) 19 19) (m.push (.cells (Array.replicate 19 (.int .i64 0)) t_int))):
  SemW PP (sv (Instr.makeSlice t_s_int (.int .i64 19) (.int .i64 19))) m (NextW PP K):=Eq.mpr (by kernel_rfl) h
theorem ClsAt.sp {m':Mem} {cb:Nat} {f:Nat→Nat} (h:ClsAt m cb f) (hf:SpF N0 s m m') (hs:cb≠s):ClsAt m' cb f:=
 ⟨fun j hj=>⟨hf.cell (h.cell j hj).1 (.inr ⟨hs,by intro x e; cases e⟩),hf.wr (h.cell j hj).2⟩,h.small,fun j v hv=>by
  obtain ⟨v',hv'⟩:=cell_there (h.cell 0 (by decide)).1 hv hf
  obtain ⟨x,rfl⟩:=h.all j v' hv'
  have:=hf.cell hv' (.inr ⟨hs,by intro y e; cases e⟩)
  rw [hv] at this
  simp only [Option.some.injEq] at this
  exact ⟨x,this⟩⟩
theorem dynamic_rest (h:SpAt N0 s src dict p out z m) (hout:OutOk out) (hdl:dict.length≤32768)
  {nl nd nc:Nat} (hnl:257≤nl∧nl≤288) (hnd:1≤nd∧nd≤32) (hnc:nc≤19) {c0:Sc} (hc0:c0=scOf src) {s0:St} {fin:Bool} {q0:Nat} {r':Env}
  (hr':Env.keep [0,2,3,4] r'=[(0,.pointer (some ⟨s,0,none⟩)),(2,.int .i64 (nl:Int)),(3,.int .i64 (nd:Int)),(4,.int .i64 (nc:Int))])
  (hr:z < 0→ReachN c0 s0 (hdNx (dict++out) fin q0 (if 8 * src.length < p+3 * nc then .cut else hdLens (num src) (8 * src.length) nl nd nc p)))
  (hop:z < 0→ ¬ Full (clens (num src) p nc)→Odd c0 s0) {R:Value→Mem→Prop}
  (hgo:z < 0→∀ m' p' out',OutOk out'→p≤p'→SpAt N0 s src dict p' out' z m'→SpF N0 s m m'→(fin=true→Runs c0 s0 (dict++out') .fin p')→(fin=false→Reach c0 s0 ⟨p',dict++out',.block⟩)→R (.tuple #[]) m')
  (hend:∀ m' p' out' z',0≤z'→OutOk out'→SpAt N0 s src dict p' out' z' m'→SpF N0 s m m'→(z < 0→Good c0 s0 z' (dict++out') p')→(0≤z→z'=z∧out'=out)→R (.tuple #[]) m'):
  WPS PP 95 c_state_dynamic_rrrr (retK PP r_state_dynamic R) r' m:=by
 subst hc0
 have hs:s < m.size:=by have:=cell_block h.z; simpa using this
 have hN:=h.lo
 refine WPS.piece [0,2,3,4] hr' (p_state_dynamic_rrrr s nl nd nc m _ (make19_W ⟨_,_,_,rfl,?_⟩))
 have f1:∀ S,Fr S m (m.push (.cells (Array.replicate 19 (.int .i64 0)) t_int)):=fun S=>Fr.push _
 have C1:ClsAt (m.push (.cells (Array.replicate 19 (.int .i64 0)) t_int)) m.size fun _=>0:=⟨fun j hj=>⟨cell_new (by rw [Array.getElem?_replicate,if_pos hj]; rfl),wr_new (by simpa using hj)⟩,fun _=>by decide,fun j v hv=>by
  simp only [cell?,Array.getElem?_push_size,Option.isSome_none,Bool.false_eq_true,if_false,Array.getElem?_replicate] at hv
  split at hv
  ·simp only [Option.some.injEq] at hv; exact ⟨0,hv.symm⟩
  ·cases hv⟩
 have s1:(m.push (.cells (Array.replicate 19 (.int .i64 0)) t_int)).size=m.size+1:=Array.size_push ..
 generalize m.push (.cells (Array.replicate 19 (.int .i64 0)) t_int)=m1 at f1 C1 s1 ⊢
 generalize hcb:m.size=cb at C1
 have h1:=h.fresh f1
 have F1:SpF N0 s m m1:=.fresh f1
 rw [q_state_dynamic_rrrrrlrl]
 refine loopW ffOk mixedOk (L₀:=L_state_dynamic) (σ:=Nat×Nat×Int×(Nat→Nat)) [0,2,3,5,33,34] (fun q=>[(0,.pointer (some ⟨s,0,none⟩)),(2,.int .i64 (nl:Int)),(3,.int .i64 (nd:Int)),(5,.slice (some ⟨cb,0,none⟩) 19 19),(33,.int .i64 (nc:Int)),(34,.int .i64 (q.1:Nat))])
  (fun q m'=>q.1≤nc∧SpAt N0 s src dict q.2.1 out q.2.2.1 m'∧SpF N0 s m m'∧ClsAt m' cb q.2.2.2∧
   ((q.2.2.1=z∧z < 0∧q.2.1=p+3 * q.1∧∀ j,j < 19→q.2.2.2 j=if clOrder.idxOf j < q.1 then tk (num src) (p+3 * clOrder.idxOf j) 3 else 0)∨(0≤q.2.2.1∧(z < 0→∀ p',Good (scOf src) s0 q.2.2.1 (dict++out) p')∧(0≤z→q.2.2.1=z))))
  (fun q=>nc - q.1) (0,p,z,fun _=>0) rfl ⟨Nat.zero_le _,h1,F1,C1,?_⟩ ?_
 ·by_cases hz:z < 0
  ·exact .inl ⟨rfl,hz,rfl,fun j _=>by simp⟩
  ·exact .inr ⟨by show (0:Int)≤z; omega,fun h0=>absurd h0 hz,fun _=>rfl⟩
 rintro ⟨i,p2,z2,f⟩ m2 ⟨hi2,h2,F2,C2,hst⟩
 simp only at hi2 h2 C2 hst
 have hcbs:cb≠s:=by omega
 refine p_state_dynamic_rrrrrlrll s nl nd _ 19 19 nc i m2 _ ?_
 by_cases hin:i < nc
 ·rw [decide_eq_true (by omega)]
  have hw:IntKind.wrap .i64 ((i:Int)+1)=((i+1:Nat):Int):=by rw [wrap64_id (by omega) (by omega)]; rfl
  obtain ⟨v,hv,hv19,hvi⟩:=clOrder_get (show i < 19 by omega)
  have hq2:=F2.size
  refine ifB_t (Order_spec fun m3 hord f3 _=>?_)
  have h3:=h2.fresh f3
  have F3:SpF N0 s m2 m3:=.fresh f3
  have C3:=C2.sp F3 hcbs
  rw [hw]
  have hordA:cell? m3 (aplus ⟨m2.size,0,none⟩ ((i:Int)).toNat)=some (.int .i64 (v:Int)):=by
   rw [show aplus ⟨m2.size,0,none⟩ ((i:Int)).toNat=⟨m2.size,i,none⟩ by simp [aplus]]
   exact hord i v hv
  have hms:m2.size≠s:=by omega
  have lay:∀ (w:Nat) m4 p4 z4,w < 8→SpAt N0 s src dict p4 out z4 m4→SpF N0 s m3 m4→((z4=z2∧z2=z∧z < 0∧p4=p+3 * (i+1)∧w=tk (num src) (p+3 * i) 3∧p2=p+3 * i∧∀ j,j < 19→f j=if clOrder.idxOf j < i then tk (num src) (p+3 * clOrder.idxOf j) 3 else 0)∨(0≤z4∧(z < 0→∀ p',Good (scOf src) s0 z4 (dict++out) p')∧(0≤z→z4=z)))→
    ∀ {K:Kont},(∀ r m',(∃ q:Nat×Nat×Int×(Nat→Nat),Env.keep [0,2,3,5,33,34] r=[(0,.pointer (some ⟨s,0,none⟩)),(2,.int .i64 (nl:Int)),(3,.int .i64 (nd:Int)),(5,.slice (some ⟨cb,0,none⟩) 19 19),(33,.int .i64 (nc:Int)),(34,.int .i64 (q.1:Nat))]∧(q.1≤nc∧SpAt N0 s src dict q.2.1 out q.2.2.1 m'∧SpF N0 s m m'∧ClsAt m' cb q.2.2.2∧
   ((q.2.2.1=z∧z < 0∧q.2.1=p+3 * q.1∧∀ j,j < 19→q.2.2.2 j=if clOrder.idxOf j < q.1 then tk (num src) (p+3 * clOrder.idxOf j) 3 else 0)∨(0≤q.2.2.1∧(z < 0→∀ p',Good (scOf src) s0 q.2.2.1 (dict++out) p')∧(0≤z→q.2.2.1=z))))∧nc - q.1 < nc - i)→K.kn r m')→
    cell? m4 (aplus ⟨m2.size,0,none⟩ ((i:Int)).toNat)=some (.int .i64 (v:Int))∧(0≤(v:Int)∧(v:Int) < ((19:Nat):Int))∧StW m4 (aplus ⟨cb,0,none⟩ ((v:Int)).toNat) (.int .i64 (w:Int)) fun m19=>cell? m19 (aplus ⟨m2.size,0,none⟩ ((i:Int)).toNat)=some (.int .i64 (v:Int))∧
     K.kn [(0,.pointer (some ⟨s,0,none⟩)),(2,.int .i64 (nl:Int)),(3,.int .i64 (nd:Int)),(5,.slice (some ⟨cb,0,none⟩) 19 19),(6,.int .i64 (i:Int)),(33,.int .i64 (nc:Int)),(34,.int .i64 ((i+1:Nat):Int))] m19:=by
   intro w m4 p4 z4 hw8 h4 F4 hc K hK
   have C4:=C3.sp F4 hcbs
   have hc4:cell? m4 (aplus ⟨m2.size,0,none⟩ ((i:Int)).toNat)=some (.int .i64 (v:Int)):=F4.cell hordA (.inr ⟨hms,by intro x e; cases e⟩)
   refine ⟨hc4,⟨by omega,by omega⟩,?_⟩
   rw [show aplus ⟨cb,0,none⟩ ((v:Int)).toNat=⟨cb,v,none⟩ by simp [aplus]]
   refine StW.at rfl (C4.cell v hv19).2 fun m5 c5 f5 _=>?_
   have hc5:cell? m5 (aplus ⟨m2.size,0,none⟩ ((i:Int)).toNat)=some (.int .i64 (v:Int)):=f5.cell hc4 (by
    rintro ⟨e,_⟩
    have e:m2.size=cb:=e
    have:=cell_block (C2.cell 0 (by decide)).1
    simp only at this; omega)
   refine ⟨hc5,hK _ _ ⟨(i+1,p4,z4,fun j=>if j=v then w else f j),rfl,⟨by simp only; omega,?_,?_,?_,?_⟩,by simp only; omega⟩⟩
   ·exact h4.rowI (k:=1) (f5.mono fun x y ⟨e,_⟩=>⟨e,by decide⟩) (fun _=>⟨by omega,hcbs⟩) (fun _=>C4.all)
   ·exact ((F2.trans F3).trans F4).new f5 fun x _ ⟨e,_⟩=>by omega
   ·refine ⟨fun j hj=>⟨?_,(C4.cell j hj).2.fr f5⟩,fun j=>?_,fun j x hx=>?_⟩
    ·by_cases hjv:j=v
     ·subst hjv; simp only [if_true]; exact c5
     ·simp only [if_neg hjv]
      exact f5.cell (C4.cell j hj).1 (by rintro ⟨_,e⟩; exact hjv e)
    ·simp only; split
     ·exact hw8
     ·exact C4.small j
    ·by_cases hjv:j=v
     ·subst hjv
      rw [c5] at hx
      simp only [Option.some.injEq] at hx
      exact ⟨_,hx.symm⟩
     ·obtain ⟨y,hy⟩:=f5.back (C4.cell 0 (by decide)).1 hx
      have:=f5.cell hy (by rintro ⟨_,e⟩; exact hjv e)
      rw [hx] at this
      simp only [Option.some.injEq] at this
      subst this
      exact C4.all j _ hy
   ·rcases hc with ⟨rfl,rfl,hz,rfl,rfl,rfl,hf⟩ | hc
    ·refine .inl ⟨rfl,hz,rfl,fun j hj=>?_⟩
     simp only
     by_cases hjv:j=v
     ·subst hjv
      rw [if_pos rfl,hvi,if_pos (by omega)]
     ·rw [if_neg hjv,hf j hj]
      have hji:clOrder.idxOf j≠i:=by
       intro e
       obtain ⟨g1,g2⟩:=clOrder_idx hj
       rw [e,hv] at g1
       simp only [Option.some.injEq] at g1
       exact hjv g1.symm
      by_cases hlt:clOrder.idxOf j < i
      ·rw [if_pos hlt,if_pos (by omega)]
      ·rw [if_neg hlt,if_neg (by omega)]
    ·exact .inr hc
  refine ⟨_,_,_,rfl,⟨by omega,by omega⟩,_,hordA,?_⟩
  rcases hst with ⟨rfl,hz,rfl,hf⟩ | ⟨hz2,hg⟩
  ·have hr:=hr hz
   refine bits_spec h3 3 (by decide) (fun h0=>by omega) (fun _ hsh m4 w hw4 h4 F4=>⟨_,rfl,?_⟩) (fun _ hle m4 h4 F4=>⟨_,rfl,?_⟩)
   ·refine lay w m4 _ 3 (by simpa using hw4) h4 F4 (.inr ⟨by decide,fun _ p'=>?_,fun h0=>by omega⟩) fun r m' h=>h
    rw [if_pos (by omega)] at hr
    exact .isShort hr (self_app _)
   ·exact lay _ m4 _ _ (by have:=tk_lt (num src) (p+3 * i) 3; simpa using this) h4 F4 (.inl ⟨rfl,rfl,hz,by omega,rfl,rfl,hf⟩) fun r m' h=>h
  ·refine bits_spec h3 3 (by decide) (fun _=>⟨_,rfl,?_⟩) (fun h0=>by omega) (fun h0=>by omega)
   exact lay 0 m3 _ _ (by decide) h3 (SpF.refl _ _ _) (.inr ⟨hz2,hg⟩) fun r m' h=>h
 ·rw [decide_eq_false (by omega)]
  have hin':i=nc:=by omega
  subst hin'
  have hSl:SlcI m2 (some ⟨cb,0,none⟩) 19 19 cb 0 ((List.range 19).map f):=⟨by simp,Nat.le_refl _,fun _=>rfl,fun j v hv=>by
   rw [List.getElem?_map] at hv
   have hj:j < 19:=by
    by_cases hj:j < 19
    ·exact hj
    ·rw [List.getElem?_eq_none (by simpa using hj)] at hv; cases hv
   rw [List.getElem?_range hj] at hv
   simp only [Option.map_some,Option.some.injEq] at hv
   subst hv
   rw [Nat.zero_add]; exact (C2.cell j hj).1⟩
  have hL15:∀ v ∈ (List.range 19).map f,v≤15:=fun v hv=>by
   obtain ⟨j,_,rfl⟩:=List.mem_map.1 hv
   have:=C2.small j; omega
  refine ifB_f (WPS.piece [0,2,3,5] rfl (p_state_dynamic_rrrrrr s nl nd _ 19 19 m2 _ (on_spec h2 ⟨_,rfl,?_⟩)))
  have off:∀ m3 z3 (r':Env),SpAt N0 s src dict p2 out z3 m3→SpF N0 s m2 m3→0≤z3→(z < 0→∀ p',Good (scOf src) s0 z3 (dict++out) p')→(0≤z→z3=z)→
    Env.keep [0,2,3,5] r'=[(0,.pointer (some ⟨s,0,none⟩)),(2,.int .i64 (nl:Int)),(3,.int .i64 (nd:Int)),(5,.slice (some ⟨cb,0,none⟩) 19 19)]→WPS PP 95 c_state_dynamic_rrrrrrr (retK PP r_state_dynamic R) r' m3:=by
   intro m3 z3 r' h3 f3 hz3 hg hsame hr'
   refine dyn_told h3 hout hdl (hSl.sp f3 fun _=>hcbs) hL15 rfl (fun h0=>by omega) hnl hnd rfl (s0:=s0) (fin:=fin) (q0:=q0) hr' (fun h0=>by omega) (fun h0=>by omega) fun m' p' out' z' hz' ho' h' f' _ hs'=>?_
   obtain ⟨rfl,rfl⟩:=hs' hz3
   exact hend m' p' out' z' hz' ho' h' ((F2.trans f3).trans f') (fun hz=>hg hz p') (fun h0=>⟨hsame h0,rfl⟩)
  rcases hst with ⟨rfl,hz,rfl,hf⟩ | ⟨hz2,hg1,hg2⟩
  rotate_left
  ·rw [decide_eq_false (by omega)]
   exact ifB_f (off m2 z2 _ h2 (SpF.refl _ _ _) hz2 hg1 hg2 rfl)
  rw [decide_eq_true hz]
  have hcl:(List.range 19).map f=clens (num src) p i:=by
   unfold clens
   refine List.map_congr_left fun j hj=>?_
   exact hf j (List.mem_range.1 hj)
  have hr:=hr hz
  have hle2:=h2.le
  rw [if_neg (by omega)] at hr
  refine ifB_t (whole_spec h2 hSl hL15 (by decide) fun m3 h3 f3=>⟨rfl,?_⟩)
  rw [if_pos hz] at h3
  unfold hdLens at hr
  by_cases g1:32768 < krn 15 ((List.range 19).map f)
  ·rw [if_pos g1] at h3
   rw [hcl] at g1
   rw [if_neg (by rw [over_bad (hcl ▸ hL15) g1]; simp)] at hr
   exact off m3 2 _ h3 f3 (by decide) (fun _ p'=>.isWrong hr (by decide) (self_app _)) (fun h0=>by omega) rfl
  ·rw [if_neg g1] at h3
   by_cases g2:krn 15 ((List.range 19).map f) < 32768
   ·rw [if_pos g2] at h3
    exact off m3 0 _ h3 f3 (by decide) (fun _ p'=>.isOpen (hop hz fun hk=>by rw [hcl] at g2; have:=(full_iff (hcl ▸ hL15)).1 hk; omega)) (fun h0=>by omega) rfl
   ·rw [if_neg g2] at h3
    have hFu:Full ((List.range 19).map f):=(full_iff hL15).2 (by show krn 15 _=32768; omega)
    rw [hcl] at hFu
    rw [if_pos (full_ok hFu)] at hr
    refine dyn_told h3 hout hdl (hSl.sp f3 fun _=>hcbs) hL15 rfl (fun _=>hcl ▸ hFu) hnl hnd rfl (s0:=s0) (fin:=fin) (q0:=q0) rfl (fun _=>?_) (fun _ m' p' out' ho' hp' h' f' k1 k2=>?_) (fun m' p' out' z' hz' ho' h' f' k1 k2=>?_)
    ·rw [hcl]
     generalize lrun (sc0 (num src) (8 * src.length)) (tabV (clens (num src) p i)) (mnOf (clens (num src) p i)) (nl+nd) (nl+nd) [] (p+3 * i)=q at hr ⊢
     cases q <;> exact hr
    ·exact hgo hz m' p' out' ho' (by omega) h' ((F2.trans f3).trans f') k1 k2
    ·exact hend m' p' out' z' hz' ho' h' ((F2.trans f3).trans f') (fun _=>k1 hz) (fun h0=>by omega)
theorem stDynamic_spec (h:SpAt N0 s src dict p out z m) (hout:OutOk out) (hdl:dict.length≤32768) {c0:Sc} (hc0:c0=scOf src) {s0:St} {fin:Bool} {q0:Nat}
  (hr:z < 0→ReachN c0 s0 (hdNx (dict++out) fin q0 (c0.hd p)))
  (hop:z < 0→ ¬ Full (clens (num src) (p+14) (tk (num src) (p+10) 4+4))→Odd c0 s0) {R:Value→Mem→Prop}
  (hgo:z < 0→∀ m' p' out',OutOk out'→p≤p'→SpAt N0 s src dict p' out' z m'→SpF N0 s m m'→(fin=true→Runs c0 s0 (dict++out') .fin p')→(fin=false→Reach c0 s0 ⟨p',dict++out',.block⟩)→R (.tuple #[]) m')
  (hend:∀ m' p' out' z',0≤z'→OutOk out'→SpAt N0 s src dict p' out' z' m'→SpF N0 s m m'→(z < 0→Good c0 s0 z' (dict++out') p')→(0≤z→z'=z∧out'=out)→R (.tuple #[]) m'):
  CallM PP f_state_dynamic #[.pointer (some ⟨s,0,none⟩)] m R:=by
 subst hc0
 have hle:=h.le
 have hw1:∀ v:Nat,v < 32→IntKind.wrap .i64 (257+(v:Int))=((257+v:Nat):Int)∧IntKind.wrap .i64 (1+(v:Int))=((1+v:Nat):Int)∧IntKind.wrap .i64 (4+(v:Int))=((4+v:Nat):Int):=fun v hv=>by
  rw [wrap64_id (by omega) (by omega),wrap64_id (by omega) (by omega),wrap64_id (by omega) (by omega)]
  exact ⟨rfl,rfl,rfl⟩
 have off:∀ m3 p3 z3 (v1 v2 v3:Nat) (r':Env),v1 < 32→v2 < 32→v3 < 16→SpAt N0 s src dict p3 out z3 m3→SpF N0 s m m3→0≤z3→(z < 0→∀ p',Good (scOf src) s0 z3 (dict++out) p')→(0≤z→z3=z)→
   Env.keep [0,2,3,4] r'=[(0,.pointer (some ⟨s,0,none⟩)),(2,.int .i64 ((257+v1:Nat):Int)),(3,.int .i64 ((1+v2:Nat):Int)),(4,.int .i64 ((4+v3:Nat):Int))]→WPS PP 95 c_state_dynamic_rrrr (retK PP r_state_dynamic R) r' m3:=by
  intro m3 p3 z3 v1 v2 v3 r' hv1 hv2 hv3 h3 f3 hz3 hg hsame hr'
  refine dynamic_rest h3 hout hdl (by omega) (by omega) (by omega) rfl (s0:=s0) (fin:=fin) (q0:=q0) hr' (fun h0=>by omega) (fun h0=>by omega) (fun h0=>by omega) fun m' p' out' z' hz' ho' h' f' _ hs'=>?_
  obtain ⟨rfl,rfl⟩:=hs' hz3
  exact hend m' p' out' z' hz' ho' h' (f3.trans f') (fun hz=>hg hz p') (fun h0=>⟨hsame h0,rfl⟩)
 refine e_state_dynamic s m R ?_
 by_cases hz:z < 0
 rotate_left
 ·refine bits_spec h 5 (by decide) (fun _=>⟨_,rfl,bits_spec h 5 (by decide) (fun _=>⟨_,rfl,bits_spec h 4 (by decide) (fun _=>⟨_,rfl,on_spec h ⟨_,rfl,?_⟩⟩) (fun h0=>absurd h0 hz) (fun h0=>absurd h0 hz)⟩) (fun h0=>absurd h0 hz) (fun h0=>absurd h0 hz)⟩) (fun h0=>absurd h0 hz) (fun h0=>absurd h0 hz)
  rw [decide_eq_false hz]
  exact ifB_f (off m p z 0 0 0 _ (by decide) (by decide) (by decide) h (SpF.refl _ _ _) (by omega) (fun h0=>absurd h0 hz) (fun _=>rfl) rfl)
 have hr:=hr hz
 have hr:ReachN (scOf src) s0 (hdNx (dict++out) fin q0 (hdOf (num src) (8 * src.length) p)):=hr
 unfold hdOf at hr
 have cut:8 * src.length < p+14→∀ p',Good (scOf src) s0 3 (dict++out) p':=fun hc p'=>by
  rw [if_pos hc] at hr; exact .isShort hr (self_app _)
 refine bits_spec h 5 (by decide) (fun h0=>by omega) (fun _ hsh m1 v1 hv1 h1 f1=>⟨_,rfl,?_⟩) (fun _ hle1 m1 h1 f1=>⟨_,rfl,?_⟩)
 ·have hv1':v1 < 32:=by simpa using hv1
  refine bits_spec h1 5 (by decide) (fun _=>⟨_,rfl,bits_spec h1 4 (by decide) (fun _=>⟨_,rfl,on_spec h1 ⟨_,rfl,?_⟩⟩) (fun h0=>absurd h0 (by decide)) (fun h0=>absurd h0 (by decide))⟩) (fun h0=>absurd h0 (by decide)) (fun h0=>absurd h0 (by decide))
  rw [(hw1 v1 hv1').1]
  exact ifB_f (off m1 _ 3 v1 0 0 _ hv1' (by decide) (by decide) h1 f1 (by decide) (fun _=>cut (by omega)) (fun h0=>by omega) rfl)
 have hv1:tk (num src) p 5 < 32:=by have:=tk_lt (num src) p 5; simpa using this
 refine bits_spec h1 5 (by decide) (fun h0=>by omega) (fun _ hsh m2 v2 hv2 h2 f2=>⟨_,rfl,?_⟩) (fun _ hle2 m2 h2 f2=>⟨_,rfl,?_⟩)
 ·have hv2':v2 < 32:=by simpa using hv2
  refine bits_spec h2 4 (by decide) (fun _=>⟨_,rfl,on_spec h2 ⟨_,rfl,?_⟩⟩) (fun h0=>absurd h0 (by decide)) (fun h0=>absurd h0 (by decide))
  rw [(hw1 _ hv1).1,(hw1 v2 hv2').2.1]
  exact ifB_f (off m2 _ 3 _ v2 0 _ hv1 hv2' (by decide) h2 (f1.trans f2) (by decide) (fun _=>cut (by omega)) (fun h0=>by omega) rfl)
 have hv2:tk (num src) (p+5) 5 < 32:=by have:=tk_lt (num src) (p+5) 5; simpa using this
 refine bits_spec h2 4 (by decide) (fun h0=>by omega) (fun _ hsh m3 v3 hv3 h3 f3=>⟨_,rfl,on_spec h3 ⟨_,rfl,?_⟩⟩) (fun _ hle3 m3 h3 f3=>⟨_,rfl,on_spec h3 ⟨_,rfl,?_⟩⟩)
 ·have hv3':v3 < 16:=by simpa using hv3
  rw [(hw1 _ hv1).1,(hw1 _ hv2).2.1,(hw1 v3 (by omega)).2.2]
  exact ifB_f (off m3 _ 3 _ _ v3 _ hv1 hv2 hv3' h3 ((f1.trans f2).trans f3) (by decide) (fun _=>cut (by omega)) (fun h0=>by omega) rfl)
 have hv3:tk (num src) (p+5+5) 4 < 16:=by have:=tk_lt (num src) (p+5+5) 4; simpa using this
 rw [(hw1 _ hv1).1,(hw1 _ hv2).2.1,(hw1 _ (show tk (num src) (p+5+5) 4 < 32 by omega)).2.2,decide_eq_true hz]
 have F3:=(f1.trans f2).trans f3
 refine ifB_t ?_
 by_cases g1:29 < tk (num src) p 5
 ·rw [decide_eq_true (by omega)]
  refine ifB_t (stop_spec h3 fun m4 h4 f4=>⟨rfl,?_⟩)
  rw [if_pos hz] at h4
  refine off m4 _ 0 _ _ _ _ hv1 hv2 hv3 h4 (F3.trans f4) (by decide) (fun _ _=>.isOpen ?_) (fun h0=>by omega) rfl
  rw [if_neg (by omega),if_pos g1] at hr
  exact .bad hr (by decide)
 rw [decide_eq_false (by omega)]
 refine ifB_f ?_
 by_cases g2:29 < tk (num src) (p+5) 5
 ·rw [decide_eq_true (by omega)]
  refine ifB_t (stop_spec h3 fun m4 h4 f4=>⟨rfl,?_⟩)
  rw [if_pos hz] at h4
  refine off m4 _ 0 _ _ _ _ hv1 hv2 hv3 h4 (F3.trans f4) (by decide) (fun _ _=>.isOpen ?_) (fun h0=>by omega) rfl
  rw [if_neg (by omega),if_neg g1,if_pos g2] at hr
  exact .bad hr (by decide)
 rw [decide_eq_false (by omega)]
 rw [if_neg (by omega),if_neg g1,if_neg g2] at hr
 refine ifB_f (dynamic_rest h3 hout hdl (nl:=257+tk (num src) p 5) (nd:=1+tk (num src) (p+5) 5) (nc:=4+tk (num src) (p+5+5) 4) (by omega) (by omega) (by omega) rfl (s0:=s0) (fin:=fin) (q0:=q0) rfl (fun _=>?_) (fun hz hk=>hop hz (by rwa [show p+5+5+4=p+14 from by omega,show p+5+5=p+10 from by omega,Nat.add_comm 4] at hk)) (fun _ m' p' out' ho' hp' h' f' k1 k2=>?_) (fun m' p' out' z' hz' ho' h' f' k1 k2=>?_))
 ·have e1:p+5+5+4=p+14:=by omega
  have e2:p+5+5=p+10:=by omega
  rw [e1,e2,Nat.add_comm 257,Nat.add_comm 1,Nat.add_comm 4]
  exact hr
 ·exact hgo hz m' p' out' ho' (by omega) h' (F3.trans f') k1 k2
 ·exact hend m' p' out' z' hz' ho' h' (F3.trans f') (fun _=>k1 hz) (fun h0=>by omega)
end
end Go.M

namespace Go.M
open Go
set_option maxRecDepth 100000
section
variable {N0 s:Nat} {src dict:List Nat} {p:Nat} {out:List Nat} {z:Int} {m:Mem}
theorem fixV_L:(List.range 288).map fixV=fixL:=by decide+kernel
theorem block_spec (h:SpAt N0 s src dict p out z m) (hz:z < 0) (hout:OutOk out) (hdl:dict.length≤32768) {c0:Sc} (hc0:c0=scOf src) {s0:St}
  (hr:Reach c0 s0 ⟨p,dict++out,.block⟩) {R:Value→Mem→Prop}
  (hgo:∀ m' p' out' b,OutOk out'→p < p'→SpAt N0 s src dict p' out' z m'→SpF N0 s m m'→(b=true→Runs c0 s0 (dict++out') .fin p')→(b=false→Reach c0 s0 ⟨p',dict++out',.block⟩)→R (.bool b) m')
  (hend:∀ m' p' out' z' b,0≤z'→OutOk out'→SpAt N0 s src dict p' out' z' m'→SpF N0 s m m'→Good c0 s0 z' (dict++out') p'→R (.bool b) m'):
  CallM PP f_state_block #[.pointer (some ⟨s,0,none⟩)] m R:=by
 subst hc0
 have hle:=h.le
 refine e_state_block s m R ?_
 have off:∀ (v:Nat) m1 p1,SpAt N0 s src dict p1 out 3 m1→SpF N0 s m m1→8 * src.length < p+3→∀ (x1:Int) (r':Env),Env.keep [3] r'=[(3,.int .i64 x1)]→
   CallM PP f_state_stored #[.pointer (some ⟨s,0,none⟩)] m1 fun v7 m8=>v7=.tuple #[]∧WPS PP 27 c_state_block_rrr (retK PP r_state_block R) r' m8:=by
  intro v m1 p1 h1 f1 hsh x1 r' hr'
  refine stored_spec h1 hout rfl (s0:=s0) (fin:=true) (q0:=0) (fun h0=>absurd h0 (by decide)) (fun h0=>absurd h0 (by decide)) fun m' p' out' z' hz' ho' h' f' _ hs=>⟨rfl,?_⟩
  obtain ⟨rfl,rfl⟩:=hs (by decide)
  refine WPS.piece [3] hr' (p_state_block_rrr x1 m' _ ?_)
  exact hend m' p' out' 3 _ (by decide) ho' h' (f1.trans f') (reach_type hr hsh)
 refine bit_spec h (fun h0=>by omega) (fun _ hp m1 h1 f1=>⟨_,rfl,?_⟩) (fun _ hp m1 h1 f1=>⟨_,rfl,?_⟩)
 ·refine bits_spec (h:=h1) 2 (by decide) (fun _=>⟨_,rfl,?_⟩) (fun h0=>absurd h0 (by decide)) (fun h0=>absurd h0 (by decide))
  exact ifB_t (off 0 m1 _ h1 f1 (by omega) _ _ rfl)
 have hb1:tk (num src) p 1 < 2:=by have:=tk_lt (num src) p 1; simpa using this
 have done:∀ m' p' out',OutOk out'→p < p'→SpAt N0 s src dict p' out' z m'→SpF N0 s m m'→((tk (num src) p 1 == 1)=true→Runs (scOf src) s0 (dict++out') .fin p')→((tk (num src) p 1 == 1)=false→Reach (scOf src) s0 ⟨p',dict++out',.block⟩)→∀ (r':Env),Env.keep [3] r'=[(3,.int .i64 ((tk (num src) p 1:Nat):Int))]→WPS PP 27 c_state_block_rrr (retK PP r_state_block R) r' m':=by
  intro m' p' out' ho' hp' h' f' k1 k2 r' hr'
  refine WPS.piece [3] hr' (p_state_block_rrr _ m' _ ?_)
  have e:(((tk (num src) p 1:Nat):Int) == 1)=(tk (num src) p 1 == 1):=by
   by_cases h0:tk (num src) p 1=1
   ·rw [h0]; rfl
   ·rw [show (tk (num src) p 1 == 1)=false by simpa using h0,beq_eq_false_iff_ne]; omega
  rw [e]
  exact hgo m' p' out' _ ho' hp' h' f' k1 k2
 have over:∀ m' p' out' z',0≤z'→OutOk out'→SpAt N0 s src dict p' out' z' m'→SpF N0 s m m'→Good (scOf src) s0 z' (dict++out') p'→∀ (r':Env),Env.keep [3] r'=[(3,.int .i64 ((tk (num src) p 1:Nat):Int))]→WPS PP 27 c_state_block_rrr (retK PP r_state_block R) r' m':=by
  intro m' p' out' z' hz' ho' h' f' k1 r' hr'
  exact WPS.piece [3] hr' (p_state_block_rrr _ m' _ (hend m' p' out' z' _ hz' ho' h' f' k1))
 have hs:s < m.size:=by have:=cell_block h.z; simpa using this
 refine bits_spec h1 2 (by decide) (fun h0=>by omega) (fun _ hsh m2 v hv h2 f2=>⟨_,rfl,?_⟩) (fun _ hle2 m2 h2 f2=>⟨_,rfl,?_⟩)
 ·-- the kind is cut
  have hv4:v < 4:=by simpa using hv
  have hsh3:8 * src.length < p+3:=by omega
  have F2:=f1.trans f2
  have g3:∀ q,Good (scOf src) s0 3 (dict++out) q:=fun q=>reach_type hr hsh3
  rcases show v=0∨v=1∨v=2∨v=3 by omega with rfl | rfl | rfl | rfl
  ·exact ifB_t (off 0 m2 _ h2 F2 hsh3 _ _ rfl)
  ·refine ifB_f (ifB_t (fixed_spec fun m3 a l k b o a2 l2 k2 b2 o2 hO1 hO2 hb hb2 f3=>⟨_,_,_,_,_,_,rfl,?_⟩))
   have hl1:l=288:=by have:=hO1.len; simpa using this.symm
   have hl2:l2=32:=by have:=hO2.len; simpa using this.symm
   refine coded_off (h2.fresh f3) (by decide) hO1.slc hO2.slc (by omega) (by omega) (by rw [fixV_L]; exact fixL_15) fixD_15 fun m4 h4 f4=>⟨rfl,?_⟩
   exact over m4 _ out 3 (by decide) hout h4 ((F2.trans (.fresh f3)).trans f4) (g3 _) _ rfl
  ·refine ifB_f (ifB_f (ifB_t (stDynamic_spec h2 hout hdl rfl (s0:=s0) (fin:=true) (q0:=0) (fun h0=>absurd h0 (by decide)) (fun h0=>absurd h0 (by decide)) (fun h0=>absurd h0 (by decide)) fun m' p' out' z' hz' ho' h' f' _ hsm=>⟨rfl,?_⟩)))
   obtain ⟨rfl,rfl⟩:=hsm (by decide)
   exact over m' p' out' 3 (by decide) ho' h' (F2.trans f') (g3 _) _ rfl
  ·refine ifB_f (ifB_f (ifB_f (stop_spec h2 fun m3 h3 f3=>⟨rfl,?_⟩)))
   exact over m3 _ out 3 (by decide) hout h3 (F2.trans f3) (g3 _) _ rfl
 have hv4:tk (num src) (p+1) 2 < 4:=by have:=tk_lt (num src) (p+1) 2; simpa using this
 have F2:=f1.trans f2
 have hp3:p+3≤(scOf src).tot:=by show _≤8 * src.length; omega
 have e3:p+1+2=p+3:=by omega
 rw [e3] at h2
 rcases show tk (num src) (p+1) 2=0∨tk (num src) (p+1) 2=1∨tk (num src) (p+1) 2=2∨tk (num src) (p+1) 2=3 by omega with hk | hk | hk | hk
 ·rw [hk]
  have hst:=reach_stored hr hp3 hk
  rw [show (p+10) / 8=(p+3+7) / 8 by omega] at hst
  refine ifB_t (stored_spec h2 hout rfl (fun _=>hst) (fun _ m' p' out' ho' hp' h' f' k1 k2=>⟨rfl,?_⟩) (fun m' p' out' z' hz' ho' h' f' k1 k2=>⟨rfl,?_⟩))
  ·exact done m' p' out' ho' (by omega) h' (F2.trans f') k1 k2 _ rfl
  ·exact over m' p' out' z' hz' ho' h' (F2.trans f') (k1 hz) _ rfl
 ·rw [hk]
  have hst:=reach_fixed hr hp3 hk
  refine ifB_f (ifB_t (fixed_spec fun m3 a l k b o a2 l2 k2 b2 o2 hO1 hO2 hb hb2 f3=>⟨_,_,_,_,_,_,rfl,?_⟩))
  have hl1:l=288:=by have:=hO1.len; simpa using this.symm
  have hl2:l2=32:=by have:=hO2.len; simpa using this.symm
  have hs2:=F2.size
  have hS1:=hO1.slc
  rw [fixV_L] at hS1
  refine coded_spec (h2.fresh f3) hz hdl hout hS1 hO2.slc (by omega) (by omega) (fun h0=>by have:=hb2 (by have:=hO2.own.le; omega); omega) rfl fixT_of (.inl hst) (fun m' p' out' ho' hp' h' f' k1 k2=>⟨rfl,?_⟩) (fun m' p' out' z' hz' ho' h' f' k1=>⟨rfl,?_⟩)
  ·exact done m' p' out' ho' (by omega) h' ((F2.trans (.fresh f3)).trans f') k1 k2 _ rfl
  ·exact over m' p' out' z' hz' ho' h' ((F2.trans (.fresh f3)).trans f') k1 _ rfl
 ·rw [hk]
  have hst:=reach_dynamic hr hp3 hk
  refine ifB_f (ifB_f (ifB_t (stDynamic_spec h2 hout hdl rfl (s0:=s0) (fin:=tk (scOf src).N p 1 == 1) (q0:=p) (fun _=>?_) (fun _ hk'=>.inr (.inr ⟨p,dict++out,hr,hk,hk'⟩)) (fun _ m' p' out' ho' hp' h' f' k1 k2=>⟨rfl,?_⟩) (fun m' p' out' z' hz' ho' h' f' k1 k2=>⟨rfl,?_⟩))))
  ·generalize (scOf src).hd (p+3)=q at hst ⊢
   cases q <;> exact hst
  ·exact done m' p' out' ho' (by omega) h' (F2.trans f') k1 k2 _ rfl
  ·exact over m' p' out' z' hz' ho' h' (F2.trans f') (k1 hz) _ rfl
 ·rw [hk]
  refine ifB_f (ifB_f (ifB_f (stop_spec h2 fun m3 h3 f3=>⟨rfl,?_⟩)))
  rw [if_pos hz] at h3
  exact over m3 _ out 2 (by decide) hout h3 (F2.trans f3) (reach_three hr hp3 hk) _ rfl
end
theorem box_state {a b c d e:Value} {m:Mem} {K:Nat→Mem→Prop} (h:K m.size (m.push (.cells #[a,b,c,d,e] t_spec_state))):BoxW t_spec_state (.agg #[a,b,c,d,e]) m K:=h
def SpecOk (src dict:List Nat) (out:List Nat) (z:Int) (used:Nat):Prop:=
 OutOk out∧0≤z∧∃ p,used=(p+7) / 8∧p≤8 * src.length∧Good (scOf src) ⟨0,dict,.block⟩ z (dict++out) p
theorem Inflate_spec {m:Mem} {a a2:Option Addr} {l k b o l2 k2 b2 o2:Nat} {src d:List Nat} (hS:SlcB m a l k b o src) (hS2:SlcB m a2 l2 k2 b2 o2 d) (hl:l≤2147483647) (hl2:l2≤2147483647) {R:Value→Mem→Prop}
  (hk:∀ m' a' l' k' b' o' z' u out,OutB m' a' l' k' b' o' out→SpecOk src (last32 d) out z' u→(∀ S,Fr S m m')→R (.tuple #[.slice a' l' k',.int .i64 z',.int .i64 (u:Nat)]) m'):
  CallM PP f_spec_Inflate #[.slice a l k,.slice a2 l2 k2] m R:=by
 have hlen:=hS.len
 have hlen2:=hS2.len
 have hcap2:=hS2.cap
 refine e_spec_Inflate a l k a2 l2 k2 m R ?_
 have hw:IntKind.wrap .i64 ((l2:Int) - 32768)=(l2:Int) - 32768:=wrap64_id (by omega) (by omega)
 have hif:(if (IntKind.wrap .i64 ((l2:Int) - 32768)) > 0 then IntKind.wrap .i64 ((l2:Int) - 32768) else 0)=((l2 - 32768:Nat):Int):=by
  rw [hw]; split <;> omega
 rw [hif,Int.toNat_natCast]
 refine ⟨by omega,⟨by omega,by omega⟩,box_state ?_⟩
 generalize hda:subA a2 (l2 - 32768) 1 k2=da
 have hdat:0 < l2 - (l2 - 32768)→da=some ⟨b2,o2+(l2 - 32768),none⟩:=fun h0=>by
  rw [← hda,hS2.at_ (by omega),subA_lt (by omega)]
 have f1:∀ S,Fr S m (m.push (.cells #[.slice a l k,.int .i64 0,.slice da (l2 - (l2 - 32768)) (k2 - (l2 - 32768)),.slice none 0 0,.int .i64 (-1)] t_spec_state)):=fun S=>Fr.push _
 have hcell:∀ j v,#[Value.slice a l k,.int .i64 0,.slice da (l2 - (l2 - 32768)) (k2 - (l2 - 32768)),.slice none 0 0,.int .i64 (-1)][j]?=some v→cell? (m.push (.cells #[.slice a l k,.int .i64 0,.slice da (l2 - (l2 - 32768)) (k2 - (l2 - 32768)),.slice none 0 0,.int .i64 (-1)] t_spec_state)) ⟨m.size,j,none⟩=some v:=fun j v h=>cell_new h
 have hwr:∀ j,j < 5→Wr (m.push (.cells #[.slice a l k,.int .i64 0,.slice da (l2 - (l2 - 32768)) (k2 - (l2 - 32768)),.slice none 0 0,.int .i64 (-1)] t_spec_state)) ⟨m.size,j,none⟩:=fun j h=>wr_new (by simpa using h)
 generalize m.push (.cells #[.slice a l k,.int .i64 0,.slice da (l2 - (l2 - 32768)) (k2 - (l2 - 32768)),.slice none 0 0,.int .i64 (-1)] t_spec_state)=m1 at f1 hcell hwr ⊢
 have lt:∀ {d:List Nat} {a:Option Addr} {l k b o:Nat},SlcB m a l k b o d→0 < l→b < m.size:=fun h h0=>by
  have:=cell_block (h.data 0 h0); simpa using this
 have hS21:=hS2.sp (f1 fun _ _=>False) fun _ _=>id
 have hD:SlcB m1 da (l2 - (l2 - 32768)) (k2 - (l2 - 32768)) b2 (o2+(l2 - 32768)) (last32 d):=by
  refine ⟨by unfold last32; rw [List.length_drop]; omega,by omega,hdat,fun i hi=>?_,fun v hv=>hS2.byte v (List.mem_of_mem_drop hv)⟩
  have:=hS21.data (l2 - 32768+i) (by omega)
  rw [Nat.add_assoc,this]
  unfold last32
  rw [List.getD_eq_getElem?_getD,List.getD_eq_getElem?_getD,List.getElem?_drop,hlen2]
 have hA:SpAt m.size m.size src (last32 d) 0 [] (-1) m1:=
  ⟨⟨a,l,k,b,o,hcell 0 _ rfl,hS.sp (f1 fun _ _=>False) (fun _ _=>id),lt hS⟩,hcell 1 _ rfl,⟨da,_,_,b2,_,hcell 2 _ rfl,hD,fun h0=>lt hS2 (by omega)⟩,
   ⟨none,0,0,0,0,hcell 3 _ rfl,OutB.nil _ _,fun h0=>absurd h0 (by decide)⟩,hcell 4 _ rfl,fun i h1 h2=>hwr i (by omega),Nat.le_refl _,Nat.zero_le _,by omega⟩
 have hdl:(last32 d).length≤32768:=by rw [last32_len]; omega
 have hs1:=(f1 fun _ _=>False).size
 generalize hN:m.size=N0 at hA
 rw [q_spec_Inflate_rrll]
 refine loopW ffOk mixedOk (L₀:=L_spec_Inflate) (σ:=Nat×List Nat×Int) [7] (fun _=>[(7,.pointer (some ⟨N0,0,none⟩))])
  (fun q m'=>OutOk q.2.1∧SpAt N0 N0 src (last32 d) q.1 q.2.1 q.2.2 m'∧SpF N0 N0 m1 m'∧((q.2.2 < 0∧Reach (scOf src) ⟨0,last32 d,.block⟩ ⟨q.1,last32 d++q.2.1,.block⟩)∨(0≤q.2.2∧Good (scOf src) ⟨0,last32 d,.block⟩ q.2.2 (last32 d++q.2.1) q.1)))
  (fun q=>if q.2.2 < 0 then 1+(8 * src.length - q.1) else 0) (0,[], -1) rfl ⟨⟨by simp,by simp⟩,hA,SpF.refl _ _ _,.inl ⟨by show (-1:Int) < 0; decide,by simp only [List.append_nil]; exact Reach.refl _ _⟩⟩ ?_
 rintro ⟨p1,out1,z1⟩ m2 ⟨ho1,h2,F2,hst⟩
 simp only at ho1 h2 hst
 refine p_spec_Inflate_rrlll _ m2 _ (on_spec h2 ⟨_,rfl,?_⟩)
 have hle2:=h2.le
 rcases hst with ⟨hz,hR⟩ | ⟨hz,hG⟩
 ·rw [decide_eq_true hz]
  refine ifB_t (block_spec h2 hz ho1 hdl rfl hR (fun m3 p3 out3 bb ho3 hp3 h3 f3 g1 g2=>⟨_,rfl,?_⟩) (fun m3 p3 out3 z3 bb hz3 ho3 h3 f3 hG=>⟨_,rfl,?_⟩))
  ·have hle3:=h3.le
   cases bb with
   | true=>
    refine ifB_t (stop_spec h3 fun m4 h4 f4=>⟨rfl,?_⟩)
    rw [if_pos hz] at h4
    exact ⟨(p3,out3,1),rfl,⟨ho3,h4,(F2.trans f3).trans f4,.inr ⟨by show (0:Int)≤1; decide,.isFine (g1 rfl)⟩⟩,by simp only; rw [if_neg (by decide),if_pos hz]; omega⟩
   | false=>
    exact ifB_f ⟨(p3,out3,z1),rfl,⟨ho3,h3,F2.trans f3,.inl ⟨hz,g2 rfl⟩⟩,by simp only; rw [if_pos hz,if_pos hz]; omega⟩
  ·cases bb with
   | true=>
    refine ifB_t (stop_spec h3 fun m4 h4 f4=>⟨rfl,?_⟩)
    rw [if_neg (by omega)] at h4
    exact ⟨(p3,out3,z3),rfl,⟨ho3,h4,(F2.trans f3).trans f4,.inr ⟨hz3,hG⟩⟩,by simp only; rw [if_neg (by omega),if_pos hz]; omega⟩
   | false=>
    exact ifB_f ⟨(p3,out3,z3),rfl,⟨ho3,h3,F2.trans f3,.inr ⟨hz3,hG⟩⟩,by simp only; rw [if_neg (by omega),if_pos hz]; omega⟩
 ·rw [decide_eq_false (by omega)]
  refine ifB_f (WPS.piece [7] rfl (p_spec_Inflate_rrr _ m2 _ ?_))
  obtain ⟨a9,l9,k9,b9,o9,c9,hO9,hb9⟩:=h2.outA
  have hbig:=h2.big
  have hu:IntKind.wrap .i64 (Int.tdiv (IntKind.wrap .i64 ((p1:Int)+7)) 8)=(((p1+7) / 8:Nat):Int):=by
   rw [wrap64_id (n:=(p1:Int)+7) (by omega) (by omega),show Int.tdiv ((p1:Int)+7) 8=(((p1+7) / 8:Nat):Int) from rfl,wrap64_id (by omega) (by omega)]
  have hcz:=h2.z
  have hcp:=h2.pos
  refine ⟨a9,l9,k9,c9,z1,hcz,(p1:Int),hcp,rfl,by decide,?_⟩
  ·show R (.tuple #[_,_,.int .i64 (IntKind.wrap .i64 (Int.tdiv (IntKind.wrap .i64 ((p1:Int)+7)) 8))]) m2
   rw [hu]
   refine hk m2 a9 l9 k9 b9 o9 z1 ((p1+7) / 8) out1 hO9 ⟨ho1,hz,p1,rfl,hle2,hG⟩ fun S=>?_
   have G:=f1 fun _ _=>False
   refine ⟨Nat.le_trans hs1 F2.size,fun i c t fr hc=>?_,fun i x hx hn _=>F2.objs i x (G.objs i x hx hn id) hn⟩
   have hi:i < m.size:=(Array.getElem?_eq_some_iff.1 hc).1
   obtain ⟨c',k1,k2,k3⟩:=G.cells i c t fr hc
   obtain ⟨c'',k4,k5,k6⟩:=F2.cells i c' t fr k1
   refine ⟨c'',k4,k5.trans k2,fun j _=>?_⟩
   cases hj:c[j]? with
   | some v=>exact k6 j v (by rw [k3 j id]; exact hj) (.inl (by omega))
   | none=>
    rw [Array.getElem?_eq_none_iff] at hj ⊢
    omega
end Go.M

namespace Go.M
open Go
set_option maxRecDepth 100000
section
variable {E:Errs} {src:List Nat}
theorem SpecOk.le {dict out:List Nat} {z:Int} {u:Nat} (h:SpecOk src dict out z u):z≤4:=let ⟨_,_,_,_,_,hG⟩:=h; hG.le
theorem SpecOk.run {dict out:List Nat} {z:Int} {u:Nat} (h:SpecOk src dict out z u) (hz:z=1∨z=2∨z=3):∃ o e pf,Runs (scOf src) ⟨0,dict,.block⟩ (dict++o) e pf∧o.length≤131072∧(∀ v ∈ o,v < 256)∧(∃ T,out=o++T)∧
  (z=1→e=.fin∧o=out∧u=(pf+7) / 8)∧(z=2→e≠.fin)∧(z=3→e=.cut):=by
 obtain ⟨ho,_,p,hu,_,hG⟩:=h
 have pre:∀ {Hf:List Nat} {e:Er} {pf:Nat},Runs (scOf src) ⟨0,dict,.block⟩ Hf e pf→(∃ T,dict++out=Hf++T)→∃ o,Hf=dict++o∧o.length≤131072∧(∀ v ∈ o,v < 256)∧∃ T,out=o++T:=by
  intro Hf e pf hr ⟨T,hT⟩
  obtain ⟨_,⟨o,h2⟩,_⟩:=hr.bound (scOf_hd src) (Nat.zero_le _)
  have h2:Hf=dict++o:=h2
  rw [h2,List.append_assoc] at hT
  have hT:=List.append_cancel_left hT
  refine ⟨o,h2,?_,fun v hv=>?_,T,hT⟩
  ·have:=ho.2; rw [hT,List.length_append] at this; omega
  ·exact ho.1 v (by rw [hT]; exact List.mem_append_left _ hv)
 rcases hz with rfl | rfl | rfl
 ·exact ⟨out,.fin,p,hG.fine rfl,ho.2,ho.1,⟨[],by simp⟩,fun _=>⟨rfl,rfl,hu⟩,fun h=>absurd h (by decide),fun h=>absurd h (by decide)⟩
 ·obtain ⟨Hf,er,pf,hr,he,hp⟩:=hG.wrong rfl
  obtain ⟨o,rfl,h2,h3,h4⟩:=pre hr hp
  exact ⟨o,er,pf,hr,h2,h3,h4,fun h=>absurd h (by decide),fun _=>he,fun h=>absurd h (by decide)⟩
 ·obtain ⟨Hf,pf,hr,hp⟩:=hG.short rfl
  obtain ⟨o,rfl,h2,h3,h4⟩:=pre hr hp
  exact ⟨o,.cut,pf,hr,h2,h3,h4,fun h=>absurd h (by decide),fun h=>absurd h (by decide),fun _=>rfl⟩
end
end Go.M
