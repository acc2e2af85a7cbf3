/- A slow reader, and bufio's reader of it: a reader over bytes, too. NewReader over a slow reader; the thin package: Slow. -/
import Derived.Test.YtabgnkdfbkbaiaaGreatDoorPki
import Derived.Test.YtabgnkdfbkbaiaaGreatDoorPkq
import Derived.Test.YtabgnkdfbkbaiaaGreatDoorPkzc
namespace Go.M
open Go
set_option maxRecDepth 100000
structure SlowAt (src:List Nat) (sb db:Nat) (q:Nat) (m:Mem):Prop where
 s:∃ a k,cell? m ⟨sb,0,none⟩=some (.slice a (src.length - q) k)∧src.length - q≤k∧(q < src.length→a=some ⟨db,q,none⟩)
 p:∃ x:Int,cell? m ⟨sb,1,none⟩=some (.int .i64 x)∧1≤x
 w0:Wr m ⟨sb,0,none⟩
 data:∀ (i:Nat) (v:Nat),src[i]?=some v→cell? m ⟨db,i,none⟩=some (.int .u8 (v:Int))
 le:q≤src.length
 big:src.length < 4611686018427387904
 ne:sb≠db
theorem SlowAt.fr {src:List Nat} {sb db q:Nat} {m m':Mem} {T:Nat→Nat→Prop} (h:SlowAt src sb db q m) (hf:Fr T m m') (h1:∀ j, ¬ T sb j) (h2:∀ j, ¬ T db j):SlowAt src sb db q m' where
 s:=let ⟨a,k,h3,h4,h5⟩:=h.s; ⟨a,k,hf.cell h3 (h1 _),h4,h5⟩
 p:=let ⟨x,h3,h4⟩:=h.p; ⟨x,hf.cell h3 (h1 _),h4⟩
 w0:=h.w0.fr hf
 data:=fun i v hv=>hf.cell (h.data i v hv) (h2 _)
 le:=h.le
 big:=h.big
 ne:=h.ne
theorem slow_Read {E:Errs} {src:List Nat} {sb db q:Nat} {m:Mem} {R:Value→Mem→Prop} {b o n k:Nat} (hA:SlowAt src sb db q m) (hG:Glob E m) (hn:0 < n) (hnk:n≤k) (hw:WrRow m b o n) (hb:b≠sb∧b≠db)
  (hk:∀ c m',0 < c→c≤n→q+c≤src.length→SlowAt src sb db (q+c) m'→(∀ (i v:Nat),i < c→src[q+i]?=some v→cell? m' ⟨b,o+i,none⟩=some (.int .u8 (v:Int)))→
   Fr (fun i j=>i=sb∨(i=b∧o≤j∧j < o+c)) m m'→R (.tuple #[.int .i64 (c:Int),.nilIface]) m')
  (he:q=src.length→R (.tuple #[.int .i64 0,E.eof]) m):
  CallM PP f_slow_Read #[.pointer (some ⟨sb,0,none⟩),.slice (some ⟨b,o,none⟩) n k] m R:=by
 obtain ⟨a,ks,h1,h2,h3⟩:=hA.s
 obtain ⟨x,p1,p2⟩:=hA.p
 have hle:=hA.le
 refine e_slow_Read sb (some ⟨b,o,none⟩) n k m R ⟨_,_,_,h1,ifB_of (fun ht=>?_) (fun ht=>?_)⟩
 ·have h0:((src.length - q:Nat):Int)=0:=by simpa using ht
  exact ⟨_,hG.eof,he (by omega)⟩
 ·have h0:((src.length - q:Nat):Int)≠0:=by intro h; rw [h] at ht; simp at ht
  have hlt:q < src.length:=by omega
  have ha:=h3 hlt
  subst ha
  have hcn:∃ cn:Nat,(if x < (n:Int) then x else (n:Int))=(cn:Int)∧0 < cn∧cn≤n:=by
   by_cases h:x < (n:Int)
   ·rw [if_pos h]; exact ⟨x.toNat,by omega,by omega,by omega⟩
   ·rw [if_neg h]; exact ⟨n,rfl,hn,Nat.le_refl _⟩
  obtain ⟨cn,ec,c0,cl⟩:=hcn
  refine ⟨x,p1,hnk,?_⟩
  rw [ec]
  refine ⟨⟨by omega,by omega⟩,_,_,_,h1,?_⟩
  rw [Int.toNat_natCast]
  refine copyB_W b o db q (min (src.length - q) cn) (fun i=>((src[q+i]?).getD 0:Nat)) rfl (fun _=>rfl) (fun i hi=>?_) (fun _=>rfl) (fun i hi=>hw i (by omega)) fun m2 g1 g2 g3=>?_
  ·refine hA.data _ _ ?_
   rw [List.getElem?_eq_getElem (by omega)]; rfl
  ·have h12:=g2.cell h1 (by rintro ⟨e,_⟩; exact hb.1 e.symm)
   refine ⟨_,rfl,_,_,_,h12,h2,⟨by omega,by omega⟩,?_⟩
   rw [Int.toNat_natCast]
   refine StW.at rfl (hA.w0.fr g2) fun m3 c3 f3 _=>?_
   have hd3:∀ (i v:Nat),src[i]?=some v→cell? m3 ⟨db,i,none⟩=some (.int .u8 (v:Int)):=fun i v hv=>
    f3.cell (g2.cell (hA.data i v hv) (by rintro ⟨e,_⟩; exact hb.2 e.symm)) (by rintro ⟨e,_⟩; exact hA.ne e.symm)
   refine hk (min (src.length - q) cn) m3 (by omega) (by omega) (by omega) ⟨⟨_,_,by rw [← Nat.sub_sub]; exact c3,by omega,fun h=>by rw [subA_lt (by omega)]⟩,⟨x,f3.cell (g2.cell p1 (by rintro ⟨e,_⟩; exact hb.1 e.symm)) (by simp),p2⟩,(hA.w0.fr g2).fr f3,hd3,by omega,hA.big,hA.ne⟩ (fun i v hi hv=>?_) ?_
   ·refine f3.cell ?_ (by rintro ⟨e,_⟩; exact hb.1 e)
    have:=g1 i hi
    simp only [hv,Option.getD_some] at this
    exact this
   ·exact (g2.mono fun i j h=>.inr h).trans (f3.mono fun i j h=>.inl h.1)
theorem callM_slow_Read (b:Nat) (x:Value) (m:Mem) (K:Value→Mem→Prop) (h:CallM PP f_slow_Read #[.pointer (some ⟨b,0,none⟩),x] m K):
  SemW PP (callMethod (.iface t_p_impl_slow (.pointer (some ⟨b,0,none⟩))) "Read" #[x]) m (NextW PP K):=Eq.mpr (by kernel_rfl) h
def BufS (sb db bb ub:Nat):Nat→Nat→Prop:=fun i _=>i=sb∨i=db∨i=bb∨i=ub
structure BufAt (E:Errs) (src:List Nat) (sb db bb ub:Nat) (er:Bool) (r w pos:Nat) (m:Mem):Prop where
 slow:SlowAt src sb db (pos+(w - r)) m
 buf:cell? m ⟨bb,0,none⟩=some (.slice (some ⟨ub,0,none⟩) 4096 4096)
 rd:cell? m ⟨bb,1,none⟩=some (.iface t_p_impl_slow (.pointer (some ⟨sb,0,none⟩)))
 cr:cell? m ⟨bb,2,none⟩=some (.int .i64 (r:Int))
 cw:cell? m ⟨bb,3,none⟩=some (.int .i64 (w:Int))
 ce:cell? m ⟨bb,4,none⟩=some (if er then E.eof else .nilIface)
 wr:∀ j,j < 7→Wr m ⟨bb,j,none⟩
 rw:r≤w∧w≤4096
 row:∀ (i v:Nat),i < w - r→src[pos+i]?=some v→cell? m ⟨ub,r+i,none⟩=some (.int .u8 (v:Int))
 own:WrRow m ub 0 4096
 ap:bb≠sb∧bb≠db∧ub≠sb∧ub≠db∧ub≠bb
 lo:4 < sb∧4 < db∧4 < bb∧4 < ub
 fin:er=true→r=w∧pos=src.length
section
variable {E:Errs} {src:List Nat} {sb db bb ub r w pos:Nat} {er:Bool} {m:Mem}
theorem BufAt.fr {m':Mem} {T:Nat→Nat→Prop} (h:BufAt E src sb db bb ub er r w pos m) (hf:Fr T m m') (hs:∀ i j,BufS sb db bb ub i j→ ¬ T i j):BufAt E src sb db bb ub er r w pos m' where
 slow:=h.slow.fr hf (fun j=>hs _ j (.inl rfl)) (fun j=>hs _ j (.inr (.inl rfl)))
 buf:=hf.cell h.buf (hs _ _ (.inr (.inr (.inl rfl))))
 rd:=hf.cell h.rd (hs _ _ (.inr (.inr (.inl rfl))))
 cr:=hf.cell h.cr (hs _ _ (.inr (.inr (.inl rfl))))
 cw:=hf.cell h.cw (hs _ _ (.inr (.inr (.inl rfl))))
 ce:=hf.cell h.ce (hs _ _ (.inr (.inr (.inl rfl))))
 wr:=fun j hj=>(h.wr j hj).fr hf
 rw:=h.rw
 row:=fun i v hi hv=>hf.cell (h.row i v hi hv) (hs _ _ (.inr (.inr (.inr rfl))))
 own:=h.own.fr hf
 ap:=h.ap
 lo:=h.lo
 fin:=h.fin
theorem BufAt.move {m':Mem} (h:BufAt E src sb db bb ub er r w pos m) (hf:Fr (fun i j=>i=bb∧2≤j) m m') {er':Bool} {r' w' pos':Nat} (c2:cell? m' ⟨bb,2,none⟩=some (.int .i64 (r':Int))) (c3:cell? m' ⟨bb,3,none⟩=some (.int .i64 (w':Int))) (c4:cell? m' ⟨bb,4,none⟩=some (if er' then E.eof else .nilIface))
  (hrw:r'≤w'∧w'≤4096) (hq:pos'+(w' - r')=pos+(w - r)) (hrow:∀ (i v:Nat),i < w' - r'→src[pos'+i]?=some v→cell? m ⟨ub,r'+i,none⟩=some (.int .u8 (v:Int))) (he:er'=true→r'=w'∧pos'=src.length):BufAt E src sb db bb ub er' r' w' pos' m' where
 slow:=by rw [hq]; exact h.slow.fr hf (fun j hj=>h.ap.1 hj.1.symm) (fun j hj=>h.ap.2.1 hj.1.symm)
 buf:=hf.cell h.buf (by simp)
 rd:=hf.cell h.rd (by simp)
 cr:=c2
 cw:=c3
 ce:=c4
 wr:=fun j hj=>(h.wr j hj).fr hf
 rw:=hrw
 row:=fun i v hi hv=>hf.cell (hrow i v hi hv) (by rintro ⟨e,_⟩; exact h.ap.2.2.2.2 e)
 own:=h.own.fr hf
 ap:=h.ap
 lo:=h.lo
 fin:=he
theorem BufAt.side {m':Mem} (h:BufAt E src sb db bb ub er r w pos m) {j0:Nat} (hj:4 < j0) (hf:Fr (fun i j=>i=bb∧j=j0) m m'):BufAt E src sb db bb ub er r w pos m':=
 h.move (hf.mono fun i j h=>⟨h.1,by omega⟩) (hf.cell h.cr (by simp; omega)) (hf.cell h.cw (by simp; omega)) (hf.cell h.ce (by simp; omega)) h.rw rfl h.row h.fin
theorem bfr {j0:Nat} {m m':Mem} (hf:Fr (fun i j=>i=bb∧j=j0) m m'):Fr (BufS sb db bb ub) m m':=hf.mono fun _ _ h=>.inr (.inr (.inl h.1))
theorem readErr_spec (h:BufAt E src sb db bb ub er r w pos m) {R:Value→Mem→Prop} (hk:∀ m',BufAt E src sb db bb ub false r w pos m'→Fr (BufS sb db bb ub) m m'→R (if er then E.eof else .nilIface) m'):
  CallM PP f_bufio_Reader_readErr #[.pointer (some ⟨bb,0,none⟩)] m R:=
 e_bufio_Reader_readErr bb m R ⟨_,h.ce,StW.at rfl (h.wr 4 (by decide)) fun m1 c1 f1 _=>hk m1 (h.move (f1.mono fun i j h=>⟨h.1,by omega⟩) (f1.cell h.cr (by simp)) (f1.cell h.cw (by simp)) c1 h.rw rfl h.row (by simp)) (bfr f1)⟩
theorem Glob.buf {m m':Mem} (h:BufAt E src sb db bb ub er r w pos m) (hG:Glob E m) (hf:Fr (BufS sb db bb ub) m m'):Glob E m':=hG.fr hf fun _ _ hij=>by
 have:=h.lo
 rcases hij with e | e | e | e <;> omega
theorem fill_spec (h:BufAt E src sb db bb ub false r r pos m) (hG:Glob E m) {R:Value→Mem→Prop} (hk:∀ m' er' w',BufAt E src sb db bb ub er' 0 w' pos m'→((er'=false∧0 < w')∨(er'=true∧w'=0))→Fr (BufS sb db bb ub) m m'→R (.tuple #[]) m'):
  CallM PP f_bufio_Reader_fill #[.pointer (some ⟨bb,0,none⟩)] m R:=by
 have rest:∀ m1,BufAt E src sb db bb ub false 0 0 pos m1→Fr (BufS sb db bb ub) m m1→WPS PP 99 c_bufio_Reader_fill_r (retK PP r_bufio_Reader_fill R) [(0,.pointer (some ⟨bb,0,none⟩))] m1:=by
  intro m1 h1 f1
  have hG1:=Glob.buf h hG f1
  refine WPS.piece [0] rfl (p_bufio_Reader_fill_r bb m1 _ ⟨_,h1.cw,_,_,_,h1.buf,?_⟩)
  rw [decide_eq_false (by omega)]
  refine ifB_f (WPS.piece [0] rfl (p_bufio_Reader_fill_rr bb m1 _ ?_))
  rw [q_bufio_Reader_fill_rrlrl]
  refine loopW ffOk mixedOk (L₀:=L_bufio_Reader_fill) (σ:=Unit) [0,2] (fun _=>[(0,.pointer (some ⟨bb,0,none⟩)),(2,.int .i64 100)]) (fun _ m'=>m'=m1) (fun _=>0) () rfl rfl ?_
  rintro ⟨⟩ m2 rfl
  refine p_bufio_Reader_fill_rrlrll bb 100 m2 _ ?_
  rw [decide_eq_true (by decide)]
  refine ifB_t ⟨_,h1.rd,_,_,_,h1.buf,_,h1.cw,Nat.le_refl _,⟨by omega,by omega⟩,?_⟩
  show SemW PP (callMethod (.iface t_p_impl_slow (.pointer (some ⟨sb,0,none⟩))) "Read" #[.slice (some ⟨ub,0,none⟩) 4096 4096]) m2 _
  refine callM_slow_Read _ _ _ _ (slow_Read (by have:=h1.slow; rwa [Nat.sub_self,Nat.add_zero] at this) hG1 (n:=4096) (by decide) (Nat.le_refl _) h1.own ⟨h1.ap.2.2.1,h1.ap.2.2.2.1⟩ (fun c m3 c0 cl cq hA3 hd3 f3=>⟨_,_,rfl,?_⟩) (fun hq=>⟨_,_,rfl,?_⟩))
  ·rw [decide_eq_false (by omega)]
   have g3:Fr (BufS sb db bb ub) m2 m3:=f3.mono fun i j h=>by
    rcases h with h | h
    ·exact .inl h
    ·exact .inr (.inr (.inr h.1))
   have nb:∀ j, ¬ (bb=sb∨(bb=ub∧0≤j∧j < 0+c)):=fun j hj=>by
    rcases hj with e | e
    ·exact h1.ap.1 e
    ·exact h1.ap.2.2.2.2 e.1.symm
   have cw3:=f3.cell h1.cw (nb 3)
   refine ifB_f (WPS.piece [0,2,3,4] rfl (p_bufio_Reader_fill_rrlrllrllrr bb 100 c .nilIface m3 _ ⟨_,cw3,StW.at rfl ((h1.wr 3 (by decide)).fr f3) fun m4 c4 f4 _=>⟨rfl,?_⟩⟩))
   have hw4:IntKind.wrap .i64 (((0:Nat):Int)+(c:Int))=(c:Int):=by rw [wrap64_id (by omega) (by omega)]; omega
   rw [hw4] at c4
   have h4:BufAt E src sb db bb ub false 0 c pos m4:=
    ⟨by rw [Nat.sub_zero]; exact hA3.fr f4 (fun j hj=>h1.ap.1 hj.1.symm) (fun j hj=>h1.ap.2.1 hj.1.symm),f4.cell (f3.cell h1.buf (nb 0)) (by simp),f4.cell (f3.cell h1.rd (nb 1)) (by simp),f4.cell (f3.cell h1.cr (nb 2)) (by simp),c4,f4.cell (f3.cell h1.ce (nb 4)) (by simp),fun j hj=>((h1.wr j hj).fr f3).fr f4,⟨Nat.zero_le _,cl⟩,fun i v hi hv=>f4.cell (hd3 i v (by omega) hv) (by rintro ⟨e,_⟩; exact h1.ap.2.2.2.2 e),(h1.own.fr f3).fr f4,h1.ap,h1.lo,by simp⟩
   refine ifB_f ?_
   rw [decide_eq_true (by omega)]
   exact ifB_t (hk m4 false c h4 (.inl ⟨rfl,c0⟩) (f1.trans (g3.trans (bfr f4))))
  ·rw [decide_eq_false (by decide)]
   refine ifB_f (WPS.piece [0,2,3,4] rfl (p_bufio_Reader_fill_rrlrllrllrr bb 100 0 E.eof m2 _ ⟨_,h1.cw,StW.at rfl (h1.wr 3 (by decide)) fun m4 c4 f4 _=>⟨rfl,?_⟩⟩))
   refine ifB_t (StW.at rfl ((h1.wr 4 (by decide)).fr f4) fun m5 c5 f5 _=>?_)
   have f45:Fr (fun i j=>i=bb∧2≤j) m2 m5:=(f4.mono fun i j h=>⟨h.1,by omega⟩).trans (f5.mono fun i j h=>⟨h.1,by omega⟩)
   have h5:BufAt E src sb db bb ub true 0 0 pos m5:=h1.move f45 (f5.cell (f4.cell h1.cr (by simp)) (by simp)) (by rw [f5.cell c4 (by simp)]; rfl) c5 (by omega) rfl h1.row (fun _=>⟨rfl,by have:=h1.slow.le; omega⟩)
   exact hk m5 true 0 h5 (.inr ⟨rfl,rfl⟩) (f1.trans (f45.mono fun i j h=>.inr (.inr (.inl h.1))))
 have hrw:=h.rw
 refine e_bufio_Reader_fill bb m R ⟨_,h.cr,ifB_of (fun ht=>?_) (fun ht=>?_)⟩
 ·refine ⟨_,_,_,h.buf,_,_,_,h.buf,_,h.cr,_,h.cw,Nat.le_refl _,⟨by omega,by omega⟩,⟨by omega,by omega⟩,?_⟩
  rw [Int.toNat_natCast,Nat.sub_self]
  refine copyB_W ub 0 0 0 0 (fun _=>0) (by simp) (fun h0=>absurd h0 (by omega)) (fun i hi=>by omega) (fun h0=>absurd h0 (by omega)) (fun i hi=>by omega) fun m2 _ g2 _=>⟨_,rfl,?_⟩
  have h2:=h.fr (g2.mono (S':=fun _ _=>False) fun i j hij=>by omega) fun i j _=>id
  refine ⟨_,h2.cw,_,h2.cr,StW.at rfl (h2.wr 3 (by decide)) fun m3 c3 f3 _=>StW.at rfl ((h2.wr 2 (by decide)).fr f3) fun m4 c4 f4 _=>?_⟩
  have f34:Fr (fun i j=>i=bb∧2≤j) m2 m4:=(f3.mono fun i j h=>⟨h.1,by omega⟩).trans (f4.mono fun i j h=>⟨h.1,by omega⟩)
  have e0:IntKind.wrap .i64 ((r:Int) - (r:Int))=((0:Nat):Int):=by rw [Int.sub_self]; rfl
  rw [e0] at c3
  refine rest m4 (h2.move f34 c4 (f4.cell c3 (by simp)) (f4.cell (f3.cell h2.ce (by simp)) (by simp)) (by omega) (by omega) (fun i v hi=>by omega) (by simp)) ?_
  exact (g2.mono fun i j hij=>by omega).trans (f34.mono fun i j h=>.inr (.inr (.inl h.1)))
 ·have h0:r=0:=by have:=of_decide_eq_false ht; omega
  subst h0
  exact rest m h (Fr.refl _ _)
theorem bufio_ReadByte (h:BufAt E src sb db bb ub false r w pos m) (hG:Glob E m) {R:Value→Mem→Prop}
  (hk:∀ c m' r' w',src[pos]?=some c→BufAt E src sb db bb ub false r' w' (pos+1) m'→Fr (BufS sb db bb ub) m m'→R (.tuple #[.int .u8 (c:Int),.nilIface]) m')
  (he:∀ m' r' w',pos=src.length→BufAt E src sb db bb ub false r' w' pos m'→Fr (BufS sb db bb ub) m m'→R (.tuple #[.int .u8 0,E.eof]) m'):
  CallM PP f_bufio_Reader_ReadByte #[.pointer (some ⟨bb,0,none⟩)] m R:=by
 refine e_bufio_Reader_ReadByte bb m R (StW.at rfl (h.wr 6 (by decide)) fun m1 _ f1 _=>?_)
 have h1:=h.side (by decide) f1
 rw [q_bufio_Reader_ReadByte_rrll]
 refine loopW ffOk mixedOk (L₀:=L_bufio_Reader_ReadByte) (σ:=Bool×Nat×Nat×Nat) [0] (fun _=>[(0,.pointer (some ⟨bb,0,none⟩))])
  (fun s m'=>BufAt E src sb db bb ub s.1 s.2.1 s.2.2.1 pos m'∧Fr (BufS sb db bb ub) m m'∧(s.2.2.2=0→s.1=true∨s.2.1 < s.2.2.1)) (fun s=>s.2.2.2) (false,r,w,1) rfl ⟨h1,bfr f1,fun h0=>absurd h0 (by simp)⟩ ?_
 rintro ⟨er,r2,w2,μ⟩ m2 ⟨h2,f2,hμ⟩
 simp only at h2 hμ
 have hG2:=Glob.buf h hG f2
 refine p_bufio_Reader_ReadByte_rrlll bb m2 _ ⟨_,h2.cr,_,h2.cw,ifB_of (fun ht=>?_) (fun ht=>?_)⟩
 ·have hrw:r2=w2:=by
   have:(r2:Int)=w2:=by simpa using ht
   omega
  subst hrw
  refine ⟨_,h2.ce,by cases er <;> rfl,?_⟩
  cases er with
  | true=>exact ifB_t (readErr_spec h2 fun m3 h3 f3=>⟨_,rfl,he m3 r2 r2 (h2.fin rfl).2 h3 (f2.trans f3)⟩)
  | false=>
   refine ifB_f (fill_spec h2 hG2 fun m3 er3 w3 h3 hc f3=>⟨rfl,?_⟩)
   have hm:μ≠0:=fun h0=>by
    rcases hμ h0 with h4 | h4
    ·cases h4
    ·omega
   exact ⟨(er3,0,w3,0),rfl,⟨h3,f2.trans f3,fun _=>by
    rcases hc with ⟨_,h4⟩ | ⟨h4,_⟩
    ·exact .inr h4
    ·exact .inl h4⟩,by simp only; omega⟩
 ·have hne:r2≠w2:=by rintro rfl; simp at ht
  have hrw:=h2.rw
  have hle:=h2.slow.le
  have hfin:er=false:=by
   cases er with
   | false=>rfl
   | true=>exact absurd (h2.fin rfl).1 hne
  subst hfin
  have hpl:pos < src.length:=by omega
  have hsp:src[pos]?=some src[pos]:=List.getElem?_eq_getElem hpl
  have hcell:=h2.row 0 src[pos] (by omega) hsp
  rw [Nat.add_zero] at hcell
  refine WPS.piece [0] rfl (p_bufio_Reader_ReadByte_rrr bb m2 _ ⟨_,_,_,h2.buf,_,h2.cr,⟨by omega,by omega⟩,((src[pos]:Nat):Int),?_,_,h2.cr,?_⟩)
  ·rw [show aplus ⟨ub,0,none⟩ ((r2:Int)).toNat=⟨ub,r2,none⟩ by simp [aplus]]; exact hcell
  refine StW.at rfl (h2.wr 2 (by decide)) fun m3 c3 f3 _=>StW.at rfl ((h2.wr 5 (by decide)).fr f3) fun m4 _ f4 _=>?_
  have ew:IntKind.wrap .i64 ((r2:Int)+1)=((r2+1:Nat):Int):=by rw [wrap64_id (by omega) (by omega)]; rfl
  rw [ew] at c3
  have h3:BufAt E src sb db bb ub false (r2+1) w2 (pos+1) m3:=h2.move (f3.mono fun i j h=>⟨h.1,by omega⟩) c3 (f3.cell h2.cw (by simp)) (f3.cell h2.ce (by simp)) (by omega) (by omega) (fun i v hi hv=>by
   have:=h2.row (i+1) v (by omega) (by rw [← Nat.add_assoc,Nat.add_right_comm]; exact hv)
   rw [← Nat.add_assoc,Nat.add_right_comm] at this
   exact this) (by simp)
  exact hk _ m4 _ _ hsp (h3.side (by decide) f4) (f2.trans ((bfr f3).trans (bfr f4)))
theorem bufio_Read (h:BufAt E src sb db bb ub false r w pos m) (hG:Glob E m) {b o n k:Nat} (hn:0 < n) (hnk:n≤k) (hw:WrRow m b o n) (hS:∀ i,i < n→ ¬ BufS sb db bb ub b (o+i)) {R:Value→Mem→Prop}
  (hk:∀ c m' r' w',0 < c→c≤n→pos+c≤src.length→BufAt E src sb db bb ub false r' w' (pos+c) m'→(∀ (i v:Nat),i < c→src[pos+i]?=some v→cell? m' ⟨b,o+i,none⟩=some (.int .u8 (v:Int)))→
   Fr (fun i j=>BufS sb db bb ub i j∨(i=b∧o≤j∧j < o+c)) m m'→R (.tuple #[.int .i64 (c:Int),.nilIface]) m')
  (he:∀ m' r' w',pos=src.length→BufAt E src sb db bb ub false r' w' pos m'→Fr (BufS sb db bb ub) m m'→R (.tuple #[.int .i64 0,E.eof]) m'):
  CallM PP f_bufio_Reader_Read #[.pointer (some ⟨bb,0,none⟩),.slice (some ⟨b,o,none⟩) n k] m R:=by
 have hbs:b≠sb∧b≠db∧b≠bb∧b≠ub:=⟨fun e=>hS 0 hn (.inl e),fun e=>hS 0 hn (.inr (.inl e)),fun e=>hS 0 hn (.inr (.inr (.inl e))),fun e=>hS 0 hn (.inr (.inr (.inr e)))⟩
 have hbS:∀ j, ¬ BufS sb db bb ub b j:=fun j hj=>by
  rcases hj with e | e | e | e
  ·exact hbs.1 e
  ·exact hbs.2.1 e
  ·exact hbs.2.2.1 e
  ·exact hbs.2.2.2 e
 have rest:∀ m1 r1 w1,BufAt E src sb db bb ub false r1 w1 pos m1→r1 < w1→Fr (BufS sb db bb ub) m m1→WPS PP 151 c_bufio_Reader_Read_rrrr (retK PP r_bufio_Reader_Read R) [(0,.pointer (some ⟨bb,0,none⟩)),(1,.slice (some ⟨b,o,none⟩) n k)] m1:=by
  intro m1 r1 w1 h1 hlt f1
  have hrw:=h1.rw
  have hle:=h1.slow.le
  refine WPS.piece [0,1] rfl (p_bufio_Reader_Read_rrrr bb _ n k m1 _ ⟨_,_,_,h1.buf,_,h1.cr,_,h1.cw,Nat.le_refl _,⟨by omega,by omega⟩,⟨by omega,by omega⟩,?_⟩)
  simp only [Int.toNat_natCast]
  rw [subA_lt (by omega),Nat.zero_add]
  refine copyB_W b o ub r1 (min (w1 - r1) n) (fun i=>((src[pos+i]?).getD 0:Nat)) rfl (fun _=>rfl) (fun i hi=>?_) (fun _=>rfl) (fun i hi=>(hw i (by omega)).fr f1) fun m2 g1 g2 g3=>⟨_,rfl,?_⟩
  ·refine h1.row i _ (by omega) ?_
   rw [List.getElem?_eq_getElem (by omega)]; rfl
  have h2:=h1.fr g2 (by
   rintro i j hij ⟨rfl,_⟩
   rcases hij with e | e | e | e
   ·exact hbs.1 e
   ·exact hbs.2.1 e
   ·exact hbs.2.2.1 e
   ·exact hbs.2.2.2 e)
  refine ⟨_,h2.cr,StW.at rfl (h2.wr 2 (by decide)) fun m3 c3 f3 _=>?_⟩
  have ew:IntKind.wrap .i64 ((r1:Int)+((min (w1 - r1) n:Nat):Int))=((r1+min (w1 - r1) n:Nat):Int):=by rw [wrap64_id (by omega) (by omega)]; omega
  rw [ew] at c3
  have h3:BufAt E src sb db bb ub false (r1+min (w1 - r1) n) w1 (pos+min (w1 - r1) n) m3:=h2.move (f3.mono fun i j h=>⟨h.1,by omega⟩) c3 (f3.cell h2.cw (by simp)) (f3.cell h2.ce (by simp)) (by omega) (by omega) (fun i v hi hv=>by
   have:=h2.row (min (w1 - r1) n+i) v (by omega) (by rw [← Nat.add_assoc]; exact hv)
   rw [← Nat.add_assoc] at this
   exact this) (by simp)
  have e1:IntKind.wrap .i64 (((r1+min (w1 - r1) n:Nat):Int) - 1)=((r1+min (w1 - r1) n - 1:Nat):Int):=by rw [wrap64_id (by omega) (by omega)]; omega
  refine ⟨_,_,_,h3.buf,_,h3.cr,?_⟩
  rw [e1]
  have hlast:src[pos+(min (w1 - r1) n - 1)]?=some (src[pos+(min (w1 - r1) n - 1)]'(by omega)):=List.getElem?_eq_getElem (by omega)
  have hcell:=f3.cell (h2.row (min (w1 - r1) n - 1) _ (by omega) hlast) (by rintro ⟨e,_⟩; exact h1.ap.2.2.2.2 e)
  refine ⟨⟨by omega,by omega⟩,((src[pos+(min (w1 - r1) n - 1)]'(by omega):Nat):Int),?_,?_⟩
  ·rw [Int.toNat_natCast,show aplus ⟨ub,0,none⟩ (r1+min (w1 - r1) n - 1)=⟨ub,r1+(min (w1 - r1) n - 1),none⟩ by simp [aplus]; omega]; exact hcell
  refine StW.at rfl (h3.wr 5 (by decide)) fun m4 _ f4 _=>StW.at rfl ((h3.wr 6 (by decide)).fr f4) fun m5 _ f5 _=>?_
  refine hk (min (w1 - r1) n) m5 _ _ (by omega) (by omega) (by omega) ((h3.side (by decide) f4).side (by decide) f5) (fun i v hi hv=>?_) ?_
  ·refine f5.cell (f4.cell (f3.cell ?_ (by rintro ⟨e,_⟩; exact hbs.2.2.1 e)) (by rintro ⟨e,_⟩; exact hbs.2.2.1 e)) (by rintro ⟨e,_⟩; exact hbs.2.2.1 e)
   have:=g1 i hi
   simp only [hv,Option.getD_some] at this
   exact this
  ·exact (f1.mono fun i j h=>.inl h).trans ((g2.mono fun i j h=>.inr h).trans (((bfr f3).trans ((bfr f4).trans (bfr f5))).mono fun i j h=>.inl h))
 refine e_bufio_Reader_Read bb (some ⟨b,o,none⟩) n k m R ?_
 have hn0:((n:Int) == 0)=false:=by rw [beq_eq_false_iff_ne]; omega
 rw [hn0]
 refine ifB_f ⟨_,h.cr,_,h.cw,ifB_of (fun ht=>?_) (fun ht=>?_)⟩
 rotate_left
 ·have hne:r≠w:=by rintro rfl; simp at ht
  have hrw:=h.rw
  exact WPS.keep [0,1] (rest m r w h (by omega) (Fr.refl _ _))
 have hrw:r=w:=by
  have:(r:Int)=w:=by simpa using ht
  omega
 subst hrw
 have hsl:SlowAt src sb db pos m:=by have:=h.slow; rwa [Nat.sub_self,Nat.add_zero] at this
 refine ⟨_,h.ce,rfl,ifB_f ⟨_,_,_,h.buf,ifB_of (fun hl=>?_) (fun hl=>?_)⟩⟩
 ·refine ⟨_,h.rd,?_⟩
  have done:∀ (K:Kont),(∀ r m,(retK PP r_bufio_Reader_Read R).kr r m→K.kr r m)→∀ m3 (c:Nat) (er:Bool) v,BufAt E src sb db bb ub er r r (pos+c) m3→v=(if er then E.eof else .nilIface)→(0 < c→∃ x:Nat,cell? m3 ⟨b,o+(c - 1),none⟩=some (.int .u8 (x:Int)))→c≤n→c≤src.length→
    (∀ m4,BufAt E src sb db bb ub false r r (pos+c) m4→Fr (BufS sb db bb ub) m3 m4→R (.tuple #[.int .i64 (c:Int),v]) m4)→WPS PP 151 c_bufio_Reader_Read_rrrlrlrlrlrr K [(0,.pointer (some ⟨bb,0,none⟩)),(1,.slice (some ⟨b,o,none⟩) n k),(4,.int .i64 (c:Int)),(5,.nilIface)] m3:=by
   intro K hK m3 c er v h3 hv hx hcn hcs hR
   have hbig:=h.slow.big
   have fin:∀ m4,BufAt E src sb db bb ub er r r (pos+c) m4→Fr (BufS sb db bb ub) m3 m4→WPS PP 151 c_bufio_Reader_Read_rrrlrlrlrlrrr K [(0,.pointer (some ⟨bb,0,none⟩)),(1,.slice (some ⟨b,o,none⟩) n k),(4,.int .i64 (c:Int))] m4:=fun m4 h4 f4=>
    WPS.piece [0,4] rfl (p_bufio_Reader_Read_rrrlrlrlrlrrr bb c m4 _ (readErr_spec h4 fun m5 h5 f5=>⟨_,rfl,hK _ _ (by rw [← hv]; exact hR m5 h5 (f4.trans f5))⟩))
   refine WPS.piece [0,1,4] rfl (p_bufio_Reader_Read_rrrlrlrlrlrr bb _ n k c m3 _ ?_)
   refine ifB_of (fun hc=>?_) (fun _=>fin m3 h3 (Fr.refl _ _))
   have hc:=of_decide_eq_true hc
   obtain ⟨x,hx⟩:=hx (by omega)
   have e1:IntKind.wrap .i64 ((c:Int) - 1)=((c - 1:Nat):Int):=by rw [wrap64_id (by omega) (by omega)]; omega
   rw [e1]
   refine ⟨⟨by omega,by omega⟩,(x:Int),by rw [Int.toNat_natCast]; exact hx,?_⟩
   refine StW.at rfl (h3.wr 5 (by decide)) fun m4 _ f4 _=>StW.at rfl ((h3.wr 6 (by decide)).fr f4) fun m5 _ f5 _=>?_
   exact fin m5 ((h3.side (by decide) f4).side (by decide) f5) ((bfr f4).trans (bfr f5))
  refine callM_slow_Read _ _ _ _ (slow_Read hsl hG hn hnk hw ⟨hbs.1,hbs.2.1⟩ (fun c m3 c0 cl cq hA3 hd3 f3=>⟨_,_,rfl,?_⟩) (fun hq=>⟨_,_,rfl,?_⟩))
  ·have nb:∀ j, ¬ (bb=sb∨(bb=b∧o≤j∧j < o+c)):=fun j hj=>by
    rcases hj with e | e
    ·exact h.ap.1 e
    ·exact hbs.2.2.1 e.1.symm
   have nu:∀ j, ¬ (ub=sb∨(ub=b∧o≤j∧j < o+c)):=fun j hj=>by
    rcases hj with e | e
    ·exact h.ap.2.2.1 e
    ·exact hbs.2.2.2 e.1.symm
   refine StW.at rfl ((h.wr 4 (by decide)).fr f3) fun m4 c4 f4 _=>?_
   rw [decide_eq_false (by omega)]
   have h4:BufAt E src sb db bb ub false r r (pos+c) m4:=
    ⟨by rw [Nat.sub_self,Nat.add_zero]; exact hA3.fr f4 (fun j hj=>h.ap.1 hj.1.symm) (fun j hj=>h.ap.2.1 hj.1.symm),f4.cell (f3.cell h.buf (nb 0)) (by simp),f4.cell (f3.cell h.rd (nb 1)) (by simp),f4.cell (f3.cell h.cr (nb 2)) (by simp),f4.cell (f3.cell h.cw (nb 3)) (by simp),c4,fun j hj=>((h.wr j hj).fr f3).fr f4,h.rw,fun i v hi=>by omega,(h.own.fr f3).fr f4,h.ap,h.lo,by simp⟩
   have hd4:∀ (i v:Nat),i < c→src[pos+i]?=some v→cell? m4 ⟨b,o+i,none⟩=some (.int .u8 (v:Int)):=fun i v hi hv=>f4.cell (hd3 i v hi hv) (by rintro ⟨e,_⟩; exact hbs.2.2.1 e)
   refine ifB_f (done _ ?_ m4 c false .nilIface h4 rfl (fun _=>⟨_,hd4 (c - 1) _ (by omega) (List.getElem?_eq_getElem (by omega))⟩) cl (by omega) fun m5 h5 f5=>?_)
   ·exact fun _ _ h=>h
   refine hk c m5 r r c0 cl cq h5 (fun i v hi hv=>f5.cell (hd4 i v hi hv) (hbS _)) ?_
   exact (f3.mono fun i j h=>by
    rcases h with h | h
    ·exact .inl (.inl h)
    ·exact .inr h).trans (((bfr f4).trans f5).mono fun i j h=>.inl h)
  ·refine StW.at rfl (h.wr 4 (by decide)) fun m4 c4 f4 _=>?_
   rw [decide_eq_false (by decide)]
   have h4:BufAt E src sb db bb ub true r r (pos+0) m4:=h.move (f4.mono fun i j h=>⟨h.1,by omega⟩) (f4.cell h.cr (by simp)) (f4.cell h.cw (by simp)) c4 h.rw rfl (fun i v hi=>by omega) (fun _=>⟨rfl,hq⟩)
   refine ifB_f (done _ ?_ m4 0 true E.eof h4 rfl (fun h0=>absurd h0 (by decide)) (Nat.zero_le _) (Nat.zero_le _) fun m5 h5 f5=>he m5 r r hq h5 ((bfr f4).trans f5))
   exact fun _ _ h=>h
 ·refine StW.at rfl (h.wr 2 (by decide)) fun m1 c1 f1 _=>StW.at rfl ((h.wr 3 (by decide)).fr f1) fun m2 c2 f2 _=>?_
  have f12:Fr (fun i j=>i=bb∧2≤j) m m2:=(f1.mono fun i j h=>⟨h.1,by omega⟩).trans (f2.mono fun i j h=>⟨h.1,by omega⟩)
  have g12:Fr (BufS sb db bb ub) m m2:=f12.mono fun i j h=>.inr (.inr (.inl h.1))
  have h2:BufAt E src sb db bb ub false 0 0 pos m2:=h.move f12 (f2.cell c1 (by simp)) c2 (f2.cell (f1.cell h.ce (by simp)) (by simp)) (by omega) (by omega) (fun i v hi=>by omega) (by simp)
  have hG2:=Glob.buf h hG g12
  refine ⟨_,h2.rd,_,_,_,h2.buf,?_⟩
  show SemW PP (callMethod (.iface t_p_impl_slow (.pointer (some ⟨sb,0,none⟩))) "Read" #[.slice (some ⟨ub,0,none⟩) 4096 4096]) m2 _
  refine callM_slow_Read _ _ _ _ (slow_Read (by have:=h2.slow; rwa [Nat.sub_self,Nat.add_zero] at this) hG2 (n:=4096) (by decide) (Nat.le_refl _) h2.own ⟨h2.ap.2.2.1,h2.ap.2.2.2.1⟩ (fun c m3 c0 cl cq hA3 hd3 f3=>⟨_,_,rfl,?_⟩) (fun hq=>⟨_,_,rfl,?_⟩))
  ·have nb:∀ j, ¬ (bb=sb∨(bb=ub∧0≤j∧j < 0+c)):=fun j hj=>by
    rcases hj with e | e
    ·exact h.ap.1 e
    ·exact h.ap.2.2.2.2 e.1.symm
   have g3:Fr (BufS sb db bb ub) m2 m3:=f3.mono fun i j h=>by
    rcases h with h | h
    ·exact .inl h
    ·exact .inr (.inr (.inr h.1))
   refine StW.at rfl ((h2.wr 4 (by decide)).fr f3) fun m4 c4 f4 _=>?_
   rw [decide_eq_false (by omega)]
   refine ifB_f (WPS.piece [0,1,4] rfl (p_bufio_Reader_Read_rrrlrlrrrrrr bb _ n k c m4 _ ?_))
   have hc0:((c:Int) == 0)=false:=by rw [beq_eq_false_iff_ne]; omega
   rw [hc0]
   refine ifB_f ⟨_,f4.cell (f3.cell h2.cw (nb 3)) (by simp),StW.at rfl (((h2.wr 3 (by decide)).fr f3).fr f4) fun m5 c5 f5 _=>?_⟩
   have hw5:IntKind.wrap .i64 (((0:Nat):Int)+(c:Int))=(c:Int):=by rw [wrap64_id (by omega) (by omega)]; omega
   rw [hw5] at c5
   have h5:BufAt E src sb db bb ub false 0 c pos m5:=
    ⟨by rw [Nat.sub_zero]; exact (hA3.fr f4 (fun j hj=>h.ap.1 hj.1.symm) (fun j hj=>h.ap.2.1 hj.1.symm)).fr f5 (fun j hj=>h.ap.1 hj.1.symm) (fun j hj=>h.ap.2.1 hj.1.symm),f5.cell (f4.cell (f3.cell h2.buf (nb 0)) (by simp)) (by simp),f5.cell (f4.cell (f3.cell h2.rd (nb 1)) (by simp)) (by simp),f5.cell (f4.cell (f3.cell h2.cr (nb 2)) (by simp)) (by simp),c5,f5.cell c4 (by simp),fun j hj=>(((h2.wr j hj).fr f3).fr f4).fr f5,⟨Nat.zero_le _,cl⟩,fun i v hi hv=>f5.cell (f4.cell (hd3 i v (by omega) hv) (by rintro ⟨e,_⟩; exact h.ap.2.2.2.2 e)) (by rintro ⟨e,_⟩; exact h.ap.2.2.2.2 e),((h2.own.fr f3).fr f4).fr f5,h.ap,h.lo,by simp⟩
   exact WPS.keep [0,1] (rest m5 0 c h5 c0 (g12.trans (g3.trans ((bfr f4).trans (bfr f5)))))
  ·refine StW.at rfl (h2.wr 4 (by decide)) fun m4 c4 f4 _=>?_
   rw [decide_eq_false (by decide)]
   have h4:BufAt E src sb db bb ub true 0 0 pos m4:=h2.move (f4.mono fun i j h=>⟨h.1,by omega⟩) (f4.cell h2.cr (by simp)) (f4.cell h2.cw (by simp)) c4 h2.rw rfl (fun i v hi=>by omega) (fun _=>⟨rfl,hq⟩)
   refine ifB_f (WPS.piece [0,1,4] rfl (p_bufio_Reader_Read_rrrlrlrrrrrr bb _ n k 0 m4 _ ?_))
   exact ifB_t (readErr_spec h4 fun m5 h5 f5=>⟨_,rfl,he m5 0 0 hq h5 (g12.trans ((bfr f4).trans f5))⟩)
end
theorem callM_bufio_ReadByte (b:Nat) (m:Mem) (K:Value→Mem→Prop) (h:CallM PP f_bufio_Reader_ReadByte #[.pointer (some ⟨b,0,none⟩)] m K):
  SemW PP (callMethod (.iface t_p_bufio_Reader (.pointer (some ⟨b,0,none⟩))) "ReadByte" #[]) m (NextW PP K):=Eq.mpr (by kernel_rfl) h
theorem callM_bufio_Read (b:Nat) (x:Value) (m:Mem) (K:Value→Mem→Prop) (h:CallM PP f_bufio_Reader_Read #[.pointer (some ⟨b,0,none⟩),x] m K):
  SemW PP (callMethod (.iface t_p_bufio_Reader (.pointer (some ⟨b,0,none⟩))) "Read" #[x]) m (NextW PP K):=Eq.mpr (by kernel_rfl) h
theorem meth_bufio (b:Nat) (K:Unit→Prop) (h:K ()):PureW PP (methNil "Read" #[.iface t_p_bufio_Reader (.pointer (some ⟨b,0,none⟩))]) K:=Eq.mpr (by kernel_rfl) h
def bufRdr (E:Errs) (src:List Nat) (sb db bb ub:Nat) (hlo:4 < sb∧4 < db∧4 < bb∧4 < ub):Rdr E src where
 rv:=.iface t_p_bufio_Reader (.pointer (some ⟨bb,0,none⟩))
 At:=fun pos m=>∃ r w,BufAt E src sb db bb ub false r w pos m
 S:=BufS sb db bb ub
 isI:=rfl
 meth:=fun h=>meth_bufio bb _ h
 notNil:=rfl
 own:=by rintro i j (rfl | rfl | rfl | rfl) <;> omega
 fr:=fun ⟨r,w,h⟩ hf hs=>⟨r,w,h.fr hf hs⟩
 le:=fun ⟨_,_,h⟩=>by have:=h.slow.le; omega
 readByte:=fun ⟨_,_,h⟩ hG hk he=>callM_bufio_ReadByte bb _ _ (bufio_ReadByte h hG (fun c m' r' w' h1 h2 h3=>hk c m' h1 ⟨r',w',h2⟩ h3) fun m' r' w' h1 h2 h3=>he m' h1 ⟨r',w',h2⟩ h3)
 read:=fun ⟨_,_,h⟩ hG hn hnk hw hS hk he=>callM_bufio_Read bb _ _ _ (bufio_Read h hG hn hnk hw hS (fun c m' r' w' h1 h2 h3 h4 h5 h6=>hk c m' h1 h2 h3 ⟨r',w',h4⟩ h5 h6) fun m' r' w' h1 h2 h3=>he m' h1 ⟨r',w',h2⟩ h3)
end Go.M

namespace Go.M
open Go
set_option maxRecDepth 100000
theorem mm_some {want:Array (String×TypeId)} {got:Array Method} {s:String} (h:((want.toList.filter fun (name,sig)=> !got.any fun m=>m.name == name && m.sig == sig).map (·.1))=[s]):∃ r,Instr.missingMethod want got=some r:=by
 unfold Instr.missingMethod
 rw [h]
 cases hc:s.contains '.' <;> simp [List.partition,List.partition.loop,hc,Instr.least]
def wantOf (P:Program) (t:TypeId):Array (String×TypeId):=
 match P.underlying t with
 | some (.interface w)=>w
 | _=>#[]
def methsOf (P:Program) (t:TypeId):Array Method:=
 match P.info? t with
 | some i=>i.methods
 | none=>#[]
theorem slow_assert (v:Value) (K:Value→Prop):PureW PP (Instr.typeAssert (.iface t_p_impl_slow v) t_io_Reader t_flate_Reader true) K=
  PureW PP (match Instr.missingMethod (wantOf PP t_flate_Reader) (methsOf PP t_p_impl_slow) with
   | none=>(pure (.tuple #[.iface t_p_impl_slow v,.bool true]):Sem Value)
   | some _=>do pure (.tuple #[← zeroValue t_flate_Reader,.bool false])) K:=by kernel_rfl
theorem slow_lacks:(((wantOf PP t_flate_Reader).toList.filter fun (name,sig)=> !(methsOf PP t_p_impl_slow).any fun m=>m.name == name && m.sig == sig).map (·.1))=["ReadByte"]:=by kernel_rfl
theorem slow_zero (K:Value→Prop):PureW PP (do pure (.tuple #[← zeroValue t_flate_Reader,.bool false]):Sem Value) K=K (.tuple #[.nilIface,.bool false]):=by kernel_rfl
theorem assert_slow (b:Nat) (K:Value→Prop) (h:K (.tuple #[.nilIface,.bool false])):
  PureW PP (Instr.typeAssert (.iface t_p_impl_slow (.pointer (some ⟨b,0,none⟩))) t_io_Reader t_flate_Reader true) K:=by
 rw [slow_assert]
 obtain ⟨r,hr⟩:=mm_some slow_lacks
 rw [hr]
 exact Eq.mpr (slow_zero K) h
theorem assert_slow_buf (b:Nat) (K:Value→Prop) (h:K (.tuple #[.pointer none,.bool false])):
  PureW PP (Instr.typeAssert (.iface t_p_impl_slow (.pointer (some ⟨b,0,none⟩))) t_io_Reader t_p_bufio_Reader true) K:=Eq.mpr (by kernel_rfl) h
theorem e_reset_slow (b s:Nat) (a1:Option Addr) (l2 k3:Nat) (m:Mem) (R:Value→Mem→Prop)
  (h:StAgg PP t_bufio_Reader m ⟨b,0,none⟩ (.agg #[.slice a1 l2 k3,.iface t_p_impl_slow (.pointer (some ⟨s,0,none⟩)),.int .i64 0,.int .i64 0,.nilIface,.int .i64 (-1),.int .i64 (-1)]) fun m5=>R (.tuple #[]) m5):
  CallM PP f_bufio_Reader_reset #[.pointer (some ⟨b,0,none⟩),.slice a1 l2 k3,.iface t_p_impl_slow (.pointer (some ⟨s,0,none⟩))] m R:=by
 obtain ⟨fn,h1,h2,h3,h4⟩:=i_bufio_Reader_reset
 refine callM_enterS 11 h1 h2 h3 (by simp) ?_
 rw [h4]
 exact wpc_sound ffOk mixedOk (L:=L_bufio_Reader_reset) (Eq.mpr (by kernel_rfl) h)
theorem buf_store {m:Mem} {a:Addr} {v1 v2 v3 v4 v5 v6 v7:Value} {K:Mem→Prop} (h:SemW PP (storeCells a [v1,v2,v3,v4,v5,v6,v7] 0) m fun _ m'=>K m'):StAgg PP t_bufio_Reader m a (.agg #[v1,v2,v3,v4,v5,v6,v7]) K:=Eq.mpr (by kernel_rfl) h
theorem z_bufio:zeroOf PP t_bufio_Reader=some (.agg #[.slice none 0 0,.nilIface,.int .i64 0,.int .i64 0,.nilIface,.int .i64 0,.int .i64 0]):=by kernel_rfl
section
variable {E:Errs} {src:List Nat}
theorem newBuf_spec {sb db:Nat} {m:Mem} (hA:SlowAt src sb db 0 m) (hlo:4 < sb∧4 < db) (hdb:db < m.size) {R:Value→Mem→Prop}
  (hk:∀ m',BufAt E src sb db m.size (m.size+1) false 0 0 0 m'→(∀ S,Fr S m m')→m'.size=m.size+2→R (.pointer (some ⟨m.size,0,none⟩)) m'):
  CallM PP f_bufio_NewReader #[.iface t_p_impl_slow (.pointer (some ⟨sb,0,none⟩))] m R:=by
 have hsb:sb < m.size:=by
  obtain ⟨_,_,h,_⟩:=hA.s
  have:=cell_block h; simpa using this
 refine e_bufio_NewReader _ m R (e_bufio_NewReaderSize _ 4096 m _ (assert_slow_buf sb _ ⟨none,false,rfl,ifB_f (alloc_W z_bufio ?_)⟩))
 have w1:∀ j,j < 7→Wr (m.push (.cells #[.slice none 0 0,.nilIface,.int .i64 0,.int .i64 0,.nilIface,.int .i64 0,.int .i64 0] t_bufio_Reader)) ⟨m.size,j,none⟩:=fun j hj=>wr_new (by simpa using hj)
 have f1:∀ S,Fr S m (m.push (.cells #[.slice none 0 0,.nilIface,.int .i64 0,.int .i64 0,.nilIface,.int .i64 0,.int .i64 0] t_bufio_Reader)):=fun S=>Fr.push _
 have s1:(m.push (.cells #[.slice none 0 0,.nilIface,.int .i64 0,.int .i64 0,.nilIface,.int .i64 0,.int .i64 0] t_bufio_Reader)).size=m.size+1:=Array.size_push ..
 show SemW PP _ (m.push (.cells #[.slice none 0 0,.nilIface,.int .i64 0,.int .i64 0,.nilIface,.int .i64 0,.int .i64 0] t_bufio_Reader)) _
 generalize m.push (.cells #[.slice none 0 0,.nilIface,.int .i64 0,.int .i64 0,.nilIface,.int .i64 0,.int .i64 0] t_bufio_Reader)=m1 at w1 f1 s1 ⊢
 obtain ⟨iu,hi⟩:=one_uint8
 refine make_W (n:=4096) u_s_uint8 hi.info hi.zero rfl hi.size (by decide) (by decide) (by rw [hi.bytes]; omega) (by omega) fun m2 own2 f2 s2=>⟨_,_,_,rfl,?_⟩
 rw [s1] at own2 s2 ⊢
 refine e_reset_slow _ _ _ _ _ _ _ (buf_store (Row.storeCells (vs:=[.slice (some ⟨m.size+1,0,none⟩) 4096 4096,.iface t_p_impl_slow (.pointer (some ⟨sb,0,none⟩)),.int .i64 0,.int .i64 0,.nilIface,.int .i64 (-1),.int .i64 (-1)]) (i:=0) (by intro v hv; simp at hv; rcases hv with rfl | rfl | rfl | rfl | rfl <;> rfl) (fun j hj=>by
  rw [Nat.zero_add]
  exact (w1 j (by simpa using hj)).fr (f2 fun _ _=>False)) fun m3 c3 f3 s3=>⟨rfl,⟨_,rfl,?_⟩⟩))
 have c:∀ (j:Nat) v,([.slice (some ⟨m.size+1,0,none⟩) 4096 4096,.iface t_p_impl_slow (.pointer (some ⟨sb,0,none⟩)),.int .i64 0,.int .i64 0,.nilIface,.int .i64 (-1),.int .i64 (-1)]:List Value)[j]?=some v→cell? m3 ⟨m.size,j,none⟩=some v:=fun j v hv=>by
  have:=c3 j v hv
  rwa [Nat.zero_add] at this
 have F2:∀ S,Fr S m m2:=fun S=>(f1 S).trans (f2 S)
 refine hk m3 ⟨(hA.fr (F2 fun _ _=>False) (fun _=>id) fun _=>id).fr f3 (fun j h=>by have:=h.1; omega) (fun j h=>by have:=h.1; omega),c 0 _ rfl,c 1 _ rfl,c 2 _ rfl,c 3 _ rfl,c 4 _ rfl,fun j hj=>((w1 j hj).fr (f2 fun _ _=>False)).fr f3,by decide,fun i v h=>by omega,fun i hi=>?_,⟨by omega,by omega,by omega,by omega,by omega⟩,⟨hlo.1,hlo.2,by omega,by omega⟩,by simp⟩ (fun S=>?_) (by rw [s3,s2])
 ·exact (own2.wr i (by omega)).fr f3
 ·exact ((F2 _).trans f3).old fun i j hi h=>by have:=h.1; omega
theorem makeReader_slow {f sb db:Nat} {m:Mem} (hown:OwnF f m) (hz:cell? m ⟨f,1,none⟩=some (.pointer none)) (hA:SlowAt src sb db 0 m) (hlo:4 < sb∧4 < db) (hdb:db < m.size) (hf:f≠sb∧f≠db) {R:Value→Mem→Prop}
  (hk:∀ m',BufAt E src sb db m.size (m.size+1) false 0 0 0 m'→cell? m' ⟨f,0,none⟩=some (.iface t_p_bufio_Reader (.pointer (some ⟨m.size,0,none⟩)))→Fr (fun i j=>i=f∧j≤1) m m'→m'.size=m.size+2→R (.tuple #[]) m'):
  CallM PP f_decompressor_makeReader #[.pointer (some ⟨f,0,none⟩),.iface t_p_impl_slow (.pointer (some ⟨sb,0,none⟩))] m R:=by
 have hfm:f < m.size:=by have:=cell_block hz; simpa using this
 refine e_decompressor_makeReader f _ m R (assert_slow sb _ ⟨_,_,rfl,ifB_f ⟨_,hz,ifB_f (newBuf_spec (E:=E) hA hlo hdb fun m1 hB1 f1 s1=>⟨_,rfl,?_⟩)⟩⟩)
 have own1:=hown.fr (f1 fun _ _=>False)
 refine StW.at rfl (own1 1 (by decide)) fun m2 c2 f2 s2=>?_
 refine WPS.piece [0] rfl (p_decompressor_makeReader_rr f m2 _ ⟨_,c2,StW.at rfl ((own1.fr f2) 0 (by decide)) fun m3 c3 f3 s3=>?_⟩)
 have ap:∀ i j,BufS sb db m.size (m.size+1) i j→i≠f:=fun i j h=>by
  rcases h with h | h | h | h <;> omega
 exact hk m3 ((hB1.fr f2 fun i j h e=>ap i j h e.1).fr f3 fun i j h e=>ap i j h e.1) c3 ((f1 _).trans ((f2.mono fun i j h=>⟨h.1,by omega⟩).trans (f3.mono fun i j h=>⟨h.1,by omega⟩))) (by rw [s3,s2,s1])
theorem newReader_slow {sb db:Nat} {m:Mem} (hlo:4 < sb∧4 < db) (hA:SlowAt src sb db 0 m) (hG:Glob E m) (hdb:db < m.size) (hb:∀ v ∈ src,v < 256) (hbig:src.length < 1152921504606846976) {R:Value→Mem→Prop}
  (hk:∀ (D:Rdr E src) m' f bh bb cb,(∀ i j,D.S i j→i=sb∨i=db∨m.size≤i)→m.size≤f→m.size≤bh→m.size≤bb→m.size≤cb→(∀ S,Fr S m m')→(∀ j, ¬ D.S f j)→(∀ Hf e pf,Runs (scOf src) ⟨0,[],.block⟩ Hf e pf→Live D f bh bb cb Hf e pf 0 m')→R (.iface t_p_flate_decompressor (.pointer (some ⟨f,0,none⟩))) m'):
  CallM PP f_inflate_NewReader #[.iface t_p_impl_slow (.pointer (some ⟨sb,0,none⟩))] m R:=by
 have hsb:sb < m.size:=by
  obtain ⟨_,_,h,_⟩:=hA.s
  have:=cell_block h; simpa using this
 refine e_inflate_NewReader _ m R (alloc_W z_decompressor ?_)
 obtain ⟨z1,z2,_⟩:=new_zero (m:=m) fun _ _=>False
 have z3:∀ S,Fr S m (m.push (.cells dzList.toArray t_flate_decompressor)):=fun S=>(new_zero S).2.2
 have s0:(m.push (.cells dzList.toArray t_flate_decompressor)).size=m.size+1:=Array.size_push ..
 show CallM PP f_decompressor_makeReader _ (m.push (.cells dzList.toArray t_flate_decompressor)) _
 generalize m.push (.cells dzList.toArray t_flate_decompressor)=m0 at z1 z2 z3 s0 ⊢
 have hA0:SlowAt src sb db 0 m0:=hA.fr (z3 fun _ _=>False) (fun _=>id) fun _=>id
 refine makeReader_slow (E:=E) z2 (z1 1 _ (by rw [dz_head (by decide)]; rfl)) hA0 hlo (by omega) ⟨by omega,by omega⟩ fun m1 hB1 c1 f1 s1=>⟨rfl,?_⟩
 rw [s0] at hB1 c1 s1
 have hMade:Made (bufRdr E src sb db (m.size+1) (m.size+1+1) hB1.lo) m.size m1:=⟨(hG.fr (z3 fun _ _=>False) (by intro i j h; exact h.elim)).fr f1 (by rintro i j ⟨rfl,_⟩; omega),c1,⟨0,0,hB1⟩,fun i v hi hv=>f1.cell (z1 i v hv) (by simp only; omega),z2.fr f1,by omega,by
  rintro i j (h | h | h | h) <;> omega,by rintro j (h | h | h | h) <;> omega,hb,hbig⟩
 refine new_tail hMade (a:=none) (dl:=0) (dk:=0) (d:=[]) (db:=m.size+3) (dq:=0) ⟨rfl,Nat.le_refl _,fun h=>by omega,fun i hi=>by omega,fun v hv=>by cases hv⟩ (by omega) (fun h=>by omega) (by decide) fun m' bh bb cb h1 h2 h3 hF hL=>?_
 refine hk _ m' m.size bh bb cb ?_ (Nat.le_refl _) (by omega) (by omega) (by omega) (fun S=>?_) hMade.apart hL
 ·rintro i j (h | h | h | h) <;> omega
 ·exact ((z3 (fun i _=>i=m.size)).trans ((f1.mono fun i j h=>h.1).trans hF)).old fun i j h1 h2=>by omega
theorem box_slow {v1 v2:Value} {m:Mem} {K:Nat→Mem→Prop} (h:K m.size (m.push (.cells #[v1,v2] t_impl_slow))):BoxW t_impl_slow (.agg #[v1,v2]) m K:=h
theorem Slow_spec {m:Mem} {a:Option Addr} {l k b o:Nat} (hS:SlcB m a l k b o src) (hG:Glob E m) (hbig:l≤70368744177664) (x:Int) {lim:Int} (hlim:lim≤35184372088832) {Hf:List Nat} {e:Er} {pf:Nat} (hr:Runs (scOf src) ⟨0,[],.block⟩ Hf e pf)
  {R:Value→Mem→Prop} (hk:GiveOk Hf e 0 lim m R):CallM PP f_impl_Slow #[.slice a l k,.int .i64 x,.int .i64 lim] m R:=by
 refine e_impl_Slow a l k x lim m R ?_
 have h4:=hG.big
 have hlen:=hS.len
 refine copied_W hS hbig fun m1 a' k' db o' hO h1 h2 ho f1=>box_slow ?_
 have hG1:Glob E m1:=hG.fr (f1 fun _ _=>False) (by intro i j h; exact h.elim)
 have s1:=(f1 fun _ _=>False).size
 obtain ⟨y,hy,hy1⟩:∃ y:Int,(if x > 1 then x else 1)=y∧1≤y:=⟨_,rfl,by split <;> omega⟩
 rw [hy]
 have c2:∀ i v,#[Value.slice a' l k',.int .i64 y][i]?=some v→cell? (m1.push (.cells #[.slice a' l k',.int .i64 y] t_impl_slow)) ⟨m1.size,i,none⟩=some v:=fun i v h=>cell_new h
 have w2:Wr (m1.push (.cells #[.slice a' l k',.int .i64 y] t_impl_slow)) ⟨m1.size,0,none⟩:=wr_new (by simp)
 have f2:∀ S,Fr S m1 (m1.push (.cells #[.slice a' l k',.int .i64 y] t_impl_slow)):=fun S=>Fr.push _
 have s2:(m1.push (.cells #[.slice a' l k',.int .i64 y] t_impl_slow)).size=m1.size+1:=Array.size_push ..
 generalize m1.push (.cells #[.slice a' l k',.int .i64 y] t_impl_slow)=m2 at c2 w2 f2 s2 ⊢
 have hA:SlowAt src m1.size db 0 m2:=by
  refine ⟨⟨a',k',by rw [hlen]; exact c2 0 _ rfl,by rw [hlen]; exact hO.own.le,fun h=>?_⟩,⟨y,c2 1 _ rfl,hy1⟩,w2,fun i v hv=>?_,Nat.zero_le _,by omega,by omega⟩
  ·have:=hO.own.at_ (by have:=hO.own.le; omega)
   rw [this,ho (by omega)]
  ·have hi:=(List.getElem?_eq_some_iff.1 hv).1
   have:=hO.own.row i (u8V v) (by rw [List.getElem?_map,hv]; rfl)
   rw [ho (by omega),Nat.zero_add] at this
   exact (f2 fun _ _=>False).cell this id
 refine newReader_slow (E:=E) ⟨by omega,by omega⟩ hA (hG1.fr (f2 fun _ _=>False) (by intro i j h; exact h.elim)) (by omega) hS.byte (by omega) fun D m3 f bh bb cb hD k1 k2 k3 k4 f3 hDf hL=>⟨_,rfl,?_⟩
 refine all_spec (hL Hf e pf hr) (by simp) hDf (by omega) hlim fun m4 a4 l4 k4' b4 o4 c hO4 hb hle _ hF hc=>⟨_,_,_,_,rfl,?_⟩
 have s3:=(f3 fun _ _=>False).size
 refine hk m4 a4 l4 k4' b4 o4 c hO4 (fun h=>by have:=hb h; omega) (by simpa using hle) (fun S=>?_) (hc.imp (fun ⟨h1,h2,_⟩=>⟨h1,h2⟩) id)
 refine Fr.old ((f1 _).trans ((f2 _).trans ((f3 _).trans hF))) ?_
 rintro i j hi (h | rfl | rfl | rfl | rfl)
 ·rcases hD i j h with h | h | h <;> omega
 ·omega
 ·omega
 ·omega
 ·omega
theorem Slow_short {m:Mem} {a:Option Addr} {l k b o:Nat} (hS:SlcB m a l k b o src) (hG:Glob E m) (hbig:l≤70368744177664) (x:Int) {Hf:List Nat} {e:Er} {pf:Nat} (hr:Runs (scOf src) ⟨0,[],.block⟩ Hf e pf) (hH:Hf.length≤131072)
  {R:Value→Mem→Prop} (hk:∀ m' a' k' b' o',OutB m' a' Hf.length k' b' o' Hf→(∀ S,Fr S m m')→R (.tuple #[.slice a' Hf.length k',.int .i64 (codeOf e)]) m'):CallM PP f_impl_Slow #[.slice a l k,.int .i64 x,.int .i64 131072] m R:=by
 refine Slow_spec hS hG hbig x (by decide) hr fun m' a' l' k' b' o' c hO _ hle hf hc=>?_
 rcases hc with ⟨h1,rfl⟩ | ⟨h1,_⟩
 ·have:l'=Hf.length:=by omega
  subst this
  rw [List.drop_zero,List.take_length] at hO
  exact hk m' a' k' b' o' hO hf
 ·omega
end
end Go.M
