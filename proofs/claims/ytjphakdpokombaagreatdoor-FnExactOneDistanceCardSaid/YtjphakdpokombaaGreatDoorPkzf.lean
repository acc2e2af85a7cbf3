/- The random generator: a new one; what a made stream is. Slices of slices; literals alone. A stream whose first block is the last: no block ends amid it. No program in sight. The random generator: streams of literals. The random generator: streams with one distance code. -/
import Derived.Test.YtjphakdpokombaaGreatDoorPkze
import Derived.Test.YtjphakdpokombaaGreatDoorPkzb
import Derived.Test.YtjphakdpokombaaGreatDoorPkzc
namespace Go.M
open Go
set_option maxRecDepth 100000
theorem nilB (m:Mem):SlcB m none 0 0 0 0 []:=⟨rfl,Nat.le_refl _,by omega,fun i h=>by omega,by simp⟩
theorem nilT (m:Mem):SlcT m none 0 0 0 0 []:=⟨rfl,Nat.le_refl _,by omega,fun i x h=>by simp at h⟩
structure MadeS (m:Mem) (fin:Bool) (a1:Option Addr) (l1 k1 b1 o1:Nat) (src:List Nat) (ch:List (Nat×Nat)) (a2:Option Addr) (l2 k2 b2 o2:Nat) (H:List Nat):Prop where
 row:SlcB m a1 l1 k1 b1 o1 src
 st:StreamOf ch src
 blk:BlkX 0 [] ch H fin
 len:chLen ch≤1000000
 want:SlcB m a2 l2 k2 b2 o2 H
 size:H.length≤131072
 small:H.length≤60000
theorem MadeS.fr {m m':Mem} {fin:Bool} {a1:Option Addr} {l1 k1 b1 o1:Nat} {src:List Nat} {ch:List (Nat×Nat)} {a2:Option Addr} {l2 k2 b2 o2:Nat} {H:List Nat} (h:MadeS m fin a1 l1 k1 b1 o1 src ch a2 l2 k2 b2 o2 H) (hf:∀ S,Fr S m m'):MadeS m' fin a1 l1 k1 b1 o1 src ch a2 l2 k2 b2 o2 H:=
 ⟨h.row.sp (hf fun _ _=>False) fun _ _=>id,h.st,h.blk,h.len,h.want.sp (hf fun _ _=>False) fun _ _=>id,h.size,h.small⟩
theorem box_rd {v1 v2:Value} {m:Mem} {K:Nat→Mem→Prop} (h:K m.size (m.push (.cells #[v1,v2] t_spec_reader))):BoxW t_spec_reader (.agg #[v1,v2]) m K:=h
section
variable {m:Mem} {r c:Nat}
theorem newReader_spec {a:Option Addr} {l k b o:Nat} {d:List Nat} (hS:SlcB m a l k b o d) {R:Value→Mem→Prop} (hk:∀ m',RdM m' m.size 0→(∀ S,Fr S m m')→m'.size=m.size+1→R (.pointer (some ⟨m.size,0,none⟩)) m'):CallM PP f_spec_newReader #[.slice a l k] m R:=by
 have hcap:=hS.cap
 have e:(if (3000:Int) < (l:Int) then (3000:Int) else (l:Int))=((min l 3000:Nat):Int):=by split <;> omega
 refine e_spec_newReader a l k m R ⟨hcap,?_,?_⟩
 ·rw [e]; exact ⟨by omega,by omega⟩
 ·rw [e,Int.toNat_natCast]
  refine box_rd ?_
  have f1:∀ S,Fr S m (m.push (.cells #[.slice a (min l 3000) k,.int .i64 0] t_spec_reader)):=fun S=>Fr.push _
  have hS1:=(hS.take (n:=min l 3000) (by omega)).sp (f1 fun _ _=>False) fun _ _=>id
  refine hk _ ⟨⟨a,min l 3000,k,b,o,_,cell_new rfl,hS1,by omega,fun h0=>?_⟩,⟨0,Nat.le_refl _,cell_new rfl⟩,wr_new (by simp)⟩ f1 (Array.size_push ..)
  have:=cell_block (hS.data 0 (by omega))
  simpa using this
end
end Go.M

namespace Go.M
open Go
set_option maxRecDepth 100000
section
variable {m:Mem}
theorem SlcB.dropG {a:Option Addr} {l k b o n:Nat} {d:List Nat} (h:SlcB m a l k b o d) (hn:n≤l):SlcB m (subA a n 1 k) (l - n) (k - n) b (o+n) (d.drop n):=by
 have hl:=h.len
 have hc:=h.cap
 by_cases h0:n < l
 ·exact h.drop (by omega) (by omega)
 ·exact ⟨by rw [List.length_drop]; omega,by omega,fun h1=>by omega,fun i hi=>by omega,fun v hv=>h.byte v (List.mem_of_mem_drop hv)⟩
theorem SlcT.take {a:Option Addr} {l k b o n:Nat} {its:List It} (h:SlcT m a l k b o its) (hn:n≤l):SlcT m a n k b o (its.take n):=
 ⟨by rw [List.length_take,h.len]; omega,by have:=h.cap; omega,fun h0=>h.at_ (by omega),fun i x hx=>by
  rw [List.getElem?_take] at hx
  split at hx
  ·exact h.data i x hx
  ·cases hx⟩
theorem SlcT.drop {a:Option Addr} {l k b o n:Nat} {its:List It} (h:SlcT m a l k b o its) (hn:n≤l):SlcT m (subA a n 3 k) (l - n) (k - n) b (o+n * 3) (its.drop n):=by
 have hl:=h.len
 have hc:=h.cap
 refine ⟨by rw [List.length_drop]; omega,by omega,fun h0=>?_,fun i x hx=>?_⟩
 ·rw [h.at_ (by omega)]
  unfold subA
  rw [if_neg (by omega)]
  show some (aplus _ (mulS n 3))=_
  rw [show mulS n 3=n * 3 from rfl]
  rfl
 ·rw [List.getElem?_drop] at hx
  have:=h.data (n+i) x hx
  rw [show o+n * 3+i * 3=o+(n+i) * 3 from by omega]
  exact this
theorem VIts.split:∀ {its:List It} {n k:Nat},VIts n its→VIts n (its.take k)∧VIts (itsN n (its.take k)) (its.drop k)
 | [],n,k,_=>by simp [VIts]
 | x::its,n,0,h=>by simpa [VIts,itsN] using h
 | x::its,n,k+1,h=>by
  have:=VIts.split (its:=its) (k:=k) h.2
  exact ⟨⟨h.1,this.1⟩,this.2⟩
theorem givs_len:∀ (its:List It) (H:List Nat),(givs H its).length=itsN H.length its
 | [],_=>rfl
 | x::its,H=>by
  show (givs (giv H x) its).length=itsN (H.length+max 1 x.len) its
  rw [givs_len its (giv H x),giv_length]
theorem givs_cut (its:List It) (H:List Nat) (k:Nat):givs (givs H (its.take k)) (its.drop k)=givs H its:=by
 unfold givs
 rw [← List.foldl_append,List.take_append_drop]
def litIt (v:Nat):It:=⟨v,0,0⟩
theorem lits_valid:∀ {T:List Nat} {n:Nat},(∀ v ∈ T,v < 256)→VIts n (T.map litIt)
 | [],_,_=>trivial
 | v::_,_,h=>⟨⟨h v (List.mem_cons_self ..),.inl rfl⟩,lits_valid fun x hx=>h x (List.mem_cons_of_mem _ hx)⟩
theorem lits_give:∀ (T H:List Nat),givs H (T.map litIt)=H++T
 | [],H=>by simp [givs]
 | v::T,H=>by
  show givs (giv H (litIt v)) (T.map litIt)=_
  rw [lits_give T,show giv H (litIt v)=H++[v] from rfl,List.append_assoc]; rfl
end
end Go.M

namespace Go.M
set_option maxRecDepth 100000
def finM:Md→Bool
 | .block=>false
 | .stored fin _=>fin
 | .coded fin _=>fin
 | .copy fin _ _ _=>fin
def LastS (s:St):Prop:=(s.md=.block∧s.p=0)∨finM s.md=true
theorem gfar_last {c:Sc} {H:List Nat} {T:Tb} {len d p:Nat} {s:St} (h:gfar c H true T len d p=.go s):finM s.md=true:=by
 unfold gfar at h
 split at h
 ·cases h
 ·simp only [Nx.go.injEq] at h; subst h; rfl
theorem gdist_last {c:Sc} {H:List Nat} {T:Tb} {len k p:Nat} {s:St} (h:gdist c H true T len k p=.go s):finM s.md=true:=by
 unfold gdist at h
 split at h
 ·exact gfar_last h
 ·split at h
  ·split at h
   ·cases h
   ·exact gfar_last h
  ·cases h
theorem glen_last {c:Sc} {H:List Nat} {T:Tb} {len p:Nat} {s:St} (h:glen c H true T len p=.go s):finM s.md=true:=by
 unfold glen at h
 split at h
 ·split at h
  ·cases h
  ·exact gdist_last h
 ·split at h
  ·cases h
  ·cases h
  ·exact gdist_last h
theorem gcoded_last {c:Sc} {H:List Nat} {T:Tb} {p:Nat} {s:St} (h:gcoded c H true T p=.go s):finM s.md=true:=by
 unfold gcoded at h
 split at h
 ·cases h
 ·cases h
 ·unfold gsym at h
  split at h
  ·simp only [Nx.go.injEq] at h; subst h; rfl
  ·split at h
   ·simp at h
   ·split at h
    ·cases h
    ·split at h
     ·cases h
     ·exact glen_last h
theorem gblock_last {c:Sc} {H:List Nat} {s:St} (h1:tk c.N 0 1=1) (h:gblock c H 0=.go s):finM s.md=true:=by
 have e:(tk c.N 0 1 == 1)=true:=by rw [h1]; rfl
 unfold gblock at h
 rw [e] at h
 split at h
 ·cases h
 ·split at h
  ·split at h
   ·cases h
   ·split at h
    ·cases h
    ·simp only [Nx.go.injEq] at h; subst h; rfl
  ·split at h
   ·simp only [Nx.go.injEq] at h; subst h; rfl
   ·split at h
    ·split at h
     ·cases h
     ·cases h
     ·simp only [Nx.go.injEq] at h; subst h; rfl
    ·cases h
theorem last_step {c:Sc} (h1:tk c.N 0 1=1) {s s':St} (hs:LastS s) (h:gstep c s=.go s'):LastS s':=by
 obtain ⟨p,H,md⟩:=s
 refine .inr ?_
 cases md with
 | block=>
  have hp:p=0:=by
   rcases hs with ⟨_,h2⟩ | h2
   ·exact h2
   ·cases h2
  subst hp
  exact gblock_last h1 h
 | stored fin n=>
  have hf:fin=true:=by
   rcases hs with ⟨h2,_⟩ | h2
   ·cases h2
   ·exact h2
  subst hf
  cases n with
  | zero=>cases h
  | succ n=>
   have h:(if c.tot < p+8 then _ else _)=Nx.go s':=h
   split at h
   ·cases h
   ·simp only [Nx.go.injEq] at h; subst h; rfl
 | coded fin T=>
  have hf:fin=true:=by
   rcases hs with ⟨h2,_⟩ | h2
   ·cases h2
   ·exact h2
  subst hf
  exact gcoded_last h
 | copy fin T d n=>
  have hf:fin=true:=by
   rcases hs with ⟨h2,_⟩ | h2
   ·cases h2
   ·exact h2
  subst hf
  cases n with
  | zero=>have h:Nx.go _=Nx.go s':=h; simp only [Nx.go.injEq] at h; subst h; rfl
  | succ n=>have h:Nx.go _=Nx.go s':=h; simp only [Nx.go.injEq] at h; subst h; rfl
theorem last_to {c:Sc} (h1:tk c.N 0 1=1) {s s':St} (h:GTo c s s'):LastS s→LastS s':=by
 induction h with
 | refl=>exact id
 | step _ h2 ih=>exact fun hs=>last_step h1 (ih hs) h2
theorem no_ends {c:Sc} (h1:tk c.N 0 1=1): ¬ Ends c:=by
 rintro ⟨s,⟨d,h | ⟨_,_,_,h,_⟩⟩,h2,h3⟩
 ·rcases last_to h1 h (.inl ⟨rfl,rfl⟩) with ⟨_,h4⟩ | h4
  ·omega
  ·rw [h2] at h4; cases h4
 ·rw [h2] at h; cases h
theorem first_bit {src:List Nat} {ch rest:List (Nat×Nat)} {v:Nat} (hst:StreamOf ch src) (hok:ChOk ch) (h:ch=(v,3)::rest) (hv:v % 2=1):tk (num src) 0 1=1:=by
 have hA:At (num src) 0 ch:=at_stream hok (by rw [hst.num]; exact Nat.mod_eq_of_lt (chVal_lt hok))
 rw [h] at hA
 rw [(head_bits hA.1).1]; exact hv
end Go.M

namespace Go.M
open Go
set_option maxRecDepth 100000
section
variable {m:Mem}
theorem LiteralsOf_specN {a:Option Addr} {l k b o:Nat} {d:List Nat} (hS:SlcB m a l k b o d) {R:Value→Mem→Prop}
  (hk:∀ m' a1 l1 k1 b1 o1 src ch a2 l2 k2 b2 o2 H,MadeS m' true a1 l1 k1 b1 o1 src ch a2 l2 k2 b2 o2 H→H.length≤200→tk (num src) 0 1=1→BlkN 0 [] ch→(∀ S,Fr S m m')→R (.tuple #[.slice a1 l1 k1,.slice a2 l2 k2]) m'):CallM PP f_spec_LiteralsOf #[.slice a l k] m R:=by
 refine e_spec_LiteralsOf a l k m R (newReader_spec hS fun m1 h1 f1 s1=>⟨_,rfl,?_⟩)
 have hr:=h1.lo
 refine data_spec h1 (most:=200) (by decide) (by decide) fun m2 aT lT kT bT oT T hT hlT hTb hbT h2 f2=>⟨_,_,_,rfl,box_writer fun m3 hW f3=>?_⟩
 have s2:=f2.size
 have s3:=hW.lo
 have hTl:=hT.len
 have hT3:=(hT.slc hTb).sp (f3 fun _ _=>False) fun _ _=>id
 have h3:=h2.fresh f3
 have hw:m1.size≤m2.size:=s2
 have hbT2:0 < kT→bT < m2.size:=hT.lt
 have hTle:=hT.own.le
 generalize hwN:m2.size=wN at *
 rw [q_spec_LiteralsOf_rrrrrlrl]
 refine loopW ffOk mixedOk (L₀:=L_spec_LiteralsOf) (σ:=Nat×Option Addr×Nat×Nat×Nat) [4,5,6,7,16,17,18]
  (fun s=>[(4,.pointer (some ⟨m.size,0,none⟩)),(5,.slice aT lT kT),(6,.pointer (some ⟨wN,0,none⟩)),(7,.slice s.2.1 s.1 s.2.2.1),(16,.slice aT lT kT),(17,.int .i64 (lT:Int)),(18,.int .i64 (s.1:Nat))])
  (fun s m'=>s.1≤lT∧OutT m' s.2.1 s.1 s.2.2.1 s.2.2.2.1 s.2.2.2.2 ((T.take s.1).map litIt)∧(0 < s.2.2.1→m3.size≤s.2.2.2.1)∧Fr (fun x _=>m3.size≤x) m3 m')
  (fun s=>lT - s.1) (0,none,0,0,0) rfl ⟨Nat.zero_le _,OutT.nil _ _,by simp,Fr.refl _ _⟩ ?_
 rintro ⟨i,a4,k4,b4,o4⟩ m4 ⟨hi,hO,hb4,f4⟩
 simp only at hi hO hb4
 have f34:∀ S,Fr S m3 m4:=fun S=>f4.old fun x y hx h=>by omega
 have hT4:=hT3.sp (f34 fun _ _=>False) fun _ _=>id
 refine p_spec_LiteralsOf_rrrrrlrll _ aT lT kT _ a4 i k4 aT lT kT lT i m4 _ ?_
 by_cases hil:i < lT
 ·rw [decide_eq_true (by omega)]
  have hg:T[i]?=some (T[i]'(by omega)):=List.getElem?_eq_getElem (by omega)
  have hd:=hT4.data i hil
  rw [List.getD_eq_getElem?_getD,hg] at hd
  generalize T[i]'(by omega)=v at hg hd
  have hat:=hT4.at_ (by omega)
  refine ifB_t ?_
  rw [hat]
  refine ⟨⟨by omega,by omega⟩,(v:Int),cellB hd,?_⟩
  rw [← hat]
  refine pushT_W hO (litIt v) (by omega) fun m5 a' k' b' o' hO5 hk5 hb5 f5=>?_
  rw [wrap_succ (by omega)]
  have s4:=f4.size
  refine ⟨(i+1,a',k',b',o'),rfl,⟨by simp only; omega,?_,fun _=>?_,f4.trans (f5.mono fun x _ h=>by have:=hb4 h.2; omega)⟩,by simp only; omega⟩
  ·simp only
   rw [List.take_add_one,hg,List.map_append]; exact hO5
  ·simp only
   rcases hb5 with ⟨rfl,rfl⟩ | h
   ·exact hb4 hk5
   ·omega
 ·rw [decide_eq_false (by omega)]
  have htk:T.take i=T:=List.take_of_length_le (by omega)
  rw [htk] at hO
  have hI:=hO.slc
  have hV:=lits_valid (n:=0) hTb
  have hgv:=lits_give T []
  rw [List.nil_append] at hgv
  have g4:Gen m4 m.size (1+2 * 200) wN wN []:=⟨(h3.fresh f34).mono (by omega),WrM.fresh hW f34,by omega,by omega⟩
  refine ifB_f (WPS.piece [4,5,6,7] rfl (p_spec_LiteralsOf_rrrrrr _ aT lT kT _ a4 i k4 m4 _ ?_))
  refine pick_spec g4.rd (by decide) (n:=2) (by decide) fun m5 q hq h5 f5=>⟨_,rfl,?_⟩
  have g5:=g4.pick h5 f5
  have hI5:=hI.fr f5 fun h0 j=>rs_old (by have:=hb4 (by have:=Own.le hO; omega); have:=(f3 fun _ _=>False).size; omega) j
  have hIo:0 < i→Out3 b4 m.size wN wN:=fun h0=>by
   have:=hb4 (by have:=Own.le hO; omega)
   exact ⟨by omega,by omega,by omega⟩
  have done:∀ m6 c6 b6 pc v,GOp m5 m.size wN wN m6 c6 b6 ([]++pc)→(∃ rest,pc=(v,3)::rest)→v % 2=1→BlkX 0 [] pc T true→BlkN 0 [] pc→chLen pc≤60 * 200+6000→WPS PP 43 c_spec_LiteralsOf_rrrrrrr (retK PP r_spec_LiteralsOf R) [(4,.pointer (some ⟨m.size,0,none⟩)),(5,.slice aT lT kT),(6,.pointer (some ⟨wN,0,none⟩)),(7,.slice a4 i k4)] m6:=by
   intro m6 c6 b6 pc v g6 ⟨rest,hrest⟩ hv hB hN hpl
   rw [List.nil_append] at g6
   obtain ⟨a1,l1,k1,o1,src,c1,c2,c3⟩:=WrL.stream g6.gen.wr
   have g56:=g5.trans g6
   have hT6:=hT4.sp g56.fr fun h0 j=>by
    have:=hbT2 (by omega)
    rintro (e | e | e) <;> omega
   refine WPS.piece [5,6] rfl (p_spec_LiteralsOf_rrrrrrr aT lT kT _ m6 _ ?_)
   refine ⟨a1,l1,k1,c1,hk m6 a1 l1 k1 b6 o1 src pc aT lT kT bT oT T ⟨c2,c3,hB,by omega,hT6,by omega,by omega⟩ (by omega) (first_bit c3 (hB.is).1 hrest hv) hN fun S=>?_⟩
   refine ((((f1 _).trans (f2.mono (S':=fun x _=>m.size≤x) fun x y h=>by unfold RS at h; omega)).trans ((f3 _).trans (f34 _))).trans (g56.fr.mono fun x y h=>?_)).old fun x y hx h=>by omega
   rcases h with h | h | h <;> omega
  refine ifB_of (fun _=>?_) (fun _=>?_)
  ·refine Fixed_specN g5.gen.wr hI5 (fun h0=>(hIo (by omega)).off) true [] hV (by omega) (by simp [chLen]; omega) fun m6 b6 pc hIt hpc W6=>⟨rfl,?_⟩
   rw [hgv] at hIt
   have:=fixL_256
   exact done m6 _ b6 _ (fl true+2) (g5.gen.wol W6) ⟨_,rfl⟩ (by decide) (blkX_fixed true hIt.are) (blkN_fixed hIt) (by simp only [chLen,chLen_append,sy]; omega)
  ·refine dynamic_specN g5.gen hI5 (fun h0=>hIo (by omega)) true [] hV (by omega) (by decide) (by simp [chLen]) fun m6 b6 pc hfirst hB hN hpl g6=>⟨rfl,?_⟩
   rw [hgv] at hB
   exact done m6 _ b6 pc (fl true+4) g6 hfirst (by decide) (by simpa [chLen] using hB) (by simpa [chLen] using hN) (by omega)
theorem LiteralsOf_spec {a:Option Addr} {l k b o:Nat} {d:List Nat} (hS:SlcB m a l k b o d) {R:Value→Mem→Prop}
  (hk:∀ m' a1 l1 k1 b1 o1 src ch a2 l2 k2 b2 o2 H,MadeS m' true a1 l1 k1 b1 o1 src ch a2 l2 k2 b2 o2 H→H.length≤200→tk (num src) 0 1=1→(∀ S,Fr S m m')→R (.tuple #[.slice a1 l1 k1,.slice a2 l2 k2]) m'):CallM PP f_spec_LiteralsOf #[.slice a l k] m R:=
 LiteralsOf_specN hS fun m' a1 l1 k1 b1 o1 src ch a2 l2 k2 b2 o2 H h1 h2 h3 _=>hk m' a1 l1 k1 b1 o1 src ch a2 l2 k2 b2 o2 H h1 h2 h3
end
end Go.M

namespace Go.M
open Go
set_option maxRecDepth 100000
theorem od_facts {q:Nat} (h:q < 6):IntKind.wrap .i64 (((dstS q).1:Int)+shlOp .i64 1 ((dstS q).2:Int))=(((dstS q).1+2 ^ (dstS q).2:Nat):Int)∧(dstS q).1+2 ^ (dstS q).2≤9∧1≤(dstS q).1∧shlOp .i64 1 ((dstS q).2:Int)=((2 ^ (dstS q).2:Nat):Int)∧0 < 2 ^ (dstS q).2:=by
 have h0:∀ j:Fin 6,IntKind.wrap .i64 (((dstS j.val).1:Int)+shlOp .i64 1 ((dstS j.val).2:Int))=(((dstS j.val).1+2 ^ (dstS j.val).2:Nat):Int)∧(dstS j.val).1+2 ^ (dstS j.val).2≤9∧1≤(dstS j.val).1∧shlOp .i64 1 ((dstS j.val).2:Int)=((2 ^ (dstS j.val).2:Nat):Int)∧0 < 2 ^ (dstS j.val).2:=by decide+kernel
 exact h0 ⟨q,h⟩
def odD (q:Nat):List Nat:=(List.replicate 30 0).set q 1
theorem odD_facts {q:Nat} (h:q < 6):okL (odD q)=true∧ln (odD q) q≠0∧∀ v ∈ odD q,v≤15:=by
 have h0:∀ j:Fin 6,okL (odD j.val)=true∧ln (odD j.val) j.val≠0∧∀ v ∈ odD j.val,v≤15:=by decide+kernel
 exact h0 ⟨q,h⟩
theorem od_dst {q w:Nat} (h:q < 6) (hw:w < 2 ^ (dstS q).2):DstC ((dstS q).1+w) q:=by
 refine ⟨by omega,by omega,fun k hk hk30=>?_⟩
 have h0:∀ j:Fin 6,∀ k:Fin 30,j.val < k.val→(dstS j.val).1+2 ^ (dstS j.val).2≤(dstS k.val).1:=by decide+kernel
 have:=h0 ⟨q,h⟩ ⟨k,hk30⟩ hk
 simp only at this; omega
theorem its_lits:∀ (T:List Nat) (n:Nat),itsN n (T.map litIt)=n+T.length
 | [],n=>rfl
 | v::T,n=>by
  show itsN (n+1) (T.map litIt)=_
  rw [its_lits T,List.length_cons]; omega
section
variable {m:Mem}
theorem OneDistance_spec {a:Option Addr} {l k b o:Nat} {d:List Nat} (hS:SlcB m a l k b o d) {R:Value→Mem→Prop}
  (hk:∀ m' a1 l1 k1 b1 o1 src ch a2 l2 k2 b2 o2 H,MadeS m' true a1 l1 k1 b1 o1 src ch a2 l2 k2 b2 o2 H→BlkN 0 [] ch→(∀ S,Fr S m m')→R (.tuple #[.slice a1 l1 k1,.slice a2 l2 k2]) m'):CallM PP f_spec_OneDistance #[.slice a l k] m R:=by
 refine e_spec_OneDistance a l k m R (newReader_spec hS fun m1 h1 f1 s1=>⟨_,rfl,?_⟩)
 refine pick_spec h1 (by decide) (n:=6) (by decide) fun m2 q hq h2 f2=>⟨_,rfl,Distance_spec (k:=q) (by omega) ⟨_,_,rfl,by omega,?_⟩⟩
 have hr:=h1.lo
 have s2:=f2.size
 obtain ⟨q1,q2,q3,q4,q5⟩:=od_facts hq
 rw [q1]
 generalize hN:(dstS q).1+2 ^ (dstS q).2=N at q1 q2
 rw [q_spec_OneDistance_rrrrrlrl]
 refine loopW ffOk mixedOk (L₀:=L_spec_OneDistance) (σ:=Nat×Option Addr×Nat×Nat×Nat×List Nat) [4,5,6,7,8,27,28]
  (fun s=>[(4,.pointer (some ⟨m.size,0,none⟩)),(5,.int .i64 (q:Int)),(6,.int .i64 ((dstS q).1:Int)),(7,.int .i64 ((dstS q).2:Int)),(8,.slice s.2.1 s.1 s.2.2.1),(27,.int .i64 (N:Int)),(28,.int .i64 (s.1:Nat))])
  (fun s m'=>s.1≤N∧RdM m' m.size (1+s.1)∧OutT m' s.2.1 s.1 s.2.2.1 s.2.2.2.1 s.2.2.2.2.1 (s.2.2.2.2.2.map litIt)∧(∀ v ∈ s.2.2.2.2.2,v < 256)∧(0 < s.2.2.1→m2.size≤s.2.2.2.1)∧Fr (fun x _=>x=m.size∨m2.size≤x) m2 m')
  (fun s=>N - s.1) (0,none,0,0,0,[]) rfl ⟨Nat.zero_le _,h2,OutT.nil _ _,by simp,by simp,Fr.refl _ _⟩ ?_
 rintro ⟨i,a3,k3,b3,o3,T⟩ m3 ⟨hi,h3,hO,hTb,hb3,F3⟩
 simp only at hi h3 hO hTb hb3
 refine p_spec_OneDistance_rrrrrlrll _ _ _ _ a3 i k3 N i m3 _ ?_
 have s3:=F3.size
 by_cases hiN:i < N
 ·rw [decide_eq_true (by omega)]
  refine ifB_t (pick_spec h3 (by omega) (n:=3) (by decide) fun m4 x hx h4 f4=>⟨_,rfl,?_⟩)
  have hw:IntKind.wrap .u8 (IntKind.wrap .i64 (97+(x:Int)))=((97+x:Nat):Int):=by
   rw [wrap64_id (by omega) (by omega),wrap_u8_id (by omega) (by omega)]; rfl
  rw [hw]
  have hO4:OutT m4 a3 i k3 b3 o3 (T.map litIt):=hO.fr f4 fun h0 j=>rs_old (by have:=hb3 h0; omega) j
  refine pushT_W hO4 (litIt (97+x)) (by omega) fun m5 a' k' b' o' hO5 hk5 hb5 f5=>?_
  have hw2:IntKind.wrap .i64 ((i:Int)+1)=((i+1:Nat):Int):=by rw [wrap64_id (by omega) (by omega)]; rfl
  rw [hw2]
  have s4:=f4.size
  have h5:RdM m5 m.size (1+i+1):=h4.fr f5 fun u v hu h=>by have:=hb3 h.2; omega
  refine ⟨(i+1,a',k',b',o',T++[97+x]),rfl,⟨by simp only; omega,h5,?_,?_,fun _=>?_,F3.trans ((f4.mono fun u v h=>.inl h).trans (f5.mono fun u v h=>?_))⟩,by simp only; omega⟩
  ·simp only
   rw [List.map_append]; exact hO5
  ·intro v hv
   rcases List.mem_append.1 hv with hv | hv
   ·exact hTb v hv
   ·rw [List.mem_singleton.1 hv]; omega
  ·simp only
   rcases hb5 with ⟨rfl,rfl⟩ | h
   ·exact hb3 hk5
   ·omega
  ·have:=hb3 h.2
   exact .inr (by omega)
 rw [decide_eq_false (by omega)]
 have hiN':i=N:=by omega
 subst hiN'
 refine ifB_f (WPS.piece [4,5,6,7,8] rfl (p_spec_OneDistance_rrrrrr _ _ _ _ a3 i k3 m3 _ ?_))
 have hTl:T.length=i:=by have:=hO.len; simpa using this
 refine pick_spec h3 (by omega) (n:=5) (by decide) fun m4 n hn h4 f4=>⟨_,rfl,?_⟩
 have hO4:OutT m4 a3 i k3 b3 o3 (T.map litIt):=hO.fr f4 fun h0 j=>rs_old (by have:=hb3 h0; omega) j
 have F4:Fr (fun x _=>x=m.size∨m2.size≤x) m2 m4:=F3.trans (f4.mono fun u v h=>.inl h)
 rw [q_spec_OneDistance_rrrrrrlrl]
 refine loopW ffOk mixedOk (L₀:=L_spec_OneDistance) (σ:=Nat×Nat×Option Addr×Nat×Nat×Nat×List It) [4,5,6,7,8,9]
  (fun s=>[(4,.pointer (some ⟨m.size,0,none⟩)),(5,.int .i64 (q:Int)),(6,.int .i64 ((dstS q).1:Int)),(7,.int .i64 ((dstS q).2:Int)),(8,.slice s.2.2.1 s.2.1 s.2.2.2.1),(9,.int .i64 (s.1:Nat))])
  (fun s m'=>s.1≤4∧s.2.1+s.1≤13∧RdM m' m.size (20+3 * (4 - s.1))∧OutT m' s.2.2.1 s.2.1 s.2.2.2.1 s.2.2.2.2.1 s.2.2.2.2.2.1 s.2.2.2.2.2.2∧VIts 0 s.2.2.2.2.2.2∧i≤itsN 0 s.2.2.2.2.2.2∧itsN 0 s.2.2.2.2.2.2+258 * s.1≤9+258 * 4∧(∀ x ∈ s.2.2.2.2.2.2,x.len≠0→∃ w,w < 2 ^ (dstS q).2∧x.d=(dstS q).1+w)∧(0 < s.2.2.2.1→m2.size≤s.2.2.2.2.1)∧Fr (fun x _=>x=m.size∨m2.size≤x) m2 m')
  (fun s=>s.1) (n,i,a3,k3,b3,o3,T.map litIt) rfl ⟨by simp only; omega,by simp only; omega,h4.mono (by simp only; omega),hO4,lits_valid hTb,by simp only; rw [its_lits]; omega,by simp only; rw [its_lits]; omega,?_,hb3,F4⟩ ?_
 ·intro x hx h0
  obtain ⟨v,_,rfl⟩:=List.mem_map.1 hx
  exact absurd rfl h0
 rintro ⟨j,l5,a5,k5,b5,o5,its⟩ m5 ⟨hj,hlj,h5,hO5,hV,hiN5,hsz,hits,hb5,F5⟩
 simp only at hj hlj h5 hO5 hV hiN5 hsz hits hb5
 have s5:=F5.size
 refine p_spec_OneDistance_rrrrrrlrll _ _ _ _ a5 l5 k5 j m5 _ ?_
 by_cases hj0:0 < j
 ·rw [decide_eq_true (by omega)]
  refine ifB_t (length_spec h5 (by omega) fun m6 len hl3 hl258 h6 f6=>⟨_,rfl,by omega,?_⟩)
  rw [q4]
  refine pick_spec h6 (by omega) (n:=2 ^ (dstS q).2) q5 fun m7 w hw h7 f7=>⟨_,rfl,?_⟩
  have f57:Fr (RS m.size) m5 m7:=f6.trans f7
  have s7:=f57.size
  have hO7:OutT m7 a5 l5 k5 b5 o5 its:=hO5.fr f57 fun h0 v=>rs_old (by have:=hb5 h0; omega) v
  have hwd:IntKind.wrap .i64 (((dstS q).1:Int)+(w:Int))=(((dstS q).1+w:Nat):Int):=by rw [wrap64_id (by omega) (by omega)]; rfl
  rw [hwd]
  refine pushT_W hO7 ⟨0,len,(dstS q).1+w⟩ (by omega) fun m8 a' k' b' o' hO8 hk8 hb8 f8=>?_
  have hw2:IntKind.wrap .i64 ((j:Int) - 1)=((j - 1:Nat):Int):=by rw [wrap64_id (by omega) (by omega)]; omega
  rw [hw2]
  have h8:RdM m8 m.size (20+3 * (4 - j)+2+1):=h7.fr f8 fun u v hu h=>by have:=hb5 h.2; omega
  refine ⟨(j - 1,l5+1,a',k',b',o',its++[⟨0,len,(dstS q).1+w⟩]),rfl,⟨by simp only; omega,by simp only; omega,h8.mono (by simp only; omega),hO8,hV.snoc ⟨by simp only; omega,.inr ⟨hl3,hl258,by simp only; omega,by simp only; omega,by simp only; omega⟩⟩,?_,?_,?_,fun _=>?_,F5.trans ((f57.mono fun u v h=>.inl h).trans (f8.mono fun u v h=>?_))⟩,by simp only; omega⟩
  ·simp only; rw [itsN_snoc]; omega
  ·simp only; rw [itsN_snoc]; simp only; omega
  ·intro x hx h0
   rcases List.mem_append.1 hx with hx | hx
   ·exact hits x hx h0
   ·rw [List.mem_singleton.1 hx]; exact ⟨w,hw,rfl⟩
  ·simp only
   rcases hb8 with ⟨rfl,rfl⟩ | h
   ·exact hb5 hk8
   ·omega
  ·have:=hb5 h.2
   exact .inr (by omega)
 rw [decide_eq_false (by omega)]
 have hj0':j=0:=by omega
 subst hj0'
 refine ifB_f (WPS.piece [4,5,8] rfl (p_spec_OneDistance_rrrrrrr _ _ a5 l5 k5 m5 _ ?_))
 have hI5:=hO5.slc
 refine needs_spec hI5 hV (by omega) fun m6 bA bB A B hA hB hbA hbB _ h256 hM f6=>⟨_,_,_,_,_,_,rfl,?_⟩
 have s6:=(f6 fun _ _=>False).size
 have h6:=h5.fresh f6
 refine lengthsOf_spec h6 (by omega) hA (by omega) (by decide) (by decide) (most:=15) (by decide) (by decide) (by decide) fun m7 bL LL hL hLF hL15 hLA hbL h7 f7=>⟨_,_,_,rfl,?_⟩
 have s7:=f7.size
 have hLl:=hL.len
 have hbLlt:=hL.lt (by decide)
 refine zerosN_W (n:=30) rfl (by decide) fun m8 hD8 f8 s8=>⟨_,_,_,rfl,⟨by omega,by omega⟩,?_⟩
 rw [show aplus ⟨m7.size,0,none⟩ ((q:Int)).toNat=⟨m7.size,q,none⟩ by simp [aplus]]
 have hwD:Wr m8 ⟨m7.size,q,none⟩:=by
  have:=Own.wr hD8 q (by omega)
  rwa [Nat.zero_add] at this
 refine StW.at rfl hwD fun m9 c9 f9 s9=>box_writer fun m10 hW10 f10=>?_
 have hD9:NumI m9 (some ⟨m7.size,0,none⟩) 30 30 m7.size 0 (odD q):=hD8.set (v:=1) (by omega) (by rw [Nat.zero_add]; exact c9) (f9.mono fun u v h=>by rw [Nat.zero_add]; exact h)
 have h9:RdM m9 m.size (32+1000):=(h7.fresh f8).fr f9 fun u v hu h=>by omega
 have h10:=h9.fresh f10
 have hLS10:SlcI m10 (some ⟨bL,0,none⟩) 286 286 bL 0 LL:=((hL.slc.fr (f8 fun _ _=>False) fun _ _=>id).fr f9 fun _ v h=>by have:=h.1; omega).fr (f10 fun _ _=>False) fun _ _=>id
 have hDS10:SlcI m10 (some ⟨m7.size,0,none⟩) 30 30 m7.size 0 (odD q):=hD9.slc.fr (f10 fun _ _=>False) fun _ _=>id
 have hI10:SlcT m10 a5 l5 k5 b5 o5 its:=((((hI5.fr (f6 fun _ _=>False) fun _ _=>id).fr f7 fun h0 v=>rs_old (by have:=hb5 (by have:=Own.le hO5; omega); omega) v).fr (f8 fun _ _=>False) fun _ _=>id).fr f9 fun h0 v h=>by
  have:=hI5.lo h0; have:=h.1; omega).fr (f10 fun _ _=>False) fun _ _=>id
 have g10:Gen m10 m.size (32+1000) m9.size m9.size []:=⟨h10,hW10,by omega,by omega⟩
 have s10:=(f10 fun _ _=>False).size
 have hw10:=hW10.lo
 refine Bits_spec hW10 (v:=fl true+4) (k:=3) (by decide) (by decide) (by decide) fun m11 b11 W11=>⟨rfl,?_⟩
 have g11:=g10.wol W11
 have f11:Fr (fun x _=>x=m9.size) m10 m11:=W11.fr.mono fun u v h=>by rcases h with h | h <;> exact h
 have hLS11:=hLS10.fr f11 fun _ v h=>by omega
 have hDS11:=hDS10.fr f11 fun _ v h=>by omega
 have hI11:=hI10.fr f11 fun h0 v h=>by have:=hI5.lo h0; omega
 have hb11:b11=m9.size∨m10.size≤b11:=W11.mv
 obtain ⟨d1,d2,d3⟩:=odD_facts hq
 have hDl:(odD q).length=30:=hDS11.len
 refine lengths_spec g11.gen hLS11 hDS11 hL15 d3 (by decide) (by decide) (by decide) (by decide) (by decide) (by decide) fun m12 b12 own many rs hH g12=>⟨rfl,?_⟩
 have hb12:=g12.mv
 have s11:=f11.size
 have hLS12:=hLS11.fr g12.fr fun _ v=>by rintro (e | e | e) <;> omega
 have hDS12:=hDS11.fr g12.fr fun _ v=>by rintro (e | e | e) <;> omega
 have hI12:=hI11.fr g12.fr fun h0 v=>by have:=hI5.lo h0; have:=hb5 (by have:=Own.le hO5; omega); rintro (e | e | e) <;> omega
 have s12:=g12.fr.size
 have he256:ln LL 256≠0:=hLA _ h256
 have hneed:∀ x ∈ its,NeedL LL (odD q) x:=fun x hx=>by
  by_cases h0:x.len=0
  ·exact (hM x hx).need_lit hLA h0
  ·refine ⟨fun h=>absurd h h0,fun _=>⟨fun kk hkk=>hLA _ (((hM x hx).2 h0).1 kk hkk),fun kk hkk=>?_⟩⟩
   obtain ⟨w,hw,hxd⟩:=hits x hx h0
   rw [hxd] at hkk
   rw [← (od_dst hq hw).det hkk]
   exact d2
 have hhl:chLen (headCh LL (odD q) own many rs)≤14+57+14 * (286+30):=by
  have hsz:=hH.size
  rw [hLl,hDl] at hsz
  unfold headCh
  have h4:=hH.m19
  simp only [chLen,chLen_append,chLen_three,List.length_take]
  have:clOrder.length=19:=rfl
  omega
 have hcl:chLen ([]++[(fl true+4,3)]++headCh LL (odD q) own many rs)=3+chLen (headCh LL (odD q) own many rs):=by rw [chLen_append]; rfl
 refine items_spec g12.gen.wr hI12 (fun h0=>⟨by have:=hI5.lo h0; omega,by have:=hI5.lo h0; omega⟩) hLS12 (fun _=>⟨by omega,by omega⟩) hDS12 (fun _=>⟨by omega,by omega⟩) hL15 d3 (by decide) (by decide) [] hV hneed he256 (by omega) (by omega) fun m13 b13 pc hIt hpc W13=>⟨rfl,?_⟩
 have g13:=(g11.trans g12).wol W13
 have s13:=g13.fr.size
 obtain ⟨a1,l1,k1,o1,src,c1,c2,c3⟩:=WrL.stream g13.gen.wr
 have hI13:SlcT m13 a5 l5 k5 b5 o5 its:=hI10.fr g13.fr fun h0 v=>by have:=hI5.lo h0; have:=hb5 (by have:=Own.le hO5; omega); rintro (e | e | e) <;> omega
 refine ⟨a1,l1,k1,c1,?_⟩
 refine GivenP_spec (OutB.nil m13 0) hI13 (fun _ h=>absurd h (by omega)) hV (by omega) (by omega) fun m14 a4 k4 b4 o4 hO14 _ f14=>⟨_,_,_,rfl,?_⟩
 have F14:∀ S,Fr S m13 m14:=fun S=>f14.mono fun x y h=>absurd h.2 (by omega)
 refine ⟨(F14 fun _ _=>False).cell c1 id,?_⟩
 have e:[]++[(fl true+4,3)]++headCh LL (odD q) own many rs++pc++[sy LL 256]=(fl true+4,3)::(LL.length - 257,5)::((odD q).length - 1,5)::(many - 4,4)::((clOrder.take many).map (fun k=>(ln own k,3))++(rs++(pc++[sy LL 256]))):=by
  unfold headCh
  simp only [List.append_assoc,List.cons_append,List.nil_append]
 have hblk:=blkX_dynamic (k:=0) true (by rw [hLl]; decide) (by rw [hLl]; decide) (by rw [hDl]; decide) (by rw [hDl]; decide) hL15 d3 hLF d1 he256 hH.len hH.le7 hH.ok hH.m4 hH.m19 hH.zero hH.runs hIt.are
 have hN:BlkN 0 [] _:=blkN_dynamic (by rw [hLl]; decide) (by rw [hLl]; decide) (by rw [hDl]; decide) (by rw [hDl]; decide) hL15 d3 hLF d1 he256 hH.len hH.le7 hH.full hH.m4 hH.m19 hH.zero hH.runs hIt
 have hsy:ln LL 256≤15:=ln_15 hL15 256
 have hgl:(givs [] its).length=itsN 0 its:=givs_len its []
 rw [e] at c3
 have hHb:∀ v ∈ givs [] its,v < 256:=givs_byte hV (by simp)
 show R (.tuple #[.slice a1 l1 k1,.slice a4 (givs [] its).length k4]) m14
 refine hk m14 a1 l1 k1 b13 o1 src _ a4 _ k4 b4 o4 (givs [] its) ⟨c2.sp (F14 fun _ _=>False) fun _ _=>id,c3,hblk,?_,hO14.slc hHb,by omega,by omega⟩ hN fun S=>?_
 ·rw [← e]
  simp only [chLen_append,chLen,sy] at hhl ⊢
  omega
 ·refine Fr.old (S:=fun x _=>m.size≤x) ?_ (fun x y hx h=>by omega)
  exact (f1 _).trans ((f2.mono fun x y h=>by unfold RS at h; omega).trans ((F5.mono fun x y h=>by omega).trans ((f6 _).trans ((f7.mono fun x y h=>by unfold RS at h; omega).trans ((f8 _).trans ((f9.mono fun x y h=>by have:=h.1; omega).trans ((f10 _).trans ((g13.fr.mono fun x y h=>by rcases h with h | h | h <;> omega).trans (F14 _)))))))))
end
end Go.M
