/- Read: what a call of the decompressor's reader gives. Read: the whole. A new reader: the window, the decompressor. NewReader and NewReaderDict, over a reader of bytes. -/
import Derived.Test.YtjphakdpokombaaGreatDoorPkn
import Derived.Test.YtjphakdpokombaaGreatDoorPkk
namespace Go.M
open Go
set_option maxRecDepth 100000
def Alien (m:Mem) (v:Value):Prop:=(∃ x,v=.int .i64 x)∨∃ a q k,v=.slice a q k∧∀ tb to i,a=some ⟨tb,to,none⟩→i < q→∃ x,cell? m ⟨tb,to+i,none⟩=some (.int .u8 x)
def OnlyB (m:Mem) (S:Nat→Nat→Prop):Prop:=∀ i j v,S i j→cell? m ⟨i,j,none⟩=some v→(∃ x,v=.int .u8 x)∨∀ j' v',cell? m ⟨i,j',none⟩=some v'→Alien m v'
theorem Fr.notB {S:Nat→Nat→Prop} {m m':Mem} (hf:Fr S m m') (h8:OnlyB m S) {a:Addr} {v:Value} (hc:cell? m a=some v) (hv:∀ x,v≠.int .u8 x) (hn: ¬ Alien m v):cell? m' a=some v:=by
 have hs:=cell_spot hc
 obtain ⟨b,o,s⟩:=a
 simp only at hs
 subst hs
 refine hf.cell hc fun h=>?_
 rcases h8 _ _ _ h hc with ⟨x,hx⟩ | hx
 ·exact hv x hx
 ·exact hn (hx _ _ hc)
theorem not_alien_u32 {m:Mem} {x:Int}: ¬ Alien m (.int .u32 x):=by
 rintro (⟨_,h⟩ | ⟨_,_,_,h,_⟩) <;> cases h
theorem not_alien_ptr {m:Mem} {a:Option Addr}: ¬ Alien m (.pointer a):=by
 rintro (⟨_,h⟩ | ⟨_,_,_,h,_⟩) <;> cases h
theorem TabAt.frB {S:Nat→Nat→Prop} {m m':Mem} {b o mn:Nat} {V:Nat→Nat} {B:Nat→Prop} (h:TabAt m b o B mn V) (hf:Fr S m m') (h8:OnlyB m S):TabAt m' b o B mn V:=by
 obtain ⟨c0,h0,_⟩:=h.look 0
 have own:∀ {j v},cell? m ⟨b,j,none⟩=some v→(∀ x,v≠.int .u8 x)→cell? m' ⟨b,j,none⟩=some v:=fun hc hv=>hf.cell hc fun hs=>by
  rcases h8 _ _ _ hs hc with ⟨x,hx⟩ | hx
  ·exact hv x hx
  ·exact not_alien_u32 (hx _ _ h0)
 refine ⟨own h.min (by intro x h; cases h),fun x=>?_,h.small⟩
 obtain ⟨c,h1,h2,h3⟩:=h.look x
 refine ⟨c,own h1 (by intro x h; cases h),h2,?_⟩
 rcases h3 with h3 | ⟨h3,lb,lo,ll,lk,h4,h5,h6,tb,to,tl,tk',h7,h8',k,h9,h10,h11,h12⟩
 ·exact .inl h3
 ·refine .inr ⟨h3,lb,lo,ll,lk,own h4 (by intro x h; cases h),h5,h6,tb,to,tl,tk',hf.cell h7 fun hs=>?_,h8',k,own h9 (by intro x h; cases h),h10,h11,hf.notB h8 h12 (by intro x h; cases h) not_alien_u32⟩
  rcases h8 _ _ _ hs h7 with ⟨y,hy⟩ | hx
  ·cases hy
  ·rcases hx _ _ h7 with ⟨y,hy⟩ | ⟨a,q,k',hy,hz⟩
   ·cases hy
   ·simp only [Value.slice.injEq] at hy
    obtain ⟨rfl,rfl,rfl⟩:=hy
    obtain ⟨y,hy⟩:=hz _ _ _ rfl h11
    rw [h12] at hy
    cases hy
section
variable {E:Errs} {src:List Nat} {D:Rdr E src} {f bh bb cb:Nat}
theorem OneTab.frB {S:Nat→Nat→Prop} {m m':Mem} {j mn:Nat} {V:Nat→Nat} (h:OneTab D f bh m j V mn) (hf:Fr S m m') (h8:OnlyB m S):OneTab D f bh m' j V mn:=by
 obtain ⟨⟨b,o,B,h1,h2,h3⟩,h4⟩:=h
 exact ⟨⟨b,o,B,hf.notB h8 h1 (by intro x h; cases h) not_alien_ptr,h2.frB hf h8,h3⟩,h4⟩
theorem TbAt.frB {S:Nat→Nat→Prop} {m m':Mem} {T:Tb} (h:TbAt D f bh m T) (hf:Fr S m m') (h8:OnlyB m S):TbAt D f bh m' T:=by
 obtain ⟨h1,h2,h3⟩:=h
 refine ⟨h1.frB hf h8,h2,?_⟩
 cases hd:T.dist with
 | none=>rw [hd] at h3; exact hf.notB h8 h3 (by intro x h; cases h) not_alien_ptr
 | some q=>rw [hd] at h3; exact ⟨OneTab.frB h3.1 hf h8,h3.2⟩
structure Going (D:Rdr E src) (f bh:Nat) (Hf:List Nat) (e:Er) (pf Dl:Nat) (m:Mem) (s:St) (pos wr rd l:Nat):Prop where
 base:Base D f bh m s.p pos s.H wr rd
 room:wr < 32768
 pend:Pend m f bh s.H wr rd Dl l
 mode:ModeAt D f bh m s.p pos s.H s.md
 runs:RunsB (scOf src) s Hf e pf
 err:cell? m ⟨f,1048,none⟩=some .nilIface
 full:0 < l→32768≤s.H.length∨Ends (scOf src)
theorem GoOn.going {Hf:List Nat} {e:Er} {pf Dl Bd:Nat} {m:Mem} {s:St} {pos wr rd l:Nat} (h:GoOn D f bh (scOf src) Hf e pf Dl Bd m s pos wr rd l):Going D f bh Hf e pf Dl m s pos wr rd l:=⟨h.base,h.room,h.pend,h.mode,h.runs,h.err,h.full⟩
def Live (D:Rdr E src) (f bh bb cb:Nat) (Hf:List Nat) (e:Er) (pf Dl:Nat) (m:Mem):Prop:=
 (∃ s pos wr rd l,Going D f bh Hf e pf Dl m s pos wr rd l∧Aux D f bh bb cb m)∨(∃ wr l,Ended D f bh Hf e pf Dl m wr wr l∧AuxW D f bh bb cb m)
structure Beside (D:Rdr E src) (f bh bb cb:Nat) (m:Mem) (S:Nat→Nat→Prop):Prop where
 bytes:OnlyB m S
 apart:∀ i j,S i j→ ¬ Mw D f bh bb cb i j
 lo:∀ i j,S i j→4 < i
theorem Base.beside {m m':Mem} {S:Nat→Nat→Prop} {p pos wr rd:Nat} {H:List Nat} (h:Base D f bh m p pos H wr rd) (hf:Fr S m m') (hS:Beside D f bh bb cb m S):Base D f bh m' p pos H wr rd:=
 ⟨h.inn.fr hf (by
  rintro i j (h1 | ⟨h1,_⟩) h2
  ·exact hS.apart _ _ h2 (.inl h1)
  ·exact hS.apart _ _ h2 (.inr (.inl h1))),h.glob.fr hf hS.lo,h.win.fr hf (by
  rintro i j (⟨h1,_⟩ | h1) h2
  ·exact hS.apart _ _ h2 (.inr (.inl h1))
  ·exact hS.apart _ _ h2 (.inr (.inr (.inl h1)))),h.nbh,h.lobh,h.ne⟩
theorem beside_f {m:Mem} {S:Nat→Nat→Prop} (hS:Beside D f bh bb cb m S) (j:Nat): ¬ S f j:=fun h=>hS.apart _ _ h (.inr (.inl rfl))
theorem beside_bh {m:Mem} {S:Nat→Nat→Prop} (hS:Beside D f bh bb cb m S) (j:Nat): ¬ S bh j:=fun h=>hS.apart _ _ h (.inr (.inr (.inl rfl)))
theorem Going.beside {m m':Mem} {S:Nat→Nat→Prop} {Hf:List Nat} {e:Er} {pf Dl:Nat} {s:St} {pos wr rd l:Nat} (h:Going D f bh Hf e pf Dl m s pos wr rd l) (hf:Fr S m m') (hS:Beside D f bh bb cb m S):Going D f bh Hf e pf Dl m' s pos wr rd l:=by
 have nf:=beside_f hS
 refine ⟨h.base.beside hf hS,h.room,h.pend.fr hf (nf _) (beside_bh hS),?_,h.runs,hf.cell h.err (nf _),h.full⟩
 have hm:=h.mode
 cases hmd:s.md with
 | block=>
  rw [hmd] at hm
  obtain ⟨h1,h2,ss,cl,cd,h3,h4⟩:=hm
  exact ⟨hf.cell h1 (nf _),h2,ss,cl,cd,h3.fr hf (nf _) (nf _) (nf _),h4⟩
 | stored fin n=>
  rw [hmd] at hm
  obtain ⟨h1,h2,h3,h4,ss,cd,h5,h6⟩:=hm
  exact ⟨hf.cell h1 (nf _),hf.cell h2 (nf _),h3,h4,ss,cd,h5.fr hf (nf _) (nf _) (nf _),h6⟩
 | coded fin T=>
  rw [hmd] at hm
  obtain ⟨h1,h2,h3,h4,cl,cd,h5⟩:=hm
  exact ⟨hf.cell h1 (nf _),hf.cell h2 (nf _),h3.frB hf hS.bytes,h4,cl,cd,h5.fr hf (nf _) (nf _) (nf _)⟩
 | copy fin T d n=>
  rw [hmd] at hm
  obtain ⟨h1,h2,h3,h4,h5,h6⟩:=hm
  exact ⟨hf.cell h1 (nf _),hf.cell h2 (nf _),h3.frB hf hS.bytes,h4,h5.fr hf (nf _) (nf _) (nf _),h6⟩
theorem Ended.beside {m m':Mem} {S:Nat→Nat→Prop} {Hf:List Nat} {e:Er} {pf Dl:Nat} {wr rd l:Nat} (h:Ended D f bh Hf e pf Dl m wr rd l) (hf:Fr S m m') (hS:Beside D f bh bb cb m S):Ended D f bh Hf e pf Dl m' wr rd l:=by
 obtain ⟨v,hv,he⟩:=h.err
 refine ⟨h.glob.fr hf hS.lo,h.win.fr hf (by
  rintro i j (⟨h1,_⟩ | h1) h2
  ·exact hS.apart _ _ h2 (.inr (.inl h1))
  ·exact hS.apart _ _ h2 (.inr (.inr (.inl h1)))),h.pend.fr hf (beside_f hS _) (beside_bh hS),h.own.fr hf,⟨v,hf.cell hv (beside_f hS _),he⟩,fun hE=>D.fr (h.left hE) hf fun i j h1 h2=>hS.apart _ _ h2 (.inl h1),h.flat,fun h0=>D.fr (h.nil h0) hf fun i j h1 h2=>hS.apart _ _ h2 (.inl h1)⟩
theorem Live.beside {m m':Mem} {S:Nat→Nat→Prop} {Hf:List Nat} {e:Er} {pf Dl:Nat} (h:Live D f bh bb cb Hf e pf Dl m) (hf:Fr S m m') (hS:Beside D f bh bb cb m S):Live D f bh bb cb Hf e pf Dl m':=by
 rcases h with ⟨s,pos,wr,rd,l,h1,h2⟩ | ⟨wr,l,h1,h2⟩
 ·exact .inl ⟨s,pos,wr,rd,l,h1.beside hf hS,h2.fr hf fun j _ _=>beside_f hS j⟩
 ·exact .inr ⟨wr,l,h1.beside hf hS,h2.fr hf (beside_f hS _) (beside_f hS _) (beside_f hS _)⟩
theorem callW_next {f:Nat} {m:Mem} {K:Value→Mem→Prop} (h:CallM PP f_decompressor_nextBlock #[.pointer (some ⟨f,0,none⟩)] m fun v m'=>v=.tuple #[]∧K (.tuple #[]) m'):callW PP FF 0 (stepF f_decompressor_nextBlock) #[.pointer (some ⟨f,0,none⟩)] m K:=Eq.mpr (by kernel_rfl) h
theorem callW_copy {f:Nat} {m:Mem} {K:Value→Mem→Prop} (h:CallM PP f_decompressor_copyData #[.pointer (some ⟨f,0,none⟩)] m fun v m'=>v=.tuple #[]∧K (.tuple #[]) m'):callW PP FF 0 (stepF f_decompressor_copyData) #[.pointer (some ⟨f,0,none⟩)] m K:=Eq.mpr (by kernel_rfl) h
theorem callW_huff {f:Nat} {m:Mem} {K:Value→Mem→Prop} (h:CallM PP f_decompressor_huffmanBlock #[.pointer (some ⟨f,0,none⟩)] m fun v m'=>v=.tuple #[]∧K (.tuple #[]) m'):callW PP FF 0 (stepF f_decompressor_huffmanBlock) #[.pointer (some ⟨f,0,none⟩)] m K:=Eq.mpr (by kernel_rfl) h
def nbk:Md→Nat
 | .block=>0
 | _=>1
theorem step_spec {m:Mem} {Hf:List Nat} {e:Er} {pf Dl:Nat} {s:St} {pos wr rd:Nat} (h:Going D f bh Hf e pf Dl m s pos wr rd 0) (hA:Aux D f bh bb cb m) {K:Value→Mem→Prop}
  (hk:∀ m',Stepped D f bh bb cb Hf e pf Dl (2 * (8 * src.length - s.p)+nbk s.md) m'→Fr (Mw D f bh bb cb) m m'→K (.tuple #[]) m'):
  ∃ v,cell? m ⟨f,1045,none⟩=some v∧callW PP FF 0 v #[.pointer (some ⟨f,0,none⟩)] m K:=by
 have hB:=h.base
 have hm:=h.mode
 have hroom:=h.room
 have hrd:=hB.win.rd
 obtain ⟨⟨a,k,he,_,_⟩,hdel⟩:=h.pend
 obtain ⟨p,H,md⟩:=s
 simp only at hB hm hdel hk
 have hr:RunsB (scOf src) ⟨p,H,md⟩ Hf e pf:=h.runs
 have done:∀ (Bd:Nat) m',Back D f bh (scOf src) Hf e pf Dl Bd m'→Fr (Mv D f bh) m m'→Bd=2 * (8 * src.length - p)+nbk md→K (.tuple #[]) m':=by
  intro Bd m' hb hf hbd
  subst hbd
  exact hk m' (.inl ⟨hb,hA.mv hB hf⟩) (hf.mono mw_mv)
 cases md with
 | block=>
  obtain ⟨h1,h2,h3⟩:=hm
  refine ⟨_,h1,callW_next (nextBlock_spec hB hA h2 hroom h.err ⟨a,k,he⟩ (by omega) h3 hr fun m' hS hF=>⟨rfl,hk m' hS hF⟩)⟩
 | stored fin n=>
  obtain ⟨h1,h2,h3,h4,ss,cd,h5,h6⟩:=hm
  refine ⟨_,h1,callW_copy ?_⟩
  subst h3
  refine copyData_spec (c:=scOf src) rfl rfl hB hroom h2 h.err ⟨a,k,he⟩ (by omega) h5 h6 h4 hr (Bd:=2 * (8 * src.length - 8 * pos)+1) (by show 2 * (8 * src.length - 8 * pos) < _; omega) fun m' hb hf=>⟨rfl,done _ m' hb hf rfl⟩
 | coded fin T=>
  obtain ⟨h1,h2,h3,h4,cl,cd,h5⟩:=hm
  refine ⟨_,h1,callW_huff ?_⟩
  let x:Fx E src:={ D:=D,f:=f,bh:=bh,c:=scOf src,Hf:=Hf,e:=e,pf:=pf,Dl:=Dl,rd:=rd,fin:=fin,T:=T,hN:=rfl,ht:=rfl,Bd:=2 * (8 * src.length - p)+1,hrd:=by omega }
  refine huffmanBlock_spec (x:=x) ⟨none,p,pos,H,wr⟩ ⟨⟨hB,h3,h2,h.err,⟨a,k,he⟩,by show Dl+(wr - rd)=H.length; omega,h4,Fr.refl _ _⟩,hroom,hr,⟨0,cl,cd,h5,.inl rfl,fun d n h=>by cases h⟩,?_⟩ ⟨0,cl,cd,h5,.inl ⟨rfl,rfl⟩⟩ fun m' hb hf=>⟨rfl,done _ m' hb hf rfl⟩
  show 2 * (8 * src.length - p)+0≤2 * (8 * src.length - p)+1
  omega
 | copy fin T d n=>
  obtain ⟨h1,h2,h3,h4,h5,h6,h7,h8,h9⟩:=hm
  refine ⟨_,h1,callW_huff ?_⟩
  let x:Fx E src:={ D:=D,f:=f,bh:=bh,c:=scOf src,Hf:=Hf,e:=e,pf:=pf,Dl:=Dl,rd:=rd,fin:=fin,T:=T,hN:=rfl,ht:=rfl,Bd:=2 * (8 * src.length - p)+1,hrd:=by omega }
  refine huffmanBlock_spec (x:=x) ⟨some (d,n),p,pos,H,wr⟩ ⟨⟨hB,h3,h2,h.err,⟨a,k,he⟩,by show Dl+(wr - rd)=H.length; omega,h4,Fr.refl _ _⟩,hroom,hr,⟨1,n,d,h5,.inr ⟨rfl,h6,h7,fun h=>by cases h⟩,fun d' n' h=>?_⟩,?_⟩ ⟨1,n,d,h5,.inr ⟨rfl,rfl⟩⟩ fun m' hb hf=>⟨rfl,done _ m' hb hf rfl⟩
  ·simp only [Option.some.injEq,Prod.mk.injEq] at h
   obtain ⟨rfl,rfl⟩:=h
   exact ⟨rfl,rfl,h6,h7,h8,h9⟩
  ·show 2 * (8 * src.length - p)+1≤2 * (8 * src.length - p)+1
   omega
end
end Go.M

namespace Go.M
open Go
set_option maxRecDepth 100000
section
variable {E:Errs} {src:List Nat} {D:Rdr E src} {f bh bb cb:Nat}
def Got (m:Mem) (b o:Nat) (H:List Nat) (Dl q:Nat):Prop:=∀ i,i < q→cell? m ⟨b,o+i,none⟩=some (.int .u8 ((H.getD (Dl+i) 0:Nat):Int))
structure Buf (D:Rdr E src) (f bh bb cb:Nat) (m:Mem) (a:Option Addr) (b o n k:Nat):Prop where
 at_:0 < n→a=some ⟨b,o,none⟩
 cap:n≤k
 wr:WrRow m b o n
 u8:∀ i,i < n→∃ x,cell? m ⟨b,o+i,none⟩=some (.int .u8 x)
 apart:∀ j, ¬ Mw D f bh bb cb b j
 lo:4 < b
 big:n < 4611686018427387904
theorem Buf.mw {m m':Mem} {a:Option Addr} {b o n k:Nat} (h:Buf D f bh bb cb m a b o n k) (hf:Fr (Mw D f bh bb cb) m m'):Buf D f bh bb cb m' a b o n k:=
 ⟨h.at_,h.cap,h.wr.fr hf,fun i hi=>let ⟨x,hx⟩:=h.u8 i hi; ⟨x,hf.cell hx (h.apart _)⟩,h.apart,h.lo,h.big⟩
theorem Buf.beside {m:Mem} {a:Option Addr} {b o n k q:Nat} (h:Buf D f bh bb cb m a b o n k) (hq:q≤n):Beside D f bh bb cb m (fun i j=>i=b∧o≤j∧j < o+q):=by
 refine ⟨?_,?_,?_⟩
 ·rintro i j v ⟨rfl,h1,h2⟩ hc
  obtain ⟨x,hx⟩:=h.u8 (j - o) (by omega)
  rw [show o+(j - o)=j from by omega,hc] at hx
  simp only [Option.some.injEq] at hx
  exact .inl ⟨x,hx⟩
 ·rintro i j ⟨rfl,_⟩; exact h.apart j
 ·rintro i j ⟨rfl,_⟩; exact h.lo
theorem deliver {m:Mem} {H Hf:List Nat} {wr rd Dl l b o n k:Nat} {a:Option Addr} (hP:Pend m f bh H wr rd Dl l) (hl:0 < l) (hB:Buf D f bh bb cb m a b o n k) (hpre:∃ T,Hf=H++T) (hbhf:bh≠f) {K:Int→Mem→Prop} {a4:Option Addr} {k6:Nat} (hc:cell? m ⟨f,1049,none⟩=some (.slice a4 l k6))
  (hown:∀ {S:Nat→Nat→Prop} {m':Mem},Fr S m m'→Wr m' ⟨f,1049,none⟩)
  (hk:∀ m1 m2 q a' k',q=min l n→Got m2 b o Hf Dl q→Fr (fun i j=>i=b∧o≤j∧j < o+q) m m1→cell? m2 ⟨f,1049,none⟩=some (.slice a' (l - q) k')→Fr (fun i j=>i=f∧j=1049) m1 m2→Pend m2 f bh H wr rd (Dl+q) (l - q)→K (q:Int) m2):
  SemW PP (builtin .copy #[t_s_uint8,t_s_uint8] t_int #[false,false] #[.slice a n k,.slice a4 l k6]) m (NextW PP fun v11 m12=>∃ (x10:Int),v11=.int .i64 x10∧∃ (a13:Option Addr),∃ (l14:Nat),∃ (k15:Nat),cell? m12 ⟨f,1049,none⟩=some (.slice a13 l14 k15)∧l14≤k15∧(0≤x10∧x10≤(l14:Int))∧
   StW m12 ⟨f,1049,none⟩ (.slice (subA a13 x10.toNat 1 k15) (l14 - x10.toNat) (k15 - x10.toNat)) fun m16=>K x10 m16):=by
 obtain ⟨⟨a4',k6',hc',hle,hd⟩,hdel⟩:=hP
 obtain ⟨o',rfl,hdat⟩:=hd hl
 rw [hc] at hc'
 simp only [Option.some.injEq,Value.slice.injEq,true_and] at hc'
 obtain ⟨rfl,rfl⟩:=hc'
 have hne:∀ i j,(i=b∧o≤j∧j < o+min l n)→ ¬ (i=f):=by
  rintro i j ⟨rfl,_⟩ rfl
  exact hB.apart 0 (.inr (.inl rfl))
 have hnbh:bh≠b:=by rintro rfl; exact hB.apart 0 (.inr (.inr (.inl rfl)))
 refine copyB_W b o bh o' (min l n) (fun i=>((H.getD (Dl+i) 0:Nat):Int)) rfl (fun _=>rfl) (fun i hi=>(hdat i (by omega)).2) (fun h=>hB.at_ (by omega)) (fun i hi=>hB.wr i (by omega)) fun m1 g1 g2 _=>?_
 have c1:cell? m1 ⟨f,1049,none⟩=some (.slice (some ⟨bh,o',none⟩) l k6):=g2.cell hc (fun h=>hne _ _ h rfl)
 refine ⟨_,rfl,_,_,_,c1,hle,⟨by omega,by omega⟩,?_⟩
 simp only [Int.toNat_natCast]
 refine StW.at rfl (hown g2) fun m2 c2 f2 _=>?_
 have hbf:b≠f:=fun e=>hB.apart 0 (.inr (.inl e))
 refine hk m1 m2 (min l n) _ _ rfl (fun i hi=>?_) g2 c2 f2 ⟨⟨_,_,c2,by omega,fun h0=>?_⟩,by omega⟩
 ·have:=f2.cell (g1 i hi) (by rintro ⟨e,_⟩; exact hbf e)
  rw [this]
  obtain ⟨T,hT⟩:=hpre
  rw [hT,getD_append_left (by omega)]
 ·refine ⟨o'+min l n,subA_lt (by omega),fun i hi=>?_⟩
  obtain ⟨h1,h2⟩:=hdat (min l n+i) (by omega)
  refine ⟨by omega,?_⟩
  rw [show o'+min l n+i=o'+(min l n+i) from by omega,show Dl+min l n+i=Dl+(min l n+i) from by omega]
  exact f2.cell (g2.cell h2 (by rintro ⟨e,_⟩; exact hnbh e)) (by rintro ⟨e,_⟩; exact hbhf e)
theorem Win.nef {m:Mem} {H:List Nat} {wr rd:Nat} (h:Win m f bh H wr rd):bh≠f:=let ⟨_,_,hD,_⟩:=h.ex; hD.ne
theorem Going.setRead {m m':Mem} {Hf:List Nat} {e:Er} {pf Dl Dl':Nat} {s:St} {pos wr rd l l':Nat} (h:Going D f bh Hf e pf Dl m s pos wr rd l) (hf:Fr (fun i j=>i=f∧j=1049) m m') (hP:Pend m' f bh s.H wr rd Dl' l') (hll:0 < l'→0 < l):Going D f bh Hf e pf Dl' m' s pos wr rd l':=by
 have hB:=h.base
 have hM:Fr (Mv D f bh) m m':=hf.mono (mv_f (by decide) (by decide) (by decide) (by decide))
 refine ⟨hB.ctl (hf.mono (ctl_f (by decide))),h.room,hP,?_,h.runs,hf.cell h.err (by simp),fun h0=>h.full (hll h0)⟩
 have hm:=h.mode
 cases hmd:s.md with
 | block=>
  rw [hmd] at hm
  obtain ⟨h1,h2,ss,cl,cd,h3,h4⟩:=hm
  exact ⟨hf.cell h1 (by simp),h2,ss,cl,cd,h3.fr hf (by simp) (by simp) (by simp),h4⟩
 | stored fin n=>
  rw [hmd] at hm
  obtain ⟨h1,h2,h3,h4,ss,cd,h5,h6⟩:=hm
  exact ⟨hf.cell h1 (by simp),hf.cell h2 (by simp),h3,h4,ss,cd,h5.fr hf (by simp) (by simp) (by simp),h6⟩
 | coded fin T=>
  rw [hmd] at hm
  obtain ⟨h1,h2,h3,h4,cl,cd,h5⟩:=hm
  exact ⟨hf.cell h1 (by simp),hf.cell h2 (by simp),h3.fr hB hM,h4,cl,cd,h5.fr hf (by simp) (by simp) (by simp)⟩
 | copy fin T d n=>
  rw [hmd] at hm
  obtain ⟨h1,h2,h3,h4,h5,h6⟩:=hm
  exact ⟨hf.cell h1 (by simp),hf.cell h2 (by simp),h3.fr hB hM,h4,h5.fr hf (by simp) (by simp) (by simp),h6⟩
theorem Ended.setRead {m m':Mem} {Hf:List Nat} {e:Er} {pf Dl Dl':Nat} {wr l l':Nat} (h:Ended D f bh Hf e pf Dl m wr wr l) (hA:AuxW D f bh bb cb m) (hDf:∀ j, ¬ D.S f j) (hlo:4 < f) (hf:Fr (fun i j=>i=f∧j=1049) m m') (hP:Pend m' f bh Hf wr wr Dl' l'):Ended D f bh Hf e pf Dl' m' wr wr l':=by
 obtain ⟨v,hv,he⟩:=h.err
 have hne:=h.win.nef
 refine ⟨h.glob.fr hf (by rintro i j ⟨rfl,_⟩; exact hlo),h.win.fr hf (by
  rintro i j (⟨_,_,h1⟩ | rfl) ⟨h2,h3⟩
  ·omega
  ·exact hne h2),hP,h.own.fr hf,⟨v,hf.cell hv (by simp),he⟩,fun hE=>D.fr (h.left hE) hf (by rintro i j h1 ⟨rfl,_⟩; exact hDf _ h1),.inr rfl,fun h0=>D.fr (h.nil h0) hf (by rintro i j h1 ⟨rfl,_⟩; exact hDf _ h1)⟩
def Dead (D:Rdr E src) (f bh bb cb:Nat) (Hf:List Nat) (e:Er) (pf Dl:Nat) (m:Mem):Prop:=∃ wr l,Ended D f bh Hf e pf Dl m wr wr l∧AuxW D f bh bb cb m
theorem Dead.beside {m m':Mem} {S:Nat→Nat→Prop} {Hf:List Nat} {e:Er} {pf Dl:Nat} (h:Dead D f bh bb cb Hf e pf Dl m) (hf:Fr S m m') (hS:Beside D f bh bb cb m S):Dead D f bh bb cb Hf e pf Dl m':=by
 obtain ⟨wr,l,h1,h2⟩:=h
 exact ⟨wr,l,h1.beside hf hS,h2.fr hf (beside_f hS _) (beside_f hS _) (beside_f hS _)⟩
theorem Dead.fresh {m m':Mem} {Hf:List Nat} {e:Er} {pf Dl:Nat} (h:Dead D f bh bb cb Hf e pf Dl m) (hf:∀ S,Fr S m m'):Dead D f bh bb cb Hf e pf Dl m':=
 h.beside (hf fun _ _=>False) ⟨by rintro _ _ _ h; exact h.elim,by rintro _ _ h; exact h.elim,by rintro _ _ h; exact h.elim⟩
def RdS (D:Rdr E src) (f bh bb cb b o q:Nat):Nat→Nat→Prop:=fun i j=>Mw D f bh bb cb i j∨(i=b∧o≤j∧j < o+q)
theorem read_spec {m:Mem} {Hf:List Nat} {e:Er} {pf Dl b o n k:Nat} {a:Option Addr} (hL:Live D f bh bb cb Hf e pf Dl m) (hDf:∀ j, ¬ D.S f j) (hlof:4 < f) (hB:Buf D f bh bb cb m a b o n k) {R:Value→Mem→Prop}
  (hgo:∀ m' q,q≤n→(0 < n→0 < q)→(q=n∨32768≤Hf.length∨Ends (scOf src))→Dl+q≤Hf.length→Live D f bh bb cb Hf e pf (Dl+q) m'→Got m' b o Hf Dl q→Fr (RdS D f bh bb cb b o q) m m'→R (.tuple #[.int .i64 (q:Int),.nilIface]) m')
  (hend:∀ m' q v,IsErr E e v→q≤n→Dl+q=Hf.length→Dead D f bh bb cb Hf e pf (Dl+q) m'→Got m' b o Hf Dl q→Fr (RdS D f bh bb cb b o q) m m'→R (.tuple #[.int .i64 (q:Int),v]) m'):
  CallM PP f_decompressor_Read #[.pointer (some ⟨f,0,none⟩),.slice a n k] m R:=by
 have h0:∃ M:Nat,(∃ s pos wr rd l,Going D f bh Hf e pf Dl m s pos wr rd l∧Aux D f bh bb cb m∧(0 < l∨M=2 * (8 * src.length - s.p)+nbk s.md+1))∨(∃ wr rd l,Ended D f bh Hf e pf Dl m wr rd l∧AuxW D f bh bb cb m∧(0 < l∨wr=rd)):=by
  rcases hL with ⟨s,pos,wr,rd,l,h1,h2⟩ | ⟨wr,l,h1,h2⟩
  ·exact ⟨_,.inl ⟨s,pos,wr,rd,l,h1,h2,.inr rfl⟩⟩
  ·exact ⟨0,.inr ⟨wr,wr,l,h1,h2,.inr rfl⟩⟩
 obtain ⟨M0,h0⟩:=h0
 refine e_decompressor_Read f a n k m R ?_
 rw [q_decompressor_Read_rl]
 refine loopW ffOk mixedOk (L₀:=L_decompressor_Read) (σ:=Nat) [0,1] (fun _=>[(0,.pointer (some ⟨f,0,none⟩)),(1,.slice a n k)])
  (fun M m'=>Fr (Mw D f bh bb cb) m m'∧((∃ s pos wr rd l,Going D f bh Hf e pf Dl m' s pos wr rd l∧Aux D f bh bb cb m'∧(0 < l∨M=2 * (8 * src.length - s.p)+nbk s.md+1))∨(∃ wr rd l,Ended D f bh Hf e pf Dl m' wr rd l∧AuxW D f bh bb cb m'∧(0 < l∨wr=rd))))
  (fun M=>M) M0 rfl ⟨Fr.refl _ _,h0⟩ ?_
 rintro M m1 ⟨hF1,hS⟩
 have hB1:=hB.mw hF1
 have hgotS:∀ q,q≤n→∀ {m2 m3:Mem},Fr (fun i j=>i=b∧o≤j∧j < o+q) m1 m2→Fr (fun i j=>i=f∧j=1049) m2 m3→Fr (RdS D f bh bb cb b o q) m m3:=fun q hq {m2 m3} f2 f3=>
  (hF1.mono fun i j h=>.inl h).trans ((f2.mono fun i j h=>.inr h).trans (f3.mono fun i j h=>.inl (.inr (.inl h.1))))
 refine p_decompressor_Read_rll f a n k m1 _ ?_
 rcases hS with ⟨s,pos,wr,rd,l,hG,hA,hM⟩ | ⟨wr,rd,l,hE,hA,hM⟩
 ·obtain ⟨_,⟨T,hT⟩,_⟩:=hG.runs.run.bound (scOf_hd src) (by have h1:=hG.base.inn.le; have h2:=hG.base.inn.pos_le; show s.p≤8 * src.length; omega)
  have hHl:Hf.length=s.H.length+T.length:=by rw [hT,List.length_append]
  have hdel:=hG.pend.del
  obtain ⟨⟨a4,k6,hc,hle,_⟩,_⟩:=hG.pend
  refine ⟨_,_,_,hc,ifB_of (fun hpos=>?_) (fun hpos=>?_)⟩
  ·have hl:0 < l:=by have:=of_decide_eq_true hpos; omega
   have hfl:∀ q,q=n∨32768≤Hf.length∨Ends (scOf src):=fun q=>.inr ((hG.full hl).imp (fun h=>by omega) id)
   refine ⟨_,_,_,hc,?_⟩
   refine deliver hG.pend hl hB1 ⟨T,hT⟩ hG.base.ne hc (fun hf=>(hG.base.inn.own 1049 (by decide)).fr hf) (fun m2 m3 q a' k' hq hgot f2 c3 f3 hP=>?_)
   have hbs:=hB1.beside (q:=q) (by omega)
   have hG3:Going D f bh Hf e pf (Dl+q) m3 s pos wr rd (l - q):=(hG.beside f2 hbs).setRead f3 hP (by omega)
   have hA3:Aux D f bh bb cb m3:=(hA.fr f2 fun j _ _=>beside_f hbs j).fr f3 (by simp; omega)
   have hLive:Live D f bh bb cb Hf e pf (Dl+q) m3:=.inl ⟨s,pos,wr,rd,l - q,hG3,hA3⟩
   refine ⟨_,_,_,c3,ifB_of (fun hz=>?_) (fun hz=>?_)⟩
   ·refine ⟨_,hG3.err,?_⟩
    show R (.tuple #[.int .i64 (q:Int),.nilIface]) m3
    exact hgo m3 q (by omega) (by omega) (hfl q) (by omega) hLive hgot (hgotS q (by omega) f2 f3)
   ·show R (.tuple #[.int .i64 (q:Int),.nilIface]) m3
    exact hgo m3 q (by omega) (by omega) (hfl q) (by omega) hLive hgot (hgotS q (by omega) f2 f3)
  ·have hl:l=0:=by have:=of_decide_eq_false hpos; omega
   subst hl
   have hM:M=2 * (8 * src.length - s.p)+nbk s.md+1:=by
    rcases hM with h | h
    ·omega
    ·exact h
   refine ⟨_,hG.err,rfl,ifB_f ?_⟩
   refine step_spec hG hA fun m2 hSt hF2=>?_
   have hF02:=hF1.trans hF2
   have again:∀ m3 M',M' < M→Fr (Mw D f bh bb cb) m2 m3→((∃ s pos wr rd l,Going D f bh Hf e pf Dl m3 s pos wr rd l∧Aux D f bh bb cb m3∧(0 < l∨M'=2 * (8 * src.length - s.p)+nbk s.md+1))∨(∃ wr rd l,Ended D f bh Hf e pf Dl m3 wr rd l∧AuxW D f bh bb cb m3∧(0 < l∨wr=rd)))→
     ∃ s':Nat,Env.keep [0,1] [(0,Value.pointer (some ⟨f,0,none⟩)),(1,.slice a n k)]=[(0,.pointer (some ⟨f,0,none⟩)),(1,.slice a n k)]∧(Fr (Mw D f bh bb cb) m m3∧((∃ s pos wr rd l,Going D f bh Hf e pf Dl m3 s pos wr rd l∧Aux D f bh bb cb m3∧(0 < l∨s'=2 * (8 * src.length - s.p)+nbk s.md+1))∨(∃ wr rd l,Ended D f bh Hf e pf Dl m3 wr rd l∧AuxW D f bh bb cb m3∧(0 < l∨wr=rd))))∧s' < M:=
    fun m3 M' hlt hf h=>⟨M',rfl,⟨hF02.trans hf,h⟩,hlt⟩
   have ended:∀ {wr rd l},Ended D f bh Hf e pf Dl m2 wr rd l→AuxW D f bh bb cb m2→∃ (v26:Value),cell? m2 ⟨f,1048,none⟩=some (v26)∧isIfc v26=true∧ifB (!(isNil v26)) (∃ (a27:Option Addr),∃ (l28:Nat),∃ (k29:Nat),cell? m2 ⟨f,1049,none⟩=some (.slice a27 l28 k29)∧ifB ((l28:Int) == 0) (CallM PP f_dictDecoder_readFlush #[.pointer (some ⟨f,1037,none⟩)] m2 fun v33 m34=>∃ (a30:Option Addr),∃ (l31:Nat),∃ (k32:Nat),v33=.slice a30 l31 k32∧StW m34 ⟨f,1049,none⟩ (.slice a30 l31 k32) fun m35=>
     ∃ s':Nat,Env.keep [0,1] [(0,Value.pointer (some ⟨f,0,none⟩)),(1,.slice a n k)]=[(0,.pointer (some ⟨f,0,none⟩)),(1,.slice a n k)]∧(Fr (Mw D f bh bb cb) m m35∧((∃ s pos wr rd l,Going D f bh Hf e pf Dl m35 s pos wr rd l∧Aux D f bh bb cb m35∧(0 < l∨s'=2 * (8 * src.length - s.p)+nbk s.md+1))∨(∃ wr rd l,Ended D f bh Hf e pf Dl m35 wr rd l∧AuxW D f bh bb cb m35∧(0 < l∨wr=rd))))∧s' < M)
     (∃ s':Nat,Env.keep [0,1] [(0,Value.pointer (some ⟨f,0,none⟩)),(1,.slice a n k)]=[(0,.pointer (some ⟨f,0,none⟩)),(1,.slice a n k)]∧(Fr (Mw D f bh bb cb) m m2∧((∃ s pos wr rd l,Going D f bh Hf e pf Dl m2 s pos wr rd l∧Aux D f bh bb cb m2∧(0 < l∨s'=2 * (8 * src.length - s.p)+nbk s.md+1))∨(∃ wr rd l,Ended D f bh Hf e pf Dl m2 wr rd l∧AuxW D f bh bb cb m2∧(0 < l∨wr=rd))))∧s' < M))
     (∃ s':Nat,Env.keep [0,1] [(0,Value.pointer (some ⟨f,0,none⟩)),(1,.slice a n k)]=[(0,.pointer (some ⟨f,0,none⟩)),(1,.slice a n k)]∧(Fr (Mw D f bh bb cb) m m2∧((∃ s pos wr rd l,Going D f bh Hf e pf Dl m2 s pos wr rd l∧Aux D f bh bb cb m2∧(0 < l∨s'=2 * (8 * src.length - s.p)+nbk s.md+1))∨(∃ wr rd l,Ended D f bh Hf e pf Dl m2 wr rd l∧AuxW D f bh bb cb m2∧(0 < l∨wr=rd))))∧s' < M):=by
    intro wr2 rd2 l2 hE hA2
    obtain ⟨v,hv,he⟩:=hE.err
    have hdel2:=hE.pend.del
    obtain ⟨⟨a5,k5,hc5,_,_⟩,_⟩:=hE.pend
    refine ⟨v,hv,he.ifc.1,?_⟩
    rw [he.ifc.2]
    refine ifB_t ⟨_,_,_,hc5,ifB_of (fun hz=>?_) (fun hz=>?_)⟩
    ·have hl0:l2=0:=by have:=eq_of_beq hz; omega
     subst hl0
     refine win_readFlush hE.win fun m3 o3 k3 wr3 rd3 hW3 he3 hlt3 hf3 hkl hdat=>⟨_,_,_,rfl,?_⟩
     subst he3
     have hne:=hE.win.nef
     refine StW.at rfl ((hE.own.fr hf3) 1049 (by decide)) fun m4 c4 f4 _=>?_
     have f24:Fr (fun i j=>i=f∧(1037≤j∧j≤1040∨j=1049)) m2 m4:=(hf3.mono fun i j h=>⟨h.1,.inl h.2⟩).trans (f4.mono fun i j h=>⟨h.1,.inr h.2⟩)
     have hP4:Pend m4 f bh Hf wr3 wr3 Dl (wr2 - rd2):=⟨⟨_,_,c4,hkl,fun _=>⟨o3,rfl,fun i hi=>⟨(hdat i hi).1,by
      have:=f4.cell (hdat i hi).2 (by rintro ⟨e,_⟩; exact hne e)
      rw [show Hf.length - (wr2 - rd2)+i=Dl+i from by omega] at this
      exact this⟩⟩⟩,by omega⟩
     refine again m4 0 (by omega) (f24.mono fun i j h=>.inr (.inl h.1)) (.inr ⟨wr3,wr3,wr2 - rd2,⟨hE.glob.fr f24 (by rintro i j ⟨rfl,_⟩; exact hlof),hW3.fr f4 (by
      rintro i j (⟨_,_,h1⟩ | rfl) ⟨h2,h3⟩
      ·omega
      ·exact hne h2),hP4,hE.own.fr f24,⟨v,f24.cell hv (by simp),he⟩,fun h=>D.fr (hE.left h) f24 (by rintro i j h1 ⟨rfl,_⟩; exact hDf _ h1),.inr rfl,fun h=>D.fr (hE.nil h) f24 (by rintro i j h1 ⟨rfl,_⟩; exact hDf _ h1)⟩,hA2.fr f24 (by simp) (by simp) (by simp),.inr rfl⟩)
    ·have hl0:0 < l2:=by
      have:l2≠0:=by rintro rfl; simp at hz
      omega
     exact again m2 0 (by omega) (Fr.refl _ _) (.inr ⟨wr2,rd2,l2,hE,hA2,.inl hl0⟩)
   rcases hSt with ⟨⟨s2,pos2,wr2,rd2,l2,hG2⟩ | ⟨wr2,rd2,l2,hE2⟩,hA2⟩ | ⟨⟨wr2,rd2,l2,hE2⟩,hA2⟩
   ·refine ⟨_,hG2.err,rfl,ifB_f ?_⟩
    rcases hG2.prog with h | ⟨h1,h2⟩
    ·exact again m2 0 (by omega) (Fr.refl _ _) (.inl ⟨s2,pos2,wr2,rd2,l2,hG2.going,hA2,.inl h⟩)
    ·have h2:2 * (8 * src.length - s2.p) < 2 * (8 * src.length - s.p)+nbk s.md:=h2
     exact again m2 (2 * (8 * src.length - s2.p)+nbk s2.md+1) (by
      have h3:nbk s2.md=0:=by rw [h1]; rfl
      rw [h3,hM]; omega) (Fr.refl _ _) (.inl ⟨s2,pos2,wr2,rd2,l2,hG2.going,hA2,.inr rfl⟩)
   ·exact ended hE2 hA2.weak
   ·exact ended hE2 hA2
 ·have hdel:=hE.pend.del
  have hflat:wr=rd:=by
   rcases hM with h | h
   ·rcases hE.flat with h2 | h2
    ·omega
    ·exact h2
   ·exact h
  subst hflat
  obtain ⟨v,hv,he⟩:=hE.err
  obtain ⟨⟨a4,k6,hc,hle,_⟩,_⟩:=hE.pend
  refine ⟨_,_,_,hc,ifB_of (fun hpos=>?_) (fun hpos=>?_)⟩
  ·have hl:0 < l:=by have:=of_decide_eq_true hpos; omega
   refine ⟨_,_,_,hc,?_⟩
   refine deliver hE.pend hl hB1 (self_app Hf) hE.win.nef hc (fun hf=>(hE.own 1049 (by decide)).fr hf) (fun m2 m3 q a' k' hq hgot f2 c3 f3 hP=>?_)
   have hbs:=hB1.beside (q:=q) (by omega)
   have hE3:Ended D f bh Hf e pf (Dl+q) m3 wr wr (l - q):=(hE.beside f2 hbs).setRead (hA.fr f2 (beside_f hbs _) (beside_f hbs _) (beside_f hbs _)) hDf hlof f3 hP
   have hA3:AuxW D f bh bb cb m3:=(hA.fr f2 (beside_f hbs _) (beside_f hbs _) (beside_f hbs _)).fr f3 (by simp) (by simp) (by simp)
   have hDead:Dead D f bh bb cb Hf e pf (Dl+q) m3:=⟨wr,l - q,hE3,hA3⟩
   have hLive:Live D f bh bb cb Hf e pf (Dl+q) m3:=.inr hDead
   obtain ⟨v3,hv3,he3⟩:=hE3.err
   refine ⟨_,_,_,c3,ifB_of (fun hz=>?_) (fun hz=>?_)⟩
   ·have hz:l - q=0:=by have:=eq_of_beq hz; omega
    refine ⟨v3,hv3,?_⟩
    show R (.tuple #[.int .i64 (q:Int),v3]) m3
    exact hend m3 q v3 he3 (by omega) (by omega) hDead hgot (hgotS q (by omega) f2 f3)
   ·show R (.tuple #[.int .i64 (q:Int),.nilIface]) m3
    exact hgo m3 q (by omega) (by omega) (.inl (by have:l - q≠0:=(by intro h; rw [h] at hz; simp at hz); omega)) (by omega) hLive hgot (hgotS q (by omega) f2 f3)
  ·have hl:l=0:=by have:=of_decide_eq_false hpos; omega
   subst hl
   refine ⟨v,hv,he.ifc.1,?_⟩
   rw [he.ifc.2]
   refine ifB_t ⟨v,hv,?_⟩
   show R (.tuple #[.int .i64 0,v]) m1
   have:=hend m1 0 v he (Nat.zero_le _) (by omega) (⟨wr,0,by rw [Nat.add_zero]; exact hE,hA⟩) (fun i hi=>by omega) (hF1.mono fun i j h=>.inl h)
   exact this
end
end Go.M

namespace Go.M
open Go
set_option maxRecDepth 100000
theorem dict_store {m:Mem} {a:Addr} {v1 v2 v3 v4:Value} {K:Mem→Prop} (h:SemW PP (storeCells a [v1,v2,v3,v4] 0) m fun _ m'=>K m'):StAgg PP t_flate_dictDecoder m a (.agg #[v1,v2,v3,v4]) K:=Eq.mpr (by kernel_rfl) h
def last32 (d:List Nat):List Nat:=d.drop (d.length - 32768)
theorem last32_len (d:List Nat):(last32 d).length=min d.length 32768:=by unfold last32; rw [List.length_drop]; omega
structure SlcB (m:Mem) (a:Option Addr) (l k b o:Nat) (d:List Nat):Prop where
 len:d.length=l
 cap:l≤k
 at_:0 < l→a=some ⟨b,o,none⟩
 data:∀ i,i < l→cell? m ⟨b,o+i,none⟩=some (.int .u8 ((d.getD i 0:Nat):Int))
 byte:∀ v ∈ d,v < 256
theorem SlcB.fr {S:Nat→Nat→Prop} {m m':Mem} {a:Option Addr} {l k b o:Nat} {d:List Nat} (h:SlcB m a l k b o d) (hf:Fr S m m') (hs:∀ j,o≤j→j < o+l→ ¬ S b j):SlcB m' a l k b o d:=
 ⟨h.len,h.cap,h.at_,fun i hi=>hf.cell (h.data i hi) (hs _ (by simp only; omega) (by simp only; omega)),h.byte⟩
section
variable {f bh:Nat}
theorem dictInit_tail {m:Mem} {h:Nat→Int} {l:Nat} (hc:cell? m ⟨f,1037,none⟩=some (.slice (some ⟨bh,0,none⟩) l 32768)) (hl:l≤32768) (h38:cell? m ⟨f,1038,none⟩=some (.int .i64 0)) (h39:cell? m ⟨f,1039,none⟩=some (.int .i64 0)) (h40:cell? m ⟨f,1040,none⟩=some (.bool false))
  (hd:∀ i,i < 32768→cell? m ⟨bh,i,none⟩=some (.int .u8 (h i))) (wf:∀ i,1037≤i→i≤1040→Wr m ⟨f,i,none⟩) (wh:∀ i,i < 32768→Wr m ⟨bh,i,none⟩) (hne:bh≠f) {a:Option Addr} {dl dk db dq:Nat} {d:List Nat} (hs:SlcB m a dl dk db dq d) (hdb:db≠f∧db≠bh) (hbig:dl < 4611686018427387904)
  {K:Kont} (hk:∀ m' wr,Win m' f bh (last32 d) wr wr→wr < 32768→Fr (DictS f bh) m m'→∀ r,K.kn r m') {r:Env} (hr:Env.keep [0,1,2] r=[(0,.pointer (some ⟨f,1037,none⟩)),(1,.int .i64 32768),(2,.slice a dl dk)]):
  WPS PP 84 c_dictDecoder_init_rr K r m:=by
 have hlen:=hs.len
 have hcap:=hs.cap
 refine WPS.piece k_dictDecoder_init_rr hr (p_dictDecoder_init_rr f 32768 a dl dk m K ⟨_,_,_,hc,hl,⟨by decide,by decide⟩,?_⟩)
 refine StW.at rfl (wf 1037 (by decide) (by decide)) fun m1 c1 f1 _=>?_
 have c1:cell? m1 ⟨f,1037,none⟩=some (.slice (some ⟨bh,0,none⟩) 32768 32768):=c1
 have hs1:SlcB m1 a dl dk db dq d:=hs.fr f1 (by rintro j _ _ ⟨e,_⟩; exact hdb.1 e)
 have F1:Fr (DictS f bh) m m1:=f1.mono (by rintro i j ⟨rfl,rfl⟩; exact .inl ⟨rfl,by decide,by decide⟩)
 have D1:DictAt m1 f bh h 0 0 false:=⟨c1,f1.cell h38 (by simp),f1.cell h39 (by simp),f1.cell h40 (by simp),fun i hi=>f1.cell (hd i hi) (by rintro ⟨e,_⟩; exact hne e),fun i q1 q2=>(wf i q1 q2).fr f1,fun i hi=>(wh i hi).fr f1,hne⟩
 have piece:∀ (a':Option Addr) (l' k' do':Nat) (T:List Nat),SlcB m1 a' l' k' db do' T→l'≤32768→T=last32 d→WPS PP 84 c_dictDecoder_init_rrrr K [(0,.pointer (some ⟨f,1037,none⟩)),(1,.int .i64 32768),(2,.slice a' l' k')] m1:=by
  intro a' l' k' do' T hT hl' hTe
  have hTl:=hT.len
  refine WPS.piece k_dictDecoder_init_rrrr rfl (p_dictDecoder_init_rrrr f a' l' k' m1 K ⟨_,_,_,D1.hist,?_⟩)
  refine copyB_W bh 0 db do' l' (fun i=>((T.getD i 0:Nat):Int)) (by omega) (fun h=>hT.at_ h) (fun i hi=>hT.data i hi) (fun _=>rfl) (fun i hi=>by rw [Nat.zero_add]; exact D1.wh i (by omega)) fun m2 g1 g2 _=>⟨_,rfl,?_⟩
  have D2:=D1.setData 0 l' (fun i=>((T.getD i 0:Nat):Int)) g1 g2
  refine StW.at rfl (D2.wf _ (by simp) (by simp)) fun m3 c3 f3 _=>?_
  have D3:=D2.setWr l' c3 f3
  have F3:Fr (DictS f bh) m m3:=F1.trans ((g2.mono fun i j h=>.inr h.1).trans (f3.mono (by rintro i j ⟨rfl,rfl⟩; exact .inl ⟨rfl,by decide,by decide⟩)))
  refine ⟨_,D3.wr,_,_,_,D3.hist,ifB_of (fun hq=>?_) (fun hq=>?_)⟩
  ·have hq:l'=32768:=by have:=eq_of_beq hq; omega
   refine StW.at rfl (D3.wf _ (by simp) (by simp)) fun m4 c4 f4 _=>?_
   have D4:=D3.setWr 0 c4 f4
   refine StW.at rfl (D4.wf _ (by simp) (by simp)) fun m5 c5 f5 _=>?_
   have D5:=D4.setFull true c5 f5
   refine WPS.piece k_dictDecoder_init_rrrrrr rfl (p_dictDecoder_init_rrrrrr f m5 K ⟨_,D5.wr,StW.at rfl (D5.wf _ (by simp) (by simp)) fun m6 c6 f6 _=>?_⟩)
   have D6:=D5.setRd 0 c6 f6
   refine hk m6 0 ⟨⟨_,_,D6,⟨by decide,fun _=>by rw [← hTe]; omega,fun h=>(by cases h),fun dd q1 q2 q3=>?_⟩⟩,Nat.le_refl _,fun v hv=>hs.byte v (List.mem_of_mem_drop hv)⟩ (by decide) (F3.trans ((f4.mono ?_).trans ((f5.mono ?_).trans (f6.mono ?_)))) _
   ·rw [if_pos (by omega), ← hTe,hTl,hq]
    rw [show (0+32768 - dd) % 32768 - 0=32768 - dd from by omega]
   all_goals (rintro i j ⟨rfl,rfl⟩; exact .inl ⟨rfl,by decide,by decide⟩)
  ·have hq:l'≠32768:=by rintro rfl; simp at hq
   refine WPS.piece k_dictDecoder_init_rrrrrr rfl (p_dictDecoder_init_rrrrrr f m3 K ⟨_,D3.wr,StW.at rfl (D3.wf _ (by simp) (by simp)) fun m6 c6 f6 _=>?_⟩)
   have D6:=D3.setRd l' c6 f6
   refine hk m6 l' ⟨⟨_,_,D6,⟨by omega,fun h=>(by cases h),fun _=>by rw [← hTe]; exact hTl,fun dd q1 q2 q3=>?_⟩⟩,Nat.le_refl _,fun v hv=>hs.byte v (List.mem_of_mem_drop hv)⟩ (by omega) (F3.trans (f6.mono ?_)) _
   ·rw [← hTe,hTl] at q3 ⊢
    rw [show (l'+32768 - dd) % 32768=l' - dd from by omega,if_pos (by omega),Nat.sub_zero]
   ·rintro i j ⟨rfl,rfl⟩; exact .inl ⟨rfl,by decide,by decide⟩
 refine ⟨_,_,_,c1,ifB_of (fun hg=>?_) (fun hg=>?_)⟩
 ·have hgt:32768 < dl:=by have:=of_decide_eq_true hg; omega
  have e1:IntKind.wrap .i64 ((dl:Int) - ((32768:Nat):Int))=((dl - 32768:Nat):Int):=by
   rw [show ((dl:Int) - ((32768:Nat):Int))=((dl - 32768:Nat):Int) from by omega,wrap64_id (by omega) (by omega)]
  refine ⟨_,_,_,c1,hcap,?_⟩
  rw [e1]
  simp only [Int.toNat_natCast]
  refine ⟨⟨by omega,by omega⟩,?_⟩
  refine piece _ _ _ (dq+(dl - 32768)) (last32 d) ⟨by rw [last32_len]; omega,by omega,fun _=>by rw [hs1.at_ (by omega),subA_lt (by omega)],fun i hi=>?_,fun v hv=>hs.byte v (List.mem_of_mem_drop hv)⟩ (by omega) rfl
  have:=hs1.data (dl - 32768+i) (by omega)
  have e:(last32 d).getD i 0=d.getD (dl - 32768+i) 0:=by
   unfold last32
   rw [List.getD_eq_getElem?_getD,List.getD_eq_getElem?_getD,List.getElem?_drop,hlen]
  rw [Nat.add_assoc,this,e]
 ·have hle:dl≤32768:=by have:=of_decide_eq_false hg; omega
  refine piece _ _ _ dq d hs1 hle ?_
  unfold last32
  rw [show d.length - 32768=0 from by omega,List.drop_zero]
theorem dictInit_new {m:Mem} (hc:cell? m ⟨f,1037,none⟩=some (.slice none 0 0)) (wf:∀ i,1037≤i→i≤1040→Wr m ⟨f,i,none⟩) {a:Option Addr} {dl dk db dq:Nat} {d:List Nat} (hs:SlcB m a dl dk db dq d) (hdb:db≠f) (hdm:0 < dl→db < m.size) (hbig:dl < 4611686018427387904) {R:Value→Mem→Prop}
  (hk:∀ m' wr,Win m' f m.size (last32 d) wr wr→wr < 32768→Fr (fun i j=>i=f∧1037≤j∧j≤1040) m m'→R (.tuple #[]) m'):CallM PP f_dictDecoder_init #[.pointer (some ⟨f,1037,none⟩),.int .i64 32768,.slice a dl dk] m R:=by
 have hfm:f < m.size:=by have:=cell_block hc; simpa using this
 refine e_dictDecoder_init f 32768 a dl dk m R ⟨_,_,_,hc,dict_store (Row.storeCells (vs:=[.slice none 0 0,.int .i64 0,.int .i64 0,.bool false]) (i:=0) (fun v hv=>?_) (fun j hj=>?_) fun m1 r1 f1 s1=>?_)⟩
 ·simp only [List.mem_cons,List.not_mem_nil,or_false] at hv
  rcases hv with rfl | rfl | rfl | rfl <;> rfl
 ·simp only [List.length_cons,List.length_nil] at hj
  rw [Nat.add_zero]
  exact wf _ (by omega) (by omega)
 have f1':Fr (fun i j=>i=f∧1037≤j∧j≤1040) m m1:=f1.mono fun i j ⟨e,h1,h2⟩=>⟨e,by omega,by simp only [List.length_cons,List.length_nil] at h2; omega⟩
 have c0:cell? m1 ⟨f,1037,none⟩=some (.slice none 0 0):=r1 0 _ rfl
 refine ⟨_,_,_,c0,?_⟩
 have hlt:decide (((0:Nat):Int) < 32768)=true:=by decide
 rw [hlt]
 refine ifB_t ?_
 obtain ⟨iu,hi⟩:=one_uint8
 have hx:(32768:Int)=((32768:Nat):Int):=by simp
 have hb1:iu.bytes * 32768≤2 ^ 48:=by rw [hi.bytes]; omega
 have hb2:32768≤2 ^ 48:=by omega
 refine make_W (n:=32768) u_s_uint8 hi.info hi.zero rfl hi.size hx hx hb1 hb2 fun m2 own2 f2 s2=>⟨_,_,_,rfl,?_⟩
 rw [s1] at own2 s2 ⊢
 refine StW.at rfl (((wf 1037 (by decide) (by decide)).fr f1).fr (f2 fun _ _=>False)) fun m3 c3 f3 _=>?_
 have F3:Fr (fun i j=>i=f∧1037≤j∧j≤1040) m m3:=f1'.trans ((f2 _).trans (f3.mono (by rintro i j ⟨rfl,rfl⟩; exact ⟨rfl,by decide,by decide⟩)))
 have k1:∀ j v,j < 4→([.slice none 0 0,.int .i64 0,.int .i64 0,.bool false]:List Value)[j]?=some v→j≠0→cell? m3 ⟨f,1037+j,none⟩=some v:=fun j v hj hv h0=>f3.cell ((f2 fun _ _=>False).cell (by have:=r1 j v hv; simpa using this) (by simp)) (by rintro ⟨_,e⟩; simp at e; omega)
 have hne:m.size≠f:=by omega
 have hrow:∀ i,i < 32768→cell? m3 ⟨m.size,i,none⟩=some (.int .u8 0):=fun i hi=>by
  have:=own2.row i (.int .u8 0) (by rw [List.getElem?_replicate,if_pos hi])
  rw [Nat.zero_add] at this
  exact f3.cell this (by rintro ⟨e,_⟩; exact hne e)
 have hwh:∀ i,i < 32768→Wr m3 ⟨m.size,i,none⟩:=fun i hi=>by
  have:=own2.wr i (by omega)
  rw [Nat.zero_add] at this
  exact this.fr f3
 have main:∀ (db':Nat),SlcB m3 a dl dk db' dq d→db'≠f→db'≠m.size→WPS PP 84 c_dictDecoder_init_rr (retK PP r_dictDecoder_init R) [(0,.pointer (some ⟨f,1037,none⟩)),(1,.int .i64 32768),(2,.slice a dl dk)] m3:=fun db' hs3 h1 h2=>
  dictInit_tail (h:=fun _=>0) (hc:=c3) (Nat.le_refl _) (k1 1 _ (by decide) rfl (by decide)) (k1 2 _ (by decide) rfl (by decide)) (k1 3 _ (by decide) rfl (by decide)) hrow (fun i h1 h2=>(wf i h1 h2).fr F3) hwh hne hs3 ⟨h1,h2⟩ hbig
   (fun m4 wr hW hw hF r=>hk m4 wr hW hw ((F3.mono (S':=fun i j=>(i=f∧1037≤j∧j≤1040)∨i=m.size) fun i j h=>.inl h).trans hF |>.old (by
    rintro i j hi (h | h)
    ·exact h
    ·omega))) rfl
 by_cases hz:dl=0
 ·subst hz
  exact main (f+m.size+1) ⟨hs.len,hs.cap,fun h=>by omega,fun i hi=>by omega,hs.byte⟩ (by omega) (by omega)
 ·exact main db (hs.fr F3 (by rintro j _ _ ⟨e,_⟩; exact hdb e)) hdb (by have:=hdm (by omega); omega)
end
end Go.M

namespace Go.M
open Go
set_option maxRecDepth 100000
def dzHead:List Value:=[.nilIface,.pointer none,.int .i64 0,.int .u32 0,.int .u64 0]
def dzTail:List Value:=[.pointer none,.pointer none,.slice none 0 0,.int .i64 0,.int .i64 0,.bool false,.int .u8 0,.int .u8 0,.int .u8 0,.int .u8 0,.nilFunc,.int .i64 0,.bool false,.nilIface,.slice none 0 0,.pointer none,.pointer none,.int .i64 0,.int .i64 0]
def dzList:List Value:=dzHead++(hzList++(hzList++dzTail))
theorem dzList_len:dzList.length=1054:=by simp [dzList,dzHead,dzTail,hzList_len]
theorem z_decompressor:zeroOf PP t_flate_decompressor=some (.agg dzList.toArray):=by kernel_rfl
theorem z_316_int:zeroOf PP t_316_int=some (.agg (Array.replicate 316 (.int .i64 0))):=by kernel_rfl
theorem z_19_int:zeroOf PP t_19_int=some (.agg (Array.replicate 19 (.int .i64 0))):=by kernel_rfl
theorem dz_head {i:Nat} (h:i < 5):dzList[i]?=dzHead[i]?:=List.getElem?_append_left (by simpa [dzHead] using h)
theorem dz_h1 {i:Nat} (h:i < 515):dzList[5+i]?=hzList[i]?:=by
 unfold dzList
 rw [List.getElem?_append_right (by simp [dzHead]),List.getElem?_append_left (by rw [hzList_len]; simp [dzHead]; omega)]
 congr 1; simp [dzHead]
theorem dz_h2 {i:Nat} (h:i < 515):dzList[520+i]?=hzList[i]?:=by
 unfold dzList
 rw [List.getElem?_append_right (by simp [dzHead]; omega),List.getElem?_append_right (by rw [hzList_len]; simp [dzHead]; omega),List.getElem?_append_left (by rw [hzList_len]; simp [dzHead]; omega)]
 congr 1; rw [hzList_len]; simp [dzHead]; omega
theorem dz_tail {i:Nat}:dzList[1035+i]?=dzTail[i]?:=by
 unfold dzList
 rw [List.getElem?_append_right (by simp [dzHead]; omega),List.getElem?_append_right (by rw [hzList_len]; simp [dzHead]; omega),List.getElem?_append_right (by rw [hzList_len]; simp [dzHead]; omega)]
 congr 1; rw [hzList_len]; simp [dzHead]; omega
section
variable {E:Errs} {src:List Nat}
structure Made (D:Rdr E src) (f:Nat) (m:Mem):Prop where
 glob:Glob E m
 r:cell? m ⟨f,0,none⟩=some D.rv
 here:D.At 0 m
 row:∀ i v,2≤i→dzList[i]?=some v→cell? m ⟨f,i,none⟩=some v
 own:OwnF f m
 lo:4 < f
 dlt:∀ i j,D.S i j→i < m.size
 apart:∀ j, ¬ D.S f j
 bytes:∀ v ∈ src,v < 256
 big:src.length < 1152921504606846976
 rb:∃ p,cell? m ⟨f,1,none⟩=some (.pointer p)
theorem new_tail {D:Rdr E src} {f:Nat} {m:Mem} (hM:Made D f m) {a:Option Addr} {dl dk db dq:Nat} {d:List Nat} (hs:SlcB m a dl dk db dq d) (hdb:db≠f) (hdm:0 < dl→db < m.size) (hbig:dl < 4611686018427387904) {R:Value→Mem→Prop}
  (hk:∀ m' bh bb cb,m.size≤bh→m.size≤bb→m.size≤cb→Fr (fun i _=>i=f) m m'→(∀ Hf e pf,Runs (scOf src) ⟨0,last32 d,.block⟩ Hf e pf→Live D f bh bb cb Hf e pf (last32 d).length m')→R (.iface t_p_flate_decompressor (.pointer (some ⟨f,0,none⟩))) m'):
  AllocW PP t_316_int m fun n6 m7=>StW m7 ⟨f,1035,none⟩ (.pointer (some ⟨n6,0,none⟩)) fun m8=>AllocW PP t_19_int m8 fun n9 m10=>StW m10 ⟨f,1036,none⟩ (.pointer (some ⟨n9,0,none⟩)) fun m11=>StW m11 ⟨f,1045,none⟩ (.func (.func f_decompressor_nextBlock) #[] #[]) fun m12=>
   CallM PP f_dictDecoder_init #[.pointer (some ⟨f,1037,none⟩),.int .i64 32768,.slice a dl dk] m12 fun v13 m14=>v13=.tuple #[]∧R (.iface t_p_flate_decompressor (.pointer (some ⟨f,0,none⟩))) m14:=by
 have hfm:f < m.size:=by have:=cell_block hM.r; simpa using this
 refine alloc_W z_316_int ?_
 have w1:∀ j,j < 316→Wr (m.push (.cells (Array.replicate 316 (.int .i64 0)) t_316_int)) ⟨m.size,j,none⟩:=fun j hj=>wr_new (by simpa using hj)
 have f1:∀ S,Fr S m (m.push (.cells (Array.replicate 316 (.int .i64 0)) t_316_int)):=fun S=>Fr.push _
 have s1:(m.push (.cells (Array.replicate 316 (.int .i64 0)) t_316_int)).size=m.size+1:=Array.size_push ..
 show StW (m.push (.cells (Array.replicate 316 (.int .i64 0)) t_316_int)) _ _ _
 generalize m.push (.cells (Array.replicate 316 (.int .i64 0)) t_316_int)=m1 at w1 f1 s1 ⊢
 refine StW.at rfl ((hM.own.fr (f1 fun _ _=>False)) 1035 (by decide)) fun m2 c2 f2 s2=>alloc_W z_19_int ?_
 have w3:∀ j,j < 19→Wr (m2.push (.cells (Array.replicate 19 (.int .i64 0)) t_19_int)) ⟨m2.size,j,none⟩:=fun j hj=>wr_new (by simpa using hj)
 have f3:∀ S,Fr S m2 (m2.push (.cells (Array.replicate 19 (.int .i64 0)) t_19_int)):=fun S=>Fr.push _
 have s3:(m2.push (.cells (Array.replicate 19 (.int .i64 0)) t_19_int)).size=m2.size+1:=Array.size_push ..
 show StW (m2.push (.cells (Array.replicate 19 (.int .i64 0)) t_19_int)) _ _ _
 generalize m2.push (.cells (Array.replicate 19 (.int .i64 0)) t_19_int)=m3 at w3 f3 s3 ⊢
 rw [s2,s1] at w3 s3 ⊢
 have own2:=(hM.own.fr (f1 fun _ _=>False)).fr f2
 refine StW.at rfl ((own2.fr (f3 fun _ _=>False)) 1036 (by decide)) fun m4 c4 f4 s4=>?_
 have own4:=(own2.fr (f3 fun _ _=>False)).fr f4
 refine StW.at rfl (own4 1045 (by decide)) fun m5 c5 f5 s5=>?_
 have F5:Fr (fun i j=>i=f∧(j=1035∨j=1036∨j=1045)) m m5:=(f1 _).trans ((f2.mono fun i j h=>⟨h.1,.inl h.2⟩).trans ((f3 _).trans ((f4.mono fun i j h=>⟨h.1,.inr (.inl h.2)⟩).trans (f5.mono fun i j h=>⟨h.1,.inr (.inr h.2)⟩))))
 have s5':m5.size=m.size+2:=by rw [s5,s4,s3]
 have tl:∀ i v,dzTail[i]?=some v→i≠0→i≠1→i≠10→cell? m5 ⟨f,1035+i,none⟩=some v:=fun i v hv h0 h1 h2=>F5.cell (hM.row (1035+i) v (by omega) (by rw [dz_tail]; exact hv)) (by simp only; omega)
 have own5:=own4.fr f5
 refine dictInit_new (tl 2 _ rfl (by decide) (by decide) (by decide)) (fun i h1 h2=>own5 i (by omega)) (hs.fr F5 (by rintro j _ _ ⟨e,_⟩; exact hdb e)) hdb (fun h=>by have:=hdm h; omega) hbig fun m6 wr hW hwr F6=>⟨rfl,?_⟩
 rw [s5'] at hW
 have F06:Fr (fun i _=>i=f) m m6:=(F5.mono fun i j h=>h.1).trans (F6.mono fun i j h=>h.1)
 have hno:∀ {i},i≠f→∀ j, ¬ ((fun i (_:Nat)=>i=f) i j):=fun h _=>h
 refine hk m6 (m.size+2) m.size (m.size+1) (by omega) (Nat.le_refl _) (by omega) F06 fun Hf e pf hr=>.inl ⟨⟨0,last32 d,.block⟩,0,wr,wr,0,?_,?_⟩
 ·-- the decompressor's state
  have F56:Fr (fun i j=>i=f∧(1035≤j∧j≤1040∨j=1045)) m m6:=(F5.mono (by rintro i j ⟨h1,h2⟩; exact ⟨h1,by omega⟩)).trans (F6.mono (by rintro i j ⟨h1,h2⟩; exact ⟨h1,by omega⟩))
  have hd:∀ i v,dzHead[i]?=some v→2≤i→i < 5→cell? m6 ⟨f,i,none⟩=some v:=fun i v hv h1 h2=>F56.cell (hM.row i v h1 (by rw [dz_head h2]; exact hv)) (by simp only; omega)
  have tl6:∀ i v,dzTail[i]?=some v→6≤i→i≠10→cell? m6 ⟨f,1035+i,none⟩=some v:=fun i v hv h1 h2=>F6.cell (tl i v hv (by omega) (by omega) h2) (by simp only; omega)
  have e0:tk (num src) 0 (8 * 0 - 0)=0:=by simp [tk,Nat.mod_one]
  have hin:In D f 0 0 m6:={ r:=F56.cell hM.r (by simp),here:=D.fr hM.here F56 (by rintro i j h ⟨rfl,_⟩; exact hM.apart _ h),off:=hd 2 _ rfl (by decide) (by decide),b:=by rw [e0]; exact hd 3 _ rfl (by decide) (by decide),nb:=hd 4 _ rfl (by decide) (by decide),le:=Nat.le_refl _,few:=by decide,own:=hM.own.fr F56,apart:=hM.apart,lo:=hM.lo,bytes:=hM.bytes,big:=hM.big }
  have hlen:=last32_len d
  have k14:cell? m6 ⟨f,1049,none⟩=some (.slice none 0 0):=tl6 14 _ rfl (by decide) (by decide)
  have k11:cell? m6 ⟨f,1046,none⟩=some (.int .i64 ((0:Nat):Int)):=tl6 11 _ rfl (by decide) (by decide)
  have k17:cell? m6 ⟨f,1052,none⟩=some (.int .i64 ((0:Nat):Int)):=tl6 17 _ rfl (by decide) (by decide)
  have k18:cell? m6 ⟨f,1053,none⟩=some (.int .i64 ((0:Nat):Int)):=tl6 18 _ rfl (by decide) (by decide)
  have k13:cell? m6 ⟨f,1048,none⟩=some .nilIface:=tl6 13 _ rfl (by decide) (by decide)
  have hB:Base D f (m.size+2) m6 0 0 (last32 d) wr wr:=⟨hin,hM.glob.fr F56 (by rintro i j ⟨rfl,_⟩; exact hM.lo),hW,fun j h=>(by have:=hM.dlt _ _ h; omega),by have:=hM.lo; omega,by omega⟩
  have hP:Pend m6 f (m.size+2) (last32 d) wr wr (last32 d).length 0:=.none k14 (by omega)
  have c6:cell? m6 ⟨f,1045,none⟩=some (stepF f_decompressor_nextBlock):=F6.cell c5 (by simp)
  have h07:8 * 0≤0+7:=by omega
  have hmode:ModeAt D f (m.size+2) m6 0 0 (last32 d) .block:=⟨c6,h07,0,0,0,⟨k11,k17,k18⟩,.inl rfl⟩
  constructor
  ·simp only
   exact hB
  ·exact hwr
  ·simp only
   exact hP
  ·simp only
   exact hmode
  ·exact ⟨hr,Frm.begin _ _⟩
  ·exact k13
  ·exact fun h0=>absurd h0 (Nat.lt_irrefl _)
 ·refine ⟨⟨by omega,by omega,by omega,by omega,by omega,by have:=hM.lo; omega,by have:=hM.lo; omega,fun j h=>by have:=hM.dlt _ _ h; omega,fun j h=>by have:=hM.dlt _ _ h; omega⟩,fun i j h=>Nat.lt_of_lt_of_le (hM.dlt i j h) F06.size,?_,?_,fun i hi=>?_,fun i hi=>?_,?_,?_,?_⟩
  ·exact F6.cell (f5.cell (f4.cell ((f3 fun _ _=>False).cell c2 (by simp)) (by simp)) (by simp)) (by simp)
  ·exact F6.cell (f5.cell c4 (by simp)) (by simp)
  ·exact (((((w1 i hi).fr f2).fr (f3 fun _ _=>False)).fr f4).fr f5).fr F6
  ·exact (((w3 i hi).fr f4).fr f5).fr F6
  ·refine (hnew_row (m:=m6) (fun i v hv=>?_) (fun j hj=>(hM.own.fr F06) _ (by omega))).hz
   have hi:i < 515:=by have:=(List.getElem?_eq_some_iff.1 hv).1; rw [hzList_len] at this; exact this
   exact F6.cell (F5.cell (hM.row (5+i) v (by omega) (by rw [dz_h1 hi]; exact hv)) (by simp only; omega)) (by simp only; omega)
  ·refine (hnew_row (m:=m6) (fun i v hv=>?_) (fun j hj=>(hM.own.fr F06) _ (by omega))).hz
   have hi:i < 515:=by have:=(List.getElem?_eq_some_iff.1 hv).1; rw [hzList_len] at this; exact this
   exact F6.cell (F5.cell (hM.row (520+i) v (by omega) (by rw [dz_h2 hi]; exact hv)) (by simp only; omega)) (by simp only; omega)
  ·exact hM.rb.imp fun _ hp=>F6.cell (F5.cell hp (by simp)) (by simp)
theorem new_zero {m:Mem} (S:Nat→Nat→Prop):(∀ i v,dzList[i]?=some v→cell? (m.push (.cells dzList.toArray t_flate_decompressor)) ⟨m.size,i,none⟩=some v)∧OwnF m.size (m.push (.cells dzList.toArray t_flate_decompressor))∧Fr S m (m.push (.cells dzList.toArray t_flate_decompressor)):=
 ⟨fun i v hv=>cell_new (by simpa using hv),fun j hj=>wr_new (by simpa [dzList_len] using hj),Fr.push _⟩
theorem assert_bytes (b:Nat) (K:Value→Prop) (h:K (.tuple #[.iface t_p_bytes_Reader (.pointer (some ⟨b,0,none⟩)),.bool true])):
  PureW PP (Instr.typeAssert (.iface t_p_bytes_Reader (.pointer (some ⟨b,0,none⟩))) t_io_Reader t_flate_Reader true) K:=Eq.mpr (by kernel_rfl) h
theorem makeReader_bytes {f rb:Nat} {m:Mem} (hown:OwnF f m) {R:Value→Mem→Prop} (hk:∀ m',cell? m' ⟨f,0,none⟩=some (.iface t_p_bytes_Reader (.pointer (some ⟨rb,0,none⟩)))→cell? m' ⟨f,1,none⟩=some (.pointer none)→Fr (fun i j=>i=f∧j≤1) m m'→m'.size=m.size→R (.tuple #[]) m'):
  CallM PP f_decompressor_makeReader #[.pointer (some ⟨f,0,none⟩),.iface t_p_bytes_Reader (.pointer (some ⟨rb,0,none⟩))] m R:=by
 refine e_decompressor_makeReader f _ m R (assert_bytes rb _ ⟨_,_,rfl,ifB_t ?_⟩)
 refine StW.at rfl (hown 1 (by decide)) fun m1 c1 f1 s1=>StW.at rfl ((hown.fr f1) 0 (by decide)) fun m2 c2 f2 s2=>?_
 exact hk m2 c2 (f2.cell c1 (by simp)) ((f1.mono fun i j h=>⟨h.1,by omega⟩).trans (f2.mono fun i j h=>⟨h.1,by omega⟩)) (by rw [s2,s1])
def NewOk (E:Errs) (src:List Nat) (D:Rdr E src) (m:Mem) (H0:List Nat) (R:Value→Mem→Prop):Prop:=
 ∀ m' f bh bb cb,m.size≤f→m.size≤bh→m.size≤bb→m.size≤cb→(∀ S,Fr S m m')→(∀ j, ¬ D.S f j)→(∀ Hf e pf,Runs (scOf src) ⟨0,H0,.block⟩ Hf e pf→Live D f bh bb cb Hf e pf H0.length m')→R (.iface t_p_flate_decompressor (.pointer (some ⟨f,0,none⟩))) m'
theorem newReader_bytes {rb db:Nat} {m:Mem} (hlo:4 < rb∧4 < db) (hA:BytesAt src rb db 0 m) (hG:Glob E m) (hdb:db < m.size) (hb:∀ v ∈ src,v < 256) (hbig:src.length < 1152921504606846976) {R:Value→Mem→Prop}
  (hk:NewOk E src (bytesRdr E src rb db hlo) m [] R):CallM PP f_inflate_NewReader #[.iface t_p_bytes_Reader (.pointer (some ⟨rb,0,none⟩))] m R:=by
 have hrb:rb < m.size:=by have:=cell_block hA.i; simpa using this
 refine e_inflate_NewReader _ m R (alloc_W z_decompressor ?_)
 obtain ⟨z1,z2,_⟩:=new_zero (m:=m) fun _ _=>False
 have z3:∀ S,Fr S m (m.push (.cells dzList.toArray t_flate_decompressor)):=fun S=>(new_zero S).2.2
 have s0:(m.push (.cells dzList.toArray t_flate_decompressor)).size=m.size+1:=Array.size_push ..
 show CallM PP f_decompressor_makeReader _ (m.push (.cells dzList.toArray t_flate_decompressor)) _
 generalize m.push (.cells dzList.toArray t_flate_decompressor)=m0 at z1 z2 z3 s0 ⊢
 refine makeReader_bytes z2 fun m1 c1 d1 f1 s1=>⟨rfl,?_⟩
 have hA1:BytesAt src rb db 0 m1:=(hA.fr (z3 fun _ _=>False) (by intros; exact id)).fr f1 (by rintro i j (rfl | rfl) ⟨e,_⟩ <;> omega)
 have hMade:Made (bytesRdr E src rb db hlo) m.size m1:=⟨(hG.fr (z3 fun _ _=>False) (by intro i j h; exact h.elim)).fr f1 (by rintro i j ⟨rfl,_⟩; omega),c1,hA1,fun i v hi hv=>f1.cell (z1 i v hv) (by simp only; omega),z2.fr f1,by omega,by
  rintro i j (rfl | rfl) <;> omega,by rintro j (h | h) <;> omega,hb,hbig,_,d1⟩
 refine new_tail hMade (a:=none) (dl:=0) (dk:=0) (d:=[]) (db:=m.size+1) (dq:=0) ⟨rfl,Nat.le_refl _,fun h=>by omega,fun i hi=>by omega,fun v hv=>by cases hv⟩ (by omega) (fun h=>by omega) (by decide) fun m' bh bb cb h1 h2 h3 hF hL=>?_
 refine hk m' m.size bh bb cb (Nat.le_refl _) (by omega) (by omega) (by omega) (fun S=>?_) hMade.apart hL
 exact ((z3 (fun i _=>i=m.size)).trans ((f1.mono fun i j h=>h.1).trans hF)).old fun i j h1 h2=>by omega
end
end Go.M
