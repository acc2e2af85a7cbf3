/- The decompressor as a plain machine: bits, a history, a mode. No program in sight. What memory holds of the machine's state, between the steps of the decompressor. Loops that take in bytes until there are bits enough; bits taken off. huffmanBlock: from label to label. Bits turned around: the table of package math/bits. huffmanBlock: lengths, symbols, copies, and the whole. huffmanBlock: copies, and the whole. copyData and dataBlock: stored blocks. dataBlock. -/
import Derived.Test.YtjphakdpokombaaGreatDoorPki
import Derived.Test.YtjphakdpokombaaGreatDoorPkd
namespace Go.M
inductive Er | fin | cut | bad
 deriving DecidableEq
structure Tb where
 lit:Nat→Nat
 mn:Nat
 dist:Option ((Nat→Nat)×Nat)
inductive Md
 | block
 | stored (fin:Bool) (n:Nat)
 | coded (fin:Bool) (T:Tb)
 | copy (fin:Bool) (T:Tb) (d n:Nat)
structure St where
 p:Nat
 H:List Nat
 md:Md
inductive Nx
 | go (s:St)
 | stop (H:List Nat) (e:Er) (p:Nat)
inductive Sy
 | ok (s p:Nat)
 | cut
 | bad
inductive Hd
 | ok (T:Tb) (p:Nat)
 | cut
 | bad
structure Sc where
 N:Nat
 tot:Nat
 fx:Tb
 hd:Nat→Hd
def sym (c:Sc) (V:Nat→Nat) (mn p:Nat):Sy:=
 if c.tot < p+max mn (V (c.N / 2 ^ p) % 16) then .cut
 else if V (c.N / 2 ^ p) % 16=0 then .bad
 else .ok (V (c.N / 2 ^ p) / 16) (p+V (c.N / 2 ^ p) % 16)
def lenOf (s:Nat):Nat×Nat:=
 if s < 265 then (s - 254,0)
 else if s < 269 then (s * 2 - 519,1)
 else if s < 273 then (s * 4 - 1057,2)
 else if s < 277 then (s * 8 - 2149,3)
 else if s < 281 then (s * 16 - 4365,4)
 else if s < 285 then (s * 32 - 8861,5)
 else (258,0)
def rev5 (x:Nat):Nat:=x % 2 * 16+x / 2 % 2 * 8+x / 4 % 2 * 4+x / 8 % 2 * 2+x / 16 % 2
def gfar (_c:Sc) (H:List Nat) (fin:Bool) (T:Tb) (len d p:Nat):Nx:=
 if min 32768 H.length < d then .stop H .bad p else .go ⟨p,H,.copy fin T d len⟩
def gdist (c:Sc) (H:List Nat) (fin:Bool) (T:Tb) (len k p:Nat):Nx:=
 if k < 4 then gfar c H fin T len (k+1) p
 else if k < 30 then
  if c.tot < p+(k - 2) / 2 then .stop H .cut p
  else gfar c H fin T len (2 ^ ((k - 2) / 2+1)+1+(k % 2 * 2 ^ ((k - 2) / 2)+tk c.N p ((k - 2) / 2))) (p+(k - 2) / 2)
 else .stop H .bad p
def glen (c:Sc) (H:List Nat) (fin:Bool) (T:Tb) (len p:Nat):Nx:=
 match T.dist with
 | none=>if c.tot < p+5 then .stop H .cut p else gdist c H fin T len (rev5 (tk c.N p 5)) (p+5)
 | some (V,mn)=>
  match sym c V mn p with
  | .cut=>.stop H .cut p
  | .bad=>.stop H .bad p
  | .ok k p'=>gdist c H fin T len k p'
def gsym (c:Sc) (H:List Nat) (fin:Bool) (T:Tb) (s p:Nat):Nx:=
 if s < 256 then .go ⟨p,H++[s],.coded fin T⟩
 else if s=256 then (match fin with | true=>.stop H .fin p | false=>.go ⟨p,H,.block⟩)
 else if 286≤s then .stop H .bad p
 else if c.tot < p+(lenOf s).2 then .stop H .cut p
 else glen c H fin T ((lenOf s).1+tk c.N p (lenOf s).2) (p+(lenOf s).2)
def gcoded (c:Sc) (H:List Nat) (fin:Bool) (T:Tb) (p:Nat):Nx:=
 match sym c T.lit T.mn p with
 | .cut=>.stop H .cut p
 | .bad=>.stop H .bad p
 | .ok s p'=>gsym c H fin T s p'
def gblock (c:Sc) (H:List Nat) (p:Nat):Nx:=
 if c.tot < p+3 then .stop H .cut p
 else if tk c.N (p+1) 2=0 then
  if c.tot < 8 * ((p+10) / 8)+32 then .stop H .cut p
  else if tk c.N (8 * ((p+10) / 8)) 16+tk c.N (8 * ((p+10) / 8)+16) 16≠65535 then .stop H .bad p
  else .go ⟨8 * ((p+10) / 8)+32,H,.stored (tk c.N p 1 == 1) (tk c.N (8 * ((p+10) / 8)) 16)⟩
 else if tk c.N (p+1) 2=1 then .go ⟨p+3,H,.coded (tk c.N p 1 == 1) c.fx⟩
 else if tk c.N (p+1) 2=2 then
  match c.hd (p+3) with
  | .cut=>.stop H .cut p
  | .bad=>.stop H .bad p
  | .ok T p'=>.go ⟨p',H,.coded (tk c.N p 1 == 1) T⟩
 else .stop H .bad p
def gstep (c:Sc) (s:St):Nx:=
 match s.md with
 | .block=>gblock c s.H s.p
 | .stored fin 0=>(match fin with | true=>.stop s.H .fin s.p | false=>.go ⟨s.p,s.H,.block⟩)
 | .stored fin (n+1)=>if c.tot < s.p+8 then .stop s.H .cut s.p else .go ⟨s.p+8,s.H++[tk c.N s.p 8],.stored fin n⟩
 | .coded fin T=>gcoded c s.H fin T s.p
 | .copy fin T _ 0=>.go ⟨s.p,s.H,.coded fin T⟩
 | .copy fin T d (n+1)=>.go ⟨s.p,lz s.H d 1,.copy fin T d n⟩
inductive Runs (c:Sc):St→List Nat→Er→Nat→Prop
 | stop {s:St} {H:List Nat} {e:Er} {p:Nat}:gstep c s=.stop H e p→Runs c s H e p
 | step {s s':St} {H:List Nat} {e:Er} {p:Nat}:gstep c s=.go s'→Runs c s' H e p→Runs c s H e p
theorem Runs.go {c:Sc} {s s':St} {H:List Nat} {e:Er} {p:Nat} (h:Runs c s H e p) (hs:gstep c s=.go s'):Runs c s' H e p:=by
 cases h with
 | stop h1=>rw [hs] at h1; cases h1
 | step h1 h2=>rw [hs] at h1; cases h1; exact h2
theorem Runs.end {c:Sc} {s:St} {H H':List Nat} {e e':Er} {p p':Nat} (h:Runs c s H e p) (hs:gstep c s=.stop H' e' p'):H=H'∧e=e'∧p=p':=by
 cases h with
 | stop h1=>rw [hs] at h1; cases h1; exact ⟨rfl,rfl,rfl⟩
 | step h1 h2=>rw [hs] at h1; cases h1
theorem Runs.copies {c:Sc} {p:Nat} {fin:Bool} {T:Tb} {d:Nat} {Hf:List Nat} {e:Er} {pf:Nat}:∀ {k:Nat} {H:List Nat} {n:Nat},Runs c ⟨p,H,.copy fin T d (n+k)⟩ Hf e pf→Runs c ⟨p,lz H d k,.copy fin T d n⟩ Hf e pf
 | 0,H,n,h=>h
 | k+1,H,n,h=>by
  have h1:=h.go (s':=⟨p,lz H d 1,.copy fin T d (n+k)⟩) rfl
  have:=Runs.copies (k:=k) h1
  rw [← lz_add,Nat.add_comm 1 k] at this
  exact this
theorem Runs.stored {c:Sc} {fin:Bool} {Hf:List Nat} {e:Er} {pf:Nat}:∀ {k p:Nat} {H:List Nat} {n:Nat},p+8 * k≤c.tot→Runs c ⟨p,H,.stored fin (n+k)⟩ Hf e pf→
  Runs c ⟨p+8 * k,H++(List.range k).map (fun i=>tk c.N (p+8 * i) 8),.stored fin n⟩ Hf e pf
 | 0,p,H,n,_,h=>by simpa using h
 | k+1,p,H,n,hp,h=>by
  have h1:=h.go (s':=⟨p+8,H++[tk c.N p 8],.stored fin (n+k)⟩) (by show (if _ then _ else _)=_; exact if_neg (by simp only; omega))
  have:=Runs.stored (k:=k) (by omega) h1
  rw [show p+8+8 * k=p+8 * (k+1) from by omega,List.append_assoc] at this
  rw [List.range_succ_eq_map]
  simp only [List.map_cons,List.map_map,Nat.mul_zero,Nat.add_zero]
  have e1:(fun i=>tk c.N (p+8+8 * i) 8)=(fun i=>tk c.N (p+8 * i) 8) ∘ Nat.succ:=by
   funext i; simp only [Function.comp]; congr 1; omega
  rw [e1] at this
  exact this
inductive GTo (c:Sc):St→St→Prop
 | refl {s:St}:GTo c s s
 | step {s s' s'':St}:GTo c s s'→gstep c s'=.go s''→GTo c s s''
def Frm (c:Sc) (s:St):Prop:=∃ d,GTo c ⟨0,d,.block⟩ s∨∃ fin T k,s.md=.copy fin T k 0∧GTo c ⟨0,d,.block⟩ ⟨s.p,s.H,.coded fin T⟩
theorem Frm.begin (c:Sc) (d:List Nat):Frm c ⟨0,d,.block⟩:=⟨d,.inl .refl⟩
theorem Frm.go {c:Sc} {s s':St} (h:Frm c s) (hs:gstep c s=.go s'):Frm c s':=by
 obtain ⟨d,h | ⟨fin,T,k,h1,h2⟩⟩:=h
 ·exact ⟨d,.inl (h.step hs)⟩
 ·obtain ⟨p,H,md⟩:=s
  simp only at h1 h2
  subst h1
  have hs:Nx.go _=Nx.go s':=hs
  simp only [Nx.go.injEq] at hs
  subst hs
  exact ⟨d,.inl h2⟩
theorem Frm.zero {c:Sc} {p:Nat} {H:List Nat} {fin:Bool} {T:Tb} (h:Frm c ⟨p,H,.coded fin T⟩) (k:Nat):Frm c ⟨p,H,.copy fin T k 0⟩:=by
 obtain ⟨d,h | ⟨_,_,_,h1,_⟩⟩:=h
 ·exact ⟨d,.inr ⟨fin,T,k,rfl,h⟩⟩
 ·cases h1
def Ends (c:Sc):Prop:=∃ s,Frm c s∧s.md=.block∧0 < s.p
structure RunsB (c:Sc) (s:St) (H:List Nat) (e:Er) (p:Nat):Prop where
 run:Runs c s H e p
 frm:Frm c s
theorem RunsB.go {c:Sc} {s s':St} {H:List Nat} {e:Er} {p:Nat} (h:RunsB c s H e p) (hs:gstep c s=.go s'):RunsB c s' H e p:=
 ⟨h.run.go hs,h.frm.go hs⟩
theorem RunsB.end {c:Sc} {s:St} {H H':List Nat} {e e':Er} {p p':Nat} (h:RunsB c s H e p) (hs:gstep c s=.stop H' e' p'):H=H'∧e=e'∧p=p':=h.run.end hs
theorem RunsB.copies {c:Sc} {p:Nat} {fin:Bool} {T:Tb} {d:Nat} {Hf:List Nat} {e:Er} {pf:Nat}:∀ {k:Nat} {H:List Nat} {n:Nat},RunsB c ⟨p,H,.copy fin T d (n+k)⟩ Hf e pf→RunsB c ⟨p,lz H d k,.copy fin T d n⟩ Hf e pf
 | 0,H,n,h=>h
 | k+1,H,n,h=>by
  have h1:=h.go (s':=⟨p,lz H d 1,.copy fin T d (n+k)⟩) rfl
  have:=RunsB.copies (k:=k) h1
  rw [← lz_add,Nat.add_comm 1 k] at this
  exact this
theorem RunsB.stored {c:Sc} {fin:Bool} {Hf:List Nat} {e:Er} {pf:Nat}:∀ {k p:Nat} {H:List Nat} {n:Nat},p+8 * k≤c.tot→RunsB c ⟨p,H,.stored fin (n+k)⟩ Hf e pf→
  RunsB c ⟨p+8 * k,H++(List.range k).map (fun i=>tk c.N (p+8 * i) 8),.stored fin n⟩ Hf e pf
 | 0,p,H,n,_,h=>by simpa using h
 | k+1,p,H,n,hp,h=>by
  have h1:=h.go (s':=⟨p+8,H++[tk c.N p 8],.stored fin (n+k)⟩) (by show (if _ then _ else _)=_; exact if_neg (by simp only; omega))
  have:=RunsB.stored (k:=k) (by omega) h1
  rw [show p+8+8 * k=p+8 * (k+1) from by omega,List.append_assoc] at this
  rw [List.range_succ_eq_map]
  simp only [List.map_cons,List.map_map,Nat.mul_zero,Nat.add_zero]
  have e1:(fun i=>tk c.N (p+8+8 * i) 8)=(fun i=>tk c.N (p+8 * i) 8) ∘ Nat.succ:=by
   funext i; simp only [Function.comp]; congr 1; omega
  rw [e1] at this
  exact this
end Go.M

namespace Go.M
open Go
set_option maxRecDepth 100000
def IsErr (E:Errs):Er→Value→Prop
 | .fin,v=>v=E.eof
 | .cut,v=>v=E.cut
 | .bad,v=>∃ n,v=.iface t_flate_CorruptInputError (.int .i64 n)
theorem IsErr.ifc {E:Errs} {e:Er} {v:Value} (h:IsErr E e v):isIfc v=true∧isNil v=false:=by
 cases e
 ·subst h; exact ⟨rfl,rfl⟩
 ·subst h; exact ⟨rfl,rfl⟩
 ·obtain ⟨n,rfl⟩:=h; exact ⟨rfl,rfl⟩
section
variable {E:Errs} {src:List Nat}
def Mv (D:Rdr E src) (f bh:Nat):Nat→Nat→Prop:=fun i j=>D.S i j∨i=bh∨(i=f∧(j≤4∧j≠1∨(1037≤j∧j≠1047∧j≠1050∧j≠1051)))
structure Base (D:Rdr E src) (f bh:Nat) (m:Mem) (p pos:Nat) (H:List Nat) (wr rd:Nat):Prop where
 inn:In D f p pos m
 glob:Glob E m
 win:Win m f bh H wr rd
 nbh:∀ j, ¬ D.S bh j
 lobh:4 < bh
 ne:bh≠f
variable {D:Rdr E src} {f bh:Nat} {m m':Mem} {p pos:Nat} {H:List Nat} {wr rd:Nat}
theorem Mv.lo (h:Base D f bh m p pos H wr rd):∀ i j,Mv D f bh i j→4 < i:=by
 rintro i j (hi | rfl | ⟨rfl,_⟩)
 ·exact D.own _ _ hi
 ·exact h.lobh
 ·exact h.inn.lo
theorem Base.apartI (h:Base D f bh m p pos H wr rd):∀ i j,DictS f bh i j→ ¬ InS D f i j:=by
 rintro i j (⟨rfl,h1,h2⟩ | rfl) (h3 | ⟨e,h3⟩)
 ·exact h.inn.apart _ h3
 ·omega
 ·exact h.nbh _ h3
 ·exact h.ne e
def CtlS (f:Nat):Nat→Nat→Prop:=fun i j=>i=f∧1041≤j
theorem Base.ctl (h:Base D f bh m p pos H wr rd) (hf:Fr (CtlS f) m m'):Base D f bh m' p pos H wr rd where
 inn:=h.inn.fr hf (by
  rintro i j (h1 | ⟨rfl,h1⟩) ⟨e,h2⟩
  ·subst e; exact h.inn.apart _ h1
  ·omega)
 glob:=h.glob.fr hf (by rintro i j ⟨rfl,_⟩; exact h.inn.lo)
 win:=h.win.fr hf (by
  rintro i j (⟨rfl,h1,h2⟩ | rfl) ⟨e,h3⟩
  ·omega
  ·exact h.ne e)
 nbh:=h.nbh
 lobh:=h.lobh
 ne:=h.ne
theorem Base.moved (h:Base D f bh m p pos H wr rd) {p' pos':Nat} (hI:In D f p' pos' m') (hf:Fr (fun i j=>InS D f i j∨(i=f∧j=1048)) m m'):Base D f bh m' p' pos' H wr rd where
 inn:=hI
 glob:=h.glob.fr hf (by
  rintro i j (h1 | ⟨rfl,_⟩)
  ·exact InS.lo h.inn.lo _ _ h1
  ·exact h.inn.lo)
 win:=h.win.fr hf (by
  rintro i j h1 (h2 | ⟨rfl,rfl⟩)
  ·exact h.apartI _ _ h1 h2
  ·rcases h1 with ⟨_,h3,h4⟩ | e
   ·omega
   ·exact h.ne e.symm)
 nbh:=h.nbh
 lobh:=h.lobh
 ne:=h.ne
theorem Base.wrote (h:Base D f bh m p pos H wr rd) {H':List Nat} {wr' rd':Nat} (hW:Win m' f bh H' wr' rd') (hf:Fr (DictS f bh) m m'):Base D f bh m' p pos H' wr' rd' where
 inn:=h.inn.fr hf fun i j h1 h2=>h.apartI i j h2 h1
 glob:=h.glob.fr hf (by
  rintro i j (⟨rfl,_⟩ | rfl)
  ·exact h.inn.lo
  ·exact h.lobh)
 win:=hW
 nbh:=h.nbh
 lobh:=h.lobh
 ne:=h.ne
theorem mv_in (i j:Nat) (h:InS D f i j∨(i=f∧j=1048)):Mv D f bh i j:=by
 rcases h with (h | ⟨rfl,h⟩) | ⟨rfl,rfl⟩
 ·exact .inl h
 ·exact .inr (.inr ⟨rfl,.inl (by omega)⟩)
 ·exact .inr (.inr ⟨rfl,.inr (by omega)⟩)
theorem mv_dict (i j:Nat) (h:DictS f bh i j):Mv D f bh i j:=by
 rcases h with ⟨rfl,h⟩ | rfl
 ·exact .inr (.inr ⟨rfl,.inr (by omega)⟩)
 ·exact .inr (.inl rfl)
theorem mv_f {j:Nat} (h:1037≤j) (h1:j≠1047) (h2:j≠1050) (h3:j≠1051) (i k:Nat) (hi:i=f∧k=j):Mv D f bh i k:=by
 obtain ⟨rfl,rfl⟩:=hi
 exact .inr (.inr ⟨rfl,.inr ⟨h,h1,h2,h3⟩⟩)
theorem ctl_f {j:Nat} (h:1041≤j) (i k:Nat) (hi:i=f∧k=j):CtlS f i k:=by
 obtain ⟨rfl,rfl⟩:=hi; exact ⟨rfl,h⟩
theorem Base.stays (h:Base D f bh m p pos H wr rd) (hf:Fr (Mv D f bh) m m') {j:Nat} {v:Value} (hc:cell? m ⟨f,j,none⟩=some v) (hj:j=1047∨j=1050∨j=1051):cell? m' ⟨f,j,none⟩=some v:=by
 refine hf.cell hc ?_
 rintro (h1 | h1 | ⟨_,h1⟩)
 ·exact h.inn.apart _ h1
 ·exact h.ne h1.symm
 ·simp only at h1; omega
structure OneTab (D:Rdr E src) (f bh:Nat) (m:Mem) (j:Nat) (V:Nat→Nat) (mn:Nat):Prop where
 ex:∃ b o B,cell? m ⟨f,j,none⟩=some (.pointer (some ⟨b,o,none⟩))∧TabAt m b o B mn V∧(∀ i j,TabS b o B i j→ ¬ Mv D f bh i j)
 ok:CodeOk mn V
structure TbAt (D:Rdr E src) (f bh:Nat) (m:Mem) (T:Tb):Prop where
 lit:OneTab D f bh m 1050 T.lit T.mn
 eob:∀ x,T.lit x / 16=256→T.lit x % 16≠0→T.mn≤T.lit x % 16
 dist:match T.dist with
  | none=>cell? m ⟨f,1051,none⟩=some (.pointer none)
  | some (V,mn)=>OneTab D f bh m 1051 V mn∧∀ x,V x % 16≠0→mn≤V x % 16
theorem OneTab.fr (h:Base D f bh m p pos H wr rd) {j:Nat} {V:Nat→Nat} {mn:Nat} (hT:OneTab D f bh m j V mn) (hj:j=1047∨j=1050∨j=1051) (hf:Fr (Mv D f bh) m m'):OneTab D f bh m' j V mn:=by
 obtain ⟨⟨b,o,B,h1,h2,h3⟩,h4⟩:=hT
 exact ⟨⟨b,o,B,h.stays hf h1 hj,h2.fr hf h3,h3⟩,h4⟩
theorem TbAt.fr (h:Base D f bh m p pos H wr rd) {T:Tb} (hT:TbAt D f bh m T) (hf:Fr (Mv D f bh) m m'):TbAt D f bh m' T:=by
 obtain ⟨h1,h2,h3⟩:=hT
 refine ⟨h1.fr h (.inr (.inl rfl)) hf,h2,?_⟩
 cases hd:T.dist with
 | none=>rw [hd] at h3; exact h.stays hf h3 (.inr (.inr rfl))
 | some q=>rw [hd] at h3; exact ⟨OneTab.fr h h3.1 (.inr (.inr rfl)) hf,h3.2⟩
structure Pend (m:Mem) (f bh:Nat) (H:List Nat) (wr rd Dl l:Nat):Prop where
 ex:∃ a k,cell? m ⟨f,1049,none⟩=some (.slice a l k)∧l≤k∧
  (0 < l→∃ o,a=some ⟨bh,o,none⟩∧∀ i,i < l→o+i < 32768∧cell? m ⟨bh,o+i,none⟩=some (.int .u8 (H.getD (Dl+i) 0:Nat)))
 del:Dl+l+(wr - rd)=H.length
theorem Pend.none {Dl:Nat} {a:Option Addr} {k:Nat} (hc:cell? m ⟨f,1049,none⟩=some (.slice a 0 k)) (hd:Dl+(wr - rd)=H.length):Pend m f bh H wr rd Dl 0:=
 ⟨⟨a,k,hc,Nat.zero_le _,fun h=>absurd h (by omega)⟩,by omega⟩
theorem Pend.fr {Dl l:Nat} (h:Pend m f bh H wr rd Dl l) {S:Nat→Nat→Prop} (hf:Fr S m m') (h1: ¬ S f 1049) (h2:∀ j, ¬ S bh j):Pend m' f bh H wr rd Dl l:=by
 obtain ⟨⟨a,k,hc,hk,hd⟩,hl⟩:=h
 refine ⟨⟨a,k,hf.cell hc h1,hk,fun h0=>?_⟩,hl⟩
 obtain ⟨o,e,h3⟩:=hd h0
 exact ⟨o,e,fun i hi=>⟨(h3 i hi).1,hf.cell (h3 i hi).2 (h2 _)⟩⟩
def Ctl (m:Mem) (f:Nat) (ss cl cd:Nat):Prop:=
 cell? m ⟨f,1046,none⟩=some (.int .i64 (ss:Int))∧cell? m ⟨f,1052,none⟩=some (.int .i64 (cl:Int))∧cell? m ⟨f,1053,none⟩=some (.int .i64 (cd:Int))
theorem Ctl.fr {ss cl cd:Nat} (h:Ctl m f ss cl cd) {S:Nat→Nat→Prop} (hf:Fr S m m') (h1: ¬ S f 1046) (h2: ¬ S f 1052) (h3: ¬ S f 1053):Ctl m' f ss cl cd:=
 ⟨hf.cell h.1 h1,hf.cell h.2.1 h2,hf.cell h.2.2 h3⟩
def stepF (g:FuncId):Value:=.func (.func g) #[] #[]
def ModeAt (D:Rdr E src) (f bh:Nat) (m:Mem) (p pos:Nat) (H:List Nat):Md→Prop
 | .block=>cell? m ⟨f,1045,none⟩=some (stepF f_decompressor_nextBlock)∧8 * pos≤p+7∧∃ ss cl cd,Ctl m f ss cl cd∧(ss=0∨ss=1∧cl=0∧0 < cd∧cd≤32768)
 | .stored fin n=>cell? m ⟨f,1045,none⟩=some (stepF f_decompressor_copyData)∧cell? m ⟨f,1047,none⟩=some (.bool fin)∧p=8 * pos∧n < 65536∧∃ ss cd,Ctl m f ss n cd∧(ss=0∨ss=1∧0 < cd∧cd≤32768)
 | .coded fin T=>cell? m ⟨f,1045,none⟩=some (stepF f_decompressor_huffmanBlock)∧cell? m ⟨f,1047,none⟩=some (.bool fin)∧TbAt D f bh m T∧8 * pos≤p+T.mn+7∧∃ cl cd,Ctl m f 0 cl cd
 | .copy fin T d n=>cell? m ⟨f,1045,none⟩=some (stepF f_decompressor_huffmanBlock)∧cell? m ⟨f,1047,none⟩=some (.bool fin)∧TbAt D f bh m T∧8 * pos≤p+T.mn+7∧
  Ctl m f 1 n d∧0 < d∧d≤32768∧(n=0∨d≤H.length)∧n≤258
structure GoOn (D:Rdr E src) (f bh:Nat) (c:Sc) (Hf:List Nat) (e:Er) (pf Dl Bd:Nat) (m:Mem) (s:St) (pos wr rd l:Nat):Prop where
 base:Base D f bh m s.p pos s.H wr rd
 room:wr < 32768
 pend:Pend m f bh s.H wr rd Dl l
 mode:ModeAt D f bh m s.p pos s.H s.md
 runs:RunsB c s Hf e pf
 err:cell? m ⟨f,1048,none⟩=some .nilIface
 prog:0 < l∨s.md=.block∧2 * (c.tot - s.p) < Bd
 full:0 < l→32768≤s.H.length∨Ends c
structure Ended (D:Rdr E src) (f bh:Nat) (Hf:List Nat) (e:Er) (pf Dl:Nat) (m:Mem) (wr rd l:Nat):Prop where
 glob:Glob E m
 win:Win m f bh Hf wr rd
 pend:Pend m f bh Hf wr rd Dl l
 own:OwnF f m
 err:∃ v,cell? m ⟨f,1048,none⟩=some v∧IsErr E e v
 left:e=.fin→D.At ((pf+7) / 8) m
 flat:l=0∨wr=rd
 nil:src=[]→D.At 0 m
def Back (D:Rdr E src) (f bh:Nat) (c:Sc) (Hf:List Nat) (e:Er) (pf Dl Bd:Nat) (m:Mem):Prop:=
 (∃ s pos wr rd l,GoOn D f bh c Hf e pf Dl Bd m s pos wr rd l)∨(∃ wr rd l,Ended D f bh Hf e pf Dl m wr rd l)
theorem nil_at {pos:Nat} (h:D.At pos m) (h0:src=[]):D.At 0 m:=by
 have:=D.le h
 subst h0
 have:pos=0:=by simpa using this
 rw [← this]; exact h
theorem Base.fails (h:Base D f bh m p pos H wr rd) {Dl:Nat} {v:Value} {e:Er} {pf:Nat} {a:Option Addr} {k:Nat} (ht:cell? m ⟨f,1049,none⟩=some (.slice a 0 k)) (hd:Dl+(wr - rd)=H.length)
  (hv:IsErr E e v) (he:e≠.fin) {K:Mem→Prop} (hk:∀ m',Ended D f bh H e pf Dl m' wr rd 0→Fr (Mv D f bh) m m'→K m'):StW m ⟨f,1048,none⟩ v K:=by
 have hc:isCell v=true:=by
  cases e
  ·subst hv; rfl
  ·subst hv; rfl
  ·obtain ⟨n,rfl⟩:=hv; rfl
 refine StW.at hc (h.inn.own 1048 (by decide)) fun m' hc hf _=>?_
 have hB:=h.ctl (hf.mono (ctl_f (by decide)))
 exact hk m' ⟨hB.glob,hB.win,.none (hf.cell ht (by simp)) hd,hB.inn.own,⟨v,hc,hv⟩,fun h=>absurd h he,.inl rfl,fun h=>nil_at hB.inn.here h⟩ (hf.mono (mv_f (by decide) (by decide) (by decide) (by decide)))
theorem fails0 {q:Nat} (h:Base D f bh m p pos H wr rd) (h0:In0 D f q m') (hf:Fr (fun i j=>InS D f i j∨(i=f∧j=1048)) m m') {Dl:Nat} {v:Value} {e:Er} {pf:Nat} {a:Option Addr} {k:Nat} (ht:cell? m ⟨f,1049,none⟩=some (.slice a 0 k))
  (hd:Dl+(wr - rd)=H.length) (hv:IsErr E e v) (he:e≠.fin) {K:Mem→Prop} (hk:∀ m',Ended D f bh H e pf Dl m' wr rd 0→Fr (Mv D f bh) m m'→K m'):StW m' ⟨f,1048,none⟩ v K:=by
 have hc:isCell v=true:=by
  cases e
  ·subst hv; rfl
  ·subst hv; rfl
  ·obtain ⟨n,rfl⟩:=hv; rfl
 refine StW.at hc (h0.own 1048 (by decide)) fun m'' hc hf' _=>?_
 have F:Fr (fun i j=>InS D f i j∨(i=f∧j=1048)) m m'':=hf.trans (hf'.mono fun i j h=>.inr h)
 refine hk m'' ⟨?_,?_,.none (F.cell ht ?_) hd,h0.own.fr hf',⟨v,hc,hv⟩,fun h=>absurd h he,.inl rfl,fun h=>nil_at (D.fr h0.here hf' (by rintro i j h1 ⟨rfl,_⟩; exact h0.apart _ h1)) h⟩ (F.mono mv_in)
 ·refine h.glob.fr F ?_
  rintro i j (h1 | ⟨rfl,_⟩)
  ·exact InS.lo h.inn.lo _ _ h1
  ·exact h.inn.lo
 ·refine h.win.fr F ?_
  rintro i j h1 (h2 | ⟨rfl,rfl⟩)
  ·exact h.apartI _ _ h1 h2
  ·rcases h1 with ⟨_,h3,h4⟩ | e
   ·omega
   ·exact h.ne e.symm
 ·rintro ((h1 | ⟨_,h1⟩) | ⟨_,h1⟩)
  ·exact h.inn.apart _ h1
  ·simp at h1
  ·simp at h1
theorem Base.flush (h:Base D f bh m p pos H wr rd) {Dl:Nat} (hd:Dl+(wr - rd)=H.length) {R:Mem→Prop}
  (hk:∀ m' wr',Base D f bh m' p pos H wr' wr'→wr' < 32768→Pend m' f bh H wr' wr' Dl (wr - rd)→Fr (fun i j=>i=f∧(1037≤j∧j≤1040∨j=1049)) m m'→R m'):
  CallM PP f_dictDecoder_readFlush #[.pointer (some ⟨f,1037,none⟩)] m fun v m1=>∃ (a:Option Addr),∃ (l:Nat),∃ (k:Nat),v=.slice a l k∧StW m1 ⟨f,1049,none⟩ (.slice a l k) fun m2=>R m2:=by
 refine win_readFlush h.win fun m1 o k wr' rd' hW he hlt hf hkl hdat=>?_
 subst he
 have hB:=h.wrote hW (hf.mono fun i j h=>.inl h)
 refine ⟨_,_,_,rfl,StW.at rfl (hB.inn.own 1049 (by decide)) fun m2 hc2 hf2 _=>?_⟩
 refine hk m2 wr' (hB.ctl (hf2.mono (ctl_f (by decide)))) hlt ⟨⟨_,_,hc2,hkl,fun _=>⟨o,rfl,fun i hi=>⟨(hdat i hi).1,?_⟩⟩⟩,by omega⟩ ((hf.mono ?_).trans (hf2.mono ?_))
 ·have:=hf2.cell (hdat i hi).2 (by rintro ⟨e,_⟩; exact h.ne e)
  rw [show H.length - (wr - rd)+i=Dl+i from by omega] at this
  exact this
 ·rintro i j ⟨e,h1⟩; exact ⟨e,.inl h1⟩
 ·rintro i j ⟨e,h1⟩; exact ⟨e,.inr h1⟩
theorem flush_mv (i j:Nat) (h:i=f∧(1037≤j∧j≤1040∨j=1049)):Mv D f bh i j:=by
 obtain ⟨rfl,h⟩:=h
 exact .inr (.inr ⟨rfl,.inr (by omega)⟩)
theorem finishBlock_spec (h:Base D f bh m p pos H wr rd) {Dl l:Nat} (hP:Pend m f bh H wr rd Dl l) (hl:l=0∨wr=rd) {fin:Bool} (hfin:cell? m ⟨f,1047,none⟩=some (.bool fin)) (hroom:wr < 32768∨True) {R:Value→Mem→Prop}
  (hgo:fin=false→∀ m',cell? m' ⟨f,1045,none⟩=some (stepF f_decompressor_nextBlock)→Fr (fun i j=>i=f∧j=1045) m m'→R (.tuple #[]) m')
  (hend:fin=true→∀ m' wr' rd' l',Base D f bh m' p pos H wr' rd'→Pend m' f bh H wr' rd' Dl l'→cell? m' ⟨f,1048,none⟩=some E.eof→Fr (Mv D f bh) m m'→wr'=rd'→R (.tuple #[]) m'):
  CallM PP f_decompressor_finishBlock #[.pointer (some ⟨f,0,none⟩)] m R:=by
 have last:∀ m1,Base D f bh m1 p pos H wr rd∨True→OwnF f m1→∀ {R':Value→Mem→Prop},(∀ m',cell? m' ⟨f,1045,none⟩=some (stepF f_decompressor_nextBlock)→Fr (fun i j=>i=f∧j=1045) m1 m'→R' (.tuple #[]) m')→
   WPS PP 25 c_decompressor_finishBlock_r (retK PP r_decompressor_finishBlock R') [(0,.pointer (some ⟨f,0,none⟩))] m1:=by
  intro m1 _ ho R' hk
  refine WPS.piece k_decompressor_finishBlock_r rfl (p_decompressor_finishBlock_r f m1 _ (StW.at rfl (ho 1045 (by decide)) fun m2 hc hf _=>?_))
  exact hk m2 hc hf
 refine e_decompressor_finishBlock f m R ⟨fin,hfin,ifB_of (fun ht=>?_) (fun ht=>?_)⟩
 ·subst ht
  refine win_availRead h.win ⟨_,rfl,ifB_of (fun ht=>?_) (fun ht=>?_)⟩
  ·have hpos:0 < wr - rd:=by have:=of_decide_eq_true ht; omega
   have hl0:l=0:=by omega
   have hdel:=hP.del
   refine h.flush (Dl:=Dl) (by omega) fun m1 wr' hB _ hP1 hf1=>?_
   refine WPS.piece k_decompressor_finishBlock_lrlr rfl (p_decompressor_finishBlock_lrlr f m1 _ ⟨_,hB.glob.eof,StW.at rfl (hB.inn.own 1048 (by decide)) fun m2 hc2 hf2 _=>?_⟩)
   have hB2:=hB.ctl (hf2.mono (ctl_f (by decide)))
   refine last m2 (.inr trivial) hB2.inn.own fun m3 hc3 hf3=>?_
   have hB3:=hB2.ctl (hf3.mono (ctl_f (by decide)))
   refine hend rfl m3 wr' wr' _ hB3 ((hP1.fr hf2 (by simp) (by rintro j ⟨e,_⟩; exact h.ne e)).fr hf3 (by simp) (by rintro j ⟨e,_⟩; exact h.ne e)) (hf3.cell hc2 (by simp))
    ((hf1.mono flush_mv).trans ((hf2.mono (mv_f (by decide) (by decide) (by decide) (by decide))).trans (hf3.mono (mv_f (by decide) (by decide) (by decide) (by decide))))) rfl
  ·refine WPS.piece k_decompressor_finishBlock_lrlr rfl (p_decompressor_finishBlock_lrlr f m _ ⟨_,h.glob.eof,StW.at rfl (h.inn.own 1048 (by decide)) fun m2 hc2 hf2 _=>?_⟩)
   have hB2:=h.ctl (hf2.mono (ctl_f (by decide)))
   refine last m2 (.inr trivial) hB2.inn.own fun m3 hc3 hf3=>?_
   have hB3:=hB2.ctl (hf3.mono (ctl_f (by decide)))
   refine hend rfl m3 wr rd _ hB3 ((hP.fr hf2 (by simp) (by rintro j ⟨e,_⟩; exact h.ne e)).fr hf3 (by simp) (by rintro j ⟨e,_⟩; exact h.ne e)) (hf3.cell hc2 (by simp))
    ((hf2.mono (mv_f (by decide) (by decide) (by decide) (by decide))).trans (hf3.mono (mv_f (by decide) (by decide) (by decide) (by decide)))) (by
     have h1:=of_decide_eq_false ht
     have h2:=h.win.rd
     omega)
 ·exact last m (.inl h) h.inn.own fun m' hc hf=>hgo ht m' hc hf
end
end Go.M

namespace Go.M
open Go
set_option maxRecDepth 100000
section
variable {E:Errs} {src:List Nat}
theorem needLoop {D:Rdr E src} {f p pos need n id:Nat} {L₀:List Nat} {cb:Code} {K:Kont} {m:Mem} (SL:List Nat) (env:Env) (rn:Value→Env) (Er:Kont→Value→Mem→Prop)
  (body:∀ (K:Kont) (m:Mem),(∃ (x3:Int),cell? m ⟨f,4,none⟩=some (.int .u64 x3)∧ifB (decide (x3 < (need:Int)))
   (CallM PP f_decompressor_moreBits #[.pointer (some ⟨f,0,none⟩)] m fun v5 m6=>∃ (v4:Value),v5=v4∧isIfc v4=true∧ifB (!(isNil v4)) (Er K v4 m6) (K.kn (rn v4) m6))
   (K.kx id env m))→wpc PP FF n L₀ cb K env m)
  (hkeep:∀ v,Env.keep SL (rn v)=env) (hI:In D f p pos m) (hG:Glob E m) (hneed:need≤16) (_hfew:8 * pos≤p+24)
  (hk:∀ m' pos',In D f p pos' m'→Fr (InS D f) m m'→pos≤pos'→p+need≤8 * pos'→8 * pos' - p≤max (8 * pos - p) (need+7)→K.kx id env m')
  (he:∀ g m',In D f p src.length m'→Fr (InS D f) m m'→8 * src.length < p+need→Er (K.withN g) E.cut m')
  {r:Env} (hr:Env.keep SL r=env):WPS PP n (.loop cb) K r m:=by
 refine loopW ffOk mixedOk (L₀:=L₀) SL (fun _:Nat=>env) (fun q m'=>In D f p q m'∧Fr (InS D f) m m'∧pos≤q∧8 * q - p≤max (8 * pos - p) (need+7)) (fun q=>src.length - q) pos hr
  ⟨hI,Fr.refl _ _,Nat.le_refl _,by omega⟩ ?_
 rintro q m1 ⟨hJ,hF,h1,h2⟩
 have hle:=hJ.le
 have hql:=hJ.pos_le
 refine body _ m1 ⟨_,hJ.nb,ifB_of (fun ht=>?_) (fun ht=>?_)⟩
 ·have hlt:8 * q - p < need:=by have:=of_decide_eq_true ht; omega
  refine moreBits_spec hJ (hI.glob hG hF) (by omega) (fun m2 h3 h4 h5=>?_) (fun m2 h3 h4 h5=>?_)
  ·exact ⟨_,rfl,rfl,ifB_f ⟨q+1,hkeep _,⟨h4,hF.trans h5,by omega,by omega⟩,by omega⟩⟩
  ·refine ⟨_,rfl,rfl,ifB_t (he _ m2 (h3 ▸ h4) (hF.trans h5) (by omega))⟩
 ·exact hk m1 q hJ hF h1 (by have:=of_decide_eq_false ht; omega) h2
theorem In.drop {D:Rdr E src} {f p pos:Nat} {m:Mem} (hI:In D f p pos m) (n:Nat) (hn:p+n≤8 * pos) {K:Mem→Prop} (hk:∀ m',In D f (p+n) pos m'→Fr (InS D f) m m'→K m'):
  StW m ⟨f,3,none⟩ (.int .u32 (tk (num src) (p+n) (8 * pos - (p+n)):Nat)) fun m1=>cell? m1 ⟨f,4,none⟩=some (.int .u64 (8 * pos - p:Nat))∧StW m1 ⟨f,4,none⟩ (.int .u64 (8 * pos - (p+n):Nat)) K:=by
 have hfew:=hI.few
 refine StW.at rfl (hI.own 3 (by decide)) fun m1 c1 f1 _=>⟨f1.cell hI.nb (by simp),?_⟩
 have h1:=hI.to0.set f1 (by decide) (by decide)
 refine StW.at rfl (h1.own 4 (by decide)) fun m2 c2 f2 _=>?_
 have h2:=h1.set f2 (by decide) (by decide)
 refine hk m2 (h2.of (f2.cell c1 (by simp)) c2 hn (by omega)) ((f1.mono ?_).trans (f2.mono ?_)) <;> (rintro i j ⟨rfl,rfl⟩; exact .inr ⟨rfl,.inr (by decide)⟩)
theorem shr_tk {N p k n:Nat} (hn:n≤k) (hk:n≤32):shrOp .u32 (tk N p k:Nat) (n:Int)=(tk N (p+n) (k - n):Nat):=by
 rw [shr_nat (k:=.u32) (by show _≤32; exact hk),tk_drop _ _ _ _ hn]
theorem mask_tk {N p k n:Nat} (hn:n≤k) (hk:k≤31):bitsOp .and .u32 (tk N p k:Nat) (IntKind.wrap .u32 ((shlOp .u32 1 (n:Int)) - 1))=(tk N p n:Nat):=by
 have h1:(2:Nat) ^ n≤2 ^ 31:=Nat.pow_le_pow_right (by decide) (by omega)
 have h0:0 < (2:Nat) ^ n:=Nat.pow_pos (by decide)
 have h2:shlOp .u32 1 (n:Int)=((2 ^ n:Nat):Int):=by
  have:=shl_nat (k:=.u32) (a:=1) (s:=n) (by show _≤32; omega)
  rw [show ((1:Nat):Int)=1 from rfl] at this
  rw [this,Nat.one_mul,wrap_u32_id (by omega) (by omega)]
 rw [h2,show (((2 ^ n:Nat):Int) - 1)=((2 ^ n - 1:Nat):Int) from by omega,wrap_u32_id (by omega) (by omega)]
 have h3:tk N p k < 2 ^ 31:=Nat.lt_of_lt_of_le (tk_lt ..) (Nat.pow_le_pow_right (by decide) hk)
 rw [and_nat rfl (by show _ < 2 ^ 32; omega) (by show _ < 2 ^ 32; omega),Nat.and_two_pow_sub_one_eq_mod,tk_low _ _ _ _ hn]
end
end Go.M

namespace Go.M
open Go
set_option maxRecDepth 100000
def Out (c:Sc) (nx:Nx) (Hf:List Nat) (e:Er) (pf:Nat):Prop:=
 match nx with
 | .go s=>RunsB c s Hf e pf
 | .stop H e' p=>Hf=H∧e=e'∧pf=p
theorem RunsB.out {c:Sc} {s:St} {Hf:List Nat} {e:Er} {pf:Nat} (h:RunsB c s Hf e pf):Out c (gstep c s) Hf e pf:=by
 cases hs:gstep c s with
 | stop H' e' p'=>exact h.end hs
 | go s'=>exact h.go hs
structure LbS where
 cp:Option (Nat×Nat)
 p:Nat
 pos:Nat
 H:List Nat
 wr:Nat
def LbS.md (s:LbS) (fin:Bool) (T:Tb):Md:=
 match s.cp with
 | none=>.coded fin T
 | some (d,n)=>.copy fin T d n
def LbS.lab (s:LbS):Nat:=
 match s.cp with
 | none=>0
 | some _=>1
def LbS.mu (s:LbS) (c:Sc):Nat:=2 * (c.tot - s.p)+s.lab
section
variable {E:Errs} {src:List Nat}
structure Fx (E:Errs) (src:List Nat) where
 D:Rdr E src
 f:Nat
 bh:Nat
 c:Sc
 Hf:List Nat
 e:Er
 pf:Nat
 Dl:Nat
 rd:Nat
 fin:Bool
 T:Tb
 hN:c.N=num src
 ht:c.tot=8 * src.length
 Bd:Nat
 hrd:rd < 32768
structure Cm (x:Fx E src) (m0 m:Mem) (p pos:Nat) (H:List Nat) (wr:Nat):Prop where
 base:Base x.D x.f x.bh m p pos H wr x.rd
 tb:TbAt x.D x.f x.bh m x.T
 fin:cell? m ⟨x.f,1047,none⟩=some (.bool x.fin)
 err:cell? m ⟨x.f,1048,none⟩=some .nilIface
 emp:∃ a k,cell? m ⟨x.f,1049,none⟩=some (.slice a 0 k)
 del:x.Dl+(wr - x.rd)=H.length
 nb:8 * pos≤p+x.T.mn+7
 fr:Fr (Mv x.D x.f x.bh) m0 m
structure Lb (x:Fx E src) (m0 m:Mem) (s:LbS):Prop where
 cm:Cm x m0 m s.p s.pos s.H s.wr
 room:s.wr < 32768
 runs:RunsB x.c ⟨s.p,s.H,s.md x.fin x.T⟩ x.Hf x.e x.pf
 ctl:∃ ss cl cd,Ctl m x.f ss cl cd∧(ss=0∨ss=1∧0 < cd∧cd≤32768∧(s.cp=none→cl=0))∧
  (∀ d n,s.cp=some (d,n)→cl=n∧cd=d∧0 < d∧d≤32768∧(n=0∨d≤s.H.length)∧n≤258)
 le:s.mu x.c≤x.Bd
structure Mid (x:Fx E src) (m0:Mem) (μ0:Nat) (m:Mem) (p pos:Nat) (H:List Nat) (wr:Nat) (nx:Nx):Prop where
 cm:Cm x m0 m p pos H wr
 room:wr < 32768
 out:Out x.c nx x.Hf x.e x.pf
 ctl:∃ ss cl cd,Ctl m x.f ss cl cd∧(ss=0∨ss=1∧0 < cd∧cd≤32768∧cl=0)
 lt:2 * (x.c.tot - p)+1 < μ0
def hbEnv (f:Nat):Env:=[(0,.pointer (some ⟨f,0,none⟩))]
structure Ko (x:Fx E src) (m0:Mem) (μ0:Nat) (K:Kont):Prop where
 kr:∀ r m',Back x.D x.f x.bh x.c x.Hf x.e x.pf x.Dl x.Bd m'→Fr (Mv x.D x.f x.bh) m0 m'→K.kr r m'
 kg:∀ r m' s,Lb x m0 m' s→s.mu x.c < μ0→Env.keep [0] r=hbEnv x.f→K.kg s.lab r m'
 le:μ0≤x.Bd
variable {x:Fx E src} {m0 m:Mem} {μ0 p pos wr:Nat} {H:List Nat} {K:Kont} {nx:Nx}
theorem Ko.withN (h:Ko x m0 μ0 K) (g:Env→Mem→Prop):Ko x m0 μ0 (K.withN g):=⟨h.kr,h.kg,h.le⟩
theorem Ko.withX (h:Ko x m0 μ0 K) (i:Nat):Ko x m0 μ0 (K.withX i):=⟨h.kr,h.kg,h.le⟩
theorem Cm.corrupt (h:Cm x m0 m p pos H wr) (ho:Out x.c (.stop H .bad p) x.Hf x.e x.pf) {n:Int} (hK:Ko x m0 μ0 K) {r:Env}:
  StW m ⟨x.f,1048,none⟩ (.iface t_flate_CorruptInputError (.int .i64 n)) fun m'=>K.kr r m':=by
 obtain ⟨a,k,he⟩:=h.emp
 obtain ⟨h1,h2,h3⟩:=ho
 refine h.base.fails (e:=.bad) (pf:=x.pf) he h.del ⟨n,rfl⟩ (by decide) fun m' hE hF=>?_
 exact hK.kr r m' (.inr ⟨wr,x.rd,0,by rw [h1,h2]; exact hE⟩) (h.fr.trans hF)
theorem Mid.ctl1 (h:Mid x m0 μ0 m p pos H wr nx) {m':Mem} {S:Nat→Nat→Prop} (hf:Fr S m m') (hs:∀ j,1041≤j→j≠1048→j≠1049→ ¬ S x.f j):
  ∃ ss cl cd,Ctl m' x.f ss cl cd∧(ss=0∨ss=1∧0 < cd∧cd≤32768∧cl=0):=by
 obtain ⟨ss,cl,cd,h1,h2⟩:=h.ctl
 exact ⟨ss,cl,cd,h1.fr hf (hs _ (by decide) (by decide) (by decide)) (hs _ (by decide) (by decide) (by decide)) (hs _ (by decide) (by decide) (by decide)),h2⟩
theorem Cm.moved (h:Cm x m0 m p pos H wr) {m':Mem} {p' pos':Nat} (hI:In x.D x.f p' pos' m') (hf:Fr (InS x.D x.f) m m') (hnb:8 * pos'≤p'+x.T.mn+7):Cm x m0 m' p' pos' H wr:=by
 have hf':Fr (fun i j=>InS x.D x.f i j∨(i=x.f∧j=1048)) m m':=hf.mono fun i j h=>.inl h
 have hap:∀ j,1041≤j→ ¬ InS x.D x.f x.f j:=by
  rintro j hj (h1 | ⟨_,h1⟩)
  ·exact h.base.inn.apart _ h1
  ·omega
 obtain ⟨a,k,he⟩:=h.emp
 exact ⟨h.base.moved hI hf',h.tb.fr h.base (hf'.mono mv_in),h.base.stays (hf'.mono mv_in) h.fin (.inl rfl),hf.cell h.err (hap _ (by simp)),⟨a,k,hf.cell he (hap _ (by simp))⟩,h.del,hnb,h.fr.trans (hf'.mono mv_in)⟩
theorem Mid.moved (h:Mid x m0 μ0 m p pos H wr nx) {nx':Nx} {m':Mem} {p' pos':Nat} (hI:In x.D x.f p' pos' m') (hf:Fr (InS x.D x.f) m m') (hnb:8 * pos'≤p'+x.T.mn+7) (ho:Out x.c nx' x.Hf x.e x.pf) (hp:p≤p'):Mid x m0 μ0 m' p' pos' H wr nx' where
 cm:=h.cm.moved hI hf hnb
 room:=h.room
 out:=ho
 ctl:=h.ctl1 hf (by
  rintro j hj _ _ (h1 | ⟨_,h1⟩)
  ·exact h.cm.base.inn.apart _ h1
  ·omega)
 lt:=by have:=h.lt; omega
theorem hb_far (hK:Ko x m0 μ0 K) {len d:Nat} (hM:Mid x m0 μ0 m p pos H wr (gfar x.c H x.fin x.T len d p)) (hlen:len≤258) (hd:0 < d) (hp:p≤x.c.tot) {r:Env}
  (hr:Env.keep [0,5,6] r=[(0,.pointer (some ⟨x.f,0,none⟩)),(5,.int .i64 (len:Int)),(6,.int .i64 (d:Int))]):WPS PP 362 c_decompressor_huffmanBlock_lrrlrrrrrrrrr K r m:=by
 refine WPS.piece k_decompressor_huffmanBlock_lrrlrrrrrrrrr hr (p_decompressor_huffmanBlock_lrrlrrrrrrrrr x.f len d m K ?_)
 have hb:=hM.cm.base
 refine win_histSize hb.win ⟨_,rfl,ifB_of (fun ht=>?_) (fun ht=>?_)⟩
 ·have hlt:min 32768 H.length < d:=by have:=of_decide_eq_true ht; omega
  have ho:=hM.out
  unfold gfar at ho
  rw [if_pos hlt] at ho
  exact ⟨_,hb.inn.off,hM.cm.corrupt ho hK⟩
 ·have hge:d≤min 32768 H.length:=by have:=of_decide_eq_false ht; omega
  have ho:=hM.out
  unfold gfar at ho
  rw [if_neg (by omega)] at ho
  refine StW.at rfl (hb.inn.own 1052 (by decide)) fun m1 c1 f1 _=>?_
  refine StW.at rfl ((hb.inn.own.fr f1) 1053 (by decide)) fun m2 c2 f2 _=>?_
  have F1:Fr (Mv x.D x.f x.bh) m m1:=f1.mono (mv_f (by decide) (by decide) (by decide) (by decide))
  have F2:Fr (Mv x.D x.f x.bh) m1 m2:=f2.mono (mv_f (by decide) (by decide) (by decide) (by decide))
  have hB1:=hb.ctl (f1.mono (ctl_f (by decide)))
  have hB2:=hB1.ctl (f2.mono (ctl_f (by decide)))
  obtain ⟨a,k,he⟩:=hM.cm.emp
  obtain ⟨ss,cl,cd,⟨g1,g2,g3⟩,g4⟩:=hM.ctl
  have hlt:=hM.lt
  refine hK.kg _ m2 ⟨some (d,len),p,pos,H,wr⟩ ⟨⟨hB2,(hM.cm.tb.fr hb F1).fr hB1 F2,f2.cell (f1.cell hM.cm.fin (by simp)) (by simp),f2.cell (f1.cell hM.cm.err (by simp)) (by simp),
   ⟨a,k,f2.cell (f1.cell he (by simp)) (by simp)⟩,hM.cm.del,hM.cm.nb,hM.cm.fr.trans (F1.trans F2)⟩,hM.room,ho,⟨ss,len,d,⟨f2.cell (f1.cell g1 (by simp)) (by simp),f2.cell c1 (by simp),c2⟩,?_,?_⟩,?_⟩ ?_ rfl
  ·rcases g4 with g4 | ⟨g4,_⟩
   ·exact .inl g4
   ·exact .inr ⟨g4,hd,by omega,fun h=>by cases h⟩
  ·intro d' n' h
   simp only [Option.some.injEq,Prod.mk.injEq] at h
   obtain ⟨rfl,rfl⟩:=h
   exact ⟨rfl,rfl,hd,by omega,.inr (by simp only; omega),hlen⟩
  ·have:=hK.le
   show 2 * (x.c.tot - p)+1≤x.Bd
   omega
  ·show 2 * (x.c.tot - p)+1 < μ0
   exact hlt
theorem Mid.short (h:Mid x m0 μ0 m p pos H wr (.stop H .cut p)) {m':Mem} {q:Nat} (hI:In x.D x.f p q m') (hf:Fr (InS x.D x.f) m m') (hK:Ko x m0 μ0 K) {r:Env}:
  StW m' ⟨x.f,1048,none⟩ E.cut fun m2=>K.kr r m2:=by
 obtain ⟨a,k,he⟩:=h.cm.emp
 obtain ⟨h1,h2,h3⟩:=h.out
 have hf':Fr (fun i j=>InS x.D x.f i j∨(i=x.f∧j=1048)) m m':=hf.mono fun i j h=>.inl h
 refine fails0 h.cm.base hI.to0 hf' (e:=.cut) (pf:=x.pf) he h.cm.del rfl (by decide) fun m2 hE hF=>?_
 exact hK.kr r m2 (.inr ⟨wr,x.rd,0,by rw [h1,h2]; exact hE⟩) (h.cm.fr.trans hF)
theorem hb_dist (hK:Ko x m0 μ0 K) {len k:Nat} (hM:Mid x m0 μ0 m p pos H wr (gdist x.c H x.fin x.T len k p)) (hlen:len≤258) (hk:k < 4294967296) (hp:p≤x.c.tot) (hmn:x.T.mn≤15) {r:Env}
  (hr:Env.keep [0,5,6] r=[(0,.pointer (some ⟨x.f,0,none⟩)),(5,.int .i64 (len:Int)),(6,.int .i64 (k:Int))]):WPS PP 362 c_decompressor_huffmanBlock_lrrlrrrrrrrr K r m:=by
 refine WPS.piece k_decompressor_huffmanBlock_lrrlrrrrrrrr hr (p_decompressor_huffmanBlock_lrrlrrrrrrrr x.f len k m K ?_)
 have hb:=hM.cm.base
 have ho:=hM.out
 unfold gdist at ho
 refine ifB_of (fun ht=>?_) (fun ht=>ifB_of (fun ht2=>?_) (fun ht2=>?_))
 ·have hlt:k < 4:=by have:=of_decide_eq_true ht; omega
  rw [if_pos hlt] at ho
  rw [wrap64_id (by omega) (by omega)]
  exact hb_far hK (d:=k+1) { hM with out:=ho } hlen (by omega) hp rfl
 ·have h4: ¬ k < 4:=by have:=of_decide_eq_false ht; omega
  have h30:k < 30:=by have:=of_decide_eq_true ht2; omega
  rw [if_neg h4,if_pos h30] at ho
  have e1:shrOp .u64 (IntKind.wrap .u64 (IntKind.wrap .i64 ((k:Int) - 2))) 1=(((k - 2) / 2:Nat):Int):=by
   rw [wrap64_id (by omega) (by omega),show ((k:Int) - 2)=((k - 2:Nat):Int) from by omega,wrap_u64_id (by omega) (by omega)]
   exact shr_nat (k:=.u64) (s:=1) (by decide)
  have e2:bitsOp .and .i64 (k:Int) 1=((k % 2:Nat):Int):=by
   have:=and_i64 (a:=k) (b:=1) (by omega) (by decide)
   rw [show ((1:Nat):Int)=1 from rfl] at this
   rw [this,show (1:Nat)=2 ^ 1 - 1 from rfl,Nat.and_two_pow_sub_one_eq_mod]
  rw [e1,e2]
  have hnb:(k - 2) / 2≤13:=by omega
  generalize hnbe:(k - 2) / 2=nb at ho hnb ⊢
  have hpw:(2:Nat) ^ nb≤2 ^ 13:=Nat.pow_le_pow_right (by decide) hnb
  have hpw0:0 < (2:Nat) ^ nb:=Nat.pow_pos (by decide)
  have hk2:k % 2 * 2 ^ nb≤2 ^ nb:=by
   have:k % 2≤1:=by omega
   calc k % 2 * 2 ^ nb≤1 * 2 ^ nb:=Nat.mul_le_mul_right _ this
    _=2 ^ nb:=Nat.one_mul _
  have e3:shlOp .i64 ((k % 2:Nat):Int) (nb:Int)=((k % 2 * 2 ^ nb:Nat):Int):=by
   rw [shl_nat (k:=.i64) (by show _≤64; omega),wrap64_id (by omega) (by omega)]
  rw [e3]
  refine ⟨by decide,rfl,by omega,?_⟩
  rw [q_decompressor_huffmanBlock_lrrlrrrrrrrrllrrrlrrll]
  have hfew:=hb.inn.few
  refine needLoop (need:=nb) (id:=7) [0,5,7,8] _ (fun v=>[(0,.pointer (some ⟨x.f,0,none⟩)),(3,v),(5,.int .i64 (len:Int)),(7,.int .u64 (nb:Int)),(8,.int .i64 ((k % 2 * 2 ^ nb:Nat):Int))])
   (fun K v m6=>StW m6 ⟨x.f,1048,none⟩ v fun m8=>K.kr [(0,.pointer (some ⟨x.f,0,none⟩)),(3,v),(5,.int .i64 (len:Int)),(7,.int .u64 (nb:Int)),(8,.int .i64 ((k % 2 * 2 ^ nb:Nat):Int))] m8)
   (fun K m h=>p_decompressor_huffmanBlock_lrrlrrrrrrrrllrrrlrrlll x.f len nb ((k % 2 * 2 ^ nb:Nat):Int) m K h) (fun v=>rfl) hb.inn hb.glob (by omega) hfew
   (fun m1 pos1 hI1 hF1 g1 g2 g3=>?_) (fun g m1 hI1 hF1 g1=>?_) rfl
  ·have hql:=hI1.pos_le
   have htot:=x.ht
   have hno: ¬ x.c.tot < p+nb:=by omega
   rw [if_neg hno] at ho
   refine WPS.piece k_decompressor_huffmanBlock_lrrlrrrrrrrrllrrrlrrr rfl (p_decompressor_huffmanBlock_lrrlrrrrrrrrllrrrlrrr x.f len nb _ m1 _ ?_)
   refine ⟨_,hI1.b,by omega,rfl,rfl,_,hI1.b,by omega,?_⟩
   have hnb1:=hM.cm.nb
   rw [shr_tk (by omega) (by omega),mask_tk (by omega) (by omega),Nat.sub_sub]
   have hdr:=In.drop hI1 nb (by omega) (K:=fun m8=>0≤IntKind.wrap .u64 ((nb:Int)+1)∧WPS PP 362 c_decompressor_huffmanBlock_lrrlrrrrrrrrr K [(0,.pointer (some ⟨x.f,0,none⟩)),(5,.int .i64 (len:Int)),
    (6,.int .i64 (IntKind.wrap .i64 ((IntKind.wrap .i64 ((shlOp .i64 1 (IntKind.wrap .u64 ((nb:Int)+1)))+1))+(bitsOp .or .i64 ((k % 2 * 2 ^ nb:Nat):Int) (IntKind.wrap .i64 (tk (num src) p nb:Nat)))))),
    (7,.int .u64 (nb:Int)),(8,.int .i64 (bitsOp .or .i64 ((k % 2 * 2 ^ nb:Nat):Int) (IntKind.wrap .i64 (tk (num src) p nb:Nat))))] m8) (fun m8 hI8 hF8=>?_)
   ·obtain ⟨w1,w2,w3,w4,w5⟩:=hdr
    refine ⟨w1,w2,w3,_,w4,?_⟩
    rw [wrap_u64_id (by omega) (by omega),show (((8 * pos1 - p:Nat):Int) - nb)=((8 * pos1 - (p+nb):Nat):Int) from by omega]
    exact w5
   ·have htk:tk (num src) p nb < 2 ^ nb:=tk_lt ..
    have e4:shlOp .i64 1 (IntKind.wrap .u64 ((nb:Int)+1))=((2 ^ (nb+1):Nat):Int):=by
     rw [wrap_u64_id (by omega) (by omega)]
     have:=shl_nat (k:=.i64) (a:=1) (s:=nb+1) (by show _≤64; omega)
     have hp14:(2:Nat) ^ (nb+1)≤2 ^ 14:=Nat.pow_le_pow_right (by decide) (by omega)
     rw [show ((1:Nat):Int)=1 from rfl,Nat.one_mul,wrap64_id (by omega) (by omega)] at this
     exact this
    have e5:bitsOp .or .i64 ((k % 2 * 2 ^ nb:Nat):Int) (IntKind.wrap .i64 (tk (num src) p nb:Nat))=((k % 2 * 2 ^ nb+tk (num src) p nb:Nat):Int):=by
     rw [wrap64_id (by omega) (by omega),or_i64 (by omega) (by omega),Nat.or_comm,or_add _ htk,Nat.add_comm,Nat.mul_comm]
    have hp14:(2:Nat) ^ (nb+1)≤2 ^ 14:=Nat.pow_le_pow_right (by decide) (by omega)
    rw [e4,e5]
    refine ⟨by rw [wrap_u64_id (by omega) (by omega)]; omega,?_⟩
    rw [wrap64_id (n:=((2 ^ (nb+1):Nat):Int)+1) (by omega) (by omega),wrap64_id (by omega) (by omega)]
    rw [x.hN] at ho
    refine hb_far hK (d:=2 ^ (nb+1)+1+(k % 2 * 2 ^ nb+tk (num src) p nb)) (hM.moved hI8 (hF1.trans hF8) (by omega) ho (by omega)) hlen (by omega) (by omega) ?_
    rfl
  ·have hyes:x.c.tot < p+nb:=by rw [x.ht]; omega
   rw [if_pos hyes] at ho
   exact Mid.short { hM with out:=ho } hI1 hF1 hK
 ·have h4: ¬ k < 4:=by have:=of_decide_eq_false ht; omega
  have h30: ¬ k < 30:=by have:=of_decide_eq_false ht2; omega
  rw [if_neg h4,if_neg h30] at ho
  exact ⟨_,hb.inn.off,hM.cm.corrupt ho hK⟩
end
end Go.M

namespace Go.M
open Go
set_option maxRecDepth 100000
def rv8 (n:Nat):Nat:=n % 2 * 128+n / 2 % 2 * 64+n / 4 % 2 * 32+n / 8 % 2 * 16+n / 16 % 2 * 8+n / 32 % 2 * 4+n / 64 % 2 * 2+n / 128 % 2
theorem rev8_get:∀ n:Fin 256,(rev8[n.val]?).map UInt8.toNat=some (rv8 n.val):=by decide+kernel
theorem rev_W {k:IntKind} {n:Nat} (hn:n < 256) {K:Value→Prop} (h:K (.int .u8 (rv8 n:Nat))):PureW PP (Instr.index t_string (.string rev8) (.int k (n:Int))) K:=by
 have h0:PureW PP (match (if 0≤(n:Int) then rev8[(n:Int).toNat]? else none) with
  | some b=>pure (.int .u8 b.toNat)
  | none=>boundsPanic k (n:Int) rev8.size .index:Sem Value) K:=by
  rw [if_pos (by omega),Int.toNat_natCast]
  have:=rev8_get ⟨n,hn⟩
  cases hb:rev8[n]? with
  | none=>rw [hb] at this; cases this
  | some b=>
   rw [hb] at this
   simp only [Option.map_some,Option.some.injEq] at this
   show K (.int .u8 (b.toNat:Int))
   rw [this]; exact h
 exact Eq.mpr (by kernel_rfl) h0
theorem reverse8_spec {n:Nat} (hn:n < 256) {m:Mem} {R:Value→Mem→Prop} (h:R (.int .u8 (rv8 n:Nat)) m):CallM PP f_bits_Reverse8 #[.int .u8 (n:Int)] m R:=
 e_bits_Reverse8 n m R (rev_W hn ⟨_,rfl,h⟩)
def rv16 (n:Nat):Nat:=rv8 (n % 256) * 256+rv8 (n / 256)
theorem rv8_lt (n:Nat):rv8 n < 256:=by unfold rv8; omega
theorem reverse16_spec {n:Nat} (hn:n < 65536) {m:Mem} {R:Value→Mem→Prop} (h:R (.int .u16 (rv16 n:Nat)) m):CallM PP f_bits_Reverse16 #[.int .u16 (n:Int)] m R:=by
 refine e_bits_Reverse16 n m R ⟨by decide,?_⟩
 have e1:shrOp .u16 (n:Int) 8=((n / 256:Nat):Int):=shr_nat (k:=.u16) (s:=8) (by decide)
 have e2:bitsOp .and .u16 (n:Int) 255=((n % 256:Nat):Int):=by
  have:=and_nat (k:=.u16) rfl (a:=n) (b:=255) (by show _ < 2 ^ 16; omega) (by decide)
  rw [show ((255:Nat):Int)=255 from rfl] at this
  rw [this,show (255:Nat)=2 ^ 8 - 1 from rfl,Nat.and_two_pow_sub_one_eq_mod]
 rw [e1,e2]
 have h1:=rv8_lt (n / 256)
 have h2:=rv8_lt (n % 256)
 refine rev_W (by omega) ⟨_,rfl,rfl,rev_W (by omega) ⟨_,rfl,by decide,rfl,?_⟩⟩
 have e3:shlOp .u16 (IntKind.wrap .u16 (rv8 (n % 256):Nat)) 8=((rv8 (n % 256) * 2 ^ 8:Nat):Int):=by
  rw [wrap_u16_id (by omega) (by omega)]
  have:=shl_nat (k:=.u16) (a:=rv8 (n % 256)) (s:=8) (by decide)
  rw [wrap_u16_id (by omega) (by omega)] at this
  exact this
 rw [e3,wrap_u16_id (by omega) (by omega),or_nat rfl (by show _ < 2 ^ 16; omega) (by show _ < 2 ^ 16; omega),or_add _ (by show _ < 2 ^ 8; omega)]
 unfold rv16 at h
 rw [show rv8 (n / 256)+2 ^ 8 * rv8 (n % 256)=rv8 (n % 256) * 256+rv8 (n / 256) from by omega]
 exact h
theorem rv8_rev5 {y:Nat} (_hy:y < 32):rv8 (y * 8)=rev5 y:=by
 unfold rv8 rev5
 omega
end Go.M

namespace Go.M
open Go
set_option maxRecDepth 100000
section
variable {E:Errs} {src:List Nat} {x:Fx E src} {m0 m:Mem} {μ0 p pos wr:Nat} {H:List Nat} {K:Kont} {nx:Nx}
theorem hb_huff {j mn:Nat} {V:Nat→Nat} (hC:Cm x m0 m p pos H wr) (hT:OneTab x.D x.f x.bh m j V mn) (hmn:x.T.mn≤15) (hmm:mn≤15) {R:Value→Mem→Prop} {a:Option Addr} (ha:cell? m ⟨x.f,j,none⟩=some (.pointer a))
  (hk:∀ m' pos' s p',sym x.c V mn p=.ok s p'→p < p'→p'≤x.c.tot→p'=p+V (x.c.N / 2 ^ p) % 16→s=V (x.c.N / 2 ^ p) / 16→In x.D x.f p' pos' m'→8 * pos' - p'≤max (8 * pos - p) (max mn (V (x.c.N / 2 ^ p) % 16)+7) - V (x.c.N / 2 ^ p) % 16→
   Fr (InS x.D x.f) m m'→R (.tuple #[.int .i64 (s:Int),.nilIface]) m')
  (he:∀ m' v,(sym x.c V mn p=.bad∧IsErr E .bad v∨sym x.c V mn p=.cut∧IsErr E .cut v)→(∃ q,In0 x.D x.f q m')→Fr (fun i j=>InS x.D x.f i j∨(i=x.f∧j=1048)) m m'→R (.tuple #[.int .i64 0,v]) m'):
  CallM PP f_decompressor_huffSym #[.pointer (some ⟨x.f,0,none⟩),.pointer a] m R:=by
 obtain ⟨⟨b,o,B,h1,h2,h3⟩,h4⟩:=hT
 rw [h1] at ha
 simp only [Option.some.injEq,Value.pointer.injEq] at ha
 subst ha
 have hnb:=hC.nb
 have ht:=x.ht
 have hN:=x.hN
 refine huffSym_spec hC.base.inn hC.base.glob h2 h4 (fun i j hij hmv=>h3 i j hij (mv_in i j hmv)) (by omega) (fun m' pos' g1 g2 g3 g4 g5=>?_) (fun m' n pos' g1 g2 g3 g4=>?_) (fun m' pos' g1 g2 g3=>?_)
 ·rw [← hN] at g1 g2 g3 g4 ⊢
  refine hk m' pos' _ _ ?_ ?_ ?_ rfl rfl g3 g4 g5
  ·unfold sym
   rw [if_neg (by omega),if_neg g1]
  ·omega
  ·omega
 ·rw [← hN] at g1
  refine he m' _ (.inl ⟨?_,⟨n,rfl⟩⟩) ⟨_,g3⟩ g4
  unfold sym
  rw [if_neg (by omega),if_pos g1]
 ·rw [← hN] at g1
  refine he m' _ (.inr ⟨?_,rfl⟩) ⟨_,g2⟩ g3
  unfold sym
  rw [if_pos (by omega)]
theorem hb_huffErr (hC:Cm x m0 m p pos H wr) (hK:Ko x m0 μ0 K) {V:Nat→Nat} {mn:Nat} {m':Mem} {v:Value} (hv:sym x.c V mn p=.bad∧IsErr E .bad v∨sym x.c V mn p=.cut∧IsErr E .cut v)
  (ho:(sym x.c V mn p=.bad→Out x.c (.stop H .bad p) x.Hf x.e x.pf)∧(sym x.c V mn p=.cut→Out x.c (.stop H .cut p) x.Hf x.e x.pf))
  (h0:∃ q,In0 x.D x.f q m') (hf:Fr (fun i j=>InS x.D x.f i j∨(i=x.f∧j=1048)) m m') {r:Env}:StW m' ⟨x.f,1048,none⟩ v fun m2=>K.kr r m2:=by
 obtain ⟨a,k,he⟩:=hC.emp
 obtain ⟨q,h0⟩:=h0
 rcases hv with ⟨h1,h2⟩ | ⟨h1,h2⟩
 ·obtain ⟨g1,g2,g3⟩:=ho.1 h1
  refine fails0 hC.base h0 hf (e:=.bad) (pf:=x.pf) he hC.del h2 (by decide) fun m2 hE hF=>?_
  exact hK.kr r m2 (.inr ⟨wr,x.rd,0,by rw [g1,g2]; exact hE⟩) (hC.fr.trans hF)
 ·obtain ⟨g1,g2,g3⟩:=ho.2 h1
  refine fails0 hC.base h0 hf (e:=.cut) (pf:=x.pf) he hC.del h2 (by decide) fun m2 hE hF=>?_
  exact hK.kr r m2 (.inr ⟨wr,x.rd,0,by rw [g1,g2]; exact hE⟩) (hC.fr.trans hF)
theorem hb_len (hK:Ko x m0 μ0 K) {len:Nat} (hM:Mid x m0 μ0 m p pos H wr (glen x.c H x.fin x.T len p)) (hlen:len≤258) (hp:p≤x.c.tot) (hmn:x.T.mn≤15) {r:Env}
  (hr:Env.keep [0,5] r=[(0,.pointer (some ⟨x.f,0,none⟩)),(5,.int .i64 (len:Int))]):WPS PP 362 c_decompressor_huffmanBlock_lrrlrrrrrr K r m:=by
 refine WPS.piece k_decompressor_huffmanBlock_lrrlrrrrrr hr (p_decompressor_huffmanBlock_lrrlrrrrrr x.f len m K ?_)
 have hC:=hM.cm
 have hb:=hC.base
 have ho:=hM.out
 have hnb:=hC.nb
 have htb:=hC.tb.dist
 unfold glen at ho
 cases hd:x.T.dist with
 | none=>
  rw [hd] at htb ho
  simp only at htb ho
  refine ⟨_,htb,ifB_t ?_⟩
  rw [q_decompressor_huffmanBlock_lrrlrrrrrrrlrlll]
  refine needLoop (need:=5) (id:=4) [0,5] _ (fun v=>[(0,.pointer (some ⟨x.f,0,none⟩)),(3,v),(5,.int .i64 (len:Int))])
   (fun K v m6=>StW m6 ⟨x.f,1048,none⟩ v fun m8=>K.kr [(0,.pointer (some ⟨x.f,0,none⟩)),(3,v),(5,.int .i64 (len:Int))] m8)
   (fun K m h=>p_decompressor_huffmanBlock_lrrlrrrrrrrlrllll x.f len m K h) (fun v=>rfl) hb.inn hb.glob (by omega) hb.inn.few
   (fun m1 pos1 hI1 hF1 g1 g2 g3=>?_) (fun g m1 hI1 hF1 g1=>?_) rfl
  ·have hql:=hI1.pos_le
   have htot:=x.ht
   have hno: ¬ x.c.tot < p+5:=by omega
   rw [if_neg hno] at ho
   refine WPS.piece k_decompressor_huffmanBlock_lrrlrrrrrrrlrlr rfl (p_decompressor_huffmanBlock_lrrlrrrrrrrlrlr x.f len m1 _ ?_)
   have hlow:tk (num src) p (8 * pos1 - p) % 32=tk (num src) p 5:=tk_low (num src) p (8 * pos1 - p) 5 (by omega)
   have htk5:tk (num src) p 5 < 32:=tk_lt (num src) p 5
   have hbl:tk (num src) p (8 * pos1 - p) < 2 ^ 32:=Nat.lt_of_lt_of_le (tk_lt ..) (Nat.pow_le_pow_right (by decide) (by omega))
   have e1:bitsOp .and .u32 (tk (num src) p (8 * pos1 - p):Nat) 31=((tk (num src) p 5:Nat):Int):=by
    have:=and_nat (k:=.u32) rfl (a:=tk (num src) p (8 * pos1 - p)) (b:=31) hbl (by decide)
    rw [show ((31:Nat):Int)=31 from rfl] at this
    rw [this,show (31:Nat)=2 ^ 5 - 1 from rfl,Nat.and_two_pow_sub_one_eq_mod]
    exact congrArg _ hlow
   have e2:IntKind.wrap .u8 (shlOp .u32 ((tk (num src) p 5:Nat):Int) 3)=((tk (num src) p 5 * 8:Nat):Int):=by
    have:=shl_nat (k:=.u32) (a:=tk (num src) p 5) (s:=3) (by decide)
    rw [wrap_u32_id (by omega) (by omega)] at this
    have h3:shlOp .u32 ((tk (num src) p 5:Nat):Int) 3=((tk (num src) p 5 * 2 ^ 3:Nat):Int):=this
    rw [h3,wrap_u8_id (by omega) (by omega)]
   refine ⟨_,hI1.b,rfl,by decide,?_⟩
   rw [e1,e2]
   refine reverse8_spec (by omega) ⟨_,rfl,_,hI1.b,by decide,?_⟩
   rw [rv8_rev5 htk5]
   have hr5:rev5 (tk (num src) p 5) < 32:=by unfold rev5; omega
   have hs:shrOp .u32 (tk (num src) p (8 * pos1 - p):Nat) 5=(tk (num src) (p+5) (8 * pos1 - p - 5):Nat):=shr_tk (n:=5) (by omega) (by omega)
   rw [hs,Nat.sub_sub]
   have hdr:=In.drop hI1 5 (by omega) (K:=fun m8=>WPS PP 362 c_decompressor_huffmanBlock_lrrlrrrrrrrr K [(0,.pointer (some ⟨x.f,0,none⟩)),(5,.int .i64 (len:Int)),(6,.int .i64 (IntKind.wrap .i64 (rev5 (tk (num src) p 5):Nat)))] m8) (fun m8 hI8 hF8=>?_)
   ·obtain ⟨w1,w2,w3,w4,w5⟩:=hdr
    refine ⟨w1,w2,w3,_,w4,?_⟩
    rw [wrap_u64_id (by omega) (by omega),show (((8 * pos1 - p:Nat):Int) - 5)=((8 * pos1 - (p+5):Nat):Int) from by omega]
    exact w5
   ·rw [wrap64_id (by omega) (by omega)]
    rw [x.hN] at ho
    exact hb_dist hK (hM.moved hI8 (hF1.trans hF8) (by omega) ho (by omega)) hlen (by omega) (by omega) hmn rfl
  ·have hyes:x.c.tot < p+5:=by rw [x.ht]; omega
   rw [if_pos hyes] at ho
   exact Mid.short { hM with out:=ho } hI1 hF1 hK
 | some q=>
  obtain ⟨V,mn⟩:=q
  rw [hd] at htb ho
  simp only at htb ho
  obtain ⟨⟨⟨b,o,B,h1,h2,h3⟩,h4⟩,hnear⟩:=htb
  refine ⟨_,h1,ifB_f ⟨_,h1,?_⟩⟩
  refine hb_huff hC (hT:=⟨⟨b,o,B,h1,h2,h3⟩,h4⟩) hmn h4.mn h1 (fun m1 pos1 k p1 g1 g2 g3 g4 g5 g6 g7 g8=>?_) (fun m1 v g1 g2 g3=>?_)
  ·rw [g1] at ho
   have hlt:V (x.c.N / 2 ^ p) % 16 < 16:=Nat.mod_lt _ (by decide)
   have hle1:=g6.le
   have hnr:=hnear (x.c.N / 2 ^ p) (by omega)
   refine ⟨_,_,rfl,rfl,ifB_f ?_⟩
   refine hb_dist hK (hM.moved g6 g8 (by omega) ho (by omega)) hlen ?_ g3 hmn rfl
   have:=h2.small (x.c.N / 2 ^ p)
   omega
  ·have hi:isIfc v=true∧isNil v=false:=by rcases g1 with ⟨_,g⟩ | ⟨_,g⟩ <;> exact g.ifc
   refine ⟨_,_,rfl,hi.1,?_⟩
   rw [hi.2]
   refine ifB_t (hb_huffErr hC hK g1 ⟨fun g=>?_,fun g=>?_⟩ g2 g3)
   ·rw [g] at ho; exact ho
   ·rw [g] at ho; exact ho
theorem hb_ext (hK:Ko x m0 μ0 K) {b ex:Nat} (hM:Mid x m0 μ0 m p pos H wr (if x.c.tot < p+ex then .stop H .cut p else glen x.c H x.fin x.T (b+tk x.c.N p ex) (p+ex))) (hex:ex≤5) (hlen:b+2 ^ ex≤259) (hp:p≤x.c.tot) (hmn:x.T.mn≤15) {r:Env}
  (hr:Env.keep [0,4,5] r=[(0,.pointer (some ⟨x.f,0,none⟩)),(4,.int .u64 (ex:Int)),(5,.int .i64 (b:Int))]):WPS PP 362 c_decompressor_huffmanBlock_lrrlrrrrr K r m:=by
 refine WPS.piece k_decompressor_huffmanBlock_lrrlrrrrr hr (p_decompressor_huffmanBlock_lrrlrrrrr x.f ex b m K ?_)
 have hC:=hM.cm
 have hb:=hC.base
 have ho:=hM.out
 have hnb:=hC.nb
 refine ifB_of (fun ht=>?_) (fun ht=>?_)
 ·have hpos:0 < ex:=by have:=of_decide_eq_true ht; omega
  rw [q_decompressor_huffmanBlock_lrrlrrrrrlrlll]
  refine needLoop (need:=ex) (id:=2) [0,4,5] _ (fun v=>[(0,.pointer (some ⟨x.f,0,none⟩)),(3,v),(4,.int .u64 (ex:Int)),(5,.int .i64 (b:Int))])
   (fun K v m6=>StW m6 ⟨x.f,1048,none⟩ v fun m8=>K.kr [(0,.pointer (some ⟨x.f,0,none⟩)),(3,v),(4,.int .u64 (ex:Int)),(5,.int .i64 (b:Int))] m8)
   (fun K m h=>p_decompressor_huffmanBlock_lrrlrrrrrlrllll x.f ex b m K h) (fun v=>rfl) hb.inn hb.glob (by omega) hb.inn.few
   (fun m1 pos1 hI1 hF1 g1 g2 g3=>?_) (fun g m1 hI1 hF1 g1=>?_) rfl
  ·have hql:=hI1.pos_le
   have htot:=x.ht
   have hno: ¬ x.c.tot < p+ex:=by omega
   rw [if_neg hno] at ho
   refine WPS.piece k_decompressor_huffmanBlock_lrrlrrrrrlrlr rfl (p_decompressor_huffmanBlock_lrrlrrrrrlrlr x.f ex b m1 _ ?_)
   refine ⟨_,hI1.b,by omega,rfl,_,hI1.b,by omega,?_⟩
   rw [shr_tk (by omega) (by omega),mask_tk (by omega) (by omega),Nat.sub_sub]
   have htk:tk (num src) p ex < 2 ^ ex:=tk_lt ..
   have hdr:=In.drop hI1 ex (by omega) (K:=fun m8=>WPS PP 362 c_decompressor_huffmanBlock_lrrlrrrrrr K [(0,.pointer (some ⟨x.f,0,none⟩)),(4,.int .u64 (ex:Int)),(5,.int .i64 (IntKind.wrap .i64 ((b:Int)+(IntKind.wrap .i64 (tk (num src) p ex:Nat)))))] m8) (fun m8 hI8 hF8=>?_)
   ·obtain ⟨w1,w2,w3,w4,w5⟩:=hdr
    refine ⟨w1,w2,w3,_,w4,?_⟩
    rw [wrap_u64_id (by omega) (by omega),show (((8 * pos1 - p:Nat):Int) - ex)=((8 * pos1 - (p+ex):Nat):Int) from by omega]
    exact w5
   ·have h64:(2:Nat) ^ ex≤2 ^ 5:=Nat.pow_le_pow_right (by decide) hex
    rw [wrap64_id (n:=((tk (num src) p ex:Nat):Int)) (by omega) (by omega),wrap64_id (by omega) (by omega)]
    rw [x.hN] at ho
    exact hb_len hK (len:=b+tk (num src) p ex) (hM.moved hI8 (hF1.trans hF8) (by omega) ho (by omega)) (by omega) (by omega) hmn rfl
  ·have hyes:x.c.tot < p+ex:=by rw [x.ht]; omega
   rw [if_pos hyes] at ho
   exact Mid.short { hM with out:=ho } hI1 hF1 hK
 ·have h0:ex=0:=by have:=of_decide_eq_false ht; omega
  subst h0
  rw [if_neg (by omega)] at ho
  have htk:tk x.c.N p 0=0:=by unfold tk; rw [Nat.pow_zero,Nat.mod_one]
  rw [htk] at ho
  exact hb_len hK (len:=b) { hM with out:=ho } (by omega) hp hmn (by
   have:Env.keep [0,5] (Env.keep [0,4,5] r)=Env.keep [0,5] [(0,.pointer (some ⟨x.f,0,none⟩)),(4,.int .u64 ((0:Nat):Int)),(5,.int .i64 (b:Int))]:=by rw [hr]
   rfl)
theorem Cm.wrote (h:Cm x m0 m p pos H wr) {m':Mem} {H':List Nat} {wr':Nat} (hW:Win m' x.f x.bh H' wr' x.rd) (hf:Fr (DictS x.f x.bh) m m') (hd:x.Dl+(wr' - x.rd)=H'.length):Cm x m0 m' p pos H' wr':=by
 have hf':Fr (Mv x.D x.f x.bh) m m':=hf.mono mv_dict
 have hap:∀ j,1041≤j→ ¬ DictS x.f x.bh x.f j:=by
  rintro j hj (⟨_,_,h1⟩ | h1)
  ·omega
  ·exact h.base.ne h1.symm
 obtain ⟨a,k,he⟩:=h.emp
 exact ⟨h.base.wrote hW hf,h.tb.fr h.base hf',h.base.stays hf' h.fin (.inl rfl),hf.cell h.err (hap _ (by simp)),⟨a,k,hf.cell he (hap _ (by simp))⟩,hd,h.nb,h.fr.trans hf'⟩
theorem ctl_wrote {ss cl cd:Nat} (hne:x.bh≠x.f) (hc:Ctl m x.f ss cl cd) {m':Mem} (hf:Fr (DictS x.f x.bh) m m'):Ctl m' x.f ss cl cd:=by
 have hap:∀ j,1041≤j→ ¬ DictS x.f x.bh x.f j:=by
  rintro j hj (⟨_,_,h1⟩ | h1)
  ·omega
  ·exact hne h1.symm
 exact hc.fr hf (hap _ (by simp)) (hap _ (by simp)) (hap _ (by simp))
theorem hb_suspend (hC:Cm x m0 m p pos H wr) (hK:Ko x m0 μ0 K) (cp:Option (Nat×Nat)) (hr:RunsB x.c ⟨p,H,LbS.md ⟨cp,p,pos,H,wr⟩ x.fin x.T⟩ x.Hf x.e x.pf) {ss cl cd:Nat} (hc:Ctl m x.f ss cl cd)
  (hcp:∀ d n,cp=some (d,n)→cl=n∧cd=d∧0 < d∧d≤32768∧(n=0∨d≤H.length)∧n≤258) (hfull:wr=32768) {r:Env}:
  CallM PP f_dictDecoder_readFlush #[.pointer (some ⟨x.f,1037,none⟩)] m fun v m1=>∃ (a:Option Addr),∃ (l:Nat),∃ (k:Nat),v=.slice a l k∧StW m1 ⟨x.f,1049,none⟩ (.slice a l k) fun m2=>
   StW m2 ⟨x.f,1045,none⟩ (.func (.func f_decompressor_huffmanBlock) #[] #[]) fun m3=>StW m3 ⟨x.f,1046,none⟩ (.int .i64 (LbS.lab ⟨cp,p,pos,H,wr⟩:Nat)) fun m4=>K.kr r m4:=by
 refine hC.base.flush hC.del fun m2 wr' hB2 hlt hP2 hf2=>?_
 refine StW.at rfl (hB2.inn.own 1045 (by decide)) fun m3 c3 f3 _=>?_
 have hB3:=hB2.ctl (f3.mono (ctl_f (by decide)))
 refine StW.at rfl (hB3.inn.own 1046 (by decide)) fun m4 c4 f4 _=>?_
 have hB4:=hB3.ctl (f4.mono (ctl_f (by decide)))
 have F2:Fr (Mv x.D x.f x.bh) m m2:=hf2.mono flush_mv
 have F3:Fr (Mv x.D x.f x.bh) m2 m3:=f3.mono (mv_f (by decide) (by decide) (by decide) (by decide))
 have F4:Fr (Mv x.D x.f x.bh) m3 m4:=f4.mono (mv_f (by decide) (by decide) (by decide) (by decide))
 have hne:=hC.base.ne
 have hP4:=(hP2.fr f3 (by simp) (by rintro j ⟨e,_⟩; exact hne e)).fr f4 (by simp) (by rintro j ⟨e,_⟩; exact hne e)
 have T4:=((hC.tb.fr hC.base F2).fr hB2 F3).fr hB3 F4
 have fin4:=f4.cell (f3.cell (hC.base.stays F2 hC.fin (.inl rfl)) (by simp)) (by simp)
 have err4:=f4.cell (f3.cell (hf2.cell hC.err (by simp)) (by simp)) (by simp)
 have step4:=f4.cell c3 (by simp)
 have cl4:=f4.cell (f3.cell (hf2.cell hc.2.1 (by simp)) (by simp)) (by simp)
 have cd4:=f4.cell (f3.cell (hf2.cell hc.2.2 (by simp)) (by simp)) (by simp)
 refine hK.kr r m4 (.inl ⟨⟨p,H,LbS.md ⟨cp,p,pos,H,wr⟩ x.fin x.T⟩,pos,wr',wr',wr - x.rd,⟨hB4,hlt,hP4,?_,hr,err4,.inl (by have:=x.hrd; omega),fun _=>.inl (show 32768≤H.length by have:=hC.base.win.wr_le; omega)⟩⟩) (hC.fr.trans (F2.trans (F3.trans F4)))
 cases cp with
 | none=>exact ⟨step4,fin4,T4,hC.nb,cl,cd,c4,cl4,cd4⟩
 | some q=>
  obtain ⟨d,n⟩:=q
  obtain ⟨rfl,rfl,h3,h4,h5,h6⟩:=hcp d n rfl
  exact ⟨step4,fin4,T4,hC.nb,⟨c4,cl4,cd4⟩,h3,h4,h5,h6⟩
theorem hb_eob (hK:Ko x m0 μ0 K) (hM:Mid x m0 μ0 m p pos H wr (match x.fin with | true=>.stop H .fin p | false=>.go ⟨p,H,.block⟩)) (h7:8 * pos≤p+7) {r:Env}:
  CallM PP f_decompressor_finishBlock #[.pointer (some ⟨x.f,0,none⟩)] m fun v m'=>v=.tuple #[]∧K.kr r m':=by
 have hC:=hM.cm
 obtain ⟨a,k,he⟩:=hC.emp
 have ho:=hM.out
 have hle:=hC.base.inn.le
 refine finishBlock_spec hC.base (.none he hC.del) (.inl rfl) hC.fin (.inr trivial) (fun hf m' c1 f1=>?_) (fun hf m' wr' rd' l' hB hP hc hF hfl=>?_)
 ·rw [hf] at ho
  obtain ⟨ss,cl,cd,hctl,h2⟩:=hM.ctl
  have hB:=hC.base.ctl (f1.mono (ctl_f (by decide)))
  refine ⟨rfl,hK.kr r m' (.inl ⟨⟨p,H,.block⟩,pos,wr,x.rd,0,⟨hB,hM.room,.none (f1.cell he (by simp)) hC.del,⟨c1,h7,ss,cl,cd,hctl.fr f1 (by simp) (by simp) (by simp),?_⟩,ho,f1.cell hC.err (by simp),.inr ⟨rfl,by have h1:=hM.lt; have h2:=hK.le; show 2 * (x.c.tot - p) < x.Bd; omega⟩,fun h=>absurd h (by omega)⟩⟩)
   (hC.fr.trans (f1.mono (mv_f (by decide) (by decide) (by decide) (by decide))))⟩
  rcases h2 with h2 | ⟨h2,h3,h4,h5⟩
  ·exact .inl h2
  ·exact .inr ⟨h2,h5,h3,h4⟩
 ·rw [hf] at ho
  obtain ⟨g1,g2,g3⟩:=ho
  refine ⟨rfl,hK.kr r m' (.inr ⟨wr',rd',l',⟨hB.glob,by rw [g1]; exact hB.win,by rw [g1]; exact hP,hB.inn.own,⟨_,hc,by rw [g2]; rfl⟩,fun _=>?_,.inr hfl,fun h=>nil_at hB.inn.here h⟩⟩) (hC.fr.trans hF)⟩
  rw [g3,show (p+7) / 8=pos from by omega]
  exact hB.inn.here
theorem hb_sym (s:LbS) (hcp:s.cp=none) (hL:Lb x m0 m s) (hμ:s.mu x.c=μ0) (hK:Ko x m0 μ0 K):
  wpc PP FF 362 L_decompressor_huffmanBlock c_decompressor_huffmanBlock_lrr K (hbEnv x.f) m:=by
 refine p_decompressor_huffmanBlock_lrr x.f m K ?_
 obtain ⟨cp,p,pos,H,wr⟩:=s
 simp only at hcp
 subst hcp
 have hC:Cm x m0 m p pos H wr:=hL.cm
 have hroom:wr < 32768:=hL.room
 have hb:=hC.base
 have hmn:=hC.tb.lit.ok.mn
 have heob:=hC.tb.eob
 have hnb:=hC.nb
 have ho:Out x.c (gcoded x.c H x.fin x.T p) x.Hf x.e x.pf:=hL.runs.out
 have hμ':μ0=2 * (x.c.tot - p)+0:=hμ.symm
 unfold gcoded at ho
 obtain ⟨⟨b,o,B,h1,h2,h3⟩,h4⟩:=hC.tb.lit
 refine ⟨_,h1,?_⟩
 refine hb_huff hC (hT:=⟨⟨b,o,B,h1,h2,h3⟩,h4⟩) hmn h4.mn h1 (fun m1 pos1 k p1 g1 g2 g3 g4 g5 g6 g7 g8=>?_) (fun m1 v g1 g2 g3=>?_)
 ·rw [g1] at ho
  simp only at ho
  have hlt:x.T.lit (x.c.N / 2 ^ p) % 16 < 16:=Nat.mod_lt _ (by decide)
  have hle1:=g6.le
  have hk32:k < 4294967296:=by have:=h2.small (x.c.N / 2 ^ p); omega
  have hM:Mid x m0 μ0 m1 p1 pos1 H wr (gsym x.c H x.fin x.T k p1):=by
   refine ⟨hC.moved g6 g8 (by omega),hroom,ho,?_,by omega⟩
   obtain ⟨ss,cl,cd,hctl,q1,_⟩:=hL.ctl
   have hap:∀ j,1041≤j→ ¬ InS x.D x.f x.f j:=by
    rintro j hj (h1 | ⟨_,h1⟩)
    ·exact hb.inn.apart _ h1
    ·omega
   refine ⟨ss,cl,cd,hctl.fr g8 (hap _ (by simp)) (hap _ (by simp)) (hap _ (by simp)),?_⟩
   rcases q1 with q1 | ⟨q1,q2,q3,q4⟩
   ·exact .inl q1
   ·exact .inr ⟨q1,q2,q3,q4 rfl⟩
  have hC1:=hM.cm
  unfold gsym at ho
  refine ⟨_,_,rfl,rfl,ifB_f (ifB_of (fun ht=>?_) (fun ht=>?_))⟩
  ·have hk:k < 256:=by have:=of_decide_eq_true ht; omega
   rw [if_pos hk] at ho
   rw [wrap_u8_id (by omega) (by omega)]
   refine win_writeByte hC1.base.win k hk hroom fun m2 hW2 hf2=>⟨rfl,?_⟩
   have hC2:=hC1.wrote hW2 hf2 (by have h1:=hC1.del; have h2:=hC1.base.win.rd; simp only [List.length_append,List.length_singleton]; omega)
   obtain ⟨ss,cl,cd,hctl,q1⟩:=hM.ctl
   have hctl2:=ctl_wrote hb.ne hctl hf2
   refine win_availWrite hC2.base.win ⟨_,rfl,ifB_of (fun ht=>?_) (fun ht=>?_)⟩
   ·exact hb_suspend (pos:=pos1) hC2 hK none ho hctl2 (fun d n h=>by cases h) (by
     have h1:((32768 - (wr+1):Nat):Int)=0:=by simpa using ht
     omega)
   ·have hne:wr+1 < 32768:=by
     have:((32768 - (wr+1):Nat):Int)≠0:=by intro h; rw [h] at ht; simp at ht
     omega
    refine hK.kg _ m2 ⟨none,p1,pos1,H++[k],wr+1⟩ ⟨hC2,hne,ho,⟨ss,cl,cd,hctl2,?_,fun d n h=>by cases h⟩,by have:=hK.le; show 2 * (x.c.tot - p1)+0≤x.Bd; omega⟩ ?_ rfl
    ·rcases q1 with q1 | ⟨q1,q2,q3,q4⟩
     ·exact .inl q1
     ·exact .inr ⟨q1,q2,q3,fun _=>q4⟩
    ·show 2 * (x.c.tot - p1)+0 < μ0
     omega
  ·have hk: ¬ k < 256:=by have:=of_decide_eq_false ht; omega
   rw [if_neg hk] at ho
   refine ifB_of (fun ht=>?_) (fun ht=>?_)
   ·have hke:k=256:=by have:=eq_of_beq ht; omega
    rw [if_pos hke] at ho
    have hmn':=heob (x.c.N / 2 ^ p) (by omega) (by omega)
    exact hb_eob hK { hM with out:=ho } (by omega)
   ·have hke: ¬ k=256:=by intro h; subst h; simp at ht
    rw [if_neg hke] at ho
    have key:∀ (v:Value) (b ex:Nat),k < 286→lenOf k=(b,ex)→ex≤5→b+2 ^ ex≤259→WPS PP 362 c_decompressor_huffmanBlock_lrrlrrrrr (K.withN fun r m=>wpc PP FF 362 L_decompressor_huffmanBlock c_decompressor_huffmanBlock_lrrr K r m) [(0,.pointer (some ⟨x.f,0,none⟩)),(2,.int .i64 (k:Int)),(3,v),(4,.int .u64 (ex:Int)),(5,.int .i64 (b:Int))] m1:=by
     intro v b ex h286 hlen hex hb2
     rw [if_neg (by omega),hlen] at ho
     exact hb_ext (hK.withN _) { hM with out:=ho } hex hb2 g3 hmn rfl
    refine ifB_of (fun ht=>?_) (fun ht=>?_)
    ·have h5:k < 265:=by have:=of_decide_eq_true ht; omega
     rw [wrap64_id (by omega) (by omega),show ((k:Int) - 254)=((k - 254:Nat):Int) from by omega]
     exact key _ (k - 254) 0 (by omega) (by unfold lenOf; rw [if_pos h5]) (by omega) (by omega)
    have h5: ¬ k < 265:=by have:=of_decide_eq_false ht; omega
    refine ifB_of (fun ht=>?_) (fun ht=>?_)
    ·have h6:k < 269:=by have:=of_decide_eq_true ht; omega
     rw [wrap64_id (n:=(k:Int) * 2) (by omega) (by omega),wrap64_id (by omega) (by omega),show ((k:Int) * 2 - 519)=((k * 2 - 519:Nat):Int) from by omega]
     exact key _ (k * 2 - 519) 1 (by omega) (by unfold lenOf; rw [if_neg h5,if_pos h6]) (by omega) (by omega)
    have h6: ¬ k < 269:=by have:=of_decide_eq_false ht; omega
    refine ifB_of (fun ht=>?_) (fun ht=>?_)
    ·have h7:k < 273:=by have:=of_decide_eq_true ht; omega
     rw [wrap64_id (n:=(k:Int) * 4) (by omega) (by omega),wrap64_id (by omega) (by omega),show ((k:Int) * 4 - 1057)=((k * 4 - 1057:Nat):Int) from by omega]
     exact key _ (k * 4 - 1057) 2 (by omega) (by unfold lenOf; rw [if_neg h5,if_neg h6,if_pos h7]) (by omega) (by omega)
    have h7: ¬ k < 273:=by have:=of_decide_eq_false ht; omega
    refine ifB_of (fun ht=>?_) (fun ht=>?_)
    ·have h8:k < 277:=by have:=of_decide_eq_true ht; omega
     rw [wrap64_id (n:=(k:Int) * 8) (by omega) (by omega),wrap64_id (by omega) (by omega),show ((k:Int) * 8 - 2149)=((k * 8 - 2149:Nat):Int) from by omega]
     exact key _ (k * 8 - 2149) 3 (by omega) (by unfold lenOf; rw [if_neg h5,if_neg h6,if_neg h7,if_pos h8]) (by omega) (by omega)
    have h8: ¬ k < 277:=by have:=of_decide_eq_false ht; omega
    refine ifB_of (fun ht=>?_) (fun ht=>?_)
    ·have h9:k < 281:=by have:=of_decide_eq_true ht; omega
     rw [wrap64_id (n:=(k:Int) * 16) (by omega) (by omega),wrap64_id (by omega) (by omega),show ((k:Int) * 16 - 4365)=((k * 16 - 4365:Nat):Int) from by omega]
     exact key _ (k * 16 - 4365) 4 (by omega) (by unfold lenOf; rw [if_neg h5,if_neg h6,if_neg h7,if_neg h8,if_pos h9]) (by omega) (by omega)
    have h9: ¬ k < 281:=by have:=of_decide_eq_false ht; omega
    refine ifB_of (fun ht=>?_) (fun ht=>?_)
    ·have h10:k < 285:=by have:=of_decide_eq_true ht; omega
     rw [wrap64_id (n:=(k:Int) * 32) (by omega) (by omega),wrap64_id (by omega) (by omega),show ((k:Int) * 32 - 8861)=((k * 32 - 8861:Nat):Int) from by omega]
     exact key _ (k * 32 - 8861) 5 (by omega) (by unfold lenOf; rw [if_neg h5,if_neg h6,if_neg h7,if_neg h8,if_neg h9,if_pos h10]) (by omega) (by omega)
    have h10: ¬ k < 285:=by have:=of_decide_eq_false ht; omega
    refine ifB_of (fun ht=>?_) (fun ht=>?_)
    ·have h11:k < 286:=by have:=of_decide_eq_true ht; omega
     exact key _ 258 0 (by omega) (by unfold lenOf; rw [if_neg h5,if_neg h6,if_neg h7,if_neg h8,if_neg h9,if_neg h10]) (by omega) (by omega)
    have h11: ¬ k < 286:=by have:=of_decide_eq_false ht; omega
    rw [if_pos (by omega)] at ho
    exact ⟨_,hC1.base.inn.off,hC1.corrupt ho hK⟩
 ·have hi:isIfc v=true∧isNil v=false:=by rcases g1 with ⟨_,g⟩ | ⟨_,g⟩ <;> exact g.ifc
  refine ⟨_,_,rfl,hi.1,?_⟩
  rw [hi.2]
  refine ifB_t (hb_huffErr hC hK g1 ⟨fun g=>?_,fun g=>?_⟩ g2 g3)
  ·rw [g] at ho; exact ho
  ·rw [g] at ho; exact ho
end
end Go.M

namespace Go.M
open Go
set_option maxRecDepth 100000
section
variable {E:Errs} {src:List Nat} {x:Fx E src} {m0 m:Mem} {μ0 p pos wr:Nat} {H:List Nat} {K:Kont}
theorem Cm.ctlS (h:Cm x m0 m p pos H wr) {m':Mem} {j:Nat} (hf:Fr (fun i k=>i=x.f∧k=j) m m') (h1:1041≤j) (h2:j≠1047) (h3:j≠1048) (h4:j≠1049) (h5:j≠1050) (h6:j≠1051):Cm x m0 m' p pos H wr:=by
 have F:=hf.mono (mv_f (D:=x.D) (f:=x.f) (bh:=x.bh) (j:=j) (by omega) h2 h5 h6)
 obtain ⟨a,k,he⟩:=h.emp
 exact ⟨h.base.ctl (hf.mono (ctl_f h1)),h.tb.fr h.base F,h.base.stays F h.fin (.inl rfl),hf.cell h.err (by simp; omega),⟨a,k,hf.cell he (by simp; omega)⟩,h.del,h.nb,h.fr.trans F⟩
theorem hb_after (hC:Cm x m0 m p pos H wr) (hK:Ko x m0 μ0 K) (hμ:2 * (x.c.tot - p) < μ0) {d n cnt ss:Nat} (hcnt:cnt≤n) (hr:RunsB x.c ⟨p,H,.copy x.fin x.T d (n - cnt)⟩ x.Hf x.e x.pf) (hc:Ctl m x.f ss n d) (hss:ss=0∨ss=1)
  (hd:0 < d) (hd2:d≤32768) (hl:n - cnt=0∨d≤H.length) (hn:n≤258) (hfull:n - cnt=0∨wr=32768) {r:Env} (hrr:Env.keep [0,9] r=[(0,.pointer (some ⟨x.f,0,none⟩)),(9,.int .i64 (cnt:Int))]):
  WPS PP 362 c_decompressor_huffmanBlock_lrrrrrr K r m:=by
 refine WPS.piece k_decompressor_huffmanBlock_lrrrrrr hrr (p_decompressor_huffmanBlock_lrrrrrr x.f cnt m K ⟨_,hc.2.1,?_⟩)
 rw [wrap64_id (by omega) (by omega),show ((n:Int) - cnt)=((n - cnt:Nat):Int) from by omega]
 refine StW.at rfl (hC.base.inn.own 1052 (by decide)) fun m1 c1 f1 _=>?_
 have hC1:=hC.ctlS f1 (by decide) (by decide) (by decide) (by decide) (by decide) (by decide)
 have hctl:Ctl m1 x.f ss (n - cnt) d:=⟨f1.cell hc.1 (by simp),c1,f1.cell hc.2.2 (by simp)⟩
 have hq:∀ d' n',some (d,n - cnt)=some (d',n')→n - cnt=n'∧d=d'∧0 < d'∧d'≤32768∧(n'=0∨d'≤H.length)∧n'≤258:=by
  intro d' n' h
  simp only [Option.some.injEq,Prod.mk.injEq] at h
  obtain ⟨rfl,rfl⟩:=h
  exact ⟨rfl,rfl,hd,hd2,hl,by omega⟩
 refine win_availWrite hC1.base.win ⟨_,rfl,ifB_of (fun ht=>?_) (fun ht=>?_)⟩
 ·exact hb_suspend (pos:=pos) hC1 hK (some (d,n - cnt)) hr hctl hq (by
   have h1:((32768 - wr:Nat):Int)=0:=by simpa using ht
   have h2:=hC1.base.win.le
   omega)
 ·have hle:=hC1.base.win.le
  have hne:wr < 32768:=by
   have:((32768 - wr:Nat):Int)≠0:=by intro h; rw [h] at ht; simp at ht
   omega
  refine ⟨_,hctl.2.1,ifB_of (fun ht=>?_) (fun ht=>?_)⟩
  ·exact hb_suspend (pos:=pos) hC1 hK (some (d,n - cnt)) hr hctl hq (by
    have h1:=of_decide_eq_true ht
    rcases hfull with h2 | h2 <;> omega)
  ·have h0:n - cnt=0:=by have:=of_decide_eq_false ht; omega
   rw [h0] at hr hctl
   have hr2:=hr.go (s':=⟨p,H,.coded x.fin x.T⟩) rfl
   refine hK.kg _ m1 ⟨none,p,pos,H,wr⟩ ⟨hC1,hne,hr2,⟨ss,0,d,hctl,?_,fun d n h=>by cases h⟩,by have:=hK.le; show 2 * (x.c.tot - p)+0≤x.Bd; omega⟩ ?_ rfl
   ·rcases hss with h | h
    ·exact .inl h
    ·exact .inr ⟨h,hd,hd2,fun _=>rfl⟩
   ·show 2 * (x.c.tot - p)+0 < μ0
    omega
theorem hb_copy (s:LbS) {d n:Nat} (hcp:s.cp=some (d,n)) (hL:Lb x m0 m s) (hμ:s.mu x.c=μ0) (hK:Ko x m0 μ0 K):
  wpc PP FF 362 L_decompressor_huffmanBlock c_decompressor_huffmanBlock_lrrrr K (hbEnv x.f) m:=by
 obtain ⟨cp,p,pos,H,wr⟩:=s
 simp only at hcp
 subst hcp
 have hC:Cm x m0 m p pos H wr:=hL.cm
 have hroom:wr < 32768:=hL.room
 have hμ':μ0=2 * (x.c.tot - p)+1:=hμ.symm
 obtain ⟨ss,cl,cd,hctl,q1,q2⟩:=hL.ctl
 obtain ⟨rfl,rfl,hd,hd2,hl,hn⟩:=q2 d n rfl
 have hl:cl=0∨cd≤H.length:=hl
 have hss:ss=0∨ss=1:=by
  rcases q1 with h | ⟨h,_⟩
  ·exact .inl h
  ·exact .inr h
 have hr:RunsB x.c ⟨p,H,.copy x.fin x.T cd cl⟩ x.Hf x.e x.pf:=hL.runs
 have hne:=hC.base.ne
 have second:∀ m1,Cm x m0 m1 p pos H wr→Ctl m1 x.f ss cl cd→CallM PP f_dictDecoder_writeCopy #[.pointer (some ⟨x.f,1037,none⟩),.int .i64 (cd:Int),.int .i64 (cl:Int)] m1 fun v9 m10=>∃ (x8:Int),v9=.int .i64 x8∧
   WPS PP 362 c_decompressor_huffmanBlock_lrrrrrr K [(0,.pointer (some ⟨x.f,0,none⟩)),(9,.int .i64 x8)] m10:=by
  intro m1 hC1 hct
  refine win_writeCopy hC1.base.win cd cl hd hd2 hl hn fun m2 hW hf=>⟨_,rfl,?_⟩
  have hrd:=hC1.base.win.rd
  have hdel:=hC1.del
  have hC2:=hC1.wrote hW hf (by rw [lz_length]; omega)
  have hr2:RunsB x.c ⟨p,lz H cd (min cl (32768 - wr)),.copy x.fin x.T cd (cl - min cl (32768 - wr))⟩ x.Hf x.e x.pf:=by
   refine RunsB.copies (k:=min cl (32768 - wr)) ?_
   rw [Nat.sub_add_cancel (Nat.min_le_left _ _)]
   exact hr
  exact hb_after hC2 hK (by omega) (Nat.min_le_left _ _) hr2 (ctl_wrote hne hct hf) hss hd hd2 (by rw [lz_length]; omega) hn (by omega) rfl
 refine p_decompressor_huffmanBlock_lrrrr x.f m K ⟨_,hctl.2.2,_,hctl.2.1,?_⟩
 refine win_tryWriteCopy hC.base.win cd cl hd hd2 hl hn ⟨_,rfl,ifB_t ⟨_,hctl.2.2,_,hctl.2.1,second m hC hctl⟩⟩ fun m2 hw hW hf=>⟨_,rfl,?_⟩
 have hrd:=hC.base.win.rd
 have hdel:=hC.del
 have hC2:=hC.wrote hW hf (by rw [lz_length]; omega)
 have hct2:=ctl_wrote hne hctl hf
 refine ifB_of (fun ht=>?_) (fun ht=>?_)
 ·have h0:cl=0:=by have:=eq_of_beq ht; omega
  subst h0
  exact ⟨_,hct2.2.2,_,hct2.2.1,second m2 hC2 hct2⟩
 ·have hr2:RunsB x.c ⟨p,lz H cd cl,.copy x.fin x.T cd (cl - cl)⟩ x.Hf x.e x.pf:=by
   refine RunsB.copies (k:=cl) ?_
   rw [Nat.sub_self,Nat.zero_add]
   exact hr
  exact hb_after hC2 hK (by omega) (Nat.le_refl _) hr2 hct2 hss hd hd2 (.inl (by omega)) hn (.inl (by omega)) rfl
theorem huffmanBlock_spec (s:LbS) (hL:Lb x m m s) (hentry:∃ ss cl cd,Ctl m x.f ss cl cd∧(ss=0∧s.cp=none∨ss=1∧s.cp.isSome=true)) {R:Value→Mem→Prop}
  (hk:∀ m',Back x.D x.f x.bh x.c x.Hf x.e x.pf x.Dl x.Bd m'→Fr (Mv x.D x.f x.bh) m m'→R (.tuple #[]) m'):
  CallM PP f_decompressor_huffmanBlock #[.pointer (some ⟨x.f,0,none⟩)] m R:=by
 refine e_decompressor_huffmanBlock x.f m R ?_
 rw [q_decompressor_huffmanBlock_]
 refine scopeW ffOk mixedOk (L₀:=L_decompressor_huffmanBlock) (σ:=LbS) [0] (fun _=>hbEnv x.f) (fun s m'=>Lb x m m' s) (fun s=>s.mu x.c) LbS.lab
  (fun s=>match s.cp with | none=>.seq .skip c_decompressor_huffmanBlock_lrr | some _=>.seq .skip c_decompressor_huffmanBlock_lrrrr) ?_ ?_ ?_
 ·intro s
  cases hcp:s.cp with
  | none=>simp only [LbS.lab,hcp]; exact l_decompressor_huffmanBlock__0
  | some q=>simp only [LbS.lab,hcp]; exact l_decompressor_huffmanBlock__1
 ·obtain ⟨ss,cl,cd,hctl,hs⟩:=hentry
  refine p_decompressor_huffmanBlock_l x.f m _ ⟨_,hctl.1,?_⟩
  rcases hs with ⟨rfl,hcp⟩ | ⟨rfl,hcp⟩
  ·exact ifB_t ⟨s,by simp only [LbS.lab,hcp],rfl,hL⟩
  ·refine ifB_f (ifB_t ⟨s,?_,rfl,hL⟩)
   obtain ⟨q,hq⟩:=Option.isSome_iff_exists.1 hcp
   simp only [LbS.lab,hq]
 ·intro s m1 hL1
  have hKo:Ko x m (s.mu x.c) ((retK PP r_decompressor_huffmanBlock R).withG fun l r m'=>∃ s',LbS.lab s'=l∧Env.keep [0] r=hbEnv x.f∧Lb x m m' s'∧s'.mu x.c < s.mu x.c):=
   ⟨fun r m' hb hf=>hk m' hb hf,fun r m' s' h1 h2 h3=>⟨s',rfl,h3,h1,h2⟩,hL1.le⟩
  cases hcp:s.cp with
  | none=>
   simp only
   exact WPS.skipSeq (wpc_sound ffOk mixedOk (hb_sym s hcp hL1 rfl hKo))
  | some q=>
   obtain ⟨d,n⟩:=q
   simp only
   exact WPS.skipSeq (wpc_sound ffOk mixedOk (hb_copy s hcp hL1 rfl hKo))
end
end Go.M

namespace Go.M
open Go
set_option maxRecDepth 100000
section
variable {E:Errs} {src:List Nat} {D:Rdr E src} {f bh:Nat} {m:Mem} {H:List Nat} {wr rd:Nat}
theorem win_mark (hW:Win m f bh H wr rd) {m':Mem} {S:Nat→Nat→Prop} (hf:Fr S m m') (T:List Nat) (h1:∀ j,1037≤j→j≤1040→ ¬ S f j) (h2:∀ j,S bh j→wr≤j∧j < wr+T.length) (hT:∀ v ∈ T,v < 256)
  (hdat:∀ i v,T[i]?=some v→cell? m' ⟨bh,wr+i,none⟩=some (.int .u8 ((v:Nat):Int))) (hle:wr+T.length≤32768) {R:Value→Mem→Prop}
  (hk:∀ m'',Win m'' f bh (H++T) (wr+T.length) rd→Fr (DictS f bh) m' m''→R (.tuple #[]) m''):
  CallM PP f_dictDecoder_writeMark #[.pointer (some ⟨f,1037,none⟩),.int .i64 (T.length:Int)] m' R:=by
 obtain ⟨h,full,hD,hH⟩:=hW.ex
 have hD':DictAt m' f bh (fun i=>if wr≤i∧i < wr+T.length then ((T.getD (i - wr) 0:Nat):Int) else h i) wr rd full:=by
  refine ⟨hf.cell hD.hist (h1 _ (by simp) (by simp)),hf.cell hD.wr (h1 _ (by simp) (by simp)),hf.cell hD.rd (h1 _ (by simp) (by simp)),hf.cell hD.full (h1 _ (by simp) (by simp)),fun i hi=>?_,fun i g1 g2=>(hD.wf i g1 g2).fr hf,fun i g1=>(hD.wh i g1).fr hf,hD.ne⟩
  by_cases hc:wr≤i∧i < wr+T.length
  ·rw [if_pos hc]
   have:=hdat (i - wr) (T.getD (i - wr) 0) (by rw [List.getD_eq_getElem?_getD,List.getElem?_eq_getElem (by omega)]; rfl)
   rw [show wr+(i - wr)=i from by omega] at this
   exact this
  ·rw [if_neg hc]
   exact hf.cell (hD.data i hi) fun hS=>hc (h2 _ hS)
 refine writeMark_spec hD' T.length hle fun m'' g1 g2=>hk m'' ⟨⟨_,full,g1,hH.pushes T hle _ fun i=>rfl⟩,by have:=hW.rd; omega,?_⟩ g2
 intro v hv
 rcases List.mem_append.1 hv with hv | hv
 ·exact hW.byte v hv
 ·exact hT v hv
def bytesFrom (N pos n:Nat):List Nat:=(List.range n).map fun i=>tk N (8 * pos+8 * i) 8
theorem bytesFrom_length (N pos n:Nat):(bytesFrom N pos n).length=n:=by simp [bytesFrom]
theorem bytesFrom_get {N pos n i:Nat} {v:Nat} (h:(bytesFrom N pos n)[i]?=some v):i < n∧v=tk N (8 * pos+8 * i) 8:=by
 unfold bytesFrom at h
 rw [List.getElem?_map] at h
 by_cases hi:i < n
 ·rw [List.getElem?_range hi] at h
  simp only [Option.map_some,Option.some.injEq] at h
  exact ⟨hi,h.symm⟩
 ·rw [List.getElem?_eq_none (by simpa using hi)] at h
  cases h
theorem bytesFrom_lt (N pos n:Nat):∀ v ∈ bytesFrom N pos n,v < 256:=by
 intro v hv
 obtain ⟨i,_,rfl⟩:=List.mem_map.1 hv
 exact tk_lt N _ 8
theorem srcByte {i c:Nat} (hb:∀ v ∈ src,v < 256) (h:src[i]?=some c):tk (num src) (8 * i) 8=c:=num_byte hb h
theorem In.byBytes {pos:Nat} (h:In D f (8 * pos) pos m) {m1 m2:Mem} {b o n pos':Nat} (hA:D.At pos' m1) (hf:Fr (RoomS D b o n) m m1) (hbf:b=f→5≤o) (hc:cell? m2 ⟨f,2,none⟩=some (.int .i64 (pos':Nat)))
  (hf2:Fr (fun i j=>i=f∧j=2) m1 m2):In D f (8 * pos') pos' m2:=by
 have hno:∀ j,j≤4→ ¬ RoomS D b o n f j:=by
  rintro j hj (h1 | ⟨rfl,h1,h2⟩)
  ·exact h.apart _ h1
  ·have:=hbf rfl; omega
 have e0:∀ q,tk (num src) (8 * q) (8 * q - 8 * q)=0:=by intro q; rw [Nat.sub_self]; unfold tk; rw [Nat.pow_zero,Nat.mod_one]
 refine { r:=hf2.cell (hf.cell h.r (hno _ (by simp))) (by simp),here:=D.fr hA hf2 (by rintro i j hij ⟨rfl,_⟩; exact h.apart _ hij),off:=hc,b:=?_,nb:=?_,le:=Nat.le_refl _,few:=by omega,own:=(h.own.fr hf).fr hf2,apart:=h.apart,lo:=h.lo,bytes:=h.bytes,big:=h.big }
 ·have:=hf2.cell (hf.cell h.b (hno _ (by simp))) (by simp)
  rw [e0] at this ⊢; exact this
 ·have:=hf2.cell (hf.cell h.nb (hno _ (by simp))) (by simp)
  rw [Nat.sub_self] at this ⊢; exact this
theorem room_mv {L:Nat} (i j:Nat) (h:RoomS D bh wr L i j):Mv D f bh i j:=by
 rcases h with h | ⟨rfl,_⟩
 ·exact .inl h
 ·exact .inr (.inl rfl)
def cdTail (f:Nat) (R:Value→Mem→Prop) (ev:Value) (m14:Mem):Prop:=
 ifB (!(isNil ev)) (CallM PP f_inflate_noEOF #[ev] m14 fun v16 m17=>∃ (v15:Value),v16=v15∧StW m17 ⟨f,1048,none⟩ v15 fun m18=>R (.tuple #[]) m18)
  (CallM PP f_dictDecoder_availWrite #[.pointer (some ⟨f,1037,none⟩)] m14 fun v20 m21=>∃ (x19:Int),v20=.int .i64 x19∧ifB (x19 == 0)
   (CallM PP f_dictDecoder_readFlush #[.pointer (some ⟨f,1037,none⟩)] m21 fun v25 m26=>∃ (a22:Option Addr),∃ (l23:Nat),∃ (k24:Nat),v25=.slice a22 l23 k24∧StW m26 ⟨f,1049,none⟩ (.slice a22 l23 k24) fun m27=>StW m27 ⟨f,1045,none⟩ (.func (.func f_decompressor_copyData) #[] #[]) fun m28=>R (.tuple #[]) m28)
   (∃ (x29:Int),cell? m21 ⟨f,1052,none⟩=some (.int .i64 x29)∧ifB (decide (x29 > 0))
    (CallM PP f_dictDecoder_readFlush #[.pointer (some ⟨f,1037,none⟩)] m21 fun v33 m34=>∃ (a30:Option Addr),∃ (l31:Nat),∃ (k32:Nat),v33=.slice a30 l31 k32∧StW m34 ⟨f,1049,none⟩ (.slice a30 l31 k32) fun m35=>StW m35 ⟨f,1045,none⟩ (.func (.func f_decompressor_copyData) #[] #[]) fun m36=>R (.tuple #[]) m36)
    (CallM PP f_decompressor_finishBlock #[.pointer (some ⟨f,0,none⟩)] m21 fun v37 m38=>v37=.tuple #[]∧R (.tuple #[]) m38)))
theorem cd_common {c:Sc} {Dl pos n ss cd:Nat} {fin:Bool} (hN:c.N=num src) (hB:Base D f bh m (8 * pos) pos H wr rd) (hfin:cell? m ⟨f,1047,none⟩=some (.bool fin))
  (herr:cell? m ⟨f,1048,none⟩=some .nilIface) (hemp:∃ a k,cell? m ⟨f,1049,none⟩=some (.slice a 0 k)) (hdel:Dl+(wr - rd)=H.length) (hc:Ctl m f ss n cd) (hn:n < 65536)
  {C:Nat} {ev:Value} {m8:Mem} (hC1:C≤32768 - wr) (hC2:C≤n) (hpc:pos+C≤src.length) (hA:D.At (pos+C) m8) (hS:SrcAt src m8 bh wr pos C) (hF:Fr (RoomS D bh wr C) m m8) (hev:isIfc ev=true) {R:Value→Mem→Prop}
  (hfinal:∀ m14,Base D f bh m14 (8 * (pos+C)) (pos+C) (H++bytesFrom c.N pos C) (wr+C) rd→Fr (Mv D f bh) m m14→Ctl m14 f ss (n - C) cd→cell? m14 ⟨f,1047,none⟩=some (.bool fin)→cell? m14 ⟨f,1048,none⟩=some .nilIface→
   (∃ a k,cell? m14 ⟨f,1049,none⟩=some (.slice a 0 k))→Dl+(wr+C - rd)=(H++bytesFrom c.N pos C).length→cdTail f R ev m14):
  ∃ (x5:Int),∃ (v6:Value),Value.tuple #[.int .i64 (C:Int),ev]=.tuple #[.int .i64 x5,v6]∧∃ (x9:Int),cell? m8 ⟨f,2,none⟩=some (.int .i64 x9)∧StW m8 ⟨f,2,none⟩ (.int .i64 (IntKind.wrap .i64 (x9+x5))) fun m10=>∃ (x11:Int),cell? m10 ⟨f,1052,none⟩=some (.int .i64 x11)∧StW m10 ⟨f,1052,none⟩ (.int .i64 (IntKind.wrap .i64 (x11 - x5))) fun m12=>
   CallM PP f_dictDecoder_writeMark #[.pointer (some ⟨f,1037,none⟩),.int .i64 x5] m12 fun v13 m14=>v13=.tuple #[]∧isIfc v6=true∧cdTail f R v6 m14:=by
 have hne:=hB.ne
 have hbig:=hB.inn.big
 have hI:=hB.inn
 have hwle:=hB.win.le
 have hno:∀ j, ¬ RoomS D bh wr C f j:=by
  rintro j (h1 | ⟨h1,_⟩)
  ·exact hI.apart _ h1
  ·exact hne h1.symm
 refine ⟨_,_,rfl,_,hF.cell hI.off (hno _),?_⟩
 rw [wrap64_id (by omega) (by omega)]
 refine StW.at rfl ((hI.own.fr hF) 2 (by decide)) fun m10 c10 f10 _=>?_
 have hI10:=hI.byBytes (m2:=m10) hA hF (fun e=>absurd e hne) (by rw [c10]; rfl) f10
 refine ⟨_,f10.cell (hF.cell hc.2.1 (hno _)) (by simp),?_⟩
 rw [wrap64_id (by omega) (by omega),show ((n:Int) - C)=((n - C:Nat):Int) from by omega]
 refine StW.at rfl (hI10.own 1052 (by decide)) fun m12 c12 f12 _=>?_
 have F12:Fr (fun i j=>RoomS D bh wr C i j∨(i=f∧(j=2∨j=1052))) m m12:=(hF.mono fun i j h=>.inl h).trans ((f10.mono fun i j ⟨e1,e2⟩=>.inr ⟨e1,.inl e2⟩).trans (f12.mono fun i j ⟨e1,e2⟩=>.inr ⟨e1,.inr e2⟩))
 have hno12:∀ j,j≠2→j≠1052→ ¬ (RoomS D bh wr C f j∨(f=f∧(j=2∨j=1052))):=by
  rintro j h1 h2 (h3 | ⟨_,h3⟩)
  ·exact hno _ h3
  ·omega
 have hI12:In D f (8 * (pos+C)) (pos+C) m12:=hI10.fr f12 (by
  rintro i j (h1 | ⟨rfl,h1⟩) ⟨e,h2⟩
  ·subst e; exact hI.apart _ h1
  ·omega)
 have M12:Fr (Mv D f bh) m m12:=F12.mono (by
  rintro i j ((h1 | ⟨rfl,_⟩) | ⟨rfl,h1⟩)
  ·exact .inl h1
  ·exact .inr (.inl rfl)
  ·exact .inr (.inr ⟨rfl,by omega⟩))
 obtain ⟨a,k,he⟩:=hemp
 refine (show CallM _ _ #[_,.int .i64 ((bytesFrom c.N pos C).length:Int)] m12 _→CallM _ _ #[_,.int .i64 (C:Int)] m12 _ from by rw [bytesFrom_length]; exact id) ?_
 refine win_mark hB.win F12 (bytesFrom c.N pos C) (fun j g1 g2=>hno12 j (by omega) (by omega)) (fun j hj=>?_) (bytesFrom_lt c.N pos C) (fun i v hv=>?_) (by rw [bytesFrom_length]; omega) fun m14 hW14 f14=>⟨rfl,hev,?_⟩
 ·rw [bytesFrom_length]
  rcases hj with (h1 | ⟨_,h1⟩) | ⟨h1,_⟩
  ·exact absurd h1 (hB.nbh _)
  ·exact h1
  ·exact absurd h1 hne
 ·obtain ⟨hi,rfl⟩:=bytesFrom_get hv
  have hlt:pos+i < src.length:=by omega
  have:=hS i src[pos+i] hi (List.getElem?_eq_getElem hlt)
  have h2:tk c.N (8 * pos+8 * i) 8=src[pos+i]:=by
   rw [hN,show 8 * pos+8 * i=8 * (pos+i) from by omega]
   exact srcByte hI.bytes (List.getElem?_eq_getElem hlt)
  rw [h2]
  exact f12.cell (f10.cell this (by rintro ⟨e,_⟩; exact hne e)) (by rintro ⟨e,_⟩; exact hne e)
 ·rw [bytesFrom_length] at hW14
  have hap:∀ j,1041≤j→ ¬ DictS f bh f j:=by
   rintro j hj (⟨_,_,h1⟩ | h1)
   ·omega
   ·exact hne h1.symm
  have hB12:Base D f bh m14 (8 * (pos+C)) (pos+C) (H++bytesFrom c.N pos C) (wr+C) rd:=by
   refine ⟨hI12.fr f14 fun i j h1 h2=>hB.apartI i j h2 h1,(hB.glob.fr M12 (Mv.lo hB)).fr f14 ?_,hW14,hB.nbh,hB.lobh,hne⟩
   rintro i j (⟨rfl,_⟩ | rfl)
   ·exact hI.lo
   ·exact hB.lobh
  have hrd:=hB.win.rd
  refine hfinal m14 hB12 (M12.trans (f14.mono mv_dict)) ?_ ?_ ?_ ⟨a,k,?_⟩ (by rw [List.length_append,bytesFrom_length]; omega)
  ·exact ⟨f14.cell (F12.cell hc.1 (hno12 _ (by simp) (by simp))) (hap _ (by simp)),f14.cell c12 (hap _ (by simp)),f14.cell (F12.cell hc.2.2 (hno12 _ (by simp) (by simp))) (hap _ (by simp))⟩
  ·exact f14.cell (F12.cell hfin (hno12 _ (by simp) (by simp))) (hap _ (by simp))
  ·exact f14.cell (F12.cell herr (hno12 _ (by simp) (by simp))) (hap _ (by simp))
  ·exact f14.cell (F12.cell he (hno12 _ (by simp) (by simp))) (hap _ (by simp))
theorem cd_suspend {c:Sc} {Hf:List Nat} {e:Er} {pf Dl Bd pos n ss cd:Nat} {fin:Bool} (hfl:wr=32768) (hB:Base D f bh m (8 * pos) pos H wr rd) (hfin:cell? m ⟨f,1047,none⟩=some (.bool fin)) (herr:cell? m ⟨f,1048,none⟩=some .nilIface)
  (hdel:Dl+(wr - rd)=H.length) (hc:Ctl m f ss n cd) (hss:ss=0∨ss=1∧0 < cd∧cd≤32768) (hn:n < 65536) (hr:RunsB c ⟨8 * pos,H,.stored fin n⟩ Hf e pf) (hl:rd < wr) {R:Value→Mem→Prop}
  (hk:∀ m',Back D f bh c Hf e pf Dl Bd m'→Fr (Mv D f bh) m m'→R (.tuple #[]) m'):
  CallM PP f_dictDecoder_readFlush #[.pointer (some ⟨f,1037,none⟩)] m fun v25 m26=>∃ (a22:Option Addr),∃ (l23:Nat),∃ (k24:Nat),v25=.slice a22 l23 k24∧StW m26 ⟨f,1049,none⟩ (.slice a22 l23 k24) fun m27=>
   StW m27 ⟨f,1045,none⟩ (.func (.func f_decompressor_copyData) #[] #[]) fun m28=>R (.tuple #[]) m28:=by
 have hne:=hB.ne
 refine hB.flush hdel fun m2 wr' hB2 hlt hP2 hf2=>?_
 refine StW.at rfl (hB2.inn.own 1045 (by decide)) fun m3 c3 f3 _=>?_
 have hB3:=hB2.ctl (f3.mono (ctl_f (by decide)))
 have F2:Fr (Mv D f bh) m m2:=hf2.mono flush_mv
 have F3:Fr (Mv D f bh) m2 m3:=f3.mono (mv_f (by decide) (by decide) (by decide) (by decide))
 refine hk m3 (.inl ⟨⟨8 * pos,H,.stored fin n⟩,pos,wr',wr',wr - rd,⟨hB3,hlt,hP2.fr f3 (by simp) (by rintro j ⟨e,_⟩; exact hne e),⟨c3,f3.cell (hB.stays F2 hfin (.inl rfl)) (by simp),rfl,hn,ss,cd,?_,hss⟩,hr,f3.cell (hf2.cell herr (by simp)) (by simp),.inl (by omega),fun _=>.inl (show 32768≤H.length by have:=hB.win.wr_le; omega)⟩⟩) (F2.trans F3)
 exact (hc.fr hf2 (by simp) (by simp) (by simp)).fr f3 (by simp) (by simp) (by simp)
theorem cd_finish {c:Sc} {Hf:List Nat} {e:Er} {pf Dl Bd p pos ss cl cd l:Nat} {fin:Bool} (hfu:fin=false→0 < l→32768≤H.length∨Ends c) (hB:Base D f bh m p pos H wr rd) (hroom:wr < 32768) (h7:8 * pos≤p+7) (hfin:cell? m ⟨f,1047,none⟩=some (.bool fin)) (herr:cell? m ⟨f,1048,none⟩=some .nilIface)
  (hP:Pend m f bh H wr rd Dl l) (hl:l=0∨wr=rd) (hc:Ctl m f ss cl cd) (hss:ss=0∨ss=1∧cl=0∧0 < cd∧cd≤32768) (hr:RunsB c ⟨p,H,.stored fin 0⟩ Hf e pf) (hBd:2 * (c.tot - p) < Bd) {R:Value→Mem→Prop}
  (hk:∀ m',Back D f bh c Hf e pf Dl Bd m'→Fr (Mv D f bh) m m'→R (.tuple #[]) m'):
  CallM PP f_decompressor_finishBlock #[.pointer (some ⟨f,0,none⟩)] m fun v37 m38=>v37=.tuple #[]∧R (.tuple #[]) m38:=by
 have hle:=hB.inn.le
 have hne:=hB.ne
 refine finishBlock_spec hB hP hl hfin (.inr trivial) (fun hf m' c1 f1=>⟨rfl,?_⟩) (fun hf m' wr' rd' l' hB' hP' hc' hF hfl=>⟨rfl,?_⟩)
 ·subst hf
  have hr2:=hr.go (s':=⟨p,H,.block⟩) rfl
  have hB1:=hB.ctl (f1.mono (ctl_f (by decide)))
  refine hk m' (.inl ⟨⟨p,H,.block⟩,pos,wr,rd,l,⟨hB1,hroom,hP.fr f1 (by simp) (by rintro j ⟨e,_⟩; exact hne e),⟨c1,h7,ss,cl,cd,hc.fr f1 (by simp) (by simp) (by simp),hss⟩,hr2,f1.cell herr (by simp),.inr ⟨rfl,hBd⟩,hfu rfl⟩⟩)
   (f1.mono (mv_f (by decide) (by decide) (by decide) (by decide)))
 ·subst hf
  obtain ⟨g1,g2,g3⟩:=hr.end (H':=H) (e':=.fin) (p':=p) rfl
  refine hk m' (.inr ⟨wr',rd',l',⟨hB'.glob,by rw [g1]; exact hB'.win,by rw [g1]; exact hP',hB'.inn.own,⟨_,hc',by rw [g2]; rfl⟩,fun _=>?_,.inr hfl,fun h=>nil_at hB'.inn.here h⟩⟩) hF
  rw [g3,show (p+7) / 8=pos from by omega]
  exact hB'.inn.here
theorem copyData_spec {c:Sc} {Hf:List Nat} {e:Er} {pf Dl Bd pos n ss cd:Nat} {fin:Bool} (hN:c.N=num src) (ht:c.tot=8 * src.length) (hB:Base D f bh m (8 * pos) pos H wr rd) (hroom:wr < 32768) (hfin:cell? m ⟨f,1047,none⟩=some (.bool fin))
  (herr:cell? m ⟨f,1048,none⟩=some .nilIface) (hemp:∃ a k,cell? m ⟨f,1049,none⟩=some (.slice a 0 k)) (hdel:Dl+(wr - rd)=H.length) (hc:Ctl m f ss n cd) (hss:ss=0∨ss=1∧0 < cd∧cd≤32768) (hn:n < 65536)
  (hr:RunsB c ⟨8 * pos,H,.stored fin n⟩ Hf e pf) (hBd:2 * (c.tot - 8 * pos) < Bd) {R:Value→Mem→Prop} (hk:∀ m',Back D f bh c Hf e pf Dl Bd m'→Fr (Mv D f bh) m m'→R (.tuple #[]) m'):
  CallM PP f_decompressor_copyData #[.pointer (some ⟨f,0,none⟩)] m R:=by
 obtain ⟨h0,full,hD,hH⟩:=hB.win.ex
 have hne:=hB.ne
 have hlo:=hB.inn.lo
 have hbig:=hB.inn.big
 have hpl:=hB.inn.pos_le
 have piece:∀ L,L=min n (32768 - wr)→WPS PP 83 c_decompressor_copyData_rr (retK PP r_decompressor_copyData R) [(0,.pointer (some ⟨f,0,none⟩)),(2,.slice (some ⟨bh,wr,none⟩) L (32768 - wr))] m:=by
  intro L hL
  have hRm:Room D m (some ⟨bh,wr,none⟩) bh wr L (32768 - wr):=⟨fun _=>rfl,by omega,fun i hi=>hD.wh _ (by omega),fun i _=>hB.nbh _,hB.lobh,by omega⟩
  refine WPS.piece k_decompressor_copyData_rr rfl (p_decompressor_copyData_rr f _ L _ m _ ⟨_,hB.inn.r,?_⟩)
  refine readFull_spec hB.inn.here hB.glob hRm hbig (fun m8 g1 g2 g3 g4=>?_) (fun m8 g1 g2 g3 g4=>?_)
  ·refine cd_common (C:=L) hN hB hfin herr hemp hdel hc hn (by omega) (by omega) g1 g2 g3 g4 rfl fun m14 B14 F14 C14 fin14 err14 emp14 del14=>?_
   have hr14:RunsB c ⟨8 * (pos+L),H++bytesFrom c.N pos L,.stored fin (n - L)⟩ Hf e pf:=by
    have:=RunsB.stored (c:=c) (k:=L) (n:=n - L) (p:=8 * pos) (by omega) (by rw [Nat.sub_add_cancel (by omega)]; exact hr)
    rw [← Nat.mul_add] at this
    exact this
   refine ifB_f (win_availWrite B14.win ⟨_,rfl,ifB_of (fun ht=>?_) (fun ht=>?_)⟩)
   ·have hfull:((32768 - (wr+L):Nat):Int)=0:=by simpa using ht
    have hrd0:=hB.win.rd
    exact cd_suspend (by have:=B14.win.le; omega) B14 fin14 err14 del14 C14 hss (by omega) hr14 (by omega) fun m' hb hf=>hk m' hb (F14.trans hf)
   ·have hne2:wr+L < 32768:=by
     have:((32768 - (wr+L):Nat):Int)≠0:=by intro h; rw [h] at ht; simp at ht
     omega
    refine ⟨_,C14.2.1,ifB_of (fun ht=>?_) (fun ht=>?_)⟩
    ·have hmore:=of_decide_eq_true ht
     have hrd0:=hB.win.rd
     exact cd_suspend (by omega) B14 fin14 err14 del14 C14 hss (by omega) hr14 (by omega) fun m' hb hf=>hk m' hb (F14.trans hf)
    ·have h0:n - L=0:=by have:=of_decide_eq_false ht; omega
     rw [h0] at hr14 C14
     obtain ⟨a,k,he⟩:=emp14
     refine cd_finish (fun _ h=>absurd h (by omega)) B14 hne2 (by omega) fin14 err14 (.none he del14) (.inl rfl) C14 ?_ hr14 (by omega) fun m' hb hf=>hk m' hb (F14.trans hf)
     rcases hss with h | ⟨h,h2⟩
     ·exact .inl h
     ·exact .inr ⟨h,rfl,h2⟩
  ·have hLlt:src.length - pos < L:=by omega
   refine cd_common (C:=src.length - pos) hN hB hfin herr hemp hdel hc hn (by omega) (by omega) (by omega) (by rw [show pos+(src.length - pos)=src.length from by omega]; exact g2) g3 g4 (by split <;> rfl) fun m14 B14 F14 C14 fin14 err14 emp14 del14=>?_
   have hr14:RunsB c ⟨8 * (pos+(src.length - pos)),H++bytesFrom c.N pos (src.length - pos),.stored fin (n - (src.length - pos))⟩ Hf e pf:=by
    have:=RunsB.stored (c:=c) (k:=src.length - pos) (n:=n - (src.length - pos)) (p:=8 * pos) (by omega) (by rw [Nat.sub_add_cancel (by omega)]; exact hr)
    rw [← Nat.mul_add] at this
    exact this
   obtain ⟨q1,q2,q3⟩:=hr14.end (H':=H++bytesFrom c.N pos (src.length - pos)) (e':=.cut) (p':=8 * (pos+(src.length - pos))) (by
    obtain ⟨q,hq⟩:=Nat.exists_eq_succ_of_ne_zero (show n - (src.length - pos)≠0 by omega)
    rw [hq]
    show (if _ then _ else _)=_
    rw [if_pos (by simp only; omega)])
   have fin:∀ {R':Value→Mem→Prop},R' E.cut m14→CallM PP f_inflate_noEOF #[if src.length - pos=0 then E.eof else E.cut] m14 R':=by
    intro R' h
    split
    ·exact noEOF_eof B14.glob h
    ·exact noEOF_cut B14.glob h
   have hnn:isNil (if src.length - pos=0 then E.eof else E.cut)=false:=by split <;> rfl
   show ifB (!(isNil (if src.length - pos=0 then E.eof else E.cut))) _ _
   rw [hnn]
   refine ifB_t (fin ⟨_,rfl,?_⟩)
   obtain ⟨a,k,he⟩:=emp14
   refine B14.fails (e:=.cut) (pf:=pf) he del14 rfl (by decide) fun m' hE hF=>hk m' (.inr ⟨wr+(src.length - pos),rd,0,?_⟩) (F14.trans hF)
   rw [q1,q2]; exact hE
 refine e_decompressor_copyData f m R ?_
 refine e_dictDecoder_writeSlice f m _ ⟨_,_,_,hD.hist,_,hD.wr,by omega,⟨by omega,by omega⟩,?_⟩
 simp only [Int.toNat_natCast]
 rw [subA_lt hroom,Nat.zero_add]
 refine ⟨_,_,_,rfl,_,hc.2.1,ifB_of (fun h=>?_) (fun h=>?_)⟩
 ·have hlt:n < 32768 - wr:=by have:=of_decide_eq_true h; omega
  refine ⟨_,hc.2.1,by omega,⟨by omega,by omega⟩,?_⟩
  rw [Int.toNat_natCast]
  exact piece n (by omega)
 ·have hge:32768 - wr≤n:=by have:=of_decide_eq_false h; omega
  exact piece (32768 - wr) (by omega)
end
end Go.M

namespace Go.M
open Go
set_option maxRecDepth 100000
theorem not_u16 {n:Nat} (h:n < 65536):IntKind.wrap .u16 (bitsOp .xor .i64 (-1) (n:Int))=((65535 - n:Nat):Int):=by
 have key:∀ b:BitVec 64,b.toNat < 65536→((BitVec.ofInt 64 (-1)) ^^^ b).toNat % 65536=65535 - b.toNat:=by
  intro b hb
  have h1:(BitVec.ofInt 64 (-1)) ^^^ b= ~~~ b:=by
   rw [BitVec.not_def]; rfl
  rw [h1,BitVec.toNat_not]
  omega
 have hb:(BitVec.ofInt 64 (n:Int)).toNat=n:=ofInt_toNat (by omega)
 unfold bitsOp
 have:=key (BitVec.ofInt 64 (n:Int)) (by rw [hb]; exact h)
 rw [hb] at this
 rw [wrap_u16]
 show (IntKind.wrap .i64 (((BitVec.ofInt 64 (-1)) ^^^ (BitVec.ofInt 64 (n:Int))).toNat:Int)) % 65536=_
 have hw:∀ x:Int,IntKind.wrap .i64 x % 65536=x % 65536:=by
  intro x
  have e:IntKind.wrap .i64 x=if x % 18446744073709551616 ≥ 9223372036854775808 then x % 18446744073709551616 - 18446744073709551616 else x % 18446744073709551616:=by
   simp [IntKind.wrap,IntKind.bits,IntKind.signed]
  rw [e]
  split <;> omega
 rw [hw]
 omega
section
variable {E:Errs} {src:List Nat} {D:Rdr E src} {f bh:Nat} {m:Mem} {H:List Nat} {wr rd:Nat}
theorem or16 {a b:Nat} (ha:a < 256) (hb:b < 256):bitsOp .or .i64 (IntKind.wrap .i64 (a:Int)) (shlOp .i64 (IntKind.wrap .i64 (b:Int)) 8)=((a+256 * b:Nat):Int):=by
 rw [wrap64_id (by omega) (by omega),wrap64_id (by omega) (by omega)]
 have h1:=shl_nat (k:=.i64) (a:=b) (s:=8) (by decide)
 rw [wrap64_id (by omega) (by omega)] at h1
 have h2:shlOp .i64 ((b:Nat):Int) 8=((b * 2 ^ 8:Nat):Int):=h1
 rw [h2,or_i64 (by omega) (by omega),or_add _ (by show _ < 2 ^ 8; omega)]
theorem tk16 {pos:Nat} {a b:Nat} (hb:∀ v ∈ src,v < 256) (h1:src[pos]?=some a) (h2:src[pos+1]?=some b):tk (num src) (8 * pos) 16=a+256 * b:=by
 rw [show (16:Nat)=8+8 from rfl,tk_add,srcByte hb h1,show 8 * pos+8=8 * (pos+1) from by omega,srcByte hb h2]
theorem dataBlock_spec {c:Sc} {Hf:List Nat} {e:Er} {pf Dl Bd p p0 pos ss cl cd:Nat} {fin:Bool} (hN:c.N=num src) (ht:c.tot=8 * src.length) (hB:Base D f bh m p pos H wr rd) (hroom:wr < 32768) (hfin:cell? m ⟨f,1047,none⟩=some (.bool fin))
  (herr:cell? m ⟨f,1048,none⟩=some .nilIface) (hemp:∃ a k,cell? m ⟨f,1049,none⟩=some (.slice a 0 k)) (hdel:Dl+(wr - rd)=H.length) (hc:Ctl m f ss cl cd) (hss:ss=0∨ss=1∧cl=0∧0 < cd∧cd≤32768)
  (hr:Out c (if c.tot < 8 * pos+32 then .stop H .cut p0 else if tk c.N (8 * pos) 16+tk c.N (8 * pos+16) 16≠65535 then .stop H .bad p0 else .go ⟨8 * pos+32,H,.stored fin (tk c.N (8 * pos) 16)⟩) Hf e pf) (hBd:2 * (c.tot - 8 * pos) < Bd)
  {R:Value→Mem→Prop} (hk:∀ m',Back D f bh c Hf e pf Dl Bd m'→Fr (Mv D f bh) m m'→R (.tuple #[]) m'):
  CallM PP f_decompressor_dataBlock #[.pointer (some ⟨f,0,none⟩)] m R:=by
 have hne:=hB.ne
 have hbig:=hB.inn.big
 have hpl:=hB.inn.pos_le
 have hle:=hB.inn.le
 obtain ⟨a0,k0,he⟩:=hemp
 refine e_decompressor_dataBlock f m R (StW.at rfl (hB.inn.own 4 (by decide)) fun m1 c1 f1 _=>?_)
 have i1:=hB.inn.to0.set f1 (by decide) (by decide)
 refine StW.at rfl (i1.own 3 (by decide)) fun m2 c2 f2 _=>?_
 have i2:=i1.set f2 (by decide) (by decide)
 have e0:∀ q,tk (num src) (8 * q) (8 * q - 8 * q)=0:=by intro q; rw [Nat.sub_self]; unfold tk; rw [Nat.pow_zero,Nat.mod_one]
 have I2:In D f (8 * pos) pos m2:=i2.of (by rw [e0]; exact c2) (by rw [Nat.sub_self]; exact f2.cell c1 (by simp)) (Nat.le_refl _) (by omega)
 have F2:Fr (InS D f) m m2:=(f1.mono (by rintro i j ⟨rfl,rfl⟩; exact .inr ⟨rfl,.inr (by decide)⟩)).trans (f2.mono (by rintro i j ⟨rfl,rfl⟩; exact .inr ⟨rfl,.inr (by decide)⟩))
 have F2':Fr (fun i j=>InS D f i j∨(i=f∧j=1048)) m m2:=F2.mono fun i j h=>.inl h
 have B2:=hB.moved I2 F2'
 have hapI:∀ j,1041≤j→ ¬ InS D f f j:=by
  rintro j hj (h1 | ⟨_,h1⟩)
  ·exact hB.inn.apart _ h1
  ·omega
 have fin2:=hB.stays (F2'.mono mv_in) hfin (.inl rfl)
 have err2:=F2.cell herr (hapI _ (by simp))
 have emp2:=F2.cell he (hapI _ (by simp))
 have C2:Ctl m2 f ss cl cd:=hc.fr F2 (hapI _ (by simp)) (hapI _ (by simp)) (hapI _ (by simp))
 refine ⟨_,I2.r,⟨by decide,by decide⟩,⟨by decide,by decide⟩,?_⟩
 have hRm:Room D m2 (some ⟨f,1041,none⟩) f 1041 4 4:=⟨fun _=>rfl,Nat.le_refl _,fun i hi=>I2.own _ (by omega),fun i _=>I2.apart _,I2.lo,by decide⟩
 have step:∀ q m7,pos+q≤src.length→q≤4→D.At (pos+q) m7→Fr (RoomS D f 1041 q) m2 m7→∀ {K:Mem→Prop},(∀ m9,Base D f bh m9 (8 * (pos+q)) (pos+q) H wr rd→Fr (Mv D f bh) m m9→cell? m9 ⟨f,1047,none⟩=some (.bool fin)→cell? m9 ⟨f,1048,none⟩=some .nilIface→
   cell? m9 ⟨f,1049,none⟩=some (.slice a0 0 k0)→Ctl m9 f ss cl cd→Fr (fun i j=>i=f∧j=2) m7 m9→K m9)→∃ (x8:Int),cell? m7 ⟨f,2,none⟩=some (.int .i64 x8)∧StW m7 ⟨f,2,none⟩ (.int .i64 (IntKind.wrap .i64 (x8+(q:Int)))) K:=by
  intro q m7 hq hq4 hA hF K hK
  have hno:∀ j,(j≤1040∨1045≤j)→ ¬ RoomS D f 1041 q f j:=by
   rintro j hj (h1 | ⟨_,h1,h2⟩)
   ·exact I2.apart _ h1
   ·omega
  refine ⟨_,hF.cell I2.off (hno _ (by simp)),?_⟩
  rw [wrap64_id (by omega) (by omega)]
  refine StW.at rfl ((I2.own.fr hF) 2 (by decide)) fun m9 c9 f9 _=>?_
  have I9:=I2.byBytes (m2:=m9) hA hF (fun _=>by decide) (by rw [c9]; rfl) f9
  have F79:Fr (fun i j=>D.S i j∨(i=f∧(j=2∨(1041≤j∧j≤1044)))) m2 m9:=(hF.mono (by
   rintro i j (h1 | ⟨rfl,h1,h2⟩)
   ·exact .inl h1
   ·exact .inr ⟨rfl,by omega⟩)).trans (f9.mono (by rintro i j ⟨rfl,rfl⟩; exact .inr ⟨rfl,.inl rfl⟩))
  have hno9:∀ j,1045≤j→ ¬ (D.S f j∨(f=f∧(j=2∨(1041≤j∧j≤1044)))):=by
   rintro j hj (h1 | ⟨_,h1⟩)
   ·exact I2.apart _ h1
   ·omega
  have M79:Fr (Mv D f bh) m2 m9:=F79.mono (by
   rintro i j (h1 | ⟨rfl,h1⟩)
   ·exact .inl h1
   ·exact .inr (.inr ⟨rfl,by omega⟩))
  refine hK m9 ⟨I9,B2.glob.fr M79 (Mv.lo B2),B2.win.fr F79 ?_,hB.nbh,hB.lobh,hne⟩ ((F2'.mono mv_in).trans M79) (F79.cell fin2 (hno9 _ (by simp))) (F79.cell err2 (hno9 _ (by simp))) (F79.cell emp2 (hno9 _ (by simp)))
   (C2.fr F79 (hno9 _ (by simp)) (hno9 _ (by simp)) (hno9 _ (by simp))) f9
  rintro i j (⟨rfl,h1,h2⟩ | rfl) (h3 | ⟨e,h3⟩)
  ·exact I2.apart _ h3
  ·omega
  ·exact hB.nbh _ h3
  ·exact hne e
 refine readFull_spec I2.here B2.glob hRm hbig (fun m7 g1 g2 g3 g4=>⟨_,_,rfl,?_⟩) (fun m7 g1 g2 g3 g4=>⟨_,_,rfl,?_⟩)
 ·refine step 4 m7 g1 (Nat.le_refl _) g2 g4 fun m9 B9 F9 fin9 err9 emp9 C9 f9=>⟨rfl,ifB_f ?_⟩
  have hno: ¬ c.tot < 8 * pos+32:=by omega
  rw [if_neg hno] at hr
  have hby:=hB.inn.bytes
  have q0:src[pos]?=some src[pos]:=List.getElem?_eq_getElem (by omega)
  have q1:src[pos+1]?=some src[pos+1]:=List.getElem?_eq_getElem (by omega)
  have q2:src[pos+2]?=some src[pos+2]:=List.getElem?_eq_getElem (by omega)
  have q3:src[pos+3]?=some src[pos+3]:=List.getElem?_eq_getElem (by omega)
  have l0:=hby _ (List.mem_of_getElem? q0)
  have l1:=hby _ (List.mem_of_getElem? q1)
  have l2:=hby _ (List.mem_of_getElem? q2)
  have l3:=hby _ (List.mem_of_getElem? q3)
  refine ⟨⟨by decide,by decide⟩,_,f9.cell (g3 0 _ (by decide) q0) (by simp),⟨by decide,by decide⟩,_,f9.cell (g3 1 _ (by decide) q1) (by simp),by decide,rfl,⟨by decide,by decide⟩,_,f9.cell (g3 2 _ (by decide) q2) (by simp),⟨by decide,by decide⟩,_,f9.cell (g3 3 _ (by decide) q3) (by simp),by decide,rfl,?_⟩
  rw [or16 l0 l1,or16 l2 l3]
  have t0:tk c.N (8 * pos) 16=src[pos]+256 * src[pos+1]:=by rw [hN]; exact tk16 hby q0 q1
  have t1:tk c.N (8 * pos+16) 16=src[pos+2]+256 * src[pos+3]:=by rw [hN,show 8 * pos+16=8 * (pos+2) from by omega]; exact tk16 hby q2 q3
  rw [← t0, ← t1]
  have b0:tk c.N (8 * pos) 16 < 65536:=tk_lt c.N _ 16
  have b1:tk c.N (8 * pos+16) 16 < 65536:=tk_lt c.N _ 16
  rw [not_u16 b0,wrap_u16_id (by omega) (by omega)]
  refine ifB_of (fun h=>?_) (fun h=>?_)
  ·have hneq:tk c.N (8 * pos) 16+tk c.N (8 * pos+16) 16≠65535:=by
    intro h2
    have:((tk c.N (8 * pos+16) 16:Nat):Int)=((65535 - tk c.N (8 * pos) 16:Nat):Int):=by omega
    rw [this] at h; simp at h
   rw [if_pos hneq] at hr
   obtain ⟨r1,r2,r3⟩:=hr
   refine ⟨_,B9.inn.off,B9.fails (e:=.bad) (pf:=pf) emp9 hdel ⟨_,rfl⟩ (by decide) fun m' hE hF=>hk m' (.inr ⟨wr,rd,0,by rw [r1,r2]; exact hE⟩) (F9.trans hF)⟩
  ·have heq: ¬ tk c.N (8 * pos) 16+tk c.N (8 * pos+16) 16≠65535:=by
    have:((tk c.N (8 * pos+16) 16:Nat):Int)=((65535 - tk c.N (8 * pos) 16:Nat):Int):=by simpa using h
    omega
   rw [if_neg heq] at hr
   have hr:RunsB c ⟨8 * (pos+4),H,.stored fin (tk c.N (8 * pos) 16)⟩ Hf e pf:=hr
   refine ifB_of (fun h=>?_) (fun h=>?_)
   ·have h0:tk c.N (8 * pos) 16=0:=by have:=eq_of_beq h; omega
    rw [h0] at hr
    refine B9.flush hdel fun m2' wr' hB2 hlt hP2 hf2=>?_
    have F2m:Fr (Mv D f bh) m9 m2':=hf2.mono flush_mv
    exact cd_finish (fun hf _=>.inr ⟨_,(hr.go (s':=⟨8 * (pos+4),H,.block⟩) (by rw [hf]; rfl)).frm,rfl,by show 0 < 8 * (pos+4); omega⟩) hB2 hlt (by omega) (B9.stays F2m fin9 (.inl rfl)) (hf2.cell err9 (by simp)) hP2 (.inr rfl) (C9.fr hf2 (by simp) (by simp) (by simp)) hss hr (by omega) fun m' hb hf=>hk m' hb (F9.trans (F2m.trans hf))
   ·refine StW.at rfl (B9.inn.own 1052 (by decide)) fun m28 c28 f28 _=>?_
    have B28:=B9.ctl (f28.mono (ctl_f (by decide)))
    refine copyData_spec hN ht B28 hroom (f28.cell fin9 (by simp)) (f28.cell err9 (by simp)) ⟨_,_,f28.cell emp9 (by simp)⟩ hdel (ss:=ss) (cd:=cd) ⟨f28.cell C9.1 (by simp),c28,f28.cell C9.2.2 (by simp)⟩ ?_ b0 hr (by omega) fun m' hb hf=>⟨rfl,hk m' hb (F9.trans ((f28.mono (mv_f (by decide) (by decide) (by decide) (by decide))).trans hf))⟩
    rcases hss with h | ⟨h,_,h2⟩
    ·exact .inl h
    ·exact .inr ⟨h,h2⟩
 ·refine step (src.length - pos) m7 (by omega) (by omega) (by rw [show pos+(src.length - pos)=src.length from by omega]; exact g2) g4 fun m9 B9 F9 fin9 err9 emp9 C9 f9=>⟨by split <;> rfl,?_⟩
  have hyes:c.tot < 8 * pos+32:=by omega
  rw [if_pos hyes] at hr
  obtain ⟨r1,r2,r3⟩:=hr
  have fin:∀ {R':Value→Mem→Prop},R' E.cut m9→CallM PP f_inflate_noEOF #[if src.length - pos=0 then E.eof else E.cut] m9 R':=by
   intro R' h
   split
   ·exact noEOF_eof B9.glob h
   ·exact noEOF_cut B9.glob h
  have hnn:isNil (if src.length - pos=0 then E.eof else E.cut)=false:=by split <;> rfl
  rw [hnn]
  refine ifB_t (fin ⟨_,rfl,?_⟩)
  exact B9.fails (e:=.cut) (pf:=pf) emp9 hdel rfl (by decide) fun m' hE hF=>hk m' (.inr ⟨wr,rd,0,by rw [r1,r2]; exact hE⟩) (F9.trans hF)
end
end Go.M
