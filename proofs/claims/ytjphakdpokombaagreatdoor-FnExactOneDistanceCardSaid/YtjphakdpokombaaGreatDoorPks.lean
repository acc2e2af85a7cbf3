/- Rows of numbers in memory: read, and grown. The reference's reader of bits: its state in memory, frames, single bits. The reference: bytes from a distance back. The reference: rows of lengths; used, Room. The reference: canonical codes. The reference: lengths and distances by their codes. The reference: the fixed codes' lengths. -/
import Derived.Test.YtjphakdpokombaaGreatDoorPkq
import Derived.Test.YtjphakdpokombaaGreatDoorPkl
namespace Go.M
open Go
set_option maxRecDepth 100000
structure SlcI (m:Mem) (a:Option Addr) (l k b o:Nat) (d:List Nat):Prop where
 len:d.length=l
 cap:l≤k
 at_:0 < l→a=some ⟨b,o,none⟩
 data:∀ (i v:Nat),d[i]?=some v→cell? m ⟨b,o+i,none⟩=some (.int .i64 (v:Int))
theorem SlcI.fr {S:Nat→Nat→Prop} {m m':Mem} {a:Option Addr} {l k b o:Nat} {d:List Nat} (h:SlcI m a l k b o d) (hf:Fr S m m') (hs:0 < l→∀ j, ¬ S b j):SlcI m' a l k b o d:=
 ⟨h.len,h.cap,h.at_,fun i v hv=>hf.cell (h.data i v hv) (hs (by have:=(List.getElem?_eq_some_iff.1 hv).1; have:=h.len; omega) _)⟩
theorem SlcI.old {m m':Mem} {a:Option Addr} {l k b o:Nat} {d:List Nat} (h:SlcI m a l k b o d) (hf:∀ S,Fr S m m'):SlcI m' a l k b o d:=h.fr (hf fun _ _=>False) fun _ _=>id
theorem SlcB.sp {m m':Mem} {a:Option Addr} {l k b o:Nat} {d:List Nat} {S:Nat→Nat→Prop} (h:SlcB m a l k b o d) (hf:Fr S m m') (hs:0 < l→∀ j, ¬ S b j):SlcB m' a l k b o d:=
 ⟨h.len,h.cap,h.at_,fun i hi=>hf.cell (h.data i hi) (hs (by omega) _),h.byte⟩
theorem build1_W {x:Int} {m:Mem} {K:Value→Mem→Prop} (h:K (.slice (some ⟨m.size,0,none⟩) 1 1) (m.push (.cells #[.int .u8 x] t_uint8))):
  SemW PP (sv (Instr.buildSlice t_s_uint8 1 #[(0,.int .u8 x)])) m (NextW PP K):=Eq.mpr (by kernel_rfl) h
theorem cells_of_wr {m:Mem} {b o:Nat} (hw:Wr m ⟨b,o,none⟩):∃ c t fr,m[b]?=some (.cells c t fr):=by
 obtain ⟨⟨v,hv⟩,_⟩:=hw
 unfold cell? at hv
 cases hb:m[b]? with
 | none=>simp only [hb] at hv; cases hv
 | some x=>
  cases x with
  | cells c t fr=>exact ⟨c,t,fr,rfl⟩
  | _=>simp only [hb] at hv; cases hv
theorem u_s_int:PP.underlying t_s_int=some (.slice t_int):=by kernel_rfl
theorem one_int:∃ i,One PP t_int (.int .i64 0) 8 i:=one_of (by kernel_rfl) (by kernel_rfl)
def i64V (v:Nat):Value:=.int .i64 (v:Int)
structure OutI (m:Mem) (a:Option Addr) (l k b o:Nat) (d:List Nat):Prop where
 own:Own m a l k 1 (d.map i64V) b o
 i64:0 < k→∀ j v,cell? m ⟨b,j,none⟩=some v→∃ x,v=.int .i64 x
theorem OutI.nil (m:Mem) (b:Nat):OutI m none 0 0 b 0 []:=⟨⟨rfl,Nat.le_refl _,by omega,fun i v h=>by simp at h,fun i h=>by omega⟩,by omega⟩
theorem OutI.len {m:Mem} {a:Option Addr} {l k b o:Nat} {d:List Nat} (h:OutI m a l k b o d):d.length=l:=by simpa using h.own.len
theorem OutI.slc {m:Mem} {a:Option Addr} {l k b o:Nat} {d:List Nat} (h:OutI m a l k b o d):SlcI m a l k b o d:=
 ⟨h.len,h.own.le,fun h0=>h.own.at_ (by have:=h.own.le; omega),fun i v hv=>h.own.row i _ (by rw [List.getElem?_map,hv]; rfl)⟩
theorem OutI.fr {m m':Mem} {S:Nat→Nat→Prop} {a:Option Addr} {l k b o:Nat} {d:List Nat} (h:OutI m a l k b o d) (hf:Fr S m m') (hs:0 < k→∀ j, ¬ S b j):OutI m' a l k b o d:=by
 refine ⟨⟨h.own.len,h.own.le,h.own.at_,?_,h.own.wr.fr hf⟩,fun h0 j v hv=>?_⟩
 ·refine h.own.row.fr hf fun i hi=>hs ?_ _
  have:=h.own.len; have:=h.own.le; omega
 ·obtain ⟨⟨w,hw⟩,_⟩:=h.own.wr 0 (by omega)
  obtain ⟨v',hv'⟩:=hf.back hw hv
  have:=hf.cell hv' (hs h0 j)
  rw [hv] at this
  simp only [Option.some.injEq] at this
  rw [this]; exact h.i64 h0 j v' hv'
theorem build1I_W {x:Int} {m:Mem} {K:Value→Mem→Prop} (h:K (.slice (some ⟨m.size,0,none⟩) 1 1) (m.push (.cells #[.int .i64 x] t_int))):
  SemW PP (sv (Instr.buildSlice t_s_int 1 #[(0,.int .i64 x)])) m (NextW PP K):=Eq.mpr (by kernel_rfl) h
theorem pushI_W {m:Mem} {a:Option Addr} {l k b o:Nat} {d:List Nat} (hO:OutI m a l k b o d) (v:Nat) (hbig:l≤1048576) {K:Option Addr→Nat→Nat→Mem→Prop}
  (hk:∀ m' a' k' b' o',OutI m' a' (l+1) k' b' o' (d++[v])→0 < k'→((b'=b∧k'=k)∨m.size≤b')→Fr (fun x _=>x=b∧0 < k) m m'→K a' (l+1) k' m'):
  SemW PP (sv (Instr.buildSlice t_s_int 1 #[(0,.int .i64 (v:Int))])) m (NextW PP fun v11 m12=>∃ (a8:Option Addr),∃ (l9:Nat),∃ (k10:Nat),v11=.slice a8 l9 k10∧SemW PP (builtin .append #[t_s_int,t_s_int] t_s_int #[false,false] #[.slice a l k,.slice a8 l9 k10]) m12 (NextW PP fun v16 m17=>∃ (a13:Option Addr),∃ (l14:Nat),∃ (k15:Nat),v16=.slice a13 l14 k15∧K a13 l14 k15 m17)):=by
 refine build1I_W ⟨_,_,_,rfl,?_⟩
 have f1:∀ S,Fr S m (m.push (.cells #[.int .i64 (v:Int)] t_int)):=fun S=>Fr.push _
 have c1:cell? (m.push (.cells #[.int .i64 (v:Int)] t_int)) ⟨m.size,0,none⟩=some (.int .i64 (v:Int)):=cell_new (c:=#[.int .i64 (v:Int)]) (i:=0) rfl
 have s1:(m.push (.cells #[.int .i64 (v:Int)] t_int)).size=m.size+1:=Array.size_push ..
 generalize m.push (.cells #[.int .i64 (v:Int)] t_int)=m1 at f1 c1 s1 ⊢
 have hO1:=hO.fr (f1 fun _ _=>False) fun _ _=>id
 obtain ⟨iu,hi⟩:=one_int
 refine append_Q (d2:=.slice t_int) u_s_int u_s_int (by intro k h; cases h) hi.info hi.zero (by rw [hi.size]; decide) (by rw [hi.size]; rfl) b o m.size 0 (d.map i64V) [i64V v] (by rw [hi.size]; exact hO1.own) (by rw [hi.size]; rfl) ?_ (fun _=>rfl) ?_ (by rw [hi.bytes]; omega) (by rw [hi.bytes]; decide) ?_
 ·intro x hx
  rw [List.mem_singleton.1 hx]; rfl
 ·intro i x hx
  cases i with
  | zero=>simp only [List.getElem?_cons_zero,Option.some.injEq] at hx; subst hx; exact c1
  | succ i=>simp at hx
 ·intro m' a' k' b' o' hown hb hf h0 hQ
  rw [hi.size] at hown
  refine ⟨_,_,_,rfl,hk m' a' k' b' o' ⟨by rw [List.map_append]; exact hown,fun h1=>?_⟩ (h0 (by decide)) ?_ ((f1 _).trans hf)⟩
  ·refine hQ (fun v=>∃ x,v=.int .i64 x) ?_ ?_ ?_ hO1.i64 h1
   ·intro v hv; simp only [List.mem_map] at hv; obtain ⟨x,_,rfl⟩:=hv; exact ⟨_,rfl⟩
   ·intro x hx; rw [List.mem_singleton.1 hx]; exact ⟨_,rfl⟩
   ·intro v hv
    have:v ∈ #[Value.int .i64 0]:=hv
    exact ⟨_,by simpa using this⟩
  ·rcases hb with ⟨rfl,_,rfl⟩ | ⟨rfl,_⟩
   ·exact .inl ⟨rfl,rfl⟩
   ·exact .inr (by omega)
end Go.M

namespace Go.M
open Go
set_option maxRecDepth 100000
structure SpF (N0 s:Nat) (m m':Mem):Prop where
 size:m.size≤m'.size
 cells:∀ (i:Nat) (c:Array Value) (t:TypeId) (fr:Nat×Nat),m[i]?=some (.cells c t fr)→∃ c',m'[i]?=some (.cells c' t fr)∧c'.size=c.size∧
  ∀ (j:Nat) (v:Value),c[j]?=some v→(i < N0∨i≠s∧∀ x:Int,v≠.int .u8 x)→c'[j]?=some v
 objs:∀ (i:Nat) (o:Obj),m[i]?=some o→(∀ c t fr,o≠.cells c t fr)→m'[i]?=some o
theorem SpF.refl (N0 s:Nat) (m:Mem):SpF N0 s m m:=⟨Nat.le_refl _,fun _ c _ _ h=>⟨c,h,rfl,fun _ _ h _=>h⟩,fun _ _ h _=>h⟩
theorem SpF.trans {N0 s:Nat} {m m' m'':Mem} (h:SpF N0 s m m') (h':SpF N0 s m' m''):SpF N0 s m m'':=by
 refine ⟨Nat.le_trans h.size h'.size,fun i c t fr hc=>?_,fun i o ho hn=>h'.objs i o (h.objs i o ho hn) hn⟩
 obtain ⟨c',h1,h2,h3⟩:=h.cells i c t fr hc
 obtain ⟨c'',h4,h5,h6⟩:=h'.cells i c' t fr h1
 exact ⟨c'',h4,h5.trans h2,fun j v hv hk=>h6 j v (h3 j v hv hk) hk⟩
theorem SpF.of_fr {N0 s:Nat} {m m':Mem} {S:Nat→Nat→Prop} (h:Fr S m m') (h1:∀ i j,S i j→N0≤i) (h2:∀ i j v,S i j→i≠s→cell? m ⟨i,j,none⟩=some v→∃ x,v=.int .u8 x) (h3:∀ i,S i 0→∃ c t fr,m[i]?=some (.cells c t fr)∨m.size≤i):SpF N0 s m m':=by
 refine ⟨h.size,fun i c t fr hc=>?_,fun i o ho hn=>h.objs i o ho hn fun hs=>?_⟩
 ·obtain ⟨c',k1,k2,k3⟩:=h.cells i c t fr hc
  refine ⟨c',k1,k2,fun j v hv hk=>?_⟩
  rw [k3 j ?_]
  ·exact hv
  ·intro hs
   rcases hk with hk | ⟨hk1,hk2⟩
   ·have:=h1 _ _ hs; omega
   ·obtain ⟨x,hx⟩:=h2 i j v hs hk1 (by simp only [cell?,hc]; simpa using hv)
    exact hk2 x hx
 ·obtain ⟨c,t,fr,hc⟩:=h3 i hs
  rcases hc with hc | hc
  ·rw [hc] at ho
   simp only [Option.some.injEq] at ho
   exact hn _ _ _ ho.symm
  ·have:=(Array.getElem?_eq_some_iff.1 ho).1; omega
theorem SpF.cell {N0 s:Nat} {m m':Mem} (h:SpF N0 s m m') {b o:Nat} {v:Value} (hc:cell? m ⟨b,o,none⟩=some v) (hk:b < N0∨b≠s∧∀ x,v≠.int .u8 x):cell? m' ⟨b,o,none⟩=some v:=by
 unfold cell? at hc ⊢
 cases hb:m[b]? with
 | none=>simp only [hb] at hc; cases hc
 | some x=>
  cases x with
  | cells c t fr=>
   obtain ⟨c',h1,h2,h3⟩:=h.cells _ _ _ _ hb
   simp only [hb,Option.isSome_none,Bool.false_eq_true,if_false] at hc
   simp only [h1,Option.isSome_none,Bool.false_eq_true,if_false]
   exact h3 o v hc hk
  | _=>simp only [hb] at hc; cases hc
theorem SpF.fresh {N0 s:Nat} {m m':Mem} (h:∀ S,Fr S m m'):SpF N0 s m m':=.of_fr (h fun _ _=>False) (by intro _ _ h; exact h.elim) (by intro _ _ _ h; exact h.elim) (by intro _ h; exact h.elim)
structure SpAt (N0 s:Nat) (src dict:List Nat) (at_:Nat) (out:List Nat) (z:Int) (m:Mem):Prop where
 srcA:∃ a l k b o,cell? m ⟨s,0,none⟩=some (.slice a l k)∧SlcB m a l k b o src∧(0 < l→b < N0)
 pos:cell? m ⟨s,1,none⟩=some (.int .i64 (at_:Int))
 dictA:∃ a l k b o,cell? m ⟨s,2,none⟩=some (.slice a l k)∧SlcB m a l k b o dict∧(0 < l→b < N0)
 outA:∃ a l k b o,cell? m ⟨s,3,none⟩=some (.slice a l k)∧OutB m a l k b o out∧(0 < k→N0≤b∧b≠s)
 z:cell? m ⟨s,4,none⟩=some (.int .i64 z)
 wr:∀ i,1≤i→i≤4→Wr m ⟨s,i,none⟩
 lo:N0≤s
 le:at_≤8 * src.length
 big:src.length≤2147483647
section
variable {N0 s:Nat} {src dict:List Nat} {p:Nat} {out:List Nat} {z:Int} {m:Mem}
theorem SpAt.set {m':Mem} {j:Nat} (h:SpAt N0 s src dict p out z m) (hf:Fr (fun i o=>i=s∧o=j) m m') (hj:1≤j∧j≤4):
  (∃ a l k b o,cell? m' ⟨s,0,none⟩=some (.slice a l k)∧SlcB m' a l k b o src∧(0 < l→b < N0))∧
  (j≠1→cell? m' ⟨s,1,none⟩=some (.int .i64 (p:Int)))∧
  (j≠2→∃ a l k b o,cell? m' ⟨s,2,none⟩=some (.slice a l k)∧SlcB m' a l k b o dict∧(0 < l→b < N0))∧
  (j≠3→∃ a l k b o,cell? m' ⟨s,3,none⟩=some (.slice a l k)∧OutB m' a l k b o out∧(0 < k→N0≤b∧b≠s))∧
  (j≠4→cell? m' ⟨s,4,none⟩=some (.int .i64 z))∧(∀ i,1≤i→i≤4→Wr m' ⟨s,i,none⟩):=by
 have hlo:=h.lo
 obtain ⟨a,l,k,b,o,h1,h2,h3⟩:=h.srcA
 obtain ⟨a',l',k',b',o',h1',h2',h3'⟩:=h.dictA
 obtain ⟨a4,l4,k4,b4,o4,h4,h5,h6⟩:=h.outA
 refine ⟨⟨a,l,k,b,o,hf.cell h1 (by simp only; omega),h2.sp hf fun h0 j=>by have:=h3 h0; omega,h3⟩,fun hj=>hf.cell h.pos (by simp only; omega),
  fun hj=>⟨a',l',k',b',o',hf.cell h1' (by simp only; omega),h2'.sp hf fun h0 j=>by have:=h3' h0; omega,h3'⟩,
  fun hj=>⟨a4,l4,k4,b4,o4,hf.cell h4 (by simp only; omega),h5.fr hf fun h0 j=>by have:=(h6 h0).2; omega,h6⟩,fun hj=>hf.cell h.z (by simp only; omega),fun i h1 h2=>(h.wr i h1 h2).fr hf⟩
theorem spF_set {m':Mem} {j:Nat} (hlo:N0≤s) (hw:Wr m ⟨s,j,none⟩) (hf:Fr (fun i o=>i=s∧o=j) m m'):SpF N0 s m m':=by
 refine .of_fr hf (by rintro i j ⟨rfl,_⟩; exact hlo) (by rintro i j v ⟨rfl,_⟩ h; exact absurd rfl h) ?_
 rintro i ⟨rfl,_⟩
 obtain ⟨⟨v,hv⟩,_⟩:=hw
 unfold cell? at hv
 cases hb:m[i]? with
 | none=>simp only [hb] at hv; cases hv
 | some x=>
  cases x with
  | cells c t fr=>exact ⟨c,t,fr,.inl rfl⟩
  | _=>simp only [hb] at hv; cases hv
theorem on_spec (h:SpAt N0 s src dict p out z m) {R:Value→Mem→Prop} (hk:R (.bool (decide (z < 0))) m):CallM PP f_state_on #[.pointer (some ⟨s,0,none⟩)] m R:=
 e_state_on s m R ⟨_,h.z,hk⟩
theorem stop_spec (h:SpAt N0 s src dict p out z m) {e:Int} {R:Value→Mem→Prop} (hk:∀ m',SpAt N0 s src dict p out (if z < 0 then e else z) m'→SpF N0 s m m'→R (.tuple #[]) m'):
  CallM PP f_state_stop #[.pointer (some ⟨s,0,none⟩),.int .i64 e] m R:=by
 refine e_state_stop s e m R ⟨_,h.z,?_⟩
 by_cases hz:z < 0
 ·rw [decide_eq_true hz]
  rw [if_pos hz] at hk
  refine ifB_t (StW.at rfl (h.wr 4 (by decide) (by decide)) fun m1 c1 f1 _=>hk m1 ?_ (spF_set h.lo (h.wr 4 (by decide) (by decide)) f1))
  obtain ⟨k1,k2,k3,k4,k5,k6⟩:=h.set f1 (by decide)
  exact ⟨k1,k2 (by decide),k3 (by decide),k4 (by decide),c1,k6,h.lo,h.le,h.big⟩
 ·rw [decide_eq_false hz]
  rw [if_neg hz] at hk
  exact ifB_f (hk m h (SpF.refl _ _ _))
theorem bit_val {src:List Nat} {p c:Nat} (hb:∀ v ∈ src,v < 256) (hc:src[p / 8]?=some c):c / 2 ^ (p % 8) % 2=tk (num src) p 1:=by
 have h1:tk (num src) (8 * (p / 8)) 8=c:=num_byte hb hc
 rw [← h1,tk_drop _ _ _ _ (by omega:p % 8≤8),show (2:Nat)=2 ^ 1 from rfl,tk_low _ _ _ _ (by omega:1≤8 - p % 8),show 8 * (p / 8)+p % 8=p from by omega]
theorem bit_spec (h:SpAt N0 s src dict p out z m) {R:Value→Mem→Prop} (hoff:0≤z→R (.int .i64 0) m)
  (hend:z < 0→p=8 * src.length→∀ m',SpAt N0 s src dict p out 3 m'→SpF N0 s m m'→R (.int .i64 0) m')
  (hbit:z < 0→p < 8 * src.length→∀ m',SpAt N0 s src dict (p+1) out z m'→SpF N0 s m m'→R (.int .i64 (tk (num src) p 1:Nat)) m'):
  CallM PP f_state_bit #[.pointer (some ⟨s,0,none⟩)] m R:=by
 refine e_state_bit s m R (on_spec h ⟨_,rfl,?_⟩)
 by_cases hz:z < 0
 ·rw [decide_eq_true hz]
  refine ifB_f ⟨_,h.pos,rfl,by decide,?_⟩
  obtain ⟨a,l,k,b,o,c0,hS,hb0⟩:=h.srcA
  have hbig:=h.big
  have hle:=h.le
  have hlen:=hS.len
  have hd:IntKind.wrap .i64 (Int.tdiv (p:Int) 8)=((p / 8:Nat):Int):=by
   rw [show Int.tdiv (p:Int) 8=((p / 8:Nat):Int) from rfl]
   exact wrap64_id (by omega) (by omega)
  refine ⟨a,l,k,c0,?_⟩
  rw [hd]
  by_cases hp:p < 8 * src.length
  ·rw [decide_eq_false (by omega)]
   refine ifB_f ⟨a,l,k,c0,_,h.pos,rfl,by decide,?_⟩
   rw [hS.at_ (by omega),hd]
   have hq:p / 8 < l:=by omega
   have hq':p / 8 < src.length:=by omega
   have hget:src[p / 8]?=some (src[p / 8]'hq'):=List.getElem?_eq_getElem hq'
   have hcell:=hS.data (p / 8) hq
   rw [List.getD_eq_getElem?_getD,hget] at hcell
   refine ⟨⟨by omega,by omega⟩,_,hcell,_,h.pos,rfl,by decide,Int.tmod_nonneg _ (by omega),rfl,_,h.pos,StW.at rfl (h.wr 1 (by decide) (by decide)) fun m1 c1 f1 _=>?_⟩
   have hc256:src[p / 8]'hq' < 256:=hS.byte _ (List.getElem_mem hq')
   have hv:bitsOp .and .i64 (shrOp .i64 (IntKind.wrap .i64 ((src[p / 8]'hq':Nat):Int)) (Int.tmod (p:Int) 8)) 1=((tk (num src) p 1:Nat):Int):=by
    rw [wrap64_id (by omega) (by omega),show Int.tmod (p:Int) 8=((p % 8:Nat):Int) from rfl]
    have h1:=shr_nat (k:=.i64) (a:=src[p / 8]'hq') (s:=p % 8) (by show p % 8≤64; omega)
    rw [h1]
    have h2:=and_i64 (a:=src[p / 8]'hq' / 2 ^ (p % 8)) (b:=1) (by have:=Nat.div_le_self (src[p / 8]'hq') (2 ^ (p % 8)); omega) (by decide)
    rw [show ((1:Nat):Int)=1 from rfl] at h2
    rw [h2,show (1:Nat)=2 ^ 1 - 1 from rfl,Nat.and_two_pow_sub_one_eq_mod, ← bit_val hS.byte hget]
   simp only [Option.getD_some]
   rw [hv]
   have hw:IntKind.wrap .i64 ((p:Int)+1)=((p+1:Nat):Int):=by rw [wrap64_id (by omega) (by omega)]; rfl
   rw [hw] at c1
   refine hbit hz hp m1 ?_ (spF_set h.lo (h.wr 1 (by decide) (by decide)) f1)
   obtain ⟨k1,k2,k3,k4,k5,k6⟩:=h.set f1 (by decide)
   exact ⟨k1,c1,k3 (by decide),k4 (by decide),k5 (by decide),k6,h.lo,by omega,h.big⟩
  ·rw [decide_eq_true (by omega)]
   refine ifB_t (stop_spec h fun m1 h1 f1=>⟨rfl,?_⟩)
   rw [if_pos hz] at h1
   exact hend hz (by omega) m1 h1 f1
 ·rw [decide_eq_false hz]
  exact ifB_t (hoff (by omega))
theorem or_bit {v b i:Nat} (hv:v < 2 ^ i) (hb:b < 2) (hi:i≤20):bitsOp .or .i64 (v:Int) (shlOp .i64 (b:Int) (i:Int))=((v+2 ^ i * b:Nat):Int):=by
 have h2:(2:Nat) ^ i≤2 ^ 20:=Nat.pow_le_pow_right (by decide) hi
 have h3:b * 2 ^ i≤2 ^ 20:=by
  have:=Nat.mul_le_mul_right (2 ^ i) (show b≤1 by omega)
  omega
 rw [shl_nat (k:=.i64) (by show i≤64; omega),wrap64_id (by omega) (by omega),or_i64 (by omega) (by omega),or_add b hv]
theorem bits_spec (h:SpAt N0 s src dict p out z m) (n:Nat) (hn:n≤16) {R:Value→Mem→Prop} (hoff:0≤z→R (.int .i64 0) m)
  (hend:z < 0→8 * src.length < p+n→∀ m' v,v < 2 ^ n→SpAt N0 s src dict (8 * src.length) out 3 m'→SpF N0 s m m'→R (.int .i64 (v:Nat)) m')
  (hok:z < 0→p+n≤8 * src.length→∀ m',SpAt N0 s src dict (p+n) out z m'→SpF N0 s m m'→R (.int .i64 (tk (num src) p n:Nat)) m'):
  CallM PP f_state_bits #[.pointer (some ⟨s,0,none⟩),.int .i64 (n:Int)] m R:=by
 refine e_state_bits s n m R ?_
 rw [q_state_bits_rrlrl]
 refine loopW ffOk mixedOk (L₀:=L_state_bits) (σ:=Nat×Nat) [0,5,7,8] (fun s'=>[(0,.pointer (some ⟨s,0,none⟩)),(5,.int .i64 (s'.2:Nat)),(7,.int .i64 (n:Int)),(8,.int .i64 (s'.1:Nat))])
  (fun s' m'=>s'.1≤n∧s'.2 < 2 ^ s'.1∧SpF N0 s m m'∧((z < 0∧p+s'.1≤8 * src.length∧SpAt N0 s src dict (p+s'.1) out z m'∧s'.2=tk (num src) p s'.1)∨(z < 0∧8 * src.length < p+n∧SpAt N0 s src dict (8 * src.length) out 3 m')∨(0≤z∧m'=m∧s'.2=0)))
  (fun s'=>n - s'.1) (0,0) rfl ⟨Nat.zero_le _,by decide,SpF.refl _ _ _,?_⟩ ?_
 ·by_cases hz:z < 0
  ·exact .inl ⟨hz,h.le,h,by simp [tk,Nat.mod_one]⟩
  ·exact .inr (.inr ⟨by omega,rfl,rfl⟩)
 rintro ⟨i,v⟩ m1 ⟨hi,hv,hF,hst⟩
 simp only at hi hv hF hst
 refine p_state_bits_rrlrll s v n i m1 _ ?_
 by_cases hin:i < n
 ·rw [decide_eq_true (by omega)]
  have hw:IntKind.wrap .i64 ((i:Int)+1)=((i+1:Nat):Int):=by rw [wrap64_id (by omega) (by omega)]; rfl
  have hpw:(2:Nat) ^ (i+1)=2 ^ i * 2:=Nat.pow_succ ..
  have zero:∀ b:Nat,b=0→bitsOp .or .i64 (v:Int) (shlOp .i64 (0:Int) (i:Int))=((v:Nat):Int):=fun b hb=>by
   have:=or_bit (b:=0) hv (by decide) (by omega)
   simpa using this
  have z0:=zero 0 rfl
  refine ifB_t ?_
  rw [hw]
  rcases hst with ⟨hz,hle,hS,hval⟩ | ⟨hz,hsh,hS⟩ | ⟨hz,rfl,rfl⟩
  ·refine bit_spec hS (fun h0=>by omega) (fun _ hp m2 h2 f2=>⟨_,rfl,by omega,rfl,?_⟩) (fun _ hp m2 h2 f2=>⟨_,rfl,by omega,rfl,?_⟩)
   ·rw [z0]
    rw [hp] at h2
    exact ⟨(i+1,v),rfl,⟨by simp only; omega,by simp only; omega,hF.trans f2,.inr (.inl ⟨hz,by omega,h2⟩)⟩,by simp only; omega⟩
   ·have hb:=tk_lt (num src) (p+i) 1
    have ho:=or_bit hv (b:=tk (num src) (p+i) 1) (by simpa using hb) (by omega)
    rw [ho]
    refine ⟨(i+1,v+2 ^ i * tk (num src) (p+i) 1),rfl,⟨by simp only; omega,?_,hF.trans f2,.inl ⟨hz,by simp only; omega,by simp only; rw [← Nat.add_assoc]; exact h2,?_⟩⟩,by simp only; omega⟩
    ·simp only
     have:2 ^ i * tk (num src) (p+i) 1≤2 ^ i * 1:=Nat.mul_le_mul_left _ (by omega)
     omega
    ·simp only
     rw [tk_add,hval]
  ·refine bit_spec hS (fun h0=>⟨_,rfl,by omega,rfl,?_⟩) (fun h3=>absurd h3 (by decide)) (fun h3=>absurd h3 (by decide))
   rw [z0]
   exact ⟨(i+1,v),rfl,⟨by simp only; omega,by simp only; omega,hF,.inr (.inl ⟨hz,hsh,hS⟩)⟩,by simp only; omega⟩
  ·refine bit_spec h (fun h0=>⟨_,rfl,by omega,rfl,?_⟩) (fun h3=>by omega) (fun h3=>by omega)
   rw [z0]
   exact ⟨(i+1,0),rfl,⟨by simp only; omega,by simp only; omega,hF,.inr (.inr ⟨hz,rfl,rfl⟩)⟩,by simp only; omega⟩
 ·rw [decide_eq_false (by omega)]
  have hin':i=n:=by omega
  subst hin'
  refine ifB_f ?_
  refine WPS.piece [5] rfl (p_state_bits_rrr _ _ _ ?_)
  rcases hst with ⟨hz,hle,hS,hval⟩ | ⟨hz,hsh,hS⟩ | ⟨hz,rfl,rfl⟩
  ·rw [hval]; exact hok hz hle m1 hS hF
  ·exact hend hz hsh m1 v hv hS hF
  ·exact hoff hz
theorem give_spec (h:SpAt N0 s src dict p out z m) {b:Nat} (_hb:b < 256) {R:Value→Mem→Prop} (hoff:0≤z→R (.tuple #[]) m)
  (hlong:z < 0→131072≤out.length→∀ m',SpAt N0 s src dict p out 4 m'→SpF N0 s m m'→R (.tuple #[]) m')
  (hok:z < 0→out.length < 131072→∀ m',SpAt N0 s src dict p (out++[b]) z m'→SpF N0 s m m'→R (.tuple #[]) m'):
  CallM PP f_state_give #[.pointer (some ⟨s,0,none⟩),.int .u8 (b:Int)] m R:=by
 refine e_state_give s b m R (on_spec h ⟨_,rfl,?_⟩)
 by_cases hz:z < 0
 ·rw [decide_eq_true hz]
  obtain ⟨a,l,k,b0,o,c0,hO,hb0⟩:=h.outA
  have hlen:=hO.len
  have hlo:=h.lo
  refine ifB_f ⟨a,l,k,c0,?_⟩
  by_cases hl:131072≤l
  ·rw [decide_eq_true (by omega)]
   refine ifB_t (stop_spec h fun m1 h1 f1=>⟨rfl,?_⟩)
   rw [if_pos hz] at h1
   exact hlong hz (by omega) m1 h1 f1
  ·rw [decide_eq_false (by omega)]
   refine ifB_f ⟨a,l,k,c0,build1_W ⟨_,_,_,rfl,?_⟩⟩
   have f1:∀ S,Fr S m (m.push (.cells #[.int .u8 (b:Int)] t_uint8)):=fun S=>Fr.push _
   have c1:cell? (m.push (.cells #[.int .u8 (b:Int)] t_uint8)) ⟨m.size,0,none⟩=some (.int .u8 (b:Int)):=cell_new (c:=#[.int .u8 (b:Int)]) (i:=0) rfl
   have s1:(m.push (.cells #[.int .u8 (b:Int)] t_uint8)).size=m.size+1:=Array.size_push ..
   generalize m.push (.cells #[.int .u8 (b:Int)] t_uint8)=m1 at f1 c1 s1 ⊢
   have hsm:s < m.size:=by have:=cell_block h.z; simpa using this
   refine appendB_W (b2:=m.size) (o2:=0) (ys:=[b]) (hO.fr (f1 fun _ _=>False) fun _ _=>id) rfl (fun _=>rfl) (fun i v hv=>?_) (by omega) fun m2 a' k' b' o' hO2 hb2 hf2 h02=>⟨_,_,_,rfl,?_⟩
   ·cases i with
    | zero=>simp only [List.getElem?_cons_zero,Option.some.injEq] at hv; subst hv; exact c1
    | succ i=>simp at hv
   ·have w3:Wr m2 ⟨s,3,none⟩:=((h.wr 3 (by decide) (by decide)).fr (f1 fun _ _=>False)).fr hf2
    refine StW.at rfl w3 fun m3 c3 f3 _=>?_
    have F:Fr (fun i j=>(i=b0∧0 < k)∨(i=s∧j=3)) m m3:=(f1 _).trans ((hf2.mono fun i j h=>.inl h).trans (f3.mono fun i j h=>.inr h))
    have hbs:0 < k'→N0≤b'∧b'≠s:=fun h0=>by
     rcases hb2 with ⟨rfl,_,rfl⟩ | ⟨rfl,_⟩
     ·exact hb0 h0
     ·omega
    refine hok hz (by omega) m3 ?_ ?_
    ·obtain ⟨a1,l1,k1,b1,o1,h1,h2,h3⟩:=h.srcA
     obtain ⟨a4,l4,k4,b4,o4,h4,h5,h6⟩:=h.dictA
     have ns:∀ j,j≠3→ ¬ ((s=b0∧0 < k)∨(s=s∧j=3)):=by
      rintro j hj (⟨e,h0⟩ | ⟨_,e⟩)
      ·exact (hb0 h0).2 e.symm
      ·exact hj e
     have nb:∀ x,x < N0→∀ j, ¬ ((x=b0∧0 < k)∨(x=s∧j=3)):=by
      rintro x hx j (⟨e,h0⟩ | ⟨e,_⟩)
      ·have:=(hb0 h0).1; omega
      ·omega
     exact ⟨⟨a1,l1,k1,b1,o1,F.cell h1 (ns _ (by simp)),h2.sp F fun h0 j=>nb _ (h3 h0) j,h3⟩,F.cell h.pos (ns _ (by simp)),
      ⟨a4,l4,k4,b4,o4,F.cell h4 (ns _ (by simp)),h5.sp F fun h0 j=>nb _ (h6 h0) j,h6⟩,
      ⟨a',l+1,k',b',o',c3,hO2.fr f3 fun h0 j hj=>(hbs h0).2 hj.1,hbs⟩,F.cell h.z (ns _ (by simp)),fun i h1 h2=>(h.wr i h1 h2).fr F,h.lo,h.le,h.big⟩
    ·refine .of_fr F ?_ ?_ ?_
     ·rintro i j (⟨rfl,h0⟩ | ⟨rfl,_⟩)
      ·exact (hb0 h0).1
      ·exact hlo
     ·rintro i j v (⟨rfl,h0⟩ | ⟨rfl,_⟩) hne hc
      ·exact hO.u8 h0 j v hc
      ·exact absurd rfl hne
     ·rintro i (⟨rfl,h0⟩ | ⟨_,e⟩)
      ·obtain ⟨c,t,fr,hc⟩:=cells_of_wr (hO.own.wr 0 (by omega))
       exact ⟨c,t,fr,.inl hc⟩
      ·cases e
 ·rw [decide_eq_false hz]
  exact ifB_t (hoff (by omega))
end
end Go.M

namespace Go.M
open Go
set_option maxRecDepth 100000
section
variable {N0 s:Nat} {src dict:List Nat} {p:Nat} {out:List Nat} {z:Int} {m:Mem}
theorem lz_prefix (H:List Nat) (d:Nat):∀ n,∃ T,lz H d n=H++T
 | 0=>⟨[],by simp [lz]⟩
 | n+1=>by
  obtain ⟨T,hT⟩:=lz_prefix H d n
  exact ⟨T++[(lz H d n).getD ((lz H d n).length - d) 0],by rw [lz, ← List.append_assoc, ← hT]⟩
theorem far_next (h:SpAt N0 s src dict p out z m) (hz:z < 0) {b:Nat} (hb:b < 256) {d n i:Nat} (hi:i < 4096) {x6:Value} {K:Kont}
  (hkr:∀ m',131072≤out.length→SpAt N0 s src dict p out 4 m'→SpF N0 s m m'→K.kr [(0,.pointer (some ⟨s,0,none⟩)),(2,.int .i64 (d:Int)),(29,.int .i64 (n:Int)),(30,.int .i64 (i:Int))] m')
  (hkn:∀ m',out.length < 131072→SpAt N0 s src dict p (out++[b]) z m'→SpF N0 s m m'→K.kn [(0,.pointer (some ⟨s,0,none⟩)),(2,.int .i64 (d:Int)),(29,.int .i64 (n:Int)),(30,.int .i64 ((i+1:Nat):Int))] m'):
  CallM PP f_state_give #[.pointer (some ⟨s,0,none⟩),.int .u8 (b:Int)] m fun v m'=>v=.tuple #[]∧WPS PP 69 c_state_far_rrrllrrllrr ((K.withN fun r m=>wpc PP FF 69 L_state_far c_state_far_rrrllrrr K r m).withX 1)
   [(0,.pointer (some ⟨s,0,none⟩)),(2,.int .i64 (d:Int)),(6,x6),(29,.int .i64 (n:Int)),(30,.int .i64 (i:Int))] m':=by
 refine give_spec h hb (fun h0=>by omega) (fun _ hl m' h1 f1=>⟨rfl,?_⟩) (fun _ hl m' h1 f1=>⟨rfl,?_⟩)
 ·refine WPS.piece [0,2,29,30] rfl (p_state_far_rrrllrrllrr s d n i m' _ (on_spec h1 ⟨_,rfl,ifB_t ?_⟩))
  exact hkr m' hl h1 f1
 ·refine WPS.piece [0,2,29,30] rfl (p_state_far_rrrllrrllrr s d n i m' _ (on_spec h1 ⟨_,rfl,?_⟩))
  rw [decide_eq_true hz]
  refine ifB_f ?_
  refine p_state_far_rrrllrrr s d n i m' K ?_
  have hw:IntKind.wrap .i64 ((i:Int)+1)=((i+1:Nat):Int):=by rw [wrap64_id (by omega) (by omega)]; rfl
  rw [hw]
  exact hkn m' hl h1 f1
theorem far_spec (h:SpAt N0 s src dict p out z m) (n d:Nat) (hn:n < 4096) (hd0:0 < d) (hd:d < 1048576) (hdl:dict.length≤32768) (hout:∀ v ∈ out,v < 256) (hol:out.length≤131072) {R:Value→Mem→Prop} (hoff:0≤z→R (.tuple #[]) m)
  (hwrong:z < 0→min 32768 (dict++out).length < d→∀ m',SpAt N0 s src dict p out 2 m'→SpF N0 s m m'→R (.tuple #[]) m')
  (hlong:z < 0→126976≤out.length→∀ m' out',(∀ v ∈ out',v < 256)→out'.length≤131072→SpAt N0 s src dict p out' 4 m'→SpF N0 s m m'→R (.tuple #[]) m')
  (hok:z < 0→d≤min 32768 (dict++out).length→∀ m' out',(∀ v ∈ out',v < 256)→out'.length≤131072→dict++out'=lz (dict++out) d n→SpAt N0 s src dict p out' z m'→SpF N0 s m m'→R (.tuple #[]) m'):
  CallM PP f_state_far #[.pointer (some ⟨s,0,none⟩),.int .i64 (n:Int),.int .i64 (d:Int)] m R:=by
 refine e_state_far s n d m R (on_spec h ⟨_,rfl,?_⟩)
 by_cases hz:z < 0
 rotate_left
 ·rw [decide_eq_false hz]; exact ifB_t (hoff (by omega))
 rw [decide_eq_true hz]
 refine ifB_f ?_
 have happ:(dict++out).length=dict.length+out.length:=List.length_append ..
 by_cases hd1:(d:Int) > 32768
 ·rw [decide_eq_true hd1]
  refine ifB_t (stop_spec h fun m1 h1 f1=>⟨rfl,?_⟩)
  rw [if_pos hz] at h1
  exact hwrong hz (by omega) m1 h1 f1
 rw [decide_eq_false hd1]
 obtain ⟨a1,l1,k1,b1,o1,c1,hS1,hb1⟩:=h.dictA
 obtain ⟨a2,l2,k2,b2,o2,c2,hO2,hb2⟩:=h.outA
 have hlen1:=hS1.len
 have hlen2:=hO2.len
 refine ifB_f ⟨a1,l1,k1,c1,a2,l2,k2,c2,?_⟩
 have hw:IntKind.wrap .i64 ((l1:Int)+(l2:Int))=((l1+l2:Nat):Int):=by rw [wrap64_id (by omega) (by omega)]; rfl
 rw [hw]
 by_cases hd2:(d:Int) > ((l1+l2:Nat):Int)
 ·rw [decide_eq_true hd2]
  refine ifB_t (stop_spec h fun m1 h1 f1=>⟨rfl,?_⟩)
  rw [if_pos hz] at h1
  exact hwrong hz (by omega) m1 h1 f1
 rw [decide_eq_false hd2]
 refine ifB_f ?_
 rw [q_state_far_rrrl]
 refine loopW ffOk mixedOk (L₀:=L_state_far) (σ:=Nat) [0,2,29,30] (fun i=>[(0,.pointer (some ⟨s,0,none⟩)),(2,.int .i64 (d:Int)),(29,.int .i64 (n:Int)),(30,.int .i64 (i:Nat))])
  (fun i m'=>i≤n∧SpF N0 s m m'∧∃ out',(∀ v ∈ out',v < 256)∧out'.length≤131072∧dict++out'=lz (dict++out) d i∧SpAt N0 s src dict p out' z m') (fun i=>n - i) 0 rfl ⟨Nat.zero_le _,SpF.refl _ _ _,out,hout,hol,rfl,h⟩ ?_
 rintro i m1 ⟨hi,hF,out',hb',hl',hlz,hS⟩
 refine p_state_far_rrrll s d n i m1 _ ?_
 by_cases hin:i < n
 ·rw [decide_eq_true (by omega)]
  obtain ⟨a3,l3,k3,b3,o3,c3,hO3,hb3⟩:=hS.outA
  obtain ⟨a4,l4,k4,b4,o4,c4,hS4,hb4⟩:=hS.dictA
  have hlen3:=hO3.len
  have hlen4:=hS4.len
  have hlzl:=lz_length (dict++out) d i
  have happ':(dict++out').length=dict.length+out'.length:=List.length_append ..
  rw [← hlz,happ,happ'] at hlzl
  refine ifB_t ⟨a3,l3,k3,c3,?_⟩
  have hw3:IntKind.wrap .i64 ((l3:Int) - (d:Int))=(l3:Int) - (d:Int):=wrap64_id (by omega) (by omega)
  rw [hw3]
  have hbH:∀ v ∈ dict++out',v < 256:=by
   intro v hv
   rcases List.mem_append.1 hv with hv | hv
   ·exact hS4.byte v hv
   ·exact hb' v hv
  have hidx:(dict++out').length - d < (dict++out').length:=by omega
  have hb256:(dict++out').getD ((dict++out').length - d) 0 < 256:=by
   rw [List.getD_eq_getElem?_getD,List.getElem?_eq_getElem hidx]
   exact hbH _ (List.getElem_mem hidx)
  have hlz1:(dict++(out'++[(dict++out').getD ((dict++out').length - d) 0]))=lz (dict++out) d (i+1):=by
   rw [← List.append_assoc,lz, ← hlz]
  have hnew:∀ v ∈ out'++[(dict++out').getD ((dict++out').length - d) 0],v < 256:=by
   intro v hv
   rcases List.mem_append.1 hv with hv | hv
   ·exact hb' v hv
   ·rw [List.mem_singleton.1 hv]; exact hb256
  by_cases hk:0≤(l3:Int) - (d:Int)
  ·rw [decide_eq_true (by omega)]
   refine ifB_t ⟨a3,l3,k3,c3,?_⟩
   rw [hO3.own.at_ (by have:=hO3.own.le; omega)]
   have hj:l3 - d < l3:=by omega
   have hjn:((l3:Int) - (d:Int)).toNat=l3 - d:=by omega
   have hval:(dict++out').getD ((dict++out').length - d) 0=out'.getD (l3 - d) 0:=by
    rw [List.getD_eq_getElem?_getD,List.getElem?_append_right (by omega),List.getD_eq_getElem?_getD,happ',show dict.length+out'.length - d - dict.length=l3 - d from by omega]
   have hcell:cell? m1 ⟨b3,o3+(l3 - d),none⟩=some (.int .u8 ((out'.getD (l3 - d) 0:Nat):Int)):=by
    refine hO3.own.row (l3 - d) _ ?_
    rw [List.getElem?_map,List.getElem?_eq_getElem (by omega:l3 - d < out'.length),List.getD_eq_getElem?_getD,List.getElem?_eq_getElem (by omega:l3 - d < out'.length)]; rfl
   rw [← hval] at hcell
   refine ⟨⟨hk,by omega⟩,_,by rw [hjn]; exact hcell,?_⟩
   refine far_next hS hz hb256 (by omega) (fun m2 hl2 h2 f2=>?_) (fun m2 hl2 h2 f2=>?_)
   ·exact hlong hz (by omega) m2 out' hb' hl' h2 (hF.trans f2)
   ·exact ⟨i+1,rfl,⟨by omega,hF.trans f2,_,hnew,by simp; omega,hlz1,h2⟩,by omega⟩
  ·rw [decide_eq_false (by omega)]
   have hw4:IntKind.wrap .i64 ((l4:Int)+((l3:Int) - (d:Int)))=((l4+l3 - d:Nat):Int):=by rw [wrap64_id (by omega) (by omega)]; omega
   refine ifB_f ⟨a4,l4,k4,c4,a4,l4,k4,c4,?_⟩
   rw [hw4,hS4.at_ (by omega)]
   have hval:(dict++out').getD ((dict++out').length - d) 0=dict.getD (l4+l3 - d) 0:=by
    rw [List.getD_eq_getElem?_getD,List.getElem?_append_left (by omega),List.getD_eq_getElem?_getD,happ',show dict.length+out'.length - d=l4+l3 - d from by omega]
   have hcell:=hS4.data (l4+l3 - d) (by omega)
   rw [← hval] at hcell
   refine ⟨⟨by omega,by omega⟩,_,hcell,?_⟩
   refine far_next hS hz hb256 (by omega) (fun m2 hl2 h2 f2=>?_) (fun m2 hl2 h2 f2=>?_)
   ·exact hlong hz (by omega) m2 out' hb' hl' h2 (hF.trans f2)
   ·exact ⟨i+1,rfl,⟨by omega,hF.trans f2,_,hnew,by simp; omega,hlz1,h2⟩,by omega⟩
 ·rw [decide_eq_false (by omega)]
  have hin':i=n:=by omega
  subst hin'
  refine ifB_f ?_
  exact hok hz (by omega) m1 out' hb' hl' hlz hS hF
end
end Go.M

namespace Go.M
open Go
set_option maxRecDepth 100000
theorem SlcI.sp {N0 s:Nat} {m m':Mem} {a:Option Addr} {l k b o:Nat} {d:List Nat} (h:SlcI m a l k b o d) (hf:SpF N0 s m m') (hs:0 < l→b≠s):SlcI m' a l k b o d:=
 ⟨h.len,h.cap,h.at_,fun i v hv=>hf.cell (h.data i v hv) (.inr ⟨hs (by have:=(List.getElem?_eq_some_iff.1 hv).1; have:=h.len; omega),by intro x e; cases e⟩)⟩
theorem used_succ {L:List Nat} {i v:Nat} (h:L[i]?=some v):usedN (L.take (i+1))=usedN (L.take i)+(if v=0 then 0 else 1):=by
 have hi:=(List.getElem?_eq_some_iff.1 h).1
 have hv:L[i]=v:=(List.getElem?_eq_some_iff.1 h).2
 unfold usedN
 rw [List.take_succ_eq_append_getElem hi,List.filter_append,List.length_append,hv]
 by_cases h0:v=0
 ·subst h0; simp
 ·simp [h0]
theorem used_spec {m:Mem} {a:Option Addr} {l k b o:Nat} {L:List Nat} (hS:SlcI m a l k b o L) (hl:l < 65536) {R:Value→Mem→Prop} (hk:R (.int .i64 (usedN L:Nat)) m):CallM PP f_spec_used #[.slice a l k] m R:=by
 refine e_spec_used a l k m R ?_
 have hlen:=hS.len
 rw [q_spec_used_rrlrl]
 refine loopW ffOk mixedOk (L₀:=L_spec_used) (σ:=Nat) [3,6,7,8] (fun i=>[(3,.int .i64 (usedN (L.take i):Nat)),(6,.slice a l k),(7,.int .i64 (l:Int)),(8,.int .i64 (i:Nat))])
  (fun i m'=>i≤l∧m'=m) (fun i=>l - i) 0 (by simp [usedN,Env.keep]; rfl) ⟨Nat.zero_le _,rfl⟩ ?_
 rintro i m1 ⟨hi,rfl⟩
 refine p_spec_used_rrlrll _ a l k l i m1 _ ?_
 by_cases hil:i < l
 ·rw [decide_eq_true (by omega)]
  have hget:L[i]?=some (L[i]'(by omega)):=List.getElem?_eq_getElem (by omega)
  refine ifB_t ?_
  rw [hS.at_ (by omega)]
  refine ⟨⟨by omega,by omega⟩,_,hS.data i _ hget,?_⟩
  have hw:IntKind.wrap .i64 ((i:Int)+1)=((i+1:Nat):Int):=by rw [wrap64_id (by omega) (by omega)]; rfl
  have hu:=used_succ hget
  have hub:usedN (L.take i)≤i:=by
   unfold usedN
   exact Nat.le_trans (List.length_filter_le _ _) (by simp; omega)
  by_cases h0:L[i]'(by omega)=0
  ·rw [decide_eq_false (by omega)]
   refine ifB_f (WPS.piece [3,6,7,8] rfl (p_spec_used_rrlrllrrr _ _ _ _ _ _ _ _ ?_))
   rw [hw]
   rw [if_pos h0,Nat.add_zero] at hu
   exact ⟨i+1,by rw [hu]; rfl,⟨by omega,rfl⟩,by omega⟩
  ·rw [decide_eq_true (by omega)]
   refine ifB_t (WPS.piece [3,6,7,8] rfl (p_spec_used_rrlrllrrr _ _ _ _ _ _ _ _ ?_))
   rw [hw]
   rw [if_neg h0] at hu
   have hw2:IntKind.wrap .i64 ((usedN (L.take i):Int)+1)=((usedN (L.take (i+1)):Nat):Int):=by rw [wrap64_id (by omega) (by omega),hu]; rfl
   rw [hw2]
   exact ⟨i+1,rfl,⟨by omega,rfl⟩,by omega⟩
 ·rw [decide_eq_false (by omega)]
  have hil':i=L.length:=by omega
  refine ifB_f (WPS.piece [3] rfl (p_spec_used_rrr _ _ _ ?_))
  rw [hil',List.take_length]
  exact hk
theorem krn_append (n:Nat) (v:Nat):∀ L:List Nat,krn n (L++[v])=krn n L+(if v≠0∧v≤n then 2 ^ (15 - v) else 0)
 | []=>by simp [krn]
 | l::L=>by rw [List.cons_append,krn,krn,krn_append n v L,Nat.add_assoc]
theorem krn_take {L:List Nat} {i v:Nat} (h:L[i]?=some v):krn 15 (L.take (i+1))=krn 15 (L.take i)+(if v≠0∧v≤15 then 2 ^ (15 - v) else 0):=by
 have hi:=(List.getElem?_eq_some_iff.1 h).1
 have hv:L[i]=v:=(List.getElem?_eq_some_iff.1 h).2
 rw [List.take_succ_eq_append_getElem hi,krn_append,hv]
theorem krn_bound:∀ L:List Nat,krn 15 L≤16384 * L.length
 | []=>Nat.le_refl _
 | l::L=>by
  have ih:=krn_bound L
  rw [krn,List.length_cons]
  by_cases h:l≠0∧l≤15
  ·rw [if_pos h]
   have:(2:Nat) ^ (15 - l)≤2 ^ 14:=Nat.pow_le_pow_right (by decide) (by omega)
   omega
  ·rw [if_neg h]; omega
theorem room_spec {m:Mem} {a:Option Addr} {l k b o:Nat} {L:List Nat} (hS:SlcI m a l k b o L) (h15:∀ v ∈ L,v≤15) (hl:l < 65536) {R:Value→Mem→Prop} (hk:R (.int .i64 (32768 - (krn 15 L:Int))) m):CallM PP f_spec_Room #[.slice a l k] m R:=by
 refine e_spec_Room a l k m R ?_
 have hlen:=hS.len
 rw [q_spec_Room_rrlrl]
 refine loopW ffOk mixedOk (L₀:=L_spec_Room) (σ:=Nat) [3,6,7,8] (fun i=>[(3,.int .i64 (32768 - (krn 15 (L.take i):Int))),(6,.slice a l k),(7,.int .i64 (l:Int)),(8,.int .i64 (i:Nat))])
  (fun i m'=>i≤l∧m'=m) (fun i=>l - i) 0 (by simp [krn,Env.keep]; rfl) ⟨Nat.zero_le _,rfl⟩ ?_
 rintro i m1 ⟨hi,rfl⟩
 refine p_spec_Room_rrlrll _ a l k l i m1 _ ?_
 by_cases hil:i < l
 ·rw [decide_eq_true (by omega)]
  have hget:L[i]?=some (L[i]'(by omega)):=List.getElem?_eq_getElem (by omega)
  have hv15:=h15 _ (List.getElem_mem (show i < L.length by omega))
  refine ifB_t ?_
  rw [hS.at_ (by omega)]
  refine ⟨⟨by omega,by omega⟩,_,hS.data i _ hget,?_⟩
  have hw:IntKind.wrap .i64 ((i:Int)+1)=((i+1:Nat):Int):=by rw [wrap64_id (by omega) (by omega)]; rfl
  have hu:=krn_take hget
  have hub:=krn_bound (L.take i)
  have htl:(L.take i).length≤i:=by simp; omega
  generalize L[i]'(by omega)=v at hget hv15 hu ⊢
  by_cases h0:v=0
  ·rw [decide_eq_false (by omega)]
   refine ifB_f (WPS.piece [3,6,7,8] rfl (p_spec_Room_rrlrllrrr _ _ _ _ _ _ _ _ ?_))
   rw [hw]
   rw [if_neg (by omega),Nat.add_zero] at hu
   exact ⟨i+1,by rw [hu]; rfl,⟨by omega,rfl⟩,by omega⟩
  ·rw [decide_eq_true (by omega)]
   have hw15:IntKind.wrap .i64 (15 - (v:Int))=((15 - v:Nat):Int):=by rw [wrap64_id (by omega) (by omega)]; omega
   rw [hw15]
   refine ifB_t ⟨by omega,WPS.piece [3,6,7,8] rfl (p_spec_Room_rrlrllrrr _ _ _ _ _ _ _ _ ?_)⟩
   rw [hw,shl_one (by omega)]
   rw [if_pos (by omega)] at hu
   have hp:(2:Nat) ^ (15 - v)≤2 ^ 15:=Nat.pow_le_pow_right (by decide) (by omega)
   have hw2:IntKind.wrap .i64 ((32768 - (krn 15 (L.take i):Int)) - ((2 ^ (15 - v):Nat):Int))=32768 - (krn 15 (L.take (i+1)):Int):=by rw [wrap64_id (by omega) (by omega),hu]; omega
   rw [hw2]
   exact ⟨i+1,rfl,⟨by omega,rfl⟩,by omega⟩
 ·rw [decide_eq_false (by omega)]
  have hil':i=L.length:=by omega
  refine ifB_f (WPS.piece [3] rfl (p_spec_Room_rrr _ _ _ ?_))
  rw [hil',List.take_length]
  exact hk
end Go.M

namespace Go.M
open Go
set_option maxRecDepth 100000
theorem nx_le (L:List Nat):∀ n,nx L n+2 * L.length≤L.length * 2 ^ (n+1)
 | 0=>by simp [nx]; omega
 | n+1=>by
  have ih:=nx_le L n
  have hc:cnt L n≤L.length:=by
   unfold cnt; split
   ·omega
   ·exact List.count_le_length
  rw [nx,Nat.pow_succ, ← Nat.mul_assoc]
  generalize L.length * 2 ^ (n+1)=q at ih ⊢
  omega
theorem cd_bound {L:List Nat} (hl:L.length≤1000) {n:Nat} (hn:n≤15) (i:Nat):nx L n+(L.take i).count n≤65536 * 1000:=by
 have h1:=nx_le L n
 have h2:(L.take i).count n≤L.length:=Nat.le_trans List.count_le_length (by simp; omega)
 have h3:(2:Nat) ^ (n+1)≤2 ^ 16:=Nat.pow_le_pow_right (by decide) (by omega)
 have h4:L.length * 2 ^ (n+1)≤1000 * 2 ^ 16:=Nat.mul_le_mul hl h3
 omega
def cdAt (L:List Nat) (n i j:Nat):Nat:=if ln L j≠0∧(ln L j < n∨ln L j=n∧j < i) then cd L j else 0
def cds (L:List Nat):List Nat:=(List.range L.length).map fun j=>if ln L j=0 then 0 else cd L j
def CdRow (m:Mem) (b:Nat) (L:List Nat) (n i:Nat):Prop:=∀ j,j < L.length→cell? m ⟨b,j,none⟩=some (.int .i64 (cdAt L n i j:Nat))∧Wr m ⟨b,j,none⟩
theorem Codes_spec {m:Mem} {a:Option Addr} {l k b o:Nat} {L:List Nat} (hS:SlcI m a l k b o L) (h15:∀ v ∈ L,v≤15) (hl:l≤1000) {R:Value→Mem→Prop}
  (hk:∀ m' b',m.size≤b'→SlcI m' (some ⟨b',0,none⟩) l l b' 0 (cds L)→(∀ S,Fr S m m')→R (.slice (some ⟨b',0,none⟩) l l) m'):CallM PP f_spec_Codes #[.slice a l k] m R:=by
 have hlen:=hS.len
 obtain ⟨iu,hi⟩:=one_int
 refine e_spec_Codes a l k m R (make_W u_s_int hi.info hi.zero rfl hi.size rfl rfl (by rw [hi.bytes]; omega) (by omega) fun m1 own1 f1 s1=>⟨_,_,_,rfl,?_⟩)
 rw [q_spec_Codes_rrrlrl]
 have hB:m.size≤m.size:=Nat.le_refl _
 generalize hbb:m.size=B at own1 hB
 have hSB:0 < l→b < B:=fun h0=>by
  have hg:L[0]?=some (L[0]'(by omega)):=List.getElem?_eq_getElem (by omega)
  have:=cell_block (hS.data 0 _ hg)
  simp only at this; omega
 refine loopW ffOk mixedOk (L₀:=L_spec_Codes) (σ:=Nat) [0,3,4,5] (fun n=>[(0,.slice a l k),(3,.slice (some ⟨B,0,none⟩) l l),(4,.int .i64 (nx L n+cnt L n:Nat)),(5,.int .i64 ((n+1:Nat):Int))])
  (fun n m'=>n≤15∧CdRow m' B L (n+1) 0∧∀ S,Fr S m m') (fun n=>15 - n) 0 (by simp [nx,cnt,Env.keep,memNat]) ⟨by decide,?_,f1⟩ ?_
 ·intro j hj
  refine ⟨?_,by have:=own1.wr j (by omega); rwa [Nat.zero_add] at this⟩
  have:=own1.row j (.int .i64 0) (by rw [List.getElem?_replicate,if_pos (by omega)])
  rw [Nat.zero_add] at this
  rw [this]
  unfold cdAt
  rw [if_neg (by omega)]; rfl
 rintro n m2 ⟨hn,hrow,hf2⟩
 refine p_spec_Codes_rrrlrll a l k _ l l _ _ m2 _ ?_
 by_cases hn15:n < 15
 ·rw [decide_eq_true (by omega)]
  refine ifB_t ?_
  rw [q_spec_Codes_rrrlrllrllrrl]
  have hcb:=cd_bound (L:=L) (by omega) (show n+1≤15 by omega) 0
  have hnx:nx L (n+1)=2 * (nx L n+cnt L n):=rfl
  have hw0:IntKind.wrap .i64 (((nx L n+cnt L n:Nat):Int) * 2)=((nx L (n+1)+(L.take 0).count (n+1):Nat):Int):=by
   rw [wrap64_id (by omega) (by omega)]; simp; omega
  rw [hw0]
  refine loopW ffOk mixedOk (L₀:=L_spec_Codes) (σ:=Nat) [0,3,4,5,17,18,19] (fun i=>[(0,.slice a l k),(3,.slice (some ⟨B,0,none⟩) l l),(4,.int .i64 (nx L (n+1)+(L.take i).count (n+1):Nat)),(5,.int .i64 ((n+1:Nat):Int)),(17,.slice a l k),(18,.int .i64 (l:Int)),(19,.int .i64 (i:Nat))])
   (fun i m'=>i≤l∧CdRow m' B L (n+1) i∧∀ S,Fr S m m') (fun i=>l - i) 0 rfl ⟨Nat.zero_le _,hrow,hf2⟩ ?_
  rintro i m3 ⟨hi,hrow3,hf3⟩
  refine p_spec_Codes_rrrlrllrllrrll a l k _ l l _ _ a l k _ _ m3 _ ?_
  by_cases hil:i < l
  ·rw [decide_eq_true (by omega)]
   have hget:L[i]?=some (L[i]'(by omega)):=List.getElem?_eq_getElem (by omega)
   have hlni:ln L i=L[i]'(by omega):=by unfold ln; rw [List.getD_eq_getElem?_getD,hget]; rfl
   refine ifB_t ?_
   have hS3:=hS.old hf3
   rw [hS3.at_ (by omega)]
   refine ⟨⟨by omega,by omega⟩,_,hS3.data i _ hget,?_⟩
   rw [← hlni]
   have hw:IntKind.wrap .i64 ((i:Int)+1)=((i+1:Nat):Int):=by rw [wrap64_id (by omega) (by omega)]; rfl
   have htk:(L.take (i+1)).count (n+1)=(L.take i).count (n+1)+(if ln L i=n+1 then 1 else 0):=by
    rw [List.take_succ_eq_append_getElem (by omega:i < L.length),List.count_append,hlni]
    congr 1
    rw [List.count_singleton]
    by_cases h:L[i]=n+1
    ·simp [h]
    ·simp [h]
   by_cases he:ln L i=n+1
   ·have hb:((ln L i:Int) == ((n+1:Nat):Int))=true:=by rw [he]; simp
    rw [hb]
    refine ifB_t ⟨⟨by omega,by omega⟩,?_⟩
    have hcb':=cd_bound (L:=L) (by omega) (show n+1≤15 by omega) i
    obtain ⟨_,hw3⟩:=hrow3 i (by omega)
    have hap:aplus ⟨B,0,none⟩ ((i:Int)).toNat=⟨B,i,none⟩:=by simp [aplus]
    rw [hap]
    refine StW.at rfl hw3 fun m4 c4 f4 _=>?_
    refine WPS.piece [0,3,4,5,17,18,19] rfl (p_spec_Codes_rrrlrllrllrrllrrr _ _ _ _ _ _ _ _ _ _ _ _ _ _ _ ?_)
    rw [hw]
    have hw4:IntKind.wrap .i64 (((nx L (n+1)+(L.take i).count (n+1):Nat):Int)+1)=((nx L (n+1)+(L.take (i+1)).count (n+1):Nat):Int):=by
     rw [wrap64_id (by omega) (by omega),htk,if_pos he]; omega
    rw [hw4]
    refine ⟨i+1,rfl,⟨by omega,fun j hj=>?_,fun S=>?_⟩,by omega⟩
    ·obtain ⟨h1,h2⟩:=hrow3 j hj
     refine ⟨?_,h2.fr f4⟩
     by_cases hji:j=i
     ·subst hji
      rw [c4]
      unfold cdAt cd
      rw [if_pos ⟨by omega,.inr ⟨he,by omega⟩⟩,he]
     ·rw [f4.cell h1 (by simp only; omega)]
      unfold cdAt
      have:(ln L j≠0∧(ln L j < n+1∨ln L j=n+1∧j < i)) ↔ (ln L j≠0∧(ln L j < n+1∨ln L j=n+1∧j < i+1)):=by omega
      simp only [this]
    ·refine Fr.old ((hf3 _).trans f4) ?_
     rintro x y hx ⟨rfl,_⟩; omega
   ·have hb:((ln L i:Int) == ((n+1:Nat):Int))=false:=by
     rw [beq_eq_false_iff_ne]; omega
    rw [hb]
    refine ifB_f (WPS.piece [0,3,4,5,17,18,19] rfl (p_spec_Codes_rrrlrllrllrrllrrr _ _ _ _ _ _ _ _ _ _ _ _ _ _ _ ?_))
    rw [hw]
    rw [if_neg he,Nat.add_zero] at htk
    refine ⟨i+1,by rw [htk]; rfl,⟨by omega,fun j hj=>?_,hf3⟩,by omega⟩
    obtain ⟨h1,h2⟩:=hrow3 j hj
    refine ⟨?_,h2⟩
    rw [h1]
    unfold cdAt
    have:(ln L j≠0∧(ln L j < n+1∨ln L j=n+1∧j < i)) ↔ (ln L j≠0∧(ln L j < n+1∨ln L j=n+1∧j < i+1)):=by
     by_cases hji:j=i
     ·subst hji; omega
     ·omega
    simp only [this]
  ·rw [decide_eq_false (by omega)]
   have hil':i=L.length:=by omega
   refine ifB_f (WPS.piece [0,3,4,5] rfl (p_spec_Codes_rrrlrllrr _ _ _ _ _ _ _ _ _ _ ?_))
   have hw:IntKind.wrap .i64 (((n+1:Nat):Int)+1)=((n+1+1:Nat):Int):=by rw [wrap64_id (by omega) (by omega)]; rfl
   rw [hw,hil',List.take_length]
   have hcnt:cnt L (n+1)=L.count (n+1):=by unfold cnt; rw [if_neg (by omega)]
   refine ⟨n+1,by rw [hcnt]; rfl,⟨by omega,fun j hj=>?_,hf3⟩,by omega⟩
   obtain ⟨h1,h2⟩:=hrow3 j hj
   refine ⟨?_,h2⟩
   rw [h1]
   unfold cdAt
   have:(ln L j≠0∧(ln L j < n+1∨ln L j=n+1∧j < i)) ↔ (ln L j≠0∧(ln L j < n+1+1∨ln L j=n+1+1∧j < 0)):=by omega
   simp only [this]
 ·rw [decide_eq_false (by omega)]
  refine ifB_f (WPS.piece [3] rfl (p_spec_Codes_rrrr _ _ _ _ _ ?_))
  refine hk m2 B (by omega) ⟨by simp [cds]; omega,Nat.le_refl _,fun _=>rfl,fun i v hv=>?_⟩ hf2
  have hi:i < L.length:=by have:=(List.getElem?_eq_some_iff.1 hv).1; simpa [cds] using this
  have h1:=(hrow i hi).1
  rw [Nat.zero_add,h1]
  have hv':v=if ln L i=0 then 0 else cd L i:=by
   unfold cds at hv
   rw [List.getElem?_map,List.getElem?_range hi] at hv
   simpa using hv.symm
  subst hv'
  unfold cdAt
  have h2:=ln_15 h15 i
  by_cases h0:ln L i=0
  ·rw [if_neg (by omega),if_pos h0]
  ·rw [if_pos ⟨h0,by omega⟩,if_neg h0]
end Go.M

namespace Go.M
open Go
set_option maxRecDepth 100000
theorem Length_spec {k:Nat} (hk:257≤k) (hk2:k < 100000) {m:Mem} {R:Value→Mem→Prop} (h:R (.tuple #[.int .i64 ((lenS k).1:Int),.int .i64 ((lenS k).2:Int)]) m):CallM PP f_spec_Length #[.int .i64 (k:Int)] m R:=by
 refine e_spec_Length k m R ?_
 by_cases h1:k=285
 ·subst h1; exact ifB_t h
 have e1:((k:Int) == 285)=false:=by rw [beq_eq_false_iff_ne]; omega
 rw [e1,decide_eq_true (show (k:Int) ≥ 257 by omega)]
 refine ifB_f (ifB_t ?_)
 by_cases h2:k≤264
 ·rw [decide_eq_true (by omega)]
  have:lenS k=(k - 254,0):=by unfold lenS; rw [if_neg h1,if_pos ⟨hk,h2⟩]
  rw [this] at h
  refine ifB_t ?_
  rw [show IntKind.wrap .i64 ((k:Int) - 254)=((k - 254:Nat):Int) by rw [wrap64_id (by omega) (by omega)]; omega]
  exact h
 rw [decide_eq_false (by omega),decide_eq_true (show (k:Int) ≥ 265 by omega)]
 refine ifB_f (ifB_t ?_)
 by_cases h3:k≤284
 ·rw [decide_eq_true (by omega)]
  have key:∀ j:Fin 20,(0≤IntKind.wrap .i64 (Int.tdiv (IntKind.wrap .i64 (((265+j.val:Nat):Int) - 261)) 4))∧
    IntKind.wrap .i64 (3+(shlOp .i64 (IntKind.wrap .i64 (4+(Int.tmod (IntKind.wrap .i64 (((265+j.val:Nat):Int) - 261)) 4))) (IntKind.wrap .i64 (Int.tdiv (IntKind.wrap .i64 (((265+j.val:Nat):Int) - 261)) 4))))=((lenS (265+j.val)).1:Int)∧
    IntKind.wrap .i64 (Int.tdiv (IntKind.wrap .i64 (((265+j.val:Nat):Int) - 261)) 4)=((lenS (265+j.val)).2:Int):=by decide+kernel
  obtain ⟨g1,g2,g3⟩:=key ⟨k - 265,by omega⟩
  simp only [show 265+(k - 265)=k by omega] at g1 g2 g3
  refine ifB_t ⟨rfl,by decide,rfl,by decide,g1,?_⟩
  rw [g2,g3]; exact h
 ·rw [decide_eq_false (by omega)]
  rw [lenS_none (by omega)] at h
  exact ifB_f h
theorem Distance_spec {k:Nat} (hk2:k < 100000) {m:Mem} {R:Value→Mem→Prop} (h:R (.tuple #[.int .i64 ((dstS k).1:Int),.int .i64 ((dstS k).2:Int)]) m):CallM PP f_spec_Distance #[.int .i64 (k:Int)] m R:=by
 refine e_spec_Distance k m R ?_
 rw [decide_eq_true (show (k:Int) ≥ 0 by omega)]
 refine ifB_t ?_
 by_cases h2:k≤3
 ·rw [decide_eq_true (by omega)]
  have:dstS k=(k+1,0):=by unfold dstS; rw [if_pos (by omega)]
  rw [this] at h
  refine ifB_t ?_
  rw [show IntKind.wrap .i64 ((k:Int)+1)=((k+1:Nat):Int) by rw [wrap64_id (by omega) (by omega)]; omega]
  exact h
 rw [decide_eq_false (by omega),decide_eq_true (show (k:Int) ≥ 4 by omega)]
 refine ifB_f (ifB_t ?_)
 by_cases h3:k≤29
 ·rw [decide_eq_true (by omega)]
  have key:∀ j:Fin 26,(0≤IntKind.wrap .i64 ((IntKind.wrap .i64 (Int.tdiv ((4+j.val:Nat):Int) 2)) - 1))∧
    IntKind.wrap .i64 (1+(shlOp .i64 (IntKind.wrap .i64 (2+(Int.tmod ((4+j.val:Nat):Int) 2))) (IntKind.wrap .i64 ((IntKind.wrap .i64 (Int.tdiv ((4+j.val:Nat):Int) 2)) - 1))))=((dstS (4+j.val)).1:Int)∧
    IntKind.wrap .i64 ((IntKind.wrap .i64 (Int.tdiv ((4+j.val:Nat):Int) 2)) - 1)=((dstS (4+j.val)).2:Int):=by decide+kernel
  obtain ⟨g1,g2,g3⟩:=key ⟨k - 4,by omega⟩
  simp only [show 4+(k - 4)=k by omega] at g1 g2 g3
  refine ifB_t ⟨rfl,by decide,rfl,by decide,g1,?_⟩
  rw [g2,g3]; exact h
 ·rw [decide_eq_false (by omega)]
  have:dstS k=(0,0):=by unfold dstS; rw [if_neg (by omega),if_neg (by omega)]
  rw [this] at h
  exact ifB_f h
end Go.M

namespace Go.M
open Go
set_option maxRecDepth 100000
def fixV (i:Nat):Nat:=if 144≤i∧i≤255 then 9 else if 256≤i∧i≤279 then 7 else 8
theorem p_fixed_next (a1:Option Addr) (l2:Nat) (k3:Nat) (a4:Option Addr) (l5:Nat) (k6:Nat) (x5 x7:Int) (m:Mem) (K:Kont)
  (h:K.kn [(2,.slice a1 l2 k3),(3,.slice a4 l5 k6),(5,.int .i64 x5),(6,.int .i64 (IntKind.wrap .i64 (x7+1)))] m):
  wpc PP FF 36 L_spec_fixed c_spec_fixed_rrlrllrrr K [(2,.slice a1 l2 k3),(3,.slice a4 l5 k6),(5,.int .i64 x5),(6,.int .i64 x7)] m:=Eq.mpr (by kernel_rfl) h
theorem fixed_spec {m:Mem} {R:Value→Mem→Prop} (hk:∀ m' a l k b o a2 l2 k2 b2 o2,OutI m' a l k b o ((List.range 288).map fixV)→OutI m' a2 l2 k2 b2 o2 (List.replicate 32 5)→(0 < k→m.size≤b)→(0 < k2→m.size≤b2)→(∀ S,Fr S m m')→R (.tuple #[.slice a l k,.slice a2 l2 k2]) m'):
  CallM PP f_spec_fixed #[] m R:=by
 refine e_spec_fixed m R ?_
 rw [q_spec_fixed_rrlrl]
 refine loopW ffOk mixedOk (L₀:=L_spec_fixed) (σ:=Nat×Option Addr×Nat×Nat×Nat) [2,3,6] (fun s=>[(2,.slice s.2.1 s.1 s.2.2.1),(3,.slice none 0 0),(6,.int .i64 (s.1:Nat))])
  (fun s m'=>s.1≤288∧OutI m' s.2.1 s.1 s.2.2.1 s.2.2.2.1 s.2.2.2.2 ((List.range s.1).map fixV)∧(0 < s.2.2.1→m.size≤s.2.2.2.1)∧∀ S,Fr S m m') (fun s=>288 - s.1) (0,none,0,0,0) rfl ⟨by decide,OutI.nil _ _,by simp,fun S=>Fr.refl _ _⟩ ?_
 rintro ⟨i,a,k,b,o⟩ m1 ⟨hi,hO,hb,hF⟩
 simp only at hi hO hb hF
 refine p_spec_fixed_rrlrll a i k none 0 0 i m1 _ ?_
 by_cases hin:i < 288
 ·rw [decide_eq_true (by omega)]
  have hw:IntKind.wrap .i64 ((i:Int)+1)=((i+1:Nat):Int):=by rw [wrap64_id (by omega) (by omega)]; rfl
  refine ifB_t ?_
  have step:∀ v:Nat,v=fixV i→∀ K:Kont,(∀ r m',(∃ s':Nat×Option Addr×Nat×Nat×Nat,Env.keep [2,3,6] r=[(2,.slice s'.2.1 s'.1 s'.2.2.1),(3,.slice none 0 0),(6,.int .i64 (s'.1:Nat))]∧(s'.1≤288∧OutI m' s'.2.1 s'.1 s'.2.2.1 s'.2.2.2.1 s'.2.2.2.2 ((List.range s'.1).map fixV)∧(0 < s'.2.2.1→m.size≤s'.2.2.2.1)∧∀ S,Fr S m m')∧288 - s'.1 < 288 - i)→K.kn r m')→
    WPS PP 36 c_spec_fixed_rrlrllrrllrrr ((K.withN fun r m=>wpc PP FF 36 L_spec_fixed c_spec_fixed_rrlrllrrr K r m).withX 1) [(2,.slice a i k),(3,.slice none 0 0),(4,.int .i64 (i:Int)),(5,.int .i64 (v:Int)),(6,.int .i64 (i:Int))] m1:=by
   intro v hv K hK
   refine WPS.piece [2,3,5,6] rfl (p_spec_fixed_rrlrllrrllrrr a i k none 0 0 v i m1 _ (pushI_W hO v (by omega) fun m2 a' k' b' o' hO2 hk' hb2 hf2=>?_))
   refine p_fixed_next _ _ _ _ _ _ _ _ _ _ ?_
   rw [hw]
   refine hK _ _ ⟨(i+1,a',k',b',o'),rfl,⟨by simp only; omega,?_,?_,fun S=>?_⟩,by simp only; omega⟩
   ·simp only
    rw [List.range_succ,List.map_append,List.map_singleton, ← hv]; exact hO2
   ·intro _
    rcases hb2 with ⟨rfl,rfl⟩ | h
    ·exact hb hk'
    ·have:=(hF fun _ _=>False).size; simp only; omega
   ·refine Fr.old ((hF _).trans hf2) ?_
    rintro x j hx ⟨rfl,h0⟩
    have:=hb h0; omega
  by_cases h1:144≤i
  ·rw [decide_eq_true (show (i:Int) ≥ 144 by omega)]
   refine ifB_t ?_
   by_cases h2:i≤255
   ·rw [decide_eq_true (show (i:Int)≤255 by omega)]
    exact ifB_t (step 9 (by unfold fixV; rw [if_pos ⟨h1,h2⟩]) _ fun r m' h=>h)
   ·rw [decide_eq_false (show ¬ (i:Int)≤255 by omega),decide_eq_true (show (i:Int) ≥ 256 by omega)]
    refine ifB_f (ifB_t ?_)
    by_cases h3:i≤279
    ·rw [decide_eq_true (show (i:Int)≤279 by omega)]
     exact ifB_t (step 7 (by unfold fixV; rw [if_neg (by omega),if_pos (by omega)]) _ fun r m' h=>h)
    ·rw [decide_eq_false (show ¬ (i:Int)≤279 by omega)]
     exact ifB_f (step 8 (by unfold fixV; rw [if_neg (by omega),if_neg (by omega)]) _ fun r m' h=>h)
  ·rw [decide_eq_false (show ¬ (i:Int) ≥ 144 by omega),decide_eq_false (show ¬ (i:Int) ≥ 256 by omega)]
   exact ifB_f (ifB_f (step 8 (by unfold fixV; rw [if_neg (by omega),if_neg (by omega)]) _ fun r m' h=>h))
 ·rw [decide_eq_false (by omega)]
  have hi':i=288:=by omega
  subst hi'
  refine ifB_f ?_
  refine WPS.piece [2,3] rfl (p_spec_fixed_rrr a 288 k none 0 0 m1 _ ?_)
  rw [q_spec_fixed_rrrlrl]
  refine loopW ffOk mixedOk (L₀:=L_spec_fixed) (σ:=Nat×Option Addr×Nat×Nat×Nat) [2,3,28] (fun s=>[(2,.slice a 288 k),(3,.slice s.2.1 s.1 s.2.2.1),(28,.int .i64 (s.1:Nat))])
   (fun s m'=>s.1≤32∧OutI m' a 288 k b o ((List.range 288).map fixV)∧OutI m' s.2.1 s.1 s.2.2.1 s.2.2.2.1 s.2.2.2.2 (List.replicate s.1 5)∧(0 < s.2.2.1→m1.size≤s.2.2.2.1)∧∀ S,Fr S m1 m') (fun s=>32 - s.1) (0,none,0,0,0) rfl ⟨by decide,hO,OutI.nil _ _,by simp,fun S=>Fr.refl _ _⟩ ?_
  rintro ⟨j,a2,k2,b2,o2⟩ m2 ⟨hj,hO1,hO2,hb2,hF2⟩
  simp only at hj hO2 hb2
  refine p_spec_fixed_rrrlrll a 288 k a2 j k2 j m2 _ ?_
  have hbm:0 < k→b < m1.size:=fun h0=>by
   obtain ⟨⟨v,hv⟩,_⟩:=hO.own.wr 0 (by omega)
   have:=cell_block hv; simpa using this
  by_cases hjn:j < 32
  ·rw [decide_eq_true (by omega)]
   have hw:IntKind.wrap .i64 ((j:Int)+1)=((j+1:Nat):Int):=by rw [wrap64_id (by omega) (by omega)]; rfl
   rw [hw]
   refine ifB_t (pushI_W hO2 5 (by omega) fun m3 a' k' b' o' hO3 hk' hb3 hf3=>?_)
   refine ⟨(j+1,a',k',b',o'),rfl,⟨by simp only; omega,hO1.fr hf3 ?_,?_,?_,fun S=>?_⟩,by simp only; omega⟩
   ·rintro h0 x ⟨e,h1⟩
    have:=hbm h0; have:=hb2 h1; omega
   ·simp only
    rw [List.replicate_succ']; exact hO3
   ·intro _
    rcases hb3 with ⟨rfl,rfl⟩ | h
    ·exact hb2 hk'
    ·have:=(hF2 fun _ _=>False).size; simp only; omega
   ·refine Fr.old ((hF2 _).trans hf3) ?_
    rintro x y hx ⟨rfl,h0⟩
    have:=hb2 h0; omega
  ·rw [decide_eq_false (by omega)]
   have hj':j=32:=by omega
   subst hj'
   refine ifB_f ?_
   refine WPS.piece [2,3] rfl (p_spec_fixed_rrrr a 288 k a2 32 k2 m2 _ ?_)
   exact hk m2 a 288 k b o a2 32 k2 b2 o2 hO1 hO2 hb (fun h0=>by have:=hb2 h0; have:=(hF fun _ _=>False).size; omega) fun S=>(hF S).trans (hF2 S)
end Go.M
