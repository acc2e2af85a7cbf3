/- errors.As, at a CorruptInputError. The thin package: code, all. The thin package: source, All, AllDict. -/
import Derived.Test.YtjphakdpokombaaGreatDoorPkp
import Derived.Test.YtjphakdpokombaaGreatDoorPko
import Derived.Test.YtjphakdpokombaaGreatDoorPke
namespace Go.M
open Go
set_option maxRecDepth 100000
theorem box_value {p v x:Value} {m:Mem} {K:Nat→Mem→Prop} (h:K m.size (m.push (.cells #[p,v,x] t_reflectlite_Value))):BoxW t_reflectlite_Value (.agg #[p,v,x]) m K:=h
theorem errors_as_hit {x:Int} {s n:Nat} {m:Mem} {R:Value→Mem→Prop} (hs:cell? m ⟨s,0,none⟩=some (.pointer (some ⟨n,0,none⟩))) (hn:Wr m ⟨n,0,none⟩)
  (hk:∀ m',Fr (fun i j=>i=n∧j=0) m m'→R (.bool true) m'):
  CallM PP f_errors_as #[.iface tC (.int .i64 x),.iface tPC (.pointer (some ⟨n,0,none⟩)),rval tPC s 150,rty tC] m R:=by
 refine e_errors_as _ _ _ _ _ _ m R (box_value ?_)
 have hv:∀ i v,[hd tPC,.pointer (some ⟨s,0,none⟩),.int .u64 150][i]?=some v→cell? (m.push (.cells #[hd tPC,.pointer (some ⟨s,0,none⟩),.int .u64 150] t_reflectlite_Value)) ⟨m.size,i,none⟩=some v:=fun i v h=>cell_new (by simpa using h)
 have f1:∀ S,Fr S m (m.push (.cells #[hd tPC,.pointer (some ⟨s,0,none⟩),.int .u64 150] t_reflectlite_Value)):=fun S=>Fr.push _
 show WPS PP 62 c_errors_as_rl _ _ (m.push (.cells #[hd tPC,.pointer (some ⟨s,0,none⟩),.int .u64 150] t_reflectlite_Value))
 generalize m.push (.cells #[hd tPC,.pointer (some ⟨s,0,none⟩),.int .u64 150] t_reflectlite_Value)=m1 at hv f1 ⊢
 rw [q_errors_as_rl]
 refine loopW ffOk mixedOk (L₀:=L_errors_as) [0,1,3,6] (fun _:Unit=>[(0,.iface tC (.int .i64 x)),(1,.iface tPC (.pointer (some ⟨n,0,none⟩))),(3,rty tC),(6,.pointer (some ⟨m.size,0,none⟩))]) (fun _ m'=>m'=m1) (fun _=>0) () rfl rfl ?_
 rintro _ m2 rfl
 refine p_errors_as_rll _ _ _ _ _ _ (c_typeOf (as_typeOf ⟨_,rfl,c_assignable (as_assignable ⟨_,rfl,ifB_t ?_⟩)⟩))
 refine ⟨_,_,_,rfl,⟨hv 0 _ rfl,hv 1 _ rfl,hv 2 _ rfl,trivial⟩,c_elemV (as_elemV ((f1 fun _ _=>False).cell hs (by simp)) ⟨_,rfl,c_valueOf (as_valueOfI ⟨_,rfl,?_⟩)⟩)⟩
 have hw:Wr m2 ⟨n,0,none⟩:=hn.fr (f1 fun _ _=>False)
 have f2:Fr (fun _ _=>False) m2 (m2.push (.cells #[.int .i64 x] tC)):=Fr.push _
 have hw2:=hw.fr f2
 refine c_set (as_set (cell_new (c:=#[.int .i64 x]) (i:=0) rfl) hw2.1 hw2.2 ⟨rfl,?_⟩)
 exact hk _ ((f1 _).trans ((f2.mono fun _ _ h=>h.elim).trans (Fr.set ⟨rfl,rfl⟩)))
theorem z_value:zeroOf PP t_reflectlite_Value=some (.agg #[.pointer none,.pointer none,.int .u64 0]):=by kernel_rfl
theorem value_store {m:Mem} {a:Addr} {v1 v2 v3:Value} {K:Mem→Prop} (h:SemW PP (storeCells a [v1,v2,v3] 0) m fun _ m'=>K m'):StAgg PP t_reflectlite_Value m a (.agg #[v1,v2,v3]) K:=Eq.mpr (by kernel_rfl) h
theorem errors_As_hit {E:Errs} {x:Int} {n:Nat} {m:Mem} {R:Value→Mem→Prop} (hG:Glob E m) (hn:Wr m ⟨n,0,none⟩)
  (hk:∀ m',Fr (fun i j=>i=n∧j=0) m m'→R (.bool true) m'):
  CallM PP f_errors_As #[.iface tC (.int .i64 x),.iface tPC (.pointer (some ⟨n,0,none⟩))] m R:=by
 refine e_errors_As _ _ m R ⟨rfl,ifB_f ⟨rfl,ifB_f ?_⟩⟩
 refine WPS.piece [0,1] rfl (p_errors_As_rrr _ _ _ _ (c_valueOf (as_valueOf ⟨_,rfl,alloc_W z_value ?_⟩)))
 have f1:∀ S,Fr S m (m.push (.cells #[.pointer (some ⟨n,0,none⟩)] tPC)):=fun S=>Fr.push _
 have c1:cell? (m.push (.cells #[.pointer (some ⟨n,0,none⟩)] tPC)) ⟨m.size,0,none⟩=some (.pointer (some ⟨n,0,none⟩)):=cell_new (c:=#[.pointer (some ⟨n,0,none⟩)]) (i:=0) rfl
 generalize m.push (.cells #[.pointer (some ⟨n,0,none⟩)] tPC)=m1 at f1 c1 ⊢
 have w2:∀ j,j < 3→Wr (m1.push (.cells #[.pointer none,.pointer none,.int .u64 0] t_reflectlite_Value)) ⟨m1.size,j,none⟩:=fun j hj=>wr_new (by simpa using hj)
 have f2:∀ S,Fr S m1 (m1.push (.cells #[.pointer none,.pointer none,.int .u64 0] t_reflectlite_Value)):=fun S=>Fr.push _
 show StAgg PP t_reflectlite_Value (m1.push (.cells #[.pointer none,.pointer none,.int .u64 0] t_reflectlite_Value)) _ _ _
 generalize m1.push (.cells #[.pointer none,.pointer none,.int .u64 0] t_reflectlite_Value)=m2 at w2 f2 ⊢
 refine value_store (Row.storeCells (b:=m1.size) (o:=0) (i:=0) (by intro v hv; simp at hv; rcases hv with rfl | rfl | rfl <;> rfl) (fun j hj=>by simpa using w2 j (by simpa using hj)) fun m3 c3 f3 _=>?_)
 have hlt:m.size < m1.size:=by have:=cell_block c1; simpa using this
 have F3:Fr (fun _ _=>False) m m3:=Fr.old ((f1 _).trans ((f2 _).trans (f3.mono (S':=fun i _=>i=m1.size) fun i j h=>h.1))) (by rintro i j hi rfl; omega)
 have cs:CellsAre m3 ⟨m1.size,0,none⟩ 0 [hd tPC,.pointer (some ⟨m.size,0,none⟩),.int .u64 150]:=⟨c3 0 _ rfl,c3 1 _ rfl,c3 2 _ rfl,trivial⟩
 have hs:cell? m3 ⟨m.size,0,none⟩=some (.pointer (some ⟨n,0,none⟩)):=f3.cell ((f2 fun _ _=>False).cell c1 (by simp)) (by simp only; omega)
 refine ⟨_,_,_,rfl,cs,c_valueType (as_type ⟨_,rfl,c_kind (as_kindP ⟨_,rfl,ifB_f ⟨_,_,_,rfl,cs,c_isNil (as_isNil hs ⟨_,rfl,ifB_f ?_⟩)⟩⟩)⟩)⟩
 refine WPS.piece [0,1,5,6] rfl (p_errors_As_rrrrrr _ _ _ _ _ _ (c_elem (as_elem ⟨_,rfl,c_kind (as_kindI ⟨_,rfl,ifB_t ⟨_,F3.cell hG.et (by simp),c_implements (as_implements ⟨_,rfl,ifB_f ?_⟩)⟩⟩)⟩)))
 refine WPS.piece [0,1,5,7] rfl (p_errors_As_rrrrrrrr _ _ _ _ _ _ ⟨_,_,_,rfl,cs,errors_as_hit hs (hn.fr F3) fun m4 f4=>⟨_,rfl,?_⟩⟩)
 exact hk m4 ((F3.mono fun _ _ h=>h.elim).trans f4)
end Go.M

namespace Go.M
open Go
set_option maxRecDepth 100000
def u8V (v:Nat):Value:=.int .u8 (v:Int)
structure OutB (m:Mem) (a:Option Addr) (l k b o:Nat) (d:List Nat):Prop where
 own:Own m a l k 1 (d.map u8V) b o
 u8:0 < k→∀ j v,cell? m ⟨b,j,none⟩=some v→∃ x,v=.int .u8 x
theorem OutB.nil (m:Mem) (b:Nat):OutB m none 0 0 b 0 []:=⟨⟨rfl,Nat.le_refl _,by omega,fun i v h=>by simp at h,fun i h=>by omega⟩,by omega⟩
theorem OutB.len {m:Mem} {a:Option Addr} {l k b o:Nat} {d:List Nat} (h:OutB m a l k b o d):d.length=l:=by simpa using h.own.len
theorem OutB.fr {m m':Mem} {S:Nat→Nat→Prop} {a:Option Addr} {l k b o:Nat} {d:List Nat} (h:OutB m a l k b o d) (hf:Fr S m m') (hs:0 < k→∀ j, ¬ S b j):OutB m' a l k b o d:=by
 refine ⟨⟨h.own.len,h.own.le,h.own.at_,?_,h.own.wr.fr hf⟩,fun h0 j v hv=>?_⟩
 ·refine h.own.row.fr hf fun i hi=>hs ?_ _
  have:=h.own.len; have:=h.own.le; omega
 ·obtain ⟨⟨w,hw⟩,_⟩:=h.own.wr 0 (by omega)
  obtain ⟨v',hv'⟩:=hf.back hw hv
  have:=hf.cell hv' (hs h0 j)
  rw [hv] at this
  simp only [Option.some.injEq] at this
  rw [this]; exact h.u8 h0 j v' hv'
theorem appendB_W {m:Mem} {a a2:Option Addr} {l k l2 k2 b o b2 o2:Nat} {d ys:List Nat} {K:Value→Mem→Prop} (hO:OutB m a l k b o d) (hy:ys.length=l2) (h2:ys≠[]→a2=some ⟨b2,o2,none⟩)
  (hr:∀ i v,ys[i]?=some v→cell? m ⟨b2,o2+i,none⟩=some (u8V v)) (hbig:l+l2≤70368744177664)
  (hk:∀ m' a' k' b' o',OutB m' a' (l+l2) k' b' o' (d++ys)→((b'=b∧o'=o∧k'=k)∨(b'=m.size∧o'=0))→Fr (fun x _=>x=b∧0 < k) m m'→(0 < l2→0 < k')→K (.slice a' (l+l2) k') m'):
  SemW PP (builtin .append #[t_s_uint8,t_s_uint8] t_s_uint8 #[false,false] #[.slice a l k,.slice a2 l2 k2]) m (NextW PP K):=by
 obtain ⟨iu,hi⟩:=one_uint8
 refine append_Q (d2:=.slice t_uint8) u_s_uint8 u_s_uint8 (by intro k h; cases h) hi.info hi.zero (by rw [hi.size]; decide) (by rw [hi.size]; rfl) b o b2 o2 (d.map u8V) (ys.map u8V) (by rw [hi.size]; exact hO.own) (by rw [hi.size]; simpa using hy) ?_ (fun h=>h2 (by intro e; rw [e] at h; exact h rfl)) ?_ (by rw [hi.bytes]; omega) (by rw [hi.bytes]; decide) ?_
 ·intro v hv
  simp only [List.mem_map] at hv
  obtain ⟨x,_,rfl⟩:=hv
  rfl
 ·intro i v hv
  rw [List.getElem?_map] at hv
  cases hq:ys[i]? with
  | none=>rw [hq] at hv; cases hv
  | some q=>rw [hq] at hv; simp only [Option.map_some,Option.some.injEq] at hv; rw [← hv]; exact hr i q hq
 ·intro m' a' k' b' o' hown hb hf h0 hQ
  rw [hi.size] at hown
  refine hk m' a' k' b' o' ⟨by rw [List.map_append]; exact hown,fun h1=>?_⟩ hb hf h0
  refine hQ (fun v=>∃ x,v=.int .u8 x) ?_ ?_ ?_ hO.u8 h1
  ·intro v hv; simp only [List.mem_map] at hv; obtain ⟨x,_,rfl⟩:=hv; exact ⟨_,rfl⟩
  ·intro v hv; simp only [List.mem_map] at hv; obtain ⟨x,_,rfl⟩:=hv; exact ⟨_,rfl⟩
  ·intro v hv
   have:v ∈ #[Value.int .u8 0]:=hv
   exact ⟨_,by simpa using this⟩
def codeOf:Er→Int
 | .fin=>1
 | .cut=>2
 | .bad=>3
theorem z_corrupt:zeroOf PP t_flate_CorruptInputError=some (.int .i64 0):=by kernel_rfl
theorem code_spec {E:Errs} {e:Er} {v:Value} {m:Mem} (hG:Glob E m) (he:IsErr E e v) {R:Value→Mem→Prop} (hk:∀ m',(∀ S,Fr S m m')→R (.int .i64 (codeOf e)) m'):CallM PP f_impl_code #[v] m R:=by
 refine e_impl_code v m R (alloc_W z_corrupt ?_)
 have w1:Wr (m.push (.cells #[.int .i64 0] t_flate_CorruptInputError)) ⟨m.size,0,none⟩:=wr_new (by simp)
 have f1:∀ S,Fr S m (m.push (.cells #[.int .i64 0] t_flate_CorruptInputError)):=fun S=>Fr.push _
 have e1:Array.push m (Obj.cells (Value.int IntKind.i64 0).cells t_flate_CorruptInputError)=m.push (.cells #[.int .i64 0] t_flate_CorruptInputError):=rfl
 rw [e1]
 generalize m.push (.cells #[.int .i64 0] t_flate_CorruptInputError)=m1 at w1 f1 ⊢
 have hG1:Glob E m1:=hG.fr (f1 fun _ _=>False) (by intro i j h; exact h.elim)
 refine ⟨he.ifc.1,?_⟩
 rw [he.ifc.2]
 refine ifB_f ⟨_,hG1.eof,?_⟩
 cases e with
 | fin=>cases he; exact eqErr_same _ _ E.pe m1 _ ⟨true,rfl,hk m1 f1⟩
 | cut=>
  cases he
  exact eqErr_other _ _ (Ne.symm hG1.ne) hG1.bu hG1.be _ ⟨false,rfl,_,hG1.cut,eqErr_same _ _ E.pu m1 _ ⟨true,rfl,hk m1 f1⟩⟩
 | bad=>
  obtain ⟨n,rfl⟩:=he
  refine eqCor_W _ _ n E.pe m1 _ ⟨false,rfl,_,hG1.cut,eqCor_W _ _ n E.pu m1 _ ⟨false,rfl,ifB_f ?_⟩⟩
  refine errors_As_hit hG1 w1 fun m2 f2=>⟨true,rfl,ifB_t (hk m2 fun S=>?_)⟩
  exact Fr.old ((f1 _).trans f2) (by rintro i j hi ⟨rfl,_⟩; omega)
section
variable {E:Errs} {src:List Nat} {D:Rdr E src} {f bh bb cb:Nat}
theorem Win.lt {m:Mem} {H:List Nat} {wr rd:Nat} (h:Win m f bh H wr rd):bh < m.size:=by
 obtain ⟨h,full,h1,_⟩:=h.ex
 have:=cell_block (h1.data 0 (by decide)); simpa using this
theorem Live.lt {m:Mem} {Hf:List Nat} {e:Er} {pf Dl:Nat} (h:Live D f bh bb cb Hf e pf Dl m):∀ i j,Mw D f bh bb cb i j→i < m.size:=by
 have key:AuxW D f bh bb cb m∧bh < m.size:=by
  rcases h with ⟨s,pos,wr,rd,l,h1,h2⟩ | ⟨wr,l,h1,h2⟩
  ·exact ⟨h2.weak,h1.base.win.lt⟩
  ·exact ⟨h2,h1.win.lt⟩
 obtain ⟨hA,hb⟩:=key
 rintro i j (h | rfl | rfl | rfl | rfl)
 ·exact hA.dlt i j h
 ·have:=cell_block hA.bits; simpa using this
 ·exact hb
 ·obtain ⟨⟨v,hv⟩,_⟩:=hA.wb 0 (by decide); have:=cell_block hv; simpa using this
 ·obtain ⟨⟨v,hv⟩,_⟩:=hA.wc 0 (by decide); have:=cell_block hv; simpa using this
theorem Live.glob {m:Mem} {Hf:List Nat} {e:Er} {pf Dl:Nat} (h:Live D f bh bb cb Hf e pf Dl m):Glob E m:=by
 rcases h with ⟨s,pos,wr,rd,l,h1,h2⟩ | ⟨wr,l,h1,h2⟩
 ·exact h1.base.glob
 ·exact h1.glob
theorem Live.lof {m:Mem} {Hf:List Nat} {e:Er} {pf Dl:Nat} (_h:Live D f bh bb cb Hf e pf Dl m) (h4:∀ i j,Mw D f bh bb cb i j→4 < i):4 < f:=h4 f 0 (.inr (.inl rfl))
theorem callM_Read (x:Value) (m:Mem) (K:Value→Mem→Prop) (h:CallM PP f_decompressor_Read #[.pointer (some ⟨f,0,none⟩),x] m K):
  SemW PP (callMethod (.iface t_p_flate_decompressor (.pointer (some ⟨f,0,none⟩))) "Read" #[x]) m (NextW PP K):=Eq.mpr (by kernel_rfl) h
theorem Live.fresh {m m':Mem} {Hf:List Nat} {e:Er} {pf Dl:Nat} (h:Live D f bh bb cb Hf e pf Dl m) (hf:∀ S,Fr S m m'):Live D f bh bb cb Hf e pf Dl m':=
 h.beside (hf fun _ _=>False) ⟨by rintro _ _ _ h; exact h.elim,by rintro _ _ h; exact h.elim,by rintro _ _ h; exact h.elim⟩
theorem take_got {Hf:List Nat} {Dl l q:Nat}:(Hf.drop Dl).take l++((Hf.drop (Dl+l)).take q)=(Hf.drop Dl).take (l+q):=by
 rw [← List.drop_drop, ← List.take_add]
def AllOk (D:Rdr E src) (f bh bb cb:Nat) (Hf:List Nat) (e:Er) (pf Dl:Nat) (lim:Int) (m:Mem) (R:Value→Mem→Prop):Prop:=
 ∀ m' a l k b o c,OutB m' a l k b o ((Hf.drop Dl).take l)→(0 < k→m.size≤b)→Dl+l≤Hf.length→Live D f bh bb cb Hf e pf (Dl+l) m'→Fr (Mw D f bh bb cb) m m'→
  ((Dl+l=Hf.length∧c=codeOf e∧Dead D f bh bb cb Hf e pf (Dl+l) m')∨(lim < l∧c=0))→R (.tuple #[.slice a l k,.int .i64 c]) m'
theorem all_spec {m:Mem} {Hf:List Nat} {e:Er} {pf Dl:Nat} (hL:Live D f bh bb cb Hf e pf Dl m) (hDl:Dl≤Hf.length) (hDf:∀ j, ¬ D.S f j) (hlof:4 < f) {lim:Int} (hlim:lim≤35184372088832) {R:Value→Mem→Prop} (hk:AllOk D f bh bb cb Hf e pf Dl lim m R):
  CallM PP f_impl_all #[.iface t_p_flate_decompressor (.pointer (some ⟨f,0,none⟩)),.int .i64 lim] m R:=by
 refine e_impl_all _ lim m R ?_
 have hlt:=hL.lt
 have hfm:f < m.size:=hlt f 0 (.inr (.inl rfl))
 obtain ⟨iu,hi⟩:=one_uint8
 refine make_W (n:=1000) u_s_uint8 hi.info hi.zero rfl hi.size (by simp) (by simp) (by rw [hi.bytes]; omega) (by omega) fun m1 own1 f1 s1=>⟨_,_,_,rfl,?_⟩
 have hL1:=hL.fresh f1
 have hB1:Buf D f bh bb cb m1 (some ⟨m.size,0,none⟩) m.size 0 1000 1000:=by
  refine ⟨fun _=>rfl,Nat.le_refl _,own1.wr,fun i hi=>⟨0,own1.row i _ (by rw [List.getElem?_replicate,if_pos hi])⟩,fun j hj=>?_,by omega,by omega⟩
  have:=hlt _ _ hj; omega
 rw [q_impl_all_rrrll]
 refine loopW ffOk mixedOk (L₀:=L_impl_all) (σ:=Nat×Option Addr×Nat×Nat×Nat) [0,1,6,7]
  (fun s=>[(0,.iface t_p_flate_decompressor (.pointer (some ⟨f,0,none⟩))),(1,.int .i64 lim),(6,.slice s.2.1 s.1 s.2.2.1),(7,.slice (some ⟨m.size,0,none⟩) 1000 1000)])
  (fun s m'=>OutB m' s.2.1 s.1 s.2.2.1 s.2.2.2.1 s.2.2.2.2 ((Hf.drop Dl).take s.1)∧(0 < s.2.2.1→m.size < s.2.2.2.1)∧Dl+s.1≤Hf.length∧Live D f bh bb cb Hf e pf (Dl+s.1) m'∧Buf D f bh bb cb m' (some ⟨m.size,0,none⟩) m.size 0 1000 1000∧Fr (fun i j=>Mw D f bh bb cb i j∨m.size≤i) m m')
  (fun s=>Hf.length - Dl - s.1) (0,none,0,0,0) rfl ⟨OutB.nil _ _,by simp,hDl,hL1,hB1,f1 _⟩ ?_
 rintro ⟨l,a,k,b,o⟩ m2 ⟨hO,hb,hle,hL2,hB2,hF⟩
 simp only at hO hb hle hL2
 refine p_impl_all_rrrlll _ lim a l k _ _ _ m2 _ ?_
 have step:∀ m3 q,q≤1000→Dl+l+q≤Hf.length→(l:Int)≤lim→Live D f bh bb cb Hf e pf (Dl+l+q) m3→Got m3 m.size 0 Hf (Dl+l) q→Fr (RdS D f bh bb cb m.size 0 q) m2 m3→∀ K:Value→Mem→Prop,
   (∀ m4 a' k' b' o',OutB m4 a' (l+q) k' b' o' ((Hf.drop Dl).take (l+q))→(0 < k'→m.size < b')→Dl+(l+q)≤Hf.length→Live D f bh bb cb Hf e pf (Dl+(l+q)) m4→(Dead D f bh bb cb Hf e pf (Dl+l+q) m3→Dead D f bh bb cb Hf e pf (Dl+(l+q)) m4)→Buf D f bh bb cb m4 (some ⟨m.size,0,none⟩) m.size 0 1000 1000→Fr (fun i j=>Mw D f bh bb cb i j∨m.size≤i) m m4→K (.slice a' (l+q) k') m4)→
   SemW PP (builtin .append #[t_s_uint8,t_s_uint8] t_s_uint8 #[false,false] #[.slice a l k,.slice (some ⟨m.size,0,none⟩) ((q:Int)).toNat 1000]) m3 (NextW PP K):=by
  intro m3 q hq hlen hl hL3 hgot hf3 K hK
  have hqi:((q:Int)).toNat=q:=Int.toNat_natCast q
  rw [hqi]
  have hO3:OutB m3 a l k b o ((Hf.drop Dl).take l):=hO.fr hf3 fun h0 j=>by
   rintro (h | ⟨h,_⟩)
   ·have:=hlt _ _ h; have:=hb h0; omega
   ·have:=hb h0; omega
  have hys:((Hf.drop (Dl+l)).take q).length=q:=by rw [List.length_take,List.length_drop]; omega
  refine appendB_W (b2:=m.size) (o2:=0) hO3 hys (fun _=>rfl) ?_ (by omega) ?_
  ·intro i v hv
   have hi:=(List.getElem?_eq_some_iff.1 hv).1
   rw [hys] at hi
   have:=hgot i hi
   rw [this]
   rw [List.getElem?_take_of_lt hi,List.getElem?_drop] at hv
   show some (Value.int .u8 _)=some (u8V v)
   rw [List.getD_eq_getElem?_getD,hv]; rfl
  ·intro m4 a' k' b' o' hO4 hb4 hf4 h04
   rw [take_got] at hO4
   have hbig:0 < k'→m.size < b':=by
    intro h0
    rcases hb4 with ⟨rfl,rfl,rfl⟩ | ⟨rfl,rfl⟩
    ·exact hb h0
    ·obtain ⟨v,hv⟩:=(hB2.wr 0 (by decide)).1
     have h1:=cell_block hv
     have h2:=hf3.size
     simp only at h1; omega
   have hS:Beside D f bh bb cb m3 (fun x _=>x=b∧0 < k):=by
    refine ⟨?_,?_,?_⟩
    ·rintro i j v ⟨rfl,h0⟩ hv; exact .inl (hO3.u8 h0 j v hv)
    ·rintro i j ⟨rfl,h0⟩ h; have:=hlt _ _ h; have:=hb h0; omega
    ·rintro i j ⟨rfl,h0⟩; have:=hb h0; omega
   refine hK m4 a' k' b' o' hO4 hbig (by omega) (by rw [← Nat.add_assoc]; exact hL3.beside hf4 hS) (fun hd=>by rw [← Nat.add_assoc]; exact hd.beside hf4 hS) ?_ ?_
   ·refine ⟨hB2.at_,hB2.cap,(hB2.wr.fr hf3).fr hf4,fun i hi=>?_,hB2.apart,hB2.lo,hB2.big⟩
    have h3:∃ x,cell? m3 ⟨m.size,0+i,none⟩=some (.int .u8 x):=by
     by_cases hiq:i < q
     ·exact ⟨_,hgot i hiq⟩
     ·obtain ⟨x,hx⟩:=hB2.u8 i hi
      refine ⟨x,hf3.cell hx ?_⟩
      rintro (h | ⟨_,_,h⟩)
      ·exact hB2.apart _ h
      ·simp only at h; omega
    obtain ⟨x,hx⟩:=h3
    exact ⟨x,hf4.cell hx (by rintro ⟨h,h0⟩; have:=hb h0; simp only at h; omega)⟩
   ·refine hF.trans ((hf3.mono ?_).trans (hf4.mono ?_))
    ·rintro i j (h | ⟨rfl,_⟩)
     ·exact .inl h
     ·exact .inr (Nat.le_refl _)
    ·rintro i j ⟨rfl,h0⟩; have:=hb h0; exact .inr (by omega)
 have old:∀ {m':Mem},Fr (fun i j=>Mw D f bh bb cb i j∨m.size≤i) m m'→Fr (Mw D f bh bb cb) m m':=fun h=>Fr.old h (by
  rintro i j hi (h' | h')
  ·exact h'
  ·omega)
 by_cases hl:(l:Int)≤lim
 ·have hd:decide ((l:Int)≤lim)=true:=decide_eq_true hl
  rw [hd]
  refine ifB_t (callM_Read _ _ _ (read_spec hL2 hDf hlof hB2 ?_ ?_))
  ·-- the reading goes on
   intro m3 q hq hq0 _ hlen hL3 hgot hf3
   have hq1:=hq0 (by decide)
   refine ⟨_,_,rfl,Nat.le_refl _,⟨by omega,by omega⟩,step m3 q hq hlen hl hL3 hgot hf3 _ fun m4 a' k' b' o' hO4 hb4 hlen4 hL4 _ hB4 hF4=>?_⟩
   refine ⟨_,_,_,rfl,rfl,ifB_f ?_⟩
   exact ⟨(l+q,a',k',b',o'),rfl,⟨hO4,hb4,hlen4,hL4,hB4,hF4⟩,by simp only; omega⟩
  ·-- the end
   intro m3 q v he hq hlen hL3 hgot hf3
   refine ⟨_,_,rfl,Nat.le_refl _,⟨by omega,by omega⟩,step m3 q hq (by omega) hl (.inr hL3) hgot hf3 _ fun m4 a' k' b' o' hO4 hb4 hlen4 hL4 hD4 hB4 hF4=>?_⟩
   refine ⟨_,_,_,rfl,he.ifc.1,?_⟩
   rw [he.ifc.2]
   refine ifB_t (code_spec hL4.glob he fun m5 hf5=>⟨_,rfl,?_⟩)
   have h5:Fr (fun _ _=>False) m4 m5:=hf5 _
   exact hk m5 a' (l+q) k' b' o' _ (hO4.fr h5 fun _ _=>id) (fun h=>by have:=hb4 h; omega) hlen4 (hL4.fresh hf5) (old (hF4.trans (hf5 _))) (.inl ⟨by omega,rfl,(hD4 hL3).fresh hf5⟩)
 ·have hd:decide ((l:Int)≤lim)=false:=decide_eq_false hl
  rw [hd]
  refine ifB_f ?_
  refine WPS.piece [6] rfl (p_impl_all_rrrr _ _ _ _ _ ?_)
  exact hk m2 a l k b o 0 hO (fun h=>by have:=hb h; omega) hle hL2 (old hF) (.inr ⟨by omega,rfl⟩)
end
end Go.M

namespace Go.M
open Go
set_option maxRecDepth 100000
theorem buildB_W {m:Mem} {K:Value→Mem→Prop} (h:K (.slice (some ⟨m.size,0,none⟩) 0 0) (m.push (.cells #[] t_uint8))):
  SemW PP (sv (Instr.buildSlice t_s_uint8 0 #[])) m (NextW PP K):=Eq.mpr (by kernel_rfl) h
theorem copied_W {m:Mem} {a2:Option Addr} {l k b o:Nat} {d:List Nat} (hS:SlcB m a2 l k b o d) (hbig:l≤70368744177664) {K:Option Addr→Nat→Nat→Mem→Prop}
  (hk:∀ m' a' k' b' o',OutB m' a' l k' b' o' d→m.size≤b'→b' < m'.size→(0 < l→o'=0)→(∀ S,Fr S m m')→K a' l k' m'):
  SemW PP (sv (Instr.buildSlice t_s_uint8 0 #[])) m (NextW PP fun v14 m15=>∃ (a11:Option Addr),∃ (l12:Nat),∃ (k13:Nat),v14=.slice a11 l12 k13∧SemW PP (builtin .append #[t_s_uint8,t_s_uint8] t_s_uint8 #[false,false] #[.slice a11 l12 k13,.slice a2 l k]) m15 (NextW PP fun v19 m20=>∃ (a16:Option Addr),∃ (l17:Nat),∃ (k18:Nat),v19=.slice a16 l17 k18∧K a16 l17 k18 m20)):=by
 refine buildB_W ⟨_,_,_,rfl,?_⟩
 have f1:∀ S,Fr S m (m.push (.cells #[] t_uint8)):=fun S=>Fr.push _
 have s1:(m.push (.cells #[] t_uint8)).size=m.size+1:=Array.size_push ..
 generalize m.push (.cells #[] t_uint8)=m1 at f1 s1 ⊢
 have hO:OutB m1 (some ⟨m.size,0,none⟩) 0 0 m.size 0 []:=⟨⟨rfl,Nat.le_refl _,by omega,fun i v h=>by simp at h,fun i h=>by omega⟩,by omega⟩
 refine appendB_W (b2:=b) (o2:=o) hO hS.len (fun h=>hS.at_ ?_) ?_ (by omega) ?_
 ·rw [← hS.len]; exact List.length_pos_iff.2 h
 ·intro i v hv
  have hi:=(List.getElem?_eq_some_iff.1 hv).1
  rw [hS.len] at hi
  rw [(f1 fun _ _=>False).cell (hS.data i hi) id,List.getD_eq_getElem?_getD,hv]; rfl
 ·intro m2 a' k' b' o' hO2 hb hf2 h0
  rw [Nat.zero_add] at hO2 ⊢
  rw [List.nil_append] at hO2
  refine ⟨_,_,_,rfl,?_⟩
  have hle:=hO2.own.le
  have hf:∀ S,Fr S m m2:=fun S=>(f1 S).trans (hf2.mono (by rintro i j ⟨_,h⟩; omega))
  have h2:=hf2.size
  rcases hb with ⟨rfl,rfl,rfl⟩ | ⟨rfl,rfl⟩
  ·exact hk m2 a' 0 _ _ hO2 (Nat.le_refl _) (by omega) (fun _=>rfl) hf
  ·rcases Nat.eq_zero_or_pos k' with e | hpos
   ·subst e
    refine hk m2 a' 0 m.size 0 ⟨⟨hO2.own.len,hO2.own.le,by omega,fun i v hv=>?_,fun i h=>by omega⟩,by omega⟩ (Nat.le_refl _) (by omega) (fun _=>rfl) hf
    have:=(List.getElem?_eq_some_iff.1 hv).1
    have:=hO2.own.len; omega
   ·obtain ⟨⟨v,hv⟩,_⟩:=hO2.own.wr 0 (by omega)
    have:=cell_block hv
    exact hk m2 a' k' _ _ hO2 (by omega) (by simpa using this) (fun _=>rfl) hf
theorem OutB.slc {m:Mem} {a:Option Addr} {l k b o:Nat} {d:List Nat} (h:OutB m a l k b o d) (hb:∀ v ∈ d,v < 256):SlcB m a l k b o d:=by
 refine ⟨h.len,h.own.le,fun h0=>h.own.at_ (by have:=h.own.le; omega),fun i hi=>?_,hb⟩
 have hi':i < d.length:=by rw [h.len]; exact hi
 refine h.own.row i _ ?_
 rw [List.getElem?_map,List.getElem?_eq_getElem hi',List.getD_eq_getElem?_getD,List.getElem?_eq_getElem hi']; rfl
theorem box_reader {a b c:Value} {m:Mem} {K:Nat→Mem→Prop} (h:K m.size (m.push (.cells #[a,b,c] t_bytes_Reader))):BoxW t_bytes_Reader (.agg #[a,b,c]) m K:=h
section
variable {E:Errs} {src:List Nat}
theorem Glob.big {m:Mem} (h:Glob E m):4 < m.size:=by have:=cell_block h.short; simpa using this
theorem source_spec {m:Mem} {a:Option Addr} {l k b o:Nat} (hS:SlcB m a l k b o src) (hG:Glob E m) (hbig:l≤70368744177664) {R:Value→Mem→Prop}
  (hk:∀ m' rb db,BytesAt src rb db 0 m'→m.size≤rb→m.size≤db→db < m'.size→(∀ S,Fr S m m')→R (.pointer (some ⟨rb,0,none⟩)) m'):
  CallM PP f_impl_source #[.slice a l k] m R:=by
 refine e_impl_source a l k m R ?_
 refine copied_W hS hbig fun m1 a' k' db o' hO h1 h2 ho f1=>?_
 refine e_bytes_NewReader a' l k' m1 _ (box_reader ⟨_,rfl,?_⟩)
 have c2:∀ i v,#[.slice a' l k',.int .i64 0,.int .i64 (-1)][i]?=some v→cell? (m1.push (.cells #[.slice a' l k',.int .i64 0,.int .i64 (-1)] t_bytes_Reader)) ⟨m1.size,i,none⟩=some v:=fun i v h=>cell_new h
 have w2:∀ i,i < 3→Wr (m1.push (.cells #[.slice a' l k',.int .i64 0,.int .i64 (-1)] t_bytes_Reader)) ⟨m1.size,i,none⟩:=fun i h=>wr_new (by simpa using h)
 have f2:∀ S,Fr S m1 (m1.push (.cells #[.slice a' l k',.int .i64 0,.int .i64 (-1)] t_bytes_Reader)):=fun S=>Fr.push _
 have s2:(m1.push (.cells #[.slice a' l k',.int .i64 0,.int .i64 (-1)] t_bytes_Reader)).size=m1.size+1:=Array.size_push ..
 generalize m1.push (.cells #[.slice a' l k',.int .i64 0,.int .i64 (-1)] t_bytes_Reader)=m2 at c2 w2 f2 s2 ⊢
 have h4:=hG.big
 have hlen:=hS.len
 have hsz:=(f1 fun _ _=>False).size
 refine hk m2 m1.size db ⟨⟨a',k',by rw [hlen]; exact c2 0 _ rfl,by rw [hlen]; exact hO.own.le,fun h=>?_⟩,c2 1 _ rfl,w2 1 (by decide),w2 2 (by decide),fun i v hv=>?_,Nat.zero_le _,by omega,by omega,by omega,by omega⟩ hsz h1 (by omega) fun S=>(f1 S).trans (f2 S)
 ·have h0:0 < l:=by rw [← hlen]; exact List.length_pos_iff.2 h
  have:=hO.own.at_ (by have:=hO.own.le; omega)
  rw [this,ho h0]
 ·have hi:=(List.getElem?_eq_some_iff.1 hv).1
  have:=hO.own.row i (u8V v) (by rw [List.getElem?_map,hv]; rfl)
  rw [ho (by omega),Nat.zero_add] at this
  exact (f2 fun _ _=>False).cell this id
def GiveOk (Hf:List Nat) (e:Er) (n0:Nat) (lim:Int) (m:Mem) (R:Value→Mem→Prop):Prop:=
 ∀ m' a l k b o c,OutB m' a l k b o ((Hf.drop n0).take l)→(0 < k→m.size≤b)→n0+l≤Hf.length→(∀ S,Fr S m m')→
  ((n0+l=Hf.length∧c=codeOf e)∨(lim < l∧c=0))→R (.tuple #[.slice a l k,.int .i64 c]) m'
end
end Go.M
