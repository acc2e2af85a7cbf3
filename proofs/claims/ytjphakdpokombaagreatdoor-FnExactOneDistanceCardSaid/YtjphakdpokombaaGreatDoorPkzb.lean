/- Written streams: bits laid behind bits; blocks, one behind the other. No program in sight. The writer of streams: single bits. The writer of streams: numbers, codes, stored blocks. The writer of streams: items and their codes. The writer of streams: items, blocks with the fixed codes; what items give. The writer of streams: a new writer, blocks with the fixed codes, stored streams; what items give. The writer of streams: what a new writer gives; slices of a slice, copies. -/
import Derived.Test.YtjphakdpokombaaGreatDoorPkl
import Derived.Test.YtjphakdpokombaaGreatDoorPks
import Derived.Test.YtjphakdpokombaaGreatDoorPkq
namespace Go.M
set_option maxRecDepth 100000
theorem num_set:∀ (L:List Nat) (i d:Nat),i < L.length→num (L.set i (L.getD i 0+d))=num L+d * 2 ^ (8 * i)
 | [],i,d,h=>by simp at h
 | x::L,0,d,h=>by simp [num]; omega
 | x::L,i+1,d,h=>by
  have ih:=num_set L i d (by simpa using h)
  simp only [List.set_cons_succ,List.getD_cons_succ,num]
  rw [ih,Nat.mul_add,show 8 * (i+1)=8+8 * i from by omega,Nat.pow_add, ← Nat.mul_assoc, ← Nat.mul_assoc,show (2:Nat) ^ 8=256 from rfl,Nat.mul_comm d 256]
  omega
theorem num_snoc (L:List Nat):num (L++[0])=num L:=by
 rw [num_append]; simp [num]
theorem byte_low {L:List Nat} (hb:∀ v ∈ L,v < 256) {n:Nat} (hn:num L < 2 ^ n) (hi:n / 8 < L.length):L.getD (n / 8) 0 < 2 ^ (n % 8):=by
 have hg:L[n / 8]?=some (L.getD (n / 8) 0):=by rw [List.getD_eq_getElem?_getD,List.getElem?_eq_getElem hi]; rfl
 have h1:tk (num L) (8 * (n / 8)) 8=L.getD (n / 8) 0:=num_byte hb hg
 rw [← h1]
 unfold tk
 refine Nat.lt_of_le_of_lt (Nat.mod_le _ _) ?_
 rw [Nat.div_lt_iff_lt_mul (Nat.two_pow_pos _), ← Nat.pow_add]
 rw [show n % 8+8 * (n / 8)=n by omega]
 exact hn
theorem BlkIs.append {n:Nat} {H H1 H2:List Nat} {a b:List (Nat×Nat)} {fin:Bool} (h1:BlkIs n H a H1 false) (h2:BlkIs (n+chLen a) H1 b H2 fin):BlkIs n H (a++b) H2 fin:=by
 refine ⟨h1.1.append h2.1,fun c s0 hfx hhd hA hle hR=>?_⟩
 rw [chLen_append] at hle
 obtain ⟨hA1,hA2⟩:=At.append.1 hA
 have hR1:=(h1.2 c s0 hfx hhd hA1 (by omega) hR).2 rfl
 have:=h2.2 c s0 hfx hhd hA2 (by omega) hR1
 rw [chLen_append, ← Nat.add_assoc]
 exact this
theorem BlkIs.nil (n:Nat) (H:List Nat):BlkIs n H [] H false:=
 ⟨fun _ h=>by simp at h,fun _ _ _ _ _ _ hR=>⟨fun h=>(by cases h),fun _=>by simpa [chLen] using hR⟩⟩
theorem BlkIs.run {src tail H H':List Nat} {l:List (Nat×Nat)} (h:BlkIs 0 H l H' true) (hb:∀ v ∈ src,v < 256) (hl:num src=chVal l) (hlen:src.length=(chLen l+7) / 8):
  Runs (scOf (src++tail)) ⟨0,H,.block⟩ H' .fin (chLen l):=by
 have hA:At (scOf (src++tail)).N 0 l:=by
  refine at_stream h.1 ?_
  show num (src++tail) % _=_
  rw [num_tail hb (by omega),hl,Nat.mod_eq_of_lt (chVal_lt h.1)]
 have:=(h.2 (scOf (src++tail)) ⟨0,H,.block⟩ rfl rfl hA (by show _≤8 * (src++tail).length; rw [List.length_append]; omega) (Reach.refl _ _)).1 rfl
 rw [Nat.zero_add] at this
 exact this
theorem BlkIs.reach {src tail H H':List Nat} {l:List (Nat×Nat)} (h:BlkIs 0 H l H' false) (hb:∀ v ∈ src,v < 256) (hl:num src=chVal l) (hlen:src.length=(chLen l+7) / 8):
  Reach (scOf (src++tail)) ⟨0,H,.block⟩ ⟨chLen l,H',.block⟩:=by
 have hA:At (scOf (src++tail)).N 0 l:=by
  refine at_stream h.1 ?_
  show num (src++tail) % _=_
  rw [num_tail hb (by omega),hl,Nat.mod_eq_of_lt (chVal_lt h.1)]
 have:=(h.2 (scOf (src++tail)) ⟨0,H,.block⟩ rfl rfl hA (by show _≤8 * (src++tail).length; rw [List.length_append]; omega) (Reach.refl _ _)).2 rfl
 rw [Nat.zero_add] at this
 exact this
theorem len_code {n:Nat} (h3:3≤n) (h:n≤258):∃ k v,257≤k∧k < 286∧v < 2 ^ (lenS k).2∧(lenS k).1+v=n:=by
 have key:∀ j:Fin 256,∃ k:Fin 29,(lenS (257+k.val)).1≤3+j.val∧3+j.val < (lenS (257+k.val)).1+2 ^ (lenS (257+k.val)).2:=by decide+kernel
 obtain ⟨k,h1,h2⟩:=key ⟨n - 3,by omega⟩
 simp only at h1 h2
 exact ⟨257+k.val,n - (lenS (257+k.val)).1,by omega,by omega,by omega,by omega⟩
end Go.M

namespace Go.M
open Go
set_option maxRecDepth 100000
def WS (w b:Nat):Nat→Nat→Prop:=fun i _=>i=w∨i=b
structure WrM (m:Mem) (w b X n:Nat):Prop where
 out:∃ a l k o ob,cell? m ⟨w,0,none⟩=some (.slice a l k)∧OutB m a l k b o ob∧(0 < k→b≠w)∧ob.length=(n+7) / 8∧num ob=X∧∀ v ∈ ob,v < 256
 cn:cell? m ⟨w,1,none⟩=some (.int .i64 (n:Int))
 w0:Wr m ⟨w,0,none⟩
 w1:Wr m ⟨w,1,none⟩
 lt:X < 2 ^ n
 lob:b < m.size
theorem WrM.fr {m m':Mem} {w b X n:Nat} {S:Nat→Nat→Prop} (h:WrM m w b X n) (hf:Fr S m m') (h1:∀ j, ¬ S w j) (h2:∀ j, ¬ S b j):WrM m' w b X n:=by
 obtain ⟨a,l,k,o,ob,c,hO,hr⟩:=h.out
 exact ⟨⟨a,l,k,o,ob,hf.cell c (h1 _),hO.fr hf fun _ j=>h2 j,hr⟩,hf.cell h.cn (h1 _),h.w0.fr hf,h.w1.fr hf,h.lt,Nat.lt_of_lt_of_le h.lob hf.size⟩
theorem WrM.fresh {m m':Mem} {w b X n:Nat} (h:WrM m w b X n) (hf:∀ S,Fr S m m'):WrM m' w b X n:=h.fr (hf fun _ _=>False) (fun _=>id) fun _=>id
theorem WrM.lo {m:Mem} {w b X n:Nat} (h:WrM m w b X n):w < m.size:=by have:=cell_block h.cn; simpa using this
structure WOp (m:Mem) (w b:Nat) (m':Mem) (b' X n:Nat):Prop where
 wr:WrM m' w b' X n
 mv:b'=b∨m.size≤b'
 fr:Fr (WS w b) m m'
theorem WOp.refl {m:Mem} {w b X n:Nat} (h:WrM m w b X n):WOp m w b m b X n:=⟨h,.inl rfl,Fr.refl _ _⟩
theorem WOp.trans {m m1 m2:Mem} {w b b1 b2 X n X1 n1:Nat} (h:WOp m w b m1 b1 X1 n1) (h':WOp m1 w b1 m2 b2 X n):WOp m w b m2 b2 X n:=by
 have hs:=h.fr.size
 refine ⟨h'.wr,?_,?_⟩
 ·rcases h'.mv with rfl | h1
  ·exact h.mv
  ·exact .inr (by omega)
 ·have F:Fr (fun i j=>WS w b i j∨WS w b1 i j) m m2:=(h.fr.mono fun i j h=>.inl h).trans (h'.fr.mono fun i j h=>.inr h)
  refine Fr.old F ?_
  rintro i j hi (h1 | h1 | h1)
  ·exact h1
  ·exact .inl h1
  ·rcases h.mv with h2 | h2
   ·exact .inr (by omega)
   ·omega
theorem WOp.fresh {m m1 m2:Mem} {w b b1 X n:Nat} (h:WOp m w b m1 b1 X n) (hf:∀ S,Fr S m1 m2):WOp m w b m2 b1 X n:=⟨h.wr.fresh hf,h.mv,h.fr.trans (hf _)⟩
theorem WOp.old {m0 m m1:Mem} {w b b1 X n:Nat} (hf:∀ S,Fr S m0 m) (h:WOp m w b m1 b1 X n):WOp m0 w b m1 b1 X n:=by
 have hs:=(hf fun _ _=>False).size
 exact ⟨h.wr,h.mv.imp id (fun h=>by omega),(hf _).trans h.fr⟩
theorem OutB.set {m m':Mem} {a:Option Addr} {l k b o:Nat} {d:List Nat} (h:OutB m a l k b o d) {i v:Nat} (hi:i < l) (hc:cell? m' ⟨b,o+i,none⟩=some (.int .u8 (v:Int))) (hf:Fr (fun x y=>x=b∧y=o+i) m m'):OutB m' a l k b o (d.set i v):=by
 have hlen:=h.own.len
 have hle:=h.own.le
 simp only [List.length_map] at hlen
 refine ⟨⟨by simpa using hlen,h.own.le,h.own.at_,fun j x hj=>?_,h.own.wr.fr hf⟩,fun h0 j x hx=>?_⟩
 ·rw [List.getElem?_map,List.getElem?_set] at hj
  by_cases hij:i=j
  ·subst hij
   rw [if_pos rfl,if_pos (by omega)] at hj
   simp only [Option.map_some,Option.some.injEq] at hj
   subst hj
   exact hc
  ·rw [if_neg hij] at hj
   exact hf.cell (h.own.row j x (by rw [List.getElem?_map]; exact hj)) (by rintro ⟨_,e⟩; simp only at e; omega)
 ·by_cases hj:j=o+i
  ·subst hj
   rw [hc] at hx
   simp only [Option.some.injEq] at hx
   exact ⟨_,hx.symm⟩
  ·obtain ⟨⟨y,hy⟩,_⟩:=h.own.wr 0 (by omega)
   obtain ⟨z,hz⟩:=hf.back hy hx
   have:=hf.cell hz (by rintro ⟨_,e⟩; exact hj e)
   rw [hx] at this
   simp only [Option.some.injEq] at this
   subst this
   exact h.u8 h0 j _ hz
theorem and1 (x:Int):∃ v:Nat,v < 2∧bitsOp .and .i64 x 1=(v:Int)∧∀ y:Nat,x=y→y < 2 ^ 63→v=y % 2:=by
 refine ⟨(BitVec.ofInt 64 x &&& BitVec.ofInt 64 1).toNat,?_,?_,fun y hy hlt=>?_⟩
 ·rw [BitVec.toNat_and]
  have:(BitVec.ofInt 64 1).toNat=1:=by decide
  rw [this]
  exact Nat.lt_succ_of_le Nat.and_le_right
 ·show IntKind.wrap .i64 ((BitVec.ofInt 64 x &&& BitVec.ofInt 64 1).toNat:Int)=_
  have h1:(BitVec.ofInt 64 x &&& BitVec.ofInt 64 1).toNat≤1:=by
   rw [BitVec.toNat_and]
   have:(BitVec.ofInt 64 1).toNat=1:=by decide
   rw [this]
   exact Nat.and_le_right
  exact wrap64_id (by omega) (by omega)
 ·subst hy
  rw [BitVec.toNat_and,ofInt_toNat (by omega:y < 2 ^ 64)]
  have:(BitVec.ofInt 64 1).toNat=2 ^ 1 - 1:=by decide
  rw [this,Nat.and_two_pow_sub_one_eq_mod]
theorem bit_lay {m:Mem} {w b X n:Nat} {a:Option Addr} {l k o:Nat} {ob:List Nat} (c0:cell? m ⟨w,0,none⟩=some (.slice a l k)) (hO:OutB m a l k b o ob) (hbw:b≠w) (hl:ob.length=n / 8+1) (hX:num ob=X) (hb:∀ v ∈ ob,v < 256)
  (cn:cell? m ⟨w,1,none⟩=some (.int .i64 (n:Int))) (w0:Wr m ⟨w,0,none⟩) (w1:Wr m ⟨w,1,none⟩) (hlt:X < 2 ^ n) (hn:n < 1099511627776) (x:Int) {R:Value→Mem→Prop} {r':Env} (hr':Env.keep [0,1] r'=[(0,.pointer (some ⟨w,0,none⟩)),(1,.int .i64 x)])
  (hk:∀ m' v,v < 2→(∀ y:Nat,x=y→y < 2 ^ 63→v=y % 2)→WrM m' w b (X+2 ^ n * v) (n+1)→Fr (WS w b) m m'→R (.tuple #[]) m'):
  WPS PP 48 c_Writer_bit_r (retK PP r_Writer_bit R) r' m:=by
 have hlen:=hO.len
 have hat:=hO.own.at_ (by have:=hO.own.le; omega)
 subst hat
 obtain ⟨v,hv,hand,hval⟩:=and1 x
 have hd:IntKind.wrap .i64 (Int.tdiv (n:Int) 8)=((n / 8:Nat):Int):=by
  rw [show Int.tdiv (n:Int) 8=((n / 8:Nat):Int) from rfl]; exact wrap64_id (by omega) (by omega)
 have hm:Int.tmod (n:Int) 8=((n % 8:Nat):Int):=rfl
 refine WPS.piece [0,1] hr' (p_Writer_bit_r w x m _ ⟨_,_,_,c0,_,cn,rfl,by decide,?_⟩)
 rw [hd,hand,Int.toNat_natCast]
 have hi:n / 8 < ob.length:=by omega
 have hget:ob[n / 8]?=some (ob.getD (n / 8) 0):=by rw [List.getD_eq_getElem?_getD,List.getElem?_eq_getElem hi]; rfl
 have hlow:=byte_low hb (hX ▸ hlt) hi
 have hby:ob.getD (n / 8) 0 < 256:=hb _ (List.mem_of_getElem? hget)
 have hcell:cell? m ⟨b,o+n / 8,none⟩=some (.int .u8 ((ob.getD (n / 8) 0:Nat):Int)):=hO.own.row (n / 8) _ (by rw [List.getElem?_map,hget]; rfl)
 have hs8:n % 8 < 8:=Nat.mod_lt _ (by decide)
 have hp8:(2:Nat) ^ (n % 8)≤2 ^ 7:=Nat.pow_le_pow_right (by decide) (by omega)
 have hor:bitsOp .or .u8 ((ob.getD (n / 8) 0:Nat):Int) (shlOp .u8 (IntKind.wrap .u8 (v:Int)) ((n % 8:Nat):Int))=((ob.getD (n / 8) 0+2 ^ (n % 8) * v:Nat):Int):=by
  have h1:v * 2 ^ (n % 8)≤1 * 2 ^ (n % 8):=Nat.mul_le_mul_right _ (by omega)
  rw [wrap_u8_id (by omega) (by omega),shl_nat (k:=.u8) (by show n % 8≤8; omega),wrap_u8_id (by omega) (by omega),or_nat rfl (by show _ < 2 ^ 8; omega) (by show _ < 2 ^ 8; omega),or_add v hlow]
 refine ⟨⟨by omega,by omega⟩,_,hcell,rfl,_,cn,rfl,by decide,?_⟩
 rw [hm,hor]
 refine ⟨by omega,rfl,⟨by omega,by omega⟩,?_⟩
 have wb:Wr m ⟨b,o+n / 8,none⟩:=hO.own.wr (n / 8) (by have:=hO.own.le; omega)
 refine StW.at rfl wb fun m1 c1 f1 _=>?_
 have cn1:=f1.cell cn (by rintro ⟨e,_⟩; exact hbw e.symm)
 refine ⟨_,cn1,StW.at rfl (w1.fr f1) fun m2 c2 f2 _=>?_⟩
 have hw:IntKind.wrap .i64 ((n:Int)+1)=((n+1:Nat):Int):=by rw [wrap64_id (by omega) (by omega)]; rfl
 rw [hw] at c2
 have hO1:=hO.set (v:=ob.getD (n / 8) 0+2 ^ (n % 8) * v) (by omega:n / 8 < l) c1 f1
 have F:Fr (WS w b) m m2:=(f1.mono fun i j h=>.inr h.1).trans (f2.mono fun i j h=>.inl h.1)
 refine hk m2 v hv (fun y hy hlt=>hval y hy hlt) ⟨⟨_,_,_,_,_,f2.cell (f1.cell c0 (by rintro ⟨e,_⟩; exact hbw e.symm)) (by simp),hO1.fr f2 (fun _ j ⟨e,_⟩=>hbw e),fun _=>hbw,?_,?_,?_⟩,c2,(w0.fr f1).fr f2,(w1.fr f1).fr f2,?_,?_⟩ F
 ·rw [List.length_set,hl]; omega
 ·rw [num_set _ _ _ hi,hX,Nat.mul_comm (2 ^ (n % 8)) v,Nat.mul_assoc, ← Nat.pow_add,show n % 8+8 * (n / 8)=n by omega,Nat.mul_comm v]
 ·intro y hy
  rcases List.mem_or_eq_of_mem_set hy with hy | rfl
  ·exact hb y hy
  ·have h1:2 ^ (n % 8) * v≤2 ^ (n % 8) * 1:=Nat.mul_le_mul_left _ (by omega)
   omega
 ·rw [Nat.pow_succ]
  have h1:2 ^ n * v≤2 ^ n * 1:=Nat.mul_le_mul_left _ (by omega)
  omega
 ·have:=cell_block hcell
  have:=F.size
  simp only at *; omega
theorem wbit_spec {m:Mem} {w b X n:Nat} (h:WrM m w b X n) (hn:n < 1099511627776) (x:Int) {R:Value→Mem→Prop}
  (hk:∀ m' b' v,v < 2→(∀ y:Nat,x=y→y < 2 ^ 63→v=y % 2)→WOp m w b m' b' (X+2 ^ n * v) (n+1)→R (.tuple #[]) m'):CallM PP f_Writer_bit #[.pointer (some ⟨w,0,none⟩),.int .i64 x] m R:=by
 obtain ⟨a,l,k,o,ob,c0,hO,hbw,hl,hX,hb⟩:=h.out
 have hlen:=hO.len
 have hm:Int.tmod (n:Int) 8=((n % 8:Nat):Int):=rfl
 refine e_Writer_bit w x m R ⟨_,h.cn,rfl,by decide,?_⟩
 rw [hm]
 by_cases h8:n % 8=0
 ·rw [h8]
  refine ifB_t ⟨_,_,_,c0,build1_W ⟨_,_,_,rfl,?_⟩⟩
  have f1:∀ S,Fr S m (m.push (.cells #[.int .u8 0] t_uint8)):=fun S=>Fr.push _
  have c1:cell? (m.push (.cells #[.int .u8 0] t_uint8)) ⟨m.size,0,none⟩=some (.int .u8 0):=cell_new (c:=#[.int .u8 0]) (i:=0) rfl
  have s1:(m.push (.cells #[.int .u8 0] t_uint8)).size=m.size+1:=Array.size_push ..
  generalize m.push (.cells #[.int .u8 0] t_uint8)=m1 at f1 c1 s1 ⊢
  refine appendB_W (b2:=m.size) (o2:=0) (ys:=[0]) (hO.fr (f1 fun _ _=>False) fun _ _=>id) rfl (fun _=>rfl) (fun i v hv=>?_) (by omega) fun m2 a' k' b' o' hO2 hb2 hf2 h02=>⟨_,_,_,rfl,?_⟩
  ·cases i with
   | zero=>simp only [List.getElem?_cons_zero,Option.some.injEq] at hv; subst hv; exact c1
   | succ i=>simp at hv
  have hk':=h02 (by decide)
  have hlo:=h.lo
  have hne:b'≠w:=by
   rcases hb2 with ⟨rfl,_,rfl⟩ | ⟨rfl,_⟩
   ·exact hbw hk'
   ·omega
  have ns:∀ j, ¬ ((fun x _=>x=b∧0 < k):Nat→Nat→Prop) w j:=by rintro j ⟨e,h0⟩; exact hbw h0 e.symm
  refine StW.at rfl ((h.w0.fr (f1 fun _ _=>False)).fr hf2) fun m3 c3 f3 _=>?_
  have F3:Fr (WS w b) m m3:=(f1 _).trans ((hf2.mono fun i j h=>.inr h.1).trans (f3.mono fun i j h=>.inl h.1))
  have mv:b'=b∨m.size≤b':=by
   rcases hb2 with ⟨rfl,_⟩ | ⟨rfl,_⟩
   ·exact .inl rfl
   ·exact .inr (by omega)
  refine bit_lay c3 (hO2.fr f3 fun _ j ⟨e,_⟩=>hne e) hne (by simp; omega) (by rw [num_snoc]; exact hX) (fun v hv=>?_) (f3.cell (hf2.cell ((f1 fun _ _=>False).cell h.cn id) (ns 0)) (by simp)) (((h.w0.fr (f1 fun _ _=>False)).fr hf2).fr f3) (((h.w1.fr (f1 fun _ _=>False)).fr hf2).fr f3) h.lt hn x rfl fun m4 v hv hval hW F4=>hk m4 b' v hv hval ⟨hW,mv,?_⟩
  ·rcases List.mem_append.1 hv with hv | hv
   ·exact hb v hv
   ·rw [List.mem_singleton.1 hv]; decide
  ·refine Fr.old ((F3.mono fun i j h=>Or.inl h).trans (F4.mono (S':=fun i j=>WS w b i j∨WS w b' i j) fun i j h=>Or.inr h)) ?_
   rintro i j hi (h1 | h1 | h1)
   ·exact h1
   ·exact .inl h1
   ·rcases mv with h2 | h2
    ·exact .inr (by omega)
    ·omega
 ·have e0:(((n % 8:Nat):Int) == 0)=false:=by rw [beq_eq_false_iff_ne]; omega
  rw [e0]
  have hkpos:0 < k:=by have:=hO.own.le; omega
  exact ifB_f (bit_lay c0 hO (hbw hkpos) (by omega) hX hb h.cn h.w0 h.w1 h.lt hn x rfl fun m4 v hv hval hW F4=>hk m4 b v hv hval ⟨hW,.inl rfl,F4⟩)
end Go.M

namespace Go.M
open Go
set_option maxRecDepth 100000
def WrL (m:Mem) (w b:Nat) (ch:List (Nat×Nat)):Prop:=WrM m w b (chVal ch) (chLen ch)
def WOL (m:Mem) (w b:Nat) (m':Mem) (b':Nat) (ch:List (Nat×Nat)):Prop:=WOp m w b m' b' (chVal ch) (chLen ch)
theorem WOL.wrl {m m':Mem} {w b b':Nat} {ch:List (Nat×Nat)} (h:WOL m w b m' b' ch):WrL m' w b' ch:=h.wr
theorem WOL.refl {m:Mem} {w b:Nat} {ch:List (Nat×Nat)} (h:WrL m w b ch):WOL m w b m b ch:=WOp.refl h
theorem WOL.trans {m m1 m2:Mem} {w b b1 b2:Nat} {c1 c2:List (Nat×Nat)} (h:WOL m w b m1 b1 c1) (h':WOL m1 w b1 m2 b2 c2):WOL m w b m2 b2 c2:=WOp.trans h h'
theorem chVal_snoc (ch:List (Nat×Nat)) (v k:Nat):chVal (ch++[(v,k)])=chVal ch+2 ^ chLen ch * v:=by
 rw [chVal_append]; simp [chVal]
theorem chLen_snoc (ch:List (Nat×Nat)) (v k:Nat):chLen (ch++[(v,k)])=chLen ch+k:=by
 rw [chLen_append]; simp [chLen]
theorem mod_bit (v i:Nat):v % 2 ^ (i+1)=v % 2 ^ i+2 ^ i * (v / 2 ^ i % 2):=Nat.mod_pow_succ
theorem Bits_spec {m:Mem} {w b:Nat} {ch:List (Nat×Nat)} (h:WrL m w b ch) {v k:Nat} (hv:v < 2 ^ k) (hk16:k≤40) (hn:chLen ch+k < 1099511627776) {R:Value→Mem→Prop}
  (hk:∀ m' b',WOL m w b m' b' (ch++[(v,k)])→R (.tuple #[]) m'):CallM PP f_Writer_Bits #[.pointer (some ⟨w,0,none⟩),.int .i64 (v:Int),.int .i64 (k:Int)] m R:=by
 have hv40:v < 2 ^ 40:=Nat.lt_of_lt_of_le hv (Nat.pow_le_pow_right (by decide) hk16)
 refine e_Writer_Bits w v k m R ?_
 rw [q_Writer_Bits_rl]
 refine loopW ffOk mixedOk (L₀:=L_Writer_Bits) (σ:=Nat×Nat) [0,1,7,8] (fun s=>[(0,.pointer (some ⟨w,0,none⟩)),(1,.int .i64 (v:Int)),(7,.int .i64 (k:Int)),(8,.int .i64 (s.1:Nat))])
  (fun s m'=>s.1≤k∧WOp m w b m' s.2 (chVal ch+2 ^ chLen ch * (v % 2 ^ s.1)) (chLen ch+s.1)) (fun s=>k - s.1) (0,b) rfl ⟨Nat.zero_le _,by simpa [Nat.mod_one] using WOp.refl h⟩ ?_
 rintro ⟨i,b1⟩ m1 ⟨hi,hW⟩
 simp only at hi hW
 refine p_Writer_Bits_rll w v k i m1 _ ?_
 by_cases hik:i < k
 ·rw [decide_eq_true (by omega)]
  have hw:IntKind.wrap .i64 ((i:Int)+1)=((i+1:Nat):Int):=by rw [wrap64_id (by omega) (by omega)]; rfl
  rw [shr_nat (k:=.i64) (by show i≤64; omega),hw]
  refine ifB_t ⟨by omega,wbit_spec hW.wr (by omega) _ fun m2 b2 bit hb hval hW2=>⟨rfl,?_⟩⟩
  have hbit:bit=v / 2 ^ i % 2:=hval (v / 2 ^ i) rfl (by have:=Nat.div_le_self v (2 ^ i); omega)
  refine ⟨(i+1,b2),rfl,⟨by simp only; omega,?_⟩,by simp only; omega⟩
  simp only
  have:=hW.trans hW2
  rw [hbit,Nat.add_assoc,Nat.pow_add,Nat.mul_assoc, ← Nat.mul_add, ← mod_bit,Nat.add_assoc] at this
  exact this
 ·rw [decide_eq_false (by omega)]
  have hik':i=k:=by omega
  subst hik'
  refine ifB_f (hk m1 b1 ?_)
  unfold WOL
  rw [chVal_snoc,chLen_snoc]
  rw [Nat.mod_eq_of_lt hv] at hW
  exact hW
theorem code_spec' {m:Mem} {w b:Nat} {ch:List (Nat×Nat)} (h:WrL m w b ch) {c k:Nat} (hc:c < 2 ^ 40) (hk16:k≤40) (hn:chLen ch+k < 1099511627776) {R:Value→Mem→Prop}
  (hk:∀ m' b',WOL m w b m' b' (ch++[(rv k c,k)])→R (.tuple #[]) m'):CallM PP f_Writer_code #[.pointer (some ⟨w,0,none⟩),.int .i64 (c:Int),.int .i64 (k:Int)] m R:=by
 refine e_Writer_code w c k m R ?_
 rw [q_Writer_code_rl]
 have hw0:IntKind.wrap .i64 ((k:Int) - 1)=(k:Int) - 1 - ((0:Nat):Int):=by rw [wrap64_id (by omega) (by omega)]; simp
 rw [hw0]
 refine loopW ffOk mixedOk (L₀:=L_Writer_code) (σ:=Nat×Nat) [0,1,6] (fun s=>[(0,.pointer (some ⟨w,0,none⟩)),(1,.int .i64 (c:Int)),(6,.int .i64 ((k:Int) - 1 - (s.1:Int)))])
  (fun s m'=>s.1≤k∧WOp m w b m' s.2 (chVal ch+2 ^ chLen ch * rv s.1 (c / 2 ^ (k - s.1))) (chLen ch+s.1)) (fun s=>k - s.1) (0,b) rfl ⟨Nat.zero_le _,by simpa [rv] using WOp.refl h⟩ ?_
 rintro ⟨i,b1⟩ m1 ⟨hi,hW⟩
 simp only at hi hW
 refine p_Writer_code_rll w c _ m1 _ ?_
 by_cases hik:i < k
 ·rw [decide_eq_true (by omega)]
  have e1:(k:Int) - 1 - (i:Int)=((k - 1 - i:Nat):Int):=by omega
  have hw:IntKind.wrap .i64 (((k - 1 - i:Nat):Int) - 1)=(k:Int) - 1 - ((i+1:Nat):Int):=by rw [wrap64_id (by omega) (by omega)]; omega
  rw [e1,shr_nat (k:=.i64) (by show k - 1 - i≤64; omega),hw]
  refine ifB_t ⟨by omega,wbit_spec hW.wr (by omega) _ fun m2 b2 bit hb hval hW2=>⟨rfl,?_⟩⟩
  have hbit:bit=c / 2 ^ (k - 1 - i) % 2:=hval (c / 2 ^ (k - 1 - i)) rfl (by have:=Nat.div_le_self c (2 ^ (k - 1 - i)); omega)
  refine ⟨(i+1,b2),rfl,⟨by simp only; omega,?_⟩,by simp only; omega⟩
  simp only
  have:=hW.trans hW2
  have e2:rv (i+1) (c / 2 ^ (k - (i+1)))=rv i (c / 2 ^ (k - i))+2 ^ i * (c / 2 ^ (k - 1 - i) % 2):=by
   rw [rv,show k - (i+1)=k - 1 - i from by omega,Nat.div_div_eq_div_mul, ← Nat.pow_succ,show (k - 1 - i).succ=k - i from by omega,Nat.mul_comm,Nat.add_comm]
  rw [hbit,Nat.add_assoc,Nat.pow_add,Nat.mul_assoc, ← Nat.mul_add, ← e2,Nat.add_assoc] at this
  exact this
 ·rw [decide_eq_false (by omega)]
  have hik':i=k:=by omega
  subst hik'
  refine ifB_f (hk m1 b1 ?_)
  unfold WOL
  rw [chVal_snoc,chLen_snoc]
  rw [Nat.sub_self,Nat.pow_zero,Nat.div_one] at hW
  exact hW
theorem flag_spec (fin:Bool) {m:Mem} {R:Value→Mem→Prop} (hk:R (.int .i64 (fl fin:Nat)) m):CallM PP f_spec_flag #[.bool fin] m R:=by
 refine e_spec_flag fin m R ?_
 cases fin with
 | true=>exact ifB_t hk
 | false=>exact ifB_f hk
end Go.M

namespace Go.M
open Go
set_option maxRecDepth 100000
structure It where
 b:Nat
 len:Nat
 d:Nat
def giv (H:List Nat) (x:It):List Nat:=if x.len=0 then H++[x.b] else lz H x.d x.len
def givs (H:List Nat) (its:List It):List Nat:=its.foldl giv H
def VIt (n:Nat) (x:It):Prop:=x.b < 256∧(x.len=0∨3≤x.len∧x.len≤258∧1≤x.d∧x.d≤32768∧x.d≤n)
def VIts:Nat→List It→Prop
 | _,[]=>True
 | n,x::its=>VIt n x∧VIts (n+max 1 x.len) its
theorem giv_length (H:List Nat) (x:It):(giv H x).length=H.length+max 1 x.len:=by
 unfold giv
 split
 ·rename_i h; rw [h]; simp
 ·rw [lz_length]; omega
theorem givs_take {H:List Nat} {its:List It} {i:Nat} {x:It} (h:its[i]?=some x):givs H (its.take (i+1))=giv (givs H (its.take i)) x:=by
 have hi:=(List.getElem?_eq_some_iff.1 h).1
 have he:its[i]=x:=(List.getElem?_eq_some_iff.1 h).2
 rw [List.take_succ_eq_append_getElem hi,he]
 unfold givs
 rw [List.foldl_append]; rfl
theorem VIts.get:∀ {its:List It} {H:List Nat} {i:Nat} {x:It},VIts H.length its→its[i]?=some x→VIt (givs H (its.take i)).length x
 | [],_,i,x,_,h=>by simp at h
 | y::its,H,0,x,hv,h=>by
  simp only [List.getElem?_cons_zero,Option.some.injEq] at h
  subst h
  exact hv.1
 | y::its,H,i+1,x,hv,h=>by
  simp only [List.getElem?_cons_succ] at h
  have h2:=hv.2
  rw [← giv_length] at h2
  exact VIts.get (H:=giv H y) h2 h
def LenC (n k:Nat):Prop:=(n=258∧k=285)∨(n≠258∧257≤k∧k≤284∧(lenS k).1≤n∧∀ k',k < k'→k'≤284→n < (lenS k').1)
def DstC (n k:Nat):Prop:=k < 30∧(dstS k).1≤n∧∀ k',k < k'→k' < 30→n < (dstS k').1
theorem LenC.spec {n k:Nat} (h:LenC n k) (h2:n≤258):257≤k∧k < 286∧(lenS k).1≤n∧n - (lenS k).1 < 2 ^ (lenS k).2:=by
 rcases h with ⟨rfl,rfl⟩ | ⟨h1,h3,h4,h5,h6⟩
 ·exact ⟨by decide,by decide,by decide,by decide⟩
 ·refine ⟨h3,by omega,h5,?_⟩
  have key:∀ j:Fin 27,(lenS (257+j.val+1)).1=(lenS (257+j.val)).1+2 ^ (lenS (257+j.val)).2:=by decide+kernel
  by_cases hk:k=284
  ·subst hk
   have e:lenS 284=(227,5):=by decide
   rw [e]
   show n - 227 < 32
   omega
  ·have:=key ⟨k - 257,by omega⟩
   simp only at this
   rw [show 257+(k - 257)=k by omega] at this
   have:=h6 (k+1) (by omega) (by omega)
   omega
theorem DstC.spec {n k:Nat} (h:DstC n k) (h2:n≤32768):(dstS k).1≤n∧n - (dstS k).1 < 2 ^ (dstS k).2:=by
 obtain ⟨h1,h3,h4⟩:=h
 refine ⟨h3,?_⟩
 have key:∀ j:Fin 29,(dstS (j.val+1)).1=(dstS j.val).1+2 ^ (dstS j.val).2:=by decide+kernel
 by_cases hk:k=29
 ·subst hk
  have e:dstS 29=(24577,13):=by decide
  rw [e]
  show n - 24577 < 8192
  omega
 ·have:=key ⟨k,by omega⟩
  simp only at this
  have:=h4 (k+1) (by omega) (by omega)
  omega
def NeedL (L D:List Nat) (x:It):Prop:=(x.len=0→ln L x.b≠0)∧(x.len≠0→(∀ k,LenC x.len k→ln L k≠0)∧∀ k,DstC x.d k→ln D k≠0)
theorem ItsAre.snoc {L D H H1 H2:List Nat} {a c:List (Nat×Nat)} (h:ItsAre L D H a H1) (h':ItIs L D H1 c H2):ItsAre L D H (a++c) H2:=by
 induction h with
 | nil=>simpa using ItsAre.cons h' .nil
 | cons h1 _ ih=>rw [List.append_assoc]; exact .cons h1 (ih h')
def itV (x:It):List Value:=[.int .u8 (x.b:Int),.int .i64 (x.len:Int),.int .i64 (x.d:Int)]
structure SlcT (m:Mem) (a:Option Addr) (l k b o:Nat) (its:List It):Prop where
 len:its.length=l
 cap:l≤k
 at_:0 < l→a=some ⟨b,o,none⟩
 data:∀ (i:Nat) (x:It),its[i]?=some x→cell? m ⟨b,o+i * 3,none⟩=some (.int .u8 (x.b:Int))∧cell? m ⟨b,o+i * 3+1,none⟩=some (.int .i64 (x.len:Int))∧cell? m ⟨b,o+i * 3+2,none⟩=some (.int .i64 (x.d:Int))
theorem SlcT.fr {S:Nat→Nat→Prop} {m m':Mem} {a:Option Addr} {l k b o:Nat} {its:List It} (h:SlcT m a l k b o its) (hf:Fr S m m') (hs:0 < l→∀ j, ¬ S b j):SlcT m' a l k b o its:=
 ⟨h.len,h.cap,h.at_,fun i x hx=>by
  have h0:0 < l:=by have:=(List.getElem?_eq_some_iff.1 hx).1; have:=h.len; omega
  obtain ⟨h1,h2,h3⟩:=h.data i x hx
  exact ⟨hf.cell h1 (hs h0 _),hf.cell h2 (hs h0 _),hf.cell h3 (hs h0 _)⟩⟩
theorem z_item:zeroOf PP t_spec_Item=some (.agg #[.int .u8 0,.int .i64 0,.int .i64 0]):=by kernel_rfl
theorem item_store {m:Mem} {a:Addr} {v1 v2 v3:Value} {K:Mem→Prop} (h:SemW PP (storeCells a [v1,v2,v3] 0) m fun _ m'=>K m'):StAgg PP t_spec_Item m a (.agg #[v1,v2,v3]) K:=Eq.mpr (by kernel_rfl) h
theorem take_item_W {m:Mem} {x:It} {K:Nat→Mem→Prop}
  (hk:∀ m' n,(∀ S,Fr S m m')→m.size≤n→n < m'.size→cell? m' ⟨n,0,none⟩=some (.int .u8 (x.b:Int))→cell? m' ⟨n,1,none⟩=some (.int .i64 (x.len:Int))→cell? m' ⟨n,2,none⟩=some (.int .i64 (x.d:Int))→K n m'):
  AllocW PP t_spec_Item m fun n18 m19=>StAgg PP t_spec_Item m19 ⟨n18,0,none⟩ (.agg #[.int .u8 (x.b:Int),.int .i64 (x.len:Int),.int .i64 (x.d:Int)]) fun m20=>K n18 m20:=by
 refine alloc_W z_item ?_
 have w0:∀ j,j < 3→Wr (m.push (.cells #[.int .u8 0,.int .i64 0,.int .i64 0] t_spec_Item)) ⟨m.size,j,none⟩:=fun j hj=>wr_new (by simpa using hj)
 have f1:∀ S,Fr S m (m.push (.cells #[.int .u8 0,.int .i64 0,.int .i64 0] t_spec_Item)):=fun S=>Fr.push _
 show StAgg PP t_spec_Item (m.push (.cells #[.int .u8 0,.int .i64 0,.int .i64 0] t_spec_Item)) _ _ _
 generalize m.push (.cells #[.int .u8 0,.int .i64 0,.int .i64 0] t_spec_Item)=m1 at w0 f1 ⊢
 refine item_store (Row.storeCells (vs:=itV x) (i:=0) (by intro v hv; unfold itV at hv; simp at hv; rcases hv with rfl | rfl | rfl <;> rfl) (fun j hj=>by simpa using w0 j hj) fun m2 h1 h2 _=>?_)
 have c0:cell? m2 ⟨m.size,0,none⟩=some (.int .u8 (x.b:Int)):=by have:=h1 0 _ rfl; simpa using this
 refine hk m2 m.size (fun S=>?_) (Nat.le_refl _) (by have:=cell_block c0; simpa using this) c0 (by have:=h1 1 _ rfl; simpa using this) (by have:=h1 2 _ rfl; simpa using this)
 refine Fr.old ((f1 _).trans h2) ?_
 rintro x y hx ⟨rfl,_⟩; omega
theorem LengthCode_spec {n:Nat} (h3:3≤n) (h2:n≤258) {m:Mem} {R:Value→Mem→Prop} (hk:∀ k,LenC n k→R (.tuple #[.int .i64 (k:Int),.int .i64 ((n - (lenS k).1:Nat):Int),.int .i64 ((lenS k).2:Int)]) m):CallM PP f_spec_LengthCode #[.int .i64 (n:Int)] m R:=by
 refine e_spec_LengthCode n m R ?_
 by_cases h258:n=258
 ·subst h258
  exact ifB_t (hk 285 (.inl ⟨rfl,rfl⟩))
 have e:((n:Int) == 258)=false:=by rw [beq_eq_false_iff_ne]; omega
 rw [e]
 refine ifB_f ?_
 rw [q_spec_LengthCode_rrlrl]
 refine loopW ffOk mixedOk (L₀:=L_spec_LengthCode) (σ:=Nat) [0,5] (fun k=>[(0,.int .i64 (n:Int)),(5,.int .i64 (k:Nat))])
  (fun k m'=>m'=m∧256≤k∧k≤284∧∀ k',k < k'→k'≤284→n < (lenS k').1) (fun k=>k) 284 rfl ⟨rfl,by decide,by decide,by omega⟩ ?_
 rintro k m1 ⟨rfl,hk1,hk2,hall⟩
 refine p_spec_LengthCode_rrlrll n k m1 _ ?_
 have hk257:257≤k:=by
  by_cases hk0:257≤k
  ·exact hk0
  ·have:=hall 257 (by omega) (by decide)
   have e:(lenS 257).1=3:=by decide
   omega
 rw [decide_eq_true (by omega)]
 have hls:=lenS_pos hk257 (show k < 286 by omega)
 have hle:=lenOf_le hk257
 rw [lenS_eq hk257 (by omega)] at hle
 refine ifB_t (Length_spec hk257 (by omega) ⟨_,_,rfl,?_⟩)
 by_cases hge:(lenS k).1≤n
 ·rw [decide_eq_true (by omega)]
  have hw:IntKind.wrap .i64 ((n:Int) - ((lenS k).1:Int))=((n - (lenS k).1:Nat):Int):=by rw [wrap64_id (by omega) (by omega)]; omega
  rw [hw]
  exact ifB_t (hk k (.inr ⟨h258,hk257,hk2,hge,hall⟩))
 ·rw [decide_eq_false (by omega)]
  have hw:IntKind.wrap .i64 ((k:Int) - 1)=((k - 1:Nat):Int):=by rw [wrap64_id (by omega) (by omega)]; omega
  rw [hw]
  refine ifB_f ⟨k - 1,rfl,⟨rfl,by omega,by omega,fun k' h4 h5=>?_⟩,by omega⟩
  by_cases hkk:k'=k
  ·subst hkk; omega
  ·exact hall k' (by omega) h5
theorem DistanceCode_spec {n:Nat} (h1:1≤n) (h2:n≤32768) {m:Mem} {R:Value→Mem→Prop} (hk:∀ k,DstC n k→R (.tuple #[.int .i64 (k:Int),.int .i64 ((n - (dstS k).1:Nat):Int),.int .i64 ((dstS k).2:Int)]) m):CallM PP f_spec_DistanceCode #[.int .i64 (n:Int)] m R:=by
 refine e_spec_DistanceCode n m R ?_
 rw [q_spec_DistanceCode_rlrl]
 refine loopW ffOk mixedOk (L₀:=L_spec_DistanceCode) (σ:=Nat) [0,5] (fun k=>[(0,.int .i64 (n:Int)),(5,.int .i64 (k:Nat))])
  (fun k m'=>m'=m∧k < 30∧∀ k',k < k'→k' < 30→n < (dstS k').1) (fun k=>k) 29 rfl ⟨rfl,by decide,by omega⟩ ?_
 rintro k m1 ⟨rfl,hk2,hall⟩
 refine p_spec_DistanceCode_rlrll n k m1 _ ?_
 rw [decide_eq_true (by omega)]
 have hds:=dstS_pos hk2
 refine ifB_t (Distance_spec (by omega) ⟨_,_,rfl,?_⟩)
 by_cases hge:(dstS k).1≤n
 ·rw [decide_eq_true (by omega)]
  have hw:IntKind.wrap .i64 ((n:Int) - ((dstS k).1:Int))=((n - (dstS k).1:Nat):Int):=by rw [wrap64_id (by omega) (by omega)]; omega
  rw [hw]
  exact ifB_t (hk k ⟨hk2,hge,hall⟩)
 ·rw [decide_eq_false (by omega)]
  have hk0:0 < k:=by
   rcases Nat.eq_zero_or_pos k with rfl | h
   ·have e:(dstS 0).1=1:=by decide
    omega
   ·exact h
  have hw:IntKind.wrap .i64 ((k:Int) - 1)=((k - 1:Nat):Int):=by rw [wrap64_id (by omega) (by omega)]; omega
  rw [hw]
  refine ifB_f ⟨k - 1,rfl,⟨rfl,by omega,fun k' h4 h5=>?_⟩,by omega⟩
  by_cases hkk:k'=k
  ·subst hkk; omega
  ·exact hall k' (by omega) h5
end Go.M

namespace Go.M
open Go
set_option maxRecDepth 100000
theorem ln_get {L:List Nat} {i:Nat} (h:ln L i≠0):L[i]?=some (ln L i)∧(cds L)[i]?=some (cd L i):=by
 obtain ⟨h1,h2⟩:=ln_mem h
 refine ⟨h2,?_⟩
 unfold cds
 rw [List.getElem?_map,List.getElem?_range h1]
 simp [h]
theorem cd_small {L:List Nat} (h15:∀ v ∈ L,v≤15) (hl:L.length≤1000) (i:Nat):cd L i < 2 ^ 40:=by
 have:=cd_bound hl (ln_15 h15 i) i
 unfold cd
 omega
def Off (b w wb:Nat):Prop:=b≠w∧b≠wb
theorem off_ws {b w wb:Nat} (h:Off b w wb) (j:Nat): ¬ WS w wb b j:=by
 rintro (h1 | h1)
 ·exact h.1 h1
 ·exact h.2 h1
theorem Off.mv {b w wb wb' s:Nat} (h:Off b w wb) (hb:b < s) (hm:wb'=wb∨s≤wb'):Off b w wb':=by
 refine ⟨h.1,?_⟩
 rcases hm with rfl | hm
 ·exact h.2
 ·omega
theorem SlcI.lo {m:Mem} {a:Option Addr} {l k b o:Nat} {d:List Nat} (h:SlcI m a l k b o d) (h0:0 < l):b < m.size:=by
 have hl:=h.len
 have hg:d[0]?=some (d[0]'(by omega)):=List.getElem?_eq_getElem (by omega)
 have:=cell_block (h.data 0 _ hg); simpa using this
theorem SlcT.lo {m:Mem} {a:Option Addr} {l k b o:Nat} {its:List It} (h:SlcT m a l k b o its) (h0:0 < l):b < m.size:=by
 have hl:=h.len
 have hg:its[0]?=some (its[0]'(by omega)):=List.getElem?_eq_getElem (by omega)
 have:=cell_block (h.data 0 _ hg).1; simpa using this
theorem cellB {m:Mem} {b o i:Nat} {v:Value} (h:cell? m ⟨b,o+i,none⟩=some v):cell? m (aplus ⟨b,o,none⟩ ((i:Int)).toNat)=some v:=by
 rw [show aplus ⟨b,o,none⟩ ((i:Int)).toNat=⟨b,o+i,none⟩ by simp [aplus]]; exact h
theorem cellA {m:Mem} {b i:Nat} {v:Value} (h:cell? m ⟨b,0+i,none⟩=some v):cell? m (aplus ⟨b,0,none⟩ ((i:Int)).toNat)=some v:=cellB h
theorem items_spec {m:Mem} {w b:Nat} {ch:List (Nat×Nat)} (h:WrL m w b ch) {a:Option Addr} {l k bi o:Nat} {its:List It} (hI:SlcT m a l k bi o its) (hbi:0 < l→Off bi w b)
  {aL:Option Addr} {lL kL bL oL:Nat} {L:List Nat} (hL:SlcI m aL lL kL bL oL L) (hbL:0 < lL→Off bL w b) {aD:Option Addr} {lD kD bD oD:Nat} {D:List Nat} (hD:SlcI m aD lD kD bD oD D) (hbD:0 < lD→Off bD w b)
  (h15:∀ v ∈ L,v≤15) (h15':∀ v ∈ D,v≤15) (hlL:lL≤1000) (hlD:lD≤1000) (H:List Nat) (hv:VIts H.length its) (hne:∀ x ∈ its,NeedL L D x) (he:ln L 256≠0) (hl:l≤1048576) (hn:chLen ch+100 * l+100 < 1099511627776)
  {R:Value→Mem→Prop} (hk:∀ m' b' pc,ItsN L D H pc (givs H its)→chLen pc≤60 * l→WOL m w b m' b' (ch++pc++[sy L 256])→R (.tuple #[]) m'):
  CallM PP f_Writer_items #[.pointer (some ⟨w,0,none⟩),.slice a l k,.slice aL lL kL,.slice aD lD kD] m R:=by
 have hlenI:=hI.len
 have hlenL:=hL.len
 have hlenD:=hD.len
 have hw:=h.lo
 have hbl:=h.lob
 refine e_Writer_items w a l k aL lL kL aD lD kD m R (Codes_spec hL h15 hlL fun m1 c1 hc1 hC1 f1=>⟨_,_,_,rfl,Codes_spec (hD.old f1) h15' hlD fun m2 c2 hc2 hC2 f2=>⟨_,_,_,rfl,?_⟩⟩)
 have f12:∀ S,Fr S m m2:=fun S=>(f1 S).trans (f2 S)
 have hC12:=hC1.old f2
 have s1:=(f1 fun _ _=>False).size
 have s2:=(f2 fun _ _=>False).size
 have hc1o:0 < lL→Off c1 w b∧c1 < m2.size:=fun h0=>⟨⟨by omega,by omega⟩,hC12.lo h0⟩
 have hc2o:0 < lD→Off c2 w b∧c2 < m2.size:=fun h0=>⟨⟨by omega,by omega⟩,hC2.lo h0⟩
 have W2:WOL m w b m2 b ch:=(WOL.refl h).fresh f12
 have hL256:0 < lL:=by have:=(ln_mem he).1; omega
 rw [q_Writer_items_rlrl]
 refine loopW ffOk mixedOk (L₀:=L_Writer_items) (σ:=Nat×Nat×List (Nat×Nat)) [0,2,3,8,9,20,21,22]
  (fun s=>[(0,.pointer (some ⟨w,0,none⟩)),(2,.slice aL lL kL),(3,.slice aD lD kD),(8,.slice (some ⟨c1,0,none⟩) lL lL),(9,.slice (some ⟨c2,0,none⟩) lD lD),(20,.slice a l k),(21,.int .i64 (l:Int)),(22,.int .i64 (s.1:Nat))])
  (fun s m'=>s.1≤l∧WOL m2 w b m' s.2.1 (ch++s.2.2)∧ItsN L D H s.2.2 (givs H (its.take s.1))∧chLen s.2.2≤60 * s.1) (fun s=>l - s.1) (0,b,[]) rfl
  ⟨Nat.zero_le _,by simpa using WOL.refl W2.wrl,.nil,by simp [chLen]⟩ ?_
 rintro ⟨i,b3,pc⟩ m3 ⟨hi,hW,hIt,hpc⟩
 simp only at hi hW hIt hpc
 have keepI:∀ {m':Mem},Fr (WS w b) m2 m'→SlcI m' aL lL kL bL oL L∧SlcI m' aD lD kD bD oD D∧SlcI m' (some ⟨c1,0,none⟩) lL lL c1 0 (cds L)∧SlcI m' (some ⟨c2,0,none⟩) lD lD c2 0 (cds D)∧SlcT m' a l k bi o its:=fun hf=>
  ⟨(hL.old f12).fr hf fun h0=>off_ws (hbL h0),(hD.old f12).fr hf fun h0=>off_ws (hbD h0),hC12.fr hf fun h0=>off_ws (hc1o h0).1,hC2.fr hf fun h0=>off_ws (hc2o h0).1,(hI.fr (f12 fun _ _=>False) fun _ _=>id).fr hf fun h0=>off_ws (hbi h0)⟩
 obtain ⟨hL3,hD3,hC13,hC23,hI3⟩:=keepI hW.fr
 refine p_Writer_items_rlrll w aL lL kL aD lD kD _ lL lL _ lD lD a l k l i m3 _ ?_
 by_cases hil:i < l
 ·rw [decide_eq_true (by omega)]
  have hwi:IntKind.wrap .i64 ((i:Int)+1)=((i+1:Nat):Int):=by rw [wrap64_id (by omega) (by omega)]; rfl
  have hget:its[i]?=some (its[i]'(by omega)):=List.getElem?_eq_getElem (by omega)
  generalize its[i]'(by omega)=x at hget
  obtain ⟨d1,d2,d3⟩:=hI3.data i x hget
  have hvx:=hv.get hget
  have hnx:=hne x (List.mem_of_getElem? hget)
  refine ifB_t ?_
  have hat:=hI3.at_ (by omega)
  subst hat
  refine ⟨⟨by omega,by omega⟩,(x.b:Int),(x.len:Int),(x.d:Int),rfl,⟨?_,?_,?_,trivial⟩,?_⟩
  ·rw [show aplus (aplus ⟨bi,o,none⟩ ((i:Int).toNat * 3)) 0=⟨bi,o+i * 3,none⟩ by simp [aplus]]; exact d1
  ·rw [show aplus (aplus ⟨bi,o,none⟩ ((i:Int).toNat * 3)) (0+1)=⟨bi,o+i * 3+1,none⟩ by simp [aplus,Nat.add_assoc]]; exact d2
  ·rw [show aplus (aplus ⟨bi,o,none⟩ ((i:Int).toNat * 3)) (0+1+1)=⟨bi,o+i * 3+2,none⟩ by simp [aplus,Nat.add_assoc]]; exact d3
  refine take_item_W fun m4 n f4 hn1 hn2 e0 e1 e2=>⟨_,e1,?_⟩
  have W4:WOL m2 w b m4 b3 (ch++pc):=hW.fresh f4
  have hb3:=W4.wrl.lob
  have hw3:=hW.wrl.lo
  have hb33:=hW.wrl.lob
  have hlc:chLen (ch++pc)=chLen ch+chLen pc:=chLen_append _ _
  obtain ⟨hL4,hD4,hC14,hC24,_⟩:=keepI W4.fr
  have next:∀ m' b' q,ItN L D (givs H (its.take i)) q (giv (givs H (its.take i)) x)→chLen q≤60→WOL m4 w b3 m' b' (ch++pc++q)→
    ∃ s':Nat×Nat×List (Nat×Nat),[(0,Value.pointer (some ⟨w,0,none⟩)),(2,.slice aL lL kL),(3,.slice aD lD kD),(8,.slice (some ⟨c1,0,none⟩) lL lL),(9,.slice (some ⟨c2,0,none⟩) lD lD),(20,.slice (some ⟨bi,o,none⟩) l k),(21,.int .i64 (l:Int)),(22,.int .i64 ((i+1:Nat):Int))]=[(0,Value.pointer (some ⟨w,0,none⟩)),(2,.slice aL lL kL),(3,.slice aD lD kD),(8,.slice (some ⟨c1,0,none⟩) lL lL),(9,.slice (some ⟨c2,0,none⟩) lD lD),(20,.slice (some ⟨bi,o,none⟩) l k),(21,.int .i64 (l:Int)),(22,.int .i64 (s'.1:Nat))]∧
     (s'.1≤l∧WOL m2 w b m' s'.2.1 (ch++s'.2.2)∧ItsN L D H s'.2.2 (givs H (its.take s'.1))∧chLen s'.2.2≤60 * s'.1)∧l - s'.1 < l - i:=by
   intro m' b' q hq hq60 hW'
   refine ⟨(i+1,b',pc++q),rfl,⟨by simp only; omega,?_,?_,?_⟩,by simp only; omega⟩
   ·simp only; rw [← List.append_assoc]; exact W4.trans hW'
   ·simp only; rw [givs_take hget]; exact hIt.snoc hq
   ·simp only; rw [chLen_append]; omega
  by_cases hx0:x.len=0
  ·rw [hx0]
   have hlb:=hnx.1 hx0
   obtain ⟨g1,g2⟩:=ln_get hlb
   have hbL':=(ln_mem hlb).1
   refine ifB_t ⟨_,e0,⟨by omega,by omega⟩,_,cellA (hC14.data x.b _ g2),_,e0,?_⟩
   rw [hL.at_ hL256]
   refine ⟨⟨by omega,by omega⟩,_,cellB (hL4.data x.b _ g1),?_⟩
   have h15b:=ln_15 h15 x.b
   refine code_spec' W4.wrl (cd_small h15 (by omega) x.b) (by omega) (by omega) fun m5 b5 W5=>⟨rfl,?_⟩
   refine WPS.piece [0,2,3,8,9,20,21,22] rfl (p_Writer_items_rlrllrrr w _ _ _ _ _ _ _ _ _ _ _ _ _ _ _ _ _ m5 _ ?_)
   rw [hwi, ← hL.at_ hL256]
   refine next m5 b5 [sy L x.b] ?_ (by simp [chLen,sy]; omega) W5
   have:giv (givs H (its.take i)) x=givs H (its.take i)++[x.b]:=by unfold giv; rw [if_pos hx0]
   rw [this]
   exact .lit hvx.1 hlb
  ·have e:((x.len:Int) == 0)=false:=by rw [beq_eq_false_iff_ne]; omega
   rw [e]
   obtain ⟨g3,g258,gd1,gd2,gd3⟩:3≤x.len∧x.len≤258∧1≤x.d∧x.d≤32768∧x.d≤(givs H (its.take i)).length:=by
    rcases hvx.2 with h0 | h0
    ·exact absurd h0 hx0
    ·exact h0
   obtain ⟨hnl,hnd⟩:=hnx.2 hx0
   refine ifB_f ⟨_,e1,LengthCode_spec g3 g258 fun kk hkk=>⟨_,_,_,rfl,?_⟩⟩
   obtain ⟨q1,q2,q3,q4⟩:=hkk.spec g258
   have hlk:=hnl kk hkk
   obtain ⟨u1,u2⟩:=ln_get hlk
   have hkL:=(ln_mem hlk).1
   have h15k:=ln_15 h15 kk
   have hex:=(lenS_pos q1 q2).2
   refine ⟨⟨by omega,by omega⟩,_,cellA (hC14.data kk _ u2),?_⟩
   rw [hL.at_ hL256]
   refine ⟨⟨by omega,by omega⟩,_,cellB (hL4.data kk _ u1),?_⟩
   refine code_spec' W4.wrl (cd_small h15 (by omega) kk) (by omega) (by omega) fun m5 b5 W5=>⟨rfl,?_⟩
   have l5:=chLen_snoc (ch++pc) (rv (ln L kk) (cd L kk)) (ln L kk)
   refine Bits_spec W5.wrl (v:=x.len - (lenS kk).1) (k:=(lenS kk).2) q4 (by omega) (by omega) fun m6 b6 W6=>⟨rfl,?_⟩
   have l6:=chLen_snoc (ch++pc++[(rv (ln L kk) (cd L kk),ln L kk)]) (x.len - (lenS kk).1) (lenS kk).2
   have W46:=W5.trans W6
   have hnoff:Off n w b3:=⟨by omega,by omega⟩
   refine ⟨_,W46.fr.cell e2 (off_ws hnoff _),DistanceCode_spec gd1 gd2 fun dd hdd=>⟨_,_,_,rfl,?_⟩⟩
   obtain ⟨r3,r4⟩:=hdd.spec gd2
   have hld:=hnd dd hdd
   obtain ⟨v1,v2⟩:=ln_get hld
   have hdD:=(ln_mem hld).1
   have h15d:=ln_15 h15' dd
   have hds:=dstS_pos hdd.1
   obtain ⟨_,hD6,_,hC26,_⟩:=keepI (W4.trans W46).fr
   refine ⟨⟨by omega,by omega⟩,_,cellA (hC26.data dd _ v2),?_⟩
   rw [hD.at_ (by omega)]
   refine ⟨⟨by omega,by omega⟩,_,cellB (hD6.data dd _ v1),?_⟩
   refine code_spec' W6.wrl (cd_small h15' (by omega) dd) (by omega) (by omega) fun m7 b7 W7=>⟨rfl,?_⟩
   have l7:=chLen_snoc (ch++pc++[(rv (ln L kk) (cd L kk),ln L kk)]++[(x.len - (lenS kk).1,(lenS kk).2)]) (rv (ln D dd) (cd D dd)) (ln D dd)
   refine Bits_spec W7.wrl (v:=x.d - (dstS dd).1) (k:=(dstS dd).2) r4 (by omega) (by omega) fun m8 b8 W8=>⟨rfl,?_⟩
   refine WPS.piece [0,2,3,8,9,20,21,22] rfl (p_Writer_items_rlrllrrr w _ _ _ _ _ _ _ _ _ _ _ _ _ _ _ _ _ m8 _ ?_)
   rw [hwi, ← hL.at_ hL256, ← hD.at_ (by omega)]
   refine next m8 b8 [sy L kk,(x.len - (lenS kk).1,(lenS kk).2),sy D dd,(x.d - (dstS dd).1,(dstS dd).2)] ?_ (by simp [chLen,sy]; omega) ?_
   ·have hit:=ItN.mat (L:=L) (D:=D) (H:=givs H (its.take i)) (fun e h31=>by
     subst e
     rcases hkk with ⟨_,h⟩ | ⟨h,_⟩
     ·cases h
     ·have e5:(lenS 284).1=227:=rfl
      omega) q1 q2 q4 hdd.1 r4 hlk hld (by omega)
    rw [show (dstS dd).1+(x.d - (dstS dd).1)=x.d by omega,show (lenS kk).1+(x.len - (lenS kk).1)=x.len by omega] at hit
    have:giv (givs H (its.take i)) x=lz (givs H (its.take i)) x.d x.len:=by unfold giv; rw [if_neg hx0]
    rw [this]
    exact hit
   ·have:=W46.trans (W7.trans W8)
    simp only [List.append_assoc,List.cons_append,List.nil_append] at this ⊢
    exact this
 ·rw [decide_eq_false (by omega)]
  have hil':i=its.length:=by omega
  rw [hil',List.take_length] at hIt
  obtain ⟨g1,g2⟩:=ln_get he
  have h256:=(ln_mem he).1
  refine ifB_f (WPS.piece [0,2,8] rfl (p_Writer_items_rr w aL lL kL _ lL lL m3 _ ?_))
  refine ⟨⟨by omega,by omega⟩,_,cellA (hC13.data 256 _ g2),?_⟩
  rw [hL.at_ hL256]
  have hlc:chLen (ch++pc)=chLen ch+chLen pc:=chLen_append _ _
  have h15e:=ln_15 h15 256
  refine ⟨⟨by omega,by omega⟩,_,cellB (hL3.data 256 _ g1),?_⟩
  refine code_spec' hW.wrl (cd_small h15 (by omega) 256) (by omega) (by omega) fun m4 b4 W4=>⟨rfl,?_⟩
  exact hk m4 b4 pc hIt (by omega) (W2.trans (hW.trans W4))
end Go.M

namespace Go.M
open Go
set_option maxRecDepth 100000
theorem box_writer {m:Mem} {K:Nat→Mem→Prop} (hk:∀ m',WrL m' m.size m.size []→(∀ S,Fr S m m')→K m.size m'):BoxW t_spec_Writer (.agg #[.slice none 0 0,.int .i64 0]) m K:=by
 show K m.size (m.push (.cells #[.slice none 0 0,.int .i64 0] t_spec_Writer))
 refine hk _ ⟨⟨none,0,0,0,[],cell_new rfl,OutB.nil _ _,by omega,rfl,rfl,by simp⟩,cell_new rfl,wr_new (by decide),wr_new (by decide),by decide,by simp⟩ fun S=>Fr.push _
structure StreamOf (ch:List (Nat×Nat)) (src:List Nat):Prop where
 byte:∀ v ∈ src,v < 256
 num:num src=chVal ch
 len:src.length=(chLen ch+7) / 8
theorem WrL.stream {m:Mem} {w b:Nat} {ch:List (Nat×Nat)} (h:WrL m w b ch):∃ a l k o src,cell? m ⟨w,0,none⟩=some (.slice a l k)∧SlcB m a l k b o src∧StreamOf ch src:=by
 obtain ⟨a,l,k,o,ob,c,hO,_,h2,h3,h4⟩:=h.out
 exact ⟨a,l,k,o,ob,c,hO.slc h4,h4,h3,h2⟩
theorem fixV_fixL:(List.range 288).map fixV=fixL:=by decide+kernel
theorem fixL_need {x:It} {n:Nat} (hv:VIt n x):NeedL fixL fixD x:=by
 obtain ⟨h1,h2⟩:=hv
 refine ⟨fun h0=>fixL_ne (by omega),fun h0=>?_⟩
 rcases h2 with h2 | ⟨g1,g2,g3,g4,_⟩
 ·exact absurd h2 h0
 ·refine ⟨fun k hk=>fixL_ne (by have:=(hk.spec g2).2.1; omega),fun k hk=>?_⟩
  rw [fixD_get,if_pos (by have:=hk.1; omega)]; decide
theorem VIts.mem:∀ {its:List It} {n:Nat} {x:It},VIts n its→x ∈ its→∃ n',VIt n' x
 | [],_,_,_,h=>by cases h
 | y::its,n,x,hv,h=>by
  rcases List.mem_cons.1 h with rfl | h
  ·exact ⟨_,hv.1⟩
  ·exact VIts.mem hv.2 h
theorem Fixed_specN {m:Mem} {w b:Nat} {ch:List (Nat×Nat)} (h:WrL m w b ch) {a:Option Addr} {l k bi o:Nat} {its:List It} (hI:SlcT m a l k bi o its) (hbi:0 < l→Off bi w b) (fin:Bool) (H:List Nat) (hv:VIts H.length its) (hl:l≤1048576) (hn:chLen ch+100 * l+200 < 1099511627776)
  {R:Value→Mem→Prop} (hk:∀ m' b' pc,ItsN fixL fixD H pc (givs H its)→chLen pc≤60 * l→WOL m w b m' b' (ch++((fl fin+2,3)::(pc++[sy fixL 256])))→R (.tuple #[]) m'):
  CallM PP f_Writer_Fixed #[.pointer (some ⟨w,0,none⟩),.slice a l k,.bool fin] m R:=by
 refine e_Writer_Fixed w a l k fin m R (flag_spec fin ⟨_,rfl,rfl,?_⟩)
 have hor:bitsOp .or .i64 ((fl fin:Nat):Int) 2=((fl fin+2:Nat):Int):=by cases fin <;> decide
 rw [hor]
 refine Bits_spec h (v:=fl fin+2) (k:=3) (by cases fin <;> decide) (by decide) (by omega) fun m1 b1 W1=>⟨rfl,?_⟩
 have l1:=chLen_snoc ch (fl fin+2) 3
 have hw:=h.lo
 have hbl:=h.lob
 have hw1:=W1.wrl.lo
 have hb1:=W1.wrl.lob
 refine fixed_spec fun m2 aL lL kL bL oL aD lD kD bD oD hL hD hbL hbD f2=>⟨_,_,_,_,_,_,rfl,?_⟩
 rw [fixV_fixL] at hL
 have hlL:lL=288:=by have:=hL.len; rw [← this]; exact fixL_len
 have hlD:lD=32:=by have:=hD.len; simpa using this.symm
 have hI2:SlcT m2 a l k bi o its:=(hI.fr W1.fr fun h0=>off_ws (hbi h0)).fr (f2 fun _ _=>False) fun _ _=>id
 have W2:WOL m w b m2 b1 (ch++[(fl fin+2,3)]):=W1.fresh f2
 refine items_spec W2.wrl hI2 (fun h0=>(hbi h0).mv (hI.lo h0) W1.mv) hL.slc (fun h0=>?_) hD.slc (fun h0=>?_) fixL_15 fixD_15 (by omega) (by omega) H hv (fun x hx=>let ⟨_,h⟩:=hv.mem hx; fixL_need h) (by rw [fixL_256]; decide) hl (by omega) fun m3 b3 pc hIt hpc W3=>⟨rfl,?_⟩
 ·have:=hbL (by have:=hL.own.le; omega)
  exact ⟨by omega,by omega⟩
 ·have:=hbD (by have:=hD.own.le; omega)
  exact ⟨by omega,by omega⟩
 ·refine hk m3 b3 pc hIt hpc ?_
  simpa [List.append_assoc] using W2.trans W3
theorem Fixed_spec {m:Mem} {w b:Nat} {ch:List (Nat×Nat)} (h:WrL m w b ch) {a:Option Addr} {l k bi o:Nat} {its:List It} (hI:SlcT m a l k bi o its) (hbi:0 < l→Off bi w b) (fin:Bool) (H:List Nat) (hv:VIts H.length its) (hl:l≤1048576) (hn:chLen ch+100 * l+200 < 1099511627776)
  {R:Value→Mem→Prop} (hk:∀ m' b' pc,ItsAre fixL fixD H pc (givs H its)→chLen pc≤60 * l→WOL m w b m' b' (ch++((fl fin+2,3)::(pc++[sy fixL 256])))→R (.tuple #[]) m'):
  CallM PP f_Writer_Fixed #[.pointer (some ⟨w,0,none⟩),.slice a l k,.bool fin] m R:=
 Fixed_specN h hI hbi fin H hv hl hn fun m' b' pc hIt=>hk m' b' pc hIt.are
theorem OutB.lt {m:Mem} {a:Option Addr} {l k b o:Nat} {d:List Nat} (h:OutB m a l k b o d) (hk:0 < k):b < m.size:=by
 obtain ⟨⟨v,hv⟩,_⟩:=h.own.wr 0 (by omega)
 exact cell_block hv
theorem push8_W {m:Mem} {a:Option Addr} {l k b o:Nat} {d:List Nat} (hO:OutB m a l k b o d) (v:Nat) (hbig:l≤1099511627776) {K:Option Addr→Nat→Nat→Mem→Prop}
  (hk:∀ m' a' k' b' o',OutB m' a' (l+1) k' b' o' (d++[v])→0 < k'→(b'=b∨m.size≤b')→b' < m'.size→(∀ n,n < m.size→n≠b→n≠b')→Fr (fun x _=>x=b) m m'→K a' (l+1) k' m'):
  SemW PP (sv (Instr.buildSlice t_s_uint8 1 #[(0,.int .u8 (v:Int))])) m (NextW PP fun v11 m12=>∃ (a8:Option Addr),∃ (l9:Nat),∃ (k10:Nat),v11=.slice a8 l9 k10∧SemW PP (builtin .append #[t_s_uint8,t_s_uint8] t_s_uint8 #[false,false] #[.slice a l k,.slice a8 l9 k10]) m12 (NextW PP fun v16 m17=>∃ (a13:Option Addr),∃ (l14:Nat),∃ (k15:Nat),v16=.slice a13 l14 k15∧K a13 l14 k15 m17)):=by
 refine build1_W ⟨_,_,_,rfl,?_⟩
 have f1:∀ S,Fr S m (m.push (.cells #[.int .u8 (v:Int)] t_uint8)):=fun S=>Fr.push _
 have c1:cell? (m.push (.cells #[.int .u8 (v:Int)] t_uint8)) ⟨m.size,0,none⟩=some (.int .u8 (v:Int)):=cell_new (c:=#[.int .u8 (v:Int)]) (i:=0) rfl
 have s1:(m.push (.cells #[.int .u8 (v:Int)] t_uint8)).size=m.size+1:=Array.size_push ..
 generalize m.push (.cells #[.int .u8 (v:Int)] t_uint8)=m1 at f1 c1 s1 ⊢
 refine appendB_W (b2:=m.size) (o2:=0) (ys:=[v]) (hO.fr (f1 fun _ _=>False) fun _ _=>id) rfl (fun _=>rfl) (fun i x hx=>?_) (by omega) fun m2 a' k' b' o' hO2 hb2 hf2 h02=>⟨_,_,_,rfl,hk m2 a' k' b' o' hO2 (h02 (by decide)) ?_ (hO2.lt (h02 (by decide))) ?_ ((f1 _).trans (hf2.mono fun _ _ h=>h.1))⟩
 ·cases i with
  | zero=>simp only [List.getElem?_cons_zero,Option.some.injEq] at hx; subst hx; exact c1
  | succ i=>simp at hx
 ·rcases hb2 with ⟨rfl,_⟩ | ⟨rfl,_⟩
  ·exact .inl rfl
  ·exact .inr (by omega)
 ·intro n h1 h2
  rcases hb2 with ⟨rfl,_⟩ | ⟨rfl,_⟩
  ·exact h2
  ·omega
end Go.M

namespace Go.M
open Go
set_option maxRecDepth 100000
theorem SlcB.take {m:Mem} {a:Option Addr} {l k b o n:Nat} {d:List Nat} (h:SlcB m a l k b o d) (hn:n≤l):SlcB m a n k b o (d.take n):=by
 have hl:=h.len
 have hc:=h.cap
 refine ⟨by rw [List.length_take]; omega,by omega,fun h0=>h.at_ (by omega),fun i hi=>?_,fun v hv=>h.byte v (List.mem_of_mem_take hv)⟩
 have:=h.data i (by omega)
 rw [List.getD_eq_getElem?_getD] at this ⊢
 rw [List.getElem?_take,if_pos hi]
 exact this
theorem SlcB.drop {m:Mem} {a:Option Addr} {l k b o n:Nat} {d:List Nat} (h:SlcB m a l k b o d) (h0:0 < l) (hn:n < k):SlcB m (subA a n 1 k) (l - n) (k - n) b (o+n) (d.drop n):=by
 have hl:=h.len
 have hc:=h.cap
 refine ⟨by rw [List.length_drop]; omega,by omega,fun _=>by rw [h.at_ h0,subA_lt hn],fun i hi=>?_,fun v hv=>h.byte v (List.mem_of_mem_drop hv)⟩
 have:=h.data (n+i) (by omega)
 rw [List.getD_eq_getElem?_getD] at this ⊢
 rw [List.getElem?_drop,Nat.add_assoc]
 exact this
theorem build1T_W {x y z:Int} {m:Mem} {K:Value→Mem→Prop} (h:K (.slice (some ⟨m.size,0,none⟩) 1 1) (m.push (.cells #[.int .u8 x,.int .i64 y,.int .i64 z] t_spec_Item))):
  SemW PP (sv (Instr.buildSlice t_s_spec_Item 1 #[(0,.agg #[.int .u8 x,.int .i64 y,.int .i64 z])])) m (NextW PP K):=Eq.mpr (by kernel_rfl) h
theorem item_W {m:Mem} (x:It) {K:Value→Mem→Prop} (hk:∀ m',SlcT m' (some ⟨m.size,0,none⟩) 1 1 m.size 0 [x]→(∀ S,Fr S m m')→m'.size=m.size+1→K (.slice (some ⟨m.size,0,none⟩) 1 1) m'):
  SemW PP (sv (Instr.buildSlice t_s_spec_Item 1 #[(0,.agg #[.int .u8 (x.b:Int),.int .i64 (x.len:Int),.int .i64 (x.d:Int)])])) m (NextW PP K):=by
 refine build1T_W (hk _ ⟨rfl,Nat.le_refl _,fun _=>rfl,fun i y hy=>?_⟩ (fun S=>Fr.push _) (Array.size_push ..))
 cases i with
 | zero=>
  simp only [List.getElem?_cons_zero,Option.some.injEq] at hy
  subst hy
  exact ⟨cell_new rfl,cell_new rfl,cell_new rfl⟩
 | succ i=>simp at hy
def Wrote (m:Mem) (Hf:List Nat) (fin:Bool) (n:Nat) (R:Value→Mem→Prop):Prop:=
 ∀ m' a l k b o src ch,SlcB m' a l k b o src→StreamOf ch src→BlkIs 0 [] ch Hf fin→chLen ch≤n→(∀ S,Fr S m m')→R (.slice a l k) m'
theorem WOL.wrote {m m1 m2:Mem} {b:Nat} {ch:List (Nat×Nat)} (f1:∀ S,Fr S m m1) (h:WOL m1 m.size m.size m2 b ch):∃ a l k o src,cell? m2 ⟨m.size,0,none⟩=some (.slice a l k)∧SlcB m2 a l k b o src∧StreamOf ch src∧∀ S,Fr S m m2:=by
 obtain ⟨a,l,k,o,src,h1,h2,h3⟩:=h.wrl.stream
 refine ⟨a,l,k,o,src,h1,h2,h3,fun S=>?_⟩
 refine ((f1 (WS m.size m.size)).trans h.fr).old fun i j hi hs=>?_
 rcases hs with hs | hs <;> omega
theorem WOL.wroteO {m m1 m2:Mem} {b:Nat} {ch:List (Nat×Nat)} (f1:∀ S,Fr S m m1) (h:WOL m1 m.size m.size m2 b ch):∃ a l k o src,cell? m2 ⟨m.size,0,none⟩=some (.slice a l k)∧OutB m2 a l k b o src∧StreamOf ch src∧m.size≤b∧∀ S,Fr S m m2:=by
 obtain ⟨a,l,k,o,src,c,hO,_,h2,h3,h4⟩:=h.wrl.out
 have s1:=(f1 fun _ _=>False).size
 refine ⟨a,l,k,o,src,c,hO,⟨h4,h3,h2⟩,by rcases h.mv with e | e <;> omega,fun S=>?_⟩
 refine ((f1 (WS m.size m.size)).trans h.fr).old fun i j hi hs=>?_
 rcases hs with hs | hs <;> omega
theorem zeros_W {m:Mem} {n:Nat} {x:Int} (hx:x=n) (hn:n≤16777216) {K:Value→Mem→Prop}
  (hk:∀ m',SlcB m' (some ⟨m.size,0,none⟩) n n m.size 0 (List.replicate n 0)→WrRow m' m.size 0 n→(∀ S,Fr S m m')→m'.size=m.size+1→K (.slice (some ⟨m.size,0,none⟩) n n) m'):
  SemW PP (sv (Instr.makeSlice t_s_uint8 (.int .i64 x) (.int .i64 x))) m (NextW PP K):=by
 obtain ⟨iu,hi⟩:=one_uint8
 refine make_W (n:=n) u_s_uint8 hi.info hi.zero rfl hi.size hx hx (by rw [hi.bytes]; omega) (by omega) fun m1 own1 f1 s1=>hk m1 ⟨by simp,Nat.le_refl _,fun _=>rfl,fun i hi=>?_,fun v hv=>?_⟩ ?_ f1 s1
 ·have:=own1.row i (.int .u8 0) (by rw [List.getElem?_replicate,if_pos hi])
  rw [this,List.getD_eq_getElem?_getD,List.getElem?_replicate,if_pos hi]
  rfl
 ·rw [(List.mem_replicate.1 hv).2]; decide
 ·intro j hj
  exact own1.wr j (by omega)
theorem copied2_W {m:Mem} {a2:Option Addr} {l k b o:Nat} {d:List Nat} (hS:SlcB m a2 l k b o d) (hbig:l≤70368744177664) {c:Addr} {v:Value} (hc:cell? m c=some v) {K:Option Addr→Nat→Nat→Mem→Prop}
  (hk:∀ m' a' k' b' o',OutB m' a' l k' b' o' d→m.size≤b'→b' < m'.size→(∀ S,Fr S m m')→cell? m' c=some v→K a' l k' m'):
  SemW PP (sv (Instr.buildSlice t_s_uint8 0 #[])) m (NextW PP fun v14 m15=>∃ (a11:Option Addr),∃ (l12:Nat),∃ (k13:Nat),v14=.slice a11 l12 k13∧cell? m15 c=some v∧SemW PP (builtin .append #[t_s_uint8,t_s_uint8] t_s_uint8 #[false,false] #[.slice a11 l12 k13,.slice a2 l k]) m15 (NextW PP fun v19 m20=>∃ (a16:Option Addr),∃ (l17:Nat),∃ (k18:Nat),v19=.slice a16 l17 k18∧cell? m20 c=some v∧K a16 l17 k18 m20)):=by
 refine buildB_W ⟨_,_,_,rfl,?_⟩
 have f1:∀ S,Fr S m (m.push (.cells #[] t_uint8)):=fun S=>Fr.push _
 have s1:(m.push (.cells #[] t_uint8)).size=m.size+1:=Array.size_push ..
 generalize m.push (.cells #[] t_uint8)=m1 at f1 s1 ⊢
 have hO:OutB m1 (some ⟨m.size,0,none⟩) 0 0 m.size 0 []:=⟨⟨rfl,Nat.le_refl _,by omega,fun i v h=>by simp at h,fun i h=>by omega⟩,by omega⟩
 refine ⟨(f1 fun _ _=>False).cell hc id,?_⟩
 refine appendB_W (b2:=b) (o2:=o) hO hS.len (fun h=>hS.at_ ?_) ?_ (by omega) ?_
 ·rw [← hS.len]; exact List.length_pos_iff.2 h
 ·intro i v hv
  have hi:=(List.getElem?_eq_some_iff.1 hv).1
  rw [hS.len] at hi
  rw [(f1 fun _ _=>False).cell (hS.data i hi) id,List.getD_eq_getElem?_getD,hv]; rfl
 ·intro m2 a' k' b' o' hO2 hb hf2 h0
  rw [Nat.zero_add] at hO2 ⊢
  rw [List.nil_append] at hO2
  have hle:=hO2.own.le
  have hf:∀ S,Fr S m m2:=fun S=>(f1 S).trans (hf2.mono (by rintro i j ⟨_,h⟩; omega))
  have h2:=hf2.size
  have hc2:cell? m2 c=some v:=(hf fun _ _=>False).cell hc id
  refine ⟨_,_,_,rfl,hc2,?_⟩
  rcases hb with ⟨rfl,rfl,rfl⟩ | ⟨rfl,rfl⟩
  ·exact hk m2 a' 0 _ _ hO2 (Nat.le_refl _) (by omega) hf hc2
  ·rcases Nat.eq_zero_or_pos k' with e | hpos
   ·subst e
    refine hk m2 a' 0 m.size 0 ⟨⟨hO2.own.len,hO2.own.le,by omega,fun i v hv=>?_,fun i h=>by omega⟩,by omega⟩ (Nat.le_refl _) (by omega) hf hc2
    have:=(List.getElem?_eq_some_iff.1 hv).1
    have:=hO2.own.len; omega
   ·exact hk m2 a' k' _ _ hO2 (by omega) (hO2.lt hpos) hf hc2
theorem lz_one (y:Nat):∀ n,lz [y] 1 n=List.replicate (n+1) y
 | 0=>rfl
 | n+1=>by
  rw [lz,lz_one y n,List.length_replicate,List.getD_eq_getElem?_getD,List.getElem?_replicate,if_pos (by omega),List.replicate_succ' (n:=n+1)]
  rfl
theorem lz_back (H:List Nat) (d:Nat) (hd:0 < d) (hl:d≤H.length):∀ n i,i < n→(lz H d n).getD (H.length+i) 0=(lz H d n).getD (H.length+i - d) 0
 | 0,i,h=>by omega
 | n+1,i,h=>by
  have hln:=lz_length H d n
  rw [lz]
  by_cases hi:i < n
  ·rw [getD_append_left (by omega),getD_append_left (by omega)]
   exact lz_back H d hd hl n i hi
  ·have:i=n:=by omega
   subst this
   rw [getD_append_left (i:=H.length+i - d) (by omega),List.getD_eq_getElem?_getD,List.getElem?_append_right (by omega),hln]
   simp
theorem one_W {m:Mem} {y:Nat} (hy:y < 256) {K:Value→Mem→Prop}
  (hk:∀ m',SlcB m' (some ⟨m.size,0,none⟩) 1 1 m.size 0 [y]→(∀ S,Fr S m m')→m.size < m'.size→K (.slice (some ⟨m.size,0,none⟩) 1 1) m'):
  SemW PP (sv (Instr.buildSlice t_s_uint8 1 #[(0,.int .u8 (y:Int))])) m (NextW PP K):=by
 refine build1_W (hk _ ⟨rfl,Nat.le_refl _,fun _=>rfl,fun i hi=>?_,fun v hv=>?_⟩ (fun S=>Fr.push _) ?_)
 ·have:i=0:=by omega
  subst this
  exact cell_new rfl
 ·rw [List.mem_singleton.1 hv]; exact hy
 ·rw [Array.size_push]; omega
end Go.M
