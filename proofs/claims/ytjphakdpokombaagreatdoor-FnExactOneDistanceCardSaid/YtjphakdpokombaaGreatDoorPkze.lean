/- The random generator: the head of a block with codes of its own. The random generator: the head of a block with codes of its own, as it is written. The random generator: blocks with codes of their own. The random generator: what items give, with what they leave told in full. -/
import Derived.Test.YtjphakdpokombaaGreatDoorPkzd
import Derived.Test.YtjphakdpokombaaGreatDoorPkzc
namespace Go.M
open Go
set_option maxRecDepth 100000
structure Gen (m:Mem) (r c w b:Nat) (ch:List (Nat×Nat)):Prop where
 rd:RdM m r c
 wr:WrL m w b ch
 rw:r < w
 rb:r < b
def GS (r w b:Nat):Nat→Nat→Prop:=fun i _=>i=r∨i=w∨i=b
structure GOp (m:Mem) (r w b:Nat) (m':Mem) (c' b':Nat) (ch':List (Nat×Nat)):Prop where
 gen:Gen m' r c' w b' ch'
 mv:b'=b∨m.size≤b'
 fr:Fr (GS r w b) m m'
def Out3 (b r w wb:Nat):Prop:=b≠r∧b≠w∧b≠wb
theorem Out3.gs {b r w wb:Nat} (h:Out3 b r w wb) (j:Nat): ¬ GS r w wb b j:=by
 rintro (e | e | e)
 ·exact h.1 e
 ·exact h.2.1 e
 ·exact h.2.2 e
theorem Out3.off {b r w wb:Nat} (h:Out3 b r w wb):Off b w wb:=h.2
theorem Out3.mv {b r w wb wb' s:Nat} (h:Out3 b r w wb) (hb:b < s) (hm:wb'=wb∨s≤wb'):Out3 b r w wb':=⟨h.1,h.2.1,by have:=h.2.2; omega⟩
section
variable {m m1 m2:Mem} {r c w b c1 b1 b2:Nat} {ch ch1 ch2:List (Nat×Nat)}
theorem Gen.refl (h:Gen m r c w b ch):GOp m r w b m c b ch:=⟨h,.inl rfl,Fr.refl _ _⟩
theorem Gen.rlo (h:Gen m r c w b ch):r < m.size:=h.rd.lo
theorem Gen.wlo (h:Gen m r c w b ch):w < m.size:=h.wr.lo
theorem Gen.blo (h:Gen m r c w b ch):b < m.size:=h.wr.lob
theorem Gen.wol (g:Gen m r c w b ch) (h:WOL m w b m1 b1 ch1):GOp m r w b m1 c b1 ch1:=by
 have h1:=g.rw
 have h2:=g.rb
 have h3:=g.rlo
 refine ⟨⟨g.rd.fr h.fr fun i j hi=>?_,h.wrl,h1,?_⟩,h.mv,h.fr.mono fun _ _ h=>.inr h⟩
 ·rintro (e | e) <;> omega
 ·rcases h.mv with e | e <;> omega
theorem Gen.pick (g:Gen m r c w b ch) (h:RdM m1 r c1) (f:Fr (RS r) m m1):GOp m r w b m1 c1 b ch:=
 ⟨⟨h,WrM.fr g.wr f (fun j=>rs_old g.rw j) fun j=>rs_old g.rb j,g.rw,g.rb⟩,.inl rfl,f.mono fun _ _ h=>.inl h⟩
theorem Gen.fresh (g:Gen m r c w b ch) (f:∀ S,Fr S m m1):GOp m r w b m1 c b ch:=⟨⟨g.rd.fresh f,WrM.fresh g.wr f,g.rw,g.rb⟩,.inl rfl,f _⟩
theorem GOp.trans (g:GOp m r w b m1 c1 b1 ch1) (h:GOp m1 r w b1 m2 c b2 ch2):GOp m r w b m2 c b2 ch2:=by
 have hs:=g.fr.size
 refine ⟨h.gen,?_,?_⟩
 ·rcases h.mv with rfl | e
  ·exact g.mv
  ·exact .inr (by omega)
 ·have F:Fr (fun i j=>GS r w b i j∨GS r w b1 i j) m m2:=(g.fr.mono fun i j h=>.inl h).trans (h.fr.mono fun i j h=>.inr h)
  refine Fr.old F ?_
  rintro i j hi (h1 | h1 | h1 | h1)
  ·exact h1
  ·exact .inl h1
  ·exact .inr (.inl h1)
  ·rcases g.mv with h2 | h2
   ·exact .inr (.inr (by omega))
   ·omega
theorem GOp.mono (g:GOp m r w b m1 c1 b1 ch1) (hc:c1≤c):GOp m r w b m1 c b1 ch1:=⟨⟨g.gen.rd.mono hc,g.gen.wr,g.gen.rw,g.gen.rb⟩,g.mv,g.fr⟩
theorem GOp.wol (g:GOp m r w b m1 c1 b1 ch1) (h:WOL m1 w b1 m2 b2 ch2):GOp m r w b m2 c1 b2 ch2:=g.trans (g.gen.wol h)
theorem GOp.fresh (g:GOp m r w b m1 c1 b1 ch1) (f:∀ S,Fr S m1 m2):GOp m r w b m2 c1 b1 ch1:=g.trans (g.gen.fresh f)
theorem GOp.pick (g:GOp m r w b m1 c1 b1 ch1) (h:RdM m2 r c) (f:Fr (RS r) m1 m2):GOp m r w b m2 c b1 ch1:=g.trans (g.gen.pick h f)
theorem appendN_W {a a2:Option Addr} {l k b o l2 k2 b2 o2:Nat} {d ys:List Nat} (hO:NumI m a l k b o d) (hS:SlcI m a2 l2 k2 b2 o2 ys) (hbig:l+l2≤1048576) {K:Value→Mem→Prop}
  (hk:∀ m' a' k' b' o',NumI m' a' (l+l2) k' b' o' (d++ys)→((b'=b∧k'=k)∨m.size≤b')→Fr (fun x _=>x=b∧0 < k) m m'→K (.slice a' (l+l2) k') m'):
  SemW PP (builtin .append #[t_s_int,t_s_int] t_s_int #[false,false] #[.slice a l k,.slice a2 l2 k2]) m (NextW PP K):=by
 obtain ⟨iu,hi⟩:=one_int
 have hl2:=hS.len
 refine append_Q (d2:=.slice t_int) u_s_int u_s_int (by intro k h; cases h) hi.info hi.zero (by rw [hi.size]; decide) (by rw [hi.size]; rfl) b o b2 o2 (d.map i64V) (ys.map i64V) (by rw [hi.size]; exact hO) (by rw [hi.size]; simpa using hl2) ?_ (fun hne=>hS.at_ ?_) ?_ (by rw [hi.bytes]; omega) (by rw [hi.bytes]; decide) ?_
 ·intro x hx
  obtain ⟨y,_,rfl⟩:=List.mem_map.1 hx
  rfl
 ·rcases Nat.eq_zero_or_pos l2 with h | h
  ·rw [h] at hl2
   rw [List.eq_nil_of_length_eq_zero hl2] at hne
   exact absurd rfl hne
  ·exact h
 ·intro i x hx
  rw [List.getElem?_map] at hx
  cases hg:ys[i]? with
  | none=>rw [hg] at hx; cases hx
  | some y=>
   rw [hg] at hx
   simp only [Option.map_some,Option.some.injEq] at hx
   subst hx
   exact hS.data i y hg
 ·intro m' a' k' b' o' hown hb hf h0 _
  rw [hi.size] at hown
  refine hk m' a' k' b' o' ?_ ?_ hf
  ·show Own _ _ _ _ _ _ _ _
   rw [List.map_append]; exact hown
  ·rcases hb with ⟨rfl,_,rfl⟩ | ⟨rfl,_⟩
   ·exact .inl ⟨rfl,rfl⟩
   ·exact .inr (Nat.le_refl _)
theorem build0I_W {K:Value→Mem→Prop} (h:K (.slice (some ⟨m.size,0,none⟩) 0 0) (m.push (.cells #[] t_int))):
  SemW PP (sv (Instr.buildSlice t_s_int 0 #[])) m (NextW PP K):=Eq.mpr (by kernel_rfl) h
theorem run_store {a:Addr} {v1 v2 v3:Value} {K:Mem→Prop} (h:SemW PP (storeCells a [v1,v2,v3] 0) m fun _ m'=>K m'):StAgg PP t_spec_run m a (.agg #[v1,v2,v3]) K:=Eq.mpr (by kernel_rfl) h
theorem take_run_W {x:Run3} {K:Nat→Mem→Prop}
  (hk:∀ m' n,(∀ S,Fr S m m')→m.size≤n→n < m'.size→cell? m' ⟨n,0,none⟩=some (.int .i64 (x.1:Int))→cell? m' ⟨n,1,none⟩=some (.int .i64 (x.2.1:Int))→cell? m' ⟨n,2,none⟩=some (.int .i64 (x.2.2:Int))→K n m'):
  AllocW PP t_spec_run m fun n18 m19=>StAgg PP t_spec_run m19 ⟨n18,0,none⟩ (.agg #[.int .i64 (x.1:Int),.int .i64 (x.2.1:Int),.int .i64 (x.2.2:Int)]) fun m20=>K n18 m20:=by
 refine alloc_W z_run ?_
 have w0:∀ j,j < 3→Wr (m.push (.cells #[.int .i64 0,.int .i64 0,.int .i64 0] t_spec_run)) ⟨m.size,j,none⟩:=fun j hj=>wr_new (by simpa using hj)
 have f1:∀ S,Fr S m (m.push (.cells #[.int .i64 0,.int .i64 0,.int .i64 0] t_spec_run)):=fun S=>Fr.push _
 show StAgg PP t_spec_run (m.push (.cells #[.int .i64 0,.int .i64 0,.int .i64 0] t_spec_run)) _ _ _
 generalize m.push (.cells #[.int .i64 0,.int .i64 0,.int .i64 0] t_spec_run)=m1 at w0 f1 ⊢
 refine run_store (Row.storeCells (vs:=runV x) (i:=0) (by intro v hv; unfold runV at hv; simp at hv; rcases hv with rfl | rfl | rfl <;> rfl) (fun j hj=>by simpa using w0 j hj) fun m2 h1 h2 _=>?_)
 have c0:cell? m2 ⟨m.size,0,none⟩=some (.int .i64 (x.1:Int)):=by have:=h1 0 _ rfl; simpa using this
 refine hk m2 m.size (fun S=>?_) (Nat.le_refl _) (by have:=cell_block c0; simpa using this) c0 (by have:=h1 1 _ rfl; simpa using this) (by have:=h1 2 _ rfl; simpa using this)
 refine Fr.old ((f1 _).trans h2) ?_
 rintro x y hx ⟨rfl,_⟩; omega
theorem OrderW_spec {R:Value→Mem→Prop} (hk:∀ m',(∀ (i v:Nat),clOrder[i]?=some v→cell? m' ⟨m.size,i,none⟩=some (.int .i64 (v:Int)))→(∀ S,Fr S m m')→m.size < m'.size→R (.slice (some ⟨m.size,0,none⟩) 19 19) m'):CallM PP f_spec_Order #[] m R:=by
 refine e_spec_Order m R ?_
 have key:∀ {K:Value→Mem→Prop},K (.slice (some ⟨m.size,0,none⟩) 19 19) (m.push (.cells ((clOrder.map fun v:Nat=>Value.int .i64 ((v:Nat):Int)).toArray) t_int))→
   SemW PP (sv (Instr.buildSlice t_s_int 19 #[(0,.int .i64 16),(1,.int .i64 17),(2,.int .i64 18),(3,.int .i64 0),(4,.int .i64 8),(5,.int .i64 7),(6,.int .i64 9),(7,.int .i64 6),(8,.int .i64 10),(9,.int .i64 5),(10,.int .i64 11),(11,.int .i64 4),(12,.int .i64 12),(13,.int .i64 3),(14,.int .i64 13),(15,.int .i64 2),(16,.int .i64 14),(17,.int .i64 1),(18,.int .i64 15)])) m (NextW PP K):=fun h=>Eq.mpr (by kernel_rfl) h
 refine key ⟨_,_,_,rfl,hk _ (fun i v hv=>?_) (fun S=>Fr.push _) (by simp)⟩
 refine cell_new ?_
 simp [hv]
theorem chLen_runs {own:List Nat} (h7:∀ v ∈ own,v≤7):∀ {xs:List Run3},(∀ x ∈ xs,x.2.2≤7)→chLen (runCh own xs)≤14 * xs.length
 | [],_=>by simp [runCh,chLen]
 | x::xs,h=>by
  have h1:=chLen_runs h7 (xs:=xs) fun y hy=>h y (List.mem_cons_of_mem _ hy)
  have h2:=h x (List.mem_cons_self ..)
  have h3:ln own x.1≤7:=by
   by_cases h0:ln own x.1=0
   ·omega
   ·exact h7 _ (List.mem_of_getElem? (ln_mem h0).2)
  unfold runCh at h1 ⊢
  have e:chLen [sy own x.1,(x.2.1,x.2.2)]=ln own x.1+x.2.2:=by simp [chLen,sy]
  rw [List.flatMap_cons,chLen_append,e,List.length_cons]
  omega
end
end Go.M

namespace Go.M
open Go
set_option maxRecDepth 100000
section
variable {m:Mem} {r c w b:Nat} {ch:List (Nat×Nat)}
structure HeadOf (L D own:List Nat) (many:Nat) (rs:List (Nat×Nat)):Prop where
 len:own.length=19
 le7:∀ v ∈ own,v≤7
 full:Full own
 m4:4≤many
 m19:many≤19
 zero:∀ s,s < 19→many≤clOrder.idxOf s→ln own s=0
 runs:RunsAre own [] rs (L++D)
 size:chLen rs≤14 * (L.length+D.length)
theorem HeadOf.ok {L D own:List Nat} {many:Nat} {rs:List (Nat×Nat)} (h:HeadOf L D own many rs):okL own=true:=full_ok h.full
def headCh (L D own:List Nat) (many:Nat) (rs:List (Nat×Nat)):List (Nat×Nat):=
 (L.length - 257,5)::(D.length - 1,5)::(many - 4,4)::((clOrder.take many).map (fun k=>(ln own k,3))++rs)
theorem lengths_spec (g:Gen m r c w b ch) {aL:Option Addr} {lL kL bL oL:Nat} {L:List Nat} (hL:SlcI m aL lL kL bL oL L) {aD:Option Addr} {lD kD bD oD:Nat} {D:List Nat} (hD:SlcI m aD lD kD bD oD D)
  (h15:∀ v ∈ L,v≤15) (h15':∀ v ∈ D,v≤15) (hl1:257≤lL) (hl2:lL≤286) (hd1:1≤lD) (hd2:lD≤30) (hc:c+10000 < 1099511627776) (hn:chLen ch+10000 < 1099511627776) {R:Value→Mem→Prop}
  (hk:∀ m' b' own many rs,HeadOf L D own many rs→GOp m r w b m' (c+3000) b' (ch++headCh L D own many rs)→R (.tuple #[]) m'):
  CallM PP f_Writer_lengths #[.pointer (some ⟨w,0,none⟩),.pointer (some ⟨r,0,none⟩),.slice aL lL kL,.slice aD lD kD] m R:=by
 have hrl:=g.rlo
 have hlenL:=hL.len
 have hlenD:=hD.len
 refine e_Writer_lengths w _ aL lL kL aD lD kD m R (build0I_W ⟨_,_,_,rfl,?_⟩)
 have f1:∀ S,Fr S m (m.push (.cells #[] t_int)):=fun S=>Fr.push _
 have s1:(m.push (.cells #[] t_int)).size=m.size+1:=Array.size_push ..
 generalize m.push (.cells #[] t_int)=m1 at f1 s1 ⊢
 have hE:NumI m1 (some ⟨m.size,0,none⟩) 0 0 m.size 0 []:=⟨rfl,Nat.le_refl _,by omega,fun i v h=>by simp at h,fun i h=>by omega⟩
 refine appendN_W hE (hL.old f1) (by omega) fun m2 a2 k2 b2 o2 hN2 hb2 f2=>⟨_,_,_,rfl,?_⟩
 rw [Nat.zero_add,List.nil_append] at hN2
 rw [Nat.zero_add]
 have F2:∀ S,Fr S m m2:=fun S=>((f1 _).trans f2).old fun x y hx h=>by have:=h.2; omega
 have s2:=f2.size
 have hb2m:m.size≤b2:=by omega
 refine appendN_W hN2 (hD.old F2) (by omega) fun m3 a3 k3 b3 o3 hN3 hb3 f3=>⟨_,_,_,rfl,?_⟩
 have F3:∀ S,Fr S m m3:=fun S=>((F2 _).trans f3).old fun x y hx h=>by have:=h.1; omega
 have s3:=f3.size
 have hb3m:m.size≤b3:=by omega
 have g3:GOp m r w b m3 c b ch:=g.refl.fresh F3
 refine runs_spec g3.gen.rd (by omega) hN3.slc (by omega) (fun v hv=>?_) (by omega) fun m4 a4 l4 k4 b4 o4 xs hX hseq hl4 hb4 h4 f4=>⟨_,_,_,rfl,?_⟩
 ·rcases List.mem_append.1 hv with hv | hv
  ·exact h15 v hv
  ·exact h15' v hv
 have g4:GOp m r w b m4 (c+3 * (lL+lD)) b ch:=g3.pick h4 f4
 have hXl:=hX.len
 have s4:=f4.size
 have hxk:=hseq.k
 refine marks_W (n:=19) (by rfl) (by decide) fun m5 hM f5 s5=>⟨_,_,_,rfl,?_⟩
 have g5:=g4.fresh f5
 have hX5:=hX.fr (f5 fun _ _=>False) fun _ _=>id
 have hmk:m.size≤m4.size:=g4.fr.size
 have hX4lt:0 < k4→b4 < m4.size:=hX.lt
 generalize hbM:m4.size=bM at *
 rw [q_Writer_lengths_rrlrl]
 refine loopW ffOk mixedOk (L₀:=L_Writer_lengths) (σ:=Nat×List Bool) [0,1,2,3,8,9,27,28,29]
  (fun s=>[(0,.pointer (some ⟨w,0,none⟩)),(1,.pointer (some ⟨r,0,none⟩)),(2,.slice aL lL kL),(3,.slice aD lD kD),(8,.slice a4 l4 k4),(9,.slice (some ⟨bM,0,none⟩) 19 19),(27,.slice a4 l4 k4),(28,.int .i64 (l4:Int)),(29,.int .i64 (s.1:Nat))])
  (fun s m'=>s.1≤l4∧Mrk m' bM 19 s.2∧(∀ j x,j < s.1→xs[j]?=some x→s.2[x.1]?=some true)∧Fr (fun x _=>bM≤x) m5 m') (fun s=>l4 - s.1) (0,List.replicate 19 false) rfl
  ⟨Nat.zero_le _,hM,by intro j x hj; simp only at hj; omega,Fr.refl _ _⟩ ?_
 rintro ⟨i,A⟩ m6 ⟨hi,hA,hAx,f6⟩
 simp only at hi hA hAx
 have hAl:=hA.len
 have hX6:=hX5.fr f6 fun h0 j=>by have:=hX4lt h0; omega
 refine p_Writer_lengths_rrlrll w _ aL lL kL aD lD kD a4 l4 k4 _ 19 19 a4 l4 k4 l4 i m6 _ ?_
 by_cases hil:i < l4
 ·rw [decide_eq_true (by omega)]
  have hget:xs[i]?=some (xs[i]'(by omega)):=List.getElem?_eq_getElem (by omega)
  generalize xs[i]'(by omega)=x at hget
  obtain ⟨d1,d2,d3⟩:=hX6.get hget
  have hx19:=(hxk x (List.mem_of_getElem? hget)).1
  have hat:=Own.at_ hX6 (by have:=Own.le hX6; omega)
  refine ifB_t ?_
  subst hat
  refine ⟨⟨by omega,by omega⟩,(x.1:Int),(x.2.1:Int),(x.2.2:Int),rfl,⟨?_,?_,?_,trivial⟩,?_⟩
  ·rw [show aplus (aplus ⟨b4,o4,none⟩ ((i:Int).toNat * 3)) 0=⟨b4,o4+i * 3,none⟩ by simp [aplus]]; exact d1
  ·rw [show aplus (aplus ⟨b4,o4,none⟩ ((i:Int).toNat * 3)) (0+1)=⟨b4,o4+i * 3+1,none⟩ by simp [aplus,Nat.add_assoc]]; exact d2
  ·rw [show aplus (aplus ⟨b4,o4,none⟩ ((i:Int).toNat * 3)) (0+1+1)=⟨b4,o4+i * 3+2,none⟩ by simp [aplus,Nat.add_assoc]]; exact d3
  refine take_run_W fun m7 nn f7 hn1 hn2 e0 e1 e2=>⟨_,e0,⟨by omega,by omega⟩,?_⟩
  rw [Int.toNat_natCast,aplusZ,wrap_succ (by omega)]
  have hA7:=hA.fresh f7
  refine StW.at rfl (hA7.wr x.1 (by omega)) fun m8 c8 f8 _=>⟨(i+1,A.set x.1 true),rfl,⟨by simp only; omega,hA7.set (by omega) c8 f8,fun j y hj hy=>?_,f6.trans ((f7 _).trans (f8.mono fun x _ h=>by have:=h.1; omega))⟩,by simp only; omega⟩
  by_cases e:j=i
  ·subst e
   rw [hget] at hy
   simp only [Option.some.injEq] at hy
   subst hy
   rw [List.getElem?_set_self (by omega)]
  ·exact mark_set (hAx j y (by simp only at hj; omega) hy)
 rw [decide_eq_false (by omega)]
 have hil':i=l4:=by omega
 subst hil'
 have hAall:∀ x ∈ xs,A[x.1]?=some true:=fun x hx=>by
  obtain ⟨j,hj,he⟩:=List.getElem_of_mem hx
  exact hAx j x (by omega) (by rw [List.getElem?_eq_getElem hj,he])
 have g6:GOp m r w b m6 (c+3 * (lL+lD)) b ch:=by
  have hg5:=g5.gen
  have q1:=hg5.rw
  have q2:=hg5.rb
  have q3:=g.wlo
  have q4:=g.blo
  refine ⟨⟨hg5.rd.fr f6 fun x y hx=>by omega,WrM.fr hg5.wr f6 (fun j=>by omega) fun j=>by omega,q1,q2⟩,.inl rfl,(g5.fr.mono (S':=fun x _=>GS r w b x 0∨bM≤x) fun x y h=>.inl h).trans (f6.mono fun x y h=>.inr h) |>.old fun x y hx h=>?_⟩
  rcases h with h | h
  ·exact h
  ·omega
 refine ifB_f (WPS.piece [0,1,2,3,8,9] rfl (p_Writer_lengths_rrr w _ aL lL kL aD lD kD a4 i k4 _ 19 19 m6 _ ?_))
 have s6:=f6.size
 refine lengthsOf_spec g6.gen.rd (by omega) hA (by omega) (by decide) (by decide) (most:=7) (by decide) (by decide) (by decide) fun m7 bo own hO hF hle hon hbo h7 f7=>⟨_,_,_,rfl,?_⟩
 have g7:GOp m r w b m7 (c+2500) b ch:=(g6.pick h7 f7).mono (by omega)
 have hol:=hO.len
 have hX7:=hX6.fr f7 fun h0 j=>rs_old (by have:=hb4 h0; omega) j
 have s7:=f7.size
 have hblt:bo < m7.size:=hO.lt (by decide)
 rw [q_Writer_lengths_rrrrrll]
 refine loopW ffOk mixedOk (L₀:=L_Writer_lengths) (σ:=Nat) [0,2,3,8,12,13]
  (fun many=>[(0,.pointer (some ⟨w,0,none⟩)),(2,.slice aL lL kL),(3,.slice aD lD kD),(8,.slice a4 i k4),(12,.slice (some ⟨bo,0,none⟩) 19 19),(13,.int .i64 (many:Nat))])
  (fun many m'=>4≤many∧many≤19∧(∀ s,s < 19→many≤clOrder.idxOf s→ln own s=0)∧∀ S,Fr S m7 m') (fun many=>many) 19 rfl ⟨by decide,by decide,fun s hs h=>by have:=(clOrder_idx hs).2; omega,fun S=>Fr.refl _ _⟩ ?_
 rintro many m8 ⟨hm4,hm19,hmz,f8⟩
 have hO8:=hO.fr (f8 fun _ _=>False) fun _ _=>id
 have hX8:=hX7.fr (f8 fun _ _=>False) fun _ _=>id
 have g8:=g7.fresh f8
 have s8:=(f8 fun _ _=>False).size
 refine p_Writer_lengths_rrrrrlll w aL lL kL aD lD kD a4 i k4 _ 19 19 many m8 _ ?_
 have fin:∀ m9,(∀ S,Fr S m8 m9)→WPS PP 112 c_Writer_lengths_rrrrrr (retK PP r_Writer_lengths R) [(0,.pointer (some ⟨w,0,none⟩)),(2,.slice aL lL kL),(3,.slice aD lD kD),(8,.slice a4 i k4),(12,.slice (some ⟨bo,0,none⟩) 19 19),(13,.int .i64 (many:Int))] m9:=by
  intro m9 f9
  have g9:=g8.fresh f9
  have hO9:=hO8.fr (f9 fun _ _=>False) fun _ _=>id
  have hX9:=hX8.fr (f9 fun _ _=>False) fun _ _=>id
  have s9:=(f9 fun _ _=>False).size
  refine WPS.piece [0,2,3,8,12,13] rfl (p_Writer_lengths_rrrrrr w aL lL kL aD lD kD a4 i k4 _ 19 19 many m9 _ ?_)
  rw [show IntKind.wrap .i64 ((lL:Int) - 257)=((lL - 257:Nat):Int) by rw [wrap64_id (by omega) (by omega)]; omega,show IntKind.wrap .i64 ((lD:Int) - 1)=((lD - 1:Nat):Int) by rw [wrap64_id (by omega) (by omega)]; omega,show IntKind.wrap .i64 ((many:Int) - 4)=((many - 4:Nat):Int) by rw [wrap64_id (by omega) (by omega)]; omega]
  refine Bits_spec g9.gen.wr (v:=lL - 257) (k:=5) (by omega) (by decide) (by omega) fun m10 b10 W10=>⟨rfl,?_⟩
  have g10:=g9.wol W10
  have l10:=chLen_snoc ch (lL - 257) 5
  refine Bits_spec g10.gen.wr (v:=lD - 1) (k:=5) (by omega) (by decide) (by omega) fun m11 b11 W11=>⟨rfl,?_⟩
  have g11:=g10.wol W11
  have l11:=chLen_snoc (ch++[(lL - 257,5)]) (lD - 1) 5
  refine Bits_spec g11.gen.wr (v:=many - 4) (k:=4) (by omega) (by decide) (by omega) fun m12 b12 W12=>⟨rfl,?_⟩
  have g12:=g11.wol W12
  have l12:=chLen_snoc (ch++[(lL - 257,5)]++[(lD - 1,5)]) (many - 4) 4
  have W912:=(W10.trans W11).trans W12
  have q1:=g.wlo
  have q2:=g.blo
  have q3:=g.rw
  have q4:=g.rb
  have hmm9:=g9.fr.size
  have f912:Fr (fun x _=>x=w∨x=b) m9 m12:=W912.fr
  have hO12:=hO9.fr f912 fun _ j=>by omega
  have hX12:=hX9.fr f912 fun h0 j=>by have:=hb4 h0; have:=hX4lt h0; omega
  have s12:=f912.size
  generalize hc12:ch++[(lL - 257,5)]++[(lD - 1,5)]++[(many - 4,4)]=c12 at l12 g12
  refine OrderW_spec fun m13 hord f13 s13=>⟨_,_,_,rfl,Nat.le_refl _,⟨by omega,by omega⟩,?_⟩
  have g13:=g12.fresh f13
  have hO13:=hO12.fr (f13 fun _ _=>False) fun _ _=>id
  have hX13:=hX12.fr (f13 fun _ _=>False) fun _ _=>id
  have hb12:=g12.gen.blo
  rw [Int.toNat_natCast]
  rw [q_Writer_lengths_rrrrrrrrrlrl]
  generalize hB:m12.size=B at *
  refine loopW ffOk mixedOk (L₀:=L_Writer_lengths) (σ:=Nat×Nat) [0,8,12,72,73,74]
   (fun s=>[(0,.pointer (some ⟨w,0,none⟩)),(8,.slice a4 i k4),(12,.slice (some ⟨bo,0,none⟩) 19 19),(72,.slice (some ⟨B,0,none⟩) many 19),(73,.int .i64 (many:Int)),(74,.int .i64 (s.1:Nat))])
   (fun s m'=>s.1≤many∧WOL m13 w b12 m' s.2 (c12++(clOrder.take s.1).map fun k=>(ln own k,3))) (fun s=>many - s.1) (0,b12) rfl ⟨Nat.zero_le _,by simpa using WOL.refl g13.gen.wr⟩ ?_
  rintro ⟨j,b14⟩ m14 ⟨hj,W14⟩
  simp only at hj W14
  have hb12w:b12=b∨m9.size≤b12:=W912.mv
  have hO14:=hO13.fr W14.fr fun _ j=>by
   rintro (e | e) <;> omega
  have hX14:=hX13.fr W14.fr fun h0 j=>by
   have:=hb4 h0; have:=hX4lt h0
   rintro (e | e) <;> omega
  refine p_Writer_lengths_rrrrrrrrrlrll w a4 i k4 _ 19 19 _ many 19 many j m14 _ ?_
  have hchl:chLen (c12++(clOrder.take j).map fun k=>(ln own k,3))=chLen c12+3 * j:=by
   rw [chLen_append,chLen_three,List.length_take]
   have:clOrder.length=19:=rfl
   omega
  by_cases hjm:j < many
  ·rw [decide_eq_true (by omega)]
   obtain ⟨v,hv1,hv2,_⟩:=clOrder_get (show j < 19 by omega)
   have hco:=W14.fr.cell (hord j v hv1) (by rintro (e | e) <;> simp only at e <;> omega)
   have hown:ln own v < 8:=by
    by_cases h0:ln own v=0
    ·omega
    ·have:=hle _ (List.mem_of_getElem? (ln_mem h0).2); omega
   refine ifB_t ⟨⟨by omega,by omega⟩,(v:Int),?_,⟨by omega,by omega⟩,_,cellB (hO14.slc.data v _ (ln_of (by omega))),?_⟩
   ·rw [Int.toNat_natCast,aplusZ]; exact hco
   rw [wrap_succ (by omega)]
   refine Bits_spec W14.wrl (v:=ln own v) (k:=3) (by omega) (by decide) (by omega) fun m15 b15 W15=>⟨rfl,(j+1,b15),rfl,⟨by simp only; omega,?_⟩,by simp only; omega⟩
   simp only
   have ht:clOrder.take (j+1)=clOrder.take j++[v]:=by rw [List.take_add_one,hv1]; rfl
   rw [ht,List.map_append, ← List.append_assoc]
   exact W14.trans W15
  rw [decide_eq_false (by omega)]
  have hjm':j=many:=by omega
  subst hjm'
  have g14:=g13.wol W14
  refine ifB_f (WPS.piece [0,8,12] rfl (p_Writer_lengths_rrrrrrrrrr w a4 i k4 _ 19 19 m14 _ ?_))
  have ho15:∀ v ∈ own,v≤15:=fun v hv=>by have:=hle v hv; omega
  refine Codes_spec hO14.slc ho15 (by decide) fun m15 bc hbc hC f15=>⟨_,_,_,rfl,?_⟩
  have g15:=g14.fresh f15
  have hO15:=hO14.fr (f15 fun _ _=>False) fun _ _=>id
  have hX15:=hX14.fr (f15 fun _ _=>False) fun _ _=>id
  have hb14:=g14.gen.blo
  have hw14:=g14.gen.wlo
  have hb14w:b14=b12∨m13.size≤b14:=W14.mv
  have s14:=W14.fr.size
  have s15:=(f15 fun _ _=>False).size
  generalize hc14:c12++(clOrder.take j).map (fun k=>(ln own k,3))=c14 at hchl g15
  rw [q_Writer_lengths_rrrrrrrrrrrrl]
  refine loopW ffOk mixedOk (L₀:=L_Writer_lengths) (σ:=Nat×Nat) [0,12,16,87,88,89]
   (fun s=>[(0,.pointer (some ⟨w,0,none⟩)),(12,.slice (some ⟨bo,0,none⟩) 19 19),(16,.slice (some ⟨bc,0,none⟩) 19 19),(87,.slice a4 i k4),(88,.int .i64 (i:Int)),(89,.int .i64 (s.1:Nat))])
   (fun s m'=>s.1≤i∧WOL m15 w b14 m' s.2 (c14++runCh own (xs.take s.1))) (fun s=>i - s.1) (0,b14) rfl ⟨Nat.zero_le _,by simpa [runCh] using WOL.refl g15.gen.wr⟩ ?_
  rintro ⟨q,b16⟩ m16 ⟨hq,W16⟩
  simp only at hq W16
  have hO16:=hO15.fr W16.fr fun _ j=>by
   rintro (e | e) <;> omega
  have hX16:=hX15.fr W16.fr fun h0 j=>by
   have:=hb4 h0; have:=hX4lt h0
   rintro (e | e) <;> omega
  have hC16:=hC.fr W16.fr fun _ j=>by
   rintro (e | e) <;> omega
  refine p_Writer_lengths_rrrrrrrrrrrrll w _ 19 19 _ 19 19 a4 i k4 i q m16 _ ?_
  by_cases hqi:q < i
  ·rw [decide_eq_true (by omega)]
   have hget:xs[q]?=some (xs[q]'(by omega)):=List.getElem?_eq_getElem (by omega)
   generalize xs[q]'(by omega)=x at hget
   obtain ⟨d1,d2,d3⟩:=hX16.get hget
   obtain ⟨x19,xv,xn⟩:=hxk x (List.mem_of_getElem? hget)
   have hxon:=hon x.1 (hAall x (List.mem_of_getElem? hget))
   have hat:=Own.at_ hX16 (by have:=Own.le hX16; omega)
   have hcw:chLen (c14++runCh own (xs.take q))+14≤chLen c14+14 * i:=by
    rw [chLen_append]
    have:=chLen_runs hle (xs:=xs.take q) fun y hy=>(hxk y (List.mem_of_mem_take hy)).2.2
    rw [List.length_take] at this
    omega
   refine ifB_t ?_
   subst hat
   refine ⟨⟨by omega,by omega⟩,(x.1:Int),(x.2.1:Int),(x.2.2:Int),rfl,⟨?_,?_,?_,trivial⟩,?_⟩
   ·rw [show aplus (aplus ⟨b4,o4,none⟩ ((q:Int).toNat * 3)) 0=⟨b4,o4+q * 3,none⟩ by simp [aplus]]; exact d1
   ·rw [show aplus (aplus ⟨b4,o4,none⟩ ((q:Int).toNat * 3)) (0+1)=⟨b4,o4+q * 3+1,none⟩ by simp [aplus,Nat.add_assoc]]; exact d2
   ·rw [show aplus (aplus ⟨b4,o4,none⟩ ((q:Int).toNat * 3)) (0+1+1)=⟨b4,o4+q * 3+2,none⟩ by simp [aplus,Nat.add_assoc]]; exact d3
   have hb16:=W16.wrl.lob
   have hw16:=W16.wrl.lo
   refine take_run_W fun m17 nn f17 hn1 hn2 e0 e1 e2=>⟨_,e0,⟨by omega,by omega⟩,_,cellB ((hC16.old f17).data x.1 _ (ln_get hxon).2),_,e0,⟨by omega,by omega⟩,_,cellB ((hO16.fr (f17 fun _ _=>False) fun _ _=>id).slc.data x.1 _ (ln_get hxon).1),?_⟩
   have W17:WOL m15 w b14 m17 b16 (c14++runCh own (xs.take q)):=W16.fresh f17
   have h7:ln own x.1≤7:=hle _ (List.mem_of_getElem? (ln_get hxon).1)
   refine code_spec' W17.wrl (cd_small ho15 (by omega) x.1) (by omega) (by omega) fun m18 b18 W18=>⟨rfl,?_⟩
   have l18:=chLen_snoc (c14++runCh own (xs.take q)) (rv (ln own x.1) (cd own x.1)) (ln own x.1)
   refine ⟨_,W18.fr.cell e1 (by rintro (e | e) <;> simp only at e <;> omega),_,W18.fr.cell e2 (by rintro (e | e) <;> simp only at e <;> omega),?_⟩
   rw [wrap_succ (by omega)]
   refine Bits_spec W18.wrl (v:=x.2.1) (k:=x.2.2) xv (by omega) (by omega) fun m19 b19 W19=>⟨rfl,(q+1,b19),rfl,⟨by simp only; omega,?_⟩,by simp only; omega⟩
   simp only
   have ht:runCh own (xs.take (q+1))=runCh own (xs.take q)++[sy own x.1]++[(x.2.1,x.2.2)]:=by
    rw [List.take_add_one,hget]
    unfold runCh
    rw [List.flatMap_append]
    simp
   rw [ht, ← List.append_assoc, ← List.append_assoc]
   exact (W17.trans W18).trans W19
  ·rw [decide_eq_false (by omega)]
   have hq':q=xs.length:=by omega
   rw [hq',List.take_length] at W16
   have g16:=g15.wol W16
   refine ifB_f (hk m16 b16 own j (runCh own xs) ⟨hol,hle,hF,hm4,hm19,hmz,hseq.are fun x hx=>hon _ (hAall x hx),?_⟩ ?_)
   ·have:=chLen_runs hle (xs:=xs) fun y hy=>(hxk y hy).2.2
    have:=hseq.len
    simp only [List.length_nil,List.length_append] at this
    omega
   ·have e:ch++headCh L D own j (runCh own xs)=c14++runCh own xs:=by
     rw [← hc14, ← hc12]
     unfold headCh
     rw [hlenL,hlenD]
     simp only [List.append_assoc,List.cons_append,List.nil_append]
    rw [e]
    exact g16.mono (by omega)
 by_cases h4:4 < many
 ·rw [decide_eq_true (by omega)]
  refine ifB_t (OrderW_spec fun m9 hord f9 s9=>⟨_,_,_,rfl,?_⟩)
  have hO9:=hO8.fr (f9 fun _ _=>False) fun _ _=>id
  obtain ⟨v,hv1,hv2,hv3⟩:=clOrder_get (show many - 1 < 19 by omega)
  rw [show IntKind.wrap .i64 ((many:Int) - 1)=((many - 1:Nat):Int) by rw [wrap64_id (by omega) (by omega)]; omega]
  refine ⟨⟨by omega,by omega⟩,(v:Int),?_,⟨by omega,by omega⟩,_,cellB (hO9.slc.data v _ (ln_of (by omega))),?_⟩
  ·rw [Int.toNat_natCast,aplusZ]; exact hord _ _ hv1
  by_cases h0:ln own v=0
  ·rw [h0]
   refine ifB_t ⟨many - 1,rfl,⟨by omega,by omega,fun s hs hms=>?_,fun S=>(f8 S).trans (f9 S)⟩,by omega⟩
   by_cases e:clOrder.idxOf s=many - 1
   ·have h1:=(clOrder_idx hs).1
    rw [e,hv1] at h1
    simp only [Option.some.injEq] at h1
    rw [← h1]; exact h0
   ·exact hmz s hs (by omega)
  ·have e:(((ln own v:Nat):Int) == 0)=false:=by rw [beq_eq_false_iff_ne]; omega
   rw [e]
   exact ifB_f (fin m9 f9)
 ·rw [decide_eq_false (by omega)]
  exact ifB_f (fin m8 fun S=>Fr.refl _ _)
end
end Go.M

namespace Go.M
open Go
set_option maxRecDepth 100000
section
variable {m:Mem} {r c w b:Nat} {ch:List (Nat×Nat)}
theorem ok_zeros {L:List Nat} (h:∀ v ∈ L,v=0):okL L=true:=by
 have:mxOf L=0:=by
  rcases (mm_spec L).2.2.2.1 with h0 | h0
  ·exact h0
  ·exact h _ h0
 unfold okL
 simp [this]
theorem need_trim {L D:List Nat} {x:It} {n:Nat} (h0:∀ j,n≤j→ln D j=0) (h:NeedL L D x):NeedL L (D.take n) x:=
 ⟨h.1,fun hx=>⟨(h.2 hx).1,fun k hk=>by rw [trim_ln h0]; exact (h.2 hx).2 k hk⟩⟩
theorem need_trimL {L D:List Nat} {x:It} {n:Nat} (h0:∀ j,n≤j→ln L j=0) (h:NeedL L D x):NeedL (L.take n) D x:=
 ⟨fun hx=>by rw [trim_ln h0]; exact h.1 hx,fun hx=>⟨fun k hk=>by rw [trim_ln h0]; exact (h.2 hx).1 k hk,(h.2 hx).2⟩⟩
theorem dynamic_specN (g:Gen m r c w b ch) {a:Option Addr} {l k bi o:Nat} {its:List It} (hI:SlcT m a l k bi o its) (hbi:0 < l→Out3 bi r w b) (fin:Bool) (H:List Nat) (hv:VIts H.length its) (hl:l≤1000) (hc:c+20000 < 1099511627776) (hn:chLen ch+200000 < 1099511627776) {R:Value→Mem→Prop}
  (hk:∀ m' b' pc,(∃ rest,pc=(fl fin+4,3)::rest)→BlkX (chLen ch) H pc (givs H its) fin→(fin=true→BlkN (chLen ch) H pc)→chLen pc≤60 * l+6000→GOp m r w b m' (c+6000) b' (ch++pc)→R (.tuple #[]) m'):
  CallM PP f_Writer_dynamic #[.pointer (some ⟨w,0,none⟩),.pointer (some ⟨r,0,none⟩),.slice a l k,.bool fin] m R:=by
 have hrl:=g.rlo
 have hlenI:=hI.len
 refine e_Writer_dynamic w _ a l k fin m R (needs_spec hI hv (by omega) fun m1 bA bB A B hA hB hbA hbB _ h256 hM f1=>⟨_,_,_,_,_,_,rfl,?_⟩)
 have g1:=g.refl.fresh f1
 have s1:=g1.fr.size
 refine lengthsOf_spec g1.gen.rd (by omega) hA (by omega) (by decide) (by decide) (most:=15) (by decide) (by decide) (by decide) fun m2 bL LL hL hLF hL15 hLA hbL h2 f2=>⟨_,_,_,rfl,?_⟩
 have g2:=g1.pick h2 f2
 have hLl:=hL.len
 have s2:=f2.size
 refine trimmed_spec g2.gen.rd (by omega) hL.slc (least:=257) (by decide) (by decide) fun m3 nL hnL1 hnL2 hnL3 h3 f3=>⟨_,_,_,rfl,?_⟩
 have g3:=g2.pick h3 f3
 have s3:=f3.size
 have hLS3:SlcI m3 _ nL 286 bL 0 (LL.take nL):=(hL.slc.take hnL2).fr f3 fun _ j=>rs_old (by omega) j
 have hB3:=((hB.fr f2 fun j=>rs_old (by omega) j).fr f3 fun j=>rs_old (by omega) j)
 have hbLlt:bL < m2.size:=hL.lt (by decide)
 refine lengthsOf_spec g3.gen.rd (by omega) hB3 (by omega) (by decide) (by decide) (most:=15) (by decide) (by decide) (by decide) fun m4 bD DD hD hDF hD15 hDB hbD h4 f4=>⟨_,_,_,rfl,?_⟩
 have g4:=g3.pick h4 f4
 have s4:=f4.size
 have hLS4:=hLS3.fr f4 fun _ j=>rs_old (by omega) j
 have hDl:=hD.len
 have hI4:SlcT m4 a l k bi o its:=hI.fr g4.fr fun h0=>(hbi h0).gs
 have hLen:(LL.take nL).length=nL:=by rw [List.length_take]; omega
 have hL15':∀ v ∈ LL.take nL,v≤15:=fun v hv=>hL15 v (List.mem_of_mem_take hv)
 have hLFull:Full (LL.take nL):=trim_full hL15 hLF hnL3
 have he256:ln (LL.take nL) 256≠0:=by rw [trim_ln hnL3]; exact hLA _ h256
 have last:∀ m5 c5 aD kD bD' DD',GOp m r w b m5 c5 b ch→c5+1≤c+2900→SlcI m5 aD 30 kD bD' 0 DD'→m.size≤bD'→(∀ v ∈ DD',v≤15)→(∀ n,(∀ j,n≤j→ln DD' j=0)→okL (DD'.take n)=true)→(∀ x ∈ its,NeedL LL DD' x)→SlcI m5 (some ⟨bL,0,none⟩) nL 286 bL 0 (LL.take nL)→∀ bflag,
   WPS PP 67 c_Writer_dynamic_rrrrrr (retK PP r_Writer_dynamic R) [(0,.pointer (some ⟨w,0,none⟩)),(1,.pointer (some ⟨r,0,none⟩)),(2,.slice a l k),(3,.bool fin),(10,.slice (some ⟨bL,0,none⟩) nL 286),(11,.slice aD 30 kD),(12,.bool bflag)] m5:=by
  intro m5 c5 aD kD bD' DD' g5 hc5 hD5 hbD5 hD15' hok hneed hLS5 bflag
  have hD5l:=hD5.len
  have s5:=g5.fr.size
  have q1:=g.wlo
  have q2:=g.blo
  have q3:=g.rw
  have q4:=g.rb
  have hbD5lt:=hD5.lo (by decide)
  have hbL5lt:=hLS5.lo (by omega)
  refine WPS.piece [0,1,2,3,10,11] rfl (p_Writer_dynamic_rrrrrr w _ a l k fin _ nL 286 aD 30 kD m5 _ ?_)
  refine trimmed_spec g5.gen.rd (by omega) hD5 (least:=1) (by decide) (by decide) fun m6 nD hnD1 hnD2 hnD3 h6 f6=>⟨_,_,_,rfl,?_⟩
  have g6:=g5.pick h6 f6
  have s6:=f6.size
  have hDS6:SlcI m6 aD nD kD bD' 0 (DD'.take nD):=(hD5.take hnD2).fr f6 fun _ j=>rs_old (by omega) j
  have hLS6:=hLS5.fr f6 fun _ j=>rs_old (by omega) j
  refine flag_spec fin ⟨_,rfl,rfl,?_⟩
  have hor:bitsOp .or .i64 ((fl fin:Nat):Int) 4=((fl fin+4:Nat):Int):=by cases fin <;> decide
  rw [hor]
  have q5:=g6.gen.blo
  refine Bits_spec g6.gen.wr (v:=fl fin+4) (k:=3) (by cases fin <;> decide) (by decide) (by omega) fun m7 b7 W7=>⟨rfl,?_⟩
  have g7:=g6.wol W7
  have l7:=chLen_snoc ch (fl fin+4) 3
  have f67:Fr (fun x _=>x=w∨x=b) m6 m7:=W7.fr
  have hDS7:=hDS6.fr f67 fun _ j=>by omega
  have hLS7:=hLS6.fr f67 fun _ j=>by omega
  have s7:=f67.size
  have hb7:b7=b∨m6.size≤b7:=W7.mv
  have hDl':(DD'.take nD).length=nD:=by rw [List.length_take]; omega
  refine lengths_spec g7.gen hLS7 hDS7 hL15' (fun v hv=>hD15' v (List.mem_of_mem_take hv)) hnL1 hnL2 hnD1 hnD2 (by omega) (by omega) fun m8 b8 own many rs hH g8=>⟨rfl,?_⟩
  have g78:=g7.trans g8
  have hb8:b8=b7∨m7.size≤b8:=g8.mv
  have f78:=g8.fr
  have hDS8:=hDS7.fr f78 fun _ j=>by rintro (e | e | e) <;> omega
  have hLS8:=hLS7.fr f78 fun _ j=>by rintro (e | e | e) <;> omega
  have s8:=f78.size
  have hI8:SlcT m8 a l k bi o its:=hI.fr g78.fr fun h0=>(hbi h0).gs
  have hbi8:0 < l→Off bi w b8:=fun h0=>⟨(hbi h0).2.1,by have:=hI.lo h0; have:=(hbi h0).2.2; have:=g78.mv; omega⟩
  have hsz:=hH.size
  rw [hLen,hDl'] at hsz
  have hhl:chLen (headCh (LL.take nL) (DD'.take nD) own many rs)≤14+57+14 * (nL+nD):=by
   unfold headCh
   have h4:=hH.m19
   simp only [chLen,chLen_append,chLen_three,List.length_take]
   have:clOrder.length=19:=rfl
   omega
  have hcl:chLen (ch++[(fl fin+4,3)]++headCh (LL.take nL) (DD'.take nD) own many rs)=chLen (ch++[(fl fin+4,3)])+chLen (headCh (LL.take nL) (DD'.take nD) own many rs):=chLen_append _ _
  refine items_spec g78.gen.wr hI8 hbi8 hLS8 (fun _=>⟨by omega,by omega⟩) hDS8 (fun _=>⟨by omega,by omega⟩) hL15' (fun v hv=>hD15' v (List.mem_of_mem_take hv)) (by omega) (by omega) H hv (fun x hx=>need_trimL hnL3 (need_trim hnD3 (hneed x hx))) he256 (by omega) (by omega) fun m9 b9 pc hIt hpc W9=>⟨rfl,?_⟩
  show R (.tuple #[]) m9
  have hblk:=blkX_dynamic (k:=chLen ch) fin (by rw [hLen]; exact hnL1) (by rw [hLen]; exact hnL2) (by rw [hDl']; exact hnD1) (by rw [hDl']; exact hnD2) hL15' (fun v hv=>hD15' v (List.mem_of_mem_take hv)) hLFull (hok nD hnD3) he256 hH.len hH.le7 hH.ok hH.m4 hH.m19 hH.zero hH.runs hIt.are
  have e:ch++((fl fin+4,3)::((LL.take nL).length - 257,5)::((DD'.take nD).length - 1,5)::(many - 4,4)::((clOrder.take many).map (fun k=>(ln own k,3))++(rs++(pc++[sy (LL.take nL) 256]))))=ch++[(fl fin+4,3)]++headCh (LL.take nL) (DD'.take nD) own many rs++pc++[sy (LL.take nL) 256]:=by
   unfold headCh
   simp only [List.append_assoc,List.cons_append,List.nil_append]
  have hsy:ln (LL.take nL) 256≤15:=ln_15 hL15' 256
  refine hk m9 b9 _ ⟨_,rfl⟩ hblk (fun hf=>?_) ?_ ?_
  ·subst hf
   exact blkN_dynamic (by rw [hLen]; exact hnL1) (by rw [hLen]; exact hnL2) (by rw [hDl']; exact hnD1) (by rw [hDl']; exact hnD2) hL15' (fun v hv=>hD15' v (List.mem_of_mem_take hv)) hLFull (hok nD hnD3) he256 hH.len hH.le7 hH.full hH.m4 hH.m19 hH.zero hH.runs hIt
  ·have e2:=congrArg chLen e
   simp only [chLen_append,chLen,sy] at e2 hhl ⊢
   omega
  ·rw [e]
   exact (g78.wol W9).mono (by omega)
 rw [q_Writer_dynamic_rrrrlrl]
 refine loopW ffOk mixedOk (L₀:=L_Writer_dynamic) (σ:=Nat×Bool) [0,1,2,3,10,11,12,28,29,30]
  (fun s=>[(0,.pointer (some ⟨w,0,none⟩)),(1,.pointer (some ⟨r,0,none⟩)),(2,.slice a l k),(3,.bool fin),(10,.slice (some ⟨bL,0,none⟩) nL 286),(11,.slice (some ⟨bD,0,none⟩) 30 30),(12,.bool s.2),(28,.slice a l k),(29,.int .i64 (l:Int)),(30,.int .i64 (s.1:Nat))])
  (fun s m'=>s.1≤l∧(s.2=false→∀ j x,j < s.1→its[j]?=some x→x.len=0)∧∀ S,Fr S m4 m') (fun s=>l - s.1) (0,false) rfl ⟨Nat.zero_le _,by intro _ j x hj; simp only at hj; omega,fun S=>Fr.refl _ _⟩ ?_
 rintro ⟨i,fg⟩ m5 ⟨hi,hfg,f5⟩
 simp only at hi hfg
 have hI5:=hI4.fr (f5 fun _ _=>False) fun _ _=>id
 have g5:=g4.fresh f5
 have s5:=(f5 fun _ _=>False).size
 refine p_Writer_dynamic_rrrrlrll w _ a l k fin _ nL 286 _ 30 30 fg a l k l i m5 _ ?_
 by_cases hil:i < l
 ·rw [decide_eq_true (by omega)]
  have hget:its[i]?=some (its[i]'(by omega)):=List.getElem?_eq_getElem (by omega)
  generalize its[i]'(by omega)=x at hget
  obtain ⟨d1,d2,d3⟩:=hI5.data i x hget
  have hat:=hI5.at_ (by omega)
  refine ifB_t ?_
  subst hat
  refine ⟨⟨by omega,by omega⟩,(x.b:Int),(x.len:Int),(x.d:Int),rfl,⟨?_,?_,?_,trivial⟩,?_⟩
  ·rw [show aplus (aplus ⟨bi,o,none⟩ ((i:Int).toNat * 3)) 0=⟨bi,o+i * 3,none⟩ by simp [aplus]]; exact d1
  ·rw [show aplus (aplus ⟨bi,o,none⟩ ((i:Int).toNat * 3)) (0+1)=⟨bi,o+i * 3+1,none⟩ by simp [aplus,Nat.add_assoc]]; exact d2
  ·rw [show aplus (aplus ⟨bi,o,none⟩ ((i:Int).toNat * 3)) (0+1+1)=⟨bi,o+i * 3+2,none⟩ by simp [aplus,Nat.add_assoc]]; exact d3
  refine take_item_W fun m6 nn f6 hn1 hn2 e0 e1 e2=>?_
  rw [wrap_succ (by omega)]
  cases fg with
  | true=>exact ifB_t ⟨(i+1,true),rfl,⟨by simp only; omega,by simp,fun S=>(f5 S).trans (f6 S)⟩,by simp only; omega⟩
  | false=>
   refine ifB_f ⟨_,e1,(i+1,decide ((x.len:Int) > 0)),rfl,⟨by simp only; omega,fun h0 j y hj hy=>?_,fun S=>(f5 S).trans (f6 S)⟩,by simp only; omega⟩
   by_cases e:j=i
   ·subst e
    rw [hget] at hy
    simp only [Option.some.injEq] at hy
    subst hy
    have:=of_decide_eq_false h0
    omega
   ·exact hfg rfl j y (by simp only at hj; omega) hy
 rw [decide_eq_false (by omega)]
 have hi':i=l:=by omega
 have hD5:=hD.fr (f5 fun _ _=>False) fun _ _=>id
 have hLS5:=hLS4.fr (f5 fun _ _=>False) fun _ _=>id
 have own:SlcI m5 (some ⟨bD,0,none⟩) 30 30 bD 0 DD:=hD5.slc
 refine ifB_f (WPS.piece [0,1,2,3,10,11,12] rfl (p_Writer_dynamic_rrrrr w _ a l k fin _ nL 286 _ 30 30 fg m5 _ ?_))
 have hok1:∀ n,(∀ j,n≤j→ln DD j=0)→okL (DD.take n)=true:=fun n h0=>full_ok (trim_full hD15 hDF h0)
 have hneed1:∀ x ∈ its,NeedL LL DD x:=fun x hx=>(hM x hx).need hLA hDB
 cases fg with
 | true=>exact ifB_f (last m5 _ _ 30 bD DD g5 (by omega) own (by omega) hD15 hok1 hneed1 hLS5 true)
 | false=>
  refine ifB_t (pick_spec g5.gen.rd (by omega) (n:=2) (by decide) fun m6 q hq h6 f6=>⟨_,rfl,?_⟩)
  have g6:=g5.pick h6 f6
  have hLS6:=hLS5.fr f6 fun _ j=>rs_old (by omega) j
  have s6:=f6.size
  have hDlt:bD < m4.size:=hD.lt (by decide)
  refine ifB_of (fun _=>?_) (fun _=>last m6 _ _ 30 bD DD g6 (by omega) (own.fr f6 fun _ j=>rs_old (by omega) j) (by omega) hD15 hok1 hneed1 hLS6 false)
  refine zerosN_W (n:=30) rfl (by decide) fun m7 hZ f7 s7=>⟨_,_,_,rfl,?_⟩
  refine last m7 _ _ 30 m6.size _ (g6.fresh f7) (by omega) hZ.slc (by omega) (fun v hv=>?_) (fun n _=>ok_zeros fun v hv=>?_) (fun x hx=>?_) (hLS6.fr (f7 fun _ _=>False) fun _ _=>id) false
  ·rw [(List.mem_replicate.1 hv).2]; decide
  ·exact (List.mem_replicate.1 (List.mem_of_mem_take hv)).2
  ·obtain ⟨j,hj,he⟩:=List.getElem_of_mem hx
   exact (hM x hx).need_lit hLA (hfg rfl j x (by omega) (by rw [List.getElem?_eq_getElem hj,he]))
theorem dynamic_spec (g:Gen m r c w b ch) {a:Option Addr} {l k bi o:Nat} {its:List It} (hI:SlcT m a l k bi o its) (hbi:0 < l→Out3 bi r w b) (fin:Bool) (H:List Nat) (hv:VIts H.length its) (hl:l≤1000) (hc:c+20000 < 1099511627776) (hn:chLen ch+200000 < 1099511627776) {R:Value→Mem→Prop}
  (hk:∀ m' b' pc,(∃ rest,pc=(fl fin+4,3)::rest)→BlkX (chLen ch) H pc (givs H its) fin→chLen pc≤60 * l+6000→GOp m r w b m' (c+6000) b' (ch++pc)→R (.tuple #[]) m'):
  CallM PP f_Writer_dynamic #[.pointer (some ⟨w,0,none⟩),.pointer (some ⟨r,0,none⟩),.slice a l k,.bool fin] m R:=
 dynamic_specN g hI hbi fin H hv hl hc hn fun m' b' pc h1 h2 _=>hk m' b' pc h1 h2
end
end Go.M

namespace Go.M
open Go
set_option maxRecDepth 100000
section
variable {m:Mem} {r c w b:Nat} {ch:List (Nat×Nat)}
theorem push8P_W {a:Option Addr} {l k b o:Nat} {d:List Nat} (hO:OutB m a l k b o d) (v:Nat) (hbig:l≤1099511627776) {K:Option Addr→Nat→Nat→Mem→Prop}
  (hk:∀ m' a' k' b' o',OutB m' a' (l+1) k' b' o' (d++[v])→0 < k'→((b'=b∧0 < k)∨m.size≤b')→Fr (fun x _=>x=b∧0 < k) m m'→K a' (l+1) k' m'):
  SemW PP (sv (Instr.buildSlice t_s_uint8 1 #[(0,.int .u8 (v:Int))])) m (NextW PP fun v11 m12=>∃ (a8:Option Addr),∃ (l9:Nat),∃ (k10:Nat),v11=.slice a8 l9 k10∧SemW PP (builtin .append #[t_s_uint8,t_s_uint8] t_s_uint8 #[false,false] #[.slice a l k,.slice a8 l9 k10]) m12 (NextW PP fun v16 m17=>∃ (a13:Option Addr),∃ (l14:Nat),∃ (k15:Nat),v16=.slice a13 l14 k15∧K a13 l14 k15 m17)):=by
 refine build1_W ⟨_,_,_,rfl,?_⟩
 have f1:∀ S,Fr S m (m.push (.cells #[.int .u8 (v:Int)] t_uint8)):=fun S=>Fr.push _
 have c1:cell? (m.push (.cells #[.int .u8 (v:Int)] t_uint8)) ⟨m.size,0,none⟩=some (.int .u8 (v:Int)):=cell_new (c:=#[.int .u8 (v:Int)]) (i:=0) rfl
 have s1:(m.push (.cells #[.int .u8 (v:Int)] t_uint8)).size=m.size+1:=Array.size_push ..
 generalize m.push (.cells #[.int .u8 (v:Int)] t_uint8)=m1 at f1 c1 s1 ⊢
 refine appendB_W (b2:=m.size) (o2:=0) (ys:=[v]) (hO.fr (f1 fun _ _=>False) fun _ _=>id) rfl (fun _=>rfl) (fun i x hx=>?_) (by omega) fun m2 a' k' b' o' hO2 hb2 hf2 h02=>⟨_,_,_,rfl,hk m2 a' k' b' o' hO2 (h02 (by decide)) ?_ ((f1 _).trans hf2)⟩
 ·cases i with
  | zero=>simp only [List.getElem?_cons_zero,Option.some.injEq] at hx; subst hx; exact c1
  | succ i=>simp at hx
 ·have h0:=h02 (by decide)
  rcases hb2 with ⟨rfl,_,rfl⟩ | ⟨rfl,_⟩
  ·exact .inl ⟨rfl,h0⟩
  ·exact .inr (by omega)
theorem fr_growP {m1 m2:Mem} {b b1 k k1:Nat} (f1:Fr (fun x _=>x=b∧0 < k) m m1) (hb:0 < k1→(b1=b∧0 < k)∨m.size≤b1) (f2:Fr (fun x _=>x=b1∧0 < k1) m1 m2):Fr (fun x _=>x=b∧0 < k) m m2:=by
 refine Fr.old ((f1.mono (S':=fun x _=>(x=b∧0 < k)∨(x=b1∧0 < k1)) fun _ _ h=>.inl h).trans (f2.mono fun _ _ h=>.inr h)) ?_
 rintro i j hi (h | h)
 ·exact h
 ·rcases hb h.2 with hb | hb
  ·exact ⟨by omega,hb.2⟩
  ·omega
theorem GivenP_spec {a:Option Addr} {l k b o:Nat} {out:List Nat} (hO:OutB m a l k b o out) {aI:Option Addr} {lI kI bI oI:Nat} {its:List It} (hI:SlcT m aI lI kI bI oI its) (hbI:0 < lI→0 < k→bI≠b) (hv:VIts out.length its) (hlI:lI≤1048576) (hl:l≤1073741824)
  {R:Value→Mem→Prop} (hk:∀ m' a' k' b' o',OutB m' a' (givs out its).length k' b' o' (givs out its)→(0 < k'→(b'=b∧0 < k)∨m.size≤b')→Fr (fun x _=>x=b∧0 < k) m m'→R (.slice a' (givs out its).length k') m'):
  CallM PP f_spec_Given #[.slice a l k,.slice aI lI kI] m R:=by
 have hlen:=hO.len
 have hlenI:=hI.len
 refine e_spec_Given a l k aI lI kI m R ?_
 rw [q_spec_Given_rlrl]
 refine loopW ffOk mixedOk (L₀:=L_spec_Given) (σ:=Nat×Option Addr×Nat×Nat×Nat) [0,7,8,9] (fun s=>[(0,.slice s.2.1 (givs out (its.take s.1)).length s.2.2.1),(7,.slice aI lI kI),(8,.int .i64 (lI:Int)),(9,.int .i64 (s.1:Nat))])
  (fun s m'=>s.1≤lI∧OutB m' s.2.1 (givs out (its.take s.1)).length s.2.2.1 s.2.2.2.1 s.2.2.2.2 (givs out (its.take s.1))∧(0 < s.2.2.1→(s.2.2.2.1=b∧0 < k)∨m.size≤s.2.2.2.1)∧Fr (fun x _=>x=b∧0 < k) m m'∧(givs out (its.take s.1)).length≤l+258 * s.1) (fun s=>lI - s.1) (0,a,k,b,o)
  (by simp [givs,hlen,Env.keep,memNat]) ⟨Nat.zero_le _,by simpa [givs,hlen] using hO,fun h=>.inl ⟨rfl,h⟩,Fr.refl _ _,by simp [givs]; omega⟩ ?_
 rintro ⟨i,a1,k1,b1,o1⟩ m1 ⟨hi,hO1,hb1,hF1,hlen1⟩
 simp only at hi hO1 hb1 hlen1
 have hI1:=hI.fr hF1 fun h0 j h=>hbI h0 h.2 h.1
 refine p_spec_Given_rlrll a1 _ k1 aI lI kI lI i m1 _ ?_
 by_cases hil:i < lI
 rotate_left
 ·rw [decide_eq_false (by omega)]
  have hi':i=its.length:=by omega
  rw [hi',List.take_length] at hO1
  rw [hi',List.take_length]
  refine ifB_f (WPS.piece [0] rfl (p_spec_Given_rr a1 _ k1 m1 _ ?_))
  exact hk m1 a1 k1 b1 o1 hO1 hb1 hF1
 rw [decide_eq_true (by omega)]
 have hwi:IntKind.wrap .i64 ((i:Int)+1)=((i+1:Nat):Int):=by rw [wrap64_id (by omega) (by omega)]; rfl
 have hget:its[i]?=some (its[i]'(by omega)):=List.getElem?_eq_getElem (by omega)
 generalize its[i]'(by omega)=x at hget
 obtain ⟨d1,d2,d3⟩:=hI1.data i x hget
 have hvx:=hv.get hget
 have hgt:=givs_take (H:=out) hget
 refine ifB_t ?_
 have hat:=hI1.at_ (by omega)
 subst hat
 refine ⟨⟨by omega,by omega⟩,(x.b:Int),(x.len:Int),(x.d:Int),rfl,⟨?_,?_,?_,trivial⟩,?_⟩
 ·rw [show aplus (aplus ⟨bI,oI,none⟩ ((i:Int).toNat * 3)) 0=⟨bI,oI+i * 3,none⟩ by simp [aplus]]; exact d1
 ·rw [show aplus (aplus ⟨bI,oI,none⟩ ((i:Int).toNat * 3)) (0+1)=⟨bI,oI+i * 3+1,none⟩ by simp [aplus,Nat.add_assoc]]; exact d2
 ·rw [show aplus (aplus ⟨bI,oI,none⟩ ((i:Int).toNat * 3)) (0+1+1)=⟨bI,oI+i * 3+2,none⟩ by simp [aplus,Nat.add_assoc]]; exact d3
 refine take_item_W fun m2 n f2 hn1 hn2 e0 e1 e2=>⟨_,e1,?_⟩
 have hO2:=hO1.fr (f2 fun _ _=>False) fun _ _=>id
 have hs1:=hF1.size
 generalize hG:givs out (its.take i)=G at hO1 hO2 hvx hgt hlen1
 have rest:∀ m3 a3 k3 b3 o3 (H0:List Nat) (r':Env),OutB m3 a3 H0.length k3 b3 o3 H0→(0 < k3→(b3=b∧0 < k)∨m.size≤b3)→Fr (fun x _=>x=b∧0 < k) m m3→(0 < k3→b3≠n)→cell? m3 ⟨n,1,none⟩=some (.int .i64 (x.len:Int))→cell? m3 ⟨n,2,none⟩=some (.int .i64 (x.d:Int))→n < m3.size→(0 < x.len→1≤x.d∧x.d≤H0.length)→x.len≤258→H0.length≤l+258 * i+1→lz H0 x.d x.len=giv G x→(giv G x).length≤l+258 * (i+1)→
   Env.keep [0,6,7,8,9] r'=[(0,.slice a3 H0.length k3),(6,.pointer (some ⟨n,0,none⟩)),(7,.slice (some ⟨bI,oI,none⟩) lI kI),(8,.int .i64 (lI:Int)),(9,.int .i64 (i:Int))]→
   ∀ {K:Kont},(∀ m' a' k' b' o',OutB m' a' (givs out (its.take (i+1))).length k' b' o' (givs out (its.take (i+1)))→(0 < k'→(b'=b∧0 < k)∨m.size≤b')→Fr (fun x _=>x=b∧0 < k) m m'→(givs out (its.take (i+1))).length≤l+258 * (i+1)→K.kn [(0,.slice a' (givs out (its.take (i+1))).length k'),(7,.slice (some ⟨bI,oI,none⟩) lI kI),(8,.int .i64 (lI:Int)),(9,.int .i64 ((i+1:Nat):Int))] m')→
   WPS PP 39 c_spec_Given_rlrllrrllrr ((K.withN fun r m=>WPS PP 39 c_spec_Given_rlrllrrr K r m).withX 1) r' m3:=by
  intro m3 a3 k3 b3 o3 H0 r' hO3 hb3 hF3 hb3n g1 g2 hns hd hx258 hH0 hlz hgl hr' K hK
  refine WPS.piece [0,6,7,8,9] hr' (p_spec_Given_rlrllrrllrr a3 _ k3 n _ lI kI lI i m3 _ ⟨_,g1,?_⟩)
  rw [q_spec_Given_rlrllrrllrrrl]
  refine loopW ffOk mixedOk (L₀:=L_spec_Given) (σ:=Nat×Option Addr×Nat×Nat×Nat) [0,6,7,8,9,22,23] (fun s=>[(0,.slice s.2.1 (H0.length+s.1) s.2.2.1),(6,.pointer (some ⟨n,0,none⟩)),(7,.slice (some ⟨bI,oI,none⟩) lI kI),(8,.int .i64 (lI:Int)),(9,.int .i64 (i:Int)),(22,.int .i64 (x.len:Int)),(23,.int .i64 (s.1:Nat))])
   (fun s m'=>s.1≤x.len∧OutB m' s.2.1 (H0.length+s.1) s.2.2.1 s.2.2.2.1 s.2.2.2.2 (lz H0 x.d s.1)∧(0 < s.2.2.1→(s.2.2.2.1=b∧0 < k)∨m.size≤s.2.2.2.1)∧(0 < s.2.2.1→s.2.2.2.1≠n)∧n < m'.size∧Fr (fun x _=>x=b∧0 < k) m m'∧cell? m' ⟨n,2,none⟩=some (.int .i64 (x.d:Int))) (fun s=>x.len - s.1) (0,a3,k3,b3,o3) rfl
   ⟨Nat.zero_le _,hO3,hb3,hb3n,hns,hF3,g2⟩ ?_
  rintro ⟨j,a4,k4,b4,o4⟩ m4 ⟨hj,hO4,hb4,hb4n,hn4,hF4,g4⟩
  simp only at hj hO4 hb4 hb4n
  refine p_spec_Given_rlrllrrllrrrll a4 _ k4 n _ lI kI lI i x.len j m4 _ ?_
  by_cases hjl:j < x.len
  ·rw [decide_eq_true (by omega)]
   obtain ⟨hd1,hd2⟩:=hd (by omega)
   have hwj:IntKind.wrap .i64 ((j:Int)+1)=((j+1:Nat):Int):=by rw [wrap64_id (by omega) (by omega)]; rfl
   have hwd:IntKind.wrap .i64 (((H0.length+j:Nat):Int) - (x.d:Int))=((H0.length+j - x.d:Nat):Int):=by rw [wrap64_id (by omega) (by omega)]; omega
   have hlzl:=lz_length H0 x.d j
   have hlt:H0.length+j - x.d < (lz H0 x.d j).length:=by omega
   refine ifB_t ⟨_,g4,?_⟩
   have hk4:0 < k4:=by have:=hO4.own.le; omega
   rw [hwd,hO4.own.at_ hk4]
   have hc:cell? m4 ⟨b4,o4+(H0.length+j - x.d),none⟩=some (.int .u8 (((lz H0 x.d j).getD (H0.length+j - x.d) 0:Nat):Int)):=by
    refine hO4.own.row _ _ ?_
    rw [List.getElem?_map,List.getElem?_eq_getElem hlt,List.getD_eq_getElem?_getD,List.getElem?_eq_getElem hlt]; rfl
   refine ⟨⟨by omega,by omega⟩,_,cellB hc,?_⟩
   rw [← hO4.own.at_ hk4]
   have hs4:=hF4.size
   refine push8P_W hO4 _ (by omega) fun m5 a5 k5 b5 o5 hO5 hk5 hb5 hf5=>?_
   rw [hwj]
   refine ⟨(j+1,a5,k5,b5,o5),rfl,⟨by simp only; omega,?_,fun _=>?_,fun _=>?_,by have:=hf5.size; omega,fr_growP hF4 hb4 hf5,hf5.cell g4 fun e=>hb4n e.2 e.1.symm⟩,by simp only; omega⟩
   ·simp only
    rw [lz,hlzl]; exact hO5
   ·rcases hb5 with ⟨rfl,h⟩ | h
    ·exact hb4 h
    ·exact .inr (by simp only; omega)
   ·simp only
    rcases hb5 with ⟨rfl,h⟩ | h
    ·exact hb4n h
    ·omega
  ·rw [decide_eq_false (by omega)]
   have hj':j=x.len:=by omega
   subst hj'
   refine ifB_f (WPS.piece [0,7,8,9] rfl (p_spec_Given_rlrllrrr a4 _ k4 _ lI kI lI i m4 _ ?_))
   rw [hwi]
   rw [hlz, ← hgt] at hO4
   have hll:H0.length+x.len=(givs out (its.take (i+1))).length:=by rw [hgt, ← hlz,lz_length]
   rw [hll] at hO4 ⊢
   exact hK m4 a4 k4 b4 o4 hO4 hb4 hF4 (by rw [hgt]; exact hgl)
 have hF2:Fr (fun x _=>x=b∧0 < k) m m2:=hF1.trans (f2 _)
 have hgl:(giv G x).length≤l+258 * (i+1):=by
  rw [giv_length]
  rcases hvx.2 with h0 | ⟨_,h0,_⟩ <;> omega
 have fin:∀ m' a' k' b' o',OutB m' a' (givs out (its.take (i+1))).length k' b' o' (givs out (its.take (i+1)))→(0 < k'→(b'=b∧0 < k)∨m.size≤b')→Fr (fun x _=>x=b∧0 < k) m m'→(givs out (its.take (i+1))).length≤l+258 * (i+1)→
   ∃ s':Nat×Option Addr×Nat×Nat×Nat,[(0,Value.slice a' (givs out (its.take (i+1))).length k'),(7,.slice (some ⟨bI,oI,none⟩) lI kI),(8,.int .i64 (lI:Int)),(9,.int .i64 ((i+1:Nat):Int))]=[(0,Value.slice s'.2.1 (givs out (its.take s'.1)).length s'.2.2.1),(7,.slice (some ⟨bI,oI,none⟩) lI kI),(8,.int .i64 (lI:Int)),(9,.int .i64 (s'.1:Nat))]∧
    (s'.1≤lI∧OutB m' s'.2.1 (givs out (its.take s'.1)).length s'.2.2.1 s'.2.2.2.1 s'.2.2.2.2 (givs out (its.take s'.1))∧(0 < s'.2.2.1→(s'.2.2.2.1=b∧0 < k)∨m.size≤s'.2.2.2.1)∧Fr (fun x _=>x=b∧0 < k) m m'∧(givs out (its.take s'.1)).length≤l+258 * s'.1)∧lI - s'.1 < lI - i:=
  fun m' a' k' b' o' h1 h2 h3 h4=>⟨(i+1,a',k',b',o'),rfl,⟨by simp only; omega,h1,h2,h3,h4⟩,by simp only; omega⟩
 have hs2:=(f2 fun _ _=>False).size
 have hb1n:0 < k1→b1≠n:=fun h=>by have:=hO1.lt h; omega
 by_cases hx0:x.len=0
 ·have e:((x.len:Int) == 0)=true:=by rw [beq_iff_eq]; omega
  rw [e]
  refine ifB_t ⟨_,e0,push8P_W hO2 x.b (by omega) fun m3 a3 k3 b3 o3 hO3 hk3 hb3 hf3=>?_⟩
  have hs3:=hf3.size
  refine rest m3 a3 k3 b3 o3 (G++[x.b]) _ (by simpa using hO3) (fun _=>?_) (fr_growP hF2 hb1 hf3) (fun _=>?_) (hf3.cell e1 fun h=>hb1n h.2 h.1.symm) (hf3.cell e2 fun h=>hb1n h.2 h.1.symm) (by omega) (by omega) (by omega) (by simp; omega) ?_ hgl ?_ fin
  ·rcases hb3 with ⟨rfl,h⟩ | h
   ·exact hb1 h
   ·exact .inr (by omega)
  ·rcases hb3 with ⟨rfl,h⟩ | h
   ·exact hb1n h
   ·omega
  ·rw [giv,if_pos hx0,hx0,lz]
  ·rw [List.length_append]; rfl
 ·have e:((x.len:Int) == 0)=false:=by rw [beq_eq_false_iff_ne]; omega
  rw [e]
  have hx1:3≤x.len∧x.len≤258:=by
   rcases hvx.2 with h0 | ⟨h1,h2,_⟩
   ·exact absurd h0 hx0
   ·exact ⟨h1,h2⟩
  refine ifB_f ?_
  refine rest m2 a1 k1 b1 o1 G _ hO2 hb1 hF2 hb1n e1 e2 hn2 ?_ (by omega) (by omega) ?_ hgl rfl fin
  ·intro _
   rcases hvx.2 with h0 | ⟨_,_,h2,h3,_⟩
   ·exact absurd h0 hx0
   ·exact ⟨h2,by omega⟩
  ·rw [giv,if_neg hx0]
end
end Go.M
