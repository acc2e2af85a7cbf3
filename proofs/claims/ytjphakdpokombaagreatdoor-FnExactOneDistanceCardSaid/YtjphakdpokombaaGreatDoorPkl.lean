/- What the reference tells of a stream, and what the plain machine comes to: piece by piece. No program in sight. Written streams: pieces of bits, one behind the other, and what the plain machine makes of them. No program in sight. The tables of a block with codes of its own. Written items that tell no length 258 by 284. No program in sight. -/
import Derived.Test.YtjphakdpokombaaGreatDoorPkk
namespace Go.M
def Reach (c:Sc) (s0 s:St):Prop:=GTo c s0 s
theorem Reach.refl (c:Sc) (s:St):Reach c s s:=GTo.refl
theorem Reach.trans {c:Sc} {a b d:St} (h:Reach c a b) (h':Reach c b d):Reach c a d:=by
 induction h' with
 | refl=>exact h
 | step _ hs ih=>exact GTo.step ih hs
theorem Reach.go {c:Sc} {s0 s s':St} (h:Reach c s0 s) (hs:gstep c s=.go s'):Reach c s0 s':=GTo.step h hs
theorem Reach.runs {c:Sc} {s0 s:St} {H:List Nat} {e:Er} {p:Nat} (h:Reach c s0 s) (hr:Runs c s H e p):Runs c s0 H e p:=by
 induction h with
 | refl=>exact hr
 | step _ hs ih=>exact ih (.step hs hr)
theorem Reach.stop {c:Sc} {s0 s:St} {H:List Nat} {e:Er} {p:Nat} (h:Reach c s0 s) (hs:gstep c s=.stop H e p):Runs c s0 H e p:=h.runs (.stop hs)
def ReachN (c:Sc) (s0:St):Nx→Prop
 | .go s=>Reach c s0 s
 | .stop H e p=>Runs c s0 H e p
theorem Reach.next {c:Sc} {s0 s:St} (h:Reach c s0 s):ReachN c s0 (gstep c s):=by
 cases hs:gstep c s with
 | go s'=>exact h.go hs
 | stop H e p=>exact h.stop hs
def Doom (c:Sc) (s0:St) (p:Nat) (H:List Nat) (mn:Nat):Prop:=∃ Hf pf,Runs c s0 Hf .cut pf∧(∃ T,H=Hf++T)∧c.tot < p+mn
theorem Doom.on {c:Sc} {s0:St} {p p' mn:Nat} {H:List Nat} (h:Doom c s0 p H mn) (hp:p≤p') (T:List Nat):Doom c s0 p' (H++T) mn:=by
 obtain ⟨Hf,pf,h1,⟨T',h2⟩,h3⟩:=h
 exact ⟨Hf,pf,h1,⟨T'++T,by rw [h2,List.append_assoc]⟩,by omega⟩
def OddT (c:Sc) (T:Tb) (p:Nat):Prop:=(∃ x,T.lit x % 16=0)∨(∀ x,T.lit x % 16≠0→T.lit x / 16≠256)∨∃ q,sym c T.lit T.mn p=.ok 284 q∧tk c.N q 5=31
def Odd (c:Sc) (s0:St):Prop:=(∃ H e p,Runs c s0 H e p∧e≠.fin)∨(∃ p H fin T,GTo c s0 ⟨p,H,.coded fin T⟩∧OddT c T p)∨
 ∃ p H,GTo c s0 ⟨p,H,.block⟩∧tk c.N (p+1) 2=2∧ ¬ Full (clens c.N (p+17) (tk c.N (p+13) 4+4))
def Lng (c:Sc) (s0:St):Prop:=∃ H e p,Runs c s0 H e p∧(e≠.fin∨126976≤H.length)
theorem Odd.bad {c:Sc} {s0:St} {H:List Nat} {e:Er} {p:Nat} (h:Runs c s0 H e p) (he:e≠.fin):Odd c s0:=.inl ⟨H,e,p,h,he⟩
structure Good (c:Sc) (s0:St) (e:Int) (H:List Nat) (p:Nat):Prop where
 fine:e=1→Runs c s0 H .fin p
 wrong:e=2→∃ Hf er pf,Runs c s0 Hf er pf∧er≠.fin∧∃ T,H=Hf++T
 short:e=3→∃ Hf pf,Runs c s0 Hf .cut pf∧∃ T,H=Hf++T
 le:e≤4
 odd:e=0→Odd c s0
 long:e=4→Lng c s0
theorem Good.isFine {c:Sc} {s0:St} {H:List Nat} {p:Nat} (h:Runs c s0 H .fin p):Good c s0 1 H p:=⟨fun _=>h,fun h=>absurd h (by decide),fun h=>absurd h (by decide),by decide,fun h=>absurd h (by decide),fun h=>absurd h (by decide)⟩
theorem Good.isWrong {c:Sc} {s0:St} {H Hf:List Nat} {p pf:Nat} {er:Er} (h:Runs c s0 Hf er pf) (he:er≠.fin) (hp:∃ T,H=Hf++T):Good c s0 2 H p:=
 ⟨fun h=>absurd h (by decide),fun _=>⟨Hf,er,pf,h,he,hp⟩,fun h=>absurd h (by decide),by decide,fun h=>absurd h (by decide),fun h=>absurd h (by decide)⟩
theorem Good.isShort {c:Sc} {s0:St} {H Hf:List Nat} {p pf:Nat} (h:Runs c s0 Hf .cut pf) (hp:∃ T,H=Hf++T):Good c s0 3 H p:=
 ⟨fun h=>absurd h (by decide),fun h=>absurd h (by decide),fun _=>⟨Hf,pf,h,hp⟩,by decide,fun h=>absurd h (by decide),fun h=>absurd h (by decide)⟩
theorem Good.isOpen {c:Sc} {s0:St} {H:List Nat} {p:Nat} (h:Odd c s0):Good c s0 0 H p:=⟨fun h=>absurd h (by decide),fun h=>absurd h (by decide),fun h=>absurd h (by decide),by decide,fun _=>h,fun h=>absurd h (by decide)⟩
theorem Good.isLong {c:Sc} {s0:St} {H:List Nat} {p:Nat} (h:Lng c s0):Good c s0 4 H p:=⟨fun h=>absurd h (by decide),fun h=>absurd h (by decide),fun h=>absurd h (by decide),by decide,fun h=>absurd h (by decide),fun _=>h⟩
theorem Reach.long {c:Sc} {s0 s:St} (h:Reach c s0 s) (hc:HdOk c) (hp:s.p≤c.tot) (hl:126976≤s.H.length):Lng c s0:=by
 obtain ⟨H,e,p,hr⟩:=runs_total hc _ _ s rfl rfl hp
 obtain ⟨_,⟨T,hT⟩,_⟩:=hr.bound hc hp
 refine ⟨H,e,p,h.runs hr,.inr ?_⟩
 rw [hT,List.length_append]; omega
theorem self_app (H:List Nat):∃ T,H=H++T:=⟨[],by simp⟩
def Mat (c:Sc) (s0:St) (p:Nat) (H:List Nat) (mn:Nat) (nx:Nx):Prop:=ReachN c s0 nx∨Doom c s0 p H mn
theorem Mat.cut {c:Sc} {s0:St} {p q pq mn:Nat} {H:List Nat} {nx:Nx} (h:Mat c s0 p H mn nx) (hn:nx=.stop H .cut q):Good c s0 3 H pq:=by
 rcases h with h | ⟨Hf,pf,h1,h2,_⟩
 ·subst hn; exact .isShort h (self_app H)
 ·exact .isShort h1 h2
theorem Mat.bad {c:Sc} {s0:St} {p q pq mn:Nat} {H:List Nat} {nx:Nx} (h:Mat c s0 p H mn nx) (hn:nx=.stop H .bad q):Good c s0 2 H pq:=by
 rcases h with h | ⟨Hf,pf,h1,h2,_⟩
 ·subst hn; exact .isWrong h (by decide) (self_app H)
 ·exact .isWrong h1 (by decide) h2
theorem Mat.on {c:Sc} {s0:St} {p p' mn:Nat} {H:List Nat} {nx nx':Nx} (h:Mat c s0 p H mn nx) (hn:nx=nx') (hp:p≤p'):Mat c s0 p' H mn nx':=by
 subst hn
 rcases h with h | h
 ·exact .inl h
 ·have:=h.on hp []
  rw [List.append_nil] at this
  exact .inr this
structure SymOk (L:List Nat) (c:Sc) (p k p':Nat):Prop where
 hit:hit L (c.N / 2 ^ p) k=true
 eq:p'=p+ln L k
 le:p'≤c.tot
structure SymShort (L:List Nat) (c:Sc) (p:Nat):Prop where
 hit:∀ k,hit L (c.N / 2 ^ p) k=true→c.tot < p+ln L k
 one:usedN L=1→c.tot < p+mxOf L
theorem used_of_one:∀ {L:List Nat},(∀ v ∈ L,v≤1)→usedN L=L.count 1
 | [],_=>rfl
 | l::L,h=>by
  have ih:=used_of_one fun v hv=>h v (List.mem_cons_of_mem _ hv)
  have hl:=h l (List.mem_cons_self ..)
  unfold usedN at *
  by_cases h0:l=0
  ·subst h0; simpa using ih
  ·have h1:l=1:=by omega
   subst h1; simpa using ih
theorem mx_le_mem {L:List Nat}:∀ v ∈ L,v≤mxOf L:=by
 intro v hv
 by_cases h:v=0
 ·omega
 ·exact ((mm_spec L).2.2.1 v hv h).2
theorem sym_short {L:List Nat} {c:Sc} {p mn:Nat} (hL:∀ v ∈ L,v≤15) (hok:okL L=true) (hu:usedN L≠0) (h:SymShort L c p) (hmn:mnOf L≤mn):sym c (tabV L) mn p=.cut:=by
 unfold sym
 rw [if_pos]
 rcases hit_dec L (c.N / 2 ^ p) with ⟨k,hk⟩ | hn
 ·have:=h.hit k hk
  rw [(tab_mod hL hk).1]; omega
 ·rcases okL_cases hok with h1 | h1 | ⟨h1,h2⟩
  ·exfalso
   apply hu
   have:∀ v ∈ L,v=0:=fun v hv=>by have:=mx_le_mem v hv; omega
   unfold usedN
   rw [List.length_eq_zero_iff,List.filter_eq_nil_iff]
   intro v hv
   simp [this v hv]
  ·obtain ⟨i,hi⟩:=h1.hits (c.N / 2 ^ p)
   rw [hn i] at hi; cases hi
  ·have h3:usedN L=1:=by
    rw [used_of_one fun v hv=>by have:=mx_le_mem v hv; omega]
    have h4:nx L 1=0:=by simp [nx,cnt]
    have h5:cnt L 1=L.count 1:=by unfold cnt; rw [if_neg (by decide)]
    omega
   have h4:=h.one h3
   have h5:=mm_spec L
   have h6:mnOf L=1:=by
    have:=h5.1
    have:=h5.2.1
    omega
   omega
theorem sym_hit {L:List Nat} {c:Sc} {p k p' mn:Nat} (hL:∀ v ∈ L,v≤15) (h:SymOk L c p k p'):sym c (tabV L) mn p=if c.tot < p+max mn (ln L k) then .cut else .ok k p':=by
 unfold sym
 obtain ⟨h1,h2⟩:=tab_mod hL h.hit
 have h3:=(hit_iff.1 h.hit).1
 rw [h1,h2,if_neg h3,h.eq]
theorem sym_hit' {L:List Nat} {c:Sc} {p k p':Nat} (hL:∀ v ∈ L,v≤15) (h:SymOk L c p k p'):sym c (tabV L) (mnOf L) p=.ok k p':=by
 rw [sym_hit hL h,if_neg]
 have h3:=ln_le (hit_iff.1 h.hit).1
 have:=h.eq
 have:=h.le
 omega
def fixD:List Nat:=List.replicate 32 5
structure TbOf (T:Tb) (L D:List Nat):Prop where
 lit:T.lit=tabV L
 full:Full L
 l15:∀ v ∈ L,v≤15
 ll:L.length≤288
 mn:mnOf L≤T.mn
 eob:ln L 256≠0→T.mn≤ln L 256
 d15:∀ v ∈ D,v≤15
 dist:(T.dist=some (tabV D,mnOf D)∧okL D=true)∨(T.dist=none∧D=fixD)
theorem fixD_get {i:Nat}:ln fixD i=if i < 32 then 5 else 0:=by
 unfold ln fixD
 rw [List.getD_eq_getElem?_getD,List.getElem?_replicate]
 split <;> rfl
theorem fixD_cd {i:Nat} (h:i < 32):cd fixD i=i:=by
 have h0:∀ j:Fin 32,cd fixD j.val=j.val:=by decide+kernel
 exact h0 ⟨i,h⟩
theorem fixD_ok:okL fixD=true:=by decide+kernel
theorem fixD_mn:mnOf fixD=5:=by decide+kernel
theorem fixD_15:∀ v ∈ fixD,v≤15:=by
 intro v hv
 have:=List.eq_of_mem_replicate hv
 omega
theorem fixD_used:usedN fixD=32:=by decide+kernel
theorem rev5_rv (x:Nat):rev5 (x % 2 ^ 5)=rv 5 x:=by
 rw [← rv_mod 5 5 x (Nat.le_refl _)]
 generalize x % 2 ^ 5=y
 simp only [rev5,rv]
 omega
theorem glen_sym {c:Sc} {H:List Nat} {fin:Bool} {T:Tb} {L D:List Nat} (hT:TbOf T L D) (len p:Nat):
  glen c H fin T len p=match sym c (tabV D) (mnOf D) p with | .cut=>.stop H .cut p | .bad=>.stop H .bad p | .ok k p'=>gdist c H fin T len k p':=by
 unfold glen
 rcases hT.dist with ⟨h1,_⟩ | ⟨h1,h2⟩
 ·rw [h1]; rfl
 ·rw [h1]
  subst h2
  have hk:rv 5 (c.N / 2 ^ p) < 32:=rv_lt 5 _
  have hh:hit fixD (c.N / 2 ^ p) (rv 5 (c.N / 2 ^ p))=true:=hit_iff.2 ⟨by rw [fixD_get,if_pos hk]; decide,by rw [fixD_get,if_pos hk,fixD_cd hk]⟩
  obtain ⟨g1,g2⟩:=tab_mod fixD_15 hh
  rw [fixD_get,if_pos hk] at g1
  unfold sym
  rw [fixD_mn,g1,g2]
  have e:rev5 (tk c.N p 5)=rv 5 (c.N / 2 ^ p):=rev5_rv _
  rw [e]
  by_cases hc:c.tot < p+5
  ·rw [if_pos hc,if_pos (by omega)]
  ·rw [if_neg hc,if_neg (by omega),if_neg (by decide)]
def Cod (c:Sc) (s0:St) (p:Nat) (H:List Nat) (fin:Bool) (T:Tb):Prop:=Reach c s0 ⟨p,H,.coded fin T⟩∨Doom c s0 p H T.mn
section
variable {c:Sc} {s0:St} {p:Nat} {H:List Nat} {fin:Bool} {T:Tb} {L D:List Nat}
theorem usedN_full (h:Full L):usedN L≠0:=by
 intro h0
 have hz:=used_zero h0
 have hm:mxOf L=0:=by
  rcases (mm_spec L).2.2.2.1 with h1 | h1
  ·exact h1
  ·exact hz _ h1
 unfold Full at h
 rw [hm] at h
 simp [nx,cnt] at h
theorem cod_short (hT:TbOf T L D) (hI:Cod c s0 p H fin T) (h:SymShort L c p) {pq:Nat}:Good c s0 3 H pq:=by
 rcases hI with hI | ⟨Hf,pf,h1,h2,_⟩
 ·refine .isShort (hI.stop (p:=p) (H:=H) ?_) (self_app H)
  show gcoded c H fin T p=_
  unfold gcoded
  rw [hT.lit,sym_short hT.l15 (full_ok hT.full) (usedN_full hT.full) h hT.mn]
 ·exact .isShort h1 h2
theorem cod_sym (hT:TbOf T L D) (hI:Cod c s0 p H fin T) {k p':Nat} (h:SymOk L c p k p'):Mat c s0 p' H T.mn (gsym c H fin T k p'):=by
 have hp:p≤p':=by have:=h.eq; omega
 rcases hI with hI | hI
 ·have hn:=hI.next
  have e:gstep c ⟨p,H,.coded fin T⟩=gcoded c H fin T p:=rfl
  rw [e] at hn
  unfold gcoded at hn
  rw [hT.lit,sym_hit hT.l15 h] at hn
  by_cases hc:c.tot < p+max T.mn (ln L k)
  ·rw [if_pos hc] at hn
   refine .inr ⟨H,p,hn,self_app H,?_⟩
   have:=h.eq
   have:=h.le
   omega
  ·rw [if_neg hc] at hn
   exact .inl hn
 ·have:=hI.on hp []
  rw [List.append_nil] at this
  exact .inr this
theorem mat_lit {k:Nat} (hM:Mat c s0 p H T.mn (gsym c H fin T k p)) (hk:k < 256):Cod c s0 p (H++[k]) fin T:=by
 rcases hM with hM | hM
 ·unfold gsym at hM
  rw [if_pos hk] at hM
  exact .inl hM
 ·exact .inr (hM.on (Nat.le_refl _) _)
theorem cod_eob (hT:TbOf T L D) (hI:Cod c s0 p H fin T) {p':Nat} (h:SymOk L c p 256 p'):(fin=true→Runs c s0 H .fin p')∧(fin=false→Reach c s0 ⟨p',H,.block⟩):=by
 have h4:=h.eq
 have h5:=h.le
 have h7:=hT.eob (hit_iff.1 h.hit).1
 rcases hI with hI | ⟨_,_,_,_,h6⟩
 ·have hn:=hI.next
  have e:gstep c ⟨p,H,.coded fin T⟩=gcoded c H fin T p:=rfl
  rw [e] at hn
  unfold gcoded at hn
  rw [hT.lit,sym_hit hT.l15 h,if_neg (by omega)] at hn
  simp only at hn
  unfold gsym at hn
  rw [if_neg (by decide),if_pos rfl] at hn
  cases fin with
  | true=>exact ⟨fun _=>hn,fun h=>by cases h⟩
  | false=>exact ⟨fun h=>(by cases h),fun _=>hn⟩
 ·omega
def lenS (k:Nat):Nat×Nat:=
 if k=285 then (258,0)
 else if 257≤k∧k≤264 then (k - 254,0)
 else if 265≤k∧k≤284 then (3+(4+(k - 261) % 4) * 2 ^ ((k - 261) / 4),(k - 261) / 4)
 else (0,0)
theorem lenS_eq {k:Nat} (h:257≤k) (h2:k < 286):lenOf k=lenS k:=by
 have h0:∀ j:Fin 29,lenOf (257+j.val)=lenS (257+j.val):=by decide+kernel
 have:=h0 ⟨k - 257,by omega⟩
 simp only at this
 rw [show 257+(k - 257)=k from by omega] at this
 exact this
theorem lenS_none {k:Nat} (h:286≤k):lenS k=(0,0):=by
 unfold lenS
 rw [if_neg (by omega),if_neg (by omega),if_neg (by omega)]
theorem lenS_pos {k:Nat} (h:257≤k) (h2:k < 286):3≤(lenS k).1∧(lenS k).2≤5:=by
 have h0:∀ j:Fin 29,3≤(lenS (257+j.val)).1∧(lenS (257+j.val)).2≤5:=by decide+kernel
 have:=h0 ⟨k - 257,by omega⟩
 simp only at this
 rw [show 257+(k - 257)=k from by omega] at this
 exact this
def dstS (k:Nat):Nat×Nat:=
 if k < 4 then (k+1,0)
 else if k < 30 then (1+(2+k % 2) * 2 ^ (k / 2 - 1),k / 2 - 1)
 else (0,0)
theorem dstS_pos {k:Nat} (h:k < 30):0 < (dstS k).1∧(dstS k).2≤13∧(dstS k).1+2 ^ (dstS k).2≤32769:=by
 have h0:∀ j:Fin 30,0 < (dstS j.val).1∧(dstS j.val).2≤13∧(dstS j.val).1+2 ^ (dstS j.val).2≤32769:=by decide+kernel
 exact h0 ⟨k,h⟩
theorem mat_never {k q:Nat} (hM:Mat c s0 p H T.mn (gsym c H fin T k p)) (hk:286≤k):Good c s0 2 H q:=by
 refine hM.bad (q:=p) ?_
 unfold gsym
 rw [if_neg (by omega),if_neg (by omega),if_pos hk]
theorem mat_lenCut {k q:Nat} (hM:Mat c s0 p H T.mn (gsym c H fin T k p)) (hk:257≤k) (hk2:k < 286) (h:c.tot < p+(lenS k).2):Good c s0 3 H q:=by
 refine hM.cut (q:=p) ?_
 unfold gsym
 rw [if_neg (by omega),if_neg (by omega),if_neg (by omega),lenS_eq hk hk2,if_pos h]
theorem mat_len {k:Nat} (hM:Mat c s0 p H T.mn (gsym c H fin T k p)) (hk:257≤k) (hk2:k < 286) (h:p+(lenS k).2≤c.tot):
  Mat c s0 (p+(lenS k).2) H T.mn (glen c H fin T ((lenS k).1+tk c.N p (lenS k).2) (p+(lenS k).2)):=by
 refine hM.on ?_ (by omega)
 unfold gsym
 rw [if_neg (by omega),if_neg (by omega),if_neg (by omega),lenS_eq hk hk2,if_neg (by omega)]
theorem TbOf.dok (hT:TbOf T L D):okL D=true:=by
 rcases hT.dist with ⟨_,h⟩ | ⟨_,h⟩
 ·exact h
 ·subst h; exact fixD_ok
theorem mat_dCut {len q:Nat} (hT:TbOf T L D) (hM:Mat c s0 p H T.mn (glen c H fin T len p)) (hu:usedN D≠0) (h:SymShort D c p):Good c s0 3 H q:=by
 refine hM.cut (q:=p) ?_
 rw [glen_sym hT,sym_short hT.d15 hT.dok hu h (Nat.le_refl _)]
theorem mat_dSym {len k p':Nat} (hT:TbOf T L D) (hM:Mat c s0 p H T.mn (glen c H fin T len p)) (h:SymOk D c p k p'):Mat c s0 p' H T.mn (gdist c H fin T len k p'):=by
 refine hM.on ?_ (by have:=h.eq; omega)
 rw [glen_sym hT,sym_hit' hT.d15 h]
theorem mat_dNever {len k q:Nat} (hM:Mat c s0 p H T.mn (gdist c H fin T len k p)) (hk:30≤k):Good c s0 2 H q:=by
 refine hM.bad (q:=p) ?_
 unfold gdist
 rw [if_neg (by omega),if_neg (by omega)]
theorem gdist_eq {len k:Nat} (hk:k < 30) (hp:p≤c.tot):gdist c H fin T len k p=if c.tot < p+(dstS k).2 then .stop H .cut p else gfar c H fin T len ((dstS k).1+tk c.N p (dstS k).2) (p+(dstS k).2):=by
 unfold gdist dstS
 by_cases h4:k < 4
 ·rw [if_pos h4,if_pos h4]
  simp only
  rw [if_neg (by omega)]
  have:tk c.N p 0=0:=by unfold tk; rw [Nat.pow_zero,Nat.mod_one]
  rw [this,Nat.add_zero]; rfl
 ·rw [if_neg h4,if_pos hk,if_neg h4,if_pos hk]
  simp only
  have e1:(k - 2) / 2=k / 2 - 1:=by omega
  rw [e1]
  have e2:2 ^ (k / 2 - 1+1)+1+(k % 2 * 2 ^ (k / 2 - 1)+tk c.N p (k / 2 - 1))=1+(2+k % 2) * 2 ^ (k / 2 - 1)+tk c.N p (k / 2 - 1):=by
   rw [Nat.pow_succ,Nat.add_mul]; omega
  rw [e2]
theorem mat_farCut {len k q:Nat} (hM:Mat c s0 p H T.mn (gdist c H fin T len k p)) (hk:k < 30) (hp:p≤c.tot) (h:c.tot < p+(dstS k).2):Good c s0 3 H q:=by
 refine hM.cut (q:=p) ?_
 rw [gdist_eq hk hp,if_pos h]
theorem mat_far {len k:Nat} (hM:Mat c s0 p H T.mn (gdist c H fin T len k p)) (hk:k < 30) (h:p+(dstS k).2≤c.tot):
  Mat c s0 (p+(dstS k).2) H T.mn (gfar c H fin T len ((dstS k).1+tk c.N p (dstS k).2) (p+(dstS k).2)):=by
 refine hM.on ?_ (by omega)
 rw [gdist_eq hk (by omega),if_neg (by omega)]
theorem mat_tooFar {len d q:Nat} (hM:Mat c s0 p H T.mn (gfar c H fin T len d p)) (h:min 32768 H.length < d):Good c s0 2 H q:=by
 refine hM.bad (q:=p) ?_
 unfold gfar
 rw [if_pos h]
theorem lz_app (H:List Nat) (d:Nat):∀ n,∃ T,lz H d n=H++T
 | 0=>⟨[],by simp [lz]⟩
 | n+1=>by
  obtain ⟨T,h⟩:=lz_app H d n
  exact ⟨T++[(lz H d n).getD ((lz H d n).length - d) 0],by rw [lz, ← List.append_assoc, ← h]⟩
theorem mat_copy {len d:Nat} (hM:Mat c s0 p H T.mn (gfar c H fin T len d p)) (h:d≤min 32768 H.length):Cod c s0 p (lz H d len) fin T:=by
 unfold gfar at hM
 rw [if_neg (by omega)] at hM
 rcases hM with hM | hM
 ·left
  have key:∀ (n:Nat) (K:List Nat),Reach c s0 ⟨p,K,.copy fin T d n⟩→Reach c s0 ⟨p,lz K d n,.coded fin T⟩:=by
   intro n
   induction n with
   | zero=>intro K h; exact h.go (s':=⟨p,K,.coded fin T⟩) rfl
   | succ n ih=>
    intro K h
    have:=ih _ (h.go (s':=⟨p,lz K d 1,.copy fin T d n⟩) rfl)
    rw [← lz_add,Nat.add_comm 1 n] at this
    exact this
  exact key len H hM
 ·right
  obtain ⟨T',h⟩:=lz_app H d len
  rw [h]
  exact hM.on (Nat.le_refl _) T'
theorem Mat.odd {q p' mn:Nat} {e:Er} {nx:Nx} (h:Mat c s0 p' H mn nx) (hn:nx=.stop H e q) (he:e≠.fin):Odd c s0:=by
 rcases h with h | ⟨Hf,pf,h1,_,_⟩
 ·subst hn; exact .bad h he
 ·exact .bad h1 (by decide)
theorem mat_dNone {len:Nat} (hT:TbOf T L D) (hM:Mat c s0 p H T.mn (glen c H fin T len p)) (h:∀ k,hit D (c.N / 2 ^ p) k=false):Odd c s0:=by
 rw [glen_sym hT] at hM
 unfold sym at hM
 rw [tab_none h] at hM
 by_cases hc:c.tot < p+max (mnOf D) (0 % 16)
 ·rw [if_pos hc] at hM; exact hM.odd rfl (by decide)
 ·rw [if_neg hc,if_pos (by decide)] at hM; exact hM.odd rfl (by decide)
theorem mx_ln {k:Nat}:ln D k≤mxOf D:=by
 by_cases h:ln D k=0
 ·omega
 ·exact mx_le_mem _ (List.mem_of_getElem? (ln_mem h).2)
theorem few_ln (hok:okL D=true) (h15:∀ v ∈ D,v≤15) (hu:usedN D < 2) (k:Nat):ln D k≤1:=by
 have hm:=mx_ln (D:=D) (k:=k)
 rcases okL_cases hok with h1 | h1 | ⟨h1,_⟩
 ·omega
 ·have h2:=usedN_full h1
  obtain ⟨l,h3,h4,h5,h6⟩:=used_one (show usedN D=1 by omega)
  have h7:=h15 l h4
  have h8:=h6 h7
  rw [(full_iff h15).1 h1] at h8
  have h9:2 ^ (15 - l) < 2 ^ 15:=Nat.pow_lt_pow_right (by decide) (by omega)
  omega
 ·omega
theorem no_hit (h:usedN D=0) (x k:Nat):hit D x k=false:=by
 cases hh:hit D x k with
 | false=>rfl
 | true=>
  have h1:=(hit_iff.1 hh).1
  exact absurd (used_zero h _ (List.mem_of_getElem? (ln_mem h1).2)) h1
theorem cod_284 (hT:TbOf T L D) (hI:Cod c s0 p H fin T) {p':Nat} (h:SymOk L c p 284 p') (hk:tk c.N p' 5=31):Odd c s0:=by
 rcases hI with hI | ⟨Hf,pf,h1,_,_⟩
 ·by_cases hc:c.tot < p+max T.mn (ln L 284)
  ·refine .bad (hI.stop (p:=p) (H:=H) (e:=.cut) ?_) (by decide)
   show gcoded c H fin T p=_
   unfold gcoded
   rw [hT.lit,sym_hit hT.l15 h,if_pos hc]
  ·refine .inr (.inl ⟨p,H,fin,T,hI,.inr (.inr ⟨p',?_,hk⟩)⟩)
   rw [hT.lit,sym_hit hT.l15 h,if_neg hc]
 ·exact .bad h1 (by decide)
theorem cod_long (hI:Cod c s0 p H fin T) (hc:HdOk c) (hp:p≤c.tot) (hl:126976≤H.length):Lng c s0:=by
 rcases hI with hI | ⟨Hf,pf,h1,_,_⟩
 ·exact hI.long hc hp hl
 ·exact ⟨Hf,.cut,pf,h1,.inl (by decide)⟩
theorem mat_long {len d mn:Nat} (hM:Mat c s0 p H mn (gfar c H fin T len d p)) (hc:HdOk c) (hp:p≤c.tot) (hl:126976≤H.length):Lng c s0:=by
 unfold gfar at hM
 by_cases h:min 32768 H.length < d
 ·rw [if_pos h] at hM
  rcases hM with hM | ⟨Hf,pf,h1,_,_⟩
  ·exact ⟨_,_,_,hM,.inl (by decide)⟩
  ·exact ⟨Hf,.cut,pf,h1,.inl (by decide)⟩
 ·rw [if_neg h] at hM
  rcases hM with hM | ⟨Hf,pf,h1,_,_⟩
  ·exact Reach.long hM hc hp hl
  ·exact ⟨Hf,.cut,pf,h1,.inl (by decide)⟩
theorem reach_type {q:Nat} (hI:Reach c s0 ⟨p,H,.block⟩) (h:c.tot < p+3):Good c s0 3 H q:=by
 refine .isShort (hI.stop (p:=p) (H:=H) ?_) (self_app H)
 show gblock c H p=_
 unfold gblock
 rw [if_pos h]
theorem reach_three {q:Nat} (hI:Reach c s0 ⟨p,H,.block⟩) (h:p+3≤c.tot) (ht:tk c.N (p+1) 2=3):Good c s0 2 H q:=by
 refine .isWrong (hI.stop (p:=p) (H:=H) (e:=.bad) ?_) (by decide) (self_app H)
 show gblock c H p=_
 unfold gblock
 rw [if_neg (by omega),if_neg (by omega),if_neg (by omega),if_neg (by omega)]
theorem reach_fixed (hI:Reach c s0 ⟨p,H,.block⟩) (h:p+3≤c.tot) (ht:tk c.N (p+1) 2=1):Reach c s0 ⟨p+3,H,.coded (tk c.N p 1 == 1) c.fx⟩:=by
 refine hI.go ?_
 show gblock c H p=_
 unfold gblock
 rw [if_neg (by omega),if_neg (by omega),if_pos ht]
theorem reach_dynamic (hI:Reach c s0 ⟨p,H,.block⟩) (h:p+3≤c.tot) (ht:tk c.N (p+1) 2=2):
  ReachN c s0 (match c.hd (p+3) with | .cut=>.stop H .cut p | .bad=>.stop H .bad p | .ok T p'=>.go ⟨p',H,.coded (tk c.N p 1 == 1) T⟩):=by
 have:=hI.next
 have e:gstep c ⟨p,H,.block⟩=gblock c H p:=rfl
 rw [e] at this
 unfold gblock at this
 rw [if_neg (by omega),if_neg (by omega),if_neg (by omega),if_pos ht] at this
 exact this
theorem reach_stored (hI:Reach c s0 ⟨p,H,.block⟩) (h:p+3≤c.tot) (ht:tk c.N (p+1) 2=0):
  ReachN c s0 (if c.tot < 8 * ((p+10) / 8)+32 then .stop H .cut p
   else if tk c.N (8 * ((p+10) / 8)) 16+tk c.N (8 * ((p+10) / 8)+16) 16≠65535 then .stop H .bad p
   else .go ⟨8 * ((p+10) / 8)+32,H,.stored (tk c.N p 1 == 1) (tk c.N (8 * ((p+10) / 8)) 16)⟩):=by
 have:=hI.next
 have e:gstep c ⟨p,H,.block⟩=gblock c H p:=rfl
 rw [e] at this
 unfold gblock at this
 rw [if_neg (by omega),if_pos ht] at this
 exact this
theorem stored_byte {n q:Nat} (hI:Reach c s0 ⟨p,H,.stored fin (n+1)⟩):(c.tot < p+8→Good c s0 3 H q)∧(p+8≤c.tot→Reach c s0 ⟨p+8,H++[tk c.N p 8],.stored fin n⟩):=by
 refine ⟨fun h=>.isShort (hI.stop (p:=p) (H:=H) ?_) (self_app H),fun h=>hI.go ?_⟩
 ·show (if _ then _ else _)=_
  rw [if_pos h]
 ·show (if _ then _ else _)=_
  rw [if_neg (by simp only; omega)]
theorem stored_end (hI:Reach c s0 ⟨p,H,.stored fin 0⟩):(fin=true→Runs c s0 H .fin p)∧(fin=false→Reach c s0 ⟨p,H,.block⟩):=by
 cases fin with
 | true=>exact ⟨fun _=>hI.stop rfl,fun h=>by cases h⟩
 | false=>exact ⟨fun h=>(by cases h),fun _=>hI.go rfl⟩
end
end Go.M

namespace Go.M
set_option maxRecDepth 100000
def ChOk (l:List (Nat×Nat)):Prop:=∀ q ∈ l,q.1 < 2 ^ q.2
def chLen:List (Nat×Nat)→Nat
 | []=>0
 | q::l=>q.2+chLen l
def chVal:List (Nat×Nat)→Nat
 | []=>0
 | q::l=>q.1+2 ^ q.2 * chVal l
def At (X:Nat):Nat→List (Nat×Nat)→Prop
 | _,[]=>True
 | n,q::l=>tk X n q.2=q.1∧At X (n+q.2) l
theorem chLen_append:∀ (a b:List (Nat×Nat)),chLen (a++b)=chLen a+chLen b
 | [],b=>by simp [chLen]
 | q::a,b=>by simp only [List.cons_append,chLen,chLen_append a b]; omega
theorem At.append {X:Nat}:∀ {n:Nat} {a b:List (Nat×Nat)},At X n (a++b) ↔ At X n a∧At X (n+chLen a) b
 | n,[],b=>by simp [At,chLen]
 | n,q::a,b=>by
  simp only [List.cons_append,At,chLen,At.append (n:=n+q.2) (a:=a) (b:=b)]
  rw [show n+q.2+chLen a=n+(q.2+chLen a) from by omega,and_assoc]
theorem chVal_lt:∀ {l:List (Nat×Nat)},ChOk l→chVal l < 2 ^ chLen l
 | [],_=>by simp [chVal,chLen]
 | q::l,h=>by
  have h1:=h q (List.mem_cons_self ..)
  have h2:=chVal_lt (l:=l) fun x hx=>h x (List.mem_cons_of_mem _ hx)
  simp only [chVal,chLen,Nat.pow_add]
  have h3:2 ^ q.2 * (chVal l+1)≤2 ^ q.2 * 2 ^ chLen l:=Nat.mul_le_mul_left _ h2
  rw [Nat.mul_add,Nat.mul_one] at h3
  omega
theorem chVal_append:∀ (a b:List (Nat×Nat)),chVal (a++b)=chVal a+2 ^ chLen a * chVal b
 | [],b=>by simp [chVal,chLen]
 | q::a,b=>by
  simp only [List.cons_append,chVal,chLen,chVal_append a b]
  rw [Nat.mul_add,Nat.pow_add,Nat.add_assoc,Nat.mul_assoc]
theorem at_of {X:Nat}:∀ {n:Nat} {l:List (Nat×Nat)},ChOk l→tk X n (chLen l)=chVal l→At X n l
 | _,[],_,_=>trivial
 | n,q::l,h,he=>by
  have h1:=h q (List.mem_cons_self ..)
  simp only [chLen,chVal] at he
  rw [tk_add] at he
  have h2:=tk_lt X n q.2
  have h3:tk X n q.2=q.1:=by
   have e:=congrArg (· % 2 ^ q.2) he
   simp only [Nat.add_mul_mod_self_left,Nat.mod_eq_of_lt h1,Nat.mod_eq_of_lt h2] at e
   exact e
  refine ⟨h3,at_of (fun x hx=>h x (List.mem_cons_of_mem _ hx)) ?_⟩
  rw [h3] at he
  exact Nat.eq_of_mul_eq_mul_left (Nat.pow_pos (by decide)) (Nat.add_left_cancel he)
theorem at_stream {src:List Nat} {l:List (Nat×Nat)} (hl:ChOk l) (h:num src % 2 ^ chLen l=chVal l):At (num src) 0 l:=by
 refine at_of hl ?_
 unfold tk
 rw [Nat.pow_zero,Nat.div_one,h]
theorem num_append:∀ (a b:List Nat),num (a++b)=num a+2 ^ (8 * a.length) * num b
 | [],b=>by simp [num]
 | x::a,b=>by
  simp only [List.cons_append,num,num_append a b,List.length_cons]
  rw [show 8 * (a.length+1)=8+8 * a.length from by omega,Nat.pow_add,Nat.mul_add, ← Nat.mul_assoc,show (2:Nat) ^ 8=256 from rfl]
  omega
theorem num_tail {a b:List Nat} (_ha:∀ v ∈ a,v < 256) {k:Nat} (hk:k≤8 * a.length):num (a++b) % 2 ^ k=num a % 2 ^ k:=by
 rw [num_append]
 obtain ⟨d,hd⟩:=Nat.exists_eq_add_of_le hk
 rw [hd,Nat.pow_add,Nat.mul_assoc,Nat.add_mul_mod_self_left]
def sy (L:List Nat) (k:Nat):Nat×Nat:=(rv (ln L k) (cd L k),ln L k)
theorem sy_ok (L:List Nat) (k:Nat):(sy L k).1 < 2 ^ (sy L k).2:=rv_lt _ _
theorem hit_ext' {L:List Nat} {x t:Nat} (hok:okL L=true) (ht:ln L t≠0):hit L x t=true ↔ x % 2 ^ ln L t=rv (ln L t) (cd L t):=by
 rw [hit_iff,rv_eq_iff (cd_lt hok ht)]
 exact ⟨fun h=>h.2,fun h=>⟨ht,h⟩⟩
theorem sym_at {L:List Nat} {c:Sc} {n k:Nat} (hok:okL L=true) (hk:ln L k≠0) (h:tk c.N n (sy L k).2=(sy L k).1) (hle:n+ln L k≤c.tot):SymOk L c n k (n+ln L k):=
 ⟨(hit_ext' hok hk).2 h,rfl,hle⟩
inductive ItIs (L D:List Nat):List Nat→List (Nat×Nat)→List Nat→Prop
 | lit {H:List Nat} {b:Nat}:b < 256→ln L b≠0→ItIs L D H [sy L b] (H++[b])
 | mat {H:List Nat} {k v d w:Nat}:257≤k→k < 286→v < 2 ^ (lenS k).2→d < 30→w < 2 ^ (dstS d).2→ln L k≠0→ln D d≠0→(dstS d).1+w≤min 32768 H.length→
   ItIs L D H [sy L k,(v,(lenS k).2),sy D d,(w,(dstS d).2)] (lz H ((dstS d).1+w) ((lenS k).1+v))
inductive ItsAre (L D:List Nat):List Nat→List (Nat×Nat)→List Nat→Prop
 | nil {H:List Nat}:ItsAre L D H [] H
 | cons {H H' H'':List Nat} {a b:List (Nat×Nat)}:ItIs L D H a H'→ItsAre L D H' b H''→ItsAre L D H (a++b) H''
theorem ItIs.ok {L D H H':List Nat} {a:List (Nat×Nat)} (h:ItIs L D H a H'):ChOk a:=by
 intro q hq
 cases h with
 | lit h1 h2=>simp only [List.mem_singleton] at hq; subst hq; exact sy_ok _ _
 | mat h1 h2 h3 h4 h5 h6 h7 h8=>
  simp only [List.mem_cons,List.not_mem_nil,or_false] at hq
  rcases hq with rfl | rfl | rfl | rfl
  ·exact sy_ok _ _
  ·exact h3
  ·exact sy_ok _ _
  ·exact h5
theorem ChOk.append {a b:List (Nat×Nat)} (ha:ChOk a) (hb:ChOk b):ChOk (a++b):=by
 intro q hq
 rcases List.mem_append.1 hq with h | h
 ·exact ha q h
 ·exact hb q h
theorem ItsAre.ok {L D H H':List Nat} {a:List (Nat×Nat)} (h:ItsAre L D H a H'):ChOk a:=by
 induction h with
 | nil=>intro q hq; cases hq
 | cons h1 _ ih=>exact h1.ok.append ih
section
variable {c:Sc} {s0:St} {T:Tb} {L D:List Nat} {fin:Bool}
theorem item_reach (hT:TbOf T L D) {n:Nat} {H H':List Nat} {a:List (Nat×Nat)} (h:ItIs L D H a H') (hA:At c.N n a) (hle:n+chLen a+T.mn≤c.tot) (hR:Reach c s0 ⟨n,H,.coded fin T⟩):
  Reach c s0 ⟨n+chLen a,H',.coded fin T⟩:=by
 have fin':∀ {p H'},p+T.mn≤c.tot→Cod c s0 p H' fin T→Reach c s0 ⟨p,H',.coded fin T⟩:=by
  intro p H' hp h
  rcases h with h | ⟨_,_,_,_,h⟩
  ·exact h
  ·omega
 cases h with
 | lit h1 h2=>
  simp only [chLen] at hle ⊢
  have hs:=sym_at (full_ok hT.full) h2 hA.1 (by simp only [sy] at hle; omega)
  have:=mat_lit (cod_sym hT (.inl hR) hs) h1
  exact fin' (by simp only [sy] at hle ⊢; omega) this
 | @mat k v d w h1 h2 h3 h4 h5 h6 h7 h8=>
  obtain ⟨a1,a2,a3,a4,_⟩:=hA
  simp only [chLen,sy] at hle a1 a2 a3 a4 ⊢
  have hs:=sym_at (full_ok hT.full) h6 a1 (by omega)
  have m1:=mat_len (cod_sym hT (.inl hR) hs) h1 h2 (by omega)
  have hs2:=sym_at hT.dok h7 a3 (by omega)
  have m2:=mat_far (mat_dSym hT m1 hs2) h4 (by omega)
  rw [a2,a4] at m2
  have m3:=mat_copy m2 h8
  have e:n+(ln L k+((lenS k).2+(ln D d+((dstS d).2+0))))=n+ln L k+(lenS k).2+ln D d+(dstS d).2:=by omega
  rw [e]
  exact fin' (by omega) m3
theorem items_reach (hT:TbOf T L D) {H H':List Nat} {a:List (Nat×Nat)} (h:ItsAre L D H a H'):∀ {n:Nat},At c.N n a→n+chLen a+T.mn≤c.tot→Reach c s0 ⟨n,H,.coded fin T⟩→
  Reach c s0 ⟨n+chLen a,H',.coded fin T⟩:=by
 induction h with
 | nil=>intro n _ _ hR; exact hR
 | cons h1 _ ih=>
  intro n hA hle hR
  rw [At.append] at hA
  rw [chLen_append] at hle ⊢
  have:=ih hA.2 (by omega) (item_reach hT h1 hA.1 (by omega) hR)
  rw [Nat.add_assoc] at this
  exact this
theorem coded_reach (hT:TbOf T L D) {H H':List Nat} {a:List (Nat×Nat)} (h:ItsAre L D H a H') {n:Nat} (he:ln L 256≠0) (hA:At c.N n (a++[sy L 256])) (hle:n+chLen (a++[sy L 256])≤c.tot) (hR:Reach c s0 ⟨n,H,.coded fin T⟩):
  (fin=true→Runs c s0 H' .fin (n+chLen (a++[sy L 256])))∧(fin=false→Reach c s0 ⟨n+chLen (a++[sy L 256]),H',.block⟩):=by
 rw [At.append] at hA
 rw [chLen_append] at hle ⊢
 have e:chLen [sy L 256]=ln L 256:=by simp [chLen,sy]
 rw [e] at hle ⊢
 have hmn:=hT.eob he
 have h1:=items_reach hT h hA.1 (by omega) hR
 have hs:=sym_at (full_ok hT.full) he hA.2.1 (by omega)
 have:=cod_eob hT (.inl h1) hs
 rw [Nat.add_assoc] at this
 exact this
end
theorem fixL_full:Full fixL:=by unfold Full; decide+kernel
theorem fixL_15:∀ v ∈ fixL,v≤15:=by decide+kernel
theorem fixL_len:fixL.length=288:=by decide+kernel
theorem fixL_mn:mnOf fixL=7:=by decide+kernel
theorem fixL_256:ln fixL 256=7:=by decide+kernel
theorem fixL_ne {k:Nat} (h:k < 288):ln fixL k≠0:=by
 have h0:∀ j:Fin 288,ln fixL j.val≠0:=by decide+kernel
 exact h0 ⟨k,h⟩
theorem fixT_of:TbOf fxT fixL fixD where
 lit:=rfl
 full:=fixL_full
 l15:=fixL_15
 ll:=by rw [fixL_len]; decide
 mn:=Nat.le_refl _
 eob _:=by rw [fixL_256]; show mnOf fixL≤7; rw [fixL_mn]; decide
 d15:=fixD_15
 dist:=.inr ⟨rfl,rfl⟩
theorem head_bits {X n v:Nat} (h:tk X n 3=v):tk X n 1=v % 2∧tk X (n+1) 2=v / 2:=by
 have h1:tk X n 3 % 2=tk X n 1:=tk_low X n 3 1 (by decide)
 have h2:tk X n 3 / 2=tk X (n+1) 2:=tk_drop X n 3 1 (by decide)
 rw [h] at h1 h2
 exact ⟨by omega,by omega⟩
def BlkIs (n:Nat) (H:List Nat) (a:List (Nat×Nat)) (H':List Nat) (fin:Bool):Prop:=
 ChOk a∧∀ (c:Sc) (s0:St),c.fx=fxT→c.hd=hdOf c.N c.tot→At c.N n a→n+chLen a≤c.tot→Reach c s0 ⟨n,H,.block⟩→
  (fin=true→Runs c s0 H' .fin (n+chLen a))∧(fin=false→Reach c s0 ⟨n+chLen a,H',.block⟩)
def fl (b:Bool):Nat:=if b then 1 else 0
theorem blk_fixed {n:Nat} {H H':List Nat} {a:List (Nat×Nat)} (fin:Bool) (h:ItsAre fixL fixD H a H'):BlkIs n H ((fl fin+2,3)::(a++[sy fixL 256])) H' fin:=by
 refine ⟨?_,fun c s0 hfx _ hA hle hR=>?_⟩
 ·intro q hq
  rcases List.mem_cons.1 hq with rfl | hq
  ·cases fin <;> decide
  ·rcases List.mem_append.1 hq with hq | hq
   ·exact h.ok q hq
   ·simp only [List.mem_singleton] at hq; subst hq; exact sy_ok _ _
 ·obtain ⟨h1,h2⟩:=hA
  simp only at h1 h2
  simp only [chLen] at hle ⊢
  obtain ⟨g1,g2⟩:=head_bits h1
  have ht:tk c.N (n+1) 2=1:=by rw [g2]; cases fin <;> rfl
  have hf:(tk c.N n 1 == 1)=fin:=by rw [g1]; cases fin <;> rfl
  have hR2:=reach_fixed hR (by omega) ht
  rw [hf,hfx] at hR2
  have:=coded_reach fixT_of h (fixL_ne (by decide)) h2 (by omega) hR2
  rw [← Nat.add_assoc]
  exact this
theorem stored_reach {c:Sc} {s0:St} {fin:Bool}:∀ {T H:List Nat} {n:Nat},At c.N n (T.map fun b=>(b,8))→n+8 * T.length≤c.tot→Reach c s0 ⟨n,H,.stored fin T.length⟩→Reach c s0 ⟨n+8 * T.length,H++T,.stored fin 0⟩
 | [],H,n,_,_,hR=>by simpa using hR
 | b::T,H,n,hA,hle,hR=>by
  obtain ⟨h1,h2⟩:=hA
  simp only [List.length_cons] at hle hR ⊢
  have h3:=(stored_byte (q:=0) hR).2 (by omega)
  rw [h1] at h3
  have:=stored_reach (T:=T) (H:=H++[b]) (n:=n+8) h2 (by omega) h3
  rw [List.append_assoc,show n+8+8 * T.length=n+8 * (T.length+1) from by omega] at this
  exact this
theorem chLen_bytes:∀ T:List Nat,chLen (T.map fun b=>(b,8))=8 * T.length
 | []=>rfl
 | b::T=>by simp only [List.map_cons,chLen,chLen_bytes T,List.length_cons]; omega
theorem blk_stored {n:Nat} {H T:List Nat} (fin:Bool) {pv pn:Nat} (hp:pv < 2 ^ pn) (hal:n+3+pn=8 * ((n+10) / 8)) (hT:T.length≤65535) (hb:∀ v ∈ T,v < 256):
  BlkIs n H ((fl fin,3)::(pv,pn)::(T.length,16)::(65535 - T.length,16)::T.map fun b=>(b,8)) (H++T) fin:=by
 refine ⟨?_,fun c s0 _ _ hA hle hR=>?_⟩
 ·intro q hq
  simp only [List.mem_cons] at hq
  rcases hq with rfl | rfl | rfl | rfl | hq
  ·cases fin <;> decide
  ·exact hp
  ·show T.length < 2 ^ 16; omega
  ·show 65535 - T.length < 2 ^ 16; omega
  ·obtain ⟨b,hb',rfl⟩:=List.mem_map.1 hq
   exact hb b hb'
 ·obtain ⟨h1,h2,h3,h4,h5⟩:=hA
  simp only at h1 h2 h3 h4 h5
  simp only [chLen,chLen_bytes] at hle ⊢
  obtain ⟨g1,g2⟩:=head_bits h1
  have ht:tk c.N (n+1) 2=0:=by rw [g2]; cases fin <;> rfl
  have hf:(tk c.N n 1 == 1)=fin:=by rw [g1]; cases fin <;> rfl
  have hR2:=reach_stored hR (by omega) ht
  rw [hal] at h3 h4 h5
  rw [if_neg (by omega),h3,h4,if_neg (by omega),hf] at hR2
  have h6:=stored_reach (n:=8 * ((n+10) / 8)+32) (T:=T) (H:=H) (by rw [show 8 * ((n+10) / 8)+32=8 * ((n+10) / 8)+16+16 from by omega]; exact h5) (by omega) hR2
  have h7:=stored_end h6
  rw [show n+(3+(pn+(16+(16+8 * T.length))))=8 * ((n+10) / 8)+32+8 * T.length from by omega]
  exact h7
end Go.M

namespace Go.M
def ownT (L D:List Nat):Tb:=⟨tabV L,max (mnOf L) (ln L 256),some (tabV D,mnOf D)⟩
theorem ownT_of {L D:List Nat} (hL:Full L) (hD:okL D=true) (h15:∀ v ∈ L,v≤15) (h15':∀ v ∈ D,v≤15) (hl:L.length≤288):TbOf (ownT L D) L D where
 lit:=rfl
 full:=hL
 l15:=h15
 ll:=hl
 mn:=Nat.le_max_left ..
 eob:=fun h=>by
  have:=(ln_le h).1
  show max _ _≤_
  omega
 d15:=h15'
 dist:=.inl ⟨rfl,hD⟩
end Go.M

namespace Go.M
set_option maxRecDepth 100000
inductive ItN (L D:List Nat):List Nat→List (Nat×Nat)→List Nat→Prop
 | lit {H:List Nat} {b:Nat}:b < 256→ln L b≠0→ItN L D H [sy L b] (H++[b])
 | mat {H:List Nat} {k v d w:Nat}:(k=284→v≠31)→257≤k→k < 286→v < 2 ^ (lenS k).2→d < 30→w < 2 ^ (dstS d).2→ln L k≠0→ln D d≠0→(dstS d).1+w≤min 32768 H.length→
   ItN L D H [sy L k,(v,(lenS k).2),sy D d,(w,(dstS d).2)] (lz H ((dstS d).1+w) ((lenS k).1+v))
inductive ItsN (L D:List Nat):List Nat→List (Nat×Nat)→List Nat→Prop
 | nil {H:List Nat}:ItsN L D H [] H
 | cons {H H' H'':List Nat} {a b:List (Nat×Nat)}:ItN L D H a H'→ItsN L D H' b H''→ItsN L D H (a++b) H''
theorem ItN.is {L D H H':List Nat} {a:List (Nat×Nat)} (h:ItN L D H a H'):ItIs L D H a H':=by
 cases h with
 | lit h1 h2=>exact .lit h1 h2
 | mat _ h1 h2 h3 h4 h5 h6 h7 h8=>exact .mat h1 h2 h3 h4 h5 h6 h7 h8
theorem ItsN.are {L D H H':List Nat} {a:List (Nat×Nat)} (h:ItsN L D H a H'):ItsAre L D H a H':=by
 induction h with
 | nil=>exact .nil
 | cons h1 _ ih=>exact .cons h1.is ih
theorem ItsN.snoc {L D H H1 H2:List Nat} {a c:List (Nat×Nat)} (h:ItsN L D H a H1) (h':ItN L D H1 c H2):ItsN L D H (a++c) H2:=by
 induction h with
 | nil=>simpa using ItsN.cons h' .nil
 | cons h1 _ ih=>rw [List.append_assoc]; exact .cons h1 (ih h')
end Go.M
