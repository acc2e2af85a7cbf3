/- Maps of numbers: made, filled, asked, walked through. The reference: the book of codes. The reference: symbols, read bit by bit. -/
import Derived.Test.YtjphakdpokombaaGreatDoorPks
namespace Go.M
open Go
set_option maxRecDepth 100000
theorem u_map:PP.underlying t_map_int_int=some (.map t_int t_int):=by kernel_rfl
theorem u_int:PP.underlying t_int=some (.int .i64):=by kernel_rfl
def lk:List (Int×Int)→Int→Option Int
 | [],_=>none
 | q::l,x=>if x=q.1 then some q.2 else lk l x
theorem lk_some {x v:Int}:∀ {l:List (Int×Int)},lk l x=some v→(x,v) ∈ l
 | [],h=>by cases h
 | q::l,h=>by
  unfold lk at h
  split at h
  ·rename_i e
   simp only [Option.some.injEq] at h
   subst e; subst h; exact List.mem_cons_self ..
  ·exact List.mem_cons_of_mem _ (lk_some h)
theorem lk_none {x:Int}:∀ {l:List (Int×Int)},lk l x=none→∀ q ∈ l,q.1≠x
 | [],_,q,hq=>by cases hq
 | q::l,h,y,hy=>by
  unfold lk at h
  split at h
  ·cases h
  ·rename_i e
   rcases List.mem_cons.1 hy with rfl | hy
   ·exact fun e'=>e e'.symm
   ·exact lk_none h y hy
def kvs (es:List MapEntry) (l:List (Int×Int)):Prop:=es.map (fun e=>(e.key,e.val))=l.map (fun q=>(Value.int .i64 q.1,Value.int .i64 q.2))
theorem kvs.mem {es:List MapEntry} {l:List (Int×Int)} (h:kvs es l) {e:MapEntry} (he:e ∈ es):∃ q ∈ l,e.key=.int .i64 q.1∧e.val=.int .i64 q.2:=by
 have:(e.key,e.val) ∈ l.map (fun q=>(Value.int .i64 q.1,Value.int .i64 q.2)):=h ▸ List.mem_map_of_mem (f:=fun e:MapEntry=>(e.key,e.val)) he
 obtain ⟨q,hq,e1⟩:=List.mem_map.1 this
 simp only [Prod.mk.injEq] at e1
 exact ⟨q,hq,e1.1.symm,e1.2.symm⟩
theorem kvs.length {es:List MapEntry} {l:List (Int×Int)} (h:kvs es l):es.length=l.length:=by
 have:=congrArg List.length h
 simpa using this
theorem findNow_I (x:Int):∀ (es:List MapEntry) (l:List (Int×Int)) (i:Nat),kvs es l→
  (lk l x=none→Instr.findNow (.int .i64) (.int .i64 x) es i=some none)∧(∀ v,lk l x=some v→∃ j,Instr.findNow (.int .i64) (.int .i64 x) es i=some (some (j,.int .i64 v))∧(es.drop (j - i)).head?.map (·.key)=some (.int .i64 x)∧i≤j)
 | [],[],i,_=>⟨fun _=>rfl,fun v h=>absurd h (by simp [lk])⟩
 | [],q::l,i,h=>by simp [kvs] at h
 | e::es,[],i,h=>by simp [kvs] at h
 | e::es,q::l,i,h=>by
  simp only [kvs,List.map_cons,List.cons.injEq,Prod.mk.injEq] at h
  obtain ⟨⟨h1,h2⟩,h3⟩:=h
  obtain ⟨i1,i2⟩:=findNow_I x es l (i+1) h3
  have hs:Instr.sameNow (.int .i64) (.int .i64 x) e.key=some (x == q.1):=by rw [h1]; rfl
  unfold Instr.findNow lk
  rw [hs]
  by_cases hx:x=q.1
  ·rw [if_pos hx,beq_iff_eq.2 hx]
   refine ⟨fun h=>(by cases h),fun v hv=>?_⟩
   simp only [Option.some.injEq] at hv
   subst hv
   exact ⟨i,by rw [h2],by simp [h1,hx],Nat.le_refl _⟩
  ·have:(x == q.1)=false:=by simpa using hx
   rw [if_neg hx,this]
   refine ⟨i1,fun v hv=>?_⟩
   obtain ⟨j,h4,h5,h6⟩:=i2 v hv
   refine ⟨j,h4,?_,by omega⟩
   rw [show j - i=(j - (i+1))+1 from by omega,List.drop_succ_cons]
   exact h5
structure MapI (m:Mem) (r:Nat) (es:Array MapEntry) (clock:Nat) (l:List (Int×Int)):Prop where
 obj:m[r]?=some (.map es clock)
 kv:kvs es.toList l
 born:∀ e ∈ es.toList,e.born < clock
section
variable {m:Mem} {r:Nat} {es:Array MapEntry} {clock:Nat} {l:List (Int×Int)}
theorem MapI.fr (h:MapI m r es clock l) {S:Nat→Nat→Prop} {m':Mem} (hf:Fr S m m') (hs: ¬ S r 0):MapI m' r es clock l:=
 ⟨hf.objs r _ h.obj (by simp) hs,h.kv,h.born⟩
theorem MapI.sp (h:MapI m r es clock l) {N0 s:Nat} {m':Mem} (hf:SpF N0 s m m'):MapI m' r es clock l:=
 ⟨hf.objs r _ h.obj (by simp),h.kv,h.born⟩
theorem makeMap_W {K:Value→Mem→Prop} (hk:MapI (m.push (.map #[] 0)) m.size #[] 0 []→K (.map (some m.size)) (m.push (.map #[] 0))):SemW PP (sv (Instr.makeMap t_map_int_int none)) m (NextW PP K):=by
 refine sv_W ?_
 show K (.map (some m.size)) (m.push (.map #[] 0))
 exact hk ⟨by simp,rfl,by simp⟩
theorem ReadW.bindI {α β:Type} {P:Program} {m:Mem} {s:Sem α} {f:α→Sem β} {K:β→Prop} (h:ReadW P m s (fun a=>ReadW P m (f a) K)):ReadW P m (s >>= f) K:=ReadW.bind h
theorem ReadW.und {P:Program} {t:TypeId} {d:TypeDesc} {K:TypeDesc→Prop} (ht:P.underlying t=some d) (h:K d):ReadW P m (underlying t) K:=by
 show ReadW P m (match P.underlying t with | some d=>pure d | none=>stuck _) K
 rw [ht]; exact h
theorem ReadW.info {P:Program} {t:TypeId} {i:TypeInfo} {K:TypeInfo→Prop} (ht:P.info? t=some i) (h:K i):ReadW P m (typeInfo t) K:=by
 show ReadW P m (match P.info? t with | some i=>pure i | none=>stuck _) K
 rw [ht]; exact h
theorem ReadW.zeroI {P:Program} {t:TypeId} {i:TypeInfo} {z:Value} {K:Value→Prop} (ht:P.info? t=some i) (hz:i.zero=some z) (h:K z):ReadW P m (zeroValue t) K:=by
 refine ReadW.bindI (ReadW.info ht ?_)
 show ReadW P m (match i.zero with | some v=>pure v | none=>unsupported _) K
 rw [hz]; exact h
theorem ReadW.obj {P:Program} {es:Array MapEntry} {clock:Nat} {K:Obj→Prop} (ho:m[r]?=some (.map es clock)) (h:K (.map es clock)):ReadW P m (getObj r) K:=by
 unfold getObj
 simp only [ReadW,ho]; exact h
theorem SemW.obj {P:Program} {o:Obj} {K:Obj→Mem→Prop} (ho:m[r]?=some o) (hc:∀ c t fr,o≠.cells c t fr) (h:K o m):SemW P (getObj r) m K:=by
 unfold getObj
 simp only [SemW,ho]
 cases o <;> first | exact h | exact absurd rfl (hc _ _ _)
theorem SemW.setO {P:Program} {o o':Obj} {K:Unit→Mem→Prop} (ho:m[r]?=some o) (hc:∀ c t fr,o≠.cells c t fr) (h:K () (m.setIfInBounds r o')):SemW P (setObj r o') m K:=by
 unfold setObj
 simp only [SemW,ho]
 cases o <;> first | exact h | exact absurd rfl (hc _ _ _)
theorem checkKey_W {b:Bool} {x:Int} {K:Unit→Mem→Prop} (h:K () m):SemW PP (Instr.checkKey b 10000 t_int (.int .i64 x)) m K:=by
 show SemW PP (Instr.checkKey b (9999+1) t_int (.int .i64 x)) m K
 generalize 9999=d
 rw [Instr.checkKey]
 exact SemW.bindI (SemW.und u_int h)
theorem checkKey_R {b:Bool} {x:Int} {K:Unit→Prop} (h:K ()):ReadW PP m (Instr.checkKey b 10000 t_int (.int .i64 x)) K:=by
 show ReadW PP m (Instr.checkKey b (9999+1) t_int (.int .i64 x)) K
 generalize 9999=d
 rw [Instr.checkKey]
 exact ReadW.bindI (ReadW.und u_int h)
theorem lookup_I (h:MapI m r es clock l) {x:Int} {K:Value→Prop} (h1:∀ v,lk l x=some v→K (.tuple #[.int .i64 v,.bool true])) (h2:lk l x=none→K (.tuple #[.int .i64 0,.bool false])):
  ReadW PP m (Instr.lookup t_map_int_int (.map (some r)) (.int .i64 x) true) K:=by
 unfold Instr.lookup
 refine ReadW.bindI (ReadW.und u_map ?_)
 refine ReadW.bindI (ReadW.bindI (ReadW.obj h.obj ?_))
 show ReadW PP m (Instr.checkKey es.isEmpty 10000 t_int (.int .i64 x) >>= _) K
 refine ReadW.bindI (checkKey_R ?_)
 obtain ⟨f1,f2⟩:=findNow_I x es.toList l 0 h.kv
 refine ReadW.bindI ?_
 unfold Instr.findKey
 refine ReadW.bindI (ReadW.und u_int ?_)
 cases hl:lk l x with
 | none=>
  rw [f1 hl]
  obtain ⟨i,hi⟩:=one_int
  exact ReadW.bindI (ReadW.zeroI hi.info hi.zero (h2 hl))
 | some v=>
  obtain ⟨j,f3,_⟩:=f2 v hl
  rw [f3]
  exact h1 v hl
theorem len_I (h:MapI m r es clock l) {K:Value→Prop} (hk:K (.int .i64 (l.length:Int))):ReadW PP m (Builtin.len_ #[t_map_int_int] t_int #[.map (some r)]) K:=by
 show ReadW PP m (do
  let u ← underlying t_map_int_int
  match u,Value.map (some r) with
  | .string,.string s=>pure (goInt s.size)
  | .array n _,_=>pure (goInt n)
  | .pointer arr,_=>
   let .array n _ ← underlying arr | stuck "len: pointer to array expected"
   pure (goInt n)
  | .slice _,.slice _ n _=>pure (goInt n)
  | .map _ _,.map none | .chan _ _,.chan none=>pure (goInt 0)
  | .map _ _,.map (some r)=>
   let .map entries _ ← getObj r | stuck "len: map expected"
   pure (goInt entries.size)
  | .chan _ _,.chan (some r)=>
   let .chan _ buf _ _ _ timer ← getObj r | stuck "len: channel expected"
   pure (goInt (if timer then 0 else buf.size))
  | _,_=>stuck "len: string, array, pointer to array, slice, map or channel expected") K
 refine ReadW.bindI (ReadW.und u_map ?_)
 refine ReadW.bindI (ReadW.obj h.obj ?_)
 have:es.size=l.length:=by have:=h.kv.length; simpa using this
 show K (goInt es.size)
 rw [this]
 exact hk
theorem modify_same {α β:Type} (g:α→β) (f:α→α) (hf:∀ a,g (f a)=g a):∀ (l:List α) (i:Nat),(l.modify i f).map g=l.map g
 | [],i=>by cases i <;> rfl
 | a::l,0=>by simp [hf]
 | a::l,i+1=>by simp [modify_same g f hf l i]
theorem fr_obj {S:Nat→Nat→Prop} {o o':Obj} (ho:m[r]?=some o) (hc:∀ c t fr,o≠.cells c t fr) (hS:S r 0):Fr S m (m.setIfInBounds r o'):=by
 have ne:∀ i c t fr,m[i]?=some (.cells c t fr)→r≠i:=fun i c t fr h e=>by
  subst e; rw [ho] at h; simp only [Option.some.injEq] at h; exact hc _ _ _ h
 refine ⟨by simp,fun i c t fr h=>⟨c,?_,rfl,fun _ _=>rfl⟩,fun i x hx _ hs=>?_⟩
 ·rw [Array.getElem?_setIfInBounds_ne (ne i c t fr h)]; exact h
 ·by_cases e:r=i
  ·subst e; exact absurd hS hs
  ·rw [Array.getElem?_setIfInBounds_ne e]; exact hx
theorem kvs_set (x v:Int):∀ (es:List MapEntry) (l:List (Int×Int)) (i:Nat) (k:Value),kvs es l→k=.int .i64 x→
  ∃ l',l'.length=l.length∧kvs (es.modify i fun e=>{ e with key:=k,val:=.int .i64 v }) l'
 | [],[],i,k,h,hk=>⟨[],rfl,by cases i <;> rfl⟩
 | [],q::l,i,k,h,hk=>by simp [kvs] at h
 | e::es,[],i,k,h,hk=>by simp [kvs] at h
 | e::es,q::l,0,k,h,hk=>by
  simp only [kvs,List.map_cons,List.cons.injEq] at h
  exact ⟨(x,v)::l,rfl,by simp [kvs,hk,h.2]⟩
 | e::es,q::l,i+1,k,h,hk=>by
  simp only [kvs,List.map_cons,List.cons.injEq] at h
  obtain ⟨l',h1,h2⟩:=kvs_set x v es l i k h.2 hk
  refine ⟨q::l',by simp [h1],?_⟩
  simp only [kvs,List.modify_succ_cons,List.map_cons,h.1]
  exact congrArg _ h2
theorem mapUpdate_W (h:MapI m r es clock l) {x v:Int} {K:Value→Mem→Prop}
  (hk:∀ m' es' clock' l',MapI m' r es' clock' l'→(lk l x=none→l'=l++[(x,v)])→l'.length≤l.length+1→Fr (fun i _=>i=r) m m'→K undef m'):
  SemW PP (su (Instr.mapUpdate t_map_int_int (.map (some r)) (.int .i64 x) (.int .i64 v))) m (NextW PP K):=by
 refine su_W ?_
 unfold Instr.mapUpdate
 refine SemW.bindI (SemW.und u_map ?_)
 refine SemW.bindI (SemW.obj h.obj (by simp) ?_)
 refine SemW.bindI (checkKey_W ?_)
 obtain ⟨f1,f2⟩:=findNow_I x es.toList l 0 h.kv
 refine SemW.bindI ?_
 unfold Instr.findKey
 refine SemW.bindI (SemW.und u_int ?_)
 have hr:r < m.size:=(Array.getElem?_eq_some_iff.1 h.obj).1
 cases hl:lk l x with
 | none=>
  rw [f1 hl]
  refine SemW.pureI ?_
  refine SemW.setO h.obj (by simp) ?_
  refine hk _ _ _ (l++[(x,v)]) ⟨by rw [Array.getElem?_setIfInBounds_self_of_lt hr],?_,?_⟩ (fun _=>rfl) (by simp) (fr_obj h.obj (by simp) rfl)
  ·have:=h.kv
   simp only [kvs] at this ⊢
   simp [this]
  ·intro e he
   rw [Array.toList_push] at he
   rcases List.mem_append.1 he with he | he
   ·have:=h.born e he; omega
   ·rw [List.mem_singleton.1 he]; simp
 | some v0=>
  obtain ⟨j,f3,f4,_⟩:=f2 v0 hl
  rw [f3]
  refine SemW.pureI ?_
  have hkey:((es[j]?).map (·.key)).getD (.int .i64 x)=.int .i64 x:=by
   cases hj:es[j]? with
   | none=>rfl
   | some e=>
    simp only [Nat.sub_zero,List.head?_drop] at f4
    rw [Array.getElem?_toList,hj] at f4
    simpa using f4
  show SemW PP (do
   let key ← Instr.keyThatStays (((es[j]?).map (·.key)).getD (.int .i64 x)) (.int .i64 x)
   setObj r (.map (es.modify j fun e=>{ e with key,val:=.int .i64 v }) clock)) m _
  rw [hkey]
  have hstay:Instr.keyThatStays (.int .i64 x) (.int .i64 x)=pure (.int .i64 x):=by
   unfold Instr.keyThatStays
   have:Instr.sameBits 10000 (.int .i64 x) (.int .i64 x)=true:=by
    show (IntKind.i64 == IntKind.i64 && x == x)=true
    simp
   rw [if_pos this]
  rw [hstay]
  refine SemW.bindI (SemW.pureI ?_)
  refine SemW.setO h.obj (by simp) ?_
  obtain ⟨l',g1,g2⟩:=kvs_set x v es.toList l j (.int .i64 x) h.kv rfl
  refine hk _ _ _ l' ⟨by rw [Array.getElem?_setIfInBounds_self_of_lt hr],by rw [Array.toList_modify]; exact g2,?_⟩ (fun h=>by rw [hl] at h; cases h) (by omega) (fr_obj h.obj (by simp) rfl)
  intro e he
  rw [Array.toList_modify] at he
  have hb:(es.toList.modify j fun e=>{ e with key:=.int .i64 x,val:=.int .i64 v }).map (·.born)=es.toList.map (·.born):=modify_same MapEntry.born (fun e:MapEntry=>{ e with key:=.int .i64 x,val:=.int .i64 v }) (fun _=>rfl) _ _
  have h1:e.born ∈ es.toList.map (·.born):=hb ▸ List.mem_map_of_mem (f:=(·.born)) he
  obtain ⟨e',h2,h3⟩:=List.mem_map.1 h1
  rw [← h3]; exact h.born e' h2
theorem range_W (h:MapI m r es clock l) {K:Value→Mem→Prop} (hk:∀ m',m'[m.size]?=some (.mapIter (some r) clock #[] clock)→(∀ S,Fr S m m')→K (.pointer (some ⟨m.size,0,none⟩)) m'):
  SemW PP (sv (Instr.range t_map_int_int (.map (some r)))) m (NextW PP K):=by
 refine sv_W ?_
 unfold Instr.range
 refine SemW.bindI (SemW.und u_map ?_)
 refine SemW.bindI (SemW.obj h.obj (by simp) ?_)
 exact hk _ (by simp) fun S=>Fr.push _
def unseenL (seen:Array Nat):List MapEntry→Nat
 | []=>0
 | e::es=>(if e.born ∈ seen then 0 else 1)+unseenL seen es
theorem unseen_le {seen:Array Nat} (b:Nat):∀ es:List MapEntry,unseenL (seen.push b) es≤unseenL seen es
 | []=>Nat.le_refl _
 | e::es=>by
  have:=unseen_le (seen:=seen) b es
  unfold unseenL
  by_cases h:e.born ∈ seen
  ·rw [if_pos h,if_pos (Array.mem_push.2 (.inl h))]; omega
  ·rw [if_neg h]; split <;> omega
theorem unseen_push {seen:Array Nat} {e:MapEntry} (hs:e.born ∉ seen):∀ es:List MapEntry,e ∈ es→unseenL (seen.push e.born) es < unseenL seen es
 | [],h=>by cases h
 | a::es,h=>by
  have le:=unseen_le (seen:=seen) e.born es
  unfold unseenL
  by_cases hb:a.born=e.born
  ·rw [hb,if_pos (Array.mem_push_self),if_neg hs]; omega
  ·rcases List.mem_cons.1 h with rfl | h
   ·exact absurd rfl hb
   ·have:=unseen_push hs es h
    by_cases h1:a.born ∈ seen
    ·rw [if_pos h1,if_pos (Array.mem_push.2 (.inl h1))]; omega
    ·rw [if_neg h1]; split <;> omega
def leftOf (es:Array MapEntry) (seen:Array Nat):Array MapEntry:=es.filter fun e=> !seen.contains e.born
def candOf (es:Array MapEntry) (seen:Array Nat) (clock:Nat):Array (Option MapEntry):=
 (if ((leftOf es seen).filter (fun e=>decide (e.born < clock))).isEmpty then #[none] else #[])++((leftOf es seen).filter (fun e=>decide (e.born < clock))++(leftOf es seen).filter (fun e=>decide (e.born ≥ clock))).map some
theorem cand_pos (es:Array MapEntry) (seen:Array Nat) (clock:Nat):0 < (candOf es seen clock).size:=by
 unfold candOf
 generalize leftOf es seen=left
 by_cases he:(left.filter (fun e=>decide (e.born < clock))).isEmpty=true
 ·rw [if_pos he]; simp only [Array.size_append]; show 0 < 1+_; omega
 ·rw [if_neg he]
  have:0 < (left.filter (fun e=>decide (e.born < clock))).size:=by
   rcases Nat.eq_zero_or_pos (left.filter (fun e=>decide (e.born < clock))).size with h0 | h0
   ·exact absurd (by simp only [Array.isEmpty,h0,decide_true]) he
   ·exact h0
  simp only [Array.size_append,Array.size_map]; omega
theorem cand_mem {seen:Array Nat} {e:MapEntry} (he:some e ∈ candOf es seen clock):e ∈ es.toList∧e.born ∉ seen:=by
 have h1:e ∈ leftOf es seen:=by
  unfold candOf at he
  rcases Array.mem_append.1 he with he | he
  ·split at he <;> simp at he
  ·obtain ⟨e',h2,h3⟩:=Array.mem_map.1 he
   simp only [Option.some.injEq] at h3
   subst h3
   rcases Array.mem_append.1 h2 with h2 | h2
   ·exact (Array.mem_filter.1 h2).1
   ·exact (Array.mem_filter.1 h2).1
 have:=Array.mem_filter.1 h1
 exact ⟨Array.mem_toList_iff.2 this.1,by simpa using this.2⟩
theorem next_W (h:MapI m r es clock l) {it:Nat} {seen:Array Nat} (hi:m[it]?=some (.mapIter (some r) clock seen clock)) {K:Value→Mem→Prop} (h1:K (.tuple #[.bool false]) m)
  (h2:∀ e ∈ es.toList,e.born ∉ seen→∀ m',m'[it]?=some (.mapIter (some r) clock (seen.push e.born) clock)→Fr (fun i _=>i=it) m m'→K (.tuple #[.bool true,e.key,e.val]) m'):
  SemW PP (sv (Instr.next (.pointer (some ⟨it,0,none⟩)) false 0)) m (NextW PP K):=by
 refine sv_W ?_
 unfold Instr.next
 refine SemW.bindI (SemW.obj hi (by simp) ?_)
 refine SemW.bindI (SemW.obj h.obj (by simp) ?_)
 have hno:(!seen.isEmpty && !es.isEmpty && es.all (fun e=>decide (e.born ≥ clock)))=false:=by
  by_cases he:es.isEmpty=true
  ·simp [he]
  ·have hpos:0 < es.size:=by
    rcases Nat.eq_zero_or_pos es.size with h0 | h0
    ·exact absurd (by simpa using h0) he
    ·exact h0
   have hb:=h.born es[0] (by simp)
   have:es.all (fun e=>decide (e.born ≥ clock))=false:=by
    rw [Array.all_eq_false]
    exact ⟨0,hpos,by simpa using hb⟩
   simp [this]
 show SemW PP (if (!seen.isEmpty && !es.isEmpty && es.all (fun e=>decide (e.born ≥ clock)))=true then _ else _) m _
 rw [if_neg (by rw [hno]; decide)]
 have pick:∀ t,∃ o,(candOf es seen clock)[if Question.forced (.mapNext (candOf es seen clock).size) then 0 else Question.cut (.mapNext (candOf es seen clock).size) t]?=some o:=by
  intro t
  have hp:=cand_pos es seen clock
  have:(if Question.forced (.mapNext (candOf es seen clock).size) then 0 else Question.cut (.mapNext (candOf es seen clock).size) t) < (candOf es seen clock).size:=by
   split
   ·exact hp
   ·exact Nat.mod_lt _ hp
  exact ⟨_,Array.getElem?_eq_getElem this⟩
 refine SemW.bindI ?_
 intro t
 obtain ⟨o,ho⟩:=pick t
 show SemW PP (match (candOf es seen clock)[if Question.forced (.mapNext (candOf es seen clock).size) then 0 else Question.cut (.mapNext (candOf es seen clock).size) t]? with
  | some (some e)=>do
   setObj it (.mapIter (some r) clock (seen.push e.born) clock)
   pure (.tuple #[.bool true,e.key,e.val])
  | some none=>pure (.tuple #[.bool false])
  | none=>stuck "Next: no such candidate") m K
 rw [ho]
 cases o with
 | none=>exact h1
 | some e=>
  obtain ⟨g1,g2⟩:=cand_mem (Array.mem_of_getElem? ho)
  refine SemW.bindI (SemW.setO hi (by simp) ?_)
  have hr:it < m.size:=(Array.getElem?_eq_some_iff.1 hi).1
  exact h2 e g1 g2 _ (by rw [Array.getElem?_setIfInBounds_self_of_lt hr]) (fr_obj hi (by simp) rfl)
theorem entry_W (h:MapI m r es clock l) {it since:Nat} {seen:Array Nat} {e:MapEntry} (he:e ∈ es.toList) (hi:m[it]?=some (.mapIter (some r) since (seen.push e.born) clock)) {K:Value→Mem→Prop} (hk:∀ e' ∈ es.toList,K (.tuple #[e'.key,e'.val]) m):
  SemW PP (sv (Instr.entry (.pointer (some ⟨it,0,none⟩)))) m (NextW PP K):=by
 refine sv_W ?_
 unfold Instr.entry
 refine SemW.bindI (SemW.obj hi (by simp) ?_)
 show SemW PP (match (seen.push e.born).back? with
  | some stamp=>_
  | _=>_) m K
 rw [Array.back?_push]
 refine SemW.bindI (SemW.obj h.obj (by simp) ?_)
 show SemW PP (if (clock != clock)=true then _ else match es.find? (fun x=>x.born == e.born) with
  | some e=>pure (.tuple #[e.key,e.val])
  | none=>_) m K
 rw [if_neg (by simp)]
 cases hf:es.find? (fun x=>x.born == e.born) with
 | none=>
  have:=Array.find?_eq_none.1 hf e (Array.mem_toList_iff.1 he)
  simp at this
 | some e'=>exact hk e' (Array.mem_toList_iff.2 (Array.mem_of_find?_eq_some hf))
end
end Go.M

namespace Go.M
open Go
set_option maxRecDepth 100000
def key (L:List Nat) (i:Nat):Nat:=2 ^ ln L i+cd L i
def bk (L:List Nat) (t:Nat):List (Int×Int):=((List.range t).filter fun i=>ln L i≠0).map fun i=>((key L i:Int),(i:Int))
theorem bk_mem {L:List Nat} {t:Nat} {q:Int×Int}:q ∈ bk L t ↔ ∃ i,i < t∧ln L i≠0∧q=((key L i:Int),(i:Int)):=by
 unfold bk
 simp only [List.mem_map,List.mem_filter,List.mem_range,decide_eq_true_eq]
 constructor
 ·rintro ⟨i,⟨h1,h2⟩,h3⟩; exact ⟨i,h1,h2,h3.symm⟩
 ·rintro ⟨i,h1,h2,h3⟩; exact ⟨i,⟨h1,h2⟩,h3.symm⟩
theorem bk_succ (L:List Nat) (t:Nat):bk L (t+1)=bk L t++(if ln L t≠0 then [((key L t:Int),(t:Int))] else []):=by
 unfold bk
 rw [List.range_succ,List.filter_append,List.map_append]
 congr 1
 by_cases h:ln L t=0
 ·simp [h]
 ·simp [h]
theorem bk_length:∀ (L:List Nat) (t:Nat),t≤L.length→(bk L t).length=usedN (L.take t)
 | L,0,_=>by simp [bk,usedN]
 | L,t+1,h=>by
  have hg:L[t]?=some (L[t]'(by omega)):=List.getElem?_eq_getElem (by omega)
  have hl:ln L t=L[t]'(by omega):=by unfold ln; rw [List.getD_eq_getElem?_getD,hg]; rfl
  rw [bk_succ,List.length_append,bk_length L t (by omega),used_succ hg, ← hl]
  by_cases h0:ln L t=0
  ·simp [h0]
  ·simp [h0]
theorem pow_unique {a b x y:Nat} (hx:x < 2 ^ a) (hy:y < 2 ^ b) (h:2 ^ a+x=2 ^ b+y):a=b∧x=y:=by
 have key:∀ {a b x y:Nat},x < 2 ^ a→2 ^ a+x=2 ^ b+y→ ¬ a < b:=by
  intro a b x y hx h hab
  have:(2:Nat) ^ (a+1)≤2 ^ b:=Nat.pow_le_pow_right (by decide) hab
  rw [Nat.pow_succ] at this
  omega
 have h1:=key hx h
 have h2:=key hy h.symm
 have:a=b:=by omega
 subst this
 exact ⟨rfl,by omega⟩
theorem key_hit {L:List Nat} (hok:okL L=true) {i n x:Nat} (hi:ln L i≠0) (h:key L i=2 ^ n+rv n x):ln L i=n∧hit L x i=true:=by
 obtain ⟨h1,h2⟩:=pow_unique (cd_lt hok hi) (rv_lt n x) h
 exact ⟨h1,hit_iff.2 ⟨hi,by rw [h1,h2]⟩⟩
theorem hit_key {L:List Nat} {i x:Nat} (h:hit L x i=true):key L i=2 ^ ln L i+rv (ln L i) x:=by
 unfold key; rw [(hit_iff.1 h).2]
theorem key_inj {L:List Nat} (hok:okL L=true) {i j:Nat} (hi:ln L i≠0) (hj:ln L j≠0) (h:key L i=key L j):i=j:=by
 have hx:hit L (rv (ln L j) (cd L j)) j=true:=hit_iff.2 ⟨hj,by rw [rv_rv,Nat.mod_eq_of_lt (cd_lt hok hj)]⟩
 have:key L i=2 ^ ln L j+rv (ln L j) (rv (ln L j) (cd L j)):=by rw [h,hit_key hx]
 exact hit_unique (key_hit hok hi this).2 hx
theorem bk_new {L:List Nat} (hok:okL L=true) {t:Nat} (ht:ln L t≠0):lk (bk L t) (key L t:Int)=none:=by
 cases h:lk (bk L t) (key L t:Int) with
 | none=>rfl
 | some v=>
  obtain ⟨i,h1,h2,h3⟩:=bk_mem.1 (lk_some h)
  simp only [Prod.mk.injEq] at h3
  have:=key_inj hok ht h2 (by omega)
  omega
theorem book_spec {m:Mem} {a:Option Addr} {l k b o:Nat} {L:List Nat} (hS:SlcI m a l k b o L) (h15:∀ v ∈ L,v≤15) (hl:l≤1000) {R:Value→Mem→Prop}
  (hk:∀ m' r es clock lst,m.size≤r→MapI m' r es clock lst→(okL L=true→lst=bk L l)→(∀ S,Fr S m m')→R (.map (some r)) m'):CallM PP f_spec_book #[.slice a l k] m R:=by
 have hlen:=hS.len
 refine e_spec_book a l k m R (makeMap_W fun hM=>⟨_,rfl,?_⟩)
 have f1:∀ S,Fr S m (m.push (.map #[] 0)):=fun S=>Fr.push _
 have s1:(m.push (.map #[] 0)).size=m.size+1:=Array.size_push ..
 generalize m.push (.map #[] 0)=m1 at hM f1 s1 ⊢
 refine Codes_spec (hS.old f1) h15 hl fun m2 cb hcb hC f2=>⟨_,_,_,rfl,?_⟩
 have hM2:=hM.fr (f2 fun _ _=>False) id
 have f12:∀ S,Fr S m m2:=fun S=>(f1 S).trans (f2 S)
 rw [q_spec_book_rrlrl]
 have hr:m.size≤m.size:=Nat.le_refl _
 generalize hrr:m.size=r at hM2 hr
 refine loopW ffOk mixedOk (L₀:=L_spec_book) (σ:=Nat) [0,3,8,9,10] (fun i=>[(0,.slice a l k),(3,.map (some r)),(8,.slice (some ⟨cb,0,none⟩) l l),(9,.int .i64 (l:Int)),(10,.int .i64 (i:Nat))])
  (fun i m'=>i≤l∧(∃ es clock lst,MapI m' r es clock lst∧(okL L=true→lst=bk L i))∧SlcI m' (some ⟨cb,0,none⟩) l l cb 0 (cds L)∧∀ S,Fr S m m') (fun i=>l - i) 0 rfl
  ⟨Nat.zero_le _,⟨_,_,_,hM2,fun _=>by simp [bk]⟩,hC,f12⟩ ?_
 rintro i m3 ⟨hi,⟨es,clock,lst,hM3,hlst⟩,hC3,f3⟩
 refine p_spec_book_rrlrll a l k _ _ l l _ _ m3 _ ?_
 have hS3:=hS.old f3
 by_cases hil:i < l
 ·rw [decide_eq_true (by omega)]
  have hget:L[i]?=some (L[i]'(by omega)):=List.getElem?_eq_getElem (by omega)
  have hlni:ln L i=L[i]'(by omega):=by unfold ln; rw [List.getD_eq_getElem?_getD,hget]; rfl
  have hcget:(cds L)[i]?=some (if ln L i=0 then 0 else cd L i):=by
   unfold cds
   rw [List.getElem?_map,List.getElem?_range (by omega)]; rfl
  have hl15:ln L i≤15:=ln_15 h15 i
  have hw:IntKind.wrap .i64 ((i:Int)+1)=((i+1:Nat):Int):=by rw [wrap64_id (by omega) (by omega)]; rfl
  have hcc:cell? m3 (aplus ⟨cb,0,none⟩ ((i:Int)).toNat)=some (.int .i64 ((if ln L i=0 then 0 else cd L i:Nat):Int)):=by
   have:=hC3.data i _ hcget
   rw [Nat.zero_add] at this
   rw [show aplus ⟨cb,0,none⟩ ((i:Int)).toNat=⟨cb,i,none⟩ by simp [aplus]]
   exact this
  refine ifB_t ⟨⟨by omega,by omega⟩,_,hcc,?_⟩
  rw [hS3.at_ (by omega)]
  refine ⟨⟨by omega,by omega⟩,_,hS3.data i _ hget,?_⟩
  rw [← hlni]
  by_cases h0:ln L i=0
  ·rw [decide_eq_false (by omega)]
   refine ifB_f (WPS.piece [0,3,8,9,10] rfl (p_spec_book_rrlrllrrr _ _ _ _ _ _ _ _ _ _ _ ?_))
   rw [hw]
   exact ⟨i+1,rfl,⟨by omega,⟨es,clock,lst,hM3,fun hok=>by rw [bk_succ,if_neg (by omega),List.append_nil]; exact hlst hok⟩,hC3,f3⟩,by omega⟩
  ·rw [decide_eq_true (by omega)]
   refine ifB_t ⟨⟨by omega,by omega⟩,_,hS3.data i _ hget,?_⟩
   rw [← hlni]
   refine ⟨by omega,rfl,?_⟩
   rw [if_neg h0]
   refine mapUpdate_W hM3 fun m4 es4 clock4 lst4 hM4 hnew _ f4=>⟨rfl,?_⟩
   refine WPS.piece [0,3,8,9,10] rfl (p_spec_book_rrlrllrrr _ _ _ _ _ _ _ _ _ _ _ ?_)
   rw [hw]
   have hcbr:0 < l→cb≠r:=fun _=>by omega
   refine ⟨i+1,rfl,⟨by omega,⟨es4,clock4,lst4,hM4,fun hok=>?_⟩,hC3.fr f4 (fun h0 j e=>hcbr h0 e),fun S=>?_⟩,by omega⟩
   ·have hc:=cd_lt hok h0
    have hp:(2:Nat) ^ ln L i≤2 ^ 15:=Nat.pow_le_pow_right (by decide) hl15
    have hkey:bitsOp .or .i64 (shlOp .i64 1 (ln L i:Int)) (cd L i:Int)=((key L i:Nat):Int):=by
     rw [shl_one (by omega),or_i64 (by omega) (by omega)]
     have:=or_add 1 hc
     rw [Nat.one_mul,Nat.mul_one,Nat.or_comm] at this
     rw [this]; unfold key; rw [Nat.add_comm]
    rw [hkey,hlst hok] at hnew
    rw [hnew (bk_new hok h0),bk_succ,if_pos h0]
   ·refine Fr.old ((f3 _).trans f4) ?_
    rintro x y hx rfl; omega
 ·rw [decide_eq_false (by omega)]
  have hil':i=l:=by omega
  subst hil'
  refine ifB_f (WPS.piece [3] rfl (p_spec_book_rrr _ _ _ ?_))
  exact hk m3 r es clock lst (by omega) hM3 hlst f3
end Go.M

namespace Go.M
open Go
set_option maxRecDepth 100000
theorem SpAt.fresh {N0 s:Nat} {src dict:List Nat} {p:Nat} {out:List Nat} {z:Int} {m m':Mem} (h:SpAt N0 s src dict p out z m) (hf:∀ S,Fr S m m'):SpAt N0 s src dict p out z m':=by
 have F:=hf fun _ _=>False
 obtain ⟨a1,l1,k1,b1,o1,h1,h2,h3⟩:=h.srcA
 obtain ⟨a4,l4,k4,b4,o4,h4,h5,h6⟩:=h.dictA
 obtain ⟨a7,l7,k7,b7,o7,h7,h8,h9⟩:=h.outA
 exact ⟨⟨a1,l1,k1,b1,o1,F.cell h1 id,h2.sp F fun _ _=>id,h3⟩,F.cell h.pos id,⟨a4,l4,k4,b4,o4,F.cell h4 id,h5.sp F fun _ _=>id,h6⟩,
  ⟨a7,l7,k7,b7,o7,F.cell h7 id,h8.fr F fun _ _=>id,h9⟩,F.cell h.z id,fun i h1 h2=>(h.wr i h1 h2).fr F,h.lo,h.le,h.big⟩
theorem leads_spec {m:Mem} {r:Nat} {es:Array MapEntry} {clock:Nat} {lst:List (Int×Int)} (hM:MapI m r es clock lst) (hn:∀ q ∈ lst,∃ n:Nat,q.1=n∧n < 2 ^ 62) {x:Nat} (hx:1≤x) {R:Value→Mem→Prop}
  (hk:∀ m' b,(b=true→∃ q ∈ lst,∃ n j:Nat,q.1=n∧n / 2 ^ j=x)→(∀ S,Fr S m m')→R (.bool b) m'):CallM PP f_spec_leads #[.map (some r),.int .i64 (x:Int)] m R:=by
 refine e_spec_leads (some r) x m R (range_W hM fun m1 hi1 f1=>⟨_,rfl,?_⟩)
 have hr:r < m.size:=(Array.getElem?_eq_some_iff.1 hM.obj).1
 generalize hit:m.size=it at hi1 hr
 rw [q_spec_leads_rlrl]
 refine loopW ffOk mixedOk (L₀:=L_spec_leads) (σ:=Array Nat) [1,7] (fun _=>[(1,.int .i64 (x:Int)),(7,.pointer (some ⟨it,0,none⟩))])
  (fun seen m'=>m'[it]?=some (.mapIter (some r) clock seen clock)∧∀ S,Fr S m m') (fun seen=>unseenL seen es.toList) #[] rfl ⟨hi1,f1⟩ ?_
 rintro seen m2 ⟨hi2,f2⟩
 have hM2:=hM.fr (f2 fun _ _=>False) id
 refine p_spec_leads_rlrll _ _ m2 _ (next_W hM2 hi2 (.inl ⟨rfl,?_⟩) fun e he hes m3 hi3 f3=>.inr ⟨_,_,rfl,?_⟩)
 ·refine WPS.piece [] rfl (p_spec_leads_rr m2 _ ?_)
  exact hk m2 false (by simp) f2
 ·have hM3:=hM2.fr f3 (by omega)
  have f3':∀ S,Fr S m m3:=fun S=>by
   refine Fr.old ((f2 _).trans f3) ?_
   rintro a b ha rfl; omega
  refine entry_W hM3 he hi3 fun e' he'=>?_
  obtain ⟨q,hq,hq1,hq2⟩:=hM.kv.mem he'
  rw [hq1,hq2]
  obtain ⟨n,hqn,hn62⟩:=hn q hq
  refine ⟨_,_,rfl,?_⟩
  rw [q_spec_leads_rlrllrrlrll]
  refine loopW ffOk mixedOk (L₀:=L_spec_leads) (σ:=Nat) [1,5,7] (fun j=>[(1,.int .i64 (x:Int)),(5,.int .i64 ((n / 2 ^ j:Nat):Int)),(7,.pointer (some ⟨it,0,none⟩))])
   (fun j m'=>m'=m3) (fun j=>n / 2 ^ j) 0 (by simp [hqn]; rfl) rfl ?_
  rintro j m4 rfl
  refine p_spec_leads_rlrllrrlrlll _ _ _ _ _ ?_
  have hle:n / 2 ^ j≤n:=Nat.div_le_self ..
  by_cases hgt:x < n / 2 ^ j
  ·rw [decide_eq_true (by omega)]
   refine ifB_t ⟨rfl,by decide,?_⟩
   have hd:IntKind.wrap .i64 (Int.tdiv ((n / 2 ^ j:Nat):Int) 2)=((n / 2 ^ (j+1):Nat):Int):=by
    rw [show Int.tdiv ((n / 2 ^ j:Nat):Int) 2=((n / 2 ^ j / 2:Nat):Int) from rfl,Nat.pow_succ, ← Nat.div_div_eq_div_mul]
    exact wrap64_id (by omega) (by omega)
   rw [hd]
   refine ⟨j+1,rfl,rfl,?_⟩
   rw [Nat.pow_succ, ← Nat.div_div_eq_div_mul]; omega
  ·rw [decide_eq_false (by omega)]
   refine ifB_f (WPS.piece [1,5,7] rfl (p_spec_leads_rlrllrrlrr _ _ _ _ _ ?_))
   by_cases he:n / 2 ^ j=x
   ·rw [he,beq_self_eq_true]
    exact ifB_t (hk m4 true (fun _=>⟨q,hq,n,j,hqn,he⟩) f3')
   ·have:(((n / 2 ^ j:Nat):Int) == (x:Int))=false:=by rw [beq_eq_false_iff_ne]; omega
    rw [this]
    exact ifB_f ⟨seen.push e.born,rfl,⟨hi3,f3'⟩,unseen_push hes _ ‹_›⟩
section
variable {N0 s:Nat} {src dict:List Nat} {p:Nat} {out:List Nat} {z:Int} {m:Mem}
theorem symbol_spec (h:SpAt N0 s src dict p out z m) {L:List Nat} {r:Nat} {es:Array MapEntry} {clock:Nat} (hM:0≤z∨MapI m r es clock (bk L L.length)) (hok:z < 0→okL L=true) (h15:∀ v ∈ L,v≤15) {R:Value→Mem→Prop}
  (hoff:0≤z→R (.int .i64 0) m)
  (hhit:z < 0→∀ m' k p',k < L.length→SymOk L (scOf src) p k p'→SpAt N0 s src dict p' out z m'→SpF N0 s m m'→R (.int .i64 (k:Nat)) m')
  (hshort:z < 0→∀ m',SymShort L (scOf src) p→SpAt N0 s src dict (8 * src.length) out 3 m'→SpF N0 s m m'→R (.int .i64 0) m')
  (hopen:z < 0→(∀ k,hit L (num src / 2 ^ p) k=false)→∀ m' p',SpAt N0 s src dict p' out 0 m'→SpF N0 s m m'→R (.int .i64 0) m'):
  CallM PP f_state_symbol #[.pointer (some ⟨s,0,none⟩),.map (some r)] m R:=by
 refine e_state_symbol s (some r) m R ?_
 rw [q_state_symbol_rrlrl]
 have hle:=h.le
 refine loopW ffOk mixedOk (L₀:=L_state_symbol) (σ:=Nat) [0,1,5,8] (fun n=>[(0,.pointer (some ⟨s,0,none⟩)),(1,.map (some r)),(5,.int .i64 ((2 ^ n+rv n (num src / 2 ^ p):Nat):Int)),(8,.int .i64 (n:Nat))])
  (fun n m'=>n≤15∧SpF N0 s m m'∧(0≤z→n=0∧m'=m)∧(z < 0→p+n≤8 * src.length∧SpAt N0 s src dict (p+n) out z m'∧(∀ k,hit L (num src / 2 ^ p) k=true→n < ln L k)∧(usedN L=1→n < mxOf L)))
  (fun n=>15 - n) 0 (by simp [rv,Env.keep,memNat]) ⟨by decide,SpF.refl _ _ _,fun _=>⟨rfl,rfl⟩,fun _=>⟨hle,h,fun k hk=>?_,fun h1=>?_⟩⟩ ?_
 ·have:=(hit_iff.1 hk).1; omega
 ·obtain ⟨l,h2,h3,_⟩:=used_one h1
  have:=((mm_spec L).2.2.1 l h3 h2).2
  have e:(mm L).2=mxOf L:=rfl
  omega
 rintro n m1 ⟨hn,hF,hm,hz1⟩
 refine p_state_symbol_rrlrll s (some r) _ n m1 _ ?_
 have exit0:z < 0→(∀ k,hit L (num src / 2 ^ p) k=false)→∀ m2 q,SpAt N0 s src dict q out z m2→SpF N0 s m m2→∀ (r':Env),Env.keep [0] r'=[(0,.pointer (some ⟨s,0,none⟩))]→WPS PP 38 c_state_symbol_rrr (retK PP r_state_symbol R) r' m2:=by
  intro hz hnh m2 q h2 f2 r' hr'
  refine WPS.piece [0] hr' (p_state_symbol_rrr s m2 _ (stop_spec h2 fun m3 h3 f3=>⟨rfl,?_⟩))
  rw [if_pos hz] at h3
  exact hopen hz hnh m3 q h3 (f2.trans f3)
 by_cases hn15:n < 15
 rotate_left
 ·rw [decide_eq_false (by omega)]
  refine ifB_f ?_
  by_cases hz:z < 0
  ·refine exit0 hz (fun k=>?_) m1 _ (hz1 hz).2.1 hF _ rfl
   cases hk:hit L (num src / 2 ^ p) k with
   | false=>rfl
   | true=>
    have h1:=(hz1 hz).2.2.1 k hk
    have h2:=ln_15 h15 k
    omega
  ·have:=(hm (by omega)).1; omega
 rw [decide_eq_true (by omega)]
 refine ifB_t ?_
 by_cases hz:z < 0
 rotate_left
 ·have hm1:=(hm (by omega)).2
  subst hm1
  refine bit_spec h (fun _=>⟨_,rfl,on_spec h ⟨_,rfl,?_⟩⟩) (fun h0=>absurd h0 hz) (fun h0=>absurd h0 hz)
  rw [decide_eq_false hz]
  exact ifB_t (hoff (by omega))
 obtain ⟨hpn,hS,hno,hone⟩:=hz1 hz
 have hM':MapI m r es clock (bk L L.length):=by
  rcases hM with hM | hM
  ·omega
  ·exact hM
 have hok':=hok hz
 refine bit_spec hS (fun h0=>absurd h0 (by omega)) (fun _ hp m2 h2 f2=>⟨_,rfl,on_spec h2 ⟨_,rfl,?_⟩⟩) (fun _ hp m2 h2 f2=>⟨_,rfl,on_spec h2 ⟨_,rfl,?_⟩⟩)
 ·refine ifB_t ?_
  rw [hp] at h2
  refine hshort hz m2 ⟨fun k hk=>?_,fun h1=>?_⟩ h2 (hF.trans f2)
  ·have:=hno k hk
   show 8 * src.length < _; omega
  ·have:=hone h1
   show 8 * src.length < _; omega
 ·rw [decide_eq_true hz]
  refine ifB_f ?_
  have hcode:IntKind.wrap .i64 (IntKind.wrap .i64 (2 * ((2 ^ n+rv n (num src / 2 ^ p):Nat):Int))+((tk (num src) (p+n) 1:Nat):Int))=((2 ^ (n+1)+rv (n+1) (num src / 2 ^ p):Nat):Int):=by
   have h1:=rv_lt n (num src / 2 ^ p)
   have h2:(2:Nat) ^ n≤2 ^ 15:=Nat.pow_le_pow_right (by decide) (by omega)
   have h3:=tk_lt (num src) (p+n) 1
   rw [wrap64_id (n:=2 * _) (by omega) (by omega),wrap64_id (by omega) (by omega),rv_one_more,Nat.pow_succ]
   have:tk (num src) (p+n) 1=num src / 2 ^ p / 2 ^ n % 2:=by
    unfold tk
    rw [Nat.div_div_eq_div_mul, ← Nat.pow_add]
   omega
  rw [hcode]
  have hMm:=(hM'.sp hF).sp f2
  refine lookup_I hMm (fun v hv=>⟨_,_,rfl,ifB_t ?_⟩) (fun hv=>⟨_,_,rfl,ifB_f ?_⟩)
  ·obtain ⟨i,h1,h3,h4⟩:=bk_mem.1 (lk_some hv)
   simp only [Prod.mk.injEq] at h4
   obtain ⟨g1,g2⟩:=key_hit hok' (x:=num src / 2 ^ p) h3 (show key L i=2 ^ (n+1)+_ by omega)
   rw [h4.2]
   refine hhit hz m2 i (p+(n+1)) h1 ⟨g2,by rw [g1],?_⟩ h2 (hF.trans f2)
   show _≤8 * src.length; omega
  ·have hno':∀ k,hit L (num src / 2 ^ p) k=true→n+1 < ln L k:=by
    intro k hk
    have h1:=hno k hk
    by_cases h3:ln L k=n+1
    ·exfalso
     have h4:=hit_key hk
     rw [h3] at h4
     refine lk_none hv _ (bk_mem.2 ⟨k,(ln_mem (hit_iff.1 hk).1).1,(hit_iff.1 hk).1,rfl⟩) ?_
     simp only; omega
    ·omega
   refine len_I hMm ⟨_,rfl,?_⟩
   rw [bk_length L L.length (Nat.le_refl _),List.take_length]
   have hw:IntKind.wrap .i64 ((n:Int)+1)=((n+1:Nat):Int):=by rw [wrap64_id (by omega) (by omega)]; rfl
   rw [hw]
   by_cases hu:usedN L < 2
   ·rw [decide_eq_true (by omega)]
    refine ifB_t (leads_spec hMm (fun q hq=>?_) (by have:0 < 2 ^ (n+1):=Nat.two_pow_pos _; omega) fun m3 b hb f3=>⟨_,rfl,?_⟩)
    ·obtain ⟨i,h1,h3,h4⟩:=bk_mem.1 hq
     refine ⟨key L i,by rw [h4],?_⟩
     have:=cd_lt hok' h3
     have h5:(2:Nat) ^ ln L i≤2 ^ 15:=Nat.pow_le_pow_right (by decide) (ln_15 h15 i)
     unfold key; omega
    ·cases b with
     | false=>
      refine ifB_t (exit0 hz (fun k=>?_) m3 _ (h2.fresh f3) ((hF.trans f2).trans (.fresh f3)) _ rfl)
      cases hk:hit L (num src / 2 ^ p) k with
      | false=>rfl
      | true=>
       have k1:=hno' k hk
       have k2:=few_ln hok' h15 hu k
       omega
     | true=>
      refine ifB_f ⟨n+1,rfl,⟨by omega,(hF.trans f2).trans (.fresh f3),fun h0=>by omega,fun _=>⟨by omega,h2.fresh f3,hno',fun h1=>?_⟩⟩,by omega⟩
      obtain ⟨q,hq,n',j,g1,g2⟩:=hb rfl
      obtain ⟨i,h3,h4,h5⟩:=bk_mem.1 hq
      rw [h5] at g1
      simp only at g1
      have hkey:n'=key L i:=by omega
      subst hkey
      have hcl:=cd_lt hok' h4
      have hmx:=(ln_le h4).2
      have hlt:key L i < 2 ^ (ln L i+1):=by unfold key; rw [Nat.pow_succ]; omega
      have hdl:key L i / 2 ^ j≤key L i:=Nat.div_le_self ..
      rcases Nat.lt_trichotomy (ln L i) (n+1) with h6 | h6 | h6
      ·have:(2:Nat) ^ (ln L i+1)≤2 ^ (n+1):=Nat.pow_le_pow_right (by decide) (by omega)
       omega
      ·exfalso
       by_cases hj:j=0
       ·subst hj
        rw [Nat.pow_zero,Nat.div_one] at g2
        refine lk_none hv _ hq ?_
        rw [h5]; simp only; omega
       ·have h7:key L i / 2 ^ j≤key L i / 2:=Nat.div_le_div_left (by
         have:(2:Nat) ^ 1≤2 ^ j:=Nat.pow_le_pow_right (by decide) (by omega)
         omega) (by decide)
        rw [h6,Nat.pow_succ] at hlt
        omega
      ·omega
   ·rw [decide_eq_false (by omega)]
    exact ifB_f ⟨n+1,rfl,⟨by omega,hF.trans f2,fun h0=>by omega,fun _=>⟨by omega,h2,hno',fun h1=>by omega⟩⟩,by omega⟩
end
end Go.M
