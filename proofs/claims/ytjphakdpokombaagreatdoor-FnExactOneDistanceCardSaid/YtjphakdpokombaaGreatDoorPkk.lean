/- Canonical codes: no program in sight. Canonical codes: that complete ones leave nothing out, and what a lookup in tables asks of them. No program in sight. How the tables are filled, symbol by symbol. No program in sight. Kraft's sum: when codes are complete, too many, or one of one bit. No program in sight. The plain machine always comes to an end, and gives no more than its bits allow. The head of a block with codes of its own, as a plain function. -/
import Derived.Test.YtjphakdpokombaaGreatDoorPki
import Derived.Test.YtjphakdpokombaaGreatDoorPkj
namespace Go.M
def rv:Nat→Nat→Nat
 | 0,_=>0
 | n+1,x=>x % 2 * 2 ^ n+rv n (x / 2)
theorem rv_lt:∀ (n x:Nat),rv n x < 2 ^ n
 | 0,x=>by simp [rv]
 | n+1,x=>by
  have:=rv_lt n (x / 2)
  have h2:x % 2≤1:=by omega
  have h3:x % 2 * 2 ^ n≤1 * 2 ^ n:=Nat.mul_le_mul_right _ h2
  simp only [rv,Nat.pow_succ]
  omega
theorem rv_add:∀ (n k x:Nat),rv (n+k) x=rv n x * 2 ^ k+rv k (x / 2 ^ n)
 | 0,k,x=>by simp [rv]
 | n+1,k,x=>by
  rw [show n+1+k=(n+k)+1 from by omega,rv,rv_add n k,rv,Nat.add_mul,Nat.mul_assoc, ← Nat.pow_add,Nat.div_div_eq_div_mul, ← Nat.pow_succ',Nat.succ_eq_add_one]
  omega
theorem rv_mod:∀ (n k x:Nat),n≤k→rv n (x % 2 ^ k)=rv n x
 | 0,k,x,_=>rfl
 | n+1,0,x,h=>by omega
 | n+1,k+1,x,h=>by
  have h1:x % 2 ^ (k+1) % 2=x % 2:=by
   rw [Nat.pow_succ,Nat.mul_comm,Nat.mod_mul_right_mod]
  have h2:x % 2 ^ (k+1) / 2=x / 2 % 2 ^ k:=by
   rw [Nat.pow_succ,Nat.mul_comm,Nat.mod_mul_right_div_self]
  rw [rv,rv,h1,h2,rv_mod n k (x / 2) (by omega)]
theorem rv_zero:∀ n,rv n 0=0
 | 0=>rfl
 | n+1=>by simp [rv,rv_zero n]
theorem rv_one_more:∀ (n x:Nat),rv (n+1) x=2 * rv n x+x / 2 ^ n % 2:=by
 intro n x
 rw [rv_add n 1 x]
 simp [rv]
 omega
theorem rv_rv:∀ (n x:Nat),rv n (rv n x)=x % 2 ^ n
 | 0,x=>by simp [rv,Nat.mod_one]
 | n+1,x=>by
  have h1:rv (n+1) x=x % 2 * 2 ^ n+rv n (x / 2):=rfl
  have h2:=rv_one_more n (rv (n+1) x)
  rw [h2,h1]
  have hlt:=rv_lt n (x / 2)
  have h3:rv n (x % 2 * 2 ^ n+rv n (x / 2))=rv n (rv n (x / 2)):=by
   rw [← rv_mod n n (x % 2 * 2 ^ n+rv n (x / 2)) (Nat.le_refl _),Nat.add_comm,Nat.add_mul_mod_self_right,rv_mod n n _ (Nat.le_refl _)]
  have h4:(x % 2 * 2 ^ n+rv n (x / 2)) / 2 ^ n=x % 2:=by
   rw [Nat.add_comm,Nat.add_mul_div_right _ _ (Nat.pow_pos (by decide)),Nat.div_eq_of_lt hlt,Nat.zero_add]
  rw [h3,h4,rv_rv n (x / 2),Nat.mod_mod]
  have h5:x % 2 ^ (n+1)=x % 2+2 * (x / 2 % 2 ^ n):=by rw [Nat.pow_succ,Nat.mul_comm,Nat.mod_mul]
  omega
theorem rv_eq_iff {n x c:Nat} (hc:c < 2 ^ n):rv n x=c ↔ x % 2 ^ n=rv n c:=by
 constructor
 ·intro h; rw [← h,rv_rv]
 ·intro h
  rw [← rv_mod n n x (Nat.le_refl _),h,rv_rv,Nat.mod_eq_of_lt hc]
def ln (L:List Nat) (i:Nat):Nat:=L.getD i 0
def cnt (L:List Nat) (n:Nat):Nat:=if n=0 then 0 else L.count n
def nx (L:List Nat):Nat→Nat
 | 0=>0
 | n+1=>2 * (nx L n+cnt L n)
def cd (L:List Nat) (i:Nat):Nat:=nx L (ln L i)+(L.take i).count (ln L i)
def mmStep (s:Nat×Nat) (n:Nat):Nat×Nat:=
 if n=0 then s else (if s.1=0∨n < s.1 then n else s.1,if s.2 < n then n else s.2)
def mm (L:List Nat):Nat×Nat:=L.foldl mmStep (0,0)
def mnOf (L:List Nat):Nat:=(mm L).1
def mxOf (L:List Nat):Nat:=(mm L).2
def okL (L:List Nat):Bool:=
 mxOf L == 0 || nx L (mxOf L)+cnt L (mxOf L) == 2 ^ mxOf L || (nx L (mxOf L)+cnt L (mxOf L) == 1 && mxOf L == 1)
theorem mm_inv (L:List Nat):∀ (s:Nat×Nat),(s.1=0 ↔ s.2=0)→s.1≤s.2→
  ((L.foldl mmStep s).1=0 ↔ (L.foldl mmStep s).2=0)∧(L.foldl mmStep s).1≤(L.foldl mmStep s).2∧s.2≤(L.foldl mmStep s).2∧(s.1≠0→(L.foldl mmStep s).1≤s.1)∧
   (∀ n ∈ L,n≠0→(L.foldl mmStep s).1≤n∧n≤(L.foldl mmStep s).2)∧((L.foldl mmStep s).2=s.2∨(L.foldl mmStep s).2 ∈ L)∧((L.foldl mmStep s).1=s.1∨(L.foldl mmStep s).1 ∈ L):=by
 induction L with
 | nil=>intro s h1 h2; exact ⟨h1,h2,Nat.le_refl _,fun _=>Nat.le_refl _,fun n h=>(by cases h),.inl rfl,.inl rfl⟩
 | cons a L ih=>
  intro s h1 h2
  simp only [List.foldl_cons]
  by_cases ha:a=0
  ·have hs:mmStep s a=s:=by simp [mmStep,ha]
   rw [hs]
   obtain ⟨i1,i2,i3,i4,i5,i6,i7⟩:=ih s h1 h2
   refine ⟨i1,i2,i3,i4,fun n hn h0=>?_,i6.imp id (List.mem_cons_of_mem _),i7.imp id (List.mem_cons_of_mem _)⟩
   rcases List.mem_cons.1 hn with rfl | hn
   ·exact absurd ha h0
   ·exact i5 n hn h0
  ·have hs:mmStep s a=(if s.1=0∨a < s.1 then a else s.1,if s.2 < a then a else s.2):=by simp [mmStep,ha]
   have g1:((mmStep s a).1=0 ↔ (mmStep s a).2=0):=by rw [hs]; simp only; constructor <;> intro h <;> split at h <;> (try split) <;> omega
   have g2:(mmStep s a).1≤(mmStep s a).2:=by rw [hs]; simp only; split <;> split <;> omega
   have g3:s.2≤(mmStep s a).2∧a≤(mmStep s a).2:=by rw [hs]; simp only; split <;> omega
   have g4:(s.1≠0→(mmStep s a).1≤s.1)∧(mmStep s a).1≤a:=by rw [hs]; simp only; split <;> omega
   have g5:(mmStep s a).1≠0:=by rw [hs]; simp only; split <;> omega
   have g6:(mmStep s a).2=s.2∨(mmStep s a).2=a:=by rw [hs]; simp only; split <;> simp
   have g7:(mmStep s a).1=s.1∨(mmStep s a).1=a:=by rw [hs]; simp only; split <;> simp
   obtain ⟨i1,i2,i3,i4,i5,i6,i7⟩:=ih (mmStep s a) g1 g2
   refine ⟨i1,i2,by omega,fun h=>?_,fun n hn h0=>?_,?_,?_⟩
   ·have:=i4 g5; have:=g4.1 h; omega
   ·rcases List.mem_cons.1 hn with rfl | hn
    ·have:=i4 g5; omega
    ·exact i5 n hn h0
   ·rcases i6 with i6 | i6
    ·rcases g6 with g6 | g6
     ·left; omega
     ·right; rw [i6,g6]; exact List.mem_cons_self ..
    ·exact .inr (List.mem_cons_of_mem _ i6)
   ·rcases i7 with i7 | i7
    ·rcases g7 with g7 | g7
     ·left; omega
     ·right; rw [i7,g7]; exact List.mem_cons_self ..
    ·exact .inr (List.mem_cons_of_mem _ i7)
theorem mm_spec (L:List Nat):(mnOf L=0 ↔ mxOf L=0)∧mnOf L≤mxOf L∧(∀ n ∈ L,n≠0→mnOf L≤n∧n≤mxOf L)∧(mxOf L=0∨mxOf L ∈ L)∧(mnOf L=0∨mnOf L ∈ L):=by
 obtain ⟨h1,h2,_,_,h3,h4,h5⟩:=mm_inv L (0,0) Iff.rfl (Nat.le_refl _)
 exact ⟨h1,h2,h3,h4,h5⟩
theorem cnt_zero_of {L:List Nat} {n:Nat} (h:n < mnOf L∨mxOf L < n):cnt L n=0:=by
 unfold cnt
 split
 ·rfl
 ·rename_i hn
  refine List.count_eq_zero.2 fun hm=>?_
  have:=(mm_spec L).2.2.1 n hm hn
  omega
theorem nx_zero_of {L:List Nat}:∀ {n:Nat},n≤mnOf L→nx L n=0
 | 0,_=>rfl
 | n+1,h=>by
  rw [nx,nx_zero_of (by omega),cnt_zero_of (.inl (by omega))]
theorem nx_up (L:List Nat) (n:Nat):∀ k,(nx L n+cnt L n) * 2 ^ (k+1)≤nx L (n+k+1)
 | 0=>by rw [Nat.add_zero,nx]; omega
 | k+1=>by
  have ih:=nx_up L n k
  rw [show n+(k+1)+1=(n+k+1)+1 from by omega,nx,Nat.pow_succ, ← Nat.mul_assoc]
  omega
theorem code_le {L:List Nat} (h:okL L=true) {n:Nat} (hn:n≤mxOf L):nx L n+cnt L n≤2 ^ n:=by
 have htop:nx L (mxOf L)+cnt L (mxOf L)≤2 ^ mxOf L:=by
  unfold okL at h
  simp only [Bool.or_eq_true,Bool.and_eq_true,beq_iff_eq] at h
  rcases h with (h | h) | ⟨h1,h2⟩
  ·rw [h]; simp [nx,cnt]
  ·omega
  ·rw [h1]; exact Nat.pow_pos (by decide)
 by_cases he:n=mxOf L
 ·rw [he]; exact htop
 ·obtain ⟨k,hk⟩:=Nat.exists_eq_add_of_lt (Nat.lt_of_le_of_ne hn he)
  have h1:=nx_up L n k
  rw [← hk] at h1
  have h2:(nx L n+cnt L n) * 2 ^ (k+1)≤2 ^ n * 2 ^ (k+1):=by
   rw [← Nat.pow_add,show n+(k+1)=mxOf L from by omega]; omega
  exact Nat.le_of_mul_le_mul_right h2 (Nat.pow_pos (by decide))
theorem ln_mem {L:List Nat} {i:Nat} (h:ln L i≠0):i < L.length∧L[i]?=some (ln L i):=by
 unfold ln at *
 by_cases hi:i < L.length
 ·refine ⟨hi,?_⟩
  rw [List.getD_eq_getElem?_getD,List.getElem?_eq_getElem hi]; rfl
 ·rw [List.getD_eq_getElem?_getD,List.getElem?_eq_none (by omega)] at h
  exact absurd rfl h
theorem ln_le {L:List Nat} {i:Nat} (h:ln L i≠0):mnOf L≤ln L i∧ln L i≤mxOf L:=
 (mm_spec L).2.2.1 _ (List.mem_of_getElem? (ln_mem h).2) h
theorem rank_lt {L:List Nat} {i:Nat} (h:ln L i≠0):(L.take i).count (ln L i) < cnt L (ln L i):=by
 obtain ⟨hi,he⟩:=ln_mem h
 unfold cnt
 rw [if_neg h]
 have h2:L=L.take i++L.drop i:=(List.take_append_drop i L).symm
 have h3:L.drop i=ln L i::L.drop (i+1):=by
  rw [List.getElem?_eq_getElem hi] at he
  simp only [Option.some.injEq] at he
  rw [← he,List.drop_eq_getElem_cons hi]
 have:L.count (ln L i)=(L.take i).count (ln L i)+(ln L i::L.drop (i+1)).count (ln L i):=by
  have h4:=congrArg (List.count (ln L i)) h2
  rw [List.count_append,h3] at h4
  exact h4
 rw [this,List.count_cons_self]
 omega
theorem cd_lt {L:List Nat} (h:okL L=true) {i:Nat} (hi:ln L i≠0):cd L i < 2 ^ ln L i:=by
 have h1:=code_le h (ln_le hi).2
 have h2:=rank_lt hi
 unfold cd
 omega
theorem rank_inj {L:List Nat} {i j:Nat} (hi:ln L i≠0) (he:ln L i=ln L j) (hlt:i < j):(L.take i).count (ln L i) < (L.take j).count (ln L j):=by
 rw [← he]
 obtain ⟨hil,hig⟩:=ln_mem hi
 have h1:L.take (i+1)=L.take i++[ln L i]:=by
  rw [List.take_add_one,hig]; rfl
 have h2:(L.take (i+1)).count (ln L i)=(L.take i).count (ln L i)+1:=by rw [h1]; simp
 have h3:(L.take (i+1)).count (ln L i)≤(L.take j).count (ln L i):=by
  have:(L.take (i+1)).Sublist (L.take j):=by
   have h4:L.take (i+1)=(L.take j).take (i+1):=by rw [List.take_take,Nat.min_eq_left (by omega)]
   rw [h4]; exact List.take_sublist ..
  exact this.count_le _
 omega
def hit (L:List Nat) (x i:Nat):Bool:=ln L i != 0 && rv (ln L i) x == cd L i
theorem hit_iff {L:List Nat} {x i:Nat}:hit L x i=true ↔ ln L i≠0∧rv (ln L i) x=cd L i:=by
 unfold hit; simp
theorem cd_order {L:List Nat} {i j:Nat} (hi:ln L i≠0) (hij:ln L i < ln L j):(cd L i+1) * 2 ^ (ln L j - ln L i)≤cd L j:=by
 obtain ⟨k,hk⟩:=Nat.exists_eq_add_of_lt hij
 have h1:=nx_up L (ln L i) k
 rw [← hk] at h1
 have h2:=rank_lt hi
 have h3:cd L i+1≤nx L (ln L i)+cnt L (ln L i):=by unfold cd; omega
 have h4:(cd L i+1) * 2 ^ (k+1)≤(nx L (ln L i)+cnt L (ln L i)) * 2 ^ (k+1):=Nat.mul_le_mul_right _ h3
 rw [show ln L j - ln L i=k+1 from by omega]
 have h5:nx L (ln L j)≤cd L j:=by unfold cd; omega
 omega
theorem hit_unique {L:List Nat} {x i j:Nat} (hi:hit L x i=true) (hj:hit L x j=true):i=j:=by
 rw [hit_iff] at hi hj
 obtain ⟨hi0,hi⟩:=hi
 obtain ⟨hj0,hj⟩:=hj
 have key:∀ a b:Nat,ln L a≠0→rv (ln L a) x=cd L a→rv (ln L b) x=cd L b→ ¬ ln L a < ln L b:=by
  intro a b ha0 ha hb hlt
  have h1:=cd_order ha0 hlt
  have h2:=rv_add (ln L a) (ln L b - ln L a) x
  rw [show ln L a+(ln L b - ln L a)=ln L b from by omega,ha,hb] at h2
  have h3:=rv_lt (ln L b - ln L a) (x / 2 ^ ln L a)
  rw [Nat.add_mul,Nat.one_mul] at h1
  omega
 have hll:ln L i=ln L j:=by
  have:=key i j hi0 hi hj
  have:=key j i hj0 hj hi
  omega
 rcases Nat.lt_trichotomy i j with h | h | h
 ·have h1:=rank_inj hi0 hll h
  have h2:cd L i=cd L j:=by rw [← hi, ← hj,hll]
  unfold cd at h2
  rw [hll] at h2 h1
  omega
 ·exact h
 ·have h1:=rank_inj hj0 hll.symm h
  have h2:cd L i=cd L j:=by rw [← hi, ← hj,hll]
  unfold cd at h2
  rw [hll] at h2 h1
  omega
def selT (L:List Nat) (x:Nat):Nat→Option Nat
 | 0=>none
 | t+1=>match selT L x t with
  | some i=>some i
  | none=>if hit L x t=true then some t else none
theorem selT_some {L:List Nat} {x i:Nat}:∀ {t:Nat},selT L x t=some i ↔ i < t∧hit L x i=true
 | 0=>by simp [selT]
 | t+1=>by
  have ih:=selT_some (L:=L) (x:=x) (i:=i) (t:=t)
  simp only [selT]
  cases h:selT L x t with
  | some j=>
   have hj:=(selT_some (L:=L) (x:=x) (i:=j) (t:=t)).1 h
   simp only [Option.some.injEq]
   constructor
   ·rintro rfl; exact ⟨by omega,hj.2⟩
   ·rintro ⟨_,hi⟩; exact hit_unique hj.2 hi
  | none=>
   rw [h] at ih
   simp only
   split
   ·rename_i ht
    simp only [Option.some.injEq]
    constructor
    ·rintro rfl; exact ⟨by omega,ht⟩
    ·rintro ⟨_,hi⟩; exact hit_unique ht hi
   ·rename_i ht
    constructor
    ·intro h; cases h
    ·rintro ⟨h1,h2⟩
     rcases Nat.lt_succ_iff_lt_or_eq.1 h1 with h1 | rfl
     ·exact absurd (ih.2 ⟨h1,h2⟩) (by simp)
     ·exact absurd h2 ht
def selV (L:List Nat) (o:Option Nat):Nat:=
 match o with
 | some i=>i * 16+ln L i
 | none=>0
def tabV (L:List Nat) (x:Nat):Nat:=selV L (selT L x L.length)
end Go.M

namespace Go.M
theorem hit_congr {L:List Nat} {x y i k:Nat} (h:x % 2 ^ k=y % 2 ^ k) (hk:ln L i≤k):hit L x i=hit L y i:=by
 unfold hit
 have:rv (ln L i) x=rv (ln L i) y:=by rw [← rv_mod _ k x hk,h,rv_mod _ k y hk]
 rw [this]
theorem selT_congr {L:List Nat} {x y:Nat}:∀ {t:Nat},(∀ i,i < t→hit L x i=hit L y i)→selT L x t=selT L y t
 | 0,_=>rfl
 | t+1,h=>by simp only [selT,selT_congr (t:=t) fun i hi=>h i (by omega),h t (by omega)]
theorem exists_rank {n:Nat}:∀ (L:List Nat) (k:Nat),k < L.count n→∃ i,i < L.length∧L[i]?=some n∧(L.take i).count n=k
 | [],k,h=>by simp at h
 | a::L,k,h=>by
  by_cases ha:a=n
  ·subst ha
   cases k with
   | zero=>exact ⟨0,by simp,rfl,by simp⟩
   | succ k=>
    rw [List.count_cons_self] at h
    obtain ⟨i,h1,h2,h3⟩:=exists_rank (n:=a) L k (by omega)
    exact ⟨i+1,by simp; omega,by simpa using h2,by simp [h3]⟩
  ·have hc:(a::L).count n=L.count n:=by simp [ha]
   rw [hc] at h
   obtain ⟨i,h1,h2,h3⟩:=exists_rank (n:=n) L k h
   exact ⟨i+1,by simp; omega,by simpa using h2,by simp [ha,h3]⟩
theorem hit_of_rank {L:List Nat} {n x:Nat} (hn:n≠0) (h1:nx L n≤rv n x) (h2:rv n x < nx L n+cnt L n):∃ i,i < L.length∧ln L i=n∧hit L x i=true:=by
 have hc:cnt L n=L.count n:=by unfold cnt; rw [if_neg hn]
 obtain ⟨i,g1,g2,g3⟩:=exists_rank (n:=n) L (rv n x - nx L n) (by omega)
 have hl:ln L i=n:=by unfold ln; rw [List.getD_eq_getElem?_getD,g2]; rfl
 refine ⟨i,g1,hl,hit_iff.2 ⟨by omega,?_⟩⟩
 unfold cd
 rw [hl,g3]; omega
theorem hit_or {L:List Nat} (x:Nat):∀ n,(∃ i,ln L i≤n∧hit L x i=true)∨nx L n+cnt L n≤rv n x
 | 0=>.inr (by simp [nx,cnt,rv])
 | n+1=>by
  rcases hit_or (L:=L) x n with ⟨i,h1,h2⟩ | h
  ·exact .inl ⟨i,by omega,h2⟩
  ·have h2:=rv_one_more n x
   by_cases hlt:rv (n+1) x < nx L (n+1)+cnt L (n+1)
   ·obtain ⟨i,_,h3,h4⟩:=hit_of_rank (by omega) (by rw [nx]; omega) hlt
    exact .inl ⟨i,by omega,h4⟩
   ·exact .inr (by omega)
def Full (L:List Nat):Prop:=nx L (mxOf L)+cnt L (mxOf L)=2 ^ mxOf L
theorem Full.hits {L:List Nat} (h:Full L) (x:Nat):∃ i,hit L x i=true:=by
 rcases hit_or (L:=L) x (mxOf L) with ⟨i,_,h2⟩ | h2
 ·exact ⟨i,h2⟩
 ·have:=rv_lt (mxOf L) x
  unfold Full at h
  omega
theorem okL_cases {L:List Nat} (h:okL L=true):mxOf L=0∨Full L∨(mxOf L=1∧nx L 1+cnt L 1=1):=by
 unfold okL at h
 simp only [Bool.or_eq_true,Bool.and_eq_true,beq_iff_eq] at h
 rcases h with (h | h) | ⟨h1,h2⟩
 ·exact .inl h
 ·exact .inr (.inl h)
 ·rw [h2] at h1; exact .inr (.inr ⟨h2,h1⟩)
theorem tab_hit {L:List Nat} {x i:Nat} (h:hit L x i=true):tabV L x=i * 16+ln L i:=by
 unfold tabV
 rw [selT_some.2 ⟨(ln_mem (hit_iff.1 h).1).1,h⟩]; rfl
theorem tab_none {L:List Nat} {x:Nat} (h:∀ i,hit L x i=false):tabV L x=0:=by
 unfold tabV
 cases hs:selT L x L.length with
 | none=>rfl
 | some i=>have:=(selT_some.1 hs).2; rw [h i] at this; cases this
theorem hit_dec (L:List Nat) (x:Nat):(∃ i,hit L x i=true)∨∀ i,hit L x i=false:=by
 rcases Classical.em (∃ i,hit L x i=true) with h | h
 ·exact .inl h
 ·exact .inr fun i=>by
   cases hh:hit L x i with
   | true=>exact absurd ⟨i,hh⟩ h
   | false=>rfl
section
variable {L:List Nat}
theorem ln_15 (hL:∀ v ∈ L,v≤15) (i:Nat):ln L i≤15:=by
 by_cases h:ln L i=0
 ·omega
 ·exact hL _ (List.mem_of_getElem? (ln_mem h).2)
theorem mx_15 (hL:∀ v ∈ L,v≤15):mxOf L≤15:=by
 rcases (mm_spec L).2.2.2.1 with h | h
 ·omega
 ·exact hL _ h
theorem tab_mod (hL:∀ v ∈ L,v≤15) {x i:Nat} (h:hit L x i=true):tabV L x % 16=ln L i∧tabV L x / 16=i:=by
 have:=ln_15 hL i
 rw [tab_hit h]; omega
theorem tab_zero (hL:∀ v ∈ L,v≤15) {x:Nat} (h:tabV L x % 16=0) (i:Nat):hit L x i=false:=by
 cases hh:hit L x i with
 | false=>rfl
 | true=>
  have:=(tab_mod hL hh).1
  have:=(hit_iff.1 hh).1
  omega
theorem tab_nonzero (_hL:∀ v ∈ L,v≤15) {x:Nat} (h:tabV L x % 16≠0):∃ i,hit L x i=true:=by
 rcases hit_dec L x with h' | h'
 ·exact h'
 ·rw [tab_none h'] at h; exact absurd rfl h
theorem tab_small (hL:∀ v ∈ L,v≤15) (hlen:L.length≤100000) (x:Nat):tabV L x < 4294967296:=by
 rcases hit_dec L x with ⟨i,h⟩ | h
 ·have:=ln_15 hL i
  have:=(ln_mem (hit_iff.1 h).1).1
  rw [tab_hit h]; omega
 ·rw [tab_none h]; omega
theorem codeOk (hL:∀ v ∈ L,v≤15) (h:okL L=true) (mn:Nat) (h1:mnOf L≤mn) (h2:mn≤15):CodeOk mn (tabV L) where
 same x y h0 hxy:=by
  obtain ⟨i,hi⟩:=tab_nonzero hL h0
  rw [(tab_mod hL hi).1] at hxy
  rw [tab_hit hi,tab_hit (show hit L y i=true by rw [← hit_congr hxy (Nat.le_refl _)]; exact hi)]
 none x y h0 hxy:=by
  have hn:=tab_zero hL h0
  rcases okL_cases h with h3 | h3 | ⟨h3,h4⟩
  ·rw [tab_none]
   intro i
   cases hh:hit L y i with
   | false=>rfl
   | true=>have:=(hit_iff.1 hh).1; have:=ln_le this; omega
  ·obtain ⟨i,hi⟩:=h3.hits x
   rw [hn i] at hi; cases hi
  ·rw [tab_none]
   intro i
   rw [← hn i]
   have hmn:=(mm_spec L).1
   refine (hit_congr hxy ?_).symm
   by_cases h5:ln L i=0
   ·omega
   ·have:=ln_le h5; omega
 low x k hk:=by
  rcases hit_dec L (x % 2 ^ k) with ⟨j,hj⟩ | hn
  ·rw [(tab_mod hL hj).1]
   by_cases hjk:ln L j≤k
   ·have:hit L x j=true:=by rw [← hj]; exact hit_congr (k:=k) (Nat.mod_mod _ _).symm hjk
    rw [(tab_mod hL this).1]; exact Nat.le_refl _
   ·rcases okL_cases h with h3 | h3 | ⟨h3,h4⟩
    ·have:=ln_le (hit_iff.1 hj).1; omega
    ·obtain ⟨i,hi⟩:=h3.hits x
     rw [(tab_mod hL hi).1]
     rcases Nat.lt_or_ge (ln L i) (ln L j) with hlt | hge
     ·exfalso
      obtain ⟨g1,g2⟩:=hit_iff.1 hi
      obtain ⟨g3,g4⟩:=hit_iff.1 hj
      have h5:=cd_order g1 hlt
      have h6:=rv_add (ln L i) (ln L j - ln L i) (x % 2 ^ k)
      rw [show ln L i+(ln L j - ln L i)=ln L j from by omega,g4] at h6
      have h7:=rv_lt (ln L j - ln L i) (x % 2 ^ k / 2 ^ ln L i)
      rw [Nat.add_mul,Nat.one_mul] at h5
      have h8:rv (ln L i) (x % 2 ^ k)≤rv (ln L i) x:=by
       rcases Nat.le_total (ln L i) k with hle | hle
       ·rw [rv_mod _ _ _ hle]; exact Nat.le_refl _
       ·obtain ⟨d,hd⟩:=Nat.exists_eq_add_of_le hle
        rw [hd,rv_add,rv_add,rv_mod k k x (Nat.le_refl _),Nat.div_eq_of_lt (Nat.mod_lt _ (Nat.pow_pos (by decide))),rv_zero]
        omega
      have h9:rv (ln L i) (x % 2 ^ k) * 2 ^ (ln L j - ln L i)≤rv (ln L i) x * 2 ^ (ln L j - ln L i):=Nat.mul_le_mul_right _ h8
      rw [g2] at h9
      omega
     ·exact hge
    ·have h5:=ln_le (hit_iff.1 hj).1
     have hmn:=(mm_spec L).1
     omega
  ·rw [tab_none hn]; exact Nat.zero_le _
 mn:=h2
def link (L:List Nat):Nat:=nx L 9+cnt L 9
theorem hit_short {x i:Nat} (h:hit L x i=true) (h9:ln L i≤9):rv 9 x < link L:=by
 obtain ⟨g1,g2⟩:=hit_iff.1 h
 have hr:=rank_lt g1
 have hcd:cd L i < nx L (ln L i)+cnt L (ln L i):=by unfold cd; omega
 unfold link
 rcases Nat.lt_or_ge (ln L i) 9 with hlt | hge
 ·obtain ⟨k,hk⟩:=Nat.exists_eq_add_of_lt hlt
  have h1:=nx_up L (ln L i) k
  rw [← hk] at h1
  have h2:=rv_add (ln L i) (k+1) x
  rw [show ln L i+(k+1)=9 from by omega,g2] at h2
  have h3:=rv_lt (k+1) (x / 2 ^ ln L i)
  have h4:(cd L i+1) * 2 ^ (k+1)≤(nx L (ln L i)+cnt L (ln L i)) * 2 ^ (k+1):=Nat.mul_le_mul_right _ hcd
  rw [Nat.add_mul,Nat.one_mul] at h4
  omega
 ·have h9:ln L i=9:=by omega
  rw [h9] at g2 hcd
  rw [g2]; exact hcd
theorem hit_long {x i:Nat} (h:hit L x i=true) (h9:9 < ln L i):link L≤rv 9 x:=by
 obtain ⟨g1,g2⟩:=hit_iff.1 h
 obtain ⟨k,hk⟩:=Nat.exists_eq_add_of_lt h9
 have h1:=nx_up L 9 k
 rw [← hk] at h1
 have h2:=rv_add 9 (k+1) x
 rw [show 9+(k+1)=ln L i from by omega,g2] at h2
 have h3:=rv_lt (k+1) (x / 2 ^ 9)
 have h4:nx L (ln L i)≤cd L i:=by unfold cd; omega
 unfold link
 refine Nat.le_of_lt_succ (Nat.lt_of_mul_lt_mul_right (a:=2 ^ (k+1)) ?_)
 rw [Nat.succ_mul]
 omega
theorem link_le (h:okL L=true) (h9:9 < mxOf L):link L≤512:=code_le (n:=9) h (by omega)
end
end Go.M

namespace Go.M
def far9 (L:List Nat) (r:Nat):Prop:=9 < mxOf L∧link L≤rv 9 r
instance (L:List Nat) (r:Nat):Decidable (far9 L r):=by unfold far9; exact inferInstance
def chunkV (L:List Nat) (t r:Nat):Nat:=if far9 L r then (rv 9 r - link L) * 16+10 else selV L (selT L r t)
def linkV (L:List Nat) (t off y:Nat):Nat:=selV L (selT L (rv 9 (link L+off)+512 * y) t)
theorem hit_ext {L:List Nat} (hok:okL L=true) {x t:Nat} (ht:ln L t≠0):hit L x t=true ↔ x % 2 ^ ln L t=rv (ln L t) (cd L t):=by
 rw [hit_iff,rv_eq_iff (cd_lt hok ht)]
 exact ⟨fun h=>h.2,fun h=>⟨ht,h⟩⟩
theorem selT_new {L:List Nat} {x t:Nat}:selV L (selT L x (t+1))=if hit L x t=true then t * 16+ln L t else selV L (selT L x t):=by
 by_cases h:hit L x t=true
 ·rw [if_pos h]
  have hs:selT L x (t+1)=some t:=selT_some.2 ⟨by omega,h⟩
  rw [hs]; rfl
 ·rw [if_neg h]
  have hs:selT L x (t+1)=selT L x t:=by
   simp only [selT]
   cases selT L x t with
   | some i=>rfl
   | none=>simp [h]
  rw [hs]
section
variable {L:List Nat}
theorem chunk_skip (_hL:∀ v ∈ L,v≤15) (_hok:okL L=true) {t:Nat} (ht:ln L t=0) (r:Nat):chunkV L (t+1) r=chunkV L t r:=by
 unfold chunkV
 rw [selT_new]
 have: ¬ hit L r t=true:=by rw [hit_iff]; exact fun h=>h.1 ht
 rw [if_neg this]
theorem link_skip (_hL:∀ v ∈ L,v≤15) (_hok:okL L=true) {t:Nat} (ht:ln L t=0) (off y:Nat):linkV L (t+1) off y=linkV L t off y:=by
 unfold linkV
 rw [selT_new]
 have:∀ x, ¬ hit L x t=true:=fun x=>by rw [hit_iff]; exact fun h=>h.1 ht
 rw [if_neg (this _)]
theorem chunk_short (_hL:∀ v ∈ L,v≤15) (hok:okL L=true) {t:Nat} (ht:ln L t≠0) (h9:ln L t≤9) (r:Nat):chunkV L (t+1) r=if r % 2 ^ ln L t=rv (ln L t) (cd L t) then t * 16+ln L t else chunkV L t r:=by
 unfold chunkV
 rw [selT_new]
 by_cases h:r % 2 ^ ln L t=rv (ln L t) (cd L t)
 ·have hh:=(hit_ext hok ht).2 h
  have hf: ¬ far9 L r:=fun hf=>by have:=hit_short hh h9; have:=hf.2; omega
  rw [if_neg hf,if_pos hh,if_pos h]
 ·have hh: ¬ hit L r t=true:=fun hh=>h ((hit_ext hok ht).1 hh)
  rw [if_neg hh,if_neg h]
theorem link_short (_hL:∀ v ∈ L,v≤15) (_hok:okL L=true) {t off:Nat} (_ht:ln L t≠0) (h9:ln L t≤9) (y:Nat) (hl:link L+off < 512):linkV L (t+1) off y=linkV L t off y:=by
 unfold linkV
 rw [selT_new]
 have: ¬ hit L (rv 9 (link L+off)+512 * y) t=true:=by
  intro hh
  have h1:=hit_short hh h9
  have h2:rv 9 (rv 9 (link L+off)+512 * y)=link L+off:=by
   rw [← rv_mod 9 9 _ (Nat.le_refl _),show (2:Nat) ^ 9=512 from rfl,Nat.add_mul_mod_self_left,show (512:Nat)=2 ^ 9 from rfl,rv_mod 9 9 _ (Nat.le_refl _),rv_rv,Nat.mod_eq_of_lt hl]
  omega
 rw [if_neg this]
theorem long_far (_hL:∀ v ∈ L,v≤15) (hok:okL L=true) {t:Nat} (ht:ln L t≠0) (h9:9 < ln L t):far9 L (rv (ln L t) (cd L t) % 512)∧rv 9 (rv (ln L t) (cd L t) % 512) < 512:=by
 have hh:hit L (rv (ln L t) (cd L t)) t=true:=(hit_ext hok ht).2 (Nat.mod_eq_of_lt (rv_lt _ _))
 have h1:=hit_long hh h9
 have h2:=ln_le ht
 rw [show (512:Nat)=2 ^ 9 from rfl,rv_mod 9 9 _ (Nat.le_refl _)]
 exact ⟨⟨by omega,by rw [rv_mod 9 9 _ (Nat.le_refl _)]; exact h1⟩,rv_lt 9 _⟩
theorem chunk_long (_hL:∀ v ∈ L,v≤15) (_hok:okL L=true) {t:Nat} (ht:ln L t≠0) (h9:9 < ln L t) (r:Nat):chunkV L (t+1) r=chunkV L t r:=by
 unfold chunkV
 rw [selT_new]
 by_cases hf:far9 L r
 ·rw [if_pos hf,if_pos hf]
 ·have hh: ¬ hit L r t=true:=by
   intro hh
   have:=hit_long hh h9
   have:=ln_le ht
   exact hf ⟨by omega,by omega⟩
  rw [if_neg hf,if_neg hf,if_neg hh]
theorem link_long (hL:∀ v ∈ L,v≤15) (hok:okL L=true) {t off y:Nat} (ht:ln L t≠0) (h9:9 < ln L t) (hl:link L+off < 512):
  linkV L (t+1) off y=if off=rv 9 (rv (ln L t) (cd L t) % 512) - link L∧y % 2 ^ (ln L t - 9)=rv (ln L t) (cd L t) / 512 then t * 16+ln L t else linkV L t off y:=by
 unfold linkV
 rw [selT_new]
 have hfar:=long_far hL hok ht h9
 have hb:=rv_lt 9 (link L+off)
 have iff:hit L (rv 9 (link L+off)+512 * y) t=true ↔ (off=rv 9 (rv (ln L t) (cd L t) % 512) - link L∧y % 2 ^ (ln L t - 9)=rv (ln L t) (cd L t) / 512):=by
  rw [hit_ext hok ht]
  generalize rv (ln L t) (cd L t)=w at hfar
  have hp:(2:Nat) ^ ln L t=512 * 2 ^ (ln L t - 9):=by
   rw [show (512:Nat)=2 ^ 9 from rfl, ← Nat.pow_add]; congr 1; omega
  have hx:(rv 9 (link L+off)+512 * y) % 2 ^ ln L t=rv 9 (link L+off)+512 * (y % 2 ^ (ln L t - 9)):=by
   rw [hp,Nat.mod_mul]
   have:(2:Nat) ^ 9=512:=rfl
   have e1:(rv 9 (link L+off)+512 * y) % 512=rv 9 (link L+off):=by omega
   have e2:(rv 9 (link L+off)+512 * y) / 512=y:=by omega
   rw [e1,e2]
  rw [hx]
  have h512:(2:Nat) ^ 9=512:=rfl
  constructor
  ·intro h
   have e1:w % 512=rv 9 (link L+off):=by omega
   have e2:y % 2 ^ (ln L t - 9)=w / 512:=by omega
   refine ⟨?_,e2⟩
   rw [e1,rv_rv,Nat.mod_eq_of_lt hl]; omega
  ·rintro ⟨h1,h2⟩
   have h3:link L+off=rv 9 (w % 512):=by have:=hfar.1.2; omega
   rw [h2,h3,rv_rv,show (2:Nat) ^ 9=512 from rfl,Nat.mod_mod]
   omega
 by_cases h:hit L (rv 9 (link L+off)+512 * y) t=true
 ·rw [if_pos h,if_pos (iff.1 h)]
 ·rw [if_neg h,if_neg fun h'=>h (iff.2 h')]
theorem chunk_all (hL:∀ v ∈ L,v≤15) (_hok:okL L=true) (x:Nat):(¬ far9 L (x % 512)→chunkV L L.length (x % 512)=tabV L x∧tabV L x % 16≤9):=by
 intro hf
 unfold chunkV
 rw [if_neg hf]
 have hr:rv 9 (x % 512)=rv 9 x:=rv_mod 9 9 x (Nat.le_refl _)
 have hh:∀ y i,rv 9 y=rv 9 x→hit L y i=true→ln L i≤9:=by
  intro y i hy h
  rcases Nat.lt_or_ge 9 (ln L i) with h9 | h9
  ·exfalso
   have h1:=hit_long h h9
   have h2:=ln_le (hit_iff.1 h).1
   exact hf ⟨by omega,by omega⟩
  ·exact h9
 have hs:selT L (x % 512) L.length=selT L x L.length:=by
  refine selT_congr fun i hi=>?_
  have hm:x % 512 % 2 ^ 9=x % 2 ^ 9:=by rw [show (2:Nat) ^ 9=512 from rfl]; omega
  cases h:hit L x i with
  | true=>rw [← h]; exact hit_congr hm (hh x i rfl h)
  | false=>
   cases h':hit L (x % 512) i with
   | false=>rfl
   | true=>
    rw [hit_congr hm (hh _ i hr h')] at h'
    rw [h] at h'; cases h'
 rw [hs]
 refine ⟨rfl,?_⟩
 rcases hit_dec L x with ⟨i,hi⟩ | hn
 ·rw [(tab_mod hL hi).1]; exact hh x i rfl hi
 ·rw [tab_none hn]; omega
theorem link_all (_hL:∀ v ∈ L,v≤15) (_hok:okL L=true) {x:Nat} (hf:far9 L (x % 512)):chunkV L L.length (x % 512)=(rv 9 (x % 512) - link L) * 16+10∧link L+(rv 9 (x % 512) - link L) < 512∧
  linkV L L.length (rv 9 (x % 512) - link L) (x / 512 % 2 ^ (mxOf L - 9))=tabV L x:=by
 unfold chunkV linkV
 rw [if_pos hf]
 obtain ⟨h1,h2⟩:=hf
 have hb:=rv_lt 9 (x % 512)
 have h512:(2:Nat) ^ 9=512:=rfl
 refine ⟨rfl,by omega,?_⟩
 rw [show link L+(rv 9 (x % 512) - link L)=rv 9 (x % 512) from by omega,rv_rv,h512,Nat.mod_mod]
 have hp:x % 512+512 * (x / 512 % 2 ^ (mxOf L - 9))=x % 2 ^ mxOf L:=by
  rw [← Nat.mod_mul, ← h512, ← Nat.pow_add,show 9+(mxOf L - 9)=mxOf L from by omega]
 rw [hp]
 show selV L (selT L (x % 2 ^ mxOf L) L.length)=tabV L x
 have hs:selT L (x % 2 ^ mxOf L) L.length=selT L x L.length:=by
  refine selT_congr fun i hi=>hit_congr (k:=mxOf L) (Nat.mod_mod _ _) ?_
  by_cases h0:ln L i=0
  ·omega
  ·exact (ln_le h0).2
 rw [hs]; rfl
theorem chunk_zero (r:Nat):chunkV L 0 r=if far9 L r then (rv 9 r - link L) * 16+10 else 0:=rfl
theorem link_zero (off y:Nat):linkV L 0 off y=0:=rfl
end
end Go.M

namespace Go.M
def krn (n:Nat):List Nat→Nat
 | []=>0
 | l::L=>(if l≠0∧l≤n then 2 ^ (15 - l) else 0)+krn n L
theorem krn_succ (n:Nat):∀ L:List Nat,krn (n+1) L=krn n L+L.count (n+1) * 2 ^ (15 - (n+1))
 | []=>by simp [krn]
 | l::L=>by
  rw [krn,krn,krn_succ n L,List.count_cons]
  by_cases h:l=n+1
  ·subst h
   rw [if_pos (by omega),if_neg (by omega)]
   simp [Nat.add_mul]
   omega
  ·by_cases h2:l≠0∧l≤n
   ·rw [if_pos (by omega),if_pos h2]
    simp [h]
    omega
   ·rw [if_neg (by omega),if_neg h2]
    simp [h]
theorem krn_zero:∀ L:List Nat,krn 0 L=0
 | []=>rfl
 | l::L=>by rw [krn,if_neg (by omega),krn_zero L]
theorem nx_krn (L:List Nat):∀ n,n≤15→(nx L n+cnt L n) * 2 ^ (15 - n)=krn n L
 | 0,_=>by simp [nx,cnt,krn_zero]
 | n+1,h=>by
  have ih:=nx_krn L n (by omega)
  have h2:cnt L (n+1)=L.count (n+1):=by unfold cnt; rw [if_neg (by omega)]
  rw [krn_succ, ← ih,nx,Nat.add_mul,h2,show 15 - n=(15 - (n+1))+1 from by omega,Nat.pow_succ]
  congr 1
  rw [Nat.mul_assoc,Nat.mul_comm 2,Nat.mul_assoc]
theorem krn_top {n m:Nat}:∀ {L:List Nat},(∀ l ∈ L,l≤n)→n≤m→krn n L=krn m L
 | [],_,_=>rfl
 | l::L,h,hm=>by
  have hl:=h l (List.mem_cons_self ..)
  rw [krn,krn,krn_top (fun v hv=>h v (List.mem_cons_of_mem _ hv)) hm]
  by_cases h0:l=0
  ·rw [if_neg (by omega),if_neg (by omega)]
  ·rw [if_pos (by omega),if_pos (by omega)]
section
variable {L:List Nat}
theorem mx_krn (hL:∀ v ∈ L,v≤15):(nx L (mxOf L)+cnt L (mxOf L)) * 2 ^ (15 - mxOf L)=krn 15 L:=by
 have hm:=mx_15 hL
 rw [nx_krn L _ hm]
 refine krn_top (fun l hl=>?_) hm
 by_cases h0:l=0
 ·omega
 ·exact ((mm_spec L).2.2.1 l hl h0).2
theorem full_iff (hL:∀ v ∈ L,v≤15):Full L ↔ krn 15 L=2 ^ 15:=by
 have hm:=mx_15 hL
 rw [← mx_krn hL]
 have hp:(2:Nat) ^ 15=2 ^ mxOf L * 2 ^ (15 - mxOf L):=by rw [← Nat.pow_add,show mxOf L+(15 - mxOf L)=15 from by omega]
 rw [hp]
 unfold Full
 constructor
 ·intro h; rw [h]
 ·intro h; exact Nat.eq_of_mul_eq_mul_right (Nat.pow_pos (by decide)) h
theorem over_bad (hL:∀ v ∈ L,v≤15) (h:2 ^ 15 < krn 15 L):okL L=false:=by
 cases hk:okL L with
 | false=>rfl
 | true=>
  have hm:=mx_15 hL
  have h1:=code_le hk (Nat.le_refl (mxOf L))
  have h2:=mx_krn hL
  have h3:(nx L (mxOf L)+cnt L (mxOf L)) * 2 ^ (15 - mxOf L)≤2 ^ mxOf L * 2 ^ (15 - mxOf L):=Nat.mul_le_mul_right _ h1
  rw [← Nat.pow_add,show mxOf L+(15 - mxOf L)=15 from by omega] at h3
  omega
theorem full_ok (h:Full L):okL L=true:=by
 unfold okL Full at *
 simp [h]
end
def usedN (L:List Nat):Nat:=(L.filter (· ≠0)).length
theorem used_zero:∀ {L:List Nat},usedN L=0→∀ v ∈ L,v=0
 | [],_,v,hv=>by cases hv
 | l::L,h,v,hv=>by
  unfold usedN at h
  by_cases h0:l=0
  ·subst h0
   simp at h
   rcases List.mem_cons.1 hv with rfl | hv
   ·rfl
   ·exact h v hv
  ·simp [h0] at h
theorem used_one:∀ {L:List Nat},usedN L=1→∃ l,l≠0∧l ∈ L∧(∀ v ∈ L,v=0∨v=l)∧(l≤15→krn 15 L=2 ^ (15 - l))
 | [],h=>by simp [usedN] at h
 | a::L,h=>by
  by_cases h0:a=0
  ·subst h0
   have h':usedN L=1:=by unfold usedN at h ⊢; simpa using h
   obtain ⟨l,h1,h2,h3,h4⟩:=used_one h'
   refine ⟨l,h1,List.mem_cons_of_mem _ h2,fun v hv=>?_,fun hl=>?_⟩
   ·rcases List.mem_cons.1 hv with rfl | hv
    ·exact .inl rfl
    ·exact h3 v hv
   ·rw [krn,if_neg (by omega),h4 hl]; omega
  ·have h':usedN L=0:=by unfold usedN at h ⊢; simp [h0] at h; simpa using h
   have hz:=used_zero h'
   refine ⟨a,h0,List.mem_cons_self ..,fun v hv=>?_,fun hl=>?_⟩
   ·rcases List.mem_cons.1 hv with rfl | hv
    ·exact .inr rfl
    ·exact .inl (hz v hv)
   ·rw [krn,if_pos ⟨h0,hl⟩]
    have:∀ {M:List Nat},(∀ v ∈ M,v=0)→krn 15 M=0:=by
     intro M
     induction M with
     | nil=>intro _; rfl
     | cons m M ih=>intro hM; rw [krn,if_neg (by have:=hM m (List.mem_cons_self ..); omega),ih fun v hv=>hM v (List.mem_cons_of_mem _ hv)]
    rw [this hz]; omega
theorem none_ok {L:List Nat} (h:usedN L=0):okL L=true:=by
 have hz:=used_zero h
 have:mxOf L=0:=by
  rcases (mm_spec L).2.2.2.1 with h1 | h1
  ·exact h1
  ·exact hz _ h1
 unfold okL
 simp [this]
theorem one_ok {L:List Nat} (hL:∀ v ∈ L,v≤15) (h:usedN L=1) (hk:krn 15 L=2 ^ 14):okL L=true:=by
 obtain ⟨l,h1,h2,h3,h4⟩:=used_one h
 have hl:=hL l h2
 have h5:=h4 hl
 have hl1:l=1:=by
  rw [hk] at h5
  have h6:∀ j:Fin 16,2 ^ 14=2 ^ (15 - j.val)→j.val=1:=by decide
  exact h6 ⟨l,by omega⟩ h5
 subst hl1
 have hmx:mxOf L=1:=by
  have h6:=((mm_spec L).2.2.1 1 h2 (by decide)).2
  rcases (mm_spec L).2.2.2.1 with h7 | h7
  ·omega
  ·rcases h3 _ h7 with h8 | h8 <;> omega
 have h6:=mx_krn hL
 rw [hmx,hk] at h6
 have h7:nx L 1+cnt L 1=1:=by omega
 unfold okL
 simp [hmx,h7]
end Go.M

namespace Go.M
def HdOk (c:Sc):Prop:=∀ p T p',c.hd p=.ok T p'→p≤p'∧p'≤c.tot
def wt:Md→Nat
 | .block=>0
 | .stored _ _=>1
 | .coded _ _=>0
 | .copy _ _ _ n=>n+1
def pnd:Md→Nat
 | .copy _ _ _ n=>n
 | _=>0
theorem sym_ok {c:Sc} {V:Nat→Nat} {mn p s p':Nat} (h:sym c V mn p=.ok s p'):p < p'∧p'≤c.tot:=by
 unfold sym at h
 split at h
 ·cases h
 ·split at h
  ·cases h
  ·simp only [Sy.ok.injEq] at h
   omega
theorem gfar_go {c:Sc} {H:List Nat} {fin:Bool} {T:Tb} {len d p:Nat} {s':St} (h:gfar c H fin T len d p=.go s'):s'=⟨p,H,.copy fin T d len⟩∧d≤32768∧d≤H.length:=by
 unfold gfar at h
 split at h
 ·cases h
 ·simp only [Nx.go.injEq] at h
  exact ⟨h.symm,by omega,by omega⟩
theorem gdist_go {c:Sc} {H:List Nat} {fin:Bool} {T:Tb} {len k p:Nat} {s':St} (h:gdist c H fin T len k p=.go s') (hp:p≤c.tot):
  ∃ d p',s'=⟨p',H,.copy fin T d len⟩∧p≤p'∧p'≤c.tot∧0 < d∧d≤32768∧d≤H.length:=by
 unfold gdist at h
 split at h
 ·obtain ⟨h1,h2,h3⟩:=gfar_go h
  exact ⟨_,_,h1,Nat.le_refl _,hp,by omega,h2,h3⟩
 ·split at h
  ·split at h
   ·cases h
   ·obtain ⟨h1,h2,h3⟩:=gfar_go h
    have hp2:0 < 2 ^ ((k - 2) / 2+1):=Nat.pow_pos (by decide)
    exact ⟨_,_,h1,by omega,by omega,Nat.add_pos_left (Nat.add_pos_left hp2 _) _,h2,h3⟩
  ·cases h
theorem glen_go {c:Sc} {H:List Nat} {fin:Bool} {T:Tb} {len p:Nat} {s':St} (h:glen c H fin T len p=.go s'):
  ∃ d p',s'=⟨p',H,.copy fin T d len⟩∧p < p'∧p'≤c.tot∧0 < d∧d≤32768∧d≤H.length:=by
 unfold glen at h
 split at h
 ·split at h
  ·cases h
  ·obtain ⟨d,p',h1,h2,h3,h4⟩:=gdist_go h (by omega)
   exact ⟨d,p',h1,by omega,h3,h4⟩
 ·split at h
  ·cases h
  ·cases h
  ·rename_i hs
   have:=sym_ok hs
   obtain ⟨d,p',h1,h2,h3,h4⟩:=gdist_go h (by omega)
   exact ⟨d,p',h1,by omega,h3,h4⟩
theorem lenOf_le {s:Nat} (h:257≤s):(lenOf s).1+2 ^ (lenOf s).2≤259:=by
 unfold lenOf
 repeat' split
 all_goals simp only
 all_goals omega
theorem gsym_go {c:Sc} {H:List Nat} {fin:Bool} {T:Tb} {s p:Nat} {s':St} (h:gsym c H fin T s p=.go s') (_hp:p≤c.tot):
  (s < 256∧s'=⟨p,H++[s],.coded fin T⟩)∨(s=256∧s'=⟨p,H,.block⟩)∨
  (∃ d len p',s'=⟨p',H,.copy fin T d len⟩∧p < p'∧p'≤c.tot∧0 < d∧d≤32768∧d≤H.length∧len≤258):=by
 unfold gsym at h
 split at h
 ·simp only [Nx.go.injEq] at h
  rename_i hs
  exact .inl ⟨hs,h.symm⟩
 ·split at h
  ·rename_i hs
   cases fin with
   | true=>cases h
   | false=>simp only [Nx.go.injEq] at h; exact .inr (.inl ⟨hs,h.symm⟩)
  ·split at h
   ·cases h
   ·split at h
    ·cases h
    ·obtain ⟨d,p',h1,h2,h3,h4,h5,h6⟩:=glen_go h
     have h7:=lenOf_le (s:=s) (by omega)
     have h8:=tk_lt c.N p (lenOf s).2
     exact .inr (.inr ⟨d,_,p',h1,by omega,h3,h4,h5,h6,by omega⟩)
theorem gstep_go {c:Sc} (hc:HdOk c) {s s':St} (h:gstep c s=.go s') (hp:s.p≤c.tot):
  s.p≤s'.p∧s'.p≤c.tot∧(s.p < s'.p∨wt s'.md < wt s.md)∧s'.H.length+pnd s'.md≤s.H.length+pnd s.md+129 * (s'.p - s.p)∧∃ T,s'.H=s.H++T:=by
 obtain ⟨p,H,md⟩:=s
 unfold gstep at h
 simp only at h hp ⊢
 cases md with
 | block=>
  simp only at h
  unfold gblock at h
  split at h
  ·cases h
  ·split at h
   ·split at h
    ·cases h
    ·split at h
     ·cases h
     ·simp only [Nx.go.injEq] at h
      subst h
      simp only [pnd]
      exact ⟨by omega,by omega,.inl (by omega),by omega,[],by simp⟩
   ·split at h
    ·simp only [Nx.go.injEq] at h
     subst h
     simp only [pnd]
     exact ⟨by omega,by omega,.inl (by omega),by omega,[],by simp⟩
    ·split at h
     ·split at h
      ·cases h
      ·cases h
      ·rename_i T p' hh
       have:=hc _ _ _ hh
       simp only [Nx.go.injEq] at h
       subst h
       simp only [pnd]
       exact ⟨by omega,by omega,.inl (by omega),by omega,[],by simp⟩
     ·cases h
 | stored fin n=>
  cases n with
  | zero=>
   cases fin with
   | true=>cases h
   | false=>
    simp only [Nx.go.injEq] at h
    subst h
    simp only [pnd,wt]
    exact ⟨Nat.le_refl _,hp,.inr (by omega),by omega,[],by simp⟩
  | succ n=>
   simp only at h
   split at h
   ·cases h
   ·simp only [Nx.go.injEq] at h
    subst h
    simp only [pnd,List.length_append,List.length_singleton]
    exact ⟨by omega,by omega,.inl (by omega),by omega,_,rfl⟩
 | coded fin T=>
  simp only at h
  unfold gcoded at h
  split at h
  ·cases h
  ·cases h
  ·rename_i s p' hs
   have h0:=sym_ok hs
   rcases gsym_go h h0.2 with ⟨h1,h2⟩ | ⟨h1,h2⟩ | ⟨d,len,p2,h1,h2,h3,h4,h5,h6,h7⟩
   ·subst h2
    simp only [pnd,List.length_append,List.length_singleton]
    exact ⟨by omega,by omega,.inl (by omega),by omega,_,rfl⟩
   ·subst h2
    simp only [pnd]
    exact ⟨by omega,by omega,.inl (by omega),by omega,[],by simp⟩
   ·subst h1
    simp only [pnd]
    exact ⟨by omega,by omega,.inl (by omega),by omega,[],by simp⟩
 | copy fin T d n=>
  cases n with
  | zero=>
   simp only [Nx.go.injEq] at h
   subst h
   simp only [pnd,wt]
   exact ⟨Nat.le_refl _,hp,.inr (by omega),by omega,[],by simp⟩
  | succ n=>
   simp only [Nx.go.injEq] at h
   subst h
   simp only [pnd,wt,lz_length]
   exact ⟨Nat.le_refl _,hp,.inr (by omega),by omega,_,rfl⟩
theorem gdist_stop {c:Sc} {H H':List Nat} {fin:Bool} {T:Tb} {len k p p':Nat} {e:Er} (h:gdist c H fin T len k p=.stop H' e p'):H'=H∧e≠.fin:=by
 unfold gdist gfar at h
 repeat' split at h
 all_goals first
  | (cases h; done)
  | (simp only [Nx.stop.injEq] at h; obtain ⟨rfl,rfl,rfl⟩:=h; exact ⟨rfl,by decide⟩)
theorem glen_stop {c:Sc} {H H':List Nat} {fin:Bool} {T:Tb} {len p p':Nat} {e:Er} (h:glen c H fin T len p=.stop H' e p'):H'=H∧e≠.fin:=by
 unfold glen at h
 split at h
 ·split at h
  ·simp only [Nx.stop.injEq] at h; obtain ⟨rfl,rfl,rfl⟩:=h; exact ⟨rfl,by decide⟩
  ·exact gdist_stop h
 ·split at h
  ·simp only [Nx.stop.injEq] at h; obtain ⟨rfl,rfl,rfl⟩:=h; exact ⟨rfl,by decide⟩
  ·simp only [Nx.stop.injEq] at h; obtain ⟨rfl,rfl,rfl⟩:=h; exact ⟨rfl,by decide⟩
  ·exact gdist_stop h
theorem gstep_stop {c:Sc} {s:St} {H:List Nat} {e:Er} {p:Nat} (h:gstep c s=.stop H e p) (hp:s.p≤c.tot):H=s.H∧(e=.fin→s.p≤p∧p≤c.tot):=by
 obtain ⟨p0,H0,md⟩:=s
 unfold gstep at h
 simp only at h hp ⊢
 cases md with
 | block=>
  simp only at h
  unfold gblock at h
  repeat' split at h
  all_goals first
   | (cases h; done)
   | (simp only [Nx.stop.injEq] at h; obtain ⟨rfl,rfl,rfl⟩:=h; exact ⟨rfl,fun h=>by cases h⟩)
 | stored fin n=>
  cases n with
  | zero=>
   cases fin with
   | true=>simp only [Nx.stop.injEq] at h; obtain ⟨rfl,rfl,rfl⟩:=h; exact ⟨rfl,fun _=>⟨Nat.le_refl _,hp⟩⟩
   | false=>cases h
  | succ n=>
   simp only at h
   split at h
   ·simp only [Nx.stop.injEq] at h; obtain ⟨rfl,rfl,rfl⟩:=h; exact ⟨rfl,fun h=>by cases h⟩
   ·cases h
 | coded fin T=>
  simp only at h
  unfold gcoded at h
  split at h
  ·simp only [Nx.stop.injEq] at h; obtain ⟨rfl,rfl,rfl⟩:=h; exact ⟨rfl,fun h=>by cases h⟩
  ·simp only [Nx.stop.injEq] at h; obtain ⟨rfl,rfl,rfl⟩:=h; exact ⟨rfl,fun h=>by cases h⟩
  ·rename_i s p' hs
   have h0:=sym_ok hs
   unfold gsym at h
   split at h
   ·cases h
   ·split at h
    ·cases fin with
     | true=>simp only [Nx.stop.injEq] at h; obtain ⟨rfl,rfl,rfl⟩:=h; exact ⟨rfl,fun _=>by omega⟩
     | false=>cases h
    ·split at h
     ·simp only [Nx.stop.injEq] at h; obtain ⟨rfl,rfl,rfl⟩:=h; exact ⟨rfl,fun h=>by cases h⟩
     ·split at h
      ·simp only [Nx.stop.injEq] at h; obtain ⟨rfl,rfl,rfl⟩:=h; exact ⟨rfl,fun h=>by cases h⟩
      ·have:=glen_stop h
       exact ⟨this.1,fun h=>absurd h this.2⟩
 | copy fin T d n=>cases n <;> cases h
theorem Runs.bound {c:Sc} (hc:HdOk c) {s:St} {H:List Nat} {e:Er} {p:Nat} (h:Runs c s H e p):s.p≤c.tot→
  H.length≤s.H.length+pnd s.md+129 * (c.tot - s.p)∧(∃ T,H=s.H++T)∧(e=.fin→s.p≤p∧p≤c.tot):=by
 induction h with
 | stop h1=>
  intro hp
  obtain ⟨rfl,h2⟩:=gstep_stop h1 hp
  exact ⟨by omega,⟨[],by simp⟩,h2⟩
 | step h1 _ ih=>
  intro hp
  obtain ⟨g1,g2,_,g4,T,g5⟩:=gstep_go hc h1 hp
  obtain ⟨i1,⟨T2,i2⟩,i3⟩:=ih g2
  refine ⟨by omega,⟨T++T2,by rw [i2,g5,List.append_assoc]⟩,fun he=>?_⟩
  have:=i3 he
  omega
theorem runs_total {c:Sc} (hc:HdOk c):∀ (n k:Nat) (s:St),c.tot - s.p=n→wt s.md=k→s.p≤c.tot→∃ H e p,Runs c s H e p:=by
 intro n
 induction n using Nat.strongRecOn with
 | _ n ihn=>
  intro k
  induction k using Nat.strongRecOn with
  | _ k ihk=>
   intro s hn hk hp
   cases h:gstep c s with
   | stop H e p=>exact ⟨H,e,p,.stop h⟩
   | go s'=>
    obtain ⟨g1,g2,g3,_,_⟩:=gstep_go hc h hp
    have:∃ H e p,Runs c s' H e p:=by
     by_cases hlt:s.p < s'.p
     ·exact ihn (c.tot - s'.p) (by omega) _ s' rfl rfl g2
     ·rcases g3 with g3 | g3
      ·exact absurd g3 hlt
      ·exact ihk (wt s'.md) (by omega) s' (by omega) rfl g2
    obtain ⟨H,e,p,hr⟩:=this
    exact ⟨H,e,p,.step h hr⟩
theorem Runs.det {c:Sc} {s:St} {H H':List Nat} {e e':Er} {p p':Nat} (h:Runs c s H e p) (h':Runs c s H' e' p'):H=H'∧e=e'∧p=p':=by
 induction h with
 | stop h1=>exact (h'.end h1).elim fun a b=>⟨a.symm,b.1.symm,b.2.symm⟩
 | step h1 _ ih=>exact ih (h'.go h1)
end Go.M

namespace Go.M
def clOrder:List Nat:=[16,17,18,0,8,7,9,6,10,5,11,4,12,3,13,2,14,1,15]
def clens (N p n:Nat):List Nat:=(List.range 19).map fun s=>if clOrder.idxOf s < n then tk N (p+3 * clOrder.idxOf s) 3 else 0
def sc0 (N tot:Nat):Sc:=⟨N,tot,⟨fun _=>0,0,none⟩,fun _=>.cut⟩
theorem sym_sc {c c':Sc} (h1:c.N=c'.N) (h2:c.tot=c'.tot) (V:Nat→Nat) (mn p:Nat):sym c V mn p=sym c' V mn p:=by
 unfold sym; rw [h1,h2]
inductive Ls
 | go (ls:List Nat) (p:Nat)
 | cut
 | bad
def lrep (c:Sc) (n:Nat) (ls:List Nat) (b base nb q:Nat):Ls:=
 if c.tot < q+nb then .cut
 else if n < ls.length+(base+tk c.N q nb) then .bad
 else .go (ls++List.replicate (base+tk c.N q nb) b) (q+nb)
def lsym (c:Sc) (n:Nat) (ls:List Nat) (x q:Nat):Ls:=
 if x < 16 then .go (ls++[x]) q
 else if x=16 then (if ls=[] then .bad else lrep c n ls (ls.getD (ls.length - 1) 0) 3 2 q)
 else if x=17 then lrep c n ls 0 3 3 q
 else lrep c n ls 0 11 7 q
def lstep (c:Sc) (V:Nat→Nat) (mn n:Nat) (ls:List Nat) (p:Nat):Ls:=
 match sym c V mn p with
 | .cut=>.cut
 | .bad=>.bad
 | .ok x q=>lsym c n ls x q
def lrun (c:Sc) (V:Nat→Nat) (mn n:Nat):Nat→List Nat→Nat→Ls
 | 0,ls,p=>.go ls p
 | k+1,ls,p=>
  if n≤ls.length then .go ls p
  else match lstep c V mn n ls p with
   | .go ls' p'=>lrun c V mn n k ls' p'
   | .cut=>.cut
   | .bad=>.bad
theorem lrep_go {c:Sc} {n b base nb q:Nat} {ls ls':List Nat} {p':Nat} (h:lrep c n ls b base nb q=.go ls' p') (hb:0 < base):
  ls.length < ls'.length∧ls'.length≤n∧q≤p'∧p'≤c.tot∧(∃ T,ls'=ls++T∧∀ v ∈ T,v=b):=by
 unfold lrep at h
 split at h
 ·cases h
 ·split at h
  ·cases h
  ·simp only [Ls.go.injEq] at h
   obtain ⟨rfl,rfl⟩:=h
   refine ⟨by simp; omega,by simp; omega,by omega,by omega,_,rfl,fun v hv=>(List.mem_replicate.1 hv).2⟩
theorem lsym_go {c:Sc} {n x q:Nat} {ls ls':List Nat} {p':Nat} (h:lsym c n ls x q=.go ls' p') (hn:ls.length < n) (hq:q≤c.tot):
  ls.length < ls'.length∧ls'.length≤n∧q≤p'∧p'≤c.tot∧((∀ v ∈ ls,v≤15)→∀ v ∈ ls',v≤15):=by
 unfold lsym at h
 split at h
 ·simp only [Ls.go.injEq] at h
  obtain ⟨rfl,rfl⟩:=h
  refine ⟨by simp,by simp; omega,Nat.le_refl _,hq,fun h v hv=>?_⟩
  rcases List.mem_append.1 hv with hv | hv
  ·exact h v hv
  ·simp only [List.mem_singleton] at hv; omega
 ·have key:∀ b base nb,0 < base→((∀ v ∈ ls,v≤15)→b≤15)→lrep c n ls b base nb q=.go ls' p'→ls.length < ls'.length∧ls'.length≤n∧q≤p'∧p'≤c.tot∧((∀ v ∈ ls,v≤15)→∀ v ∈ ls',v≤15):=by
   intro b base nb hb hv h
   obtain ⟨h1,h2,h3,h4,T,h5,h6⟩:=lrep_go h hb
   refine ⟨h1,h2,h3,h4,fun hl v hm=>?_⟩
   rw [h5] at hm
   rcases List.mem_append.1 hm with hm | hm
   ·exact hl v hm
   ·rw [h6 v hm]; exact hv hl
  split at h
  ·split at h
   ·cases h
   ·rename_i hne
    refine key _ 3 2 (by omega) (fun hl=>?_) h
    have:ls.length - 1 < ls.length:=by
     have:=List.length_pos_iff.2 hne; omega
    rw [List.getD_eq_getElem?_getD,List.getElem?_eq_getElem this]
    exact hl _ (List.getElem_mem this)
  ·split at h
   ·exact key 0 3 3 (by omega) (fun _=>by omega) h
   ·exact key 0 11 7 (by omega) (fun _=>by omega) h
theorem lstep_go {c:Sc} {V:Nat→Nat} {mn n p:Nat} {ls ls':List Nat} {p':Nat} (h:lstep c V mn n ls p=.go ls' p') (hn:ls.length < n):
  ls.length < ls'.length∧ls'.length≤n∧p≤p'∧p'≤c.tot∧((∀ v ∈ ls,v≤15)→∀ v ∈ ls',v≤15):=by
 unfold lstep at h
 split at h
 ·cases h
 ·cases h
 ·rename_i hs
  have h0:=sym_ok hs
  obtain ⟨h1,h2,h3,h4,h5⟩:=lsym_go h hn h0.2
  exact ⟨h1,h2,by omega,h4,h5⟩
theorem lrun_fuel {c:Sc} {V:Nat→Nat} {mn n:Nat}:∀ {k k':Nat} {ls:List Nat} {p:Nat},n≤ls.length+k→n≤ls.length+k'→lrun c V mn n k ls p=lrun c V mn n k' ls p
 | 0,0,ls,p,_,_=>rfl
 | 0,k'+1,ls,p,h,_=>by rw [lrun,lrun,if_pos (by omega)]
 | k+1,0,ls,p,_,h=>by rw [lrun,lrun,if_pos (by omega)]
 | k+1,k'+1,ls,p,h1,h2=>by
  rw [lrun,lrun]
  split
  ·rfl
  ·rename_i hlt
   cases hs:lstep c V mn n ls p with
   | cut=>rfl
   | bad=>rfl
   | go ls' p'=>
    have:=(lstep_go hs (by omega)).1
    exact lrun_fuel (by omega) (by omega)
theorem lrun_go {c:Sc} {V:Nat→Nat} {mn n:Nat}:∀ {k:Nat} {ls:List Nat} {p:Nat} {ls':List Nat} {p':Nat},n≤ls.length+k→ls.length≤n→p≤c.tot→(∀ v ∈ ls,v≤15)→lrun c V mn n k ls p=.go ls' p'→
  ls'.length=n∧p≤p'∧p'≤c.tot∧∀ v ∈ ls',v≤15
 | 0,ls,p,ls',p',h1,h2,h3,h4,h=>by
  simp only [lrun,Ls.go.injEq] at h
  obtain ⟨rfl,rfl⟩:=h
  exact ⟨by omega,Nat.le_refl _,h3,h4⟩
 | k+1,ls,p,ls',p',h1,h2,h3,h4,h=>by
  rw [lrun] at h
  split at h
  ·simp only [Ls.go.injEq] at h
   obtain ⟨rfl,rfl⟩:=h
   exact ⟨by omega,Nat.le_refl _,h3,h4⟩
  ·split at h
   ·rename_i hs
    obtain ⟨g1,g2,g3,g4,g5⟩:=lstep_go hs (by omega)
    obtain ⟨i1,i2,i3,i4⟩:=lrun_go (by omega) g2 g4 (g5 h4) h
    exact ⟨i1,by omega,i3,i4⟩
   ·cases h
   ·cases h
def hdCodes (nl:Nat) (ls:List Nat) (q:Nat):Hd:=
 if okL (ls.take nl)=true∧okL (ls.drop nl)=true then
  .ok ⟨tabV (ls.take nl),max (mnOf (ls.take nl)) (ln (ls.take nl) 256),some (tabV (ls.drop nl),mnOf (ls.drop nl))⟩ q
 else .bad
def hdLens (N tot nl nd ncl p:Nat):Hd:=
 if okL (clens N p ncl)=true then
  match lrun (sc0 N tot) (tabV (clens N p ncl)) (mnOf (clens N p ncl)) (nl+nd) (nl+nd) [] (p+3 * ncl) with
  | .cut=>.cut
  | .bad=>.bad
  | .go ls q=>hdCodes nl ls q
 else .bad
def hdOf (N tot p:Nat):Hd:=
 if tot < p+14 then .cut
 else if 29 < tk N p 5 then .bad
 else if 29 < tk N (p+5) 5 then .bad
 else if tot < p+14+3 * (tk N (p+10) 4+4) then .cut
 else hdLens N tot (tk N p 5+257) (tk N (p+5) 5+1) (tk N (p+10) 4+4) (p+14)
def fixL:List Nat:=List.replicate 144 8++List.replicate 112 9++List.replicate 24 7++List.replicate 8 8
def fxT:Tb:=⟨tabV fixL,mnOf fixL,none⟩
def scOf (src:List Nat):Sc:=⟨num src,8 * src.length,fxT,hdOf (num src) (8 * src.length)⟩
theorem scOf_hd (src:List Nat):HdOk (scOf src):=by
 intro p T p' h
 have h:hdOf (num src) (8 * src.length) p=.ok T p':=h
 show p≤p'∧p'≤8 * src.length
 unfold hdOf at h
 split at h
 ·cases h
 ·split at h
  ·cases h
  ·split at h
   ·cases h
   ·split at h
    ·cases h
    ·unfold hdLens at h
     split at h
     ·split at h
      ·cases h
      ·cases h
      ·rename_i hl
       have:=lrun_go (by simp) (by simp) (by show _≤8 * src.length; omega) (by simp) hl
       unfold hdCodes at h
       split at h
       ·simp only [Hd.ok.injEq] at h
        have h3:(sc0 (num src) (8 * src.length)).tot=8 * src.length:=rfl
        omega
       ·cases h
     ·cases h
end Go.M
