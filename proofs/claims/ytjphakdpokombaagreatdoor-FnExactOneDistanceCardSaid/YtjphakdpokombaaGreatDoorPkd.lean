/- Code with labels: from label to label, with a measure that each leap lowers. -/
import Derived.Scope
import Derived.Test.YtjphakdpokombaaGreatDoorPkc
namespace Go.M
open Go
def Kont.withG (K:Kont) (f:Nat→Env→Mem→Prop):Kont:={ K with kg:=f }
theorem scopeW {P:Program} {F:List FuncId} (hF:Enters P F) (hm:P.follows .mixedOrders=true) {n:Nat} {L₀:List Nat} {c:Code} {K:Kont} {σ:Type} (L:List Nat) (I:σ→Env) (M:σ→Mem→Prop) (μ:σ→Nat) (lab:σ→Nat)
  (cont:σ→Code) (hl:∀ s,findLabel c (lab s)=some (cont s)) {r:Env} {m:Mem}
  (start:wpc P F n L₀ c (K.withG fun l r m=>∃ s',lab s'=l∧Env.keep L r=I s'∧M s' m) r m)
  (body:∀ s m,M s m→WPS P n (cont s) (K.withG fun l r m=>∃ s',lab s'=l∧Env.keep L r=I s'∧M s' m∧μ s' < μ s) (I s) m):
  WPS P n (.scope c) K r m:=by
 intro a w ha hw b k cs
 have key:∀ (j:Nat) (s:σ) (a:Act) (w:World),μ s=j→Agrees n (I s) a→M s w.heap→
   ∃ e a' w',Lift n K w e a' w'∧Arrives P (lone (b.at a (.code (cont s)::.inScope c::k)) cs w) b k cs e a' w':=by
  intro j
  induction j using Nat.strongRecOn with
  | _ j ih=>
   intro s a w hj ha hM
   obtain ⟨e,a₁,w₁,hq,harr⟩:=body s w.heap hM a w ha rfl b (.inScope c::k) cs
   cases e with
   | normal=>exact ⟨.normal,a₁,w₁,hq,Steps.trans harr (.one step_inScope)⟩
   | exit id=>exact ⟨.exit id,a₁,w₁,hq,fun k' hk=>harr k' (by simp [exitTo,hk])⟩
   | goto l=>
    obtain ⟨r',h1,⟨s',h2,h3,h4,h5⟩,h6⟩:=hq
    have ha':Agrees n (I s') a₁:=by rw [← h3]; exact h1.keep L
    obtain ⟨e₂,a₂,w₂,hq₂,harr₂⟩:=ih (μ s') (hj ▸ h5) s' a₁ w₁ rfl ha' h4
    have hst:=harr (.code (cont s')::.inScope c::k) (by simp [gotoIn, ← h2,hl s'])
    exact ⟨e₂,a₂,w₂,hq₂.same h6,.of_steps hst harr₂⟩
   | ret=>exact ⟨.ret,a₁,w₁,hq,harr⟩
   | panic ch=>exact hq.elim
   | outgrown=>exact hq.elim
 obtain ⟨e,a₁,w₁,hq,harr⟩:=wpc_sound hF hm start a w ha hw b (.inScope c::k) cs
 cases e with
 | normal=>exact ⟨.normal,a₁,w₁,hq,.head step_scope (Steps.trans harr (.one step_inScope))⟩
 | exit id=>exact ⟨.exit id,a₁,w₁,hq,fun k' hk=>.head step_scope (harr k' (by simp [exitTo,hk]))⟩
 | goto l=>
  obtain ⟨r',h1,⟨s',h2,h3,h4⟩,h6⟩:=hq
  have ha':Agrees n (I s') a₁:=by rw [← h3]; exact h1.keep L
  obtain ⟨e₂,a₂,w₂,hq₂,harr₂⟩:=key _ s' a₁ w₁ rfl ha' h4
  have hst:=harr (.code (cont s')::.inScope c::k) (by simp [gotoIn, ← h2,hl s'])
  exact ⟨e₂,a₂,w₂,hq₂.same h6,.of_steps (.head step_scope hst) harr₂⟩
 | ret=>exact ⟨.ret,a₁,w₁,hq,.of_steps (.one step_scope) harr⟩
 | panic ch=>exact hq.elim
 | outgrown=>exact hq.elim
theorem WPS.skipSeq {P:Program} {n:Nat} {c:Code} {K:Kont} {r:Env} {m:Mem} (h:WPS P n c K r m):WPS P n (.seq .skip c) K r m:=by
 intro a w ha hw b k cs
 obtain ⟨e,a₁,w₁,hq,harr⟩:=h a w ha hw b k cs
 refine ⟨e,a₁,w₁,hq,.of_steps (Steps.trans (.one step_seq) (.one step_skip)) harr⟩
end Go.M
