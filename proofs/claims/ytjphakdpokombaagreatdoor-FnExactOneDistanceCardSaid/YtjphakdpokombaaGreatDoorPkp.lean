/- errors.As: what package reflectlite tells of the types at hand. -/
import Derived.Test.YtjphakdpokombaaGreatDoorPki
namespace Go.M
open Go
set_option maxRecDepth 100000
theorem SemW.extern {P:Program} {f:FuncId} {fn:Func} {e:Array Value→Sem Value} {args:Array Value} {m:Mem} {K:Value→Mem→Prop}
  (hf:P.funcs[f]?=some fn) (hname:(fn.name == "runtime.NumGoroutine")=false)
  (hb:fn.body.isNone=true) (hn:Extern.findNext fn=none) (he:Extern.find fn=some e) (h:SemW P (e args) m K):SemW P (callFunc f args) m (NextW P K):=by
 have h1:fn.name≠ "runtime.NumGoroutine" :=by simpa using hname
 have h2:fn.body=none:=by simpa using hb
 unfold callFunc
 show SemW P (match P.funcs[f]? with | none=>_ | some fn=>_) m _
 rw [hf]
 simp only [hname,hb,hn,he]
 refine SemW.bind (s:=mark (.extern f)) ?_
 show SemW P (do let x ← e args; pure (Next.value x)) m _
 exact SemW.bind h
noncomputable def rval (t:Nat) (a:Nat) (fl:Int):Value:=.agg #[hd t,.pointer (some ⟨a,0,none⟩),.int .u64 fl]
abbrev tC:Nat:=t_flate_CorruptInputError
abbrev tPC:Nat:=t_p_flate_CorruptInputError
theorem as_valueOf {n:Nat} {m:Mem} {K:Value→Mem→Prop} (h:K (rval tPC m.size 150) (m.push (.cells #[.pointer (some ⟨n,0,none⟩)] tPC))):
  SemW PP (Extern.ReflectliteValue.unpack (.iface tPC (.pointer (some ⟨n,0,none⟩)))) m K:=Eq.mpr (by kernel_rfl) h
theorem as_type {s:Nat} {m:Mem} {K:Value→Mem→Prop} (h:K (rty tPC) m):
  SemW PP (Extern.ReflectliteValue.methodAny (Extern.ReflectliteValue.valueError "reflectlite.Value.Type" 0) (fun t _ _ _=>Extern.ReflectliteType.toType t) #[rval tPC s 150]) m K:=Eq.mpr (by kernel_rfl) h
theorem as_kindP {m:Mem} {K:Value→Mem→Prop} (h:K (.int .u8 22) m):SemW PP (Extern.ReflectliteType.abiMethod (fun t=>do pure (.int .u8 (← Extern.Rtype.kind t))) #[hd tPC]) m K:=Eq.mpr (by kernel_rfl) h
theorem as_kindI {m:Mem} {K:Value→Mem→Prop} (h:K (.int .u8 6) m):SemW PP (Extern.ReflectliteType.abiMethod (fun t=>do pure (.int .u8 (← Extern.Rtype.kind t))) #[hd tC]) m K:=Eq.mpr (by kernel_rfl) h
theorem as_mKind {t:Value} {m:Mem} {K:FuncId×Value→Mem→Prop} (h:K (f_abi_Type_Kind,t) m):SemW PP (method (PP.types.size+Made.depth) t_reflectlite_rtype (.agg #[t]) "Kind") m K:=Eq.mpr (by kernel_rfl) h
theorem as_mElem {t:Value} {m:Mem} {K:FuncId×Value→Mem→Prop} (h:K (f_reflectlite_rtype_Elem,.agg #[t]) m):SemW PP (method (PP.types.size+Made.depth) t_reflectlite_rtype (.agg #[t]) "Elem") m K:=Eq.mpr (by kernel_rfl) h
theorem as_mImp {t:Value} {m:Mem} {K:FuncId×Value→Mem→Prop} (h:K (f_reflectlite_rtype_Implements,.agg #[t]) m):SemW PP (method (PP.types.size+Made.depth) t_reflectlite_rtype (.agg #[t]) "Implements") m K:=Eq.mpr (by kernel_rfl) h
theorem as_mAss {t:Value} {m:Mem} {K:FuncId×Value→Mem→Prop} (h:K (f_reflectlite_rtype_AssignableTo,.agg #[t]) m):SemW PP (method (PP.types.size+Made.depth) t_reflectlite_rtype (.agg #[t]) "AssignableTo") m K:=Eq.mpr (by kernel_rfl) h
theorem as_elem {m:Mem} {K:Value→Mem→Prop} (h:K (rty tC) m):
  SemW PP (Extern.ReflectliteType.method Extern.ReflectliteType.elem #[.agg #[hd tPC]]) m K:=Eq.mpr (by kernel_rfl) h
theorem as_implements {m:Mem} {K:Value→Mem→Prop} (h:K (.bool true) m):
  SemW PP (Extern.ReflectliteType.relation "Implements" Extern.ReflectliteType.implements_ #[.agg #[hd tC],rty t_error]) m K:=Eq.mpr (by kernel_rfl) h
theorem as_typeOf {x:Value} {m:Mem} {K:Value→Mem→Prop} (h:K (rty tC) m):
  SemW PP (Extern.ReflectliteType.typeOf #[.iface tC x]) m K:=Eq.mpr (by kernel_rfl) h
theorem as_assignable {m:Mem} {K:Value→Mem→Prop} (h:K (.bool true) m):
  SemW PP (Extern.ReflectliteType.relation "AssignableTo" Extern.ReflectliteType.assignableTo #[.agg #[hd tC],rty tC]) m K:=Eq.mpr (by kernel_rfl) h
theorem as_valueOfI {x:Int} {m:Mem} {K:Value→Mem→Prop} (h:K (rval tC m.size 134) (m.push (.cells #[.int .i64 x] tC))):
  SemW PP (Extern.ReflectliteValue.unpack (.iface tC (.int .i64 x))) m K:=Eq.mpr (by kernel_rfl) h
theorem as_partsP {s:Nat} {m:Mem} {K:_→Mem→Prop} (h:K (some (tPC,⟨s,0,none⟩,150)) m):SemW PP (Extern.ReflectliteValue.parts (rval tPC s 150)) m K:=Eq.mpr (by kernel_rfl) h
theorem as_partsA {s:Nat} {m:Mem} {K:_→Mem→Prop} (h:K (some (tC,⟨s,0,none⟩,390)) m):SemW PP (Extern.ReflectliteValue.parts (rval tC s 390)) m K:=Eq.mpr (by kernel_rfl) h
theorem as_partsI {s:Nat} {m:Mem} {K:_→Mem→Prop} (h:K (some (tC,⟨s,0,none⟩,134)) m):SemW PP (Extern.ReflectliteValue.parts (rval tC s 134)) m K:=Eq.mpr (by kernel_rfl) h
theorem as_elemOf {m:Mem} {K:_→Mem→Prop} (h:K (some tC) m):SemW PP (Extern.Rtype.elem? tPC) m K:=Eq.mpr (by kernel_rfl) h
theorem as_mk {p:Nat} {m:Mem} {K:_→Mem→Prop} (h:K (rval tC p 390) m):SemW PP (Extern.ReflectliteValue.mk tC ⟨p,0,none⟩ Extern.ReflectliteValue.flagAddr) m K:=Eq.mpr (by kernel_rfl) h
theorem as_direct {m:Mem} {K:_→Mem→Prop} (h:K true m):SemW PP (Extern.Rtype.directlyAssignable tC tC) m K:=Eq.mpr (by kernel_rfl) h
theorem as_loadP {s:Nat} {m:Mem} {K:Value→Mem→Prop} (h:∃ v,cell? m ⟨s,0,none⟩=some v∧K v m):SemW PP (loadVar tPC ⟨s,0,none⟩) m K:=Eq.mpr (by kernel_rfl) h
theorem as_loadI {s:Nat} {m:Mem} {K:Value→Mem→Prop} (h:∃ v,cell? m ⟨s,0,none⟩=some v∧K v m):SemW PP (loadVar tC ⟨s,0,none⟩) m K:=Eq.mpr (by kernel_rfl) h
theorem as_store {s:Nat} {x:Int} {m:Mem} {K:Unit→Mem→Prop} (h:(∃ old,cell? m ⟨s,0,none⟩=some old)∧frozen? m ⟨s,0,none⟩=false∧K () (setCell m ⟨s,0,none⟩ (.int .i64 x))):
  SemW PP (storeVar tC ⟨s,0,none⟩ (.int .i64 x)) m K:=by
 have h':isCell (.int .i64 x)=true∧(∃ old,cell? m ⟨s,0,none⟩=some old)∧frozen? m ⟨s,0,none⟩=false∧K () (setCell m ⟨s,0,none⟩ (.int .i64 x)):=⟨rfl,h⟩
 exact Eq.mpr (by kernel_rfl) h'
theorem as_isNil {s:Nat} {n:Nat} {m:Mem} {K:Value→Mem→Prop} (hc:cell? m ⟨s,0,none⟩=some (.pointer (some ⟨n,0,none⟩))) (h:K (.bool false) m):
  SemW PP (Extern.ReflectliteValue.method (Extern.ReflectliteValue.valueError "reflectlite.Value.IsNil" 0) Extern.ReflectliteValue.isNil #[rval tPC s 150]) m K:=by
 show SemW PP (do match ← Extern.ReflectliteValue.parts (rval tPC s 150) with
   | none=>_
   | some (t,a,fl)=>Extern.ReflectliteValue.isNil t a fl (fl % 32)) m K
 refine SemW.bind (as_partsP ?_)
 show SemW PP (do match ← loadVar tPC ⟨s,0,none⟩ with
  | .chan none | .nilFunc | .nilIface | .map none | .pointer none | .slice none _ _=>pure (.bool true)
  | _=>pure (.bool false)) m K
 exact SemW.bind (as_loadP ⟨_,hc,h⟩)
theorem as_elemV {s:Nat} {n:Nat} {m:Mem} {K:Value→Mem→Prop} (hc:cell? m ⟨s,0,none⟩=some (.pointer (some ⟨n,0,none⟩))) (h:K (rval tC n 390) m):
  SemW PP (Extern.ReflectliteValue.method (Extern.ReflectliteValue.valueError "reflectlite.Value.Elem" 0) Extern.ReflectliteValue.elem #[rval tPC s 150]) m K:=by
 show SemW PP (do match ← Extern.ReflectliteValue.parts (rval tPC s 150) with
   | none=>_
   | some (t,a,fl)=>Extern.ReflectliteValue.elem t a fl (fl % 32)) m K
 refine SemW.bind (as_partsP ?_)
 show SemW PP (do match 22, ← loadVar tPC ⟨s,0,none⟩, ← Extern.Rtype.elem? tPC with
  | 20,i,_=>Extern.ReflectliteValue.unpack i
  | 22,.pointer none,_=>pure Extern.ReflectliteValue.zeroV
  | 22,.pointer (some p),some e=>Extern.ReflectliteValue.mk e p Extern.ReflectliteValue.flagAddr
  | _,_,_=>Extern.ReflectliteValue.valueError "reflectlite.Value.Elem" 22) m K
 refine SemW.bind (as_loadP ⟨_,hc,?_⟩)
 refine SemW.bind (as_elemOf ?_)
 exact as_mk h
theorem as_set {s b:Nat} {x:Int} {m:Mem} {K:Value→Mem→Prop} (hb:cell? m ⟨b,0,none⟩=some (.int .i64 x)) (hs:∃ old,cell? m ⟨s,0,none⟩=some old) (hf:frozen? m ⟨s,0,none⟩=false)
  (h:K (.tuple #[]) (setCell m ⟨s,0,none⟩ (.int .i64 x))):
  SemW PP (Extern.ReflectliteValue.set #[rval tC s 390,rval tC b 134]) m K:=by
 have h':∃ v,cell? m ⟨b,0,none⟩=some v∧SemW PP (do storeVar tC ⟨s,0,none⟩ v; pure (.tuple #[])) m K:=
  ⟨_,hb,SemW.bind (as_store ⟨hs,hf,h⟩)⟩
 exact Eq.mpr (by kernel_rfl) h'
theorem callVal_extern {f:FuncId} {fn:Func} {e:Array Value→Sem Value} {args:Array Value} {m:Mem} {K:Value→Mem→Prop}
  (hf:PP.funcs[f]?=some fn) (hname:(fn.name == "runtime.NumGoroutine")=false)
  (hb:fn.body.isNone=true) (hn:Extern.findNext fn=none) (he:Extern.find fn=some e) (h:SemW PP (e args) m K):
  SemW PP (callVal (.func (.func f) #[] #[]) args) m (NextW PP K):=by
 show SemW PP (callFunc f (#[]++args++#[])) m _
 rw [Array.append_empty,Array.empty_append]; exact SemW.extern hf hname hb hn he h
theorem callMethod_extern {f:FuncId} {fn:Func} {e:Array Value→Sem Value} {t:TypeId} {v r:Value} {name:String} {args:Array Value} {m:Mem} {K:Value→Mem→Prop}
  (hm:∀ {K:FuncId×Value→Mem→Prop},K (f,r) m→SemW PP (method (PP.types.size+Made.depth) t v name) m K)
  (hf:PP.funcs[f]?=some fn) (hname:(fn.name == "runtime.NumGoroutine")=false)
  (hb:fn.body.isNone=true) (hn:Extern.findNext fn=none) (he:Extern.find fn=some e) (h:SemW PP (e (#[r]++args)) m K):
  SemW PP (callMethod (.iface t v) name args) m (NextW PP K):=by
 show SemW PP (do let (f,receiver) ← method (PP.types.size+Made.depth) t v name; callFunc f (#[receiver]++args)) m _
 refine SemW.bind (hm ?_)
 exact SemW.extern hf hname hb hn he h
noncomputable def fnAt (f:Nat):Func:=PP.funcs[f]?.getD default
theorem c_valueOf {x:Value} {m:Mem} {K:Value→Mem→Prop} (h:SemW PP (Extern.ReflectliteValue.unpack x) m K):
  SemW PP (callVal (.func (.func f_reflectlite_ValueOf) #[] #[]) #[x]) m (NextW PP K):=
 callVal_extern (e:=fun args=>Extern.ReflectliteValue.unpack (args.getD 0 (.tuple #[]))) (fn:=fnAt f_reflectlite_ValueOf) (by kernel_rfl) (by kernel_rfl) (by kernel_rfl) (by kernel_rfl) (by kernel_rfl) h
theorem c_valueType {x:Value} {m:Mem} {K:Value→Mem→Prop} (h:SemW PP (Extern.ReflectliteValue.methodAny (Extern.ReflectliteValue.valueError "reflectlite.Value.Type" 0) (fun t _ _ _=>Extern.ReflectliteType.toType t) #[x]) m K):
  SemW PP (callVal (.func (.func f_reflectlite_Value_Type) #[] #[]) #[x]) m (NextW PP K):=
 callVal_extern (e:=Extern.ReflectliteValue.methodAny (Extern.ReflectliteValue.valueError "reflectlite.Value.Type" 0) (fun t _ _ _=>Extern.ReflectliteType.toType t)) (fn:=fnAt f_reflectlite_Value_Type) (by kernel_rfl) (by kernel_rfl) (by kernel_rfl) (by kernel_rfl) (by kernel_rfl) h
theorem c_isNil {x:Value} {m:Mem} {K:Value→Mem→Prop} (h:SemW PP (Extern.ReflectliteValue.method (Extern.ReflectliteValue.valueError "reflectlite.Value.IsNil" 0) Extern.ReflectliteValue.isNil #[x]) m K):
  SemW PP (callVal (.func (.func f_reflectlite_Value_IsNil) #[] #[]) #[x]) m (NextW PP K):=
 callVal_extern (e:=Extern.ReflectliteValue.method (Extern.ReflectliteValue.valueError "reflectlite.Value.IsNil" 0) Extern.ReflectliteValue.isNil) (fn:=fnAt f_reflectlite_Value_IsNil) (by kernel_rfl) (by kernel_rfl) (by kernel_rfl) (by kernel_rfl) (by kernel_rfl) h
theorem c_elemV {x:Value} {m:Mem} {K:Value→Mem→Prop} (h:SemW PP (Extern.ReflectliteValue.method (Extern.ReflectliteValue.valueError "reflectlite.Value.Elem" 0) Extern.ReflectliteValue.elem #[x]) m K):
  SemW PP (callVal (.func (.func f_reflectlite_Value_Elem) #[] #[]) #[x]) m (NextW PP K):=
 callVal_extern (e:=Extern.ReflectliteValue.method (Extern.ReflectliteValue.valueError "reflectlite.Value.Elem" 0) Extern.ReflectliteValue.elem) (fn:=fnAt f_reflectlite_Value_Elem) (by kernel_rfl) (by kernel_rfl) (by kernel_rfl) (by kernel_rfl) (by kernel_rfl) h
theorem c_set {x y:Value} {m:Mem} {K:Value→Mem→Prop} (h:SemW PP (Extern.ReflectliteValue.set #[x,y]) m K):
  SemW PP (callVal (.func (.func f_reflectlite_Value_Set) #[] #[]) #[x,y]) m (NextW PP K):=
 callVal_extern (e:=Extern.ReflectliteValue.set) (fn:=fnAt f_reflectlite_Value_Set) (by kernel_rfl) (by kernel_rfl) (by kernel_rfl) (by kernel_rfl) (by kernel_rfl) h
theorem c_typeOf {x:Value} {m:Mem} {K:Value→Mem→Prop} (h:SemW PP (Extern.ReflectliteType.typeOf #[x]) m K):
  SemW PP (callVal (.func (.func f_reflectlite_TypeOf) #[] #[]) #[x]) m (NextW PP K):=
 callVal_extern (e:=Extern.ReflectliteType.typeOf) (fn:=fnAt f_reflectlite_TypeOf) (by kernel_rfl) (by kernel_rfl) (by kernel_rfl) (by kernel_rfl) (by kernel_rfl) h
theorem c_kind {t:Nat} {m:Mem} {K:Value→Mem→Prop} (h:SemW PP (Extern.ReflectliteType.abiMethod (fun t=>do pure (.int .u8 (← Extern.Rtype.kind t))) #[hd t]) m K):
  SemW PP (callMethod (rty t) "Kind" #[]) m (NextW PP K):=
 callMethod_extern (r:=hd t) (args:=#[]) (e:=Extern.ReflectliteType.abiMethod fun t=>do pure (.int .u8 (← Extern.Rtype.kind t))) (fn:=fnAt f_abi_Type_Kind) as_mKind (by kernel_rfl) (by kernel_rfl) (by kernel_rfl) (by kernel_rfl) (by kernel_rfl) h
theorem c_elem {t:Nat} {m:Mem} {K:Value→Mem→Prop} (h:SemW PP (Extern.ReflectliteType.method Extern.ReflectliteType.elem #[.agg #[hd t]]) m K):
  SemW PP (callMethod (rty t) "Elem" #[]) m (NextW PP K):=
 callMethod_extern (r:=.agg #[hd t]) (args:=#[]) (e:=Extern.ReflectliteType.method Extern.ReflectliteType.elem) (fn:=fnAt f_reflectlite_rtype_Elem) as_mElem (by kernel_rfl) (by kernel_rfl) (by kernel_rfl) (by kernel_rfl) (by kernel_rfl) h
theorem c_implements {t:Nat} {x:Value} {m:Mem} {K:Value→Mem→Prop} (h:SemW PP (Extern.ReflectliteType.relation "Implements" Extern.ReflectliteType.implements_ #[.agg #[hd t],x]) m K):
  SemW PP (callMethod (rty t) "Implements" #[x]) m (NextW PP K):=
 callMethod_extern (r:=.agg #[hd t]) (args:=#[x]) (e:=Extern.ReflectliteType.relation "Implements" Extern.ReflectliteType.implements_) (fn:=fnAt f_reflectlite_rtype_Implements) as_mImp (by kernel_rfl) (by kernel_rfl) (by kernel_rfl) (by kernel_rfl) (by kernel_rfl) h
theorem c_assignable {t:Nat} {x:Value} {m:Mem} {K:Value→Mem→Prop} (h:SemW PP (Extern.ReflectliteType.relation "AssignableTo" Extern.ReflectliteType.assignableTo #[.agg #[hd t],x]) m K):
  SemW PP (callMethod (rty t) "AssignableTo" #[x]) m (NextW PP K):=
 callMethod_extern (r:=.agg #[hd t]) (args:=#[x]) (e:=Extern.ReflectliteType.relation "AssignableTo" Extern.ReflectliteType.assignableTo) (fn:=fnAt f_reflectlite_rtype_AssignableTo) as_mAss (by kernel_rfl) (by kernel_rfl) (by kernel_rfl) (by kernel_rfl) (by kernel_rfl) h
end Go.M
