/- From memory to the statement: what a call that leaves old memory alone means for a row, and what the laid variables give. What the laid variables give: where the error values lie, and the order of the code lengths. Arguments, as they come in: slices of bytes. The thin package: All; what is read of a stream whose history ends below the limit. The statements' comparisons. -/
import Derived.Test.YtjphakdpokombaaGreatDoorPkq
import Derived.ChangeSame
import Derived.ChangeVars
import Derived.ChangeSlices
import Derived.WideKeyArgs
import Derived.LaidLaws
import Derived.LaidHandle
import Derived.RowKit
import Derived.OpenShut
namespace Go.M
open Go Go.ChangeShapes Go.WideShapes Go.RowKit Go.WideElems
set_option maxRecDepth 100000
section
variable {W W':World}
theorem fr_eq (hf:∀ S,Fr S W.heap W'.heap) {i:Nat} (hi:i < W.heap.size):W'.heap[i]?=W.heap[i]?:=by
 have hf0:=hf fun _ _=>False
 obtain ⟨o,ho⟩:∃ o,W.heap[i]?=some o:=⟨_,Array.getElem?_eq_getElem hi⟩
 rw [ho]
 cases o with
 | cells c t fr=>
  obtain ⟨c',h1,h2,h3⟩:=hf0.cells _ _ _ _ ho
  have:c'=c:=Array.ext_getElem? fun j=>h3 j id
  rw [h1,this]
 | _=>exact hf0.objs _ _ ho (by intro c t fr h; cases h) id
theorem fr_kept (hs:Same W W') (hf:∀ S,Fr S W.heap W'.heap) (may:MemPlace→Prop):W.keptBut W' may:=by
 refine ⟨hs.1,hs.2,fun i hi=>?_⟩
 rw [fr_eq hf hi]
 exact (World.keptBut_refl W may).2.2 i hi
theorem fr_sameAt (hf:∀ S,Fr S W.heap W'.heap) {p:MemPlace} (hp:p.block < W.heap.size):W.sameAt W' p:=by
 cases p with
 | cell b o=>
  show W'.cell? ⟨b,o,none⟩=W.cell? ⟨b,o,none⟩
  have h:W'.heap[b]?=W.heap[b]?:=fr_eq hf hp
  simp only [World.cell?,h]
 | map b=>exact fr_eq hf hp
theorem fr_frozen (hf:∀ S,Fr S W.heap W'.heap) {b o:Nat} (hb:b < W.heap.size):W'.frozen? ⟨b,o,none⟩=W.frozen? ⟨b,o,none⟩:=by
 simp only [World.frozen?,fr_eq hf hb]
variable {H:Type} {enc:TypeId×Value→H} {P:Program}
def readsB (P:Program) (ts:List TypeId):Bool:=ts.all fun t=>P.readableRec t && decide (t < P.types.size)
theorem trodAll_stays (hl:laidOutB P=true) {sp:Nat→Bool}:∀ {ts:List TypeId} {vs:List Value} {ds:List (DataW H)} {ps:List MemPlace},readsB P ts=true→DataW.TrodAll enc P W 0 (fun _=>true) true ts vs ds ps→
  (∀ p ∈ ps,W.sameAt W' p)→(∀ p ∈ ps,sp p.block=true)→DataW.TrodAll enc P W' 0 sp true ts vs ds ps
 | [],_,_,_,_,h,_,_=>by
  obtain ⟨rfl,rfl,rfl⟩:=trodAll_nil h
  exact trodAll_mk0
 | t::ts,_,_,_,hr,h,hs,hp=>by
  obtain ⟨v,vs,d,ds,a,b,rfl,rfl,rfl,h1,h2⟩:=trodAll_cons h
  simp only [readsB,List.all_cons,Bool.and_eq_true,decide_eq_true_eq] at hr
  exact ⟨a,b,Trod_stays hl hr.1.1 hr.1.2 h1 (fun p hp'=>hs p (List.mem_append_left _ hp')) (fun p hp'=>hp p (List.mem_append_left _ hp')),
   trodAll_stays hl hr.2 h2 (fun p hp'=>hs p (List.mem_append_right _ hp')) (fun p hp'=>hp p (List.mem_append_right _ hp')),rfl⟩
def varTs (P:Program) (ns:List String):List TypeId:=ns.filterMap fun n=>(P.globalNamed n).bind fun g=>(P.globals[g]?).map (·.type)
theorem trodVars_stays (hl:laidOutB P=true) {sp:Nat→Bool} (hf:∀ S,Fr S W.heap W'.heap):∀ {ns:List String} {ds:List (DataW H)} {ps:List MemPlace},readsB P (varTs P ns)=true→DataW.TrodVars enc P W (fun _=>true) ns ds ps→
  (∀ p ∈ ps,W.sameAt W' p)→(∀ p ∈ ps,sp p.block=true)→DataW.TrodVars enc P W' sp ns ds ps
 | [],[],ps,_,h,_,_=>h
 | [],_::_,_,_,h,_,_=>h.elim
 | n::ns,[],_,_,h,_,_=>h.elim
 | n::ns,d::ds,ps,hr,⟨g,t,cs,fuel,p,q,h1,h2,h3,h4,h5,e⟩,hs,hp=>by
  subst e
  have hv:varTs P (n::ns)=t::varTs P ns:=by simp [varTs,h1,h2]
  rw [hv] at hr
  simp only [readsB,List.all_cons,Bool.and_eq_true,decide_eq_true_eq] at hr
  refine ⟨g,t,cs,fuel,p,q,h1,h2,?_,?_,?_,rfl⟩
  ·have hg:g < W.heap.size:=by
    simp only [World.var?,h1,Option.bind_some] at h3
    cases hq:W.heap[g]? with
    | none=>rw [hq] at h3; cases h3
    | some o=>exact (Array.getElem?_eq_some_iff.1 hq).1
   have e1:W'.heap[g]?=W.heap[g]?:=fr_eq hf hg
   simp only [World.var?,h1,Option.bind_some,e1] at h3 ⊢
   exact h3
  ·exact DataW.trod_stays (kids_book hl hr.1.1) (book_sized hr.1.1) (fun h=>by cases h) ⟨hr.1.2,book_self t⟩ h4
    (fun x hx=>hs x (List.mem_append_left _ (List.mem_append_right _ hx))) (fun x hx=>hp x (List.mem_append_left _ (List.mem_append_right _ hx)))
  ·exact trodVars_stays hl hf hr.2 h5 (fun x hx=>hs x (List.mem_append_right _ hx)) (fun x hx=>hp x (List.mem_append_right _ hx))
theorem law_post {f:Func} {s:ChangeSpec} {apart fresh handsOn again:Bool} {args:Array Value} {ds gs:List (DataW H)} {before:List MemPlace} {tb:TypeId}
  (hW:DataW.Whole enc P f.params.toList s.vars apart W args.toList ds gs before) (hs:Same W W') (hf:∀ S,Fr S W.heap W'.heap)
  (ht:f.resultTypes=#[tb]) (hb:P.underlying tb=some .bool) (hfn:s.fn H (ds++gs)={ results:=[.lit (.bool true)],args:=ds,vars:=gs })
  (hl:laidOutB P=true) (hr:readsB P f.params.toList=true) (hv:readsB P (varTs P s.vars)=true):s.post enc P f apart fresh handsOn again W args (.bool true) W':=by
 have hlt:=hW.lt
 obtain ⟨p,q,hA,hV,rfl,hz,hn⟩:=hW
 have hsame:∀ x ∈ p++q,W.sameAt W' x:=fun x hx=>fr_sameAt hf (hlt x hx)
 have hargs:∀ sp:Nat→Bool,(∀ x ∈ p++q,sp x.block=true)→DataW.TrodAll enc P W' 0 sp true f.params.toList args.toList (s.fn H (ds++gs)).args p:=fun sp hsp=>by
  rw [hfn]
  exact trodAll_stays hl hr hA (fun x hx=>hsame x (List.mem_append_left _ hx)) (fun x hx=>hsp x (List.mem_append_left _ hx))
 have hvars:∀ sp:Nat→Bool,(∀ x ∈ p++q,sp x.block=true)→DataW.TrodVars enc P W' sp s.vars (s.fn H (ds++gs)).vars q:=fun sp hsp=>by
  rw [hfn]
  exact trodVars_stays hl hf hv hV (fun x hx=>hsame x (List.mem_append_right _ hx)) (fun x hx=>hsp x (List.mem_append_right _ hx))
 have hres:∀ (b:Nat) (sp:Nat→Bool) (hd:Bool),DataW.TrodAll enc P W' b sp hd f.resultTypes.toList ((Value.bool true).resultList f.resultTypes.size) (s.fn H (ds++gs)).results []:=fun b sp hd=>by
  rw [hfn,ht]
  exact trodAll_mk1 (shut_bool hb true)
 have hold:∀ x ∈ p++q,(fun b=>decide (b < W.heap.size)) x.block=true:=fun x hx=>by simpa using hlt x hx
 refine ⟨ds,gs,p++q,[],p,q,⟨p,q,hA,hV,rfl,hz,hn⟩,hres _ _ _,hargs _ hold,hvars _ hold,fr_kept hs hf _,fun _=>⟨?_,_,_,([]++p)++q,⟨[]++p,q,trodAll_append (hargs _ fun _ _=>rfl) (hres _ _ _),hvars _ (fun _ _=>rfl),rfl,?_,?_⟩,?_⟩⟩
 ·exact ok_one ht rfl (okWide_bool_mk hb true)
 ·intro b off hp
  have hm:MemPlace.cell b off ∈ p++q:=by simpa using hp
  have hb':b < W.heap.size:=hlt _ hm
  rw [fr_frozen hf hb']
  exact hz b off hm
 ·intro ha
  simpa using hn ha
 ·intro x hx _
  simpa using hx
end
end Go.M

namespace Go.M
open Go Go.ChangeShapes Go.WideShapes Go.RowKit
set_option maxRecDepth 100000
def textD (s:List UInt8):DataW Unit:=.iface "*errors.errorString" (.ptr (.agg [.lit (.string s)]))
def eofD:DataW Unit:=textD [69,79,70]
def cutD:DataW Unit:=textD [117,110,101,120,112,101,99,116,101,100,32,69,79,70]
def shortD:DataW Unit:=textD [115,104,111,114,116,32,98,117,102,102,101,114]
def typeD:DataW Unit:=.iface "internal/reflectlite.rtype" (.agg [.ptr (.lit (.string [101,114,114,111,114]))])
def orderD:DataW Unit:=.agg (([16,17,18,0,8,7,9,6,10,5,11,4,12,3,13,2,14,1,15]:List Int).map fun n=>.lit (.int .i64 n))
theorem laidVars_find {P:Program} {W:World}:∀ {l:List (String×DataW Unit)} {ps:List MemPlace},DataW.LaidVars P W l ps→∀ {n:String} {d:DataW Unit},(n,d) ∈ l→
  ∃ g t cs fuel p,P.globalNamed n=some g∧(P.globals[g]?).map (·.type)=some t∧W.var? P n=some cs∧DataW.trod (fun _=>()) P W 0 (fun _=>true) false fuel t cs.toList=some (d,p)∧∀ x ∈ MemPlace.row ⟨g,0,none⟩ cs.size++p,x ∈ ps
 | [],_,_,n,d,h=>by cases h
 | (n',d')::l,ps,⟨g,t,cs,fuel,p,q,h1,h2,h3,h4,h5,e⟩,n,d,h=>by
  rcases List.mem_cons.1 h with e' | h
  ·cases e'
   exact ⟨g,t,cs,fuel,p,h1,h2,h3,h4,fun x hx=>by rw [e]; exact List.mem_append_left _ hx⟩
  ·obtain ⟨g',t',cs',fuel',p',k1,k2,k3,k4,k5⟩:=laidVars_find h5 h
   exact ⟨g',t',cs',fuel',p',k1,k2,k3,k4,fun x hx=>by rw [e]; exact List.mem_append_right _ (k5 x hx)⟩
def ifaceB (P:Program) (t:TypeId):Bool:=match P.underlying t with | some (.interface _)=>true | _=>false
theorem ifaceB_spec {P:Program} {t:TypeId} (h:ifaceB P t=true):∃ ms,P.underlying t=some (.interface ms):=by
 unfold ifaceB at h
 split at h
 ·rename_i ms e; exact ⟨ms,e⟩
 ·cases h
def oneB1 (P:Program) (t:TypeId):Bool:=
 match P.underlying t with
 | some (.struct fs)=>match fs.toList with | [f]=>decide (f.type=t_string) && decide (f.offset=0) | _=>false
 | _=>false
theorem oneB1_spec {P:Program} {t:TypeId} (h:oneB1 P t=true):∃ f:Field,P.underlying t=some (.struct #[f])∧f.type=t_string∧f.offset=0:=by
 unfold oneB1 at h
 split at h
 ·rename_i fs e
  split at h
  ·rename_i f hf
   simp only [Bool.and_eq_true,decide_eq_true_eq] at h
   rw [Array.eq_one_of_toList hf] at e
   exact ⟨f,e,h.1,h.2⟩
  ·cases h
 ·cases h
theorem starE: "*" ++ "errors.errorString" = "*errors.errorString" :=by decide
theorem rowE (u:TypeId) (h:PP.typeName? 3 u=some "*errors.errorString"):u=t_p_errors_errorString:=
 typeName_ptr_named (nm:= "errors.errorString") (by rw [starE]; kernel_rfl) (by kernel_rfl) (by decide) u (by rw [starE]; exact h)
theorem err_laid {W:World} {l:List (String×DataW Unit)} (h:laidMet PP l W) {n:String} {s:List UInt8} (hm:(n,textD s) ∈ l) {g:Nat} (hg:PP.globalNamed n=some g) (ht:(PP.globals[g]?).map (·.type)=some t_error):
  ∃ (a:Addr) (b:ByteArray),cell? W.heap ⟨g,0,none⟩=some (errV a)∧cell? W.heap a=some (.string b)∧b.data.toList=s∧Plain W.heap a.block:=by
 obtain ⟨ps,hl,hnd,hrows⟩:=h
 obtain ⟨g',t',cs,fuel,p,h1,h2,h3,h4,h5⟩:=laidVars_find hl hm
 obtain rfl:=Option.some.inj (hg.symm.trans h1)
 obtain rfl:=Option.some.inj (ht.symm.trans h2)
 obtain ⟨ms,hi⟩:=ifaceB_spec (P:=PP) (t:=t_error) (by kernel_rfl)
 obtain ⟨f,hf,hft,hfo⟩:=oneB1_spec (P:=PP) (t:=t_errors_errorString) (by kernel_rfl)
 obtain ⟨l0⟩:=cs
 have hok:∀ u v,l0=[.iface u v]→Value.okWide PP W .any 0 u v:=fun u v e=>by
  subst e
  exact (hrows g 0 (h5 _ (by simp [MemPlace.row]))).2 u v (by simpa using World.var?_cell hg h3 0)
 obtain ⟨a,b,rfl,hc,hb,hz,rfl⟩:=errorString_of_trod (P:=PP) hi rowE (te:=t_errors_errorString) (by kernel_rfl) hf hft hfo (by kernel_rfl) (by kernel_rfl) (by kernel_rfl) h4 hok
 obtain ⟨c,t,hb0⟩:=(hrows a.block a.off (h5 _ (by simp [MemPlace.row]))).1
 refine ⟨a,b,?_,hc,hb,c,t,0,0,hb0,Nat.le_refl _⟩
 have:=World.var?_cell hg h3 0
 rw [cell?_heap] at this
 rw [this]; rfl
theorem order_laid {W:World} {l:List (String×DataW Unit)} (h:laidMet PP l W) {n:String} (hm:(n,orderD) ∈ l) (hg:PP.globalNamed n=some g_inflate_codeOrder) (ht:(PP.globals[g_inflate_codeOrder]?).map (·.type)=some t_19_int):
  ∀ (i v:Nat),[16,17,18,0,8,7,9,6,10,5,11,4,12,3,13,2,14,1,15][i]?=some v→cell? W.heap ⟨g_inflate_codeOrder,i,none⟩=some (.int .i64 (v:Int)):=by
 obtain ⟨ps,hl,hnd,hrows⟩:=h
 obtain ⟨g',t',cs,fuel,p,h1,h2,h3,h4,h5⟩:=laidVars_find hl hm
 obtain rfl:=Option.some.inj (hg.symm.trans h1)
 obtain rfl:=Option.some.inj (ht.symm.trans h2)
 obtain ⟨xs,m,_,hx,hlen,hxl,hel⟩:=DataW.trod_array (P:=PP) (n:=19) (e:=t_int) (by kernel_rfl) h4
 have hc1:PP.cellsOf t_int=1:=by kernel_rfl
 intro i v hv
 have hi:i < 19:=by have:=(List.getElem?_eq_some_iff.1 hv).1; simpa using this
 have:=hel i hi
 rw [hc1,Nat.mul_one] at this
 have hxi:i < xs.length:=by omega
 rw [List.getElem?_eq_getElem hxi] at this
 obtain ⟨k,hcs,hxe,_⟩:=DataW.trod_int (P:=PP) (k:=.i64) (by kernel_rfl) this
 have hd:(xs.map (·.1))[i]?=some (.lit (.int .i64 (v:Int))):=by
  have e:orderD=.agg (xs.map (·.1)):=congrArg Prod.fst hx
  simp only [orderD,DataW.agg.injEq] at e
  rw [← e,List.getElem?_map]
  have:(([16,17,18,0,8,7,9,6,10,5,11,4,12,3,13,2,14,1,15]:List Int))[i]?=some (v:Int):=by
   have e2:(([16,17,18,0,8,7,9,6,10,5,11,4,12,3,13,2,14,1,15]:List Int))=([16,17,18,0,8,7,9,6,10,5,11,4,12,3,13,2,14,1,15]:List Nat).map fun (n:Nat)=>(n:Int):=rfl
   rw [e2,List.getElem?_map,hv]; rfl
  rw [this]; rfl
 rw [List.getElem?_map,List.getElem?_eq_getElem hxi,hxe] at hd
 simp only [Option.map_some,Option.some.injEq,DataW.lit.injEq,Lit.int.injEq,true_and] at hd
 have hcell:=World.var?_cell hg h3 i
 rw [cell?_heap] at hcell
 rw [hcell]
 have:cs.toList[i]?=some (.int .i64 k):=by
  have:=congrArg (fun l=>l[0]?) hcs
  simpa using this
 rw [← hd]
 simpa using this
theorem glob_of_laid {W:World} {l:List (String×DataW Unit)} (h:laidMet PP l W) (hh:handlesMet PP [("errors.errorType",typeD)] W)
  (h1:("io.EOF",eofD) ∈ l) (h2:("io.ErrUnexpectedEOF",cutD) ∈ l) (h3:("io.ErrShortBuffer",shortD) ∈ l) (h4:("loop.example/pub-inflation/pub/inflate.codeOrder",orderD) ∈ l):∃ E,Glob E W.heap:=by
 obtain ⟨a1,b1,c1,k1,s1,p1⟩:=err_laid h h1 (g:=g_io_EOF) (by kernel_rfl) (by kernel_rfl)
 obtain ⟨a2,b2,c2,k2,s2,p2⟩:=err_laid h h2 (g:=g_io_ErrUnexpectedEOF) (by kernel_rfl) (by kernel_rfl)
 obtain ⟨a3,b3,c3,k3,s3,p3⟩:=err_laid h h3 (g:=g_io_ErrShortBuffer) (by kernel_rfl) (by kernel_rfl)
 refine ⟨⟨a1,a2,a3⟩,⟨c1,c2,c3,order_laid h h4 (by kernel_rfl) (by kernel_rfl),?_,?_,p1,p2⟩⟩
 ·obtain ⟨name,u,ty,e1,e2,e3,e4,e5⟩:=hh _ (List.mem_singleton.2 rfl)
  have en:name=[101,114,114,111,114]:=(Option.some.inj e1).symm
  subst en
  have hrt:(PP.cutTypes.find? (·.1 == "internal/reflectlite.rtype")).map (·.2)=some t_reflectlite_rtype:=by kernel_rfl
  obtain rfl:=Option.some.inj (hrt.symm.trans e2)
  have hone:((List.range PP.types.size).filter fun t=>PP.rowNamed t [101,114,114,111,114])=[t_error]:=by kernel_rfl
  have hm:ty ∈ (List.range PP.types.size).filter fun t=>PP.rowNamed t [101,114,114,111,114]:=List.mem_filter.2 ⟨List.mem_range.2 e3,e4⟩
  rw [hone] at hm
  obtain rfl:=List.mem_singleton.1 hm
  have hg:PP.globalNamed "errors.errorType" =some g_errors_errorType:=by kernel_rfl
  have:=World.var?_cell hg e5 0
  rw [cell?_heap] at this
  rw [this]; rfl
 ·intro (e:a1=a2)
  subst e
  rw [k1] at k2
  simp only [Option.some.injEq,Value.string.injEq] at k2
  subst k2
  rw [s1] at s2
  cases s2
end Go.M

namespace Go.M
open Go Go.ChangeShapes Go.WideShapes Go.RowKit
set_option maxRecDepth 100000
theorem bytes_arg {H:Type} {enc:TypeId×Value→H} {W:World} {base:Nat} {v:Value} {d:DataW H} {ps:List MemPlace} (hval:Value.okWide PP W .any base t_s_uint8 v) (h:DataW.Trod enc PP W 0 (fun _=>true) true t_s_uint8 v d ps):
  ∃ (a:Option Addr) (l k b o:Nat) (src:List Nat),v=.slice a l k∧SlcB W.heap a l k b o src:=by
 have hu:PP.underlying t_s_uint8=some (.slice t_uint8):=u_s_uint8
 have h8:PP.underlying t_uint8=some (.int .u8):=by kernel_rfl
 obtain ⟨a1,len,cap,rfl⟩:=okWide_slice hu hval
 obtain ⟨fuel,hf⟩:=h
 rcases open_ints hu h8 (by kernel_rfl) hf with ⟨hcs,hx⟩ | ⟨a,len',cap',zs,hcs,_,hl,hm,hz,hx,hcell,hwz⟩
 ·simp [Value.cells] at hcs
  obtain ⟨rfl,rfl,rfl⟩:=hcs
  exact ⟨none,0,0,0,0,[],rfl,rfl,Nat.le_refl _,by omega,by omega,by simp⟩
 ·simp [Value.cells] at hcs
  obtain ⟨rfl,rfl,rfl⟩:=hcs
  simp only [if_true] at hz
  have hlen:((zs.take len).map Int.toNat).length=len:=by simp; omega
  refine ⟨some a,len,cap,a.block,a.off,(zs.take len).map Int.toNat,rfl,hlen,hl,fun h0=>?_,fun i hi=>?_,fun v hv=>?_⟩
  ·obtain ⟨ab,ao,spot⟩:=a
   have hspot:spot=none:=by simpa [Addr.add] using World.cell?_spot (hcell 0 (by omega))
   subst hspot; rfl
  ·obtain ⟨ab,ao,spot⟩:=a
   have hspot:spot=none:=by simpa [Addr.add] using World.cell?_spot (hcell 0 (by omega))
   subst hspot
   have hci:=hcell i (by omega)
   rw [Addr.add_lit] at hci
   have hb:=range_u8 hwz i
   have e1:zs[i]?=some (zs[i]'(by omega)):=List.getElem?_eq_getElem (by omega)
   rw [cell?_heap,List.getD_eq_getElem?_getD,e1] at hci
   rw [e1] at hb
   simp only [Option.getD_some] at hci hb
   rw [hci,List.getD_eq_getElem?_getD,List.getElem?_map,List.getElem?_take_of_lt hi,e1]
   simp only [Option.map_some,Option.getD_some]
   rw [Int.toNat_of_nonneg hb.1]
  ·simp only [List.mem_map] at hv
   obtain ⟨z,hz',rfl⟩:=hv
   have:=bounds_u8 (hwz z (List.mem_of_mem_take hz'))
   omega
theorem int_arg {H:Type} {enc:TypeId×Value→H} {W:World} {base:Nat} {v:Value} {d:DataW H} {ps:List MemPlace} (hval:Value.okWide PP W .any base t_int v) (h:DataW.Trod enc PP W 0 (fun _=>true) true t_int v d ps):
  ∃ x:Int,v=.int .i64 x∧ -9223372036854775808≤x∧x≤9223372036854775807:=by
 have hu:PP.underlying t_int=some (.int .i64):=by kernel_rfl
 obtain ⟨n,rfl,_,_,hw⟩:=open_int hu hval h
 exact ⟨n,rfl,bounds_i64 hw⟩
theorem byte_arg {H:Type} {enc:TypeId×Value→H} {W:World} {base:Nat} {v:Value} {d:DataW H} {ps:List MemPlace} (hval:Value.okWide PP W .any base t_uint8 v) (h:DataW.Trod enc PP W 0 (fun _=>true) true t_uint8 v d ps):
  ∃ x:Nat,v=.int .u8 (x:Int)∧x < 256:=by
 have hu:PP.underlying t_uint8=some (.int .u8):=by kernel_rfl
 obtain ⟨n,rfl,_,_,hw⟩:=open_int hu hval h
 have hb:=bounds_u8 hw
 exact ⟨n.toNat,by rw [Int.toNat_of_nonneg hb.1],by omega⟩
theorem calls_of {f:FuncId} {args:Array Value} {W:World} (h:CallM PP f args W.heap fun v m'=>v=.bool true∧∀ S,Fr S W.heap m'):Calls PP f args W fun e W'=>e=.returned (.bool true)∧Same W W'∧∀ S,Fr S W.heap W'.heap:=
 (h W rfl).mono fun _ _ ⟨_,he,⟨hv,hf⟩,hs⟩=>⟨by rw [he,hv],hs,hf⟩
end Go.M

namespace Go.M
open Go
set_option maxRecDepth 100000
section
variable {E:Errs} {src:List Nat}
theorem All_spec {m:Mem} {a:Option Addr} {l k b o:Nat} (hS:SlcB m a l k b o src) (hG:Glob E m) (hbig:l≤70368744177664) {lim:Int} (hlim:lim≤35184372088832) {Hf:List Nat} {e:Er} {pf:Nat} (hr:Runs (scOf src) ⟨0,[],.block⟩ Hf e pf)
  {R:Value→Mem→Prop} (hk:GiveOk Hf e 0 lim m R):CallM PP f_impl_All #[.slice a l k,.int .i64 lim] m R:=by
 refine e_impl_All a l k lim m R ?_
 refine source_spec hS hG hbig fun m1 rb db hA h1 h2 h3 f1=>⟨_,rfl,?_⟩
 have hG1:Glob E m1:=hG.fr (f1 fun _ _=>False) (by intro i j h; exact h.elim)
 have h4:=hG.big
 have hlen:=hS.len
 refine newReader_bytes (E:=E) (src:=src) ⟨by omega,by omega⟩ hA hG1 h3 hS.byte (by omega) fun m2 f bh bb cb k1 k2 k3 k4 f2 hDf hL=>⟨_,rfl,?_⟩
 have s1:=(f1 fun _ _=>False).size
 refine all_spec (hL Hf e pf hr) (by simp) hDf (by omega) hlim fun m3 a' l' k' b' o' c hO hb hle _ hF hc=>⟨_,_,_,_,rfl,?_⟩
 have s2:=(f2 fun _ _=>False).size
 refine hk m3 a' l' k' b' o' c hO (fun h=>by have:=hb h; omega) (by simpa using hle) (fun S=>?_) (hc.imp (fun ⟨h1,h2,_⟩=>⟨h1,h2⟩) id)
 refine Fr.old ((f1 _).trans ((f2 _).trans hF)) ?_
 rintro i j hi ((rfl | rfl) | rfl | rfl | rfl | rfl) <;> omega
theorem All_short {m:Mem} {a:Option Addr} {l k b o:Nat} (hS:SlcB m a l k b o src) (hG:Glob E m) (hbig:l≤70368744177664) {Hf:List Nat} {e:Er} {pf:Nat} (hr:Runs (scOf src) ⟨0,[],.block⟩ Hf e pf) (hH:Hf.length≤131072)
  {R:Value→Mem→Prop} (hk:∀ m' a' k' b' o',OutB m' a' Hf.length k' b' o' Hf→(0 < k'→m.size≤b')→(∀ S,Fr S m m')→R (.tuple #[.slice a' Hf.length k',.int .i64 (codeOf e)]) m'):CallM PP f_impl_All #[.slice a l k,.int .i64 131072] m R:=by
 refine All_spec hS hG hbig (by decide) hr fun m' a' l' k' b' o' c hO hb hle hf hc=>?_
 rcases hc with ⟨h1,rfl⟩ | ⟨h1,_⟩
 ·have:l'=Hf.length:=by omega
  subst this
  rw [List.drop_zero,List.take_length] at hO
  exact hk m' a' k' b' o' hO hb hf
 ·omega
end
end Go.M

namespace Go.M
open Go
set_option maxRecDepth 100000
theorem begins_true {m:Mem} {a a2:Option Addr} {l k b o l2 k2 b2 o2:Nat} {A B:List Nat} (hA:SlcB m a l k b o A) (hB:SlcB m a2 l2 k2 b2 o2 B) (hl:l < 4611686018427387904) (hp:∃ T,A=B++T) {R:Value→Mem→Prop} (hk:R (.bool true) m):
  CallM PP f_laws_begins #[.slice a l k,.slice a2 l2 k2] m R:=by
 obtain ⟨T,hT⟩:=hp
 have hlA:=hA.len
 have hlB:=hB.len
 have hlen:A.length=B.length+T.length:=by rw [hT,List.length_append]
 refine e_laws_begins a l k a2 l2 k2 m R ?_
 rw [decide_eq_false (by omega)]
 refine ifB_f ?_
 rw [q_laws_begins_rrlrl]
 refine loopW ffOk mixedOk (L₀:=L_laws_begins) (σ:=Nat) [0,1,12,13] (fun i=>[(0,.slice a l k),(1,.slice a2 l2 k2),(12,.int .i64 (l2:Int)),(13,.int .i64 (i:Nat))])
  (fun i m'=>i≤l2∧m'=m) (fun i=>l2 - i) 0 rfl ⟨Nat.zero_le _,rfl⟩ ?_
 rintro i m1 ⟨hi,rfl⟩
 refine p_laws_begins_rrlrll a l k a2 l2 k2 l2 i m1 _ ?_
 by_cases hil:i < l2
 ·rw [decide_eq_true (by omega)]
  have hw:IntKind.wrap .i64 ((i:Int)+1)=((i+1:Nat):Int):=by rw [wrap64_id (by omega) (by omega)]; rfl
  have e:A.getD i 0=B.getD i 0:=by rw [hT]; exact getD_append_left (by omega)
  refine ifB_t ?_
  rw [hA.at_ (by omega)]
  refine ⟨⟨by omega,by omega⟩,_,hA.data i (by omega),?_⟩
  rw [hB.at_ (by omega)]
  refine ⟨⟨by omega,by omega⟩,_,hB.data i (by omega),?_⟩
  rw [e,bne_self_eq_false]
  rw [hw]
  exact ifB_f ⟨i+1,rfl,⟨hil,rfl⟩,by omega⟩
 ·rw [decide_eq_false (by omega)]
  exact ifB_f (WPS.piece [] rfl (p_laws_begins_rrr m1 _ hk))
theorem same_true {m:Mem} {a a2:Option Addr} {l k b o l2 k2 b2 o2:Nat} {A B:List Nat} (hA:SlcB m a l k b o A) (hB:SlcB m a2 l2 k2 b2 o2 B) (hl:l < 4611686018427387904) (hp:A=B) {R:Value→Mem→Prop} (hk:R (.bool true) m):
  CallM PP f_laws_same #[.slice a l k,.slice a2 l2 k2] m R:=by
 refine e_laws_same a l k a2 l2 k2 m R ?_
 have:l=l2:=by rw [← hA.len, ← hB.len,hp]
 subst this
 rw [beq_self_eq_true]
 exact ifB_t (begins_true hA hB hl ⟨[],by rw [hp,List.append_nil]⟩ ⟨_,rfl,hk⟩)
end Go.M
