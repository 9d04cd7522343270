import PyProof.Rows.All
import Wide.All
import OpenK.AllK
import Wide.FinOn
import PyProof.NsDelKeeps
import PyProof.ExcStrCall
import PyProof.ExcStrAll.ValueError
import KE.KStar
import KE.KBoundM
import PyProof.StrLawsTight
import PyProof.StrLawsLast
import KE.KxBytes
import KE.BytesMake
import KE.KNestM
import PySem.Challenge.RW_rt0099_01
set_option Elab.async false
set_option maxRecDepth 100000
set_option maxHeartbeats 0
set_option pp.deepTerms.threshold 4
set_option linter.all false
set_option compiler.extract_closed false
set_option genInjectivity false
set_option genSizeOf false
set_option genSizeOfSpec false
namespace Mine
open PySem PySem.W PyProof.Rows
section
set_option compiler.extract_closed false
noncomputable abbrev vQ:Program:=view Challenge.pw_rt0099_01 [0,2,4,6,7,9,11,13,14,15,16,17,19,20,21,22,23,25,26,28,29,30,31,32,33]
noncomputable abbrev vX:Shared→Bool:=fun s=>xlAt vQ [] s&&recOk (RowW.records Challenge.rw_rt0099_01.row.toRowW) s
theorem vS (s:Shared) (e:vX s=true):XL vQ [] (s.heap.nsMap mainGlobals) s.heap:=xl_of s (Bool.and_eq_true_iff.mp e).1
theorem vR (s:Shared) (e:vX s=true):RecFacts (RowW.records Challenge.rw_rt0099_01.row.toRowW) s.heap:=recFacts_of (Bool.and_eq_true_iff.mp e).2
theorem vK:Challenge.rw_rt0099_01.wellSaid=true:=by decide+kernel
theorem vO:(chainsOk vQ&&opensWell Challenge.rw_rt0099_01.row.prog&&(frees Challenge.rw_rt0099_01.row.toRowW&&Challenge.rw_rt0099_01.row.within.isEmpty))=true:=by decide+kernel
theorem vB:Challenge.rw_rt0099_01.row.prog.bare:=⟨rfl,rfl,rfl,rfl,rfl,by decide+kernel⟩
noncomputable def hO (H:Hook) (left:LeftO Challenge.rw_rt0099_01.row.prog vQ ["_NodeInfo"] vX H.obs H.val 4420) (k1:Challenge.rw_rt0099_01.row.wellSaid=true):=
 holds_open (r:=Challenge.rw_rt0099_01.row) (q:=vQ) (loose:=["_NodeInfo"]) (Xt:=vX) (XP:=XL vQ []) left H.of H.keeps vS XL.keeps (by rfl) (by rfl) (by rfl) vR (by rfl) k1 vO vB
local macro_rules | `(tactic| o_law) => `(tactic| refine holds_law vK fun said => ?_)
local macro_rules | `(tactic| o_head $H) => `(tactic| refine hO $H (fun w => by kernel_rfl) (by assumption) ?hw ?hc)
open_top hd for PySem.Challenge.rw_rt0099_01
end
@[elab_as_elim] theorem rwG {α:Sort _} {p:α→Prop} {a b:α} (h:a=b) (x:p b):p a:=h▸x
local macro_rules | `(tactic| omega) => `(tactic| first | lia | omega (config := {}))
theorem fill1:Challenge.rw_rt0099_01.foot=6∧hd.heap_1=hd.heap_1:=by
 k_fill
 exact⟨rfl,rfl⟩
theorem an2 {a0 a1 G:Prop} (h:a0∧a1) (k:a0→a1→G):G:=k h.1 h.2
theorem an3 {a0 a1 a2 G:Prop} (h:a0∧a1∧a2) (k:a0→a1→a2→G):G:=k h.1 h.2.1 h.2.2
theorem an4 {a0 a1 a2 a3 G:Prop} (h:a0∧a1∧a2∧a3) (k:a0→a1→a2→a3→G):G:=k h.1 h.2.1 h.2.2.1 h.2.2.2
theorem an5 {a0 a1 a2 a3 a4 G:Prop} (h:a0∧a1∧a2∧a3∧a4) (k:a0→a1→a2→a3→a4→G):G:=k h.1 h.2.1 h.2.2.1 h.2.2.2.1 h.2.2.2.2
theorem an6 {a0 a1 a2 a3 a4 a5 G:Prop} (h:a0∧a1∧a2∧a3∧a4∧a5) (k:a0→a1→a2→a3→a4→a5→G):G:=k h.1 h.2.1 h.2.2.1 h.2.2.2.1 h.2.2.2.2.1 h.2.2.2.2.2
theorem an7 {a0 a1 a2 a3 a4 a5 a6 G:Prop} (h:a0∧a1∧a2∧a3∧a4∧a5∧a6) (k:a0→a1→a2→a3→a4→a5→a6→G):G:=k h.1 h.2.1 h.2.2.1 h.2.2.2.1 h.2.2.2.2.1 h.2.2.2.2.2.1 h.2.2.2.2.2.2
theorem ex1 {α0:Sort _} {p:α0→Prop} {G:Prop} (h:∃x0,p x0) (k:∀x0,p x0→G):G:=h.elim k
theorem ex2 {α0:Sort _} {α1:Sort _} {p:α0→α1→Prop} {G:Prop} (h:∃x0 x1,p x0 x1) (k:∀x0 x1,p x0 x1→G):G:=h.elim fun x0 h=>ex1 h (k x0)
theorem ex3 {α0:Sort _} {α1:Sort _} {α2:Sort _} {p:α0→α1→α2→Prop} {G:Prop} (h:∃x0 x1 x2,p x0 x1 x2) (k:∀x0 x1 x2,p x0 x1 x2→G):G:=h.elim fun x0 h=>ex2 h (k x0)
theorem ex4 {α0:Sort _} {α1:Sort _} {α2:Sort _} {α3:Sort _} {p:α0→α1→α2→α3→Prop} {G:Prop} (h:∃x0 x1 x2 x3,p x0 x1 x2 x3) (k:∀x0 x1 x2 x3,p x0 x1 x2 x3→G):G:=h.elim fun x0 h=>ex3 h (k x0)
theorem ex5 {α0:Sort _} {α1:Sort _} {α2:Sort _} {α3:Sort _} {α4:Sort _} {p:α0→α1→α2→α3→α4→Prop} {G:Prop} (h:∃x0 x1 x2 x3 x4,p x0 x1 x2 x3 x4) (k:∀x0 x1 x2 x3 x4,p x0 x1 x2 x3 x4→G):G:=h.elim fun x0 h=>ex4 h (k x0)
theorem ex6 {α0:Sort _} {α1:Sort _} {α2:Sort _} {α3:Sort _} {α4:Sort _} {α5:Sort _} {p:α0→α1→α2→α3→α4→α5→Prop} {G:Prop} (h:∃x0 x1 x2 x3 x4 x5,p x0 x1 x2 x3 x4 x5) (k:∀x0 x1 x2 x3 x4 x5,p x0 x1 x2 x3 x4 x5→G):G:=h.elim fun x0 h=>ex5 h (k x0)
def sN (k:Lean.Name) (a:Array Lean.Syntax):Lean.Syntax:= .node .none k a
def sA (s:String):Lean.Syntax:= .atom .none s
def sU (a:Array Lean.Syntax):Lean.Syntax:=sN `null a
def sT (a:Array Lean.Syntax):Lean.Syntax:=sN ``Lean.Parser.Tactic.tacticSeq #[sN ``Lean.Parser.Tactic.tacticSeq1Indented #[sU a]]
def sF (a:List Lean.Syntax):Lean.Syntax:=sN ``Lean.Parser.Tactic.first #[sA "first",sU (a.map fun t=>sN `group #[sA "|",sT #[t]]).toArray]
def sG (o e:Lean.Syntax) (p:Array Lean.Syntax) (l:String) (m j:Nat):Lean.Syntax:=
 let h:Lean.Syntax:=Lean.mkIdent `hOO
 let pat (x:Lean.Syntax):=sN ``Lean.Parser.Tactic.rintroPat.one #[x]
 let last:=if j+1=p.size then(p.getD j .missing)[0]else sN ``Lean.Parser.Tactic.rcasesPatMed #[sU #[sN ``Lean.Parser.Tactic.rcasesPat.one #[h]]]
 let a:=sN ``Lean.Parser.Tactic.withReducible #[sA "with_reducible",sT #[sN ``Lean.Parser.Tactic.refine #[sA "refine",sN ``Lean.Parser.Term.app #[Lean.mkIdent (.mkSimple (l++toString m)),sU #[e,sN ``Lean.Parser.Term.syntheticHole #[sA "?",sN ``Lean.Parser.Term.hole #[sA "_"]]]]]]]
 let b:=sN ``Lean.Parser.Tactic.rintro #[sA "rintro",sU (((p.extract 0 j).map fun x=>pat x[0]).push (pat last)),sU #[]]
 let c:=if e.isIdent then #[a,sA ";",sN ``Lean.Parser.Tactic.tacticTry_ #[sA "try",sT #[sN ``Lean.Parser.Tactic.clear #[sA "clear",sU #[e]]]],sA ";",b]else #[a,sA ";",b]
 let d:=if j+1=p.size then c else c++ #[sA ";",(o.setArg 1 (sU #[sN ``Lean.Parser.Tactic.rcasesPatMed #[sU #[sN ``Lean.Parser.Tactic.rcasesPat.tuple #[sA "⟨",sU (Lean.Syntax.SepArray.ofElems (sep:=",") (p.extract j p.size)).elemsAndSeps,sA "⟩"]]]])).setArg 3 (sU #[sA ":=",sU #[h]])]
 sN ``Lean.Parser.Tactic.paren #[sA "(",sT d,sA ")"]
def sR (s r:Lean.Syntax):Lean.Syntax:=
 let q:=sN ``Lean.Parser.Term.syntheticHole #[sA "?",sN ``Lean.Parser.Term.hole #[sA "_"]]
 let t:=if r[0].getNumArgs=0 then r[1]else sN ``Lean.Parser.Term.app #[Lean.mkIdent `Eq.symm,sU #[r[1]]]
 let w:=sN ``Lean.Parser.Tactic.rewriteSeq #[sA "rewrite",s[1],sN ``Lean.Parser.Tactic.rwRuleSeq #[sA "[",sU #[r],sA "]"],sU #[]]
 if r[1].isIdent&&((toString r[1].getId).any fun c=>c=='_'||c=='.')then w else
 sF [sN ``Lean.Parser.Tactic.refine #[sA "refine",sN ``Lean.Parser.Term.app #[Lean.mkIdent `rwG,sU #[t,q]]],w]
def aR:Lean.Syntax:=Lean.Unhygienic.run `(Lean.Parser.Tactic.tacticSeq|first|rfl|with_unfolding_all rfl)
def aD:Lean.Syntax:=Lean.Unhygienic.run `(Lean.Parser.Tactic.tacticSeq|decide)
def aS:Lean.Syntax:=Lean.Unhygienic.run `(Lean.Parser.Tactic.tacticSeq|intro _;first|rfl|with_unfolding_all rfl)
def aT:Lean.Syntax:=Lean.Unhygienic.run `(Lean.Parser.Tactic.tacticSeq|intro _ _;first|rfl|with_unfolding_all rfl)
section OB
local macro_rules
 | `(tactic|obtain⟨$ps,*⟩:= $e:term)=>do
  let s←Lean.MonadRef.getRef
  let p:Array Lean.Syntax:=ps.getElems.map (·.raw)
  let n:=p.size
  if n<2 then Lean.Macro.throwUnsupported
  return sF (((List.range n).filterMap fun j=>if 2≤n - j&&n - j≤10 then some (sG s e p "an" (n - j) (n - j - 1))else none)++
   ((List.range (n - 1)).filterMap fun j=>if n - 1 - j≤6 then some (sG s e p "ex" (n - 1 - j) (n - 1 - j))else none)++
   [sN ``Lean.Parser.Tactic.rcases #[sA "rcases",sU #[sN ``Lean.Parser.Tactic.elimTarget #[sU #[],e]],sU #[sA "with",sN ``Lean.Parser.Tactic.rcasesPatLo #[s[1][0],sU #[]]]]])
local macro_rules
 | `(tactic|rw[$rs,*])=>do
  let s←Lean.MonadRef.getRef
  return sN ``Lean.Parser.Tactic.paren #[sA "(",sT (rs.getElems.foldr (fun r (l:List Lean.Syntax)=>sR s r.raw::sA ";"::l)
   [sN ``Lean.Parser.Tactic.tacticTry_ #[sA "try",sT #[sN ``Lean.Parser.Tactic.withReducible #[sA "with_reducible",sT #[sN ``Lean.Parser.Tactic.tacticRfl #[sA "rfl"]]]]]]).toArray,sA ")"]
local macro_rules
 | `(tactic|show $t:term)=> `(tactic|refine(?_: $t))
section M1
noncomputable abbrev sat (s:Shared) (h:Heap) (t:Nat):Shared:={s with heap:=h,toks:=t}
noncomputable abbrev Ext (h h':Heap):Prop:=∀b o,h.get? b=some o→h'.get? b=some o
theorem Ext.rfl {h:Heap}:Ext h h:=fun _ _ e=>e
theorem Ext.trans {a b c:Heap} (x:Ext a b) (y:Ext b c):Ext a c:=fun _ _ e=>y _ _ (x _ _ e)
theorem Ext.push (h:Heap) (o:Obj):Ext h (h.push o):=fun _ _ e=>Heap.get?_push_of_some o e
noncomputable def IsSeq (o:Obj):Prop:=∃xs n,o.data= .seq xs n
noncomputable def SExt (h h':Heap):Prop:=∀b o,h.get? b=some o→IsSeq o→h'.get? b=some o
theorem SExt.rfl {h:Heap}:SExt h h:=fun _ _ e _=>e
theorem SExt.trans {a b c:Heap} (x:SExt a b) (y:SExt b c):SExt a c:=fun _ _ e q=>y _ _ (x _ _ e q) q
theorem Ext.s {h h':Heap} (x:Ext h h'):SExt h h':=fun _ _ e _=>x _ _ e
mutual
noncomputable def nd:PyData→Bool
 | .list xs| .tuple xs=>nds xs
 | .dict _=>false
 | .none| .bool _| .int _| .str _=>true
noncomputable def nds:List PyData→Bool
 | []=>true
 |x::xs=>nd x&&nds xs
end
theorem nds_iff:∀{xs:List PyData},nds xs=true↔∀x∈xs,nd x=true
 | []=>by simp[nds]
 |x::xs=>by simp[nds,nds_iff (xs:=xs)]
theorem zFb {x:PyData} {xs:List PyData} (h:nds (x::xs)=true):nd x=true∧nds xs=true:=by simpa[nds]using h
theorem nd_list {xs:List PyData} (h:nd (.list xs)=true):nds xs=true:=by simpa[nd]using h
theorem zPq {xs:List PyData} (h:nd (.tuple xs)=true):nds xs=true:=by simpa[nd]using h
theorem zMn {h h':Heap} (k:SExt h h') {v:Value} {d:PyData} {as:List Addr} (hn:nd d=true) (r:Reads h v d as):Reads h' v d as:=
 Reads.rec (motive_1:=fun v d as _=>nd d=true→Reads h' v d as) (motive_2:=fun vs ds as _=>nds ds=true→ReadsAll h' vs ds as)
  (fun _=> .none) (fun b _=> .bool b) (fun i t _=> .int i t) (fun x t _=> .str x t)
  (fun h1 h2 h3 _ ih hn=> .list (k _ _ h1 ⟨_,_,h3⟩) h2 h3 (ih (nd_list hn)))
  (fun h1 h2 h3 _ ih hn=> .tuple (k _ _ h1 ⟨_,_,h3⟩) h2 h3 (ih (zPq hn)))
  (fun _ _ _ _ _ _ _ hn=>by simp[nd]at hn) (fun _=> .nil) (fun _ _ i1 i2 hn=> .cons (i1 (zFb hn).1) (i2 (zFb hn).2)) r hn
noncomputable def Rd (h:Heap) (d:PyData) (v:Value):Prop:=nd d=true∧∃as,Reads h v d as
inductive Rds (h:Heap):List PyData→List Value→Prop
 |nil:Rds h [] []
 |cons {d v ds vs}:Rd h d v→Rds h ds vs→Rds h (d::ds) (v::vs)
theorem Rd.mono {h h':Heap} {d:PyData} {v:Value} (x:Rd h d v) (k:SExt h h'):Rd h' d v:=⟨x.1,let⟨as,r⟩:=x.2;⟨as,zMn k x.1 r⟩⟩
theorem Rds.mono {h h':Heap} {ds:List PyData} {vs:List Value} (x:Rds h ds vs) (k:SExt h h'):Rds h' ds vs:=by
 induction x with
 |nil=>exact .nil
 |cons a _ ih=>exact .cons (a.mono k) ih
theorem Rds.length {h:Heap} {ds:List PyData} {vs:List Value} (x:Rds h ds vs):vs.length=ds.length:=by
 induction x with
 |nil=>rfl
 |cons _ _ ih=>simp[ih]
theorem Rds.all {h:Heap} {ds:List PyData} {vs:List Value} (x:Rds h ds vs):nds ds=true∧∃as,ReadsAll h vs ds as:=by
 induction x with
 |nil=>exact⟨rfl,_, .nil⟩
 |cons a _ ih=>
  obtain⟨n1,as,r⟩:=a
  obtain⟨n2,bs,q⟩:=ih
  exact⟨by simp[nds,n1,n2],_, .cons r q⟩
theorem Rds.of:∀{h:Heap} {ds:List PyData} {vs:List Value} {as:List Addr},nds ds=true→ReadsAll h vs ds as→Rds h ds vs:=fun hn r=>
 ReadsAll.rec (motive_1:=fun _ _ _ _=>True) (motive_2:=fun vs ds _ _=>nds ds=true→Rds _ ds vs)
  trivial (fun _=>trivial) (fun _ _=>trivial) (fun _ _=>trivial) (fun _ _ _ _ _=>trivial) (fun _ _ _ _ _=>trivial) (fun _ _ _ _ _ _ _=>trivial)
  (fun _=> .nil) (fun h1 _ _ i hn=> .cons ⟨(zFb hn).1,_,h1⟩ (i (zFb hn).2)) r hn
theorem Rds.append {h:Heap} {ds es:List PyData} {vs ws:List Value} (x:Rds h ds vs) (y:Rds h es ws):Rds h (ds++es) (vs++ws):=by
 induction x with
 |nil=>exact y
 |cons a _ ih=>exact .cons a ih
theorem Rds.take {h:Heap} {ds:List PyData} {vs:List Value} (x:Rds h ds vs) (k:Nat):Rds h (ds.take k) (vs.take k):=by
 induction x generalizing k with
 |nil=>simpa using Rds.nil
 |cons a _ ih=>
  cases k with
  |zero=>simpa using Rds.nil
  |succ k=>simpa using Rds.cons a (ih k)
theorem Rds.drop {h:Heap} {ds:List PyData} {vs:List Value} (x:Rds h ds vs) (k:Nat):Rds h (ds.drop k) (vs.drop k):=by
 induction x generalizing k with
 |nil=>simpa using Rds.nil
 |cons a r ih=>
  cases k with
  |zero=>simpa using Rds.cons a r
  |succ k=>simpa using ih k
theorem Rds.get {h:Heap} {ds:List PyData} {vs:List Value} (x:Rds h ds vs) {k:Nat} {d:PyData} (e:ds[k]? =some d):∃v,vs[k]? =some v∧Rd h d v:=by
 induction x generalizing k with
 |nil=>simp at e
 |cons a _ ih=>
  cases k with
  |zero=>simp at e;subst e;exact⟨_,rfl,a⟩
  |succ k=>simpa using ih (by simpa using e)
theorem Rds.getV {h:Heap} {ds:List PyData} {vs:List Value} (x:Rds h ds vs) {k:Nat} {v:Value} (e:vs[k]? =some v):∃d,ds[k]? =some d∧Rd h d v:=by
 induction x generalizing k with
 |nil=>simp at e
 |cons a _ ih=>
  cases k with
  |zero=>simp at e;subst e;exact⟨_,rfl,a⟩
  |succ k=>simpa using ih (by simpa using e)
theorem Rd.none {h:Heap}:Rd h .none .none:=⟨rfl,_, .none⟩
theorem Rd.bool {h:Heap} (b:Bool):Rd h (.bool b) (.bool b):=⟨rfl,_, .bool b⟩
theorem Rd.int {h:Heap} (i:Int) (t:Tok):Rd h (.int i) (.int i t):=⟨rfl,_, .int i t⟩
theorem Rd.str {h:Heap} (x:Str) (t:Tok):Rd h (.str x) (.str x t):=⟨rfl,_, .str x t⟩
theorem Rd.int_inv {h:Heap} {i:Int} {v:Value} (x:Rd h (.int i) v):∃t,v= .int i t:=by
 obtain⟨_,as,r⟩:=x;cases r;exact⟨_,rfl⟩
theorem Rd.str_inv {h:Heap} {i:Str} {v:Value} (x:Rd h (.str i) v):∃t,v= .str i t:=by
 obtain⟨_,as,r⟩:=x;cases r;exact⟨_,rfl⟩
theorem Rd.bool_inv {h:Heap} {b:Bool} {v:Value} (x:Rd h (.bool b) v):v= .bool b:=by
 obtain⟨_,as,r⟩:=x;cases r;rfl
theorem Rd.none_inv {h:Heap} {v:Value} (x:Rd h .none v):v= .none:=by
 obtain⟨_,as,r⟩:=x;cases r;rfl
theorem Rd.list {h:Heap} {a:Addr} {vs:Array Value} {ds:List PyData} (x:h.IsList a vs) (r:Rds h ds vs.toList):Rd h (.list ds) (.ref a):=by
 obtain⟨o,ho,hc,n,hd⟩:=x
 obtain⟨hn,as,q⟩:=r.all
 exact⟨by simpa[nd]using hn,_, .list ho hc hd q⟩
theorem Rd.tuple {h:Heap} {a:Addr} {vs:Array Value} {ds:List PyData} (x:h.IsTuple a vs) (r:Rds h ds vs.toList):Rd h (.tuple ds) (.ref a):=by
 obtain⟨o,ho,hc,n,hd⟩:=x
 obtain⟨hn,as,q⟩:=r.all
 exact⟨by simpa[nd]using hn,_, .tuple ho hc hd q⟩
theorem Rd.list_inv {h:Heap} {v:Value} {ds:List PyData} (x:Rd h (.list ds) v):∃a vs,v= .ref a∧h.IsList a vs∧Rds h ds vs.toList:=by
 obtain⟨hn,as,r⟩:=x
 cases r with
 |list h1 h2 h3 h4=>exact⟨_,_,rfl,⟨_,h1,h2,_,h3⟩,Rds.of (by simpa[nd]using hn) h4⟩
theorem Rd.tuple_inv {h:Heap} {v:Value} {ds:List PyData} (x:Rd h (.tuple ds) v):∃a vs,v= .ref a∧h.IsTuple a vs∧Rds h ds vs.toList:=by
 obtain⟨hn,as,r⟩:=x
 cases r with
 |tuple h1 h2 h3 h4=>exact⟨_,_,rfl,⟨_,h1,h2,_,h3⟩,Rds.of (by simpa[nd]using hn) h4⟩
noncomputable def hid (X:List Addr) (h:Heap):Heap:=hideAll h X
theorem zAf (X:List Addr) (h:Heap):Ext (hid X h) h:=fun _ _ e=>of_hideAll X e
theorem zAb {X:List Addr} {h:Heap} {b:Addr} {o:Obj} (e:h.get? b=some o) (n:b∉X):(hid X h).get? b=some o:=hideAll_get X e n
theorem zAh {X:List Addr} {h:Heap} {b:Addr} {o:Obj} (e:(hid X h).get? b=some o):b∉X:=fun m=>by
 have:=hideAll_none X (h:=h) m
 unfold hid at e
 rw[e]at this;cases this
theorem zAl {X:List Addr} {h h':Heap} (k:Ext h h'):Ext (hid X h) (hid X h'):=fun b o e=>zAb (k b o (zAf X h b o e)) (zAh e)
theorem zC0 {X:List Addr} {h h':Heap} (k:∀b o,b∉X→h.get? b=some o→IsSeq o→h'.get? b=some o):SExt (hid X h) (hid X h'):=fun b o e q=>zAb (k b o (zAh e) (zAf X h b o e) q) (zAh e)
noncomputable def XOk (X:List Addr) (h:Heap):Prop:=∀x∈X,∃o,h.get? x=some o
theorem XOk.nil {h:Heap}:XOk [] h:=fun _ m=>nomatch m
theorem XOk.ext {X:List Addr} {h h':Heap} (x:XOk X h) (k:Ext h h'):XOk X h':=fun a m=>let⟨o,e⟩:=x a m;⟨o,k _ _ e⟩
theorem XOk.lt {X:List Addr} {h:Heap} (x:XOk X h) {a:Addr} (m:a∈X):a<h.objs.size:=let⟨_,e⟩:=x _ m;Heap.lt_size e
theorem XOk.fresh {X:List Addr} {h:Heap} (x:XOk X h):h.objs.size∉X:=fun m=>Nat.lt_irrefl _ (x.lt m)
theorem zBi {X:List Addr} {h:Heap} {vs:Array Value} {n:Nat} {ds:List PyData} (k:XOk X h) (r:Rds (hid X h) ds vs.toList):
 Rd (hid X (h.push {cls:= .type "list",data:= .seq vs n})) (.list ds) (.ref h.objs.size):=
 Rd.list ⟨_,zAb (Heap.get?_push_size h (o:={cls:= .type "list",data:= .seq vs n}) rfl) k.fresh,rfl,n,rfl⟩ (r.mono (zAl (Ext.push h _)).s)
theorem zBw {X:List Addr} {h:Heap} {vs:Array Value} {n:Nat} {ds:List PyData} (k:XOk X h) (r:Rds (hid X h) ds vs.toList):
 Rd (hid X (h.push {cls:= .type "tuple",data:= .seq vs n})) (.tuple ds) (.ref h.objs.size):=
 Rd.tuple ⟨_,zAb (Heap.get?_push_size h (o:={cls:= .type "tuple",data:= .seq vs n}) rfl) k.fresh,rfl,n,rfl⟩ (r.mono (zAl (Ext.push h _)).s)
theorem IsList.le {X:List Addr} {h:Heap} {a:Addr} {vs:Array Value} (x:(hid X h).IsList a vs):h.IsList a vs:=let⟨o,e,r⟩:=x;⟨o,zAf X h _ _ e,r⟩
theorem IsTuple.le {X:List Addr} {h:Heap} {a:Addr} {vs:Array Value} (x:(hid X h).IsTuple a vs):h.IsTuple a vs:=let⟨o,e,r⟩:=x;⟨o,zAf X h _ _ e,r⟩
end M1
section M2
inductive Bd where
 |d (d:PyData)
 |v (v:Value)
noncomputable def BdIs (h:Heap):Bd→Value→Prop
 | .d d,v=>Rd h d v
 | .v u,v=>v=u
theorem BdIs.mono {h h':Heap} {b:Bd} {v:Value} (x:BdIs h b v) (k:SExt h h'):BdIs h' b v:=by
 cases b with
 |d d=>exact Rd.mono x k
 |v u=>exact x
noncomputable def Sees (h:Heap) (env:Env) (x:Str) (v:Value):Prop:=
 (env.kindOf x=some .local∧∃m,h.Ns env.locals m∧m x=some v)∨
 ((env.kindOf x=some .cell∨env.kindOf x=some .free)∧∃c,env.cells.lookup x=some c∧h.IsCell c (some v))
theorem Sees.mono {h h':Heap} {env:Env} {x:Str} {v:Value} (s:Sees h env x v) (k:Ext h h'):Sees h' env x v:=by
 rcases s with⟨a,m,n,e⟩|⟨a,c,e,q⟩
 ·exact .inl ⟨a,m,n.keeps k,e⟩
 ·exact .inr ⟨a,c,e,q.keeps k⟩
structure EnvIs (X:List Addr) (h:Heap) (env:Env) (Γ:List (Str×Bd)):Prop where
 fn:env.scope.kind= .function
 ns:∃m,h.Ns env.locals m
 cell:∀n c,env.cells.lookup n=some c→∃v,h.IsCell c v
 inj:∀n n' c,env.cells.lookup n=some c→env.cells.lookup n'=some c→n=n'
 see:∀x b,Γ.lookup x=some b→∃v,Sees h env x v∧BdIs (hid X h) b v
theorem EnvIs.mono {X:List Addr} {h h':Heap} {env:Env} {Γ:List (Str×Bd)} (I:EnvIs X h env Γ) (k:Ext h h'):EnvIs X h' env Γ where
 fn:=I.fn
 ns:=let⟨m,n⟩:=I.ns;⟨m,n.keeps k⟩
 cell:=fun n c e=>let⟨v,q⟩:=I.cell n c e;⟨v,q.keeps k⟩
 inj:=I.inj
 see:=fun x b e=>let⟨v,s,r⟩:=I.see x b e;⟨v,s.mono k,r.mono (zAl k).s⟩
theorem Ns_unique {h:Heap} {a:Addr} {m m':Str→Option Value} (x:h.Ns a m) (y:h.Ns a m'):m=m':=by
 obtain⟨o,es,ep,e1,d1,_,f1⟩:=x
 obtain⟨o',es',ep',e2,d2,_,f2⟩:=y
 rw[e1]at e2;cases e2
 rw[d1]at d2;cases d2
 funext n;rw[←f1,←f2]
theorem EnvIs.view {X X':List Addr} {h h':Heap} {env:Env} {Γ:List (Str×Bd)} (I:EnvIs X h env Γ) (kd:∀b o,h.get? b=some o→¬IsSeq o→h'.get? b=some o) (k:SExt (hid X h) (hid X' h')):EnvIs X' h' env Γ where
 fn:=I.fn
 ns:=let⟨m,o,es,ep,ho,hd,r⟩:=I.ns;⟨m,o,es,ep,kd _ _ ho (fun⟨_,_,q⟩=>by rw[hd]at q;cases q),hd,r⟩
 cell:=fun n c e=>let⟨v,o,ho,hd⟩:=I.cell n c e;⟨v,o,kd _ _ ho (fun⟨_,_,q⟩=>by rw[hd]at q;cases q),hd⟩
 inj:=I.inj
 see:=fun x b e=>by
  obtain⟨v,s,r⟩:=I.see x b e
  refine⟨v,?_,r.mono k⟩
  rcases s with⟨a,m,⟨o,es,ep,ho,hd,q⟩,em⟩|⟨a,c,ec,o,ho,hd⟩
  ·exact .inl ⟨a,m,⟨o,es,ep,kd _ _ ho (fun⟨_,_,q⟩=>by rw[hd]at q;cases q),hd,q⟩,em⟩
  ·exact .inr ⟨a,c,ec,o,kd _ _ ho (fun⟨_,_,q⟩=>by rw[hd]at q;cases q),hd⟩
theorem EnvIs.weaken {X:List Addr} {h:Heap} {env:Env} {Γ Γ':List (Str×Bd)} (I:EnvIs X h env Γ) (k:∀x b,Γ'.lookup x=some b→Γ.lookup x=some b):EnvIs X h env Γ':=
 ⟨I.fn,I.ns,I.cell,I.inj,fun x b e=>I.see x b (k x b e)⟩
section
variable {prog:Program} {w:World}
noncomputable def Ev (prog:Program) (w:World) (A:Around) (X:List Addr) (h:Heap) (t:Sem Value) (d:PyData):Prop:=
 ∀(s:Shared) (Q:Value→Shared→Prop) (E:Value→Shared→Prop),Ext h s.heap→XOk X s.heap→
  (∀v h' tk,Ext s.heap h'→Rd (hid X h') d v→Q v (sat s h' tk))→wpAny (model prog w) A t Q E s
noncomputable def EvV (prog:Program) (w:World) (A:Around) (h:Heap) (t:Sem Value) (u:Value):Prop:=
 ∀(s:Shared) (Q:Value→Shared→Prop) (E:Value→Shared→Prop),Ext h s.heap→
  (∀h' tk,Ext s.heap h'→Q u (sat s h' tk))→wpAny (model prog w) A t Q E s
noncomputable def EvB (prog:Program) (w:World) (A:Around) (X:List Addr) (h:Heap) (t:Sem Bool) (b:Bool):Prop:=
 ∀(s:Shared) (Q:Bool→Shared→Prop) (E:Value→Shared→Prop),Ext h s.heap→XOk X s.heap→
  (∀h' tk,Ext s.heap h'→Q b (sat s h' tk))→wpAny (model prog w) A t Q E s
noncomputable def EvL (prog:Program) (w:World) (A:Around) (X:List Addr) (h:Heap) (t:Sem (List Value)) (ds:List PyData):Prop:=
 ∀(s:Shared) (Q:List Value→Shared→Prop) (E:Value→Shared→Prop),Ext h s.heap→XOk X s.heap→
  (∀vs h' tk,Ext s.heap h'→Rds (hid X h') ds vs→Q vs (sat s h' tk))→wpAny (model prog w) A t Q E s
variable {A:Around} {X:List Addr} {h:Heap} {env:Env} {Γ:List (Str×Bd)}
theorem Ev.mono {h':Heap} {t:Sem Value} {d:PyData} (x:Ev prog w A X h t d) (k:Ext h h'):Ev prog w A X h' t d:=fun s Q E k'=>x s Q E (k.trans k')
theorem EvV.mono {h':Heap} {t:Sem Value} {d:Value} (x:EvV prog w A h t d) (k:Ext h h'):EvV prog w A h' t d:=fun s Q E k'=>x s Q E (k.trans k')
end
end M2
section M3
section
variable {prog:Program} {w:World} {A:Around} {X:List Addr} {h:Heap} {env:Env} {Γ:List (Str×Bd)}
theorem zIm {h:Heap} {env:Env} {x:Str} {v:Value} {pos:Pos} {M:Model} {Q:Value→Shared→Prop} {E:Value→Shared→Prop} {s:Shared} (fn:env.scope.kind= .function) (sv:Sees s.heap env x v) (hQ:Q v s)
 (hd:(x==("__debug__":Str))=false) (hc:(x==("__classdict__":Str))=false):wpAny M A (eval (.Name x pos) env) Q E s:=by
 rcases sv with⟨a,m,n,em⟩|⟨a|a,c,ec,q⟩
 ·exact wpAny_Name (wpAny_loadName_local fn a n em hQ) hd
 ·exact wpAny_Name (wpAny_loadName_cell fn a ec q hQ) hd
 ·exact wpAny_Name (wpAny_loadName_free fn a ec q hQ hc) hd
theorem zAd {x:Str} {pos:Pos} {d:PyData} (I:EnvIs X h env Γ) (e:Γ.lookup x=some (.d d)) (hd:autoParam ((x==("__debug__":Str))=false) aD) (hc:autoParam ((x==("__classdict__":Str))=false) aD):
 Ev prog w A X h (eval (.Name x pos) env) d:=by
 intro s Q E k kx hQ
 obtain⟨v,sv,r⟩:=I.see x _ e
 exact zIm (h:=h) I.fn (sv.mono k) (hQ v s.heap s.toks Ext.rfl (r.mono (zAl k).s)) hd hc
theorem zAm {x:Str} {pos:Pos} {u:Value} (I:EnvIs X h env Γ) (e:Γ.lookup x=some (.v u)) (hd:autoParam ((x==("__debug__":Str))=false) aD) (hc:autoParam ((x==("__classdict__":Str))=false) aD):
 EvV prog w A h (eval (.Name x pos) env) u:=by
 intro s Q E k hQ
 obtain⟨v,sv,r⟩:=I.see x _ e
 cases r
 exact zIm (h:=h) I.fn (sv.mono k) (hQ s.heap s.toks Ext.rfl) hd hc
theorem zAo {i:Int} {k:Nat} {pos:Pos}:Ev prog w A X h (eval (.Constant (.int i) k pos) env) (.int i):=fun s _ _ _ _ hQ=>wpAny_Constant_int (hQ _ s.heap _ Ext.rfl (Rd.int i _))
theorem zAq {i:Str} {k:Nat} {pos:Pos}:Ev prog w A X h (eval (.Constant (.str i) k pos) env) (.str i):=fun s _ _ _ _ hQ=>wpAny_Constant_str (hQ _ s.heap _ Ext.rfl (Rd.str i _))
theorem zJ2 {k:Nat} {pos:Pos}:Ev prog w A X h (eval (.Constant .none k pos) env) .none:=fun s _ _ _ _ hQ=>wpAny_Constant_none (hQ _ s.heap s.toks Ext.rfl Rd.none)
theorem zOo {b:Bool} {k:Nat} {pos:Pos}:Ev prog w A X h (eval (.Constant (.bool b) k pos) env) (.bool b):=fun s _ _ _ _ hQ=>wpAny_Constant_bool (hQ _ s.heap s.toks Ext.rfl (Rd.bool b))
theorem zAg {pos:Pos}:EvL prog w A X h (spliced (backTo pos (starEach [] env))) []:=fun s _ _ _ _ hQ=>wpAny_items_nil (hQ _ s.heap s.toks Ext.rfl .nil)
theorem zAc {pos:Pos} {e:Expr} {es:List Expr} {d:PyData} {ds:List PyData} (a:Ev prog w A X h (eval e env) d) (b:EvL prog w A X h (spliced (backTo pos (starEach es env))) ds)
 (he:autoParam (starEach (e::es) env=(false,eval e env)::starEach es env) aR):EvL prog w A X h (spliced (backTo pos (starEach (e::es) env))) (d::ds):=by
 intro s Q E k kx hQ
 refine wpAny_items_cons (a s _ _ k kx fun v h₁ tk₁ k₁ r₁=>b _ _ _ (k.trans k₁) (kx.ext k₁) fun vs h₂ tk₂ k₂ r₂=> ?_) he
 exact hQ _ h₂ tk₂ (k₁.trans k₂) (.cons (r₁.mono (zAl k₂).s) r₂)
theorem zAr {pos:Pos} {es:List Expr} {ds:List PyData} (a:EvL prog w A X h (spliced (backTo pos (starEach es env))) ds) (hs:ds.length≤sizeLine:=by first|decide|(simp only[List.length_cons,List.length_nil,sizeLine];decide)):Ev prog w A X h (eval (.List es pos) env) (.list ds):=by
 intro s Q E k kx hQ
 refine wpAny_List (a s _ _ k kx fun vs h₁ tk₁ k₁ r₁=>⟨by rw[r₁.length];exact hs,?_⟩)
 exact hQ _ _ tk₁ (k₁.trans (Ext.push _ _)) (zBi (kx.ext k₁) (by simpa using r₁))
theorem zBr {pos:Pos} {es:List Expr} {n:Nat} {ds:List PyData} (a:EvL prog w A X h (spliced (backTo pos (starEach es env))) ds) (hs:ds.length≤sizeLine:=by first|decide|(simp only[List.length_cons,List.length_nil,sizeLine];decide)):Ev prog w A X h (eval (.Tuple es n pos) env) (.tuple ds):=by
 intro s Q E k kx hQ
 refine wpAny_Tuple (a s _ _ k kx fun vs h₁ tk₁ k₁ r₁=>⟨by rw[r₁.length];exact hs,?_⟩)
 exact hQ _ _ tk₁ (k₁.trans (Ext.push _ _)) (zBw (kx.ext k₁) (by simpa using r₁))
theorem zCd {l r:Expr} {op:Operator} {pos:Pos} {a b d:PyData} (ha:Ev prog w A X h (eval l env) a) (hb:Ev prog w A X h (eval r env) b)
 (ho:∀(s:Shared) (u v:Value) (Q:Value→Shared→Prop) (E:Value→Shared→Prop),XOk X s.heap→Rd (hid X s.heap) a u→Rd (hid X s.heap) b v→
  (∀v h' tk,Ext s.heap h'→Rd (hid X h') d v→Q v (sat s h' tk))→wpAny (model prog w) A (binaryOp op u v) Q E s):
 Ev prog w A X h (eval (.BinOp l op r pos) env) d:=by
 intro s Q E k kx hQ
 refine wpAny_BinOp (ha s _ _ k kx fun u h₁ tk₁ k₁ r₁=>hb _ _ _ (k.trans k₁) (kx.ext k₁) fun v h₂ tk₂ k₂ r₂=> ?_)
 exact ho _ u v _ _ ((kx.ext k₁).ext k₂) (r₁.mono (zAl k₂).s) r₂ fun y h₃ tk₃ k₃ r₃=>hQ y h₃ tk₃ (k₁.trans (k₂.trans k₃)) r₃
theorem zCv {l r:Expr} {pos:Pos} {a b:Int} (ha:Ev prog w A X h (eval l env) (.int a)) (hb:Ev prog w A X h (eval r env) (.int b)) (h0:autoParam (b≠0) aD) (h1:autoParam (b.natAbs<1073741824) aD):
 Ev prog w A X h (eval (.BinOp l .FloorDiv r pos) env) (.int (a.fdiv b)):=by
 refine zCd ha hb fun s u v Q E kx ru rv hQ=> ?_
 obtain⟨t,rfl⟩:=ru.int_inv
 obtain⟨t',rfl⟩:=rv.int_inv
 exact PyProof.Rows.floordiv_int h0 (hQ _ s.heap _ Ext.rfl (Rd.int _ _)) (.inl (PyProof.noPylong_small h1))
theorem zLe {l r:Expr} {pos:Pos} {a b:Int} (ha:Ev prog w A X h (eval l env) (.int a)) (hb:Ev prog w A X h (eval r env) (.int b)) (h0:autoParam (b≠0) aD):
 Ev prog w A X h (eval (.BinOp l .Mod r pos) env) (.int (a.fmod b)):=by
 refine zCd ha hb fun s u v Q E kx ru rv hQ=> ?_
 obtain⟨t,rfl⟩:=ru.int_inv
 obtain⟨t',rfl⟩:=rv.int_inv
 exact PyProof.Rows.mod_int h0 (hQ _ s.heap _ Ext.rfl (Rd.int _ _))
theorem ev_pow {l r:Expr} {pos:Pos} {a b:Int} (ha:Ev prog w A X h (eval l env) (.int a)) (hb:Ev prog w A X h (eval r env) (.int b)) (h0:0≤b) (h1:b≤1000000) (h2:autoParam (a.natAbs<2 ^ 64) aD):
 Ev prog w A X h (eval (.BinOp l .Pow r pos) env) (.int (a ^ b.toNat)):=by
 refine zCd ha hb fun s u v Q E kx ru rv hQ=> ?_
 obtain⟨t,rfl⟩:=ru.int_inv
 obtain⟨t',rfl⟩:=rv.int_inv
 exact PyProof.Rows.pow_int_small h0 h1 h2 (hQ _ s.heap _ Ext.rfl (Rd.int _ _))
theorem zDk {l r:Expr} {pos:Pos} {a b:Int} (ha:Ev prog w A X h (eval l env) (.int a)) (hb:Ev prog w A X h (eval r env) (.int b)):
 Ev prog w A X h (eval (.BinOp l .Add r pos) env) (.int (a+b)):=by
 refine zCd ha hb fun s u v Q E kx ru rv hQ=> ?_
 obtain⟨t,rfl⟩:=ru.int_inv
 obtain⟨t',rfl⟩:=rv.int_inv
 exact PySem.P.add_int (hQ _ s.heap _ Ext.rfl (Rd.int _ _))
theorem zC1 {l r:Expr} {pos:Pos} {a b:Str} (ha:Ev prog w A X h (eval l env) (.str a)) (hb:Ev prog w A X h (eval r env) (.str b)) (hs:a.length+b.length≤sizeLine):
 Ev prog w A X h (eval (.BinOp l .Add r pos) env) (.str (a++b)):=by
 refine zCd ha hb fun s u v Q E kx ru rv hQ=> ?_
 obtain⟨t,rfl⟩:=ru.str_inv
 obtain⟨t',rfl⟩:=rv.str_inv
 exact PyProof.Rows.add_str (fun t' tk=>hQ _ s.heap _ Ext.rfl (Rd.str _ _)) hs
theorem zIo {s:Shared} {l b:Addr} {vs ws:Array Value} {Q:Value→Shared→Prop} {E:Value→Shared→Prop} (hl:s.heap.IsList l vs) (hb:s.heap.IsList b ws)
 (hQ:Q (.ref s.heap.objs.size) {s with heap:=s.heap.push {cls:= .type "list",data:= .seq (vs++ws)}}) (hsz:vs.size+ws.size≤sizeLine):
 wpAny (model prog w) A (binaryOp .Add (.ref l) (.ref b)) Q E s:=by
 obtain⟨⟨cls,dd,data,sl⟩,ho,hc,n,hd⟩:=id hl
 obtain⟨⟨cls2,dd2,data2,sl2⟩,ho2,hc2,n2,hd2⟩:=id hb
 simp only at hc hd hc2 hd2
 subst hc hd hc2 hd2
 exact concat_meets ⟨_,ho,rfl⟩ ⟨_,ho2,rfl⟩ noFill_list_add seq_list_add PySem.F.slot_list_add PySem.F.entry_list_add (PySem.F.args_list_add_2 _ _) (list_addW l b vs ws n n2 dd dd2 sl sl2 hsz) ⟨ho,ho2,hQ⟩
theorem zDh {l r:Expr} {pos:Pos} {a b:List PyData} (ha:Ev prog w A X h (eval l env) (.list a)) (hb:Ev prog w A X h (eval r env) (.list b)) (hs:a.length+b.length≤sizeLine):
 Ev prog w A X h (eval (.BinOp l .Add r pos) env) (.list (a++b)):=by
 refine zCd ha hb fun s u v Q E kx ru rv hQ=> ?_
 obtain⟨l,vs,rfl,il,rl⟩:=ru.list_inv
 obtain⟨b,ws,rfl,ib,rb⟩:=rv.list_inv
 have e1:=rl.length
 have e2:=rb.length
 refine zIo (IsList.le il) (IsList.le ib) ?_ (by simp at e1 e2;omega)
 exact hQ _ _ s.toks (Ext.push _ _) (zBi kx (by simpa using rl.append rb))
theorem ev_sub {value slice:Expr} {pos:Pos} {a b d:PyData} (ha:Ev prog w A X h (eval value env) a) (hb:Ev prog w A X h (eval slice env) b)
 (ho:∀(s:Shared) (u v:Value) (Q:Value→Shared→Prop) (E:Value→Shared→Prop),XOk X s.heap→Rd (hid X s.heap) a u→Rd (hid X s.heap) b v→
  (∀v h' tk,Ext s.heap h'→Rd (hid X h') d v→Q v (sat s h' tk))→wpAny (model prog w) A (subscriptTail value slice u v) Q E s):
 Ev prog w A X h (eval (.Subscript value slice pos) env) d:=by
 intro s Q E k kx hQ
 refine Subscript_ (ha s _ _ k kx fun u h₁ tk₁ k₁ r₁=>hb _ _ _ (k.trans k₁) (kx.ext k₁) fun v h₂ tk₂ k₂ r₂=> ?_)
 exact ho _ u v _ _ ((kx.ext k₁).ext k₂) (r₁.mono (zAl k₂).s) r₂ fun y h₃ tk₃ k₃ r₃=>hQ y h₃ tk₃ (k₁.trans (k₂.trans k₃)) r₃
theorem zEh {value slice:Expr} {pos:Pos} {xs:List PyData} {i:Int} {d:PyData} (ha:Ev prog w A X h (eval value env) (.list xs)) (hb:Ev prog w A X h (eval slice env) (.int i)) (h0:0≤i) (hd:xs[i.toNat]? =some d)
 (h1:i<2 ^ 63) (hs:autoParam (∀l t,subscripted slice false (.ref l) (.int i t)=operate [.ref l, .int i t] (getItem (.ref l) (.int i t))) aT):
 Ev prog w A X h (eval (.Subscript value slice pos) env) d:=by
 refine ev_sub ha hb fun s u v Q E kx ru rv hQ=> ?_
 obtain⟨l,vs,rfl,il,rl⟩:=ru.list_inv
 obtain⟨t',rfl⟩:=rv.int_inv
 obtain⟨x,ex,rx⟩:=rl.get hd
 exact tail_any (IsList.le il).typeIs slot_list_getitem.lookup (wpAny_getItem_list (IsList.le il) h0 h1 (by simpa using ex) (hQ x s.heap s.toks Ext.rfl rx)) (hs _ _)
end
end M3
section M4
section
variable {prog:Program} {w:World} {A:Around} {X:List Addr} {h:Heap} {env:Env} {Γ:List (Str×Bd)}
noncomputable def truthD:PyData→Bool
 | .none=>false
 | .bool b=>b
 | .int i=>i !=0
 | .str x=>(x.length:Int) !=0
 | .list xs=> !xs.isEmpty
 |_=>true
noncomputable def truthOk:PyData→Prop
 | .none| .bool _| .int _=>True
 | .str x=>x.length≤2 ^ 24
 | .list xs=>xs.length≤2 ^ 24
 |_=>False
theorem zI3 {s:Shared} {v:Value} {d:PyData} {Q:Bool→Shared→Prop} {E:Value→Shared→Prop} (r:Rd (hid X s.heap) d v) (ok:truthOk d)
 (hQ:∀tk,Q (truthD d) {s with toks:=tk}):wpAny (model prog w) A (truthy v) Q E s:=by
 cases d with
 |none=>rw[r.none_inv];exact fun _ _ _=>hQ s.toks
 |bool b=>rw[r.bool_inv];exact wpAny_truthy_bool (hQ s.toks)
 |int i=>obtain⟨t,rfl⟩:=r.int_inv;exact P.truthy_int (hQ s.toks)
 |str x=>
  obtain⟨t,rfl⟩:=r.str_inv
  exact P.truthy_str (by simp only[truthOk]at ok;omega) (hQ _)
 |list xs=>
  obtain⟨l,vs,rfl,il,rl⟩:=r.list_inv
  have e:=rl.length
  simp only[truthOk]at ok
  have e':vs.size=xs.length:=by simpa using e
  refine wpAny_truthy_list (IsList.le il) (by omega) ?_
  have:(!vs.isEmpty)=truthD (.list xs):=by
   show _= !xs.isEmpty
   congr 1
   rw[Bool.eq_iff_iff,Array.isEmpty_iff_size_eq_zero,List.isEmpty_iff_length_eq_zero,e']
  rw[this]
  exact hQ _
 |tuple _=>exact ok.elim
 |dict _=>exact ok.elim
theorem zBl {e:Expr} {whole:Sem Value} {d:PyData} (a:Ev prog w A X h whole d) (ok:truthOk d)
 (he:autoParam (isTrue e env whole=(do let v←whole;standAt e.pos;holding [v] (truthy v))) aR):EvB prog w A X h (isTrue e env whole) (truthD d):=by
 intro s Q E k kx hQ
 exact wpAny_isTrue_value (a s _ _ k kx fun v h₁ tk₁ k₁ r₁=>zI3 r₁ ok fun tk=>hQ h₁ tk k₁) he
theorem zF8 {x:Expr} {pos:Pos} {whole:Sem Value} {b:Bool} (a:EvB prog w A X h (isTrue x env (eval x env)) b):EvB prog w A X h (isTrue (.UnaryOp .Not x pos) env whole) (!b):=by
 intro s Q E k kx hQ
 exact wpAny_isTrue_Not (a s _ _ k kx fun h₁ tk₁ k₁=>hQ h₁ tk₁ k₁)
theorem zCt {x y:Expr} {pos:Pos} {whole:Sem Value} {b c:Bool} (a:EvB prog w A X h (isTrue x env (eval x env)) b) (a':b=true→EvB prog w A X h (isTrue y env (eval y env)) c):
 EvB prog w A X h (isTrue (.BoolOp .And [x,y] pos) env whole) (b&&c):=by
 intro s Q E k kx hQ
 refine wpAny_isTrue_BoolOp (wpAny_allTrue_And_cons (a s _ _ k kx fun h₁ tk₁ k₁=> ?_))
 cases b with
 |false=>exact hQ h₁ tk₁ k₁
 |true=>
  refine wpAny_allTrue_And_cons (a' rfl _ _ _ (k.trans k₁) (kx.ext k₁) fun h₂ tk₂ k₂=> ?_)
  have:=hQ h₂ tk₂ (k₁.trans k₂)
  cases c with
  |false=>exact this
  |true=>exact wpAny_allTrue_And_nil this
theorem zHq {x y:Expr} {pos:Pos} {whole:Sem Value} {b c:Bool} (a:EvB prog w A X h (isTrue x env (eval x env)) b) (a':b=false→EvB prog w A X h (isTrue y env (eval y env)) c):
 EvB prog w A X h (isTrue (.BoolOp .Or [x,y] pos) env whole) (b||c):=by
 intro s Q E k kx hQ
 refine wpAny_isTrue_BoolOp (wpAny_allTrue_Or_cons (a s _ _ k kx fun h₁ tk₁ k₁=> ?_))
 cases b with
 |true=>exact hQ h₁ tk₁ k₁
 |false=>
  refine wpAny_allTrue_Or_cons (a' rfl _ _ _ (k.trans k₁) (kx.ext k₁) fun h₂ tk₂ k₂=> ?_)
  have:=hQ h₂ tk₂ (k₁.trans k₂)
  cases c with
  |true=>exact this
  |false=>exact wpAny_allTrue_Or_nil this
theorem evB_or3 {x y z:Expr} {pos:Pos} {whole:Sem Value} {b c e:Bool} (a:EvB prog w A X h (isTrue x env (eval x env)) b) (a':b=false→EvB prog w A X h (isTrue y env (eval y env)) c)
 (a'':b=false→c=false→EvB prog w A X h (isTrue z env (eval z env)) e):EvB prog w A X h (isTrue (.BoolOp .Or [x,y,z] pos) env whole) (b||(c||e)):=by
 intro s Q E k kx hQ
 refine wpAny_isTrue_BoolOp (wpAny_allTrue_Or_cons (a s _ _ k kx fun h₁ tk₁ k₁=> ?_))
 cases b with
 |true=>exact hQ h₁ tk₁ k₁
 |false=>
  refine wpAny_allTrue_Or_cons (a' rfl _ _ _ (k.trans k₁) (kx.ext k₁) fun h₂ tk₂ k₂=> ?_)
  cases c with
  |true=>exact hQ h₂ tk₂ (k₁.trans k₂)
  |false=>
   refine wpAny_allTrue_Or_cons (a'' rfl rfl _ _ _ (k.trans (k₁.trans k₂)) ((kx.ext k₁).ext k₂) fun h₃ tk₃ k₃=> ?_)
   have:=hQ h₃ tk₃ (k₁.trans (k₂.trans k₃))
   cases e with
   |true=>exact this
   |false=>exact wpAny_allTrue_Or_nil this
theorem EvB.eq {t:Sem Bool} {b c:Bool} (a:EvB prog w A X h t b) (e:b=c):EvB prog w A X h t c:=e▸a
theorem Ev.eq {t:Sem Value} {b c:PyData} (a:Ev prog w A X h t b) (e:b=c):Ev prog w A X h t c:=e▸a
structure Lay (A:Around) (d:PyData):Prop where
 lay:d.canLay0=true
 room:A.units+d.depth+8<cLine
noncomputable def CmpIs (prog:Program) (w:World) (A:Around) (op:CmpOp) (a b:PyData) (c:Bool):Prop:=
 ∀(s:Shared) (u v:Value) (Q:Value→Shared→Prop) (E:Value→Shared→Prop),(∃as,Reads s.heap u a as)→(∃bs,Reads s.heap v b bs)→Q (.bool c) s→wpAny (model prog w) A (compareOp op u v) Q E s
theorem zLh {a b:PyData} (la:Lay A a) (lb:b.canLay0=true):CmpIs prog w A .Eq a b (PyData.eqv a b):=
 fun s u v Q E ⟨_,ra⟩ ⟨_,rb⟩ hQ=>SeqAt.compareEq_reads ra rb la.lay lb (by have:=la.room;have:min a.depth b.depth≤a.depth:=Nat.min_le_left _ _;omega) hQ
theorem zF5 {a b:PyData} (la:Lay A a) (lb:b.canLay0=true):CmpIs prog w A .NotEq a b (!PyData.eqv a b):=
 fun s u v Q E ⟨_,ra⟩ ⟨_,rb⟩ hQ=>SeqAt.compareNe_reads ra rb la.lay lb (by have:=la.room;have:min a.depth b.depth≤a.depth:=Nat.min_le_left _ _;omega) hQ
theorem zDu {a:PyData} {xs:List PyData} (la:Lay A a) (lb:PyData.canLayAll0 xs=true):CmpIs prog w A .NotIn a (.list xs) (!xs.any fun y=>PyData.eqv y a):=
 fun s u v Q E ⟨_,ra⟩ ⟨_,rb⟩ hQ=>SeqAt.notIn_list_reads rb ra lb la.lay (by have:=la.room;have:min (PyData.depthAll xs) a.depth≤a.depth:=Nat.min_le_right _ _;omega) hQ
theorem Rd.le {X:List Addr} {h:Heap} {d:PyData} {v:Value} (r:Rd (hid X h) d v):Rd h d v:=r.mono (zAf X h).s
theorem ev_cmp {l r:Expr} {op:CmpOp} {pos:Pos} {a b:PyData} {c:Bool} (ha:Ev prog w A X h (eval l env) a) (hb:Ev prog w A X h (eval r env) b) (C:CmpIs prog w A op a b c)
 (hm:autoParam (behindInMarks op r=false) aR):Ev prog w A X h (eval (.Compare l [op] [r] pos) env) (.bool c):=by
 intro s Q E k kx hQ
 refine wpAny_Compare1 (ha s _ _ k kx fun u h₁ tk₁ k₁ r₁=>hb _ _ _ (k.trans k₁) (kx.ext k₁) fun v h₂ tk₂ k₂ r₂=> ?_) hm
 exact C _ u v _ _ (r₁.mono (zAl k₂).s).le.2 r₂.le.2 (hQ _ h₂ tk₂ (k₁.trans k₂) (Rd.bool c))
theorem zAs {l r:Expr} {op:CmpOp} {pos:Pos} {whole:Sem Value} {a b:PyData} {c:Bool} (ha:Ev prog w A X h (eval l env) a) (hb:Ev prog w A X h (eval r env) b) (C:CmpIs prog w A op a b c)
 (hm:autoParam (behindInMarks op r=false) aR):EvB prog w A X h (isTrue (.Compare l [op] [r] pos) env whole) c:=by
 intro s Q E k kx hQ
 refine wpAny_isTrue_Compare1 (ha s _ _ k kx fun u h₁ tk₁ k₁ r₁=>hb _ _ _ (k.trans k₁) (kx.ext k₁) fun v h₂ tk₂ k₂ r₂=> ?_) hm
 exact C _ u v _ _ (r₁.mono (zAl k₂).s).le.2 r₂.le.2 (wpAny_truthy_bool (hQ h₂ tk₂ (k₁.trans k₂)))
theorem zCy {t a b:Expr} {pos:Pos} {c:Bool} {d:PyData} (ht:EvB prog w A X h (isTrue t env (eval t env)) c) (ha:c=true→Ev prog w A X h (eval a env) d) (hb:c=false→Ev prog w A X h (eval b env) d):
 Ev prog w A X h (eval (.IfExp t a b pos) env) d:=by
 intro s Q E k kx hQ
 refine wpAny_IfExp (ht s _ _ k kx fun h₁ tk₁ k₁=> ?_)
 cases c with
 |true=>exact ha rfl _ _ _ (k.trans k₁) (kx.ext k₁) fun v h₂ tk₂ k₂ r₂=>hQ v h₂ tk₂ (k₁.trans k₂) r₂
 |false=>exact hb rfl _ _ _ (k.trans k₁) (kx.ext k₁) fun v h₂ tk₂ k₂ r₂=>hQ v h₂ tk₂ (k₁.trans k₂) r₂
theorem zQr {x y:Expr} {pos:Pos} {a b:PyData} (ha:Ev prog w A X h (eval x env) a) (ok:truthOk a) (hb:truthD a=false→Ev prog w A X h (eval y env) b):
 Ev prog w A X h (eval (.BoolOp .Or [x,y] pos) env) (if truthD a then a else b):=by
 intro s Q E k kx hQ
 refine wpAny_Or2 (ha s _ _ k kx fun u h₁ tk₁ k₁ r₁=>zI3 r₁ ok fun tk=> ?_)
 cases ht:truthD a with
 |true=>
  rw[ht]at hQ
  exact hQ u h₁ tk k₁ r₁
 |false=>
  rw[ht]at hQ
  exact hb ht _ _ _ (k.trans k₁) (kx.ext k₁) fun v h₂ tk₂ k₂ r₂=>hQ v h₂ tk₂ (k₁.trans k₂) r₂
noncomputable def PartEv (prog:Program) (w:World) (A:Around) (X:List Addr) (h:Heap) (env:Env):Option Expr→Option Int→Prop
 |none,none=>True
 |some e,some i=>Ev prog w A X h (eval e env) (.int i)
 |_,_=>False
theorem pNone:PartEv prog w A X h env none none:=trivial
theorem pEv {e:Expr} {i:Int} (a:Ev prog w A X h (eval e env) (.int i)):PartEv prog w A X h env (some e) (some i):=a
theorem zEl {x:Option Expr} {k:Option Int} (p:PartEv prog w A X h env x k) {s:Shared} {Q:Value→Shared→Prop} {E:Value→Shared→Prop} (kk:Ext h s.heap) (kx:XOk X s.heap)
 (hQ:∀v h' tk,Ext s.heap h'→IsPart v k→Q v (sat s h' tk)):wpAny (model prog w) A (evalPart x env) Q E s:=by
 cases x with
 |none=>
  cases k with
  |none=>rw[evalPart_none];exact wpAny_pure (hQ _ s.heap s.toks Ext.rfl .none)
  |some i=>exact p.elim
 |some e=>
  cases k with
  |none=>exact p.elim
  |some i=>
   rw[evalPart_some]
   refine p s _ _ kk kx fun v h' tk k' r=> ?_
   obtain⟨t,rfl⟩:=r.int_inv
   exact hQ _ h' tk k' (.int i t)
noncomputable def cutD {α:Type} (xs:List α) (lo hi:Option Int):List α:=
 (xs.drop (lo.elim 0 (clipAt xs.length))).take (hi.elim xs.length (clipAt xs.length) - lo.elim 0 (clipAt xs.length))
theorem zCg {value:Expr} {lower upper:Option Expr} {p pos:Pos} {xs:List PyData} {lo hi:Option Int} (ha:Ev prog w A X h (eval value env) (.list xs)) (pl:PartEv prog w A X h env lower lo) (pu:PartEv prog w A X h env upper hi)
 (hs:xs.length≤sizeLine) (ht:autoParam (∀o r,letTemporaryGo value o r=pure ()) aT):
 Ev prog w A X h (eval (.Subscript value (.Slice lower upper none p) pos) env) (.list (cutD xs lo hi)):=by
 intro s Q E k kx hQ
 refine wpAny_Subscript_list_slice (ha s _ _ k kx fun u h₁ tk₁ k₁ r₁=>zEl pl (k.trans k₁) (kx.ext k₁) fun vl h₂ tk₂ k₂ p₂=>zEl pu (k.trans (k₁.trans k₂)) ((kx.ext k₁).ext k₂) fun vu h₃ tk₃ k₃ p₃=> ?_) ht
 obtain⟨l,vs,rfl,il,rl⟩:=(r₁.mono (zAl (k₂.trans k₃)).s).list_inv
 have e:vs.size=xs.length:=by simpa using rl.length
 refine⟨l,vs,lo,hi,rfl,IsList.le il,by omega,p₂,p₃,?_⟩
 rw[slicePick_plain]
 have kx3:=((kx.ext k₁).ext k₂).ext k₃
 have ky:=kx3.ext (Ext.push h₃ {cls:= .type "slice",data:= .fields #[vl,vu, .none]})
 have q:=zBi (n:=0) (ds:=cutD xs lo hi) (vs:=((vs.toList.drop (lo.elim 0 (clipAt vs.size))).take (hi.elim vs.size (clipAt vs.size) - lo.elim 0 (clipAt vs.size))).toArray) ky (by
  unfold cutD
  rw[←e]
  exact((rl.mono (zAl (Ext.push h₃ _)).s).drop _).take _)
 rw[Heap.size_push]at q
 exact hQ _ _ tk₃ (k₁.trans (k₂.trans (k₃.trans ((Ext.push _ _).trans (Ext.push _ _))))) q
end
end M4
section M5
section
variable {prog:Program} {w:World} {A:Around} {X:List Addr} {h:Heap} {env:Env} {Γ:List (Str×Bd)}
structure Stat (K:Frag) (h:Heap):Prop where
 k:K.In h
 top:∃mg mb,h.Ns mainGlobals mg∧h.Ns builtinsNs mb∧(∀x:Str,x≠"__name__"→mb x=bootBuiltins x)
 nolimit:h.NoLimit
theorem Stat.mono {K:Frag} {h h':Heap} (S:Stat K h) (k:Ext h h'):Stat K h':=
 ⟨S.k.keeps k,let⟨mg,mb,a,b,c⟩:=S.top;⟨mg,mb,a.keeps k,b.keeps k,c⟩,S.nolimit.keeps k⟩
structure GEnv (env:Env):Prop where
 fn:env.scope.kind= .function
 g:env.globals=mainGlobals
 b:env.builtins=builtinsNs
theorem zAj {K:Frag} {x:Str} {pos:Pos} {v:Value} (S:Stat K h) (G:GEnv env) (e:nsIn K mainGlobals x=some (some v)) (hx:autoParam (env.kindOf x=some .globalImplicit) aR) (hd:autoParam ((x==("__debug__":Str))=false) aD):
 EvV prog w A h (eval (.Name x pos) env) v:=by
 intro s Q E k hQ
 have S':=S.mono k
 obtain⟨mg,mb,ng,nb,_⟩:=S'.top
 refine Calls.Name_function_global G.fn hx (Calls.loadGlobal_global (mg:=mg) (by rw[G.g];exact ng) (mg_of S'.k ng e) (hQ s.heap s.toks Ext.rfl)) hd
theorem zAe {K:Frag} {x:Str} {pos:Pos} {v:Value} (S:Stat K h) (G:GEnv env) (e:nsIn K mainGlobals x=some none) (hv:bootBuiltins x=some v) (hn:autoParam (x≠"__name__") aD) (hx:autoParam (env.kindOf x=some .globalImplicit) aR) (hd:autoParam ((x==("__debug__":Str))=false) aD):
 EvV prog w A h (eval (.Name x pos) env) v:=by
 intro s Q E k hQ
 have S':=S.mono k
 obtain⟨mg,mb,ng,nb,hb⟩:=S'.top
 refine Calls.Name_function_global G.fn hx (Calls.loadGlobal_builtin (mg:=mg) (mb:=mb) (by rw[G.g];exact ng) (mg_none_of S'.k ng e) (by rw[G.b];exact nb) ((hb x hn).trans hv) (hQ s.heap s.toks Ext.rfl)) hd
noncomputable def CallIs (prog:Program) (w:World) (A:Around) (X:List Addr) (h:Heap) (f:Value) (ds:List PyData) (d:PyData):Prop:=
 ∀(s:Shared) (vs:List Value) (Q:Value→Shared→Prop) (E:Value→Shared→Prop),Ext h s.heap→XOk X s.heap→Rds (hid X s.heap) ds vs→
  (∀v h' tk,Ext s.heap h'→Rd (hid X h') d v→Q v (sat s h' tk))→wpAny (model prog w) A (call f vs) Q E s
theorem zA3 {f:Str} {id:String} {np pos:Pos} {e:Expr} {es:List Expr} {ds:List PyData} {d:PyData} (hf:EvV prog w A h (eval (.Name f np) env) (.builtin id))
 (ha:EvL prog w A X h (spliced (backTo pos (starEach (e::es) env))) ds) (C:CallIs prog w A X h (.builtin id) ds d)
 (he:autoParam (starEach (e::es) env=(false,eval e env)::starEach es env) aR) (hp:autoParam ((backTo pos (starEach es env)).any (·.1)=false) aR):
 Ev prog w A X h (eval (.Call (.Name f np) (e::es) [] pos) env) d:=by
 intro s Q E k kx hQ
 refine wpAny_Call_ofName (hf s _ _ k fun h₁ tk₁ k₁=> ?_)
 show wpAny _ _ (callWith pos (.builtin id) [] (backTo pos (starEach (e::es) env)) []) _ _ _
 rw[he]at ha⊢
 refine Calls.callWith_builtin (by show(false||(backTo pos (starEach es env)).any (·.1))=false;rw[hp];rfl) (Calls.evalArgs_plain (ha _ _ _ (k.trans k₁) (kx.ext k₁) fun vs h₂ tk₂ k₂ r₂=> ?_))
 exact C _ vs _ _ (k.trans (k₁.trans k₂)) ((kx.ext k₁).ext k₂) r₂ fun v h₃ tk₃ k₃ r₃=>hQ v h₃ tk₃ (k₁.trans (k₂.trans k₃)) r₃
theorem zI2 {f:Str} {T:String} {np pos:Pos} {e:Expr} {es:List Expr} {ds:List PyData} {d:PyData} (hf:EvV prog w A h (eval (.Name f np) env) (.type T))
 (ha:EvL prog w A X h (spliced (backTo pos (starEach (e::es) env))) ds) (C:CallIs prog w A X h (.type T) ds d)
 (he:autoParam (starEach (e::es) env=(false,eval e env)::starEach es env) aR) (hp:autoParam ((backTo pos (starEach es env)).any (·.1)=false) aR):
 Ev prog w A X h (eval (.Call (.Name f np) (e::es) [] pos) env) d:=by
 intro s Q E k kx hQ
 refine wpAny_Call_ofName (hf s _ _ k fun h₁ tk₁ k₁=> ?_)
 refine callWith_type1 (ha _ _ _ (k.trans k₁) (kx.ext k₁) fun vs h₂ tk₂ k₂ r₂=> ?_) he hp
 exact C _ vs _ _ (k.trans (k₁.trans k₂)) ((kx.ext k₁).ext k₂) r₂ fun v h₃ tk₃ k₃ r₃=>hQ v h₃ tk₃ (k₁.trans (k₂.trans k₃)) r₃
theorem zAt {K:Frag} {f:Str} {a:Addr} {o:Obj} {fd:FuncData} {np pos:Pos} {e:Expr} {es:List Expr} {ds:List PyData} {d:PyData} (S:Stat K h) (hf:EvV prog w A h (eval (.Name f np) env) (.ref a)) (ho:K.lookup a=some o) (hd:o.data= .func fd)
 (ha:EvL prog w A X h (spliced (backTo pos (starEach (e::es) env))) ds) (C:CallIs prog w A X h (.ref a) ds d)
 (he:autoParam (starEach (e::es) env=(false,eval e env)::starEach es env) aR):
 Ev prog w A X h (eval (.Call (.Name f np) (e::es) [] pos) env) d:=by
 intro s Q E k kx hQ
 refine wpAny_Call_ofName (hf s _ _ k fun h₁ tk₁ k₁=> ?_)
 show wpAny _ _ (callWith pos (.ref a) [] (backTo pos (starEach (e::es) env)) []) _ _ _
 rw[he]at ha⊢
 refine Calls.callWith_function (o:=o) (fd:=fd) (Calls.evalArgs_plain (ha _ _ _ (k.trans k₁) (kx.ext k₁) fun vs h₂ tk₂ k₂ r₂=>⟨⟨(S.mono (k.trans (k₁.trans k₂))).k _ _ ho,hd⟩,?_⟩))
 exact C _ vs _ _ (k.trans (k₁.trans k₂)) ((kx.ext k₁).ext k₂) r₂ fun v h₃ tk₃ k₃ r₃=>hQ v h₃ tk₃ (k₁.trans (k₂.trans k₃)) r₃
theorem Rds.one {h:Heap} {d:PyData} {vs:List Value} (r:Rds h [d] vs):∃v,vs=[v]∧Rd h d v:=by
 cases r with
 |cons a b=>cases b;exact⟨_,rfl,a⟩
theorem Rds.two {h:Heap} {d e:PyData} {vs:List Value} (r:Rds h [d,e] vs):∃v u,vs=[v,u]∧Rd h d v∧Rd h e u:=by
 cases r with
 |cons a b=>obtain⟨u,rfl,q⟩:=b.one;exact⟨_,_,rfl,a,q⟩
theorem zDo {xs:List PyData} (hs:xs.length<2 ^ 62):CallIs prog w A X h (.builtin "len") [.list xs] (.int xs.length):=by
 intro s vs Q E k kx r hQ
 obtain⟨v,rfl,rv⟩:=r.one
 obtain⟨l,ys,rfl,il,rl⟩:=rv.list_inv
 have e:ys.size=xs.length:=by simpa using rl.length
 refine Calls.call_len_list (IsList.le il) (by omega) ?_
 rw[e]
 exact hQ _ s.heap _ Ext.rfl (Rd.int _ _)
theorem zHe {x:Str} (hs:x.length<2 ^ 62):CallIs prog w A X h (.builtin "len") [.str x] (.int x.length):=by
 intro s vs Q E k kx r hQ
 obtain⟨v,rfl,rv⟩:=r.one
 obtain⟨t,rfl⟩:=rv.str_inv
 exact P.len_str (by omega) (hQ _ s.heap _ Ext.rfl (Rd.int _ _))
theorem zH2 {xs:List PyData} (hs:xs.length≤sizeLine):CallIs prog w A X h (.type "tuple") [.list xs] (.tuple xs):=by
 intro s vs Q E k kx r hQ
 obtain⟨v,rfl,rv⟩:=r.one
 obtain⟨l,ys,rfl,il,rl⟩:=rv.list_inv
 have e:ys.size=xs.length:=by simpa using rl.length
 refine call_tuple_list (IsList.le il) (fun h' k'=> ?_) (by omega)
 exact hQ _ _ s.toks (Ext.trans (b:=h') k' (Ext.push _ _)) (zBw (kx.ext k') (rl.mono (zAl k').s))
theorem zBz {o e:Expr} {name:Str} {apos pos:Pos} {id:String} {x:Str} {b d:PyData} (ho:Ev prog w A X h (eval o env) (.str x)) (he:Ev prog w A X h (eval e env) b)
 (slot:Slot "str" name id) (ty:typeOf (.builtin id)=pure (.type "method_descriptor"))
 (C:CallIs prog w A X h (.builtin id) [.str x,b] d)
 (hb:autoParam (attributeBase o name env (eval o env)=eval o env) aR) (hs:autoParam (starEach [e] env=[(false,eval e env)]) aR) (hline:autoParam ((apos.endLine==pos.line)=true) aR):
 Ev prog w A X h (eval (.Call (.Attribute o name apos) [e] [] pos) env) d:=by
 intro s Q E k kx hQ
 refine Call_method1 hb hs hline (ho s _ _ k kx fun u h₁ tk₁ k₁ r₁=> ?_)
 obtain⟨t,rfl⟩:=r₁.str_inv
 refine⟨"str",id,F.plainAttrs_str,slot,ty,typeIs_str _ _ _,(fun _ e=>nomatch e),?_⟩
 refine Calls.callWith_builtin rfl (Calls.evalArgs_plain (Calls.spliced_cons (he _ _ _ (k.trans k₁) (kx.ext k₁) fun v h₂ tk₂ k₂ r₂=>Calls.spliced_nil ?_)))
 exact C _ [.str x t,v] _ _ (k.trans (k₁.trans k₂)) ((kx.ext k₁).ext k₂) (.cons (Rd.str _ _) (.cons r₂ .nil)) fun v h₃ tk₃ k₃ r₃=>hQ v h₃ tk₃ (k₁.trans (k₂.trans k₃)) r₃
theorem zJ1 {h:Heap}:∀{ys:List Str} {vs:List Value},Rds h (ys.map .str) vs→∃l:List (Str×Tok),vs=strValues l∧l.map (·.1)=ys
 | [],_,r=>by cases r;exact⟨[],rfl,rfl⟩
 |y::ys,_,r=>by
  cases r with
  |cons a b=>
   obtain⟨t,rfl⟩:=a.str_inv
   obtain⟨l,rfl,e⟩:=zJ1 b
   exact⟨(y,t)::l,rfl,by simp[e]⟩
theorem zH1 {h:Heap} (l:List (Str×Tok)):Rds h ((l.map (·.1)).map .str) (strValues l):=by
 induction l with
 |nil=>exact .nil
 |cons p l ih=>exact .cons (Rd.str _ _) ih
theorem join_is {x:Str} {ys:List Str} (ok:JoinOk x ys=true):CallIs prog w A X h (.builtin "str.join") [.str x, .list (ys.map .str)] (.str (Txt.join x ys)):=by
 intro s vs Q E k kx r hQ
 obtain⟨u,v,rfl,ru,rv⟩:=r.two
 obtain⟨t,rfl⟩:=ru.str_inv
 obtain⟨l,ws,rfl,il,rl⟩:=rv.list_inv
 obtain⟨ps,e,e'⟩:=zJ1 rl
 refine SC.join (l:=ps) (texts:=ys) ?_ e' ok fun t' k'=>hQ _ s.heap k' Ext.rfl (Rd.str _ _)
 rw[←e];simpa using IsList.le il
theorem zHr {x y:Str}:CallIs prog w A X h (.builtin "str.startswith") [.str x, .str y] (.bool (Txt.startswith x y)):=by
 intro s vs Q E k kx r hQ
 obtain⟨u,v,rfl,ru,rv⟩:=r.two
 obtain⟨t,rfl⟩:=ru.str_inv
 obtain⟨t',rfl⟩:=rv.str_inv
 exact SC.startswith (hQ _ s.heap s.toks Ext.rfl (Rd.bool _))
theorem zKb {x y:Str}:CallIs prog w A X h (.builtin "str.endswith") [.str x, .str y] (.bool (Txt.endswith x y)):=by
 intro s vs Q E k kx r hQ
 obtain⟨u,v,rfl,ru,rv⟩:=r.two
 obtain⟨t,rfl⟩:=ru.str_inv
 obtain⟨t',rfl⟩:=rv.str_inv
 exact SC.endswith (hQ _ s.heap s.toks Ext.rfl (Rd.bool _))
theorem zPb {x y:Str}:CallIs prog w A X h (.builtin "str.rfind") [.str x, .str y] (.int (Txt.rfind x y)):=by
 intro s vs Q E k kx r hQ
 obtain⟨u,v,rfl,ru,rv⟩:=r.two
 obtain⟨t,rfl⟩:=ru.str_inv
 obtain⟨t',rfl⟩:=rv.str_inv
 exact SC.rfind (hQ _ s.heap _ Ext.rfl (Rd.int _ _))
theorem zO2 {x y:Str} (hs:x.length≤sizeLine):CallIs prog w A X h (.builtin "str.rstrip") [.str x, .str y] (.str (Txt.rstripChars x y)):=by
 intro s vs Q E k kx r hQ
 obtain⟨u,v,rfl,ru,rv⟩:=r.two
 obtain⟨t,rfl⟩:=ru.str_inv
 obtain⟨t',rfl⟩:=rv.str_inv
 exact SC.rstripChars (fun t' k'=>hQ _ s.heap k' Ext.rfl (Rd.str _ _)) hs
open Builtin Builtin.Str in
theorem zOf {s:Shared} {x y:Str} {t u:Tok} {Q:Value→Shared→Prop} {E:Value→Shared→Prop} (hy:(y.length==0)=false)
 (hq:∀(l:List (Str×Tok)) n tk,l.map (·.1)=Txt.split x y→Q (.ref s.heap.objs.size) {s with heap:=s.heap.push {cls:= .type "list",data:= .seq (strValues l).toArray n},toks:=tk})
 (hsz:x.length≤sizeLine) (hsz2:(partsBetween x (occurrences x y 0 x.length (x.length+1)) y.length).length≤sizeLine):
 wpAny (model prog w) A (call (.builtin "str.split") [.str x t, .str y u]) Q E s:=by
 cases h1:(decide (x.length<y.length)||decide (strKind x<strKind y))
 ·cases hf:(occurrences x y 0 x.length (x.length+1)).isEmpty
  ·refine call_meets F.slot_str_split (typeIs_str _ _ _) F.entry_str_split (F.args_str_split_2 _ _) (meets_str_split_sep x y t u h1 hy hf hsz hsz2) ?_
   show wants Q E _ {s with toks:=_,heap:=s.heap.push {cls:= .type "list",data:= .seq (strsFrom s.toks (partsBetween x (occurrences x y 0 x.length (x.length+1)) y.length)).toArray}}
   rw[strsFrom_eq]
   exact hq (numbered s.toks _) _ _ ((numbered_texts _ _).trans ((if_neg (ne_true_of_eq_false h1)).trans (if_neg (ne_true_of_eq_false hf))).symm)
  ·exact call_meets F.slot_str_split (typeIs_str _ _ _) F.entry_str_split (F.args_str_split_2 _ _) (meets_str_split_not_found x y t u h1 hy hf)
    (hq [(x,t)] _ _ ((if_neg (ne_true_of_eq_false h1)).trans (if_pos hf)).symm)
 ·exact call_meets F.slot_str_split (typeIs_str _ _ _) F.entry_str_split (F.args_str_split_2 _ _) (meets_str_split_cannot_occur x y t u h1)
   (hq [(x,t)] _ _ (if_pos h1).symm)
open Builtin Builtin.Str in
theorem zO8 {x y:Str} (hy:(y.length==0)=false) (hs:x.length≤sizeLine) (hs2:(partsBetween x (occurrences x y 0 x.length (x.length+1)) y.length).length≤sizeLine):
 CallIs prog w A X h (.builtin "str.split") [.str x, .str y] (.list ((Txt.split x y).map .str)):=by
 intro s vs Q E k kx r hQ
 obtain⟨u,v,rfl,ru,rv⟩:=r.two
 obtain⟨t,rfl⟩:=ru.str_inv
 obtain⟨t',rfl⟩:=rv.str_inv
 refine zOf hy (fun l n tk e=> ?_) hs hs2
 exact hQ _ _ tk (Ext.push _ _) (zBi kx (by rw[←e];simpa using zH1 l))
noncomputable def PartTok (v:Value) (k:Option Int):Prop:=∃l:Option (Int×Tok),v=partValue l∧l.map (·.1)=k
theorem partTok {v:Value} {k:Option Int} (p:IsPart v k):PartTok v k:=by
 cases p with
 |none=>exact⟨none,rfl,rfl⟩
 |int i t=>exact⟨some (i,t),rfl,rfl⟩
open Builtin Builtin.Str in
theorem zAy {value:Expr} {lower upper:Option Expr} {p pos:Pos} {x:Str} {lo hi:Option Int} (ha:Ev prog w A X h (eval value env) (.str x)) (pl:PartEv prog w A X h env lower lo) (pu:PartEv prog w A X h env upper hi)
 (hs:x.length≤sizeLine) (ht:autoParam (∀o r,letTemporaryGo value o r=pure ()) aT):
 Ev prog w A X h (eval (.Subscript value (.Slice lower upper none p) pos) env) (.str (Txt.slice x lo hi)):=by
 intro s Q E k kx hQ
 refine wpAny_Subscript_str_slice (ha s _ _ k kx fun u h₁ tk₁ k₁ r₁=>zEl pl (k.trans k₁) (kx.ext k₁) fun vl h₂ tk₂ k₂ p₂=>zEl pu (k.trans (k₁.trans k₂)) ((kx.ext k₁).ext k₂) fun vu h₃ tk₃ k₃ p₃=> ?_) ht
 obtain⟨t,rfl⟩:=r₁.str_inv
 obtain⟨l,rfl,el⟩:=partTok p₂
 obtain⟨u,rfl,eu⟩:=partTok p₃
 refine⟨x,t,l,u,rfl,rfl,rfl,?_⟩
 have kk:Ext s.heap (h₃.push {cls:= .type "slice",data:= .fields #[partValue l,partValue u, .none]}):=k₁.trans (k₂.trans (k₃.trans (Ext.push _ _)))
 have e:slicePicked x l u none=strSliceIndices lo hi 1 x.length:=by unfold slicePicked;rw[el,eu];rfl
 unfold sliceMade
 unfold Txt.slice at hQ
 by_cases hc:((1:Int)==1&&(strSliceIndices lo hi 1 x.length).length==x.length)=true
 ·rw[if_pos (by rw[e];exact hc)]
  rw[if_pos hc]at hQ
  exact hQ _ _ tk₃ kk (Rd.str _ _)
 ·rw[if_neg (by rw[e];exact hc),e]
  rw[if_neg hc]at hQ
  refine⟨?_,hQ _ _ _ kk (Rd.str _ _)⟩
  have h1:=sliceIndices_le lo hi x.length
  have h2:=List.length_filterMap_le (fun i=>x.cps[i]?) (strSliceIndices lo hi 1 x.length)
  show((strSliceIndices lo hi 1 x.length).filterMap (x.cps[·]?)).toArray.size≤sizeLine
  rw[List.size_toArray]
  exact Nat.le_trans h2 (Nat.le_trans h1 hs)
end
end M5
section M6
noncomputable def closCells (env:Env):List (Str×NameKind)→List (Str×Addr)→List (Str×Addr)
 | [],acc=>acc
 |(n,k)::r,acc=>closCells env r (if k== .free then(n,(env.cells.lookup n).getD 0)::acc else acc)
noncomputable def freeOk (scope:Scope) (env:Env):Bool:=scope.names.all fun x=>x.2 != .free||(env.cells.lookup x.1).isSome
theorem zA4 {env:Env}:∀(names:List (Str×NameKind)) (acc:List (Str×Addr)),(names.all fun x=>x.2 != .free||(env.cells.lookup x.1).isSome)=true→
 ∀n c,(closCells env names acc).lookup n=some c→acc.lookup n=some c∨env.cells.lookup n=some c
 | [],_,_,n,c,e=> .inl e
 |(y,k)::r,acc,h,n,c,e=>by
  simp only[List.all_cons,Bool.and_eq_true]at h
  unfold closCells at e
  rcases zA4 r _ h.2 n c e with q|q
  ·by_cases hk:(k== .free)=true
   ·rw[if_pos hk]at q
    have hk':k= .free:=by simpa using hk
    have h1:=h.1
    simp only[hk',bne_self_eq_false,Bool.false_or]at h1
    rw[List.lookup_cons]at q
    cases hy:n==y with
    |true=>
     rw[hy]at q
     obtain⟨c',hc'⟩:=Option.isSome_iff_exists.mp h1
     rw[hc']at q
     have:n=y:=by simpa using hy
     subst this
     right;rw[hc'];exact q
    |false=>rw[hy]at q;exact .inl q
   ·rw[if_neg hk]at q;exact .inl q
  ·exact .inr q
theorem zAv {scope:Scope} {env:Env} (h:freeOk scope env=true):closureFor scope env=pure (closCells env scope.names []):=by
 unfold freeOk at h
 have key:∀(names:List (Str×NameKind)) (acc:List (Str×Addr)),(names.all fun x=>x.2 != .free||(env.cells.lookup x.1).isSome)=true→
  (forIn names acc fun x (cs:List (Str×Addr))=>match x with
   |(name,kind)=>if(kind==NameKind.free)=true then(do let c←cellOf env name;pure (ForInStep.yield ((name,c)::cs)))else(pure (ForInStep.yield cs):Sem _))=pure (closCells env names acc):=by
  intro names
  induction names with
  |nil=>intro acc _;rfl
  |cons x r ih=>
   obtain⟨y,k⟩:=x
   intro acc h
   simp only[List.all_cons,Bool.and_eq_true]at h
   rw[List.forIn_cons]
   unfold closCells
   by_cases hk:(k== .free)=true
   ·have hk':k= .free:=by simpa using hk
    have h1:=h.1
    simp only[hk',bne_self_eq_false,Bool.false_or]at h1
    obtain⟨c,hc⟩:=Option.isSome_iff_exists.mp h1
    simp only[hk,if_true,cellOf,hc,Option.getD_some]
    exact ih _ h.2
   ·simp only[hk,Bool.false_eq_true,if_false]
    exact ih _ h.2
 have e:closureFor scope env=((forIn scope.names [] fun x (cs:List (Str×Addr))=>match x with
  |(name,kind)=>if(kind==NameKind.free)=true then(do let c←cellOf env name;pure (ForInStep.yield ((name,c)::cs)))else(pure (ForInStep.yield cs):Sem _))>>=fun cs=>pure cs):=rfl
 rw[e,key scope.names [] h]
 rfl
noncomputable def cEnv (scope:Scope) (C:Addr) (env:Env):Env:=
 {scope:=relabel scope env,locals:=C,globals:=env.globals,cells:=cellsFrom (C+1) scope.names (closCells env scope.names []),qual:=env.qual,func:=none,code:=env.code,frame:=env.frame,builtins:=env.builtins}
theorem zFd {M:Model} {A:Around} {E:Value→Shared→Prop} {s:Shared} {scope:Scope} {env:Env} {cl:List (Str×Addr)} {Q:Env→Shared→Prop}
 (hQ:Q (newEnv scope s.heap.objs.size env.globals (cellsFrom (s.heap.objs.size+1) scope.names cl) env.qual none .none (some env) builtinsNs) {s with heap:=pushCells (s.heap.push {cls:= .type "dict",data:= .dict #[]}) scope.names}):
 wpAny M A (newFunctionEnv scope env.globals cl [] env.qual none .none (some env)) Q E s:=by
 simp only[newFunctionEnv,Option.isSome_some,if_true]
 refine wpAny_bind (wpAny_alloc ?_)
 refine wpAny_bind (wpAny_layCells _ (fun name kind cells=>by cases hkc:kind==NameKind.cell<;>simp[hkc]) _ _ _ _ ?_)
 rw[show({s with heap:=s.heap.push {cls:= .type "dict",data:= .dict #[]}}:Shared).heap.objs.size=s.heap.objs.size+1 from Heap.size_push ..]
 exact wpAny_bind (wpAny_pure (wpAny_pure hQ))
noncomputable def Tgt (h:Heap) (env:Env) (x:Str) (a:Addr):Prop:=
 (env.kindOf x=some .local∧a=env.locals∧∃m,h.Ns a m)∨(env.kindOf x=some .cell∧env.cells.lookup x=some a∧∃v,h.IsCell a v)
theorem Tgt.keep {h h':Heap} {env:Env} {x:Str} {a:Addr} (t:Tgt h env x a) (k:∀o,h.get? a=some o→h'.get? a=some o):Tgt h' env x a:=by
 rcases t with⟨e,q,m,n⟩|⟨e,q,v,o,ho,hd⟩
 ·exact .inl ⟨e,q,m,n.at' k⟩
 ·exact .inr ⟨e,q,v,o,k o ho,hd⟩
theorem Tgt.there {h:Heap} {env:Env} {x:Str} {a:Addr} (t:Tgt h env x a):∃o,h.get? a=some o∧¬IsSeq o:=by
 rcases t with⟨e,q,m,o,es,ep,ho,hd,_⟩|⟨e,q,v,o,ho,hd⟩
 ·exact⟨o,ho,fun⟨_,_,z⟩=>by rw[hd]at z;cases z⟩
 ·exact⟨o,ho,fun⟨_,_,z⟩=>by rw[hd]at z;cases z⟩
theorem zNg {M:Model} {A:Around} {E:Value→Shared→Prop} {s:Shared} {env:Env} {x:Str} {a:Addr} {v:Value} {Q:Unit→Shared→Prop} (fn:env.scope.kind= .function) (t:Tgt s.heap env x a)
 (hQ:∀h' tk,Tgt h' env x a→Sees h' env x v→Heap.SameBut a s.heap h'→Q () (sat s h' tk)):wpAny M A (storeName env x v) Q E s:=by
 rcases t with⟨e,rfl,m,n⟩|⟨e,q,u,c⟩
 ·refine wpAny_storeName_local e n (fun h' n' sb=>hQ h' _ (.inl ⟨e,rfl,_,n'⟩) (.inl ⟨e,_,n',by simp⟩) sb) (by rw[fn];rfl)
 ·exact wpAny_storeName_cell fn e q c fun h' c' sb=>hQ h' s.toks (.inr ⟨e,q,_,c'⟩) (.inr ⟨.inl e,a,q,c'⟩) sb
section
variable {prog:Program} {w:World} {A:Around} {X:List Addr} {h:Heap} {env:Env} {Γ:List (Str×Bd)}
structure SrcAt (prog:Program) (w:World) (A:Around) (X:List Addr) (h₁:Heap) (ds:List PyData) (o:Obj) (fp:List Addr) (P:Nat→Value→Prop) (St:Nat→Heap→Prop):Prop where
 walks:Walks prog w A h₁.objs.size fp [h₁.objs.size] ds.length P St
 start:St 0 (h₁.push o)
 live:o.isFreed=false
 there:∀b∈fp,b<h₁.objs.size+1
 is:∀i v,i<ds.length→P i v→∃d,ds[i]? =some d∧Rd (hid X h₁) d v
 fpOk:∀b∈fp,b=h₁.objs.size∨∃o,(hid X h₁).get? b=some o∧IsSeq o
 it:∀i h',St i h'→∃o,h'.get? h₁.objs.size=some o∧¬IsSeq o
noncomputable def IterIs (prog:Program) (w:World) (A:Around) (X:List Addr) (v:Value) (s:Shared) (ds:List PyData):Prop:=
 ∀(Q:Value→Shared→Prop) (E:Value→Shared→Prop),(∀o fp P St,SrcAt prog w A X s.heap ds o fp P St→¬IsSeq o→Q (.ref s.heap.objs.size) {s with heap:=s.heap.push o})→wpAny (model prog w) A (pyIter v) Q E s
noncomputable def Src (prog:Program) (w:World) (A:Around) (X:List Addr) (h:Heap) (t:Sem Value) (ds:List PyData):Prop:=
 ∀(s:Shared) (Q:Value→Shared→Prop) (E:Value→Shared→Prop),Ext h s.heap→XOk X s.heap→
  (∀v h' tk,Ext s.heap h'→IterIs prog w A X v (sat s h' tk) ds→Q v (sat s h' tk))→wpAny (model prog w) A t Q E s
theorem zM9 (hh:A.handled=none) {s:Shared} {v:Value} {ds:List PyData} (r:Rd (hid X s.heap) (.list ds) v):IterIs prog w A X v s ds:=by
 intro Q E hQ
 obtain⟨l,vs,rfl,il,rl⟩:=r.list_inv
 have e:vs.size=ds.length:=by simpa using rl.length
 have hl:=IsList.le il
 have hlt:l<s.heap.objs.size:=let⟨_,ho,_⟩:=hl;Heap.lt_size ho
 refine wpAny_pyIter_list hl (hQ _ [s.heap.objs.size,l] (fun i v=>vs[i]? =some v) (fun i h=>h.IsListIter s.heap.objs.size l i∧h.IsList l vs) ⟨?_,?_,rfl,?_,?_,?_,?_⟩ (fun⟨_,_,z⟩=>nomatch z))
 ·rw[←e]
  exact Walks.list hh _ l (Nat.ne_of_lt hlt) vs
 ·exact⟨⟨_,Heap.get?_push_size _ rfl,rfl,rfl⟩,hl.push _⟩
 ·intro b hb
  simp at hb
  rcases hb with rfl|rfl
  ·exact Nat.lt_succ_self _
  ·exact Nat.lt_succ_of_lt hlt
 ·intro i v _ hv
  exact rl.getV (by simpa using hv)
 ·intro b hb
  simp at hb
  rcases hb with rfl|rfl
  ·exact .inl rfl
  ·obtain⟨o,ho,_,n,hd⟩:=il
   exact .inr ⟨o,ho,_,n,hd⟩
 ·rintro i h' ⟨⟨o',ho',_,hd'⟩,_⟩
  exact⟨o',ho',by rintro⟨_,_,z⟩;rw[hd']at z;cases z⟩
theorem zLp (hh:A.handled=none) {s:Shared} {v:Value} {ds:List PyData} (r:Rd (hid X s.heap) (.tuple ds) v):IterIs prog w A X v s ds:=by
 intro Q E hQ
 obtain⟨l,vs,rfl,il,rl⟩:=r.tuple_inv
 have e:vs.size=ds.length:=by simpa using rl.length
 have hl:=IsTuple.le il
 have hlt:l<s.heap.objs.size:=let⟨_,ho,_⟩:=hl;Heap.lt_size ho
 refine wpAny_pyIter_tuple hl (hQ _ [s.heap.objs.size,l] (fun i v=>vs[i]? =some v) (fun i h=>h.IsTupleIter s.heap.objs.size l i∧h.IsTuple l vs) ⟨?_,?_,rfl,?_,?_,?_,?_⟩ (fun⟨_,_,z⟩=>nomatch z))
 ·rw[←e]
  exact Walks.tuple hh _ l (Nat.ne_of_lt hlt) vs
 ·exact⟨⟨_,Heap.get?_push_size _ rfl,rfl,rfl⟩,let⟨o,ho,r⟩:=hl;⟨o,Heap.get?_push_of_some _ ho,r⟩⟩
 ·intro b hb
  simp at hb
  rcases hb with rfl|rfl
  ·exact Nat.lt_succ_self _
  ·exact Nat.lt_succ_of_lt hlt
 ·intro i v _ hv
  exact rl.getV (by simpa using hv)
 ·intro b hb
  simp at hb
  rcases hb with rfl|rfl
  ·exact .inl rfl
  ·obtain⟨o,ho,_,n,hd⟩:=il
   exact .inr ⟨o,ho,_,n,hd⟩
 ·rintro i h' ⟨⟨o',ho',_,hd'⟩,_⟩
  exact⟨o',ho',by rintro⟨_,_,z⟩;rw[hd']at z;cases z⟩
noncomputable def signs (x:Str):List PyData:=x.cps.toList.map fun c=> .str ⟨#[c]⟩
theorem zQg (hh:A.handled=none) {s:Shared} {v:Value} {x:Str} (r:Rd (hid X s.heap) (.str x) v):IterIs prog w A X v s (signs x):=by
 intro Q E hQ
 obtain⟨t,rfl⟩:=r.str_inv
 have hl:(signs x).length=x.cps.size:=by simp[signs]
 have is:∀i v,i<(signs x).length→SignAt x i v→∃d,(signs x)[i]? =some d∧Rd (hid X s.heap) d v:=by
  rintro i v _ ⟨c,u,hc,rfl⟩
  exact⟨.str ⟨#[c]⟩,by simp[signs,hc],Rd.str _ _⟩
 have its:∀(T:String) (i:Nat) (h':Heap),h'.IsStrIter s.heap.objs.size T x t i→∃o,h'.get? s.heap.objs.size=some o∧¬IsSeq o:=by
  rintro T i h' ⟨o',ho',_,hd'⟩
  exact⟨o',ho',by rintro⟨_,_,z⟩;rw[hd']at z;cases z⟩
 cases ha:x.cps.all (· <128)
 ·refine wpAny_pyIter_wide ha (hQ _ [s.heap.objs.size] (SignAt x) (fun i h=>h.IsStrIter s.heap.objs.size "str_iterator" x t i) ⟨by rw[hl];exact Walks.strWide hh _ x t,⟨_,Heap.get?_push_size _ rfl,rfl,rfl⟩,rfl,by simp,is,by simp,its _⟩ (fun⟨_,_,z⟩=>nomatch z))
 ·refine wpAny_pyIter_ascii ha (hQ _ [s.heap.objs.size] (SignAt x) (fun i h=>h.IsStrIter s.heap.objs.size "str_ascii_iterator" x t i) ⟨by rw[hl];exact Walks.strAscii hh _ x t,⟨_,Heap.get?_push_size _ rfl,rfl,rfl⟩,rfl,by simp,is,by simp,its _⟩ (fun⟨_,_,z⟩=>nomatch z))
theorem zAx (hh:A.handled=none) {t:Sem Value} {ds:List PyData} (a:Ev prog w A X h t (.list ds)):Src prog w A X h t ds:=fun s Q E k kx hQ=>a s Q E k kx fun v h' tk k' r=>hQ v h' tk k' (zM9 hh r)
theorem zDz (hh:A.handled=none) {t:Sem Value} {ds:List PyData} (a:Ev prog w A X h t (.tuple ds)):Src prog w A X h t ds:=fun s Q E k kx hQ=>a s Q E k kx fun v h' tk k' r=>hQ v h' tk k' (zLp hh r)
theorem src_str (hh:A.handled=none) {t:Sem Value} {x:Str} (a:Ev prog w A X h t (.str x)):Src prog w A X h t (signs x):=fun s Q E k kx hQ=>a s Q E k kx fun v h' tk k' r=>hQ v h' tk k' (zQg hh r)
end
end M6
section M7
section
variable {prog:Program} {w:World} {A:Around} {X:List Addr} {h:Heap} {env:Env} {Γ:List (Str×Bd)}
noncomputable def EvP (prog:Program) (w:World) (A:Around) (X:List Addr) (h:Heap) (t:Sem Value) (P:Heap→Value→Prop):Prop:=
 ∀(s:Shared) (Q:Value→Shared→Prop) (E:Value→Shared→Prop),Ext h s.heap→XOk X s.heap→
  (∀v h' tk,Ext s.heap h'→P (hid X h') v→Q v (sat s h' tk))→wpAny (model prog w) A t Q E s
noncomputable def testsT (ifs:List Expr) (env:Env):Sem Bool:=forIn ifs true fun c r=>if r=true then do let ok←isTrue c env (eval c env);pure (ForInStep.yield ok)else pure (ForInStep.yield r)
theorem zBs:EvB prog w A X h (testsT [] env) true:=fun s _ _ _ _ hQ=>wpAny_tests_nil (hQ s.heap s.toks Ext.rfl)
theorem zBt {c:Expr} {b:Bool} (a:EvB prog w A X h (isTrue c env (eval c env)) b):EvB prog w A X h (testsT [c] env) b:=fun s _ _ k kx hQ=>wpAny_tests_one (a s _ _ k kx fun h' tk k'=>hQ h' tk k')
inductive Prs (F:PyData→Heap→Value→Prop) (h:Heap):List PyData→List Value→Prop
 |nil:Prs F h [] []
 |cons {d v ds vs}:F d h v→Prs F h ds vs→Prs F h (d::ds) (v::vs)
noncomputable def FMono (F:PyData→Heap→Value→Prop):Prop:=∀d h h' v,SExt h h'→F d h v→F d h' v
theorem Prs.mono {F:PyData→Heap→Value→Prop} (m:FMono F) {h h':Heap} (k:SExt h h') {ds:List PyData} {vs:List Value} (x:Prs F h ds vs):Prs F h' ds vs:=by
 induction x with
 |nil=>exact .nil
 |cons a _ ih=>exact .cons (m _ _ _ _ k a) ih
theorem Prs.snoc {F:PyData→Heap→Value→Prop} {h:Heap} {d:PyData} {v:Value} (e:F d h v) {ds:List PyData} {vs:List Value} (x:Prs F h ds vs):Prs F h (ds++[d]) (vs++[v]):=by
 induction x with
 |nil=>exact .cons e .nil
 |cons a _ ih=>exact .cons a ih
theorem Prs.length {F:PyData→Heap→Value→Prop} {h:Heap} {ds:List PyData} {vs:List Value} (x:Prs F h ds vs):vs.length=ds.length:=by
 induction x with
 |nil=>rfl
 |cons _ _ ih=>simp[ih]
theorem Prs.rds {f:PyData→PyData} {h:Heap} {ds:List PyData} {vs:List Value} (x:Prs (fun d h v=>Rd h (f d) v) h ds vs):Rds h (ds.map f) vs:=by
 induction x with
 |nil=>exact .nil
 |cons a _ ih=>exact .cons a ih
theorem zA5 {α:Type} {l:List α} {i:Nat} {v:α} (h:l[i]? =some v):l.take (i+1)=l.take i++[v]:=by
 obtain⟨hi,rfl⟩:=List.getElem?_eq_some_iff.mp h
 rw[List.take_add_one,List.getElem?_eq_getElem hi];rfl
theorem zO9 {X:List Addr} {D:Addr} {h:Heap}:Ext (hid (D::X) h) (hid X h):=fun b o e=>zAb (zAf _ h b o e) fun m=>zAh e (.tail _ m)
inductive CI (cenv:Env) (x:Str) (a D:Nat) (g:Heap) (X:List Addr) (ds:List PyData) (p:PyData→Bool) (F:PyData→Heap→Value→Prop) (St:Nat→Heap→Prop) (s:Shared):Nat→Shared→Prop
 |mk (h':Heap) (tk:Nat) (ys:Array Value) (i:Nat) (hi:i≤ds.length) (st:St i h') (acc:h'.PlainList D ys) (ht:Tgt h' cenv x a) (hn:∃m,h'.Ns cenv.locals m) (kg:Ext g h') (hF:Prs F (hid (g.objs.size::D::X) h') ((ds.take i).filter p) ys.toList):CI cenv x a D g X ds p F St s (ds.length+1 - i) (sat s h' tk)
theorem zN1 {elt iter:Expr} {x:Str} {px:Pos} {ifs:List Expr} {scope:Scope} {pos:Pos} {cenv:Env} {g:Heap} {I D a:Nat} {ds:List PyData} {o:Obj} {fp:List Addr} {P:Nat→Value→Prop} {St:Nat→Heap→Prop}
 {R:Result→Shared→Prop} {s:Shared} {Y:List Addr}
 (src:SrcAt prog w A Y g ds o fp P St) (p:PyData→Bool) (F:PyData→Heap→Value→Prop) (mF:FMono F) (hsz:ds.length≤sizeLine)
 (fn:cenv.scope.kind= .function) (hI:I=g.objs.size) (hD:D=g.objs.size+1) (hC: @Eq Nat cenv.locals (g.objs.size+2)) (ha: @Eq Nat a cenv.locals∨g.objs.size+3≤a)
 (kg:Ext g s.heap) (hst:St 0 s.heap) (hacc:s.heap.PlainList D #[]) (ht:Tgt s.heap cenv x a) (hn:∃m,s.heap.Ns cenv.locals m) (kx:XOk X g)
 (hel:∀h₂ d v,d∈ds→Ext g h₂→XOk (I::D::X) h₂→Sees h₂ cenv x v→Rd (hid Y g) d v→(∃m,h₂.Ns cenv.locals m)→Tgt h₂ cenv x a→
  EvB prog w A (I::D::X) h₂ (testsT ifs cenv) (p d)∧(p d=true→EvP prog w A (I::D::X) h₂ (eval elt cenv) (F d)))
 (hR:∀h' tk ys,Ext g h'→(∃m,h'.Ns cenv.locals m)→h'.PlainList D ys→Prs F (hid (I::D::X) h') (ds.filter p) ys.toList→R (.ok .next) (sat s h' tk)):
 codeAny (model prog w) A (.compLoop (.ListComp elt [⟨.Name x px,iter,ifs,0⟩] scope pos) 0 (.ref I) (.ref D) cenv) R s:=by
 have hDI:D≠I:=by omega
 have hCI: @Ne Nat cenv.locals I:=by omega
 have haI:a≠I:=by omega
 have hDa:D≠a:=by omega
 have hDC: @Ne Nat D cenv.locals:=by omega
 have outI:g.get? I=none:=Heap.get?_none_of_le (by omega)
 have outD:g.get? D=none:=Heap.get?_none_of_le (by omega)
 have outa:g.get? a=none:=Heap.get?_none_of_le (by omega)
 have notfp:∀b∈fp,b≠D∧b≠a∧b≠cenv.locals:=fun b hb=>by
  have h1: @LT.lt Nat _ b (g.objs.size+1):=src.there b hb
  have h2: @Ne Nat b D:=by omega
  have h3: @Ne Nat b a:=by omega
  have h4: @Ne Nat b cenv.locals:=by omega
  exact⟨h2,h3,h4⟩
 have keep:∀(b:Addr) {h h':Heap},(∀c o,c≠b→h.get? c=some o→h'.get? c=some o)→Ext g h→g.get? b=none→Ext g h':=fun b h h' k e n c o q=>k c o (by rintro rfl;rw[n]at q;cases q) (e c o q)
 subst hI
 refine codeAny_compLoop_tests (CI cenv x a D g X ds p F St s) ?_ (ds.length+1)
  (.mk s.heap s.toks #[] 0 (Nat.zero_le _) hst hacc ht hn kg (by simpa using Prs.nil))
 rintro n s' ⟨H,tk,ys,i,hi,hst',hacc',ht',hn',kg',hF⟩
 by_cases hlt:i<ds.length
 ·refine src.walks.item i _ _ _ hlt hst' fun v h₁ tk₁ hPv hst₁ hk₁=> ?_
  obtain⟨d,hd,rd⟩:=src.is i v hlt hPv
  have hdm:d∈ds:=List.mem_of_getElem? hd
  have hk₁':∀b o,b≠g.objs.size→H.get? b=some o→h₁.get? b=some o:=fun b o n e=>hk₁ b o (by simpa using n) e
  have kg₁:Ext g h₁:=keep _ hk₁' kg' outI
  have hacc₁:h₁.PlainList D ys:=hacc'.at fun o e=>hk₁' _ o hDI e
  have ht₁:Tgt h₁ cenv x a:=ht'.keep fun o e=>hk₁' _ o haI e
  have hn₁:∃m,h₁.Ns cenv.locals m:=let⟨m,n⟩:=hn';⟨m,n.at' fun o e=>hk₁' _ o hCI e⟩
  refine wpAny_assign_Name (zNg fn ht₁ fun h₂ tk₂ ht₂ sees sb=> ?_)
  have kg₂:Ext g h₂:=keep a (fun c o n e=>sb.extBut c o n e) kg₁ outa
  have hacc₂:h₂.PlainList D ys:=hacc₁.at fun o e=>sb.extBut D o hDa e
  have hn₂:∃m,h₂.Ns cenv.locals m:=by
   by_cases hac:a=cenv.locals
   ·rcases ht₂ with⟨_,_,m,n⟩|⟨k2,_,_⟩
    ·exact⟨m,hac▸n⟩
    ·exfalso
     obtain⟨m,o,es,ep,ho,hod,_⟩:=hn₁
     rcases ht₁ with⟨k1,_⟩|⟨_,_,v1,o1,ho1,hd1⟩
     ·rw[k1]at k2;cases k2
     ·rw[hac,ho]at ho1;cases ho1;rw[hod]at hd1;cases hd1
   ·obtain⟨m,n⟩:=hn₁
    exact⟨m,n.sameBut sb (Ne.symm hac)⟩
  have hst₂:St (i+1) h₂:=src.walks.frame _ _ _ hst₁ fun b hb o e=>sb.extBut b o (notfp b hb).2.1 e
  have kx₂:XOk (g.objs.size::D::X) h₂:=fun b hb=>by
   obtain⟨n,e⟩:=hacc₂
   rcases List.mem_cons.mp hb with rfl|hb
   ·obtain⟨o',e',_⟩:=src.it _ _ hst₂
    exact⟨o',e'⟩
   rcases List.mem_cons.mp hb with rfl|hb
   ·exact⟨_,e⟩
   ·exact(kx.ext kg₂) b hb
  have hF₂:Prs F (hid (g.objs.size::D::X) h₂) ((ds.take i).filter p) ys.toList:=by
   refine hF.mono mF (zC0 fun b o hb e q=> ?_)
   have hb':b≠g.objs.size:=fun z=>hb (z▸List.mem_cons_self)
   refine sb.extBut b o ?_ (hk₁' b o hb' e)
   rintro rfl
   obtain⟨o',e',q'⟩:=ht'.there
   rw[e]at e';cases e'
   exact q' q
  obtain⟨htests,helt⟩:=hel h₂ d v hdm kg₂ kx₂ sees rd hn₂ ht₂
  refine htests _ _ _ Ext.rfl kx₂ fun h₃ tk₃ k₃=> ?_
  have hst₃:St (i+1) h₃:=src.walks.frame _ _ _ hst₂ fun b _ o e=>k₃ b o e
  have hacc₃:h₃.PlainList D ys:=hacc₂.at fun o e=>k₃ _ o e
  have ht₃:Tgt h₃ cenv x a:=ht₂.keep fun o e=>k₃ _ o e
  have hn₃:∃m,h₃.Ns cenv.locals m:=let⟨m,n⟩:=hn₂;⟨m,n.keeps k₃⟩
  have hF₃:=hF₂.mono mF (zAl k₃).s
  cases hp:p d with
  |false=>
   simp only[Bool.false_eq_true,if_false]
   refine⟨ds.length+1 - (i+1),by omega, .mk h₃ tk₃ ys (i+1) hlt hst₃ hacc₃ ht₃ hn₃ (kg₂.trans k₃) ?_⟩
   rw[zA5 hd,List.filter_append]
   simpa[hp]using hF₃
  |true=>
   simp only[if_true]
   refine helt hp _ _ _ k₃ (kx₂.ext k₃) fun y h₄ tk₄ k₄ Fy=> ?_
   have hys:ys.size≤sizeLine:=by
    have e1:=hF.length
    have e2:((ds.take i).filter p).length≤(ds.take i).length:=List.length_filter_le _ _
    have e3:(ds.take i).length≤ds.length:=by rw[List.length_take];omega
    have e4:ys.toList.length=ys.size:=by simp
    omega
   refine wpAny_list_append_plain (hsz:=hys) (hacc₃.at fun o e=>k₄ _ o e) fun h₅ hl₅ sb₅=> ?_
   have kg₄:Ext g h₄:=kg₂.trans (k₃.trans k₄)
   have s₅:SExt (hid (g.objs.size::D::X) h₄) (hid (g.objs.size::D::X) h₅):=zC0 fun b o hb e _=>sb₅.extBut b o (fun z=>hb (z▸List.mem_cons_of_mem _ List.mem_cons_self)) e
   refine⟨ds.length+1 - (i+1),by omega, .mk h₅ tk₄ (ys.push y) (i+1) hlt ?_ hl₅ ?_ ?_ ?_ ?_⟩
   ·exact src.walks.frame _ _ _ hst₃ fun b hb o e=>sb₅.extBut b o (notfp b hb).1 (k₄ b o e)
   ·exact ht₃.keep fun o e=>sb₅.extBut _ o (Ne.symm hDa) (k₄ _ o e)
   ·obtain⟨m,n⟩:=hn₃
    exact⟨m,(n.keeps k₄).sameBut sb₅ (Ne.symm hDC)⟩
   ·exact keep D (fun c o n e=>sb₅.extBut c o n e) kg₄ outD
   ·rw[zA5 hd,List.filter_append,Array.toList_push]
    simp only[List.filter_cons,hp,if_true,List.filter_nil]
    exact Prs.snoc (mF _ _ _ _ s₅ Fy) ((hF₃.mono mF (zAl k₄).s).mono mF s₅)
 ·have hin:i=ds.length:=by omega
  subst hin
  refine src.walks.done _ _ _ hst' fun h₁ tk₁ hk₁=> ?_
  have hk₁':∀b o,b≠g.objs.size→H.get? b=some o→h₁.get? b=some o:=fun b o n e=>hk₁ b o (by simpa using n) e
  refine hR h₁ tk₁ ys (keep _ hk₁' kg' outI) (let⟨m,n⟩:=hn';⟨m,n.at' fun o e=>hk₁' _ o hCI e⟩) (hacc'.at fun o e=>hk₁' _ o hDI e) ?_
  rw[List.take_length]at hF
  exact hF.mono mF (zC0 fun b o hb e _=>hk₁' b o (fun z=>hb (z▸List.mem_cons_self)) e)
end
end M7
section M8
noncomputable def cfgOk (scope:Scope) (x:Str):Bool:=
 scope.kind== .function&&(scope.names.all fun y=>(y.2 != .local||scope.names.lookup y.1==some .local)&&(y.2 != .cell||(y.1==x&&scope.names.lookup y.1==some .cell)))&&
  (scope.names.lookup x==some .local||scope.names.lookup x==some .cell)
structure Cfg (scope:Scope) (x:Str):Prop where
 kind:scope.kind= .function
 loc:∀y∈scope.names,y.2= .local→scope.names.lookup y.1=some .local
 only:∀y∈scope.names,y.2= .cell→y.1=x
 cel:∀y∈scope.names,y.2= .cell→scope.names.lookup y.1=some .cell
 tgt:scope.names.lookup x=some .local∨scope.names.lookup x=some .cell
theorem Cfg.of {scope:Scope} {x:Str} (h:cfgOk scope x=true):Cfg scope x:=by
 simp only[cfgOk,Bool.and_eq_true,Bool.or_eq_true,beq_iff_eq,List.all_eq_true,bne_iff_ne,ne_eq]at h
 obtain⟨⟨hk,ha⟩,ht⟩:=h
 exact⟨hk,fun y hy e=>(ha y hy).1.resolve_left (fun n=>n e),fun y hy e=>((ha y hy).2.resolve_left (fun n=>n e)).1,fun y hy e=>((ha y hy).2.resolve_left (fun n=>n e)).2,ht⟩
theorem zA7 {env:Env}:∀{names:List (Str×NameKind)} {x:Str},names.lookup x=some .cell→
 (names.map fun(n,k)=>if(k==NameKind.free&&env.scope.kind== .function&&env.kindOf n==some .cell)then(n,NameKind.cell)else(n,k)).lookup x=some .cell
 | [],_,h=>by simp at h
 |(n,k)::r,x,h=>by
  have ih:= @zA7 env r x
  show List.lookup x ((if(k==NameKind.free&&env.scope.kind== .function&&env.kindOf n==some .cell)=true then(n,NameKind.cell)else(n,k))::_)=_
  cases hx:x==n with
  |true=>
   simp only[List.lookup_cons,hx]at h
   cases h
   simp[List.lookup_cons,hx]
  |false=>
   simp only[List.lookup_cons,hx]at h
   by_cases hc:(k==NameKind.free&&env.scope.kind== .function&&env.kindOf n==some .cell)=true
   ·rw[if_pos hc];simp only[List.lookup_cons,hx];exact ih h
   ·rw[if_neg hc];simp only[List.lookup_cons,hx];exact ih h
theorem zAw:∀(names:List (Str×NameKind)) (n:Nat) (a b:List (Str×Addr)),cellsFrom n names (a++b)=cellsFrom n names a++b
 | [],_,_,_=>rfl
 |(y,k)::r,n,a,b=>by
  unfold cellsFrom
  split
  ·exact zAw r (n+1) ((y,n)::a) b
  ·exact zAw r n a b
theorem zBk:∀(names:List (Str×NameKind)) (n:Nat) (acc:List (Str×Addr)) (y:Str) (c:Addr),(y,c)∈cellsFrom n names acc→(y,c)∈acc∨((y,NameKind.cell)∈names∧ @LE.le Nat _ n c)
 | [],_,_,_,_,h=> .inl h
 |(z,k)::r,n,acc,y,c,h=>by
  unfold cellsFrom at h
  split at h
  ·rename_i hk
   rcases zBk r _ _ y c h with q|⟨q,l⟩
   ·rcases List.mem_cons.mp q with q|q
    ·cases q
     exact .inr ⟨by rw[←(show k= .cell by simpa using hk)];exact List.mem_cons_self,Nat.le_refl _⟩
    ·exact .inl q
   ·exact .inr ⟨List.mem_cons_of_mem _ q,Nat.le_of_succ_le l⟩
  ·rcases zBk r _ _ y c h with q|⟨q,l⟩
   ·exact .inl q
   ·exact .inr ⟨List.mem_cons_of_mem _ q,l⟩
theorem zC5:∀(names:List (Str×NameKind)) (n:Nat) (acc:List (Str×Addr)) (x:Str),(∀y∈names,y.2= .cell→y.1=x)→(∀y∈acc,y.1=x)→∀y∈cellsFrom n names acc,y.1=x
 | [],_,_,_,_,ha,y,hy=>ha y hy
 |(z,k)::r,n,acc,x,hn,ha,y,hy=>by
  unfold cellsFrom at hy
  split at hy
  ·rename_i hk
   refine zC5 r _ _ x (fun y hy=>hn y (List.mem_cons_of_mem _ hy)) (fun y hy=> ?_) y hy
   rcases List.mem_cons.mp hy with rfl|hy
   ·exact hn (z,k) List.mem_cons_self (by simpa using hk)
   ·exact ha y hy
  ·exact zC5 r _ _ x (fun y hy=>hn y (List.mem_cons_of_mem _ hy)) ha y hy
noncomputable def FreeIn (scope:Scope) (env:Env) (y:Str):Prop:=
 (env.kindOf y=some .cell∨env.kindOf y=some .free)∧∃c,env.cells.lookup y=some c∧∀C,(cEnv scope C env).cells.lookup y=some c∧((cEnv scope C env).kindOf y=some .cell∨(cEnv scope C env).kindOf y=some .free)
noncomputable def pickG (Γ:List (Str×Bd)):List Str→List (Str×Bd)
 | []=>[]
 |y::r=>match Γ.lookup y with
  |some b=>(y,b)::pickG Γ r
  |none=>pickG Γ r
theorem zCa {Γ:List (Str×Bd)}:∀(names:List Str) (y:Str) (b:Bd),(pickG Γ names).lookup y=some b→y∈names∧Γ.lookup y=some b
 | [],_,_,e=>by simp[pickG]at e
 |z::r,y,b,e=>by
  unfold pickG at e
  split at e
  ·rename_i b' hb
   rw[List.lookup_cons]at e
   cases hy:y==z with
   |true=>
    rw[hy]at e
    have:y=z:=by simpa using hy
    subst this
    cases e
    exact⟨List.mem_cons_self,hb⟩
   |false=>
    rw[hy]at e
    have:=zCa r y b e
    exact⟨List.mem_cons_of_mem _ this.1,this.2⟩
  ·have:=zCa r y b e
   exact⟨List.mem_cons_of_mem _ this.1,this.2⟩
section
variable {prog:Program} {w:World} {A:Around} {X:List Addr} {h:Heap} {env:Env} {Γ:List (Str×Bd)}
theorem cenv_is {scope:Scope} {x:Str} {names:List Str} {g h₂:Heap} {C:Nat} {v:Value} {d:PyData} {Z:List Addr} (c:Cfg scope x) (hf:freeOk scope env=true) (I:EnvIs X g env Γ) (hC:g.objs.size≤C) (hfree:∀y∈names,FreeIn scope env y)
 (k:Ext g h₂) (hZ:∀b∈Z,g.objs.size≤b∨b∈X) (hn:∃m,h₂.Ns C m) (sees:Sees h₂ (cEnv scope C env) x v) (rd:BdIs (hid Z h₂) (.d d) v) (ht:∀a,(cEnv scope C env).cells.lookup x=some a→(C+1≤a→∃v,h₂.IsCell a v)):
 EnvIs Z h₂ (cEnv scope C env) ((x, .d d)::pickG Γ names):=by
 have cells:∀n a,(cEnv scope C env).cells.lookup n=some a→(n=x∧ @LE.le Nat _ (C+1) a∧∃v,h₂.IsCell a v)∨env.cells.lookup n=some a:=by
  intro n a e
  have e0:=e
  have e':(cellsFrom (C+1) scope.names []++closCells env scope.names []).lookup n=some a:=by
   rw[←zAw];exact e
  rw[List.lookup_append]at e'
  cases q:(cellsFrom (C+1) scope.names []).lookup n with
  |some a'=>
   rw[q]at e';cases e'
   have hm:=mem_of_lookup q
   have hx:n=x:=zC5 scope.names _ [] x c.only (fun _ m=>nomatch m) _ hm
   rcases zBk _ _ _ _ _ hm with m|⟨_,l⟩
   ·cases m
   ·subst hx;exact .inl ⟨rfl,l,ht _ e0 l⟩
  |none=>
   rw[q]at e'
   rcases zA4 scope.names [] hf n a e' with m|m
   ·simp at m
   ·exact .inr m
 have old:∀n a,env.cells.lookup n=some a→ @LT.lt Nat _ a g.objs.size:=fun n a e=>let⟨_,q⟩:=I.cell n a e;q.lt
 refine⟨?_,hn,?_,?_,?_⟩
 ·exact c.kind
 ·intro n a e
  rcases cells n a e with⟨_,_,q⟩|q
  ·exact q
  ·obtain⟨u,r⟩:=I.cell n a q
   exact⟨u,r.keeps k⟩
 ·intro n n' a e e'
  rcases cells n a e with⟨q1,q2,_⟩|q<;>rcases cells n' a e' with⟨r1,r2,_⟩|r
  ·exact q1.trans r1.symm
  ·have:=old _ _ r
   exact absurd q2 (by omega)
  ·have:=old _ _ q
   exact absurd r2 (by omega)
  ·exact I.inj _ _ _ q r
 ·intro y b e
  rw[List.lookup_cons]at e
  cases hy:y==x with
  |true=>
   rw[hy]at e
   cases e
   have:y=x:=by simpa using hy
   subst this
   exact⟨v,sees,rd⟩
  |false=>
   rw[hy]at e
   obtain⟨hm,hb⟩:=zCa names y b e
   obtain⟨hk,a,ha,hC'⟩:=hfree y hm
   obtain⟨hc',hk'⟩:=hC' C
   obtain⟨u,su,ru⟩:=I.see y b hb
   refine⟨u, .inr ⟨hk',a,hc',?_⟩,ru.mono ?_⟩
   ·rcases su with⟨q,_⟩|⟨_,a',ha',q⟩
    ·rcases hk with hk|hk<;>rw[hk]at q<;>cases q
    ·rw[ha]at ha';cases ha'
     exact q.keeps k
   ·intro b0 o e0 _
    have e1:=zAf _ _ _ _ e0
    refine zAb (k _ _ e1) fun m=> ?_
    rcases hZ b0 m with l|l
    ·exact absurd (Nat.lt_of_lt_of_le (Heap.lt_size e1) l) (Nat.lt_irrefl _)
    ·exact zAh e0 l
theorem zHb {elt iter:Expr} {x:Str} {px:Pos} {ifs:List Expr} {scope:Scope} {pos:Pos} {ds:List PyData} {names:List Str} {xv:Value} {s:Shared} {E E':Value→Shared→Prop} {RR:Value→Addr→Result→Shared→Prop}
 (c:Cfg scope x) (hf:freeOk scope env=true) (I:EnvIs X s.heap env Γ) (hfree:∀y∈names,FreeIn scope env y) (src:IterIs prog w A X xv s ds) (p:PyData→Bool) (F:PyData→Heap→Value→Prop) (mF:FMono F)
 (hsz:ds.length≤sizeLine) (kx:XOk X s.heap)
 (hel:∀C X' h₂ d,d∈ds→Ext s.heap h₂→XOk X' h₂→EnvIs X' h₂ (cEnv scope C env) ((x, .d d)::pickG Γ names)→
  EvB prog w A X' h₂ (testsT ifs (cEnv scope C env)) (p d)∧(p d=true→EvP prog w A X' h₂ (eval elt (cEnv scope C env)) (F d)))
 (hR:∀D C h' tk ys,Ext s.heap h'→s.heap.objs.size≤D→D≠C→s.heap.objs.size≤C→(∃m,h'.Ns C m)→h'.PlainList D ys→Prs F (hid (s.heap.objs.size::D::X) h') (ds.filter p) ys.toList→RR (.ref D) C (.ok .next) (sat s h' tk)):
 wpAny (model prog w) A (pyIter xv) (fun it s₂=>wpAny (model prog w) A (newList []) (fun acc s₃=>
  wpAny (model prog w) A (newFunctionEnv scope env.globals (closCells env scope.names []) [] env.qual none .none (some env)) (fun cenv s₄=>
   codeAny (model prog w) A (.compStart (.ListComp elt [⟨.Name x px,iter,ifs,0⟩] scope pos) 0 it acc {cenv with scope:=relabel scope env}) (RR acc cenv.locals) s₄) E s₃) E s₂) E' s:=by
 refine src _ _ fun o fp P St S ns=> ?_
 refine wpAny_newObj_type ?_ (by show([]:List Value).toArray.size≤sizeLine;exact Nat.zero_le _)
 refine zFd ?_
 dsimp only
 generalize hg2:(s.heap.push o).push {cls:= .type "list",data:= .seq ([]:List Value).toArray}=g2
 have z1: @Eq Nat (s.heap.push o).objs.size (s.heap.objs.size+1):=Heap.size_push ..
 have z2: @Eq Nat g2.objs.size (s.heap.objs.size+2):=by rw[←hg2,Heap.size_push,z1]
 generalize hg4:pushCells (g2.push {cls:= .type "dict",data:= .dict #[]}) scope.names=g4
 have kp:∀b o,(g2.push {cls:= .type "dict",data:= .dict #[]}).get? b=some o→g4.get? b=some o:=fun b o e=>hg4▸pushCells_keeps scope.names _ b o e
 have kg:Ext s.heap g4:=fun b o' e=>kp _ _ (Heap.get?_push_of_some _ (hg2▸Heap.get?_push_of_some _ (Heap.get?_push_of_some _ e)))
 have kI:Ext (s.heap.push o) g4:=fun b o' e=>kp _ _ (Heap.get?_push_of_some _ (hg2▸Heap.get?_push_of_some _ e))
 have eenv:({newEnv scope g2.objs.size env.globals (cellsFrom (g2.objs.size+1) scope.names (closCells env scope.names [])) env.qual none .none (some env) builtinsNs with scope:=relabel scope env}:Env)=cEnv scope g2.objs.size env:=rfl
 rw[eenv]
 have hacc:g4.PlainList (s.heap.push o).objs.size #[]:=⟨0,kp _ _ (Heap.get?_push_of_some _ (hg2▸Heap.get?_push_size _ rfl))⟩
 have hn:∃m,g4.Ns g2.objs.size m:=⟨_,(Heap.Ns.new g2 (.type "dict")).keeps kp⟩
 have hst:St 0 g4:=S.walks.frame _ _ _ S.start fun b _ o' e=>kI b o' e
 have ok:=cellsFrom_ok scope.names (g2.push {cls:= .type "dict",data:= .dict #[]}) (g2.objs.size+1) [] ⟨fun _ _ hm=>(nomatch hm),List.Pairwise.nil⟩ (by rw[Heap.size_push];exact Nat.le_refl _)
 rw[Heap.size_push,hg4]at ok
 have tgt:∃a,Tgt g4 (cEnv scope g2.objs.size env) x a∧(@Eq Nat a g2.objs.size∨g2.objs.size+1≤a):=by
  rcases c.tgt with e|e
  ·exact⟨g2.objs.size, .inl ⟨lookup_relabel_local e,rfl,hn⟩, .inl rfl⟩
  ·obtain⟨a,ha⟩:=Option.isSome_iff_exists.mp (cellsFrom_some scope.names (g2.objs.size+1) [] (.inl e))
   have q:=ok.empty x a (mem_of_lookup ha)
   refine⟨a, .inr ⟨zA7 e,?_,_,q.1⟩, .inr q.2⟩
   show(cellsFrom (g2.objs.size+1) scope.names ([]++closCells env scope.names [])).lookup x=some a
   rw[zAw,List.lookup_append,ha];rfl
 obtain⟨a,ht,ha⟩:=tgt
 have loop:codeAny (model prog w) A (.compLoop (.ListComp elt [⟨.Name x px,iter,ifs,0⟩] scope pos) 0 (.ref s.heap.objs.size) (.ref (s.heap.push o).objs.size) (cEnv scope g2.objs.size env)) (RR (.ref (s.heap.push o).objs.size) g2.objs.size)
  {heap:=g4,gens:=s.gens,drawn:=s.drawn,toks:=s.toks,os:=s.os}:=by
  refine zN1 (g:=s.heap) (a:=a) (X:=X) S p F mF hsz c.kind rfl z1 (show @Eq Nat g2.objs.size _ from z2) (ha.imp id fun l=>by omega) kg hst hacc ht hn kx ?_ ?_
  ·intro h₂ d v hd k₂ kx₂ sees rd hn₂ ht₂
   refine hel g2.objs.size _ h₂ d hd k₂ kx₂ (cenv_is c hf I (by omega) hfree k₂ (fun b hb=> ?_) hn₂ sees ?_ ?_)
   ·rcases List.mem_cons.mp hb with rfl|hb
    ·exact .inl (Nat.le_refl _)
    rcases List.mem_cons.mp hb with rfl|hb
    ·exact .inl (by show @LE.le Nat _ _ _;omega)
    ·exact .inr hb
   ·refine Rd.mono rd fun b0 o0 e0 _=> ?_
    have e1:=zAf _ _ _ _ e0
    have l1:=Heap.lt_size e1
    refine zAb (k₂ _ _ e1) fun m=> ?_
    rcases List.mem_cons.mp m with rfl|m
    ·exact absurd l1 (by show¬ @LT.lt Nat _ _ _;omega)
    rcases List.mem_cons.mp m with rfl|m
    ·exact absurd l1 (by show¬ @LT.lt Nat _ _ _;omega)
    ·exact zAh e0 m
   ·intro a' e' l'
    rcases ht₂ with⟨q,_⟩|⟨_,q,r⟩
    ·exfalso
     have e2:(cellsFrom (g2.objs.size+1) scope.names []++closCells env scope.names []).lookup x=some a':=by rw[←zAw];exact e'
     rw[List.lookup_append]at e2
     cases qq:(cellsFrom (g2.objs.size+1) scope.names []).lookup x with
     |some a3=>
      rcases zBk _ _ _ _ _ (mem_of_lookup qq)with m|⟨m,_⟩
      ·cases m
      ·rcases c.tgt with e|e
       ·have:=c.cel _ m rfl
        rw[show scope.names.lookup x=some .local from e]at this
        cases this
       ·have:=zA7 (env:=env) e
        rw[show(cEnv scope g2.objs.size env).kindOf x=some .cell from this]at q
        cases q
     |none=>
      rw[qq]at e2
      rcases zA4 scope.names [] hf x a' e2 with m|m
      ·simp at m
      ·obtain⟨_,r⟩:=I.cell _ _ m
       have r': @LT.lt Nat _ a' s.heap.objs.size:=r.lt
       have l'': @LE.le Nat _ (g2.objs.size+1) a':=l'
       omega
    ·rw[q]at e';cases e';exact r
  ·intro h' tk ys k' hn' hl hp
   exact hR _ _ h' tk ys k' (by omega) (by show @Ne Nat _ _;omega) (by omega) hn' hl hp
 refine codeAny_compStart_list loop (S.walks.self 0 _ _ _ hst loop)
end
end M8
section M9
section
variable {prog:Program} {w:World} {A:Around} {X:List Addr} {h:Heap} {env:Env} {Γ:List (Str×Bd)}
theorem zLi {elt iter:Expr} {x:Str} {px:Pos} {ifs:List Expr} {scope:Scope} {pos:Pos} {ds:List PyData} (names:List Str)
 (I:EnvIs X h env Γ) (src:Src prog w A X h (eval iter env) ds) (p:PyData→Bool) (F:PyData→Heap→Value→Prop) (mF:FMono F)
 (hel:∀C X' h₂ d,d∈ds→Ext h h₂→XOk X' h₂→EnvIs X' h₂ (cEnv scope C env) ((x, .d d)::pickG Γ names)→
  EvB prog w A X' h₂ (testsT ifs (cEnv scope C env)) (p d)∧(p d=true→EvP prog w A X' h₂ (eval elt (cEnv scope C env)) (F d)))
 (hsz:ds.length≤sizeLine) (c:cfgOk scope x=true) (hf:freeOk scope env=true) (hfree:∀y∈names,FreeIn scope env y)
 (hs:autoParam (∀v,foldedSetIterable iter env v=pure v) aS):
 EvP prog w A X h (eval (.ListComp elt [⟨.Name x px,iter,ifs,0⟩] scope pos) env) (fun h' v=>∃D ys,v= .ref D∧h'.PlainList D ys∧Prs F h' (ds.filter p) ys.toList):=by
 intro s Q E k kx hQ
 have cf:=Cfg.of c
 rw[eval_ListComp]
 refine wpAny_comprehension_free (use:=none) rfl hs (zAv hf) cf.kind cf.loc (src s _ _ k kx fun v h' tk k' it=> ?_)
 refine zHb (RR:=fun acc C=>compPost (model prog w) A E none Q acc C) cf hf (I.mono (k.trans k')) hfree it p F mF hsz (kx.ext k') (fun C X' h₂ d hd k₂=>hel C X' h₂ d hd ((k.trans k').trans k₂)) ?_
 intro D C h₂ tk₂ ys k₂ hD hDC hC hn hl hp
 obtain⟨m,hn⟩:=hn
 refine⟨m,hn,fun h₃ sb=>hQ (.ref D) h₃ tk₂ (fun b o e=> ?_) ⟨D,ys,rfl,?_,?_⟩⟩
 ·exact sb.extBut b o (by rintro rfl;exact Nat.lt_irrefl _ (Nat.lt_of_lt_of_le (Heap.lt_size (k' _ _ e)) hC)) (k₂ _ _ (k' _ _ e))
 ·obtain⟨n,e⟩:=hl.extBut sb.extBut hDC
  exact⟨n,zAb e fun m=>Nat.lt_irrefl _ (Nat.lt_of_lt_of_le ((kx.ext k').lt m) hD)⟩
 ·refine hp.mono mF fun b o e q=> ?_
  have e':=zAf _ _ _ _ e
  refine zAb (sb.extBut b o ?_ e') fun m=>zAh e (.tail _ (.tail _ m))
  rintro rfl
  obtain⟨o',es,ep,ho,hd,_⟩:=hn
  rw[ho]at e';cases e'
  obtain⟨_,_,z⟩:=q
  rw[hd]at z;cases z
theorem zLa (f:PyData→PyData):FMono (fun d h v=>Rd h (f d) v):=fun _ _ _ _ k r=>r.mono k
theorem zCr {elt iter:Expr} {x:Str} {px:Pos} {ifs:List Expr} {scope:Scope} {pos:Pos} {ds:List PyData} (names:List Str)
 (I:EnvIs X h env Γ) (src:Src prog w A X h (eval iter env) ds) (p:PyData→Bool) (f:PyData→PyData)
 (hel:∀C X' h₂ d,d∈ds→Ext h h₂→EnvIs X' h₂ (cEnv scope C env) ((x, .d d)::pickG Γ names)→
  EvB prog w A X' h₂ (testsT ifs (cEnv scope C env)) (p d)∧(p d=true→Ev prog w A X' h₂ (eval elt (cEnv scope C env)) (f d)))
 (hsz:ds.length≤sizeLine) (c:cfgOk scope x=true) (hf:freeOk scope env=true) (hfree:∀y∈names,FreeIn scope env y)
 (hs:autoParam (∀v,foldedSetIterable iter env v=pure v) aS):
 Ev prog w A X h (eval (.ListComp elt [⟨.Name x px,iter,ifs,0⟩] scope pos) env) (.list ((ds.filter p).map f)):=by
 intro s Q E k kx hQ
 refine zLi names I src p (fun d h v=>Rd h (f d) v) (zLa f) (fun C X' h₂ d hd k₂ _ I'=>⟨(hel C X' h₂ d hd k₂ I').1,fun hp=>(hel C X' h₂ d hd k₂ I').2 hp⟩) hsz c hf hfree hs s Q E k kx fun v h' tk k' ⟨D,ys,e,hl,hp⟩=> ?_
 subst e
 exact hQ _ h' tk k' (Rd.list hl.isList hp.rds)
theorem zIp {elt iter:Expr} {x y:Str} {px py:Pos} {ifs:List Expr} {scope:Scope} {pos spos:Pos} {ds:List PyData} (names:List Str) {s:Shared} {Q:Flow→Shared→Prop} {E:Value→Shared→Prop}
 (I:EnvIs X s.heap env Γ) (kx:XOk X s.heap) (src:Src prog w A X s.heap (eval iter env) ds) (p:PyData→Bool) (F:PyData→Heap→Value→Prop) (mF:FMono F)
 (hel:∀C X' h₂ d,d∈ds→Ext s.heap h₂→XOk X' h₂→EnvIs X' h₂ (cEnv scope C env) ((x, .d d)::pickG Γ names)→
  EvB prog w A X' h₂ (testsT ifs (cEnv scope C env)) (p d)∧(p d=true→EvP prog w A X' h₂ (eval elt (cEnv scope C env)) (F d)))
 (hsz:ds.length≤sizeLine) (c:cfgOk scope x=true) (hf:freeOk scope env=true) (hfree:∀y∈names,FreeIn scope env y)
 (hy:env.kindOf y=some .local)
 (hQ:∀h' tk D ys m,(∀b o,b≠env.locals→s.heap.get? b=some o→h'.get? b=some o)→s.heap.Ns env.locals m→h'.Ns env.locals (fun z=>if z=y then some (.ref D)else m z)→
  (hid X h').PlainList D ys→Prs F (hid X h') (ds.filter p) ys.toList→Q .next (sat s h' tk))
 (hsw:autoParam (swapsWith (.ListComp elt [⟨.Name x px,iter,ifs,0⟩] scope pos) (some (.Name y py)) spos.line env=pure true) aR)
 (hs:autoParam (∀v,foldedSetIterable iter env v=pure v) aS):
 wpAny (model prog w) A (exec (.Assign [.Name y py] (.ListComp elt [⟨.Name x px,iter,ifs,0⟩] scope pos) spos) env) Q E s:=by
 have cf:=Cfg.of c
 rw[exec_Assign_Name_used _ _ _ _ hsw]
 refine wpAny_bind (wpAny_standAt (wpAny_bind ?_))
 show wpAny _ A (do let _←comprehension (.ListComp elt [⟨.Name x px,iter,ifs,0⟩] scope pos) scope env _ (newList []) false (eval iter env) (some (assign (.Name y py) env))) _ _ s
 refine wpAny_bind (wpAny_mono (wpAny_comprehension_free (use:=some (assign (.Name y py) env)) (Q:=fun _ s'=>Q .next s') rfl hs (zAv hf) cf.kind cf.loc
  (src s _ _ Ext.rfl kx fun v h' tk k' it=> ?_)) (fun _ s' hq=>wpAny_pure (wpAny_pure hq)) fun _ _ e=>e)
 refine zHb (RR:=fun acc C=>compPost (model prog w) A E (some (assign (.Name y py) env)) (fun _ s'=>Q .next s') acc C) cf hf (I.mono k') hfree it p F mF hsz (kx.ext k') (fun C X' h₂ d hd k₂=>hel C X' h₂ d hd (k'.trans k₂)) ?_
 intro D C h₂ tk₂ ys k₂ hD hDC hC hn hl hp
 obtain⟨mC,hn⟩:=hn
 obtain⟨m,hm⟩:=I.ns
 have hm₂:=(hm.keeps k').keeps k₂
 have hLsize: @LT.lt Nat _ env.locals h'.objs.size:=(hm.keeps k').lt
 have hLC:env.locals≠C:=by rintro rfl;exact Nat.lt_irrefl _ (Nat.lt_of_lt_of_le hLsize hC)
 have hLD:env.locals≠D:=by rintro rfl;exact Nat.lt_irrefl _ (Nat.lt_of_lt_of_le hLsize hD)
 show wpAny _ A (assign (.Name y py) env (.ref D)) _ _ _
 refine wpAny_assign_Name (wpAny_storeName_local hy hm₂ (fun h₃ hn₃ hs₃=> ?_) (by rw[I.fn];rfl))
 refine⟨mC,hn.sameBut hs₃ (Ne.symm hLC),fun h₄ hs₄=> ?_⟩
 have keep:∀b o,b≠C→b≠env.locals→h₂.get? b=some o→h₄.get? b=some o:=fun b o n1 n2 e=>hs₄.extBut b o n1 (hs₃.extBut b o n2 e)
 refine hQ h₄ _ D ys m (fun b o hb e=> ?_) hm (hn₃.sameBut hs₄ hLC) ?_ ?_
 ·have e':=k' _ _ e
  exact keep b o (by rintro rfl;exact Nat.lt_irrefl _ (Nat.lt_of_lt_of_le (Heap.lt_size e') hC)) hb (k₂ _ _ e')
 ·obtain⟨n,e⟩:=hl
  exact⟨n,zAb (keep _ _ hDC (Ne.symm hLD) e) fun q=>Nat.lt_irrefl _ (Nat.lt_of_lt_of_le ((kx.ext k').lt q) hD)⟩
 ·refine hp.mono mF fun b o e q=> ?_
  have e':=zAf _ _ _ _ e
  refine zAb (keep b o ?_ ?_ e') fun m=>zAh e (.tail _ (.tail _ m))
  ·rintro rfl
   obtain⟨o',es,ep,ho,hd,_⟩:=hn
   rw[ho]at e';cases e'
   obtain⟨_,_,z⟩:=q
   rw[hd]at z;cases z
  ·rintro rfl
   obtain⟨o',es,ep,ho,hd,_⟩:=hm₂
   rw[show h₂.get? env.locals=some o' from ho]at e';cases e'
   obtain⟨_,_,z⟩:=q
   rw[hd]at z;cases z
end
section
variable {prog:Program} {w:World} {A:Around} {X:List Addr} {h h':Heap} {env:Env} {Γ:List (Str×Bd)}
noncomputable def But (L:Addr) (h h':Heap):Prop:=∀b o,b≠L→h.get? b=some o→h'.get? b=some o
theorem But.sext {L:Addr} {m:Str→Option Value} (k:But L h h') (n:h.Ns L m):SExt (hid X h) (hid X h'):=zC0 fun b o _ e q=>k b o (by
 rintro rfl
 obtain⟨o',es,ep,ho,hd,_⟩:=n
 rw[ho]at e;cases e
 obtain⟨_,_,z⟩:=q
 rw[hd]at z;cases z) e
theorem EnvIs.upd {m:Str→Option Value} {y:Str} {b:Bd} {v:Value} (I:EnvIs X h env Γ) (k:But env.locals h h') (n:h.Ns env.locals m) (n':h'.Ns env.locals (fun z=>if z=y then some v else m z)) (hy:env.kindOf y=some .local)
 (r:BdIs (hid X h') b v):EnvIs X h' env ((y,b)::Γ) where
 fn:=I.fn
 ns:=⟨_,n'⟩
 cell:=fun z c e=>by
  obtain⟨u,o,ho,hd⟩:=I.cell z c e
  refine⟨u,o,k c o ?_ ho,hd⟩
  rintro rfl
  obtain⟨o',es,ep,ho',hd',_⟩:=n
  rw[ho]at ho';cases ho'
  rw[hd]at hd';cases hd'
 inj:=I.inj
 see:=fun z b' e=>by
  rw[List.lookup_cons]at e
  cases hz:z==y with
  |true=>
   rw[hz]at e
   have:z=y:=by simpa using hz
   subst this
   cases e
   exact⟨v, .inl ⟨hy,_,n',by simp⟩,r⟩
  |false=>
   rw[hz]at e
   have hne:z≠y:=by simpa using hz
   obtain⟨u,su,ru⟩:=I.see z b' e
   refine⟨u,?_,ru.mono (k.sext n)⟩
   rcases su with⟨q,m',nm,em⟩|⟨q,c,ec,o,ho,hd⟩
   ·refine .inl ⟨q,_,n',?_⟩
    rw[Ns_unique nm n]at em
    simpa[hne]using em
   ·refine .inr ⟨q,c,ec,o,k c o ?_ ho,hd⟩
    rintro rfl
    obtain⟨o',es,ep,ho',hd',_⟩:=n
    rw[ho]at ho';cases ho'
    rw[hd]at hd';cases hd'
theorem XOk.but {L:Addr} {m m':Str→Option Value} (x:XOk X h) (k:But L h h') (_n:h.Ns L m) (n':h'.Ns L m'):XOk X h':=fun a ma=>by
 obtain⟨o,e⟩:=x a ma
 by_cases hy:a=L
 ·subst hy
  obtain⟨o',_,_,ho,_⟩:=n'
  exact⟨_,ho⟩
 ·exact⟨o,k a o hy e⟩
theorem zF6 {M:Model} {E:Value→Shared→Prop} {s:Shared} {y:Str} {v:Value} {b:Bd} {Q:Unit→Shared→Prop} (I:EnvIs X s.heap env Γ) (hy:env.kindOf y=some .local) (r:BdIs (hid X s.heap) b v)
 (hQ:∀h' tk,But env.locals s.heap h'→EnvIs X h' env ((y,b)::Γ)→(∃m,h'.Ns env.locals m)→Q () (sat s h' tk)):wpAny M A (storeName env y v) Q E s:=by
 obtain⟨m,n⟩:=I.ns
 refine wpAny_storeName_local hy n (fun h' n' sb=> ?_) (by rw[I.fn];rfl)
 have k:But env.locals s.heap h':=fun b o hb e=>sb.extBut b o hb e
 exact hQ h' _ k (I.upd k n n' hy (r.mono (k.sext n))) ⟨_,n'⟩
end
end M9
section M10
structure Room (A:Around) (n:Nat):Prop where
 hand:A.handled=none
 depth:A.depth+n<recursionLimit
 units:A.units+16 * n+64<cLine
theorem Room.deeper {A:Around} {n:Nat} (r:Room A (n+1)) (env:Env):Room (A.deeper env) n:=
 ⟨r.hand,by have:=r.depth;show A.depth+1+n<_;omega,by have:=r.units;show A.units+3+16 * n+64<_;omega⟩
theorem Room.le {A:Around} {n m:Nat} (r:Room A n) (h:m≤n):Room A m:=⟨r.hand,by have:=r.depth;omega,by have:=r.units;omega⟩
theorem Room.lay {A:Around} {n:Nat} (r:Room A n) {d:PyData} (h:d.canLay0=true) (hd:d.depth≤40):Lay A d:=⟨h,by have:=r.units;omega⟩
noncomputable def Rel (M:List Addr) (env:Env) (h h':Heap):Prop:=
 ∀b o,b∉M→b≠env.locals→(∀n,env.kindOf n=some .cell→env.cells.lookup n≠some b)→h.get? b=some o→h'.get? b=some o
theorem Rel.rfl {X:List Addr} {env:Env} {h:Heap}:Rel X env h h:=fun _ _ _ _ _ e=>e
theorem Rel.trans {X:List Addr} {env:Env} {a b c:Heap} (x:Rel X env a b) (y:Rel X env b c):Rel X env a c:=fun p o h1 h2 h3 e=>y p o h1 h2 h3 (x p o h1 h2 h3 e)
theorem Ext.rel {X:List Addr} {env:Env} {h h':Heap} (x:Ext h h'):Rel X env h h':=fun _ _ _ _ _ e=>x _ _ e
structure Fn (g:Heap) (X M:List Addr) (h:Heap) (env:Env) (Γ:List (Str×Bd)):Prop where
 is:EnvIs X h env Γ
 kg:Ext g h
 outL:g.get? env.locals=none
 outC:∀n c,env.kindOf n=some .cell→env.cells.lookup n=some c→g.get? c=none
 outM:∀b∈M,g.get? b=none
 sub:∀b∈M,b∈X
 kx:XOk X h
theorem zD2 {kindOf:Str→Option NameKind}:∀(binds:List (Str×Value)) (m:Str→Option Value) (y:Str) (v:Value),(binds.map (·.1)).Nodup→(y,v)∈binds→
 (kindOf y=some .local→bindL kindOf binds m y=some v)∧(kindOf y≠some .local→bindC kindOf binds m y=some v)
 | [],_,_,_,_,h=>nomatch h
 |(z,u)::r,m,y,v,hn,hm=>by
  have hn':=List.nodup_cons.mp hn
  rcases List.mem_cons.mp hm with e|hm
  ·obtain⟨e1,e2⟩:=Prod.mk.inj e
   subst e1;subst e2
   have keepL:∀(r:List (Str×Value)) (m:Str→Option Value),y∉r.map (·.1)→bindL kindOf r m y=m y:=by
    intro r
    induction r with
    |nil=>intro m _;rfl
    |cons p r ih=>
     intro m h
     obtain⟨q,u'⟩:=p
     simp only[List.map_cons,List.mem_cons,not_or]at h
     show bindL kindOf r (if kindOf q=some .local then fun z=>if z=q then some u' else m z else m) y=m y
     rw[ih _ h.2]
     split
     ·simp[h.1]
     ·rfl
   have keepC:∀(r:List (Str×Value)) (m:Str→Option Value),y∉r.map (·.1)→bindC kindOf r m y=m y:=by
    intro r
    induction r with
    |nil=>intro m _;rfl
    |cons p r ih=>
     intro m h
     obtain⟨q,u'⟩:=p
     simp only[List.map_cons,List.mem_cons,not_or]at h
     show bindC kindOf r (if kindOf q=some .local then m else fun z=>if z=q then some u' else m z) y=m y
     rw[ih _ h.2]
     split
     ·rfl
     ·simp[h.1]
   constructor
   ·intro hk
    show bindL kindOf r (if kindOf y=some .local then fun z=>if z=y then some v else m z else m) y=some v
    rw[keepL r _ hn'.1,if_pos hk];simp
   ·intro hk
    show bindC kindOf r (if kindOf y=some .local then m else fun z=>if z=y then some v else m z) y=some v
    rw[keepC r _ hn'.1,if_neg hk];simp
  ·exact⟨(zD2 (kindOf:=kindOf) r (if kindOf z=some .local then fun x=>if x=z then some u else m x else m) y v hn'.2 hm).1,
    (zD2 (kindOf:=kindOf) r (if kindOf z=some .local then m else fun x=>if x=z then some u else m x) y v hn'.2 hm).2⟩
theorem zOt {h:Heap}:∀{ps:List Str} {ds:List PyData} {vs:List Value} {y:Str} {b:Bd},Rds h ds vs→(ps.zip (ds.map Bd.d)).lookup y=some b→∃v,(y,v)∈ps.zip vs∧BdIs h b v
 | [],_,_,_,_,_,e=>by simp at e
 |p::ps,_,_,y,b, .nil,e=>by simp at e
 |p::ps,_,_,y,b, .cons (d:=d) (v:=v) a r,e=>by
  simp only[List.map_cons,List.zip_cons_cons,List.lookup_cons]at e
  cases hy:y==p with
  |true=>
   rw[hy]at e
   cases e
   have:y=p:=by simpa using hy
   subst this
   exact⟨v,by simp,a⟩
  |false=>
   rw[hy]at e
   obtain⟨u,hu,q⟩:=zOt r e
   exact⟨u,by simp[hu],q⟩
section
variable {prog:Program} {w:World} {A:Around} {X:List Addr} {h:Heap} {env:Env} {Γ:List (Str×Bd)}
theorem zCp {name qual:Str} {params:Arguments} {body:List Stmt} {scope:Scope} {dV kV doc pm cdv ct:Value} {an:Option Addr} {L a:Addr} (hk:scope.kind= .function):
 GEnv (callEnvC (fnOf name qual params body scope dV kV doc pm an cdv ct) L a):=⟨hk,rfl,rfl⟩
theorem zCb {K:Frag} {f:Addr} {name qual:Str} {params:Arguments} {body:List Stmt} {scope:Scope} {dV kV doc pm cdv ct oc:Value} {an od:Option Addr} {osl:Array (Option Value)} {ps:List Str} {ds:List PyData} {vs:List Value} {s:Shared} {Q:Value→Shared→Prop} {E:Value→Shared→Prop} {n:Nat}
 (S:Stat K s.heap) (ho:K.lookup f=some ⟨oc,od, .func (fnOf name qual params body scope dV kV doc pm an cdv ct),osl⟩) (hcd:codeIn K cdv qual=true) (rm:Room A (n+1)) (kx:XOk X s.heap) (r:Rds (hid X s.heap) ds vs)
 (hbind:bindArgs (fnOf name qual params body scope dV kV doc pm an cdv ct) ⟨vs,[]⟩=pure (ps.zip vs)) (hl:ps.length=ds.length) (hnd:ps.Nodup)
 (hkind:(ps.all fun y=>scope.names.lookup y==some .local||scope.names.lookup y==some .cell)=true)
 (h:∀h₁ tk,Fn s.heap X [] h₁ (callEnvC (fnOf name qual params body scope dV kV doc pm an cdv ct) s.heap.objs.size f) (ps.zip (ds.map .d))→
  GEnv (callEnvC (fnOf name qual params body scope dV kV doc pm an cdv ct) s.heap.objs.size f)→∀E',wpAny (model prog w) (A.deeper (callEnvC (fnOf name qual params body scope dV kV doc pm an cdv ct) s.heap.objs.size f)) (execs body (callEnvC (fnOf name qual params body scope dV kV doc pm an cdv ct) s.heap.objs.size f))
   (fun fl s'=>Q (match fl with| .ret v=>v|_=> .none) s') E' (sat s h₁ tk))
 (hco:scope.isCoroutine=false) (hgen:scope.isGenerator=false) (hk:scope.kind= .function):
 wpAny (model prog w) A (call (.ref f) vs) Q E s:=by
 have hlen:=r.length
 have hpz:(ps.zip vs).map (·.1)=ps:=by rw[List.map_fst_zip];omega
 refine wpAny_call (codeAny_call_cells (fd:=fnOf name qual params body scope dV kV doc pm an cdv ct) (body:=body) (binds:=ps.zip vs) (by have:=rm.depth;omega) (S.k _ _ ho) rfl S.nolimit (codeRec_of S.k hcd) rfl hbind rfl ?_ ?_ hco hgen hk)
 ·intro y hy
  have hm:y.1∈ps:=hpz▸List.mem_map_of_mem hy
  have:=List.all_eq_true.mp hkind y.1 hm
  rcases Bool.or_eq_true_iff.mp this with q|q
  ·exact .inl (by simpa using q)
  ·have q':scope.names.lookup y.1=some .cell:=by simpa using q
   exact .inr ⟨q',cellsFrom_some _ _ _ (.inl q')⟩
 ·intro s₁ x
  obtain⟨h₁,tk,rfl,k₁⟩:=x.done
  refine h h₁ tk ⟨⟨hk,⟨_,x.toInCall.ns⟩,fun n c e=>⟨_,x.cell n c e⟩,fun n n' c e e'=>name_of_addr x.apart (mem_of_lookup e) (mem_of_lookup e'),?_⟩,k₁,?_,?_,(fun _ m=>nomatch m),(fun _ m=>nomatch m),kx.ext k₁⟩ (zCp hk) _
  ·intro y b e
   obtain⟨v,hv,rv⟩:=zOt r e
   have hb:=zD2 (kindOf:=(callEnvC (fnOf name qual params body scope dV kV doc pm an cdv ct) s.heap.objs.size f).kindOf) (ps.zip vs) (fun _=>none) y v (by rw[hpz];exact hnd) hv
   refine⟨v,?_,rv.mono (zAl k₁).s⟩
   have hm:y∈ps:=hpz▸List.mem_map_of_mem (f:=(·.1)) hv
   have:=List.all_eq_true.mp hkind y hm
   rcases Bool.or_eq_true_iff.mp this with q|q
   ·have q':scope.names.lookup y=some .local:=by simpa using q
    exact .inl ⟨q',_,x.toInCall.ns,hb.1 q'⟩
   ·have q':scope.names.lookup y=some .cell:=by simpa using q
    obtain⟨c,hc⟩:=Option.isSome_iff_exists.mp (cellsFrom_some scope.names (s.heap.objs.size+1) [] (.inl q'))
    refine .inr ⟨.inl q',c,hc,?_⟩
    have:=x.cell y c hc
    rw[hb.2 (by rw[show(callEnvC (fnOf name qual params body scope dV kV doc pm an cdv ct) s.heap.objs.size f).kindOf y=some .cell from q'];decide)]at this
    exact this
  ·exact Heap.get?_none_of_le (Nat.le_refl _)
  ·intro n c _ e
   have:=x.above n c (mem_of_lookup e)
   exact Heap.get?_none_of_le (Nat.le_of_lt this)
end
end M10
section M11
section
variable {prog:Program} {w:World} {A:Around} {X M:List Addr} {g h h':Heap} {env:Env} {Γ:List (Str×Bd)}
theorem EnvIs.own {b:Addr} {o:Obj} (I:EnvIs X h env Γ) (e:h.get? b=some o) (q:IsSeq o):b≠env.locals∧∀n,env.cells.lookup n≠some b:=by
 constructor
 ·rintro rfl
  obtain⟨m,o',es,ep,ho,hd,_⟩:=I.ns
  rw[e]at ho;cases ho
  obtain⟨_,_,z⟩:=q
  rw[hd]at z;cases z
 ·intro n hn
  obtain⟨u,o',ho,hd⟩:=I.cell n b hn
  rw[e]at ho;cases ho
  obtain⟨_,_,z⟩:=q
  rw[hd]at z;cases z
theorem Rel.seq {M':List Addr} (I:EnvIs X h env Γ) (R:Rel M' env h h') {b:Addr} {o:Obj} (n:b∉M') (e:h.get? b=some o) (q:IsSeq o):h'.get? b=some o:=
 R b o n (I.own e q).1 (fun z _=>(I.own e q).2 z) e
theorem Rel.hid {M':List Addr} (I:EnvIs X h env Γ) (R:Rel M' env h h') (sub:∀b∈M',b∈X):SExt (hid X h) (hid X h'):=
 zC0 fun _ _ n e q=>R.seq I (fun m=>n (sub _ m)) e q
theorem Fn.ext (F:Fn g X M h env Γ) (k:Ext h h'):Fn g X M h' env Γ:=⟨F.is.mono k,F.kg.trans k,F.outL,F.outC,F.outM,F.sub,F.kx.ext k⟩
theorem Rel.ext {M':List Addr} (R:Rel M' env h h') (F:Fn g X M h env Γ) (sub:∀b∈M',b∈M):Ext g h':=fun b o e=>by
 refine R b o (fun m=> ?_) ?_ ?_ (F.kg _ _ e)
 ·have:=F.outM b (sub b m);rw[e]at this;cases this
 ·rintro rfl;have:=F.outL;rw[e]at this;cases this
 ·intro n hk hn;have:=F.outC n b hk hn;rw[e]at this;cases this
theorem Rel.le {M' M'':List Addr} (R:Rel M' env h h') (sub:∀b∈M',b∈M''):Rel M'' env h h':=fun b o n=>R b o fun m=>n (sub b m)
theorem zAp {α:Type} {l:List α}:∀b∈([]:List α),b∈l:=fun _ m=>nomatch m
noncomputable def Stores (env:Env) (y:Str):Prop:=env.kindOf y=some .local∨(env.kindOf y=some .cell∧∃c,env.cells.lookup y=some c)
theorem zAn {MM:Model} {E:Value→Shared→Prop} {s:Shared} {y:Str} {v:Value} {b:Bd} {Q:Unit→Shared→Prop} (F:Fn g X M s.heap env Γ) (hy:Stores env y) (r:BdIs (hid X s.heap) b v)
 (hQ:∀h' tk,Fn g X M h' env ((y,b)::Γ)→Rel [] env s.heap h'→Q () (sat s h' tk)):wpAny MM A (storeName env y v) Q E s:=by
 rcases hy with hy|⟨hy,c,hc⟩
 ·refine zF6 F.is hy r fun h' tk k I' n'=> ?_
  have R:Rel [] env s.heap h':=fun b o _ n _ e=>k b o n e
  obtain⟨m,n⟩:=F.is.ns
  obtain⟨m',n'⟩:=n'
  exact hQ h' tk ⟨I',R.ext F zAp,F.outL,F.outC,F.outM,F.sub,F.kx.but k n n'⟩ R
 ·obtain⟨u,hu⟩:=F.is.cell y c hc
  refine wpAny_storeName_cell F.is.fn hy hc hu fun h' hv' sb=> ?_
  have R:Rel [] env s.heap h':=fun b o _ _ n e=>sb.extBut b o (fun z=>n y hy (z▸hc)) e
  have hL:env.locals≠c:=by
   rintro q
   obtain⟨m,o,es,ep,ho,hd,_⟩:=F.is.ns
   obtain⟨o',ho',hd'⟩:=hu
   rw[←q,ho]at ho';cases ho'
   rw[hd]at hd';cases hd'
  have S:=R.hid F.is (X:=X) zAp
  refine hQ h' s.toks ⟨⟨F.is.fn,?_,?_,F.is.inj,?_⟩,R.ext F zAp,F.outL,F.outC,F.outM,F.sub,?_⟩ R
  ·obtain⟨m,n⟩:=F.is.ns
   exact⟨m,n.sameBut sb hL⟩
  ·intro z c' e
   by_cases hcc:c'=c
   ·subst hcc;exact⟨_,hv'⟩
   ·obtain⟨u',q⟩:=F.is.cell z c' e
    exact⟨u',q.sameBut sb hcc⟩
  ·intro z b' e
   rw[List.lookup_cons]at e
   cases hz:z==y with
   |true=>
    rw[hz]at e
    have:z=y:=by simpa using hz
    subst this
    cases e
    exact⟨v, .inr ⟨.inl hy,c,hc,hv'⟩,r.mono S⟩
   |false=>
    rw[hz]at e
    have hne:z≠y:=by simpa using hz
    obtain⟨u',su,ru⟩:=F.is.see z b' e
    refine⟨u',?_,ru.mono S⟩
    rcases su with⟨q,m',nm,em⟩|⟨q,c',ec,hq⟩
    ·exact .inl ⟨q,m',nm.sameBut sb hL,em⟩
    ·refine .inr ⟨q,c',ec,hq.sameBut sb ?_⟩
     rintro rfl
     exact hne (F.is.inj _ _ _ ec hc)
  ·intro a ma
   obtain⟨o,e⟩:=F.kx a ma
   by_cases hcc:a=c
   ·subst hcc
    obtain⟨o',ho',_⟩:=hv'
    exact⟨_,ho'⟩
   ·exact⟨o,sb.extBut a o hcc e⟩
variable {s:Shared} {E:Value→Shared→Prop} {Q:Flow→Shared→Prop}
theorem zAi {y:Str} {py pos:Pos} {e:Expr} {d:PyData} (F:Fn g X M s.heap env Γ) (a:Ev prog w A X s.heap (eval e env) d) (hy:Stores env y)
 (hQ:∀h' tk,Fn g X M h' env ((y, .d d)::Γ)→Rel [] env s.heap h'→Q .next (sat s h' tk))
 (hs:autoParam (swapsWith e (some (.Name y py)) pos.line env=pure false) aR):wpAny (model prog w) A (exec (.Assign [.Name y py] e pos) env) Q E s:=by
 refine wpAny_Assign_Name (a s _ _ Ext.rfl F.kx fun v h₁ tk₁ k₁ r₁=> ?_) hs
 exact zAn (F.ext k₁) hy (b:= .d d) r₁ fun h' tk F' R'=>hQ h' tk F' ((k₁.rel).trans R')
theorem zCo {y:Str} {py pos:Pos} {e:Expr} {u:Value} (F:Fn g X M s.heap env Γ) (a:EvV prog w A s.heap (eval e env) u) (hy:Stores env y)
 (hQ:∀h' tk,Fn g X M h' env ((y, .v u)::Γ)→Rel [] env s.heap h'→Q .next (sat s h' tk))
 (hs:autoParam (swapsWith e (some (.Name y py)) pos.line env=pure false) aR):wpAny (model prog w) A (exec (.Assign [.Name y py] e pos) env) Q E s:=by
 refine wpAny_Assign_Name (a s _ _ Ext.rfl fun h₁ tk₁ k₁=> ?_) hs
 exact zAn (F.ext k₁) hy (b:= .v u) rfl fun h' tk F' R'=>hQ h' tk F' ((k₁.rel).trans R')
theorem zBo {elt iter:Expr} {x y:Str} {px py:Pos} {ifs:List Expr} {scope:Scope} {pos spos:Pos} {ds:List PyData} (names:List Str)
 (F:Fn g X M s.heap env Γ) (src:Src prog w A X s.heap (eval iter env) ds) (p:PyData→Bool) (f:PyData→PyData)
 (hel:∀C X' h₂ d,d∈ds→Ext s.heap h₂→EnvIs X' h₂ (cEnv scope C env) ((x, .d d)::pickG Γ names)→
  EvB prog w A X' h₂ (testsT ifs (cEnv scope C env)) (p d)∧(p d=true→Ev prog w A X' h₂ (eval elt (cEnv scope C env)) (f d)))
 (hsz:ds.length≤sizeLine) (c:cfgOk scope x=true) (hf:freeOk scope env=true) (hfree:∀y∈names,FreeIn scope env y)
 (hy:env.kindOf y=some .local)
 (hQ:∀h' tk,Fn g X M h' env ((y, .d (.list ((ds.filter p).map f)))::Γ)→Rel [] env s.heap h'→Q .next (sat s h' tk))
 (hsw:autoParam (swapsWith (.ListComp elt [⟨.Name x px,iter,ifs,0⟩] scope pos) (some (.Name y py)) spos.line env=pure true) aR)
 (hs:autoParam (∀v,foldedSetIterable iter env v=pure v) aS):
 wpAny (model prog w) A (exec (.Assign [.Name y py] (.ListComp elt [⟨.Name x px,iter,ifs,0⟩] scope pos) spos) env) Q E s:=by
 refine zIp names F.is F.kx src p (fun d h v=>Rd h (f d) v) (zLa f) (fun C X' h₂ d hd k₂ _ I'=>hel C X' h₂ d hd k₂ I') hsz c hf hfree hy (fun h' tk D ys m k n n' hl hp=> ?_) hsw hs
 have k':But env.locals s.heap h':=k
 have R:Rel [] env s.heap h':=fun b o _ n _ e=>k b o n e
 exact hQ h' tk ⟨F.is.upd k' n n' hy (Rd.list hl.isList hp.rds),R.ext F zAp,F.outL,F.outC,F.outM,F.sub,F.kx.but k' n n'⟩ R
theorem zBj {t:Expr} {a b:List Stmt} {pos:Pos} {c:Bool} (F:Fn g X M s.heap env Γ) (ht:EvB prog w A X s.heap (isTrue t env (eval t env)) c)
 (hQ:∀h' tk,Ext s.heap h'→Fn g X M h' env Γ→(c=true→wpAny (model prog w) A (execs a env) Q E (sat s h' tk))∧(c=false→wpAny (model prog w) A (execs b env) Q E (sat s h' tk))):
 wpAny (model prog w) A (exec (.If t a b pos) env) Q E s:=by
 refine wpAny_If (ht s _ _ Ext.rfl F.kx fun h₁ tk₁ k₁=> ?_)
 cases c with
 |true=>exact(hQ h₁ tk₁ k₁ (F.ext k₁)).1 rfl
 |false=>exact(hQ h₁ tk₁ k₁ (F.ext k₁)).2 rfl
theorem zAz {e:Expr} {pos:Pos} {d:PyData} (F:Fn g X M s.heap env Γ) (a:Ev prog w A X s.heap (eval e env) d)
 (hQ:∀v h' tk,Fn g X M h' env Γ→Ext s.heap h'→Rd (hid X h') d v→Q (.ret v) (sat s h' tk)):wpAny (model prog w) A (exec (.Return (some e) pos) env) Q E s:=
 wpAny_Return_some (a s _ _ Ext.rfl F.kx fun v h₁ tk₁ k₁ r₁=>hQ v h₁ tk₁ (F.ext k₁) k₁ r₁)
theorem zAa {st:Stmt} {rest:List Stmt} (h:wpAny (model prog w) A (exec st env) (fun f s'=>match f with| .next=>wpAny (model prog w) A (execs rest env) Q E s'|f=>Q f s') E s):
 wpAny (model prog w) A (execs (st::rest) env) Q E s:=wpAny_execs_cons h
theorem opqQ {α:Type} {M:Model} {A:Around} {t:Sem α} {Q:α→Shared→Prop} {E:Value→Shared→Prop} {s:Shared} (f:∀T:α→Shared→Prop,(∀a b,Q a b→T a b)→wpAny M A t T E s):wpAny M A t Q E s:=f Q fun _ _ h=>h
theorem opqE {α:Type} {M:Model} {A:Around} {t:Sem α} {Q:α→Shared→Prop} {E:Value→Shared→Prop} {s:Shared} (f:∀T:Value→Shared→Prop,(∀a b,E a b→T a b)→wpAny M A t Q T s):wpAny M A t Q E s:=f E fun _ _ h=>h
noncomputable def OwnList (X:List Addr) (h:Heap) (D:Addr) (ds:List PyData):Prop:=∃ys,h.PlainList D ys∧Rds (hid X h) ds ys.toList
theorem OwnList.keep {D:Addr} {ds:List PyData} {M':List Addr} (x:OwnList X h D ds) (I:EnvIs X h env Γ) (R:Rel M' env h h') (n:D∉M') (sub:∀b∈M',b∈X):OwnList X h' D ds:=by
 obtain⟨ys,⟨k,e⟩,r⟩:=x
 exact⟨ys,⟨k,R.seq I n e ⟨_,_,rfl⟩⟩,r.mono (R.hid I sub)⟩
theorem OwnList.ext {D:Addr} {ds:List PyData} (x:OwnList X h D ds) (k:Ext h h'):OwnList X h' D ds:=by
 obtain⟨ys,⟨n,e⟩,r⟩:=x
 exact⟨ys,⟨n,k _ _ e⟩,r.mono (zAl k).s⟩
theorem zD0 {x:Str} {px apos cpos epos:Pos} {e:Expr} {d:PyData} {D:Addr} {ds:List PyData} (F:Fn g X M s.heap env Γ) (hx:Γ.lookup x=some (.v (.ref D))) (hD:D∈M) (L:OwnList X s.heap D ds)
 (a:Ev prog w A X s.heap (eval e env) d) (hsz:ds.length≤sizeLine)
 (hQ:∀h' tk,Fn g X M h' env Γ→Rel [D] env s.heap h'→OwnList X h' D (ds++[d])→Q .next (sat s h' tk))
 (hd1:autoParam ((x==("__debug__":Str))=false) aD) (hd2:autoParam ((x==("__classdict__":Str))=false) aD)
 (hi:autoParam (interactive env=false) aR) (hs:autoParam (swapsWith (.Call (.Attribute (.Name x px) "append" apos) [e] [] cpos) none epos.line env=pure false) aR)
 (hbase:autoParam (attributeBase (.Name x px) "append" env (eval (.Name x px) env)=eval (.Name x px) env) aR) (hst:autoParam (starEach [e] env=[(false,eval e env)]) aR) (hline:autoParam ((apos.endLine==cpos.line)=true) aR):
 wpAny (model prog w) A (exec (.Expr (.Call (.Attribute (.Name x px) "append" apos) [e] [] cpos) epos) env) Q E s:=by
 refine wpAny_Expr ?_ hi hs
 refine wpAny_Call_append hbase (by rw[hst];rfl) hline (by rw[hst];rfl) ?_
 refine zAm (prog:=prog) (w:=w) (A:=A) F.is hx hd1 hd2 s _ _ Ext.rfl fun h₁ tk₁ k₁=> ?_
 obtain⟨ys,pl,rs⟩:=L
 have pl₁:h₁.PlainList D ys:=pl.at fun o e=>k₁ _ _ e
 refine⟨D,ys,rfl,?_,a _ _ _ k₁ (F.kx.ext k₁) fun v h₂ tk₂ k₂ r₂=> ?_⟩
 ·obtain⟨n,e⟩:=pl₁
  exact⟨_,n,e,rfl,rfl,rfl⟩
 have pl₂:h₂.PlainList D ys:=pl₁.at fun o e=>k₂ _ _ e
 have len:ys.size=ds.length:=by simpa using rs.length
 refine wpAny_list_append_plain (hsz:=by omega) pl₂ fun h₃ pl₃ sb=> ?_
 have F₂:=F.ext (k₁.trans k₂)
 have R:Rel [D] env h₂ h₃:=fun b o n _ _ e=>sb.extBut b o (by simpa using n) e
 have sub:∀b∈[D],b∈M:=fun b m=>by simp at m;exact m▸hD
 have own:=F₂.is
 have DL:D≠env.locals:=by
  obtain⟨n,e⟩:=pl₂
  exact(own.own e ⟨_,_,rfl⟩).1
 have Dc:∀n,env.cells.lookup n≠some D:=by
  obtain⟨n,e⟩:=pl₂
  exact(own.own e ⟨_,_,rfl⟩).2
 have S:=R.hid own (fun b m=>F.sub b (sub b m))
 have F₃:Fn g X M h₃ env Γ:=by
  refine⟨⟨own.fn,?_,?_,own.inj,?_⟩,R.ext F₂ sub,F.outL,F.outC,F.outM,F.sub,?_⟩
  ·obtain⟨m,n⟩:=own.ns
   exact⟨m,n.sameBut sb (Ne.symm DL)⟩
  ·intro n c e
   obtain⟨u,q⟩:=own.cell n c e
   exact⟨u,q.sameBut sb fun z=>Dc n (z▸e)⟩
  ·intro z b e
   obtain⟨u,su,ru⟩:=own.see z b e
   refine⟨u,?_,ru.mono S⟩
   rcases su with⟨q,m,n,em⟩|⟨q,c,ec,hc⟩
   ·exact .inl ⟨q,m,n.sameBut sb (Ne.symm DL),em⟩
   ·exact .inr ⟨q,c,ec,hc.sameBut sb fun z=>Dc _ (z▸ec)⟩
  ·intro a ma
   obtain⟨o,e⟩:=F₂.kx a ma
   by_cases hy:a=D
   ·subst hy
    obtain⟨n,e'⟩:=pl₃
    exact⟨_,e'⟩
   ·exact⟨o,sb.extBut a o hy e⟩
 refine hQ h₃ tk₂ F₃ (((k₁.trans k₂).rel).trans R) ⟨_,pl₃,?_⟩
 rw[Array.toList_push]
 exact(rs.mono ((zAl (k₁.trans k₂)).s.trans S)).append (.cons (r₂.mono S) .nil)
end
end M11
section M12
section
variable {prog:Program} {w:World} {A:Around} {X M:List Addr} {g h h':Heap} {env:Env} {Γ:List (Str×Bd)}
noncomputable def upto (n:Nat):List PyData:=(List.range n).map fun(i:Nat)=>PyData.int (i:Int)
theorem zHa (n:Nat):Builtin.Range.rangeSize 0 n 1=(n:Int):=by
 unfold Builtin.Range.rangeSize
 rw[if_pos (by decide)]
 by_cases h:(0:Int)<n
 ·rw[if_pos h];simp
 ·rw[if_neg h];omega
theorem zKh (n:Nat) (h:n≤1000000):Builtin.Range.small 0 n 1=true:=by
 unfold Builtin.Range.small
 rw[zHa]
 have f:∀i:Int,0≤i→i≤1000001→Builtin.Range.rangeFitsLong i=true:=by
  intro i h1 h2
  unfold Builtin.Range.rangeFitsLong
  simp only[Bool.and_eq_true,decide_eq_true_eq]
  omega
 rewrite[f 0 (by omega) (by omega),f n (by omega) (by omega),f 1 (by omega) (by omega)]
 simp[f n (by omega) (by omega)]
theorem zL4 (hh:A.handled=none) {s:Shared} {r:Addr} {n:Nat} {t u v:Tok} (hr:IsRange s.heap r 0 n 1 t u v) (hn:n≤1000000):IterIs prog w A X (.ref r) s (upto n):=by
 intro Q E hQ
 refine wpAny_pyIter_range hr (zKh n hn) ?_
 rw[zHa]
 have e1:(upto n).length=n:=by simp[upto]
 refine hQ _ [s.heap.objs.size] (fun i v=>∃t,v= .int (0+i * 1) t) (fun i h=>IsRangeIter h s.heap.objs.size (0+(i:Nat) * 1) ((n:Int) - (i:Nat)) 1) ⟨by rw[e1];exact Walks.range hh _ 0 1 n,?_,rfl,by simp,?_,by simp,?_⟩ (fun⟨_,_,z⟩=>nomatch z)
 ·have:=Heap.get?_push_size s.heap (o:={cls:= .type "range_iterator",data:= .fields #[rawInt 0,rawInt (n:Int),rawInt 1]}) rfl
  simpa using this
 ·rintro i v hi ⟨t',rfl⟩
  rw[e1]at hi
  refine⟨PyData.int (i:Int),by simp[upto,hi],?_⟩
  have:(0+(i:Int) * 1)=i:=by omega
  rw[this]
  exact Rd.int _ _
 ·intro i h' hr
  exact⟨_,hr,by rintro⟨_,_,z⟩;cases z⟩
theorem zC8 (hh:A.handled=none) {f:Str} {np pos:Pos} {e:Expr} {n:Nat} (hf:EvV prog w A h (eval (.Name f np) env) (.type "range")) (a:Ev prog w A X h (eval e env) (.int n)) (hn:n≤1000000)
 (he:autoParam (starEach [e] env=(false,eval e env)::starEach [] env) aR):Src prog w A X h (eval (.Call (.Name f np) [e] [] pos) env) (upto n):=by
 intro s Q E k kx hQ
 refine wpAny_Call_ofName (hf s _ _ k fun h₁ tk₁ k₁=> ?_)
 refine callWith_type1 (wpAny_items_cons (a _ _ _ (k.trans k₁) (kx.ext k₁) fun v h₂ tk₂ k₂ r₂=>wpAny_items_nil ?_) he) he rfl
 obtain⟨t,rfl⟩:=r₂.int_inv
 exact call_range_1 (hQ _ _ _ ((k₁.trans k₂).trans (Ext.push _ _)) (zL4 hh (Heap.get?_push_size _ rfl) hn))
end
end M12
section M13
section
variable {prog:Program} {w:World} {A:Around} {X M:List Addr} {g h h':Heap} {env:Env} {Γ:List (Str×Bd)}
variable {o e:Expr} {apos pos:Pos} {x y:Str}
theorem zDb (B:Nat):∀(ys:List Str),(∀y∈ys,y.length≤B)→(ys.map (·.length)).sum≤ys.length * B
 | [],_=>by simp
 |y::ys,h=>by
  have h1:=h y List.mem_cons_self
  have h2:=zDb B ys fun z hz=>h z (List.mem_cons_of_mem _ hz)
  simp only[List.map_cons,List.sum_cons,List.length_cons]
  rw[Nat.add_mul];omega
theorem zJm {ys:List Str} (hx:x.length≤10) (hn:ys.length≤10000) (hl:∀y∈ys,y.length≤1000):JoinOk x ys=true:=by
 refine joinOk_of ?_
 have h1:=zDb 1000 ys hl
 have h2:ys.length * 1000≤10000 * 1000:=Nat.mul_le_mul_right _ hn
 have h3:ys.length * x.length≤10000 * 10:=Nat.mul_le_mul hn hx
 omega
theorem zB6 (x:Str) (w:Nat):∀(cuts:List Nat) (a:Nat),(StrLaws.partsFrom x w a cuts).length=cuts.length+1
 | [],_=>rfl
 |c::r,a=>by
  show(_::StrLaws.partsFrom x w (c+w) r).length=_
  rw[List.length_cons,zB6 x w r];rfl
theorem zMq (x y:Str) (hx:x.length≤10000):(Builtin.Str.partsBetween x (Builtin.Str.occurrences x y 0 x.length (x.length+1)) y.length).length≤sizeLine:=by
 have h1:=StrLaws.occ_length_le x y 0 x.length (x.length+1)
 rw[StrLaws.partsBetween_eq,zB6]
 unfold sizeLine
 omega
theorem zFj {ys:List Str} (ho:Ev prog w A X h (eval o env) (.str x)) (he:Ev prog w A X h (eval e env) (.list (ys.map .str))) (hx:x.length≤10) (hn:ys.length≤10000) (hl:∀y∈ys,y.length≤1000)
 (hb:autoParam (attributeBase o "join" env (eval o env)=eval o env) aR) (hs:autoParam (starEach [e] env=[(false,eval e env)]) aR) (hline:autoParam ((apos.endLine==pos.line)=true) aR):
 Ev prog w A X h (eval (.Call (.Attribute o "join" apos) [e] [] pos) env) (.str (Txt.join x ys)):=
 zBz ho he PySem.F.slot_str_join PySem.F.type_str_join (join_is (zJm hx hn hl)) hb hs hline
theorem zHt (ho:Ev prog w A X h (eval o env) (.str x)) (he:Ev prog w A X h (eval e env) (.str y))
 (hb:autoParam (attributeBase o "startswith" env (eval o env)=eval o env) aR) (hs:autoParam (starEach [e] env=[(false,eval e env)]) aR) (hline:autoParam ((apos.endLine==pos.line)=true) aR):
 Ev prog w A X h (eval (.Call (.Attribute o "startswith" apos) [e] [] pos) env) (.bool (Txt.startswith x y)):=
 zBz ho he PySem.F.slot_str_startswith PySem.F.type_str_startswith zHr hb hs hline
theorem zGh (ho:Ev prog w A X h (eval o env) (.str x)) (he:Ev prog w A X h (eval e env) (.str y))
 (hb:autoParam (attributeBase o "endswith" env (eval o env)=eval o env) aR) (hs:autoParam (starEach [e] env=[(false,eval e env)]) aR) (hline:autoParam ((apos.endLine==pos.line)=true) aR):
 Ev prog w A X h (eval (.Call (.Attribute o "endswith" apos) [e] [] pos) env) (.bool (Txt.endswith x y)):=
 zBz ho he PySem.F.slot_str_endswith PySem.F.type_str_endswith zKb hb hs hline
theorem zPh (ho:Ev prog w A X h (eval o env) (.str x)) (he:Ev prog w A X h (eval e env) (.str y))
 (hb:autoParam (attributeBase o "rfind" env (eval o env)=eval o env) aR) (hs:autoParam (starEach [e] env=[(false,eval e env)]) aR) (hline:autoParam ((apos.endLine==pos.line)=true) aR):
 Ev prog w A X h (eval (.Call (.Attribute o "rfind" apos) [e] [] pos) env) (.int (Txt.rfind x y)):=
 zBz ho he PySem.F.slot_str_rfind PySem.F.type_str_rfind zPb hb hs hline
theorem zNu (ho:Ev prog w A X h (eval o env) (.str x)) (he:Ev prog w A X h (eval e env) (.str y)) (hx:x.length≤10000)
 (hb:autoParam (attributeBase o "rstrip" env (eval o env)=eval o env) aR) (hs:autoParam (starEach [e] env=[(false,eval e env)]) aR) (hline:autoParam ((apos.endLine==pos.line)=true) aR):
 Ev prog w A X h (eval (.Call (.Attribute o "rstrip" apos) [e] [] pos) env) (.str (Txt.rstripChars x y)):=
 zBz ho he PySem.F.slot_str_rstrip PySem.F.type_str_rstrip (zO2 (by unfold sizeLine;omega)) hb hs hline
theorem zKy (ho:Ev prog w A X h (eval o env) (.str x)) (he:Ev prog w A X h (eval e env) (.str y)) (hy:(y.length==0)=false) (hx:x.length≤10000)
 (hb:autoParam (attributeBase o "split" env (eval o env)=eval o env) aR) (hs:autoParam (starEach [e] env=[(false,eval e env)]) aR) (hline:autoParam ((apos.endLine==pos.line)=true) aR):
 Ev prog w A X h (eval (.Call (.Attribute o "split" apos) [e] [] pos) env) (.list ((Txt.split x y).map .str)):=
 zBz ho he PySem.F.slot_str_split PySem.F.type_str_split (zO8 hy (by unfold sizeLine;omega) (zMq x y hx)) hb hs hline
end
end M13
section M14
section
variable {prog:Program} {w:World} {A:Around} {X M:List Addr} {g h h':Heap} {env:Env} {Γ:List (Str×Bd)}
structure Poke (it:Addr) (h h':Heap):Prop where
 keep:∀b o,b≠it→h.get? b=some o→h'.get? b=some o
 was:∀o,h.get? it=some o→¬IsSeq o
theorem Poke.sext {it:Addr} (p:Poke it h h'):SExt (hid X h) (hid X h'):=zC0 fun b o _ e q=>p.keep b o (by rintro rfl;exact p.was _ e q) e
theorem Fn.poke {it:Addr} (F:Fn g X M h env Γ) (p:Poke it h h') (hL:it≠env.locals) (hC:∀n,env.cells.lookup n≠some it) (hg:g.get? it=none) (hX:it∉X):Fn g X M h' env Γ:=by
 refine⟨⟨F.is.fn,?_,?_,F.is.inj,?_⟩,?_,F.outL,F.outC,F.outM,F.sub,?_⟩
 ·obtain⟨m,n⟩:=F.is.ns
  exact⟨m,n.at' fun o e=>p.keep _ _ (Ne.symm hL) e⟩
 ·intro n c e
  obtain⟨v,o,ho,hd⟩:=F.is.cell n c e
  exact⟨v,o,p.keep _ _ (by rintro rfl;exact hC _ e) ho,hd⟩
 ·intro x b e
  obtain⟨v,s,r⟩:=F.is.see x b e
  refine⟨v,?_,r.mono p.sext⟩
  rcases s with⟨a,m,n,em⟩|⟨a,c,ec,o,ho,hd⟩
  ·exact .inl ⟨a,m,n.at' fun o e=>p.keep _ _ (Ne.symm hL) e,em⟩
  ·exact .inr ⟨a,c,ec,o,p.keep _ _ (by rintro rfl;exact hC _ ec) ho,hd⟩
 ·intro b o e
  exact p.keep b o (by rintro rfl;rw[hg]at e;cases e) (F.kg _ _ e)
 ·intro x m
  obtain⟨o,e⟩:=F.kx x m
  exact⟨o,p.keep _ _ (by rintro rfl;exact hX m) e⟩
theorem OwnList.poke {it D:Addr} {ds:List PyData} (x:OwnList X h D ds) (p:Poke it h h'):OwnList X h' D ds:=by
 obtain⟨ys,⟨n,e⟩,r⟩:=x
 exact⟨ys,⟨n,p.keep _ _ (by rintro rfl;exact p.was _ e ⟨_,_,rfl⟩) e⟩,r.mono p.sext⟩
structure LoopAt (g:Heap) (X M:List Addr) (env:Env) (Γ:Nat→List (Str×Bd)) (J:Nat→List Addr→Heap→Prop) (St:Nat→Heap→Prop) (n:Nat) (it:Addr) (O₀:List Addr) (h₁:Heap) (i:Nat) (O:List Addr) (h:Heap):Prop where
 le:i≤n
 st:St i h
 fn:Fn g (O++X) (O++M) h env (Γ i)
 j:J i O h
 io:it∉O
 se:SExt (hid (O₀++X) h₁) (hid (O++X) h)
 rl:∀b o,b∉O₀++M→b≠env.locals→(∀n,env.kindOf n=some .cell→env.cells.lookup n≠some b)→b≠it→h₁.get? b=some o→h.get? b=some o∧b∉O
inductive LI (g:Heap) (X M:List Addr) (env:Env) (Γ:Nat→List (Str×Bd)) (J:Nat→List Addr→Heap→Prop) (St:Nat→Heap→Prop) (m:Nat) (it:Nat) (O₀:List Addr) (h₁:Heap) (s:Shared):Nat→Shared→Prop
 |mk (h':Heap) (tk i:Nat) (O:List Addr) (L:LoopAt g X M env Γ J St m it O₀ h₁ i O h') (oi:Obj) (hoi:h'.get? it=some oi):LI g X M env Γ J St m it O₀ h₁ s (m+1 - i) (sat s h' tk)
structure Turned (g:Heap) (X M:List Addr) (env:Env) (Γ:List (Str×Bd)) (J:List Addr→Heap→Prop) (O:List Addr) (h:Heap) (h':Heap):Prop where
 ex:∃O',Fn g (O'++X) (O'++M) h' env Γ∧J O' h'∧∀b∈O',b∈O∨h.get? b=none
 rel:Rel (O++M) env h h'
theorem relOwn {O O':List Addr} (I:EnvIs (O++X) h env Γ) (R:Rel (O++M) env h h') (sub:∀b∈O++M,b∈O++X) (own:∀b∈O',b∈O∨h.get? b=none):SExt (hid (O++X) h) (hid (O'++X) h'):=by
 intro b o e q
 have e':=zAf _ _ _ _ e
 have n:=zAh e
 refine zAb (R.seq I (fun m=>n (sub _ m)) e' q) fun m=> ?_
 rcases List.mem_append.mp m with m|m
 ·rcases own b m with m|m
  ·exact n (List.mem_append_left _ m)
  ·rw[e']at m;cases m
 ·exact n (List.mem_append_right _ m)
theorem zH4 {x:Str} {px:Pos} {body orelse:List Stmt} {ds:List PyData} {o:Obj} {fp:List Addr} {P:Nat→Value→Prop} {St:Nat→Heap→Prop} {O₀:List Addr} {s:Shared} {R:Result→Shared→Prop} {h₀:Heap}
 (src:SrcAt prog w A (O₀++X) h₀ ds o fp P St) (hs:s.heap=h₀.push o) (Γ:Nat→List (Str×Bd)) (J:Nat→List Addr→Heap→Prop)
 (F:Fn g (O₀++X) (O₀++M) h₀ env (Γ 0)) (j:J 0 O₀ s.heap) (hx:Stores env x) (no:¬IsSeq o)
 (pk:∀i O h h' it,Fn g (O++X) (O++M) h env (Γ i)→J i O h→it∉O→it∉X→Poke it h h'→J i O h')
 (sk:∀i O h h',Fn g (O++X) (O++M) h env (Γ i)→J i O h→Rel [] env h h'→J i O h')
 (turn:∀i d O (s':Shared),(∃h' tk,s'=(sat s h' tk))→ds[i]? =some d→Fn g (O++X) (O++M) s'.heap env ((x, .d d)::Γ i)→J i O s'.heap→
  wpAny (model prog w) A (execs body env) (fun fl s''=>match fl with
   | .next| .cont=>∃h' tk,s''=(sat s' h' tk)∧Turned g X M env (Γ (i+1)) (J (i+1)) O s'.heap h'
   | .brk=>R (.ok .next) s''
   | .ret v=>R (.ok (.ret v)) s'') (notedBy (model prog w) A env fun e s'=>R (.error e) s') s')
 (done:∀O h' tk,Fn g (O++X) (O++M) h' env (Γ ds.length)→J ds.length O h'→Rel (O₀++M) env h₀ h'→wpAny (model prog w) A (execs orelse env) (fun f s₃=>R (.ok f) s₃) (notedBy (model prog w) A env fun e s'=>R (.error e) s') (sat s h' tk)):
 codeAny (model prog w) A (.forLoop (.Name x px) (.ref h₀.objs.size) body orelse env) R s:=by
 have hL: @Ne Nat h₀.objs.size env.locals:=by
  obtain⟨m,n⟩:=F.is.ns
  have:=n.lt
  rintro e
  rw[←e]at this
  exact Nat.lt_irrefl _ this
 have hC:∀n,env.cells.lookup n≠some h₀.objs.size:=by
  intro n e
  obtain⟨v,q⟩:=F.is.cell n _ e
  exact Nat.lt_irrefl _ q.lt
 have hg:g.get? h₀.objs.size=none:=by
  cases e:g.get? h₀.objs.size with
  |none=>rfl
  |some o=>exact absurd (Heap.lt_size (F.kg _ _ e)) (Nat.lt_irrefl _)
 have hX:h₀.objs.size∉X:=fun m=>F.kx.fresh (List.mem_append_right _ m)
 have hO:h₀.objs.size∉O₀:=fun m=>F.kx.fresh (List.mem_append_left _ m)
 have k0:Ext h₀ s.heap:=hs▸Ext.push h₀ o
 have it0:s.heap.get? h₀.objs.size=some o:=hs▸Heap.get?_push_size h₀ src.live
 refine codeAny_forLoop_any (LI g X M env Γ J St ds.length h₀.objs.size O₀ s.heap s) ?_ (ds.length+1)
  (.mk s.heap s.toks 0 O₀ ⟨Nat.zero_le _,hs▸src.start,F.ext k0,j,hO,SExt.rfl,fun b o n _ _ _ e=>⟨e,fun m=>n (List.mem_append_left _ m)⟩⟩ o it0)
 rintro n s' ⟨H,tk,i,O,L,oi,hoi⟩
 have hOi:=L.io
 have hXi:h₀.objs.size∉O++X:=fun m=>(List.mem_append.mp m).elim hOi hX
 by_cases hlt:i<ds.length
 ·refine src.walks.item i _ _ _ hlt L.st fun v h₁ tk₁ hPv hst₁ hk₁=> ?_
  have hk₁':∀b o,b≠h₀.objs.size→H.get? b=some o→h₁.get? b=some o:=fun b o n e=>hk₁ b o (by simpa using n) e
  obtain⟨d,hd,rd⟩:=src.is i v hlt hPv
  have now:∃o,h₁.get? h₀.objs.size=some o:=by
   obtain⟨o',e',_⟩:=src.it i.succ h₁ hst₁
   exact⟨o',e'⟩
  have P:Poke h₀.objs.size H h₁:=⟨hk₁',fun o e=>by
   obtain⟨o',e',q⟩:=src.it i H L.st
   rw[e]at e';cases e';exact q⟩
  have F₁:=L.fn.poke P hL hC hg hXi
  have j₁:=pk i O H h₁ _ L.fn L.j hOi hX P
  have se₁:SExt (hid (O₀++X) s.heap) (hid (O++X) h₁):=L.se.trans P.sext
  refine wpAny_of_eq (by rfl) ?_
  refine wpAny_assign_Name (zAn F₁ hx (b:= .d d) (rd.mono ((zAl k0).s.trans se₁)) fun h₂ tk₂ F₂ R₂=> ?_)
  have j₂:=sk i O h₁ h₂ F₁ j₁ R₂
  have se₂:SExt (hid (O₀++X) s.heap) (hid (O++X) h₂):=se₁.trans (R₂.hid F₁.is zAp)
  have kit:∀{M':List Addr} {a b:Heap},Rel M' env a b→h₀.objs.size∉M'→∀o,a.get? h₀.objs.size=some o→b.get? h₀.objs.size=some o:=fun r n o e=>r _ o n hL (fun z _=>hC z) e
  have stp:∀{a b:Heap} {O':List Addr},SExt (hid (O₀++X) s.heap) (hid (O++X) a)→SExt (hid (O++X) a) (hid (O'++X) b)→(∀o,a.get? h₀.objs.size=some o→b.get? h₀.objs.size=some o)→St (i+1) a→St (i+1) b:=by
   intro a b O' se se' ki st
   refine src.walks.frame _ _ _ st fun c hc o' e=> ?_
   rcases src.fpOk c hc with rfl|⟨o1,e1,q1⟩
   ·exact ki _ e
   ·have e2:=zAl k0 _ _ e1
    have e3:=se _ _ e2 q1
    have e4:=zAf _ _ _ _ e3
    rw[e]at e4;cases e4
    exact zAf _ _ _ _ (se' _ _ e3 q1)
  have st₂:St (i+1) h₂:=stp se₁ (R₂.hid F₁.is zAp) (kit R₂ (fun m=>nomatch m)) hst₁
  refine wpAny_mono (turn i d O _ ⟨_,_,rfl⟩ hd F₂ j₂) (fun fl s₃ q=> ?_) fun _ _ e=>e
  have fin:(∃h' tk,s₃=(sat s h' tk)∧Turned g X M env (Γ (i+1)) (J (i+1)) O h₂ h')→∃m,m<ds.length+1 - i∧LI g X M env Γ J St ds.length h₀.objs.size O₀ s.heap s m s₃:=by
   rintro⟨h₃,tk₃,rfl,⟨O',F₃,j₃,own₃⟩,R₃⟩
   have se₃:=relOwn (X:=X) (M:=M) (O':=O') F₂.is R₃ F₂.sub own₃
   have kit₃:=kit R₃ (fun m=>hXi (F₂.sub _ m))
   refine⟨ds.length+1 - (i+1),by omega,?_⟩
   obtain⟨o',e'⟩:=now
   refine .mk h₃ tk₃ (i+1) O' ⟨hlt,stp se₂ se₃ kit₃ st₂,F₃,j₃,?_,se₂.trans se₃,?_⟩ o' (kit₃ _ (kit R₂ (fun m=>nomatch m) _ e'))
   ·intro m
    rcases own₃ _ m with m|m
    ·exact hOi m
    ·have e2:=kit R₂ (fun m=>nomatch m) _ e'
     rw[e2]at m;cases m
   ·intro b o n1 n2 n3 n4 e
    obtain⟨e1,m1⟩:=L.rl b o n1 n2 n3 n4 e
    have e2:=R₂ b o (fun m=>nomatch m) n2 n3 (hk₁' b o n4 e1)
    refine⟨R₃ b o (fun m=>(List.mem_append.mp m).elim m1 fun m=>n1 (List.mem_append_right _ m)) n2 n3 e2,fun m=> ?_⟩
    rcases own₃ _ m with m|m
    ·exact m1 m
    ·rw[e2]at m;cases m
  cases fl with
  |next=>exact fin q
  |cont=>exact fin q
  |brk=>exact q
  |ret v=>exact q
 ·have hin:i=ds.length:=by have:=L.le;omega
  subst hin
  refine src.walks.done _ _ _ L.st fun h₁ tk₁ hk₁=> ?_
  have hk₁':∀b o,b≠h₀.objs.size→H.get? b=some o→h₁.get? b=some o:=fun b o n e=>hk₁ b o (by simpa using n) e
  have P:Poke h₀.objs.size H h₁:=⟨hk₁',fun o e=>by
   obtain⟨o',e',q⟩:=src.it _ H L.st
   rw[e]at e';cases e';exact q⟩
  refine done O h₁ tk₁ (L.fn.poke P hL hC hg hXi) (pk _ O H h₁ _ L.fn L.j hOi hX P) fun b o n1 n2 n3 e=> ?_
  have n4:b≠h₀.objs.size:=fun z=>Nat.lt_irrefl _ (z▸Heap.lt_size e)
  exact P.keep b o n4 (L.rl b o n1 n2 n3 n4 (k0 _ _ e)).1
theorem zG2 {x:Str} {px pos:Pos} {iter:Expr} {body orelse:List Stmt} {ds:List PyData} {s:Shared} {E:Value→Shared→Prop} {Q:Flow→Shared→Prop} (src:Src prog w A X s.heap (eval iter env) ds)
 (Γ:Nat→List (Str×Bd)) (J:Nat→Heap→Prop) (F:Fn g X M s.heap env (Γ 0)) (j:∀h',Ext s.heap h'→J 0 h') (hx:Stores env x)
 (pk:∀i h h' it,Fn g X M h env (Γ i)→J i h→it∉X→Poke it h h'→J i h')
 (sk:∀i h h',Fn g X M h env (Γ i)→J i h→Rel [] env h h'→J i h')
 (turn:∀i d (s':Shared) E',ds[i]? =some d→Fn g X M s'.heap env ((x, .d d)::Γ i)→J i s'.heap→
  wpAny (model prog w) A (execs body env) (fun fl s''=>match fl with
   | .next| .cont=>∃h' tk,s''=(sat s' h' tk)∧Fn g X M h' env (Γ (i+1))∧J (i+1) h'∧Rel M env s'.heap h'
   | .brk=>Q .next s''
   | .ret v=>Q (.ret v) s'') E' s')
 (done:∀h' tk E',Fn g X M h' env (Γ ds.length)→J ds.length h'→Rel M env s.heap h'→wpAny (model prog w) A (execs orelse env) Q E' (sat s h' tk))
 (hs:autoParam (∀x,foldedSetIterable iter env x=pure x) aS):wpAny (model prog w) A (exec (.For (.Name x px) iter body orelse pos) env) Q E s:=by
 refine wpAny_For (src s _ _ Ext.rfl F.kx fun v h₁ tk₁ k₁ it=>it _ _ fun o fp P St S no=> ?_) hs
 refine zH4 (O₀:=[]) (X:=X) (M:=M) S rfl Γ (fun i O h=>O=[]∧J i h) (F.ext k₁) ⟨rfl,j _ (k₁.trans (Ext.push _ _))⟩ hx no ?_ ?_ ?_ ?_
 ·rintro i O h h' it F' ⟨rfl,j⟩ _ hX p
  exact⟨rfl,pk i h h' it F' j hX p⟩
 ·rintro i O h h' F' ⟨rfl,j⟩ R
  exact⟨rfl,sk i h h' F' j R⟩
 ·rintro i d O s' - hd F' ⟨rfl,j⟩
  refine wpAny_mono (turn i d s' _ hd F' j) (fun fl s'' q=> ?_) fun _ _ e=>e
  cases fl with
  |next=>obtain⟨h',tk,rfl,F₁,j₁,r⟩:=q;exact⟨h',tk,rfl,⟨[],F₁,⟨rfl,j₁⟩,fun _ m=>nomatch m⟩,r⟩
  |cont=>obtain⟨h',tk,rfl,F₁,j₁,r⟩:=q;exact⟨h',tk,rfl,⟨[],F₁,⟨rfl,j₁⟩,fun _ m=>nomatch m⟩,r⟩
  |brk=>exact q
  |ret v=>exact q
 ·rintro O h' tk F' ⟨rfl,j⟩ r
  exact done h' tk _ F' j (k₁.rel.trans r)
end
end M14
section M15
section
variable {prog:Program} {w:World} {A:Around} {X M:List Addr} {g h h':Heap} {env:Env} {Γ:List (Str×Bd)}
variable {s:Shared} {E:Value→Shared→Prop} {Q:Flow→Shared→Prop}
noncomputable def NewL (prog:Program) (w:World) (A:Around) (X:List Addr) (h:Heap) (t:Sem Value) (ds:List PyData):Prop:=
 ∀(s:Shared) (Q:Value→Shared→Prop) (E:Value→Shared→Prop),Ext h s.heap→XOk X s.heap→
  (∀D ys h' tk,Ext s.heap h'→s.heap.get? D=none→D∉X→h'.PlainList D ys→Rds (hid (D::X) h') ds ys.toList→Q (.ref D) (sat s h' tk))→wpAny (model prog w) A t Q E s
theorem zIz {pos:Pos} {es:List Expr} {ds:List PyData} (a:EvL prog w A X h (spliced (backTo pos (starEach es env))) ds) (hs:ds.length≤sizeLine:=by first|decide|(simp only[List.length_cons,List.length_nil,sizeLine];decide)):NewL prog w A X h (eval (.List es pos) env) ds:=by
 intro s Q E k kx hQ
 refine wpAny_List (a s _ _ k kx fun vs h₁ tk₁ k₁ r₁=>⟨by rw[r₁.length];exact hs,?_⟩)
 have fr:h₁.get? h₁.objs.size=none:=Heap.get?_none_of_le (Nat.le_refl _)
 refine hQ _ _ _ tk₁ (k₁.trans (Ext.push _ _)) ?_ (kx.ext k₁).fresh ⟨0,Heap.get?_push_size _ rfl⟩ ?_
 ·cases e:s.heap.get? h₁.objs.size with
  |none=>rfl
  |some o=>exact absurd (Heap.lt_size (k₁ _ _ e)) (Nat.lt_irrefl _)
 ·refine(show Rds _ ds vs by simpa using r₁).mono fun b o e _=>zAb (Ext.push _ _ _ _ (zAf _ _ _ _ e)) fun m=> ?_
  rcases List.mem_cons.mp m with rfl|m
  ·have:=zAf _ _ _ _ e
   rw[fr]at this;cases this
  ·exact zAh e m
theorem Fn.hide {D:Addr} (F:Fn g X M h env Γ) (k:Ext h h') (n:h.get? D=none) (a:∃o,h'.get? D=some o):Fn g (D::X) (D::M) h' env Γ:=by
 have I:EnvIs (D::X) h' env Γ:=F.is.view (fun b o e _=>k b o e) fun b o e _=>zAb (k _ _ (zAf _ _ _ _ e)) fun m=>by
  rcases List.mem_cons.mp m with rfl|m
  ·have:=zAf _ _ _ _ e
   rw[n]at this;cases this
  ·exact zAh e m
 refine⟨I,F.kg.trans k,F.outL,F.outC,?_,?_,?_⟩
 ·intro b m
  rcases List.mem_cons.mp m with rfl|m
  ·cases e:g.get? b with
   |none=>rfl
   |some o=>rw[F.kg _ _ e]at n;cases n
  ·exact F.outM b m
 ·intro b m
  rcases List.mem_cons.mp m with rfl|m
  ·exact List.mem_cons_self
  ·exact List.mem_cons_of_mem _ (F.sub b m)
 ·intro b m
  rcases List.mem_cons.mp m with rfl|m
  ·exact a
  ·exact(F.kx.ext k) b m
theorem zQp {y:Str} {py pos:Pos} {e:Expr} {ds:List PyData} (F:Fn g X M s.heap env Γ) (a:NewL prog w A X s.heap (eval e env) ds) (hy:Stores env y)
 (hQ:∀D h' tk,s.heap.get? D=none→D∉X→Fn g (D::X) (D::M) h' env ((y, .v (.ref D))::Γ)→Rel [] env s.heap h'→OwnList (D::X) h' D ds→Q .next (sat s h' tk))
 (hs:autoParam (swapsWith e (some (.Name y py)) pos.line env=pure false) aR):wpAny (model prog w) A (exec (.Assign [.Name y py] e pos) env) Q E s:=by
 refine wpAny_Assign_Name (a s _ _ Ext.rfl F.kx fun D ys h₁ tk₁ k₁ n₁ x₁ pl₁ r₁=> ?_) hs
 have F₁:Fn g (D::X) (D::M) h₁ env Γ:=F.hide k₁ n₁ (let⟨n,e⟩:=pl₁;⟨_,e⟩)
 refine zAn F₁ hy (b:= .v (.ref D)) rfl fun h' tk F' R'=>hQ D h' tk n₁ x₁ F' (k₁.rel.trans R') ?_
 exact OwnList.keep ⟨ys,pl₁,r₁⟩ F₁.is R' (fun m=>nomatch m) (fun b m=>nomatch m)
theorem Fn.freeze {D:Addr} {ds:List PyData} {Γ':List (Str×Bd)} (F:Fn g (D::X) (D::M) h env Γ) (L:OwnList (D::X) h D ds) (hD:D∉X) (sub:∀b∈M,b∈X)
 (hΓ:∀x b,Γ'.lookup x=some b→Γ.lookup x=some b∨(Γ.lookup x=some (.v (.ref D))∧b= .d (.list ds))):Fn g X M h env Γ':=by
 obtain⟨ys,pl,r⟩:=L
 have se:SExt (hid (D::X) h) (hid X h):=fun b o e _=>zO9 b o e
 refine⟨⟨F.is.fn,F.is.ns,F.is.cell,F.is.inj,?_⟩,F.kg,F.outL,F.outC,fun b m=>F.outM b (.tail _ m),sub,fun b m=>F.kx b (.tail _ m)⟩
 intro x b e
 rcases hΓ x b e with e|⟨e1,rfl⟩
 ·obtain⟨v,s,q⟩:=F.is.see x b e
  exact⟨v,s,q.mono se⟩
 ·obtain⟨v,s,q⟩:=F.is.see x _ e1
  cases q
  refine⟨_,s,Rd.list (vs:=ys) ?_ (r.mono se)⟩
  obtain⟨n,e⟩:=pl
  exact⟨_,zAb e hD,rfl,n,rfl⟩
theorem zKg {x:Str} {px:Pos} {whole:Sem Value} {D:Addr} {ds:List PyData} (I:EnvIs X h env Γ) (hx:Γ.lookup x=some (.v (.ref D))) (L:OwnList X h D ds) (hw:whole=eval (.Name x px) env) (hsz:ds.length≤2 ^ 24)
 (hd1:autoParam ((x==("__debug__":Str))=false) aD) (hd2:autoParam ((x==("__classdict__":Str))=false) aD):EvB prog w A X h (isTrue (.Name x px) env whole) (!ds.isEmpty):=by
 intro s Q E k kx hQ
 subst hw
 refine wpAny_isTrue_value (zAm (prog:=prog) (w:=w) (A:=A) I hx hd1 hd2 s _ _ k fun h₁ tk₁ k₁=> ?_) rfl
 obtain⟨ys,pl,r⟩:=L.ext (k.trans k₁)
 have e:ys.size=ds.length:=by simpa using r.length
 refine wpAny_truthy_list pl.isList (by omega) ?_
 have:(!ys.isEmpty)=(!ds.isEmpty):=by
  congr 1
  rw[Bool.eq_iff_iff,Array.isEmpty_iff_size_eq_zero,List.isEmpty_iff_length_eq_zero,e]
 rw[this]
 exact hQ _ _ k₁
theorem neg1 (n:Nat):(-1+(n:Int)).toNat=n - 1:=by
 cases n with
 |zero=>rfl
 |succ m=>rw[show(-1:Int)+((m+1:Nat):Int)=(m:Int)from by omega,Int.toNat_natCast];rfl
theorem zHm {value slice:Expr} {pos:Pos} {D:Addr} {ds:List PyData} {d:PyData} (ha:EvV prog w A h (eval value env) (.ref D)) (hb:Ev prog w A X h (eval slice env) (.int (-1))) (L:OwnList X h D ds) (hd:ds.getLast? =some d)
 (hs:autoParam (∀l t,subscripted slice false (.ref l) (.int (-1) t)=operate [.ref l, .int (-1) t] (getItem (.ref l) (.int (-1) t))) aT):
 Ev prog w A X h (eval (.Subscript value slice pos) env) d:=by
 intro s Q E k kx hQ
 refine Subscript_ (ha s _ _ k fun h₁ tk₁ k₁=>hb _ _ _ (k.trans k₁) (kx.ext k₁) fun v h₂ tk₂ k₂ r₂=> ?_)
 obtain⟨t,rfl⟩:=r₂.int_inv
 obtain⟨ys,pl,r⟩:=L.ext (k.trans (k₁.trans k₂))
 have e:ys.size=ds.length:=by simpa using r.length
 have hpos:0<ds.length:=by
  cases ds with
  |nil=>simp at hd
  |cons _ _=>simp
 have hd':ds[ds.length - 1]? =some d:=by rw[←List.getLast?_eq_getElem?];exact hd
 obtain⟨x,ex,rx⟩:=r.get hd'
 refine tail_any pl.isList.typeIs slot_list_getitem.lookup (wpAny_getItem_list_neg pl.isList (x:=x) (by decide) (by rw[e];omega) (by decide) ?_ (hQ x h₂ tk₂ (k₁.trans k₂) rx)) (hs _ _)
 rw[neg1,show ys.size - 1=ds.length - 1 by omega]
 simpa using ex
theorem Fn.change {D:Addr} {ds:List PyData} (F:Fn g X M h env Γ) (hD:D∈M) (L:OwnList X h D ds) (sb:∀b o,b≠D→h.get? b=some o→h'.get? b=some o) (a:∃o,h'.get? D=some o):
 Fn g X M h' env Γ∧Rel [D] env h h'∧SExt (hid X h) (hid X h'):=by
 have R:Rel [D] env h h':=fun b o n _ _ e=>sb b o (by simpa using n) e
 have sub:∀b∈[D],b∈M:=fun b m=>by simp at m;exact m▸hD
 obtain⟨ys,⟨n,e⟩,r⟩:=L
 have own:=F.is
 have DL:D≠env.locals:=(own.own e ⟨_,_,rfl⟩).1
 have Dc:∀n,env.cells.lookup n≠some D:=(own.own e ⟨_,_,rfl⟩).2
 have S:=R.hid own (fun b m=>F.sub b (sub b m))
 refine⟨⟨⟨own.fn,?_,?_,own.inj,?_⟩,R.ext F sub,F.outL,F.outC,F.outM,F.sub,?_⟩,R,S⟩
 ·obtain⟨m,n⟩:=own.ns
  exact⟨m,n.at' fun o e=>sb _ _ (Ne.symm DL) e⟩
 ·intro n c e
  obtain⟨u,o,ho,hd⟩:=own.cell n c e
  exact⟨u,o,sb _ _ (fun z=>Dc n (z▸e)) ho,hd⟩
 ·intro z b e
  obtain⟨u,su,ru⟩:=own.see z b e
  refine⟨u,?_,ru.mono S⟩
  rcases su with⟨q,m,n,em⟩|⟨q,c,ec,o,ho,hd⟩
  ·exact .inl ⟨q,m,n.at' fun o e=>sb _ _ (Ne.symm DL) e,em⟩
  ·exact .inr ⟨q,c,ec,o,sb _ _ (fun z=>Dc _ (z▸ec)) ho,hd⟩
 ·intro b ma
  obtain⟨o,e⟩:=F.kx b ma
  by_cases hy:b=D
  ·subst hy;exact a
  ·exact⟨o,sb b o hy e⟩
theorem zC9 {D:Addr} {ys:Array Value} (pl:h.PlainList D ys):∀a,(Value.ref D)= .ref a→∃ob,h.get? a=some ob∧ob.dict=none:=by
 rintro a e
 cases e
 obtain⟨n,e⟩:=pl
 exact⟨_,e,rfl⟩
theorem zDg {D:Addr} {ys:Array Value} {y:Value} {Qv:Value→Shared→Prop} (pl:s.heap.PlainList D ys) (hy:ys[ys.size - 1]? =some y) (hsz:ys.size≤sizeLine)
 (hQ:∀h',h'.PlainList D ys.pop→Heap.SameBut D s.heap h'→Qv y {s with heap:=h'}):wpAny (model prog w) A (call (.builtin "list.pop") [.ref D]) Qv E s:=by
 obtain⟨n,e⟩:=id pl
 refine call_meets PySem.F.slot_list_pop pl.isList.typeIs PySem.F.entry_list_pop (PySem.F.args_list_pop_1 _) (PySem.MeetsSeq.list_pop_last D ys n y hy hsz) ⟨e,?_⟩
 have hp:ys.eraseIdxIfInBounds (ys.size - 1)=ys.pop:=by
  unfold Array.eraseIdxIfInBounds
  have:0<ys.size:=by
   rcases Nat.eq_zero_or_pos ys.size with h0|h0
   ·simp[h0]at hy
   ·exact h0
  rw[dif_pos (by omega)]
  apply Array.ext'
  rw[Array.toList_eraseIdx,Array.toList_pop]
  have:ys.size - 1=ys.toList.length - 1:=by simp
  rw[this]
  exact List.eraseIdx_length_sub_one
 have hm:∃m,Obj.mapSeq (fun xs=>xs.eraseIdxIfInBounds (ys.size - 1)) {cls:= .type "list",data:= .seq ys n}={cls:= .type "list",data:= .seq ys.pop m}:=by
  unfold Obj.mapSeq
  simp only[hp]
  exact⟨_,rfl⟩
 obtain⟨m,hm⟩:=hm
 exact hQ _ ⟨m,by rw[Heap.get?_update_self _ e (by rw[hm];rfl),hm]⟩ (Heap.SameBut.update ..)
end
end M15
section M16
section
variable {prog:Program} {w:World} {A:Around} {X M:List Addr} {g h h':Heap} {env:Env} {Γ:List (Str×Bd)}
variable {s:Shared} {E:Value→Shared→Prop} {Q:Flow→Shared→Prop}
theorem zEx {dep:Int} {tk:Tok} {R:Fin→Shared→Prop} (hq:R (.done (.ret (.bool true))) s):
 wpAny (model prog w) A (Builtin.«issubclass.nested» ⟨[.type "str", .type "str", .int dep tk],[]⟩) R E s:=by
 have hm:=PySem.F.isi_meta_str
 have hself:=PySem.F.sub_str_str
 repeat (any_goals (first|assumption|(rewrite[if_pos hm])|(rewrite[hself])|wp_step))
theorem zEe:builtinKind "issubclass.nested"=none:=by decide+kernel
theorem zDs:plainId "issubclass.nested"=true:=by decide+kernel
theorem zDp (a b c:Value):argsOk "issubclass.nested" ⟨[a,b,c],[]⟩:=by unfold argsOk;kernel_rfl
theorem zL9 {dep:Int} {tk:Tok} {R:Result→Shared→Prop} (hq:R (.ok (.ret (.bool true))) s):
 codeAny (model prog w) A (.call (.builtin "issubclass.nested") ⟨[.type "str", .type "str", .int dep tk],[]⟩) R s:=by
 refine codeAny_call_builtin zDs PySem.F.entry_issubclass_nested ?_
 have hfin:wpAny (model prog w) A.in1 (Builtin.«issubclass.nested» ⟨[.type "str", .type "str", .int dep tk],[]⟩) (fun fin s'=>match fin with| .done f=>R (.ok f) s'| .again c'=>c'.quiet=true∧codeAny (model prog w) A c' R s') (fun e s'=>R (.error e) s') s:=zEx hq
 have ok:=zDp (.type "str") (.type "str") (.int dep tk)
 simp only[checkBuiltinCall,zEe]
 cases hsig:Manifest.signature? "issubclass.nested" with
 |none=>exact wpAny_pure hfin
 |some sig=>
  simp only[argsOk,hsig]at ok
  have h2:Bind.checkArgs "issubclass.nested" sig ⟨[.type "str", .type "str", .int dep tk],[]⟩=pure ():=ok
  show wpAny _ _ (Bind.checkArgs "issubclass.nested" sig ⟨[.type "str", .type "str", .int dep tk],[]⟩) _ _ s
  rw[h2];exact wpAny_pure hfin
theorem zD8 {tp:Addr} {cs:List Value} {tk:Tok} {R:Fin→Shared→Prop} (htp:s.heap.get? tp=some {cls:= .type "tuple",data:= .seq (.type "str"::cs).toArray}) (hq:∀tk,R (.done (.ret (.bool true))) {s with toks:=tk}):
 wpAny (model prog w) A (Builtin.«issubclass.nested» ⟨[.type "str", .ref tp, .int 0 tk],[]⟩) R E s:=by
 obtain⟨h,g,d,t,os⟩:=s
 have hT2:(⟨h,g,d,t,os⟩:Shared).TypeIs (.ref tp) "tuple":=⟨_,htp,rfl⟩
 have f1:=PySem.F.isi_sub_tuple
 repeat (any_goals (first|assumption|wp_step))
 have e0:((some (Value.type "str"::cs).toArray).getD #[])[((some (Value.type "str"::cs).toArray).getD #[]).size - 1 - cs.length]'(by simp)= .type "str":=by simp
 rw[e0]
 refine zL9 ?_
 show wpAny _ _ (truthy (.bool true)>>=_) _ _ _
 refine wpAny_bind (m:=truthy (.bool true)) (wpAny_pure ?_)
 simp only[if_true]
 exact wpAny_bind (wpAny_pure (wpAny_pure (wpAny_pure (wpAny_pure (hq _)))))
theorem zGy {tp:Addr} {cs:List Value} {R:Value→Shared→Prop} (htp:s.heap.get? tp=some {cls:= .type "tuple",data:= .seq (.type "str"::cs).toArray}) (hq:∀tk,R (.bool true) {s with toks:=tk}):
 wpAny (model prog w) A (call (.builtin "issubclass") [.type "str", .ref tp]) R E s:=
 call_issubclass (S:=fun _ R s=>s.heap.get? tp=some {cls:= .type "tuple",data:= .seq (.type "str"::cs).toArray}∧∀tk,R (.ok (.ret (.bool true))) {s with toks:=tk})
  (fun prog w A R s h=>issubclass_outer (zD8 h.1 h.2)) ⟨htp,fun tk=>hq tk⟩
theorem EnvIs.nil (I:EnvIs X h env Γ):EnvIs [] h env Γ:=I.view (fun _ _ e _=>e) fun b o e _=>zAf X h b o e
theorem zI6 {f:Str} {np pos:Pos} {e:Expr} {x:Str} (hf:EvV prog w A h (eval (.Name f np) env) (.type "type")) (ha:Ev prog w A [] h (eval e env) (.str x))
 (he:autoParam (starEach [e] env=(false,eval e env)::starEach [] env) aR):EvV prog w A h (eval (.Call (.Name f np) [e] [] pos) env) (.type "str"):=by
 intro s Q E k hQ
 refine wpAny_Call_ofName (hf s _ _ k fun h₁ tk₁ k₁=> ?_)
 refine callWith_type1 (wpAny_items_cons (ha _ _ _ (k.trans k₁) XOk.nil fun v h₂ tk₂ k₂ r₂=>wpAny_items_nil ?_) he) he rfl
 obtain⟨t,rfl⟩:=r₂.str_inv
 exact call_type_of (typeIs_str _ _ _) (by decide+kernel) (hQ _ _ (k₁.trans k₂))
theorem zBe {f b:Str} {np bp pos:Pos} {e:Expr} {x:Str} (hf:EvV prog w A h (eval (.Name f np) env) (.builtin "isinstance")) (ha:Ev prog w A X h (eval e env) (.str x)) (hb:EvV prog w A h (eval (.Name b bp) env) (.type "bytes"))
 (he:autoParam (starEach [e, .Name b bp] env=[(false,eval e env),(false,eval (.Name b bp) env)]) aR):Ev prog w A X h (eval (.Call (.Name f np) [e, .Name b bp] [] pos) env) (.bool false):=by
 intro s Q E k kx hQ
 refine wpAny_Call_ofName (hf s _ _ k fun h₁ tk₁ k₁=> ?_)
 show wpAny _ _ (callWith pos (.builtin "isinstance") [] (backTo pos (starEach [e, .Name b bp] env)) []) _ _ _
 rw[he]
 refine Calls.callWith_builtin rfl (Calls.evalArgs_plain (Calls.spliced_cons (ha _ _ _ (k.trans k₁) (kx.ext k₁) fun v h₂ tk₂ k₂ r₂=>Calls.spliced_cons (hb _ _ _ ((k.trans k₁).trans k₂) fun h₃ tk₃ k₃=>Calls.spliced_nil ?_))))
 obtain⟨t,rfl⟩:=r₂.str_inv
 exact PySem.IsiPair.str_bytes (hQ _ _ _ (k₁.trans (k₂.trans k₃)) (Rd.bool _))
theorem zPd {f k a b:Str} {np kp ap bp tpos pos:Pos} {n:Nat} (hf:EvV prog w A h (eval (.Name f np) env) (.builtin "issubclass")) (hk:EvV prog w A h (eval (.Name k kp) env) (.type "str"))
 (ha:EvV prog w A h (eval (.Name a ap) env) (.type "str")) (hb:EvV prog w A h (eval (.Name b bp) env) (.type "bytes"))
 (he:autoParam (starEach [.Name k kp, .Tuple [.Name a ap, .Name b bp] n tpos] env=[(false,eval (.Name k kp) env),(false,eval (.Tuple [.Name a ap, .Name b bp] n tpos) env)]) aR)
 (he2:autoParam (backTo tpos (starEach [.Name a ap, .Name b bp] env)=[(false,eval (.Name a ap) env),(false,eval (.Name b bp) env)]) aR):
 Ev prog w A X h (eval (.Call (.Name f np) [.Name k kp, .Tuple [.Name a ap, .Name b bp] n tpos] [] pos) env) (.bool true):=by
 intro s Q E kk kx hQ
 refine wpAny_Call_ofName (hf s _ _ kk fun h₁ tk₁ k₁=> ?_)
 show wpAny _ _ (callWith pos (.builtin "issubclass") [] (backTo pos (starEach [.Name k kp, .Tuple [.Name a ap, .Name b bp] n tpos] env)) []) _ _ _
 rw[he]
 refine Calls.callWith_builtin rfl (Calls.evalArgs_plain (Calls.spliced_cons (hk _ _ _ (kk.trans k₁) fun h₂ tk₂ k₂=>Calls.spliced_cons ?_)))
 have K2:=(kk.trans k₁).trans k₂
 show wpAny _ _ (eval (.Tuple [.Name a ap, .Name b bp] n tpos) env) _ _ _
 refine wpAny_Tuple_spliced ?_
 rw[he2]
 refine Calls.spliced_cons (ha _ _ _ K2 fun h₃ tk₃ k₃=>Calls.spliced_cons (hb _ _ _ (K2.trans k₃) fun h₄ tk₄ k₄=>Calls.spliced_nil ⟨by decide,Calls.spliced_nil ?_⟩))
 refine zGy (cs:=[.type "bytes"]) (Heap.get?_push_size _ rfl) fun tk=> ?_
 exact hQ _ _ tk (k₁.trans (k₂.trans (k₃.trans (k₄.trans (Ext.push _ _))))) (Rd.bool _)
end
end M16
section M17
section
variable {prog:Program} {w:World} {A:Around} {X M:List Addr} {g h h':Heap} {env:Env} {Γ:List (Str×Bd)}
variable {s:Shared} {E:Value→Shared→Prop}
inductive Bds (h:Heap):List (Str×Bd)→List (Str×Value)→Prop
 |nil:Bds h [] []
 |cons {x b v bs vs}:BdIs h b v→Bds h bs vs→Bds h ((x,b)::bs) ((x,v)::vs)
theorem Bds.names {h:Heap} {bs:List (Str×Bd)} {vs:List (Str×Value)} (x:Bds h bs vs):vs.map (·.1)=bs.map (·.1):=by
 induction x with
 |nil=>rfl
 |cons _ _ ih=>simp[ih]
theorem Bds.see {h:Heap} {bs:List (Str×Bd)} {vs:List (Str×Value)} (x:Bds h bs vs) {y:Str} {b:Bd} (e:bs.lookup y=some b):∃v,(y,v)∈vs∧BdIs h b v:=by
 induction x with
 |nil=>simp at e
 |cons a _ ih=>
  rename_i x' b' v' bs' vs' _
  rw[List.lookup_cons]at e
  cases hy:y==x' with
  |true=>
   rw[hy]at e
   cases e
   have:y=x':=by simpa using hy
   subst this
   exact⟨_,by simp,a⟩
  |false=>
   rw[hy]at e
   obtain⟨v,hm,q⟩:=ih e
   exact⟨v,List.mem_cons_of_mem _ hm,q⟩
noncomputable def Leave (prog:Program) (w:World) (A:Around) (env:Env) (E:Value→Shared→Prop):Value→Shared→Prop:=
 fun e s'=>wpAny (model prog w) (A.deeper env) (leaving env e) (fun _ s''=>E e s'') (fun e' s''=>E e' s'') s'
theorem zBc {K:Frag} {f:Addr} {name qual:Str} {params:Arguments} {body:List Stmt} {scope:Scope} {dV kV doc pm cdv ct oc:Value} {an od:Option Addr} {osl:Array (Option Value)} {vs:List Value} {s:Shared} {Q:Value→Shared→Prop} {E:Value→Shared→Prop} {n:Nat} (bs:List (Str×Bd))
 (S:Stat K s.heap) (ho:K.lookup f=some ⟨oc,od, .func (fnOf name qual params body scope dV kV doc pm an cdv ct),osl⟩) (hcd:codeIn K cdv qual=true) (rm:Room A (n+1)) (kx:XOk X s.heap)
 (hbind:∀(A:Around) (Q:List (Str×Value)→Shared→Prop) (E:Value→Shared→Prop),(∀binds h' tk,Ext s.heap h'→ @LE.le Nat _ s.heap.objs.size h'.objs.size→Bds (hid X h') bs binds→Q binds (sat s h' tk))→
  wpAny (model prog w) A (bindArgs (fnOf name qual params body scope dV kV doc pm an cdv ct) ⟨vs,[]⟩) Q E s)
 (hnd:(bs.map (·.1)).Nodup)
 (hkind:(bs.all fun y=>scope.names.lookup y.1==some .local||scope.names.lookup y.1==some .cell)=true)
 (h:∀L h₁ tk,Fn s.heap X [] h₁ (callEnvC (fnOf name qual params body scope dV kV doc pm an cdv ct) L f) bs→
  GEnv (callEnvC (fnOf name qual params body scope dV kV doc pm an cdv ct) L f)→wpAny (model prog w) (A.deeper (callEnvC (fnOf name qual params body scope dV kV doc pm an cdv ct) L f)) (execs body (callEnvC (fnOf name qual params body scope dV kV doc pm an cdv ct) L f))
   (fun fl s'=>Q (match fl with| .ret v=>v|_=> .none) s') (Leave prog w A (callEnvC (fnOf name qual params body scope dV kV doc pm an cdv ct) L f) E) (sat s h₁ tk))
 (hco:scope.isCoroutine=false) (hgen:scope.isGenerator=false) (hk:scope.kind= .function):
 wpAny (model prog w) A (call (.ref f) vs) Q E s:=by
 refine wpAny_call (codeAny_call_function (fd:=fnOf name qual params body scope dV kV doc pm an cdv ct) (body:=body) (by have:=rm.depth;omega) (S.k _ _ ho) rfl hco hgen rfl (codeRec_of S.k hcd) ?_)
 refine hbind _ _ _ fun binds h' tk k' z bb=> ?_
 have nm:=bb.names
 refine wpAny_newFunctionEnv_cells (scope:=scope) hk ?_ fun env he s₁ x=> ?_
 ·intro y hy
  have hm:y.1∈bs.map (·.1):=nm▸List.mem_map_of_mem hy
  obtain⟨z,hz,ez⟩:=List.mem_map.mp hm
  have:=List.all_eq_true.mp hkind z hz
  rw[ez]at this
  rcases Bool.or_eq_true_iff.mp this with q|q
  ·exact .inl (by simpa using q)
  ·have q':scope.names.lookup y.1=some .cell:=by simpa using q
   exact .inr ⟨q',cellsFrom_some _ _ _ (.inl q')⟩
 ·have he':env=callEnvC (fnOf name qual params body scope dV kV doc pm an cdv ct) h'.objs.size f:=he
  clear he
  subst he'
  obtain⟨h₁,tk₁,rfl,k₁⟩:=x.done
  have kk:Ext s.heap h₁:=k'.trans k₁
  refine⟨S.nolimit.keeps kk,codeAny_func ?_⟩
  refine h _ h₁ tk₁ ⟨⟨hk,⟨_,x.toInCall.ns⟩,fun n c e=>⟨_,x.cell n c e⟩,fun n n' c e e'=>name_of_addr x.apart (mem_of_lookup e) (mem_of_lookup e'),?_⟩,kk,?_,?_,(fun _ m=>nomatch m),(fun _ m=>nomatch m),kx.ext kk⟩ (zCp hk)
  ·intro y b e
   obtain⟨v,hv,rv⟩:=bb.see e
   have hb:=zD2 (kindOf:=(callEnvC (fnOf name qual params body scope dV kV doc pm an cdv ct) h'.objs.size f).kindOf) binds (fun _=>none) y v (by rw[nm];exact hnd) hv
   refine⟨v,?_,rv.mono (zAl k₁).s⟩
   have hm:y∈bs.map (·.1):=nm▸List.mem_map_of_mem (f:=(·.1)) hv
   obtain⟨z,hz,ez⟩:=List.mem_map.mp hm
   have:=List.all_eq_true.mp hkind z hz
   rw[ez]at this
   rcases Bool.or_eq_true_iff.mp this with q|q
   ·have q':scope.names.lookup y=some .local:=by simpa using q
    exact .inl ⟨q',_,x.toInCall.ns,hb.1 q'⟩
   ·have q':scope.names.lookup y=some .cell:=by simpa using q
    obtain⟨c,hc⟩:=Option.isSome_iff_exists.mp (cellsFrom_some scope.names (h'.objs.size+1) [] (.inl q'))
    refine .inr ⟨.inl q',c,hc,?_⟩
    have:=x.cell y c hc
    rw[hb.2 (by rw[show(callEnvC (fnOf name qual params body scope dV kV doc pm an cdv ct) h'.objs.size f).kindOf y=some .cell from q'];decide)]at this
    exact this
  ·exact Heap.get?_none_of_le z
  ·intro n c _ e
   have:=x.above n c (mem_of_lookup e)
   exact Heap.get?_none_of_le (Nat.le_trans z (Nat.le_of_lt this))
theorem zEn {fd:FuncData} {ps:List Str} {p:Str} {vs ws:List Value} {bs:List (Str×Bd)} {ds:List PyData} (kx:XOk X s.heap)
 (hb:bindArgs fd ⟨vs++ws,[]⟩=newTuple ws>>=fun t=>pure (ps.zip vs++[(p,t)])) (rb:Bds (hid X s.heap) bs (ps.zip vs)) (rw:Rds (hid X s.heap) ds ws) (hsz:ds.length≤sizeLine):
 ∀(A:Around) (Q:List (Str×Value)→Shared→Prop) (E:Value→Shared→Prop),(∀binds h' tk,Ext s.heap h'→ @LE.le Nat _ s.heap.objs.size h'.objs.size→Bds (hid X h') (bs++[(p, .d (.tuple ds))]) binds→Q binds (sat s h' tk))→
  wpAny (model prog w) A (bindArgs fd ⟨vs++ws,[]⟩) Q E s:=by
 intro A Q E hQ
 rw[hb]
 have k:=Ext.push s.heap {cls:= .type "tuple",data:= .seq ws.toArray}
 refine wpAny_bind (wpAny_newTuple (wpAny_pure ?_) (by rw[rw.length];exact hsz))
 refine hQ _ _ s.toks k (by rw[Heap.size_push];exact Nat.le_succ _) ?_
 have r:=zBw (n:=0) kx (show Rds (hid X s.heap) ds ws.toArray.toList from rw)
 have:∀{bs:List (Str×Bd)} {l:List (Str×Value)},Bds (hid X s.heap) bs l→Bds (hid X (s.heap.push {cls:= .type "tuple",data:= .seq ws.toArray})) (bs++[(p, .d (.tuple ds))]) (l++[(p, .ref s.heap.objs.size)]):=by
  intro bs l x
  induction x with
  |nil=>exact .cons r .nil
  |cons a _ ih=>exact .cons (a.mono (zAl k).s) ih
 exact this rb
theorem zA1 {fd:FuncData} {vs:List Value} {bs:List (Str×Bd)} {binds:List (Str×Value)}
 (hb:bindArgs fd ⟨vs,[]⟩=pure binds) (rb:Bds (hid X s.heap) bs binds):
 ∀(A:Around) (Q:List (Str×Value)→Shared→Prop) (E:Value→Shared→Prop),(∀binds h' tk,Ext s.heap h'→ @LE.le Nat _ s.heap.objs.size h'.objs.size→Bds (hid X h') bs binds→Q binds (sat s h' tk))→
  wpAny (model prog w) A (bindArgs fd ⟨vs,[]⟩) Q E s:=by
 intro A Q E hQ
 rw[hb]
 exact wpAny_pure (hQ _ s.heap s.toks Ext.rfl (Nat.le_refl _) rb)
end
end M17
section M18
section
variable {prog:Program} {w:World} {A:Around} {X M:List Addr} {g h h':Heap} {env:Env} {Γ:List (Str×Bd)}
variable {s:Shared} {E:Value→Shared→Prop} {Q:Flow→Shared→Prop}
theorem zO6 {MM:Model} {v:Value} {x:Str} {Qv:Value→Shared→Prop} (fn:env.scope.kind= .function) (sv:Sees s.heap env x v) (hQ:Qv v s)
 (hc:(x==("__classdict__":Str))=false):wpAny MM A (loadName env x) Qv E s:=by
 rcases sv with⟨a,m,n,em⟩|⟨a|a,c,ec,q⟩
 ·exact wpAny_loadName_local fn a n em hQ
 ·exact wpAny_loadName_cell fn a ec q hQ
 ·exact wpAny_loadName_free fn a ec q hQ hc
theorem zG0 (a b:Str):(a.cps.toList==b.cps.toList)=decide (a=b):=by
 rw[Bool.eq_iff_iff,beq_iff_eq,decide_eq_true_iff]
 exact⟨fun e=>Str.ext' (Array.ext' e),fun e=>e▸rfl⟩
theorem zCu {a b:Str}:CmpIs prog w A .Eq (.str a) (.str b) (decide (a=b)):=fun s u v Q E ra rb hQ=>by
 obtain⟨_,rfl⟩:=Rd.str_inv ⟨rfl,ra⟩
 obtain⟨_,rfl⟩:=Rd.str_inv ⟨rfl,rb⟩
 exact PySem.P.eq_str (by rw[zG0];exact hQ)
theorem zEi {a b:Str}:CmpIs prog w A .NotEq (.str a) (.str b) (!decide (a=b)):=fun s u v Q E ra rb hQ=>by
 obtain⟨_,rfl⟩:=Rd.str_inv ⟨rfl,ra⟩
 obtain⟨_,rfl⟩:=Rd.str_inv ⟨rfl,rb⟩
 refine PySem.P.ne_str ?_
 have:(a.cps.toList !=b.cps.toList)= !decide (a=b):=by rw[←zG0];rfl
 rw[this];exact hQ
theorem ev_muls {l r:Expr} {pos:Pos} {a:Str} {n:Int} (ha:Ev prog w A X h (eval l env) (.str a)) (hb:Ev prog w A X h (eval r env) (.int n)) (ok:MulOk a n):
 Ev prog w A X h (eval (.BinOp l .Mult r pos) env) (.str (Txt.mul a n)):=by
 refine zCd ha hb fun s u v Q E kx ru rv hQ=> ?_
 obtain⟨t,rfl⟩:=ru.str_inv
 obtain⟨t',rfl⟩:=rv.int_inv
 exact SB.mul ok fun t' tk=>hQ _ s.heap _ Ext.rfl (Rd.str _ _)
theorem Fn.weaken {Γ':List (Str×Bd)} (F:Fn g X M h env Γ) (k:∀x b,Γ'.lookup x=some b→Γ.lookup x=some b):Fn g X M h env Γ':=⟨F.is.weaken k,F.kg,F.outL,F.outC,F.outM,F.sub,F.kx⟩
noncomputable def subG:List (Str×Bd)→List (Str×Bd)→Prop
 | [],_=>True
 |(x,b)::r,Γ=>Γ.lookup x=some b∧subG r Γ
theorem zGi:∀{Γ' Γ:List (Str×Bd)},subG Γ' Γ→∀x b,Γ'.lookup x=some b→Γ.lookup x=some b
 | [],_,_,_,_,e=>by simp at e
 |(y,c)::r,Γ,h,x,b,e=>by
  rw[List.lookup_cons]at e
  cases hx:x==y with
  |true=>
   rw[hx]at e
   have:x=y:=by simpa using hx
   subst this
   cases e
   exact h.1
  |false=>
   rw[hx]at e
   exact zGi h.2 x b e
theorem Fn.pick {Γ':List (Str×Bd)} (F:Fn g X M h env Γ) (k:subG Γ' Γ):Fn g X M h env Γ':=F.weaken (zGi k)
theorem zJk {x:Str} {px pos:Pos} {e:Expr} {a b:Str} (F:Fn g X M s.heap env Γ) (hx:Γ.lookup x=some (.d (.str a))) (he:Ev prog w A X s.heap (eval e env) (.str b)) (hy:Stores env x) (hsz:a.length+b.length≤sizeLine)
 (hQ:∀h' tk,Fn g X M h' env ((x, .d (.str (a++b)))::Γ)→Rel [] env s.heap h'→Q .next (sat s h' tk))
 (hc:autoParam ((x==("__classdict__":Str))=false) aD):wpAny (model prog w) A (exec (.AugAssign (.Name x px) .Add e pos) env) Q E s:=by
 refine wpAny_AugAssign_Name ?_
 obtain⟨v,sv,r⟩:=F.is.see x _ hx
 obtain⟨t,rfl⟩:=Rd.str_inv r
 refine zO6 F.is.fn sv (he _ _ _ Ext.rfl F.kx fun u h₁ tk₁ k₁ r₁=> ?_) hc
 obtain⟨t',rfl⟩:=r₁.str_inv
 refine SB.iadd (fun t' tk=> ?_) hsz
 exact zAn (F.ext k₁) hy (b:= .d (.str (a++b))) (Rd.str _ _) fun h' tk F' R'=>hQ h' tk F' (k₁.rel.trans R')
theorem zM1 {body orelse:List Stmt} {h₀:ExceptHandler} {hs:List ExceptHandler} {pos:Pos}
 (h:∀E',wpAny (model prog w) A (execs body env) (fun f s₁=>match f with| .next=>wpAny (model prog w) A (execs orelse env) Q E s₁|f=>Q f s₁) E' s):
 wpAny (model prog w) A (exec (.Try body (h₀::hs) orelse [] pos) env) Q E s:=by
 refine wpAny_Try_except ?_
 exact h _
end
end M18
section M19
section
variable {prog:Program} {w:World} {A:Around} {X M:List Addr} {g h h':Heap} {env:Env} {Γ:List (Str×Bd)}
variable {s:Shared} {E:Value→Shared→Prop} {Q:Flow→Shared→Prop}
theorem zGb {MM:Model} {Qu:Unit→Shared→Prop} (h:Qu () s):wpAny MM A (assignInOrder [] []) Qu E s:=wpAny_pure h
theorem zEt {MM:Model} {t:Value→Sem Unit} {ts:List (Value→Sem Unit)} {v:Value} {vs:List Value} {Qu:Unit→Shared→Prop} (h:wpAny MM A (t v) (fun _ s'=>wpAny MM A (assignInOrder ts vs) Qu E s') E s):wpAny MM A (assignInOrder (t::ts) (v::vs)) Qu E s:=by
 show wpAny MM A (do holding vs (t v);assignInOrder ts vs) Qu E s
 exact wpAny_bind (wpAny_holding (wpAny_mono h (fun _ _ x=>x) fun _ _ x=>x))
inductive BdsV (h:Heap):List Bd→List Value→Prop
 |nil:BdsV h [] []
 |cons {b v bs vs}:BdIs h b v→BdsV h bs vs→BdsV h (b::bs) (v::vs)
theorem BdsV.mono {h h':Heap} (k:SExt h h') {bs:List Bd} {vs:List Value} (x:BdsV h bs vs):BdsV h' bs vs:=by
 induction x with
 |nil=>exact .nil
 |cons a _ ih=>exact .cons (a.mono k) ih
theorem Rds.bds {h:Heap} {ds:List PyData} {vs:List Value} (x:Rds h ds vs):BdsV h (ds.map .d) vs:=by
 induction x with
 |nil=>exact .nil
 |cons a _ ih=>exact .cons (b:= .d _) a ih
noncomputable def pushG:List (Str×Pos)→List Bd→List (Str×Bd)→List (Str×Bd)
 |(x,_)::ns,b::bs,Γ=>pushG ns bs ((x,b)::Γ)
 |_,_,Γ=>Γ
theorem zEq {MM:Model} {Qu:Unit→Shared→Prop}:∀(ns:List (Str×Pos)) (bs:List Bd) (vs:List Value) (Γ:List (Str×Bd)) (s:Shared),ns.length=vs.length→BdsV (hid X s.heap) bs vs→Fn g X M s.heap env Γ→(∀y∈ns,Stores env y.1)→
 (∀h' tk,Fn g X M h' env (pushG ns bs Γ)→Rel [] env s.heap h'→Qu () (sat s h' tk))→wpAny MM A (assignInOrder (ns.map fun y=>assign (.Name y.1 y.2) env) vs) Qu E s:=by
 intro ns
 induction ns with
 |nil=>
  intro bs vs Γ s hl r F _ hQ
  cases r with
  |nil=>exact zGb (hQ s.heap s.toks F Rel.rfl)
  |cons=>simp at hl
 |cons y ns ih=>
  intro bs vs Γ s hl r F hs hQ
  cases r with
  |nil=>simp at hl
  |cons a r=>
   refine zEt (wpAny_assign_Name (zAn F (hs _ List.mem_cons_self) a fun h₁ tk₁ F₁ R₁=> ?_))
   exact ih _ _ _ _ (by simpa using hl) (r.mono (R₁.hid F.is (zAp))) F₁ (fun y hy=>hs y (List.mem_cons_of_mem _ hy)) fun h' tk F' R'=>hQ h' tk F' (R₁.trans R')
theorem zGd {ns:List (Str×Pos)} {es:List Expr} {k:Nat} {tp pos:Pos} {e:Expr} {ds:List PyData} (hh:A.handled=none) (F:Fn g X M s.heap env Γ) (a:Ev prog w A X s.heap (eval e env) (.tuple ds)) (hl:ns.length=ds.length)
 (hy:∀y∈ns,Stores env y.1)
 (hQ:∀h' tk,Fn g X M h' env (pushG ns (ds.map .d) Γ)→Rel [] env s.heap h'→Q .next (sat s h' tk))
 (he:assignEach es env=ns.map fun y=>(false,assign (.Name y.1 y.2) env))
 (hs:swapsWithSole [.Tuple es k tp] e pos.line env=pure false) (hw:swappedStores [.Tuple es k tp] e env=pure none):
 wpAny (model prog w) A (exec (.Assign [.Tuple es k tp] e pos) env) Q E s:=by
 refine wpAny_Assign_stores (a s _ _ Ext.rfl F.kx fun v h₁ tk₁ k₁ r₁=> ?_) hs hw
 obtain⟨T,vs,rfl,it,rs⟩:=r₁.tuple_inv
 have sz:vs.size=ds.length:=by simpa using rs.length
 show wpAny _ A (assign (.Tuple es k tp) env (.ref T)) _ _ _
 refine wpAny_assign_Tuple hh (IsTuple.le it) (by rw[he,List.length_map,hl,sz]) (by rw[he];simp[List.findIdx?_eq_none_iff]) fun h₂ eb=> ?_
 have k₂:Ext h₁ h₂:=fun b o e=>eb b o (by rintro rfl;exact Nat.lt_irrefl _ (Heap.lt_size e)) e
 rw[he,List.map_map]
 refine zEq ns (ds.map .d) vs.toList Γ _ (by simp[hl,sz]) ((rs.mono (zAl k₂).s).bds) ((F.ext k₁).ext k₂) hy fun h' tk F' R'=> ?_
 exact hQ h' tk F' ((k₁.trans k₂).rel.trans R')
theorem zDw {e:Expr} {pos:Pos} {i:Int} (a:Ev prog w A X h (eval e env) (.int i)):Ev prog w A X h (eval (.UnaryOp .USub e pos) env) (.int (-i)):=by
 intro s Q E k kx hQ
 refine wpAny_UnaryOp (a s _ _ k kx fun v h₁ tk₁ k₁ r₁=> ?_)
 obtain⟨t,rfl⟩:=r₁.int_inv
 exact PySem.P.neg_int (hQ _ _ _ k₁ (Rd.int _ _))
noncomputable def frzG (D:Addr) (ds:List PyData):List (Str×Bd)→List (Str×Bd)→Prop
 | [],_=>True
 |(x,b)::r,Γ=>(Γ.lookup x=some b∨(Γ.lookup x=some (.v (.ref D))∧b= .d (.list ds)))∧frzG D ds r Γ
theorem zFm {D:Addr} {ds:List PyData}:∀{Γ' Γ:List (Str×Bd)},frzG D ds Γ' Γ→∀x b,Γ'.lookup x=some b→Γ.lookup x=some b∨(Γ.lookup x=some (.v (.ref D))∧b= .d (.list ds))
 | [],_,_,_,_,e=>by simp at e
 |(y,c)::r,Γ,h,x,b,e=>by
  rw[List.lookup_cons]at e
  cases hx:x==y with
  |true=>
   rw[hx]at e
   have:x=y:=by simpa using hx
   subst this
   cases e
   exact h.1
  |false=>
   rw[hx]at e
   exact zFm h.2 x b e
theorem Fn.thaw {D:Addr} {ds:List PyData} {Γ':List (Str×Bd)} (F:Fn g (D::X) (D::M) h env Γ) (L:OwnList (D::X) h D ds) (hD:D∉X) (sub:∀b∈M,b∈X) (k:frzG D ds Γ' Γ):Fn g X M h env Γ':=F.freeze L hD sub (zFm k)
theorem st_pop {x:Str} {px apos cpos epos:Pos} {D:Addr} {ds:List PyData} {d:PyData} (F:Fn g X M s.heap env Γ) (hx:Γ.lookup x=some (.v (.ref D))) (hD:D∈M) (L:OwnList X s.heap D ds) (hd:ds.getLast? =some d)
 (nr:∀h v,Rd h d v→∀a,v≠ .ref a) (hsz:ds.length≤sizeLine)
 (hQ:∀h' tk,Fn g X M h' env Γ→Rel [D] env s.heap h'→OwnList X h' D ds.dropLast→Q .next (sat s h' tk))
 (hd1:autoParam ((x==("__debug__":Str))=false) aD) (hd2:autoParam ((x==("__classdict__":Str))=false) aD)
 (hi:autoParam (interactive env=false) aR) (hs:autoParam (swapsWith (.Call (.Attribute (.Name x px) "pop" apos) [] [] cpos) none epos.line env=pure false) aR)
 (hbase:autoParam (attributeBase (.Name x px) "pop" env (eval (.Name x px) env)=eval (.Name x px) env) aR) (hline:autoParam ((apos.endLine==cpos.line)=true) aR):
 wpAny (model prog w) A (exec (.Expr (.Call (.Attribute (.Name x px) "pop" apos) [] [] cpos) epos) env) Q E s:=by
 refine wpAny_Expr ?_ hi hs
 refine Call_method0 hbase hline (zAm (prog:=prog) (w:=w) (A:=A) F.is hx hd1 hd2 s _ _ Ext.rfl fun h₁ tk₁ k₁=> ?_)
 have L₁:=L.ext k₁
 obtain⟨ys,pl,r⟩:=id L₁
 refine⟨"list","list.pop",PySem.F.plainAttrs_list,PySem.F.slot_list_pop,PySem.F.type_list_pop,pl.isList.typeIs,zC9 pl,?_⟩
 refine Calls.callWith_builtin rfl (evalArgs_nil3 ?_)
 have e:ys.size=ds.length:=by simpa using r.length
 have hd':ds[ds.length - 1]? =some d:=by rw[←List.getLast?_eq_getElem?];exact hd
 obtain⟨v,ev,rv⟩:=r.get hd'
 refine zDg pl (y:=v) (by rw[e];simpa using ev) (by omega) fun h₂ pl₂ sb=> ?_
 obtain⟨F₂,R₂,S₂⟩:=(F.ext k₁).change hD L₁ (fun b o n e=>sb.extBut b o n e) (let⟨n,e⟩:=pl₂;⟨_,e⟩)
 have fin:=hQ h₂ tk₁ F₂ (k₁.rel.trans R₂) ⟨_,pl₂,by
  rw[Array.toList_pop,List.dropLast_eq_take,List.dropLast_eq_take,show ys.toList.length=ds.length by simpa using e]
  exact(r.mono S₂).take _⟩
 have:=nr _ _ rv
 cases v<;>first|exact fin|exact(this _ rfl).elim
end
end M19
local macro_rules | `(tactic| walk_at "entered") => `(tactic| ((case ho => k_is); (case hcd => k_is); (case hb => rfl); (case kind => rfl); (case hco => rfl); (case hgen => rfl); (case hk => rfl)))
local macro_rules | `(tactic| walk_at "free") => `(tactic| first
 |exact⟨.inl rfl,_,rfl,fun _=>⟨rfl, .inl rfl⟩⟩|exact⟨.inl rfl,_,rfl,fun _=>⟨rfl, .inr rfl⟩⟩|exact⟨.inr rfl,_,rfl,fun _=>⟨rfl, .inl rfl⟩⟩|exact⟨.inr rfl,_,rfl,fun _=>⟨rfl, .inr rfl⟩⟩)
local macro_rules | `(tactic| walk_at "ev") => `(tactic| first
 |with_reducible exact zAo|with_reducible exact zAq|with_reducible exact zJ2|with_reducible exact zOo
 |with_reducible exact zAd (by assumption) rfl
 |(with_reducible refine zDk ?_ ?_<;>walk_at "ev")
 |(with_reducible refine zLe ?_ ?_<;>first|walk_at "ev"|decide)
 |(with_reducible refine zCv ?_ ?_<;>first|walk_at "ev"|decide)
 |with_reducible exact zAd (Fn.is (by assumption)) rfl
 |with_reducible exact zAg
 |(refine zAc ?_ ?_<;>walk_at "ev"))
local macro_rules | `(tactic| walk_at "sh") => do
 let a:=Lean.mkIdent `s'
 let b:=Lean.mkIdent `s₂
 let c:=Lean.mkIdent `s
 `(tactic|first|refine(?_:wpAny _ _ (execs _ _) _ _ (sat $a _ _))|refine(?_:wpAny _ _ (execs _ _) _ _ (sat $b _ _))|refine(?_:wpAny _ _ (execs _ _) _ _ (sat $c _ _))|refine(?_:wpAny _ _ (execs _ _) _ _ _)|skip)
section P0
theorem fill:Challenge.rw_rt0099_01.foot=6∧hd.heap_1=hd.heap_1:=by
 k_fill
 exact⟨rfl,rfl⟩
noncomputable abbrev PR:Program:=Challenge.rw_rt0099_01.row.prog
section
variable {w:World}
theorem zGk:nsIn (hd.heap_1 w.params) mainGlobals "range"=some none:=by k_is
theorem zF4:bootBuiltins "range"=some (.type "range"):=by boot_fast
theorem zGv:nsIn (hd.heap_1 w.params) mainGlobals "len"=some none:=by k_is
theorem zGx:bootBuiltins "len"=some (.builtin "len"):=by boot_fast
theorem zN2:nsIn (hd.heap_1 w.params) mainGlobals "tuple"=some none:=by k_is
theorem zOr:bootBuiltins "tuple"=some (.type "tuple"):=by boot_fast
theorem n_type:nsIn (hd.heap_1 w.params) mainGlobals "type"=some none:=by k_is
theorem b_type:bootBuiltins "type"=some (.type "type"):=by boot_fast
theorem zJc:nsIn (hd.heap_1 w.params) mainGlobals "issubclass"=some none:=by k_is
theorem zIq:bootBuiltins "issubclass"=some (.builtin "issubclass"):=by kernel_rfl
theorem n_str:nsIn (hd.heap_1 w.params) mainGlobals "str"=some none:=by k_is
theorem b_str:bootBuiltins "str"=some (.type "str"):=by boot_fast
theorem zFu:nsIn (hd.heap_1 w.params) mainGlobals "bytes"=some none:=by k_is
theorem zFo:bootBuiltins "bytes"=some (.type "bytes"):=by boot_fast
theorem zDa:nsIn (hd.heap_1 w.params) mainGlobals "isinstance"=some none:=by k_is
theorem zC6:bootBuiltins "isinstance"=some (.builtin "isinstance"):=by boot_fast
theorem n_bool:nsIn (hd.heap_1 w.params) mainGlobals "bool"=some none:=by k_is
theorem b_bool:bootBuiltins "bool"=some (.type "bool"):=by boot_fast
theorem n_set:nsIn (hd.heap_1 w.params) mainGlobals "set"=some none:=by k_is
theorem b_set:bootBuiltins "set"=some (.type "set"):=by boot_fast
theorem n_iter:nsIn (hd.heap_1 w.params) mainGlobals "iter"=some none:=by k_is
theorem b_iter:bootBuiltins "iter"=some (.builtin "iter"):=by boot_fast
theorem n_ord:nsIn (hd.heap_1 w.params) mainGlobals "ord"=some none:=by k_is
theorem b_ord:bootBuiltins "ord"=some (.builtin "ord"):=by boot_fast
theorem zCi:nsIn (hd.heap_1 w.params) mainGlobals "ValueError"=some none:=by k_is
theorem zCh:bootBuiltins "ValueError"=some (.type "ValueError"):=by boot_fast
theorem zFh:nsIn (hd.heap_1 w.params) mainGlobals "StopIteration"=some none:=by k_is
theorem zFz:bootBuiltins "StopIteration"=some (.type "StopIteration"):=by kernel_rfl
theorem zD9:nsIn (hd.heap_1 w.params) mainGlobals "fspath"=some (some (.ref 94)):=by k_is
theorem zFk:nsIn (hd.heap_1 w.params) mainGlobals "_get_sep"=some (some (.ref 108)):=by k_is
theorem zJw:nsIn (hd.heap_1 w.params) mainGlobals "splitroot"=some (some (.ref 122)):=by k_is
theorem zJh:nsIn (hd.heap_1 w.params) mainGlobals "_NodeInfo"=some (some (.ref 155)):=by k_is
end
theorem zCw (a:Int) {b:Int} (h:0<b):0≤a.fmod b∧a.fmod b<b:=⟨Int.fmod_nonneg_of_pos a h,Int.fmod_lt_of_pos a h⟩
theorem zE2 {n:Nat} {d:PyData} (h:d∈upto n):∃k:Nat,k<n∧d= .int (k:Int):=by
 simp only[upto,List.mem_map,List.mem_range]at h
 obtain⟨k,hk,rfl⟩:=h
 exact⟨k,hk,rfl⟩
theorem zOx {prog:Program} {w:World} {A:Around} {X:List Addr} {h:Heap} {env:Env} {l r:Expr} {pos:Pos} {a:Int} {n:Nat} (ha:Ev prog w A X h (eval l env) (.int a)) (hb:Ev prog w A X h (eval r env) (.int (n:Int))) (h1:n≤1000000) (h2:autoParam (a.natAbs<2 ^ 64) aD):
 Ev prog w A X h (eval (.BinOp l .Pow r pos) env) (.int (a ^ n)):=ev_pow ha hb (by omega) (by omega) h2
theorem zBd {α:Type} (l:List α):l.filter (fun _=>true)=l:=by simp
end P0
section P1
section
variable {w:World} {A:Around} {X:List Addr} {h:Heap}
noncomputable def dig (x:Int) (k:Nat) (b:Int):Int:=((x.fdiv 3).fdiv (b ^ k)).fmod b
noncomputable def menu4:List Str:=["..",".","a","ä"]
noncomputable def wayParts (x:Int):List Str:=(List.range (1+x.fmod 3).toNat).map fun k=>menu4.getD (dig x k 4).toNat Str.empty
noncomputable def wayS (x:Int):Str:=(["","/"]:List Str).getD ((x.fdiv 192).fmod 2).toNat Str.empty++Txt.join "/" (wayParts x)
noncomputable def wayF (x:Int):PyData→PyData
 | .int k=> .str (menu4.getD (dig x k.toNat 4).toNat Str.empty)
 |_=> .none
theorem zO7 (i:Int) (h0:0≤i) (h1:i<4):(menu4.map PyData.str)[i.toNat]? =some (.str (menu4.getD i.toNat Str.empty)):=by
 obtain⟨n,rfl⟩:=Int.eq_ofNat_of_zero_le h0
 have:n<4:=by omega
 match n,this with
 |0,_=>rfl
 |1,_=>rfl
 |2,_=>rfl
 |3,_=>rfl
theorem two_get (i:Int) (h0:0≤i) (h1:i<2):((["","/"]:List Str).map PyData.str)[i.toNat]? =some (.str ((["","/"]:List Str).getD i.toNat Str.empty)):=by
 obtain⟨n,rfl⟩:=Int.eq_ofNat_of_zero_le h0
 have:n<2:=by omega
 match n,this with
 |0,_=>rfl
 |1,_=>rfl
theorem zIv (n:Nat):(menu4.getD n Str.empty).length≤2:=
 match n with
 |0|1|2|3=>by decide
 |n+4=>by simp[menu4,Str.empty,Str.length]
theorem two_len (n:Nat):((["","/"]:List Str).getD n Str.empty).length≤1:=
 match n with
 |0|1=>by decide
 |n+2=>by simp[Str.empty,Str.length]
theorem zP7 (x:Int):(wayS x).length≤100:=by
 have m3:=zCw x (show(0:Int)<3 by decide)
 have h1:=two_len ((x.fdiv 192).fmod 2).toNat
 have h2:=StrLaws.join_length_le "/" (wayParts x)
 have h3:=zDb 2 (wayParts x) (fun y hy=>by
  simp only[wayParts,List.mem_map]at hy
  obtain⟨k,_,rfl⟩:=hy
  exact zIv _)
 have h4:(wayParts x).length≤3:=by simp[wayParts];omega
 rw[wayS,Str.length_append]
 have h5:(Txt.join "/" (wayParts x)).length≤_:=Nat.le_trans (Nat.le_of_eq (congrArg Str.length (StrLaws.glued_eq_join "/" (wayParts x)))) h2
 have:("/":Str).length=1:=rfl
 rw[this]at h5
 omega
theorem zE1 (n:Nat):(upto n).length=n:=by simp[upto]
theorem way_is (S:Stat (hd.heap_1 w.params) h) (rm:Room A 3) (x:Int):CallIs PR w A X h (.ref 280) [.int x] (.str (wayS x)):=by
 intro s vs Q E k kx r hQ
 obtain⟨v,rfl,rv⟩:=r.one
 refine' zCb (n:=2) (ps:=["x"]) (S.mono k) ?ho ?hcd rm kx r ?hb rfl (by decide) ?kind ?_ ?hco ?hgen ?hk
 walk_at "entered"
 intro h₁ tk F G E'
 have S₁:=(S.mono k).mono F.kg
 have m3:=zCw x (show(0:Int)<3 by decide)
 have I:=F.is
 refine zAa ?_
 refine zBo (ds:=upto (1+x.fmod 3).toNat) ["x"] F ?_ (fun _=>true) (wayF x) ?_ ?_ rfl rfl ?_ rfl ?_
 ·refine zC8 (rm.deeper _).hand (zAe S₁ G zGk zF4) ?_ ?_
  ·refine Ev.eq (b:= .int (1+x.fmod 3)) ?_ ?_
   ·walk_at "ev"
   ·congr 1;omega
  ·omega
 ·intro C X' h₂ d hd k₂ I'
  obtain⟨j,hj,rfl⟩:=zE2 hd
  have hj3:(j:Int)<3:=by omega
  have m4:=zCw ((x.fdiv 3).fdiv (4 ^ j)) (show(0:Int)<4 by decide)
  refine⟨zBs,fun _=> ?_⟩
  refine zEh (xs:=[.str "..", .str ".", .str "a", .str "ä"]) (i:=dig x j 4) ?_ ?_ ?_ ?_ ?_
  ·refine zAr ?_
   walk_at "ev"
  ·refine zLe ?_ zAo
   refine zCv (b:=4 ^ j) ?_ ?_ ?_ ?_
   ·walk_at "ev"
   ·exact zOx zAo (zAd I' rfl) (by omega)
   ·exact Int.ne_of_gt (Int.pow_pos (by decide))
   ·rw[Int.natAbs_pow]
    exact Nat.lt_of_le_of_lt (Nat.pow_le_pow_right (n:=4) (i:=j) (j:=2) (by decide) (by omega)) (by decide)
  ·exact m4.1
  ·exact zO7 _ m4.1 m4.2
  ·have:=m4.2;unfold dig;omega
 ·rw[zE1];unfold sizeLine;omega
 ·exact fun y hy=>by
   simp only[List.mem_singleton]at hy;subst hy
   walk_at "free"
 ·intro h₂ tk₂ F₂ R₂
  have I₂:=F₂.is
  have S₂:=(S.mono k).mono F₂.kg
  have m2:=zCw (x.fdiv 192) (show(0:Int)<2 by decide)
  refine zAa ?_
  refine zAz (d:= .str (wayS x)) F₂ ?_ ?_
  ·refine zC1 (a:=(["","/"]:List Str).getD ((x.fdiv 192).fmod 2).toNat Str.empty) (b:=Txt.join "/" (wayParts x)) ?_ ?_ ?_
   ·refine zEh (xs:=[.str "", .str "/"]) (i:=(x.fdiv 192).fmod 2) ?_ ?_ ?_ ?_ ?_
    ·refine zAr ?_
     walk_at "ev"
    ·walk_at "ev"
    ·exact m2.1
    ·exact two_get _ m2.1 m2.2
    ·omega
   ·refine zFj (ys:=wayParts x) zAq ?_ (by decide) ?_ ?_
    ·refine Ev.eq (zAd I₂ rfl) ?_
     simp only[zBd,upto,List.map_map,wayParts]
     rfl
    ·simp[wayParts];omega
    ·intro y hy
     simp only[wayParts,List.mem_map]at hy
     obtain⟨k,_,rfl⟩:=hy
     exact Nat.le_trans (zIv _) (by decide)
   ·have:=zP7 x
    rw[wayS,Str.length_append]at this
    unfold sizeLine;omega
  ·intro v h₃ tk₃ F₃ k₃ r₃
   exact hQ v h₃ tk₃ F₃.kg r₃
end
end P1
section P2
section
variable {w:World} {A:Around} {X:List Addr} {h:Heap}
theorem zC7 (S:Stat (hd.heap_1 w.params) h) (rm:Room A 3) (x:Str):CallIs PR w A X h (.ref 94) [.str x] (.str x):=by
 intro s vs Q E k kx r hQ
 obtain⟨v,rfl,rv⟩:=r.one
 refine' zCb (n:=2) (ps:=["path"]) (S.mono k) ?ho ?hcd rm kx r ?hb rfl (by decide) ?kind ?_ ?hco ?hgen ?hk
 walk_at "entered"
 intro h₁ tk F G E'
 have S₁:=(S.mono k).mono F.kg
 refine zAa (zCo (u:= .type "str") F ?_ (.inl rfl) fun h₂ tk₂ F₂ R₂=> ?_)
 ·exact zI6 (zAe S₁ G n_type b_type) (zAd F.is.nil rfl)
 have S₂:=(S.mono k).mono F₂.kg
 refine zAa (zBj (c:=true) F₂ ?_ fun h₃ tk₃ k₃ F₃=>⟨fun _=> ?_,fun e=>nomatch e⟩)
 ·refine zBl (d:= .bool true) ?_ trivial
  exact zPd (zAe S₂ G zJc zIq) (zAm F₂.is rfl) (zAe S₂ G n_str b_str) (zAe S₂ G zFu zFo)
 ·exact zAa (zAz F₃ (zAd F₃.is rfl) fun v h' tk' F' k' r'=>hQ v h' tk' F'.kg r')
end
end P2
section P3
section
variable {w:World} {A:Around} {X:List Addr} {h:Heap}
theorem zG6 (S:Stat (hd.heap_1 w.params) h) (rm:Room A 3) (x:Str):CallIs PR w A X h (.ref 108) [.str x] (.str "/"):=by
 intro s vs Q E k kx r hQ
 obtain⟨v,rfl,rv⟩:=r.one
 refine' zCb (n:=2) (ps:=["path"]) (S.mono k) ?ho ?hcd rm kx r ?hb rfl (by decide) ?kind ?_ ?hco ?hgen ?hk
 walk_at "entered"
 intro h₁ tk F G E'
 have S₁:=(S.mono k).mono F.kg
 walk_at "sh"
 refine zAa (zBj (c:=false) F ?_ fun h₂ tk₂ k₂ F₂=>⟨fun e=>(nomatch e),fun _=> ?_⟩)
 ·refine zBl (d:= .bool false) ?_ trivial
  exact zBe (zAe S₁ G zDa zC6) (zAd F.is rfl) (zAe S₁ G zFu zFo)
 ·exact zAa (zAz F₂ zAq fun v h' tk' F' k' r'=>hQ v h' tk' F'.kg r')
noncomputable def rootS (x:Str):PyData:=
 if(!decide (Txt.slice x none (some 1)="/"))=true then .tuple [.str "", .str "", .str x]
 else if(!decide (Txt.slice x (some 1) (some 2)="/")||decide (Txt.slice x (some 2) (some 3)="/"))=true then .tuple [.str "", .str "/", .str (Txt.slice x (some 1) none)]
 else .tuple [.str "", .str (Txt.slice x none (some 2)), .str (Txt.slice x (some 2) none)]
theorem zJb (S:Stat (hd.heap_1 w.params) h) (rm:Room A 6) (x:Str) (hx:x.length≤10000):CallIs PR w A X h (.ref 122) [.str x] (rootS x):=by
 intro s vs Q E k kx r hQ
 obtain⟨v,rfl,rv⟩:=r.one
 refine' zCb (n:=5) (ps:=["p"]) (S.mono k) ?ho ?hcd rm kx r ?hb rfl (by decide) ?kind ?_ ?hco ?hgen ?hk
 walk_at "entered"
 intro h₁ tk F G E'
 have S₁:=(S.mono k).mono F.kg
 walk_at "sh"
 refine zAa (zAi (d:= .str x) F ?_ (.inl rfl) fun h₂ tk₂ F₂ R₂=> ?_)
 ·refine zAt S₁ (zAj S₁ G zD9) (by k_is) rfl (zAc (zAd F.is rfl) zAg) (zC7 S₁ (Room.le (rm.deeper _) (by decide)) x)
 have S₂:=(S.mono k).mono F₂.kg
 walk_at "sh"
 refine zAa (zBj (c:=false) F₂ ?_ fun h₃ tk₃ k₃ F₃=>⟨fun e=>(nomatch e),fun _=> ?_⟩)
 ·refine zBl (d:= .bool false) ?_ trivial
  exact zBe (zAe S₂ G zDa zC6) (zAd F₂.is rfl) (zAe S₂ G zFu zFo)
 walk_at "sh"
 refine zAa (zAi (d:= .str "/") F₃ zAq (.inl rfl) fun h₄ tk₄ F₄ R₄=> ?_)
 walk_at "sh"
 refine zAa (zAi (d:= .str "") F₄ zAq (.inl rfl) fun h₅ tk₅ F₅ R₅=> ?_)
 refine wpAny_execs_nil ?_
 have sl:∀x:Str,x.length≤10000→x.length≤sizeLine:=fun x h=>by unfold sizeLine;omega
 walk_at "sh"
 refine zAa (zBj (c:= !decide (Txt.slice x none (some 1)="/")) F₅ ?_ fun h₆ tk₆ k₆ F₆=>⟨fun e=> ?_,fun e=> ?_⟩)
 ·exact zAs (zAy (zAd F₅.is rfl) pNone (pEv zAo) (sl x hx)) (zAd F₅.is rfl) zEi
 ·refine zAa (zAz (d:= .tuple [.str "", .str "", .str x]) F₆ (zBr ?_) fun v h' tk' F' k' r'=>hQ v h' tk' F'.kg ?_)
  ·walk_at "ev"
  ·rw[rootS,if_pos e];exact r'
 ·refine zAa ?_
  refine zBj (c:= !decide (Txt.slice x (some 1) (some 2)="/")||decide (Txt.slice x (some 2) (some 3)="/")) F₆ ?_ fun h₇ tk₇ k₇ F₇=>⟨fun e'=> ?_,fun e'=> ?_⟩
  ·refine zHq ?_ fun _=> ?_
   ·exact zAs (zAy (zAd F₆.is rfl) (pEv zAo) (pEv zAo) (sl x hx)) (zAd F₆.is rfl) zEi
   ·exact zAs (zAy (zAd F₆.is rfl) (pEv zAo) (pEv zAo) (sl x hx)) (zAd F₆.is rfl) zCu
  ·refine zAa (zAz (d:= .tuple [.str "", .str "/", .str (Txt.slice x (some 1) none)]) F₇ (zBr ?_) fun v h' tk' F' k' r'=>hQ v h' tk' F'.kg ?_)
   ·exact zAc (zAd F₇.is rfl) (zAc (zAd F₇.is rfl) (zAc (zAy (zAd F₇.is rfl) (pEv zAo) pNone (sl x hx)) zAg))
   ·rw[rootS,if_neg (by rw[e];decide),if_pos e'];exact r'
  ·refine zAa (zAz (d:= .tuple [.str "", .str (Txt.slice x none (some 2)), .str (Txt.slice x (some 2) none)]) F₇ (zBr ?_) fun v h' tk' F' k' r'=>hQ v h' tk' F'.kg ?_)
   ·exact zAc (zAd F₇.is rfl) (zAc (zAy (zAd F₇.is rfl) pNone (pEv zAo) (sl x hx)) (zAc (zAy (zAd F₇.is rfl) (pEv zAo) pNone (sl x hx)) zAg))
   ·rw[rootS,if_neg (by rw[e];decide),if_neg (by rw[e'];decide)];exact r'
end
end P3
section P4
section
variable {w:World} {A:Around} {X:List Addr} {h:Heap}
noncomputable def headS (x:Str):Str:=Txt.slice x none (some (Txt.rfind x "/"+1))
noncomputable def dirS (x:Str):Str:=if(((headS x).length:Int) !=0&& !decide (headS x=Txt.mul "/" (headS x).length))=true then Txt.rstripChars (headS x) "/" else headS x
open Builtin Builtin.Str in
theorem zD3 (x:Str) (lo hi:Option Int):(Txt.slice x lo hi).length≤x.length:=by
 unfold Txt.slice
 split
 ·exact Nat.le_refl _
 ·have h1:=sliceIndices_le lo hi x.length
  have h2:=List.length_filterMap_le (fun i=>x.cps[i]?) (strSliceIndices lo hi 1 x.length)
  show((strSliceIndices lo hi 1 x.length).filterMap (x.cps[·]?)).toArray.size≤_
  rw[List.size_toArray]
  exact Nat.le_trans h2 h1
open Builtin Builtin.Str in
theorem zOk (n:Nat) (hn:n≤10000):MulOk "/" (n:Int):=by
 have h1:("/":Str).length=1:=rfl
 refine⟨?_,fun _ _=> ?_,fun _ _=> ?_⟩
 ·simp only[Bool.or_eq_false_iff,decide_eq_false_iff_not];omega
 ·rw[h1]
  have h2:(9223372036854775807:Int) / 10000≤9223372036854775807 / (n:Int):=by
   rw[Int.le_ediv_iff_mul_le (by omega)]
   have:(9223372036854775807:Int) / 10000 * n≤9223372036854775807 / 10000 * 10000:=Int.mul_le_mul_of_nonneg_left (by omega) (by decide)
   omega
  show¬((1:Nat):Int)>9223372036854775807 / (n:Int)
  omega
 ·rw[h1]
  unfold tooLong sizeLine
  simp only[decide_eq_false_iff_not];omega
theorem zG1 (S:Stat (hd.heap_1 w.params) h) (rm:Room A 6) (x:Str) (hx:x.length≤10000):CallIs PR w A X h (.ref 129) [.str x] (.str (dirS x)):=by
 intro s vs Q E k kx r hQ
 obtain⟨v,rfl,rv⟩:=r.one
 refine' zCb (n:=5) (ps:=["p"]) (S.mono k) ?ho ?hcd rm kx r ?hb rfl (by decide) ?kind ?_ ?hco ?hgen ?hk
 walk_at "entered"
 intro h₁ tk F G E'
 have S₁:=(S.mono k).mono F.kg
 walk_at "sh"
 refine zAa (zAi (d:= .str x) F ?_ (.inl rfl) fun h₂ tk₂ F₂ R₂=> ?_)
 ·refine zAt S₁ (zAj S₁ G zD9) (by k_is) rfl (zAc (zAd F.is rfl) zAg) (zC7 S₁ (Room.le (rm.deeper _) (by decide)) x)
 have S₂:=(S.mono k).mono F₂.kg
 walk_at "sh"
 refine zAa (zAi (d:= .str "/") F₂ ?_ (.inl rfl) fun h₃ tk₃ F₃ R₃=> ?_)
 ·refine zAt S₂ (zAj S₂ G zFk) (by k_is) rfl (zAc (zAd F₂.is rfl) zAg) (zG6 S₂ (Room.le (rm.deeper _) (by decide)) x)
 have sl:∀x:Str,x.length≤10000→x.length≤sizeLine:=fun x h=>by unfold sizeLine;omega
 have hh:(headS x).length≤10000:=Nat.le_trans (zD3 x _ _) hx
 have S₃:=(S.mono k).mono F₃.kg
 walk_at "sh"
 refine zAa (zAi (d:= .int (Txt.rfind x "/"+1)) F₃ ?_ (.inl rfl) fun h₄ tk₄ F₄ R₄=> ?_)
 ·exact zDk (zPh (zAd F₃.is rfl) (zAd F₃.is rfl)) zAo
 walk_at "sh"
 refine zAa (zAi (d:= .str (headS x)) F₄ ?_ (.inl rfl) fun h₅ tk₅ F₅ R₅=> ?_)
 ·exact zAy (zAd F₄.is rfl) pNone (pEv (zAd F₄.is rfl)) (sl x hx)
 have S₅:=(S.mono k).mono F₅.kg
 walk_at "sh"
 refine zAa (zBj (c:=((headS x).length:Int) !=0&& !decide (headS x=Txt.mul "/" (headS x).length)) F₅ ?_ fun h₆ tk₆ k₆ F₆=>⟨fun e=> ?_,fun e=> ?_⟩)
 ·refine zCt (zBl (d:= .str (headS x)) (zAd F₅.is rfl) (by show(headS x).length≤2 ^ 24;omega)) fun _=> ?_
  refine zAs (zAd F₅.is rfl) (ev_muls (zAd F₅.is rfl) ?_ ?_) zEi
  ·exact zA3 (zAe S₅ G zGv zGx) (zAc (zAd F₅.is rfl) zAg) (zHe (by omega))
  ·exact zOk _ hh
 ·refine zAa (zAi (d:= .str (Txt.rstripChars (headS x) "/")) F₆ ?_ (.inl rfl) fun h₇ tk₇ F₇ R₇=> ?_)
  ·exact zNu (zAd F₆.is rfl) (zAd F₆.is rfl) hh
  refine wpAny_execs_nil (zAa (zAz F₇ (zAd F₇.is rfl) fun v h' tk' F' k' r'=>hQ v h' tk' F'.kg ?_))
  rw[dirS,if_pos e];exact r'
 ·refine wpAny_execs_nil (zAa (zAz F₆ (zAd F₆.is rfl) fun v h' tk' F' k' r'=>hQ v h' tk' F'.kg ?_))
  rw[dirS,if_neg (by rw[e];decide)];exact r'
end
end P4
section P5
section
variable {w:World} {A:Around} {X:List Addr} {h:Heap}
noncomputable def joinS (a b:Str):Str:=if(Txt.startswith b "/"|| !((a.length:Int) !=0))=true then b else if Txt.endswith a "/"=true then a++b else a++("/"++b)
theorem zKw (S:Stat (hd.heap_1 w.params) h) (rm:Room A 6) (a b:Str) (ha:a.length≤10000) (hb:b.length≤10000):CallIs PR w A X h (.ref 115) [.str a, .str b] (.str (joinS a b)):=by
 intro s vs Q E k kx r hQ
 obtain⟨u,v,rfl,ru,rv⟩:=r.two
 refine' zBc (n:=5) [("a", .d (.str a)),("p", .d (.tuple [.str b]))] (S.mono k) ?ho ?hcd rm kx ?hb (show(["a","p"]:List Str).Nodup by decide) ?kind ?_ ?hco ?hgen ?hk
 case ho=>k_is
 case hcd=>k_is
 case kind=>rfl
 case hco=>rfl
 case hgen=>rfl
 case hk=>rfl
 case hb=>exact zEn (ps:=["a"]) (vs:=[u]) (ws:=[v]) (p:="p") (bs:=[("a", .d (.str a))]) (ds:=[.str b]) kx rfl (.cons ru .nil) (.cons rv .nil) (by simp[sizeLine])
 intro L h₁ tk F G
 refine opqQ fun T0 hT0=>opqE fun EE0 _=> ?_
 have S₁:=(S.mono k).mono F.kg
 have sl:a.length+("/"++b).length≤sizeLine:=by
  rw[Str.length_append]
  have:("/":Str).length=1:=rfl
  unfold sizeLine;omega
 walk_at "sh"
 refine zAa (zAi (d:= .str a) F ?_ (.inl rfl) fun h₂ tk₂ F₂ R₂=> ?_)
 ·refine zAt S₁ (zAj S₁ G zD9) (by k_is) rfl (zAc (zAd F.is rfl) zAg) (zC7 S₁ (Room.le (rm.deeper _) (by decide)) a)
 have S₂:=(S.mono k).mono F₂.kg
 walk_at "sh"
 refine zAa (zAi (d:= .str "/") F₂ ?_ (.inl rfl) fun h₃ tk₃ F₃ R₃=> ?_)
 ·refine zAt S₂ (zAj S₂ G zFk) (by k_is) rfl (zAc (zAd F₂.is rfl) zAg) (zG6 S₂ (Room.le (rm.deeper _) (by decide)) a)
 walk_at "sh"
 refine zAa (zAi (d:= .str a) F₃ (zAd F₃.is rfl) (.inl rfl) fun h₄ tk₄ F₄ R₄=> ?_)
 walk_at "sh"
 refine zAa (zM1 fun E'=> ?_)
 refine zAa ?_
 refine zG2 (ds:=[.str b]) (zDz (rm.deeper _).hand (zAd F₄.is rfl))
  (fun i=>match i with|0=>[("path", .d (.str a)),("sep", .d (.str "/"))]|_=>[("path", .d (.str (joinS a b))),("sep", .d (.str "/"))]) (fun _ _=>True)
  (F₄.pick ⟨rfl,rfl,trivial⟩) (fun _ _=>trivial) (.inl rfl) (fun _ _ _ _ _ _ _ _=>trivial) (fun _ _ _ _ _ _=>trivial) ?_ ?_
 ·rintro i d s' E'' hd F₅ -
  obtain⟨rfl,rfl⟩:i=0∧d= .str b:=by
   match i,hd with
   |0,hd=>simp at hd;exact⟨rfl,hd.symm⟩
   |i+1,hd=>simp at hd
  refine opqQ fun T hT=>opqE fun EE _=> ?_
  have S₅:=(S.mono k).mono F₅.kg
  walk_at "sh"
  refine zAa (zAi (d:= .str b) F₅ ?_ (.inl rfl) fun h₆ tk₆ F₆ R₆=> ?_)
  ·refine zAt S₅ (zAj S₅ G zD9) (by k_is) rfl (zAc (zAd F₅.is rfl) zAg) (zC7 S₅ (Room.le (rm.deeper _) (by decide)) b)
  walk_at "sh"
  refine zAa (zBj (c:=Txt.startswith b "/"|| !((a.length:Int) !=0)) F₆ ?_ fun h₇ tk₇ k₇ F₇=>⟨fun e=> ?_,fun e=> ?_⟩)
  ·refine zHq (zBl (d:= .bool (Txt.startswith b "/")) (zHt (zAd F₆.is rfl) (zAd F₆.is rfl)) trivial) fun _=> ?_
   exact zF8 (zBl (d:= .str a) (zAd F₆.is rfl) (by show a.length≤2 ^ 24;omega))
  ·refine zAa (zAi (d:= .str b) F₇ (zAd F₇.is rfl) (.inl rfl) fun h₈ tk₈ F₈ R₈=> ?_)
   refine wpAny_execs_nil (wpAny_execs_nil (hT _ _ ⟨h₈,tk₈,rfl,F₈.pick ?_,trivial,R₆.trans (k₇.rel.trans R₈)⟩))
   exact⟨by rw[joinS,if_pos e];rfl,rfl,trivial⟩
  ·refine zAa (zBj (c:=Txt.endswith a "/") F₇ ?_ fun h₈ tk₈ k₈ F₈=>⟨fun e'=> ?_,fun e'=> ?_⟩)
   ·exact zBl (d:= .bool (Txt.endswith a "/")) (zGh (zAd F₇.is rfl) (zAd F₇.is rfl)) trivial
   ·refine zAa (zJk (a:=a) (b:=b) F₈ rfl (zAd F₈.is rfl) (.inl rfl) (by unfold sizeLine;omega) fun h₉ tk₉ F₉ R₉=> ?_)
    refine wpAny_execs_nil (wpAny_execs_nil (wpAny_execs_nil (hT _ _ ⟨h₉,tk₉,rfl,F₉.pick ?_,trivial,R₆.trans (k₇.rel.trans (k₈.rel.trans R₉))⟩)))
    exact⟨by rw[joinS,if_neg (by rw[e];decide),if_pos e'];rfl,rfl,trivial⟩
   ·refine zAa (zJk (a:=a) (b:="/"++b) F₈ rfl (zC1 (zAd F₈.is rfl) (zAd F₈.is rfl) ?_) (.inl rfl) sl fun h₉ tk₉ F₉ R₉=> ?_)
    ·have:("/":Str).length=1:=rfl
     unfold sizeLine;omega
    refine wpAny_execs_nil (wpAny_execs_nil (wpAny_execs_nil (hT _ _ ⟨h₉,tk₉,rfl,F₉.pick ?_,trivial,R₆.trans (k₇.rel.trans (k₈.rel.trans R₉))⟩)))
    exact⟨by rw[joinS,if_neg (by rw[e];decide),if_neg (by rw[e'];decide)];rfl,rfl,trivial⟩
 ·intro h₅ tk₅ E'' F₅ _ _
  refine wpAny_execs_nil (wpAny_execs_nil (wpAny_execs_nil ?_))
  exact zAa (zAz F₅ (zAd F₅.is rfl) fun v h' tk' F' k' r'=>hT0 _ _ (hQ v h' tk' F'.kg r'))
end
end P5
section P6
section
variable {w:World} {A:Around} {X:List Addr} {h:Heap}
noncomputable def rootT (x:Str):Str×Str×Str:=
 if(!decide (Txt.slice x none (some 1)="/"))=true then("","",x)
 else if(!decide (Txt.slice x (some 1) (some 2)="/")||decide (Txt.slice x (some 2) (some 3)="/"))=true then("","/",Txt.slice x (some 1) none)
 else("",Txt.slice x none (some 2),Txt.slice x (some 2) none)
theorem zPc (x:Str):rootS x= .tuple [.str (rootT x).1, .str (rootT x).2.1, .str (rootT x).2.2]:=by
 unfold rootS rootT
 split
 ·rfl
 ·split
  ·rfl
  ·rfl
theorem zM7 (x:Str):(rootT x).2.1.length≤x.length+2∧(rootT x).2.2.length≤x.length:=by
 unfold rootT
 split
 ·exact⟨Nat.zero_le _,Nat.le_refl _⟩
 ·split
  ·exact⟨Nat.le_add_left _ _|>Nat.le_trans (by decide:("/":Str).length≤2),zD3 _ _ _⟩
  ·exact⟨Nat.le_trans (zD3 _ _ _) (Nat.le_add_right _ _),zD3 _ _ _⟩
noncomputable def normStep (sl:Str) (nc:List Str) (c:Str):List Str:=
 if(!((c.length:Int) !=0)||decide (c="."))=true then nc
 else if(!decide (c="..")||((!((sl.length:Int) !=0)&& !!(nc.map PyData.str).isEmpty)||(!(nc.map PyData.str).isEmpty&&decide (nc.getLast?.getD Str.empty=".."))))=true then nc++[c]
 else if(!(nc.map PyData.str).isEmpty)=true then nc.dropLast else nc
noncomputable def normS (x:Str):Str:=
 if(!((x.length:Int) !=0))=true then "."
 else
  let r:=(rootT x).2.1++Txt.join "/" ((Txt.split (rootT x).2.2 "/").foldl (normStep (rootT x).2.1) [])
  if((r.length:Int) !=0)=true then r else "."
theorem zJj (sl:Str) (nc:List Str) (c:Str):(normStep sl nc c).length≤nc.length+1:=by
 unfold normStep
 split
 ·omega
 ·split
  ·simp
  ·split
   ·simp;omega
   ·omega
theorem zJp (sl:Str) (nc:List Str) (c y:Str) (h:y∈normStep sl nc c):y∈nc∨y=c:=by
 unfold normStep at h
 split at h
 ·exact .inl h
 ·split at h
  ·rcases List.mem_append.mp h with h|h
   ·exact .inl h
   ·exact .inr (by simpa using h)
  ·split at h
   ·exact .inl ((List.dropLast_sublist nc).subset h)
   ·exact .inl h
theorem zJs (sl:Str):∀(cs nc:List Str),(cs.foldl (normStep sl) nc).length≤nc.length+cs.length∧∀y∈cs.foldl (normStep sl) nc,y∈nc∨y∈cs
 | [],nc=>⟨Nat.le_refl _,fun y h=> .inl h⟩
 |c::cs,nc=>by
  obtain⟨h1,h2⟩:=zJs sl cs (normStep sl nc c)
  have h3:=zJj sl nc c
  refine⟨by simp only[List.foldl_cons,List.length_cons];omega,fun y hy=> ?_⟩
  rcases h2 y hy with h|h
  ·rcases zJp sl nc c y h with h|h
   ·exact .inl h
   ·exact .inr (by simp[h])
  ·exact .inr (List.mem_cons_of_mem _ h)
open Builtin Builtin.Str in
theorem zH8 (x:Str) (wd:Nat):∀(cuts:List Nat) (a:Nat),∀y∈StrLaws.partsFrom x wd a cuts,y.length≤x.length:=by
 have sub:∀i j,(strSub x i j).length≤x.length:=fun i j=>by
  show(strSub x i j).cps.size≤x.cps.size
  rw[←Array.length_toList,StrLaws.strSub_toList,List.length_take,List.length_drop,Array.length_toList]
  exact Nat.le_trans (Nat.min_le_right _ _) (Nat.sub_le _ _)
 intro cuts
 induction cuts with
 |nil=>intro a y hy;simp only[StrLaws.partsFrom,List.mem_singleton]at hy;subst hy;exact sub _ _
 |cons c r ih=>
  intro a y hy
  simp only[StrLaws.partsFrom,List.mem_cons]at hy
  rcases hy with rfl|hy
  ·exact sub _ _
  ·exact ih _ y hy
open Builtin Builtin.Str in
theorem zIe (x y:Str):(Txt.split x y).length≤x.length+2∧∀z∈Txt.split x y,z.length≤x.length:=by
 unfold Txt.split
 split
 ·exact⟨by simp,fun z hz=>by simp only[List.mem_singleton]at hz;subst hz;exact Nat.le_refl _⟩
 ·split
  ·exact⟨by simp,fun z hz=>by simp only[List.mem_singleton]at hz;subst hz;exact Nat.le_refl _⟩
  ·rw[StrLaws.partsBetween_eq]
   refine⟨?_,zH8 _ _ _ _⟩
   rw[zB6]
   have:=StrLaws.occ_length_le x y 0 x.length (x.length+1)
   omega
theorem zA2 {α β:Type} (f:β→α→β) (b:β) (l:List α) {i:Nat} {a:α} (h:l[i]? =some a):(l.take (i+1)).foldl f b=f ((l.take i).foldl f b) a:=by
 rw[zA5 h,List.foldl_append];rfl
theorem zGj (l:List Str) (d:Str) (h:l.getLast? =some d):(l.map PyData.str).getLast? =some (.str d):=by
 rw[List.getLast?_map,h];rfl
noncomputable abbrev nG (sl:Str) (D:Addr):List (Str×Bd):=[("initial_slashes", .d (.str sl)),("sep", .d (.str "/")),("dot", .d (.str ".")),("dotdot", .d (.str "..")),("new_comps", .v (.ref D))]
theorem zKa (S:Stat (hd.heap_1 w.params) h) (rm:Room A 9) (x:Str) (hx:x.length≤500):CallIs PR w A X h (.ref 136) [.str x] (.str (normS x)):=by
 intro s vs Q E k kx r hQ
 obtain⟨v,rfl,rv⟩:=r.one
 refine' zCb (n:=8) (ps:=["path"]) (S.mono k) ?ho ?hcd rm kx r ?hb rfl (by decide) ?kind ?_ ?hco ?hgen ?hk
 walk_at "entered"
 intro h₁ tk F G E'
 refine opqQ fun T0 hT0=>opqE fun EE0 _=> ?_
 have S₁:=(S.mono k).mono F.kg
 walk_at "sh"
 refine zAa (zAi (d:= .str x) F ?_ (.inl rfl) fun h₂ tk₂ F₂ R₂=> ?_)
 ·refine zAt S₁ (zAj S₁ G zD9) (by k_is) rfl (zAc (zAd F.is rfl) zAg) (zC7 S₁ (Room.le (rm.deeper _) (by decide)) x)
 have S₂:=(S.mono k).mono F₂.kg
 walk_at "sh"
 refine zAa (zBj (c:=false) F₂ ?_ fun h₃ tk₃ k₃ F₃=>⟨fun e=>(nomatch e),fun _=> ?_⟩)
 ·refine zBl (d:= .bool false) ?_ trivial
  exact zBe (zAe S₂ G zDa zC6) (zAd F₂.is rfl) (zAe S₂ G zFu zFo)
 walk_at "sh"
 refine zAa (zAi (d:= .str "/") F₃ zAq (.inl rfl) fun h₄ tk₄ F₄ R₄=> ?_)
 walk_at "sh"
 refine zAa (zAi (d:= .str ".") F₄ zAq (.inl rfl) fun h₅ tk₅ F₅ R₅=> ?_)
 walk_at "sh"
 refine zAa (zAi (d:= .str "..") F₅ zAq (.inl rfl) fun h₆ tk₆ F₆ R₆=> ?_)
 refine wpAny_execs_nil ?_
 walk_at "sh"
 refine zAa (zBj (c:= !((x.length:Int) !=0)) F₆ ?_ fun h₇ tk₇ k₇ F₇=>⟨fun e=> ?_,fun e=> ?_⟩)
 ·exact zF8 (zBl (d:= .str x) (zAd F₆.is rfl) (by show x.length≤2 ^ 24;omega))
 ·refine zAa (zAz (d:= .str ".") F₇ (zAd F₇.is rfl) fun v h' tk' F' k' r'=>hT0 _ _ (hQ v h' tk' F'.kg ?_))
  rw[normS,if_pos e];exact r'
 refine wpAny_execs_nil ?_
 have S₇:=(S.mono k).mono F₇.kg
 have hsl:=zM7 x
 generalize hr1:(rootT x).1=r1
 generalize hsl':(rootT x).2.1=sl at hsl
 generalize hrest:(rootT x).2.2=rest at hsl
 walk_at "sh"
 refine zAa (zGd (ns:=[("_",_),("initial_slashes",_),("path",_)]) (ds:=[.str r1, .str sl, .str rest]) (rm.deeper _).hand F₇ ?_ rfl ?_ (fun h₈ tk₈ F₈ R₈=> ?_) rfl rfl rfl)
 ·rw[←hr1,←hsl',←hrest,←zPc]
  exact zAt S₇ (zAj S₇ G zJw) (by k_is) rfl (zAc (zAd F₇.is rfl) zAg) (zJb S₇ (Room.le (rm.deeper _) (by decide)) x (by omega))
 ·intro y hy
  simp only[List.mem_cons,List.not_mem_nil,or_false]at hy
  rcases hy with rfl|rfl|rfl<;>exact .inl rfl
 have hcs:=zIe rest "/"
 generalize hcs':Txt.split rest "/"=cs at hcs
 walk_at "sh"
 refine zAa (zAi (d:= .list (cs.map .str)) F₈ ?_ (.inl rfl) fun h₉ tk₉ F₉ R₉=> ?_)
 ·rw[←hcs']
  exact zKy (zAd F₈.is rfl) (zAd F₈.is rfl) (by rfl) (by omega)
 walk_at "sh"
 refine zAa (zQp (ds:=[]) F₉ (zIz zAg) (.inl rfl) fun D ha tka na xa Fa Ra La=> ?_)
 have fl:∀i,((cs.take i).foldl (normStep sl) []).length≤502∧∀y∈(cs.take i).foldl (normStep sl) [],y.length≤500:=fun i=>by
  obtain⟨h1,h2⟩:=zJs sl (cs.take i) []
  have h3:(cs.take i).length≤cs.length:=by rw[List.length_take];omega
  refine⟨by simp only[List.length_nil]at h1;omega,fun y hy=> ?_⟩
  rcases h2 y hy with h|h
  ·cases h
  ·have:=hcs.2 y (List.mem_of_mem_take h);omega
 have hD:D∈[D]:=List.mem_singleton.mpr rfl
 walk_at "sh"
 refine zAa (zG2 (ds:=cs.map .str) (zAx (rm.deeper _).hand (zAd Fa.is rfl))
  (fun _=>nG sl D)
  (fun i h=>OwnList (D::X) h D (((cs.take i).foldl (normStep sl) []).map .str))
  (Fa.pick ⟨rfl,rfl,rfl,rfl,rfl,trivial⟩) (fun h' k=>La.ext k) (.inl rfl) (fun i h h' it _ j _ p=>j.poke p) (fun i h h' F j R=>j.keep F.is R (fun m=>nomatch m) (fun b m=>nomatch m)) ?_ ?_)
 ·intro i d s' E'' hd Fb Lb
  obtain⟨c,hc,rfl⟩:∃c,cs[i]? =some c∧d= .str c:=by
   rw[List.getElem?_map]at hd
   cases hci:cs[i]? with
   |none=>rw[hci]at hd;cases hd
   |some c=>rw[hci]at hd;cases hd;exact⟨c,rfl,rfl⟩
  refine opqQ fun T hT=>opqE fun EE _=> ?_
  obtain⟨n1,n2⟩:=fl i
  have cl:c.length≤500:=Nat.le_trans (hcs.2 c (List.mem_of_getElem? hc)) (by omega)
  rw[zA2 (normStep sl) [] cs hc]at hT
  generalize (cs.take i).foldl (normStep sl) []=nc at Lb n1 n2 hT
  have nm:(nc.map PyData.str).length≤2 ^ 24:=by rw[List.length_map];omega
  walk_at "sh"
  refine zAa (zBj (c:= !((c.length:Int) !=0)||decide (c=".")) Fb ?_ fun hc tkc kc Fc=>⟨fun e=> ?_,fun e=> ?_⟩)
  ·refine zHq (zF8 (zBl (d:= .str c) (zAd Fb.is rfl) (by show c.length≤2 ^ 24;omega))) fun _=> ?_
   exact zAs (zAd Fb.is rfl) (zAd Fb.is rfl) zCu
  ·refine zAa (wpAny_Continue (hT _ _ ⟨hc,tkc,rfl,Fc.pick ⟨rfl,rfl,rfl,rfl,rfl,trivial⟩,?_,kc.rel⟩))
   rw[normStep,if_pos e]
   exact Lb.ext kc
  refine wpAny_execs_nil ?_
  have Lc:=Lb.ext kc
  walk_at "sh"
  refine zAa (zBj (c:= !decide (c="..")||((!((sl.length:Int) !=0)&& !!(nc.map PyData.str).isEmpty)||(!(nc.map PyData.str).isEmpty&&decide (nc.getLast?.getD Str.empty="..")))) Fc ?_ fun hd tkd kd Fd=>⟨fun e'=> ?_,fun e'=> ?_⟩)
  ·refine evB_or3 ?_ (fun _=> ?_) fun _ _=> ?_
   ·exact zAs (zAd Fc.is rfl) (zAd Fc.is rfl) zEi
   ·exact zCt (zF8 (zBl (d:= .str sl) (zAd Fc.is rfl) (by show sl.length≤2 ^ 24;omega))) fun _=>zF8 (zKg Fc.is rfl Lc rfl nm)
   ·refine zCt (zKg Fc.is rfl Lc rfl nm) fun ne=> ?_
    obtain⟨z,hz⟩:∃z,nc.getLast? =some z:=by
     cases nc with
     |nil=>simp at ne
     |cons a r=>exact⟨_,List.getLast?_eq_some_getLast (by simp)⟩
    refine zAs (a:= .str z) (zHm (zAm Fc.is rfl) ?_ Lc (zGj nc z hz)) (zAd Fc.is rfl) ?_
    ·exact zDw (i:=1) zAo
    ·rw[hz];exact zCu
  ·refine zAa (zD0 (d:= .str c) Fd rfl hD (Lc.ext kd) (zAd Fd.is rfl) (by rw[List.length_map];unfold sizeLine;omega) fun he tke Fe Re Le=> ?_)
   refine wpAny_execs_nil (wpAny_execs_nil (hT _ _ ⟨he,tke,rfl,Fe.pick ⟨rfl,rfl,rfl,rfl,rfl,trivial⟩,?_,kc.rel.trans (kd.rel.trans Re)⟩))
   rw[normStep,if_neg (by rw[e];decide),if_pos e']
   simpa using Le
  ·refine zAa (zBj (c:= !(nc.map PyData.str).isEmpty) Fd (zKg Fd.is rfl (Lc.ext kd) rfl nm) fun he tke ke Fe=>⟨fun e''=> ?_,fun e''=> ?_⟩)
   ·obtain⟨z,hz⟩:∃z,nc.getLast? =some z:=by
     cases nc with
     |nil=>simp at e''
     |cons a r=>exact⟨_,List.getLast?_eq_some_getLast (by simp)⟩
    walk_at "sh"
    refine zAa (st_pop Fe rfl hD ((Lc.ext kd).ext ke) (zGj nc z hz) (fun h v r a=>by obtain⟨t,rfl⟩:=r.str_inv;exact fun e=>nomatch e) (by rw[List.length_map];unfold sizeLine;omega) fun hf tkf Ff Rf Lf=> ?_)
    refine wpAny_execs_nil (wpAny_execs_nil (wpAny_execs_nil (hT _ _ ⟨hf,tkf,rfl,Ff.pick ⟨rfl,rfl,rfl,rfl,rfl,trivial⟩,?_,kc.rel.trans (kd.rel.trans (ke.rel.trans Rf))⟩)))
    rw[normStep,if_neg (by rw[e];decide),if_neg (by rw[e'];decide),if_pos e'']
    rw[List.map_dropLast];exact Lf
   ·refine wpAny_execs_nil (wpAny_execs_nil (wpAny_execs_nil (hT _ _ ⟨he,tke,rfl,Fe.pick ⟨rfl,rfl,rfl,rfl,rfl,trivial⟩,?_,kc.rel.trans (kd.rel.trans ke.rel)⟩)))
    rw[normStep,if_neg (by rw[e];decide),if_neg (by rw[e'];decide),if_neg (by rw[e''];decide)]
    exact(Lc.ext kd).ext ke
 ·intro hb tkb E'' Fb Lb _
  rw[List.length_map,List.take_length]at Lb
  have n12:=fl cs.length
  rw[List.take_length]at n12
  obtain⟨n1,n2⟩:=n12
  have hrr:normS x=if(((sl++Txt.join "/" (cs.foldl (normStep sl) [])).length:Int) !=0)=true then sl++Txt.join "/" (cs.foldl (normStep sl) [])else ".":=by
   rw[normS,if_neg (by rw[e];decide)]
   simp only[hsl',hrest,hcs']
  rw[hrr]at hQ
  generalize cs.foldl (normStep sl) []=nc at Lb n1 n2 hQ
  have Fc:Fn s.heap X [] hb _ [("initial_slashes", .d (.str sl)),("sep", .d (.str "/")),("dot", .d (.str ".")),("new_comps", .d (.list (nc.map .str)))]:=Fb.thaw Lb xa zAp ⟨.inl rfl, .inl rfl, .inl rfl, .inr ⟨rfl,rfl⟩,trivial⟩
  ·refine wpAny_execs_nil ?_
   walk_at "sh"
   refine zAa (zAi (d:= .list (nc.map .str)) Fc (zAd Fc.is rfl) (.inl rfl) fun hd tkd Fd Rd=> ?_)
   have jl:(Txt.join "/" nc).length≤600 * 501:=by
    have h2:(Txt.join "/" nc).length≤_:=Nat.le_trans (Nat.le_of_eq (congrArg Str.length (StrLaws.glued_eq_join "/" nc))) (StrLaws.join_length_le "/" nc)
    have h3:=zDb 500 nc n2
    have:("/":Str).length=1:=rfl
    rw[this]at h2
    have h4:nc.length * 500≤502 * 500:=Nat.mul_le_mul_right _ n1
    omega
   walk_at "sh"
   refine zAa (zAi (d:= .str (sl++Txt.join "/" nc)) Fd ?_ (.inl rfl) fun he tke Fe Re=> ?_)
   ·refine zC1 (zAd Fd.is rfl) (zFj (ys:=nc) (zAd Fd.is rfl) (zAd Fd.is rfl) (by decide) (by omega) (fun y hy=>by have:=n2 y hy;omega)) ?_
    unfold sizeLine;omega
   walk_at "sh"
   refine zAa (zAz (d:= .str (if(((sl++Txt.join "/" nc).length:Int) !=0)=true then sl++Txt.join "/" nc else ".")) Fe ?_ fun v h' tk' F' k' r'=>hT0 _ _ (hQ v h' tk' F'.kg r'))
   have tr:truthD (.str (sl++Txt.join "/" nc))=(((sl++Txt.join "/" nc).length:Int) !=0):=rfl
   refine Ev.eq (zQr (a:= .str (sl++Txt.join "/" nc)) (b:= .str ".") (zAd Fe.is rfl) (by show(sl++Txt.join "/" nc).length≤2 ^ 24;rw[Str.length_append];omega) fun _=>zAd Fe.is rfl) ?_
   rw[tr]
   split<;>rfl
end
end P6
section M20
section
variable {prog:Program} {w:World} {A:Around} {E:Value→Shared→Prop} {R:Result→Shared→Prop} {s:Shared}
theorem zH6 (elt:Expr) (c₁:Comprehension) (target iter:Expr) (ifs:List Expr) (scope:Scope) (pos:Pos) (it acc:Value) (env:Env):
 compTurn (.ListComp elt [c₁,⟨target,iter,ifs,0⟩] scope pos) 1 it acc env=(do
  standAt iter.pos
  match←pyNext it with
  |none=>pure (.done .next)
  |some v=>
   letOwnedTupleGo target it v
   assign target env v
   let mut ok:=true
   for c in ifs do
    if ok then ok←isTrue c env (eval c env)
   if ok then
    (do let _←call (.builtin "list.append") [acc,←eval elt env])
   again (.compLoop (.ListComp elt [c₁,⟨target,iter,ifs,0⟩] scope pos) 1 it acc env)):=by rfl
theorem zId (elt:Expr) (t₁ i₁ t₂ i₂:Expr) (ifs:List Expr) (scope:Scope) (pos:Pos) (it acc:Value) (env:Env):
 compTurn (.ListComp elt [⟨t₁,i₁,[],0⟩,⟨t₂,i₂,ifs,0⟩] scope pos) 0 it acc env=(do
  standAt i₁.pos
  match←pyNext it with
  |none=>pure (.done .next)
  |some v=>
   letOwnedTupleGo t₁ it v
   assign t₁ env v
   let x←eval i₂ env
   standAt i₂.pos
   let x←foldedSetIterable i₂ env x
   let _←runOwn (.compStart (.ListComp elt [⟨t₁,i₁,[],0⟩,⟨t₂,i₂,ifs,0⟩] scope pos) 1 (←holding [x] (pyIter x)) acc env) env
   again (.compLoop (.ListComp elt [⟨t₁,i₁,[],0⟩,⟨t₂,i₂,ifs,0⟩] scope pos) 0 it acc env)):=by rfl
theorem zIl {elt target iter:Expr} {c₁:Comprehension} {ifs:List Expr} {scope:Scope} {pos:Pos} {it acc:Value} {env:Env} (I:Nat→Shared→Prop)
 (turn:∀n s,I n s→wpAny (model prog w) A (pyNext it) (fun r s₁=>match r with
  |none=>R (.ok .next) s₁
  |some v=>wpAny (model prog w) A (assign target env v) (fun _ s₂=>
   wpAny (model prog w) A (testsT ifs env) (fun ok s₃=>
    if ok=true then wpAny (model prog w) A (eval elt env) (fun x s₄=>
     wpAny (model prog w) A (call (.builtin "list.append") [acc,x]) (fun _ s₅=>∃m,m<n∧I m s₅) (notedBy (model prog w) A env fun e s'=>R (.error e) s') s₄) (notedBy (model prog w) A env fun e s'=>R (.error e) s') s₃
    else∃m,m<n∧I m s₃) (notedBy (model prog w) A env fun e s'=>R (.error e) s') s₂) (notedBy (model prog w) A env fun e s'=>R (.error e) s') s₁) (notedBy (model prog w) A env fun e s'=>R (.error e) s') s)
 (n:Nat) (h:I n s) (ht:autoParam (∀v,letOwnedTupleGo target it v=pure ()) aS):
 codeAny (model prog w) A (.compLoop (.ListComp elt [c₁,⟨target,iter,ifs,0⟩] scope pos) 1 it acc env) R s:=by
 refine codeAny_loop rfl I (fun n s hI=> ?_) n h
 show wpAny _ A ((compTurn (.ListComp elt [c₁,⟨target,iter,ifs,0⟩] scope pos) 1 it acc env).onRaise (fun x=>do noteFrame x env;theTreesLotGoes x)) _ _ s
 refine wpAny_noted ?_
 rw[zH6]
 refine wpAny_bind (wpAny_standAt (wpAny_bind (wpAny_mono (turn n s hI) (fun r s₁ h₁=> ?_) fun _ _ h'=>h')))
 cases r with
 |none=>exact wpAny_pure h₁
 |some v=>
  refine wpAny_bind (wpAny_of_eq (ht v) ?_)
  refine wpAny_bind (wpAny_mono h₁ (fun _ s₂ h₂=>wpAny_bind (wpAny_mono h₂ (fun ok s₃ h₃=> ?_) fun _ _ h'=>h')) fun _ _ h'=>h')
  cases ok with
  |false=>exact wpAny_pure ⟨rfl,h₃⟩
  |true=>
   exact wpAny_bind (wpAny_bind (wpAny_mono h₃ (fun x s₄ h₄=>wpAny_bind (wpAny_mono h₄ (fun _ s₅ h₅=>wpAny_pure (wpAny_pure ⟨rfl,h₅⟩)) fun _ _ h'=>h')) fun _ _ h'=>h'))
theorem zIx {elt t₁ i₁ t₂ i₂:Expr} {ifs:List Expr} {scope:Scope} {pos:Pos} {it acc:Value} {env:Env} (I:Nat→Shared→Prop)
 (turn:∀n s E',I n s→wpAny (model prog w) A (pyNext it) (fun r s₁=>match r with
  |none=>R (.ok .next) s₁
  |some v=>wpAny (model prog w) A (assign t₁ env v) (fun _ s₂=>wpAny (model prog w) A (eval i₂ env) (fun x s₃=>wpAny (model prog w) A (pyIter x) (fun it₂ s₄=>
   codeAny (model prog w) A (.compStart (.ListComp elt [⟨t₁,i₁,[],0⟩,⟨t₂,i₂,ifs,0⟩] scope pos) 1 it₂ acc env) (fun r s₅=>match r with| .ok _=>∃m,m<n∧I m s₅| .error e=>cameBackBy (model prog w) A env E' e s₅) s₄) E' s₃) E' s₂) E' s₁) E' s)
 (n:Nat) (h:I n s) (ht:autoParam (∀v,letOwnedTupleGo t₁ it v=pure ()) aS) (hs:autoParam (∀x,foldedSetIterable i₂ env x=pure x) aS):
 codeAny (model prog w) A (.compLoop (.ListComp elt [⟨t₁,i₁,[],0⟩,⟨t₂,i₂,ifs,0⟩] scope pos) 0 it acc env) R s:=by
 refine codeAny_loop rfl I (fun n s hI=> ?_) n h
 show wpAny _ A ((compTurn (.ListComp elt [⟨t₁,i₁,[],0⟩,⟨t₂,i₂,ifs,0⟩] scope pos) 0 it acc env).onRaise (fun x=>do noteFrame x env;theTreesLotGoes x)) _ _ s
 refine wpAny_noted ?_
 rw[zId]
 refine wpAny_bind (wpAny_standAt (wpAny_bind (wpAny_mono (turn n s _ hI) (fun r s₁ h₁=> ?_) fun _ _ h'=>h')))
 cases r with
 |none=>exact wpAny_pure h₁
 |some v=>
  refine wpAny_bind (wpAny_of_eq (ht v) ?_)
  refine wpAny_bind (wpAny_mono h₁ (fun _ s₂ h₂=>wpAny_bind (wpAny_mono h₂ (fun x s₃ h₃=> ?_) fun _ _ h'=>h')) fun _ _ h'=>h')
  refine wpAny_bind (wpAny_standAt (wpAny_bind (wpAny_of_eq (hs x) (wpAny_bind (wpAny_holding (wpAny_mono h₃ (fun it₂ s₄ h₄=> ?_) fun _ _ h'=>h'))))))
  refine wpAny_bind (wpAny_runOwn (codeAny_mono h₄ fun r s₅ h₅=> ?_))
  cases r with
  |ok f=>exact wpAny_pure ⟨rfl,h₅⟩
  |error e=>exact h₅
theorem zGp {elt:Expr} {c₁:Comprehension} {target iter ifs scope pos it acc env}
 (h0:codeAny (model prog w) A (.compLoop (.ListComp elt [c₁,⟨target,iter,ifs,0⟩] scope pos) 1 it acc env) R s)
 (h:wpAny (model prog w) A (pyIter it) (fun it' s'=>codeAny (model prog w) A (.compLoop (.ListComp elt [c₁,⟨target,iter,ifs,0⟩] scope pos) 1 it' acc env) R s')
  (notedBy (model prog w) A env fun x s'=>R (.error x) s') s):
 codeAny (model prog w) A (.compStart (.ListComp elt [c₁,⟨target,iter,ifs,0⟩] scope pos) 1 it acc env) R s:=by
 refine codeAny_of_tree ?_
 show wpAny _ _ ((compStart (.ListComp elt [c₁,⟨target,iter,ifs,0⟩] scope pos) 1 it acc env).onRaise (fun x=>do noteFrame x env;standAt theWindowsPlace)) _ _ s
 refine wpAny_notedAt ?_
 unfold compStart
 show wpAny _ _ (ask>>=_) _ _ s
 refine wpAny_bind (wpAny_askSetting (wpAny_ite ?_))
 split
 ·first
   |exact wpAny_bind (wpAny_pure (wpAny_pure (And.intro rfl h0)))
   |exact wpAny_pure (And.intro rfl h0)
 ·first
   |exact wpAny_bind (wpAny_rule (wpAny_bind (wpAny_standAt (wpAny_bind (wpAny_mono h (fun it' s' h'=>wpAny_pure (And.intro rfl h')) fun _ _ x=>x)))))
   |(refine wpAny_bind (wpAny_rule ?_);show wpAny _ _ (standAt iter.pos>>=_) _ _ s;exact wpAny_bind (wpAny_standAt (wpAny_bind (wpAny_mono h (fun it' s' h'=>wpAny_pure (And.intro rfl h')) fun _ _ x=>x))))
end
end M20
section M21
section
variable {prog:Program} {w:World} {A:Around} {X M:List Addr} {g h h':Heap} {env:Env} {Γ:List (Str×Bd)}
variable {s:Shared} {E:Value→Shared→Prop}
noncomputable def noHeap:Heap:={}
theorem zCl (a:Addr):noHeap.get? a=none:=Heap.get?_none_of_le (Nat.zero_le _)
theorem zLq:Ext noHeap h:=fun b o e=>by rw[zCl]at e;cases e
theorem EnvIs.free (I:EnvIs X h env Γ) (kx:XOk X h) (sub:∀b∈M,b∈X):Fn noHeap X M h env Γ:=
 ⟨I,zLq,zCl _,fun _ _ _ _=>zCl _,fun _ _=>zCl _,sub,kx⟩
noncomputable def StAt (env:Env) (x:Str) (a:Addr):Prop:=(env.kindOf x=some .local∧a=env.locals)∨(env.kindOf x=some .cell∧env.cells.lookup x=some a)
theorem zQo {MM:Model} {y:Str} {v:Value} {b:Bd} {a:Addr} {Q:Unit→Shared→Prop} (F:Fn noHeap X M s.heap env Γ) (hy:StAt env y a) (r:BdIs (hid X s.heap) b v)
 (hQ:∀h' tk,Fn noHeap X M h' env ((y,b)::Γ)→(∀c o,c≠a→s.heap.get? c=some o→h'.get? c=some o)→SExt (hid X s.heap) (hid X h')→Q () (sat s h' tk)):wpAny MM A (storeName env y v) Q E s:=by
 rcases hy with⟨hy,rfl⟩|⟨hy,hc⟩
 ·refine zF6 F.is hy r fun h' tk k I' n'=> ?_
  obtain⟨m,n⟩:=F.is.ns
  obtain⟨m',n'⟩:=n'
  exact hQ h' tk (I'.free (F.kx.but k n n') F.sub) (fun c o n e=>k c o n e) (k.sext n)
 ·obtain⟨u,hu⟩:=F.is.cell y a hc
  refine wpAny_storeName_cell F.is.fn hy hc hu fun h' hv' sb=> ?_
  have hL:env.locals≠a:=by
   rintro q
   obtain⟨m,o,es,ep,ho,hd,_⟩:=F.is.ns
   obtain⟨o',ho',hd'⟩:=hu
   rw[←q,ho]at ho';cases ho'
   rw[hd]at hd';cases hd'
  have S:SExt (hid X s.heap) (hid X h'):=zC0 fun b o _ e q=>sb.extBut b o (by
   rintro rfl
   obtain⟨o',ho',hd'⟩:=hu
   rw[e]at ho';cases ho'
   obtain⟨_,_,z⟩:=q
   rw[hd']at z;cases z) e
  refine hQ h' s.toks (EnvIs.free ⟨F.is.fn,?_,?_,F.is.inj,?_⟩ ?_ F.sub) (fun c o n e=>sb.extBut c o n e) S
  ·obtain⟨m,n⟩:=F.is.ns
   exact⟨m,n.sameBut sb hL⟩
  ·intro z c' e
   by_cases hcc:c'=a
   ·subst hcc;exact⟨_,hv'⟩
   ·obtain⟨u',q⟩:=F.is.cell z c' e
    exact⟨u',q.sameBut sb hcc⟩
  ·intro z b' e
   rw[List.lookup_cons]at e
   cases hz:z==y with
   |true=>
    rw[hz]at e
    have:z=y:=by simpa using hz
    subst this
    cases e
    exact⟨v, .inr ⟨.inl hy,a,hc,hv'⟩,r.mono S⟩
   |false=>
    rw[hz]at e
    have hne:z≠y:=by simpa using hz
    obtain⟨u',su,ru⟩:=F.is.see z b' e
    refine⟨u',?_,ru.mono S⟩
    rcases su with⟨q,m',nm,em⟩|⟨q,c',ec,hq⟩
    ·exact .inl ⟨q,m',nm.sameBut sb hL,em⟩
    ·refine .inr ⟨q,c',ec,hq.sameBut sb ?_⟩
     rintro rfl
     exact hne (F.is.inj _ _ _ ec hc)
  ·intro b ma
   obtain⟨o,e⟩:=F.kx b ma
   by_cases hcc:b=a
   ·subst hcc
    obtain⟨o',ho',_⟩:=hv'
    exact⟨_,ho'⟩
   ·exact⟨o,sb.extBut b o hcc e⟩
theorem StAt.notSeq {y:Str} {a:Addr} (t:StAt env y a) (I:EnvIs X h env Γ):∀o,h.get? a=some o→¬IsSeq o:=by
 intro o e q
 rcases t with⟨_,rfl⟩|⟨_,hc⟩
 ·exact(I.own e q).1 rfl
 ·exact(I.own e q).2 _ hc
theorem StAt.lt {y:Str} {a:Addr} (t:StAt env y a) (I:EnvIs X h env Γ): @LT.lt Nat _ a h.objs.size:=by
 rcases t with⟨_,rfl⟩|⟨_,hc⟩
 ·obtain⟨m,n⟩:=I.ns;exact n.lt
 ·obtain⟨u,q⟩:=I.cell _ _ hc;exact q.lt
structure Blk (g:Heap) (X:List Addr) (D:Addr) (cenv:Env) (Γ:List (Str×Bd)) (res:List PyData) (h:Heap):Prop where
 kg:Ext g h
 fn:Fn noHeap (D::X) [D] h cenv Γ
 own:OwnList (D::X) h D res
theorem Blk.ext {D:Addr} {cenv:Env} {res:List PyData} (B:Blk g X D cenv Γ res h) (k:Ext h h'):Blk g X D cenv Γ res h':=⟨B.kg.trans k,B.fn.ext k,B.own.ext k⟩
theorem Blk.pick {D:Addr} {cenv:Env} {res:List PyData} {Γ':List (Str×Bd)} (B:Blk g X D cenv Γ res h) (k:∀x b,Γ'.lookup x=some b→Γ.lookup x=some b):Blk g X D cenv Γ' res h:=⟨B.kg,B.fn.weaken k,B.own⟩
theorem Blk.poke {D it:Addr} {cenv:Env} {res:List PyData} (B:Blk g X D cenv Γ res h) (p:Poke it h h') (hL:it≠cenv.locals) (hC:∀n,cenv.cells.lookup n≠some it) (hX:it∉D::X) (hg:g.get? it=none):Blk g X D cenv Γ res h':=
 ⟨fun b o e=>p.keep b o (by rintro rfl;rw[hg]at e;cases e) (B.kg _ _ e),B.fn.poke p hL hC (zCl _) hX,B.own.poke p⟩
theorem Blk.store {MM:Model} {D a:Addr} {cenv:Env} {res:List PyData} {y:Str} {v:Value} {b:Bd} {Q:Unit→Shared→Prop} (B:Blk g X D cenv Γ res s.heap) (hy:StAt cenv y a) (hg:g.get? a=none) (r:BdIs (hid (D::X) s.heap) b v)
 (hQ:∀h' tk,Blk g X D cenv ((y,b)::Γ) res h'→(∀c o,c≠a→s.heap.get? c=some o→h'.get? c=some o)→SExt (hid (D::X) s.heap) (hid (D::X) h')→Q () (sat s h' tk)):wpAny MM A (storeName cenv y v) Q E s:=by
 refine zQo B.fn hy r fun h' tk F' k S=>hQ h' tk ⟨fun b o e=>k b o (by rintro rfl;rw[hg]at e;cases e) (B.kg _ _ e),F',?_⟩ k S
 obtain⟨ys,⟨n,e⟩,q⟩:=B.own
 exact⟨ys,⟨n,k _ _ (by rintro rfl;exact hy.notSeq B.fn.is _ e ⟨_,_,rfl⟩) e⟩,q.mono S⟩
theorem Blk.append {D:Addr} {cenv:Env} {res:List PyData} {v:Value} {d:PyData} {Q:Value→Shared→Prop} (B:Blk g X D cenv Γ res s.heap) (hg:g.get? D=none) (r:Rd (hid (D::X) s.heap) d v) (hsz:res.length≤sizeLine)
 (hQ:∀h',Blk g X D cenv Γ (res++[d]) h'→(∀c o,c≠D→s.heap.get? c=some o→h'.get? c=some o)→SExt (hid (D::X) s.heap) (hid (D::X) h')→Q .none {s with heap:=h'}):
 wpAny (model prog w) A (call (.builtin "list.append") [.ref D,v]) Q E s:=by
 obtain⟨ys,pl,q⟩:=id B.own
 have e:ys.size=res.length:=by simpa using q.length
 refine wpAny_list_append_plain pl (fun h' pl' sb=> ?_) (by omega)
 obtain⟨F',R',S⟩:=B.fn.change (List.mem_singleton.mpr rfl) B.own (fun b o n e=>sb.extBut b o n e) (let⟨n,e⟩:=pl';⟨_,e⟩)
 refine hQ h' ⟨fun b o e=>sb.extBut b o (by rintro rfl;rw[hg]at e;cases e) (B.kg _ _ e),F',_,pl',?_⟩ (fun c o n e=>sb.extBut c o n e) S
 rw[Array.toList_push]
 exact(q.mono S).append (.cons (r.mono S) .nil)
end
end M21
section M22
section
variable {prog:Program} {w:World} {A:Around} {X M:List Addr} {g h h':Heap} {env cenv:Env} {Γ:List (Str×Bd)}
variable {s:Shared} {E:Value→Shared→Prop} {R:Result→Shared→Prop}
theorem zDn {y:Str} {b:Bd} (hn:Γ.lookup y=none):∀x c,Γ.lookup x=some c→((y,b)::Γ).lookup x=some c:=by
 intro x c e
 rw[List.lookup_cons]
 cases hx:x==y with
 |true=>
  have:x=y:=by simpa using hx
  subst this
  rw[hn]at e;cases e
 |false=>exact e
theorem zKd {k:Ext g h}:g.get? h.objs.size=none:=by
 cases e:g.get? h.objs.size with
 |none=>rfl
 |some o=>exact absurd (Heap.lt_size (k _ _ e)) (Nat.lt_irrefl _)
inductive BI (g:Heap) (X:List Addr) (D ay it:Nat) (cenv:Env) (Γ:List (Str×Bd)) (res:List PyData) (ds:List PyData) (p:PyData→Bool) (f:PyData→PyData) (St:Nat→Heap→Prop) (s:Shared):Nat→Shared→Prop
 |mk (h':Heap) (tk:Nat) (i:Nat) (hi:i≤ds.length) (st:St i h') (B:Blk g X D cenv Γ (res++((ds.take i).filter p).map f) h') (kk:∀c o,c≠D→c≠ay→c≠it→s.heap.get? c=some o→h'.get? c=some o) (se:SExt (hid (D::X) s.heap) (hid (D::X) h')):BI g X D ay it cenv Γ res ds p f St s (ds.length+1 - i) (sat s h' tk)
theorem zM8 {elt iter:Expr} {c₁:Comprehension} {y:Str} {py:Pos} {ifs:List Expr} {scope:Scope} {pos:Pos} {g2:Heap} {D ay:Addr} {ds res:List PyData} {o:Obj} {fp:List Addr} {P:Nat→Value→Prop} {St:Nat→Heap→Prop}
 (S:SrcAt prog w A (D::X) g2 ds o fp P St) (hs:s.heap=g2.push o) (B:Blk g X D cenv Γ res g2) (hy:StAt cenv y ay) (gay:g.get? ay=none) (gD:g.get? D=none) (hn:Γ.lookup y=none)
 (p:PyData→Bool) (f:PyData→PyData) (hsz:res.length+ds.length≤sizeLine)
 (hel:∀h₂ d res',d∈ds→Blk g X D cenv ((y, .d d)::Γ) res' h₂→EvB prog w A (D::X) h₂ (testsT ifs cenv) (p d)∧(p d=true→Ev prog w A (D::X) h₂ (eval elt cenv) (f d)))
 (done:∀h' tk,Blk g X D cenv Γ (res++(ds.filter p).map f) h'→(∀c o,c≠D→c≠ay→c≠g2.objs.size→s.heap.get? c=some o→h'.get? c=some o)→SExt (hid (D::X) s.heap) (hid (D::X) h')→R (.ok .next) (sat s h' tk)):
 codeAny (model prog w) A (.compLoop (.ListComp elt [c₁,⟨.Name y py,iter,ifs,0⟩] scope pos) 1 (.ref g2.objs.size) (.ref D) cenv) R s:=by
 have k0:Ext g2 s.heap:=hs▸Ext.push g2 o
 have git:g.get? g2.objs.size=none:=zKd (k:=B.kg)
 have iL:g2.objs.size≠cenv.locals:=by
  obtain⟨m,n⟩:=B.fn.is.ns
  have:=n.lt
  rintro e
  rw[←e]at this
  exact Nat.lt_irrefl _ this
 have iC:∀n,cenv.cells.lookup n≠some g2.objs.size:=by
  intro n e
  obtain⟨v,q⟩:=B.fn.is.cell n _ e
  exact Nat.lt_irrefl _ q.lt
 have iX:g2.objs.size∉D::X:=B.fn.kx.fresh
 have iD:g2.objs.size≠D:=fun e=>iX (e▸List.mem_cons_self)
 have ia:g2.objs.size≠ay:=fun e=>Nat.lt_irrefl _ (e▸hy.lt B.fn.is)
 have fpk:∀{a b:Heap} {i:Nat},SExt (hid (D::X) s.heap) (hid (D::X) a)→SExt (hid (D::X) a) (hid (D::X) b)→(∀o,a.get? g2.objs.size=some o→b.get? g2.objs.size=some o)→St i a→St i b:=by
  intro a b i se se' ki st
  refine S.walks.frame _ _ _ st fun c hc o' e=> ?_
  rcases S.fpOk c hc with rfl|⟨o1,e1,q1⟩
  ·exact ki _ e
  ·have e3:=se _ _ (zAl k0 _ _ e1) q1
   have e4:=zAf _ _ _ _ e3
   rw[e]at e4;cases e4
   exact zAf _ _ _ _ (se' _ _ e3 q1)
 refine zIl (BI g X D ay g2.objs.size cenv Γ res ds p f St s) ?_ (ds.length+1)
  (.mk s.heap s.toks 0 (Nat.zero_le _) (hs▸S.start) (by simpa using B.ext k0) (fun _ _ _ _ _ e=>e) SExt.rfl)
 rintro n s' ⟨H,tk,i,hi,st,B',kk,se⟩
 by_cases hlt:i<ds.length
 ·refine S.walks.item i _ _ _ hlt st fun v h₁ tk₁ hPv st₁ hk₁=> ?_
  obtain⟨d,hd,rd⟩:=S.is i v hlt hPv
  have hdm:d∈ds:=List.mem_of_getElem? hd
  have P₁:Poke g2.objs.size H h₁:=⟨fun b o n e=>hk₁ b o (by simpa using n) e,fun o e=>by
   obtain⟨o',e',q⟩:=S.it i H st
   rw[e]at e';cases e';exact q⟩
  have B₁:=B'.poke P₁ iL iC iX git
  have se₁:SExt (hid (D::X) s.heap) (hid (D::X) h₁):=se.trans P₁.sext
  refine wpAny_assign_Name (B₁.store hy gay (b:= .d d) (rd.mono ((zAl k0).s.trans se₁)) fun h₂ tk₂ B₂ k₂ S₂=> ?_)
  have st₂:St (i+1) h₂:=fpk se₁ S₂ (fun o e=>k₂ _ _ ia e) st₁
  have se₂:=se₁.trans S₂
  obtain⟨htests,helt⟩:=hel h₂ d _ hdm B₂
  refine htests _ _ _ Ext.rfl B₂.fn.kx fun h₃ tk₃ k₃=> ?_
  have B₃:=B₂.ext k₃
  have se₃:=se₂.trans (zAl k₃).s
  have st₃:St (i+1) h₃:=fpk se₂ (zAl k₃).s (fun o e=>k₃ _ _ e) st₂
  have kk₃:∀c o,c≠D→c≠ay→c≠g2.objs.size→s.heap.get? c=some o→h₃.get? c=some o:=fun c o n1 n2 n3 e=>k₃ _ _ (k₂ c o n2 (P₁.keep c o n3 (kk c o n1 n2 n3 e)))
  cases hp:p d with
  |false=>
   simp only[Bool.false_eq_true,if_false]
   refine⟨ds.length+1 - (i+1),by omega, .mk h₃ tk₃ (i+1) hlt st₃ ?_ kk₃ se₃⟩
   rw[zA5 hd,List.filter_append]
   simpa[hp]using B₃.pick (zDn hn)
  |true=>
   simp only[if_true]
   refine helt hp _ _ _ k₃ B₃.fn.kx fun v' h₄ tk₄ k₄ r₄=> ?_
   have B₄:=B₃.ext k₄
   refine B₄.append gD r₄ ?_ fun h₅ B₅ k₅ S₅=> ?_
   ·have e1:((ds.take i).filter p).length≤(ds.take i).length:=List.length_filter_le _ _
    have e2:(ds.take i).length≤ds.length:=by rw[List.length_take];omega
    simp only[List.length_append,List.length_map]
    omega
   have se₄:=se₃.trans (zAl k₄).s
   refine⟨ds.length+1 - (i+1),by omega, .mk h₅ tk₄ (i+1) hlt ?_ ?_ ?_ (se₄.trans S₅)⟩
   ·exact fpk se₄ S₅ (fun o e=>k₅ _ _ iD e) (fpk se₃ (zAl k₄).s (fun o e=>k₄ _ _ e) st₃)
   ·rw[zA5 hd,List.filter_append,List.map_append,←List.append_assoc]
    have:=B₅.pick (zDn (Γ:=Γ) (b:= .d d) hn)
    simpa[hp]using this
   ·exact fun c o n1 n2 n3 e=>k₅ c o n1 (k₄ _ _ (kk₃ c o n1 n2 n3 e))
 ·have hin:i=ds.length:=by omega
  subst hin
  refine S.walks.done _ _ _ st fun h₁ tk₁ hk₁=> ?_
  have P₁:Poke g2.objs.size H h₁:=⟨fun b o n e=>hk₁ b o (by simpa using n) e,fun o e=>by
   obtain⟨o',e',q⟩:=S.it _ H st
   rw[e]at e';cases e';exact q⟩
  have B₁:=B'.poke P₁ iL iC iX git
  rw[List.take_length]at B₁
  exact done h₁ tk₁ B₁ (fun c o n1 n2 n3 e=>P₁.keep c o n3 (kk c o n1 n2 n3 e)) (se.trans P₁.sext)
end
end M22
section M23
section
variable {prog:Program} {w:World} {A:Around} {X M:List Addr} {g h h':Heap} {env cenv:Env} {Γ:List (Str×Bd)}
variable {s:Shared} {E:Value→Shared→Prop} {R:Result→Shared→Prop}
theorem zCk {α β:Type} (f:α→List β) {l:List α} {i:Nat} {a:α} (h:l[i]? =some a):(l.take (i+1)).flatMap f=(l.take i).flatMap f++f a:=by
 rw[zA5 h,List.flatMap_append];simp
inductive BO (g:Heap) (X:List Addr) (D:Nat) (cenv:Env) (Γ:List (Str×Bd)) (res:List PyData) (ds:List PyData) (g':PyData→List PyData) (St:Nat→Heap→Prop) (s:Shared):Nat→Shared→Prop
 |mk (h':Heap) (tk:Nat) (i:Nat) (hi:i≤ds.length) (st:St i h') (B:Blk g X D cenv Γ (res++(ds.take i).flatMap g') h'):BO g X D cenv Γ res ds g' St s (ds.length+1 - i) (sat s h' tk)
theorem zO1 {elt i₁ iter:Expr} {x y:Str} {px py:Pos} {ifs:List Expr} {scope:Scope} {pos:Pos} {D ax ay:Addr} {ds res:List PyData} {o:Obj} {fp:List Addr} {P:Nat→Value→Prop} {St:Nat→Heap→Prop}
 (S:SrcAt prog w A X g ds o fp P St) (hst:St 0 s.heap) (B:Blk g X D cenv Γ res s.heap) (hx:StAt cenv x ax) (hy:StAt cenv y ay) (gax:g.get? ax=none) (gay:g.get? ay=none) (gD:g.get? D=none)
 (iD:g.objs.size≠D) (iL:g.objs.size≠cenv.locals) (iC:∀n,cenv.cells.lookup n≠some g.objs.size) (iX:g.objs.size∉X) (hnx:Γ.lookup x=none) (hny:Γ.lookup y=none) (hxy:(y==x)=false)
 (ds₂:PyData→List PyData) (p:PyData→PyData→Bool) (f:PyData→PyData→PyData) (hsz:res.length+(ds.flatMap ds₂).length≤sizeLine)
 (hsrc:∀h₂ d res',d∈ds→Blk g X D cenv ((x, .d d)::Γ) res' h₂→Src prog w A (D::X) h₂ (eval iter cenv) (ds₂ d))
 (hel:∀h₂ d e res',d∈ds→e∈ds₂ d→Blk g X D cenv ((y, .d e)::(x, .d d)::Γ) res' h₂→EvB prog w A (D::X) h₂ (testsT ifs cenv) (p d e)∧(p d e=true→Ev prog w A (D::X) h₂ (eval elt cenv) (f d e)))
 (done:∀h' tk,Blk g X D cenv Γ (res++ds.flatMap fun d=>((ds₂ d).filter (p d)).map (f d)) h'→R (.ok .next) (sat s h' tk))
 (hs:autoParam (∀v,foldedSetIterable iter cenv v=pure v) aS):
 codeAny (model prog w) A (.compLoop (.ListComp elt [⟨.Name x px,i₁,[],0⟩,⟨.Name y py,iter,ifs,0⟩] scope pos) 0 (.ref g.objs.size) (.ref D) cenv) R s:=by
 have git:g.get? g.objs.size=none:=Heap.get?_none_of_le (Nat.le_refl _)
 have iax:g.objs.size≠ax:=by
  rcases hx with⟨_,rfl⟩|⟨_,hc⟩
  ·exact iL
  ·rintro rfl;exact iC _ hc
 have iay:g.objs.size≠ay:=by
  rcases hy with⟨_,rfl⟩|⟨_,hc⟩
  ·exact iL
  ·rintro rfl;exact iC _ hc
 have iDX:g.objs.size∉D::X:=fun m=>(List.mem_cons.mp m).elim iD iX
 have fpk:∀{a b:Heap} {i:Nat},Ext g a→Ext g b→(∀o,a.get? g.objs.size=some o→b.get? g.objs.size=some o)→St i a→St i b:=by
  intro a b i ea eb ki st
  refine S.walks.frame _ _ _ st fun c hc o' e=> ?_
  rcases S.fpOk c hc with rfl|⟨o1,e1,q1⟩
  ·exact ki _ e
  ·have e2:=zAf _ _ _ _ e1
   have:=ea _ _ e2
   rw[e]at this;cases this
   exact eb _ _ e2
 have up:∀{a:Heap},Ext g a→SExt (hid X g) (hid (D::X) a):=fun ea b o e _=>zAb (ea _ _ (zAf _ _ _ _ e)) fun m=>by
  rcases List.mem_cons.mp m with rfl|m
  ·have:=zAf _ _ _ _ e
   rw[gD]at this;cases this
  ·exact zAh e m
 let g':PyData→List PyData:=fun d=>((ds₂ d).filter (p d)).map (f d)
 have lens:∀i,i<ds.length→∀d,ds[i]? =some d→((ds.take i).flatMap g').length+(ds₂ d).length≤(ds.flatMap ds₂).length:=by
  intro i hi d hd
  have h1:∀l:List PyData,(l.flatMap g').length≤(l.flatMap ds₂).length:=by
   intro l
   induction l with
   |nil=>simp
   |cons a l ih=>
    simp only[List.flatMap_cons,List.length_append,g',List.length_map]
    have:=List.length_filter_le (p a) (ds₂ a)
    simp only[g']at ih
    omega
  have h2:(ds.take i).flatMap ds₂++ds₂ d++(ds.drop (i+1)).flatMap ds₂=ds.flatMap ds₂:=by
   rw[←zCk ds₂ hd,←List.flatMap_append,List.take_append_drop]
  have h3:=congrArg List.length h2
  simp only[List.length_append]at h3
  have:=h1 (ds.take i)
  omega
 refine zIx (BO g X D cenv Γ res ds g' St s) ?_ (ds.length+1)
  (.mk s.heap s.toks 0 (Nat.zero_le _) hst (by simpa using B)) (by intro _;rfl) hs
 rintro n s' E' ⟨H,tk,i,hi,st,B'⟩
 by_cases hlt:i<ds.length
 ·refine S.walks.item i _ _ _ hlt st fun v h₁ tk₁ hPv st₁ hk₁=> ?_
  obtain⟨d,hd,rd⟩:=S.is i v hlt hPv
  have hdm:d∈ds:=List.mem_of_getElem? hd
  have P₁:Poke g.objs.size H h₁:=⟨fun b o n e=>hk₁ b o (by simpa using n) e,fun o e=>by
   obtain⟨o',e',q⟩:=S.it i H st
   rw[e]at e';cases e';exact q⟩
  have B₁:=B'.poke P₁ iL iC iDX git
  refine wpAny_assign_Name (B₁.store hx gax (b:= .d d) (rd.mono (up B₁.kg)) fun h₂ tk₂ B₂ k₂ S₂=> ?_)
  have st₂:St (i+1) h₂:=fpk B₁.kg B₂.kg (fun o e=>k₂ _ _ iax e) st₁
  refine hsrc h₂ d _ hdm B₂ _ _ _ Ext.rfl B₂.fn.kx fun xv h₃ tk₃ k₃ it=> ?_
  have B₃:=B₂.ext k₃
  have st₃:St (i+1) h₃:=fpk B₂.kg B₃.kg (fun o e=>k₃ _ _ e) st₂
  refine it _ _ fun o₂ fp₂ P₂ St₂ SS no=> ?_
  have hny':((x,Bd.d d)::Γ).lookup y=none:=by rw[List.lookup_cons,hxy];exact hny
  have loop:codeAny (model prog w) A (.compLoop (.ListComp elt [⟨.Name x px,i₁,[],0⟩,⟨.Name y py,iter,ifs,0⟩] scope pos) 1 (.ref h₃.objs.size) (.ref D) cenv)
   (fun r s₅=>match r with| .ok _=>∃m,m<ds.length+1 - i∧BO g X D cenv Γ res ds g' St s m s₅| .error e=>cameBackBy (model prog w) A cenv E' e s₅)
   (sat s (h₃.push o₂) tk₃):=by
   refine zM8 (g:=g) (g2:=h₃) SS rfl B₃ hy gay gD hny' (p d) (f d) ?_ (fun h₄ e res' he B₄=>hel h₄ d e res' hdm he B₄) fun h₄ tk₄ B₄ k₄ S₄=> ?_
   ·have:=lens i hlt d hd
    simp only[List.length_append];omega
   ·refine⟨ds.length+1 - (i+1),by omega, .mk h₄ tk₄ (i+1) hlt ?_ ?_⟩
    ·have kp:=Ext.push h₃ o₂
     have ni:g.objs.size≠h₃.objs.size:=by
      obtain⟨o',e',_⟩:=S.it _ _ st₃
      exact Nat.ne_of_lt (Heap.lt_size e')
     refine fpk (B₃.kg.trans kp) B₄.kg (fun o e=>k₄ _ _ iD iay ni e) (fpk B₃.kg (B₃.kg.trans kp) (fun o e=>kp _ _ e) st₃)
    ·rw[zCk g' hd,←List.append_assoc]
     exact B₄.pick (zDn hnx)
  exact zGp loop (SS.walks.self 0 _ _ _ SS.start loop)
 ·have hin:i=ds.length:=by omega
  subst hin
  refine S.walks.done _ _ _ st fun h₁ tk₁ hk₁=> ?_
  have P₁:Poke g.objs.size H h₁:=⟨fun b o n e=>hk₁ b o (by simpa using n) e,fun o e=>by
   obtain⟨o',e',q⟩:=S.it _ H st
   rw[e]at e';cases e';exact q⟩
  have B₁:=B'.poke P₁ iL iC iDX git
  rw[List.take_length]at B₁
  exact done h₁ tk₁ B₁
end
end M23
section M24
section
variable {prog:Program} {w:World} {A:Around} {X M:List Addr} {g h h':Heap} {env cenv:Env} {Γ:List (Str×Bd)}
variable {s:Shared} {E:Value→Shared→Prop} {R:Result→Shared→Prop}
theorem zMa {scope:Scope} {names:List Str} {h₂:Heap} {C:Nat} {Z:List Addr} (hk:scope.kind= .function) (hf:freeOk scope env=true) (I:EnvIs X g env Γ) (hC:g.objs.size≤C) (hfree:∀y∈names,FreeIn scope env y)
 (k:Ext g h₂) (hZ:∀b∈Z,g.objs.size≤b∨b∈X) (hn:∃m,h₂.Ns C m) (ok:∀n c,(n,c)∈cellsFrom (C+1) scope.names []→h₂.IsCell c none∧C+1≤c)
 (apart:(cellsFrom (C+1) scope.names []).Pairwise fun x y=>x.2≠y.2):EnvIs Z h₂ (cEnv scope C env) (pickG Γ names):=by
 have cells:∀n a,(cEnv scope C env).cells.lookup n=some a→(n,a)∈cellsFrom (C+1) scope.names []∨env.cells.lookup n=some a:=by
  intro n a e
  have e':(cellsFrom (C+1) scope.names []++closCells env scope.names []).lookup n=some a:=by
   rw[←zAw];exact e
  rw[List.lookup_append]at e'
  cases q:(cellsFrom (C+1) scope.names []).lookup n with
  |some a'=>
   rw[q]at e';cases e'
   exact .inl (mem_of_lookup q)
  |none=>
   rw[q]at e'
   rcases zA4 scope.names [] hf n a e' with m|m
   ·simp at m
   ·exact .inr m
 have old:∀n a,env.cells.lookup n=some a→ @LT.lt Nat _ a g.objs.size:=fun n a e=>let⟨_,q⟩:=I.cell n a e;q.lt
 refine⟨hk,hn,?_,?_,?_⟩
 ·intro n a e
  rcases cells n a e with q|q
  ·exact⟨_,(ok _ _ q).1⟩
  ·obtain⟨u,r⟩:=I.cell n a q
   exact⟨u,r.keeps k⟩
 ·intro n n' a e e'
  rcases cells n a e with q|q<;>rcases cells n' a e' with r|r
  ·exact name_of_addr apart q r
  ·have h1:=old _ _ r
   have h2:=(ok _ _ q).2
   exact absurd h2 (by omega)
  ·have h1:=old _ _ q
   have h2:=(ok _ _ r).2
   exact absurd h2 (by omega)
  ·exact I.inj _ _ _ q r
 ·intro y b e
  obtain⟨hm,hb⟩:=zCa names y b e
  obtain⟨hk,a,ha,hC'⟩:=hfree y hm
  obtain⟨hc',hk'⟩:=hC' C
  obtain⟨u,su,ru⟩:=I.see y b hb
  refine⟨u, .inr ⟨hk',a,hc',?_⟩,ru.mono ?_⟩
  ·rcases su with⟨q,_⟩|⟨_,a',ha',q⟩
   ·rcases hk with hk|hk<;>rw[hk]at q<;>cases q
   ·rw[ha]at ha';cases ha'
    exact q.keeps k
  ·intro b0 o e0 _
   have e1:=zAf _ _ _ _ e0
   refine zAb (k _ _ e1) fun m=> ?_
   rcases hZ b0 m with l|l
   ·exact absurd (Nat.lt_of_lt_of_le (Heap.lt_size e1) l) (Nat.lt_irrefl _)
   ·exact zAh e0 l
noncomputable def ownName (scope:Scope) (x:Str):Bool:=scope.names.lookup x==some .local||scope.names.lookup x==some .cell
theorem zNd {scope:Scope} {x:Str} (h:ownName scope x=true) (C:Nat):∃a:Nat,StAt (cEnv scope C env) x a∧C≤a:=by
 rcases Bool.or_eq_true_iff.mp h with q|q
 ·exact⟨C, .inl ⟨lookup_relabel_local (by simpa using q),rfl⟩,Nat.le_refl _⟩
 ·have q':scope.names.lookup x=some .cell:=by simpa using q
  obtain⟨a,ha⟩:=Option.isSome_iff_exists.mp (cellsFrom_some scope.names (C+1) [] (.inl q'))
  have l: @LE.le Nat _ (C+1) a:=by
   rcases zBk _ _ _ _ _ (mem_of_lookup ha)with m|⟨_,l⟩
   ·cases m
   ·exact l
  refine⟨a, .inr ⟨zA7 q',?_⟩,by omega⟩
  show(cellsFrom (C+1) scope.names ([]++closCells env scope.names [])).lookup x=some a
  rw[zAw,List.lookup_append,ha];rfl
theorem zF9 {elt iter₁ iter:Expr} {x y:Str} {px py:Pos} {ifs:List Expr} {scope:Scope} {pos:Pos} {ds:List PyData} {names:List Str} {xv:Value} {E':Value→Shared→Prop} {RR:Value→Addr→Result→Shared→Prop}
 (hk:scope.kind= .function) (hox:ownName scope x=true) (hoy:ownName scope y=true) (hf:freeOk scope env=true) (I:EnvIs X s.heap env Γ) (hfree:∀y∈names,FreeIn scope env y) (src:IterIs prog w A X xv s ds) (kx:XOk X s.heap)
 (hnx:(pickG Γ names).lookup x=none) (hny:(pickG Γ names).lookup y=none) (hxy:(y==x)=false)
 (ds₂:PyData→List PyData) (p:PyData→PyData→Bool) (f:PyData→PyData→PyData) (hsz:(ds.flatMap ds₂).length≤sizeLine)
 (hsrc:∀C X' h₂ d,d∈ds→Ext s.heap h₂→EnvIs X' h₂ (cEnv scope C env) ((x, .d d)::pickG Γ names)→Src prog w A X' h₂ (eval iter (cEnv scope C env)) (ds₂ d))
 (hel:∀C X' h₂ d e,d∈ds→e∈ds₂ d→Ext s.heap h₂→EnvIs X' h₂ (cEnv scope C env) ((y, .d e)::(x, .d d)::pickG Γ names)→
  EvB prog w A X' h₂ (testsT ifs (cEnv scope C env)) (p d e)∧(p d e=true→Ev prog w A X' h₂ (eval elt (cEnv scope C env)) (f d e)))
 (hR:∀D C h' tk,Ext s.heap h'→s.heap.objs.size≤D→D≠C→s.heap.objs.size≤C→(∃m,h'.Ns C m)→OwnList (D::X) h' D (ds.flatMap fun d=>((ds₂ d).filter (p d)).map (f d))→RR (.ref D) C (.ok .next) (sat s h' tk))
 (hs:∀C v,foldedSetIterable iter (cEnv scope C env) v=pure v):
 wpAny (model prog w) A (pyIter xv) (fun it s₂=>wpAny (model prog w) A (newList []) (fun acc s₃=>
  wpAny (model prog w) A (newFunctionEnv scope env.globals (closCells env scope.names []) [] env.qual none .none (some env)) (fun cenv s₄=>
   codeAny (model prog w) A (.compStart (.ListComp elt [⟨.Name x px,iter₁,[],0⟩,⟨.Name y py,iter,ifs,0⟩] scope pos) 0 it acc {cenv with scope:=relabel scope env}) (RR acc cenv.locals) s₄) E s₃) E s₂) E' s:=by
 refine src _ _ fun o fp P St S ns=> ?_
 refine wpAny_newObj_type ?_ (by show([]:List Value).toArray.size≤sizeLine;exact Nat.zero_le _)
 refine zFd ?_
 dsimp only
 generalize hg2:(s.heap.push o).push {cls:= .type "list",data:= .seq ([]:List Value).toArray}=g2
 have z1: @Eq Nat (s.heap.push o).objs.size (s.heap.objs.size+1):=Heap.size_push ..
 have z2: @Eq Nat g2.objs.size (s.heap.objs.size+2):=by rw[←hg2,Heap.size_push,z1]
 generalize hg4:pushCells (g2.push {cls:= .type "dict",data:= .dict #[]}) scope.names=g4
 have kp:∀b o,(g2.push {cls:= .type "dict",data:= .dict #[]}).get? b=some o→g4.get? b=some o:=fun b o e=>hg4▸pushCells_keeps scope.names _ b o e
 have kg:Ext s.heap g4:=fun b o' e=>kp _ _ (Heap.get?_push_of_some _ (hg2▸Heap.get?_push_of_some _ (Heap.get?_push_of_some _ e)))
 have kI:Ext (s.heap.push o) g4:=fun b o' e=>kp _ _ (Heap.get?_push_of_some _ (hg2▸Heap.get?_push_of_some _ e))
 have eenv:({newEnv scope g2.objs.size env.globals (cellsFrom (g2.objs.size+1) scope.names (closCells env scope.names [])) env.qual none .none (some env) builtinsNs with scope:=relabel scope env}:Env)=cEnv scope g2.objs.size env:=rfl
 rw[eenv]
 have hacc:g4.PlainList (s.heap.push o).objs.size #[]:=⟨0,kp _ _ (Heap.get?_push_of_some _ (hg2▸Heap.get?_push_size _ rfl))⟩
 have hn:∃m,g4.Ns g2.objs.size m:=⟨_,(Heap.Ns.new g2 (.type "dict")).keeps kp⟩
 have hst:St 0 g4:=S.walks.frame _ _ _ S.start fun b _ o' e=>kI b o' e
 have ok:=cellsFrom_ok scope.names (g2.push {cls:= .type "dict",data:= .dict #[]}) (g2.objs.size+1) [] ⟨fun _ _ hm=>(nomatch hm),List.Pairwise.nil⟩ (by rw[Heap.size_push];exact Nat.le_refl _)
 rw[Heap.size_push,hg4]at ok
 have gD:s.heap.get? (s.heap.push o).objs.size=none:=Heap.get?_none_of_le (by omega)
 have hC:s.heap.objs.size≤g2.objs.size:=by omega
 have I₄:EnvIs ((s.heap.push o).objs.size::X) g4 (cEnv scope g2.objs.size env) (pickG Γ names):=zMa hk hf I hC hfree kg (fun b m=>by
  rcases List.mem_cons.mp m with rfl|m
  ·exact .inl (by show @LE.le Nat _ _ _;omega)
  ·exact .inr m) hn (fun n c m=>ok.empty n c m) ok.apart
 have kx₄:XOk ((s.heap.push o).objs.size::X) g4:=fun b m=>by
  rcases List.mem_cons.mp m with rfl|m
  ·obtain⟨n,e⟩:=hacc;exact⟨_,e⟩
  ·exact(kx.ext kg) b m
 have B:Blk s.heap X (s.heap.push o).objs.size (cEnv scope g2.objs.size env) (pickG Γ names) [] g4:=
  ⟨kg,I₄.free kx₄ (fun b m=>(List.mem_singleton.mp m)▸List.mem_cons_self), #[],hacc, .nil⟩
 obtain⟨ax,sx,lx⟩:=zNd (env:=env) hox g2.objs.size
 obtain⟨ay,sy,ly⟩:=zNd (env:=env) hoy g2.objs.size
 have iC:∀n,(cEnv scope g2.objs.size env).cells.lookup n≠some s.heap.objs.size:=by
  intro n e
  have e':(cellsFrom (g2.objs.size+1) scope.names []++closCells env scope.names []).lookup n=some s.heap.objs.size:=by
   rw[←zAw];exact e
  rw[List.lookup_append]at e'
  cases q:(cellsFrom (g2.objs.size+1) scope.names []).lookup n with
  |some a'=>
   rw[q]at e';cases e'
   have h1: @LE.le Nat _ (g2.objs.size+1) s.heap.objs.size:=(ok.empty _ _ (mem_of_lookup q)).2
   omega
  |none=>
   rw[q]at e'
   rcases zA4 scope.names [] hf n _ e' with m|m
   ·simp at m
   ·obtain⟨u,q⟩:=I.cell _ _ m
    have h1: @LT.lt Nat _ s.heap.objs.size s.heap.objs.size:=q.lt
    omega
 have loop:codeAny (model prog w) A (.compLoop (.ListComp elt [⟨.Name x px,iter₁,[],0⟩,⟨.Name y py,iter,ifs,0⟩] scope pos) 0 (.ref s.heap.objs.size) (.ref (s.heap.push o).objs.size) (cEnv scope g2.objs.size env)) (RR (.ref (s.heap.push o).objs.size) g2.objs.size)
  {heap:=g4,gens:=s.gens,drawn:=s.drawn,toks:=s.toks,os:=s.os}:=by
  refine zO1 S hst B sx sy (Heap.get?_none_of_le (by omega)) (Heap.get?_none_of_le (by omega)) gD (by show @Ne Nat _ _;omega) (by show @Ne Nat _ g2.objs.size;omega) iC kx.fresh hnx hny hxy ds₂ p f (by simpa using hsz) ?_ ?_ ?_ (hs _)
  ·intro h₂ d res' hd B₂
   exact hsrc _ _ h₂ d hd B₂.kg B₂.fn.is
  ·intro h₂ d e res' hd he B₂
   exact hel _ _ h₂ d e hd he B₂.kg B₂.fn.is
  ·intro h' tk B'
   have own:=B'.own
   rw[List.nil_append]at own
   exact hR _ _ h' tk B'.kg (by omega) (by show @Ne Nat _ _;omega) hC B'.fn.is.ns own
 refine codeAny_compStart_list loop (S.walks.self 0 _ _ _ hst loop)
theorem zP6 {elt iter₁ iter:Expr} {x y:Str} {px py:Pos} {ifs:List Expr} {scope:Scope} {pos:Pos} {ds:List PyData} (names:List Str)
 (I:EnvIs X h env Γ) (src:Src prog w A X h (eval iter₁ env) ds) (ds₂:PyData→List PyData) (p:PyData→PyData→Bool) (f:PyData→PyData→PyData)
 (hsrc:∀C X' h₂ d,d∈ds→Ext h h₂→EnvIs X' h₂ (cEnv scope C env) ((x, .d d)::pickG Γ names)→Src prog w A X' h₂ (eval iter (cEnv scope C env)) (ds₂ d))
 (hel:∀C X' h₂ d e,d∈ds→e∈ds₂ d→Ext h h₂→EnvIs X' h₂ (cEnv scope C env) ((y, .d e)::(x, .d d)::pickG Γ names)→
  EvB prog w A X' h₂ (testsT ifs (cEnv scope C env)) (p d e)∧(p d e=true→Ev prog w A X' h₂ (eval elt (cEnv scope C env)) (f d e)))
 (hsz:(ds.flatMap ds₂).length≤sizeLine) (hk:scope.kind= .function) (hox:ownName scope x=true) (hoy:ownName scope y=true) (hf:freeOk scope env=true) (hfree:∀y∈names,FreeIn scope env y)
 (hloc:∀y∈scope.names,y.2= .local→scope.names.lookup y.1=some .local)
 (hnx:(pickG Γ names).lookup x=none) (hny:(pickG Γ names).lookup y=none) (hxy:(y==x)=false)
 (hs:∀v,foldedSetIterable iter₁ env v=pure v) (hs₂:∀C v,foldedSetIterable iter (cEnv scope C env) v=pure v):
 Ev prog w A X h (eval (.ListComp elt [⟨.Name x px,iter₁,[],0⟩,⟨.Name y py,iter,ifs,0⟩] scope pos) env) (.list (ds.flatMap fun d=>((ds₂ d).filter (p d)).map (f d))):=by
 intro s Q E k kx hQ
 rw[eval_ListComp]
 refine wpAny_comprehension_free (use:=none) rfl hs (zAv hf) hk hloc (src s _ _ k kx fun v h' tk k' it=> ?_)
 refine zF9 (RR:=fun acc C=>compPost (model prog w) A E none Q acc C) hk hox hoy hf (I.mono (k.trans k')) hfree it (kx.ext k') hnx hny hxy ds₂ p f hsz
  (fun C X' h₂ d hd k₂=>hsrc C X' h₂ d hd ((k.trans k').trans k₂)) (fun C X' h₂ d e hd he k₂=>hel C X' h₂ d e hd he ((k.trans k').trans k₂)) ?_ hs₂
 intro D C h₂ tk₂ k₂ hD hDC hC hn L
 obtain⟨m,hn⟩:=hn
 refine⟨m,hn,fun h₃ sb=> ?_⟩
 have k₃:Ext s.heap h₃:=fun b o e=>sb.extBut b o (by rintro rfl;exact Nat.lt_irrefl _ (Nat.lt_of_lt_of_le (Heap.lt_size (k' _ _ e)) hC)) (k₂ _ _ (k' _ _ e))
 refine hQ (.ref D) h₃ tk₂ k₃ ?_
 obtain⟨ys,⟨n,e⟩,r⟩:=L
 have se:SExt (hid (D::X) h₂) (hid X h₃):=fun b o e q=>by
  have e':=zAf _ _ _ _ e
  refine zAb (sb.extBut b o ?_ e') fun m=>zAh e (.tail _ m)
  rintro rfl
  obtain⟨o',es,ep,ho,hd,_⟩:=hn
  rw[ho]at e';cases e'
  obtain⟨_,_,z⟩:=q
  rw[hd]at z;cases z
 refine Rd.list (vs:=ys) ⟨_,zAb (sb.extBut _ _ hDC e) fun m=>Nat.lt_irrefl _ (Nat.lt_of_lt_of_le ((kx.ext k').lt m) hD),rfl,n,rfl⟩ (r.mono se)
end
end M24
section M25
section
variable {prog:Program} {w:World} {A:Around} {X M:List Addr} {g h h':Heap} {env cenv:Env} {Γ:List (Str×Bd)}
variable {s:Shared} {E:Value→Shared→Prop} {R:Result→Shared→Prop}
theorem zFc {elt iter₁ iter:Expr} {x y z:Str} {px py pz:Pos} {ifs:List Expr} {scope:Scope} {pos spos:Pos} {ds:List PyData} (names:List Str) {Q:Flow→Shared→Prop}
 (F:Fn g X M s.heap env Γ) (src:Src prog w A X s.heap (eval iter₁ env) ds) (ds₂:PyData→List PyData) (p:PyData→PyData→Bool) (f:PyData→PyData→PyData)
 (hsrc:∀C X' h₂ d,d∈ds→Ext s.heap h₂→EnvIs X' h₂ (cEnv scope C env) ((x, .d d)::pickG Γ names)→Src prog w A X' h₂ (eval iter (cEnv scope C env)) (ds₂ d))
 (hel:∀C X' h₂ d e,d∈ds→e∈ds₂ d→Ext s.heap h₂→EnvIs X' h₂ (cEnv scope C env) ((y, .d e)::(x, .d d)::pickG Γ names)→
  EvB prog w A X' h₂ (testsT ifs (cEnv scope C env)) (p d e)∧(p d e=true→Ev prog w A X' h₂ (eval elt (cEnv scope C env)) (f d e)))
 (hsz:(ds.flatMap ds₂).length≤sizeLine) (hk:scope.kind= .function) (hox:ownName scope x=true) (hoy:ownName scope y=true) (hf:freeOk scope env=true) (hfree:∀y∈names,FreeIn scope env y)
 (hloc:∀y∈scope.names,y.2= .local→scope.names.lookup y.1=some .local)
 (hnx:(pickG Γ names).lookup x=none) (hny:(pickG Γ names).lookup y=none) (hxy:(y==x)=false)
 (hz:env.kindOf z=some .local)
 (hQ:∀h' tk,Fn g X M h' env ((z, .d (.list (ds.flatMap fun d=>((ds₂ d).filter (p d)).map (f d))))::Γ)→Rel [] env s.heap h'→Q .next (sat s h' tk))
 (hsw:swapsWith (.ListComp elt [⟨.Name x px,iter₁,[],0⟩,⟨.Name y py,iter,ifs,0⟩] scope pos) (some (.Name z pz)) spos.line env=pure true)
 (hs:∀v,foldedSetIterable iter₁ env v=pure v) (hs₂:∀C v,foldedSetIterable iter (cEnv scope C env) v=pure v):
 wpAny (model prog w) A (exec (.Assign [.Name z pz] (.ListComp elt [⟨.Name x px,iter₁,[],0⟩,⟨.Name y py,iter,ifs,0⟩] scope pos) spos) env) Q E s:=by
 have I:=F.is
 have kx:=F.kx
 rw[exec_Assign_Name_used _ _ _ _ hsw]
 refine wpAny_bind (wpAny_standAt (wpAny_bind ?_))
 show wpAny _ A (do let _←comprehension (.ListComp elt [⟨.Name x px,iter₁,[],0⟩,⟨.Name y py,iter,ifs,0⟩] scope pos) scope env _ (newList []) false (eval iter₁ env) (some (assign (.Name z pz) env))) _ _ s
 refine wpAny_bind (wpAny_mono (wpAny_comprehension_free (use:=some (assign (.Name z pz) env)) (Q:=fun _ s'=>Q .next s') rfl hs (zAv hf) hk hloc
  (src s _ _ Ext.rfl kx fun v h' tk k' it=> ?_)) (fun _ s' hq=>wpAny_pure (wpAny_pure hq)) fun _ _ e=>e)
 refine zF9 (RR:=fun acc C=>compPost (model prog w) A E (some (assign (.Name z pz) env)) (fun _ s'=>Q .next s') acc C) hk hox hoy hf (I.mono k') hfree it (kx.ext k') hnx hny hxy ds₂ p f hsz
  (fun C X' h₂ d hd k₂=>hsrc C X' h₂ d hd (k'.trans k₂)) (fun C X' h₂ d e hd he k₂=>hel C X' h₂ d e hd he (k'.trans k₂)) ?_ hs₂
 intro D C h₂ tk₂ k₂ hD hDC hC hn L
 obtain⟨mC,hn⟩:=hn
 obtain⟨m,hm⟩:=I.ns
 have hm₂:=(hm.keeps k').keeps k₂
 have hLsize: @LT.lt Nat _ env.locals h'.objs.size:=(hm.keeps k').lt
 have hLC:env.locals≠C:=by rintro rfl;exact Nat.lt_irrefl _ (Nat.lt_of_lt_of_le hLsize hC)
 have hLD:env.locals≠D:=by rintro rfl;exact Nat.lt_irrefl _ (Nat.lt_of_lt_of_le hLsize hD)
 show wpAny _ A (assign (.Name z pz) env (.ref D)) _ _ _
 refine wpAny_assign_Name (wpAny_storeName_local hz hm₂ (fun h₃ hn₃ hs₃=> ?_) (by rw[I.fn];rfl))
 refine⟨mC,hn.sameBut hs₃ (Ne.symm hLC),fun h₄ hs₄=> ?_⟩
 have keep:∀b o,b≠C→b≠env.locals→h₂.get? b=some o→h₄.get? b=some o:=fun b o n1 n2 e=>hs₄.extBut b o n1 (hs₃.extBut b o n2 e)
 have k4:But env.locals s.heap h₄:=fun b o hb e=>by
  have e':=k' _ _ e
  exact keep b o (by rintro rfl;exact Nat.lt_irrefl _ (Nat.lt_of_lt_of_le (Heap.lt_size e') hC)) hb (k₂ _ _ e')
 have n4:=hn₃.sameBut hs₄ hLC
 have R4:Rel [] env s.heap h₄:=fun b o _ n _ e=>k4 b o n e
 obtain⟨ys,⟨n,e⟩,r⟩:=L
 have se:SExt (hid (D::X) h₂) (hid X h₄):=fun b o e q=>by
  have e':=zAf _ _ _ _ e
  refine zAb (keep b o ?_ ?_ e') fun m=>zAh e (.tail _ m)
  ·rintro rfl
   obtain⟨o',es,ep,ho,hd,_⟩:=hn
   rw[ho]at e';cases e'
   obtain⟨_,_,z⟩:=q
   rw[hd]at z;cases z
  ·rintro rfl
   obtain⟨o',es,ep,ho,hd,_⟩:=hm₂
   rw[show h₂.get? env.locals=some o' from ho]at e';cases e'
   obtain⟨_,_,z⟩:=q
   rw[hd]at z;cases z
 have rd:Rd (hid X h₄) (.list (ds.flatMap fun d=>((ds₂ d).filter (p d)).map (f d))) (.ref D):=
  Rd.list (vs:=ys) ⟨_,zAb (keep _ _ hDC (Ne.symm hLD) e) fun m=>Nat.lt_irrefl _ (Nat.lt_of_lt_of_le ((kx.ext k').lt m) hD),rfl,n,rfl⟩ (r.mono se)
 exact hQ h₄ _ ⟨F.is.upd k4 hm n4 hz rd,R4.ext F zAp,F.outL,F.outC,F.outM,F.sub,F.kx.but k4 hm n4⟩ R4
end
end M25
section M26
section
variable {prog:Program} {w:World} {A:Around} {X M:List Addr} {g h h':Heap} {env cenv:Env} {Γ:List (Str×Bd)}
theorem nm_ {x:Str} {pos:Pos} {d:PyData} (I:EnvIs X h env Γ) (e:autoParam (Γ.lookup x=some (.d d)) aR) (hd:autoParam ((x==("__debug__":Str))=false) aD) (hc:autoParam ((x==("__classdict__":Str))=false) aD):
 Ev prog w A X h (eval (.Name x pos) env) d:=zAd I e hd hc
theorem nmV_ {x:Str} {pos:Pos} {u:Value} (I:EnvIs X h env Γ) (e:autoParam (Γ.lookup x=some (.v u)) aR) (hd:autoParam ((x==("__debug__":Str))=false) aD) (hc:autoParam ((x==("__classdict__":Str))=false) aD):
 EvV prog w A h (eval (.Name x pos) env) u:=zAm I e hd hc
theorem stL {y:Str} (h:autoParam (env.kindOf y=some .local) aR):Stores env y:= .inl h
theorem stC {y:Str} {c:Addr} (h:autoParam (env.kindOf y=some .cell) aR) (h':autoParam (env.cells.lookup y=some c) aR):Stores env y:= .inr ⟨h,c,h'⟩
theorem zQw {scope:Scope} (h:(scope.names.all fun y=>y.2 != .local||scope.names.lookup y.1==some .local)=true):∀y∈scope.names,y.2= .local→scope.names.lookup y.1=some .local:=by
 intro y hy e
 have:=List.all_eq_true.mp h y hy
 rw[e]at this
 simpa using this
theorem zIb {α:Type} (l:List α) (k:Nat):cutD l none (some (k:Int))=l.take k:=by
 unfold cutD
 simp only[Option.elim_none,Option.elim_some,List.drop_zero,Nat.sub_zero]
 have:clipAt l.length (k:Int)=min k l.length:=by
  unfold clipAt
  rw[if_neg (Int.not_lt.mpr (Int.natCast_nonneg k)),show min (k:Int) (l.length:Int)=((min k l.length:Nat):Int)from by omega,Int.max_eq_right (Int.natCast_nonneg _),Int.toNat_natCast]
 rw[this,List.take_eq_take_iff,Nat.min_assoc,Nat.min_self]
theorem zD4 {α:Type} (l:List α):cutD l none (some (-1))=l.dropLast:=by
 unfold cutD
 simp only[Option.elim_none,Option.elim_some,List.drop_zero,Nat.sub_zero]
 have:clipAt l.length (-1)=l.length - 1:=by
  unfold clipAt
  rw[if_pos (by decide)]
  cases l.length with
  |zero=>rfl
  |succ m=>
   rw[show(-1:Int)+((m+1:Nat):Int)=(m:Int)from by omega,Int.min_eq_left (Int.ofNat_le.mpr (Nat.le_succ m)),Int.max_eq_right (Int.natCast_nonneg _),Int.toNat_natCast];rfl
 rw[this,List.dropLast_eq_take]
theorem GEnv.c {scope:Scope} {C:Addr} (G:GEnv env) (hk:autoParam (scope.kind= .function) aR):GEnv (cEnv scope C env):=⟨hk,G.g,G.b⟩
variable {s:Shared} {E:Value→Shared→Prop} {Q:Flow→Shared→Prop}
theorem zHf {x y:Str} {px py:Pos} {k:Nat} {tp pos:Pos} {e:Expr} {a b:PyData} (hh:A.handled=none) (F:Fn g X M s.heap env Γ) (ev:Ev prog w A X s.heap (eval e env) (.tuple [a,b])) (hx:Stores env x) (hy:Stores env y)
 (hQ:∀h' tk,Fn g X M h' env ((y, .d b)::(x, .d a)::Γ)→Rel [] env s.heap h'→Q .next (sat s h' tk))
 (hs:autoParam (swapsWithSole [.Tuple [.Name x px, .Name y py] k tp] e pos.line env=pure false) aR) (hw:autoParam (swappedStores [.Tuple [.Name x px, .Name y py] k tp] e env=pure none) aR):
 wpAny (model prog w) A (exec (.Assign [.Tuple [.Name x px, .Name y py] k tp] e pos) env) Q E s:=
 zGd (ns:=[(x,px),(y,py)]) (ds:=[a,b]) hh F ev rfl (fun z hz=>by
  simp only[List.mem_cons,List.not_mem_nil,or_false]at hz
  rcases hz with rfl|rfl
  ·exact hx
  ·exact hy) hQ rfl hs hw
theorem zMf {x y z:Str} {px py pz:Pos} {k:Nat} {tp pos:Pos} {e:Expr} {a b c:PyData} (hh:A.handled=none) (F:Fn g X M s.heap env Γ) (ev:Ev prog w A X s.heap (eval e env) (.tuple [a,b,c])) (hx:Stores env x) (hy:Stores env y) (hz:Stores env z)
 (hQ:∀h' tk,Fn g X M h' env ((z, .d c)::(y, .d b)::(x, .d a)::Γ)→Rel [] env s.heap h'→Q .next (sat s h' tk))
 (hs:autoParam (swapsWithSole [.Tuple [.Name x px, .Name y py, .Name z pz] k tp] e pos.line env=pure false) aR) (hw:autoParam (swappedStores [.Tuple [.Name x px, .Name y py, .Name z pz] k tp] e env=pure none) aR):
 wpAny (model prog w) A (exec (.Assign [.Tuple [.Name x px, .Name y py, .Name z pz] k tp] e pos) env) Q E s:=
 zGd (ns:=[(x,px),(y,py),(z,pz)]) (ds:=[a,b,c]) hh F ev rfl (fun q hq=>by
  simp only[List.mem_cons,List.not_mem_nil,or_false]at hq
  rcases hq with rfl|rfl|rfl
  ·exact hx
  ·exact hy
  ·exact hz) hQ rfl hs hw
end
end M26
section P7
section
variable {w:World} {A:Around} {X:List Addr} {h:Heap}
noncomputable def nm (b:Bool):Str:=if b then "ä" else "a"
noncomputable def iob (b:Bool):Int:=if b then 1 else 0
noncomputable def rowD (r:List Bool):PyData:= .list (r.map fun b=> .str (nm b))
noncomputable def irow (r:List Bool):PyData:= .list (r.map fun b=> .int (iob b))
noncomputable def bitsRow (x:Int):List Bool:=(List.range (1+x.fmod 3).toNat).map fun k=>decide (dig x k 2=1)
noncomputable def rowsB (xs:List Int):List (List Bool):=[[false,true],[false,false,true],[true]]++xs.map bitsRow
noncomputable def headsB (xs:List Int):List (List Bool):=(rowsB xs).flatMap fun r=>(List.range (r.length+1)).map fun k=>r.take k
noncomputable def uniqB (H:List (List Bool)):List (List Bool):=((List.range H.length).filter fun k=> !(H.take k).any fun y=>y==H.getD k []).map fun k=>H.getD k []
noncomputable def bitF (x:Int):PyData→PyData
 | .int k=> .int (iob (decide (dig x k.toNat 2=1)))
 |_=> .none
noncomputable def rowF:PyData→PyData
 | .int x=>irow (bitsRow x)
 |_=> .none
theorem dig_iob (x:Int) (k:Nat):iob (decide (dig x k 2=1))=dig x k 2:=by
 have:=zCw ((x.fdiv 3).fdiv (2 ^ k)) (show(0:Int)<2 by decide)
 unfold iob
 by_cases h:dig x k 2=1
 ·simp[h]
 ·have h1:dig x k 2=0:=by unfold dig at h⊢;omega
  simp[h1]
theorem zNw (x:Int): .list ((upto (1+x.fmod 3).toNat|>.filter fun _=>true).map (bitF x))=rowF (.int x):=by
 simp only[zBd,upto,List.map_map,rowF,irow,bitsRow]
 rfl
theorem zK1 {xs:List Int} {d:PyData} (h:d∈xs.map PyData.int):∃x,d= .int x:=by
 obtain⟨x,_,rfl⟩:=List.mem_map.mp h;exact⟨x,rfl⟩
noncomputable def figF:PyData→PyData
 | .int i=> .str (if i=1 then "ä" else "a")
 |_=> .none
noncomputable def spanF:PyData→List PyData
 | .list l=>upto (l.length+1)
 |_=>[]
noncomputable def headF:PyData→PyData→PyData
 | .list l, .int k=> .list ((l.take k.toNat).map figF)
 |_,_=> .none
theorem zNt (b:Bool):figF (.int (iob b))= .str (nm b):=by cases b<;>rfl
theorem zK4 (r:List Bool) (k:Nat):headF (irow r) (.int (k:Int))=rowD (r.take k):=by
 simp only[irow,headF,rowD,Int.toNat_natCast,←List.map_take,List.map_map]
 congr 1
 exact List.map_congr_left fun b _=>zNt b
theorem zQl (xs:List Int):(((rowsB xs).map irow).flatMap fun d=>((spanF d).filter fun _=>true).map (headF d))=(headsB xs).map rowD:=by
 rw[List.flatMap_map,headsB,List.map_flatMap]
 congr 1
 funext r
 rw[zBd,List.map_map]
 show(upto ((r.map fun b=>PyData.int (iob b)).length+1)).map (headF (irow r))=_
 rw[List.length_map,upto,List.map_map]
 exact List.map_congr_left fun k _=>zK4 r k
theorem zKv {xs:List Int} {d:PyData} (h:d∈(rowsB xs).map irow):∃r∈rowsB xs,d=irow r:=by
 obtain⟨r,hr,rfl⟩:=List.mem_map.mp h;exact⟨r,hr,rfl⟩
theorem zFi {xs:List Int} {r:List Bool} (h:r∈rowsB xs):r.length≤3:=by
 rcases List.mem_append.mp h with h|h
 ·simp only[List.mem_cons,List.not_mem_nil,or_false]at h
  rcases h with rfl|rfl|rfl<;>decide
 ·obtain⟨x,_,rfl⟩:=List.mem_map.mp h
  have m3:=zCw x (show(0:Int)<3 by decide)
  simp only[bitsRow,List.length_map,List.length_range];omega
theorem zLs (xs:List Int) (hx:xs.length≤3):(headsB xs).length≤24∧(((rowsB xs).map irow).flatMap spanF).length≤24:=by
 have key:∀l:List (List Bool),(∀r∈l,r.length≤3)→(l.flatMap fun r=>(List.range (r.length+1)).map fun k=>r.take k).length≤l.length * 4∧((l.map irow).flatMap spanF).length≤l.length * 4:=by
  intro l
  induction l with
  |nil=>intro _;simp
  |cons r l ih=>
   intro h
   have h1:=h r List.mem_cons_self
   obtain⟨h2,h3⟩:=ih fun r' hr=>h r' (List.mem_cons_of_mem _ hr)
   have h4:(spanF (irow r)).length=r.length+1:=by simp[irow,spanF,zE1]
   simp only[List.flatMap_cons,List.map_cons,List.length_append,List.length_map,List.length_range,List.length_cons,h4]
   omega
 have h5:=key (rowsB xs) fun r hr=>zFi hr
 have h6:(rowsB xs).length≤6:=by simp[rowsB];omega
 unfold headsB
 omega
theorem zK7:∀(a b:List Bool),PyData.eqv (rowD a) (rowD b)=(a==b)
 | [],[]=>by simp[rowD,PyData.eqv,PyData.eqvAll]
 | [],_::_=>by simp[rowD,PyData.eqv,PyData.eqvAll]
 |_::_,[]=>by simp[rowD,PyData.eqv,PyData.eqvAll]
 |x::a,y::b=>by
  have ih:=zK7 a b
  simp only[rowD,PyData.eqv,List.map_cons,PyData.eqvAll]at ih⊢
  rw[ih]
  have:(nm x==nm y)=(x==y):=by cases x<;>cases y<;>decide
  rw[this];rfl
theorem zLc:∀(a:List Bool),PyData.canLayAll0 (a.map fun b=> .str (nm b))=true∧PyData.depthAll (a.map fun b=> .str (nm b))=0
 | []=>by simp[PyData.canLayAll0,PyData.depthAll]
 |x::a=>by
  have ih:=zLc a
  simp only[List.map_cons,PyData.canLayAll0,PyData.depthAll,PyData.canLay0,PyData.depth,ih.1,ih.2]
  cases x<;>exact⟨by decide+kernel,rfl⟩
theorem zHz (a:List Bool):(rowD a).canLay0=true∧(rowD a).depth=1:=by
 have:=zLc a
 constructor
 ·simp only[rowD,PyData.canLay0,this.1]
 ·simp only[rowD,PyData.depth,this.2]
theorem zKt:∀(l:List (List Bool)),PyData.canLayAll0 (l.map rowD)=true
 | []=>by simp[PyData.canLayAll0]
 |a::l=>by simp[PyData.canLayAll0,(zHz a).1,zKt l]
noncomputable def keepP (H:List (List Bool)):PyData→Bool
 | .int k=> !(H.take k.toNat).any fun y=>y==H.getD k.toNat []
 |_=>false
noncomputable def pickF (H:List (List Bool)):PyData→PyData
 | .int k=>rowD (H.getD k.toNat [])
 |_=> .none
theorem zJz (S:Stat (hd.heap_1 w.params) h) (rm:Room A 9) (xs:List Int) (hxs:xs.length≤3):CallIs PR w A X h (.ref 275) [.list (xs.map .int)] (.list ((uniqB (headsB xs)).map rowD)):=by
 intro s vs Q E k kx r hQ
 obtain⟨v,rfl,rv⟩:=r.one
 refine' zCb (n:=8) (ps:=["drawn"]) (S.mono k) ?ho ?hcd rm kx r ?hb rfl (by decide) ?kind ?_ ?hco ?hgen ?hk
 walk_at "entered"
 intro h₁ tk F G E'
 have S₁:=(S.mono k).mono F.kg
 walk_at "sh"
 with_reducible refine zAa (zAi (d:= .list ((rowsB xs).map irow)) F ?_ stL fun h₂ tk₂ F₂ R₂=> ?_)
 ·with_reducible refine Ev.eq (zDh (a:=[irow [false,true],irow [false,false,true],irow [true]]) (b:=xs.map fun x=>irow (bitsRow x)) ?_ ?_ ?_) ?_
  ·with_reducible refine zAr (zAc (d:= .list [.int 0, .int 1]) (zAr ?_) (zAc (d:= .list [.int 0, .int 0, .int 1]) (zAr ?_) (zAc (d:= .list [.int 1]) (zAr ?_) zAg))) ?_
   ·with_reducible exact zAc zAo (zAc zAo zAg)
   ·with_reducible exact zAc zAo (zAc zAo (zAc zAo zAg))
   ·with_reducible exact zAc zAo zAg
   ·simp[sizeLine]
  ·with_reducible refine Ev.eq (zCr (x:="x") (ds:=xs.map .int) [] F.is (zAx (rm.deeper _).hand (nm_ F.is)) (fun _=>true) rowF ?_ ?_ ?_ ?_ ?_) ?_
   ·intro C X' h₂ d hd k₂ I'
    obtain⟨x,rfl⟩:=zK1 hd
    have m3:=zCw x (show(0:Int)<3 by decide)
    refine⟨zBs,fun _=> ?_⟩
    with_reducible refine Ev.eq (zCr (x:="k") (ds:=upto (1+x.fmod 3).toNat) ["x"] I' (zC8 (rm.deeper _).hand ?_ ?_ ?_) (fun _=>true) (bitF x) ?_ ?_ ?_ ?_ ?_) (zNw x)
    ·with_reducible exact zAe (S₁.mono k₂) G.c zGk zF4
    ·with_reducible refine Ev.eq (b:= .int (1+x.fmod 3)) (zDk zAo (zLe (nm_ I') zAo)) ?_
     congr 1;omega
    ·omega
    ·intro C₂ X₂ h₃ d₂ hd₂ k₃ I₂
     obtain⟨j,hj,rfl⟩:=zE2 hd₂
     have hj3:(j:Int)<3:=by omega
     refine⟨zBs,fun _=> ?_⟩
     with_reducible refine Ev.eq (b:= .int (dig x j 2)) ?_ ?_
     ·with_reducible refine Ev.eq (zLe (zCv (b:=2 ^ j) (zCv (nm_ I₂) zAo) (zOx zAo (nm_ I₂) ?_) ?_ ?_) zAo) ?_
      ·omega
      ·exact Int.ne_of_gt (Int.pow_pos (by decide))
      ·rw[Int.natAbs_pow]
       exact Nat.lt_of_le_of_lt (Nat.pow_le_pow_right (n:=2) (i:=j) (j:=2) (by decide) (by omega)) (by decide)
      ·rfl
     ·show PyData.int _=PyData.int _
      congr 1;exact(dig_iob x j).symm
    ·rw[zE1];unfold sizeLine;omega
    ·rfl
    ·rfl
    ·intro y hy
     simp only[List.mem_singleton]at hy;subst hy
     walk_at "free"
   ·rw[List.length_map];unfold sizeLine;omega
   ·rfl
   ·rfl
   ·exact fun _ m=>nomatch m
   ·rw[zBd,List.map_map];rfl
  ·simp[sizeLine];omega
  ·simp[rowsB]
 have S₂:=(S.mono k).mono F₂.kg
 have hl:=zLs xs hxs
 walk_at "sh"
 with_reducible refine zAa (zAi (d:= .list ((headsB xs).map rowD)) F₂ ?_ stC fun h₃ tk₃ F₃ R₃=> ?_)
 ·with_reducible refine Ev.eq (zP6 (x:="row") (y:="k") (ds:=(rowsB xs).map irow) [] F₂.is (zAx (rm.deeper _).hand (nm_ F₂.is)) spanF (fun _ _=>true) headF ?_ ?_ ?_ ?_ ?_ ?_ ?_ ?_ ?_ ?_ ?_ ?_ ?_ ?_) ?_
  ·intro C X' h₄ d hd k₄ I'
   obtain⟨r,hr,rfl⟩:=zKv hd
   have:=zFi hr
   refine zC8 (n:=(r.map fun b=>PyData.int (iob b)).length+1) (rm.deeper _).hand ?_ ?_ ?_
   ·with_reducible exact zAe (S₂.mono k₄) G.c zGk zF4
   ·with_reducible refine Ev.eq (zDk (zA3 ?_ (zAc (nm_ I') zAg) (zDo ?_)) zAo) ?_
    ·with_reducible exact zAe (S₂.mono k₄) G.c zGv zGx
    ·rw[List.length_map];omega
    ·rfl
   ·rw[List.length_map];omega
  ·intro C X' h₄ d e hd he k₄ I'
   obtain⟨r,hr,rfl⟩:=zKv hd
   obtain⟨j,hj,rfl⟩:=zE2 he
   have:=zFi hr
   refine⟨zBs,fun _=> ?_⟩
   rw[zK4]
   with_reducible refine Ev.eq (zCr (x:="figure") (ds:=(r.take j).map fun b=>PyData.int (iob b)) [] I' (zAx (rm.deeper _).hand ?_) (fun _=>true) figF ?_ ?_ ?_ ?_ ?_) ?_
   ·with_reducible refine Ev.eq (zCg (nm_ I') pNone (pEv (nm_ I')) ?_) ?_
    ·rw[List.length_map];unfold sizeLine;omega
    ·rw[zIb,←List.map_take]
   ·intro C₂ X₂ h₅ d₂ hd₂ k₅ I₂
    obtain⟨b, -,rfl⟩:=List.mem_map.mp hd₂
    refine⟨zBs,fun _=> ?_⟩
    with_reducible refine zEh (xs:=[.str "a", .str "ä"]) (i:=iob b) ?_ (nm_ I₂) ?_ ?_ ?_
    ·with_reducible exact zAr (zAc zAq (zAc zAq zAg))
    ·cases b<;>decide
    ·cases b<;>rfl
    ·cases b<;>decide
   ·simp[sizeLine];omega
   ·rfl
   ·rfl
   ·exact fun _ m=>nomatch m
   ·simp only[zBd,List.map_map,rowD]
    congr 1
    exact List.map_congr_left fun b _=>zNt b
  ·unfold sizeLine;omega
  ·rfl
  ·rfl
  ·rfl
  ·rfl
  ·exact fun _ m=>nomatch m
  ·exact zQw rfl
  ·rfl
  ·rfl
  ·rfl
  ·intro _;rfl
  ·intro _ _;rfl
  ·rw[zQl]
 have S₃:=(S.mono k).mono F₃.kg
 generalize headsB xs=H at hl F₃ hQ
 have I₃:=F₃.is
 have hget:∀j,j<H.length→(H.map rowD)[((j:Nat):Int).toNat]? =some (rowD (H.getD j [])):=fun j hj=>by
  rw[Int.toNat_natCast,List.getElem?_map,List.getElem?_eq_getElem hj]
  simp[List.getD,hj]
 walk_at "sh"
 with_reducible refine zAa (zAz (d:= .list ((uniqB H).map rowD)) F₃ ?_ ?_)
 ·with_reducible refine Ev.eq (zCr (x:="k") (ds:=upto H.length) ["heads"] I₃ (zC8 (rm.deeper _).hand ?_ ?_ ?_) (keepP H) (pickF H) ?_ ?_ ?_ ?_ ?_) ?_
  ·with_reducible exact zAe S₃ G zGk zF4
  ·with_reducible refine Ev.eq (zA3 ?_ (zAc (nm_ I₃) zAg) (zDo ?_)) ?_
   ·with_reducible exact zAe S₃ G zGv zGx
   ·rw[List.length_map];omega
   ·rw[List.length_map]
  ·omega
  ·intro C X' h₄ d hd k₄ I'
   obtain⟨j,hj,rfl⟩:=zE2 hd
   have elt:((j:Nat):Int)<2 ^ 63:=by omega
   refine⟨zBt ?_,fun _=>zEh (xs:=H.map rowD) (i:=(j:Int)) (nm_ I') (nm_ I') (by omega) (hget j hj) elt⟩
   with_reducible refine EvB.eq (zAs (zEh (xs:=H.map rowD) (i:=(j:Int)) (nm_ I') (nm_ I') (Int.natCast_nonneg j) (hget j hj) elt) (zCg (xs:=H.map rowD) (nm_ I') pNone (pEv (nm_ I')) ?_) (zDu ?_ ?_)) ?_
   ·rw[List.length_map];unfold sizeLine;omega
   ·refine(rm.deeper _).lay (zHz _).1 ?_
    rw[(zHz _).2];decide
   ·rw[zIb,←List.map_take];exact zKt _
   ·rw[zIb,←List.map_take,List.any_map]
    simp only[keepP,Int.toNat_natCast,Function.comp_def,zK7]
  ·rw[zE1];unfold sizeLine;omega
  ·rfl
  ·rfl
  ·intro y hy
   simp only[List.mem_singleton]at hy;subst hy
   walk_at "free"
  ·congr 1
   rw[uniqB,upto,List.filter_map,List.map_map,List.map_map]
   have:(keepP H∘fun(i:Nat)=>PyData.int (i:Int))=fun k=> !(H.take k).any fun y=>y==H.getD k []:=by
    funext j
    simp only[Function.comp_def,keepP,Int.toNat_natCast]
   rw[this]
   rfl
 ·intro v h' tk' F' k' r'
  exact hQ v h' tk' F'.kg r'
end
end P7
section M27
noncomputable def rowS (r:List Str):PyData:= .list (r.map .str)
noncomputable def okS (x:Str):Prop:=PyData.strOk x=true
noncomputable def okR (r:List Str):Prop:=∀x∈r,okS x
theorem zKq:∀(a b:List Str),PyData.eqvAll (a.map .str) (b.map .str)=decide (a=b)
 | [],[]=>by simp[PyData.eqvAll]
 | [],_::_=>by simp[PyData.eqvAll]
 |_::_,[]=>by simp[PyData.eqvAll]
 |x::a,y::b=>by
  simp only[List.map_cons,PyData.eqvAll,PyData.eqv,zKq a b,List.cons.injEq]
  rw[Bool.eq_iff_iff]
  simp
theorem zBn (a b:List Str):PyData.eqv (rowS a) (rowS b)=decide (a=b):=by
 simp only[rowS,PyData.eqv,zKq]
theorem zF7:∀(a:List Str),okR a→PyData.canLayAll0 (a.map .str)=true
 | [],_=>by simp[PyData.canLayAll0]
 |x::a,h=>by
  simp only[List.map_cons,PyData.canLayAll0,PyData.canLay0,zF7 a (fun y hy=>h y (List.mem_cons_of_mem _ hy)),Bool.and_true]
  exact h x List.mem_cons_self
theorem zDl:∀(a:List Str),PyData.depthAll (a.map .str)=0
 | []=>by simp[PyData.depthAll]
 |x::a=>by simp[PyData.depthAll,PyData.depth,zDl a]
theorem zBa {a:List Str} (h:okR a):(rowS a).canLay0=true:=by
 simp only[rowS,PyData.canLay0];exact zF7 a h
theorem zB0 (a:List Str):(rowS a).depth=1:=by simp only[rowS,PyData.depth,zDl]
theorem zB3:∀(l:List (List Str)),(∀r∈l,okR r)→PyData.canLayAll0 (l.map rowS)=true
 | [],_=>by simp[PyData.canLayAll0]
 |a::l,h=>by simp[PyData.canLayAll0,zBa (h a List.mem_cons_self),zB3 l fun r hr=>h r (List.mem_cons_of_mem _ hr)]
noncomputable def slash (r:List Str):Str:="/"++Txt.join "/" r
noncomputable def kidsOf (st:List (List Str)) (row:List Str):List (List Str):=st.filter fun o=>decide (o.dropLast=row)&&decide (o≠[])
noncomputable def orderOf (rows:List (List Str)):List (List Str):=rows.flatMap fun a=>kidsOf rows a
noncomputable def firstDue (rows:List (List Str)):List Str:=((orderOf rows).filter fun r=>decide (kidsOf rows r=[])).map slash
noncomputable def rowStep (row:List Str) (part:Str):List Str:=if part=".." then row.dropLast else if¬(part=""∨part=".")then row++[part]else row
noncomputable def rowOf (way:Str) (place:List Str):List Str:=(Txt.split way "/").foldl rowStep (if Txt.slice way none (some 1)="/" then[]else place)
noncomputable def targetOf (way:Str) (row:List Str):Str:=(if Txt.slice way none (some 2)="//"∧Txt.slice way none (some 3)≠"///" then("//":Str)else "/")++Txt.join "/" row
noncomputable def wWait:Str:="was not passed out (still not ready)"
noncomputable def wNone:Str:="was not added using add()"
noncomputable def wDone:Str:="was already marked done"
noncomputable def wGone:Str:="gone"
noncomputable def wordsD (target words:Str):PyData:= .list [.str (if words=wGone then words else "node '"++target++"' "++words), .none]
structure DueSt where
 standing:List (List Str)
 place:List Str
noncomputable def dueWords (rows:List (List Str)) (s:DueSt) (way:Str):Str:=
 let row:=rowOf way s.place
 let target:=targetOf way row
 if Txt.slice target none (some 2)="//"∨row∉rows then wNone
 else if row∉s.standing then wDone
 else if kidsOf s.standing row≠[]then wWait
 else wGone
noncomputable def dueNext (rows:List (List Str)) (s:DueSt) (way:Str):DueSt:=
 let row:=rowOf way s.place
 let w:=dueWords rows s way
 if w=wWait then{s with place:=row}
 else if w=wGone then{standing:=s.standing.filter fun o=>decide (o≠row),place:=row.dropLast}
 else s
noncomputable def dueFree (rows:List (List Str)) (s:DueSt) (way:Str):List Str:=
 let row:=rowOf way s.place
 if dueWords rows s way=wGone then(if kidsOf (s.standing.filter fun o=>decide (o≠row)) row.dropLast=[]∧row≠[]then[slash row.dropLast]else[])else[]
noncomputable def dueEntry (rows:List (List Str)) (s:DueSt) (way:Str):PyData:=
 let target:=targetOf way (rowOf way s.place)
 .list [.str target,wordsD target (dueWords rows s way), .tuple ((dueFree rows s way).map .str)]
noncomputable def stepD (rows:List (List Str)) (p:DueSt×List PyData) (w:Str):DueSt×List PyData:=⟨dueNext rows p.1 w,p.2++[dueEntry rows p.1 w]⟩
theorem zB7 (rows:List (List Str)) (p:DueSt×List PyData) (w:Str):(stepD rows p w).1=dueNext rows p.1 w:=by unfold stepD;with_reducible rfl
theorem zC2 (rows:List (List Str)) (p:DueSt×List PyData) (w:Str):(stepD rows p w).2=p.2++[dueEntry rows p.1 w]:=by unfold stepD;with_reducible rfl
noncomputable def dueAt (rows:List (List Str)) (ways:List Str):DueSt×List PyData:=ways.foldl (stepD rows) (⟨rows,[]⟩,[.tuple ((firstDue rows).map .str)])
noncomputable def dueAll (rows:List (List Str)) (ways:List Str):PyData:= .list ((dueAt rows ways).2++[.bool (!decide ((dueAt rows ways).1.standing=[]))])
noncomputable def kidsP (row:PyData):PyData→Bool
 | .list l=>PyData.eqv (.list l.dropLast) row&& !PyData.eqv (.list l) (.list [])
 |_=>false
theorem zIk (row o:List Str):kidsP (rowS row) (rowS o)=(decide (o.dropLast=row)&&decide (o≠[])):=by
 have h1:PyData.eqv (.list (o.map PyData.str).dropLast) (rowS row)=decide (o.dropLast=row):=by
  rw[←List.map_dropLast];exact zBn _ _
 have h2:PyData.eqv (.list (o.map PyData.str)) (.list [])=decide (o=[]):=zBn o []
 show(PyData.eqv (.list (o.map PyData.str).dropLast) (rowS row)&& !PyData.eqv (.list (o.map PyData.str)) (.list []))=_
 rw[h1,h2];simp
theorem zEo (st:List (List Str)) (row:List Str):(st.map rowS).filter (kidsP (rowS row))=(kidsOf st row).map rowS:=by
 rw[List.filter_map,kidsOf]
 congr 1
 refine List.filter_congr fun o _=> ?_
 exact zIk row o
theorem zK6 (rows:List (List Str)):((rows.map rowS).flatMap fun a=>((rows.map rowS).filter (kidsP a)).map id)=(orderOf rows).map rowS:=by
 rw[List.flatMap_map,orderOf,List.map_flatMap]
 congr 1
 funext a
 rw[List.map_id,zEo]
theorem zB9 {rows:List (List Str)} {d:PyData} (h:d∈rows.map rowS):∃r∈rows,d=rowS r:=by
 obtain⟨r,hr,rfl⟩:=List.mem_map.mp h;exact⟨r,hr,rfl⟩
noncomputable def leafP (rows:List (List Str)):PyData→Bool
 |d=>PyData.eqv (.list ((rows.map rowS).filter (kidsP d))) (.list [])
noncomputable def slashF:PyData→PyData
 | .list l=> .str ("/"++Txt.join "/" (l.filterMap fun| .str x=>some x|_=>none))
 |_=> .none
theorem zHh (r:List Str):slashF (rowS r)= .str (slash r):=by
 simp only[slashF,rowS,List.filterMap_map,Function.comp_def,slash]
 congr 3
 simp
theorem zEc (l:List PyData):PyData.eqv (.list l) (.list [])=decide (l=[]):=by
 cases l<;>simp[PyData.eqv,PyData.eqvAll]
theorem leaf_eq (rows:List (List Str)):(((orderOf rows).map rowS).filter (leafP rows)).map slashF=(firstDue rows).map .str:=by
 rw[List.filter_map,List.map_map,firstDue,List.map_map]
 have h1:(slashF∘rowS)=(PyData.str∘slash):=by funext r;exact zHh r
 have h2:(leafP rows∘rowS)=fun r=>decide (kidsOf rows r=[]):=by
  funext r
  simp only[Function.comp_def,leafP,zEo,zEc,List.map_eq_nil_iff]
 rw[h1,h2]
structure RowsOk (rows:List (List Str)):Prop where
 few:rows.length≤24
 short:∀r∈rows,r.length≤3
 ok:∀r∈rows,okR r
 len:∀r∈rows,∀x∈r,x.length≤10
theorem okR.dropLast {r:List Str} (h:okR r):okR r.dropLast:=fun x hx=>h x ((List.dropLast_sublist r).subset hx)
theorem zDd {st:List (List Str)} {row:List Str}:∀r∈kidsOf st row,r∈st:=fun r h=>(List.mem_filter.mp h).1
theorem zF1 {rows:List (List Str)}:∀r∈orderOf rows,r∈rows:=fun r h=>by
 obtain⟨a,_,h⟩:=List.mem_flatMap.mp h
 exact zDd r h
section
variable {prog:Program} {w:World} {A:Around} {X M:List Addr} {g h h':Heap} {env:Env} {Γ:List (Str×Bd)} {s:Shared} {E:Value→Shared→Prop} {Q:Flow→Shared→Prop}
theorem zQt {st:Stmt} {rest:List Stmt} (Mid:Shared→Prop) (hh:wpAny (model prog w) A (exec st env) (fun f s'=>f= .next∧Mid s') E s) (k:∀s',Mid s'→wpAny (model prog w) A (execs rest env) Q E s'):
 wpAny (model prog w) A (execs (st::rest) env) Q E s:=
 zAa (wpAny_mono hh (fun f s' q=>by obtain⟨rfl,q⟩:=q;exact k s' q) fun _ _ e=>e)
noncomputable def Same (_:Fn g X M h env Γ) (Γ':List (Str×Bd)) (h':Heap):Prop:=Fn g X M h' env Γ'
noncomputable def RelF (_:Fn g X M h env Γ) (M':List Addr) (a b:Heap):Prop:=Rel M' env a b
end
theorem zB5:∀(l:List (List Str)),PyData.depthAll (l.map rowS)≤1
 | []=>by simp[PyData.depthAll]
 |a::l=>by
  have:=zB5 l
  simp only[List.map_cons,PyData.depthAll,zB0]
  omega
theorem zHp (B:Nat) {ys:List Str} (h:∀y∈ys,y.length≤B):(Txt.join "/" ys).length≤ys.length * B+ys.length:=by
 have h2:(Txt.join "/" ys).length≤_:=Nat.le_trans (Nat.le_of_eq (congrArg Str.length (StrLaws.glued_eq_join "/" ys))) (StrLaws.join_length_le "/" ys)
 have h3:=zDb B ys h
 have:("/":Str).length=1:=rfl
 rw[this]at h2
 omega
theorem zKk (B:Nat) (row:List Str) (part:Str):(rowStep row part).length≤row.length+1∧(∀y∈rowStep row part,y∈row∨y=part):=by
 unfold rowStep
 split
 ·exact⟨by simp;omega,fun y hy=> .inl ((List.dropLast_sublist row).subset hy)⟩
 ·split
  ·exact⟨by simp,fun y hy=>by simpa using hy⟩
  ·exact⟨by omega,fun y hy=> .inl hy⟩
theorem zIr:∀(ps row:List Str),(ps.foldl rowStep row).length≤row.length+ps.length∧∀y∈ps.foldl rowStep row,y∈row∨y∈ps
 | [],row=>⟨Nat.le_refl _,fun y h=> .inl h⟩
 |c::cs,row=>by
  obtain⟨h1,h2⟩:=zIr cs (rowStep row c)
  obtain⟨h3,h4⟩:=zKk 0 row c
  refine⟨by simp only[List.foldl_cons,List.length_cons];omega,fun y hy=> ?_⟩
  rcases h2 y hy with h|h
  ·rcases h4 y h with h|h
   ·exact .inl h
   ·exact .inr (by simp[h])
  ·exact .inr (List.mem_cons_of_mem _ h)
structure PlaceOk (p:List Str):Prop where
 short:p.length≤3
 ok:okR p
 len:∀x∈p,x.length≤10
theorem PlaceOk.nil:PlaceOk []:=⟨by simp,(fun _ m=>nomatch m),fun _ m=>nomatch m⟩
theorem PlaceOk.dropLast {p:List Str} (h:PlaceOk p):PlaceOk p.dropLast:=⟨by have:=h.short;simp;omega,h.ok.dropLast,fun x hx=>h.len x ((List.dropLast_sublist p).subset hx)⟩
theorem RowsOk.place {rows:List (List Str)} (R:RowsOk rows) {r:List Str} (h:r∈rows):PlaceOk r:=⟨R.short r h,R.ok r h,R.len r h⟩
structure DueOk (rows:List (List Str)) (s:DueSt):Prop where
 sub:∀r∈s.standing,r∈rows
 few:s.standing.length≤24
 place:PlaceOk s.place
theorem zDf:wNone≠wWait∧wNone≠wGone∧wDone≠wWait∧wDone≠wGone∧wWait≠wGone:=by decide+kernel
theorem DueOk.next {rows:List (List Str)} (R:RowsOk rows) {s:DueSt} (K:DueOk rows s) (way:Str):DueOk rows (dueNext rows s way):=by
 obtain⟨n1,n2,n3,n4,n5⟩:=zDf
 have hrow:dueWords rows s way=wWait∨dueWords rows s way=wGone→rowOf way s.place∈rows:=by
  intro h
  unfold dueWords at h
  simp only at h
  split at h
  ·rcases h with h|h
   ·exact(n1 h).elim
   ·exact(n2 h).elim
  ·rename_i hn
   rw[not_or]at hn
   exact Decidable.of_not_not hn.2
 unfold dueNext
 simp only
 split
 ·rename_i e
  exact⟨K.sub,K.few,R.place (hrow (.inl e))⟩
 ·split
  ·rename_i e
   refine⟨fun r h=>K.sub r (List.mem_filter.mp h).1,Nat.le_trans (List.length_filter_le _ _) K.few,(R.place (hrow (.inr e))).dropLast⟩
  ·exact K
theorem zE5 {rows:List (List Str)} (R:RowsOk rows) (ways:List Str):DueOk rows (dueAt rows ways).1∧(dueAt rows ways).2.length≤ways.length+1:=by
 have key:∀(ws:List Str) (p:DueSt×List PyData),DueOk rows p.1→DueOk rows (ws.foldl (stepD rows) p).1∧(ws.foldl (stepD rows) p).2.length≤ws.length+p.2.length:=by
  intro ws
  induction ws with
  |nil=>intro p h;exact⟨h,by simp⟩
  |cons c cs ih=>
   intro p h
   have h0:DueOk rows (stepD rows p c).1:=by rw[zB7];exact DueOk.next R h c
   obtain⟨h1,h2⟩:=ih (stepD rows p c) h0
   rw[List.foldl_cons]
   refine⟨h1,Nat.le_trans h2 ?_⟩
   rw[zC2,List.length_append,List.length_cons,List.length_cons,List.length_nil]
   omega
 have h:=key ways (⟨rows,[]⟩,[.tuple ((firstDue rows).map .str)]) ⟨fun r h=>h,R.few,PlaceOk.nil⟩
 unfold dueAt
 exact⟨h.1,Nat.le_trans h.2 (by simp)⟩
open Builtin Builtin.Str in
theorem zJl {x:Str} (h:okS x) (i j:Nat):okS (strSub x i j):=by
 unfold okS PyData.strOk at *
 rw[Array.all_eq_true_iff_forall_mem]at *
 intro c hc
 have:c∈x.cps.toList:=by
  have h1:c∈(strSub x i j).cps.toList:=by simpa using hc
  rw[StrLaws.strSub_toList]at h1
  exact List.mem_of_mem_drop (List.mem_of_mem_take h1)
 exact h c (by simpa using this)
open Builtin Builtin.Str in
theorem zI8 {x:Str} (h:okS x) (wd:Nat):∀(cuts:List Nat) (a:Nat),∀y∈StrLaws.partsFrom x wd a cuts,okS y:=by
 intro cuts
 induction cuts with
 |nil=>intro a y hy;simp only[StrLaws.partsFrom,List.mem_singleton]at hy;subst hy;exact zJl h _ _
 |cons c r ih=>
  intro a y hy
  simp only[StrLaws.partsFrom,List.mem_cons]at hy
  rcases hy with rfl|hy
  ·exact zJl h _ _
  ·exact ih _ y hy
open Builtin Builtin.Str in
theorem zPx {x:Str} (h:okS x) (y:Str):∀z∈Txt.split x y,okS z:=by
 unfold Txt.split
 split
 ·intro z hz;simp only[List.mem_singleton]at hz;subst hz;exact h
 ·split
  ·intro z hz;simp only[List.mem_singleton]at hz;subst hz;exact h
  ·rw[StrLaws.partsBetween_eq];exact zI8 h _ _ _
theorem zHc {rows:List (List Str)} {ways:List Str} {i:Nat} {way:Str} (h:ways[i]? =some way):dueAt rows (ways.take (i+1))=stepD rows (dueAt rows (ways.take i)) way:=by
 unfold dueAt
 rw[zA5 h,List.foldl_append,List.foldl_cons,List.foldl_nil]
end M27
section M28
theorem any_rows (rows:List (List Str)) (row:List Str):((rows.map rowS).any fun y=>PyData.eqv y (rowS row))=decide (row∈rows):=by
 rw[List.any_map]
 have:((fun y=>PyData.eqv y (rowS row))∘rowS)=fun r=>decide (r=row):=by funext r;exact zBn r row
 rw[this,Bool.eq_iff_iff]
 simp
section
variable {rows:List (List Str)} {s:DueSt} {way:Str}
theorem zKn (h:Txt.slice (targetOf way (rowOf way s.place)) none (some 2)="//"∨rowOf way s.place∉rows):dueWords rows s way=wNone∧dueNext rows s way=s∧dueFree rows s way=[]:=by
 obtain⟨n1,n2,_⟩:=zDf
 have e:dueWords rows s way=wNone:=by unfold dueWords;simp only;rw[if_pos h]
 refine⟨e,?_,?_⟩
 ·unfold dueNext;simp only;rw[e,if_neg n1,if_neg n2]
 ·unfold dueFree;simp only;rw[e,if_neg n2]
theorem zLf (h:¬(Txt.slice (targetOf way (rowOf way s.place)) none (some 2)="//"∨rowOf way s.place∉rows)) (h2:rowOf way s.place∉s.standing):dueWords rows s way=wDone∧dueNext rows s way=s∧dueFree rows s way=[]:=by
 obtain⟨_,_,n3,n4,_⟩:=zDf
 have e:dueWords rows s way=wDone:=by unfold dueWords;simp only;rw[if_neg h,if_pos h2]
 refine⟨e,?_,?_⟩
 ·unfold dueNext;simp only;rw[e,if_neg n3,if_neg n4]
 ·unfold dueFree;simp only;rw[e,if_neg n4]
theorem zK2 (h:¬(Txt.slice (targetOf way (rowOf way s.place)) none (some 2)="//"∨rowOf way s.place∉rows)) (h2:¬rowOf way s.place∉s.standing) (h3:kidsOf s.standing (rowOf way s.place)≠[]):
 dueWords rows s way=wWait∧dueNext rows s way={s with place:=rowOf way s.place}∧dueFree rows s way=[]:=by
 obtain⟨_,_,_,_,n5⟩:=zDf
 have e:dueWords rows s way=wWait:=by unfold dueWords;simp only;rw[if_neg h,if_neg h2,if_pos h3]
 refine⟨e,?_,?_⟩
 ·unfold dueNext;simp only;rw[e,if_pos rfl]
 ·unfold dueFree;simp only;rw[e,if_neg n5]
theorem zLd (h:¬(Txt.slice (targetOf way (rowOf way s.place)) none (some 2)="//"∨rowOf way s.place∉rows)) (h2:¬rowOf way s.place∉s.standing) (h3:¬kidsOf s.standing (rowOf way s.place)≠[]):
 dueWords rows s way=wGone∧dueNext rows s way={standing:=s.standing.filter fun o=>decide (o≠rowOf way s.place),place:=(rowOf way s.place).dropLast}∧
 dueFree rows s way=(if kidsOf (s.standing.filter fun o=>decide (o≠rowOf way s.place)) (rowOf way s.place).dropLast=[]∧rowOf way s.place≠[]then[slash (rowOf way s.place).dropLast]else[]):=by
 obtain⟨_,_,_,_,n5⟩:=zDf
 have e:dueWords rows s way=wGone:=by unfold dueWords;simp only;rw[if_neg h,if_neg h2,if_neg h3]
 refine⟨e,?_,?_⟩
 ·unfold dueNext;simp only;rw[e,if_neg (Ne.symm n5),if_pos rfl]
 ·unfold dueFree;simp only;rw[e,if_pos rfl]
end
theorem zNo (rows:List (List Str)) (s:DueSt) (way:Str):(dueWords rows s way).length≤40:=by
 have h:wNone.length≤40∧wDone.length≤40∧wWait.length≤40∧wGone.length≤40:=by decide+kernel
 unfold dueWords
 simp only
 split
 ·exact h.1
 ·split
  ·exact h.2.1
  ·split
   ·exact h.2.2.1
   ·exact h.2.2.2
theorem zP1:("node '":Str).length=6∧("' ":Str).length=2:=by decide+kernel
noncomputable def neP (row:PyData):PyData→Bool:=fun o=> !PyData.eqv o row
theorem ne_eq (st:List (List Str)) (row:List Str):(st.map rowS).filter (neP (rowS row))=(st.filter fun o=>decide (o≠row)).map rowS:=by
 rw[List.filter_map]
 congr 1
 refine List.filter_congr fun o _=> ?_
 show(!PyData.eqv (rowS o) (rowS row))=_
 rw[zBn];simp
end M28
section P8
section
variable {w:World} {A:Around} {X:List Addr} {h:Heap}
section
variable {prog:Program} {env:Env} {Γ:List (Str×Bd)}
theorem zDv {x r:Str} {p1 p2 p3 p4 p5 p6 p7 p8 pa pb pc:Pos} {k:Nat} {whole:Sem Value} {row o:List Str} (rm:Room A 1) (I:EnvIs X h env Γ) (hx:Γ.lookup x=some (.d (rowS o))) (hr:Γ.lookup r=some (.d (rowS row))) (ho:okR o) (hrow:okR row) (hl:o.length≤1000)
 (hd1:(x==("__debug__":Str))=false) (hc1:(x==("__classdict__":Str))=false) (hd2:(r==("__debug__":Str))=false) (hc2:(r==("__classdict__":Str))=false):
 EvB prog w A X h (isTrue (.BoolOp .And [.Compare (.Subscript (.Name x p1) (.Slice none (some (.UnaryOp .USub (.Constant (.int 1) k pa) p2)) none p3) p4) [.Eq] [.Name r p5] p6, .Compare (.Name x p7) [.NotEq] [.List [] p8] pb] pc) env whole) (kidsP (rowS row) (rowS o)):=by
 have e:kidsP (rowS row) (rowS o)=(PyData.eqv (rowS o.dropLast) (rowS row)&& !PyData.eqv (rowS o) (rowS [])):=by
  rw[zIk,zBn,zBn];simp
 rw[e]
 refine zCt ?_ fun _=> ?_
 ·refine EvB.eq (zAs (b:=rowS row) (zCg (xs:=o.map .str) (zAd I hx hd1 hc1) pNone (pEv (zDw (i:=1) zAo)) ?_) (zAd I hr hd2 hc2) (zLh ?_ ?_)) ?_
  ·rw[List.length_map];unfold sizeLine;omega
  ·rw[zD4,←List.map_dropLast]
   exact rm.lay (zBa ho.dropLast) (by rw[show PyData.list (o.dropLast.map .str)=rowS o.dropLast from rfl,zB0];decide)
  ·exact zBa hrow
  ·rw[zD4,←List.map_dropLast];rfl
 ·exact zAs (a:=rowS o) (b:=rowS []) (zAd I hx hd1 hc1) (zAr zAg) (zF5 (rm.lay (zBa ho) (by rw[zB0];decide)) (zBa (fun _ m=>nomatch m)))
end
noncomputable abbrev dG1 (rows st:List (List Str)) (pl:List Str) (D:Addr):List (Str×Bd):=[("rows", .d (.list (rows.map rowS))),("standing", .d (.list (st.map rowS))),("place", .d (rowS pl)),("due", .v (.ref D))]
noncomputable abbrev dG2 (row:List Str) (way:Str) (rows st:List (List Str)) (pl:List Str) (D:Addr):List (Str×Bd):=[("row", .d (rowS row)),("free", .d (.tuple [])),("way", .d (.str way)),("rows", .d (.list (rows.map rowS))),("standing", .d (.list (st.map rowS))),("place", .d (rowS pl)),("due", .v (.ref D))]
noncomputable abbrev dG3 (words target:Str) (free:List Str) (rows st:List (List Str)) (pl:List Str) (D:Addr):List (Str×Bd):=[("words", .d (.str words)),("target", .d (.str target)),("free", .d (.tuple (free.map .str))),("rows", .d (.list (rows.map rowS))),("standing", .d (.list (st.map rowS))),("place", .d (rowS pl)),("due", .v (.ref D))]
theorem zMp (S:Stat (hd.heap_1 w.params) h) (rm:Room A 9) (rows:List (List Str)) (ways:List Str) (R:RowsOk rows) (hw:ways.length≤30) (hwl:∀y∈ways,y.length≤100∧okS y):CallIs PR w A X h (.ref 297) [.list (rows.map rowS), .list (ways.map .str)] (dueAll rows ways):=by
 intro s vs Q E k kx r hQ
 obtain⟨u,v,rfl,ru,rv⟩:=r.two
 refine' zCb (n:=8) (ps:=["rows","ways"]) (S.mono k) ?ho ?hcd rm kx r ?hb rfl (by decide) ?kind ?_ ?hco ?hgen ?hk
 walk_at "entered"
 intro h₁ tk F G E'
 refine opqQ fun T0 hT0=> ?_
 have S₁:=(S.mono k).mono F.kg
 walk_at "sh"
 with_reducible refine zAa (zHf (a:= .list (rows.map rowS)) (b:=rowS []) (rm.deeper _).hand F ?_ stL stC (fun h₂ tk₂ F₂ R₂=> ?_))
 ·with_reducible exact zBr (zAc (nm_ F.is) (zAc (zAr zAg) zAg))
 have hfm:((rows.map rowS).flatMap fun _=>rows.map rowS).length≤576:=by
  simp only[List.length_flatMap,List.map_map,Function.comp_def,List.length_map,List.map_const',List.sum_replicate_nat]
  exact Nat.mul_le_mul R.few R.few
 walk_at "sh"
 with_reducible refine zAa (zFc (x:="above") (y:="row") (ds:=rows.map rowS) ["rows"] F₂ (zAx (rm.deeper _).hand (nm_ F₂.is)) (fun _=>rows.map rowS) kidsP (fun _ r=>r) ?_ ?_ ?_ ?_ ?_ ?_ ?_ ?_ ?_ ?_ ?_ ?_ ?_ (fun h₃ tk₃ F₃ R₃=> ?_) ?_ ?_ ?_)
 ·intro C X' h₄ d hd k₄ I'
  with_reducible exact zAx (rm.deeper _).hand (nm_ I')
 ·intro C X' h₄ d e hd he k₄ I'
  obtain⟨a,ha,rfl⟩:=zB9 hd
  obtain⟨o,ho,rfl⟩:=zB9 he
  refine⟨zBt (zDv ((rm.deeper _).le (by decide)) I' rfl rfl (R.ok o ho) (R.ok a ha) (by have:=R.short o ho;omega) (by decide) (by decide) (by decide) (by decide)),fun _=> ?_⟩
  with_reducible exact nm_ I'
 ·unfold sizeLine;omega
 ·rfl
 ·rfl
 ·rfl
 ·rfl
 ·intro y hy
  simp only[List.mem_singleton]at hy;subst hy
  walk_at "free"
 ·exact zQw rfl
 ·rfl
 ·rfl
 ·rfl
 ·rfl
 rotate_left 1
 ·rfl
 ·intro _;rfl
 ·intro _ _;rfl
 rw[show((rows.map rowS).flatMap fun d=>((rows.map rowS).filter (kidsP d)).map fun r=>r)=(orderOf rows).map rowS from zK6 rows]at F₃
 have S₃:=(S.mono k).mono F₃.kg
 have ord:∀r∈orderOf rows,r∈rows:=zF1
 have ol:(orderOf rows).length≤576:=by
  have:=congrArg List.length (zK6 rows)
  rw[List.length_map]at this
  rw[←this]
  refine Nat.le_trans ?_ hfm
  generalize rows.map rowS=l
  have:∀m:List PyData,(m.flatMap fun a=>(l.filter (kidsP a)).map id).length≤(m.flatMap fun _=>l).length:=by
   intro m
   induction m with
   |nil=>simp
   |cons a m ih=>
    simp only[List.flatMap_cons,List.length_append,List.length_map]
    have:=List.length_filter_le (kidsP a) l
    omega
  exact this l
 have rsl:∀x:Str,x.length≤10→x.length≤1000:=fun x h=>by omega
 walk_at "sh"
 with_reducible refine zAa (zQp (ds:=[.tuple ((firstDue rows).map .str)]) F₃ (zIz (zAc ?_ zAg)) stL fun D h₄ tk₄ n₄ x₄ F₄ R₄ L₄=> ?_)
 ·with_reducible refine zI2 ?_ (zAc ?_ zAg) (zH2 (xs:=(firstDue rows).map .str) ?_)
  ·with_reducible exact zAe S₃ G zN2 zOr
  ·with_reducible refine Ev.eq (zCr (x:="row") (ds:=(orderOf rows).map rowS) ["rows"] F₃.is (zAx (rm.deeper _).hand (nm_ F₃.is)) (leafP rows) slashF ?_ ?_ ?_ ?_ ?_) ?_
   ·intro C X' h₅ d hd k₅ I'
    obtain⟨r,hr,rfl⟩:=zB9 hd
    have hrr:=ord r hr
    refine⟨zBt ?_,fun _=> ?_⟩
    ·with_reducible refine EvB.eq (zAs (a:= .list ((rows.map rowS).filter (kidsP (rowS r)))) (b:=rowS []) ?_ (zAr zAg) (zLh ?_ ?_)) ?_
     ·with_reducible refine Ev.eq (zCr (x:="other") (ds:=rows.map rowS) ["row"] I' (zAx (rm.deeper _).hand (nm_ I')) (kidsP (rowS r)) id ?_ ?_ ?_ ?_ ?_) ?_
      ·intro C₂ X₂ h₆ d₂ hd₂ k₆ I₂
       obtain⟨o,ho,rfl⟩:=zB9 hd₂
       refine⟨zBt (zDv ((rm.deeper _).le (by decide)) I₂ rfl rfl (R.ok o ho) (R.ok r hrr) (by have:=R.short o ho;omega) (by decide) (by decide) (by decide) (by decide)),fun _=> ?_⟩
       with_reducible exact nm_ I₂
      ·rw[List.length_map];have:=R.few;unfold sizeLine;omega
      ·rfl
      ·rfl
      ·intro y hy
       simp only[List.mem_singleton]at hy;subst hy
       walk_at "free"
      ·rw[List.map_id]
     ·refine(rm.deeper _).lay ?_ ?_
      ·rw[zEo]
       show PyData.canLayAll0 _=true
       exact zB3 _ fun r hr=>R.ok r (zDd r hr)
      ·rw[zEo]
       have:=zB5 (kidsOf rows r)
       simp only[PyData.depth];omega
     ·first|exact zBa (fun _ m=>nomatch m)|simp[PyData.canLay0,PyData.canLayAll0]
     ·rfl
    ·with_reducible refine Ev.eq (zC1 (a:="/") (b:=Txt.join "/" r) zAq (zFj (ys:=r) zAq (nm_ I') ?_ ?_ ?_) ?_) ?_
     ·decide
     ·have:=R.short r hrr;omega
     ·exact fun y hy=>rsl y (R.len r hrr y hy)
     ·have h1:=zHp 10 (R.len r hrr)
      have h2:=R.short r hrr
      have h3:r.length * 10≤3 * 10:=Nat.mul_le_mul_right _ h2
      have:("/":Str).length=1:=rfl
      unfold sizeLine;omega
     ·rw[zHh];rfl
   ·rw[List.length_map];unfold sizeLine;omega
   ·rfl
   ·rfl
   ·intro y hy
    simp only[List.mem_singleton]at hy;subst hy
    walk_at "free"
   ·rw[leaf_eq]
  ·rw[List.length_map,firstDue,List.length_map]
   have:=List.length_filter_le (fun r=>decide (kidsOf rows r=[])) (orderOf rows)
   unfold sizeLine;omega
 have hD:D∈[D]:=List.mem_singleton.mpr rfl
 walk_at "sh"
 with_reducible refine zAa (zG2 (ds:=ways.map .str) (zAx (rm.deeper _).hand (nm_ F₄.is))
  (fun i=>dG1 rows (dueAt rows (ways.take i)).1.standing (dueAt rows (ways.take i)).1.place D)
  (fun i h=>OwnList (D::X) h D (dueAt rows (ways.take i)).2)
  (F₄.pick ?_) ?_ stL ?_ ?_ ?_ ?_)
 ·exact⟨rfl,rfl,rfl,rfl,trivial⟩
 ·exact fun h' k=>L₄.ext k
 ·exact fun i h h' it _ j _ p=>OwnList.poke j p
 ·exact fun i h h' F j R=>OwnList.keep j F.is R (fun m=>nomatch m) (fun b m=>nomatch m)
 ·intro i d s' E'' hd Fb Lb
  refine opqQ fun T hT=> ?_
  obtain⟨way,hway,rfl⟩:∃c,ways[i]? =some c∧d= .str c:=by
   rw[List.getElem?_map]at hd
   cases hci:ways[i]? with
   |none=>rw[hci]at hd;cases hd
   |some c=>rw[hci]at hd;cases hd;exact⟨c,rfl,rfl⟩
  obtain⟨wl,wok⟩:=hwl way (List.mem_of_getElem? hway)
  obtain⟨K,kl⟩:=zE5 R (ways.take i)
  have ol':(dueAt rows (ways.take i)).2.length≤31:=by
   have:(ways.take i).length≤ways.length:=by rw[List.length_take];omega
   omega
  rw[zHc hway]at hT
  generalize dueAt rows (ways.take i)=q at Fb Lb K ol' hT
  obtain⟨⟨st,pl⟩,out⟩:=q
  dsimp only at Fb Lb K ol' hT
  have Kp:=K.place
  have Kf:=K.few
  dsimp only at Kp Kf
  have sl:∀x:Str,x.length≤20000→x.length≤sizeLine:=fun x h=>by unfold sizeLine;omega
  generalize hstart:(if Txt.slice way none (some 1)="/" then[]else pl)=start
  have Ks:PlaceOk start:=by rw[←hstart];split;exact PlaceOk.nil;exact Kp
  walk_at "sh"
  with_reducible refine zAa (zHf (a:=rowS start) (b:= .tuple []) (rm.deeper _).hand Fb ?_ stC stL (fun hc tkc Fc Rc=> ?_))
  ·with_reducible refine zBr (zAc (zCy (c:=decide (Txt.slice way none (some 1)="/")) (zAs (zAy (nm_ Fb.is) pNone (pEv zAo) (sl _ (by omega))) zAq zCu) (fun e=> ?_) (fun e=> ?_)) (zAc (zBr zAg) zAg))
   ·rw[←hstart,if_pos (by simpa using e)]
    exact zAr zAg
   ·rw[←hstart,if_neg (by simpa using e)]
    with_reducible exact nm_ Fb.is
  have Lc:=Lb.keep Fb.is Rc (fun m=>nomatch m) (fun b m=>nomatch m)
  have hps:=zIe way "/"
  have hpk:=zPx wok "/"
  have hrow:rowOf way pl=(Txt.split way "/").foldl rowStep start:=by rw[←hstart];rfl
  generalize hpse:Txt.split way "/"=ps at hps hpk hrow
  have pf:∀j,(((ps.take j).foldl rowStep start).length≤105)∧okR ((ps.take j).foldl rowStep start)∧∀y∈(ps.take j).foldl rowStep start,y.length≤100:=fun j=>by
   obtain⟨h1,h2⟩:=zIr (ps.take j) start
   have h3:(ps.take j).length≤ps.length:=by rw[List.length_take];omega
   have:=Ks.short
   refine⟨by omega,fun y hy=> ?_,fun y hy=> ?_⟩
   ·rcases h2 y hy with h|h
    ·exact Ks.ok y h
    ·exact hpk y (List.mem_of_mem_take h)
   ·rcases h2 y hy with h|h
    ·have:=Ks.len y h;omega
    ·have:=hps.2 y (List.mem_of_mem_take h);omega
  refine zQt (fun s₂=>∃h' tk,s₂=(sat s' h' tk)∧Same Fc (dG2 (rowOf way pl) way rows st pl D) h'∧RelF Fc [D] hc h'∧OwnList (D::X) h' D out) ?_ ?_
  ·with_reducible refine(zG2 (ds:=ps.map .str) (zAx (rm.deeper _).hand ?_)
    (fun j=>dG2 ((ps.take j).foldl rowStep start) way rows st pl D)
    (fun j h=>OwnList (D::X) h D out) (Fc.pick ?_) ?_ stL ?_ ?_ ?_ ?_)
   ·with_reducible refine Ev.eq (zKy (nm_ Fc.is) zAq ?_ ?_) ?_
    ·rfl
    ·omega
    ·rw[hpse]
   ·exact⟨rfl,rfl,rfl,rfl,rfl,rfl,rfl,trivial⟩
   ·exact fun h' k=>Lc.ext k
   ·exact fun i h h' it _ j _ p=>OwnList.poke j p
   ·exact fun i h h' F j R=>OwnList.keep j F.is R (fun m=>nomatch m) (fun b m=>nomatch m)
   ·intro j d s₂ E₃ hd Fd Ld
    refine opqQ fun T2 hT2=> ?_
    obtain⟨part,hpart,rfl⟩:∃c,ps[j]? =some c∧d= .str c:=by
     rw[List.getElem?_map]at hd
     cases hci:ps[j]? with
     |none=>rw[hci]at hd;cases hd
     |some c=>rw[hci]at hd;cases hd;exact⟨c,rfl,rfl⟩
    obtain⟨rl,rok,rlen⟩:=pf j
    have pok:=hpk part (List.mem_of_getElem? hpart)
    rw[zA2 rowStep start ps hpart]at hT2
    generalize (ps.take j).foldl rowStep start=row at Fd rl rok rlen hT2
    walk_at "sh"
    with_reducible refine zAa (zAi (d:=rowS (rowStep row part)) Fd ?_ stC fun he tke Fe Re=>wpAny_execs_nil (hT2 _ _ ⟨he,tke,?_,Fe.pick ?_,?_,Re.le zAp⟩))
    ·with_reducible refine zCy (c:=decide (part="..")) (zAs (nm_ Fd.is) zAq zCu) (fun e=> ?_) (fun e=> ?_)
     ·with_reducible refine Ev.eq (zCg (xs:=row.map .str) (nm_ Fd.is) pNone (pEv (zDw (i:=1) zAo)) ?_) ?_
      ·rw[List.length_map];unfold sizeLine;omega
      ·rw[rowStep,if_pos (by simpa using e),zD4,←List.map_dropLast];rfl
     ·with_reducible refine zCy (c:= !([PyData.str "", .str "."].any fun y=>PyData.eqv y (.str part))) (zAs (nm_ Fd.is) (zAr (zAc zAq (zAc zAq zAg))) (zDu ?_ ?_)) (fun e'=> ?_) (fun e'=> ?_)
      ·exact(rm.deeper _).lay pok (by simp[PyData.depth])
      ·decide+kernel
      ·with_reducible refine Ev.eq (zDh (a:=row.map .str) (b:=[.str part]) (nm_ Fd.is) (zAr (zAc (nm_ Fd.is) zAg)) ?_) ?_
       ·rw[List.length_map];simp[sizeLine];omega
       ·rw[rowStep,if_neg (by simpa using e),if_pos]
        ·simp[rowS]
        ·rintro(h|h)
         ·subst h;revert e';decide+kernel
         ·subst h;revert e';decide+kernel
      ·with_reducible refine Ev.eq (nm_ Fd.is) ?_
       rw[rowStep,if_neg (by simpa using e),if_neg]
       intro h
       apply h
       by_cases h1:part=""
       ·exact .inl h1
       ·right
        simp[PyData.eqv]at e'
        exact(e' fun z=>h1 z.symm).symm
    ·rfl
    ·exact⟨rfl,rfl,rfl,rfl,rfl,rfl,rfl,trivial⟩
    ·exact OwnList.keep Ld Fd.is Re (fun m=>nomatch m) (fun b m=>nomatch m)
   ·intro h' tk' E₃ F' J' R'
    refine wpAny_execs_nil ⟨rfl,h',tk',rfl,?_,?_,J'⟩
    ·rw[List.length_map,List.take_length,←hrow]at F'
     exact F'
    ·exact R'
  ·rintro _ ⟨hd,tkd,rfl,Fd,Rd,Ld⟩
   have Fd':Fn s.heap (D::X) [D] hd _ _:=Fd
   obtain⟨rl,rok,rlen⟩:=pf ps.length
   rw[List.take_length,←hrow]at rl rok rlen
   have jl:=zHp 100 rlen
   have jl2:(rowOf way pl).length * 100≤105 * 100:=Nat.mul_le_mul_right _ rl
   have tl:(targetOf way (rowOf way pl)).length≤11000:=by
    rw[targetOf,Str.length_append]
    have:(if Txt.slice way none (some 2)="//"∧Txt.slice way none (some 3)≠"///" then("//":Str)else "/").length≤2:=by split<;>decide
    omega
   walk_at "sh"
   with_reducible refine zAa (zAi (d:= .str (targetOf way (rowOf way pl))) Fd' ?_ stL fun he tke Fe Re=> ?_)
   ·with_reducible refine Ev.eq (zC1 (a:=if Txt.slice way none (some 2)="//"∧Txt.slice way none (some 3)≠"///" then("//":Str)else "/") (b:=Txt.join "/" (rowOf way pl))
     (zCy (c:=decide (Txt.slice way none (some 2)="//")&& !decide (Txt.slice way none (some 3)="///"))
      (zCt (zAs (zAy (nm_ Fd'.is) pNone (pEv zAo) (sl _ (by omega))) zAq zCu) fun _=>zAs (zAy (nm_ Fd'.is) pNone (pEv zAo) (sl _ (by omega))) zAq zEi) (fun e=> ?_) fun e=> ?_)
     (zFj (ys:=rowOf way pl) zAq (nm_ Fd'.is) ?_ ?_ ?_) ?_) ?_
    ·rw[if_pos (by simpa using e)];exact zAq
    ·rw[if_neg (by simpa using e)];exact zAq
    ·decide
    ·omega
    ·exact fun y hy=>by have:=rlen y hy;omega
    ·have:(if Txt.slice way none (some 2)="//"∧Txt.slice way none (some 3)≠"///" then("//":Str)else "/").length≤2:=by split<;>decide
     unfold sizeLine;omega
    ·rfl
   have Le:=OwnList.keep Ld Fd'.is Re (fun m=>nomatch m) (fun b m=>nomatch m)
   have rowl:(rowOf way pl).length≤1000:=by omega
   walk_at "sh"
   with_reducible refine zAa (zBo (x:="other") (ds:=st.map rowS) ["row"] Fe (zAx (rm.deeper _).hand (nm_ Fe.is)) (kidsP (rowS (rowOf way pl))) id ?_ ?_ ?_ ?_ ?_ ?_ fun hf tkf Ff Rf=> ?_)
   ·intro C X' h₅ d hd k₅ I'
    obtain⟨o,ho,rfl⟩:=zB9 hd
    have ho':=K.sub o ho
    refine⟨zBt (zDv ((rm.deeper _).le (by decide)) I' rfl rfl (R.ok o ho') rok (by have:=R.short o ho';omega) (by decide) (by decide) (by decide) (by decide)),fun _=> ?_⟩
    with_reducible exact nm_ I'
   ·rw[List.length_map];unfold sizeLine;omega
   ·rfl
   ·rfl
   ·intro y hy
    simp only[List.mem_singleton]at hy;subst hy
    walk_at "free"
   ·rfl
   rw[List.map_id,zEo]at Ff
   have Lf:=OwnList.keep Le Fe.is Rf (fun m=>nomatch m) (fun b m=>nomatch m)
   walk_at "sh"
   with_reducible refine zAa (zAi (d:= .str "was not passed out (still not ready)") Ff zAq stL fun hg tkg Fg Rg=> ?_)
   have Lg:=OwnList.keep Lf Ff.is Rg (fun m=>nomatch m) (fun b m=>nomatch m)
   have RR:RelF Fc [D] hc hg:=Rel.trans Rd ((Re.trans (Rf.trans Rg)).le zAp)
   generalize hsd:(⟨st,pl⟩:DueSt)=sd at hT
   have est:sd.standing=st:=by rw[←hsd]
   have epl:sd.place=pl:=by rw[←hsd]
   rw[←epl]at Fg rl rok rlen tl rowl
   rw[←est]at Fg
   generalize hrw:rowOf way sd.place=row at Fg rl rok rlen tl rowl
   refine zQt (fun s₂=>∃h' tk,s₂=(sat s' h' tk)∧Same Fg (dG3 (dueWords rows sd way) (targetOf way row) (dueFree rows sd way) rows (dueNext rows sd way).standing (dueNext rows sd way).place D) h'∧RelF Fg [] hg h'∧OwnList (D::X) h' D out) ?_ ?_
   ·refine opqQ fun T3 hT3=> ?_
    have hc1:Txt.slice (targetOf way (rowOf way sd.place)) none (some 2)="//"∨rowOf way sd.place∉rows↔Txt.slice (targetOf way row) none (some 2)="//"∨row∉rows:=by rw[hrw]
    have KR:∀r∈rows,okR r:=R.ok
    have lr:∀env,Lay (A.deeper env) (rowS row):=fun env=>(rm.deeper env).lay (zBa rok) (by rw[zB0];decide)
    have KK:DueOk rows sd:=by rw[←hsd];exact K
    with_reducible refine zBj (c:=decide (Txt.slice (targetOf way row) none (some 2)="//")|| !((rows.map rowS).any fun y=>PyData.eqv y (rowS row))) Fg ?_ fun hh tkh kh Fh=>⟨fun e=> ?_,fun e=> ?_⟩
    ·with_reducible refine zHq (zAs (zAy (nm_ Fg.is) pNone (pEv zAo) (sl _ ?_)) zAq zCu) fun _=>zAs (nm_ Fg.is) (nm_ Fg.is) (zDu (lr _) (zB3 _ KR))
     omega
    ·have c1:Txt.slice (targetOf way row) none (some 2)="//"∨row∉rows:=by rw[any_rows]at e;simpa using e
     obtain⟨q1,q2,q3⟩:=zKn (hc1.mpr c1)
     walk_at "sh"
     with_reducible refine zAa (zAi (d:= .str "was not added using add()") Fh zAq stL fun hi tki Fi Ri=> ?_)
     refine wpAny_execs_nil (hT3 _ _ ⟨rfl,hi,tki,rfl,?_,kh.rel.trans Ri,OwnList.keep (Lg.ext kh) Fh.is Ri (fun m=>nomatch m) (fun b m=>nomatch m)⟩)
     rw[q1,q2,q3]
     exact Fi.pick ⟨rfl,rfl,rfl,rfl,rfl,rfl,rfl,trivial⟩
    have c1:¬(Txt.slice (targetOf way row) none (some 2)="//"∨row∉rows):=by rw[any_rows]at e;simpa using e
    have c1':=fun z=>c1 (hc1.mp z)
    walk_at "sh"
    with_reducible refine zAa (zBj (c:= !((sd.standing.map rowS).any fun y=>PyData.eqv y (rowS row))) Fh ?_ fun hi tki ki Fi=>⟨fun e2=> ?_,fun e2=> ?_⟩)
    ·with_reducible exact zAs (nm_ Fh.is) (nm_ Fh.is) (zDu (lr _) (zB3 _ fun r hr=>KR r (KK.sub r hr)))
    ·have c2:rowOf way sd.place∉sd.standing:=by rw[any_rows]at e2;rw[hrw];simpa using e2
     obtain⟨q1,q2,q3⟩:=zLf c1' c2
     walk_at "sh"
     with_reducible refine zAa (zAi (d:= .str "was already marked done") Fi zAq stL fun hj tkj Fj Rj=> ?_)
     refine wpAny_execs_nil (wpAny_execs_nil (hT3 _ _ ⟨rfl,hj,tkj,rfl,?_,kh.rel.trans (ki.rel.trans Rj),OwnList.keep ((Lg.ext kh).ext ki) Fi.is Rj (fun m=>nomatch m) (fun b m=>nomatch m)⟩))
     rw[q1,q2,q3]
     exact Fj.pick ⟨rfl,rfl,rfl,rfl,rfl,rfl,rfl,trivial⟩
    have c2:¬rowOf way sd.place∉sd.standing:=by rw[any_rows]at e2;rw[hrw];simpa using e2
    have Li:=(Lg.ext kh).ext ki
    walk_at "sh"
    with_reducible refine zAa (zBj (c:= !PyData.eqv (.list ((kidsOf sd.standing row).map rowS)) (.list [])) Fi ?_ fun hj tkj kj Fj=>⟨fun e3=> ?_,fun e3=> ?_⟩)
    ·with_reducible refine zAs (nm_ Fi.is) (zAr zAg) (zF5 ((rm.deeper _).lay ?_ ?_) ?_)
     ·show PyData.canLayAll0 _=true
      exact zB3 _ fun r hr=>KR r (KK.sub r (zDd r hr))
     ·have:=zB5 (kidsOf sd.standing row)
      simp only[PyData.depth];omega
     ·first|exact zBa (fun _ m=>nomatch m)|simp[PyData.canLay0,PyData.canLayAll0]
    ·have c3:kidsOf sd.standing (rowOf way sd.place)≠[]:=by rw[zEc]at e3;rw[hrw];simpa using e3
     obtain⟨q1,q2,q3⟩:=zK2 c1' c2 c3
     walk_at "sh"
     with_reducible refine zAa (zAi (d:=rowS row) Fj (nm_ Fj.is) stC fun hk tkk Fk Rk=> ?_)
     refine wpAny_execs_nil (wpAny_execs_nil (wpAny_execs_nil (hT3 _ _ ⟨rfl,hk,tkk,rfl,?_,kh.rel.trans (ki.rel.trans (kj.rel.trans Rk)),OwnList.keep (Li.ext kj) Fj.is Rk (fun m=>nomatch m) (fun b m=>nomatch m)⟩)))
     rw[q1,q2,q3,hrw]
     exact Fk.pick ⟨rfl,rfl,rfl,rfl,rfl,rfl,rfl,trivial⟩
    have c3:¬kidsOf sd.standing (rowOf way sd.place)≠[]:=by rw[zEc]at e3;rw[hrw];simpa using e3
    obtain⟨q1,q2,q3⟩:=zLd c1' c2 c3
    rw[hrw]at q2 q3
    have rowd:=rok.dropLast
    generalize hst':(sd.standing.filter fun o=>decide (o≠row))=st' at q2 q3
    have st'sub:∀r∈st',r∈rows:=fun r hr=>by rw[←hst']at hr;exact KK.sub r (List.mem_filter.mp hr).1
    have stl:sd.standing.length≤24:=KK.few
    have st'l:st'.length≤24:=by rw[←hst'];exact Nat.le_trans (List.length_filter_le _ _) stl
    have rdl:row.dropLast.length≤105:=by simp;omega
    have rdn:∀y∈row.dropLast,y.length≤100:=fun y hy=>rlen y ((List.dropLast_sublist row).subset hy)
    walk_at "sh"
    with_reducible refine zAa (zMf (a:= .str "gone") (b:= .list (st'.map rowS)) (c:=rowS row.dropLast) (rm.deeper _).hand Fj ?_ stL stL stC fun hk tkk Fk Rk=> ?_)
    ·with_reducible refine zBr (zAc zAq (zAc ?_ (zAc ?_ zAg))) ?_
     ·with_reducible refine Ev.eq (zCr (x:="other") (ds:=sd.standing.map rowS) ["row"] Fj.is (zAx (rm.deeper _).hand (nm_ Fj.is)) (neP (rowS row)) id ?_ ?_ ?_ ?_ ?_) ?_
      ·intro C X' h₅ d hd k₅ I'
       obtain⟨o,ho,rfl⟩:=zB9 hd
       refine⟨zBt ?_,fun _=> ?_⟩
       ·with_reducible exact zAs (nm_ I') (nm_ I') (zF5 ((rm.deeper _).lay (zBa (KR o (KK.sub o ho))) (by rw[zB0];decide)) (zBa rok))
       ·with_reducible exact nm_ I'
      ·rw[List.length_map];unfold sizeLine;omega
      ·rfl
      ·rfl
      ·intro y hy
       simp only[List.mem_singleton]at hy;subst hy
       walk_at "free"
      ·rw[List.map_id,ne_eq,hst']
     ·with_reducible refine Ev.eq (zCg (xs:=row.map .str) (nm_ Fj.is) pNone (pEv (zDw (i:=1) zAo)) ?_) ?_
      ·rw[List.length_map];unfold sizeLine;omega
      ·rw[zD4,←List.map_dropLast];rfl
     ·simp[sizeLine]
    walk_at "sh"
    with_reducible refine zAa (zBo (x:="other") (ds:=st'.map rowS) ["place"] Fk (zAx (rm.deeper _).hand (nm_ Fk.is)) (kidsP (rowS row.dropLast)) id ?_ ?_ ?_ ?_ ?_ ?_ fun hl tkl Fl Rl=> ?_)
    ·intro C X' h₅ d hd k₅ I'
     obtain⟨o,ho,rfl⟩:=zB9 hd
     have ho':=st'sub o ho
     refine⟨zBt (zDv ((rm.deeper _).le (by decide)) I' rfl rfl (KR o ho') rowd (by have:=R.short o ho';omega) (by decide) (by decide) (by decide) (by decide)),fun _=> ?_⟩
     with_reducible exact nm_ I'
    ·rw[List.length_map];unfold sizeLine;omega
    ·rfl
    ·rfl
    ·intro y hy
     simp only[List.mem_singleton]at hy;subst hy
     walk_at "free"
    ·rfl
    rw[List.map_id,zEo]at Fl
    walk_at "sh"
    with_reducible refine zAa (zAi (d:= .tuple ((dueFree rows sd way).map .str)) Fl ?_ stL fun hm tkm Fm Rm=> ?_)
    ·rw[q3]
     with_reducible refine zCy (c:=PyData.eqv (.list ((kidsOf st' row.dropLast).map rowS)) (.list [])&& !PyData.eqv (rowS row) (rowS [])) (zCt (zAs (nm_ Fl.is) (zAr zAg) (zLh ((rm.deeper _).lay ?_ ?_) ?_)) fun _=>zAs (nm_ Fl.is) ?_ (zF5 (lr _) ?_)) (fun e4=> ?_) fun e4=> ?_
     ·show PyData.canLayAll0 _=true
      exact zB3 _ fun r hr=>KR r (st'sub r (zDd r hr))
     ·have:=zB5 (kidsOf st' row.dropLast)
      simp only[PyData.depth];omega
     ·first|exact zBa (fun _ m=>nomatch m)|simp[PyData.canLay0,PyData.canLayAll0]
     ·exact zAr zAg
     ·exact zBa fun _ m=>nomatch m
     ·rw[zEc,zBn]at e4
      rw[if_pos (by simpa using e4)]
      have jl:=zHp 100 rdn
      have jl2:row.dropLast.length * 100≤105 * 100:=Nat.mul_le_mul_right _ rdl
      have:("/":Str).length=1:=rfl
      with_reducible refine zBr (zAc (zC1 zAq (zFj (ys:=row.dropLast) zAq (nm_ Fl.is) ?_ ?_ ?_) ?_) zAg) ?_
      ·decide
      ·omega
      ·exact fun y hy=>by have:=rdn y hy;omega
      ·unfold sizeLine;omega
      ·simp[sizeLine]
     ·rw[zEc,zBn]at e4
      rw[if_neg (by simpa using e4)]
      with_reducible exact zBr zAg
    refine wpAny_execs_nil (wpAny_execs_nil (wpAny_execs_nil (hT3 _ _ ⟨rfl,hm,tkm,rfl,?_,kh.rel.trans (ki.rel.trans (kj.rel.trans (Rk.trans (Rl.trans Rm)))),?_⟩)))
    ·rw[q1,q2]
     exact Fm.pick ⟨rfl,rfl,rfl,rfl,rfl,rfl,rfl,trivial⟩
    ·exact OwnList.keep (OwnList.keep (OwnList.keep (Li.ext kj) Fj.is Rk (fun m=>nomatch m) (fun b m=>nomatch m)) Fk.is Rl (fun m=>nomatch m) (fun b m=>nomatch m)) Fl.is Rm (fun m=>nomatch m) (fun b m=>nomatch m)
   ·rintro _ ⟨hh,tkh,rfl,Fh,Rh,Lh⟩
    have Fh':Fn s.heap (D::X) [D] hh _ _:=Fh
    have wdl:=zNo rows sd way
    obtain⟨nl1,nl2⟩:=zP1
    have tl':(targetOf way row).length≤11000:=tl
    have eent:dueEntry rows sd way= .list [.str (targetOf way row),wordsD (targetOf way row) (dueWords rows sd way), .tuple ((dueFree rows sd way).map .str)]:=by unfold dueEntry;simp only;rw[hrw]
    generalize dueWords rows sd way=words at Fh' wdl eent
    generalize targetOf way row=target at Fh' tl' eent
    walk_at "sh"
    with_reducible refine zAa (zD0 (x:="due") (d:= .list [.str target,wordsD target words, .tuple ((dueFree rows sd way).map .str)]) Fh' ?_ hD Lh ?_ ?_ fun hi tki Fi Ri Li=> ?_)
    ·rfl
    ·with_reducible refine zAr (zAc (nm_ Fh'.is) (zAc ?_ (zAc (nm_ Fh'.is) zAg))) ?_
     ·unfold wordsD
      with_reducible refine zAr (zAc (zCy (c:=decide (words="gone")) (zAs (nm_ Fh'.is) zAq zCu) (fun e=> ?_) fun e=> ?_) (zAc zJ2 zAg)) ?_
      ·rw[if_pos (show words=wGone from of_decide_eq_true e)]
       with_reducible exact nm_ Fh'.is
      ·rw[if_neg (show¬words=wGone from of_decide_eq_false e)]
       with_reducible refine zC1 (zC1 (zC1 zAq (nm_ Fh'.is) ?_) zAq ?_) (nm_ Fh'.is) ?_
       ·unfold sizeLine;omega
       ·rw[Str.length_append];unfold sizeLine;omega
       ·rw[Str.length_append,Str.length_append];unfold sizeLine;omega
      ·simp[sizeLine]
     ·simp[sizeLine]
    ·unfold sizeLine;omega
    ·refine wpAny_execs_nil (hT _ _ ⟨hi,tki,rfl,Fi.pick ?_,?_,?_⟩)
     ·rw[zB7]
      exact⟨rfl,rfl,rfl,rfl,trivial⟩
     ·rw[zC2,eent];exact Li
     ·exact(Rc.le zAp).trans (RR.trans ((Rh.le zAp).trans Ri))
 ·intro hb tkb E'' Fb Lb _
  rw[List.length_map,List.take_length]at Lb Fb
  obtain⟨K,kl⟩:=zE5 R ways
  have Kf:=K.few
  have Ks:=K.sub
  have eq:dueAll rows ways= .list ((dueAt rows ways).2++[.bool (!decide ((dueAt rows ways).1.standing=[]))]):=rfl
  rw[eq]at hQ
  generalize dueAt rows ways=q at Fb Lb K kl Kf Ks hQ
  obtain⟨⟨st,pl⟩,out⟩:=q
  dsimp only at Fb Lb kl hQ Kf Ks
  have Fc:Fn s.heap X [] hb _ [("standing", .d (.list (st.map rowS))),("due", .d (.list out))]:=Fb.thaw Lb x₄ zAp ⟨.inl rfl, .inr ⟨rfl,rfl⟩,trivial⟩
  refine wpAny_execs_nil ?_
  walk_at "sh"
  with_reducible refine zAa (zAz (d:= .list (out++[.bool (!decide (st=[]))])) Fc ?_ ?_)
  ·with_reducible refine zDh (nm_ Fc.is) (zAr (zAc (Ev.eq (ev_cmp (nm_ Fc.is) (zAr zAg) (zF5 ((rm.deeper _).lay ?_ ?_) ?_)) ?_) zAg)) ?_
   ·show PyData.canLayAll0 _=true
    exact zB3 _ fun r hr=>R.ok r (Ks r hr)
   ·have:=zB5 st
    simp only[PyData.depth];omega
   ·simp[PyData.canLay0,PyData.canLayAll0]
   ·rw[zEc];simp
   ·simp[sizeLine];omega
  ·intro v h' tk' F' k' r'
   exact hT0 _ _ (hQ v h' tk' F'.kg r')
end
end P8
section M29
open PySem.Calls
section
variable {prog:Program} {w:World} {A:Around} {E:Value→Shared→Prop} {s:Shared} {K:Frag} {C x dx:Addr} {ox:Obj} {es es':List DictEntry} {n n':Nat} {name:Str} {v:Value}
theorem zH3 {tk:Tok} {R:Result→Shared→Prop} (X:K.In s.heap) (I:InstAt s.heap x ox C (some (dictOf es n))) (hd:ox.dict=some dx) (hp:plainOver K C=true) (ht:takerIn K C name=some none) (hh:hasDictIn K C=true)
 (hl:(getL name es).isSome=true) (e:(putL name (PyData.keyHash w.params name) (.str name s.toks) v es,putN name es n)=(es',n')) (hz:es'.length≤1000)
 (h:∀h',h'.get? dx=some (dictOf es' n')→(∀b o,b≠dx→s.heap.get? b=some o→h'.get? b=some o)→R (.ok (.ret .none)) (sat s h' (s.toks+1))):
 codeAny (model prog w) A (.call (.builtin "object.__setattr__") ⟨[.ref x, .str name tk,v],[]⟩) R s:=by
 refine osa_open X I hp ht fun b=> ?_
 obtain⟨cd,hc,hd'⟩:=any_some hh
 obtain⟨e1,e2⟩:=Prod.mk.inj e
 obtain⟨hx,hcl,hn,hdd⟩:=I
 obtain⟨oc,odi,oda,osl⟩:=ox
 dsimp only at hcl hd
 subst hcl hd
 have D:s.heap.get? dx=some (dictOf es n):=hdd
 have eo:Obj.putName name (PyData.keyHash w.params name) (.str name s.toks) v (dictOf es n)=dictOf es' n':=by rw[putName_dict,e1,e2]
 have D':(s.heap.update dx (Obj.putName name (PyData.keyHash w.params name) (.str name s.toks) v)).get? dx=some (dictOf es' n'):=by
  rw[←eo];exact Heap.get?_update_self _ D (by rw[eo];rfl)
 refine wpAny_bind (wpAny_pure (wpAny_bind (wpAny_bind (wpAny_loadPart hx (wpAny_bind ((looks_clsIn X hc).here ?_))))))
 rw[hd']
 refine wpAny_pure (a:=some dx) (wpAny_bind (wpAny_pure (wpAny_bind ?_)))
 unfold nsSet
 refine wpAny_bind (wpAny_bind (wpAny_askSetting (wpAny_pure (wpAny_bind (wpAny_mkText (wpAny_bind (wpAny_loadPart D ?_)))))))
 have hl':(lookIn name (dictOf es n)).isSome=true:=by rw[lookIn_dict];exact hl
 have c:(!es.toArray.any (·.key.isStr name)&&es.toArray.any (·.refKey))=false:=by
  rw[←Array.any_toList,←Array.any_toList]
  unfold getL at hl
  split at hl
  ·rename_i en he
   rw[List.any_eq_true.mpr ⟨en,List.mem_of_find?_eq_some he,List.find?_some he⟩];rfl
  ·split at hl
   ·cases hl
   ·rename_i z;rw[Bool.not_eq_true]at z;simp[z]
 show wpAny _ _ _ _ _ _
 dsimp only[dictOf]
 rw[aRefKeyMayBeTheName_at,c]
 refine wpAny_updatePart D ?_
 refine wpAny_bind (wpAny_lookBehind D' (pastItsLine_dict (by rw[List.size_toArray,sizeLine_eq];omega)) ?_)
 exact wpAny_pure (h _ D' fun b o hb eb=>by rw[Heap.get?_update_other _ _ (Ne.symm hb)];exact eb)
theorem zE9 {Q:Unit→Shared→Prop} (X:K.In s.heap) (I:InstAt s.heap x ox C (some (dictOf es n))) (hd:ox.dict=some dx)
 (hs:findIn K (.ref C) "__setattr__"=some (some (.builtin "object.__setattr__"))) (hp:plainOver K C=true) (ht:takerIn K C name=some none) (hh:hasDictIn K C=true) (hl:(getL name es).isSome=true)
 (e:(putL name (PyData.keyHash w.params name) (.str name (s.toks+1)) v es,putN name es n)=(es',n')) (hz:es'.length≤1000)
 (h:∀h' tk,h'.get? dx=some (dictOf es' n')→(∀b o,b≠dx→s.heap.get? b=some o→h'.get? b=some o)→Q () (sat s h' tk)):
 wpAny (model prog w) A (setAttr (.ref x) name v) Q E s:=
 set_plain X I hs (zH3 (s:={s with toks:=s.toks+1}) X I hd hp ht hh hl e hz fun h' a b=>h h' _ a b)
theorem zHv {expr:Bool} {Q:Value→Shared→Prop} {attr:Option Value} (X:K.In s.heap) (I:InstAt s.heap x ox C (some (dictOf es n))) (hg:plainGet K C name=true) (hh:hasDictIn K C=true)
 (ha:findIn K (.ref C) name=some attr) (hn:noGet K attr=true) (hl:getL name es=some (some v)) (hv:handedIn v=true) (h:∀tk,Q v {s with toks:=tk}):
 wpAny (model prog w) A (getAttr (.ref x) name expr) Q E s:=
 get_value X I (plainGet_of hg).1 (findObj_own hh ha hn hl) hv (h _)
theorem zFv {pl:Sem Bool} {Q:Value×List Value→Shared→Prop} {f:Addr} (X:K.In s.heap) (I:InstAt s.heap x ox C (some (dictOf es n))) (hg:plainGet K C name=true)
 (hf:findIn K (.ref C) name=some (some (.ref f))) (ht:isFn K (.ref f)=true) (hl:getL name es=some none) (h:Q (.ref f,[.ref x]) s):wpAny (model prog w) A (getMethod (.ref x) name pl) Q E s:=
 method_fn X I (plainGet_of hg).1 (plainGet_of hg).2 hf (beq_iff_eq.mp ht) (by show(lookIn name (dictOf es n)).map _=_;rw[lookIn_dict,hl];rfl) h
open Builtin Builtin.ObjectAttr Builtin.Getset_descriptor in
theorem zIu {expr:Bool} {Q:Value→Shared→Prop} {p i:Nat} {od:Obj} (X:K.In s.heap) (I:InstAt s.heap x ox C (some od)) (hg:plainGet K C name=true) (hc:isClsIn K C=true)
 (ha:findIn K (.ref C) name=some (some (.ref p))) (hn:specialIn K (.ref p) "__get__"=some (some (.builtin "member_descriptor.__get__"))) (ht:takesIn K (.ref p)=some true) (hp:slotIn K p C=some i)
 (hv:(ox.slots[i]?).join=some v) (hh:handedIn v=true) (h:∀tk,Q v {s with toks:=tk}):wpAny (model prog w) A (getAttr (.ref x) name expr) Q E s:=
 get_bind X I (plainGet_of hg).1 (findObj_data hc ha hn ht) (plainGet_of hg).2 (wpAny_call (slot_get (s:={s with toks:=s.toks+1}) X I hp hv (handed_on hh (h _))))
open Builtin Builtin.ObjectAttr Builtin.Getset_descriptor in
theorem zHi {Q:Unit→Shared→Prop} {p i:Nat} {od:Obj} {ox':Obj} (X:K.In s.heap) (I:InstAt s.heap x ox C (some od))
 (hs:findIn K (.ref C) "__setattr__"=some (some (.builtin "object.__setattr__"))) (hp:plainOver K C=true) (ht:takerIn K C name=some (some (.ref p))) (hT:typeIn K (.ref p)=some (.type "member_descriptor")) (hi:slotIn K p C=some i) (hz:i<1000)
 (e:{ox with slots:=(ox.slots++Array.replicate (i+1 - ox.slots.size) none).setIfInBounds i (some v)}=ox') (hf:ox'.isFreed=false)
 (h:∀h' tk,h'.get? x=some ox'→(∀b o,b≠x→s.heap.get? b=some o→h'.get? b=some o)→Q () (sat s h' tk)):wpAny (model prog w) A (setAttr (.ref x) name v) Q E s:=by
 refine set_plain X I hs (osa_descr (s:={s with toks:=s.toks+1}) KF.slot_mset X I hp ht hT ?_)
 obtain⟨nn,tn,owner,behind,tb,d,sl,cd,ho,hc,hm,hb,rfl⟩:=slot_of X hi
 obtain⟨hh,g,dr,t,os⟩:=s
 have L0:=I.type (M:=model prog w)
 have L1:=looks_mroIn (M:=model prog w) X hm
 have L2:Looks (model prog w) hh (Slots.slotNamesOf (.ref C)) cd.slotNames:=(looks_clsIn X hc).andThen .now
 have hx:=I.at_
 dsimp only at ho hx L0 L1
 have f0:=looks_field (M:=model prog w) ho 0 (v:= .str nn tn) rfl
 have f1:=looks_field (M:=model prog w) ho 1 (v:=owner) rfl
 have f3:=looks_field (M:=model prog w) ho 3 (v:= .builtin "proto.slot#set") rfl
 have f4:=looks_field (M:=model prog w) ho 4 (v:= .int behind tb) rfl
 refine codeAny_call_builtin KF.slot_mset.plain KF.entry_mset (KF.slot_mset.check _ _ _ _ _ _ _ _ ⟨_,ho,rfl⟩ (KF.args_mset _ _ _) ?_)
 unfold Builtin.«member_descriptor.__set__» descrSet descrStoreThrough descrCheckInstance descrNameAndClass isInstance
 have f5:Looks (model prog w) hh (descrItself (.ref p)) [.ref p]:=((Looks.ld (part:=none) ho).andThen .now).andThen (Looks.of_pure (by kernel_rfl))
 repeat lk
 refine⟨Code.quiet_builtin _ (by decide+kernel),codeAny_builtin KF.entry_slotset ?_⟩
 unfold Builtin.«proto.slot#set» Slots.target
 repeat lk
 rw[if_neg hb]
 refine wpAny_pure (wpAny_bind ?_)
 unfold setSlotAt
 dsimp only
 rw[if_neg (by rw[sizeLine_eq];omega)]
 refine wpAny_updatePart hx (wpAny_pure ?_)
 exact h _ _ (by rw[←e];exact Heap.get?_update_self _ hx (by rw[e];exact hf)) fun b o hb eb=>by rw[Heap.get?_update_other _ _ (Ne.symm hb)];exact eb
end
end M29
section P9
section
variable {w:World}
theorem zKe:findIn (hd.heap_1 w.params) (.ref 252) "__setattr__"=some (some (.builtin "object.__setattr__")):=by k_is
theorem zF3:plainOver (hd.heap_1 w.params) 252=true:=by k_is
theorem zBm:hasDictIn (hd.heap_1 w.params) 252=true:=by k_is
theorem s_t1:takerIn (hd.heap_1 w.params) 252 "_node2info"=some none:=by k_is
theorem s_t2:takerIn (hd.heap_1 w.params) 252 "_ready_nodes"=some none:=by k_is
theorem s_t3:takerIn (hd.heap_1 w.params) 252 "_npassedout"=some none:=by k_is
theorem s_t4:takerIn (hd.heap_1 w.params) 252 "_nfinished"=some none:=by k_is
theorem s_g1:plainGet (hd.heap_1 w.params) 252 "_node2info"=true:=by k_is
theorem s_f1:findIn (hd.heap_1 w.params) (.ref 252) "_node2info"=some none:=by k_is
theorem s_f2:findIn (hd.heap_1 w.params) (.ref 252) "_ready_nodes"=some none:=by k_is
theorem s_f3:findIn (hd.heap_1 w.params) (.ref 252) "_npassedout"=some none:=by k_is
theorem s_f4:findIn (hd.heap_1 w.params) (.ref 252) "_nfinished"=some none:=by k_is
theorem s_m1:findIn (hd.heap_1 w.params) (.ref 252) "_get_nodeinfo"=some (some (.ref 195)):=by k_is
theorem s_i1:isFn (hd.heap_1 w.params) (.ref 195)=true:=by k_is
theorem s_mk:makesIn (hd.heap_1 w.params) 252=true:=by k_is
theorem s_init:findIn (hd.heap_1 w.params) (.ref 252) "__init__"=some (some (.ref 188)):=by k_is
theorem i_mk:makesIn (hd.heap_1 w.params) 155=true:=by k_is
theorem i_init:findIn (hd.heap_1 w.params) (.ref 155) "__init__"=some (some (.ref 151)):=by k_is
theorem zPj:findIn (hd.heap_1 w.params) (.ref 155) "__setattr__"=some (some (.builtin "object.__setattr__")):=by k_is
theorem zKr:plainOver (hd.heap_1 w.params) 155=true:=by k_is
theorem i_g1:plainGet (hd.heap_1 w.params) 155 "node"=true:=by k_is
theorem zJv:isClsIn (hd.heap_1 w.params) 155=true:=by k_is
theorem i_f1:findIn (hd.heap_1 w.params) (.ref 155) "node"=some (some (.ref 156)):=by k_is
theorem i_f2:findIn (hd.heap_1 w.params) (.ref 155) "npredecessors"=some (some (.ref 157)):=by k_is
theorem i_f3:findIn (hd.heap_1 w.params) (.ref 155) "successors"=some (some (.ref 158)):=by k_is
theorem i_t1:takerIn (hd.heap_1 w.params) 155 "node"=some (some (.ref 156)):=by k_is
theorem i_t2:takerIn (hd.heap_1 w.params) 155 "npredecessors"=some (some (.ref 157)):=by k_is
theorem i_t3:takerIn (hd.heap_1 w.params) 155 "successors"=some (some (.ref 158)):=by k_is
theorem i_T1:typeIn (hd.heap_1 w.params) (.ref 156)=some (.type "member_descriptor"):=by k_is
theorem i_T2:typeIn (hd.heap_1 w.params) (.ref 157)=some (.type "member_descriptor"):=by k_is
theorem i_T3:typeIn (hd.heap_1 w.params) (.ref 158)=some (.type "member_descriptor"):=by k_is
theorem i_s1:slotIn (hd.heap_1 w.params) 156 155=some 0:=by k_is
theorem i_s2:slotIn (hd.heap_1 w.params) 157 155=some 1:=by k_is
theorem i_s3:slotIn (hd.heap_1 w.params) 158 155=some 2:=by k_is
theorem i_n1:specialIn (hd.heap_1 w.params) (.ref 156) "__get__"=some (some (.builtin "member_descriptor.__get__")):=by k_is
theorem i_k1:takesIn (hd.heap_1 w.params) (.ref 156)=some true:=by k_is
end
end P9
section M30
open PySem.Calls
structure NamesOk (es:List DictEntry):Prop where
 noref:∀e∈es,e.refKey=false
 few:es.length≤8
theorem zCj {es:List DictEntry} (N:NamesOk es) (name:Str):getL name es=some ((es.find? (·.key.isStr name)).map (·.val)):=by
 unfold getL
 cases h:es.find? (fun e=>e.key.isStr name)with
 |some e=>rfl
 |none=>
  have:es.any (·.refKey)=false:=by
   rw[List.any_eq_false]
   intro e he
   rw[N.noref e he];decide
  simp[this]
theorem zBf (name:Str) (hs:Int) (t:Tok) (v:Value):∀es:List DictEntry,((putL name hs (.str name t) v es).find? (·.key.isStr name)).map (·.val)=some v
 | []=>by simp[putL,Value.isStr]
 |e::r=>by
  unfold putL
  cases h:e.key.isStr name with
  |true=>simp[h]
  |false=>simp[h,zBf name hs t v r]
theorem zAk {name name':Str} (hs:Int) (t:Tok) (v:Value) (hn:name'≠name):∀es:List DictEntry,((putL name hs (.str name t) v es).find? (·.key.isStr name')).map (·.val)=(es.find? (·.key.isStr name')).map (·.val)
 | []=>by simp[putL,Value.isStr,Ne.symm hn]
 |e::r=>by
  unfold putL
  cases h:e.key.isStr name with
  |true=>
   cases h':e.key.isStr name' with
   |true=>
    exfalso
    cases hk:e.key with
    |str x t'=>
     rw[hk]at h h'
     simp only[Value.isStr,beq_iff_eq]at h h'
     exact hn (h'.symm.trans h)
    |_=>rw[hk]at h;simp[Value.isStr]at h
   |false=>simp[h']
  |false=>
   have ih:=zAk hs t v hn r
   cases h':e.key.isStr name' with
   |true=>simp[h']
   |false=>simp[h',ih]
theorem NamesOk.put {es:List DictEntry} (N:NamesOk es) {name:Str} {hs:Int} {t:Tok} {v:Value} (h:(es.find? (·.key.isStr name)).isSome=true∨es.length≤7):NamesOk (putL name hs (.str name t) v es):=by
 have key:∀es:List DictEntry,(∀e∈es,e.refKey=false)→(∀e∈putL name hs (.str name t) v es,e.refKey=false)∧(putL name hs (.str name t) v es).length≤es.length+1∧((es.find? (·.key.isStr name)).isSome=true→(putL name hs (.str name t) v es).length=es.length):=by
  intro es
  induction es with
  |nil=>intro _;exact⟨fun e he=>by simp only[putL,List.mem_singleton]at he;subst he;rfl,by simp[putL],by simp⟩
  |cons e r ih=>
   intro hr
   obtain⟨h1,h2,h3⟩:=ih fun e he=>hr e (List.mem_cons_of_mem _ he)
   unfold putL
   cases hk:e.key.isStr name with
   |true=>
    refine⟨fun e' he=> ?_,by simp,by simp⟩
    rcases List.mem_cons.mp he with rfl|he
    ·have:=hr e List.mem_cons_self
     exact this
    ·exact hr e' (List.mem_cons_of_mem _ he)
   |false=>
    refine⟨fun e' he=> ?_,by simp;exact h2,fun q=>by simp[hk]at q;simp;exact h3 (by simpa using q)⟩
    rcases List.mem_cons.mp he with rfl|he
    ·exact hr _ List.mem_cons_self
    ·exact h1 e' he
 obtain⟨h1,h2,h3⟩:=key es N.noref
 refine⟨h1,?_⟩
 have:=N.few
 rcases h with h|h
 ·rw[h3 h];exact this
 ·omega
theorem zKx (name:Str) (hs:Int) (t:Tok) (v:Value):∀es:List DictEntry,(putL name hs (.str name t) v es).length≤es.length+1
 | []=>by simp[putL]
 |e::r=>by
  unfold putL
  have:=zKx name hs t v r
  cases e.key.isStr name<;>simp
  omega
noncomputable def atName (es:List DictEntry) (name:Str):Option Value:=(es.find? (·.key.isStr name)).map (·.val)
theorem NamesOk.nil:NamesOk []:=⟨fun _ m=>(nomatch m),by simp⟩
end M30
section M31
open PySem.Calls
section
variable {prog:Program} {w:World} {A:Around} {X M:List Addr} {g h h':Heap} {env:Env} {Γ:List (Str×Bd)}
theorem Fn.lend {O:List Addr} (F:Fn g X [] h env Γ) (sub:∀b∈O,b∈X):Fn (hid O g) X O h env Γ:=by
 have le:∀b,g.get? b=none→(hid O g).get? b=none:=fun b n=>by
  cases e:(hid O g).get? b with
  |none=>rfl
  |some o=>have:=zAf _ _ _ _ e;rw[n]at this;cases this
 refine⟨F.is,fun b o e=>F.kg _ _ (zAf _ _ _ _ e),le _ F.outL,fun n c hk e=>le _ (F.outC n c hk e),fun b m=> ?_,sub,F.kx⟩
 cases e:(hid O g).get? b with
 |none=>rfl
 |some o=>exact absurd m (zAh e)
theorem Fn.changeAt {D:Addr} {o₀:Obj} (F:Fn g X M h env Γ) (hD:D∈M) (ho:h.get? D=some o₀) (nL:D≠env.locals) (nC:∀n,env.cells.lookup n≠some D) (sb:∀b o,b≠D→h.get? b=some o→h'.get? b=some o) (a:∃o,h'.get? D=some o):
 Fn g X M h' env Γ∧Rel [D] env h h'∧SExt (hid X h) (hid X h'):=by
 have R:Rel [D] env h h':=fun b o n _ _ e=>sb b o (by simpa using n) e
 have sub:∀b∈[D],b∈M:=fun b m=>by simp at m;exact m▸hD
 have own:=F.is
 have S:=R.hid own (fun b m=>F.sub b (sub b m))
 refine⟨⟨⟨own.fn,?_,?_,own.inj,?_⟩,R.ext F sub,F.outL,F.outC,F.outM,F.sub,?_⟩,R,S⟩
 ·obtain⟨m,n⟩:=own.ns
  exact⟨m,n.at' fun o e=>sb _ _ (Ne.symm nL) e⟩
 ·intro n c e
  obtain⟨u,o,ho,hd⟩:=own.cell n c e
  exact⟨u,o,sb _ _ (fun z=>nC n (z▸e)) ho,hd⟩
 ·intro z b e
  obtain⟨u,su,ru⟩:=own.see z b e
  refine⟨u,?_,ru.mono S⟩
  rcases su with⟨q,m,n,em⟩|⟨q,c,ec,o,ho,hd⟩
  ·exact .inl ⟨q,m,n.at' fun o e=>sb _ _ (Ne.symm nL) e,em⟩
  ·exact .inr ⟨q,c,ec,o,sb _ _ (fun z=>nC _ (z▸ec)) ho,hd⟩
 ·intro b ma
  obtain⟨o,e⟩:=F.kx b ma
  by_cases hy:b=D
  ·subst hy;exact a
  ·exact⟨o,sb b o hy e⟩
structure Node where
 name:Str
 np:Int
 succ:List Str
structure NodeAddr where
 i:Addr
 d:Addr
 l:Addr
noncomputable def NodeAddr.all (a:NodeAddr):List Addr:=[a.i,a.d,a.l]
noncomputable def strList (h:Heap) (l:Addr) (xs:List Str):Prop:=∃ps:List (Str×Tok),h.PlainList l (strValues ps).toArray∧ps.map (·.1)=xs
noncomputable def NodeAt (NC:Addr) (h:Heap) (n:Node) (a:NodeAddr):Prop:=
 (∃t₁ t₂,h.get? a.i=some ⟨.ref NC,some a.d, .plain, #[some (.str n.name t₁),some (.int n.np t₂),some (.ref a.l)]⟩)∧h.get? a.d=some (dictOf [] 0)∧strList h a.l n.succ
structure Srt where
 so:Addr
 dx:Addr
 dn:Addr
 nodes:List (Node×NodeAddr)
 ready:Option (Addr×List Str)
 passed:Int
 finished:Int
noncomputable def Srt.addrs (σ:Srt):List Addr:=σ.so::σ.dx::σ.dn::((match σ.ready with|some p=>[p.1]|none=>[])++σ.nodes.flatMap fun p=>p.2.all)
structure SrtAt (prog:Program) (w:World) (SC NC:Addr) (h:Heap) (σ:Srt):Prop where
 inst:h.get? σ.so=some ⟨.ref SC,some σ.dx, .plain, #[]⟩
 names:∃es n,h.get? σ.dx=some (dictOf es n)∧NamesOk es∧atName es "_node2info"=some (.ref σ.dn)∧atName es "_ready_nodes"=some (match σ.ready with|some p=> .ref p.1|none=> .none)∧
  (∃t,atName es "_npassedout"=some (.int σ.passed t))∧(∃t,atName es "_nfinished"=some (.int σ.finished t))∧(∀nm:Str,nm∉(["_node2info","_ready_nodes","_npassedout","_nfinished"]:List Str)→atName es nm=none)
 ready:∀p,σ.ready=some p→strList h p.1 p.2
 dict:h.DictOf (strKind prog w) σ.dn (σ.nodes.map fun p=>(p.1.name, .ref p.2.i))
 node:∀p∈σ.nodes,NodeAt NC h p.1 p.2
 apart:σ.addrs.Nodup
 lo:(σ.dn==sysModules)=false
theorem strList.keep {l:Addr} {xs:List Str} (x:strList h l xs) (k:∀o,h.get? l=some o→h'.get? l=some o):strList h' l xs:=by
 obtain⟨ps,⟨n,e⟩,q⟩:=x
 exact⟨ps,⟨n,k _ e⟩,q⟩
theorem NodeAt.keep {NC:Addr} {n:Node} {a:NodeAddr} (x:NodeAt NC h n a) (k:∀b∈a.all,∀o,h.get? b=some o→h'.get? b=some o):NodeAt NC h' n a:=by
 obtain⟨⟨t₁,t₂,e⟩,e2,l⟩:=x
 exact⟨⟨t₁,t₂,k _ (by simp[NodeAddr.all]) _ e⟩,k _ (by simp[NodeAddr.all]) _ e2,l.keep (k _ (by simp[NodeAddr.all]))⟩
theorem SrtAt.keep {SC NC:Addr} {σ:Srt} (x:SrtAt prog w SC NC h σ) (k:∀b∈σ.addrs,∀o,h.get? b=some o→h'.get? b=some o):SrtAt prog w SC NC h' σ:=by
 refine⟨k _ (by simp[Srt.addrs]) _ x.inst,?_,?_,?_,?_,x.apart,x.lo⟩
 ·obtain⟨es,n,e,r⟩:=x.names
  exact⟨es,n,k _ (by simp[Srt.addrs]) _ e,r⟩
 ·intro p hp
  exact(x.ready p hp).keep (k _ (by simp[Srt.addrs,hp]))
 ·exact x.dict.at (k _ (by simp[Srt.addrs]))
 ·intro p hp
  exact(x.node p hp).keep fun b hb=>k b (by
   simp only[Srt.addrs,List.mem_cons,List.mem_append,List.mem_flatMap]
   exact .inr (.inr (.inr (.inr ⟨p,hp,hb⟩))))
end
end M31
section M32
open PySem.Calls
section
variable {prog:Program} {w:World} {A:Around} {X M:List Addr} {g h h':Heap} {env:Env} {Γ:List (Str×Bd)} {K:Frag} {C so dx:Addr} {es:List DictEntry} {n:Nat} {name:Str} {v:Value} {sl:Array (Option Value)}
theorem instAt {od:Obj} (e1:h.get? so=some ⟨.ref C,some dx, .plain,sl⟩) (e2:h.get? dx=some od):W.InstAt h so ⟨.ref C,some dx, .plain,sl⟩ C (some od):=⟨e1,rfl,rfl,e2⟩
theorem zCf {o:Expr} {ap:Pos} {attr:Option Value} (X:K.In h) (hx:EvV prog w A h (eval o env) (.ref so)) (e1:h.get? so=some ⟨.ref C,some dx, .plain,sl⟩) (e2:h.get? dx=some (dictOf es n)) (N:NamesOk es) (ev:atName es name=some v)
 (hg:plainGet K C name=true) (hh:hasDictIn K C=true) (ha:findIn K (.ref C) name=some attr) (hn:noGet K attr=true) (hv:handedIn v=true)
 (he:autoParam (eval (.Attribute o name ap) env=(do
  let o'←eval o env
  standAt ap.atName
  let r←holding [o'] (getAttr o' name true)
  letTemporaryGo o o' r
  pure r)) aR):
 EvV prog w A h (eval (.Attribute o name ap) env) v:=by
 intro s Q E k hQ
 refine Attribute_any_ (hx s _ _ k fun h₁ tk₁ k₁=> ?_) he
 have kk:Ext h h₁:=k.trans k₁
 refine zHv (s:=(sat s h₁ tk₁)) (X.keeps kk) (instAt (kk _ _ e1) (kk _ _ e2)) hg hh ha hn ?_ hv fun tk=>hQ h₁ tk k₁
 rw[zCj N];exact congrArg some ev
theorem zDe {o:Expr} {ap:Pos} {p i:Nat} {od:Obj} (X:K.In h) (hx:EvV prog w A h (eval o env) (.ref so)) (e1:h.get? so=some ⟨.ref C,some dx, .plain,sl⟩) (e2:h.get? dx=some od) (ev:(sl[i]?).join=some v)
 (hg:plainGet K C name=true) (hc:isClsIn K C=true) (ha:findIn K (.ref C) name=some (some (.ref p))) (hn:specialIn K (.ref p) "__get__"=some (some (.builtin "member_descriptor.__get__"))) (ht:takesIn K (.ref p)=some true) (hp:slotIn K p C=some i) (hv:handedIn v=true)
 (he:autoParam (eval (.Attribute o name ap) env=(do
  let o'←eval o env
  standAt ap.atName
  let r←holding [o'] (getAttr o' name true)
  letTemporaryGo o o' r
  pure r)) aR):
 EvV prog w A h (eval (.Attribute o name ap) env) v:=by
 intro s Q E k hQ
 refine Attribute_any_ (hx s _ _ k fun h₁ tk₁ k₁=> ?_) he
 have kk:Ext h h₁:=k.trans k₁
 exact zIu (s:=(sat s h₁ tk₁)) (X.keeps kk) (instAt (kk _ _ e1) (kk _ _ e2)) hg hc ha hn ht hp ev hv fun tk=>hQ h₁ tk k₁
theorem EvV.d {t:Sem Value} {u:Value} {d:PyData} (a:EvV prog w A h t u) (r:Rd (hid X h) d u):Ev prog w A X h t d:=fun s Q E k _ hQ=>a s Q E k fun h' tk k'=>hQ u h' tk k' (r.mono (zAl (k.trans k')).s)
theorem zEd {l r:Expr} {pos:Pos} {whole:Sem Value} {u:Value} (ha:EvV prog w A h (eval l env) u) (hb:EvV prog w A h (eval r env) .none) (hp:plainIs u .none=true)
 (hm:autoParam (behindInMarks .Is r=false) aR):EvB prog w A X h (isTrue (.Compare l [.Is] [r] pos) env whole) (u== .none):=by
 intro s Q E k kx hQ
 refine wpAny_isTrue_Compare1 (ha s _ _ k fun h₁ tk₁ k₁=>hb _ _ _ (k.trans k₁) fun h₂ tk₂ k₂=> ?_) hm
 exact wpAny_is_plain hp (wpAny_truthy_bool (hQ h₂ tk₂ (k₁.trans k₂)))
theorem zCs {l r:Expr} {pos:Pos} {whole:Sem Value} {u:Value} (ha:EvV prog w A h (eval l env) u) (hb:EvV prog w A h (eval r env) .none) (hp:plainIs u .none=true)
 (hm:autoParam (behindInMarks .IsNot r=false) aR):EvB prog w A X h (isTrue (.Compare l [.IsNot] [r] pos) env whole) (!(u== .none)):=by
 intro s Q E k kx hQ
 refine wpAny_isTrue_Compare1 (ha s _ _ k fun h₁ tk₁ k₁=>hb _ _ _ (k.trans k₁) fun h₂ tk₂ k₂=> ?_) hm
 exact wpAny_isNot_plain hp (wpAny_truthy_bool (hQ h₂ tk₂ (k₁.trans k₂)))
theorem zBg {k:Nat} {pos:Pos}:EvV prog w A h (eval (.Constant .none k pos) env) .none:=fun s _ _ _ hQ=>wpAny_Constant_none (hQ s.heap s.toks Ext.rfl)
theorem zDc {s:Shared} {E:Value→Shared→Prop} {Q:Flow→Shared→Prop} {o e:Expr} {ap pos:Pos} {u:Value} (P:Heap→Prop) (F:Fn g X M s.heap env Γ) (nL:dx≠env.locals) (hx:EvV prog w A s.heap (eval o env) (.ref so))
 (a:∀(Q':Value→Shared→Prop),(∀h₁ tk,Ext s.heap h₁→P h₁→Q' u (sat s h₁ tk))→wpAny (model prog w) A (eval e env) Q' E s)
 (kk:K.In s.heap) (e1:s.heap.get? so=some ⟨.ref C,some dx, .plain,sl⟩) (e2:s.heap.get? dx=some (dictOf es n)) (N:NamesOk es) (hn:(atName es name).isSome=true∨es.length≤7)
 (hs:findIn K (.ref C) "__setattr__"=some (some (.builtin "object.__setattr__"))) (hp:plainOver K C=true) (ht:takerIn K C name=some none) (hh:hasDictIn K C=true)
 (hD:dx∈M)
 (hQ:∀h₁ h' tk es' n',Ext s.heap h₁→P h₁→Fn g X M h' env Γ→Rel [dx] env h₁ h'→h'.get? so=some ⟨.ref C,some dx, .plain,sl⟩→h'.get? dx=some (dictOf es' n')→NamesOk es'→es'.length≤es.length+1→atName es' name=some u→(∀nm,nm≠name→atName es' nm=atName es nm)→
  SExt (hid X s.heap) (hid X h')→Q .next (sat s h' tk))
 (hsw:autoParam (swapsWith e (some (.Attribute o name ap)) pos.line env=pure false) aR):
 wpAny (model prog w) A (exec (.Assign [.Attribute o name ap] e pos) env) Q E s:=by
 refine plainObj_wpAny_Assign_Attribute (a _ fun h₁ tk₁ k₁ p₁=>hx _ _ _ k₁ fun h₂ tk₂ k₂=> ?_) hsw
 have k:=k₁.trans k₂
 have F₂:=F.ext k
 have hl:getL name es=some (atName es name):=zCj N name
 refine zE9 (s:=(sat s h₂ tk₂)) (kk.keeps k) (instAt (k _ _ e1) (k _ _ e2)) rfl hs hp ht hh (by rw[hl];rfl) rfl ?_ fun h' tk' q sb=> ?_
 ·have:=(N.put (hs:=PyData.keyHash w.params name) (t:=tk₂+1) (v:=u) (name:=name) (hn.imp (fun x=>by unfold atName at x;simpa using x) id)).few
  exact Nat.le_trans this (by decide)
 ·have nC:∀n,env.cells.lookup n≠some dx:=by
   intro n hn
   obtain⟨u',o',ho,hd⟩:=F₂.is.cell n dx hn
   rw[show h₂.get? dx=_ from k _ _ e2]at ho;cases ho;cases hd
  obtain⟨F',R',S'⟩:=F₂.changeAt hD (k _ _ e2) nL nC sb ⟨_,q⟩
  refine hQ h₁ h' tk' _ _ k₁ p₁ F' (k₂.rel.trans R') (sb _ _ ?_ (k _ _ e1)) q (N.put (hn.imp (fun x=>by unfold atName at x;simpa using x) id)) (zKx _ _ _ _ _) (zBf _ _ _ _ _) (fun nm hnm=>zAk _ _ _ hnm _) ((zAl k).s.trans S')
  rintro rfl
  rw[e1]at e2;cases e2
end
end M32
section M33
open PySem.Calls
section
variable {prog:Program} {w:World} {A:Around} {X M:List Addr} {g h h':Heap} {env:Env} {Γ:List (Str×Bd)}
variable {s:Shared} {E:Value→Shared→Prop}
theorem Fn.notL {a:Addr} {o:Obj} (F:Fn g X M h env Γ) (e:g.get? a=some o):a≠env.locals:=by
 rintro rfl
 have:=F.outL
 rw[e]at this;cases this
theorem zE3 {K:Frag} {f:Addr} {name qual:Str} {params:Arguments} {body:List Stmt} {scope:Scope} {dV kV doc pm cdv ct oc:Value} {an od:Option Addr} {osl:Array (Option Value)} {vs:List Value} {s:Shared} {R:Result→Shared→Prop} {n:Nat} (bs:List (Str×Bd))
 (S:Stat K s.heap) (ho:K.lookup f=some ⟨oc,od, .func (fnOf name qual params body scope dV kV doc pm an cdv ct),osl⟩) (hcd:codeIn K cdv qual=true) (rm:Room A (n+1)) (kx:XOk X s.heap)
 (hbind:∀(A:Around) (Q:List (Str×Value)→Shared→Prop) (E:Value→Shared→Prop),(∀binds h' tk,Ext s.heap h'→ @LE.le Nat _ s.heap.objs.size h'.objs.size→Bds (hid X h') bs binds→Q binds (sat s h' tk))→
  wpAny (model prog w) A (bindArgs (fnOf name qual params body scope dV kV doc pm an cdv ct) ⟨vs,[]⟩) Q E s)
 (hnd:(bs.map (·.1)).Nodup)
 (hkind:(bs.all fun y=>scope.names.lookup y.1==some .local||scope.names.lookup y.1==some .cell)=true)
 (h:∀L h₁ tk,Fn s.heap X [] h₁ (callEnvC (fnOf name qual params body scope dV kV doc pm an cdv ct) L f) bs→
  GEnv (callEnvC (fnOf name qual params body scope dV kV doc pm an cdv ct) L f)→wpAny (model prog w) (A.deeper (callEnvC (fnOf name qual params body scope dV kV doc pm an cdv ct) L f)) (execs body (callEnvC (fnOf name qual params body scope dV kV doc pm an cdv ct) L f))
   (fun fl s'=>R (.ok (.ret (match fl with| .ret v=>v|_=> .none))) s') (Leave prog w A (callEnvC (fnOf name qual params body scope dV kV doc pm an cdv ct) L f) fun e s'=>R (.error e) s') (sat s h₁ tk))
 (hco:scope.isCoroutine=false) (hgen:scope.isGenerator=false) (hk:scope.kind= .function):
 codeAny (model prog w) A (.call (.ref f) ⟨vs,[]⟩) R s:=by
 refine codeAny_call_function (fd:=fnOf name qual params body scope dV kV doc pm an cdv ct) (body:=body) (by have:=rm.depth;omega) (S.k _ _ ho) rfl hco hgen rfl (codeRec_of S.k hcd) ?_
 refine hbind _ _ _ fun binds h' tk k' z bb=> ?_
 have nm:=bb.names
 refine wpAny_newFunctionEnv_cells (scope:=scope) hk ?_ fun env he s₁ x=> ?_
 ·intro y hy
  have hm:y.1∈bs.map (·.1):=nm▸List.mem_map_of_mem hy
  obtain⟨z,hz,ez⟩:=List.mem_map.mp hm
  have:=List.all_eq_true.mp hkind z hz
  rw[ez]at this
  rcases Bool.or_eq_true_iff.mp this with q|q
  ·exact .inl (by simpa using q)
  ·have q':scope.names.lookup y.1=some .cell:=by simpa using q
   exact .inr ⟨q',cellsFrom_some _ _ _ (.inl q')⟩
 ·have he':env=callEnvC (fnOf name qual params body scope dV kV doc pm an cdv ct) h'.objs.size f:=he
  clear he
  subst he'
  obtain⟨h₁,tk₁,rfl,k₁⟩:=x.done
  have kk:Ext s.heap h₁:=k'.trans k₁
  refine⟨S.nolimit.keeps kk,codeAny_func ?_⟩
  refine h _ h₁ tk₁ ⟨⟨hk,⟨_,x.toInCall.ns⟩,fun n c e=>⟨_,x.cell n c e⟩,fun n n' c e e'=>name_of_addr x.apart (mem_of_lookup e) (mem_of_lookup e'),?_⟩,kk,?_,?_,(fun _ m=>nomatch m),(fun _ m=>nomatch m),kx.ext kk⟩ (zCp hk)
  ·intro y b e
   obtain⟨v,hv,rv⟩:=bb.see e
   have hb:=zD2 (kindOf:=(callEnvC (fnOf name qual params body scope dV kV doc pm an cdv ct) h'.objs.size f).kindOf) binds (fun _=>none) y v (by rw[nm];exact hnd) hv
   refine⟨v,?_,rv.mono (zAl k₁).s⟩
   have hm:y∈bs.map (·.1):=nm▸List.mem_map_of_mem (f:=(·.1)) hv
   obtain⟨z,hz,ez⟩:=List.mem_map.mp hm
   have:=List.all_eq_true.mp hkind z hz
   rw[ez]at this
   rcases Bool.or_eq_true_iff.mp this with q|q
   ·have q':scope.names.lookup y=some .local:=by simpa using q
    exact .inl ⟨q',_,x.toInCall.ns,hb.1 q'⟩
   ·have q':scope.names.lookup y=some .cell:=by simpa using q
    obtain⟨c,hc⟩:=Option.isSome_iff_exists.mp (cellsFrom_some scope.names (h'.objs.size+1) [] (.inl q'))
    refine .inr ⟨.inl q',c,hc,?_⟩
    have:=x.cell y c hc
    rw[hb.2 (by rw[show(callEnvC (fnOf name qual params body scope dV kV doc pm an cdv ct) h'.objs.size f).kindOf y=some .cell from q'];decide)]at this
    exact this
  ·exact Heap.get?_none_of_le z
  ·intro n c _ e
   have:=x.above n c (mem_of_lookup e)
   exact Heap.get?_none_of_le (Nat.le_trans z (Nat.le_of_lt this))
theorem zG9 {K:Frag} {C fI:Addr} {vs:List Value} {Q:Value→Shared→Prop} (X:K.In s.heap) (hm:makesIn K C=true) (hi:findIn K (.ref C) "__init__"=some (some (.ref fI))) (hf:typeIn K (.ref fI)=some (.type "function"))
 (h:∀h',h'=(s.heap.push emptyDict).push (instObj C s.heap.objs.size)→codeAny (model prog w) (A.under (.builtin "type.__call__" ⟨.ref C::vs,[]⟩)) (.call (.ref fI) ⟨.ref (s.heap.objs.size+1)::vs,[]⟩)
  (InitBack (s.heap.objs.size+1) (fun r s'=>match r with| .ok (.ret v)=>Q v s'| .ok _=>False| .error e=>E e s')) {s with heap:=h'}):
 wpAny (model prog w) A (call (.ref C) vs) Q E s:=by
 refine wpAny_call (codeAny_mono (R:=fun r s'=>match r with| .ok (.ret v)=>Q v s'| .ok _=>False| .error e=>E e s') ?_ fun r s' q=> ?_)
 ·obtain⟨hh,g,d,t,os⟩:=s
  exact make_core (makes_of X hm) (looks_findIn X hi) (fun self=>bind_fn X self hf) (.inl rfl) (h _ rfl)
 ·rcases r with e|(v|_|_|_)<;>first|exact q|exact q.elim
end
end M33
section P10
section
variable {w:World} {A:Around} {X:List Addr} {h:Heap}
noncomputable abbrev SOR (w:World) (h:Heap) (σ:Srt):Prop:=SrtAt PR w 252 155 h σ
theorem s_typ:typeIn (hd.heap_1 w.params) (.ref 188)=some (.type "function"):=by k_is
theorem zMo {s:Shared} {Q:Value→Shared→Prop} {E:Value→Shared→Prop} (S:Stat (hd.heap_1 w.params) s.heap) (rm:Room A 6) (kx:XOk X s.heap)
 (hQ:∀σ h' tk,Ext s.heap h'→SOR w h' σ→(∀b∈σ.addrs,s.heap.get? b=none)→σ.nodes=[]→σ.ready=none→σ.passed=0→σ.finished=0→Q (.ref σ.so) (sat s h' tk)):
 wpAny (model PR w) A (call (.ref 252) []) Q E s:=by
 refine zG9 S.k s_mk s_init s_typ fun h₀ e₀=> ?_
 have k₀:Ext s.heap h₀:=e₀▸(Ext.push _ _).trans (Ext.push _ _)
 have so:h₀.get? (s.heap.objs.size+1)=some (instObj 252 s.heap.objs.size):=by
  have:=Heap.get?_push_size (s.heap.push emptyDict) (o:=instObj 252 s.heap.objs.size) rfl
  rw[Heap.size_push]at this
  rw[e₀];exact this
 have dxo:h₀.get? s.heap.objs.size=some (dictOf [] 0):=by rw[e₀];exact Heap.get?_push_of_some _ (Heap.get?_push_size _ rfl)
 have S₀:=S.mono k₀
 have dxf:s.heap.get? s.heap.objs.size=none:=Heap.get?_none_of_le (Nat.le_refl _)
 have sof:s.heap.get? (s.heap.objs.size+1)=none:=Heap.get?_none_of_le (Nat.le_succ _)
 refine' zE3 (X:=s.heap.objs.size::X) (n:=4) [("self", .v (.ref (s.heap.objs.size+1))),("graph", .v .none)] S₀ ?ho ?hcd ?rm ?kx ?hb (show(["self","graph"]:List Str).Nodup by decide) ?kind ?_ ?hco ?hgen ?hk
 case ho=>k_is
 case hcd=>k_is
 case kind=>rfl
 case hco=>rfl
 case hgen=>rfl
 case hk=>rfl
 case rm=>
  have hu:(Code.builtin "type.__call__" ⟨[.ref 252],[]⟩).cUnits≤8:=by decide+kernel
  have h1:=rm.depth
  have h2:=rm.units
  refine⟨rm.hand,?_,?_⟩
  ·show A.depth+1+5<_
   omega
  ·show A.units+(Code.builtin "type.__call__" ⟨[.ref 252],[]⟩).cUnits+16 * 5+64<_
   omega
 case kx=>
  intro b m
  rcases List.mem_cons.mp m with rfl|m
  ·exact⟨_,dxo⟩
  ·exact(kx.ext k₀) b m
 case hb=>
  intro A' Q' E₂ hq
  refine' (BindsTo.of_defaults (binds:=[("self", .ref (s.heap.objs.size+1)),("graph", .none)]) (items:= #[.none]) (n:=0) (o:=⟨.type "tuple",none, .seq #[.none] 0, #[]⟩) rfl (S₀.k _ _ ?ht) rfl rfl rfl) _ _ _ _ ?fin
  case ht=>k_is
  case fin=>exact hq _ h₀ _ Ext.rfl (Nat.le_refl _) (.cons rfl (.cons rfl .nil))
 intro L h₁ tk F G
 have F₁:=F.lend (O:=[s.heap.objs.size]) (fun b m=>(List.mem_singleton.mp m)▸List.mem_cons_self)
 have k₁:=F.kg
 have hD:s.heap.objs.size∈[s.heap.objs.size]:=List.mem_singleton.mpr rfl
 have nL:=F.notL dxo
 have S₁:=S₀.mono k₁
 have so₁:=k₁ _ _ so
 have dx₁:=k₁ _ _ dxo
 walk_at "sh"
 with_reducible refine zAa (zDc (u:= .ref h₁.objs.size) (fun h=>h.get? h₁.objs.size=some emptyDict∧Ext h₁ h) F₁ nL (nmV_ F₁.is) ?_ S₁.k so₁ dx₁ NamesOk.nil ?_ zKe zF3 s_t1 zBm hD fun hb h₂ tk₂ es₂ n₂ kb pb F₂ R₂ so₂ dx₂ N₂ l₂ at₂ ot₂ se₂=> ?_)
 ·intro Q' hq
  refine wpAny_Dict_empty (hq _ _ (Ext.push _ _) ⟨Heap.get?_push_size _ rfl,Ext.push _ _⟩)
 ·exact .inr (by simp)
 have kb:Ext s.heap (hid [s.heap.objs.size] h₀):=fun b o e=>zAb (k₀ _ _ e) fun m=>by
  have:=Heap.lt_size e
  rw[List.mem_singleton.mp m]at this
  exact Nat.lt_irrefl _ this
 have S₂:=S.mono (kb.trans F₂.kg)
 walk_at "sh"
 with_reducible refine zAa (zDc (u:= .none) (fun h=>Ext h₂ h) F₂ nL (nmV_ F₂.is) ?_ S₂.k so₂ dx₂ N₂ ?_ zKe zF3 s_t2 zBm hD fun hc h₃ tk₃ es₃ n₃ kc pc F₃ R₃ so₃ dx₃ N₃ l₃ at₃ ot₃ se₃=> ?_)
 ·intro Q' hq
  exact zBg (h:=h₂) _ _ _ Ext.rfl fun h' tk' k'=>hq h' tk' k' k'
 ·exact .inr (by simp at l₂;omega)
 have S₃:=S.mono (kb.trans F₃.kg)
 walk_at "sh"
 with_reducible refine zAa (zDc (u:= .int 0 tk₃) (fun h=>Ext h₃ h) F₃ nL (nmV_ F₃.is) ?_ S₃.k so₃ dx₃ N₃ ?_ zKe zF3 s_t3 zBm hD fun hd h₄ tk₄ es₄ n₄ kd pd F₄ R₄ so₄ dx₄ N₄ l₄ at₄ ot₄ se₄=> ?_)
 ·intro Q' hq
  exact wpAny_Constant_int (hq h₃ _ Ext.rfl Ext.rfl)
 ·exact .inr (by simp at l₂;omega)
 have S₄:=S.mono (kb.trans F₄.kg)
 walk_at "sh"
 with_reducible refine zAa (zDc (u:= .int 0 tk₄) (fun h=>Ext h₄ h) F₄ nL (nmV_ F₄.is) ?_ S₄.k so₄ dx₄ N₄ ?_ zKe zF3 s_t4 zBm hD fun he h₅ tk₅ es₅ n₅ ke pe F₅ R₅ so₅ dx₅ N₅ l₅ at₅ ot₅ se₅=> ?_)
 ·intro Q' hq
  exact wpAny_Constant_int (hq h₄ _ Ext.rfl Ext.rfl)
 ·exact .inr (by simp at l₂;omega)
 walk_at "sh"
 with_reducible refine zAa (zBj (c:=false) F₅ ?_ fun h₆ tk₆ k₆ F₆=>⟨fun e=> ?_,fun _=> ?_⟩)
 ·with_reducible refine EvB.eq (zCs (u:= .none) (nmV_ F₅.is) zBg ?_) ?_
  ·rfl
  ·rfl
 ·cases e
 ·refine wpAny_execs_nil (wpAny_execs_nil ?_)
  have lt₁:∀{a o},h₁.get? a=some o→a≠h₁.objs.size:=fun e z=>Nat.lt_irrefl _ (z▸Heap.lt_size e)
  have nD1:h₁.objs.size≠s.heap.objs.size:=fun z=>lt₁ dx₁ z.symm
  have nS1:h₁.objs.size≠s.heap.objs.size+1:=fun z=>lt₁ so₁ z.symm
  obtain⟨m₁,ns₁⟩:=F₁.is.ns
  have keepR:∀{a b:Heap},Rel [s.heap.objs.size] _ a b→∀o,a.get? h₁.objs.size=some o→b.get? h₁.objs.size=some o:=fun r o e=>r _ o (by simpa using nD1) (fun z=>Nat.lt_irrefl _ (z▸ns₁.lt)) (fun n _ z=>by
   obtain⟨u,q⟩:=F₁.is.cell n _ z
   exact Nat.lt_irrefl _ q.lt) e
  have dn₂:=keepR R₂ _ pb.1
  have dn₃:=keepR R₃ _ (pc _ _ dn₂)
  have dn₄:=keepR R₄ _ (pd _ _ dn₃)
  have dn₆:=k₆ _ _ (keepR R₅ _ (pe _ _ dn₄))
  have none_of:∀{a:Addr},h₁.get? a=none→s.heap.get? a=none:=fun e=>by
   cases q:s.heap.get? _ with
   |none=>rfl
   |some o=>have:=(k₀.trans k₁) _ _ q;rw[e]at this;cases this
  refine⟨rfl,hQ ⟨s.heap.objs.size+1,s.heap.objs.size,h₁.objs.size,[],none,0,0⟩ h₆ tk₆ (kb.trans F₆.kg) ⟨k₆ _ _ so₅,⟨es₅,n₅,k₆ _ _ dx₅,N₅,?_,?_,⟨tk₃,?_⟩,⟨tk₄,at₅⟩,?_⟩,(fun p hp=>nomatch hp),?_,(fun p hp=>nomatch hp),?_,?_⟩ ?_ rfl rfl rfl rfl⟩
  ·rw[ot₅ _ (by decide),ot₄ _ (by decide),ot₃ _ (by decide)];exact at₂
  ·rw[ot₅ _ (by decide),ot₄ _ (by decide)];exact at₃
  ·rw[ot₅ _ (by decide)];exact at₄
  ·intro nm hnm
   simp only[List.mem_cons,List.not_mem_nil,or_false,not_or]at hnm
   rw[ot₅ _ hnm.2.2.2,ot₄ _ hnm.2.2.1,ot₃ _ hnm.2.1,ot₂ _ hnm.1];rfl
  ·exact⟨_,_,_,dn₆,⟨rfl,rfl,rfl⟩,rfl,(fun e m=>by simp at m), .nil,List.nodup_nil⟩
  ·simp[Srt.addrs,nD1.symm,nS1.symm]
  ·have l1: @LT.lt Nat _ s.heap.objs.size h₁.objs.size:=Heap.lt_size dx₁
   have l2: @LT.lt Nat _ 252 s.heap.objs.size:=by
    obtain⟨oc,od,cd,sl,hC,_⟩:=(makes_of (M:=model PR w) S.k s_mk).obj
    exact Heap.lt_size hC
   have l3: @Ne Nat h₁.objs.size 1:=by omega
   exact beq_eq_false_iff_ne.mpr l3
  ·intro b hb
   simp only[Srt.addrs,List.flatMap_nil,List.append_nil,List.mem_cons,List.not_mem_nil,or_false]at hb
   rcases hb with rfl|rfl|rfl
   ·exact sof
   ·exact dxf
   ·exact none_of (Heap.get?_none_of_le (Nat.le_refl _))
end
end P10
section M34
open PySem.Calls
section
variable {prog:Program} {w:World} {A:Around} {X M:List Addr} {g h h':Heap} {env:Env} {Γ:List (Str×Bd)} {K:Frag} {C so dx:Addr} {name:Str} {v:Value} {sl sl':Array (Option Value)}
theorem zEg {s:Shared} {E:Value→Shared→Prop} {Q:Flow→Shared→Prop} {o e:Expr} {ap pos:Pos} {u:Value} {p i:Nat} {od:Obj} (P:Heap→Prop) (F:Fn g X M s.heap env Γ) (hx:EvV prog w A s.heap (eval o env) (.ref so))
 (a:∀(Q':Value→Shared→Prop),(∀h₁ tk,Ext s.heap h₁→P h₁→Q' u (sat s h₁ tk))→wpAny (model prog w) A (eval e env) Q' E s)
 (kk:K.In s.heap) (e1:s.heap.get? so=some ⟨.ref C,some dx, .plain,sl⟩) (e2:s.heap.get? dx=some od)
 (hs:findIn K (.ref C) "__setattr__"=some (some (.builtin "object.__setattr__"))) (hp:plainOver K C=true) (ht:takerIn K C name=some (some (.ref p))) (hT:typeIn K (.ref p)=some (.type "member_descriptor")) (hi:slotIn K p C=some i) (hz:i<1000)
 (esl:(sl++Array.replicate (i+1 - sl.size) none).setIfInBounds i (some u)=sl') (hD:so∈M) (hds:dx≠so)
 (hQ:∀h₁ h' tk,Ext s.heap h₁→P h₁→Fn g X M h' env Γ→Rel [so] env h₁ h'→h'.get? so=some ⟨.ref C,some dx, .plain,sl'⟩→h'.get? dx=some od→SExt (hid X s.heap) (hid X h')→Q .next (sat s h' tk))
 (hsw:autoParam (swapsWith e (some (.Attribute o name ap)) pos.line env=pure false) aR):
 wpAny (model prog w) A (exec (.Assign [.Attribute o name ap] e pos) env) Q E s:=by
 refine plainObj_wpAny_Assign_Attribute (a _ fun h₁ tk₁ k₁ p₁=>hx _ _ _ k₁ fun h₂ tk₂ k₂=> ?_) hsw
 have k:=k₁.trans k₂
 have F₂:=F.ext k
 refine zHi (s:=(sat s h₂ tk₂)) (kk.keeps k) (instAt (k _ _ e1) (k _ _ e2)) hs hp ht hT hi hz (ox':=⟨.ref C,some dx, .plain,sl'⟩) (by rw[←esl]) rfl fun h' tk' q sb=> ?_
 have nL:so≠env.locals:=by
  rintro rfl
  obtain⟨m,o,es',ep,ho,hd,_⟩:=F₂.is.ns
  rw[k _ _ e1]at ho;cases ho;cases hd
 have nC:∀n,env.cells.lookup n≠some so:=by
  intro n hn
  obtain⟨u',o',ho,hd⟩:=F₂.is.cell n so hn
  rw[show h₂.get? so=_ from k _ _ e1]at ho;cases ho;cases hd
 obtain⟨F',R',S'⟩:=F₂.changeAt hD (k _ _ e1) nL nC sb ⟨_,q⟩
 refine hQ h₁ h' tk' k₁ p₁ F' (k₂.rel.trans R') q ?_ ((zAl k).s.trans S')
 exact sb _ _ hds (k _ _ e2)
end
end M34
section P11
section
variable {w:World} {A:Around} {X:List Addr} {h:Heap}
theorem i_typ:typeIn (hd.heap_1 w.params) (.ref 151)=some (.type "function"):=by k_is
theorem i_g2:plainGet (hd.heap_1 w.params) 155 "npredecessors"=true:=by k_is
theorem i_g3:plainGet (hd.heap_1 w.params) 155 "successors"=true:=by k_is
theorem i_n2:specialIn (hd.heap_1 w.params) (.ref 157) "__get__"=some (some (.builtin "member_descriptor.__get__")):=by k_is
theorem i_n3:specialIn (hd.heap_1 w.params) (.ref 158) "__get__"=some (some (.builtin "member_descriptor.__get__")):=by k_is
theorem i_k2:takesIn (hd.heap_1 w.params) (.ref 157)=some true:=by k_is
theorem i_k3:takesIn (hd.heap_1 w.params) (.ref 158)=some true:=by k_is
theorem zQa {s:Shared} {Q:Value→Shared→Prop} {E:Value→Shared→Prop} {x:Str} {t₀:Tok} (S:Stat (hd.heap_1 w.params) s.heap) (rm:Room A 6) (kx:XOk X s.heap)
 (hQ:∀a h' tk,Ext s.heap h'→NodeAt 155 h' ⟨x,0,[]⟩ a→(∀b∈a.all,s.heap.get? b=none)→a.all.Nodup→Q (.ref a.i) (sat s h' tk)):
 wpAny (model PR w) A (call (.ref 155) [.str x t₀]) Q E s:=by
 refine zG9 S.k i_mk i_init i_typ fun h₀ e₀=> ?_
 have k₀:Ext s.heap h₀:=e₀▸(Ext.push _ _).trans (Ext.push _ _)
 have so:h₀.get? (s.heap.objs.size+1)=some (instObj 155 s.heap.objs.size):=by
  have:=Heap.get?_push_size (s.heap.push emptyDict) (o:=instObj 155 s.heap.objs.size) rfl
  rw[Heap.size_push]at this
  rw[e₀];exact this
 have dxo:h₀.get? s.heap.objs.size=some (dictOf [] 0):=by rw[e₀];exact Heap.get?_push_of_some _ (Heap.get?_push_size _ rfl)
 have S₀:=S.mono k₀
 have dxf:s.heap.get? s.heap.objs.size=none:=Heap.get?_none_of_le (Nat.le_refl _)
 have sof:s.heap.get? (s.heap.objs.size+1)=none:=Heap.get?_none_of_le (Nat.le_succ _)
 refine' zE3 (X:=(s.heap.objs.size+1)::X) (n:=4) [("self", .v (.ref (s.heap.objs.size+1))),("node", .v (.str x t₀))] S₀ ?ho ?hcd ?rm ?kx ?hb (show(["self","node"]:List Str).Nodup by decide) ?kind ?_ ?hco ?hgen ?hk
 case ho=>k_is
 case hcd=>k_is
 case kind=>rfl
 case hco=>rfl
 case hgen=>rfl
 case hk=>rfl
 case rm=>
  have hu:(Code.builtin "type.__call__" ⟨[.ref 155, .str x t₀],[]⟩).cUnits≤8:=Nat.le_of_ble_eq_true rfl
  have h1:=rm.depth
  have h2:=rm.units
  refine⟨rm.hand,?_,?_⟩
  ·show A.depth+1+5<_
   omega
  ·show A.units+(Code.builtin "type.__call__" ⟨[.ref 155, .str x t₀],[]⟩).cUnits+16 * 5+64<_
   omega
 case kx=>
  intro b m
  rcases List.mem_cons.mp m with rfl|m
  ·exact⟨_,so⟩
  ·exact(kx.ext k₀) b m
 case hb=>exact zA1 rfl (.cons rfl (.cons rfl .nil))
 intro L h₁ tk F G
 have F₁:=F.lend (O:=[s.heap.objs.size+1]) (fun b m=>(List.mem_singleton.mp m)▸List.mem_cons_self)
 have k₁:=F.kg
 have hD:s.heap.objs.size+1∈[s.heap.objs.size+1]:=List.mem_singleton.mpr rfl
 have hds:s.heap.objs.size≠s.heap.objs.size+1:=Nat.ne_of_lt (Nat.lt_succ_self _)
 have S₁:=S₀.mono k₁
 have so₁:=k₁ _ _ so
 have dx₁:=k₁ _ _ dxo
 have kb:Ext s.heap (hid [s.heap.objs.size+1] h₀):=fun b o e=>zAb (k₀ _ _ e) fun m=>by
  rw[List.mem_singleton.mp m,sof]at e;cases e
 walk_at "sh"
 with_reducible refine zAa (zEg (u:= .str x t₀) (sl':= #[some (.str x t₀)]) (fun h=>Ext h₁ h) F₁ (nmV_ F₁.is) ?_ S₁.k so₁ dx₁ zPj zKr i_t1 i_T1 i_s1 ?_ ?_ hD hds fun hb h₂ tk₂ kb₂ pb F₂ R₂ so₂ dx₂ se₂=> ?_)
 ·intro Q' hq
  exact(show EvV PR w _ h₁ _ (.str x t₀)from nmV_ F₁.is) _ _ _ Ext.rfl fun h' tk' k'=>hq h' tk' k' k'
 ·decide
 ·rfl
 have S₂:=S.mono (kb.trans F₂.kg)
 walk_at "sh"
 with_reducible refine zAa (zEg (u:= .int 0 tk₂) (sl':= #[some (.str x t₀),some (.int 0 tk₂)]) (fun h=>Ext h₂ h) F₂ (nmV_ F₂.is) ?_ S₂.k so₂ dx₂ zPj zKr i_t2 i_T2 i_s2 ?_ ?_ hD hds fun hc h₃ tk₃ kc pc F₃ R₃ so₃ dx₃ se₃=> ?_)
 ·intro Q' hq
  exact wpAny_Constant_int (hq h₂ _ Ext.rfl Ext.rfl)
 ·decide
 ·rfl
 have S₃:=S.mono (kb.trans F₃.kg)
 walk_at "sh"
 with_reducible refine zAa (zEg (u:= .ref h₃.objs.size) (sl':= #[some (.str x t₀),some (.int 0 tk₂),some (.ref h₃.objs.size)]) (fun h=>h.PlainList h₃.objs.size #[]) F₃ (nmV_ F₃.is) ?_ S₃.k so₃ dx₃ zPj zKr i_t3 i_T3 i_s3 ?_ ?_ hD hds fun hd h₄ tk₄ kd pd F₄ R₄ so₄ dx₄ se₄=> ?_)
 ·intro Q' hq
  exact wpAny_List (wpAny_items_nil ⟨by decide,hq _ _ (Ext.push _ _) ⟨0,Heap.get?_push_size _ rfl⟩⟩)
 ·decide
 ·rfl
 refine wpAny_execs_nil ?_
 have lt₃:∀{a o},h₃.get? a=some o→a≠h₃.objs.size:=fun e z=>Nat.lt_irrefl _ (z▸Heap.lt_size e)
 have nD:h₃.objs.size≠s.heap.objs.size:=fun z=>lt₃ dx₃ z.symm
 have nS:h₃.objs.size≠s.heap.objs.size+1:=fun z=>lt₃ so₃ z.symm
 obtain⟨n₀,pl⟩:=pd
 have pl₄:=R₄.seq (F₃.is.mono kd) (by simpa using nS) pl ⟨_,_,rfl⟩
 refine⟨rfl,hQ ⟨s.heap.objs.size+1,s.heap.objs.size,h₃.objs.size⟩ h₄ tk₄ (kb.trans F₄.kg) ⟨⟨t₀,tk₂,so₄⟩,dx₄,[],⟨n₀,pl₄⟩,rfl⟩ ?_ ?_⟩
 ·intro b hb
  simp only[NodeAddr.all,List.mem_cons,List.not_mem_nil,or_false]at hb
  rcases hb with rfl|rfl|rfl
  ·exact sof
  ·exact dxf
  ·cases q:s.heap.get? h₃.objs.size with
   |none=>rfl
   |some o=>exact absurd (Heap.lt_size ((kb.trans F₃.kg) _ _ q)) (Nat.lt_irrefl _)
 ·simp[NodeAddr.all,nD.symm,nS.symm]
end
end P11
section M35
open PySem.Calls
section
variable {prog:Program} {w:World} {A:Around} {X M:List Addr} {g h h':Heap} {env:Env} {Γ:List (Str×Bd)} {s:Shared}
theorem EvV.run {t:Sem Value} {u:Value} {Q:Value→Shared→Prop} {E:Value→Shared→Prop} (a:EvV prog w A h t u) (k:Ext h s.heap) (hQ:∀h' tk,Ext s.heap h'→Q u (sat s h' tk)):wpAny (model prog w) A t Q E s:=a s Q E k hQ
theorem Ev.run {t:Sem Value} {d:PyData} {Q:Value→Shared→Prop} {E:Value→Shared→Prop} (a:Ev prog w A X h t d) (k:Ext h s.heap) (kx:XOk X s.heap) (hQ:∀v h' tk,Ext s.heap h'→Rd (hid X h') d v→Q v (sat s h' tk)):wpAny (model prog w) A t Q E s:=a s Q E k kx hQ
theorem SrtAt.alive {SC NC:Addr} {σ:Srt} (x:SrtAt prog w SC NC h σ):∀b∈σ.addrs,∃o,h.get? b=some o:=by
 intro b hb
 simp only[Srt.addrs,List.mem_cons,List.mem_append,List.mem_flatMap]at hb
 rcases hb with rfl|rfl|rfl|hb|⟨p,hp,hb⟩
 ·exact⟨_,x.inst⟩
 ·obtain⟨es,n,e,_⟩:=x.names;exact⟨_,e⟩
 ·obtain⟨o,_,_,e,_⟩:=x.dict;exact⟨_,e⟩
 ·cases hr:σ.ready with
  |none=>rw[hr]at hb;cases hb
  |some p=>
   rw[hr]at hb
   obtain rfl:=List.mem_singleton.mp hb
   obtain⟨ps,⟨n,e⟩,_⟩:=x.ready p hr
   exact⟨_,e⟩
 ·obtain⟨⟨_,_,e1⟩,e2,ps,⟨n,e3⟩,_⟩:=x.node p hp
  simp only[NodeAddr.all,List.mem_cons,List.not_mem_nil,or_false]at hb
  rcases hb with rfl|rfl|rfl
  ·exact⟨_,e1⟩
  ·exact⟨_,e2⟩
  ·exact⟨_,e3⟩
theorem Fn.keeps {M':List Addr} {a b:Heap} (F:Fn g X M h env Γ) (R:Rel M' env a b) {c:Addr} (hc:∃o,g.get? c=some o) (n:c∉M'):∀o,a.get? c=some o→b.get? c=some o:=by
 obtain⟨o₀,e₀⟩:=hc
 refine fun o e=>R c o n ?_ ?_ e
 ·rintro rfl;have:=F.outL;rw[e₀]at this;cases this
 ·intro m hk hm;have:=F.outC m c hk hm;rw[e₀]at this;cases this
theorem zHx {MM:Model} {o i:Expr} {pos:Pos} {v:Value} {Q:Unit→Shared→Prop} {E:Value→Shared→Prop}
 (hh:wpAny MM A (eval o env) (fun ov s₁=>wpAny MM A (eval i env) (fun iv s₂=>wpAny MM A (setItem ov iv v) Q E s₂) E s₁) E s):wpAny MM A (assign (.Subscript o i pos) env v) Q E s:=by
 rw[assign_Subscript]
 refine wpAny_bind (wpAny_holding (wpAny_mono hh (fun ov s₁ h₁=>wpAny_bind (wpAny_holding (wpAny_mono h₁ (fun iv s₂ h₂=>wpAny_bind (wpAny_standAt (wpAny_bind (wpAny_holding (wpAny_mono h₂ (fun _ s₃ h₃=>wpAny_release h₃) fun _ _ e=>e))))) fun _ _ e=>e))) fun _ _ e=>e))
end
end M35
section M36
open PySem.Calls
section
variable {prog:Program} {w:World} {SC NC:Addr} {h h':Heap} {σ:Srt}
noncomputable def Srt.kvs (σ:Srt):List (Str×Value):=σ.nodes.map fun p=>(p.1.name, .ref p.2.i)
noncomputable def Srt.at (σ:Srt) (x:Str):Option (Node×NodeAddr):=σ.nodes.find? fun p=>decide (p.1.name=x)
theorem zDm (σ:Srt) (x:Str):valueAt σ.kvs x=(σ.at x).map fun p=> .ref p.2.i:=by
 unfold valueAt Srt.kvs Srt.at
 rw[List.find?_map]
 simp only[Option.map_map]
 rfl
noncomputable def Srt.addNode (σ:Srt) (x:Str) (a:NodeAddr):Srt:={σ with nodes:=σ.nodes++[(⟨x,0,[]⟩,a)]}
theorem zCx {x:Str} {a:NodeAddr} (b:Addr):b∈(σ.addNode x a).addrs↔b∈σ.addrs∨b∈a.all:=by
 simp only[Srt.addrs,Srt.addNode,List.flatMap_append,List.flatMap_cons,List.flatMap_nil,List.append_nil,List.mem_cons,List.mem_append]
 constructor
 ·rintro(h|h|h|h|h|h)<;>simp[h]
 ·rintro((h|h|h|h|h)|h)<;>simp[h]
theorem zH5 {x:Str} {a:NodeAddr} (n:σ.addrs.Nodup) (na:a.all.Nodup) (fr:∀b∈a.all,b∉σ.addrs):(σ.addNode x a).addrs.Nodup:=by
 have:(σ.addNode x a).addrs=σ.addrs++a.all:=by
  simp[Srt.addrs,Srt.addNode,List.flatMap_append,List.append_assoc]
 rw[this,List.nodup_append]
 exact⟨n,na,fun b hb c hc e=>fr c hc (e▸hb)⟩
theorem at_none {x:Str} (e:σ.at x=none):σ.kvs.any (fun kv=>kv.1=x)=false:=by
 unfold Srt.at at e
 rw[List.find?_eq_none]at e
 rw[List.any_eq_false]
 intro kv hkv
 obtain⟨p,hp,rfl⟩:=List.mem_map.mp hkv
 simpa using e p hp
theorem SrtAt.addNode {x:Str} {a:NodeAddr} (Z:SrtAt prog w SC NC h σ) (N:NodeAt NC h ⟨x,0,[]⟩ a) (fr:∀b∈a.all,b∉σ.addrs) (na:a.all.Nodup) (e:σ.at x=none)
 (Db:h'.DictOf (strKind prog w) σ.dn (stored σ.kvs x (.ref a.i))) (sb:∀b o,b≠σ.dn→h.get? b=some o→h'.get? b=some o):SrtAt prog w SC NC h' (σ.addNode x a):=by
 have nd:=Z.apart
 have ndn:∀b∈σ.addrs,b=σ.dn∨∀o,h.get? b=some o→h'.get? b=some o:=fun b _=>by
  by_cases hb:b=σ.dn
  ·exact .inl hb
  ·exact .inr fun o e=>sb b o hb e
 have hso:σ.so≠σ.dn:=by simp[Srt.addrs]at nd;exact nd.1.2.1
 have hdx:σ.dx≠σ.dn:=by simp[Srt.addrs]at nd;exact nd.2.1.1
 have hdn:=(List.nodup_cons.mp (List.nodup_cons.mp (List.nodup_cons.mp nd).2).2).1
 have hre:∀p,σ.ready=some p→p.1≠σ.dn:=by
  intro p hp z
  apply hdn
  rw[hp,←z]
  exact List.mem_append_left _ (List.mem_singleton.mpr rfl)
 have hno:∀p∈σ.nodes,∀b∈p.2.all,b≠σ.dn:=by
  intro p hp b hb z
  exact hdn (List.mem_append_right _ (List.mem_flatMap.mpr ⟨p,hp,z▸hb⟩))
 refine⟨sb _ _ hso Z.inst,?_,?_,?_,?_,zH5 nd na fr,Z.lo⟩
 ·obtain⟨es,n,ed,r⟩:=Z.names
  exact⟨es,n,sb _ _ hdx ed,r⟩
 ·intro p hp
  exact(Z.ready p hp).keep fun o e=>sb _ _ (hre p hp) e
 ·have:(σ.addNode x a).nodes.map (fun p=>(p.1.name,Value.ref p.2.i))=stored σ.kvs x (.ref a.i):=by
   unfold stored
   rw[at_none e]
   simp[Srt.addNode,Srt.kvs]
  show h'.DictOf _ σ.dn _
  rw[this];exact Db
 ·intro p hp
  rcases List.mem_append.mp hp with hp|hp
  ·exact(Z.node p hp).keep fun b hb o e=>sb b o (hno p hp b hb) e
  ·obtain rfl:=List.mem_singleton.mp hp
   refine N.keep fun b hb o e=>sb b o ?_ e
   rintro rfl
   exact fr _ hb (by simp[Srt.addrs])
end
end M36
section P12
section
variable {w:World} {A:Around} {X:List Addr} {h:Heap}
theorem i_keep:keepIn (hd.heap_1 w.params) (.ref 155)=true:=by k_is
theorem zIs {s:Shared} {Q:Value→Shared→Prop} {E:Value→Shared→Prop} {x:Str} {t₀:Tok} {σ:Srt} (S:Stat (hd.heap_1 w.params) (hid σ.addrs s.heap)) (rm:Room A 9) (Z:SOR w s.heap σ) (sub:∀b∈σ.addrs,b∈X) (kx:XOk X s.heap) (few:σ.nodes.length≤1000)
 (hQ:∀σ' p h' tk,Ext (hid σ.addrs s.heap) h'→SOR w h' σ'→σ'.at x=some p→(∀b∈σ'.addrs,b∈σ.addrs∨s.heap.get? b=none)→
  ((σ'=σ∧σ.at x=some p)∨(σ.at x=none∧σ'=σ.addNode x p.2∧p.1=⟨x,0,[]⟩))→(∀b∈σ'.addrs,∃o,h'.get? b=some o)→Q (.ref p.2.i) (sat s h' tk)):
 wpAny (model PR w) A (call (.ref 195) [.ref σ.so, .str x t₀]) Q E s:=by
 have Sg:Stat (hd.heap_1 w.params) s.heap:=S.mono (zAf _ _)
 refine' zBc (X:=X) (n:=8) [("self", .v (.ref σ.so)),("node", .v (.str x t₀))] Sg ?ho ?hcd rm kx ?hb (show(["self","node"]:List Str).Nodup by decide) ?kind ?_ ?hco ?hgen ?hk
 case ho=>k_is
 case hcd=>k_is
 case kind=>rfl
 case hco=>rfl
 case hgen=>rfl
 case hk=>rfl
 case hb=>exact zA1 rfl (.cons rfl (.cons rfl .nil))
 intro L h₁ tk F G
 have F₁:=F.lend sub
 have Z₁:SOR w h₁ σ:=Z.keep fun b _ o e=>F.kg b o e
 obtain⟨es,n,ed,N,a1,a2,a3,a4,a5⟩:=Z₁.names
 have S₁:=Sg.mono F.kg
 walk_at "sh"
 with_reducible refine zAa (wpAny_If (wpAny_isTrue_Compare1 (wpAny_NamedExpr (Call_method1 ?_ ?_ ?_ (EvV.run (h:=h₁) (zCf S₁.k (nmV_ F₁.is) Z₁.inst ed N a1 s_g1 zBm s_f1 ?_ ?_) Ext.rfl fun h₂ tk₂ k₂=> ?_))) ?_))
 ·rfl
 ·rfl
 ·rfl
 ·rfl
 ·rfl
 ·have D₂:=Z₁.dict.keep k₂
  unfold MethodOnS
  with_reducible refine⟨"dict","dict.get",PySem.F.plainAttrs_dict,PySem.F.slot_dict_get,PySem.F.type_dict_get,D₂.typeIs,D₂.mapOf.noDict,wpAny_dict_get1 (knd:=strKind PR w) ?_ (EvV.run (h:=h₁) (nmV_ F₁.is) k₂ fun h₃ tk₃ k₃=>⟨x,valueAt σ.kvs,?_,?_,?_⟩)⟩
  ·exact Z₁.lo
  ·show Value.isStrOf x (.str x t₀)=true
   simp[Value.isStrOf]
  ·exact(Z₁.dict.keep (k₂.trans k₃)).mapOf
  ·rw[zDm]
   have F₃:=F₁.ext (k₂.trans k₃)
   have Z₃:SOR w h₃ σ:=Z₁.keep fun b _ o e=>k₃ _ _ (k₂ _ _ e)
   cases hat:σ.at x with
   |some p=>
    show wpAny _ _ (assign _ _ (.ref p.2.i)) _ _ _
    with_reducible refine wpAny_assign_Name (zAn F₃ stL (b:= .v (.ref p.2.i)) ?_ fun h₄ tk₄ F₄ R₄=>EvV.run (h:=h₄) zBg Ext.rfl fun h₅ tk₅ k₅=>wpAny_is_plain ?_ (wpAny_truthy_bool ?_))
    ·rfl
    ·rfl
    ·rw[if_neg (by simp)]
     have F₅:=F₄.ext k₅
     have Z₅:SOR w h₅ σ:=Z₃.keep fun b hb o e=>k₅ _ _ (F.keeps R₄ (Z.alive b hb) (fun m=>nomatch m) o e)
     refine wpAny_execs_nil ?_
     walk_at "sh"
     with_reducible refine zAa (wpAny_Return_some (EvV.run (h:=h₅) (nmV_ F₅.is) Ext.rfl fun h₆ tk₆ k₆=> ?_))
     exact hQ σ p h₆ tk₆ (F₅.kg.trans k₆) (Z₅.keep fun b _ o e=>k₆ _ _ e) hat (fun b m=> .inl m) (.inl ⟨rfl,hat⟩) (Z₅.keep fun b _ o e=>k₆ _ _ e).alive
   |none=>
    show wpAny _ _ (assign _ _ .none) _ _ _
    with_reducible refine wpAny_assign_Name (zAn F₃ stL (b:= .v .none) ?_ fun h₄ tk₄ F₄ R₄=>EvV.run (h:=h₄) zBg Ext.rfl fun h₅ tk₅ k₅=>wpAny_is_plain ?_ (wpAny_truthy_bool ?_))
    ·rfl
    ·rfl
    ·rw[if_pos (by rfl)]
     have F₅:=F₄.ext k₅
     have Z₅:SOR w h₅ σ:=Z₃.keep fun b hb o e=>k₅ _ _ (F.keeps R₄ (Z.alive b hb) (fun m=>nomatch m) o e)
     have S₅:Stat (hd.heap_1 w.params) h₅:=S.mono F₅.kg
     walk_at "sh"
     with_reducible refine zAa (wpAny_Assign_two (wpAny_Call_ofName (EvV.run (h:=h₅) (zAj S₅ G zJh) Ext.rfl fun h₆ tk₆ k₆=> ?_)) ?_ ?_)
     ·have S₆:=S₅.mono k₆
      show wpAny _ _ (callWith _ (.ref 155) [] _ []) _ _ _
      with_reducible refine callWith_K (K:=hd.heap_1 w.params) (h₀:=h₆) S₆.k i_keep ?_ ?_ ?_
      with_reducible refine wpAny_items_cons (EvV.run (h:=h₅) (nmV_ F₅.is) k₆ fun h₇ tk₇ k₇=>wpAny_items_nil ⟨(S₆.mono k₇).k,?_⟩) ?_
      ·have F₇:=F₅.ext (k₆.trans k₇)
       refine zQa (X:=X) (S₆.mono k₇) (Room.le (rm.deeper _) (by decide)) F₇.kx fun a h₈ tk₈ k₈ N₈ f₈ nd₈=> ?_
       have k58:Ext h₅ h₈:=k₆.trans (k₇.trans k₈)
       have F₈:=F₅.ext k58
       have Z₈:SOR w h₈ σ:=Z₅.keep fun b _ o e=>k58 _ _ e
       have S₈:=S₅.mono k58
       obtain⟨es',n',ed',N',b1,b2,b3,b4,b5⟩:=Z₈.names
       with_reducible refine zHx (EvV.run (h:=h₈) (zCf S₈.k (nmV_ F₈.is) Z₈.inst ed' N' b1 s_g1 zBm s_f1 ?_ ?_) Ext.rfl fun h₉ tk₉ k₉=>EvV.run (h:=h₈) (nmV_ F₈.is) k₉ fun ha tka ka=> ?_)
       ·rfl
       ·rfl
       have Za:SOR w ha σ:=Z₈.keep fun b _ o e=>ka _ _ (k₉ _ _ e)
       refine wpAny_setItem_pairs (knd:=strKind PR w) (k:=x) ?_ Za.dict (fun hb Db sb=> ?_) ?_
       ·show Value.isStrOf x (.str x t₀)=true
        simp[Value.isStrOf]
       ·have Fa:=F₈.ext (k₉.trans ka)
        have hdn:σ.dn∈σ.addrs:=by simp[Srt.addrs]
        obtain⟨od,ho⟩:=Z.alive σ.dn hdn
        obtain⟨oa,_,_,hoa,_,hda,_⟩:=id Za.dict
        have sb':∀b o,b≠σ.dn→ha.get? b=some o→hb.get? b=some o:=fun b o n e=>sb.extBut b o n e
        obtain⟨ob,_,_,hob,_⟩:=id Db
        obtain⟨Fb,Rb,Sb⟩:=Fa.changeAt hdn hoa (F.notL ho) (fun n hn=>by
         obtain⟨u',o',ho',hd'⟩:=Fa.is.cell n σ.dn hn
         rw[show ha.get? σ.dn=_ from hoa]at ho';cases ho';rw[hda]at hd';cases hd') sb' ⟨_,hob⟩
        have fra:∀b∈a.all,b∉σ.addrs:=fun b hb' hm=>by
         obtain⟨o',e'⟩:=(Z₅.keep fun b _ o e=>k₇ _ _ (k₆ _ _ e)).alive b hm
         rw[f₈ b hb']at e';cases e'
        have Zb:SOR w hb (σ.addNode x a):=Za.addNode (N₈.keep fun b _ o e=>ka _ _ (k₉ _ _ e)) fra nd₈ hat Db sb'
        with_reducible refine wpAny_assign_Name (zAn Fb stL (b:= .v (.ref a.i)) ?_ fun hc tkc Fc Rc=> ?_)
        ·rfl
        have Zc:SOR w hc (σ.addNode x a):=Zb.keep fun b hb' o e=>by
         rcases(zCx b).mp hb' with m|m
         ·exact F.keeps Rc (Z.alive b m) (fun m=>nomatch m) o e
         ·have nb:h₇.get? b=none:=f₈ b m
          refine Rc b o (fun m=>nomatch m) ?_ ?_ e
          ·rintro rfl
           obtain⟨mm,oo,_,_,e',_⟩:=F₇.is.ns
           exact nomatch nb.symm.trans e'
          ·intro n _ hn
           obtain⟨u',oo,e',_⟩:=F₇.is.cell n b hn
           exact nomatch nb.symm.trans e'
        refine wpAny_execs_nil ?_
        walk_at "sh"
        with_reducible refine zAa (wpAny_Return_some (EvV.run (h:=hc) (nmV_ Fc.is) Ext.rfl fun hd tkd kd=> ?_))
        have Zd:SOR w hd (σ.addNode x a):=Zc.keep fun b _ o e=>kd _ _ e
        refine hQ (σ.addNode x a) (⟨x,0,[]⟩,a) hd tkd (Fc.kg.trans kd) Zd ?_ ?_ (.inr ⟨hat,rfl,rfl⟩) Zd.alive
        ·show(σ.nodes++[((⟨x,0,[]⟩:Node),a)]).find? _=_
         rw[List.find?_append,show σ.nodes.find? (fun p=>decide (p.1.name=x))=none from hat]
         simp
        ·intro b m
         rcases(zCx b).mp m with m|m
         ·exact .inl m
         ·right
          cases q:s.heap.get? b with
          |none=>rfl
          |some o'=>
           exfalso
           by_cases hm:b∈σ.addrs
           ·exact fra b m hm
           ·have:=k₇ _ _ (k₆ _ _ (F₅.kg _ _ (zAb q hm)))
            rw[f₈ b m]at this;cases this
       ·simp only[List.length_map];unfold sizeLine;omega
      ·rfl
      ·rfl
      ·rfl
     ·rfl
     ·rfl
 ·rfl
end
end P12
section M37
open PySem.Calls
section
variable {prog:Program} {w:World} {SC NC:Addr} {h h' h'':Heap} {σ σ' σ'':Srt} {A:Around} {X M O O':List Addr} {g:Heap} {env:Env} {Γ:List (Str×Bd)}
structure Goes (prog:Program) (w:World) (SC NC:Addr) (h h':Heap) (σ σ':Srt):Prop where
 ext:Ext (hid σ.addrs h) h'
 z:SrtAt prog w SC NC h' σ'
 own:∀b∈σ'.addrs,b∈σ.addrs∨h.get? b=none
 sub:∀b∈σ.addrs,b∈σ'.addrs
 so:σ'.so=σ.so
theorem Goes.grow (Z:SrtAt prog w SC NC h σ) (k:Ext h h'):Goes prog w SC NC h h' σ σ:=⟨(zAf _ _).trans k,Z.keep fun _ _ _ e=>k _ _ e,fun _ m=> .inl m,fun _ m=>m,_root_.rfl⟩
theorem Goes.trans (x:Goes prog w SC NC h h' σ σ') (y:Goes prog w SC NC h' h'' σ' σ''):Goes prog w SC NC h h'' σ σ'':=by
 refine⟨fun b o e=> ?_,y.z,fun b m=> ?_,fun b m=>y.sub b (x.sub b m),y.so.trans x.so⟩
 ·refine y.ext b o (zAb (x.ext b o e) fun m=> ?_)
  rcases x.own b m with m|m
  ·exact zAh e m
  ·rw[zAf _ _ _ _ e]at m;cases m
 ·rcases y.own b m with m|m
  ·exact x.own b m
  ·by_cases q:b∈σ.addrs
   ·exact .inl q
   ·right
    cases e:h.get? b with
    |none=>rfl
    |some o=>rw[x.ext b o (zAb e q)]at m;cases m
theorem Goes.then (x:Goes prog w SC NC h h' σ σ') (k:Ext h' h''):Goes prog w SC NC h h'' σ σ':=x.trans (Goes.grow x.z k)
noncomputable def Off (O:List Addr) (env:Env):Prop:=∀b∈O,b≠env.locals∧∀n,env.cells.lookup n≠some b
theorem Off.goes (F:Fn g X M h env Γ) (f:Off O env) (own:∀b∈O',b∈O∨h.get? b=none):Off O' env:=by
 intro b hb
 rcases own b hb with m|m
 ·exact f b m
 ·constructor
  ·rintro rfl
   obtain⟨m',n⟩:=F.is.ns
   obtain⟨o,_,_,e,_⟩:=n
   rw[e]at m;cases m
  ·intro n hn
   obtain⟨u,o,e,_⟩:=F.is.cell n b hn
   rw[e]at m;cases m
theorem Fn.goes {prog:Program} {w:World} {SC NC:Addr} {σ σ':Srt} (F:Fn g (σ.addrs++X) (σ.addrs++M) h env Γ) (G:Goes prog w SC NC h h' σ σ') (f:Off σ.addrs env):
 Fn g (σ'.addrs++X) (σ'.addrs++M) h' env Γ∧Rel (σ.addrs++M) env h h'∧SExt (hid (σ.addrs++X) h) (hid (σ'.addrs++X) h'):=by
 have kb:∀b o,b∉σ.addrs→h.get? b=some o→h'.get? b=some o:=fun b o n e=>G.ext b o (zAb e n)
 have S:SExt (hid (σ.addrs++X) h) (hid (σ'.addrs++X) h'):=fun b o e _=>by
  have n:=zAh e
  have e':=zAf _ _ _ _ e
  refine zAb (kb b o (fun m=>n (List.mem_append_left _ m)) e') fun m=> ?_
  rcases List.mem_append.mp m with m|m
  ·rcases G.own b m with m|m
   ·exact n (List.mem_append_left _ m)
   ·rw[e']at m;cases m
  ·exact n (List.mem_append_right _ m)
 have kl:env.locals∉σ.addrs:=fun m=>(f _ m).1 _root_.rfl
 have kc:∀n c,env.cells.lookup n=some c→c∉σ.addrs:=fun n c e m=>(f _ m).2 n e
 refine⟨⟨⟨F.is.fn,?_,?_,F.is.inj,?_⟩,?_,F.outL,F.outC,?_,?_,?_⟩,fun b o n _ _ e=>kb b o (fun m=>n (List.mem_append_left _ m)) e,S⟩
 ·obtain⟨m,n⟩:=F.is.ns
  exact⟨m,n.at' fun o e=>kb _ o kl e⟩
 ·intro n c e
  obtain⟨v,o,ho,hd⟩:=F.is.cell n c e
  exact⟨v,o,kb _ _ (kc n c e) ho,hd⟩
 ·intro z b e
  obtain⟨u,su,ru⟩:=F.is.see z b e
  refine⟨u,?_,ru.mono S⟩
  rcases su with⟨q,m,n,em⟩|⟨q,c,ec,o,ho,hd⟩
  ·exact .inl ⟨q,m,n.at' fun o e=>kb _ o kl e,em⟩
  ·exact .inr ⟨q,c,ec,o,kb _ _ (kc z c ec) ho,hd⟩
 ·intro b o e
  refine kb b o (fun m=> ?_) (F.kg b o e)
  rw[F.outM b (List.mem_append_left _ m)]at e;cases e
 ·intro b m
  rcases List.mem_append.mp m with m|m
  ·rcases G.own b m with m|m
   ·exact F.outM b (List.mem_append_left _ m)
   ·cases e:g.get? b with
    |none=>rfl
    |some o=>rw[F.kg b o e]at m;cases m
  ·exact F.outM b (List.mem_append_right _ m)
 ·intro b m
  rcases List.mem_append.mp m with m|m
  ·exact List.mem_append_left _ m
  ·rcases List.mem_append.mp (F.sub b (List.mem_append_right _ m))with m|m
   ·exact List.mem_append_left _ (G.sub b m)
   ·exact List.mem_append_right _ m
 ·intro b m
  rcases List.mem_append.mp m with m|m
  ·exact G.z.alive b m
  ·by_cases q:b∈σ.addrs
   ·exact G.z.alive b (G.sub b q)
   ·obtain⟨o,e⟩:=F.kx b (List.mem_append_right _ m)
    exact⟨o,kb b o q e⟩
noncomputable def Srt.abs (σ:Srt):List Node:=σ.nodes.map (·.1)
noncomputable def ensureN (ns:List Node) (x:Str):List Node:=if ns.any (fun n=>decide (n.name=x))then ns else ns++[⟨x,0,[]⟩]
noncomputable def updN (ns:List Node) (x:Str) (f:Node→Node):List Node:=ns.map fun n=>if n.name=x then f n else n
noncomputable def Srt.upd (σ:Srt) (x:Str) (f:Node→Node):Srt:={σ with nodes:=σ.nodes.map fun p=>if p.1.name=x then(f p.1,p.2)else p}
theorem upd_addrs {x:Str} {f:Node→Node}:(σ.upd x f).addrs=σ.addrs:=by
 have:(fun a:Node×NodeAddr=>(if a.1.name=x then(f a.1,a.2)else a).2.all)=fun p=>p.2.all:=by
  funext p;split<;>rfl
 simp only[Srt.addrs,Srt.upd,List.flatMap_map,this]
theorem zDi {x:Str} {f:Node→Node}:(σ.upd x f).abs=updN σ.abs x f:=by
 simp only[Srt.abs,Srt.upd,updN,List.map_map]
 congr 1
 funext p
 simp only[Function.comp]
 split<;>rfl
theorem zJx {x:Str} {a:NodeAddr} (e:σ.at x=none):(σ.addNode x a).abs=ensureN σ.abs x:=by
 have:σ.abs.any (fun n=>decide (n.name=x))=false:=by
  rw[List.any_eq_false]
  intro n hn
  obtain⟨p,hp,rfl⟩:=List.mem_map.mp hn
  unfold Srt.at at e
  rw[List.find?_eq_none]at e
  simpa using e p hp
 rw[ensureN,this]
 simp[Srt.abs,Srt.addNode]
theorem at_abs {x:Str} {p:Node×NodeAddr} (e:σ.at x=some p):ensureN σ.abs x=σ.abs:=by
 have:σ.abs.any (fun n=>decide (n.name=x))=true:=by
  rw[List.any_eq_true]
  refine⟨p.1,List.mem_map_of_mem (List.mem_of_find?_eq_some e),?_⟩
  exact List.find?_some (p:=fun p:Node×NodeAddr=>decide (p.1.name=x)) e
 rw[ensureN,this];rfl
theorem zBb {x:Str} {p:Node×NodeAddr} (e:σ.at x=some p):p∈σ.nodes∧p.1.name=x:=⟨List.mem_of_find?_eq_some e,by simpa using List.find?_some (p:=fun p:Node×NodeAddr=>decide (p.1.name=x)) e⟩
theorem zOl {α β:Type} {f:α→β}:∀{l:List α},(l.map f).Nodup→∀{p q:α},p∈l→q∈l→f p=f q→p=q
 | [],_,_,_,hp,_,_=>nomatch hp
 |a::l,n,p,q,hp,hq,e=>by
  rw[List.map_cons,List.nodup_cons]at n
  rcases List.mem_cons.mp hp with h1|h1
  ·rcases List.mem_cons.mp hq with h2|h2
   ·rw[h1,h2]
   ·exact absurd (List.mem_map.mpr ⟨q,h2,by rw[←e,h1]⟩) n.1
  ·rcases List.mem_cons.mp hq with h2|h2
   ·exact absurd (List.mem_map.mpr ⟨p,h1,by rw[e,h2]⟩) n.1
   ·exact zOl n.2 h1 h2 e
theorem SrtAt.uniq (Z:SrtAt prog w SC NC h σ) {p q:Node×NodeAddr} (hp:p∈σ.nodes) (hq:q∈σ.nodes) (e:p.1.name=q.1.name):p=q:=by
 obtain⟨_,_,_,_,_,_,_,_,nd⟩:=Z.dict
 rw[List.map_map]at nd
 exact zOl nd hp hq e
theorem zG5 {α β:Type} {f:α→List β}:∀{l:List α},(l.flatMap f).Nodup→∀{p q:α},p∈l→q∈l→p≠q→∀b,b∈f p→b∉f q
 | [],_,_,_,hp,_,_,_,_=>nomatch hp
 |a::l,n,p,q,hp,hq,ne,b,hb=>by
  rw[List.flatMap_cons,List.nodup_append]at n
  obtain⟨_,n2,n3⟩:=n
  intro hb'
  rcases List.mem_cons.mp hp with h1|h1
  ·rcases List.mem_cons.mp hq with h2|h2
   ·exact ne (h1.trans h2.symm)
   ·exact n3 b (h1▸hb) b (List.mem_flatMap.mpr ⟨q,h2,hb'⟩) rfl
  ·rcases List.mem_cons.mp hq with h2|h2
   ·exact n3 b (h2▸hb') b (List.mem_flatMap.mpr ⟨p,h1,hb⟩) rfl
   ·exact zG5 n2 h1 h2 ne b hb hb'
theorem SrtAt.apart_nodes (Z:SrtAt prog w SC NC h σ) {p q:Node×NodeAddr} (hp:p∈σ.nodes) (hq:q∈σ.nodes) (ne:p≠q):∀b∈p.2.all,b∉q.2.all:=by
 have nd:=Z.apart
 have n4:=(List.nodup_append.mp (List.nodup_cons.mp (List.nodup_cons.mp (List.nodup_cons.mp nd).2).2).2).2.1
 exact zG5 n4 hp hq ne
theorem SrtAt.apart_node (Z:SrtAt prog w SC NC h σ) {p:Node×NodeAddr} (hp:p∈σ.nodes) {b:Addr} (hb:b∈p.2.all):b≠σ.so∧b≠σ.dx∧b≠σ.dn∧∀r,σ.ready=some r→b≠r.1:=by
 have nd:=Z.apart
 have hf:b∈σ.nodes.flatMap fun p=>p.2.all:=List.mem_flatMap.mpr ⟨p,hp,hb⟩
 have n1:=List.nodup_cons.mp nd
 have n2:=List.nodup_cons.mp n1.2
 have n3:=List.nodup_cons.mp n2.2
 have n4:=List.nodup_append.mp n3.2
 refine⟨?_,?_,?_,?_⟩
 ·rintro rfl;exact n1.1 (List.mem_cons_of_mem _ (List.mem_cons_of_mem _ (List.mem_append_right _ hf)))
 ·rintro rfl;exact n2.1 (List.mem_cons_of_mem _ (List.mem_append_right _ hf))
 ·rintro rfl;exact n3.1 (List.mem_append_right _ hf)
 ·rintro r hr rfl
  exact n4.2.2 r.1 (by rw[hr];exact List.mem_singleton.mpr rfl) r.1 hf rfl
theorem SrtAt.upd {x:Str} {p:Node×NodeAddr} {f:Node→Node} (Z:SrtAt prog w SC NC h σ) (e:σ.at x=some p) (hf:∀n,(f n).name=n.name) (N:NodeAt NC h' (f p.1) p.2)
 (sb:∀b o,b∉p.2.all→h.get? b=some o→h'.get? b=some o):SrtAt prog w SC NC h' (σ.upd x f):=by
 obtain⟨hp,hx⟩:=zBb e
 have ap:=fun b (hb:b∈p.2.all)=>Z.apart_node hp hb
 refine⟨sb _ _ (fun m=>(ap _ m).1 rfl) Z.inst,?_,?_,?_,?_,?_,Z.lo⟩
 ·obtain⟨es,n,ed,r⟩:=Z.names
  exact⟨es,n,sb _ _ (fun m=>(ap _ m).2.1 rfl) ed,r⟩
 ·intro r hr
  exact(Z.ready r hr).keep fun o e=>sb _ _ (fun m=>(ap _ m).2.2.2 r hr rfl) e
 ·have:(σ.upd x f).nodes.map (fun p=>(p.1.name,Value.ref p.2.i))=σ.nodes.map fun p=>(p.1.name,Value.ref p.2.i):=by
   simp only[Srt.upd,List.map_map]
   congr 1
   funext q
   simp only[Function.comp]
   split
   ·simp[hf]
   ·rfl
  show h'.DictOf _ σ.dn _
  rw[this]
  exact Z.dict.at fun o e=>sb _ _ (fun m=>(ap _ m).2.2.1 rfl) e
 ·intro q hq
  obtain⟨q₀,hq₀,rfl⟩:=List.mem_map.mp hq
  split
  ·rename_i hn
   have:q₀=p:=Z.uniq hq₀ hp (hn.trans hx.symm)
   subst this
   exact N
  ·rename_i hn
   have ne:q₀≠p:=fun z=>hn (z▸hx)
   exact(Z.node q₀ hq₀).keep fun b hb o e=>sb b o (Z.apart_nodes hq₀ hp ne b hb) e
 ·rw[upd_addrs];exact Z.apart
theorem Goes.upd {x:Str} {p:Node×NodeAddr} {f:Node→Node} (Z:SrtAt prog w SC NC h σ) (e:σ.at x=some p) (hf:∀n,(f n).name=n.name) (N:NodeAt NC h' (f p.1) p.2)
 (sb:∀b o,b∉p.2.all→h.get? b=some o→h'.get? b=some o):Goes prog w SC NC h h' σ (σ.upd x f):=by
 refine⟨fun b o e'=> ?_,Z.upd e hf N sb,fun b m=> .inl (by rw[upd_addrs]at m;exact m),fun b m=>by rw[upd_addrs];exact m,_root_.rfl⟩
 refine sb b o (fun m=>zAh e' ?_) (zAf _ _ _ _ e')
 simp only[Srt.addrs,List.mem_cons,List.mem_append,List.mem_flatMap]
 exact .inr (.inr (.inr (.inr ⟨p,(zBb e).1,m⟩)))
theorem zLb {x:Str} {f:Node→Node} (hf:∀n,(f n).name=n.name) (y:Str):(σ.upd x f).at y=(σ.at y).map fun p=>if p.1.name=x then(f p.1,p.2)else p:=by
 unfold Srt.at Srt.upd
 rw[List.find?_map]
 congr 1
 congr 1
 funext p
 simp only[Function.comp]
 split
 ·simp[hf]
 ·rfl
end
end M37
section M38
open PySem.Calls
section
variable {prog:Program} {w:World} {SC NC:Addr} {h h' h'':Heap} {σ σ' σ'':Srt} {A:Around} {X M O O':List Addr} {g:Heap} {env:Env} {Γ:List (Str×Bd)}
theorem SrtAt.kinds (x:SrtAt prog w SC NC h σ):∀b∈σ.addrs,∃o,h.get? b=some o∧((∃es n,o.data= .dict es n)∨(∃xs n,o.data= .seq xs n)∨o.data= .plain):=by
 intro b hb
 simp only[Srt.addrs,List.mem_cons,List.mem_append,List.mem_flatMap]at hb
 rcases hb with rfl|rfl|rfl|hb|⟨p,hp,hb⟩
 ·exact⟨_,x.inst, .inr (.inr rfl)⟩
 ·obtain⟨es,n,e,_⟩:=x.names;exact⟨_,e, .inl ⟨_,_,rfl⟩⟩
 ·obtain⟨o,_,_,e,_,hd,_⟩:=x.dict;exact⟨_,e, .inl ⟨_,_,hd⟩⟩
 ·cases hr:σ.ready with
  |none=>rw[hr]at hb;cases hb
  |some p=>
   rw[hr]at hb
   obtain rfl:=List.mem_singleton.mp hb
   obtain⟨ps,⟨n,e⟩,_⟩:=x.ready p hr
   exact⟨_,e, .inr (.inl ⟨_,_,rfl⟩)⟩
 ·obtain⟨⟨_,_,e1⟩,e2,ps,⟨n,e3⟩,_⟩:=x.node p hp
  simp only[NodeAddr.all,List.mem_cons,List.not_mem_nil,or_false]at hb
  rcases hb with rfl|rfl|rfl
  ·exact⟨_,e1, .inr (.inr rfl)⟩
  ·exact⟨_,e2, .inl ⟨_,_,rfl⟩⟩
  ·exact⟨_,e3, .inr (.inl ⟨_,_,rfl⟩)⟩
theorem Off.enter (F:Fn g X M h env Γ) (Z₀:SrtAt prog w SC NC g σ) (Z:SrtAt prog w SC NC h σ):Off σ.addrs env:=by
 intro b hb
 constructor
 ·rintro rfl
  obtain⟨o,e⟩:=Z₀.alive _ hb
  have:=F.outL
  rw[e]at this;cases this
 ·intro n hn
  obtain⟨u,o',ho,hd⟩:=F.is.cell n b hn
  obtain⟨o,e,k⟩:=Z.kinds b hb
  rw[e]at ho;cases ho
  rcases k with⟨_,_,k⟩|⟨_,_,k⟩|k<;>rw[k]at hd<;>cases hd
theorem Fn.lendS (F:Fn g (σ.addrs++[]) [] h env Γ):Fn (hid σ.addrs g) (σ.addrs++[]) (σ.addrs++[]) h env Γ:=by
 have:=F.lend (O:=σ.addrs) (fun b m=>List.mem_append_left _ m)
 rw[List.append_nil]at this⊢
 exact this
theorem Off.keep {b:Addr} {M':List Addr} (f:Off O env) (hb:b∈O) (R:Rel M' env h h') (n:b∉M'):∀o,h.get? b=some o→h'.get? b=some o:=fun o e=>R b o n (f b hb).1 (fun m _=>(f b hb).2 m) e
theorem SrtAt.rel {M':List Addr} (Z:SrtAt prog w SC NC h σ) (f:Off σ.addrs env) (R:Rel M' env h h') (n:∀b∈σ.addrs,b∉M'):SrtAt prog w SC NC h' σ:=Z.keep fun b hb o e=>f.keep hb R (n b hb) o e
theorem SrtAt.poke {it:Addr} (Z:SrtAt prog w SC NC h σ) (p:Poke it h h') (n:it∉σ.addrs):SrtAt prog w SC NC h' σ:=Z.keep fun b hb o e=>p.keep b o (by rintro rfl;exact n hb) e
theorem zGg {O₀:List Addr} {x:Str} {px pos:Pos} {iter:Expr} {body orelse:List Stmt} {ds:List PyData} {s:Shared} {E:Value→Shared→Prop} {Q:Flow→Shared→Prop} (src:Src prog w A (O₀++X) s.heap (eval iter env) ds)
 (Γ:Nat→List (Str×Bd)) (J:Nat→List Addr→Heap→Prop) (F:Fn g (O₀++X) (O₀++M) s.heap env (Γ 0)) (j:∀h',Ext s.heap h'→J 0 O₀ h') (hx:Stores env x)
 (pk:∀i O h h' it,Fn g (O++X) (O++M) h env (Γ i)→J i O h→it∉O→it∉X→Poke it h h'→J i O h')
 (sk:∀i O h h',Fn g (O++X) (O++M) h env (Γ i)→J i O h→Rel [] env h h'→J i O h')
 (turn:∀i d O (s':Shared) E',ds[i]? =some d→Fn g (O++X) (O++M) s'.heap env ((x, .d d)::Γ i)→J i O s'.heap→
  wpAny (model prog w) A (execs body env) (fun fl s''=>match fl with
   | .next| .cont=>∃h' tk,s''=(sat s' h' tk)∧Turned g X M env (Γ (i+1)) (J (i+1)) O s'.heap h'
   | .brk=>Q .next s''
   | .ret v=>Q (.ret v) s'') E' s')
 (done:∀O h' tk E',Fn g (O++X) (O++M) h' env (Γ ds.length)→J ds.length O h'→Rel (O₀++M) env s.heap h'→wpAny (model prog w) A (execs orelse env) Q E' (sat s h' tk))
 (hs:autoParam (∀x,foldedSetIterable iter env x=pure x) aS):wpAny (model prog w) A (exec (.For (.Name x px) iter body orelse pos) env) Q E s:=by
 refine wpAny_For (src s _ _ Ext.rfl F.kx fun v h₁ tk₁ k₁ it=>it _ _ fun o fp P St S no=> ?_) hs
 refine zH4 (O₀:=O₀) (X:=X) (M:=M) S rfl Γ J (F.ext k₁) (j _ (k₁.trans (Ext.push _ _))) hx no pk sk ?_ ?_
 ·intro i d O s' _ hd F' j
  refine wpAny_mono (turn i d O s' _ hd F' j) (fun fl s'' q=> ?_) fun _ _ e=>e
  cases fl with
  |next=>exact q
  |cont=>exact q
  |brk=>exact q
  |ret v=>exact q
 ·intro O h' tk F' j r
  exact done O h' tk _ F' j (k₁.rel.trans r)
noncomputable def Srt.rest (σ:Srt):Option (Addr×List Str)×Int×Int:=(σ.ready,σ.passed,σ.finished)
theorem zK9 {x:Str} {f:Node→Node}:(σ.upd x f).rest=σ.rest:=rfl
theorem NodeAddr.ne {p:Node×NodeAddr} (Z:SrtAt prog w SC NC h σ) (hp:p∈σ.nodes):p.2.d≠p.2.i∧p.2.l≠p.2.i∧p.2.d≠p.2.l:=by
 have nd:=Z.apart
 have n4:=(List.nodup_append.mp (List.nodup_cons.mp (List.nodup_cons.mp (List.nodup_cons.mp nd).2).2).2).2.1
 have:p.2.all.Nodup:=by
  obtain⟨l1,l2,e⟩:=List.append_of_mem hp
  rw[e,List.flatMap_append,List.flatMap_cons,List.nodup_append]at n4
  exact(List.nodup_append.mp n4.2.1).1
 simp[NodeAddr.all]at this
 exact⟨Ne.symm this.1.1,Ne.symm this.1.2,this.2⟩
end
end M38
section P13
section
variable {w:World} {A:Around} {X M:List Addr} {h h':Heap} {g:Heap} {env:Env} {Γ:List (Str×Bd)}
noncomputable abbrev GO (w:World) (h h':Heap) (σ σ':Srt):Prop:=Goes PR w 252 155 h h' σ σ'
noncomputable def sNames:List Str:=["_node2info","_ready_nodes","_npassedout","_nfinished"]
theorem zEf {s:Shared} {Q:Value→Shared→Prop} {E:Value→Shared→Prop} {o e:Expr} {name:Str} {apos pos:Pos} {f:Addr} {d:PyData} {σ:Srt} (S:Stat (hd.heap_1 w.params) s.heap) (kx:XOk X s.heap)
 (hx:EvV PR w A s.heap (eval o env) (.ref σ.so)) (Z:SOR w s.heap σ) (ha:Ev PR w A X s.heap (eval e env) d)
 (h:∀v h' tk,Ext s.heap h'→Rd (hid X h') d v→wpAny (model PR w) A (call (.ref f) [.ref σ.so,v]) Q E (sat s h' tk))
 (hnm:name∉sNames) (hg:plainGet (hd.heap_1 w.params) 252 name=true) (hf:findIn (hd.heap_1 w.params) (.ref 252) name=some (some (.ref f))) (ht:isFn (hd.heap_1 w.params) (.ref f)=true) (hk:keepIn (hd.heap_1 w.params) (.ref f)=true)
 {pl:Sem Bool}
 (he:autoParam (eval (.Call (.Attribute o name apos) [e] [] pos) env=(do
  let ov←eval o env
  standAt apos.atName
  let(f,first)←holding [ov] (getMethod ov name pl)
  callWith pos f first (backTo pos (starEach [e] env)) [])) aR)
 (he1:autoParam (starEach [e] env=(false,eval e env)::starEach [] env) aR):
 wpAny (model PR w) A (eval (.Call (.Attribute o name apos) [e] [] pos) env) Q E s:=by
 refine MethodCall_ (EvV.run hx Ext.rfl fun h₁ tk₁ k₁=> ?_) he
 have S₁:=S.mono k₁
 have Z₁:SOR w h₁ σ:=Z.keep fun b _ o e=>k₁ _ _ e
 obtain⟨es,n,ed,N,a1,a2,a3,a4,a5⟩:=Z₁.names
 refine zFv (s:=(sat s h₁ tk₁)) S₁.k (instAt Z₁.inst ed) hg hf ht (by rw[zCj N];exact congrArg some (a5 name hnm)) ?_
 refine callWith_K (K:=hd.heap_1 w.params) (h₀:=h₁) S₁.k hk ?_ he1 rfl
 refine wpAny_items_cons (Ev.run ha k₁ (kx.ext k₁) fun v h₂ tk₂ k₂ r₂=>wpAny_items_nil ⟨(S₁.mono k₂).k,?_⟩) he1
 exact h v h₂ tk₂ (k₁.trans k₂) r₂
theorem zO3 {MM:Model} {s:Shared} {Q:Value→Shared→Prop} {E:Value→Shared→Prop} {n:Node} {a:NodeAddr} (hm:MM=model PR w) (S:Stat (hd.heap_1 w.params) s.heap) (N:NodeAt 155 s.heap n a) (hq:∀t tk,Q (.int n.np t) {s with toks:=tk}):
 wpAny MM A (getAttr (.ref a.i) "npredecessors" true) Q E s:=by
 subst hm
 obtain⟨⟨t₁,t₂,e⟩,e2,l⟩:=N
 exact zIu S.k (instAt e e2) i_g2 zJv i_f2 i_n2 i_k2 i_s2 rfl rfl (hq t₂)
theorem zE6 {s:Shared} {Q:Unit→Shared→Prop} {E:Value→Shared→Prop} {n:Node} {a:NodeAddr} {i:Int} {t:Tok} (S:Stat (hd.heap_1 w.params) s.heap) (N:NodeAt 155 s.heap n a) (n1:a.d≠a.i) (n2:a.l≠a.i)
 (hq:∀h' tk,NodeAt 155 h' {n with np:=i} a→(∀b o,b≠a.i→s.heap.get? b=some o→h'.get? b=some o)→Q () (sat s h' tk)):
 wpAny (model PR w) A (setAttr (.ref a.i) "npredecessors" (.int i t)) Q E s:=by
 obtain⟨⟨t₁,t₂,e⟩,e2,l⟩:=N
 refine zHi S.k (instAt e e2) zPj zKr i_t2 i_T2 i_s2 (by decide) (ox':=⟨.ref 155,some a.d, .plain, #[some (.str n.name t₁),some (.int i t),some (.ref a.l)]⟩) rfl rfl fun h' tk q sb=> ?_
 exact hq h' tk ⟨⟨t₁,t,q⟩,sb _ _ n1 e2,l.keep fun o e=>sb _ _ n2 e⟩ sb
theorem Goes.np {h h':Heap} {σ:Srt} {x:Str} {p:Node×NodeAddr} {i:Int} (Z:SOR w h σ) (e:σ.at x=some p) (N:NodeAt 155 h' {p.1 with np:=i} p.2) (sb:∀b o,b≠p.2.i→h.get? b=some o→h'.get? b=some o) (f:Node→Node) (hf:∀n,(f n).name=n.name) (hi:f p.1={p.1 with np:=i}):
 GO w h h' σ (σ.upd x f):=Goes.upd Z e hf (hi▸N) fun b o hb e=>sb b o (fun z=>hb (by simp[NodeAddr.all,z])) e
theorem zDx {s:Shared} {Q:Value→Shared→Prop} {E:Value→Shared→Prop} {x:Str} {t₀:Tok} {σ:Srt} (S:Stat (hd.heap_1 w.params) (hid σ.addrs s.heap)) (rm:Room A 9) (Z:SOR w s.heap σ) (few:σ.nodes.length≤1000)
 (hQ:∀σ' p h' tk,GO w s.heap h' σ σ'→σ'.at x=some p→σ'.abs=ensureN σ.abs x→σ'.rest=σ.rest→Q (.ref p.2.i) (sat s h' tk)):
 wpAny (model PR w) A (call (.ref 195) [.ref σ.so, .str x t₀]) Q E s:=by
 refine zIs (X:=σ.addrs) S rm Z (fun _ m=>m) (fun b m=>Z.alive b m) few fun σ' p h' tk k Z' at' own how al=> ?_
 rcases how with⟨rfl,e⟩|⟨e,rfl,_⟩
 ·exact hQ _ p h' tk ⟨k,Z',own,fun _ m=>m,rfl⟩ e (at_abs e).symm rfl
 ·exact hQ _ p h' tk ⟨k,Z',own,fun b m=>(zCx b).mpr (.inl m),rfl⟩ at' (zJx e) rfl
end
end P13
section P14
section
variable {w:World} {A:Around} {X M:List Addr} {h h':Heap} {g:Heap} {env:Env} {Γ:List (Str×Bd)}
theorem s_gm1:plainGet (hd.heap_1 w.params) 252 "_get_nodeinfo"=true:=by k_is
theorem s_km1:keepIn (hd.heap_1 w.params) (.ref 195)=true:=by k_is
theorem s_g2:plainGet (hd.heap_1 w.params) 252 "_ready_nodes"=true:=by k_is
theorem s_g3:plainGet (hd.heap_1 w.params) 252 "_npassedout"=true:=by k_is
theorem s_g4:plainGet (hd.heap_1 w.params) 252 "_nfinished"=true:=by k_is
theorem Goes.hidden {σ σ':Srt} (G:GO w h h' σ σ'):Ext (hid σ.addrs h) (hid σ'.addrs h'):=fun b o e=>zAb (G.ext b o e) fun m=>by
 rcases G.own b m with m|m
 ·exact zAh e m
 ·rw[zAf _ _ _ _ e]at m;cases m
noncomputable def Few (ns:List Node) (k:Nat):Prop:=ns.length≤k∧∀n∈ns,n.succ.length≤k
theorem Few.le {ns:List Node} {k m:Nat} (f:Few ns k) (h:k≤m):Few ns m:=⟨Nat.le_trans f.1 h,fun n hn=>Nat.le_trans (f.2 n hn) h⟩
theorem Few.ensure {ns:List Node} {k:Nat} (f:Few ns k) (x:Str):Few (ensureN ns x) (k+1):=by
 unfold ensureN
 split
 ·exact f.le (Nat.le_succ _)
 ·refine⟨by simp;exact f.1,fun n hn=> ?_⟩
  rcases List.mem_append.mp hn with hn|hn
  ·exact Nat.le_succ_of_le (f.2 n hn)
  ·obtain rfl:=List.mem_singleton.mp hn;simp
theorem Few.upd {ns:List Node} {k:Nat} (f:Few ns k) (x:Str) (u:Node→Node) (hu:∀n,(u n).succ.length≤n.succ.length+1):Few (updN ns x u) (k+1):=by
 unfold updN
 refine⟨by simp;exact Nat.le_succ_of_le f.1,fun n hn=> ?_⟩
 obtain⟨m,hm,rfl⟩:=List.mem_map.mp hn
 have:=f.2 m hm
 split
 ·have:=hu m;omega
 ·omega
theorem zKi {σ:Srt}:σ.abs.length=σ.nodes.length:=by simp[Srt.abs]
theorem Few.at {σ:Srt} {k:Nat} (f:Few σ.abs k) {x:Str} {p:Node×NodeAddr} (e:σ.at x=some p):p.1.succ.length≤k:=f.2 _ (List.mem_map_of_mem (zBb e).1)
noncomputable def addSucc (x:Str) (n:Node):Node:={n with succ:=n.succ++[x]}
noncomputable def addNp (i:Int) (n:Node):Node:={n with np:=n.np+i}
noncomputable def addStep (x:Str) (ns:List Node) (y:Str):List Node:=updN (ensureN ns y) y (addSucc x)
noncomputable def addN (ns:List Node) (x:Str) (ys:List Str):List Node:=ys.foldl (addStep x) (updN (ensureN ns x) x (addNp ys.length))
theorem zGq {s:Shared} {Q:Flow→Shared→Prop} {E:Value→Shared→Prop} {σ:Srt} {x y:Str} {p:Node×NodeAddr} {o e:Expr} {ap apos cpos epos:Pos}
 (S:Stat (hd.heap_1 w.params) s.heap) (Z:SOR w s.heap σ) (hat:σ.at y=some p) (kx:XOk X s.heap) (ho:EvV PR w A s.heap (eval o env) (.ref p.2.i)) (ha:Ev PR w A X s.heap (eval e env) (.str x)) (hsz:p.1.succ.length≤10000)
 (hQ:∀h' tk,GO w s.heap h' σ (σ.upd y (addSucc x))→Q .next (sat s h' tk))
 (hi:autoParam (interactive env=false) aR) (hs:autoParam (swapsWith (.Call (.Attribute (.Attribute o "successors" ap) "append" apos) [e] [] cpos) none epos.line env=pure false) aR)
 (hbase:autoParam (attributeBase (.Attribute o "successors" ap) "append" env (eval (.Attribute o "successors" ap) env)=eval (.Attribute o "successors" ap) env) aR) (hst:autoParam (starEach [e] env=[(false,eval e env)]) aR) (hline:autoParam ((apos.endLine==cpos.line)=true) aR)
 (he:autoParam (eval (.Attribute o "successors" ap) env=(do
  let o'←eval o env
  standAt ap.atName
  let r←holding [o'] (getAttr o' "successors" true)
  letTemporaryGo o o' r
  pure r)) aR):
 wpAny (model PR w) A (exec (.Expr (.Call (.Attribute (.Attribute o "successors" ap) "append" apos) [e] [] cpos) epos) env) Q E s:=by
 refine wpAny_Expr ?_ hi hs
 refine wpAny_Call_append hbase (by rw[hst];rfl) hline (by rw[hst];rfl) ?_
 obtain⟨hp,hx⟩:=zBb hat
 have N:=Z.node p hp
 obtain⟨⟨t₁,t₂,e1⟩,e2,l⟩:=id N
 refine EvV.run (zDe (A:=A) S.k ho e1 e2 rfl i_g3 zJv i_f3 i_n3 i_k3 i_s3 rfl he) Ext.rfl fun h₁ tk₁ k₁=> ?_
 obtain⟨ps,⟨n₀,pl⟩,eps⟩:=l
 refine⟨p.2.l,_,rfl,⟨_,n₀,k₁ _ _ pl,rfl,rfl,rfl⟩,Ev.run ha k₁ (kx.ext k₁) fun v h₂ tk₂ k₂ r₂=> ?_⟩
 obtain⟨t,rfl⟩:=r₂.str_inv
 have k:=k₁.trans k₂
 have len:ps.length=p.1.succ.length:=by rw[←eps];simp
 have szz:(strValues ps).toArray.size≤sizeLine:=by
  simp only[strValues,List.size_toArray,List.length_map];unfold sizeLine;omega
 refine wpAny_list_append_plain (hsz:=szz) (s:=(sat s h₂ tk₂)) ⟨n₀,k _ _ pl⟩ fun h₃ pl₃ sb=> ?_
 have ne:=NodeAddr.ne Z hp
 have sb':∀b o,b≠p.2.l→h₂.get? b=some o→h₃.get? b=some o:=fun b o n e=>sb.extBut b o n e
 refine hQ h₃ tk₂ ((Goes.grow Z k).trans (Goes.upd (Z.keep fun b _ o e=>k _ _ e) hat (fun _=>rfl) ⟨⟨t₁,t₂,sb' _ _ (Ne.symm ne.2.1) (k _ _ e1)⟩,sb' _ _ ne.2.2 (k _ _ e2),ps++[(x,t)],?_,by simp[addSucc,eps]⟩ fun b o hb e=>sb' b o (fun z=>hb (by simp[NodeAddr.all,z])) e))
 simpa[strValues]using pl₃
end
end P14
section P15
section
variable {w:World} {A:Around} {X M:List Addr} {h h':Heap} {g:Heap} {env:Env} {Γ:List (Str×Bd)}
theorem zI9 {prog:Program} {xs:List PyData} (hs:xs.length<2 ^ 62):CallIs prog w A X h (.builtin "len") [.tuple xs] (.int xs.length):=by
 intro s vs Q E k kx r hQ
 obtain⟨v,rfl,rv⟩:=r.one
 obtain⟨l,ys,rfl,il,rl⟩:=rv.tuple_inv
 have e:ys.size=xs.length:=by simpa using rl.length
 refine PyProof.Rows.len_tuple (IsTuple.le il) (by omega) ?_
 rw[e]
 exact hQ _ s.heap _ Ext.rfl (Rd.int _ _)
theorem Few.step {ns:List Node} {k:Nat} (f:Few ns k) (x y:Str):Few (addStep x ns y) (k+2):=(f.ensure y).upd y (addSucc x) fun n=>by simp[addSucc]
theorem Few.fold (x:Str):∀(ys:List Str) {ns:List Node} {k:Nat},Few ns k→Few (ys.foldl (addStep x) ns) (k+2 * ys.length)
 | [],_,_,f=>f
 |y::ys,_,_,f=>by
  have:=Few.fold x ys (f.step x y)
  simp only[List.foldl_cons,List.length_cons]
  exact this.le (by omega)
noncomputable def addBase (ns:List Node) (x:Str) (k:Nat):List Node:=updN (ensureN ns x) x (addNp k)
theorem Few.base {ns:List Node} {k:Nat} (f:Few ns k) (x:Str) (j:Nat):Few (addBase ns x j) (k+2):=(f.ensure x).upd x (addNp j) fun n=>by simp[addNp]
inductive AddAt (w:World) (g:Heap) (σ:Srt) (env:Env) (ns:List Node):List Addr→Heap→Prop
 |mk {h:Heap} (σ':Srt) (Z:SOR w h σ') (own:∀b∈σ'.addrs,b∈σ.addrs∨g.get? b=none) (sub:∀b∈σ.addrs,b∈σ'.addrs) (so:σ'.so=σ.so) (ab:σ'.abs=ns) (re:σ'.rest=σ.rest) (off:Off σ'.addrs env):AddAt w g σ env ns σ'.addrs h
theorem Rel.grown {M M':List Addr} {h₁ h₂:Heap} (R₁:Rel M env h h₁) (own:∀b∈M',b∈M∨h.get? b=none) (R₂:Rel M' env h₁ h₂):Rel M env h h₂:=
 fun b o n nl nc e=>R₂ b o (fun m=>(own b m).elim n (fun q=>by rw[e]at q;cases q)) nl nc (R₁ b o n nl nc e)
noncomputable abbrev Fn.en (_:Fn g X M h env Γ):Env:=env
theorem zB1 {M:Model} {E:Value→Shared→Prop} {s:Shared} {x:Str} {px pos:Pos} {e:Expr} {Q:Flow→Shared→Prop} (h:wpAny M A (eval e env) (fun v s₁=>wpAny M A (storeName env x v) (fun _=>Q .next) E s₁) E s)
 (hs:autoParam (swapsWith e (some (.Name x px)) pos.line env=pure false) aR):wpAny M A (exec (.Assign [.Name x px] e pos) env) Q E s:=wpAny_Assign_Name h hs
theorem len_ev {h:Heap} {xs:List PyData} {e:Expr} {np pos:Pos} {f:Str} (hf:EvV PR w A h (eval (.Name f np) env) (.builtin "len")) (ha:Ev PR w A X h (eval e env) (.tuple xs)) (hs:xs.length<2 ^ 62)
 (he:autoParam (starEach [e] env=(false,eval e env)::starEach [] env) aR):Ev PR w A X h (eval (.Call (.Name f np) [e] [] pos) env) (.int xs.length):=
 zA3 hf (zAc ha zAg he) (zI9 hs) he
noncomputable abbrev aG (so:Addr) (x:Str) (t:Tok) (ps:List Str):List (Str×Bd):=[("self", .v (.ref so)),("node", .v (.str x t)),("predecessors", .d (.tuple (ps.map .str)))]
theorem zPs {s:Shared} {R:Result→Shared→Prop} {x:Str} {t₀:Tok} {ps:List (Str×Tok)} {σ:Srt} (S:Stat (hd.heap_1 w.params) (hid σ.addrs s.heap)) (rm:Room A 12) (Z:SOR w s.heap σ) (hr:σ.ready=none)
 (few:Few σ.abs 800) (fp:ps.length≤50)
 (hQ:∀σ' h' tk,GO w s.heap h' σ σ'→σ'.abs=addN σ.abs x (ps.map (·.1))→σ'.rest=σ.rest→R (.ok (.ret .none)) (sat s h' tk)):
 codeAny (model PR w) A (.call (.ref 202) ⟨.ref σ.so:: .str x t₀::strValues ps,[]⟩) R s:=by
 have Sg:Stat (hd.heap_1 w.params) s.heap:=S.mono (zAf _ _)
 have kx:XOk (σ.addrs++[]) s.heap:=fun b m=>Z.alive b (by simpa using m)
 refine' zE3 (X:=σ.addrs++[]) (n:=11) [("self", .v (.ref σ.so)),("node", .v (.str x t₀)),("predecessors", .d (.tuple ((ps.map (·.1)).map .str)))] Sg ?ho ?hcd rm kx ?hb (show(["self","node","predecessors"]:List Str).Nodup by decide) ?kind ?_ ?hco ?hgen ?hk
 case ho=>k_is
 case hcd=>k_is
 case kind=>rfl
 case hco=>rfl
 case hgen=>rfl
 case hk=>rfl
 case hb=>
  refine zEn (ps:=["self","node"]) (vs:=[.ref σ.so, .str x t₀]) (ws:=strValues ps) (p:="predecessors") (bs:=[("self", .v (.ref σ.so)),("node", .v (.str x t₀))]) (ds:=(ps.map (·.1)).map .str) kx ?_ (.cons rfl (.cons rfl .nil)) (zH1 ps) (by simp[sizeLine];omega)
  cases ps<;>rfl
 intro L h₁ tk F₀ G
 have F:=F₀.lendS
 have Z₁:SOR w h₁ σ:=Z.keep fun b _ o e=>F₀.kg b o e
 have off:Off σ.addrs _:=Off.enter F₀ Z Z₁
 have S₁:=Sg.mono F₀.kg
 obtain⟨es,n,ed,N,a1,a2,a3,a4,a5⟩:=Z₁.names
 rw[hr]at a2
 walk_at "sh"
 with_reducible refine zAa (zBj (c:=false) F ?_ fun h₂ tk₂ k₂ F₂=>⟨fun e=> ?_,fun _=> ?_⟩)
 ·with_reducible refine EvB.eq (zCs (u:= .none) (zCf S₁.k (nmV_ F.is) Z₁.inst ed N a2 s_g2 zBm s_f2 ?_ ?_) zBg ?_) ?_
  ·rfl
  ·rfl
  ·rfl
  ·rfl
 ·cases e
 have kg₂:Ext s.heap h₂:=F₀.kg.trans k₂
 have G₂:GO w s.heap h₂ σ σ:=Goes.grow Z kg₂
 have S₂:=Sg.mono kg₂
 refine wpAny_execs_nil ?_
 walk_at "sh"
 with_reducible refine zAa (zB1 (zEf (σ:=σ) (X:=σ.addrs++[]) S₂ F₂.kx (nmV_ F₂.is) G₂.z (EvV.d (nmV_ F₂.is) (Rd.str x t₀)) (fun v h₃ tk₃ k₃ r₃=> ?_) ?_ s_gm1 s_m1 s_i1 s_km1))
 rotate_left 1
 ·decide
 obtain⟨t,rfl⟩:=r₃.str_inv
 have G₃:=G₂.then k₃
 refine zDx (s:=(sat s h₃ tk₃)) (S.mono G₃.hidden) (Room.le (rm.deeper _) (by decide)) G₃.z ?_ fun σ₄ p h₄ tk₄ g₄ at₄ ab₄ re₄=> ?_
 ·have:=few.1;rw[zKi]at this;omega
 obtain⟨F₄,R₄,_⟩:=(F₂.ext k₃).goes g₄ off
 have G₄:=G₃.trans g₄
 have off₄:=off.goes (F₂.ext k₃) g₄.own
 with_reducible refine zAn F₄ stL (b:= .v (.ref p.2.i)) ?_ fun h₅ tk₅ F₅ R₅=> ?_
 ·rfl
 have Z₅:=G₄.z.rel off₄ R₅ (fun _ _ m=>nomatch m)
 have G₅:GO w s.heap h₅ σ σ₄:=⟨F₅.kg,Z₅,G₄.own,G₄.sub,G₄.so⟩
 have S₅:Stat (hd.heap_1 w.params) h₅:=S.mono F₅.kg
 have few₄:Few σ₄.abs 801:=by rw[ab₄];exact few.ensure x
 walk_at "sh"
 with_reducible refine zAa (wpAny_AugAssign_AttributeAny (EvV.run (nmV_ F₅.is) Ext.rfl fun h₆ tk₆ k₆=> ?_))
 have Z₆:SOR w h₆ σ₄:=Z₅.keep fun b _ o e=>k₆ _ _ e
 refine zO3 rfl (S₅.mono k₆) (Z₆.node p (zBb at₄).1) fun t₆ tk₆'=> ?_
 refine Ev.run (len_ev (zAe S₅ G zGv zGx) (nm_ F₅.is) ?_) k₆ (F₅.kx.ext k₆) fun v h₇ tk₇ k₇ r₇=> ?_
 ·simp;omega
 obtain⟨t₇,rfl⟩:=r₇.int_inv
 have k₇':=k₆.trans k₇
 have G₇:=G₅.then k₇'
 have Z₇:=G₇.z
 have S₇:=S₅.mono k₇'
 have ne:=NodeAddr.ne Z₇ (zBb at₄).1
 refine PySem.AutoIntOps.iadd_0 ?_
 refine zE6 S₇ (Z₇.node p (zBb at₄).1) ne.1 ne.2.1 fun h₈ tk₈ N₈ sb₈=> ?_
 have g₈:GO w h₇ h₈ σ₄ (σ₄.upd x (addNp (ps.length:Int))):=Goes.np Z₇ at₄ N₈ sb₈ _ (fun _=>rfl) (by simp[addNp])
 have off₅:Off σ₄.addrs _:=off₄
 obtain⟨F₈,R₈,_⟩:=(F₅.ext k₇').goes g₈ off₅
 have off₈:=off₅.goes (F₅.ext k₇') g₈.own
 have G₈:=G₇.trans g₈
 have few₈:Few σ₄.abs 801:=few₄
 have ab₈:(σ₄.upd x (addNp (ps.length:Int))).abs=addBase σ.abs x ps.length:=by rw[zDi,ab₄];rfl
 have re₈:(σ₄.upd x (addNp (ps.length:Int))).rest=σ.rest:=by rw[zK9];exact re₄
 generalize σ₄.upd x (addNp (ps.length:Int))=σ₈ at g₈ F₈ off₈ G₈ ab₈ re₈
 have fb:∀i,Few (((ps.map (·.1)).take i).foldl (addStep x) (addBase σ.abs x ps.length)) 1000:=fun i=>by
  refine((few.base x _).fold x _).le ?_
  simp only[List.length_take,List.length_map];omega
 walk_at "sh"
 with_reducible refine zAa (zGg (X:=[]) (M:=[]) (ds:=(ps.map (·.1)).map .str) (zDz (rm.deeper _).hand (nm_ F₈.is))
  (fun _=>aG σ.so x t₀ (ps.map (·.1)))
  (fun i O h=>AddAt w s.heap σ F₈.en (((ps.map (·.1)).take i).foldl (addStep x) (addBase σ.abs x ps.length)) O h) (F₈.pick ?_) ?_ stL ?_ ?_ ?_ ?_)
 ·exact⟨rfl,rfl,rfl,trivial⟩
 ·intro h' k
  exact⟨σ₈,G₈.z.keep fun b _ o e=>k _ _ e,G₈.own,G₈.sub,G₈.so,ab₈,re₈,off₈⟩
 ·rintro i O h h' it F ⟨σ',Z',r1,r2,r3,r4,r5,r6⟩ hit _ p
  exact⟨σ',Z'.poke p hit,r1,r2,r3,r4,r5,r6⟩
 ·rintro i O h h' F ⟨σ',Z',r1,r2,r3,r4,r5,r6⟩ R
  exact⟨σ',Z'.rel r6 R (fun _ _ m=>nomatch m),r1,r2,r3,r4,r5,r6⟩
 ·rintro i d O s' E'' hdd Fa ⟨σa,Za,r1,r2,r3,r4,r5,r6⟩
  refine opqQ fun T hT=>opqE fun EE _=> ?_
  obtain⟨y,hy,rfl⟩:∃y,(ps.map (·.1))[i]? =some y∧d= .str y:=by
   rw[List.getElem?_map]at hdd
   cases hci:(ps.map (·.1))[i]? with
   |none=>rw[hci]at hdd;cases hdd
   |some c=>rw[hci]at hdd;cases hdd;exact⟨c,rfl,rfl⟩
  have Ga:GO w s.heap s'.heap σ σa:=⟨Fa.kg,Za,r1,r2,r3⟩
  have Sa:Stat (hd.heap_1 w.params) s'.heap:=S.mono Fa.kg
  have fwa:=fb i
  rw[←r4]at fwa
  walk_at "sh"
  with_reducible refine zAa (zB1 (zEf (σ:=σa) (X:=σa.addrs++[]) Sa Fa.kx ?_ Za (nm_ Fa.is) (fun v hb tkb kb rb=> ?_) ?_ s_gm1 s_m1 s_i1 s_km1))
  ·rw[r3]
   with_reducible exact nmV_ Fa.is
  rotate_left 1
  ·decide
  obtain⟨t,rfl⟩:=rb.str_inv
  have Gb:=Ga.then kb
  refine zDx (s:=(sat s' hb tkb)) (S.mono Gb.hidden) (Room.le (rm.deeper _) (by decide)) Gb.z ?_ fun σc p hc tkc gc atc abc rec=> ?_
  ·have:=fwa.1;rw[zKi]at this;omega
  obtain⟨Fc,Rc,_⟩:=(Fa.ext kb).goes gc r6
  have Gc:=Gb.trans gc
  have offc:=r6.goes (Fa.ext kb) gc.own
  have ownc:∀b∈σc.addrs,b∈σa.addrs∨s'.heap.get? b=none:=fun b m=>(gc.own b m).imp id fun q=>by
   cases e:s'.heap.get? b with
   |none=>rfl
   |some o=>rw[show hb.get? b=_ from kb _ _ e]at q;cases q
  with_reducible refine zAn Fc stL (b:= .v (.ref p.2.i)) ?_ fun he tkd Fd Rs=> ?_
  ·rfl
  have Zd:=Gc.z.rel offc Rs (fun _ _ m=>nomatch m)
  have Gd:GO w s.heap he σ σc:=⟨Fd.kg,Zd,Gc.own,Gc.sub,Gc.so⟩
  have Sd:Stat (hd.heap_1 w.params) he:=S.mono Fd.kg
  walk_at "sh"
  with_reducible refine zAa (zGq (X:=σc.addrs++[]) (x:=x) Sd Zd atc Fd.kx (nmV_ Fd.is) (EvV.d (nmV_ Fd.is) (Rd.str x t₀)) ?_ fun hf tkf gf=> ?_)
  ·have:Few σc.abs 1001:=by rw[abc];exact fwa.ensure y
   exact Nat.le_trans (this.at atc) (by decide)
  obtain⟨Ff,Rf,_⟩:=Fd.goes gf offc
  have Gf:=Gd.trans gf
  have abf:(σc.upd y (addSucc x)).abs=addStep x σa.abs y:=by rw[zDi,abc];rfl
  refine wpAny_execs_nil (hT _ _ ⟨hf,tkf,rfl,⟨(σc.upd y (addSucc x)).addrs,Ff.pick ?_,⟨σc.upd y (addSucc x),gf.z,Gf.own,Gf.sub,Gf.so,?_,?_,?_⟩,?_⟩,?_⟩)
  ·exact⟨rfl,rfl,rfl,trivial⟩
  ·rw[abf,r4,zA2 _ _ _ hy]
  ·rw[zK9,rec,r5]
  ·rw[upd_addrs];exact offc
  ·rw[upd_addrs];exact ownc
  ·have R1:Rel (σa.addrs++[]) _ s'.heap he:=kb.rel.trans (Rc.trans (Rs.le zAp))
   refine R1.grown (fun b m=> ?_) Rf
   rw[List.append_nil]at m⊢
   exact ownc b m
 ·rintro O h₉ tk₉ E' F₉ ⟨σ',Z',r1,r2,r3,r4,r5,r6⟩ R₉
  refine wpAny_execs_nil (wpAny_execs_nil ?_)
  refine hQ σ' h₉ tk₉ ⟨F₉.kg,Z',r1,r2,r3⟩ ?_ r5
  rw[r4,List.length_map,List.take_of_length_le (by simp)]
  simp[addN,addBase]
end
end P15
section P16
section
variable {prog:Program} {w:World} {A:Around} {s:Shared} {E:Value→Shared→Prop}
open Builtin in
theorem zGa (l:Addr) (ys:Array Value) (hf:ys.size≤2 ^ 24):
 Meets (Builtin.«bool.__new__» ⟨[.type "bool", .ref l],[]⟩) (fun _ R s=>s.heap.IsList l ys∧∀tk,R (.ok (.ret (.bool (!ys.isEmpty)))) {s with toks:=tk}):=
 Meets.of_wp fun prog w A R s hs=>by
  obtain⟨hp,g,d,tk,os⟩:=s
  obtain⟨il,hs⟩:=hs
  have f1:=PySem.F.conv_sub_bool
  have fit:(ys.size:Int)<2 ^ 63:=by omega
  repeat (any_goals (first|assumption|with_reducible apply wpAny_truthy_list|wp_step))
  exact⟨_,rfl,hs _⟩
theorem zGr {l:Addr} {ys:Array Value} {Q:Value→Shared→Prop} (il:s.heap.IsList l ys) (hf:ys.size≤2 ^ 24) (h:∀tk,Q (.bool (!ys.isEmpty)) {s with toks:=tk}):
 wpAny (model prog w) A (call (.type "bool") [.ref l]) Q E s:=
 call_bool_1 (zGa l ys hf) ⟨il,fun tk=>⟨rfl,h tk⟩⟩
theorem zMb {D:Addr} {ys:Array Value} {Q:Value→Shared→Prop} (pl:s.heap.PlainList D ys) (hsz:ys.size≤sizeLine)
 (hQ:∀h',h'.PlainList D #[]→(∀b o,b≠D→s.heap.get? b=some o→h'.get? b=some o)→Q .none {s with heap:=h'}):wpAny (model prog w) A (call (.builtin "list.clear") [.ref D]) Q E s:=by
 obtain⟨n,e⟩:=id pl
 refine call_meets PySem.F.slot_list_clear pl.isList.typeIs PySem.F.entry_list_clear (PySem.F.args_list_clear_1 _) (PySem.AutoSeq1.list_clear_list_0 D ys n hsz) ⟨e,?_⟩
 have hm:∃m,Obj.mapSeq (fun _=> #[]) {cls:= .type "list",data:= .seq ys n}={cls:= .type "list",data:= .seq #[] m}:=by
  unfold Obj.mapSeq
  exact⟨_,rfl⟩
 obtain⟨m,hm⟩:=hm
 exact hQ _ ⟨m,by rw[Heap.get?_update_self _ e (by rw[hm];rfl),hm]⟩ fun b o n e=>by rw[Heap.get?_update_other _ _ (Ne.symm n)];exact e
theorem zMu {value slice:Expr} {d:Addr} {kvs:List (Str×Value)} {x:Str} {t:Tok} {v:Value} {Q:Value→Shared→Prop} (D:s.heap.DictOf (strKind prog w) d kvs) (hv:valueAt kvs x=some v) (hq:∀tk,Q v {s with toks:=tk})
 (hs:autoParam (subscripted slice false (.ref d) (.str x t)=operate [.ref d, .str x t] (getItem (.ref d) (.str x t))) aR):wpAny (model prog w) A (subscriptTail value slice (.ref d) (.str x t)) Q E s:=
 PyProof.Rows.tail_any D.typeIs slot_dict_getitem.lookup (wpAny_getItem_of (strKind_is prog w x t) D.mapOf hv (hq _)) hs
end
end P16
section P17
section
variable {w:World} {A:Around} {X M:List Addr} {h h':Heap} {g:Heap} {env:Env} {Γ:List (Str×Bd)}
theorem Goes.scal {σ:Srt} {es':List DictEntry} {n':Nat} {i j:Int} (Z:SOR w h σ) (e:h'.get? σ.dx=some (dictOf es' n')) (sb:∀b o,b≠σ.dx→h.get? b=some o→h'.get? b=some o) (N:NamesOk es')
 (a1:atName es' "_node2info"=some (.ref σ.dn)) (a2:atName es' "_ready_nodes"=some (match σ.ready with|some p=> .ref p.1|none=> .none)) (a3:∃t,atName es' "_npassedout"=some (.int i t)) (a4:∃t,atName es' "_nfinished"=some (.int j t))
 (a5:∀nm:Str,nm∉sNames→atName es' nm=none):GO w h h' σ {σ with passed:=i,finished:=j}:=by
 have nd:=Z.apart
 have ndx:=(List.nodup_cons.mp (List.nodup_cons.mp nd).2).1
 have ne:∀b∈σ.addrs,b≠σ.dx→∀o,h.get? b=some o→h'.get? b=some o:=fun b _ hb o e=>sb b o hb e
 have hso:σ.so≠σ.dx:=fun z=>(List.nodup_cons.mp nd).1 (z▸List.mem_cons_self)
 have hdn:σ.dn≠σ.dx:=fun z=>ndx (z▸List.mem_cons_self)
 have hre:∀p,σ.ready=some p→p.1≠σ.dx:=fun p hp z=>ndx (List.mem_cons_of_mem _ (List.mem_append_left _ (by rw[hp,←z];exact List.mem_singleton.mpr _root_.rfl)))
 have hno:∀p∈σ.nodes,∀b∈p.2.all,b≠σ.dx:=fun p hp b hb z=>ndx (List.mem_cons_of_mem _ (List.mem_append_right _ (List.mem_flatMap.mpr ⟨p,hp,z▸hb⟩)))
 refine⟨fun b o e'=>sb b o (fun z=>zAh e' (z▸by simp[Srt.addrs])) (zAf _ _ _ _ e'),⟨sb _ _ hso Z.inst,⟨es',n',e,N,a1,a2,a3,a4,a5⟩,?_,?_,?_,nd,Z.lo⟩,fun b m=> .inl m,fun b m=>m,_root_.rfl⟩
 ·exact fun p hp=>(Z.ready p hp).keep fun o e=>sb _ _ (hre p hp) e
 ·exact Z.dict.at fun o e=>sb _ _ hdn e
 ·exact fun p hp=>(Z.node p hp).keep fun b hb o e=>sb b o (hno p hp b hb) e
theorem zGu {s:Shared} {Q:Unit→Shared→Prop} {E:Value→Shared→Prop} {σ:Srt} {i:Int} {t:Tok} (S:Stat (hd.heap_1 w.params) s.heap) (Z:SOR w s.heap σ)
 (hq:∀h' tk,GO w s.heap h' σ {σ with passed:=i}→Q () (sat s h' tk)):wpAny (model PR w) A (setAttr (.ref σ.so) "_npassedout" (.int i t)) Q E s:=by
 obtain⟨es,n,ed,N,a1,a2,a3,a4,a5⟩:=Z.names
 have hin:(atName es "_npassedout").isSome=true:=by obtain⟨t,e⟩:=a3;rw[e];rfl
 have hin':(es.find? (·.key.isStr "_npassedout")).isSome=true:=by unfold atName at hin;simpa using hin
 refine zE9 S.k (instAt Z.inst ed) rfl zKe zF3 s_t3 zBm (by rw[zCj N];rfl) rfl ?_ fun h' tk q sb=> ?_
 ·have:=(N.put (hs:=PyData.keyHash w.params "_npassedout") (t:=s.toks+1) (v:= .int i t) (name:="_npassedout") (.inl hin')).few
  exact Nat.le_trans this (by decide)
 ·refine hq h' tk (Goes.scal Z q sb (N.put (.inl hin')) ?_ ?_ ⟨t,zBf _ _ _ _ _⟩ ?_ ?_)
  ·exact(zAk _ _ _ (by decide) _).trans a1
  ·exact(zAk _ _ _ (by decide) _).trans a2
  ·obtain⟨t',e⟩:=a4
   exact⟨t',(zAk _ _ _ (by decide) _).trans e⟩
  ·exact fun nm hnm=>(zAk _ _ _ (fun z=>hnm (by rw[z];decide)) _).trans (a5 nm hnm)
theorem zEy {s:Shared} {Q:Unit→Shared→Prop} {E:Value→Shared→Prop} {σ:Srt} {i:Int} {t:Tok} (S:Stat (hd.heap_1 w.params) s.heap) (Z:SOR w s.heap σ)
 (hq:∀h' tk,GO w s.heap h' σ {σ with finished:=i}→Q () (sat s h' tk)):wpAny (model PR w) A (setAttr (.ref σ.so) "_nfinished" (.int i t)) Q E s:=by
 obtain⟨es,n,ed,N,a1,a2,a3,a4,a5⟩:=Z.names
 have hin:(atName es "_nfinished").isSome=true:=by obtain⟨t,e⟩:=a4;rw[e];rfl
 have hin':(es.find? (·.key.isStr "_nfinished")).isSome=true:=by unfold atName at hin;simpa using hin
 refine zE9 S.k (instAt Z.inst ed) rfl zKe zF3 s_t4 zBm (by rw[zCj N];rfl) rfl ?_ fun h' tk q sb=> ?_
 ·have:=(N.put (hs:=PyData.keyHash w.params "_nfinished") (t:=s.toks+1) (v:= .int i t) (name:="_nfinished") (.inl hin')).few
  exact Nat.le_trans this (by decide)
 ·refine hq h' tk (Goes.scal Z q sb (N.put (.inl hin')) ?_ ?_ ?_ ⟨t,zBf _ _ _ _ _⟩ ?_)
  ·exact(zAk _ _ _ (by decide) _).trans a1
  ·exact(zAk _ _ _ (by decide) _).trans a2
  ·obtain⟨t',e⟩:=a3
   exact⟨t',(zAk _ _ _ (by decide) _).trans e⟩
  ·exact fun nm hnm=>(zAk _ _ _ (fun z=>hnm (by rw[z];decide)) _).trans (a5 nm hnm)
theorem zGs {s:Shared} {Q:Value→Shared→Prop} {E:Value→Shared→Prop} {σ:Srt} (S:Stat (hd.heap_1 w.params) s.heap) (Z:SOR w s.heap σ)
 (hq:∀t tk,Q (.int σ.passed t) {s with toks:=tk}):wpAny (model PR w) A (getAttr (.ref σ.so) "_npassedout" true) Q E s:=by
 obtain⟨es,n,ed,N,a1,a2,⟨t,a3⟩,a4,a5⟩:=Z.names
 exact zHv S.k (instAt Z.inst ed) s_g3 zBm s_f3 rfl (by rw[zCj N];exact congrArg some a3) rfl (hq t)
theorem zEz {s:Shared} {Q:Value→Shared→Prop} {E:Value→Shared→Prop} {σ:Srt} (S:Stat (hd.heap_1 w.params) s.heap) (Z:SOR w s.heap σ)
 (hq:∀t tk,Q (.int σ.finished t) {s with toks:=tk}):wpAny (model PR w) A (getAttr (.ref σ.so) "_nfinished" true) Q E s:=by
 obtain⟨es,n,ed,N,a1,a2,a3,⟨t,a4⟩,a5⟩:=Z.names
 exact zHv S.k (instAt Z.inst ed) s_g4 zBm s_f4 rfl (by rw[zCj N];exact congrArg some a4) rfl (hq t)
noncomputable def attrIs (o:Expr) (name:Str) (ap:Pos) (env:Env):Prop:=eval (.Attribute o name ap) env=(do
 let o'←eval o env
 standAt ap.atName
 let r←holding [o'] (getAttr o' name true)
 letTemporaryGo o o' r
 pure r)
theorem zCz {σ:Srt} {o:Expr} {ap:Pos} {p:Addr×List Str} (S:Stat (hd.heap_1 w.params) h) (Z:SOR w h σ) (hr:σ.ready=some p) (hx:EvV PR w A h (eval o env) (.ref σ.so)) (he:autoParam (attrIs o "_ready_nodes" ap env) aR):
 EvV PR w A h (eval (.Attribute o "_ready_nodes" ap) env) (.ref p.1):=by
 obtain⟨es,n,ed,N,a1,a2,a3,a4,a5⟩:=Z.names
 rw[hr]at a2
 exact zCf S.k hx Z.inst ed N a2 s_g2 zBm s_f2 rfl rfl he
theorem zCe {σ:Srt} {o:Expr} {ap:Pos} (S:Stat (hd.heap_1 w.params) h) (Z:SOR w h σ) (hx:EvV PR w A h (eval o env) (.ref σ.so)) (he:autoParam (attrIs o "_node2info" ap env) aR):
 EvV PR w A h (eval (.Attribute o "_node2info" ap) env) (.ref σ.dn):=by
 obtain⟨es,n,ed,N,a1,a2,a3,a4,a5⟩:=Z.names
 exact zCf S.k hx Z.inst ed N a1 s_g1 zBm s_f1 rfl rfl he
theorem zNp {σ:Srt} {o:Expr} {ap:Pos} (S:Stat (hd.heap_1 w.params) h) (Z:SOR w h σ) (hx:EvV PR w A h (eval o env) (.ref σ.so)) (he:autoParam (attrIs o "_npassedout" ap env) aR):
 Ev PR w A X h (eval (.Attribute o "_npassedout" ap) env) (.int σ.passed):=by
 obtain⟨es,n,ed,N,a1,a2,⟨t,a3⟩,a4,a5⟩:=Z.names
 exact EvV.d (zCf S.k hx Z.inst ed N a3 s_g3 zBm s_f3 rfl rfl he) (Rd.int _ _)
theorem zJt {σ:Srt} {o:Expr} {ap:Pos} (S:Stat (hd.heap_1 w.params) h) (Z:SOR w h σ) (hx:EvV PR w A h (eval o env) (.ref σ.so)) (he:autoParam (attrIs o "_nfinished" ap env) aR):
 Ev PR w A X h (eval (.Attribute o "_nfinished" ap) env) (.int σ.finished):=by
 obtain⟨es,n,ed,N,a1,a2,a3,⟨t,a4⟩,a5⟩:=Z.names
 exact EvV.d (zCf S.k hx Z.inst ed N a4 s_g4 zBm s_f4 rfl rfl he) (Rd.int _ _)
theorem ev_lt {l r:Expr} {pos:Pos} {a b:Int} (ha:Ev PR w A X h (eval l env) (.int a)) (hb:Ev PR w A X h (eval r env) (.int b)) (hm:autoParam (behindInMarks .Lt r=false) aR):Ev PR w A X h (eval (.Compare l [.Lt] [r] pos) env) (.bool (decide (a<b))):=by
 refine ev_cmp ha hb ?_ hm
 intro s u v Q E ra rb hQ
 obtain⟨_,rfl⟩:=Rd.int_inv ⟨rfl,ra⟩
 obtain⟨_,rfl⟩:=Rd.int_inv ⟨rfl,rb⟩
 exact PyProof.Rows.lt_int hQ
end
end P17
section P18
section
variable {w:World} {A:Around} {X M:List Addr} {h h':Heap} {g:Heap} {env:Env} {Γ:List (Str×Bd)}
theorem zI1 {f:Str} {np pos:Pos} {e:Expr} {l:Addr} {xs:List Str} (hf:EvV PR w A h (eval (.Name f np) env) (.type "bool")) (ha:EvV PR w A h (eval e env) (.ref l)) (L:strList h l xs) (hs:xs.length≤2 ^ 24)
 (he:autoParam (starEach [e] env=(false,eval e env)::starEach [] env) aR):Ev PR w A X h (eval (.Call (.Name f np) [e] [] pos) env) (.bool (!xs.isEmpty)):=by
 intro s Q E k kx hQ
 refine wpAny_Call_ofName (hf s _ _ k fun h₁ tk₁ k₁=> ?_)
 refine callWith_type1 (wpAny_items_cons (ha _ _ _ (k.trans k₁) fun h₂ tk₂ k₂=>wpAny_items_nil ?_) he) he rfl
 obtain⟨ps,⟨n,pl⟩,rfl⟩:=L
 have e2:h₂.get? l=some _:=k₂ _ _ (k₁ _ _ (k _ _ pl))
 refine zGr (ys:=(strValues ps).toArray) ⟨_,e2,rfl,n,rfl⟩ (by simpa[strValues]using hs) fun tk=> ?_
 have:(!(strValues ps).toArray.isEmpty)= !(ps.map (·.1)).isEmpty:=by cases ps<;>rfl
 rw[this]
 exact hQ _ _ _ (k₁.trans k₂) (Rd.bool _)
theorem zI7 {s:Shared} {Q:Value→Shared→Prop} {E:Value→Shared→Prop} {σ:Srt} {p:Addr×List Str} (S:Stat (hd.heap_1 w.params) s.heap) (rm:Room A 6) (Z:SOR w s.heap σ) (hr:σ.ready=some p) (hs:p.2.length≤10000)
 (hQ:∀h' tk,Ext s.heap h'→Q (.bool (decide (σ.finished<σ.passed)|| !p.2.isEmpty)) (sat s h' tk)):
 wpAny (model PR w) A (call (.ref 221) [.ref σ.so]) Q E s:=by
 refine' zBc (X:=[]) (n:=5) [("self", .v (.ref σ.so))] S ?ho ?hcd rm XOk.nil ?hb (show(["self"]:List Str).Nodup by decide) ?kind ?_ ?hco ?hgen ?hk
 case ho=>k_is
 case hcd=>k_is
 case kind=>rfl
 case hco=>rfl
 case hgen=>rfl
 case hk=>rfl
 case hb=>exact zA1 rfl (.cons rfl .nil)
 intro L h₁ tk F G
 have S₁:=S.mono F.kg
 have Z₁:SOR w h₁ σ:=Z.keep fun b _ o e=>F.kg b o e
 walk_at "sh"
 with_reducible refine zAa (zBj (c:=false) F ?_ fun h₂ tk₂ k₂ F₂=>⟨fun e=> ?_,fun _=> ?_⟩)
 ·with_reducible refine EvB.eq (zEd (u:= .ref p.1) (zCz S₁ Z₁ hr (nmV_ F.is)) zBg ?_) ?_
  ·rfl
  ·rfl
 ·cases e
 have S₂:=S.mono F₂.kg
 have Z₂:SOR w h₂ σ:=Z.keep fun b _ o e=>F₂.kg b o e
 refine wpAny_execs_nil ?_
 walk_at "sh"
 with_reducible refine zAa (zAz (d:= .bool (decide (σ.finished<σ.passed)|| !p.2.isEmpty)) F₂ ?_ fun v h₃ tk₃ F₃ k₃ r₃=> ?_)
 ·with_reducible refine Ev.eq (zQr (ev_lt (zJt S₂ Z₂ (nmV_ F₂.is)) (zNp S₂ Z₂ (nmV_ F₂.is))) ?_ fun _=>zI1 (zAe S₂ G n_bool b_bool) (zCz S₂ Z₂ hr (nmV_ F₂.is)) (Z₂.ready p hr) ?_) ?_
  ·exact trivial
  ·omega
  ·simp only[truthD]
   cases decide (σ.finished<σ.passed)<;>simp
 ·rw[r₃.bool_inv]
  exact hQ h₃ tk₃ F₃.kg
theorem n_out:∃t,nsIn (hd.heap_1 w.params) mainGlobals "_NODE_OUT"=some (some (.int (-1) t)):=⟨_,by k_is⟩
theorem n_done:∃t,nsIn (hd.heap_1 w.params) mainGlobals "_NODE_DONE"=some (some (.int (-2) t)):=⟨_,by k_is⟩
end
end P18
section P19
section
variable {w:World} {A:Around} {X M:List Addr} {h h':Heap} {g:Heap} {env:Env} {Γ:List (Str×Bd)}
theorem Fn.lendX {σ:Srt} (F:Fn g (σ.addrs++X) [] h env Γ):Fn (hid σ.addrs g) (σ.addrs++X) (σ.addrs++[]) h env Γ:=by
 have:=F.lend (O:=σ.addrs) (fun b m=>List.mem_append_left _ m)
 rw[List.append_nil]
 exact this
theorem Goes.setReady {σ:Srt} {l:Addr} {xs ys:List Str} (Z:SOR w h σ) (hr:σ.ready=some (l,xs)) (L:strList h' l ys) (sb:∀b o,b≠l→h.get? b=some o→h'.get? b=some o):GO w h h' σ {σ with ready:=some (l,ys)}:=by
 have nd:=Z.apart
 have n1:=List.nodup_cons.mp nd
 have n2:=List.nodup_cons.mp n1.2
 have n3:=List.nodup_cons.mp n2.2
 have hl:l∈((match σ.ready with|some p=>[p.1]|none=>[])++σ.nodes.flatMap fun p=>p.2.all):=List.mem_append_left _ (by rw[hr];exact List.mem_singleton.mpr _root_.rfl)
 have hso:σ.so≠l:=fun z=>n1.1 (z▸List.mem_cons_of_mem _ (List.mem_cons_of_mem _ hl))
 have hdx:σ.dx≠l:=fun z=>n2.1 (z▸List.mem_cons_of_mem _ hl)
 have hdn:σ.dn≠l:=fun z=>n3.1 (z▸hl)
 have hno:∀p∈σ.nodes,∀b∈p.2.all,b≠l:=fun p hp b hb z=>(Z.apart_node hp hb).2.2.2 _ hr z
 have ad:({σ with ready:=some (l,ys)}:Srt).addrs=σ.addrs:=by simp only[Srt.addrs,hr]
 refine⟨fun b o e'=>sb b o (fun z=>zAh e' (z▸ ?_)) (zAf _ _ _ _ e'),⟨sb _ _ hso Z.inst,?_,?_,?_,?_,ad▸nd,Z.lo⟩,fun b m=> .inl (ad▸m),fun b m=>by rw[ad];exact m,_root_.rfl⟩
 ·simp only[Srt.addrs]
  exact List.mem_cons_of_mem _ (List.mem_cons_of_mem _ (List.mem_cons_of_mem _ hl))
 ·obtain⟨es,n,ed,N,a1,a2,a3,a4,a5⟩:=Z.names
  rw[hr]at a2
  exact⟨es,n,sb _ _ hdx ed,N,a1,a2,a3,a4,a5⟩
 ·intro p hp
  cases hp
  exact L
 ·exact Z.dict.at fun o e=>sb _ _ hdn e
 ·exact fun p hp=>(Z.node p hp).keep fun b hb o e=>sb b o (hno p hp b hb) e
theorem zH0 {f:Str} {np pos:Pos} {e:Expr} {l:Addr} {xs:List Str} (hf:EvV PR w A h (eval (.Name f np) env) (.type "tuple")) (ha:EvV PR w A h (eval e env) (.ref l)) (L:strList h l xs) (hs:xs.length≤10000)
 (he:autoParam (starEach [e] env=(false,eval e env)::starEach [] env) aR):Ev PR w A X h (eval (.Call (.Name f np) [e] [] pos) env) (.tuple (xs.map .str)):=by
 intro s Q E k kx hQ
 refine wpAny_Call_ofName (hf s _ _ k fun h₁ tk₁ k₁=> ?_)
 refine callWith_type1 (wpAny_items_cons (ha _ _ _ (k.trans k₁) fun h₂ tk₂ k₂=>wpAny_items_nil ?_) he) he rfl
 obtain⟨ps,⟨n,pl⟩,rfl⟩:=L
 have e2:h₂.get? l=some _:=k₂ _ _ (k₁ _ _ (k _ _ pl))
 have il:h₂.IsList l (strValues ps).toArray:=⟨_,e2,rfl,n,rfl⟩
 refine call_tuple_list (s:=(sat s h₂ tk₂)) il (fun h' k'=> ?_) (by simp[strValues]at hs⊢;unfold sizeLine;omega)
 have kk:Ext s.heap h':=(k₁.trans k₂).trans k'
 exact hQ _ _ _ (kk.trans (Ext.push _ _)) (zBw (kx.ext kk) (zH1 ps))
noncomputable def setNp (i:Int) (n:Node):Node:={n with np:=i}
noncomputable def Srt.setAll (σ:Srt) (i:Int) (xs:List Str):Srt:=xs.foldl (fun σ x=>σ.upd x (setNp i)) σ
theorem zKc (σ:Srt) (i:Int) (xs:List Str) {k:Nat} {x:Str} (e:xs[k]? =some x):σ.setAll i (xs.take (k+1))=(σ.setAll i (xs.take k)).upd x (setNp i):=zA2 _ _ _ e
theorem zCm (i:Int):∀(xs:List Str) (σ:Srt),(σ.setAll i xs).addrs=σ.addrs∧(σ.setAll i xs).rest=σ.rest∧(σ.setAll i xs).so=σ.so∧(σ.setAll i xs).dn=σ.dn∧(σ.setAll i xs).abs=xs.foldl (fun ns x=>updN ns x (setNp i)) σ.abs∧
 (∀x,(σ.at x).isSome=true→((σ.setAll i xs).at x).isSome=true)
 | [],σ=>⟨rfl,rfl,rfl,rfl,rfl,fun _ h=>h⟩
 |y::xs,σ=>by
  obtain⟨h1,h2,h3,h4,h5,h6⟩:=zCm i xs (σ.upd y (setNp i))
  refine⟨h1.trans upd_addrs,h2,h3,h4,?_,fun x hx=>h6 x ?_⟩
  ·rw[show σ.setAll i (y::xs)=(σ.upd y (setNp i)).setAll i xs from rfl,h5,zDi];rfl
  ·rw[zLb (f:=setNp i) (fun _=>rfl)];simpa using hx
end
end P19
section P20
section
variable {w:World} {A:Around} {X M:List Addr} {h h':Heap} {g:Heap} {env:Env} {Γ:List (Str×Bd)}
theorem Fn.reX {O O':List Addr} (F:Fn g (O++X) (O++M) h env Γ) (e:O=O'):Fn g (O'++X) (O'++M) h env Γ:=by subst e;exact F
theorem zJu {σ:Srt} {o e:Expr} {pos:Pos} {x:Str} {p:Node×NodeAddr} (Z:SOR w h σ) (hat:σ.at x=some p) (kx:XOk X h) (hx:EvV PR w A h (eval o env) (.ref σ.dn)) (he:Ev PR w A X h (eval e env) (.str x))
 (hs:autoParam (∀t,subscripted e false (.ref σ.dn) (.str x t)=operate [.ref σ.dn, .str x t] (getItem (.ref σ.dn) (.str x t))) aS):
 EvV PR w A h (eval (.Subscript o e pos) env) (.ref p.2.i):=by
 intro s Q E k hQ
 refine Subscript_ (hx _ _ _ k fun h₁ tk₁ k₁=>he _ _ _ (k.trans k₁) ((kx.ext k).ext k₁) fun v h₂ tk₂ k₂ r₂=> ?_)
 obtain⟨t,rfl⟩:=r₂.str_inv
 have Z₂:SOR w h₂ σ:=Z.keep fun b _ o e=>k₂ _ _ (k₁ _ _ (k _ _ e))
 refine zMu (s:=(sat s h₂ tk₂)) Z₂.dict (kvs:=σ.kvs) ?_ (fun tk=>hQ h₂ tk (k₁.trans k₂)) (hs t)
 rw[zDm,hat];rfl
theorem zIa {MM:Model} {s:Shared} {E:Value→Shared→Prop} {o e:Expr} {attr:Str} {ap pos:Pos} {Q:Flow→Shared→Prop}
 (h:wpAny MM A (eval e env) (fun v s₁=>wpAny MM A (eval o env) (fun ov s₂=>wpAny MM A (setAttr ov attr v) (fun _=>Q .next) E s₂) E s₁) E s)
 (hs:autoParam (swapsWith e (some (.Attribute o attr ap)) pos.line env=pure false) aR):wpAny MM A (exec (.Assign [.Attribute o attr ap] e pos) env) Q E s:=plainObj_wpAny_Assign_Attribute h hs
theorem zGw {s:Shared} {Q:Flow→Shared→Prop} {E:Value→Shared→Prop} {σ:Srt} {o:Expr} {ap apos cpos epos:Pos} {l:Addr} {xs:List Str}
 (S:Stat (hd.heap_1 w.params) s.heap) (Z:SOR w s.heap σ) (hr:σ.ready=some (l,xs)) (hsz:xs.length≤10000) (ho:EvV PR w A s.heap (eval o env) (.ref σ.so))
 (hQ:∀h' tk,GO w s.heap h' σ {σ with ready:=some (l,[])}→Q .next (sat s h' tk))
 (hi:autoParam (interactive env=false) aR) (hs:autoParam (swapsWith (.Call (.Attribute (.Attribute o "_ready_nodes" ap) "clear" apos) [] [] cpos) none epos.line env=pure false) aR)
 (hbase:autoParam (attributeBase (.Attribute o "_ready_nodes" ap) "clear" env (eval (.Attribute o "_ready_nodes" ap) env)=eval (.Attribute o "_ready_nodes" ap) env) aR) (hline:autoParam ((apos.endLine==cpos.line)=true) aR)
 (he:autoParam (attrIs o "_ready_nodes" ap env) aR):
 wpAny (model PR w) A (exec (.Expr (.Call (.Attribute (.Attribute o "_ready_nodes" ap) "clear" apos) [] [] cpos) epos) env) Q E s:=by
 refine wpAny_Expr ?_ hi hs
 refine Call_method0 hbase hline (EvV.run (zCz S Z hr ho he) Ext.rfl fun h₁ tk₁ k₁=> ?_)
 have Z₁:SOR w h₁ σ:=Z.keep fun b _ o e=>k₁ b o e
 obtain⟨ps,pl,eps⟩:=Z₁.ready _ hr
 refine⟨"list","list.clear",PySem.F.plainAttrs_list,PySem.F.slot_list_clear,PySem.F.type_list_clear,pl.isList.typeIs,zC9 pl,?_⟩
 refine Calls.callWith_builtin rfl (evalArgs_nil3 ?_)
 refine zMb (s:=(sat s h₁ tk₁)) pl ?_ fun h₂ pl₂ sb=> ?_
 ·have:ps.length=xs.length:=by
   have:=congrArg List.length eps
   simpa using this
  simp[strValues];unfold sizeLine;omega
 exact hQ h₂ tk₁ ((Goes.grow Z k₁).trans (Goes.setReady Z₁ hr ⟨[],pl₂,rfl⟩ sb))
noncomputable abbrev gG (σ:Srt) (xs:List Str):List (Str×Bd):=[("n2i", .v (.ref σ.dn)),("result", .d (.tuple (xs.map .str))),("self", .v (.ref σ.so))]
theorem zEv {s:Shared} {Q:Value→Shared→Prop} {E:Value→Shared→Prop} {σ:Srt} {l:Addr} {xs:List Str} (S:Stat (hd.heap_1 w.params) (hid σ.addrs s.heap)) (rm:Room A 6) (Z:SOR w s.heap σ) (hr:σ.ready=some (l,xs)) (kx:XOk X s.heap)
 (hxs:xs.length≤1000) (hin:∀x∈xs,(σ.at x).isSome=true)
 (hQ:∀σ' v h' tk,GO w s.heap h' σ σ'→Rd (hid (σ'.addrs++X) h') (.tuple (xs.map .str)) v→σ'.abs=xs.foldl (fun ns x=>updN ns x (setNp (-1))) σ.abs→σ'.rest=(some (l,[]),σ.passed+xs.length,σ.finished)→Q v (sat s h' tk)):
 wpAny (model PR w) A (call (.ref 214) [.ref σ.so]) Q E s:=by
 have Sg:Stat (hd.heap_1 w.params) s.heap:=S.mono (zAf _ _)
 have kx':XOk (σ.addrs++X) s.heap:=fun b m=>(List.mem_append.mp m).elim (Z.alive b) (kx b)
 refine' zBc (X:=σ.addrs++X) (n:=5) [("self", .v (.ref σ.so))] Sg ?ho ?hcd rm kx' ?hb (show(["self"]:List Str).Nodup by decide) ?kind ?_ ?hco ?hgen ?hk
 case ho=>k_is
 case hcd=>k_is
 case kind=>rfl
 case hco=>rfl
 case hgen=>rfl
 case hk=>rfl
 case hb=>exact zA1 rfl (.cons rfl .nil)
 intro L h₁ tk F₀ G
 have F:=F₀.lendX
 have Z₁:SOR w h₁ σ:=Z.keep fun b _ o e=>F₀.kg b o e
 have off:Off σ.addrs F.en:=Off.enter F₀ Z Z₁
 have S₁:=Sg.mono F₀.kg
 walk_at "sh"
 with_reducible refine zAa (zBj (c:=false) F ?_ fun h₂ tk₂ k₂ F₂=>⟨fun e=> ?_,fun _=> ?_⟩)
 ·with_reducible refine EvB.eq (zEd (u:= .ref l) (zCz S₁ Z₁ hr (nmV_ F.is)) zBg ?_) ?_
  ·rfl
  ·rfl
 ·cases e
 have Z₂:SOR w h₂ σ:=Z₁.keep fun b _ o e=>k₂ b o e
 have S₂:=S₁.mono k₂
 refine wpAny_execs_nil ?_
 walk_at "sh"
 with_reducible refine zAa (zAi (d:= .tuple (xs.map .str)) F₂ (zH0 (zAe S₂ G zN2 zOr) (zCz S₂ Z₂ hr (nmV_ F₂.is)) (Z₂.ready _ hr) ?_) stL fun h₃ tk₃ F₃ R₃=> ?_)
 ·show xs.length≤10000
  omega
 have Z₃:SOR w h₃ σ:=Z₂.rel off R₃ (fun _ _ m=>nomatch m)
 have S₃:Stat (hd.heap_1 w.params) h₃:=S.mono F₃.kg
 walk_at "sh"
 with_reducible refine zAa (zCo (u:= .ref σ.dn) F₃ (zCe S₃ Z₃ (nmV_ F₃.is)) stL fun h₄ tk₄ F₄ R₄=> ?_)
 have Z₄:SOR w h₄ σ:=Z₃.rel off R₄ (fun _ _ m=>nomatch m)
 obtain⟨tout,hout⟩:=n_out (w:=w)
 walk_at "sh"
 with_reducible refine zAa (zGg (X:=X) (M:=[]) (ds:=xs.map .str) (zDz (rm.deeper _).hand (nm_ F₄.is))
  (fun _=>gG σ xs)
  (fun i O h=>O=σ.addrs∧SOR w h (σ.setAll (-1) (xs.take i))) (F₄.pick ?_) ?_ stL ?_ ?_ ?_ ?_)
 ·exact⟨rfl,rfl,rfl,trivial⟩
 ·intro h' k
  exact⟨rfl,Z₄.keep fun b _ o e=>k b o e⟩
 ·rintro i O h h' it F' ⟨rfl,Z'⟩ hit _ p
  exact⟨rfl,Z'.poke p (by rw[(zCm _ _ _).1];exact hit)⟩
 ·rintro i O h h' F' ⟨rfl,Z'⟩ R
  exact⟨rfl,Z'.rel (by rw[(zCm _ _ _).1];exact off) R (fun _ _ m=>nomatch m)⟩
 ·rintro i d O s' E'' hdd Fa ⟨rfl,Za⟩
  obtain⟨y,hy,rfl⟩:∃y,xs[i]? =some y∧d= .str y:=by
   rw[List.getElem?_map]at hdd
   cases hci:xs[i]? with
   |none=>rw[hci]at hdd;cases hdd
   |some c=>rw[hci]at hdd;cases hdd;exact⟨c,rfl,rfl⟩
  have inv:=zCm (-1) (xs.take i) σ
  have Sa:Stat (hd.heap_1 w.params) s'.heap:=S.mono Fa.kg
  obtain⟨p,hp⟩:=Option.isSome_iff_exists.mp (inv.2.2.2.2.2 y (hin y (List.mem_of_getElem? hy)))
  rw[zKc _ _ _ hy]
  generalize hσ:σ.setAll (-1) (xs.take i)=σa at Za inv hp
  have offa:Off σa.addrs F.en:=by rw[inv.1];exact off
  have Fa':=Fa.reX inv.1.symm
  walk_at "sh"
  with_reducible refine zAa (zIa (EvV.run (zAj Sa G hout) Ext.rfl fun hb tkb kb=>EvV.run (zJu Za hp Fa.kx ?_ (nm_ Fa.is)) kb fun hc tkc kc=> ?_))
  ·rw[inv.2.2.2.1]
   with_reducible exact nmV_ Fa.is
  have kk:=kb.trans kc
  have Zc:SOR w hc σa:=Za.keep fun b _ o e=>kk b o e
  have ne:=NodeAddr.ne Zc (zBb hp).1
  refine zE6 (Sa.mono kk) (Zc.node p (zBb hp).1) ne.1 ne.2.1 fun he tke Ne sb=> ?_
  have ge:GO w hc he σa (σa.upd y (setNp (-1))):=Goes.np Zc hp Ne sb _ (fun _=>rfl) rfl
  obtain⟨Fe,Re,_⟩:=(Fa'.ext kk).goes ge offa
  have ae:(σa.upd y (setNp (-1))).addrs=σ.addrs:=upd_addrs.trans inv.1
  refine wpAny_execs_nil ⟨he,tke,rfl,⟨σ.addrs,(Fe.reX ae).pick ⟨rfl,rfl,rfl,trivial⟩,⟨rfl,ge.z⟩,fun _ m=> .inl m⟩,kk.rel.trans ?_⟩
  rw[inv.1]at Re
  exact Re
 ·rintro O h₅ tk₅ E' F₅ ⟨rfl,Z₅⟩ R₅
  refine wpAny_execs_nil ?_
  rw[List.length_map,List.take_length]at Z₅
  have inv:=zCm (-1) xs σ
  have S₅:Stat (hd.heap_1 w.params) h₅:=S.mono F₅.kg
  generalize hσ:σ.setAll (-1) xs=σa at Z₅ inv
  have offa:Off σa.addrs F.en:=by rw[inv.1];exact off
  have hra:σa.ready=some (l,xs):=by
   have:=congrArg (·.1) inv.2.1
   exact this.trans hr
  have hpa:σa.passed=σ.passed:=congrArg (·.2.1) inv.2.1
  have hfa:σa.finished=σ.finished:=congrArg (·.2.2) inv.2.1
  walk_at "sh"
  with_reducible refine zAa (zGw S₅ Z₅ hra ?_ ?_ fun h₆ tk₆ g₆=> ?_)
  ·omega
  ·rw[inv.2.2.1]
   with_reducible exact nmV_ F₅.is
  obtain⟨F₆,R₆,_⟩:=(F₅.reX inv.1.symm).goes g₆ offa
  have off₆:=offa.goes F₅ g₆.own
  have S₆:Stat (hd.heap_1 w.params) h₆:=S.mono F₆.kg
  walk_at "sh"
  with_reducible refine zAa (wpAny_AugAssign_AttributeAny (EvV.run (u:= .ref σa.so) ?_ Ext.rfl fun h₇ tk₇ k₇=> ?_))
  ·rw[inv.2.2.1]
   with_reducible exact nmV_ F₆.is
  have Z₇:=(g₆.then k₇).z
  refine zGs (σ:={σa with ready:=some (l,[])}) (S₆.mono k₇) Z₇ fun t₇ tk₇'=> ?_
  refine Ev.run (len_ev (zAe S₆ G zGv zGx) (nm_ F₆.is) ?_) k₇ (F₆.kx.ext k₇) fun v h₈ tk₈ k₈ r₈=> ?_
  ·simp;omega
  obtain⟨t₈,rfl⟩:=r₈.int_inv
  have kk:=k₇.trans k₈
  refine PySem.AutoIntOps.iadd_0 ?_
  refine zGu (σ:={σa with ready:=some (l,[])}) (S₆.mono kk) ((Goes.grow g₆.z kk).z) fun h₉ tk₉ g₉=> ?_
  obtain⟨F₉,R₉,_⟩:=(F₆.ext kk).goes g₉ off₆
  walk_at "sh"
  with_reducible refine zAa (zAz F₉ (nm_ F₉.is) fun v ha tka Fa ka ra=> ?_)
  have own:∀b∈σa.addrs,b∈σ.addrs∨s.heap.get? b=none:=fun b m=> .inl (by rw[←inv.1];exact m)
  have ad:∀i,({({σa with ready:=some (l,[])}:Srt)with passed:=i}:Srt).addrs=σa.addrs:=fun i=>by simp only[Srt.addrs,hra]
  refine hQ _ v ha tka ⟨Fa.kg,(g₉.then ka).z,fun b m=>own b (by rw[ad]at m;exact m),fun b m=>by rw[ad,inv.1];exact m,inv.2.2.1⟩ ra ?_ ?_
  ·exact inv.2.2.2.2.1
  ·show(some (l,[]),σa.passed+((xs.map PyData.str).length:Int),σa.finished)=_
   rw[hpa,hfa,List.length_map]
end
end P20
section M39
open PySem.Calls
section
variable {prog:Program} {w:World} {h h' h'':Heap} {A:Around} {X M O O' Ls:List Addr} {g:Heap} {env:Env} {Γ:List (Str×Bd)} {outer:List Env}
noncomputable def Up (Ls:List Addr) (h h':Heap):Prop:=∀b∈Ls,∀o,h.get? b=some o→∃sl,h'.get? b=some {o with slots:=sl}
theorem Up.of_ext (k:Ext h h'):Up Ls h h':=fun b _ o e=>⟨o.slots,k b o e⟩
theorem Up.trans (x:Up Ls h h') (y:Up Ls h' h''):Up Ls h h'':=fun b m o e=>by
 obtain⟨sl,e₁⟩:=x b m o e
 obtain⟨sl',e₂⟩:=y b m _ e₁
 exact⟨sl',e₂⟩
theorem Up.le {Ls':List Addr} (x:Up Ls h h') (s:∀b∈Ls',b∈Ls):Up Ls' h h':=fun b m=>x b (s b m)
noncomputable def Dicts (Ls:List Addr) (h:Heap):Prop:=∀b∈Ls,∃o es n,h.get? b=some o∧o.data= .dict es n
theorem Dicts.nil:Dicts [] h:=fun _ m=>nomatch m
theorem Dicts.up (D:Dicts Ls h) (u:Up Ls h h'):Dicts Ls h':=fun b m=>by
 obtain⟨o,es,n,e,hd⟩:=D b m
 obtain⟨sl,e'⟩:=u b m o e
 exact⟨_,es,n,e',hd⟩
theorem Dicts.ext (D:Dicts Ls h) (k:Ext h h'):Dicts Ls h':=D.up (Up.of_ext k)
theorem Dicts.keep (D:Dicts Ls h) (k:∀b∈Ls,∀o,h.get? b=some o→h'.get? b=some o):Dicts Ls h':=fun b m=>by
 obtain⟨o,es,n,e,hd⟩:=D b m
 exact⟨o,es,n,k b m o e,hd⟩
theorem Dicts.cons {L:Addr} (D:Dicts Ls h) (n:∃m,h.Ns L m):Dicts (L::Ls) h:=fun b m=>by
 rcases List.mem_cons.mp m with rfl|m
 ·obtain⟨m,o,es,ep,ho,hd,_⟩:=n
  exact⟨o,es,ep,ho,hd⟩
 ·exact D b m
theorem Up.of_slots (D:Dicts Ls h) (k:h.UpToSlots h'):Up Ls h h':=fun b m o e=>by
 obtain⟨o',es,n,e',hd⟩:=D b m
 rw[e]at e';cases e'
 exact k b o e fun vs q=>by rw[hd]at q;cases q
theorem Dicts.slots (D:Dicts Ls h) (k:h.UpToSlots h'):Dicts Ls h':=D.up (Up.of_slots D k)
structure Stk (A:Around) (outer:List Env) (Ls:List Addr):Prop where
 fr:A.frames=some outer
 at_:outer.map (·.frame)=Ls.map some
 kind:∀env∈outer,env.scope.kind≠ .module
theorem Stk.deeper {L:Addr} (S:Stk A outer Ls) (hf:env.frame=some L) (hk:env.scope.kind= .function):Stk (A.deeper env) (env::outer) (L::Ls):=by
 refine⟨Around.frames_deeper S.fr,by simp[hf,S.at_],fun e m=> ?_⟩
 rcases List.mem_cons.mp m with rfl|m
 ·rw[hk];decide
 ·exact S.kind e m
theorem zEw {base:Heap}:∀{outer:List Env} {Ls:List Addr},outer.map (·.frame)=Ls.map some→(∀env∈outer,env.scope.kind≠ .module)→Dicts Ls h→(∀b∈Ls,base.get? b=none)→h.FunFrames base outer
 | [],_,_,_,_,_=>trivial
 |env::outer,[],e,_,_,_=>by simp at e
 |env::outer,L::Ls,e,k,D,n=>by
  simp only[List.map_cons,List.cons.injEq]at e
  obtain⟨o,es,m,ho,hd⟩:=D L List.mem_cons_self
  exact⟨k env List.mem_cons_self,⟨L,o,e.1,n L List.mem_cons_self,ho,fun vs q=>by rw[hd]at q;cases q⟩,
   zEw e.2 (fun x m=>k x (List.mem_cons_of_mem _ m)) (fun b m=>D b (List.mem_cons_of_mem _ m)) (fun b m=>n b (List.mem_cons_of_mem _ m))⟩
theorem Stk.funs {base:Heap} (S:Stk A outer Ls) (D:Dicts Ls h) (n:∀b∈Ls,base.get? b=none):h.FunFrames base outer:=zEw S.at_ S.kind D n
structure Flies (outer:List Env) (base:Heap) (e:Addr) (cls:Value) (args:List Value) (h':Heap):Prop where
 ex:∃t,Heap.FlyingW base outer e cls (.ref t) h'∧h'.TupAt t args∧base.get? t=none
end
section
variable {M:Model} {A:Around} {E:Value→Shared→Prop} {s:Shared} {env:Env} {outer:List Env} {Ls:List Addr} {h base:Heap}
theorem zFr {L e:Addr} {cls:Value} {args:List Value} {Q:Unit→Shared→Prop} (S:Stk A (env::outer) (L::Ls)) (D:Dicts (L::Ls) h) (kb:Ext base h) (nb:∀b∈L::Ls,base.get? b=none) (hx:Heap.MadeExcOf h s.heap e cls args)
 (hQ:∀h',Flies outer base e cls args h'→Up (L::Ls) h h'→Q () {s with heap:=h'}):wpAny M A (leaving env (.ref e)) Q E s:=by
 have hf:env.frame=some L:=by have:=S.at_;simp only[List.map_cons,List.cons.injEq]at this;exact this.1
 refine wpAny_leaves_madeW S.fr hf kb (S.funs D nb) hx fun h' t f tu n up=>hQ h' ⟨t,f,tu,n⟩ ?_
 have k:Ext h s.heap:=hx.keeps
 exact(Up.of_ext k).trans (Up.of_slots (D.ext k) up)
theorem zNv {L e:Addr} {cls:Value} {args:List Value} {Q:Unit→Shared→Prop} (S:Stk A (env::outer) (L::Ls)) (D:Dicts (L::Ls) s.heap) (hx:Flies (env::outer) base e cls args s.heap)
 (hQ:∀h',Flies outer base e cls args h'→Up (L::Ls) s.heap h'→Q () {s with heap:=h'}):wpAny M A (leaving env (.ref e)) Q E s:=by
 have hf:env.frame=some L:=by have:=S.at_;simp only[List.map_cons,List.cons.injEq]at this;exact this.1
 obtain⟨t,f,tu,n⟩:=hx.ex
 exact wpAny_leaves_onW S.fr hf f fun h' f' up=>hQ h' ⟨t,f',tu.of_slots up,n⟩ (Up.of_slots D up)
theorem zKl {L e:Addr} {oe:Obj} {vs:Array Value} {a0:Value} {Q:Unit→Shared→Prop} (hfr:A.frames=some (env::outer)) (hl:s.heap.FunFrames base (env::outer)) (hf:env.frame=some L)
 (he:s.heap.get? e=some oe) (kb:Ext base s.heap) (hen:base.get? e=none) (hd:oe.data= .fields vs) (h1:vs[1]? =some .none) (h0:vs[0]? =some a0)
 (hQ:∀h',Heap.HeldW base (env::outer) e oe.cls a0 L h'→s.heap.UpToSlots h'→Q () {s with heap:=h'}):wpAny M A (noteFrame (.ref e) env) Q E s:=by
 unfold noteFrame
 simp only[hf]
 refine wpAny_bind (wpAny_field he hd h1 ?_)
 rw[if_neg (by decide)]
 exact wpAny_entryW hfr hl hf he kb hen hd (Array.getElem?_eq_some_iff.mp h1).1 h0 fun h' ⟨x1,x2,x3,x4⟩=>hQ h' ⟨x1,hen,x2,x3⟩ x4
end
section
variable {prog:Program} {w:World} {h h':Heap} {A:Around} {X M O O' Ls:List Addr} {g:Heap} {env:Env} {Γ:List (Str×Bd)} {s:Shared} {E:Value→Shared→Prop} {Q:Flow→Shared→Prop}
theorem zNy {O₀:List Addr} {x:Str} {px pos:Pos} {iter:Expr} {body orelse:List Stmt} {ds:List PyData} (hE:PassesOwn (model prog w) A env E) (src:Src prog w A (O₀++X) s.heap (eval iter env) ds)
 (Γ:Nat→List (Str×Bd)) (J:Nat→List Addr→Heap→Prop) (F:Fn g (O₀++X) (O₀++M) s.heap env (Γ 0)) (j:∀h',Ext s.heap h'→J 0 O₀ h') (hx:Stores env x)
 (pk:∀i O h h' it,Fn g (O++X) (O++M) h env (Γ i)→J i O h→it∉O→it∉X→Poke it h h'→J i O h')
 (sk:∀i O h h',Fn g (O++X) (O++M) h env (Γ i)→J i O h→Rel [] env h h'→J i O h')
 (turn:∀i d O (s':Shared),(∃h' tk,s'=(sat s h' tk))→ds[i]? =some d→Fn g (O++X) (O++M) s'.heap env ((x, .d d)::Γ i)→J i O s'.heap→
  wpAny (model prog w) A (execs body env) (fun fl s''=>match fl with
   | .next| .cont=>∃h' tk,s''=(sat s' h' tk)∧Turned g X M env (Γ (i+1)) (J (i+1)) O s'.heap h'
   | .brk=>Q .next s''
   | .ret v=>Q (.ret v) s'') E s')
 (done:∀O h' tk,Fn g (O++X) (O++M) h' env (Γ ds.length)→J ds.length O h'→Rel (O₀++M) env s.heap h'→wpAny (model prog w) A (execs orelse env) Q E (sat s h' tk))
 (hs:autoParam (∀x,foldedSetIterable iter env x=pure x) aS):wpAny (model prog w) A (exec (.For (.Name x px) iter body orelse pos) env) Q E s:=by
 refine wpAny_For (src s _ _ Ext.rfl F.kx fun v h₁ tk₁ k₁ it=>it _ _ fun o fp P St S no=> ?_) hs
 refine zH4 (O₀:=O₀) (X:=X) (M:=M) S rfl Γ J (F.ext k₁) (j _ (k₁.trans (Ext.push _ _))) hx no pk sk ?_ ?_
 ·intro i d O s' ⟨h',tk,es⟩ hd F' j
  refine wpAny_mono (wpAny_passesOwn hE (turn i d O s' ⟨h',tk,es⟩ hd F' j)) (fun fl s'' q=> ?_) fun _ _ e=>e
  cases fl with
  |next=>exact q
  |cont=>exact q
  |brk=>exact q
  |ret v=>exact q
 ·intro O h' tk F' j r
  exact wpAny_passesOwn hE (done O h' tk F' j (k₁.rel.trans r))
theorem Fn.moved (F:Fn g (O++X) (O++M) h env Γ) (f:Off O env) (D:Dicts Ls h) (keep:∀b o,b∉O→b∉Ls→h.get? b=some o→h'.get? b=some o) (up:Up Ls h h') (lm:∀b∈Ls,b=env.locals∨b∈M)
 (own:∀b∈O',b∈O∨h.get? b=none) (sub:∀b∈O,b∈O') (al:∀b∈O',∃o,h'.get? b=some o):
 Fn g (O'++X) (O'++M) h' env Γ∧Rel (O++M) env h h'∧SExt (hid (O++X) h) (hid (O'++X) h'):=by
 have notLs:∀b o,h.get? b=some o→(∀es n,o.data≠ .dict es n)→b∉Ls:=fun b o e hd m=>by
  obtain⟨o',es,n,e',hd'⟩:=D b m
  rw[e]at e';cases e'
  exact hd es n hd'
 have S:SExt (hid (O++X) h) (hid (O'++X) h'):=fun b o e q=>by
  have n:=zAh e
  have e':=zAf _ _ _ _ e
  refine zAb (keep b o (fun m=>n (List.mem_append_left _ m)) (notLs b o e' fun es m z=>by obtain⟨_,_,q⟩:=q;rw[q]at z;cases z) e') fun m=> ?_
  rcases List.mem_append.mp m with m|m
  ·rcases own b m with m|m
   ·exact n (List.mem_append_left _ m)
   ·rw[e']at m;cases m
  ·exact n (List.mem_append_right _ m)
 have kl:env.locals∉O:=fun m=>(f _ m).1 _root_.rfl
 have kc:∀n c,env.cells.lookup n=some c→c∉O:=fun n c e m=>(f _ m).2 n e
 have cellK:∀{n c v},env.cells.lookup n=some c→h.IsCell c v→h'.IsCell c v:=fun{n c v} e ⟨o,ho,hd⟩=>
  ⟨o,keep _ _ (kc n c e) (notLs _ o ho fun es m z=>by rw[hd]at z;cases z) ho,hd⟩
 have nsK:∀{m},h.Ns env.locals m→h'.Ns env.locals m:=fun{m} ⟨o,es,ep,ho,hd,r⟩=>by
  by_cases hl:env.locals∈Ls
  ·obtain⟨sl,e⟩:=up _ hl o ho
   exact⟨_,es,ep,e,hd,r⟩
  ·exact⟨o,es,ep,keep _ o kl hl ho,hd,r⟩
 refine⟨⟨⟨F.is.fn,?_,?_,F.is.inj,?_⟩,?_,F.outL,F.outC,?_,?_,?_⟩,fun b o n nl _ e=> ?_,S⟩
 ·obtain⟨m,n⟩:=F.is.ns
  exact⟨m,nsK n⟩
 ·intro n c e
  obtain⟨v,q⟩:=F.is.cell n c e
  exact⟨v,cellK e q⟩
 ·intro z b e
  obtain⟨u,su,ru⟩:=F.is.see z b e
  refine⟨u,?_,ru.mono S⟩
  rcases su with⟨q,m,n,em⟩|⟨q,c,ec,hc⟩
  ·exact .inl ⟨q,m,nsK n,em⟩
  ·exact .inr ⟨q,c,ec,cellK ec hc⟩
 ·intro b o e
  refine keep b o (fun m=> ?_) (fun m=> ?_) (F.kg b o e)
  ·rw[F.outM b (List.mem_append_left _ m)]at e;cases e
  ·rcases lm b m with rfl|m
   ·rw[F.outL]at e;cases e
   ·rw[F.outM b (List.mem_append_right _ m)]at e;cases e
 ·intro b m
  rcases List.mem_append.mp m with m|m
  ·rcases own b m with m|m
   ·exact F.outM b (List.mem_append_left _ m)
   ·cases e:g.get? b with
    |none=>rfl
    |some o=>rw[F.kg b o e]at m;cases m
  ·exact F.outM b (List.mem_append_right _ m)
 ·intro b m
  rcases List.mem_append.mp m with m|m
  ·exact List.mem_append_left _ m
  ·rcases List.mem_append.mp (F.sub b (List.mem_append_right _ m))with m|m
   ·exact List.mem_append_left _ (sub b m)
   ·exact List.mem_append_right _ m
 ·intro b m
  rcases List.mem_append.mp m with m|m
  ·exact al b m
  ·by_cases q:b∈O
   ·exact al b (sub b q)
   ·obtain⟨o,e⟩:=F.kx b (List.mem_append_right _ m)
    by_cases ql:b∈Ls
    ·obtain⟨sl,e'⟩:=up b ql o e
     exact⟨_,e'⟩
    ·exact⟨o,keep b o q ql e⟩
 ·refine keep b o (fun m=>n (List.mem_append_left _ m)) (fun m=> ?_) e
  rcases lm b m with rfl|m
  ·exact nl rfl
  ·exact n (List.mem_append_right _ m)
end
end M39
section P21
section
variable {w:World} {A:Around} {X M:List Addr} {h h':Heap} {g:Heap} {env:Env} {Γ:List (Str×Bd)}
noncomputable def nodeMsg (x tail:Str):Str:=Str.empty++"node "++reprText x++tail
theorem zL8 {e:Expr} {x tail:Str} {k₁ k₃:Nat} {p₁ p₂ p₃ pos:Pos} (he:Ev PR w A X h (eval e env) (.str x)) (hx:(reprText x).length≤100000) (ht:tail.length≤1000)
 (hev:autoParam (evalEach [.Constant (.str "node ") k₁ p₁, .FormattedValue e 114 none p₂, .Constant (.str tail) k₃ p₃] env=[eval (.Constant (.str "node ") k₁ p₁) env,eval (.FormattedValue e 114 none p₂) env,eval (.Constant (.str tail) k₃ p₃) env]) aR):
 Ev PR w A X h (eval (.JoinedStr [.Constant (.str "node ") k₁ p₁, .FormattedValue e 114 none p₂, .Constant (.str tail) k₃ p₃] pos) env) (.str (nodeMsg x tail)):=by
 intro s Q E k kx hQ
 refine wpAny_JoinedStr ?_
 rw[hev]
 have n5:("node ":Str).length=5:=rfl
 have n0:Str.empty.length=0:=rfl
 have z:(nodeMsg x tail).length≤sizeLine:=by
  unfold nodeMsg
  simp only[Str.length_append,n5,n0]
  unfold sizeLine;omega
 have z2:(Str.empty++"node "++reprText x).length≤sizeLine:=by
  simp only[Str.length_append,n5,n0]
  unfold sizeLine;omega
 have z3:(Str.empty++"node ").length≤sizeLine:=by decide
 show wpAny _ _ (eval (.Constant (.str "node ") k₁ p₁) env) _ _ _
 refine wpAny_Constant_str ⟨_,_,rfl,z3,?_⟩
 show wpAny _ _ (eval (.FormattedValue e 114 none p₂) env) _ _ _
 refine wpAny_FormattedValue_repr (he.run k kx fun v h₁ tk₁ k₁ r₁=> ?_)
 obtain⟨t,rfl⟩:=r₁.str_inv
 refine wpAny_pyReprObj_str ?_ (by unfold sizeLine;omega)
 refine PyProof.Rows.formatField_str (fun t' tk=>⟨_,_,rfl,z2,?_⟩) (by unfold sizeLine;omega)
 show wpAny _ _ (eval (.Constant (.str tail) k₃ p₃) env) _ _ _
 refine wpAny_Constant_str ⟨_,_,rfl,z,?_⟩
 exact⟨z,hQ _ _ _ k₁ (Rd.str _ _)⟩
theorem reprText_len' (x:Str) (hx:x.length≤9000) (hc:∀c∈x.cps.toList,c<16 ^ 8):(reprText x).length≤100000:=by
 have:=StrLaws.reprText_len x hc
 omega
theorem zDq {l r:Expr} {op:CmpOp} {pos:Pos} {a b:Int} {c:Bool} (ha:Ev PR w A X h (eval l env) (.int a)) (hb:Ev PR w A X h (eval r env) (.int b))
 (C:∀(s:Shared) (t u:Tok) (Q:Value→Shared→Prop) (E:Value→Shared→Prop),Q (.bool c) s→wpAny (model PR w) A (compareOp op (.int a t) (.int b u)) Q E s)
 (hm:autoParam (behindInMarks op r=false) aR) {whole:Sem Value}:EvB PR w A X h (isTrue (.Compare l [op] [r] pos) env whole) c:=by
 refine zAs ha hb ?_ hm
 intro s u v Q E ra rb hQ
 obtain⟨_,rfl⟩:=Rd.int_inv ⟨rfl,ra⟩
 obtain⟨_,rfl⟩:=Rd.int_inv ⟨rfl,rb⟩
 exact C s _ _ Q E hQ
theorem cmpI_ne {a b:Int}:∀(s:Shared) (t u:Tok) (Q:Value→Shared→Prop) (E:Value→Shared→Prop),Q (.bool (a !=b)) s→wpAny (model PR w) A (compareOp .NotEq (.int a t) (.int b u)) Q E s:=fun _ _ _ _ _ h=>PyProof.Rows.ne_int h
theorem zH9 {a b:Int}:∀(s:Shared) (t u:Tok) (Q:Value→Shared→Prop) (E:Value→Shared→Prop),Q (.bool (a==b)) s→wpAny (model PR w) A (compareOp .Eq (.int a t) (.int b u)) Q E s:=fun _ _ _ _ _ h=>PyProof.Rows.eq_int h
theorem zOh {a b:Int}:∀(s:Shared) (t u:Tok) (Q:Value→Shared→Prop) (E:Value→Shared→Prop),Q (.bool (decide (a≥b))) s→wpAny (model PR w) A (compareOp .GtE (.int a t) (.int b u)) Q E s:=fun _ _ _ _ _ h=>PySem.P.ge_int h
theorem zK5 {s:Shared} {Q:Flow→Shared→Prop} {E:Value→Shared→Prop} {f:Str} {np cpos pos:Pos} {e:Expr} {d:Str} (hh:A.handled=none) (hf:EvV PR w A s.heap (eval (.Name f np) env) (.type "ValueError")) (he:Ev PR w A X s.heap (eval e env) (.str d)) (kx:XOk X s.heap)
 (hQ:∀h₁ h' t e tk,Ext s.heap h₁→Heap.MadeExcOf h₁ h' e (.type "ValueError") [.str d t]→E (.ref e) (sat s h' tk))
 (hs:autoParam (starEach [e] env=(false,eval e env)::starEach [] env) aR):
 wpAny (model PR w) A (exec (.Raise (some (.Call (.Name f np) [e] [] cpos)) none pos) env) Q E s:=by
 refine PyProof.Rows.Raise_madeB PySem.F.excCall_ValueError PySem.F.excRaise_ValueError hh (EvV.run hf Ext.rfl fun h₁ tk₁ k₁=>⟨rfl,?_⟩) hs rfl
 refine wpAny_items_cons (he.run k₁ (kx.ext k₁) fun v h₂ tk₂ k₂ r₂=>wpAny_items_nil ?_) hs
 obtain⟨t,rfl⟩:=r₂.str_inv
 exact⟨by simp[sizeLine],fun h' e hx=>hQ h₂ h' t e _ (k₁.trans k₂) hx.of⟩
end
end P21
section P22
section
variable {w:World} {A:Around} {X M O O' Ls:List Addr} {h h':Heap} {g:Heap} {env:Env} {Γ:List (Str×Bd)}
noncomputable def flatB:Bd→Bool
 | .v _| .d (.str _)| .d (.int _)| .d .none| .d (.bool _)=>true
 |_=>false
theorem flat_is {b:Bd} {v:Value} (f:flatB b=true) (r:BdIs h b v):BdIs h' b v:=by
 cases b with
 |v u=>exact r
 |d d=>
  cases d with
  |str x=>obtain⟨t,rfl⟩:=Rd.str_inv r;exact Rd.str _ _
  |int x=>obtain⟨t,rfl⟩:=Rd.int_inv r;exact Rd.int _ _
  |none=>rw[show v= .none from Rd.none_inv r];exact Rd.none
  |bool b=>rw[show v= .bool b from Rd.bool_inv r];exact Rd.bool _
  |_=>cases f
theorem Fn.shrink (F:Fn g (O++X) (O++[]) h env Γ) (s:∀b∈O',b∈O):Fn g (O'++X) (O'++[]) h env Γ:=by
 have le:∀{Y:List Addr} (b:Addr),b∈O'++Y→b∈O++Y:=fun b m=>(List.mem_append.mp m).elim (fun m=>List.mem_append_left _ (s b m)) fun m=>List.mem_append_right _ m
 refine⟨F.is.view (fun _ _ e _=>e) fun b o e _=>zAb (zAf _ _ _ _ e) fun m=>zAh e (le b m),F.kg,F.outL,F.outC,fun b m=>F.outM b (le b m),fun b m=> ?_,fun b m=>F.kx b (le b m)⟩
 rw[List.append_nil]at m
 exact List.mem_append_left _ m
theorem Fn.swell (F:Fn g (O'++X) (O'++[]) h env Γ) (fl:Γ.all (fun y=>flatB y.2)=true) (al:∀b∈O,∃o,h.get? b=some o) (out:∀b∈O,g.get? b=none):Fn g (O++X) (O++[]) h env Γ:=by
 refine⟨⟨F.is.fn,F.is.ns,F.is.cell,F.is.inj,fun x b e=> ?_⟩,F.kg,F.outL,F.outC,fun b m=>out b (by simpa using m),fun b m=>List.mem_append_left _ (by simpa using m),fun b m=> ?_⟩
 ·obtain⟨v,sv,r⟩:=F.is.see x b e
  refine⟨v,sv,flat_is ?_ r⟩
  have:=List.all_eq_true.mp fl (x,b) (mem_of_lookup e)
  exact this
 ·rcases List.mem_append.mp m with m|m
  ·exact al b m
  ·exact F.kx b (List.mem_append_right _ m)
theorem Off.dicts {Ls:List Addr} (F:Fn g X M h env Γ) (D₀:Dicts Ls g) (D:Dicts Ls h):Off Ls env:=by
 intro b hb
 constructor
 ·rintro rfl
  obtain⟨o,_,_,e,_⟩:=D₀ _ hb
  rw[F.outL]at e;cases e
 ·intro n hn
  obtain⟨u,o',ho,hd⟩:=F.is.cell n b hn
  obtain⟨o,es,m,e,hd'⟩:=D b hb
  rw[e]at ho;cases ho
  rw[hd']at hd;cases hd
noncomputable def Srt.pushReady (σ:Srt) (y:Str):Srt:={σ with ready:=σ.ready.map fun p=>(p.1,p.2++[y])}
noncomputable def Srt.rel1 (σ:Srt) (y:Str):Srt:=if(σ.at y).map (fun p=>p.1.np)=some 1 then(σ.upd y (addNp (-1))).pushReady y else σ.upd y (addNp (-1))
noncomputable def Srt.done1 (σ:Srt) (x:Str) (succ:List Str):Srt:={succ.foldl Srt.rel1 (σ.upd x (setNp (-2)))with finished:=σ.finished+1}
theorem zGc {σ:Srt} {y:Str}:(σ.pushReady y).addrs=σ.addrs:=by
 unfold Srt.pushReady Srt.addrs
 cases σ.ready<;>rfl
structure SameSrt (σ σ':Srt):Prop where
 addrs:σ'.addrs=σ.addrs
 so:σ'.so=σ.so
 dn:σ'.dn=σ.dn
 at_:∀x,(σ.at x).isSome=true→(σ'.at x).isSome=true
 rd:σ'.ready.map (·.1)=σ.ready.map (·.1)
 fin:σ'.finished=σ.finished
 ad:∀x,(σ'.at x).map (·.2)=(σ.at x).map (·.2)
theorem SameSrt.rfl {σ:Srt}:SameSrt σ σ:=⟨_root_.rfl,_root_.rfl,_root_.rfl,fun _ h=>h,_root_.rfl,_root_.rfl,fun _=>_root_.rfl⟩
theorem SameSrt.trans {σ σ' σ'':Srt} (a:SameSrt σ σ') (b:SameSrt σ' σ''):SameSrt σ σ'':=⟨b.addrs.trans a.addrs,b.so.trans a.so,b.dn.trans a.dn,fun x h=>b.at_ x (a.at_ x h),b.rd.trans a.rd,b.fin.trans a.fin,fun x=>(b.ad x).trans (a.ad x)⟩
theorem zCc {σ:Srt} {y:Str} {f:Node→Node} (hf:∀n,(f n).name=n.name):SameSrt σ (σ.upd y f):=⟨upd_addrs,_root_.rfl,_root_.rfl,fun x h=>by rw[zLb hf];simpa using h,_root_.rfl,_root_.rfl,fun x=>by rw[zLb hf,Option.map_map];congr 1;funext p;simp only[Function.comp];split<;>rfl⟩
theorem zN8 {σ:Srt} {y:Str}:SameSrt σ (σ.pushReady y):=⟨zGc,_root_.rfl,_root_.rfl,fun _ h=>h,by cases h:σ.ready<;>simp[Srt.pushReady,h],_root_.rfl,fun _=>_root_.rfl⟩
theorem same_rel1 {σ:Srt} {y:Str}:SameSrt σ (σ.rel1 y):=by
 unfold Srt.rel1
 split
 ·exact(zCc (f:=addNp (-1)) fun _=>_root_.rfl).trans zN8
 ·exact zCc (f:=addNp (-1)) fun _=>_root_.rfl
theorem zBu:∀(ys:List Str) {σ:Srt},SameSrt σ (ys.foldl Srt.rel1 σ)
 | [],_=>SameSrt.rfl
 |_::ys,_=>same_rel1.trans (zBu ys)
theorem zGo {s:Shared} {Q:Flow→Shared→Prop} {E:Value→Shared→Prop} {σ:Srt} {y:Str} {o e:Expr} {ap apos cpos epos:Pos} {l:Addr} {xs:List Str}
 (S:Stat (hd.heap_1 w.params) s.heap) (Z:SOR w s.heap σ) (hr:σ.ready=some (l,xs)) (kx:XOk X s.heap) (ho:EvV PR w A s.heap (eval o env) (.ref σ.so)) (ha:Ev PR w A X s.heap (eval e env) (.str y)) (hsz:xs.length≤10000)
 (hQ:∀h' tk,GO w s.heap h' σ (σ.pushReady y)→(∀b o,b≠l→s.heap.get? b=some o→h'.get? b=some o)→Q .next (sat s h' tk))
 (hi:autoParam (interactive env=false) aR) (hs:autoParam (swapsWith (.Call (.Attribute (.Attribute o "_ready_nodes" ap) "append" apos) [e] [] cpos) none epos.line env=pure false) aR)
 (hbase:autoParam (attributeBase (.Attribute o "_ready_nodes" ap) "append" env (eval (.Attribute o "_ready_nodes" ap) env)=eval (.Attribute o "_ready_nodes" ap) env) aR) (hst:autoParam (starEach [e] env=[(false,eval e env)]) aR) (hline:autoParam ((apos.endLine==cpos.line)=true) aR)
 (he:autoParam (attrIs o "_ready_nodes" ap env) aR):
 wpAny (model PR w) A (exec (.Expr (.Call (.Attribute (.Attribute o "_ready_nodes" ap) "append" apos) [e] [] cpos) epos) env) Q E s:=by
 refine wpAny_Expr ?_ hi hs
 refine wpAny_Call_append hbase (by rw[hst];rfl) hline (by rw[hst];rfl) ?_
 refine EvV.run (zCz (A:=A) S Z hr ho he) Ext.rfl fun h₁ tk₁ k₁=> ?_
 obtain⟨ps,⟨n₀,pl⟩,eps⟩:=Z.ready _ hr
 refine⟨l,_,rfl,⟨_,n₀,k₁ _ _ pl,rfl,rfl,rfl⟩,Ev.run ha k₁ (kx.ext k₁) fun v h₂ tk₂ k₂ r₂=> ?_⟩
 obtain⟨t,rfl⟩:=r₂.str_inv
 have k:=k₁.trans k₂
 have len:ps.length=xs.length:=by
  have:=congrArg List.length eps
  simpa using this
 have szz:(strValues ps).toArray.size≤sizeLine:=by
  simp only[strValues,List.size_toArray,List.length_map];unfold sizeLine;omega
 refine wpAny_list_append_plain (hsz:=szz) (s:=(sat s h₂ tk₂)) ⟨n₀,k _ _ pl⟩ fun h₃ pl₃ sb=> ?_
 have e':σ.pushReady y={σ with ready:=some (l,xs++[y])}:=by unfold Srt.pushReady;rw[hr];rfl
 refine hQ h₃ tk₂ ((Goes.grow Z k).trans ?_) fun b o n e=>sb.extBut b o n (k _ _ e)
 rw[e']
 refine Goes.setReady (Z.keep fun b _ o e=>k _ _ e) hr ⟨ps++[(y,t)],?_,?_⟩ fun b o n e=>sb.extBut b o n e
 ·simpa[strValues]using pl₃
 ·simp only[List.map_append,List.map_cons,List.map_nil]
  rw[show ps.map (·.1)=xs from eps]
theorem Fn.moved1 {a:Addr} (F:Fn g (O++X) (O++[]) h env Γ) (f:Off O env) (ha:a∈O) (sb:∀b o,b≠a→h.get? b=some o→h'.get? b=some o) (al:∃o,h'.get? a=some o):Fn g (O++X) (O++[]) h' env Γ∧Rel (O++[]) env h h':=by
 have m:=F.moved (Ls:=[]) (O':=O) f Dicts.nil (fun b o n _ e=>sb b o (fun z=>n (z▸ha)) e) (fun _ m=>nomatch m) (fun _ m=>nomatch m) (fun b m=> .inl m) (fun b m=>m) (fun b m=>by
  by_cases q:b=a
  ·rw[q];exact al
  ·obtain⟨o,e⟩:=F.kx b (List.mem_append_left _ m)
   exact⟨o,sb b o q e⟩)
 exact⟨m.1,m.2.1⟩
theorem zLy {σ:Srt} {l:Addr} {xs:List Str} {y:Str} (hr:σ.ready=some (l,xs)):∃xs',(σ.rel1 y).ready=some (l,xs')∧xs'.length≤xs.length+1:=by
 unfold Srt.rel1
 split
 ·refine⟨xs++[y],?_,by simp⟩
  show(σ.ready.map fun p=>(p.1,p.2++[y]))=_
  rw[hr];rfl
 ·exact⟨xs,hr,by omega⟩
theorem zHk:∀(ys:List Str) {σ:Srt} {l:Addr} {xs:List Str},σ.ready=some (l,xs)→∃xs',(ys.foldl Srt.rel1 σ).ready=some (l,xs')∧xs'.length≤xs.length+ys.length
 | [],_,_,xs,hr=>⟨xs,hr,by simp⟩
 |y::ys,_,_,_,hr=>by
  obtain⟨x1,h1,l1⟩:=zLy (y:=y) hr
  obtain⟨x2,h2,l2⟩:=zHk ys h1
  exact⟨x2,h2,by simp only[List.length_cons];omega⟩
noncomputable def doneMsg (σ:Srt) (x:Str):Option Str:=
 match σ.at x with
 |none=>some (nodeMsg x " was not added using add()")
 |some p=>if p.1.np= -1 then none else if 0≤p.1.np then some (nodeMsg x " was not passed out (still not ready)")else some (nodeMsg x " was already marked done")
end
end P22
section P23
section
variable {w:World} {A:Around} {X M O O' Ls:List Addr} {h h':Heap} {g:Heap} {env:Env} {Γ:List (Str×Bd)} {outer:List Env}
theorem ev_np {n:Node} {a:NodeAddr} {o:Expr} {ap:Pos} (S:Stat (hd.heap_1 w.params) h) (N:NodeAt 155 h n a) (ho:EvV PR w A h (eval o env) (.ref a.i)) (he:autoParam (attrIs o "npredecessors" ap env) aR):
 Ev PR w A X h (eval (.Attribute o "npredecessors" ap) env) (.int n.np):=by
 obtain⟨⟨t₁,t₂,e⟩,e2,l⟩:=N
 exact EvV.d (zDe S.k ho e e2 rfl i_g2 zJv i_f2 i_n2 i_k2 i_s2 rfl he) (Rd.int _ _)
theorem ev_succ {n:Node} {a:NodeAddr} {o:Expr} {ap:Pos} (S:Stat (hd.heap_1 w.params) h) (N:NodeAt 155 h n a) (ho:EvV PR w A h (eval o env) (.ref a.i)) (hl:a.l∉X) (he:autoParam (attrIs o "successors" ap env) aR):
 Ev PR w A X h (eval (.Attribute o "successors" ap) env) (.list (n.succ.map .str)):=by
 obtain⟨⟨t₁,t₂,e⟩,e2,ps,⟨m,pl⟩,eps⟩:=N
 refine EvV.d (zDe S.k ho e e2 rfl i_g3 zJv i_f3 i_n3 i_k3 i_s3 rfl he) ?_
 rw[←eps]
 exact Rd.list (vs:=(strValues ps).toArray) ⟨_,zAb pl hl,rfl,m,rfl⟩ (by simpa using zH1 ps)
theorem zEa {s:Shared} {Q:Flow→Shared→Prop} {Ee:Value→Shared→Prop} {base:Heap} {x tail n:Str} {k₁ k₃:Nat} {np cpos pos p₁ p₂ p₃ jp npos:Pos} (hh:A.handled=none) (stk:Stk (A.deeper env) (env::outer) (env.locals::Ls)) (G:GEnv env) (F:Fn g X M s.heap env Γ) (S:Stat (hd.heap_1 w.params) s.heap)
 (kb:Ext base s.heap) (nb:∀b∈env.locals::Ls,base.get? b=none) (D:Dicts Ls s.heap) (hx:(reprText x).length≤100000) (ht:tail.length≤1000)
 (hE:∀t e h' tk,Flies outer base e (.type "ValueError") [.str (nodeMsg x tail) t] h'→Up Ls s.heap h'→Ee (.ref e) (sat s h' tk))
 (hn:Ev PR w (A.deeper env) X s.heap (eval (.Name n npos) env) (.str x))
 (hv:autoParam (env.kindOf "ValueError"=some .globalImplicit) aR)
 (hs:autoParam (starEach [.JoinedStr [.Constant (.str "node ") k₁ p₁, .FormattedValue (.Name n npos) 114 none p₂, .Constant (.str tail) k₃ p₃] jp] env=(false,eval (.JoinedStr [.Constant (.str "node ") k₁ p₁, .FormattedValue (.Name n npos) 114 none p₂, .Constant (.str tail) k₃ p₃] jp) env)::starEach [] env) aR)
 (hev:autoParam (evalEach [.Constant (.str "node ") k₁ p₁, .FormattedValue (.Name n npos) 114 none p₂, .Constant (.str tail) k₃ p₃] env=[eval (.Constant (.str "node ") k₁ p₁) env,eval (.FormattedValue (.Name n npos) 114 none p₂) env,eval (.Constant (.str tail) k₃ p₃) env]) aR):
 wpAny (model PR w) (A.deeper env) (exec (.Raise (some (.Call (.Name "ValueError" np) [.JoinedStr [.Constant (.str "node ") k₁ p₁, .FormattedValue (.Name n npos) 114 none p₂, .Constant (.str tail) k₃ p₃] jp] [] cpos)) none pos) env) Q (Leave PR w A env Ee) s:=by
 refine zK5 (X:=X) hh (zAe S G zCi zCh (by decide) hv) (zL8 hn hx ht hev) F.kx (fun h₁ h₂ t e tk k₁ hx=> ?_) hs
 have D':Dicts (env.locals::Ls) h₁:=(D.cons F.is.ns).ext k₁
 exact zFr stk D' (kb.trans k₁) nb hx fun h' fl up=>hE t e h' tk fl ((Up.of_ext k₁).trans (up.le fun b m=>List.mem_cons_of_mem _ m))
theorem zFn {s:Shared} {Q:Flow→Shared→Prop} {E:Value→Shared→Prop} {σ:Srt} {o:Expr} {ap pos cp:Pos} {k:Nat} (S:Stat (hd.heap_1 w.params) s.heap) (Z:SOR w s.heap σ) (ho:EvV PR w A s.heap (eval o env) (.ref σ.so))
 (hQ:∀h' tk,GO w s.heap h' σ {σ with finished:=σ.finished+1}→Q .next (sat s h' tk)):wpAny (model PR w) A (exec (.AugAssign (.Attribute o "_nfinished" ap) .Add (.Constant (.int 1) k cp) pos) env) Q E s:=by
 refine wpAny_AugAssign_AttributeAny (EvV.run ho Ext.rfl fun ha tka ka=> ?_)
 have Zaa:SOR w ha σ:=Z.keep fun b _ o e=>ka b o e
 refine zEz (S.mono ka) Zaa fun t₁ tk₁'=> ?_
 refine wpAny_Constant_int ?_
 refine PySem.AutoIntOps.iadd_0 ?_
 refine zEy (S.mono ka) Zaa fun hz tkz gz=> ?_
 exact hQ hz tkz ((Goes.grow Z ka).trans gz)
theorem zOn {σ σn:Srt} {x:Str} {succ:List Str} {h₉ hz:Heap} {g:Heap} {Γ:List (Str×Bd)} (F:Fn g (σ.addrs++Ls) (σ.addrs++[]) h₉ env Γ) (off:Off σ.addrs env) (sm:SameSrt σ σn) (hσn:σn=succ.foldl Srt.rel1 (σ.upd x (setNp (-2))))
 (gz:GO w h₉ hz σn {σn with finished:=σn.finished+1}):Fn g (σ.addrs++Ls) (σ.addrs++[]) hz env Γ∧Rel (σ.addrs++[]) env h₉ hz∧SOR w hz (σ.done1 x succ):=by
 have offn:Off σn.addrs env:=by rw[sm.addrs];exact off
 obtain⟨Fz,Rz,_⟩:=(F.reX sm.addrs.symm).goes gz offn
 have adz:({σn with finished:=σn.finished+1}:Srt).addrs=σ.addrs:=sm.addrs
 have e1:σ.done1 x succ={σn with finished:=σn.finished+1}:=by
  unfold Srt.done1;rw[←hσn,sm.fin]
 refine⟨Fz.reX adz,?_,by rw[e1];exact gz.z⟩
 rw[sm.addrs]at Rz
 exact Rz
inductive DI (w:World) (s:Heap) (Ls:List Addr) (x:Str) (σ:Srt) (i:Nat):List Addr→Heap→Prop
 |mk {h:Heap} (j0:i=0→∀b,b∈σ.addrs∨b∈Ls→∀o,s.get? b=some o→h.get? b=some o) (j1:i=1→∃p,σ.at x=some p∧p.1.np= -1∧SOR w h (σ.done1 x p.1.succ)):DI w s Ls x σ i σ.addrs h
noncomputable abbrev nS (σ:Srt):List (Str×Bd):=[("n2i", .v (.ref σ.dn)),("self", .v (.ref σ.so))]
noncomputable abbrev Srt.wo (σ:Srt) (l:Addr):List Addr:=σ.addrs.filter fun b=>decide (b≠l)
theorem done_is {s:Shared} {Q:Value→Shared→Prop} {E:Value→Shared→Prop} {σ:Srt} {x:Str} {t₀:Tok} {l:Addr} {xs:List Str} (S:Stat (hd.heap_1 w.params) (hid (σ.addrs++Ls) s.heap)) (rm:Room A 6) (stk:Stk A outer Ls) (D:Dicts Ls s.heap) (dj:∀b∈Ls,b∉σ.addrs)
 (Z:SOR w s.heap σ) (hr:σ.ready=some (l,xs)) (few:Few σ.abs 1000) (hxs:xs.length≤1000) (hin:∀p,σ.at x=some p→∀y∈p.1.succ,(σ.at y).isSome=true) (hnp:∀p,σ.at x=some p→ -2≤p.1.np) (hx:x.length≤9000) (hc:∀c∈x.cps.toList,c<16 ^ 8)
 (hQ:∀p h' tk,σ.at x=some p→p.1.np= -1→GO w s.heap h' σ (σ.done1 x p.1.succ)→Q .none (sat s h' tk))
 (hE:∀m t e h' tk,doneMsg σ x=some m→Flies outer (hid Ls s.heap) e (.type "ValueError") [.str m t] h'→Up Ls s.heap h'→E (.ref e) (sat s h' tk)):
 wpAny (model PR w) A (call (.ref 235) [.ref σ.so, .str x t₀]) Q E s:=by
 have Sg:Stat (hd.heap_1 w.params) s.heap:=S.mono (zAf _ _)
 have kl:XOk Ls s.heap:=fun b m=>let⟨o,_,_,e,_⟩:=D b m;⟨o,e⟩
 have kx:XOk (σ.addrs++Ls) s.heap:=fun b m=>(List.mem_append.mp m).elim (Z.alive b) (kl b)
 refine' zBc (X:=σ.addrs++Ls) (n:=5) [("self", .v (.ref σ.so)),("nodes", .d (.tuple [.str x]))] Sg ?ho ?hcd rm kx ?hb (show(["self","nodes"]:List Str).Nodup by decide) ?kind ?_ ?hco ?hgen ?hk
 case ho=>k_is
 case hcd=>k_is
 case kind=>rfl
 case hco=>rfl
 case hgen=>rfl
 case hk=>rfl
 case hb=>
  refine zEn (ps:=["self"]) (vs:=[.ref σ.so]) (ws:=[.str x t₀]) (p:="nodes") (bs:=[("self", .v (.ref σ.so))]) (ds:=[.str x]) kx rfl (.cons rfl .nil) (.cons (Rd.str _ _) .nil) (by simp[sizeLine])
 intro L h₁ tk F₀ G
 have F:=F₀.lendX
 have Z₁:SOR w h₁ σ:=Z.keep fun b _ o e=>F₀.kg b o e
 have off:Off σ.addrs F.en:=Off.enter F₀ Z Z₁
 have D₁:Dicts Ls h₁:=D.ext F₀.kg
 have offL:Off Ls F.en:=Off.dicts F₀ D D₁
 have S₁:=Sg.mono F₀.kg
 obtain⟨tout,hout⟩:=n_out (w:=w)
 obtain⟨tdone,hdone⟩:=n_done (w:=w)
 walk_at "sh"
 with_reducible refine zAa (zBj (c:=false) F ?_ fun h₂ tk₂ k₂ F₂=>⟨fun e=> ?_,fun _=> ?_⟩)
 ·with_reducible refine EvB.eq (zEd (u:= .ref l) (zCz S₁ Z₁ hr (nmV_ F.is)) zBg ?_) ?_
  ·rfl
  ·rfl
 ·cases e
 have Z₂:SOR w h₂ σ:=Z₁.keep fun b _ o e=>k₂ b o e
 have S₂:=S₁.mono k₂
 refine wpAny_execs_nil ?_
 walk_at "sh"
 with_reducible refine zAa (zCo (u:= .ref σ.dn) F₂ (zCe S₂ Z₂ (nmV_ F₂.is)) stL fun h₃ tk₃ F₃ R₃=> ?_)
 have Z₃:SOR w h₃ σ:=Z₂.rel off R₃ (fun _ _ m=>nomatch m)
 have k02:Ext s.heap h₂:=F₀.kg.trans k₂
 have keep₃:∀b,b∈σ.addrs∨b∈Ls→∀o,s.heap.get? b=some o→h₃.get? b=some o:=fun b m o e=>by
  rcases m with m|m
  ·exact off.keep m R₃ (fun m=>nomatch m) o (k02 b o e)
  ·exact offL.keep m R₃ (fun m=>nomatch m) o (k02 b o e)
 walk_at "sh"
 with_reducible refine zAa (zNy (X:=Ls) (M:=[]) (ds:=[.str x]) PassesOwn.leaving (zDz (rm.deeper _).hand (nm_ F₃.is))
  (fun _=>nS σ)
  (DI w s.heap Ls x σ) (F₃.pick ?_) ?_ stL ?_ ?_ ?_ ?_)
 ·exact⟨rfl,rfl,trivial⟩
 ·intro h' k
  exact⟨fun _ b m o e=>k _ _ (keep₃ b m o e),fun e=>nomatch e⟩
 ·rintro i O h h' it F' ⟨j0,j1⟩ hit hil p
  refine⟨fun e b m o eb=>p.keep b o ?_ (j0 e b m o eb),fun e=> ?_⟩
  ·rcases m with m|m
   ·exact fun z=>hit (z▸m)
   ·exact fun z=>hil (z▸m)
  ·obtain⟨q,h1,h2,Z'⟩:=j1 e
   exact⟨q,h1,h2,Z'.poke p (by rw[show(σ.done1 x q.1.succ).addrs=σ.addrs from((zCc (f:=setNp (-2)) fun _=>rfl).trans (zBu _)).addrs];exact hit)⟩
 ·rintro i O h h' F' ⟨j0,j1⟩ R
  refine⟨fun e b m o eb=> ?_,fun e=> ?_⟩
  ·rcases m with m|m
   ·exact off.keep m R (fun m=>nomatch m) o (j0 e b (.inl m) o eb)
   ·exact offL.keep m R (fun m=>nomatch m) o (j0 e b (.inr m) o eb)
  ·obtain⟨q,h1,h2,Z'⟩:=j1 e
   have ad:(σ.done1 x q.1.succ).addrs=σ.addrs:=((zCc (f:=setNp (-2)) fun _=>rfl).trans (zBu _)).addrs
   exact⟨q,h1,h2,Z'.rel (by rw[ad];exact off) R (fun _ _ m=>nomatch m)⟩
 ·rintro i d O _ ⟨hs',tks',rfl⟩ hdd Fa ⟨j0, -⟩
  obtain⟨rfl,rfl⟩:i=0∧d= .str x:=by
   match i,hdd with
   |0,hdd=>simp at hdd;exact⟨rfl,hdd.symm⟩
   |i+1,hdd=>simp at hdd
  refine opqQ fun T hT=> ?_
  have ka:=j0 rfl
  have Za:SOR w hs' σ:=Z.keep fun b m=>ka b (.inl m)
  have Sa:Stat (hd.heap_1 w.params) hs':=Sg.mono fun b o e=>by
   by_cases m:b∈σ.addrs
   ·exact ka b (.inl m) o e
   ·exact Fa.kg b o (zAb e m)
  have nb:∀b∈F.en.locals::Ls,(hid Ls s.heap).get? b=none:=fun b m=>by
   cases e:(hid Ls s.heap).get? b with
   |none=>rfl
   |some o=>
    exfalso
    rcases List.mem_cons.mp m with m|m
    ·have e1:=zAf _ _ _ _ e
     have e2:s.heap.get? b=none:=by rw[m];exact F₀.outL
     rw[e2]at e1;cases e1
    ·exact zAh e m
  have stk':=stk.deeper (env:=F.en) (L:=F.en.locals) rfl rfl
  have rl:=reprText_len' x hx hc
  walk_at "sh"
  with_reducible refine zAa (wpAny_If (wpAny_isTrue_Compare1 (wpAny_NamedExpr (Call_method1 ?_ ?_ ?_ (EvV.run (h:=hs') (nmV_ Fa.is) Ext.rfl fun h₂ tk₂ k₂=> ?_))) ?_))
  ·rfl
  ·rfl
  ·rfl
  ·have D₂:=Za.dict.keep k₂
   unfold MethodOnS
   with_reducible refine⟨"dict","dict.get",PySem.F.plainAttrs_dict,PySem.F.slot_dict_get,PySem.F.type_dict_get,D₂.typeIs,D₂.mapOf.noDict,wpAny_dict_get1 (knd:=strKind PR w) ?_ (Ev.run (h:=hs') (nm_ Fa.is) k₂ (Fa.kx.ext k₂) fun v h₃ tk₃ k₃ r₃=> ?_)⟩
   ·exact Za.lo
   obtain⟨t,rfl⟩:=r₃.str_inv
   refine⟨x,valueAt σ.kvs,?_,?_,?_⟩
   ·show Value.isStrOf x (.str x t)=true
    simp[Value.isStrOf]
   ·exact(Za.dict.keep (k₂.trans k₃)).mapOf
   ·rw[zDm]
    have F₃:=Fa.ext (k₂.trans k₃)
    have k23:=k₂.trans k₃
    have kσ:∀b,b∈σ.addrs∨b∈Ls→∀o,s.heap.get? b=some o→h₃.get? b=some o:=fun b m o e=>k23 b o (ka b m o e)
    cases hat:σ.at x with
    |none=>
     show wpAny _ _ (assign _ _ .none) _ _ _
     with_reducible refine wpAny_assign_Name (zAn F₃ stL (b:= .v .none) ?_ fun h₄ tk₄ F₄ R₄=>EvV.run (h:=h₄) zBg Ext.rfl fun h₅ tk₅ k₅=>wpAny_is_plain ?_ (wpAny_truthy_bool ?_))
     ·rfl
     ·rfl
     rw[if_pos (by rfl)]
     have kσ₅:∀b,b∈σ.addrs∨b∈Ls→∀o,s.heap.get? b=some o→h₅.get? b=some o:=fun b m o e=>k₅ b o (by
      rcases m with m|m
      ·exact off.keep m R₄ (fun m=>nomatch m) o (kσ b (.inl m) o e)
      ·exact offL.keep m R₄ (fun m=>nomatch m) o (kσ b (.inr m) o e))
     have F₅:=F₄.ext k₅
     have kb₅:Ext (hid Ls s.heap) h₅:=fun b o e=>by
      have e':=zAf _ _ _ _ e
      by_cases m:b∈σ.addrs
      ·exact kσ₅ b (.inl m) o e'
      ·exact F₅.kg b o (zAb e' m)
     have S₅:Stat (hd.heap_1 w.params) h₅:=S.mono fun b o e=>F₅.kg b o (zAb (zAf _ _ _ _ e) fun m=>zAh e (List.mem_append_left _ m))
     walk_at "sh"
     with_reducible refine zAa (zEa (x:=x) (base:=hid Ls s.heap) rm.hand stk' G F₅ S₅ kb₅ nb (D.keep fun b m=>kσ₅ b (.inr m)) rl ?_ (fun t e h' tk fl up=> ?_) (nm_ F₅.is))
     ·decide
     ·exact hE _ t e h' tk (by simp only[doneMsg,hat]) fl (Up.trans (h':=h₅) (fun b m o e=>⟨o.slots,kσ₅ b (.inr m) o e⟩) up)
    |some p=>
     show wpAny _ _ (assign _ _ (.ref p.2.i)) _ _ _
     with_reducible refine wpAny_assign_Name (zAn F₃ stL (b:= .v (.ref p.2.i)) ?_ fun h₄ tk₄ F₄ R₄=>EvV.run (h:=h₄) zBg Ext.rfl fun h₅ tk₅ k₅=>wpAny_is_plain ?_ (wpAny_truthy_bool ?_))
     ·rfl
     ·rfl
     rw[if_neg (by simp)]
     have kσ₅:∀b,b∈σ.addrs∨b∈Ls→∀o,s.heap.get? b=some o→h₅.get? b=some o:=fun b m o e=>k₅ b o (by
      rcases m with m|m
      ·exact off.keep m R₄ (fun m=>nomatch m) o (kσ b (.inl m) o e)
      ·exact offL.keep m R₄ (fun m=>nomatch m) o (kσ b (.inr m) o e))
     have F₅:=F₄.ext k₅
     have Z₅:SOR w h₅ σ:=Z.keep fun b m=>kσ₅ b (.inl m)
     have S₅:Stat (hd.heap_1 w.params) h₅:=S.mono fun b o e=>F₅.kg b o (zAb (zAf _ _ _ _ e) fun m=>zAh e (List.mem_append_left _ m))
     have hp:=(zBb hat).1
     refine wpAny_execs_nil ?_
     walk_at "sh"
     with_reducible refine zAa (zAi (d:= .int p.1.np) F₅ (ev_np S₅ (Z₅.node p hp) (nmV_ F₅.is)) stL fun h₆ tk₆ F₆ R₆=> ?_)
     have kσ₆:∀b,b∈σ.addrs∨b∈Ls→∀o,s.heap.get? b=some o→h₆.get? b=some o:=fun b m o e=>by
      rcases m with m|m
      ·exact off.keep m R₆ (fun m=>nomatch m) o (kσ₅ b (.inl m) o e)
      ·exact offL.keep m R₆ (fun m=>nomatch m) o (kσ₅ b (.inr m) o e)
     have S₆:Stat (hd.heap_1 w.params) h₆:=S.mono fun b o e=>F₆.kg b o (zAb (zAf _ _ _ _ e) fun m=>zAh e (List.mem_append_left _ m))
     walk_at "sh"
     with_reducible refine zAa (zBj (c:=p.1.np != -1) F₆ ?_ fun h₇ tk₇ k₇ F₇=>⟨fun ne=> ?_,fun eq=> ?_⟩)
     ·with_reducible exact zDq (nm_ F₆.is) (EvV.d (zAj S₆ G hout) (Rd.int _ _)) cmpI_ne
     ·have kσ₇:∀b,b∈σ.addrs∨b∈Ls→∀o,s.heap.get? b=some o→h₇.get? b=some o:=fun b m o e=>k₇ b o (kσ₆ b m o e)
      have S₇:=S₆.mono k₇
      have ne':p.1.np≠ -1:=by simpa using ne
      walk_at "sh"
      with_reducible refine zAa (zBj (c:=decide (p.1.np≥0)) F₇ ?_ fun h₈ tk₈ k₈ F₈=>⟨fun ge=> ?_,fun lt=> ?_⟩)
      ·with_reducible exact zDq (nm_ F₇.is) zAo zOh
      ·have kσ₈:∀b,b∈σ.addrs∨b∈Ls→∀o,s.heap.get? b=some o→h₈.get? b=some o:=fun b m o e=>k₈ b o (kσ₇ b m o e)
       have kb₈:Ext (hid Ls s.heap) h₈:=fun b o e=>by
        have e':=zAf _ _ _ _ e
        by_cases m:b∈σ.addrs
        ·exact kσ₈ b (.inl m) o e'
        ·exact F₈.kg b o (zAb e' m)
       walk_at "sh"
       with_reducible refine zAa (zEa (x:=x) (base:=hid Ls s.heap) rm.hand stk' G F₈ (S₇.mono k₈) kb₈ nb (D.keep fun b m=>kσ₈ b (.inr m)) rl ?_ (fun t e h' tk fl up=> ?_) (nm_ F₈.is))
       ·decide
       ·refine hE _ t e h' tk ?_ fl (Up.trans (h':=h₈) (fun b m o e=>⟨o.slots,kσ₈ b (.inr m) o e⟩) up)
        have ge':0≤p.1.np:=by simpa using ge
        simp only[doneMsg,hat]
        rw[if_neg ne',if_pos ge']
      ·have kσ₈:∀b,b∈σ.addrs∨b∈Ls→∀o,s.heap.get? b=some o→h₈.get? b=some o:=fun b m o e=>k₈ b o (kσ₇ b m o e)
       have S₈:=S₇.mono k₈
       have lt':¬0≤p.1.np:=by simpa using lt
       have m2:p.1.np= -2:=by have:=hnp p hat;omega
       walk_at "sh"
       with_reducible refine zAa (zBj (c:=true) F₈ ?_ fun h₉ tk₉ k₉ F₉=>⟨fun _=> ?_,fun e=> ?_⟩)
       ·with_reducible refine EvB.eq (zDq (nm_ F₈.is) (EvV.d (zAj S₈ G hdone) (Rd.int _ _)) zH9) ?_
        rw[m2];rfl
       ·have kσ₉:∀b,b∈σ.addrs∨b∈Ls→∀o,s.heap.get? b=some o→h₉.get? b=some o:=fun b m o e=>k₉ b o (kσ₈ b m o e)
        have kb₉:Ext (hid Ls s.heap) h₉:=fun b o e=>by
         have e':=zAf _ _ _ _ e
         by_cases m:b∈σ.addrs
         ·exact kσ₉ b (.inl m) o e'
         ·exact F₉.kg b o (zAb e' m)
        walk_at "sh"
        with_reducible refine zAa (zEa (x:=x) (base:=hid Ls s.heap) rm.hand stk' G F₉ (S₈.mono k₉) kb₉ nb (D.keep fun b m=>kσ₉ b (.inr m)) rl ?_ (fun t e h' tk fl up=> ?_) (nm_ F₉.is))
        ·decide
        ·refine hE _ t e h' tk ?_ fl (Up.trans (h':=h₉) (fun b m o e=>⟨o.slots,kσ₉ b (.inr m) o e⟩) up)
         simp only[doneMsg,hat]
         rw[if_neg ne',if_neg lt']
       ·cases e
     ·have Z₇:SOR w h₇ σ:=Z.keep fun b m o e=>k₇ b o (kσ₆ b (.inl m) o e)
      have S₇:=S₆.mono k₇
      have m1:p.1.np= -1:=by simpa using eq
      refine wpAny_execs_nil ?_
      walk_at "sh"
      have ne:=NodeAddr.ne Z₇ hp
      walk_at "sh"
      with_reducible refine zAa (zIa (EvV.run (zAj S₇ G hdone) Ext.rfl fun hb tkb kb=>EvV.run (nmV_ F₇.is) kb fun hc tkc kc=> ?_))
      have kk:=kb.trans kc
      have Zc:SOR w hc σ:=Z₇.keep fun b _ o e=>kk b o e
      refine zE6 (S₇.mono kk) (Zc.node p hp) ne.1 ne.2.1 fun h₈ tk₈ N₈ sb₈=> ?_
      have g₈:GO w hc h₈ σ (σ.upd x (setNp (-2))):=Goes.np Zc hat N₈ sb₈ _ (fun _=>rfl) rfl
      obtain⟨F₈,R₈,_⟩:=(F₇.ext kk).goes g₈ off
      have S₈:Stat (hd.heap_1 w.params) h₈:=S.mono fun b o e=>F₈.kg b o (zAb (zAf _ _ _ _ e) fun m=>zAh e (List.mem_append_left _ m))
      have F₈':=(F₈.reX upd_addrs).shrink (O':=σ.wo p.2.l) fun b m=>(List.mem_filter.mp m).1
      have hlin:p.2.l∈σ.addrs:=by
       simp only[Srt.addrs,List.mem_cons,List.mem_append,List.mem_flatMap]
       exact .inr (.inr (.inr (.inr ⟨p,hp,by simp[NodeAddr.all]⟩)))
      have hln:p.2.l∉σ.wo p.2.l++Ls:=fun m=>by
       rcases List.mem_append.mp m with m|m
       ·simpa using(List.mem_filter.mp m).2
       ·exact dj _ m hlin
      have sm₀:SameSrt σ (σ.upd x (setNp (-2))):=zCc fun _=>rfl
      have smi:∀i,SameSrt σ ((p.1.succ.take i).foldl Srt.rel1 (σ.upd x (setNp (-2)))):=fun i=>sm₀.trans (zBu _)
      walk_at "sh"
      with_reducible refine zAa (zGg (X:=Ls) (M:=[]) (ds:=p.1.succ.map .str) (zAx (rm.deeper _).hand (ev_succ (n:={p.1 with np:= -2}) (a:=p.2) S₈ N₈ (nmV_ F₈'.is) hln))
       (fun _=>nS σ)
       (fun i O h=>O=σ.wo p.2.l∧SOR w h ((p.1.succ.take i).foldl Srt.rel1 (σ.upd x (setNp (-2))))) (F₈'.pick ?_) ?_ stL ?_ ?_ ?_ ?_)
      ·exact⟨rfl,rfl,trivial⟩
      ·intro h' k
       exact⟨rfl,g₈.z.keep fun b _ o e=>k b o e⟩
      ·rintro i O h h' it F' ⟨rfl,Z'⟩ hit _ pk
       refine⟨rfl,Z'.poke pk fun m=> ?_⟩
       rw[(smi i).addrs]at m
       by_cases hl:it=p.2.l
       ·have ad:=(smi i).ad x
        rw[hat]at ad
        obtain⟨q,hq,e2⟩:=Option.map_eq_some_iff.mp (show _=some p.2 from ad)
        obtain⟨_,_,ps,⟨n₀,pl⟩,_⟩:=Z'.node q (zBb hq).1
        rw[e2,←hl]at pl
        exact pk.was _ pl ⟨_,_,rfl⟩
       ·exact hit (List.mem_filter.mpr ⟨m,by simpa using hl⟩)
      ·rintro i O h h' F' ⟨rfl,Z'⟩ R
       exact⟨rfl,Z'.rel (by rw[(smi i).addrs];exact off) R (fun _ _ m=>nomatch m)⟩
      ·rintro i d O s₂ E₂ hdd Fb ⟨rfl,Zb⟩
       obtain⟨y,hy,rfl⟩:∃y,p.1.succ[i]? =some y∧d= .str y:=by
        rw[List.getElem?_map]at hdd
        cases hci:p.1.succ[i]? with
        |none=>rw[hci]at hdd;cases hdd
        |some c=>rw[hci]at hdd;cases hdd;exact⟨c,rfl,rfl⟩
       have smb:=smi i
       rw[zA2 Srt.rel1 _ _ hy]
       obtain⟨q,hq⟩:=Option.isSome_iff_exists.mp (smb.at_ y (hin p hat y (List.mem_of_getElem? hy)))
       obtain⟨xsb,hrb,lb⟩:=zHk (p.1.succ.take i) (σ:=σ.upd x (setNp (-2))) hr
       have lsucc:=few.at hat
       have lxb:xsb.length≤10000:=by
        rw[List.length_take]at lb;omega
       have fk:∀{h:Heap} {Γ:List (Str×Bd)},Fn (hid σ.addrs s.heap) (σ.wo p.2.l++Ls) (σ.wo p.2.l++[]) h F.en Γ→Stat (hd.heap_1 w.params) h:=fun F'=>S.mono fun b o e=>F'.kg b o (zAb (zAf _ _ _ _ e) fun m=>zAh e (List.mem_append_left _ m))
       generalize (p.1.succ.take i).foldl Srt.rel1 (σ.upd x (setNp (-2)))=σb at Zb smb hq hrb
       refine opqQ fun T' hT'=> ?_
       have offb:Off σb.addrs F.en:=by rw[smb.addrs];exact off
       have offi:Off (σ.wo p.2.l) F.en:=fun b m=>off b (List.mem_filter.mp m).1
       have plb:∀{h},SOR w h σb→∃xs n,h.get? p.2.l=some {cls:= .type "list",data:= .seq xs n}:=fun{h} Z'=>by
        have ad:=smb.ad x
        rw[hat]at ad
        obtain⟨q',hq',e2⟩:=Option.map_eq_some_iff.mp (show _=some p.2 from ad)
        obtain⟨_,_,ps,⟨n₀,pl⟩,_⟩:=Z'.node q' (zBb hq').1
        rw[e2]at pl
        exact⟨_,_,pl⟩
       have qin:q.2.i∈σ.wo p.2.l:=by
        refine List.mem_filter.mpr ⟨?_,?_⟩
        ·rw[←smb.addrs]
         simp only[Srt.addrs,List.mem_cons,List.mem_append,List.mem_flatMap]
         exact .inr (.inr (.inr (.inr ⟨q,(zBb hq).1,by simp[NodeAddr.all]⟩)))
        ·simp only[decide_eq_true_eq]
         intro z
         obtain⟨⟨_,_,e1⟩,_⟩:=Zb.node q (zBb hq).1
         obtain⟨_,_,e2⟩:=plb Zb
         rw[z,e2]at e1;cases e1
       walk_at "sh"
       with_reducible refine zAa (zCo (u:= .ref q.2.i) Fb (zJu Zb hq Fb.kx ?_ (nm_ Fb.is)) stL fun hc tkc Fc Rc=> ?_)
       ·rw[smb.dn]
        with_reducible exact nmV_ Fb.is
       have Zc:SOR w hc σb:=Zb.rel offb Rc (fun _ _ m=>nomatch m)
       have Sc:=fk Fc
       walk_at "sh"
       with_reducible refine zAa (wpAny_AugAssign_AttributeAny (EvV.run (nmV_ Fc.is) Ext.rfl fun he tke ke=> ?_))
       have Ze:SOR w he σb:=Zc.keep fun b _ o e=>ke b o e
       refine zO3 rfl (Sc.mono ke) (Ze.node q (zBb hq).1) fun te tke'=> ?_
       refine Ev.run (d:= .int 1) zAo ke (Fc.kx.ext ke) fun v hf tkf kf rf=> ?_
       obtain⟨tf,rfl⟩:=rf.int_inv
       have kef:=ke.trans kf
       have Zf:SOR w hf σb:=Zc.keep fun b _ o e=>kef b o e
       have ne':=NodeAddr.ne Zf (zBb hq).1
       refine PySem.AutoIntOps.isub_0 ?_
       refine zE6 (Sc.mono kef) (Zf.node q (zBb hq).1) ne'.1 ne'.2.1 fun hg tkg Ng sbg=> ?_
       have gg:GO w hf hg σb (σb.upd y (addNp (-1))):=Goes.np Zf hq Ng sbg _ (fun _=>rfl) (by simp only[addNp];congr 1)
       obtain⟨Fg,Rg⟩:=(Fc.ext kef).moved1 offi qin sbg (let⟨⟨_,_,e⟩,_⟩:=Ng;⟨_,e⟩)
       have Sg':=fk Fg
       walk_at "sh"
       with_reducible refine zAa (zBj (c:=q.1.np - 1==0) Fg ?_ fun hi tki ki Fi=>⟨fun e0=> ?_,fun e0=> ?_⟩)
       ·with_reducible exact zDq (ev_np Sg' Ng (nmV_ Fg.is)) zAo zH9
       ·have q1:(σb.at y).map (fun p=>p.1.np)=some 1:=by rw[hq];simp at e0⊢;omega
        have hrl:(σb.rel1 y)=(σb.upd y (addNp (-1))).pushReady y:=by unfold Srt.rel1;rw[if_pos q1]
        have hrb':(σb.upd y (addNp (-1))).ready=some (l,xsb):=hrb
        walk_at "sh"
        with_reducible refine zAa (zGo (X:=σ.wo p.2.l++Ls) (σ:=σb.upd y (addNp (-1))) (l:=l) (xs:=xsb) (y:=y) (fk Fi) (gg.z.keep fun b _ o e=>ki b o e) hrb' Fi.kx ?_ (nm_ Fi.is) lxb fun hj tkj gj sbj=> ?_)
        ·show EvV PR w _ _ _ (.ref σb.so)
         rw[smb.so]
         with_reducible exact nmV_ Fi.is
        have lin:l∈σ.wo p.2.l:=by
         refine List.mem_filter.mpr ⟨?_,?_⟩
         ·simp only[Srt.addrs,List.mem_cons,List.mem_append]
          exact .inr (.inr (.inr (.inl (by rw[hr];exact List.mem_singleton.mpr rfl))))
         ·simp only[decide_eq_true_eq]
          intro z
          exact(Z.apart_node hp (b:=p.2.l) (by simp[NodeAddr.all])).2.2.2 _ hr z.symm
        obtain⟨Fj,Rj⟩:=Fi.moved1 offi lin sbj (by
         have hr':((σb.upd y (addNp (-1))).pushReady y).ready=some (l,xsb++[y]):=by
          show(σb.ready.map fun p=>(p.1,p.2++[y]))=_
          rw[hrb];rfl
         obtain⟨ps,⟨n₀,e⟩,_⟩:=gj.z.ready _ hr'
         exact⟨_,e⟩)
        refine wpAny_execs_nil (wpAny_execs_nil (hT' _ _ ⟨hj,tkj,rfl,⟨_,Fj.pick ⟨rfl,rfl,trivial⟩,⟨rfl,?_⟩,fun b m=> .inl m⟩,?_⟩))
        ·rw[hrl];exact gj.z
        ·exact(Rc.le zAp).trans (kef.rel.trans (Rg.trans (ki.rel.trans Rj)))
       ·have q1:¬(σb.at y).map (fun p=>p.1.np)=some 1:=by rw[hq];simp at e0⊢;omega
        have hrl:(σb.rel1 y)=σb.upd y (addNp (-1)):=by unfold Srt.rel1;rw[if_neg q1]
        refine wpAny_execs_nil (wpAny_execs_nil (hT' _ _ ⟨hi,tki,rfl,⟨_,Fi.pick ⟨rfl,rfl,trivial⟩,⟨rfl,?_⟩,fun b m=> .inl m⟩,?_⟩))
        ·rw[hrl];exact gg.z.keep fun b _ o e=>ki b o e
        ·exact(Rc.le zAp).trans (kef.rel.trans (Rg.trans ki.rel))
      ·rintro O h₉ tk₉ E' F₉ ⟨rfl,Z₉⟩ R₉
       refine wpAny_execs_nil ?_
       rw[List.length_map,List.take_length]at Z₉
       have sm:=sm₀.trans (zBu p.1.succ)
       have fl:([("n2i",Bd.v (.ref σ.dn)),("self",Bd.v (.ref σ.so))]:List (Str×Bd)).all (fun y=>flatB y.2)=true:=by simp[flatB]
       have F₉':=F₉.swell (O:=σ.addrs) fl (fun b m=>Z₉.alive b (by rw[sm.addrs];exact m)) (fun b m=>by
        cases e:(hid σ.addrs s.heap).get? b with
        |none=>rfl
        |some o=>exact absurd m (zAh e))
       have S₉:Stat (hd.heap_1 w.params) h₉:=S.mono fun b o e=>F₉.kg b o (zAb (zAf _ _ _ _ e) fun m=>zAh e (List.mem_append_left _ m))
       walk_at "sh"
       with_reducible refine zAa (zFn S₉ Z₉ ?_ fun hz tkz gz=> ?_)
       ·rw[sm.so]
        with_reducible exact nmV_ F₉'.is
       have q9:=zOn F₉' off sm rfl gz
       have Fz:=q9.1
       have Rz:=q9.2.1
       have Zz:=q9.2.2
       refine wpAny_execs_nil (hT _ _ ⟨hz,tkz,rfl,⟨σ.addrs,Fz.pick ⟨rfl,rfl,trivial⟩,⟨fun e=>(nomatch e),fun _=>⟨p,hat,m1,Zz⟩⟩,fun _ m=> .inl m⟩,?_⟩)
       have r1:Rel (σ.addrs++[]) F.en hs' h₈:=k23.rel.trans ((R₄.le zAp).trans (k₅.rel.trans ((R₆.le zAp).trans (k₇.rel.trans (kk.rel.trans R₈)))))
       have r2:Rel (σ.addrs++[]) F.en h₈ h₉:=R₉.le fun b m=>by
        rw[List.append_nil]at m⊢
        exact(List.mem_filter.mp m).1
       exact r1.trans (r2.trans Rz)
  ·rfl
 ·rintro O h₄ tk₄ F₄ ⟨_,j1⟩ R₄
  obtain⟨p,h1,h2,Z₄⟩:=j1 rfl
  refine wpAny_execs_nil (wpAny_execs_nil ?_)
  have sm:=((zCc (σ:=σ) (y:=x) (f:=setNp (-2)) fun _=>rfl).trans (zBu p.1.succ))
  exact hQ p h₄ tk₄ h1 h2 ⟨F₄.kg,Z₄,fun b m=> .inl (sm.addrs▸m),fun b m=>by rw[show(σ.done1 x p.1.succ).addrs=σ.addrs from sm.addrs];exact m,sm.so⟩
end
end P23
section W1
section facts
theorem li_ga:Slot "list_iterator" "__getattribute__" "object.__getattribute__":=
 .of (owner:="object") (n:="__getattribute__") (by rw[typeLookup_type,builtinLookup_eq_fast];kernel_rfl) (by decide+kernel) (by decide+kernel) (by decide+kernel)
  (by first|exact .inl (by decide+kernel)|exact .inr (by decide+kernel)) (by rw[isSubtype_type];kernel_rfl)
theorem zOa:entryFor table "object.__getattribute__"=some Builtin.«object.__getattribute__» :=entryFor_of_tree (by kernel_rfl)
theorem zQf (a b:Value):argsOk "object.__getattribute__" ⟨[a,b],[]⟩:=by unfold argsOk;kernel_rfl
theorem zJ0:typeOf (.builtin "list_iterator.__next__")=pure (.type "wrapper_descriptor"):=by show builtinType _=_;rw[builtinType_eq_fast];kernel_rfl
theorem wd_get:Slot "wrapper_descriptor" "__get__" "wrapper_descriptor.__get__":=
 .of (owner:="wrapper_descriptor") (n:="__get__") (by rw[typeLookup_type,builtinLookup_eq_fast];kernel_rfl) (by decide+kernel) (by decide+kernel) (by decide+kernel)
  (by first|exact .inl (by decide+kernel)|exact .inr (by decide+kernel)) (by rw[isSubtype_type];kernel_rfl)
theorem wd_set:typeLookup (.type "wrapper_descriptor") "__set__"=pure none:=by rw[typeLookup_type,builtinLookup_eq_fast];kernel_rfl
theorem wd_del:typeLookup (.type "wrapper_descriptor") "__delete__"=pure none:=by rw[typeLookup_type,builtinLookup_eq_fast];kernel_rfl
theorem zOp:entryFor table "wrapper_descriptor.__get__"=some Builtin.«wrapper_descriptor.__get__» :=entryFor_of_tree (by kernel_rfl)
theorem zPw (a b c:Value):argsOk "wrapper_descriptor.__get__" ⟨[a,b,c],[]⟩:=by unfold argsOk;kernel_rfl
theorem zMc:(".".intercalate ("list_iterator.__next__".cutAt '.').dropLast)="list_iterator":=by
 have e0:"list_iterator.__next__".cutAt '.'=["list_iterator","__next__"]:=by first|rfl|decide+kernel
 rw[e0];decide+kernel
theorem sub_li:isSubtype (.type "list_iterator") (.type "list_iterator")=pure true:=by rw[isSubtype_type];kernel_rfl
end facts
noncomputable def wrapObj (it:Addr):Obj:={cls:= .type "method-wrapper",data:= .fields #[.builtin "list_iterator.__next__", .ref it]}
section
variable {prog:Program} {w:World} {A:Around} {E:Value→Shared→Prop} {h:Heap} {g:Array GenState} {d:Drawn} {t:Nat} {os:OsState} {it:Addr} {o:Obj}
theorem zP2 {R:Result→Shared→Prop} (hx:h.get? it=some o) (hc:o.cls= .type "list_iterator") (hq:R (.ok (.ret (.ref h.objs.size))) ⟨h.push (wrapObj it),g,d,t,os⟩):
 codeAny (model prog w) A (.call (.builtin "wrapper_descriptor.__get__") ⟨[.builtin "list_iterator.__next__", .ref it, .type "list_iterator"],[]⟩) R ⟨h,g,d,t,os⟩:=by
 have hT:(⟨h,g,d,t,os⟩:Shared).TypeIs (.ref it) "list_iterator":=⟨_,hx,hc⟩
 have hT5:(⟨h,g,d,t,os⟩:Shared).TypeIs (.builtin "list_iterator.__next__") "wrapper_descriptor":=zJ0
 have f8:isSubtype (.type "list_iterator") (.type (".".intercalate ("list_iterator.__next__".cutAt '.').dropLast))=pure true:=by rw[zMc];exact sub_li
 refine codeAny_call_builtin wd_get.plain zOp (wd_get.check _ _ _ _ _ _ _ _ hT5 (zPw _ _ _) ?_)
 repeat (any_goals (first|assumption|wp_step))
theorem zLx {tk:Tok} {Q:Fin→Shared→Prop} (hx:h.get? it=some o) (hc:o.cls= .type "list_iterator") (hd:o.dict=none) (hdd:∃vs,o.data= .fields vs) (hq:Q (.done (.ret (.ref h.objs.size))) ⟨h.push (wrapObj it),g,d,t,os⟩):
 wpAny (model prog w) A (Builtin.«object.__getattribute__» ⟨[.ref it, .str "__next__" tk],[]⟩) Q E ⟨h,g,d,t,os⟩:=by
 have hT:(⟨h,g,d,t,os⟩:Shared).TypeIs (.ref it) "list_iterator":=⟨_,hx,hc⟩
 have hT5:(⟨h,g,d,t,os⟩:Shared).TypeIs (.builtin "list_iterator.__next__") "wrapper_descriptor":=zJ0
 have f4:=slot_listiter_next.lookup
 have f5:=zJ0
 have f6:=wd_get.lookup
 have f7:=wd_set
 have f8:=wd_del
 obtain⟨vs,hdv⟩:=hdd
 obtain⟨oc,od,oda,osl⟩:=o
 dsimp only at hc hd hdv
 subst hc hd hdv
 repeat (any_goals (first|assumption|with_reducible refine wpAny_loadPart_at hx ?_|with_reducible refine wpAny_load hx ?_|wp_step))
 refine zP2 hx rfl ?_
 repeat (any_goals (first|assumption|wp_step))
theorem zOw {expr:Bool} {Q:Value→Shared→Prop} (hx:h.get? it=some o) (hc:o.cls= .type "list_iterator") (hd:o.dict=none) (hdd:∃vs,o.data= .fields vs) (hq:Q (.ref h.objs.size) ⟨h.push (wrapObj it),g,d,t+1,os⟩):
 wpAny (model prog w) A (getAttr (.ref it) "__next__" expr) Q E ⟨h,g,d,t,os⟩:=by
 have hT:(⟨h,g,d,t+1,os⟩:Shared).TypeIs (.ref it) "list_iterator":=⟨_,hx,hc⟩
 have f2:=li_ga.lookup
 have f3:=li_ga.bind (.ref it)
 have hx0:(expr&&onTheHeap (Value.builtin "object.__getattribute__"))=false:=by cases expr<;>rfl
 unfold getAttr
 refine wpAny_bind (wpAny_mkText ?_)
 repeat (any_goals (first|assumption|wp_step))
 refine codeAny_call_builtin li_ga.plain zOa (li_ga.check _ _ _ _ _ _ _ _ hT (zQf _ _) (zLx hx hc hd hdd ?_))
 repeat (any_goals (first|assumption|wp_step))
end
noncomputable def iterObj (l:Addr) (i:Nat):Obj:={cls:= .type "list_iterator",data:= .fields #[.ref l, .int (i:Int) 0]}
section
variable {prog:Program} {w:World} {A:Around} {E:Value→Shared→Prop} {s:Shared} {u it l:Addr} {items:Array Value} {i:Nat}
theorem zMw (a:Value):argsOk "iter" ⟨[a],[]⟩:=by unfold argsOk;kernel_rfl
theorem zJ8:entryFor table "iter"=some Builtin.«iter» :=entryFor_of_fast (by kernel_rfl)
theorem zGz {Q:Value→Shared→Prop} (hl:s.heap.IsList l items) (hQ:Q (.ref s.heap.objs.size) {s with heap:=s.heap.push (iterObj l 0)}):wpAny (model prog w) A (call (.builtin "iter") [.ref l]) Q E s:=by
 refine Calls.call_function_entry (by decide+kernel) (by decide+kernel) zJ8 (zMw _) ?_
 unfold Builtin.«iter»
 refine wpAny_bind (m:=someArgs "iter" 1 2 _) (wpAny_of_eq (a:=[Value.ref l]) (by first|rfl|kernel_rfl!) ?_)
 show wpAny _ _ (pyIter (.ref l)>>=_) _ _ _
 exact wpAny_bind (wpAny_pyIter_list hl (wpAny_pure ⟨_,rfl,hQ⟩))
theorem if_so' {M:Model} {α:Type} {c:Prop} [Decidable c] {a b:Sem α} {Q:α→Shared→Prop} (hc:c) (h:wpAny M A a Q E s):wpAny M A (if c then a else b) Q E s:=by rw[if_pos hc];exact h
theorem zMx:checkBoundCall "list_iterator.__next__" ⟨[.ref it],[]⟩=pure ():=by first|kernel_rfl|rfl
theorem zLw:(Code.builtin "list_iterator.__next__" ⟨[.ref it],[]⟩).quiet=true:=Code.quiet_builtin _ (by decide+kernel)
theorem zJa {Q:Value→Shared→Prop} (hu:s.heap.get? u=some (wrapObj it))
 (h:wpAny (model prog w) (A.under (.builtin "list_iterator.__next__" ⟨[.ref it],[]⟩)) (Builtin.«list_iterator.__next__» ⟨[.ref it],[]⟩) (fun fin s'=>∃v,fin= .done (.ret v)∧Q v s') E s):
 wpAny (model prog w) A (call (.ref u) []) Q E s:=by
 refine wpAny_call (codeAny_of_tree ?_)
 show wpAny _ A.in1 (callAny (.ref u) ⟨[],[]⟩) _ _ s
 simp only[callAny]
 refine wpAny_bind (wpAny_load hu ?_)
 simp only[wrapObj,show(Value.type "method-wrapper"==Value.type "method"||Value.type "method-wrapper"==Value.type "builtin_function_or_method"||Value.type "method-wrapper"==Value.type "method-wrapper")=true by decide,if_true]
 refine if_so' (by decide) ?_
 refine wpAny_bind (wpAny_of_eq (a:=()) zMx ?_)
 refine wpAny_bind (wpAny_pure (wpAny_pure ?_))
 refine⟨zLw,codeAny_builtin entry_listiter_next ?_⟩
 refine wpAny_mono h (fun fin s' h'=> ?_) fun _ _ e=>e
 obtain⟨v,rfl,hv⟩:=h'
 exact hv
theorem zGt {x:Value} {Q:Value→Shared→Prop} (hu:s.heap.get? u=some (wrapObj it)) (ho:s.heap.get? it=some (iterObj l i)) (hl:s.heap.IsList l items) (hx:items[i]? =some x)
 (hQ:∀h',h'.get? it=some (iterObj l (i+1))→(∀b o,b≠it→s.heap.get? b=some o→h'.get? b=some o)→Q x {s with heap:=h'}):wpAny (model prog w) A (call (.ref u) []) Q E s:=by
 obtain⟨ol,hol,_,nl,hdl⟩:=hl
 have hd:(iterObj l i).data= .fields #[.ref l, .int (i:Int) 0]:=rfl
 refine zJa hu ?_
 show wpAny _ _ (field (.ref it) 0>>=_) _ _ s
 refine wpAny_bind (wpAny_field ho hd (x:= .ref l) rfl ?_)
 show wpAny _ _ (if(Value.ref l==Value.none)=true then _ else _) _ _ s
 rw[if_neg (show¬((Value.ref l==Value.none)=true)from Bool.false_ne_true)]
 show wpAny _ _ (field (.ref it) 1>>=_) _ _ s
 refine wpAny_bind (wpAny_field ho hd (x:= .int i 0) rfl ?_)
 show wpAny _ _ (seqItems? (.ref l)>>=_) _ _ s
 refine wpAny_bind (wpAny_seqItems hol hdl ?_)
 simp only[Int.toNat_natCast,hx]
 refine wpAny_bind (wpAny_setField ho hd (by simp) (wpAny_pure ⟨x,rfl,hQ _ ?_ fun b o n e=> ?_⟩))
 ·rw[Heap.get?_update_self _ ho (Obj.isFreed_of_fields (Obj.data_mapFields hd _))]
  simp[iterObj,Obj.mapFields,rawInt]
 ·rw[Heap.get?_update_other _ _ (Ne.symm n)];exact e
theorem zHw {Q:Value→Shared→Prop} (hh:A.handled=none) (hu:s.heap.get? u=some (wrapObj it)) (ho:s.heap.get? it=some (iterObj l i)) (hl:s.heap.IsList l items) (hx:items[i]? =none)
 (hE:∀h' e oe vs a0,(∀b o,b≠it→s.heap.get? b=some o→h'.get? b=some o)→(∃o,h'.get? it=some o∧∃vs,o.data= .fields vs)→s.heap.get? e=none→h'.get? e=some oe→oe.cls= .type "StopIteration"→oe.data= .fields vs→vs[1]? =some .none→vs[0]? =some a0→E (.ref e) {s with heap:=h'}):
 wpAny (model prog w) A (call (.ref u) []) Q E s:=by
 obtain⟨ol,hol,_,nl,hdl⟩:=hl
 have hd:(iterObj l i).data= .fields #[.ref l, .int (i:Int) 0]:=rfl
 refine zJa hu ?_
 show wpAny _ _ (field (.ref it) 0>>=_) _ _ s
 refine wpAny_bind (wpAny_field ho hd (x:= .ref l) rfl ?_)
 show wpAny _ _ (if(Value.ref l==Value.none)=true then _ else _) _ _ s
 rw[if_neg (show¬((Value.ref l==Value.none)=true)from Bool.false_ne_true)]
 show wpAny _ _ (field (.ref it) 1>>=_) _ _ s
 refine wpAny_bind (wpAny_field ho hd (x:= .int i 0) rfl ?_)
 show wpAny _ _ (seqItems? (.ref l)>>=_) _ _ s
 refine wpAny_bind (wpAny_seqItems hol hdl ?_)
 simp only[Int.toNat_natCast,hx]
 refine wpAny_bind (wpAny_rule (wpAny_bind (wpAny_setField ho hd (by simp) ?_)))
 show wpAny _ _ (newExc (.type "StopIteration") []>>=_) _ _ _
 refine wpAny_bind ?_
 simp only[newExc,newTuple]
 refine wpAny_bind (wpAny_newObj_type ?_ (by size_fits))
 refine wpAny_bind (m:=firstArgMember _ _) (wpAny_of_eq (a:=Value.none) (by first|rfl|(simp only[firstArgMember];rfl)) ?_)
 refine wpAny_newObj_type ?_ (by size_fits)
 simp only[raiseNew]
 refine wpAny_bind (wpAny_handled ?_)
 first|rewrite[show A.in1.handled=none from hh]|rewrite[hh]|rewrite[show(A.under _).handled=none from hh]
 refine wpAny_bind (wpAny_pure (wpAny_throw ?_))
 have hup:=Heap.get?_update_self (Obj.mapFields (·.setIfInBounds 0 Value.none)) ho (Obj.isFreed_of_fields (Obj.data_mapFields hd _))
 refine hE _ _ _ _ _ (fun b o n e=> ?_) ⟨_,Heap.get?_push_of_some _ (Heap.get?_push_of_some _ hup),_,Obj.data_mapFields hd _⟩ ?_ (Heap.get?_push_size _ rfl) rfl rfl rfl rfl
 ·refine Heap.get?_push_of_some _ (Heap.get?_push_of_some _ ?_)
  rw[Heap.get?_update_other _ _ (Ne.symm n)];exact e
 ·cases e:s.heap.get? _ with
  |none=>rfl
  |some o=>
   have:=Heap.lt_size e
   rw[Heap.size_push,Heap.size_update]at this
   exact absurd this (Nat.not_lt.mpr (Nat.le_succ _))
end
end W1
section M40
open PySem.Calls
theorem zMi:isSubtype (.type "StopIteration") (.type "BaseException")=pure true:=by rw[isSubtype_type];kernel_rfl
theorem zHy:isSubtype (.type ((Manifest.find? "StopIteration").elim "type" fun x=>x.metatype)) (.type "tuple")=pure false:=by
 have e:((Manifest.find? "StopIteration").elim "type" fun x=>x.metatype)="type":=by decide+kernel
 rw[e,isSubtype_type];kernel_rfl
theorem zP4:isSubtype (.type "StopIteration") (.type "StopIteration")=pure true:=by rw[isSubtype_type];kernel_rfl
theorem sub_VE:isSubtype (.type "ValueError") (.type "ValueError")=pure true:=by rw[isSubtype_type];kernel_rfl
section
variable {prog:Program} {w:World} {h h':Heap} {A:Around} {X M O O' Ls:List Addr} {g base:Heap} {env:Env} {Γ:List (Str×Bd)} {outer:List Env} {s:Shared} {E:Value→Shared→Prop} {Q:Flow→Shared→Prop}
theorem zL1 {L e:Addr} {oe:Obj} {vs:Array Value} {a0:Value} {np hpos:Pos} {b₀:Stmt} {suite:List Stmt} {rest:List ExceptHandler} (S:Stk A (env::outer) (L::Ls)) (D:Dicts (L::Ls) s.heap) (kb:Ext base s.heap) (nb:∀b∈L::Ls,base.get? b=none)
 (hen:base.get? e=none) (he:s.heap.get? e=some oe) (hc:oe.cls= .type "StopIteration") (hd:oe.data= .fields vs) (h1:vs[1]? =some .none) (h0:vs[0]? =some a0)
 (hn:∀h',Ext base h'→Up (L::Ls) s.heap h'→EvV prog w (A.mark (some (.ref e))) h' (eval (.Name "StopIteration" np) env) (.type "StopIteration"))
 (k:∀h' tk E',Ext base h'→s.heap.UpToSlots h'→wpAny (model prog w) (A.mark (some (.ref e))) (execs (b₀::suite) env) Q E' (sat s h' tk)):
 wpAny (model prog w) A (noteFrame (.ref e) env) (fun _ s₂=>wpAny (model prog w) A (setFlight (.ref e) none) (fun _ s₃=>wpAny (model prog w) A (handleBy (.ref e) env (.ExceptHandler (some (.Name "StopIteration" np)) none (b₀::suite) hpos::rest)) Q E s₃) E s₂) E s:=by
 have hf:env.frame=some L:=by have:=S.at_;simp only[List.map_cons,List.cons.injEq]at this;exact this.1
 refine zKl S.fr (S.funs D nb) hf he kb hen hd h1 h0 fun h₁ held up₁=> ?_
 rw[hc]at held
 refine wpAny_landsW held fun h₂ fl₂ up₂=> ?_
 have D₁:=D.slots up₁
 have u02:Up (L::Ls) s.heap h₂:=(Up.of_slots D up₁).trans (Up.of_slots D₁ up₂)
 obtain⟨ob,hob,hobc⟩:=fl₂.there
 refine wpAny_handleBy_builtin (X:="StopIteration") (T:="StopIteration") (b:=true) zMi zHy zP4 (EvV.run (hn h₂ fl₂.1 u02) Ext.rfl fun h₃ tk₃ k₃=> ?_)
 have fl₃:Heap.FlyingW base (env::outer) e (.type "StopIteration") a0 h₃:=by
  obtain⟨f1,f2,f3,f4⟩:=fl₂
  refine⟨fun b o e=>k₃ b o (f1 b o e),f2,f3.of_keeps fun b o e _=>⟨o,k₃ b o e,rfl⟩,?_⟩
  obtain⟨oe,vs,T,oT,ts,a1,a2,a3,a4,a5,a6,a7,a8,a9⟩:=f4
  exact⟨oe,vs,T,oT,ts,k₃ _ _ a1,a2,a3,a4,a5,a6,k₃ _ _ a7,a8,a9⟩
 refine⟨rfl,⟨ob,k₃ _ _ hob,hobc⟩,?_⟩
 rw[if_pos rfl]
 refine lands_againW fl₃ fun h₄ fl₄ up₄=> ?_
 exact k h₄ _ _ fl₄.1 (((up₁.trans up₂).trans (Heap.UpToSlots.of_keeps k₃)).trans up₄)
theorem zPu {L e:Addr} {args:List Value} {np hpos:Pos} {n:Str} {b₀:Stmt} {suite:List Stmt} {rest:List ExceptHandler} (S:Stk A (env::outer) (L::Ls)) (D:Dicts (L::Ls) s.heap) (hx:Flies (env::outer) base e (.type "ValueError") args s.heap)
 (hn:∀h',Ext base h'→Up (L::Ls) s.heap h'→EvV prog w (A.mark (some (.ref e))) h' (eval (.Name "ValueError" np) env) (.type "ValueError"))
 (k:∀h' tk t E',Ext base h'→Up (L::Ls) s.heap h'→base.get? e=none→base.get? t=none→h'.ExcAt e "ValueError" (.ref t)→h'.TupAt t args→wpAny (model prog w) (A.mark (some (.ref e))) (storeName env n (.ref e)) (fun _ s₃=>
  wpAny (model prog w) (A.mark (some (.ref e))) (execs (b₀::suite) env) (fun f s₄=>wpAny (model prog w) A (do bindName env n .none;unbindBehindTheSuite env n hpos) (fun _ s₅=>Q f s₅) E s₄) (fun _ _=>False) s₃) E' (sat s h' tk)):
 wpAny (model prog w) A (noteFrame (.ref e) env) (fun _ s₂=>wpAny (model prog w) A (setFlight (.ref e) none) (fun _ s₃=>wpAny (model prog w) A (handleBy (.ref e) env (.ExceptHandler (some (.Name "ValueError" np)) (some n) (b₀::suite) hpos::rest)) Q E s₃) E s₂) E s:=by
 have hf:env.frame=some L:=by have:=S.at_;simp only[List.map_cons,List.cons.injEq]at this;exact this.1
 obtain⟨t,fl,tu,nt⟩:=hx.ex
 refine wpAny_looks_onW S.fr hf fl fun h₁ held up₁=> ?_
 refine wpAny_landsW held fun h₂ fl₂ up₂=> ?_
 have D₁:=D.slots up₁
 have u02:Up (L::Ls) s.heap h₂:=(Up.of_slots D up₁).trans (Up.of_slots D₁ up₂)
 have tu₂:=(tu.of_slots up₁).of_slots up₂
 obtain⟨ob,hob,hobc⟩:=fl₂.there
 refine wpAny_handleBy_builtin_as (X:="ValueError") (T:="ValueError") (b:=true) PySem.F.isExc_ValueError PySem.F.notTuple_ValueError sub_VE (EvV.run (hn h₂ fl₂.1 u02) Ext.rfl fun h₃ tk₃ k₃=> ?_)
 have fl₃:Heap.FlyingW base (env::outer) e (.type "ValueError") (.ref t) h₃:=by
  obtain⟨f1,f2,f3,f4⟩:=fl₂
  refine⟨fun b o e=>k₃ b o (f1 b o e),f2,f3.of_keeps fun b o e _=>⟨o,k₃ b o e,rfl⟩,?_⟩
  obtain⟨oe,vs,T,oT,ts,a1,a2,a3,a4,a5,a6,a7,a8,a9⟩:=f4
  exact⟨oe,vs,T,oT,ts,k₃ _ _ a1,a2,a3,a4,a5,a6,k₃ _ _ a7,a8,a9⟩
 refine⟨rfl,⟨ob,k₃ _ _ hob,hobc⟩,?_⟩
 rw[if_pos rfl]
 refine lands_againW fl₃ fun h₄ fl₄ up₄=> ?_
 have D₂:=D₁.slots up₂
 have u04:Up (L::Ls) s.heap h₄:=(u02.trans (Up.of_ext k₃)).trans (Up.of_slots (D₂.ext k₃) up₄)
 obtain⟨oe,ws,hoe,hoec,hoed,hoe0⟩:=fl₄.first
 refine wpAny_mono (k h₄ tk₃ t _ fl₄.1 u04 fl₄.2.1 nt ⟨oe,ws,hoe,hoec,hoed,hoe0⟩ ((tu₂.keeps k₃).of_slots up₄)) (fun _ s₃ q=> ?_) fun _ _ e=>e
 exact wpAny_mono q (fun _ _ x=>x) fun _ _ x=>x.elim
theorem Fn.moved2 {a:Addr} (F:Fn g (O++X) (O++M) h env Γ) (f:Off O env) (ha:a∈O) (sb:∀b o,b≠a→h.get? b=some o→h'.get? b=some o) (al:∃o,h'.get? a=some o):Fn g (O++X) (O++M) h' env Γ∧Rel (O++M) env h h':=by
 have m:=F.moved (Ls:=[]) (O':=O) f Dicts.nil (fun b o n _ e=>sb b o (fun z=>n (z▸ha)) e) (fun _ m=>nomatch m) (fun _ m=>nomatch m) (fun b m=> .inl m) (fun b m=>m) (fun b m=>by
  by_cases q:b=a
  ·rw[q];exact al
  ·obtain⟨o,e⟩:=F.kx b (List.mem_append_left _ m)
   exact⟨o,sb b o q e⟩)
 exact⟨m.1,m.2.1⟩
theorem Fn.own {a:Addr} (F:Fn g (O++X) (O++M) h env Γ) (k:Ext h h') (n:h.get? a=none) (al:∃o,h'.get? a=some o):Fn g ((a::O)++X) ((a::O)++M) h' env Γ:=F.hide k n al
theorem Off.cons {a:Addr} (F:Fn g X M h env Γ) (f:Off O env) (n:h.get? a=none):Off (a::O) env:=f.goes F fun b m=>by
 rcases List.mem_cons.mp m with rfl|m
 ·exact .inr n
 ·exact .inl m
end
end M40
section P24
section
variable {w:World} {A:Around} {X M O O' Ls:List Addr} {h h':Heap} {g:Heap} {env:Env} {Γ:List (Str×Bd)} {outer:List Env} {s:Shared} {E:Value→Shared→Prop}
theorem zLv {Q:Flow→Shared→Prop} {o e:Expr} {apos cpos epos:Pos} {D:Addr} {S:Str→Bool} {n:Nat} {x:Str} (hS:s.heap.SetOf (strKind PR w) D S n) (hn:n+1<4096) (kx:XOk X s.heap) (ho:EvV PR w A s.heap (eval o env) (.ref D)) (ha:Ev PR w A X s.heap (eval e env) (.str x))
 (hQ:∀h₁ h' tk,Ext s.heap h₁→h'.SetOf (strKind PR w) D (fun y=>S y||decide (y=x)) (if S x then n else n+1)→(∀b o,b≠D→h₁.get? b=some o→h'.get? b=some o)→Q .next (sat s h' tk))
 (hi:autoParam (interactive env=false) aR) (hs:autoParam (swapsWith (.Call (.Attribute o "add" apos) [e] [] cpos) none epos.line env=pure false) aR)
 (hbase:autoParam (attributeBase o "add" env (eval o env)=eval o env) aR) (hst:autoParam (starEach [e] env=[(false,eval e env)]) aR) (hline:autoParam ((apos.endLine==cpos.line)=true) aR):
 wpAny (model PR w) A (exec (.Expr (.Call (.Attribute o "add" apos) [e] [] cpos) epos) env) Q E s:=by
 refine wpAny_Expr ?_ hi hs
 refine Call_method1 hbase hst hline (EvV.run ho Ext.rfl fun h₁ tk₁ k₁=> ?_)
 have keepS:∀{a b:Heap},Ext a b→a.SetOf (strKind PR w) D S n→b.SetOf (strKind PR w) D S n:=fun k ⟨o,es,ep,t,e,r⟩=>⟨o,es,ep,t,k _ _ e,r⟩
 have S₁:=keepS k₁ hS
 refine⟨"set","set.add",PySem.F.plainAttrs_set,PySem.F.slot_set_add,PySem.F.type_set_add,Heap.SetOf.typeIs (s:=(sat s h₁ tk₁)) S₁,Heap.SetOf.noDict (s:=(sat s h₁ tk₁)) S₁,?_⟩
 refine Calls.callWith_builtin rfl (Calls.evalArgs_plain (Calls.spliced_cons (ha.run k₁ (kx.ext k₁) fun v h₂ tk₂ k₂ r₂=>Calls.spliced_nil ?_)))
 obtain⟨t,rfl⟩:=r₂.str_inv
 exact call_set_add (s:=(sat s h₂ tk₂)) (strKind_is PR w x t) rfl (keepS k₂ S₁) hn fun h₃ sb S₃=>hQ h₂ h₃ _ (k₁.trans k₂) S₃ fun b o n e=>sb.extBut b o n e
theorem zNz {Q:Flow→Shared→Prop} {o e:Expr} {apos cpos epos:Pos} {D:Addr} {ys:Array Value} (P:Heap→Value→Prop) (pl:s.heap.PlainList D ys) (hsz:ys.size≤10000) (ho:EvV PR w A s.heap (eval o env) (.ref D))
 (ha:∀(s':Shared) (Q':Value→Shared→Prop),Ext s.heap s'.heap→(∀v h' tk,Ext s'.heap h'→P h' v→Q' v (sat s' h' tk))→wpAny (model PR w) A (eval e env) Q' E s')
 (hQ:∀h₁ h' tk v,Ext s.heap h₁→P h₁ v→h'.PlainList D (ys.push v)→(∀b o,b≠D→h₁.get? b=some o→h'.get? b=some o)→Q .next (sat s h' tk))
 (hi:autoParam (interactive env=false) aR) (hs:autoParam (swapsWith (.Call (.Attribute o "append" apos) [e] [] cpos) none epos.line env=pure false) aR)
 (hbase:autoParam (attributeBase o "append" env (eval o env)=eval o env) aR) (hst:autoParam (starEach [e] env=[(false,eval e env)]) aR) (hline:autoParam ((apos.endLine==cpos.line)=true) aR):
 wpAny (model PR w) A (exec (.Expr (.Call (.Attribute o "append" apos) [e] [] cpos) epos) env) Q E s:=by
 refine wpAny_Expr ?_ hi hs
 refine wpAny_Call_append hbase (by rw[hst];rfl) hline (by rw[hst];rfl) ?_
 refine EvV.run ho Ext.rfl fun h₁ tk₁ k₁=> ?_
 obtain⟨n,e₀⟩:=pl
 refine⟨D,ys,rfl,⟨_,n,k₁ _ _ e₀,rfl,rfl,rfl⟩,ha _ _ k₁ fun v h₂ tk₂ k₂ p₂=> ?_⟩
 refine wpAny_list_append_plain (hsz:=by unfold sizeLine;omega) (s:=(sat s h₂ tk₂)) ⟨n,k₂ _ _ (k₁ _ _ e₀)⟩ fun h₃ pl₃ sb=> ?_
 exact hQ h₂ h₃ tk₂ v (k₁.trans k₂) p₂ pl₃ fun b o n e=>sb.extBut b o n e
theorem zJy {f:Str} {np pos:Pos} {e:Expr} {l:Addr} {xs:List Str} (hf:EvV PR w A h (eval (.Name f np) env) (.builtin "len")) (ha:EvV PR w A h (eval e env) (.ref l)) (L:strList h l xs) (hs:xs.length<2 ^ 62)
 (he:autoParam (starEach [e] env=(false,eval e env)::starEach [] env) aR):Ev PR w A X h (eval (.Call (.Name f np) [e] [] pos) env) (.int xs.length):=by
 intro s Q E k kx hQ
 refine wpAny_Call_ofName (hf s _ _ k fun h₁ tk₁ k₁=> ?_)
 show wpAny _ _ (callWith pos (.builtin "len") [] (backTo pos (starEach [e] env)) []) _ _ _
 rw[he]
 refine Calls.callWith_builtin rfl (Calls.evalArgs_plain (Calls.spliced_cons (ha _ _ _ (k.trans k₁) fun h₂ tk₂ k₂=>Calls.spliced_nil ?_)))
 obtain⟨ps,⟨n,pl⟩,rfl⟩:=L
 have e2:h₂.get? l=some _:=k₂ _ _ (k₁ _ _ (k _ _ pl))
 have es:(strValues ps).toArray.size=(ps.map (·.1)).length:=by simp[strValues]
 refine Calls.call_len_list (s:=(sat s h₂ tk₂)) (items:=(strValues ps).toArray) ⟨_,e2,rfl,n,rfl⟩ (by rw[es];omega) ?_
 rw[es]
 exact hQ _ _ _ (k₁.trans k₂) (Rd.int _ _)
theorem zMy {f:Str} {np cpos apos spos:Pos} {o:Expr} {n:Node} {a:NodeAddr} {Q:Value→Shared→Prop} (S:Stat (hd.heap_1 w.params) s.heap) (N:NodeAt 155 s.heap n a) (hf:EvV PR w A s.heap (eval (.Name f np) env) (.builtin "iter")) (ho:EvV PR w A s.heap (eval o env) (.ref a.i))
 (hQ:∀u it h' tk,Ext s.heap h'→s.heap.get? u=none→s.heap.get? it=none→u≠it→h'.get? u=some (wrapObj it)→h'.get? it=some (iterObj a.l 0)→Q (.ref u) (sat s h' tk))
 (hs:autoParam (attrIs o "successors" spos env) aR) (he:autoParam (starEach [.Attribute o "successors" spos] env=(false,eval (.Attribute o "successors" spos) env)::starEach [] env) aR)
 (hn:autoParam (attrIs (.Call (.Name f np) [.Attribute o "successors" spos] [] cpos) "__next__" apos env) aR):
 wpAny (model PR w) A (eval (.Attribute (.Call (.Name f np) [.Attribute o "successors" spos] [] cpos) "__next__" apos) env) Q E s:=by
 obtain⟨⟨t₁,t₂,e1⟩,e2,ps,⟨m,pl⟩,eps⟩:=N
 refine Attribute_any_ (wpAny_Call_ofName (EvV.run hf Ext.rfl fun h₁ tk₁ k₁=> ?_)) hn
 show wpAny _ _ (callWith cpos (.builtin "iter") [] (backTo cpos (starEach [.Attribute o "successors" spos] env)) []) _ _ _
 rw[he]
 refine Calls.callWith_builtin rfl (Calls.evalArgs_plain (Calls.spliced_cons (EvV.run (zDe S.k ho e1 e2 rfl i_g3 zJv i_f3 i_n3 i_k3 i_s3 rfl hs) k₁ fun h₂ tk₂ k₂=>Calls.spliced_nil ?_)))
 have k:=k₁.trans k₂
 refine zGz (s:=(sat s h₂ tk₂)) (items:=(strValues ps).toArray) ⟨_,k _ _ pl,rfl,m,rfl⟩ ?_
 have hit:(h₂.push (iterObj a.l 0)).get? h₂.objs.size=some (iterObj a.l 0):=Heap.get?_push_size _ rfl
 refine zOw hit rfl rfl ⟨_,rfl⟩ ?_
 have sz:(h₂.push (iterObj a.l 0)).objs.size=h₂.objs.size+1:=Heap.size_push ..
 have fr:∀b:Addr,h₂.objs.size≤b→s.heap.get? b=none:=fun b hb=>by
  cases e:s.heap.get? b with
  |none=>rfl
  |some o=>exact absurd (Heap.lt_size (k _ _ e)) (Nat.not_lt.mpr hb)
 refine hQ _ h₂.objs.size _ _ ((k.trans (Ext.push _ _)).trans (Ext.push _ _)) (fr _ (by rw[sz];exact Nat.le_succ _)) (fr _ (Nat.le_refl _)) (by rw[sz];exact Nat.succ_ne_self _) (Heap.get?_push_size _ rfl) (Heap.get?_push_of_some _ hit)
end
end P24
section P25
section
variable {w:World} {A:Around} {X M O O' Ls:List Addr} {h h':Heap} {g:Heap} {env:Env} {Γ:List (Str×Bd)} {outer:List Env} {s:Shared} {E:Value→Shared→Prop}
structure It where
 name:Str
 pos:Nat
 u:Addr
 it:Addr
structure Fc (w:World) (h:Heap) (σ:Srt) (O:List Addr) (D1 D2 D3 D4:Addr) (st:List It) (sn:List Str):Prop where
 l1:strList h D1 (st.map (·.name))
 l2:h.PlainList D2 (st.map fun e=>Value.ref e.u).toArray
 s3:∃k,h.SetOf (strKind PR w) D3 (fun x=>decide (x∈sn)) k∧k≤sn.length
 d4:∃kvs,h.DictOf (strKind PR w) D4 kvs∧kvs.map (·.1)=st.map (·.name)
 its:∀e∈st,h.get? e.u=some (wrapObj e.it)∧∃p,σ.at e.name=some p∧h.get? e.it=some (iterObj p.2.l e.pos)
 nd:(st.map (·.it)).Nodup
 ne:D1≠D2
 lo:(D4==sysModules)=false
 m1:D1∈O
 m2:D2∈O
 m3:D3∈O
 m4:D4∈O
 mi:∀e∈st,e.u∈O∧e.it∈O
theorem Fc.keep {σ:Srt} {D1 D2 D3 D4:Addr} {st:List It} {sn:List Str} (C:Fc w h σ O D1 D2 D3 D4 st sn) (k:∀b∈O,∀o,h.get? b=some o→h'.get? b=some o):Fc w h' σ O D1 D2 D3 D4 st sn:=by
 refine⟨C.l1.keep (k _ C.m1),?_,?_,?_,?_,C.nd,C.ne,C.lo,C.m1,C.m2,C.m3,C.m4,C.mi⟩
 ·obtain⟨n,e⟩:=C.l2
  exact⟨n,k _ C.m2 _ e⟩
 ·obtain⟨n,⟨o,es,ep,t,e,r⟩,l⟩:=C.s3
  exact⟨n,⟨o,es,ep,t,k _ C.m3 _ e,r⟩,l⟩
 ·obtain⟨kvs,d,e⟩:=C.d4
  exact⟨kvs,d.at (k _ C.m4),e⟩
 ·intro e he
  obtain⟨h1,p,h2,h3⟩:=C.its e he
  exact⟨k _ (C.mi e he).1 _ h1,p,h2,k _ (C.mi e he).2 _ h3⟩
theorem Fc.ext {σ:Srt} {D1 D2 D3 D4:Addr} {st:List It} {sn:List Str} (C:Fc w h σ O D1 D2 D3 D4 st sn) (k:Ext h h'):Fc w h' σ O D1 D2 D3 D4 st sn:=C.keep fun b _ o e=>k b o e
theorem Fc.rel {σ:Srt} {D1 D2 D3 D4:Addr} {st:List It} {sn:List Str} {M':List Addr} (C:Fc w h σ O D1 D2 D3 D4 st sn) (f:Off O env) (R:Rel M' env h h') (n:∀b∈O,b∉M'):Fc w h' σ O D1 D2 D3 D4 st sn:=C.keep fun b hb o e=>f.keep hb R (n b hb) o e
theorem Fc.k1 {σ:Srt} {D1 D2 D3 D4:Addr} {st:List It} {sn:List Str} (C:Fc w h σ O D1 D2 D3 D4 st sn):D1≠D3∧D1≠D4∧D2≠D3∧D2≠D4∧D3≠D4∧∀e∈st,(e.u≠D1∧e.u≠D2∧e.u≠D3∧e.u≠D4)∧(e.it≠D1∧e.it≠D2∧e.it≠D3∧e.it≠D4)∧∀e'∈st,e.u≠e'.it:=by
 obtain⟨ps,⟨n1,e1⟩,_⟩:=C.l1
 obtain⟨n2,e2⟩:=C.l2
 obtain⟨_,⟨o3,es3,ep3,t3,e3,_,d3,_⟩,_⟩:=C.s3
 obtain⟨_,⟨o4,es4,ep4,e4,_,d4,_⟩,_⟩:=C.d4
 have c:∀{a b:Addr} {o o':Obj},h.get? a=some o→h.get? b=some o'→o.data≠o'.data→a≠b:=fun{a b o o'} ea eb n z=>by
  rw[z,eb]at ea;cases ea;exact n rfl
 refine⟨c e1 e3 (by rw[d3];exact fun z=>nomatch z),c e1 e4 (by rw[d4];exact fun z=>nomatch z),c e2 e3 (by rw[d3];exact fun z=>nomatch z),c e2 e4 (by rw[d4];exact fun z=>nomatch z),c e3 e4 (by rw[d3,d4];exact fun z=>nomatch z),fun e he=> ?_⟩
 obtain⟨eu,p,_,ei⟩:=C.its e he
 refine⟨⟨c eu e1 (fun z=>nomatch z),c eu e2 (fun z=>nomatch z),c eu e3 (by rw[d3];exact fun z=>nomatch z),c eu e4 (by rw[d4];exact fun z=>nomatch z)⟩,⟨c ei e1 (fun z=>nomatch z),c ei e2 (fun z=>nomatch z),c ei e3 (by rw[d3];exact fun z=>nomatch z),c ei e4 (by rw[d4];exact fun z=>nomatch z)⟩,fun e' he' z=> ?_⟩
 obtain⟨_,p',_,ei'⟩:=C.its e' he'
 rw[z,ei']at eu
 have:=congrArg Obj.cls (Option.some.inj eu)
 simp[wrapObj,iterObj]at this
theorem zIh {kvs:List (Str×Value)} {xs:List Str} {x:Str} (e:kvs.map (·.1)=xs++[x]) (n:(kvs.map (·.1)).Nodup):(without kvs x).map (·.1)=xs∧(valueAt kvs x).isSome=true:=by
 obtain⟨a,b,rfl,ha,hb⟩:=List.map_eq_append_iff.mp e
 obtain⟨kv,rfl,hx⟩:∃kv,b=[kv]∧kv.1=x:=by
  cases b with
  |nil=>simp at hb
  |cons kv r=>
   cases r with
   |nil=>exact⟨kv,rfl,by simpa using hb⟩
   |cons _ _=>simp at hb
 have na:x∉a.map (·.1):=by
  rw[List.map_append,List.nodup_append]at n
  intro m
  exact n.2.2 x m x (by simp[hx]) rfl
 constructor
 ·unfold without
  rw[List.filter_append,List.map_append]
  have h1:a.filter (fun kv=>decide (kv.1≠x))=a:=List.filter_eq_self.mpr fun q hq=>by
   simp only[decide_eq_true_eq]
   exact fun z=>na (z▸List.mem_map_of_mem hq)
  rw[h1]
  have h2:[kv].filter (fun kv=>decide (kv.1≠x))=[]:=by simp[hx]
  rw[h2,ha];simp
 ·unfold valueAt
  rw[List.find?_append]
  simp[hx]
end
end P25
section P26
section
variable {w:World} {A:Around} {X M O O' Ls:List Addr} {h h':Heap} {g:Heap} {env:Env} {Γ:List (Str×Bd)} {outer:List Env} {s:Shared} {E:Value→Shared→Prop}
theorem zDt {prog:Program} {u it:Addr} {pos:Pos} {Q:Value→Shared→Prop} (hu:s.heap.get? u=some (wrapObj it)) (h:wpAny (model prog w) A (call (.ref u) []) Q E s):wpAny (model prog w) A (callWith pos (.ref u) [] (backTo pos (starEach [] env)) []) Q E s:=by
 show wpAny _ _ (callWith pos (.ref u) [] [] []) _ _ _
 unfold callWith
 refine wpAny_bind (wpAny_holding (evalArgs_nil3 (wpAny_bind (wpAny_standAt ?_))))
 simp only[List.any_nil,Bool.or_false]
 refine wpAny_bind (m:=keeperOf (.ref u)) ?_
 unfold keeperOf
 refine wpAny_bind (wpAny_load hu ?_)
 simp only[wrapObj,show(Value.type "method-wrapper" !=Value.type "method")=true by decide,show(Value.type "method-wrapper"==Value.type "builtin_function_or_method"||Value.type "method-wrapper"==Value.type "method-wrapper")=true by decide,if_true]
 refine wpAny_pure ?_
 exact wpAny_bind (wpAny_mono h (fun r s₂ hr=>wpAny_bind (wpAny_holding (wpAny_point (wpAny_pure hr)))) fun _ _ x=>x)
theorem zN0 {prog:Program} {value slice:Expr} {pos:Pos} {D:Addr} {ys:Array Value} {v:Value} (ha:EvV prog w A h (eval value env) (.ref D)) (hb:Ev prog w A [] h (eval slice env) (.int (-1))) (pl:h.PlainList D ys) (hy:ys[ys.size - 1]? =some v)
 (hs:autoParam (∀l t,subscripted slice false (.ref l) (.int (-1) t)=operate [.ref l, .int (-1) t] (getItem (.ref l) (.int (-1) t))) aT):
 EvV prog w A h (eval (.Subscript value slice pos) env) v:=by
 intro s Q E k hQ
 refine Subscript_ (ha s _ _ k fun h₁ tk₁ k₁=>hb _ _ _ (k.trans k₁) XOk.nil fun v' h₂ tk₂ k₂ r₂=> ?_)
 obtain⟨t,rfl⟩:=r₂.int_inv
 obtain⟨n,e⟩:=pl
 have e2:=k₂ _ _ (k₁ _ _ (k _ _ e))
 have pl₂:h₂.PlainList D ys:=⟨n,e2⟩
 have hpos:0<ys.size:=by
  rcases Nat.eq_zero_or_pos ys.size with h0|h0
  ·simp[h0]at hy
  ·exact h0
 refine PyProof.Rows.tail_any (s:=(sat s h₂ tk₂)) pl₂.isList.typeIs slot_list_getitem.lookup (wpAny_getItem_list_neg (s:=(sat s h₂ tk₂)) pl₂.isList (x:=v) (by decide) (by omega) (by decide) ?_ (hQ h₂ tk₂ (k₁.trans k₂))) (hs _ _)
 rw[neg1]
 exact hy
theorem ev_pop {prog:Program} {o:Expr} {apos cpos:Pos} {D:Addr} {ys:Array Value} {y:Value} {Q:Value→Shared→Prop} (ho:EvV prog w A s.heap (eval o env) (.ref D)) (pl:s.heap.PlainList D ys) (hy:ys[ys.size - 1]? =some y) (hsz:ys.size≤10000)
 (hQ:∀h₁ h' tk,Ext s.heap h₁→h'.PlainList D ys.pop→(∀b o,b≠D→h₁.get? b=some o→h'.get? b=some o)→Q y (sat s h' tk))
 (hbase:autoParam (attributeBase o "pop" env (eval o env)=eval o env) aR) (hline:autoParam ((apos.endLine==cpos.line)=true) aR):
 wpAny (model prog w) A (eval (.Call (.Attribute o "pop" apos) [] [] cpos) env) Q E s:=by
 refine Call_method0 hbase hline (EvV.run ho Ext.rfl fun h₁ tk₁ k₁=> ?_)
 obtain⟨n,e⟩:=pl
 have pl₁:h₁.PlainList D ys:=⟨n,k₁ _ _ e⟩
 refine⟨"list","list.pop",PySem.F.plainAttrs_list,PySem.F.slot_list_pop,PySem.F.type_list_pop,Heap.IsList.typeIs (s:=(sat s h₁ tk₁)) pl₁.isList,zC9 pl₁,?_⟩
 refine Calls.callWith_builtin rfl (evalArgs_nil3 ?_)
 exact zDg (s:=(sat s h₁ tk₁)) pl₁ hy (by unfold sizeLine;omega) fun h₂ pl₂ sb=>hQ h₁ h₂ tk₁ k₁ pl₂ fun b o n e=>sb.extBut b o n e
theorem zM5 {d:Addr} {kvs:List (Str×Value)} {x:Str} {t:Tok} {Q:Unit→Shared→Prop} (hm:s.heap.DictOf (strKind PR w) d kvs) (hv:(valueAt kvs x).isSome=true) (hsz:kvs.length≤10000)
 (h:∀h',h'.DictOf (strKind PR w) d (without kvs x)→(∀b o,b≠d→s.heap.get? b=some o→h'.get? b=some o)→Q () (sat s h' (s.toks+1))):
 wpAny (model PR w) A (delItem (.ref d) (.str x t)) Q E s:=by
 unfold delItem
 try with_reducible refine wpAny_holding ?_
 refine wpAny_bind (wpAny_sequenceKey hm.typeIs (by decide) ?_)
 refine wpAny_bind (wpAny_callSpecial?_slot (name:=Str.ofString "__delitem__") hm.typeIs PySem.F.slot_dict_delitem
  (call_meetsIn PySem.F.slot_dict_delitem hm.typeIs PySem.F.entry_dict_delitem (PySem.F.args_dict_delitem_2 _ _) (meets_dict_delitem_pairs (strKind PR w) d (strKind_is PR w x t)) ⟨kvs,hm,(by unfold sizeLine;omega),hv,fun h' hmm hs=> ?_⟩))
 exact wpAny_pure (h h' hmm fun b o n e=>hs.extBut b o n e)
end
end P26
section P27
section
variable {w:World} {A:Around} {X M O O' Ls:List Addr} {h h':Heap} {g g₀:Heap} {env:Env} {Γ:List (Str×Bd)} {outer:List Env} {s:Shared} {E:Value→Shared→Prop}
structure Dk (Ls:List Addr) (g₀ h:Heap):Prop where
 d:Dicts Ls h
 u:Up Ls g₀ h
theorem Dk.up (D:Dk Ls g₀ h) (k:Up Ls h h'):Dk Ls g₀ h':=⟨D.d.up k,D.u.trans k⟩
theorem Dk.ext (D:Dk Ls g₀ h) (k:Ext h h'):Dk Ls g₀ h':=D.up (Up.of_ext k)
theorem Dk.keep (D:Dk Ls g₀ h) (k:∀b∈Ls,∀o,h.get? b=some o→h'.get? b=some o):Dk Ls g₀ h':=D.up fun b m o e=>⟨o.slots,k b m o e⟩
structure Sch (w:World) (g g₀:Heap) (σ:Srt) (O Ls:List Addr) (D1 D2 D3 D4:Addr) (env:Env) (h:Heap) (Γ:List (Str×Bd)) (st:List It) (sn:List Str):Prop where
 F:Fn g (O++Ls) (O++Ls) h env Γ
 C:Fc w h σ O D1 D2 D3 D4 st sn
 D:Dk Ls g₀ h
 off:Off O env
 dj:∀b∈O,b∉Ls
theorem zJ5 {α:Type} {l:List α} {a:α} {f:α→Value}:((l++[a]).map f).toArray[((l++[a]).map f).toArray.size - 1]? =some (f a):=by simp
theorem pop_of {l:List It} {a:It} {f:It→Value}:((l++[a]).map f).toArray.pop=(l.map f).toArray:=by simp
theorem try_pop {Q:Flow→Shared→Prop} {σ:Srt} {D1 D2 D3 D4:Addr} {st:List It} {e:It} {sn:List Str} {p:Node×NodeAddr} {p2 p3 p4 p5 p6 p7 p8 p9 p10 p11 p12 p13 p14 p15 p16 p17 p18 p19 p20 p21 p22:Pos} {k4:Nat}
 (hh:A.handled=none) (stk:Stk A (env::outer) (env.locals::Ls)) (G:GEnv env) (Sg:Stat (hd.heap_1 w.params) g) (Zg:SOR w g σ) (offL:Off Ls env)
 (T:Sch w g g₀ σ O Ls D1 D2 D3 D4 env s.heap Γ (st++[e]) sn) (hat:σ.at e.name=some p) (hx:p.1.succ.length≤e.pos) (few:st.length≤1000)
 (n1:Γ.lookup ("itstack":Str)=some (.v (.ref D2))) (n2:Γ.lookup ("stack":Str)=some (.v (.ref D1))) (n3:Γ.lookup ("node2stacki":Str)=some (.v (.ref D4)))
 (hQ:∀h' tk,Sch w g g₀ σ O Ls D1 D2 D3 D4 env h' Γ st sn→Rel (O++Ls) env s.heap h'→Q .next (sat s h' tk))
 (hs1:autoParam (swapsWith (.Call (.Subscript (.Name "itstack" p3) (.UnaryOp .USub (.Constant (.int 1) k4 p4) p5) p6) [] [] p7) (some (.Name "node" p2)) p8.line env=pure false) aR)
 (hs2:autoParam (swapsWith (.Call (.Attribute (.Name "itstack" p17) "pop" p18) [] [] p19) none p20.line env=pure false) aR)
 (hi:autoParam (interactive env=false) aR)
 (hb1:autoParam (attributeBase (.Name "stack" p12) "pop" env (eval (.Name "stack" p12) env)=eval (.Name "stack" p12) env) aR)
 (hb2:autoParam (attributeBase (.Name "itstack" p17) "pop" env (eval (.Name "itstack" p17) env)=eval (.Name "itstack" p17) env) aR)
 (hl1:autoParam ((p13.endLine==p14.line)=true) aR) (hl2:autoParam ((p18.endLine==p19.line)=true) aR)
 (hk:autoParam (env.kindOf "StopIteration"=some .globalImplicit) aR)
 (hc:autoParam (eval (.Call (.Subscript (.Name "itstack" p3) (.UnaryOp .USub (.Constant (.int 1) k4 p4) p5) p6) [] [] p7) env=(do callWith p7 (←eval (.Subscript (.Name "itstack" p3) (.UnaryOp .USub (.Constant (.int 1) k4 p4) p5) p6) env) [] (backTo p7 (starEach [] env)) (backToKw p7 (keywordEach [] env)))) aR):
 wpAny (model PR w) A (exec (.Try [.Assign [.Name "node" p2] (.Call (.Subscript (.Name "itstack" p3) (.UnaryOp .USub (.Constant (.int 1) k4 p4) p5) p6) [] [] p7) p8, .Break p9]
  [.ExceptHandler (some (.Name "StopIteration" p10)) none [.Delete [.Subscript (.Name "node2stacki" p11) (.Call (.Attribute (.Name "stack" p12) "pop" p13) [] [] p14) p15] p16, .Expr (.Call (.Attribute (.Name "itstack" p17) "pop" p18) [] [] p19) p20] p21] [] [] p22) env) Q E s:=by
 have C:=T.C
 have F:=T.F
 obtain⟨eu,p',hp',ei⟩:=C.its e (by simp)
 rw[hat]at hp';cases hp'
 obtain⟨mu,mi⟩:=C.mi e (by simp)
 have Z:SOR w s.heap σ:=Zg.keep fun b _ o e=>F.kg b o e
 obtain⟨ps,⟨n₀,pl⟩,eps⟩:=(Z.node p (zBb hat).1).2.2
 refine wpAny_Try_except ?_
 refine wpAny_execs_cons ?_
 refine wpAny_Assign_Name ?_ hs1
 refine PyProof.Rows.Call_ (EvV.run (zN0 (v:= .ref e.u) (zAm F.is n1) (zDw (i:=1) zAo) C.l2 zJ5) Ext.rfl fun h₁ tk₁ k₁=> ?_) hc
 refine zDt (s:=(sat s h₁ tk₁)) (k₁ _ _ eu) ?_
 refine zHw (s:=(sat s h₁ tk₁)) (items:=(strValues ps).toArray) hh (k₁ _ _ eu) (k₁ _ _ ei) ⟨_,k₁ _ _ pl,rfl,n₀,rfl⟩ ?_ fun h₂ ex oe vs a0 kp itl hne he hc hd h1 h0=> ?_
 ·rw[Array.getElem?_eq_none]
  have:=congrArg List.length eps
  simp[strValues]at this⊢
  omega
 have kL:∀b,b∈env.locals::Ls→b≠e.it:=fun b m=>by
  rcases List.mem_cons.mp m with rfl|m
  ·exact fun z=>(T.off _ mi).1 z.symm
  ·exact fun z=>T.dj _ mi (z▸m)
 have k02:∀b o,b≠e.it→s.heap.get? b=some o→h₂.get? b=some o:=fun b o n e'=>kp b o n (k₁ b o e')
 have D₀:Dicts (env.locals::Ls) s.heap:=T.D.d.cons F.is.ns
 have D₂:Dicts (env.locals::Ls) h₂:=D₀.keep fun b m o e'=>k02 b o (kL b m) e'
 have nex:∀b o,s.heap.get? b=some o→b≠ex:=fun b o e' z=>by
  rw[z]at e'
  have:=k₁ _ _ e'
  rw[hne]at this;cases this
 have kb:Ext (hid (ex::env.locals::Ls) h₂) h₂:=zAf _ _
 have nb:∀b∈env.locals::Ls,(hid (ex::env.locals::Ls) h₂).get? b=none:=fun b m=>by
  cases q:(hid (ex::env.locals::Ls) h₂).get? b with
  |none=>rfl
  |some o=>exact absurd (List.mem_cons_of_mem _ m) (zAh q)
 have hen:(hid (ex::env.locals::Ls) h₂).get? ex=none:=by
  cases q:(hid (ex::env.locals::Ls) h₂).get? ex with
  |none=>rfl
  |some o=>exact absurd List.mem_cons_self (zAh q)
 have gb:Ext g (hid (ex::env.locals::Ls) h₂):=fun b o e'=>by
  have ne:b≠e.it:=fun z=>by
   rw[z,F.outM _ (List.mem_append_left _ mi)]at e';cases e'
  refine zAb (k02 b o ne (F.kg b o e')) fun m=> ?_
  rcases List.mem_cons.mp m with m|m
  ·exact nex b o (F.kg b o e') m
  rcases List.mem_cons.mp m with m|m
  ·rw[m,F.outL]at e';cases e'
  ·rw[F.outM _ (List.mem_append_right _ m)]at e';cases e'
 refine zL1 stk D₂ kb nb hen he hc hd h1 h0 (fun h' kb' up=>zAe (Sg.mono (gb.trans kb')) G zFh zFz (by decide) hk) fun h₃ tk₃ E' kb₃ up₃=> ?_
 have k03:∀b o,b≠e.it→b∉env.locals::Ls→s.heap.get? b=some o→h₃.get? b=some o:=fun b o n1 n2 e'=>kb₃ b o (zAb (k02 b o n1 e') fun m=>by
  rcases List.mem_cons.mp m with m|m
  ·exact nex b o e' m
  ·exact n2 m)
 have nOL:∀b∈O,b∉env.locals::Ls:=fun b m q=>by
  rcases List.mem_cons.mp q with q|q
  ·exact(T.off b m).1 q
  ·exact T.dj b m q
 have up03:Up (env.locals::Ls) s.heap h₃:=Up.trans (h':=h₂) (fun b m o e'=>⟨o.slots,k02 b o (kL b m) e'⟩) (Up.of_slots D₂ up₃)
 have al3:∀b∈O,∃o,h₃.get? b=some o:=fun b m=>by
  by_cases z:b=e.it
  ·obtain⟨o,q,_⟩:=itl
   refine⟨o,kb₃ b o (zAb (z▸q) fun m'=> ?_)⟩
   rcases List.mem_cons.mp m' with m'|m'
   ·rw[←z]at ei
    exact nex b _ ei m'
   ·exact nOL b m m'
  ·obtain⟨o,q⟩:=F.kx b (List.mem_append_left _ m)
   exact⟨o,k03 b o z (nOL b m) q⟩
 have mv:=F.moved (O':=O) T.off D₀ (fun b o n1 n2 e'=>k03 b o (fun z=>n1 (z▸mi)) n2 e') up03 (fun b m=>List.mem_cons.mp m) (fun b m=> .inl m) (fun b m=>m) al3
 have F₃:=mv.1
 have R₃:=mv.2.1
 have D₃:Dicts (env.locals::Ls) h₃:=D₂.slots up₃
 have kk:=C.k1
 have ke:=kk.2.2.2.2.2 e (by simp)
 have kO:∀b∈O,b≠e.it→∀o,s.heap.get? b=some o→h₃.get? b=some o:=fun b m z o e'=>k03 b o z (nOL b m) e'
 obtain⟨ps1,⟨m1,pl1⟩,eps1⟩:=C.l1
 rw[List.map_append]at eps1
 obtain⟨qs,rs,hps,hqs,hrs⟩:=List.map_eq_append_iff.mp eps1
 obtain⟨te,hte⟩:∃te,rs=[(e.name,te)]:=by
  cases rs with
  |nil=>simp at hrs
  |cons r rs'=>
   cases rs' with
   |nil=>
    obtain⟨a,b⟩:=r
    simp at hrs
    exact⟨b,by rw[hrs]⟩
   |cons _ _=>simp at hrs
 have len1:qs.length=st.length:=by
  have:=congrArg List.length hqs
  simpa using this
 obtain⟨m2,pl2⟩:=C.l2
 obtain⟨kvs,d4,e4⟩:=C.d4
 have r1₃:=kO _ C.m1 (Ne.symm ke.2.1.1) _ pl1
 have r2₃:=kO _ C.m2 (Ne.symm ke.2.1.2.1) _ pl2
 have d4₃:h₃.DictOf (strKind PR w) D4 kvs:=d4.at (kO _ C.m4 (Ne.symm ke.2.1.2.2.2))
 have lenk:kvs.length=st.length+1:=by
  have:=congrArg List.length e4
  simpa using this
 have ndk:(kvs.map (·.1)).Nodup:=by
  obtain⟨_,_,_,_,_,_,_,_,nd⟩:=d4
  exact nd
 have wl:=zIh (xs:=st.map (·.name)) (x:=e.name) (by rw[e4];simp) ndk
 have last1:(strValues ps1).toArray[(strValues ps1).toArray.size - 1]? =some (.str e.name te):=by
  rw[hps,hte];simp[strValues]
 have pop1:(strValues ps1).toArray.pop=(strValues qs).toArray:=by
  rw[hps,hte];simp[strValues]
 have sz1:(strValues ps1).toArray.size≤10000:=by
  rw[hps,hte];simp[strValues];omega
 refine wpAny_execs_cons (wpAny_Delete (wpAny_deleteEach_cons (delete_Subscript (EvV.run (zAm F₃.is n3) Ext.rfl fun h₄ tk₄ k₄=> ?_))))
 refine ev_pop (D:=D1) (ys:=(strValues ps1).toArray) (y:= .str e.name te) ((zAm F₃.is n2).mono k₄) ⟨m1,k₄ _ _ r1₃⟩ last1 sz1 (fun h₅ h₆ tk₆ k₅ pl₆ sb₆=> ?_) hb1 hl1
 have k35:=k₄.trans k₅
 have mv6:=(F₃.ext k35).moved2 T.off C.m1 sb₆ (let⟨n,e'⟩:=pl₆;⟨_,e'⟩)
 have d4₆:h₆.DictOf (strKind PR w) D4 kvs:=d4₃.at fun o e'=>sb₆ _ o (Ne.symm kk.2.1) (k35 _ _ e')
 refine zM5 (s:={heap:=h₆,gens:=_,drawn:=_,toks:=_,os:=_}) d4₆ wl.2 (by omega) fun h₇ d4₇ sb₇=> ?_
 have mv7:=mv6.1.moved2 T.off C.m4 sb₇ (let⟨o,_,_,e',_⟩:=d4₇;⟨o,e'⟩)
 refine wpAny_deleteEach_nil ?_
 have r2₇:=sb₇ _ _ kk.2.2.2.1 (sb₆ _ _ (Ne.symm C.ne) (k35 _ _ r2₃))
 refine wpAny_execs_cons (wpAny_Expr_any (ev_pop (D:=D2) (ys:=((st++[e]).map fun e=>Value.ref e.u).toArray) (y:= .ref e.u) (zAm mv7.1.is n1) ⟨m2,r2₇⟩ zJ5 (by simp;omega) (fun h₈ h₉ tk₉ k₈ pl₉ sb₉=> ?_) hb2 hl2) hi hs2)
 have mv9:=(mv7.1.ext k₈).moved2 T.off C.m2 sb₉ (let⟨n,e'⟩:=pl₉;⟨_,e'⟩)
 rw[pop_of]at pl₉
 rw[pop1]at pl₆
 have rest:∀b,b≠D1→b≠D2→b≠D4→∀o,h₃.get? b=some o→h₉.get? b=some o:=fun b n1 n2 n4 o e'=>sb₉ b o n2 (k₈ b o (sb₇ b o n4 (sb₆ b o n1 (k35 b o e'))))
 refine wpAny_execs_nil (hQ h₉ _ ⟨mv9.1,⟨⟨qs,?_,hqs⟩,pl₉,?_,⟨without kvs e.name,?_,wl.1⟩,?_,?_,C.ne,C.lo,C.m1,C.m2,C.m3,C.m4,fun x hx'=>C.mi x (List.mem_append_left _ hx')⟩,?_,T.off,T.dj⟩ ?_)
 ·obtain⟨n,e'⟩:=pl₆
  exact⟨n,sb₉ _ _ C.ne (k₈ _ _ (sb₇ _ _ kk.2.1 e'))⟩
 ·obtain⟨k,⟨o,es,ep,t,e',r⟩,l⟩:=C.s3
  exact⟨k,⟨o,es,ep,t,rest _ (Ne.symm kk.1) (Ne.symm kk.2.2.1) kk.2.2.2.2.1 _ (kO _ C.m3 (Ne.symm ke.2.1.2.2.1) _ e'),r⟩,l⟩
 ·exact d4₇.at fun o e'=>sb₉ _ o (Ne.symm kk.2.2.2.1) (k₈ _ o e')
 ·intro x hx'
  have hx2:x∈st++[e]:=List.mem_append_left _ hx'
  obtain⟨xu,q,hq,xi⟩:=C.its x hx2
  have kx':=kk.2.2.2.2.2 x hx2
  have nit:x.it≠e.it:=by
   have nd:=C.nd
   rw[List.map_append,List.nodup_append]at nd
   exact nd.2.2 _ (List.mem_map_of_mem hx') _ (by simp)
  refine⟨rest _ kx'.1.1 kx'.1.2.1 kx'.1.2.2.2 _ (kO _ (C.mi x hx2).1 (kx'.2.2 e (by simp)) _ xu),q,hq,rest _ kx'.2.1.1 kx'.2.1.2.1 kx'.2.1.2.2.2 _ (kO _ (C.mi x hx2).2 nit _ xi)⟩
 ·have nd:=C.nd
  rw[List.map_append,List.nodup_append]at nd
  exact nd.1
 ·refine(T.D.up (up03.le fun b m=>List.mem_cons_of_mem _ m)).keep fun b m o e'=> ?_
  have nO:∀a∈O,b≠a:=fun a ma z=>T.dj a ma (z▸m)
  exact rest b (nO _ C.m1) (nO _ C.m2) (nO _ C.m4) o e'
 ·exact R₃.trans (k35.rel.trans (mv6.2.trans (mv7.2.trans (k₈.rel.trans mv9.2))))
end
end P27
section P28
section
variable {w:World} {A:Around} {X M O O' Ls:List Addr} {h h':Heap} {g g₀:Heap} {env:Env} {Γ:List (Str×Bd)} {outer:List Env} {s:Shared} {E:Value→Shared→Prop}
noncomputable abbrev tryShape (k4:Nat) (p2 p3 p4 p5 p6 p7 p8 p9 p10 p11 p12 p13 p14 p15 p16 p17 p18 p19 p20 p21 p22:Pos):Stmt:=
 .Try [.Assign [.Name "node" p2] (.Call (.Subscript (.Name "itstack" p3) (.UnaryOp .USub (.Constant (.int 1) k4 p4) p5) p6) [] [] p7) p8, .Break p9]
  [.ExceptHandler (some (.Name "StopIteration" p10)) none [.Delete [.Subscript (.Name "node2stacki" p11) (.Call (.Attribute (.Name "stack" p12) "pop" p13) [] [] p14) p15] p16, .Expr (.Call (.Attribute (.Name "itstack" p17) "pop" p18) [] [] p19) p20] p21] [] [] p22
structure Shape (env:Env) (k4:Nat) (p2 p3 p4 p5 p6 p7 p8 p12 p13 p14 p17 p18 p19 p20:Pos):Prop where
 s1:swapsWith (.Call (.Subscript (.Name "itstack" p3) (.UnaryOp .USub (.Constant (.int 1) k4 p4) p5) p6) [] [] p7) (some (.Name "node" p2)) p8.line env=pure false
 s2:swapsWith (.Call (.Attribute (.Name "itstack" p17) "pop" p18) [] [] p19) none p20.line env=pure false
 hi:interactive env=false
 b1:attributeBase (.Name "stack" p12) "pop" env (eval (.Name "stack" p12) env)=eval (.Name "stack" p12) env
 b2:attributeBase (.Name "itstack" p17) "pop" env (eval (.Name "itstack" p17) env)=eval (.Name "itstack" p17) env
 l1:(p13.endLine==p14.line)=true
 l2:(p18.endLine==p19.line)=true
 k:env.kindOf "StopIteration"=some .globalImplicit
 kn:env.kindOf "node"=some .local
 c:eval (.Call (.Subscript (.Name "itstack" p3) (.UnaryOp .USub (.Constant (.int 1) k4 p4) p5) p6) [] [] p7) env=(do callWith p7 (←eval (.Subscript (.Name "itstack" p3) (.UnaryOp .USub (.Constant (.int 1) k4 p4) p5) p6) env) [] (backTo p7 (starEach [] env)) (backToKw p7 (keywordEach [] env)))
structure Nms (Γ:List (Str×Bd)) (D1 D2 D4:Addr):Prop where
 n1:Γ.lookup ("itstack":Str)=some (.v (.ref D2))
 n2:Γ.lookup ("stack":Str)=some (.v (.ref D1))
 n3:Γ.lookup ("node2stacki":Str)=some (.v (.ref D4))
theorem zPf {Q:Flow→Shared→Prop} {σ:Srt} {D1 D2 D3 D4:Addr} {st:List It} {e:It} {sn:List Str} {p:Node×NodeAddr} {y:Str} {k4:Nat} {p2 p3 p4 p5 p6 p7 p8 p9 p10 p11 p12 p13 p14 p15 p16 p17 p18 p19 p20 p21 p22:Pos}
 (Zg:SOR w g σ) (offL:Off Ls env) (T:Sch w g g₀ σ O Ls D1 D2 D3 D4 env s.heap Γ (st++[e]) sn) (hat:σ.at e.name=some p) (hx:p.1.succ[e.pos]? =some y) (N:Nms Γ D1 D2 D4) (H:Shape env k4 p2 p3 p4 p5 p6 p7 p8 p12 p13 p14 p17 p18 p19 p20)
 (hQ:∀h' tk,Sch w g g₀ σ O Ls D1 D2 D3 D4 env h' (("node", .d (.str y))::Γ) (st++[({e with pos:=e.pos+1}:It)]) sn→Rel (O++Ls) env s.heap h'→Q .brk (sat s h' tk)):
 wpAny (model PR w) A (exec (tryShape k4 p2 p3 p4 p5 p6 p7 p8 p9 p10 p11 p12 p13 p14 p15 p16 p17 p18 p19 p20 p21 p22) env) Q E s:=by
 have C:=T.C
 have F:=T.F
 obtain⟨eu,p',hp',ei⟩:=C.its e (by simp)
 rw[hat]at hp';cases hp'
 obtain⟨mu,mi⟩:=C.mi e (by simp)
 have Z:SOR w s.heap σ:=Zg.keep fun b _ o e=>F.kg b o e
 obtain⟨ps,⟨n₀,pl⟩,eps⟩:=(Z.node p (zBb hat).1).2.2
 obtain⟨ty,hty⟩:∃t,(strValues ps).toArray[e.pos]? =some (.str y t):=by
  rw[←eps,List.getElem?_map]at hx
  obtain⟨q,hq,rfl⟩:=Option.map_eq_some_iff.mp hx
  exact⟨q.2,by simp[strValues,hq]⟩
 refine wpAny_Try_except ?_
 refine wpAny_execs_cons ?_
 refine wpAny_Assign_Name ?_ H.s1
 refine PyProof.Rows.Call_ (EvV.run (zN0 (v:= .ref e.u) (zAm F.is N.n1) (zDw (i:=1) zAo) C.l2 zJ5) Ext.rfl fun h₁ tk₁ k₁=> ?_) H.c
 refine zDt (s:=(sat s h₁ tk₁)) (k₁ _ _ eu) ?_
 refine zGt (s:=(sat s h₁ tk₁)) (items:=(strValues ps).toArray) (k₁ _ _ eu) (k₁ _ _ ei) ⟨_,k₁ _ _ pl,rfl,n₀,rfl⟩ hty fun h₂ ei₂ sb₂=> ?_
 have mv:=(F.ext k₁).moved2 T.off mi sb₂ ⟨_,ei₂⟩
 refine zAn mv.1 (.inl H.kn) (b:= .d (.str y)) (Rd.str _ _) fun h₃ tk₃ F₃ R₃=> ?_
 refine wpAny_execs_cons (wpAny_Break ?_)
 have k02:∀b o,b≠e.it→s.heap.get? b=some o→h₂.get? b=some o:=fun b o n e'=>sb₂ b o n (k₁ b o e')
 have kO:∀b∈O,b≠e.it→∀o,s.heap.get? b=some o→h₃.get? b=some o:=fun b m n o e'=>T.off.keep m R₃ (fun m=>nomatch m) o (k02 b o n e')
 have kk:=C.k1
 have ke:=kk.2.2.2.2.2 e (by simp)
 have nm:(st++[({e with pos:=e.pos+1}:It)]).map (·.name)=(st++[e]).map (·.name):=by simp
 have nu:((st++[({e with pos:=e.pos+1}:It)]).map fun e=>Value.ref e.u)=((st++[e]).map fun e=>Value.ref e.u):=by simp
 have ni:(st++[({e with pos:=e.pos+1}:It)]).map (·.it)=(st++[e]).map (·.it):=by simp
 refine hQ h₃ tk₃ ⟨F₃,⟨?_,?_,?_,?_,?_,?_,C.ne,C.lo,C.m1,C.m2,C.m3,C.m4,?_⟩,?_,T.off,T.dj⟩ ?_
 ·rw[nm];exact C.l1.keep fun o e'=>kO _ C.m1 (Ne.symm ke.2.1.1) o e'
 ·rw[nu]
  obtain⟨n,e'⟩:=C.l2
  exact⟨n,kO _ C.m2 (Ne.symm ke.2.1.2.1) _ e'⟩
 ·obtain⟨k,⟨o,es,ep,t,e',r⟩,l⟩:=C.s3
  exact⟨k,⟨o,es,ep,t,kO _ C.m3 (Ne.symm ke.2.1.2.2.1) _ e',r⟩,l⟩
 ·obtain⟨kvs,d,e'⟩:=C.d4
  exact⟨kvs,d.at fun o e'=>kO _ C.m4 (Ne.symm ke.2.1.2.2.2) o e',by rw[nm];exact e'⟩
 ·intro x hx'
  rcases List.mem_append.mp hx' with hx'|hx'
  ·have hx2:x∈st++[e]:=List.mem_append_left _ hx'
   obtain⟨xu,q,hq,xi⟩:=C.its x hx2
   have nit:x.it≠e.it:=by
    have nd:=C.nd
    rw[List.map_append,List.nodup_append]at nd
    exact nd.2.2 _ (List.mem_map_of_mem hx') _ (by simp)
   exact⟨kO _ (C.mi x hx2).1 ((kk.2.2.2.2.2 x hx2).2.2 e (by simp)) _ xu,q,hq,kO _ (C.mi x hx2).2 nit _ xi⟩
  ·obtain rfl:=List.mem_singleton.mp hx'
   exact⟨kO _ mu (ke.2.2 e (by simp)) _ eu,p,hat,T.off.keep mi R₃ (fun m=>nomatch m) _ ei₂⟩
 ·rw[ni];exact C.nd
 ·intro x hx'
  rcases List.mem_append.mp hx' with hx'|hx'
  ·exact C.mi x (List.mem_append_left _ hx')
  ·obtain rfl:=List.mem_singleton.mp hx'
   exact⟨mu,mi⟩
 ·refine T.D.keep fun b m o e'=> ?_
  have nb:b≠e.it:=fun z=>T.dj _ mi (z▸m)
  exact offL.keep m R₃ (fun m=>nomatch m) o (k02 b o nb e')
 ·exact k₁.rel.trans (mv.2.trans (R₃.le zAp))
end
end P28
section P29
section
variable {w:World} {A:Around} {X M O O' Ls:List Addr} {h h':Heap} {g g₀:Heap} {env:Env} {Γ:List (Str×Bd)} {outer:List Env} {s:Shared} {E:Value→Shared→Prop}
theorem zHg {D1:Addr} {xs:List Str} {p1:Pos} {Q:Bool→Shared→Prop} (ho:EvV PR w A s.heap (eval (.Name "stack" p1) env) (.ref D1)) (L:strList s.heap D1 xs) (hs:xs.length≤10000) (hQ:∀h' tk,Ext s.heap h'→Q (!xs.isEmpty) (sat s h' tk)):
 wpAny (model PR w) A (isTrue (.Name "stack" p1) env (eval (.Name "stack" p1) env)) Q E s:=by
 refine wpAny_isTrue_value (EvV.run ho Ext.rfl fun h₁ tk₁ k₁=> ?_) rfl
 obtain⟨ps,⟨n,pl⟩,rfl⟩:=L
 refine wpAny_truthy_list (items:=(strValues ps).toArray) ⟨_,k₁ _ _ pl,rfl,n,rfl⟩ (by simp[strValues]at hs⊢;omega) ?_
 have:(!(strValues ps).toArray.isEmpty)= !(ps.map (·.1)).isEmpty:=by cases ps<;>rfl
 rw[this]
 exact hQ h₁ _ k₁
noncomputable abbrev whileShape (p1 pb pw:Pos) (k4:Nat) (p2 p3 p4 p5 p6 p7 p8 p9 p10 p11 p12 p13 p14 p15 p16 p17 p18 p19 p20 p21 p22:Pos):Stmt:=
 .While (.Name "stack" p1) [tryShape k4 p2 p3 p4 p5 p6 p7 p8 p9 p10 p11 p12 p13 p14 p15 p16 p17 p18 p19 p20 p21 p22] [.Break pb] pw
theorem Sch.ext {σ:Srt} {D1 D2 D3 D4:Addr} {st:List It} {sn:List Str} (T:Sch w g g₀ σ O Ls D1 D2 D3 D4 env h Γ st sn) (k:Ext h h'):Sch w g g₀ σ O Ls D1 D2 D3 D4 env h' Γ st sn:=⟨T.F.ext k,T.C.ext k,T.D.ext k,T.off,T.dj⟩
inductive PI (w:World) (g g₀:Heap) (σ:Srt) (O Ls:List Addr) (D1 D2 D3 D4:Addr) (env:Env) (Γ:List (Str×Bd)) (sn:List Str) (s:Shared):Nat→Shared→Prop
 |mk (h':Heap) (tk:Nat) (st:List It) (T:Sch w g g₀ σ O Ls D1 D2 D3 D4 env h' Γ st sn) (ex:∀e∈st,∃p,σ.at e.name=some p∧p.1.succ.length≤e.pos) (few:st.length≤1000) (R:Rel (O++Ls) env s.heap h'):PI w g g₀ σ O Ls D1 D2 D3 D4 env Γ sn s st.length (sat s h' tk)
theorem zMj {Q:Flow→Shared→Prop} {σ:Srt} {D1 D2 D3 D4:Addr} {st:List It} {sn:List Str} {k4:Nat} {p1 pb pw p2 p3 p4 p5 p6 p7 p8 p9 p10 p11 p12 p13 p14 p15 p16 p17 p18 p19 p20 p21 p22:Pos}
 (hh:A.handled=none) (stk:Stk A (env::outer) (env.locals::Ls)) (G:GEnv env) (Sg:Stat (hd.heap_1 w.params) g) (Zg:SOR w g σ) (offL:Off Ls env)
 (T:Sch w g g₀ σ O Ls D1 D2 D3 D4 env s.heap Γ st sn) (ex:∀e∈st,∃p,σ.at e.name=some p∧p.1.succ.length≤e.pos) (few:st.length≤1000) (N:Nms Γ D1 D2 D4) (H:Shape env k4 p2 p3 p4 p5 p6 p7 p8 p12 p13 p14 p17 p18 p19 p20)
 (hQ:∀h' tk,Sch w g g₀ σ O Ls D1 D2 D3 D4 env h' Γ [] sn→Rel (O++Ls) env s.heap h'→Q .brk (sat s h' tk)):
 wpAny (model PR w) A (exec (whileShape p1 pb pw k4 p2 p3 p4 p5 p6 p7 p8 p9 p10 p11 p12 p13 p14 p15 p16 p17 p18 p19 p20 p21 p22) env) Q E s:=by
 refine wpAny_While ?_
 refine codeAny_whileLoop (PI w g g₀ σ O Ls D1 D2 D3 D4 env Γ sn s) ?_ st.length (.mk s.heap s.toks st T ex few Rel.rfl)
 rintro n s' ⟨h₁,tk₁,st',T₁,ex₁,few₁,R₁⟩
 refine zHg (zAm T₁.F.is N.n2) T₁.C.l1 (by simp;omega) fun h₂ tk₂ k₂=> ?_
 have T₂:=T₁.ext k₂
 rcases List.eq_nil_or_concat st' with rfl|⟨st₂,e,rfl⟩
 ·simp only[List.map_nil,List.isEmpty_nil,Bool.not_true,Bool.false_eq_true,if_false]
  exact wpAny_execs_cons (wpAny_Break (hQ h₂ tk₂ T₂ (R₁.trans k₂.rel)))
 ·have hne:(!((st₂++[e]).map (·.name)).isEmpty)=true:=by simp
  rw[List.concat_eq_append]at T₂ ex₁ few₁⊢
  rw[hne,if_pos rfl]
  obtain⟨p,hat,hx⟩:=ex₁ e (by simp)
  refine wpAny_execs_cons (try_pop hh stk G Sg Zg offL T₂ hat hx (by simp at few₁;omega) N.n1 N.n2 N.n3 (fun h₃ tk₃ T₃ R₃=> ?_) H.s1 H.s2 H.hi H.b1 H.b2 H.l1 H.l2 H.k H.c)
  refine wpAny_execs_nil ⟨st₂.length,by simp, .mk h₃ tk₃ st₂ T₃ (fun x hx=>ex₁ x (List.mem_append_left _ hx)) (by simp at few₁;omega) (R₁.trans (k₂.rel.trans R₃))⟩
theorem zL5 {Q:Flow→Shared→Prop} {σ:Srt} {D1 D2 D3 D4:Addr} {st:List It} {e:It} {sn:List Str} {p:Node×NodeAddr} {y:Str} {k4:Nat} {p1 pb pw p2 p3 p4 p5 p6 p7 p8 p9 p10 p11 p12 p13 p14 p15 p16 p17 p18 p19 p20 p21 p22:Pos}
 (Zg:SOR w g σ) (offL:Off Ls env) (T:Sch w g g₀ σ O Ls D1 D2 D3 D4 env s.heap Γ (st++[e]) sn) (few:st.length≤1000) (hat:σ.at e.name=some p) (hx:p.1.succ[e.pos]? =some y) (N:Nms Γ D1 D2 D4) (H:Shape env k4 p2 p3 p4 p5 p6 p7 p8 p12 p13 p14 p17 p18 p19 p20)
 (hQ:∀h' tk,Sch w g g₀ σ O Ls D1 D2 D3 D4 env h' (("node", .d (.str y))::Γ) (st++[({e with pos:=e.pos+1}:It)]) sn→Rel (O++Ls) env s.heap h'→Q .next (sat s h' tk)):
 wpAny (model PR w) A (exec (whileShape p1 pb pw k4 p2 p3 p4 p5 p6 p7 p8 p9 p10 p11 p12 p13 p14 p15 p16 p17 p18 p19 p20 p21 p22) env) Q E s:=by
 refine wpAny_While ?_
 refine codeAny_whileLoop (fun _ s'=>s'=s) ?_ 0 rfl
 rintro n _ rfl
 refine zHg (zAm T.F.is N.n2) T.C.l1 (by simp;omega) fun h₂ tk₂ k₂=> ?_
 have T₂:=T.ext k₂
 have hne:(!((st++[e]).map (·.name)).isEmpty)=true:=by simp
 rw[hne,if_pos rfl]
 refine wpAny_execs_cons (zPf Zg offL T₂ hat hx N H fun h₃ tk₃ T₃ R₃=> ?_)
 exact hQ h₃ tk₃ T₃ (k₂.rel.trans R₃)
end
end P29
section P30
section
variable {w:World} {A:Around} {X M O O' Ls:List Addr} {h h':Heap} {g g₀:Heap} {env:Env} {Γ:List (Str×Bd)} {outer:List Env} {s:Shared} {E:Value→Shared→Prop}
theorem push_is {Q:Flow→Shared→Prop} {σ:Srt} {D1 D2 D3 D4:Addr} {st:List It} {sn:List Str} {p:Node×NodeAddr} {x:Str} {a1 a2 a3 a4 a5 b1 b2 b3 b4 b5 b6 b7 b8 b9 b10 b11 c1 c2 c3 c4 c5 c6 c7 d1 d2 d3 d4 d5:Pos}
 (Sg:Stat (hd.heap_1 w.params) g) (Zg:SOR w g σ) (G:GEnv env) (offL:Off Ls env) (T:Sch w g g₀ σ O Ls D1 D2 D3 D4 env s.heap Γ st sn) (hat:σ.at x=some p) (hxs:x∉st.map (·.name)) (hxn:x∉sn) (few:st.length≤900) (fsn:sn.length≤2000) (N:Nms Γ D1 D2 D4)
 (n4:Γ.lookup ("n2i":Str)=some (.v (.ref σ.dn))) (n5:Γ.lookup ("seen":Str)=some (.v (.ref D3))) (n6:Γ.lookup ("node":Str)=some (.d (.str x))) (ki:env.kindOf "iter"=some .globalImplicit) (kl:env.kindOf "len"=some .globalImplicit)
 (hQ:∀u it h' tk,Sch w g g₀ σ (u::it::O) Ls D1 D2 D3 D4 env h' Γ (st++[⟨x,0,u,it⟩]) (sn++[x])→s.heap.get? u=none→s.heap.get? it=none→Rel (O++Ls) env s.heap h'→Q .next (sat s h' tk))
 (l1:(a2.endLine==a4.line)=true) (l2:(b10.endLine==b11.line)=true) (l3:(d2.endLine==d4.line)=true):
 wpAny (model PR w) A (execs [.Expr (.Call (.Attribute (.Name "seen" a1) "add" a2) [.Name "node" a3] [] a4) a5,
  .Expr (.Call (.Attribute (.Name "itstack" b1) "append" b10) [.Attribute (.Call (.Name "iter" b2) [.Attribute (.Subscript (.Name "n2i" b3) (.Name "node" b4) b5) "successors" b6] [] b7) "__next__" b8] [] b11) b9,
  .Assign [.Subscript (.Name "node2stacki" c1) (.Name "node" c2) c3] (.Call (.Name "len" c4) [.Name "stack" c5] [] c6) c7,
  .Expr (.Call (.Attribute (.Name "stack" d1) "append" d2) [.Name "node" d3] [] d4) d5] env) Q E s:=by
 have C:=T.C
 have F:=T.F
 have hi:interactive env=false:=by unfold interactive;simp[G.fn]
 obtain⟨k,hS,lk⟩:=C.s3
 obtain⟨kq1,kq2,kq3,kq4,kq5,kq6⟩:=C.k1
 walk_at "sh"
 refine zAa (zLv (X:=O++Ls) (D:=D3) (x:=x) hS (by omega) F.kx (zAm F.is n5) (zAd F.is n6) (fun h₁ h₂ tk₂ k₁ S₂ sb₂=> ?_) hi (hline:=l1))
 have mv2:=(F.ext k₁).moved2 T.off C.m3 sb₂ (let⟨o,_,_,_,e,_⟩:=S₂;⟨o,e⟩)
 have F₂:=mv2.1
 have Z₂:SOR w h₂ σ:=Zg.keep fun b _ o e=>F₂.kg b o e
 have S₂':=Sg.mono F₂.kg
 have k02:∀b o,b≠D3→s.heap.get? b=some o→h₂.get? b=some o:=fun b o n e=>sb₂ b o n (k₁ b o e)
 obtain⟨m2,pl2⟩:=C.l2
 have szs:((st.map fun e=>Value.ref e.u).toArray).size≤10000:=by simp;omega
 walk_at "sh"
 refine zAa (zNz (D:=D2) (ys:=(st.map fun e=>Value.ref e.u).toArray) (fun h v=>∃u it,v= .ref u∧h₂.get? u=none∧h₂.get? it=none∧u≠it∧h.get? u=some (wrapObj it)∧h.get? it=some (iterObj p.2.l 0)) ⟨m2,k02 _ _ kq3 pl2⟩ szs (zAm F₂.is N.n1) ?_ (fun h₃ h₄ tk₄ v k₃ P₃ pl₄ sb₄=> ?_) hi (hline:=l2))
 ·intro s' Q' ks hq
  have Z':SOR w s'.heap σ:=Z₂.keep fun b _ o e=>ks b o e
  refine zMy (S₂'.mono ks) (Z'.node p (zBb hat).1) ((zAe S₂' G n_iter b_iter (by decide) ki).mono ks) ((zJu Z₂ hat F₂.kx (zAm F₂.is n4) (zAd F₂.is n6)).mono ks) fun u it h' tk kh hu hit ne hu' hit'=> ?_
  have fr:∀b,s'.heap.get? b=none→h₂.get? b=none:=fun b e=>by
   cases q:h₂.get? b with
   |none=>rfl
   |some o=>rw[ks b o q]at e;cases e
  exact hq _ h' tk kh ⟨u,it,rfl,fr u hu,fr it hit,ne,hu',hit'⟩
 obtain⟨u,it,rfl,hu,hit,nui,eu₃,ei₃⟩:=P₃
 have fr0:∀b,h₂.get? b=none→s.heap.get? b=none:=fun b e=>by
  cases q:s.heap.get? b with
  |none=>rfl
  |some o=>
   by_cases z:b=D3
   ·obtain⟨o',_,_,_,e',_⟩:=S₂
    rw[z,e']at e;cases e
   ·rw[k02 b o z q]at e;cases e
 have F₃a:=F₂.own k₃ hit ⟨_,ei₃⟩
 have hu₃:∀b,b∈O→b≠u∧b≠it:=fun b m=>by
  obtain⟨o,e⟩:=F₂.kx b (List.mem_append_left _ m)
  exact⟨fun z=>(by rw[z,hu]at e;cases e),fun z=>(by rw[z,hit]at e;cases e)⟩
 have F₃:Fn g ((u::it::O)++Ls) ((u::it::O)++Ls) h₃ env Γ:=by
  have a:=F₂.own k₃ hit ⟨_,ei₃⟩
  have I:EnvIs ((u::it::O)++Ls) h₃ env Γ:=F₂.is.view (fun b o e _=>k₃ b o e) fun b o e _=>zAb (k₃ _ _ (zAf _ _ _ _ e)) fun m=>by
   rcases List.mem_cons.mp m with m|m
   ·have:=zAf _ _ _ _ e
    rw[m,hu]at this;cases this
   rcases List.mem_cons.mp m with m|m
   ·have:=zAf _ _ _ _ e
    rw[m,hit]at this;cases this
   ·exact zAh e m
  refine⟨I,a.kg,a.outL,a.outC,fun b m=> ?_,fun b m=>m,fun b m=> ?_⟩
  ·rcases List.mem_cons.mp m with m|m
   ·cases q:g.get? b with
    |none=>rfl
    |some o=>have:=F₂.kg b o q;rw[m,hu]at this;cases this
   ·exact a.outM b m
  ·rcases List.mem_cons.mp m with m|m
   ·exact⟨_,m▸eu₃⟩
   ·exact a.kx b m
 have off₃:Off (u::it::O) env:=T.off.goes F₂ fun b m=>by
  rcases List.mem_cons.mp m with m|m
  ·exact .inr (m▸hu)
  rcases List.mem_cons.mp m with m|m
  ·exact .inr (m▸hit)
  ·exact .inl m
 have mv4:=F₃.moved2 off₃ (List.mem_cons_of_mem _ (List.mem_cons_of_mem _ C.m2)) sb₄ (let⟨n,e⟩:=pl₄;⟨_,e⟩)
 have F₄:=mv4.1
 have S₄:=Sg.mono F₄.kg
 have k04:∀b o,b≠D3→b≠D2→s.heap.get? b=some o→h₄.get? b=some o:=fun b o n1 n2 e=>sb₄ b o n2 (k₃ b o (k02 b o n1 e))
 have l1₄:strList h₄ D1 (st.map (·.name)):=C.l1.keep fun o e=>k04 _ o kq1 C.ne e
 obtain⟨kvs,d4',e4⟩:=C.d4
 have d4₄:h₄.DictOf (strKind PR w) D4 kvs:=d4'.at fun o e=>k04 _ o (Ne.symm kq5) (Ne.symm kq4) e
 have lkv:kvs.length=st.length:=by
  have:=congrArg List.length e4
  simpa using this
 walk_at "sh"
 refine zAa (wpAny_Assign_Subscript (Ev.run (zJy (X:=(u::it::O)++Ls) (zAe S₄ G zGv zGx (by decide) kl) (zAm F₄.is N.n2) l1₄ (by simp;omega)) Ext.rfl F₄.kx fun v h₅ tk₅ k₅ r₅=>EvV.run (zAm F₄.is N.n3) k₅ fun h₆ tk₆ k₆=>Ev.run (zAd F₄.is n6) (k₅.trans k₆) (F₄.kx.ext (k₅.trans k₆)) fun v' h₇ tk₇ k₇ r₇=> ?_) (by first|rfl|with_unfolding_all rfl))
 obtain⟨t₇,rfl⟩:=r₇.str_inv
 have k47:=k₅.trans (k₆.trans k₇)
 refine wpAny_setItem_pairs (s:={heap:=h₇,gens:=_,drawn:=_,toks:=_,os:=_}) (knd:=strKind PR w) (k:=x) (strKind_is PR w x t₇) (d4₄.at fun o e=>k47 _ _ e) (fun h₈ d4₈ sb₈=> ?_) (by unfold sizeLine;omega)
 have nx:kvs.any (fun kv=>kv.1=x)=false:=by
  rw[List.any_eq_false]
  intro kv hkv
  simp only[decide_eq_true_eq]
  intro z
  apply hxs
  rw[←e4,←z]
  exact List.mem_map_of_mem hkv
 have st8:stored kvs x v=kvs++[(x,v)]:=by unfold stored;rw[nx];rfl
 rw[st8]at d4₈
 have mv8:=(F₄.ext k47).moved2 off₃ (List.mem_cons_of_mem _ (List.mem_cons_of_mem _ C.m4)) (fun b o n e=>sb₈.extBut b o n e) (let⟨o,_,_,e,_⟩:=d4₈;⟨o,e⟩)
 have F₈:=mv8.1
 have k08:∀b o,b≠D3→b≠D2→b≠D4→s.heap.get? b=some o→h₈.get? b=some o:=fun b o n1 n2 n3 e=>sb₈.extBut b o n3 (k47 b o (k04 b o n1 n2 e))
 obtain⟨ps,⟨m1,pl1⟩,eps⟩:=C.l1
 have lps:ps.length=st.length:=by
  have:=congrArg List.length eps
  simpa using this
 walk_at "sh"
 refine zAa (zNz (D:=D1) (ys:=(strValues ps).toArray) (fun h v=>∃t,v= .str x t) ⟨m1,k08 _ _ kq1 C.ne kq2 pl1⟩ (by simp[strValues];omega) (zAm F₈.is N.n2) ?_ (fun h₉ ha tka v' k₉ P₉ pla sba=> ?_) hi (hline:=l3))
 ·intro s' Q' ks hq
  refine Ev.run ((zAd F₈.is n6).mono ks) Ext.rfl (F₈.kx.ext ks) fun v h' tk kh r=> ?_
  obtain⟨t,rfl⟩:=r.str_inv
  exact hq _ h' tk kh ⟨t,rfl⟩
 obtain⟨tx,rfl⟩:=P₉
 have mva:=(F₈.ext k₉).moved2 off₃ (List.mem_cons_of_mem _ (List.mem_cons_of_mem _ C.m1)) sba (let⟨n,e⟩:=pla;⟨_,e⟩)
 have k0a:∀b o,b≠D3→b≠D2→b≠D4→b≠D1→s.heap.get? b=some o→ha.get? b=some o:=fun b o n1 n2 n3 n4 e=>sba b o n4 (k₉ b o (k08 b o n1 n2 n3 e))
 have k4a:∀b o,b≠D4→b≠D1→h₄.get? b=some o→ha.get? b=some o:=fun b o n3 n4 e=>sba b o n4 (k₉ b o (sb₈.extBut b o n3 (k47 b o e)))
 have uD1:u≠D1:=Ne.symm (hu₃ _ C.m1).1
 have uD2:u≠D2:=Ne.symm (hu₃ _ C.m2).1
 have uD4:u≠D4:=Ne.symm (hu₃ _ C.m4).1
 have iD1:it≠D1:=Ne.symm (hu₃ _ C.m1).2
 have iD2:it≠D2:=Ne.symm (hu₃ _ C.m2).2
 have iD4:it≠D4:=Ne.symm (hu₃ _ C.m4).2
 have eu4:h₄.get? u=some (wrapObj it):=sb₄ _ _ uD2 eu₃
 have ei4:h₄.get? it=some (iterObj p.2.l 0):=sb₄ _ _ iD2 ei₃
 refine wpAny_execs_nil (hQ u it ha _ ⟨mva.1,⟨⟨ps++[(x,tx)],?_,by simp[eps]⟩,?_,⟨k+1,?_,by simp;exact lk⟩,⟨kvs++[(x,v)],?_,by simp[e4]⟩,?_,?_,C.ne,C.lo, .tail _ (.tail _ C.m1), .tail _ (.tail _ C.m2), .tail _ (.tail _ C.m3), .tail _ (.tail _ C.m4),?_⟩,?_,off₃,?_⟩ (fr0 u hu) (fr0 it hit) ?_)
 ·simpa[strValues]using pla
 ·obtain⟨n,e⟩:=pl₄
  refine⟨n,?_⟩
  have:=k4a _ _ kq4 (Ne.symm C.ne) e
  simpa using this
 ·have hS':h₂.SetOf (strKind PR w) D3 (fun y=>decide (y∈sn++[x])) (k+1):=by
   have e1:(fun y=>decide (y∈sn)||decide (y=x))=fun y=>decide (y∈sn++[x]):=by
    funext y;rw[Bool.eq_iff_iff];simp
   have e2:(if(decide (x∈sn))=true then k else k+1)=k+1:=by simp[hxn]
   rw[←e1,←e2]
   exact S₂
  obtain⟨o,es,ep,t,e,r⟩:=hS'
  exact⟨o,es,ep,t,k4a _ _ kq5 (Ne.symm kq1) (sb₄ _ _ (Ne.symm kq3) (k₃ _ _ e)),r⟩
 ·exact d4₈.at fun o e=>sba _ o (Ne.symm kq2) (k₉ _ o e)
 ·intro e he
  rcases List.mem_append.mp he with he|he
  ·obtain⟨xu,q,hq,xi⟩:=C.its e he
   have ke:=kq6 e he
   exact⟨k0a _ _ ke.1.2.2.1 ke.1.2.1 ke.1.2.2.2 ke.1.1 xu,q,hq,k0a _ _ ke.2.1.2.2.1 ke.2.1.2.1 ke.2.1.2.2.2 ke.2.1.1 xi⟩
  ·obtain rfl:=List.mem_singleton.mp he
   exact⟨k4a _ _ uD4 uD1 eu4,p,hat,k4a _ _ iD4 iD1 ei4⟩
 ·rw[List.map_append,List.nodup_append]
  refine⟨C.nd,by simp,?_⟩
  intro a ha' b hb z
  obtain⟨e,he,rfl⟩:=List.mem_map.mp ha'
  simp only[List.map_cons,List.map_nil,List.mem_singleton]at hb
  exact(hu₃ _ (C.mi e he).2).2 (z.trans hb)
 ·intro e he
  rcases List.mem_append.mp he with he|he
  ·exact⟨.tail _ (.tail _ (C.mi e he).1), .tail _ (.tail _ (C.mi e he).2)⟩
  ·obtain rfl:=List.mem_singleton.mp he
   exact⟨List.mem_cons_self, .tail _ List.mem_cons_self⟩
 ·refine T.D.keep fun b m o e=> ?_
  have nO:∀a∈O,b≠a:=fun a ma z=>T.dj a ma (z▸m)
  exact k0a b o (nO _ C.m3) (nO _ C.m2) (nO _ C.m4) (nO _ C.m1) e
 ·intro b m q
  have alive:∃o,s.heap.get? b=some o:=let⟨o,_,_,e,_⟩:=T.D.d b q;⟨o,e⟩
  obtain⟨o,e⟩:=alive
  rcases List.mem_cons.mp m with m|m
  ·rw[m,fr0 u hu]at e;cases e
  rcases List.mem_cons.mp m with m|m
  ·rw[m,fr0 it hit]at e;cases e
  ·exact T.dj b m q
 ·intro b o n _ _ e
  exact k0a b o (fun z=>n (List.mem_append_left _ (z▸C.m3))) (fun z=>n (List.mem_append_left _ (z▸C.m2))) (fun z=>n (List.mem_append_left _ (z▸C.m4))) (fun z=>n (List.mem_append_left _ (z▸C.m1))) e
end
end P30
section P31
section
variable {w:World} {A:Around} {X M O O' Ls:List Addr} {h h':Heap} {g g₀:Heap} {env:Env} {Γ:List (Str×Bd)} {outer:List Env} {s:Shared} {E:Value→Shared→Prop}
noncomputable def gam (σ:Srt) (D1 D2 D3 D4:Addr) (x:Str):List (Str×Bd):=[("node", .d (.str x)),("n2i", .v (.ref σ.dn)),("stack", .v (.ref D1)),("itstack", .v (.ref D2)),("seen", .v (.ref D3)),("node2stacki", .v (.ref D4))]
theorem Sch.pick {σ:Srt} {D1 D2 D3 D4:Addr} {st:List It} {sn:List Str} {Γ':List (Str×Bd)} (T:Sch w g g₀ σ O Ls D1 D2 D3 D4 env h Γ st sn) (k:subG Γ' Γ):Sch w g g₀ σ O Ls D1 D2 D3 D4 env h Γ' st sn:=⟨T.F.pick k,T.C,T.D,T.off,T.dj⟩
structure Down (σ:Srt) (rank:Str→Nat):Prop where
 one:∀x p,σ.at x=some p→p.1.succ.length≤1
 go:∀x p,σ.at x=some p→∀y∈p.1.succ,(σ.at y).isSome=true∧rank y<rank x
 top:∀x,(σ.at x).isSome=true→rank x≤800
 few:σ.nodes.length≤1000
structure SnOk (σ:Srt) (sn:List Str):Prop where
 nd:sn.Nodup
 ok:∀y∈sn,(σ.at y).isSome=true
theorem zBx {α:Type} [DecidableEq α]:∀{l m:List α},l.Nodup→(∀a∈l,a∈m)→l.length≤m.length
 | [],_,_,_=>Nat.zero_le _
 |a::l,m,n,s=>by
  have ha:=s a List.mem_cons_self
  have n':=List.nodup_cons.mp n
  have:=zBx (l:=l) (m:=m.erase a) n'.2 fun b hb=>(List.mem_erase_of_ne (fun z=>n'.1 (by rw[←z];exact hb))).mpr (s b (List.mem_cons_of_mem _ hb))
  rw[List.length_erase_of_mem ha]at this
  have hp:=List.length_pos_of_mem ha
  simp only[List.length_cons];omega
theorem SnOk.few {σ:Srt} {sn:List Str} {rank:Str→Nat} (S:SnOk σ sn) (D:Down σ rank):sn.length≤1000:=by
 have:=zBx S.nd (m:=σ.nodes.map fun p=>p.1.name) fun y hy=>by
  obtain⟨p,hp⟩:=Option.isSome_iff_exists.mp (S.ok y hy)
  exact List.mem_map.mpr ⟨p,(zBb hp).1,(zBb hp).2⟩
 rw[List.length_map]at this
 exact Nat.le_trans this D.few
noncomputable abbrev pushShape (a1 a2 a3 a4 a5 b1 b2 b3 b4 b5 b6 b7 b8 b9 b10 b11 c1 c2 c3 c4 c5 c6 c7 d1 d2 d3 d4 d5:Pos):List Stmt:=[.Expr (.Call (.Attribute (.Name "seen" a1) "add" a2) [.Name "node" a3] [] a4) a5,
 .Expr (.Call (.Attribute (.Name "itstack" b1) "append" b10) [.Attribute (.Call (.Name "iter" b2) [.Attribute (.Subscript (.Name "n2i" b3) (.Name "node" b4) b5) "successors" b6] [] b7) "__next__" b8] [] b11) b9,
 .Assign [.Subscript (.Name "node2stacki" c1) (.Name "node" c2) c3] (.Call (.Name "len" c4) [.Name "stack" c5] [] c6) c7,
 .Expr (.Call (.Attribute (.Name "stack" d1) "append" d2) [.Name "node" d3] [] d4) d5]
inductive OI (w:World) (g g₀:Heap) (σ:Srt) (rank:Str→Nat) (O Ls:List Addr) (D1 D2 D3 D4:Addr) (env:Env) (s:Shared):Nat→Shared→Prop
 |mk (h':Heap) (tk:Nat) (O':List Addr) (st:List It) (sn':List Str) (x':Str) (T:Sch w g g₀ σ O' Ls D1 D2 D3 D4 env h' (gam σ D1 D2 D3 D4 x') st sn') (So:SnOk σ sn') (hx:(σ.at x').isSome=true)
  (ex:∀e∈st,∃p,σ.at e.name=some p∧p.1.succ.length≤e.pos∧rank x'<rank e.name) (fw:st.length+rank x'≤800) (own:∀b∈O',b∈O∨s.heap.get? b=none) (R:Rel (O++Ls) env s.heap h'):OI w g g₀ σ rank O Ls D1 D2 D3 D4 env s (rank x') (sat s h' tk)
theorem zPv {Q:Flow→Shared→Prop} {σ:Srt} {D1 D2 D3 D4:Addr} {sn:List Str} {x:Str} {rank:Str→Nat} {rb:List Stmt} {k0 k4:Nat} {t0 t1 q1 q2 q3 q4 q5 q6 q7 q8 p1 pb pw p2 p3 p4 p5 p6 p7 p8 p9 p10 p11 p12 p13 p14 p15 p16 p17 p18 p19 p20 p21 p22:Pos}
 {a1 a2 a3 a4 a5 b1 b2 b3 b4 b5 b6 b7 b8 b9 b10 b11 c1 c2 c3 c4 c5 c6 c7 d1 d2 d3 d4 d5:Pos}
 (hh:A.handled=none) (stk:Stk A (env::outer) (env.locals::Ls)) (Sg:Stat (hd.heap_1 w.params) g) (Zg:SOR w g σ) (G:GEnv env) (offL:Off Ls env)
 (T:Sch w g g₀ σ O Ls D1 D2 D3 D4 env s.heap (gam σ D1 D2 D3 D4 x) [] sn) (hx:(σ.at x).isSome=true) (Dn:Down σ rank) (So:SnOk σ sn)
 (ki:env.kindOf "iter"=some .globalImplicit) (kl:env.kindOf "len"=some .globalImplicit) (H:Shape env k4 p2 p3 p4 p5 p6 p7 p8 p12 p13 p14 p17 p18 p19 p20)
 (l1:(a2.endLine==a4.line)=true) (l2:(b10.endLine==b11.line)=true) (l3:(d2.endLine==d4.line)=true)
 (hQ:∀O' h' tk sn' x',Sch w g g₀ σ O' Ls D1 D2 D3 D4 env h' (gam σ D1 D2 D3 D4 x') [] sn'→SnOk σ sn'→(∀b∈O',b∈O∨s.heap.get? b=none)→Rel (O++Ls) env s.heap h'→Q .next (sat s h' tk)):
 wpAny (model PR w) A (exec (.While (.Constant (.bool true) k0 t0) [.If (.Compare (.Name "node" q1) [.In] [.Name "seen" q2] q3) [.If (.Compare (.Name "node" q4) [.In] [.Name "node2stacki" q5] q6) rb [] q7]
  (pushShape a1 a2 a3 a4 a5 b1 b2 b3 b4 b5 b6 b7 b8 b9 b10 b11 c1 c2 c3 c4 c5 c6 c7 d1 d2 d3 d4 d5) q8,
  whileShape p1 pb pw k4 p2 p3 p4 p5 p6 p7 p8 p9 p10 p11 p12 p13 p14 p15 p16 p17 p18 p19 p20 p21 p22] [] t1) env) Q E s:=by
 refine wpAny_While ?_
 refine codeAny_whileLoop (OI w g g₀ σ rank O Ls D1 D2 D3 D4 env s) ?_ (rank x)
  (.mk s.heap s.toks O [] sn x T So hx (fun _ m=>nomatch m) (by simpa using Dn.top x hx) (fun _ m=> .inl m) Rel.rfl)
 rintro n s' ⟨h₁,tk₁,O₁,st,sn₁,x₁,T₁,So₁,hx₁,ex₁,fw₁,own₁,R₁⟩
 refine(zBl (X:=[]) (h:=h₁) (d:= .bool true) zOo trivial) _ _ _ Ext.rfl XOk.nil fun h₂ tk₂ k₂=> ?_
 walk_at "sh"
 refine opqQ fun TT hTT=>opqE fun EE _=> ?_
 have T₂:=T₁.ext k₂
 have N:Nms (gam σ D1 D2 D3 D4 x₁) D1 D2 D4:=⟨rfl,rfl,rfl⟩
 have F₂:=T₂.F
 have ownR:∀{h''},Rel (O₁++Ls) env h₁ h''→Rel (O++Ls) env s.heap h'':=fun{h''} r=>R₁.grown (fun b m=>(List.mem_append.mp m).elim (fun m=>(own₁ b m).imp (List.mem_append_left _) id) fun m=> .inl (List.mem_append_right _ m)) r
 obtain⟨p,hat⟩:=Option.isSome_iff_exists.mp hx₁
 obtain⟨k,hS,lk⟩:=T₂.C.s3
 have keepS:∀{a b:Heap},Ext a b→a.SetOf (strKind PR w) D3 (fun y=>decide (y∈sn₁)) k→b.SetOf (strKind PR w) D3 (fun y=>decide (y∈sn₁)) k:=fun k ⟨o,es,ep,t,e,r⟩=>⟨o,es,ep,t,k _ _ e,r⟩
 walk_at "sh"
 refine zAa (wpAny_If (wpAny_isTrue_Compare1 (Ev.run (zAd F₂.is (x:="node") rfl) Ext.rfl F₂.kx fun v h₃ tk₃ k₃ r₃=>EvV.run (zAm F₂.is (x:="seen") (u:= .ref D3) rfl) k₃ fun h₄ tk₄ k₄=> ?_) (by rfl)))
 obtain⟨tx,rfl⟩:=r₃.str_inv
 have k24:=k₃.trans k₄
 refine wpAny_inSet_of (s:={heap:=h₄,gens:=_,drawn:=_,toks:=_,os:=_}) (knd:=strKind PR w) (k:=x₁) (strKind_is PR w x₁ tx) rfl (keepS k24 hS) (wpAny_truthy_bool ?_)
 have T₄:=T₂.ext k24
 have F₄:=T₄.F
 have pops:∀(s₅:Shared) (O₅:List Addr) (st₅:List It) (sn₅:List Str),(∃h tk,s₅=(sat s h tk))→Sch w g g₀ σ O₅ Ls D1 D2 D3 D4 env s₅.heap (gam σ D1 D2 D3 D4 x₁) st₅ sn₅→SnOk σ sn₅→(∀e∈st₅,∃p,σ.at e.name=some p∧p.1.succ.length≤e.pos)→st₅.length≤1000→(∀b∈O₅,b∈O∨s.heap.get? b=none)→Rel (O++Ls) env s.heap s₅.heap→
  wpAny (model PR w) A (execs [whileShape p1 pb pw k4 p2 p3 p4 p5 p6 p7 p8 p9 p10 p11 p12 p13 p14 p15 p16 p17 p18 p19 p20 p21 p22] env) TT EE s₅:=by
  rintro _ O₅ st₅ sn₅ ⟨h₅,tk₅,rfl⟩ T₅ So₅ ex₅ fw₅ own₅ R₅
  walk_at "sh"
  refine zAa (zMj hh stk G Sg Zg offL T₅ ex₅ fw₅ N H fun h₆ tk₆ T₆ R₆=> ?_)
  exact hTT _ _ (hQ O₅ h₆ tk₆ sn₅ x₁ T₆ So₅ own₅ (R₅.grown (fun b m=>(List.mem_append.mp m).elim (fun m=>(own₅ b m).imp (List.mem_append_left _) id) fun m=> .inl (List.mem_append_right _ m)) R₆))
 by_cases hin:x₁∈sn₁
 ·rw[if_pos (by simpa using hin)]
  obtain⟨kvs,d4,e4⟩:=T₄.C.d4
  have nst:valueAt kvs x₁=none:=by
   unfold valueAt
   rw[List.find?_eq_none.mpr];rfl
   intro kv hkv
   simp only[decide_eq_true_eq]
   intro z
   have:x₁∈kvs.map (·.1):=z▸List.mem_map_of_mem hkv
   rw[e4]at this
   obtain⟨e,he,hn⟩:=List.mem_map.mp this
   obtain⟨_,_,_,lt⟩:=ex₁ e he
   rw[hn]at lt
   exact Nat.lt_irrefl _ lt
  walk_at "sh"
  refine zAa (wpAny_If (wpAny_isTrue_Compare1 (Ev.run (zAd F₄.is (x:="node") rfl) Ext.rfl F₄.kx fun v h₅ tk₅ k₅ r₅=>EvV.run (zAm F₄.is (x:="node2stacki") (u:= .ref D4) rfl) k₅ fun h₆ tk₆ k₆=> ?_) (by rfl)))
  obtain⟨ty,rfl⟩:=r₅.str_inv
  have k46:=k₅.trans k₆
  refine wpAny_in_of (s:={heap:=h₆,gens:=_,drawn:=_,toks:=_,os:=_}) (knd:=strKind PR w) (k:=x₁) (strKind_is PR w x₁ ty) T₄.C.lo (d4.at fun o e=>k46 _ _ e).mapOf ?_
  rw[nst]
  refine wpAny_truthy_bool ?_
  rw[if_neg (by simp)]
  refine wpAny_execs_nil (wpAny_execs_nil ?_)
  exact pops _ O₁ st sn₁ ⟨_,_,rfl⟩ (T₄.ext k46) So₁ (fun e he=>let⟨p,a,b,_⟩:=ex₁ e he;⟨p,a,b⟩) (by omega) own₁ (ownR ((k₂.trans (k24.trans k46)).rel))
 ·rw[if_neg (by simpa using hin)]
  have hxs:x₁∉st.map (·.name):=fun m=>by
   obtain⟨e,he,hn⟩:=List.mem_map.mp m
   obtain⟨_,_,_,lt⟩:=ex₁ e he
   rw[hn]at lt
   exact Nat.lt_irrefl _ lt
  have fsn:=So₁.few Dn
  refine push_is (Q:=_) Sg Zg G offL T₄ hat hxs hin (by omega) (by omega) N rfl rfl rfl ki kl (fun u it h₇ tk₇ T₇ hu hit R₇=> ?_) l1 l2 l3
  have So₇:SnOk σ (sn₁++[x₁]):=⟨by
   rw[List.nodup_append]
   exact⟨So₁.nd,by simp,fun a ha b hb z=>hin (by simp at hb;rw[←hb,←z];exact ha)⟩,fun y hy=>by
   rcases List.mem_append.mp hy with hy|hy
   ·exact So₁.ok y hy
   ·rw[List.mem_singleton.mp hy];exact hx₁⟩
  have k14:Ext h₁ h₄:=k₂.trans k24
  have fr1:∀b,h₄.get? b=none→h₁.get? b=none:=fun b e=>by
   cases q:h₁.get? b with
   |none=>rfl
   |some o=>rw[k14 b o q]at e;cases e
  have R07:Rel (O++Ls) env s.heap h₇:=ownR (k14.rel.trans R₇)
  have fr0:∀b,h₁.get? b=none→b∈O∨s.heap.get? b=none:=fun b e=>by
   cases q:s.heap.get? b with
   |none=>exact .inr rfl
   |some o=>
    left
    by_cases m:b∈O
    ·exact m
    ·exfalso
     by_cases mL:b∈Ls
     ·obtain⟨o',_,_,e',_⟩:=T₁.D.d b mL
      rw[e']at e;cases e
     ·by_cases ml:b=env.locals
      ·obtain⟨_,o',_,_,e',_⟩:=T₁.F.is.ns
       rw[ml,e']at e;cases e
      ·by_cases mc:∃n,env.kindOf n=some .cell∧env.cells.lookup n=some b
       ·obtain⟨n,_,hc⟩:=mc
        obtain⟨_,o',e',_⟩:=T₁.F.is.cell n b hc
        rw[e']at e;cases e
       ·have:=R₁ b o (fun m'=>(List.mem_append.mp m').elim m mL) ml (fun n hk hc=>mc ⟨n,hk,hc⟩) q
        rw[this]at e;cases e
  have own₇:∀b∈u::it::O₁,b∈O∨s.heap.get? b=none:=fun b m=>by
   rcases List.mem_cons.mp m with m|m
   ·exact fr0 b (fr1 b (m▸hu))
   rcases List.mem_cons.mp m with m|m
   ·exact fr0 b (fr1 b (m▸hit))
   ·exact own₁ b m
  walk_at "sh"
  cases hsu:p.1.succ with
  |nil=>
   refine pops _ (u::it::O₁) _ _ ⟨_,_,rfl⟩ T₇ So₇ (fun e he=> ?_) (by simp;omega) own₇ R07
   rcases List.mem_append.mp he with he|he
   ·obtain⟨q,a,b,_⟩:=ex₁ e he
    exact⟨q,a,b⟩
   ·obtain rfl:=List.mem_singleton.mp he
    exact⟨p,hat,by rw[hsu];simp⟩
  |cons y r=>
   have one:=Dn.one x₁ p hat
   rw[hsu]at one
   obtain rfl:r=[]:=by simpa using one
   have hy:=Dn.go x₁ p hat y (by rw[hsu];simp)
   walk_at "sh"
   refine zAa (zL5 Zg offL T₇ (by omega) hat (y:=y) (by rw[hsu];rfl) N H fun h₈ tk₈ T₈ R₈=> ?_)
   refine wpAny_execs_nil (hTT _ _ ⟨rank y,hy.2, .mk h₈ tk₈ (u::it::O₁) _ (sn₁++[x₁]) y (T₈.pick ⟨rfl,rfl,rfl,rfl,rfl,rfl,trivial⟩) So₇ hy.1 ?_ ?_ own₇ ?_⟩)
   ·intro e he
    rcases List.mem_append.mp he with he|he
    ·obtain⟨q,a,b,lt⟩:=ex₁ e he
     exact⟨q,a,b,Nat.lt_trans hy.2 lt⟩
    ·obtain rfl:=List.mem_singleton.mp he
     exact⟨p,hat,by rw[hsu];simp,hy.2⟩
   ·have:=hy.2
    simp only[List.length_append,List.length_cons,List.length_nil];omega
   ·exact R07.grown (fun b m=>(List.mem_append.mp m).elim (fun m=>(own₇ b m).imp (List.mem_append_left _) id) fun m=> .inl (List.mem_append_right _ m)) R₈
end
end P31
section P32
section
variable {w:World} {A:Around} {X M O O' Ls:List Addr} {h h':Heap} {g g₀:Heap} {env:Env} {Γ:List (Str×Bd)} {outer:List Env} {s:Shared} {E:Value→Shared→Prop}
noncomputable def gam0 (σ:Srt) (D1 D2 D3 D4:Addr):List (Str×Bd):=[("n2i", .v (.ref σ.dn)),("stack", .v (.ref D1)),("itstack", .v (.ref D2)),("seen", .v (.ref D3)),("node2stacki", .v (.ref D4))]
noncomputable abbrev outerShape (rb:List Stmt) (k0 k4:Nat) (t0 t1 q1 q2 q3 q4 q5 q6 q7 q8 p1 pb pw p2 p3 p4 p5 p6 p7 p8 p9 p10 p11 p12 p13 p14 p15 p16 p17 p18 p19 p20 p21 p22 a1 a2 a3 a4 a5 b1 b2 b3 b4 b5 b6 b7 b8 b9 b10 b11 c1 c2 c3 c4 c5 c6 c7 d1 d2 d3 d4 d5:Pos):Stmt:=
 .While (.Constant (.bool true) k0 t0) [.If (.Compare (.Name "node" q1) [.In] [.Name "seen" q2] q3) [.If (.Compare (.Name "node" q4) [.In] [.Name "node2stacki" q5] q6) rb [] q7]
  (pushShape a1 a2 a3 a4 a5 b1 b2 b3 b4 b5 b6 b7 b8 b9 b10 b11 c1 c2 c3 c4 c5 c6 c7 d1 d2 d3 d4 d5) q8,
  whileShape p1 pb pw k4 p2 p3 p4 p5 p6 p7 p8 p9 p10 p11 p12 p13 p14 p15 p16 p17 p18 p19 p20 p21 p22] [] t1
theorem Sch.poke {σ:Srt} {D1 D2 D3 D4 it:Addr} {st:List It} {sn:List Str} (T:Sch w g g₀ σ O Ls D1 D2 D3 D4 env h Γ st sn) (p:Poke it h h') (hL:it≠env.locals) (hC:∀n,env.cells.lookup n≠some it) (hg:g.get? it=none) (hO:it∉O) (hl:it∉Ls):Sch w g g₀ σ O Ls D1 D2 D3 D4 env h' Γ st sn:=
 ⟨T.F.poke p hL hC hg fun m=>(List.mem_append.mp m).elim hO hl,T.C.keep fun b m o e=>p.keep b o (fun z=>hO (z▸m)) e,T.D.keep fun b m o e=>p.keep b o (fun z=>hl (z▸m)) e,T.off,T.dj⟩
inductive SI (w:World) (g g₀:Heap) (σ:Srt) (O Ls:List Addr) (D1 D2 D3 D4:Addr) (env:Env) (s:Shared) (h₁:Heap) (m:Nat) (ep:Nat):Nat→Shared→Prop
 |mk (h':Heap) (tk:Nat) (i:Nat) (O':List Addr) (sn':List Str) (hi:i≤m) (it:h'.IsKeyIter h₁.objs.size σ.dn i m ep) (T:Sch w g g₀ σ O' Ls D1 D2 D3 D4 env h' (gam0 σ D1 D2 D3 D4) [] sn') (So:SnOk σ sn')
  (io:h₁.objs.size∉O') (own:∀b∈O',b∈O∨h₁.get? b=none) (R:Rel (h₁.objs.size::(O++Ls)) env h₁ h'):SI w g g₀ σ O Ls D1 D2 D3 D4 env s h₁ m ep (m+1 - i) (sat s h' tk)
theorem zOu {Q:Flow→Shared→Prop} {σ:Srt} {D1 D2 D3 D4:Addr} {sn:List Str} {rank:Str→Nat} {rb:List Stmt} {k0 k4:Nat} {f1 f2 f3 g1 g2 g3 g4 g5 t0 t1 q1 q2 q3 q4 q5 q6 q7 q8 p1 pb pw p2 p3 p4 p5 p6 p7 p8 p9 p10 p11 p12 p13 p14 p15 p16 p17 p18 p19 p20 p21 p22:Pos}
 {a1 a2 a3 a4 a5 b1 b2 b3 b4 b5 b6 b7 b8 b9 b10 b11 c1 c2 c3 c4 c5 c6 c7 d1 d2 d3 d4 d5:Pos}
 (hh:A.handled=none) (stk:Stk A (env::outer) (env.locals::Ls)) (Sg:Stat (hd.heap_1 w.params) g) (Zg:SOR w g σ) (G:GEnv env) (offL:Off Ls env)
 (T:Sch w g g₀ σ O Ls D1 D2 D3 D4 env s.heap (gam0 σ D1 D2 D3 D4) [] sn) (Dn:Down σ rank) (So:SnOk σ sn)
 (ki:env.kindOf "iter"=some .globalImplicit) (kl:env.kindOf "len"=some .globalImplicit) (H:Shape env k4 p2 p3 p4 p5 p6 p7 p8 p12 p13 p14 p17 p18 p19 p20)
 (l1:(a2.endLine==a4.line)=true) (l2:(b10.endLine==b11.line)=true) (l3:(d2.endLine==d4.line)=true)
 (hQ:∀O' h' tk sn',Sch w g g₀ σ O' Ls D1 D2 D3 D4 env h' (gam0 σ D1 D2 D3 D4) [] sn'→Rel (O++Ls) env s.heap h'→Q .next (sat s h' tk)):
 wpAny (model PR w) A (exec (.For (.Name "node" f1) (.Name "n2i" f2) [.If (.Compare (.Name "node" g1) [.In] [.Name "seen" g2] g3) [.Continue g4] [] g5,
  outerShape rb k0 k4 t0 t1 q1 q2 q3 q4 q5 q6 q7 q8 p1 pb pw p2 p3 p4 p5 p6 p7 p8 p9 p10 p11 p12 p13 p14 p15 p16 p17 p18 p19 p20 p21 p22 a1 a2 a3 a4 a5 b1 b2 b3 b4 b5 b6 b7 b8 b9 b10 b11 c1 c2 c3 c4 c5 c6 c7 d1 d2 d3 d4 d5] [] f3) env) Q E s:=by
 obtain⟨ep,dat⟩:=Zg.dict.dictAt
 generalize hkvs:(σ.nodes.map fun p=>(p.1.name,Value.ref p.2.i))=kvs at dat
 refine wpAny_For (EvV.run (zAm T.F.is (x:="n2i") (u:= .ref σ.dn) rfl) Ext.rfl fun h₁ tk₁ k₁=> ?_) (by intro _;first|rfl|with_unfolding_all rfl)
 have T₁:=T.ext k₁
 refine wpAny_pyIter_dict (s:=(sat s h₁ tk₁)) Zg.lo (dat.keep fun b o e=>T₁.F.kg b o e) ?_
 have hfr:h₁.get? h₁.objs.size=none:=Heap.get?_none_of_le (Nat.le_refl _)
 have T₂:=T₁.ext (Ext.push h₁ {cls:= .type "dict_keyiterator",data:= .fields #[.ref σ.dn, .int 0 0, .int kvs.length 0, .int ep 0]})
 have itL:h₁.objs.size≠env.locals:=fun z=>by
  obtain⟨_,_,_,_,e,_⟩:=T₁.F.is.ns
  rw[←z,hfr]at e;cases e
 have itC:∀n,env.cells.lookup n≠some h₁.objs.size:=fun n hn=>by
  obtain⟨_,_,e,_⟩:=T₁.F.is.cell n _ hn
  rw[hfr]at e;cases e
 have itg:g.get? h₁.objs.size=none:=by
  cases e:g.get? h₁.objs.size with
  |none=>rfl
  |some o=>have:=T₁.F.kg _ _ e;rw[hfr]at this;cases this
 have itO:h₁.objs.size∉O:=fun m=>by
  obtain⟨o,e⟩:=T₁.F.kx _ (List.mem_append_left _ m)
  rw[hfr]at e;cases e
 have itl:h₁.objs.size∉Ls:=fun m=>by
  obtain⟨o,_,_,e,_⟩:=T₁.D.d _ m
  rw[hfr]at e;cases e
 refine codeAny_forLoop_any (SI w g g₀ σ O Ls D1 D2 D3 D4 env s h₁ kvs.length ep) ?_ (kvs.length+1)
  (.mk _ tk₁ 0 O sn (Nat.zero_le _) ⟨_,Heap.get?_push_size _ rfl,rfl,rfl⟩ T₂ So itO (fun _ m=> .inl m) (Ext.push _ _).rel)
 rintro n s' ⟨h₃,tk₃,i,O₃,sn₃,hi,hit,T₃,So₃,itO₃,own₃,R₃⟩
 have dat₃:h₃.DictAt (strKind PR w) σ.dn kvs ep:=dat.keep fun b o e=>T₃.F.kg b o e
 have own:∀{h'':Heap},Rel (h₁.objs.size::(O₃++Ls)) env h₃ h''→Rel (h₁.objs.size::(O++Ls)) env h₁ h'':=fun{h''} r=>R₃.grown (fun b m=>by
  rcases List.mem_cons.mp m with m|m
  ·exact .inl (m▸List.mem_cons_self)
  ·rcases List.mem_append.mp m with m|m
   ·exact(own₃ b m).imp (fun m=>List.mem_cons_of_mem _ (List.mem_append_left _ m)) id
   ·exact .inl (List.mem_cons_of_mem _ (List.mem_append_right _ m))) r
 by_cases hlt:i<kvs.length
 ·obtain⟨⟨key,val⟩,hkv⟩:∃p,kvs[i]? =some p:=⟨kvs[i],by simp[hlt]⟩
  refine wpAny_pyNext_dict_item hit dat₃ hkv fun kv h₄ hkey hit₄ sb₄=> ?_
  have pk:Poke h₁.objs.size h₃ h₄:=⟨fun b o n e=>sb₄.extBut b o n e,fun o e=>by
   obtain⟨o',e',_,d'⟩:=hit
   rw[e]at e';cases e'
   rintro⟨_,_,z⟩
   rw[z]at d';cases d'⟩
  have T₄:=T₃.poke pk itL itC itg itO₃ itl
  refine wpAny_of_eq (by rfl) ?_
  obtain⟨tk,rfl⟩:∃t,kv= .str key t:=by
   cases kv with
   |str y t=>
    have:y=key:=by simpa[PySem.strKind,Value.isStrOf]using hkey
    exact⟨t,by rw[this]⟩
   |_=>simp[PySem.strKind,Value.isStrOf]at hkey
  refine wpAny_assign_Name (zAn T₄.F (.inl H.kn) (b:= .d (.str key)) (Rd.str _ _) fun h₅ tk₅ F₅ R₅=> ?_)
  walk_at "sh"
  refine opqQ fun TT hTT=>opqE fun EE _=> ?_
  have T₅:Sch w g g₀ σ O₃ Ls D1 D2 D3 D4 env h₅ (gam σ D1 D2 D3 D4 key) [] sn₃:=⟨F₅,T₄.C.rel T₄.off R₅ (fun _ _ m=>nomatch m),T₄.D.keep fun b m o e=>offL.keep m R₅ (fun m=>nomatch m) o e,T₄.off,T₄.dj⟩
  have hx:(σ.at key).isSome=true:=by
   have:(key,val)∈σ.nodes.map (fun p=>(p.1.name,Value.ref p.2.i)):=hkvs▸List.mem_of_getElem? hkv
   obtain⟨q,hq,e⟩:=List.mem_map.mp this
   have hn:q.1.name=key:=congrArg (·.1) e
   unfold Srt.at
   rw[List.find?_isSome]
   exact⟨q,hq,by simpa using hn⟩
  have keepIt:∀{a b:Heap} {M':List Addr},Rel M' env a b→h₁.objs.size∉M'→a.IsKeyIter h₁.objs.size σ.dn (i+1) kvs.length ep→b.IsKeyIter h₁.objs.size σ.dn (i+1) kvs.length ep:=fun r n ⟨o,e,x⟩=>⟨o,r _ o n itL (fun m _=>itC m) e,x⟩
  have hit₅:=keepIt R₅ (fun m=>nomatch m) hit₄
  have itOL:h₁.objs.size∉O₃++Ls:=fun m=>(List.mem_append.mp m).elim itO₃ itl
  have R45:Rel (h₁.objs.size::(O₃++Ls)) env h₃ h₅:=fun b o n nl nc e=>R₅ b o (fun m=>nomatch m) nl nc (pk.keep b o (fun z=>n (z▸List.mem_cons_self)) e)
  obtain⟨k,hS,lk⟩:=T₅.C.s3
  walk_at "sh"
  refine zAa (wpAny_If (wpAny_isTrue_Compare1 (Ev.run (zAd T₅.F.is (x:="node") rfl) Ext.rfl T₅.F.kx fun v h₆ tk₆ k₆ r₆=>EvV.run (zAm T₅.F.is (x:="seen") (u:= .ref D3) rfl) k₆ fun h₇ tk₇ k₇=> ?_) (by rfl)))
  obtain⟨tx,rfl⟩:=r₆.str_inv
  have k57:=k₆.trans k₇
  have S₇:h₇.SetOf (strKind PR w) D3 (fun y=>decide (y∈sn₃)) k:=let⟨o,es,ep,t,e,r⟩:=hS;⟨o,es,ep,t,k57 _ _ e,r⟩
  refine wpAny_inSet_of (s:={heap:=h₇,gens:=_,drawn:=_,toks:=_,os:=_}) (knd:=strKind PR w) (k:=key) (strKind_is PR w key tx) rfl S₇ (wpAny_truthy_bool ?_)
  have T₇:=T₅.ext k57
  have hit₇:h₇.IsKeyIter h₁.objs.size σ.dn (i+1) kvs.length ep:=let⟨o,e,x⟩:=hit₅;⟨o,k57 _ _ e,x⟩
  have R37:=R45.trans k57.rel
  by_cases hin:key∈sn₃
  ·rw[if_pos (by simpa using hin)]
   refine wpAny_execs_cons (wpAny_Continue ?_)
   exact hTT _ _ ⟨kvs.length+1 - (i+1),by omega, .mk h₇ _ (i+1) O₃ sn₃ hlt hit₇ (T₇.pick ⟨rfl,rfl,rfl,rfl,rfl,trivial⟩) So₃ itO₃ own₃ (own R37)⟩
  ·rw[if_neg (by simpa using hin)]
   refine wpAny_execs_nil ?_
   walk_at "sh"
   refine zAa (zPv hh stk Sg Zg G offL T₇ hx Dn So₃ ki kl H l1 l2 l3 fun O₈ h₈ tk₈ sn₈ x₈ T₈ So₈ own₈ R₈=> ?_)
   have al₇:∃o,h₇.get? h₁.objs.size=some o:=let⟨o,e,_⟩:=hit₇;⟨o,e⟩
   have itO₈:h₁.objs.size∉O₈:=fun m=>by
    rcases own₈ _ m with m|m
    ·exact itO₃ m
    ·obtain⟨o,e⟩:=al₇
     rw[show h₇.get? h₁.objs.size=none from m]at e;cases e
   have fr1:∀b,h₇.get? b=none→b∈O∨h₁.get? b=none:=fun b e=>by
    cases q:h₁.get? b with
    |none=>exact .inr rfl
    |some o=>
     left
     by_cases m:b∈O
     ·exact m
     ·exfalso
      by_cases mL:b∈Ls
      ·obtain⟨o',_,_,e',_⟩:=T₇.D.d b mL
       rw[e']at e;cases e
      ·by_cases ml:b=env.locals
       ·obtain⟨_,o',_,_,e',_⟩:=T₇.F.is.ns
        rw[ml,e']at e;cases e
       ·by_cases mc:∃n,env.cells.lookup n=some b
        ·obtain⟨n,hc⟩:=mc
         obtain⟨_,o',e',_⟩:=T₇.F.is.cell n b hc
         rw[e']at e;cases e
        ·have:=own R37 b o (fun m'=>by
          rcases List.mem_cons.mp m' with m'|m'
          ·rw[m',hfr]at q;cases q
          ·exact(List.mem_append.mp m').elim m mL) ml (fun n _ hc=>mc ⟨n,hc⟩) q
         rw[this]at e;cases e
   refine wpAny_execs_nil (hTT _ _ ⟨kvs.length+1 - (i+1),by omega, .mk h₈ tk₈ (i+1) O₈ sn₈ hlt (keepIt R₈ itOL hit₇) (T₈.pick ⟨rfl,rfl,rfl,rfl,rfl,trivial⟩) So₈ itO₈ (fun b m=> ?_) (own (R37.trans (R₈.le fun b m=>List.mem_cons_of_mem _ m)))⟩)
   rcases own₈ b m with m|m
   ·exact own₃ b m
   ·exact fr1 b m
 ·have hin:i=kvs.length:=by omega
  subst hin
  refine wpAny_pyNext_dict_end hh hit dat₃ (by simp) fun h₄ eb=> ?_
  have pk:Poke h₁.objs.size h₃ h₄:=⟨fun b o n e=>eb b o n e,fun o e=>by
   obtain⟨o',e',_,d'⟩:=hit
   rw[e]at e';cases e'
   rintro⟨_,_,z⟩
   rw[z]at d';cases d'⟩
  have T₄:=T₃.poke pk itL itC itg itO₃ itl
  refine wpAny_execs_nil (hQ O₃ h₄ _ sn₃ T₄ fun b o n nl nc e=> ?_)
  have e1:=k₁ b o e
  have nb:b≠h₁.objs.size:=fun z=>by rw[z,hfr]at e1;cases e1
  exact pk.keep b o nb (R₃ b o (fun m=>(List.mem_cons.mp m).elim nb n) nl nc e1)
end
end P32
section P33
section
variable {w:World} {A:Around} {X M O O' Ls:List Addr} {h h':Heap} {g g₀:Heap} {env:Env} {Γ:List (Str×Bd)} {outer:List Env} {s:Shared} {E:Value→Shared→Prop}
theorem Off.nil:Off [] env:=fun _ m=>nomatch m
theorem zE4 {y:Str} {py pos:Pos} {e:Expr} {P:Obj→Prop} {Q:Flow→Shared→Prop} (F:Fn g (O++X) (O++M) s.heap env Γ) (hy:Stores env y) (hf:∀ob,P ob→ob.isFreed=false)
 (he:∀(Q:Value→Shared→Prop),(∀ob h₁ tk,P ob→Ext s.heap h₁→Q (.ref h₁.objs.size) (sat s (h₁.push ob) tk))→wpAny (model PR w) A (eval e env) Q E s)
 (hQ:∀a ob h' tk,P ob→s.heap.get? a=none→(∀b o,s.heap.get? b=some o→ @LT.lt Nat _ b a)→(a≠env.locals→(∀n,env.cells.lookup n≠some a)→h'.get? a=some ob)→Fn g ((a::O)++X) ((a::O)++M) h' env ((y, .v (.ref a))::Γ)→Rel [] env s.heap h'→Q .next (sat s h' tk))
 (hs:autoParam (swapsWith e (some (.Name y py)) pos.line env=pure false) aR):wpAny (model PR w) A (exec (.Assign [.Name y py] e pos) env) Q E s:=by
 refine wpAny_Assign_Name (he _ fun ob h₁ tk₁ p k₁=> ?_) hs
 have hn:s.heap.get? h₁.objs.size=none:=by
  cases q:s.heap.get? h₁.objs.size with
  |none=>rfl
  |some o=>
   have:=k₁ _ _ q
   rw[Heap.get?_none_of_le (Nat.le_refl _)]at this;cases this
 have k₂:=k₁.trans (Ext.push h₁ ob)
 have F₁:=F.own k₂ hn ⟨_,Heap.get?_push_size h₁ (hf ob p)⟩
 refine zAn F₁ hy (b:= .v (.ref h₁.objs.size)) rfl fun h' tk F' R'=>hQ _ ob h' tk p hn (fun b o e=>Heap.lt_size (k₁ b o e)) (fun n1 n2=>R' _ _ (fun m=>nomatch m) n1 (fun n _=>n2 n) (Heap.get?_push_size h₁ (hf ob p))) F' (k₂.rel.trans R')
theorem zHs {Q:Value→Shared→Prop} {σ:Srt} {rank:Str→Nat} (S:Stat (hd.heap_1 w.params) (hid Ls s.heap)) (rm:Room A 6) (stk:Stk A outer Ls) (D:Dicts Ls s.heap) (Z:SOR w (hid Ls s.heap) σ) (Dn:Down σ rank)
 (hQ:∀h' tk,(∀b o,b∉Ls→s.heap.get? b=some o→h'.get? b=some o)→Up Ls s.heap h'→Q .none (sat s h' tk)):
 wpAny (model PR w) A (call (.ref 242) [.ref σ.so]) Q E s:=by
 have Sg:Stat (hd.heap_1 w.params) s.heap:=S.mono (zAf _ _)
 have kx:XOk Ls s.heap:=fun b m=>let⟨o,_,_,e,_⟩:=D b m;⟨o,e⟩
 refine' zBc (X:=Ls) (n:=5) [("self", .v (.ref σ.so))] Sg ?ho ?hcd rm kx ?hb (show(["self"]:List Str).Nodup by decide) ?kind ?_ ?hco ?hgen ?hk
 case ho=>k_is
 case hcd=>k_is
 case kind=>rfl
 case hco=>rfl
 case hgen=>rfl
 case hk=>rfl
 case hb=>exact zA1 rfl (.cons rfl .nil)
 intro L h₁ tk F₀ G
 have F:Fn (hid Ls s.heap) ([]++Ls) ([]++Ls) h₁ _ [("self", .v (.ref σ.so))]:=F₀.lend (O:=Ls) fun _ m=>m
 have D₁:Dk Ls s.heap h₁:=⟨D.ext F₀.kg,Up.of_ext F₀.kg⟩
 have offL:=Off.dicts F₀ D D₁.d
 have S₁:=S.mono F.kg
 have Z₁:SOR w h₁ σ:=Z.keep fun b _ o e=>F.kg b o e
 walk_at "sh"
 with_reducible refine zAa (zCo (u:= .ref σ.dn) F (zCe S₁ Z₁ (nmV_ F.is)) stL fun h₂ tk₂ F₂ R₂=> ?_)
 have D₂:Dk Ls s.heap h₂:=D₁.keep fun b m o e=>offL.keep m R₂ (fun m=>nomatch m) o e
 walk_at "sh"
 with_reducible refine zAa (zE4 (O:=[]) (P:=fun ob=>ob={cls:= .type "list",data:= .seq #[]}) F₂ stL ?_ ?_ fun D1 ob₃ h₃ tk₃ p₃ n₃ b₃ g₃ F₃ R₃=> ?_)
 ·rintro _ rfl;rfl
 ·intro Q' q
  refine wpAny_List (wpAny_items_nil ?_)
  exact⟨Nat.zero_le _,q _ _ _ rfl Ext.rfl⟩
 subst p₃
 have off₃:=Off.cons F₂ Off.nil n₃
 walk_at "sh"
 with_reducible refine zAa (zE4 (O:=[D1]) (P:=fun ob=>ob={cls:= .type "list",data:= .seq #[]}) F₃ stL ?_ ?_ fun D2 ob₄ h₄ tk₄ p₄ n₄ b₄ g₄ F₄ R₄=> ?_)
 ·rintro _ rfl;rfl
 ·intro Q' q
  refine wpAny_List (wpAny_items_nil ?_)
  exact⟨Nat.zero_le _,q _ _ _ rfl Ext.rfl⟩
 subst p₄
 have off₄:=Off.cons F₃ off₃ n₄
 have S₄:=S.mono F₄.kg
 walk_at "sh"
 with_reducible refine zAa (zE4 (O:=[D2,D1]) (P:=fun ob=>∃led,ob={cls:= .type "set",dict:=none,data:= .set #[] 0 (.fresh 0 0 led)}) F₄ stL ?_ ?_ fun D3 ob₅ h₅ tk₅ p₅ n₅ b₅ g₅ F₅ R₅=> ?_)
 ·rintro _ ⟨_,rfl⟩;rfl
 ·intro Q' q
  refine wpAny_Call_ofName ((zAe S₄ G n_set b_set).run Ext.rfl fun h tk k=> ?_)
  refine PySem.callWith_type rfl (evalArgs_nil3 ?_)
  exact call_set_0 fun led=>q _ _ _ ⟨led,rfl⟩ k
 obtain⟨led,e₅⟩:=p₅
 subst e₅
 have off₅:=Off.cons F₄ off₄ n₅
 walk_at "sh"
 with_reducible refine zAa (zE4 (O:=[D3,D2,D1]) (P:=fun ob=>ob={cls:= .type "dict",data:= .dict #[]}) F₅ stL ?_ ?_ fun D4 ob₆ h₆ tk₆ p₆ n₆ b₆ g₆ F₆ R₆=> ?_)
 ·rintro _ rfl;rfl
 ·intro Q' q
  exact wpAny_Dict_empty (q _ _ _ rfl Ext.rfl)
 subst p₆
 have off₆:=Off.cons F₅ off₅ n₆
 walk_at "sh"
 have al1:=F₃.kx D1 List.mem_cons_self
 have al2:=F₄.kx D2 List.mem_cons_self
 have a1₄:=F₄.kx D1 (List.mem_cons_of_mem _ List.mem_cons_self)
 have a1₅:=F₅.kx D1 (List.mem_cons_of_mem _ (List.mem_cons_of_mem _ List.mem_cons_self))
 have nLs:∀{hh:Heap} {a:Addr},Dk Ls s.heap hh→hh.get? a=none→a∉Ls:=fun Dd n m=>by
  obtain⟨o,_,_,e,_⟩:=Dd.d _ m
  rw[n]at e;cases e
 have D₃:Dk Ls s.heap h₃:=D₂.keep fun b m o e=>offL.keep m R₃ (fun m=>nomatch m) o e
 have D₄:Dk Ls s.heap h₄:=D₃.keep fun b m o e=>offL.keep m R₄ (fun m=>nomatch m) o e
 have D₅:Dk Ls s.heap h₅:=D₄.keep fun b m o e=>offL.keep m R₅ (fun m=>nomatch m) o e
 have D₆:Dk Ls s.heap h₆:=D₅.keep fun b m o e=>offL.keep m R₆ (fun m=>nomatch m) o e
 have nn:∀(b:Addr),b∉([]:List Addr):=fun _ m=>nomatch m
 have m0:∀(b:Addr) (l:List Addr),b∈b::l:=fun _ _=>List.mem_cons_self
 have c1:=off₃.keep (m0 D1 []) R₆ (nn _) _ (off₃.keep (m0 D1 []) R₅ (nn _) _ (off₃.keep (m0 D1 []) R₄ (nn _) _ (g₃ (off₃ D1 (m0 _ _)).1 (off₃ D1 (m0 _ _)).2)))
 have c2:=off₄.keep (m0 D2 _) R₆ (nn _) _ (off₄.keep (m0 D2 _) R₅ (nn _) _ (g₄ (off₄ D2 (m0 _ _)).1 (off₄ D2 (m0 _ _)).2))
 have c3:=off₅.keep (m0 D3 _) R₆ (nn _) _ (g₅ (off₅ D3 (m0 _ _)).1 (off₅ D3 (m0 _ _)).2)
 have c4:=g₆ (off₆ D4 (m0 _ _)).1 (off₆ D4 (m0 _ _)).2
 have l1:=nLs D₂ n₃
 have l2:=nLs D₃ n₄
 have l3:=nLs D₄ n₅
 have l4:=nLs D₅ n₆
 have ne12:D1≠D2:=fun z=>by
  obtain⟨o,e⟩:=al1
  rw[z,n₄]at e;cases e
 have lo:(D4==sysModules)=false:=by
  have ho:∃o,(hd.heap_1 w.params).lookup 242=some o:=⟨_,by k_is⟩
  obtain⟨o,ho⟩:=ho
  have: @LT.lt Nat _ 242 D4:=b₆ 242 o ((S.mono F₅.kg).k _ _ ho)
  have l3: @Ne Nat D4 1:=by omega
  exact beq_eq_false_iff_ne.mpr l3
 have C:Fc w h₆ σ [D4,D3,D2,D1] D1 D2 D3 D4 [] []:=by
  refine⟨⟨[],⟨_,c1⟩,rfl⟩,⟨_,c2⟩,⟨0,?_,Nat.le_refl _⟩,⟨[],?_,rfl⟩,(fun _ m=>nomatch m),List.nodup_nil,ne12,lo,by simp,by simp,by simp,by simp,fun _ m=>nomatch m⟩
  ·have so:=setObjOf_fresh (knd:=strKind PR w) led
   exact so.setOf c3 (by decide)
  ·exact⟨_, #[],0,c4,⟨rfl,rfl,rfl⟩,rfl,(fun _ he=>by simp at he),Pairs.nil,List.nodup_nil⟩
 have T:Sch w (hid Ls s.heap) s.heap σ [D4,D3,D2,D1] Ls D1 D2 D3 D4 _ h₆ (gam0 σ D1 D2 D3 D4) [] []:=⟨F₆.pick ⟨rfl,rfl,rfl,rfl,rfl,trivial⟩,C,D₆,off₆,fun b m=>by
  simp only[List.mem_cons,List.not_mem_nil,or_false]at m
  rcases m with rfl|rfl|rfl|rfl
  ·exact l4
  ·exact l3
  ·exact l2
  ·exact l1⟩
 have stk':=stk.deeper (env:=F.en) (L:=F.en.locals) rfl rfl
 have nd:SnOk σ []:=⟨List.nodup_nil,fun _ m=>nomatch m⟩
 walk_at "sh"
 refine zAa (zOu (s:=(sat s h₆ tk₆)) (rm.deeper _).hand stk' S Z G offL T Dn nd rfl rfl ⟨?_,?_,?_,?_,?_,?_,?_,?_,?_,?_⟩ rfl rfl rfl fun O' h₇ tk₇ sn' T₇ R₇=> ?_)
 ·rfl
 ·rfl
 ·rfl
 ·rfl
 ·rfl
 ·rfl
 ·rfl
 ·rfl
 ·rfl
 ·rfl
 walk_at "sh"
 refine wpAny_execs_cons (wpAny_Return_some ?_)
 refine zBg (h:=h₇) _ _ _ Ext.rfl fun h₈ tk₈ k₈=> ?_
 refine hQ h₈ tk₈ (fun b o n e=> ?_) (T₇.D.u.trans (Up.of_ext k₈))
 exact k₈ b o (T₇.F.kg b o (zAb e n))
end
end P33
section P34
section
variable {w:World} {A:Around} {X M O O' Ls:List Addr} {h h':Heap} {g g₀:Heap} {env:Env} {Γ:List (Str×Bd)} {outer:List Env} {s:Shared} {E:Value→Shared→Prop}
theorem evV_ns {x:Str} {pos:Pos} {m:Str→Option Value} {v:Value} (hk:env.scope.kind= .function) (hl:env.kindOf x=some .local) (hn:h.Ns env.locals m) (hv:m x=some v) (hd:autoParam ((x==("__debug__":Str))=false) aD):
 EvV PR w A h (eval (.Name x pos) env) v:=fun _ _ _ k hQ=>wpAny_Name (wpAny_loadName_local hk hl (hn.keeps k) hv (hQ _ _ Ext.rfl)) hd
theorem ev_npV {o:Expr} {ap:Pos} {n:Node} {a:NodeAddr} (S:Stat (hd.heap_1 w.params) h) (N:NodeAt 155 h n a) (hx:EvV PR w A h (eval o env) (.ref a.i)) (he:attrIs o "npredecessors" ap env):
 Ev PR w A X h (eval (.Attribute o "npredecessors" ap) env) (.int n.np):=by
 obtain⟨⟨t₁,t₂,e⟩,e2,l⟩:=N
 exact EvV.d (zDe S.k hx e e2 rfl i_g2 zJv i_f2 i_n2 i_k2 i_s2 rfl he) (Rd.int _ t₂)
theorem zPe {o:Expr} {ap:Pos} {n:Node} {a:NodeAddr} (S:Stat (hd.heap_1 w.params) h) (N:NodeAt 155 h n a) (hx:EvV PR w A h (eval o env) (.ref a.i)) (he:attrIs o "node" ap env):
 Ev PR w A X h (eval (.Attribute o "node" ap) env) (.str n.name):=by
 obtain⟨⟨t₁,t₂,e⟩,e2,l⟩:=N
 exact EvV.d (zDe S.k hx e e2 rfl i_g1 zJv i_f1 i_n1 i_k1 i_s1 rfl he) (Rd.str _ t₁)
theorem zNh {o:Expr} {apos cpos:Pos} {d:Addr} {kvs:List (Str×Value)} {Q:Value→Shared→Prop} (hx:EvV PR w A s.heap (eval o env) (.ref d)) (D:s.heap.DictOf (strKind PR w) d kvs) (lo:(d==sysModules)=false)
 (hQ:∀h' tk,Ext s.heap h'→h'.IsValuesView (h'.objs.size - 1) d→Q (.ref (h'.objs.size - 1)) (sat s h' tk))
 (hbase:autoParam (attributeBase o "values" env (eval o env)=eval o env) aR) (hline:autoParam ((apos.endLine==cpos.line)=true) aR):
 wpAny (model PR w) A (eval (.Call (.Attribute o "values" apos) [] [] cpos) env) Q E s:=by
 refine Call_method0 hbase hline (EvV.run hx Ext.rfl fun h₁ tk₁ k₁=> ?_)
 have D₁:h₁.DictOf (strKind PR w) d kvs:=D.at fun o e=>k₁ _ _ e
 refine⟨"dict","dict.values",PySem.F.plainAttrs_dict,PySem.F.slot_dict_values,PySem.F.type_dict_values,D₁.typeIs,D₁.mapOf.noDict,?_⟩
 refine Calls.callWith_builtin rfl (evalArgs_nil3 ?_)
 refine call_meetsIn PySem.F.slot_dict_values D₁.typeIs PySem.F.entry_dict_values (PySem.F.args_dict_values_1 _) (meets_dict_values (strKind PR w) d lo) ⟨⟨kvs,D₁⟩,?_⟩
 have e:(h₁.push {cls:= .type "dict_values",data:= .fields #[.ref d]}).objs.size - 1=h₁.objs.size:=by rw[Heap.size_push];rfl
 have q:=hQ (h₁.push {cls:= .type "dict_values",data:= .fields #[.ref d]}) tk₁ (k₁.trans (Ext.push _ _)) (by rw[e];exact⟨_,Heap.get?_push_size _ rfl,rfl,rfl⟩)
 rw[e]at q
 exact q
theorem zQv {σ:Srt} (Z:SOR w h σ) {p q:Node×NodeAddr} (hp:p∈σ.nodes) (hq:q∈σ.nodes) (e:p.2.i=q.2.i):p=q:=by
 apply Classical.byContradiction
 intro ne
 exact Z.apart_nodes hp hq ne p.2.i (by simp[NodeAddr.all]) (by rw[e];simp[NodeAddr.all])
noncomputable def isFree (σ:Srt) (v:Value):Bool:=match v with
 | .ref a=>(σ.nodes.find? fun q=>q.2.i==a).any fun q=>q.1.np==0
 |_=>false
theorem zI4 {σ:Srt} (Z:SOR w h σ) {p:Node×NodeAddr} (hp:p∈σ.nodes):isFree σ (.ref p.2.i)=(p.1.np==0):=by
 have:σ.nodes.find? (fun q=>q.2.i==p.2.i)=some p:=by
  cases e:σ.nodes.find? (fun q=>q.2.i==p.2.i)with
  |none=>
   have:=List.find?_eq_none.mp e p hp
   simp at this
  |some q=>
   have h1:=List.find?_some e
   rw[zQv Z (List.mem_of_find?_eq_some e) hp (by simpa using h1)]
 simp[isFree,this]
theorem zEp {σ:Srt}:∀{l:List (Node×NodeAddr)} {ys:List Value},Paired (fun v y=>∃q∈σ.nodes,v=Value.ref q.2.i∧∃t,y= .str q.1.name t) (l.map fun q=>Value.ref q.2.i) ys→(∀p∈l,p∈σ.nodes)→(∀p∈σ.nodes,∀q∈σ.nodes,p.2.i=q.2.i→p=q)→∃ps:List (Str×Tok),ys=strValues ps∧ps.map (·.1)=l.map (·.1.name)
 | [],ys,P,_,_=>by
  cases P
  exact⟨[],rfl,rfl⟩
 |p::l,ys,P,m,u=>by
  cases P with
  |cons a P=>
   obtain⟨q,hq,e,t,rfl⟩:=a
   obtain rfl:p=q:=u p (m p (by simp)) q hq (by simpa using e)
   obtain⟨ps,rfl,e2⟩:=zEp P (fun p' m'=>m p' (List.mem_cons_of_mem _ m')) u
   exact⟨(p.1.name,t)::ps,rfl,by simp[e2]⟩
theorem zL3 {Q:Value→Shared→Prop} {σ:Srt} {scope:Scope} {e1 e2 px a1 a2 a3 a4 c1 c2 c4 c5 pos:Pos} {c3:Nat} (hh:A.handled=none) (S:Stat (hd.heap_1 w.params) s.heap) (Z:SOR w s.heap σ) (few:σ.nodes.length≤1000) (hx:EvV PR w A s.heap (eval (.Name "self" a1) env) (.ref σ.so))
 (hfree:∀y∈scope.names,y.2≠ .free) (hcell:∀y∈scope.names,y.2≠ .cell) (hkind:scope.kind= .function)
 (hnames:∀y∈scope.names,y.2= .local→scope.names.lookup y.1=some .local) (hi:scope.names.lookup ("i":Str)=some .local)
 (at1:attrIs (.Name "self" a1) "_node2info" a2 env) (hbase:attributeBase (.Attribute (.Name "self" a1) "_node2info" a2) "values" env (eval (.Attribute (.Name "self" a1) "_node2info" a2) env)=eval (.Attribute (.Name "self" a1) "_node2info" a2) env) (hline:(a3.endLine==a4.line)=true)
 (at2:∀C,attrIs (.Name "i" c1) "npredecessors" c2 (compEnv scope C env)) (at3:∀C,attrIs (.Name "i" e1) "node" e2 (compEnv scope C env))
 (hs:∀x,foldedSetIterable (.Call (.Attribute (.Attribute (.Name "self" a1) "_node2info" a2) "values" a3) [] [] a4) env x=pure x)
 (hQ:∀D h' tk,Ext s.heap h'→s.heap.get? D=none→strList h' D ((σ.nodes.filter fun p=>p.1.np==0).map (·.1.name))→Q (.ref D) (sat s h' tk)):
 wpAny (model PR w) A (eval (.ListComp (.Attribute (.Name "i" e1) "node" e2) [⟨.Name "i" px, .Call (.Attribute (.Attribute (.Name "self" a1) "_node2info" a2) "values" a3) [] [] a4,[.Compare (.Attribute (.Name "i" c1) "npredecessors" c2) [.Eq] [.Constant (.int 0) c3 c4] c5],0⟩] scope pos) env) Q E s:=by
 refine wpAny_ListComp_walk (isFree σ) (fun v y=>∃q∈σ.nodes,v=Value.ref q.2.i∧∃t,y= .str q.1.name t) hfree hcell hkind hnames hi ?_ hs
 refine zNh (zCe S Z hx at1) Z.dict Z.lo (fun h₁ tk₁ k₁ hv=> ?_) hbase hline
 have Z₁:SOR w h₁ σ:=Z.keep fun b _ o e=>k₁ b o e
 have S₁:=S.mono k₁
 obtain⟨ep,dat⟩:=Z₁.dict.dictAt
 generalize hkvs:(σ.nodes.map fun p=>(p.1.name,Value.ref p.2.i))=kvs at dat
 refine wpAny_pyIter_values (s:=(sat s h₁ tk₁)) hv dat ?_
 have dlt: @LT.lt Nat _ σ.dn h₁.objs.size:=dat.lt_size
 have fr:h₁.get? h₁.objs.size=none:=Heap.get?_none_of_le (Nat.le_refl _)
 have old:∀{b o},h₁.get? b=some o→b∉ [h₁.objs.size]:=fun{b o} e m=>by
  rw[List.mem_singleton.mp m,fr]at e;cases e
 have Pat:∀{j:Nat} {v:Value},(∃k:Str,kvs[j]? =some (k,v))→∃q∈σ.nodes,v=Value.ref q.2.i∧σ.nodes[j]? =some q:=fun{j v} ⟨k,e⟩=>by
  rw[←hkvs,List.getElem?_map]at e
  obtain⟨q,hq,e⟩:=Option.map_eq_some_iff.mp e
  exact⟨q,List.mem_of_getElem? hq,by cases e;rfl,hq⟩
 refine⟨h₁.objs.size,[h₁.objs.size,σ.dn],[h₁.objs.size],kvs.length,_,_,rfl,Walks.dictValues (knd:=strKind PR w) hh _ σ.dn (Nat.ne_of_lt dlt) kvs ep,?_,⟨⟨_,Heap.get?_push_size _ rfl,rfl,rfl⟩,dat.push _⟩,?_,⟨?_,?_⟩,?_⟩
 ·rw[←hkvs,List.length_map];unfold sizeLine;omega
 ·intro b hb
  rcases List.mem_cons.mp hb with rfl|hb
  ·show @LT.lt Nat _ _ (h₁.push _).objs.size
   rw[Heap.size_push];exact Nat.lt_succ_self _
  ·rw[List.mem_singleton.mp hb]
   show @LT.lt Nat _ _ (h₁.push _).objs.size
   rw[Heap.size_push];exact Nat.lt_succ_of_lt dlt
 ·intro C j v s₃ m₃ E' hP hn hm hk _
  have k₃:Ext h₁ s₃.heap:=fun b o e=>hk b o (old e) (Heap.get?_push_of_some _ e)
  have q:=Pat hP
  obtain⟨q,hq,rfl,_⟩:=q
  refine wpAny_tests_one ?_
  rw[zI4 Z hq]
  refine((zDq (X:=[]) (h:=s₃.heap) (ev_npV (S₁.mono k₃) (Z₁.node q hq|>.keep fun b _ o e=>k₃ b o e) (evV_ns (env:=compEnv scope C env) hkind hi hn hm) (at2 C)) zAo zH9:EvB PR w A [] s₃.heap (isTrue _ _ (eval _ (compEnv scope C env))) _)) _ _ _ Ext.rfl XOk.nil fun h₄ tk₄ k₄=> ?_
  exact⟨rfl,_,_,rfl,k₄⟩
 ·intro C j v s₃ m₃ E' hP hp hn hm hk _
  have k₃:Ext h₁ s₃.heap:=fun b o e=>hk b o (old e) (Heap.get?_push_of_some _ e)
  have q:=Pat hP
  obtain⟨q,hq,rfl,_⟩:=q
  refine(zPe (X:=[]) (h:=s₃.heap) (S₁.mono k₃) (Z₁.node q hq|>.keep fun b _ o e=>k₃ b o e) (evV_ns (env:=compEnv scope C env) hkind hi hn hm) (at3 C)).run Ext.rfl XOk.nil fun v h₄ tk₄ k₄ r₄=> ?_
  obtain⟨t,rfl⟩:=r₄.str_inv
  exact⟨⟨q,hq,rfl,t,rfl⟩,_,_,rfl,k₄⟩
 ·intro D h₅ tk₅ ys vs hD hl pl hlen hP hF hk
  have evs:vs=σ.nodes.map fun q=>Value.ref q.2.i:=by
   apply List.ext_getElem?
   intro j
   rw[List.getElem?_map]
   cases ev:vs[j]? with
   |none=>
    have:vs.length≤j:=List.getElem?_eq_none_iff.mp ev
    rw[List.getElem?_eq_none (by rw[←hkvs,List.length_map]at hlen;omega)];rfl
   |some v=>
    obtain⟨q,_,e,e2⟩:=Pat (hP j v ev)
    rw[e2,e];rfl
  have hfl:vs.filter (isFree σ)=(σ.nodes.filter fun p=>p.1.np==0).map fun q=>Value.ref q.2.i:=by
   rw[evs,List.filter_map]
   congr 1
   exact List.filter_congr fun q hq=>zI4 Z hq
  rw[hfl]at hF
  obtain⟨ps,e1,e2⟩:=zEp hF (fun p m=>(List.mem_filter.mp m).1) fun p hp q hq=>zQv Z hp hq
  refine hQ D h₅ tk₅ (fun b o e=>hk b o (old (k₁ b o e)) (Heap.get?_push_of_some _ (k₁ b o e))) ?_ ⟨ps,?_,e2⟩
  ·cases q:s.heap.get? D with
   |none=>rfl
   |some o=>
    have:=Heap.get?_push_of_some {cls:= .type "dict_valueiterator",data:= .fields #[.ref σ.dn, .int 0 0, .int kvs.length 0, .int ep 0]} (k₁ _ _ q)
    rw[hD]at this;cases this
  ·rw[←e1];exact pl
end
end P34
section P35
section
variable {w:World} {A:Around} {X M O O' Ls:List Addr} {h h':Heap} {g g₀:Heap} {env:Env} {Γ:List (Str×Bd)} {outer:List Env} {s:Shared} {E:Value→Shared→Prop}
theorem zB2 {σ:Srt} {D:Addr} {xs:List Str} (hr:σ.ready=none):∀b,b∈({σ with ready:=some (D,xs)}:Srt).addrs↔b=D∨b∈σ.addrs:=by
 intro b
 simp only[Srt.addrs,hr,List.mem_cons,List.mem_append,List.not_mem_nil,or_false,false_or]
 constructor
 ·rintro(q|q|q|q|q)
  ·exact .inr (.inl q)
  ·exact .inr (.inr (.inl q))
  ·exact .inr (.inr (.inr (.inl q)))
  ·exact .inl q
  ·exact .inr (.inr (.inr (.inr q)))
 ·rintro(q|q|q|q|q)
  ·exact .inr (.inr (.inr (.inl q)))
  ·exact .inl q
  ·exact .inr (.inl q)
  ·exact .inr (.inr (.inl q))
  ·exact .inr (.inr (.inr (.inr q)))
theorem zIc {Q:Unit→Shared→Prop} {σ:Srt} {D:Addr} {xs:List Str} (S:Stat (hd.heap_1 w.params) s.heap) (Zg:SOR w g σ) (hr:σ.ready=none) (k:Ext g s.heap) (hD:g.get? D=none) (L:strList s.heap D xs)
 (hq:∀h' tk,GO w g h' σ {σ with ready:=some (D,xs)}→(∀b o,b∉σ.addrs→s.heap.get? b=some o→h'.get? b=some o)→Q () (sat s h' tk)):wpAny (model PR w) A (setAttr (.ref σ.so) "_ready_nodes" (.ref D)) Q E s:=by
 have Z:SOR w s.heap σ:=Zg.keep fun b _ o e=>k b o e
 obtain⟨es,n,ed,N,a1,a2,a3,a4,a5⟩:=Z.names
 have hin:(atName es "_ready_nodes").isSome=true:=by rw[a2];rfl
 have hin':(es.find? (·.key.isStr "_ready_nodes")).isSome=true:=by unfold atName at hin;simpa using hin
 refine zE9 S.k (instAt Z.inst ed) rfl zKe zF3 s_t2 zBm (by rw[zCj N];rfl) rfl ?_ fun h' tk q sb=> ?_
 ·have:=(N.put (hs:=PyData.keyHash w.params "_ready_nodes") (t:=s.toks+1) (v:= .ref D) (name:="_ready_nodes") (.inl hin')).few
  exact Nat.le_trans this (by decide)
 have nd:=Z.apart
 have nD:D∉σ.addrs:=fun m=>by
  obtain⟨o,e⟩:=Zg.alive _ m
  rw[hD]at e;cases e
 have ndx:=(List.nodup_cons.mp (List.nodup_cons.mp nd).2).1
 have hso:σ.so≠σ.dx:=fun z=>(List.nodup_cons.mp nd).1 (z▸List.mem_cons_self)
 have hdn:σ.dn≠σ.dx:=fun z=>ndx (z▸List.mem_cons_self)
 have hDx:D≠σ.dx:=fun z=>nD (z▸by simp[Srt.addrs])
 have hno:∀p∈σ.nodes,∀b∈p.2.all,b≠σ.dx:=fun p hp b hb z=>ndx (List.mem_cons_of_mem _ (List.mem_append_right _ (List.mem_flatMap.mpr ⟨p,hp,z▸hb⟩)))
 refine hq h' tk ⟨fun b o e'=>sb b o (fun z=>zAh e' (z▸by simp[Srt.addrs])) (k _ _ (zAf _ _ _ _ e')),⟨sb _ _ hso Z.inst,⟨_,_,q,N.put (.inl hin'),?_,zBf _ _ _ _ _,?_,?_,?_⟩,?_,?_,?_,?_,Z.lo⟩,?_,?_,_root_.rfl⟩ fun b o hb e=>sb b o (fun z=>hb (z▸by simp[Srt.addrs])) e
 ·exact(zAk _ _ _ (by decide) _).trans a1
 ·obtain⟨t',e⟩:=a3
  exact⟨t',(zAk _ _ _ (by decide) _).trans e⟩
 ·obtain⟨t',e⟩:=a4
  exact⟨t',(zAk _ _ _ (by decide) _).trans e⟩
 ·exact fun nm hnm=>(zAk _ _ _ (fun z=>hnm (by rw[z];decide)) _).trans (a5 nm hnm)
 ·intro p hp
  cases hp
  exact L.keep fun o e=>sb _ _ hDx e
 ·exact Z.dict.at fun o e=>sb _ _ hdn e
 ·exact fun p hp=>(Z.node p hp).keep fun b hb o e=>sb b o (hno p hp b hb) e
 ·have n3:=nd
  simp only[Srt.addrs,hr,List.nil_append]at n3 nD⊢
  simp only[List.nodup_cons,List.mem_cons,not_or,List.singleton_append]at n3 nD⊢
  exact⟨⟨n3.1.1,n3.1.2.1,fun z=>nD.1 z.symm,n3.1.2.2⟩,⟨n3.2.1.1,fun z=>nD.2.1 z.symm,n3.2.1.2⟩,⟨fun z=>nD.2.2.1 z.symm,n3.2.2.1⟩,nD.2.2.2,n3.2.2.2⟩
 ·intro b m
  rcases(zB2 hr b).mp m with rfl|m
  ·exact .inr hD
  ·exact .inl m
 ·exact fun b m=>(zB2 hr b).mpr (.inr m)
theorem zCn {Q:Value→Shared→Prop} {o:Expr} {name:Str} {apos pos:Pos} {f:Addr} {σ:Srt} (S:Stat (hd.heap_1 w.params) s.heap)
 (hx:EvV PR w A s.heap (eval o env) (.ref σ.so)) (Z:SOR w s.heap σ)
 (h:∀h' tk,Ext s.heap h'→wpAny (model PR w) A (call (.ref f) [.ref σ.so]) Q E (sat s h' tk))
 (hnm:name∉sNames) (hg:plainGet (hd.heap_1 w.params) 252 name=true) (hf:findIn (hd.heap_1 w.params) (.ref 252) name=some (some (.ref f))) (ht:isFn (hd.heap_1 w.params) (.ref f)=true) (hk:keepIn (hd.heap_1 w.params) (.ref f)=true)
 {pl:Sem Bool}
 (he:autoParam (eval (.Call (.Attribute o name apos) [] [] pos) env=(do
  let ov←eval o env
  standAt apos.atName
  let(f,first)←holding [ov] (getMethod ov name pl)
  callWith pos f first (backTo pos (starEach [] env)) [])) aR):
 wpAny (model PR w) A (eval (.Call (.Attribute o name apos) [] [] pos) env) Q E s:=by
 refine MethodCall_ (EvV.run hx Ext.rfl fun h₁ tk₁ k₁=> ?_) he
 have S₁:=S.mono k₁
 have Z₁:SOR w h₁ σ:=Z.keep fun b _ o e=>k₁ _ _ e
 obtain⟨es,n,ed,N,a1,a2,a3,a4,a5⟩:=Z₁.names
 refine zFv (s:=(sat s h₁ tk₁)) S₁.k (instAt Z₁.inst ed) hg hf ht (by rw[zCj N];exact congrArg some (a5 name hnm)) ?_
 refine callWith_K0 (K:=hd.heap_1 w.params) S₁.k hk ?_
 exact h h₁ tk₁ k₁
end
end P35
section P36
section
variable {w:World} {A:Around} {X M O O' Ls:List Addr} {h h':Heap} {g g₀:Heap} {env:Env} {Γ:List (Str×Bd)} {outer:List Env} {s:Shared} {E:Value→Shared→Prop}
noncomputable def Srt.free (σ:Srt):List Str:=(σ.nodes.filter fun p=>p.1.np==0).map (·.1.name)
theorem fc_g:plainGet (hd.heap_1 w.params) 252 "_find_cycle"=true:=by k_is
theorem fc_f:findIn (hd.heap_1 w.params) (.ref 252) "_find_cycle"=some (some (.ref 242)):=by k_is
theorem fc_t:isFn (hd.heap_1 w.params) (.ref 242)=true:=by k_is
theorem fc_k:keepIn (hd.heap_1 w.params) (.ref 242)=true:=by k_is
theorem zMs {Q:Value→Shared→Prop} {σ:Srt} {rank:Str→Nat} (S:Stat (hd.heap_1 w.params) (hid (σ.addrs++Ls) s.heap)) (rm:Room A 8) (stk:Stk A outer Ls) (D:Dicts Ls s.heap) (dj:∀b∈Ls,b∉σ.addrs)
 (Z:SOR w s.heap σ) (hr:σ.ready=none) (Dn:Down σ rank)
 (hQ:∀l h' tk,SOR w h' {σ with ready:=some (l,σ.free)}→s.heap.get? l=none→(∀b o,b∉σ.addrs→b∉Ls→s.heap.get? b=some o→h'.get? b=some o)→Up Ls s.heap h'→Q .none (sat s h' tk)):
 wpAny (model PR w) A (call (.ref 207) [.ref σ.so]) Q E s:=by
 have Sg:Stat (hd.heap_1 w.params) s.heap:=S.mono (zAf _ _)
 have kl:XOk Ls s.heap:=fun b m=>let⟨o,_,_,e,_⟩:=D b m;⟨o,e⟩
 have kx:XOk (σ.addrs++Ls) s.heap:=fun b m=>(List.mem_append.mp m).elim (Z.alive b) (kl b)
 refine' zBc (X:=σ.addrs++Ls) (n:=7) [("self", .v (.ref σ.so))] Sg ?ho ?hcd rm kx ?hb (show(["self"]:List Str).Nodup by decide) ?kind ?_ ?hco ?hgen ?hk
 case ho=>k_is
 case hcd=>k_is
 case kind=>rfl
 case hco=>rfl
 case hgen=>rfl
 case hk=>rfl
 case hb=>exact zA1 rfl (.cons rfl .nil)
 intro L h₁ tk F₀ G
 have F:=F₀.lend (O:=σ.addrs++Ls) fun _ m=>m
 have Z₁:SOR w h₁ σ:=Z.keep fun b _ o e=>F₀.kg b o e
 have off:Off σ.addrs F.en:=Off.enter F₀ Z Z₁
 have D₁:Dk Ls s.heap h₁:=⟨D.ext F₀.kg,Up.of_ext F₀.kg⟩
 have offL:=Off.dicts F₀ D D₁.d
 have S₁:=S.mono F.kg
 obtain⟨es,n,ed,N,a1,a2,a3,a4,a5⟩:=Z₁.names
 rw[hr]at a2
 walk_at "sh"
 with_reducible refine zAa (zBj (c:=false) F ?_ fun h₂ tk₂ k₂ F₂=>⟨fun e=> ?_,fun _=> ?_⟩)
 ·with_reducible refine EvB.eq (zCs (u:= .none) (zCf S₁.k (nmV_ F.is) Z₁.inst ed N a2 s_g2 zBm s_f2 ?_ ?_) zBg ?_) ?_
  ·rfl
  ·rfl
  ·rfl
  ·rfl
 ·cases e
 refine wpAny_execs_nil ?_
 have Z₂:SOR w h₂ σ:=Z₁.keep fun b _ o e=>k₂ b o e
 have S₂:=S₁.mono k₂
 have D₂:=D₁.ext k₂
 walk_at "sh"
 with_reducible refine zAa (zIa (zL3 (σ:=σ) (rm.deeper _).hand S₂ Z₂ Dn.few (nmV_ F₂.is) ?_ ?_ ?_ ?_ ?_ ?_ ?_ ?_ ?_ ?_ ?_ fun l h₃ tk₃ k₃ fr₃ L₃=>EvV.run (nmV_ F₂.is) k₃ fun h₄ tk₄ k₄=> ?_))
 ·decide
 ·decide
 ·rfl
 ·decide
 ·rfl
 ·rfl
 ·rfl
 ·rfl
 ·intro _;rfl
 ·intro _;rfl
 ·intro _;rfl
 refine zIc (s:={heap:=h₄,gens:=_,drawn:=_,toks:=_,os:=_}) (S₂.mono (k₃.trans k₄)) Z₂ hr (k₃.trans k₄) fr₃ (L₃.keep fun o e=>k₄ _ _ e) fun h₅ tk₅ g₅ kp₅=> ?_
 have k24:=k₃.trans k₄
 obtain⟨F₅,R₅,_⟩:=F₂.goes g₅ off
 have off₅:=off.goes F₂ g₅.own
 have Z₅:SOR w h₅ {σ with ready:=some (l,σ.free)}:=g₅.z
 have nl:∀b∈Ls,b∉({σ with ready:=some (l,σ.free)}:Srt).addrs:=fun b m q=>by
  rcases(zB2 hr b).mp q with q|q
  ·obtain⟨o,_,_,e,_⟩:=D₂.d b m
   rw[q,fr₃]at e;cases e
  ·exact dj b m q
 have D₅:Dk Ls s.heap h₅:=D₂.keep fun b m o e=>kp₅ b o (dj b m) (k24 b o e)
 have S₅:=S.mono F₅.kg
 have Dn₅:Down {σ with ready:=some (l,σ.free)} rank:=⟨Dn.one,Dn.go,Dn.top,Dn.few⟩
 have off₅':Off ({σ with ready:=some (l,σ.free)}:Srt).addrs F.en:=off₅
 walk_at "sh"
 with_reducible refine zAa (zB1 (zCn (σ:={σ with ready:=some (l,σ.free)}) S₅ (nmV_ F₅.is) Z₅ (fun h₆ tk₆ k₆=> ?_) (by decide) fc_g fc_f fc_t fc_k))
 have F₆:=F₅.ext k₆
 have D₆:=D₅.ext k₆
 have Z₆:SOR w h₆ {σ with ready:=some (l,σ.free)}:=Z₅.keep fun b _ o e=>k₆ b o e
 have nL:∀b∈({σ with ready:=some (l,σ.free)}:Srt).addrs,b∉F.en.locals::Ls:=fun b m q=>by
  rcases List.mem_cons.mp q with q|q
  ·exact(off₅ b m).1 q
  ·exact nl b q m
 have Sh:Stat (hd.heap_1 w.params) (hid (F.en.locals::Ls) h₆):=S.mono fun b o e=>zAb (F₆.kg b o e) fun q=>by
  rcases List.mem_cons.mp q with q|q
  ·have:=F₆.outL
   rw[q]at e
   rw[show(hid (σ.addrs++Ls) s.heap).get? F.en.locals=none from this]at e;cases e
  ·exact zAh e (List.mem_append_right _ q)
 have Zh:SOR w (hid (F.en.locals::Ls) h₆) {σ with ready:=some (l,σ.free)}:=Z₆.keep fun b m o e=>zAb e (nL b m)
 have DL:Dicts (F.en.locals::Ls) h₆:=D₆.d.cons F₆.is.ns
 refine zHs (s:={heap:=h₆,gens:=_,drawn:=_,toks:=_,os:=_}) (Ls:=F.en.locals::Ls) (outer:=F.en::outer) Sh ((rm.deeper _).le (by omega)) (stk.deeper rfl rfl) DL Zh Dn₅ fun h₇ tk₇ kp₇ up₇=> ?_
 have Z₇:SOR w h₇ {σ with ready:=some (l,σ.free)}:=Z₆.keep fun b m o e=>kp₇ b o (nL b m) e
 have mv:=F₆.moved (O':=({σ with ready:=some (l,σ.free)}:Srt).addrs) (Ls:=F.en.locals::Ls) off₅ DL (fun b o _ n e=>kp₇ b o n e) up₇ (fun b m=>List.mem_cons.mp m) (fun b m=> .inl m) (fun b m=>m) (fun b m=>Z₇.alive b m)
 have F₇:=mv.1
 have D₇:Dk Ls s.heap h₇:=D₆.up (up₇.le fun b m=>List.mem_cons_of_mem _ m)
 refine zAn (b:= .d .none) F₇ stL Rd.none fun h₈ tk₈ F₈ R₈=> ?_
 have D₈:Dk Ls s.heap h₈:=D₇.keep fun b m o e=>offL.keep m R₈ (fun m=>nomatch m) o e
 have Z₈:SOR w h₈ {σ with ready:=some (l,σ.free)}:=Z₇.rel off₅ R₈ (fun _ _ m=>nomatch m)
 walk_at "sh"
 with_reducible refine zAa (zBj (c:=false) F₈ ?_ fun h₉ tk₉ k₉ F₉=>⟨fun e=> ?_,fun _=> ?_⟩)
 ·with_reducible refine EvB.eq (zBl (d:= .none) (nm_ F₈.is) ?_) ?_
  ·exact trivial
  ·rfl
 ·cases e
 refine wpAny_execs_nil ?_
 walk_at "sh"
 refine wpAny_execs_nil ?_
 refine hQ l h₉ tk₉ (Z₈.keep fun b _ o e=>k₉ b o e) ?_ (fun b o n1 n2 e=> ?_) (D₈.ext k₉).u
 ·cases q:s.heap.get? l with
  |none=>rfl
  |some o=>
   have:=(F₀.kg.trans k₂) _ _ q
   rw[fr₃]at this;cases this
 ·exact F₉.kg b o (zAb e fun m=>(List.mem_append.mp m).elim n1 n2)
end
end P36
section W2
section facts
theorem fu_ga:Slot "function" "__getattribute__" "object.__getattribute__":=
 .of (owner:="object") (n:="__getattribute__") (by rw[typeLookup_type,builtinLookup_eq_fast];kernel_rfl) (by decide+kernel) (by decide+kernel) (by decide+kernel)
  (by first|exact .inl (by decide+kernel)|exact .inr (by decide+kernel)) (by rw[isSubtype_type];kernel_rfl)
theorem fu_sa:Slot "function" "__setattr__" "object.__setattr__":=
 .of (owner:="object") (n:="__setattr__") (by rw[typeLookup_type,builtinLookup_eq_fast];kernel_rfl) (by decide+kernel) (by decide+kernel) (by decide+kernel)
  (by first|exact .inl (by decide+kernel)|exact .inr (by decide+kernel)) (by rw[isSubtype_type];kernel_rfl)
theorem zL6:entryFor table "object.__getattribute__"=some Builtin.«object.__getattribute__» :=entryFor_of_tree (by kernel_rfl)
theorem zMe:entryFor table "object.__setattr__"=some Builtin.«object.__setattr__» :=entryFor_of_tree (by kernel_rfl)
theorem zN4 (a b:Value):argsOk "object.__getattribute__" ⟨[a,b],[]⟩:=by unfold argsOk;kernel_rfl
theorem zKj:typeLookup (.type "function") "read"=pure none:=by rw[typeLookup_type,builtinLookup_eq_fast];kernel_rfl
theorem fu_hook:typeLookup (.type "function") "__getattr__"=pure none:=by rw[typeLookup_type,builtinLookup_eq_fast];kernel_rfl
theorem fu_mro:mroOf (.type "function")=pure [.type "function", .type "object"]:=by rw[mroOf_type];kernel_rfl
theorem zM0 (self:Value):PySem.refuseLoop self "__setattr__" [.type "function", .type "object"]=pure ():=by kernel_rfl
theorem zNq (a b c:Value):argsOk "object.__setattr__" ⟨[a,b,c],[]⟩:=by unfold argsOk;kernel_rfl
end facts
section
variable {prog:Program} {w:World} {A:Around} {E:Value→Shared→Prop} {h:Heap} {g:Array GenState} {d:Drawn} {t:Nat} {os:OsState} {fa dd:Addr} {o:Obj} {fd:FuncData} {m:Str→Option Value} {v:Value} {r:Addr}
theorem zLz {tk:Tok} {Q:Fin→Shared→Prop} (hx:h.get? fa=some o) (hc:o.cls= .type "function") (hd:o.dict=some dd) (hdd:o.data= .func fd) (hn:h.Ns dd m) (hm:m "read"=some v) (hq:Q (.done (.ret v)) ⟨h,g,d,t,os⟩):
 wpAny (model prog w) A (Builtin.«object.__getattribute__» ⟨[.ref fa, .str "read" tk],[]⟩) Q E ⟨h,g,d,t,os⟩:=by
 have hT:(⟨h,g,d,t,os⟩:Shared).TypeIs (.ref fa) "function":=⟨_,hx,hc⟩
 have f4:=zKj
 obtain⟨oc,od,oda,osl⟩:=o
 dsimp only at hc hd hdd
 subst hc hd hdd
 repeat (any_goals (first|assumption|with_reducible refine wpAny_nsGet (s:=⟨h,g,d,t,os⟩) hn ?_|with_reducible refine wpAny_loadPart_at hx ?_|with_reducible refine wpAny_load hx ?_|wp_step))
 rw[hm]
 repeat (any_goals (first|assumption|wp_step))
theorem zNc {expr:Bool} {Q:Value→Shared→Prop} (hx:h.get? fa=some o) (hc:o.cls= .type "function") (hd:o.dict=some dd) (hdd:o.data= .func fd) (hn:h.Ns dd m) (hm:m "read"=some (.ref r)) (hq:Q (.ref r) ⟨h,g,d,t+1,os⟩):
 wpAny (model prog w) A (getAttr (.ref fa) "read" expr) Q E ⟨h,g,d,t,os⟩:=by
 have hT:(⟨h,g,d,t+1,os⟩:Shared).TypeIs (.ref fa) "function":=⟨_,hx,hc⟩
 have f2:=fu_ga.lookup
 have f3:=fu_ga.bind (.ref fa)
 have hx0:(expr&&onTheHeap (Value.builtin "object.__getattribute__"))=false:=by cases expr<;>rfl
 unfold getAttr
 refine wpAny_bind (wpAny_mkText ?_)
 repeat (any_goals (first|assumption|wp_step))
 refine codeAny_call_builtin fu_ga.plain zL6 (fu_ga.check _ _ _ _ _ _ _ _ hT (zN4 _ _) (zLz hx hc hd hdd hn hm ?_))
 repeat (any_goals (first|assumption|wp_step))
theorem zJ9 {pl:Sem Bool} {Q:Value×List Value→Shared→Prop} (hx:h.get? fa=some o) (hc:o.cls= .type "function") (hd:o.dict=some dd) (hdd:o.data= .func fd) (hn:h.Ns dd m) (hm:m "read"=some (.ref r)) (hq:Q (.ref r,[]) ⟨h,g,d,t+1,os⟩):
 wpAny (model prog w) A (getMethod (.ref fa) "read" pl) Q E ⟨h,g,d,t,os⟩:=by
 have hT:(⟨h,g,d,t,os⟩:Shared).TypeIs (.ref fa) "function":=⟨_,hx,hc⟩
 have f2:=fu_ga.lookup
 have f3:=fu_ga.bind (.ref fa)
 have f4:=zKj
 have f5:=fu_hook
 have hcan:(Manifest.canonical "object.__getattribute__" !="object.__getattribute__")=false:=by decide+kernel
 unfold getMethod
 dsimp only
 iterate 3 (any_goals (first|assumption|wp_step))
 iterate 4 (any_goals (first|assumption|wp_step))
 refine wpAny_specialOf hT f4 ?_
 exact wpAny_bind (zNc hx hc hd hdd hn hm (wpAny_pure hq))
end
end W2
section W3
open Builtin Builtin.ObjectAttr
section
variable {prog:Program} {w:World} {A:Around} {E:Value→Shared→Prop} {h:Heap} {g:Array GenState} {d:Drawn} {t:Nat} {os:OsState} {fa dd:Addr} {o:Obj} {fd:FuncData} {m:Str→Option Value} {v:Value} {r:Addr}
theorem zOz (self v:Value) (name:Str) (tk:Tok):Builtin.«object.__setattr__» ⟨[self, .str name tk,v],[]⟩=(refuseIfOverridden self "__setattr__">>=fun _=>typeOf self>>=fun tp=>typeLookup tp name>>=fun attr=>
 storeTaker? attr>>=fun r=>match r with|some a=>setByDescriptor a self v|none=>storeInOwnDict self tp (.str name tk) name v attr.isSome):=by kernel_rfl
theorem zOb (nameV v:Value) (name:Str) (b:Bool):storeInOwnDict (.ref fa) (.type "function") nameV name v b=(ownDictForStores (.ref fa)>>=fun r=>match r with|some d=>storeInDict d nameV name v|none=>noDictFor (.ref fa) (.type "function") name b):=by kernel_rfl
theorem fu_dict:typeHasDict (.type "function")=true:=by kernel_rfl
theorem zOq {tk:Tok} {Q:Fin→Shared→Prop} (hx:h.get? fa=some o) (hc:o.cls= .type "function") (hd:o.dict=none) (hdd:o.data= .func fd)
 (hq:∀h' m' tk',h'.get? fa=some {o with dict:=some h.objs.size}→h'.Ns h.objs.size m'→m' "read"=some v→(∀b o',b≠fa→h.get? b=some o'→h'.get? b=some o')→Q (.done (.ret .none)) ⟨h',g,d,tk',os⟩):
 wpAny (model prog w) A (Builtin.«object.__setattr__» ⟨[.ref fa, .str "read" tk,v],[]⟩) Q E ⟨h,g,d,t,os⟩:=by
 have hT:(⟨h,g,d,t,os⟩:Shared).TypeIs (.ref fa) "function":=⟨_,hx,hc⟩
 rw[zOz,PySem.refuse_eq]
 refine wpAny_bind (wpAny_bind (wpAny_typeOf hT (wpAny_bind (wpAny_of_eq fu_mro (wpAny_of_eq (zM0 _) ?_)))))
 refine wpAny_bind (wpAny_typeOf hT (wpAny_bind (wpAny_of_eq zKj (wpAny_bind (wpAny_pure ?_)))))
 show wpAny _ _ (storeInOwnDict (.ref fa) (.type "function") (.str "read" tk) "read" v false) _ _ _
 have hx₁:(h.push {cls:= .type "dict",data:= .dict #[]}).get? fa=some o:=Heap.get?_push_of_some _ hx
 have hxs:fa≠h.objs.size:=Nat.ne_of_lt (Heap.lt_size hx)
 rw[zOb]
 refine wpAny_bind ?_
 unfold ownDictForStores instanceDict
 refine wpAny_bind (wpAny_loadPart (s:=⟨h,g,d,t,os⟩) hx ?_)
 obtain⟨oc,od,oda,osl⟩:=o
 dsimp only at hc hd hdd
 subst hc hd hdd
 show wpAny _ _ (if(!true|| !typeHasDict (.type "function"))=true then pure none else(do
  let d←alloc {cls:= .type "dict",data:= .dict #[]}
  update fa fun o=>{o with dict:=some d}
  dictMade (.type "function") fa d)) _ _ _
 rw[if_neg (by rw[fu_dict];decide)]
 refine wpAny_bind (wpAny_alloc ?_)
 refine wpAny_bind (wpAny_update hx₁ ?_)
 refine wpAny_of_eq (a:=some h.objs.size) (by kernel_rfl) ?_
 have hgd:((h.push {cls:= .type "dict",data:= .dict #[]}).update fa fun o=>{cls:=o.cls,dict:=some h.objs.size,data:=o.data,slots:=o.slots}).get? h.objs.size
  =some {cls:= .type "dict",data:= .dict #[]}:=
  (Heap.get?_update_ne _ _ _ _ hxs.symm).trans (Heap.get?_push_at rfl rfl)
 have hnd:((h.push {cls:= .type "dict",data:= .dict #[]}).update fa fun o=>{cls:=o.cls,dict:=some h.objs.size,data:=o.data,slots:=o.slots}).Ns h.objs.size (fun _=>none):=
  ⟨_, #[],_,hgd,rfl,fun e he=>absurd he (by simp),fun _=>rfl⟩
 show wpAny _ _ (storeInDict h.objs.size (.str "read" tk) "read" v) _ _ _
 unfold storeInDict newKeyGuard
 refine wpAny_bind (wpAny_pure (wpAny_bind (wpAny_nsSet1 (Heap.Ns1.of_empty hnd) fun h' hn' hs=> ?_)))
 obtain⟨oD,esD,epD,hoD,hdD,hcD⟩:=hn'.count (Within.cons "read" v Within.nil)
 refine wpAny_bind (wpAny_lookBehind hoD (by rw[hdD];exact pastItsLine_dict (Nat.le_trans hcD (by rw[List.length_cons,List.length_nil,sizeLine_eq];omega))) ?_)
 refine wpAny_pure ?_
 refine hq h' _ _ ?_ hn'.ns (by simp) fun b o' nb e=> ?_
 ·exact(hs.2 fa hxs).trans (Heap.get?_update_self _ hx₁ rfl)
 ·exact(hs.2 b (Nat.ne_of_lt (Heap.lt_size e))).trans ((Heap.get?_update_ne _ _ _ _ nb).trans (Heap.get?_push_of_some _ e))
theorem zPl {Q:Unit→Shared→Prop} (hx:h.get? fa=some o) (hc:o.cls= .type "function") (hd:o.dict=none) (hdd:o.data= .func fd)
 (hq:∀h' m' tk',h'.get? fa=some {o with dict:=some h.objs.size}→h'.Ns h.objs.size m'→m' "read"=some v→(∀b o',b≠fa→h.get? b=some o'→h'.get? b=some o')→Q () ⟨h',g,d,tk',os⟩):
 wpAny (model prog w) A (setAttr (.ref fa) "read" v) Q E ⟨h,g,d,t,os⟩:=by
 have hT:(⟨h,g,d,t+1,os⟩:Shared).TypeIs (.ref fa) "function":=⟨_,hx,hc⟩
 have f2:=fu_sa.lookup
 have f3:=fu_sa.bind (.ref fa)
 unfold setAttr
 refine wpAny_bind (wpAny_mkText ?_)
 repeat (any_goals (first|assumption|wp_step))
 refine codeAny_call_builtin fu_sa.plain zMe (fu_sa.check _ _ _ _ _ _ _ _ hT (zNq _ _ _) (zOq hx hc hd hdd fun h' m' tk' a b c e=> ?_))
 have q:=hq h' m' tk' a b c e
 repeat (any_goals (first|assumption|wp_step))
end
end W3
section P37
section
variable {w:World} {A:Around} {X M O O' Ls:List Addr} {h h':Heap} {g g₀:Heap} {env:Env} {Γ:List (Str×Bd)} {outer:List Env} {s:Shared} {E:Value→Shared→Prop}
theorem zOy:codeHdIn (hd.heap_1 w.params) 286 282=true:=by kernel_rfl
structure Mak (h:Heap):Prop where
 bm:∃mg,h.Ns mainGlobals mg∧h.BuiltinsAt mg 282
theorem Mak.mono (x:Mak h) (k:Ext h h'):Mak h':=by
 obtain⟨mg,n,bm,o,h1,h2,h3,h4,h5,r⟩:=x.bm
 exact⟨mg,n.keeps k,bm,o,h1,h2,h3,h4,k _ _ h5,r⟩
theorem zQj {Q:Flow→Shared→Prop} {x y:Str} {es:List Expr} {k k2:Nat} {px py p0 p1 p2 tp ep pos:Pos} (hh:A.handled=none) (F:Fn g (O++X) (O++M) s.heap env Γ) (f:Off O env) (hx:Stores env x) (hy:Stores env y)
 (hQ:∀D1 D2 h' tk,s.heap.get? D1=none→s.heap.get? D2=none→D1≠D2→Off (D2::D1::O) env→(∃t,h'.PlainList D1 #[.int 0 t])→h'.PlainList D2 #[]→Fn g ((D2::D1::O)++X) ((D2::D1::O)++M) h' env ((y, .v (.ref D2))::(x, .v (.ref D1))::Γ)→Rel [] env s.heap h'→Q .next (sat s h' tk))
 (he:autoParam (assignEach es env=[(false,assign (.Name x px) env),(false,assign (.Name y py) env)]) aR)
 (he1:autoParam (starEach [.List [.Constant (.int 0) k2 p0] p1, .List [] p2] env=[(false,eval (.List [.Constant (.int 0) k2 p0] p1) env),(false,eval (.List [] p2) env)]) aR)
 (he2:autoParam (starEach [.Constant (.int 0) k2 p0] env=[(false,eval (.Constant (.int 0) k2 p0) env)]) aR)
 (hs:autoParam (swapsWithSole [.Tuple es k tp] (.Tuple [.List [.Constant (.int 0) k2 p0] p1, .List [] p2] k ep) pos.line env=pure false) aR) (hw:autoParam (swappedStores [.Tuple es k tp] (.Tuple [.List [.Constant (.int 0) k2 p0] p1, .List [] p2] k ep) env=pure none) aR):
 wpAny (model PR w) A (exec (.Assign [.Tuple es k tp] (.Tuple [.List [.Constant (.int 0) k2 p0] p1, .List [] p2] k ep) pos) env) Q E s:=by
 refine wpAny_Assign_stores ?_ hs hw
 refine wpAny_Tuple_spliced ?_
 rw[he1]
 refine Calls.spliced_cons ?_
 refine wpAny_List ?_
 rw[he2]
 refine Calls.spliced_cons (wpAny_Constant_int (k:=k2) (pos:=p0) (Calls.spliced_nil ⟨by simp[sizeLine],?_⟩))
 refine Calls.spliced_cons (wpAny_List (Calls.spliced_nil ⟨by simp[sizeLine],?_⟩))
 refine Calls.spliced_nil ⟨by simp[sizeLine],?_⟩
 dsimp only
 have fr0:s.heap.get? s.heap.objs.size=none:=Heap.get?_none_of_le (Nat.le_refl _)
 generalize hh1:s.heap.push {cls:= .type "list",data:= .seq [Value.int 0 s.toks].toArray}=h1
 have k1:Ext s.heap h1:=hh1▸Ext.push _ _
 have e1:h1.get? s.heap.objs.size=some {cls:= .type "list",data:= .seq [Value.int 0 s.toks].toArray}:=hh1▸Heap.get?_push_size _ rfl
 have fr1:h1.get? h1.objs.size=none:=Heap.get?_none_of_le (Nat.le_refl _)
 generalize hh2:h1.push {cls:= .type "list",data:= .seq ([]:List Value).toArray}=h2
 have k2:Ext h1 h2:=hh2▸Ext.push _ _
 have e2:h2.get? h1.objs.size=some {cls:= .type "list",data:= .seq ([]:List Value).toArray}:=hh2▸Heap.get?_push_size _ rfl
 have ne:s.heap.objs.size≠h1.objs.size:=fun z=>by rw[←z,e1]at fr1;cases fr1
 have F1:=F.own k1 fr0 ⟨_,e1⟩
 have f1:=Off.cons F f fr0
 have F2:=F1.own k2 fr1 ⟨_,e2⟩
 have f2:=Off.cons F1 f1 fr1
 generalize hh3:h2.push {cls:= .type "tuple",data:= .seq [Value.ref s.heap.objs.size,Value.ref h1.objs.size].toArray}=h3
 have k3:Ext h2 h3:=hh3▸Ext.push _ _
 have it:h3.IsTuple h2.objs.size #[Value.ref s.heap.objs.size,Value.ref h1.objs.size]:=hh3▸⟨_,Heap.get?_push_size _ rfl,rfl,0,rfl⟩
 show wpAny _ A (assign (.Tuple es k tp) env (.ref h2.objs.size)) _ _ _
 refine wpAny_assign_Tuple (s:=(sat s h3 (s.toks+1))) hh it (by rw[he];rfl) (by rw[he];rfl) fun h4 eb=> ?_
 have k4:Ext h3 h4:=fun b o e=>eb b o (by rintro rfl;exact Nat.lt_irrefl _ (Heap.lt_size e)) e
 rw[he]
 have F4:=(F2.ext k3).ext k4
 refine zEq [(x,px),(y,py)] [.v (.ref s.heap.objs.size), .v (.ref h1.objs.size)] [.ref s.heap.objs.size, .ref h1.objs.size] Γ (sat s h4 (s.toks+1)) rfl (.cons rfl (.cons rfl .nil)) F4 (fun z hz=> ?_) fun h' tk F' R'=> ?_
 ·simp only[List.mem_cons,List.not_mem_nil,or_false]at hz
  rcases hz with rfl|rfl
  ·exact hx
  ·exact hy
 ·have nn:∀(b:Addr),b∉([]:List Addr):=fun _ m=>nomatch m
  have fr1':s.heap.get? h1.objs.size=none:=by
   cases q:s.heap.get? h1.objs.size with
   |none=>rfl
   |some o=>have:=k1 _ _ q;rw[fr1]at this;cases this
  refine hQ s.heap.objs.size h1.objs.size h' tk fr0 fr1' ne f2 ⟨s.toks,0,?_⟩ ⟨0,?_⟩ F' ((k1.trans (k2.trans (k3.trans k4))).rel.trans R')
  ·exact f2.keep (List.mem_cons_of_mem _ List.mem_cons_self) R' (nn _) _ (k4 _ _ (k3 _ _ (k2 _ _ e1)))
  ·exact f2.keep List.mem_cons_self R' (nn _) _ (k4 _ _ (k3 _ _ e2))
theorem st_def {Q:Flow→Shared→Prop} {c:Addr} {name:Str} {params:Arguments} {body:List Stmt} {scope:Scope} {pos:Pos} {ps:Array Value} {clos:List (Str×Addr)} (F:Fn g (O++X) (O++M) s.heap env Γ) (f:Off O env) (hm:282∈O) (hy:Stores env name)
 (C:CodeHd s.heap c 282) (hP:s.heap.get? 282=some (tabObj ps)) (ht:TriplesOk ps.toList) (hnf:codeAmong pos ps.toList=none) (Mk:Mak s.heap) (hge:env.globals=mainGlobals) (hcode:env.code= .ref c) (hcl:closureFor scope env=pure clos)
 (hd0:params.defaults=[]) (hk0:params.kw_defaults=[]) (ha:annTrees params none env=[])
 (hQ:∀fa c' pm ctv doc h' tk,s.heap.get? fa=none→s.heap.get? c'=none→fa≠c'→Off (fa::c'::O) env→h'.get? fa=some (fnMade name (qualnameIn env name name) params body scope clos doc pm c' ctv)→h'.CodeRec (.ref c') (qualnameIn env name name)→h'.get? 282=some (tabObj (ps++ #[rawInt pos.line,rawInt pos.col, .ref c']))→
  Fn g ((fa::c'::O)++X) ((fa::c'::O)++M) h' env ((name, .v (.ref fa))::Γ)→(∀b o,b≠282→b≠env.locals→(∀n,env.cells.lookup n≠some b)→s.heap.get? b=some o→h'.get? b=some o)→Q .next (sat s h' tk)):
 wpAny (model PR w) A (exec (.FunctionDef name params body [] none [] scope none name pos) env) Q E s:=by
 obtain⟨mg,hg,hb⟩:=Mk.bm
 refine nestDef_K hd0 hk0 ha ?_
 refine makeFunction_K hcl hge hg hcode C hP ht hnf (by decide) hb fun c' ctv doc h₁ tk₁ eb lo hi rec tab=> ?_
 have frc:s.heap.get? c'=none:=Heap.get?_none_of_le lo
 have hsz: @LT.lt Nat _ c' h₁.objs.size:=hi
 have frf:s.heap.get? h₁.objs.size=none:=Heap.get?_none_of_le (Nat.le_trans lo (Nat.le_of_lt hi))
 generalize hh2:h₁.push (fnMade name (qualnameIn env name name) params body scope clos doc ((mg "__name__").getD .none) c' ctv)=h₂
 have k₂:Ext h₁ h₂:=hh2▸Ext.push _ _
 have e₂:h₂.get? h₁.objs.size=some (fnMade name (qualnameIn env name name) params body scope clos doc ((mg "__name__").getD .none) c' ctv):=hh2▸Heap.get?_push_size _ rfl
 have kp:∀b o,b≠282→s.heap.get? b=some o→h₂.get? b=some o:=fun b o n e=>k₂ b o (eb b o n e)
 have rec₂:h₂.CodeRec (.ref c') (qualnameIn env name name):=let⟨c,o,vs,t,e1,e2,r⟩:=rec;⟨c,o,vs,t,e1,k₂ _ _ e2,r⟩
 have tab₂:=k₂ _ _ tab
 have alc:∃o,h₂.get? c'=some o:=let⟨c,o,vs,t,e1,e2,r⟩:=rec₂;⟨o,by cases e1;exact e2⟩
 have own:∀b∈h₁.objs.size::c'::O,b∈O∨s.heap.get? b=none:=fun b m=>by
  rcases List.mem_cons.mp m with rfl|m
  ·exact .inr frf
  rcases List.mem_cons.mp m with rfl|m
  ·exact .inr frc
  ·exact .inl m
 have mv:=F.moved (O':=h₁.objs.size::c'::O) (Ls:=[]) f Dicts.nil (fun b o n _ e=>kp b o (fun z=>n (z▸hm)) e) (fun _ m=>nomatch m) (fun _ m=>nomatch m) own (fun b m=>List.mem_cons_of_mem _ (List.mem_cons_of_mem _ m)) (fun b m=>by
  rcases List.mem_cons.mp m with rfl|m
  ·exact⟨_,e₂⟩
  rcases List.mem_cons.mp m with rfl|m
  ·exact alc
  ·by_cases z:b=282
   ·exact⟨_,z▸tab₂⟩
   ·obtain⟨o,e⟩:=F.kx b (List.mem_append_left _ m)
    exact⟨o,kp b o z e⟩)
 have off:=f.goes F own
 have nn:∀(b:Addr),b∉([]:List Addr):=fun _ m=>nomatch m
 refine zAn (s:=(sat s h₂ tk₁)) mv.1 hy (b:= .v (.ref h₁.objs.size)) rfl fun h' tk F' R'=> ?_
 refine hQ h₁.objs.size c' _ ctv doc h' tk frf frc (Nat.ne_of_gt hi) off (off.keep List.mem_cons_self R' (nn _) _ e₂) ?_ ?_ F' fun b o n1 n2 n3 e=>R' b o (nn _) n2 (fun n _=>n3 n) (kp b o n1 e)
 ·obtain⟨c,o,vs,t,e1,e2,r⟩:=rec₂
  cases e1
  exact⟨_,o,vs,t,rfl,off.keep (List.mem_cons_of_mem _ List.mem_cons_self) R' (nn _) _ e2,r⟩
 ·exact off.keep (List.mem_cons_of_mem _ (List.mem_cons_of_mem _ hm)) R' (nn _) _ tab₂
theorem zM6 {Q:Flow→Shared→Prop} {c:Addr} {y:Str} {py apos:Pos} {params:Arguments} {body:Expr} {scope:Scope} {pos:Pos} {ps:Array Value} {clos:List (Str×Addr)} (F:Fn g (O++X) (O++M) s.heap env Γ) (f:Off O env) (hm:282∈O) (hy:Stores env y)
 (C:CodeHd s.heap c 282) (hP:s.heap.get? 282=some (tabObj ps)) (ht:TriplesOk ps.toList) (hnf:codeAmong pos ps.toList=none) (Mk:Mak s.heap) (hge:env.globals=mainGlobals) (hcode:env.code= .ref c) (hcl:closureFor scope env=pure clos)
 (hdef:defaultsOf params env=([],[]))
 (hQ:∀fa c' pm ctv h' tk,s.heap.get? fa=none→s.heap.get? c'=none→fa≠c'→Off (fa::c'::O) env→h'.get? fa=some (kla_obj "<lambda>" (env.qual++"<lambda>") params body scope clos pm c' ctv)→h'.CodeRec (.ref c') (env.qual++"<lambda>")→h'.get? 282=some (tabObj (ps++ #[rawInt pos.line,rawInt pos.col, .ref c']))→
  Fn g ((fa::c'::O)++X) ((fa::c'::O)++M) h' env ((y, .v (.ref fa))::Γ)→(∀b o,b≠282→b≠env.locals→(∀n,env.cells.lookup n≠some b)→s.heap.get? b=some o→h'.get? b=some o)→Q .next (sat s h' tk))
 (hs:autoParam (swapsWith (.Lambda params body scope pos) (some (.Name y py)) apos.line env=pure false) aR):
 wpAny (model PR w) A (exec (.Assign [.Name y py] (.Lambda params body scope pos) apos) env) Q E s:=by
 obtain⟨mg,hg,hb⟩:=Mk.bm
 refine wpAny_Assign_Name (kla_eval hdef ?_) hs
 refine kla_makeFunction hcl hge hg hcode C hP ht hnf (by decide) hb fun c' ctv h₁ tk₁ eb lo hi rec tab=> ?_
 have frc:s.heap.get? c'=none:=Heap.get?_none_of_le lo
 have hsz: @LT.lt Nat _ c' h₁.objs.size:=hi
 have frf:s.heap.get? h₁.objs.size=none:=Heap.get?_none_of_le (Nat.le_trans lo (Nat.le_of_lt hi))
 generalize hh2:h₁.push (kla_obj "<lambda>" (env.qual++"<lambda>") params body scope clos ((mg "__name__").getD .none) c' ctv)=h₂
 have k₂:Ext h₁ h₂:=hh2▸Ext.push _ _
 have e₂:h₂.get? h₁.objs.size=some (kla_obj "<lambda>" (env.qual++"<lambda>") params body scope clos ((mg "__name__").getD .none) c' ctv):=hh2▸Heap.get?_push_size _ rfl
 have kp:∀b o,b≠282→s.heap.get? b=some o→h₂.get? b=some o:=fun b o n e=>k₂ b o (eb b o n e)
 have rec₂:h₂.CodeRec (.ref c') (env.qual++"<lambda>"):=let⟨c,o,vs,t,e1,e2,r⟩:=rec;⟨c,o,vs,t,e1,k₂ _ _ e2,r⟩
 have tab₂:=k₂ _ _ tab
 have alc:∃o,h₂.get? c'=some o:=let⟨c,o,vs,t,e1,e2,r⟩:=rec₂;⟨o,by cases e1;exact e2⟩
 have own:∀b∈h₁.objs.size::c'::O,b∈O∨s.heap.get? b=none:=fun b m=>by
  rcases List.mem_cons.mp m with rfl|m
  ·exact .inr frf
  rcases List.mem_cons.mp m with rfl|m
  ·exact .inr frc
  ·exact .inl m
 have mv:=F.moved (O':=h₁.objs.size::c'::O) (Ls:=[]) f Dicts.nil (fun b o n _ e=>kp b o (fun z=>n (z▸hm)) e) (fun _ m=>nomatch m) (fun _ m=>nomatch m) own (fun b m=>List.mem_cons_of_mem _ (List.mem_cons_of_mem _ m)) (fun b m=>by
  rcases List.mem_cons.mp m with rfl|m
  ·exact⟨_,e₂⟩
  rcases List.mem_cons.mp m with rfl|m
  ·exact alc
  ·by_cases z:b=282
   ·exact⟨_,z▸tab₂⟩
   ·obtain⟨o,e⟩:=F.kx b (List.mem_append_left _ m)
    exact⟨o,kp b o z e⟩)
 have off:=f.goes F own
 have nn:∀(b:Addr),b∉([]:List Addr):=fun _ m=>nomatch m
 refine zAn (s:=(sat s h₂ tk₁)) mv.1 hy (b:= .v (.ref h₁.objs.size)) rfl fun h' tk F' R'=> ?_
 refine hQ h₁.objs.size c' _ ctv h' tk frf frc (Nat.ne_of_gt hi) off (off.keep List.mem_cons_self R' (nn _) _ e₂) ?_ ?_ F' fun b o n1 n2 n3 e=>R' b o (nn _) n2 (fun n _=>n3 n) (kp b o n1 e)
 ·obtain⟨c,o,vs,t,e1,e2,r⟩:=rec₂
  cases e1
  exact⟨_,o,vs,t,rfl,off.keep (List.mem_cons_of_mem _ List.mem_cons_self) R' (nn _) _ e2,r⟩
 ·exact off.keep (List.mem_cons_of_mem _ (List.mem_cons_of_mem _ hm)) R' (nn _) _ tab₂
end
end P37
section P38
section
variable {w:World} {A:Around} {X M O O' Ls:List Addr} {h h':Heap} {g g₀:Heap} {env:Env} {Γ:List (Str×Bd)} {outer:List Env} {s:Shared} {E:Value→Shared→Prop}
theorem lookup_append {α:Type} {l r:List (Str×α)} {x:Str} {b:α} (e:(l++r).lookup x=some b):l.lookup x=some b∨r.lookup x=some b:=by
 induction l with
 |nil=>exact .inr e
 |cons p l ih=>
  obtain⟨y,c⟩:=p
  rw[List.cons_append,List.lookup_cons]at e
  rw[List.lookup_cons]
  cases hy:x==y with
  |true=>rw[hy]at e;exact .inl e
  |false=>rw[hy]at e;exact ih e
theorem zKm {cs:List (Str×Value)} {x:Str} {b:Bd} (e:(cs.map fun y=>(y.1,Bd.v y.2)).lookup x=some b):∃u,cs.lookup x=some u∧b= .v u:=by
 induction cs with
 |nil=>simp at e
 |cons p l ih=>
  obtain⟨y,c⟩:=p
  rw[List.map_cons,List.lookup_cons]at e
  rw[List.lookup_cons]
  cases hy:x==y with
  |true=>rw[hy]at e;cases e;exact⟨c,rfl,rfl⟩
  |false=>rw[hy]at e;exact ih e
theorem zMk {binds:List (Str×Value)} (nd:(binds.map (·.1)).Nodup) {y:Str} {v:Value} (m:(y,v)∈binds):binds.reverse.lookup y=some v:=by
 have nd':(binds.reverse.map (·.1)).Nodup:=by rw[List.map_reverse];exact List.pairwise_reverse.2 (nd.imp fun h=>Ne.symm h)
 have m':(y,v)∈binds.reverse:=List.mem_reverse.mpr m
 generalize binds.reverse=l at nd' m'
 induction l with
 |nil=>cases m'
 |cons p l ih=>
  obtain⟨z,u⟩:=p
  have n:=List.nodup_cons.mp nd'
  rw[List.lookup_cons]
  rcases List.mem_cons.mp m' with e|m'
  ·cases e;simp
  ·have:y≠z:=fun q=>n.1 (q▸List.mem_map_of_mem (f:=(·.1)) m')
   rw[beq_false_of_ne this]
   exact ih n.2 m'
theorem zNm {f c':Addr} {name qual:Str} {params:Arguments} {body:List Stmt} {scope:Scope} {doc pm ct:Value} {cl:List (Str×Addr)} {vs:List Value} {binds:List (Str×Value)} {Q:Value→Shared→Prop} {n:Nat} (bs:List (Str×Bd)) (cs:List (Str×Value))
 (NL:s.heap.NoLimit) (ho:s.heap.get? f=some (fnMade name qual params body scope cl doc pm c' ct)) (hcd:s.heap.CodeRec (.ref c') qual) (rm:Room A (n+1)) (kx:XOk X s.heap)
 (hbind:bindArgs (fnX name qual params body scope cl .none .none doc pm none (.ref c') ct) ⟨vs,[]⟩=pure binds) (bb:Bds (hid X s.heap) bs binds) (hnd:(bs.map (·.1)).Nodup)
 (hloc:∀y∈binds,scope.names.lookup y.1=some .local) (hcell:∀y∈scope.names,y.2≠ .cell)
 (hcs:∀x u,cs.lookup x=some u→scope.names.lookup x=some .free∧∃c,cl.lookup x=some c∧s.heap.IsCell c (some u))
 (hcl:∀n c,cl.lookup n=some c→∃v,s.heap.IsCell c v) (inj:∀n n' c,cl.lookup n=some c→cl.lookup n'=some c→n=n')
 (h:∀L h₁ tk,Fn s.heap X [] h₁ (envX qual scope L f (.ref c') cl) (bs++cs.map fun y=>(y.1,Bd.v y.2))→GEnv (envX qual scope L f (.ref c') cl)→
  wpAny (model PR w) (A.deeper (envX qual scope L f (.ref c') cl)) (execs body (envX qual scope L f (.ref c') cl)) (fun fl s'=>Q (match fl with| .ret v=>v|_=> .none) s') (Leave PR w A (envX qual scope L f (.ref c') cl) E) (sat s h₁ tk))
 (hco:scope.isCoroutine=false) (hgen:scope.isGenerator=false) (hk:scope.kind= .function):
 wpAny (model PR w) A (call (.ref f) vs) Q E s:=by
 refine wpAny_call (codeAny_call_function (fd:=fnX name qual params body scope cl .none .none doc pm none (.ref c') ct) (body:=body) (by have:=rm.depth;omega) ho rfl hco hgen rfl hcd ?_)
 rw[hbind]
 refine wpAny_pure (wpAny_newFunctionEnv hcell hloc (fun h₁ hns hsb=> ?_) hk)
 have k₁:Ext s.heap h₁:=fun b o e=>hsb.extBut b o (Nat.ne_of_lt (Heap.lt_size e)) (Heap.get?_push_of_some _ e)
 refine⟨NL.keeps k₁,codeAny_func ?_⟩
 have fr:s.heap.get? s.heap.objs.size=none:=Heap.get?_none_of_le (Nat.le_refl _)
 have nob:∀n c,¬((envX qual scope s.heap.objs.size f (.ref c') cl).kindOf n=some .cell∧cl.lookup n=some c):=by
  rintro n c ⟨e,_⟩
  have e':scope.names.lookup n=some .cell:=e
  exact hcell _ (mem_of_lookup e') rfl
 refine h s.heap.objs.size h₁ _ ⟨⟨hk,⟨_,hns⟩,fun n c e=>let⟨v,q⟩:=hcl n c e;⟨v,q.keeps k₁⟩,inj,fun y b e=> ?_⟩,k₁,fr,fun n c e1 e2=>absurd ⟨e1,e2⟩ (nob n c),(fun _ m=>nomatch m),(fun _ m=>nomatch m),kx.ext k₁⟩ ⟨hk,rfl,rfl⟩
 rcases lookup_append e with e|e
 ·obtain⟨v,hv,rv⟩:=bb.see e
  refine⟨v, .inl ⟨hloc _ hv,_,hns,zMk (by rw[bb.names];exact hnd) hv⟩,rv.mono (zAl k₁).s⟩
 ·obtain⟨u,hu,rfl⟩:=zKm e
  obtain⟨e1,c,e2,e3⟩:=hcs y u hu
  exact⟨u, .inr ⟨.inr e1,c,e2,e3.keeps k₁⟩,rfl⟩
end
end P38
section W4
open PySem.Calls Builtin
section
variable {b:Array UInt8} {c:UInt8} {cs:List UInt8} {t t0:Tok} {n:Nat}
noncomputable def latin (l:List UInt8):PySem.Str:=⟨(l.map (·.toNat)).toArray⟩
theorem zQn {id:String}:_codecs.decodeRoad id b (PySem.Str.ofString "latin-1") none []=(_codecs.runDecoder id _codecs.latin1Decoder none true b 0 []>>=fun r=>mkStr ⟨r.1⟩):=by kernel_rfl
theorem zO4: «bytes.decode» ⟨[.bytes (c::cs).toArray t, .str (PySem.Str.ofString "latin-1") t0],[]⟩=(mkStr (PySem.Str.ofString "utf-8")>>=fun _=>mkStr (PySem.Str.ofString "latin-1")>>=fun e=>mkStr (PySem.Str.ofString "bytes.decode")>>=fun d=>
 call (.builtin "_codecs.decode.text") [.bytes (c::cs).toArray t,e, .none,d]>>=fun v=>ret v):=by kernel_rfl
theorem zL2: «bytes.decode» ⟨[.bytes #[] t, .str (PySem.Str.ofString "latin-1") t0],[]⟩=(rule "bytes.decode.empty">>=fun _=>retStr Str.empty):=by kernel_rfl
theorem zPk {f:Bool} {p:Nat}:_codecs.latin1Decoder.find f b p= .text [(b.getD p 0).toNat] (p+1):=rfl
theorem zJe {β:Type} (F:Nat→β→Sem (ForInStep β)) (st:Nat→β) (N:Nat) (h:∀k,k<N→F k (st k)=pure (.yield (st (k+1)))):∀m k,k+m≤N→forIn (List.range' k m) (st k) F=pure (st (k+m))
 |0,k,_=>rfl
 |m+1,k,e=>by
  rw[List.range'_succ,List.forIn_cons,h k (by omega)]
  have:=zJe F st N h m (k+1) (by omega)
  rw[show k+1+m=k+(m+1) by omega]at this
  rw[←this];rfl
theorem lat_run (hb:b.size≤sizeLine) {id:String}:_codecs.runDecoder id _codecs.latin1Decoder none true b 0 []=pure ((b.toList.map (·.toNat)).toArray,b.size):=by
 unfold _codecs.runDecoder
 simp only[Std.Legacy.Range.forIn_eq_forIn_range',zPk]
 have sz:(⟨0,b.size,1,by decide⟩:Std.Legacy.Range).size=b.size:=by simp[Std.Legacy.Range.size]
 have key:=zJe (fun(x:Nat) (__s:Nat×Array Nat×_codecs.Faults)=>(if __s.snd.fst.size>sizeLine then do
  let _←(unsupported "str:memory":Sem Unit)
  if __s.fst≥b.size then pure (ForInStep.done (__s.fst,__s.snd.fst,__s.snd.snd))
   else pure (ForInStep.yield (__s.fst+1,__s.snd.fst++[(b.getD __s.fst 0).toNat].toArray,__s.snd.snd))
  else
   if __s.fst≥b.size then pure (ForInStep.done (__s.fst,__s.snd.fst,__s.snd.snd))
   else pure (ForInStep.yield (__s.fst+1,__s.snd.fst++[(b.getD __s.fst 0).toNat].toArray,__s.snd.snd)):Sem (ForInStep (Nat×Array Nat×_codecs.Faults))))
  (fun k=>(k,((b.toList.map (·.toNat)).take k).toArray,{})) b.size (fun k hk=> ?_) b.size 0 (by omega)
 ·rw[sz]
  simp only[List.take_zero,Nat.zero_add]at key
  refine Eq.trans (congrArg (· >>=_) key) ?_
  simp[List.take_of_length_le]
 ·have h1:¬((List.take k (b.toList.map (·.toNat))).toArray.size>sizeLine):=by
   rw[List.size_toArray,List.length_take]
   simp only[List.length_map,Array.length_toList];omega
  have h2:¬(k≥b.size):=by omega
  dsimp only
  rw[if_neg h1,if_neg h2]
  congr 3
  have:(b.toList.map (·.toNat))[k]? =some (b.getD k 0).toNat:=by
   simp[hk]
  rw[List.take_add_one,this]
  simp
theorem zPz {t1 t2:Tok} {d:PySem.Str}:
 Meets («_codecs.decode.text» ⟨[.bytes b t, .str (PySem.Str.ofString "latin-1") t1, .none, .str d t2],[]⟩) (fun _ R s=>b.size≤sizeLine∧R (.ok (.ret (.str (latin b.toList) s.toks))) {s with toks:=s.toks+1}):=by
 refine .of_wp fun prog w A R s hS=> ?_
 obtain⟨hsz,h⟩:=hS
 show wpAny _ _ (Bytes.bytesLike _ (.bytes b t)>>=fun r=>_) _ _ s
 refine wpAny_bind (wpAny_of_eq KBd.like_eq ?_)
 refine wpAny_bind (wpAny_of_eq KBd.held_eq ?_)
 show wpAny _ _ (_codecs.decodeRoad _ b (PySem.Str.ofString "latin-1") none []>>=fun v=>_) _ _ s
 rw[zQn,lat_run hsz]
 refine wpAny_bind (wpAny_bind (wpAny_pure ?_))
 refine wpAny_mkStr (wpAny_pure ⟨_,rfl,h⟩) ?_
 show((b.toList.map (·.toNat)).toArray).size≤sizeLine
 simpa using hsz
theorem zO5:Meets («bytes.decode» ⟨[.bytes b t, .str (PySem.Str.ofString "latin-1") t0],[]⟩) (fun _ R s=>b.size≤sizeLine∧∀t' k,R (.ok (.ret (.str (latin b.toList) t'))) {s with toks:=k}):=by
 refine .of_wp fun prog w A R s hS=> ?_
 obtain⟨hsz,h⟩:=hS
 obtain⟨l⟩:=b
 cases l with
 |nil=>
  rw[zL2]
  refine wpAny_bind (wpAny_rule ?_)
  unfold retStr
  refine wpAny_bind (wpAny_mkStr ?_ (by decide))
  exact wpAny_pure ⟨_,rfl,h _ _⟩
 |cons c cs=>
  rw[zO4]
  refine wpAny_bind (wpAny_mkStr ?_ (by decide))
  refine wpAny_bind (wpAny_mkStr ?_ (by decide))
  refine wpAny_bind (wpAny_mkStr ?_ (by decide))
  exact wpAny_bind (call_function_meets KBd.kind_text KBd.plain_text KBd.entry_text (KBd.args_text _ _ _ _) zPz ⟨hsz,wpAny_pure ⟨_,rfl,h _ _⟩⟩)
end
section
variable {prog:Program} {w:World} {A:Around} {E:Value→Shared→Prop} {s:Shared} {b:Array UInt8} {t t0:Tok}
theorem zPt (a b:Value):argsOk "bytes.decode" ⟨[a,b],[]⟩:=by unfold argsOk;kernel_rfl
theorem zIy {Q:Value→Shared→Prop} (hsz:b.size≤16777216) (h:∀t' k,Q (.str (latin b.toList) t') {s with toks:=k}):
 wpAny (model prog w) A (call (.builtin "bytes.decode") [.bytes b t, .str (PySem.Str.ofString "latin-1") t0]) Q E s:=
 call_meets FB.slot_bytes_decode (typeIs_bytes _ _ _) FB.entry_bytes_decode (zPt _ _) zO5 ⟨by rw[sizeLine_eq];exact hsz,h⟩
end
end W4
section P39
section
variable {w:World} {A:Around} {X M O O' Ls:List Addr} {h h':Heap} {g g₀:Heap} {env:Env} {Γ:List (Str×Bd)} {outer:List Env} {s:Shared} {E:Value→Shared→Prop}
theorem zLk (b:Array UInt8) (p n:Nat):KBy.picked b (some (p:Int)) (some ((p+n:Nat):Int))=((b.toList.drop p).take n).toArray:=by
 rw[KBc.picked_eq]
 congr 1
 simp only[Option.elim,clipAt_nat]
 have hs:b.size=b.toList.length:=by simp
 rw[hs]
 by_cases hp:p≤b.toList.length
 ·rw[Nat.min_eq_left hp]
  by_cases hn:p+n≤b.toList.length
  ·rw[Nat.min_eq_left hn,Nat.add_sub_cancel_left]
  ·rw[Nat.min_eq_right (by omega),List.take_of_length_le (by simp),List.take_of_length_le (by simp;omega)]
 ·have h1:b.toList.drop p=[]:=List.drop_eq_nil_of_le (by omega)
  have h2:b.toList.drop (min p b.toList.length)=[]:=List.drop_eq_nil_of_le (by omega)
  rw[h1,h2];simp
theorem zOj {Q:Value→Shared→Prop} {value:Expr} {lower upper:Option Expr} {sp pos:Pos} {b:Array UInt8} {t:Tok} {p n:Nat} (kx:XOk X s.heap) (ha:EvV PR w A s.heap (eval value env) (.bytes b t)) (pl:PartEv PR w A X s.heap env lower (some (p:Int))) (pu:PartEv PR w A X s.heap env upper (some ((p+n:Nat):Int)))
 (hs:b.size≤16777216) (hQ:∀t' h' tk,Ext s.heap h'→Q (.bytes ((b.toList.drop p).take n).toArray t') (sat s h' tk))
 (ht:autoParam (∀t r,letTemporaryGo value (.bytes b t) r=pure ()) aT) (hsub:autoParam (∀t a,subscripted (.Slice lower upper none sp) false (.bytes b t) (.ref a)=operate [.ref a, .bytes b t] (getItem (.bytes b t) (.ref a))) aT):
 wpAny (model PR w) A (eval (.Subscript value (.Slice lower upper none sp) pos) env) Q E s:=by
 refine PyProof.Rows.Subscript_ (ha.run Ext.rfl fun h₁ tk₁ k₁=> ?_)
 refine wpAny_Slice (zEl (s:=(sat s h₁ tk₁)) pl k₁ (kx.ext k₁) fun vl h₂ tk₂ k₂ p₂=>zEl (s:=(sat s h₂ tk₂)) pu (k₁.trans k₂) ((kx.ext k₁).ext k₂) fun vu h₃ tk₃ k₃ p₃=> ?_)
 rw[evalPart_none]
 refine wpAny_pure ?_
 refine tail_of_ItemOn ⟨"bytes",_,FB.slot_bytes_getitem.lookup,typeIs_bytes _ _ _,getItem_meets (typeIs_bytes _ _ _) (by decide) FB.slot_bytes_getitem FB.entry_bytes_getitem (FB.args_bytes_getitem_2 _ _) (KBc.meets_slice2 b t _ p₂ p₃) ⟨Heap.IsSliceOf.new _ _ _ _,Nat.le_trans (KBc.size_picked_le b _ _) (by rw[sizeLine_eq];exact hs),fun t' k=> ?_⟩⟩ (hsub _ _) (ht _)
 rw[zLk]
 exact hQ t' _ k (k₁.trans (k₂.trans (k₃.trans (Ext.push _ _))))
noncomputable abbrev readParams (p:Pos):Arguments:={posonlyargs:=[],args:=[{arg:="size",annotation:=none,pos:=p}],vararg:=none,kwonlyargs:=[],kw_defaults:=[],kwarg:=none,defaults:=[]}
noncomputable abbrev readScope:Scope:={kind:= .function,names:=[("size", .local),("first", .local),("octets", .free),("place", .free)],isGenerator:=false,isCoroutine:=false}
noncomputable abbrev readBody (a1 a2 a3 a4 a5 b1 b2 b3 b4 b5 b6 b7 c1 c2 c3 c4 c5 c6 c7 c8:Pos) (ka kb:Nat):List Stmt:=[.Assign [.Name "first" a1] (.Subscript (.Name "place" a2) (.Constant (.int 0) ka a3) a4) a5,
 .Assign [.Subscript (.Name "place" b1) (.Constant (.int 0) kb b2) b3] (.BinOp (.Name "first" b4) .Add (.Name "size" b5) b6) b7,
 .Return (some (.Subscript (.Name "octets" c1) (.Slice (some (.Name "first" c2)) (some (.BinOp (.Name "first" c3) .Add (.Name "size" c4) c5)) none c6) c7)) c8]
inductive ReadFn (h:Heap) (fr cr:Addr) (qual:Str) (cl:List (Str×Addr)):Prop
 |mk {doc pm ct:Value} {pp a1 a2 a3 a4 a5 b1 b2 b3 b4 b5 b6 b7 c1 c2 c3 c4 c5 c6 c7 c8:Pos} {ka kb:Nat} (e:h.get? fr=some (fnMade "read" qual (readParams pp) (readBody a1 a2 a3 a4 a5 b1 b2 b3 b4 b5 b6 b7 c1 c2 c3 c4 c5 c6 c7 c8 ka kb) readScope cl doc pm cr ct)):ReadFn h fr cr qual cl
theorem ReadFn.of {fr cr:Addr} {q:Str} {cl:List (Str×Addr)} (R:ReadFn h fr cr q cl) (k:∀o,h.get? fr=some o→h'.get? fr=some o):ReadFn h' fr cr q cl:=let⟨e⟩:=R;⟨k _ e⟩
structure FileAt (h:Heap) (fa dd fr cr D1:Addr) (b:Array UInt8) (p:Nat):Prop where
 fn:∃fd sl,h.get? fa=some ⟨.type "function",some dd, .func fd,sl⟩
 nm:∃m,h.Ns dd m∧m "read"=some (.ref fr)
 rd:∃qual cl,ReadFn h fr cr qual cl∧h.CodeRec (.ref cr) qual∧
  (∃t c,cl.lookup ("octets":Str)=some c∧h.IsCell c (some (.bytes b t)))∧(∃c,cl.lookup ("place":Str)=some c∧h.IsCell c (some (.ref D1)))∧(∀n c,cl.lookup n=some c→∃v,h.IsCell c v)∧(∀n n' c,cl.lookup n=some c→cl.lookup n'=some c→n=n')
 pl:∃t,h.IsList D1 #[.int p t]
theorem FileAt.keep {fa dd fr cr D1:Addr} {b:Array UInt8} {p:Nat} (F:FileAt h fa dd fr cr D1 b p) (k:Ext h h'):FileAt h' fa dd fr cr D1 b p:=by
 obtain⟨⟨fd,sl,e1⟩,⟨m,e2,e3⟩,⟨qual,cl,e4,⟨cc,o,vs,tt,r1,r2,r3⟩,⟨t,c,h1,h2⟩,⟨c',h3,h4⟩,h5,h6⟩,⟨t',o',e5,q5⟩⟩:=F
 exact⟨⟨fd,sl,k _ _ e1⟩,⟨m,e2.keeps k,e3⟩,⟨qual,cl,e4.of (k _),⟨cc,o,vs,tt,r1,k _ _ r2,r3⟩,⟨t,c,h1,h2.keeps k⟩,⟨c',h3,h4.keeps k⟩,fun n c e=>let⟨v,q⟩:=h5 n c e;⟨v,q.keeps k⟩,h6⟩,⟨t',o',k _ _ e5,q5⟩⟩
theorem FileAt.poke {fa dd fr cr D1:Addr} {b:Array UInt8} {p q:Nat} (F:FileAt h fa dd fr cr D1 b p) (k:∀a o,a≠D1→h.get? a=some o→h'.get? a=some o) (n1:fa≠D1) (n2:fr≠D1) (L:∃t,h'.IsList D1 #[.int q t]):FileAt h' fa dd fr cr D1 b q:=by
 obtain⟨⟨fd,sl,e1⟩,⟨m,e2,e3⟩,⟨qual,cl,e4,⟨cc,o,vs,tt,r1,r2,r3,r4⟩,⟨t,c,h1,h2⟩,⟨c',h3,h4⟩,h5,h6⟩,⟨t',o',e5,q5,n5,q6⟩⟩:=F
 have ne:∀{a:Addr} {o:Obj},h.get? a=some o→(∀xs n,o.data≠ .seq xs n)→a≠D1:=fun e hd z=>by
  rw[z,e5]at e;cases e;exact hd _ _ q6
 have kc:∀{c:Addr} {v:Option Value},h.IsCell c v→h'.IsCell c v:=fun⟨o,ho,hd⟩=>⟨o,k _ _ (ne ho (by rw[hd];exact fun _ _ z=>nomatch z)) ho,hd⟩
 obtain⟨oo,es,ep,g1,g2,g3⟩:=e2
 refine⟨⟨fd,sl,k _ _ n1 e1⟩,⟨m,⟨oo,es,ep,k _ _ (ne g1 (by rw[g2];exact fun _ _ z=>nomatch z)) g1,g2,g3⟩,e3⟩,⟨qual,cl,e4.of fun _=>k _ _ n2,⟨cc,o,vs,tt,r1,k _ _ (ne r2 (by rw[r3];exact fun _ _ z=>nomatch z)) r2,r3,r4⟩,⟨t,c,h1,kc h2⟩,⟨c',h3,kc h4⟩,fun n c e=>let⟨v,q⟩:=h5 n c e;⟨v,kc q⟩,h6⟩,L⟩
end
end P39
section P40
section
variable {w:World} {A:Around} {X M O O' Ls:List Addr} {h h':Heap} {g g₀:Heap} {env:Env} {Γ:List (Str×Bd)} {outer:List Env} {s:Shared} {E:Value→Shared→Prop}
theorem FileAt.ne {fa dd fr cr D1:Addr} {b:Array UInt8} {p:Nat} (F:FileAt h fa dd fr cr D1 b p):fa≠D1∧fr≠D1:=by
 obtain⟨⟨fd,sl,e1⟩, -,⟨qual,cl,⟨e4⟩, -⟩,⟨t',o',e5,q5,n5,q6⟩⟩:=F
 constructor
 ·intro z
  rw[z,e5]at e1;cases e1;cases q6
 ·intro z
  rw[z,e5]at e4;cases e4;cases q6
theorem zNl {Q:Value→Shared→Prop} {fa dd fr cr D1:Addr} {b:Array UInt8} {p n:Nat} {t:Tok} (S:Stat (hd.heap_1 w.params) s.heap) (rm:Room A 3) (F:FileAt s.heap fa dd fr cr D1 b p) (sm:b.size≤16777216)
 (hQ:∀t' h' tk,FileAt h' fa dd fr cr D1 b (p+n)→(∀a o,a≠D1→s.heap.get? a=some o→h'.get? a=some o)→Q (.bytes ((b.toList.drop p).take n).toArray t') (sat s h' tk)):
 wpAny (model PR w) A (call (.ref fr) [.int n t]) Q E s:=by
 have nef:=F.ne
 have F':=F
 obtain⟨-, -,⟨qual,cl,⟨e4⟩,rc,⟨tb,c,h1,h2⟩,⟨c',h3,h4⟩,h5,h6⟩,⟨tp,o',e5,q5,n5,q6⟩⟩:=F'
 have kx:XOk [D1] s.heap:=fun a m=>⟨o',(List.mem_singleton.mp m)▸e5⟩
 refine zNm (binds:=[("size", .int n t)]) (X:=[D1]) (n:=2) [("size", .v (.int n t))] [("octets", .bytes b tb),("place", .ref D1)] S.nolimit e4 rc rm kx rfl (.cons rfl .nil) (show(["size"]:List Str).Nodup by decide) (fun y hy=>by rw[List.mem_singleton.mp hy];rfl) (by decide) ?_ h5 h6 ?_ rfl rfl rfl
 ·intro x u e
  rw[List.lookup_cons]at e
  cases hx:x==("octets":Str)with
  |true=>
   rw[hx]at e;cases e
   obtain rfl:x="octets":=by simpa using hx
   exact⟨rfl,c,h1,h2⟩
  |false=>
   rw[hx]at e
   dsimp only at e
   rw[List.lookup_cons]at e
   cases hy:x==("place":Str)with
   |true=>
    rw[hy]at e;cases e
    obtain rfl:x="place":=by simpa using hy
    exact⟨rfl,c',h3,h4⟩
   |false=>rw[hy]at e;simp at e
 intro L h₁ tk₁ F₀ G
 have L1:=F₀.lend (O:=[D1]) fun _ m=>m
 have F₁:Fn (hid [D1] s.heap) ([D1]++[]) ([D1]++[]) h₁ _ _:=L1
 have off:Off [D1] (envX qual readScope L fr (.ref cr) cl):=by
  intro a m
  obtain rfl:=List.mem_singleton.mp m
  constructor
  ·intro z
   have:=F₀.outL
   rw[show s.heap.get? (envX qual readScope L fr (.ref cr) cl).locals=some o' from z▸e5]at this;cases this
  ·intro x hx
   obtain⟨v,o,ho,hd⟩:=h5 x _ hx
   rw[e5]at ho;cases ho
   rw[q6]at hd;cases hd
 have il₁:h₁.IsList D1 #[.int p tp]:=⟨o',F₀.kg _ _ e5,q5,n5,q6⟩
 have keepL:∀{a b:Heap} {M':List Addr},Rel M' (envX qual readScope L fr (.ref cr) cl) a b→D1∉M'→∀o,a.get? D1=some o→b.get? D1=some o:=fun r n o e=>off.keep List.mem_cons_self r n o e
 refine wpAny_execs_cons (zB1 (PyProof.Rows.Subscript_ (EvV.run (nmV_ F₁.is) Ext.rfl fun h₂ tk₂ k₂=>wpAny_Constant_int ?_)))
 have il₂:h₂.IsList D1 #[.int p tp]:=let⟨o,e,r⟩:=il₁;⟨o,k₂ _ _ e,r⟩
 refine PyProof.Rows.tail_any (s:={heap:=h₂,gens:=_,drawn:=_,toks:=_,os:=_}) il₂.typeIs slot_list_getitem.lookup (wpAny_getItem_list (s:={heap:=h₂,gens:=_,drawn:=_,toks:=_,os:=_}) (x:= .int p tp) il₂ (by decide) (by decide) rfl ?_) (by first|rfl|with_unfolding_all rfl)
 refine zAn (b:= .d (.int p)) (F₁.ext k₂) stL (Rd.int _ _) fun h₃ tk₃ F₃ R₃=> ?_
 have il₃:h₃.IsList D1 #[.int p tp]:=let⟨o,e,r⟩:=il₂;⟨o,keepL R₃ (fun m=>nomatch m) _ e,r⟩
 walk_at "sh"
 refine wpAny_execs_cons (wpAny_Assign_Subscript (Ev.run (zDk (a:=(p:Int)) (b:=(n:Int)) (nm_ F₃.is) (EvV.d (nmV_ F₃.is) (Rd.int _ _))) Ext.rfl F₃.kx fun v h₄ tk₄ k₄ r₄=>EvV.run (nmV_ F₃.is) k₄ fun h₅ tk₅ k₅=>wpAny_Constant_int ?_) (by first|rfl|with_unfolding_all rfl))
 obtain⟨t4,rfl⟩:=r₄.int_inv
 have k35:=k₄.trans k₅
 have il₅:h₅.IsList D1 #[.int p tp]:=let⟨o,e,r⟩:=il₃;⟨o,k35 _ _ e,r⟩
 refine wpAny_setItem_list (s:={heap:=h₅,gens:=_,drawn:=_,toks:=_,os:=_}) il₅ (by decide) (by decide) (by simp) fun h₆ il₆ sb₆=> ?_
 have mv:=(F₃.ext k35).moved2 (O:=[D1]) off List.mem_cons_self (fun b o n e=>sb₆.extBut b o n e) (let⟨o,e,_⟩:=il₆;⟨o,e⟩)
 have F₆:=mv.1
 have ob:∀{a o},a≠D1→s.heap.get? a=some o→h₆.get? a=some o:=fun n e=>F₆.kg _ _ (zAb e fun m=>n (List.mem_singleton.mp m))
 walk_at "sh"
 have cast:((p+n:Nat):Int)=(p:Int)+(n:Int):=by omega
 refine wpAny_execs_cons (wpAny_Return_some (zOj (s:={heap:=h₆,gens:=_,drawn:=_,toks:=_,os:=_}) (p:=p) (n:=n) (b:=b) (t:=tb) F₆.kx (nmV_ F₆.is) (pEv (nm_ F₆.is)) (pEv (by rw[cast];exact zDk (nm_ F₆.is) (EvV.d (nmV_ F₆.is) (Rd.int _ _)))) sm fun t' h₇ tk₇ k₇=> ?_))
 have il₇:∃t,h₇.IsList D1 #[.int ((p+n:Nat):Int) t]:=by
  refine⟨t4,?_⟩
  rw[cast]
  obtain⟨o,e,r⟩:=il₆
  exact⟨o,k₇ _ _ e,by simpa using r⟩
 exact hQ t' h₇ tk₇ (F.poke (fun a o n e=>k₇ _ _ (ob n e)) nef.1 nef.2 il₇) fun a o n e=>k₇ _ _ (ob n e)
end
end P40
section P41
section
variable {w:World} {A:Around} {X M O O' Ls:List Addr} {h h':Heap} {g g₀:Heap} {env:Env} {Γ:List (Str×Bd)} {outer:List Env} {s:Shared} {E:Value→Shared→Prop}
theorem zLj {Q:Value→Shared→Prop} {fa dd fr cr D1:Addr} {b:Array UInt8} {p n:Nat} {o e:Expr} {apos pos:Pos} (S:Stat (hd.heap_1 w.params) (hid [D1] s.heap)) (rm:Room A 3) (F:FileAt s.heap fa dd fr cr D1 b p) (sm:b.size≤16777216) (kx:XOk X s.heap)
 (hx:EvV PR w A s.heap (eval o env) (.ref fa)) (ha:Ev PR w A X s.heap (eval e env) (.int n))
 (hQ:∀t' h' tk,FileAt h' fa dd fr cr D1 b (p+n)→(∀a o,a≠D1→s.heap.get? a=some o→h'.get? a=some o)→Q (.bytes ((b.toList.drop p).take n).toArray t') (sat s h' tk))
 {pl:Sem Bool}
 (he:autoParam (eval (.Call (.Attribute o "read" apos) [e] [] pos) env=(do
  let ov←eval o env
  standAt apos.atName
  let(f,first)←holding [ov] (getMethod ov "read" pl)
  callWith pos f first (backTo pos (starEach [e] env)) [])) aR)
 (he1:autoParam (starEach [e] env=(false,eval e env)::starEach [] env) aR):
 wpAny (model PR w) A (eval (.Call (.Attribute o "read" apos) [e] [] pos) env) Q E s:=by
 refine MethodCall_ (EvV.run hx Ext.rfl fun h₁ tk₁ k₁=> ?_) he
 have F₁:=F.keep k₁
 obtain⟨⟨fd,sl,e1⟩,⟨m,e2,e3⟩, -, -⟩:=F₁
 refine zJ9 (o:=⟨.type "function",some dd, .func fd,sl⟩) e1 rfl rfl rfl e2 e3 ?_
 have F₁:=F.keep k₁
 obtain⟨-, -,⟨qual,cl,⟨e4⟩, -⟩, -⟩:=F₁
 have fnat:FnAt fr h₁:=⟨_,_,_,_,e4⟩
 refine callWith_F (s:=⟨h₁,s.gens,s.drawn,tk₁+1,s.os⟩) fnat ?_ he1 rfl
 refine wpAny_items_cons (Ev.run ha k₁ (kx.ext k₁) fun v h₂ tk₂ k₂ r₂=>wpAny_items_nil ⟨⟨_,_,_,_,k₂ _ _ e4⟩,?_⟩) he1
 obtain⟨t,rfl⟩:=r₂.int_inv
 have kk:=k₁.trans k₂
 exact zNl (s:=(sat s h₂ tk₂)) ((S.mono (zAf _ _)).mono kk) rm (F.keep kk) sm fun t' h' tk F' k'=>hQ t' h' tk F' fun a o n e=>k' a o n (kk a o e)
end
end P41
section P42
section
variable {w:World} {A:Around} {X M O O' Ls:List Addr} {h h':Heap} {g g₀:Heap} {env:Env} {Γ:List (Str×Bd)} {outer:List Env} {s:Shared} {E:Value→Shared→Prop}
theorem zE7 {Y:List Addr} {a:Addr} (m:a∈Y):(hid Y h).get? a=none:=by
 cases q:(hid Y h).get? a with
 |none=>rfl
 |some o=>exact absurd m (zAh q)
theorem zHj {Q:Flow→Shared→Prop} {Ee:Value→Shared→Prop} {base:Heap} {e:Expr} {d:Str} {np cpos pos:Pos} (hh:A.handled=none) (stk:Stk (A.deeper env) (env::outer) (env.locals::Ls)) (G:GEnv env) (F:Fn g X M s.heap env Γ) (S:Stat (hd.heap_1 w.params) s.heap)
 (kb:Ext base s.heap) (nb:∀b∈env.locals::Ls,base.get? b=none) (D:Dicts Ls s.heap) (he:Ev PR w (A.deeper env) X s.heap (eval e env) (.str d))
 (hE:∀t e h' tk,Flies outer base e (.type "ValueError") [.str d t] h'→Up Ls s.heap h'→Ee (.ref e) (sat s h' tk))
 (hv:autoParam (env.kindOf "ValueError"=some .globalImplicit) aR)
 (hs:autoParam (starEach [e] env=(false,eval e env)::starEach [] env) aR):
 wpAny (model PR w) (A.deeper env) (exec (.Raise (some (.Call (.Name "ValueError" np) [e] [] cpos)) none pos) env) Q (Leave PR w A env Ee) s:=by
 refine zK5 (X:=X) hh (zAe S G zCi zCh (by decide) hv) he F.kx (fun h₁ h₂ t e tk k₁ hx=> ?_) hs
 have D':Dicts (env.locals::Ls) h₁:=(D.cons F.is.ns).ext k₁
 exact zFr stk D' (kb.trans k₁) nb hx fun h' fl up=>hE t e h' tk fl ((Up.of_ext k₁).trans (up.le fun b m=>List.mem_cons_of_mem _ m))
theorem FileAt.under {fa dd fr cr D1:Addr} {b:Array UInt8} {p q:Nat} {Ms:List Addr} (F:FileAt (hid Ls h) fa dd fr cr D1 b p) (k:∀a o,a≠D1→h.get? a=some o→a∉Ls→h'.get? a=some o∧a∉Ms) (hD:D1∉Ms) (L:∃t,h'.IsList D1 #[.int q t]):FileAt (hid Ms h') fa dd fr cr D1 b q:=by
 refine F.poke (fun a o n e=> ?_) F.ne.1 F.ne.2 ?_
 ·have:=k a o n (zAf _ _ _ _ e) (zAh e)
  exact zAb this.1 this.2
 ·obtain⟨t,o,e,r⟩:=L
  exact⟨t,o,zAb e hD,r⟩
theorem zQh {Q:Value→Shared→Prop} {fa dd fr cr D1:Addr} {b:Array UInt8} {p:Nat} (S:Stat (hd.heap_1 w.params) (hid (D1::Ls) s.heap)) (rm:Room A 6) (stk:Stk A outer Ls) (D:Dicts Ls s.heap) (F:FileAt (hid Ls s.heap) fa dd fr cr D1 b p) (sm:b.size≤16777216)
 (hQ:∀t h' tk,p<b.size→FileAt (hid Ls h') fa dd fr cr D1 b (p+1)→(∀a o,a≠D1→s.heap.get? a=some o→h'.get? a=some o)→Q (.int (b.toList.getD p 0).toNat t) (sat s h' tk))
 (hE:∀t e g' h' tk,b.size≤p→FileAt g' fa dd fr cr D1 b (p+1)→(∀a o,a≠D1→(hid Ls s.heap).get? a=some o→g'.get? a=some o)→(∀a∈Ls,g'.get? a=none)→Flies outer g' e (.type "ValueError") [.str "not enough data in stream to read uint1" t] h'→Up Ls s.heap h'→E (.ref e) (sat s h' tk)):
 wpAny (model PR w) A (call (.ref 263) [.ref fa]) Q E s:=by
 have Sg:Stat (hd.heap_1 w.params) s.heap:=S.mono (zAf _ _)
 have Ff:FileAt s.heap fa dd fr cr D1 b p:=F.keep (zAf _ _)
 have alD:∃o,(hid Ls s.heap).get? D1=some o:=let⟨_,o,e,_⟩:=F.pl;⟨o,e⟩
 have dj:D1∉Ls:=fun m=>let⟨o,e⟩:=alD;zAh e m
 have kx:XOk ([D1]++Ls) s.heap:=fun a m=>by
  rcases List.mem_append.mp m with m|m
  ·obtain⟨o,e⟩:=alD
   exact⟨o,(List.mem_singleton.mp m)▸zAf _ _ _ _ e⟩
  ·obtain⟨o,_,_,e,_⟩:=D a m
   exact⟨o,e⟩
 refine' zBc (X:=[D1]++Ls) (n:=5) [("f", .v (.ref fa))] Sg ?ho ?hcd rm kx ?hb (show(["f"]:List Str).Nodup by decide) ?kind ?_ ?hco ?hgen ?hk
 case ho=>k_is
 case hcd=>k_is
 case kind=>rfl
 case hco=>rfl
 case hgen=>rfl
 case hk=>rfl
 case hb=>exact zA1 rfl (.cons rfl .nil)
 intro L h₁ tk F₀ G
 have F₁:Fn (hid [D1] s.heap) ([D1]++Ls) ([D1]++[]) h₁ F₀.en _:=F₀.lend (O:=[D1]) fun b m=>List.mem_append_left _ m
 have f₁:=Ff.keep F₀.kg
 have off:Off [D1] F₀.en:=by
  intro a m
  obtain rfl:=List.mem_singleton.mp m
  obtain⟨_,o,e,_,_,ed⟩:=Ff.pl
  constructor
  ·intro z
   have:=F₀.outL
   rw[show s.heap.get? F₀.en.locals=some o from z▸e]at this;cases this
  ·intro x hx
   obtain⟨v,o',ho,hd⟩:=F₀.is.cell x _ hx
   rw[F₀.kg _ _ e]at ho;cases ho
   rw[ed]at hd;cases hd
 have Shd:Stat (hd.heap_1 w.params) (hid [D1] s.heap):=S.mono fun a o e=>zAb (zAf _ _ _ _ e) fun m=>zAh e ((List.mem_singleton.mp m)▸List.mem_cons_self)
 have S₁:Stat (hd.heap_1 w.params) (hid [D1] h₁):=Shd.mono fun a o e=>zAb (F₀.kg _ _ (zAf _ _ _ _ e)) (zAh e)
 refine wpAny_execs_cons (zB1 (zLj (s:={heap:=h₁,gens:=_,drawn:=_,toks:=_,os:=_}) (n:=1) S₁ ((rm.deeper _).le (by omega)) f₁ sm F₁.kx (nmV_ F₁.is) (zAo (i:=1)) fun t' h₂ tk₂ f₂ k₂=> ?_))
 have mv:=F₁.moved2 (O:=[D1]) off List.mem_cons_self k₂ (let⟨_,o,e,_⟩:=f₂.pl;⟨o,e⟩)
 generalize hdat:((b.toList.drop p).take 1).toArray=dat at *
 refine zAn (b:= .v (.bytes dat t')) mv.1 stL rfl fun h₃ tk₃ F₃ R₃=> ?_
 have k₃:∀a o,a≠D1→s.heap.get? a=some o→h₃.get? a=some o:=fun a o n e=>F₃.kg _ _ (zAb e fun m=>n (List.mem_singleton.mp m))
 have il₃:∃t,h₃.IsList D1 #[.int ((p+1:Nat):Int) t]:=let⟨t,o,e,r⟩:=f₂.pl;⟨t,o,off.keep List.mem_cons_self R₃ (fun m=>nomatch m) _ e,r⟩
 have hsz:dat.size=min 1 (b.size - p):=by
  rw[←hdat]
  simp
 walk_at "sh"
 refine wpAny_execs_cons (wpAny_If (wpAny_isTrue_value (EvV.run (nmV_ F₃.is) Ext.rfl fun h₄ tk₄ k₄=>truthy_bytes (s:={heap:=h₄,gens:=_,drawn:=_,toks:=_,os:=_}) (by omega) ?_) (by first|rfl|with_unfolding_all rfl)))
 have F₄:=F₃.ext k₄
 by_cases hp:p<b.size
 ·rw[if_pos (by rw[hsz];simp;omega)]
  refine wpAny_execs_cons (wpAny_Return_some (PyProof.Rows.Subscript_ (EvV.run (nmV_ F₄.is) Ext.rfl fun h₅ tk₅ k₅=>wpAny_Constant_int ?_)))
  subst hdat
  have hlen:((b.toList.drop p).take 1).length=1:=by simp;omega
  refine KBy.item_N (by rw[hlen];decide) (by decide) (by rw[hlen];decide) ?_ (by first|rfl|with_unfolding_all rfl) (by intro _;first|rfl|with_unfolding_all rfl)
  have hget:(((b.toList.drop p).take 1).getD (0:Int).toNat 0).toNat=(b.toList.getD p 0).toNat:=by
   simp[List.getD,List.getElem?_take,List.getElem?_drop]
  rw[hget]
  have k45:=k₄.trans k₅
  have nD:D1∉Ls:=dj
  exact hQ _ h₅ _ hp (F.under (fun a o n e m=>⟨k45 _ _ (k₃ a o n e),m⟩) nD (let⟨t,o,e,r⟩:=il₃;⟨t,o,k45 _ _ e,r⟩)) fun a o n e=>k45 _ _ (k₃ a o n e)
 ·rw[if_neg (by rw[hsz];simp;omega)]
  refine wpAny_execs_nil ?_
  walk_at "sh"
  have stk':=stk.deeper (env:=F₀.en) (L:=F₀.en.locals) rfl rfl
  have S₄:Stat (hd.heap_1 w.params) h₄:=Shd.mono F₄.kg
  have nLs:∀a o,a≠D1→s.heap.get? a=some o→a∉Ls→h₄.get? a=some o∧a∉F₀.en.locals::Ls:=fun a o n e m=>⟨k₄ _ _ (k₃ a o n e),fun q=>by
   rcases List.mem_cons.mp q with q|q
   ·have:=F₀.outL
    rw[show s.heap.get? F₀.en.locals=some o from q▸e]at this;cases this
   ·exact m q⟩
  have nD:D1∉F₀.en.locals::Ls:=fun q=>by
   rcases List.mem_cons.mp q with q|q
   ·exact(off D1 List.mem_cons_self).1 q
   ·exact dj q
  have D₄:Dicts Ls h₄:=D.keep fun a m o e=>k₄ _ _ (k₃ a o (fun z=>dj (z▸m)) e)
  refine wpAny_execs_cons (zHj (base:=hid (F₀.en.locals::Ls) h₄) (Ls:=Ls) rm.hand stk' G F₄ S₄ (zAf _ _) (fun a m=>zE7 m) D₄ zAq (fun t e h' tk fl up=> ?_))
  refine hE t e _ h' tk (by omega) (F.under nLs nD (let⟨t,o,e,r⟩:=il₃;⟨t,o,k₄ _ _ e,r⟩)) (fun a o n e=> ?_) (fun a m=>zE7 (List.mem_cons_of_mem _ m)) fl (Up.trans (h':=h₄) (fun a m o e=>⟨o.slots,k₄ _ _ (k₃ a o (fun z=>dj (z▸m)) e)⟩) up)
  have:=nLs a o n (zAf _ _ _ _ e) (zAh e)
  exact zAb this.1 this.2
end
end P42
section W5
open PySem.Calls
noncomputable def fmtX:PySem.Str:=PySem.Str.ofString "expected %d bytes in a string1, but only %d remain"
noncomputable def fmtT:PySem.Str:=PySem.Str.ofString "expected 5 bytes in a string1, but only 2 remain"
theorem fmt_eq:fmtX=⟨#[101,120,112,101,99,116,101,100,32,37,100,32,98,121,116,101,115,32,105,110,32,97,32,115,116,114,105,110,103,49,44,32,98,117,116,32,111,110,108,121,32,37,100,32,114,101,109,97,105,110]⟩:=by decide+kernel
theorem fmt_ex (t t1 t2:Tok) (b:Addr):∃T:PySem.Str,T=fmtT∧Meets (Builtin.«str.__mod__» ⟨[.str ⟨#[101,120,112,101,99,116,101,100,32,37,100,32,98,121,116,101,115,32,105,110,32,97,32,115,116,114,105,110,103,49,44,32,98,117,116,32,111,110,108,121,32,37,100,32,114,101,109,97,105,110]⟩ t, .ref b],[]⟩) (fun _ R s=>IsTup s.heap b #[.int 5 t1, .int 2 t2]∧∀t' k,R (.ok (.ret (.str T t'))) {s with toks:=k}):=by
 refine Exists.intro ?T (And.intro ?e ?m)
 case m=>kpt_run
 case e=>decide+kernel
section
variable {prog:Program} {w:World} {A:Around} {E:Value→Shared→Prop} {s:Shared} {t t1 t2:Tok} {b:Addr}
theorem fmt_mod {Q:Value→Shared→Prop} (ht:IsTup s.heap b #[.int 5 t1, .int 2 t2]) (h:∀t' k,Q (.str fmtT t') {s with toks:=k}):wpAny (model prog w) A (binaryOp .Mod (.str fmtX t) (.ref b)) Q E s:=by
 obtain⟨T,e,hm⟩:=fmt_ex t t1 t2 b
 subst e
 rw[fmt_eq]
 have hT:s.TypeIs (.ref b) "tuple":=by
  obtain⟨o,ho,hc,_⟩:=ht
  exact⟨o,ho,hc⟩
 exact KPt.bin_left (T:="str") (U:="tuple") (op:= .Mod) (by decide) (typeIs_str s _ t) hT F.fills_str_mod KPt.fills_tuple F.slot_str_mod
  (call_meets F.slot_str_mod (typeIs_str s _ t) F.entry_str_mod (F.args_str_mod_2 _ _) hm ⟨ht,fun t' k=>⟨(fun e=>nomatch e),h t' k⟩⟩)
end
end W5
section P43
section
variable {w:World} {A:Around} {X M O O' Ls:List Addr} {h h':Heap} {g g₀:Heap} {env:Env} {Γ:List (Str×Bd)} {outer:List Env} {s:Shared} {E:Value→Shared→Prop}
theorem zEr {f:Str} {np pos:Pos} {e:Expr} {b:Array UInt8} {t:Tok} (hf:EvV PR w A h (eval (.Name f np) env) (.builtin "len")) (ha:EvV PR w A h (eval e env) (.bytes b t)) (hs:b.size≤1099511627776)
 (he:autoParam (starEach [e] env=(false,eval e env)::starEach [] env) aR):Ev PR w A X h (eval (.Call (.Name f np) [e] [] pos) env) (.int b.size):=by
 intro s Q E k kx hQ
 refine wpAny_Call_ofName (hf s _ _ k fun h₁ tk₁ k₁=> ?_)
 show wpAny _ _ (callWith pos (.builtin "len") [] (backTo pos (starEach [e] env)) []) _ _ _
 rw[he]
 refine Calls.callWith_builtin rfl (Calls.evalArgs_plain (Calls.spliced_cons (ha _ _ _ (k.trans k₁) fun h₂ tk₂ k₂=>Calls.spliced_nil ?_)))
 exact len_bytes (s:=(sat s h₂ tk₂)) hs (hQ _ h₂ _ (k₁.trans k₂) (Rd.int _ _))
theorem zN7 {Q:Value→Shared→Prop} {f:Str} {np pos:Pos} {e:Expr} {a:Addr} {u:Value} (S:Stat (hd.heap_1 w.params) s.heap) (G:GEnv env) (hn:nsIn (hd.heap_1 w.params) mainGlobals f=some (some (.ref a))) (hk:keepIn (hd.heap_1 w.params) (.ref a)=true)
 (ha:EvV PR w A s.heap (eval e env) u) (h:∀h' tk,Ext s.heap h'→wpAny (model PR w) A (call (.ref a) [u]) Q E (sat s h' tk))
 (hx:autoParam (env.kindOf f=some .globalImplicit) aR) (hdb:autoParam ((f==("__debug__":Str))=false) aD)
 (he:autoParam (starEach [e] env=(false,eval e env)::starEach [] env) aR):wpAny (model PR w) A (eval (.Call (.Name f np) [e] [] pos) env) Q E s:=by
 refine wpAny_Call_ofName ((zAj S G hn hx hdb).run Ext.rfl fun h₁ tk₁ k₁=> ?_)
 have S₁:=S.mono k₁
 refine callWith_K (K:=hd.heap_1 w.params) (h₀:=h₁) S₁.k hk ?_ he rfl
 refine wpAny_items_cons (EvV.run ha k₁ fun h₂ tk₂ k₂=>wpAny_items_nil ⟨(S₁.mono k₂).k,?_⟩) he
 exact h h₂ tk₂ (k₁.trans k₂)
theorem n_ru:nsIn (hd.heap_1 w.params) mainGlobals "read_uint1"=some (some (.ref 263)):=by k_is
theorem k_ru:keepIn (hd.heap_1 w.params) (.ref 263)=true:=by k_is
theorem n_rs:nsIn (hd.heap_1 w.params) mainGlobals "read_string1"=some (some (.ref 270)):=by k_is
theorem k_rs:keepIn (hd.heap_1 w.params) (.ref 270)=true:=by k_is
theorem ev_fmt {l r:Expr} {pos:Pos} (hl:Ev PR w A X h (eval l env) (.str fmtX)) (hr:Ev PR w A X h (eval r env) (.tuple [.int 5, .int 2])):Ev PR w A X h (eval (.BinOp l .Mod r pos) env) (.str fmtT):=by
 refine zCd hl hr fun s u v Q E kx ru rv hQ=> ?_
 obtain⟨t,rfl⟩:=ru.str_inv
 obtain⟨T,vs,rfl,it,rs⟩:=rv.tuple_inv
 obtain⟨l⟩:=vs
 cases rs with
 |cons a rs=>
  cases rs with
  |cons b rs=>
   cases rs
   obtain⟨t1,rfl⟩:=a.int_inv
   obtain⟨t2,rfl⟩:=b.int_inv
   exact fmt_mod (IsTuple.le it) fun t' k=>hQ _ s.heap k Ext.rfl (Rd.str _ _)
noncomputable def msg1:Str:="not enough data in stream to read uint1"
theorem zMl {Q:Value→Shared→Prop} {fa dd fr cr D1:Addr} {b:Array UInt8} {p n:Nat} (S:Stat (hd.heap_1 w.params) (hid (D1::Ls) s.heap)) (rm:Room A 7) (stk:Stk A outer Ls) (D:Dicts Ls s.heap) (F:FileAt (hid Ls s.heap) fa dd fr cr D1 b p) (sm:b.size≤16777216)
 (hn:n=(b.toList.getD p 0).toNat) (hbad:p<b.size→b.size<p+1+n→n=5∧b.size=p+3)
 (hQ:∀t h' tk,p<b.size→p+1+n≤b.size→FileAt (hid Ls h') fa dd fr cr D1 b (p+1+n)→(∀a o,a≠D1→s.heap.get? a=some o→h'.get? a=some o)→Q (.str (latin ((b.toList.drop (p+1)).take n)) t) (sat s h' tk))
 (hE:∀m q t e g' h' tk,((b.size≤p∧m=msg1∧q=p+1)∨(p<b.size∧b.size<p+1+n∧m=fmtT∧q=p+1+n))→FileAt g' fa dd fr cr D1 b q→(∀a o,a≠D1→(hid Ls s.heap).get? a=some o→g'.get? a=some o)→(∀a∈Ls,g'.get? a=none)→Flies outer g' e (.type "ValueError") [.str m t] h'→Up Ls s.heap h'→E (.ref e) (sat s h' tk)):
 wpAny (model PR w) A (call (.ref 270) [.ref fa]) Q E s:=by
 have Sg:Stat (hd.heap_1 w.params) s.heap:=S.mono (zAf _ _)
 have Ff:FileAt s.heap fa dd fr cr D1 b p:=F.keep (zAf _ _)
 have alD:∃o,(hid Ls s.heap).get? D1=some o:=let⟨_,o,e,_⟩:=F.pl;⟨o,e⟩
 have dj:D1∉Ls:=fun m=>let⟨o,e⟩:=alD;zAh e m
 have kx:XOk ([D1]++Ls) s.heap:=fun a m=>by
  rcases List.mem_append.mp m with m|m
  ·obtain⟨o,e⟩:=alD
   exact⟨o,(List.mem_singleton.mp m)▸zAf _ _ _ _ e⟩
  ·obtain⟨o,_,_,e,_⟩:=D a m
   exact⟨o,e⟩
 refine' zBc (X:=[D1]++Ls) (n:=6) [("f", .v (.ref fa))] Sg ?ho ?hcd rm kx ?hb (show(["f"]:List Str).Nodup by decide) ?kind ?_ ?hco ?hgen ?hk
 case ho=>k_is
 case hcd=>k_is
 case kind=>rfl
 case hco=>rfl
 case hgen=>rfl
 case hk=>rfl
 case hb=>exact zA1 rfl (.cons rfl .nil)
 intro L h₁ tk F₀ G
 have F₁:Fn (hid [D1] s.heap) ([D1]++Ls) ([D1]++[]) h₁ F₀.en _:=F₀.lend (O:=[D1]) fun b m=>List.mem_append_left _ m
 have off:Off [D1] F₀.en:=by
  intro a m
  obtain rfl:=List.mem_singleton.mp m
  obtain⟨_,o,e,_,_,ed⟩:=Ff.pl
  constructor
  ·intro z
   have:=F₀.outL
   rw[show s.heap.get? F₀.en.locals=some o from z▸e]at this;cases this
  ·intro x hx
   obtain⟨v,o',ho,hd⟩:=F₀.is.cell x _ hx
   rw[F₀.kg _ _ e]at ho;cases ho
   rw[ed]at hd;cases hd
 have stk':=stk.deeper (env:=F₀.en) (L:=F₀.en.locals) rfl rfl
 have nL:∀a o,s.heap.get? a=some o→a∉Ls→a∉F₀.en.locals::Ls:=fun a o e m q=>by
  rcases List.mem_cons.mp q with q|q
  ·have:=F₀.outL
   rw[show s.heap.get? F₀.en.locals=some o from q▸e]at this;cases this
  ·exact m q
 have nD:D1∉F₀.en.locals::Ls:=fun q=>by
  rcases List.mem_cons.mp q with q|q
  ·exact(off D1 List.mem_cons_self).1 q
  ·exact dj q
 have Shd:Stat (hd.heap_1 w.params) (hid [D1] s.heap):=S.mono fun a o e=>zAb (zAf _ _ _ _ e) fun m=>zAh e ((List.mem_singleton.mp m)▸List.mem_cons_self)
 refine wpAny_execs_cons (zB1 (zN7 (s:={heap:=h₁,gens:=_,drawn:=_,toks:=_,os:=_}) (Sg.mono F₀.kg) G n_ru k_ru (nmV_ F₁.is) fun h₂ tk₂ k₂=> ?_))
 have F₂:=F₁.ext k₂
 have k02:∀a o,a≠D1→s.heap.get? a=some o→h₂.get? a=some o:=fun a o n e=>F₂.kg _ _ (zAb e fun m=>n (List.mem_singleton.mp m))
 have k02':Ext s.heap h₂:=F₀.kg.trans k₂
 have f₂:FileAt (hid (F₀.en.locals::Ls) h₂) fa dd fr cr D1 b p:=F.under (fun a o _ e m=>⟨k02' _ _ e,nL a o e m⟩) nD (let⟨t,o,e,r⟩:=F.pl;⟨t,o,k02' _ _ (zAf _ _ _ _ e),r⟩)
 have S₂:Stat (hd.heap_1 w.params) (hid (D1::F₀.en.locals::Ls) h₂):=S.mono fun a o e=>zAb (k02' _ _ (zAf _ _ _ _ e)) fun m=>by
  rcases List.mem_cons.mp m with m|m
  ·exact zAh e (m▸List.mem_cons_self)
  ·exact nL a o (zAf _ _ _ _ e) (fun q=>zAh e (List.mem_cons_of_mem _ q)) m
 have D₂:Dicts (F₀.en.locals::Ls) h₂:=(D.ext k02').cons F₂.is.ns
 refine zQh (s:={heap:=h₂,gens:=_,drawn:=_,toks:=_,os:=_}) (Ls:=F₀.en.locals::Ls) (outer:=F₀.en::outer) S₂ (rm.deeper _) stk' D₂ f₂ sm (fun t h₃ tk₃ hp f₃ k₃=> ?_) (fun t e g' h₃ tk₃ hp f₃ k₃ none₃ fl up=> ?_)
 ·rw[←hn]
  have kk₃:∀a o,a≠D1→h₂.get? a=some o→h₃.get? a=some o:=k₃
  have mv₃:=F₂.moved2 (O:=[D1]) off List.mem_cons_self kk₃ (let⟨_,o,e,_⟩:=f₃.pl;⟨o,zAf _ _ _ _ e⟩)
  refine zAn (b:= .d (.int n)) mv₃.1 stL (Rd.int _ _) fun h₄ tk₄ F₄ R₄=> ?_
  have il₄:∃t,h₄.IsList D1 #[.int ((p+1:Nat):Int) t]:=let⟨t,o,e,r⟩:=f₃.pl;⟨t,o,off.keep List.mem_cons_self R₄ (fun m=>nomatch m) _ (zAf _ _ _ _ e),r⟩
  walk_at "sh"
  refine wpAny_execs_cons (wpAny_Assert_new rm.hand ((zDq (X:=[D1]++Ls) (nm_ F₄.is) (zAo (i:=0)) zOh:EvB PR w _ _ h₄ (isTrue _ _ (eval _ F₀.en)) _) _ _ _ Ext.rfl F₄.kx fun h₅ tk₅ k₅=> ?_))
  rw[if_pos (by simp)]
  have F₅:=F₄.ext k₅
  have ks₅:∀a o,a≠D1→s.heap.get? a=some o→h₅.get? a=some o:=fun a o n e=>F₅.kg _ _ (zAb e fun m=>n (List.mem_singleton.mp m))
  have f₅:FileAt h₅ fa dd fr cr D1 b (p+1):=(F.under (Ms:=F₀.en.locals::Ls) (fun a o n e m=>⟨ks₅ a o n e,nL a o e m⟩) nD (let⟨t,o,e,r⟩:=il₄;⟨t,o,k₅ _ _ e,r⟩)).keep (zAf _ _)
  have S₅:Stat (hd.heap_1 w.params) (hid [D1] h₅):=Shd.mono fun a o e=>zAb (F₅.kg _ _ e) (zAh e)
  walk_at "sh"
  refine wpAny_execs_cons (zB1 (zLj (s:={heap:=h₅,gens:=_,drawn:=_,toks:=_,os:=_}) (n:=n) S₅ ((rm.deeper _).le (by omega)) f₅ sm F₅.kx (nmV_ F₅.is) (nm_ F₅.is) fun t' h₆ tk₆ f₆ k₆=> ?_))
  have mv₆:=F₅.moved2 (O:=[D1]) off List.mem_cons_self k₆ (let⟨_,o,e,_⟩:=f₆.pl;⟨o,e⟩)
  have hsz:((b.toList.drop (p+1)).take n).toArray.size=min n (b.size - (p+1)):=by simp
  have hn256:n<256:=by rw[hn];exact UInt8.toNat_lt _
  generalize hdat:((b.toList.drop (p+1)).take n).toArray=dat at *
  refine zAn (b:= .v (.bytes dat t')) mv₆.1 stL rfl fun h₇ tk₇ F₇ R₇=> ?_
  have ks₇:∀a o,a≠D1→s.heap.get? a=some o→h₇.get? a=some o:=fun a o n e=>F₇.kg _ _ (zAb e fun m=>n (List.mem_singleton.mp m))
  have il₇:∃t,h₇.IsList D1 #[.int ((p+1+n:Nat):Int) t]:=let⟨t,o,e,r⟩:=f₆.pl;⟨t,o,off.keep List.mem_cons_self R₇ (fun m=>nomatch m) _ e,r⟩
  have S₇:Stat (hd.heap_1 w.params) h₇:=Shd.mono F₇.kg
  walk_at "sh"
  refine wpAny_execs_cons (wpAny_If ((zDq (X:=[D1]++Ls) (zEr (zAe S₇ G zGv zGx) (nmV_ F₇.is) (by omega)) (nm_ F₇.is) zH9:EvB PR w _ _ h₇ (isTrue _ _ (eval _ F₀.en)) _) _ _ _ Ext.rfl F₇.kx fun h₈ tk₈ k₈=> ?_))
  have F₈:=F₇.ext k₈
  by_cases hp2:p+1+n≤b.size
  ·rw[if_pos (by rw[hsz,Nat.min_eq_left (by omega)];simp)]
   refine wpAny_execs_cons (wpAny_Return_some (Call_method1 (by first|rfl|with_unfolding_all rfl) (by first|rfl|with_unfolding_all rfl) (by first|rfl|with_unfolding_all rfl) (EvV.run (nmV_ F₈.is) Ext.rfl fun h₉ tk₉ k₉=> ?_)))
   unfold MethodOnS
   refine⟨"bytes","bytes.decode",FB.plainAttrs_bytes,FB.slot_bytes_decode,FB.type_bytes_decode,typeIs_bytes _ _ _,(fun _ e=>nomatch e),?_⟩
   refine Calls.callWith_builtin rfl (Calls.evalArgs_plain (Calls.spliced_cons (Ev.run (X:=[D1]++Ls) (zAq (i:="latin-1")) k₉ (F₈.kx.ext k₉) fun v h₁₀ tk₁₀ k₁₀ r₁₀=>Calls.spliced_nil ?_)))
   obtain⟨tv,rfl⟩:=r₁₀.str_inv
   refine zIy (by omega) fun t'' k=> ?_
   subst hdat
   have kk:=k₈.trans (k₉.trans k₁₀)
   exact hQ t'' h₁₀ k hp hp2 (F.under (fun a o n e m=>⟨kk _ _ (ks₇ a o n e),m⟩) dj (let⟨t,o,e,r⟩:=il₇;⟨t,o,kk _ _ e,r⟩)) fun a o n e=>kk _ _ (ks₇ a o n e)
  ·rw[if_neg (by rw[hsz,Nat.min_eq_right (by omega)];simp;omega)]
   have hb:=hbad hp (by omega)
   refine wpAny_execs_nil ?_
   walk_at "sh"
   have S₈:Stat (hd.heap_1 w.params) h₈:=Shd.mono F₈.kg
   have D₈:Dicts Ls h₈:=D.keep fun a m o e=>k₈ _ _ (ks₇ a o (fun z=>dj (z▸m)) e)
   have hd2:dat.size=2:=by rw[hsz,Nat.min_eq_right (by omega)];omega
   refine wpAny_execs_cons (zHj (base:=hid (F₀.en.locals::Ls) h₈) (Ls:=Ls) rm.hand stk' G F₈ S₈ (zAf _ _) (fun a m=>zE7 m) D₈ (d:=fmtT) (ev_fmt zAq (zBr (zAc ?_ (zAc ?_ zAg)))) (fun t e h' tk fl up=> ?_))
   ·rw[show(PyData.int 5)= .int (n:Int) by rw[hb.1];rfl]
    exact nm_ F₈.is
   ·rw[show(PyData.int 2)= .int (dat.size:Int) by rw[hd2];rfl]
    exact zEr (zAe S₈ G zGv zGx) (nmV_ F₈.is) (by omega)
   ·refine hE fmtT (p+1+n) t e _ h' tk (.inr ⟨hp,by omega,rfl,rfl⟩) (F.under (fun a o n e m=>⟨k₈ _ _ (ks₇ a o n e),nL a o e m⟩) nD (let⟨t,o,e,r⟩:=il₇;⟨t,o,k₈ _ _ e,r⟩)) (fun a o n e=>zAb (k₈ _ _ (ks₇ a o n (zAf _ _ _ _ e))) (nL a o (zAf _ _ _ _ e) (zAh e))) (fun a m=>zE7 (List.mem_cons_of_mem _ m)) fl (Up.trans (h':=h₈) (fun a m o e=>⟨o.slots,k₈ _ _ (ks₇ a o (fun z=>dj (z▸m)) e)⟩) up)
 ·refine zNv (s:={heap:=h₃,gens:=_,drawn:=_,toks:=_,os:=_}) stk' (D₂.up up) fl fun h₄ fl₄ up₄=> ?_
  refine hE msg1 (p+1) t e g' h₄ tk₃ (.inl ⟨hp,rfl,rfl⟩) f₃ (fun a o n e=>k₃ a o n (zAb (k02' _ _ (zAf _ _ _ _ e)) (nL a o (zAf _ _ _ _ e) (zAh e)))) (fun a m=>none₃ a (List.mem_cons_of_mem _ m)) fl₄ ?_
  exact Up.trans (h':=h₂) (Up.of_ext k02') (Up.trans (h':=h₃) (up.le fun a m=>List.mem_cons_of_mem _ m) (up₄.le fun a m=>List.mem_cons_of_mem _ m))
end
end P43
section M41
open PySem.Calls
section
variable {prog:Program} {w:World} {h h' h₀:Heap} {A:Around} {X M O O' Ls:List Addr} {g base:Heap} {env:Env} {Γ Γ':List (Str×Bd)} {outer:List Env} {s:Shared} {E:Value→Shared→Prop} {Q:Flow→Shared→Prop}
theorem fn_goes {MM:Model} {n:Str} {pos:Pos} {Qu:Unit→Shared→Prop} (F:Fn g X M s.heap env Γ) (hl:env.kindOf n=some .local) (sub:∀x b,Γ'.lookup x=some b→x≠n∧Γ.lookup x=some b)
 (hQ:∀h' tk,Fn g X M h' env Γ'→Rel [] env s.heap h'→Qu () (sat s h' tk)):wpAny MM A (do bindName env n .none;unbindBehindTheSuite env n pos) Qu E s:=by
 obtain⟨m,nn⟩:=F.is.ns
 refine wpAny_nameGoes_keeps hl nn (by rw[F.is.fn];rfl) fun h₂ v hn' sb=> ?_
 have R:Rel [] env s.heap h₂:=fun b o _ n _ e=>sb.extBut b o n e
 have cL:∀{c:Addr} {u:Option Value},s.heap.IsCell c u→c≠env.locals:=fun{c u} ⟨o,ho,hd⟩ z=>by
  obtain⟨o',es,ep,ho',hd',_⟩:=nn
  rw[z,ho']at ho;cases ho
  rw[hd']at hd;cases hd
 have kc:∀{c:Addr} {u:Option Value},s.heap.IsCell c u→h₂.IsCell c u:=fun q=>let⟨o,ho,hd⟩:=q;⟨o,sb.extBut _ o (cL q) ho,hd⟩
 have S:=R.hid F.is (X:=X) zAp
 refine hQ h₂ _ ⟨⟨F.is.fn,⟨_,hn'⟩,fun x c e=>let⟨u,q⟩:=F.is.cell x c e;⟨u,kc q⟩,F.is.inj,fun x b e=> ?_⟩,R.ext F zAp,F.outL,F.outC,F.outM,F.sub,?_⟩ R
 ·obtain⟨ne,e'⟩:=sub x b e
  obtain⟨u,su,ru⟩:=F.is.see x b e'
  refine⟨u,?_,ru.mono S⟩
  rcases su with⟨q,m',n',em⟩|⟨q,c,ec,hc⟩
  ·rw[Ns_unique n' nn]at em
   exact .inl ⟨q,_,hn',by rw[if_neg ne];exact em⟩
  ·exact .inr ⟨q,c,ec,kc hc⟩
 ·intro b m'
  obtain⟨o,e⟩:=F.kx b m'
  by_cases z:b=env.locals
  ·obtain⟨o',_,_,ho',_⟩:=hn'
   exact⟨o',z▸ho'⟩
  ·exact⟨o,sb.extBut b o z e⟩
theorem zHd {x:Str} {px apos cpos epos:Pos} {e:Expr} {D:Addr} {ys:Array Value} (F:Fn g X M s.heap env Γ) (hx:Γ.lookup x=some (.v (.ref D))) (pl:s.heap.PlainList D ys)
 (a:∀h₁ tk₁,Ext s.heap h₁→wpAny (model prog w) A (eval e env) (fun v s₂=>∃zs,s₂.heap.PlainList D zs∧zs.size≤sizeLine∧∀h₃,h₃.PlainList D (zs.push v)→(∀b o,b≠D→s₂.heap.get? b=some o→h₃.get? b=some o)→Q .next {s₂ with heap:=h₃}) E (sat s h₁ tk₁))
 (hd1:autoParam ((x==("__debug__":Str))=false) aD) (hd2:autoParam ((x==("__classdict__":Str))=false) aD)
 (hi:autoParam (interactive env=false) aR) (hs:autoParam (swapsWith (.Call (.Attribute (.Name x px) "append" apos) [e] [] cpos) none epos.line env=pure false) aR)
 (hbase:autoParam (attributeBase (.Name x px) "append" env (eval (.Name x px) env)=eval (.Name x px) env) aR) (hst:autoParam (starEach [e] env=[(false,eval e env)]) aR) (hline:autoParam ((apos.endLine==cpos.line)=true) aR):
 wpAny (model prog w) A (exec (.Expr (.Call (.Attribute (.Name x px) "append" apos) [e] [] cpos) epos) env) Q E s:=by
 refine wpAny_Expr ?_ hi hs
 refine wpAny_Call_append hbase (by rw[hst];rfl) hline (by rw[hst];rfl) ?_
 refine zAm (prog:=prog) (w:=w) (A:=A) F.is hx hd1 hd2 s _ _ Ext.rfl fun h₁ tk₁ k₁=> ?_
 have pl₁:h₁.PlainList D ys:=pl.at fun o e=>k₁ _ _ e
 refine⟨D,ys,rfl,?_,?_⟩
 ·obtain⟨n,e⟩:=pl₁
  exact⟨_,n,e,rfl,rfl,rfl⟩
 ·refine wpAny_mono (a h₁ tk₁ k₁) (fun v s₂ q=> ?_) fun _ _ e=>e
  obtain⟨zs,pl₂,hz,q⟩:=q
  exact wpAny_list_append_plain (hsz:=hz) pl₂ fun h₃ pl₃ sb=>q h₃ pl₃ fun b o n e=>sb.extBut b o n e
theorem zIw {f:Str} {np pos:Pos} {a:Expr} {e t0:Addr} {m:Str} {t:Tok} (hf:EvV prog w A h (eval (.Name f np) env) (.type "str")) (ha:EvV prog w A h (eval a env) (.ref e)) (hu:A.units+2<cLine) (x:h.ExcAt e "ValueError" (.ref t0)) (ht:h.TupAt t0 [.str m t])
 (he:autoParam (starEach [a] env=(false,eval a env)::starEach [] env) aR):Ev prog w A X h (eval (.Call (.Name f np) [a] [] pos) env) (.str m):=by
 intro s Q E k kx hQ
 refine wpAny_Call_ofName (hf s _ _ k fun h₁ tk₁ k₁=> ?_)
 refine callWith_type1 (wpAny_items_cons (ha _ _ _ (k.trans k₁) fun h₂ tk₂ k₂=>wpAny_items_nil ?_) he) he rfl
 have kk:=(k.trans k₁).trans k₂
 refine P.str_of_exc_one PySem.F.excStr_ValueError hu (let⟨o,vs,e1,r⟩:=x;⟨o,vs,kk _ _ e1,r⟩) (ht.keeps kk) ?_
 exact hQ _ _ _ (k₁.trans k₂) (Rd.str _ _)
theorem zKu {e:Addr} {args:List Value} {np hpos:Pos} {n:Str} {b₀:Stmt} {suite:List Stmt} {rest:List ExceptHandler} (S:Stk A (env::outer) (env.locals::Ls)) (F:Fn g (O++X) (O++M) h₀ env Γ) (off:Off O env) (lm:∀b∈Ls,b∈M) (nL:env.locals∉Ls)
 (D:Dicts (env.locals::Ls) h₀) (up:Up (env.locals::Ls) h₀ s.heap) (hx:Flies (env::outer) base e (.type "ValueError") args s.heap)
 (kb:∀a o,a∉O→(hid (env.locals::Ls) h₀).get? a=some o→base.get? a=some o) (al:∀b∈O,∃o,base.get? b=some o) (hl:env.kindOf n=some .local)
 (hn:∀h',Ext g h'→EvV prog w (A.mark (some (.ref e))) h' (eval (.Name "ValueError" np) env) (.type "ValueError"))
 (k:∀h' tk t E',Fn g (O++X) (O++M) h' env ((n, .v (.ref e))::Γ)→Rel (O++M) env h₀ h'→(∀b∈O,∀o,base.get? b=some o→h'.get? b=some o)→h'.ExcAt e "ValueError" (.ref t)→h'.TupAt t args→Up Ls h₀ h'→
  wpAny (model prog w) (A.mark (some (.ref e))) (execs (b₀::suite) env) (fun f s₄=>∃X' M' Γ₁ Γ',Fn g X' M' s₄.heap env Γ₁∧(∀x b,Γ'.lookup x=some b→x≠n∧Γ₁.lookup x=some b)∧
   ∀h₅ tk₅,Fn g X' M' h₅ env Γ'→Rel [] env s₄.heap h₅→Q f (sat s₄ h₅ tk₅)) E' (sat s h' tk)):
 wpAny (model prog w) A (noteFrame (.ref e) env) (fun _ s₂=>wpAny (model prog w) A (setFlight (.ref e) none) (fun _ s₃=>wpAny (model prog w) A (handleBy (.ref e) env (.ExceptHandler (some (.Name "ValueError" np)) (some n) (b₀::suite) hpos::rest)) Q E s₃) E s₂) E s:=by
 have gb:Ext g base:=fun b o e=>by
  refine kb b o (fun m=> ?_) (zAb (F.kg b o e) fun m=> ?_)
  ·rw[F.outM b (List.mem_append_left _ m)]at e;cases e
  ·rcases List.mem_cons.mp m with m|m
   ·rw[m,F.outL]at e;cases e
   ·rw[F.outM b (List.mem_append_right _ (lm b m))]at e;cases e
 refine zPu S (D.up up) hx (fun h' kb' _=>hn h' (gb.trans kb')) fun h₄ tk₄ t E' kb₄ up₄ ne nt hex htu=> ?_
 have up04:=up.trans up₄
 have mv:=F.moved (O':=O) (Ls:=env.locals::Ls) off D (fun b o n1 n2 e=>kb₄ b o (kb b o n1 (zAb e n2))) up04 (fun b m=>(List.mem_cons.mp m).imp id (lm b)) (fun b m=> .inl m) (fun b m=>m) (fun b m=>let⟨o,q⟩:=al b m;⟨o,kb₄ b o q⟩)
 refine zAn (s:=(sat s h₄ tk₄)) mv.1 (.inl hl) (b:= .v (.ref e)) rfl fun h₅ tk₅ F₅ R₅=> ?_
 have nn:∀(b:Addr),b∉([]:List Addr):=fun _ m=>nomatch m
 have F₄:=mv.1
 have keep:∀{b:Addr} {o:Obj},h₄.get? b=some o→(∀es n,o.data≠ .dict es n)→(∀v,o.data≠ .cell v)→h₅.get? b=some o:=fun{b o} eb hd1 hd2=>by
  refine R₅ b o (nn b) (fun z=> ?_) (fun x _ z=> ?_) eb
  ·obtain⟨m,o',es,ep,ho',hd',_⟩:=F₄.is.ns
   rw[z,ho']at eb;cases eb
   exact hd1 _ _ hd'
  ·obtain⟨v,o',ho',hd'⟩:=F₄.is.cell x b z
   rw[ho']at eb;cases eb
   exact hd2 _ hd'
 have hex₅:h₅.ExcAt e "ValueError" (.ref t):=by
  obtain⟨o,vs,e1,e2,e3,e4⟩:=hex
  exact⟨o,vs,keep e1 (by rw[e3];exact fun _ _ z=>nomatch z) (by rw[e3];exact fun _ z=>nomatch z),e2,e3,e4⟩
 have htu₅:h₅.TupAt t args:=by
  obtain⟨o,k,e1,e2,e3⟩:=htu
  exact⟨o,k,keep e1 (by rw[e3];exact fun _ _ z=>nomatch z) (by rw[e3];exact fun _ z=>nomatch z),e2,e3⟩
 refine wpAny_mono (k h₅ tk₅ t _ F₅ (mv.2.1.trans (R₅.le (fun b m=>nomatch m))) (fun b m o q=>off.keep m R₅ (nn b) o (kb₄ b o q)) hex₅ htu₅ fun b m o q=> ?_) (fun f s₅ q=> ?_) fun _ _ e=>e
 ·obtain⟨sl,q₄⟩:=up04 b (List.mem_cons_of_mem _ m) o q
  refine⟨sl,R₅ b _ (nn b) (fun z=>nL (z▸m)) (fun x _ z=> ?_) q₄⟩
  obtain⟨v,o',ho',hd'⟩:=F₄.is.cell x b z
  rw[ho']at q₄;cases q₄
  obtain⟨o'',es,ep,d1,d2⟩:=D b (List.mem_cons_of_mem _ m)
  rw[q]at d1;cases d1
  rw[d2]at hd';cases hd'
 ·obtain⟨X',M',Γ₁,Γ',F₆,sub,q⟩:=q
  exact fn_goes F₆ hl sub q
end
end M41
section P44
section
variable {w:World} {A:Around} {X M O O' Ls Y:List Addr} {h h':Heap} {g g₀:Heap} {env:Env} {Γ:List (Str×Bd)} {outer:List Env} {s:Shared} {E:Value→Shared→Prop}
structure Tp (h:Heap) (env:Env) (fa dd fr cr:Addr):Prop where
 fn:∃fd sl,h.get? fa=some ⟨.type "function",some dd, .func fd,sl⟩
 nm:∃m,h.Ns dd m∧m "read"=some (.ref fr)
 rd:∃qual cl,ReadFn h fr cr qual cl∧h.CodeRec (.ref cr) qual∧
  (∃c,cl.lookup ("octets":Str)=some c)∧(∃c,cl.lookup ("place":Str)=some c)∧(∀n c,cl.lookup n=some c→env.cells.lookup n=some c)
theorem Tp.keep {fa dd fr cr:Addr} (T:Tp h env fa dd fr cr) (k:∀x∈[fa,dd,fr,cr],∀o,h.get? x=some o→h'.get? x=some o):Tp h' env fa dd fr cr:=by
 obtain⟨⟨fd,sl,e1⟩,⟨m,⟨od,es,ep,e2,e3,e4⟩,e5⟩,⟨qual,cl,e6,⟨cc,o,vs,tt,r1,r2,r3⟩,r4⟩⟩:=T
 cases r1
 exact⟨⟨fd,sl,k _ (by simp) _ e1⟩,⟨m,⟨od,es,ep,k _ (by simp) _ e2,e3,e4⟩,e5⟩,⟨qual,cl,e6.of (k _ (by simp)),⟨_,o,vs,tt,rfl,k _ (by simp) _ r2,r3⟩,r4⟩⟩
theorem Tp.file {fa dd fr cr D1:Addr} {b:Array UInt8} {t:Tok} {p:Nat} (T:Tp h env fa dd fr cr) (I:EnvIs X h env Γ) (no:∀x∈[fa,dd,fr,cr,D1],x∉Y) (D:Dicts Y h) (n1:Γ.lookup ("octets":Str)=some (.v (.bytes b t))) (n2:Γ.lookup ("place":Str)=some (.v (.ref D1)))
 (k1:env.kindOf "octets"≠some .local) (k2:env.kindOf "place"≠some .local) (pl:∃t,h.IsList D1 #[.int p t]):FileAt (hid Y h) fa dd fr cr D1 b p:=by
 obtain⟨⟨fd,sl,e1⟩,⟨m,⟨od,es,ep,e2,e3,e4⟩,e5⟩,⟨qual,cl,e6,⟨cc,o,vs,tt,r1,r2,r3⟩,⟨c,r4⟩,⟨c',r5⟩,r6⟩⟩:=T
 cases r1
 have hc:∀{c:Addr} {v:Option Value},h.IsCell c v→(hid Y h).IsCell c v:=fun{c v} q=>by
  obtain⟨o,ho,hd⟩:=q
  refine⟨o,zAb ho fun m=> ?_,hd⟩
  obtain⟨o',es,n,e,hd'⟩:=D _ m
  rw[ho]at e;cases e
  rw[hd]at hd';cases hd'
 obtain⟨u1,s1,q1⟩:=I.see _ _ n1
 obtain⟨u2,s2,q2⟩:=I.see _ _ n2
 cases q1
 cases q2
 have g1:h.IsCell c (some (.bytes b t)):=by
  rcases s1 with⟨z,_⟩|⟨_,c₀,ec,hc⟩
  ·exact absurd z k1
  ·rw[r6 _ _ r4]at ec;cases ec;exact hc
 have g2:h.IsCell c' (some (.ref D1)):=by
  rcases s2 with⟨z,_⟩|⟨_,c₀,ec,hc⟩
  ·exact absurd z k2
  ·rw[r6 _ _ r5]at ec;cases ec;exact hc
 refine⟨⟨fd,sl,zAb e1 (no _ (by simp))⟩,⟨m,⟨od,es,ep,zAb e2 (no _ (by simp)),e3,e4⟩,e5⟩,⟨qual,cl,e6.of fun _ e=>zAb e (no _ (by simp)),⟨_,o,vs,tt,rfl,zAb r2 (no _ (by simp)),r3⟩,⟨t,c,r4,hc g1⟩,⟨c',r5,hc g2⟩,fun n c e=> ?_,fun n n' c e e'=>I.inj _ _ _ (r6 _ _ e) (r6 _ _ e')⟩,?_⟩
 ·obtain⟨v,q⟩:=I.cell n c (r6 _ _ e)
  exact⟨v,hc q⟩
 ·obtain⟨t,o,e,r⟩:=pl
  exact⟨t,o,zAb e (no _ (by simp)),r⟩
noncomputable def byteAt (b:Array UInt8) (p:Nat):Nat:=(b.toList.getD p 0).toNat
noncomputable def readStep (b:Array UInt8) (x:Nat×List PyData):Nat×List PyData:=
 if b.size≤x.1 then(x.1+1,x.2++[.list [.str msg1]])
 else if b.size<x.1+1+byteAt b x.1 then(x.1+1+byteAt b x.1,x.2++[.list [.str fmtT]])
 else(x.1+1+byteAt b x.1,x.2++[.str (latin ((b.toList.drop (x.1+1)).take (byteAt b x.1)))])
theorem zNs {Q:Flow→Shared→Prop} {fa dd fr cr D1 D2:Addr} {b:Array UInt8} {t:Tok} {p:Nat} {told:List PyData} {p1 p2 p3 p4 p5 p6 p7 p8 p9 q1 q2 q3 q4 q5 q6 q7 q8:Pos}
 (Sg:Stat (hd.heap_1 w.params) g) (rm:Room A 7) (stk:Stk A (env::outer) (env.locals::Ls)) (G:GEnv env) (F:Fn g (O++Ls) (O++Ls) s.heap env Γ) (off:Off O env) (nL:env.locals∉Ls) (D:Dicts Ls s.heap) (dj:∀x∈O,x∉Ls)
 (mm:∀x∈[fa,dd,fr,cr,D1],x∈O) (m2:D2∈O) (n12:D2≠D1) (T:Tp s.heap env fa dd fr cr) (il:∃t,s.heap.IsList D1 #[.int p t]) (ol:OwnList (O++Ls) s.heap D2 told) (few:told.length≤1000) (sm:b.size≤16777216)
 (hbad:p<b.size→b.size<p+1+byteAt b p→byteAt b p=5∧b.size=p+3)
 (h1:Γ.lookup ("told":Str)=some (.v (.ref D2))) (h2:Γ.lookup ("file":Str)=some (.v (.ref fa))) (h3:Γ.lookup ("octets":Str)=some (.v (.bytes b t))) (h4:Γ.lookup ("place":Str)=some (.v (.ref D1))) (h5:Γ.lookup ("error":Str)=none)
 (hQ:∀h' tk,Fn g (O++Ls) (O++Ls) h' env Γ→(∀x∈O,x≠D1→x≠D2→∀o,s.heap.get? x=some o→h'.get? x=some o)→(∃t,h'.IsList D1 #[.int (readStep b (p,told)).1 t])→OwnList (O++Ls) h' D2 (readStep b (p,told)).2→Rel (O++Ls) env s.heap h'→Up Ls s.heap h'→Q .next (sat s h' tk))
 (k1:autoParam (env.kindOf "octets"=some .cell) aR) (k2:autoParam (env.kindOf "place"=some .cell) aR) (hl:autoParam (env.kindOf "error"=some .local) aR)
 (hv:autoParam (env.kindOf "ValueError"=some .globalImplicit) aR) (hr:autoParam (env.kindOf "read_string1"=some .globalImplicit) aR) (hst:autoParam (env.kindOf "str"=some .globalImplicit) aR)
 (hi:autoParam (interactive env=false) aR)
 (hs1:autoParam (swapsWith (.Call (.Attribute (.Name "told" p1) "append" p2) [.Call (.Name "read_string1" p3) [.Name "file" p4] [] p5] [] p6) none p7.line env=pure false) aR)
 (hb1:autoParam (attributeBase (.Name "told" p1) "append" env (eval (.Name "told" p1) env)=eval (.Name "told" p1) env) aR) (hl1:autoParam ((p2.endLine==p6.line)=true) aR)
 (ht1:autoParam (starEach [.Call (.Name "read_string1" p3) [.Name "file" p4] [] p5] env=[(false,eval (.Call (.Name "read_string1" p3) [.Name "file" p4] [] p5) env)]) aR)
 (ht2:autoParam (starEach [.Name "file" p4] env=(false,eval (.Name "file" p4) env)::starEach [] env) aR)
 (hs2:autoParam (swapsWith (.Call (.Attribute (.Name "told" q1) "append" q2) [.List [.Call (.Name "str" q3) [.Name "error" q4] [] q5] q6] [] q7) none q8.line env=pure false) aR)
 (hb2:autoParam (attributeBase (.Name "told" q1) "append" env (eval (.Name "told" q1) env)=eval (.Name "told" q1) env) aR) (hl2:autoParam ((q2.endLine==q7.line)=true) aR)
 (ht3:autoParam (starEach [.List [.Call (.Name "str" q3) [.Name "error" q4] [] q5] q6] env=[(false,eval (.List [.Call (.Name "str" q3) [.Name "error" q4] [] q5] q6) env)]) aR)
 (ht4:autoParam (starEach [.Call (.Name "str" q3) [.Name "error" q4] [] q5] env=(false,eval (.Call (.Name "str" q3) [.Name "error" q4] [] q5) env)::starEach [] env) aR)
 (ht5:autoParam (starEach [.Name "error" q4] env=(false,eval (.Name "error" q4) env)::starEach [] env) aR):
 wpAny (model PR w) A (exec (.Try [.Expr (.Call (.Attribute (.Name "told" p1) "append" p2) [.Call (.Name "read_string1" p3) [.Name "file" p4] [] p5] [] p6) p7]
  [.ExceptHandler (some (.Name "ValueError" p8)) (some "error") [.Expr (.Call (.Attribute (.Name "told" q1) "append" q2) [.List [.Call (.Name "str" q3) [.Name "error" q4] [] q5] q6] [] q7) q8] p9] [] [] q9) env) Q E s:=by
 have mD1:D1∈O:=mm D1 (by simp)
 obtain⟨ys,pl,rs⟩:=ol
 have leny:ys.size=told.length:=by simpa using rs.length
 refine wpAny_Try_except ?_
 refine wpAny_execs_cons ?_
 refine zHd (D:=D2) F h1 pl (fun h₁ tk₁ k₁=> ?_) (by decide) (by decide) hi hs1 hb1 ht1 hl1
 have F₁:=F.ext k₁
 refine zN7 (s:=(sat s h₁ tk₁)) (Sg.mono F₁.kg) G n_rs k_rs (zAm F₁.is h2) (fun h₂ tk₂ k₂=> ?_) hr (by decide) ht2
 have F₂:=F₁.ext k₂
 have k02:Ext s.heap h₂:=k₁.trans k₂
 have D₂:Dicts (env.locals::Ls) h₂:=(D.ext k02).cons F₂.is.ns
 have nY:∀x∈O,x∉env.locals::Ls:=fun x m q=>(List.mem_cons.mp q).elim (off x m).1 (dj x m)
 have T₂:Tp h₂ env fa dd fr cr:=T.keep fun x _ o e=>k02 x o e
 have il₂:∃t,h₂.IsList D1 #[.int p t]:=let⟨t,o,e,r⟩:=il;⟨t,o,k02 _ _ e,r⟩
 have file₂:=T₂.file F₂.is (fun x m=>nY x (mm x m)) D₂ h3 h4 (by rw[k1];decide) (by rw[k2];decide) il₂
 have S₂:Stat (hd.heap_1 w.params) (hid (D1::env.locals::Ls) h₂):=Sg.mono fun b o e=>zAb (F₂.kg b o e) fun m=>by
  rcases List.mem_cons.mp m with m|m
  ·rw[m,F.outM _ (List.mem_append_left _ mD1)]at e;cases e
  rcases List.mem_cons.mp m with m|m
  ·rw[m,F.outL]at e;cases e
  ·rw[F.outM _ (List.mem_append_right _ m)]at e;cases e
 have pl₂:h₂.PlainList D2 ys:=let⟨n,e⟩:=pl;⟨n,k02 _ _ e⟩
 refine zMl (s:=(sat s h₂ tk₂)) (Ls:=env.locals::Ls) (outer:=env::outer) S₂ rm stk D₂ file₂ sm (n:=byteAt b p) rfl hbad (fun t' h₃ tk₃ hp hp2 f₃ k₃=> ?_) (fun m q t' e g' h₃ tk₃ hm f₃ k₃ none₃ fl up₃=> ?_)
 ·have kk₃:∀a o,a≠D1→h₂.get? a=some o→h₃.get? a=some o:=k₃
  have al₃:∃o,h₃.get? D1=some o:=let⟨_,o,e,_⟩:=f₃.pl;⟨o,zAf _ _ _ _ e⟩
  have mv₃:=F₂.moved2 off mD1 kk₃ al₃
  have pl₃:h₃.PlainList D2 ys:=let⟨n,e⟩:=pl₂;⟨n,kk₃ _ _ n12 e⟩
  refine⟨ys,pl₃,by rw[leny];unfold sizeLine;omega,fun h₄ pl₄ sb₄=> ?_⟩
  have al₄:∃o,h₄.get? D2=some o:=let⟨n,e⟩:=pl₄;⟨_,e⟩
  have mv₄:=mv₃.1.moved2 off m2 sb₄ al₄
  have R₄:Rel (O++Ls) env s.heap h₄:=k02.rel.trans (mv₃.2.trans mv₄.2)
  have k04:∀x o,x≠D1→x≠D2→s.heap.get? x=some o→h₄.get? x=some o:=fun x o n1 n2 e=>sb₄ x o n2 (kk₃ x o n1 (k02 x o e))
  have st:readStep b (p,told)=(p+1+byteAt b p,told++[.str (latin ((b.toList.drop (p+1)).take (byteAt b p)))]):=by
   unfold readStep
   dsimp only
   rw[if_neg (by omega),if_neg (by omega)]
  walk_at "sh"
  refine wpAny_execs_nil ?_
  walk_at "sh"
  refine wpAny_execs_nil (hQ h₄ tk₃ mv₄.1 (fun x _ n1 n2 o e=>k04 x o n1 n2 e) ?_ ?_ R₄ fun x m o e=>⟨o.slots,k04 x o (fun z=>dj _ mD1 (z▸m)) (fun z=>dj _ m2 (z▸m)) e⟩)
  ·rw[st]
   obtain⟨t,o,e,r⟩:=f₃.pl
   exact⟨t,o,sb₄ _ _ (Ne.symm n12) (zAf _ _ _ _ e),r⟩
  ·rw[st]
   have sx:SExt (hid (O++Ls) s.heap) (hid (O++Ls) h₄):=R₄.hid F.is F.sub
   refine⟨_,pl₄,?_⟩
   simp only[Array.toList_push]
   exact(rs.mono sx).append (.cons (Rd.str _ _) .nil)
 ·have kk₃:∀a o,a≠D1→(hid (env.locals::Ls) h₂).get? a=some o→g'.get? a=some o:=k₃
  refine zKu (s:=(sat s h₃ tk₃)) stk F₂ off (fun x m=>m) nL D₂ up₃ fl (fun x o n e=>kk₃ x o (fun z=>n (z▸mD1)) e) (fun x m=> ?_) hl (fun h' k=>zAe (Sg.mono k) G zCi zCh (by decide) hv) fun h₄ tk₄ t4 E' F₄ R₄ kO₄ hex htu up₄=> ?_
  ·by_cases z:x=D1
   ·obtain⟨_,o,e,_⟩:=f₃.pl
    exact⟨o,z▸e⟩
   ·obtain⟨o,e⟩:=F₂.kx x (List.mem_append_left _ m)
    exact⟨o,kk₃ x o z (zAb e (nY x m))⟩
  ·have kO:∀x∈O,x≠D1→∀o,s.heap.get? x=some o→h₄.get? x=some o:=fun x m n o e=>kO₄ x m o (kk₃ x o n (zAb (k02 x o e) (nY x m)))
   have ol₄:OwnList (O++Ls) h₄ D2 told:=⟨ys,let⟨n,e⟩:=pl;⟨n,kO _ m2 n12 _ e⟩,rs.mono ((k02.rel.trans R₄).hid F.is F.sub)⟩
   have S₄:Stat (hd.heap_1 w.params) h₄:=Sg.mono F₄.kg
   refine wpAny_execs_cons (zD0 F₄ (x:="told") (by rw[List.lookup_cons];exact h1) (List.mem_append_left _ m2) ol₄ (zAr (zAc (zIw (zAe S₄ G n_str b_str (by decide) hst) (zAm F₄.is (x:="error") (by simp)) (by have:=rm.units;show A.units+2<_;omega) hex htu ht5) zAg ht4)) (by unfold sizeLine;omega) (fun h₅ tk₅ F₅ R₅ ol₅=> ?_) (by decide) (by decide) hi hs2 hb2 ht3 hl2)
   walk_at "sh"
   refine wpAny_execs_nil ⟨_,_,_,Γ,F₅,fun x b e=> ?_,fun h₆ tk₆ F₆ R₆=> ?_⟩
   ·have ne:x≠"error":=fun z=>by rw[z,h5]at e;cases e
    refine⟨ne,?_⟩
    rw[List.lookup_cons,beq_false_of_ne ne]
    exact e
   ·have nn:∀(x:Addr),x∉([]:List Addr):=fun _ m=>nomatch m
    have k46:∀x∈O,x≠D2→∀o,h₄.get? x=some o→h₆.get? x=some o:=fun x m n o e=>off.keep m R₆ (nn x) o (off.keep m R₅ (by simpa using n) o e)
    have st:readStep b (p,told)=(q,told++[.list [.str m]]):=by
     unfold readStep
     dsimp only
     rcases hm with⟨a,rfl,rfl⟩|⟨a1,a2,rfl,rfl⟩
     ·rw[if_pos a]
     ·rw[if_neg (by omega),if_pos a2]
    refine hQ h₆ tk₆ F₆ (fun x mx n1 n2 o e=>k46 x mx n2 o (kO x mx n1 o e)) ?_ ?_ (((k02.rel.trans R₄).trans (R₅.le fun x mx=>by simp at mx;exact mx▸List.mem_append_left _ m2)).trans (R₆.le fun _ mx=>nomatch mx)) ?_
    ·rw[st]
     obtain⟨t,o,e,r⟩:=f₃.pl
     exact⟨t,o,k46 _ mD1 (Ne.symm n12) _ (kO₄ _ mD1 _ e),r⟩
    ·rw[st]
     exact ol₅.keep F₅.is R₆ (fun m=>nomatch m) (fun _ m=>nomatch m)
    ·intro x mx o ex
     obtain⟨sl,e₄⟩:=up₄ x mx o (k02 x o ex)
     have nx:x≠env.locals:=fun z=>nL (z▸mx)
     have nc:∀n,env.cells.lookup n≠some x:=fun n z=>by
      obtain⟨v,o',ho,hd'⟩:=F₄.is.cell n x z
      rw[e₄]at ho;cases ho
      obtain⟨o'',es,ep,d1,d2⟩:=D x mx
      rw[ex]at d1;cases d1
      rw[d2]at hd';cases hd'
     exact⟨sl,R₆ x _ (nn x) nx (fun n _=>nc n) (R₅ x _ (fun m=>dj _ m2 (by simp at m;exact m▸mx)) nx (fun n _=>nc n) e₄)⟩
end
end P44
section P45
theorem sbA {x a b c d e f g:Addr} (m:x∈[a,b,c,d]):x∈f::g::[a,b,c,d,e]:= .tail _ (.tail _ (List.mem_append_left [e] m))
theorem sbB {x a b c d e f g:Addr} (m:x∈[c,d]):x∈f::g::[a,b,c,d,e]:= .tail _ (.tail _ (.tail _ (.tail _ (List.mem_append_left [e] m))))
theorem sbC {x a l d r c q p t:Addr} (m:x∈[l,d,r,c,t]):x∈d::[l,a,r,c,q,p,t]:=by
 simp only[List.mem_cons,List.not_mem_nil,or_false]at m⊢
 rcases m with h|h|h|h|h<;>simp[h]
theorem sbD {x a l d r c q p t:Addr} (m:x∈[l,d,r,c,p]):x∈d::[l,a,r,c,q,p,t]:=by
 simp only[List.mem_cons,List.not_mem_nil,or_false]at m⊢
 rcases m with h|h|h|h|h<;>simp[h]
theorem sbE {x l d r c t:Addr} (m:x∈[l,d,r,c]):x∈[l,d,r,c,t]:=List.mem_append_left [t] m
theorem zA8 {h:Heap} {x:Addr} {o:Obj} {P:Prop} (e:h.get? x=none) (e':h.get? x=some o):P:=by rw[e]at e';cases e'
section
variable {w:World} {A:Around} {X M O O' Ls:List Addr} {h h':Heap} {g g₀:Heap} {env:Env} {Γ:List (Str×Bd)} {outer:List Env} {s:Shared} {E:Value→Shared→Prop}
noncomputable def readIter (b:Array UInt8):Nat→Nat×List PyData
 |0=>(0,[])
 |n+1=>readStep b (readIter b n)
theorem zEu (b:Array UInt8):∀n,(readIter b n).2.length=n
 |0=>rfl
 |n+1=>by
  have:=zEu b n
  simp only[readIter,readStep]
  split
  ·simp[this]
  ·split<;>simp[this]
noncomputable abbrev rG (fl fr D2 D1:Addr) (b:Array UInt8) (t₁:Tok) (n:Nat) (t₂:Tok):List (Str×Bd):=[("file", .v (.ref fl)),("read", .v (.ref fr)),("told", .v (.ref D2)),("place", .v (.ref D1)),("octets", .v (.bytes b t₁)),("many", .v (.int n t₂))]
theorem read_is {Q:Value→Shared→Prop} {b:Array UInt8} {t₁ t₂:Tok} {n:Nat} (sm:b.size≤16777216) (hn:n≤1000) (hbad:∀i<n,(readIter b i).1<b.size→b.size<(readIter b i).1+1+byteAt b (readIter b i).1→byteAt b (readIter b i).1=5∧b.size=(readIter b i).1+3)
 (S:Stat (hd.heap_1 w.params) (hid (282::Ls) s.heap)) (rm:Room A 8) (stk:Stk A outer Ls) (D:Dicts Ls s.heap) (hT:s.heap.get? 282=some (tabObj #[])) (Mk:Mak (hid (282::Ls) s.heap))
 (hQ:∀v h' tk,Rd (hid (282::Ls) h') (.list (readIter b n).2) v→(∀x o,x≠282→x∉Ls→s.heap.get? x=some o→h'.get? x=some o)→Up Ls s.heap h'→(∃ps,h'.get? 282=some (tabObj ps))→Q v (sat s h' tk)):
 wpAny (model PR w) A (call (.ref 287) [.bytes b t₁, .int n t₂]) Q E s:=by
 have Sg:Stat (hd.heap_1 w.params) s.heap:=S.mono (zAf _ _)
 have kx:XOk (282::Ls) s.heap:=fun b m=>(List.mem_cons.mp m).elim (fun e=>⟨_,e▸hT⟩) fun m=>let⟨o,_,_,e,_⟩:=D b m;⟨o,e⟩
 refine' zBc (X:=282::Ls) (n:=7) [("octets", .v (.bytes b t₁)),("many", .v (.int n t₂))] Sg ?ho ?hcd rm kx ?hb (show(["octets","many"]:List Str).Nodup by decide) ?kind ?_ ?hco ?hgen ?hk
 case ho=>k_is
 case hcd=>k_is
 case kind=>rfl
 case hco=>rfl
 case hgen=>rfl
 case hk=>rfl
 case hb=>exact zA1 rfl (.cons rfl (.cons rfl .nil))
 intro L h₁ tk F₀ G
 have F:=F₀.lend (O:=282::Ls) fun _ m=>m
 have off0:Off [282] F.en:=by
  intro b m
  obtain rfl:=List.mem_singleton.mp m
  constructor
  ·intro z
   have:=F₀.outL
   rw[show s.heap.get? F.en.locals=some _ from z▸hT]at this;cases this
  ·intro n hn
   obtain⟨u,o',ho,hd⟩:=F₀.is.cell n _ hn
   rw[F₀.kg _ _ hT]at ho;cases ho
   cases hd
 have F':Fn (hid (282::Ls) s.heap) ([282]++Ls) ([282]++Ls) h₁ F.en _:=F
 walk_at "sh"
 with_reducible refine zAa (zQj (O:=[282]) (rm.deeper _).hand F' off0 ?_ ?_ fun D1 D2 h₂ tk₂ n1 n2 ne off₂ l1 l2 F₂ R₂=> ?_)
 ·exact stC
 ·exact stL
 have nn:∀(b:Addr),b∉([]:List Addr):=fun _ m=>nomatch m
 have T₁:=F₀.kg _ _ hT
 have T₂:=off₂.keep (by simp) R₂ (nn _) _ T₁
 have S₂:=S.mono F₂.kg
 have M₂:=Mk.mono F₂.kg
 walk_at "sh"
 refine zAa (st_def (O:=[D2,D1,282]) (c:=286) (ps:= #[]) F₂ off₂ (by simp) ?_ (codeHd_of_K S₂.k zOy) T₂ ?_ ?_ M₂ ?_ ?_ (zAv ?_) ?_ ?_ ?_ fun fr cr pm ctv doc h₃ tk₃ nfr ncr nrc off₃ er rr T₃ F₃ R₃=> ?_)
 ·exact stL
 ·trivial
 ·rfl
 ·rfl
 ·rfl
 ·rfl
 ·rfl
 ·rfl
 ·rfl
 have S₃:=S.mono F₃.kg
 have M₃:=Mk.mono F₃.kg
 walk_at "sh"
 refine zAa (zM6 (O:=[fr,cr,D2,D1,282]) (c:=286) F₃ off₃ (by simp) ?_ (codeHd_of_K S₃.k zOy) T₃ ?_ ?_ M₃ ?_ ?_ (zAv ?_) ?_ fun fl cl pm₂ ctv₂ h₄ tk₄ nfl ncl nlc off₄ el rl T₄ F₄ R₄=> ?_)
 ·exact stL
 ·exact trivial
 ·rfl
 ·rfl
 ·rfl
 ·rfl
 ·rfl
 walk_at "sh"
 have S₄:=S.mono F₄.kg
 walk_at "sh"
 refine zAa (zIa (EvV.run (nmV_ F₄.is) Ext.rfl fun h₅ tk₅ k₅=>EvV.run (nmV_ F₄.is) k₅ fun h₆ tk₆ k₆=> ?_))
 have kk:=k₅.trans k₆
 refine zPl (h:=h₆) (o:=kla_obj _ _ _ _ _ _ _ _ _) (kk _ _ el) rfl rfl rfl fun h₇ m₇ tk₇ ef₇ ns₇ em₇ k₇=> ?_
 have frd:h₆.get? h₆.objs.size=none:=Heap.get?_none_of_le (Nat.le_refl _)
 generalize h₆.objs.size=dd at frd ef₇ ns₇ k₇
 have F₆:=F₄.ext kk
 have mv:=F₆.moved (O':=dd::[fl,cl,fr,cr,D2,D1,282]) (Ls:=[]) off₄ Dicts.nil (fun b o n _ e=>k₇ b o (fun z=>n (z▸List.mem_cons_self)) e) (fun _ m=>nomatch m) (fun _ m=>nomatch m)
  (fun b m=>by
   rcases List.mem_cons.mp m with rfl|m
   ·exact .inr frd
   ·exact .inl m) (fun b m=>List.mem_cons_of_mem _ m) (fun b m=>by
   rcases List.mem_cons.mp m with rfl|m
   ·obtain⟨o,_,_,e,_⟩:=ns₇
    exact⟨o,e⟩
   ·by_cases z:b=fl
    ·exact⟨_,z▸ef₇⟩
    ·obtain⟨o,e⟩:=F₆.kx b (List.mem_append_left _ m)
     exact⟨o,k₇ b o z e⟩)
 have F₇:=mv.1
 have stk':=stk.deeper (env:=F.en) (L:=F.en.locals) rfl rfl
 have offL:Off Ls F.en:=Off.dicts F₀ D (D.ext F₀.kg)
 have nL:F.en.locals∉Ls:=fun m=>(offL _ m).1 rfl
 have x1:D1≠282:=fun z=>by rw[z,T₁]at n1;cases n1
 have x2:D2≠282:=fun z=>by rw[z,T₁]at n2;cases n2
 have x3:fr≠282:=fun z=>by rw[z,T₂]at nfr;cases nfr
 have x4:cr≠282:=fun z=>by rw[z,T₂]at ncr;cases ncr
 have x5:fl≠282:=fun z=>by rw[z,T₃]at nfl;cases nfl
 have k37:∀x∈[fr,cr,D2,D1],x≠282→∀o,h₃.get? x=some o→h₇.get? x=some o:=fun x m n o e=>by
  have mx:x∈fl::cl::[fr,cr,D2,D1,282]:=sbA m
  exact k₇ x o (fun z=>by rw[z,nfl]at e;cases e) (kk x o (R₄ x o n (off₄ x mx).1 (off₄ x mx).2 e))
 have k23:∀x∈[D2,D1],x≠282→∀o,h₂.get? x=some o→h₃.get? x=some o:=fun x m n o e=>by
  have mx:x∈fl::cl::[fr,cr,D2,D1,282]:=sbB m
  exact R₃ x o n (off₄ x mx).1 (off₄ x mx).2 e
 have il₇:∃t,h₇.IsList D1 #[.int ((readIter b 0).1:Nat) t]:=by
  obtain⟨t,m,e⟩:=l1
  exact⟨t,_,k37 D1 (by simp) x1 _ (k23 D1 (by simp) x1 _ e),rfl,m,rfl⟩
 have ol₇:OwnList ((dd::[fl,cl,fr,cr,D2,D1,282])++Ls) h₇ D2 (readIter b 0).2:=by
  obtain⟨m,e⟩:=l2
  exact⟨_,⟨m,k37 D2 (by simp) x2 _ (k23 D2 (by simp) x2 _ e)⟩, .nil⟩
 have T₇:Tp h₇ F.en fl dd fr cr:=by
  refine⟨⟨_,_,ef₇⟩,⟨_,ns₇,em₇⟩,⟨_,_,⟨k37 fr (by simp) x3 _ er⟩,?_,⟨_,rfl⟩,⟨_,rfl⟩,?_⟩⟩
  ·obtain⟨c,o,vs,t,e1,e2,r⟩:=rr
   cases e1
   exact⟨_,o,vs,t,rfl,k37 cr (by simp) x4 _ e2,r⟩
  ·intro n c e
   refine(zA4 _ _ ?_ n c e).elim (fun e=>nomatch e) id
   rfl
 have t282:∃ps,h₇.get? 282=some (tabObj ps):=⟨_,k₇ _ _ (Ne.symm x5) (kk _ _ T₄)⟩
 have x282:∀x∈Ls,x≠282:=fun x m z=>by
  obtain⟨o,es,k,e,hd'⟩:=D x m
  rw[z,hT]at e;cases e
  cases hd'
 have up₇:Up Ls s.heap h₇:=fun x m o e=>by
  have a1:=F₀.kg x o e
  have a2:=R₂ x o (nn x) (offL x m).1 (fun n _=>(offL x m).2 n) a1
  have a3:=R₃ x o (x282 x m) (offL x m).1 (offL x m).2 a2
  have a4:=R₄ x o (x282 x m) (offL x m).1 (offL x m).2 a3
  exact⟨o.slots,k₇ x o (fun z=>by rw[z,nfl]at a3;cases a3) (kk x o a4)⟩
 have S₇:=S.mono F₇.kg
 have djO:∀x∈dd::[fl,cl,fr,cr,D2,D1,282],x∉Ls:=fun x m q=>by
  obtain⟨o,es,k,e,hd'⟩:=D x q
  have a1:=F₀.kg x o e
  have a2:=R₂ x o (nn x) (offL x q).1 (fun n _=>(offL x q).2 n) a1
  have a3:=R₃ x o (x282 x q) (offL x q).1 (offL x q).2 a2
  have a6:=kk x o (R₄ x o (x282 x q) (offL x q).1 (offL x q).2 a3)
  simp only[List.mem_cons,List.not_mem_nil,or_false]at m
  rcases m with m|m|m|m|m|m|m|m
  ·exact zA8 (m▸frd) a6
  ·exact zA8 (m▸nfl) a3
  ·exact zA8 (m▸ncl) a3
  ·exact zA8 (m▸nfr) a2
  ·exact zA8 (m▸ncr) a2
  ·exact zA8 (m▸n2) a1
  ·exact zA8 (m▸n1) a1
  ·exact x282 _ q m
 have off₇:Off (dd::[fl,cl,fr,cr,D2,D1,282]) F.en:=off₄.goes F₆ fun x m=>by
  rcases List.mem_cons.mp m with rfl|m
  ·exact .inr frd
  ·exact .inl m
 have dn:∀x∈[fl,dd,fr,cr,282],x≠D1∧x≠D2:=by
  obtain⟨_,_,g1⟩:=l1
  obtain⟨_,g2⟩:=l2
  have g1':=k23 D1 (by simp) x1 _ g1
  have g2':=k23 D2 (by simp) x2 _ g2
  have g1'':=kk _ _ (R₄ D1 _ x1 (off₄ D1 (by simp)).1 (off₄ D1 (by simp)).2 g1')
  have g2'':=kk _ _ (R₄ D2 _ x2 (off₄ D2 (by simp)).1 (off₄ D2 (by simp)).2 g2')
  intro x m
  simp only[List.mem_cons,List.not_mem_nil,or_false]at m
  rcases m with m|m|m|m|m
  ·exact⟨fun z=>zA8 ((m.symm.trans z)▸nfl) g1',fun z=>zA8 ((m.symm.trans z)▸nfl) g2'⟩
  ·exact⟨fun z=>zA8 ((m.symm.trans z)▸frd) g1'',fun z=>zA8 ((m.symm.trans z)▸frd) g2''⟩
  ·exact⟨fun z=>zA8 ((m.symm.trans z)▸nfr) g1,fun z=>zA8 ((m.symm.trans z)▸nfr) g2⟩
  ·exact⟨fun z=>zA8 ((m.symm.trans z)▸ncr) g1,fun z=>zA8 ((m.symm.trans z)▸ncr) g2⟩
  ·exact⟨fun z=>x1 (z.symm.trans m),fun z=>x2 (z.symm.trans m)⟩
 walk_at "sh"
 refine zAa (zNy (O₀:=dd::[fl,cl,fr,cr,D2,D1,282]) (X:=Ls) (M:=Ls) (ds:=upto n) PassesOwn.leaving (zC8 (rm.deeper _).hand (zAe S₇ G zGk zF4) (EvV.d (nmV_ F₇.is) (Rd.int _ _)) (by omega))
  (fun _=>rG fl fr D2 D1 b t₁ n t₂)
  (fun i O h=>O=dd::[fl,cl,fr,cr,D2,D1,282]∧(∀x∈[fl,dd,fr,cr,282],∀o,h₇.get? x=some o→h.get? x=some o)∧(∃t,h.IsList D1 #[.int ((readIter b i).1:Nat) t])∧OwnList ((dd::[fl,cl,fr,cr,D2,D1,282])++Ls) h D2 (readIter b i).2∧Up Ls s.heap h) F₇ ?_ stL ?_ ?_ ?_ ?_)
 ·intro h' k
  exact⟨rfl,fun x _ o e=>k _ _ e,let⟨t,o,e,r⟩:=il₇;⟨t,o,k _ _ e,r⟩,ol₇.ext k,up₇.trans (Up.of_ext k)⟩
 ·rintro i O h h' it F' ⟨rfl,ja,jb,jc,jd⟩ hit hil p
  refine⟨rfl,fun x m o e=>p.keep _ _ (fun z=>hit (z▸ ?_)) (ja x m o e),?_,jc.poke p,fun x m o e=>let⟨sl,e'⟩:=jd x m o e;⟨sl,p.keep x _ (fun z=>hil (z▸m)) e'⟩⟩
  ·exact sbC m
  ·obtain⟨t,o,e,r⟩:=jb
   exact⟨t,o,p.keep _ _ (fun z=>hit (z▸by simp)) e,r⟩
 ·rintro i O h h' F' ⟨rfl,ja,jb,jc,jd⟩ R
  refine⟨rfl,fun x m o e=>off₇.keep ?_ R (nn x) o (ja x m o e),?_,jc.keep F'.is R (nn _) (fun _ m=>nomatch m),fun x m o e=>let⟨sl,e'⟩:=jd x m o e;⟨sl,offL.keep m R (nn x) _ e'⟩⟩
  ·exact sbC m
  ·obtain⟨t,o,e,r⟩:=jb
   exact⟨t,o,off₇.keep (by simp) R (nn _) o e,r⟩
 ·intro i d O s' es hdi Fa jj
  refine opqQ fun T5 hT5=> ?_
  obtain⟨h',tk',rfl⟩:=es
  obtain⟨rfl,ja,jb,jc,jd⟩:=jj
  have hi:i<n:=by
   have:=(List.getElem?_eq_some_iff.mp hdi).1
   simpa[upto]using this
  refine wpAny_execs_cons (zNs (s:={heap:=h',gens:=_,drawn:=_,toks:=tk',os:=_}) (Γ:=("turn", .d d)::rG fl fr D2 D1 b t₁ n t₂) (D1:=D1) (D2:=D2) (fa:=fl) (dd:=dd) (fr:=fr) (cr:=cr) (b:=b) (t:=t₁) (p:=(readIter b i).1) (told:=(readIter b i).2)
   S (rm.deeper _) stk' G Fa off₇ nL (D.up jd) djO ?_ (by simp) (Ne.symm ne) (T₇.keep fun x m o e=>ja x ?_ o e) jb jc (by rw[zEu];omega) sm (hbad i hi) rfl rfl rfl rfl rfl fun h₈ tk₈ F₈ k₈ i₈ o₈ R₈ u₈=> ?_)
  ·exact fun x m=>sbD m
  ·exact sbE m
  ·walk_at "sh"
   refine wpAny_execs_nil (hT5 _ _ ⟨h₈,tk₈,rfl,⟨_,F₈.pick ⟨rfl,rfl,rfl,rfl,rfl,rfl,trivial⟩,⟨rfl,fun x m o e=>k₈ x ?_ ?_ ?_ o (ja x m o e),i₈,o₈,jd.trans u₈⟩,fun x m=> .inl m⟩,R₈⟩)
   ·exact sbC m
   ·exact(dn x m).1
   ·exact(dn x m).2
 ·rintro O h' tk' F' ⟨rfl,ja,jb,jc,jd⟩ R'
  have hlen:(upto n).length=n:=by simp[upto]
  rw[hlen]at jc jb
  refine wpAny_execs_nil ?_
  walk_at "sh"
  refine wpAny_execs_cons (wpAny_Return_some (EvV.run (nmV_ F'.is) Ext.rfl fun h₈ tk₈ k₈=> ?_))
  obtain⟨ys,⟨kk',e'⟩,rs⟩:=jc
  have d2:D2∉282::Ls:=fun m=>(List.mem_cons.mp m).elim x2 (djO D2 (by simp))
  refine hQ _ h₈ tk₈ (Rd.list (vs:=ys) ⟨_,zAb (k₈ _ _ e') d2,rfl,kk',rfl⟩ (rs.mono fun x o e _=>zAb (k₈ _ _ (zAf _ _ _ _ e)) fun m=>zAh e ?_)) (fun x o n1 n2 e=>k₈ _ _ (F'.kg x o (zAb e fun m=>(List.mem_cons.mp m).elim n1 n2))) (jd.trans (Up.of_ext k₈)) ?_
  ·rcases List.mem_cons.mp m with rfl|m
   ·simp
   ·exact List.mem_append_right _ m
  ·obtain⟨ps,e⟩:=t282
   exact⟨ps,k₈ _ _ (ja _ (by simp) _ e)⟩
end
end P45
section M42
open PySem.Calls
section
variable {prog:Program} {w:World} {h h' h₀:Heap} {A:Around} {X M O O' Ls:List Addr} {g base:Heap} {env:Env} {Γ Γ':List (Str×Bd)} {outer:List Env} {s:Shared} {E:Value→Shared→Prop}
theorem star_rd {ds:List PyData} {v:Value} {Q:List Value→Shared→Prop} (r:Rd (hid X s.heap) (.list ds) v) (hz:ds.length≤sizeLine) (hQ:∀vs h',Ext s.heap h'→Rds (hid X h') ds vs→Q vs {s with heap:=h'}):StarOf (model prog w) A E v Q s:=by
 obtain⟨l,ys,rfl,il,rs⟩:=r.list_inv
 obtain⟨o,e,hc,n,hd⟩:=IsList.le il
 have sz:ys.size=ds.length:=by simpa using rs.length
 have hT':s.TypeIs (.ref l) "list":=⟨o,e,hc⟩
 unfold StarOf notIterableAtAll
 refine wpAny_bind (wpAny_specialOf hT' PySem.F.slot_list_iter.lookup (wpAny_pure ⟨rfl,?_⟩))
 exact wpAny_collect_seq l (.inl rfl) e hc hd (fun h' k=>hQ _ h' k (rs.mono (zAl k).s)) (by omega)
theorem zMt {MM:Model} {Qu:Unit→Shared→Prop}:∀(ns:List Str) (bs:List Bd) (vs:List Value) (Γ:List (Str×Bd)) (s:Shared),ns.length=vs.length→BdsV (hid X s.heap) bs vs→Fn g X M s.heap env Γ→(∀y∈ns,Stores env y)→
 (∀h' tk,Fn g X M h' env (pushG (ns.map fun n=>(n,default)) bs Γ)→Rel [] env s.heap h'→Qu () (sat s h' tk))→wpAny MM A (assignInOrder (ns.map fun y=>bindName env y) vs) Qu E s:=by
 intro ns
 induction ns with
 |nil=>
  intro bs vs Γ s hl r F _ hQ
  cases r with
  |nil=>exact zGb (hQ s.heap s.toks F Rel.rfl)
  |cons=>simp at hl
 |cons x ns ih=>
  intro bs vs Γ s hl r F hs hQ
  cases r with
  |nil=>simp at hl
  |cons a r=>
   refine zEt (wpAny_bindName (zAn F (hs _ List.mem_cons_self) a fun h₁ tk₁ F₁ R₁=> ?_))
   exact ih _ _ _ _ (by simpa using hl) (r.mono (R₁.hid F.is (zAp))) F₁ (fun y hy=>hs y (List.mem_cons_of_mem _ hy)) fun h' tk F' R'=>hQ h' tk F' (R₁.trans R')
theorem zQk {l:Addr} {items:Array Value} {t:Tok} {v:Value} {Q:Unit→Shared→Prop} (pl:s.heap.PlainList l items) (hn:0<items.size)
 (hQ:∀h',h'.PlainList l (items.setIfInBounds (items.size - 1) v)→(∀b o,b≠l→s.heap.get? b=some o→h'.get? b=some o)→Q () {s with heap:=h'}):
 wpAny (model prog w) A (setItem (.ref l) (.int (-1) t) v) Q E s:=by
 have hl:=pl.isList
 obtain⟨n,ho⟩:=pl
 have key:∀(k:Int),k= -1→wpAny (model prog w) A (setItem (.ref l) (.int k t) v) Q E s:=by
  intro k hk
  unfold setItem
  try with_reducible refine wpAny_holding ?_
  first|refine wpAny_bind (wpAny_pure ?_)|skip
  refine wpAny_bind (wpAny_sequenceKey hl.typeIs (by decide) ?_)
  refine wpAny_bind (wpAny_callSpecial?_slot (name:=Str.ofString "__setitem__") hl.typeIs slot_list_setitem
   (wpAny_call_entry slot_list_setitem hl.typeIs entry_list_setitem ?_ (args_list_setitem _ _ _)))
  show wpAny _ _ (Builtin.List.listSubscript? (.int k t)>>=_) _ _ s
  refine wpAny_bind (wpAny_listSubscript_int (fitsIndex_neg (by rw[hk];decide) (by rw[hk];decide)) ?_)
  obtain⟨j,rfl⟩:∃j:Nat,k=Int.negSucc j:=⟨0,hk⟩
  have hj:=hk
  have hidx:=seqIndex_neg (n:=items.size) (k:=Int.negSucc j) (by rw[hj];decide) (by rw[hj];omega)
  show wpAny _ _ ((Builtin.List.listItems (.ref l)>>=fun xs=>pure ((seqIndex? (Int.negSucc j) xs.size).bind fun i=>xs[i]?.map (i, ·)))>>=_) _ _ s
  refine wpAny_bind (wpAny_bind ?_)
  show wpAny _ _ (seqItems? (.ref l)>>=_) _ _ s
  refine wpAny_bind (wpAny_seqItems ho rfl (wpAny_pure (wpAny_pure ?_)))
  rw[hidx]
  have hi:(Int.negSucc j+(items.size:Int)).toNat=items.size - 1:=by rw[hj];exact neg1 _
  have hlt:items.size - 1<items.size:=by omega
  rw[hi]
  simp only[Option.bind_some,Array.getElem?_eq_getElem hlt,Option.map_some]
  show wpAny _ _ (setSeqItemAt l (items.size - 1) v>>=_) _ _ s
  refine wpAny_bind (wpAny_setSeqItemAt ho rfl ?_)
  have hfin:(s.heap.update l (Obj.mapSeq (·.setIfInBounds (items.size - 1) v))).PlainList l (items.setIfInBounds (items.size - 1) v):=⟨_,Heap.get?_update_self _ ho rfl⟩
  have sb:Heap.SameBut l s.heap (s.heap.update l (Obj.mapSeq (·.setIfInBounds (items.size - 1) v))):=Heap.SameBut.update ..
  first
   |exact wpAny_bind (wpAny_pure (wpAny_pure ⟨.none,rfl,wpAny_pure (hQ _ hfin fun b o n e=>sb.extBut b o n e)⟩))
   |exact wpAny_pure ⟨.none,rfl,wpAny_pure (hQ _ hfin fun b o n e=>sb.extBut b o n e)⟩
 exact key (-1) rfl
theorem zLu {x:Str} {D:Addr} {b p1 p2 p3 pos:Pos} {k:Nat} {e:Expr} {ds:List PyData} {d c:PyData} {Q:Flow→Shared→Prop} (F:Fn g X M s.heap env Γ) (hx:Γ.lookup x=some (.v (.ref D))) (hD:D∈M) (L:OwnList X s.heap D (ds++[c]))
 (he:Ev prog w A X s.heap (eval e env) d)
 (hQ:∀h' tk,Fn g X M h' env Γ→Rel [D] env s.heap h'→OwnList X h' D (ds++[d])→Q .next (sat s h' tk))
 (hd1:autoParam ((x==("__debug__":Str))=false) aD) (hd2:autoParam ((x==("__classdict__":Str))=false) aD)
 (hs:autoParam (swapsWith e (some (.Subscript (.Name x p1) (.UnaryOp .USub (.Constant (.int 1) k p2) p3) b)) pos.line env=pure false) aR):
 wpAny (model prog w) A (exec (.Assign [.Subscript (.Name x p1) (.UnaryOp .USub (.Constant (.int 1) k p2) p3) b] e pos) env) Q E s:=by
 refine wpAny_Assign_Subscript (Ev.run he Ext.rfl F.kx fun v h₁ tk₁ k₁ r₁=>EvV.run (zAm F.is hx hd1 hd2) k₁ fun h₂ tk₂ k₂=>Ev.run (zDw (i:=1) zAo) (k₁.trans k₂) (F.kx.ext (k₁.trans k₂)) fun u h₃ tk₃ k₃ r₃=> ?_) hs
 obtain⟨t,rfl⟩:=r₃.int_inv
 have k:=(k₁.trans k₂).trans k₃
 have L₃:=L.ext k
 obtain⟨ys,⟨n,pl⟩,rs⟩:=id L₃
 have sz:ys.size=ds.length+1:=by have:=rs.length;simpa using this
 have F₃:=F.ext k
 refine zQk (s:=(sat s h₃ tk₃)) ⟨n,pl⟩ (by omega) fun h₄ pl₄ sb₄=> ?_
 have ch:=F₃.change hD L₃ sb₄ (let⟨n,e⟩:=pl₄;⟨_,e⟩)
 refine hQ h₄ tk₃ ch.1 (k.rel.trans ch.2.1) ⟨_,pl₄,?_⟩
 have r₄:Rd (hid X h₄) d v:=(r₁.mono (zAl (k₂.trans k₃)).s).mono ch.2.2
 have rs₄:=(rs.mono ch.2.2).take ds.length
 rw[List.take_left' rfl]at rs₄
 have e:(ys.setIfInBounds (ys.size - 1) v).toList=ys.toList.take ds.length++[v]:=by
  rw[Array.toList_setIfInBounds,sz,Nat.add_sub_cancel]
  have hl:ys.toList.length=ds.length+1:=by simpa using sz
  rw[List.set_eq_take_append_cons_drop,if_pos (by omega),List.drop_eq_nil_of_le (by omega)]
 rw[e]
 exact rs₄.append (.cons r₄ .nil)
end
end M42
section M43
open PySem.Calls
section
variable {prog:Program} {w:World} {A:Around} {E:Value→Shared→Prop} {s:Shared} {K:Frag} {C x f:Addr} {ox:Obj} {es:List DictEntry} {n:Nat} {name:Str} {v:Value} {expr:Bool}
theorem zMv {Q:Value→Shared→Prop} (X:K.In s.heap) (I:InstAt s.heap x ox C (some (dictOf es n))) (hg:plainGet K C name=true) (hh:hasDictIn K C=true) (ha:findIn K (.ref C) name=some (some (.ref f))) (hf:isFn K (.ref f)=true)
 (hgf:specialIn K (.ref f) "__get__"=some (some (.builtin "function.__get__"))) (ht:takesIn K (.ref f)=some false) (hc:copiedNames.contains name=false) (hl:getL name es=some none)
 (h:Q (.ref s.heap.objs.size) (sat s (s.heap.push (methodObj (.ref f) (.ref x))) (s.toks+1))):wpAny (model prog w) A (getAttr (.ref x) name expr) Q E s:=
 get_bind X I (plainGet_of hg).1 (findObj_fn hh ha hgf ht hc (by show lookIn name (dictOf es n)=_;rw[lookIn_dict,hl])) (plainGet_of hg).2
  (wpAny_call (fn_get (s:={s with toks:=s.toks+1}) X (beq_iff_eq.mp hf) (handed_on rfl h)))
theorem zMm {q:Addr} {self:Value} {vs:List Value} {Q:Value→Shared→Prop} (e:s.heap.get? q=some (methodObj (.ref f) self))
 (h:codeAny (model prog w) A (.call (.ref f) ⟨self::vs,[]⟩) (fun r s'=>match r with| .ok (.ret v)=>Q v s'| .ok _=>False| .error e=>E e s') s):wpAny (model prog w) A (call (.ref q) vs) Q E s:=
 wpAny_call (method_call e h)
end
end M43
section P46
section
variable {w:World} {A:Around} {X M O O' Ls Y:List Addr} {h h':Heap} {g g₀:Heap} {env:Env} {Γ:List (Str×Bd)} {outer:List Env} {s:Shared} {E:Value→Shared→Prop}
theorem n_ts:nsIn (hd.heap_1 w.params) mainGlobals "TopologicalSorter"=some (some (.ref 252)):=by k_is
theorem k_ts:keepIn (hd.heap_1 w.params) (.ref 252)=true:=by k_is
theorem zQq:nsIn (hd.heap_1 w.params) mainGlobals "join"=some (some (.ref 115)):=by k_is
theorem zIt:nsIn (hd.heap_1 w.params) mainGlobals "dirname"=some (some (.ref 129)):=by k_is
theorem zMz:nsIn (hd.heap_1 w.params) mainGlobals "normpath"=some (some (.ref 136)):=by k_is
theorem s_ga:plainGet (hd.heap_1 w.params) 252 "add"=true:=by k_is
theorem s_fa:findIn (hd.heap_1 w.params) (.ref 252) "add"=some (some (.ref 202)):=by k_is
theorem s_ta:isFn (hd.heap_1 w.params) (.ref 202)=true:=by k_is
theorem s_sa:specialIn (hd.heap_1 w.params) (.ref 202) "__get__"=some (some (.builtin "function.__get__")):=by k_is
theorem s_xa:takesIn (hd.heap_1 w.params) (.ref 202)=some false:=by k_is
theorem s_na:fnIn (hd.heap_1 w.params) 202=true:=by k_is
theorem s_gp:plainGet (hd.heap_1 w.params) 252 "prepare"=true:=by k_is
theorem s_fp:findIn (hd.heap_1 w.params) (.ref 252) "prepare"=some (some (.ref 207)):=by k_is
theorem s_tp:isFn (hd.heap_1 w.params) (.ref 207)=true:=by k_is
theorem s_kp:keepIn (hd.heap_1 w.params) (.ref 207)=true:=by k_is
theorem s_gg:plainGet (hd.heap_1 w.params) 252 "get_ready"=true:=by k_is
theorem s_fg:findIn (hd.heap_1 w.params) (.ref 252) "get_ready"=some (some (.ref 214)):=by k_is
theorem s_tg:isFn (hd.heap_1 w.params) (.ref 214)=true:=by k_is
theorem s_kg:keepIn (hd.heap_1 w.params) (.ref 214)=true:=by k_is
theorem s_gi:plainGet (hd.heap_1 w.params) 252 "is_active"=true:=by k_is
theorem s_fi:findIn (hd.heap_1 w.params) (.ref 252) "is_active"=some (some (.ref 221)):=by k_is
theorem s_ti:isFn (hd.heap_1 w.params) (.ref 221)=true:=by k_is
theorem s_ki:keepIn (hd.heap_1 w.params) (.ref 221)=true:=by k_is
theorem s_gd:plainGet (hd.heap_1 w.params) 252 "done"=true:=by k_is
theorem s_fd:findIn (hd.heap_1 w.params) (.ref 252) "done"=some (some (.ref 235)):=by k_is
theorem s_td:isFn (hd.heap_1 w.params) (.ref 235)=true:=by k_is
theorem s_kd:keepIn (hd.heap_1 w.params) (.ref 235)=true:=by k_is
theorem zLo {Q:Flow→Shared→Prop} {x y z:Str} {es:List Expr} {d:Str} {k k2 k3:Nat} {np cp p0 p1 tp ep pos:Pos} (hh:A.handled=none) (rm:Room A 6) (S:Stat (hd.heap_1 w.params) s.heap) (G:GEnv env) (F:Fn g X X s.heap env Γ) (hx:Stores env x) (hy:Stores env y) (hz:Stores env z)
 (hQ:∀σ D h' tk,SOR w h' σ→(∀b∈σ.addrs,s.heap.get? b=none)→s.heap.get? D=none→D∉σ.addrs→σ.nodes=[]→σ.ready=none→σ.passed=0→σ.finished=0→Off (D::σ.addrs) env→h'.PlainList D #[]→
  Fn g ((D::σ.addrs)++X) ((D::σ.addrs)++X) h' env ((x, .v (.ref σ.so))::(y, .d (.str d))::(z, .v (.ref D))::Γ)→Rel [] env s.heap h'→Q .next (sat s h' tk))
 (hk:autoParam (env.kindOf "TopologicalSorter"=some .globalImplicit) aR)
 (he1:autoParam (starEach [.Call (.Name "TopologicalSorter" np) [] [] cp, .Constant (.str d) k2 p0, .List [] p1] env=[(false,eval (.Call (.Name "TopologicalSorter" np) [] [] cp) env),(false,eval (.Constant (.str d) k2 p0) env),(false,eval (.List [] p1) env)]) aR)
 (hs:autoParam (swapsWithSole [.Tuple es k tp] (.Tuple [.Call (.Name "TopologicalSorter" np) [] [] cp, .Constant (.str d) k2 p0, .List [] p1] k3 ep) pos.line env=pure false) aR)
 (hw:autoParam (swappedStores [.Tuple es k tp] (.Tuple [.Call (.Name "TopologicalSorter" np) [] [] cp, .Constant (.str d) k2 p0, .List [] p1] k3 ep) env=pure (some [x,y,z])) aR):
 wpAny (model PR w) A (exec (.Assign [.Tuple es k tp] (.Tuple [.Call (.Name "TopologicalSorter" np) [] [] cp, .Constant (.str d) k2 p0, .List [] p1] k3 ep) pos) env) Q E s:=by
 refine Assign_Tuple_swapped ?_ hs hw
 refine wpAny_Tuple_spliced ?_
 rw[he1]
 refine Calls.spliced_cons ?_
 refine wpAny_Call_ofName ((zAj S G n_ts hk).run Ext.rfl fun h₁ tk₁ k₁=> ?_)
 have S₁:=S.mono k₁
 refine callWith_K0 (K:=hd.heap_1 w.params) S₁.k k_ts ?_
 refine zMo (X:=X) (s:=(sat s h₁ tk₁)) S₁ rm (F.kx.ext k₁) fun σ h₂ tk₂ k₂ Z₂ n₂ c1 c2 c3 c4=> ?_
 refine Calls.spliced_cons (wpAny_Constant_str (k:=k2) (pos:=p0) (Calls.spliced_cons (wpAny_List (Calls.spliced_nil ⟨by simp[sizeLine],Calls.spliced_nil ⟨by simp[sizeLine],?_⟩⟩))))
 dsimp only
 have k02:Ext s.heap h₂:=k₁.trans k₂
 have fr2:h₂.get? h₂.objs.size=none:=Heap.get?_none_of_le (Nat.le_refl _)
 generalize hh3:h₂.push {cls:= .type "list",data:= .seq ([]:List Value).toArray}=h₃
 have k₃:Ext h₂ h₃:=hh3▸Ext.push _ _
 have e₃:h₃.get? h₂.objs.size=some {cls:= .type "list",data:= .seq ([]:List Value).toArray}:=hh3▸Heap.get?_push_size _ rfl
 generalize hh4:h₃.push {cls:= .type "tuple",data:= .seq [Value.ref σ.so,Value.str d tk₂,Value.ref h₂.objs.size].toArray}=h₄
 have k₄:Ext h₃ h₄:=hh4▸Ext.push _ _
 have it:IsTup h₄ h₃.objs.size #[Value.ref σ.so,Value.str d tk₂,Value.ref h₂.objs.size]:=hh4▸⟨_,Heap.get?_push_size _ rfl,rfl,0,rfl⟩
 show wpAny _ A (unpackItems (.ref h₃.objs.size) (#[Value.ref σ.so,Value.str d tk₂,Value.ref h₂.objs.size]:Array Value).size none) _ _ _
 refine unpackItems_tuple (s:=(sat s h₄ (tk₂+1))) hh it fun h₅ eb=> ?_
 have k₅:Ext h₄ h₅:=fun b o e=>eb b o (by rintro rfl;exact Nat.lt_irrefl _ (Heap.lt_size e)) e
 have k25:Ext h₂ h₅:=k₃.trans (k₄.trans k₅)
 have frD:s.heap.get? h₂.objs.size=none:=by
  cases q:s.heap.get? h₂.objs.size with
  |none=>rfl
  |some o=>rw[k02 _ _ q]at fr2;cases fr2
 have n₂':∀b∈σ.addrs,s.heap.get? b=none:=fun b m=>by
  cases q:s.heap.get? b with
  |none=>rfl
  |some o=>have:=n₂ b m;rw[show h₁.get? b=some o from k₁ b o q]at this;cases this
 have own:∀b∈h₂.objs.size::σ.addrs,b∈([]:List Addr)∨s.heap.get? b=none:=fun b m=>by
  rcases List.mem_cons.mp m with rfl|m
  ·exact .inr frD
  ·exact .inr (n₂' b m)
 have Z₅:SOR w h₅ σ:=Z₂.keep fun b _ o e=>k25 _ _ e
 have nD:h₂.objs.size∉σ.addrs:=fun m=>by
  obtain⟨o,e⟩:=Z₂.alive _ m
  rw[fr2]at e;cases e
 have mv:=(show Fn g ([]++X) ([]++X) s.heap env Γ from F).moved (O':=h₂.objs.size::σ.addrs) (Ls:=[]) (h':=h₅) Off.nil Dicts.nil (fun b o _ _ e=>k25 _ _ (k02 _ _ e)) (fun _ m=>nomatch m) (fun _ m=>nomatch m) own (fun _ m=>nomatch m) (fun b m=>by
  rcases List.mem_cons.mp m with rfl|m
  ·exact⟨_,k₅ _ _ (k₄ _ _ e₃)⟩
  ·exact Z₅.alive b m)
 have off:Off (h₂.objs.size::σ.addrs) env:=Off.nil.goes F own
 refine zMt [z,y,x] [.v (.ref h₂.objs.size), .d (.str d), .v (.ref σ.so)] [.ref h₂.objs.size, .str d tk₂, .ref σ.so] Γ (sat s h₅ (tk₂+1)) rfl (.cons rfl (.cons (Rd.str _ _) (.cons rfl .nil))) mv.1 (fun u hu=> ?_) fun h' tk F' R'=> ?_
 ·simp only[List.mem_cons,List.not_mem_nil,or_false]at hu
  rcases hu with rfl|rfl|rfl
  ·exact hz
  ·exact hy
  ·exact hx
 ·have nn:∀(b:Addr),b∉([]:List Addr):=fun _ m=>nomatch m
  refine hQ σ h₂.objs.size h' tk (Z₅.rel (fun b m=>off b (List.mem_cons_of_mem _ m)) R' (fun b _=>nn b)) n₂' frD nD c1 c2 c3 c4 off ⟨0,?_⟩ F' ((k02.trans k25).rel.trans R')
  exact off.keep List.mem_cons_self R' (nn _) _ (k₅ _ _ (k₄ _ _ e₃))
theorem zPa {Q:Value→Shared→Prop} {o e f:Expr} {apos sp pos:Pos} {σ:Srt} {x:Str} {ys:List Str} (S:Stat (hd.heap_1 w.params) s.heap) (kx:XOk X s.heap)
 (hx:EvV PR w A s.heap (eval o env) (.ref σ.so)) (Z:SOR w s.heap σ) (ha:Ev PR w A X s.heap (eval e env) (.str x)) (hf:Ev PR w A X s.heap (eval f env) (.list (ys.map .str))) (hl:ys.length≤1000)
 (h:∀t ps h' tk,Ext s.heap h'→ps.map (·.1)=ys→codeAny (model PR w) A (.call (.ref 202) ⟨.ref σ.so:: .str x t::strValues ps,[]⟩) (fun r s'=>match r with| .ok (.ret v)=>Q v s'| .ok _=>False| .error e=>E e s') (sat s h' tk))
 (he:autoParam (eval (.Call (.Attribute o "add" apos) [e, .Starred f sp] [] pos) env=(do
  let ov←eval o env
  standAt apos.atName
  let(f',first)←holding [ov] (do pure (←getAttr ov "add" true,[]))
  callWith pos f' first (backTo pos (starEach [e, .Starred f sp] env)) [])) aR)
 (he1:autoParam (starEach (e::[.Starred f sp]) env=(false,eval e env)::starEach [.Starred f sp] env) aR)
 (he2:autoParam (starEach (.Starred f sp::[]) env=(true,eval f env)::starEach [] env) aR):
 wpAny (model PR w) A (eval (.Call (.Attribute o "add" apos) [e, .Starred f sp] [] pos) env) Q E s:=by
 rw[he]
 refine wpAny_bind (EvV.run hx Ext.rfl fun h₁ tk₁ k₁=>wpAny_bind (wpAny_standAt (wpAny_bind (wpAny_holding (wpAny_bind ?_)))))
 have S₁:=S.mono k₁
 have Z₁:SOR w h₁ σ:=Z.keep fun b _ o e=>k₁ _ _ e
 obtain⟨es,n,ed,N,a1,a2,a3,a4,a5⟩:=Z₁.names
 refine zMv (s:=(sat s h₁ tk₁)) S₁.k (instAt Z₁.inst ed) s_ga zBm s_fa s_ta s_sa s_xa (by decide) (by rw[zCj N];exact congrArg some (a5 "add" (by decide))) (wpAny_pure ?_)
 show wpAny _ _ (callWith pos (.ref h₁.objs.size) [] (backTo pos (starEach [e, .Starred f sp] env)) []) _ _ _
 have km:Ext h₁ (h₁.push (methodObj (.ref 202) (.ref σ.so))):=Ext.push _ _
 have em:(h₁.push (methodObj (.ref 202) (.ref σ.so))).get? h₁.objs.size=some (methodObj (.ref 202) (.ref σ.so)):=Heap.get?_push_size _ rfl
 dsimp only
 generalize h₁.push (methodObj (.ref 202) (.ref σ.so))=hm at km em
 have S₂:=S₁.mono km
 have k₁':=k₁.trans km
 have key:wpAny (model PR w) A (spliced (backTo pos (starEach [e, .Starred f sp] env))) (fun vs s₁=>MethP (hd.heap_1 w.params) h₁.objs.size 202 (.ref σ.so) s₁.heap∧wpAny (model PR w) A (call (.ref h₁.objs.size) ([]++vs)) Q E s₁) E (sat s hm (tk₁+1)):=by
  refine wpAny_items_cons (Ev.run ha k₁' (kx.ext k₁') fun v h₂ tk₂ k₂ r₂=> ?_) he1
  refine items_star (Ev.run hf (k₁'.trans k₂) ((kx.ext k₁').ext k₂) fun u h₃ tk₃ k₃ r₃=> ?_) he2
  refine star_rd (s:=(sat s h₃ tk₃)) r₃ (by rw[List.length_map];unfold sizeLine;omega) fun vs h₄ k₄ rs=>wpAny_items_nil ⟨⟨k₄ _ _ (k₃ _ _ (k₂ _ _ em)),(S₂.mono (k₂.trans (k₃.trans k₄))).k⟩,?_⟩
  obtain⟨t,rfl⟩:=r₂.str_inv
  obtain⟨ps,rfl,hps⟩:=zJ1 rs
  have:=h t ps h₄ tk₃ (((k₁'.trans k₂).trans k₃).trans k₄) hps
  refine zMm (s:=(sat s h₄ tk₃)) (k₄ _ _ (k₃ _ _ (k₂ _ _ em))) ?_
  rw[List.append_nil]
  exact this
 rw[he1]at key⊢
 exact ks_call (by show(false||(backTo pos (starEach [.Starred f sp] env)).any (·.1))=true;rw[he2];rfl) (keeps_M s_na) (Calls.evalArgs_plain key)
end
end P46
section P47
section
variable {w:World} {A:Around} {X M O O' Ls Y:List Addr} {h h':Heap} {g g₀:Heap} {env:Env} {Γ:List (Str×Bd)} {outer:List Env} {s:Shared} {E:Value→Shared→Prop} {σ σ':Srt} {Dt:Addr} {told:List PyData}
theorem Fn.reset {X' M':List Addr} (F:Fn g X M h env Γ) (e:∀b,b∈X'↔b∈X) (m:∀b∈M',b∈M):Fn g X' M' h env Γ:=by
 have S:SExt (hid X h) (hid X' h):=fun b o q _=>zAb (zAf _ _ _ _ q) fun z=>zAh q ((e b).mp z)
 exact⟨⟨F.is.fn,F.is.ns,F.is.cell,F.is.inj,fun x b q=>let⟨u,su,ru⟩:=F.is.see x b q;⟨u,su,ru.mono S⟩⟩,F.kg,F.outL,F.outC,fun b q=>F.outM b (m b q),fun b q=>(e b).mpr (F.sub b (m b q)),fun b q=>F.kx b ((e b).mp q)⟩
structure TB (w:World) (Ls:List Addr) (env:Env) (Dt:Addr) (σ:Srt) (h:Heap) (told:List PyData):Prop where
 z:SOR w h σ
 off:Off (σ.addrs++[Dt]) env
 nD:Dt∉σ.addrs
 dj:∀b∈Ls,b∉σ.addrs
 dD:Dt∉Ls
 d:Dicts Ls h
 offL:Off Ls env
 l:OwnList (σ.addrs++(Dt::Ls)) h Dt told
theorem TB.keep (T:TB w Ls env Dt σ h told) (k:∀b∈σ.addrs++[Dt],∀o,h.get? b=some o→h'.get? b=some o) (S:SExt (hid (σ.addrs++(Dt::Ls)) h) (hid (σ.addrs++(Dt::Ls)) h')) (u:Up Ls h h'):TB w Ls env Dt σ h' told:=by
 obtain⟨ys,⟨n,e⟩,rs⟩:=T.l
 exact⟨T.z.keep fun b m=>k b (List.mem_append_left _ m),T.off,T.nD,T.dj,T.dD,T.d.up u,T.offL,ys,⟨n,k Dt (by simp) _ e⟩,rs.mono S⟩
theorem TB.ex (T:TB w Ls env Dt σ h told) (k:Ext h h'):TB w Ls env Dt σ h' told:=T.keep (fun b _ o e=>k b o e) (zAl k).s (Up.of_ext k)
theorem TB.off1 (T:TB w Ls env Dt σ h told):Off σ.addrs env:=fun b m=>T.off b (List.mem_append_left _ m)
theorem Up.rel {R:Prop} (f:Off Ls env) (x:Rel [] env h h'):Up Ls h h':=fun b m o e=>⟨o.slots,f.keep m x (fun m=>nomatch m) o e⟩
theorem TB.st (T:TB w Ls env Dt σ h told) (F:Fn g (σ.addrs++(Dt::Ls)) (σ.addrs++(Dt::Ls)) h env Γ) (R:Rel [] env h h'):TB w Ls env Dt σ h' told:=
 T.keep (fun b m o e=>T.off.keep m R (fun m=>nomatch m) o e) (R.hid F.is zAp) (Up.rel (R:=True) T.offL R)
theorem TB.go (T:TB w Ls env Dt σ h told) (F:Fn g (σ.addrs++(Dt::Ls)) (σ.addrs++(Dt::Ls)) h env Γ) (G:GO w h h' σ σ'):TB w Ls env Dt σ' h' told∧Up Ls h h':=by
 obtain⟨F',R',S'⟩:=F.goes G T.off1
 have kb:∀b o,b∉σ.addrs→h.get? b=some o→h'.get? b=some o:=fun b o n e=>G.ext b o (zAb e n)
 have u:Up Ls h h':=fun b m o e=>⟨o.slots,kb b o (T.dj b m) e⟩
 obtain⟨ys,⟨n,e⟩,rs⟩:=T.l
 refine⟨⟨G.z,?_,?_,?_,T.dD,T.d.up u,T.offL,ys,⟨n,kb _ _ T.nD e⟩,rs.mono S'⟩,u⟩
 ·intro b m
  rcases List.mem_append.mp m with m|m
  ·exact(T.off1.goes F G.own) b m
  ·exact T.off b (List.mem_append_right _ m)
 ·intro m
  rcases G.own _ m with m|m
  ·exact T.nD m
  ·rw[e]at m;cases m
 ·intro b m q
  rcases G.own _ q with q|q
  ·exact T.dj b m q
  ·obtain⟨o,_,_,e',_⟩:=T.d b m
   rw[e']at q;cases q
theorem TB.poke {it:Addr} (T:TB w Ls env Dt σ h told) (p:Poke it h h') (n:it∉σ.addrs) (n':it∉Dt::Ls):TB w Ls env Dt σ h' told:=
 T.keep (fun b m o e=>p.keep b o (fun z=>(List.mem_append.mp m).elim (fun m=>n (z▸m)) fun m=>n' (z▸List.mem_cons.mpr (.inl (List.mem_singleton.mp m)))) e) p.sext fun b m o e=>⟨o.slots,p.keep b o (fun z=>n' (z▸List.mem_cons_of_mem _ m)) e⟩
theorem zFt {Q:Flow→Shared→Prop} {x:Str} {od:PyData} {l:Addr} {xs:List Str} {p1 p2 p3 p4 p5 p6 p7 p8 p9 pa:Pos}
 (Sg:Stat (hd.heap_1 w.params) g) (rm:Room A 6) (F:Fn g (σ.addrs++(Dt::Ls)) (σ.addrs++(Dt::Ls)) s.heap env Γ) (T:TB w Ls env Dt σ s.heap told) (hr:σ.ready=some (l,xs)) (hxs:xs.length≤1000) (hin:∀x∈xs,(σ.at x).isSome=true) (few:told.length≤1000)
 (n1:Γ.lookup ("told":Str)=some (.v (.ref Dt))) (n2:Γ.lookup ("target":Str)=some (.d (.str x))) (n3:Γ.lookup ("outcome":Str)=some (.d od)) (n4:Γ.lookup ("sorter":Str)=some (.v (.ref σ.so)))
 (hQ:∀σ' h' tk,Fn g (σ'.addrs++(Dt::Ls)) (σ'.addrs++(Dt::Ls)) h' env Γ→TB w Ls env Dt σ' h' (told++[.list [.str x,od, .tuple (xs.map .str)]])→σ'.abs=xs.foldl (fun ns x=>updN ns x (setNp (-1))) σ.abs→σ'.rest=(some (l,[]),σ.passed+xs.length,σ.finished)→σ'.so=σ.so→
  (∀b∈σ'.addrs,b∈σ.addrs∨s.heap.get? b=none)→Rel (σ.addrs++(Dt::Ls)) env s.heap h'→Up Ls s.heap h'→Q .next (sat s h' tk))
 {pl:Sem Bool}
 (he:autoParam (eval (.Call (.Attribute (.Name "sorter" p1) "get_ready" p2) [] [] p3) env=(do
  let ov←eval (.Name "sorter" p1) env
  standAt p2.atName
  let(f,first)←holding [ov] (getMethod ov "get_ready" pl)
  callWith p3 f first (backTo p3 (starEach [] env)) [])) aR)
 (hst:autoParam (starEach [.Name "target" p4, .Name "outcome" p5, .Call (.Attribute (.Name "sorter" p1) "get_ready" p2) [] [] p3] env=[(false,eval (.Name "target" p4) env),(false,eval (.Name "outcome" p5) env),(false,eval (.Call (.Attribute (.Name "sorter" p1) "get_ready" p2) [] [] p3) env)]) aR)
 (hi:autoParam (interactive env=false) aR)
 (hs1:autoParam (swapsWith (.Call (.Attribute (.Name "told" p7) "append" p8) [.List [.Name "target" p4, .Name "outcome" p5, .Call (.Attribute (.Name "sorter" p1) "get_ready" p2) [] [] p3] p6] [] p9) none pa.line env=pure false) aR)
 (hb1:autoParam (attributeBase (.Name "told" p7) "append" env (eval (.Name "told" p7) env)=eval (.Name "told" p7) env) aR) (hl1:autoParam ((p8.endLine==p9.line)=true) aR)
 (ht1:autoParam (starEach [.List [.Name "target" p4, .Name "outcome" p5, .Call (.Attribute (.Name "sorter" p1) "get_ready" p2) [] [] p3] p6] env=[(false,eval (.List [.Name "target" p4, .Name "outcome" p5, .Call (.Attribute (.Name "sorter" p1) "get_ready" p2) [] [] p3] p6) env)]) aR):
 wpAny (model PR w) A (exec (.Expr (.Call (.Attribute (.Name "told" p7) "append" p8) [.List [.Name "target" p4, .Name "outcome" p5, .Call (.Attribute (.Name "sorter" p1) "get_ready" p2) [] [] p3] p6] [] p9) pa) env) Q E s:=by
 obtain⟨ys,pl₀,rs₀⟩:=id T.l
 refine zHd (D:=Dt) F n1 pl₀ (fun h₁ tk₁ k₁=> ?_) (by decide) (by decide) hi hs1 hb1 ht1 hl1
 refine wpAny_List ?_
 rw[hst]
 refine Calls.spliced_cons (Ev.run (zAd F.is n2 (by decide) (by decide)) k₁ (F.kx.ext k₁) fun v h₂ tk₂ k₂ r₂=> ?_)
 have k02:=k₁.trans k₂
 refine Calls.spliced_cons (Ev.run (zAd F.is n3 (by decide) (by decide)) k02 (F.kx.ext k02) fun u h₃ tk₃ k₃ r₃=> ?_)
 have k03:=k02.trans k₃
 have F₃:=F.ext k03
 have T₃:=T.ex k03
 refine Calls.spliced_cons ?_
 refine zCn (s:=(sat s h₃ tk₃)) (Sg.mono F₃.kg) (zAm F₃.is n4 (by decide) (by decide)) T₃.z (fun h₄ tk₄ k₄=> ?_) (by decide) s_gg s_fg s_tg s_kg he
 have F₄:=F₃.ext k₄
 have T₄:=T₃.ex k₄
 have S₄:Stat (hd.heap_1 w.params) (hid σ.addrs h₄):=Sg.mono fun b o e=>zAb (F₄.kg b o e) fun m=>by
  rw[F₄.outM b (List.mem_append_left _ m)]at e;cases e
 have kx₄:XOk (Dt::Ls) h₄:=fun b m=>F₄.kx b (List.mem_append_right _ m)
 refine zEv (s:=(sat s h₄ tk₄)) (X:=Dt::Ls) S₄ rm T₄.z hr kx₄ hxs hin fun σ' v' h₅ tk₅ G₅ r₅ ab re=> ?_
 obtain⟨F₅,R₅,X₅⟩:=F₄.goes G₅ T₄.off1
 obtain⟨T₅,u₅⟩:=T₄.go F₄ G₅
 refine Calls.spliced_nil ⟨by simp[sizeLine],?_⟩
 dsimp only
 obtain⟨ys₅,pl₅,rs₅⟩:=id T₅.l
 have len₅:ys₅.size=told.length:=by simpa using rs₅.length
 have r₂':Rd (hid (σ'.addrs++(Dt::Ls)) h₅) (.str x) v:=(r₂.mono (zAl (k₃.trans k₄)).s).mono X₅
 have r₃':Rd (hid (σ'.addrs++(Dt::Ls)) h₅) od u:=(r₃.mono (zAl k₄).s).mono X₅
 generalize hh6:h₅.push {cls:= .type "list",data:= .seq [v,u,v'].toArray}=h₆
 have k₆:Ext h₅ h₆:=hh6▸Ext.push _ _
 have r₆:Rd (hid (σ'.addrs++(Dt::Ls)) h₆) (.list [.str x,od, .tuple (xs.map .str)]) (.ref h₅.objs.size):=hh6▸zBi F₅.kx (.cons r₂' (.cons r₃' (.cons r₅ .nil)))
 have T₆:=T₅.ex k₆
 have F₆:=F₅.ext k₆
 refine⟨ys₅,let⟨n,e⟩:=pl₅;⟨n,k₆ _ _ e⟩,by rw[len₅];unfold sizeLine;omega,fun h₇ pl₇ sb₇=> ?_⟩
 have mD:Dt∈σ'.addrs++(Dt::Ls):=by simp
 obtain⟨F₇,R₇,X₇⟩:=F₆.change mD T₆.l sb₇ (let⟨n,e⟩:=pl₇;⟨_,e⟩)
 have u₇:Up Ls h₆ h₇:=fun b m o e=>⟨o.slots,sb₇ b o (fun z=>T₆.dD (z▸m)) e⟩
 have kx:Ext s.heap h₄:=k03.trans k₄
 have own:∀b∈σ'.addrs,b∈σ.addrs∨s.heap.get? b=none:=fun b m=>by
  rcases G₅.own b m with m|m
  ·exact .inl m
  ·right
   cases q:s.heap.get? b with
   |none=>rfl
   |some o=>rw[show h₄.get? b=some o from kx b o q]at m;cases m
 refine hQ σ' h₇ tk₅ F₇ ⟨T₆.z.keep fun b m o e=>sb₇ b o (fun z=>T₆.nD (z▸m)) e,T₆.off,T₆.nD,T₆.dj,T₆.dD,T₆.d.up u₇,T₆.offL,_,pl₇,?_⟩ ab re G₅.so own ?_ (((Up.of_ext kx).trans u₅).trans ((Up.of_ext k₆).trans u₇))
 ·simp only[Array.toList_push]
  exact((rs₅.mono (zAl k₆).s).mono X₇).append (.cons (r₆.mono X₇) .nil)
 ·exact kx.rel.trans (R₅.trans (k₆.rel.trans (R₇.le fun b m=>by simp at m;rw[m];simp)))
end
end P47
section P48
section
variable {w:World} {A:Around} {X M O O' Ls Y:List Addr} {h h':Heap} {g g₀:Heap} {env:Env} {Γ:List (Str×Bd)} {outer:List Env} {s:Shared} {E:Value→Shared→Prop} {σ σ':Srt} {Dt:Addr} {told:List PyData}
theorem zKf {x:Str} {ys:List Str}:(σ.done1 x ys).addrs=σ.addrs:=((zCc (f:=setNp (-2)) fun _=>rfl).trans (zBu _)).addrs
theorem zQb {Q:Flow→Shared→Prop} {x place:Str} {l:Addr} {k1 k2 k3 k4:Nat} {p1 p2 p3 p4 p5 p6 p7 p8 p9 pa pb pc q1 q2 q3 q4 q5 q6 q7 q8 q9 r1 r2 r3 r4 r5 r6 r7 r8 r9 ra rb rc rz:Pos}
 (Sg:Stat (hd.heap_1 w.params) g) (rm:Room A 7) (stk:Stk A (env::outer) (env.locals::Ls)) (G:GEnv env) (F:Fn g (σ.addrs++(Dt::Ls)) (σ.addrs++(Dt::Ls)) s.heap env Γ) (T:TB w Ls env Dt σ s.heap told) (hr:σ.ready=some (l,[]))
 (few:Few σ.abs 1000) (hin:∀p,σ.at x=some p→∀y∈p.1.succ,(σ.at y).isSome=true) (hnp:∀p,σ.at x=some p→ -2≤p.1.np) (hx:x.length≤9000) (hc:∀c∈x.cps.toList,c<16 ^ 8)
 (n1:Γ.lookup ("sorter":Str)=some (.v (.ref σ.so))) (n2:Γ.lookup ("target":Str)=some (.d (.str x))) (n3:Γ.lookup ("place":Str)=some (.d (.str place))) (n4:Γ.lookup ("error":Str)=none)
 (hQ1:∀p h' tk,σ.at x=some p→p.1.np= -1→Fn g ((σ.done1 x p.1.succ).addrs++(Dt::Ls)) ((σ.done1 x p.1.succ).addrs++(Dt::Ls)) h' env (("place", .d (.str (dirS x)))::("outcome", .d (.list [.str "gone", .none]))::Γ)→TB w Ls env Dt (σ.done1 x p.1.succ) h' told→Rel (σ.addrs++(Dt::Ls)) env s.heap h'→Up Ls s.heap h'→Q .next (sat s h' tk))
 (hQ2:∀m h' tk,doneMsg σ x=some m→Fn g (σ.addrs++(Dt::Ls)) (σ.addrs++(Dt::Ls)) h' env (("place", .d (.str (if Txt.endswith m "ready)"=true then x else place)))::("outcome", .d (.list [.str m, .none]))::Γ)→TB w Ls env Dt σ h' told→Rel (σ.addrs++(Dt::Ls)) env s.heap h'→Up Ls s.heap h'→Q .next (sat s h' tk))
 {pl:Sem Bool}
 (he:autoParam (eval (.Call (.Attribute (.Name "sorter" p1) "done" p2) [.Name "target" p3] [] p4) env=(do
  let ov←eval (.Name "sorter" p1) env
  standAt p2.atName
  let(f,first)←holding [ov] (getMethod ov "done" pl)
  callWith p4 f first (backTo p4 (starEach [.Name "target" p3] env)) [])) aR)
 (he1:autoParam (starEach [.Name "target" p3] env=(false,eval (.Name "target" p3) env)::starEach [] env) aR)
 (he2:autoParam (starEach [.Constant (.str "gone") k1 p5, .Call (.Attribute (.Name "sorter" p1) "done" p2) [.Name "target" p3] [] p4] env=[(false,eval (.Constant (.str "gone") k1 p5) env),(false,eval (.Call (.Attribute (.Name "sorter" p1) "done" p2) [.Name "target" p3] [] p4) env)]) aR)
 (hs1:autoParam (swapsWith (.List [.Constant (.str "gone") k1 p5, .Call (.Attribute (.Name "sorter" p1) "done" p2) [.Name "target" p3] [] p4] p6) (some (.Name "outcome" p7)) p8.line env=pure false) aR)
 (hl1:autoParam (env.kindOf "outcome"=some .local) aR) (hl2:autoParam (env.kindOf "place"=some .local) aR) (hl3:autoParam (env.kindOf "error"=some .local) aR)
 (hg1:autoParam (env.kindOf "dirname"=some .globalImplicit) aR) (hg2:autoParam (env.kindOf "ValueError"=some .globalImplicit) aR) (hg3:autoParam (env.kindOf "str"=some .globalImplicit) aR)
 (he3:autoParam (starEach [.Name "target" pa] env=(false,eval (.Name "target" pa) env)::starEach [] env) aR)
 (hs2:autoParam (swapsWith (.Call (.Name "dirname" p9) [.Name "target" pa] [] pb) (some (.Name "place" pc)) q1.line env=pure false) aR)
 (he4:autoParam (starEach [.Name "error" q3] env=(false,eval (.Name "error" q3) env)::starEach [] env) aR)
 (he5:autoParam (starEach (.Call (.Name "str" q2) [.Name "error" q3] [] q4::[.Constant .none k2 q5]) env=(false,eval (.Call (.Name "str" q2) [.Name "error" q3] [] q4) env)::starEach [.Constant .none k2 q5] env) aR)
 (he6:autoParam (starEach (.Constant .none k2 q5::[]) env=(false,eval (.Constant .none k2 q5) env)::starEach [] env) aR)
 (hs3:autoParam (swapsWith (.List [.Call (.Name "str" q2) [.Name "error" q3] [] q4, .Constant .none k2 q5] q6) (some (.Name "outcome" q7)) q8.line env=pure false) aR)
 (hs4:autoParam (swapsWith (.IfExp (.Call (.Attribute (.Subscript (.Name "outcome" q9) (.Constant (.int 0) k3 r1) r2) "endswith" r3) [.Constant (.str "ready)") k4 r4] [] r5) (.Name "target" r6) (.Name "place" r7) r8) (some (.Name "place" r9)) ra.line env=pure false) aR)
 (hb:autoParam (attributeBase (.Subscript (.Name "outcome" q9) (.Constant (.int 0) k3 r1) r2) "endswith" env (eval (.Subscript (.Name "outcome" q9) (.Constant (.int 0) k3 r1) r2) env)=eval (.Subscript (.Name "outcome" q9) (.Constant (.int 0) k3 r1) r2) env) aR)
 (hse:autoParam (starEach [.Constant (.str "ready)") k4 r4] env=[(false,eval (.Constant (.str "ready)") k4 r4) env)]) aR) (hli:autoParam ((r3.endLine==r5.line)=true) aR):
 wpAny (model PR w) A (exec (.Try [.Assign [.Name "outcome" p7] (.List [.Constant (.str "gone") k1 p5, .Call (.Attribute (.Name "sorter" p1) "done" p2) [.Name "target" p3] [] p4] p6) p8, .Assign [.Name "place" pc] (.Call (.Name "dirname" p9) [.Name "target" pa] [] pb) q1]
  [.ExceptHandler (some (.Name "ValueError" rb)) (some "error") [.Assign [.Name "outcome" q7] (.List [.Call (.Name "str" q2) [.Name "error" q3] [] q4, .Constant .none k2 q5] q6) q8,
   .Assign [.Name "place" r9] (.IfExp (.Call (.Attribute (.Subscript (.Name "outcome" q9) (.Constant (.int 0) k3 r1) r2) "endswith" r3) [.Constant (.str "ready)") k4 r4] [] r5) (.Name "target" r6) (.Name "place" r7) r8) ra] rc] [] [] rz) env) Q E s:=by
 refine wpAny_Try_except ?_
 refine wpAny_execs_cons (zB1 (wpAny_List ?_) hs1)
 rw[he2]
 refine Calls.spliced_cons (wpAny_Constant_str (k:=k1) (pos:=p5) (Calls.spliced_cons ?_))
 refine zEf (s:=(sat s s.heap (s.toks+1))) (X:=[]) (Sg.mono F.kg) XOk.nil (zAm F.is n1 (by decide) (by decide)) T.z (zAd F.is.nil n2 (by decide) (by decide)) (fun v h₂ tk₂ k₂ r₂=> ?_) (by decide) s_gd s_fd s_td s_kd he he1
 obtain⟨t₂,rfl⟩:=r₂.str_inv
 have F₂:=F.ext k₂
 have T₂:=T.ex k₂
 have D₂:Dicts (env.locals::Ls) h₂:=T₂.d.cons F₂.is.ns
 have nL:env.locals∉Ls:=fun m=>(T.offL _ m).1 rfl
 have S₂:Stat (hd.heap_1 w.params) (hid (σ.addrs++(env.locals::Ls)) h₂):=Sg.mono fun b o e=>zAb (F₂.kg b o e) fun m=>by
  rcases List.mem_append.mp m with m|m
  ·rw[F₂.outM b (List.mem_append_left _ m)]at e;cases e
  rcases List.mem_cons.mp m with m|m
  ·rw[m,F₂.outL]at e;cases e
  ·rw[F₂.outM b (List.mem_append_right _ (List.mem_cons_of_mem _ m))]at e;cases e
 have dj₂:∀b∈env.locals::Ls,b∉σ.addrs:=fun b m q=>by
  rcases List.mem_cons.mp m with m|m
  ·exact(T.off1 b q).1 m
  ·exact T.dj b m q
 refine done_is (s:=(sat s h₂ tk₂)) (Ls:=env.locals::Ls) (outer:=env::outer) S₂ (rm.le (by omega)) stk D₂ dj₂ T₂.z hr few (by simp) hin hnp hx hc (fun p h₃ tk₃ at₃ np₃ G₃=> ?_) (fun m t e h₃ tk₃ hm fl up₃=> ?_)
 ·obtain⟨F₃,R₃,X₃⟩:=F₂.goes G₃ T₂.off1
  obtain⟨T₃,u₃⟩:=T₂.go F₂ G₃
  refine Calls.spliced_nil ⟨by simp[sizeLine],?_⟩
  dsimp only
  generalize hh4:h₃.push {cls:= .type "list",data:= .seq [Value.str "gone" s.toks,Value.none].toArray}=h₄
  have k₄:Ext h₃ h₄:=hh4▸Ext.push _ _
  have r₄:Rd (hid ((σ.done1 x p.1.succ).addrs++(Dt::Ls)) h₄) (.list [.str "gone", .none]) (.ref h₃.objs.size):=hh4▸zBi F₃.kx (.cons (Rd.str _ _) (.cons Rd.none .nil))
  have F₄:=F₃.ext k₄
  have T₄:=T₃.ex k₄
  refine zAn (s:=(sat s h₄ tk₃)) F₄ (.inl hl1) (b:= .d (.list [.str "gone", .none])) r₄ fun h₅ tk₅ F₅ R₅=> ?_
  have T₅:=T₄.st F₄ R₅
  have u₅:Up Ls h₄ h₅:=Up.rel (R:=True) T₄.offL R₅
  have S₅:Stat (hd.heap_1 w.params) h₅:=Sg.mono F₅.kg
  walk_at "sh"
  refine wpAny_execs_cons (zAi F₅ (d:= .str (dirS x)) (zAt S₅ (zAj S₅ G zIt hg1) (by k_is) rfl (zAc (zAd F₅.is (by rw[List.lookup_cons];exact n2) (by decide) (by decide)) zAg he3) (zG1 S₅ (rm.le (by omega)) x (by omega)) he3) (.inl hl2) (fun h₆ tk₆ F₆ R₆=> ?_) hs2)
  have T₆:=T₅.st F₅ R₆
  have u₆:Up Ls h₅ h₆:=Up.rel (R:=True) T₅.offL R₆
  walk_at "sh"
  refine wpAny_execs_nil ?_
  walk_at "sh"
  refine wpAny_execs_nil (hQ1 p h₆ tk₆ at₃ np₃ F₆ T₆ (k₂.rel.trans (R₃.trans (k₄.rel.trans ((R₅.trans R₆).le zAp)))) ((Up.of_ext k₂).trans (u₃.trans ((Up.of_ext k₄).trans (u₅.trans u₆)))))
 ·have F₂':Fn g ((σ.addrs++[Dt])++Ls) ((σ.addrs++[Dt])++Ls) h₂ env Γ:=by rw[List.append_assoc];exact F₂
  have nO:∀b∈σ.addrs++[Dt],b∉env.locals::Ls:=fun b m q=>by
   rcases List.mem_append.mp m with m|m
   ·exact dj₂ b q m
   ·obtain rfl:=List.mem_singleton.mp m
    rcases List.mem_cons.mp q with q|q
    ·exact(T.off _ (by simp)).1 q
    ·exact T.dD q
  refine zKu (s:=(sat s h₃ tk₃)) stk F₂' T.off (fun _ m=>m) nL D₂ up₃ fl (fun a o _ e=>e) (fun b m=> ?_) hl3 (fun h' k=>zAe (Sg.mono k) G zCi zCh (by decide) hg2) fun h₄ tk₄ t4 E' F₄ R₄ kO₄ hex htu up₄=> ?_
  ·obtain⟨o,e⟩:=F₂'.kx b (List.mem_append_left _ m)
   exact⟨o,zAb e (nO b m)⟩
  ·have k24:∀b∈σ.addrs++[Dt],∀o,h₂.get? b=some o→h₄.get? b=some o:=fun b m o e=>kO₄ b m o (zAb e (nO b m))
   have F₄':Fn g (σ.addrs++(Dt::Ls)) (σ.addrs++(Dt::Ls)) h₄ env (("error", .v (.ref e))::Γ):=by
    have:=F₄
    rw[List.append_assoc]at this
    exact this
   have R₄':Rel (σ.addrs++(Dt::Ls)) env h₂ h₄:=by
    have:=R₄
    rw[List.append_assoc]at this
    exact this
   have X₄:SExt (hid (σ.addrs++(Dt::Ls)) h₂) (hid (σ.addrs++(Dt::Ls)) h₄):=R₄'.hid F₂.is F₂.sub
   have T₄:TB w Ls env Dt σ h₄ told:=T₂.keep k24 X₄ up₄
   have S₄:Stat (hd.heap_1 w.params) h₄:=Sg.mono F₄.kg
   refine wpAny_execs_cons (zAi F₄' (d:= .list [.str m, .none]) (zAr (zAc (zIw (zAe S₄ G n_str b_str (by decide) hg3) (zAm F₄'.is (x:="error") (by simp)) (by have:=rm.units;show A.units+2<_;omega) hex htu he4) (zAc zJ2 zAg he6) he5)) (.inl hl1) (fun h₅ tk₅ F₅ R₅=> ?_) hs3)
   have T₅:=T₄.st F₄' R₅
   have u₅:Up Ls h₄ h₅:=Up.rel (R:=True) T₄.offL R₅
   have lk:∀{y:Str} {b:Bd},(y==("outcome":Str))=false→(y==("error":Str))=false→Γ.lookup y=some b→List.lookup y (("outcome",Bd.d (.list [.str m, .none]))::("error",Bd.v (.ref e))::Γ)=some b:=fun{y b} h1 h2 h3=>by
    rw[List.lookup_cons,h1,List.lookup_cons,h2];exact h3
   walk_at "sh"
   refine wpAny_execs_cons (zAi F₅ (d:= .str (if Txt.endswith m "ready)"=true then x else place)) (zCy (c:=Txt.endswith m "ready)") (zBl (d:= .bool (Txt.endswith m "ready)")) (zGh (zEh (xs:=[.str m, .none]) (i:=0) (zAd F₅.is (by simp) (by decide) (by decide)) zAo (by decide) rfl (by decide)) zAq hb hse hli) trivial) (fun hc=> ?_) (fun hc=> ?_)) (.inl hl2) (fun h₆ tk₆ F₆ R₆=> ?_) hs4)
   ·rw[if_pos hc]
    exact zAd F₅.is (lk (by decide) (by decide) n2) (by decide) (by decide)
   ·rw[if_neg (by rw[hc];decide)]
    exact zAd F₅.is (lk (by decide) (by decide) n3) (by decide) (by decide)
   have T₆:=T₅.st F₅ R₆
   have u₆:Up Ls h₅ h₆:=Up.rel (R:=True) T₅.offL R₆
   walk_at "sh"
   refine wpAny_execs_nil ⟨_,_,_,("place", .d (.str (if Txt.endswith m "ready)"=true then x else place)))::("outcome", .d (.list [.str m, .none]))::Γ,F₆,fun y b e=> ?_,fun h₇ tk₇ F₇ R₇=> ?_⟩
   ·rw[List.lookup_cons,List.lookup_cons]at e
    have ne:y≠"error":=fun z=>by
     rw[z]at e
     rw[show(("error":Str)==("place":Str))=false by decide,show(("error":Str)==("outcome":Str))=false by decide]at e
     dsimp only at e
     rw[n4]at e;cases e
    refine⟨ne,?_⟩
    rw[List.lookup_cons,List.lookup_cons,List.lookup_cons,beq_false_of_ne ne]
    exact e
   ·have T₇:=T₆.st F₆ R₇
    have u₇:Up Ls h₆ h₇:=Up.rel (R:=True) T₆.offL R₇
    refine hQ2 m h₇ tk₇ hm F₇ T₇ (k₂.rel.trans (R₄'.trans ((R₅.trans (R₆.trans R₇)).le zAp))) ((Up.of_ext k₂).trans (up₄.trans (u₅.trans (u₆.trans u₇))))
end
end P48
section N1
open PySem.StrLaws Builtin Builtin.Str
noncomputable abbrev sg (x:Str):List Nat:=x.cps.toList
theorem zHl {a b:Str} (h:sg a=sg b):a=b:=Str.ext' (Array.toList_inj.mp h)
theorem zG7 {a b:Str}:a=b↔sg a=sg b:=⟨fun e=>by rw[e],zHl⟩
theorem zBv (a b:Str):sg (a++b)=sg a++sg b:=by show(a.cps++b.cps).toList=_;simp
theorem zB4 (a:Str):a.length=(sg a).length:=by simp[Str.length]
theorem zBh:sg ("/":Str)=[47]:=by decide
theorem zPn:("/":Str)=⟨#[47]⟩:=zHl (by decide)
theorem sg_nil {a:Str}:a=""↔sg a=[]:=by rw[zG7];exact Iff.rfl
noncomputable def joinL:List (List Nat)→List Nat
 | []=>[]
 | [p]=>p
 |p::q::r=>p++47::joinL (q::r)
theorem zEm:∀ps:List Str,sg (Txt.join "/" ps)=joinL (ps.map sg):=by
 have key:∀ps:List Str,sg (Str.join "/" ps)=joinL (ps.map sg):=by
  intro ps
  induction ps with
  |nil=>rfl
  |cons p r ih=>
   cases r with
   |nil=>rfl
   |cons q r=>
    show sg (p++"/"++Str.join "/" (q::r))=_
    rw[zBv,zBv,ih,zBh]
    simp[joinL]
 intro ps
 show sg (glued "/" ps)=_
 rw[glued_eq_join,key]
theorem zAu (p:List Nat) {r:List (List Nat)} (h:r≠[]):joinL (p::r)=p++47::joinL r:=by
 cases r with
 |nil=>exact absurd rfl h
 |cons q r=>rfl
theorem zEs:∀(a b:List (List Nat)),a≠[]→b≠[]→joinL (a++b)=joinL a++47::joinL b
 | [],_,h,_=>absurd rfl h
 | [p],b,_,h=>by rw[List.singleton_append,zAu p h];rfl
 |p::q::r,b,_,h=>by
  rw[List.cons_append,zAu p (by simp),zEs (q::r) b (by simp) h,zAu p (by simp)]
  simp
theorem cut_inj {p q a b:List Nat} (hp:47∉p) (hq:47∉q) (h:p++47::a=q++47::b):p=q∧a=b:=by
 induction p generalizing q with
 |nil=>
  cases q with
  |nil=>simpa using h
  |cons c q=>simp at h;exact absurd (h.1▸List.mem_cons_self) hq
 |cons c p ih=>
  cases q with
  |nil=>simp at h;exact absurd (h.1▸List.mem_cons_self) hp
  |cons d q=>
   simp only[List.cons_append,List.cons.injEq]at h
   obtain⟨e1,e2⟩:=ih (fun m=>hp (List.mem_cons_of_mem _ m)) (fun m=>hq (List.mem_cons_of_mem _ m)) h.2
   exact⟨by rw[h.1,e1],e2⟩
theorem zF2:∀(a b:List (List Nat)),a≠[]→b≠[]→(∀p∈a,47∉p)→(∀p∈b,47∉p)→joinL a=joinL b→a=b
 | [],_,h,_,_,_,_=>absurd rfl h
 | [p],b,_,hb,fa,fb,e=>by
  cases b with
  |nil=>exact absurd rfl hb
  |cons q r=>
   cases r with
   |nil=>simpa[joinL]using e
   |cons q' r=>
    rw[zAu q (by simp)]at e
    exact absurd (show 47∈p by rw[show p=joinL [p]from rfl,e];simp) (fa p List.mem_cons_self)
 |p::p'::r,b,_,hb,fa,fb,e=>by
  cases b with
  |nil=>exact absurd rfl hb
  |cons q b=>
   cases b with
   |nil=>
    rw[zAu p (by simp)]at e
    exact absurd (show 47∈q by rw[show q=joinL [q]from rfl,←e];simp) (fb q List.mem_cons_self)
   |cons q' b=>
    rw[zAu p (by simp),zAu q (by simp)]at e
    obtain⟨e1,e2⟩:=cut_inj (fa p List.mem_cons_self) (fb q List.mem_cons_self) e
    rw[e1,zF2 (p'::r) (q'::b) (by simp) (by simp) (fun x m=>fa x (List.mem_cons_of_mem _ m)) (fun x m=>fb x (List.mem_cons_of_mem _ m)) e2]
noncomputable def free (x:Str):Prop:=47∉sg x
theorem zA6 (x:Str):∀p∈Txt.split x "/",free p:=by
 rw[zPn]
 exact split_free x 47
theorem zBp (x:Str):Txt.split x "/"≠[]:=by
 unfold Txt.split
 split
 ·simp
 ·split
  ·simp
  ·rw[partsBetween_eq]
   obtain⟨p,r,e⟩:=partsFrom_ne x ("/":Str).length 0 (occurrences x "/" 0 x.length (x.length+1))
   rw[e];simp
theorem zA0 (x:Str):sg x=joinL ((Txt.split x "/").map sg):=by
 rw[←zEm]
 show sg x=sg (glued "/" _)
 rw[glued_eq_join,join_split]
theorem zD6 {x:Str} {ps:List Str} (e:sg x=joinL (ps.map sg)) (hn:ps≠[]) (hf:∀p∈ps,free p):Txt.split x "/"=ps:=by
 have h:=zF2 ((Txt.split x "/").map sg) (ps.map sg) (by simpa using zBp x) (by simpa using hn) (fun p hp=>by
  obtain⟨y,hy,rfl⟩:=List.mem_map.mp hp
  exact zA6 x y hy) (fun p hp=>by
  obtain⟨y,hy,rfl⟩:=List.mem_map.mp hp
  exact hf y hy) ((zA0 x).symm.trans e)
 have inj:∀{a b:List Str},a.map sg=b.map sg→a=b:=by
  intro a
  induction a with
  |nil=>intro b h;cases b with
   |nil=>rfl
   |cons _ _=>simp at h
  |cons x a ih=>intro b h;cases b with
   |nil=>simp at h
   |cons y b=>simp only[List.map_cons,List.cons.injEq]at h;rw[zHl h.1,ih h.2]
 exact inj h
theorem clip_lo (i n:Nat):(if(i:Int)<0 then(i:Int)+n else i)=i:=by rw[if_neg (by omega)]
theorem zJn (i j n:Nat):strSliceIndices (some (i:Int)) (some (j:Int)) 1 n=strSliceIndices (some ((min i n:Nat):Int)) (some ((min j n:Nat):Int)) 1 n:=by
 unfold strSliceIndices
 simp only[clip_lo]
 have e1:max 0 (min (i:Int) n)=max 0 (min ((min i n:Nat):Int) n):=by omega
 have e2:max 0 (min (j:Int) n)=max 0 (min ((min j n:Nat):Int) n):=by omega
 rw[if_pos (by decide),if_pos (by decide),if_pos (by decide),if_pos (by decide),e1,e2]
theorem idx_sn (i n:Nat):strSliceIndices (some (i:Int)) none 1 n=strSliceIndices (some ((min i n:Nat):Int)) (some ((n:Nat):Int)) 1 n:=by
 rw[sliceIdx_none_hi,zJn,Nat.min_self]
theorem idx_ns (j n:Nat):strSliceIndices none (some (j:Int)) 1 n=strSliceIndices (some ((0:Nat):Int)) (some ((min j n:Nat):Int)) 1 n:=by
 rw[sliceIdx_none_lo,show(0:Int)=((0:Nat):Int)from rfl,zJn,Nat.zero_min]
theorem zDr {x:Str} {a b c d:Option Int} (h:strSliceIndices a b 1 x.length=strSliceIndices c d 1 x.length):Txt.slice x a b=Txt.slice x c d:=by
 unfold Txt.slice;rw[h]
theorem zLm (x:Str) (l u:Option Int):Txt.slice x l u=sliceText x l u:=by
 unfold Txt.slice sliceText;rfl
theorem zCq (x:Str) {i j:Nat} (h:i≤j):sg (Txt.slice x (some (i:Int)) (some (j:Int)))=((sg x).drop i).take (j - i):=by
 rw[zDr (zJn i j x.length),zLm,sliceText_nat x (by omega) (Nat.min_le_right _ _),zB4]
 show((sg x).drop _).take _=_
 generalize sg x=l
 by_cases h1:i≤l.length
 ·rw[Nat.min_eq_left h1]
  by_cases h2:j≤l.length
  ·rw[Nat.min_eq_left h2]
  ·rw[Nat.min_eq_right (by omega),List.take_of_length_le (by simp),List.take_of_length_le (by simp;omega)]
 ·rw[List.drop_eq_nil_of_le (show l.length≤i by omega),Nat.min_eq_right (show l.length≤i by omega),Nat.min_eq_right (show l.length≤j by omega),List.drop_length];simp
theorem zGe (x:Str) (i:Nat):sg (Txt.slice x (some (i:Int)) none)=(sg x).drop i:=by
 rw[zDr (c:=some (i:Int)) (d:=some (((x.length+i:Nat)):Int)) ((idx_sn i _).trans ((zJn i (x.length+i) x.length).trans (by rw[Nat.min_eq_right (show x.length≤x.length+i by omega)])).symm),zCq x (by omega),zB4]
 exact List.take_of_length_le (by simp)
theorem zDj (x:Str) (j:Nat):sg (Txt.slice x none (some (j:Int)))=(sg x).take j:=by
 rw[zDr (c:=some ((0:Nat):Int)) (d:=some (j:Int)) ((idx_ns j _).trans ((zJn 0 j x.length).trans (by rw[Nat.zero_min])).symm),zCq x (by omega)]
 simp
end N1
section N2
open PySem.StrLaws Builtin Builtin.Str
noncomputable abbrev okc (c:Nat):Prop:=c=97∨c=98∨c=228∨c=46
structure NameOk (x:Str):Prop where
 ne:x≠""
 ok:∀c∈sg x,okc c
 d1:x≠"."
 d2:x≠".."
theorem NameOk.free {x:Str} (n:NameOk x):free x:=fun m=>by
 rcases n.ok 47 m with h|h|h|h<;>cases h
theorem NameOk.sg_ne {x:Str} (n:NameOk x):sg x≠[]:=fun e=>n.ne (sg_nil.mpr e)
theorem zJo (x:Str):Txt.startswith x "/"=decide ((sg x).take 1=[47]):=by
 unfold Txt.startswith
 rw[subAt_eq,show("/":Str).cps.toList=[47]from zBh,List.drop_zero]
 have h1:("/":Str).length=1:=rfl
 rw[h1,zB4]
 show(decide (0+1≤(sg x).length)&&((sg x).take 1==[47]))=_
 cases sg x with
 |nil=>rfl
 |cons c l=>by_cases h:c=47<;>simp[h]
theorem ends_eq (x:Str):Txt.endswith x "/"=decide ((sg x).getLast? =some 47):=by
 unfold Txt.endswith
 rw[subAt_eq,show("/":Str).cps.toList=[47]from zBh]
 have h1:("/":Str).length=1:=rfl
 rw[h1,zB4]
 show(decide (0+1≤(sg x).length)&&(((sg x).drop ((sg x).length - 1)).take 1==[47]))=_
 rcases List.eq_nil_or_concat (sg x)with h|⟨l,c,h⟩
 ·rw[h];rfl
 ·rw[h]
  by_cases hc:c=47<;>simp[hc]
theorem zBq (r:List Str):sg (slash r)=47::joinL (r.map sg):=by
 unfold slash
 rw[zBv,zBh,zEm];rfl
theorem zEb:∀(ps:List (List Nat)) (p:List Nat),p≠[]→(joinL (p::ps)).take 1=p.take 1
 | [],p,_=>rfl
 |q::r,p,h=>by
  rw[zAu p (by simp)]
  cases p with
  |nil=>exact absurd rfl h
  |cons c p=>simp
theorem zG3:∀(ps:List (List Nat)) (p:List Nat),p≠[]→(joinL (ps++[p])).getLast? =p.getLast?
 | [],p,_=>rfl
 |q::r,p,h=>by
  rw[List.cons_append,zAu q (by simp),List.getLast?_append,List.getLast?_cons,zG3 r p h]
  cases hp:p.getLast? with
  |none=>rw[List.getLast?_eq_none_iff]at hp;exact absurd hp h
  |some c=>simp
theorem zB8 {x:Str}:((x.length:Int) !=0)= !decide (sg x=[]):=by
 rw[zB4]
 cases sg x<;>simp
 omega
theorem zMd {place:List Str} (hp:∀x∈place,NameOk x) {way:Str} (hw:(sg way).take 1≠[47]):sg (joinS (slash place) way)=47::joinL ((place++Txt.split way "/").map sg):=by
 have e1:(sg (slash place)=[])=False:=by rw[zBq];simp
 unfold joinS
 rw[zJo,zB8,decide_eq_false hw]
 simp only[e1,decide_false,Bool.not_false,Bool.not_true,Bool.or_self,Bool.false_eq_true,if_false]
 rw[ends_eq]
 by_cases h0:place=[]
 ·subst h0
  have:(sg (slash [])).getLast? =some 47:=by rw[zBq];rfl
  rw[if_pos (decide_eq_true this),zBv,zBq,List.nil_append,←zA0]
  rfl
 ·have hl:(sg (slash place)).getLast? ≠some 47:=by
   rw[zBq]
   rcases List.eq_nil_or_concat place with h|⟨q,n,h⟩
   ·exact absurd h h0
   ·subst h
    have nk:=hp n (by simp)
    rw[List.concat_eq_append,List.map_append,List.map_cons,List.map_nil,List.getLast?_cons,zG3 _ _ nk.sg_ne]
    intro e
    have:(sg n).getLast? =some 47:=by
     cases hg:(sg n).getLast? with
     |none=>rw[List.getLast?_eq_none_iff]at hg;exact absurd hg nk.sg_ne
     |some c=>rw[hg]at e;simpa using e
    exact nk.free (List.mem_of_getLast? this)
  rw[if_neg (by simpa using hl),zBv,zBv,zBq,zBh,List.map_append,zEs _ _ (by simpa using h0) (by simpa using zBp way),←zA0]
  simp
theorem zPo {sl:Str} (hs:sg sl≠[]) {nc:List Str} (hn:∀x∈nc,x≠"..") (c:Str):normStep sl nc c=rowStep nc c:=by
 unfold normStep rowStep
 have e0:∀x:Str,(sg x=[])↔x="":=fun x=>sg_nil.symm
 rw[zB8,zB8]
 by_cases h1:c=""
 ·subst h1
  rw[if_pos (by rw[decide_eq_true (show sg ("":Str)=[]from rfl)];rfl),if_neg (by decide),if_neg (by simp)]
 by_cases h2:c="."
 ·subst h2
  rw[if_pos (by simp),if_neg (by decide),if_neg (by simp)]
 have hc:sg c≠[]:=fun e=>h1 ((e0 c).mp e)
 rw[if_neg (by simp[hc,h2])]
 by_cases h3:c=".."
 ·subst h3
  have hl:nc.getLast?.getD Str.empty≠"..":=by
   cases hg:nc.getLast? with
   |none=>decide
   |some y=>exact hn y (List.mem_of_getLast? hg)
  rw[if_neg (by simp[hs,hl]),if_pos rfl]
  cases nc with
  |nil=>rfl
  |cons a l=>rw[if_pos (by simp)]
 ·rw[if_pos (by simp[h3]),if_neg h3,if_pos (by simp[h1,h2])]
theorem zMh {nc:List Str} (hn:∀x∈nc,x≠"..") (c:Str):∀x∈rowStep nc c,x≠"..":=by
 unfold rowStep
 intro x hx
 split at hx
 ·exact hn x ((List.dropLast_sublist nc).subset hx)
 ·rename_i h
  split at hx
  ·rcases List.mem_append.mp hx with hx|hx
   ·exact hn x hx
   ·rw[List.mem_singleton.mp hx];exact h
  ·exact hn x hx
theorem zGn {sl:Str} (hs:sg sl≠[]):∀(ps:List Str) {nc:List Str},(∀x∈nc,x≠"..")→ps.foldl (normStep sl) nc=ps.foldl rowStep nc
 | [],_,_=>rfl
 |p::ps,nc,hn=>by
  rewrite[List.foldl_cons,List.foldl_cons,zPo hs hn,zGn hs ps (zMh hn p)];rfl
theorem zJf:∀(ps:List Str) {nc:List Str},(∀x∈ps,NameOk x)→ps.foldl rowStep nc=nc++ps
 | [],nc,_=>by simp
 |p::ps,nc,h=>by
  have n:=h p List.mem_cons_self
  rw[List.foldl_cons,show rowStep nc p=nc++[p] by unfold rowStep;rw[if_neg n.d2,if_pos (by intro z;exact z.elim n.ne n.d1)],zJf ps fun x hx=>h x (List.mem_cons_of_mem _ hx)]
  simp
theorem zD7 (nc:List Str):rowStep nc ""=nc:=by
 unfold rowStep;rw[if_neg (by decide),if_neg (by simp)]
theorem slice1 (x:Str):Txt.slice x none (some 1)="/"↔(sg x).take 1=[47]:=by
 rw[zG7,show(1:Int)=((1:Nat):Int)from rfl,zDj,zBh]
theorem slice12 (x:Str):Txt.slice x (some 1) (some 2)="/"↔((sg x).drop 1).take 1=[47]:=by
 rw[zG7,show(1:Int)=((1:Nat):Int)from rfl,show(2:Int)=((2:Nat):Int)from rfl,zCq x (by omega),zBh]
theorem slice23 (x:Str):Txt.slice x (some 2) (some 3)="/"↔((sg x).drop 2).take 1=[47]:=by
 rw[zG7,show(2:Int)=((2:Nat):Int)from rfl,show(3:Int)=((3:Nat):Int)from rfl,zCq x (by omega),zBh]
theorem slice2 (x:Str):Txt.slice x none (some 2)="//"↔(sg x).take 2=[47,47]:=by
 rw[zG7,show(2:Int)=((2:Nat):Int)from rfl,zDj,show sg ("//":Str)=[47,47] by decide]
theorem slice3 (x:Str):Txt.slice x none (some 3)="///"↔(sg x).take 3=[47,47,47]:=by
 rw[zG7,show(3:Int)=((3:Nat):Int)from rfl,zDj,show sg ("///":Str)=[47,47,47] by decide]
theorem zGf {x:Str} {qs:List Str} {l:List Nat} (e:sg x=47::l) (hl:l.take 1≠[47]∨(l.drop 1).take 1=[47]) (hq:l=joinL (qs.map sg)) (hn:qs≠[]) (hf:∀q∈qs,free q):normS x=slash (qs.foldl rowStep []):=by
 have c1:Txt.slice x none (some 1)="/":=(slice1 x).mpr (by rw[e];rfl)
 have c2:(!decide (Txt.slice x (some 1) (some 2)="/")||decide (Txt.slice x (some 2) (some 3)="/"))=true:=by
  simp only[slice12,slice23,e]
  rcases hl with h|h
  ·simp[h]
  ·rw[show List.drop 2 (47::l)=List.drop 1 l from rfl,decide_eq_true h,Bool.or_true]
 have er:rootT x=(("":Str),("/":Str),Txt.slice x (some 1) none):=by
  unfold rootT
  rw[if_neg (by simp[c1]),if_pos c2]
 have es:Txt.split (Txt.slice x (some 1) none) "/"=qs:=zD6 (by rw[show(1:Int)=((1:Nat):Int)from rfl,zGe,e];exact hq) hn hf
 unfold normS
 rw[zB8,if_neg (by rw[e];simp),er]
 dsimp only
 rw[es,zGn (by rw[zBh];simp) qs (nc:=[]) (fun _ m=>nomatch m)]
 have:sg ("/"++Txt.join "/" (qs.foldl rowStep []))≠[]:=by rw[zBv,zBh];simp
 rw[zB8,if_pos (by simp[this])]
 rfl
theorem zPg {x:Str} {qs:List Str} {l:List Nat} (e:sg x=47::47::l) (hl:l.take 1≠[47]) (hq:l=joinL (qs.map sg)) (hn:qs≠[]) (hf:∀q∈qs,free q):normS x="//"++Txt.join "/" (qs.foldl rowStep []):=by
 have c1:Txt.slice x none (some 1)="/":=(slice1 x).mpr (by rw[e];rfl)
 have c2:(!decide (Txt.slice x (some 1) (some 2)="/")||decide (Txt.slice x (some 2) (some 3)="/"))=false:=by
  simp only[slice12,slice23,e]
  simp[hl]
 have s2:Txt.slice x none (some 2)="//":=(slice2 x).mpr (by rw[e];rfl)
 have er:rootT x=(("":Str),("//":Str),Txt.slice x (some 2) none):=by
  unfold rootT
  rw[if_neg (by simp[c1]),if_neg (by rw[c2];decide),s2]
 have es:Txt.split (Txt.slice x (some 2) none) "/"=qs:=zD6 (by rw[show(2:Int)=((2:Nat):Int)from rfl,zGe,e];exact hq) hn hf
 have n2:sg ("//":Str)≠[]:=by decide
 unfold normS
 rw[zB8,if_neg (by rw[e];simp),er]
 dsimp only
 rw[es,zGn n2 qs (nc:=[]) (fun _ m=>nomatch m)]
 have:sg ("//"++Txt.join "/" (qs.foldl rowStep []))≠[]:=by rw[zBv];simp[n2]
 rw[zB8,if_pos (by simp[this])]
theorem zL0 {place:List Str} (hp:∀x∈place,NameOk x) (way:Str):normS (joinS (slash place) way)=targetOf way (rowOf way place):=by
 by_cases hw:(sg way).take 1=[47]
 ·obtain⟨w,ew⟩:∃w,sg way=47::w:=by
   cases h:sg way with
   |nil=>rw[h]at hw;cases hw
   |cons c l=>rw[h]at hw;simp at hw;exact⟨l,by rw[hw]⟩
  have ej:joinS (slash place) way=way:=by
   unfold joinS
   rw[zJo,decide_eq_true hw,if_pos (by simp)]
  rw[ej]
  unfold targetOf rowOf
  rw[if_pos ((slice1 way).mpr hw)]
  have hc:(Txt.slice way none (some 2)="//"∧Txt.slice way none (some 3)≠"///")↔((47::w).take 2=[47,47]∧¬(47::w).take 3=[47,47,47]):=by rw[slice2,Ne,slice3,ew]
  simp only[hc]
  by_cases h2:w.take 1=[47]
  ·obtain⟨v,rfl⟩:∃v,w=47::v:=by
    cases w with
    |nil=>cases h2
    |cons c l=>simp at h2;exact⟨l,by rw[h2]⟩
   by_cases h3:v.take 1=[47]
   ·obtain⟨y,hy⟩:∃y:Str,sg y=47::v:=⟨⟨(47::v).toArray⟩,by simp⟩
    have sp:=zA0 y
    have es:Txt.split way "/"=("":Str)::Txt.split y "/":=zD6 (by rw[ew,List.map_cons,zAu _ (by simpa using zBp y),←sp,hy];rfl) (by simp) (fun p hp=>by
     rcases List.mem_cons.mp hp with rfl|hp
     ·intro m;cases m
     ·exact zA6 y p hp)
    rw[zGf ew (.inr (by simpa using h3)) (qs:=Txt.split y "/") (by rw[←sp,hy]) (zBp y) (zA6 y),es,List.foldl_cons,zD7,if_neg]
    ·rfl
    ·rintro⟨_,h⟩
     apply h
     simp[h3]
   ·obtain⟨y,hy⟩:∃y:Str,sg y=v:=⟨⟨v.toArray⟩,by simp⟩
    have sp:=zA0 y
    have es:Txt.split way "/"=("":Str)::("":Str)::Txt.split y "/":=zD6 (by rw[ew,List.map_cons,zAu _ (by simp),List.map_cons,zAu _ (by simpa using zBp y),←sp,hy];rfl) (by simp) (fun p hp=>by
     rcases List.mem_cons.mp hp with rfl|hp
     ·intro m;cases m
     rcases List.mem_cons.mp hp with rfl|hp
     ·intro m;cases m
     ·exact zA6 y p hp)
    rw[zPg ew h3 (qs:=Txt.split y "/") (by rw[←sp,hy]) (zBp y) (zA6 y),es,List.foldl_cons,zD7,List.foldl_cons,zD7,if_pos]
    refine⟨rfl,fun h=>h3 ?_⟩
    simpa using h
  ·obtain⟨y,hy⟩:∃y:Str,sg y=w:=⟨⟨w.toArray⟩,by simp⟩
   have sp:=zA0 y
   have es:Txt.split way "/"=("":Str)::Txt.split y "/":=zD6 (by rw[ew,List.map_cons,zAu _ (by simpa using zBp y),←sp,hy];rfl) (by simp) (fun p hp=>by
    rcases List.mem_cons.mp hp with rfl|hp
    ·intro m;cases m
    ·exact zA6 y p hp)
   rw[zGf ew (.inl h2) (qs:=Txt.split y "/") (by rw[←sp,hy]) (zBp y) (zA6 y),es,List.foldl_cons,zD7,if_neg]
   ·rfl
   ·rintro⟨h,_⟩
    apply h2
    simpa using h
 ·have sj:=zMd hp hw
  have hq:∀q∈place++Txt.split way "/",free q:=fun q m=>by
   rcases List.mem_append.mp m with m|m
   ·exact(hp q m).free
   ·exact zA6 way q m
  have hh:(joinL ((place++Txt.split way "/").map sg)).take 1≠[47]:=by
   cases hpl:place with
   |nil=>rw[List.nil_append,←zA0];exact hw
   |cons n r=>
    have nk:=hp n (by rw[hpl];simp)
    rw[List.cons_append,List.map_cons,zEb _ _ nk.sg_ne]
    intro e
    have:(47:Nat)∈sg n:=List.mem_of_mem_take (by rw[e];simp)
    exact nk.free this
  rw[zGf sj (.inl hh) rfl (by simp[zBp way]) hq,List.foldl_append,zJf place hp]
  unfold targetOf rowOf
  rw[if_neg (fun h=>hw ((slice1 way).mp h)),if_neg]
  ·rfl
  ·rintro⟨h,_⟩
   rw[slice2]at h
   apply hw
   cases hs:sg way with
   |nil=>rw[hs]at h;cases h
   |cons c l=>rw[hs]at h;simp at h;simp[h.1]
end N2
section N3
open PySem.StrLaws Builtin Builtin.Str
noncomputable abbrev okw (c:Nat):Prop:=okc c∨c=47
theorem zJr:∀{ps:List (List Nat)} {p:List Nat} {c:Nat},p∈ps→c∈p→c∈joinL ps
 | [q],p,c,h,hc=>by rw[List.mem_singleton.mp h]at hc;exact hc
 |q::q'::r,p,c,h,hc=>by
  rw[zAu q (by simp)]
  rcases List.mem_cons.mp h with rfl|h
  ·exact List.mem_append_left _ hc
  ·exact List.mem_append_right _ (List.mem_cons_of_mem _ (zJr h hc))
theorem zD5:∀{ps:List (List Nat)} {c:Nat},c∈joinL ps→c=47∨∃p∈ps,c∈p
 | [],c,h=>by cases h
 | [q],c,h=> .inr ⟨q,List.mem_singleton.mpr rfl,h⟩
 |q::q'::r,c,h=>by
  rw[zAu q (by simp)]at h
  rcases List.mem_append.mp h with h|h
  ·exact .inr ⟨q,List.mem_cons_self,h⟩
  rcases List.mem_cons.mp h with h|h
  ·exact .inl h
  ·rcases zD5 h with h|⟨p,hp,hc⟩
   ·exact .inl h
   ·exact .inr ⟨p,List.mem_cons_of_mem _ hp,hc⟩
theorem zPr {way:Str} (hw:∀c∈sg way,okw c):∀p∈Txt.split way "/",∀c∈sg p,okc c:=fun p hp c hc=>by
 have:c∈sg way:=by rw[zA0 way];exact zJr (List.mem_map_of_mem hp) hc
 rcases hw c this with h|h
 ·exact h
 ·exact absurd (h▸hc) (zA6 way p hp)
theorem step_ok {row:List Str} (hr:∀x∈row,NameOk x) {p:Str} (hp:∀c∈sg p,okc c):∀x∈rowStep row p,NameOk x:=by
 unfold rowStep
 intro x hx
 split at hx
 ·exact hr x ((List.dropLast_sublist row).subset hx)
 ·rename_i h1
  split at hx
  ·rename_i h2
   rcases List.mem_append.mp hx with hx|hx
   ·exact hr x hx
   ·rw[List.mem_singleton.mp hx]
    exact⟨fun e=>h2 (.inl e),hp,fun e=>h2 (.inr e),h1⟩
  ·exact hr x hx
theorem zOg:∀(ps:List Str) {row:List Str},(∀x∈row,NameOk x)→(∀p∈ps,∀c∈sg p,okc c)→∀x∈ps.foldl rowStep row,NameOk x
 | [],_,h,_=>h
 |p::ps,_,h,hp=>zOg ps (step_ok h (hp p List.mem_cons_self)) fun q hq=>hp q (List.mem_cons_of_mem _ hq)
theorem zD1 {way:Str} {place:List Str} (hw:∀c∈sg way,okw c) (hp:∀x∈place,NameOk x):∀x∈rowOf way place,NameOk x:=by
 unfold rowOf
 refine zOg _ ?_ (zPr hw)
 split
 ·exact fun _ m=>nomatch m
 ·exact hp
theorem zM3:∀{a b:List Str},a.map sg=b.map sg→a=b
 | [],[],_=>rfl
 | [],_::_,h=>by simp at h
 |_::_,[],h=>by simp at h
 |x::a,y::b,h=>by simp only[List.map_cons,List.cons.injEq]at h;rw[zHl h.1,zM3 h.2]
theorem zK0 {r:List Str} (h:∀x∈r,NameOk x) (hn:r≠[]):joinL (r.map sg)≠[]:=by
 cases r with
 |nil=>exact absurd rfl hn
 |cons x r=>
  intro e
  have:=zEb (r.map sg) (sg x) (h x List.mem_cons_self).sg_ne
  rw[←List.map_cons,e]at this
  cases hs:sg x with
  |nil=>exact(h x List.mem_cons_self).sg_ne hs
  |cons c l=>rw[hs]at this;simp at this
theorem zIg {r q:List Str} (hr:∀x∈r,NameOk x) (hq:∀x∈q,NameOk x) (e:slash r=slash q):r=q:=by
 have h:joinL (r.map sg)=joinL (q.map sg):=by
  have:=congrArg sg e
  rw[zBq,zBq]at this
  exact(List.cons.inj this).2
 by_cases h1:r=[]
 ·by_cases h2:q=[]
  ·rw[h1,h2]
  ·rw[h1]at h;exact absurd h.symm (zK0 hq h2)
 ·by_cases h2:q=[]
  ·rw[h2]at h;exact absurd h (zK0 hr h1)
  ·refine zM3 (zF2 _ _ (by simpa using h1) (by simpa using h2) (fun p hp=> ?_) (fun p hp=> ?_) h)
   ·obtain⟨y,hy,rfl⟩:=List.mem_map.mp hp;exact(hr y hy).free
   ·obtain⟨y,hy,rfl⟩:=List.mem_map.mp hp;exact(hq y hy).free
theorem zJi {r:List Str} (hr:∀x∈r,NameOk x):Txt.slice (slash r) none (some 2)≠"//":=by
 rw[Ne,slice2,zBq]
 cases r with
 |nil=>decide
 |cons x r=>
  have nk:=hr x List.mem_cons_self
  have:=zEb (r.map sg) (sg x) nk.sg_ne
  intro e
  simp only[List.take_succ_cons,List.cons.injEq,true_and]at e
  rw[List.map_cons,this]at e
  exact nk.free (List.mem_of_mem_take (by rw[e];simp))
theorem zQu {row:List Str}:(sg ("//"++Txt.join "/" row)).take 2=[47,47]:=by
 rw[zBv,show sg ("//":Str)=[47,47] by decide];rfl
theorem zIn (way:Str) {row:List Str} (hr:∀x∈row,NameOk x):
 (Txt.slice (targetOf way row) none (some 2)="//"∧∀r:List Str,(∀x∈r,NameOk x)→targetOf way row≠slash r)∨(targetOf way row=slash row∧Txt.slice (targetOf way row) none (some 2)≠"//"):=by
 unfold targetOf
 split
 ·refine .inl ⟨(slice2 _).mpr zQu,fun r h e=>zJi h ?_⟩
  rw[←e];exact(slice2 _).mpr zQu
 ·exact .inr ⟨rfl,zJi hr⟩
theorem zP3 {p t y:Str} (h:(sg y).length≤(sg t).length):Txt.endswith (p++t) y=Txt.endswith t y:=by
 unfold Txt.endswith
 rw[subAt_eq,subAt_eq]
 have e1:(p++t).length=(sg p).length+(sg t).length:=by rw[zB4,zBv,List.length_append]
 rw[e1,zB4 y,zB4 t]
 have e2:((p++t).cps.toList.drop ((sg p).length+(sg t).length - (sg y).length))=(t.cps.toList.drop ((sg t).length - (sg y).length)):=by
  show(sg (p++t)).drop _=(sg t).drop _
  have e3:(sg p).length+(sg t).length - (sg y).length - (sg p).length=(sg t).length - (sg y).length:=by omega
  rw[zBv,List.drop_append,List.drop_eq_nil_of_le (by omega),List.nil_append,e3]
 rw[e2,decide_eq_true (show 0+(sg y).length≤(sg p).length+(sg t).length by omega),decide_eq_true (show 0+(sg y).length≤(sg t).length by omega)]
theorem char_ok {c:Nat} (h:okw c):reprChar 39 c=[c]:=by
 rcases h with(h|h|h|h)|h<;>subst h<;>decide+kernel
theorem zI5:∀(l:List Nat) (acc:Array Nat),(∀c∈l,okw c)→(l.foldl (fun out c=>out++(reprChar 39 c).toArray) acc).toList=acc.toList++l
 | [],acc,_=>by simp
 |c::l,acc,h=>by
  rw[List.foldl_cons,zI5 l _ fun d hd=>h d (List.mem_cons_of_mem _ hd),char_ok (h c List.mem_cons_self)]
  simp
theorem repr_ok {x:Str} (h:∀c∈sg x,okw c):sg (reprText x)=39::sg x++[39]:=by
 have q:reprQuote x=39:=by
  unfold reprQuote
  have:x.cps.contains 39=false:=by
   rw[←Array.contains_toList]
   cases hc:x.cps.toList.contains 39 with
   |false=>rfl
   |true=>
    have:=h 39 (by simpa using hc)
    rcases this with(h|h|h|h)|h<;>cases h
  rw[this];rfl
 unfold reprText
 rw[q]
 show(Array.push _ _).toList=_
 rw[Array.toList_push,←Array.foldl_toList,zI5 _ _ h]
 simp
noncomputable def wordsT (w:Str):Str:=" "++w
theorem zEj {x w:Str} (h:∀c∈sg x,okw c):nodeMsg x (" "++w)="node '"++x++"' "++w:=by
 apply zHl
 unfold nodeMsg
 simp only[zBv,repr_ok h]
 rw[show sg Str.empty=[]from rfl,show sg ("node ":Str)=[110,111,100,101,32] by decide,show sg ("node '":Str)=[110,111,100,101,32,39] by decide,show sg ("' ":Str)=[39,32] by decide,show sg (" ":Str)=[32] by decide]
 simp
theorem zNx:(" was not added using add()":Str)=" "++wNone:=by decide+kernel
theorem zNi:(" was not passed out (still not ready)":Str)=" "++wWait:=by decide+kernel
theorem zOc:(" was already marked done":Str)=" "++wDone:=by decide+kernel
theorem zNa:Txt.endswith (" was not added using add()":Str) "ready)"=false:=by decide+kernel
theorem zN3:Txt.endswith (" was not passed out (still not ready)":Str) "ready)"=true:=by decide+kernel
theorem zN5:Txt.endswith (" was already marked done":Str) "ready)"=false:=by decide+kernel
theorem zFw {x t:Str} (h:(sg ("ready)":Str)).length≤(sg t).length):Txt.endswith (nodeMsg x t) "ready)"=Txt.endswith t "ready)":=by
 unfold nodeMsg;exact zP3 h
theorem zOd:(sg ("ready)":Str)).length≤(sg (" was not added using add()":Str)).length∧(sg ("ready)":Str)).length≤(sg (" was not passed out (still not ready)":Str)).length∧(sg ("ready)":Str)).length≤(sg (" was already marked done":Str)).length:=by decide+kernel
end N3
section D1
noncomputable def pathOf (r:List Str):Str:=r.foldl joinS "/"
noncomputable def heldOf (paths:List Str) (x:Str):List Str:=paths.filter fun o=> !decide (o=x)&&decide (dirS o=x)
noncomputable def buildStep (paths:List Str) (ns:List Node) (x:Str):List Node:=if heldOf paths x=[]then ns else addN ns x (heldOf paths x)
noncomputable def buildAt (paths:List Str) (i:Nat):List Node:=(paths.take i).foldl (buildStep paths) []
structure Built (rows:List (List Str)):Prop where
 few:∀i,Few (buildAt (rows.map pathOf) i) 800
 held:∀x,(heldOf (rows.map pathOf) x).length≤50
 plen:∀r∈rows,∀j,(pathOf (r.take j)).length≤1000
 pok:∀r∈rows,okS (pathOf r)
noncomputable def wayOk (y:Str):Prop:=(y.length≤100∧okS y)∧∀c∈y.cps.toList,okw c
structure Runs (rows:List (List Str)) (Mir:Srt→DueSt→Prop):Prop where
 down:∀σ:Srt,σ.abs=buildAt (rows.map pathOf) rows.length→∃rank,Down σ rank
 free:∀σ:Srt,σ.abs=buildAt (rows.map pathOf) rows.length→σ.free=firstDue rows
 fin:∀σ:Srt,σ.abs=buildAt (rows.map pathOf) rows.length→∀x∈firstDue rows,(σ.at x).isSome=true
 flen:(firstDue rows).length≤1000
 start:∀(σ:Srt) l,σ.abs=(firstDue rows).foldl (fun ns x=>updN ns x (setNp (-1))) (buildAt (rows.map pathOf) rows.length)→σ.rest=(some (l,[]),((firstDue rows).length:Int),0)→Mir σ ⟨rows,[]⟩
 ready:∀σ d,Mir σ d→∃l,σ.ready=some (l,[])
 few:∀σ d,Mir σ d→Few σ.abs 1000
 hin:∀σ d,Mir σ d→∀x p,σ.at x=some p→∀y∈p.1.succ,(σ.at y).isSome=true
 hnp:∀σ d,Mir σ d→∀x p,σ.at x=some p→ -2≤p.1.np
 target:∀σ d way,Mir σ d→DueOk rows d→wayOk way→normS (joinS (slash d.place) way)=targetOf way (rowOf way d.place)∧(joinS (slash d.place) way).length≤500∧(slash d.place).length≤1000∧(targetOf way (rowOf way d.place)).length≤9000∧∀c∈(targetOf way (rowOf way d.place)).cps.toList,c<16 ^ 8
 gone:∀σ d way x p,Mir σ d→DueOk rows d→wayOk way→targetOf way (rowOf way d.place)=x→σ.at x=some p→p.1.np= -1→
  ∃fr,(∀l,σ.ready=some (l,[])→(σ.done1 x p.1.succ).ready=some (l,fr))∧fr.length≤1000∧(∀y∈fr,((σ.done1 x p.1.succ).at y).isSome=true)∧dueEntry rows d way= .list [.str x, .list [.str "gone", .none], .tuple (fr.map .str)]∧dirS x=slash (dueNext rows d way).place∧
   ∀(σ':Srt) l,σ'.abs=fr.foldl (fun ns x=>updN ns x (setNp (-1))) (σ.done1 x p.1.succ).abs→σ'.rest=(some (l,[]),(σ.done1 x p.1.succ).passed+fr.length,(σ.done1 x p.1.succ).finished)→Mir σ' (dueNext rows d way)
 bad:∀σ d way x m,Mir σ d→DueOk rows d→wayOk way→targetOf way (rowOf way d.place)=x→doneMsg σ x=some m→
  dueEntry rows d way= .list [.str x, .list [.str m, .none], .tuple []]∧(if Txt.endswith m "ready)"=true then x else slash d.place)=slash (dueNext rows d way).place∧∀(σ':Srt) l,σ'.abs=σ.abs→σ'.rest=(some (l,[]),σ.passed,σ.finished)→Mir σ' (dueNext rows d way)
 active:∀σ d,Mir σ d→decide (σ.finished<σ.passed)= !decide (d.standing=[])
end D1
section N4
open PySem.StrLaws
structure RL (rows:List (List Str)):Prop where
 ok:RowsOk rows
 nd:rows.Nodup
 root:[]∈rows
 pre:∀r∈rows,r.dropLast∈rows
 name:∀r∈rows,∀x∈r,NameOk x
 path:∀r∈rows,pathOf r=slash r
 dir:∀r∈rows,dirS (slash r)=slash r.dropLast
 two:∃r∈rows,r≠[]
 plen:∀r∈rows,∀j,(pathOf (r.take j)).length≤1000
 pok:∀r∈rows,okS (pathOf r)
 slen:∀r∈rows,r≠[]→(slash r.dropLast).length<(slash r).length
section
variable {rows:List (List Str)}
theorem RL.inj (R:RL rows) {r q:List Str} (hr:r∈rows) (hq:q∈rows) (e:slash r=slash q):r=q:=zIg (R.name r hr) (R.name q hq) e
theorem RL.paths (R:RL rows):rows.map pathOf=rows.map slash:=List.map_congr_left R.path
theorem kid_iff {r q:List Str}:q∈kidsOf rows r↔q∈rows∧q.dropLast=r∧q≠[]:=by
 unfold kidsOf
 rw[List.mem_filter]
 simp
theorem kid_ne {q r:List Str} (h:q.dropLast=r) (hq:q≠[]):q≠r:=fun e=>by
 have:=congrArg List.length h
 rw[←e,List.length_dropLast]at this
 cases q with
 |nil=>exact hq rfl
 |cons _ _=>simp at this
theorem RL.held (R:RL rows) {r:List Str} (hr:r∈rows):heldOf (rows.map slash) (slash r)=(kidsOf rows r).map slash:=by
 unfold heldOf kidsOf
 rw[List.filter_map]
 congr 1
 refine List.filter_congr fun q hq=> ?_
 simp only[Function.comp_def,R.dir q hq]
 have e1:(slash q=slash r)=(q=r):=propext ⟨R.inj hq hr,fun e=>by rw[e]⟩
 have e2:(slash q.dropLast=slash r)=(q.dropLast=r):=propext ⟨R.inj (R.pre q hq) hr,fun e=>by rw[e]⟩
 simp only[e1,e2]
 rw[Bool.eq_iff_iff]
 simp only[Bool.and_eq_true,Bool.not_eq_true',decide_eq_false_iff_not,decide_eq_true_eq]
 constructor
 ·rintro⟨h1,h2⟩
  exact⟨h2,fun e=>h1 (by rw[e]at h2⊢;exact h2)⟩
 ·rintro⟨h1,h2⟩
  exact⟨kid_ne h1 h2,h1⟩
noncomputable def leaves (rows:List (List Str)):List Str:=(rows.filter fun r=>decide (kidsOf rows r=[])).map slash
theorem RL.leaf (R:RL rows) {r:List Str} (hr:r∈rows):slash r∈leaves rows↔kidsOf rows r=[]:=by
 unfold leaves
 rw[List.mem_map]
 constructor
 ·rintro⟨q,hq,e⟩
  obtain⟨hq,hk⟩:=List.mem_filter.mp hq
  rw[←R.inj hq hr e];simpa using hk
 ·intro h
  exact⟨r,List.mem_filter.mpr ⟨hr,by simpa using h⟩,rfl⟩
noncomputable abbrev nms (ns:List Node):List Str:=ns.map (·.name)
theorem zA9 {ns:List Node} {x:Str} {f:Node→Node} (hf:∀n,(f n).name=n.name):nms (updN ns x f)=nms ns:=by
 unfold nms updN
 rw[List.map_map]
 refine List.map_congr_left fun n _=> ?_
 simp only[Function.comp]
 split
 ·exact hf n
 ·rfl
theorem any_name {ns:List Node} {y:Str}:(ns.any fun n=>decide (n.name=y))=true↔y∈nms ns:=by
 rw[List.any_eq_true,List.mem_map]
 constructor
 ·rintro⟨n,hn,h⟩;exact⟨n,hn,by simpa using h⟩
 ·rintro⟨n,hn,h⟩;exact⟨n,hn,by simpa using h⟩
theorem zG8 {ns:List Node} {y:Str} (h:y∈nms ns):ensureN ns y=ns:=by
 unfold ensureN;rw[if_pos (any_name.mpr h)]
theorem zG4 {ns:List Node} {y:Str} (h:y∉nms ns):ensureN ns y=ns++[⟨y,0,[]⟩]:=by
 unfold ensureN;rw[if_neg fun q=>h (any_name.mp q)]
theorem zC4 {ns:List Node} {x:Str} {f:Node→Node} {n:Node} (h:n∈updN ns x f):∃m∈ns,n=if m.name=x then f m else m:=by
 unfold updN at h
 obtain⟨m,hm,e⟩:=List.mem_map.mp h
 exact⟨m,hm,e.symm⟩
structure Inv (rows lk pr:List (List Str)) (ns:List Node):Prop where
 nd:(nms ns).Nodup
 el:∀n∈ns,∃r∈rows,n.name=slash r∧(r∈lk∨r∈pr)∧n.np=(if r∈pr then((kidsOf rows r).length:Int)else 0)∧n.succ=(if r∈lk then[slash r.dropLast]else[])
 has:∀r∈rows,r∈lk∨r∈pr→slash r∈nms ns
 ord:(nms ns).filter (fun x=>decide (x∈leaves rows))=(lk.filter fun r=>decide (kidsOf rows r=[])).map slash
 prn:∀r∈pr,kidsOf rows r≠[]
theorem Inv.not {lk pr:List (List Str)} {ns:List Node} (R:RL rows) (I:Inv rows lk pr ns) {r:List Str} (hr:r∈rows) (h1:r∉lk) (h2:r∉pr):slash r∉nms ns:=fun m=>by
 obtain⟨n,hn,e⟩:=List.mem_map.mp m
 obtain⟨q,hq,e1,e2,_⟩:=I.el n hn
 have:q=r:=R.inj hq hr (by rw[←e1,e])
 subst this
 exact e2.elim h1 h2
theorem Inv.parent {lk pr:List (List Str)} {ns:List Node} (R:RL rows) (I:Inv rows lk pr ns) {r:List Str} (hr:r∈rows) (hk:kidsOf rows r≠[]) (h2:r∉pr):
 Inv rows lk (pr++[r]) (updN (ensureN ns (slash r)) (slash r) (addNp (kidsOf rows r).length)):=by
 have hf:∀n:Node,(addNp (kidsOf rows r).length n).name=n.name:=fun _=>rfl
 have hnl:slash r∉leaves rows:=fun m=>hk ((R.leaf hr).mp m)
 have key:∀m:Node,∀q∈rows,m.name=slash q→(q∈lk∨q∈pr∨q=r)→m.np=(if q∈pr then((kidsOf rows q).length:Int)else 0)→m.succ=(if q∈lk then[slash q.dropLast]else[])→
  ∃p∈rows,(if m.name=slash r then addNp (kidsOf rows r).length m else m).name=slash p∧(p∈lk∨p∈pr++[r])∧(if m.name=slash r then addNp (kidsOf rows r).length m else m).np=(if p∈pr++[r]then((kidsOf rows p).length:Int)else 0)∧(if m.name=slash r then addNp (kidsOf rows r).length m else m).succ=(if p∈lk then[slash p.dropLast]else[]):=by
  intro m q hq e1 e2 e3 e4
  refine⟨q,hq,?_⟩
  by_cases h:q=r
  ·subst h
   rw[if_pos e1]
   rw[if_neg h2]at e3
   exact⟨e1, .inr (by simp),by simp[addNp,e3],e4⟩
  ·rw[if_neg (fun z=>h (R.inj hq hr (by rw[←e1,z])))]
   have:(q∈pr++[r])=(q∈pr):=by simp[h]
   simp only[this]
   exact⟨e1,(e2.imp id fun z=>z.resolve_right h),e3,e4⟩
 by_cases hin:slash r∈nms ns
 ·rw[zG8 hin]
  refine⟨by rw[zA9 hf];exact I.nd,fun n hn=> ?_,fun q hq h=> ?_,by rw[zA9 hf];exact I.ord,fun q hq=> ?_⟩
  ·obtain⟨m,hm,rfl⟩:=zC4 hn
   obtain⟨q,hq,e1,e2,e3,e4⟩:=I.el m hm
   exact key m q hq e1 (e2.imp id .inl) e3 e4
  ·rw[zA9 hf]
   by_cases hqr:q=r
   ·exact hqr▸hin
   ·exact I.has q hq (h.imp id fun z=>by simpa[hqr]using z)
  ·rcases List.mem_append.mp hq with hq|hq
   ·exact I.prn q hq
   ·rw[List.mem_singleton.mp hq];exact hk
 ·rw[zG4 hin]
  have nn:nms (ns++[⟨slash r,0,[]⟩])=nms ns++[slash r]:=by simp
  have hl:r∉lk:=fun m=>hin (I.has r hr (.inl m))
  refine⟨?_,fun n hn=> ?_,fun q hq h=> ?_,?_,fun q hq=> ?_⟩
  ·rw[zA9 hf,nn,List.nodup_append]
   exact⟨I.nd,by simp,fun a ha b hb=>by rw[List.mem_singleton.mp hb];exact fun z=>hin (z▸ha)⟩
  ·obtain⟨m,hm,rfl⟩:=zC4 hn
   rcases List.mem_append.mp hm with hm|hm
   ·obtain⟨q,hq,e1,e2,e3,e4⟩:=I.el m hm
    exact key m q hq e1 (e2.imp id .inl) e3 e4
   ·rw[List.mem_singleton.mp hm]
    exact key _ r hr rfl (.inr (.inr rfl)) (by rw[if_neg h2]) (by rw[if_neg hl])
  ·rw[zA9 hf,nn]
   by_cases hqr:q=r
   ·rw[hqr];simp
   ·exact List.mem_append_left _ (I.has q hq (h.imp id fun z=>by simpa[hqr]using z))
  ·rw[zA9 hf,nn,List.filter_append,I.ord]
   simp[hnl]
  ·rcases List.mem_append.mp hq with hq|hq
   ·exact I.prn q hq
   ·rw[List.mem_singleton.mp hq];exact hk
theorem Inv.link {lk pr:List (List Str)} {ns:List Node} (R:RL rows) (I:Inv rows lk pr ns) {r:List Str} (hr:r∈rows) (h1:r∉lk):
 Inv rows (lk++[r]) pr (addStep (slash r.dropLast) ns (slash r)):=by
 unfold addStep
 have hf:∀n:Node,(addSucc (slash r.dropLast) n).name=n.name:=fun _=>rfl
 have key:∀m:Node,∀q∈rows,m.name=slash q→(q∈lk∨q∈pr∨q=r)→m.np=(if q∈pr then((kidsOf rows q).length:Int)else 0)→m.succ=(if q∈lk then[slash q.dropLast]else[])→
  ∃p∈rows,(if m.name=slash r then addSucc (slash r.dropLast) m else m).name=slash p∧(p∈lk++[r]∨p∈pr)∧(if m.name=slash r then addSucc (slash r.dropLast) m else m).np=(if p∈pr then((kidsOf rows p).length:Int)else 0)∧(if m.name=slash r then addSucc (slash r.dropLast) m else m).succ=(if p∈lk++[r]then[slash p.dropLast]else[]):=by
  intro m q hq e1 e2 e3 e4
  refine⟨q,hq,?_⟩
  by_cases h:q=r
  ·subst h
   rw[if_pos e1]
   rw[if_neg h1]at e4
   exact⟨e1, .inl (by simp),e3,by simp[addSucc,e4]⟩
  ·rw[if_neg (fun z=>h (R.inj hq hr (by rw[←e1,z])))]
   have:(q∈lk++[r])=(q∈lk):=by simp[h]
   simp only[this]
   exact⟨e1,e2.elim .inl fun z=> .inr (z.resolve_right h),e3,e4⟩
 have hord:∀L:List Str,L.filter (fun x=>decide (x∈leaves rows))=(lk.filter fun r=>decide (kidsOf rows r=[])).map slash→(kidsOf rows r=[]→False)→L.filter (fun x=>decide (x∈leaves rows))=((lk++[r]).filter fun r=>decide (kidsOf rows r=[])).map slash:=by
  intro L h hk
  rw[h,List.filter_append]
  have:([r].filter fun r=>decide (kidsOf rows r=[]))=[]:=by simpa using hk
  rw[this,List.append_nil]
 by_cases hin:slash r∈nms ns
 ·rw[zG8 hin]
  have hpr:r∈pr:=by
   by_cases h:r∈pr
   ·exact h
   ·exact absurd hin (I.not R hr h1 h)
  refine⟨by rw[zA9 hf];exact I.nd,fun n hn=> ?_,fun q hq h=> ?_,by rw[zA9 hf];exact hord _ I.ord (I.prn r hpr),I.prn⟩
  ·obtain⟨m,hm,rfl⟩:=zC4 hn
   obtain⟨q,hq,e1,e2,e3,e4⟩:=I.el m hm
   exact key m q hq e1 (e2.imp id .inl) e3 e4
  ·rw[zA9 hf]
   by_cases hqr:q=r
   ·exact hqr▸hin
   ·exact I.has q hq (h.imp (fun z=>by simpa[hqr]using z) id)
 ·rw[zG4 hin]
  have nn:nms (ns++[⟨slash r,0,[]⟩])=nms ns++[slash r]:=by simp
  have hp:r∉pr:=fun m=>hin (I.has r hr (.inr m))
  refine⟨?_,fun n hn=> ?_,fun q hq h=> ?_,?_,I.prn⟩
  ·rw[zA9 hf,nn,List.nodup_append]
   exact⟨I.nd,by simp,fun a ha b hb=>by rw[List.mem_singleton.mp hb];exact fun z=>hin (z▸ha)⟩
  ·obtain⟨m,hm,rfl⟩:=zC4 hn
   rcases List.mem_append.mp hm with hm|hm
   ·obtain⟨q,hq,e1,e2,e3,e4⟩:=I.el m hm
    exact key m q hq e1 (e2.imp id .inl) e3 e4
   ·rw[List.mem_singleton.mp hm]
    exact key _ r hr rfl (.inr (.inr rfl)) (by rw[if_neg hp]) (by rw[if_neg h1])
  ·rw[zA9 hf,nn]
   by_cases hqr:q=r
   ·rw[hqr];simp
   ·exact List.mem_append_left _ (I.has q hq (h.imp (fun z=>by simpa[hqr]using z) id))
  ·rw[zA9 hf,nn,List.filter_append,I.ord,List.filter_append,List.map_append]
   congr 1
   by_cases hk:kidsOf rows r=[]
   ·simp[(R.leaf hr).mpr hk,hk]
   ·have:slash r∉leaves rows:=fun m=>hk ((R.leaf hr).mp m)
    simp[this,hk]
theorem Inv.kids (R:RL rows) {r:List Str} {pr:List (List Str)}:∀(K:List (List Str)) {lk:List (List Str)} {ns:List Node},Inv rows lk pr ns→(∀q∈K,q∈rows∧q.dropLast=r)→K.Nodup→(∀q∈K,q∉lk)→Inv rows (lk++K) pr ((K.map slash).foldl (addStep (slash r)) ns)
 | [],lk,ns,I,_,_,_=>by simpa using I
 |q::K,lk,ns,I,h,nd,nl=>by
  obtain⟨hq,e⟩:=h q List.mem_cons_self
  have I₁:=I.link R hq (nl q List.mem_cons_self)
  rw[e]at I₁
  have n:=List.nodup_cons.mp nd
  have:=Inv.kids R K I₁ (fun p hp=>h p (List.mem_cons_of_mem _ hp)) n.2 fun p hp m=>by
   rcases List.mem_append.mp m with m|m
   ·exact nl p (List.mem_cons_of_mem _ hp) m
   ·exact n.1 (List.mem_singleton.mp m▸hp)
  rw[List.map_cons,List.foldl_cons,List.append_cons]
  exact this
theorem Inv.go (R:RL rows):∀(ps done:List (List Str)) {ns:List Node},Inv rows (done.flatMap (kidsOf rows)) (done.filter fun r=> !decide (kidsOf rows r=[])) ns→(∀r∈ps,r∈rows)→(done++ps).Nodup→
 Inv rows ((done++ps).flatMap (kidsOf rows)) ((done++ps).filter fun r=> !decide (kidsOf rows r=[])) ((ps.map slash).foldl (buildStep (rows.map slash)) ns)
 | [],done,ns,I,_,_=>by simpa using I
 |r::ps,done,ns,I,h,nd=>by
  have hr:=h r List.mem_cons_self
  have hnp:r∉done:=fun m=>(List.nodup_append.mp nd).2.2 r m r List.mem_cons_self rfl
  have e1:(r::([]:List (List Str))).flatMap (kidsOf rows)=kidsOf rows r:=by simp
  have step:Inv rows ((done++[r]).flatMap (kidsOf rows)) ((done++[r]).filter fun r=> !decide (kidsOf rows r=[])) (buildStep (rows.map slash) ns (slash r)):=by
   rw[List.flatMap_append,List.filter_append,e1]
   unfold buildStep
   rw[R.held hr]
   by_cases hk:kidsOf rows r=[]
   ·rw[if_pos (by rw[hk];rfl)]
    have e2:([r].filter fun r=> !decide (kidsOf rows r=[]))=[]:=by simp[hk]
    rw[hk,e2,List.append_nil,List.append_nil]
    exact I
   ·rw[if_neg (by simpa using hk)]
    have e2:([r].filter fun r=> !decide (kidsOf rows r=[]))=[r]:=by simp[hk]
    rw[e2]
    unfold addN
    rw[List.length_map]
    have I₁:=I.parent R hr hk (fun m=>hnp (List.mem_filter.mp m).1)
    exact Inv.kids R (kidsOf rows r) I₁ (fun q hq=>⟨(kid_iff.mp hq).1,(kid_iff.mp hq).2.1⟩) (R.nd.filter _) fun q hq m=>by
     obtain⟨p,hp,hq'⟩:=List.mem_flatMap.mp m
     have e1:=(kid_iff.mp hq).2.1
     have e2:=(kid_iff.mp hq').2.1
     exact hnp (by rw[←e1,e2];exact hp)
  have:=Inv.go R ps (done++[r]) step (fun q hq=>h q (List.mem_cons_of_mem _ hq)) (by simpa using nd)
  rw[List.map_cons,List.foldl_cons,List.append_cons]
  exact this
theorem Inv.build (R:RL rows) (ps:List (List Str)) (h:∀r∈ps,r∈rows) (nd:ps.Nodup):
 Inv rows (ps.flatMap (kidsOf rows)) (ps.filter fun r=> !decide (kidsOf rows r=[])) ((ps.map slash).foldl (buildStep (rows.map slash)) []):=
 Inv.go R ps [] ⟨by simp,(fun _ m=>nomatch m),(fun _ _ h=>by rcases h with h|h<;>cases h),by simp,fun _ m=>nomatch m⟩ h nd
structure Full (rows:List (List Str)) (ns:List Node):Prop where
 nd:(nms ns).Nodup
 el:∀n∈ns,∃r∈rows,n.name=slash r∧n.np=((kidsOf rows r).length:Int)∧n.succ=(if r=[]then[]else[slash r.dropLast])
 has:∀r∈rows,slash r∈nms ns
 free:((ns.filter fun n=>n.np==0).map (·.name))=firstDue rows
theorem RL.kid (R:RL rows):kidsOf rows []≠[]:=by
 obtain⟨r,hr,hn⟩:=R.two
 have key:∀(k:Nat) (r:List Str),r.length=k+1→r∈rows→∃q∈rows,q.dropLast=[]∧q≠[]:=by
  intro k
  induction k with
  |zero=>
   intro r hl hr
   refine⟨r,hr,?_,fun e=>by rw[e]at hl;cases hl⟩
   apply List.eq_nil_of_length_eq_zero
   rw[List.length_dropLast];omega
  |succ k ih=>
   intro r hl hr
   exact ih r.dropLast (by rw[List.length_dropLast];omega) (R.pre r hr)
 obtain⟨q,hq,e1,e2⟩:=key (r.length - 1) r (by cases r with|nil=>exact absurd rfl hn|cons _ _=>simp) hr
 intro e
 have:=kid_iff.mpr ⟨hq,e1,e2⟩
 rw[e]at this;cases this
theorem Inv.full (R:RL rows):Full rows (buildAt (rows.map pathOf) rows.length):=by
 have I:=Inv.build R rows (fun _ h=>h) R.nd
 have e:buildAt (rows.map pathOf) rows.length=(rows.map slash).foldl (buildStep (rows.map slash)) []:=by
  unfold buildAt
  rw[R.paths,List.take_of_length_le (by simp)]
 rw[e]
 generalize (rows.map slash).foldl (buildStep (rows.map slash)) []=ns at I
 have hlk:∀r∈rows,r∈rows.flatMap (kidsOf rows)↔r≠[]:=fun r hr=>by
  rw[List.mem_flatMap]
  constructor
  ·rintro⟨p,_,h⟩;exact(kid_iff.mp h).2.2
  ·intro h;exact⟨r.dropLast,R.pre r hr,kid_iff.mpr ⟨hr,rfl,h⟩⟩
 have hpr:∀r∈rows,r∈(rows.filter fun r=> !decide (kidsOf rows r=[]))↔kidsOf rows r≠[]:=fun r hr=>by
  rw[List.mem_filter];simp[hr]
 have el:∀n∈ns,∃r∈rows,n.name=slash r∧n.np=((kidsOf rows r).length:Int)∧n.succ=(if r=[]then[]else[slash r.dropLast]):=fun n hn=>by
  obtain⟨r,hr,e1,_,e3,e4⟩:=I.el n hn
  refine⟨r,hr,e1,?_,?_⟩
  ·rw[e3]
   by_cases h:kidsOf rows r=[]
   ·rw[if_neg (fun m=>(hpr r hr).mp m h),h];rfl
   ·rw[if_pos ((hpr r hr).mpr h)]
  ·rw[e4]
   by_cases h:r=[]
   ·rw[if_neg (fun m=>(hlk r hr).mp m h),if_pos h]
   ·rw[if_pos ((hlk r hr).mpr h),if_neg h]
 refine⟨I.nd,el,fun r hr=> ?_,?_⟩
 ·by_cases h:r=[]
  ·exact I.has r hr (.inr ((hpr r hr).mpr (h▸R.kid)))
  ·exact I.has r hr (.inl ((hlk r hr).mpr h))
 ·have:(ns.filter fun n=>n.np==0)=ns.filter fun n=>decide (n.name∈leaves rows):=by
   refine List.filter_congr fun n hn=> ?_
   obtain⟨r,hr,e1,e2,_⟩:=el n hn
   rw[e1,e2]
   rw[Bool.eq_iff_iff]
   simp only[beq_iff_eq,decide_eq_true_eq,R.leaf hr]
   constructor
   ·intro h;exact List.eq_nil_of_length_eq_zero (by omega)
   ·intro h;rw[h];rfl
  rw[this]
  have h2:=I.ord
  unfold nms at h2
  rw[List.filter_map]at h2
  unfold firstDue orderOf
  rw[←h2];rfl
theorem RL.built (R:RL rows):Built rows:=by
 refine⟨fun i=> ?_,fun x=> ?_,R.plen,R.pok⟩
 ·have I:=Inv.build R (rows.take i) (fun r h=>List.mem_of_mem_take h) (R.nd.sublist (List.take_sublist i rows))
  have e:buildAt (rows.map pathOf) i=((rows.take i).map slash).foldl (buildStep (rows.map slash)) []:=by
   unfold buildAt
   rw[R.paths,List.map_take]
  rw[e]
  generalize ((rows.take i).map slash).foldl (buildStep (rows.map slash)) []=ns at I
  constructor
  ·have h1:(nms ns).length≤(rows.map slash).length:=zBx I.nd fun a ha=>by
    obtain⟨n,hn,rfl⟩:=List.mem_map.mp ha
    obtain⟨r,hr,e1,_⟩:=I.el n hn
    rw[e1];exact List.mem_map_of_mem hr
   have:=R.ok.few
   simp at h1;omega
  ·intro n hn
   obtain⟨r,hr,_,_,_,e4⟩:=I.el n hn
   rw[e4];split<;>simp
 ·rw[R.paths]
  have:=List.length_filter_le (fun o=> !decide (o=x)&&decide (dirS o=x)) (rows.map slash)
  have h:=R.ok.few
  unfold heldOf
  simp at this⊢;omega
end
end N4
section N5
open PySem.StrLaws
section
variable {rows:List (List Str)} {σ:Srt} {d:DueSt}
noncomputable def npOf (st:List (List Str)) (r:List Str):Int:=if r∉st then -2 else if kidsOf st r=[]then -1 else((kidsOf st r).length:Int)
noncomputable def leavesOf (st:List (List Str)):List (List Str):=st.filter fun r=>decide (kidsOf st r=[])
structure MirO (rows:List (List Str)) (σ:Srt) (d:DueSt):Prop where
 nd:(nms σ.abs).Nodup
 el:∀n∈σ.abs,∃r∈rows,n.name=slash r∧n.np=npOf d.standing r∧n.succ=(if r=[]then[]else[slash r.dropLast])
 has:∀r∈rows,slash r∈nms σ.abs
 ready:∃l,σ.ready=some (l,[])
 fin:σ.finished=(rows.length:Int) - d.standing.length
 pas:σ.passed=σ.finished+((leavesOf d.standing).length:Int)
 sub:∀r∈d.standing,r∈rows
 snd:d.standing.Nodup
 spre:∀r∈d.standing,r≠[]→r.dropLast∈d.standing
 place:∀x∈d.place,NameOk x
theorem zGl {x:Str} (h:x∈nms σ.abs):(σ.at x).isSome=true:=by
 obtain⟨n,hn,e⟩:=List.mem_map.mp h
 obtain⟨p,hp,rfl⟩:=List.mem_map.mp hn
 unfold Srt.at
 rw[List.find?_isSome]
 exact⟨p,hp,by simpa using e⟩
theorem at_abs' {x:Str} {p:Node×NodeAddr} (h:σ.at x=some p):p.1∈σ.abs∧p.1.name=x:=⟨List.mem_map_of_mem (zBb h).1,(zBb h).2⟩
theorem zFy (i:Int):∀(L:List Str) (ns:List Node),nms (L.foldl (fun ns x=>updN ns x (setNp i)) ns)=nms ns
 | [],_=>rfl
 |x::L,ns=>by rw[List.foldl_cons,zFy i L,zA9 (f:=setNp i) fun _=>rfl]
theorem zJ3 (i:Int):∀(L:List Str) {ns:List Node} {n:Node},n∈L.foldl (fun ns x=>updN ns x (setNp i)) ns→∃m∈ns,n=if m.name∈L then setNp i m else m
 | [],ns,n,h=>⟨n,h,by simp⟩
 |x::L,ns,n,h=>by
  obtain⟨m,hm,e⟩:=zJ3 i L h
  obtain⟨m',hm',e'⟩:=zC4 hm
  refine⟨m',hm',?_⟩
  have hname:m.name=m'.name:=by rw[e'];split<;>rfl
  rw[e,hname,e']
  by_cases h1:m'.name=x
  ·rw[if_pos h1,if_pos (show m'.name∈x::L from h1▸List.mem_cons_self)]
   split<;>rfl
  ·rw[if_neg h1]
   have:(m'.name∈x::L)=(m'.name∈L):=by simp[h1]
   simp only[this]
theorem RL.firstDue_mem (R:RL rows) {r:List Str} (hr:r∈rows):slash r∈firstDue rows↔kidsOf rows r=[]:=by
 unfold firstDue orderOf
 rw[List.mem_map]
 constructor
 ·rintro⟨q,hq,e⟩
  obtain⟨hq,hk⟩:=List.mem_filter.mp hq
  obtain⟨p,_,hq⟩:=List.mem_flatMap.mp hq
  rw[←R.inj hr (kid_iff.mp hq).1 e.symm]at hk
  simpa using hk
 ·intro h
  refine⟨r,List.mem_filter.mpr ⟨List.mem_flatMap.mpr ⟨r.dropLast,R.pre r hr,kid_iff.mpr ⟨hr,rfl,fun e=>R.kid (e▸h)⟩⟩,by simpa using h⟩,rfl⟩
theorem RL.firstDue_row (R:RL rows) {x:Str} (h:x∈firstDue rows):∃r∈rows,x=slash r:=by
 unfold firstDue at h
 obtain⟨q,hq,rfl⟩:=List.mem_map.mp h
 exact⟨q,zF1 q (List.mem_filter.mp hq).1,rfl⟩
theorem zFp {α β:Type} {f:α→β}:∀{l:List α},l.Nodup→(∀a∈l,∀b∈l,f a=f b→a=b)→(l.map f).Nodup
 | [],_,_=>by simp
 |a::l,n,h=>by
  have n':=List.nodup_cons.mp n
  rw[List.map_cons,List.nodup_cons]
  refine⟨fun m=> ?_,zFp n'.2 fun x hx y hy=>h x (List.mem_cons_of_mem _ hx) y (List.mem_cons_of_mem _ hy)⟩
  obtain⟨b,hb,e⟩:=List.mem_map.mp m
  exact n'.1 (h b (List.mem_cons_of_mem _ hb) a List.mem_cons_self e▸hb)
theorem RL.firstDue_len (R:RL rows):(firstDue rows).length=(leavesOf rows).length:=by
 have Fu:=Inv.full R
 have nd1:(firstDue rows).Nodup:=by
  rw[←Fu.free]
  exact Fu.nd.sublist (List.Sublist.map _ List.filter_sublist)
 have nd2:((leavesOf rows).map slash).Nodup:=zFp (R.nd.filter _) fun a ha b hb e=>R.inj (List.mem_filter.mp ha).1 (List.mem_filter.mp hb).1 e
 have h1:(firstDue rows).length≤((leavesOf rows).map slash).length:=zBx nd1 fun x hx=>by
  obtain⟨r,hr,rfl⟩:=R.firstDue_row hx
  exact List.mem_map_of_mem (List.mem_filter.mpr ⟨hr,by simpa using(R.firstDue_mem hr).mp hx⟩)
 have h2:((leavesOf rows).map slash).length≤(firstDue rows).length:=zBx nd2 fun x hx=>by
  obtain⟨r,hr,rfl⟩:=List.mem_map.mp hx
  obtain⟨hr,hk⟩:=List.mem_filter.mp hr
  exact(R.firstDue_mem hr).mpr (by simpa using hk)
 rw[List.length_map]at h1 h2
 omega
theorem MirO.start (R:RL rows) {l:Addr} (ab:σ.abs=(firstDue rows).foldl (fun ns x=>updN ns x (setNp (-1))) (buildAt (rows.map pathOf) rows.length)) (re:σ.rest=(some (l,[]),((firstDue rows).length:Int),0)):MirO rows σ ⟨rows,[]⟩:=by
 have Fu:=Inv.full R
 have e1:σ.ready=some (l,[]):=congrArg (·.1) re
 have e2:σ.passed=((firstDue rows).length:Int):=congrArg (·.2.1) re
 have e3:σ.finished=0:=congrArg (·.2.2) re
 refine⟨by rw[ab,zFy];exact Fu.nd,fun n hn=> ?_,fun r hr=>by rw[ab,zFy];exact Fu.has r hr,⟨l,e1⟩,?_,?_,fun _ h=>h,R.nd,fun r hr _=>R.pre r hr,fun _ m=>nomatch m⟩
 ·rw[ab]at hn
  obtain⟨m,hm,rfl⟩:=zJ3 (-1) _ hn
  obtain⟨r,hr,h1,h2,h3⟩:=Fu.el m hm
  refine⟨r,hr,?_,?_,?_⟩
  ·split<;>exact h1
  ·show _=npOf rows r
   have en:npOf rows r=if kidsOf rows r=[]then -1 else((kidsOf rows r).length:Int):=by
    unfold npOf;rw[if_neg (fun z=>z hr)]
   rw[en]
   by_cases hk:kidsOf rows r=[]
   ·rw[if_pos (show m.name∈firstDue rows by rw[h1];exact(R.firstDue_mem hr).mpr hk),if_pos hk];rfl
   ·rw[if_neg (show m.name∉firstDue rows by rw[h1];exact fun z=>hk ((R.firstDue_mem hr).mp z)),if_neg hk,h2]
  ·split<;>exact h3
 ·rw[e3];simp
 ·rw[e2,e3,R.firstDue_len];simp
theorem MirO.same {σ':Srt} (M:MirO rows σ d) {l:Addr} (ab:σ'.abs=σ.abs) (re:σ'.rest=(some (l,[]),σ.passed,σ.finished)) {d':DueSt} (e:d'.standing=d.standing) (hp:∀x∈d'.place,NameOk x):MirO rows σ' d':=by
 have e1:σ'.ready=some (l,[]):=congrArg (·.1) re
 have e2:σ'.passed=σ.passed:=congrArg (·.2.1) re
 have e3:σ'.finished=σ.finished:=congrArg (·.2.2) re
 refine⟨by rw[ab];exact M.nd,by rw[ab,e];exact M.el,by rw[ab];exact M.has,⟨l,e1⟩,by rw[e3,e];exact M.fin,by rw[e2,e3,e];exact M.pas,by rw[e];exact M.sub,by rw[e];exact M.snd,by rw[e];exact M.spre,hp⟩
theorem MirO.active (R:RL rows) (M:MirO rows σ d):decide (σ.finished<σ.passed)= !decide (d.standing=[]):=by
 have key:∀(k:Nat) (r:List Str),3 - r.length≤k→r∈d.standing→∃q∈d.standing,kidsOf d.standing q=[]:=by
  intro k
  induction k with
  |zero=>
   intro r hk hr
   refine⟨r,hr,?_⟩
   cases hq:kidsOf d.standing r with
   |nil=>rfl
   |cons q l=>
    have hq':q∈kidsOf d.standing r:=by rw[hq];exact List.mem_cons_self
    obtain⟨h1,h2,h3⟩:=kid_iff.mp hq'
    have h4:=R.ok.short q (M.sub q h1)
    have h5:=congrArg List.length h2
    rw[List.length_dropLast]at h5
    have h7:=Nat.sub_add_cancel (Nat.pos_of_ne_zero fun z=>h3 (List.eq_nil_of_length_eq_zero z))
    rw[h5]at h7
    exact absurd (Nat.le_trans (Nat.succ_le_succ (Nat.le_of_sub_eq_zero (Nat.le_zero.mp hk))) (h7▸h4)) (by decide)
  |succ k ih=>
   intro r hk hr
   cases hq:kidsOf d.standing r with
   |nil=>exact⟨r,hr,hq⟩
   |cons q l=>
    have hq':q∈kidsOf d.standing r:=by rw[hq];exact List.mem_cons_self
    obtain⟨h1,h2,h3⟩:=kid_iff.mp hq'
    have h5:=congrArg List.length h2
    rw[List.length_dropLast]at h5
    have h6:q.length≠0:=fun z=>h3 (List.eq_nil_of_length_eq_zero z)
    exact ih q (by omega) h1
 rw[M.pas]
 by_cases h:d.standing=[]
 ·rw[h];simp[leavesOf]
 ·obtain⟨r,hr⟩:=List.exists_mem_of_ne_nil _ h
  obtain⟨q,hq,hk⟩:=key 3 r (by omega) hr
  have:q∈leavesOf d.standing:=List.mem_filter.mpr ⟨hq,by simpa using hk⟩
  have hpos:0<(leavesOf d.standing).length:=List.length_pos_of_mem this
  rw[decide_eq_false h,decide_eq_true (by omega)];rfl
end
end N5
section N6
open PySem.StrLaws
section
variable {rows:List (List Str)} {σ:Srt} {d:DueSt}
noncomputable def wt (r:List Str):Nat:=(r.map fun x=>x.length+1).sum
theorem zQx (a b:List Str):wt (a++b)=wt a+wt b:=by simp[wt]
theorem wt_drop (r:List Str):wt r.dropLast≤wt r:=by
 rcases List.eq_nil_or_concat r with h|⟨l,x,h⟩
 ·subst h;simp[wt]
 ·subst h;rw[List.concat_eq_append,List.dropLast_concat,zQx];omega
theorem wt_step (r:List Str) (p:Str):wt (rowStep r p)≤wt r+(p.length+1):=by
 unfold rowStep
 split
 ·have:=wt_drop r;omega
 ·split
  ·rw[zQx];simp[wt]
  ·omega
theorem zM2:∀(ps:List Str) (r:List Str),wt (ps.foldl rowStep r)≤wt r+wt ps
 | [],r=>by simp[wt]
 |p::ps,r=>by
  have h1:=zM2 ps (rowStep r p)
  have h2:=wt_step r p
  have h3:wt (p::ps)=(p.length+1)+wt ps:=by simp[wt]
  rw[List.foldl_cons];omega
theorem zFx:∀(ps:List Str),ps≠[]→(joinL (ps.map sg)).length+1=wt ps
 | [],h=>absurd rfl h
 | [p],_=>by simp[joinL,wt,zB4]
 |p::q::r,_=>by
  have:=zFx (q::r) (by simp)
  rw[List.map_cons,zAu _ (by simp),List.length_append,List.length_cons]
  have e:wt (p::q::r)=(p.length+1)+wt (q::r):=by simp[wt]
  rw[e,zB4];omega
theorem zH7 (ps:List Str):(joinL (ps.map sg)).length≤wt ps:=by
 by_cases h:ps=[]
 ·subst h;simp[joinL,wt]
 ·have:=zFx ps h;omega
theorem zQm (x:Str):wt (Txt.split x "/")=x.length+1:=by
 rw[←zFx _ (zBp x),←zA0,zB4]
theorem zQi (way:Str) (place:List Str):wt (rowOf way place)≤wt place+way.length+1:=by
 unfold rowOf
 have h:=zM2 (Txt.split way "/") (if Txt.slice way none (some 1)="/" then[]else place)
 rw[zQm]at h
 have:wt (if Txt.slice way none (some 1)="/" then[]else place)≤wt place:=by
  split
  ·simp[wt]
  ·exact Nat.le_refl _
 omega
theorem wt_le (k:Nat):∀(r:List Str),(∀x∈r,x.length≤k)→wt r≤r.length * (k+1)
 | [],_=>by simp[wt]
 |x::r,h=>by
  have h1:=wt_le k r fun y hy=>h y (List.mem_cons_of_mem _ hy)
  have h2:=h x List.mem_cons_self
  have e:wt (x::r)=(x.length+1)+wt r:=by simp[wt]
  rw[e,List.length_cons,Nat.add_mul];omega
theorem zOe (r:List Str):(slash r).length≤1+wt r:=by
 rw[zB4,zBq,List.length_cons]
 have:=zH7 r;omega
theorem zLt (way:Str) (row:List Str):(targetOf way row).length≤2+wt row:=by
 rw[zB4]
 unfold targetOf
 rw[zBv,zEm,List.length_append]
 have:=zH7 row
 have h:(sg (if Txt.slice way none (some 2)="//"∧Txt.slice way none (some 3)≠"///" then("//":Str)else "/")).length≤2:=by split<;>decide
 omega
theorem zF0 (way:Str) {row:List Str} (h:∀x∈row,NameOk x):∀c∈sg (targetOf way row),okw c:=by
 intro c hc
 unfold targetOf at hc
 rw[zBv,zEm]at hc
 rcases List.mem_append.mp hc with hc|hc
 ·have:c=47:=by
   split at hc
   ·rw[show sg ("//":Str)=[47,47] by decide]at hc;simpa using hc
   ·rw[zBh]at hc;simpa using hc
  exact .inr this
 ·rcases zD5 hc with hc|⟨p,hp,hc⟩
  ·exact .inr hc
  ·obtain⟨y,hy,rfl⟩:=List.mem_map.mp hp
   exact .inl ((h y hy).ok c hc)
theorem okw_lt {c:Nat} (h:okw c):c<16 ^ 8:=by
 rcases h with(h|h|h|h)|h<;>subst h<;>decide
theorem MirO.of_at (M:MirO rows σ d) {x:Str} {p:Node×NodeAddr} (e:σ.at x=some p):∃r∈rows,x=slash r∧p.1.np=npOf d.standing r∧p.1.succ=(if r=[]then[]else[slash r.dropLast]):=by
 obtain⟨h1,h2⟩:=at_abs' e
 obtain⟨r,hr,e1,e2,e3⟩:=M.el _ h1
 exact⟨r,hr,by rw[←h2,e1],e2,e3⟩
theorem MirO.at_ (R:RL rows) (M:MirO rows σ d) {r:List Str} (hr:r∈rows):∃p,σ.at (slash r)=some p∧p.1.np=npOf d.standing r:=by
 obtain⟨p,hp⟩:=Option.isSome_iff_exists.mp (zGl (M.has r hr))
 obtain⟨q,hq,e,e2,_⟩:=M.of_at hp
 exact⟨p,hp,by rw[e2,R.inj hr hq e]⟩
theorem MirO.tgt (R:RL rows) (M:MirO rows σ d) {way x:Str} {p:Node×NodeAddr} (hw:∀c∈sg way,okw c) (hx:targetOf way (rowOf way d.place)=x) (e:σ.at x=some p):
 rowOf way d.place∈rows∧x=slash (rowOf way d.place)∧¬(Txt.slice (targetOf way (rowOf way d.place)) none (some 2)="//"∨rowOf way d.place∉rows)∧p.1.np=npOf d.standing (rowOf way d.place)∧p.1.succ=(if rowOf way d.place=[]then[]else[slash (rowOf way d.place).dropLast]):=by
 obtain⟨r,hr,e1,e2,e3⟩:=M.of_at e
 have hrow:=zD1 hw M.place
 rcases zIn way hrow with⟨_,h⟩|⟨h1,h2⟩
 ·exact absurd (hx.trans e1) (h r (R.name r hr))
 ·have:rowOf way d.place=r:=zIg hrow (R.name r hr) (by rw[←h1,hx,e1])
  rw[this]
  rw[this]at h2
  exact⟨hr,e1,fun z=>z.elim h2 fun z=>z hr,e2,e3⟩
theorem zEk (st:List (List Str)) (r:List Str):(r∉st∧npOf st r= -2)∨(r∈st∧kidsOf st r=[]∧npOf st r= -1)∨(r∈st∧kidsOf st r≠[]∧0<npOf st r∧npOf st r=((kidsOf st r).length:Int)):=by
 unfold npOf
 by_cases h1:r∈st
 ·rw[if_neg (fun z=>z h1)]
  by_cases h2:kidsOf st r=[]
  ·exact .inr (.inl ⟨h1,h2,by rw[if_pos h2]⟩)
  ·refine .inr (.inr ⟨h1,h2,?_,by rw[if_neg h2]⟩)
   rw[if_neg h2]
   have:=List.length_pos_iff.mpr h2
   omega
 ·exact .inl ⟨h1,by rw[if_pos h1]⟩
theorem words_d {target w:Str} (h:w≠wGone):wordsD target w= .list [.str ("node '"++target++"' "++w), .none]:=by unfold wordsD;rw[if_neg h]
theorem zHo {way x w:Str} (hx:targetOf way (rowOf way d.place)=x) (hw:dueWords rows d way=w) (hne:w≠wGone) (hf:dueFree rows d way=[]):dueEntry rows d way= .list [.str x, .list [.str ("node '"++x++"' "++w), .none], .tuple []]:=by
 unfold dueEntry
 simp only
 rw[hx,hw,hf,words_d hne];rfl
theorem MirO.bad (R:RL rows) (M:MirO rows σ d) {way x m:Str} (hw:∀c∈sg way,okw c) (hx:targetOf way (rowOf way d.place)=x) (hm:doneMsg σ x=some m):
 dueEntry rows d way= .list [.str x, .list [.str m, .none], .tuple []]∧(if Txt.endswith m "ready)"=true then x else slash d.place)=slash (dueNext rows d way).place∧∀(σ':Srt) l,σ'.abs=σ.abs→σ'.rest=(some (l,[]),σ.passed,σ.finished)→MirO rows σ' (dueNext rows d way):=by
 obtain⟨w1,w2,w3,w4,w5⟩:=zDf
 obtain⟨l1,l2,l3⟩:=zOd
 have hrow:=zD1 hw M.place
 have hxo:∀c∈sg x,okw c:=by rw[←hx];exact zF0 way hrow
 unfold doneMsg at hm
 cases ha:σ.at x with
 |none=>
  rw[ha]at hm
  obtain rfl:=Option.some.inj hm
  have c1:Txt.slice (targetOf way (rowOf way d.place)) none (some 2)="//"∨rowOf way d.place∉rows:=by
   rcases zIn way hrow with⟨h,_⟩|⟨h,_⟩
   ·exact .inl h
   ·exact .inr fun hr=>by
     obtain⟨p,hp,_⟩:=M.at_ R hr
     rw[←h,hx,ha]at hp;cases hp
  obtain⟨q1,q2,q3⟩:=zKn c1
  refine⟨?_,?_,fun σ' l ab re=> ?_⟩
  ·rw[zHo hx q1 w2 q3,zNx,zEj hxo]
  ·rw[zFw l1,zNa,q2];rfl
  ·rw[q2];exact M.same ab re rfl M.place
 |some p=>
  rw[ha]at hm
  dsimp only at hm
  obtain⟨hr,ex,c1,enp,_⟩:=M.tgt R hw hx ha
  rcases zEk d.standing (rowOf way d.place)with⟨h1,h2⟩|⟨h1,h2,h3⟩|⟨h1,h2,h3,_⟩
  ·rw[enp,h2,if_neg (by decide),if_neg (by decide)]at hm
   obtain rfl:=Option.some.inj hm
   obtain⟨q1,q2,q3⟩:=zLf c1 h1
   refine⟨?_,?_,fun σ' l ab re=> ?_⟩
   ·rw[zHo hx q1 w4 q3,zOc,zEj hxo]
   ·rw[zFw l3,zN5,q2];rfl
   ·rw[q2];exact M.same ab re rfl M.place
  ·rw[enp,h3,if_pos rfl]at hm;cases hm
  ·rw[enp,if_neg (by omega),if_pos (by omega)]at hm
   obtain rfl:=Option.some.inj hm
   obtain⟨q1,q2,q3⟩:=zK2 c1 (fun z=>z h1) h2
   refine⟨?_,?_,fun σ' l ab re=> ?_⟩
   ·rw[zHo hx q1 w5 q3,zNi,zEj hxo]
   ·rw[zFw l2,zN3,q2]
    exact ex
   ·rw[q2];exact M.same ab re rfl hrow
end
end N6
section N7
open PySem.StrLaws
theorem zBy {α:Type} [DecidableEq α]:∀{l:List α} {a:α},l.Nodup→a∈l→(l.filter fun o=>decide (o≠a)).length+1=l.length
 | [],_,_,h=>nomatch h
 |b::l,a,n,h=>by
  have n':=List.nodup_cons.mp n
  by_cases e:b=a
  ·subst e
   have:l.filter (fun o=>decide (o≠b))=l:=List.filter_eq_self.mpr fun o ho=>by
    simp only[decide_eq_true_eq];exact fun z=>n'.1 (z▸ho)
   rw[List.filter_cons_of_neg (by simp),this,List.length_cons]
  ·rw[List.filter_cons_of_pos (by simpa using e),List.length_cons,List.length_cons,zBy n'.2 ((List.mem_cons.mp h).resolve_left fun z=>e z.symm)]
section
variable {rows:List (List Str)} {σ:Srt} {d:DueSt} {st:List (List Str)} {row:List Str}
noncomputable def less (st:List (List Str)) (row:List Str):List (List Str):=st.filter fun o=>decide (o≠row)
theorem mem_less {q:List Str}:q∈less st row↔q∈st∧q≠row:=by unfold less;rw[List.mem_filter];simp
theorem zDy (z:List Str):kidsOf (less st row) z=(kidsOf st z).filter fun o=>decide (o≠row):=by
 unfold kidsOf less
 rw[List.filter_filter,List.filter_filter]
 refine List.filter_congr fun q _=> ?_
 rw[Bool.and_comm]
theorem zI0 {z:List Str} (h:z≠row.dropLast∨row=[]):kidsOf (less st row) z=kidsOf st z:=by
 rw[zDy]
 refine List.filter_eq_self.mpr fun q hq=> ?_
 obtain⟨_,h2,h3⟩:=kid_iff.mp hq
 simp only[decide_eq_true_eq]
 rintro rfl
 exact h.elim (fun z=>z h2.symm) h3
theorem zE8 {q:List Str} (h:q∉st):npOf st q= -2:=by unfold npOf;rw[if_pos h]
theorem zFl {q:List Str} (h:q∈st):npOf st q=if kidsOf st q=[]then -1 else((kidsOf st q).length:Int):=by unfold npOf;rw[if_neg (fun z=>z h)]
theorem zOv {q:List Str} (h1:q≠row) (h:q≠row.dropLast∨row=[]):npOf (less st row) q=npOf st q:=by
 by_cases hq:q∈st
 ·rw[zFl (mem_less.mpr ⟨hq,h1⟩),zFl hq,zI0 h]
 ·rw[zE8 (fun z=>hq (mem_less.mp z).1),zE8 hq]
theorem zHu (h:row≠[]):row.dropLast≠row:=fun e=>by
 have:=congrArg List.length e
 rw[List.length_dropLast]at this
 cases row with
 |nil=>exact h rfl
 |cons _ _=>simp at this
noncomputable def freed (st:List (List Str)) (row:List Str):List (List Str):=if kidsOf (less st row) row.dropLast=[]∧row≠[]then[row.dropLast]else[]
theorem zJ4 (snd:st.Nodup) (spre:∀r∈st,r≠[]→r.dropLast∈st) (h1:row∈st) (h2:kidsOf st row=[]):(leavesOf (less st row)).length+1=(leavesOf st).length+(freed st row).length:=by
 have nd1:(row::leavesOf (less st row)).Nodup:=List.nodup_cons.mpr ⟨fun m=>(mem_less.mp (List.mem_filter.mp m).1).2 rfl,(snd.filter _).filter _⟩
 have nd2:(leavesOf st++freed st row).Nodup:=by
  rw[List.nodup_append]
  refine⟨snd.filter _,by unfold freed;split<;>simp,fun a ha b hb=> ?_⟩
  unfold freed at hb
  split at hb
  ·rename_i h
   rw[List.mem_singleton.mp hb]
   rintro rfl
   have hk:=(List.mem_filter.mp ha).2
   have:row∈kidsOf st row.dropLast:=kid_iff.mpr ⟨h1,rfl,h.2⟩
   rw[of_decide_eq_true hk]at this;cases this
  ·cases hb
 have sub1:∀z∈row::leavesOf (less st row),z∈leavesOf st++freed st row:=fun z hz=>by
  rcases List.mem_cons.mp hz with rfl|hz
  ·exact List.mem_append_left _ (List.mem_filter.mpr ⟨h1,by simpa using h2⟩)
  ·obtain⟨hz,hk⟩:=List.mem_filter.mp hz
   obtain⟨hs,hn⟩:=mem_less.mp hz
   have hk:=of_decide_eq_true hk
   by_cases hp:z=row.dropLast∧row≠[]
   ·refine List.mem_append_right _ ?_
    unfold freed
    rw[if_pos ⟨hp.1▸hk,hp.2⟩,hp.1];simp
   ·refine List.mem_append_left _ (List.mem_filter.mpr ⟨hs,?_⟩)
    rw[zI0 (by
     by_cases h:row=[]
     ·exact .inr h
     ·exact .inl fun e=>hp ⟨e,h⟩)]at hk
    simpa using hk
 have sub2:∀z∈leavesOf st++freed st row,z∈row::leavesOf (less st row):=fun z hz=>by
  by_cases hzr:z=row
  ·rw[hzr];exact List.mem_cons_self
  refine List.mem_cons_of_mem _ ?_
  rcases List.mem_append.mp hz with hz|hz
  ·obtain⟨hs,hk⟩:=List.mem_filter.mp hz
   refine List.mem_filter.mpr ⟨mem_less.mpr ⟨hs,hzr⟩,?_⟩
   rw[zDy,of_decide_eq_true hk];rfl
  ·unfold freed at hz
   split at hz
   ·rename_i h
    rw[List.mem_singleton.mp hz]
    exact List.mem_filter.mpr ⟨mem_less.mpr ⟨spre row h1 h.2,zHu h.2⟩,by simpa using h.1⟩
   ·cases hz
 have l1:=zBx nd1 sub1
 have l2:=zBx nd2 sub2
 rw[List.length_cons,List.length_append]at l1 l2
 omega
theorem zPm (σ:Srt) (y:Str):(σ.rel1 y).abs=updN σ.abs y (addNp (-1)):=by
 unfold Srt.rel1
 split
 ·exact zDi
 ·exact zDi
theorem MirO.next (R:RL rows) (M:MirO rows σ d) {σ':Srt} {l:Addr} {ns:List Node} (hr:row∈rows) (h1:row∈d.standing) (h2:kidsOf d.standing row=[])
 (hns:ns=if row=[]then updN σ.abs (slash row) (setNp (-2))else updN (updN σ.abs (slash row) (setNp (-2))) (slash row.dropLast) (addNp (-1)))
 (ab:σ'.abs=((freed d.standing row).map slash).foldl (fun ns x=>updN ns x (setNp (-1))) ns) (re:σ'.rest=(some (l,[]),σ.passed+(((freed d.standing row).map slash).length:Int),σ.finished+1)):MirO rows σ' ⟨less d.standing row,row.dropLast⟩:=by
 have e1:σ'.ready=some (l,[]):=congrArg (·.1) re
 have e2:σ'.passed=σ.passed+(((freed d.standing row).map slash).length:Int):=congrArg (·.2.1) re
 have e3:σ'.finished=σ.finished+1:=congrArg (·.2.2) re
 have nn:nms ns=nms σ.abs:=by
  rw[hns];split
  ·exact zA9 fun _=>rfl
  ·rw[zA9 (f:=addNp (-1)) fun _=>rfl,zA9 (f:=setNp (-2)) fun _=>rfl]
 have hlen:=zBy M.snd h1
 have hcnt:=zJ4 M.snd M.spre h1 h2
 refine⟨by rw[ab,zFy,nn];exact M.nd,fun n hn=> ?_,fun r hr=>by rw[ab,zFy,nn];exact M.has r hr,⟨l,e1⟩,?_,?_,fun q hq=>M.sub q (mem_less.mp hq).1,M.snd.filter _,fun q hq hne=> ?_,fun x hx=>R.name row hr x ((List.dropLast_sublist row).subset hx)⟩
 ·rw[ab]at hn
  obtain⟨m,hm,rfl⟩:=zJ3 (-1) _ hn
  have hfr:∀q∈rows,slash q∈(freed d.standing row).map slash↔(q=row.dropLast∧kidsOf (less d.standing row) row.dropLast=[]∧row≠[]):=fun q hq=>by
   unfold freed
   split
   ·rename_i h
    constructor
    ·intro z
     exact⟨R.inj hq (R.pre row hr) (by simpa using z),h⟩
    ·rintro⟨rfl,_⟩;simp
   ·rename_i h
    constructor
    ·intro z;cases z
    ·rintro⟨_,z⟩;exact absurd z h
  by_cases hrow:row=[]
  ·rw[if_pos hrow]at hns
   rw[hns]at hm
   obtain⟨m0,hm0,rfl⟩:=zC4 hm
   obtain⟨q,hq,f1,f2,f3⟩:=M.el m0 hm0
   generalize hm1':(if m0.name=slash row then setNp (-2) m0 else m0)=m1
   have fn1:m1.name=slash q:=by rw[←hm1'];split<;>exact f1
   have fs1:m1.succ=m0.succ:=by rw[←hm1'];split<;>rfl
   refine⟨q,hq,?_,?_,?_⟩
   ·split<;>exact fn1
   ·rw[if_neg (by rw[fn1,hfr q hq];exact fun z=>z.2.2 hrow)]
    show _=npOf (less d.standing row) q
    by_cases hqr:q=row
    ·subst hqr
     rw[zE8 (fun z=>(mem_less.mp z).2 rfl),←hm1',if_pos f1];rfl
    ·rw[←hm1',if_neg (fun z=>hqr (R.inj hq hr (by rw[←f1,z]))),zOv hqr (.inr hrow)]
     exact f2
   ·rw[←f3]
    split
    ·exact fs1
    ·exact fs1
  ·rw[if_neg hrow]at hns
   rw[hns]at hm
   obtain⟨m1,hm1,rfl⟩:=zC4 hm
   obtain⟨m0,hm0,rfl⟩:=zC4 hm1
   obtain⟨q,hq,f1,f2,f3⟩:=M.el m0 hm0
   have hpar:=R.pre row hr
   generalize hm1':(if m0.name=slash row then setNp (-2) m0 else m0)=m1
   have fn1:m1.name=slash q:=by rw[←hm1'];split<;>exact f1
   have fs1:m1.succ=m0.succ:=by rw[←hm1'];split<;>rfl
   generalize hm2':(if m1.name=slash row.dropLast then addNp (-1) m1 else m1)=m2
   have fn2:m2.name=slash q:=by rw[←hm2'];split<;>exact fn1
   have fs2:m2.succ=m0.succ:=by rw[←fs1,←hm2'];split<;>rfl
   refine⟨q,hq,?_,?_,?_⟩
   ·split<;>exact fn2
   ·show _=npOf (less d.standing row) q
    by_cases hqr:q=row
    ·subst hqr
     rw[if_neg (by rw[fn2,hfr q hq];exact fun z=>zHu hrow z.1.symm)]
     rw[←hm2',if_neg (by rw[fn1];exact fun z=>zHu hrow (R.inj hq hpar z).symm),←hm1',if_pos f1,zE8 (fun z=>(mem_less.mp z).2 rfl)];rfl
    ·have g1:m1=m0:=by rw[←hm1',if_neg (fun z=>hqr (R.inj hq hr (by rw[←f1,z])))]
     by_cases hqp:q=row.dropLast
     ·have hps:q∈d.standing:=hqp▸M.spre row h1 hrow
      have hkr:row∈kidsOf d.standing q:=kid_iff.mpr ⟨h1,hqp.symm,hrow⟩
      have hkl:(kidsOf (less d.standing row) q).length+1=(kidsOf d.standing q).length:=by
       rw[zDy];exact zBy (M.snd.filter _) hkr
      have f2':m0.np=((kidsOf d.standing q).length:Int):=by
       rw[f2,zFl hps,if_neg (fun z=>by rw[z]at hkr;cases hkr)]
      have hin:q∈less d.standing row:=mem_less.mpr ⟨hps,hqr⟩
      have g2:m2=addNp (-1) m0:=by rw[←hm2',g1,if_pos (by rw[f1,hqp])]
      rw[zFl hin]
      by_cases hk:kidsOf (less d.standing row) q=[]
      ·rw[if_pos (by rw[fn2,hfr q hq];exact⟨hqp,hqp▸hk,hrow⟩),if_pos hk];rfl
      ·rw[if_neg (by rw[fn2,hfr q hq];exact fun z=>hk (hqp▸z.2.1)),if_neg hk,g2]
       show m0.np+(-1)=_
       rw[f2'];omega
     ·rw[if_neg (by rw[fn2,hfr q hq];exact fun z=>hqp z.1),zOv hqr (.inl hqp),←hm2',if_neg (by rw[fn1];exact fun z=>hqp (R.inj hq hpar z)),g1]
      exact f2
   ·rw[←f3]
    split
    ·exact fs2
    ·exact fs2
 ·show σ'.finished=(rows.length:Int) - ((less d.standing row).length:Int)
  rw[e3,M.fin]
  unfold less;omega
 ·show σ'.passed=σ'.finished+((leavesOf (less d.standing row)).length:Int)
  rw[e2,e3,M.pas,List.length_map];omega
 ·obtain⟨hs,hn⟩:=mem_less.mp hq
  refine mem_less.mpr ⟨M.spre q hs hne,fun z=> ?_⟩
  have:q∈kidsOf d.standing row:=kid_iff.mpr ⟨hs,z,hne⟩
  rw[h2]at this;cases this
end
end N7
section N8
open PySem.StrLaws
section
variable {rows:List (List Str)} {σ:Srt} {d:DueSt}
theorem MirO.gone (R:RL rows) (M:MirO rows σ d) {way x:Str} {p:Node×NodeAddr} (hw:∀c∈sg way,okw c) (hx:targetOf way (rowOf way d.place)=x) (ha:σ.at x=some p) (hp:p.1.np= -1):
 ∃fr,(∀l,σ.ready=some (l,[])→(σ.done1 x p.1.succ).ready=some (l,fr))∧fr.length≤1000∧(∀y∈fr,((σ.done1 x p.1.succ).at y).isSome=true)∧dueEntry rows d way= .list [.str x, .list [.str "gone", .none], .tuple (fr.map .str)]∧dirS x=slash (dueNext rows d way).place∧
  ∀(σ':Srt) l,σ'.abs=fr.foldl (fun ns x=>updN ns x (setNp (-1))) (σ.done1 x p.1.succ).abs→σ'.rest=(some (l,[]),(σ.done1 x p.1.succ).passed+fr.length,(σ.done1 x p.1.succ).finished)→MirO rows σ' (dueNext rows d way):=by
 obtain⟨hr,ex,c1,enp,esucc⟩:=M.tgt R hw hx ha
 rcases zEk d.standing (rowOf way d.place)with⟨h1,h2⟩|⟨h1,h2,h3⟩|⟨h1,h2,h3,_⟩
 ·rw[enp,h2]at hp;cases hp
 rotate_left 1
 ·rw[enp]at hp;omega
 obtain⟨q1,q2,q3⟩:=zLd c1 (fun z=>z h1) (fun z=>z h2)
 have q2':dueNext rows d way=⟨less d.standing (rowOf way d.place),(rowOf way d.place).dropLast⟩:=q2
 have q3':dueFree rows d way=(freed d.standing (rowOf way d.place)).map slash:=by
  rw[q3]
  unfold freed less
  split<;>rfl
 have hent:dueEntry rows d way= .list [.str x, .list [.str "gone", .none], .tuple (((freed d.standing (rowOf way d.place)).map slash).map .str)]:=by
  unfold dueEntry
  simp only
  rw[hx,q1,q3']
  unfold wordsD
  rw[if_pos rfl];rfl
 have hdir:dirS x=slash (dueNext rows d way).place:=by rw[q2',ex];exact R.dir _ hr
 rw[q2']at hdir⊢
 generalize rowOf way d.place=row at *
 subst ex
 have flen:((freed d.standing row).map slash).length≤1000:=by
  rw[List.length_map];unfold freed;split<;>simp
 have fmem:∀y∈(freed d.standing row).map slash,∃r∈rows,y=slash r:=fun y hy=>by
  obtain⟨r,hr',rfl⟩:=List.mem_map.mp hy
  unfold freed at hr'
  split at hr'
  ·rw[List.mem_singleton.mp hr'];exact⟨_,R.pre row hr,rfl⟩
  ·cases hr'
 by_cases hrow:row=[]
 ·rw[if_pos hrow]at esucc
  rw[esucc]
  have hfr:freed d.standing row=[]:=by unfold freed;rw[if_neg (fun z=>z.2 hrow)]
  have eab:(σ.done1 (slash row) []).abs=updN σ.abs (slash row) (setNp (-2)):=zDi
  refine⟨(freed d.standing row).map slash,fun l hl=> ?_,flen,fun y hy=> ?_,hent,hdir,fun σ' l ab re=> ?_⟩
  ·rw[hfr];exact hl
  ·rw[hfr]at hy;cases hy
  ·refine M.next (l:=l) R hr h1 h2 (ns:=(σ.done1 (slash row) []).abs) ?_ ab re
   rw[if_pos hrow];exact eab
 ·rw[if_neg hrow]at esucc
  rw[esucc]
  have hpar:=R.pre row hr
  have hps:=M.spre row h1 hrow
  obtain⟨q,hq,hqn⟩:=M.at_ R hpar
  have hkr:row∈kidsOf d.standing row.dropLast:=kid_iff.mpr ⟨h1,rfl,hrow⟩
  have hkl:(kidsOf (less d.standing row) row.dropLast).length+1=(kidsOf d.standing row.dropLast).length:=by
   rw[zDy];exact zBy (M.snd.filter _) hkr
  have hqn':q.1.np=((kidsOf d.standing row.dropLast).length:Int):=by
   rw[hqn,zFl hps,if_neg (fun z=>by rw[z]at hkr;cases hkr)]
  have hname:q.1.name=slash row.dropLast:=(at_abs' hq).2
  have hat:((σ.upd (slash row) (setNp (-2))).at (slash row.dropLast)).map (fun p=>p.1.np)=some ((kidsOf d.standing row.dropLast).length:Int):=by
   rw[zLb (f:=setNp (-2)) (fun _=>rfl),hq,Option.map_some,Option.map_some,if_neg (by rw[hname];exact fun z=>zHu hrow (R.inj hpar hr z)),hqn']
  have eab:(σ.done1 (slash row) [slash row.dropLast]).abs=updN (updN σ.abs (slash row) (setNp (-2))) (slash row.dropLast) (addNp (-1)):=by
   show(Srt.rel1 (σ.upd (slash row) (setNp (-2))) (slash row.dropLast)).abs=_
   rw[zPm,zDi]
  have erd:∀l,σ.ready=some (l,[])→(σ.done1 (slash row) [slash row.dropLast]).ready=some (l,(freed d.standing row).map slash):=fun l hl=>by
   show(Srt.rel1 (σ.upd (slash row) (setNp (-2))) (slash row.dropLast)).ready=_
   unfold Srt.rel1 freed
   by_cases hk:kidsOf (less d.standing row) row.dropLast=[]
   ·rw[hk]at hkl
    rw[if_pos (by rw[hat,←hkl];rfl),if_pos ⟨hk,hrow⟩]
    show(Option.map _ σ.ready)=_
    rw[hl];rfl
   ·have:(kidsOf (less d.standing row) row.dropLast).length≠0:=fun z=>hk (List.eq_nil_of_length_eq_zero z)
    rw[if_neg (by rw[hat];intro z;have:=Option.some.inj z;omega),if_neg (fun z=>hk z.1)]
    exact hl
  have epa:(σ.done1 (slash row) [slash row.dropLast]).passed=σ.passed:=by
   show(Srt.rel1 (σ.upd (slash row) (setNp (-2))) (slash row.dropLast)).passed=_
   unfold Srt.rel1
   split<;>rfl
  have efi:(σ.done1 (slash row) [slash row.dropLast]).finished=σ.finished+1:=rfl
  refine⟨(freed d.standing row).map slash,erd,flen,fun y hy=> ?_,hent,hdir,fun σ' l ab re=> ?_⟩
  ·obtain⟨r,hr',rfl⟩:=fmem y hy
   refine zGl ?_
   rw[eab,zA9 (f:=addNp (-1)) fun _=>rfl,zA9 (f:=setNp (-2)) fun _=>rfl]
   exact M.has r hr'
  ·refine M.next (l:=l) R hr h1 h2 (ns:=(σ.done1 (slash row) [slash row.dropLast]).abs) ?_ ab ?_
   ·rw[if_neg hrow];exact eab
   ·rw[re,epa,efi]
theorem RL.runs (R:RL rows) (h8:∀r∈rows,(slash r).length≤100):Runs rows (MirO rows):=by
 have Fu:=Inv.full R
 have fl24:(firstDue rows).length≤24:=by
  rw[R.firstDue_len]
  have h1:=List.length_filter_le (fun r=>decide (kidsOf rows r=[])) rows
  have h2:=R.ok.few
  unfold leavesOf;omega
 have fewR:∀{ns:List Node},(nms ns).Nodup→(∀n∈ns,∃r∈rows,n.name=slash r)→ns.length≤24:=fun{ns} nd el=>by
  have h1:(nms ns).length≤(rows.map slash).length:=zBx nd fun a ha=>by
   obtain⟨n,hn,rfl⟩:=List.mem_map.mp ha
   obtain⟨r,hr,e⟩:=el n hn
   rw[e];exact List.mem_map_of_mem hr
  have:=R.ok.few
  simp at h1;omega
 refine⟨fun σ ab=> ?_,fun σ ab=> ?_,fun σ ab x hx=> ?_,by omega,fun σ l ab re=>MirO.start R ab re,fun σ d M=>M.ready,fun σ d M=> ?_,fun σ d M x p hp y hy=> ?_,fun σ d M x p hp=> ?_,fun σ d way M K wk=> ?_,fun σ d way x p M K wk hx ha hp=>M.gone R wk.2 hx ha hp,fun σ d way x m M K wk hx hm=>M.bad R wk.2 hx hm,fun σ d M=>M.active R⟩
 ·have of_at:∀{x:Str} {p:Node×NodeAddr},σ.at x=some p→∃r∈rows,x=slash r∧p.1.succ=(if r=[]then[]else[slash r.dropLast]):=fun{x p} e=>by
   obtain⟨h1,h2⟩:=at_abs' e
   obtain⟨r,hr,e1,_,e3⟩:=Fu.el p.1 (ab▸h1)
   exact⟨r,hr,by rw[←h2,e1],e3⟩
  refine⟨fun x=>x.length,fun x p e=> ?_,fun x p e y hy=> ?_,fun x h=> ?_,?_⟩
  ·obtain⟨r,_,_,e3⟩:=of_at e
   rw[e3];split<;>simp
  ·obtain⟨r,hr,ex,e3⟩:=of_at e
   rw[e3]at hy
   by_cases h:r=[]
   ·rw[if_pos h]at hy;cases hy
   ·rw[if_neg h]at hy
    rw[List.mem_singleton.mp hy]
    exact⟨zGl (by rw[ab];exact Fu.has _ (R.pre r hr)),by rw[ex];exact R.slen r hr h⟩
  ·obtain⟨p,e⟩:=Option.isSome_iff_exists.mp h
   obtain⟨r,hr,ex,_⟩:=of_at e
   have:=h8 r hr
   show x.length≤800
   rw[ex];omega
  ·have:=fewR (ns:=σ.abs) (by rw[ab];exact Fu.nd) (fun n hn=>by
    obtain⟨r,hr,e,_⟩:=Fu.el n (ab▸hn)
    exact⟨r,hr,e⟩)
   rw[zKi]at this;omega
 ·rw[←Fu.free,←ab]
  unfold Srt.free Srt.abs
  rw[List.filter_map,List.map_map];rfl
 ·obtain⟨r,hr,rfl⟩:=R.firstDue_row hx
  exact zGl (by rw[ab];exact Fu.has r hr)
 ·refine⟨?_,fun n hn=> ?_⟩
  ·have:=fewR M.nd (fun n hn=>by
    obtain⟨r,hr,e,_⟩:=M.el n hn
    exact⟨r,hr,e⟩)
   omega
  ·obtain⟨r,_,_,_,e⟩:=M.el n hn
   rw[e];split<;>simp
 ·obtain⟨r,hr,_,_,e⟩:=M.of_at hp
  rw[e]at hy
  by_cases h:r=[]
  ·rw[if_pos h]at hy;cases hy
  ·rw[if_neg h]at hy
   rw[List.mem_singleton.mp hy]
   exact zGl (M.has _ (R.pre r hr))
 ·obtain⟨r,_,_,e,_⟩:=M.of_at hp
  rw[e]
  rcases zEk d.standing r with⟨_,h⟩|⟨_,_,h⟩|⟨_,_,h,_⟩<;>omega
 ·have hrow:=zD1 wk.2 M.place
  have w1:wt d.place≤33:=by
   have h1:=wt_le 10 d.place K.place.len
   have h2:=K.place.short
   have h3:d.place.length * (10+1)≤3 * 11:=Nat.mul_le_mul_right _ h2
   omega
  have w2:=zQi way d.place
  have w3:=zLt way (rowOf way d.place)
  have w4:=zOe d.place
  have w5:=wk.1.1
  refine⟨zL0 M.place way,?_,by omega,by omega,fun c hc=>okw_lt (zF0 way hrow c hc)⟩
  unfold joinS
  have l1:("/":Str).length=1:=rfl
  split
  ·omega
  ·split
   ·rw[Str.length_append];omega
   ·rw[Str.length_append,Str.length_append];omega
end
end N8
section P49
section
variable {w:World} {A:Around} {X M O O' Ls Y:List Addr} {h h':Heap} {g g₀:Heap} {env:Env} {Γ:List (Str×Bd)} {outer:List Env} {s:Shared} {E:Value→Shared→Prop}
noncomputable def heldP (x:Str):PyData→Bool
 | .str o=> !decide (o=x)&&decide (dirS o=x)
 |_=>false
theorem held_eq (ps:List Str) (x:Str):((ps.map PyData.str).filter (heldP x)).map id=(heldOf ps x).map .str:=by
 rw[List.map_id,List.filter_map];rfl
inductive BB (w:World) (g:Heap) (Ls:List Addr) (env:Env) (so:Addr) (ns:List Node):List Addr→Heap→Prop
 |mk {h:Heap} (σ:Srt) (Z:SOR w h σ) (off:Off σ.addrs env) (dj:∀b∈Ls,b∉σ.addrs) (ab:σ.abs=ns) (re:σ.rest=(none,0,0)) (so':σ.so=so) (u:Up Ls g h):BB w g Ls env so ns σ.addrs h
inductive BC (w:World) (g:Heap) (Ls:List Addr) (env:Env) (Dt so:Addr) (Mir:Srt→DueSt→Prop) (d:DueSt) (told:List PyData):List Addr→Heap→Prop
 |mk {h:Heap} (τ:Srt) (T:TB w Ls env Dt τ h told) (m:Mir τ d) (so':τ.so=so) (u:Up Ls g h):BC w g Ls env Dt so Mir d told τ.addrs h
noncomputable abbrev tG1 (so Dp:Addr) (rows:List (List Str)) (ways:List Str):List (Str×Bd):=[("sorter", .v (.ref so)),("place", .d (.str "/")),("paths", .v (.ref Dp)),("rows", .d (.list (rows.map rowS))),("ways", .d (.list (ways.map .str)))]
noncomputable abbrev tG2 (so:Addr) (ps ways:List Str):List (Str×Bd):=[("sorter", .v (.ref so)),("place", .d (.str "/")),("paths", .d (.list (ps.map .str))),("ways", .d (.list (ways.map .str)))]
noncomputable abbrev tG3 (so:Addr) (place:Str) (Dt:Addr) (ways:List Str):List (Str×Bd):=[("sorter", .v (.ref so)),("place", .d (.str place)),("told", .v (.ref Dt)),("ways", .d (.list (ways.map .str)))]
theorem okR_nil:okR []:=fun _ m=>nomatch m
theorem zNf {α β:Type} {f:α→β} {l:List α} {i:Nat} {a:α} (e:l[i]? =some a):(l.take (i+1)).map f=(l.take i).map f++[f a]:=by
 rw[zA5 e];simp
theorem zOs {σ:Srt} {l:Addr} {o:Expr} {apos pos:Pos} (S:Stat (hd.heap_1 w.params) h) (rm:Room A 6) (Z:SOR w h σ) (hr:σ.ready=some (l,[])) (hx:EvV PR w A h (eval o env) (.ref σ.so)) {pl:Sem Bool}
 (he:autoParam (eval (.Call (.Attribute o "is_active" apos) [] [] pos) env=(do
  let ov←eval o env
  standAt apos.atName
  let(f,first)←holding [ov] (getMethod ov "is_active" pl)
  callWith pos f first (backTo pos (starEach [] env)) [])) aR):
 Ev PR w A X h (eval (.Call (.Attribute o "is_active" apos) [] [] pos) env) (.bool (decide (σ.finished<σ.passed))):=by
 intro s Q E k kx hQ
 have Z₁:SOR w s.heap σ:=Z.keep fun b _ o e=>k _ _ e
 refine zCn (σ:=σ) (S.mono k) (fun s' Q' E' k'=>hx s' Q' E' (k.trans k')) Z₁ (fun h₁ tk₁ k₁=> ?_) (by decide) s_gi s_fi s_ti s_ki he
 refine zI7 (s:=(sat s h₁ tk₁)) ((S.mono k).mono k₁) rm (Z₁.keep fun b _ o e=>k₁ _ _ e) hr (by simp) fun h₂ tk₂ k₂=> ?_
 have e:(decide (σ.finished<σ.passed)|| !([]:List Str).isEmpty)=decide (σ.finished<σ.passed):=by simp
 rw[e]
 exact hQ _ h₂ tk₂ (k₁.trans k₂) (Rd.bool _)
theorem TB.own {τ σ':Srt} {Dt:Addr} {told:List PyData} {a c:Heap} (T:TB w Ls env Dt σ' h told) (R:Rel (τ.addrs++(Dt::Ls)) env a c) {b:Addr} (m:b∈σ'.addrs) (n:c.get? b=none):b∈τ.addrs∨a.get? b=none:=by
 by_cases q:b∈τ.addrs
 ·exact .inl q
 ·right
  cases e:a.get? b with
  |none=>rfl
  |some o=>
   have:=R b o (fun z=>(List.mem_append.mp z).elim q fun z=>(List.mem_cons.mp z).elim (fun z=>T.nD (z▸m)) fun z=>T.dj b z m) (T.off1 b m).1 (fun n _=>(T.off1 b m).2 n) e
   rw[n]at this;cases this
theorem told_is {Q:Value→Shared→Prop} {rows:List (List Str)} {ways:List Str} {v₁ v₂:Value} {Mir:Srt→DueSt→Prop} (R:RowsOk rows) (B:Built rows) (U:Runs rows Mir) (hw:ways.length≤30) (hwl:∀y∈ways,wayOk y)
 (S:Stat (hd.heap_1 w.params) (hid Ls s.heap)) (rm:Room A 14) (stk:Stk A outer Ls) (D:Dicts Ls s.heap) (r₁:Rd (hid Ls s.heap) (.list (rows.map rowS)) v₁) (r₂:Rd (hid Ls s.heap) (.list (ways.map .str)) v₂)
 (hQ:∀v h' tk,Rd (hid Ls h') (dueAll rows ways) v→(∀b o,b∉Ls→s.heap.get? b=some o→h'.get? b=some o)→Up Ls s.heap h'→Q v (sat s h' tk)):
 wpAny (model PR w) A (call (.ref 292) [v₁,v₂]) Q E s:=by
 have Sg:Stat (hd.heap_1 w.params) s.heap:=S.mono (zAf _ _)
 have kx:XOk Ls s.heap:=fun b m=>let⟨o,_,_,e,_⟩:=D b m;⟨o,e⟩
 refine' zBc (X:=Ls) (n:=13) [("rows", .d (.list (rows.map rowS))),("ways", .d (.list (ways.map .str)))] Sg ?ho ?hcd rm kx ?hb (show(["rows","ways"]:List Str).Nodup by decide) ?kind ?_ ?hco ?hgen ?hk
 case ho=>k_is
 case hcd=>k_is
 case kind=>rfl
 case hco=>rfl
 case hgen=>rfl
 case hk=>rfl
 case hb=>exact zA1 rfl (.cons r₁ (.cons r₂ .nil))
 intro L h₁ tk F₀ G
 have F:=F₀.lend (O:=Ls) fun _ m=>m
 have offL:Off Ls F.en:=Off.dicts F₀ D (D.ext F₀.kg)
 have nL:F.en.locals∉Ls:=fun m=>(offL _ m).1 rfl
 have stk':=stk.deeper (env:=F.en) (L:=F.en.locals) rfl rfl
 have nn:∀(b:Addr),b∉([]:List Addr):=fun _ m=>nomatch m
 have S₁:=S.mono F.kg
 walk_at "sh"
 with_reducible refine zAa (zLo (x:="sorter") (y:="place") (z:="paths") (X:=Ls) (rm.deeper _).hand ((rm.deeper _).le (by omega)) S₁ G F ?_ ?_ ?_ fun σ Dp h₂ tk₂ Z₂ fr₂ nD₂ nDp c1 c2 c3 c4 off₂ pl₂ F₂ R₂=> ?_)
 ·exact stL
 ·exact stL
 ·exact stL
 have u₂:Up Ls s.heap h₂:=(Up.of_ext F₀.kg).trans (Up.rel (R:=True) offL R₂)
 have so₂:σ.rest=(none,0,0):=by unfold Srt.rest;rw[c2,c3,c4]
 have ab₂:σ.abs=[]:=by unfold Srt.abs;rw[c1];rfl
 have F₂':Fn (hid Ls s.heap) ((Dp::σ.addrs)++Ls) ((Dp::σ.addrs)++Ls) h₂ F.en _:=F₂
 have mDp:Dp∈(Dp::σ.addrs)++Ls:=List.mem_cons_self
 have DpL:Dp∉Ls:=fun m=>by
  obtain⟨o,_,_,e,_⟩:=(D.ext F₀.kg) _ m
  rw[nD₂]at e;cases e
 have djσ:∀b∈Ls,b∉σ.addrs:=fun b m q=>by
  obtain⟨o,_,_,e,_⟩:=(D.ext F₀.kg) _ m
  rw[fr₂ b q]at e;cases e
 have Zk:∀{a b:Heap},SOR w a σ→Rel [] F.en a b→SOR w b σ:=fun z r=>z.rel (fun b m=>off₂ b (List.mem_cons_of_mem _ m)) r (fun b _=>nn b)
 have Zd:∀{a b:Heap},SOR w a σ→Rel [Dp] F.en a b→SOR w b σ:=fun z r=>z.rel (fun b m=>off₂ b (List.mem_cons_of_mem _ m)) r (fun b m q=>nDp ((List.mem_singleton.mp q)▸m))
 have ud:∀{a b:Heap},Rel [Dp] F.en a b→Up Ls a b:=fun{a b} r x m o e=>⟨o.slots,offL.keep m r (fun q=>DpL ((List.mem_singleton.mp q)▸m)) o e⟩
 walk_at "sh"
 with_reducible refine zAa (zG2 (ds:=rows.map rowS) (zAx (rm.deeper _).hand (nm_ F₂'.is))
  (fun _=>tG1 σ.so Dp rows ways)
  (fun i h=>OwnList ((Dp::σ.addrs)++Ls) h Dp (((rows.take i).map pathOf).map .str)∧SOR w h σ∧Up Ls s.heap h) F₂' ?_ stL ?_ ?_ ?_ ?_)
 ·intro h' k
  exact⟨⟨_,let⟨n,e⟩:=pl₂;⟨n,k _ _ e⟩, .nil⟩,Z₂.keep fun b _ o e=>k _ _ e,u₂.trans (Up.of_ext k)⟩
 ·rintro i h h' it F' ⟨j1,j2,j3⟩ hX p
  refine⟨j1.poke p,j2.poke p (fun m=>hX (List.mem_cons_of_mem _ (List.mem_append_left _ m))),j3.trans fun b m o e=>⟨o.slots,p.keep b o (fun z=>hX (z▸List.mem_append_right _ m)) e⟩⟩
 ·rintro i h h' F' ⟨j1,j2,j3⟩ R
  exact⟨j1.keep F'.is R (nn _) (fun _ m=>nomatch m),Zk j2 R,j3.trans (Up.rel (R:=True) offL R)⟩
 ·intro i d s' E'' hdd Fa j
  refine opqQ fun T1 hT1=> ?_
  obtain⟨j1,j2,j3⟩:=j
  obtain⟨row,hrow,rfl⟩:∃r,rows[i]? =some r∧d=rowS r:=by
   rw[List.getElem?_map]at hdd
   cases hci:rows[i]? with
   |none=>rw[hci]at hdd;cases hdd
   |some c=>rw[hci]at hdd;cases hdd;exact⟨c,rfl,rfl⟩
  have mrow:row∈rows:=List.mem_of_getElem? hrow
  rw[zNf hrow]at hT1
  have hlen:((rows.take i).map pathOf).length≤24:=by
   have:=R.few
   rw[List.length_map,List.length_take];omega
  generalize ((rows.take i).map pathOf)=done at j1 hlen hT1
  walk_at "sh"
  with_reducible refine zAa (zD0 (x:="paths") (d:= .str "/") Fa ?_ mDp j1 zAq ?_ fun h₃ tk₃ F₃ R₃ L₃=> ?_)
  ·rfl
  ·rw[List.length_map];unfold sizeLine;omega
  have Z₃:=Zd j2 R₃
  have u₃:=j3.trans (ud R₃)
  walk_at "sh"
  with_reducible refine zAa (zG2 (ds:=row.map .str) (zAx (rm.deeper _).hand (nm_ F₃.is))
   (fun _=>tG1 σ.so Dp rows ways)
   (fun j h=>OwnList ((Dp::σ.addrs)++Ls) h Dp (done.map .str++[.str (pathOf (row.take j))])∧SOR w h σ∧Up Ls s.heap h) (F₃.pick ?_) ?_ stL ?_ ?_ ?_ ?_)
  ·exact⟨rfl,rfl,rfl,rfl,rfl,trivial⟩
  ·intro h' k
   exact⟨L₃.ext k,Z₃.keep fun b _ o e=>k _ _ e,u₃.trans (Up.of_ext k)⟩
  ·rintro i h h' it F' ⟨j1,j2,j3⟩ hX p
   refine⟨j1.poke p,j2.poke p (fun m=>hX (List.mem_cons_of_mem _ (List.mem_append_left _ m))),j3.trans fun b m o e=>⟨o.slots,p.keep b o (fun z=>hX (z▸List.mem_append_right _ m)) e⟩⟩
  ·rintro i h h' F' ⟨j1,j2,j3⟩ R
   exact⟨j1.keep F'.is R (nn _) (fun _ m=>nomatch m),Zk j2 R,j3.trans (Up.rel (R:=True) offL R)⟩
  ·intro j d s'' E₃ hdj Fb jj
   refine opqQ fun T2 hT2=> ?_
   obtain⟨j4,j5,j6⟩:=jj
   obtain⟨name,hname,rfl⟩:∃c,row[j]? =some c∧d= .str c:=by
    rw[List.getElem?_map]at hdj
    cases hci:row[j]? with
    |none=>rw[hci]at hdj;cases hdj
    |some c=>rw[hci]at hdj;cases hdj;exact⟨c,rfl,rfl⟩
   have nlen:=R.len row mrow name (List.mem_of_getElem? hname)
   have plen:=B.plen row mrow j
   have e₃:pathOf (row.take (j+1))=joinS (pathOf (row.take j)) name:=zA2 joinS "/" row hname
   rw[e₃]at hT2
   have Sb:=S.mono Fb.kg
   walk_at "sh"
   with_reducible refine zAa (zLu (x:="paths") (ds:=done.map .str) (c:= .str (pathOf (row.take j))) (d:= .str (joinS (pathOf (row.take j)) name)) Fb ?_ mDp j4 ?_ fun h₄ tk₄ F₄ R₄ L₄=> ?_)
   ·rfl
   ·refine zAt Sb (zAj Sb G zQq) (by k_is) rfl (zAc (zHm (nmV_ Fb.is) (zDw (i:=1) zAo) j4 ?_) (zAc (nm_ Fb.is) zAg)) (zKw Sb ((rm.deeper _).le (by omega)) _ _ (by omega) (by omega))
    simp
   refine wpAny_execs_nil (hT2 _ _ ⟨h₄,tk₄,rfl,F₄.pick ?_,⟨L₄,Zd j5 R₄,j6.trans (ud R₄)⟩,R₄.le fun b m=> ?_⟩)
   ·exact⟨rfl,rfl,rfl,rfl,rfl,trivial⟩
   ·rw[List.mem_singleton.mp m];exact mDp
  ·rintro h₄ tk₄ E₃ F₄ ⟨j4,j5,j6⟩ R₄
   rw[List.length_map,List.take_length]at j4
   refine wpAny_execs_nil ?_
   walk_at "sh"
   refine wpAny_execs_nil (hT1 _ _ ⟨h₄,tk₄,rfl,F₄,⟨?_,j5,j6⟩,(R₃.le fun b m=> ?_).trans R₄⟩)
   ·rw[List.map_append];exact j4
   ·rw[List.mem_singleton.mp m];exact mDp
 ·rintro h₃ tk₃ E'' F₃ ⟨j1,j2,j3⟩ -
  rw[List.length_map,List.take_length]at j1
  have F₃':Fn (hid Ls s.heap) (σ.addrs++Ls) (σ.addrs++Ls) h₃ F.en (tG2 σ.so (rows.map pathOf) ways):=
   Fn.thaw (D:=Dp) F₃ j1 (fun m=>(List.mem_append.mp m).elim nDp DpL) (fun b m=>m) ⟨.inl rfl, .inl rfl, .inr ⟨rfl,rfl⟩, .inl rfl,trivial⟩
  have hps:∀o∈rows.map pathOf,o.length≤1000∧okS o:=fun o ho=>by
   obtain⟨r,hr,rfl⟩:=List.mem_map.mp ho
   have:=B.plen r hr r.length
   rw[List.take_length]at this
   exact⟨this,B.pok r hr⟩
  have psl:(rows.map pathOf).length≤24:=by rw[List.length_map];exact R.few
  have hBf:=B.few
  have hBh:=B.held
  have hDn:=U.down
  have hFr:=U.free
  have hFi:=U.fin
  have hFl:=U.flen
  have hSt:=U.start
  rw[show rows.length=(rows.map pathOf).length by simp]at hDn hFr hFi hSt
  generalize rows.map pathOf=ps at F₃' hps psl hBf hBh hDn hFr hFi hSt
  refine wpAny_execs_nil ?_
  walk_at "sh"
  with_reducible refine zAa (zGg (O₀:=σ.addrs) (X:=Ls) (M:=Ls) (ds:=ps.map .str) (zAx (rm.deeper _).hand (nm_ F₃'.is))
   (fun _=>tG2 σ.so ps ways)
   (fun i O h=>BB w s.heap Ls F.en σ.so (buildAt ps i) O h) F₃' ?_ ?_ ?_ ?_ ?_ ?_)
  ·intro h' k
   exact⟨σ,j2.keep fun b _ o e=>k _ _ e,fun b m=>off₂ b (List.mem_cons_of_mem _ m),djσ,ab₂,so₂,rfl,j3.trans (Up.of_ext k)⟩
  ·exact stC
  ·rintro i O h h' it F' ⟨σ',z,o,d,a,r,so,u⟩ hit hil p
   exact⟨σ',z.poke p hit,o,d,a,r,so,u.trans fun b m o e=>⟨o.slots,p.keep b o (fun z=>hil (z▸m)) e⟩⟩
  ·rintro i O h h' F' ⟨σ',z,o,d,a,r,so,u⟩ R
   exact⟨σ',z.rel o R (fun b _=>nn b),o,d,a,r,so,u.trans (Up.rel (R:=True) offL R)⟩
  ·intro i d O s' E'' hdd Fa j
   refine opqQ fun T3 hT3=> ?_
   obtain⟨σa,Za,offa,dja,aba,rea,soa,ua⟩:=j
   obtain⟨x,hx,rfl⟩:∃c,ps[i]? =some c∧d= .str c:=by
    rw[List.getElem?_map]at hdd
    cases hci:ps[i]? with
    |none=>rw[hci]at hdd;cases hdd
    |some c=>rw[hci]at hdd;cases hdd;exact⟨c,rfl,rfl⟩
   have mx:=List.mem_of_getElem? hx
   have eb:buildAt ps (i+1)=buildStep ps (buildAt ps i) x:=zA2 _ _ _ hx
   rw[eb]at hT3
   have Sa:=S.mono Fa.kg
   walk_at "sh"
   with_reducible refine zAa (zBo (x:="other") (ds:=ps.map .str) ["path"] Fa (zAx (rm.deeper _).hand (nm_ Fa.is)) (heldP x) id ?_ ?_ ?_ ?_ ?_ ?_ fun h₄ tk₄ F₄ R₄=> ?_)
   ·intro C X' h₅ d hd k₅ I'
    obtain⟨o,ho,rfl⟩:=List.mem_map.mp hd
    have S₅:=Sa.mono k₅
    refine⟨zBt (zCt (zAs (nm_ I') (nm_ I') zEi) fun _=>zAs (zAt S₅ (zAj S₅ G.c zIt) (by k_is) rfl (zAc (nm_ I') zAg) (zG1 S₅ ((rm.deeper _).le (by omega)) o (by have:=(hps o ho).1;omega))) (nm_ I') zCu),fun _=> ?_⟩
    with_reducible exact nm_ I'
   ·rw[List.length_map];unfold sizeLine;omega
   ·rfl
   ·rfl
   ·intro y hy
    simp only[List.mem_singleton]at hy;subst hy
    walk_at "free"
   ·rfl
   rw[held_eq]at F₄
   have hhl:=hBh x
   have hok:okR (heldOf ps x):=fun y hy=>(hps y (List.mem_filter.mp hy).1).2
   have few₁:Few σa.abs 800:=aba▸hBf i
   have rd₁:σa.ready=none:=congrArg (·.1) rea
   generalize hhe:heldOf ps x=hs at F₄ hhl hok
   have Z₄:SOR w h₄ σa:=Za.rel offa R₄ (fun b _=>nn b)
   have u₄:=ua.trans (Up.rel (R:=True) offL R₄)
   walk_at "sh"
   with_reducible refine zAa (zBj (c:= !PyData.eqv (rowS hs) (rowS [])) F₄ ?_ fun h₅ tk₅ k₅ F₅=>⟨fun e=> ?_,fun e=> ?_⟩)
   ·with_reducible refine zAs (nm_ F₄.is) (zAr zAg) (zF5 ((rm.deeper _).lay (zBa hok) (by rw[zB0];decide)) (zBa okR_nil))
   ·rw[zBn]at e
    have hne:hs≠[]:=by simpa using e
    have S₅:=S.mono F₅.kg
    have Z₅:SOR w h₅ σa:=Z₄.keep fun b _ o e=>k₅ _ _ e
    refine wpAny_execs_cons (wpAny_Expr (zPa (s:={heap:=h₅,gens:=_,drawn:=_,toks:=_,os:=_}) (σ:=σa) (X:=σa.addrs++Ls) (x:=x) (ys:=hs) S₅ F₅.kx (by rw[soa];exact nmV_ F₅.is) Z₅ (nm_ F₅.is) (nm_ F₅.is) (by omega) fun t qs h₆ tk₆ k₆ hqs=> ?_) (by first|rfl|with_unfolding_all rfl) (by first|rfl|with_unfolding_all rfl))
    have F₆:=F₅.ext k₆
    have Z₆:SOR w h₆ σa:=Z₅.keep fun b _ o e=>k₆ _ _ e
    have S₆:Stat (hd.heap_1 w.params) (hid σa.addrs h₆):=S.mono fun b o e=>zAb (F₆.kg b o e) fun m=>by
     have:=F₆.outM b (List.mem_append_left _ m)
     rw[this]at e;cases e
    refine zPs (s:={heap:=h₆,gens:=_,drawn:=_,toks:=_,os:=_}) S₆ ((rm.deeper _).le (by omega)) Z₆ rd₁ few₁ (by have:=congrArg List.length hqs;simp at this;omega) fun σ' h₇ tk₇ G₇ ab₇ re₇=> ?_
    obtain⟨F₇,R₇,X₇⟩:=F₆.goes G₇ offa
    have off₇:=offa.goes F₆ G₇.own
    have k46:Ext h₄ h₆:=fun b o e=>k₆ b o (k₅ b o e)
    have dj₇:∀b∈Ls,b∉σ'.addrs:=fun b m q=>by
     rcases G₇.own b q with q|q
     ·exact dja b m q
     ·obtain⟨o₀,_,_,e₀,_⟩:=D b m
      obtain⟨sl,e'⟩:=u₄ b m o₀ e₀
      have:=k46 _ _ e'
      rw[show h₆.get? b=none from q]at this;cases this
    have u₇:Up Ls h₆ h₇:=fun b m o e=>⟨o.slots,G₇.ext b o (zAb e (dja b m))⟩
    walk_at "sh"
    refine wpAny_execs_nil ?_
    walk_at "sh"
    refine wpAny_execs_nil (hT3 _ _ ⟨h₇,tk₇,rfl,⟨σ'.addrs,F₇.pick ?_,⟨σ',G₇.z,off₇,dj₇,?_,re₇.trans rea,G₇.so.trans soa,u₄.trans ((Up.of_ext k46).trans u₇)⟩,fun b m=> ?_⟩,?_⟩)
    ·exact⟨rfl,rfl,rfl,rfl,trivial⟩
    ·rw[ab₇,hqs,aba,buildStep,hhe,if_neg hne]
    ·rcases G₇.own b m with m'|m'
     ·exact .inl m'
     ·right
      cases q:s'.heap.get? b with
      |none=>rfl
      |some o=>
       have:=k46 _ _ (R₄ b o (nn b) (off₇ b m).1 (fun n _=>(off₇ b m).2 n) q)
       rw[show h₆.get? b=none from m']at this;cases this
    ·exact(R₄.le fun b m=>absurd m (nn b)).trans (k46.rel.trans R₇)
   ·rw[zBn]at e
    have hne:hs=[]:=by simpa using e
    refine wpAny_execs_nil ?_
    walk_at "sh"
    refine wpAny_execs_nil (hT3 _ _ ⟨h₅,tk₅,rfl,⟨σa.addrs,F₅.pick ?_,⟨σa,Z₄.keep fun b _ o e=>k₅ _ _ e,offa,dja,?_,rea,soa,u₄.trans (Up.of_ext k₅)⟩,fun b m=> .inl m⟩,?_⟩)
    ·exact⟨rfl,rfl,rfl,rfl,trivial⟩
    ·rw[aba,buildStep,hhe,if_pos hne]
    ·exact(R₄.le fun b m=>absurd m (nn b)).trans k₅.rel
  ·rintro O h₄ tk₄ E'' F₄ ⟨σb,Zb,offb,djb,abb,reb,sob,ub⟩ -
   rw[List.length_map]at abb
   have abb':σb.abs=buildAt ps ps.length:=abb
   have rdb:σb.ready=none:=congrArg (·.1) reb
   have pab:σb.passed=0:=congrArg (·.2.1) reb
   have fib:σb.finished=0:=congrArg (·.2.2) reb
   obtain⟨rank,Dn⟩:=hDn σb abb'
   have hfree:=hFr σb abb'
   have hfin:=hFi σb abb'
   have S₄:=S.mono F₄.kg
   refine wpAny_execs_nil ?_
   walk_at "sh"
   refine wpAny_execs_cons (wpAny_Expr (zCn (s:={heap:=h₄,gens:=_,drawn:=_,toks:=_,os:=_}) (σ:=σb) S₄ (by rw[sob];exact nmV_ F₄.is) Zb (fun h₅ tk₅ k₅=> ?_) (by decide) s_gp s_fp s_tp s_kp) (by first|rfl|with_unfolding_all rfl) (by first|rfl|with_unfolding_all rfl))
   have F₅:=F₄.ext k₅
   have Z₅:SOR w h₅ σb:=Zb.keep fun b _ o e=>k₅ _ _ e
   have u₅:=ub.trans (Up.of_ext k₅)
   have D₅:Dicts (F.en.locals::Ls) h₅:=(D.up u₅).cons F₅.is.ns
   have S₅:Stat (hd.heap_1 w.params) (hid (σb.addrs++(F.en.locals::Ls)) h₅):=S.mono fun b o e=>zAb (F₅.kg b o e) fun m=>by
    rcases List.mem_append.mp m with m|m
    ·have:=F₅.outM b (List.mem_append_left _ m)
     rw[this]at e;cases e
    rcases List.mem_cons.mp m with m|m
    ·have:=F₅.outL
     rw[m]at e
     rw[show(hid Ls s.heap).get? F.en.locals=none from this]at e;cases e
    ·have:=F₅.outM b (List.mem_append_right _ m)
     rw[this]at e;cases e
   have dj₅:∀b∈F.en.locals::Ls,b∉σb.addrs:=fun b m q=>by
    rcases List.mem_cons.mp m with m|m
    ·exact(offb b q).1 m
    ·exact djb b m q
   refine zMs (s:={heap:=h₅,gens:=_,drawn:=_,toks:=_,os:=_}) (Ls:=F.en.locals::Ls) (outer:=F.en::outer) S₅ ((rm.deeper _).le (by omega)) stk' D₅ dj₅ Z₅ rdb Dn fun l h₆ tk₆ Z₆ fr₆ kp₆ up₆=> ?_
   have own₆:∀b∈({σb with ready:=some (l,σb.free)}:Srt).addrs,b∈σb.addrs∨h₅.get? b=none:=fun b m=>by
    rcases(zB2 rdb b).mp m with rfl|m
    ·exact .inr fr₆
    ·exact .inl m
   have mv:=F₅.moved (O':=({σb with ready:=some (l,σb.free)}:Srt).addrs) (Ls:=F.en.locals::Ls) offb D₅ (fun b o n1 n2 e=>kp₆ b o n1 n2 e) up₆ (fun b m=>List.mem_cons.mp m) own₆ (fun b m=>(zB2 rdb b).mpr (.inr m)) (fun b m=>Z₆.alive b m)
   have F₆:=mv.1
   have off₆:Off ({σb with ready:=some (l,σb.free)}:Srt).addrs F.en:=offb.goes F₅ own₆
   have u₆:=u₅.trans (up₆.le fun b m=>List.mem_cons_of_mem _ m)
   have dj₆:∀b∈Ls,b∉({σb with ready:=some (l,σb.free)}:Srt).addrs:=fun b m q=>by
    rcases own₆ b q with q|q
    ·exact djb b m q
    ·obtain⟨o₀,_,_,e₀,_⟩:=D b m
     obtain⟨sl,e'⟩:=u₅ b m o₀ e₀
     rw[show h₅.get? b=none from q]at e';cases e'
   rw[hfree]at Z₆ F₆ off₆ dj₆
   have atp:∀x,({σb with ready:=some (l,firstDue rows)}:Srt).at x=σb.at x:=fun _=>rfl
   have abp:({σb with ready:=some (l,firstDue rows)}:Srt).abs=σb.abs:=rfl
   have sop:({σb with ready:=some (l,firstDue rows)}:Srt).so=σb.so:=rfl
   have rep:({σb with ready:=some (l,firstDue rows)}:Srt).rest=(some (l,firstDue rows),0,0):=by unfold Srt.rest;simp only;rw[pab,fib]
   generalize ({σb with ready:=some (l,firstDue rows)}:Srt)=σp at Z₆ F₆ off₆ dj₆ atp abp sop rep
   have rdp:σp.ready=some (l,firstDue rows):=congrArg (·.1) rep
   have pap:σp.passed=0:=congrArg (·.2.1) rep
   have fip:σp.finished=0:=congrArg (·.2.2) rep
   have S₆:=S.mono F₆.kg
   walk_at "sh"
   refine wpAny_execs_cons (zB1 (wpAny_List (wpAny_items_cons (zCn (s:={heap:=h₆,gens:=_,drawn:=_,toks:=_,os:=_}) (σ:=σp) S₆ (by rw[sop,sob];exact nmV_ F₆.is) Z₆ (fun h₇ tk₇ k₇=> ?_) (by decide) s_gg s_fg s_tg s_kg) (by first|rfl|with_unfolding_all rfl))))
   have F₇:=F₆.ext k₇
   have Z₇:SOR w h₇ σp:=Z₆.keep fun b _ o e=>k₇ _ _ e
   have S₇:Stat (hd.heap_1 w.params) (hid σp.addrs h₇):=S.mono fun b o e=>zAb (F₇.kg b o e) fun m=>by
    have:=F₇.outM b (List.mem_append_left _ m)
    rw[this]at e;cases e
   refine zEv (s:={heap:=h₇,gens:=_,drawn:=_,toks:=_,os:=_}) (X:=Ls) S₇ ((rm.deeper _).le (by omega)) Z₇ rdp (fun b m=>F₇.kx b (List.mem_append_right _ m)) hFl (fun x m=>by rw[atp];exact hfin x m) fun σ₀ v₀ h₈ tk₈ G₈ r₈ ab₈ re₈=>wpAny_items_nil ⟨by simp[sizeLine],?_⟩
   obtain⟨F₈,R₈,X₈⟩:=F₇.goes G₈ off₆
   have off₈:=off₆.goes F₇ G₈.own
   have u₈:Up Ls s.heap h₈:=u₆.trans ((Up.of_ext k₇).trans fun b m o e=>⟨o.slots,G₈.ext b o (zAb e (dj₆ b m))⟩)
   have so₈:σ₀.so=σ.so:=by rw[G₈.so,sop,sob]
   have mir₈:Mir σ₀ ⟨rows,[]⟩:=hSt σ₀ l (by rw[ab₈,abp,abb']) (by rw[re₈,pap,fip];simp)
   have Z₈:=G₈.z
   have dj₈:∀b∈Ls,b∉σ₀.addrs:=fun b m q=>by
    rcases G₈.own b q with q|q
    ·exact dj₆ b m q
    ·obtain⟨o,e⟩:=F₇.kx b (List.mem_append_right _ m)
     rw[show h₇.get? b=none from q]at e;cases e
   clear G₈ R₈ X₈ Z₇ S₇ F₇ k₇ re₈ ab₈
   dsimp only
   have fr₈:h₈.get? h₈.objs.size=none:=Heap.get?_none_of_le (Nat.le_refl _)
   generalize hh9:h₈.push {cls:= .type "list",data:= .seq ([v₀]:List Value).toArray}=h₉
   have k₉:Ext h₈ h₉:=hh9▸Ext.push _ _
   have e₉:h₉.get? h₈.objs.size=some {cls:= .type "list",data:= .seq ([v₀]:List Value).toArray}:=hh9▸Heap.get?_push_size _ rfl
   have nX:h₈.objs.size∉σ₀.addrs++Ls:=fun m=>by
    obtain⟨o,e⟩:=F₈.kx _ m
    rw[fr₈]at e;cases e
   have F₉:=F₈.hide k₉ fr₈ ⟨_,e₉⟩
   generalize h₈.objs.size=Dt at e₉ nX F₉ fr₈
   have iff₉:∀b,b∈σ₀.addrs++(Dt::Ls)↔b∈Dt::(σ₀.addrs++Ls):=fun b=>by
    simp only[List.mem_append,List.mem_cons];exact or_left_comm
   have F₉':Fn (hid Ls s.heap) (σ₀.addrs++(Dt::Ls)) (σ₀.addrs++(Dt::Ls)) h₉ F.en _:=F₉.reset iff₉ fun b=>(iff₉ b).mp
   have T₉:TB w Ls F.en Dt σ₀ h₉ [.tuple ((firstDue rows).map .str)]:=by
    refine⟨Z₈.keep fun b _ o e=>k₉ _ _ e,?_,fun m=>nX (List.mem_append_left _ m),dj₈,fun m=>nX (List.mem_append_right _ m),D.up (u₈.trans (Up.of_ext k₉)),offL,_,⟨0,e₉⟩, .cons (r₈.mono ?_) .nil⟩
    ·intro b m
     rcases List.mem_append.mp m with m|m
     ·exact off₈ b m
     ·obtain rfl:=List.mem_singleton.mp m
      exact(off₈.goes F₈ (O':=b::σ₀.addrs) fun c m=>by
       rcases List.mem_cons.mp m with rfl|m
       ·exact .inr fr₈
       ·exact .inl m) b List.mem_cons_self
    ·intro b o e _
     refine zAb (k₉ _ _ (zAf _ _ _ _ e)) fun m=> ?_
     rcases List.mem_cons.mp ((iff₉ b).mp m)with rfl|m
     ·rw[zAf _ _ _ _ e]at fr₈;cases fr₈
     ·exact zAh e m
   have u₉:=u₈.trans (Up.of_ext k₉)
   refine zAn (b:= .v (.ref Dt)) F₉' stL rfl fun h₁₀ tk₁₀ F₁₀ R₁₀=> ?_
   have T₁₀:=T₉.st F₉' R₁₀
   have u₁₀:=u₉.trans (Up.rel (R:=True) offL R₁₀)
   have T₁₀':TB w Ls F.en Dt σ₀ h₁₀ (dueAt rows (ways.take 0)).2:=T₁₀
   have F₁₀':Fn (hid Ls s.heap) (σ₀.addrs++(Dt::Ls)) (σ₀.addrs++(Dt::Ls)) h₁₀ F.en (tG3 σ.so (slash (dueAt rows (ways.take 0)).1.place) Dt ways):=F₁₀.pick ⟨rfl,rfl,rfl,rfl,trivial⟩
   clear F₁₀ T₁₀ T₉ F₉ F₉' F₈ F₆ mv Z₆ F₄ F₅ Z₅ D₅ S₅ S₄ Zb
   walk_at "sh"
   with_reducible refine zAa (zGg (O₀:=σ₀.addrs) (X:=Dt::Ls) (M:=Dt::Ls) (ds:=ways.map .str) (zAx (rm.deeper _).hand (nm_ F₁₀'.is))
    (fun i=>tG3 σ.so (slash (dueAt rows (ways.take i)).1.place) Dt ways)
    (fun i=>BC w s.heap Ls F.en Dt σ.so Mir (dueAt rows (ways.take i)).1 (dueAt rows (ways.take i)).2) F₁₀' ?_ ?_ ?_ ?_ ?_ ?_)
   ·intro h' k
    exact⟨σ₀,T₁₀'.ex k,mir₈,so₈,u₁₀.trans (Up.of_ext k)⟩
   ·exact stL
   ·rintro i O h h' it F' ⟨τ,t,m,so,u⟩ hit hil p
    exact⟨τ,t.poke p hit hil,m,so,u.trans fun b m o e=>⟨o.slots,p.keep b o (fun z=>hil (z▸List.mem_cons_of_mem _ m)) e⟩⟩
   ·rintro i O h h' F' ⟨τ,t,m,so,u⟩ R
    exact⟨τ,t.st F' R,m,so,u.trans (Up.rel (R:=True) offL R)⟩
   ·intro i d O s' E'' hdd Fa j
    refine opqQ fun T4 hT4=> ?_
    obtain⟨τ,Ta,ma,soa,ua⟩:=j
    obtain⟨way,hway,rfl⟩:∃c,ways[i]? =some c∧d= .str c:=by
     rw[List.getElem?_map]at hdd
     cases hci:ways[i]? with
     |none=>rw[hci]at hdd;cases hdd
     |some c=>rw[hci]at hdd;cases hdd;exact⟨c,rfl,rfl⟩
    have wk:wayOk way:=hwl way (List.mem_of_getElem? hway)
    obtain⟨K,kl⟩:=zE5 R (ways.take i)
    have ol':(dueAt rows (ways.take i)).2.length≤1000:=by
     have:(ways.take i).length≤ways.length:=by rw[List.length_take];omega
     omega
    rw[zHc hway]at hT4
    generalize dueAt rows (ways.take i)=q at Fa Ta ma K ol' hT4
    obtain⟨d,out⟩:=q
    dsimp only at Fa Ta ma K ol' hT4
    obtain⟨tg,jl,pll,tl,tc⟩:=U.target τ d way ma K wk
    have wl:=wk.1.1
    have Sa:=S.mono Fa.kg
    generalize hx:targetOf way (rowOf way d.place)=x at tg tl tc
    walk_at "sh"
    with_reducible refine zAa (zAi (d:= .str x) Fa ?_ ?_ fun h₁₁ tk₁₁ F₁₁ R₁₁=> ?_)
    ·rw[←tg]
     exact zAt Sa (zAj Sa G zMz) (by k_is) rfl (zAc (zAt Sa (zAj Sa G zQq) (by k_is) rfl (zAc (nm_ Fa.is) (zAc (nm_ Fa.is) zAg)) (zKw Sa ((rm.deeper _).le (by omega)) _ _ (by omega) (by omega))) zAg) (zKa Sa ((rm.deeper _).le (by omega)) _ jl)
    ·exact stL
    have T₁₁:=Ta.st Fa R₁₁
    have u₁₁:=ua.trans (Up.rel (R:=True) offL R₁₁)
    obtain⟨l,hl⟩:=U.ready τ d ma
    walk_at "sh"
    refine wpAny_execs_cons (zQb (s:={heap:=h₁₁,gens:=_,drawn:=_,toks:=_,os:=_}) (σ:=τ) (Dt:=Dt) (told:=out) (x:=x) (place:=slash d.place) (l:=l) S ((rm.deeper _).le (by omega)) stk' G F₁₁ T₁₁ hl (U.few τ d ma) (U.hin τ d ma x) (U.hnp τ d ma x) tl tc (by rw[soa];rfl) rfl rfl rfl (fun p h₁₂ tk₁₂ atp np F₁₂ T₁₂ R₁₂ u₁₂=> ?_) (fun m h₁₂ tk₁₂ hm F₁₂ T₁₂ R₁₂ u₁₂=> ?_))
    ·obtain⟨fr,hrd,frl,fin,ent,dir,nxt⟩:=U.gone τ d way x p ma K wk hx atp np
     have so₁:(τ.done1 x p.1.succ).so=τ.so:=((zCc (f:=setNp (-2)) fun _=>rfl).trans (zBu _)).so
     have ad₁:(τ.done1 x p.1.succ).addrs=τ.addrs:=zKf
     have hr₁:=hrd l hl
     generalize τ.done1 x p.1.succ=τ₁ at F₁₂ T₁₂ hr₁ fin nxt so₁ ad₁
     walk_at "sh"
     refine wpAny_execs_cons (zFt (s:={heap:=h₁₂,gens:=_,drawn:=_,toks:=_,os:=_}) (σ:=τ₁) (Dt:=Dt) (told:=out) (x:=x) (od:= .list [.str "gone", .none]) (l:=l) (xs:=fr) S ((rm.deeper _).le (by omega)) F₁₂ T₁₂ hr₁ frl fin ol' rfl rfl rfl (by rw[so₁,soa];rfl) fun σ' h₁₃ tk₁₃ F₁₃ T₁₃ ab₁₃ re₁₃ so₁₃ own₁₃ R₁₃ u₁₃=> ?_)
     walk_at "sh"
     refine wpAny_execs_nil (hT4 _ _ ⟨h₁₃,tk₁₃,rfl,⟨σ'.addrs,F₁₃.pick ?_,⟨σ',?_,?_,?_,?_⟩,?_⟩,?_⟩)
     ·rw[zB7]
      exact⟨rfl,by rewrite[←dir];rfl,rfl,rfl,trivial⟩
     ·rw[zC2,ent];exact T₁₃
     ·rw[zB7];exact nxt σ' l ab₁₃ re₁₃
     ·rw[so₁₃,so₁,soa]
     ·exact u₁₁.trans (u₁₂.trans u₁₃)
     ·intro b m
      rcases own₁₃ b m with q|q
      ·exact .inl (ad₁▸q)
      ·exact T₁₃.own ((R₁₁.le zAp).trans R₁₂) m q
     ·rw[ad₁]at R₁₃
      exact(R₁₁.le zAp).trans (R₁₂.trans R₁₃)
    ·obtain⟨ent,dir,nxt⟩:=U.bad τ d way x m ma K wk hx hm
     walk_at "sh"
     refine wpAny_execs_cons (zFt (s:={heap:=h₁₂,gens:=_,drawn:=_,toks:=_,os:=_}) (σ:=τ) (Dt:=Dt) (told:=out) (x:=x) (od:= .list [.str m, .none]) (l:=l) (xs:=[]) S ((rm.deeper _).le (by omega)) F₁₂ T₁₂ hl (by simp) (fun _ m=>nomatch m) ol' rfl rfl rfl (by rw[soa];rfl) fun σ' h₁₃ tk₁₃ F₁₃ T₁₃ ab₁₃ re₁₃ so₁₃ own₁₃ R₁₃ u₁₃=> ?_)
     walk_at "sh"
     refine wpAny_execs_nil (hT4 _ _ ⟨h₁₃,tk₁₃,rfl,⟨σ'.addrs,F₁₃.pick ?_,⟨σ',?_,?_,?_,?_⟩,?_⟩,?_⟩)
     ·rw[zB7]
      exact⟨rfl,by rewrite[←dir];rfl,rfl,rfl,trivial⟩
     ·rw[zC2,ent];exact T₁₃
     ·rw[zB7];exact nxt σ' l ab₁₃ (by rw[re₁₃];simp)
     ·rw[so₁₃,soa]
     ·exact u₁₁.trans (u₁₂.trans u₁₃)
     ·intro b m
      rcases own₁₃ b m with q|q
      ·exact .inl q
      ·exact T₁₃.own ((R₁₁.le zAp).trans R₁₂) m q
     ·exact(R₁₁.le zAp).trans (R₁₂.trans R₁₃)
   ·rintro O h₁₄ tk₁₄ E'' F₁₄ ⟨τ,T,m,so,u⟩ -
    rw[List.length_map,List.take_length]at T m F₁₄
    obtain⟨K,kl⟩:=zE5 R ways
    have act:=U.active τ _ m
    obtain⟨l,hl⟩:=U.ready τ _ m
    rw[show dueAll rows ways= .list ((dueAt rows ways).2++[.bool (decide (τ.finished<τ.passed))]) by rw[act];rfl]at hQ
    generalize (dueAt rows ways).2=out at T kl hQ
    have iffT:∀b,b∈Dt::(τ.addrs++Ls)↔b∈τ.addrs++(Dt::Ls):=fun b=>by
     simp only[List.mem_append,List.mem_cons];exact or_left_comm
    have FT:=F₁₄.reset iffT fun b=>(iffT b).mp
    have LT:OwnList (Dt::(τ.addrs++Ls)) h₁₄ Dt out:=by
     obtain⟨ys,pl,rs⟩:=T.l
     exact⟨ys,pl,rs.mono fun b o e _=>zAb (zAf _ _ _ _ e) fun q=>zAh e ((iffT b).mp q)⟩
    have FD:Fn (hid Ls s.heap) (τ.addrs++Ls) (τ.addrs++Ls) h₁₄ F.en [("sorter", .v (.ref σ.so)),("told", .d (.list out))]:=
     Fn.thaw (D:=Dt) FT LT (fun q=>(List.mem_append.mp q).elim T.nD T.dD) (fun b q=>q) ⟨.inl rfl, .inr ⟨rfl,rfl⟩,trivial⟩
    have SD:=S.mono FD.kg
    refine wpAny_execs_nil ?_
    walk_at "sh"
    refine wpAny_execs_cons (zAz FD (zDh (nm_ FD.is) (zAr (zAc (zOs (σ:=τ) SD ((rm.deeper _).le (by omega)) T.z hl (by rw[so];exact nmV_ FD.is)) zAg)) (by simp[sizeLine];omega)) fun v h₁₅ tk₁₅ F₁₅ k₁₅ r₁₅=> ?_)
    exact hQ v h₁₅ tk₁₅ (r₁₅.mono fun b o e _=>zAb (zAf _ _ _ _ e) fun q=>zAh e (List.mem_append_right _ q)) (fun b o n e=>F₁₅.kg b o (zAb e n)) (u.trans (Up.of_ext k₁₅))
end
end P49
section W6
open PySem.Calls Builtin Builtin.Bytes
section
variable {prog:Program} {w:World} {A:Around} {E:Value→Shared→Prop} {s:Shared} {b:Array UInt8} {t:Tok}
theorem bj_take {id:String}:takeBufferQuiet? id (.bytes b t) 0=pure (some (b,none)):=by kernel_rfl
theorem bj_self {v:Value}:selfAndOne "bytes.join" ⟨[.bytes b t,v],[]⟩=pure (.bytes b t,v):=by kernel_rfl
theorem bj_go:∀(bs:List (Array UInt8×Tok)) (keep:List Value) {Q:Unit→Shared→Prop},Q () s→wpAny (model prog w) A (joinLetGo (bs.map fun p=>(Value.bytes p.1 p.2,none)) keep) Q E s
 | [],keep,Q,h=>wpAny_pure h
 |p::bs,keep,Q,h=>by
  show wpAny _ _ (letGo [Value.bytes p.1 p.2] _>>=fun _=>joinLetGo _ keep) _ _ _
  refine wpAny_bind ?_
  show wpAny _ _ (holding _ point>>=fun _=>letGo [] _) _ _ _
  exact wpAny_bind (wpAny_holding (wpAny_point (wpAny_pure (bj_go bs keep h))))
theorem zOm:∀(ps:List (Array UInt8)),joined #[] ps=(ps.flatMap (·.toList)).toArray:=by
 have key:∀(ps:List (Array UInt8)) (k:Nat) (acc:Array UInt8),((ps.zipIdx k).foldl (fun out (p,i)=>(if i>0 then out++ #[]else out)++p) acc)=acc++(ps.flatMap (·.toList)).toArray:=by
  intro ps
  induction ps with
  |nil=>intro k acc;simp
  |cons p ps ih=>
   intro k acc
   rw[List.zipIdx_cons,List.foldl_cons,ih]
   have:(if k>0 then acc++ #[]else acc)=acc:=by split<;>simp
   show(if k>0 then acc++ #[]else acc)++p++_=_
   rw[this,List.flatMap_cons]
   apply Array.toList_inj.mp
   simp
 intro ps
 unfold joined
 rw[key];simp
theorem zPp {l:Addr} {bs:List (Array UInt8×Tok)} {Q:PySem.Fin→Shared→Prop} (pl:s.heap.IsList l ((bs.map fun p=>Value.bytes p.1 p.2).toArray)) (h2:2≤bs.length) (hz:(bs.flatMap (·.1.toList)).length≤16777216)
 (hQ:∀t' k,Q (.done (.ret (.bytes (bs.flatMap (·.1.toList)).toArray t'))) {s with toks:=k}):wpAny (model prog w) A (Builtin.«bytes.join» ⟨[.bytes #[] t, .ref l],[]⟩) Q E s:=by
 obtain⟨o,ho,hc,n,hd⟩:=id pl
 unfold Builtin.«bytes.join» joinM
 refine wpAny_bind (wpAny_of_eq bj_self ?_)
 show wpAny _ _ (joinItems (.ref l)>>=_) _ _ _
 unfold joinItems
 refine wpAny_bind (wpAny_bind (wpAny_typeOf pl.typeIs (wpAny_pure ?_)))
 refine wpAny_bind (wpAny_seqItems ho hd ?_)
 obtain⟨p0,bs,rfl⟩:∃p bs',bs=p::bs':=by
  cases bs with
  |nil=>simp at h2
  |cons p bs'=>exact⟨p,bs',rfl⟩
 obtain⟨p1,bs,rfl⟩:∃p bs',bs=p::bs':=by
  cases bs with
  |nil=>simp at h2
  |cons p bs'=>exact⟨p,bs',rfl⟩
 show wpAny _ _ (forIn _ _ _>>=_) _ _ _
 generalize p0::p1::bs=ps at pl hz hQ hd⊢
 have hsz:((ps.map fun p=>Value.bytes p.1 p.2).toArray).size=ps.length:=by simp
 refine wpAny_bind ?_
 rw[Std.Legacy.Range.forIn_eq_forIn_range']
 refine wpAny_forIn_list _ (fun rest b s'=>s'=s∧∃i,rest=List.range' i (ps.length - i)∧i≤ps.length∧b=(((ps.take i).map (·.1)).toArray,(ps.take i).map fun p=>(Value.bytes p.1 p.2,none))) _ ?_ ?_ _ _ ?_
 ·rintro x rest b s' ⟨rfl,i,hr,hi,rfl⟩
  obtain⟨m,hm⟩:∃m,ps.length - i=m+1:=by
   cases h:ps.length - i with
   |zero=>rw[h]at hr;simp at hr
   |succ m=>exact⟨m,rfl⟩
  rw[hm,List.range'_succ]at hr
  obtain⟨rfl,rfl⟩:=List.cons.inj hr
  have hlt:x<ps.length:=by omega
  have hx:((ps.map fun p=>Value.bytes p.1 p.2).toArray).getD x Value.none=Value.bytes ps[x].1 ps[x].2:=by
   simp[Array.getD,hlt]
  have hany:(((ps.take x).map fun p=>(Value.bytes p.1 p.2,(none:Option Value))).any fun y=>y.1.onHeap)=false:=by
   rw[List.any_map,List.any_eq_false]
   intro y _ h
   cases h
  refine wpAny_bind (wpAny_seqItems ho hd ?_)
  show wpAny _ _ (if(Kind.bytes==Kind.bytearray||((ps.take x).map fun p=>(Value.bytes p.1 p.2,(none:Option Value))).any fun y=>y.1.onHeap)=true then _ else _) _ _ _
  rw[if_neg (by rw[hany];decide),hx]
  refine wpAny_bind (wpAny_holding (wpAny_of_eq bj_take ?_))
  show wpAny _ _ (seqItems? _>>=_) _ _ _
  refine wpAny_bind (wpAny_seqItems ho hd ?_)
  show wpAny _ _ (if(_ !=_)=true then _ else _) _ _ _
  rw[if_neg (by simp)]
  refine wpAny_pure ⟨rfl,x+1,by rw[show ps.length - (x+1)=m by omega],by omega,?_⟩
  rw[List.take_succ_eq_append_getElem hlt]
  simp only[List.map_append,List.map_cons,List.map_nil,List.push_toArray]
 ·rintro b s' ⟨rfl,i,hr,hi,rfl⟩
  have hi':i=ps.length:=by
   have:=congrArg List.length hr
   simp at this;omega
  subst hi'
  rw[List.take_length]
  show wpAny _ _ (payload (Value.bytes #[] t)>>=_) _ _ _
  refine wpAny_bind (wpAny_of_eq (by kernel_rfl:payload (Value.bytes #[] t)=pure #[]) ?_)
  have hfold:Array.foldl (fun x1 (x2:Array UInt8)=>x1+x2.size) ((#[]:Array UInt8).size * (((ps.map (·.1)).toArray).size - 1)) ((ps.map (·.1)).toArray)=(ps.flatMap (·.1.toList)).length:=by
   rw[←Array.foldl_toList]
   have key:∀(l:List (Array UInt8×Tok)) (a:Nat),(l.map (·.1)).foldl (fun x1 (x2:Array UInt8)=>x1+x2.size) a=a+(l.flatMap (·.1.toList)).length:=by
    intro l
    induction l with
    |nil=>intro a;rfl
    |cons p l ih=>
     intro a
     rw[List.map_cons,List.foldl_cons,ih,List.flatMap_cons,List.length_append]
     simp;omega
   rw[key];simp
  show wpAny _ _ (if tooLong (Array.foldl (fun x1 (x2:Array UInt8)=>x1+x2.size) ((#[]:Array UInt8).size * (((ps.map (·.1)).toArray).size - 1)) ((ps.map (·.1)).toArray))=true then _ else _) _ _ _
  rw[hfold,if_neg (by unfold tooLong;rw[decide_eq_true_eq,sizeLine_eq];omega)]
  show wpAny _ _ (mkBytes (joined #[] ((ps.map (·.1)).toArray).toList)>>=_) _ _ _
  have hj:joined #[] ((ps.map (·.1)).toArray).toList=(ps.flatMap (·.1.toList)).toArray:=by
   rw[zOm]
   congr 1
   show(ps.map (·.1)).flatMap _=_
   rw[List.flatMap_map]
  rw[hj]
  refine wpAny_bind (wpAny_mkBytes ?_ (by rw[List.size_toArray,sizeLine_eq];exact hz))
  refine wpAny_bind (wpAny_holding (wpAny_point ?_))
  refine wpAny_bind (bj_go ps _ ?_)
  exact wpAny_pure (hQ _ _)
 ·exact⟨rfl,0,by simp[Std.Legacy.Range.size],Nat.zero_le _,by simp⟩
theorem zC3:Slot "bytes" "join" "bytes.join":=
 .of (owner:="bytes") (n:="join") (by rw[typeLookup_type,builtinLookup_eq_fast];kernel_rfl) (by decide+kernel) (by decide+kernel) (by decide+kernel)
  (by first|exact .inl (by decide+kernel)|exact .inr (by decide+kernel)) (by rw[isSubtype_type];kernel_rfl)
theorem zFs:typeOf (.builtin "bytes.join")=pure (.type "method_descriptor"):=by show builtinType _=_;rw[builtinType_eq_fast];kernel_rfl
theorem zE0:entryFor table "bytes.join"=some Builtin.«bytes.join» :=by first|exact entryFor_of_tree (by kernel_rfl)|exact entryFor_of_fast (by kernel_rfl)
theorem zGm (a b:Value):argsOk "bytes.join" ⟨[a,b],[]⟩:=by unfold argsOk;kernel_rfl
theorem zNb {l:Addr} {bs:List (Array UInt8×Tok)} {Q:Value→Shared→Prop} (pl:s.heap.IsList l ((bs.map fun p=>Value.bytes p.1 p.2).toArray)) (h2:2≤bs.length) (hz:(bs.flatMap (·.1.toList)).length≤16777216)
 (hQ:∀t' k,Q (.bytes (bs.flatMap (·.1.toList)).toArray t') {s with toks:=k}):wpAny (model prog w) A (call (.builtin "bytes.join") [.bytes #[] t, .ref l]) Q E s:=
 wpAny_call_entry zC3 (PySem.W.typeIs_bytes _ _ _) zE0 (zPp pl h2 hz fun t' k=>⟨_,rfl,hQ t' k⟩) (zGm _ _)
end
end W6
section M44
open PySem.Calls
noncomputable def encI (x:Str):List Int:=(x.length:Int)::x.cps.toList.map fun(c:Nat)=>(c:Int)
noncomputable def enc (x:Str):List UInt8:=(byteArr (encI x)).toList
section
variable {prog:Program} {w:World} {h h':Heap} {A:Around} {X M:List Addr} {g:Heap} {env:Env} {Γ:List (Str×Bd)} {s:Shared} {E:Value→Shared→Prop}
theorem ord_is {c:Nat}:CallIs prog w A X h (.builtin "ord") [.str ⟨#[c]⟩] (.int c):=by
 intro s vs Q E k kx r hQ
 obtain⟨v,rfl,rv⟩:=r.one
 obtain⟨t,rfl⟩:=rv.str_inv
 exact PySem.P.ord_of_char (hQ _ s.heap _ Ext.rfl (Rd.int _ _))
theorem zK3 {h:Heap}:∀{ns:List Int} {vs:List Value},Rds h (ns.map .int) vs→IntsAre vs ns
 | [],_, .nil=> .nil
 |n::ns,_, .cons r rs=>by
  obtain⟨t,rfl⟩:=r.int_inv
  exact .cons n t (zK3 rs)
theorem zO0 {f:Str} {np pos:Pos} {e:Expr} {ns:List Int} (hh:A.handled=none) (hf:EvV prog w A h (eval (.Name f np) env) (.type "bytes")) (ha:Ev prog w A X h (eval e env) (.list (ns.map .int))) (hr:∀n∈ns,0≤n∧n<256) (hz:ns.length≤100000)
 (he:autoParam (starEach [e] env=(false,eval e env)::starEach [] env) aR):
 EvP prog w A X h (eval (.Call (.Name f np) [e] [] pos) env) (fun _ v=>∃t,v= .bytes (byteArr ns) t):=by
 intro s Q E k kx hQ
 refine wpAny_Call_ofName (hf s _ _ k fun h₁ tk₁ k₁=> ?_)
 refine callWith_type1 (wpAny_items_cons (ha _ _ _ (k.trans k₁) (kx.ext k₁) fun v h₂ tk₂ k₂ r₂=>wpAny_items_nil ?_) he) he rfl
 obtain⟨l,ys,rfl,il,rs⟩:=r₂.list_inv
 have hl:=rs.length
 simp at hl
 refine call_bytes_ints (vs:=ys.toList) (ns:=ns) (by simpa using IsList.le il) (zK3 rs) hr (by simp[hl];unfold sizeLine;omega) hh fun h₃ t tk₃ k₃=> ?_
 exact hQ _ h₃ tk₃ ((k₁.trans k₂).trans k₃) ⟨t,rfl⟩
theorem zNk {h:Heap}:∀{ws:List Str} {ys:List Value},Prs (fun d _ v=>∃x t,d= .str x∧v= .bytes (byteArr (encI x)) t) h (ws.map .str) ys→
 ∃bs:List (Array UInt8×Tok),ys=bs.map (fun p=>Value.bytes p.1 p.2)∧bs.flatMap (·.1.toList)=ws.flatMap enc∧bs.length=ws.length
 | [],_, .nil=>⟨[],rfl,rfl,rfl⟩
 |x::ws,_, .cons r rs=>by
  obtain⟨bs,e1,e2,e3⟩:=zNk rs
  obtain⟨y,t,e,rfl⟩:=r
  cases e
  exact⟨(byteArr (encI x),t)::bs,by rw[e1];rfl,by rw[List.flatMap_cons,List.flatMap_cons,e2];rfl,by simp[e3]⟩
theorem zNn {Q:Value→Shared→Prop} {lc:Expr} {k1 k2:Nat} {p1 p2 p3 p4 p5:Pos} {tl:List UInt8} {ws:List Str} (kx:XOk X s.heap)
 (hlc:EvP prog w A X s.heap (eval lc env) (fun h' v=>∃D ys,v= .ref D∧h'.PlainList D ys∧Prs (fun d _ v=>∃x t,d= .str x∧v= .bytes (byteArr (encI x)) t) h' (ws.map .str) ys.toList))
 (h2:2≤ws.length) (hz:(ws.flatMap enc).length≤100000) (hz2:tl.length≤1000)
 (hQ:∀t h' tk,Ext s.heap h'→Q (.bytes (ws.flatMap enc++tl).toArray t) (sat s h' tk))
 (hb:autoParam (attributeBase (.Constant (.bytes []) k1 p1) "join" env (eval (.Constant (.bytes []) k1 p1) env)=eval (.Constant (.bytes []) k1 p1) env) aR)
 (hst:autoParam (starEach [lc] env=[(false,eval lc env)]) aR) (hl:autoParam ((p2.endLine==p3.line)=true) aR):
 wpAny (model prog w) A (eval (.BinOp (.Call (.Attribute (.Constant (.bytes []) k1 p1) "join" p2) [lc] [] p3) .Add (.Constant (.bytes tl) k2 p4) p5) env) Q E s:=by
 refine wpAny_BinOp ?_
 refine Call_method1 hb hst hl (Constant_bytes ?_)
 unfold MethodOnS
 refine⟨"bytes","bytes.join",FB.plainAttrs_bytes,zC3,zFs,PySem.W.typeIs_bytes _ _ _,(fun _ e=>nomatch e),?_⟩
 refine Calls.callWith_builtin rfl (Calls.evalArgs_plain (Calls.spliced_cons (hlc _ _ _ Ext.rfl kx fun v h₁ tk₁ k₁ q=>Calls.spliced_nil ?_)))
 obtain⟨D,ys,rfl,⟨n,e⟩,ps⟩:=q
 obtain⟨bs,e1,e2,e3⟩:=zNk ps
 have il:h₁.IsList D ((bs.map fun p=>Value.bytes p.1 p.2).toArray):=⟨_,zAf _ _ _ _ e,rfl,n,by rw[←e1]⟩
 refine zNb (s:=(sat s h₁ tk₁)) il (by omega) (by rw[e2];omega) fun t k=> ?_
 rw[e2]
 refine Constant_bytes ?_
 refine KBy.add_bytes ?_ fun t' k'=> ?_
 ·rw[List.size_toArray,List.size_toArray];omega
 ·rw[List.append_toArray]
  exact hQ t' h₁ k' k₁
end
end M44
section P50
section
variable {w:World} {A:Around} {X M O O' Ls Y:List Addr} {h h':Heap} {g g₀:Heap} {env:Env} {Γ:List (Str×Bd)} {outer:List Env} {s:Shared} {E:Value→Shared→Prop}
theorem n_lrows:nsIn (hd.heap_1 w.params) mainGlobals "_law_rows"=some (some (.ref 275)):=by k_is
theorem n_lway:nsIn (hd.heap_1 w.params) mainGlobals "_law_way"=some (some (.ref 280)):=by k_is
theorem n_lread:nsIn (hd.heap_1 w.params) mainGlobals "_law_read"=some (some (.ref 287)):=by k_is
theorem k_lread:keepIn (hd.heap_1 w.params) (.ref 287)=true:=by k_is
theorem n_ltold:nsIn (hd.heap_1 w.params) mainGlobals "_law_told"=some (some (.ref 292)):=by k_is
theorem k_ltold:keepIn (hd.heap_1 w.params) (.ref 292)=true:=by k_is
theorem n_ldue:nsIn (hd.heap_1 w.params) mainGlobals "_law_due"=some (some (.ref 297)):=by k_is
noncomputable def fixedW:List Str:=["a/./a","ä","ä","../ä/../b",".","../../../ä","//a//ä/.","///a/ä","..","a",""]
noncomputable def waysOf (xs:List Int):List Str:=((xs.drop 3).take 5).map wayS++fixedW
noncomputable def tapeOf (ws:List Str):Array UInt8:=(ws.flatMap enc++[5,97,98]).toArray
noncomputable def rowsOf (xs:List Int):List (List Str):=(uniqB (headsB (xs.take 3))).map (·.map nm)
noncomputable def wayD:PyData→PyData
 | .int x=> .str (wayS x)
 |_=> .none
noncomputable def ordD:PyData→PyData
 | .str ⟨⟨[c]⟩⟩=> .int (c:Int)
 |_=> .none
theorem cutD_ss {α:Type} (l:List α) (i j:Nat) (h:i≤j):cutD l (some (i:Int)) (some (j:Int))=(l.drop i).take (j - i):=by
 unfold cutD
 have c:∀k:Nat,clipAt l.length (k:Int)=min k l.length:=fun k=>by unfold clipAt;split<;>omega
 simp only[Option.elim_some,c]
 by_cases h1:i≤l.length
 ·rw[Nat.min_eq_left h1]
  by_cases h2:j≤l.length
  ·rw[Nat.min_eq_left h2]
  ·rw[Nat.min_eq_right (by omega),List.take_of_length_le (by simp),List.take_of_length_le (by simp;omega)]
 ·rw[List.drop_eq_nil_of_le (show l.length≤i by omega),Nat.min_eq_right (show l.length≤i by omega),List.drop_length];simp
theorem zLr {α:Type} (l:List α) (a b:α):cutD (l++[a,b]) none (some (-2))=l:=by
 unfold cutD
 have c:clipAt (l++[a,b]).length (-2)=l.length:=by unfold clipAt;rw[if_pos (by decide),List.length_append];simp;omega
 simp only[Option.elim_none,Option.elim_some,c,List.drop_zero,Nat.sub_zero]
 exact List.take_left' rfl
theorem rowD_S (r:List Bool):rowD r=rowS (r.map nm):=by simp[rowD,rowS]
theorem zNj (xs:List Int):(uniqB (headsB (xs.take 3))).map rowD=(rowsOf xs).map rowS:=by
 rw[rowsOf,List.map_map]
 exact List.map_congr_left fun r _=>rowD_S r
theorem zOi (l:List Int):((l.map PyData.int).filter fun _=>true).map wayD=(l.map wayS).map .str:=by
 rw[zBd,List.map_map,List.map_map];rfl
theorem zLn (x:Str):((signs x).filter fun _=>true).map ordD=(x.cps.toList.map fun(c:Nat)=>(c:Int)).map .int:=by
 rw[zBd,signs,List.map_map,List.map_map];rfl
theorem EvP.imp {prog:Program} {t:Sem Value} {P P':Heap→Value→Prop} (a:EvP prog w A X h t P) (k:∀h v,P h v→P' h v):EvP prog w A X h t P':=fun s Q E kk kx hQ=>a s Q E kk kx fun v h' tk k' r=>hQ v h' tk k' (k _ _ r)
theorem Fn.unhide (F:Fn g X M h env Γ):Fn g ([]++[]) ([]++[]) h env Γ:=
 ⟨⟨F.is.fn,F.is.ns,F.is.cell,F.is.inj,fun x b q=>let⟨u,su,ru⟩:=F.is.see x b q;⟨u,su,ru.mono fun c o e _=>zAb (zAf _ _ _ _ e) (fun m=>nomatch m)⟩⟩,F.kg,F.outL,F.outC,(fun _ m=>nomatch m),(fun _ m=>nomatch m),fun _ m=>nomatch m⟩
theorem call_g2 {Q:Value→Shared→Prop} {f:Str} {np pos:Pos} {e1 e2:Expr} {a:Addr} {u:Value} {d:PyData} (S:Stat (hd.heap_1 w.params) s.heap) (G:GEnv env) (hn:nsIn (hd.heap_1 w.params) mainGlobals f=some (some (.ref a))) (hk:keepIn (hd.heap_1 w.params) (.ref a)=true)
 (h1:EvV PR w A s.heap (eval e1 env) u) (h2:Ev PR w A X s.heap (eval e2 env) d) (kx:XOk X s.heap) (h:∀v h' tk,Ext s.heap h'→Rd (hid X h') d v→wpAny (model PR w) A (call (.ref a) [u,v]) Q E (sat s h' tk))
 (hx:autoParam (env.kindOf f=some .globalImplicit) aR) (hdb:autoParam ((f==("__debug__":Str))=false) aD)
 (he1:autoParam (starEach (e1::[e2]) env=(false,eval e1 env)::starEach [e2] env) aR) (he2:autoParam (starEach [e2] env=(false,eval e2 env)::starEach [] env) aR):
 wpAny (model PR w) A (eval (.Call (.Name f np) [e1,e2] [] pos) env) Q E s:=by
 refine wpAny_Call_ofName ((zAj S G hn hx hdb).run Ext.rfl fun h₁ tk₁ k₁=> ?_)
 have S₁:=S.mono k₁
 refine callWith_K (K:=hd.heap_1 w.params) (h₀:=h₁) S₁.k hk ?_ he1 (by rw[he2];rfl)
 refine wpAny_items_cons (EvV.run h1 k₁ fun h₂ tk₂ k₂=>wpAny_items_cons (Ev.run h2 (k₁.trans k₂) (kx.ext (k₁.trans k₂)) fun v h₃ tk₃ k₃ r₃=>wpAny_items_nil ⟨((S₁.mono k₂).mono k₃).k,?_⟩) he2) he1
 exact h v h₃ tk₃ ((k₁.trans k₂).trans k₃) r₃
theorem call_d2 {Q:Value→Shared→Prop} {f:Str} {np pos:Pos} {e1 e2:Expr} {a:Addr} {d1 d2:PyData} (S:Stat (hd.heap_1 w.params) s.heap) (G:GEnv env) (hn:nsIn (hd.heap_1 w.params) mainGlobals f=some (some (.ref a))) (hk:keepIn (hd.heap_1 w.params) (.ref a)=true)
 (h1:Ev PR w A X s.heap (eval e1 env) d1) (h2:Ev PR w A X s.heap (eval e2 env) d2) (kx:XOk X s.heap) (h:∀u v h' tk,Ext s.heap h'→Rd (hid X h') d1 u→Rd (hid X h') d2 v→wpAny (model PR w) A (call (.ref a) [u,v]) Q E (sat s h' tk))
 (hx:autoParam (env.kindOf f=some .globalImplicit) aR) (hdb:autoParam ((f==("__debug__":Str))=false) aD)
 (he1:autoParam (starEach (e1::[e2]) env=(false,eval e1 env)::starEach [e2] env) aR) (he2:autoParam (starEach [e2] env=(false,eval e2 env)::starEach [] env) aR):
 wpAny (model PR w) A (eval (.Call (.Name f np) [e1,e2] [] pos) env) Q E s:=by
 refine wpAny_Call_ofName ((zAj S G hn hx hdb).run Ext.rfl fun h₁ tk₁ k₁=> ?_)
 have S₁:=S.mono k₁
 refine callWith_K (K:=hd.heap_1 w.params) (h₀:=h₁) S₁.k hk ?_ he1 (by rw[he2];rfl)
 refine wpAny_items_cons (Ev.run h1 k₁ (kx.ext k₁) fun u h₂ tk₂ k₂ r₂=>wpAny_items_cons (Ev.run h2 (k₁.trans k₂) (kx.ext (k₁.trans k₂)) fun v h₃ tk₃ k₃ r₃=>wpAny_items_nil ⟨((S₁.mono k₂).mono k₃).k,?_⟩) he2) he1
 exact h u v h₃ tk₃ ((k₁.trans k₂).trans k₃) (r₂.mono (zAl k₃).s) r₃
noncomputable def toldD (ws:List Str):List PyData:=ws.map .str++[.list [.str fmtT], .list [.str msg1]]
theorem zKo {ws:List Str} {a b:Str} (h:∀y∈ws,okS y) (ha:okS a) (hb:okS b):PyData.canLayAll0 (ws.map .str++[.list [.str a], .list [.str b]])=true:=by
 induction ws with
 |nil=>simp[PyData.canLayAll0,PyData.canLay0,show PyData.strOk a=true from ha,show PyData.strOk b=true from hb]
 |cons x ws ih=>
  rw[List.map_cons,List.cons_append]
  simp only[PyData.canLayAll0,PyData.canLay0,ih fun y hy=>h y (List.mem_cons_of_mem _ hy),Bool.and_true]
  exact h x List.mem_cons_self
theorem zJq (a b:Str):∀ws:List Str,PyData.depthAll (ws.map .str++[.list [.str a], .list [.str b]])≤3
 | []=>by simp[PyData.depthAll,PyData.depth]
 |x::ws=>by
  have:=zJq a b ws
  rw[List.map_cons,List.cons_append]
  simp only[PyData.depthAll,PyData.depth];omega
theorem zJd (a b:Str):∀ws:List Str,PyData.eqvAll (ws.map .str++[.list [.str a], .list [.str b]]) (ws.map .str++[.list [.str a], .list [.str b]])=true
 | []=>by simp[PyData.eqvAll,PyData.eqv]
 |x::ws=>by
  rw[List.map_cons,List.cons_append]
  simp[PyData.eqvAll,PyData.eqv,zJd a b ws]
structure Plain (xs:List Int):Prop where
 rows:RowsOk (rowsOf xs)
 built:Built (rowsOf xs)
 runs:∃Mir,Runs (rowsOf xs) Mir
 few:(waysOf xs).length≤30
 ok:∀y∈waysOf xs,wayOk y
 len:∀y∈waysOf xs,∀n∈encI y,0≤n∧n<256
 size:((waysOf xs).flatMap enc).length≤100000
 bad:∀i<(waysOf xs).length+2,(readIter (tapeOf (waysOf xs)) i).1<(tapeOf (waysOf xs)).size→(tapeOf (waysOf xs)).size<(readIter (tapeOf (waysOf xs)) i).1+1+byteAt (tapeOf (waysOf xs)) (readIter (tapeOf (waysOf xs)) i).1→
  byteAt (tapeOf (waysOf xs)) (readIter (tapeOf (waysOf xs)) i).1=5∧(tapeOf (waysOf xs)).size=(readIter (tapeOf (waysOf xs)) i).1+3
 told:(readIter (tapeOf (waysOf xs)) ((waysOf xs).length+2)).2=toldD (waysOf xs)
 lay:(dueAll (rowsOf xs) (waysOf xs)).canLay0=true
 deep:(dueAll (rowsOf xs) (waysOf xs)).depth≤40
 same:PyData.eqv (dueAll (rowsOf xs) (waysOf xs)) (dueAll (rowsOf xs) (waysOf xs))=true
theorem zPy {R:Result→Shared→Prop} {xs:List Int} {v:Value} (P:Plain xs) (S:Stat (hd.heap_1 w.params) (hid [282] s.heap)) (rm:Room A 16) (stk:Stk A [] []) (hT:s.heap.get? 282=some (tabObj #[])) (Mk:Mak (hid [282] s.heap)) (r:Rd (hid [282] s.heap) (.list (xs.map .int)) v) (hxs:xs.length≤100)
 (hQ:∀h' tk,(∀b o,b≠282→s.heap.get? b=some o→h'.get? b=some o)→(∃ps,h'.get? 282=some (tabObj ps))→R (.ok (.ret (.bool true))) (sat s h' tk)):
 codeAny (model PR w) A (.call (.ref 302) ⟨[v],[]⟩) R s:=by
 have Sg:Stat (hd.heap_1 w.params) s.heap:=S.mono (zAf _ _)
 have kx:XOk [282] s.heap:=fun b m=>⟨_,(List.mem_singleton.mp m)▸hT⟩
 refine' zE3 (X:=[282]) (n:=15) [("script", .d (.list (xs.map .int)))] Sg ?ho ?hcd rm kx ?hb (show(["script"]:List Str).Nodup by decide) ?kind ?_ ?hco ?hgen ?hk
 case ho=>k_is
 case hcd=>k_is
 case kind=>rfl
 case hco=>rfl
 case hgen=>rfl
 case hk=>rfl
 case hb=>exact zA1 rfl (.cons r .nil)
 intro L h₁ tk F₀ G
 have F:Fn (hid [282] s.heap) ([282]++[]) ([282]++[]) h₁ F₀.en _:=F₀.lend (O:=[282]) fun _ m=>m
 have hT₁:=F₀.kg _ _ hT
 have off:Off [282] F.en:=by
  intro b m
  obtain rfl:=List.mem_singleton.mp m
  constructor
  ·intro z
   have:=F₀.outL
   rw[show s.heap.get? F.en.locals=some _ from z▸hT]at this;cases this
  ·intro n hn
   obtain⟨u,o',ho,hd⟩:=F₀.is.cell n _ hn
   rw[hT₁]at ho;cases ho
   cases hd
 have nn:∀(b:Addr),b∉([]:List Addr):=fun _ m=>nomatch m
 have S₁:=S.mono F.kg
 walk_at "sh"
 with_reducible refine zAa (zAi (d:= .list ((rowsOf xs).map rowS)) F ?_ stL fun h₂ tk₂ F₂ R₂=> ?_)
 ·rw[←zNj]
  with_reducible refine zAt S₁ (zAj S₁ G n_lrows) (by k_is) rfl (zAc (Ev.eq (zCg (xs:=xs.map .int) (nm_ F.is) pNone (pEv (zAo (i:=3))) ?_) ?_) zAg) (zJz S₁ ((rm.deeper _).le (by omega)) (xs.take 3) (by simp;omega))
  ·rw[List.length_map];unfold sizeLine;omega
  ·rw[show(3:Int)=((3:Nat):Int)from rfl,zIb,List.map_take]
 walk_at "sh"
 with_reducible refine zAa (zAi (d:= .list (fixedW.map .str)) F₂ ?_ stL fun h₃ tk₃ F₃ R₃=> ?_)
 ·show Ev PR w _ _ _ _ (.list [.str "a/./a", .str "ä", .str "ä", .str "../ä/../b", .str ".", .str "../../../ä", .str "//a//ä/.", .str "///a/ä", .str "..", .str "a", .str ""])
  with_reducible refine zAr ?_ ?_
  rotate_left 1
  ·decide
  repeat (first|with_reducible exact zAg|with_reducible refine zAc zAq ?_)
 have S₃:=S.mono F₃.kg
 walk_at "sh"
 with_reducible refine zAa (zAi (d:= .list ((waysOf xs).map .str)) F₃ ?_ stL fun h₄ tk₄ F₄ R₄=> ?_)
 ·refine Ev.eq (zDh (a:=(((xs.drop 3).take 5).map wayS).map .str) (b:=fixedW.map .str) ?_ (nm_ F₃.is) ?_) ?_
  ·rw[←zOi]
   refine zCr (x:="x") (ds:=((xs.drop 3).take 5).map .int) [] F₃.is (zAx (rm.deeper _).hand (Ev.eq (zCg (xs:=xs.map .int) (nm_ F₃.is) (pEv (zAo (i:=3))) (pEv (zAo (i:=8))) ?_) ?_)) (fun _=>true) wayD ?_ ?_ ?_ ?_ ?_
   ·rw[List.length_map];unfold sizeLine;omega
   ·rw[show(3:Int)=((3:Nat):Int)from rfl,show(8:Int)=((8:Nat):Int)from rfl,cutD_ss _ _ _ (by omega),←List.map_drop,←List.map_take]
   ·intro C X' h₅ d hd k₅ I'
    obtain⟨x,rfl⟩:=zK1 hd
    exact⟨zBs,fun _=>zAt (S₃.mono k₅) (zAj (S₃.mono k₅) G.c n_lway) (by k_is) rfl (zAc (nm_ I') zAg) (way_is (S₃.mono k₅) ((rm.deeper _).le (by omega)) x)⟩
   ·simp[sizeLine];omega
   ·rfl
   ·rfl
   ·intro y hy;cases hy
  ·simp[sizeLine,fixedW];omega
  ·rw[waysOf,List.map_append]
 have S₄:=S.mono F₄.kg
 have hh:=(rm.deeper F.en).hand
 have hsz:∀y∈waysOf xs,y.length≤100:=fun y hy=>(P.ok y hy).1.1
 walk_at "sh"
 with_reducible refine zAa (zB1 (zNn (ws:=waysOf xs) (X:=[282]++[]) F₄.kx ?_ ?_ P.size ?_ fun t₅ h₅ tk₅ k₅=> ?_))
 ·refine EvP.imp (zLi (x:="way") (ds:=(waysOf xs).map .str) [] F₄.is (zAx hh (nm_ F₄.is)) (fun _=>true) (fun d _ v=>∃x t,d= .str x∧v= .bytes (byteArr (encI x)) t) (fun _ _ _ _ _ e=>e) ?_ ?_ ?_ ?_ ?_) (fun h' v q=>by rw[zBd]at q;exact q)
  ·intro C X' h₆ d hd k₆ kx₆ I'
   obtain⟨y,hy,rfl⟩:=List.mem_map.mp hd
   have S₆:=S₄.mono k₆
   have hy100:=hsz y hy
   refine⟨zBs,fun _=>EvP.imp (zO0 hh (zAe S₆ G.c zFu zFo) (Ev.eq (zDh (a:=[.int y.length]) (b:=(y.cps.toList.map fun(c:Nat)=>(c:Int)).map .int) (zAr (zAc (zA3 (zAe S₆ G.c zGv zGx) (zAc (nm_ I') zAg) (zHe (by omega))) zAg)) ?_ ?_) ?_) (P.len y hy) ?_) (fun _ v ⟨t,e⟩=>⟨y,t,rfl,e⟩)⟩
   ·rw[←zLn]
    refine zCr (x:="sign") (ds:=signs y) [] I' (src_str hh (nm_ I')) (fun _=>true) ordD ?_ ?_ ?_ ?_ ?_
    ·intro C₂ X₂ h₇ d hd k₇ I₂
     obtain⟨c,hc,rfl⟩:=List.mem_map.mp hd
     have S₇:=S₆.mono k₇
     exact⟨zBs,fun _=>zA3 (zAe S₇ G.c.c n_ord b_ord) (zAc (nm_ I₂) zAg) ord_is⟩
    ·simp only[signs,List.length_map,Array.length_toList]
     unfold sizeLine Str.length at *;omega
    ·rfl
    ·rfl
    ·intro y hy;cases hy
   ·simp[sizeLine];unfold Str.length at hy100;omega
   ·rfl
   ·simp[encI];unfold Str.length at hy100;omega
  ·have:=P.few;simp[sizeLine];omega
  ·rfl
  ·rfl
  ·intro y hy;cases hy
 ·rw[waysOf,List.length_append];have:fixedW.length=11:=rfl;omega
 ·decide
 refine zAn (b:= .v (.bytes (tapeOf (waysOf xs)) t₅)) (F₄.ext k₅) stL rfl fun h₆ tk₆ F₆ R₆=> ?_
 have k02:∀{a b:Heap},Rel [] F.en a b→∀o,a.get? 282=some o→b.get? 282=some o:=fun r o e=>off.keep List.mem_cons_self r (nn _) o e
 have hT₆:h₆.get? 282=some (tabObj #[]):=k02 R₆ _ (k₅ _ _ (k02 R₄ _ (k02 R₃ _ (k02 R₂ _ hT₁))))
 have S₆:=S.mono F₆.kg
 have stk':Stk (A.deeper F.en) [F.en] [F.en.locals]:=stk.deeper (env:=F.en) (L:=F.en.locals) rfl rfl
 have fw:=P.few
 walk_at "sh"
 refine wpAny_execs_cons (zB1 (call_g2 (s:={heap:=h₆,gens:=_,drawn:=_,toks:=_,os:=_}) (X:=[282]++[]) (u:= .bytes (tapeOf (waysOf xs)) t₅) (d:= .int (((waysOf xs).length+2:Nat):Int)) S₆ G n_lread k_lread (nmV_ F₆.is) (Ev.eq (zDk (zA3 (zAe S₆ G zGv zGx) (zAc (nm_ F₆.is (d:= .list ((waysOf xs).map .str))) zAg) (zDo (by rw[List.length_map];omega))) zAo) ?_) F₆.kx fun v₇ h₇ tk₇ k₇ r₇=> ?_))
 ·rw[List.length_map];rfl
 obtain⟨t₇,rfl⟩:=r₇.int_inv
 have F₇:=F₆.ext k₇
 have hid₇:∀b o,(hid [282] s.heap).get? b=some o→(hid (282::[F.en.locals]) h₇).get? b=some o:=fun b o e=>zAb (F₇.kg b o e) fun m=>by
  rcases List.mem_cons.mp m with m|m
  ·exact zAh e (List.mem_singleton.mpr m)
  ·have:=F₇.outL
   rw[List.mem_singleton.mp m]at e
   rw[show(hid [282] s.heap).get? F.en.locals=none from this]at e;cases e
 have D₇:Dicts [F.en.locals] h₇:=Dicts.nil.cons F₇.is.ns
 refine read_is (s:={heap:=h₇,gens:=_,drawn:=_,toks:=_,os:=_}) (Ls:=[F.en.locals]) (outer:=[F.en]) (b:=tapeOf (waysOf xs)) (n:=(waysOf xs).length+2) ?_ (by omega) P.bad (S.mono hid₇) ((rm.deeper _).le (by omega)) stk' D₇ (k₇ _ _ hT₆) (Mk.mono hid₇) fun v₈ h₈ tk₈ r₈ kp₈ up₈ tab₈=> ?_
 ·have:=P.size;simp only[tapeOf,List.size_toArray,List.length_append,List.length_cons,List.length_nil];omega
 have nL:F.en.locals≠282:=fun z=>(off 282 List.mem_cons_self).1 z.symm
 have mv:=F₇.moved (O':=[282]) (Ls:=[F.en.locals]) (h':=h₈) off D₇ (fun b o n1 n2 e=>kp₈ b o (fun z=>n1 (List.mem_singleton.mpr z)) n2 e) up₈ (fun b m=> .inl (List.mem_singleton.mp m)) (fun b m=> .inl m) (fun b m=>m) (fun b m=>by
  obtain⟨ps,e⟩:=tab₈
  exact⟨_,(List.mem_singleton.mp m)▸e⟩)
 have F₈:=mv.1
 have told:=P.told
 rw[told]at r₈
 have r₈':Rd (hid ([282]++[]) h₈) (.list (toldD (waysOf xs))) v₈:=r₈.mono fun b o e _=>zAb (zAf _ _ _ _ e) fun m=>zAh e (List.mem_cons.mpr (.inl (List.mem_singleton.mp m)))
 refine zAn (b:= .d (.list (toldD (waysOf xs)))) F₈ stL r₈' fun h₉ tk₉ F₉ R₉=> ?_
 have tab₉:∃ps,h₉.get? 282=some (tabObj ps):=let⟨ps,e⟩:=tab₈;⟨ps,k02 R₉ _ e⟩
 have okw':∀y∈waysOf xs,okS y:=fun y hy=>(P.ok y hy).1.2
 have ok1:okS fmtT:=by show PyData.strOk fmtT=true;decide+kernel
 have ok2:okS msg1:=by show PyData.strOk msg1=true;decide+kernel
 walk_at "sh"
 refine wpAny_execs_cons (zBj (c:=false) F₉ ?_ fun h₁₀ tk₁₀ k₁₀ F₁₀=>⟨fun e=>(nomatch e),fun _=> ?_⟩)
 ·refine EvB.eq (zAs (a:= .list (toldD (waysOf xs))) (b:= .list (toldD (waysOf xs))) (nm_ F₉.is) (zDh (nm_ F₉.is) (zAr (zAc (zAr (zAc (zAq (i:=fmtT)) zAg)) (zAc (zAr (zAc (zAq (i:=msg1)) zAg)) zAg))) ?_) (zF5 ((rm.deeper _).lay ?_ ?_) ?_)) ?_
  ·rw[List.length_map];simp[sizeLine];omega
  ·show PyData.canLayAll0 _=true
   exact zKo okw' ok1 ok2
  ·have:PyData.depthAll (toldD (waysOf xs))≤3:=zJq fmtT msg1 (waysOf xs)
   simp only[PyData.depth];omega
  ·show PyData.canLayAll0 _=true
   exact zKo okw' ok1 ok2
  ·show(!PyData.eqvAll _ _)=false
   rw[show PyData.eqvAll (toldD (waysOf xs)) (toldD (waysOf xs))=true from zJd _ _ _];rfl
 refine wpAny_execs_nil ?_
 have tab₁₀:∃ps,h₁₀.get? 282=some (tabObj ps):=let⟨ps,e⟩:=tab₉;⟨ps,k₁₀ _ _ e⟩
 have keep₁₀:∀b o,b≠282→s.heap.get? b=some o→h₁₀.get? b=some o:=fun b o n e=>F₁₀.kg b o (zAb e fun m=>n (List.mem_singleton.mp m))
 have FP:Fn (hid [282] s.heap) ([282]++[]) ([282]++[]) h₁₀ F.en [("told", .d (.list (toldD (waysOf xs)))),("rows", .d (.list ((rowsOf xs).map rowS))),("ways", .d (.list ((waysOf xs).map .str)))]:=F₁₀.pick ⟨rfl,rfl,rfl,trivial⟩
 have FU:=FP.unhide
 have SU:=S.mono FU.kg
 walk_at "sh"
 obtain⟨Mir,RU⟩:=P.runs
 refine wpAny_execs_cons (wpAny_Return_some (wpAny_Compare1 ?_ (by first|rfl|with_unfolding_all rfl)))
 refine call_d2 (s:={heap:=h₁₀,gens:=_,drawn:=_,toks:=_,os:=_}) (X:=[]++[]) (d1:= .list ((rowsOf xs).map rowS)) (d2:= .list ((waysOf xs).map .str)) SU G n_ltold k_ltold (nm_ FU.is) (Ev.eq (zCg (xs:=toldD (waysOf xs)) (nm_ FU.is) pNone (pEv (zDw (i:=2) zAo)) ?_) ?_) FU.kx fun u₁₁ v₁₁ h₁₁ tk₁₁ k₁₁ q₁ q₂=> ?_
 ·unfold toldD;simp[sizeLine];omega
 ·rw[toldD,zLr]
 have F₁₁:=FU.ext k₁₁
 have tab₁₁:∃ps,h₁₁.get? 282=some (tabObj ps):=let⟨ps,e⟩:=tab₁₀;⟨ps,k₁₁ _ _ e⟩
 have D₁₁:Dicts [F.en.locals] h₁₁:=Dicts.nil.cons F₁₁.is.ns
 have nSeq:SExt (hid ([]++[]) h₁₁) (hid [F.en.locals] h₁₁):=fun b o e q=>zAb (zAf _ _ _ _ e) fun m=>by
  obtain⟨o',es,n,e',hd'⟩:=D₁₁ b m
  rw[zAf _ _ _ _ e]at e';cases e'
  obtain⟨_,_,q⟩:=q
  rw[q]at hd';cases hd'
 have S₁₁:Stat (hd.heap_1 w.params) (hid [F.en.locals] h₁₁):=S.mono fun b o e=>zAb (F₁₁.kg b o e) fun m=>by
  have:=F₁₁.outL
  rw[List.mem_singleton.mp m]at e
  rw[show(hid [282] s.heap).get? F.en.locals=none from this]at e;cases e
 refine told_is (s:={heap:=h₁₁,gens:=_,drawn:=_,toks:=_,os:=_}) (Ls:=[F.en.locals]) (outer:=[F.en]) P.rows P.built RU P.few P.ok S₁₁ ((rm.deeper _).le (by omega)) stk' D₁₁ (q₁.mono nSeq) (q₂.mono nSeq) fun v₁₂ h₁₂ tk₁₂ r₁₂ kp₁₂ up₁₂=> ?_
 have tab₁₂:∃ps,h₁₂.get? 282=some (tabObj ps):=let⟨ps,e⟩:=tab₁₁;⟨ps,kp₁₂ _ _ (fun m=>nL (List.mem_singleton.mp m).symm) e⟩
 have mv₂:=F₁₁.moved (O':=[]) (Ls:=[F.en.locals]) (h':=h₁₂) Off.nil D₁₁ (fun b o _ n2 e=>kp₁₂ b o n2 e) up₁₂ (fun b m=> .inl (List.mem_singleton.mp m)) (fun _ m=>nomatch m) (fun _ m=>nomatch m) (fun _ m=>nomatch m)
 have F₁₂:=mv₂.1
 have S₁₂:=S.mono F₁₂.kg
 refine Ev.run (X:=[]++[]) (zAt S₁₂ (zAj S₁₂ G n_ldue) (by k_is) rfl (zAc (nm_ F₁₂.is) (zAc (nm_ F₁₂.is) zAg)) (zMp S₁₂ ((rm.deeper _).le (by omega)) (rowsOf xs) (waysOf xs) P.rows P.few fun y hy=>(P.ok y hy).1)) Ext.rfl F₁₂.kx fun v₁₃ h₁₃ tk₁₃ k₁₃ r₁₃=> ?_
 refine zLh ((rm.deeper _).lay P.lay P.deep) P.lay _ v₁₂ v₁₃ _ _ (((r₁₂.mono (zAl k₁₃).s).le).2) (r₁₃.le.2) ?_
 rw[P.same]
 have F₁₃:=F₁₂.ext k₁₃
 refine hQ h₁₃ tk₁₃ (fun b o n e=>F₁₃.kg b o (zAb e fun m=>n (List.mem_singleton.mp m))) (let⟨ps,e⟩:=tab₁₂;⟨ps,k₁₃ _ _ e⟩)
end
end P50
section N9
open PySem.StrLaws
mutual
theorem zK8:∀d:PyData,d.canLay0=true→PyData.eqv d d=true
 | .none,_=>by simp[PyData.eqv]
 | .bool _,_=>by simp[PyData.eqv]
 | .int _,_=>by simp[PyData.eqv]
 | .str _,_=>by simp[PyData.eqv]
 | .list xs,h=>by rw[PyData.eqv];exact zFg xs (by rw[PyData.canLay0]at h;exact h)
 | .tuple xs,h=>by rw[PyData.eqv];exact zFg xs (by rw[PyData.canLay0]at h;exact h)
 | .dict _,h=>by simp[PyData.canLay0]at h
theorem zFg:∀l:List PyData,PyData.canLayAll0 l=true→PyData.eqvAll l l=true
 | [],_=>by simp[PyData.eqvAll]
 |d::l,h=>by
  rw[PyData.canLayAll0,Bool.and_eq_true]at h
  rw[PyData.eqvAll,zK8 d h.1,zFg l h.2];rfl
end
theorem zJg:∀{l:List PyData},(∀d∈l,d.canLay0=true)→PyData.canLayAll0 l=true
 | [],_=>by simp[PyData.canLayAll0]
 |d::l,h=>by rw[PyData.canLayAll0,h d List.mem_cons_self,zJg fun x hx=>h x (List.mem_cons_of_mem _ hx)];rfl
noncomputable def Good (d:PyData):Prop:=d.canLay0=true∧d.depth≤10
theorem zIf {x:Str} (h:∀c∈sg x,c<1114112):okS x:=by
 show x.cps.all (· <0x110000)=true
 rw[←Array.all_toList,List.all_eq_true]
 intro c hc
 simpa using h c hc
theorem zP9 {c:Nat} (h:okw c):c<1114112:=by
 rcases h with(h|h|h|h)|h<;>subst h<;>decide
theorem zQs {x:Str} (h:okS x):∀c∈sg x,c<1114112:=by
 have h':x.cps.all (· <0x110000)=true:=h
 rw[←Array.all_toList,List.all_eq_true]at h'
 intro c hc
 simpa using h' c hc
theorem zJ7 {x y:Str} (h1:okS x) (h2:okS y):okS (x++y):=zIf fun c hc=>by
 rw[zBv]at hc
 exact(List.mem_append.mp hc).elim (zQs h1 c) (zQs h2 c)
theorem zFf {k:Nat}:∀{l:List PyData},(∀d∈l,d.depth≤k)→PyData.depthAll l≤k
 | [],_=>by simp[PyData.depthAll]
 |d::l,h=>by
  have h1:=h d List.mem_cons_self
  have h2:=zFf fun x hx=>h x (List.mem_cons_of_mem _ hx)
  rw[PyData.depthAll];omega
theorem zIi {L:List Str} (h:∀x∈L,okS x):PyData.canLayAll0 (L.map .str)=true∧PyData.depthAll (L.map .str)≤0:=
 ⟨zF7 L h,by rw[zDl];omega⟩
section
variable {rows:List (List Str)} {d:DueSt} {way:Str}
theorem zIj (rows:List (List Str)) (d:DueSt) (way:Str):okS (dueWords rows d way):=by
 have h:okS wNone∧okS wDone∧okS wWait∧okS wGone:=by
  refine⟨?_,?_,?_,?_⟩<;>(show PyData.strOk _=true;decide+kernel)
 unfold dueWords
 simp only
 split
 ·exact h.1
 ·split
  ·exact h.2.1
  ·split
   ·exact h.2.2.1
   ·exact h.2.2.2
theorem zNe {r:List Str} (h:∀x∈r,NameOk x):∀c∈sg (slash r),okw c:=fun c hc=>by
 rw[zBq]at hc
 rcases List.mem_cons.mp hc with hc|hc
 ·exact .inr hc
 ·rcases zD5 hc with hc|⟨p,hp,hc⟩
  ·exact .inr hc
  ·obtain⟨y,hy,rfl⟩:=List.mem_map.mp hp
   exact .inl ((h y hy).ok c hc)
theorem zFq {r:List Str} (h:∀x∈r,NameOk x):okS (slash r):=zIf fun c hc=>zP9 (zNe h c hc)
theorem zL7 (hw:∀c∈sg way,okw c) (hp:∀x∈d.place,NameOk x):Good (dueEntry rows d way):=by
 have hrow:=zD1 hw hp
 have ht:okS (targetOf way (rowOf way d.place)):=zIf fun c hc=>zP9 (zF0 way hrow c hc)
 have hf:∀x∈dueFree rows d way,okS x:=by
  unfold dueFree
  simp only
  split
  ·split
   ·intro x hx
    rw[List.mem_singleton.mp hx]
    exact zFq fun y hy=>hrow y ((List.dropLast_sublist _).subset hy)
   ·exact fun _ m=>nomatch m
  ·exact fun _ m=>nomatch m
 have hwd:okS (if dueWords rows d way=wGone then dueWords rows d way else "node '"++targetOf way (rowOf way d.place)++"' "++dueWords rows d way):=by
  split
  ·exact zIj _ _ _
  ·have h1:okS ("node '":Str):=by show PyData.strOk _=true;decide+kernel
   have h2:okS ("' ":Str):=by show PyData.strOk _=true;decide+kernel
   exact zJ7 (zJ7 (zJ7 h1 ht) h2) (zIj _ _ _)
 obtain⟨g1,g2⟩:=zIi hf
 unfold dueEntry wordsD
 simp only
 generalize dueFree rows d way=fr at g1 g2
 generalize targetOf way (rowOf way d.place)=tg at ht hwd
 generalize (if dueWords rows d way=wGone then dueWords rows d way else "node '"++tg++"' "++dueWords rows d way)=wd at hwd
 constructor
 ·simp only[PyData.canLay0,PyData.canLayAll0,g1,show PyData.strOk tg=true from ht,show PyData.strOk wd=true from hwd];rfl
 ·simp only[PyData.depth,PyData.depthAll];omega
theorem zMg (hw:∀c∈sg way,okw c) (hp:∀x∈d.place,NameOk x):∀x∈(dueNext rows d way).place,NameOk x:=by
 have hrow:=zD1 hw hp
 unfold dueNext
 simp only
 split
 ·exact hrow
 ·split
  ·exact fun x hx=>hrow x ((List.dropLast_sublist _).subset hx)
  ·exact hp
structure StOk (p:DueSt×List PyData):Prop where
 place:∀x∈p.1.place,NameOk x
 good:∀e∈p.2,Good e
theorem StOk.step {p:DueSt×List PyData} (h:StOk p) {y:Str} (hy:∀c∈sg y,okw c):StOk (stepD rows p y):=by
 constructor
 ·rw[zB7];exact zMg hy h.place
 ·rw[zC2]
  intro e he
  rcases List.mem_append.mp he with he|he
  ·exact h.good e he
  ·rw[List.mem_singleton.mp he];exact zL7 hy h.place
theorem StOk.fold:∀(ws:List Str) {p:DueSt×List PyData},StOk p→(∀y∈ws,∀c∈sg y,okw c)→StOk (ws.foldl (stepD rows) p)
 | [],_,h,_=>h
 |y::ws,p,h,hw=>by
  rw[List.foldl_cons]
  exact StOk.fold ws (h.step (hw y List.mem_cons_self)) fun z hz=>hw z (List.mem_cons_of_mem _ hz)
theorem zJ6 (R:RL rows) (ways:List Str) (hw:∀y∈ways,∀c∈sg y,okw c):(dueAll rows ways).canLay0=true∧(dueAll rows ways).depth≤40:=by
 have hf:∀x∈firstDue rows,okS x:=fun x hx=>by
  obtain⟨r,hr,rfl⟩:=R.firstDue_row hx
  exact zFq (R.name r hr)
 obtain⟨g1,g2⟩:=zIi hf
 have st:StOk (dueAt rows ways):=StOk.fold ways ⟨fun _ m=>(nomatch m),fun e h=>by
  rw[List.mem_singleton.mp h]
  exact⟨by rw[PyData.canLay0];exact g1,by rw[PyData.depth];omega⟩⟩ hw
 unfold dueAll
 generalize dueAt rows ways=q at st
 have all2:∀e∈q.2++[PyData.bool (!decide (q.1.standing=[]))],Good e:=fun e h=>by
  rcases List.mem_append.mp h with h|h
  ·exact st.good e h
  ·rw[List.mem_singleton.mp h]
   exact⟨by simp[PyData.canLay0],by simp[PyData.depth]⟩
 have h1:=zJg fun e he=>(all2 e he).1
 have h3:=zFf fun e he=>(all2 e he).2
 exact⟨by rw[PyData.canLay0];exact h1,by rw[PyData.depth];omega⟩
end
end N9
section N10
open PySem.StrLaws
noncomputable def allB:List (List Bool):=[[],[false],[true],[false,false],[false,true],[true,false],[true,true],[false,false,false],[false,false,true],[false,true,false],[false,true,true],[true,false,false],[true,false,true],[true,true,false],[true,true,true]]
theorem zKs:∀{b:List Bool},b.length≤3→b∈allB
 | [],_=>by decide
 | [x],_=>by cases x<;>decide
 | [x,y],_=>by cases x<;>cases y<;>decide
 | [x,y,z],_=>by cases x<;>cases y<;>cases z<;>decide
 |_::_::_::_::_,h=>by simp at h
noncomputable def rowFacts (b:List Bool):Bool:=decide (pathOf (b.map nm)=slash (b.map nm))&&decide (dirS (slash (b.map nm))=slash (b.map nm).dropLast)&&decide ((slash (b.map nm)).length≤100)&&decide (b=[]∨(slash (b.map nm).dropLast).length<(slash (b.map nm)).length)
theorem zLl:allB.all rowFacts=true:=by decide+kernel
theorem nm_ok (b:Bool):NameOk (nm b):=by
 cases b
 ·exact⟨by decide,fun c hc=>by rw[show sg (nm false)=[97] by decide]at hc;rw[List.mem_singleton.mp hc];decide,by decide,by decide⟩
 ·exact⟨by decide,fun c hc=>by rw[show sg (nm true)=[228] by decide]at hc;rw[List.mem_singleton.mp hc];decide,by decide,by decide⟩
theorem nm_inj {a b:Bool} (h:nm a=nm b):a=b:=by
 cases a<;>cases b<;>first|rfl|(exact absurd h (by decide))
theorem zHn:∀{a b:List Bool},a.map nm=b.map nm→a=b
 | [],[],_=>rfl
 | [],_::_,h=>by simp at h
 |_::_,[],h=>by simp at h
 |x::a,y::b,h=>by simp only[List.map_cons,List.cons.injEq]at h;rw[nm_inj h.1,zHn h.2]
theorem nm_len (b:Bool):(nm b).length≤10:=by cases b<;>decide
theorem nm_okS (b:Bool):okS (nm b):=zIf fun c hc=>zP9 (.inl ((nm_ok b).ok c hc))
structure BL (B:List (List Bool)):Prop where
 nd:B.Nodup
 short:∀b∈B,b.length≤3
 root:[]∈B
 pre:∀b∈B,b.dropLast∈B
 two:∃b∈B,b≠[]
theorem facts {b:List Bool} (h:b.length≤3):pathOf (b.map nm)=slash (b.map nm)∧dirS (slash (b.map nm))=slash (b.map nm).dropLast∧(slash (b.map nm)).length≤100∧(b=[]∨(slash (b.map nm).dropLast).length<(slash (b.map nm)).length):=by
 have:=List.all_eq_true.mp zLl b (zKs h)
 unfold rowFacts at this
 simp only[Bool.and_eq_true,decide_eq_true_eq]at this
 exact⟨this.1.1.1,this.1.1.2,this.1.2,this.2⟩
theorem BL.rl {B:List (List Bool)} (h:BL B):RL (B.map (·.map nm))∧∀r∈B.map (·.map nm),(slash r).length≤100:=by
 have nameB:∀r∈B.map (·.map nm),∃b∈B,r=b.map nm:=fun r hr=>by
  obtain⟨b,hb,rfl⟩:=List.mem_map.mp hr;exact⟨b,hb,rfl⟩
 have few:B.length≤24:=by
  have:=zBx h.nd (m:=allB) fun b hb=>zKs (h.short b hb)
  have e:allB.length=15:=rfl
  omega
 refine⟨⟨⟨?_,?_,?_,?_⟩,?_,?_,?_,?_,?_,?_,?_,?_,?_,?_⟩,?_⟩
 ·rw[List.length_map];exact few
 ·intro r hr
  obtain⟨b,hb,rfl⟩:=nameB r hr
  rw[List.length_map];exact h.short b hb
 ·intro r hr x hx
  obtain⟨b,hb,rfl⟩:=nameB r hr
  obtain⟨y,_,rfl⟩:=List.mem_map.mp hx
  exact nm_okS y
 ·intro r hr x hx
  obtain⟨b,hb,rfl⟩:=nameB r hr
  obtain⟨y,_,rfl⟩:=List.mem_map.mp hx
  exact nm_len y
 ·exact zFp h.nd fun a _ b _ e=>zHn e
 ·exact List.mem_map.mpr ⟨[],h.root,rfl⟩
 ·intro r hr
  obtain⟨b,hb,rfl⟩:=nameB r hr
  rw[←List.map_dropLast]
  exact List.mem_map.mpr ⟨_,h.pre b hb,rfl⟩
 ·intro r hr x hx
  obtain⟨b,hb,rfl⟩:=nameB r hr
  obtain⟨y,_,rfl⟩:=List.mem_map.mp hx
  exact nm_ok y
 ·intro r hr
  obtain⟨b,hb,rfl⟩:=nameB r hr
  exact(facts (h.short b hb)).1
 ·intro r hr
  obtain⟨b,hb,rfl⟩:=nameB r hr
  exact(facts (h.short b hb)).2.1
 ·obtain⟨b,hb,hn⟩:=h.two
  exact⟨b.map nm,List.mem_map.mpr ⟨b,hb,rfl⟩,by simpa using hn⟩
 ·intro r hr j
  obtain⟨b,hb,rfl⟩:=nameB r hr
  rw[←List.map_take]
  have hs:(b.take j).length≤3:=by have:=h.short b hb;rw[List.length_take];omega
  obtain⟨f1,_,f3,_⟩:=facts hs
  rw[f1];omega
 ·intro r hr
  obtain⟨b,hb,rfl⟩:=nameB r hr
  rw[(facts (h.short b hb)).1]
  exact zFq fun x hx=>by
   obtain⟨y,_,rfl⟩:=List.mem_map.mp hx
   exact nm_ok y
 ·intro r hr hn
  obtain⟨b,hb,rfl⟩:=nameB r hr
  exact(facts (h.short b hb)).2.2.2.resolve_left fun z=>hn (by rw[z];rfl)
 ·intro r hr
  obtain⟨b,hb,rfl⟩:=nameB r hr
  exact(facts (h.short b hb)).2.2.1
theorem zM4 {α:Type} [BEq α] [LawfulBEq α] [DecidableEq α] (H:List α) (e:α):∀(n:Nat),n≤H.length→
 ((((List.range n).filter fun k=> !(H.take k).any fun y=>y==H.getD k e).map fun k=>H.getD k e).Nodup∧∀a,a∈(((List.range n).filter fun k=> !(H.take k).any fun y=>y==H.getD k e).map fun k=>H.getD k e)↔a∈H.take n)
 |0,_=>by simp
 |n+1,h=>by
  obtain⟨i1,i2⟩:=zM4 H e n (by omega)
  have hn:n<H.length:=by omega
  have hg:H.getD n e=H[n]:=by simp[List.getD,hn]
  rw[List.range_succ,List.filter_append,List.map_append,List.take_succ_eq_append_getElem hn]
  have hany:((H.take n).any fun y=>y==H.getD n e)=decide (H[n]∈H.take n):=by
   rw[hg,Bool.eq_iff_iff,List.any_eq_true]
   simp
  by_cases hm:H[n]∈H.take n
  ·have:([n].filter fun k=> !(H.take k).any fun y=>y==H.getD k e)=[]:=by
    simp only[List.filter_cons,hany,decide_eq_true hm];rfl
   rw[this]
   simp only[List.map_nil,List.append_nil]
   refine⟨i1,fun a=> ?_⟩
   rw[i2,List.mem_append,List.mem_singleton]
   exact⟨.inl,fun z=>z.elim id fun z=>z▸hm⟩
  ·have:([n].filter fun k=> !(H.take k).any fun y=>y==H.getD k e)=[n]:=by
    simp only[List.filter_cons,hany,decide_eq_false hm];rfl
   rw[this]
   simp only[List.map_cons,List.map_nil,hg]
   refine⟨?_,fun a=> ?_⟩
   ·rw[List.nodup_append]
    refine⟨i1,by simp,fun a ha b hb=> ?_⟩
    rw[List.mem_singleton.mp hb]
    rintro rfl
    exact hm ((i2 _).mp ha)
   ·rw[List.mem_append,List.mem_append,i2]
theorem zN9 (H:List (List Bool)):(uniqB H).Nodup∧∀a,a∈uniqB H↔a∈H:=by
 have:=zM4 H [] H.length (Nat.le_refl _)
 rw[List.take_length]at this
 exact this
theorem heads_mem {ys:List Int} {a:List Bool}:a∈headsB ys↔∃r∈rowsB ys,∃k,k≤r.length∧a=r.take k:=by
 unfold headsB
 rw[List.mem_flatMap]
 constructor
 ·rintro⟨r,hr,ha⟩
  obtain⟨k,hk,rfl⟩:=List.mem_map.mp ha
  exact⟨r,hr,k,by have:=List.mem_range.mp hk;omega,rfl⟩
 ·rintro⟨r,hr,k,hk,rfl⟩
  exact⟨r,hr,List.mem_map.mpr ⟨k,List.mem_range.mpr (by omega),rfl⟩⟩
theorem rows_bl (ys:List Int):BL (uniqB (headsB ys)):=by
 obtain⟨nd,mem⟩:=zN9 (headsB ys)
 have hshort:∀r∈rowsB ys,r.length≤3:=fun r hr=>by
  unfold rowsB at hr
  rcases List.mem_append.mp hr with hr|hr
  ·simp only[List.mem_cons,List.not_mem_nil,or_false]at hr
   rcases hr with rfl|rfl|rfl<;>decide
  ·obtain⟨x,_,rfl⟩:=List.mem_map.mp hr
   have:=zCw x (show(0:Int)<3 by decide)
   unfold bitsRow
   rw[List.length_map,List.length_range]
   omega
 refine⟨nd,fun b hb=> ?_,?_,fun b hb=> ?_,?_⟩
 ·obtain⟨r,hr,k,_,rfl⟩:=heads_mem.mp ((mem b).mp hb)
  have:=hshort r hr
  rw[List.length_take];omega
 ·rw[mem]
  exact heads_mem.mpr ⟨[true],by unfold rowsB;simp,0,by simp,rfl⟩
 ·obtain⟨r,hr,k,hk,rfl⟩:=heads_mem.mp ((mem b).mp hb)
  rw[mem]
  refine heads_mem.mpr ⟨r,hr,k - 1,by omega,?_⟩
  rw[List.dropLast_eq_take,List.take_take,List.length_take]
  congr 1;omega
 ·refine⟨[true],?_,by decide⟩
  rw[mem]
  exact heads_mem.mpr ⟨[true],by unfold rowsB;simp,1,by simp,rfl⟩
theorem menu_ok:∀x∈menu4,(∀c∈sg x,okc c)∧x.length≤2:=by
 intro x hx
 unfold menu4 at hx
 simp only[List.mem_cons,List.not_mem_nil,or_false]at hx
 rcases hx with rfl|rfl|rfl|rfl
 ·rw[show sg ("..":Str)=[46,46] by decide];exact⟨by decide,by decide⟩
 ·rw[show sg (".":Str)=[46] by decide];exact⟨by decide,by decide⟩
 ·rw[show sg ("a":Str)=[97] by decide];exact⟨by decide,by decide⟩
 ·rw[show sg ("ä":Str)=[228] by decide];exact⟨by decide,by decide⟩
theorem zP5 (k:Nat):(∀c∈sg (menu4.getD k Str.empty),okc c)∧(menu4.getD k Str.empty).length≤2:=by
 rw[List.getD_eq_getElem?_getD]
 cases h:menu4[k]? with
 |none=>exact⟨fun c hc=>(by cases hc),by decide⟩
 |some x=>exact menu_ok x (List.mem_of_getElem? h)
theorem zKp {y:Str} (h:∀c∈sg y,okw c) (hl:y.length≤100):wayOk y:=⟨⟨hl,zIf fun c hc=>zP9 (h c hc)⟩,h⟩
theorem way_ok (x:Int):wayOk (wayS x):=by
 have hp:∀p∈wayParts x,(∀c∈sg p,okc c)∧p.length≤2:=fun p hp=>by
  unfold wayParts at hp
  obtain⟨k,_,rfl⟩:=List.mem_map.mp hp
  exact zP5 _
 have hn:(wayParts x).length≤3:=by
  have:=zCw x (show(0:Int)<3 by decide)
  unfold wayParts
  rw[List.length_map,List.length_range];omega
 have hpre:∀k:Nat,(∀c∈sg ((["","/"]:List Str).getD k Str.empty),okw c)∧(sg ((["","/"]:List Str).getD k Str.empty)).length≤1:=fun k=>by
  match k with
  |0=>exact⟨fun c hc=>(by cases hc),by decide⟩
  |1=>exact⟨fun c hc=>by rw[show(["","/"]:List Str).getD 1 Str.empty="/" from rfl,zBh]at hc;exact .inr (List.mem_singleton.mp hc),by decide⟩
  |k+2=>exact⟨fun c hc=>(by cases hc),show(sg Str.empty).length≤1 from by decide⟩
 unfold wayS
 refine zKp (fun c hc=> ?_) ?_
 ·rw[zBv,zEm]at hc
  rcases List.mem_append.mp hc with hc|hc
  ·exact(hpre _).1 c hc
  ·rcases zD5 hc with hc|⟨p,hp',hc⟩
   ·exact .inr hc
   ·obtain⟨y,hy,rfl⟩:=List.mem_map.mp hp'
    exact .inl ((hp y hy).1 c hc)
 ·rw[zB4,zBv,zEm,List.length_append]
  have h1:=zH7 (wayParts x)
  have h2:=wt_le 2 (wayParts x) fun p h=>(hp p h).2
  have h3:=(hpre ((x.fdiv 192).fmod 2).toNat).2
  have h4:(wayParts x).length * (2+1)≤3 * 3:=Nat.mul_le_mul_right _ hn
  omega
theorem zQc:∀y∈fixedW,wayOk y:=by
 have key:fixedW.all (fun y=>(sg y).all (fun c=>decide (okw c))&&decide (y.length≤100))=true:=by decide+kernel
 intro y hy
 have:=List.all_eq_true.mp key y hy
 rw[Bool.and_eq_true]at this
 exact zKp (fun c hc=>of_decide_eq_true (List.all_eq_true.mp this.1 c hc)) (of_decide_eq_true this.2)
theorem ways_ok (xs:List Int):∀y∈waysOf xs,wayOk y:=fun y hy=>by
 unfold waysOf at hy
 rcases List.mem_append.mp hy with hy|hy
 ·obtain⟨x,_,rfl⟩:=List.mem_map.mp hy;exact way_ok x
 ·exact zQc y hy
theorem zQd (xs:List Int):(waysOf xs).length≤16:=by
 unfold waysOf
 rw[List.length_append,List.length_map,List.length_take]
 have:fixedW.length=11:=rfl
 omega
end N10
end OB
section P51
open PySem.Spec PySem.Calls
theorem zPi {h:Heap} {vs:List Value} {ns:List Int} (r:IntsAre vs ns):Rds h (ns.map .int) vs:=by
 induction r with
 |nil=>exact .nil
 |cons n t _ ih=>exact .cons (Rd.int _ _) ih
theorem n_law (w:World):nsIn (hd.heap_1 w.params) mainGlobals "law"=some (some (.ref 302)):=by k_is
theorem zP0 (w:World):noTabs (hd.heap_1 w.params)=true:=by kernel_rfl
theorem cw (HP:∀xs:List Int,xs.length≤63→Plain xs):Challenge.rw_rt0099_01.Holds:=hd (by
 k_fill
 intro w s₀ s₁ mg mb G Y fa o pm cd doc dV kV ho hd hcd hD hmg hg args vals as hpre hlay hrd hwl hlo
 have KX:=km_in_of Y
 have KT:=km_tabs_of Y
 clear ho hd hcd hD
 wrow_args hpre hlay hrd hwl hlo
 rename_i xs _ _ _ _ _ _ _ l vs _ hL _ _ _ hI _ hlen _
 have T:=G.T
 have hTabs:TabsAt [(286,282)] s₁.heap:=List.forall_mem_cons.mpr ⟨⟨codeHd_of_K (c:=286) (P:=282) KX (by kernel_rfl),KT 282 (by simp)⟩,fun _ h=>nomatch h⟩
 have GT:=ghost_top hTabs T
 have efa:fa=302:=by
  have:=mg_of KX T.g (n_law w)
  rw[show mg "law"=some (.ref fa)from hmg]at this
  cases this;rfl
 subst efa
 have S:Stat (hd.heap_1 w.params) (hid [282] s₁.heap):=⟨ghost_K hTabs KX (zP0 w),⟨mg,mb,GT.g,GT.b,GT.builtins⟩,GT.nolimit⟩
 have Mk:Mak (hid [282] s₁.heap):=by
  obtain⟨bm,ob,a1,a2,a3,a4,a5,a6⟩:=GT.bmain
  refine⟨mg,GT.g,bm,ob,a1,a2,?_,?_,a3,a4,a5,a6⟩
  ·intro z
   obtain⟨o,es,ep,e1,e2,_⟩:=GT.g
   rw[z,e1]at a3;cases a3
   rw[e2]at a6;cases a6
  ·intro z
   exact zAh a3 (List.mem_singleton.mpr z)
 have r:Rd (hid [282] s₁.heap) (.list (xs.map .int)) (.ref l):=Rd.list (ghost_list hTabs hL) (by simpa using zPi hI)
 have hlen':xs.length≤63:=by omega
 show wpAny (model PR w) callerA (call (.ref 302) [.ref l]) _ _ _
 refine enter_call ?_
 refine kn_post hTabs (fun _ _=>rfl) ?_
 refine zPy (HP xs hlen') S ⟨rfl,by decide,by decide⟩ ⟨rfl,rfl,fun _ m=>nomatch m⟩ (KT 282 (by simp)) Mk r (by omega) fun h' tk keep tab=> ?_
 refine⟨⟨.inl ⟨.bool true,_,[],rfl,fun _=>rfl, .bool true,?_,fun _=>⟨.nil,fun _ h=>nomatch h⟩⟩,fun b o e=>keep b o (fun z=>zAh (X:=[282]) e (List.mem_singleton.mpr z)) (zAf [282] _ _ _ e),rfl,hg⟩,⟨tab,trivial⟩⟩
 wrow_post)
end P51
section N11
open PySem.StrLaws
theorem zLg {n:Nat} (h:n<256):n.toUInt8.toNat=n:=by
 show(UInt8.ofNat n).toNat=n
 rw[UInt8.toNat_ofNat']
 omega
noncomputable def encT (y:Str):List UInt8:=(sg y).map fun c=>c.toUInt8
theorem zKz (y:Str):enc y=y.length.toUInt8::encT y:=by
 unfold enc encI byteArr encT
 simp only[List.map_cons,List.map_map]
 rfl
theorem zFa (y:Str):(encT y).length=y.length:=by rw[encT,List.length_map,zB4]
theorem zN6 {y:Str} (h:∀c∈sg y,c<256):latin (encT y)=y:=by
 apply zHl
 show((encT y).map (·.toNat))=sg y
 unfold encT
 rw[List.map_map]
 have:(sg y).map ((fun x=>UInt8.toNat x)∘fun(c:Nat)=>c.toUInt8)=(sg y).map id:=List.map_congr_left fun c hc=>zLg (h c hc)
 rw[this,List.map_id]
theorem zNr {b:Array UInt8} {P cs R:List UInt8} {n:Nat} {told:List PyData} (hb:b.toList=P++(n.toUInt8::cs)++R) (hn:n<256) (hl:cs.length=n):
 readStep b (P.length,told)=(P.length+1+n,told++[.str (latin cs)])∧byteAt b P.length=n∧P.length+1+n≤b.size:=by
 have hsz:b.size=P.length+1+n+R.length:=by
  have:=congrArg List.length hb
  simp only[Array.length_toList,List.length_append,List.length_cons]at this
  omega
 have hby:byteAt b P.length=n:=by
  unfold byteAt
  have:b.toList.getD P.length 0=n.toUInt8:=by rw[hb];simp[List.getD]
  rw[this,zLg hn]
 have hdr:(b.toList.drop (P.length+1)).take n=cs:=by
  rw[hb,List.append_assoc,List.drop_append]
  rw[List.drop_eq_nil_of_le (by omega),List.nil_append,show P.length+1 - P.length=1 by omega]
  show(cs++R).take n=cs
  rw[←hl,List.take_left]
 refine⟨?_,hby,by omega⟩
 unfold readStep
 simp only[hby,hdr]
 rw[if_neg (by omega),if_neg (by omega)]
theorem zP8 {b:Array UInt8} {P:List UInt8} {told:List PyData} (hb:b.toList=P++[5,97,98]):readStep b (P.length,told)=(P.length+6,told++[.list [.str fmtT]])∧byteAt b P.length=5∧b.size=P.length+3:=by
 have hsz:b.size=P.length+3:=by
  have:=congrArg List.length hb
  simpa using this
 have hby:byteAt b P.length=5:=by
  unfold byteAt
  have:b.toList.getD P.length 0=5:=by rw[hb];simp[List.getD]
  rw[this];rfl
 refine⟨?_,hby,hsz⟩
 unfold readStep
 simp only[hby]
 rw[if_neg (by omega),if_pos (by omega)]
section
variable {ws:List Str}
theorem zFe (hw:∀y∈ws,wayOk y):∀i,i≤ws.length→readIter (tapeOf ws) i=(((ws.take i).flatMap enc).length,(ws.take i).map .str)
 |0,_=>by simp[readIter]
 |i+1,h=>by
  have hi:i<ws.length:=by omega
  have wk:=hw ws[i] (List.getElem_mem hi)
  have hb:(tapeOf ws).toList=(ws.take i).flatMap enc++((ws[i].length).toUInt8::encT ws[i])++((ws.drop (i+1)).flatMap enc++[5,97,98]):=by
   unfold tapeOf
   have:ws.flatMap enc=(ws.take i).flatMap enc++(enc ws[i]++(ws.drop (i+1)).flatMap enc):=by
    rw[←List.flatMap_cons,←List.flatMap_append,←List.drop_eq_getElem_cons hi,List.take_append_drop]
   show ws.flatMap enc++[5,97,98]=_
   rw[this,zKz]
   simp
  have hlt:∀c∈sg ws[i],c<256:=fun c hc=>by
   rcases wk.2 c hc with(h|h|h|h)|h<;>omega
  obtain⟨e,_,_⟩:=zNr (told:=(ws.take i).map .str) hb (by have:=wk.1.1;omega) (zFa _)
  have ih:=zFe hw i (by omega)
  rw[readIter,ih,e,zN6 hlt,List.take_succ_eq_append_getElem hi,List.flatMap_append,List.map_append]
  refine Prod.ext ?_ rfl
  simp[zKz,zFa]
  omega
theorem zMr (hw:∀y∈ws,wayOk y) {i:Nat} (hi:i<ws.length):(readIter (tapeOf ws) i).1+1+byteAt (tapeOf ws) (readIter (tapeOf ws) i).1≤(tapeOf ws).size:=by
 have wk:=hw ws[i] (List.getElem_mem hi)
 have hb:(tapeOf ws).toList=(ws.take i).flatMap enc++((ws[i].length).toUInt8::encT ws[i])++((ws.drop (i+1)).flatMap enc++[5,97,98]):=by
  unfold tapeOf
  have:ws.flatMap enc=(ws.take i).flatMap enc++(enc ws[i]++(ws.drop (i+1)).flatMap enc):=by
   rw[←List.flatMap_cons,←List.flatMap_append,←List.drop_eq_getElem_cons hi,List.take_append_drop]
  show ws.flatMap enc++[5,97,98]=_
  rw[this,zKz]
  simp
 obtain⟨_,e,h⟩:=zNr (told:=[]) hb (by have:=wk.1.1;omega) (zFa _)
 rw[zFe hw i (by omega)]
 show((ws.take i).flatMap enc).length+1+byteAt (tapeOf ws) ((ws.take i).flatMap enc).length≤_
 rw[e];exact h
theorem zQe (hw:∀y∈ws,wayOk y):readIter (tapeOf ws) ws.length=((ws.flatMap enc).length,ws.map .str)∧readIter (tapeOf ws) (ws.length+1)=((ws.flatMap enc).length+6,ws.map .str++[.list [.str fmtT]])∧
 readIter (tapeOf ws) (ws.length+2)=((ws.flatMap enc).length+7,ws.map .str++[.list [.str fmtT]]++[.list [.str msg1]])∧byteAt (tapeOf ws) (ws.flatMap enc).length=5∧(tapeOf ws).size=(ws.flatMap enc).length+3:=by
 have e0:readIter (tapeOf ws) ws.length=((ws.flatMap enc).length,ws.map .str):=by
  have:=zFe hw ws.length (Nat.le_refl _)
  rw[List.take_length]at this;exact this
 obtain⟨e1,e2,e3⟩:=zP8 (b:=tapeOf ws) (told:=ws.map .str) (P:=ws.flatMap enc) rfl
 have e4:readIter (tapeOf ws) (ws.length+1)=((ws.flatMap enc).length+6,ws.map .str++[.list [.str fmtT]]):=by rw[readIter,e0,e1]
 refine⟨e0,e4,?_,e2,e3⟩
 rw[readIter,e4]
 unfold readStep
 simp only
 rw[if_pos (by rw[e3];omega)]
end
theorem plain (xs:List Int):Plain xs:=by
 have few:=zQd xs
 have ok:=ways_ok xs
 obtain⟨R,h8⟩:=(rows_bl (xs.take 3)).rl
 have R':RL (rowsOf xs):=R
 have h8':∀r∈rowsOf xs,(slash r).length≤100:=h8
 obtain⟨g1,g2⟩:=zJ6 R' (waysOf xs) fun y hy=>(ok y hy).2
 obtain⟨e0,e1,e2,e3,e4⟩:=zQe ok
 have hlen:∀y∈waysOf xs,∀n∈encI y,0≤n∧n<256:=fun y hy n hn=>by
  unfold encI at hn
  rcases List.mem_cons.mp hn with rfl|hn
  ·have:=(ok y hy).1.1;omega
  ·obtain⟨c,hc,rfl⟩:=List.mem_map.mp hn
   have:c<256:=by
    rcases(ok y hy).2 c hc with(h|h|h|h)|h<;>omega
   omega
 have hsize:((waysOf xs).flatMap enc).length≤100000:=by
  have key:∀l:List Str,(∀y∈l,wayOk y)→(l.flatMap enc).length≤l.length * 101:=by
   intro l
   induction l with
   |nil=>intro _;simp
   |cons y l ih=>
    intro h
    have h1:=ih fun z hz=>h z (List.mem_cons_of_mem _ hz)
    have h2:=(h y List.mem_cons_self).1.1
    rw[List.flatMap_cons,List.length_append,zKz,List.length_cons,zFa,List.length_cons,Nat.add_mul]
    omega
  have h1:=key _ ok
  have h2:(waysOf xs).length * 101≤16 * 101:=Nat.mul_le_mul_right _ few
  omega
 refine⟨R'.ok,R'.built,⟨_,R'.runs h8'⟩,by omega,ok,hlen,hsize,fun i hi h1 h2=> ?_,?_,g1,g2,zK8 _ g1⟩
 ·by_cases hlt:i<(waysOf xs).length
  ·have:=zMr ok hlt
   omega
  ·by_cases he:i=(waysOf xs).length
   ·subst he
    rw[e0]
    exact⟨e3,e4⟩
   ·have:i=(waysOf xs).length+1:=by omega
    subst this
    rw[e1,e4]at h1
    have h1':((waysOf xs).flatMap enc).length+6<((waysOf xs).flatMap enc).length+3:=h1
    omega
 ·rw[e2]
  show _=toldD (waysOf xs)
  unfold toldD
  rw[List.append_assoc];rfl
theorem holds:Challenge.rw_rt0099_01.Holds:=cw fun xs _=>plain xs
end N11
end Mine
theorem PySem.Challenge.cw_rt0099_01_holds : PySem.Challenge.rw_rt0099_01.Holds :=
 Mine.holds
