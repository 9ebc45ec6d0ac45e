import PyProof.Rows.All
import Wide.All
import OpenK.AllK
import Wide.FinOn
import KE.KPar
import KE.KStopIter
import KE.KOwnIter
import KE.KLam
import PySem.Challenge.RW_kt0084_07
set_option Elab.async false
set_option maxRecDepth 100000
set_option maxHeartbeats 8000000
set_option autoImplicit false
set_option genSizeOf false
set_option genInjectivity false
set_option linter.all false
section
open PySem
namespace Kt.Internal
theorem aA{a b:Bool}(h:(a&&b)=true):a=true∧b=true:=by rwa[Bool.and_eq_true]at h
theorem aB{a b:Bool}{G:Prop}(h:(a&&b)=true)(k:a=true→b=true→G):G:=k (aA h).1 (aA h).2
theorem aT{α β:Type}{o:Option α}{f:α→Option β}{d:β}{G:Prop}(h:o.bind f=some d)(k:∀ a,o=some a→f a=some d→G):G:=by cases o with | none=>cases h | some a=>exact k a rfl h
theorem b7{α β:Type}{o:Option α}{f:α→β}{d:β}{G:Prop}(h:o.map f=some d)(k:∀ a,o=some a→f a=d→G):G:=by cases o with | none=>cases h | some a=>exact k a rfl (Option.some.inj h)
noncomputable def fW{α:Type}(l:List α)(f:α→Bool):Bool:=match l with | []=>false | a::r=>r.isEmpty&&f a
theorem cK{α:Type}{l:List α}{f:α→Bool}{m:List α→Prop}(h:fW l f=true)(k:∀ a,f a=true→m [a]):m l:=by cases l with | nil=>cases h | cons a r=>cases r with | nil=>exact k a h | cons b r=>cases h
noncomputable def iM{α:Type}(l:List α)(f:α→List α→Bool):Bool:=match l with | []=>false | a::r=>f a r
theorem cV{α:Type}{l:List α}{f:α→List α→Bool}{m:List α→Prop}(h:iM l f=true)(k:∀ a r,f a r=true→m (a::r)):m l:=by cases l with | nil=>cases h | cons a r=>exact k a r h
theorem dU{α:Type}{l:List α}{m:List α→Prop}(h:l.isEmpty=true)(k:m []):m l:=by cases l with | nil=>exact k | cons a r=>cases h
noncomputable def iB{α:Type}(o:Option α)(f:α→Bool):Bool:=match o with | none=>false | some a=>f a
theorem sB{α:Type}{o:Option α}{f:α→Bool}{m:Option α→Prop}(h:iB o f=true)(k:∀ a,f a=true→m (some a)):m o:=by cases o with | none=>cases h | some a=>exact k a h
theorem sJ{α:Type}{o:Option α}{m:Option α→Prop}(h:o.isNone=true)(k:m none):m o:=by cases o with | none=>exact k | some a=>cases h
noncomputable def aW(e:Expr)(f:Str→Pos→Bool):Bool:=if h:e.ctorIdx=23 then Expr.Name.elim e h f else false
theorem aM{e:Expr}{f:Str→Pos→Bool}{m:Expr→Prop}(h:aW e f=true)(k:∀ a b,f a b=true→m (.Name a b)):m e:=by
 by_cases c:e.ctorIdx=23
 ·exact Expr.Name.elim (motive_1:=fun e=>aW e f=true→m e) e c k h
 ·rw[aW,dif_neg c]at h; cases h
noncomputable def bR(e:Expr)(f:Const→Nat→Pos→Bool):Bool:=if h:e.ctorIdx=19 then Expr.Constant.elim e h f else false
theorem cD{e:Expr}{f:Const→Nat→Pos→Bool}{m:Expr→Prop}(h:bR e f=true)(k:∀ a b c,f a b c=true→m (.Constant a b c)):m e:=by
 by_cases c:e.ctorIdx=19
 ·exact Expr.Constant.elim (motive_1:=fun e=>bR e f=true→m e) e c k h
 ·rw[bR,dif_neg c]at h; cases h
noncomputable def bM(e:Expr)(f:Expr→Str→Pos→Bool):Bool:=if h:e.ctorIdx=20 then Expr.Attribute.elim e h f else false
theorem cB{e:Expr}{f:Expr→Str→Pos→Bool}{m:Expr→Prop}(h:bM e f=true)(k:∀ a b c,f a b c=true→m (.Attribute a b c)):m e:=by
 by_cases c:e.ctorIdx=20
 ·exact Expr.Attribute.elim (motive_1:=fun e=>bM e f=true→m e) e c k h
 ·rw[bM,dif_neg c]at h; cases h
noncomputable def dG(e:Expr)(f:Expr→List Expr→List Keyword→Pos→Bool):Bool:=if h:e.ctorIdx=16 then Expr.Call.elim e h f else false
theorem dR{e:Expr}{f:Expr→List Expr→List Keyword→Pos→Bool}{m:Expr→Prop}(h:dG e f=true)(k:∀ a b c d,f a b c d=true→m (.Call a b c d)):m e:=by
 by_cases c:e.ctorIdx=16
 ·exact Expr.Call.elim (motive_1:=fun e=>dG e f=true→m e) e c k h
 ·rw[dG,dif_neg c]at h; cases h
noncomputable def fZ(e:Expr)(f:Expr→List CmpOp→List Expr→Pos→Bool):Bool:=if h:e.ctorIdx=15 then Expr.Compare.elim e h f else false
theorem mZ{e:Expr}{f:Expr→List CmpOp→List Expr→Pos→Bool}{m:Expr→Prop}(h:fZ e f=true)(k:∀ a b c d,f a b c d=true→m (.Compare a b c d)):m e:=by
 by_cases c:e.ctorIdx=15
 ·exact Expr.Compare.elim (motive_1:=fun e=>fZ e f=true→m e) e c k h
 ·rw[fZ,dif_neg c]at h; cases h
noncomputable def kQ(e:Expr)(f:BoolOp→List Expr→Pos→Bool):Bool:=if h:e.ctorIdx=0 then Expr.BoolOp.elim e h f else false
theorem wF{e:Expr}{f:BoolOp→List Expr→Pos→Bool}{m:Expr→Prop}(h:kQ e f=true)(k:∀ a b c,f a b c=true→m (.BoolOp a b c)):m e:=by
 by_cases c:e.ctorIdx=0
 ·exact Expr.BoolOp.elim (motive_1:=fun e=>kQ e f=true→m e) e c k h
 ·rw[kQ,dif_neg c]at h; cases h
noncomputable def nS(e:Expr)(f:Expr→Operator→Expr→Pos→Bool):Bool:=if h:e.ctorIdx=2 then Expr.BinOp.elim e h f else false
theorem z9{e:Expr}{f:Expr→Operator→Expr→Pos→Bool}{m:Expr→Prop}(h:nS e f=true)(k:∀ a b c d,f a b c d=true→m (.BinOp a b c d)):m e:=by
 by_cases c:e.ctorIdx=2
 ·exact Expr.BinOp.elim (motive_1:=fun e=>nS e f=true→m e) e c k h
 ·rw[nS,dif_neg c]at h; cases h
noncomputable def eR(e:Expr)(f:UnaryOp→Expr→Pos→Bool):Bool:=if h:e.ctorIdx=3 then Expr.UnaryOp.elim e h f else false
theorem jO{e:Expr}{f:UnaryOp→Expr→Pos→Bool}{m:Expr→Prop}(h:eR e f=true)(k:∀ a b c,f a b c=true→m (.UnaryOp a b c)):m e:=by
 by_cases c:e.ctorIdx=3
 ·exact Expr.UnaryOp.elim (motive_1:=fun e=>eR e f=true→m e) e c k h
 ·rw[eR,dif_neg c]at h; cases h
noncomputable def rK(e:Expr)(f:Expr→Expr→Expr→Pos→Bool):Bool:=if h:e.ctorIdx=5 then Expr.IfExp.elim e h f else false
theorem MK{e:Expr}{f:Expr→Expr→Expr→Pos→Bool}{m:Expr→Prop}(h:rK e f=true)(k:∀ a b c d,f a b c d=true→m (.IfExp a b c d)):m e:=by
 by_cases c:e.ctorIdx=5
 ·exact Expr.IfExp.elim (motive_1:=fun e=>rK e f=true→m e) e c k h
 ·rw[rK,dif_neg c]at h; cases h
noncomputable def s6(e:Expr)(f:List Expr→Pos→Bool):Bool:=if h:e.ctorIdx=24 then Expr.List.elim e h f else false
theorem rJ{e:Expr}{f:List Expr→Pos→Bool}{m:Expr→Prop}(h:s6 e f=true)(k:∀ a b,f a b=true→m (.List a b)):m e:=by
 by_cases c:e.ctorIdx=24
 ·exact Expr.List.elim (motive_1:=fun e=>s6 e f=true→m e) e c k h
 ·rw[s6,dif_neg c]at h; cases h
noncomputable def fR(e:Expr)(f:List Expr→Nat→Pos→Bool):Bool:=if h:e.ctorIdx=25 then Expr.Tuple.elim e h f else false
theorem e7{e:Expr}{f:List Expr→Nat→Pos→Bool}{m:Expr→Prop}(h:fR e f=true)(k:∀ a b c,f a b c=true→m (.Tuple a b c)):m e:=by
 by_cases c:e.ctorIdx=25
 ·exact Expr.Tuple.elim (motive_1:=fun e=>fR e f=true→m e) e c k h
 ·rw[fR,dif_neg c]at h; cases h
noncomputable def dM(e:Expr)(f:Expr→Expr→Pos→Bool):Bool:=if h:e.ctorIdx=21 then Expr.Subscript.elim e h f else false
theorem fV{e:Expr}{f:Expr→Expr→Pos→Bool}{m:Expr→Prop}(h:dM e f=true)(k:∀ a b c,f a b c=true→m (.Subscript a b c)):m e:=by
 by_cases c:e.ctorIdx=21
 ·exact Expr.Subscript.elim (motive_1:=fun e=>dM e f=true→m e) e c k h
 ·rw[dM,dif_neg c]at h; cases h
noncomputable def nP(e:Expr)(f:Option Expr→Option Expr→Option Expr→Pos→Bool):Bool:=if h:e.ctorIdx=26 then Expr.Slice.elim e h f else false
theorem z0{e:Expr}{f:Option Expr→Option Expr→Option Expr→Pos→Bool}{m:Expr→Prop}(h:nP e f=true)(k:∀ a b c d,f a b c d=true→m (.Slice a b c d)):m e:=by
 by_cases c:e.ctorIdx=26
 ·exact Expr.Slice.elim (motive_1:=fun e=>nP e f=true→m e) e c k h
 ·rw[nP,dif_neg c]at h; cases h
noncomputable def jQ(e:Expr)(f:Expr→List Comprehension→Scope→Pos→Bool):Bool:=if h:e.ctorIdx=8 then Expr.ListComp.elim e h f else false
theorem qK{e:Expr}{f:Expr→List Comprehension→Scope→Pos→Bool}{m:Expr→Prop}(h:jQ e f=true)(k:∀ a b c d,f a b c d=true→m (.ListComp a b c d)):m e:=by
 by_cases c:e.ctorIdx=8
 ·exact Expr.ListComp.elim (motive_1:=fun e=>jQ e f=true→m e) e c k h
 ·rw[jQ,dif_neg c]at h; cases h
noncomputable def NS(e:Expr)(f:Expr→List Comprehension→Scope→Pos→Bool):Bool:=if h:e.ctorIdx=11 then Expr.GeneratorExp.elim e h f else false
noncomputable def hZ(e:Expr)(f:List Expr→Pos→Bool):Bool:=if h:e.ctorIdx=18 then Expr.JoinedStr.elim e h f else false
theorem yV{e:Expr}{f:List Expr→Pos→Bool}{m:Expr→Prop}(h:hZ e f=true)(k:∀ a b,f a b=true→m (.JoinedStr a b)):m e:=by
 by_cases c:e.ctorIdx=18
 ·exact Expr.JoinedStr.elim (motive_1:=fun e=>hZ e f=true→m e) e c k h
 ·rw[hZ,dif_neg c]at h; cases h
noncomputable def dT(e:Expr)(f:Expr→Int→Option Expr→Pos→Bool):Bool:=if h:e.ctorIdx=17 then Expr.FormattedValue.elim e h f else false
theorem oV{e:Expr}{f:Expr→Int→Option Expr→Pos→Bool}{m:Expr→Prop}(h:dT e f=true)(k:∀ a b c d,f a b c d=true→m (.FormattedValue a b c d)):m e:=by
 by_cases c:e.ctorIdx=17
 ·exact Expr.FormattedValue.elim (motive_1:=fun e=>dT e f=true→m e) e c k h
 ·rw[dT,dif_neg c]at h; cases h
noncomputable def eC(e:Stmt)(f:Option Expr→Pos→Bool):Bool:=if h:e.ctorIdx=3 then Stmt.Return.elim e h f else false
theorem hY{e:Stmt}{f:Option Expr→Pos→Bool}{m:Stmt→Prop}(h:eC e f=true)(k:∀ a b,f a b=true→m (.Return a b)):m e:=by
 by_cases c:e.ctorIdx=3
 ·exact Stmt.Return.elim (motive_2:=fun e=>eC e f=true→m e) e c k h
 ·rw[eC,dif_neg c]at h; cases h
noncomputable def cP(e:Stmt)(f:List Expr→Expr→Pos→Bool):Bool:=if h:e.ctorIdx=5 then Stmt.Assign.elim e h f else false
theorem dN{e:Stmt}{f:List Expr→Expr→Pos→Bool}{m:Stmt→Prop}(h:cP e f=true)(k:∀ a b c,f a b c=true→m (.Assign a b c)):m e:=by
 by_cases c:e.ctorIdx=5
 ·exact Stmt.Assign.elim (motive_2:=fun e=>cP e f=true→m e) e c k h
 ·rw[cP,dif_neg c]at h; cases h
noncomputable def dB(e:Stmt)(f:Expr→Operator→Expr→Pos→Bool):Bool:=if h:e.ctorIdx=7 then Stmt.AugAssign.elim e h f else false
theorem gP{e:Stmt}{f:Expr→Operator→Expr→Pos→Bool}{m:Stmt→Prop}(h:dB e f=true)(k:∀ a b c d,f a b c d=true→m (.AugAssign a b c d)):m e:=by
 by_cases c:e.ctorIdx=7
 ·exact Stmt.AugAssign.elim (motive_2:=fun e=>dB e f=true→m e) e c k h
 ·rw[dB,dif_neg c]at h; cases h
noncomputable def nO(e:Stmt)(f:Expr→Expr→List Stmt→List Stmt→Pos→Bool):Bool:=if h:e.ctorIdx=9 then Stmt.For.elim e h f else false
theorem zZ{e:Stmt}{f:Expr→Expr→List Stmt→List Stmt→Pos→Bool}{m:Stmt→Prop}(h:nO e f=true)(k:∀ a b c d e,f a b c d e=true→m (.For a b c d e)):m e:=by
 by_cases c:e.ctorIdx=9
 ·exact Stmt.For.elim (motive_2:=fun e=>nO e f=true→m e) e c k h
 ·rw[nO,dif_neg c]at h; cases h
noncomputable def iZ(e:Stmt)(f:Expr→List Stmt→List Stmt→Pos→Bool):Bool:=if h:e.ctorIdx=11 then Stmt.While.elim e h f else false
theorem uG{e:Stmt}{f:Expr→List Stmt→List Stmt→Pos→Bool}{m:Stmt→Prop}(h:iZ e f=true)(k:∀ a b c d,f a b c d=true→m (.While a b c d)):m e:=by
 by_cases c:e.ctorIdx=11
 ·exact Stmt.While.elim (motive_2:=fun e=>iZ e f=true→m e) e c k h
 ·rw[iZ,dif_neg c]at h; cases h
noncomputable def pE(e:Stmt)(f:Expr→List Stmt→List Stmt→Pos→Bool):Bool:=if h:e.ctorIdx=12 then Stmt.If.elim e h f else false
theorem yG{e:Stmt}{f:Expr→List Stmt→List Stmt→Pos→Bool}{m:Stmt→Prop}(h:pE e f=true)(k:∀ a b c d,f a b c d=true→m (.If a b c d)):m e:=by
 by_cases c:e.ctorIdx=12
 ·exact Stmt.If.elim (motive_2:=fun e=>pE e f=true→m e) e c k h
 ·rw[pE,dif_neg c]at h; cases h
noncomputable def lP(e:Stmt)(f:Option Expr→Option Expr→Pos→Bool):Bool:=if h:e.ctorIdx=16 then Stmt.Raise.elim e h f else false
theorem DK{e:Stmt}{f:Option Expr→Option Expr→Pos→Bool}{m:Stmt→Prop}(h:lP e f=true)(k:∀ a b c,f a b c=true→m (.Raise a b c)):m e:=by
 by_cases c:e.ctorIdx=16
 ·exact Stmt.Raise.elim (motive_2:=fun e=>lP e f=true→m e) e c k h
 ·rw[lP,dif_neg c]at h; cases h
noncomputable def rI(e:Stmt)(f:List Stmt→List ExceptHandler→List Stmt→List Stmt→Pos→Bool):Bool:=if h:e.ctorIdx=17 then Stmt.Try.elim e h f else false
theorem MJ{e:Stmt}{f:List Stmt→List ExceptHandler→List Stmt→List Stmt→Pos→Bool}{m:Stmt→Prop}(h:rI e f=true)(k:∀ a b c d e,f a b c d e=true→m (.Try a b c d e)):m e:=by
 by_cases c:e.ctorIdx=17
 ·exact Stmt.Try.elim (motive_2:=fun e=>rI e f=true→m e) e c k h
 ·rw[rI,dif_neg c]at h; cases h
noncomputable def jP(e:Stmt)(f:Expr→Option Expr→Pos→Bool):Bool:=if h:e.ctorIdx=19 then Stmt.Assert.elim e h f else false
theorem AY{e:Stmt}{f:Expr→Option Expr→Pos→Bool}{m:Stmt→Prop}(h:jP e f=true)(k:∀ a b c,f a b c=true→m (.Assert a b c)):m e:=by
 by_cases c:e.ctorIdx=19
 ·exact Stmt.Assert.elim (motive_2:=fun e=>jP e f=true→m e) e c k h
 ·rw[jP,dif_neg c]at h; cases h
noncomputable def iT(e:Stmt)(f:Expr→Pos→Bool):Bool:=if h:e.ctorIdx=24 then Stmt.Expr.elim e h f else false
theorem pO{e:Stmt}{f:Expr→Pos→Bool}{m:Stmt→Prop}(h:iT e f=true)(k:∀ a b,f a b=true→m (.Expr a b)):m e:=by
 by_cases c:e.ctorIdx=24
 ·exact Stmt.Expr.elim (motive_2:=fun e=>iT e f=true→m e) e c k h
 ·rw[iT,dif_neg c]at h; cases h
theorem cL{α:Type} [BEq α] [LawfulBEq α] {a b:α} {m:α→Prop} (h:(a==b)=true) (k:m b):m a:=eq_of_beq h▸k
noncomputable def An(e:Expr):Bool:=bR e fun c _ _=>c.ctorIdx==0
noncomputable def B1(e:Comprehension)(f:Expr→Expr→List Expr→Int→Bool):Bool:=f e.target e.iter e.ifs e.is_async
theorem nR{e:Comprehension}{f:Expr→Expr→List Expr→Int→Bool}{m:Comprehension→Prop}(h:B1 e f=true)(k:∀ a b c d,f a b c d=true→m ⟨a,b,c,d⟩):m e:=by cases e; exact k _ _ _ _ h
noncomputable def XO(e:ExceptHandler)(f:Option Expr→Option Str→List Stmt→Pos→Bool):Bool:=match e with | .ExceptHandler a b c d=>f a b c d
theorem Y2{e:ExceptHandler}{f:Option Expr→Option Str→List Stmt→Pos→Bool}{m:ExceptHandler→Prop}(h:XO e f=true)(k:∀ a b c d,f a b c d=true→m (.ExceptHandler a b c d)):m e:=by cases e; exact k _ _ _ _ h
theorem aJ{l:List Bool}(h:l.all id=true){b:Bool}(k:Nat)(e:l[k]? = some b):b=true:=List.all_eq_true.mp h _ (List.mem_of_getElem? e)
theorem bJ{b:Bool}(h:(!b)=true):b=false:=by cases b with | true=>cases h | false=>rfl
end Kt.Internal
end
section
open PySem PySem.W
namespace Kt.Internal
abbrev aL:=List (Option PyData)
inductive Bi where
 | len | max2 | chr
inductive Me where
 | join
set_option genCtorIdx false in
inductive Tg where
 | one (x:Nat)
 | two (x y:Nat)
set_option genCtorIdx false in
mutual
inductive PE where
 | lit (d:PyData)
 | var (x:Nat)
 | neg (a:PE)
 | nt (a:PE)
 | bool (isAnd:Bool) (a b:PE)
 | bin (op:Operator) (a b:PE)
 | cmp (op:CmpOp) (a b:PE)
 | ite (c a b:PE)
 | list (es:r8)
 | comp (elt:PE) (t:Tg) (i:PI) (c:PO) (g:PG)
 | call (f:Nat) (es:r8)
 | bi (b:Bi) (es:r8)
 | me (m:Me) (o:PE) (es:r8)
 | idx (a i:PE)
 | slc (a:PE) (lo hi:PO)
inductive r8 where
 | nil
 | cons (e:PE) (es:r8)
inductive PO where
 | no
 | yes (e:PE)
inductive PI where
 | of (e:PE)
 | range1 (a:PE)
 | range3 (a b c:Int)
 | zip (a b:PE)
inductive PG where
 | nil
 | cons (t:Tg) (i:PI) (c:PO) (g:PG)
end
set_option genCtorIdx false in
mutual
inductive PS where
 | assign (x:Nat) (e:PE)
 | assign2 (x y:Nat) (a b:PE)
 | aug (x:Nat) (op:Operator) (e:PE)
 | app (x:Nat) (e:PE)
 | ife (c:PE) (a b:mG)
 | for_ (t:Tg) (i:PI) (b:mG)
 | while_ (c:PE) (b:mG)
 | ret (e:PE)
inductive mG where
 | nil
 | cons (s:PS) (ss:mG)
end
mutual
noncomputable def bL:PyData→Bool
 | .none | .bool _ | .int _=>true
 | .str x=>PyData.strOk x&&decide (x.length≤sizeLine)
 | .list xs=>decide (xs.length≤sizeLine)&&cM xs
 | .tuple _ | .dict _=>false
noncomputable def cM:List PyData→Bool
 | []=>true
 | x::xs=>bL x&&cM xs
end
mutual
theorem bS:∀{d:PyData},bL d=true→d.canLay0=true
 | .none,_=>by simp[PyData.canLay0]
 | .bool _,_=>by simp[PyData.canLay0]
 | .int _,_=>by simp[PyData.canLay0]
 | .str x,h=>by simp[bL]at h; simpa [PyData.canLay0]using h.1
 | .list xs,h=>by simp[bL]at h; simpa [PyData.canLay0]using cF h.2
 | .tuple _,h | .dict _,h=>by cases h
theorem cF:∀{ds:List PyData},cM ds=true→PyData.canLayAll0 ds=true
 | [],_=>by simp[PyData.canLayAll0]
 | x::xs,h=>by simp[cM]at h; simp[PyData.canLayAll0,bS h.1,cF h.2]
end
theorem bV:∀{ds:List PyData},cM ds=true↔∀ d∈ds,bL d=true
 | []=>by simp[cM]
 | x::xs=>by simp[cM,bV (ds:=xs)]
theorem kW{xs ys:List PyData}:cM (xs++ys)=true↔cM xs=true∧cM ys=true:=by
 simp only[bV,List.mem_append]
 exact⟨fun h=>⟨fun d hd=>h d (.inl hd),fun d hd=>h d (.inr hd)⟩,fun h d hd=>hd.elim (h.1 d) (h.2 d)⟩
noncomputable def bT:PyData→Option Bool
 | .none=>some false
 | .bool b=>some b
 | .int i=>some (i != 0)
 | .str s=>some (s.length != 0)
 | .list xs=>some (!xs.isEmpty)
 | .tuple _ | .dict _=>none
noncomputable def NX(xs:List PyData):Option PyData:=if xs.length≤sizeLine then some (.list xs)else none
noncomputable def Ah(s:Str):Option PyData:=if s.length≤sizeLine then some (.str s)else none
noncomputable def u3(a:Int):Bool:=decide (a.natAbs<2 ^ 1024)
section
variable{α:Type}
noncomputable def mJ(x:PyData)(f:Int→Option α):Option α:=match x with | .int i=>f i | _=>none
noncomputable def qZ(x:PyData)(f:Str→Option α):Option α:=match x with | .str i=>f i | _=>none
noncomputable def iS(x:PyData)(f:List PyData→Option α):Option α:=match x with | .list i=>f i | _=>none
noncomputable def SZ(x:PyData)(f:Bool→Option α):Option α:=match x with | .bool i=>f i | _=>none
end
noncomputable def XZ:Operator→Int→Int→Option PyData
 | .Add,a,b=>some (.int (a+b))
 | .Sub,a,b=>some (.int (a - b))
 | .Mult,a,b=>if u3 a&&u3 b then some (.int (a*b))else none
 | .FloorDiv,a,b=>if 0<b&&u3 b then some (.int (a.fdiv b))else none
 | .Mod,a,b=>if 0<b then some (.int (a.fmod b))else none
 | .Pow,a,b=>if u3 a&&0≤b&&b≤1024 then some (.int (a ^ b.toNat))else none
 | _,_,_=>none
noncomputable def sC(op:Operator)(x y:PyData):Option PyData:=match x with
 | .int a=>mJ y (XZ op a)
 | .str a=>qZ y fun b=>if op == .Add then Ah (a++b)else none
 | .list a=>iS y fun b=>if op == .Add then NX (a++b)else none
 | _=>none
noncomputable def l3(a b:PyData):Bool:=decide (min a.depth b.depth≤64)
noncomputable def FR:PyData→Bool
 | .none=>true
 | _=>false
noncomputable def Ai(x y:PyData):Option Bool:=match y with
 | .none=>some (FR x)
 | .bool b=>SZ x fun a=>some (a==b)
 | _=>none
noncomputable def Ax(x y:PyData):Option Bool:=match y with
 | .list ys=>if l3 x (.list ys)then some (ys.any fun y=>PyData.eqv y x)else none
 | .str t=>qZ x fun a=>some (Txt.contains t a)
 | _=>none
noncomputable def T0:CmpOp→Int→Int→Option Bool
 | .Lt,a,b=>some (decide (a<b))
 | .LtE,a,b=>some (decide (a≤b))
 | .Gt,a,b=>some (decide (a>b))
 | .GtE,a,b=>some (decide (a≥b))
 | _,_,_=>none
noncomputable def u4(op:CmpOp)(x y:PyData):Option PyData:=match op with
 | .Eq=>if l3 x y then some (.bool (PyData.eqv x y))else none
 | .NotEq=>if l3 x y then some (.bool (!PyData.eqv x y))else none
 | .In=>(Ax x y).map .bool
 | .NotIn=>(Ax x y).map fun q=>.bool (!q)
 | .Is=>(Ai x y).map .bool
 | .IsNot=>(Ai x y).map fun q=>.bool (!q)
 | op=>mJ x fun a=>mJ y fun b=>(T0 op a b).map .bool
noncomputable def T1(i:Int):Option PyData:=if 0≤i&&i<0xD800 then some (.str ⟨#[i.toNat]⟩)else none
noncomputable def D1:List PyData→Option (List Str)
 | []=>some []
 | d::r=>qZ d fun i=>(D1 r).map (i :: ·)
noncomputable def Dt(b:Bi)(x:PyData):Option PyData:=match b with
 | .len=>(match x with | .list xs=>some (.int xs.length)| .str s=>some (.int s.length)| _=>none)
 | .chr=>mJ x T1
 | _=>none
noncomputable def Ds(b:Bi)(x y:PyData):Option PyData:=match b with
 | .max2=>mJ x fun a=>mJ y fun b=>some (.int (if b>a then b else a))
 | _=>none
noncomputable def TN{α:Type}(ds:List PyData)(f:PyData→Option α)(g:PyData→PyData→Option α):Option α:=match ds with
 | []=>none
 | x::r=>(match r with | []=>f x | y::r=>if r.isEmpty then g x y else none)
noncomputable def W3(b:Bi)(ds:List PyData):Option PyData:=TN ds (Dt b) (Ds b)
noncomputable def zB(sep:Str)(xs:List PyData):Option PyData:=(D1 xs).bind fun l=>if l.foldl (fun n x=>n+x.length+sep.length) 0≤2 ^ 20 then some (.str (Str.join sep l))else none
noncomputable def Cr(m:Me)(o:PyData)(ds:List PyData):Option PyData:=TN ds (fun x=>match m with
 | .join=>qZ o fun sep=>iS x (zB sep)) fun _ _=>none
noncomputable def cY(i:Int)(n:Nat):Option Nat :=
 if -(2 ^ 62)<i&&i<2 ^ 62 then
  (if 0≤i then(if i.toNat<n then some i.toNat else none)
   else if 0≤i+n then some (i+n).toNat else none)
 else none
noncomputable def BA(x y:PyData):Option PyData:=mJ y fun i=>match x with
 | .list xs=>(cY i xs.length).bind (xs[·]?)
 | .str s=>(cY i s.length).bind fun k=>(s.cps[k]?).map fun c=>.str ⟨#[c]⟩
 | _=>none
noncomputable def dH(i:Int)(n:Nat):Nat:=(max 0 (min (if i<0 then i+n else i) (n:Int))).toNat
noncomputable def cut{α:Type}(l:List α)(lo hi:Option Int):List α :=
 let a:=match lo with | none=>0 | some i=>dH i l.length
 let b:=match hi with | none=>l.length | some i=>dH i l.length
 (l.take b).drop a
noncomputable def IJ(d:PyData)(lo hi:Option Int):Option PyData :=
 match d with
 | .list xs=>some (.list (cut xs lo hi))
 | .str s=>some (.str ⟨(cut s.cps.toList lo hi).toArray⟩)
 | _=>none
noncomputable def pZ:PyData→Option Int
 | .int i=>if -(2 ^ 62)<i&&i<2 ^ 62 then some i else none
 | _=>none
noncomputable def XE(lo hi k:Int):List PyData:=(List.range (Builtin.Range.rangeSize lo hi k).toNat).map fun(j:Nat)=>PyData.int (lo+(j:Int)*k)
noncomputable def PC(n:Int):Bool:=decide (0≤n)&&decide (n≤2 ^ 20)
noncomputable def Be(m n k:Int):Bool:=!(k==0)&&(Builtin.Range.small m n k&&(!Builtin.divisionGoesByPylong (n - m) k&&decide ((Builtin.Range.rangeSize m n k).toNat≤1000)))
noncomputable def KJ:PyData→Option (List PyData)
 | .list xs=>some xs
 | _=>none
noncomputable def XH{α:Type}(d:PyData)(f:PyData→PyData→Option α):Option α:=iS d fun l=>match l with
 | []=>none
 | a::l=>match l with
  | []=>none
  | b::r=>if r.isEmpty then f a b else none
noncomputable def fO:Tg→PyData→aL→Option aL
 | .one x,d,ρ=>some (ρ.set x (some d))
 | .two x y,d,ρ=>XH d fun a b=>some ((ρ.set x (some a)).set y (some b))
noncomputable def bU:Tg→List Nat
 | .one x=>[x]
 | .two x y=>[x,y]
noncomputable def w3:PG→List Nat
 | .nil=>[]
 | .cons t _ _ g=>bU t++w3 g
noncomputable def TC:List Nat→aL→aL
 | [],ρ=>ρ
 | x::xs,ρ=>TC xs (ρ.set x none)
noncomputable def y7(f:PyData→Option (List PyData)):List PyData→Option (List PyData)
 | []=>some []
 | d::ds=>(f d).bind fun a=>(y7 f ds).map fun r=>a++r
noncomputable def w5:List PyData→List PyData→List PyData
 | x::xs,y::ys=>.list [x,y]::w5 xs ys
 | _,_=>[]
noncomputable def bC(ρ:aL)(x:Nat):Option PyData:=(ρ[x]?).join
section
variable(cl:Nat→List PyData→Option PyData)
mutual
noncomputable def aD:PE→aL→Option PyData
 | .lit d,_=>some d
 | .var x,ρ=>bC ρ x
 | .neg a,ρ=>(aD a ρ).bind fun d=>mJ d fun i=>some (.int (-i))
 | .nt a,ρ=>(aD a ρ).bind fun d=>(bT d).map fun b=>.bool (!b)
 | .bool q a b,ρ=>(aD a ρ).bind fun d=>(bT d).bind fun t=>if t==q then aD b ρ else some d
 | .bin op a b,ρ=>(aD a ρ).bind fun x=>(aD b ρ).bind fun y=>sC op x y
 | .cmp op a b,ρ=>(aD a ρ).bind fun x=>(aD b ρ).bind fun y=>u4 op x y
 | .ite c a b,ρ=>(aD c ρ).bind fun d=>(bT d).bind fun t=>if t then aD a ρ else aD b ρ
 | .list es,ρ=>(kF es ρ).map .list
 | .comp elt t i c g,ρ=>(uY i ρ).bind fun ds=>(y7 (fun d=>(fO t d (TC (bU t++w3 g) ρ)).bind fun ρ'=>(N0 c ρ').bind fun b=>if b then NZ (aD elt) g ρ' else some []) ds).bind NX
 | .call f es,ρ=>(kF es ρ).bind fun l=>cl f l
 | .bi b es,ρ=>(kF es ρ).bind fun l=>W3 b l
 | .me m o es,ρ=>(aD o ρ).bind fun d=>(kF es ρ).bind fun l=>Cr m d l
 | .idx a i,ρ=>(aD a ρ).bind fun x=>(aD i ρ).bind fun y=>BA x y
 | .slc a lo hi,ρ=>(aD a ρ).bind fun x=>(W2 lo ρ).bind fun l=>(W2 hi ρ).bind fun h=>IJ x l h
noncomputable def kF:r8→aL→Option (List PyData)
 | .nil,_=>some []
 | .cons e es,ρ=>(aD e ρ).bind fun d=>(kF es ρ).map fun l=>d::l
noncomputable def W2:PO→aL→Option (Option Int)
 | .no,_=>some none
 | .yes e,ρ=>(aD e ρ).bind fun d=>(pZ d).map some
noncomputable def uY:PI→aL→Option (List PyData)
 | .of e,ρ=>(aD e ρ).bind KJ
 | .range1 a,ρ=>(aD a ρ).bind fun d=>mJ d fun n=>if PC n then some (XE 0 n 1)else none
 | .range3 m n k,_=>if Be m n k then some (XE m n k)else none
 | .zip a b,ρ=>(aD a ρ).bind fun x=>(aD b ρ).bind fun y=>iS x fun xs=>iS y fun ys=>some (w5 xs ys)
noncomputable def N0:PO→aL→Option Bool
 | .no,_=>some true
 | .yes e,ρ=>(aD e ρ).bind bT
noncomputable def NZ(fe:aL→Option PyData):PG→aL→Option (List PyData)
 | .nil,ρ=>(fe ρ).map fun d=>[d]
 | .cons t i c g,ρ=>(uY i ρ).bind fun ds=>y7 (fun d=>(fO t d ρ).bind fun ρ'=>(N0 c ρ').bind fun b=>if b then NZ fe g ρ' else some []) ds
end
end
mutual
noncomputable def kB:PE→List Nat
 | .lit _=>[]
 | .var x=>[x]
 | .neg a=>kB a
 | .nt a=>kB a
 | .bool _ a b=>kB a++kB b
 | .bin _ a b=>kB a++kB b
 | .cmp _ a b=>kB a++kB b
 | .ite _ a b=>kB a++kB b
 | .list es=>nB es
 | .comp elt _ i _ g=>kB elt++(cT i++GI g)
 | .call _ es=>nB es
 | .bi _ es=>nB es
 | .me _ o es=>kB o++nB es
 | .idx a _=>kB a
 | .slc a _ _=>kB a
noncomputable def nB:r8→List Nat
 | .nil=>[]
 | .cons e es=>kB e++nB es
noncomputable def cT:PI→List Nat
 | .of e=>kB e
 | .range1 _=>[]
 | .range3 _ _ _=>[]
 | .zip a b=>kB a++kB b
noncomputable def GI:PG→List Nat
 | .nil=>[]
 | .cons _ i _ g=>cT i++GI g
end
noncomputable def flat:PyData→Bool
 | .none | .bool _ | .int _ | .str _=>true
 | _=>false
noncomputable def vK:PE→Bool
 | .list _ | .comp _ _ _ _ _=>true
 | _=>false
noncomputable def Bj:PE→Bool
 | .list .nil=>true
 | _=>false
noncomputable def SU:PE→Bool
 | .lit d=>flat d
 | _=>false
noncomputable def u0(a b:PE):Bool:=Bj a&&SU b
structure dY where
 env:aL
 own:List Nat
noncomputable def lose(own xs:List Nat):List Nat:=own.filter fun y=>!xs.contains y
noncomputable def bP(own:List Nat)(d:PyData)(e:PE):List Nat:=if flat d then own else lose own (kB e)
noncomputable def w4(σ:dY)(x:Nat)(d:PyData)(own:List Nat)(new:Bool):dY :=
 { env:=σ.env.set x (some d),own:=let r:=own.filter (· != x); if new then x::r else r }
set_option genCtorIdx false in
inductive Fl where
 | next (σ:dY)
 | ret (d:PyData)
noncomputable def dJ(body:dY→Option Fl)(bind:PyData→dY→Option dY):List PyData→dY→Option Fl
 | [],σ=>some (.next σ)
 | d::ds,σ=>(bind d σ).bind fun σ₁=>(body σ₁).bind fun
  | .next σ₂=>dJ body bind ds σ₂
  | .ret v=>some (.ret v)
noncomputable def dK(test:dY→Option Bool)(body:dY→Option Fl):Nat→dY→Option Fl
 | 0,_=>none
 | n+1,σ=>(test σ).bind fun t=>if t then(body σ).bind fun
   | .next σ₂=>dK test body n σ₂
   | .ret v=>some (.ret v)
  else some (.next σ)
section
variable(cl:Nat→List PyData→Option PyData)(fuel:Nat)
mutual
noncomputable def oX:PS→dY→Option Fl
 | .assign x e,σ=>(aD cl e σ.env).map fun d=>.next (w4 σ x d (bP σ.own d e) (vK e))
 | .assign2 x y a b,σ=>(aD cl a σ.env).bind fun d=>(aD cl b σ.env).map fun d' =>
   .next (w4 (w4 σ x d (bP (bP σ.own d a) d' b) (u0 a b)) y d' ((w4 σ x d (bP (bP σ.own d a) d' b) (u0 a b)).own) false)
 | .aug x op e,σ=>(bC σ.env x).bind fun a=>(aD cl e σ.env).bind fun b=>if flat a&&flat b&&(op == .Add||op == .Sub)then(sC op a b).map fun d=>.next (w4 σ x d σ.own false)else none
 | .app x e,σ=>if σ.own.contains x then((bC σ.env x).bind fun q=>iS q fun xs=>(aD cl e σ.env).bind fun d =>
     if !flat d&&(kB e).contains x then none
     else(NX (xs++[d])).map fun l=>.next { env:=σ.env.set x (some l),own:=bP σ.own d e })else none
 | .ife c a b,σ=>(aD cl c σ.env).bind fun d=>(bT d).bind fun t=>if t then b6 a σ else b6 b σ
 | .for_ t i b,σ=>(uY cl i σ.env).bind fun ds =>
   dJ (b6 b) (fun d τ=>(fO t d τ.env).map fun ρ=>{ env:=ρ,own:=lose τ.own (bU t) }) ds { σ with own:=lose σ.own (cT i) }
 | .while_ c b,σ=>dK (fun τ=>(aD cl c τ.env).bind bT) (b6 b) fuel σ
 | .ret e,σ=>(aD cl e σ.env).map .ret
noncomputable def b6:mG→dY→Option Fl
 | .nil,σ=>some (.next σ)
 | .cons s ss,σ=>(oX s σ).bind fun
  | .next σ'=>b6 ss σ'
  | .ret d=>some (.ret d)
end
end
structure PF where
 size:Nat
 arity:Nat
 body:mG
noncomputable def dE(n:Nat)(args:List PyData):aL:=args.map some++List.replicate (n - args.length) none
noncomputable def bH(tab:Nat→Option PF)(prim:Nat→List PyData→Option PyData)(fuel:Nat):Nat→Nat→List PyData→Option PyData
 | 0,_,_=>none
 | lvl+1,f,args=>match tab f with
  | some pf=>if args.length=pf.arity then
    (match b6 (bH tab prim fuel lvl) fuel pf.body ⟨dE pf.size args,[]⟩with
     | some (.ret d)=>some d
     | some (.next _)=>some .none
     | none=>none)else none
  | none=>prim f args
end Kt.Internal
end
section
open PySem PySem.W PyProof.Rows
namespace Kt.Internal
def iP(o:Option Nat)(es:List Nat):Prop:=∃ y∈es,o=some y
structure aE where
 prog:Program
 w:World
 h₀:Heap
 os:OsState
 TabI:Heap→Prop
 tabK:∀ h h':Heap,TabI h→(∀ b o,b<h₀.objs.size→h.get? b=some o→h'.get? b=some o)→TabI h'
 mg:Str→Option Value
 mb:Str→Option Value
 hg:h₀.Ns mainGlobals mg
 hb:h₀.Ns builtinsNs mb
 fr:List Addr
 lam:Value:=.none
noncomputable abbrev aE.n(Z:aE):Nat:=Z.h₀.objs.size
def Sl(h':Heap)(b:Addr)(o:Obj):Prop:=h'.get? b=some o∨((∃ es ep,o.data = .dict es ep)∧∃ sl,h'.get? b=some { o with slots:=sl })
theorem Sl.ex{h':Heap}{b:Addr}{o:Obj}(x:Sl h' b o):∃ o',h'.get? b=some o'∧o'.cls=o.cls∧o'.data=o.data:=by
 rcases x with e | ⟨_,sl,e⟩
 ·exact⟨o,e,rfl,rfl⟩
 ·exact⟨_,e,rfl,rfl⟩
theorem Sl.lt{h':Heap}{b:Addr}{o:Obj}(x:Sl h' b o):b<h'.objs.size:=let⟨_,e,_⟩:=x.ex; Heap.lt_size e
theorem Sl.seq{h':Heap}{b:Addr}{o:Obj}{xs:Array Value}{n:Nat}(x:Sl h' b o)(hd:o.data = .seq xs n):h'.get? b=some o:=by
 rcases x with e | ⟨⟨es,ep,e⟩,_⟩
 ·exact e
 ·rw[hd]at e; cases e
theorem Sl.cell{h':Heap}{b:Addr}{o:Obj}{v:Option Value}(x:Sl h' b o)(hd:o.data = .cell v):h'.get? b=some o:=by
 rcases x with e | ⟨⟨es,ep,e⟩,_⟩
 ·exact e
 ·rw[hd]at e; cases e
theorem Sl.flds{h':Heap}{b:Addr}{o:Obj}{vs:Array Value}(x:Sl h' b o)(hd:o.data = .fields vs):h'.get? b=some o:=by
 rcases x with e | ⟨⟨es,ep,e⟩,_⟩
 ·exact e
 ·rw[hd]at e; cases e
theorem Sl.nd{h':Heap}{b:Addr}{o:Obj}(x:Sl h' b o)(hd:∀ es ep,o.data ≠ .dict es ep):h'.get? b=some o:=by
 rcases x with e | ⟨⟨es,ep,e⟩,_⟩
 ·exact e
 ·exact absurd e (hd es ep)
theorem Sl.next{h₁ h₂:Heap}{b:Addr}{o:Obj}(x:Sl h₁ b o)(y:∀ o',h₁.get? b=some o'→o'.cls=o.cls→Sl h₂ b o'):Sl h₂ b o:=by
 rcases x with e | ⟨hd,sl,e⟩
 ·exact y o e rfl
 ·rcases y _ e rfl with e' | ⟨_,sl',e'⟩
  ·exact .inr ⟨hd,sl,e'⟩
  ·exact .inr ⟨hd,sl',e'⟩
theorem Sl.then{h₁ h₂:Heap}{b:Addr}{o:Obj}(x:Sl h₁ b o)(y:∀ o',h₁.get? b=some o'→h₂.get? b=some o'):Sl h₂ b o:=x.next fun o' e _=>.inl (y o' e)
structure Kp(n:Nat)(h h':Heap):Prop where
 k:∀ b o,h.get? b=some o→(o.cls ≠ .none∨n≤b)→Sl h' b o
theorem Kp.refl(n:Nat)(h:Heap):Kp n h h:=⟨fun _ _ e _=>.inl e⟩
theorem Kp.trans{n:Nat}{h₁ h₂ h₃:Heap}(x:Kp n h₁ h₂)(y:Kp n h₂ h₃):Kp n h₁ h₃:=⟨fun b o e c=>(x.k b o e c).next fun o' e' hc=>y.k b o' e' (by rw[hc]; exact c)⟩
theorem Kp.of{n:Nat}{h h':Heap}(k:∀ b o,h.get? b=some o→h'.get? b=some o):Kp n h h':=⟨fun b o e _=>.inl (k b o e)⟩
theorem Kp.push(n:Nat)(h:Heap)(o:Obj):Kp n h (h.push o):=.of fun _ _ e=>Heap.get?_push_of_some _ e
theorem Kp.ns{n:Nat}{h h':Heap}{a:Addr}{m:Str→Option Value}(k:Kp n h h')(ha:n≤a)(x:h.Ns a m):h'.Ns a m :=
 let⟨_,es,ep,e,hd,r⟩:=x; let⟨o',e',_,hd'⟩:=(k.k _ _ e (.inr ha)).ex; ⟨o',es,ep,e',hd'.trans hd,r⟩
theorem Kp.cell{n:Nat}{h h':Heap}{a:Addr}{v:Option Value}(k:Kp n h h')(ha:n≤a)(x:h.IsCell a v):h'.IsCell a v :=
 let⟨o,e,r⟩:=x; ⟨o,(k.k _ _ e (.inr ha)).cell r,r⟩
inductive gU(h:Heap):Bool→List Value→List PyData→List Addr→Prop
 | none:gU h true [.none] [.none] []
 | bool (b):gU h true [.bool b] [.bool b] []
 | int (i t):gU h true [.int i t] [.int i] []
 | str (x t):gU h true [.str x t] [.str x] []
 | list {a o vs n xs as}:h.get? a=some o→(o.cls = .type "list" ∧ o.dict=none)→o.data = .seq vs n→gU h false vs.toList xs as→gU h true [.ref a] [.list xs] (a::as)
 | nil:gU h false [] [] []
 | cons {v vs d ds as bs}:gU h true [v] [d] as→gU h false vs ds bs→gU h false (v::vs) (d::ds) (as++bs)
abbrev Rd(h:Heap)(v:Value)(d:PyData)(as:List Addr):Prop:=gU h true [v] [d] as
abbrev aR(h:Heap)(vs:List Value)(ds:List PyData)(as:List Addr):Prop:=gU h false vs ds as
theorem aR.ind{h:Heap}{P:List Value→List PyData→List Addr→Prop}(h0:P [] [] [])(h1:∀{v vs d ds as bs},Rd h v d as→aR h vs ds bs→P vs ds bs→P (v::vs) (d::ds) (as++bs)){vs:List Value}{ds:List PyData}{as:List Addr}(r:aR h vs ds as):P vs ds as:=by
 have:∀{q vs ds as},gU h q vs ds as→q=false→P vs ds as:=fun r=>by
  induction r with
  | nil=>exact fun _=>h0
  | cons r1 r2 _ i2=>exact fun _=>h1 r1 r2 (i2 rfl)
  | _=>exact nofun
 exact this r rfl
theorem gU.map{h h':Heap}{q:Bool}{vs:List Value}{ds:List PyData}{as:List Addr}(r:gU h q vs ds as) :
  (∀ a o,a∈as→h.get? a=some o→o.cls = .type "list" → h'.get? a=some o)→gU h' q vs ds as:=by
 induction r with
 | none=>intro _; exact .none
 | bool b=>intro _; exact .bool b
 | int i t=>intro _; exact .int i t
 | str x t=>intro _; exact .str x t
 | list h1 h2 h3 h4 ih=>intro k; exact .list (k _ _ List.mem_cons_self h1 h2.1) h2 h3 (ih fun a o ha=>k a o (List.mem_cons_of_mem _ ha))
 | nil=>intro _; exact .nil
 | cons h1 h2 i1 i2=>intro k; exact .cons (i1 fun a o ha=>k a o (List.mem_append_left _ ha)) (i2 fun a o ha=>k a o (List.mem_append_right _ ha))
theorem gU.objs{h:Heap}{q:Bool}{vs:List Value}{ds:List PyData}{as:List Addr}(r:gU h q vs ds as):∀ a∈as,∃ o xs n,h.get? a=some o∧o.data = .seq xs n∧o.cls = .type "list" := by
 induction r with
 | none=>intro _ h; cases h
 | bool=>intro _ h; cases h
 | int=>intro _ h; cases h
 | str=>intro _ h; cases h
 | list h1 h2 h3 h4 ih =>
  intro a ha
  rcases List.mem_cons.mp ha with rfl | ha
  ·exact⟨_,_,_,h1,h3,h2.1⟩
  ·exact ih a ha
 | nil=>intro _ h; cases h
 | cons _ _ i1 i2 =>
  intro a ha
  exact(List.mem_append.mp ha).elim (i1 a) (i2 a)
theorem Kp.rd{n:Nat}{h h':Heap}{q:Bool}{vs:List Value}{ds:List PyData}{as:List Addr}(k:Kp n h h')(r:gU h q vs ds as):gU h' q vs ds as :=
 r.map fun a o ha e c=>by
  obtain⟨o',xs,m,e',hd,_⟩:=r.objs a ha
  rw[e]at e'; cases e'
  exact(k.k a o e (.inl (by rw[c]; nofun))).seq hd
theorem gU.lt{h:Heap}{q:Bool}{vs:List Value}{ds:List PyData}{as:List Addr}(r:gU h q vs ds as):∀ a∈as,a<h.objs.size:=by
 induction r with
 | none=>intro _ h; cases h
 | bool=>intro _ h; cases h
 | int=>intro _ h; cases h
 | str=>intro _ h; cases h
 | list h1 h2 h3 h4 ih =>
  intro a ha
  rcases List.mem_cons.mp ha with rfl | ha
  ·exact Heap.lt_size h1
  ·exact ih a ha
 | nil=>intro _ h; cases h
 | cons _ _ i1 i2=>intro a ha; exact(List.mem_append.mp ha).elim (i1 a) (i2 a)
theorem gU.reads'{h:Heap}{q:Bool}{vs:List Value}{ds:List PyData}{as:List Addr}(r:gU h q vs ds as):∃ bs,(q=true→∀ v d,vs=[v]→ds=[d]→Reads h v d bs)∧(q=false→ReadsAll h vs ds bs):=by
 induction r with
 | none=>exact⟨[],fun _ v d e1 e2=>by cases e1; cases e2; exact .none,nofun⟩
 | bool b=>exact⟨[],fun _ v d e1 e2=>by cases e1; cases e2; exact .bool b,nofun⟩
 | int i t=>exact⟨[],fun _ v d e1 e2=>by cases e1; cases e2; exact .int i t,nofun⟩
 | str x t=>exact⟨[],fun _ v d e1 e2=>by cases e1; cases e2; exact .str x t,nofun⟩
 | list h1 h2 h3 h4 ih =>
  obtain⟨bs,_,hb⟩:=ih
  exact⟨_,fun _ v d e1 e2=>by cases e1; cases e2; exact .list h1 h2.1 h3 (hb rfl),nofun⟩
 | nil=>exact⟨[],nofun,fun _=>.nil⟩
 | cons h1 h2 i1 i2 =>
  obtain⟨b1,x1,_⟩:=i1
  obtain⟨b2,_,x2⟩:=i2
  exact⟨b1++b2,nofun,fun _=>.cons (x1 rfl _ _ rfl rfl) (x2 rfl)⟩
theorem Rd.reads{h:Heap}{v:Value}{d:PyData}{as:List Addr}(r:Rd h v d as):∃ bs,Reads h v d bs:=let⟨bs,x,_⟩:=gU.reads' r; ⟨bs,x rfl _ _ rfl rfl⟩
theorem aR.reads{h:Heap}{vs:List Value}{ds:List PyData}{as:List Addr}(r:aR h vs ds as):∃ bs,ReadsAll h vs ds bs:=let⟨bs,_,x⟩:=gU.reads' r; ⟨bs,x rfl⟩
theorem gU.same{h:Heap}{q:Bool}{vs:List Value}{ds:List PyData}{as:List Addr}(r:gU h q vs ds as):∀{ds':List PyData}{as':List Addr},gU h q vs ds' as'→ds=ds'∧as=as':=by
 induction r with
 | none=>intro ds' as' r'; cases r'; exact⟨rfl,rfl⟩
 | bool b=>intro ds' as' r'; cases r'; exact⟨rfl,rfl⟩
 | int i t=>intro ds' as' r'; cases r'; exact⟨rfl,rfl⟩
 | str x t=>intro ds' as' r'; cases r'; exact⟨rfl,rfl⟩
 | list h1 h2 h3 h4 ih =>
  intro ds' as' r'
  cases r' with
  | list g1 g2 g3 g4 =>
   rw[h1]at g1; cases g1
   rw[h3]at g3; cases g3
   obtain⟨e1,e2⟩:=ih g4
   subst e1 e2
   exact⟨rfl,rfl⟩
 | nil=>intro ds' as' r'; cases r'; exact⟨rfl,rfl⟩
 | cons h1 h2 i1 i2 =>
  intro ds' as' r'
  cases r' with
  | cons g1 g2 =>
   obtain⟨e1,e2⟩:=i1 g1
   obtain⟨e3,e4⟩:=i2 g2
   simp only[List.cons.injEq,and_true]at e1
   subst e1 e2 e3 e4
   exact⟨rfl,rfl⟩
theorem gU.inside{h:Heap}{q:Bool}{vs:List Value}{ds:List PyData}{as:List Addr}(r:gU h q vs ds as):∀ a∈as,∃ d' as',Rd h (.ref a) d' as'∧as'.length≤as.length∧∃ r,as'=a::r:=by
 induction r with
 | none=>intro _ h; cases h
 | bool=>intro _ h; cases h
 | int=>intro _ h; cases h
 | str=>intro _ h; cases h
 | list h1 h2 h3 h4 ih =>
  intro a ha
  rcases List.mem_cons.mp ha with rfl | ha
  ·exact⟨_,_,.list h1 h2 h3 h4,Nat.le_refl _,_,rfl⟩
  ·obtain⟨d',as',x,y,z⟩:=ih a ha
   exact⟨d',as',x,Nat.le_succ_of_le y,z⟩
 | nil=>intro _ h; cases h
 | cons _ _ i1 i2 =>
  intro a ha
  rcases List.mem_append.mp ha with ha | ha
  ·obtain⟨d',as',x,y,z⟩:=i1 a ha
   exact⟨d',as',x,by rw[List.length_append]; exact Nat.le_trans y (Nat.le_add_right _ _),z⟩
  ·obtain⟨d',as',x,y,z⟩:=i2 a ha
   exact⟨d',as',x,by rw[List.length_append]; exact Nat.le_trans y (Nat.le_add_left _ _),z⟩
theorem Rd.shape{h:Heap}{v:Value}{d:PyData}{as:List Addr}(r:Rd h v d as):(as=[]∧∀ a,v ≠ .ref a)∨∃ a bs vs ds,v = .ref a∧as=a::bs∧aR h vs ds bs:=by
 cases r with
 | list h1 h2 h3 h4=>exact .inr ⟨_,_,_,_,rfl,rfl,h4⟩
 | _=>exact .inl ⟨rfl,nofun⟩
theorem Rd.apart{h:Heap}{v:Value}{d:PyData}{as:List Addr}{b:Addr}(r:Rd h v d as)(hb:as.head? = some b):b∉as.tail:=by
 rcases r.shape with⟨rfl,_⟩| ⟨a,bs,vs,ds,rfl,rfl,hin⟩
 ·cases hb
 ·simp only[List.head?_cons,Option.some.injEq]at hb
  subst hb
  intro hm
  obtain⟨d',as',r',hlen,r2,rfl⟩:=gU.inside hin a hm
  have:=(gU.same r r').2
  rw[← this]at hlen
  exact Nat.not_succ_le_self _ hlen
theorem DA{h:Heap}{vs:List Value}{ns:List Int}(hi:IntsAre vs ns):aR h vs (ns.map .int) []:=by
 induction hi with
 | nil=>exact .nil
 | cons n t _ ih=>exact gU.cons (as:=[]) (bs:=[]) (.int n t) ih
structure bB(Z:aE)(s:Shared):Prop where
 old:OldK Z.h₀ s.heap
 lim:s.heap.NoLimit
 tab:Z.TabI s.heap
 gens:AllBare s.gens
 os:s.os=Z.os
 frs:∀ L∈Z.fr,Z.n≤L∧∃ o,s.heap.get? L=some o∧∃ es ep,o.data = .dict es ep
theorem OldK.stepOld{h₀ h h':Heap}(K:OldK h₀ h)(hk:∀ b o,b<h₀.objs.size→h.get? b=some o→h'.get? b=some o):OldK h₀ h':=by
 refine⟨fun b o e=>?_,fun b o e=>let⟨o',ho'⟩:=K.there b o e; ⟨o',hk _ _ (Heap.lt_size e) ho'⟩⟩
 have hb:=Heap.lt_size e
 rcases K.old b o e with x | ⟨t,hc,vs,more,hv,x⟩| ⟨rfl,hc,⟨o',es,n,ho',r⟩,z⟩
 ·exact .inl (hk _ _ hb x)
 ·exact .inr (.inl ⟨t,hc,vs,more,hv,hk _ _ hb x⟩)
 ·exact .inr (.inr ⟨rfl,hc,⟨o',es,n,hk _ _ hb ho',r⟩,fun key=>by rw[OldK.staticOf_congr ((hk _ _ hb ho').trans ho'.symm) key]; exact z key⟩)
theorem bB.step{Z:aE}{s:Shared}(I:bB Z s){h':Heap}{tk:Nat}(hk:∀ b o,b<Z.n→s.heap.get? b=some o→h'.get? b=some o)
  (hc:cStatics<Z.n) (hf:∀ L∈Z.fr,∀ o,s.heap.get? L=some o→(∃ es ep,o.data = .dict es ep)→∃ o',h'.get? L=some o'∧∃ es ep,o'.data = .dict es ep):bB Z { s with heap:=h',toks:=tk } where
 old:=OldK.stepOld I.old hk
 lim:=let⟨mc,⟨o,es,ep,e,r⟩,b⟩:=I.lim; ⟨mc,⟨o,es,ep,hk _ _ hc e,r⟩,b⟩
 tab:=Z.tabK _ _ I.tab hk
 gens:=I.gens
 os:=I.os
 frs:=fun L hL=>let⟨h1,o,e,hd⟩:=I.frs L hL; ⟨h1,hf L hL o e hd⟩
theorem aE.low(Z:aE):mainGlobals<Z.n:=Z.hg.lt
theorem aE.lowC(Z:aE):cStatics<Z.n:=Nat.lt_trans (by decide) Z.low
theorem bB.full{Z:aE}{s:Shared}(I:bB Z s){h':Heap}{tk:Nat}(hk:∀ b o,s.heap.get? b=some o→h'.get? b=some o):bB Z { s with heap:=h',toks:=tk } :=
 I.step (fun b o _ e=>hk b o e) Z.lowC fun L _ o e hd=>⟨o,hk L o e,hd⟩
theorem bB.tok{Z:aE}{s:Shared}(I:bB Z s)(tk:Nat):bB Z { s with toks:=tk }:=⟨I.old,I.lim,I.tab,I.gens,I.os,I.frs⟩
theorem bB.push{Z:aE}{s:Shared}(I:bB Z s)(o:Obj)(tk:Nat):bB Z { s with heap:=s.heap.push o,toks:=tk } :=
 I.full fun _ _ e=>Heap.get?_push_of_some _ e
theorem bB.same{Z:aE}{s:Shared}(I:bB Z s){a:Addr}{h':Heap}(ha:Z.n≤a)(hs:Heap.SameBut a s.heap h')(hfa:a∈Z.fr→∃ o',h'.get? a=some o'∧∃ es ep,o'.data = .dict es ep)(tk:Nat):bB Z { s with heap:=h',toks:=tk } :=
 I.step (fun b o hb e=>(hs.2 b (by rintro rfl; exact Nat.lt_irrefl _ (Nat.lt_of_lt_of_le hb ha))).trans e) Z.lowC fun L hL o e hd=>by
  by_cases e':L=a
  ·subst e'; exact hfa hL
  ·exact⟨o,(hs.2 L e').trans e,hd⟩
theorem bB.notFr{Z:aE}{s:Shared}(I:bB Z s){a:Addr}(ha:s.heap.get? a=none):a∉Z.fr:=fun h=>by obtain⟨_,o,e,_⟩:=I.frs a h; rw[ha]at e; cases e
theorem bB.frNot{Z:aE}{s:Shared}(I:bB Z s){a:Addr}{o:Obj}(ha:s.heap.get? a=some o)(hd:∀ es ep,o.data ≠ .dict es ep):a∉Z.fr:=fun h=>by obtain⟨_,o',e,es,ep,hd'⟩:=I.frs a h; rw[ha]at e; cases e; exact hd es ep hd'
theorem bB.frLt{Z:aE}{s:Shared}(I:bB Z s){a:Addr}(ha:s.heap.objs.size≤a):a∉Z.fr:=fun h=>by obtain⟨_,o,e,_⟩:=I.frs a h; exact absurd (Heap.lt_size e) (Nat.not_lt.mpr ha)
theorem FA{h₀ h:Heap}(K:OldK h₀ h){a:Addr}{m:Str→Option Value}(x:h₀.Ns a m)(ha:a≠cStatics):h.Ns a m:=by
 obtain⟨o,es,ep,e,hd,r⟩:=x
 rcases K.old a o e with h1 | ⟨_,_,vs,more,hv,_⟩| ⟨h1,_⟩
 ·exact⟨o,es,ep,h1,hd,r⟩
 ·rw[hd]at hv; cases hv
 ·exact absurd h1 ha
theorem bB.glob{Z:aE}{s:Shared}(I:bB Z s):s.heap.Ns mainGlobals Z.mg:=FA I.old Z.hg (by decide)
theorem bB.bltn{Z:aE}{s:Shared}(I:bB Z s):s.heap.Ns builtinsNs Z.mb:=FA I.old Z.hb (by decide)
def W6(env:Env)(n:Str):Prop:=env.kindOf n=some .local∨env.kindOf n=some .cell∨env.kindOf n=some .free
def uX(env:Env)(h:Heap)(n:Str)(v:Value):Prop :=
 (env.kindOf n=some .local∧∃ m,h.Ns env.locals m∧m n=some v) ∨
 ((env.kindOf n=some .cell∨env.kindOf n=some .free)∧∃ c,env.cells.lookup n=some c∧h.IsCell c (some v))
structure aH(Z:aE)(nm:List Str)(env:Env)(ρ:aL)(O:List (Option Nat×Addr))(h:Heap):Prop where
 kind:env.scope.kind = .function
 glob:env.globals=mainGlobals
 blt:env.builtins=builtinsNs
 new:Z.n≤env.locals
 ns:∃ m,h.Ns env.locals m
 live:∀ yb∈O,∃ o,h.get? yb.2=some o∧o.cls ≠ .none
 apart:∀ yb∈O,yb.2≠env.locals∧∀ n c,(env.kindOf n=some .cell∨env.kindOf n=some .free)→env.cells.lookup n=some c→yb.2≠c
 cells:∀ n,(env.kindOf n=some .cell∨env.kindOf n=some .free)→∃ c v,env.cells.lookup n=some c∧Z.n≤c∧h.IsCell c v
 inj:∀ n m c,(env.kindOf n=some .cell∨env.kindOf n=some .free)→(env.kindOf m=some .cell∨env.kindOf m=some .free)→env.cells.lookup n=some c→env.cells.lookup m=some c→n=m
 vars:∀ x d n,bC ρ x=some d→nm[x]? = some n→W6 env n→∃ v as,uX env h n v∧Rd h v d as∧bL d=true∧∀ yb∈O,yb.2∈as→yb.1=some x∧as.head? = some yb.2
theorem uX.kp{n:Nat}{env:Env}{h h':Heap}{x:Str}{v:Value}(k:Kp n h h')(hl:n≤env.locals)(hc:∀ c,env.cells.lookup x=some c→(env.kindOf x=some .cell∨env.kindOf x=some .free)→n≤c)(a:uX env h x v):uX env h' x v:=by
 rcases a with⟨hk,m,hn,hv⟩| ⟨hk,c,hcl,hcell⟩
 ·exact .inl ⟨hk,m,k.ns hl hn,hv⟩
 ·exact .inr ⟨hk,c,hcl,k.cell (hc c hcl hk) hcell⟩
theorem aH.kp{Z:aE}{nm:List Str}{env:Env}{ρ:aL}{O:List (Option Nat×Addr)}{h h':Heap}(x:aH Z nm env ρ O h)(k:Kp Z.n h h'):aH Z nm env ρ O h' where
 kind:=x.kind
 glob:=x.glob
 blt:=x.blt
 new:=x.new
 ns:=let⟨m,hm⟩:=x.ns; ⟨m,k.ns x.new hm⟩
 live:=fun yb hy=>let⟨_,e,c⟩:=x.live yb hy; let⟨o',e',hc,_⟩:=(k.k _ _ e (.inl c)).ex; ⟨o',e',hc▸c⟩
 apart:=x.apart
 cells:=fun n hn=>let⟨c,v,h1,h2,h3⟩:=x.cells n hn; ⟨c,v,h1,h2,k.cell h2 h3⟩
 inj:=x.inj
 vars:=fun y d n h1 h2 h3=>by
  obtain⟨v,as,a,r,hd,ho⟩:=x.vars y d n h1 h2 h3
  exact⟨v,as,a.kp k x.new (fun c hc hk=>by obtain⟨c',_,e,hn,_⟩:=x.cells n hk; rw[hc]at e; cases e; exact hn),k.rd r,hd,ho⟩
theorem aH.lt{Z:aE}{nm:List Str}{env:Env}{ρ:aL}{O:List (Option Nat×Addr)}{h:Heap}(x:aH Z nm env ρ O h):∀ yb∈O,yb.2<h.objs.size :=
 fun yb hy=>let⟨_,e,_⟩:=x.live yb hy; Heap.lt_size e
theorem aH.size{Z:aE}{nm:List Str}{env:Env}{ρ:aL}{O:List (Option Nat×Addr)}{h:Heap}(x:aH Z nm env ρ O h):Z.n≤h.objs.size :=
 let⟨_,hm⟩:=x.ns; Nat.le_trans x.new (Nat.le_of_lt hm.lt)
structure fJ(Z:aE)(lvl:Nat)(A:Around):Prop where
 handled:A.handled=none
 depth:A.depth+lvl+20<recursionLimit
 units:A.units+3*lvl+200<cLine
 frames:∃ fs,A.frames=some fs∧∀ env∈fs,env.scope.kind ≠ .module∧∃ L,env.frame=some L∧L∈Z.fr
theorem fJ.mono{Z:aE}{l k:Nat}{A:Around}(h:fJ Z l A)(hk:k≤l):fJ Z k A:=⟨h.handled,Nat.lt_of_le_of_lt (Nat.add_le_add_right (Nat.add_le_add_left hk _) 20) h.depth,Nat.lt_of_le_of_lt (Nat.add_le_add_right (Nat.add_le_add_left (Nat.mul_le_mul_left 3 hk) _) 200) h.units,h.frames⟩
theorem fJ.in_{Z:aE}{k:Nat}{A:Around}(h:fJ Z (k+1) A):fJ Z k A.in1:=⟨h.handled,Nat.lt_of_succ_lt h.depth,Nat.lt_of_le_of_lt (Nat.add_le_add_right (Nat.le_trans (Nat.le_of_eq (Nat.add_right_comm A.units 1 (3*k))) (Nat.le_add_right _ 2)) 200) h.units,h.frames⟩
theorem fJ.dp{Z:aE}{k:Nat}{A:Around}(h:fJ Z (k+1) A):A.depth+1+k+20<recursionLimit∧A.units+3+3*k+200<cLine∧A.depth<recursionLimit :=
 ⟨Nat.lt_of_le_of_lt (Nat.le_of_eq (congrArg (· + 20) (Nat.add_right_comm A.depth 1 k))) h.depth,Nat.lt_of_le_of_lt (Nat.le_of_eq (congrArg (· + 200) (Nat.add_right_comm A.units 3 (3*k)))) h.units,Nat.lt_of_le_of_lt (Nat.le_trans (Nat.le_add_right _ _) (Nat.le_add_right _ _)) h.depth⟩
def u5(sc:Scope)(env:Env):Prop :=
 (∀ n,sc.names.lookup n=some .local→env.kindOf n=some .local) ∧
 (∀ n,(sc.names.lookup n=some .cell∨sc.names.lookup n=some .free)→(env.kindOf n=some .cell∨env.kindOf n=some .free)) ∧
 (∀ n,sc.names.lookup n=some .globalImplicit→env.kindOf n=some .globalImplicit)
def pW(Z:aE)(s:Shared)(O:List (Option Nat×Addr))(es:List Nat)(d:PyData)(Q:Value→Shared→Prop):Prop :=
 ∀ v as s',bB Z s'→Kp Z.n s.heap s'.heap→Rd s'.heap v d as→bL d=true→(∀ yb∈O,yb.2∈as→iP yb.1 es)→Q v s'
structure Cx(Z:aE)(lvl:Nat)(nm:List Str)(sc:Scope)(A:Around)(env:Env)(ρ:aL)(O:List (Option Nat×Addr))(s:Shared):Prop where
 ha:fJ Z lvl A
 hs:u5 sc env
 he:aH Z nm env ρ O s.heap
 hi:bB Z s
theorem Cx.kp{Z:aE}{lvl:Nat}{nm:List Str}{sc:Scope}{A:Around}{env:Env}{ρ:aL}{O:List (Option Nat×Addr)}{s s':Shared}(X:Cx Z lvl nm sc A env ρ O s)(k:Kp Z.n s.heap s'.heap)(I:bB Z s'):Cx Z lvl nm sc A env ρ O s':=⟨X.ha,X.hs,X.he.kp k,I⟩
section
variable(Z:aE)(cl:Nat→List PyData→Option PyData)(lvl:Nat)(nm:List Str)
def ST(sc:Scope)(e:Expr)(p:PE):Prop :=
 ∀{A:Around}{env:Env}{ρ:aL}{O:List (Option Nat×Addr)}{s:Shared}{d:PyData}{b:Bool}{Q:Bool→Shared→Prop}{E:Value→Shared→Prop},
  Cx Z lvl nm sc A env ρ O s→aD cl p ρ=some d→bT d=some b→(∀ s',bB Z s'→Kp Z.n s.heap s'.heap→Q b s')→wpAny (model Z.prog Z.w) A (isTrue e env (eval e env)) Q E s
def SE(sc:Scope)(e:Expr)(p:PE):Prop :=
 ∀{A:Around}{env:Env}{ρ:aL}{O:List (Option Nat×Addr)}{s:Shared}{d:PyData}{Q:Value→Shared→Prop}{E:Value→Shared→Prop},
  Cx Z lvl nm sc A env ρ O s→aD cl p ρ=some d→pW Z s O (kB p) d Q→wpAny (model Z.prog Z.w) A (eval e env) Q E s
end
section
variable{Z:aE}{A:Around}{E:Value→Shared→Prop}{s:Shared}{O:List (Option Nat×Addr)}{es:List Nat}{Q:Value→Shared→Prop}{lvl:Nat}
theorem eV{i:Int}(I:bB Z s)(g:pW Z s O es (.int i) Q)(t tk:Nat):Q (.int i t) { s with toks:=tk } :=
 g _ [] _ (I.tok tk) (Kp.refl _ _) (.int i t) (by simp[bL]) (fun _ _ h=>nomatch h)
theorem eL{b:Bool}(I:bB Z s)(g:pW Z s O es (.bool b) Q):Q (.bool b) s :=
 g _ [] _ I (Kp.refl _ _) (.bool b) (by simp[bL]) (fun _ _ h=>nomatch h)
theorem M4(I:bB Z s)(g:pW Z s O es .none Q):Q .none s :=
 g _ [] _ I (Kp.refl _ _) .none (by simp[bL]) (fun _ _ h=>nomatch h)
theorem lM{x:Str}(I:bB Z s)(g:pW Z s O es (.str x) Q)(hx:bL (.str x)=true)(t tk:Nat):Q (.str x t) { s with toks:=tk } :=
 g _ [] _ (I.tok tk) (Kp.refl _ _) (.str x t) hx (fun _ _ h=>nomatch h)
theorem tU{x:Str}(I:bB Z s)(g:pW Z s O es (.str x) Q)(hx:bL (.str x)=true)(t:Nat):Q (.str x t) s :=
 g _ [] _ I (Kp.refl _ _) (.str x t) hx (fun _ _ h=>nomatch h)
theorem tV{ds:List PyData}{vs:List Value}{as:List Addr}(I:bB Z s)(g:pW Z s O es (.list ds) Q)(r:aR s.heap vs ds as)(hd:bL (.list ds)=true)
  (ho:∀ yb∈O,yb.2∈as→iP yb.1 es) (hO:∀ yb∈O,yb.2<s.heap.objs.size) (tk n:Nat) :
  Q (.ref s.heap.objs.size) { s with heap:=s.heap.push { cls:=.type "list",data:=.seq vs.toArray n },toks:=tk }:=by
 refine g _ (s.heap.objs.size::as) _ (I.push _ tk) (Kp.push _ _ _) (.list (Heap.get?_push_size _ rfl) ⟨rfl,rfl⟩ rfl ?_) hd ?_
 ·exact(Kp.push Z.n s.heap _).rd (by simpa using r)
 ·intro yb hy hm
  rcases List.mem_cons.mp hm with e | hm
  ·have:=hO yb hy; rw[e]at this; exact absurd this (Nat.lt_irrefl _)
  ·exact ho yb hy hm
theorem jU{h:Heap}{vs ws:List Value}{ds es:List PyData}{as bs:List Addr}(r:aR h vs ds as)(y:aR h ws es bs):aR h (vs++ws) (ds++es) (as++bs) :=
 aR.ind (P:=fun vs ds as=>aR h (vs++ws) (ds++es) (as++bs)) y (fun r1 _ i=>by rw[List.append_assoc]; exact gU.cons r1 i) r
theorem aS{h:Heap}{vs:List Value}{ds:List PyData}{as:List Addr}(r:aR h vs ds as):vs.length=ds.length:=aR.ind (P:=fun vs ds _=>vs.length=ds.length) rfl (fun _ _ i=>congrArg (· + 1) i) r
theorem eQ{h:Heap}{vs:List Value}{ds:List PyData}{as:List Addr}{k:Nat}{d:PyData}(r:aR h vs ds as)(e:ds[k]? = some d):∃ v bs,vs[k]? = some v∧Rd h v d bs∧∀ a∈bs,a∈as :=
 aR.ind (P:=fun vs ds as=>∀ k,ds[k]? = some d→∃ v bs,vs[k]? = some v∧Rd h v d bs∧∀ a∈bs,a∈as) (fun _ e=>nomatch List.getElem?_nil.symm.trans e) (fun r1 _ i k e=>by
  cases k with
  | zero=>cases Option.some.inj e; exact⟨_,_,rfl,r1,fun a ha=>List.mem_append_left _ ha⟩
  | succ k =>
   obtain⟨v,bs,e1,r,hm⟩:=i k e
   exact⟨v,bs,e1,r,fun a ha=>List.mem_append_right _ (hm a ha)⟩) r k e
theorem v8{h:Heap}:∀{vs:List Value}{ds:List PyData}{as:List Addr},aR h vs ds as→∀(f:List Nat),(∀ k∈f,k<ds.length) →
  ∃ bs,aR h (f.filterMap (vs[·]?)) (f.filterMap (ds[·]?)) bs∧∀ a∈bs,a∈as
 | _,_,_,_,[],_=>⟨[],.nil,fun _ h=>nomatch h⟩
 | vs,ds,as,r,k::f,hf=>by
  obtain⟨bs,rb,hb⟩:=v8 r f fun j hj=>hf j (List.mem_cons_of_mem _ hj)
  have hk:=hf k List.mem_cons_self
  obtain⟨v,cs,e1,rc,hc⟩:=eQ (k:=k) (d:=ds[k]) r (by simp[hk])
  refine⟨cs++bs,?_,fun a ha=>(List.mem_append.mp ha).elim (hc a) (hb a)⟩
  have e2:ds[k]? = some ds[k]:=by simp[hk]
  rw[List.filterMap_cons,List.filterMap_cons,e1,e2]
  exact .cons rc rb
theorem cC{h:Heap}{v:Value}{xs:List PyData}{as:List Addr}(r:Rd h v (.list xs) as) :
  ∃ a vs bs,v = .ref a∧h.IsList a vs∧aR h vs.toList xs bs∧as=a::bs:=by
 cases r with
 | list h1 h2 h3 h4=>exact⟨_,_,_,rfl,⟨_,h1,h2.1,_,h3⟩,h4,rfl⟩
theorem eE{h:Heap}{v:Value}{xs:List PyData}{as:List Addr}(r:Rd h v (.list xs) as) :
  ∃ a vs n sl bs,v = .ref a∧h.get? a=some { cls:=.type "list",dict:=none,data:=.seq vs n,slots:=sl }∧aR h vs.toList xs bs∧as=a::bs:=by
 cases r with
 | list h1 h2 h3 h4 =>
  rename_i a o vs n bs
  obtain⟨cls,dd,data,sl⟩:=o
  simp only at h2 h3
  obtain⟨h2,h2'⟩:=h2
  subst h2 h2' h3
  exact⟨_,_,_,_,_,rfl,h1,h4,rfl⟩
section
variable{h:Heap}{v:Value}{x:PyData}{as:List Addr}{α:Type}{d:α}{m:Value→Prop}
theorem NV{i:Int}{as:List Addr}(r:Rd h v (.int i) as)(k:∀ t,m (.int i t)):m v:=by cases r; exact k _
theorem W7{i:Str}{as:List Addr}(r:Rd h v (.str i) as)(k:∀ t,m (.str i t)):m v:=by cases r; exact k _
theorem Cg{i:Bool}{as:List Addr}(r:Rd h v (.bool i) as)(k:m (.bool i)):m v:=by cases r; exact k
theorem nD{f:Int→Option α}(r:Rd h v x as)(e:mJ x f=some d)(k:∀ i t,f i=some d→m (.int i t)):m v:=by
 cases x with
 | int i=>exact NV r fun t=>k i t e
 | _=>cases e
theorem YX{f:Str→Option α}(r:Rd h v x as)(e:qZ x f=some d)(k:∀ i t,x = .str i→f i=some d→m (.str i t)):m v:=by
 cases x with
 | str i=>exact W7 r fun t=>k i t rfl e
 | _=>cases e
theorem U4{f:Bool→Option α}(r:Rd h v x as)(e:SZ x f=some d)(k:∀ i,f i=some d→m (.bool i)):m v:=by
 cases x with
 | bool i=>exact Cg r (k i e)
 | _=>cases e
theorem iC{G:Prop}{f:List PyData→Option α}(e:iS x f=some d)(k:∀ xs,x = .list xs→f xs=some d→G):G:=by
 cases x with
 | list i=>exact k i rfl e
 | _=>cases e
theorem j5{G:Prop}{f:Str→Option α}(e:qZ x f=some d)(k:∀ i,x = .str i→f i=some d→G):G:=by
 cases x with
 | str i=>exact k i rfl e
 | _=>cases e
theorem fF{i:Str}(r:Rd h v (.str i) as):∃ t,v = .str i t:=W7 (m:=fun v=>∃ t,v = .str i t) r fun t=>⟨t,rfl⟩
theorem yD{i:Bool}(r:Rd h v (.bool i) as):v = .bool i:=Cg (m:=fun v=>v = .bool i) r rfl
theorem EE{G:Prop}{f:Int→Option α}(e:mJ x f=some d)(k:∀ i,x = .int i→f i=some d→G):G:=by
 cases x with
 | int i=>exact k i rfl e
 | _=>cases e
theorem DX{G:Prop}{c:Bool}{a:α}(e:(if c=true then some a else none)=some d)(k:c=true→a=d→G):G:=by
 cases c with
 | true=>exact k rfl (Option.some.inj e)
 | false=>cases e
theorem Br{G:Prop}{c:Bool}{a:Option α}(e:(if c=true then a else none)=some d)(k:c=true→a=some d→G):G:=by
 cases c with
 | true=>exact k rfl e
 | false=>cases e
theorem iO{G c:Prop} [Decidable c] {a:Option α} (e:(if c then a else none)=some d) (k:c→a=some d→G):G:=by
 by_cases hc:c
 ·rw[if_pos hc]at e; exact k hc e
 ·rw[if_neg hc]at e; cases e
end
theorem OG{n:Nat}(h:n≤2 ^ 24):(n:Int)<2 ^ 63:=Int.lt_of_le_of_lt (Int.ofNat_le.mpr h) (by decide)
theorem JB{n:Nat}(h:n≤2 ^ 24):¬(n:Int)≥2 ^ 63:=Int.not_le.mpr (OG h)
theorem wJ{i:Int}{n:Nat}(h:0≤i+n):-(n:Int)≤i:=Int.le_of_sub_nonneg (Int.le_trans h (Int.le_of_eq (Int.sub_neg _ _).symm))
theorem SH{n m:Nat}(e:n=m)(h:m≤1001):(n:Int)<2 ^ 63:=OG (Nat.le_trans (Nat.le_of_eq e) (Nat.le_trans h (by decide)))
theorem y1{x:Str}(h:bL (.str x)=true):PyData.strOk x=true∧x.length≤sizeLine:=⟨(aA h).1,of_decide_eq_true (aA h).2⟩
theorem rZ{xs:List PyData}(h:bL (.list xs)=true):xs.length≤sizeLine∧cM xs=true:=⟨of_decide_eq_true (aA h).1,(aA h).2⟩
theorem y5{xs:List PyData}(h:xs.length≤sizeLine)(h':cM xs=true):bL (.list xs)=true:=by rw[bL,decide_eq_true h,h']; rfl
theorem y4{x:Str}(h:PyData.strOk x=true)(h':x.length≤sizeLine):bL (.str x)=true:=by rw[bL,decide_eq_true h',h]; rfl
theorem gQ{a:Int}(h:u3 a=true):Builtin.Int.intBits a≤1024:=PyProof.Rows.intBits_le (of_decide_eq_true h)
theorem yX{a b:Int}(ha:u3 a=true)(hb:u3 b=true):IntMulOk a b:=by
 exact fun h=>absurd (of_decide_eq_true (aA h).2) (Int.not_lt.mpr (Int.le_trans (Int.add_le_add (Int.ofNat_le.mpr (gQ ha)) (Int.ofNat_le.mpr (gQ hb))) (by decide)))
theorem rB{a b:Int}(hb:u3 b=true):Builtin.divisionGoesByPylong a b=false:=by
 refine PyProof.noPylong_of_log2 ?_
 have h:b.natAbs<2 ^ 1024:=of_decide_eq_true hb
 by_cases h0:b.natAbs=0
 ·rw[h0]; decide
 ·exact Nat.lt_trans ((Nat.log2_lt h0).mpr h) (by decide)
theorem cH{x y:Str}(hx:bL (.str x)=true)(hy:bL (.str y)=true)(hs:(x++y).length≤sizeLine):bL (.str (x++y))=true:=by
 refine y4 ?_ hs
 unfold PyData.strOk
 rw[Str.cps_append,Array.all_append]
 exact Bool.and_eq_true_iff.mpr ⟨(y1 hx).1,(y1 hy).1⟩
theorem tM{u:Str}(e:u.length=0):u=Str.empty:=by obtain⟨c⟩:=u; exact congrArg Str.mk (Array.eq_empty_of_size_eq_zero e)
theorem qR{u v:Str}(e:v.length=0):u++v=u:=by rw[tM e]; exact Str.ext' (by rw[Str.cps_append]; exact Array.append_empty)
theorem RG{op:Operator}{i j:Int}{t u:Tok}{d:PyData}(I:bB Z s)(h:XZ op i j=some d)(g:pW Z s O es d Q):wpAny (model Z.prog Z.w) A (binaryOp op (.int i t) (.int j u)) Q E s:=by
 cases op with
 | Add=>cases h; exact P.add_int (eV I g _ _)
 | Sub=>cases h; exact P.sub_int (eV I g _ _)
 | Mult=>exact DX h fun hf e=>by subst e; exact P.mul_int (eV I g _ _) (yX (aA hf).1 (aA hf).2)
 | FloorDiv=>exact DX h fun hf e=>by subst e; exact floordiv_int (Int.ne_of_gt (of_decide_eq_true (aA hf).1)) (eV I g _ _) (.inl (rB (aA hf).2))
 | Mod=>exact iO h fun hf e=>by cases e; exact mod_int' (Int.ne_of_gt hf) (eV I g _ _)
 | Pow =>
  exact DX h fun hf e=>by
   subst e
   have h0:=of_decide_eq_true (aA (aA hf).1).2
   have h2:=of_decide_eq_true (aA hf).2
   refine pow_int h0 ?_ (eV I g _ _)
   exact Int.le_trans (Int.mul_le_mul (Int.ofNat_le.mpr (gQ (aA (aA hf).1).1)) h2 h0 (by decide)) (by decide)
 | _=>cases h
theorem NQ{u v:Str}{t t':Tok}{d:PyData}(I:bB Z s)(hx:bL (.str u)=true)(hy:bL (.str v)=true)(h:Ah (u++v)=some d)(g:pW Z s O es d Q):wpAny (model Z.prog Z.w) A (binaryOp .Add (.str u t) (.str v t')) Q E s:=by
 refine iO h fun hs e=>?_
 cases e
 have hok:=cH hx hy hs
 refine P.add_str ?_
 by_cases e1:(u.length==0)=true
 ·rw[if_pos e1]
  have e2:u++v=v:=by rw[tM (eq_of_beq e1)]; exact Str.empty_append v
  rw[e2]at g hok
  exact tU I g hok _
 ·rw[if_neg e1]
  by_cases e3:(v.length==0)=true
  ·rw[if_pos e3]
   rw[qR (eq_of_beq e3)]at g hok
   exact tU I g hok _
  ·rw[if_neg e3]
   exact⟨hs,lM I g hok _ _⟩
theorem H7{a b:Value}{xs ys:List PyData}{as bs:List Addr}{d:PyData}(I:bB Z s)(ra:Rd s.heap a (.list xs) as)(rb:Rd s.heap b (.list ys) bs)(hx:bL (.list xs)=true)(hy:bL (.list ys)=true)(h:NX (xs++ys)=some d)
  (g:pW Z s O es d Q) (hoa:∀ yb∈O,yb.2∈as→iP yb.1 es) (hob:∀ yb∈O,yb.2∈bs→iP yb.1 es) (hO:∀ yb∈O,yb.2<s.heap.objs.size):wpAny (model Z.prog Z.w) A (binaryOp .Add a b) Q E s:=by
 obtain⟨la,vs,n,sl,as',rfl,ho,rvs,rfl⟩:=eE ra
 obtain⟨lb,ws,n2,sl2,bs',rfl,ho2,rws,rfl⟩:=eE rb
 refine iO h fun hs e=>?_
 cases e
 have hsz:vs.size+ws.size≤sizeLine:=by
  have e1:=aS rvs
  have e2:=aS rws
  rw[Array.length_toList]at e1 e2
  rwa[e1,e2,← List.length_append]
 refine concat_meets ⟨_,ho,rfl⟩ ⟨_,ho2,rfl⟩ noFill_list_add seq_list_add PySem.F.slot_list_add PySem.F.entry_list_add (PySem.F.args_list_add_2 _ _) (list_addW la lb vs ws n n2 none none sl sl2 hsz) ⟨ho,ho2,?_⟩
 have e:vs++ws=(vs.toList++ws.toList).toArray:=by rw[← Array.toList_append]
 rw[e]
 exact tV I g (jU rvs rws) (y5 hs (kW.mpr ⟨(rZ hx).2,(rZ hy).2⟩)) (fun yb hy hm=>(List.mem_append.mp hm).elim (fun m=>hoa yb hy (List.mem_cons_of_mem _ m)) fun m=>hob yb hy (List.mem_cons_of_mem _ m)) hO _ _
theorem vZ{op:Operator}{a b:Value}{x y d:PyData}{as bs:List Addr}(I:bB Z s)(ra:Rd s.heap a x as)(rb:Rd s.heap b y bs)(hx:bL x=true)(hy:bL y=true)
  (h:sC op x y=some d) (g:pW Z s O es d Q) (hoa:∀ yb∈O,yb.2∈as→iP yb.1 es) (hob:∀ yb∈O,yb.2∈bs→iP yb.1 es) (hO:∀ yb∈O,yb.2<s.heap.objs.size) :
  wpAny (model Z.prog Z.w) A (binaryOp op a b) Q E s:=by
 cases x with
 | int i=>exact NV (m:=fun a=>wpAny _ A (binaryOp op a b) Q E s) ra fun t=>nD (m:=fun b=>wpAny _ A (binaryOp op _ b) Q E s) rb h fun j u h=>RG I h g
 | str u =>
  exact W7 (m:=fun a=>wpAny _ A (binaryOp op a b) Q E s) ra fun t=>YX (m:=fun b=>wpAny _ A (binaryOp op _ b) Q E s) rb h fun v t' e h=>iO h fun ho h=>by
   cases eq_of_beq ho
   exact NQ I hx (e▸hy) h g
 | list xs =>
  exact iC h fun ys e h=>iO h fun ho h=>by
   cases eq_of_beq ho
   subst e
   exact H7 I ra rb hx hy h g hoa hob hO
 | _=>cases h
theorem fJ.u{A:Around}(hA:fJ Z lvl A){q:Nat}(h:q≤64):A.units+1+q<cLine :=
 Nat.lt_of_le_of_lt (Nat.add_assoc A.units 1 q▸Nat.add_assoc A.units (3*lvl) 200▸Nat.add_le_add_left (Nat.le_trans (Nat.add_le_add_left h 1) (Nat.le_trans (by decide) (Nat.le_add_left 200 _))) _) hA.units
theorem fJ.u'{A:Around}(hA:fJ Z lvl A){q:Nat}(h:q≤64):A.units+q<cLine:=Nat.lt_of_le_of_lt (Nat.add_le_add_right (Nat.le_succ _) q) (hA.u h)
theorem F2{xs:List PyData}(h:bL (.list xs)=true):PyData.canLayAll0 xs=true:=cF (rZ h).2
theorem zQ{a b:Value}{x y:PyData}{q:Bool}{as bs:List Addr}(hA:fJ Z lvl A)(I:bB Z s)(ra:Rd s.heap a x as)(rb:Rd s.heap b y bs)(hx:bL x=true)(hy:bL y=true)
  (h:Ax x y=some q):(Q (.bool q) s→wpAny (model Z.prog Z.w) A (compareOp .In a b) Q E s)∧(Q (.bool !q) s→wpAny (model Z.prog Z.w) A (compareOp .NotIn a b) Q E s):=by
 cases y with
 | list ys =>
  exact DX h fun he e=>by
   subst e
   obtain⟨as',ra'⟩:=ra.reads
   obtain⟨bs',rb'⟩:=rb.reads
   have hm:=hA.u (Nat.le_trans (Nat.le_min.mpr ⟨Nat.min_le_right _ _,Nat.le_succ_of_le (Nat.min_le_left _ _)⟩) (of_decide_eq_true he:min x.depth (PyData.depthAll ys+1)≤64))
   exact⟨SeqAt.in_list_reads rb' ra' (F2 hy) (bS hx) hm,SeqAt.notIn_list_reads rb' ra' (F2 hy) (bS hx) hm⟩
 | str v =>
  obtain⟨t,rfl⟩:=fF rb
  exact j5 h fun u e h=>by
   subst e
   obtain⟨t',rfl⟩:=fF ra
   have h:Txt.contains v u=q:=Option.some.inj h
   subst h
   exact⟨fun h=>P.in_str h,fun h=>P.notIn_str h⟩
 | _=>cases h
theorem tN{a b:Value}{x y:PyData}{q:Bool}{as bs:List Addr}(ra:Rd s.heap a x as)(rb:Rd s.heap b y bs)
  (h:Ai x y=some q):(Q (.bool q) s→wpAny (model Z.prog Z.w) A (compareOp .Is a b) Q E s)∧(Q (.bool !q) s→wpAny (model Z.prog Z.w) A (compareOp .IsNot a b) Q E s):=by
 cases y with
 | none =>
  cases h
  have e:(a==Value.none)=FR x:=by cases ra <;> rfl
  cases rb
  exact⟨fun h=>is_none_gen (by rw[e]; exact h),fun h=>isnot_none_gen (by rw[e]; exact h)⟩
 | bool c =>
  cases yD rb
  exact U4 (m:=fun a=>(Q (.bool q) s→wpAny (model Z.prog Z.w) A (compareOp .Is a _) Q E s)∧(Q (.bool !q) s→wpAny (model Z.prog Z.w) A (compareOp .IsNot a _) Q E s)) ra h fun i h=>by
   cases h
   exact⟨is_bool,isnot_bool⟩
 | _=>cases h
theorem pL{op:CmpOp}{a b:Value}{x y d:PyData}{as bs:List Addr}(hA:fJ Z lvl A)(I:bB Z s)(ra:Rd s.heap a x as)(rb:Rd s.heap b y bs)(hx:bL x=true)(hy:bL y=true)
  (h:u4 op x y=some d) (g:pW Z s O es d Q):wpAny (model Z.prog Z.w) A (compareOp op a b) Q E s:=by
 have onI:∀{op:CmpOp},(∀ i j t u q,T0 op i j=some q→Q (.bool q) s→wpAny (model Z.prog Z.w) A (compareOp op (.int i t) (.int j u)) Q E s)→(mJ x fun a=>mJ y fun b=>(T0 op a b).map PyData.bool)=some d→wpAny (model Z.prog Z.w) A (compareOp op a b) Q E s:=fun{op}k h =>
  nD (m:=fun a=>wpAny _ A (compareOp op a b) Q E s) ra h fun i t h=>nD (m:=fun b=>wpAny _ A (compareOp op _ b) Q E s) rb h fun j u h=>b7 h fun q hq e=>by subst e; exact k i j t u q hq (eL I g)
 cases op with
 | Eq =>
  exact DX h fun he e=>by
   subst e
   obtain⟨as',ra'⟩:=ra.reads
   obtain⟨bs',rb'⟩:=rb.reads
   exact SeqAt.compareEq_reads ra' rb' (bS hx) (bS hy) (hA.u' (of_decide_eq_true he)) (eL I g)
 | NotEq =>
  exact DX h fun he e=>by
   subst e
   obtain⟨as',ra'⟩:=ra.reads
   obtain⟨bs',rb'⟩:=rb.reads
   exact SeqAt.compareNe_reads ra' rb' (bS hx) (bS hy) (hA.u' (of_decide_eq_true he)) (eL I g)
 | In=>exact b7 h fun q hq e=>(zQ hA I ra rb hx hy hq).1 (eL I (e▸g))
 | NotIn=>exact b7 h fun q hq e=>(zQ hA I ra rb hx hy hq).2 (eL I (e▸g))
 | Is=>exact b7 h fun q hq e=>(tN ra rb hq).1 (eL I (e▸g))
 | IsNot=>exact b7 h fun q hq e=>(tN ra rb hq).2 (eL I (e▸g))
 | Lt=>exact onI (fun i j t u q e hq=>by cases e; exact P.lt_int hq) h
 | LtE=>exact onI (fun i j t u q e hq=>by cases e; exact P.le_int hq) h
 | Gt=>exact onI (fun i j t u q e hq=>by cases e; exact P.gt_int hq) h
 | GtE=>exact onI (fun i j t u q e hq=>by cases e; exact P.ge_int hq) h
end
theorem DG{α:Type}(l:List α)(a b:Nat)(hb:b≤l.length):((List.range (b - a)).map (a + ·)).filterMap (l[·]?)=(l.take b).drop a:=by
 apply List.ext_getElem?
 intro i
 rw[List.filterMap_map]
 have h:∀(m:Nat),a+m≤l.length→(List.range m).filterMap ((l[·]?)∘(a + ·))=(l.drop a).take m:=by
  intro m
  induction m with
  | zero=>intro _; simp
  | succ m ih =>
   intro hm
   rw[List.range_succ,List.filterMap_append,ih (Nat.le_of_succ_le hm),List.take_add_one]
   congr 1
   simp only[List.filterMap_cons,List.filterMap_nil,Function.comp,List.getElem?_drop]
   simp[show a+m<l.length from hm]
 by_cases hab:a≤b
 ·rw[h (b - a) (Nat.le_trans (Nat.le_of_eq (Nat.add_sub_cancel' hab)) hb),List.drop_take]
 ·rw[Nat.sub_eq_zero_of_le (Nat.le_of_not_le hab)]
  simp only[List.range_zero,List.filterMap_nil,List.getElem?_nil]
  rw[List.drop_eq_nil_of_le (List.length_take▸Nat.le_trans (Nat.min_le_left _ _) (Nat.le_of_not_le hab))]
  rfl
theorem NJ{α:Type}(l:List α)(lo hi:Option Int)(h:(cut l lo hi).length=l.length):cut l lo hi=l :=
 ((List.drop_sublist _ _).trans (List.take_sublist _ _)).eq_of_length h
theorem oP{α:Type}(l:List α):∀ f:List Nat,(∀ k∈f,k<l.length)→(f.filterMap (l[·]?)).length=f.length
 | [],_=>rfl
 | k::f,hf=>by
  have hk:=hf k List.mem_cons_self
  rw[List.filterMap_cons,List.getElem?_eq_getElem hk]
  simp only[List.length_cons]
  rw[oP l f fun j hj=>hf j (List.mem_cons_of_mem _ hj)]
theorem wY(i:Int)(n:Nat):dH i n≤n:=Int.toNat_le.mpr (Int.max_le.mpr ⟨Int.natCast_nonneg n,Int.min_le_right _ _⟩)
theorem t3{k n:Nat}(h:k≤n):dH (k:Int) n=k:=by
 rw[dH,if_neg (Int.not_lt.mpr (Int.natCast_nonneg k)),Int.min_eq_left (Int.ofNat_le.mpr h)]
 exact congrArg Int.toNat (Int.max_eq_right (Int.natCast_nonneg k))
noncomputable def gH(n:Nat)(lo hi:Option Int):List Nat :=
 let a:=match lo with | none=>0 | some i=>dH i n
 let b:=match hi with | none=>n | some i=>dH i n
 (List.range (b - a)).map (a + ·)
theorem CO{α:Type}(l:List α)(lo hi:Option Int):(gH l.length lo hi).filterMap (l[·]?)=cut l lo hi:=by
 unfold gH cut
 refine DG l _ _ ?_
 cases hi with
 | none=>exact Nat.le_refl _
 | some i=>exact wY _ _
theorem wZ(n:Nat)(lo hi:Option Int):sliceRange (sliceBounds lo hi none n).1 (sliceBounds lo hi none n).2.1 (sliceBounds lo hi none n).2.2=gH n lo hi:=by
 have e1:∀ i:Int,max 0 (min (if i<0 then i+n else i) (n:Int))=(dH i n:Nat):=fun i=>(Int.toNat_of_nonneg (Int.le_max_left 0 _)).symm
 unfold gH
 cases lo <;> cases hi <;> simp only[sliceBounds,Option.getD_none,Int.one_pos,gt_iff_lt,if_true,e1]
 ·exact sliceRange_one 0 n
 ·exact sliceRange_one 0 _
 ·exact sliceRange_one _ n
 ·exact sliceRange_one _ _
theorem u7(items:Array Value)(lo hi:Option Int):slicePick items lo hi none=((gH items.size lo hi).filterMap (items[·]?)).toArray:=by
 unfold slicePick
 rw[wZ]
theorem DF(n:Nat)(lo hi:Option Int):Builtin.Str.strSliceIndices lo hi 1 n=gH n lo hi:=by
 rw[← wZ]
 cases lo <;> cases hi <;> rfl
theorem wX{n:Nat}{lo hi:Option Int}{k:Nat}(h:k∈gH n lo hi):k<n:=by
 unfold gH at h
 simp only[List.mem_map,List.mem_range]at h
 obtain⟨j,hj,rfl⟩:=h
 cases hi with
 | none=>exact Nat.add_lt_of_lt_sub' hj
 | some i=>exact Nat.lt_of_lt_of_le (Nat.add_lt_of_lt_sub' hj) (wY i n)
theorem ML{xs:List PyData}(lo hi:Option Int)(h:cM xs=true):cM (cut xs lo hi)=true:=by
 rw[bV]at *
 intro d hd
 exact h d (List.mem_of_mem_take (List.mem_of_mem_drop hd))
theorem mD{α:Type}(l:List α)(lo hi:Option Int):(cut l lo hi).length≤l.length:=((List.drop_sublist _ _).trans (List.take_sublist _ _)).length_le
theorem iX{x:Str}:PyData.strOk x=true↔∀ c∈x.cps.toList,c<0x110000:=by
 unfold PyData.strOk
 rw[← Array.all_toList,List.all_eq_true]
 simp only[decide_eq_true_eq]
section
variable{Z:aE}{A:Around}{E:Value→Shared→Prop}{s:Shared}{O:List (Option Nat×Addr)}{es:List Nat}{Q:Value→Shared→Prop}{lvl:Nat}
theorem eN{v:Value}{d:PyData}{as:List Addr}{b:Bool}{R:Bool→Shared→Prop}(I:bB Z s)(r:Rd s.heap v d as)(hd:bL d=true)(h:bT d=some b)
  (g:∀ s',bB Z s'→Kp Z.n s.heap s'.heap→R b s'):wpAny (model Z.prog Z.w) A (truthy v) R E s:=by
 have g0:=g s I (Kp.refl _ _)
 have g1:∀ tk,R b { s with toks:=tk }:=fun tk=>g _ (I.tok tk) (Kp.refl _ _)
 clear g
 cases d with
 | none=>cases h; cases r; exact fun _ _ _=>g0
 | bool b'=>cases h; cases yD r; exact wpAny_truthy_bool g0
 | int i=>cases h; exact NV (m:=fun v=>wpAny _ A (truthy v) R E s) r fun t=>P.truthy_int g0
 | str x =>
  obtain⟨t,rfl⟩:=fF r
  have hs:x.length≤2 ^ 24:=(y1 hd).2
  have h:(x.length != 0)=b:=Option.some.inj h
  subst h
  have e:(((x.length:Nat):Int) != 0)=(x.length != 0):=by cases x.length <;> rfl
  exact P.truthy_str (JB hs) (e▸g1 _)
 | list xs =>
  obtain⟨a,vs,bs,rfl,hl,h4,rfl⟩:=cC r
  have h:(!xs.isEmpty)=b:=Option.some.inj h
  subst h
  have hs:xs.length≤2 ^ 24:=(rZ hd).1
  have hsz:vs.size=xs.length:=(Array.length_toList).symm.trans (aS h4)
  have e:vs.isEmpty=xs.isEmpty:=by
   unfold Array.isEmpty
   rw[hsz]
   cases xs <;> rfl
  exact wpAny_truthy_list hl (OG (hsz▸hs)) (e▸g1 _)
 | _=>cases h
theorem iV{xs:List PyData}{k:Nat}{d:PyData}(h:cM xs=true)(e:xs[k]? = some d):bL d=true:=bV.mp h d (List.mem_of_getElem? e)
theorem fU{i:Int}{n k:Nat}(h:cY i n=some k):k<n∧-(2 ^ 63)≤i∧i<2 ^ 63∧((0≤i∧k=i.toNat)∨(i<0∧0≤i+n∧k=(i+n).toNat)) :=
 Br h fun hb h =>
  have h1:-(2 ^ 63)≤i:=Int.le_trans (by decide) (Int.le_of_lt (of_decide_eq_true (aA hb).1))
  have h2:i<2 ^ 63:=Int.lt_of_lt_of_le (of_decide_eq_true (aA hb).2) (by decide)
  (Int.lt_or_le i 0).elim
   (fun hi=>iO ((if_neg (Int.not_le.mpr hi)).symm.trans h) fun h0 e=>by
    cases e; exact⟨(Int.toNat_lt h0).mpr (Int.lt_of_lt_of_le (Int.add_lt_add_right hi n) (Int.le_of_eq (Int.zero_add _))),h1,h2,.inr ⟨hi,h0,rfl⟩⟩)
   fun hi=>iO ((if_pos hi).symm.trans h) fun hk e=>by cases e; exact⟨hk,h1,h2,.inl ⟨hi,rfl⟩⟩
theorem AV{i:Int}{n k:Nat}(h:cY i n=some k):seqIndex? i n=some k:=by
 obtain⟨hk,h1,h2,h3⟩:=fU h
 have on:∀ j:Int,0≤j→j.toNat<n→(if(decide (0≤j)&&decide (j<n))=true then some j.toNat else none)=some j.toNat:=fun j h0 hj =>
  if_pos (Bool.and_eq_true_iff.mpr ⟨decide_eq_true h0,decide_eq_true ((Int.toNat_lt h0).mp hj)⟩)
 unfold seqIndex?
 rcases h3 with⟨h3,rfl⟩| ⟨h3,h4,rfl⟩
 ·rw[if_neg (Int.not_lt.mpr h3)]; exact on _ h3 hk
 ·rw[if_pos h3]; exact on _ h4 hk
theorem vY{a b:Value}{x y d:PyData}{as bs:List Addr}(I:bB Z s)(ra:Rd s.heap a x as)(rb:Rd s.heap b y bs)(hx:bL x=true)
  (h:BA x y=some d) (g:pW Z s O es d Q) (hoa:∀ yb∈O,yb.2∈as.tail→iP yb.1 es):wpAny (model Z.prog Z.w) A (getItem a b) Q E s :=
 nD (m:=fun b=>wpAny _ A (getItem a b) Q E s) rb h fun i t h=>by
  cases x with
  | list xs =>
   obtain⟨la,vs,as',rfl,hl,rvs,rfl⟩:=cC ra
   exact aT h fun k hp h=>by
    obtain⟨hk,h1,h2,h3⟩:=fU hp
    obtain⟨v,cs,ev,rv,hcs⟩:=eQ rvs h
    have hsz:vs.size=xs.length:=(Array.length_toList).symm.trans (aS rvs)
    have hle:=(rZ hx).1
    rw[Array.getElem?_toList]at ev
    have hq:Q v s:=g v cs s I (Kp.refl _ _) rv (iV (rZ hx).2 h) fun yb hy hm=>hoa yb hy (hcs _ hm)
    rw[← hsz]at h3 hle
    rcases h3 with⟨h3,rfl⟩| ⟨h3,h4,rfl⟩
    ·exact wpAny_getItem_list hl h3 h2 ev hq
    ·exact wpAny_getItem_list_neg hl h3 (wJ h4) h1 ev hq
  | str x =>
   obtain⟨t,rfl⟩:=fF ra
   exact aT h fun k hp h=>b7 h fun c hc e=>by
    subst e
    obtain⟨hk,h1,h2,h3⟩:=fU hp
    refine P.getItem_str (i:=i) (c:=c) (Bool.or_eq_false_iff.mpr ⟨decide_eq_false (Int.not_lt.mpr h1),decide_eq_false (Int.not_le.mpr h2)⟩) (by rw[AV hp]; exact hc) (lM I g (y4 (iX.mpr fun c' hc'=>?_) (Nat.le_of_ble_eq_true rfl)) _ _)
    cases List.mem_singleton.mp hc'
    exact iX.mp (y1 hx).1 _ (Array.mem_toList_iff.mpr (Array.mem_of_getElem? hc))
  | _=>cases h
theorem pP(o:Option (Int×Tok)):IsPart (partValue o) (o.map (·.1)):=by
 cases o with
 | none=>exact .none
 | some p=>exact .int _ _
theorem AZ{x:Str}(lo hi:Option Int)(hx:bL (.str x)=true):bL (.str ⟨(cut x.cps.toList lo hi).toArray⟩)=true :=
 y4 (iX.mpr fun c hc=>iX.mp (y1 hx).1 c (List.mem_of_mem_take (List.mem_of_mem_drop hc))) (Nat.le_trans (mD x.cps.toList lo hi) (y1 hx).2)
theorem vX{a:Value}{x d:PyData}{as:List Addr}{lo hi:Option (Int×Tok)}{sl:Addr}(I:bB Z s)(ra:Rd s.heap a x as)(hx:bL x=true)
  (hsl:s.heap.IsSlice sl lo hi none)
  (h:IJ x (lo.map (·.1)) (hi.map (·.1))=some d) (g:pW Z s O es d Q) (hoa:∀ yb∈O,yb.2∈as.tail→iP yb.1 es) (hO:∀ yb∈O,yb.2<s.heap.objs.size) :
  wpAny (model Z.prog Z.w) A (getItem a (.ref sl)) Q E s:=by
 cases x with
 | list xs =>
  obtain⟨la,vs,as',rfl,hl,rvs,rfl⟩:=cC ra
  cases h
  have hsz:vs.size=xs.length:=(Array.length_toList).symm.trans (aS rvs)
  refine wpAny_getItem_list_slice hl (vl:=partValue lo) (vu:=partValue hi) (vs:=partValue none) hsl (pP lo) (pP hi) (pP none) nofun ?_ (by rw[hsz]; exact(rZ hx).1)
  obtain⟨bs,rb,hb⟩:=v8 rvs (gH xs.length (lo.map (·.1)) (hi.map (·.1))) fun k hk=>wX hk
  rw[CO]at rb
  rw[Option.map_none,u7,hsz,show(vs[·]?)=(vs.toList[·]?)from funext fun k=>Array.getElem?_toList.symm]
  exact tV I g rb (y5 (Nat.le_trans (mD _ _ _) (rZ hx).1) (ML _ _ (rZ hx).2)) (fun yb hy hm=>hoa yb hy (hb _ hm)) hO _ _
 | str x =>
  obtain⟨t,rfl⟩:=fF ra
  cases h
  have hok:=AZ (lo.map (·.1)) (hi.map (·.1)) hx
  refine wpAny_getItem_str_slice hsl rfl ?_
  have e:(gH x.length (lo.map (·.1)) (hi.map (·.1))).filterMap (x.cps[·]?)=cut x.cps.toList (lo.map (·.1)) (hi.map (·.1)):=by
   rw[← CO,show(x.cps[·]?)=(x.cps.toList[·]?)from funext fun k=>Array.getElem?_toList.symm]; rfl
  unfold sliceMade slicePicked
  rw[show Option.getD (Option.map (·.1) (none:Option (Int×Tok))) 1=1 from rfl,DF]
  by_cases hc:((1:Int)==1&&(gH x.length (lo.map (·.1)) (hi.map (·.1))).length==x.length)=true
  ·rw[if_pos hc]
   have e3:cut x.cps.toList (lo.map (·.1)) (hi.map (·.1))=x.cps.toList:=by
    refine NJ _ _ _ ?_
    rw[← CO,oP _ _ fun k hk=>wX hk]
    exact eq_of_beq (aA hc).2
   rw[e3]at g
   exact tU I g hx _
  ·rw[if_neg hc,e]
   exact⟨(y1 hok).2,lM I g hok _ _⟩
 | _=>cases h
end
theorem vV:∀{xs:List PyData}{l:List Str},D1 xs=some l→xs=l.map .str
 | [],l,h=>by cases h; rfl
 | d::r,l,h=>j5 (x:=d) h fun i e h=>b7 h fun m hm h=>by subst h; rw[e,List.map_cons,← vV hm]
theorem R9{α:Type}{ds:List PyData}{f:PyData→Option α}{g:PyData→PyData→Option α}{d:α}{m:List PyData→Prop}(h:TN ds f g=some d)(k₁:∀ x,f x=some d→m [x])(k₂:∀ x y,g x y=some d→m [x,y]):m ds:=by
 cases ds with
 | nil=>cases h
 | cons x r =>
  cases r with
  | nil=>exact k₁ x h
  | cons y r =>
   cases r with
   | nil=>exact k₂ x y h
   | cons z r=>cases h
theorem mP{h:Heap}{vs:List Value}{x:PyData}{as:List Addr}{m:List Value→List Addr→Prop}(r:aR h vs [x] as)(k:∀ v as,Rd h v x as→m [v] as):m vs as:=by
 cases r with
 | cons r1 r2=>cases r2; rw[List.append_nil]; exact k _ _ r1
theorem J2{h:Heap}{vs:List Value}{x:PyData}{ds:List PyData}{as:List Addr}{m:List Value→Prop}(r:aR h vs (x::ds) as)(k:∀ v vs bs cs,Rd h v x bs→aR h vs ds cs→m (v::vs)):m vs:=by
 cases r with
 | cons r1 r2=>exact k _ _ _ _ r1 r2
theorem J3{h:Heap}{vs:List Value}{x y:PyData}{as:List Addr}{m:List Value→Prop}(r:aR h vs [x,y] as)(k:∀ v w as bs,Rd h v x as→Rd h w y bs→m [v,w]):m vs :=
 J2 r fun v _ _ _ r1 r=>mP (m:=fun vs _=>m (v::vs)) r fun w _ r2=>k v w _ _ r1 r2
theorem MM{c:Nat}(h:c<0x110000):bL (.str ⟨#[c]⟩)=true:=y4 (iX.mpr fun c' hc=>by cases List.mem_singleton.mp hc; exact h) (Nat.le_of_ble_eq_true rfl)
section
variable{Z:aE}{A:Around}{E:Value→Shared→Prop}{s:Shared}{O:List (Option Nat×Addr)}{es:List Nat}{Q:Value→Shared→Prop}{lvl:Nat}
theorem AK{i:Int}{h':Heap}{tk:Nat}(I:bB Z s)(g:pW Z s O es (.int i) Q)(hk:∀ b o,s.heap.get? b=some o→h'.get? b=some o)(t:Nat):Q (.int i t) { s with heap:=h',toks:=tk } :=
 g _ [] _ (I.full hk) (.of hk) (.int i t) (by simp[bL]) (fun _ _ h=>nomatch h)
noncomputable def N4:Bi→Value
 | .len=>.builtin "len"
 | .max2=>.builtin "max"
 | .chr=>.builtin "chr"
theorem LM{b:Bi}{vs:List Value}{ds:List PyData}{as:List Addr}{d:PyData}(hA:fJ Z lvl A)(I:bB Z s)(r:aR s.heap vs ds as)(hd:cM ds=true)
  (h:W3 b ds=some d) (g:pW Z s O es d Q) (ho:∀ yb∈O,yb.2∈as→iP yb.1 es) (hO:∀ yb∈O,yb.2<s.heap.objs.size):wpAny (model Z.prog Z.w) A (call (N4 b) vs) Q E s:=by
 have hh:=hA.handled
 revert r hd
 refine R9 (m:=fun ds=>aR s.heap vs ds as→cM ds=true→wpAny (model Z.prog Z.w) A (call (N4 b) vs) Q E s) h (fun x h r hd=>?_) fun x y h r _=>?_
 ·have hx:bL x=true:=(aA hd).1
  clear ho
  refine mP (m:=fun vs _=>wpAny _ A (call (N4 b) vs) Q E s) r fun v as r=>?_
  cases b with
  | len =>
   cases x with
   | list xs =>
    obtain⟨la,ws,as',rfl,hl,rvs,rfl⟩:=cC r
    have hs:xs.length≤2 ^ 24:=(rZ hx).1
    have hsz:ws.size=xs.length:=(Array.length_toList).symm.trans (aS rvs)
    cases h
    refine Calls.call_len_list hl (OG (hsz▸hs)) ?_
    rw[hsz]
    exact eV I g _ _
   | str x =>
    obtain⟨t,rfl⟩:=fF r
    have hs:x.length≤2 ^ 24:=(y1 hx).2
    cases h
    exact P.len_str (JB hs) (eV I g _ _)
   | _=>cases h
  | chr =>
   exact nD (m:=fun v=>wpAny _ A (call (N4 .chr) [v]) Q E s) r h fun i t h=>iO h fun hc e=>by
    cases e
    have h1:=of_decide_eq_true (aA hc).1
    have h2:=of_decide_eq_true (aA hc).2
    exact P.chr_of_int (Bool.or_eq_false_iff.mpr ⟨decide_eq_false (Int.not_lt.mpr h1),decide_eq_false (Int.not_lt.mpr (Int.le_trans (Int.le_of_lt h2) (by decide)))⟩) (lM I g (MM ((Int.toNat_lt h1).mpr (Int.lt_trans h2 (by decide)))) _ _)
  | _=>cases h
 ·have fin:∀{c:Prop} [Decidable c] {i j:Int} {t u:Tok} {h':Heap} {tk:Nat},some (PyData.int (if c then i else j))=some d→(∀ b o,s.heap.get? b=some o→h'.get? b=some o)→Q (if c then .int i t else .int j u) { s with heap:=h',toks:=tk }:=fun{c}_{i j t u h' tk}e hk=>by
   cases e
   by_cases hc:c
   ·rw[if_pos hc]at g ⊢; exact AK I g hk _
   ·rw[if_neg hc]at g ⊢; exact AK I g hk _
  refine J3 (m:=fun vs=>wpAny _ A (call (N4 b) vs) Q E s) r fun v w as bs ra rb=>?_
  cases b with
  | max2=>exact nD (m:=fun v=>wpAny _ A (call (N4 .max2) [v,w]) Q E s) ra h fun i t h=>nD (m:=fun w=>wpAny _ A (call (N4 .max2) [_,w]) Q E s) rb h fun j u h=>max_two_ints hh fun h' tk hk=>fin h hk
  | _=>cases h
end
noncomputable def TM:List String:=["enumerate", "zip", "dict_itemiterator", "dict_reverseitemiterator", "odict_iterator", "itertools.zip_longest", "itertools.pairwise"]
structure w9(Z:aE)(A:Around)(I:Addr)(ds:List PyData)(used:List Addr)(St:Nat→Heap→Prop):Prop where
 new:Z.n≤I
 apart:I∉used
 frame:∀ k h h',St k h→(∀ b,b=I∨b∈used→∀ o,h.get? b=some o→h'.get? b=some o)→St k h'
 live:∀ k h,St k h→∃ o,h.get? I=some o∧o.cls ≠ .none∧∀ es ep,o.data ≠ .dict es ep
 ty:∀ k h,St k h→∃ o T,h.get? I=some o∧o.cls = .type T∧TM.contains T=false
 step:∀ k d(s:Shared)(R:Option Value→Shared→Prop)(E:Value→Shared→Prop),ds[k]? = some d→St k s.heap→bB Z s →
  (∀ v bs s',bB Z s'→(∀ b o,b≠I→s.heap.get? b=some o→s'.heap.get? b=some o)→Rd s'.heap v d bs→(∀ a∈bs,a∈used)→St (k+1) s'.heap→R (some v) s') →
  wpAny (model Z.prog Z.w) A (pyNext (.ref I)) R E s
 done:∀(s:Shared)(Q:Option Value→Shared→Prop)(E:Value→Shared→Prop),St ds.length s.heap→bB Z s →
  (∀ s',bB Z s'→(∀ b o,b≠I→s.heap.get? b=some o→s'.heap.get? b=some o)→Q none s')→wpAny (model Z.prog Z.w) A (pyNext (.ref I)) Q E s
 again:∀ k(s:Shared)(Q:Value→Shared→Prop)(E:Value→Shared→Prop),St k s.heap→Q (.ref I) s→wpAny (model Z.prog Z.w) A (pyIter (.ref I)) Q E s
theorem bB.but{Z:aE}{s:Shared}(inv:bB Z s){I:Addr}{h':Heap}(tk:Nat)(hn:Z.n≤I)(hnf:I∉Z.fr)(hk:∀ b o,b≠I→s.heap.get? b=some o→h'.get? b=some o):bB Z { s with heap:=h',toks:=tk } :=
 inv.step (fun b o hb e=>hk b o (fun hm=>Nat.lt_irrefl _ (Nat.lt_of_lt_of_le hb (hm▸hn))) e) Z.lowC fun L hL o e hd=>⟨o,hk L o (fun hm=>hnf (hm▸hL)) e,hd⟩
theorem bN{h h':Heap}{l:Addr}{items:Array Value}(x:h.IsList l items)(hk:∀ o,h.get? l=some o→h'.get? l=some o):h'.IsList l items :=
 let⟨o,e,r⟩:=x; ⟨o,hk o e,r⟩
theorem e9{h h':Heap}{I l:Addr}{k:Nat}(x:h.IsListIter I l k)(hk:∀ o,h.get? I=some o→h'.get? I=some o):h'.IsListIter I l k :=
 let⟨o,e,r⟩:=x; ⟨o,hk o e,r⟩
theorem gU.keep{h h':Heap}{q:Bool}{vs:List Value}{ds:List PyData}{as:List Addr}(r:gU h q vs ds as)(k:∀ b∈as,∀ o,h.get? b=some o→h'.get? b=some o):gU h' q vs ds as :=
 r.map fun a o ha e _=>k a ha o e
section
variable{Z:aE}{A:Around}
theorem w9.list(hh:A.handled=none){I l:Addr}{items:Array Value}{ds:List PyData}{as:List Addr}(hI:Z.n≤I)(hIf:I∉Z.fr)(hap:I∉l::as) :
  w9 Z A I ds (l::as) (fun k h=>h.IsListIter I l k∧h.IsList l items∧aR h items.toList ds as) where
 new:=hI
 apart:=hap
 frame:=fun k h h' st hk=>⟨e9 st.1 (hk I (.inl rfl)),bN st.2.1 (hk l (.inr List.mem_cons_self)),st.2.2.keep fun b hb=>hk b (.inr (List.mem_cons_of_mem _ hb))⟩
 live:=fun k h st=>let⟨o,e,c,hf⟩:=st.1; ⟨o,e,by rw[c]; nofun,fun es ep hd=>by rw[hf]at hd; cases hd⟩
 ty:=fun k h st=>let⟨o,e,c,_⟩:=st.1; ⟨o,_,e,c,by decide +kernel⟩
 step:=fun k d s R E hd st inv hR=>by
  obtain⟨v,bs,ev,rv,hbs⟩:=eQ st.2.2 hd
  refine wpAny_pyNext_list_item st.1 st.2.1 (x:=v) (by rwa[Array.getElem?_toList]at ev) fun h' hit hs=>?_
  have hk:∀ b o,b≠I→s.heap.get? b=some o→h'.get? b=some o:=fun b o hb e=>hs.extBut b o hb e
  have hk':∀ b,b∈l::as→∀ o,s.heap.get? b=some o→h'.get? b=some o:=fun b hb o e=>hk b o (fun e'=>hap (e'▸hb)) e
  exact hR v bs _ (inv.but s.toks hI hIf hk) hk (rv.keep fun b hb=>hk' b (List.mem_cons_of_mem _ (hbs b hb))) (fun a ha=>List.mem_cons_of_mem _ (hbs a ha)) ⟨hit,bN st.2.1 (hk' l List.mem_cons_self),st.2.2.keep fun b hb=>hk' b (List.mem_cons_of_mem _ hb)⟩
 done:=fun s Q E st inv hQ=>by
  refine wpAny_pyNext_list_end hh st.1 st.2.1 (by rw[← aS st.2.2,Array.length_toList]; exact Array.getElem?_eq_none (Nat.le_refl _)) fun h' hs=>?_
  have hk:∀ b o,b≠I→s.heap.get? b=some o→h'.get? b=some o:=fun b o hb e=>hs b o hb e
  exact hQ _ (inv.but s.toks hI hIf hk) hk
 again:=fun k s Q E st hQ=>wpAny_pyIter_listiter st.1 hQ
theorem w9.range(hh:A.handled=none){I:Addr}{lo st:Int}{n:Nat}(hI:Z.n≤I)(hIf:I∉Z.fr) :
  w9 Z A I ((List.range n).map fun(k:Nat)=>PyData.int (lo+(k:Int)*st)) [] (fun k h=>IsRangeIter h I (lo+(k:Nat)*st) ((n:Int) - (k:Nat)) st) where
 new:=hI
 apart:=nofun
 frame:=fun k h h' e hk=>hk I (.inl rfl) _ e
 live:=fun k h e=>⟨_,e,nofun,nofun⟩
 ty:=fun k h e=>⟨_,_,e,rfl,by decide +kernel⟩
 step:=fun k d s R E hd e0 inv hR=>by
  rw[List.getElem?_map,Option.map_eq_some_iff]at hd
  obtain⟨j,hj,rfl⟩:=hd
  obtain⟨hkn,hj⟩:=List.getElem?_eq_some_iff.mp hj
  rw[List.getElem_range]at hj
  subst hj
  rw[List.length_range]at hkn
  refine wpAny_pyNext_range_item e0 (Int.sub_pos_of_lt (Int.ofNat_lt.mpr hkn)) fun h' hit hs=>?_
  have hk:∀ b o,b≠I→s.heap.get? b=some o→h'.get? b=some o:=fun b o hb e=>hs.extBut b o hb e
  refine hR _ [] _ (inv.but _ hI hIf hk) hk (.int _ _) (fun _ h=>nomatch h) ?_
  rwa[show lo+((k+1:Nat):Int)*st=lo+(k:Int)*st+st by rw[Int.natCast_add,Int.add_mul,Int.add_assoc]; exact congrArg (fun z=>lo+((k:Int)*st+z)) (Int.one_mul st),show(n:Int) - ((k+1:Nat):Int)=(n:Int) - (k:Int) - 1 from(Int.sub_sub (n:Int) (k:Int) 1).symm]
 done:=fun s Q E e0 inv hQ=>by
  rw[List.length_map,List.length_range]at e0
  refine wpAny_pyNext_range_end hh e0 (Int.le_of_eq (Int.sub_self _)) fun h' hs=>?_
  have hk:∀ b o,b≠I→s.heap.get? b=some o→h'.get? b=some o:=fun b o hb e=>hs b o hb e
  exact hQ _ (inv.but s.toks hI hIf hk) hk
 again:=fun k s Q E e0 hQ=>wpAny_pyIter_rangeiter e0 hQ
end
noncomputable def TF:Option NameKind→Bool
 | some .local | some .cell | some .free=>true
 | _=>false
noncomputable def OH:PyData→Option Const
 | .none=>some .none
 | .bool a=>some (.bool a)
 | .int a=>some (.int a)
 | .str a=>if bL (.str a)then some (.str a)else none
 | _=>none
noncomputable def tG:Bi→Str
 | .len => "len"
 | .max2 => "max"
 | .chr => "chr"
noncomputable def B7:Me→Str
 | .join => "join"
noncomputable def rO(e:Expr):Bool:=e.ctorIdx==26
noncomputable def aC(e:Expr):Bool:=e.ctorIdx==22
noncomputable def gF(e:Expr):Bool:=e.ctorIdx==8||e.ctorIdx==9||e.ctorIdx==10||e.ctorIdx==11
noncomputable def CC(e:Expr):Bool:=e.ctorIdx==19||e.ctorIdx==23
noncomputable def iF(e:Expr):Bool:=e.ctorIdx==7
noncomputable def aP(sc:Scope)(n:Str):Bool:=sc.names.lookup n==some .globalImplicit&&n != ("__debug__" : Str)
noncomputable def iN(sc:Scope)(n:Str):Bool:=sc.names.lookup n==some .local||sc.names.lookup n==some .cell
noncomputable def kA(q:Bool):BoolOp:=if q then .And else .Or
noncomputable def EV(nm:List Str)(sc:Scope)(scope:Scope)(ts:List Nat):Bool :=
 scope.kind == .function&&(decide (ts.Nodup)&&(decide ((scope.names.map (·.1)).Nodup)&&(decide (nm.Nodup)&&(!nm.contains ".0" &&
 scope.names.all fun p=>match p.2 with
  | .free=>sc.names.lookup p.1==some .cell||sc.names.lookup p.1==some .free
  | .local=>p.1 == ".0" || ts.any fun x=>nm[x]? == some p.1
  | .globalImplicit=>true
  | _=>false))))
noncomputable def sL:Tg→Bool
 | .one _=>false
 | .two _ _=>true
noncomputable def vN(nm:List Str)(sc:Scope):Tg→Expr→Bool
 | .one x,e=>aW e fun n _=>nm[x]? == some n&&iN sc n
 | .two x y,e=>fR e fun es _ _=>iM es fun a r=>fW r fun b=>aW a fun n _=>aW b fun m _=>(nm[x]? == some n&&iN sc n)&&(nm[y]? == some m&&iN sc m)
noncomputable def OJ(i:Int)(e:Expr):Bool:=bR e fun c _ _=>c == .int i
theorem JH{i:Int}{e:Expr}{m:Expr→Prop}(h:OJ i e=true)(k:∀ a p,m (.Constant (.int i) a p)):m e:=cD h fun c a p h=>cL (m:=fun c=>m (.Constant c a p)) h (k a p)
noncomputable def mH:r8→Nat
 | .nil=>0
 | .cons _ es=>mH es+1
section
variable(fn:List Str)(nm:List Str)
mutual
noncomputable def cS(sc:Scope):PE→Expr→Bool
 | .lit d,e=>bR e fun c _ _=>OH d==some c
 | .var x,e=>aW e fun n _=>nm[x]? == some n&&TF (sc.names.lookup n)&&n != ("__debug__" : Str)&&n != ("__classdict__" : Str)
 | .neg a,e=>eR e fun o x _=>o == .USub&&cS sc a x
 | .nt a,e=>eR e fun o x _=>o == .Not&&cS sc a x
 | .bool q a b,e=>kQ e fun op xs pos=>op==kA q&&iM xs fun x r=>cS sc a x&&iM r fun y r=>if r.isEmpty then cS sc b y else cS sc b (.BoolOp op (y::r) pos)
 | .bin op a b,e=>nS e fun l o r _=>o==op&&(cS sc a l&&cS sc b r)
 | .cmp op a b,e=>fZ e fun l os rs _=>fW os fun o=>o==op&&fW rs fun r=>!behindInMarks op r&&(cS sc a l&&cS sc b r)
 | .ite c a b,e=>rK e fun t x y _=>cS sc c t&&(cS sc a x&&cS sc b y)
 | .list es,e=>s6 e fun xs _=>decide (mH es≤1000)&&nK sc es xs
 | .comp elt t i c g,e=>jQ e fun el gens scope _=>iM gens fun cp r=>B1 cp fun target iter ifs az=>az==0&&(CQ scope c ifs&&(!iF iter&&(EV nm sc scope (bU t++w3 g)&&(IU (sL t) sc i iter&&(vN nm scope t target&&(IV scope g r&&cS scope elt el))))))
 | .call f es,e=>dG e fun fe as ks _=>ks.isEmpty&&aW fe fun n _=>fn[f]? == some n&&(aP sc n&&(decide (mH es≠0)&&nK sc es as))
 | .bi b es,e=>dG e fun fe as ks _=>ks.isEmpty&&aW fe fun n _=>n==tG b&&(aP sc (tG b)&&(decide (mH es≠0)&&nK sc es as))
 | .me m o es,e=>dG e fun fe as ks pos=>ks.isEmpty&&bM fe fun x name apos=>name==B7 m&&(CC x&&(apos.endLine==pos.line&&(decide (mH es≠0)&&(decide (mH es≤5)&&(cS sc o x&&nK sc es as)))))
 | .idx a i,e=>dM e fun v s _=>!rO s&&(cS sc a v&&cS sc i s)
 | .slc a lo hi,e=>dM e fun v s _=>nP s fun l u st _=>st.isNone&&(cS sc a v&&(T2 sc lo l&&T2 sc hi u))
noncomputable def nK(sc:Scope):r8→List Expr→Bool
 | .nil,es=>es.isEmpty
 | .cons p ps,es=>iM es fun e r=>!aC e&&(cS sc p e&&nK sc ps r)
noncomputable def T2(sc:Scope):PO→Option Expr→Bool
 | .no,o=>o.isNone
 | .yes p,o=>iB o fun e=>cS sc p e
noncomputable def IU(z:Bool)(sc:Scope):PI→Expr→Bool
 | .of p,e=>cS sc p e
 | .range1 a,e=>dG e fun fe as ks _=>ks.isEmpty&&aW fe fun n _=>n==("range" : Str)&&fW as fun x=>!aC x&&(aP sc "range" && cS sc a x)
 | .range3 m n k,e=>dG e fun fe as ks _=>ks.isEmpty&&aW fe fun u _=>u==("range" : Str)&&iM as fun x r=>iM r fun y r=>fW r fun v=>OJ m x&&(OJ n y&&(OJ k v&&aP sc "range"))
 | .zip a b,e=>z&&dG e fun fe as ks _=>ks.isEmpty&&aW fe fun n _=>n==("zip" : Str)&&iM as fun x r=>fW r fun y=>!aC x&&(!aC y&&(aP sc "zip" && (cS sc a x&&cS sc b y)))
noncomputable def CQ(sc:Scope):PO→List Expr→Bool
 | .no,l=>l.isEmpty
 | .yes p,l=>fW l fun e=>cS sc p e
noncomputable def IV(sc:Scope):PG→List Comprehension→Bool
 | .nil,gs=>gs.isEmpty
 | .cons t i c g,gs=>iM gs fun cp r=>B1 cp fun target iter ifs az=>az==0&&(CQ sc c ifs&&(!iF iter&&(IU (sL t) sc i iter&&(vN nm sc t target&&IV sc g r))))
end
end
noncomputable def sP:List (Str×Value) :=
 [("len",.builtin "len"),("max",.builtin "max"),("min",.builtin "min"),("chr",.builtin "chr"),("list",.type "list"),("range",.type "range"),("zip",.type "zip")]
def fE(Z:aE):Prop:=∀ n v,(n,v)∈sP→Z.mg n=none∧Z.mb n=some v
def dX(Z:aE)(lvl:Nat)(fn:List Str)(cl:Nat→List PyData→Option PyData):Prop :=
 ∀ f n args d,fn[f]? = some n→cl f args=some d→∃ a o fd,Z.mg n=some (.ref a)∧Z.h₀.get? a=some o∧o.cls ≠ .none∧o.data = .func fd ∧
  ∀(A:Around)(s:Shared)(vs:List Value)(as:List Addr)(Q:Value→Shared→Prop)(E:Value→Shared→Prop),fJ Z lvl A→bB Z s→Z.n≤s.heap.objs.size→aR s.heap vs args as→cM args=true →
   (∀ v bs s',bB Z s'→Kp Z.n s.heap s'.heap→Rd s'.heap v d bs→bL d=true→(∀ a∈bs,a∈as∨∀ o,s.heap.get? a=some o→o.cls = .none)→Q v s')→wpAny (model Z.prog Z.w) A (call (.ref a) vs) Q E s
section
variable{M:Model}{A:Around}{E:Value→Shared→Prop}{s:Shared}{env:Env}
theorem uX.load{n:Str}{v:Value}{Q:Value→Shared→Prop}(hk:env.scope.kind = .function)(a:uX env s.heap n v)(hcd:n≠("__classdict__" : Str))(h:Q v s):wpAny M A (loadName env n) Q E s:=by
 rcases a with⟨hl,m,hn,hv⟩| ⟨hl,c,hc,hv⟩
 ·exact wpAny_loadName_local hk hl hn hv h
 ·rcases hl with hl | hl
  ·exact wpAny_loadName_cell hk hl hc hv h
  ·exact wpAny_loadName_free hk hl hc hv h (beq_eq_false_iff_ne.mpr hcd)
theorem aV{pos:Pos}{f:Value}{first:List Value}{args:List (Bool×Sem Value)}{Q:Value→Shared→Prop}(hf:∀ a,f ≠ .ref a)(hplain:args.any (·.1)=false)
  (h:wpAny M A (evalArgs f true args []) (fun a s₁=>wpAny M A (call f (first++a.pos) a.kw) Q E s₁) E s) :
  wpAny M A (callWith pos f first args []) Q E s:=by
 have hkeep:keeperOf f=pure .machine:=by
  cases f with
  | ref a=>exact absurd rfl (hf a)
  | _=>rfl
 unfold callWith
 rw[hplain,hkeep]
 exact wpAny_bind (wpAny_holding (wpAny_mono h (fun a s₁ h₁=>wpAny_bind (wpAny_standAt (wpAny_bind (wpAny_pure (wpAny_bind (wpAny_mono h₁ (fun r s₂ hr=>wpAny_bind (wpAny_holding (wpAny_point (wpAny_pure hr)))) fun _ _ x=>x)))))) fun _ _ x=>x))
end
theorem pW.mono{Z:aE}{s s':Shared}{O:List (Option Nat×Addr)}{es es':List Nat}{d:PyData}{Q:Value→Shared→Prop}(g:pW Z s O es d Q)(k:Kp Z.n s.heap s'.heap)(h:∀ y,y∈es'→y∈es):pW Z s' O es' d Q :=
 fun v as s'' i k' r hd ho=>g v as s'' i (k.trans k') r hd fun yb hy hm=>let⟨y,h1,h2⟩:=ho yb hy hm; ⟨y,h y h1,h2⟩
theorem pW.kp{Z:aE}{s s':Shared}{O:List (Option Nat×Addr)}{es:List Nat}{d:PyData}{Q:Value→Shared→Prop}(g:pW Z s O es d Q)(k:Kp Z.n s.heap s'.heap):pW Z s' O es d Q :=
 fun v as s'' i k' r hd ho=>g v as s'' i (k.trans k') r hd ho
theorem iP.l{o:Option Nat}{es es':List Nat}(h:iP o es):iP o (es++es'):=let⟨y,h1,h2⟩:=h; ⟨y,List.mem_append_left _ h1,h2⟩
theorem iP.r{o:Option Nat}{es es':List Nat}(h:iP o es'):iP o (es++es'):=let⟨y,h1,h2⟩:=h; ⟨y,List.mem_append_right _ h1,h2⟩
section
variable{Z:aE}{cl:Nat→List PyData→Option PyData}{lvl:Nat}{nm:List Str}{fn:List Str}{sc:Scope}
theorem T5{env:Env}{n:Str}(hs:u5 sc env)(h:TF (sc.names.lookup n)=true):W6 env n:=by
 have g:=hs.2.1 n
 have g1:=hs.1 n
 generalize sc.names.lookup n=k at h g g1
 cases k with
 | none=>cases h
 | some k =>
  cases k with
  | «local»=>exact .inl (g1 rfl)
  | cell=>exact .inr (g (.inl rfl))
  | free=>exact .inr (g (.inr rfl))
  | _=>cases h
theorem LI{e:Expr}{p:PE}(h:SE Z cl lvl nm sc e p)(hw:∀ env,isTrue e env (eval e env)=(do let v ← eval e env; standAt e.pos; holding [v] (truthy v))):ST Z cl lvl nm sc e p:=fun{A env ρ O s d b Q E}X hd hb hQ=>by
 rw[hw]
 exact wpAny_bind (h X hd fun v as s' I' k r hok _=>wpAny_bind (wpAny_standAt (wpAny_holding (eN I' r hok hb fun s'' I'' k''=>hQ s'' I'' (k.trans k'')))))
theorem JY{d:PyData}{c:Const}{k:Nat}{pos:Pos}(h:OH d=some c):SE Z cl lvl nm sc (.Constant c k pos) (.lit d):=fun{A env ρ O s d' Q E}X hd g=>by
 cases hd
 rw[arm_eval_Constant]
 cases d with
 | none=>cases h; exact wpAny_pure (M4 X.hi g)
 | bool a=>cases h; exact wpAny_pure (eL X.hi g)
 | int a=>cases h; exact wpAny_mkInt (eV X.hi g _ _)
 | str a=>exact DX h fun h2 e=>by subst e; exact wpAny_mkText (lM X.hi g h2 _ _)
 | _=>cases h
theorem UT{x:Nat}{n:Str}{pos:Pos}(hn:nm[x]? = some n)(hv:TF (sc.names.lookup n)=true)(hd:n≠("__debug__" : Str))(hc:n≠("__classdict__" : Str)):SE Z cl lvl nm sc (.Name n pos) (.var x):=fun{A env ρ O s d Q E}X he g=>by
 obtain⟨v,as,a,r,hok,ho⟩:=X.he.vars x d n he hn (T5 X.hs hv)
 exact wpAny_Name (a.load X.he.kind hc (g v as s X.hi (Kp.refl _ _) r hok fun yb hy hm=>⟨x,List.mem_singleton.mpr rfl,(ho yb hy hm).1⟩)) (beq_eq_false_iff_ne.mpr hd)
theorem UV{a:PE}{e:Expr}{pos:Pos}(h:SE Z cl lvl nm sc e a):SE Z cl lvl nm sc (.UnaryOp .USub e pos) (.neg a):=fun{A env ρ O s d Q E}X hd g=>aT hd fun x hx hd=>by
 rw[arm_eval_UnaryOp]
 refine wpAny_bind (h X hx fun v as s' I' k r hok ho=>nD (m:=fun v=>wpAny _ A (do standAt pos; holding [v] (unaryOp .USub v)) Q E s') r hd fun i t e=>?_)
 cases e
 exact wpAny_bind (wpAny_standAt (wpAny_holding (P.neg_int (eV I' (g.kp k) _ _))))
theorem YN{a:PE}{e:Expr}{pos:Pos}(h:SE Z cl lvl nm sc e a):SE Z cl lvl nm sc (.UnaryOp .Not e pos) (.nt a):=fun{A env ρ O s d Q E}X hd g=>aT hd fun x hx hd=>b7 hd fun b hb e=>by
 subst e
 rw[arm_eval_UnaryOp]
 refine wpAny_bind (h X hx fun v as s' I' k r hok ho=>wpAny_bind (wpAny_standAt (wpAny_holding ?_)))
 exact wpAny_holding (wpAny_bind (eN I' r hok hb fun s'' I'' k''=>wpAny_pure (eL I'' (g.kp (k.trans k'')))))
theorem YJ{a:PE}{e:Expr}{pos:Pos}(h:ST Z cl lvl nm sc e a):ST Z cl lvl nm sc (.UnaryOp .Not e pos) (.nt a):=fun{A env ρ O s d b Q E}X hd hb hQ=>aT hd fun x hx hd=>b7 hd fun t ht e=>by
 subst e
 cases hb
 exact wpAny_isTrue_Not (h X hx ht hQ)
theorem UZ{op:Operator}{a b:PE}{l r:Expr}{pos:Pos}(ha:SE Z cl lvl nm sc l a)(hb:SE Z cl lvl nm sc r b):SE Z cl lvl nm sc (.BinOp l op r pos) (.bin op a b):=fun{A env ρ O s d Q E}X hd g=>aT hd fun x hx hd=>aT hd fun y hy hd =>
 wpAny_BinOp (ha X hx fun va as s₁ I₁ k₁ r₁ ok₁ o₁=>hb (X.kp k₁ I₁) hy fun vb bs s₂ I₂ k₂ r₂ ok₂ o₂ =>
  vZ I₂ (k₂.rd r₁) r₂ ok₁ ok₂ hd (g.kp (k₁.trans k₂)) (fun yb hy hm=>(o₁ yb hy hm).l) (fun yb hy hm=>(o₂ yb hy hm).r) (X.he.kp (k₁.trans k₂)).lt)
theorem UY{op:CmpOp}{a b:PE}{l r:Expr}{pos:Pos}(hm:behindInMarks op r=false)(ha:SE Z cl lvl nm sc l a)(hb:SE Z cl lvl nm sc r b):SE Z cl lvl nm sc (.Compare l [op] [r] pos) (.cmp op a b):=fun{A env ρ O s d Q E}X hd g=>aT hd fun x hx hd=>aT hd fun y hy hd =>
 wpAny_Compare1 (ha X hx fun va as s₁ I₁ k₁ r₁ ok₁ o₁=>hb (X.kp k₁ I₁) hy fun vb bs s₂ I₂ k₂ r₂ ok₂ o₂=>pL X.ha I₂ (k₂.rd r₁) r₂ ok₁ ok₂ hd (g.kp (k₁.trans k₂))) hm
theorem UN{op:CmpOp}{a b:PE}{l r:Expr}{pos:Pos}(hm:behindInMarks op r=false)(ha:SE Z cl lvl nm sc l a)(hb:SE Z cl lvl nm sc r b):ST Z cl lvl nm sc (.Compare l [op] [r] pos) (.cmp op a b):=fun{A env ρ O s d t Q E}X hd ht hQ=>aT hd fun x hx hd=>aT hd fun y hy hd =>
 wpAny_isTrue_Compare1 (ha X hx fun va as s₁ I₁ k₁ r₁ ok₁ o₁=>hb (X.kp k₁ I₁) hy fun vb bs s₂ I₂ k₂ r₂ ok₂ o₂=>pL (O:=[]) (es:=[]) X.ha I₂ (k₂.rd r₁) r₂ ok₁ ok₂ hd fun v cs s₃ I₃ k₃ r₃ ok₃ _ =>
  eN I₃ r₃ ok₃ ht fun s₄ I₄ k₄=>hQ s₄ I₄ ((k₁.trans k₂).trans (k₃.trans k₄))) hm
theorem UW{c a b:PE}{t x y:Expr}{pos:Pos}(hc:ST Z cl lvl nm sc t c)(ha:SE Z cl lvl nm sc x a)(hb:SE Z cl lvl nm sc y b):SE Z cl lvl nm sc (.IfExp t x y pos) (.ite c a b):=fun{A env ρ O s d Q E}X hd g=>aT hd fun q hx hd=>aT hd fun t ht hd=>by
 rw[arm_eval_IfExp]
 refine wpAny_bind (hc X hx ht fun s₁ I₁ k₁=>?_)
 cases t with
 | true=>exact ha (X.kp k₁ I₁) hd (g.mono k₁ fun _=>List.mem_append_left _)
 | false=>exact hb (X.kp k₁ I₁) hd (g.mono k₁ fun _=>List.mem_append_right _)
theorem UM{c a b:PE}{t x y:Expr}{pos:Pos}(hc:ST Z cl lvl nm sc t c)(ha:ST Z cl lvl nm sc x a)(hb:ST Z cl lvl nm sc y b):ST Z cl lvl nm sc (.IfExp t x y pos) (.ite c a b):=fun{A env ρ O s d r Q E}X hd hr hQ=>aT hd fun q hx hd=>aT hd fun t ht hd=>by
 rw[arm_isTrue_IfExp]
 refine wpAny_bind (hc X hx ht fun s₁ I₁ k₁=>?_)
 cases t with
 | true=>exact ha (X.kp k₁ I₁) hd hr fun s₂ I₂ k₂=>hQ s₂ I₂ (k₁.trans k₂)
 | false=>exact hb (X.kp k₁ I₁) hd hr fun s₂ I₂ k₂=>hQ s₂ I₂ (k₁.trans k₂)
theorem AN{q:Bool}{a b:PE}{ρ:aL}{d:PyData}{G:Prop}(hd:aD cl (.bool q a b) ρ=some d)(k:∀ x t,aD cl a ρ=some x→bT x=some t→(t=q∧aD cl b ρ=some d)∨(t=(!q)∧x=d)→G):G :=
 aT hd fun x hx hd=>aT hd fun t ht hd=>k x t hx ht <| by
  by_cases h:(t==q)=true
  ·rw[if_pos h]at hd; exact .inl ⟨eq_of_beq h,hd⟩
  ·rw[if_neg h]at hd; exact .inr ⟨by cases t <;> cases q <;> first | rfl | exact absurd rfl h,Option.some.inj hd⟩
theorem EU{q:Bool}{a b:PE}{x:Expr}{rest:List Expr}{pos:Pos}(hr:∀ env,∃ y r,evalEach rest env=y::r)(ha:SE Z cl lvl nm sc x a)
  (hb:∀{A:Around}{env:Env}{ρ:aL}{O:List (Option Nat×Addr)}{s:Shared}{d:PyData}{Q:Value→Shared→Prop}{E:Value→Shared→Prop},
   Cx Z lvl nm sc A env ρ O s→aD cl b ρ=some d→pW Z s O (kB b) d Q→wpAny (model Z.prog Z.w) A (boolOp pos (kA q) (evalEach rest env)) Q E s) :
  SE Z cl lvl nm sc (.BoolOp (kA q) (x::rest) pos) (.bool q a b):=fun{A env ρ O s d Q E}X hd g=>AN hd fun y t hx ht hc=>by
 rw[arm_eval_BoolOp,arm_evalEach_cons]
 have hb':=fun{s₂}(k:Kp Z.n s.heap s₂.heap)(I:bB Z s₂)h=>hb (Q:=Q) (E:=E) (X.kp k I) h (g.mono k fun _=>List.mem_append_right _)
 obtain⟨y',r',e⟩:=hr env
 rw[e]at hb' ⊢
 refine wpAny_bind (ha X hx fun v as s₁ I₁ k₁ r₁ ok₁ o₁=>wpAny_bind (wpAny_standAt (wpAny_bind (wpAny_holding (eN I₁ r₁ ok₁ ht fun s₂ I₂ k₂=>?_)))))
 rcases hc with⟨rfl,hc⟩| ⟨rfl,rfl⟩
 ·have:=hb' (k₁.trans k₂) I₂ hc
  cases t <;> exact this
 ·have:Q v s₂:=g v as s₂ I₂ (k₁.trans k₂) (k₂.rd r₁) ok₁ fun yb hy hm=>(o₁ yb hy hm).l
  cases q <;> exact wpAny_pure this
theorem EP{q:Bool}{a b:PE}{x:Expr}{rest:List Expr}{pos:Pos}(ha:ST Z cl lvl nm sc x a)
  (hb:∀{A:Around}{env:Env}{ρ:aL}{O:List (Option Nat×Addr)}{s:Shared}{d:PyData}{t:Bool}{Q:Bool→Shared→Prop}{E:Value→Shared→Prop},
   Cx Z lvl nm sc A env ρ O s→aD cl b ρ=some d→bT d=some t→(∀ s',bB Z s'→Kp Z.n s.heap s'.heap→Q t s')→wpAny (model Z.prog Z.w) A (allTrue (kA q) rest env) Q E s) :
  ST Z cl lvl nm sc (.BoolOp (kA q) (x::rest) pos) (.bool q a b):=fun{A env ρ O s d r Q E}X hd hr hQ=>AN hd fun y t hx ht hc=>by
 rw[arm_isTrue_BoolOp,arm_allTrue_cons]
 refine wpAny_bind (ha X hx ht fun s₁ I₁ k₁=>?_)
 rcases hc with⟨rfl,hc⟩| ⟨rfl,rfl⟩
 ·have:=hb (E:=E) (X.kp k₁ I₁) hc hr fun s₂ I₂ k₂=>hQ s₂ I₂ (k₁.trans k₂)
  cases t <;> exact this
 ·cases ht.symm.trans hr
  have:=hQ s₁ I₁ k₁
  cases q <;> exact wpAny_pure this
end
theorem kY{cl:Nat→List PyData→Option PyData}{ρ:aL}:∀{ps:r8}{ds:List PyData},kF cl ps ρ=some ds→ds.length=mH ps
 | .nil,ds,h=>by cases h; rfl
 | .cons p ps,ds,h=>aT (o:=aD cl p ρ) h fun x hx h=>b7 h fun l hl e=>by subst e; exact congrArg Nat.succ (kY hl)
section
variable{Z:aE}{cl:Nat→List PyData→Option PyData}{lvl:Nat}{nm:List Str}{fn:List Str}{sc:Scope}
def IA(Z:aE)(cl:Nat→List PyData→Option PyData)(lvl:Nat)(nm:List Str)(sc:Scope)(es:List Expr)(ps:r8):Prop :=
 ∀{A:Around}{env:Env}{ρ:aL}{O:List (Option Nat×Addr)}{s:Shared}{ds:List PyData}{R:List Value→Shared→Prop}{E:Value→Shared→Prop}{pos:Pos},
  Cx Z lvl nm sc A env ρ O s→kF cl ps ρ=some ds →
  (∀ vs as s',bB Z s'→Kp Z.n s.heap s'.heap→aR s'.heap vs ds as→cM ds=true→(∀ yb∈O,yb.2∈as→iP yb.1 (nB ps))→R vs s') →
  wpAny (model Z.prog Z.w) A (spliced (backTo pos (starEach es env))) R E s
theorem yA:IA Z cl lvl nm sc [] .nil:=fun{A env ρ O s ds R E pos}X hd hR=>by
 cases hd
 exact Calls.spliced_nil (hR [] [] s X.hi (Kp.refl _ _) .nil rfl fun _ _ h=>nomatch h)
theorem nY{e:Expr}{es:List Expr}{p:PE}{ps:r8}(hstar:∀ env,starEach (e::es) env=(false,eval e env)::starEach es env)(h1:SE Z cl lvl nm sc e p)(h2:IA Z cl lvl nm sc es ps):IA Z cl lvl nm sc (e::es) (.cons p ps):=fun{A env ρ O s ds R E pos}X hd hR=>aT hd fun x hx hd=>b7 hd fun l hl e=>by
 subst e
 rw[hstar]
 exact Calls.spliced_cons (h1 X hx fun v as s₁ I₁ k₁ r₁ ok₁ o₁=>h2 (X.kp k₁ I₁) hl fun vs bs s₂ I₂ k₂ r₂ ok₂ o₂ =>
  hR (v::vs) (as++bs) s₂ I₂ (k₁.trans k₂) (.cons (k₂.rd r₁) r₂) (by rw[cM,ok₁,ok₂]; rfl) fun yb hy hm=>(List.mem_append.mp hm).elim (fun hm=>(o₁ yb hy hm).l) fun hm=>(o₂ yb hy hm).r)
theorem O3{es:List Expr}{ps:r8}{pos:Pos}(hlen:mH ps≤1000)(h:IA Z cl lvl nm sc es ps):SE Z cl lvl nm sc (.List es pos) (.list ps):=fun{A env ρ O s d Q E}X hd g=>b7 hd fun ds hds e=>by
 subst e
 rw[arm_eval_List]
 exact wpAny_bind (wpAny_standAt (wpAny_bind (h X hds fun vs as s₁ I₁ k₁ r₁ ok₁ o₁=>by
  have hl:ds.length≤sizeLine:=Nat.le_trans (kY hds▸hlen) (by decide)
  exact wpAny_newList (tV I₁ (g.kp k₁) r₁ (y5 hl ok₁) o₁ (X.he.kp k₁).lt _ _) (aS r₁▸hl))))
theorem fT{n:Str}(hg:aP sc n=true):sc.names.lookup n=some .globalImplicit∧(n==("__debug__" : Str))=false:=⟨eq_of_beq (aA hg).1,bJ (aA hg).2⟩
theorem M5{n:Str}{pos:Pos}{env:Env}{v:Value}{A:Around}{s:Shared}{Q:Value→Shared→Prop}{E:Value→Shared→Prop}{ρ:aL}{O:List (Option Nat×Addr)}(X:Cx Z lvl nm sc A env ρ O s)
  (hg:aP sc n=true) (hv:Z.mg n=some v) (h:Q v s):wpAny (model Z.prog Z.w) A (eval (.Name n pos) env) Q E s :=
 Calls.Name_function_global X.he.kind (X.hs.2.2 n (fT hg).1) (Calls.loadGlobal_global (mg:=Z.mg) (X.he.glob▸X.hi.glob) hv h) (fT hg).2
theorem F4{n:Str}{pos:Pos}{env:Env}{v:Value}{A:Around}{s:Shared}{Q:Value→Shared→Prop}{E:Value→Shared→Prop}{ρ:aL}{O:List (Option Nat×Addr)}(hB:fE Z)(X:Cx Z lvl nm sc A env ρ O s)
  (hg:aP sc n=true) (hv:(n,v)∈sP) (h:Q v s):wpAny (model Z.prog Z.w) A (eval (.Name n pos) env) Q E s :=
 Calls.Name_function_global X.he.kind (X.hs.2.2 n (fT hg).1) (Calls.loadGlobal_builtin (mg:=Z.mg) (mb:=Z.mb) (X.he.glob▸X.hi.glob) (hB n v hv).1 (X.he.blt▸X.hi.bltn) (hB n v hv).2 h) (fT hg).2
theorem bW{f:Value}{es:List Expr}{pos:Pos}{env:Env}{A:Around}{s:Shared}{Q:Args→Shared→Prop}{E:Value→Shared→Prop}(hne:∃ x r,backTo pos (starEach es env)=(false,x)::r)
  (h:wpAny (model Z.prog Z.w) A (spliced (backTo pos (starEach es env))) (fun vs s'=>Q ⟨vs,[]⟩ s') E s):wpAny (model Z.prog Z.w) A (evalArgs f true (backTo pos (starEach es env)) []) Q E s:=by
 obtain⟨x,r,e⟩:=hne
 rw[e]at h ⊢
 exact Calls.evalArgs_plain h
def aX(es:List Expr):Prop:=(∀ env pos,(backTo pos (starEach es env)).any (·.1)=false)∧(es≠[]→∀ env pos,∃ x r,backTo pos (starEach es env)=(false,x)::r)∧∀ env pos,(backTo pos (starEach es env)).length=es.length
theorem bX(n:Str)(p pos:Pos)(args:List Expr)(env:Env):eval (.Call (.Name n p) args [] pos) env=(do callWith pos (← eval (.Name n p) env) [] (backTo pos (starEach args env)) (backToKw pos (keywordEach [] env))):=rfl
theorem O5{f:Nat}{n:Str}{p pos:Pos}{es:List Expr}{ps:r8}(hC:dX Z lvl fn cl)(hn:fn[f]? = some n)(hg:aP sc n=true)(hne:es≠[])(hpl:aX es)(h:IA Z cl lvl nm sc es ps) :
  SE Z cl lvl nm sc (.Call (.Name n p) es [] pos) (.call f ps):=fun{A env ρ O s d Q E}X hd g=>aT hd fun ds hx hd=>by
 obtain⟨a,o,fd,hv,ho,hoc,hof,hcall⟩:=hC f n ds d hn hd
 rw[bX]
 exact wpAny_bind (M5 X hg hv (Calls.callWith_function (o:=o) (fd:=fd) (bW (hpl.2.1 hne env pos) (h X hx fun vs as s₁ I₁ k₁ r₁ ok₁ o₁ =>
  ⟨⟨I₁.old.get_of_cls ho hoc,hof⟩,hcall A s₁ vs as Q E X.ha I₁ (X.he.kp k₁).size r₁ ok₁ fun v bs s₂ I₂ k₂ r₂ ok₂ o₂=>g v bs s₂ I₂ (k₁.trans k₂) r₂ ok₂ fun yb hy hm=>(o₂ _ hm).elim (o₁ yb hy) fun hm=>by
   obtain⟨oo,e,c⟩:=(X.he.kp k₁).live yb hy
   exact absurd (hm _ e) c⟩))))
theorem H6(b:Bi):(tG b,N4 b)∈sP:=by cases b <;> decide
theorem DV(b:Bi)(a:Addr):N4 b ≠ .ref a:=by cases b <;> nofun
theorem YQ{b:Bi}{p pos:Pos}{es:List Expr}{ps:r8}(hB:fE Z)(hg:aP sc (tG b)=true)(hne:es≠[])(hpl:aX es)(h:IA Z cl lvl nm sc es ps) :
  SE Z cl lvl nm sc (.Call (.Name (tG b) p) es [] pos) (.bi b ps):=fun{A env ρ O s d Q E}X hd g=>aT hd fun ds hx hd=>by
 rw[bX]
 exact wpAny_bind (F4 hB X hg (H6 b) (aV (DV b) (hpl.1 env pos) (bW (hpl.2.1 hne env pos) (h X hx fun vs as s₁ I₁ k₁ r₁ ok₁ o₁=>LM X.ha I₁ r₁ ok₁ hd (g.kp k₁) o₁ (X.he.kp k₁).lt))))
theorem A1{A:Around}{s:Shared}{vs:Array Value}{xs:List PyData}{as bs:List Addr}{x:Value}{d:PyData}(rs:aR s.heap vs.toList xs as)(rx:Rd s.heap x d bs)(hxs:cM xs=true)(hd:bL d=true)
  (hu:A.units+1+min (PyData.depthAll xs) d.depth<cLine):∃ e:Value→Bool,(∀ y,y∈vs→SeqAt.EqAt A.in1 s y x (e y))∧vs.toList.map e=xs.map fun y=>PyData.eqv y d:=by
 obtain⟨as',rs'⟩:=rs.reads
 obtain⟨bs',rx'⟩:=rx.reads
 refine⟨fun y=>PyData.eqv (SeqAt.readOf s.heap y) d,SeqAt.items_eqAt rs' rx' (cF hxs) (bS hd) hu,?_⟩
 rw[← SeqAt.readsAll_map xs vs.toList as' (cF hxs) rs',List.map_map]
 rfl
theorem oK{h:Heap}:∀{l:List Str}{vs:List Value}{as:List Addr},aR h vs (l.map .str) as→∃ ps:List (Str×Tok),vs=strValues ps∧ps.map (·.1)=l
 | [],vs,as,r=>by cases r; exact⟨[],rfl,rfl⟩
 | n::ns,vs,as,r=>by
  cases r with
  | cons h1 h2 =>
   obtain⟨xs,rfl,e⟩:=oK h2
   obtain⟨t,rfl⟩:=fF h1
   exact⟨(n,t)::xs,rfl,congrArg (n :: ·) e⟩
theorem oL{x y:Str}(hx:PyData.strOk x=true)(hy:PyData.strOk y=true):PyData.strOk (x++y)=true:=by
 unfold PyData.strOk
 rw[Str.cps_append,Array.all_append]
 exact Bool.and_eq_true_iff.mpr ⟨hx,hy⟩
theorem jN{sep:Str}(hs:PyData.strOk sep=true):∀ l:List Str,(∀ x∈l,PyData.strOk x=true)→PyData.strOk (Str.join sep l)=true
 | [],_=>by kernel_rfl
 | [x],h=>h x List.mem_cons_self
 | x::y::r,h=>oL (oL (h x List.mem_cons_self) hs) (jN hs (y::r) fun z hz=>h z (List.mem_cons_of_mem _ hz))
noncomputable def IN:Me→String
 | .join => "str.join"
noncomputable def Dv:Me→String
 | .join => "str"
section
variable{A:Around}{E:Value→Shared→Prop}{s:Shared}{O:List (Option Nat×Addr)}{es:List Nat}{Q:Value→Shared→Prop}
theorem C6{sep:Str}{xs:List PyData}{d:PyData}{t:Tok}{v:Value}{as:List Addr}(I:bB Z s)(r:Rd s.heap v (.list xs) as)(hsep:bL (.str sep)=true)(hd:bL (.list xs)=true)(h:zB sep xs=some d)(g:pW Z s O es d Q) :
  wpAny (model Z.prog Z.w) A (call (.builtin "str.join") [.str sep t,v]) Q E s:=aT h fun l hs h=>iO h fun hfold e=>by
 cases e
 cases vV hs
 obtain⟨a,items,as',rfl,hl,ra,-⟩:=cC r
 obtain⟨ps,e1,e2⟩:=oK ra
 rw[show items=(strValues ps).toArray by rw[← e1]]at hl
 have hjo:JoinOk sep l=true:=by
  unfold JoinOk Builtin.Str.tooLong
  rw[← Array.foldl_toList,Bool.not_eq_true',decide_eq_false_iff_not]
  exact Nat.not_lt.mpr (Nat.le_trans hfold (by decide))
 have hlen:(Txt.join sep l).length≤sizeLine:=joinFit_length (bJ hjo)
 have hj:Txt.join sep l=Str.join sep l:=StrLaws.glued_eq_join sep l
 refine SC.join hl e2 hjo fun t' k=>?_
 rw[hj]at hlen ⊢
 exact lM I g (y4 (jN (y1 hsep).1 l fun x hx=>(y1 (bV.mp (rZ hd).2 (.str x) (List.mem_map_of_mem hx))).1) hlen) _ _
end
end
section
variable{Z:aE}{cl:Nat→List PyData→Option PyData}{lvl:Nat}{nm:List Str}{fn:List Str}{sc:Scope}
theorem bF{e:Expr}(h:aC e=false)(es:List Expr)(env:Env):starEach (e::es) env=(false,eval e env)::starEach es env:=by
 cases e with
 | Starred=>cases h
 | _=>rfl
theorem dP{e:Expr}{es:List Expr}(h:aC e=false)(ih:aX es):aX (e::es):=by
 have hs:=bF h es
 refine⟨fun env pos=>?_,fun _ env pos=>?_,fun env pos=>?_⟩
 ·rw[hs]; exact ih.1 env pos
 ·rw[hs]; exact⟨_,_,rfl⟩
 ·rw[hs]; exact congrArg Nat.succ (ih.2.2 env pos)
theorem iI:aX []:=⟨fun _ _=>rfl,fun h=>absurd rfl h,fun _ _=>rfl⟩
theorem aZ{e:Expr}(h:aC e=false):aX [e]:=dP h iI
theorem iY{e f:Expr}(h:aC e=false)(h':aC f=false):aX [e,f]:=dP h (aZ h')
theorem kZ:∀{ps:r8}{es:List Expr},nK fn nm sc ps es=true→aX es∧es.length=mH ps
 | .nil,es,h=>dU (m:=fun es=>aX es∧es.length=0) h ⟨iI,rfl⟩
 | .cons p ps,es,h=>cV (m:=fun es=>aX es∧es.length=mH ps+1) h fun e r h=>let⟨h1,h2⟩:=aA h; let⟨i1,i2⟩:=kZ (aA h2).2; ⟨dP (bJ h1) i1,congrArg Nat.succ i2⟩
theorem jR{s:Shared}{a:Value}{x:PyData}{as:List Addr}(ra:Rd s.heap a x as)(h:(x.ctorIdx==3||x.ctorIdx==4)=true) :
  ∃ T id,s.TypeIs a T∧typeLookup (.type T) "__getitem__" = pure (some (.builtin id)):=by
 cases x with
 | list xs=>obtain⟨a,vs,bs,rfl,⟨o,h1,h2,_⟩,_⟩:=cC ra; exact⟨_,_,⟨_,h1,h2⟩,F.slot_list_getitem.lookup⟩
 | str x=>obtain⟨t,rfl⟩:=fF ra; exact⟨_,_,typeIs_str _ _ _,F.slot_str_getitem.lookup⟩
 | _=>cases h
theorem LP{x d:PyData}{lo hi:Option Int}(h:IJ x lo hi=some d):(x.ctorIdx==3||x.ctorIdx==4)=true:=by cases x <;> first | rfl | cases h
theorem M1{x y d:PyData}(h:BA x y=some d):(x.ctorIdx==3||x.ctorIdx==4)=true:=EE h fun i _ h=>by cases x <;> first | rfl | cases h
theorem RW{O:List (Option Nat×Addr)}{es:List Nat}{as:List Addr}(h:∀ yb∈O,yb.2∈as→iP yb.1 es):∀ yb∈O,yb.2∈as.tail→iP yb.1 es:=fun yb hy hm=>h yb hy (List.mem_of_mem_tail hm)
theorem UX{a i:PE}{v sl:Expr}{pos:Pos}(hns:rO sl=false)(ha:SE Z cl lvl nm sc v a)(hi:SE Z cl lvl nm sc sl i):SE Z cl lvl nm sc (.Subscript v sl pos) (.idx a i):=fun{A env ρ O s d Q E}X hd g=>aT hd fun x hx hd=>aT hd fun y hy hd =>
 Subscript_ (ha X hx fun va as s₁ I₁ k₁ r₁ ok₁ o₁=>hi (X.kp k₁ I₁) hy fun vb bs s₂ I₂ k₂ r₂ ok₂ o₂=>by
  obtain⟨T,id,hT,hl⟩:=jR (k₂.rd r₁) (M1 hd)
  refine tail_any (ops:=[va,vb]) hT hl (vY I₂ (k₂.rd r₁) r₂ ok₁ hd (g.kp (k₁.trans k₂)) (RW o₁)) ?_
  cases sl with
  | Slice=>cases hns
  | _=>rfl)
def SO(Z:aE)(cl:Nat→List PyData→Option PyData)(lvl:Nat)(nm:List Str)(sc:Scope)(o:Option Expr)(p:PO):Prop :=
 ∀{A:Around}{env:Env}{ρ:aL}{O:List (Option Nat×Addr)}{s:Shared}{d:Option Int}{Q:Value→Shared→Prop}{E:Value→Shared→Prop},
  Cx Z lvl nm sc A env ρ O s→W2 cl p ρ=some d →
  (∀ q:Option (Int×Tok),q.map (·.1)=d→∀ s',bB Z s'→Kp Z.n s.heap s'.heap→Q (partValue q) s')→wpAny (model Z.prog Z.w) A (evalPart o env) Q E s
theorem YL:SO Z cl lvl nm sc none .no:=fun{A env ρ O s d Q E}X hd hQ=>by
 cases hd
 exact wpAny_pure (hQ none rfl s X.hi (Kp.refl _ _))
theorem wB{x:PyData}{i:Int}(h:pZ x=some i):x = .int i:=by
 cases x with
 | int j=>exact congrArg _ (iO h fun _ e=>Option.some.inj e)
 | _=>cases h
theorem UP{e:Expr}{p:PE}(h:SE Z cl lvl nm sc e p):SO Z cl lvl nm sc (some e) (.yes p):=fun{A env ρ O s d Q E}X hd hQ=>aT hd fun x hx hd=>b7 hd fun i hi e=>by
 subst e
 rw[evalPart_some]
 exact h X hx fun v as s' I' k r hok ho=>NV (m:=fun v=>Q v s') (wB hi▸r) fun t=>hQ (some (i,t)) rfl s' I' k
theorem UU{a:PE}{lo hi:PO}{v:Expr}{l u:Option Expr}{p pos:Pos}(ha:SE Z cl lvl nm sc v a)(hl:SO Z cl lvl nm sc l lo)(hu:SO Z cl lvl nm sc u hi):SE Z cl lvl nm sc (.Subscript v (.Slice l u none p) pos) (.slc a lo hi):=fun{A env ρ O s d Q E}X hd g =>
 aT hd fun x hx hd=>aT hd fun y hy hd=>aT hd fun z hz hd =>
 Subscript_ (ha X hx fun va as s₁ I₁ k₁ r₁ ok₁ o₁=>wpAny_Slice (hl (X.kp k₁ I₁) hy fun q1 e1 s₂ I₂ k₂=>hu (X.kp (k₁.trans k₂) I₂) hz fun q2 e2 s₃ I₃ k₃=>wpAny_pure (by
  have k₄:=(k₂.trans k₃).trans (Kp.push Z.n s₃.heap { cls:=.type "slice",data:=.fields #[partValue q1,partValue q2,.none] })
  have ra:=k₄.rd r₁
  obtain⟨T,id,hT,hl⟩:=jR (s:={ s₃ with heap:=s₃.heap.push { cls:=.type "slice",data:=.fields #[partValue q1,partValue q2,.none] } }) ra (LP hd)
  exact tail_any (ops:=[.ref s₃.heap.objs.size,va]) hT hl (vX (lo:=q1) (hi:=q2) (I₃.push _ s₃.toks) ra ok₁ ⟨_,Heap.get?_push_size _ rfl,rfl,rfl⟩ (by rw[e1,e2]; exact hd) (g.kp (k₁.trans k₄)) (RW o₁) (X.he.kp (k₁.trans k₄)).lt) rfl)))
noncomputable def cJ(e:Expr):Bool:=dG e fun f _ _ _=>aW f fun _ _=>true
theorem aQ{e:Expr}(h:cJ e=false)(n:Str)(env:Env)(w:Sem Value):attributeBase e n env w=w:=by
 cases e with
 | Call f=>cases f with
  | Name=>cases h
  | _=>rfl
 | _=>rfl
theorem HU{e:Expr}(h:CC e=true):cJ e=false:=by
 have h2:e.ctorIdx≠16:=fun c=>by
  unfold CC at h
  rw[c]at h
  cases h
 exact dif_neg h2
theorem jE{es:List Expr}{env:Env}{pos:Pos}(hpl:aX es)(hlen:es.length≤5):methodCallForm (es.length+([]:List Keyword).length) (backTo pos (starEach es env)) (backToKw pos (keywordEach [] env))=true:=by
 have h1:=hpl.1 env pos
 rw[List.any_eq_not_all_not,Bool.not_eq_false']at h1
 show((backTo pos (starEach es env)).all (fun x=>!x.1)&&(backToKw pos (keywordEach [] env)).all (fun x=>x.1.isSome)&&decide (es.length+([]:List Keyword).length+(if([]:List Keyword).isEmpty then 0 else 1)<30))=true
 rw[h1]
 exact decide_eq_true (Nat.lt_of_le_of_lt hlen (by decide))
def X1(Z:aE)(A:Around)(s:Shared)(O:List (Option Nat×Addr))(es:List Nat)(Q E:Value→Shared→Prop)(m:Me)(o:Value)(d:PyData)(ds:List PyData):Prop :=
 ∃ T,PlainAttrs T∧Slot T (B7 m) (IN m)∧typeOf (.builtin (IN m))=pure (.type "method_descriptor")∧s.TypeIs o T∧(∀ a,o = .ref a→∃ ob,s.heap.get? a=some ob∧ob.dict=none) ∧
  ∀{vs:List Value}{s':Shared}{as:List Addr},Kp Z.n s.heap s'.heap→bB Z s'→aR s'.heap vs ds as→cM ds=true→pW Z s' O es d Q→wpAny (model Z.prog Z.w) A (call (.builtin (IN m)) (o::vs)) Q E s'
theorem LL{A:Around}{E:Value→Shared→Prop}{s:Shared}{O:List (Option Nat×Addr)}{es:List Nat}{Q:Value→Shared→Prop}{m:Me}{o:Value}{od:PyData}{os:List Addr}{ds:List PyData}{d:PyData}
  (hA:fJ Z lvl A) (ro:Rd s.heap o od os) (hod:bL od=true) (h:Cr m od ds=some d):X1 Z A s O es Q E m o d ds:=by
 refine R9 (m:=X1 Z A s O es Q E m o d) h (fun x h=>?_) nofun
 cases m with
 | join =>
  exact j5 h fun sep e h=>iC h fun xs e' h=>by
   subst e e'
   obtain⟨t,rfl⟩:=fF ro
   exact⟨_,F.plainAttrs_str,F.slot_str_join,F.type_str_join,typeIs_str _ _ _,nofun,fun{vs s' as}k I r hd g=>mP (m:=fun vs _=>wpAny _ A (call (.builtin (IN .join)) (.str sep t::vs)) Q E s') r fun v as rv=>C6 I rv hod (aA hd).1 h g⟩
theorem YO{m:Me}{o:PE}{es:r8}{x:Expr}{args:List Expr}{apos pos:Pos}(hc:cJ x=false)(hline:(apos.endLine==pos.line)=true)(hne:mH es≠0)(hfew:mH es≤5)(ho:SE Z cl lvl nm sc x o)
  (hpl:aX args∧args.length=mH es) (hes:IA Z cl lvl nm sc args es):SE Z cl lvl nm sc (.Call (.Attribute x (B7 m) apos) args [] pos) (.me m o es):=fun{A env ρ O s d Q E}X hd g=>aT hd fun od hx hd=>aT hd fun l hy hd =>
 wpAny_Call_method_lateS (aQ hc _ _ _) (jE hpl.1 (hpl.2▸hfew)) hline (ho X hx fun vo os s₁ I₁ k₁ r₁ ok₁ o₁=>by
  obtain⟨T,pa,slot,hty,hT,hdict,fin⟩:=LL (O:=O) (es:=kB (.me m o es)) (Q:=Q) (E:=E) X.ha r₁ ok₁ hd
  exact⟨T,IN m,pa,slot,hty,hT,hdict,aV nofun (hpl.1.1 env pos) (bW (hpl.1.2.1 (fun e=>hne (hpl.2▸e▸rfl)) env pos) (hes (X.kp k₁ I₁) hy fun vs as s₂ I₂ k₂ r₂ ok₂ o₂=>fin k₂ I₂ r₂ ok₂ (g.kp (k₁.trans k₂))))⟩)
end
section
variable{h:Heap}{a:Addr}{m:Str→Option Value}{o:Obj}{xs:Array Value}{n:Nat}{v:Option Value}
theorem eS(x:h.Ns a m)(e:h.get? a=some o)(hd:o.data = .seq xs n):False:=let⟨o',es,ep,e',hd',_⟩:=x; by
 cases e.symm.trans e'
 cases hd.symm.trans hd'
theorem oU(x:h.IsCell a v)(e:h.get? a=some o)(hd:o.data = .seq xs n):False:=let⟨o',e',hd'⟩:=x; by
 cases e.symm.trans e'
 cases hd.symm.trans hd'
theorem qM(x:h.Ns a m)(y:h.IsCell a v):False:=let⟨o',es,ep,e',hd',_⟩:=x; let⟨o,e,hd⟩:=y; by
 cases e.symm.trans e'
 cases hd.symm.trans hd'
end
def cf(env:Env)(n:Str):Prop:=env.kindOf n=some .cell∨env.kindOf n=some .free
def Wr(nm:List Str)(env:Env)(xs:List Nat)(b:Addr):Prop :=
 b=env.locals∨∃ x∈xs,∃ n,nm[x]? = some n∧cf env n∧env.cells.lookup n=some b
theorem Wr.mono{nm:List Str}{env:Env}{xs ys:List Nat}{b:Addr}(h:∀ x∈xs,x∈ys)(w:Wr nm env xs b):Wr nm env ys b :=
 w.elim .inl fun⟨x,hx,r⟩=>.inr ⟨x,h x hx,r⟩
structure aK(Z:aE)(nm:List Str)(env:Env)(xs:List Nat)(X:Addr→Prop)(h h':Heap):Prop where
 keep:∀ b o,h.get? b=some o→(o.cls ≠ .none∨Z.n≤b)→¬Wr nm env xs b→¬X b→Sl h' b o
 acc:∀ n v,(∀ x∈xs,nm[x]? ≠ some n)→uX env h n v→uX env h' n v
 ns:(∃ m,h.Ns env.locals m)→∃ m,h'.Ns env.locals m
 cells:∀ n c v,cf env n→env.cells.lookup n=some c→h.IsCell c v→∃ v',h'.IsCell c v'
theorem iW{nm:List Str}(hnd:nm.Nodup){x y:Nat}{n:Str}(h1:nm[x]? = some n)(h2:nm[y]? = some n):x=y :=
 let⟨_,e1⟩:=List.getElem?_eq_some_iff.mp h1; let⟨_,e2⟩:=List.getElem?_eq_some_iff.mp h2; (List.getElem_inj hnd).mp (e1.trans e2.symm)
section
variable{Z:aE}{nm:List Str}{env:Env}{xs:List Nat}{X:Addr→Prop}{h h' h₁ h₂ h₃:Heap}{ρ:aL}{O:List (Option Nat×Addr)}
theorem aH.cellAt(hE:aH Z nm env ρ O h){n:Str}(hk:cf env n){c:Addr}(hc:env.cells.lookup n=some c):Z.n≤c∧∃ v,h.IsCell c v:=by
 obtain⟨c',v,e,hn,hv⟩:=hE.cells n hk
 cases hc.symm.trans e
 exact⟨hn,v,hv⟩
theorem aK.trans(a:aK Z nm env xs X h₁ h₂)(b:aK Z nm env xs X h₂ h₃):aK Z nm env xs X h₁ h₃ where
 keep:=fun y o e c hw hx=>(a.keep y o e c hw hx).next fun o' e' hc=>b.keep y o' e' (by rw[hc]; exact c) hw hx
 acc:=fun n v hn hv=>b.acc n v hn (a.acc n v hn hv)
 ns:=fun hn=>b.ns (a.ns hn)
 cells:=fun n c v hk hc hv=>let⟨v',hv'⟩:=a.cells n c v hk hc hv; b.cells n c v' hk hc hv'
theorem aK.mono{ys:List Nat}{Y:Addr→Prop}(a:aK Z nm env xs X h h')(hxy:∀ x∈xs,x∈ys)(hXY:∀ b,X b→Y b):aK Z nm env ys Y h h' where
 keep:=fun y o e c hw hx=>a.keep y o e c (fun w=>hw (w.mono hxy)) fun q=>hx (hXY _ q)
 acc:=fun n v hn hv=>a.acc n v (fun x hx=>hn x (hxy x hx)) hv
 ns:=a.ns
 cells:=a.cells
theorem aK.of_kp(hE:aH Z nm env ρ O h)(k:Kp Z.n h h'):aK Z nm env xs X h h' where
 keep:=fun y o e c _ _=>k.k y o e c
 acc:=fun n v _ hv=>hv.kp k hE.new fun c hc hk=>(hE.cellAt hk hc).1
 ns:=fun⟨m,hm⟩=>⟨m,k.ns hE.new hm⟩
 cells:=fun n c v hk hc hv=>⟨v,k.cell (hE.cellAt hk hc).1 hv⟩
theorem aH.wr_ge(hE:aH Z nm env ρ O h){b:Addr}(w:Wr nm env xs b):Z.n≤b∧b<h.objs.size∧∀ o vs n,h.get? b=some o→o.data ≠ .seq vs n:=by
 rcases w with rfl | ⟨x,hx,n,hn,hk,hc⟩
 ·obtain⟨m,hm⟩:=hE.ns
  exact⟨hE.new,hm.lt,fun o vs n e hd=>eS hm e hd⟩
 ·obtain⟨h2,v,h3⟩:=hE.cellAt hk hc
  exact⟨h2,h3.lt,fun o vs n e hd=>oU h3 e hd⟩
theorem aH.out(hE:aH Z nm env ρ O h){yb:Option Nat×Addr}(hy:yb∈O):¬Wr nm env xs yb.2:=fun w =>
 w.elim (hE.apart yb hy).1 fun⟨_,_,n,_,hk,hc⟩=>(hE.apart yb hy).2 n _ hk hc rfl
theorem aK.rd{q:Bool}{vs:List Value}{ds:List PyData}{as:List Addr}(T:aK Z nm env xs X h h')(hE:aH Z nm env ρ O h)(r:gU h q vs ds as)(hX:∀ b∈as,¬X b):gU h' q vs ds as:=r.map fun b o hb e c=>by
 obtain⟨o',vs,m,e',hd,_⟩:=r.objs b hb
 cases e.symm.trans e'
 exact(T.keep b o e (.inl (by rw[c]; nofun)) (fun w=>(hE.wr_ge w).2.2 o vs m e hd) (hX b hb)).seq hd
theorem aH.of_turned'{O₂:List (Option Nat×Addr)}(hE:aH Z nm env ρ O h)(hsub:∀ yb∈O₂,yb∈O)(hnd:nm.Nodup)(T:aK Z nm env xs X h h')(hρ:∀ x∈xs,bC ρ x=none)(hX:∀ yb∈O₂,X yb.2→∃ o,h'.get? yb.2=some o∧o.cls ≠ .none)
  (hR:∀ b,X b→(none,b)∈O):aH Z nm env ρ O₂ h' where
 kind:=hE.kind
 glob:=hE.glob
 blt:=hE.blt
 new:=hE.new
 ns:=T.ns hE.ns
 live:=fun yb hy=>by
  by_cases hx:X yb.2
  ·exact hX yb hy hx
  ·obtain⟨o,e,c⟩:=hE.live yb (hsub yb hy)
   obtain⟨o',e',hc,_⟩:=(T.keep _ _ e (.inl c) (hE.out (hsub yb hy)) hx).ex
   exact⟨o',e',hc▸c⟩
 apart:=fun yb hy=>hE.apart yb (hsub yb hy)
 cells:=fun n hk=>let⟨c,v,e,h2,h3⟩:=hE.cells n hk; let⟨v',h4⟩:=T.cells n c v hk e h3; ⟨c,v',e,h2,h4⟩
 inj:=hE.inj
 vars:=fun y d n h1 h2 h3=>by
  obtain⟨v,as,a,r,hok,ho⟩:=hE.vars y d n h1 h2 h3
  refine⟨v,as,T.acc n v (fun x hx hxn=>?_) a,T.rd hE r fun b hb q=>?_,hok,fun yb hy=>ho yb (hsub yb hy)⟩
  ·cases(hρ y (iW hnd hxn h2▸hx)).symm.trans h1
  ·cases(ho _ (hR b q) hb).1
theorem aH.of_turned(hE:aH Z nm env ρ O h)(hnd:nm.Nodup)(T:aK Z nm env xs X h h')(hρ:∀ x∈xs,bC ρ x=none)(hX:∀ yb∈O,X yb.2→∃ o,h'.get? yb.2=some o∧o.cls ≠ .none)
  (hR:∀ b,X b→(none,b)∈O):aH Z nm env ρ O h':=hE.of_turned' (fun _ h=>h) hnd T hρ hX hR
theorem aH.lessO{O':List (Option Nat×Addr)}(hE:aH Z nm env ρ O h)(hs:∀ yb∈O',yb∈O):aH Z nm env ρ O' h :=
 { hE with live:=fun yb hy=>hE.live yb (hs yb hy),apart:=fun yb hy=>hE.apart yb (hs yb hy),vars:=fun y d n h1 h2 h3=>let⟨v,as,a,r,hok,ho⟩:=hE.vars y d n h1 h2 h3; ⟨v,as,a,r,hok,fun yb hy=>ho yb (hs yb hy)⟩ }
theorem aH.lessV{ρ':aL}(hE:aH Z nm env ρ O h)(hs:∀ x d,bC ρ' x=some d→bC ρ x=some d):aH Z nm env ρ' O h :=
 { hE with vars:=fun y d n h1=>hE.vars y d n (hs y d h1) }
theorem FH{a:Addr}{m m':Str→Option Value}(x:h.Ns a m)(y:h.Ns a m')(n:Str):m n=m' n:=by
 obtain⟨o,es,ep,e,hd,_,hm⟩:=x
 obtain⟨o',es',ep',e',hd',_,hm'⟩:=y
 cases e.symm.trans e'
 cases hd.symm.trans hd'
 exact(hm n).symm.trans (hm' n)
theorem uX.uniq{n:Str}{v w:Value}(a:uX env h n v)(b:uX env h n w):v=w:=by
 rcases a with⟨h1,m,h2,h3⟩| ⟨h1,c,h2,o,e,hd⟩ <;> rcases b with⟨g1,m',g2,g3⟩| ⟨g1,c',g2,o',e',hd'⟩
 ·exact Option.some.inj ((h3.symm.trans (FH h2 g2 n)).trans g3)
 ·rw[h1]at g1; exact g1.elim nofun nofun
 ·rw[g1]at h1; exact h1.elim nofun nofun
 ·cases h2.symm.trans g2
  cases e.symm.trans e'
  cases hd.symm.trans hd'
  rfl
theorem lQ{x y:Nat}{d:PyData}{q:Option PyData}(h:bC (ρ.set x q) y=some d):(y=x∧q=some d)∨(y≠x∧bC ρ y=some d):=by
 unfold bC at h ⊢
 rw[List.getElem?_set]at h
 by_cases e:x=y
 ·rw[if_pos e]at h
  by_cases hx:x<ρ.length
  ·rw[if_pos hx]at h; exact .inl ⟨e.symm,h⟩
  ·rw[if_neg hx]at h; cases h
 ·rw[if_neg e]at h
  exact .inr ⟨fun e'=>e e'.symm,h⟩
theorem uI(ρ:aL)(x:Nat):bC (ρ.set x none) x=none:=by
 cases e:bC (ρ.set x none) x with
 | none=>rfl
 | some d=>rcases lQ e with⟨_,e⟩| ⟨e,_⟩ <;> first | cases e | exact absurd rfl e
theorem AE{x y:Nat}(q:Option PyData)(h:x≠y):bC (ρ.set x q) y=bC ρ y:=by unfold bC; rw[List.getElem?_set,if_neg h]
theorem wL{x y:Nat}{d:PyData}(h:bC (ρ.set x none) y=some d):bC ρ y=some d:=(lQ h).elim (fun e=>nomatch e.2) fun e=>e.2
theorem vW{M:Model}{A:Around}{E:Value→Shared→Prop}{s:Shared}{n:Str}{v:Value}{x:Nat}{Q:Unit→Shared→Prop}(hE:aH Z nm env ρ O s.heap)(hI:bB Z s)(hx:nm[x]? = some n)
  (hk:env.kindOf n=some .local∨env.kindOf n=some .cell)
  (hQ:∀ h' tk,bB Z { s with heap:=h',toks:=tk }→uX env h' n v→aK Z nm env [x] (fun _=>False) s.heap h'→Q () { s with heap:=h',toks:=tk }):wpAny M A (storeName env n v) Q E s:=by
 obtain⟨m,hm⟩:=hE.ns
 have hne:∀{y},(∀ x'∈[x],nm[x']? ≠ some y)→y≠n:=fun hy e=>hy x (List.mem_singleton.mpr rfl) (e▸hx)
 rcases hk with hk | hk
 ·refine wpAny_storeName_local hk hm (fun h' hn hs=>hQ h' _ (hI.same hE.new hs (fun _=>let⟨o,es,ep,e,hd,_⟩:=hn; ⟨o,e,es,ep,hd⟩) _) (.inl ⟨hk,_,hn,if_pos rfl⟩) ?_) (by simp[hE.kind])
  have cell:∀{c u},s.heap.IsCell c u→h'.IsCell c u:=fun⟨o,e,hd⟩=>⟨o,(hs.2 _ fun e'=>qM hm ⟨o,e'▸e,hd⟩).trans e,hd⟩
  refine⟨fun b o e _ hw _=>.inl ((hs.2 b fun e'=>hw (.inl e')).trans e),fun y u hy hv=>?_,fun _=>⟨_,hn⟩,fun y c u hyk hc hu=>⟨u,cell hu⟩⟩
  rcases hv with⟨h1,m',h2,h3⟩| ⟨h1,c,h2,h3⟩
  ·exact .inl ⟨h1,_,hn,(if_neg (hne hy)).trans ((FH hm h2 y).trans h3)⟩
  ·exact .inr ⟨h1,c,h2,cell h3⟩
 ·obtain⟨c,v₀,hc,hcn,hcell⟩:=hE.cells n (.inl hk)
  refine wpAny_storeName_cell hE.kind hk hc hcell fun h' hc' hs=>hQ h' s.toks (hI.same hcn hs (fun h=>absurd h (let⟨o,e,hd⟩:=hcell; hI.frNot e fun es ep h=>by cases hd.symm.trans h)) _) (.inr ⟨.inl hk,c,hc,hc'⟩) ?_
  have hlc:env.locals≠c:=fun e=>qM hm (e▸hcell)
  refine⟨fun b o e _ hw _=>.inl ((hs.2 b fun e'=>hw (.inr ⟨x,List.mem_singleton.mpr rfl,n,hx,.inl hk,e'▸hc⟩)).trans e),fun y u hy hv=>?_,fun _=>⟨m,hm.sameBut hs hlc⟩,fun y c' u hyk hyc hu=>?_⟩
  ·rcases hv with⟨h1,m',h2,h3⟩| ⟨h1,c',h2,o,e,hd⟩
   ·exact .inl ⟨h1,m',h2.sameBut hs hlc,h3⟩
   ·exact .inr ⟨h1,c',h2,o,(hs.2 c' fun e'=>hne hy (hE.inj y n c h1 (.inl hk) (e'▸h2) hc)).trans e,hd⟩
  ·by_cases e:c'=c
   ·exact⟨_,e▸hc'⟩
   ·obtain⟨o,e',hd⟩:=hu
    exact⟨u,o,(hs.2 c' e).trans e',hd⟩
theorem aH.stored{x:Nat}{n:Str}{v:Value}{d:PyData}{as:List Addr}(hE:aH Z nm env ρ O h)(hnd:nm.Nodup)(hx:nm[x]? = some n)(T:aK Z nm env [x] (fun _=>False) h h')(a:uX env h' n v)
  (r:Rd h v d as) (hd:bL d=true) (ho:∀ yb∈O,yb.2∈as→yb.1=some x∧as.head? = some yb.2):aH Z nm env (ρ.set x (some d)) O h' :=
 have h0:aH Z nm env (ρ.set x none) O h':=aH.of_turned (hE.lessV (ρ':=ρ.set x none) fun y q hy=>wL hy) hnd T (fun y hy=>by cases List.mem_singleton.mp hy; exact uI ρ x) (fun _ _ h=>h.elim) fun _ h=>h.elim
 { h0 with
  vars:=fun y q m h1 h2 h3=>by
   rcases lQ h1 with⟨rfl,e⟩| ⟨hne,e⟩
   ·cases e
    cases hx.symm.trans h2
    exact⟨v,as,a,T.rd hE r fun _ _=>id,hd,ho⟩
   ·exact h0.vars y q m ((AE none fun e=>hne e.symm).trans e) h2 h3 }
theorem FM{sc:Scope}(hs:u5 sc env){n:Str}(h:iN sc n=true)(hf:env.kindOf n≠some .free):env.kindOf n=some .local∨env.kindOf n=some .cell:=by
 rcases Bool.or_eq_true_iff.mp h with h | h
 ·exact .inl (hs.1 n (eq_of_beq h))
 ·exact(hs.2.1 n (.inl (eq_of_beq h))).elim .inr fun e=>absurd e hf
def pI(sc:Scope)(env:Env):Prop:=∀ n,iN sc n=true→env.kindOf n≠some .free
end
section
variable{Z:aE}{cl:Nat→List PyData→Option PyData}{lvl:Nat}{nm:List Str}{fn:List Str}{sc:Scope}
theorem lW{A:Around}{env:Env}{ρ:aL}{O:List (Option Nat×Addr)}{s:Shared}{E:Value→Shared→Prop}{x:Nat}{n:Str}{p:Pos}{v:Value}{d:PyData}{as:List Addr}{Q:Unit→Shared→Prop}(hnd:nm.Nodup)(hx:nm[x]? = some n)(hl:iN sc n=true)
  (hs:u5 sc env) (hf:pI sc env) (hE:aH Z nm env ρ O s.heap) (hI:bB Z s) (r:Rd s.heap v d as) (hd:bL d=true) (ho:∀ yb∈O,yb.2∉as)
  (hQ:∀ s',bB Z s'→aH Z nm env (ρ.set x (some d)) O s'.heap→aK Z nm env [x] (fun _=>False) s.heap s'.heap→Q () s'):wpAny (model Z.prog Z.w) A (assign (.Name n p) env v) Q E s :=
 wpAny_assign_Name (vW hE hI hx (FM hs hl (hf n hl)) fun _ _ I' a T=>hQ _ I' (hE.stored hnd hx T a r hd fun yb hy hm=>absurd hm (ho yb hy)) T)
structure Cv(Z:aE)(A:Around)(O:List (Option Nat×Addr))(p:PI)(s:Shared)(ds:List PyData)(I:Addr)(used:List Addr)(St:Nat→Heap→Prop)(s':Shared):Prop where
 iter:w9 Z A I ds used St
 start:St 0 s'.heap
 ok:cM ds=true
 len:ds.length≤sizeLine
 inv:bB Z s'
 kp:Kp Z.n s.heap s'.heap
 fresh:s.heap.get? I=none
 seq:∀ a∈used,∃ o vs n,s'.heap.get? a=some o∧o.data = .seq vs n∧o.cls ≠ .none
 own:∀ yb∈O,yb.2∈used→iP yb.1 (cT p)
def SI(Z:aE)(cl:Nat→List PyData→Option PyData)(lvl:Nat)(nm:List Str)(sc:Scope)(e:Expr)(p:PI):Prop :=
 ∀{A:Around}{env:Env}{ρ:aL}{O:List (Option Nat×Addr)}{s:Shared}{ds:List PyData}{Q:Value→Shared→Prop}{E:Value→Shared→Prop},
  Cx Z lvl nm sc A env ρ O s→uY cl p ρ=some ds →
  (∀ I used St s',Cv Z A O p s ds I used St s'→Q (.ref I) s')→wpAny (model Z.prog Z.w) A (eval e env) (fun x s₁=>wpAny (model Z.prog Z.w) A (pyIter x) Q E s₁) E s
theorem get?_ge {h:Heap} {a:Addr} (ha:h.objs.size≤a):h.get? a=none:=by
 cases e:h.get? a with
 | none=>rfl
 | some o=>exact absurd (Heap.lt_size e) (Nat.not_lt.mpr ha)
theorem Kp.none{h h':Heap}(k:Kp Z.n h h'){a:Addr}(hna:Z.n≤a)(ha:h'.get? a=none):h.get? a=none:=by
 cases e:h.get? a with
 | none=>rfl
 | some o=>obtain⟨_,this,_⟩:=(k.k a o e (.inr hna)).ex; cases ha.symm.trans this
theorem RZ{e:Expr}{p:PE}(h:SE Z cl lvl nm sc e p):SI Z cl lvl nm sc e (.of p):=fun{A env ρ O s ds Q E}X hd hQ=>aT hd fun x hx hd=>h X hx fun v as s₁ I₁ k₁ r₁ ok₁ o₁=>by
 cases x with
 | list xs =>
  cases hd
  obtain⟨a,items,as',rfl,hl,ra,rfl⟩:=cC r₁
  have hsz:Z.n≤s₁.heap.objs.size:=(X.he.kp k₁).size
  have hp:∀{b o}{ob:Obj},s₁.heap.get? b=some o→(s₁.heap.push ob).get? b=some o:=fun e=>Heap.get?_push_of_some _ e
  exact wpAny_pyIter_list hl (hQ s₁.heap.objs.size (a::as') (fun k h=>h.IsListIter s₁.heap.objs.size a k∧h.IsList a items∧aR h items.toList ds as') _
   ⟨w9.list X.ha.handled hsz (I₁.frLt (Nat.le_refl _)) fun hb=>Nat.lt_irrefl _ (r₁.lt _ hb),⟨⟨_,Heap.get?_push_size _ rfl,rfl,rfl⟩,bN hl fun o e=>hp e,ra.map fun _ _ _ e _=>hp e⟩,(rZ ok₁).2,(rZ ok₁).1,I₁.push _ _,k₁.trans (Kp.push _ _ _),k₁.none hsz (get?_ge (Nat.le_refl _)),
    fun b hb=>let⟨o,vs,n,e,hd,hc⟩:=r₁.objs b hb; ⟨o,vs,n,hp e,hd,by rw[hc]; nofun⟩,o₁⟩)
 | _=>cases hd
theorem ER{A:Around}{env:Env}{ρ:aL}{O:List (Option Nat×Addr)}{s s₁:Shared}{Q:Value→Shared→Prop}{E:Value→Shared→Prop}{p:PI}{lo hi k:Int}{t u v:Tok}{r:Addr}(X:Cx Z lvl nm sc A env ρ O s)(hs:Builtin.Range.small lo hi k=true)(hl:(Builtin.Range.rangeSize lo hi k).toNat≤sizeLine)(hI:bB Z s₁)
  (kp:Kp Z.n s.heap s₁.heap) (hR:IsRange s₁.heap r lo hi k t u v) (hQ:∀ I used St s',Cv Z A O p s (XE lo hi k) I used St s'→Q (.ref I) s'):wpAny (model Z.prog Z.w) A (pyIter (.ref r)) Q E s₁:=by
 have hsz:=(X.he.kp kp).size
 refine wpAny_pyIter_range hR hs (hQ _ [] (fun j h=>IsRangeIter h _ (lo+(j:Nat)*k) (((Builtin.Range.rangeSize lo hi k).toNat:Int) - (j:Nat)) k) _
  ⟨w9.range X.ha.handled hsz (hI.frLt (Nat.le_refl _)),?_,bV.mpr fun d hd=>let⟨_,_,e⟩:=List.mem_map.mp hd; e▸rfl,?_,hI.push _ _,kp.trans (Kp.push _ _ _),kp.none hsz (get?_ge (Nat.le_refl _)),nofun,nofun⟩)
 ·show IsRangeIter _ _ (lo+((0:Nat):Int)*k) (((Builtin.Range.rangeSize lo hi k).toNat:Int) - ((0:Nat):Int)) k
  rw[show lo+((0:Nat):Int)*k=lo from(congrArg (lo + ·) (Int.zero_mul k)).trans (Int.add_zero lo),show(((Builtin.Range.rangeSize lo hi k).toNat:Int) - ((0:Nat):Int))=Builtin.Range.rangeSize lo hi k from(Int.sub_zero _).trans (rangeSize_toNat lo hi k).symm]
  exact Heap.get?_push_size _ rfl
 ·unfold XE
  rw[List.length_map,List.length_range]
  exact hl
theorem lU{n:Str}{p pos:Pos}{es:List Expr}{ps:r8}{v:Value}{A:Around}{env:Env}{ρ:aL}{O:List (Option Nat×Addr)}{s:Shared}{ds:List PyData}{Q:Value→Shared→Prop}{E:Value→Shared→Prop}(hB:fE Z)(X:Cx Z lvl nm sc A env ρ O s)(hg:aP sc n=true)(hv:(n,v)∈sP)(hnr:∀ a,v ≠ .ref a)(hne:es≠[])(hpl:aX es)(h:IA Z cl lvl nm sc es ps)(hd:kF cl ps ρ=some ds)
  (hQ:∀ vs as s',bB Z s'→Kp Z.n s.heap s'.heap→aR s'.heap vs ds as→cM ds=true→(∀ yb∈O,yb.2∈as→iP yb.1 (nB ps))→wpAny (model Z.prog Z.w) A (call v vs) Q E s') :
  wpAny (model Z.prog Z.w) A (eval (.Call (.Name n p) es [] pos) env) Q E s:=by
 rw[bX]
 exact wpAny_bind (F4 hB X hg hv (aV hnr (hpl.1 env pos) (bW (hpl.2.1 hne env pos) (h X hd hQ))))
theorem xZ{e:Expr}{p:PE}(hst:aC e=false)(h:SE Z cl lvl nm sc e p):IA Z cl lvl nm sc [e] (.cons p .nil):=nY (bF hst []) h yA
theorem ET{e f:Expr}{p q:PE}(hst:aC e=false)(hst':aC f=false)(h:SE Z cl lvl nm sc e p)(h':SE Z cl lvl nm sc f q):IA Z cl lvl nm sc [e,f] (.cons p (.cons q .nil)) :=
 nY (bF hst [f]) h (xZ hst' h')
theorem G0{e:Expr}{p q:Pos}{a:PE}(hB:fE Z)(hg:aP sc "range" = true)(hst:aC e=false)(h:SE Z cl lvl nm sc e a):SI Z cl lvl nm sc (.Call (.Name "range" p) [e] [] q) (.range1 a):=fun{A env ρ O s ds Q E}X hd hQ=>aT hd fun x hx hd=>EE hd fun n e hd=>DX hd fun hr e'=>by
 subst e e'
 have h0:0≤n:=of_decide_eq_true (aA hr).1
 have h1:n≤2 ^ 20:=of_decide_eq_true (aA hr).2
 have hl:(Builtin.Range.rangeSize 0 n 1).toNat≤sizeLine:=by
  rw[rangeSize_nat,Int.toNat_natCast,Int.sub_zero]
  exact Int.toNat_le.mpr (Int.le_trans h1 (by decide))
 exact lU (ps:=.cons a .nil) (ds:=[.int n]) hB X hg (v:=.type "range") (by decide) nofun nofun (aZ hst) (xZ hst h) (by rw[kF,hx]; rfl) fun vs as s₁ I₁ k₁ r₁ ok₁ o₁ =>
  mP (m:=fun vs _=>wpAny _ A (call (.type "range") vs) _ E s₁) r₁ fun v as r=>NV (m:=fun v=>wpAny _ A (call (.type "range") [v]) _ E s₁) r fun t=>call_range_1 (ER X (small_one (by decide) (by decide) (Int.le_trans (by decide) h0) (Int.lt_of_le_of_lt h1 (by decide))) hl (I₁.push _ _) (k₁.trans (Kp.push _ _ _)) (IsRange.new _ 0 n 1 _ _ _) hQ)
theorem Bd{h:Heap}{vs:List Value}{i j k:Int}{as:List Addr}{m:List Value→Prop}(r:aR h vs [.int i,.int j,.int k] as)(g:∀ t u v,m [.int i t,.int j u,.int k v]):m vs :=
 J2 r fun v vs _ _ ra r=>NV (m:=fun v=>m (v::vs)) ra fun t=>J3 (m:=fun vs=>m (_::vs)) r fun v w _ _ rb rc=>NV (m:=fun v=>m [_,v,w]) rb fun u=>NV (m:=fun w=>m [_,_,w]) rc fun v=>g t u v
theorem GZ{k1 k2 k3:Nat}{p p1 p2 p3 q:Pos}{m n k:Int}(hB:fE Z)(hg:aP sc "range" = true):SI Z cl lvl nm sc (.Call (.Name "range" p) [.Constant (.int m) k1 p1,.Constant (.int n) k2 p2,.Constant (.int k) k3 p3] [] q) (.range3 m n k):=fun{A env ρ O s ds Q E}X hd hQ=>DX hd fun hr e'=>by
 subst e'
 obtain⟨r0,hr⟩:=aA hr
 obtain⟨r1,hr⟩:=aA hr
 obtain⟨r2,r3⟩:=aA hr
 have lit:∀{i:Int}{k:Nat}{p:Pos},SE Z cl lvl nm sc (.Constant (.int i) k p) (.lit (.int i)):=JY rfl
 refine lU (ds:=[.int m,.int n,.int k]) hB X hg (v:=.type "range") (by decide) nofun nofun (dP rfl (iY rfl rfl)) (nY (bF rfl _) lit (ET rfl rfl lit lit)) rfl fun vs as s₁ I₁ k₁ r₁ _ _ =>
  Bd (m:=fun vs=>wpAny _ A (call (.type "range") vs) _ E s₁) r₁ fun t u v=>?_
 exact call_range_3 (ne_of_beq_false (bJ r0)) (ER X r1 (Nat.le_trans (of_decide_eq_true r3) (by decide)) (I₁.push _ _) (k₁.trans (Kp.push _ _ _)) (IsRange.new _ m n k _ _ _) hQ) (.inl (bJ r2))
theorem pQ{e:Expr}(h:iF e=false)(env:Env)(x:Value):foldedSetIterable e env x=pure x:=by
 cases e with
 | Set=>cases h
 | _=>rfl
noncomputable def hit(es:List Nat):Option Nat→Bool
 | none=>false
 | some y=>es.contains y
theorem yK{es:List Nat}{o:Option Nat}:hit es o=true↔iP o es:=by
 cases o with
 | none=>exact⟨nofun,fun⟨_,_,h⟩=>nomatch h⟩
 | some y=>exact⟨fun h=>⟨y,List.contains_iff_mem.mp h,rfl⟩,fun⟨z,h,e⟩=>by cases e; exact List.contains_iff_mem.mpr h⟩
noncomputable def reserves(fp:List Addr)(O:List (Option Nat×Addr))(es:List Nat):List (Option Nat×Addr):=fp.map (fun a=>(none,a))++O.filter fun yb=>!hit es yb.1
noncomputable abbrev reserve(I:Addr)(O:List (Option Nat×Addr))(es:List Nat):List (Option Nat×Addr):=reserves [I] O es
section
variable{fp:List Addr}{O:List (Option Nat×Addr)}{es:List Nat}{yb:Option Nat×Addr}{I:Addr}
theorem cZ(h:yb∈reserves fp O es):(∃ a∈fp,yb=(none,a))∨(yb∈O∧¬iP yb.1 es) :=
 (List.mem_append.mp h).imp (fun h=>let⟨a,ha,e⟩:=List.mem_map.mp h; ⟨a,ha,e.symm⟩) fun h=>⟨(List.mem_filter.mp h).1,fun h'=>by have:=bJ (List.mem_filter.mp h).2; rw[yK.mpr h']at this; cases this⟩
theorem kX(h:yb∈reserve I O es):yb=(none,I)∨(yb∈O∧¬iP yb.1 es):=(cZ h).imp_left fun⟨_,ha,e⟩=>List.mem_singleton.mp ha▸e
theorem dL(h:yb∈O):yb∈reserves fp O es∨iP yb.1 es:=by
 cases hh:hit es yb.1 with
 | true=>exact .inr (yK.mp hh)
 | false=>exact .inl (List.mem_append_right _ (List.mem_filter.mpr ⟨h,by rw[hh]; rfl⟩))
theorem jT{a:Addr}(h:(none,a)∈O):(none,a)∈reserves fp O es:=(dL h).elim id fun⟨_,_,h⟩=>nomatch h
theorem uC{a:Addr}(h:a∈fp):(none,a)∈reserves fp O es:=List.mem_append_left _ (List.mem_map_of_mem h)
end
theorem aH.reserves{env:Env}{ρ:aL}{O:List (Option Nat×Addr)}{h h':Heap}{fp:List Addr}{es:List Nat}(hE:aH Z nm env ρ O h)(k:Kp Z.n h h')(hfresh:∀ a∈fp,h.get? a=none)(hlive:∀ a∈fp,∃ o,h'.get? a=some o∧o.cls ≠ .none):aH Z nm env ρ (reserves fp O es) h' :=
 have hk:=hE.kp k
 { hk with
  live:=fun yb hy=>(cZ hy).elim (fun⟨a,ha,e⟩=>e▸hlive a ha) fun h=>hk.live yb h.1
  apart:=fun yb hy=>(cZ hy).elim (fun⟨I,ha,e⟩=>by
   subst e
   have hfresh:=hfresh I ha
   refine⟨fun e'=>?_,fun n c hkd hc e'=>?_⟩
   ·obtain⟨m,o,es,ep,e'',_⟩:=hE.ns
    cases hfresh.symm.trans ((show I=env.locals from e')▸e'')
   ·obtain⟨_,v,o,e'',_⟩:=hE.cellAt hkd hc
    cases hfresh.symm.trans ((show I=c from e')▸e'')) fun h=>hk.apart yb h.1
  vars:=fun x d n h1 h2 h3=>by
   obtain⟨v,as,a,r,hd,ho⟩:=hE.vars x d n h1 h2 h3
   refine⟨v,as,a.kp k hE.new (fun c hc hkd=>(hE.cellAt hkd hc).1),k.rd r,hd,fun yb hy hm=>(cZ hy).elim (fun⟨b,hb,e⟩=>?_) fun h=>ho yb h.1 hm⟩
   obtain⟨o,_,_,e',_⟩:=r.objs yb.2 hm
   rw[e]at e'
   cases(hfresh b hb).symm.trans e' }
theorem aH.reserve{env:Env}{ρ:aL}{O:List (Option Nat×Addr)}{h h':Heap}{I:Addr}{es:List Nat}(hE:aH Z nm env ρ O h)(k:Kp Z.n h h')(hfresh:h.get? I=none)(hlive:∃ o,h'.get? I=some o∧o.cls ≠ .none):aH Z nm env ρ (Kt.Internal.reserve I O es) h' :=
 hE.reserves k (fun _ h=>List.mem_singleton.mp h▸hfresh) fun _ h=>List.mem_singleton.mp h▸hlive
end
section
variable{prog:Program}{w:World}{A:Around}{E:Value→Shared→Prop}{s:Shared}
theorem wV{it t:Addr}{items:Array Value}(hne:t≠it):∀(n i:Nat)(s:Shared)(Q:List Value→Shared→Prop),s.heap.IsListIter it t i→s.heap.IsList t items→i+n≤items.size →
  (∀ h',h'.IsListIter it t (i+n)→Heap.SameBut it s.heap h'→Q ((items.toList.drop i).take n) { s with heap:=h' })→wpAny (model prog w) A (draw (.ref it) n) Q E s
 | 0,i,s,Q,hit,_,_,hQ=>wpAny_pure (hQ s.heap hit (Heap.SameBut.refl ..))
 | n+1,i,s,Q,hit,ht,hle,hQ=>by
  have hlt:i<items.size:=Nat.lt_of_lt_of_le (Nat.lt_add_of_pos_right (Nat.succ_pos n)) hle
  have hi:i+1+n=i+(n+1):=Nat.succ_add i n
  show wpAny _ _ (pyNext (.ref it) >>= _) Q E s
  refine wpAny_bind (wpAny_pyNext_list_item hit ht (x:=items[i]) (Array.getElem?_eq_getElem hlt) fun h₁ hit₁ hs₁=>?_)
  refine wpAny_bind (wpAny_holding (wV hne n (i+1) _ _ hit₁ (bN ht fun o e=>hs₁.extBut t o hne e) (Nat.le_trans (Nat.le_of_eq hi) hle) fun h₂ hit₂ hs₂=>wpAny_pure ?_))
  have:=hQ h₂ (hi▸hit₂) (hs₁.trans hs₂)
  rwa[List.drop_eq_getElem_cons (by rwa[Array.length_toList]),List.take_succ_cons]at this
theorem pT{t:Addr}{items:Array Value}{Q:List Value→Shared→Prop}(hh:A.handled=none)(ht:s.heap.IsList t items)
  (hQ:∀ h',Heap.ExtBut s.heap.objs.size s.heap h'→Q items.toList { s with heap:=h' }):wpAny (model prog w) A (unpackItems (.ref t) items.size none) Q E s:=by
 have hlt:t≠s.heap.objs.size:=let⟨o,ho,_⟩:=ht; Nat.ne_of_lt (Heap.lt_size ho)
 unfold unpackItems notIterableAtAll
 refine wpAny_bind (wpAny_bind (wpAny_specialOf ht.typeIs F.slot_list_iter.lookup (wpAny_pure ?_)))
 refine wpAny_bind (wpAny_holding (wpAny_pyIter_list ht ?_))
 have htp:∀ o,(s.heap.push o).IsList t items:=fun o=>bN ht fun _ e=>Heap.get?_push_of_some _ e
 refine wpAny_bind (wpAny_holding (wV hlt items.size 0 _ _ ⟨_,Heap.get?_push_size _ rfl,rfl,rfl⟩ (htp _) (Nat.le_of_eq (Nat.zero_add _)) fun h₁ hit₁ hs₁=>?_))
 rw[List.drop_zero,List.take_of_length_le (Nat.le_of_eq Array.length_toList),if_neg (by rw[Array.length_toList]; exact Nat.lt_irrefl _)]
 refine wpAny_bind (wpAny_holding (wpAny_pyNext_list_end hh hit₁ (bN (htp _) fun o e=>hs₁.extBut t o hlt e) (Array.getElem?_eq_none (Nat.le_of_eq (Nat.zero_add _).symm)) fun h₂ he₂=>?_))
 exact wpAny_pure (hQ h₂ fun b o hb e=>he₂ b o hb (hs₁.extBut b o hb (Heap.get?_push_of_some _ e)))
inductive IW(z:Bool)(h:Heap):Value→PyData→List Addr→Prop
 | val {v d as}:Rd h v d as→IW z h v d as
 | pair {t va vb a b bs cs}:z=true→IsPair h t va vb→Rd h va a bs→Rd h vb b cs→IW z h (.ref t) (.list [a,b]) (bs++cs)
theorem CW{z:Bool}{v:Value}{a b:PyData}{as:List Addr}{targets:List (Bool×(Value→Sem Unit))}{Q:Unit→Shared→Prop}(hh:A.handled=none)(r:IW z s.heap v (.list [a,b]) as)
  (hn:targets.length=2) (hstar:targets.findIdx? (·.1)=none)
  (h:∀ h' va vb bs cs,(∀ y o,s.heap.get? y=some o→h'.get? y=some o)→Rd h' va a bs→Rd h' vb b cs→(∀ y,y∈bs∨y∈cs→y∈as)→wpAny (model prog w) A (assignInOrder (targets.map (·.2)) [va,vb]) Q E { s with heap:=h' }) :
  wpAny (model prog w) A (unpack v targets) Q E s:=by
 have fresh:∀{h':Heap},Heap.ExtBut s.heap.objs.size s.heap h'→∀ y o,s.heap.get? y=some o→h'.get? y=some o:=fun e y o q=>e y o (fun e'=>Nat.lt_irrefl _ (e'▸Heap.lt_size q)) q
 cases r with
 | val r =>
  obtain⟨t,items,bs,rfl,hl,ra,rfl⟩:=cC r
  generalize e:items.toList=l at ra
  cases ra with
  | cons r1 ra=>cases ra with
   | cons r2 ra =>
    cases ra
    have hsz:items.size=2:=by rw[← Array.length_toList,e]; rfl
    unfold unpack
    rw[hn,hstar,← hsz]
    refine wpAny_bind (wpAny_holding (pT hh hl fun h' he=>?_))
    rw[e]
    exact h h' _ _ _ _ (fresh he) (r1.map fun _ _ _ e _=>fresh he _ _ e) (r2.map fun _ _ _ e _=>fresh he _ _ e) fun y hy=>List.mem_cons_of_mem _ (List.mem_append.mpr (hy.imp_right (List.mem_append_left _)))
 | pair _ hp ra rb =>
  refine wpAny_unpack_tuple hh ⟨_,hp,rfl,_,rfl⟩ (by rw[hn]; rfl) hstar fun h' he=>?_
  exact h h' _ _ _ _ (fresh he) (ra.map fun _ _ _ e _=>fresh he _ _ e) (rb.map fun _ _ _ e _=>fresh he _ _ e) fun y hy=>List.mem_append.mpr hy
end
section
variable{Z:aE}{cl:Nat→List PyData→Option PyData}{lvl:Nat}{nm:List Str}{fn:List Str}{sc:Scope}
theorem RP{α:Type}{x:PyData}{f:PyData→PyData→Option α}{v:α}{G:Prop}(h:XH x f=some v)(k:∀ a b,x = .list [a,b]→f a b=some v→G):G:=by
 cases x with
 | list l=>cases l with
  | nil=>cases h
  | cons a l=>cases l with
   | nil=>cases h
   | cons b l=>cases l with
    | nil=>exact k a b rfl h
    | cons _ _=>cases h
 | _=>cases h
theorem LJ{z:Bool}{A:Around}{env:Env}{ρ ρ':aL}{O:List (Option Nat×Addr)}{s:Shared}{E:Value→Shared→Prop}{t:Tg}{target:Expr}{v:Value}{d:PyData}{as:List Addr}{Q:Unit→Shared→Prop}(hck:vN nm sc t target=true)(hz:(sL t || !z)=true)(hnd:nm.Nodup)(hh:A.handled=none)
  (hs:u5 sc env) (hf:pI sc env) (hE:aH Z nm env ρ O s.heap) (hI:bB Z s) (hb:fO t d ρ=some ρ') (r:IW z s.heap v d as) (hd:bL d=true) (ho:∀ yb∈O,yb.2∉as)
  (hQ:∀ s',bB Z s'→aH Z nm env ρ' O s'.heap→aK Z nm env (bU t) (fun _=>False) s.heap s'.heap→Q () s'):wpAny (model Z.prog Z.w) A (assign target env v) Q E s:=by
 cases t with
 | one x =>
  cases r with
  | pair h=>rw[h]at hz; cases hz
  | val r =>
   cases hb
   apply aM hck; intro n p hck
   exact lW hnd (eq_of_beq (aA hck).1) (aA hck).2 hs hf hE hI r hd ho hQ
 | two x y =>
  refine RP hb fun a b e hb=>?_
  subst e
  cases hb
  apply e7 hck; intro es x1 p hck
  apply cV hck; intro e1 r' hck
  apply cK hck; intro e2 hck
  apply aM hck; intro n p1 hck
  apply aM hck; intro m p2 hck
  obtain⟨h1,h2⟩:=aA hck
  have hok:bL a=true∧bL b=true:=⟨bV.mp (rZ hd).2 _ List.mem_cons_self,bV.mp (rZ hd).2 _ (List.mem_cons_of_mem _ List.mem_cons_self)⟩
  rw[arm_assign_Tuple]
  refine wpAny_bind (wpAny_standAt (CW hh r rfl rfl fun h' va vb bs cs hk ra rb hin=>?_))
  have E₁:=hE.kp (Kp.of hk)
  have sub:∀{q:Nat},q∈[x,y]→∀ q'∈[q],q'∈[x,y]:=fun h q' h'=>List.mem_singleton.mp h'▸h
  refine wpAny_assignInOrder_more (lW hnd (eq_of_beq (aA h1).1) (aA h1).2 hs hf E₁ (hI.full (tk:=s.toks) hk) ra hok.1 (fun yb hy hm=>ho yb hy (hin _ (.inl hm))) fun s₂ I₂ E₂ T₂=>?_)
  have rb₂:Rd s₂.heap vb b cs:=rb.map fun q o hq e c=>by
   obtain⟨o',vs,m,e',hd,_⟩:=rb.objs q hq
   cases e.symm.trans e'
   exact(T₂.keep q o e (.inl (by rw[c]; nofun)) (fun w=>(E₁.wr_ge w).2.2 o vs m e hd) id).seq hd
  exact wpAny_assignInOrder_more (lW hnd (eq_of_beq (aA h2).1) (aA h2).2 hs hf E₂ I₂ rb₂ hok.2 (fun yb hy hm=>ho yb hy (hin _ (.inr hm))) fun s₃ I₃ E₃ T₃=>wpAny_assignInOrder_none (hQ _ I₃ E₃ (((aK.of_kp hE (Kp.of hk)).trans (T₂.mono (sub List.mem_cons_self) fun _=>id)).trans (T₃.mono (sub (List.mem_cons_of_mem _ List.mem_cons_self)) fun _=>id))))
end
noncomputable def zC:PI→Bool
 | .zip _ _=>true
 | _=>false
structure vQ(Z:aE)(A:Around)(target:Expr)(z:Bool)(I:Addr)(fp:List Addr)(ds:List PyData)(used:List Addr)(St:Nat→Heap→Prop):Prop where
 new:∀ a∈fp,Z.n≤a
 apart:∀ a∈used,a∉fp
 frame:∀ k h h',St k h→(∀ b,b∈fp∨b∈used→∀ o,h.get? b=some o→h'.get? b=some o)→St k h'
 live:∀ k h,k≤ds.length→St k h→∀ a∈fp,∃ o,h.get? a=some o∧o.cls ≠ .none∧∀ es ep,o.data ≠ .dict es ep
 step:∀ k d(s:Shared)(R:Value→Shared→Prop)(E:Value→Shared→Prop),ds[k]? = some d→St k s.heap→bB Z s →
  (∀ v bs s',bB Z s'→(∀ b o,b∉fp→s.heap.get? b=some o→s'.heap.get? b=some o)→IW z s'.heap v d bs→(∀ a∈bs,a∈used)→St (k+1) s'.heap→R v s') →
  wpAny (model Z.prog Z.w) A (pyNext (.ref I)) (fun r s₁=>∃ v,r=some v∧wpAny (model Z.prog Z.w) A (letOwnedTupleGo target (.ref I) v) (fun _ s'=>R v s') E s₁) E s
 done:∀(s:Shared)(Q:Option Value→Shared→Prop)(E:Value→Shared→Prop),St ds.length s.heap→bB Z s →
  (∀ s',bB Z s'→(∀ b o,b∉fp→s.heap.get? b=some o→s'.heap.get? b=some o)→Q none s')→wpAny (model Z.prog Z.w) A (pyNext (.ref I)) Q E s
 again:∀ k(s:Shared)(Q:Value→Shared→Prop)(E:Value→Shared→Prop),St k s.heap→Q (.ref I) s→wpAny (model Z.prog Z.w) A (pyIter (.ref I)) Q E s
def GL(z:Bool)(target:Expr):Prop:=(z=false∧∃ n p,target = .Name n p)∨∃ a b c,target = .Tuple a b c
theorem uS{prog:Program}{w:World}{A:Around}{E:Value→Shared→Prop}{s:Shared}{Q:Unit→Shared→Prop}{z:Bool}{target:Expr}{I:Addr}{v:Value}{o:Obj}{T:String}(ht:GL z target)(ho:s.heap.get? I=some o)(hc:o.cls = .type T)(hT:TM.contains T=false)(h:Q () s) :
  wpAny (model prog w) A (letOwnedTupleGo target (.ref I) v) Q E s:=by
 rcases ht with⟨_,n,p,rfl⟩| ⟨a,b,c,rfl⟩
 ·exact wpAny_pure h
 cases v with
 | ref a =>
  refine wpAny_bind (wpAny_load ho ?_)
  obtain⟨cls,dict,data,slots⟩:=o
  cases hc
  cases data with
  | fields vs =>
   show wpAny _ A (if(TM.contains T&&vs[0]? == some (rawInt a))=true then _ else _) Q E s
   rw[hT]
   exact wpAny_pure h
  | _=>exact wpAny_pure h
 | _=>exact wpAny_pure h
theorem w9.two{Z:aE}{A:Around}{I:Addr}{ds:List PyData}{used:List Addr}{St:Nat→Heap→Prop}(J:w9 Z A I ds used St){target:Expr}{z:Bool}(ht:GL z target):vQ Z A target z I [I] ds used St where
 new:=fun _ h=>List.mem_singleton.mp h▸J.new
 apart:=fun _ h h'=>J.apart (List.mem_singleton.mp h'▸h)
 frame:=fun k h h' st hk=>J.frame k h h' st fun b hb=>hk b (hb.imp_left List.mem_singleton.mpr)
 live:=fun k h _ st a ha=>List.mem_singleton.mp ha▸J.live k h st
 step:=fun k d s R E hd st inv hR=>J.step k d s _ _ hd st inv fun v bs s' I' kp r hb st'=>⟨v,rfl,let⟨_,_,e,c,t⟩:=J.ty _ _ st'; uS ht e c t (hR v bs s' I' (fun b o hb e=>kp b o (fun e'=>hb (List.mem_singleton.mpr e')) e) (.val r) hb st')⟩
 done:=fun s Q E st inv hQ=>J.done s Q E st inv fun s' I' kp=>hQ s' I' fun b o hb e=>kp b o (fun e'=>hb (List.mem_singleton.mpr e')) e
 again:=J.again
theorem bB.buts{Z:aE}{s:Shared}(inv:bB Z s){fp:List Addr}{h':Heap}(tk:Nat)(hn:∀ a∈fp,Z.n≤a)(hnf:∀ a∈fp,a∉Z.fr)(hk:∀ b o,b∉fp→s.heap.get? b=some o→h'.get? b=some o):bB Z { s with heap:=h',toks:=tk } :=
 inv.step (fun b o hb e=>hk b o (fun hm=>Nat.lt_irrefl _ (Nat.lt_of_lt_of_le hb (hn b hm))) e) Z.lowC fun L hL o e hd=>⟨o,hk L o (fun hm=>hnf L hm hL) e,hd⟩
structure Z8(z TI TO i1 i2 l1 l2:Addr)(xs ys:Array Value)(ds es:List PyData)(as bs:List Addr)(k:Nat)(h:Heap):Prop where
 z:IsZip h z TI TO .none
 TI:IsPair h TI (.ref i1) (.ref i2)
 TO:∃ a b,IsPair h TO a b
 i:k≤(w5 ds es).length→h.IsListIter i1 l1 k∧h.IsListIter i2 l2 k
 l1:h.IsList l1 xs
 l2:h.IsList l2 ys
 r1:aR h xs.toList ds as
 r2:aR h ys.toList es bs
theorem tK:∀{xs ys:List PyData}{k:Nat}{d:PyData},(w5 xs ys)[k]? = some d→∃ x y,xs[k]? = some x∧ys[k]? = some y∧d = .list [x,y]
 | [],_,_,_,h=>by cases h
 | _::_,[],_,_,h=>by cases h
 | x::xs,y::ys,0,_,h=>by cases h; exact⟨x,y,rfl,rfl,rfl⟩
 | x::xs,y::ys,k+1,_,h=>tK (xs:=xs) (ys:=ys) (k:=k) h
theorem nW:∀(xs ys:List PyData),(xs[(w5 xs ys).length]? = none∨ys[(w5 xs ys).length]? = none)∧(w5 xs ys).length≤xs.length
 | [],_=>⟨.inl rfl,Nat.zero_le _⟩
 | _::_,[]=>⟨.inr rfl,Nat.zero_le _⟩
 | _::xs,_::ys=>⟨(nW xs ys).1,Nat.succ_le_succ (nW xs ys).2⟩
theorem uD{h:Heap}{xs:Array Value}{ds:List PyData}{as:List Addr}{k:Nat}(r:aR h xs.toList ds as)(e:ds[k]? = none):xs[k]? = none:=by
 rw[List.getElem?_eq_none_iff,← aS r,Array.length_toList]at e
 exact Array.getElem?_eq_none e
theorem vQ.zip{Z:aE}{A:Around}(hh:A.handled=none)(elts:List Expr){x1:Nat}{pos:Pos}{z TI TO i1 i2 l1 l2:Addr}(D:ZipApart z TI TO i1 i2 l1 l2){xs ys:Array Value}{ds es:List PyData}{as bs:List Addr}
  (hn:∀ a∈[z,TI,TO,i1,i2],Z.n≤a) (hnf:∀ a∈[z,TI,TO,i1,i2],a∉Z.fr) (hap:∀ a∈(l1::as)++(l2::bs),a∉[z,TI,TO,i1,i2]) :
  vQ Z A (.Tuple elts x1 pos) true z [z,TI,TO,i1,i2] (w5 ds es) ((l1::as)++(l2::bs)) (Z8 z TI TO i1 i2 l1 l2 xs ys ds es as bs) where
 new:=hn
 apart:=hap
 frame:=fun k h h' st hk=>by
  have f:∀{b o},b∈[z,TI,TO,i1,i2]→h.get? b=some o→h'.get? b=some o:=fun hb e=>hk _ (.inl hb) _ e
  have g:∀{b},b∈(l1::as)++(l2::bs)→∀ o,h.get? b=some o→h'.get? b=some o:=fun hb=>hk _ (.inr hb)
  obtain⟨a,b,t⟩:=st.TO
  exact⟨f (.head _) st.z,f (.tail _ (.head _)) st.TI,⟨a,b,f (.tail _ (.tail _ (.head _))) t⟩,fun q=>⟨e9 (st.i q).1 fun _=>f (.tail _ (.tail _ (.tail _ (.head _)))),e9 (st.i q).2 fun _=>f (.tail _ (.tail _ (.tail _ (.tail _ (.head _)))))⟩,
   bN st.l1 (g (.head _)),bN st.l2 (g (List.mem_append_right _ (.head _))),st.r1.keep fun b hb=>g (List.mem_append_left _ (.tail _ hb)),st.r2.keep fun b hb=>g (List.mem_append_right _ (.tail _ hb))⟩
 live:=fun k h hk st a ha=>by
  obtain⟨_,_,t⟩:=st.TO
  obtain⟨⟨o4,e4,c4,d4⟩,⟨o5,e5,c5,d5⟩⟩:=st.i hk
  have q:∀{o:Obj}{T:String}{f},o.cls = .type T→o.data = .fields f→o.cls ≠ .none∧∀ es ep,o.data ≠ .dict es ep:=fun c d=>⟨by rw[c]; nofun,fun _ _ e=>by rw[d]at e; cases e⟩
  rcases List.mem_cons.mp ha with rfl | ha
  ·exact⟨_,st.z,nofun,nofun⟩
  rcases List.mem_cons.mp ha with rfl | ha
  ·exact⟨_,st.TI,nofun,nofun⟩
  rcases List.mem_cons.mp ha with rfl | ha
  ·exact⟨_,t,nofun,nofun⟩
  rcases List.mem_cons.mp ha with rfl | ha
  ·exact⟨_,e4,q c4 d4⟩
  ·exact List.mem_singleton.mp ha▸⟨_,e5,q c5 d5⟩
 step:=fun k d s R E hd st inv hR=>by
  obtain⟨a,b,a3⟩:=st.TO
  obtain⟨x,y,hx,hy,rfl⟩:=tK hd
  have hkn:k<(w5 ds es).length:=(List.getElem?_eq_some_iff.mp hd).1
  obtain⟨a4,a4'⟩:=st.i (Nat.le_of_lt hkn)
  obtain⟨v1,b1,e1,r1,m1⟩:=eQ st.r1 hx
  obtain⟨v2,b2,e2,r2,m2⟩:=eQ st.r2 hy
  refine wpAny_pyNext_zip_item D st.z st.TI a3 a4 a4' st.l1 st.l2 (by rwa[Array.getElem?_toList]at e1) (by rwa[Array.getElem?_toList]at e2) fun h' q1 q2 q3 q4 q5 q6 q7=>⟨_,rfl,?_⟩
  refine wpAny_letOwnedTupleGo_zip q1 fun h'' w1 w2=>?_
  have hk:∀ b o,b∉[z,TI,TO,i1,i2]→s.heap.get? b=some o→h''.get? b=some o:=fun b o hb e=>by
   have n:∀{c},c∈[z,TI,TO,i1,i2]→b≠c:=fun hc e=>hb (e▸hc)
   exact w2.extBut b o (n (.head _)) (q7 b o (n (.head _)) (n (.tail _ (.tail _ (.head _)))) (n (.tail _ (.tail _ (.tail _ (.head _))))) (n (.tail _ (.tail _ (.tail _ (.tail _ (.head _)))))) e)
  have n1:∀ a∈l1::as,∀ o,s.heap.get? a=some o→h''.get? a=some o:=fun a ha o e=>hk a o (hap a (List.mem_append_left _ ha)) e
  have n2:∀ a∈l2::bs,∀ o,s.heap.get? a=some o→h''.get? a=some o:=fun a ha o e=>hk a o (hap a (List.mem_append_right _ ha)) e
  exact hR _ (b1++b2) _ (inv.buts s.toks hn hnf hk) hk (.pair rfl (w2.extBut _ _ (Nat.ne_of_gt (Heap.lt_size st.z)) q5) (r1.keep fun b hb=>n1 b (.tail _ (m1 b hb))) (r2.keep fun b hb=>n2 b (.tail _ (m2 b hb))))
   (fun a ha=>(List.mem_append.mp ha).elim (fun h=>List.mem_append_left _ (.tail _ (m1 a h))) fun h=>List.mem_append_right _ (.tail _ (m2 a h)))
   ⟨w1,w2.extBut _ _ D.TIz (q7 TI _ D.TIz D.TITO D.TIi1 D.TIi2 st.TI),⟨v1,v2,w2.extBut _ _ D.TOz q2⟩,fun _=>⟨e9 q3 fun o e=>w2.extBut _ _ D.i1z e,e9 q4 fun o e=>w2.extBut _ _ D.i2z e⟩,
    bN st.l1 (n1 l1 (.head _)),bN st.l2 (n2 l2 (.head _)),st.r1.keep fun b hb=>n1 b (.tail _ hb),st.r2.keep fun b hb=>n2 b (.tail _ hb)⟩
 done:=fun s Q E st inv hQ=>by
  obtain⟨a,b,a3⟩:=st.TO
  obtain⟨a4,a4'⟩:=st.i (Nat.le_refl _)
  refine wpAny_pyNext_zip_end hh D st.z st.TI a3 a4 a4' st.l1 st.l2 ((nW ds es).1.imp (uD st.r1) (uD st.r2)) fun h' q7=>?_
  have hk:∀ b o,b∉[z,TI,TO,i1,i2]→s.heap.get? b=some o→h'.get? b=some o:=fun b o hb e=>by
   have n:∀{c},c∈[z,TI,TO,i1,i2]→b≠c:=fun hc e=>hb (e▸hc)
   exact q7 b o (n (.head _)) (n (.tail _ (.tail _ (.head _)))) (n (.tail _ (.tail _ (.tail _ (.head _))))) (n (.tail _ (.tail _ (.tail _ (.tail _ (.head _)))))) e
  exact hQ _ (inv.buts s.toks hn hnf hk) hk
 again:=fun k s Q E st hQ=>wpAny_pyIter_zip st.z hQ
section
variable{Z:aE}{cl:Nat→List PyData→Option PyData}{lvl:Nat}{nm:List Str}{fn:List Str}{sc:Scope}
structure Cb(Z:aE)(A:Around)(target:Expr)(z:Bool)(O:List (Option Nat×Addr))(p:PI)(s:Shared)(ds:List PyData)(I:Addr)(fp used:List Addr)(St:Nat→Heap→Prop)(s':Shared):Prop where
 iter:vQ Z A target z I fp ds used St
 start:St 0 s'.heap
 ok:cM ds=true
 len:ds.length≤sizeLine
 inv:bB Z s'
 kp:Kp Z.n s.heap s'.heap
 fresh:∀ a∈fp,s.heap.get? a=none
 seq:∀ a∈used,∃ o vs n,s'.heap.get? a=some o∧o.data = .seq vs n∧o.cls ≠ .none
 own:∀ yb∈O,yb.2∈used→iP yb.1 (cT p)
def SJ(Z:aE)(cl:Nat→List PyData→Option PyData)(lvl:Nat)(nm:List Str)(sc:Scope)(z:Bool)(e:Expr)(p:PI):Prop :=
 ∀{A:Around}{env:Env}{ρ:aL}{O:List (Option Nat×Addr)}{s:Shared}{ds:List PyData}{Q:Value→Shared→Prop}{E:Value→Shared→Prop}(target:Expr),GL z target →
  Cx Z lvl nm sc A env ρ O s→uY cl p ρ=some ds →
  (∀ I fp used St s',Cb Z A target z O p s ds I fp used St s'→Q (.ref I) s')→wpAny (model Z.prog Z.w) A (eval e env) (fun x s₁=>wpAny (model Z.prog Z.w) A (pyIter x) Q E s₁) E s
theorem SI.sj{z:Bool}{e:Expr}{p:PI}(h:SI Z cl lvl nm sc e p):SJ Z cl lvl nm sc z e p:=fun target ht X hd hQ =>
 h X hd fun I used St s' S=>hQ I [I] used St s' ⟨S.iter.two ht,S.start,S.ok,S.len,S.inv,S.kp,fun _ h=>List.mem_singleton.mp h▸S.fresh,S.seq,S.own⟩
theorem UR{e f:Expr}{p q:Pos}{a b:PE}(hB:fE Z)(hg:aP sc "zip" = true)(hst:aC e=false)(hst':aC f=false)(h:SE Z cl lvl nm sc e a)(h':SE Z cl lvl nm sc f b):SJ Z cl lvl nm sc true (.Call (.Name "zip" p) [e,f] [] q) (.zip a b):=fun{A env ρ O s ds Q E}target ht X hd hQ=>aT hd fun x hx hd=>aT hd fun y hy hd=>iC hd fun xs e1 hd=>iC hd fun ys e2 hd=>by
 subst e1 e2
 cases hd
 obtain⟨elts,x1,pos,rfl⟩:=ht.resolve_left nofun
 refine lU (ps:=.cons a (.cons b .nil)) (ds:=[.list xs,.list ys]) hB X hg (v:=.type "zip") (by decide) nofun nofun (iY hst hst') (ET hst hst' h h') (by rw[kF,hx,kF,hy]; rfl) fun vs as s₁ I₁ k₁ r₁ ok₁ o₁=>?_
 cases r₁ with
 | cons r1 r2=>cases r2 with
  | cons r3 r4 =>
   cases r4
   rw[List.append_nil]at o₁
   have hlt:=(gU.cons r1 (gU.cons r3 .nil)).lt
   have hobj:=(gU.cons r1 (gU.cons r3 .nil)).objs
   rw[List.append_nil]at hlt hobj
   obtain⟨l1,xv,as1,rfl,hl1,ra1,rfl⟩:=cC r1
   obtain⟨l2,yv,as2,rfl,hl2,ra2,rfl⟩:=cC r3
   generalize hN:s₁.heap.objs.size=N at hlt
   have n1:l1<N:=hlt l1 (.head _)
   have n2:l2<N:=hlt l2 (List.mem_append_right _ (.head _))
   have hsz:Z.n≤N:=hN▸(X.he.kp k₁).size
   have ge:∀{c},c∈[N+4,N+2,N+3,N,N+1]→N≤c:=fun hc=>let⟨k,_,e⟩:=List.mem_map.mp (show _∈[4,2,3,0,1].map (N + ·)from hc); e▸Nat.le_add_right N k
   refine call_zip_2 hl1 hl2 fun hp z1 z2 z3 z4 z5 zsz zk=>wpAny_pyIter_zip z1 ?_
   rw[hN]at z1 z2 z3 z4 z5
   rw[hN]
   have hq1:=bV.mp ok₁ _ (.head _)
   have hq2:=bV.mp ok₁ _ (.tail _ (.head _))
   refine hQ (N+4) [N+4,N+2,N+3,N,N+1] ((l1::as1)++(l2::as2)) _ _
    ⟨vQ.zip X.ha.handled elts (have q:∀{i j:Nat},i≠j→N+i≠N+j:=fun h e=>h (Nat.add_left_cancel e); have r:∀{l:Nat}(j:Nat),l<N→l≠N+j:=fun j h=>Nat.ne_of_lt (Nat.lt_of_lt_of_le h (Nat.le_add_right _ _)); ⟨q (by decide),q (by decide),q (i:=0) (by decide),q (by decide),q (by decide),q (j:=0) (by decide),q (by decide),q (j:=0) (by decide),q (by decide),q (i:=0) (by decide),r 4 n1,r 3 n1,r 0 n1,r 1 n1,r 4 n2,r 3 n2,r 0 n2,r 1 n2⟩) (fun c hc=>Nat.le_trans hsz (ge hc)) (fun c hc=>I₁.frLt (hN▸ge hc)) fun c hc hm=>Nat.lt_irrefl _ (Nat.lt_of_lt_of_le (hlt c hc) (ge hm)),
     ⟨z1,z2,⟨_,_,z3⟩,fun _=>⟨z4,z5⟩,bN hl1 fun o e=>zk _ _ e,bN hl2 fun o e=>zk _ _ e,ra1.map fun _ _ _ e _=>zk _ _ e,ra2.map fun _ _ _ e _=>zk _ _ e⟩,bV.mpr fun d hd=>?_,Nat.le_trans (nW xs ys).2 (rZ hq1).1,I₁.full zk,k₁.trans (Kp.of zk),
     fun c hc=>k₁.none (Nat.le_trans hsz (ge hc)) (get?_ge (hN▸ge hc)),fun c hc=>let⟨o,vs,n,e,hd,hcl⟩:=hobj c hc; ⟨o,vs,n,zk _ _ e,hd,by rw[hcl]; nofun⟩,fun yb hy hm=>?_⟩
   ·obtain⟨k,hk⟩:=List.getElem?_of_mem hd
    obtain⟨u,v,hu,hv,rfl⟩:=tK hk
    exact y5 (Nat.le_of_ble_eq_true rfl) (bV.mpr fun w hw=>(List.mem_cons.mp hw).elim (fun e=>e▸iV (rZ hq1).2 hu) fun hw=>List.mem_singleton.mp hw▸iV (rZ hq2).2 hv)
   ·have:=o₁ yb hy hm
    rwa[nB,nB,nB,List.append_nil]at this
end
noncomputable def xE(ifs:List Expr)(env:Env):Sem Bool:=forIn ifs true fun c r=>if r=true then do let ok ← isTrue c env (eval c env); pure (ForInStep.yield ok)else pure (ForInStep.yield r)
section
variable{prog:Program}{w:World}{A:Around}{E:Value→Shared→Prop}{R:Result→Shared→Prop}{s:Shared}{elt:Expr}{gens:List Comprehension}{scope:Scope}{pos:Pos}{depth:Nat}{it acc:Value}{env:Env}{target iter:Expr}{ifs:List Expr}{n:Option Comprehension}
noncomputable def I4(elt:Expr)(gens:List Comprehension)(scope:Scope)(pos:Pos)(depth:Nat)(it acc:Value)(env:Env):Option Comprehension→Sem Fin
 | some g'=>do
  let x ← eval g'.iter env
  standAt g'.iter.pos
  let x ← foldedSetIterable g'.iter env x
  let _ ← runOwn (.compStart (.ListComp elt gens scope pos) (depth+1) (← holding [x] (pyIter x)) acc env) env
  again (.compLoop (.ListComp elt gens scope pos) depth it acc env)
 | none=>do
  (do let _ ← call (.builtin "list.append") [acc,← eval elt env])
  again (.compLoop (.ListComp elt gens scope pos) depth it acc env)
theorem A2(hg:gens[depth]? = some ⟨target,iter,ifs,0⟩)(hn:gens[depth+1]? = n)(ha:∀ c,n=some c→c.is_async=0) :
  compTurn (.ListComp elt gens scope pos) depth it acc env=(do
   standAt iter.pos
   match ← pyNext it with
   | none=>pure (.done .next)
   | some v =>
    letOwnedTupleGo target it v
    assign target env v
    let ok ← xE ifs env
    if ok then I4 elt gens scope pos depth it acc env n
    else again (.compLoop (.ListComp elt gens scope pos) depth it acc env)):=by
 unfold compTurn
 dsimp only
 rw[hg]
 dsimp only
 rw[hn]
 cases n with
 | none=>rfl
 | some c =>
  obtain⟨t',i',f',az⟩:=c
  cases ha _ rfl
  rfl
def RQ(M:Model)(A:Around)(elt:Expr)(gens:List Comprehension)(scope:Scope)(pos:Pos)(depth:Nat)(it acc:Value)(env:Env)(n:Option Comprehension)(K:Shared→Prop)(E:Value→Shared→Prop)(ok:Bool)(s:Shared):Prop :=
 bif ok then ∀ P:Fin→Shared→Prop,(∀ s₅,K s₅→P (.again (.compLoop (.ListComp elt gens scope pos) depth it acc env)) s₅)→wpAny M A (I4 elt gens scope pos depth it acc env n) P E s else K s
theorem vB(hg:gens[depth]? = some ⟨target,iter,ifs,0⟩)(hn:gens[depth+1]? = n)(ha:∀ c,n=some c→c.is_async=0)(I:Nat→Shared→Prop)
  (turn:∀ k s,I k s→∀ E,wpAny (model prog w) A (pyNext it) (fun r s₁=>match r with
   | none=>R (.ok .next) s₁
   | some v=>wpAny (model prog w) A (letOwnedTupleGo target it v) (fun _ s₂=>wpAny (model prog w) A (assign target env v) (fun _ s₃=>wpAny (model prog w) A (xE ifs env) (fun ok s₄ =>
RQ (model prog w) A elt gens scope pos depth it acc env n (fun s₅=>∃ m,m<k∧I m s₅) E ok s₄) E s₃) E s₂) E s₁) E s)
  (k:Nat) (h:I k s):codeAny (model prog w) A (.compLoop (.ListComp elt gens scope pos) depth it acc env) R s:=by
 refine codeAny_loop rfl I (fun k s hI=>?_) k h
 show wpAny _ A ((compTurn (.ListComp elt gens scope pos) depth it acc env).onRaise (fun x=>do noteFrame x env; theTreesLotGoes x)) _ _ s
 rw[A2 hg hn ha]
 refine wpAny_noted (wpAny_bind (wpAny_standAt (wpAny_bind (wpAny_mono (turn k s hI _) (fun r s₁ h₁=>?_) fun _ _ h'=>h'))))
 cases r with
 | none=>exact wpAny_pure h₁
 | some v =>
  refine wpAny_bind (wpAny_mono h₁ (fun _ s₂ h₂=>wpAny_bind (wpAny_mono h₂ (fun _ s₃ h₃=>wpAny_bind (wpAny_mono h₃ (fun ok s₄ h₄=>?_) fun _ _ h'=>h')) fun _ _ h'=>h')) fun _ _ h'=>h')
  cases ok with
  | false=>exact wpAny_pure ⟨rfl,h₄⟩
  | true=>exact h₄ _ fun _ h₅=>⟨rfl,h₅⟩
theorem mF(hg:gens[depth]? = some ⟨target,iter,ifs,0⟩)(h0:codeAny (model prog w) A (.compLoop (.ListComp elt gens scope pos) depth it acc env) R s)
  (h:wpAny (model prog w) A (pyIter it) (fun it' s'=>codeAny (model prog w) A (.compLoop (.ListComp elt gens scope pos) depth it' acc env) R s') (notedBy (model prog w) A env fun x s'=>R (.error x) s') s) :
  codeAny (model prog w) A (.compStart (.ListComp elt gens scope pos) depth it acc env) R s:=by
 refine codeAny_of_tree ?_
 show wpAny _ _ ((compStart (.ListComp elt gens scope pos) depth it acc env).onRaise (fun x=>do noteFrame x env; standAt theWindowsPlace)) _ _ s
 refine wpAny_notedAt ?_
 unfold compStart
 rw[show(clausesOf (.ListComp elt gens scope pos))[depth]? = some ⟨target,iter,ifs,0⟩from hg]
 show wpAny _ _ (ask >>= _) _ _ s
 refine wpAny_bind (wpAny_askSetting (wpAny_ite ?_))
 split
 ·first
   | exact wpAny_bind (wpAny_pure (wpAny_pure (And.intro rfl h0)))
   | exact wpAny_pure (And.intro rfl h0)
 ·first
   | exact wpAny_bind (wpAny_rule (wpAny_bind (wpAny_standAt (wpAny_bind (wpAny_mono h (fun it' s' h'=>wpAny_pure (And.intro rfl h')) fun _ _ x=>x)))))
   | (refine wpAny_bind (wpAny_rule ?_); show wpAny _ _ (standAt iter.pos >>= _) _ _ s; exact wpAny_bind (wpAny_standAt (wpAny_bind (wpAny_mono h (fun it' s' h'=>wpAny_pure (And.intro rfl h')) fun _ _ x=>x))))
end
section
variable{Z:aE}{cl:Nat→List PyData→Option PyData}{lvl:Nat}{nm:List Str}{fn:List Str}{sc:Scope}
def SC(Z:aE)(cl:Nat→List PyData→Option PyData)(lvl:Nat)(nm:List Str)(sc:Scope)(ifs:List Expr)(c:PO):Prop :=
 ∀{A:Around}{env:Env}{ρ:aL}{O:List (Option Nat×Addr)}{s:Shared}{b:Bool}{Q:Bool→Shared→Prop}{E:Value→Shared→Prop},
  Cx Z lvl nm sc A env ρ O s→N0 cl c ρ=some b→(∀ s',bB Z s'→Kp Z.n s.heap s'.heap→Q b s')→wpAny (model Z.prog Z.w) A (xE ifs env) Q E s
theorem YR:SC Z cl lvl nm sc [] .no:=fun{A env ρ O s b Q E}X hd hQ=>by
 cases hd
 exact wpAny_pure (hQ s X.hi (Kp.refl _ _))
theorem U0{e:Expr}{p:PE}(h:ST Z cl lvl nm sc e p):SC Z cl lvl nm sc [e] (.yes p):=fun{A env ρ O s b Q E}X hd hQ=>aT hd fun x hx ht=>by
 show wpAny _ A (forIn [e] true _) Q E s
 rw[List.forIn_cons]
 exact wpAny_bind (wpAny_bind (h X hx ht fun s₁ I₁ k₁=>wpAny_pure (wpAny_pure (hQ s₁ I₁ k₁))))
structure c7(acc:Addr)(res:List PyData)(O:List (Option Nat×Addr))(es:List Nat)(h:Heap):Prop where
 obj:∃ vs n sl as,h.get? acc=some { cls:=.type "list",dict:=none,data:=.seq vs n,slots:=sl }∧aR h vs.toList res as∧∀ yb∈O,yb.2∈as→iP yb.1 es
 ok:cM res=true
theorem c7.keep{acc:Addr}{res:List PyData}{O:List (Option Nat×Addr)}{es:List Nat}{h h':Heap}(x:c7 acc res O es h)(hk:∀ b o,h.get? b=some o→(∃ xs n,o.data = .seq xs n)→o.cls ≠ .none→(b=acc∨(none,b)∉O)→h'.get? b=some o):c7 acc res O es h':=by
 obtain⟨⟨vs,n,sl,as,e,r,ho⟩,ok⟩:=x
 refine⟨⟨vs,n,sl,as,hk _ _ e ⟨_,_,rfl⟩ nofun (.inl rfl),r.map fun a o ha' e' c=>?_,ho⟩,ok⟩
 obtain⟨o',xs,n',e'',hd,hc⟩:=r.objs a ha'
 cases e'.symm.trans e''
 exact hk a o e' ⟨_,_,hd⟩ (by rw[hc]; nofun) (.inr fun hy=>let⟨_,_,hz⟩:=ho _ hy ha'; nomatch hz)
theorem c7.push{acc:Addr}{res:List PyData}{O:List (Option Nat×Addr)}{es:List Nat}{A:Around}{s:Shared}{E:Value→Shared→Prop}{v:Value}{d:PyData}{bs:List Addr}{Q:Value→Shared→Prop}(x:c7 acc res O es s.heap)(hn:Z.n≤acc)(ha:(none,acc)∈O)(hI:bB Z s)(r:Rd s.heap v d bs)(hd:bL d=true)
  (ho:∀ yb∈O,yb.2∈bs→iP yb.1 es) (hsz:res.length≤sizeLine)
  (hQ:∀ s',bB Z s'→c7 acc (res++[d]) O es s'.heap→(∀ b o,b≠acc→s.heap.get? b=some o→s'.heap.get? b=some o)→Q .none s') :
  wpAny (model Z.prog Z.w) A (call (.builtin "list.append") [.ref acc,v]) Q E s:=by
 obtain⟨⟨vs,n,sl,as,e,rs,hos⟩,ok⟩:=x
 have hlen:=aS rs
 rw[Array.length_toList]at hlen
 have noacc:∀{cs:List Addr},(∀ yb∈O,yb.2∈cs→iP yb.1 es)→acc∉cs:=fun h hm=>let⟨_,_,hz⟩:=h _ ha hm; nomatch hz
 refine wpAny_call_entry slot_list_append ⟨_,e,rfl⟩ entry_list_append ?_ (args_list_append _ _)
 show wpAny _ _ (updateSeq acc (·.push v) >>= fun _=>ret .none) _ _ s
 refine wpAny_bind (wpAny_updateSeq e rfl (wpAny_pure ⟨.none,rfl,?_⟩))
 have hs:=Heap.SameBut.update s.heap acc (Obj.mapSeq (·.push v))
 have hk:∀ b o,b≠acc→s.heap.get? b=some o→(s.heap.update acc (Obj.mapSeq (·.push v))).get? b=some o:=fun b o hb q=>(hs.2 b hb).trans q
 refine hQ _ (hI.same hn hs (fun h=>absurd h (hI.frNot e nofun)) s.toks) ⟨⟨vs.push v,_,sl,as++bs,Heap.get?_update_self _ e rfl,?_,fun yb hy hm=>(List.mem_append.mp hm).elim (hos yb hy) (ho yb hy)⟩,kW.mpr ⟨ok,by rw[cM,hd]; rfl⟩⟩ hk
 rw[Array.toList_push,← List.append_nil bs]
 exact jU (rs.map fun a o h1 h2 _=>hk a o (fun e'=>noacc hos (e'▸h1)) h2) (.cons (r.map fun a o h1 h2 _=>hk a o (fun e'=>noacc ho (e'▸h1)) h2) .nil)
theorem aK.of_but{env:Env}{xs:List Nat}{X:Addr→Prop}{h h':Heap}(hk:∀ b o,¬X b→h.get? b=some o→h'.get? b=some o)(h1:¬X env.locals)(h2:∀ n c,cf env n→env.cells.lookup n=some c→¬X c):aK Z nm env xs X h h' where
 keep:=fun b o e _ _ hx=>.inl (hk b o hx e)
 acc:=fun n v _ hv=>hv.imp (fun⟨h3,m,⟨o,es,ep,e,r⟩,h5⟩=>⟨h3,m,⟨o,es,ep,hk _ _ h1 e,r⟩,h5⟩) fun⟨h3,c,h4,⟨o,e,r⟩⟩=>⟨h3,c,h4,⟨o,hk _ _ (h2 n c h3 h4) e,r⟩⟩
 ns:=fun⟨m,⟨o,es,ep,e,r⟩⟩=>⟨m,⟨o,es,ep,hk _ _ h1 e,r⟩⟩
 cells:=fun n c v hkd hc⟨o,e,r⟩=>⟨v,o,hk _ _ (h2 n c hkd hc) e,r⟩
theorem aH.but{env:Env}{ρ:aL}{O:List (Option Nat×Addr)}{xs:List Nat}{I:Addr}{h h':Heap}(hE:aH Z nm env ρ O h)(hI:(none,I)∈O)(hk:∀ b o,b≠I→h.get? b=some o→h'.get? b=some o):aK Z nm env xs (· = I) h h' :=
 .of_but hk (fun e=>(hE.apart _ hI).1 e.symm) fun n c hkd hc e=>(hE.apart _ hI).2 n c hkd hc e.symm
theorem aH.buts{env:Env}{ρ:aL}{O:List (Option Nat×Addr)}{xs:List Nat}{fp:List Addr}{h h':Heap}(hE:aH Z nm env ρ O h)(hI:∀ a∈fp,(none,a)∈O)(hk:∀ b o,b∉fp→h.get? b=some o→h'.get? b=some o):aK Z nm env xs (· ∈ fp) h h' :=
 .of_but hk (fun e=>(hE.apart _ (hI _ e)).1 rfl) fun n c hkd hc e=>(hE.apart _ (hI _ e)).2 n c hkd hc rfl
theorem HO{f:PyData→Option (List PyData)}{d:PyData}{ds new:List PyData}{G:Prop}(h:y7 f (d::ds)=some new)(k:∀ a b,f d=some a→y7 f ds=some b→new=a++b→G):G :=
 aT (o:=f d) h fun a ha h=>b7 h fun b hb e=>k a b ha hb e.symm
structure mX(used:List Addr)(h:Heap):Prop where
 at_:∀ a∈used,∃ o vs n,h.get? a=some o∧o.data = .seq vs n∧o.cls ≠ .none
theorem mX.turn{env:Env}{ρ:aL}{O:List (Option Nat×Addr)}{xs:List Nat}{X:Addr→Prop}{used:List Addr}{h h':Heap}(sq:mX used h)(hE:aH Z nm env ρ O h)(T:aK Z nm env xs X h h')(hX:∀ b∈used,¬X b):(∀ b∈used,∀ o,h.get? b=some o→h'.get? b=some o)∧mX used h':=by
 have hu:∀ b∈used,∀ o,h.get? b=some o→h'.get? b=some o:=fun b hb o e=>by
  obtain⟨o',vs,n,e',hd,hc⟩:=sq.at_ b hb
  cases e.symm.trans e'
  exact(T.keep b o e (.inl hc) (fun w=>(hE.wr_ge w).2.2 o vs n e hd) (hX b hb)).seq hd
 exact⟨hu,⟨fun b hb=>let⟨o',vs,n,e',r⟩:=sq.at_ b hb; ⟨o',vs,n,hu b hb o' e',r⟩⟩⟩
def SG(Z:aE)(cl:Nat→List PyData→Option PyData)(lvl:Nat)(nm:List Str)(sc:Scope)(elt:Expr)(gens:List Comprehension)(pos:Pos)(pe:PE)(depth:Nat)(g:PG):Prop :=
 ∀{A:Around}{env:Env}{ρ:aL}{O:List (Option Nat×Addr)}{s:Shared}{it:Value}{acc:Addr}{res new:List PyData}{es:List Nat}{P:Fin→Shared→Prop}{E:Value→Shared→Prop},Cx Z lvl nm sc A env ρ O s→pI sc env→Z.n≤acc→(none,acc)∈O→c7 acc res O es s.heap →
  (∀ x∈w3 g,bC ρ x=none)→(∀ y,y∈kB pe++GI g→y∈es)→(w3 g).Nodup→NZ cl (aD cl pe) g ρ=some new→(res++new).length≤sizeLine →
  (∀ s',bB Z s'→aK Z nm env (w3 g) (· = acc) s.heap s'.heap→c7 acc (res++new) O es s'.heap→P (.again (.compLoop (.ListComp elt gens sc pos) depth it (.ref acc) env)) s') →
  wpAny (model Z.prog Z.w) A (I4 elt gens sc pos depth it (.ref acc) env gens[depth+1]?) P E s
theorem c7.kp{acc:Addr}{res:List PyData}{O O₂:List (Option Nat×Addr)}{es xs:List Nat}{env:Env}{ρ:aL}{h h':Heap}(x:c7 acc res O es h)(hE:aH Z nm env ρ O₂ h)(T:aK Z nm env xs (fun _=>False) h h'):c7 acc res O es h' :=
 x.keep fun b o e⟨vs,n,hd⟩hc _=>(T.keep b o e (.inl hc) (fun w=>(hE.wr_ge w).2.2 o vs n e hd) id).seq hd
theorem US{elt:Expr}{gens:List Comprehension}{pos:Pos}{pe:PE}{depth:Nat}(hn:gens[depth+1]? = none)(h:SE Z cl lvl nm sc elt pe):SG Z cl lvl nm sc elt gens pos pe depth .nil:=fun{A env ρ O s it acc res new es P E}X hf hna hacc ok hρ hes hnd hev hsz hP=>b7 hev fun d hd e=>by
 subst e
 rw[hn]
 refine wpAny_bind (wpAny_bind (h X hd fun v bs s₁ I₁ k₁ r₁ ok₁ o₁=>wpAny_bind ?_))
 have T:aK Z nm env [] (fun _=>False) s.heap s₁.heap:=.of_kp X.he k₁
 refine(ok.kp X.he T).push hna hacc I₁ r₁ ok₁ (fun yb hy hm=>let⟨y,h1,h2⟩:=o₁ yb hy hm; ⟨y,hes y (List.mem_append_left _ h1),h2⟩) (Nat.le_trans (List.prefix_append _ _).length_le hsz) fun s₂ I₂ ok₂ hk=>wpAny_pure (wpAny_pure (hP s₂ I₂ ((T.mono (fun _ h=>h) fun _ h=>h.elim).trans ((X.he.kp k₁).but hacc hk)) ok₂))
theorem DM{t:Tg}{d:PyData}{ρ ρ':aL}(hb:fO t d ρ=some ρ'){x:Nat}(hx:x∉bU t):bC ρ' x=bC ρ x:=by
 have ne:∀(σ:aL)(y:Nat)(q:Option PyData),y≠x→bC (σ.set y q) x=bC σ x:=fun σ y q hne=>by unfold bC; rw[List.getElem?_set_ne hne]
 cases t with
 | one y=>cases hb; exact ne _ _ _ fun e=>hx (e ▸ .head _)
 | two y z =>
  refine RP hb fun a b _ hb=>?_
  cases hb
  rw[ne _ _ _ fun e=>hx (e ▸ .tail _ (.head _)),ne _ _ _ fun e=>hx (e ▸ .head _)]
structure JR(Z:aE)(cl:Nat→List PyData→Option PyData)(lvl:Nat)(nm:List Str)(sc:Scope)(elt:Expr)(gens:List Comprehension)(pos:Pos)(pe:PE)(depth:Nat)(t:Tg)(c:PO)(g:PG)(target iter:Expr)(ifs:List Expr):Prop where
 hg:gens[depth]? = some ⟨target,iter,ifs,0⟩
 ha:∀ c,gens[depth+1]? = some c→c.is_async=0
 hnd:nm.Nodup
 hck:vN nm sc t target=true
 hc:SC Z cl lvl nm sc ifs c
 hr:SG Z cl lvl nm sc elt gens pos pe depth g
theorem uH{elt target iter:Expr}{ifs:List Expr}{gens:List Comprehension}{pos:Pos}{pe:PE}{depth:Nat}{t:Tg}{c:PO}{g:PG}(G:JR Z cl lvl nm sc elt gens pos pe depth t c g target iter ifs){z:Bool}(hz:(sL t || !z)=true)
  {A:Around} {env:Env} {ρ:aL} {O:List (Option Nat×Addr)} {s:Shared} {acc:Addr} {res new:List PyData} {es:List Nat} {R:Result→Shared→Prop} {I:Addr} {fp used:List Addr} {St:Nat→Heap→Prop} {ds:List PyData}
  (X:Cx Z lvl nm sc A env ρ O s) (hf:pI sc env) (hna:Z.n≤acc) (hacc:(none,acc)∈O) (hfp:∀ a∈fp,(none,a)∈O) (hit:vQ Z A target z I fp ds used St) (hst:St 0 s.heap)
  (hseq:mX used s.heap) (hus:∀ yb∈O,yb.2∉used) (haf:acc∉fp) (hok:c7 acc res O es s.heap) (hdsok:cM ds=true) (hρ:∀ x∈bU t++w3 g,bC ρ x=none) (hes:∀ y,y∈kB pe++GI g→y∈es) (hnd:(bU t++w3 g).Nodup)
  (hev:y7 (fun d=>(fO t d ρ).bind fun ρ'=>(N0 cl c ρ').bind fun b=>if b then NZ cl (aD cl pe) g ρ' else some []) ds=some new) (hsz:(res++new).length≤sizeLine)
  (hR:∀ s',bB Z s'→aK Z nm env (bU t++w3 g) (fun b=>b=acc∨b∈fp) s.heap s'.heap→c7 acc (res++new) O es s'.heap→R (.ok .next) s') :
  codeAny (model Z.prog Z.w) A (.compLoop (.ListComp elt gens sc pos) depth (.ref I) (.ref acc) env) R s:=by
 let f:PyData→Option (List PyData):=fun d=>(fO t d ρ).bind fun ρ'=>(N0 cl c ρ').bind fun b=>if b then NZ cl (aD cl pe) g ρ' else some []
 let Y:Addr→Prop:=fun b=>b=acc∨b∈fp
 have hYO:∀ b,Y b→(none,b)∈O:=fun b hx=>hx.elim (fun e=>e▸hacc) (hfp b)
 have liveY:∀{h:Heap}{rr:List PyData}{j:Nat},c7 acc rr O es h→j≤ds.length→St j h→∀ yb∈O,Y yb.2→∃ o,h.get? yb.2=some o∧o.cls ≠ .none:=fun ok hj st yb _ hx=>hx.elim (fun e=>by
  obtain⟨⟨vs,n,sl,as,e',_⟩,_⟩:=ok
  exact e▸⟨_,e',nofun⟩) fun hm=>let⟨o,e',c,_⟩:=hit.live _ _ hj st _ hm; ⟨o,e',c⟩
 let J:Nat→Shared→Prop:=fun n s'=>∃ k res' new',n=ds.length - k∧k≤ds.length∧St k s'.heap∧bB Z s'∧aK Z nm env (bU t++w3 g) Y s.heap s'.heap∧c7 acc res' O es s'.heap∧y7 f (ds.drop k)=some new'∧res'++new'=res++new∧mX used s'.heap
 refine vB G.hg rfl G.ha J (fun n s₀ hJ E=>?_) ds.length ⟨0,res,new,rfl,Nat.zero_le _,hst,X.hi,aK.of_kp X.he (Kp.refl _ _),hok,hev,rfl,hseq⟩
 obtain⟨k,res',new',rfl,hk,st₀,I₀,T₀,ok₀,ev₀,hsum,sq₀⟩:=hJ
 have E₀:aH Z nm env ρ O s₀.heap:=X.he.of_turned G.hnd T₀ hρ (liveY ok₀ hk st₀) hYO
 have keepI:∀{rr:List PyData}{h:Heap},c7 acc rr O es s₀.heap→(∀ b o,b∉fp→s₀.heap.get? b=some o→h.get? b=some o)→c7 acc rr O es h:=fun ok kp=>ok.keep fun b o e _ _ hb=>kp b o (fun hm=>hb.elim (fun e=>haf (e▸hm)) fun h=>h (hfp b hm)) e
 rcases hdr:ds.drop k with _ | ⟨d,r⟩
 ·
  rw[hdr]at ev₀
  cases ev₀
  rw[List.append_nil]at hsum
  subst hsum
  have hkl:k=ds.length:=Nat.le_antisymm hk (List.drop_eq_nil_iff.mp hdr)
  exact hit.done s₀ _ _ (hkl▸st₀) I₀ fun s₁ I₁ kp₁=>hR s₁ I₁ (T₀.trans ((E₀.buts hfp kp₁).mono (fun _ h=>h) fun _ h=>.inr h)) (keepI ok₀ kp₁)
 ·
  have hlt:k<ds.length:=Nat.lt_of_not_le fun h=>by rw[List.drop_eq_nil_iff.mpr h]at hdr; cases hdr
  have hdk:ds[k]? = some d:=by rw[← Nat.add_zero k,← List.getElem?_drop,hdr]; rfl
  have hdr1:ds.drop (k+1)=r:=by rw[← List.drop_drop,hdr]; rfl
  rw[hdr]at ev₀
  refine HO ev₀ fun a b hfa hfb e=>aT (o:=fO t d ρ) hfa fun ρ' hb hfa=>aT (o:=N0 cl c ρ') hfa fun tb ht hfa=>?_
  subst e
  refine wpAny_mono (hit.step k d s₀ (fun v s₂=>wpAny (model Z.prog Z.w) A (assign target env v) (fun _ s₃=>wpAny (model Z.prog Z.w) A (xE ifs env) (RQ (model Z.prog Z.w) A elt gens sc pos depth (.ref I) (.ref acc) env gens[depth+1]? (fun s₅=>∃ m,m<ds.length - k∧J m s₅) E) E s₃) E s₂) E hdk st₀ I₀ fun v bs s₁ I₁ kp₁ r₁ hbs st₁=>?_) (fun r s₁ hv=>by obtain⟨v,rfl,h₁⟩:=hv; exact h₁) fun _ _ h=>h
  have ok₁:c7 acc res' O es s₁.heap:=keepI ok₀ kp₁
  have TI:=(E₀.buts (xs:=bU t++w3 g) hfp kp₁).mono (Y:=Y) (fun _ h=>h) fun _ h=>.inr h
  have E₁:aH Z nm env ρ O s₁.heap:=E₀.of_turned G.hnd TI hρ (liveY ok₁ hlt st₁) hYO
  have sq₁:=(sq₀.turn E₀ TI fun b hb hx=>hx.elim (fun e=>hus _ hacc (e▸hb)) (hit.apart b hb)).2
  refine LJ G.hck hz G.hnd X.ha.handled X.hs hf E₁ I₁ hb r₁ (iV hdsok hdk) (fun yb hy hm=>hus yb hy (hbs _ hm)) fun s₂ I₂ E₂ T₂=>G.hc ⟨X.ha,X.hs,E₂,I₂⟩ ht fun s₃ I₃ k₃=>?_
  have E₃:=E₂.kp k₃
  have T₁₃:aK Z nm env (bU t) (fun _=>False) s₁.heap s₃.heap:=T₂.trans (.of_kp E₂ k₃)
  have ok₃:=ok₁.kp E₁ T₁₃
  have go:∀ s₄,bB Z s₄→aK Z nm env (w3 g) (· = acc) s₃.heap s₄.heap→c7 acc (res'++a) O es s₄.heap→∃ m,m<ds.length - k∧J m s₄:=fun s₄ I₄ T₄ ok₄=>by
   have T₁₄:aK Z nm env (bU t++w3 g) (· = acc) s₁.heap s₄.heap:=(T₁₃.mono (fun _ h=>List.mem_append_left _ h) fun _ h=>h.elim).trans (T₄.mono (fun _ h=>List.mem_append_right _ h) fun _ h=>h)
   obtain⟨hu,sq₄⟩:=sq₁.turn E₁ T₁₄ fun b hb e=>hus _ hacc (e▸hb)
   exact⟨ds.length - (k+1),Nat.sub_lt_sub_left hlt (Nat.lt_succ_self k),k+1,res'++a,b,rfl,hlt,hit.frame _ _ _ st₁ fun b hb o e=>hb.elim (fun hb=>let⟨o',e',cI,dI⟩:=hit.live _ _ hlt st₁ b hb; (by
    cases e.symm.trans e'
    exact(T₁₄.keep b o e (.inl cI) (E₁.out (hfp b hb)) fun e=>haf (e▸hb)).nd dI)) fun hb=>hu b hb o e,I₄,T₀.trans (TI.trans (T₁₄.mono (fun _ h=>h) fun _ h=>.inl h)),ok₄,hdr1▸hfb,by rw[List.append_assoc]; exact hsum,sq₄⟩
  cases tb with
  | false=>cases hfa; exact go s₃ I₃ (.of_kp E₃ (Kp.refl _ _)) (by rw[List.append_nil]; exact ok₃)
  | true =>
   refine fun P hP=>G.hr ⟨X.ha,X.hs,E₃,I₃⟩ hf hna hacc ok₃ (fun x hx=>?_) hes (List.nodup_append.mp hnd).2.1 hfa ?_ fun s₄ I₄ T₄ ok₄=>hP s₄ (go s₄ I₄ T₄ ok₄)
   ·rw[DM hb fun hm=>(List.nodup_append.mp hnd).2.2 x hm x hx rfl]
    exact hρ x (List.mem_append_right _ hx)
   ·rw[← hsum,← List.append_assoc,List.length_append]at hsz
    exact Nat.le_trans (Nat.le_add_right _ _) hsz
end
section
variable{Z:aE}{cl:Nat→List PyData→Option PyData}{lvl:Nat}{nm:List Str}{fn:List Str}{sc:Scope}
theorem aK.narrow{env:Env}{xs:List Nat}{X Y:Addr→Prop}{h h':Heap}(T:aK Z nm env xs X h h')(hX:∀ b o,X b→h.get? b=some o→Y b):aK Z nm env xs Y h h':={ T with keep:=fun b o e c hw hy=>T.keep b o e c hw fun hx=>hy (hX b o hx e) }
theorem c7.reserves{acc:Addr}{res:List PyData}{O:List (Option Nat×Addr)}{fp:List Addr}{es es':List Nat}{h:Heap}(x:c7 acc res O es h)(hfr:∀ a∈fp,h.get? a=none):c7 acc res (reserves fp O es') es h :=
 ⟨let⟨vs,n,sl,as,e,r,ho⟩:=x.obj; ⟨vs,n,sl,as,e,r,fun yb hy hm=>(cZ hy).elim (fun⟨a,ha,e'⟩=>by
  obtain⟨o,_,_,e'',_⟩:=r.objs _ hm
  rw[e']at e''
  cases(hfr a ha).symm.trans e'') fun h=>ho yb h.1 hm⟩,x.ok⟩
theorem O2{elt target iter:Expr}{ifs:List Expr}{gens:List Comprehension}{pos:Pos}{pe:PE}{depth:Nat}{t:Tg}{i:PI}{c:PO}{g:PG}(G:JR Z cl lvl nm sc elt gens pos pe (depth+1) t c g target iter ifs){z:Bool}(hz:(sL t || !z)=true)(ht:GL z target)(hset:iF iter=false)(hi:SJ Z cl lvl nm sc z iter i) :
  SG Z cl lvl nm sc elt gens pos pe depth (.cons t i c g):=fun{A env ρ O s it acc res new es P E}X hf hna hacc ok hρ hes hnd hev hsz hP=>aT hev fun ds hx hev=>by
 rw[G.hg]
 refine wpAny_bind (wpAny_mono (hi (Q:=fun it' s₂=>wpAny (model Z.prog Z.w) A (runOwn (.compStart (.ListComp elt gens sc pos) (depth+1) it' (.ref acc) env) env >>= fun _=>again (.compLoop (.ListComp elt gens sc pos) depth it (.ref acc) env)) P E s₂) target ht X hx fun I fp used St s₁ S=>wpAny_bind (wpAny_runOwn ?_)) (fun x s₁ h₁=>wpAny_bind (wpAny_standAt (wpAny_bind (wpAny_of_eq (pQ hset env x) (wpAny_bind (wpAny_holding h₁)))))) fun _ _ h=>h)
 have E₁:aH Z nm env ρ (reserves fp O (cT i)) s₁.heap:=X.he.reserves S.kp S.fresh fun a ha=>let⟨o,e,c,_⟩:=S.iter.live _ _ (Nat.zero_le _) S.start a ha; ⟨o,e,c⟩
 have haf:acc∉fp:=fun hm=>by obtain⟨o,e,_⟩:=X.he.live _ hacc; cases(S.fresh _ hm).symm.trans e
 have ok₁:c7 acc res (reserves fp O (cT i)) es s₁.heap:=(ok.reserves S.fresh).kp (xs:=[]) X.he (.of_kp X.he S.kp)
 have loop:∀ R:Result→Shared→Prop,(∀ s',P (.again (.compLoop (.ListComp elt gens sc pos) depth it (.ref acc) env)) s'→R (.ok .next) s')→codeAny (model Z.prog Z.w) A (.compLoop (.ListComp elt gens sc pos) (depth+1) (.ref I) (.ref acc) env) R s₁:=fun R hR =>
  uH G hz ⟨X.ha,X.hs,E₁,S.inv⟩ hf hna (jT hacc) (fun a ha=>uC ha) S.iter S.start ⟨S.seq⟩ (fun yb hy hm=>(cZ hy).elim (fun⟨a,ha,e⟩=>S.iter.apart _ hm (e▸ha)) fun h=>h.2 (S.own yb h.1 hm)) haf ok₁ S.ok hρ
   (fun y hy=>hes y ((List.mem_append.mp hy).elim (List.mem_append_left _) fun h=>List.mem_append_right _ (List.mem_append_right _ h))) hnd hev hsz
   fun s' I' T ok'=>hR s' (hP s' I' (((aK.of_kp X.he S.kp).trans T).narrow fun b o hb e=>hb.elim id fun hm=>by cases(S.fresh b hm).symm.trans e)
    ⟨let⟨vs,n,sl,as,e,r,ho⟩:=ok'.obj; ⟨vs,n,sl,as,e,r,fun yb hy hm=>(dL hy).elim (fun h=>ho yb h hm) fun⟨y,h1,h2⟩=>⟨y,hes y (List.mem_append_right _ (List.mem_append_left _ h1)),h2⟩⟩,ok'.ok⟩)
 exact mF G.hg (loop _ fun _ h=>wpAny_pure h) (S.iter.again 0 s₁ _ _ S.start (loop _ fun _ h=>wpAny_pure h))
end
section
variable{β:Type}{m n:Str}{k b:β}{r l:List (Str×β)}
theorem kL:((m,k)::r).lookup m=some k:=by rw[List.lookup_cons,beq_self_eq_true]
theorem kK(h:n≠m):((m,k)::r).lookup n=r.lookup n:=by rw[List.lookup_cons,beq_false_of_ne h]
theorem iE:∀{l:List (Str×β)},l.lookup n=some b→(n,b)∈l
 | [],h=>nomatch h
 | (m,k)::r,h=>by
  by_cases e:n=m
  ·subst e; rw[kL]at h; cases h; exact List.mem_cons_self
  ·rw[kK e]at h; exact List.mem_cons_of_mem _ (iE h)
theorem B8:∀{l:List (Str×β)},(l.map (·.1)).Nodup→(n,b)∈l→l.lookup n=some b
 | (m,k)::r,hnd,h=>by
  rw[List.map_cons,List.nodup_cons]at hnd
  rcases List.mem_cons.mp h with e | h
  ·cases e; exact kL
  ·rw[kK (show n≠m from fun e=>hnd.1 (by rw[← e]; exact List.mem_map_of_mem (f:=(·.1)) h))]; exact B8 hnd.2 h
end
noncomputable def d8(env:Env):List (Str×NameKind)→List (Str×Addr)→List (Str×Addr)
 | [],acc=>acc
 | (n,k)::r,acc=>if k == .free then d8 env r ((n,(env.cells.lookup n).getD 0)::acc)else d8 env r acc
theorem jW{env:Env}(f:Str×NameKind→List (Str×Addr)→Sem (ForInStep (List (Str×Addr))))
  (hf:∀ n k cs,f (n,k) cs=if(k == .free)=true then(do let a ← cellOf env n; pure (.yield ((n,a)::cs)))else pure (.yield cs)) :
  ∀(names:List (Str×NameKind))(acc:List (Str×Addr)),(∀ n,(n,NameKind.free)∈names→∃ c,env.cells.lookup n=some c)→(forIn names acc f:Sem (List (Str×Addr)))=pure (d8 env names acc)
 | [],acc,_=>by rw[List.forIn_nil]; rfl
 | (n,k)::r,acc,h=>by
  rw[List.forIn_cons,hf]
  have hr:∀ m,(m,NameKind.free)∈r→∃ c,env.cells.lookup m=some c:=fun m hm=>h m (List.mem_cons_of_mem _ hm)
  unfold d8
  by_cases hk:(k == .free)=true
  ·cases eq_of_beq hk
   obtain⟨c,hc⟩:=h n List.mem_cons_self
   rw[if_pos hk,if_pos hk]
   unfold cellOf
   rw[hc]
   exact jW f hf r _ hr
  ·rw[if_neg hk,if_neg hk]
   exact jW f hf r _ hr
theorem vC{env:Env}{scope:Scope}(h:∀ n,(n,NameKind.free)∈scope.names→∃ c,env.cells.lookup n=some c):closureFor scope env=pure (d8 env scope.names []):=by
 simp only[closureFor]
 rw[jW (env:=env) _ (fun n k cs=>by cases k <;> rfl) scope.names [] h]
 rfl
theorem j7{env:Env}{n:Str}:∀(names:List (Str×NameKind))(acc:List (Str×Addr)),(names.map (·.1)).Nodup→(∀ n,(n,NameKind.free)∈names→∃ c,env.cells.lookup n=some c) →
  (names.lookup n=some .free→(d8 env names acc).lookup n=env.cells.lookup n)∧(names.lookup n≠some .free→(d8 env names acc).lookup n=acc.lookup n)
 | [],acc,_,_=>⟨nofun,fun _=>rfl⟩
 | (m,k)::r,acc,hnd,h=>by
  rw[List.map_cons,List.nodup_cons]at hnd
  have ih:=fun acc=>j7 (n:=n) r acc hnd.2 fun m hm=>h m (List.mem_cons_of_mem _ hm)
  unfold d8
  by_cases e:n=m
  ·subst e
   have no:r.lookup n≠some .free:=fun h=>hnd.1 (List.mem_map_of_mem (f:=(·.1)) (iE h))
   rw[kL]
   by_cases hk:(k == .free)=true
   ·cases eq_of_beq hk
    obtain⟨c,hc⟩:=h n List.mem_cons_self
    rw[if_pos hk,(ih _).2 no,kL,hc]
    exact⟨fun _=>rfl,fun h=>absurd rfl h⟩
   ·rw[if_neg hk,(ih _).2 no]
    exact⟨fun h=>absurd (by rw[Option.some.inj h]; rfl) hk,fun _=>rfl⟩
  ·rw[kK e]
   by_cases hk:(k == .free)=true
   ·rw[if_pos hk]
    exact⟨(ih _).1,fun h=>((ih _).2 h).trans (kK e)⟩
   ·rw[if_neg hk]
    exact ih _
theorem yJ:∀{names:List (Str×NameKind)}(h:Heap)(N:Nat)(acc:List (Str×Addr)),(∀ p∈names,p.2 ≠ .cell)→cellsFrom N names acc=acc∧pushCells h names=h
 | [],_,_,_,_=>⟨rfl,rfl⟩
 | (n,k)::r,h,N,acc,hc=>by
  have hk:¬(k==NameKind.cell)=true:=fun e=>hc _ List.mem_cons_self (eq_of_beq e)
  unfold cellsFrom pushCells
  rw[if_neg hk,if_neg hk]
  exact yJ h N acc fun p hp=>hc p (List.mem_cons_of_mem _ hp)
noncomputable def rk(env:Env)(n:Str)(k:NameKind):NameKind:=if(k == .free&&env.scope.kind == .function&&env.kindOf n==some .cell)then .cell else k
theorem n0{env:Env}{n:Str}{k:NameKind}(h:k ≠ .free):rk env n k=k:=if_neg fun e=>h (eq_of_beq (aA (aA e).1).1)
theorem EZ(env:Env)(n:Str):rk env n .free = .cell∨rk env n .free = .free:=by
 unfold rk
 cases(NameKind.free == .free&&env.scope.kind == .function&&env.kindOf n==some .cell)
 ·exact .inr rfl
 ·exact .inl rfl
theorem lA(env:Env)(n:Str):∀(names:List (Str×NameKind)),
  (names.map fun(n,k)=>if(k==NameKind.free&&env.scope.kind == .function&&env.kindOf n==some .cell)then(n,NameKind.cell)else(n,k)).lookup n=(names.lookup n).map (rk env n)
 | []=>rfl
 | (m,k)::r=>by
  have e1:(match(m,k)with | (n,k)=>if(k==NameKind.free&&env.scope.kind == .function&&env.kindOf n==some .cell)=true then(n,NameKind.cell)else(n,k))=(m,rk env m k):=by
   show(if(k==NameKind.free&&env.scope.kind == .function&&env.kindOf m==some .cell)=true then(m,NameKind.cell)else(m,k))=_
   unfold rk
   cases(k==NameKind.free&&env.scope.kind == .function&&env.kindOf m==some .cell) <;> rfl
  rw[List.map_cons,e1]
  by_cases e:n=m
  ·subst e; rw[kL,kL]; rfl
  ·rw[kK e,kK e]; exact lA env n r
section
variable{Z:aE}{cl:Nat→List PyData→Option PyData}{lvl:Nat}{nm:List Str}{fn:List Str}{sc:Scope}
theorem oI:∀{ts:List Nat}{ρ:aL}{x:Nat}{d:PyData},bC (TC ts ρ) x=some d→x∉ts∧bC ρ x=some d
 | [],_,_,_,h=>⟨nofun,h⟩
 | t::ts,ρ,x,d,h=>by
  obtain⟨h1,h2⟩:=oI (ts:=ts) (ρ:=ρ.set t none) h
  exact⟨fun hm=>(List.mem_cons.mp hm).elim (fun e=>by subst e; rw[uI]at h2; cases h2) h1,wL h2⟩
theorem NN{ts:List Nat}(ρ:aL){x:Nat}(h:x∈ts):bC (TC ts ρ) x=none:=by
 cases e:bC (TC ts ρ) x with
 | none=>rfl
 | some d=>exact absurd h (oI e).1
structure m4(nm:List Str)(sc scope:Scope)(ts:List Nat):Prop where
 tsnd:ts.Nodup
 kind:scope.kind = .function
 nodup:(scope.names.map (·.1)).Nodup
 nmnd:nm.Nodup
 dot:(".0" : Str)∉nm
 free:∀ n,scope.names.lookup n=some .free→sc.names.lookup n=some .cell∨sc.names.lookup n=some .free
 own:∀ n,scope.names.lookup n=some .local→n = ".0" ∨ ∃ x∈ts,nm[x]? = some n
 nocell:∀ p∈scope.names,p.2 ≠ .cell
theorem uB{scope:Scope}{ts:List Nat}(h:EV nm sc scope ts=true):m4 nm sc scope ts:=by
 obtain⟨h1,h⟩:=aA h
 obtain⟨h0,h⟩:=aA h
 obtain⟨h2,h⟩:=aA h
 obtain⟨h3,h⟩:=aA h
 obtain⟨h4,h⟩:=aA h
 have h6:=List.all_eq_true.mp h
 refine⟨of_decide_eq_true h0,eq_of_beq h1,of_decide_eq_true h2,of_decide_eq_true h3,fun hm=>?_,fun n hn=>?_,fun n hn=>?_,fun p hp e=>?_⟩
 ·rw[List.contains_iff_mem.mpr hm]at h4; cases h4
 ·exact(Bool.or_eq_true_iff.mp (h6 _ (iE hn))).imp eq_of_beq eq_of_beq
 ·exact(Bool.or_eq_true_iff.mp (h6 _ (iE hn))).imp eq_of_beq fun h=>let⟨x,h1,h2⟩:=List.any_eq_true.mp h; ⟨x,h1,eq_of_beq h2⟩
 ·have:=h6 p hp
  obtain⟨n,k⟩:=p
  cases e
  cases this
theorem HX{scope:Scope}{env:Env}{ρ:aL}{O:List (Option Nat×Addr)}{s:Shared}{ts:List Nat}{M:Model}{A:Around}{E:Value→Shared→Prop}{Q:Env→Shared→Prop}(F:m4 nm sc scope ts)(hs:u5 sc env)(hE:aH Z nm env ρ O s.heap)(hI:bB Z s)
  (hfc:∀ n,(n,NameKind.free)∈scope.names→∃ c,env.cells.lookup n=some c)
  (hQ:∀(cenv:Env)s',u5 scope { cenv with scope:=relabel scope env }→pI scope { cenv with scope:=relabel scope env }→aH Z nm { cenv with scope:=relabel scope env } (TC ts ρ) O s'.heap→bB Z s' →
   (∀ b o,s.heap.get? b=some o→s'.heap.get? b=some o)→cenv.locals=s.heap.objs.size→(∀ n,iN scope n=true→¬cf { cenv with scope:=relabel scope env } n)→Q cenv s') :
  wpAny M A (newFunctionEnv scope env.globals (d8 env scope.names []) [] env.qual none .none (some env)) Q E s:=by
 have hfk:∀ n,scope.names.lookup n=some .free→cf env n:=fun n hn=>hs.2.1 n (F.free n hn)
 simp only[newFunctionEnv,Option.isSome_some,if_true]
 refine wpAny_bind (wpAny_alloc ?_)
 refine wpAny_bind (wpAny_layCells _ (fun name kind cells=>by cases kind <;> rfl) _ _ _ _ ?_)
 rw[(yJ s.heap _ _ F.nocell).1,(yJ _ 0 [] F.nocell).2]
 refine wpAny_bind (m:=forIn [] _ _) ?_
 rw[List.forIn_nil]
 refine wpAny_pure (wpAny_pure ?_)
 have hkeep:∀ b o,s.heap.get? b=some o→(s.heap.push { cls:=.type "dict",data:=.dict #[] }).get? b=some o:=fun b o e=>Heap.get?_push_of_some _ e
 generalize hcells:d8 env scope.names []=cells
 have hcl:∀ n,scope.names.lookup n=some .free→cells.lookup n=env.cells.lookup n:=fun n hn=>hcells▸(j7 scope.names [] F.nodup hfc).1 hn
 have hkind:∀ n:Str,Env.kindOf { scope:=relabel scope env,locals:=s.heap.objs.size,globals:=env.globals,cells:=cells,qual:=env.qual,func:=none,code:=env.code,frame:=env.frame,builtins:=env.builtins } n=(scope.names.lookup n).map (rk env n):=fun n=>lA env n scope.names
 have nocell:∀ n,scope.names.lookup n≠some .cell:=fun n h=>F.nocell _ (iE h) rfl
 have hcf:∀ n:Str,cf { scope:=relabel scope env,locals:=s.heap.objs.size,globals:=env.globals,cells:=cells,qual:=env.qual,func:=none,code:=env.code,frame:=env.frame,builtins:=env.builtins } n→scope.names.lookup n=some .free:=fun n h=>by
  unfold cf at h
  rw[hkind]at h
  have:=nocell n
  generalize scope.names.lookup n=o at h this
  cases o with
  | none=>exact h.elim nofun nofun
  | some k =>
   by_cases hk:k = .free
   ·rw[hk]
   ·rw[Option.map_some,n0 hk]at h
    exact h.elim (fun h=>absurd h this) fun h=>h
 have hloc:∀ n,iN scope n=true→scope.names.lookup n=some .local:=fun n h=>(Bool.or_eq_true_iff.mp h).elim eq_of_beq fun h=>absurd (eq_of_beq h) (nocell n)
 have hfree:∀ n,scope.names.lookup n=some .free→(scope.names.lookup n).map (rk env n)=some .cell∨(scope.names.lookup n).map (rk env n)=some .free:=fun n hn=>by rw[hn]; exact(EZ env n).imp (congrArg some) (congrArg some)
 have hl:∀ n,scope.names.lookup n=some .local→(scope.names.lookup n).map (rk env n)=some .local:=fun n hn=>by rw[hn,Option.map_some,n0 (k:=.local) nofun]
 refine hQ _ _ ⟨fun n hn=>(hkind n).trans (hl n hn),fun n hn=>hn.elim (fun h=>absurd h (nocell n)) fun h=>by rw[hkind]; exact hfree n h,fun n hn=>by rw[hkind,hn,Option.map_some,n0 (k:=.globalImplicit) nofun]⟩ (fun n hn=>by rw[hkind,hl n (hloc n hn)]; nofun) ?_ (hI.full (tk:=s.toks) hkeep) hkeep rfl fun n h h'=>by have:=hcf n h'; rw[hloc n h]at this; cases this
 exact{
  kind:=F.kind
  glob:=hE.glob
  blt:=hE.blt
  new:=hE.size
  ns:=⟨_,Heap.Ns.new s.heap (.type "dict")⟩
  live:=fun yb hy=>let⟨o,e,c⟩:=hE.live yb hy; ⟨o,hkeep _ _ e,c⟩
  apart:=fun yb hy=>⟨fun e=>absurd (hE.lt yb hy) (by rw[show yb.2=s.heap.objs.size from e]; exact Nat.lt_irrefl _),fun n c hk hc=>(hE.apart yb hy).2 n c (hfk n (hcf n hk)) ((hcl n (hcf n hk)).symm.trans hc)⟩
  cells:=fun n hk=>let⟨c,v,h5,h6,h7⟩:=hE.cells n (hfk n (hcf n hk)); ⟨c,v,(hcl n (hcf n hk)).trans h5,h6,h7.keeps hkeep⟩
  inj:=fun n m c hn hm cn cm=>hE.inj n m c (hfk n (hcf n hn)) (hfk m (hcf m hm)) ((hcl n (hcf n hn)).symm.trans cn) ((hcl m (hcf m hm)).symm.trans cm)
  vars:=fun y d n h1 h2 h3=>by
   have hnx:scope.names.lookup n=some .free:=by
    rcases h3 with h3 | h3
    ·have h3':=(hkind n).symm.trans h3
     have hloc:scope.names.lookup n=some .local:=by
      generalize hg:scope.names.lookup n=o at h3'
      cases o with
      | none=>cases h3'
      | some k =>
       by_cases hk:k = .free
       ·subst hk
        exact(EZ env n).elim (fun e=>by rw[Option.map_some,e]at h3'; cases h3') fun e=>by rw[Option.map_some,e]at h3'; cases h3'
       ·rwa[Option.map_some,n0 hk]at h3'
     rcases F.own n hloc with e | ⟨x,hx,e⟩
     ·exact absurd (List.mem_of_getElem? h2) (e▸F.dot)
     ·cases iW F.nmnd e h2
      exact absurd hx (oI h1).1
    ·exact hcf n h3
   obtain⟨v,as,a,r,hd,ho⟩:=hE.vars y d n (oI h1).2 h2 (.inr (hfk n hnx))
   refine⟨v,as,.inr ⟨by rw[hkind]; exact hfree n hnx,?_⟩,r.map fun b o _ e _=>hkeep b o e,hd,ho⟩
   rcases a with⟨h4,_⟩| ⟨h4,c,h5,h6⟩
   ·exact(hfk n hnx).elim (fun h=>nomatch h4.symm.trans h) fun h=>nomatch h4.symm.trans h
   ·exact⟨c,(hcl n hnx).trans h5,h6.keeps hkeep⟩ }
end
section
variable{Z:aE}{cl:Nat→List PyData→Option PyData}{lvl:Nat}{nm:List Str}{fn:List Str}{sc:Scope}
structure xT(Z:aE)(cl:Nat→List PyData→Option PyData)(lvl:Nat)(nm:List Str)(sc scope:Scope)(elt target iter:Expr)(ifs:List Expr)(gens:List Comprehension)(pos:Pos)(pe:PE)(t:Tg)(i:PI)(c:PO)(g:PG)(z:Bool):Prop where
 F:m4 nm sc scope (bU t++w3 g)
 own:∀ x∈bU t++w3 g,∀ n,nm[x]? = some n→iN scope n=true
 hset:iF iter=false
 hi:SJ Z cl lvl nm sc z iter i
 ht:GL z target
 hz:(sL t || !z)=true
 G:JR Z cl lvl nm scope elt (⟨target,iter,ifs,0⟩::gens) pos pe 0 t c g target iter ifs
theorem tZ{elt target iter:Expr}{ifs:List Expr}{gens:List Comprehension}{scope:Scope}{pos:Pos}{pe:PE}{t:Tg}{i:PI}{c:PO}{g:PG}{z:Bool}(C:xT Z cl lvl nm sc scope elt target iter ifs gens pos pe t i c g z)
  {A:Around} {env:Env} {ρ:aL} {O:List (Option Nat×Addr)} {s:Shared} {d:PyData} {Q:Value→Shared→Prop} {E:Value→Shared→Prop} {use:Option (Value→Sem Unit)} (X:Cx Z lvl nm sc A env ρ O s) (hd:aD cl (.comp pe t i c g) ρ=some d)
  (gt:∀ acc C s' as,bB Z s'→Kp Z.n s.heap s'.heap→Rd s'.heap (.ref acc) d (acc::as)→bL d=true→(∀ yb∈O,yb.2∈acc::as→iP yb.1 (kB (.comp pe t i c g)))→s.heap.get? C=none→s.heap.get? acc=none→Z.n≤C→Z.n≤acc→(∃ m,s'.heap.Ns C m) →
   compPost (model Z.prog Z.w) A E use Q (.ref acc) C (.ok .next) s') :
  wpAny (model Z.prog Z.w) A (comprehension (.ListComp elt (⟨target,iter,ifs,0⟩::gens) scope pos) scope env (firstIterPos (⟨target,iter,ifs,0⟩::gens) pos) (newList []) (firstAsync (⟨target,iter,ifs,0⟩::gens)) (firstIter (⟨target,iter,ifs,0⟩::gens) env) use) Q E s :=
 aT hd fun ds hds hd=>aT hd fun new hnew hd=>iO hd fun hsz e=>by
 cases e
 have F:=C.F
 have hE:=X.he
 have hfree:∀ n,(n,NameKind.free)∈scope.names→∃ c,env.cells.lookup n=some c:=fun n hm=>let⟨c,_,h1,_⟩:=hE.cells n (X.hs.2.1 n (F.free n (B8 F.nodup hm))); ⟨c,h1⟩
 refine wpAny_comprehension_free rfl (pQ C.hset env) (vC hfree) F.kind (fun p hp hl=>B8 F.nodup (by rw[← hl]; exact hp)) (C.hi target C.ht X hds fun I fp used St s₁ S=>wpAny_newList (items:=[]) ?_ (by decide))
 generalize hg:s₁.heap.objs.size=acc
 generalize hh:s₁.heap.push { cls:=.type "list",data:=.seq (List.toArray ([]:List Value)) }=h₂
 have hgacc:h₂.get? acc=some { cls:=.type "list",data:=.seq #[] }:=by rw[← hh,← hg]; exact Heap.get?_push_size _ rfl
 have hpk:∀ b o,s₁.heap.get? b=some o→h₂.get? b=some o:=fun b o e=>by rw[← hh]; exact Heap.get?_push_of_some _ e
 have hna:Z.n≤acc:=hg▸(hE.kp S.kp).size
 have hone:s₁.heap.get? acc=none:=get?_ge (Nat.le_of_eq hg)
 have E₁:aH Z nm env ρ (reserves fp O (cT i)) s₁.heap:=hE.reserves S.kp S.fresh fun a ha=>let⟨o,e,c,_⟩:=S.iter.live _ _ (Nat.zero_le _) S.start a ha; ⟨o,e,c⟩
 have E₂:aH Z nm env ρ (reserve acc (reserves fp O (cT i)) []) h₂:=E₁.reserve (Kp.of hpk) hone ⟨_,hgacc,nofun⟩
 have haI:acc∉fp:=fun hm=>by obtain⟨o,e',_⟩:=S.iter.live _ _ (Nat.zero_le _) S.start _ hm; rw[hone]at e'; cases e'
 have usNo:∀ b∈used,∀ o,s₁.heap.get? b=some o→b≠acc:=fun b _ o e e'=>by rw[e',hone]at e; cases e
 have hus:∀ yb∈reserve acc (reserves fp O (cT i)) [],yb.2∉used:=fun yb hy hm=>(kX hy).elim (fun e=>by
  subst e
  obtain⟨o,_,_,e',_⟩:=S.seq _ hm
  exact usNo _ hm _ e' rfl) fun h=>(cZ h.1).elim (fun⟨a,ha,e⟩=>S.iter.apart _ hm (e▸ha)) fun h=>h.2 (S.own yb h.1 hm)
 refine HX F X.hs (s:={ s₁ with heap:=h₂ }) E₂ (S.inv.full (tk:=s₁.toks) hpk) hfree fun cenv s₃ hs₃ hf₃ E₃ I₃ hk₃ hloc hncf=>?_
 have hk₁₃:∀ b o,s₁.heap.get? b=some o→s₃.heap.get? b=some o:=fun b o e=>hk₃ b o (hpk b o e)
 have st₃:St 0 s₃.heap:=S.iter.frame 0 _ _ S.start fun b _ o e=>hk₁₃ b o e
 have sq₃:mX used s₃.heap:=⟨fun a ha=>let⟨o,vs,n,e,r⟩:=S.seq a ha; ⟨o,vs,n,hk₁₃ _ _ e,r⟩⟩
 have ok₃:c7 acc [] (reserve acc (reserves fp O (cT i)) []) (kB pe++(cT i++GI g)) s₃.heap:=⟨⟨#[],0,#[],[],hk₃ _ _ hgacc,.nil,nofun⟩,rfl⟩
 have old:∀ b o,s.heap.get? b=some o→b≠acc∧b∉fp∧¬Wr nm { cenv with scope:=relabel scope env } (bU t++w3 g) b:=fun b o e=>by
  have hb:b<acc:=by
   rcases Nat.lt_or_ge b Z.n with h | h
   ·exact Nat.lt_of_lt_of_le h hna
   ·exact hg▸(S.kp.k b o e (.inr h)).lt
  refine⟨Nat.ne_of_lt hb,(fun hm=>by rw[S.fresh b hm]at e; cases e),fun w=>?_⟩
  rcases w with w | ⟨y,hy,n,hn,hk,_⟩
  ·have:acc<h₂.objs.size:=Heap.lt_size hgacc
   rw[show b=cenv.locals from w,hloc]at hb
   exact absurd hb (Nat.not_lt.mpr (Nat.le_of_lt this))
  ·exact hncf _ (C.own y hy n hn) hk
 have fin:∀ s',bB Z s'→aK Z nm { cenv with scope:=relabel scope env } (bU t++w3 g) (fun b=>b=acc∨b∈fp) s₃.heap s'.heap→c7 acc new (reserve acc (reserves fp O (cT i)) []) (kB pe++(cT i++GI g)) s'.heap →
   compPost (model Z.prog Z.w) A E use Q (.ref acc) cenv.locals (.ok .next) s':=fun s' I' T ok'=>by
  obtain⟨⟨vs,n,sl,as,e,r,ho⟩,okd⟩:=ok'
  refine gt acc cenv.locals s' as I' ⟨fun b o e c=>?_⟩ (.list e ⟨rfl,rfl⟩ rfl r) (y5 hsz okd) (fun yb hy hm=>?_) ?_ ?_ ?_ hna (T.ns E₃.ns)
  ·obtain⟨g1,g2,g3⟩:=old b o e
   exact(S.kp.k b o e c).next fun o' e' hcc=>T.keep b o' (hk₁₃ b o' e') (by rw[hcc]; exact c) g3 fun h=>h.elim g1 g2
  ·rcases List.mem_cons.mp hm with h | hm
   ·obtain⟨o,e,c⟩:=hE.live yb hy
    exact absurd h (old _ _ e).1
   ·rcases dL (fp:=fp) (es:=cT i) hy with h | ⟨y,h1,h2⟩
    ·exact(dL (fp:=[acc]) (es:=[]) h).elim (fun h=>ho yb h hm) fun⟨_,h1,_⟩=>nomatch h1
    ·exact⟨y,List.mem_append_right _ (List.mem_append_left _ h1),h2⟩
  ·cases e':s.heap.get? cenv.locals with
   | none=>rfl
   | some o=>exact absurd (.inl rfl) (old cenv.locals o e').2.2
  ·exact S.kp.none hna hone
  ·rw[hloc]
   exact Nat.le_trans hna (Nat.le_of_lt (Heap.lt_size hgacc))
 have loop:∀ R:Result→Shared→Prop,(∀ s',compPost (model Z.prog Z.w) A E use Q (.ref acc) cenv.locals (.ok .next) s'→R (.ok .next) s')→codeAny (model Z.prog Z.w) A (.compLoop (.ListComp elt (⟨target,iter,ifs,0⟩::gens) scope pos) 0 (.ref I) (.ref acc) { cenv with scope:=relabel scope env }) R s₃:=fun R hR =>
  uH C.G C.hz ⟨X.ha,hs₃,E₃,I₃⟩ hf₃ hna (.head _) (fun a ha=>jT (uC ha)) S.iter st₃ sq₃ hus haI ok₃ S.ok (fun x hx=>NN ρ hx) (fun y hy=>(List.mem_append.mp hy).elim (List.mem_append_left _) fun h=>List.mem_append_right _ (List.mem_append_right _ h)) F.tsnd hnew hsz fun s' I' T ok'=>hR s' (fin s' I' T ok')
 exact mF C.G.hg (loop _ fun _ h=>h) (S.iter.again 0 s₃ _ _ st₃ (loop _ fun _ h=>h))
theorem O4{elt target iter:Expr}{ifs:List Expr}{gens:List Comprehension}{scope:Scope}{pos:Pos}{pe:PE}{t:Tg}{i:PI}{c:PO}{g:PG}{z:Bool}(C:xT Z cl lvl nm sc scope elt target iter ifs gens pos pe t i c g z) :
  SE Z cl lvl nm sc (.ListComp elt (⟨target,iter,ifs,0⟩::gens) scope pos) (.comp pe t i c g):=fun{A env ρ O s d Q E}X hd gt=>by
 rw[eval_ListComp]
 refine tZ C X hd fun acc C s' as I' k r okd ho hC hacc hnC hna⟨m,hm⟩=>⟨m,hm,fun h' hs'=>gt (.ref acc) (acc::as) _ (I'.same hnC hs' (fun h=>absurd h (X.hi.notFr hC)) s'.toks) ⟨fun b o e c=>(k.k b o e c).then fun o' e'=>(hs'.2 b fun e''=>by rw[e'',hC]at e; cases e).trans e'⟩ (r.map fun a o ha e _=>?_) okd ho⟩
 obtain⟨o',xs,n',e',hd',_⟩:=r.objs a ha
 cases e.symm.trans e'
 exact(hs'.2 a fun e''=>eS hm (e''▸e) hd').trans e
end
section
variable{Z:aE}{cl:Nat→List PyData→Option PyData}{lvl:Nat}{nm:List Str}{fn:List Str}
def SB(Z:aE)(cl:Nat→List PyData→Option PyData)(lvl:Nat)(nm:List Str)(sc:Scope)(p:PE)(e:Expr):Prop:=SE Z cl lvl nm sc e p∧ST Z cl lvl nm sc e p
theorem SB.of{e:Expr}{p:PE}{sc:Scope}(h:SE Z cl lvl nm sc e p)(hw:∀ env,isTrue e env (eval e env)=(do let v ← eval e env; standAt e.pos; holding [v] (truthy v))):SB Z cl lvl nm sc p e:=⟨h,LI h hw⟩
theorem O0{q:Bool}{b:PE}{y:Expr}{sc:Scope}(h:ST Z cl lvl nm sc y b){A:Around}{env:Env}{ρ:aL}{O:List (Option Nat×Addr)}{s:Shared}{d:PyData}{t:Bool}{Q:Bool→Shared→Prop}{E:Value→Shared→Prop}
  (X:Cx Z lvl nm sc A env ρ O s) (hd:aD cl b ρ=some d) (ht:bT d=some t) (hQ:∀ s',bB Z s'→Kp Z.n s.heap s'.heap→Q t s'):wpAny (model Z.prog Z.w) A (allTrue (kA q) [y] env) Q E s:=by
 rw[arm_allTrue_cons]
 refine wpAny_bind (h X hd ht fun s₁ I₁ k₁=>?_)
 have:=hQ s₁ I₁ k₁
 cases q <;> cases t <;> exact wpAny_pure this
theorem LR{q:Bool}{a b:PE}{x y:Expr}{pos:Pos}{sc:Scope}(i1:SB Z cl lvl nm sc a x)(i2:SB Z cl lvl nm sc b y):SB Z cl lvl nm sc (.bool q a b) (.BoolOp (kA q) [x,y] pos) :=
 ⟨EU (rest:=[y]) (pos:=pos) (fun _=>⟨_,_,rfl⟩) i1.1 fun{A env ρ O s d Q E}X hd g=>i2.1 (A:=A) (env:=env) (Q:=Q) (E:=E) X hd g,EP i1.2 (O0 i2.2)⟩
theorem LQ{q:Bool}{a b:PE}{x y z:Expr}{r:List Expr}{pos:Pos}{sc:Scope}(i1:SB Z cl lvl nm sc a x)(i2:SB Z cl lvl nm sc b (.BoolOp (kA q) (y::z::r) pos)):SB Z cl lvl nm sc (.bool q a b) (.BoolOp (kA q) (x::y::z::r) pos) :=
 ⟨EU (rest:=y::z::r) (pos:=pos) (fun _=>⟨_,_,rfl⟩) i1.1 fun{A env ρ O s d Q E}X hd g=>i2.1 (A:=A) (env:=env) (Q:=Q) (E:=E) X hd g,EP i1.2 fun{A env ρ O s d t Q E}X hd ht hQ=>i2.2 (A:=A) (env:=env) (Q:=Q) (E:=E) X hd ht hQ⟩
theorem RF{q:Bool}{a b:PE}{sc:Scope}{e:Expr}(ha:∀ e,cS fn nm sc a e=true→SB Z cl lvl nm sc a e)(hb:∀ e,cS fn nm sc b e=true→SB Z cl lvl nm sc b e)(h:cS fn nm sc (.bool q a b) e=true):SB Z cl lvl nm sc (.bool q a b) e:=by
 apply wF h; intro op xs pos h
 refine aB h fun hz h=>?_; have hz:=eq_of_beq hz; subst hz
 apply cV h; intro x r h
 refine aB h fun h1 h=>?_
 apply cV h; intro y r' h
 cases r' with
 | nil=>exact LR (ha _ h1) (hb _ h)
 | cons z r=>exact LQ (ha _ h1) (hb _ h)
theorem TH{t:Tg}{i:PI}{sc:Scope}{e:Expr}(h:vN nm sc t e=true)(hz:(sL t || !zC i)=true):GL (zC i) e:=by
 cases t with
 | one x =>
  apply aM h; intro n p _
  exact .inl ⟨bJ hz,n,p,rfl⟩
 | two x y =>
  apply e7 h; intro a b c _
  exact .inr ⟨a,b,c,rfl⟩
theorem BU{t:Tg}{sc:Scope}{e:Expr}(h:vN nm sc t e=true):∀ x∈bU t,∀ n,nm[x]? = some n→iN sc n=true:=by
 have one:∀{x:Nat}{m:Str},(nm[x]? == some m&&iN sc m)=true→∀ n,nm[x]? = some n→iN sc n=true:=fun h n e=>by
  obtain⟨h1,h2⟩:=aA h
  cases(eq_of_beq h1).symm.trans e
  exact h2
 cases t with
 | one x =>
  apply aM (m:=fun _=>_) h; intro n p h y hy
  exact List.mem_singleton.mp hy▸one h
 | two x y =>
  apply e7 (m:=fun _=>_) h; intro es x1 p h
  apply cV (m:=fun _=>_) h; intro a r h
  apply cK (m:=fun _=>_) h; intro b h
  apply aM (m:=fun _=>_) h; intro n p1 h
  apply aM (m:=fun _=>_) h; intro m p2 h z hz
  exact(List.mem_cons.mp hz).elim (fun e=>e▸one (aA h).1) fun h'=>List.mem_singleton.mp h'▸one (aA h).2
theorem I6{sc:Scope}:∀{g:PG}{gs:List Comprehension},IV fn nm sc g gs=true→∀ x∈w3 g,∀ n,nm[x]? = some n→iN sc n=true
 | .nil,_,_=>nofun
 | .cons t i c g,gs,h=>by
  apply cV (m:=fun _=>_) h; intro cp r h
  apply nR (m:=fun _=>_) h; intro target iter ifs az h x hx
  have h2:=aA (aA (aA (aA (aA h).2).2).2).2
  exact(List.mem_append.mp hx).elim (BU h2.1 x) (I6 h2.2 x)
theorem yS{sc:Scope}{g:PG}{gs:List Comprehension}(h:IV fn nm sc g gs=true)(c:Comprehension)(e:gs[0]? = some c):c.is_async=0:=by
 cases g with
 | nil=>exact dU (m:=fun gs=>gs[0]? = some c→c.is_async=0) h nofun e
 | cons t i b g =>
  revert e
  apply cV h; intro cp r h e
  cases e
  apply nR h; intro target iter ifs az h
  exact eq_of_beq (aA h).1
theorem SI.both{z z':Bool}{e:Expr}{sc:Scope}{p:PI}(q:SI Z cl lvl nm sc e p):SJ Z cl lvl nm sc z e p∧(z'=false→SI Z cl lvl nm sc e p):=⟨SI.sj q,fun _=>q⟩
theorem IX{z:Bool}{p:PI}{sc:Scope}{e:Expr}(h:IU fn nm z sc p e=true):(z || !zC p)=true:=by
 cases p with
 | zip=>rw[(aA h).1]; rfl
 | _=>exact Bool.or_true z
theorem F3{es:r8}{as:List Expr}{sc:Scope}(h:(decide (mH es≠0)&&nK fn nm sc es as)=true):as≠[]∧aX as∧nK fn nm sc es as=true:=by
 obtain⟨h1,h2⟩:=aA h
 obtain⟨h3,h4⟩:=kZ h2
 exact⟨fun e=>of_decide_eq_true h1 (by rw[← h4,e]; rfl),h3,h2⟩
mutual
theorem bE(hB:fE Z)(hC:dX Z lvl fn cl):∀(p:PE)(sc:Scope)(e:Expr),cS fn nm sc p e=true→SB Z cl lvl nm sc p e
 | .lit d,sc,e,h=>by
  apply cD h; intro c k p h
  exact .of (JY (eq_of_beq h)) fun _=>rfl
 | .var x,sc,e,h=>by
  apply aM h; intro n p h
  exact .of (UT (eq_of_beq (aA (aA (aA h).1).1).1) (aA (aA (aA h).1).1).2 (bne_iff_ne.mp (aA (aA h).1).2) (bne_iff_ne.mp (aA h).2)) fun _=>rfl
 | .neg a,sc,e,h=>by
  apply jO h; intro o x p h
  refine aB h fun z h=>?_; apply cL z
  exact .of (UV (bE hB hC a sc _ h).1) fun _=>rfl
 | .nt a,sc,e,h=>by
  apply jO h; intro o x p h
  refine aB h fun z h=>?_; apply cL z
  have i:=bE hB hC a sc _ h
  exact⟨YN i.1,YJ i.2⟩
 | .bool q a b,sc,e,h=>RF (fun e h=>bE hB hC a sc e h) (fun e h=>bE hB hC b sc e h) h
 | .bin op a b,sc,e,h=>by
  apply z9 h; intro l o r p h
  refine aB h fun z h=>?_; apply cL z
  exact .of (UZ (bE hB hC a sc _ (aA h).1).1 (bE hB hC b sc _ (aA h).2).1) fun _=>rfl
 | .cmp op a b,sc,e,h=>by
  apply mZ h; intro l os rs p h
  apply cK h; intro o h
  refine aB h fun z h=>?_; apply cL z
  apply cK h; intro r h
  refine aB h fun z h=>?_
  have i1:=bE hB hC a sc _ (aA h).1
  have i2:=bE hB hC b sc _ (aA h).2
  exact⟨UY (bJ z) i1.1 i2.1,UN (bJ z) i1.1 i2.1⟩
 | .ite c a b,sc,e,h=>by
  apply MK h; intro t x y p h
  refine aB h fun h1 h=>?_
  have i1:=bE hB hC c sc _ h1
  have i2:=bE hB hC a sc _ (aA h).1
  have i3:=bE hB hC b sc _ (aA h).2
  exact⟨UW i1.2 i2.1 i3.1,UM i1.2 i2.2 i3.2⟩
 | .list es,sc,e,h=>by
  apply rJ h; intro xs p h
  exact .of (O3 (of_decide_eq_true (aA h).1) (lG hB hC es sc _ (aA h).2)) fun _=>rfl
 | .comp elt t i c g,sc,e,h=>by
  apply qK h; intro el gens scope pos h
  apply cV h; intro cp r h
  apply nR h; intro target iter ifs az h
  refine aB h fun z h=>?_; apply cL z
  refine aB h fun h1 h=>aB h fun h2 h=>aB h fun h3 h=>aB h fun h4 h=>aB h fun h5 h=>?_
  have F:=uB h3
  have hz:=IX h4
  exact .of (O4 ⟨F,fun x hx=>(List.mem_append.mp hx).elim (BU h5 x) (I6 (aA h).1 x),bJ h2,(xI hB hC i _ sc _ h4).1,TH h5 hz,hz,⟨rfl,yS (aA h).1,F.nmnd,h5,BN hB hC c scope _ h1,BM hB hC g scope el (⟨target,iter,ifs,0⟩::r) pos elt 0 F.nmnd (bE hB hC elt scope _ (aA h).2).1 (aA h).1⟩⟩) fun _=>rfl
 | .call f es,sc,e,h=>by
  apply dR h; intro fe as ks p h
  refine aB h fun z h=>?_; apply dU z
  apply aM h; intro n q h
  refine aB h fun h1 h=>aB h fun h2 h=>?_
  obtain⟨g1,g2,g3⟩:=F3 h
  exact .of (O5 hC (eq_of_beq h1) h2 g1 g2 (lG hB hC es sc _ g3)) fun _=>rfl
 | .bi b es,sc,e,h=>by
  apply dR h; intro fe as ks p h
  refine aB h fun z h=>?_; apply dU z
  apply aM h; intro n q h
  refine aB h fun z h=>?_; apply cL z
  refine aB h fun h2 h=>?_
  obtain⟨g1,g2,g3⟩:=F3 h
  exact .of (YQ hB h2 g1 g2 (lG hB hC es sc _ g3)) fun _=>rfl
 | .me m o es,sc,e,h=>by
  apply dR h; intro fe as ks pos h
  refine aB h fun z h=>?_; apply dU z
  apply cB h; intro x name apos h
  refine aB h fun z h=>?_; apply cL z
  refine aB h fun h1 h=>aB h fun h2 h=>aB h fun h3 h=>aB h fun h4 h=>?_
  exact .of (YO (HU h1) h2 (of_decide_eq_true h3) (of_decide_eq_true h4) (bE hB hC o sc _ (aA h).1).1 (kZ (aA h).2) (lG hB hC es sc _ (aA h).2)) fun _=>rfl
 | .idx a i,sc,e,h=>by
  apply fV h; intro v s p h
  refine aB h fun z h=>?_
  exact .of (UX (bJ z) (bE hB hC a sc _ (aA h).1).1 (bE hB hC i sc _ (aA h).2).1) fun _=>rfl
 | .slc a lo hi,sc,e,h=>by
  apply fV h; intro v s p h
  apply z0 h; intro l u st q h
  refine aB h fun z h=>?_; apply sJ z
  refine aB h fun h1 h=>?_
  exact .of (UU (bE hB hC a sc _ h1).1 (JW hB hC lo sc _ (aA h).1) (JW hB hC hi sc _ (aA h).2)) fun _=>rfl
theorem lG(hB:fE Z)(hC:dX Z lvl fn cl):∀(ps:r8)(sc:Scope)(es:List Expr),nK fn nm sc ps es=true→IA Z cl lvl nm sc es ps
 | .nil,sc,es,h=>by apply dU h; exact yA
 | .cons p ps,sc,es,h=>by
  apply cV h; intro e r h
  refine aB h fun z h=>?_
  exact nY (bF (bJ z) r) (bE hB hC p sc e (aA h).1).1 (lG hB hC ps sc r (aA h).2)
theorem JW(hB:fE Z)(hC:dX Z lvl fn cl):∀(p:PO)(sc:Scope)(o:Option Expr),T2 fn nm sc p o=true→SO Z cl lvl nm sc o p
 | .no,sc,o,h=>by apply sJ h; exact YL
 | .yes p,sc,o,h=>by
  apply sB h; intro e h
  exact UP (bE hB hC p sc e h).1
theorem BN(hB:fE Z)(hC:dX Z lvl fn cl):∀(p:PO)(sc:Scope)(es:List Expr),CQ fn nm sc p es=true→SC Z cl lvl nm sc es p
 | .no,sc,es,h=>by apply dU h; exact YR
 | .yes p,sc,es,h=>by
  apply cK h; intro e h
  exact U0 (bE hB hC p sc e h).2
theorem BM(hB:fE Z)(hC:dX Z lvl fn cl):∀(g:PG)(sc:Scope)(el:Expr)(gens:List Comprehension)(pos:Pos)(pe:PE)(depth:Nat),nm.Nodup→SE Z cl lvl nm sc el pe→IV fn nm sc g (gens.drop (depth+1))=true→SG Z cl lvl nm sc el gens pos pe depth g
 | .nil,sc,el,gens,pos,pe,depth,hnd,he,h=>US (List.getElem?_eq_none (List.drop_eq_nil_iff.mp (List.isEmpty_iff.mp h))) he
 | .cons t i c g,sc,el,gens,pos,pe,depth,hnd,he,h=>by
  generalize hl:gens.drop (depth+1)=l at h
  revert hl
  apply cV h; intro cp r h
  apply nR h; intro target iter ifs az h
  refine aB h fun z h=>?_; apply cL z
  intro hl
  have e1:gens[depth+1]? = some ⟨target,iter,ifs,0⟩:=by rw[← Nat.add_zero (depth+1),← List.getElem?_drop,hl]; rfl
  have e2:gens.drop (depth+1+1)=r:=by rw[← List.drop_drop,hl]; rfl
  refine aB h fun h1 h=>aB h fun h2 h=>aB h fun h4 h=>aB h fun h5 h=>?_
  have hz:=IX h4
  exact O2 ⟨e1,fun c e=>yS h c (by rw[← e2,List.getElem?_drop]; exact e),hnd,h5,BN hB hC c sc _ h1,BM hB hC g sc el gens pos pe (depth+1) hnd he (by rw[e2]; exact h)⟩ hz (TH h5 hz) (bJ h2) (xI hB hC i _ sc _ h4).1
theorem xI(hB:fE Z)(hC:dX Z lvl fn cl):∀(p:PI)(z:Bool)(sc:Scope)(e:Expr),IU fn nm z sc p e=true→SJ Z cl lvl nm sc (zC p) e p∧(z=false→SI Z cl lvl nm sc e p)
 | .of p,z,sc,e,h=>SI.both (RZ (bE hB hC p sc e h).1)
 | .range1 a,z,sc,e,h=>by
  apply dR h; intro fe as ks p h
  refine aB h fun z h=>?_; apply dU z
  apply aM h; intro n q h
  refine aB h fun z h=>?_; apply cL z
  apply cK h; intro x h
  refine aB h fun z h=>?_
  exact SI.both (G0 hB (aA h).1 (bJ z) (bE hB hC a sc _ (aA h).2).1)
 | .range3 a b c,z,sc,e,h=>by
  apply dR h; intro fe as ks p h
  refine aB h fun z h=>?_; apply dU z
  apply aM h; intro n q h
  refine aB h fun z h=>?_; apply cL z
  apply cV h; intro x r h
  apply cV h; intro y r h
  apply cK h; intro u h
  refine aB h fun z h=>?_; apply JH z; intro k1 p1
  refine aB h fun z h=>?_; apply JH z; intro k2 p2
  refine aB h fun z h=>?_; apply JH z; intro k3 p3
  exact SI.both (GZ hB h)
 | .zip a b,z,sc,e,h=>by
  refine aB h fun hz h=>⟨?_,fun e=>by rw[e]at hz; cases hz⟩
  apply dR h; intro fe as ks p h
  refine aB h fun z h=>?_; apply dU z
  apply aM h; intro n q h
  refine aB h fun z h=>?_; apply cL z
  apply cV h; intro x r h
  apply cK h; intro y h
  refine aB h fun z h=>aB h fun z' h=>aB h fun g h=>?_
  exact UR hB g (bJ z) (bJ z') (bE hB hC a sc _ (aA h).1).1 (bE hB hC b sc _ (aA h).2).1
end
theorem RC(hB:fE Z)(hC:dX Z lvl fn cl){elt:PE}{t:Tg}{i:PI}{c:PO}{g:PG}{sc:Scope}{e:Expr}{m:Expr→Prop}(h:cS fn nm sc (.comp elt t i c g) e=true)
  (k:∀{scope el target iter ifs r pos},xT Z cl lvl nm sc scope el target iter ifs r pos elt t i c g (zC i)→m (.ListComp el (⟨target,iter,ifs,0⟩::r) scope pos)):m e:=by
 apply qK h; intro el gens scope pos h
 apply cV h; intro cp r h
 apply nR h; intro target iter ifs az h
 refine aB h fun z h=>?_; apply cL z
 refine aB h fun h1 h=>aB h fun h2 h=>aB h fun h3 h=>aB h fun h4 h=>aB h fun h5 h=>?_
 have F:=uB h3
 have hz:=IX h4
 exact k ⟨F,fun x hx=>(List.mem_append.mp hx).elim (BU h5 x) (I6 (aA h).1 x),bJ h2,(xI hB hC i _ sc _ h4).1,TH h5 hz,hz,⟨rfl,yS (aA h).1,F.nmnd,h5,BN hB hC c scope _ h1,BM hB hC g scope el (⟨target,iter,ifs,0⟩::r) pos elt 0 F.nmnd (bE hB hC elt scope _ (aA h).2).1 (aA h).1⟩⟩
end
def N5(env:Env)(b:Addr):Prop:=b=env.locals∨∃ n,cf env n∧env.cells.lookup n=some b
theorem Wr.all{nm:List Str}{env:Env}{xs:List Nat}{b:Addr}(w:Wr nm env xs b):N5 env b:=w.imp id fun⟨_,_,n,_,hk,hc⟩=>⟨n,hk,hc⟩
structure gV(Z:aE)(nm:List Str)(env:Env)(σ:dY)(O:List (Option Nat×Addr))(s:Shared):Prop where
 inv:bB Z s
 eok:aH Z nm env σ.env O s.heap
 own:∀ y∈σ.own,∃ n b,nm[y]? = some n∧uX env s.heap n (.ref b)∧(some y,b)∈O
 high:∀ y b,(some y,b)∈O→Z.n≤b
structure bI(Z:aE)(env:Env)(O O':List (Option Nat×Addr))(h h':Heap):Prop where
 keep:∀ b o,h.get? b=some o→(o.cls ≠ .none∨Z.n≤b)→¬N5 env b→(∀ y,(some y,b)∉O)→Sl h' b o
 live:∀ b o,h.get? b=some o→Z.n≤b→∃ o',h'.get? b=some o'
 newO:∀ y b,(some y,b)∈O'→(some y,b)∈O∨(Z.n≤b∧h.get? b=none)
 resv:∀ a,(none,a)∈O'↔(none,a)∈O
section
variable{Z:aE}{nm:List Str}{env:Env}{O O' O'':List (Option Nat×Addr)}{h h' h'':Heap}{ρ:aL}{σ:dY}{s:Shared}
theorem oA{h:Heap}{b:Addr}(k:∀ o,h.get? b=some o→False):h.get? b=none:=by
 cases e:h.get? b with
 | none=>rfl
 | some o=>exact(k o e).elim
theorem bI.refl:bI Z env O O h h:=⟨fun _ _ e _ _ _=>.inl e,fun b o e _=>⟨o,e⟩,fun _ _ h=>.inl h,fun _=>Iff.rfl⟩
theorem bI.trans(a:bI Z env O O' h h')(b:bI Z env O' O'' h' h''):bI Z env O O'' h h'' where
 keep:=fun x o e c hw ho=>(a.keep x o e c hw ho).next fun o' e' hcc=>b.keep x o' e' (by rw[hcc]; exact c) hw fun y hy=>(a.newO y x hy).elim (ho y) fun h=>nomatch h.2.symm.trans e
 live:=fun x o e hn=>let⟨o',e'⟩:=a.live x o e hn; b.live x o' e' hn
 newO:=fun y x hy=>(b.newO y x hy).elim (a.newO y x) fun⟨hn,h1⟩=>.inr ⟨hn,oA fun o e=>let⟨_,e'⟩:=a.live x o e hn; nomatch h1.symm.trans e'⟩
 resv:=fun x=>(b.resv x).trans (a.resv x)
theorem bI.kp(k:Kp Z.n h h'):bI Z env O O h h':=⟨fun b o e c _ _=>k.k b o e c,fun b o e hn=>let⟨o',e',_⟩:=(k.k b o e (.inr hn)).ex; ⟨o',e'⟩,fun _ _ h=>.inl h,fun _=>Iff.rfl⟩
theorem bI.less(hs:∀ y b,(some y,b)∈O'→(some y,b)∈O)(hr:∀ a,(none,a)∈O'↔(none,a)∈O):bI Z env O O' h h:=⟨fun _ _ e _ _ _=>.inl e,fun b o e _=>⟨o,e⟩,fun y b h=>.inl (hs y b h),hr⟩
theorem bI.turned{xs:List Nat}(hE:aH Z nm env ρ O h)(T:aK Z nm env xs (fun _=>False) h h'):bI Z env O O h h' where
 keep:=fun b o e c hw _=>T.keep b o e c (fun w=>hw w.all) id
 live:=fun b o e hn=>by
  by_cases hw:Wr nm env xs b
  ·rcases hw with rfl | ⟨x,hx,n,_,hk,hc⟩
   ·obtain⟨m,o',_,_,e',_⟩:=T.ns hE.ns
    exact⟨o',e'⟩
   ·obtain⟨_,v,h3⟩:=hE.cellAt hk hc
    obtain⟨v',o',e',_⟩:=T.cells n b v hk hc h3
    exact⟨o',e'⟩
  ·obtain⟨o',e',_⟩:=(T.keep b o e (.inr hn) hw id).ex
   exact⟨o',e'⟩
 newO:=fun _ _ h=>.inl h
 resv:=fun _=>Iff.rfl
noncomputable def b8(O:List (Option Nat×Addr))(es:List Nat):List (Option Nat×Addr):=O.filter fun yb=>!hit es yb.1
theorem bQ{es:List Nat}{yb:Option Nat×Addr}:yb∈b8 O es↔yb∈O∧¬iP yb.1 es:=by
 unfold b8
 rw[List.mem_filter,← yK,Bool.not_eq_true',Bool.not_eq_true]
theorem yW{es:List Nat}:¬iP none es:=fun⟨_,_,h⟩=>nomatch h
theorem bI.drop(es:List Nat):bI Z env O (b8 O es) h h:=bI.less (fun _ _ h=>(bQ.mp h).1) fun a=>⟨fun h=>(bQ.mp h).1,fun h=>bQ.mpr ⟨h,yW⟩⟩
theorem gM{own xs:List Nat}{y:Nat}:y∈lose own xs↔y∈own∧y∉xs:=by
 unfold lose
 rw[List.mem_filter,Bool.not_eq_true',← Bool.not_eq_true,List.contains_iff_mem]
theorem gV.kp(S:gV Z nm env σ O s){s':Shared}(I:bB Z s')(k:Kp Z.n s.heap s'.heap):gV Z nm env σ O s' where
 inv:=I
 eok:=S.eok.kp k
 own:=fun y hy=>let⟨n,b,h1,h2,h3⟩:=S.own y hy; ⟨n,b,h1,h2.kp k S.eok.new (fun c hc hk=>(S.eok.cellAt hk hc).1),h3⟩
 high:=S.high
theorem gV.lose(S:gV Z nm env σ O s){es:List Nat}{own:List Nat}(ho:∀ y∈own,y∈σ.own∧y∉es):gV Z nm env ⟨σ.env,own⟩ (b8 O es) s where
 inv:=S.inv
 eok:=S.eok.lessO fun yb hy=>(bQ.mp hy).1
 own:=fun y hy=>let⟨h0,h1⟩:=ho y hy; let⟨n,b,h2,h3,h4⟩:=S.own y h0; ⟨n,b,h2,h3,bQ.mpr ⟨h4,fun⟨z,hz,e⟩=>h1 (by cases e; exact hz)⟩⟩
 high:=fun y b h=>S.high y b (bQ.mp h).1
theorem gV.turn{ρ':aL}{xs:List Nat}{X:Addr→Prop}{own:List Nat}{s':Shared}(S:gV Z nm env σ O s)(hnd:nm.Nodup)(I:bB Z s')(E:aH Z nm env ρ' O s'.heap)(T:aK Z nm env xs X s.heap s'.heap)(ho:∀ y∈own,y∈σ.own∧y∉xs):gV Z nm env ⟨ρ',own⟩ O s' :=
 ⟨I,E,fun y hy=>let⟨h0,h1⟩:=ho y hy; let⟨n,b,g1,g2,g3⟩:=S.own y h0; ⟨n,b,g1,T.acc n _ (fun x hx hxn=>h1 (iW hnd hxn g1▸hx)) g2,g3⟩,S.high⟩
def BF(Z:aE)(nm:List Str)(env:Env)(O:List (Option Nat×Addr))(s:Shared)(fl:Fl)(R:Flow→Shared→Prop):Prop :=
 match fl with
 | .next σ'=>∀ s' O',gV Z nm env σ' O' s'→bI Z env O O' s.heap s'.heap→R .next s'
 | .ret d=>∀ v as s' O',bB Z s'→Rd s'.heap v d as→bL d=true→(∀ a,(none,a)∈O→a∉as)→bI Z env O O' s.heap s'.heap→R (.ret v) s'
theorem BF.from_{s₁:Shared}{fl:Fl}{R:Flow→Shared→Prop}(p:BF Z nm env O s fl R)(st:bI Z env O O' s.heap s₁.heap):BF Z nm env O' s₁ fl R:=by
 cases fl with
 | next σ'=>exact fun s' O'' S st'=>p s' O'' S (st.trans st')
 | ret d=>exact fun v as s' O'' I r hd hr st'=>p v as s' O'' I r hd (fun a ha=>hr a ((st.resv a).mpr ha)) (st.trans st')
theorem RK{M:Model}{A:Around}{E:Value→Shared→Prop}{Q:Unit→Shared→Prop}{x:Nat}{n:Str}{v:Value}{d:PyData}{as:List Addr}{own':List Nat}(S:gV Z nm env σ O s)(hnd:nm.Nodup)(hx:nm[x]? = some n)(hk:env.kindOf n=some .local∨env.kindOf n=some .cell)
  (r:Rd s.heap v d as) (hd:bL d=true) (ho:∀ yb∈O,yb.2∈as→yb.1=some x∧as.head? = some yb.2) (hown:∀ y∈own',(y≠x∧y∈σ.own)∨(y=x∧∃ b,v = .ref b∧(some x,b)∈O))
  (hQ:∀ s',gV Z nm env ⟨σ.env.set x (some d),own'⟩ O s'→bI Z env O O s.heap s'.heap→aK Z nm env [x] (fun _=>False) s.heap s'.heap→Q () s'):wpAny M A (storeName env n v) Q E s :=
 vW S.eok S.inv hx hk fun h' tk I' a T=>hQ _ ⟨I',S.eok.stored hnd hx T a r hd ho,fun y hy=>by
  rcases hown y hy with⟨hne,hy⟩| ⟨rfl,b,rfl,hb⟩
  ·obtain⟨m,b,h1,h2,h3⟩:=S.own y hy
   exact⟨m,b,h1,T.acc m _ (fun z hz hzm=>hne ((iW hnd hzm h1).symm.trans (List.mem_singleton.mp hz))) h2,h3⟩
  ·exact⟨n,b,hx,a,hb⟩,S.high⟩ (bI.turned S.eok T) T
theorem aK.other{x:Nat}{n m:Str}{u:Value}(hx:nm[x]? = some n)(T:aK Z nm env [x] (fun _=>False) h h')(hm:m≠n)(a:uX env h m u):uX env h' m u:=T.acc m u (fun z hz hzm=>hm (Option.some.inj (hzm.symm.trans (by rw[List.mem_singleton.mp hz]; exact hx)))) a
noncomputable def dW(d:PyData)(e:PE):List Nat:=if flat d then []else kB e
theorem f7(own:List Nat)(d:PyData)(e:PE):bP own d e=lose own (dW d e):=by
 unfold bP dW
 cases flat d
 ·rfl
 ·exact(List.filter_eq_self.mpr fun _ _=>rfl).symm
theorem yC{h:Heap}{v:Value}{d:PyData}{as:List Addr}(r:Rd h v d as)(hf:flat d=true):as=[]:=by
 cases r with
 | list=>cases hf
 | _=>rfl
theorem lO{h:Heap}{v:Value}{d:PyData}{as:List Addr}{e:PE}(r:Rd h v d as)(ho:∀ yb∈O,yb.2∈as→iP yb.1 (kB e)):∀ yb∈O,yb.2∈as→iP yb.1 (dW d e):=fun yb hy hm=>by
 unfold dW
 cases hf:flat d
 ·exact ho yb hy hm
 ·rw[yC r hf]at hm; cases hm
theorem aH.add{x:Nat}{b:Addr}(hE:aH Z nm env ρ O h)(k:Kp Z.n h h')(hfresh:h.get? b=none)(hlive:∃ o,h'.get? b=some o∧o.cls ≠ .none):aH Z nm env ρ ((some x,b)::O) h' :=
 have hr:=hE.reserve (es:=[]) k hfresh hlive
 have old:∀{yb},yb∈O→yb∈Kt.Internal.reserve b O []:=fun hy=>(dL hy).resolve_right fun⟨_,h,_⟩=>nomatch h
 { hr with
  live:=fun yb hy=>(List.mem_cons.mp hy).elim (fun e=>e▸hlive) fun hy=>hr.live yb (old hy)
  apart:=fun yb hy=>(List.mem_cons.mp hy).elim (fun e=>e▸hr.apart (none,b) List.mem_cons_self) fun hy=>hr.apart yb (old hy)
  vars:=fun y d n h1 h2 h3=>let⟨v,as,a,r,hd,ho⟩:=hr.vars y d n h1 h2 h3; ⟨v,as,a,r,hd,fun yb hy hm=>(List.mem_cons.mp hy).elim (fun e=>nomatch (ho (none,b) List.mem_cons_self (by rw[e]at hm; exact hm)).1) fun hy=>ho yb (old hy) hm⟩ }
theorem FP{x:Nat}{es:List Nat}(S:gV Z nm env σ O s):gV Z nm env ⟨σ.env,(lose σ.own es).filter (· != x)⟩ (b8 O (x::es)) s:=S.lose fun y hy=>by
 obtain⟨h1,h2⟩:=List.mem_filter.mp hy
 obtain⟨h3,h4⟩:=gM.mp h1
 exact⟨h3,fun h=>(List.mem_cons.mp h).elim (bne_iff_ne.mp h2) h4⟩
theorem E3{A:Around}{E:Value→Shared→Prop}{R:Unit→Shared→Prop}{x:Nat}{n:Str}{v:Value}{d:PyData}{as:List Addr}{es:List Nat}(S:gV Z nm env σ O s)(hnd:nm.Nodup)(hx:nm[x]? = some n)
  (hk:env.kindOf n=some .local∨env.kindOf n=some .cell) (r:Rd s.heap v d as) (hd:bL d=true) (ho:∀ yb∈O,yb.2∈as→iP yb.1 es)
  (hR:∀ s',gV Z nm env ⟨σ.env.set x (some d),(lose σ.own es).filter (· != x)⟩ (b8 O (x::es)) s'→bI Z env O (b8 O (x::es)) s.heap s'.heap→aK Z nm env [x] (fun _=>False) s.heap s'.heap→R () s'):wpAny (model Z.prog Z.w) A (storeName env n v) R E s :=
 RK (FP S) hnd hx hk r hd (fun yb hy hm=>let⟨h1,h2⟩:=bQ.mp hy; let⟨z,hz,e⟩:=ho yb h1 hm; absurd ⟨z,List.mem_cons_of_mem _ hz,e⟩ h2) (own':=(lose σ.own es).filter (· != x)) (fun y hy=>.inl ⟨bne_iff_ne.mp (List.mem_filter.mp hy).2,hy⟩) fun s' S'' st T=>hR s' S'' ((bI.drop _).trans st) T
theorem FL{s₁:Shared}{x:Nat}{b:Addr}{es:List Nat}(S:gV Z nm env σ O s)(I₁:bB Z s₁)(k₁:Kp Z.n s.heap s₁.heap)(hlive:∃ o,s₁.heap.get? b=some o∧o.cls ≠ .none)(hb:s.heap.get? b=none)(hbn:Z.n≤b) :
  gV Z nm env ⟨σ.env,(lose σ.own es).filter (· != x)⟩ ((some x,b)::b8 O (x::es)) s₁∧bI Z env O ((some x,b)::b8 O (x::es)) s.heap s₁.heap:=by
 have S':=FP (x:=x) (es:=es) S
 have S₁:=S'.kp I₁ k₁
 have st:=(bI.drop (Z:=Z) (env:=env) (h:=s.heap) (O:=O) (x::es)).trans (bI.kp k₁)
 exact⟨⟨I₁,S'.eok.add k₁ hb hlive,fun y hy=>let⟨n,c,h1,h2,h3⟩:=S₁.own y hy; ⟨n,c,h1,h2,List.mem_cons_of_mem _ h3⟩,fun y c hy=>(List.mem_cons.mp hy).elim (fun e=>by cases e; exact hbn) (S'.high y c)⟩,
  st.keep,st.live,fun y c hy=>(List.mem_cons.mp hy).elim (fun e=>by cases e; exact .inr ⟨hbn,hb⟩) (st.newO y c),fun a=>⟨fun h'=>(st.resv a).mp ((List.mem_cons.mp h').resolve_left nofun),fun h'=>List.mem_cons_of_mem _ ((st.resv a).mpr h')⟩⟩
theorem rF{A:Around}{E:Value→Shared→Prop}{R:Unit→Shared→Prop}{s₁:Shared}{x:Nat}{n:Str}{b:Addr}{bs:List Addr}{d:PyData}{es:List Nat}(S:gV Z nm env σ O s)(hnd:nm.Nodup)(hx:nm[x]? = some n)
  (hk:env.kindOf n=some .local∨env.kindOf n=some .cell) (I₁:bB Z s₁) (k₁:Kp Z.n s.heap s₁.heap) (r:Rd s₁.heap (.ref b) d (b::bs)) (hd:bL d=true) (hb:s.heap.get? b=none) (hbn:Z.n≤b) (ho:∀ yb∈O,yb.2∈b::bs→iP yb.1 es)
  (hR:∀ s',gV Z nm env ⟨σ.env.set x (some d),x::(lose σ.own es).filter (· != x)⟩ ((some x,b)::b8 O (x::es)) s'→bI Z env O ((some x,b)::b8 O (x::es)) s.heap s'.heap→aK Z nm env [x] (fun _=>False) s₁.heap s'.heap→R () s'):wpAny (model Z.prog Z.w) A (storeName env n (.ref b)) R E s₁:=by
 obtain⟨S₁,st⟩:=FL (x:=x) (es:=es) S I₁ k₁ (let⟨o,_,_,e,_,c⟩:=r.objs b List.mem_cons_self; ⟨o,e,by rw[c]; nofun⟩) hb hbn
 exact RK (own':=x::(lose σ.own es).filter (· != x)) S₁ hnd hx hk r hd
  (fun yb hy hm=>(List.mem_cons.mp hy).elim (fun e=>by rw[e]; exact⟨rfl,rfl⟩) fun hy=>let⟨h1,h2⟩:=bQ.mp hy; let⟨z,hz,e⟩:=ho yb h1 hm; absurd ⟨z,List.mem_cons_of_mem _ hz,e⟩ h2)
  (fun y hy=>(List.mem_cons.mp hy).elim (fun e=>.inr ⟨e,b,rfl,List.mem_cons_self⟩) fun hy=>.inl ⟨bne_iff_ne.mp (List.mem_filter.mp hy).2,hy⟩) fun s' S'' st' T=>hR s' S'' (st.trans st') T
theorem VY(hE:aH Z nm env ρ O h){b:Addr}(hb:h.get? b=none):¬N5 env b:=by
 rintro(rfl | ⟨n,hk,hc⟩)
 ·obtain⟨m,o,_,_,e,_⟩:=hE.ns
  cases hb.symm.trans e
 ·obtain⟨_,v,o,e,_⟩:=hE.cellAt hk hc
  cases hb.symm.trans e
theorem HL(hE:aH Z nm env ρ O h){b:Addr}{o:Obj}{vs:Array Value}{n:Nat}(e:h.get? b=some o)(hd:o.data = .seq vs n):¬N5 env b:=by
 rintro(rfl | ⟨m,hk,hc⟩)
 ·obtain⟨m,hm⟩:=hE.ns
  exact eS hm e hd
 ·obtain⟨_,v,h3⟩:=hE.cellAt hk hc
  exact oU h3 e hd
theorem QM(hE:aH Z nm env ρ O h){yb:Option Nat×Addr}(hy:yb∈O):¬N5 env yb.2:=fun w=>w.elim (hE.apart yb hy).1 fun⟨m,hk,hc⟩=>(hE.apart yb hy).2 m _ hk hc rfl
end
structure Sx(Z:aE)(lvl:Nat)(nm:List Str)(sc:Scope)(A:Around)(env:Env)(σ:dY)(O:List (Option Nat×Addr))(s:Shared):Prop where
 ha:fJ Z lvl A
 hs:u5 sc env
 hf:pI sc env
 S:gV Z nm env σ O s
section
variable{Z:aE}{cl:Nat→List PyData→Option PyData}{lvl:Nat}{nm:List Str}{fn:List Str}{sc:Scope}
theorem Sx.cx{A:Around}{env:Env}{σ:dY}{O:List (Option Nat×Addr)}{s:Shared}(X:Sx Z lvl nm sc A env σ O s):Cx Z lvl nm sc A env σ.env O s:=⟨X.ha,X.hs,X.S.eok,X.S.inv⟩
theorem Sx.go{A:Around}{env:Env}{σ σ':dY}{O O':List (Option Nat×Addr)}{s s':Shared}(X:Sx Z lvl nm sc A env σ O s)(S:gV Z nm env σ' O' s'):Sx Z lvl nm sc A env σ' O' s':=⟨X.ha,X.hs,X.hf,S⟩
theorem Sx.kind{A:Around}{env:Env}{σ:dY}{O:List (Option Nat×Addr)}{s:Shared}{n:Str}(X:Sx Z lvl nm sc A env σ O s)(h:iN sc n=true):env.kindOf n=some .local∨env.kindOf n=some .cell:=FM X.hs h (X.hf n h)
def y2(Z:aE)(cl:Nat→List PyData→Option PyData)(lvl:Nat)(nm:List Str)(sc:Scope)(fuel:Nat)(st:Stmt)(p:PS):Prop :=
 ∀{A:Around}{env:Env}{σ:dY}{O:List (Option Nat×Addr)}{s:Shared}{fl:Fl}{R:Flow→Shared→Prop}{E:Value→Shared→Prop},
  Sx Z lvl nm sc A env σ O s→oX cl fuel p σ=some fl→BF Z nm env O s fl R→wpAny (model Z.prog Z.w) A (exec st env) R E s
def SX(Z:aE)(cl:Nat→List PyData→Option PyData)(lvl:Nat)(nm:List Str)(sc:Scope)(fuel:Nat)(ss:List Stmt)(p:mG):Prop :=
 ∀{A:Around}{env:Env}{σ:dY}{O:List (Option Nat×Addr)}{s:Shared}{fl:Fl}{R:Flow→Shared→Prop}{E:Value→Shared→Prop},
  Sx Z lvl nm sc A env σ O s→b6 cl fuel p σ=some fl→BF Z nm env O s fl R→wpAny (model Z.prog Z.w) A (execs ss env) R E s
theorem UF{fuel:Nat}:SX Z cl lvl nm sc fuel [] .nil:=fun{A env σ O s fl R E}X hd hR=>by
 cases hd
 exact wpAny_execs_nil (hR s O X.S bI.refl)
theorem OZ{fuel:Nat}{st:Stmt}{ss:List Stmt}{p:PS}{ps:mG}(h1:y2 Z cl lvl nm sc fuel st p)(h2:SX Z cl lvl nm sc fuel ss ps):SX Z cl lvl nm sc fuel (st::ss) (.cons p ps):=fun{A env σ O s fl R E}X hd hR=>aT hd fun f hx hd=>by
 refine wpAny_execs_cons (h1 X hx ?_)
 cases f with
 | next σ'=>exact fun s' O' S' st=>h2 (X.go S') hd (hR.from_ st)
 | ret d=>cases hd; exact hR
theorem UE{fuel:Nat}{e:Expr}{p:PE}{pos:Pos}(h:SE Z cl lvl nm sc e p):y2 Z cl lvl nm sc fuel (.Return (some e) pos) (.ret p):=fun{A env σ O s fl R E}X hd hR=>b7 hd fun d hv e=>by
 subst e
 exact wpAny_Return_some (h X.cx hv fun v as s₁ I₁ k₁ r₁ ok₁ o₁=>hR v as s₁ O I₁ r₁ ok₁ (fun a ha hm=>let⟨y,_,e⟩:=o₁ _ ha hm; nomatch e) (bI.kp k₁))
theorem YI{fuel:Nat}{t:Expr}{b1 b2:List Stmt}{c:PE}{p1 p2:mG}{pos:Pos}(hc:ST Z cl lvl nm sc t c)(h1:SX Z cl lvl nm sc fuel b1 p1)(h2:SX Z cl lvl nm sc fuel b2 p2):y2 Z cl lvl nm sc fuel (.If t b1 b2 pos) (.ife c p1 p2):=fun{A env σ O s fl R E}X hd hR=>aT hd fun d hx hd=>aT hd fun b ht hd =>
 wpAny_If (hc X.cx hx ht fun s₁ I₁ k₁=>by
  cases b with
  | true=>exact h1 (X.go (X.S.kp I₁ k₁)) hd (hR.from_ (bI.kp k₁))
  | false=>exact h2 (X.go (X.S.kp I₁ k₁)) hd (hR.from_ (bI.kp k₁)))
theorem LG{fuel:Nat}{t:Expr}{b:List Stmt}{c:PE}{ps:mG}{pos:Pos}(hc:ST Z cl lvl nm sc t c)(h:SX Z cl lvl nm sc fuel b ps):y2 Z cl lvl nm sc fuel (.While t b [] pos) (.while_ c ps):=fun{A env σ O s fl R E}X hd hR=>by
 refine wpAny_While (codeAny_whileLoop (fun n s'=>∃ σ' O',gV Z nm env σ' O' s'∧bI Z env O O' s.heap s'.heap∧dK (fun τ=>(aD cl c τ.env).bind bT) (b6 cl fuel ps) n σ'=some fl) (fun n s₀⟨σ',O',S',st,hw⟩=>?_) fuel ⟨σ,O,X.S,bI.refl,hd⟩)
 cases n with
 | zero=>cases hw
 | succ n =>
  refine aT hw fun tb hx hw=>aT hx fun d hx ht=>hc (X.go S').cx hx ht fun s₁ I₁ k₁=>?_
  have st₁:=st.trans (bI.kp k₁)
  cases tb with
  | false=>cases hw; exact wpAny_execs_nil (hR s₁ O' (S'.kp I₁ k₁) st₁)
  | true =>
   refine aT hw fun f hb hw=>h (X.go (S'.kp I₁ k₁)) hb ?_
   cases f with
   | next σ₂=>exact fun s₂ O₂ S₂ st₂=>⟨n,Nat.lt_succ_self n,σ₂,O₂,S₂,st₁.trans st₂,hw⟩
   | ret v=>cases hw; exact fun w as s₂ O₂ I₂ r okd hr st₂=>hR w as s₂ O₂ I₂ r okd (fun a ha=>hr a ((st.resv a).mpr ha)) (st₁.trans st₂)
theorem jM{value:Expr}(h:gF value=false)(t:Option Expr)(l:Nat)(env:Env):swapsWith value t l env=pure false:=by
 cases value with
 | ListComp | SetComp | DictComp=>cases h
 | _=>rfl
theorem u6{fuel:Nat}{x:Nat}{n:Str}{np pos:Pos}{value:Expr}{p:PE}(hnd:nm.Nodup)(hx:nm[x]? = some n)(hk:iN sc n=true)(hnew:vK p=false)(hc:gF value=false)(h:SE Z cl lvl nm sc value p) :
  y2 Z cl lvl nm sc fuel (.Assign [.Name n np] value pos) (.assign x p):=fun{A env σ O s fl R E}X hd hR=>b7 hd fun d hv e=>by
 subst e
 refine wpAny_Assign_Name (h X.cx hv fun v as s₁ I₁ k₁ r₁ ok₁ o₁=>E3 (X.S.kp I₁ k₁) hnd hx (X.kind hk) r₁ ok₁ (lO r₁ o₁) fun s' S' st _=>?_) (jM hc _ _ _)
 rw[hnew,f7]at hR
 exact hR s' _ S' ((bI.kp k₁).trans st)
theorem uP{fuel:Nat}{x:Nat}{n:Str}{np pos lp:Pos}{es:List Expr}{ps:r8}(hnd:nm.Nodup)(hx:nm[x]? = some n)(hk:iN sc n=true)(hlen:mH ps≤1000)(h:IA Z cl lvl nm sc es ps) :
  y2 Z cl lvl nm sc fuel (.Assign [.Name n np] (.List es lp) pos) (.assign x (.list ps)):=fun{A env σ O s fl R E}X hd hR=>b7 hd fun d hv e=>b7 hv fun ds hds e'=>by
 subst e e'
 refine wpAny_Assign_Name ?_ rfl
 rw[arm_eval_List]
 refine wpAny_bind (wpAny_standAt (wpAny_bind (h X.cx hds fun vs as s₁ I₁ k₁ r₁ ok₁ o₁=>?_)))
 have hl:ds.length≤sizeLine:=Nat.le_trans (kY hds▸hlen) (by decide)
 have hE:=X.S.eok.kp k₁
 have ho:∀ yb∈O,yb.2∈s₁.heap.objs.size::as→iP yb.1 (nB ps):=fun yb hy hm=>(List.mem_cons.mp hm).elim (fun e=>absurd (hE.lt yb hy) (by rw[e]; exact Nat.lt_irrefl _)) (o₁ yb hy)
 have hp:∀{b o}{ob:Obj},s₁.heap.get? b=some o→(s₁.heap.push ob).get? b=some o:=fun e=>Heap.get?_push_of_some _ e
 refine wpAny_newList (rF X.S hnd hx (X.kind hk) (I₁.push _ _) (k₁.trans (Kp.push _ _ _)) (.list (as:=as) (Heap.get?_push_size _ rfl) ⟨rfl,rfl⟩ rfl (by rw[List.toList_toArray]; exact r₁.map fun _ _ _ e _=>hp e)) (y5 hl ok₁) (k₁.none hE.size (get?_ge (Nat.le_refl _))) hE.size ho fun s' S' st _=>?_) (aS r₁▸hl)
 rw[f7]at hR
 exact hR s' _ S' st
theorem gV.letGo{env:Env}{σ:dY}{O O₀:List (Option Nat×Addr)}{s₀ s:Shared}{C:Addr}{h':Heap}(hnd:nm.Nodup)(S:gV Z nm env σ O s)(st:bI Z env O₀ O s₀.heap s.heap)(hC:s₀.heap.get? C=none)(hCn:Z.n≤C)(hw:¬N5 env C)(hCf:C∉Z.fr)(hCO:∀ yb∈O,yb.2≠C)(hs:Heap.SameBut C s.heap h')
  (hv:aH Z nm env σ.env O h'):gV Z nm env σ O { s with heap:=h' }∧bI Z env O₀ O s₀.heap h':=by
 have T:aK Z nm env [] (fun b=>b=C) s.heap h':=aK.of_but (fun b o hb e=>(hs.2 b hb).trans e) (fun e=>hw (.inl e.symm)) fun n c hk hc e=>hw (.inr ⟨n,hk,e▸hc⟩)
 refine⟨S.turn hnd (S.inv.same hCn hs (fun h=>absurd h hCf) s.toks) hv T fun y hy=>⟨hy,nofun⟩,?_⟩
 have ne:∀ b o,s₀.heap.get? b=some o→b≠C:=fun b o e e'=>by rw[e',hC]at e; cases e
 exact⟨fun b o e c hw ho=>(st.keep b o e c hw ho).then fun o' e'=>(hs.2 b (ne b o e)).trans e',fun b o e hn=>let⟨o',e'⟩:=st.live b o e hn; ⟨o',(hs.2 b (ne b o e)).trans e'⟩,st.newO,st.resv⟩
theorem aH.sameBut{env:Env}{ρ:aL}{O:List (Option Nat×Addr)}{h h':Heap}{C:Addr}(hE:aH Z nm env ρ O h)(hs:Heap.SameBut C h h')(hw:¬N5 env C)(hCO:∀ yb∈O,yb.2≠C)(hns:∀ o vs n,h.get? C=some o→o.data ≠ .seq vs n):aH Z nm env ρ O h' :=
 have T:aK Z nm env [] (fun b=>b=C) h h':=aK.of_but (fun b o hb e=>(hs.2 b hb).trans e) (fun e=>hw (.inl e.symm)) fun n c hk hc e=>hw (.inr ⟨n,hk,e▸hc⟩)
 { hE with
  ns:=T.ns hE.ns
  live:=fun yb hy=>let⟨o,e,c⟩:=hE.live yb hy; ⟨o,(hs.2 _ (hCO yb hy)).trans e,c⟩
  cells:=fun n hk=>let⟨c,v,e,h2,h3⟩:=hE.cells n hk; let⟨v',h4⟩:=T.cells n c v hk e h3; ⟨c,v',e,h2,h4⟩
  vars:=fun y d n h1 h2 h3=>by
   obtain⟨v,as,a,r,hok,ho⟩:=hE.vars y d n h1 h2 h3
   refine⟨v,as,T.acc n v nofun a,T.rd hE r fun b hb e=>?_,hok,ho⟩
   obtain⟨o,vs,m,e',hd,_⟩:=r.objs b hb
   exact hns o vs m (e▸e') hd }
theorem uQ{fuel:Nat}{x:Nat}{n:Str}{np pos cpos:Pos}{elt target iter:Expr}{ifs:List Expr}{gens:List Comprehension}{scope:Scope}{pe:PE}{t:Tg}{i:PI}{c:PO}{g:PG}{z:Bool}(hnd:nm.Nodup)(hx:nm[x]? = some n)(hk:iN sc n=true)
  (C:xT Z cl lvl nm sc scope elt target iter ifs gens cpos pe t i c g z) :
  y2 Z cl lvl nm sc fuel (.Assign [.Name n np] (.ListComp elt (⟨target,iter,ifs,0⟩::gens) scope cpos) pos) (.assign x (.comp pe t i c g)):=fun{A env σ O s fl R E}X hd hR=>b7 hd fun d hv e=>by
 subst e
 have S:=X.S
 have hR':BF Z nm env O s (.next (w4 σ x d (lose σ.own (dW d (.comp pe t i c g))) true)) R:=by rw[← f7]; exact hR
 obtain⟨b,hsw⟩:∃ b,swapsWith (.ListComp elt (⟨target,iter,ifs,0⟩::gens) scope cpos) (some (.Name n np)) pos.line env=pure b:=⟨_,rfl⟩
 cases b with
 | false =>
  refine wpAny_Assign_Name ?_ hsw
  rw[eval_ListComp]
  refine tZ C X.cx hv fun acc C s₁ as I₁ k₁ r₁ ok₁ o₁ hC hacc hCn haccn⟨m,hm⟩=>⟨m,hm,fun h' hs'=>?_⟩
  refine rF S hnd hx (X.kind hk) (I₁.same hCn hs' (fun h=>absurd h (S.inv.notFr hC)) s₁.toks) ⟨fun b o e c=>(k₁.k b o e c).then fun o' e'=>(hs'.2 b fun e''=>by rw[e'',hC]at e; cases e).trans e'⟩ (r₁.map fun a o ha e _=>?_) ok₁ hacc haccn (lO r₁ o₁) fun s' S' st _=>hR' s' _ S' st
  obtain⟨o',xs,n',e',hv',_⟩:=r₁.objs a ha
  cases e.symm.trans e'
  exact(hs'.2 a fun e''=>eS hm (e''▸e) hv').trans e
 | true =>
  rw[exec_Assign_Name_used _ _ _ _ hsw]
  refine wpAny_bind (wpAny_standAt (wpAny_bind ?_))
  refine wpAny_bind (tZ (Q:=fun _ s'=>wpAny (model Z.prog Z.w) A (pure ():Sem Unit) (fun _ s''=>wpAny (model Z.prog Z.w) A (pure Flow.next:Sem Flow) R E s'') E s') (use:=some (assign (.Name n np) env)) C X.cx hv fun acc C s₁ as I₁ k₁ r₁ ok₁ o₁ hC hacc hCn haccn⟨m,hm⟩=>?_)
  show wpAny (model Z.prog Z.w) A (assign (.Name n np) env (.ref acc)) _ E s₁
  refine wpAny_assign_Name (rF S hnd hx (X.kind hk) I₁ k₁ r₁ ok₁ hacc haccn (lO r₁ o₁) fun s₂ S₂ st₂ T₂=>?_)
  have hw:¬N5 env C:=VY S.eok hC
  have hm₂:s₂.heap.Ns C m:=by
   obtain⟨o,es,ep,e,hdd,r⟩:=hm
   obtain⟨o',e',_,hv'⟩:=(T₂.keep C o e (.inr hCn) (fun w=>hw w.all) id).ex
   exact⟨o',es,ep,e',hv'.trans hdd,r⟩
  refine⟨m,hm₂,fun h' hs'=>?_⟩
  have hCO:∀ yb∈(some x,acc)::b8 O (x::dW d (.comp pe t i c g)),yb.2≠C:=fun yb hy e=>(List.mem_cons.mp hy).elim (fun e'=>by
   obtain⟨o,vs,k,e'',hv',_⟩:=r₁.objs acc List.mem_cons_self
   exact eS hm ((show acc=C by rw[← e,e'])▸e'') hv') fun hy=>by
   obtain⟨o,e',_⟩:=S.eok.live yb (bQ.mp hy).1
   rw[e,hC]at e'; cases e'
  obtain⟨S₃,st₃⟩:=gV.letGo hnd S₂ st₂ hC hCn hw (S.inv.notFr hC) hCO hs' (S₂.eok.sameBut hs' hw hCO fun o vs n e hv=>eS hm₂ e hv)
  exact wpAny_pure (wpAny_pure (hR' _ _ S₃ st₃))
theorem HW{u v:Str}{t t':Tok}{d:PyData}{A:Around}{E:Value→Shared→Prop}{s:Shared}{Q:Value→Shared→Prop}(hx:bL (.str u)=true)(hy:bL (.str v)=true)(h:Ah (u++v)=some d)(g:∀ t tk,∃ x,d = .str x∧(bL d=true→Q (.str x t) { s with toks:=tk })):wpAny (model Z.prog Z.w) A (inplaceOp .Add (.str u t) (.str v t')) Q E s:=by
 refine iO h fun hs e=>?_
 cases e
 have hok:=cH hx hy hs
 have g':∀ t tk,Q (.str (u++v) t) { s with toks:=tk }:=fun t tk=>by obtain⟨x,e,h⟩:=g t tk; cases e; exact h hok
 refine P.iadd_str ?_
 by_cases e1:(u.length==0)=true
 ·rw[if_pos e1]
  have:=g' t' s.toks
  rwa[show u++v=v by rw[tM (eq_of_beq e1)]; exact Str.empty_append v]at this
 ·rw[if_neg e1]
  by_cases e3:(v.length==0)=true
  ·rw[if_pos e3]
   have:=g' t s.toks
   rwa[qR (eq_of_beq e3)]at this
  ·rw[if_neg e3]
   exact⟨hs,g' _ _⟩
theorem oR{op:Operator}{a b d:PyData}{v w:Value}{as bs:List Addr}{A:Around}{E:Value→Shared→Prop}{s:Shared}{Q:Value→Shared→Prop}(ra:Rd s.heap v a as)(rb:Rd s.heap w b bs)(ha:bL a=true)(hb:bL b=true)(hfa:flat a=true)(hop:(op == .Add||op == .Sub)=true)(h:sC op a b=some d)
  (fin:∀ v' tk,(∀ h:Heap,Rd h v' d [])→bL d=true→Q v' { s with toks:=tk }):wpAny (model Z.prog Z.w) A (inplaceOp op v w) Q E s:=by
 have hop':=(Bool.or_eq_true_iff.mp hop).imp eq_of_beq eq_of_beq
 cases a with
 | int i =>
  exact NV (m:=fun v=>wpAny _ A (inplaceOp op v w) Q E s) ra fun t=>nD (m:=fun w=>wpAny _ A (inplaceOp op _ w) Q E s) rb h fun j u h=>by
   rcases hop' with rfl | rfl <;> cases h
   ·exact P.iadd_int (fin _ _ (fun _=>.int _ _) rfl)
   ·exact P.isub_int (fin _ _ (fun _=>.int _ _) rfl)
 | str u =>
  obtain⟨t,rfl⟩:=fF ra
  exact j5 h fun v e h=>iO h fun ho h=>by
   subst e
   obtain⟨t',rfl⟩:=fF rb
   cases eq_of_beq ho
   have hd:∃ x,d = .str x:=iO h fun _ e=>⟨_,(Option.some.inj e).symm⟩
   obtain⟨x,rfl⟩:=hd
   exact HW ha hb h fun t tk=>⟨x,rfl,fun ok=>fin _ _ (fun _=>.str _ _) ok⟩
 | list=>cases hfa
 | _=>cases h
theorem UH{fuel:Nat}{x:Nat}{n:Str}{np pos:Pos}{op:Operator}{value:Expr}{p:PE}(hnd:nm.Nodup)(hx:nm[x]? = some n)(hk:iN sc n=true)(hcd:n≠("__classdict__" : Str))(h:SE Z cl lvl nm sc value p) :
  y2 Z cl lvl nm sc fuel (.AugAssign (.Name n np) op value pos) (.aug x op p):=fun{A env σ O s fl R E}X hd hR=>aT hd fun a hl hd=>aT hd fun b hx' hd=>iO hd fun hc hd=>b7 hd fun d hv e=>by
 subst e
 have S:=X.S
 have hk':=X.kind hk
 obtain⟨v,as,ac,r,hok,ho⟩:=S.eok.vars x a n hl hx (hk'.elim .inl fun h=>.inr (.inl h))
 refine wpAny_AugAssign_Name (ac.load S.eok.kind hcd (h X.cx hx' fun w bs s₁ I₁ k₁ r₁ ok₁ o₁=>?_))
 refine oR (k₁.rd r) r₁ hok ok₁ (aA (aA hc).1).1 (aA hc).2 hv fun v' tk r' ok'=>E3 (es:=[]) (S.kp (I₁.tok tk) k₁) hnd hx hk' (r' _) ok' (fun _ _ h=>nomatch h) fun s' S' st _=>?_
 rw[show lose σ.own []=σ.own from List.filter_eq_self.mpr fun _ _=>rfl]at S'
 exact hR s' _ S' ((bI.kp k₁).trans st)
end
theorem oW{prog:Program}{w:World}{A:Around}{s:Shared}{R:Result→Shared→Prop}{tn:Str}{tp:Pos}{it:Value}{body:List Stmt}{env:Env}(I:Nat→Shared→Prop)
  (turn:∀ n s,I n s→wpAny (model prog w) A (pyNext it) (fun r s₁=>match r with
   | none=>R (.ok .next) s₁
   | some v=>wpAny (model prog w) A (assign (.Name tn tp) env v) (fun _ s₃=>wpAny (model prog w) A (execs body env) (fun f s₄=>match f with
     | .next | .cont=>∃ m,m<n∧I m s₄
     | .brk=>R (.ok .next) s₄
     | .ret v=>R (.ok (.ret v)) s₄) (notedBy (model prog w) A env fun e s'=>R (.error e) s') s₃) (notedBy (model prog w) A env fun e s'=>R (.error e) s') s₁) (notedBy (model prog w) A env fun e s'=>R (.error e) s') s)
  (n:Nat) (h:I n s):codeAny (model prog w) A (.forLoop (.Name tn tp) it body [] env) R s:=by
 refine codeAny_loop' rfl I (fun n s hI=>?_) n h
 show wpAny _ _ ((forTurn (.Name tn tp) it body [] env).onRaise (fun x=>do noteFrame x env; theTreesLotGoes x)) _ _ s
 refine wpAny_noted ?_
 simp only[forTurn]
 refine wpAny_bind (wpAny_standAt (wpAny_bind (wpAny_onRaise (wpAny_mono (turn n s hI) (fun r s₁ h₁=>?_) fun _ _ h'=>wpAny_standAt h'))))
 cases r with
 | none=>exact wpAny_pure (.inr ⟨rfl,codeAny_block (wpAny_execs_nil h₁)⟩)
 | some v =>
  refine wpAny_bind (wpAny_pure (wpAny_bind (wpAny_mono h₁ (fun _ s₃ h₃=>wpAny_bind (wpAny_mono h₃ (fun f s₄ h₄=>?_) fun _ _ h'=>h')) fun _ _ h'=>h')))
  cases f with
  | next=>exact wpAny_pure (.inl ⟨rfl,h₄⟩)
  | cont=>exact wpAny_pure (.inl ⟨rfl,h₄⟩)
  | brk=>exact wpAny_pure h₄
  | ret v=>exact wpAny_pure h₄
section
variable{Z:aE}{cl:Nat→List PyData→Option PyData}{lvl:Nat}{nm:List Str}{fn:List Str}{sc:Scope}
theorem uE{env:Env}{σ:dY}{O:List (Option Nat×Addr)}{s:Shared}{x:Nat}{n:Str}{b:Addr}{items items':Array Value}{c c':Nat}{sl sl':Array (Option Value)}{xs xs':List PyData}{bs bs':List Addr}{h':Heap}
  (S:gV Z nm env σ O s) (hnd:nm.Nodup) (hx:nm[x]? = some n) (hl:bC σ.env x=some (.list xs)) (hvis:W6 env n) (hacc:uX env s.heap n (.ref b)) (h3:(some x,b)∈O) (hobj:s.heap.get? b=some { cls:=.type "list",dict:=none,data:=.seq items c,slots:=sl })
  (ra:aR s.heap items.toList xs bs) (hsb:Heap.SameBut b s.heap h') (hnew:h'.get? b=some { cls:=.type "list",dict:=none,data:=.seq items' c',slots:=sl' }) (ra':aR s.heap items'.toList xs' bs') (hnb:b∉bs') (hsub:∀ a∈bs',a∈bs∨∀ yb∈O,yb.2≠a) (hok:bL (.list xs')=true) :
  gV Z nm env ⟨σ.env.set x (some (.list xs')),σ.own⟩ O { s with heap:=h' }∧bI Z env O O s.heap h'∧uX env h' n (.ref b)∧aR h' items'.toList xs' bs':=by
 obtain⟨hap1,hap2⟩:=S.eok.apart _ h3
 have hrd:Rd s.heap (.ref b) (.list xs) (b::bs):=.list hobj ⟨rfl,rfl⟩ rfl ra
 have hkeep:∀ c o,c≠b→s.heap.get? c=some o→h'.get? c=some o:=fun c o hc e=>(hsb.2 c hc).trans e
 have T:aK Z nm env [] (fun c=>c=b) s.heap h':=aK.of_but (fun c o hc e=>hkeep c o hc e) (fun e=>hap1 e.symm) fun m c hkc hc e=>hap2 m c hkc hc e.symm
 have ra2:aR h' items'.toList xs' bs':=ra'.map fun a o ha e _=>hkeep a o (fun e'=>hnb (e'▸ha)) e
 obtain⟨v0,as0,ac0,r0,ok0,ho0⟩:=S.eok.vars x _ n hl hx hvis
 cases ac0.uniq hacc
 cases(gU.same r0 hrd).2
 have hEn:aH Z nm env (σ.env.set x (some (.list xs'))) O h' :=
  { S.eok with
   ns:=T.ns S.eok.ns
   live:=fun yb hy=>by
    by_cases e:yb.2=b
    ·rw[e]; exact⟨_,hnew,nofun⟩
    ·obtain⟨o,e',c⟩:=S.eok.live yb hy
     exact⟨o,hkeep _ _ e e',c⟩
   cells:=fun m hm=>let⟨c,u,h1,h2,h3⟩:=S.eok.cells m hm; let⟨u',h4⟩:=T.cells m c u hm h1 h3; ⟨c,u',h1,h2,h4⟩
   vars:=fun y q m hy1 hy2 hy3=>by
    rcases lQ hy1 with⟨rfl,e⟩| ⟨hne,e⟩
    ·cases e
     cases hx.symm.trans hy2
     refine⟨.ref b,b::bs',T.acc _ _ nofun hacc,.list hnew ⟨rfl,rfl⟩ rfl ra2,hok,fun yb hyb hm=>(List.mem_cons.mp hm).elim (fun hm=>?_) fun hm=>(hsub _ hm).elim (fun hm=>ho0 yb hyb (List.mem_cons_of_mem _ hm)) fun h=>absurd rfl (h yb hyb)⟩
     exact⟨(ho0 yb hyb (by rw[hm]; exact List.mem_cons_self)).1,by rw[hm]; rfl⟩
    ·obtain⟨v',as',a',r',hd',ho'⟩:=S.eok.vars y q m e hy2 hy3
     exact⟨v',as',T.acc _ _ nofun a',T.rd S.eok r' fun a ha e=>hne (Option.some.inj (ho' _ h3 (e▸ha)).1).symm,hd',ho'⟩ }
 refine⟨⟨S.inv.same (S.high _ _ h3) hsb (fun h=>absurd h (S.inv.frNot hobj nofun)) s.toks,hEn,fun y hy=>let⟨m,c,g1,g2,g3⟩:=S.own y hy; ⟨m,c,g1,T.acc _ _ nofun g2,g3⟩,S.high⟩,⟨fun c o e hc hw hoo=>.inl (hkeep c o (fun e'=>hoo x (e'▸h3)) e),fun c o e hcn=>?_,fun y c hy=>.inl hy,fun _=>Iff.rfl⟩,T.acc _ _ nofun hacc,ra2⟩
 by_cases e':c=b
 ·rw[e']; exact⟨_,hnew⟩
 ·exact⟨o,hkeep c o e' e⟩
theorem UI{fuel:Nat}{x:Nat}{n:Str}{np apos cpos pos:Pos}{value:Expr}{p:PE}(hnd:nm.Nodup)(hx:nm[x]? = some n)(hk:iN sc n=true)(hdbg:n≠("__debug__" : Str))(hcd:n≠("__classdict__" : Str))(hline:(apos.endLine==cpos.line)=true)
  (hst:aC value=false) (h:SE Z cl lvl nm sc value p):y2 Z cl lvl nm sc fuel (.Expr (.Call (.Attribute (.Name n np) "append" apos) [value] [] cpos) pos) (.app x p):=fun{A env σ O s fl R E}X hd hR =>
 iO hd fun hown hd=>aT hd fun q hl hd=>iC hd fun xs e hc=>aT hc fun d hx' hc=>by
 subst e
 have S:=X.S
 by_cases hesc:(!flat d&&(kB p).contains x)=true
 ·rw[if_pos hesc]at hc; cases hc
 rw[if_neg hesc]at hc
 refine b7 hc fun l hl' e=>iO hl' fun hsz e'=>?_
 cases e'
 subst e
 have hvis:W6 env n:=(X.kind hk).elim .inl fun h=>.inr (.inl h)
 obtain⟨v,as,ac,r,hok,ho⟩:=S.eok.vars x _ n hl hx hvis
 obtain⟨n',b,h1,h2,h3⟩:=S.own x (List.contains_iff_mem.mp hown)
 cases hx.symm.trans h1
 cases ac.uniq h2
 obtain⟨b',items,k,sl,bs,e,hobj,ra,rfl⟩:=eE r
 cases e
 have hint:interactive env=false:=by unfold interactive; rw[S.eok.kind]; rfl
 have hpl:=aZ hst
 refine wpAny_Expr (wpAny_Call_method_lateS (aQ rfl _ _ _) (jE hpl (Nat.le_of_ble_eq_true rfl)) hline ?_) hint rfl
 refine wpAny_Name (ac.load S.eok.kind hcd ?_) (beq_eq_false_iff_ne.mpr hdbg)
 refine⟨"list", "list.append",F.plainAttrs_list,slot_list_append,type_list_append,⟨_,hobj,rfl⟩,fun a e=>by cases e; exact⟨_,hobj,rfl⟩,?_⟩
 refine aV nofun (hpl.1 env cpos) (bW (hpl.2.1 nofun env cpos) ?_)
 rw[bF hst]
 refine Calls.spliced_cons (h X.cx hx' fun w cs s₁ I₁ k₁ r₁ ok₁ o₁=>Calls.spliced_nil ?_)
 have hobj₁:=(k₁.k _ _ hobj (.inl nofun)).seq rfl
 refine wpAny_call_entry slot_list_append ⟨_,hobj₁,rfl⟩ entry_list_append ?_ (args_list_append _ _)
 show wpAny _ _ (updateSeq b (·.push w) >>= fun _=>ret .none) _ _ s₁
 have hlenx:items.size=xs.length:=(Array.length_toList).symm.trans (aS ra)
 rw[List.length_append]at hsz
 have hsz1:items.size+1≤sizeLine:=hlenx▸hsz
 have hsz2:items.size≤sizeLine:=Nat.le_of_succ_le hsz1
 have hsz3:(items.push w).size≤sizeLine:=by rw[Array.size_push]; exact hsz1
 refine wpAny_bind (wpAny_updateSeq hobj₁ rfl (wpAny_pure ⟨.none,rfl,?_⟩))
 have S₁:=(S.kp I₁ k₁).lose (es:=dW d p) (own:=lose σ.own (dW d p)) fun y hy=>gM.mp hy
 have hxe:¬iP (some x) (dW d p):=fun⟨y,hy,e⟩=>by
  cases e
  unfold dW at hy
  cases hf:flat d
  ·rw[hf]at hy hesc; exact hesc (List.contains_iff_mem.mpr hy)
  ·rw[hf]at hy; cases hy
 have h3':(some x,b)∈b8 O (dW d p):=bQ.mpr ⟨h3,hxe⟩
 have hcs:∀ a∈cs,∀ yb∈b8 O (dW d p),yb.2≠a:=fun a ha yb hy e=>(bQ.mp hy).2 (lO r₁ o₁ yb (bQ.mp hy).1 (e▸ha))
 obtain⟨S₂,st₂,_⟩:=uE (items':=items.push w) (bs':=bs++(cs++[])) S₁ hnd hx hl hvis (h2.kp k₁ S.eok.new fun c hc hkc=>(S.eok.cellAt hkc hc).1) h3' hobj₁ (k₁.rd ra) (Heap.SameBut.update s₁.heap b (Obj.mapSeq (·.push w))) (Heap.get?_update_self (Obj.mapSeq (·.push w)) hobj₁ rfl)
  (by rw[Array.toList_push]; exact jU (k₁.rd ra) (.cons r₁ .nil)) (fun hm=>(List.mem_append.mp hm).elim (r.apart rfl) fun hm=>hcs b (by rwa[List.append_nil]at hm) _ h3' rfl) (fun a ha=>(List.mem_append.mp ha).imp id fun ha=>hcs a (by rwa[List.append_nil]at ha))
  (y5 (by rw[List.length_append]; exact hsz) (kW.mpr ⟨(rZ hok).2,by rw[cM,ok₁]; rfl⟩))
 have hR':BF Z nm env O s (.next ⟨σ.env.set x (some (.list (xs++[d]))),lose σ.own (dW d p)⟩) R:=by rw[← f7]; exact hR
 exact hR' _ _ S₂ (((bI.kp k₁).trans (bI.drop _)).trans st₂)
noncomputable def qH(O₁ O:List (Option Nat×Addr)):List (Option Nat×Addr):=O₁.filter fun yb=>yb.1.isSome||decide (yb∈O)
theorem f6{O₁ O:List (Option Nat×Addr)}{yb:Option Nat×Addr}:yb∈qH O₁ O↔yb∈O₁∧(yb.1.isSome=true∨yb∈O):=by
 unfold qH
 rw[List.mem_filter,Bool.or_eq_true,decide_eq_true_eq]
structure cQ(Z:aE)(env:Env)(O:List (Option Nat×Addr))(h:Heap)(O₀:List (Option Nat×Addr))(h₁:Heap)(O':List (Option Nat×Addr))(h':Heap):Prop where
 keep:∀ b o,h.get? b=some o→(o.cls ≠ .none∨Z.n≤b)→¬N5 env b→(∀ y,(some y,b)∉O)→Sl h' b o
 live:∀ b o,h.get? b=some o→Z.n≤b→∃ o',h'.get? b=some o'
 live1:∀ b o,h₁.get? b=some o→Z.n≤b→∃ o',h'.get? b=some o'
 newO:∀ y b,(some y,b)∈O'→(some y,b)∈O₀∨(Z.n≤b∧h₁.get? b=none)
 resv:∀ a,(none,a)∈O'↔(none,a)∈O₀
section
variable{env:Env}{O O₀ O' O'':List (Option Nat×Addr)}{h h₁ h' h'':Heap}{I:Addr}
theorem cQ.step(k:Kp Z.n h h₁)(hO:∀ y b,(some y,b)∈O₀→(some y,b)∈O)(L:cQ Z env O h O₀ h₁ O' h')(st:bI Z env O' O'' h' h''):cQ Z env O h O₀ h₁ O'' h'' where
 keep:=fun b o e c hw ho=>(L.keep b o e c hw ho).next fun o' e' hcc=>st.keep b o' e' (by rw[hcc]; exact c) hw fun y hy=>(L.newO y b hy).elim (fun h1=>ho y (hO y b h1)) fun h1=>let⟨_,e2,_⟩:=(k.k b o e c).ex; nomatch h1.2.symm.trans e2
 live:=fun b o e hn=>let⟨o',e'⟩:=L.live b o e hn; st.live b o' e' hn
 live1:=fun b o e hn=>let⟨o',e'⟩:=L.live1 b o e hn; st.live b o' e' hn
 newO:=fun y b hy=>(st.newO y b hy).elim (L.newO y b) fun⟨hn,h1⟩=>.inr ⟨hn,oA fun o e=>let⟨_,e'⟩:=L.live1 b o e hn; nomatch h1.symm.trans e'⟩
 resv:=fun a=>(st.resv a).trans (L.resv a)
theorem cQ.next(L:cQ Z env O h O₀ h₁ O' h')(hfresh:h.get? I=none)(kp:∀ b o,b≠I→h'.get? b=some o→h''.get? b=some o)(hl:∃ o,h''.get? I=some o):cQ Z env O h O₀ h₁ O' h'' where
 keep:=fun b o e c hw ho=>(L.keep b o e c hw ho).then fun o' e'=>kp b o' (fun hm=>by rw[hm,hfresh]at e; cases e) e'
 live:=fun b o e hn=>let⟨o',e'⟩:=L.live b o e hn; ⟨o',kp b o' (fun hm=>by rw[hm,hfresh]at e; cases e) e'⟩
 live1:=fun b o e hn=>by
  obtain⟨o',e'⟩:=L.live1 b o e hn
  by_cases hm:b=I
  ·rw[hm]; exact hl
  ·exact⟨o',kp b o' hm e'⟩
 newO:=L.newO
 resv:=L.resv
theorem cQ.exit(k:Kp Z.n h h₁)(hO:∀ y b,(some y,b)∈O₀→(some y,b)∈O)(hON:∀ a,(none,a)∈O→(none,a)∈O₀)(L:cQ Z env O h O₀ h₁ O' h')(hfresh:h.get? I=none)(kp:∀ b o,b≠I→h'.get? b=some o→h''.get? b=some o) :
  bI Z env O (qH O' O) h h'' where
 keep:=fun b o e c hw ho=>(L.keep b o e c hw ho).then fun o' e'=>kp b o' (fun hm=>by rw[hm,hfresh]at e; cases e) e'
 live:=fun b o e hn=>let⟨o',e'⟩:=L.live b o e hn; ⟨o',kp b o' (fun hm=>by rw[hm,hfresh]at e; cases e) e'⟩
 newO:=fun y b hy=>(L.newO y b (f6.mp hy).1).imp (hO y b) fun⟨hn,h1⟩=>⟨hn,k.none hn h1⟩
 resv:=fun a=>f6.trans ⟨fun h=>h.2.resolve_left nofun,fun h=>⟨(L.resv a).mpr (hON a h),.inr h⟩⟩
end
theorem FU{A:Around}{env:Env}{σ:dY}{O:List (Option Nat×Addr)}{s:Shared}{tn:Str}{tp pos:Pos}{iter:Expr}{body:List Stmt}{x:Nat}{i:PI}{ds:List PyData}{R:Flow→Shared→Prop}{E:Value→Shared→Prop}(K:Nat→dY→List (Option Nat×Addr)→Shared→Prop)
  (X:Sx Z lvl nm sc A env σ O s) (hnd:nm.Nodup) (hx:nm[x]? = some tn) (hl:iN sc tn=true) (hset:iF iter=false) (hi:SI Z cl lvl nm sc iter i) (hds:uY cl i σ.env=some ds)
  (K0:∀ I s₁,bB Z s₁→Kp Z.n s.heap s₁.heap→K 0 ⟨σ.env,lose σ.own (cT i)⟩ (Kt.Internal.reserve I O (cT i)) s₁)
  (KI:∀ k σ' O' s₀ s₂ I,K k σ' O' s₀→(none,I)∈O'→(∀ y b,(some y,b)∈O'→b≠I)→gV Z nm env σ' O' s₂→(∀ b o,b≠I→s₀.heap.get? b=some o→s₂.heap.get? b=some o)→aK Z nm env [] (· = I) s₀.heap s₂.heap→K k σ' O' s₂)
  (turn:∀ k d σ' O' s₂ s₃,ds[k]? = some d→bL d=true→K k σ' O' s₂→Sx Z lvl nm sc A env ⟨σ'.env.set x (some d),lose σ'.own [x]⟩ (b8 O' [x]) s₃→aH Z nm env σ'.env O' s₂.heap→aK Z nm env [x] (fun _=>False) s₂.heap s₃.heap →
   (∀ O₄ h₄,bI Z env (b8 O' [x]) O₄ s₃.heap h₄→bI Z env O (qH O₄ O) s.heap h₄)→(∀ a,(none,a)∈O→(none,a)∈b8 O' [x]) →
   wpAny (model Z.prog Z.w) A (execs body env) (fun f s₄=>match f with
    | .next | .cont=>∃ σ'' O'',K (k+1) σ'' O'' s₄∧gV Z nm env σ'' O'' s₄∧bI Z env (b8 O' [x]) O'' s₃.heap s₄.heap
    | .brk=>R .next s₄
    | .ret v=>R (.ret v) s₄) (notedBy (model Z.prog Z.w) A env fun e s'=>cameBackBy (model Z.prog Z.w) A env E e s') s₃)
  (fin:∀ σ' O' s₀ s',K ds.length σ' O' s₀→gV Z nm env σ' (qH O' O) s'→bI Z env O (qH O' O) s.heap s'.heap→R .next s') :
  wpAny (model Z.prog Z.w) A (exec (.For (.Name tn tp) iter body [] pos) env) R E s:=by
 have S:=X.S
 refine wpAny_For (hi X.cx hds fun I used St s₁ Sr=>?_) (pQ hset env)
 generalize hO₀e:Kt.Internal.reserve I O (cT i)=O₀
 have hIl:∃ o,s₁.heap.get? I=some o∧o.cls ≠ .none:=let⟨o,e,c,_⟩:=Sr.iter.live _ _ Sr.start; ⟨o,e,c⟩
 have some₀:∀ y b,(some y,b)∈O₀→(some y,b)∈O∧¬iP (some y) (cT i):=fun y b hy=>(kX (hO₀e▸hy)).resolve_left nofun
 have S₁:gV Z nm env ⟨σ.env,lose σ.own (cT i)⟩ O₀ s₁:=⟨Sr.inv,hO₀e▸S.eok.reserve Sr.kp Sr.fresh hIl,fun y hy=>by
  obtain⟨h1,h2⟩:=gM.mp hy
  obtain⟨n,b,g1,g2,g3⟩:=(S.kp Sr.inv Sr.kp).own y h1
  exact⟨n,b,g1,g2,hO₀e▸(dL g3).resolve_right fun⟨z,hz,e⟩=>h2 (by cases e; exact hz)⟩,fun y b hy=>S.high y b (some₀ y b hy).1⟩
 have hON:∀ a,(none,a)∈O→(none,a)∈O₀:=fun a h=>hO₀e▸jT h
 have lab₀:∀ y b,(some y,b)∈O₀→b∉used∧b≠I:=fun y b hy=>⟨fun hm=>(some₀ y b hy).2 (Sr.own _ (some₀ y b hy).1 hm),fun e=>by obtain⟨o,e',_⟩:=S.eok.live _ (some₀ y b hy).1; rw[show(some y,b).2=I from e,Sr.fresh]at e'; cases e'⟩
 let Lp:List (Option Nat×Addr)→Heap→Prop:=cQ Z env O s.heap O₀ s₁.heap
 have hIO:∀{O' h},Lp O' h→(none,I)∈O':=fun L=>(L.resv I).mpr (hO₀e▸List.mem_cons_self)
 have lab:∀{O' h},Lp O' h→∀ y b,(some y,b)∈O'→b∉used∧b≠I:=fun L y b hy=>by
  rcases L.newO y b hy with h | ⟨_,h⟩
  ·exact lab₀ y b h
  ·refine⟨fun hm=>?_,fun e=>?_⟩
   ·obtain⟨o,_,_,e,_⟩:=Sr.seq b hm; cases h.symm.trans e
   ·obtain⟨o,e',_⟩:=hIl; subst e; cases h.symm.trans e'
 have usO:∀{O' h},Lp O' h→∀ yb∈O',yb.2∉used:=fun{O' h}L yb hy hm=>by
  obtain⟨y,b⟩:=yb
  cases y with
  | some y=>exact(lab L y b hy).1 hm
  | none=>exact(kX (hO₀e▸(L.resv b).mp hy)).elim (fun e=>by cases e; exact Sr.iter.apart hm) fun h=>let⟨_,_,e⟩:=Sr.own _ h.1 hm; nomatch e
 let J:Nat→Shared→Prop:=fun n s'=>∃ k σ' O',n=ds.length - k∧k≤ds.length∧St k s'.heap∧gV Z nm env σ' O' s'∧Lp O' s'.heap∧K k σ' O' s'∧mX used s'.heap
 have L₀:Lp O₀ s₁.heap:=⟨fun b o e c _ _=>Sr.kp.k b o e c,fun b o e hn=>let⟨o',e',_⟩:=(Sr.kp.k b o e (.inr hn)).ex; ⟨o',e'⟩,fun b o e _=>⟨o,e⟩,fun _ _ h=>.inl h,fun _=>Iff.rfl⟩
 have hO₀:∀ y b,(some y,b)∈O₀→(some y,b)∈O:=fun y b h=>(some₀ y b h).1
 refine oW J (fun n s₀ hJ=>?_) ds.length ⟨0,_,O₀,rfl,Nat.zero_le _,Sr.start,S₁,L₀,hO₀e▸K0 I s₁ Sr.inv Sr.kp,⟨Sr.seq⟩⟩
 obtain⟨k,σ',O',rfl,hk,st₀,S₀,T₀,K₀,sq₀⟩:=hJ
 have hII:=hIO T₀
 have butI:∀{s₂:Shared},(∀ b o,b≠I→s₀.heap.get? b=some o→s₂.heap.get? b=some o)→aK Z nm env [] (· = I) s₀.heap s₂.heap:=fun kp=>S₀.eok.but hII kp
 rcases Nat.lt_or_ge k ds.length with hlt | hge
 ·have hdk:ds[k]? = some ds[k]:=List.getElem?_eq_getElem hlt
  refine Sr.iter.step k ds[k] s₀ _ _ hdk st₀ S₀.inv fun v bs s₂ I₂ kp₂ r₂ hbs st₂=>?_
  have TI:=butI kp₂
  have hIl₂:∃ o,s₂.heap.get? I=some o∧o.cls ≠ .none:=let⟨o,e,c,_⟩:=Sr.iter.live _ _ st₂; ⟨o,e,c⟩
  have E₂:aH Z nm env σ'.env O' s₂.heap:=S₀.eok.of_turned hnd TI nofun (fun yb _ hx=>hx▸hIl₂) fun b hb=>hb▸hII
  have S₂:gV Z nm env σ' O' s₂:=S₀.turn hnd I₂ E₂ TI fun y hy=>⟨hy,nofun⟩
  have L₂:Lp O' s₂.heap:=cQ.next T₀ Sr.fresh kp₂ (let⟨o,e,_⟩:=hIl₂; ⟨o,e⟩)
  have K₂:=KI k σ' O' s₀ s₂ I K₀ hII (fun y b h=>(lab T₀ y b h).2) S₂ kp₂ TI
  have hXu:∀ b∈used,¬b=I:=fun b hb e=>Sr.iter.apart (e▸hb)
  have sq₂:=(sq₀.turn S₀.eok TI hXu).2
  have S₂':gV Z nm env ⟨σ'.env,lose σ'.own [x]⟩ (b8 O' [x]) s₂:=S₂.lose fun y hy=>gM.mp hy
  have L₂':Lp (b8 O' [x]) s₂.heap:=cQ.step Sr.kp hO₀ L₂ (bI.drop [x])
  refine lW hnd hx hl X.hs X.hf S₂'.eok I₂ r₂ (iV Sr.ok hdk) (fun yb hy hm=>usO L₂' yb hy (hbs _ hm)) fun s₃ I₃ E₃ T₃=>?_
  have st₃:bI Z env (b8 O' [x]) (b8 O' [x]) s₂.heap s₃.heap:=bI.turned S₂'.eok T₃
  have S₃:gV Z nm env ⟨σ'.env.set x (some ds[k]),lose σ'.own [x]⟩ (b8 O' [x]) s₃:=S₂'.turn hnd I₃ E₃ T₃ fun y hy=>⟨hy,(gM.mp hy).2⟩
  have L₃:Lp (b8 O' [x]) s₃.heap:=cQ.step Sr.kp hO₀ L₂' st₃
  refine wpAny_mono (turn k ds[k] σ' O' s₂ s₃ hdk (iV Sr.ok hdk) K₂ (X.go S₃) E₂ T₃ (fun O₄ h₄ st₄=>cQ.exit Sr.kp hO₀ hON (cQ.step Sr.kp hO₀ L₃ st₄) Sr.fresh fun b o _ e=>e) fun a ha=>(L₃.resv a).mpr (hON a ha)) (fun f s₄ h₄=>?_) fun _ _ h=>h
  have next:(∃ σ'' O'',K (k+1) σ'' O'' s₄∧gV Z nm env σ'' O'' s₄∧bI Z env (b8 O' [x]) O'' s₃.heap s₄.heap)→∃ m,m<ds.length - k∧J m s₄:=fun⟨σ₄,O₄,K₄,S₄,st₄⟩=>by
   have st₂₄:bI Z env (b8 O' [x]) O₄ s₂.heap s₄.heap:=st₃.trans st₄
   have hu:∀ b∈used,∀ o,s₂.heap.get? b=some o→s₄.heap.get? b=some o:=fun b hb o e=>by
    obtain⟨o',vs,n,e',hd,hc⟩:=sq₂.at_ b hb
    cases e.symm.trans e'
    exact(st₂₄.keep b o e (.inl hc) (HL S₂'.eok e hd) fun y hy=>(lab L₂' y b hy).1 hb).seq hd
   have hI₄:∀ o,s₂.heap.get? I=some o→s₄.heap.get? I=some o:=fun o e=>by
    obtain⟨o',e',c,nd⟩:=Sr.iter.live _ _ st₂
    cases e.symm.trans e'
    exact(st₂₄.keep I o e (.inl c) (QM S₂.eok (yb:=(none,I)) hII) fun y hy=>(lab L₂' y I hy).2 rfl).nd nd
   exact⟨ds.length - (k+1),Nat.sub_lt_sub_left hlt (Nat.lt_succ_self k),k+1,σ₄,O₄,rfl,hlt,Sr.iter.frame _ _ _ st₂ fun b hb o e=>hb.elim (fun hb=>by subst hb; exact hI₄ o e) fun hb=>hu b hb o e,S₄,cQ.step Sr.kp hO₀ L₃ st₄,K₄,⟨fun b hb=>let⟨o',vs,n,e',r⟩:=sq₂.at_ b hb; ⟨o',vs,n,hu b hb o' e',r⟩⟩⟩
  cases f with
  | next=>exact next h₄
  | cont=>exact next h₄
  | brk=>exact h₄
  | ret v=>exact h₄
 ·cases Nat.le_antisymm hk hge
  refine Sr.iter.done s₀ _ _ st₀ S₀.inv fun s₂ I₂ kp₂=>?_
  have TI:=butI kp₂
  have E₂:aH Z nm env σ'.env (qH O' O) s₂.heap:=S₀.eok.of_turned' (fun yb hy=>(f6.mp hy).1) hnd TI nofun (fun yb hy hx=>by
   exfalso
   obtain⟨h1,h2⟩:=f6.mp hy
   obtain⟨y,b⟩:=yb
   rcases h2 with h2 | h2
   ·cases y with
    | none=>cases h2
    | some y=>exact(lab T₀ y b h1).2 hx
   ·obtain⟨o,e,_⟩:=S.eok.live _ h2
    rw[show(y,b).2=I from hx,Sr.fresh]at e; cases e) fun b hb=>hb▸hII
  exact fin σ' O' s₀ s₂ K₀ ⟨I₂,E₂,fun y hy=>let⟨n,b,g1,g2,g3⟩:=S₀.own y hy; ⟨n,b,g1,TI.acc n _ nofun g2,f6.mpr ⟨g3,.inl rfl⟩⟩,fun y b hy=>S₀.high y b (f6.mp hy).1⟩ (cQ.exit Sr.kp hO₀ hON T₀ Sr.fresh kp₂)
theorem UG{fuel:Nat}{tn:Str}{tp pos:Pos}{iter:Expr}{body:List Stmt}{x:Nat}{i:PI}{ps:mG}(hnd:nm.Nodup)(hx:nm[x]? = some tn)(hl:iN sc tn=true)(hset:iF iter=false)(hi:SI Z cl lvl nm sc iter i)(hb:SX Z cl lvl nm sc fuel body ps) :
  y2 Z cl lvl nm sc fuel (.For (.Name tn tp) iter body [] pos) (.for_ (.one x) i ps):=fun{A env σ O s fl R E}X hd hR=>aT hd fun ds hds hd=>by
 let bindP:PyData→dY→Option dY:=fun d τ=>(fO (.one x) d τ.env).map fun ρ=>{ env:=ρ,own:=lose τ.own (bU (.one x)) }
 refine FU (fun k σ' _ _=>dJ (b6 cl fuel ps) bindP (ds.drop k) σ'=some fl) X hnd hx hl hset hi hds (fun _ _ _ _=>hd) (fun k σ' O' s₀ s₂ I h _ _ _ _ _=>h) (fun k d σ' O' s₂ s₃ hdk _ hk X₃ _ _ out rsv=>?_) fun σ' O' s₀ s' hk S' st=>?_
 ·obtain⟨hlt,e⟩:=List.getElem?_eq_some_iff.mp hdk
  rw[List.drop_eq_getElem_cons hlt,e]at hk
  refine aT (o:=b6 cl fuel ps ⟨σ'.env.set x (some d),lose σ'.own [x]⟩) hk fun f hbody hk=>hb X₃ hbody ?_
  cases f with
  | next σ₄=>exact fun s₄ O₄ S₄ st₄=>⟨σ₄,O₄,hk,S₄,st₄⟩
  | ret v=>cases hk; exact fun w as s₄ O₄ I₄ r₄ ok₄ hr₄ st₄=>hR w as s₄ (qH O₄ O) I₄ r₄ ok₄ (fun a ha=>hr₄ a (rsv a ha)) (out _ _ st₄)
 ·rw[List.drop_length]at hk
  cases hk
  exact hR s' _ S' st
end
theorem yY(t value:Expr)(pos:Pos)(env:Env)(hs:swapsWith value (some t) pos.line env=pure false):exec (.Assign [t] value pos) env=(do
  standAt pos
  let v ← eval value env
  assignStores env v (← swappedStores [t] value env) ((assignEach [t] env).map (·.2))):=by
 have e:exec (.Assign [t] value pos) env=(do
  standAt pos
  if ← swapsWith value (some t) pos.line env then do
   evalThenUse value env fun v=>assignAll v ((assignEach [t] env).map (·.2))
   pure .next
  else do
   let v ← eval value env
   assignStores env v (← swappedStores [t] value env) ((assignEach [t] env).map (·.2))):=rfl
 rw[e,hs]; rfl
theorem AU(n m:Str)(p1 p2:Pos)(k:Nat)(tp:Pos)(ea eb:Expr)(k':Nat)(vp:Pos)(env:Env)(hcon:(!([ea,eb].all (foldedForSure 8))&&[ea,eb].all (constantsAlone 8))=false) :
  ∃ r,swappedStores [.Tuple [.Name n p1,.Name m p2] k tp] (.Tuple [ea,eb] k' vp) env=pure r∧(r=none∨r=some [n,m]):=by
 have key:∀(c1 c2:Bool)(names:List Str),(names.length=2→names=[n,m]) →
   ∃ r,(if c1=true then(pure none:Sem (Option (List Str)))else if c2=true then pure none else if(names.length != 2||names.eraseDups.length != names.length)=true then pure none else
    if([ea,eb].all (foldedForSure 8))=true then pure none else if([ea,eb].all (constantsAlone 8))=true then unsupported "assign.tuple-of-constant-expressions:order-of-the-stores" else pure (some names))=pure r∧(r=none∨r=some [n,m]):=fun c1 c2 names hn=>by
  by_cases h1:c1=true
  ·exact⟨none,if_pos h1,.inl rfl⟩
  by_cases h2:c2=true
  ·exact⟨none,by rw[if_neg h1,if_pos h2],.inl rfl⟩
  by_cases h3:(names.length != 2||names.eraseDups.length != names.length)=true
  ·exact⟨none,by rw[if_neg h1,if_neg h2,if_pos h3],.inl rfl⟩
  by_cases h4:([ea,eb].all (foldedForSure 8))=true
  ·exact⟨none,by rw[if_neg h1,if_neg h2,if_neg h3,if_pos h4],.inl rfl⟩
  by_cases h5:([ea,eb].all (constantsAlone 8))=true
  ·rw[h5,Bool.eq_false_iff.mpr h4]at hcon; cases hcon
  refine⟨some names,by rw[if_neg h1,if_neg h2,if_neg h3,if_neg h4,if_neg h5],.inr (congrArg some (hn ?_))⟩
  cases hl:names.length != 2
  ·exact bne_eq_false_iff_eq.mp hl
  ·rw[hl]at h3; exact absurd rfl h3
 refine key _ _ _ fun h5=>?_
 revert h5
 show(List.filterMap _ [Expr.Name n p1,Expr.Name m p2]).length=2→List.filterMap _ [Expr.Name n p1,Expr.Name m p2]=[n,m]
 rw[List.filterMap_cons,List.filterMap_cons,List.filterMap_nil]
 dsimp only
 generalize (env.kindOf n==some .local&&_)=c
 generalize (env.kindOf m==some .local&&_)=d
 cases c <;> cases d <;> first | exact fun _=>rfl | exact fun h=>nomatch h
def Du(M:Model)(A:Around)(E:Value→Shared→Prop)(env:Env)(n m:Str)(R:Flow→Shared→Prop)(v1 v2:Value)(s:Shared):Prop:=∀ h':Heap,(∀ c o,s.heap.get? c=some o→h'.get? c=some o) →
 wpAny M A (storeName env n v1) (fun _ s₄=>wpAny M A (storeName env m v2) (fun _ s₅=>R .next s₅) E s₄) E { s with heap:=h' } ∧
 wpAny M A (storeName env m v2) (fun _ s₄=>wpAny M A (storeName env n v1) (fun _ s₅=>R .next s₅) E s₄) E { s with heap:=h' }
theorem k7{prog:Program}{W:World}{A:Around}{E:Value→Shared→Prop}{env:Env}{R:Flow→Shared→Prop}{n m:Str}{p1 p2 tp vp pos:Pos}{k k':Nat}{ea eb:Expr}{s:Shared}(hA:A.handled=none)
  (hsa:aC ea=false) (hsb:aC eb=false) (hcon:(!([ea,eb].all (foldedForSure 8))&&[ea,eb].all (constantsAlone 8))=false)
  (h:wpAny (model prog W) A (eval ea env) (fun v1 s₁=>wpAny (model prog W) A (eval eb env) (fun v2 s₂=>Du (model prog W) A E env n m R v1 v2 s₂) E s₁) E s) :
  wpAny (model prog W) A (exec (.Assign [.Tuple [.Name n p1,.Name m p2] k tp] (.Tuple [ea,eb] k' vp) pos) env) R E s:=by
 rw[yY _ _ _ _ rfl]
 refine wpAny_bind (wpAny_standAt (wpAny_bind ?_))
 rw[arm_eval_Tuple,bF hsa,bF hsb]
 refine wpAny_bind (wpAny_standAt (wpAny_bind (Calls.spliced_cons (wpAny_mono h (fun v1 s₁ h=>Calls.spliced_cons (wpAny_mono h (fun v2 s₂ go=>Calls.spliced_nil (wpAny_newObj_type ?_ (Nat.le_of_ble_eq_true rfl))) fun _ _ e=>e)) fun _ _ e=>e))))
 have htup:(s₂.heap.push { cls:=.type "tuple",data:=.seq [v1,v2].toArray }).IsTuple s₂.heap.objs.size #[v1,v2]:=⟨_,Heap.get?_push_size _ rfl,rfl,_,rfl⟩
 have keep:∀{h':Heap},Heap.ExtBut (s₂.heap.push { cls:=.type "tuple",data:=.seq [v1,v2].toArray }).objs.size (s₂.heap.push { cls:=.type "tuple",data:=.seq [v1,v2].toArray }) h'→∀ c o,s₂.heap.get? c=some o→h'.get? c=some o:=fun he c o e=>let e:=Heap.get?_push_of_some _ e; he c o (fun e'=>Nat.lt_irrefl _ (e'▸Heap.lt_size e)) e
 obtain⟨r,hsw,hr⟩:=AU n m p1 p2 k tp ea eb k' vp env hcon
 rw[hsw]
 refine wpAny_bind (wpAny_pure ?_)
 rcases hr with rfl | rfl
 ·show wpAny _ A (do assignAll (.ref s₂.heap.objs.size) [assign (.Tuple [.Name n p1,.Name m p2] k tp) env]; pure .next) R E _
  refine wpAny_bind ?_
  show wpAny _ A (assign (.Tuple [.Name n p1,.Name m p2] k tp) env (.ref s₂.heap.objs.size)) _ E _
  rw[arm_assign_Tuple]
  refine wpAny_bind (wpAny_standAt (wpAny_unpack_tuple hA htup rfl rfl fun h' he=>?_))
  exact wpAny_assignInOrder_more (wpAny_assign_Name (wpAny_mono (go h' (keep he)).1 (fun _ s₄ h4=>wpAny_assignInOrder_more (wpAny_assign_Name (wpAny_mono h4 (fun _ s₅ h5=>wpAny_assignInOrder_none (wpAny_pure h5)) fun _ _ e=>e))) fun _ _ e=>e))
 ·show wpAny _ A (do
    rule "assign.swapped-stores"
    let items ← unpackItems (.ref s₂.heap.objs.size) (#[v1,v2]:Array Value).size none
    assignInOrder ([n,m].reverse.map fun n=>bindName env n) items.reverse
    pure .next) R E _
  refine wpAny_bind (wpAny_rule (wpAny_bind (wpAny_unpackItems_tuple hA htup (Q:=fun items s'=>wpAny (model prog W) A (assignInOrder ([n,m].reverse.map fun n=>bindName env n) items.reverse >>= fun _=>pure Flow.next) R E s') fun h' he=>wpAny_bind ?_)))
  show wpAny _ A (assignInOrder [bindName env m,bindName env n] [v2,v1]) _ E _
  exact wpAny_assignInOrder_more (wpAny_bindName (wpAny_mono (go h' (keep he)).2 (fun _ s₄ h4=>wpAny_assignInOrder_more (wpAny_bindName (wpAny_mono h4 (fun _ s₅ h5=>wpAny_assignInOrder_none (wpAny_pure h5)) fun _ _ e=>e))) fun _ _ e=>e))
section
variable{Z:aE}{cl:Nat→List PyData→Option PyData}{lvl:Nat}{nm:List Str}{fn:List Str}{sc:Scope}
theorem XN{M:Model}{A:Around}{E:Value→Shared→Prop}{Q:Unit→Shared→Prop}{env:Env}{σ:dY}{O:List (Option Nat×Addr)}{s:Shared}{x y:Nat}{n m:Str}{v1 v2:Value}{d1 d2:PyData}{as1 as2:List Addr}{own':List Nat}(S:gV Z nm env σ O s)(hnd:nm.Nodup)
  (hx:nm[x]? = some n) (hy:nm[y]? = some m) (hk1:env.kindOf n=some .local∨env.kindOf n=some .cell) (hk2:env.kindOf m=some .local∨env.kindOf m=some .cell) (r1:Rd s.heap v1 d1 as1) (r2:Rd s.heap v2 d2 as2) (hd1:bL d1=true) (hd2:bL d2=true)
  (ho1:∀ yb∈O,yb.2∉as1) (ho2:∀ yb∈O,yb.2∉as2) (hown:∀ z∈own',z≠x∧z≠y∧z∈σ.own)
  (hQ:∀ s',gV Z nm env ⟨(σ.env.set x (some d1)).set y (some d2),own'⟩ O s'→bI Z env O O s.heap s'.heap→Q () s'):wpAny M A (storeName env n v1) (fun _ s₁=>wpAny M A (storeName env m v2) Q E s₁) E s :=
 RK S hnd hx hk1 r1 hd1 (fun yb hy hm=>absurd hm (ho1 yb hy)) (own':=own') (fun z hz=>.inl ⟨(hown z hz).1,(hown z hz).2.2⟩) fun s₁ S₁ st₁ T₁ =>
  RK S₁ hnd hy hk2 (T₁.rd S.eok r2 fun _ _=>id) hd2 (fun yb hy hm=>absurd hm (ho2 yb hy)) (own':=own') (fun z hz=>.inl ⟨(hown z hz).2.1,hz⟩) fun s₂ S₂ st₂ _=>hQ s₂ S₂ (st₁.trans st₂)
theorem C0{fuel:Nat}{x y:Nat}{n m:Str}{p1 p2 tp vp pos:Pos}{k k':Nat}{ea eb:Expr}{a b:PE}(hnd:nm.Nodup)(hxy:x≠y)(hx:nm[x]? = some n)(hy:nm[y]? = some m)(hk1:iN sc n=true)
  (hk2:iN sc m=true) (hsa:aC ea=false) (hsb:aC eb=false) (hcon:(!([ea,eb].all (foldedForSure 8))&&[ea,eb].all (constantsAlone 8))=false) (hna:u0 a b=false) (ha:SE Z cl lvl nm sc ea a) (hb:SE Z cl lvl nm sc eb b) :
  y2 Z cl lvl nm sc fuel (.Assign [.Tuple [.Name n p1,.Name m p2] k tp] (.Tuple [ea,eb] k' vp) pos) (.assign2 x y a b):=fun{A env σ O s fl R E}X hd hR=>aT hd fun d1 hxa hd=>b7 hd fun d2 hxb e=>by
 subst e
 have S:=X.S
 refine k7 X.ha.handled hsa hsb hcon (ha X.cx hxa fun v1 as1 s₁ I₁ k₁ r₁ ok₁ o₁=>hb (X.cx.kp k₁ I₁) hxb fun v2 as2 s₂ I₂ k₂ r₂ ok₂ o₂ h' hk2'=>?_)
 have k₁₂:=k₁.trans k₂
 have kf:Kp Z.n s₂.heap h':=Kp.of hk2'
 have S4:=(S.kp (I₂.full (h':=h') (tk:=s₂.toks) hk2') (k₁₂.trans kf)).lose (es:=x::y::(dW d1 a++dW d2 b)) (own:=((lose (lose σ.own (dW d1 a)) (dW d2 b)).filter (· != x)).filter (· != y)) fun z hz=>by
  obtain⟨hz,h1⟩:=List.mem_filter.mp hz
  obtain⟨hz,h2⟩:=List.mem_filter.mp hz
  obtain⟨hz,h3⟩:=gM.mp hz
  obtain⟨hz,h4⟩:=gM.mp hz
  exact⟨hz,fun h=>(List.mem_cons.mp h).elim (bne_iff_ne.mp h2) fun h=>(List.mem_cons.mp h).elim (bne_iff_ne.mp h1) fun h=>(List.mem_append.mp h).elim h4 h3⟩
 have st4:=(bI.kp (env:=env) (O:=O) (k₁₂.trans kf)).trans (bI.drop (x::y::(dW d1 a++dW d2 b)))
 have av:∀{es:List Nat}{as:List Addr},(∀ yb∈O,yb.2∈as→iP yb.1 es)→(∀ z∈es,z∈x::y::(dW d1 a++dW d2 b))→∀ yb∈b8 O (x::y::(dW d1 a++dW d2 b)),yb.2∉as:=fun ho hs yb hy hm=>let⟨h1,h2⟩:=bQ.mp hy; let⟨z,hz,e⟩:=ho yb h1 hm; h2 ⟨z,hs z hz,e⟩
 have a1:=av (lO r₁ o₁) fun z hz=>List.mem_cons_of_mem _ (List.mem_cons_of_mem _ (List.mem_append_left _ hz))
 have a2:=av (lO r₂ o₂) fun z hz=>List.mem_cons_of_mem _ (List.mem_cons_of_mem _ (List.mem_append_right _ hz))
 have hown:∀ z∈((lose (lose σ.own (dW d1 a)) (dW d2 b)).filter (· != x)).filter (· != y),z≠x∧z≠y∧z∈((lose (lose σ.own (dW d1 a)) (dW d2 b)).filter (· != x)).filter (· != y):=fun z hz=>⟨bne_iff_ne.mp (List.mem_filter.mp (List.mem_filter.mp hz).1).2,bne_iff_ne.mp (List.mem_filter.mp hz).2,hz⟩
 have key:∀ s',gV Z nm env ⟨(σ.env.set x (some d1)).set y (some d2),((lose (lose σ.own (dW d1 a)) (dW d2 b)).filter (· != x)).filter (· != y)⟩ (b8 O (x::y::(dW d1 a++dW d2 b))) s'→bI Z env O (b8 O (x::y::(dW d1 a++dW d2 b))) s.heap s'.heap→R .next s':=fun s' S' st=>by
  rw[hna,f7,f7]at hR
  exact hR s' _ S' st
 exact⟨XN S4 hnd hx hy (X.kind hk1) (X.kind hk2) (kf.rd (k₂.rd r₁)) (kf.rd r₂) ok₁ ok₂ a1 a2 hown fun s' S' st'=>key s' S' (st4.trans st'),
  XN S4 hnd hy hx (X.kind hk2) (X.kind hk1) (kf.rd r₂) (kf.rd (k₂.rd r₁)) ok₂ ok₁ a2 a1 (fun z hz=>⟨(hown z hz).2.1,(hown z hz).1,hz⟩) fun s' S' st'=>key s' (List.set_comm _ _ (Ne.symm hxy)▸S') (st4.trans st')⟩
theorem AT{fuel:Nat}{x y:Nat}{n m:Str}{p1 p2 tp vp lp pos:Pos}{k k':Nat}{eb:Expr}{b:PE}(hnd:nm.Nodup)(hxy:x≠y)(hx:nm[x]? = some n)(hy:nm[y]? = some m)(hk1:iN sc n=true)
  (hk2:iN sc m=true) (hsb:aC eb=false) (hcon:(!([.List [] lp,eb].all (foldedForSure 8))&&[.List [] lp,eb].all (constantsAlone 8))=false) (hfb:SU b=true) (hfl:∀{ρ d},aD cl b ρ=some d→flat d=true) (hb:SE Z cl lvl nm sc eb b) :
  y2 Z cl lvl nm sc fuel (.Assign [.Tuple [.Name n p1,.Name m p2] k tp] (.Tuple [.List [] lp,eb] k' vp) pos) (.assign2 x y (.list .nil) b):=fun{A env σ O s fl R E}X hd hR=>b7 (o:=aD cl b σ.env) hd fun d2 hxb e=>by
 subst e
 have S:=X.S
 refine k7 X.ha.handled rfl hsb hcon ?_
 rw[arm_eval_List]
 refine wpAny_bind (wpAny_standAt (wpAny_bind (yA (cl:=cl) X.cx rfl fun vs as s₁ I₁ k₁ r₁ ok₁ o₁=>?_)))
 cases r₁
 have hsz:Z.n≤s₁.heap.objs.size:=(S.eok.kp k₁).size
 refine wpAny_newList ?_ (by decide)
 have kp₁:=k₁.trans (Kp.push Z.n s₁.heap { cls:=.type "list",data:=.seq (List.toArray ([]:List Value)) })
 refine hb (X.cx.kp kp₁ (I₁.push _ _)) hxb fun v2 as2 s₂ I₂ k₂ r₂ ok₂ o₂ h' hk'=>?_
 cases yC r₂ (hfl hxb)
 have kf:Kp Z.n s₂.heap h':=Kp.of hk'
 have hl:Sl h' s₁.heap.objs.size { cls:=.type "list",data:=.seq (List.toArray ([]:List Value)) }:=(k₂.trans kf).k _ _ (Heap.get?_push_size _ rfl) (.inl nofun)
 obtain⟨S₁,st⟩:=FL (x:=x) (es:=[]) S (I₂.full (h':=h') (tk:=s₂.toks) hk') (kp₁.trans (k₂.trans kf)) ⟨_,hl.seq rfl,nofun⟩ (k₁.none hsz (get?_ge (Nat.le_refl _))) hsz
 have rl:Rd h' (.ref s₁.heap.objs.size) (.list []) [s₁.heap.objs.size]:=.list (hl.seq rfl) ⟨rfl,rfl⟩ rfl .nil
 have ho:∀ yb∈(some x,s₁.heap.objs.size)::b8 O [x],yb.2∈[s₁.heap.objs.size]→yb.1=some x∧[s₁.heap.objs.size].head? = some yb.2:=fun yb hy hm=>(List.mem_cons.mp hy).elim (fun e=>by rw[e]; exact⟨rfl,rfl⟩) fun hy=>by
  obtain⟨o,e,_⟩:=S.eok.live yb (bQ.mp hy).1
  rw[List.mem_singleton.mp hm,k₁.none hsz (get?_ge (Nat.le_refl _))]at e
  cases e
 have own2:∀ z∈(x::(lose σ.own []).filter (· != x)).filter (· != y),z≠y∧z∈x::(lose σ.own []).filter (· != x):=fun z hz=>⟨bne_iff_ne.mp (List.mem_filter.mp hz).2,(List.mem_filter.mp hz).1⟩
 have fin:∀ s',gV Z nm env ⟨(σ.env.set x (some (.list []))).set y (some d2),(x::(lose σ.own []).filter (· != x)).filter (· != y)⟩ ((some x,s₁.heap.objs.size)::b8 O [x]) s'→bI Z env O ((some x,s₁.heap.objs.size)::b8 O [x]) s.heap s'.heap→R .next s':=fun s' S' st=>by
  have e:bP (bP σ.own (.list []) (.list .nil)) d2 b=lose σ.own []:=by
   rw[bP,if_pos (hfl hxb)]
   rfl
  rw[e,show u0 (.list .nil) b=true from hfb]at hR
  exact hR s' _ S' st
 refine⟨RK S₁ hnd hx (X.kind hk1) rl rfl ho (own':=x::(lose σ.own []).filter (· != x)) (fun z hz=>(List.mem_cons.mp hz).elim (fun e=>.inr ⟨e,_,rfl,.head _⟩) fun hz=>.inl ⟨bne_iff_ne.mp (List.mem_filter.mp hz).2,hz⟩) fun s₃ S₃ st₃ T₃ =>
   RK S₃ hnd hy (X.kind hk2) (T₃.rd S₁.eok (kf.rd r₂) nofun) ok₂ nofun (own':=(x::(lose σ.own []).filter (· != x)).filter (· != y)) (fun z hz=>.inl (own2 z hz)) fun s₄ S₄ st₄ _=>fin s₄ S₄ ((st.trans st₃).trans st₄),
  RK S₁ hnd hy (X.kind hk2) (kf.rd r₂) ok₂ nofun (own':=((lose σ.own []).filter (· != x)).filter (· != y)) (fun z hz=>.inl ⟨bne_iff_ne.mp (List.mem_filter.mp hz).2,(List.mem_filter.mp hz).1⟩) fun s₃ S₃ st₃ T₃ =>
   RK S₃ hnd hx (X.kind hk1) (T₃.rd S₁.eok rl fun _ _=>id) rfl ho (own':=(x::(lose σ.own []).filter (· != x)).filter (· != y)) (fun z hz=>(List.mem_cons.mp (own2 z hz).2).elim (fun e=>.inr ⟨e,_,rfl,.head _⟩) fun h=>.inl ⟨bne_iff_ne.mp (List.mem_filter.mp h).2,List.mem_filter.mpr ⟨h,bne_iff_ne.mpr (own2 z hz).1⟩⟩) fun s₄ S₄ st₄ _=>fin s₄ (List.set_comm _ _ (Ne.symm hxy)▸S₄) ((st.trans st₃).trans st₄)⟩
end
section
variable(fn:List Str)(nm:List Str)
mutual
noncomputable def IT(sc:Scope):PS→Stmt→Bool
 | .assign x e,st=>cP st fun ts v _=>fW ts fun t=>aW t fun n _=>nm[x]? == some n&&(iN sc n&&((!gF v||vK e)&&cS fn nm sc e v))
 | .assign2 x y a b,st=>cP st fun ts v _=>fW ts fun t=>fR t fun ns _ _=>iM ns fun t1 r=>fW r fun t2=>aW t1 fun n _=>aW t2 fun m _=>fR v fun es _ _=>iM es fun ea r=>fW r fun eb =>
   x != y&&(nm[x]? == some n&&(nm[y]? == some m&&(iN sc n&&(iN sc m&&(!aC ea&&(!aC eb&&(!(!([ea,eb].all (foldedForSure 8))&&[ea,eb].all (constantsAlone 8))&&(cS fn nm sc a ea&&cS fn nm sc b eb))))))))
 | .aug x op e,st=>dB st fun t o v _=>o==op&&aW t fun n _=>nm[x]? == some n&&(iN sc n&&(n != ("__classdict__" : Str)&&cS fn nm sc e v))
 | .app x e,st=>iT st fun c _=>dG c fun f as ks cpos=>ks.isEmpty&&bM f fun o an apos=>an==("append" : Str)&&aW o fun n _=>fW as fun v=>nm[x]? == some n&&(iN sc n&&(n != ("__debug__" : Str)&&(n != ("__classdict__" : Str)&&(apos.endLine==cpos.line&&(!aC v&&cS fn nm sc e v)))))
 | .ife c a b,st=>pE st fun t b1 b2 _=>cS fn nm sc c t&&(nJ sc a b1&&nJ sc b b2)
 | .for_ (.one x) i b,st=>nO st fun t iter body els _=>els.isEmpty&&aW t fun n _=>nm[x]? == some n&&(iN sc n&&(!iF iter&&(IU fn nm false sc i iter&&nJ sc b body)))
 | .for_ (.two _ _) _ _,_=>false
 | .while_ c b,st=>iZ st fun t body els _=>els.isEmpty&&(cS fn nm sc c t&&nJ sc b body)
 | .ret e,st=>eC st fun o _=>iB o fun v=>cS fn nm sc e v
noncomputable def nJ(sc:Scope):mG→List Stmt→Bool
 | .nil,ss=>ss.isEmpty
 | .cons p ps,ss=>iM ss fun st r=>IT sc p st&&nJ sc ps r
end
end
section
variable{Z:aE}{cl:Nat→List PyData→Option PyData}{lvl:Nat}{nm:List Str}{fn:List Str}
theorem GS(hB:fE Z)(hC:dX Z lvl fn cl){fuel:Nat}{x:Nat}{n:Str}{np pos:Pos}{value:Expr}{p:PE}{sc:Scope}(hnd:nm.Nodup)(hx:nm[x]? = some n)(hk:iN sc n=true)(hc:(!gF value||vK p)=true)(h:cS fn nm sc p value=true) :
  y2 Z cl lvl nm sc fuel (.Assign [.Name n np] value pos) (.assign x p):=by
 cases hn:vK p with
 | false=>exact u6 hnd hx hk hn (bJ (by rwa[hn,Bool.or_false]at hc)) (bE hB hC p sc _ h).1
 | true =>
  cases p with
  | list es =>
   apply rJ h; intro xs q h
   exact uP hnd hx hk (of_decide_eq_true (aA h).1) (lG hB hC es sc _ (aA h).2)
  | comp elt t i c g=>exact RC (m:=fun e=>y2 Z cl lvl nm sc fuel (.Assign [.Name _ _] e _) _) hB hC h fun C=>uQ hnd hx hk C
  | _=>cases hn
theorem A0{a b:PE}(h:u0 a b=true):a = .list .nil∧∃ d,b = .lit d∧flat d=true:=by
 obtain⟨h1,h2⟩:=aA h
 refine⟨?_,?_⟩
 ·cases a with
  | list es=>cases es with
   | nil=>rfl
   | cons _ _=>cases h1
  | _=>cases h1
 ·cases b with
  | lit d=>exact⟨d,rfl,h2⟩
  | _=>cases h2
theorem UD(hB:fE Z)(hC:dX Z lvl fn cl){fuel:Nat}{x y:Nat}{n m:Str}{p1 p2 tp vp pos:Pos}{k k':Nat}{ea eb:Expr}{a b:PE}{sc:Scope}(hnd:nm.Nodup)(hxy:x≠y)(hx:nm[x]? = some n)(hy:nm[y]? = some m)(hk1:iN sc n=true)
  (hk2:iN sc m=true) (hsa:aC ea=false) (hsb:aC eb=false) (hcon:(!([ea,eb].all (foldedForSure 8))&&[ea,eb].all (constantsAlone 8))=false) (h:cS fn nm sc a ea=true) (ha:SE Z cl lvl nm sc ea a) (hb:SE Z cl lvl nm sc eb b) :
  y2 Z cl lvl nm sc fuel (.Assign [.Tuple [.Name n p1,.Name m p2] k tp] (.Tuple [ea,eb] k' vp) pos) (.assign2 x y a b):=by
 cases hn:u0 a b with
 | false=>exact C0 hnd hxy hx hy hk1 hk2 hsa hsb hcon hn ha hb
 | true =>
  obtain⟨rfl,d,rfl,hd⟩:=A0 hn
  revert hcon
  apply rJ h; intro xs q h
  apply dU (m:=fun xs=>(!([.List xs q,eb].all (foldedForSure 8))&&[.List xs q,eb].all (constantsAlone 8))=false→y2 Z cl lvl nm sc fuel (.Assign [.Tuple [.Name n _,.Name m _] _ _] (.Tuple [.List xs q,eb] _ _) _) (.assign2 x y (.list .nil) (.lit d))) (aA h).2
  exact fun hcon=>AT hnd hxy hx hy hk1 hk2 hsb hcon (b:=.lit d) hd (fun e=>by cases e; exact hd) hb
mutual
theorem xH(hB:fE Z)(hC:dX Z lvl fn cl)(hnd:nm.Nodup)(fuel:Nat):∀(p:PS)(sc:Scope)(st:Stmt),IT fn nm sc p st=true→y2 Z cl lvl nm sc fuel st p
 | .assign x e,sc,st,h=>by
  apply dN h; intro ts v p h
  apply cK h; intro t h
  apply aM h; intro n q h
  refine aB h fun h1 h=>aB h fun h2 h=>aB h fun h3 h4=>?_
  exact GS hB hC hnd (eq_of_beq h1) h2 h3 h4
 | .assign2 x y a b,sc,st,h=>by
  apply dN h; intro ts v p h
  apply cK h; intro t h
  apply e7 h; intro ns k q h
  apply cV h; intro t1 r h
  apply cK h; intro t2 h
  apply aM h; intro n q1 h
  apply aM h; intro m q2 h
  apply e7 h; intro es k' q3 h
  apply cV h; intro ea r h
  apply cK h; intro eb h
  refine aB h fun h1 h=>aB h fun h2 h=>aB h fun h3 h=>aB h fun h4 h=>aB h fun h5 h=>aB h fun h6 h=>aB h fun h7 h=>aB h fun h8 h=>?_
  exact UD hB hC hnd (bne_iff_ne.mp h1) (eq_of_beq h2) (eq_of_beq h3) h4 h5 (bJ h6) (bJ h7) (bJ h8) (aA h).1 (bE hB hC a sc _ (aA h).1).1 (bE hB hC b sc _ (aA h).2).1
 | .aug x op e,sc,st,h=>by
  apply gP h; intro t o v p h
  refine aB h fun z h=>?_; apply cL z
  apply aM h; intro n q h
  refine aB h fun h1 h=>aB h fun h2 h=>aB h fun h3 h=>?_
  exact UH hnd (eq_of_beq h1) h2 (bne_iff_ne.mp h3) (bE hB hC e sc _ h).1
 | .app x e,sc,st,h=>by
  apply pO h; intro c p h
  apply dR h; intro f as ks cpos h
  refine aB h fun z h=>?_; apply dU z
  apply cB h; intro o an apos h
  refine aB h fun z h=>?_; apply cL z
  apply aM h; intro n q h
  apply cK h; intro v h
  refine aB h fun h1 h=>aB h fun h2 h=>aB h fun h3 h=>aB h fun h4 h=>aB h fun h5 h=>aB h fun h6 h=>?_
  exact UI hnd (eq_of_beq h1) h2 (bne_iff_ne.mp h3) (bne_iff_ne.mp h4) h5 (bJ h6) (bE hB hC e sc _ h).1
 | .ife c a b,sc,st,h=>by
  apply yG h; intro t b1 b2 p h
  refine aB h fun h1 h=>?_
  exact YI (bE hB hC c sc _ h1).2 (lF hB hC hnd fuel a sc _ (aA h).1) (lF hB hC hnd fuel b sc _ (aA h).2)
 | .for_ (.one x) i b,sc,st,h=>by
  apply zZ h; intro t iter body els p h
  refine aB h fun z h=>?_; apply dU z
  apply aM h; intro n q h
  refine aB h fun h1 h=>aB h fun h2 h=>aB h fun h3 h=>?_
  exact UG hnd (eq_of_beq h1) h2 (bJ h3) ((xI hB hC i false sc _ (aA h).1).2 rfl) (lF hB hC hnd fuel b sc _ (aA h).2)
 | .while_ c b,sc,st,h=>by
  apply uG h; intro t body els p h
  refine aB h fun z h=>?_; apply dU z
  exact LG (bE hB hC c sc _ (aA h).1).2 (lF hB hC hnd fuel b sc _ (aA h).2)
 | .ret e,sc,st,h=>by
  apply hY h; intro o p h
  apply sB h; intro v h
  exact UE (bE hB hC e sc _ h).1
theorem lF(hB:fE Z)(hC:dX Z lvl fn cl)(hnd:nm.Nodup)(fuel:Nat):∀(p:mG)(sc:Scope)(ss:List Stmt),nJ fn nm sc p ss=true→SX Z cl lvl nm sc fuel ss p
 | .nil,sc,ss,h=>by apply dU h; exact UF
 | .cons p ps,sc,ss,h=>by
  apply cV h; intro st r h
  exact OZ (xH hB hC hnd fuel p sc st (aA h).1) (lF hB hC hnd fuel ps sc r (aA h).2)
end
end
structure xB(Z:aE)(n:Str)(a:Addr)(o:Obj)(fd:FuncData)(body:List Stmt)(nm:List Str)(arity:Nat):Prop where
 name:Z.mg n=some (.ref a)
 obj:Z.h₀.get? a=some o
 cls:o.cls ≠ .none
 data:o.data = .func fd
 body:fd.body = .stmts body
 clo:fd.closure=[]
 kind:fd.scope.kind = .function
 co:fd.scope.isCoroutine=false
 gen:fd.scope.isGenerator=false
 glob:fd.globals=mainGlobals
 blt:fd.builtins=builtinsNs
 code:∃ c oc vs t,fd.code = .ref c∧Z.h₀.get? c=some oc∧oc.cls ≠ .none∧oc.data = .fields vs∧vs[1]? = some (.str fd.qualname t)
 bind:∀ vals:List Value,vals.length=arity→bindArgs fd ⟨vals,[]⟩=pure ((nm.take arity).zip vals)
 len:arity≤nm.length
 nd:nm.Nodup
 snd:(fd.scope.names.map (·.1)).Nodup
 nofree:∀ p∈fd.scope.names,p.2 ≠ .free
 params:∀ n∈nm.take arity,fd.scope.names.lookup n=some .local∨fd.scope.names.lookup n=some .cell
theorem KH{β:Type}{n:Str}{l:List (Str×β)}(h:n∉l.map (·.1)):l.lookup n=none:=by
 cases e:l.lookup n with
 | none=>rfl
 | some b=>exact absurd (List.mem_map_of_mem (f:=(·.1)) (iE e)) h
theorem eT(n:Str):∀(names:List (Str×NameKind))(N:Nat)(acc:List (Str×Addr)),(names.map (·.1)).Nodup→names.lookup n=some .cell→∃ c,(cellsFrom N names acc).lookup n=some c∧N≤c
 | (m,k)::r,N,acc,hnd,h=>by
  rw[List.map_cons,List.nodup_cons]at hnd
  have other:∀(r:List (Str×NameKind))(N:Nat)(acc:List (Str×Addr)),n∉r.map (·.1)→(cellsFrom N r acc).lookup n=acc.lookup n:=fun r=>by
   induction r with
   | nil=>exact fun _ _ _=>rfl
   | cons p r ih =>
    intro N acc hn
    obtain⟨m,k⟩:=p
    rw[List.map_cons,List.mem_cons,not_or]at hn
    unfold cellsFrom
    cases k==NameKind.cell
    ·exact ih _ _ hn.2
    ·exact(ih _ _ hn.2).trans (kK hn.1)
  unfold cellsFrom
  by_cases e:n=m
  ·subst e
   rw[kL]at h
   cases h
   exact⟨N,(other r _ _ hnd.1).trans kL,Nat.le_refl _⟩
  ·rw[kK e]at h
   cases k==NameKind.cell
   ·exact eT n r N acc hnd.2 h
   ·obtain⟨c,h1,h2⟩:=eT n r (N+1) ((m,N)::acc) hnd.2 h
    exact⟨c,h1,Nat.le_of_succ_le h2⟩
theorem t5{kindOf:Str→Option NameKind}:∀(binds:List (Str×Value))(m:Str→Option Value)(n:Str),(binds.map (·.1)).Nodup →
  bindL kindOf binds m n=if kindOf n=some .local then(match binds.lookup n with | some v=>some v | none=>m n)else m n
 | [],m,n,_=>by unfold bindL; split <;> rfl
 | (k,v)::r,m,n,hnd=>by
  rw[List.map_cons,List.nodup_cons]at hnd
  unfold bindL
  rw[t5 r _ n hnd.2]
  by_cases e:n=k
  ·subst e
   rw[KH hnd.1,kL]
   by_cases hl:kindOf n=some .local
   ·rw[if_pos hl,if_pos hl,if_pos hl]; exact if_pos rfl
   ·rw[if_neg hl,if_neg hl,if_neg hl]
  ·rw[kK e]
   have:(if kindOf k=some .local then(fun x=>if x=k then some v else m x)else m) n=m n:=by
    by_cases hl:kindOf k=some .local
    ·rw[if_pos hl]; exact if_neg e
    ·rw[if_neg hl]
   rw[this]
theorem AQ{kindOf:Str→Option NameKind}:∀(binds:List (Str×Value))(m:Str→Option Value)(n:Str),(binds.map (·.1)).Nodup →
  bindC kindOf binds m n=if kindOf n=some .local then m n else(match binds.lookup n with | some v=>some v | none=>m n)
 | [],m,n,_=>by unfold bindC; split <;> rfl
 | (k,v)::r,m,n,hnd=>by
  rw[List.map_cons,List.nodup_cons]at hnd
  unfold bindC
  rw[AQ r _ n hnd.2]
  by_cases e:n=k
  ·subst e
   rw[KH hnd.1,kL]
   by_cases hl:kindOf n=some .local
   ·rw[if_pos hl,if_pos hl,if_pos hl]
   ·rw[if_neg hl,if_neg hl,if_neg hl]; exact if_pos rfl
  ·rw[kK e]
   have:(if kindOf k=some .local then m else(fun x=>if x=k then some v else m x)) n=m n:=by
    by_cases hl:kindOf k=some .local
    ·rw[if_pos hl]
    ·rw[if_neg hl]; exact if_neg e
   rw[this]
theorem mY:∀(ns:List Str)(vs:List Value)(i:Nat)(n:Str),ns.Nodup→ns[i]? = some n→(ns.zip vs).lookup n=vs[i]?
 | m::ns,[],i,n,_,_=>rfl
 | m::ns,v::vs,0,n,_,h=>by cases h; exact kL
 | m::ns,v::vs,i+1,n,hnd,h=>by
  rw[List.nodup_cons]at hnd
  rw[List.zip_cons_cons,kK (show n≠m from fun e=>hnd.1 (e▸List.mem_of_getElem? h))]
  exact mY ns vs i n hnd.2 h
noncomputable abbrev aE.at(Z:aE)(fr:List Addr):aE:={ Z with fr:=fr }
section
variable{Z:aE}{cl:Nat→List PyData→Option PyData}{lvl:Nat}{fn:List Str}
theorem DL{n:Nat}{args:List PyData}{x:Nat}{d:PyData}(h:bC (dE n args) x=some d):args[x]? = some d:=by
 unfold bC dE at h
 rw[List.getElem?_append]at h
 by_cases hx:x<(args.map some).length
 ·rw[if_pos hx,List.getElem?_map]at h
  cases e:args[x]? with
  | none=>rw[e]at h; cases h
  | some q=>rw[e]at h; exact h
 ·rw[if_neg hx,List.getElem?_replicate]at h
  by_cases hy:x - (args.map some).length<n - args.length
  ·rw[if_pos hy]at h; cases h
  ·rw[if_neg hy]at h; cases h
noncomputable def pC(h:Heap)(as:List Addr):List (Option Nat×Addr) :=
 ((List.range h.objs.size).filter fun a=>decide (a∉as∧∃ o,h.get? a=some o∧o.cls ≠ .none)).map fun a=>(none,a)
theorem gO{h:Heap}{as:List Addr}{yb:Option Nat×Addr}:yb∈pC h as↔yb.1=none∧yb.2∉as∧∃ o,h.get? yb.2=some o∧o.cls ≠ .none:=by
 unfold pC
 rw[List.mem_map]
 constructor
 ·rintro⟨a,h1,rfl⟩
  exact⟨rfl,of_decide_eq_true (List.mem_filter.mp h1).2⟩
 ·obtain⟨y,b⟩:=yb
  rintro⟨rfl,h1,o,e,h2⟩
  exact⟨b,List.mem_filter.mpr ⟨List.mem_range.mpr (Heap.lt_size e),decide_eq_true ⟨h1,o,e,h2⟩⟩,rfl⟩
theorem uO{n:Str}{a:Addr}{o:Obj}{fd:FuncData}{body:List Stmt}{nm:List Str}{arity size:Nat}(F:xB Z n a o fd body nm arity){args:List PyData}{d:PyData}(hlen:args.length=arity)
  {A:Around} {s:Shared} {vs:List Value} {as:List Addr} {Q:Value→Shared→Prop} {E:Value→Shared→Prop} (hA:fJ Z (lvl+1) A) (hI:bB Z s) (hsz:Z.n≤s.heap.objs.size) (r:aR s.heap vs args as) (hok:cM args=true)
  (hQ:∀ v bs s',bB Z s'→Kp Z.n s.heap s'.heap→Rd s'.heap v d bs→bL d=true→(∀ a∈bs,a∈as∨∀ o,s.heap.get? a=some o→o.cls = .none)→Q v s')
  (hbody:∀(env:Env)(s₁:Shared)(R:Flow→Shared→Prop)(E':Value→Shared→Prop)(O:List (Option Nat×Addr)),env=callEnvC fd s.heap.objs.size a→Sx (Z.at (s.heap.objs.size::Z.fr)) lvl nm fd.scope (A.deeper env) env ⟨dE size args,[]⟩ O s₁→Kp Z.n s.heap s₁.heap →
   (∀ v bs s' O',bB (Z.at (s.heap.objs.size::Z.fr)) s'→Rd s'.heap v d bs→bL d=true→(∀ a,(none,a)∈O→a∉bs)→bI (Z.at (s.heap.objs.size::Z.fr)) env O O' s₁.heap s'.heap→R (.ret v) s'∧(bs=[]→d = .none→R .next s')) →
   wpAny (model Z.prog Z.w) (A.deeper env) (execs body env) R E' s₁):wpAny (model Z.prog Z.w) A (call (.ref a) vs) Q E s:=by
 have hvl:=aS r
 obtain⟨c,oc,cvs,ct,hc1,hc2,hc3,hc4,hc5⟩:=F.code
 have hcellsL:=fun m hm=>eT m fd.scope.names (s.heap.objs.size+1) [] F.snd hm
 have hbn:(((nm.take arity).zip vs).map (·.1))=nm.take arity:=List.map_fst_zip (by rw[List.length_take,hvl,hlen]; exact Nat.min_le_left _ _)
 have htnd:(nm.take arity).Nodup:=F.nd.sublist (List.take_sublist _ _)
 refine wpAny_call (codeAny_call_cells (R:=wants Q E) hA.dp.2.2 (hI.old.get_of_cls F.obj F.cls) F.data hI.lim ⟨c,oc,cvs,ct,hc1,hI.old.get_of_cls hc2 hc3,hc4,hc5⟩ F.body (F.bind vs (hvl.trans hlen)) F.clo (fun p hp=>?_) (fun s₁ X=>?_) F.co F.gen F.kind)
 ·refine(F.params p.1 (hbn▸List.mem_map_of_mem hp)).imp id fun h=>?_
  obtain⟨c,h1,_⟩:=hcellsL _ h
  exact⟨h,by rw[h1]; rfl⟩
 ·generalize henv:callEnvC fd s.heap.objs.size a=env at X ⊢
  have hkof:∀ m,env.kindOf m=fd.scope.names.lookup m:=fun m=>henv▸rfl
  have hcl:env.cells=cellsFrom (s.heap.objs.size+1) fd.scope.names []:=henv▸rfl
  have hloc:env.locals=s.heap.objs.size:=henv▸rfl
  have hnofree:∀ m,env.kindOf m≠some .free:=fun m h=>F.nofree _ (iE ((hkof m).symm.trans h)) rfl
  have hcell:∀ m,cf env m→fd.scope.names.lookup m=some .cell:=fun m h=>(hkof m).symm.trans (h.resolve_right (hnofree m))
  have hkeep:=X.toInCall.keep
  have hI₀:bB Z s₁:=by
   obtain⟨h',tk,rfl⟩:=X.toInCall.same
   exact hI.full hkeep
  have hns:=X.toInCall.ns
  have hcell1:=X.cell
  have habove:=X.above
  have hapart:=X.apart
  have hI₁:bB (Z.at (s.heap.objs.size::Z.fr)) s₁:=⟨hI₀.old,hI₀.lim,hI₀.tab,hI₀.gens,hI₀.os,fun L hL=>(List.mem_cons.mp hL).elim (fun e=>by
   obtain⟨o,es,ep,e',hdd,_⟩:=hns
   exact⟨e▸hsz,o,by rw[e,← hloc]; exact e',es,ep,hdd⟩) (hI₀.frs L)⟩
  have hback:∀{t:Shared},bB (Z.at (s.heap.objs.size::Z.fr)) t→bB Z t:=fun I=>⟨I.old,I.lim,I.tab,I.gens,I.os,fun L hL=>I.frs L (List.mem_cons_of_mem _ hL)⟩
  have oldLt:∀{b o},s.heap.get? b=some o→b≠env.locals∧∀ m c,env.cells.lookup m=some c→b≠c:=fun{b o}e=>⟨fun e'=>Nat.lt_irrefl _ (show s.heap.objs.size<s.heap.objs.size from(e'.trans hloc)▸Heap.lt_size e),fun m c hc e'=>by
   have:=habove m c (iE hc)
   exact absurd (Heap.lt_size e) (by rw[e']; exact Nat.not_lt.mpr (Nat.le_of_lt (hloc▸this)))⟩
  have hE:aH (Z.at (s.heap.objs.size::Z.fr)) nm env (dE size args) (pC s.heap as) s₁.heap:={
   kind:=henv▸F.kind
   glob:=henv▸F.glob
   blt:=henv▸F.blt
   new:=hloc▸hsz
   ns:=⟨_,hns⟩
   live:=fun yb hy=>let⟨_,_,o,e,h⟩:=gO.mp hy; ⟨o,hkeep _ _ e,h⟩
   apart:=fun yb hy=>let⟨_,_,o,e,_⟩:=gO.mp hy; ⟨(oldLt e).1,fun m c _ hc=>(oldLt e).2 m c hc⟩
   cells:=fun m hm=>let⟨c,h1,h2⟩:=hcellsL m (hcell m hm); ⟨c,_,hcl▸h1,Nat.le_trans hsz (Nat.le_of_succ_le h2),hcell1 m c (hcl▸h1)⟩
   inj:=fun m m' c _ _ cm cm'=>name_of_addr hapart (iE cm) (iE cm')
   vars:=fun x q m h1 h2 h3=>by
    have hax:=DL h1
    obtain⟨v,bs,hv,rv,hbs⟩:=eQ r hax
    have hxl:x<arity:=hlen▸(List.getElem?_eq_some_iff.mp hax).1
    have hxm:(nm.take arity)[x]? = some m:=by rw[List.getElem?_take,if_pos hxl]; exact h2
    have hlk:((nm.take arity).zip vs).lookup m=some v:=(mY _ _ x m htnd hxm).trans hv
    refine⟨v,bs,?_,rv.map fun b o _ e _=>hkeep b o e,bV.mp hok q (List.mem_of_getElem? hax),fun yb hy hm=>absurd (hbs _ hm) (gO.mp hy).2.1⟩
    rcases F.params m (List.mem_of_getElem? hxm)with hl | hl
    ·refine .inl ⟨(hkof m).trans hl,_,hns,?_⟩
     rw[t5 _ _ _ (by rw[hbn]; exact htnd),if_pos ((hkof m).trans hl),hlk]
    ·obtain⟨c,h4,_⟩:=hcellsL m hl
     refine .inr ⟨.inl ((hkof m).trans hl),c,hcl▸h4,?_⟩
     have:=hcell1 m c (hcl▸h4)
     rwa[AQ _ _ _ (by rw[hbn]; exact htnd),if_neg (show ¬env.kindOf m=some .local from fun e=>nomatch ((hkof m).symm.trans e).symm.trans hl),hlk]at this }
  have hA':fJ (Z.at (s.heap.objs.size::Z.fr)) lvl (A.deeper env):=⟨hA.handled,hA.dp.1,hA.dp.2.1,by
   obtain⟨fs,h1,h2⟩:=hA.frames
   refine⟨env::fs,by show A.frames.map _=_; rw[h1]; rfl,fun e he=>(List.mem_cons.mp he).elim (fun e'=>?_) fun he=>let⟨g1,L,g2,g3⟩:=h2 e he; ⟨g1,L,g2,List.mem_cons_of_mem _ g3⟩⟩
   rw[e',← henv]
   exact⟨by show fd.scope.kind ≠ .module; rw[F.kind]; nofun,_,rfl,List.mem_cons_self⟩⟩
  have hSc:u5 fd.scope env:=⟨fun m h=>(hkof m).trans h,fun m h=>by unfold cf at *; rw[hkof]; exact h,fun m h=>(hkof m).trans h⟩
  have noSome:∀{y b},(some y,b)∉pC s.heap as:=fun hy=>nomatch (gO.mp hy).1
  have kpOf:∀{O':List (Option Nat×Addr)}{h':Heap},bI (Z.at (s.heap.objs.size::Z.fr)) env (pC s.heap as) O' s₁.heap h'→Kp Z.n s.heap h':=fun st=>⟨fun b o e c=>st.keep b o (hkeep b o e) c (fun w=>w.elim (oldLt e).1 fun⟨m,_,hc⟩=>(oldLt e).2 m b hc rfl) fun y hy=>noSome hy⟩
  refine hbody env s₁ _ _ (pC s.heap as) henv.symm ⟨hA',hSc,fun m _=>hnofree m,hI₁,hE,(fun _ h=>absurd h List.not_mem_nil),fun y b hy=>absurd hy noSome⟩ (Kp.of hkeep) fun v bs s' O' I' r' ok' hr st=>?_
  have fin:Q v s':=hQ v bs s' (hback I') (kpOf st) r' ok' fun b hb=>by
   by_cases hba:b∈as
   ·exact .inl hba
   ·refine .inr fun o e=>?_
    by_cases hc:o.cls = .none
    ·exact hc
    ·exact absurd hb (hr b (gO.mpr ⟨rfl,hba,o,e,hc⟩))
  refine⟨fin,fun _ hd=>?_⟩
  subst hd
  cases r'
  exact fin
theorem RE(hB:fE Z)(hC:∀ fr,dX (Z.at fr) lvl fn cl){fuel:Nat}{n:Str}{a:Addr}{o:Obj}{fd:FuncData}{body:List Stmt}{nm:List Str}{pf:PF}(F:xB Z n a o fd body nm pf.arity)(hck:nJ fn nm fd.scope pf.body body=true){args:List PyData}{d:PyData}(hlen:args.length=pf.arity)
  (hd:(match b6 cl fuel pf.body ⟨dE pf.size args,[]⟩with | some (.ret d)=>some d | some (.next _)=>some .none | none=>none)=some d)
  {A:Around} {s:Shared} {vs:List Value} {as:List Addr} {Q:Value→Shared→Prop} {E:Value→Shared→Prop} (hA:fJ Z (lvl+1) A) (hI:bB Z s) (hsz:Z.n≤s.heap.objs.size) (r:aR s.heap vs args as) (hok:cM args=true)
  (hQ:∀ v bs s',bB Z s'→Kp Z.n s.heap s'.heap→Rd s'.heap v d bs→bL d=true→(∀ a∈bs,a∈as∨∀ o,s.heap.get? a=some o→o.cls = .none)→Q v s'):wpAny (model Z.prog Z.w) A (call (.ref a) vs) Q E s:=by
 refine uO (size:=pf.size) F hlen hA hI hsz r hok hQ fun env s₁ R E' O _ X _ hR=>?_
 cases hx:b6 cl fuel pf.body ⟨dE pf.size args,[]⟩with
 | none=>rw[hx]at hd; cases hd
 | some fl =>
  rw[hx]at hd
  refine lF (Z:=Z.at (s.heap.objs.size::Z.fr)) hB (hC (s.heap.objs.size::Z.fr)) F.nd fuel pf.body fd.scope body hck X hx ?_
  cases fl with
  | next σ'=>cases hd; exact fun s' O' S' st=>(hR .none [] s' O' S'.inv .none rfl (fun _ _ h=>nomatch h) st).2 rfl rfl
  | ret q=>cases hd; exact fun v bs s' O' I' r' ok' hr st=>(hR v bs s' O' I' r' ok' hr st).1
end
theorem xB.at{Z:aE}{n:Str}{a:Addr}{o:Obj}{fd:FuncData}{body:List Stmt}{nm:List Str}{k:Nat}(F:xB Z n a o fd body nm k)(fr:List Addr):xB (Z.at fr) n a o fd body nm k :=
 ⟨F.name,F.obj,F.cls,F.data,F.body,F.clo,F.kind,F.co,F.gen,F.glob,F.blt,F.code,F.bind,F.len,F.nd,F.snd,F.nofree,F.params⟩
def jG(Z:aE)(c:Nat)(n:Str)(args:List PyData)(d:PyData):Prop :=
 ∃ a o fd,Z.mg n=some (.ref a)∧Z.h₀.get? a=some o∧o.cls ≠ .none∧o.data = .func fd ∧
  ∀(A:Around)(s:Shared)(vs:List Value)(as:List Addr)(Q:Value→Shared→Prop)(E:Value→Shared→Prop),fJ Z c A→bB Z s→Z.n≤s.heap.objs.size→aR s.heap vs args as→cM args=true →
   (∀ v bs s',bB Z s'→Kp Z.n s.heap s'.heap→Rd s'.heap v d bs→bL d=true→(∀ a∈bs,a∈as∨∀ o,s.heap.get? a=some o→o.cls = .none)→Q v s')→wpAny (model Z.prog Z.w) A (call (.ref a) vs) Q E s
def CU(Z:aE)(c:Nat)(fn:List Str)(tab:Nat→Option PF)(prim:Nat→List PyData→Option PyData):Prop :=
 ∀ f n args d,fn[f]? = some n→tab f=none→prim f args=some d→jG Z c n args d
def sR(Z:aE)(fn:List Str)(tab:Nat→Option PF):Prop :=
 ∀ f n pf,fn[f]? = some n→tab f=some pf→∃ a o fd body nm,xB Z n a o fd body nm pf.arity∧nJ fn nm fd.scope pf.body body=true
theorem CR{Z:aE}{fn:List Str}{tab:Nat→Option PF}{prim:Nat→List PyData→Option PyData}{fuel c:Nat}(hB:fE Z)(hT:sR Z fn tab)(hP:∀ fr,CU (Z.at fr) c fn tab prim):∀ lvl fr,dX (Z.at fr) (lvl+c) fn (bH tab prim fuel lvl)
 | 0,_=>fun f n args d _ h=>nomatch h
 | lvl+1,fr=>fun f n args d hn h=>by
  unfold bH at h
  cases ht:tab f with
  | none =>
   rw[ht]at h
   obtain⟨a,o,fd,h1,h2,h3,h4,h5⟩:=hP fr f n args d hn ht h
   exact⟨a,o,fd,h1,h2,h3,h4,fun A s vs as Q E hA=>h5 A s vs as Q E (hA.mono (Nat.le_add_left _ _))⟩
  | some pf =>
   rw[ht]at h
   refine iO h fun hlen h=>?_
   obtain⟨a,o,fd,body,nm,F,hck⟩:=hT f n pf hn ht
   have F:=F.at fr
   exact⟨a,o,fd,F.name,F.obj,F.cls,F.data,fun A s vs as Q E hA hI hsz r hok hQ=>RE (Z:=Z.at fr) hB (fun fr'=>CR hB hT hP lvl fr') F hck hlen h (hA.mono (Nat.le_of_eq (Nat.add_right_comm _ _ _))) hI hsz r hok hQ⟩
noncomputable def pF(e:Data)(f:FuncData→Bool):Bool:=if h:e.ctorIdx=7 then Data.func.elim e h f else false
theorem P8{e:Data}{f:FuncData→Bool}{m:Data→Prop}(h:pF e f=true)(k:∀ a,f a=true→m (.func a)):m e:=by
 by_cases c:e.ctorIdx=7
 ·exact Data.func.elim (motive:=fun e=>pF e f=true→m e) e c k h
 ·rw[pF,dif_neg c]at h; cases h
theorem E8{e:Data}{f:FuncData→Bool}(h:pF e f=true):∃ a,e = .func a∧f a=true:=P8 (m:=fun e=>∃ a,e = .func a∧f a=true) h fun a h=>⟨a,rfl,h⟩
noncomputable def iU(e:Data)(f:Array Value→Bool):Bool:=if h:e.ctorIdx=9 then Data.fields.elim e h f else false
theorem HK{e:Data}{f:Array Value→Bool}{m:Data→Prop}(h:iU e f=true)(k:∀ a,f a=true→m (.fields a)):m e:=by
 by_cases c:e.ctorIdx=9
 ·exact Data.fields.elim (motive:=fun e=>iU e f=true→m e) e c k h
 ·rw[iU,dif_neg c]at h; cases h
theorem wE{e:Data}{f:Array Value→Bool}(h:iU e f=true):∃ a,e = .fields a∧f a=true:=HK (m:=fun e=>∃ a,e = .fields a∧f a=true) h fun a h=>⟨a,rfl,h⟩
noncomputable def iR(e:Value)(f:Addr→Bool):Bool:=if h:e.ctorIdx=10 then Value.ref.elim e h f else false
theorem J7{e:Value}{f:Addr→Bool}{m:Value→Prop}(h:iR e f=true)(k:∀ a,f a=true→m (.ref a)):m e:=by
 by_cases c:e.ctorIdx=10
 ·exact Value.ref.elim (motive:=fun e=>iR e f=true→m e) e c k h
 ·rw[iR,dif_neg c]at h; cases h
theorem mQ{e:Value}{f:Addr→Bool}(h:iR e f=true):∃ a,e = .ref a∧f a=true:=J7 (m:=fun e=>∃ a,e = .ref a∧f a=true) h fun a h=>⟨a,rfl,h⟩
noncomputable def sG(e:Value)(f:Str→Tok→Bool):Bool:=if h:e.ctorIdx=6 then Value.str.elim e h f else false
theorem BY{e:Value}{f:Str→Tok→Bool}{m:Value→Prop}(h:sG e f=true)(k:∀ a b,f a b=true→m (.str a b)):m e:=by
 by_cases c:e.ctorIdx=6
 ·exact Value.str.elim (motive:=fun e=>sG e f=true→m e) e c k h
 ·rw[sG,dif_neg c]at h; cases h
theorem VJ{e:Value}{f:Str→Tok→Bool}(h:sG e f=true):∃ a b,e = .str a b∧f a b=true:=BY (m:=fun e=>∃ a b,e = .str a b∧f a b=true) h fun a b h=>⟨a,b,rfl,h⟩
noncomputable def s0(e:Value)(f:String→Bool):Bool:=if h:e.ctorIdx=8 then Value.type.elim e h f else false
theorem E6{e:Value}{f:String→Bool}{m:Value→Prop}(h:s0 e f=true)(k:∀ a,f a=true→m (.type a)):m e:=by
 by_cases c:e.ctorIdx=8
 ·exact Value.type.elim (motive:=fun e=>s0 e f=true→m e) e c k h
 ·rw[s0,dif_neg c]at h; cases h
theorem Am{e:Value}{f:String→Bool}(h:s0 e f=true):∃ a,e = .type a∧f a=true:=E6 (m:=fun e=>∃ a,e = .type a∧f a=true) h fun a h=>⟨a,rfl,h⟩
noncomputable def lH(e:FuncBody)(f:List Stmt→Bool):Bool:=if h:e.ctorIdx=0 then FuncBody.stmts.elim e h f else false
theorem MI{e:FuncBody}{f:List Stmt→Bool}{m:FuncBody→Prop}(h:lH e f=true)(k:∀ a,f a=true→m (.stmts a)):m e:=by
 by_cases c:e.ctorIdx=0
 ·exact FuncBody.stmts.elim (motive:=fun e=>lH e f=true→m e) e c k h
 ·rw[lH,dif_neg c]at h; cases h
theorem zY{e:FuncBody}{f:List Stmt→Bool}(h:lH e f=true):∃ a,e = .stmts a∧f a=true:=MI (m:=fun e=>∃ a,e = .stmts a∧f a=true) h fun a h=>⟨a,rfl,h⟩
theorem eF{α:Type}{o:Option α}{f:α→Bool}(h:iB o f=true):∃ a,o=some a∧f a=true:=sB (m:=fun o=>∃ a,o=some a∧f a=true) h fun a h=>⟨a,rfl,h⟩
def fC{α:Type}(e:Option α)(f:α→Prop):Prop:=match e with | some a=>f a | none=>False
theorem nF{α:Type}{e:Option α}{f:α→Prop}(h:fC e f):∃ a,e=some a∧f a:=by
 cases e with
 | none=>exact h.elim
 | some a=>exact⟨a,rfl,h⟩
noncomputable def mK{α:Type}:List α→(α→Prop)→Prop
 | [],_=>True
 | x::l,P=>P x∧mK l P
theorem t7{α:Type}{P:α→Prop}{x:α}{l:List α}:mK l P→x∈l→P x:=by
 induction l with
 | nil=>exact fun _ h=>nomatch h
 | cons y l ih=>exact fun h hx=>(List.mem_cons.mp hx).elim (fun e=>e▸h.1) (ih h.2)
noncomputable def mT:Nat→(List Value→Prop)→Prop
 | 0,P=>P []
 | k+1,P=>∀ v,mT k fun l=>P (v::l)
theorem HZ{l:List Value}:∀{P:List Value→Prop},mT l.length P→P l:=by
 induction l with
 | nil=>exact fun{P}h=>h
 | cons v l ih=>exact fun{P}h=>ih (P:=fun l=>P (v::l)) (h v)
noncomputable def eY(v:Value):Option Addr:=if h:v.ctorIdx=10 then Value.ref.elim v h some else none
noncomputable def SS(d:Data):Option FuncData:=if h:d.ctorIdx=7 then Data.func.elim d h some else none
noncomputable def GB(K:Frag)(a:Addr):Option FuncData:=(K.lookup a).bind fun o=>SS o.data
noncomputable abbrev vO:FuncData→Args→Sem (List (Str×Value)):=PySem.W.Fast.tw9782568553167038054
theorem t4(fd:FuncData)(as:Args):bindArgs fd as=vO fd as:=congrFun (congrFun PySem.W.Fast.te9782568553167038054 fd) as
abbrev pJ:=Str×List Str×PF
noncomputable def Af(K:Frag)(a:Addr)(f:Obj→Bool):Bool:=iB (K.lookup a) fun o=>s0 o.cls (fun _=>true)&&f o
theorem TP{K:Frag}{a:Addr}{f:Obj→Bool}{G:Prop}(h:Af K a f=true)(k:∀ o,K.lookup a=some o→o.cls ≠ .none→f o=true→G):G :=
 (sB (m:=fun x=>K.lookup a=x→G) h fun o h e=>aB h fun h1 h2=>k o e (E6 (m:=(· ≠ .none)) h1 fun _ _ e=>nomatch e) h2) rfl
noncomputable def eI(K:Frag)(n:Str):Option Value:=(K.lookup mainGlobals).bind fun o=>match o.data with
 | .dict es _=>nsFind es n
 | _=>none
noncomputable def i4(K:Frag)(q:Str)(v:Value):Bool:=iR v fun c=>Af K c fun o=>iU o.data fun vs=>iB vs[1]? fun v=>sG v fun t _=>t==q
noncomputable def FX(K:Frag)(P:Scope→List Stmt→Bool)(nm:List Str)(k:Nat)(fd:FuncData):Bool :=
 ([lH fd.body fun body=>P fd.scope body,
  fd.closure.isEmpty,fd.scope.kind == .function,!fd.scope.isCoroutine,!fd.scope.isGenerator,fd.globals==mainGlobals,fd.builtins==builtinsNs,i4 K fd.qualname fd.code,
  decide (k≤nm.length),decide nm.Nodup,decide ((fd.scope.names.map (·.1)).Nodup),fd.scope.names.all fun p=>p.2 != .free,
  (nm.take k).all fun n=>fd.scope.names.lookup n==some .local||fd.scope.names.lookup n==some .cell]:List Bool).all id
noncomputable def tX(K:Frag)(P:Scope→List Stmt→Bool)(n:Str)(nm:List Str)(k:Nat):Bool :=
 iB (eI K n) fun v=>iR v fun a=>Af K a fun o=>pF o.data fun fd=>FX K P nm k fd
def mB(K:Frag)(n:Str)(nm:List Str)(k:Nat):Prop:=fC ((eI K n).bind eY) fun a=>fC (GB K a) fun fd=>mT k fun vals=>vO fd ⟨vals,[]⟩=pure ((nm.take k).zip vals)
noncomputable def yL(K:Frag)(fn:List Str)(S:pJ):Bool:=tX K (fun sc body=>nJ fn S.2.1 sc S.2.2.body body) S.1 S.2.1 S.2.2.arity
theorem eM{Z:aE}{K:Frag}(X:K.In Z.h₀){n:Str}{v:Value}(h:eI K n=some v):Z.mg n=some v :=
 aT h fun o ho h=>by
  obtain⟨o',es,ep,e',hd,_,hall⟩:=Z.hg
  cases(X _ _ ho).symm.trans e'
  rw[hd]at h
  exact(hall n).symm.trans h
theorem xQ{K:Frag}{h₀:Heap}(X:K.In h₀){q:Str}{v:Value}(h:i4 K q v=true):∃ c oc vs t,v = .ref c∧h₀.get? c=some oc∧oc.cls ≠ .none∧oc.data = .fields vs∧vs[1]? = some (.str q t) :=
 by
 obtain⟨c,e,h⟩:=mQ h
 exact TP h fun oc e1 e2 h=>by
  obtain⟨vs,e3,h⟩:=wE h
  obtain⟨_,e4,h⟩:=eF h
  obtain⟨_,t,e5,h⟩:=VJ h
  exact⟨c,oc,vs,t,e,X _ _ e1,e2,e3,e4.trans (congrArg some (e5.trans (by rw[eq_of_beq h])))⟩
theorem KL{K:Frag}{a:Addr}{o:Obj}{fd:FuncData}(h:K.lookup a=some o)(e:o.data = .func fd):GB K a=some fd:=by
 unfold GB
 rw[h]
 show SS o.data=_
 rw[e]; rfl
theorem DP{Z:aE}{K:Frag}{P:Scope→List Stmt→Bool}{n:Str}{nm:List Str}{k:Nat}{a:Addr}{o:Obj}{fd:FuncData}(X:K.In Z.h₀)(hn:Z.mg n=some (.ref a))(ho:K.lookup a=some o)(hc:o.cls ≠ .none)(hd:o.data = .func fd)(hbi:mT k fun vals=>vO fd ⟨vals,[]⟩=pure ((nm.take k).zip vals))(h:FX K P nm k fd=true) :
  ∃ body,xB Z n a o fd body nm k∧P fd.scope body=true:=by
 obtain⟨body,hb,hck⟩:=zY (aJ h 0 rfl)
 refine⟨body,{
  name:=hn
  obj:=X _ _ ho
  cls:=hc
  data:=hd
  body:=hb
  clo:=List.isEmpty_iff.mp (aJ h 1 rfl)
  kind:=eq_of_beq (aJ h 2 rfl)
  co:=bJ (aJ h 3 rfl)
  gen:=bJ (aJ h 4 rfl)
  glob:=eq_of_beq (aJ h 5 rfl)
  blt:=eq_of_beq (aJ h 6 rfl)
  code:=xQ X (aJ h 7 rfl)
  bind:=fun vals hl=>(t4 _ _).trans (HZ (P:=fun vals=>vO fd ⟨vals,[]⟩=pure ((nm.take k).zip vals)) (hl▸hbi))
  len:=of_decide_eq_true (aJ h 8 rfl)
  nd:=of_decide_eq_true (aJ h 9 rfl)
  snd:=of_decide_eq_true (aJ h 10 rfl)
  nofree:=fun p hp=>bne_iff_ne.mp (List.all_eq_true.mp (aJ h 11 rfl) p hp)
  params:=fun n hn=>(Bool.or_eq_true _ _▸List.all_eq_true.mp (aJ h 12 rfl) n hn).imp eq_of_beq eq_of_beq },hck⟩
theorem mC{Z:aE}{K:Frag}{P:Scope→List Stmt→Bool}{n:Str}{nm:List Str}{k:Nat}(X:K.In Z.h₀)(hbi:mB K n nm k)(h:tX K P n nm k=true) :
  ∃ a o fd body,xB Z n a o fd body nm k∧P fd.scope body=true :=
 by
 obtain⟨v,e,h⟩:=eF h
 obtain⟨a,rfl,h⟩:=mQ h
 obtain⟨a',ea,hbi⟩:=nF hbi
 cases(congrArg (Option.bind · eY) e).symm.trans ea
 obtain⟨fd',ef,hbi⟩:=nF hbi
 exact TP h fun o ho hc h=>by
  obtain⟨fd,hd,h⟩:=E8 h
  cases(KL ho hd).symm.trans ef
  obtain⟨body,F⟩:=DP X (eM X e) ho hc hd hbi h
  exact⟨a,o,_,body,F⟩
theorem LB{Z:aE}{K:Frag}{fn:List Str}{tab:Nat→Option PF}{specs:List pJ}(X:K.In Z.h₀)(hb:mK specs fun S=>mB K S.1 S.2.1 S.2.2.arity)(hc:specs.all (yL K fn)=true)(ht:∀ f n pf,fn[f]? = some n→tab f=some pf→∃ nm,(n,nm,pf)∈specs):sR Z fn tab:=by
 intro f n pf hf hp
 obtain⟨nm,hm⟩:=ht f n pf hf hp
 obtain⟨a,o,fd,body,F,hk⟩:=mC X (t7 (P:=fun S:pJ=>mB K S.1 S.2.1 S.2.2.arity) (x:=(n,nm,pf)) hb hm) (List.all_eq_true.mp hc _ hm)
 exact⟨a,o,fd,body,nm,F,hk⟩
theorem U1{Z:aE}{fn:List Str}{tab:Nat→Option PF}{prim:Nat→List PyData→Option PyData}{fuel lvl f c:Nat}{n:Str}{a:Addr}{args:List PyData}{d:PyData}{A:Around}{s:Shared}{vs:List Value}{as:List Addr}{E:Value→Shared→Prop}
  (hB:fE Z) (hT:sR Z fn tab) (hP:∀ fr,CU (Z.at fr) c fn tab prim) (hn:fn[f]? = some n) (hm:Z.mg n=some (.ref a)) (hA:fJ Z (lvl+c) A) (hI:bB Z s) (hsz:Z.n≤s.heap.objs.size) (r:aR s.heap vs args as) (hok:cM args=true)
  (hrun:bH tab prim fuel lvl f args=some d):wpAny (model Z.prog Z.w) A (call (.ref a) vs) (fun v s'=>bB Z s'∧∃ bs,Rd s'.heap v d bs) E s:=by
 obtain⟨a',o,fd,h1,_,_,_,h5⟩:=CR hB hT hP lvl Z.fr f n args d hn hrun
 rw[hm]at h1; cases h1
 exact h5 A s vs as _ E hA hI hsz r hok fun v bs s' I' _ r' _ _=>⟨I',bs,r'⟩
theorem HV{Z:aE}{s:Shared}(h:s.heap=Z.h₀)(hl:s.heap.NoLimit)(ht:Z.TabI s.heap)(hg:AllBare s.gens)(ho:s.os=Z.os)(hf:Z.fr=[]):bB Z s:=⟨h▸OldK.refl _,hl,ht,hg,ho,fun L hL=>by rw[hf]at hL; cases hL⟩
end Kt.Internal
end
section
open PySem PySem.W PyProof.Rows
open AutoSeq1 (wpAny_loadPart')
open MeetsSeq MeetsSeq2 MeetsSeq3 SeqRoads2
namespace Kt.Internal
open SeqAt (EqAt)
theorem u8(l:Addr)(items:Array Value)(n:Nat)(sl:Array (Option Value))(x:Value)(e:Value→Bool)(j:Nat)(hj:j<items.size)(hit:e items[j]=true)(k:Nat)(hs1:items.size≤sizeLine) :
  ∀ i:Nat,j - i=k→i≤j→(∀ m(hm:m<items.size),i≤m→m<j→e items[m]=false)→Meets (Builtin.«list.remove.loop» ⟨[.ref l,x,rawInt i],[]⟩)
   (fun A R s=>s.heap.get? l=some { cls:=.type "list",dict:=none,data:=.seq items n,slots:=sl }∧(∀ y,y∈items→EqAt A.in1 s y x (e y))∧R (.ok (.ret .none)) { s with heap:=s.heap.update l (Obj.mapSeq fun xs=>xs.eraseIdxIfInBounds j) }):=by
 induction k with
 | zero =>
  intro i hk hij hno prog w A R s h
  obtain⟨hp,g,d,tk,os⟩:=s; obtain⟨hl,he,h⟩:=h
  obtain rfl:i=j:=Nat.le_antisymm hij (Nat.le_of_sub_eq_zero hk)
  wp_walk using wpAny_loadPart' hl
  have hi:items[((i:Nat):Int).toNat]? = some items[i]:=Array.getElem?_eq_getElem hj
  rw[hi]
  refine wpAny_bind (he _ (Array.getElem_mem hj) prog w _ _ ?_)
  rw[hit]
  have hz':(items.eraseIdxIfInBounds i).size≤sizeLine+1:=Nat.le_trans (size_erased items _) (Nat.le_succ_of_le hs1)
  wp_walk using(wpAny_updateSeq hl rfl (hz:=hs1) (_hz':=hz')),wpAny_loadPart' hl
  simpa using h
 | succ k ih =>
  intro i hk hij hno prog w A R s h
  obtain⟨hp,g,d,tk,os⟩:=s; obtain⟨hl,he,h⟩:=h
  have hij':i<j:=Nat.lt_of_sub_eq_succ hk
  have hlt:i<items.size:=Nat.lt_trans hij' hj
  wp_walk using wpAny_loadPart' hl
  have hi:items[((i:Nat):Int).toNat]? = some items[i]:=Array.getElem?_eq_getElem hlt
  have hc:((i:Int)+1)=((i+1:Nat):Int):=rfl
  rw[hi]
  refine wpAny_bind (he _ (Array.getElem_mem hlt) prog w _ _ ?_)
  rw[hno i hlt (Nat.le_refl _) hij']
  wp_walk
  rw[hc]
  exact⟨plainId_quiet plain_remove_loop _,codeAny_builtin entry_remove_loop (by
   rw[Around.under_plainId plain_remove_loop _]
   exact ih (i+1) (congrArg Nat.pred hk) hij' (fun m hm h1 h2=>hno m hm (Nat.le_of_succ_le h1) h2) prog w A R _ ⟨hl,he,h⟩)⟩
theorem u9(l:Addr)(items:Array Value)(n:Nat)(sl:Array (Option Value))(x:Value)(e:Value→Bool)(j:Nat)(hj:j<items.size)
  (hit:e items[j]=true) (hno:∀ m(hm:m<items.size),m<j→e items[m]=false) (hs1:items.size≤sizeLine) :
  Meets (Builtin.«list.remove» ⟨[.ref l,x],[]⟩)
   (fun A R s=>s.heap.get? l=some { cls:=.type "list",dict:=none,data:=.seq items n,slots:=sl }∧(∀ y,y∈items→EqAt A.in1 s y x (e y))∧R (.ok (.ret .none)) { s with heap:=s.heap.update l (Obj.mapSeq fun xs=>xs.eraseIdxIfInBounds j) }):=by
 intro prog w A R s h
 obtain⟨hp,g,d,tk,os⟩:=s; obtain⟨hl,he,h⟩:=h
 wp_walk using wpAny_loadPart' hl
 exact⟨plainId_quiet plain_remove_loop _,codeAny_builtin entry_remove_loop (by
  rw[Around.under_plainId plain_remove_loop _]
  exact u8 l items n sl x e j hj hit _ hs1 0 rfl (Nat.zero_le _) (fun m hm _ h2=>hno m hm h2) prog w A R _ ⟨hl,he,h⟩)⟩
theorem m5(l:Addr)(items:Array Value)(n:Nat)(sl:Array (Option Value))(x:Value)(e:Value→Bool)(hno:∀ m(hm:m<items.size),e items[m]=false)(k:Nat) :
  ∀ i:Nat,items.size - i=k→Meets (Builtin.«list.remove.loop» ⟨[.ref l,x,rawInt i],[]⟩)
   (fun A R s=>s.heap.get? l=some { cls:=.type "list",dict:=none,data:=.seq items n,slots:=sl }∧(∀ y,y∈items→EqAt A.in1 s y x (e y))∧raisesNew "ValueError" A R s):=by
 induction k with
 | zero =>
  intro i hk prog w A R s h
  obtain⟨hp,g,d,tk,os⟩:=s; obtain⟨hl,he,h⟩:=h
  wp_walk using wpAny_loadPart' hl
  have hi:items[((i:Nat):Int).toNat]? = none:=Array.getElem?_eq_none (Nat.le_of_sub_eq_zero hk)
  rw[hi]
  wp_walk
  exact_raiseError plainExc_ValueError h.1 h.2
 | succ k ih =>
  intro i hk prog w A R s h
  obtain⟨hp,g,d,tk,os⟩:=s; obtain⟨hl,he,h⟩:=h
  have hlt:i<items.size:=Nat.lt_of_sub_eq_succ hk
  wp_walk using wpAny_loadPart' hl
  have hi:items[((i:Nat):Int).toNat]? = some items[i]:=Array.getElem?_eq_getElem hlt
  have hc:((i:Int)+1)=((i+1:Nat):Int):=rfl
  rw[hi]
  refine wpAny_bind (he _ (Array.getElem_mem hlt) prog w _ _ ?_)
  rw[hno i hlt]
  wp_walk
  rw[hc]
  exact⟨plainId_quiet plain_remove_loop _,codeAny_builtin entry_remove_loop (by
   rw[Around.under_plainId plain_remove_loop _]
   exact ih (i+1) (congrArg Nat.pred hk) prog w A R _ ⟨hl,he,h⟩)⟩
theorem m6(l:Addr)(items:Array Value)(n:Nat)(sl:Array (Option Value))(x:Value)(e:Value→Bool)(hno:∀ m(hm:m<items.size),e items[m]=false) :
  Meets (Builtin.«list.remove» ⟨[.ref l,x],[]⟩)
   (fun A R s=>s.heap.get? l=some { cls:=.type "list",dict:=none,data:=.seq items n,slots:=sl }∧(∀ y,y∈items→EqAt A.in1 s y x (e y))∧raisesNew "ValueError" A R s):=by
 intro prog w A R s h
 obtain⟨hp,g,d,tk,os⟩:=s; obtain⟨hl,he,h⟩:=h
 wp_walk using wpAny_loadPart' hl
 exact⟨plainId_quiet plain_remove_loop _,codeAny_builtin entry_remove_loop (by
  rw[Around.under_plainId plain_remove_loop _]
  exact m5 l items n sl x e hno _ 0 rfl prog w A R _ ⟨hl,he,h⟩)⟩
end Kt.Internal
end
section
open PySem PySem.W PyProof.Rows
namespace Kt.Internal
noncomputable def o6(h:Heap):List Addr→Heap
 | []=>h
 | a::r=>o6 (h.update a fun o=>{ o with data:=.freed }) r
theorem get?_hide_one (h:Heap) (a b:Addr):(h.update a fun o=>{ o with data:=.freed }).get? b=if b=a then none else h.get? b:=by
 by_cases e:b=a
 ·subst e
  rw[if_pos rfl]
  cases hx:(h.update b fun o=>{ o with data:=.freed }).get? b with
  | none=>rfl
  | some o =>
   obtain⟨e1,e2⟩:=Heap.get?_some_iff.mp hx
   cases h
   simp only[Heap.update,Array.getElem?_modify,if_true,Option.map_eq_some_iff]at e1
   obtain⟨o',_,rfl⟩:=e1
   simp[Obj.isFreed]at e2
 ·rw[if_neg e,Heap.get?_update_other _ _ (Ne.symm e)]
theorem get?_hide:∀(fr:List Addr)(h:Heap)(b:Addr),(o6 h fr).get? b=if b∈fr then none else h.get? b
 | [],h,b=>by simp[o6]
 | a::r,h,b=>by
  unfold o6
  rw[get?_hide r,get?_hide_one]
  by_cases e:b=a
  ·subst e; simp
  ·by_cases e2:b∈r <;> simp[e,e2]
theorem uA(h:Heap)(fr:List Addr):(o6 h fr).StaysIn h:=fun b o e=>by
 rw[get?_hide]at e
 split at e
 ·cases e
 ·exact e
theorem jV{Z:aE}{s:Shared}(I:bB Z s):∀{fs:List Env},(∀ env∈fs,env.scope.kind ≠ .module∧∃ L,env.frame=some L∧L∈Z.fr)→s.heap.FunFrames (o6 s.heap Z.fr) fs
 | [],_=>trivial
 | env::rest,h=>by
  obtain⟨h1,L,h2,h3⟩:=h env List.mem_cons_self
  obtain⟨_,o,e,es,ep,hd⟩:=I.frs L h3
  exact⟨h1,⟨L,o,h2,by rw[get?_hide,if_pos h3],e,fun vs h=>by rw[hd]at h; cases h⟩,jV I fun env' he=>h env' (List.mem_cons_of_mem _ he)⟩
theorem qO{Z:aE}{s:Shared}(I:bB Z s){h':Heap}(h1:(o6 s.heap Z.fr).StaysIn h')(h2:∀ b o,s.heap.get? b=some o→(∀ vs,o.data ≠ .fields vs)→∃ sl,h'.get? b=some { o with slots:=sl }):Kp Z.n s.heap h' where
 k:=fun b o e _=>by
  by_cases hb:b∈Z.fr
  ·obtain⟨_,o',e',es,ep,hd⟩:=I.frs b hb
   rw[e]at e'; cases e'
   obtain⟨sl,h⟩:=h2 b o e fun vs h=>by rw[hd]at h; cases h
   exact .inr ⟨⟨es,ep,hd⟩,sl,h⟩
  ·exact .inl (h1 b o (by rw[get?_hide,if_neg hb]; exact e))
theorem oQ{Z:aE}{s:Shared}(I:bB Z s){h':Heap}{tk:Nat}(h1:(o6 s.heap Z.fr).StaysIn h')(h2:∀ b o,s.heap.get? b=some o→(∀ vs,o.data ≠ .fields vs)→∃ sl,h'.get? b=some { o with slots:=sl }):bB Z { s with heap:=h',toks:=tk }:=by
 refine I.step (fun b o hb e=>h1 b o ?_) Z.lowC fun L hL o e hd=>?_
 ·rw[get?_hide,if_neg fun hm=>?_]
  ·exact e
  ·exact absurd hb (Nat.not_lt.mpr (I.frs b hm).1)
 ·obtain⟨es,ep,hd⟩:=hd
  obtain⟨sl,h⟩:=h2 L o e fun vs h=>by rw[hd]at h; cases h
  exact⟨_,h,es,ep,hd⟩
theorem rA{M:Model}{A:Around}{E:Value→Shared→Prop}{s:Shared}{base:Heap}{env:Env}{outer:List Env}{L e:Addr}{oe:Obj}{vs:Array Value}{a0:Value}{Q:Unit→Shared→Prop}
  (hfr:A.frames=some (env::outer)) (hl:s.heap.FunFrames base (env::outer)) (hf:env.frame=some L) (he:s.heap.get? e=some oe) (hkb:base.StaysIn s.heap) (hen:base.get? e=none) (hd:oe.data = .fields vs) (h0:vs[0]? = some a0) (h1:vs[1]? = some .none)
  (h:∀ h',Heap.NotedW base (env::outer) e oe.cls a0 (rawInt L) s.heap h'→Q () { s with heap:=h' }):wpAny M A (noteFrame (.ref e) env) Q E s:=by
 unfold noteFrame
 simp only[hf]
 refine wpAny_bind (wpAny_field he hd h1 ?_)
 rw[if_neg (by decide)]
 exact wpAny_entryW hfr hl hf he hkb hen hd (Array.getElem?_eq_some_iff.mp h1).1 h0 h
abbrev Sc:=List (Nat×Obj)
def Ct(K:Frag)(h:Heap)(a:Addr)(f:Obj→Sc→Prop)(sc:Sc):Prop:=match sc with
 | []=>match K.lookup a with | some o=>f o []| none=>False
 | p::r=>match p.1 with
  | 0=>h.get? a=some p.2∧f p.2 r
  | n+1=>match K.lookup a with | some o=>f o ((n,p.2)::r)| none=>False
noncomputable def vc{α:Type}(cf:Code→(Result→Sc→Shared→Prop)→Sc→Shared→Prop)(K:Frag)(S:Setting)(Q:α→Sc→Shared→Prop)(E:Value→Sc→Shared→Prop)(t:Sem α):Sc→Shared→Prop:=match t with
 | .pure a=>Q a
 | .raise e=>E e
 | .rule _ k=>vc cf K S Q E (k ())
 | .at _ k=>vc cf K S Q E (k ())
 | .point _ k=>vc cf K S Q E (k ())
 | .ask k=>vc cf K S Q E (k S)
 | .load a _ k=>fun sc s=>Ct K s.heap a (fun o sc=>vc cf K S Q E (k o) sc s) sc
 | .alloc o k=>fun sc s=>vc cf K S Q E (k s.heap.objs.size) sc { s with heap:=s.heap.push o }
 | .update a _ f k=>fun sc s=>((s.heap.get? a).isSome=true∧K.In (s.heap.update a f))∧vc cf K S Q E (k ()) sc { s with heap:=s.heap.update a f }
 | .fresh k=>fun sc s=>vc cf K S Q E (k s.toks) sc { s with toks:=s.toks+1 }
 | .handled own k=>bif own then fun _ _=>False else vc cf K S Q E (k none)
 | .call c hd _ _ k=>match hd with | none=>cf c (fun r=>vc cf K S Q E (k r))| some _=>fun _ _=>False
 | _=>fun _ _=>False
noncomputable def DW(D:Code→Sem Fin)(K:Frag)(S:Setting):Nat→Code→(Result→Sc→Shared→Prop)→Sc→Shared→Prop
 | 0=>fun _ _ _ _=>False
 | n+1=>fun c R=>vc (DW D K S n) K S (fun fin=>match fin with | .done f=>R (.ok f)| .again c'=>fun sc s=>c'.quiet=true∧DW D K S n c' R sc s) (fun e=>R (.error e)) (D c)
section
variable{α:Type}{M:Model}{K:Frag}
theorem V7{h:Heap}{a:Addr}{f:Obj→Sc→Prop}{sc:Sc}(X:K.In h)(x:Ct K h a f sc){g:Obj→Prop}(hg:∀ o sc,f o sc→g o):∃ o,h.get? a=some o∧g o:=by
 have key:∀ sc',(match K.lookup a with | some o=>f o sc' | none=>False)→∃ o,h.get? a=some o∧g o:=fun sc' x=>by
  cases e:K.lookup a with
  | none=>rw[e]at x; exact x.elim
  | some o=>rw[e]at x; exact⟨o,X _ _ e,hg _ _ x⟩
 cases sc with
 | nil=>exact key _ x
 | cons p r =>
  obtain⟨n,o⟩:=p
  cases n with
  | zero=>exact⟨o,x.1,hg _ _ x.2⟩
  | succ n=>exact key _ x
theorem vE{cf:Code→(Result→Sc→Shared→Prop)→Sc→Shared→Prop}{A:Around}(hcf:∀{c:Code}{R:Result→Sc→Shared→Prop}{sc:Sc}{s:Shared},K.In s.heap→cf c R sc s→codeAny M (A.mark none) c (fun r s'=>∃ sc',K.In s'.heap∧R r sc' s') s)
  {Q:α→Sc→Shared→Prop} {E:Value→Sc→Shared→Prop} (hh:A.handled=none) (t:Sem α):∀{sc:Sc}{s:Shared},K.In s.heap→vc cf K ⟨M.prog,M.w.params⟩ Q E t sc s→wpAny M A t (fun a s'=>∃ sc',K.In s'.heap∧Q a sc' s') (fun e s'=>∃ sc',K.In s'.heap∧E e sc' s') s:=by
 induction t with
 | pure a=>exact fun X x _ _ _=>⟨_,X,x⟩
 | raise e=>exact fun X x _ _ _=>⟨_,X,x⟩
 | rule _ k ih=>exact fun X x Γ p hΓ=>ih () X x Γ p hΓ
 | «at» p k ih=>exact fun X x Γ _ hΓ=>ih () X x Γ p hΓ
 | point _ k ih=>exact fun X x Γ p hΓ=>ih () X x Γ p hΓ
 | ask k ih=>exact fun X x Γ p hΓ=>ih _ X x Γ p hΓ
 | load a _ k ih=>exact fun{sc s}X x Γ p hΓ=>V7 (f:=fun o sc=>vc cf K ⟨M.prog,M.w.params⟩ Q E (k o) sc s) X x fun o _ x=>ih o X x Γ p hΓ
 | alloc o k ih=>exact fun{sc s}X x Γ p hΓ=>ih _ (X.keeps fun _ _ e=>Heap.get?_push_of_some _ e) x Γ p hΓ
 | update a _ f k ih=>exact fun X x Γ p hΓ=>⟨x.1.1,ih () x.1.2 x.2 Γ p hΓ⟩
 | fresh k ih=>exact fun{sc s}X x Γ p hΓ=>ih s.toks (s:={ s with toks:=s.toks+1 }) X x Γ p hΓ
 | handled own k ih =>
  intro sc s X x Γ p hΓ
  cases own with
  | true=>exact x.elim
  | false =>
  show Sem.wp M Γ (k Γ.handled) _ _ p _
  rw[hΓ.1,hh]
  exact ih none X x Γ p hΓ
 | call c hd g l k ih =>
  intro sc s X x Γ p hΓ
  cases hd with
  | some e=>exact x.elim
  | none =>
  exact wpCode_mono (fun r s'⟨_,X',x'⟩=>ih r X' x' Γ p hΓ) (hcf X x (Γ.enter c none p) p rfl (hΓ.enter c none p nofun))
 | _=>exact fun _ x=>x.elim
theorem gK{D:Code→Sem Fin}(hD:M.den=D)(n:Nat):∀{A:Around}{c:Code}{R:Result→Sc→Shared→Prop}{sc:Sc}{s:Shared},A.handled=none→K.In s.heap→DW D K ⟨M.prog,M.w.params⟩ n c R sc s→codeAny M A c (fun r s'=>∃ sc',K.In s'.heap∧R r sc' s') s:=by
 induction n with
 | zero=>exact fun _ _ x=>x.elim
 | succ n ih =>
  intro A c R sc s hh X x
  refine codeAny_of_tree ?_
  rw[hD]
  refine wpAny_mono (vE (A:=A.under c) (ih (by rw[Around.mark_none]; exact hh)) hh (D c) X x) (fun fin s' h=>?_) fun _ _ e=>e
  obtain⟨sc',X',h⟩:=h
  cases fin with
  | done f=>exact⟨sc',X',h⟩
  | again c'=>exact⟨h.1,ih hh X' h.2⟩
end
noncomputable abbrev D0:Code→Sem Fin:=PySem.W.Fast.tw11892475500146522536 PySem.W.Fast.tw14364793385576792824
theorem jF(prog:Program)(w:World):(model prog w).den=D0:=(congrArg denote table_eq_tree).trans ((congrFun PySem.W.Fast.te11892475500146522536 treeTable).trans (congrArg PySem.W.Fast.tw11892475500146522536 PySem.W.Fast.te14364793385576792824))
theorem JE{prog:Program}{w:World}{K:Frag}{A:Around}{c:Code}{R:Result→Shared→Prop}{s:Shared}(n:Nat)(sc:Sc)(P:Prop)(hh:A.handled=none)(X:K.In s.heap)(e:DW D0 K ⟨prog,w.params⟩ n c (fun r _ s=>R r s) sc s=P)(h:P):codeAny (model prog w) A c R s :=
 codeAny_mono (gK (M:=model prog w) (jF prog w) n hh X (e.mpr h)) fun _ _⟨_,_,x⟩=>x
theorem I0{α:Type}{prog:Program}{w:World}{K:Frag}{A:Around}{t t':Sem α}{Q:α→Shared→Prop}{E:Value→Shared→Prop}{s:Shared}(et:t=t')(n:Nat)(sc:Sc)(P:Prop)(hh:A.handled=none)(X:K.In s.heap)
  (e:vc (DW D0 K ⟨prog,w.params⟩ n) K ⟨prog,w.params⟩ (fun a _ s=>Q a s) (fun e _ s=>E e s) t' sc s=P) (h:P):wpAny (model prog w) A t Q E s:=by
 subst et
 exact wpAny_mono (vE (M:=model prog w) (gK (M:=model prog w) (jF prog w) n (by rw[Around.mark_none]; exact hh)) hh t X (e.mpr h)) (fun _ _⟨_,_,x⟩=>x) fun _ _⟨_,_,x⟩=>x
def OK(R:Result→Shared→Prop)(G:Code→Sc→Shared→Prop)(f:Fin)(sc:Sc)(s:Shared):Prop:=match f with | .done f=>R (.ok f) s | .again c=>G c sc s
abbrev Mk:=Code→Option (Addr→Addr→Value×Sc)
def Aj(M:Model)(A:Around)(K:Frag)(mk:Mk)(cf:Code→(Result→Sc→Shared→Prop)→Sc→Shared→Prop)(c:Code)(R:Result→Sc→Shared→Prop)(sc:Sc)(s:Shared):Prop:=match mk c with
 | some g=>codeAny M A c (fun r s'=>∃ x d,r = .ok (.ret (g x d).1)∧K.In s'.heap∧R (.ok (.ret (g x d).1)) (g x d).2 s') s
 | none=>cf c R sc s
noncomputable def Ap(prog:Program)(w:World)(K:Frag)(n:Nat)(c:Code)(R:Result→Shared→Prop)(G:Code→Sc→Shared→Prop):Sc→Shared→Prop :=
 vc (DW D0 K ⟨prog,w.params⟩ n) K ⟨prog,w.params⟩ (OK R G) (fun e _ s=>R (.error e) s) (D0 c)
noncomputable def Ao(prog:Program)(w:World)(A:Around)(K:Frag)(mk:Mk)(n:Nat)(c c0:Code)(R:Result→Shared→Prop):Sc→Shared→Prop :=
 Ap prog w K n c R fun c1 sc s=>c1.quiet=true∧Ap prog w K n c1 R (fun c' sc s=>(c'=c0∧c'.quiet=true) ∧
  vc (Aj (model prog w) (A.under c0) K mk (DW D0 K ⟨prog,w.params⟩ n)) K ⟨prog,w.params⟩ (OK R fun _ _ _=>False) (fun e _ s=>R (.error e) s) (D0 c0) sc s) sc s
def Ay(M:Model)(K:Frag)(mk:Mk)(cf:Code→(Result→Sc→Shared→Prop)→Sc→Shared→Prop)(c:Code)(R:Result→Sc→Shared→Prop)(sc:Sc)(s:Shared):Prop:=match mk c with
 | some g=>∀ A:Around,A.handled=none→codeAny M A c (fun r s'=>∃ x d,r = .ok (.ret (g x d).1)∧K.In s'.heap∧R (.ok (.ret (g x d).1)) (g x d).2 s') s
 | none=>cf c R sc s
noncomputable def Aq(prog:Program)(w:World)(K:Frag)(mk:Mk)(n:Nat)(fd:FuncData)(body:List Stmt)(f:Addr)(args:Args)(R:Result→Shared→Prop):Sc→Shared→Prop :=
 vc (DW D0 K ⟨prog,w.params⟩ n) K ⟨prog,w.params⟩ (fun binds=>vc (DW D0 K ⟨prog,w.params⟩ n) K ⟨prog,w.params⟩ (fun env sc s=>s.heap.NoLimit∧vc (Ay (model prog w) K mk (DW D0 K ⟨prog,w.params⟩ n)) K ⟨prog,w.params⟩ (OK R fun _ _ _=>False) (fun e _ s=>R (.error e) s) (D0 (.func body env)) sc s) (fun e _ s=>R (.error e) s)
  (PySem.W.Fast.tw11113344188204177931 fd.scope fd.globals fd.closure binds (fd.qualname ++ ".<locals>.") (some f) fd.code none fd.builtins)) (fun e _ s=>R (.error e) s) (PySem.W.Fast.tw9782568553167038054 fd args)
section
variable{prog:Program}{w:World}{K:Frag}{A:Around}{R:Result→Shared→Prop}{s:Shared}
theorem KK{M:Model}{mk:Mk}{cf:Code→(Result→Sc→Shared→Prop)→Sc→Shared→Prop}(hcf:∀{c:Code}{R:Result→Sc→Shared→Prop}{sc:Sc}{s:Shared},K.In s.heap→cf c R sc s→codeAny M A c (fun r s'=>∃ sc',K.In s'.heap∧R r sc' s') s)
  {c:Code} {R:Result→Sc→Shared→Prop} {sc:Sc} {s:Shared} (X:K.In s.heap) (x:Aj M A K mk cf c R sc s):codeAny M A c (fun r s'=>∃ sc',K.In s'.heap∧R r sc' s') s:=by
 unfold Aj at x
 cases e:mk c with
 | none=>rw[e]at x; exact hcf X x
 | some g =>
  rw[e]at x
  refine codeAny_mono x fun r s' h=>?_
  obtain⟨x,d,e,X',h⟩:=h
  exact⟨_,X',e▸h⟩
theorem AH{c:Code}{G:Code→(Result→Sc→Shared→Prop)→Sc→Shared→Prop}{sc:Sc}(hh:A.handled=none)(hG:∀{c':Code}{R:Result→Sc→Shared→Prop}{sc:Sc}{s:Shared},K.In s.heap→G c' R sc s→codeAny (model prog w) (A.under c) c' (fun r s'=>∃ sc',K.In s'.heap∧R r sc' s') s)(X:K.In s.heap)
  (h:vc G K ⟨prog,w.params⟩ (OK R fun _ _ _=>False) (fun e _ s=>R (.error e) s) (D0 c) sc s):codeAny (model prog w) A c R s:=by
 refine codeAny_of_tree ?_
 rw[jF]
 refine wpAny_mono (vE (M:=model prog w) (A:=A.under c) (by rw[Around.mark_none]; exact hG) hh (D0 c) X h) (fun fin s' h=>?_) fun _ _ x=>x.elim fun _ x=>x.2
 obtain⟨_,_,h⟩:=h
 cases fin with
 | done f=>exact h
 | again c'=>exact h.elim
theorem hop{c:Code}{n:Nat}{G:Code→Sc→Shared→Prop}{sc:Sc}(hh:A.handled=none)(hG:∀ c' sc s,K.In s.heap→G c' sc s→c'.quiet=true∧codeAny (model prog w) A c' R s)(X:K.In s.heap)(h:Ap prog w K n c R G sc s):codeAny (model prog w) A c R s:=by
 refine codeAny_of_tree ?_
 rw[jF]
 refine wpAny_mono (vE (M:=model prog w) (A:=A.under c) (by rw[Around.mark_none]; exact gK (M:=model prog w) (jF prog w) n hh) hh (D0 c) X h) (fun fin s' h=>?_) fun _ _ x=>x.elim fun _ x=>x.2
 obtain⟨sc',X',h⟩:=h
 cases fin with
 | done f=>exact h
 | again c'=>exact hG c' sc' s' X' h
theorem S0{mk:Mk}{c c0:Code}(n:Nat)(sc:Sc)(P:Prop)(hh:A.handled=none)(X:K.In s.heap)(e:Ao prog w A K mk n c c0 R sc s=P)(h:P):codeAny (model prog w) A c R s:=by
 refine hop hh (fun c1 sc s X h=>⟨h.1,hop hh (fun c' sc s X h=>⟨h.1.2,?_⟩) X h.2⟩) X (e.mpr h)
 rw[h.1.1]
 exact AH hh (KK (A:=A.under c0) (cf:=DW D0 K ⟨prog,w.params⟩ n) (gK (A:=A.under c0) (M:=model prog w) (jF prog w) n hh)) X h.2
theorem WD{A:Around}{mk:Mk}{n:Nat}{c:Code}{R:Result→Sc→Shared→Prop}{sc:Sc}{s:Shared}(hh:A.handled=none)(X:K.In s.heap)(x:Ay (model prog w) K mk (DW D0 K ⟨prog,w.params⟩ n) c R sc s):codeAny (model prog w) A c (fun r s'=>∃ sc',K.In s'.heap∧R r sc' s') s:=by
 refine KK (mk:=mk) (cf:=DW D0 K ⟨prog,w.params⟩ n) (sc:=sc) (gK (M:=model prog w) (jF prog w) n hh) X ?_
 unfold Ay at x
 unfold Aj
 cases e:mk c with
 | none=>rw[e]at x; exact x
 | some g=>rw[e]at x; exact x A hh
theorem SR{f:Addr}{args:Args}{o:Obj}{fd:FuncData}{body:List Stmt}{mk:Mk}{n:Nat}{sc:Sc}(hh:A.handled=none)(X:K.In s.heap)(hroom:A.depth<recursionLimit)
  (ho:s.heap.get? f=some o) (hd:o.data = .func fd) (hco:fd.scope.isCoroutine=false) (hgen:fd.scope.isGenerator=false) (hbody:fd.body = .stmts body) (hcd:s.heap.CodeRec fd.code fd.qualname)
  (h:Aq prog w K mk n fd body f args R sc s):codeAny (model prog w) A (.call (.ref f) args) R s:=by
 refine codeAny_call_function hroom ho hd hco hgen hbody hcd ?_
 rw[PySem.W.Fast.te11113344188204177931,congrFun (congrFun PySem.W.Fast.te9782568553167038054 fd) args]
 refine wpAny_mono (vE (M:=model prog w) (A:=A.in1) (by rw[Around.mark_none]; exact gK (M:=model prog w) (jF prog w) n hh) hh _ X h) (fun binds s' h=>?_) fun _ _ x=>x.elim fun _ x=>x.2
 obtain⟨sc',X',h⟩:=h
 refine wpAny_mono (vE (M:=model prog w) (A:=A.in1) (by rw[Around.mark_none]; exact gK (M:=model prog w) (jF prog w) n hh) hh _ X' h) (fun env s' h=>?_) fun _ _ x=>x.elim fun _ x=>x.2
 obtain⟨sc',X',h1,h⟩:=h
 exact⟨h1,AH hh (WD hh) X' h⟩
end
noncomputable def dQ:List PyData→PyData→Option (List PyData)
 | [],_=>none
 | y::ys,x=>if PyData.eqv y x then some ys else(dQ ys x).map (y :: ·)
noncomputable def d7:List PyData→List PyData→Option (List PyData)
 | [],ts=>some ts
 | x::xs,ts=>(dQ ts x).bind (d7 xs)
noncomputable def CN:List PyData→List PyData→List PyData
 | [],acc=>acc
 | x::xs,acc=>CN xs (if acc.any (fun y=>PyData.eqv y x)then acc else acc++[x])
noncomputable def Ac(xs ys:List PyData):Bool:=match d7 (CN xs []) (CN ys [])with
 | some r=>r.isEmpty
 | none=>false
theorem oN:∀{ts:List PyData}{d:PyData}{ts':List PyData},dQ ts d=some ts'→∃ j,∃ h:j<ts.length,PyData.eqv ts[j] d=true∧(∀ m(hm:m<ts.length),m<j→PyData.eqv ts[m] d=false)∧ts'=ts.eraseIdx j
 | y::ys,d,ts',h=>by
  rw[dQ]at h
  cases hy:PyData.eqv y d with
  | true =>
   rw[hy]at h
   cases h
   exact⟨0,Nat.zero_lt_succ _,hy,fun m _ hm=>absurd hm (Nat.not_lt_zero m),rfl⟩
  | false =>
   rw[hy]at h
   obtain⟨r,hr,e⟩:=Option.map_eq_some_iff.mp h
   obtain⟨j,hj,h1,h2,e'⟩:=oN hr
   exact⟨j+1,Nat.succ_lt_succ hj,h1,fun m hm hlt=>match m,hm,hlt with
    | 0,_,_=>hy
    | m+1,hm,hlt=>h2 m (Nat.lt_of_succ_lt_succ hm) (Nat.lt_of_succ_lt_succ hlt),by rw[← e,e']; rfl⟩
theorem oO:∀{ts:List PyData}{d:PyData},dQ ts d=none→∀ m(hm:m<ts.length),PyData.eqv ts[m] d=false
 | y::ys,d,h,m,hm=>by
  rw[dQ]at h
  cases hy:PyData.eqv y d with
  | true=>rw[hy]at h; cases h
  | false =>
   rw[hy]at h
   cases m with
   | zero=>exact hy
   | succ m=>exact oO (Option.map_eq_none_iff.mp h) m (Nat.lt_of_succ_lt_succ hm)
theorem wW:∀{xs:List PyData}{x:PyData},x∈xs→x.depth≤PyData.depthAll xs
 | y::ys,x,h=>by
  rw[PyData.depthAll]
  exact(List.mem_cons.mp h).elim (fun e=>e▸Nat.le_max_left _ _) fun h=>Nat.le_trans (wW h) (Nat.le_max_right _ _)
theorem MV{ρ:aL}{x:Nat}{d:PyData}(h:bC ρ x=some d):x<ρ.length:=by
 unfold bC at h
 cases e:ρ[x]? with
 | none=>rw[e]at h; cases h
 | some q=>exact(List.getElem?_eq_some_iff.mp e).1
theorem wK{ρ:aL}{x:Nat}(q:Option PyData)(h:x<ρ.length):bC (ρ.set x q) x=q:=by
 unfold bC
 rw[List.getElem?_set,if_pos rfl,if_pos h]
 cases q <;> rfl
theorem AW{h:Heap}{vs:List Value}{ds:List PyData}{as:List Addr}(j:Nat)(r:aR h vs ds as):∃ bs,aR h (vs.eraseIdx j) (ds.eraseIdx j) bs∧∀ a∈bs,a∈as :=
 aR.ind (P:=fun vs ds as=>∀ j,∃ bs,aR h (vs.eraseIdx j) (ds.eraseIdx j) bs∧∀ a∈bs,a∈as) (fun _=>⟨[],.nil,fun _ h=>h⟩) (fun r1 r2 i j=>by
  cases j with
  | zero=>exact⟨_,r2,fun a ha=>List.mem_append_right _ ha⟩
  | succ j =>
   obtain⟨bs,hb,hs⟩:=i j
   exact⟨_++bs,.cons r1 hb,fun a ha=>(List.mem_append.mp ha).elim (List.mem_append_left _) fun ha=>List.mem_append_right _ (hs a ha)⟩) r j
section
variable{Z:aE}{cl:Nat→List PyData→Option PyData}{lvl:Nat}{nm:List Str}{sc:Scope}
theorem HQ{A:Around}{env:Env}{ρ:aL}{O:List (Option Nat×Addr)}{s:Shared}{Q:Value→Shared→Prop}{E:Value→Shared→Prop}{x:Expr}{p:PE}{q pos:Pos}{xs:List PyData}(hB:fE Z)(hg:aP sc "list" = true)(hst:aC x=false)(h:SE Z cl lvl nm sc x p)
  (X:Cx Z lvl nm sc A env ρ O s) (hx:aD cl p ρ=some (.list xs))
  (hQ:∀ b bs s',bB Z s'→Kp Z.n s.heap s'.heap→Rd s'.heap (.ref b) (.list xs) (b::bs)→bL (.list xs)=true→(∀ yb∈O,yb.2∈b::bs→iP yb.1 (kB p))→s.heap.get? b=none→Z.n≤b→Q (.ref b) s') :
  wpAny (model Z.prog Z.w) A (eval (.Call (.Name "list" q) [x] [] pos) env) Q E s :=
 lU (ps:=.cons p .nil) (ds:=[.list xs]) hB X hg (v:=.type "list") (by decide) nofun nofun (aZ hst) (xZ hst h) (by rw[kF,hx]; rfl) fun vs as s₁ I₁ k₁ r₁ ok₁ o₁ =>
  mP (m:=fun vs as=>(∀ yb∈O,yb.2∈as→iP yb.1 (nB (.cons p .nil)))→wpAny _ A (call (.type "list") vs) Q E s₁) r₁ (fun v as r1 o₁=>by
   obtain⟨la,ws,n,sl,as',e,ho,rvs,e'⟩:=eE r1
   subst e e'
   have hok:bL (.list xs)=true:=(aA ok₁).1
   have hn:Z.n≤s₁.heap.objs.size:=(X.he.kp k₁).size
   have hsz:ws.size=xs.length:=Array.length_toList.symm.trans (aS rvs)
   refine call_list_seq la (.inl rfl) ho rfl rfl (fun h' c' hk hnew=>?_) (hsz▸(rZ hok).1)
   refine hQ s₁.heap.objs.size as' _ (I₁.full (tk:=s₁.toks) hk) (k₁.trans (Kp.of hk)) (.list hnew ⟨rfl,rfl⟩ rfl (rvs.map fun _ _ _ e _=>hk _ _ e)) hok (fun yb hy hm=>(List.mem_cons.mp hm).elim (fun e=>?_) fun hm=>?_) (k₁.none hn (get?_ge (Nat.le_refl _))) hn
   ·exact absurd ((X.he.kp k₁).lt yb hy) (by rw[e]; exact Nat.lt_irrefl _)
   ·obtain⟨y,h1,h2⟩:=o₁ yb hy (List.mem_cons_of_mem _ hm)
    exact⟨y,by rw[nB,nB,List.append_nil]at h1; exact h1,h2⟩) o₁
theorem LW{A:Around}{E:Value→Shared→Prop}{s:Shared}{Q:Value→Shared→Prop}{b:Addr}{items:Array Value}{c:Nat}{sl:Array (Option Value)}{ts:List PyData}{bs cs:List Addr}{v:Value}{d:PyData}(hA:fJ Z lvl A)
  (ho:s.heap.get? b=some { cls:=.type "list",dict:=none,data:=.seq items c,slots:=sl }) (r:aR s.heap items.toList ts bs) (rv:Rd s.heap v d cs) (hts:bL (.list ts)=true) (hd:bL d=true) (hdep:d.depth≤64)
  (hE:dQ ts d=none→∀ h' tk e,Heap.NewExc s.heap h' e "ValueError" → E (.ref e) { s with heap:=h',toks:=tk })
  (hQ':∀ ts' j,dQ ts d=some ts'→j<ts.length→ts'=ts.eraseIdx j→Q .none { s with heap:=s.heap.update b (Obj.mapSeq fun xs=>xs.eraseIdxIfInBounds j) }) :
  wpAny (model Z.prog Z.w) A (call (.builtin "list.remove") [.ref b,v]) Q E s:=by
 have hok:=rZ hts
 have hlen:items.size=ts.length:=Array.length_toList.symm.trans (aS r)
 obtain⟨e,he1,he2⟩:=A1 (A:=A) r rv hok.2 hd (hA.u (Nat.le_trans (Nat.min_le_right _ _) hdep))
 have hget:∀ m(hm:m<items.size),e items[m]=PyData.eqv (ts[m]'(hlen▸hm)) d:=fun m hm=>by
  have:(items.toList.map e)[m]? = _:=congrArg (·[m]?) he2
  rw[List.getElem?_map,List.getElem?_map,List.getElem?_eq_getElem (by rw[Array.length_toList]; exact hm),List.getElem?_eq_getElem (hlen▸hm)]at this
  exact Option.some.inj this
 cases hr:dQ ts d with
 | none=>exact call_meets F.slot_list_remove ⟨_,ho,rfl⟩ F.entry_list_remove (F.args_list_remove_2 _ _) (m6 b items c sl v e fun m hm=>(hget m hm).trans (oO hr m (hlen▸hm))) ⟨ho,he1,hA.handled,hE hr⟩
 | some ts' =>
  obtain⟨j,hj,h1,h2,h3⟩:=oN hr
  exact call_meets F.slot_list_remove ⟨_,ho,rfl⟩ F.entry_list_remove (F.args_list_remove_2 _ _) (u9 b items c sl v e j (hlen▸hj) ((hget j _).trans h1) (fun m hm hlt=>(hget m hm).trans (h2 m (hlen▸hm) hlt)) (hlen▸hok.1)) ⟨ho,he1,hQ' ts' j hr hj h3⟩
theorem LU{A:Around}{env:Env}{σ:dY}{O:List (Option Nat×Addr)}{s:Shared}{x4 x5:Nat}{n4 n5:Str}{p4 p5 ap cp sp:Pos}{b:Addr}{ts:List PyData}{d:PyData}{Q:Flow→Shared→Prop}{E:Value→Shared→Prop}
  (X:Sx Z lvl nm sc A env σ O s) (hnd:nm.Nodup) (hx4:nm[x4]? = some n4) (hx5:nm[x5]? = some n5) (hk4:iN sc n4=true) (hk5:iN sc n5=true) (h4d:n4≠("__debug__" : Str)∧n4≠("__classdict__" : Str)) (h5d:n5≠("__debug__" : Str)∧n5≠("__classdict__" : Str)) (hline:(ap.endLine==cp.line)=true)
  (hl4:bC σ.env x4=some (.list ts)) (hl5:bC σ.env x5=some d) (hacc:uX env s.heap n4 (.ref b)) (h3:(some x4,b)∈O) (hdep:d.depth≤64)
  (hQ:∀ ts' s',dQ ts d=some ts'→gV Z nm env ⟨σ.env.set x4 (some (.list ts')),σ.own⟩ O s'→bI Z env O O s.heap s'.heap→uX env s'.heap n4 (.ref b)→Q .next s')
  (hE:dQ ts d=none→∀ h' tk e,Heap.NewExc s.heap h' e "ValueError" → E (.ref e) { s with heap:=h',toks:=tk }) :
  wpAny (model Z.prog Z.w) A (exec (.Expr (.Call (.Attribute (.Name n4 p4) "remove" ap) [.Name n5 p5] [] cp) sp) env) Q E s:=by
 have S:=X.S
 have hint:interactive env=false:=by unfold interactive; rw[S.eok.kind]; rfl
 have hpl:aX [.Name n5 p5]:=aZ rfl
 have hv4:W6 env n4:=(X.kind hk4).elim .inl fun h=>.inr (.inl h)
 obtain⟨v4,as4,ac4,r4,ok4,_⟩:=S.eok.vars x4 _ n4 hl4 hx4 hv4
 cases ac4.uniq hacc
 obtain⟨b',items,c,sl,bs,e,hobj,ra,rfl⟩:=eE r4
 cases e
 obtain⟨v5,as5,ac5,r5,ok5,_⟩:=S.eok.vars x5 _ n5 hl5 hx5 ((X.kind hk5).elim .inl fun h=>.inr (.inl h))
 refine wpAny_Expr (wpAny_Call_method_lateS (aQ rfl _ _ _) (jE hpl (Nat.le_of_ble_eq_true rfl)) hline ?_) hint rfl
 refine wpAny_Name (ac4.load S.eok.kind h4d.2 ?_) (beq_eq_false_iff_ne.mpr h4d.1)
 refine⟨"list", "list.remove",F.plainAttrs_list,F.slot_list_remove,F.type_list_remove,⟨_,hobj,rfl⟩,fun a e=>by cases e; exact⟨_,hobj,rfl⟩,?_⟩
 refine aV nofun (hpl.1 env cp) (bW (hpl.2.1 nofun env cp) ?_)
 refine Calls.spliced_cons (wpAny_Name (ac5.load S.eok.kind h5d.2 (Calls.spliced_nil ?_)) (beq_eq_false_iff_ne.mpr h5d.1))
 refine LW X.ha hobj ra r5 ok4 ok5 hdep hE fun ts' j hr hj hts'=>?_
 have hlen:items.size=ts.length:=Array.length_toList.symm.trans (aS ra)
 have herase:(items.eraseIdxIfInBounds j).toList=items.toList.eraseIdx j:=by
  unfold Array.eraseIdxIfInBounds
  rw[dif_pos (hlen▸hj),Array.toList_eraseIdx]
 obtain⟨bs',rb,hsub⟩:=AW j ra
 subst hts'
 obtain⟨S',st',ac',_⟩:=uE (items':=items.eraseIdxIfInBounds j) S hnd hx4 hl4 hv4 hacc h3 hobj ra (Heap.SameBut.update s.heap b _) (Heap.get?_update_self (Obj.mapSeq fun xs=>xs.eraseIdxIfInBounds j) hobj rfl) (by rw[herase]; exact rb) (fun h=>r4.apart rfl (hsub _ h)) (fun a ha=>.inl (hsub a ha))
  (y5 (Nat.le_trans (List.length_eraseIdx_le ..) (rZ ok4).1) (bV.mpr fun q hq=>bV.mp (rZ ok4).2 q (List.mem_of_mem_eraseIdx hq)))
 exact hQ _ _ hr S' st' ac'
theorem LV{A:Around}{env:Env}{σ:dY}{O:List (Option Nat×Addr)}{s:Shared}{x2 x4 x5:Nat}{n4 n5:Str}{p4 p5 p5' ap cp sp fpos:Pos}{iter:Expr}{b:Addr}{xs ts:List PyData}{R:Flow→Shared→Prop}{E:Value→Shared→Prop}
  (X:Sx Z lvl nm sc A env σ O s) (hnd:nm.Nodup) (hi:SI Z cl lvl nm sc iter (.of (.var x2))) (hset:iF iter=false) (hxs:uY cl (.of (.var x2)) σ.env=some xs)
  (h24:x2≠x4) (h45:x4≠x5) (hx4:nm[x4]? = some n4) (hx5:nm[x5]? = some n5) (hk4:iN sc n4=true) (hk5:iN sc n5=true) (h4d:n4≠("__debug__" : Str)∧n4≠("__classdict__" : Str)) (h5d:n5≠("__debug__" : Str)∧n5≠("__classdict__" : Str)) (hline:(ap.endLine==cp.line)=true)
  (hl4:bC σ.env x4=some (.list ts)) (hacc:uX env s.heap n4 (.ref b)) (h3:(some x4,b)∈O) (hdep:PyData.depthAll xs≤64) (hlen5:x5<σ.env.length)
  (hQ:∀ r s' σ' O',d7 xs ts=some r→bC σ'.env x4=some (.list r)→gV Z nm env σ' O' s'→bI Z env O O' s.heap s'.heap→R .next s')
  (hE:d7 xs ts=none→∀ s₀ σ₀ O₀ O',gV Z nm env σ₀ O₀ s₀→bI Z env O O' s.heap s₀.heap→∀ h' tk e,Heap.NewExc s₀.heap h' e "ValueError" → notedBy (model Z.prog Z.w) A env (fun x s'=>cameBackBy (model Z.prog Z.w) A env E x s') (.ref e) { s₀ with heap:=h',toks:=tk }) :
  wpAny (model Z.prog Z.w) A (exec (.For (.Name n5 p5) iter [.Expr (.Call (.Attribute (.Name n4 p4) "remove" ap) [.Name n5 p5'] [] cp) sp] [] fpos) env) R E s:=by
 refine FU (fun k σ' O' s'=>∃ ts',d7 (xs.drop k) ts'=d7 xs ts∧bC σ'.env x4=some (.list ts')∧x5<σ'.env.length∧(some x4,b)∈O'∧uX env s'.heap n4 (.ref b)) X hnd hx5 hk5 hset hi hxs
  (fun I s₁ I₁ k₁=>⟨ts,rfl,hl4,hlen5,(dL h3).resolve_right fun⟨z,hz,e⟩=>?_,hacc.kp k₁ X.S.eok.new fun c hc hk=>(X.S.eok.cellAt hk hc).1⟩)
  (fun k σ' O' s₀ s₂ I⟨ts',h1,h2,h3,h4,h5⟩_ _ _ _ T=>⟨ts',h1,h2,h3,h4,T.acc _ _ nofun h5⟩) (fun k d σ' O' s₂ s₃ hdk okd⟨ts',h1,h2,h3,h4,h5⟩X₃ _ T₃ out _=>?_) fun σ' O' s₀ s'⟨ts',h1,h2,_⟩S' st=>?_
 ·cases e
  exact h24 (List.mem_singleton.mp hz).symm
 ·obtain⟨hlt,e⟩:=List.getElem?_eq_some_iff.mp hdk
  rw[List.drop_eq_getElem_cons hlt,e,d7]at h1
  have h4':(some x4,b)∈b8 O' [x5]:=bQ.mpr ⟨h4,fun⟨z,hz,e⟩=>by cases e; exact h45 (List.mem_singleton.mp hz)⟩
  have hl4':bC (σ'.env.set x5 (some d)) x4=some (.list ts'):=(AE _ (Ne.symm h45)).trans h2
  refine wpAny_execs_cons (LU X₃ hnd hx4 hx5 hk4 hk5 h4d h5d hline hl4' (wK _ h3) (T₃.other hx5 (fun e=>h45 (iW hnd hx4 (e▸hx5))) h5) h4' (Nat.le_trans (wW (List.mem_of_getElem? hdk)) hdep) (fun ts'' s₄ hr S₄ st₄ ac₄=>?_) fun hr h' tk e' hx=>?_)
  ·rw[hr]at h1
   exact wpAny_execs_nil ⟨_,_,⟨ts'',h1,wK _ (MV hl4'),by rw[List.length_set,List.length_set]; exact h3,h4',ac₄⟩,S₄,st₄⟩
  ·rw[hr]at h1
   exact hE h1.symm s₃ _ _ _ X₃.S (out _ _ bI.refl) h' tk e' hx
 ·rw[List.drop_length]at h1
  exact hQ ts' s' σ' _ h1.symm h2 S' st
theorem uR{M:Model}{A:Around}{E:Value→Shared→Prop}{s:Shared}{base:Heap}{l:List Env}{e L:Addr}{cls a0:Value}{Q:Unit→Shared→Prop}(hh:Heap.HeldW base l e cls a0 L s.heap)
  (hQ:∀ h',Heap.HeldW base l e cls a0 L h'→s.heap.UpToSlots h'→Q () { s with heap:=h' }):wpAny M A (setFlight (.ref e) (some L)) Q E s:=by
 obtain⟨hkb,hen,hl,ht⟩:=hh
 obtain⟨oe,vs,T,oT,ts,he,hcls,hd,h1,hnT,hTe,hT,hdT,h3⟩:=ht
 have hsz3:3<ts.size:=(Array.getElem?_eq_some_iff.mp h3).1
 have other:∀ b,b≠T→(s.heap.update T (Obj.mapFields (·.setIfInBounds 3 (rawInt L)))).get? b=s.heap.get? b:=fun b hb=>Heap.get?_update_other _ _ (Ne.symm hb)
 have noRecord:∀ b o,s.heap.get? b=some o→(∀ vs,o.data ≠ .fields vs)→b≠T:=fun b o hb hnf q=>by
  rw[q,hT]at hb; injection hb with hb; subst hb; exact hnf ts hdT
 unfold setFlight
 refine wpAny_bind (wpAny_field he hd h1 ?_)
 rw[if_pos (show(Value.ref T != Value.none)=true from by simp)]
 refine wpAny_setField hT hdT hsz3 (hQ _ ⟨fun b o hbo=>(other b fun q=>by rw[q,hnT]at hbo; cases hbo).trans (hkb b o hbo),hen,
  hl.of_keeps fun b o hb hnf=>⟨o,(other b (noRecord b o hb hnf)).trans hb,rfl⟩,?_⟩ fun b o hb hnf=>⟨o.slots,(other b (noRecord b o hb hnf)).trans hb⟩)
 exact⟨oe,vs,T,_,_,(other e (Ne.symm hTe)).trans he,hcls,hd,h1,hnT,hTe,Heap.get?_update_self _ hT (Obj.isFreed_of_fields (Obj.data_mapFields hdT _)),Obj.data_mapFields hdT _,by simp[hsz3]⟩
theorem vD{prog:Program}{w:World}{A:Around}{E:Value→Shared→Prop}{s:Shared}{base:Heap}{l:List Env}{env:Env}{e L:Addr}{cls a0:Value}(hf:env.frame=some L)(hh:Heap.HeldW base l e cls a0 L s.heap)
  (hQ:∀ h',Heap.HeldW base l e cls a0 L h'→s.heap.UpToSlots h'→E (.ref e) { s with heap:=h' }):cameBackBy (model prog w) A env E (.ref e) s:=by
 have hh0:=hh
 obtain⟨hkb,hen,hl,ht⟩:=hh
 obtain⟨oe,vs,T,oT,ts,he,hcls,hd,h1,_⟩:=ht
 unfold cameBackBy
 refine wpAny_bind (wpAny_field he hd h1 ?_)
 rw[if_neg (by simp)]
 rw[hf]
 exact uR hh0 hQ
theorem y0{A:Around}{E:Value→Shared→Prop}{R:Flow→Shared→Prop}{env:Env}{outer:List Env}{σ:dY}{O:List (Option Nat×Addr)}{s:Shared}{e:Addr}{h₁:Heap}{tk:Nat}{p1 p2 p3 p4:Pos}{k:Nat}(X:Sx Z lvl nm sc A env σ O s)
  (hfr:A.frames=some (env::outer)) (hf:env.frame=some env.locals) (hg:aP sc "ValueError" = true) (hV:Z.mg "ValueError" = none∧Z.mb "ValueError" = some (.type "ValueError")) (hx:Heap.NewExc s.heap h₁ e "ValueError")
  (hR:∀ s',bB Z s'→Kp Z.n s.heap s'.heap→R (.ret (.bool false)) s') :
  notedBy (model Z.prog Z.w) A env (fun x s'=>cameBackBy (model Z.prog Z.w) A env (fun x s₁=>wpAny (model Z.prog Z.w) A (noteFrame x env) (fun _ s₂=>wpAny (model Z.prog Z.w) A (setFlight x none) (fun _ s₃ =>
   wpAny (model Z.prog Z.w) A (handleBy x env [.ExceptHandler (some (.Name "ValueError" p1)) none [.Return (some (.Constant (.bool false) k p2)) p3] p4]) R E s₃) E s₂) E s₁) x s') (.ref e) { s with heap:=h₁,toks:=tk }:=by
 have hI:=X.S.inv
 obtain⟨fs,hfs,hfs2⟩:=X.ha.frames
 cases hfr.symm.trans hfs
 have hl1:h₁.FunFrames (o6 s.heap Z.fr) (env::outer):=(jV hI hfs2).of_keeps fun b o hb _=>⟨o,hx.keeps b o hb,rfl⟩
 have hkb:(o6 s.heap Z.fr).StaysIn h₁:=fun b o hb=>hx.keeps b o (uA s.heap Z.fr b o hb)
 have hen:(o6 s.heap Z.fr).get? e=none:=by
  rw[get?_hide,hx.new]
  split <;> rfl
 obtain⟨ob,t,he,hc,hd⟩:=hx.there
 generalize hbe:o6 s.heap Z.fr=base at hl1 hkb hen
 have fin:∀{h':Heap},base.StaysIn h'→s.heap.UpToSlots h'→bB Z { s with heap:=h',toks:=tk }∧Kp Z.n s.heap h':=fun h1 h2=>⟨oQ hI (hbe▸h1) h2,qO hI (hbe▸h1) h2⟩
 refine rA (s:={ s with heap:=h₁,toks:=tk }) hfr hl1 hf he hkb hen hd rfl rfl fun h₂⟨k1,k2,k3,k4⟩=>?_
 have up12:s.heap.UpToSlots h₂:=(Heap.UpToSlots.of_keeps hx.keeps).trans k4
 refine vD (s:={ s with heap:=h₂,toks:=tk }) hf ⟨k1,hen,k2,k3⟩ fun h₃ hh₃ up₃=>?_
 refine wpAny_noteFrame_againW hf hh₃.2.2.2 (wpAny_landsW hh₃ fun h₄ hh₄ up₄=>?_)
 have up14:s.heap.UpToSlots h₄:=(up12.trans up₃).trans up₄
 have I₄:=(fin hh₄.1 up14).1
 refine wpAny_handleBy_builtin (X := "ValueError") (T := "ValueError") (b:=true) F.isExc_ValueError F.notTuple_ValueError F.self_ValueError ?_
 obtain⟨g1,g2⟩:=fT hg
 refine Calls.Name_function_global X.S.eok.kind (X.hs.2.2 _ g1) (Calls.loadGlobal_builtin (mg:=Z.mg) (mb:=Z.mb) (by rw[X.S.eok.glob]; exact I₄.glob) hV.1 (by rw[X.S.eok.blt]; exact I₄.bltn) hV.2 ?_) g2
 obtain⟨ob',hob',hcls'⟩:=hh₄.2.2.2.at.there
 refine⟨rfl,⟨ob',hob',hcls'.trans hc⟩,?_⟩
 rw[if_pos rfl]
 refine wpAny_setFlight_noneW hh₄.1 hh₄.2.2.1 hh₄.2.2.2.at fun h₅ g1 g2 g3 g4=>?_
 have f5:=fin g1 (up14.trans fun b o hb hn=>⟨o.slots,g4 b o hb hn⟩)
 refine wpAny_execs_cons (wpAny_Return_some ?_)
 rw[arm_eval_Constant]
 exact wpAny_pure (hR _ f5.1 f5.2)
end
noncomputable def AP(fn nm:List Str)(sc:Scope)(d:Nat)(s1 s2 s5:Stmt)(x3 it:Expr)(l t e t2 e2 rm ve:Str)(ap cp:Pos):List Bool :=
 [nm.length==6,decide nm.Nodup,IT fn nm sc (.assign 2 (.call d (.cons (.var 0) .nil))) s1,IT fn nm sc (.assign 3 (.call d (.cons (.var 1) .nil))) s2,l==("list" : Str),aP sc "list",!aC x3,cS fn nm sc (.var 3) x3,
  nm[4]? == some t,nm[5]? == some e,t2==t,e2==e,rm==("remove" : Str),ve==("ValueError" : Str),aP sc "ValueError",iN sc t,iN sc e,t != ("__debug__" : Str),t != ("__classdict__" : Str),e != ("__debug__" : Str),e != ("__classdict__" : Str),
  ap.endLine==cp.line,!iF it,cS fn nm sc (.var 2) it,IT fn nm sc (.ret (.nt (.var 4))) s5]
noncomputable def AJ(e:Expr):Bool:=bR e fun c _ _=>match c with | .bool b=>!b | _=>false
noncomputable def yR(fn:List Str)(nm:List Str)(sc:Scope)(d:Nat)(body:List Stmt):Bool :=
 iM body fun s1 r=>iM r fun s2 r=>iM r fun s3 r=>iM r fun s4 r=>fW r fun s5=>cP s3 fun ts v _=>fW ts fun tn=>aW tn fun t _=>dG v fun lf as ks _=>ks.isEmpty&&(aW lf fun l _=>fW as fun x3 =>
 rI s4 fun tb th te tf _=>te.isEmpty&&(tf.isEmpty&&(fW tb fun fo=>nO fo fun en it fb fe _=>fe.isEmpty&&(aW en fun e _=>fW fb fun fs=>iT fs fun fc _=>dG fc fun at_ fas fks cp=>fks.isEmpty&&(bM at_ fun te rm ap=>aW te fun t2 _=>fW fas fun ee=>aW ee fun e2 _ =>
 fW th fun eh=>XO eh fun ty en hb _=>en.isNone&&(iB ty fun ty=>aW ty fun ve _=>fW hb fun rs=>eC rs fun rv _=>iB rv fun rv=>AJ rv&&(AP fn nm sc d s1 s2 s5 x3 it l t e t2 e2 rm ve ap cp).all id))))))
inductive S9(fn nm:List Str)(sc:Scope)(d:Nat):List Stmt→Prop
 | mk {s1 s2 s5:Stmt} {x3 it:Expr} {l t e t2 e2 rm ve:Str} {ap cp p1 p2 p3 p4 p5 p6 p7 p8 p9 p10 p11 p12 p13 p14:Pos} {k:Nat} (h:(AP fn nm sc d s1 s2 s5 x3 it l t e t2 e2 rm ve ap cp).all id=true) :
  S9 fn nm sc d [s1,s2,.Assign [.Name t p1] (.Call (.Name l p2) [x3] [] p3) p4,
   .Try [.For (.Name e p5) it [.Expr (.Call (.Attribute (.Name t2 p6) rm ap) [.Name e2 p7] [] cp) p8] [] p9] [.ExceptHandler (some (.Name ve p10)) none [.Return (some (.Constant (.bool false) k p11)) p12] p13] [] [] p14,s5]
theorem M0{e:Expr}{m:Expr→Prop}(h:AJ e=true)(k:∀ a p,m (.Constant (.bool false) a p)):m e:=cD h fun c a p h=>by
 cases c with
 | bool b=>cases b with
  | false=>exact k a p
  | true=>cases h
 | _=>cases h
theorem NM{fn nm:List Str}{sc:Scope}{d:Nat}{body:List Stmt}(h:yR fn nm sc d body=true):S9 fn nm sc d body:=by
 apply cV h; intro _ _ h; apply cV h; intro _ _ h; apply cV h; intro _ _ h; apply cV h; intro _ _ h; apply cK h; intro _ h; apply dN h; intro _ _ _ h; apply cK h; intro _ h; apply aM h; intro _ _ h
 apply dR h; intro _ _ _ _ h; refine aB h fun z h=>?_; apply dU z; apply aM h; intro _ _ h; apply cK h; intro _ h
 apply MJ h; intro _ _ _ _ _ h; refine aB h fun z h=>?_; apply dU z; refine aB h fun z h=>?_; apply dU z; apply cK h; intro _ h; apply zZ h; intro _ _ _ _ _ h; refine aB h fun z h=>?_; apply dU z; apply aM h; intro _ _ h; apply cK h; intro _ h
 apply pO h; intro _ _ h; apply dR h; intro _ _ _ _ h; refine aB h fun z h=>?_; apply dU z; apply cB h; intro _ _ _ h; apply aM h; intro _ _ h; apply cK h; intro _ h; apply aM h; intro _ _ h
 apply cK h; intro _ h; apply Y2 h; intro _ _ _ _ h; refine aB h fun z h=>?_; apply sJ z; apply sB h; intro _ h; apply aM h; intro _ _ h; apply cK h; intro _ h; apply hY h; intro _ _ h; apply sB h; intro _ h
 refine aB h fun z h=>?_; apply M0 z; intro _ _
 exact .mk h
section
variable{Z:aE}{cl:Nat→List PyData→Option PyData}{lvl:Nat}{fn:List Str}
noncomputable def iG(xs' ys':List PyData):Bool:=match d7 xs' ys' with | some r=>r.isEmpty | none=>false
theorem yZ(hB:fE Z)(hV:Z.mg "ValueError" = none∧Z.mb "ValueError" = some (.type "ValueError"))(hC:∀ fr,dX (Z.at fr) lvl fn cl){d:Nat}{n:Str}{a:Addr}{o:Obj}{fd:FuncData}{body:List Stmt}{nm:List Str}(F:xB Z n a o fd body nm 2)(hck:yR fn nm fd.scope d body=true){xs ys xs' ys':List PyData}
  (hx:cl d [.list xs]=some (.list xs')) (hy:cl d [.list ys]=some (.list ys')) (hdep:PyData.depthAll xs'≤64)
  {A:Around} {s:Shared} {vs:List Value} {as:List Addr} {Q:Value→Shared→Prop} {E:Value→Shared→Prop} (hA:fJ Z (lvl+1) A) (hI:bB Z s) (hsz:Z.n≤s.heap.objs.size) (r:aR s.heap vs [.list xs,.list ys] as) (hok:cM [.list xs,.list ys]=true)
  (hQ:∀ v bs s',bB Z s'→Kp Z.n s.heap s'.heap→Rd s'.heap v (.bool (iG xs' ys')) bs→bL (.bool (iG xs' ys'))=true→(∀ a∈bs,a∈as∨∀ o,s.heap.get? a=some o→o.cls = .none)→Q v s') :
  wpAny (model Z.prog Z.w) A (call (.ref a) vs) Q E s:=by
 refine uO (size:=6) F (args:=[.list xs,.list ys]) rfl hA hI hsz r hok hQ fun env s₁ R E' O henv X _ hR=>?_
 obtain⟨outer,hout⟩:∃ outer,(A.deeper env).frames=some (env::outer):=by
  obtain⟨fs,h1,_⟩:=hA.frames
  exact⟨fs,by show A.frames.map _=_; rw[h1]; rfl⟩
 have hfm:env.frame=some env.locals:=by rw[henv]; rfl
 clear henv
 generalize s.heap.objs.size::Z.fr=fr at X hR
 have hB':fE (Z.at fr):=hB
 have hC':=hC fr
 obtain⟨hc⟩:=NM hck
 rename_i s1 s2 s5 x3 it l t e t2 e2 rm ve ap cp p1 p2 p3 p4 p5 p6 p7 p8 p9 p10 p11 p12 p13 p14 k1
 have c2:nm.Nodup:=of_decide_eq_true (aJ hc 1 rfl)
 cases eq_of_beq (aJ hc 4 rfl)
 cases eq_of_beq (aJ hc 10 rfl)
 cases eq_of_beq (aJ hc 11 rfl)
 cases eq_of_beq (aJ hc 12 rfl)
 cases eq_of_beq (aJ hc 13 rfl)
 have c9:nm[4]? = some t:=eq_of_beq (aJ hc 8 rfl)
 have c10:nm[5]? = some e:=eq_of_beq (aJ hc 9 rfl)
 have c16:iN fd.scope t=true:=aJ hc 15 rfl
 have c17:iN fd.scope e=true:=aJ hc 16 rfl
 have hi0:dE 6 [.list xs,.list ys]=[some (.list xs),some (.list ys),none,none,none,none]:=rfl
 rw[hi0]at X
 refine wpAny_execs_cons (xH hB' hC' c2 0 _ _ _ (aJ hc 2 rfl) X (fl:=.next ⟨[some (.list xs),some (.list ys),some (.list xs'),none,none,none],[]⟩) (congrArg (Option.map _) hx) fun s₂ O₂ S₂ st₂=>?_)
 have X₂:=X.go S₂
 refine wpAny_execs_cons (xH hB' hC' c2 0 _ _ _ (aJ hc 3 rfl) X₂ (fl:=.next ⟨[some (.list xs),some (.list ys),some (.list xs'),some (.list ys'),none,none],[]⟩) (congrArg (Option.map _) hy) fun s₃ O₃ S₃ st₃=>?_)
 have X₃:=X.go S₃
 refine wpAny_execs_cons (wpAny_Assign_Name (HQ (Z:=Z.at fr) (cl:=cl) (p:=.var 3) (xs:=ys') hB' (aJ hc 5 rfl) (bJ (aJ hc 6 rfl)) (bE hB' hC' _ _ _ (aJ hc 7 rfl)).1 X₃.cx rfl fun b bs s₄ I₄ k₄ r₄ ok₄ ho hbnone hbn=>?_) rfl)
 refine rF (Z:=Z.at fr) S₃ c2 c9 (X₃.kind c16) I₄ k₄ r₄ ok₄ hbnone hbn ho fun s₅ S₅ st₅ T₅=>?_
 obtain⟨nb,b',g1,g2,g3⟩:=S₅.own 4 List.mem_cons_self
 cases c9.symm.trans g1
 have stAll:=((st₂.trans st₃).trans st₅)
 refine wpAny_execs_cons (wpAny_Try_except (wpAny_execs_cons (LV (Z:=Z.at fr) (cl:=cl) (x2:=2) (x4:=4) (x5:=5) (X.go S₅) c2 (RZ (bE hB' hC' _ _ _ (aJ hc 23 rfl)).1) (bJ (aJ hc 22 rfl)) (xs:=xs') rfl (by decide) (by decide) c9 c10 c16 c17 ⟨bne_iff_ne.mp (aJ hc 17 rfl),bne_iff_ne.mp (aJ hc 18 rfl)⟩ ⟨bne_iff_ne.mp (aJ hc 19 rfl),bne_iff_ne.mp (aJ hc 20 rfl)⟩ (aJ hc 21 rfl)
  rfl g2 g3 hdep (Nat.le_of_ble_eq_true rfl) (fun rr s₆ σ' O₆ hr hl4 S₆ st₆=>wpAny_execs_nil (wpAny_execs_nil ?_)) fun hr s₀ σ₀ O₀ O' S₀ st h' tk e hx=>?_)))
 ·have he:iG xs' ys'=rr.isEmpty:=by unfold iG; rw[hr]
  refine wpAny_execs_cons (xH hB' hC' c2 0 _ _ _ (aJ hc 24 rfl) (X.go S₆) (fl:=.ret (.bool rr.isEmpty)) ?_ fun v as' s₇ O₇ I₇ r₇ ok₇ hr₇ st₇=>?_)
  ·show((bC σ'.env 4).bind _).map Fl.ret=_
   rw[hl4]
   cases rr <;> rfl
  ·exact(hR v as' s₇ O₇ I₇ (by rw[he]; exact r₇) rfl (fun a ha=>hr₇ a (((stAll.trans st₆).resv a).mpr ha)) ((stAll.trans st₆).trans st₇)).1
 ·have he:iG xs' ys'=false:=by unfold iG; rw[hr]
  exact y0 (Z:=Z.at fr) (X.go S₀) hout hfm (aJ hc 14 rfl) hV hx fun s' I' k'=>(hR _ [] s' _ I' (by rw[he]; exact .bool false) rfl nofun ((stAll.trans st).trans (bI.kp k'))).1
end
set_option genCtorIdx false in
inductive OV where
 | d (x:PyData)
 | o (k:Nat)
 | ty (T:String)
set_option genCtorIdx false in
inductive FO where
 | inst (c:Nat)
 | dict (es:List (Str×OV))
 | list (xs:List OV)
 | meth (k:Nat)
 | deq
 | plain
abbrev St:=List FO
abbrev LO:=List (Option OV)
set_option genCtorIdx false in
mutual
inductive OE where
 | lit (d:PyData)
 | var (x:Nat)
 | ty (T:String)
 | attr (c:Nat) (e:OE) (a:Str)
 | prop (c:Nat) (e:OE) (a:Str) (f:Nat)
 | nt (e:OE)
 | bool (isAnd:Bool) (a b:OE)
 | cmp (op:CmpOp) (a b:OE)
 | inT (a:OE) (l:List Str)
 | bin (op:Operator) (a b:OE)
 | call (f:Nat) (es:GC)
 | mcall (c:Nat) (e:OE) (m:Str) (f:Nat) (es:GC)
 | len (e:OE)
 | typ (e:OE)
 | intc (e:OE)
 | isStr (e:OE)
 | repl (e a b:OE)
 | joinL (e l:OE)
 | idx (e i:OE)
 | slc (e:OE) (lo hi:OO)
 | nil
 | addm (e:OE)
 | app (f e:OE)
 | appL (l e:OE)
 | fstr (a:Str) (e:OE) (b:Str)
 | neg (i:Int)
 | ext (j:Nat)
 | stuck
inductive GC where
 | nil
 | cons (e:OE) (es:GC)
inductive OO where
 | no
 | yes (e:OE)
end
set_option genCtorIdx false in
mutual
inductive OS where
 | assign (x:Nat) (e:OE)
 | assign2 (x y:Nat) (a b:OE)
 | setA (c:Nat) (o:OE) (a:Str) (e:OE)
 | aug (x:Nat) (op:Operator) (e:OE)
 | augA (c:Nat) (o:OE) (a:Str) (op:Operator) (e:OE)
 | expr (e:OE)
 | ife (c:OE) (a b:kD)
 | while_ (c:OE) (b:kD)
 | ret (e:OE)
 | brk
 | cont
 | asrt (e:OE)
 | stuck
inductive kD where
 | nil
 | cons (s:OS) (ss:kD)
end
section
variable{α:Type}{G:Prop}{v:OV}{d:α}
noncomputable def IL(v:OV)(f:Nat→Option α):Option α:=match v with | .o k=>f k | _=>none
noncomputable def qW(v:OV)(f:PyData→Option α):Option α:=match v with | .d x=>f x | _=>none
theorem sI{f:Nat→Option α}(h:IL v f=some d)(k:∀ n,v = .o n→f n=some d→G):G:=by
 cases v with
 | o n=>exact k n rfl h
 | _=>cases h
theorem jY{f:PyData→Option α}(h:qW v f=some d)(k:∀ x,v = .d x→f x=some d→G):G:=by
 cases v with
 | d x=>exact k x rfl h
 | _=>cases h
noncomputable def fL(o:Option FO)(f:List OV→Option α):Option α:=o.bind fun q=>match q with | .list xs=>f xs | _=>none
noncomputable def fD(o:Option FO)(f:List (Str×OV)→Option α):Option α:=o.bind fun q=>match q with | .dict xs=>f xs | _=>none
noncomputable def fI(o:Option FO)(f:Nat→Option α):Option α:=o.bind fun q=>match q with | .inst xs=>f xs | _=>none
noncomputable def fM(o:Option FO)(f:Nat→Option α):Option α:=o.bind fun q=>match q with | .meth xs=>f xs | _=>none
theorem RO{o:Option FO}{f:List OV→Option α}(h:fL o f=some d)(k:∀ n,o=some (.list n)→f n=some d→G):G:=aT h fun q e h=>by
 cases q with
 | list n=>exact k n e h
 | _=>cases h
theorem Do{o:Option FO}{f:List (Str×OV)→Option α}(h:fD o f=some d)(k:∀ n,o=some (.dict n)→f n=some d→G):G:=aT h fun q e h=>by
 cases q with
 | dict n=>exact k n e h
 | _=>cases h
theorem Dn{o:Option FO}{f:Nat→Option α}(h:fI o f=some d)(k:∀ n,o=some (.inst n)→f n=some d→G):G:=aT h fun q e h=>by
 cases q with
 | inst n=>exact k n e h
 | _=>cases h
theorem Dm{o:Option FO}{f:Nat→Option α}(h:fM o f=some d)(k:∀ n,o=some (.meth n)→f n=some d→G):G:=aT h fun q e h=>by
 cases q with
 | meth n=>exact k n e h
 | _=>cases h
theorem bG{β γ:Type}{o:Option (β×γ)}{f:β×γ→Option α}(h:o.bind f=some d)(k:∀ a b,o=some (a,b)→f (a,b)=some d→G):G:=aT h fun p e h=>k p.1 p.2 e h
theorem kE{β:Type}{o:Option α}{st st':β}(h:o.map (fun v=>(v,st))=some (d,st'))(k:o=some d→st=st'→G):G:=b7 h fun a e h=>k (e.trans (congrArg (fun p=>some p.1) h)) (congrArg Prod.snd h)
end
noncomputable def sN(v:OV):Option PyData:=qW v fun x=>if flat x then some x else none
noncomputable def kJ:List (Str×OV)→Str→Option OV
 | [],_=>none
 | p::r,a=>if p.1==a then some p.2 else kJ r a
noncomputable def N9:List (Str×OV)→Str→OV→List (Str×OV)
 | [],a,v=>[(a,v)]
 | p::r,a,v=>if p.1==a then(p.1,v)::r else p::N9 r a v
noncomputable def j0(c:Nat)(st:St)(v:OV):Option (Nat×List (Str×OV)):=IL v fun k=>fI st[k]? fun c'=>fD st[k+1]? fun es=>if c'=c then some (k,es)else none
noncomputable def JD(st:St)(v:OV):Option (Nat×List OV):=IL v fun k=>fL st[k]? fun xs=>some (k,xs)
noncomputable def SF(st:St)(v:OV):Option Nat:=IL v fun k=>fM st[k]? some
noncomputable def Dl(f:FO):Option Bool:=match f with
 | .list xs=>some !xs.isEmpty
 | .deq=>some false
 | _=>none
noncomputable def sX(st:St)(v:OV):Option Bool:=match v with
 | .d x=>if flat x then bT x else none
 | .o k=>st[k]?.bind Dl
 | .ty _=>none
noncomputable def qC(o:Option PyData):Option OV:=o.bind fun d=>if flat d then some (.d d)else none
noncomputable def GJ(op:Operator)(a b:OV):Option OV:=(sN a).bind fun x=>(sN b).bind fun y=>qC (sC op x y)
noncomputable def Aw(v w:OV):Option Bool:=match v with
 | .d x=>if flat x then(match w with | .d y=>if flat y then Ai x y else none | .o _=>some false | .ty _=>none)else none
 | .o j=>(match w with | .o k=>some (j==k)| .d x=>if flat x then some false else none | .ty _=>none)
 | .ty T=>(match w with | .ty U=>some (T==U)| _=>none)
noncomputable def BD(op:CmpOp)(a b:OV):Option OV:=match op with
 | .Is=>(Aw a b).map fun q=>.d (.bool q)
 | .IsNot=>(Aw a b).map fun q=>.d (.bool !q)
 | _=>(sN a).bind fun x=>(sN b).bind fun y=>qC (u4 op x y)
noncomputable def nA(v:OV):Option Str:=qW v fun x=>qZ x some
noncomputable def vG:List OV→Option (List Str)
 | []=>some []
 | v::r=>(nA v).bind fun s=>(vG r).map (s :: ·)
noncomputable def N7(s:Str):Option OV:=if s.length≤sizeLine then some (.d (.str s))else none
noncomputable def Bm(st:St)(v:OV):Option OV:=match v with
 | .d x=>qZ x fun s=>some (.d (.int s.length))
 | .o k=>fL st[k]? fun xs=>some (.d (.int xs.length))
 | .ty _=>none
noncomputable def fQ(st:St)(v w:OV):Option OV:=qW w fun y=>match v with
 | .d x=>qZ x fun s=>qC (BA (.str s) y)
 | .o k=>mJ y fun i=>fL st[k]? fun xs=>(cY i xs.length).bind (xs[·]?)
 | .ty _=>none
noncomputable def IH(v:OV)(lo hi:Option Int):Option OV:=(nA v).bind fun s=>qC (IJ (.str s) lo hi)
noncomputable def vH(v:OV):Option Int:=qW v pZ
noncomputable def Ba(v:OV):Option OV:=qW v fun x=>match x with
 | .int _=>some (.ty "int")
 | .str _=>some (.ty "str")
 | _=>none
noncomputable def H9(f:Nat):List Str:=if f==18||f==19 then ["posix"]else []
noncomputable def j6(f:Nat)(vs:List Value):Args:=match H9 f with
 | []=>⟨vs,[]⟩
 | ks=>⟨vs.take (vs.length - ks.length),ks.zip (vs.drop (vs.length - ks.length))⟩
theorem i8{f:Nat}{vs:List Value}(h:H9 f=[]):j6 f vs=⟨vs,[]⟩:=by unfold j6; rw[h]
noncomputable def YU(e a b:OV):Option OV:=(nA e).bind fun s=>(nA a).bind fun x=>(nA b).bind fun _ =>
 if(Builtin.Str.occurrences s x 0 s.length (s.length+1)).isEmpty then some (.d (.str s))else none
noncomputable def JF(st:St)(e l:OV):Option OV:=(nA e).bind fun sep=>(JD st l).bind fun p=>(vG p.2).bind fun ss =>
 if ss.foldl (fun n x=>n+x.length+sep.length) 0≤2 ^ 20 then some (.d (.str (Str.join sep ss)))else none
noncomputable def nE(st:St)(k:Nat)(v:OV):Option St:=fL st[k]? fun xs=>if xs.length≤1000 then some (st.set k (.list (xs++[v])))else none
section
variable(cl:Nat→List OV→St→Option (OV×St))(ex:Nat→LO→St→Option (OV×St))
mutual
noncomputable def cR:OE→LO→St→Option (OV×St)
 | .lit d,_,st=>if flat d then some (.d d,st)else none
 | .var x,ρ,st=>((ρ[x]?).join).map fun v=>(v,st)
 | .ty T,_,st=>some (.ty T,st)
 | .attr c e a,ρ,st=>(cR e ρ st).bind fun p=>(j0 c p.2 p.1).bind fun q=>(kJ q.2 a).map fun v=>(v,p.2)
 | .prop c e a f,ρ,st=>(cR e ρ st).bind fun p=>(j0 c p.2 p.1).bind fun q=>if(kJ q.2 a).isNone then cl f [p.1] p.2 else none
 | .nt e,ρ,st=>(cR e ρ st).bind fun p=>(sX p.2 p.1).map fun b=>(.d (.bool !b),p.2)
 | .bool q a b,ρ,st=>(cR a ρ st).bind fun p=>(sX p.2 p.1).bind fun t=>if t==q then cR b ρ p.2 else some p
 | .cmp op a b,ρ,st=>(cR a ρ st).bind fun p=>(cR b ρ p.2).bind fun r=>(BD op p.1 r.1).map fun v=>(v,r.2)
 | .inT a l,ρ,st=>(cR a ρ st).bind fun p=>(nA p.1).map fun s=>(.d (.bool (l.any fun x=>x==s)),p.2)
 | .bin op a b,ρ,st=>(cR a ρ st).bind fun p=>(cR b ρ p.2).bind fun r=>(GJ op p.1 r.1).map fun v=>(v,r.2)
 | .call f es,ρ,st=>(w6 es ρ st).bind fun p=>cl f p.1 p.2
 | .mcall c e m f es,ρ,st=>(cR e ρ st).bind fun p=>(j0 c p.2 p.1).bind fun q=>if(kJ q.2 m).isNone then(w6 es ρ p.2).bind fun r=>cl f (p.1::r.1) r.2 else none
 | .len e,ρ,st=>(cR e ρ st).bind fun p=>(Bm p.2 p.1).map fun v=>(v,p.2)
 | .typ e,ρ,st=>(cR e ρ st).bind fun p=>(Ba p.1).map fun v=>(v,p.2)
 | .intc e,ρ,st=>(cR e ρ st).bind fun p=>qW p.1 fun x=>mJ x fun i=>some (.d (.int i),p.2)
 | .isStr e,ρ,st=>(cR e ρ st).bind fun p=>(nA p.1).map fun _=>(.d (.bool true),p.2)
 | .repl e a b,ρ,st=>(cR e ρ st).bind fun p=>(cR a ρ p.2).bind fun q=>(cR b ρ q.2).bind fun r=>(YU p.1 q.1 r.1).map fun v=>(v,r.2)
 | .joinL e l,ρ,st=>(cR e ρ st).bind fun p=>(cR l ρ p.2).bind fun q=>(JF q.2 p.1 q.1).map fun v=>(v,q.2)
 | .idx e i,ρ,st=>(cR e ρ st).bind fun p=>(cR i ρ p.2).bind fun r=>(fQ r.2 p.1 r.1).map fun v=>(v,r.2)
 | .slc e lo hi,ρ,st=>(cR e ρ st).bind fun p=>(XA lo ρ p.2).bind fun q=>(XA hi ρ q.2).bind fun r=>(IH p.1 q.1 r.1).map fun v=>(v,r.2)
 | .nil,_,st=>some (.o st.length,st++[.list []])
 | .addm e,ρ,st=>(cR e ρ st).bind fun p=>(JD p.2 p.1).map fun q=>(.o p.2.length,p.2++[.meth q.1])
 | .app f e,ρ,st=>(cR f ρ st).bind fun p=>(cR e ρ p.2).bind fun r=>(SF r.2 p.1).bind fun j=>(nE r.2 j r.1).map fun st'=>(.d .none,st')
 | .appL l e,ρ,st=>(cR l ρ st).bind fun p=>(JD p.2 p.1).bind fun q=>(cR e ρ p.2).bind fun r=>(nE r.2 q.1 r.1).map fun st'=>(.d .none,st')
 | .fstr a e b,ρ,st=>(cR e ρ st).bind fun p=>(nA p.1).bind fun s=>(N7 (a++s++b)).map fun v=>(v,p.2)
 | .neg i,_,st=>some (.d (.int (-i)),st)
 | .ext j,ρ,st=>ex j ρ st
 | .stuck,_,_=>none
noncomputable def w6:GC→LO→St→Option (List OV×St)
 | .nil,_,st=>some ([],st)
 | .cons e es,ρ,st=>(cR e ρ st).bind fun p=>(w6 es ρ p.2).map fun r=>(p.1::r.1,r.2)
noncomputable def XA:OO→LO→St→Option (Option Int×St)
 | .no,_,st=>some (none,st)
 | .yes e,ρ,st=>(cR e ρ st).bind fun p=>(vH p.1).map fun i=>(some i,p.2)
end
set_option genCtorIdx false in
inductive lZ where
 | next (ρ:LO)
 | brk (ρ:LO)
 | cont (ρ:LO)
 | ret (v:OV)
noncomputable def I3(c:Nat)(st:St)(o:OV)(a:Str)(v:OV):Option St:=(j0 c st o).bind fun q =>
 let es:=N9 q.2 a v
 if es.length≤100 then some (st.set (q.1+1) (.dict es))else none
noncomputable def cX(test:LO→St→Option (Bool×St))(body:LO→St→Option (lZ×St)):Nat→LO→St→Option (lZ×St)
 | 0,_,_=>none
 | n+1,ρ,st=>(test ρ st).bind fun t=>if t.1 then(body ρ t.2).bind fun r=>match r.1 with
   | .next ρ' | .cont ρ'=>cX test body n ρ' r.2
   | .brk ρ'=>some (.next ρ',r.2)
   | .ret v=>some (.ret v,r.2)
  else some (.next ρ,t.2)
variable(fuel:Nat)
noncomputable def j9(e:OE)(ρ:LO)(st:St):Option (Bool×St):=(cR cl ex e ρ st).bind fun p=>(sX p.2 p.1).map fun t=>(t,p.2)
mutual
noncomputable def A6:OS→LO→St→Option (lZ×St)
 | .assign x e,ρ,st=>(cR cl ex e ρ st).map fun p=>(.next (ρ.set x (some p.1)),p.2)
 | .assign2 x y a b,ρ,st=>(cR cl ex a ρ st).bind fun p=>(cR cl ex b ρ p.2).map fun r=>(.next ((ρ.set x (some p.1)).set y (some r.1)),r.2)
 | .setA c o a e,ρ,st=>(cR cl ex e ρ st).bind fun p=>(cR cl ex o ρ p.2).bind fun q=>(I3 c q.2 q.1 a p.1).map fun st'=>(.next ρ,st')
 | .aug x op e,ρ,st=>((ρ[x]?).join).bind fun a=>(cR cl ex e ρ st).bind fun p=>if op == .Add||op == .Sub then(GJ op a p.1).map fun v=>(.next (ρ.set x (some v)),p.2)else none
 | .augA c o a op e,ρ,st=>(cR cl ex o ρ st).bind fun p=>(j0 c p.2 p.1).bind fun q=>(kJ q.2 a).bind fun old=>(cR cl ex e ρ p.2).bind fun r=>if op == .Add||op == .Sub then
   (GJ op old r.1).bind fun v=>(I3 c r.2 p.1 a v).map fun st'=>(.next ρ,st')else none
 | .expr e,ρ,st=>(cR cl ex e ρ st).bind fun p=>qW p.1 fun _=>some (.next ρ,p.2)
 | .ife c a b,ρ,st=>(j9 cl ex c ρ st).bind fun t=>if t.1 then bO a ρ t.2 else bO b ρ t.2
 | .while_ c b,ρ,st=>cX (j9 cl ex c) (bO b) fuel ρ st
 | .ret e,ρ,st=>(cR cl ex e ρ st).map fun p=>(.ret p.1,p.2)
 | .brk,ρ,st=>some (.brk ρ,st)
 | .cont,ρ,st=>some (.cont ρ,st)
 | .asrt e,ρ,st=>(j9 cl ex e ρ st).bind fun t=>if t.1 then some (.next ρ,t.2)else none
 | .stuck,_,_=>none
noncomputable def bO:kD→LO→St→Option (lZ×St)
 | .nil,ρ,st=>some (.next ρ,st)
 | .cons s ss,ρ,st=>(A6 s ρ st).bind fun r=>match r.1 with
  | .next ρ'=>bO ss ρ' r.2
  | f=>some (f,r.2)
end
end
noncomputable def eH:Option (lZ×St)→Option (OV×St)
 | some (.ret v,st)=>some (v,st)
 | some (.next _,st)=>some (.d .none,st)
 | _=>none
structure OF where
 size:Nat
 arity:Nat
 dflt:List PyData
 body:kD
noncomputable def EA(pf:OF)(args:List OV):Option LO :=
 if args.length≤pf.arity&&pf.arity≤args.length+pf.dflt.length&&pf.arity≤pf.size&&pf.dflt.length≤pf.arity&&pf.dflt.all flat then
  some ((args++(pf.dflt.drop (pf.dflt.length+args.length - pf.arity)).map OV.d).map some++List.replicate (pf.size - pf.arity) none)else none
abbrev jB:=Nat→List OV→St→Option (OV×St)
noncomputable def qU(tab:Nat→Option OF)(prim:jB→jB)(ex:jB→Nat→LO→St→Option (OV×St))(fuel:Nat):Nat→jB
 | 0,_,_,_=>none
 | lvl+1,f,args,st=>match tab f with
  | some pf=>(EA pf args).bind fun ρ=>eH (bO (qU tab prim ex fuel lvl) (ex (qU tab prim ex fuel lvl)) fuel pf.body ρ st)
  | none=>prim (qU tab prim ex fuel lvl) f args st
def pX(v:Value)(d:PyData):Prop:=Rd default v d []∧bL d=true
theorem U3{h:Heap}{q:Bool}{vs:List Value}{ds:List PyData}{as:List Addr}(r:gU h q vs ds as):q=true→as=[]→∀ d,ds=[d]→flat d=true:=by
 cases r with
 | list=>exact fun _ e=>nomatch e
 | nil=>exact fun e=>nomatch e
 | cons=>exact fun e=>nomatch e
 | _=>exact fun _ _ _ e=>List.head_eq_of_cons_eq e▸rfl
theorem pX.rd{v:Value}{d:PyData}(x:pX v d)(h:Heap):Rd h v d []∧bL d=true∧flat d=true:=⟨x.1.map (fun _ _ ha=>nomatch ha),x.2,U3 x.1 rfl rfl d rfl⟩
theorem WI{h:Heap}{v:Value}{d:PyData}{as:List Addr}(r:Rd h v d as)(ok:bL d=true)(f:flat d=true):pX v d:=by
 cases yC r f
 exact⟨r.map (fun _ _ ha=>nomatch ha),ok⟩
def VE(μ:List Addr)(v:Value):OV→Prop
 | .d x=>pX v x
 | .o k=>∃ a,μ[k]? = some a∧v = .ref a
 | .ty T=>v = .type T
inductive gT(μ:List Addr):List Value→List OV→Prop
 | nil:gT μ [] []
 | cons {v vs x xs}:VE μ v x→gT μ vs xs→gT μ (v::vs) (x::xs)
inductive mL(μ:List Addr):List DictEntry→List (Str×OV)→Prop
 | nil:mL μ [] []
 | cons {e es n x xs}:(∃ t,e.key = .str n t)→VE μ e.val x→mL μ es xs→mL μ (e::es) ((n,x)::xs)
section
variable{μ μ':List Addr}
theorem d9(p:μ <+: μ'){k:Nat}{a:Addr}(h:μ[k]? = some a):μ'[k]? = some a:=by
 obtain⟨t,rfl⟩:=p
 rw[List.getElem?_append_left (List.getElem?_eq_some_iff.mp h).1]; exact h
theorem VE.pre(p:μ <+: μ'){v:Value}:∀{x:OV},VE μ v x→VE μ' v x
 | .d _,h=>h
 | .o _,⟨a,h,e⟩=>⟨a,d9 p h,e⟩
 | .ty _,h=>h
theorem gT.pre(p:μ <+: μ'){vs:List Value}{xs:List OV}(h:gT μ vs xs):gT μ' vs xs:=by
 induction h with
 | nil=>exact .nil
 | cons h _ ih=>exact .cons (h.pre p) ih
theorem mL.pre(p:μ <+: μ'){es:List DictEntry}{xs:List (Str×OV)}(h:mL μ es xs):mL μ' es xs:=by
 induction h with
 | nil=>exact .nil
 | cons k h _ ih=>exact .cons k (h.pre p) ih
theorem gT.length{vs:List Value}{xs:List OV}(h:gT μ vs xs):vs.length=xs.length:=by
 induction h with
 | nil=>rfl
 | cons _ _ ih=>exact congrArg (· + 1) ih
theorem mL.length{es:List DictEntry}{xs:List (Str×OV)}(h:mL μ es xs):es.length=xs.length:=by
 induction h with
 | nil=>rfl
 | cons _ _ _ ih=>exact congrArg (· + 1) ih
theorem gT.get{vs:List Value}{xs:List OV}(h:gT μ vs xs):∀{k:Nat}{x:OV},xs[k]? = some x→∃ v,vs[k]? = some v∧VE μ v x:=by
 induction h with
 | nil=>exact fun e=>nomatch e
 | cons h _ ih=>exact fun{k x}=>k.casesOn (fun e=>⟨_,rfl,Option.some.inj e▸h⟩) fun k=>ih (k:=k)
theorem gT.append{vs ws:List Value}{xs ys:List OV}(h:gT μ vs xs)(g:gT μ ws ys):gT μ (vs++ws) (xs++ys):=by
 induction h with
 | nil=>exact g
 | cons h _ ih=>exact .cons h ih
theorem gT.drop(k:Nat){vs:List Value}{xs:List OV}(h:gT μ vs xs):gT μ (vs.drop k) (xs.drop k):=by
 induction h generalizing k with
 | nil=>rw[List.drop_nil,List.drop_nil]; exact .nil
 | cons h hs ih=>exact k.casesOn (.cons h hs) fun k=>ih k
theorem TG{vs:List Value}{x:OV}{xs:List OV}{m:List Value→Prop}(h:gT μ vs (x::xs))(k:∀ w ws,VE μ w x→gT μ ws xs→m (w::ws)):m vs:=by
 cases h with | cons h g=>exact k _ _ h g
theorem qT{vs:List Value}{x:OV}{m:List Value→Prop}(h:gT μ vs [x])(k:∀ w,VE μ w x→m [w]):m vs:=TG h fun w ws h g=>by cases g; exact k w h
theorem N6{vs:List Value}{x y:OV}{m:List Value→Prop}(h:gT μ vs [x,y])(k:∀ w u,VE μ w x→VE μ u y→m [w,u]):m vs:=TG h fun w ws h g=>qT (m:=fun ws=>m (w::ws)) g fun u g=>k w u h g
end
noncomputable abbrev dO(b:Addr):Obj:={ cls:=.type "builtin_function_or_method",data:=.fields #[.builtin "list.append",.ref b] }
def S6(o:Obj):Prop:=o.cls = .type "collections.deque" ∧ o.dict=none∧(∃ a b,o.data = .fields #[a,b])
noncomputable abbrev hW(ents:Array DictEntry)(n:Nat)(sl:Array (Option Value)):Obj:={ cls:=.type "dict",dict:=none,data:=.dict ents n,slots:=sl }
noncomputable abbrev bY(items:Array Value)(n:Nat)(sl:Array (Option Value)):Obj:={ cls:=.type "list",dict:=none,data:=.seq items n,slots:=sl }
def GD(cA:Nat→Option Addr)(μ:List Addr)(h:Heap)(k:Nat)(a:Addr):FO→Prop
 | .inst c=>∃ C dx,cA c=some C∧μ[k+1]? = some dx∧h.get? a=some (instObj C dx)
 | .dict es=>∃ ents n sl,h.get? a=some (hW ents n sl)∧mL μ ents.toList es∧es.length≤100
 | .list xs=>∃ items n sl,h.get? a=some (bY items n sl)∧gT μ items.toList xs∧xs.length≤1001
 | .meth j=>∃ b,μ[j]? = some b∧h.get? a=some (dO b)
 | .deq=>∃ o,h.get? a=some o∧S6 o
 | .plain=>∃ o,h.get? a=some o∧o.cls ≠ .type "tuple"
structure l7(Z:aE)(cA:Nat→Option Addr)(μ:List Addr)(st:St)(h:Heap):Prop where
 len:μ.length=st.length
 nd:μ.Nodup
 hi:∀ a∈μ,Z.n≤a∧a∉Z.fr
 at_:∀(k:Nat)(a:Addr)(f:FO),μ[k]? = some a→st[k]? = some f→GD cA μ h k a f
structure gC(Z:aE)(L:Addr→Prop)(μ μ':List Addr)(h h':Heap):Prop where
 pre:μ <+: μ'
 keep:∀ b o,h.get? b=some o→(o.cls ≠ .none∨Z.n≤b)→b∉μ→¬L b→Sl h' b o
 new:∀ a∈μ',a∉μ→Z.n≤a∧h.get? a=none∧¬L a
section
variable{Z:aE}{L:Addr→Prop}{cA:Nat→Option Addr}{μ μ' μ'':List Addr}{st st':St}{h h' h'':Heap}
theorem GD.ex{k:Nat}{a:Addr}{f:FO}(x:GD cA μ h k a f):∃ o,h.get? a=some o∧o.cls ≠ .type "tuple" := by
 cases f with
 | inst c=>exact let⟨_,_,_,_,e⟩:=x; ⟨_,e,nofun⟩
 | dict es=>exact let⟨_,_,_,e,_⟩:=x; ⟨_,e,by show Value.type "dict" ≠ _; decide⟩
 | list xs=>exact let⟨_,_,_,e,_⟩:=x; ⟨_,e,by show Value.type "list" ≠ _; decide⟩
 | meth j=>exact let⟨_,_,e⟩:=x; ⟨_,e,by show Value.type "builtin_function_or_method" ≠ _; decide⟩
 | deq=>exact let⟨o,e,h1,_⟩:=x; ⟨o,e,by rw[h1]; decide⟩
 | plain=>exact x
theorem GD.sl{k:Nat}{a:Addr}{f:FO}(x:GD cA μ h k a f)(p:μ <+: μ')(s:∀ o,h.get? a=some o→Sl h' a o):GD cA μ' h' k a f:=by
 cases f with
 | inst c=>exact let⟨C,dx,h1,h2,e⟩:=x; ⟨C,dx,h1,d9 p h2,(s _ e).nd nofun⟩
 | dict es=>exact let⟨ents,n,sl,e,h1,h2⟩:=x; (s _ e).elim (fun e'=>⟨ents,n,sl,e',h1.pre p,h2⟩) fun⟨_,sl',e'⟩=>⟨ents,n,sl',e',h1.pre p,h2⟩
 | list xs=>exact let⟨items,n,sl,e,h1,h2⟩:=x; ⟨items,n,sl,(s _ e).seq rfl,h1.pre p,h2⟩
 | meth j=>exact let⟨b,h1,e⟩:=x; ⟨b,d9 p h1,(s _ e).nd nofun⟩
 | deq=>exact let⟨o,e,h1,h2,a,b,h3⟩:=x; ⟨o,(s _ e).flds h3,h1,h2,a,b,h3⟩
 | plain=>exact let⟨_,e,hc⟩:=x; let⟨o',e',hc',_⟩:=(s _ e).ex; ⟨o',e',hc'▸hc⟩
theorem l7.of(S:l7 Z cA μ st h){k:Nat}{f:FO}{a:Addr}(e:st[k]? = some f)(h1:μ[k]? = some a):GD cA μ h k a f:=S.at_ k a f h1 e
theorem l7.ex(S:l7 Z cA μ st h){k:Nat}{a:Addr}(h1:μ[k]? = some a):∃ o,h.get? a=some o∧o.cls ≠ .type "tuple" :=
 (S.at_ k a _ h1 (List.getElem?_eq_getElem (S.len▸(List.getElem?_eq_some_iff.mp h1).1))).ex
theorem l7.live(S:l7 Z cA μ st h)(a:Addr)(ha:a∈μ):∃ o,h.get? a=some o:=let⟨_,e⟩:=List.mem_iff_getElem?.mp ha; let⟨o,e,_⟩:=S.ex e; ⟨o,e⟩
theorem l7.kp(S:l7 Z cA μ st h)(k:Kp Z.n h h'):l7 Z cA μ st h':=⟨S.len,S.nd,S.hi,fun j a f h1 h2=>(S.at_ j a f h1 h2).sl List.prefix_rfl fun o e=>k.k a o e (.inr (S.hi a (List.mem_of_getElem? h1)).1)⟩
theorem gC.kp(k:Kp Z.n h h'):gC Z L μ μ h h':=⟨List.prefix_rfl,fun b o e c _ _=>k.k b o e c,fun _ ha hn=>absurd ha hn⟩
theorem gC.refl:gC Z L μ μ h h:=.kp (Kp.refl _ _)
theorem gC.trans(x:gC Z L μ μ' h h')(y:gC Z L μ' μ'' h' h''):gC Z L μ μ'' h h'' where
 pre:=x.pre.trans y.pre
 keep:=fun b o e c hb hl=>(x.keep b o e c hb hl).next fun o' e' hc=>y.keep b o' e' (by rw[hc]; exact c) (fun hm=>nomatch (x.new b hm hb).2.1.symm.trans e) hl
 new:=fun a ha hn=>(Classical.em (a∈μ')).elim (fun hm=>x.new a hm hn) fun hm=>let⟨h1,h2,h3⟩:=y.new a ha hm; ⟨h1,oA (fun o e=>let⟨_,e',_⟩:=(x.keep a o e (.inr h1) hn h3).ex; nomatch h2.symm.trans e'),h3⟩
theorem gC.ns(x:gC Z L μ μ' h h'){a:Addr}{m:Str→Option Value}(ha:Z.n≤a)(hm:a∉μ)(hl:¬L a)(n:h.Ns a m):h'.Ns a m :=
 let⟨_,es,ep,e,hd,r⟩:=n; let⟨o',e',_,hd'⟩:=(x.keep _ _ e (.inr ha) hm hl).ex; ⟨o',es,ep,e',hd'.trans hd,r⟩
end
structure l5(Z:aE)(nm:List Str)(env:Env)(ρ:LO)(μ:List Addr)(h:Heap):Prop where
 lam:nm.length=14→env.code=Z.lam
 kind:env.scope.kind = .function
 glob:env.globals=mainGlobals
 blt:env.builtins=builtinsNs
 new:Z.n≤env.locals
 out:env.locals∉μ
 ns:∃ m,h.Ns env.locals m∧∀(x:Nat)(v:OV)(n:Str),(ρ[x]?).join=some v→nm[x]? = some n→∃ w,m n=some w∧VE μ w v
theorem l5.ne{Z:aE}{nm:List Str}{env:Env}{ρ:LO}{μ:List Addr}{h:Heap}(x:l5 Z nm env ρ μ h){a:Addr}(ha:h.get? a=none):a≠env.locals:=fun e=>by
 obtain⟨m,⟨o,_,_,e',_⟩,_⟩:=x.ns
 rw[← e,ha]at e'; cases e'
theorem l5.step{Z:aE}{nm:List Str}{env:Env}{ρ:LO}{μ μ':List Addr}{h h':Heap}(x:l5 Z nm env ρ μ h)(t:gC Z (fun _=>False) μ μ' h h'):l5 Z nm env ρ μ' h' :=
 { x with
  out:=fun hm=>x.ne (t.new _ hm x.out).2.1 rfl
  ns:=let⟨m,hm,hv⟩:=x.ns; ⟨m,t.ns x.new x.out id hm,fun y v n h1 h2=>let⟨w,h3,h4⟩:=hv y v n h1 h2; ⟨w,h3,h4.pre t.pre⟩⟩ }
theorem l5.size{Z:aE}{nm:List Str}{env:Env}{ρ:LO}{μ:List Addr}{h:Heap}(x:l5 Z nm env ρ μ h):Z.n≤h.objs.size :=
 let⟨_,hm,_⟩:=x.ns; Nat.le_trans x.new (Nat.le_of_lt hm.lt)
theorem gC.inL{Z:aE}{nm:List Str}{env:Env}{ρ:LO}{μ μ':List Addr}{h h':Heap}(hE:l5 Z nm env ρ μ h)(x:gC Z (fun _=>False) μ μ' h h'):gC Z (· = env.locals) μ μ' h h' :=
 ⟨x.pre,fun b o e c hb _=>x.keep b o e c hb id,fun a ha hn=>let⟨h1,h2,_⟩:=x.new a ha hn; ⟨h1,h2,hE.ne h2⟩⟩
end Kt.Internal
end
section
open PySem PySem.W PyProof.Rows PySem.Calls Builtin Builtin.ObjectAttr
namespace Kt.Internal
theorem uM{μ:List Addr}{es:List DictEntry}{xs:List (Str×OV)}(h:mL μ es xs):es.any (·.refKey)=false:=by
 induction h with
 | nil=>rfl
 | cons k _ _ ih =>
  obtain⟨t,hk⟩:=k
  rw[List.any_cons,ih]
  unfold DictEntry.refKey
  rw[hk]
  rfl
theorem wO{e:DictEntry}{n a:Str}(k:∃ t,e.key = .str n t):e.key.isStr a=(n==a):=by obtain⟨t,hk⟩:=k; rw[hk]; rfl
theorem wU{μ:List Addr}{a:Str}{es:List DictEntry}{xs:List (Str×OV)}(h:mL μ es xs) :
  (∀ v,kJ xs a=some v→∃ e,es.find? (·.key.isStr a)=some e∧VE μ e.val v)∧(kJ xs a=none→es.find? (·.key.isStr a)=none):=by
 induction h with
 | nil=>exact⟨nofun,fun _=>rfl⟩
 | cons k hv _ ih =>
  rw[List.find?_cons,wO k,kJ]
  dsimp only
  rename_i n _ _ _
  cases n==a with
  | true=>exact⟨fun v e=>⟨_,rfl,Option.some.inj e▸hv⟩,nofun⟩
  | false=>exact ih
theorem NG{μ:List Addr}{a:Str}{hsh:Int}{t:Tok}{w:Value}{v:OV}(hw:VE μ w v){es:List DictEntry}{xs:List (Str×OV)}(h:mL μ es xs):mL μ (putL a hsh (.str a t) w es) (N9 xs a v):=by
 induction h with
 | nil=>exact .cons ⟨t,rfl⟩ hw .nil
 | cons k hv hs ih =>
  rw[putL,N9,wO k]
  dsimp only
  rename_i n _ _
  cases n==a with
  | true=>exact .cons k hw hs
  | false=>exact .cons k hv ih
noncomputable def zE(K:Frag)(C:Addr)(a:Str):Bool:=plainGet K C a&&(hasDictIn K C&&iB (findIn K (.ref C) a) (noGet K))
noncomputable def y9(K:Frag)(C:Addr)(a:Str):Bool:=findIn K (.ref C) "__setattr__" == some (some (.builtin "object.__setattr__"))&&(plainOver K C&&(takerIn K C a==some none&&hasDictIn K C))
noncomputable def B6(K:Frag)(C:Addr)(m:Str)(f:Addr):Bool:=plainGet K C m&&(findIn K (.ref C) m==some (some (.ref f))&&(isFn K (.ref f)&&(fnIn K f&&keepIn K (.ref f))))
noncomputable def Cc(v:Value)(f:Addr→Bool):Bool:=iR v f
noncomputable def BQ(K:Frag)(C:Addr)(a:Str)(f:Addr):Bool:=plainGet K C a&&(hasDictIn K C&&iB (findIn K (.ref C) a) fun x=>iB x fun x=>iR x fun p =>
 specialIn K (.ref p) "__get__" == some (some (.builtin "property.__get__"))&&(takesIn K (.ref p)==some true&&iB (recIn K p "property") fun l=>iM l fun g _=>iR g fun g=>g==f))
structure dF(Z:aE)(cA:Nat→Option Addr)(L:Addr→Prop)(μ:List Addr)(h:Heap)(μ':List Addr)(st':St)(s':Shared):Prop where
 i:bB Z s'
 t:gC Z L μ μ' h s'.heap
 so:l7 Z cA μ' st' s'.heap
abbrev jX:Addr→Prop:=fun _=>False
section
variable{Z:aE}{cA:Nat→Option Addr}{L:Addr→Prop}{μ μ' μ'':List Addr}{st st' st'':St}{s s' s'':Shared}{h:Heap}{K:Frag}
theorem dF.trans(a:dF Z cA L μ h μ' st' s')(b:dF Z cA L μ' s'.heap μ'' st'' s''):dF Z cA L μ h μ'' st'' s'':=⟨b.i,a.t.trans b.t,b.so⟩
theorem dF.here(I:bB Z s)(S:l7 Z cA μ st s.heap):dF Z cA L μ s.heap μ st s:=⟨I,.refl,S⟩
theorem dF.tok(a:dF Z cA L μ h μ' st' s')(tk:Nat):dF Z cA L μ h μ' st' { s' with toks:=tk }:=⟨a.i.tok tk,a.t,a.so⟩
theorem dF.kp(a:dF Z cA L μ h μ' st' s')(I:bB Z s'')(k:Kp Z.n s'.heap s''.heap):dF Z cA L μ h μ' st' s'':=⟨I,a.t.trans (.kp k),a.so.kp k⟩
theorem getElem?_nodup {α:Type} {l:List α} (nd:l.Nodup) {i j:Nat} {a:α} (h1:l[i]? = some a) (h2:l[j]? = some a):i=j :=
 let⟨_,e1⟩:=List.getElem?_eq_some_iff.mp h1; let⟨_,e2⟩:=List.getElem?_eq_some_iff.mp h2; (List.getElem_inj nd).mp (e1.trans e2.symm)
theorem dF.turn(a:dF Z cA L μ h μ' st' s'){k:Nat}{b:Addr}{f:FO}{h':Heap}{tk:Nat}(hk:μ'[k]? = some b)(hb:Heap.SameBut b s'.heap h')(hf:GD cA μ' h' k b f):dF Z cA L μ h μ' (st'.set k f) { s' with heap:=h',toks:=tk }:=by
 have hm:=List.mem_of_getElem? hk
 have hh:=a.so.hi b hm
 refine⟨a.i.same hh.1 hb (fun h=>absurd h hh.2) tk,a.t.trans ⟨List.prefix_rfl,fun c o e _ hn _=>.inl ((hb.2 c fun e'=>hn (e'▸hm)).trans e),fun _ h hn=>absurd h hn⟩,?_⟩
 refine⟨a.so.len.trans List.length_set.symm,a.so.nd,a.so.hi,fun j c g h1 h2=>?_⟩
 by_cases e:j=k
 ·subst e
  cases hk.symm.trans h1
  rw[List.getElem?_set_self (a.so.len▸(List.getElem?_eq_some_iff.mp hk).1)]at h2
  cases h2; exact hf
 ·rw[List.getElem?_set_ne (Ne.symm e)]at h2
  exact(a.so.at_ j c g h1 h2).sl List.prefix_rfl fun o e'=>.inl ((hb.2 c fun e'=>e (getElem?_nodup a.so.nd (e'▸h1) hk)).trans e')
theorem dF.mores(a:dF Z cA L μ h μ' st' s'){bs:List Addr}{fs:List FO}{h':Heap}{tk:Nat}(hlen:bs.length=fs.length)(hnd:bs.Nodup)(hb:∀ b∈bs,s'.heap.get? b=none∧(Z.n≤b∧b∉Z.fr)∧¬L b)(hk:∀ c o,s'.heap.get? c=some o→h'.get? c=some o)
  (hf:∀ i b f,bs[i]? = some b→fs[i]? = some f→GD cA (μ'++bs) h' (st'.length+i) b f):dF Z cA L μ h (μ'++bs) (st'++fs) { s' with heap:=h',toks:=tk }:=by
 refine⟨a.i.full hk,a.t.trans ⟨List.prefix_append _ _,fun c o e _ _ _=>.inl (hk c o e),fun c hc hnb=>(List.mem_append.mp hc).elim (fun h=>absurd h hnb) fun h=>⟨(hb c h).2.1.1,(hb c h).1,(hb c h).2.2⟩⟩,?_⟩
 refine⟨by rw[List.length_append,List.length_append,a.so.len,hlen],List.nodup_append.mpr ⟨a.so.nd,hnd,fun x hx y hy e=>?_⟩,fun c hc=>(List.mem_append.mp hc).elim (a.so.hi c) fun h=>(hb c h).2.1,fun j c g h1 h2=>?_⟩
 ·obtain⟨o,ho⟩:=a.so.live x hx
  rw[e,(hb y hy).1]at ho; cases ho
 ·rcases Nat.lt_or_ge j μ'.length with hj | hj
  ·rw[List.getElem?_append_left hj]at h1
   rw[List.getElem?_append_left (a.so.len▸hj)]at h2
   exact(a.so.at_ j c g h1 h2).sl (List.prefix_append _ _) fun o e=>.inl (hk c o e)
  ·rw[List.getElem?_append_right hj]at h1
   rw[List.getElem?_append_right (a.so.len▸hj),← a.so.len]at h2
   exact Nat.add_sub_cancel' (a.so.len▸hj:st'.length≤j)▸a.so.len▸hf _ c g h1 h2
theorem dF.more(a:dF Z cA L μ h μ' st' s'){b:Addr}{f:FO}{h':Heap}{tk:Nat}(hb:s'.heap.get? b=none)(hn:Z.n≤b)(hfr:b∉Z.fr)(hl:¬L b)(hk:∀ c o,s'.heap.get? c=some o→h'.get? c=some o)(hf:GD cA (μ'++[b]) h' st'.length b f) :
  dF Z cA L μ h (μ'++[b]) (st'++[f]) { s' with heap:=h',toks:=tk } :=
 a.mores rfl (List.nodup_cons.mpr ⟨nofun,.nil⟩) (fun c hc=>List.mem_singleton.mp hc▸⟨hb,⟨hn,hfr⟩,hl⟩) hk fun i=>i.casesOn (fun c g h1 h2=>Option.some.inj h1▸Option.some.inj h2▸hf) fun i c g h1=>nomatch h1
theorem l7.instK(S:l7 Z cA μ st h){G:Prop}{c k:Nat}{C:Addr}{es:List (Str×OV)}{o:OV}{w:Value}(hC:cA c=some C)(e:j0 c st o=some (k,es))(hw:VE μ w o)
  (go:∀ x dx ents n sl,w = .ref x→μ[k+1]? = some dx→InstAt h x (instObj C dx) C (some (hW ents n sl))→mL μ ents.toList es→G):G :=
 sI e fun j e1 e=>Dn e fun c' h1 e=>Do e fun es' h2 e=>iO e fun hc e=>by
 cases e
 subst hc e1
 obtain⟨x,g1,rfl⟩:=hw
 obtain⟨C',dx,g2,g3,g4⟩:=S.of h1 g1
 cases hC.symm.trans g2
 obtain⟨ents,n,sl,g6,g7,_⟩:=S.of h2 g3
 exact go x dx ents n sl rfl g3 ⟨g4,rfl,rfl,g6⟩ g7
theorem wQ{w:Value}{v:OV}(h:VE μ w v):handedIn w=true:=by
 cases v with
 | d y=>obtain⟨r,_⟩:=h; cases r <;> rfl
 | o k=>obtain⟨_,_,rfl⟩:=h; rfl
 | ty T=>cases h; rfl
theorem XW{A:Around}{E:Value→Shared→Prop}{Q:Value→Shared→Prop}{c k:Nat}{es:List (Str×OV)}{o:OV}{a:Str}{v:OV}{w:Value}{expr:Bool}{C:Addr}(X:K.In s.heap)(S:l7 Z cA μ st s.heap)
  (hC:cA c=some C) (hok:zE K C a=true) (e:j0 c st o=some (k,es)) (hl:kJ es a=some v) (hw:VE μ w o)
  (hQ:∀ u,VE μ u v→Q u { s with toks:=s.toks+1 }):wpAny (model Z.prog Z.w) A (getAttr w a expr) Q E s :=
 S.instK hC e hw fun x dx ents n sl ew _ II En=>aB hok fun g1 h=>aB h fun g2 h=>by
 subst ew
 obtain⟨attr,hattr,g3⟩:=eF h
 obtain⟨en,h8,h9⟩:=(wU (a:=a) En).1 v hl
 exact get_value X II (plainGet_of g1).1 (findObj_own (v:=en.val) g2 hattr g3 (by show(match ents.toList.find? _ with | some e=>_ | none=>_)=_; rw[h8])) (wQ h9) (hQ _ h9)
theorem HP{ents:Array DictEntry}{n:Nat}{sl:Array (Option Value)}{xs:List (Str×OV)}{a:Str}(h:mL μ ents.toList xs)(e:kJ xs a=none):lookIn a (hW ents n sl)=some none:=by
 unfold lookIn; dsimp only; rw[(wU (a:=a) h).2 e,uM h]; rfl
theorem ZI{A:Around}{E:Value→Shared→Prop}{Q:Value×List Value→Shared→Prop}{c k:Nat}{es:List (Str×OV)}{o:OV}{a:Str}{w:Value}{pl:Sem Bool}{C f:Addr}(X:K.In s.heap)(S:l7 Z cA μ st s.heap)
  (hC:cA c=some C) (hok:B6 K C a f=true) (e:j0 c st o=some (k,es)) (hl:kJ es a=none) (hw:VE μ w o)
  (hQ:Q (.ref f,[w]) s):wpAny (model Z.prog Z.w) A (getMethod w a pl) Q E s :=
 S.instK hC e hw fun x dx ents n sl ew _ II En=>aB hok fun g1 h=>aB h fun g2 h=>aB h fun g3 h=>aB h fun g4 _=>by
 subst ew
 exact method_fn (od:=some _) X II (plainGet_of g1).1 (plainGet_of g1).2 (eq_of_beq g2) (eq_of_beq g3) (by show(lookIn a _).map _=_; rw[HP En hl]; rfl) hQ
theorem YZ{A:Around}{E:Value→Shared→Prop}{Q:Value→Shared→Prop}{c k:Nat}{es:List (Str×OV)}{o:OV}{a:Str}{w:Value}{expr:Bool}{C f:Addr}(X:K.In s.heap)(S:l7 Z cA μ st s.heap)
  (hC:cA c=some C) (hok:BQ K C a f=true) (e:j0 c st o=some (k,es)) (hw:VE μ w o)
  (h:codeAny (model Z.prog Z.w) A.in1 (.call (.ref f) ⟨[w],[]⟩) (fun r s'=>∃ v,r = .ok (.ret v)∧wpAny (model Z.prog Z.w) A (handedOut v) Q E s') { s with toks:=s.toks+1 }):wpAny (model Z.prog Z.w) A (getAttr w a expr) Q E s :=
 S.instK hC e hw fun x dx ents n sl ew _ II En=>aB hok fun g1 hk=>aB hk fun g2 hk=>by
 subst ew
 obtain⟨y,e1,hk⟩:=eF hk
 obtain⟨z,e2,hk⟩:=eF hk
 obtain⟨p,e3,hk⟩:=mQ hk
 subst e2 e3
 obtain⟨g3,hk⟩:=aA hk
 obtain⟨g4,hk⟩:=aA hk
 obtain⟨l,hrec,hk⟩:=eF hk
 obtain⟨rest,rfl⟩:∃ rest,l = .ref f::rest:=cV (m:=fun l=>∃ rest,l=Value.ref f::rest) hk fun g r hk=>J7 (m:=fun g=>∃ rest,g::r=Value.ref f::rest) hk fun g' hk=>⟨r,by rw[eq_of_beq hk]⟩
 have hcls:(clsIn K C).isSome=true:=by
  obtain⟨cd,hc,_⟩:=any_some g2
  rw[hc]; rfl
 refine get_bind (od:=some _) X II (plainGet_of g1).1 (findObj_data hcls e1 (eq_of_beq g3) (eq_of_beq g4)) (plainGet_of g1).2 (wpAny_call (prop_get (s:={ s with toks:=s.toks+1 }) X hrec ?_))
 exact codeAny_mono h fun r s'⟨v,e,hv⟩=>by subst e; exact hv
theorem XM{A:Around}{E:Value→Shared→Prop}{Q:Unit→Shared→Prop}{c:Nat}{o:OV}{a:Str}{v:OV}{w u:Value}{C:Addr}{st'':St}(X:K.In s'.heap)(at_:dF Z cA L μ h μ' st' s')
  (hC:cA c=some C) (hok:y9 K C a=true) (e:I3 c st' o a v=some st'') (hw:VE μ' w o) (hu:VE μ' u v)
  (hQ:∀ s'',dF Z cA L μ h μ' st'' s''→Q () s''):wpAny (model Z.prog Z.w) A (setAttr w a u) Q E s' :=
 bG e fun k es hi e=>iO e fun hsz e=>at_.so.instK hC hi hw fun x dx ents n sl ew h3 II En=>aB hok fun g1 hk=>aB hk fun g2 hk=>aB hk fun g3 g4=>by
 subst ew
 cases e
 have h5:s'.heap.get? dx=some (hW ents n sl):=II.dict
 refine set_plain X II (eq_of_beq g1) (osa_open (s:={ s' with toks:=s'.toks+1 }) X II g2 (eq_of_beq g3) fun b=>?_)
 obtain⟨cd,hcd,hd'⟩:=any_some g4
 refine wpAny_bind (wpAny_pure (wpAny_bind (wpAny_bind (wpAny_loadPart II.at_ (wpAny_bind (looks_clsIn (M:=model Z.prog Z.w) X hcd _ _ _ _ (fun _ _ e=>e) ?_))))))
 rw[hd']
 refine wpAny_pure (a:=some dx) (wpAny_bind (wpAny_pure (wpAny_bind ?_)))
 unfold nsSet
 refine wpAny_bind (wpAny_bind (wpAny_askSetting (wpAny_pure (wpAny_bind (wpAny_mkText (wpAny_bind (wpAny_loadPart h5 ?_)))))))
 dsimp only
 have hc:(!ents.any (·.key.isStr a)&&ents.any (·.refKey))=false:=by
  rw[show ents.any (fun x=>x.refKey)=false from by rw[← Array.any_toList]; exact uM En,Bool.and_false]
 rw[aRefKeyMayBeTheName_at,hc]
 have hput:∀ hsh tk,Obj.putName a hsh (.str a tk) u (hW ents n sl)=hW (putL a hsh (.str a tk) u ents.toList).toArray (putN a ents.toList n) sl:=fun hsh tk=>by
  have:=putName_dict a hsh (.str a tk) u ents.toList n
  rw[Obj.putName_eq]at this ⊢
  unfold Obj.putNameByArray at this ⊢
  dsimp only[dictOf,hW]at this ⊢
  split at this <;> rename_i q <;> rw[Array.toArray_toList]at q <;> rw[q] <;> exact congrArg (fun d:Data=>(⟨.type "dict",none,d,sl⟩:Obj)) (congrArg Obj.data this)
 have D':∀ hsh tk,(s'.heap.update dx (Obj.putName a hsh (.str a tk) u)).get? dx=some (hW (putL a hsh (.str a tk) u ents.toList).toArray (putN a ents.toList n) sl):=fun hsh tk=>(Heap.get?_update_self _ h5 (by rw[hput]; rfl)).trans (congrArg some (hput hsh tk))
 have E':=fun hsh tk=>NG (a:=a) (hsh:=hsh) (t:=tk) hu En
 refine wpAny_updatePart h5 (wpAny_bind (wpAny_lookBehind (D' _ _) (pastItsLine_dict (by rw[List.size_toArray,(E' _ _).length]; exact Nat.le_trans hsz (by decide))) (wpAny_pure (hQ _ ?_))))
 exact at_.turn h3 (Heap.SameBut.update ..) ⟨_,_,_,D' _ _,E' _ _,hsz⟩
end
abbrev qb(id:String)(vs:List Value):Prop:=(Code.builtin id ⟨vs,[]⟩).quiet=true
theorem CY{prog:Program}{w:World}{A:Around}{E:Value→Shared→Prop}{s:Shared}{l:Addr}{o:Obj}{Q:Bool→Shared→Prop}(hh:A.handled=none)(ho:s.heap.get? l=some o)(hq:S6 o)(h:Q false { s with toks:=s.toks+1+1 }):wpAny (model prog w) A (truthy (.ref l)) Q E s:=by
 obtain⟨hc,hdict,a,b,hd⟩:=hq
 have ho:s.heap.get? l=some ⟨.type "collections.deque",none,.fields #[a,b],o.slots⟩:=by rw[ho,← hc,← hdict,← hd]
 refine I0 (K:=[]) (congrFun PySem.W.Fast.te15245631507167962100 (.ref l)) 9 (List.replicate 5 (0,⟨.type "collections.deque",none,.fields #[a,b],o.slots⟩))
  (s.heap.get? l=some ⟨.type "collections.deque",none,.fields #[a,b],o.slots⟩∧s.heap.get? l=some ⟨.type "collections.deque",none,.fields #[a,b],o.slots⟩∧s.heap.get? l=some ⟨.type "collections.deque",none,.fields #[a,b],o.slots⟩∧s.heap.get? l=some ⟨.type "collections.deque",none,.fields #[a,b],o.slots⟩ ∧
   qb "collections.deque.__len__" [.ref l]∧s.heap.get? l=some ⟨.type "collections.deque",none,.fields #[a,b],o.slots⟩∧Q false { s with toks:=s.toks+1+1 }) hh ?_ ?_ ?_
 ·exact fun _ _ h=>nomatch h
 ·kernel_rfl
 ·exact⟨ho,ho,ho,ho,Code.quiet_builtin _ (by decide +kernel),ho,h⟩
end Kt.Internal
end
section
open PySem PySem.W PyProof.Rows PySem.Calls
namespace Kt.Internal
structure OD where
 Z:aE
 cA:Nat→Option Addr
 cl:jB
 ex:Nat→LO→St→Option (OV×St)
 lvl:Nat
 nm:List Str
def gW(Z:aE)(cA:Nat→Option Addr)(μ:List Addr)(h:Heap)(st:St)(v:OV)(Q:Value→Shared→Prop):Prop:=∀ w s' μ',dF Z cA jX μ h μ' st s'→VE μ' w v→Q w s'
structure Oc(D:OD)(sc:Scope)(A:Around)(env:Env)(ρ:LO)(μ:List Addr)(st:St)(s:Shared):Prop where
 ha:fJ D.Z (8*D.lvl+7) A
 hs:u5 sc env
 he:l5 D.Z D.nm env ρ μ s.heap
 hi:bB D.Z s
 so:l7 D.Z D.cA μ st s.heap
section
variable(D:OD)(sc:Scope)
def cN(e:Expr)(p:OE):Prop :=
 ∀{A:Around}{env:Env}{ρ:LO}{μ:List Addr}{st:St}{s:Shared}{v:OV}{st':St}{Q:Value→Shared→Prop}{E:Value→Shared→Prop},
  Oc D sc A env ρ μ st s→cR D.cl D.ex p ρ st=some (v,st')→gW D.Z D.cA μ s.heap st' v Q→wpAny (model D.Z.prog D.Z.w) A (eval e env) Q E s
def IB(e:Expr)(p:OE):Prop :=
 ∀{A:Around}{env:Env}{ρ:LO}{μ:List Addr}{st:St}{s:Shared}{t:Bool}{st':St}{Q:Bool→Shared→Prop}{E:Value→Shared→Prop},
  Oc D sc A env ρ μ st s→j9 D.cl D.ex p ρ st=some (t,st')→(∀ s' μ',dF D.Z D.cA jX μ s.heap μ' st' s'→Q t s')→wpAny (model D.Z.prog D.Z.w) A (isTrue e env (eval e env)) Q E s
def w8(es:List Expr)(ps:GC):Prop :=
 ∀{A:Around}{env:Env}{ρ:LO}{μ:List Addr}{st:St}{s:Shared}{ds:List OV}{st':St}{R:List Value→Shared→Prop}{E:Value→Shared→Prop}{pos:Pos},
  Oc D sc A env ρ μ st s→w6 D.cl D.ex ps ρ st=some (ds,st')→(∀ vs s' μ',dF D.Z D.cA jX μ s.heap μ' st' s'→gT μ' vs ds→R vs s')→wpAny (model D.Z.prog D.Z.w) A (spliced (backTo pos (starEach es env))) R E s
def XG(o:Option Expr)(p:OO):Prop :=
 ∀{A:Around}{env:Env}{ρ:LO}{μ:List Addr}{st:St}{s:Shared}{d:Option Int}{st':St}{Q:Value→Shared→Prop}{E:Value→Shared→Prop},
  Oc D sc A env ρ μ st s→XA D.cl D.ex p ρ st=some (d,st')→(∀ q:Option (Int×Tok),q.map (·.1)=d→∀ s' μ',dF D.Z D.cA jX μ s.heap μ' st' s'→Q (partValue q) s')→wpAny (model D.Z.prog D.Z.w) A (evalPart o env) Q E s
end
def bZ(Z:aE)(cA:Nat→Option Addr)(cl:jB)(lvl:Nat)(fA:Nat→Option Addr):Prop :=
 ∀{f:Nat}{a:Addr}{args:List OV}{st:St}{v:OV}{st':St},fA f=some a→cl f args st=some (v,st') →
  ∀{A:Around}{s:Shared}{vs:List Value}{μ:List Addr}{R:Result→Shared→Prop},fJ Z (8*lvl) A→bB Z s→Z.n≤s.heap.objs.size→l7 Z cA μ st s.heap→gT μ vs args →
   gW Z cA μ s.heap st' v (fun w s'=>R (.ok (.ret w)) s')→codeAny (model Z.prog Z.w) A (.call (.ref a) (j6 f vs)) R s
noncomputable def iD:List (Str×Value) :=
 [("len",.builtin "len"),("type",.type "type"),("int",.type "int"),("bool",.type "bool"),("str",.type "str"),("isinstance",.builtin "isinstance"),("object",.type "object"),("list",.type "list"),("StopIteration",.type "StopIteration")]
def gD(Z:aE):Prop:=∀ n v,(n,v)∈iD→Z.mg n=none∧Z.mb n=some v
section
variable{Z:aE}{cA:Nat→Option Addr}{μ μ' μ'':List Addr}{st st' st'':St}{s s' s'':Shared}{h:Heap}{A:Around}{Q:Value→Shared→Prop}{E:Value→Shared→Prop}{w u:Value}{x y v:OV}{lvl:Nat}
theorem gW.after(g:gW Z cA μ h st v Q)(a:dF Z cA jX μ h μ' st' s'):gW Z cA μ' s'.heap st v Q:=fun w s'' μ'' b hv=>g w s'' μ'' (a.trans b) hv
theorem gW.flat{d:PyData}(g:gW Z cA μ h st (.d d) Q)(a:dF Z cA jX μ h μ' st s')(hf:Kt.Internal.flat d=true):pW Z s' [] [] d Q:=fun v _ s'' I k r ok _=>g v s'' μ' (a.kp I k) (WI r ok hf)
theorem vL{α:Type}{d:α}{G:Prop}{v:OV}{f:PyData→Option α}(h:(sN v).bind f=some d)(k:∀ x,v = .d x→Kt.Internal.flat x=true→f x=some d→G):G :=
 aT h fun x hx h=>jY hx fun y e hy=>DX hy fun hf e'=>k x (e'▸e) (e'▸hf) h
theorem tD{o:Option PyData}{v:OV}{G:Prop}(h:qC o=some v)(k:∀ d,o=some d→Kt.Internal.flat d=true→v = .d d→G):G:=aT h fun d e h=>DX h fun hf e'=>k d e hf e'.symm
theorem sF{α:Type}{d:α}{G:Prop}{v:OV}{f:Str→Option α}(h:(nA v).bind f=some d)(k:∀ x,v = .d (.str x)→f x=some d→G):G :=
 aT h fun x hx h=>jY hx fun y e hy=>j5 hy fun s e' hs=>k x (by rw[e,e',Option.some.inj hs]) h
theorem pK{v:OV}{x:Str}(h:nA v=some x):v = .d (.str x):=jY h fun y e hy=>j5 hy fun s e' hs=>by rw[e,e',Option.some.inj hs]
theorem NT{x:Str}{m:Value→Prop}(h:VE μ w (.d (.str x)))(k:∀ t,bL (.str x)=true→m (.str x t)):m w:=W7 (m:=m) h.1 fun t=>k t h.2
theorem Ad{x:Int}{m:Value→Prop}(h:VE μ w (.d (.int x)))(k:∀ t,m (.int x t)):m w:=NV (m:=m) h.1 k
theorem sT{i:Int}{t:Tok}:VE μ (.int i t) (.d (.int i)):=⟨.int i t,rfl⟩
theorem lC{b:Bool}:VE μ (.bool b) (.d (.bool b)):=⟨.bool b,rfl⟩
theorem nM:VE μ .none (.d .none):=⟨.none,rfl⟩
theorem mM{x:Str}{t:Tok}(h:bL (.str x)=true):VE μ (.str x t) (.d (.str x)):=⟨.str x t,h⟩
theorem l7.listAt{k:Nat}{xs:List OV}(S:l7 Z cA μ st h)(hk:st[k]? = some (.list xs))(hw:VE μ w (.o k)):∃ a items n sl,w = .ref a∧μ[k]? = some a∧h.get? a=some (bY items n sl)∧gT μ items.toList xs∧items.size=xs.length∧xs.length≤1001:=by
 obtain⟨a,ha,rfl⟩:=hw
 obtain⟨items,n,sl,h2,h3,h4⟩:=S.of hk ha
 exact⟨a,items,n,sl,rfl,ha,h2,h3,Array.length_toList.symm.trans h3.length,h4⟩
theorem AG{n:Nat}(h:n≤1001):n≤sizeLine:=Nat.le_trans h (by decide)
theorem nN{b:Bool}{R:Bool→Shared→Prop}(hh:A.handled=none)(a:dF Z cA jX μ h μ' st' s')(hw:VE μ' w v)(ht:sX st' v=some b)(g:∀ s'',dF Z cA jX μ h μ' st' s''→R b s''):wpAny (model Z.prog Z.w) A (truthy w) R E s':=by
 cases v with
 | d x=>exact iO ht fun _ ht=>let⟨r,ok,_⟩:=pX.rd hw s'.heap; eN a.i r ok ht fun s'' I k=>g s'' (a.kp I k)
 | o k =>
  exact aT ht fun f hf ht=>by
   cases f with
   | list xs =>
    cases ht
    obtain⟨b,items,n,sl,rfl,_,h2,_,h4,h5⟩:=a.so.listAt hf hw
    have e:items.isEmpty=xs.isEmpty:=by
     unfold Array.isEmpty
     rw[h4]
     cases xs <;> rfl
    exact wpAny_truthy_list ⟨_,h2,rfl,n,rfl⟩ (SH h4 h5) (e▸g _ (a.tok _))
   | deq =>
    cases ht
    obtain⟨b,ha,rfl⟩:=hw
    obtain⟨o,h2,h3⟩:=a.so.of hf ha
    exact CY hh h2 h3 (g _ (a.tok _))
   | _=>cases ht
 | ty T=>cases ht
theorem Bh{op:Operator}(a:dF Z cA jX μ h μ' st' s')(hw:VE μ' w x)(hu:VE μ' u y)(hv:GJ op x y=some v)(g:gW Z cA μ h st' v Q):wpAny (model Z.prog Z.w) A (binaryOp op w u) Q E s' :=
 vL hv fun x' e1 _ hv=>vL hv fun y' e2 _ hv=>tD hv fun d h3 f3 e=>by
 subst e1 e2 e
 obtain⟨r1,ok1,_⟩:=pX.rd hw s'.heap
 obtain⟨r2,ok2,_⟩:=pX.rd hu s'.heap
 exact vZ (O:=[]) (es:=[]) a.i r1 r2 ok1 ok2 h3 (g.flat a f3) nofun nofun nofun
theorem n3{w:Value}{x:PyData}(h:pX w x)(a:Addr):(plainIs w (.ref a)=true∧(w == .ref a)=false)∧plainIs (.ref a) w=true∧(Value.ref a==w)=false:=by
 obtain⟨r,_⟩:=h
 cases r <;> exact⟨⟨rfl,rfl⟩,rfl,rfl⟩
theorem Co{b:Bool}(S:l7 Z cA μ st s.heap)(hw:VE μ w x)(hu:VE μ u y)(hb:Aw x y=some b):(Q (.bool b) s→wpAny (model Z.prog Z.w) A (compareOp .Is w u) Q E s)∧(Q (.bool !b) s→wpAny (model Z.prog Z.w) A (compareOp .IsNot w u) Q E s):=by
 have both:(∀ R:Bool→Shared→Prop,R b s→wpAny (model Z.prog Z.w) A (isSame w u) R E s)→(Q (.bool b) s→wpAny (model Z.prog Z.w) A (compareOp .Is w u) Q E s)∧(Q (.bool !b) s→wpAny (model Z.prog Z.w) A (compareOp .IsNot w u) Q E s) :=
  fun h=>⟨fun q=>by show wpAny _ A (do return .bool (← isSame w u)) Q E s; exact wpAny_bind (h _ (wpAny_pure q)),fun q=>by show wpAny _ A (do return .bool (!(← isSame w u))) Q E s; exact wpAny_bind (h _ (wpAny_pure q))⟩
 cases x with
 | d x =>
  refine iO hb fun fx hb=>?_
  cases y with
  | d y=>exact iO hb fun fy hb=>tN (pX.rd hw s.heap).1 (pX.rd hu s.heap).1 hb
  | o k=>obtain⟨a,_,rfl⟩:=hu; cases hb; exact both fun R q=>wpAny_isSame_plain (n3 hw a).1.1 ((n3 hw a).1.2▸q)
  | ty T=>cases hb
 | o k =>
  obtain⟨a,ha,rfl⟩:=hw
  cases y with
  | d y=>refine iO hb fun fy hb=>?_; cases hb; exact both fun R q=>wpAny_isSame_plain (n3 hu a).2.1 ((n3 hu a).2.2▸q)
  | o j =>
   obtain⟨c,hc,rfl⟩:=hu
   refine both fun R hq=>?_
   cases hb
   by_cases e:k=j
   ·subst e
    cases ha.symm.trans hc
    exact wpAny_isSame_ref_self (beq_self_eq_true k▸hq)
   ·obtain⟨o1,e1,n1⟩:=S.ex ha
    obtain⟨o2,e2,_⟩:=S.ex hc
    exact wpAny_isSame_ref_other (fun e'=>e (getElem?_nodup S.nd ha (e'▸hc))) e1 e2 n1 (beq_false_of_ne e▸hq)
  | ty T=>cases hb
 | ty T =>
  cases y with
  | ty U =>
   cases hw; cases hu; cases hb
   have:(Value.type T==Value.type U)=(T==U):=by
    by_cases e:T=U
    ·subst e; rw[beq_self_eq_true,beq_self_eq_true]
    ·rw[beq_false_of_ne e,beq_false_of_ne fun h=>e (Value.type.inj h)]
   exact both fun R q=>wpAny_isSame_plain rfl (this▸q)
  | _=>cases hb
theorem XS{op:CmpOp}(hA:fJ Z lvl A)(a:dF Z cA jX μ h μ' st' s')(hw:VE μ' w x)(hu:VE μ' u y)(hv:BD op x y=some v)(g:gW Z cA μ h st' v Q):wpAny (model Z.prog Z.w) A (compareOp op w u) Q E s':=by
 have rest:((sN x).bind fun x=>(sN y).bind fun y=>qC (u4 op x y))=some v→wpAny (model Z.prog Z.w) A (compareOp op w u) Q E s':=fun hv =>
  vL hv fun x' e1 _ hv=>vL hv fun y' e2 _ hv=>tD hv fun d h3 f3 e=>by
  subst e1 e2 e
  obtain⟨r1,ok1,_⟩:=pX.rd hw s'.heap
  obtain⟨r2,ok2,_⟩:=pX.rd hu s'.heap
  exact pL (O:=[]) (es:=[]) hA a.i r1 r2 ok1 ok2 h3 (g.flat a f3)
 cases op with
 | Is=>exact b7 hv fun b hb e=>(Co a.so hw hu hb).1 (g _ _ _ a (e▸lC))
 | IsNot=>exact b7 hv fun b hb e=>(Co a.so hw hu hb).2 (g _ _ _ a (e▸lC))
 | _=>exact rest hv
theorem Bg(a:dF Z cA jX μ h μ' st' s')(hw:VE μ' w x)(hu:VE μ' u y)(hv:fQ st' x y=some v)(g:gW Z cA μ h st' v Q) :
  (∃ T id,s'.TypeIs w T∧typeLookup (.type T) "__getitem__" = pure (some (.builtin id)))∧wpAny (model Z.prog Z.w) A (getItem w u) Q E s':=jY hv fun y' ey hv=>by
 subst ey
 cases x with
 | d x =>
  exact j5 hv fun sx ex hv=>tD hv fun d h3 f3 e=>by
   subst ex e
   obtain⟨r1,ok1,_⟩:=pX.rd hw s'.heap
   obtain⟨r2,ok2,_⟩:=pX.rd hu s'.heap
   exact⟨jR r1 rfl,vY (O:=[]) (es:=[]) a.i r1 r2 ok1 h3 (g.flat a f3) nofun⟩
 | o k =>
  exact EE hv fun i ei hv1=>RO hv1 fun xs hk hv2=>aT hv2 fun j hp hv3=>by
   subst ei
   obtain⟨b,items,n,sl,rfl,_,h2,h3,h4,h5⟩:=a.so.listAt hk hw
   refine⟨⟨"list",_,⟨_,h2,rfl⟩,slot_list_getitem.lookup⟩,Ad (m:=fun u=>wpAny _ A (getItem _ u) Q E s') hu fun t=>?_⟩
   obtain⟨hj,h5,h6,h7⟩:=fU hp
   obtain⟨z,ev,hz⟩:=h3.get hv3
   have ev':items[j]? = some z:=Array.getElem?_toList▸ev
   have hq:Q z s':=g z s' μ' a hz
   have hl:s'.heap.IsList b items:=⟨_,h2,rfl,n,rfl⟩
   rcases h7 with⟨h7,rfl⟩| ⟨h7,h8,rfl⟩
   ·exact wpAny_getItem_list hl h7 h6 ev' hq
   ·exact wpAny_getItem_list_neg hl h7 (h4▸wJ h8) h5 (by rw[h4]; exact ev') hq
 | ty T=>cases hv
theorem dF.turnL{b:Addr}{k:Nat}{R:Unit→Shared→Prop}{xs ys:List OV}{f:Array Value→Array Value}(a:dF Z cA jX μ h μ' st' s')(hk:μ'[k]? = some b)(hx:st'[k]? = some (.list xs))(hl:ys.length≤1001)
  (hg:∀{items:Array Value},gT μ' items.toList xs→gT μ' (f items).toList ys) (g:∀ s'',dF Z cA jX μ h μ' (st'.set k (.list ys)) s''→R () s''):(∃ items n sl,s'.heap.get? b=some (bY items n sl))∧wpAny (model Z.prog Z.w) A (updateSeq b f) R E s':=by
 obtain⟨items,n,sl,h2,h3,h4⟩:=a.so.of hx hk
 have sz:∀{vs:Array Value}{xs:List OV},gT μ' vs.toList xs→xs.length≤1001→vs.size≤sizeLine:=fun h hl=>Array.length_toList.symm.trans h.length▸AG hl
 exact⟨⟨items,n,sl,h2⟩,wpAny_updateSeq h2 rfl (hz:=sz h3 h4) (_hz':=Nat.le_succ_of_le (sz (hg h3) hl)) (g _ (a.turn hk (Heap.SameBut.update ..) ⟨f items,_,sl,Heap.get?_update_self (Obj.mapSeq f) h2 rfl,hg h3,hl⟩))⟩
theorem J6{b:Addr}{k:Nat}{R:Unit→Shared→Prop}(a:dF Z cA jX μ h μ' st' s')(hp:nE st' k v=some st'')(hk:μ'[k]? = some b)(hv:VE μ' u v)(g:∀ s'',dF Z cA jX μ h μ' st'' s''→R () s'') :
  (∃ items n sl,s'.heap.get? b=some (bY items n sl))∧wpAny (model Z.prog Z.w) A (updateSeq b (·.push u)) R E s':=RO hp fun xs hx hp=>iO hp fun hlen e=>by
 cases e
 exact a.turnL hk hx (by rw[List.length_append]; exact Nat.succ_le_succ hlen) (fun h=>by rw[Array.toList_push]; exact h.append (.cons hv .nil)) g
theorem R8{b:Addr}{k:Nat}(a:dF Z cA jX μ h μ' st' s')(hp:nE st' k v=some st'')(hk:μ'[k]? = some b)(hv:VE μ' u v)(g:gW Z cA μ h st'' (.d .none) Q) :
  (∃ items n sl,s'.heap.get? b=some (bY items n sl))∧wpAny (model Z.prog Z.w) A (updateSeq b (·.push u) >>= fun _=>ret .none) (fun fin s''=>∃ v,fin=PySem.Fin.done (.ret v)∧Q v s'') E s' :=
 let⟨o,w⟩:=J6 (R:=fun _ s''=>wpAny (model Z.prog Z.w) A (ret .none) (fun fin s''=>∃ v,fin=PySem.Fin.done (.ret v)∧Q v s'') E s'') a hp hk hv fun s'' a'=>wpAny_pure ⟨.none,rfl,g _ _ _ a' nM⟩; ⟨o,wpAny_bind w⟩
end
end Kt.Internal
end
section
open PySem PySem.W PyProof.Rows PySem.Calls Builtin Builtin.ObjectAttr
namespace Kt.Internal
section
variable{D:OD}{sc:Scope}{K:Frag}{fA:Nat→Option Addr}{A:Around}{env:Env}{ρ:LO}{μ μ':List Addr}{st st':St}{s s':Shared}
theorem Oc.go(C:Oc D sc A env ρ μ st s)(a:dF D.Z D.cA jX μ s.heap μ' st' s'):Oc D sc A env ρ μ' st' s':=⟨C.ha,C.hs,C.he.step a.t,a.i,a.so⟩
theorem Oc.at(C:Oc D sc A env ρ μ st s):dF D.Z D.cA jX μ s.heap μ st s:=.here C.hi C.so
theorem J4{e:Expr}{p:OE}(h:cN D sc e p)(hw:∀ env,isTrue e env (eval e env)=(do let v ← eval e env; standAt e.pos; holding [v] (truthy v))):cN D sc e p∧IB D sc e p :=
 ⟨h,fun{A env ρ μ st s t st' Q E}C hd hQ=>bG hd fun v st₁ hx hd=>kE hd fun hb e=>by
 subst e
 rw[hw]
 exact wpAny_bind (h C hx fun w s' μ' a hv=>wpAny_bind (wpAny_standAt (wpAny_holding (nN C.ha.handled a hv hb fun s'' a'=>hQ s'' μ' a'))))⟩
theorem PX{d:PyData}{c:Const}{k:Nat}{pos:Pos}(h:OH d=some c):cN D sc (.Constant c k pos) (.lit d):=fun{A env ρ μ st s v st' Q E}C hd g=>DX hd fun hf e=>by
 cases e
 rw[arm_eval_Constant]
 cases d with
 | none=>cases h; exact wpAny_pure (g _ _ _ C.at nM)
 | bool a=>cases h; exact wpAny_pure (g _ _ _ C.at lC)
 | int a=>cases h; exact wpAny_mkInt (g _ _ _ (C.at.tok _) sT)
 | str a=>exact DX h fun h2 e=>by subst e; exact wpAny_mkText (g _ _ _ (C.at.tok _) (mM h2))
 | _=>cases h
theorem Oc.load(C:Oc D sc A env ρ μ st s){x:Nat}{n:Str}{v:OV}{Q:Value→Shared→Prop}{E:Value→Shared→Prop}(hn:D.nm[x]? = some n)(hv:sc.names.lookup n=some .local)
  (hx:(ρ[x]?).join=some v) (hQ:∀ w,VE μ w v→Q w s):wpAny (model D.Z.prog D.Z.w) A (loadName env n) Q E s :=
 let⟨_,hm,hmv⟩:=C.he.ns; let⟨w,hw,hwv⟩:=hmv x v n hx hn; wpAny_loadName_local C.he.kind (C.hs.1 n hv) hm hw (hQ w hwv)
theorem yF{x:Nat}{n:Str}{pos:Pos}(hn:D.nm[x]? = some n)(hv:sc.names.lookup n=some .local)(hd:n≠("__debug__" : Str)):cN D sc (.Name n pos) (.var x):=fun{A env ρ μ st s v st' Q E}C he g=>b7 he fun v' hx e=>by
 cases e
 exact wpAny_Name (C.load hn hv hx fun w hw=>g _ _ _ C.at hw) (beq_eq_false_iff_ne.mpr hd)
theorem Oc.glob(C:Oc D sc A env ρ μ st s){n:Str}{pos:Pos}{v:Value}{Q:Value→Shared→Prop}{E:Value→Shared→Prop}(hg:aP sc n=true)(hv:D.Z.mg n=some v)(h:Q v s):wpAny (model D.Z.prog D.Z.w) A (eval (.Name n pos) env) Q E s :=
 Calls.Name_function_global C.he.kind (C.hs.2.2 n (fT hg).1) (Calls.loadGlobal_global (mg:=D.Z.mg) (C.he.glob▸C.hi.glob) hv h) (fT hg).2
theorem Oc.blt(C:Oc D sc A env ρ μ st s)(hB:gD D.Z){n:Str}{pos:Pos}{v:Value}{Q:Value→Shared→Prop}{E:Value→Shared→Prop}(hg:aP sc n=true)(hv:(n,v)∈iD)(h:Q v s):wpAny (model D.Z.prog D.Z.w) A (eval (.Name n pos) env) Q E s :=
 Calls.Name_function_global C.he.kind (C.hs.2.2 n (fT hg).1) (Calls.loadGlobal_builtin (mg:=D.Z.mg) (mb:=D.Z.mb) (C.he.glob▸C.hi.glob) (hB n v hv).1 (C.he.blt▸C.hi.bltn) (hB n v hv).2 h) (fT hg).2
theorem J5{T:String}{n:Str}{pos:Pos}(hB:gD D.Z)(hg:aP sc n=true)(hv:(n,.type T)∈iD):cN D sc (.Name n pos) (.ty T):=fun{A env ρ μ st s v st' Q E}C he g=>by
 cases he
 exact C.blt hB hg hv (g _ _ _ C.at rfl)
theorem MF{c:Nat}{C:Addr}{x:Expr}{a:Str}{pos:Pos}{p:OE}(hK:∀ h,D.Z.TabI h→K.In h)(hC:D.cA c=some C)(hok:zE K C a=true)(hc:cJ x=false)(h:cN D sc x p):cN D sc (.Attribute x a pos) (.attr c p a):=fun{A env ρ μ st s v st' Q E}X he g =>
 bG he fun o st₁ hx he=>bG he fun k es hi he=>kE he fun hl e=>by
 subst e
 rw[arm_eval_Attribute,aQ hc]
 exact wpAny_bind (h X hx fun w s₁ μ₁ a₁ hw=>wpAny_bind (wpAny_standAt (wpAny_bind (wpAny_holding (XW (hK _ a₁.i.tab) a₁.so hC hok hi hl hw fun u hu=>wpAny_bind (wpAny_letTemporaryGo (wpAny_pure (g _ _ _ (a₁.tok _) hu))))))))
theorem VH{a:OE}{e:Expr}{pos:Pos}(h:cN D sc e a):cN D sc (.UnaryOp .Not e pos) (.nt a):=fun{A env ρ μ st s v st' Q E}C he g=>bG he fun o st₁ hx he=>b7 he fun b hb e=>by
 cases e
 rw[arm_eval_UnaryOp]
 exact wpAny_bind (h C hx fun w s₁ μ₁ a₁ hw=>wpAny_bind (wpAny_standAt (wpAny_holding (wpAny_holding (wpAny_bind (nN C.ha.handled a₁ hw hb fun s₂ a₂=>wpAny_pure (g _ _ _ a₂ lC)))))))
theorem VF{a:OE}{e:Expr}{pos:Pos}(h:IB D sc e a):IB D sc (.UnaryOp .Not e pos) (.nt a):=fun{A env ρ μ st s t st' Q E}C he hQ=>bG he fun o st₁ hx he=>bG hx fun y st₂ hy hx=>b7 hx fun b hb e=>by
 cases e
 exact kE he fun ht e=>by
  subst e
  cases ht
  exact wpAny_isTrue_Not (h (t:=b) C ((congrArg (Option.bind · _) hy).trans (congrArg (Option.map _) hb)) hQ)
theorem P3{op:Operator}{a b:OE}{l r:Expr}{pos:Pos}(ha:cN D sc l a)(hb:cN D sc r b):cN D sc (.BinOp l op r pos) (.bin op a b):=fun{A env ρ μ st s v st' Q E}C he g=>bG he fun x st₁ hx he=>bG he fun y st₂ hy he=>kE he fun hv e=>by
 subst e
 exact wpAny_BinOp (ha C hx fun w s₁ μ₁ a₁ hw=>hb (C.go a₁) hy fun u s₂ μ₂ a₂ hu=>Bh (a₁.trans a₂) (hw.pre a₂.t.pre) hu hv g)
theorem zV{q:Bool}{a b:OE}{v:OV}{G:Prop}(hd:cR D.cl D.ex (.bool q a b) ρ st=some (v,st'))(k:∀ x st₁ t,cR D.cl D.ex a ρ st=some (x,st₁)→sX st₁ x=some t→(t=q∧cR D.cl D.ex b ρ st₁=some (v,st'))∨(t=(!q)∧x=v∧st₁=st')→G):G :=
 bG hd fun x st₁ hx hd=>aT hd fun t ht hd=>k x st₁ t hx ht <| by
  by_cases h:(t==q)=true
  ·rw[if_pos h]at hd; exact .inl ⟨eq_of_beq h,hd⟩
  ·rw[if_neg h]at hd; cases hd; exact .inr ⟨by cases t <;> cases q <;> first | rfl | exact absurd rfl h,rfl,rfl⟩
theorem zX{q:Bool}{a b:OE}{x:Expr}{rest:List Expr}{pos:Pos}(hr:∀ env,∃ y r,evalEach rest env=y::r)(ha:cN D sc x a)
  (hb:∀{A:Around}{env:Env}{ρ:LO}{μ:List Addr}{st:St}{s:Shared}{v:OV}{st':St}{Q:Value→Shared→Prop}{E:Value→Shared→Prop},
   Oc D sc A env ρ μ st s→cR D.cl D.ex b ρ st=some (v,st')→gW D.Z D.cA μ s.heap st' v Q→wpAny (model D.Z.prog D.Z.w) A (boolOp pos (kA q) (evalEach rest env)) Q E s) :
  cN D sc (.BoolOp (kA q) (x::rest) pos) (.bool q a b):=fun{A env ρ μ st s v st' Q E}C hd g=>zV hd fun y st₁ t hx ht hc=>by
 rw[arm_eval_BoolOp,arm_evalEach_cons]
 have hb':=fun{μ₂ st₂ s₂}(a₂:dF D.Z D.cA jX μ s.heap μ₂ st₂ s₂)h=>hb (Q:=Q) (E:=E) (C.go a₂) h (g.after a₂)
 obtain⟨y',r',e⟩:=hr env
 rw[e]at hb' ⊢
 refine wpAny_bind (ha C hx fun w s₁ μ₁ a₁ hw=>wpAny_bind (wpAny_standAt (wpAny_bind (wpAny_holding (nN C.ha.handled a₁ hw ht fun s₂ a₂=>?_)))))
 rcases hc with⟨rfl,hc⟩| ⟨rfl,rfl,rfl⟩
 ·have:=hb' a₂ hc
  cases t <;> exact this
 ·have:Q w s₂:=g w s₂ μ₁ a₂ hw
  cases q <;> exact wpAny_pure this
theorem zW{q:Bool}{a b:OE}{x:Expr}{rest:List Expr}{pos:Pos}(ha:IB D sc x a)
  (hb:∀{A:Around}{env:Env}{ρ:LO}{μ:List Addr}{st:St}{s:Shared}{t:Bool}{st':St}{Q:Bool→Shared→Prop}{E:Value→Shared→Prop},
   Oc D sc A env ρ μ st s→j9 D.cl D.ex b ρ st=some (t,st')→(∀ s' μ',dF D.Z D.cA jX μ s.heap μ' st' s'→Q t s')→wpAny (model D.Z.prog D.Z.w) A (allTrue (kA q) rest env) Q E s) :
  IB D sc (.BoolOp (kA q) (x::rest) pos) (.bool q a b):=fun{A env ρ μ st s r st' Q E}C hd hQ=>bG hd fun v st₂ hv hd=>kE hd fun hr e=>by
 subst e
 refine zV hv fun y st₁ t hx ht hc=>?_
 rw[arm_isTrue_BoolOp,arm_allTrue_cons]
 refine wpAny_bind (ha (t:=t) C ((congrArg (Option.bind · _) hx).trans (congrArg (Option.map _) ht)) fun s₁ μ₁ a₁=>?_)
 rcases hc with⟨rfl,hc⟩| ⟨rfl,rfl,rfl⟩
 ·have:=hb (E:=E) (C.go a₁) (t:=r) ((congrArg (Option.bind · _) hc).trans (congrArg (Option.map _) hr)) fun s₂ μ₂ a₂=>hQ s₂ μ₂ (a₁.trans a₂)
  cases t <;> exact this
 ·cases ht.symm.trans hr
  have:=hQ s₁ μ₁ a₁
  cases q <;> exact wpAny_pure this
theorem P0{op:CmpOp}{a b:OE}{l r:Expr}{pos:Pos}(hm:behindInMarks op r=false)(ha:cN D sc l a)(hb:cN D sc r b):cN D sc (.Compare l [op] [r] pos) (.cmp op a b):=fun{A env ρ μ st s v st' Q E}C he g=>bG he fun x st₁ hx he=>bG he fun y st₂ hy he=>kE he fun hv e=>by
 subst e
 exact wpAny_Compare1 (ha C hx fun w s₁ μ₁ a₁ hw=>hb (C.go a₁) hy fun u s₂ μ₂ a₂ hu=>XS C.ha (a₁.trans a₂) (hw.pre a₂.t.pre) hu hv g) hm
theorem PQ{op:CmpOp}{a b:OE}{l r:Expr}{pos:Pos}(hm:behindInMarks op r=false)(ha:cN D sc l a)(hb:cN D sc r b):IB D sc (.Compare l [op] [r] pos) (.cmp op a b):=fun{A env ρ μ st s t st' Q E}C he hQ=>bG he fun v st₃ hv he=>kE he fun ht e=>by
 subst e
 exact bG hv fun x st₁ hx hv1=>bG hv1 fun y st₂ hy hv2=>kE hv2 fun hv3 e=>by
  subst e
  exact wpAny_isTrue_Compare1 (ha C hx fun w s₁ μ₁ a₁ hw=>hb (C.go a₁) hy fun u s₂ μ₂ a₂ hu=>XS C.ha (a₁.trans a₂) (hw.pre a₂.t.pre) hu hv3 fun z s₃ μ₃ a₃ hz=>nN C.ha.handled a₃ hz ht fun s₄ a₄=>hQ s₄ μ₃ a₄) hm
theorem c8:w8 D sc [] .nil:=fun{A env ρ μ st s ds st' R E pos}C hd hR=>by
 cases hd
 exact Calls.spliced_nil (hR [] s μ C.at .nil)
theorem b5{e:Expr}{es:List Expr}{p:OE}{ps:GC}(hstar:aC e=false)(h1:cN D sc e p)(h2:w8 D sc es ps):w8 D sc (e::es) (.cons p ps):=fun{A env ρ μ st s ds st' R E pos}C hd hR=>bG hd fun x st₁ hx hd=>b7 hd fun q hr e=>by
 cases e
 rw[bF hstar]
 exact Calls.spliced_cons (h1 C hx fun w s₁ μ₁ a₁ hw=>h2 (C.go a₁) hr fun vs s₂ μ₂ a₂ hvs=>hR (w::vs) s₂ μ₂ (a₁.trans a₂) (.cons (hw.pre a₂.t.pre) hvs))
theorem fJ.in1{Z:aE}{l:Nat}{A:Around}(h:fJ Z (8*l+7) A):fJ Z (8*l) A.in1:=h.in_.mono (Nat.le_add_right _ 6)
theorem iK:∀{es:List Expr},(es.all fun e=>!aC e)=true→aX es
 | [],_=>iI
 | _::_,h=>dP (bJ (aA h).1) (iK (aA h).2)
theorem f4{f:Value}{es:List Expr}{ps:GC}{pos:Pos}{ds:List OV}{R:Args→Shared→Prop}{E:Value→Shared→Prop}(hpl:aX es)(h:w8 D sc es ps)(C:Oc D sc A env ρ μ st s)(hd:w6 D.cl D.ex ps ρ st=some (ds,st'))
  (hR:∀ vs s' μ',dF D.Z D.cA jX μ s.heap μ' st' s'→gT μ' vs ds→R ⟨vs,[]⟩ s'):wpAny (model D.Z.prog D.Z.w) A (evalArgs f true (backTo pos (starEach es env)) []) R E s:=by
 have:=h (R:=fun vs s'=>R ⟨vs,[]⟩ s') (E:=E) (pos:=pos) C hd hR
 cases es with
 | nil =>
  unfold evalArgs
  show wpAny _ A (spliced [] >>= _) R E s
  refine wpAny_bind (wpAny_mono this (fun vs s' h'=>wpAny_bind (wpAny_pure (wpAny_holding ?_))) fun _ _ e=>e)
  exact wpAny_bind (wpAny_pure (wpAny_bind (wpAny_pure (wpAny_pure h'))))
 | cons e es=>exact bW (hpl.2.1 nofun env pos) this
theorem ME{f:Nat}{a:Addr}{n:Str}{p pos:Pos}{es:List Expr}{ps:GC}(hkw:H9 f=[])(hK:∀ h,D.Z.TabI h→K.In h)(hC:bZ D.Z D.cA D.cl D.lvl fA)(hf:fA f=some a)(hg:aP sc n=true)(hv:D.Z.mg n=some (.ref a))(hk:keepIn K (.ref a)=true)
  (hpl:aX es) (h:w8 D sc es ps):cN D sc (.Call (.Name n p) es [] pos) (.call f ps):=fun{A env ρ μ st s v st' Q E}C he g=>bG he fun ds st₁ hx hd=>by
 rw[bX]
 exact wpAny_bind (C.glob hg hv (callWith_of (P:=K.In) (by rw[hpl.1]; rfl) (keeps_K hk) (f4 hpl h C hx fun vs s₁ μ₁ a₁ hvs=>⟨hK _ a₁.i.tab,wpAny_call (i8 hkw▸hC hf hd (C.ha.mono (Nat.le_add_right _ _)) a₁.i (C.he.step a₁.t).size a₁.so hvs (g.after a₁))⟩)))
theorem HD{c f:Nat}{C a:Addr}{o:Expr}{m:Str}{apos pos:Pos}{es:List Expr}{p:OE}{ps:GC}(hkw:H9 f=[])(hK:∀ h,D.Z.TabI h→K.In h)(hC:bZ D.Z D.cA D.cl D.lvl fA)(hcA:D.cA c=some C)(hf:fA f=some a)(hok:B6 K C m a=true)(hc0:cJ o=false)(hline:(apos.endLine==pos.line)=true)
  (hlen:es.length≤5) (hpl:aX es) (ho:cN D sc o p) (h:w8 D sc es ps):cN D sc (.Call (.Attribute o m apos) es [] pos) (.mcall c p m f ps):=fun{A env ρ μ st s v st' Q E}X he g =>
 bG he fun x st₁ hx he=>bG he fun k ats hi he=>iO he fun hno he=>bG he fun ds st₂ hy hd=>by
 rw[arm_eval_Call,aQ hc0]
 have hpos:methodCallPos true o env apos pos=pure pos:=by unfold methodCallPos; rw[hline]; rfl
 have hk:keepIn K (.ref a)=true:=(aA (aA (aA (aA hok).2).2).2).2
 refine wpAny_bind (ho X hx fun w s₁ μ₁ a₁ hw=>wpAny_bind (wpAny_standAt ?_))
 unfold methodCall
 rw[jE hpl hlen]
 refine wpAny_bind (wpAny_holding (ZI (hK _ a₁.i.tab) a₁.so hcA hok hi (Option.isNone_iff_eq_none.mp hno) hw (wpAny_bind (wpAny_of_eq hpos (callWith_of (P:=K.In) (by rw[hpl.1]; rfl) (keeps_K hk) (f4 hpl h (X.go a₁) hy fun vs s₂ μ₂ a₂ hvs=>?_))))))
 have a₁₂:=a₁.trans a₂
 exact⟨hK _ a₂.i.tab,wpAny_call (i8 hkw▸hC (args:=x::ds) (vs:=w::vs) hf hd (X.ha.mono (Nat.le_add_right _ _)) a₂.i (X.he.step a₁₂.t).size a₂.so (.cons (hw.pre a₂.t.pre) hvs) (g.after a₁₂))⟩
theorem MB{c f:Nat}{C a:Addr}{x:Expr}{nmA:Str}{pos:Pos}{p:OE}(hkw:H9 f=[])(hK:∀ h,D.Z.TabI h→K.In h)(hC:bZ D.Z D.cA D.cl D.lvl fA)(hcA:D.cA c=some C)(hf:fA f=some a)(hok:BQ K C nmA a=true)(hc:cJ x=false)(h:cN D sc x p) :
  cN D sc (.Attribute x nmA pos) (.prop c p nmA f):=fun{A env ρ μ st s v st' Q E}X he g=>bG he fun o st₁ hx he=>bG he fun k es hi he=>iO he fun _ hd=>by
 rw[arm_eval_Attribute,aQ hc]
 refine wpAny_bind (h X hx fun w s₁ μ₁ a₁ hw=>wpAny_bind (wpAny_standAt (wpAny_bind (wpAny_holding (YZ (hK _ a₁.i.tab) a₁.so hcA hok hi hw ?_)))))
 refine i8 hkw▸hC (args:=[o]) (s:={ s₁ with toks:=s₁.toks+1 }) (vs:=[w]) hf hd X.ha.in1 (a₁.i.tok _) (X.he.step a₁.t).size a₁.so (.cons hw .nil) fun u s₂ μ₂ a₂ hu=>⟨u,rfl,?_⟩
 rw[handedOut_of (wQ hu)]
 exact wpAny_pure (wpAny_bind (wpAny_letTemporaryGo (wpAny_pure (g u s₂ μ₂ ((a₁.tok _).trans a₂) hu))))
theorem kP{n:Str}{f:Value}{p pos:Pos}{es:List Expr}{ps:GC}{ds:List OV}{Q:Value→Shared→Prop}{E:Value→Shared→Prop}(hB:gD D.Z)(hg:aP sc n=true)(hv:(n,f)∈iD)(hnr:∀ a,f ≠ .ref a)
  (hpl:aX es) (h:w8 D sc es ps) (C:Oc D sc A env ρ μ st s) (hd:w6 D.cl D.ex ps ρ st=some (ds,st'))
  (hR:∀ vs s' μ',dF D.Z D.cA jX μ s.heap μ' st' s'→gT μ' vs ds→wpAny (model D.Z.prog D.Z.w) A (call f vs) Q E s') :
  wpAny (model D.Z.prog D.Z.w) A (eval (.Call (.Name n p) es [] pos) env) Q E s:=by
 rw[bX]
 exact wpAny_bind (C.blt hB hg hv (aV hnr (hpl.1 env pos) (f4 hpl h C hd hR)))
theorem uZ{p:OE}{x:OV}(h:cR D.cl D.ex p ρ st=some (x,st')):w6 D.cl D.ex (.cons p .nil) ρ st=some ([x],st'):=congrArg (Option.bind · _) h
theorem XR{p q:OE}{x y:OV}{st₁:St}(h:cR D.cl D.ex p ρ st=some (x,st₁))(h':cR D.cl D.ex q ρ st₁=some (y,st')):w6 D.cl D.ex (.cons p (.cons q .nil)) ρ st=some ([x,y],st'):=(congrArg (Option.bind · _) h).trans (congrArg (Option.map _) (uZ h'))
theorem PY{e:Expr}{p:OE}{q pos:Pos}(hB:gD D.Z)(hg:aP sc "len" = true)(hst:aC e=false)(h:cN D sc e p):cN D sc (.Call (.Name "len" q) [e] [] pos) (.len p):=fun{A env ρ μ st s v st' Q E}C he g=>bG he fun x st₁ hx he=>kE he fun hl e=>by
 subst e
 refine kP (f:=.builtin "len") hB hg (by decide) nofun (aZ hst) (b5 hst h c8) C (uZ hx) fun vs s₁ μ₁ a₁ hvs=>qT (m:=fun vs=>wpAny _ A (call (.builtin "len") vs) Q E s₁) hvs fun w hw=>?_
 cases x with
 | d x =>
  exact j5 hl fun y e hl=>by
   cases e; cases hl
   exact NT (m:=fun w=>wpAny _ A (call (.builtin "len") [w]) Q E s₁) hw fun t hok=>P.len_str (JB (y1 hok).2) (g _ _ _ (a₁.tok _) sT)
 | o k =>
  exact RO hl fun xs hk e=>by
   cases e
   obtain⟨b,items,n,sl,rfl,_,h2,_,h4,h5⟩:=a₁.so.listAt hk hw
   exact Calls.call_len_list ⟨_,h2,rfl,n,rfl⟩ (SH h4 h5) (h4▸g _ _ _ (a₁.tok _) sT)
 | ty T=>cases hl
theorem PT{e:Expr}{p:OE}{q pos:Pos}(hB:gD D.Z)(hg:aP sc "type" = true)(hst:aC e=false)(h:cN D sc e p):cN D sc (.Call (.Name "type" q) [e] [] pos) (.typ p):=fun{A env ρ μ st s v st' Q E}C he g=>bG he fun x st₁ hx he=>kE he fun hl e=>by
 subst e
 exact kP (f:=.type "type") hB hg (by decide) nofun (aZ hst) (b5 hst h c8) C (uZ hx) fun vs s₁ μ₁ a₁ hvs=>qT (m:=fun vs=>wpAny _ A (call (.type "type") vs) Q E s₁) hvs fun w hw=>jY hl fun y e hl=>by
  subst e
  cases y with
  | int i=>cases hl; exact Ad (m:=fun w=>wpAny _ A (call (.type "type") [w]) Q E s₁) hw fun t=>call_type_of (typeIs_int _ _ _) (by decide) (g _ _ _ a₁ rfl)
  | str i=>cases hl; exact NT (m:=fun w=>wpAny _ A (call (.type "type") [w]) Q E s₁) hw fun t _=>call_type_of (typeIs_str _ _ _) (by decide) (g _ _ _ a₁ rfl)
  | _=>cases hl
theorem MC{e:Expr}{p:OE}{q pos:Pos}(hB:gD D.Z)(hg:aP sc "int" = true)(hst:aC e=false)(h:cN D sc e p):cN D sc (.Call (.Name "int" q) [e] [] pos) (.intc p):=fun{A env ρ μ st s v st' Q E}C he g=>bG he fun x st₁ hx he=>jY he fun y e he=>EE he fun i e' he=>by
 have e:x = .d y:=e
 subst e e'
 cases he
 exact kP (f:=.type "int") hB hg (by decide) nofun (aZ hst) (b5 hst h c8) C (uZ hx) fun vs s₁ μ₁ a₁ hvs=>qT (m:=fun vs=>wpAny _ A (call (.type "int") vs) Q E s₁) hvs fun w hw =>
  Ad (m:=fun w=>wpAny _ A (call (.type "int") [w]) Q E s₁) hw fun t=>call_int_int (g _ _ _ a₁ sT)
theorem HF{e:Expr}{p:OE}{q q' pos:Pos}(hB:gD D.Z)(hg:aP sc "isinstance" = true)(hg':aP sc "str" = true)(hst:aC e=false)(h:cN D sc e p) :
  cN D sc (.Call (.Name "isinstance" q) [e,.Name "str" q'] [] pos) (.isStr p):=fun{A env ρ μ st s v st' Q E}C he g=>bG he fun x st₁ hx he=>b7 he fun y hy e=>by
 cases pK hy
 cases e
 exact kP (f:=.builtin "isinstance") (ps:=.cons p (.cons (.ty "str") .nil)) hB hg (by decide) nofun (iY hst rfl) (b5 hst h (b5 rfl (J5 hB hg' (by decide)) c8)) C (XR hx rfl) fun vs s₁ μ₁ a₁ hvs =>
  N6 (m:=fun vs=>wpAny _ A (call (.builtin "isinstance") vs) Q E s₁) hvs fun w u hw hu=>NT (m:=fun w=>wpAny _ A (call (.builtin "isinstance") [w,u]) Q E s₁) hw fun t _=>by
   cases hu
   exact call_isinstance_yes (typeIs_str _ _ _) F.isi_meta_str (by rw[isSubtype_type]; kernel_rfl) (g _ _ _ a₁ lC)
theorem PZ{a i:OE}{v sl:Expr}{pos:Pos}(hns:rO sl=false)(ha:cN D sc v a)(hi:cN D sc sl i):cN D sc (.Subscript v sl pos) (.idx a i):=fun{A env ρ μ st s r st' Q E}C he g=>bG he fun x st₁ hx he=>bG he fun y st₂ hy he=>kE he fun hv e=>by
 subst e
 refine Subscript_ (ha C hx fun w s₁ μ₁ a₁ hw=>hi (C.go a₁) hy fun u s₂ μ₂ a₂ hu=>?_)
 obtain⟨⟨T,id,hT,hl⟩,hq⟩:=Bg (A:=A) (E:=E) (a₁.trans a₂) (hw.pre a₂.t.pre) hu hv g
 refine tail_any (ops:=[w,u]) hT hl hq ?_
 cases sl with
 | Slice=>cases hns
 | _=>rfl
theorem VG:XG D sc none .no:=fun{A env ρ μ st s d st' Q E}C hd hQ=>by
 cases hd
 exact wpAny_pure (hQ none rfl s μ C.at)
theorem PR{e:Expr}{p:OE}(h:cN D sc e p):XG D sc (some e) (.yes p):=fun{A env ρ μ st s d st' Q E}C hd hQ=>bG hd fun x st₁ hx hd=>b7 hd fun i hi e=>by
 cases e
 rw[evalPart_some]
 exact h C hx fun w s' μ' a hw=>jY hi fun y e hi'=>Ad (μ:=μ') (x:=i) (m:=fun w=>Q w s') (by cases wB hi'; cases(show x=OV.d _ from e); exact hw) fun t=>hQ (some (i,t)) rfl s' μ' a
theorem PU{a:OE}{lo hi:OO}{v:Expr}{l u:Option Expr}{p pos:Pos}(ha:cN D sc v a)(hl:XG D sc l lo)(hu:XG D sc u hi):cN D sc (.Subscript v (.Slice l u none p) pos) (.slc a lo hi):=fun{A env ρ μ st s r st' Q E}C he g =>
 bG he fun x st₁ hx he=>bG he fun y st₂ hy he=>bG he fun z st₃ hz he=>kE he fun hv e=>sF hv fun sx ex hv=>tD hv fun d h3 f3 ed=>by
 cases ex
 subst e ed
 refine Subscript_ (ha C hx fun w s₁ μ₁ a₁ hw=>wpAny_Slice (hl (C.go a₁) hy fun q1 e1 s₂ μ₂ a₂=>hu ((C.go a₁).go a₂) hz fun q2 e2 s₃ μ₃ a₃=>wpAny_pure ?_))
 have a₄:=((a₁.trans a₂).trans a₃).kp (a₃.i.push { cls:=.type "slice",data:=.fields #[partValue q1,partValue q2,.none] } s₃.toks) (Kp.push _ _ _)
 obtain⟨r1,ok1,_⟩:=pX.rd (show pX w (.str sx)from hw) (s₃.heap.push { cls:=.type "slice",data:=.fields #[partValue q1,partValue q2,.none] })
 obtain⟨T,id,hT,hl⟩:=jR (s:={ s₃ with heap:=s₃.heap.push { cls:=.type "slice",data:=.fields #[partValue q1,partValue q2,.none] } }) r1 rfl
 exact tail_any (ops:=[.ref s₃.heap.objs.size,w]) hT hl (vX (O:=[]) (es:=[]) (lo:=q1) (hi:=q2) a₄.i r1 ok1 ⟨_,Heap.get?_push_size _ rfl,rfl,rfl⟩ (by rw[e1,e2]; exact h3) (g.flat a₄ f3) nofun nofun) rfl
theorem SA{id:String}{name:Str}{x:Expr}{args:List Expr}{apos pos:Pos}{p:OE}{ps:GC}(slot:Slot "str" name id)(hty:typeOf (.builtin id)=pure (.type "method_descriptor"))(hc:cJ x=false)(hline:(apos.endLine==pos.line)=true)(hlen:args.length≤5)(hpl:aX args)
  (ho:cN D sc x p) (h:w8 D sc args ps) {st₁ st₂:St} {a:Str} {ds:List OV} {Q:Value→Shared→Prop} {E:Value→Shared→Prop} (C:Oc D sc A env ρ μ st s) (hx:cR D.cl D.ex p ρ st=some (.d (.str a),st₁)) (hy:w6 D.cl D.ex ps ρ st₁=some (ds,st₂))
  (hR:∀ t vs s' μ',bL (.str a)=true→dF D.Z D.cA jX μ s.heap μ' st₂ s'→gT μ' vs ds→wpAny (model D.Z.prog D.Z.w) A (call (.builtin id) (.str a t::vs)) Q E s') :
  wpAny (model D.Z.prog D.Z.w) A (eval (.Call (.Attribute x name apos) args [] pos) env) Q E s :=
 wpAny_Call_method_lateS (aQ hc _ _ _) (jE hpl hlen) hline (ho C hx fun w s₁ μ₁ a₁ hw=>NT (m:=fun w=>MethodOnS D.Z.prog D.Z.w A E name w pos (backTo pos (starEach args env)) Q s₁) hw fun t hok =>
  ⟨"str",id,F.plainAttrs_str,slot,hty,typeIs_str _ _ _,nofun,aV nofun (hpl.1 env pos) (f4 hpl h (C.go a₁) hy fun vs s₂ μ₂ a₂ hvs=>hR t vs s₂ μ₂ hok (a₁.trans a₂) hvs)⟩)
theorem MA{x e1 e2:Expr}{apos pos:Pos}{p a b:OE}(hc:cJ x=false)(hline:(apos.endLine==pos.line)=true)(h1:aC e1=false)(h2:aC e2=false)(ho:cN D sc x p)(ha:cN D sc e1 a)(hb:cN D sc e2 b) :
  cN D sc (.Call (.Attribute x "replace" apos) [e1,e2] [] pos) (.repl p a b):=fun{A env ρ μ st s r st' Q E}C he g =>
 bG he fun x' st₁ hx he=>bG he fun y st₂ hy he=>bG he fun z st₃ hz he=>kE he fun hv e=>sF hv fun sx ex hv=>sF hv fun sy ey hv=>sF hv fun sz ez hv=>DX hv fun hocc er=>by
 cases ex; cases ey; cases ez
 subst e er
 refine SA (ps:=.cons a (.cons b .nil)) F.slot_str_replace F.type_str_replace hc hline (Nat.le_of_ble_eq_true rfl) (iY h1 h2) ho (b5 h1 ha (b5 h2 hb c8)) C hx (XR hy hz) fun t vs s' μ' hok a' hvs =>
  N6 (m:=fun vs=>wpAny _ A (call (.builtin "str.replace") (.str sx t::vs)) Q E s') hvs fun w u hw hu=>NT (m:=fun w=>wpAny _ A (call (.builtin "str.replace") [.str sx t,w,u]) Q E s') hw fun tw _=>NT (m:=fun u=>wpAny _ A (call (.builtin "str.replace") [.str sx t,_,u]) Q E s') hu fun tu _=>?_
 refine call_gives F.slot_str_replace (typeIs_str _ _ _) F.entry_str_replace (F.args_str_replace_3 _ _ _) (gives_str_replace sx sy sz t tw tu fun h=>by rw[hocc]at h; cases h) ?_
 rw[hocc,Bool.true_or,if_pos rfl]
 exact g _ _ _ a' (mM hok)
theorem GU{vs:List Value}{xs:List OV}(h:gT μ vs xs):∀{l:List Str},vG xs=some l→∃ ps:List (Str×Tok),vs=strValues ps∧ps.map (·.1)=l∧∀ x∈l,bL (.str x)=true:=by
 induction h with
 | nil=>exact fun h=>by cases h; exact⟨[],rfl,rfl,nofun⟩
 | cons h _ ih =>
  exact fun hl=>sF hl fun s e hl=>b7 hl fun r hr e'=>by
   subst e e'
   obtain⟨ps,e1,e2,hall⟩:=ih hr
   subst e1
   exact NT (m:=fun v=>∃ ps:List (Str×Tok),v::_=strValues ps∧ps.map (·.1)=s::r∧∀ x∈s::r,bL (.str x)=true) h fun t hok=>⟨(s,t)::ps,rfl,congrArg (s :: ·) e2,fun y hy=>(List.mem_cons.mp hy).elim (fun e=>e▸hok) (hall y)⟩
theorem HE{x e1:Expr}{apos pos:Pos}{p a:OE}(hc:cJ x=false)(hline:(apos.endLine==pos.line)=true)(h1:aC e1=false)(ho:cN D sc x p)(ha:cN D sc e1 a) :
  cN D sc (.Call (.Attribute x "join" apos) [e1] [] pos) (.joinL p a):=fun{A env ρ μ st s r st' Q E}C he g =>
 bG he fun x' st₁ hx he=>bG he fun y st₂ hy he=>kE he fun hv e=>sF hv fun sep ex hv=>bG hv fun k xs hl hv=>aT hv fun ss hss hv=>iO hv fun hfold er=>sI hl fun k' ey hl=>RO hl fun xs' hk hl=>by
 cases ex; cases er; cases hl
 subst e ey
 refine SA (ps:=.cons a .nil) F.slot_str_join F.type_str_join hc hline (Nat.le_of_ble_eq_true rfl) (aZ h1) ho (b5 h1 ha c8) C hx (uZ hy) fun t vs s' μ' hok a' hvs =>
  qT (m:=fun vs=>wpAny _ A (call (.builtin "str.join") (.str sep t::vs)) Q E s') hvs fun w hw=>?_
 obtain⟨b,items,n,sl,rfl,_,g2,g3,_⟩:=a'.so.listAt hk hw
 obtain⟨ps,e1,e2,hall⟩:=GU g3 hss
 have e1':items=(strValues ps).toArray:=by rw[← e1]
 rw[e1']at g2
 have hjo:JoinOk sep ss=true:=by
  unfold JoinOk Builtin.Str.tooLong
  rw[← Array.foldl_toList,Bool.not_eq_true',decide_eq_false_iff_not]
  exact Nat.not_lt.mpr (Nat.le_trans hfold (by decide))
 have hlen:(Txt.join sep ss).length≤sizeLine:=joinFit_length (bJ hjo)
 refine SC.join ⟨_,g2,rfl,n,rfl⟩ e2 hjo fun t'' tk=>?_
 rw[show Txt.join sep ss=Str.join sep ss from StrLaws.glued_eq_join sep ss]at hlen ⊢
 exact g _ _ _ (a'.tok _) (mM (y4 (jN (y1 hok).1 ss fun x hx=>(y1 (hall x hx)).1) hlen))
theorem Oc.more(C:Oc D sc A env ρ μ st s){μ₁:List Addr}{st₁:St}{s₁:Shared}(a:dF D.Z D.cA jX μ s.heap μ₁ st₁ s₁){o:Obj}{f:FO}{tk:Nat}{v:OV→Prop}(hf:GD D.cA (μ₁++[s₁.heap.objs.size]) (s₁.heap.push o) st₁.length s₁.heap.objs.size f) :
  dF D.Z D.cA jX μ s.heap (μ₁++[s₁.heap.objs.size]) (st₁++[f]) { s₁ with heap:=s₁.heap.push o,toks:=tk }∧VE (μ₁++[s₁.heap.objs.size]) (.ref s₁.heap.objs.size) (.o st₁.length) :=
 ⟨a.more (get?_ge (Nat.le_refl _)) (C.he.step a.t).size (a.i.frLt (Nat.le_refl _)) id (fun _ _ e=>Heap.get?_push_of_some _ e) hf,_,by rw[← a.so.len]; exact List.getElem?_concat_length,rfl⟩
theorem PV{pos:Pos}:cN D sc (.List [] pos) .nil:=fun{A env ρ μ st s r st' Q E}C he g=>by
 cases he
 rw[arm_eval_List]
 refine wpAny_bind (wpAny_standAt (wpAny_bind (Calls.spliced_nil (wpAny_newList ?_ (Nat.le_of_ble_eq_true rfl)))))
 have m:=C.more C.at (tk:=s.toks) (v:=fun _=>True) (f:=.list []) (o:={ cls:=.type "list",data:=.seq (([]:List Value).toArray) }) ⟨#[],_,_,Heap.get?_push_size _ rfl,.nil,Nat.zero_le _⟩
 exact g _ _ _ m.1 m.2
theorem MG{x e1:Expr}{apos pos:Pos}{p a:OE}(hc:cJ x=false)(hline:(apos.endLine==pos.line)=true)(h1:aC e1=false)(ho:cN D sc x p)(ha:cN D sc e1 a) :
  cN D sc (.Call (.Attribute x "append" apos) [e1] [] pos) (.appL p a):=fun{A env ρ μ st s r st' Q E}C he g =>
 bG he fun x' st₁ hx he=>bG he fun k xs hl he=>bG he fun y st₂ hy he=>b7 he fun st₃ hp e=>sI hl fun k' ex hl=>RO hl fun xs' hk hl=>by
 cases hl; cases e
 subst ex
 refine wpAny_Call_method_lateS (aQ hc _ _ _) (jE (aZ h1) (Nat.le_of_ble_eq_true rfl)) hline (ho C hx fun w s₁ μ₁ a₁ hw=>?_)
 obtain⟨b,items,n,sl,rfl,hb,g2,_⟩:=a₁.so.listAt hk hw
 refine⟨"list", "list.append",F.plainAttrs_list,slot_list_append,type_list_append,⟨_,g2,rfl⟩,fun a e=>by cases e; exact⟨_,g2,rfl⟩,?_⟩
 refine aV nofun ((aZ h1).1 env pos) (f4 (aZ h1) (b5 h1 ha c8) (C.go a₁) (uZ hy) fun vs s₂ μ₂ a₂ hvs=>qT (m:=fun vs=>wpAny _ A (call (.builtin "list.append") (.ref b::vs)) Q E s₂) hvs fun u hu=>?_)
 obtain⟨⟨_,_,_,o2⟩,body⟩:=R8 (A:=A.in1) (E:=E) (a₁.trans a₂) hp (d9 a₂.t.pre hb) hu g
 exact wpAny_call_entry slot_list_append ⟨_,o2,rfl⟩ entry_list_append body (args_list_append _ _)
theorem PW{i:Int}{k:Nat}{p1 pos:Pos}:cN D sc (.UnaryOp .USub (.Constant (.int i) k p1) pos) (.neg i):=fun{A env ρ μ st s r st' Q E}C he g=>by
 cases he
 rw[arm_eval_UnaryOp]
 refine wpAny_bind ?_
 rw[arm_eval_Constant]
 exact wpAny_mkInt (wpAny_bind (wpAny_standAt (wpAny_holding (P.neg_int (g _ _ _ (C.at.tok _) sT)))))
end
section
variable{D:OD}{sc:Scope}{K:Frag}{fA:Nat→Option Addr}{A:Around}{env:Env}{ρ:LO}{μ μ':List Addr}{st st':St}{s s':Shared}
noncomputable def fX:List Str→List Expr→Bool
 | [],es=>es.isEmpty
 | x::xs,es=>iM es fun e r=>bR e fun c _ _=>c == .str x&&(bL (.str x)&&fX xs r)
theorem iA{pos:Pos}{E:Value→Shared→Prop}:∀{xs:List Str}{es:List Expr}{s:Shared}{R:List Value→Shared→Prop},fX xs es=true →
  (∀ vs tk,(∀ h,ReadsAll h vs (xs.map .str) [])→R vs { s with toks:=tk })→wpAny (model D.Z.prog D.Z.w) A (spliced (backTo pos (starEach es env))) R E s
 | [],es,s,R,hc,h=>dU (m:=fun es=>wpAny _ A (spliced (backTo pos (starEach es env))) R E s) hc (Calls.spliced_nil (h [] s.toks fun _=>.nil))
 | x::xs,es,s,R,hc,h=>by
  apply cV hc; intro e r hc
  apply cD hc; intro c k p hc
  refine aB hc fun z hc=>?_; apply cL z
  refine Calls.spliced_cons ?_
  rw[arm_eval_Constant]
  exact wpAny_mkText (iA (s:={ s with toks:=s.toks+1 }) (aA hc).2 fun vs tk r=>h (_::vs) tk fun g=>ReadsAll.cons (as:=[]) (bs:=[]) (.str x _) (r g))
theorem zO(x:Str):∀ l:List Str,(l.map PyData.str).any (fun y=>PyData.eqv y (.str x))=l.any fun y=>y==x
 | []=>rfl
 | a::l=>congrArg ((a==x)|| ·) (zO x l)
theorem oM:∀{l:List Str}{es:List Expr},fX l es=true→cM (l.map .str)=true
 | [],_,_=>rfl
 | x::xs,es,hc=>cV (m:=fun _=>cM ((x::xs).map .str)=true) hc fun e r hc=>cD (m:=fun _=>cM ((x::xs).map .str)=true) hc fun c k p hc=>by
  show(bL (.str x)&&cM (xs.map .str))=true
  rw[(aA (aA hc).2).1,oM (aA (aA hc).2).2]; rfl
theorem wG{w:Value}{x:Str}{l:List Str}{es:List Expr}{k:Nat}{pos:Pos}{Q:Value→Shared→Prop}{E:Value→Shared→Prop}(C:Oc D sc A env ρ μ st s)(hw:VE μ w (.d (.str x)))
  (hc:fX l es=true) (hl:l.length≤50) (g:gW D.Z D.cA μ s.heap st (.d (.bool (l.any fun y=>y==x))) Q):wpAny (model D.Z.prog D.Z.w) A (eval (.Tuple es k pos) env) (fun u s'=>wpAny (model D.Z.prog D.Z.w) A (compareOp .In w u) Q E s') E s:=by
 rw[arm_eval_Tuple]
 refine wpAny_bind (wpAny_standAt (wpAny_bind (iA hc fun vs tk r=>wpAny_newObj_type ?_ ?_)))
 ·have a:=(C.at.tok tk).kp (C.hi.push { cls:=.type "tuple",data:=.seq vs.toArray } tk) (Kp.push _ _ _)
  obtain⟨rw',okx,_⟩:=pX.rd (show pX w (.str x)from hw) (s.heap.push { cls:=.type "tuple",data:=.seq vs.toArray })
  obtain⟨_,rx⟩:=rw'.reads
  refine SeqAt.in_tuple_reads (xs:=l.map .str) (Reads.tuple (Heap.get?_push_size _ rfl) rfl rfl (r _)) rx (cF (oM hc)) (bS okx) (C.ha.u (Nat.le_trans (Nat.min_le_right _ _) (Nat.zero_le 64))) ((zO x l).symm▸g _ _ _ a lC)
 ·show vs.toArray.size≤_
  rw[List.size_toArray,SeqAt.ReadsAll.length _ _ _ (r default),List.length_map]
  exact Nat.le_trans hl (by decide)
theorem WC{l:List Str}{e:Expr}{es:List Expr}{k:Nat}{p2 pos:Pos}{p:OE}(hc:fX l es=true)(hl:l.length≤50)(h:cN D sc e p):cN D sc (.Compare e [.In] [.Tuple es k p2] pos) (.inT p l)∧IB D sc (.Compare e [.In] [.Tuple es k p2] pos) (.inT p l) :=
 ⟨fun{A env ρ μ st s v st' Q E}C he g=>bG he fun x st₁ hx he=>b7 he fun y hy e=>by
  cases pK hy
  cases e
  exact wpAny_Compare1 (h C hx fun w s₁ μ₁ a₁ hw=>wG (C.go a₁) hw hc hl (g.after a₁)) rfl,
 fun{A env ρ μ st s t st' Q E}C he hQ=>bG he fun v st₂ hv he=>kE he fun ht e=>by
  subst e
  exact bG hv fun x st₁ hx hv=>b7 hv fun y hy e=>by
   cases pK hy
   cases e
   exact wpAny_isTrue_Compare1 (h C hx fun w s₁ μ₁ a₁ hw=>wG (C.go a₁) hw hc hl fun z s₃ μ₃ a₃ hz=>nN C.ha.handled (a₁.trans a₃) hz ht fun s₄ a₄=>hQ s₄ μ₃ a₄) rfl⟩
theorem i9(x:Str):Str.empty++x=x:=congrArg Str.mk (Array.empty_append (xs:=x.cps))
theorem MD{a b:Str}{k1 k2:Nat}{e:Expr}{p1 p2 p3 pos:Pos}{p:OE}(ha:bL (.str a)=true)(hb:bL (.str b)=true)(h:cN D sc e p) :
  cN D sc (.JoinedStr [.Constant (.str a) k1 p1,.FormattedValue e (-1) none p2,.Constant (.str b) k2 p3] pos) (.fstr a p b):=fun{A env ρ μ st s r st' Q E}C he g=>bG he fun x' st₁ hx he=>sF he fun sx ex he=>kE he fun hv e=>iO hv fun hlen er=>by
 have ex:x'=_:=ex
 subst e ex
 cases er
 have hl1:(a++sx).length≤sizeLine:=Nat.le_trans (by rw[strLen_append (a++sx) b]; exact Nat.le_add_right _ _) hlen
 refine wpAny_JoinedStr ?_
 rw[arm_evalEach_cons,arm_evalEach_cons,arm_evalEach_cons]
 show wpAny _ A (eval (.Constant (.str a) k1 p1) env) _ E s
 rw[arm_eval_Constant]
 refine wpAny_mkText ⟨a,_,rfl,by rw[i9]; exact(y1 ha).2,?_⟩
 rw[i9]
 show wpAny _ A (eval (.FormattedValue e (-1) none p2) env) _ E _
 refine wpAny_FormattedValue_plain (h (C.go (C.at.tok (s.toks+1))) hx fun w s₁ μ₁ a₁ hw=>?_)
 obtain⟨t,rfl,hok⟩:∃ t,w = .str sx t∧bL (.str sx)=true:=NT (m:=fun w=>∃ t,w = .str sx t∧bL (.str sx)=true) hw fun t ok=>⟨t,rfl,ok⟩
 have hok3:bL (.str (a++sx++b))=true:=cH (cH ha hok hl1) hb hlen
 have rest:∀ tk t',∃ y t,(Value.str sx t') = .str y t∧(a++y).length≤sizeLine∧Joins (model D.Z.prog D.Z.w) A E [eval (.Constant (.str b) k2 p3) env] (a++y) (fun out s₁=>out.length≤sizeLine∧Q (.str out s₁.toks) { s₁ with toks:=s₁.toks+1 }) { s₁ with toks:=tk }:=fun tk t'=>by
  refine⟨sx,t',rfl,hl1,?_⟩
  show wpAny _ A (eval (.Constant (.str b) k2 p3) env) _ E _
  rw[arm_eval_Constant]
  exact wpAny_mkText ⟨b,_,rfl,hlen,hlen,g _ _ _ ((C.at.tok (s.toks+1)).trans (a₁.tok _)) (mM hok3)⟩
 exact wpAny_formatField_str (rest _ _) (rest _ _) (y1 hok).2
end
section
variable{prog:Program}{w:World}{A:Around}{E:Value→Shared→Prop}{s:Shared}
theorem uT{l:Addr}{vs:Array Value}{n:Nat}{sl:Array (Option Value)}{Q:Value→Shared→Prop}(hh:A.handled=none)(ho:s.heap.get? l=some (bY vs n sl))
  (h:Q (.ref s.heap.objs.size) { s with heap:=s.heap.push (dO l),toks:=s.toks+1 }):wpAny (model prog w) A (getAttr (.ref l) "append" true) Q E s:=by
 refine I0 (K:=[]) (congrFun (congrFun (congrFun PySem.W.Fast.te4926136581373384958 (.ref l)) "append") true) 9 (List.replicate 6 (0,bY vs n sl))
  (s.heap.get? l=some (bY vs n sl)∧s.heap.get? l=some (bY vs n sl)∧qb "list.__getattribute__" [.ref l,.str "append" s.toks]∧s.heap.get? l=some (bY vs n sl)∧s.heap.get? l=some (bY vs n sl)∧s.heap.get? l=some (bY vs n sl) ∧
   qb "method_descriptor.__get__" [.builtin "list.append",.ref l,.type "list"]∧s.heap.get? l=some (bY vs n sl)∧Q (.ref s.heap.objs.size) { s with heap:=s.heap.push (dO l),toks:=s.toks+1 }) hh ?_ ?_ ?_
 ·exact fun _ _ h=>nomatch h
 ·kernel_rfl
 ·exact⟨ho,ho,Code.quiet_builtin _ (by decide +kernel),ho,ho,ho,Code.quiet_builtin _ (by decide +kernel),ho,h⟩
theorem DU{u l:Addr}{v:Value}{vs:Array Value}{n:Nat}{sl:Array (Option Value)}{Q:Value→Shared→Prop}(hh:A.handled=none)(hu:s.heap.get? u=some (dO l))(ho:s.heap.get? l=some (bY vs n sl))
  (h:wpAny (model prog w) A.in1 (updateSeq l (·.push v) >>= fun _=>ret .none) (fun fin s'=>∃ v,fin=PySem.Fin.done (.ret v)∧Q v s') E s):wpAny (model prog w) A (call (.ref u) [v]) Q E s:=by
 refine wpAny_call (codeAny_of_tree (I0 (K:=[]) (congrFun (congrFun PySem.W.Fast.te2956504954644400088 (.ref u)) ⟨[v],[]⟩) 9 [(0,dO l),(0,bY vs n sl),(0,bY vs n sl),(0,bY vs n sl)]
  (s.heap.get? u=some (dO l)∧s.heap.get? l=some (bY vs n sl)∧s.heap.get? l=some (bY vs n sl)∧s.heap.get? l=some (bY vs n sl)∧qb "list.append" [.ref l,v]∧codeAny (model prog w) A (.builtin "list.append" ⟨[.ref l,v],[]⟩) (wants Q E) s) hh ?_ ?_ ?_))
 ·exact fun _ _ h=>nomatch h
 ·kernel_rfl
 ·refine⟨hu,ho,ho,ho,Code.quiet_builtin _ (by decide +kernel),codeAny_builtin entry_list_append ?_⟩
  rw[Around.under_plainId (id := "list.append") (by decide +kernel) _]
  refine wpAny_mono h (fun fin s' h'=>?_) fun _ _ e=>e
  obtain⟨w,rfl,hw⟩:=h'
  exact hw
end
def F7(o:Obj):Prop:=o.cls = .type "builtin_function_or_method" ∧ ∃ a b,o.data = .fields #[.builtin a,b]
theorem uV{M:Model}{A:Around}{E:Value→Shared→Prop}{s:Shared}{pos:Pos}{u:Addr}{first:List Value}{args:List (Bool×Sem Value)}{Q:Value→Shared→Prop}(hplain:args.any (·.1)=false)
  (h:wpAny M A (evalArgs (.ref u) true args []) (fun x s₁=>(∃ o,s₁.heap.get? u=some o∧F7 o)∧wpAny M A (call (.ref u) (first++x.pos) x.kw) Q E s₁) E s):wpAny M A (callWith pos (.ref u) first args []) Q E s:=by
 unfold callWith
 refine wpAny_bind (wpAny_holding (wpAny_mono h (fun x s₁ h₁=>wpAny_bind (wpAny_standAt ?_)) fun _ _ x=>x))
 obtain⟨⟨⟨oc,od,oda,osl⟩,ho,hc,a,b,hd⟩,hcall⟩:=h₁
 cases hc; cases hd
 rw[hplain]
 refine wpAny_bind (m:=keeperOf (.ref u)) ?_
 unfold keeperOf
 refine wpAny_bind (wpAny_load ho ?_)
 dsimp only
 rw[if_pos (by decide),if_pos (by decide)]
 exact wpAny_pure (wpAny_bind (wpAny_mono hcall (fun r s₂ hr=>wpAny_bind (wpAny_holding (wpAny_point (wpAny_pure hr)))) fun _ _ x=>x))
section
variable{D:OD}{sc:Scope}{A:Around}{env:Env}{ρ:LO}{μ μ':List Addr}{st st':St}{s s':Shared}
theorem MH{x:Expr}{pos:Pos}{p:OE}(hc:cJ x=false)(h:cN D sc x p):cN D sc (.Attribute x "append" pos) (.addm p):=fun{A env ρ μ st s r st' Q E}C he g =>
 bG he fun x' st₁ hx he=>b7 he fun q hl e=>sI hl fun k ex hl=>RO hl fun xs hk hl=>by
 cases hl; cases e
 subst ex
 rw[arm_eval_Attribute,aQ hc]
 refine wpAny_bind (h C hx fun w s₁ μ₁ a₁ hw=>?_)
 obtain⟨b,items,n,sl,rfl,hb,g2,_⟩:=a₁.so.listAt hk hw
 refine wpAny_bind (wpAny_standAt (wpAny_bind (wpAny_holding (uT C.ha.handled g2 (wpAny_bind (wpAny_letTemporaryGo (wpAny_pure ?_)))))))
 have m:=(C.go a₁).more (.here a₁.i a₁.so) (tk:=s₁.toks+1) (v:=fun _=>True) (f:=.meth k) (o:=dO b) ⟨b,d9 (List.prefix_append _ _) hb,Heap.get?_push_size _ rfl⟩
 exact g _ _ _ (a₁.trans m.1) m.2
theorem P4{x e1:Expr}{n:Str}{p pos:Pos}{f a:OE}(hx':x = .Name n p)(h1:aC e1=false)(ho:cN D sc x f)(ha:cN D sc e1 a) :
  cN D sc (.Call x [e1] [] pos) (.app f a):=fun{A env ρ μ st s r st' Q E}C he g =>
 bG he fun x' st₁ hx he=>bG he fun y st₂ hy he=>aT he fun j hl he=>b7 he fun st3 hp e=>sI hl fun k ex hl=>Dm hl fun j' hk hl=>RO hp fun xs hk2 hp2=>by
 cases hl; cases e
 subst ex hx'
 rw[bX]
 refine wpAny_bind (ho C hx fun w s₁ μ₁ a₁ hw=>?_)
 obtain⟨u,hu,rfl⟩:=hw
 refine uV ((aZ h1).1 env pos) (f4 (aZ h1) (b5 h1 ha c8) (C.go a₁) (uZ hy) fun vs s₂ μ₂ a₂ hvs=>qT (m:=fun vs=>(∃ o,s₂.heap.get? u=some o∧F7 o)∧wpAny _ A (call (.ref u) vs) Q E s₂) hvs fun z hz=>?_)
 obtain⟨b,g2,g3⟩:=a₂.so.of hk (d9 a₂.t.pre hu)
 obtain⟨⟨_,_,_,o2⟩,body⟩:=R8 (A:=A.in1) (E:=E) (a₁.trans a₂) hp g2 hz g
 exact⟨⟨_,g3,rfl,_,_,rfl⟩,DU C.ha.handled g3 o2 body⟩
end
end Kt.Internal
end
section
open PySem PySem.W PyProof.Rows PySem.Calls
namespace Kt.Internal
noncomputable def pN(e:Expr):Bool:=!(e.ctorIdx==3||e.ctorIdx==0||e.ctorIdx==5||e.ctorIdx==15)
theorem vA{e:Expr}(h:pN e=true)(env:Env):isTrue e env (eval e env)=(do let v ← eval e env; standAt e.pos; holding [v] (truthy v)):=by
 cases e with
 | UnaryOp=>cases h
 | BoolOp=>cases h
 | IfExp=>cases h
 | Compare=>cases h
 | _=>rfl
section
variable(K:Frag)(cA fA:Nat→Option Addr)(xc:Nat→Scope→Expr→Bool)(nm:List Str)
noncomputable def mR(e:Expr)(n:Str)(f:Expr→List Expr→Bool):Bool:=dG e fun fe as ks pos=>ks.isEmpty&&bM fe fun o m apos=>m==n&&(!cJ o&&(apos.endLine==pos.line&&f o as))
noncomputable def IK(e:Expr)(f:Str→List Expr→Bool):Bool:=dG e fun fe as ks _=>ks.isEmpty&&aW fe fun n _=>f n as
noncomputable def OA(sc:Scope)(e:Expr)(n:Str)(f:Expr→Bool):Bool:=IK e fun m as=>m==n&&(aP sc n&&fW as fun x=>!aC x&&f x)
noncomputable def FJ(es:List Expr):Bool:=es.all fun e=>!aC e
mutual
noncomputable def bD(sc:Scope):OE→Expr→Bool
 | .lit d,e=>bR e fun c _ _=>OH d==some c
 | .var x,e=>aW e fun n _=>nm[x]? == some n&&(sc.names.lookup n==some .local&&n != ("__debug__" : Str))
 | .ty T,e=>aW e fun n _=>aP sc n&&iD.any (fun p=>p.1==n&&p.2 == .type T)
 | .attr c p a,e=>bM e fun x n _=>n==a&&(!cJ x&&(iB (cA c) (fun C=>zE K C a)&&bD sc p x))
 | .prop c p a f,e=>bM e fun x n _=>(H9 f).isEmpty&&(n==a&&(!cJ x&&(iB (cA c) (fun C=>iB (fA f) fun g=>BQ K C a g)&&bD sc p x)))
 | .nt a,e=>eR e fun o x _=>o == .Not&&bD sc a x
 | .bool q a b,e=>kQ e fun op xs pos=>op==kA q&&iM xs fun x r=>bD sc a x&&iM r fun y r=>if r.isEmpty then bD sc b y else bD sc b (.BoolOp op (y::r) pos)
 | .cmp op a b,e=>fZ e fun l os rs _=>fW os fun o=>o==op&&fW rs fun r=>!behindInMarks op r&&(bD sc a l&&bD sc b r)
 | .inT a l,e=>fZ e fun x os rs _=>fW os fun o=>o == .In&&fW rs fun r=>fR r fun es _ _=>fX l es&&(decide (l.length≤50)&&bD sc a x)
 | .bin op a b,e=>nS e fun l o r _=>o==op&&(bD sc a l&&bD sc b r)
 | .call f ps,e=>IK e fun n as=>(H9 f).isEmpty&&(aP sc n&&(iB (fA f) (fun a=>eI K n==some (.ref a)&&keepIn K (.ref a))&&(FJ as&&xR sc ps as)))
 | .mcall c p m f ps,e=>mR e m fun o as=>(H9 f).isEmpty&&(iB (cA c) (fun C=>iB (fA f) fun a=>B6 K C m a)&&(decide (as.length≤5)&&(FJ as&&(bD sc p o&&xR sc ps as))))
 | .len p,e=>OA sc e "len" fun x=>bD sc p x
 | .typ p,e=>OA sc e "type" fun x=>bD sc p x
 | .intc p,e=>OA sc e "int" fun x=>bD sc p x
 | .isStr p,e=>IK e fun n as=>n==("isinstance" : Str)&&(aP sc "isinstance" && (aP sc "str" && iM as fun x r=>!aC x&&(bD sc p x&&fW r fun y=>aW y fun m _=>m==("str" : Str))))
 | .repl p a b,e=>mR e "replace" fun o as=>iM as fun x r=>fW r fun y=>!aC x&&(!aC y&&(bD sc p o&&(bD sc a x&&bD sc b y)))
 | .joinL p l,e=>mR e "join" fun o as=>fW as fun x=>!aC x&&(bD sc p o&&bD sc l x)
 | .idx a i,e=>dM e fun v s _=>!rO s&&(bD sc a v&&bD sc i s)
 | .slc a lo hi,e=>dM e fun v s _=>nP s fun l u st _=>st.isNone&&(bD sc a v&&(JN sc lo l&&JN sc hi u))
 | .nil,e=>s6 e fun xs _=>xs.isEmpty
 | .addm p,e=>bM e fun x n _=>n==("append" : Str)&&(!cJ x&&bD sc p x)
 | .app f p,e=>dG e fun fe as ks _=>ks.isEmpty&&(fW as fun x=>!aC x&&(bD sc p x&&(bD sc f fe&&aW fe fun _ _=>true)))
 | .appL l p,e=>mR e "append" fun o as=>fW as fun x=>!aC x&&(bD sc l o&&bD sc p x)
 | .fstr a p b,e=>hZ e fun es _=>iM es fun x r=>iM r fun v r=>fW r fun y=>bR x fun c _ _=>c == .str a&&bR y fun c _ _=>c == .str b&&(bL (.str a)&&(bL (.str b) &&
   dT v fun v cv sp _=>cv==-1&&(sp.isNone&&bD sc p v)))
 | .neg i,e=>eR e fun o x _=>o == .USub&&bR x fun c _ _=>c == .int i
 | .ext j,e=>xc j sc e&&pN e
 | .stuck,_=>true
noncomputable def xR(sc:Scope):GC→List Expr→Bool
 | .nil,es=>es.isEmpty
 | .cons p ps,es=>iM es fun e r=>!aC e&&(bD sc p e&&xR sc ps r)
noncomputable def JN(sc:Scope):OO→Option Expr→Bool
 | .no,o=>o.isNone
 | .yes p,o=>iB o fun e=>bD sc p e
end
end
theorem lI{e:Expr}{n:Str}{f:Expr→List Expr→Bool}{m:Expr→Prop}(h:mR e n f=true)(k:∀ o as(apos pos:Pos),cJ o=false→(apos.endLine==pos.line)=true→f o as=true→m (.Call (.Attribute o n apos) as [] pos)):m e:=by
 apply dR h; intro fe as ks pos h
 refine aB h fun z h=>?_; apply dU z
 apply cB h; intro o m' apos h
 refine aB h fun z h=>?_; apply cL z
 exact k o as apos pos (bJ (aA h).1) (aA (aA h).2).1 (aA (aA h).2).2
theorem D4{e:Expr}{f:Str→List Expr→Bool}{m:Expr→Prop}(h:IK e f=true)(k:∀ n as(p pos:Pos),f n as=true→m (.Call (.Name n p) as [] pos)):m e:=by
 apply dR h; intro fe as ks pos h
 refine aB h fun z h=>?_; apply dU z
 apply aM h; intro n p h
 exact k n as p pos h
theorem I7{sc:Scope}{e:Expr}{n:Str}{f:Expr→Bool}{m:Expr→Prop}(h:OA sc e n f=true)(k:∀ x(p pos:Pos),aP sc n=true→aC x=false→f x=true→m (.Call (.Name n p) [x] [] pos)):m e:=by
 apply D4 h; intro n' as p pos h
 refine aB h fun z h=>?_; apply cL z
 refine aB h fun h1 h=>?_
 apply cK h; intro x h
 exact k x p pos h1 (bJ (aA h).1) (aA h).2
structure N3(D:OD)(K:Frag)(fA:Nat→Option Addr)(xc:Nat→Scope→Expr→Bool):Prop where
 k:∀ h,D.Z.TabI h→K.In h
 k0:K.In D.Z.h₀
 b:gD D.Z
 c:bZ D.Z D.cA D.cl D.lvl fA
 x:∀ j sc e,xc j sc e=true→cN D sc e (.ext j)
section
variable{D:OD}{K:Frag}{fA:Nat→Option Addr}{xc:Nat→Scope→Expr→Bool}{sc:Scope}
theorem QD{n:Str}{T:String}(h:iD.any (fun p=>p.1==n&&p.2 == .type T)=true):(n,Value.type T)∈iD:=by
 obtain⟨p,hm,h⟩:=List.any_eq_true.mp h
 have e:p=(n,.type T):=Prod.ext (eq_of_beq (aA h).1) (eq_of_beq (aA h).2)
 exact e▸hm
def IE(D:OD)(sc:Scope)(p:OE)(e:Expr):Prop:=cN D sc e p∧IB D sc e p
theorem IE.of{e:Expr}{p:OE}(h:cN D sc e p)(hw:pN e=true):IE D sc p e:=J4 h (vA hw)
theorem L9{q:Bool}{y:Expr}{b:OE}(h:IB D sc y b){A:Around}{env:Env}{ρ:LO}{μ:List Addr}{st:St}{s:Shared}{t:Bool}{st':St}{Q:Bool→Shared→Prop}{E:Value→Shared→Prop}(C:Oc D sc A env ρ μ st s)(hd:j9 D.cl D.ex b ρ st=some (t,st'))
  (hQ:∀ s' μ',dF D.Z D.cA jX μ s.heap μ' st' s'→Q t s'):wpAny (model D.Z.prog D.Z.w) A (allTrue (kA q) [y] env) Q E s:=by
 rw[arm_allTrue_cons]
 refine wpAny_bind (h C hd fun s₁ μ₁ a₁=>?_)
 have:=hQ s₁ μ₁ a₁
 cases q <;> cases t <;> exact wpAny_pure this
theorem HH{q:Bool}{a b:OE}{x y:Expr}{pos:Pos}(i1:IE D sc a x)(i2:IE D sc b y):IE D sc (.bool q a b) (.BoolOp (kA q) [x,y] pos) :=
 ⟨zX (rest:=[y]) (fun _=>⟨_,_,rfl⟩) i1.1 fun{A env ρ μ st s v st' Q E}C hd g=>i2.1 (A:=A) (env:=env) (Q:=Q) (E:=E) C hd g,zW i1.2 (L9 i2.2)⟩
theorem HG{q:Bool}{a b:OE}{x y z:Expr}{r:List Expr}{pos:Pos}(i1:IE D sc a x)(i2:IE D sc b (.BoolOp (kA q) (y::z::r) pos)):IE D sc (.bool q a b) (.BoolOp (kA q) (x::y::z::r) pos) :=
 ⟨zX (rest:=y::z::r) (fun _=>⟨_,_,rfl⟩) i1.1 fun{A env ρ μ st s v st' Q E}C hd g=>i2.1 (A:=A) (env:=env) (Q:=Q) (E:=E) C hd g,zW i1.2 fun{A env ρ μ st s t st' Q E}C hd hQ=>i2.2 (A:=A) (env:=env) (Q:=Q) (E:=E) C hd hQ⟩
mutual
theorem aG(X:N3 D K fA xc):∀(p:OE){sc:Scope}{e:Expr},bD K D.cA fA xc D.nm sc p e=true→IE D sc p e
 | .lit d,sc,e,h=>by
  apply cD h; intro c k p h
  exact .of (PX (eq_of_beq h)) rfl
 | .var x,sc,e,h=>by
  apply aM h; intro n p h
  exact .of (yF (eq_of_beq (aA h).1) (eq_of_beq (aA (aA h).2).1) (bne_iff_ne.mp (aA (aA h).2).2)) rfl
 | .ty T,sc,e,h=>by
  apply aM h; intro n p h
  exact .of (J5 X.b (aA h).1 (QD (aA h).2)) rfl
 | .attr c p a,sc,e,h=>by
  apply cB h; intro x n q h
  refine aB h fun z h=>aB h fun h1 h=>aB h fun h2 h=>?_; apply cL z
  obtain⟨C,hC,h2⟩:=eF h2
  exact .of (MF X.k hC h2 (bJ h1) (aG X p h).1) rfl
 | .prop c p a f,sc,e,h=>by
  apply cB h; intro x n q h
  refine aB h fun h0 h=>aB h fun z h=>aB h fun h1 h=>aB h fun h2 h=>?_; apply cL z
  obtain⟨C,hC,h2⟩:=eF h2
  obtain⟨g,hg,h2⟩:=eF h2
  exact .of (MB (List.isEmpty_iff.mp h0) X.k X.c hC hg h2 (bJ h1) (aG X p h).1) rfl
 | .nt a,sc,e,h=>by
  apply jO h; intro o x p h
  refine aB h fun z h=>?_; apply cL z
  exact⟨VH (aG X a h).1,VF (aG X a h).2⟩
 | .bool q a b,sc,e,h=>by
  apply wF h; intro op xs pos h
  refine aB h fun hz h=>?_; have hz:=eq_of_beq hz; subst hz
  apply cV h; intro x r h
  refine aB h fun h1 h=>?_
  apply cV h; intro y r' h
  cases r' with
  | nil=>exact HH (aG X a h1) (aG X b h)
  | cons z r=>exact HG (aG X a h1) (aG X b h)
 | .cmp op a b,sc,e,h=>by
  apply mZ h; intro l os rs p h
  apply cK h; intro o h
  refine aB h fun z h=>?_; apply cL z
  apply cK h; intro r h
  refine aB h fun z h=>?_
  exact⟨P0 (bJ z) (aG X a (aA h).1).1 (aG X b (aA h).2).1,PQ (bJ z) (aG X a (aA h).1).1 (aG X b (aA h).2).1⟩
 | .inT a l,sc,e,h=>by
  apply mZ h; intro x os rs p h
  apply cK h; intro o h
  refine aB h fun z h=>?_; apply cL z
  apply cK h; intro r h
  apply e7 h; intro es k q h
  exact WC (aA h).1 (of_decide_eq_true (aA (aA h).2).1) (aG X a (aA (aA h).2).2).1
 | .bin op a b,sc,e,h=>by
  apply z9 h; intro l o r p h
  refine aB h fun z h=>?_; apply cL z
  exact .of (P3 (aG X a (aA h).1).1 (aG X b (aA h).2).1) rfl
 | .call f ps,sc,e,h=>by
  apply D4 h; intro n as p q h
  refine aB h fun h0 h=>aB h fun h1 h=>aB h fun h2 h=>aB h fun h3 h=>?_
  obtain⟨a,ha,h2⟩:=eF h2
  exact .of (ME (List.isEmpty_iff.mp h0) X.k X.c ha h1 (eM X.k0 (eq_of_beq (aA h2).1)) (aA h2).2 (iK h3) (tO X ps h)) rfl
 | .mcall c p m f ps,sc,e,h=>by
  apply lI h; intro o as apos pos hc hl h
  refine aB h fun h0 h=>aB h fun h1 h=>aB h fun h2 h=>aB h fun h3 h=>?_
  obtain⟨C,hC,h1⟩:=eF h1
  obtain⟨a,ha,h1⟩:=eF h1
  exact .of (HD (List.isEmpty_iff.mp h0) X.k X.c hC ha h1 hc hl (of_decide_eq_true h2) (iK h3) (aG X p (aA h).1).1 (tO X ps (aA h).2)) rfl
 | .len p,sc,e,h=>by
  apply I7 h; intro x q r h1 h2 h
  exact .of (PY X.b h1 h2 (aG X p h).1) rfl
 | .typ p,sc,e,h=>by
  apply I7 h; intro x q r h1 h2 h
  exact .of (PT X.b h1 h2 (aG X p h).1) rfl
 | .intc p,sc,e,h=>by
  apply I7 h; intro x q r h1 h2 h
  exact .of (MC X.b h1 h2 (aG X p h).1) rfl
 | .isStr p,sc,e,h=>by
  apply D4 h; intro n as q r h
  refine aB h fun z h=>aB h fun h1 h=>aB h fun h2 h=>?_; apply cL z
  apply cV h; intro x l h
  refine aB h fun h3 h=>aB h fun h4 h=>?_
  apply cK h; intro y h
  apply aM h; intro m q' h
  apply cL h
  exact .of (HF X.b h1 h2 (bJ h3) (aG X p h4).1) rfl
 | .repl p a b,sc,e,h=>by
  apply lI h; intro o as apos pos hc hl h
  apply cV h; intro x l h
  apply cK h; intro y h
  refine aB h fun h1 h=>aB h fun h2 h=>aB h fun h3 h=>?_
  exact .of (MA hc hl (bJ h1) (bJ h2) (aG X p h3).1 (aG X a (aA h).1).1 (aG X b (aA h).2).1) rfl
 | .joinL p l,sc,e,h=>by
  apply lI h; intro o as apos pos hc hl h
  apply cK h; intro x h
  refine aB h fun h1 h=>?_
  exact .of (HE hc hl (bJ h1) (aG X p (aA h).1).1 (aG X l (aA h).2).1) rfl
 | .idx a i,sc,e,h=>by
  apply fV h; intro v s p h
  refine aB h fun z h=>?_
  exact .of (PZ (bJ z) (aG X a (aA h).1).1 (aG X i (aA h).2).1) rfl
 | .slc a lo hi,sc,e,h=>by
  apply fV h; intro v s p h
  apply z0 h; intro l u st q h
  refine aB h fun z h=>?_; apply sJ z
  exact .of (PU (aG X a (aA h).1).1 (EQ X lo (aA (aA h).2).1) (EQ X hi (aA (aA h).2).2)) rfl
 | .nil,sc,e,h=>by
  apply rJ h; intro xs p h
  apply dU h
  exact .of PV rfl
 | .addm p,sc,e,h=>by
  apply cB h; intro x n q h
  refine aB h fun z h=>?_; apply cL z
  exact .of (MH (bJ (aA h).1) (aG X p (aA h).2).1) rfl
 | .app f p,sc,e,h=>by
  apply dR h; intro fe as ks q h
  refine aB h fun z h=>?_; apply dU z
  apply cK h; intro x h
  refine aB h fun h1 h=>aB h fun h2 h=>aB h fun h3 h4=>?_
  have i:IE D sc f fe:=aG X f h3
  exact .of (aM (m:=fun fe=>IE D sc f fe→cN D sc (.Call fe [x] [] q) (.app f p)) h4 (fun n np _ i=>P4 rfl (bJ h1) i.1 (aG X p h2).1) i) rfl
 | .appL l p,sc,e,h=>by
  apply lI h; intro o as apos pos hc hl h
  apply cK h; intro x h
  refine aB h fun h1 h=>?_
  exact .of (MG hc hl (bJ h1) (aG X l (aA h).1).1 (aG X p (aA h).2).1) rfl
 | .fstr a p b,sc,e,h=>by
  apply yV h; intro es q h
  apply cV h; intro x r h
  apply cV h; intro v r h
  apply cK h; intro y h
  apply cD h; intro c1 k1 p1 h
  refine aB h fun z h=>?_; apply cL z
  apply cD h; intro c2 k2 p2 h
  refine aB h fun z h=>?_; apply cL z
  refine aB h fun h1 h=>aB h fun h2 h=>?_
  apply oV h; intro v' cv sp p3 h
  refine aB h fun z h=>?_; apply cL z
  refine aB h fun z h=>?_; apply sJ z
  exact .of (MD h1 h2 (aG X p h).1) rfl
 | .neg i,sc,e,h=>by
  apply jO h; intro o x p h
  refine aB h fun z h=>?_; apply cL z
  apply cD h; intro c k q h
  apply cL h
  exact J4 PW fun _=>rfl
 | .ext j,sc,e,h=>.of (X.x j sc e (aA h).1) (aA h).2
 | .stuck,sc,e,h=>⟨fun _ hd=>(nomatch hd),fun _ hd=>(nomatch hd)⟩
theorem tO(X:N3 D K fA xc):∀(ps:GC){sc:Scope}{es:List Expr},xR K D.cA fA xc D.nm sc ps es=true→w8 D sc es ps
 | .nil,sc,es,h=>by apply dU h; exact c8
 | .cons p ps,sc,es,h=>by
  apply cV h; intro e r h
  refine aB h fun z h=>?_
  exact b5 (bJ z) (aG X p (aA h).1).1 (tO X ps (aA h).2)
theorem EQ(X:N3 D K fA xc):∀(p:OO){sc:Scope}{o:Option Expr},JN K D.cA fA xc D.nm sc p o=true→XG D sc o p
 | .no,sc,o,h=>by apply sJ h; exact VG
 | .yes p,sc,o,h=>by
  apply sB h; intro e h
  exact PR (aG X p h).1
end
end
section
variable{D:OD}{sc:Scope}{K:Frag}{fA:Nat→Option Addr}{A:Around}{E:Value→Shared→Prop}{env:Env}{ρ:LO}{μ μ':List Addr}{st so:St}{s s':Shared}{h:Heap}{xc:Nat→Scope→Expr→Bool}
theorem Oc.inL(C:Oc D sc A env ρ μ st s)(a:dF D.Z D.cA jX μ s.heap μ' so s'):dF D.Z D.cA (· = env.locals) μ s.heap μ' so s':=⟨a.i,a.t.inL C.he,a.so⟩
theorem V5{x y:Nat}{v u:OV}(hh:((ρ.set x (some v))[y]?).join=some u):(y=x∧v=u)∨(y≠x∧(ρ[y]?).join=some u):=by
 rw[List.getElem?_set]at hh
 by_cases e:x=y
 ·rw[if_pos e]at hh
  by_cases hx:x<ρ.length
  ·rw[if_pos hx]at hh; exact .inl ⟨e.symm,Option.some.inj hh⟩
  ·rw[if_neg hx]at hh; cases hh
 ·rw[if_neg e]at hh
  exact .inr ⟨fun e'=>e e'.symm,hh⟩
theorem Oc.store(C:Oc D sc A env ρ μ st s){x:Nat}{n:Str}{w:Value}{v:OV}{Q:Unit→Shared→Prop}(hnd:D.nm.Nodup)(hx:D.nm[x]? = some n)(hl:sc.names.lookup n=some .local)(hw:VE μ w v)
  (hQ:∀ s',dF D.Z D.cA (· = env.locals) μ s.heap μ st s'→l5 D.Z D.nm env (ρ.set x (some v)) μ s'.heap→Q () s'):wpAny (model D.Z.prog D.Z.w) A (storeName env n w) Q E s:=by
 have hE:=C.he
 obtain⟨m,hm,hv⟩:=hE.ns
 refine wpAny_storeName_local (C.hs.1 n hl) hm (fun h' hn hsb=>hQ _ ⟨C.hi.same hE.new hsb (fun _=>let⟨o,es,ep,e,hd,_⟩:=hn; ⟨o,e,es,ep,hd⟩) _,⟨List.prefix_rfl,fun b o e _ _ hb=>.inl ((hsb.2 b hb).trans e),fun _ h hn=>absurd h hn⟩,?_⟩ ?_) (by rw[hE.kind]; rfl)
 ·exact⟨C.so.len,C.so.nd,C.so.hi,fun k a f h1 h2=>(C.so.at_ k a f h1 h2).sl List.prefix_rfl fun o e=>.inl ((hsb.2 a fun e'=>hE.out (e'▸List.mem_of_getElem? h1)).trans e)⟩
 ·refine{ hE with ns:=⟨_,hn,fun y u k h1 h2=>(V5 h1).elim (fun⟨e,e'⟩=>?_) fun⟨hne,h1⟩=>?_⟩ }
  ·subst e e'
   cases hx.symm.trans h2
   exact⟨w,if_pos rfl,hw⟩
  ·obtain⟨w',h3,h4⟩:=hv y u k h1 h2
   exact⟨w',(if_neg fun e:k=n=>hne (iW hnd h2 (e▸hx))).trans h3,h4⟩
noncomputable def Z9(D:OD)(env:Env)(μ:List Addr)(h:Heap):lZ→Flow→Prop
 | .next ρ,fl=>fl = .next∧l5 D.Z D.nm env ρ μ h
 | .brk ρ,fl=>fl = .brk∧l5 D.Z D.nm env ρ μ h
 | .cont ρ,fl=>fl = .cont∧l5 D.Z D.nm env ρ μ h
 | .ret v,fl=>∃ w,fl = .ret w∧VE μ w v
def vP(D:OD)(env:Env)(μ:List Addr)(h:Heap)(r:lZ×St)(R:Flow→Shared→Prop):Prop:=∀ fl s' μ',dF D.Z D.cA (· = env.locals) μ h μ' r.2 s'→Z9 D env μ' s'.heap r.1 fl→R fl s'
theorem vP.from_{r:lZ×St}{R:Flow→Shared→Prop}(p:vP D env μ h r R)(a:dF D.Z D.cA (· = env.locals) μ h μ' so s'):vP D env μ' s'.heap r R:=fun fl s'' μ'' b f=>p fl s'' μ'' (a.trans b) f
end
section
variable(D:OD)(sc:Scope)(fuel:Nat)
def l4(st:Stmt)(p:OS):Prop :=
 ∀{A:Around}{env:Env}{ρ:LO}{μ:List Addr}{so:St}{s:Shared}{r:lZ×St}{R:Flow→Shared→Prop}{E:Value→Shared→Prop},
  Oc D sc A env ρ μ so s→A6 D.cl D.ex fuel p ρ so=some r→vP D env μ s.heap r R→wpAny (model D.Z.prog D.Z.w) A (exec st env) R E s
def TD(ss:List Stmt)(p:kD):Prop :=
 ∀{A:Around}{env:Env}{ρ:LO}{μ:List Addr}{so:St}{s:Shared}{r:lZ×St}{R:Flow→Shared→Prop}{E:Value→Shared→Prop},
  Oc D sc A env ρ μ so s→bO D.cl D.ex fuel p ρ so=some r→vP D env μ s.heap r R→wpAny (model D.Z.prog D.Z.w) A (execs ss env) R E s
end
section
variable{D:OD}{sc:Scope}{fuel:Nat}{K:Frag}{fA:Nat→Option Addr}{A:Around}{E:Value→Shared→Prop}{env:Env}{ρ ρ':LO}{μ μ':List Addr}{so st st':St}{s s':Shared}{xc:Nat→Scope→Expr→Bool}
 {np pos apos:Pos} {value o:Expr} {p q:OE}
theorem Oc.to(C:Oc D sc A env ρ μ so s)(a:dF D.Z D.cA (· = env.locals) μ s.heap μ' st s')(e:l5 D.Z D.nm env ρ' μ' s'.heap):Oc D sc A env ρ' μ' st s':=⟨C.ha,C.hs,e,a.i,a.so⟩
theorem Oc.next(C:Oc D sc A env ρ μ so s){R:Flow→Shared→Prop}(hR:vP D env μ s.heap (.next ρ,st) R)(a:dF D.Z D.cA jX μ s.heap μ' st s'):R .next s':=hR _ _ _ (C.inL a) ⟨rfl,C.he.step a.t⟩
theorem PM:TD D sc fuel [] .nil:=fun{A env ρ μ so s r R E}C hd hR=>by
 cases hd
 exact wpAny_execs_nil (C.next hR C.at)
theorem L7{st:Stmt}{ss:List Stmt}{p:OS}{ps:kD}(h1:l4 D sc fuel st p)(h2:TD D sc fuel ss ps):TD D sc fuel (st::ss) (.cons p ps):=fun{A env ρ μ so s r R E}C hd hR=>bG hd fun f so₁ hx hd=>by
 refine wpAny_execs_cons (h1 C hx fun fl s' μ' a g=>?_)
 cases f with
 | next ρ'=>obtain⟨rfl,e⟩:=g; exact h2 (C.to a e) hd (hR.from_ a)
 | brk ρ'=>obtain⟨rfl,e⟩:=g; cases hd; exact hR _ _ _ a ⟨rfl,e⟩
 | cont ρ'=>obtain⟨rfl,e⟩:=g; cases hd; exact hR _ _ _ a ⟨rfl,e⟩
 | ret v=>obtain⟨w,rfl,e⟩:=g; cases hd; exact hR _ _ _ a ⟨w,rfl,e⟩
theorem uF{x:Nat}{n:Str}(hnd:D.nm.Nodup)(hx:D.nm[x]? = some n)(hl:sc.names.lookup n=some .local)(hc:gF value=false)(h:cN D sc value p):l4 D sc fuel (.Assign [.Name n np] value pos) (.assign x p):=fun{A env ρ μ so s r R E}C hd hR=>b7 hd fun v hv e=>by
 cases e
 exact wpAny_Assign_Name (h C hv fun w s₁ μ₁ a₁ hw=>(C.go a₁).store hnd hx hl hw fun s₂ a₂ E₂=>hR _ s₂ μ₁ ((C.inL a₁).trans a₂) ⟨rfl,E₂⟩) (jM hc _ _ _)
theorem AX{x y:Nat}{n m:Str}{p1 p2 tp vp:Pos}{k k':Nat}{ea eb:Expr}{a b:OE}(hnd:D.nm.Nodup)(hxy:x≠y)(hx:D.nm[x]? = some n)(hy:D.nm[y]? = some m)(hk1:sc.names.lookup n=some .local)(hk2:sc.names.lookup m=some .local)
  (hsa:aC ea=false) (hsb:aC eb=false) (hcon:(!([ea,eb].all (foldedForSure 8))&&[ea,eb].all (constantsAlone 8))=false) (ha:cN D sc ea a) (hb:cN D sc eb b) :
  l4 D sc fuel (.Assign [.Tuple [.Name n p1,.Name m p2] k tp] (.Tuple [ea,eb] k' vp) pos) (.assign2 x y a b):=fun{A env ρ μ so s r R E}C hd hR=>bG hd fun d1 so₁ hv1 hd=>b7 hd fun d2 hv2 e=>by
 cases e
 refine k7 C.ha.handled hsa hsb hcon (ha C hv1 fun v1 s₁ μ₁ a₁ hw1=>hb (C.go a₁) hv2 fun v2 s₂ μ₂ a₂ hw2 h' hk=>?_)
 have t:=(a₁.trans a₂).kp (a₂.i.full (h':=h') (tk:=s₂.toks) hk) (Kp.of hk)
 have C':=C.go t
 have hw1:=hw1.pre a₂.t.pre
 have fin:∀{s₅ s₆ σ},dF D.Z D.cA (· = env.locals) μ₂ h' μ₂ d2.2 s₅→dF D.Z D.cA (· = env.locals) μ₂ s₅.heap μ₂ d2.2 s₆→l5 D.Z D.nm env σ μ₂ s₆.heap→σ=(ρ.set x (some d1)).set y (some d2.1)→R .next s₆:=fun a₅ a₆ e he=>hR _ _ μ₂ ((C.inL t).trans (a₅.trans a₆)) ⟨rfl,he▸e⟩
 exact⟨C'.store hnd hx hk1 hw1 fun s₅ a₅ E₅=>(C'.to a₅ E₅).store hnd hy hk2 hw2 fun s₆ a₆ E₆=>fin a₅ a₆ E₆ rfl,
  C'.store hnd hy hk2 hw2 fun s₅ a₅ E₅=>(C'.to a₅ E₅).store hnd hx hk1 hw1 fun s₆ a₆ E₆=>fin a₅ a₆ E₆ (List.set_comm _ _ (Ne.symm hxy))⟩
theorem L4{c:Nat}{C':Addr}{a:Str}(hK:∀ h,D.Z.TabI h→K.In h)(hC:D.cA c=some C')(hok:y9 K C' a=true)(hc:gF value=false)(ho:cN D sc o q)(h:cN D sc value p) :
  l4 D sc fuel (.Assign [.Attribute o a apos] value pos) (.setA c q a p):=fun{A env ρ μ so s r R E}C hd hR=>bG hd fun v so₁ hv hd=>bG hd fun u so₂ hu hd=>b7 hd fun so₃ h3 e=>by
 cases e
 exact plainObj_wpAny_Assign_Attribute (h C hv fun w s₁ μ₁ a₁ hw=>ho (C.go a₁) hu fun z s₂ μ₂ a₂ hz=>XM (hK _ a₂.i.tab) (a₁.trans a₂) hC hok h3 hz (hw.pre a₂.t.pre) fun s₃ a₃=>C.next hR a₃) (jM hc _ _ _)
theorem AA{h:Heap}{w u:Value}{x y v:OV}{op:Operator}{Q:Value→Shared→Prop}(a:dF D.Z D.cA jX μ h μ' st' s')(hop:(op == .Add||op == .Sub)=true)(hw:VE μ' w x)(hu:VE μ' u y)(hv:GJ op x y=some v)(g:gW D.Z D.cA μ h st' v Q) :
  wpAny (model D.Z.prog D.Z.w) A (inplaceOp op w u) Q E s':=vL hv fun x' e1 f1 hv=>vL hv fun y' e2 f2 hv=>tD hv fun d h3 f3 e=>by
 subst e1 e2 e
 obtain⟨r1,ok1,_⟩:=pX.rd hw s'.heap
 obtain⟨r2,ok2,_⟩:=pX.rd hu s'.heap
 exact oR r1 r2 ok1 ok2 f1 hop h3 fun v' tk r ok=>g _ _ _ (a.tok tk) ⟨r _,ok⟩
theorem PP{x:Nat}{n:Str}{op:Operator}(hnd:D.nm.Nodup)(hx:D.nm[x]? = some n)(hl:sc.names.lookup n=some .local)(h:cN D sc value p):l4 D sc fuel (.AugAssign (.Name n np) op value pos) (.aug x op p):=fun{A env ρ μ so s r R E}C hd hR =>
 aT hd fun a ha hd=>bG hd fun v so₁ hv hd=>iO hd fun hop hd=>b7 hd fun v' hv' e=>by
 cases e
 exact wpAny_AugAssign_Name (C.load hx hl ha fun w hw=>h C hv fun u s₁ μ₁ a₁ hu=>AA a₁ hop (hw.pre a₁.t.pre) hu hv' fun z s₂ μ₂ a₂ hz=>(C.go a₂).store hnd hx hl hz fun s₃ a₃ E₃=>hR _ s₃ μ₂ ((C.inL a₂).trans a₃) ⟨rfl,E₃⟩)
theorem L8{c:Nat}{C':Addr}{a:Str}{op:Operator}(hK:∀ h,D.Z.TabI h→K.In h)(hC:D.cA c=some C')(hok:y9 K C' a=true)(hgo:zE K C' a=true)(ho:cN D sc o q)(h:cN D sc value p) :
  l4 D sc fuel (.AugAssign (.Attribute o a apos) op value pos) (.augA c q a op p):=fun{A env ρ μ so s r R E}C hd hR =>
 bG hd fun u so₁ hu hd=>bG hd fun k es hi hd=>aT hd fun old hold hd=>bG hd fun v so₂ hv hd=>iO hd fun hop hd=>aT hd fun v' hv' hd=>b7 hd fun so₃ h3 e=>by
 cases e
 exact wpAny_AugAssign_AttributeAny (ho C hu fun z s₁ μ₁ a₁ hz=>XW (hK _ a₁.i.tab) a₁.so hC hgo hi hold hz fun w hw=>h (C.go (a₁.tok _)) hv fun y s₂ μ₂ a₂ hy =>
  AA (.here a₂.i a₂.so) hop (hw.pre a₂.t.pre) hy hv' fun x s₃ μ₃ a₃ hx=>XM (hK _ a₃.i.tab) (((a₁.tok _).trans a₂).trans a₃) hC hok h3 ((hz.pre a₂.t.pre).pre a₃.t.pre) hx fun s₄ a₄=>C.next hR a₄)
theorem L5{e:Expr}(hc:gF e=false)(h:cN D sc e p):l4 D sc fuel (.Expr e pos) (.expr p):=fun{A env ρ μ so s r R E}C hd hR=>bG hd fun v so₁ hv hd=>jY hd fun x ex hd=>by
 cases hd
 have ex:v = .d x:=ex
 subst ex
 have hint:interactive env=false:=by unfold interactive; rw[C.he.kind]; rfl
 exact wpAny_Expr (h C hv fun w s₁ μ₁ a₁ hw=>have:=C.next hR a₁; by obtain⟨r,_⟩:=hw; cases r <;> exact this) hint (jM hc _ _ _)
theorem E4{e:Expr}(h:cN D sc e p):l4 D sc fuel (.Return (some e) pos) (.ret p):=fun{A env ρ μ so s r R E}C hd hR=>b7 hd fun v hv e=>by
 cases e
 exact wpAny_Return_some (h C hv fun w s₁ μ₁ a₁ hw=>hR _ _ _ (C.inL a₁) ⟨w,rfl,hw⟩)
theorem VD{t:Expr}{b1 b2:List Stmt}{c:OE}{p1 p2:kD}(hc:IB D sc t c)(h1:TD D sc fuel b1 p1)(h2:TD D sc fuel b2 p2):l4 D sc fuel (.If t b1 b2 pos) (.ife c p1 p2):=fun{A env ρ μ so s r R E}C hd hR=>bG hd fun b so₁ hv hd =>
 wpAny_If (hc C hv fun s₁ μ₁ a₁=>by
  cases b with
  | true=>exact h1 (C.go a₁) hd (hR.from_ (C.inL a₁))
  | false=>exact h2 (C.go a₁) hd (hR.from_ (C.inL a₁)))
theorem DJ{t:Expr}{m:Option Expr}{c:OE}(hc:IB D sc t c):l4 D sc fuel (.Assert t m pos) (.asrt c):=fun{A env ρ μ so s r R E}C hd hR=>bG hd fun b so₁ hv hd=>iO hd fun hb e=>by
 cases e
 exact wpAny_Assert_holds (hc C hv fun s₁ μ₁ a₁=>⟨hb,C.next hR a₁⟩)
theorem PN:l4 D sc fuel (.Break pos) .brk:=fun{A env ρ μ so s r R E}C hd hR=>by
 cases hd
 exact wpAny_Break (hR _ _ _ (C.inL C.at) ⟨rfl,C.he⟩)
theorem L6:l4 D sc fuel (.Continue pos) .cont:=fun{A env ρ μ so s r R E}C hd hR=>by
 cases hd
 exact wpAny_Continue (hR _ _ _ (C.inL C.at) ⟨rfl,C.he⟩)
theorem HC{t:Expr}{b:List Stmt}{c:OE}{ps:kD}(hc:IB D sc t c)(h:TD D sc fuel b ps):l4 D sc fuel (.While t b [] pos) (.while_ c ps):=fun{A env ρ μ so s r R E}C hd hR=>by
 refine wpAny_While (codeAny_whileLoop (fun n s'=>∃ ρ' μ' so',dF D.Z D.cA (· = env.locals) μ s.heap μ' so' s'∧l5 D.Z D.nm env ρ' μ' s'.heap∧cX (j9 D.cl D.ex c) (bO D.cl D.ex fuel ps) n ρ' so'=some r) ?_ fuel ⟨ρ,μ,so,C.inL C.at,C.he,hd⟩)
 rintro n s₀ ⟨ρ',μ',so',a,E',hw⟩
 cases n with
 | zero=>cases hw
 | succ n =>
  have C':=C.to a E'
  exact bG hw fun tb so₁ hv hw=>hc C' hv fun s₁ μ₁ a₁=>by
   have a₂:=a.trans (C'.inL a₁)
   cases tb with
   | false =>
    cases hw
    exact wpAny_execs_nil (hR _ _ _ a₂ ⟨rfl,E'.step a₁.t⟩)
   | true =>
    exact bG hw fun f so₂ hb hw=>h (C'.go a₁) hb fun fl s₂ μ₂ a₃ g=>by
     cases f with
     | next ρ₂=>obtain⟨rfl,e⟩:=g; exact⟨n,Nat.lt_succ_self n,ρ₂,μ₂,so₂,a₂.trans a₃,e,hw⟩
     | cont ρ₂=>obtain⟨rfl,e⟩:=g; exact⟨n,Nat.lt_succ_self n,ρ₂,μ₂,so₂,a₂.trans a₃,e,hw⟩
     | brk ρ₂=>obtain⟨rfl,e⟩:=g; cases hw; exact hR _ _ _ (a₂.trans a₃) ⟨rfl,e⟩
     | ret v=>obtain⟨w,rfl,e⟩:=g; cases hw; exact hR _ _ _ (a₂.trans a₃) ⟨w,rfl,e⟩
end
section
variable(K:Frag)(cA fA:Nat→Option Addr)(xc:Nat→Scope→Expr→Bool)(nm:List Str)
noncomputable def OI(sc:Scope)(x:Nat)(n:Str):Bool:=nm[x]? == some n&&sc.names.lookup n==some .local
noncomputable def SL:OS→Bool
 | .stuck=>true
 | _=>false
theorem UL{p:OS}(h:SL p=true):p = .stuck:=by
 cases p with
 | stuck=>rfl
 | _=>cases h
mutual
noncomputable def S1(sc:Scope):OS→Stmt→Bool
 | .assign x p,st=>cP st fun ts v _=>fW ts fun t=>aW t fun n _=>OI nm sc x n&&(!gF v&&bD K cA fA xc nm sc p v)
 | .assign2 x y a b,st=>cP st fun ts v _=>fW ts fun t=>fR t fun ns _ _=>iM ns fun t1 r=>fW r fun t2=>aW t1 fun n _=>aW t2 fun m _=>fR v fun es _ _=>iM es fun ea r=>fW r fun eb =>
   x != y&&(OI nm sc x n&&(OI nm sc y m&&(!aC ea&&(!aC eb&&(!(!([ea,eb].all (foldedForSure 8))&&[ea,eb].all (constantsAlone 8))&&(bD K cA fA xc nm sc a ea&&bD K cA fA xc nm sc b eb))))))
 | .setA c o a p,st=>cP st fun ts v _=>fW ts fun t=>bM t fun x n _=>n==a&&(iB (cA c) (fun C=>y9 K C a)&&(!gF v&&(bD K cA fA xc nm sc o x&&bD K cA fA xc nm sc p v)))
 | .aug x op p,st=>dB st fun t o v _=>o==op&&aW t fun n _=>OI nm sc x n&&bD K cA fA xc nm sc p v
 | .augA c q a op p,st=>dB st fun t o v _=>o==op&&bM t fun x n _=>n==a&&(iB (cA c) (fun C=>y9 K C a&&zE K C a)&&(bD K cA fA xc nm sc q x&&bD K cA fA xc nm sc p v))
 | .expr p,st=>iT st fun e _=>!gF e&&bD K cA fA xc nm sc p e
 | .ife c a b,st=>pE st fun t b1 b2 _=>bD K cA fA xc nm sc c t&&(eJ sc a b1&&eJ sc b b2)
 | .while_ c b,st=>iZ st fun t b1 b2 _=>b2.isEmpty&&(bD K cA fA xc nm sc c t&&eJ sc b b1)
 | .ret p,st=>eC st fun e _=>iB e fun e=>bD K cA fA xc nm sc p e
 | .brk,st=>st.ctorIdx==26
 | .cont,st=>st.ctorIdx==27
 | .asrt c,st=>jP st fun t _ _=>bD K cA fA xc nm sc c t
 | .stuck,_=>true
noncomputable def eJ(sc:Scope):kD→List Stmt→Bool
 | .nil,ss=>ss.isEmpty
 | .cons p ps,ss=>SL p||iM ss fun st r=>S1 sc p st&&eJ sc ps r
end
end
section
variable{D:OD}{K:Frag}{fA:Nat→Option Addr}{xc:Nat→Scope→Expr→Bool}
mutual
theorem O1(X:N3 D K fA xc)(hnd:D.nm.Nodup)(fuel:Nat):∀(p:OS){sc:Scope}{st:Stmt},S1 K D.cA fA xc D.nm sc p st=true→l4 D sc fuel st p
 | .assign x p,sc,st,h=>by
  apply dN h; intro ts v pos h
  apply cK h; intro t h
  apply aM h; intro n q h
  refine aB h fun h1 h=>aB h fun h2 h=>?_
  exact uF hnd (eq_of_beq (aA h1).1) (eq_of_beq (aA h1).2) (bJ h2) (aG X p h).1
 | .assign2 x y a b,sc,st,h=>by
  apply dN h; intro ts v pos h
  apply cK h; intro t h
  apply e7 h; intro ns k q h
  apply cV h; intro t1 r h
  apply cK h; intro t2 h
  apply aM h; intro n q1 h
  apply aM h; intro m q2 h
  apply e7 h; intro es k' q' h
  apply cV h; intro ea r' h
  apply cK h; intro eb h
  refine aB h fun h1 h=>aB h fun h2 h=>aB h fun h3 h=>aB h fun h4 h=>aB h fun h5 h=>aB h fun h6 h=>?_
  exact AX hnd (bne_iff_ne.mp h1) (eq_of_beq (aA h2).1) (eq_of_beq (aA h3).1) (eq_of_beq (aA h2).2) (eq_of_beq (aA h3).2) (bJ h4) (bJ h5) (bJ h6) (aG X a (aA h).1).1 (aG X b (aA h).2).1
 | .setA c o a p,sc,st,h=>by
  apply dN h; intro ts v pos h
  apply cK h; intro t h
  apply cB h; intro x n q h
  refine aB h fun z h=>aB h fun h1 h=>aB h fun h2 h=>?_; apply cL z
  obtain⟨C,hC,h1⟩:=eF h1
  exact L4 X.k hC h1 (bJ h2) (aG X o (aA h).1).1 (aG X p (aA h).2).1
 | .aug x op p,sc,st,h=>by
  apply gP h; intro t o v pos h
  refine aB h fun z h=>?_; apply cL z
  apply aM h; intro n q h
  exact PP hnd (eq_of_beq (aA (aA h).1).1) (eq_of_beq (aA (aA h).1).2) (aG X p (aA h).2).1
 | .augA c q a op p,sc,st,h=>by
  apply gP h; intro t o v pos h
  refine aB h fun z h=>?_; apply cL z
  apply cB h; intro x n q' h
  refine aB h fun z h=>aB h fun h1 h=>?_; apply cL z
  obtain⟨C,hC,h1⟩:=eF h1
  exact L8 X.k hC (aA h1).1 (aA h1).2 (aG X q (aA h).1).1 (aG X p (aA h).2).1
 | .expr p,sc,st,h=>by
  apply pO h; intro e pos h
  exact L5 (bJ (aA h).1) (aG X p (aA h).2).1
 | .ife c a b,sc,st,h=>by
  apply yG h; intro t b1 b2 pos h
  exact VD (aG X c (aA h).1).2 (kO X hnd fuel a (aA (aA h).2).1) (kO X hnd fuel b (aA (aA h).2).2)
 | .while_ c b,sc,st,h=>by
  apply uG h; intro t b1 b2 pos h
  refine aB h fun z h=>?_; apply dU z
  exact HC (aG X c (aA h).1).2 (kO X hnd fuel b (aA h).2)
 | .ret p,sc,st,h=>by
  apply hY h; intro e pos h
  apply sB h; intro e h
  exact E4 (aG X p h).1
 | .brk,sc,st,h=>Stmt.Break.elim (motive_2:=fun st=>l4 D sc fuel st .brk) st (eq_of_beq h) fun _=>PN
 | .cont,sc,st,h=>Stmt.Continue.elim (motive_2:=fun st=>l4 D sc fuel st .cont) st (eq_of_beq h) fun _=>L6
 | .asrt c,sc,st,h=>by
  apply AY h; intro t m pos h
  exact DJ (aG X c h).2
 | .stuck,sc,st,h=>fun _ hd=>(nomatch hd)
theorem kO(X:N3 D K fA xc)(hnd:D.nm.Nodup)(fuel:Nat):∀(p:kD){sc:Scope}{ss:List Stmt},eJ K D.cA fA xc D.nm sc p ss=true→TD D sc fuel ss p
 | .nil,sc,ss,h=>by apply dU h; exact PM
 | .cons p ps,sc,ss,h=>by
  refine(Bool.or_eq_true_iff.mp h).elim (fun h=>?_) fun h=>?_
  ·cases UL h; exact fun _ hd=>nomatch hd
  ·apply cV h; intro st r h
   exact L7 (O1 X hnd fuel p (aA h).1) (kO X hnd fuel ps (aA h).2)
end
end
theorem JK{α:Type}{l:List α}{i:Nat}{a:α}(e:l[i]? = some a):i<l.length:=(List.getElem?_eq_some_iff.mp e).1
theorem LH{a d n:Nat}(h1:a≤n)(h2:n≤a+d):a+(d - (d+a - n))=n:=by
 obtain⟨j,rfl⟩:=Nat.exists_eq_add_of_le h1
 rw[Nat.add_comm d a,Nat.add_sub_add_left,Nat.sub_sub_self (Nat.le_of_add_le_add_left h2)]
structure eZ(Z:aE)(a:Addr)(fd:FuncData)(body:List Stmt)(nm:List Str)(pf:OF):Prop where
 lam:nm.length=14→fd.code=Z.lam
 obj:∃ o,Z.h₀.get? a=some o∧o.cls ≠ .none∧o.data = .func fd
 body:fd.body = .stmts body
 clo:fd.closure=[]
 kind:fd.scope.kind = .function
 co:fd.scope.isCoroutine=false
 gen:fd.scope.isGenerator=false
 glob:fd.globals=mainGlobals
 blt:fd.builtins=builtinsNs
 code:∃ c oc vs t,fd.code = .ref c∧Z.h₀.get? c=some oc∧oc.cls ≠ .none∧oc.data = .fields vs∧vs[1]? = some (.str fd.qualname t)
 bind:∃ dv:List Value,gT [] dv (pf.dflt.map .d)∧∀(s:Shared)(vals:List Value),Z.TabI s.heap→vals.length≤pf.arity→pf.arity≤vals.length+dv.length→BindsTo s fd ⟨vals,[]⟩ ((nm.take pf.arity).zip (vals++dv.drop (dv.length+vals.length - pf.arity)))
 len:pf.arity≤nm.length
 nd:nm.Nodup
 nocell:∀ p∈fd.scope.names,p.2 ≠ .cell∧p.2 ≠ .free
 params:∀ n∈nm.take pf.arity,fd.scope.names.lookup n=some .local
section
variable{prog:Program}{w:World}{A:Around}{s:Shared}
theorem m7{R:Result→Shared→Prop}{a:Addr}{o:Obj}{fd:FuncData}{body:List Stmt}{args:Args}{binds:List (Str×Value)}
  (hroom:A.depth<recursionLimit) (ho:s.heap.get? a=some o) (hdata:o.data = .func fd) (hlim:s.heap.NoLimit) (hcd:s.heap.CodeRec fd.code fd.qualname)
  (hbody:fd.body = .stmts body) (hbind:BindsTo s fd args binds) (hclo:fd.closure=[])
  (hkind:∀ x∈binds,fd.scope.names.lookup x.1=some .local∨(fd.scope.names.lookup x.1=some .cell∧((cellsFrom (s.heap.objs.size+1) fd.scope.names []).lookup x.1).isSome=true))
  (h:∀ s₁,InCallC s (callEnvC fd s.heap.objs.size a).locals (bindL (callEnvC fd s.heap.objs.size a).kindOf binds fun _=>none) (callEnvC fd s.heap.objs.size a).cells
    (bindC (callEnvC fd s.heap.objs.size a).kindOf binds fun _=>none) s₁ →
   wpAny (model prog w) (A.deeper (callEnvC fd s.heap.objs.size a)) (execs body (callEnvC fd s.heap.objs.size a)) (fun f s'=>R (.ok (.ret (match f with | .ret v=>v | _=>.none))) s')
    (fun e s'=>wpAny (model prog w) (A.deeper (callEnvC fd s.heap.objs.size a)) (leaving (callEnvC fd s.heap.objs.size a) e) (fun _ s''=>R (.error e) s'') (fun e' s''=>R (.error e') s'') s') s₁)
  (hco:fd.scope.isCoroutine=false) (hgen:fd.scope.isGenerator=false) (hk:fd.scope.kind = .function) :
  codeAny (model prog w) A (.call (.ref a) args) R s:=by
 refine codeAny_call_function hroom ho hdata hco hgen hbody hcd (hbind _ _ _ _ ?_)
 rw[hclo]
 refine wpAny_newFunctionEnv_cells hk hkind fun env he s' x=>?_
 subst he
 exact⟨hlim.keeps x.toInCall.keep,codeAny_func (h s' x)⟩
end
noncomputable abbrev OD.at(D:OD)(fr:List Addr):OD:={ D with Z:=D.Z.at fr }
section
variable{D:OD}{K:Frag}{fA:Nat→Option Addr}{xc:Nat→Scope→Expr→Bool}{a:Addr}{fd:FuncData}{body:List Stmt}{pf:OF}{nm:List Str}{st st':St}{μ:List Addr}{A:Around}{s:Shared}{R:Result→Shared→Prop}{ρ:LO}{all:List Value}{as:Args}
def OM(μ:List Addr)(all:List Value)(ρ:LO):Prop:=∀(x:Nat)(v:OV),(ρ[x]?).join=some v→∃ w,all[x]? = some w∧VE μ w v
theorem EL{vs:List Value}{xs:List OV}{k:Nat}(h:gT μ vs xs):OM μ vs (xs.map some++List.replicate k none):=fun x v hx=>by
 rw[List.getElem?_append]at hx
 by_cases c:x<(xs.map some).length
 ·rw[if_pos c,List.getElem?_map]at hx
  cases e:xs[x]? with
  | none=>rw[e]at hx; cases hx
  | some u =>
   rw[e]at hx
   cases(show some u=some v from hx)
   exact h.get e
 ·rw[if_neg c,List.getElem?_replicate]at hx
  by_cases c:x - (xs.map some).length<k
  ·rw[if_pos c]at hx; cases hx
  ·rw[if_neg c]at hx; cases hx
theorem eZ.binds(F:eZ D.Z a fd body nm pf)(I:bB D.Z s){vs:List Value}{args:List OV}(hvs:gT μ vs args)(hf:EA pf args=some ρ) :
  ∃ all,BindsTo s fd ⟨vs,[]⟩ ((nm.take pf.arity).zip all)∧all.length=pf.arity∧OM μ all ρ:=iO hf fun hc e=>by
 cases e
 obtain⟨hc,h4⟩:=aA (aA hc).1
 obtain⟨h1,h2⟩:=aA (aA hc).1
 obtain⟨dv,hdv,hb⟩:=F.bind
 have hvl:=hvs.length
 have hdl:dv.length=pf.dflt.length:=hdv.length.trans (List.length_map _)
 have h1:=hvl▸of_decide_eq_true h1
 have h2:pf.arity≤vs.length+dv.length:=by rw[hvl,hdl]; exact of_decide_eq_true h2
 refine⟨_,hb s vs I.tab h1 h2,by rw[List.length_append,List.length_drop]; exact LH h1 h2,EL (hvs.append ?_)⟩
 rw[List.map_drop,hvl,hdl]
 exact(hdv.pre List.nil_prefix).drop _
theorem eZ.at(F:eZ D.Z a fd body nm pf)(fr:List Addr):eZ (D.Z.at fr) a fd body nm pf:={ F with }
theorem B3(F:eZ D.Z a fd body D.nm pf)(hb:BindsTo s fd as ((D.nm.take pf.arity).zip all))(hall:all.length=pf.arity)(hval:OM μ all ρ)
  (hA:fJ D.Z (8*(D.lvl+1)) A) (hI:bB D.Z s) (hsz:D.Z.n≤s.heap.objs.size) (S:l7 D.Z D.cA μ st s.heap)
  (H:∀(env:Env)(s₁:Shared),env.frame=some env.locals→Oc (D.at (env.locals::D.Z.fr)) fd.scope (A.deeper env) env ρ μ st s₁ →
   (∀{μ':List Addr}{so:St}{s':Shared},dF (D.Z.at (env.locals::D.Z.fr)) D.cA (· = env.locals) μ s₁.heap μ' so s'→dF D.Z D.cA jX μ s.heap μ' so s') →
   (env=callEnvC fd s.heap.objs.size a∧(∀ b o,s.heap.get? b=some o→s₁.heap.get? b=some o)∧∃ m,s₁.heap.Ns env.locals m∧∀(x:Nat)n,(D.nm.take pf.arity)[x]? = some n→m n=all[x]?) →
   wpAny (model D.Z.prog D.Z.w) (A.deeper env) (execs body env) (fun f s'=>R (.ok (.ret (match f with | .ret v=>v | _=>.none))) s')
    (fun e s'=>wpAny (model D.Z.prog D.Z.w) (A.deeper env) (leaving env e) (fun _ s''=>R (.error e) s'') (fun e' s''=>R (.error e') s'') s') s₁):codeAny (model D.Z.prog D.Z.w) A (.call (.ref a) as) R s:=by
 obtain⟨c,oc,cvs,ct,hc1,hc2,hc3,hc4,hc5⟩:=F.code
 obtain⟨o,ho1,ho2,ho3⟩:=F.obj
 have hnl:(D.nm.take pf.arity).length=pf.arity:=by rw[List.length_take]; exact Nat.min_eq_left F.len
 have hbn:(((D.nm.take pf.arity).zip all).map (·.1))=D.nm.take pf.arity:=List.map_fst_zip (by rw[hnl,hall]; exact Nat.le_refl _)
 have htnd:(D.nm.take pf.arity).Nodup:=F.nd.sublist (List.take_sublist _ _)
 refine m7 hA.dp.2.2 (hI.old.get_of_cls ho1 ho2) ho3 hI.lim ⟨c,oc,cvs,ct,hc1,hI.old.get_of_cls hc2 hc3,hc4,hc5⟩ F.body hb F.clo (fun p hp=>.inl (F.params _ (hbn▸List.mem_map_of_mem hp))) (fun s₁ X₁=>?_) F.co F.gen F.kind
 have hkeep:=X₁.toInCall.keep
 have hns:=X₁.toInCall.ns
 have hat:∀(x:Nat)n,(D.nm.take pf.arity)[x]? = some n→bindL (callEnvC fd s.heap.objs.size a).kindOf ((D.nm.take pf.arity).zip all) (fun _=>none) n=all[x]?:=fun x n hx=>by
  rw[t5 _ _ _ (by rw[hbn]; exact htnd),if_pos (show(callEnvC fd s.heap.objs.size a).kindOf n=some .local from F.params n (List.mem_of_getElem? hx)),mY _ _ x n htnd hx]
  cases all[x]? <;> rfl
 have hI₀:bB D.Z s₁:=by
  obtain⟨h',tk,rfl⟩:=X₁.toInCall.same
  exact hI.full hkeep
 have hLnone:s.heap.get? s.heap.objs.size=none:=get?_ge (Nat.le_refl _)
 have hLμ:∀ a∈μ,a≠s.heap.objs.size:=fun a ha e=>let⟨o,e'⟩:=S.live a ha; nomatch (e▸hLnone).symm.trans e'
 refine H (callEnvC fd s.heap.objs.size a) s₁ rfl ⟨?_,⟨fun m h=>h,fun m h=>h,fun m h=>h⟩,?_,?_,?_⟩ (fun{μ' so s'}b=>⟨?_,?_,?_⟩) ⟨rfl,hkeep,_,hns,hat⟩
 ·refine⟨hA.handled,hA.dp.1,hA.dp.2.1,?_⟩
  obtain⟨fs,h1,h2⟩:=hA.frames
  refine⟨callEnvC fd s.heap.objs.size a::fs,by show A.frames.map _=_; rw[h1]; rfl,fun e he=>(List.mem_cons.mp he).elim (fun e'=>?_) fun he=>let⟨g1,L,g2,g3⟩:=h2 e he; ⟨g1,L,g2,List.mem_cons_of_mem _ g3⟩⟩
  subst e'
  exact⟨by show fd.scope.kind ≠ .module; rw[F.kind]; nofun,_,rfl,List.mem_cons_self⟩
 ·refine⟨F.lam,F.kind,F.glob,F.blt,hsz,fun h=>hLμ _ h rfl,_,hns,fun x v n h1 h2=>?_⟩
  obtain⟨w,hw,hwv⟩:=hval x v h1
  exact⟨w,(hat x n (by rw[List.getElem?_take,if_pos (hall▸JK hw)]; exact h2)).trans hw,hwv⟩
 ·refine⟨hI₀.old,hI₀.lim,hI₀.tab,hI₀.gens,hI₀.os,fun L hL=>(List.mem_cons.mp hL).elim (fun e=>?_) (hI₀.frs L)⟩
  obtain⟨o,es,ep,e',hdd,_⟩:=hns
  subst e
  exact⟨hsz,o,e',es,ep,hdd⟩
 ·exact⟨S.len,S.nd,fun a ha=>⟨(S.hi a ha).1,fun hm=>(List.mem_cons.mp hm).elim (hLμ a ha) (S.hi a ha).2⟩,fun k a f h1 h2=>(S.at_ k a f h1 h2).sl List.prefix_rfl fun o e=>.inl (hkeep a o e)⟩
 ·exact⟨b.i.old,b.i.lim,b.i.tab,b.i.gens,b.i.os,fun L hL=>b.i.frs L (List.mem_cons_of_mem _ hL)⟩
 ·exact⟨b.t.pre,fun c o e cl hb _=>b.t.keep c o (hkeep c o e) cl hb (fun e'=>by rw[show c=s.heap.objs.size from e',hLnone]at e; cases e),fun c hc hn=>let⟨h1,h2,_⟩:=b.t.new c hc hn; ⟨h1,oA (fun o e=>nomatch h2.symm.trans (hkeep c o e)),id⟩⟩
 ·exact⟨b.so.len,b.so.nd,fun c hc=>⟨(b.so.hi c hc).1,fun hm=>(b.so.hi c hc).2 (List.mem_cons_of_mem _ hm)⟩,b.so.at_⟩
theorem qL{fuel:Nat}{v:OV}(X:∀ fr,N3 (D.at fr) K fA xc)(F:eZ D.Z a fd body D.nm pf)(hck:eJ K D.cA fA xc D.nm fd.scope pf.body body=true)
  (hb:BindsTo s fd as ((D.nm.take pf.arity).zip all)) (hall:all.length=pf.arity) (hval:OM μ all ρ) (hd:eH (bO D.cl D.ex fuel pf.body ρ st)=some (v,st'))
  (hA:fJ D.Z (8*(D.lvl+1)) A) (hI:bB D.Z s) (hsz:D.Z.n≤s.heap.objs.size) (S:l7 D.Z D.cA μ st s.heap) (hR:gW D.Z D.cA μ s.heap st' v (fun w s'=>R (.ok (.ret w)) s')):codeAny (model D.Z.prog D.Z.w) A (.call (.ref a) as) R s :=
 B3 F hb hall hval hA hI hsz S fun env s₁ _ C out _=>by
 cases hx:bO D.cl D.ex fuel pf.body ρ st with
 | none=>rw[hx]at hd; cases hd
 | some r =>
  rw[hx]at hd
  refine kO (D:=D.at (env.locals::D.Z.fr)) (X _) F.nd fuel pf.body hck C hx fun fl s' μ' a' g=>?_
  obtain⟨f,so⟩:=r
  cases f with
  | next ρ'=>cases hd; obtain⟨rfl,_⟩:=g; exact hR .none s' μ' (out a') nM
  | ret u=>cases hd; obtain⟨w,rfl,hw⟩:=g; exact hR w s' μ' (out a') hw
  | brk ρ'=>cases hd
  | cont ρ'=>cases hd
theorem AB{fuel:Nat}{v:OV}{args:List OV}{vs:List Value}(X:∀ fr,N3 (D.at fr) K fA xc)(F:eZ D.Z a fd body D.nm pf)(hck:eJ K D.cA fA xc D.nm fd.scope pf.body body=true)
  (hfill:EA pf args=some ρ) (hd:eH (bO D.cl D.ex fuel pf.body ρ st)=some (v,st'))
  (hA:fJ D.Z (8*(D.lvl+1)) A) (hI:bB D.Z s) (hsz:D.Z.n≤s.heap.objs.size) (S:l7 D.Z D.cA μ st s.heap) (hvs:gT μ vs args) (hR:gW D.Z D.cA μ s.heap st' v (fun w s'=>R (.ok (.ret w)) s')):codeAny (model D.Z.prog D.Z.w) A (.call (.ref a) ⟨vs,[]⟩) R s :=
 let⟨_,hb,hall,hval⟩:=F.binds hI hvs hfill; qL X F hck hb hall hval hd hA hI hsz S hR
end
section
variable{Z:aE}{cA fA:Nat→Option Addr}{K:Frag}{xc:List Str→Nat→Scope→Expr→Bool}{tab:Nat→Option OF}{prim:jB→jB}{ex:jB→Nat→LO→St→Option (OV×St)}{fuel:Nat}
def KY(Z:aE)(K:Frag)(cA fA:Nat→Option Addr)(xc:List Str→Nat→Scope→Expr→Bool)(tab:Nat→Option OF):Prop :=
 ∀ f pf a,tab f=some pf→fA f=some a→H9 f=[]∧∃ fd body nm,eZ Z a fd body nm pf∧eJ K cA fA (xc nm) nm fd.scope pf.body body=true
def F6(Z:aE)(cA fA:Nat→Option Addr)(tab:Nat→Option OF)(prim:jB→jB):Prop :=
 ∀(cl:jB)(lvl:Nat),(∀ fr,bZ (Z.at fr) cA cl lvl fA)→∀{fr:List Addr}{f:Nat}{a:Addr}{args:List OV}{st:St}{v:OV}{st':St},tab f=none→fA f=some a→prim cl f args st=some (v,st') →
  ∀{A:Around}{s:Shared}{vs:List Value}{μ:List Addr}{R:Result→Shared→Prop},fJ (Z.at fr) (8*(lvl+2)) A→bB (Z.at fr) s→Z.n≤s.heap.objs.size→l7 (Z.at fr) cA μ st s.heap→gT μ vs args →
   gW (Z.at fr) cA μ s.heap st' v (fun w s'=>R (.ok (.ret w)) s')→codeAny (model Z.prog Z.w) A (.call (.ref a) (j6 f vs)) R s
def tI(Z:aE)(cA fA:Nat→Option Addr)(xc:List Str→Nat→Scope→Expr→Bool)(ex:jB→Nat→LO→St→Option (OV×St)):Prop :=
 ∀(cl:jB)(lvl:Nat),(∀ fr,bZ (Z.at fr) cA cl lvl fA)→∀ fr nm j sc e,xc nm j sc e=true→cN ⟨Z.at fr,cA,cl,ex cl,lvl+1,nm⟩ sc e (.ext j)
theorem bZ.up{cl:jB}{l l':Nat}(h:bZ Z cA cl l fA)(hl:l≤l'):bZ Z cA cl l' fA :=
 fun{f a args st v st'}h1 h2{A s vs μ R}hA=>h h1 h2 (hA.mono (Nat.mul_le_mul_left 8 hl))
theorem QC(hK:∀ h,Z.TabI h→K.In h)(hK0:K.In Z.h₀)(hB:gD Z)(hT:KY Z K cA fA xc tab)(hP:F6 Z cA fA tab prim)(hX:tI Z cA fA xc ex)  (lvl:Nat):∀ fr,bZ (Z.at fr) cA (qU tab prim ex fuel lvl) (2*lvl) fA:=by
 induction lvl with
 | zero=>intro fr f a args st v st' _ h; cases h
 | succ lvl ih =>
  intro fr f a args st v st' hf h A s vs μ R hA hI hsz S hvs hR
  have h:(match tab f with
   | some pf=>(EA pf args).bind fun ρ=>eH (bO (qU tab prim ex fuel lvl) (ex (qU tab prim ex fuel lvl)) fuel pf.body ρ st)
   | none=>prim (qU tab prim ex fuel lvl) f args st)=some (v,st'):=h
  cases ht:tab f with
  | none =>
   rw[ht]at h
   exact hP _ (2*lvl) ih ht hf h hA hI hsz S hvs hR
  | some pf =>
   rw[ht]at h
   exact aT h fun ρ hfill hd=>by
    obtain⟨hkw,fd,body,nm,F,hck⟩:=hT f pf a ht hf
    rw[i8 hkw]
    exact AB (D:=⟨Z.at fr,cA,qU tab prim ex fuel lvl,ex (qU tab prim ex fuel lvl),2*lvl+1,nm⟩) (xc:=xc nm) (fun fr'=>⟨hK,hK0,hB,bZ.up (ih fr') (Nat.le_succ _),fun j sc e hx=>hX _ (2*lvl) ih fr' nm j sc e hx⟩)
     (eZ.at (D:=⟨Z,cA,qU tab prim ex fuel lvl,ex (qU tab prim ex fuel lvl),2*lvl+1,nm⟩) F fr) hck hfill hd hA hI hsz S hvs hR
end
end Kt.Internal
end
section
open PySem PySem.W PyProof.Rows
namespace Kt.Internal
noncomputable def ZG:OF:=⟨2,2,[],(.cons (.ife (.bool true (.cmp .IsNot (.typ (.var 0)) (.ty "int")) (.cmp .IsNot (.typ (.var 0)) (.ty "bool"))) (.cons (.expr .stuck) .nil) .nil) (.cons (.assign 0 (.intc (.var 0))) (.cons (.ife (.bool false (.cmp .Gt (.var 0) (.lit (.int 1099511627776))) (.cmp .Lt (.var 0) (.neg 1099511627776))) (.cons (.expr .stuck) .nil) .nil) (.cons (.ret (.var 0)) .nil))))⟩
noncomputable def ZB:List Str:=["n", "what"]
noncomputable def JA:OF:=⟨4,2,[.int (-1)],(.cons (.ife (.cmp .Is (.var 1) (.lit .none)) (.cons (.assign 1 (.neg 1)) .nil) .nil) (.cons (.assign 1 (.call 0 (.cons (.var 1) (.cons (.lit (.str ("StringIO.read of a size that is no exact int" : Str))) .nil)))) (.cons (.expr (.mcall 1 (.var 0) ("_StringIO__check" : Str) 2 .nil)) (.cons (.assign 2 (.attr 1 (.var 0) ("_StringIO__pos" : Str))) (.cons (.assign 3 (.len (.attr 1 (.var 0) ("_StringIO__buf" : Str)))) (.cons (.ife (.cmp .GtE (.var 2) (.var 3)) (.cons (.ret (.lit (.str ("" : Str)))) .nil) .nil) (.cons (.ife (.bool true (.cmp .GtE (.var 1) (.lit (.int 0))) (.cmp .Lt (.bin .Add (.var 2) (.var 1)) (.var 3))) (.cons (.assign 3 (.bin .Add (.var 2) (.var 1))) .nil) .nil) (.cons (.setA 1 (.var 0) ("_StringIO__pos" : Str) (.var 3)) (.cons (.ret (.slc (.bin .Add (.slc (.attr 1 (.var 0) ("_StringIO__buf" : Str)) (.yes (.var 2)) (.yes (.var 3))) (.lit (.str (" " : Str)))) .no (.yes (.neg 1)))) .nil)))))))))⟩
noncomputable def ZA:List Str:=["self", "size", "start", "stop"]
noncomputable def ZF:OF:=⟨1,1,[],(.cons (.ife (.cmp .Is (.attr 1 (.var 0) ("_StringIO__buf" : Str)) (.lit .none)) (.cons .stuck .nil) .nil) .nil)⟩
noncomputable def Y9:List Str:=["self"]
noncomputable def ZE:OF:=⟨3,3,[.str ("" : Str),.str ("\n" : Str)],(.cons (.ife (.bool true (.cmp .IsNot (.var 2) (.lit .none)) (.cmp .IsNot (.typ (.var 2)) (.ty "str"))) (.cons (.expr .stuck) .nil) .nil) (.cons (.ife (.bool true (.cmp .IsNot (.var 2) (.lit .none)) (.bool true (.cmp .NotEq (.var 2) (.lit (.str ("" : Str)))) (.bool true (.cmp .NotEq (.var 2) (.lit (.str ("\n" : Str)))) (.bool true (.cmp .NotEq (.var 2) (.lit (.str ("\r" : Str)))) (.cmp .NotEq (.var 2) (.lit (.str ("\r\n" : Str)))))))) (.cons .stuck .nil) .nil) (.cons (.ife (.bool true (.cmp .IsNot (.var 1) (.lit .none)) (.cmp .IsNot (.typ (.var 1)) (.ty "str"))) (.cons (.expr .stuck) .nil) .nil) (.cons (.setA 1 (.var 0) ("_StringIO__newline" : Str) (.var 2)) (.cons (.setA 1 (.var 0) ("_StringIO__buf" : Str) (.lit (.str ("" : Str)))) (.cons (.setA 1 (.var 0) ("_StringIO__pos" : Str) (.lit (.int 0))) (.cons (.ife (.cmp .IsNot (.var 1) (.lit .none)) (.cons (.setA 1 (.var 0) ("_StringIO__buf" : Str) (.mcall 1 (.var 0) ("_StringIO__translated" : Str) 4 (.cons (.var 1) .nil))) .nil) .nil) .nil)))))))⟩
noncomputable def Y8:List Str:=["self", "initial_value", "newline"]
noncomputable def ZD:OF:=⟨3,2,[],(.cons (.assign 2 (.attr 1 (.var 0) ("_StringIO__newline" : Str))) (.cons (.ife (.cmp .Is (.var 2) (.lit .none)) (.cons (.ret (.repl (.repl (.var 1) (.lit (.str ("\r\n" : Str))) (.lit (.str ("\n" : Str)))) (.lit (.str ("\r" : Str))) (.lit (.str ("\n" : Str))))) .nil) .nil) (.cons (.ife (.bool false (.cmp .Eq (.var 2) (.lit (.str ("\r" : Str)))) (.cmp .Eq (.var 2) (.lit (.str ("\r\n" : Str))))) (.cons (.ret (.repl (.var 1) (.lit (.str ("\n" : Str))) (.var 2))) .nil) .nil) (.cons (.ret (.var 1)) .nil))))⟩
noncomputable def Y7:List Str:=["self", "s", "newline"]
noncomputable def dZ:OF:=⟨6,5,[.none,.none,.bool false,.bool false],(.cons (.ife (.isStr (.var 1)) (.cons (.assign 1 (.call 9 (.cons (.var 1) .nil))) .nil) .nil) (.cons (.ife (.cmp .IsNot (.var 1) (.lit .none)) (.cons (.setA 0 (.var 0) ("instream" : Str) (.var 1)) (.cons (.setA 0 (.var 0) ("infile" : Str) (.var 2)) .nil)) (.cons (.setA 0 (.var 0) ("instream" : Str) .stuck) (.cons (.setA 0 (.var 0) ("infile" : Str) (.lit .none)) .nil))) (.cons (.setA 0 (.var 0) ("posix" : Str) (.var 3)) (.cons (.ife (.var 3) (.cons (.setA 0 (.var 0) ("eof" : Str) (.lit .none)) .nil) (.cons (.setA 0 (.var 0) ("eof" : Str) (.lit (.str ("" : Str)))) .nil)) (.cons (.setA 0 (.var 0) ("commenters" : Str) (.lit (.str ("#" : Str)))) (.cons (.setA 0 (.var 0) ("wordchars" : Str) (.lit (.str ("abcdfeghijklmnopqrstuvwxyzABCDEFGHIJKLMNOPQRSTUVWXYZ0123456789_" : Str)))) (.cons (.ife (.attr 0 (.var 0) ("posix" : Str)) (.cons (.augA 0 (.var 0) ("wordchars" : Str) .Add (.lit (.str ("ßàáâãäåæçèéêëìíîïðñòóôõöøùúûüýþÿÀÁÂÃÄÅÆÇÈÉÊËÌÍÎÏÐÑÒÓÔÕÖØÙÚÛÜÝÞ" : Str)))) .nil) .nil) (.cons (.setA 0 (.var 0) ("whitespace" : Str) (.lit (.str (" \t\r\n" : Str)))) (.cons (.setA 0 (.var 0) ("whitespace_split" : Str) (.lit (.bool false))) (.cons (.setA 0 (.var 0) ("quotes" : Str) (.lit (.str ("'\"" : Str)))) (.cons (.setA 0 (.var 0) ("escape" : Str) (.lit (.str ("\\" : Str)))) (.cons (.setA 0 (.var 0) ("escapedquotes" : Str) (.lit (.str ("\"" : Str)))) (.cons (.setA 0 (.var 0) ("state" : Str) (.lit (.str (" " : Str)))) (.cons (.setA 0 (.var 0) ("pushback" : Str) (.ext 0)) (.cons (.setA 0 (.var 0) ("lineno" : Str) (.lit (.int 1))) (.cons (.setA 0 (.var 0) ("debug" : Str) (.lit (.int 0))) (.cons (.setA 0 (.var 0) ("token" : Str) (.lit (.str ("" : Str)))) (.cons (.setA 0 (.var 0) ("filestack" : Str) (.ext 0)) (.cons (.setA 0 (.var 0) ("source" : Str) (.lit .none)) (.cons (.ife (.nt (.var 4)) (.cons (.assign 4 (.lit (.str ("" : Str)))) .nil) (.cons (.ife (.cmp .Is (.var 4) (.lit (.bool true))) (.cons (.assign 4 (.lit (.str ("();<>|&" : Str)))) .nil) .nil) .nil)) (.cons (.setA 0 (.var 0) ("_punctuation_chars" : Str) (.var 4)) (.cons (.ife (.var 4) (.cons (.setA 0 (.var 0) ("_pushback_chars" : Str) (.ext 0)) (.cons (.augA 0 (.var 0) ("wordchars" : Str) .Add (.lit (.str ("~-./*?=" : Str)))) (.cons (.assign 5 .stuck) (.cons (.setA 0 (.var 0) ("wordchars" : Str) .stuck) .nil)))) .nil) .nil))))))))))))))))))))))⟩
noncomputable def cW:List Str:=["self", "instream", "infile", "posix", "punctuation_chars", "t"]
noncomputable def tA:OE:=(.lit (.bool true))
noncomputable def pG:kD:=(.cons (.ife (.bool true (.prop 0 (.var 0) ("punctuation_chars" : Str) 8) (.attr 0 (.var 0) ("_pushback_chars" : Str))) (.cons (.assign 4 .stuck) .nil) (.cons (.assign 4 (.mcall 1 (.attr 0 (.var 0) ("instream" : Str)) ("read" : Str) 1 (.cons (.lit (.int 1)) .nil))) .nil)) (.cons (.ife (.cmp .Eq (.var 4) (.lit (.str ("\n" : Str)))) (.cons (.augA 0 (.var 0) ("lineno" : Str) .Add (.lit (.int 1))) .nil) .nil) (.cons (.ife (.cmp .GtE (.attr 0 (.var 0) ("debug" : Str)) (.lit (.int 3))) (.cons (.expr .stuck) .nil) .nil) (.cons (.ife (.cmp .Is (.attr 0 (.var 0) ("state" : Str)) (.lit .none)) (.cons (.setA 0 (.var 0) ("token" : Str) (.lit (.str ("" : Str)))) (.cons .brk .nil)) (.cons (.ife (.cmp .Eq (.attr 0 (.var 0) ("state" : Str)) (.lit (.str (" " : Str)))) (.cons (.ife (.nt (.var 4)) (.cons (.setA 0 (.var 0) ("state" : Str) (.lit .none)) (.cons .brk .nil)) (.cons (.ife (.cmp .In (.var 4) (.attr 0 (.var 0) ("whitespace" : Str))) (.cons (.ife (.cmp .GtE (.attr 0 (.var 0) ("debug" : Str)) (.lit (.int 2))) (.cons (.expr .stuck) .nil) .nil) (.cons (.ife (.bool false (.attr 0 (.var 0) ("token" : Str)) (.bool true (.attr 0 (.var 0) ("posix" : Str)) (.var 1))) (.cons .brk .nil) (.cons .cont .nil)) .nil)) (.cons (.ife (.cmp .In (.var 4) (.attr 0 (.var 0) ("commenters" : Str))) (.cons (.expr .stuck) (.cons (.augA 0 (.var 0) ("lineno" : Str) .Add (.lit (.int 1))) .nil)) (.cons (.ife (.bool true (.attr 0 (.var 0) ("posix" : Str)) (.cmp .In (.var 4) (.attr 0 (.var 0) ("escape" : Str)))) (.cons (.assign 2 (.lit (.str ("a" : Str)))) (.cons (.setA 0 (.var 0) ("state" : Str) (.var 4)) .nil)) (.cons (.ife (.cmp .In (.var 4) (.attr 0 (.var 0) ("wordchars" : Str))) (.cons (.setA 0 (.var 0) ("token" : Str) (.var 4)) (.cons (.setA 0 (.var 0) ("state" : Str) (.lit (.str ("a" : Str)))) .nil)) (.cons (.ife (.cmp .In (.var 4) (.prop 0 (.var 0) ("punctuation_chars" : Str) 8)) (.cons (.setA 0 (.var 0) ("token" : Str) (.var 4)) (.cons (.setA 0 (.var 0) ("state" : Str) (.lit (.str ("c" : Str)))) .nil)) (.cons (.ife (.cmp .In (.var 4) (.attr 0 (.var 0) ("quotes" : Str))) (.cons (.ife (.nt (.attr 0 (.var 0) ("posix" : Str))) (.cons (.setA 0 (.var 0) ("token" : Str) (.var 4)) .nil) .nil) (.cons (.setA 0 (.var 0) ("state" : Str) (.var 4)) .nil)) (.cons (.ife (.attr 0 (.var 0) ("whitespace_split" : Str)) (.cons (.setA 0 (.var 0) ("token" : Str) (.var 4)) (.cons (.setA 0 (.var 0) ("state" : Str) (.lit (.str ("a" : Str)))) .nil)) (.cons (.setA 0 (.var 0) ("token" : Str) (.var 4)) (.cons (.ife (.bool false (.attr 0 (.var 0) ("token" : Str)) (.bool true (.attr 0 (.var 0) ("posix" : Str)) (.var 1))) (.cons .brk .nil) (.cons .cont .nil)) .nil))) .nil)) .nil)) .nil)) .nil)) .nil)) .nil)) .nil)) .nil) (.cons (.ife (.cmp .In (.attr 0 (.var 0) ("state" : Str)) (.attr 0 (.var 0) ("quotes" : Str))) (.cons (.assign 1 (.lit (.bool true))) (.cons (.ife (.nt (.var 4)) (.cons (.ife (.cmp .GtE (.attr 0 (.var 0) ("debug" : Str)) (.lit (.int 2))) (.cons (.expr .stuck) .nil) .nil) (.cons .stuck .nil)) .nil) (.cons (.ife (.cmp .Eq (.var 4) (.attr 0 (.var 0) ("state" : Str))) (.cons (.ife (.nt (.attr 0 (.var 0) ("posix" : Str))) (.cons (.augA 0 (.var 0) ("token" : Str) .Add (.var 4)) (.cons (.setA 0 (.var 0) ("state" : Str) (.lit (.str (" " : Str)))) (.cons .brk .nil))) (.cons (.setA 0 (.var 0) ("state" : Str) (.lit (.str ("a" : Str)))) .nil)) .nil) (.cons (.ife (.bool true (.attr 0 (.var 0) ("posix" : Str)) (.bool true (.cmp .In (.var 4) (.attr 0 (.var 0) ("escape" : Str))) (.cmp .In (.attr 0 (.var 0) ("state" : Str)) (.attr 0 (.var 0) ("escapedquotes" : Str))))) (.cons (.assign 2 (.attr 0 (.var 0) ("state" : Str))) (.cons (.setA 0 (.var 0) ("state" : Str) (.var 4)) .nil)) (.cons (.augA 0 (.var 0) ("token" : Str) .Add (.var 4)) .nil)) .nil)) .nil))) (.cons (.ife (.cmp .In (.attr 0 (.var 0) ("state" : Str)) (.attr 0 (.var 0) ("escape" : Str))) (.cons (.ife (.nt (.var 4)) (.cons (.ife (.cmp .GtE (.attr 0 (.var 0) ("debug" : Str)) (.lit (.int 2))) (.cons (.expr .stuck) .nil) .nil) (.cons .stuck .nil)) .nil) (.cons (.ife (.bool true (.cmp .In (.var 2) (.attr 0 (.var 0) ("quotes" : Str))) (.bool true (.cmp .NotEq (.var 4) (.attr 0 (.var 0) ("state" : Str))) (.cmp .NotEq (.var 4) (.var 2)))) (.cons (.augA 0 (.var 0) ("token" : Str) .Add (.attr 0 (.var 0) ("state" : Str))) .nil) .nil) (.cons (.augA 0 (.var 0) ("token" : Str) .Add (.var 4)) (.cons (.setA 0 (.var 0) ("state" : Str) (.var 2)) .nil)))) (.cons (.ife (.inT (.attr 0 (.var 0) ("state" : Str)) [("a" : Str),("c" : Str)]) (.cons (.ife (.nt (.var 4)) (.cons (.setA 0 (.var 0) ("state" : Str) (.lit .none)) (.cons .brk .nil)) (.cons (.ife (.cmp .In (.var 4) (.attr 0 (.var 0) ("whitespace" : Str))) (.cons (.ife (.cmp .GtE (.attr 0 (.var 0) ("debug" : Str)) (.lit (.int 2))) (.cons (.expr .stuck) .nil) .nil) (.cons (.setA 0 (.var 0) ("state" : Str) (.lit (.str (" " : Str)))) (.cons (.ife (.bool false (.attr 0 (.var 0) ("token" : Str)) (.bool true (.attr 0 (.var 0) ("posix" : Str)) (.var 1))) (.cons .brk .nil) (.cons .cont .nil)) .nil))) (.cons (.ife (.cmp .In (.var 4) (.attr 0 (.var 0) ("commenters" : Str))) (.cons (.expr .stuck) (.cons (.augA 0 (.var 0) ("lineno" : Str) .Add (.lit (.int 1))) (.cons (.ife (.attr 0 (.var 0) ("posix" : Str)) (.cons (.setA 0 (.var 0) ("state" : Str) (.lit (.str (" " : Str)))) (.cons (.ife (.bool false (.attr 0 (.var 0) ("token" : Str)) (.bool true (.attr 0 (.var 0) ("posix" : Str)) (.var 1))) (.cons .brk .nil) (.cons .cont .nil)) .nil)) .nil) .nil))) (.cons (.ife (.cmp .Eq (.attr 0 (.var 0) ("state" : Str)) (.lit (.str ("c" : Str)))) (.cons (.ife (.cmp .In (.var 4) (.prop 0 (.var 0) ("punctuation_chars" : Str) 8)) (.cons (.augA 0 (.var 0) ("token" : Str) .Add (.var 4)) .nil) (.cons (.ife (.cmp .NotIn (.var 4) (.attr 0 (.var 0) ("whitespace" : Str))) (.cons (.expr (.appL (.attr 0 (.var 0) ("_pushback_chars" : Str)) (.var 4))) .nil) .nil) (.cons (.setA 0 (.var 0) ("state" : Str) (.lit (.str (" " : Str)))) (.cons .brk .nil)))) .nil) (.cons (.ife (.bool true (.attr 0 (.var 0) ("posix" : Str)) (.cmp .In (.var 4) (.attr 0 (.var 0) ("quotes" : Str)))) (.cons (.setA 0 (.var 0) ("state" : Str) (.var 4)) .nil) (.cons (.ife (.bool true (.attr 0 (.var 0) ("posix" : Str)) (.cmp .In (.var 4) (.attr 0 (.var 0) ("escape" : Str)))) (.cons (.assign 2 (.lit (.str ("a" : Str)))) (.cons (.setA 0 (.var 0) ("state" : Str) (.var 4)) .nil)) (.cons (.ife (.bool false (.cmp .In (.var 4) (.attr 0 (.var 0) ("wordchars" : Str))) (.bool false (.cmp .In (.var 4) (.attr 0 (.var 0) ("quotes" : Str))) (.bool true (.attr 0 (.var 0) ("whitespace_split" : Str)) (.cmp .NotIn (.var 4) (.prop 0 (.var 0) ("punctuation_chars" : Str) 8))))) (.cons (.augA 0 (.var 0) ("token" : Str) .Add (.var 4)) .nil) (.cons (.ife (.prop 0 (.var 0) ("punctuation_chars" : Str) 8) (.cons (.expr (.appL (.attr 0 (.var 0) ("_pushback_chars" : Str)) (.var 4))) .nil) (.cons (.expr .stuck) .nil)) (.cons (.ife (.cmp .GtE (.attr 0 (.var 0) ("debug" : Str)) (.lit (.int 2))) (.cons (.expr .stuck) .nil) .nil) (.cons (.setA 0 (.var 0) ("state" : Str) (.lit (.str (" " : Str)))) (.cons (.ife (.bool false (.attr 0 (.var 0) ("token" : Str)) (.bool true (.attr 0 (.var 0) ("posix" : Str)) (.var 1))) (.cons .brk .nil) (.cons .cont .nil)) .nil))))) .nil)) .nil)) .nil)) .nil)) .nil)) .nil)) .nil) .nil) .nil)) .nil)) .nil)) .nil)) .nil))))
noncomputable def SD:OF:=⟨5,1,[],(.cons (.assign 1 (.lit (.bool false))) (.cons (.assign 2 (.lit (.str (" " : Str)))) (.cons (.while_ tA pG) (.cons (.assign 3 (.attr 0 (.var 0) ("token" : Str))) (.cons (.setA 0 (.var 0) ("token" : Str) (.lit (.str ("" : Str)))) (.cons (.ife (.bool true (.attr 0 (.var 0) ("posix" : Str)) (.bool true (.nt (.var 1)) (.cmp .Eq (.var 3) (.lit (.str ("" : Str)))))) (.cons (.assign 3 (.lit .none)) .nil) .nil) (.cons (.ife (.cmp .Gt (.attr 0 (.var 0) ("debug" : Str)) (.lit (.int 1))) (.cons (.ife (.var 3) (.cons (.expr .stuck) .nil) (.cons (.expr .stuck) .nil)) .nil) .nil) (.cons (.ret (.var 3)) .nil))))))))⟩
noncomputable def Y5:List Str:=["self", "quoted", "escapedstate", "result", "nextchar"]
noncomputable def VW:OE:=(.cmp .Eq (.var 1) (.attr 0 (.var 0) ("eof" : Str)))
noncomputable def VN:kD:=(.cons (.ife (.nt (.attr 0 (.var 0) ("filestack" : Str))) (.cons (.ret (.attr 0 (.var 0) ("eof" : Str))) .nil) (.cons (.expr .stuck) (.cons (.assign 1 (.mcall 0 (.var 0) ("get_token" : Str) 7 .nil)) .nil))) .nil)
noncomputable def VV:OE:=(.cmp .Eq (.var 1) (.attr 0 (.var 0) ("source" : Str)))
noncomputable def VM:kD:=(.cons (.assign 3 .stuck) (.cons (.ife (.var 3) (.cons .stuck .nil) .nil) (.cons (.assign 1 (.mcall 0 (.var 0) ("get_token" : Str) 7 .nil)) .nil)))
noncomputable def I9:OF:=⟨6,1,[],(.cons (.ife (.attr 0 (.var 0) ("pushback" : Str)) (.cons (.assign 2 .stuck) (.cons (.ife (.cmp .GtE (.attr 0 (.var 0) ("debug" : Str)) (.lit (.int 1))) (.cons (.expr .stuck) .nil) .nil) (.cons (.ret (.var 2)) .nil))) .nil) (.cons (.assign 1 (.mcall 0 (.var 0) ("read_token" : Str) 6 .nil)) (.cons (.ife (.cmp .IsNot (.attr 0 (.var 0) ("source" : Str)) (.lit .none)) (.cons (.while_ VV VM) .nil) .nil) (.cons (.while_ VW VN) (.cons (.ife (.cmp .GtE (.attr 0 (.var 0) ("debug" : Str)) (.lit (.int 1))) (.cons (.ife (.cmp .NotEq (.var 1) (.attr 0 (.var 0) ("eof" : Str))) (.cons (.expr .stuck) .nil) (.cons (.expr .stuck) .nil)) .nil) .nil) (.cons (.ret (.var 1)) .nil))))))⟩
noncomputable def Y4:List Str:=["self", "raw", "tok", "spec", "newfile", "newstream"]
noncomputable def ZC:OF:=⟨1,1,[],(.cons (.ret (.attr 0 (.var 0) ("_punctuation_chars" : Str))) .nil)⟩
noncomputable def Y3:List Str:=["self"]
noncomputable def VU:OF:=⟨1,1,[],(.cons (.ife (.isStr (.var 0)) (.cons (.ret (.ext 6)) .nil) (.cons (.assign 0 .stuck) (.cons (.ret .stuck) .nil))) .nil)⟩
noncomputable def VS:List Str:=["pattern"]
noncomputable def QH:OE:=(.lit (.bool true))
noncomputable def QF:kD:=(.cons (.assign 11 .stuck) (.cons (.ife (.cmp .Lt (.var 11) (.lit (.int 0))) (.cons .brk .nil) .nil) (.cons (.expr (.appL (.var 10) (.slc (.var 0) (.yes (.var 5)) (.yes (.var 11))))) (.cons (.assign 5 (.bin .Add (.var 11) (.lit (.int 1)))) (.cons (.assign 11 (.bin .Add (.var 11) (.lit (.int 3)))) .nil)))))
noncomputable def FE:OE:=(.bool true (.cmp .Lt (.var 8) (.var 6)) (.cmp .NotEq (.idx (.var 0) (.var 8)) (.lit (.str ("]" : Str)))))
noncomputable def FD:kD:=(.cons (.assign 8 (.bin .Add (.var 8) (.lit (.int 1)))) .nil)
noncomputable def rM:OE:=(.cmp .Lt (.var 5) (.var 6))
noncomputable def fS:kD:=(.cons (.assign 7 (.idx (.var 0) (.var 5))) (.cons (.assign 5 (.bin .Add (.var 5) (.lit (.int 1)))) (.cons (.ife (.cmp .Eq (.var 7) (.lit (.str ("*" : Str)))) (.cons (.ife (.bool false (.nt (.var 3)) (.cmp .IsNot (.idx (.var 3) (.neg 1)) (.var 1))) (.cons (.expr (.app (.var 4) (.var 1))) .nil) .nil) .nil) (.cons (.ife (.cmp .Eq (.var 7) (.lit (.str ("?" : Str)))) (.cons (.expr (.app (.var 4) (.var 2))) .nil) (.cons (.ife (.cmp .Eq (.var 7) (.lit (.str ("[" : Str)))) (.cons (.assign 8 (.var 5)) (.cons (.ife (.bool true (.cmp .Lt (.var 8) (.var 6)) (.cmp .Eq (.idx (.var 0) (.var 8)) (.lit (.str ("!" : Str))))) (.cons (.assign 8 (.bin .Add (.var 8) (.lit (.int 1)))) .nil) .nil) (.cons (.ife (.bool true (.cmp .Lt (.var 8) (.var 6)) (.cmp .Eq (.idx (.var 0) (.var 8)) (.lit (.str ("]" : Str))))) (.cons (.assign 8 (.bin .Add (.var 8) (.lit (.int 1)))) .nil) .nil) (.cons (.while_ FE FD) (.cons (.ife (.cmp .GtE (.var 8) (.var 6)) (.cons (.expr (.app (.var 4) (.lit (.str ("\\[" : Str))))) .nil) (.cons (.assign 9 (.slc (.var 0) (.yes (.var 5)) (.yes (.var 8)))) (.cons (.ife (.cmp .NotIn (.lit (.str ("-" : Str))) (.var 9)) (.cons (.assign 9 (.repl (.var 9) (.lit (.str ("\\" : Str))) (.lit (.str ("\\\\" : Str))))) .nil) (.cons (.assign 10 .nil) (.cons (.assign 11 .stuck) (.cons (.while_ QH QF) (.cons (.assign 12 (.slc (.var 0) (.yes (.var 5)) (.yes (.var 8)))) (.cons (.ife (.var 12) (.cons (.expr (.appL (.var 10) (.var 12))) .nil) (.cons .stuck .nil)) (.cons .stuck .nil))))))) (.cons (.assign 9 (.ext 5)) (.cons (.assign 5 (.bin .Add (.var 8) (.lit (.int 1)))) (.cons (.ife (.nt (.var 9)) (.cons (.expr (.app (.var 4) (.lit (.str ("(?!)" : Str))))) .nil) (.cons (.ife (.cmp .Eq (.var 9) (.lit (.str ("!" : Str)))) (.cons (.expr (.app (.var 4) (.lit (.str ("." : Str))))) .nil) (.cons (.ife (.cmp .Eq (.idx (.var 9) (.lit (.int 0))) (.lit (.str ("!" : Str)))) (.cons (.assign 9 (.bin .Add (.lit (.str ("^" : Str))) (.slc (.var 9) (.yes (.lit (.int 1))) .no))) .nil) (.cons (.ife (.inT (.idx (.var 9) (.lit (.int 0))) [("^" : Str),("[" : Str)]) (.cons (.assign 9 (.bin .Add (.lit (.str ("\\" : Str))) (.var 9))) .nil) .nil) .nil)) (.cons (.expr (.app (.var 4) (.fstr ("[" : Str) (.var 9) ("]" : Str)))) .nil))) .nil)) .nil)))))) .nil))))) (.cons (.expr (.app (.var 4) (.call 11 (.cons (.var 7) .nil)))) .nil)) .nil)) .nil)) .nil)))
noncomputable def KA:OF:=⟨14,3,[],(.cons (.assign 3 .nil) (.cons (.assign 4 (.addm (.var 3))) (.cons (.assign2 5 6 (.lit (.int 0)) (.len (.var 0))) (.cons (.while_ rM fS) (.cons (.asrt (.cmp .Eq (.var 5) (.var 6))) (.cons (.ret (.var 3)) .nil))))))⟩
noncomputable def VR:List Str:=["pat", "STAR", "QUESTION_MARK", "res", "add", "i", "n", "c", "j", "stuff", "chunks", "k", "chunk", "s"]
noncomputable def QG:OE:=(.bool true (.cmp .Lt (.var 4) (.var 5)) (.cmp .IsNot (.idx (.var 0) (.var 4)) (.var 1)))
noncomputable def QE:kD:=(.cons (.expr (.appL (.var 6) (.idx (.var 0) (.var 4)))) (.cons (.aug 4 .Add (.lit (.int 1))) .nil))
noncomputable def yH:OE:=(.cmp .Lt (.var 4) (.var 5))
noncomputable def FC:kD:=(.cons (.asrt (.cmp .Is (.idx (.var 0) (.var 4)) (.var 1))) (.cons (.aug 4 .Add (.lit (.int 1))) (.cons (.ife (.cmp .Eq (.var 4) (.var 5)) (.cons (.expr (.app (.var 3) (.lit (.str (".*" : Str))))) (.cons .brk .nil)) .nil) (.cons (.asrt (.cmp .IsNot (.idx (.var 0) (.var 4)) (.var 1))) (.cons (.assign 6 .nil) (.cons (.while_ QG QE) (.cons (.assign 6 (.joinL (.lit (.str ("" : Str))) (.var 6))) (.cons (.ife (.cmp .Eq (.var 4) (.var 5)) (.cons (.expr (.app (.var 3) (.lit (.str (".*" : Str))))) (.cons (.expr (.app (.var 3) (.var 6))) .nil)) (.cons (.expr (.app (.var 3) (.fstr ("(?>.*?" : Str) (.var 6) (")" : Str)))) .nil)) .nil))))))))
noncomputable def g9:OE:=(.bool true (.cmp .Lt (.var 4) (.var 5)) (.cmp .IsNot (.idx (.var 0) (.var 4)) (.var 1)))
noncomputable def lJ:kD:=(.cons (.expr (.app (.var 3) (.idx (.var 0) (.var 4)))) (.cons (.aug 4 .Add (.lit (.int 1))) .nil))
noncomputable def B5:OF:=⟨7,2,[],(.cons (.assign 2 .nil) (.cons (.assign 3 (.addm (.var 2))) (.cons (.assign2 4 5 (.lit (.int 0)) (.len (.var 0))) (.cons (.while_ g9 lJ) (.cons (.while_ yH FC) (.cons (.asrt (.cmp .Eq (.var 4) (.var 5))) (.cons (.assign 2 (.joinL (.lit (.str ("" : Str))) (.var 2))) (.cons (.ret (.fstr ("(?s:" : Str) (.var 2) (")\\Z" : Str))) .nil))))))))⟩
noncomputable def VQ:List Str:=["inp", "STAR", "res", "add", "i", "n", "fixed"]
noncomputable def J9:OF:=⟨3,1,[],(.cons (.assign 1 (.ext 7)) (.cons (.assign 2 (.call 12 (.cons (.var 0) (.cons (.var 1) (.cons (.lit (.str ("." : Str))) .nil))))) (.cons (.ret (.call 13 (.cons (.var 2) (.cons (.var 1) .nil)))) .nil)))⟩
noncomputable def VP:List Str:=["pat", "STAR", "parts"]
noncomputable def VT:OF:=⟨4,3,[.bool false,.bool true],(.cons (.ife (.cmp .Is (.var 0) (.lit .none)) (.cons .stuck .nil) .nil) (.cons (.assign 3 (.ext 1)) (.cons (.setA 0 (.var 3) ("whitespace_split" : Str) (.lit (.bool true))) (.cons (.ife (.nt (.var 1)) (.cons (.setA 0 (.var 3) ("commenters" : Str) (.lit (.str ("" : Str)))) .nil) .nil) (.cons (.ret (.ext 2)) .nil)))))⟩
noncomputable def VO:List Str:=["s", "comments", "posix", "lex"]
noncomputable def s9:List (Nat×List Str×OF):=[(0,ZB,ZG),(1,ZA,JA),(2,Y9,ZF),(3,Y8,ZE),(4,Y7,ZD),(6,Y5,SD),(7,Y4,I9),(8,Y3,ZC),(11,VS,VU),(12,VR,KA),(13,VQ,B5),(14,VP,J9),(15,VO,VT)]
noncomputable def D5(f:Nat):Option OF:=(s9.find? (·.1==f)).map (·.2.2)
noncomputable def fK(c:Nat):Bool:=(97≤c&&c≤122)||(65≤c&&c≤90)||(48≤c&&c≤57)||c==95||c==64||c==37||c==43||c==61||c==58||c==44||c==46||c==47||c==45
noncomputable def jC(c:Nat):Bool:=[97,39,91,32,34,42,92,93,63,35,45,98,33].contains c||decide (256≤c)
noncomputable def kH(c:Nat):Bool:=[40,41,91,93,123,125,63,42,43,45,124,94,36,92,46,38,126,35,32,9,10,13,11,12].contains c
section
variable{α β:Type}{G:Prop}{d:β}
noncomputable def kG(l:List α)(f:α→List α→Option β):Option β:=match l with | []=>none | a::r=>f a r
noncomputable def o7(l:List α)(x:Option β):Option β:=match l with | []=>x | _::_=>none
theorem mA{l:List α}{f:α→List α→Option β}(h:kG l f=some d)(k:∀ a r,l=a::r→f a r=some d→G):G:=by
 cases l with
 | nil=>cases h
 | cons a r=>exact k a r rfl h
theorem nL{l:List α}{x:Option β}(h:o7 l x=some d)(k:l=[]→x=some d→G):G:=by
 cases l with
 | nil=>exact k rfl h
 | cons a r=>cases h
noncomputable def GE(ρ:LO)(x:Nat)(f:OV→Option β):Option β:=((ρ[x]?).join).bind f
noncomputable def TL(v:OV)(f:Nat→Option β):Option β:=(nA v).bind fun x=>kG x.cps.toList fun c r=>o7 r (f c)
theorem R2{v:OV}{f:Nat→Option β}(h:TL v f=some d)(k:∀ c,v = .d (.str ⟨#[c]⟩)→f c=some d→G):G :=
 aT h fun x hx h=>jY hx fun y ev hy=>j5 hy fun z ey ez=>mA h fun c r hc h=>nL h fun hr h=>k c (by
  cases ez
  have e:x=⟨#[c]⟩:=congrArg Str.mk (Array.toList_inj.mp (hc.trans (congrArg (c :: ·) hr)))
  rw[ev,ey,e]) h
end
noncomputable def vI:OE:=.mcall 0 (.var 0) ("get_token" : Str) 7 .nil
noncomputable def I8:OE:=.cmp .Eq (.var 1) (.attr 0 (.var 0) ("eof" : Str))
noncomputable def sK(cl:jB)(l:OV)(st:St):Option (Option OV×St) :=
 (cR cl (fun _ _ _=>none) vI [some l,none] st).bind fun r=>(j9 cl (fun _ _ _=>none) I8 [some l,some r.1] r.2).map fun t=>(if t.1 then none else some r.1,t.2)
noncomputable def lD(cl:jB):Nat→OV→Nat→St→Option (OV×St)
 | 0,_,_,_=>none
 | n+1,l,k,st=>(sK cl l st).bind fun r=>r.1.elim (some (.o k,r.2)) fun x=>(nE r.2 k x).bind fun st'=>lD cl n l k st'
noncomputable def eG(fuel:Nat)(cl:jB)(j:Nat)(ρ:LO)(st:St):Option (OV×St):=([
 some (.o st.length,st++[.deq]),
 GE ρ 0 fun s=>GE ρ 2 fun p=>cl 18 [s,p] st,
 GE ρ 3 fun l=>lD cl fuel l st.length (st++[.list []]),
 none,
 none,
 GE ρ 9 fun s=>TL s fun c=>if c==42||c==63||c==91 then some (.d (.str ⟨#[c]⟩),st)else none,
 GE ρ 0 fun s=>TL s fun c=>some (.d (.str (if kH c then⟨#[92,c]⟩else⟨#[c]⟩)),st),
 some (.o st.length,st++[.plain])]:List (Option (OV×St)))[j]?.join
noncomputable def newO(cl:jB)(c i:Nat)(xs:List OV)(st:St):Option (OV×St):=(cl i (.o st.length::xs) (st++[.inst c,.dict []])).bind fun r=>qW r.1 fun d=>if d.ctorIdx=0 then some (.o st.length,r.2)else none
noncomputable def I5(fuel:Nat)(cl:jB)(f:Nat)(args:List OV)(st:St):Option (OV×St) :=
 if f=9 then kG args fun x r=>o7 r ((nA x).bind fun _=>newO cl 1 3 [x] st)
 else if f=18 then kG args fun x r=>kG r fun p r=>o7 r (newO cl 0 19 [x,p] st)
 else if f=19 then kG args fun l r=>kG r fun x r=>kG r fun p r=>o7 r (eH (bO cl (eG fuel cl) fuel dZ.body [some l,some x,some (.d .none),some p,some (.d (.bool false)),none] st))
 else none
noncomputable def aN(fuel:Nat):Nat→jB:=qU D5 (I5 fuel) (eG fuel) fuel
end Kt.Internal
end
section
open PySem PySem.W PyProof.Rows PySem.Calls
namespace Kt.Internal
set_option genCtorIdx false in
inductive X3 where
 | glob (n:Str)| meth (c m:Str)| prop (c m:Str)
theorem YV{v:Value}{a:Addr}(h:eY v=some a):v = .ref a:=by
 by_cases c:v.ctorIdx=10
 ·exact Value.ref.elim (motive:=fun v=>eY v=some a→v = .ref a) v c (fun b h=>congrArg Value.ref (Option.some.inj h)) h
 ·rw[eY,dif_neg c]at h; cases h
noncomputable def Dk(K:Frag)(r:X3):Option Addr:=match r with
 | .glob n=>(eI K n).bind eY
 | .meth c m=>((eI K c).bind eY).bind fun C=>(findIn K (.ref C) m).bind fun v=>v.bind eY
 | .prop c m=>((eI K c).bind eY).bind fun C=>(findIn K (.ref C) m).bind fun p=>(p.bind eY).bind fun a=>(recIn K a "property").bind fun vs=>vs.head?.bind eY
noncomputable def Z0:List (Option X3):=[some (.glob "_index"),some (.meth "StringIO" "read"),some (.meth "StringIO" "_StringIO__check"),some (.meth "StringIO" "__init__"),some (.meth "StringIO" "_StringIO__translated"),none,
 some (.meth "shlex" "read_token"),some (.meth "shlex" "get_token"),some (.prop "shlex" "punctuation_chars"),some (.glob "StringIO"),none,some (.glob "escape"),some (.glob "_translate"),
 some (.glob "_join_translated_parts"),some (.glob "translate"),some (.glob "split"),none,none,some (.glob "shlex"),some (.meth "shlex" "__init__")]
noncomputable def l6(K:Frag)(f:Nat):Option Addr:=(Z0[f]?.join).bind (Dk K)
noncomputable def pV(K:Frag)(c:Nat):Option Addr:=(["shlex", "StringIO"]:List Str)[c]?.bind fun n=>(eI K n).bind eY
noncomputable def nG(e:Value)(f:Int→Tok→Bool):Bool:=if h:e.ctorIdx=4 then Value.int.elim e h f else false
theorem BZ{e:Value}{f:Int→Tok→Bool}{m:Value→Prop}(h:nG e f=true)(k:∀ a b,f a b=true→m (.int a b)):m e:=by
 by_cases c:e.ctorIdx=4
 ·exact Value.int.elim (motive:=fun e=>nG e f=true→m e) e c k h
 ·rw[nG,dif_neg c]at h; cases h
noncomputable def XU(v:Value)(d:PyData):Bool:=match d with
 | .none=>v == .none
 | .bool b=>v == .bool b
 | .int i=>nG v fun j _=>j==i
 | .str x=>sG v fun y _=>y==x&&bL (.str x)
 | _=>false
theorem QS{v:Value}{d:PyData}(h:XU v d=true):pX v d:=by
 cases d with
 | none=>exact eq_of_beq h▸⟨.none,rfl⟩
 | bool b=>exact eq_of_beq h▸⟨.bool b,rfl⟩
 | int i=>exact BZ (m:=fun v=>pX v (.int i)) h fun j t h=>eq_of_beq h▸⟨.int j t,rfl⟩
 | str x=>exact BY (m:=fun v=>pX v (.str x)) h fun y t h=>cL (m:=fun y=>pX (.str y t) (.str x)) (aA h).1 ⟨.str x t,(aA h).2⟩
 | _=>cases h
noncomputable def JC:List PyData→List Value→Bool
 | [],vs=>vs.isEmpty
 | d::ds,vs=>iM vs fun v r=>XU v d&&JC ds r
theorem AF:∀{ds:List PyData}{vs:List Value},JC ds vs=true→gT [] vs (ds.map .d)
 | [],_,h=>dU (m:=fun vs=>gT [] vs []) h .nil
 | _::_,_,h=>cV (m:=fun vs=>gT [] vs _) h fun _ _ h=>.cons (QS (aA h).1) (AF (aA h).2)
noncomputable def D3(e:Data)(f:Array Value→Bool):Bool:=if h:e.ctorIdx=2 then Data.seq.elim e h fun a _=>f a else false
theorem VK{e:Data}{f:Array Value→Bool}(h:D3 e f=true):∃ a n,e = .seq a n∧f a=true:=by
 by_cases c:e.ctorIdx=2
 ·exact Data.seq.elim (motive:=fun e=>D3 e f=true→∃ a n,e = .seq a n∧f a=true) e c (fun a n h=>⟨a,n,rfl,h⟩) h
 ·rw[D3,dif_neg c]at h; cases h
noncomputable def Bb(d:Data):List Value:=if h:d.ctorIdx=2 then Data.seq.elim d h fun a _=>a.toList else []
noncomputable def nI(K:Frag)(fd:FuncData):List Value:=(((eY fd.defaults).bind fun T=>K.lookup T).map fun o=>Bb o.data).getD []
noncomputable def sV:Nat→(List Value→Prop)→Prop
 | 0,P=>P []
 | k+1,P=>P []∧∀ v,sV k fun l=>P (v::l)
theorem GN{l:List Value}:∀{k:Nat}{P:List Value→Prop},sV k P→l.length≤k→P l:=by
 induction l with
 | nil=>exact fun{k P}h _=>by cases k with | zero=>exact h | succ k=>exact h.1
 | cons v l ih=>exact fun{k P}h e=>by cases k with | zero=>exact absurd e (Nat.not_succ_le_zero _)| succ k=>exact ih (P:=fun l=>P (v::l)) (h.2 v) (Nat.le_of_succ_le_succ e)
def gE(K:Frag)(a:Addr)(nm:List Str)(pf:OF):Prop:=fC (GB K a) fun fd=>sV pf.arity fun vals=>if pf.arity≤vals.length+(nI K fd).length then
 ∀ S,peek K S (vO fd ⟨vals,[]⟩)=some ((nm.take pf.arity).zip (vals++(nI K fd).drop ((nI K fd).length+vals.length - pf.arity)))else True
noncomputable def qX(K:Frag):Value:=(((eI K "_translate").bind eY).bind fun a=>(K.lookup a).bind fun o=>match o.data with | .func fd=>some fd.code | _=>none).getD .none
noncomputable def MN(K:Frag)(nm:List Str)(pf:OF)(fd:FuncData):Bool :=
 ([nm.length != 14||fd.code==qX K,fd.closure.isEmpty,fd.scope.kind == .function,!fd.scope.isCoroutine,!fd.scope.isGenerator,fd.globals==mainGlobals,fd.builtins==builtinsNs,i4 K fd.qualname fd.code,
  JC pf.dflt (nI K fd),
  decide (pf.arity≤nm.length),decide nm.Nodup,fd.scope.names.all fun p=>p.2 != .cell&&p.2 != .free,(nm.take pf.arity).all fun n=>fd.scope.names.lookup n==some .local]:List Bool).all id
noncomputable def eK(K:Frag)(P:Scope→List Stmt→Bool)(a:Addr)(nm:List Str)(pf:OF):Bool:=Af K a fun o=>pF o.data fun fd=>MN K nm pf fd&&lH fd.body fun body=>P fd.scope body
theorem dS{Z:aE}{K:Frag}{P:Scope→List Stmt→Bool}{a:Addr}{nm:List Str}{pf:OF}(hlam:Z.lam=qX K)(hK:∀ h,Z.TabI h→K.In h)(X:K.In Z.h₀)(hb:gE K a nm pf)(h:eK K P a nm pf=true) :
  ∃ fd body,eZ Z a fd body nm pf∧P fd.scope body=true:=TP h fun o ho hc h=>by
 obtain⟨fd,hd,h⟩:=E8 h
 obtain⟨body,hbd,hP⟩:=zY (aA h).2
 obtain⟨fd',ef,hb⟩:=nF hb
 cases(KL ho hd).symm.trans ef
 have h:=(aA h).1
 exact⟨fd,body,{
  lam:=fun hn=>hlam▸(Bool.or_eq_true_iff.mp (aJ h 0 rfl)).elim (fun h=>absurd hn (bne_iff_ne.mp h)) eq_of_beq
  obj:=⟨o,X _ _ ho,hc,hd⟩
  body:=hbd
  clo:=List.isEmpty_iff.mp (aJ h 1 rfl)
  kind:=eq_of_beq (aJ h 2 rfl)
  co:=bJ (aJ h 3 rfl)
  gen:=bJ (aJ h 4 rfl)
  glob:=eq_of_beq (aJ h 5 rfl)
  blt:=eq_of_beq (aJ h 6 rfl)
  code:=xQ X (aJ h 7 rfl)
  bind:=⟨_,AF (aJ h 8 rfl),fun s vals ht h1 h2=>kp_binds (hK _ ht) fun S=>by rw[t4]; exact Eq.mp (if_pos h2) (GN hb h1) S⟩
  len:=of_decide_eq_true (aJ h 9 rfl)
  nd:=of_decide_eq_true (aJ h 10 rfl)
  nocell:=fun p hp=>let⟨h1,h2⟩:=aA (List.all_eq_true.mp (aJ h 11 rfl) p hp); ⟨bne_iff_ne.mp h1,bne_iff_ne.mp h2⟩
  params:=fun n hn=>eq_of_beq (List.all_eq_true.mp (aJ h 12 rfl) n hn) },hP⟩
noncomputable def wH(K:Frag)(xc:List Str→Nat→Scope→Expr→Bool)(p:Nat×List Str×OF):Bool:=(H9 p.1).isEmpty&&iB (l6 K p.1) fun a=>eK K (fun sc body=>eJ K (pV K) (l6 K) (xc p.2.1) p.2.1 sc p.2.2.body body) a p.2.1 p.2.2
theorem KB{Z:aE}{K:Frag}{xc:List Str→Nat→Scope→Expr→Bool}(hlam:Z.lam=qX K)(hK:∀ h,Z.TabI h→K.In h)(X:K.In Z.h₀)(hb:mK s9 fun p=>fC (l6 K p.1) fun a=>gE K a p.2.1 p.2.2)(h:s9.all (wH K xc)=true):KY Z K (pV K) (l6 K) xc D5:=fun f pf a ht hf=>b7 ht fun q hq e=>by
 subst e
 obtain⟨h1,h2⟩:=aA (List.all_eq_true.mp h _ (List.mem_of_find?_eq_some hq))
 have hq:q.1=f:=eq_of_beq (List.find?_some (p:=fun x:Nat×List Str×OF=>x.1==f) hq)
 subst hq
 obtain⟨a',ha,h2⟩:=eF h2
 cases hf.symm.trans ha
 obtain⟨_,ea,hb⟩:=nF (t7 (P:=fun p:Nat×List Str×OF=>fC (l6 K p.1) fun a=>gE K a p.2.1 p.2.2) hb (List.mem_of_find?_eq_some hq))
 cases ha.symm.trans ea
 obtain⟨fd,body,F,hc⟩:=dS hlam hK X hb h2
 exact⟨List.isEmpty_iff.mp h1,fd,body,_,F,hc⟩
noncomputable def jZ(nm:List Str)(sc:Scope)(x:Nat)(e:Expr):Bool:=aW e fun n _=>nm[x]? == some n&&(sc.names.lookup n==some .local&&n != ("__debug__" : Str))
theorem WA{nm:List Str}{sc:Scope}{x:Nat}{e:Expr}{m:Expr→Prop}(h:jZ nm sc x e=true)(k:∀ n p,nm[x]? = some n→sc.names.lookup n=some .local→n≠("__debug__" : Str)→m (.Name n p)):m e:=aM h fun n p h=>k n p (eq_of_beq (aA h).1) (eq_of_beq (aA (aA h).2).1) (bne_iff_ne.mp (aA (aA h).2).2)
noncomputable def WB(t:Str)(e:Expr):Bool:=bR e fun c _ _=>c == .str t
noncomputable def P7(sc:Scope):Bool:=fW sc.names fun p=>p.2 == .local
noncomputable def Bf(k:Keyword)(f:Str→Expr→Bool):Bool:=iB k.arg fun n=>f n k.value
noncomputable def n7(e:Expr)(f:Arguments→Expr→Scope→Pos→Bool):Bool:=if h:e.ctorIdx=4 then Expr.Lambda.elim e h f else false
theorem HJ{e:Expr}{f:Arguments→Expr→Scope→Pos→Bool}{m:Expr→Prop}(h:n7 e f=true)(k:∀ a b c d,f a b c d=true→m (.Lambda a b c d)):m e:=by
 by_cases c:e.ctorIdx=4
 ·exact Expr.Lambda.elim (motive_1:=fun e=>n7 e f=true→m e) e c k h
 ·rw[n7,dif_neg c]at h; cases h
noncomputable def Ag(sc:Scope)(e:Expr)(n:Str)(f:List Expr→Bool):Bool:=IK e fun m as=>m==n&&(aP sc n&&f as)
noncomputable def W5(lp:Nat×Nat)(nm:List Str)(j:Nat)(sc:Scope)(e:Expr):Bool:=iB (([
 fun _=>Ag sc e "deque" fun as=>as.isEmpty,
 fun _=>dG e fun fe as ks _=>aW fe fun n _=>n==("shlex" : Str)&&(aP sc "shlex" && fW as fun x=>jZ nm sc 0 x&&fW ks fun k=>Bf k fun n y=>n==("posix" : Str)&&jZ nm sc 2 y),
 fun _=>Ag sc e "list" fun as=>fW as fun x=>jZ nm sc 3 x,
 fun _=>false,
 fun _=>false,
 fun _=>mR e "sub" fun x as=>nm.length==14&&(aW x fun n _=>n==("twin_re_1_fnmatch" : Str)&&(aP sc "twin_re_1_fnmatch" && iM as fun l r=>(fW r fun y=>jZ nm sc 9 y)&&n7 l fun a _ lsc q=>a.defaults.isEmpty&&(a.kw_defaults.isEmpty&&(q.line==lp.1&&(q.col==lp.2&&P7 lsc))))),
 fun _=>mR e "translate" fun x as=>jZ nm sc 0 x&&fW as fun y=>aW y fun n _=>n==("_special_chars_map" : Str)&&aP sc "_special_chars_map",
 fun _=>Ag sc e "object" fun as=>as.isEmpty]:List (Unit→Bool))[j]?) fun f=>f ()
end Kt.Internal
end
section
open PySem PySem.W PyProof.Rows PySem.Calls Builtin
namespace Kt.Internal
noncomputable abbrev cU:Obj:={ cls:=.type "object",data:=.plain }
noncomputable abbrev cG:Obj:={ cls:=.type "collections.deque",data:=.fields #[.none,.int 0 0] }
def JQ(T:String)(o:Obj):Prop:=∀{prog:Program}{w:World}{A:Around}{s:Shared}{Q:Value→Shared→Prop}{E:Value→Shared→Prop},A.handled=none →
 (∀ h',(∀ b o,s.heap.get? b=some o→h'.get? b=some o)→h'.get? s.heap.objs.size=some o→Q (.ref s.heap.objs.size) { s with heap:=h' })→wpAny (model prog w) A (call (.type T) []) Q E s
theorem A3:JQ "object" cU:=fun{prog w A s Q E}hh h=>by
 have L:(s.heap.push cU).get? s.heap.objs.size=some cU:=Heap.get?_push_size _ rfl
 refine wpAny_call (JE (K:=[]) (R:=wants Q E) 9 [(0,cU),(0,cU),(0,cU)]
  (qb "type.__call__" [.type "object"]∧qb "object.__new__" [.type "object"]∧(s.heap.push cU).get? s.heap.objs.size=some cU∧(s.heap.push cU).get? s.heap.objs.size=some cU∧(s.heap.push cU).get? s.heap.objs.size=some cU∧qb "object.__init__" [.ref s.heap.objs.size]∧Q (.ref s.heap.objs.size) { s with heap:=s.heap.push cU }) hh ?_ ?_ ?_)
 ·exact fun _ _ h=>nomatch h
 ·kernel_rfl
 ·exact⟨Code.quiet_builtin _ (by decide +kernel),Code.quiet_builtin _ (by decide +kernel),L,L,L,Code.quiet_builtin _ (by decide +kernel),h _ (fun b o e=>Heap.get?_push_of_some _ e) L⟩
theorem DT:JQ "collections.deque" cG:=fun{prog w A s Q E}hh h=>by
 have L:(s.heap.push cG).get? s.heap.objs.size=some cG:=Heap.get?_push_size _ rfl
 have L2:((s.heap.push cG).update s.heap.objs.size (Obj.mapFields fun x=>x.setIfInBounds 0 .none)).get? s.heap.objs.size=some cG:=Heap.get?_update_self _ L rfl
 refine wpAny_call (JE (K:=[]) (R:=wants Q E) 9 [(0,cG),(0,cG),(0,cG),(0,cG),(0,cG)]
  (qb "type.__call__" [.type "collections.deque"]∧qb "collections.deque.__new__" [.type "collections.deque"]∧(s.heap.push cG).get? s.heap.objs.size=some cG∧(s.heap.push cG).get? s.heap.objs.size=some cG∧(s.heap.push cG).get? s.heap.objs.size=some cG∧qb "collections.deque.__init__" [.ref s.heap.objs.size] ∧
   (s.heap.push cG).get? s.heap.objs.size=some cG∧(((s.heap.push cG).get? s.heap.objs.size).isSome=true∧Frag.In [] ((s.heap.push cG).update s.heap.objs.size (Obj.mapFields fun x=>x.setIfInBounds 0 .none))) ∧
   ((s.heap.push cG).update s.heap.objs.size (Obj.mapFields fun x=>x.setIfInBounds 0 .none)).get? s.heap.objs.size=some cG∧Q (.ref s.heap.objs.size) { s with heap:=(s.heap.push cG).update s.heap.objs.size (Obj.mapFields fun x=>x.setIfInBounds 0 .none) }) hh ?_ ?_ ?_)
 ·exact fun _ _ h=>nomatch h
 ·kernel_rfl
 ·exact⟨Code.quiet_builtin _ (by decide +kernel),Code.quiet_builtin _ (by decide +kernel),L,L,L,Code.quiet_builtin _ (by decide +kernel),L,⟨by rw[L]; rfl,fun _ _ h=>nomatch h⟩,L2,
   h _ (fun b o e=>(Heap.get?_update_other _ _ fun e'=>by rw[← e',get?_ge (Nat.le_refl _)]at e; cases e).trans (Heap.get?_push_of_some _ e)) L2⟩
section
variable{D:OD}{sc:Scope}{K:Frag}{fA:Nat→Option Addr}{fuel:Nat}
def OD.Ex(D:OD)(fuel:Nat):Prop:=D.ex=eG fuel D.cl
theorem E5{j:Nat}{n:Str}{p pos:Pos}{T:String}{f:FO}{o:Obj}(hT:JQ T o)(hX:D.Ex fuel)(hex:∀ ρ st,eG fuel D.cl j ρ st=some (.o st.length,st++[f]))(hf:∀{μ h k a},h.get? a=some o→GD D.cA μ h k a f)
  (hn:∀{A:Around}{env:Env}{ρ:LO}{μ:List Addr}{st:St}{s:Shared}{Q:Value→Shared→Prop}{E:Value→Shared→Prop},Oc D sc A env ρ μ st s→Q (.type T) s→wpAny (model D.Z.prog D.Z.w) A (eval (.Name n p) env) Q E s) :
  cN D sc (.Call (.Name n p) [] [] pos) (.ext j):=fun{A env ρ μ st s v st' Q E}C he g=>by
 cases((congrFun (congrFun (congrFun hX j) ρ) st).trans (hex ρ st)).symm.trans he
 rw[bX]
 refine wpAny_bind (hn C (aV nofun rfl (evalArgs_nil3 (hT C.ha.handled fun h' hk ho=>?_))))
 exact g _ _ _ (C.at.more (tk:=s.toks) (get?_ge (Nat.le_refl _)) C.he.size (C.hi.frLt (Nat.le_refl _)) id hk (hf ho)) ⟨_,by rw[← C.so.len]; exact List.getElem?_concat_length,rfl⟩
theorem Bs{p pos:Pos}(hX:D.Ex fuel)(hB:gD D.Z)(hg:aP sc "object" = true):cN D sc (.Call (.Name "object" p) [] [] pos) (.ext 7) :=
 E5 (f:=.plain) A3 hX (fun _ _=>rfl) (fun h=>⟨_,h,by show Value.type "object" ≠ _; decide⟩) fun C h=>C.blt hB hg (by decide) h
theorem Bx{p pos:Pos}(hX:D.Ex fuel)(hg:aP sc "deque" = true)(hv:D.Z.mg "deque" = some (.type "collections.deque")):cN D sc (.Call (.Name "deque" p) [] [] pos) (.ext 0) :=
 E5 (f:=.deq) DT hX (fun _ _=>rfl) (fun h=>⟨_,h,rfl,rfl,_,_,rfl⟩) fun C h=>C.glob hg hv h
theorem sU{x:Nat}{e:Expr}(h:jZ D.nm sc x e=true):cN D sc e (.var x)∧aC e=false∧cJ e=false:=WA (m:=fun e=>cN D sc e (.var x)∧aC e=false∧cJ e=false) h fun n p h1 h2 h3=>⟨yF h1 h2 h3,rfl,rfl⟩
theorem sY{cl:jB}{ex:Nat→LO→St→Option (OV×St)}{ρ:LO}{x:Nat}{v:OV}{st:St}(h:(ρ[x]?).join=some v):cR cl ex (.var x) ρ st=some (v,st):=congrArg (Option.map _) h
theorem IF{α:Type}{d:α}{G:Prop}{ρ:LO}{x:Nat}{f:OV→Option α}(h:GE ρ x f=some d)(k:∀ v,(ρ[x]?).join=some v→f v=some d→G):G:=aT h k
theorem Bw{p pos kp:Pos}{x y:Expr}{a:Addr}(hX:D.Ex fuel)(hK:∀ h,D.Z.TabI h→K.In h)(hC:bZ D.Z D.cA D.cl D.lvl fA)(hf:fA 18=some a)(hg:aP sc "shlex" = true)(hv:D.Z.mg "shlex" = some (.ref a))(hk:keepIn K (.ref a)=true)
  (hx:jZ D.nm sc 0 x=true) (hy:jZ D.nm sc 2 y=true):cN D sc (.Call (.Name "shlex" p) [x] [⟨some "posix",y,kp⟩] pos) (.ext 1):=fun{A env ρ μ st s v st' Q E}C he g =>
 IF ((congrFun (congrFun (congrFun hX 1) ρ) st).symm.trans he) fun xs h1 he=>IF he fun ps h2 he=>by
 obtain⟨ox,stx,_⟩:=sU hx
 obtain⟨oy,sty,_⟩:=sU hy
 show wpAny _ _ (eval (.Name "shlex" p) env >>= fun f=>callWith pos f [] (backTo pos (starEach [x] env)) (backToKw pos (keywordEach [⟨some "posix",y,kp⟩] env))) _ _ _
 refine wpAny_bind (C.glob hg hv (callWith_of (P:=K.In) (by rw[(aZ stx).1 env pos]; rfl) (keeps_K hk) (evalArgs_kw2 rfl (b5 stx ox c8 C (uZ (sY h1)) fun vs s₁ μ₁ a₁ hvs=>kwAll_cons (oy (C.go a₁) (sY h2) fun w s₂ μ₂ a₂ hw=>kwAll_nil ⟨hK _ a₂.i.tab,?_⟩)) (bF stx [] env))))
 exact qT (m:=fun vs=>wpAny _ A (call (.ref a) ([]++vs) _) Q E s₂) hvs fun u hu=>wpAny_call (hC hf he (C.ha.mono (Nat.le_add_right _ _)) a₂.i (C.he.step (a₁.trans a₂).t).size a₂.so (.cons (hu.pre a₂.t.pre) (.cons hw .nil)) (g.after (a₁.trans a₂)))
end
noncomputable def gA:List Str:=["self", "token"]
noncomputable def sH:OF:=⟨2,1,[],.nil⟩
noncomputable def TA:Nat→Scope→Expr→Bool:=fun _ _ _=>false
noncomputable def FK(K:Frag)(cA fA:Nat→Option Addr)(sc:Scope)(value:Expr)(test:Expr):List Bool:=[aP sc "StopIteration",sc.names.lookup ("token" : Str)==some .local,!gF value,bD K cA fA TA gA sc vI value,bD K cA fA TA gA sc I8 test]
noncomputable def kR(K:Frag)(cA fA:Nat→Option Addr)(sc:Scope)(body:List Stmt):Bool :=
 iM body fun z8 r9=>iM r9 fun z10 r11=>fW r11 fun z12=>cP z8 fun z13 value p2=>fW z13 fun z14=>aW z14 fun z15 p1=>z15==("token" : Str)&&(pE z10 fun test z16 z17 p5=>fW z16 fun z18=>lP z18 fun z19 z20 p4=>iB z19 fun z21=>aW z21 fun z22 p3=>z22==("StopIteration" : Str)&&(z20.isNone&&(z17.isEmpty&&(eC z12 fun z23 p7=>iB z23 fun z24=>aW z24 fun z25 p6=>z25==("token" : Str)&&((FK K cA fA sc value test).all id)))))
theorem HN{K:Frag}{cA fA:Nat→Option Addr}{sc:Scope}{body:List Stmt}{m:List Stmt→Prop}(h:kR K cA fA sc body=true)(k:∀(p1:Pos)(value:Expr)(p2:Pos)(test:Expr)(p3 p4 p5 p6 p7:Pos),(FK K cA fA sc value test).all id=true →
  m [(.Assign [(.Name ("token" : Str) p1)] value p2),(.If test [(.Raise (some (.Name ("StopIteration" : Str) p3)) none p4)] [] p5),(.Return (some (.Name ("token" : Str) p6)) p7)]):m body:=by
 apply cV h; intro z8 r9 h; apply cV h; intro z10 r11 h; apply cK h; intro z12 h; apply dN h; intro z13 value p2 h; apply cK h; intro z14 h; apply aM h; intro z15 p1 h; refine aB h fun z h=>?_; apply cL z; apply yG h; intro test z16 z17 p5 h; apply cK h; intro z18 h; apply DK h; intro z19 z20 p4 h; apply sB h; intro z21 h; apply aM h; intro z22 p3 h; refine aB h fun z h=>?_; apply cL z; refine aB h fun z h=>?_; apply sJ z; refine aB h fun z h=>?_; apply dU z; apply hY h; intro z23 p7 h; apply sB h; intro z24 h; apply aM h; intro z25 p6 h; refine aB h fun z h=>?_; apply cL z; exact k _ _ _ _ _ _ _ _ _ h
noncomputable abbrev ND(Z:aE)(cA:Nat→Option Addr)(cl:jB)(lvl:Nat)(nm:List Str):OD:=⟨Z,cA,cl,fun _ _ _=>none,lvl,nm⟩
section
variable{Z:aE}{cA fA:Nat→Option Addr}{cl:jB}{lvl:Nat}{K:Frag}{μ μ':List Addr}{h h':Heap}{S:Addr}{l v:OV}{st st':St}{A:Around}{s:Shared}{x:Addr}
theorem HM{a:Addr}{fd:FuncData}{body:List Stmt}(X:∀ fr,N3 ((ND Z cA cl lvl gA).at fr) K fA TA)(F:eZ Z a fd body gA sH)(hck:kR K cA fA fd.scope body=true){r:Option OV}(hd:sK cl l st=some (r,st'))
  {w:Value} {Q E:Value→Shared→Prop} (hA:fJ Z (8*(lvl+1)) A) (hI:bB Z s) (hsz:Z.n≤s.heap.objs.size) (S:l7 Z cA μ st s.heap) (hw:VE μ w l)
  (hQ:∀ v,r=some v→gW Z cA μ s.heap st' v Q) (hE:r=none→∀ s' μ' e,dF Z cA jX μ s.heap μ' st' s'→s'.TypeIs (.ref e) "StopIteration" → E (.ref e) s'):wpAny (model Z.prog Z.w) A (call (.ref a) [w]) Q E s :=
 bG hd fun tk st1 h1 hd=>b7 hd fun bs h2 e=>by
 obtain⟨b,st2⟩:=bs
 cases e
 obtain⟨all,hb,hall,hval⟩:=eZ.binds (D:=ND Z cA cl lvl gA) (pf:=sH) (ρ:=[some l,none]) F hI (vs:=[w]) (args:=[l]) (.cons hw .nil) rfl
 refine wpAny_call (B3 (D:=ND Z cA cl lvl gA) F hb hall hval hA hI hsz S fun env s₁ hfm C out _=>?_)
 have XX:=X (env.locals::Z.fr)
 have hnd:gA.Nodup:=F.nd
 apply HN hck; intro p1 value p2 test p3 p4 p5 p6 p7 hz
 have c5:=eq_of_beq (aJ hz 1 rfl)
 refine wpAny_execs_cons (uF (fuel:=0) (x:=1) (n := "token") (p:=vI) hnd rfl c5 (bJ (aJ hz 2 rfl)) (aG XX vI (aJ hz 3 rfl)).1 C (congrArg (Option.map _) h1) fun fl s₂ μ₂ a₂ g=>?_)
 obtain⟨rfl,e₂⟩:=g
 have C₂:=C.to a₂ e₂
 refine wpAny_execs_cons (wpAny_If ((aG XX I8 (aJ hz 4 rfl)).2 C₂ h2 fun s₃ μ₃ a₃=>?_))
 have C₃:=C₂.go a₃
 have a₂₃:=a₂.trans (C₂.inL a₃)
 cases b with
 | false =>
  refine wpAny_execs_nil (wpAny_execs_cons (E4 (D:=(ND Z cA cl lvl gA).at (env.locals::Z.fr)) (fuel:=0) (yF (x:=1) (n := "token") rfl c5 (by decide)) C₃ (r:=(.ret tk,st2)) rfl fun fl s₄ μ₄ a₄ g=>?_))
  obtain⟨u,rfl,hu⟩:=g
  exact hQ tk rfl u s₄ μ₄ (out (a₂₃.trans a₄)) hu
 | true =>
  refine wpAny_execs_cons (owsi_raiseC C₃.ha.handled (C₃.blt XX.b (aJ hz 0 rfl) (by decide) ⟨rfl,rfl⟩) fun h' e hm=>?_)
  obtain⟨fs,hf1,hf2⟩:=hA.frames
  have hfr:(A.deeper env).frames=some (env::fs):=by show A.frames.map _=_; rw[hf1]; rfl
  obtain⟨fs',hf3,hf4⟩:=C₃.ha.frames
  cases hfr.symm.trans hf3
  refine wpAny_leaves_madeW (base:=o6 s₃.heap (env.locals::Z.fr)) (h:=s₃.heap) hfr hfm (uA _ _) (jV C₃.hi hf4) hm.of fun h'' t x1 x2 x3 x4=>?_
  have g2:∀ b o,s₃.heap.get? b=some o→(∀ vs,o.data ≠ .fields vs)→∃ sl,h''.get? b=some { o with slots:=sl }:=fun b o e hn=>x4 b o (hm.keeps b o e) hn
  obtain⟨oe,vs,he,hc,_⟩:=x1.first
  exact hE rfl _ μ₃ e (out (a₂₃.trans (C₃.inL (C₃.at.kp (oQ (tk:=s₃.toks) C₃.hi x1.1 g2) (qO C₃.hi x1.1 g2))))) ⟨oe,he,hc⟩
theorem WF{L:Addr}{m:Str→Option Value}(K0:K.In Z.h₀)(X:K.In h)(hL:Z.n≤L)(hn:h.Ns L m):∃ h₀,Fr h₀ L h m∧K.In h₀:=by
 have hlt:L<h.objs.size:=hn.lt
 have key:∀ a,a<L→({ h with objs:=h.objs.extract 0 L }:Heap).get? a=h.get? a:=fun a ha=>by
  refine Option.ext fun o=>?_
  rw[Heap.get?_some_iff,Heap.get?_some_iff]
  show(h.objs.extract 0 L)[a]? = _∧_↔_
  rw[Array.getElem?_extract,if_pos (by rw[Nat.sub_zero,Nat.min_eq_left (Nat.le_of_lt hlt)]; exact ha),Nat.zero_add]
 have hsz:(h.objs.extract 0 L).size=L:=by rw[Array.size_extract,Nat.sub_zero,Nat.min_eq_left (Nat.le_of_lt hlt)]
 exact⟨{ h with objs:=h.objs.extract 0 L },⟨hn,fun b o e=>(key b (hsz▸Heap.lt_size e)).symm.trans e,Nat.le_of_eq hsz⟩,fun a o e=>(key a (Nat.lt_of_lt_of_le (Heap.lt_size (K0 a o e)) hL)).trans (X a o e)⟩
noncomputable def CB(K:Frag)(C fi fn:Addr):Bool:=findIn K (.ref C) "__iter__" == some (some (.ref fi))&&(isFn K (.ref fi)&&(findIn K (.ref C) "__next__" == some (some (.ref fn))&&(isFn K (.ref fn) &&
 (findIn K (.ref C) "__len__" == some none&&findIn K (.ref C) "__length_hint__" == some none))))
theorem wI{r:Option OV×St}(hd:sK cl l st=some r):∃ k es,j0 0 st l=some (k,es):=aT hd fun p h1 _=>bG h1 fun l' st' h2 h3=>kE h2 fun h4 e=>by
 cases(show some l=some l' from h4)
 subst e
 exact bG h3 fun k es h5 _=>⟨k,es,h5⟩
theorem l7.instAt{C k:Nat}{o:OV}{es:List (Str×OV)}{c:Nat}(Ss:l7 Z cA μ st h)(e:j0 c st o=some (k,es))(hC:cA c=some C)(hx:VE μ (.ref x) o):∃ dx ox,InstAt h x (instObj C dx) C (some ox) :=
 Ss.instK hC e hx fun y dx ents n sl ew _ II _=>by cases ew; exact⟨dx,_,II⟩
variable{D:OD}{sc:Scope}{env:Env}{ρ:LO}{A':Around}
theorem Oc.cut(C:Oc D sc A env ρ μ st s)(K0:K.In D.Z.h₀)(hK:∀ h,D.Z.TabI h→K.In h):∃ h₀ m,Fr h₀ env.locals s.heap m∧K.In h₀:=let⟨m,hm,_⟩:=C.he.ns; let⟨h₀,a,b⟩:=WF K0 (hK _ C.hi.tab) C.he.new hm; ⟨h₀,m,a,b⟩
theorem K8{C' fi fn k:Addr}{fd:FuncData}{body:List Stmt}(X:∀ fr,N3 ((ND D.Z D.cA D.cl lvl gA).at fr) K fA TA)(FN:eZ D.Z fn fd body gA sH)(hck:kR K D.cA fA fd.scope body=true)(hC:D.cA 0=some C')(hit:CB K C' fi fn=true)
  (hA:fJ D.Z (8*(lvl+1)) A'.in1) {R:Result→Shared→Prop} (n:Nat):∀{st:St}{s:Shared}{μ:List Addr},lD D.cl n l k st=some (v,st')→Oc D sc A env ρ μ st s→VE μ (.ref x) l→μ[k]? = some S →
   (∀ s' μ',v = .o k→dF D.Z D.cA jX μ s.heap μ' st' s'→R (.ok (.ret .none)) s')→codeAny (model D.Z.prog D.Z.w) A' (.builtin "list.extend.loop" ⟨[.ref S,.ref x,.none],[]⟩) R s:=by
 induction n with
 | zero=>exact fun hd=>nomatch hd
 | succ n ih =>
  intro st s μ hd C hx hS hR
  refine aT hd fun r h1 hd=>?_
  obtain⟨r,st1⟩:=r
  obtain⟨k',es,hin⟩:=wI h1
  obtain⟨dx,ox,II⟩:=C.so.instAt hin hC hx
  obtain⟨h₀,m,FF,XF⟩:=C.cut (X D.Z.fr).k0 (X D.Z.fr).k
  have i:=(aA (aA hit).2).2
  refine codeAny_builtin F.entry_extend_loop ?_
  rw[Around.under_plainId F.plain_extend_loop _]
  show wpAny _ A'.in1 (pyNext (.ref x) >>= _) _ _ s
  refine wpAny_bind (owit_next FF XF II (eq_of_beq (aA i).1) (aA (aA i).2).1 (HM X FN hck h1 hA C.hi C.he.size C.so hx (fun u hu w s₁ μ₁ a₁ hw=>?_) fun hr s' μ₁ e a₁ hT=>?_))
  ·subst hu
   exact aT hd fun st2 hp hd=>by
    show wpAny _ A'.in1 (updateSeq S (·.push w) >>= _) _ _ _
    refine wpAny_bind (J6 a₁ hp (d9 a₁.t.pre hS) hw fun s₂ a₂=>wpAny_pure ⟨plainId_quiet F.plain_extend_loop _,?_⟩).2
    exact ih hd (C.go a₂) (hx.pre a₂.t.pre) (d9 a₂.t.pre hS) fun s' μ' e a₃=>hR s' μ' e (a₂.trans a₃)
  ·subst hr
   cases hd
   unfold OwitStop
   refine wpAny_isInstance (b:=true) hT (by rw[isSubtype_type]; kernel_rfl) ?_
   show(if true=true then _ else _)
   rw[if_pos rfl]
   exact wpAny_pure (hR s' μ₁ rfl a₁)
theorem tP{α:Type}{a:α}:∀{l:List α}{k:Nat},l[k]? = some a→l.set k a=l
 | [],_,h=>nomatch h
 | b::l,0,h=>congrArg (· :: l) (Option.some.inj h).symm
 | b::l,k+1,h=>congrArg (b :: ·) (tP (l:=l) h)
noncomputable def qA:List Str:=["self"]
noncomputable def vJ:OF:=⟨1,1,[],.cons (.ret (.var 0)) .nil⟩
noncomputable def CF(K:Frag)(cA fA:Nat→Option Addr):Bool:=iB (cA 0) fun C=>iB ((findIn K (.ref C) "__iter__").bind fun v=>v.bind eY) fun fi=>iB ((findIn K (.ref C) "__next__").bind fun v=>v.bind eY) fun fn =>
 CB K C fi fn&&(eK K (fun sc body=>eJ K cA fA TA qA sc vJ.body body) fi qA vJ&&eK K (kR K cA fA) fn gA sH)
def vM(K:Frag)(cA:Nat→Option Addr):Prop:=fC (cA 0) fun C=>(fC ((findIn K (.ref C) "__iter__").bind fun v=>v.bind eY) fun fi=>gE K fi qA vJ)∧fC ((findIn K (.ref C) "__next__").bind fun v=>v.bind eY) fun fn=>gE K fn gA sH
theorem GP{n k:Nat}(h:lD cl n l k st=some (v,st')):∃ k es,j0 0 st l=some (k,es):=by
 cases n with
 | zero=>cases h
 | succ n=>exact aT h fun r h1 _=>wI h1
theorem NA{Z:aE}{cA:Nat→Option Addr}(hK:∀ h,Z.TabI h→K.In h)(hK0:K.In Z.h₀)(hlam:Z.lam=qX K)(hb2:vM K cA)(h2:CF K cA fA=true){G:Prop}
  (g:∀ C fi fn fdI bodyI fd body,cA 0=some C→CB K C fi fn=true→eZ Z fi fdI bodyI qA vJ→eJ K cA fA TA qA fdI.scope vJ.body bodyI=true→eZ Z fn fd body gA sH→kR K cA fA fd.scope body=true →
   findIn K (.ref C) "__iter__" = some (some (.ref fi))→isFn K (.ref fi)=true→findIn K (.ref C) "__next__" = some (some (.ref fn))→findIn K (.ref C) "__len__" = some none→findIn K (.ref C) "__length_hint__" = some none→G):G:=by
 obtain⟨C',hC,h2⟩:=eF h2
 obtain⟨fi,hfi,h2⟩:=eF h2
 obtain⟨fn,hfn,h2⟩:=eF h2
 obtain⟨hit,h2⟩:=aA h2
 obtain⟨_,e0,b1,b2⟩:=nF hb2
 cases hC.symm.trans e0
 obtain⟨_,e1,b1⟩:=nF b1
 cases hfi.symm.trans e1
 obtain⟨_,e2,b2⟩:=nF b2
 cases hfn.symm.trans e2
 obtain⟨fdI,bodyI,FI,hckI⟩:=dS hlam hK hK0 b1 (aA h2).1
 obtain⟨fd,body,FN,hck⟩:=dS hlam hK hK0 b2 (aA h2).2
 obtain⟨i1,i⟩:=aA hit
 obtain⟨i2,i⟩:=aA i
 obtain⟨i3,i⟩:=aA i
 obtain⟨i5,i6⟩:=aA (aA i).2
 exact g C' fi fn fdI bodyI fd body hC hit FI hckI FN hck (eq_of_beq i1) i2 (eq_of_beq i3) (eq_of_beq i5) (eq_of_beq i6)
theorem Bv{p pos:Pos}{y:Expr}{fuel:Nat}(hX:D.Ex fuel)(hl:D.lvl=lvl+1)(hK:∀ h,D.Z.TabI h→K.In h)(hK0:K.In D.Z.h₀)(hlam:D.Z.lam=qX K)(hB:gD D.Z)(hCl:∀ fr,bZ (D.Z.at fr) D.cA D.cl lvl fA)(hb2:vM K D.cA)(h2:CF K D.cA fA=true)(hg:aP sc "list" = true)(hy:jZ D.nm sc 3 y=true) :
  cN D sc (.Call (.Name "list" p) [y] [] pos) (.ext 2):=fun{A env ρ μ st s v st' Q E}C he g=>IF ((congrFun (congrFun (congrFun hX 2) ρ) st).symm.trans he) fun l h1 he=>by
 refine NA hK hK0 hlam hb2 h2 fun C' fi fn fdI bodyI fd body hC hit FI hckI FN hck i1 i2 i3 i5 i6=>?_
 have X:∀ fr nm,N3 ((ND D.Z D.cA D.cl lvl nm).at fr) K fA TA:=fun fr nm=>⟨hK,hK0,hB,hCl fr,fun _ _ _ h=>nomatch h⟩
 have hA:fJ D.Z (8*(lvl+1)) A.in1.in1:=(C.ha.mono (k:=8*(lvl+1)+2) (hl▸Nat.le_add_right _ 5)).in_.in_
 obtain⟨oy,sty,_⟩:=sU hy
 refine kP (f:=.type "list") hB hg (by decide) nofun (aZ sty) (b5 sty oy c8) C (uZ (sY h1)) fun vs s₁ μ₁ a₁ hvs=>qT (m:=fun vs=>wpAny _ A (call (.type "list") vs) Q E s₁) hvs fun w hw=>?_
 obtain⟨k,es,hin⟩:=GP he
 obtain⟨j,rfl⟩:∃ j,l = .o j:=sI hin fun j e _=>⟨j,e⟩
 obtain⟨x,hxj,rfl⟩:=hw
 have C₁:=C.go a₁
 refine callType_codes (Q₁:=fun obj s₂=>obj = .ref s₁.heap.objs.size∧s₂={ s₁ with heap:=s₁.heap.push { cls:=.type "list",data:=.seq #[] } }) F.called_list (F.typeCall_list_1 _) F.entry_list_init
  (code_list_new _ ⟨rfl,rfl⟩) fun obj s₂ h₂=>?_
 obtain⟨rfl,rfl⟩:=h₂
 have hSx:x≠s₁.heap.objs.size:=fun e=>by obtain⟨o,ho⟩:=C₁.so.live x (List.mem_of_getElem? hxj); rw[e,get?_ge (Nat.le_refl _)]at ho; cases ho
 have a₂:=(C₁.more C₁.at (tk:=s₁.toks) (v:=fun _=>True) (f:=.list []) (o:={ cls:=.type "list",data:=.seq #[] }) ⟨#[],_,_,Heap.get?_push_size _ rfl,.nil,Nat.zero_le _⟩).1
 have hSo:(s₁.heap.push { cls:=.type "list",data:=.seq #[] }).get? s₁.heap.objs.size=some { cls:=.type "list",data:=.seq #[] }:=Heap.get?_push_size _ rfl
 have hSk:(μ₁++[s₁.heap.objs.size])[st.length]? = some s₁.heap.objs.size:=by rw[← C₁.so.len]; exact List.getElem?_concat_length
 have hSl:(st++[FO.list []])[st.length]? = some (.list []):=List.getElem?_concat_length
 have hxj:=d9 (List.prefix_append μ₁ [s₁.heap.objs.size]) hxj
 generalize s₁.heap.objs.size=S at *
 generalize s₁.heap.push { cls:=.type "list",data:=.seq #[] }=hS at *
 generalize μ₁++[S]=μ₂ at *
 generalize st++[FO.list []]=st₂ at *
 generalize st.length=n at *
 refine⟨⟨_,hSo,rfl⟩,F.args_list_init_2 _ _,?_⟩
 show wpAny _ A.in1.in1 (do let old ← Builtin.List.listItems (.ref S); Builtin.List.listUpdate (.ref S) (fun _=>#[]); letGo old.toList.reverse; Builtin.List.listExtendWith (.ref S) (.ref x) .none) _ _ _
 refine wpAny_bind ?_
 unfold Builtin.List.listItems
 refine wpAny_bind (wpAny_seqItems hSo rfl (wpAny_pure ?_))
 show wpAny _ A.in1.in1 (updateSeq S (fun _=>#[]) >>= fun _=>letGo (#[]:Array Value).toList.reverse >>= fun _=>Builtin.List.listExtendWith (.ref S) (.ref x) .none) _ _ _
 refine wpAny_bind (a₂.turnL hSk hSl (ys:=[]) (f:=fun _=>#[]) (Nat.zero_le _) (fun _=>.nil) fun s₃ a₃=>wpAny_bind (wpAny_letGo ?_)).2
 rw[tP hSl]at a₃
 have C₃:=C₁.go a₃
 obtain⟨dx,ox,II⟩:=C₃.so.instAt hin hC ⟨x,hxj,rfl⟩
 obtain⟨h₀,m,FF,XF⟩:=C₃.cut hK0 hK
 unfold Builtin.List.listExtendWith
 refine wpAny_bind (II.type.here ?_)
 rw[if_neg (show ¬(Builtin.List.listSameRef (.ref S) (.ref x)||Value.ref C'==Value.type "list" || Value.ref C'==Value.type "tuple")=true from by
  rw[show Builtin.List.listSameRef (.ref S) (.ref x)=false from beq_false_of_ne (Ne.symm hSx)]; exact nofun)]
 refine wpAny_bind (owit_iter FF XF II i1 i2 (wpAny_call (AB (D:=ND D.Z D.cA D.cl lvl qA) (fun fr=>X fr qA) FI hckI (fuel:=0) (args:=[.o j]) (ρ:=[some (.o j)]) (v:=.o j) rfl rfl hA C₃.hi C₃.he.size C₃.so (.cons ⟨x,hxj,rfl⟩ .nil) fun w s₄ μ₄ a₄ hw=>?_)))
 have hxj₄:=d9 a₄.t.pre hxj
 obtain⟨x',hx',rfl⟩:=hw
 cases hxj₄.symm.trans hx'
 have C₄:=C₃.go a₄
 obtain⟨dx₄,ox₄,II₄⟩:=C₄.so.instAt hin hC ⟨x,hxj₄,rfl⟩
 obtain⟨h₄,m₄,FF₄,XF₄⟩:=C₄.cut hK0 hK
 refine owit_it FF₄ XF₄ II₄ i3 (wpAny_bind (wpAny_holding ?_))
 unfold Builtin.List.listLengthHint
 refine wpAny_bind (wpAny_bind (II₄.type.here ((looks_findIn (hK _ C₄.hi.tab) i5).here ?_)))
 show wpAny _ _ (specialOf (Value.ref x) (Str.ofString "__length_hint__") >>= _) _ _ _
 refine wpAny_bind (wpAny_bind (II₄.type.here ((looks_findIn (hK _ C₄.hi.tab) i6).here (wpAny_pure ?_))))
 show wpAny _ _ (rule "list.extend.makes-room" >>= fun _=>(updateSeq S (·.push .none) >>= fun _=>updateSeq S (·.pop)) >>= fun _=>again (.builtin "list.extend.loop" ⟨[.ref S,.ref x,.none],[]⟩)) _ _ _
 have hS₄:=d9 a₄.t.pre hSk
 refine wpAny_bind (wpAny_rule (wpAny_bind (wpAny_bind (C₄.at.turnL hS₄ hSl (ys:=[.d .none]) (f:=(·.push .none)) (Nat.le_of_ble_eq_true rfl) (fun h=>by rw[Array.toList_push]; exact h.append (.cons nM .nil)) fun s₅ a₅ =>
  (a₅.turnL hS₄ (List.getElem?_set_self (JK hSl)) (ys:=[]) (f:=(·.pop)) (Nat.zero_le _) (fun h=>?_) fun s₆ a₆=>wpAny_pure ⟨plainId_quiet F.plain_extend_loop _,?_⟩).2).2)))
 ·rw[Array.toList_pop]
  exact qT (m:=fun l=>gT μ₄ l.dropLast []) h fun _ _=>.nil
 ·rw[List.set_set,tP hSl]at a₆
  exact K8 (fun fr=>X fr gA) FN hck hC hit hA fuel he (C₄.go a₆) ⟨x,hxj₄,rfl⟩ hS₄ fun s₇ μ₇ e a₇=>⟨rfl,g _ _ _ (a₁.trans (a₃.trans (a₄.trans (a₆.trans a₇)))) (by subst e; exact⟨S,d9 a₇.t.pre hS₄,rfl⟩)⟩
end
noncomputable def qY(c:Nat):Str:=if kH c then⟨#[92,c]⟩else⟨#[c]⟩
section
variable{prog:Program}{w:World}{A:Around}{E:Value→Shared→Prop}{s:Shared}
theorem M6{d:Addr}{f:Int→Option Value}{k:Int}{t:Tok}{Q:Value→Shared→Prop}(hm:s.heap.IntMap d f)(hf:f k=none)(hh:A.handled=none)
  (h:∀ h' tk e,Heap.NewExc s.heap h' e "KeyError" → E (.ref e) { s with heap:=h',toks:=tk }):wpAny (model prog w) A (getItem (.ref d) (.int k t)) Q E s:=by
 unfold getItem
 refine wpAny_holding ?_
 refine wpAny_bind (wpAny_sequenceKey hm.typeIs (by decide) ?_)
 refine wpAny_bind (wpAny_callSpecial?_slot (name:=Str.ofString "__getitem__") hm.typeIs slot_dict_getitem
  (wpAny_call_entry slot_dict_getitem hm.typeIs entry_dict_getitem ?_ (args_dict_getitem _ _)))
 show wpAny _ _ (dictGet d (.int k t) >>= _) _ _ s
 refine wpAny_bind (wpAny_dictGet_int hm ?_)
 rw[hf]
 show wpAny _ _ (Builtin.Dict.missed d (.int k t) >>= _) _ _ _
 refine wpAny_bind (wpAny_missed_int ?_)
 refine wpAny_bind (wpAny_typeOf (s:={ s with toks:=s.toks+1 }) hm.typeIs ?_)
 show wpAny _ _ (if(Value.type "dict" != Value.type "dict")=true then _ else _) _ _ _
 rw[if_neg (by decide)]
 exact wpAny_bind (wpAny_rule (wpAny_raise_newExc plainExc_KeyError hh fun h' e hn=>h h' _ e hn))
theorem UC{d:Addr}{f:Int→Option Value}{c:Nat}{x:Str}{tt:Tok}{Q:Builtin.Str.Mapped→Shared→Prop}(hm:s.heap.IntMap d f)(hf:f c=some (.str x tt))(h:∀ tk,Q (.text x) { s with toks:=tk }):wpAny (model prog w) A (Builtin.Str.tableLookup (.ref d) c) Q E s:=by
 unfold Builtin.Str.tableLookup
 refine wpAny_bind (wpAny_attempt (wpAny_bind (wpAny_mkInt (wpAny_getItem_intMap (s:={ s with toks:=_ }) hm hf ?_))))
 dsimp only
 have L1:∀ h,Looks (model prog w) h (asInt? (.str x tt)) none:=fun _=>Looks.of_pure (by kernel_rfl)
 have L2:∀ h,Looks (model prog w) h (asStr? (.str x tt)) (some x):=fun _=>Looks.of_pure (by kernel_rfl)
 refine wpAny_bind ((L1 _).here ?_)
 refine wpAny_bind ((L2 _).here ?_)
 exact wpAny_pure (h _)
theorem EN{d:Addr}{f:Int→Option Value}{c:Nat}{Q:Builtin.Str.Mapped→Shared→Prop}(hm:s.heap.IntMap d f)(hf:f c=none)(hh:A.handled=none)(h:∀ h' tk,(∀ b o,s.heap.get? b=some o→h'.get? b=some o)→Q .keep { s with heap:=h',toks:=tk }) :
  wpAny (model prog w) A (Builtin.Str.tableLookup (.ref d) c) Q E s:=by
 unfold Builtin.Str.tableLookup
 refine wpAny_bind (wpAny_attempt (wpAny_bind (wpAny_mkInt (M6 (s:={ s with toks:=_ }) hm hf hh fun h' tk e hn=>?_))))
 dsimp only
 obtain⟨ob,t0,he,hc,hd⟩:=hn.there
 refine wpAny_bind (wpAny_isInstance (T := "KeyError") ⟨ob,he,hc⟩ (b:=true) (by rw[isSubtype_type]; kernel_rfl) ?_)
 rw[if_pos rfl]
 exact wpAny_bind (wpAny_rule (wpAny_pure (h h' tk hn.keeps)))
theorem uU{d:Addr}{f:Int→Option Value}{c:Nat}{t0:Tok}{Q:Value→Shared→Prop}(hm:s.heap.IntMap d f)(hf:f c=if kH c then(f c)else none)(hs:kH c=true→∃ tt,f c=some (.str ⟨#[92,c]⟩ tt))(hh:A.handled=none)
  (h:∀ h' tk tt,(∀ b o,s.heap.get? b=some o→h'.get? b=some o)→Q (.str (qY c) tt) { s with heap:=h',toks:=tk }):wpAny (model prog w) A (call (.builtin "str.translate") [.str ⟨#[c]⟩ t0,.ref d]) Q E s:=by
 refine wpAny_call_entry F.slot_str_translate (typeIs_str _ _ _) F.entry_str_translate ?_ (F.args_str_translate_2 _ _)
 unfold Builtin.«str.translate»
 obtain⟨hp,g,dr,tk,os⟩:=s
 have hall:(#[c].all fun x=>decide (x<128))=decide (c<128):=by simp
 repeat lk
 rw[hall]
 have hgc:#[c][#[c].size - 1 - 0]=c:=rfl
 rw[hgc]
 cases hsp:kH c with
 | true =>
  obtain⟨tt,hfc⟩:=hs hsp
  have hlt:c<128:=by
   exact(List.all_eq_true.mp (show([40,41,91,93,123,125,63,42,43,45,124,94,36,92,46,38,126,35,32,9,10,13,11,12].all fun c=>decide (c<128))=true from rfl) c (List.contains_iff_mem.mp hsp)|> of_decide_eq_true)
  rw[decide_eq_true hlt]
  repeat (first | with_reducible refine UC hm hfc (fun tk=>?_)| lk)
  have he:qY c=⟨#[92,c]⟩:=by unfold qY; rw[hsp]; rfl
  rw[he]at h
  exact⟨_,rfl,h _ _ _ fun _ _ e=>e⟩
 | false =>
  rw[hsp,if_neg (by decide)]at hf
  have he:qY c=⟨#[c]⟩:=by unfold qY; rw[hsp]; rfl
  rw[he]at h
  by_cases hlt:c<128
  ·rw[decide_eq_true hlt]
   repeat (first | with_reducible refine EN hm hf hh (fun h' tk hk=>?_)| lk)
   exact⟨_,rfl,h _ _ _ hk⟩
  ·rw[decide_eq_false hlt]
   repeat (first | with_reducible refine EN hm hf hh (fun h' tk hk=>?_)| lk)
   exact⟨_,rfl,h _ _ _ hk⟩
end
noncomputable def SY(k:Nat)(e:DictEntry):Bool:=nG e.key fun j _=>j==(k:Int)&&(e.hash==hashInt k&&sG e.val fun x _=>x==⟨#[92,k]⟩)
noncomputable def CM:List Nat→List DictEntry→Bool
 | [],es=>es.isEmpty
 | k::ks,es=>iM es fun e r=>SY k e&&CM ks r
noncomputable def s8(e:Data)(f:Array DictEntry→Nat→Bool):Bool:=if h:e.ctorIdx=3 then Data.dict.elim e h f else false
theorem E9{e:Data}{f:Array DictEntry→Nat→Bool}(h:s8 e f=true):∃ a n,e = .dict a n∧f a n=true:=by
 by_cases c:e.ctorIdx=3
 ·exact Data.dict.elim (motive:=fun e=>s8 e f=true→∃ a n,e = .dict a n∧f a n=true) e c (fun a n h=>⟨a,n,rfl,h⟩) h
 ·rw[s8,dif_neg c]at h; cases h
noncomputable def YK:List Nat:=[40,41,91,93,123,125,63,42,43,45,124,94,36,92,46,38,126,35,32,9,10,13,11,12]
theorem WQ{k:Nat}{e:DictEntry}(h:SY k e=true):∃ t tt,e.key = .int k t∧e.val = .str ⟨#[92,k]⟩ tt∧e.hash=hashInt k:=by
 obtain⟨hs,ke,ve⟩:=e
 refine BZ (e:=ke) (m:=fun ke=>∃ t tt,ke = .int k t∧ve = .str ⟨#[92,k]⟩ tt∧hs=hashInt k) h fun j t h=>aB h fun h1 h=>BY (e:=ve) (m:=fun ve=>∃ t' tt,Value.int j t = .int k t'∧ve = .str ⟨#[92,k]⟩ tt∧hs=hashInt k) (aA h).2 fun x tt h3=>⟨t,tt,by rw[eq_of_beq h1],by rw[eq_of_beq h3],eq_of_beq (aA h).1⟩
theorem wS(c:Nat):∀{ks:List Nat}{l:List DictEntry},CM ks l=true →
  (∀ e∈l,∃ k:Nat,∃ t,e.key = .int k t∧e.hash=hashInt k)∧(ks.contains c=false→(l.find? fun e=>Value.isInt c e.key).map (·.val)=none)∧(ks.contains c=true→∃ tt,(l.find? fun e=>Value.isInt c e.key).map (·.val)=some (.str ⟨#[92,c]⟩ tt))
 | [],l,h=>dU (m:=fun l:List DictEntry=>(∀ e∈l,∃ k:Nat,∃ t,e.key = .int k t∧e.hash=hashInt k)∧(_→(l.find? fun e=>Value.isInt c e.key).map (·.val)=none)∧(_→∃ tt,(l.find? fun e=>Value.isInt c e.key).map (·.val)=some (.str ⟨#[92,c]⟩ tt))) h ⟨fun _ h=>(nomatch h),fun _=>rfl,fun h=>(nomatch h)⟩
 | k::ks,l,h=>by
  apply cV h; intro e r h
  obtain⟨t,tt,h1,h2,h3⟩:=WQ (aA h).1
  obtain⟨i0,i1,i2⟩:=wS c (aA h).2
  have hi:Value.isInt c e.key=(c==k):=by
   rw[h1]
   show((k:Int)==(c:Int))=_
   by_cases e:c=k
   ·subst e; rw[beq_self_eq_true,beq_self_eq_true]
   ·rw[beq_false_of_ne e]; exact beq_false_of_ne fun h=>e (Int.ofNat.inj h).symm
  rw[List.find?_cons,hi,List.contains_cons]
  refine⟨fun e' he=>(List.mem_cons.mp he).elim (fun e=>e▸⟨k,t,h1,h3⟩) (i0 e'),?_⟩
  by_cases e':c=k
  ·subst e'
   rw[beq_self_eq_true]
   exact⟨fun h=>(nomatch h),fun _=>⟨tt,congrArg some h2⟩⟩
  ·rw[beq_false_of_ne e']
   exact⟨i1,i2⟩
noncomputable def KM(K:Frag):Bool:=iB (eI K "_special_chars_map") fun v=>iR v fun d=>iB (K.lookup d) fun o=>o.cls == .type "dict" && s8 o.data fun es _=>CM YK es.toList
section
variable{D:OD}{sc:Scope}{K:Frag}{fuel:Nat}
theorem QA{c:Nat}(h:bL (.str ⟨#[c]⟩)=true):bL (.str (qY c))=true:=by
 have h1:=(y1 h).1
 have h92:PyData.strOk ⟨#[92]⟩=true:=by kernel_rfl
 unfold qY
 by_cases hs:kH c=true
 ·rw[if_pos hs]
  exact cH (x:=⟨#[92]⟩) (y:=⟨#[c]⟩) (y4 h92 (by decide)) h (Nat.le_of_ble_eq_true rfl)
 ·rw[if_neg hs]; exact h
theorem Bt{p apos pos:Pos}{x:Expr}(hX:D.Ex fuel)(hK:∀ h,D.Z.TabI h→K.In h)(hK0:K.In D.Z.h₀)(hok:KM K=true)(hg:aP sc "_special_chars_map" = true)(hx:jZ D.nm sc 0 x=true)(hline:(apos.endLine==pos.line)=true) :
  cN D sc (.Call (.Attribute x "translate" apos) [.Name "_special_chars_map" p] [] pos) (.ext 6):=fun{A env ρ μ st s v st' Q E}C he g =>
 IF ((congrFun (congrFun (congrFun hX 6) ρ) st).symm.trans he) fun xs h1 he=>R2 he fun c ec he=>by
 subst ec
 cases he
 obtain⟨ox,stx,c0⟩:=sU hx
 obtain⟨w,hd,hok⟩:=eF hok
 obtain⟨d,rfl,hok⟩:=mQ hok
 obtain⟨o,hl,hok⟩:=eF hok
 obtain⟨es,ep,hdd,hm⟩:=E9 (aA hok).2
 refine wpAny_Call_method_lateS (aQ c0 _ _ _) (jE (aZ rfl) (Nat.le_of_ble_eq_true rfl)) hline (ox C (sY h1) fun w s₁ μ₁ a₁ hw=>?_)
 obtain⟨t,rfl,hokc⟩:∃ t,w = .str ⟨#[c]⟩ t∧bL (.str ⟨#[c]⟩)=true:=NT (m:=fun w=>∃ t,w = .str ⟨#[c]⟩ t∧bL (.str ⟨#[c]⟩)=true) hw fun t ok=>⟨t,rfl,ok⟩
 refine⟨"str",_,F.plainAttrs_str,F.slot_str_translate,F.type_str_translate,typeIs_str _ _ _,nofun,aV nofun ((aZ rfl).1 env pos) (bW ((aZ rfl).2.1 nofun env pos) ?_)⟩
 rw[bF rfl]
 refine Calls.spliced_cons ((C.go a₁).glob hg (eM hK0 hd) (Calls.spliced_nil ?_))
 obtain⟨f0,f1,f2⟩:=wS c hm
 have hfb:findBy Value.isInt es (c:Int)=(es.toList.find? fun e=>Value.isInt c e.key).map (·.val):=by unfold findBy; rw[← Array.find?_toList]
 refine uU (f:=fun k=>findBy Value.isInt es k) ⟨o,es,ep,hK _ a₁.i.tab _ _ hl,eq_of_beq (aA hok).1,hdd,fun e he=>?_,fun _=>rfl⟩ ?_ (fun h=>by rw[hfb]; exact f2 h) C.ha.handled fun h' tk tt hk=>g _ _ _ (a₁.kp (a₁.i.full (tk:=tk) hk) (.of hk)) (mM (QA hokc))
 ·obtain⟨k,t,h1,h2⟩:=f0 e (Array.mem_toList_iff.mpr he)
  exact⟨_,_,h1,h2⟩
 ·rw[hfb]
  cases hs:kH c with
  | true=>rfl
  | false=>exact(f1 hs)
end
end Kt.Internal
end
section
open PySem PySem.W PyProof.Rows PySem.Calls Builtin Builtin.Re
namespace Kt.Internal
theorem pM{m:Nat→Prop}{c:Nat}(h:jC c=true)(h1:m 97∧m 39∧m 91∧m 32∧m 34∧m 42∧m 92∧m 93∧m 63∧m 35∧m 45∧m 98∧m 33)(h2:∀ k,m (k+256)):m c:=by
 refine(Bool.or_eq_true_iff.mp h).elim (fun h=>?_) fun h=>Nat.sub_add_cancel (of_decide_eq_true h)▸h2 (c - 256)
 obtain⟨a1,a2,a3,a4,a5,a6,a7,a8,a9,b1,b2,b3,b4⟩:=h1
 have key:∀ c∈[97,39,91,32,34,42,92,93,63,35,45,98,33],m c:=by
  simp only[List.forall_mem_cons]
  exact⟨a1,a2,a3,a4,a5,a6,a7,a8,a9,b1,b2,b3,b4,fun _ h=>nomatch h⟩
 exact key c (List.contains_iff_mem.mp h)
theorem QB{y:Nat}(h:jC y=true):Builtin.Str.occurrences ⟨#[y]⟩ "'" 0 1 2=bif y==39 then [0]else [] :=
 pM (m:=fun y=>Builtin.Str.occurrences ⟨#[y]⟩ "'" 0 1 2=bif y==39 then [0]else []) h (by refine⟨?_,?_,?_,?_,?_,?_,?_,?_,?_,?_,?_,?_,?_⟩ <;> kernel_rfl) fun k=>by kernel_rfl
noncomputable def sA(c:Nat):Str:=bif c==39 then "'\"'\"'" else⟨#[c]⟩
theorem H4{prog:Program}{w:World}{A:Around}{R:Result→Shared→Prop}{s:Shared}{c:Nat}{t t1:Tok}(hsg:jC c=true)(h1:(t1==0)=false)(h:∀ tk tk',R (.ok (.ret (.str (sA c) tk))) { s with toks:=tk' }):codeAny (model prog w) A (.call (.builtin "str.replace") ⟨[.str ⟨#[c]⟩ t,.str "'" t1,.str "'\"'\"'" (t1+1)],[]⟩) R s:=by
 have ho:Builtin.Str.occurrences ⟨#[c]⟩ "'" 0 (Str.length ⟨#[c]⟩) (Str.length ⟨#[c]⟩+1)=_:=QB hsg
 refine codeAny_call_builtin F.slot_str_replace.plain F.entry_str_replace (F.slot_str_replace.check _ _ _ _ _ _ _ _ (typeIs_str _ _ _) (F.args_str_replace_3 _ _ _) (gives_str_replace ⟨#[c]⟩ "'" "'\"'\"'" t t1 (t1+1) (fun h=>?_) _ _ _ _ _ ?_))
 ·rw[ho]at h ⊢
  cases hy:c==39 with
  | true=>exact⟨by rw[h1]; rfl,beq_false_of_ne (Nat.ne_of_lt (Nat.lt_succ_self _)),by decide,by kernel_rfl⟩
  | false=>rw[hy]at h; cases h
 ·rw[ho]
  unfold sA at h
  cases hy:c==39 with
  | true=>rw[hy]at h; exact⟨by show 5≤_; decide,h _ _⟩
  | false=>rw[hy]at h; exact h _ _
theorem W1{t:Str}{e:Expr}{m:Expr→Prop}(h:WB t e=true)(k:∀ a p,m (.Constant (.str t) a p)):m e:=cD h fun c a p h=>cL (m:=fun c=>m (.Constant c a p)) h (k a p)
noncomputable def zI:List Nat:=[14,14,4,1,1,9,0,64,0,1342177280,0,0,0,0,0,17,0,13,11,9,0,64,0,1342177280,0,0,0,0,0,17,1,1]
noncomputable def TB:List Nat→(Nat→Tok)→List Value
 | [],_=>[]
 | n::ns,τ=>.int n (τ 0)::TB ns fun i=>τ (i+1)
noncomputable abbrev pB(a0 a1 a3 a4:Value)(g:Int)(k2 k6:Tok)(t:Addr)(dd:Option Addr)(sl:Array (Option Value)):Obj:={ cls:=.type "re.Pattern",dict:=dd,data:=.fields #[a0,a1,.int g k2,a3,a4,.ref t,.int 0 k6],slots:=sl }
noncomputable abbrev sW(items:Array Value)(n:Nat)(dd:Option Addr)(sl:Array (Option Value)):Obj:={ cls:=.type "tuple",dict:=dd,data:=.seq items n,slots:=sl }
noncomputable abbrev TT:Obj:={ cls:=.type "tuple",data:=.seq #[rawInt 0,rawInt 1] }
noncomputable abbrev TU(x:Value)(p:Addr)(t:Addr):Obj:={ cls:=.type "re.Match",data:=.fields #[x,.ref p,rawInt 0,rawInt 1,rawInt (-1),.ref t] }
theorem A9{α:Type}{l:List α}{f:α→List α→Bool}(h:iM l f=true):∃ a r,l=a::r∧f a r=true:=cV (m:=fun l=>∃ a r,l=a::r∧f a r=true) h fun a r h=>⟨a,r,rfl,h⟩
theorem XQ{α:Type}{l:List α}{f:α→Bool}(h:fW l f=true):∃ a,l=[a]∧f a=true:=cK (m:=fun l=>∃ a,l=[a]∧f a=true) h fun a h=>⟨a,rfl,h⟩
theorem B0{e:Value}{f:Int→Tok→Bool}(h:nG e f=true):∃ a b,e = .int a b∧f a b=true:=BZ (m:=fun e=>∃ a b,e = .int a b∧f a b=true) h fun a b h=>⟨a,b,rfl,h⟩
noncomputable def TY:List Nat→List Value→Bool
 | [],vs=>vs.isEmpty
 | n::ns,vs=>iM vs fun v r=>nG v (fun i _=>i==(n:Int))&&TY ns r
theorem FQ:∀{ns:List Nat}{vs:List Value},TY ns vs=true→∃ τ,vs=TB ns τ
 | [],_,h=>⟨fun _=>0,List.isEmpty_iff.mp h⟩
 | n::ns,vs,h=>by
  obtain⟨v,r,e,h⟩:=A9 h
  obtain⟨i,t,ev,hi⟩:=B0 (aA h).1
  obtain⟨τ,er⟩:=FQ (aA h).2
  exact⟨fun i=>Nat.casesOn i t τ,by rw[e,ev,eq_of_beq hi,er]; rfl⟩
noncomputable def R6(K:Frag)(p:Addr)(g:Int)(code:List Nat):Bool:=iB (K.lookup p) fun o=>o.cls == .type "re.Pattern" && (o.dict.isNone&&iU o.data fun fs=>iM fs.toList fun _ r=>iM r fun _ r=>iM r fun v r=>nG v (fun i _=>i==g)&&(iM r fun _ r=>iM r fun _ r=>iM r fun t r =>
 (fW r fun v=>nG v fun k _=>k==0)&&iR t fun t=>iB (K.lookup t) fun o=>o.cls == .type "tuple" && D3 o.data fun items=>TY code items.toList))
theorem VB{K:Frag}{p:Addr}{g:Int}{code:List Nat}(h:R6 K p g code=true){G:Prop}(go:∀{a0 a1 a3 a4:Value}{k2 k6:Tok}{t:Addr}{sl:Array (Option Value)}{τ:Nat→Tok}{n:Nat}{dd3:Option Addr}{sl3:Array (Option Value)},K.lookup p=some (pB a0 a1 a3 a4 g k2 k6 t none sl)→K.lookup t=some (sW (TB code τ).toArray n dd3 sl3)→G):G:=by
 obtain⟨⟨oc,od,oda,osl⟩,e,h⟩:=eF h
 obtain⟨h1,h⟩:=aA h
 obtain⟨h2,h⟩:=aA h
 obtain⟨⟨fs⟩,h3,h⟩:=wE h
 obtain⟨a0,r0,e0,h⟩:=A9 h
 obtain⟨a1,r1,e1,h⟩:=A9 h
 obtain⟨v,r2,e2,h⟩:=A9 h
 obtain⟨h4,h⟩:=aA h
 obtain⟨i,k2,ei,h4⟩:=B0 h4
 obtain⟨a3,r3,e3,h⟩:=A9 h
 obtain⟨a4,r4,e4,h⟩:=A9 h
 obtain⟨t,r5,e5,h⟩:=A9 h
 obtain⟨h5,h⟩:=aA h
 obtain⟨k,e6,h5⟩:=XQ h5
 obtain⟨k,k6,ek,h5⟩:=B0 h5
 obtain⟨t,et,h⟩:=mQ h
 obtain⟨⟨pc,pd,pda,psl⟩,e',h⟩:=eF h
 obtain⟨h6,h⟩:=aA h
 obtain⟨⟨items⟩,n,h7,h⟩:=VK h
 obtain⟨τ,hτ⟩:=FQ h
 refine go (a0:=a0) (a1:=a1) (a3:=a3) (a4:=a4) (k2:=k2) (k6:=k6) (t:=t) (sl:=osl) (τ:=τ) (n:=n) (dd3:=pd) (sl3:=psl) ?_ ?_
 ·have h1:oc=_:=eq_of_beq h1
  have h2:od=none:=Option.isNone_iff_eq_none.mp h2
  have h3:oda=_:=h3
  have e0:fs=_:=e0
  rw[e,h1,h2,h3,e0,e1,e2,ei,eq_of_beq h4,e3,e4,e5,et,e6,ek,eq_of_beq h5]
 ·have h6:pc=_:=eq_of_beq h6
  have h7:pda=_:=h7
  have hτ:items=_:=hτ
  rw[e',h6,h7,hτ]
def iH(P:Addr)(lp:Nat×Nat)(h:Heap):Prop:=∃ ps,h.get? P=some (tabObj ps)∧(ps=#[]∨∃ cv,ps=#[rawInt lp.1,rawInt lp.2,cv])
structure gZ(Z:aE)(K:Frag)(c P:Addr)(lp:Nat×Nat):Prop where
 hd:CodeHd Z.h₀ c P
 tab₀:Z.h₀.get? P=some (tabObj #[])
 out:K.lookup P=none
 ne:P≠mainGlobals∧P≠cStatics
 bm:Z.h₀.BuiltinsAt Z.mg P
 tab:∀ h,Z.TabI h→iH P lp h
 tabI:∀ h h':Heap,Z.TabI h→(∀ b o,b≠P→h.get? b=some o→h'.get? b=some o)→iH P lp h'→Z.TabI h'
section
variable{D:OD}{sc:Scope}{K:Frag}{c P:Addr}{A:Around}{env:Env}{ρ:LO}{μ:List Addr}{st:St}{s:Shared}
theorem pR{h₀ h:Heap}(x:CodeHd h₀ c P)(g:∀ o,c≠P→o.cls ≠ .none→h₀.get? c=some o→h.get? c=some o):CodeHd h c P:=by
 obtain⟨_,vs,file,tf,flags,tg,inF,text,tt,e,hc,r⟩:=x
 exact⟨_,vs,file,tf,flags,tg,inF,text,tt,g _ r.2.2.2.2.2.2.2 (by rw[hc]; nofun) e,hc,r⟩
theorem CT{h₀ h:Heap}{mg:Str→Option Value}(x:h₀.BuiltinsAt mg P)(o:OldK h₀ h):h.BuiltinsAt mg P :=
 by obtain⟨bm,ob,h1,h2,h3,h4,h5,h6,r⟩:=x; exact⟨bm,ob,h1,h2,h3,h4,o.get_of_cls h5 (by rw[h6]; nofun),h6,r⟩
theorem gZ.inv{Z:aE}{lp:Nat×Nat}(LK:gZ Z K c P lp)(hI:bB Z s){s':Shared}(hk:∀ b o,b≠P→s.heap.get? b=some o→s'.heap.get? b=some o)(hold:OldK Z.h₀ s'.heap)(hlt:iH P lp s'.heap)(hg:AllBare s'.gens)(hos:s'.os=s.os):bB Z s':=by
 refine⟨hold,?_,LK.tabI _ _ hI.tab hk hlt,hg,hos.trans hI.os,fun L hL=>?_⟩
 ·obtain⟨mc,⟨o',es,ep,e,r⟩,b⟩:=hI.lim
  exact⟨mc,⟨o',es,ep,hk _ _ LK.ne.2.symm e,r⟩,b⟩
 ·obtain⟨h1,o',e,hd'⟩:=hI.frs L hL
  exact⟨h1,o',hk L o' (fun e'=>Nat.lt_irrefl _ (Nat.lt_of_lt_of_le (Heap.lt_size LK.tab₀) (e'▸h1))) e,hd'⟩
theorem iH.keeps{lp:Nat×Nat}{h h':Heap}(x:iH P lp h)(hk:∀ b o,h.get? b=some o→h'.get? b=some o):iH P lp h':=x.imp fun _ x=>x.imp_left (hk _ _)
theorem AI{lp:Nat×Nat}(LK:gZ D.Z K c P lp)(C:Oc D sc A env ρ μ st s){Q:Value→Shared→Prop}(hQ:∀ f s' o,dF D.Z D.cA jX μ s.heap μ st s'→s'.heap.get? f=some o→o.cls = .type "function" → f∉μ→Q (.ref f) s')
  {h':Heap} {tk:Nat} {o:Obj} (hc:o.cls = .type "function") (hsz:s.heap.objs.size≤h'.objs.size) (hfr:o.isFreed=false) (hx:Heap.ExtBut P s.heap h') (hold:OldK D.Z.h₀ h') (hlt:iH P lp h'):Q (.ref h'.objs.size) { s with heap:=h'.push o,toks:=tk }:=by
 have hI:=C.hi
 have hPn:P<D.Z.n:=Heap.lt_size LK.tab₀
 have hk:∀ b o',b≠P→s.heap.get? b=some o'→(h'.push o).get? b=some o':=fun b o' hb e=>Heap.get?_push_of_some _ (hx b o' hb e)
 have hP:∀ a,D.Z.n≤a→a≠P:=fun a ha e=>Nat.lt_irrefl _ (Nat.lt_of_lt_of_le (e▸hPn) ha)
 have hnew:∀ o',s.heap.get? h'.objs.size≠some o':=fun o' e=>Nat.lt_irrefl _ (Nat.lt_of_lt_of_le (Heap.lt_size e) hsz)
 have hkp:∀ b o',h'.get? b=some o'→(h'.push o).get? b=some o':=fun _ _ e=>Heap.get?_push_of_some _ e
 refine hQ _ _ o ⟨LK.inv hI hk (hold.step_keeps hkp) (hlt.keeps hkp) hI.gens rfl,⟨List.prefix_rfl,fun b o' e hb _ _=>.inl (hk b o' (fun e'=>?_) e),fun _ h hn=>absurd h hn⟩,
  ⟨C.so.len,C.so.nd,C.so.hi,fun k a f h1 h2=>(C.so.at_ k a f h1 h2).sl List.prefix_rfl fun o' e=>.inl (hk a o' (hP a (C.so.hi a (List.mem_of_getElem? h1)).1) e)⟩⟩ (Heap.get?_push_size _ hfr) hc fun hm=>let⟨o',e⟩:=C.so.live _ hm; hnew o' e
 obtain⟨ps,e2,_⟩:=LK.tab _ hI.tab
 rw[e',e2]at e
 cases e
 exact hb.elim (fun h=>h rfl) fun h=>hP b h e'
theorem H0{lp:Nat×Nat}{params:Arguments}{body:Expr}{lsc:Scope}{pos:Pos}{n:Str}(LK:gZ D.Z K c P lp)(hp:pos.line=lp.1∧pos.col=lp.2)(hn:lsc.names=[(n,.local)])(hd:params.defaults=[])(hd':params.kw_defaults=[]){Q E:Value→Shared→Prop}
  (hl:D.Z.lam = .ref c) (hnm:D.nm.length=14) (C:Oc D sc A env ρ μ st s) (hQ:∀ f s' o,dF D.Z D.cA jX μ s.heap μ st s'→s'.heap.get? f=some o→o.cls = .type "function" → f∉μ→Q (.ref f) s') :
  wpAny (model D.Z.prog D.Z.w) A (eval (.Lambda params body lsc pos) env) Q E s:=by
 have hI:=C.hi
 have hcode:env.code = .ref c:=(C.he.lam hnm).trans hl
 obtain⟨ps,hP,hps⟩:=LK.tab _ hI.tab
 have CH:=pR LK.hd fun _ _ hc e=>hI.old.get_of_cls e hc
 have hclo:closureFor lsc env=pure []:=by unfold closureFor; rw[hn]; rfl
 refine kla_eval (show defaultsOf params env=([],[])from by cases params; cases hd; cases hd'; rfl) ?_
 rcases hps with rfl | ⟨cv,rfl⟩
 ·refine kla_makeFunction (mg:=D.Z.mg) hclo C.he.glob hI.glob hcode CH hP (by simp[TriplesOk]) rfl LK.ne.1.symm (CT LK.bm hI.old) fun c' ctv h' tk hx hge hlt hrec htb=>?_
  have CX:CodeHd h' c P:=pR CH fun _ hn _ e=>hx _ _ hn e
  exact AI LK C hQ (tk:=tk) rfl (Nat.le_trans hge (Nat.le_of_lt hlt)) rfl hx (hI.old.step_table (LK.hd.tab LK.tab₀) (CH.tab hP) (CX.tab htb) hx LK.ne.2) ⟨_,htb,.inr ⟨.ref c',by rw[hp.1,hp.2]; rfl⟩⟩
 ·refine kla_makeFunctionHit (mg:=D.Z.mg) (cv:=cv) hclo C.he.glob hI.glob hcode CH hP ?_ ?_ (CT LK.bm hI.old) fun ctv h' tk hk hsz=>AI LK C hQ (tk:=tk) rfl hsz rfl (fun b o _ e=>hk b o e) (hI.old.step_keeps hk) ⟨_,hk _ _ hP,.inr ⟨cv,rfl⟩⟩
  ·simp[TriplesOk,rawInt]
  ·simp[codeAmong,rawInt,hp.1,hp.2]
end
theorem G6:PlainAttrs "re.Pattern" :=
 ⟨⟨"object.__getattribute__",by rw[typeLookup_type,builtinLookup_eq_fast]; kernel_rfl,by decide +kernel⟩,by rw[typeLookup_type,builtinLookup_eq_fast]; kernel_rfl⟩
theorem LN:Slot "re.Pattern" "sub" "re.Pattern.sub" :=
 .of (owner := "re.Pattern") (n := "sub") (by rw[typeLookup_type,builtinLookup_eq_fast]; kernel_rfl) (by decide +kernel) (by decide +kernel) (by decide +kernel)
  (by first | exact .inl (by decide +kernel)| exact .inr (by decide +kernel)) (by rw[isSubtype_type]; kernel_rfl)
theorem K1:typeOf (.builtin "re.Pattern.sub")=pure (.type "method_descriptor"):=by show builtinType _=_; rw[builtinType_eq_fast]; kernel_rfl
noncomputable abbrev dC(l:Array Value)(n:Nat):Obj:={ cls:=.type "list",data:=.seq l n }
noncomputable abbrev JL(od:Option Addr)(oda:Data)(osl:Array (Option Value)):Obj:={ cls:=.type "function",dict:=od,data:=oda,slots:=osl }
noncomputable def A8(h:Heap)(v:Value):Heap:=(h.push (dC #[] 0)).update h.objs.size (Obj.mapSeq fun x=>PySem.W.Fast.tw2398297429280069960 x v)
def Ca(R:Result→Shared→Prop)(s:Shared)(p f t:Addr)(op of ot:Obj)(c:Nat)(tk:Tok):Prop :=
 s.heap.get? p=some op∧qb "re.Pattern.sub" [.ref p,.ref f,.str ⟨#[c]⟩ tk]∧s.heap.get? f=some of∧s.heap.get? p=some op∧s.heap.get? t=some ot ∧
  qb "re.Pattern.sub.loop" [.ref p,.str ⟨#[c]⟩ tk,.ref f,rawInt 1,rawInt 0,rawInt 0,rawInt 0,rawInt 0,.bool false,.ref s.heap.objs.size,.bool false] ∧
  (s.heap.push (dC #[] 0)).get? p=some op∧(s.heap.push (dC #[] 0)).get? t=some ot∧(s.heap.push (dC #[] 0)).get? s.heap.objs.size=some (dC #[] 0) ∧
  (((s.heap.push (dC #[] 0)).get? s.heap.objs.size).isSome=true∧Frag.In [] (A8 s.heap (.str ⟨#[c]⟩ s.toks))) ∧
  (A8 s.heap (.str ⟨#[c]⟩ s.toks)).get? s.heap.objs.size=some (dC #[.str ⟨#[c]⟩ s.toks] 1)∧(A8 s.heap (.str ⟨#[c]⟩ s.toks)).get? s.heap.objs.size=some (dC #[.str ⟨#[c]⟩ s.toks] 1) ∧
  qb "str.join" [.str ⟨#[]⟩ (s.toks+1),.ref s.heap.objs.size] ∧
  (A8 s.heap (.str ⟨#[c]⟩ s.toks)).get? s.heap.objs.size=some (dC #[.str ⟨#[c]⟩ s.toks] 1)∧(A8 s.heap (.str ⟨#[c]⟩ s.toks)).get? s.heap.objs.size=some (dC #[.str ⟨#[c]⟩ s.toks] 1) ∧
  R (.ok (.ret (.str ⟨#[c]⟩ s.toks))) { s with heap:=A8 s.heap (.str ⟨#[c]⟩ s.toks),toks:=s.toks+1+1 }
theorem UK{S:Setting}{R:Result→Shared→Prop}{s:Shared}{p f t:Addr}{sl2 sl3 osl:Array (Option Value)}{a0 a1 a3 a4:Value}{k2 k6:Tok}{dd3 od:Option Addr}{oda:Data}{τ:Nat→Tok}{n c:Nat}{tk:Tok}(hc:(c==42||c==63||c==91)=true) :
  DW D0 [] S 9 (.call (.builtin "re.Pattern.sub") ⟨[.ref p,.ref f,.str ⟨#[c]⟩ tk],[]⟩) (fun r _ s=>R r s) [(0,pB a0 a1 a3 a4 1 k2 k6 t none sl2),(0,JL od oda osl),(0,pB a0 a1 a3 a4 1 k2 k6 t none sl2),(0,sW (TB zI τ).toArray n dd3 sl3),(0,pB a0 a1 a3 a4 1 k2 k6 t none sl2),(0,sW (TB zI τ).toArray n dd3 sl3),
   (0,dC #[] 0),(0,dC #[.str ⟨#[c]⟩ s.toks] 1),(0,dC #[.str ⟨#[c]⟩ s.toks] 1),(0,dC #[.str ⟨#[c]⟩ s.toks] 1),(0,dC #[.str ⟨#[c]⟩ s.toks] 1)] s=Ca R s p f t (pB a0 a1 a3 a4 1 k2 k6 t none sl2) (JL od oda osl) (sW (TB zI τ).toArray n dd3 sl3) c tk:=by
 rcases Bool.or_eq_true_iff.mp hc with h | h
 ·rcases Bool.or_eq_true_iff.mp h with h | h <;> (cases eq_of_beq h; kernel_rfl)
 ·cases eq_of_beq h; kernel_rfl
theorem NP{prog:Program}{w:World}{A:Around}{E:Value→Shared→Prop}{s:Shared}{p f t:Addr}{sl2 sl3 osl:Array (Option Value)}{a0 a1 a3 a4:Value}{k2 k6:Tok}{dd3 od:Option Addr}{oda:Data}{τ:Nat→Tok}{n c:Nat}{tk:Tok}{Q:Value→Shared→Prop}(hh:A.handled=none)
  (hp:s.heap.get? p=some (pB a0 a1 a3 a4 1 k2 k6 t none sl2)) (ht:s.heap.get? t=some (sW (TB zI τ).toArray n dd3 sl3)) (hf:s.heap.get? f=some (JL od oda osl)) (hc:(c==42||c==63||c==91)=true)
  (h:∀ h' tk tk',(∀ b o,s.heap.get? b=some o→h'.get? b=some o)→Q (.str ⟨#[c]⟩ tk) { s with heap:=h',toks:=tk' }) :
  wpAny (model prog w) A (call (.builtin "re.Pattern.sub") [.ref p,.ref f,.str ⟨#[c]⟩ tk]) Q E s:=by
 have hl:(s.heap.push (dC #[] 0)).get? s.heap.objs.size=some (dC #[] 0):=Heap.get?_push_size _ rfl
 have h2:(A8 s.heap (.str ⟨#[c]⟩ s.toks)).get? s.heap.objs.size=some (dC #[.str ⟨#[c]⟩ s.toks] 1):=Heap.get?_update_self _ hl rfl
 exact wpAny_call (JE (K:=[]) 9 _ _ hh (fun _ _ h=>nomatch h) (UK hc) ⟨hp,Code.quiet_builtin _ (by decide +kernel),hf,hp,ht,Code.quiet_builtin _ (by decide +kernel),Heap.get?_push_of_some _ hp,Heap.get?_push_of_some _ ht,hl,⟨by rw[hl]; rfl,fun _ _ h=>nomatch h⟩,h2,h2,Code.quiet_builtin _ (by decide +kernel),h2,h2,
  h _ _ _ fun b o e=>(Heap.get?_update_other _ _ fun e'=>by rw[← e',get?_ge (Nat.le_refl _)]at e; cases e).trans (Heap.get?_push_of_some _ e)⟩)
noncomputable def KN(K:Frag):Bool:=iB (eI K "twin_re_1_fnmatch") fun v=>iR v fun p=>R6 K p 1 zI
section
variable{D:OD}{sc:Scope}{K:Frag}{c P:Addr}{lp:Nat×Nat}{fuel:Nat}
theorem Bu{p apos pos q:Pos}{x body:Expr}{a:Arguments}{lsc:Scope}{nn:Str}(hX:D.Ex fuel)(hK:∀ h,D.Z.TabI h→K.In h)(hK0:K.In D.Z.h₀)(LK:gZ D.Z K c P lp)(hl:D.Z.lam = .ref c)(hok:KN K=true)(hg:aP sc "twin_re_1_fnmatch" = true)(hx:jZ D.nm sc 9 x=true)(hline:(apos.endLine==pos.line)=true)
  (hnm:D.nm.length=14) (hd:a.defaults=[]) (hd':a.kw_defaults=[]) (hq:q.line=lp.1∧q.col=lp.2) (hone:lsc.names=[(nn,.local)]) :
  cN D sc (.Call (.Attribute (.Name "twin_re_1_fnmatch" p) "sub" apos) [.Lambda a body lsc q,x] [] pos) (.ext 5):=fun{A env ρ μ st s v st' Q E}C he g =>
 IF ((congrFun (congrFun (congrFun hX 5) ρ) st).symm.trans he) fun xs h1 he=>R2 he fun d ec he=>iO (show(if(d==42||d==63||d==91)=true then some (OV.d (.str ⟨#[d]⟩),st)else none)=some (v,st')from he) fun hsg he2=>by
 subst ec
 cases he2
 obtain⟨ox,stx,_⟩:=sU hx
 obtain⟨w,hp,hok⟩:=eF hok
 obtain⟨pp,rfl,hok⟩:=mQ hok
 refine VB hok fun g1 g2=>?_
 have hpl:aX [.Lambda a body lsc q,x]:=iY rfl stx
 have XK:=hK _ C.hi.tab
 refine wpAny_Call_method_lateS (aQ rfl _ _ _) (jE hpl (Nat.le_of_ble_eq_true rfl)) hline (C.glob hg (eM hK0 hp) ⟨"re.Pattern",_,G6,LN,K1,⟨_,XK _ _ g1,rfl⟩,fun b e=>by cases e; exact⟨_,XK _ _ g1,rfl⟩,aV nofun (hpl.1 env pos) (bW (hpl.2.1 nofun env pos) ?_)⟩)
 rw[bF rfl]
 show wpAny _ A (spliced ((false,eval (.Lambda a body lsc q) env)::backTo pos (starEach [x] env))) _ _ _
 refine Calls.spliced_cons (H0 LK hq hone hd hd' hl hnm C fun f s₁ of a₁ hf hfc hfd=>?_)
 refine b5 stx ox c8 (C.go a₁) (uZ (sY h1)) fun vs s₂ μ₂ a₂ hvs=>qT (m:=fun vs=>wpAny _ A (call (.builtin "re.Pattern.sub") (.ref pp :: .ref f::vs)) Q E s₂) hvs fun w hw=>?_
 obtain⟨tk,rfl,hok2⟩:∃ t,w = .str ⟨#[d]⟩ t∧bL (.str ⟨#[d]⟩)=true:=NT (m:=fun w=>∃ t,w = .str ⟨#[d]⟩ t∧bL (.str ⟨#[d]⟩)=true) hw fun t ok=>⟨t,rfl,ok⟩
 have XK2:=hK _ a₂.i.tab
 obtain⟨⟨oc,od,oda,osl⟩,e',hcl,_⟩:=(a₂.t.keep f of hf (.inl (by rw[hfc]; nofun)) hfd id).ex
 have hcl:oc=_:=hcl.trans hfc
 exact NP C.ha.handled (XK2 _ _ g1) (XK2 _ _ g2) (hcl▸e') hsg fun h' tk1 tk2 hk=>g _ _ μ₂ ((a₁.trans a₂).kp (a₂.i.full (tk:=tk2) hk) (.of hk)) (mM hok2)
end
theorem gZ.at{Z:aE}{K:Frag}{c P:Addr}{lp:Nat×Nat}(x:gZ Z K c P lp)(fr:List Addr):gZ (Z.at fr) K c P lp:={ x with }
noncomputable def SV(K:Frag):Bool:=eI K "deque" == some (.type "collections.deque")&&((iB (eI K "shlex") fun v=>iR v fun a=>keepIn K (.ref a))&&(CF K (pV K) (l6 K)&&(KN K&&KM K)))
theorem WZ{m:Nat→Prop}(h0:m 0)(h1:m 1)(h2:m 2)(h3:m 3)(h4:m 4)(h5:m 5)(h6:m 6)(h7:m 7)(h:∀ n,m (n+8)):∀ n,m n
 | 0=>h0 | 1=>h1 | 2=>h2 | 3=>h3 | 4=>h4 | 5=>h5 | 6=>h6 | 7=>h7 | n+8=>h n
theorem TQ{sc:Scope}{e:Expr}{n:Str}{f:List Expr→Bool}{m:Expr→Prop}(h:Ag sc e n f=true)(k:∀ as(p pos:Pos),aP sc n=true→f as=true→m (.Call (.Name n p) as [] pos)):m e:=by
 apply D4 h; intro n' as p pos h
 refine aB h fun z h=>?_; apply cL z
 exact k as p pos (aA h).1 (aA h).2
theorem VX{Z:aE}{K:Frag}{c P:Addr}{lp:Nat×Nat}{fuel:Nat}(hK:∀ h,Z.TabI h→K.In h)(hK0:K.In Z.h₀)(hlam:Z.lam=qX K)(hB:gD Z)(hb2:vM K (pV K))(LK:gZ Z K c P lp)(hl0:Z.lam = .ref c)(h:SV K=true) :
  tI Z (pV K) (l6 K) (W5 lp) (eG fuel):=fun cl lvl hC fr nm j=>aB h fun d0 h=>aB h fun d1 h=>aB h fun d2 h=>aB h fun d5 d6=>by
 have hX:OD.Ex ⟨Z.at fr,pV K,cl,eG fuel cl,lvl+1,nm⟩ fuel:=rfl
 refine WZ (m:=fun j=>∀ sc e,W5 lp nm j sc e=true→cN ⟨Z.at fr,pV K,cl,eG fuel cl,lvl+1,nm⟩ sc e (.ext j)) (fun sc e h=>?_) (fun sc e h=>?_) (fun sc e h=>?_) (fun sc e h=>?_) (fun sc e h=>?_) (fun sc e h=>?_) (fun sc e h=>?_) (fun sc e h=>?_) (fun n sc e h=>?_) j
 ·apply TQ h; intro as p pos hg h
  apply dU h
  exact Bx hX hg (eM hK0 (eq_of_beq d0))
 ·apply dR h; intro fe as ks pos h
  apply aM h; intro n p h
  refine aB h fun z h=>aB h fun hg h=>?_; apply cL z
  apply cK h; intro x h
  refine aB h fun hx h=>?_
  apply cK h; intro k h
  obtain⟨kn,ky,kp⟩:=k
  apply sB (m:=fun kn=>cN _ sc (.Call _ [x] [⟨kn,ky,kp⟩] pos) _) h; intro n' h
  refine aB h fun z h=>?_; apply cL z
  obtain⟨v,ha,d1⟩:=eF d1
  obtain⟨a,rfl,d1⟩:=mQ d1
  exact Bw hX hK (bZ.up (hC fr) (Nat.le_succ _)) (a:=a) (show(eI K "shlex").bind eY=_ by rw[ha]; rfl) hg (eM hK0 ha) d1 hx h
 ·apply TQ h; intro as p pos hg h
  apply cK h; intro x h
  exact Bv hX rfl hK hK0 hlam hB hC hb2 d2 hg h
 ·cases h
 ·cases h
 ·apply lI h; intro x as apos pos h0 hl h
  refine aB h fun hn h=>?_
  apply aM h; intro n p h
  refine aB h fun z h=>aB h fun hg h=>?_; apply cL z
  apply cV h; intro l r h
  refine aB h fun h1 h=>?_
  apply cK h1; intro y h1
  apply HJ h; intro a body lsc q h
  refine aB h fun h2 h=>aB h fun h3 h=>aB h fun h4 h=>aB h fun h5 h=>?_
  obtain⟨⟨nn,k⟩,e,h6⟩:=XQ h
  exact Bu hX hK hK0 (LK.at fr) hl0 d5 hg h1 hl (eq_of_beq hn) (List.isEmpty_iff.mp h2) (List.isEmpty_iff.mp h3) ⟨eq_of_beq h4,eq_of_beq h5⟩ (e.trans (by rw[show k=_ from eq_of_beq h6]))
 ·apply lI h; intro x as apos pos h0 hl h
  refine aB h fun hx h=>?_
  apply cK h; intro y h
  apply aM h; intro n p h
  refine aB h fun z hg=>?_; apply cL z
  exact Bt hX hK hK0 d6 hg hx hl
 ·apply TQ h; intro as p pos hg h
  apply dU h
  exact Bs hX hB hg
 ·cases h
end Kt.Internal
end
section
open PySem PySem.W PyProof.Rows PySem.Calls Builtin
namespace Kt.Internal
noncomputable def IM(h:Heap)(C:Addr):Heap:=(h.push emptyDict).push (instObj C h.objs.size)
noncomputable abbrev F8(C:Addr)(x:Value)(kw:List (Str×Value)):Code:=.builtin "type.__call__" ⟨[.ref C,x],kw⟩
noncomputable def J8(c:Code)(f:Addr→Option (Addr→Addr→Value×Sc)):Option (Addr→Addr→Value×Sc):=match c with
 | .call v _=>(match v with | .ref u=>f u | _=>none)
 | _=>none
noncomputable def Cq(aI:Addr)(c:Code):Option (Addr→Addr→Value×Sc):=J8 c fun u=>bif u==aI then some fun _ _=>(.none,[])else none
noncomputable def Cp(C f aI:Addr)(c:Code):Option (Addr→Addr→Value×Sc):=J8 c fun u=>bif u==aI then some fun _ _=>(.none,[])else bif u==f then some fun x d=>(.ref x,[(0,instObj C d),(1,instObj C d)])else none
noncomputable abbrev X2(prog:Program)(w:World)(K:Frag)(A:Around)(R:Result→Shared→Prop)(s:Shared)(aI y:Addr)(x:Value)(kw:List (Str×Value)):Prop :=
 codeAny (model prog w) A (.call (.ref aI) ⟨[.ref y,x],kw⟩) (fun r s'=>∃ _ _:Addr,r = .ok (.ret .none)∧K.In s'.heap∧R (.ok (.ret (.ref y))) s') s
def Ab(prog:Program)(w:World)(K:Frag)(A:Around)(R:Result→Shared→Prop)(s:Shared)(C aI:Addr)(x:Value)(kw:List (Str×Value)):Prop :=
 (Code.call (.builtin "type.__call__") ⟨[.ref C,x],kw⟩).quiet=true∧(F8 C x kw=F8 C x kw∧(F8 C x kw).quiet=true)∧(Code.builtin "object.__new__" ⟨[.ref C,x],kw⟩).quiet=true ∧
  (IM s.heap C).get? (s.heap.push emptyDict).objs.size=some (instObj C s.heap.objs.size)∧(IM s.heap C).get? (s.heap.push emptyDict).objs.size=some (instObj C s.heap.objs.size) ∧
  X2 prog w K (A.under (F8 C x kw)) R { s with heap:=IM s.heap C } aI (s.heap.push emptyDict).objs.size x kw
def Aa(prog:Program)(w:World)(K:Frag)(A:Around)(R:Result→Shared→Prop)(s:Shared)(C f q aI:Addr)(x:Value):Prop :=
 (Code.call (.builtin "type.__call__") ⟨[.ref C,x],[]⟩).quiet=true∧(F8 C x []=F8 C x []∧(F8 C x []).quiet=true)∧qb "type.__getattribute__" [.ref C,.str "__new__" s.toks]∧qb "staticmethod.__get__" [.ref q,.none,.ref C] ∧
  codeAny (model prog w) (A.under (F8 C x [])) (.call (.ref f) ⟨[.ref C,x],[]⟩) (fun r s'=>∃ y d:Addr,r = .ok (.ret (.ref y))∧K.In s'.heap∧s'.heap.get? y=some (instObj C d)∧s'.heap.get? y=some (instObj C d)∧X2 prog w K (A.under (F8 C x [])) R s' aI y x []) { s with toks:=s.toks+1 }
noncomputable def ID(w:World)(n:Str)(tk:Tok)(v:Value):Obj→Obj:=Obj.putName n (if n.cps.isEmpty then 0 else reduceHash (w.params.strHash n.cps)) (.str n tk) v
noncomputable abbrev m8:Obj:={ cls:=.type "frame",data:=.dict #[] }
noncomputable abbrev IG(x:Value):Obj:={ cls:=.type "tuple",data:=.seq #[x] }
def X0(K:Frag)(R:Result→Shared→Prop)(s:Shared)(C L:Addr)(h0:Heap)(f1 f2 f3:Obj→Obj):Prop :=
 h0.get? L=some m8∧((h0.get? L).isSome=true∧K.In (h0.update L f1))∧(h0.update L f1).get? L=some (f1 m8)∧(((h0.update L f1).get? L).isSome=true∧K.In ((h0.update L f1).update L f2)) ∧
  ((h0.update L f1).update L f2).get? L=some (f2 (f1 m8))∧((((h0.update L f1).update L f2).get? L).isSome=true∧K.In (((h0.update L f1).update L f2).update L f3))∧(((h0.update L f1).update L f2).update L f3).NoLimit ∧
  (((h0.update L f1).update L f2).update L f3).get? L=some (f3 (f2 (f1 m8)))∧(((h0.update L f1).update L f2).update L f3).get? L=some (f3 (f2 (f1 m8))) ∧
  qb "type.__getattribute__" [.type "object",.str "__new__" (s.toks+1+1+1)]∧(((h0.update L f1).update L f2).update L f3).get? L=some (f3 (f2 (f1 m8)))∧qb "object.__new__" [.ref C] ∧
  R (.ok (.ret (.ref ((((h0.update L f1).update L f2).update L f3).push emptyDict).objs.size))) { s with heap:=IM (((h0.update L f1).update L f2).update L f3) C,toks:=s.toks+1+1+1+1 }
def nQ(e:Data)(f:FuncData→Prop):Prop:=if h:e.ctorIdx=7 then Data.func.elim e h f else False
def n6(e:FuncBody)(f:List Stmt→Prop):Prop:=if h:e.ctorIdx=0 then FuncBody.stmts.elim e h f else False
def Ak(K:Frag)(f:Addr)(P:FuncData→List Stmt→Prop):Prop:=fC (K.lookup f) fun o=>nQ o.data fun fd=>n6 fd.body fun b=>P fd b
def X5(K:Frag)(C aI:Addr):Prop:=∀(prog:Program)(w:World)(A:Around)(R:Result→Shared→Prop)(s:Shared)(x p:Value),Ao prog w A K (Cq aI) 9 (.call (.ref C) ⟨[x],[("posix",p)]⟩) (F8 C x [("posix",p)]) R [(26,instObj C s.heap.objs.size),(1,instObj C s.heap.objs.size)] s=Ab prog w K A R s C aI x [("posix",p)]
def X4(K:Frag)(C f q aI:Addr):Prop:=∀(prog:Program)(w:World)(A:Around)(R:Result→Shared→Prop)(s:Shared)(x:Value),Ao prog w A K (Cp C f aI) 9 (.call (.ref C) ⟨[x],[]⟩) (F8 C x []) R [] s=Aa prog w K A R s C f q aI x
def zK(w:World)(s:Shared)(C:Addr)(x:Value)(P:(f1 f2 f3:Obj→Obj)→Prop):Prop:=P (ID w "cls" s.toks (.ref C)) (ID w "args" (s.toks+1) (.ref s.heap.objs.size)) (ID w "kwargs" (s.toks+1+1) (.ref (s.heap.push (IG x)).objs.size))
def T3(K:Frag)(C f:Addr):Prop:=∀(prog:Program)(w:World)(R:Result→Shared→Prop)(s:Shared)(x:Value),zK w s C x fun f1 f2 f3 =>
 Ak K f (fun fd body=>(!fd.scope.isCoroutine&&(!fd.scope.isGenerator&&i4 K fd.qualname fd.code))=true∧Aq prog w K (fun _=>none) 9 fd body f ⟨[.ref C,x],[]⟩ R [(0,m8),(0,f1 m8),(0,f2 (f1 m8)),(0,f3 (f2 (f1 m8))),(3,f3 (f2 (f1 m8))),(3,f3 (f2 (f1 m8)))] s) =
  (true=true∧X0 K R s C ((s.heap.push (IG x)).push emptyDict).objs.size (((s.heap.push (IG x)).push emptyDict).push m8) f1 f2 f3)
theorem z6{e:Data}{f:FuncData→Prop}(h:nQ e f):∃ a,e = .func a∧f a:=by
 by_cases c:e.ctorIdx=7
 ·exact Data.func.elim (motive:=fun e=>nQ e f→∃ a,e = .func a∧f a) e c (fun a h=>⟨a,rfl,h⟩) h
 ·rw[nQ,dif_neg c]at h; exact h.elim
theorem HI{e:FuncBody}{f:List Stmt→Prop}(h:n6 e f):∃ a,e = .stmts a∧f a:=by
 by_cases c:e.ctorIdx=0
 ·exact FuncBody.stmts.elim (motive:=fun e=>n6 e f→∃ a,e = .stmts a∧f a) e c (fun a h=>⟨a,rfl,h⟩) h
 ·rw[n6,dif_neg c]at h; exact h.elim
theorem CD{K:Frag}{f:Addr}{P:FuncData→List Stmt→Prop}(x:Ak K f P):∃ o fd body,K.lookup f=some o∧o.data = .func fd∧fd.body = .stmts body∧P fd body :=
 let⟨o,e,x⟩:=nF x; let⟨fd,e1,x⟩:=z6 x; let⟨b,e2,x⟩:=HI x; ⟨o,fd,b,e,e1,e2,x⟩
theorem uN{h:Heap}{q:Str}{v:Value}(x:∃ c oc vs t,v = .ref c∧h.get? c=some oc∧oc.cls ≠ .none∧oc.data = .fields vs∧vs[1]? = some (.str q t)):h.CodeRec v q:=by
 obtain⟨c,oc,vs,t,a1,a2,_,r⟩:=x
 exact⟨c,oc,vs,t,a1,a2,r⟩
theorem Z5{d:PyData}(h:d.ctorIdx=0):d = .none:=by cases d <;> first | rfl | cases h
section
variable{Z:aE}{cA fA:Nat→Option Addr}{cl:jB}{lvl c:Nat}{K:Frag}{μ:List Addr}{st st':St}{A:Around}{s:Shared}{C:Addr}
theorem Cs{a b k:Nat}(hk:1≤k):a+1+b≤a+(b+k):=by rw[Nat.add_assoc,Nat.add_comm 1]; exact Nat.add_le_add_left (Nat.add_le_add_left hk b) a
theorem w0{l:Nat}{x:Value}{kw:List (Str×Value)}(h:fJ Z (l+3) A):fJ Z l (A.under (F8 C x kw)) :=
 ⟨h.handled,Nat.lt_of_le_of_lt (Nat.add_le_add_right (Cs (a:=A.depth) (b:=l) (k:=3) (by decide)) 20) h.depth,Nat.lt_of_le_of_lt (Nat.add_le_add_right (Cs (a:=A.units) (b:=3*l) (k:=9) (by decide)) 200) h.units,h.frames⟩
theorem QN{x dx:Addr}{h':Heap}{l:Nat}(hl:μ.length=l)(hC:cA c=some C)(g1:h'.get? x=some (instObj C dx))(g2:h'.get? dx=some emptyDict)(i:Nat)(b:Addr)(f:FO)(h1:[x,dx][i]? = some b)(h2:[FO.inst c,.dict []][i]? = some f):GD cA (μ++[x,dx]) h' (l+i) b f:=by
 cases i with
 | zero =>
  cases h1; cases h2
  exact⟨C,dx,hC,by subst hl; exact(List.getElem?_append_right (Nat.le_succ μ.length)).trans (congrArg ([x,dx][·]?) (Nat.add_sub_cancel_left (n:=μ.length) (m:=1))),g1⟩
 | succ i =>
  cases i with
  | zero=>cases h1; cases h2; exact⟨#[],0,#[],g2,.nil,Nat.zero_le _⟩
  | succ i=>cases h1
theorem QO{i:Nat}{xs:List OV}{v:OV}(he:newO cl c i xs st=some (v,st')):v = .o st.length∧cl i (.o st.length::xs) (st++[.inst c,.dict []])=some (.d .none,st'):=aT he fun r hd he=>jY he fun d ed he=>iO he fun hd0 he =>
 have h:OV.o st.length=v∧r.2=st':=Prod.mk.inj (Option.some.inj he)
 ⟨h.1.symm,hd.trans (congrArg some (Prod.ext (ed.trans (congrArg OV.d (Z5 hd0))) h.2))⟩
theorem XT{fI:Nat}{aI x dx:Addr}{tk:Tok}{h':Heap}{vs:List Value}{args:List OV}{v:OV}{R:Result→Shared→Prop}(hCl:bZ Z cA cl lvl fA)(hK:∀ h,Z.TabI h→K.In h)(hC:cA c=some C)(hfA:fA fI=some aI)(hI:bB Z s)(hsz:Z.n≤s.heap.objs.size)(S:l7 Z cA μ st s.heap)(hA:fJ Z (8*lvl) A)
  (hb:∀ b∈[x,dx],s.heap.objs.size≤b) (hne:x≠dx) (hk:∀ b o,s.heap.get? b=some o→h'.get? b=some o) (g1:h'.get? x=some (instObj C dx)) (g2:h'.get? dx=some emptyDict) (hvs:gT μ vs args)
  (he:newO cl c fI args st=some (v,st')) (hR:gW Z cA μ s.heap st' v (fun w s'=>R (.ok (.ret w)) s')) :
  codeAny (model Z.prog Z.w) A (.call (.ref aI) (j6 fI (.ref x::vs))) (fun r s'=>∃ _ _:Addr,r = .ok (.ret .none)∧K.In s'.heap∧R (.ok (.ret (.ref x))) s') { s with heap:=h',toks:=tk }:=by
 obtain⟨rfl,hd⟩:=QO he
 have a:=(dF.here (L:=jX) hI S).mores (bs:=[x,dx]) (fs:=[.inst c,.dict []]) (tk:=tk) rfl (List.nodup_cons.mpr ⟨fun h=>hne (List.mem_singleton.mp h),List.nodup_cons.mpr ⟨nofun,.nil⟩⟩) (fun b h=>⟨get?_ge (hb b h),⟨Nat.le_trans hsz (hb b h),hI.frLt (hb b h)⟩,id⟩) hk (QN S.len hC g1 g2)
 have ho:VE (μ++[x,dx]) (.ref x) (.o st.length):=⟨x,by rw[← S.len,List.getElem?_append_right (Nat.le_refl _),Nat.sub_self]; rfl,rfl⟩
 refine hCl hfA hd hA a.i (Nat.le_trans hsz (Nat.le_trans (hb x List.mem_cons_self) (Nat.le_of_lt (Heap.lt_size g1)))) a.so (.cons ho (hvs.pre a.t.pre)) fun w s' μ' a' hw=>?_
 have hw:w = .none:=by cases hw.1; rfl
 subst hw
 exact⟨0,0,rfl,hK _ a'.i.tab,hR _ _ _ (a.trans a') (ho.pre a'.t.pre)⟩
theorem U8{aI:Addr}{args:List OV}{v:OV}{vs:List Value}{R:Result→Shared→Prop}(hCl:bZ Z cA cl lvl fA)(hK:∀ h,Z.TabI h→K.In h)(hC:cA 0=some C)(hfA:fA 19=some aI)(N:X5 K C aI)
  (hA:fJ Z (8*(lvl+2)) A) (hI:bB Z s) (hsz:Z.n≤s.heap.objs.size) (S:l7 Z cA μ st s.heap) (hvs:gT μ vs args) (he:kG args (fun x r=>kG r fun p r=>o7 r (newO cl 0 19 [x,p] st))=some (v,st'))
  (hR:gW Z cA μ s.heap st' v (fun w s'=>R (.ok (.ret w)) s')):codeAny (model Z.prog Z.w) A (.call (.ref C) (j6 18 vs)) R s :=
 mA he fun x r e1 he=>mA he fun p r' e2 he=>nL he fun e3 he=>by
 subst e3; subst e2; subst e1
 refine N6 (m:=fun vs=>codeAny (model Z.prog Z.w) A (.call (.ref C) (j6 18 vs)) R s) hvs fun w u hw hu=>?_
 have hx:(IM s.heap C).get? (s.heap.push emptyDict).objs.size=some (instObj C s.heap.objs.size):=Heap.get?_push_size _ rfl
 have hz:(s.heap.push emptyDict).objs.size=s.heap.objs.size+1:=Heap.size_push ..
 refine S0 (mk:=Cq aI) 9 _ _ hA.handled (hK _ hI.tab) (N Z.prog Z.w A R s w u) ⟨rfl,⟨rfl,Code.quiet_builtin _ (by decide +kernel)⟩,Code.quiet_builtin _ (by decide +kernel),hx,hx,?_⟩
 refine XT (tk:=s.toks) (vs:=[w,u]) hCl hK hC hfA hI hsz S (w0 (hA.mono (by show 8*lvl+3≤8*lvl+8+8; exact Nat.add_le_add_left (show 3≤16 by decide) (8*lvl)))) (fun b hb=>?_) (fun e=>Nat.succ_ne_self _ (hz.symm.trans e)) (fun b o e=>Heap.get?_push_of_some _ (Heap.get?_push_of_some _ e)) hx (Heap.get?_push_of_some _ (Heap.get?_push_size _ rfl)) (.cons hw (.cons hu .nil)) he hR
 exact(List.mem_cons.mp hb).elim (fun e=>e▸hz▸Nat.le_succ _) fun hb=>List.mem_singleton.mp hb▸Nat.le_refl _
theorem oB{h h':Heap}{L:Addr}{f:Obj→Obj}(hk:∀ b o,h.get? b=some o→h'.get? b=some o)(hn:h.get? L=none)(b:Addr)(o:Obj)(e:h.get? b=some o):(h'.update L f).get? b=some o:=(Heap.get?_update_other _ _ fun e'=>by rw[← e',hn]at e; cases e).trans (hk b o e)
theorem QP{L:Addr}{h0:Heap}{f1 f2 f3:Obj→Obj}{R:Result→Shared→Prop}(hK:∀ h,Z.TabI h→K.In h)(hI:bB Z s)(hL:h0.get? L=some m8)(hk:∀ b o,s.heap.get? b=some o→h0.get? b=some o)(hn:s.heap.get? L=none)(hz:s.heap.objs.size≤L)(e1:(f1 m8).isFreed=false)(e2:(f2 (f1 m8)).isFreed=false)(e3:(f3 (f2 (f1 m8))).isFreed=false)
  (hR:∀ h' tk y d,(∀ b o,s.heap.get? b=some o→h'.get? b=some o)→(∀ b∈[y,d],s.heap.objs.size≤b)→y≠d→h'.get? y=some (instObj C d)→h'.get? d=some emptyDict→R (.ok (.ret (.ref y))) { s with heap:=h',toks:=tk }):X0 K R s C L h0 f1 f2 f3:=by
 have I:∀{h:Heap},(∀ b o,s.heap.get? b=some o→h.get? b=some o)→bB Z { s with heap:=h,toks:=0 }:=fun hk=>hI.full hk
 have k1:=oB (f:=f1) hk hn
 have k2:=oB (f:=f2) k1 hn
 have k3:=oB (f:=f3) k2 hn
 have g1:=Heap.get?_update_self f1 hL e1
 have g2:=Heap.get?_update_self f2 g1 e2
 have g3:=Heap.get?_update_self f3 g2 e3
 refine⟨hL,⟨by rw[hL]; rfl,hK _ (I k1).tab⟩,g1,⟨by rw[g1]; rfl,hK _ (I k2).tab⟩,g2,⟨by rw[g2]; rfl,hK _ (I k3).tab⟩,(I k3).lim,g3,g3,Code.quiet_builtin _ (by decide +kernel),g3,Code.quiet_builtin _ (by decide +kernel),?_⟩
 have hs:=Nat.le_trans hz (Nat.le_of_lt (Heap.lt_size g3))
 generalize ((h0.update L f1).update L f2).update L f3=h3 at k3 hs
 have hz:(h3.push emptyDict).objs.size=h3.objs.size+1:=Heap.size_push ..
 exact hR _ _ _ h3.objs.size (fun b o e=>Heap.get?_push_of_some _ (Heap.get?_push_of_some _ (k3 b o e))) (fun b hb=>(List.mem_cons.mp hb).elim (fun e=>e▸hz▸Nat.le_succ_of_le hs) fun hb=>List.mem_singleton.mp hb▸hs) (fun e=>Nat.succ_ne_self _ (hz.symm.trans e)) (Heap.get?_push_size _ rfl) (Heap.get?_push_of_some _ (Heap.get?_push_size _ rfl))
theorem H5{f:Addr}{x:Value}{R:Result→Shared→Prop}(N:T3 K C f)(hh:A.handled=none)(hroom:A.depth<recursionLimit)(hK:∀ h,Z.TabI h→K.In h)(hI:bB Z s)
  (hR:∀ h' tk y d,(∀ b o,s.heap.get? b=some o→h'.get? b=some o)→(∀ b∈[y,d],s.heap.objs.size≤b)→y≠d→h'.get? y=some (instObj C d)→h'.get? d=some emptyDict→R (.ok (.ret (.ref y))) { s with heap:=h',toks:=tk }) :
  codeAny (model Z.prog Z.w) A (.call (.ref f) ⟨[.ref C,x],[]⟩) R s:=by
 have X:=hK _ hI.tab
 have hk:∀ b o,s.heap.get? b=some o→(((s.heap.push (IG x)).push emptyDict).push m8).get? b=some o:=fun b o e=>Heap.get?_push_of_some _ (Heap.get?_push_of_some _ (Heap.get?_push_of_some _ e))
 have hz:s.heap.objs.size≤((s.heap.push (IG x)).push emptyDict).objs.size:=by rw[Heap.size_push,Heap.size_push]; exact Nat.le_add_right _ 2
 have e:=(N Z.prog Z.w R s x).mpr ⟨rfl,QP hK hI (Heap.get?_push_size _ rfl) hk (get?_ge hz) hz rfl rfl rfl hR⟩
 obtain⟨o,fd,body,h1,h2,h3,h4,e⟩:=CD e
 obtain⟨h5,h4⟩:=aA h4
 obtain⟨h6,h7⟩:=aA h4
 exact SR hh X hroom (X _ _ h1) h2 (bJ h5) (bJ h6) h3 (uN (xQ X h7)) e
theorem Y0{f q aI:Addr}{args:List OV}{v:OV}{vs:List Value}{R:Result→Shared→Prop}(hCl:bZ Z cA cl lvl fA)(hK:∀ h,Z.TabI h→K.In h)(hC:cA 1=some C)(hfA:fA 3=some aI)(N:X4 K C f q aI)(N2:T3 K C f)
  (hA:fJ Z (8*(lvl+2)) A) (hI:bB Z s) (hsz:Z.n≤s.heap.objs.size) (S:l7 Z cA μ st s.heap) (hvs:gT μ vs args) (he:kG args (fun x r=>o7 r ((nA x).bind fun _=>newO cl 1 3 [x] st))=some (v,st'))
  (hR:gW Z cA μ s.heap st' v (fun w s'=>R (.ok (.ret w)) s')):codeAny (model Z.prog Z.w) A (.call (.ref C) (j6 9 vs)) R s :=
 mA he fun x r e1 h1=>nL h1 fun e2 h2=>aT h2 fun _ _ h3=>by
 subst e2; subst e1
 refine qT (m:=fun vs=>codeAny (model Z.prog Z.w) A (.call (.ref C) (j6 9 vs)) R s) hvs fun w hw=>?_
 have hA1:fJ Z (8*lvl) (A.under (F8 C w [])):=w0 (hA.mono (Nat.add_le_add_left (show 3≤16 by decide) (8*lvl)))
 exact S0 (mk:=Cp C f aI) 9 _ _ hA.handled (hK _ hI.tab) (N Z.prog Z.w A R s w) ⟨rfl,⟨rfl,Code.quiet_builtin _ (by decide +kernel)⟩,Code.quiet_builtin _ (by decide +kernel),Code.quiet_builtin _ (by decide +kernel),
  H5 (s:={ s with toks:=s.toks+1 }) N2 hA1.handled (Nat.lt_of_le_of_lt (Nat.le_trans (Nat.le_add_right _ _) (Nat.le_add_right _ _)) hA1.depth) hK (hI.tok _) fun h' tk y d hk hb hne g1 g2=>⟨y,d,rfl,(hK _ hI.tab).keeps hk,g1,g1,
   XT (s:={ s with toks:=s.toks+1 }) (tk:=tk) (vs:=[w]) hCl hK hC hfA (hI.tok _) hsz S hA1 hb hne hk g1 g2 (.cons hw .nil) h3 hR⟩⟩
end
def S7(K:Frag)(a:Addr):Prop:=∀(S:Setting)(l x p:Value),fC (K.lookup a) fun o=>nQ o.data fun fd=>peek K S (vO fd ⟨[l,x],[("posix",p)]⟩)=some ((cW.take dZ.arity).zip [l,x,.none,p,.bool false])
def KZ(K:Frag)(C8 a8 C9 f9 q9 a9:Addr):Prop:=(pV K 0=some C8∧l6 K 19=some a8∧l6 K 18=some C8)∧(pV K 1=some C9∧l6 K 3=some a9∧l6 K 9=some C9)∧X5 K C8 a8∧(X4 K C9 f9 q9 a9∧T3 K C9 f9)∧S7 K a8
section
variable{Z:aE}{K:Frag}{xc:List Str→Nat→Scope→Expr→Bool}{fuel:Nat}
theorem U7{cl:jB}{lvl:Nat}{a:Addr}{fr:List Addr}{args:List OV}{st st':St}{v:OV}{A:Around}{s:Shared}{vs:List Value}{μ:List Addr}{R:Result→Shared→Prop}(hK:∀ h,Z.TabI h→K.In h)(hK0:K.In Z.h₀)(hlam:Z.lam=qX K)(hB:gD Z)(hC:∀ fr,bZ (Z.at fr) (pV K) cl lvl (l6 K))(hX:tI Z (pV K) (l6 K) xc (eG fuel))
  (hck:eK K (fun sc body=>eJ K (pV K) (l6 K) (xc cW) cW sc dZ.body body) a cW dZ=true) (hbo:gE K a cW dZ) (N:S7 K a) (hA:fJ (Z.at fr) (8*(lvl+2)) A) (hI:bB (Z.at fr) s) (hsz:Z.n≤s.heap.objs.size) (S:l7 (Z.at fr) (pV K) μ st s.heap) (hvs:gT μ vs args)
  (he:kG args (fun l r=>kG r fun x r=>kG r fun p r=>o7 r (eH (bO cl (eG fuel cl) fuel dZ.body [some l,some x,some (.d .none),some p,some (.d (.bool false)),none] st)))=some (v,st')) (hR:gW (Z.at fr) (pV K) μ s.heap st' v (fun w s'=>R (.ok (.ret w)) s')):codeAny (model Z.prog Z.w) A (.call (.ref a) (j6 19 vs)) R s :=
 mA he fun l r e1 he=>mA he fun x r' e2 he=>mA he fun p r'' e3 he=>nL he fun e4 he=>by
 subst e4; subst e3; subst e2; subst e1
 refine TG (m:=fun vs=>codeAny (model Z.prog Z.w) A (.call (.ref a) (j6 19 vs)) R s) hvs fun lv ws hl hvs=>N6 (m:=fun ws=>codeAny (model Z.prog Z.w) A (.call (.ref a) (j6 19 (lv::ws))) R s) hvs fun w u hw hu=>?_
 obtain⟨fd,body,F,hck⟩:=dS hlam hK hK0 hbo hck
 have hb:BindsTo s fd ⟨[lv,w],[("posix",u)]⟩ ((cW.take dZ.arity).zip [lv,w,.none,u,.bool false]):=kp_binds (hK _ hI.tab) fun S=>by
  obtain⟨o,e,h⟩:=nF (N S lv w u)
  obtain⟨fd',e',h⟩:=z6 h
  obtain⟨o',ho,_,hd⟩:=F.obj
  cases(hK0 _ _ e).symm.trans ho
  cases e'.symm.trans hd
  rw[t4]
  exact h
 exact qL (D:=⟨Z.at fr,pV K,cl,eG fuel cl,lvl+1,cW⟩) (xc:=xc cW) (fun fr'=>⟨hK,hK0,hB,bZ.up (hC fr') (Nat.le_succ _),fun j sc e hx=>hX cl lvl hC fr' cW j sc e hx⟩) (eZ.at (D:=⟨Z,pV K,cl,eG fuel cl,lvl+1,cW⟩) F fr) hck hb rfl
  (EL (xs:=[l,x,.d .none,p,.d (.bool false)]) (k:=1) (.cons hl (.cons hw (.cons nM (.cons hu (.cons ⟨.bool false,rfl⟩ .nil)))))) he hA hI hsz S hR
theorem QI{C8 a8 C9 f9 q9 a9:Addr}(hK:∀ h,Z.TabI h→K.In h)(hK0:K.In Z.h₀)(hlam:Z.lam=qX K)(hB:gD Z)(hO:KZ K C8 a8 C9 f9 q9 a9)(hck:eK K (fun sc body=>eJ K (pV K) (l6 K) (xc cW) cW sc dZ.body body) a8 cW dZ=true)(hbo:gE K a8 cW dZ)(hX:tI Z (pV K) (l6 K) xc (eG fuel)) :
  F6 Z (pV K) (l6 K) D5 (I5 fuel):=fun cl lvl hC{fr f a args st v st'}_ hf he{A s vs μ R}hA hI hsz S hvs hR=>by
 obtain⟨⟨k1,k2,k3⟩,⟨k4,k5,k6⟩,n8,⟨n9,m9⟩,n19⟩:=hO
 unfold I5 at he
 by_cases c9:f=9
 ·rw[if_pos c9]at he
  subst c9
  cases k6.symm.trans hf
  exact Y0 (Z:=Z.at fr) (hC fr) hK k4 k5 n9 m9 hA hI hsz S hvs he hR
 ·rw[if_neg c9]at he
  by_cases c18:f=18
  ·rw[if_pos c18]at he
   subst c18
   cases k3.symm.trans hf
   exact U8 (Z:=Z.at fr) (hC fr) hK k1 k2 n8 hA hI hsz S hvs he hR
  ·rw[if_neg c18]at he
   by_cases c19:f=19
   ·rw[if_pos c19]at he
    subst c19
    cases k2.symm.trans hf
    exact U7 hK hK0 hlam hB hC hX hck hbo n19 hA hI hsz S hvs he hR
   ·rw[if_neg c19]at he; cases he
end
noncomputable def Dh(c:Nat)(d:Code):Option (Addr→Addr→Value×Sc):=match d with
 | .call v _=>(match v with | .builtin nn=>bif nn == "str.replace" then some (fun x _=>(.str (sA c) x,[]))else none | _=>none)
 | _=>none
def W0(prog:Program)(w:World)(K:Frag)(R:Result→Shared→Prop)(s:Shared)(p c:Nat)(tk:Tok)(L:Addr)(o1:Obj)(h1 h2:Heap):Prop :=
 h1.get? L=some m8∧((h1.get? L).isSome=true∧K.In h2)∧h2.NoLimit∧h2.get? L=some o1∧qb "str.__len__" [.str ⟨#[c]⟩ tk]∧h2.get? L=some o1∧qb "re.Pattern.search" [.ref p,.str ⟨#[c]⟩ tk] ∧
  bif fK c then h2.get? L=some o1∧R (.ok (.ret (.str ⟨#[c]⟩ tk))) { s with heap:=h2,toks:=s.toks+1+1+1 }
  else((h2.push TT).push (TU (.str ⟨#[c]⟩ tk) p h2.objs.size)).get? L=some o1∧∀ A:Around,A.handled=none→codeAny (model prog w) A (.call (.builtin "str.replace") ⟨[.str ⟨#[c]⟩ tk,.str "'" (s.toks+4),.str "'\"'\"'" (s.toks+5)],[]⟩)
   (fun r s'=>∃ x _:Addr,r = .ok (.ret (.str (sA c) x))∧K.In s'.heap∧qb "str.__add__" [.str "'" (s.toks+3),.str (sA c) x]∧qb "str.__add__" [.str ("'" ++ sA c) s'.toks,.str "'" (s'.toks+1)]∧R (.ok (.ret (.str ("'" ++ sA c ++ "'") (s'.toks+2)))) { s' with toks:=s'.toks+3 })
   { s with heap:=(h2.push TT).push (TU (.str ⟨#[c]⟩ tk) p h2.objs.size),toks:=s.toks+6 }
def JS(K:Frag)(a p c:Nat):Prop:=∀(prog:Program)(w:World)(R:Result→Shared→Prop)(s:Shared)(tk:Tok),
 Ak K a (fun fd body=>(!fd.scope.isCoroutine&&(!fd.scope.isGenerator&&i4 K fd.qualname fd.code))=true∧Aq prog w K (Dh c) 9 fd body a ⟨[.str ⟨#[c]⟩ tk],[]⟩ R [(0,m8),(0,ID w "s" s.toks (.str ⟨#[c]⟩ tk) m8),(1,ID w "s" s.toks (.str ⟨#[c]⟩ tk) m8),(7,ID w "s" s.toks (.str ⟨#[c]⟩ tk) m8)] s) =
  (true=true∧W0 prog w K R s p c tk s.heap.objs.size (ID w "s" s.toks (.str ⟨#[c]⟩ tk) m8) (s.heap.push m8) ((s.heap.push m8).update s.heap.objs.size (ID w "s" s.toks (.str ⟨#[c]⟩ tk))))
def GM(K:Frag)(a p:Nat):Prop:=∀ c,jC c=true→JS K a p c
noncomputable def qS(c:Nat):Str:=bif fK c then⟨#[c]⟩else "'" ++ sA c ++ "'"
theorem DB{prog:Program}{w:World}{K:Frag}{A:Around}{s:Shared}{a p c:Nat}{tk:Tok}(N:GM K a p)(hc:jC c=true)(hh:A.handled=none)(hroom:A.depth<recursionLimit)(X:K.In s.heap)(hlim:s.heap.NoLimit) :
  codeAny (model prog w) A (.call (.ref a) ⟨[.str ⟨#[c]⟩ tk],[]⟩) (fun r s'=>(∃ u,r = .ok (.ret (.str (qS c) u)))∧Keeps s s') s:=by
 have hn:s.heap.get? s.heap.objs.size=none:=get?_ge (Nat.le_refl _)
 have hL:(s.heap.push m8).get? s.heap.objs.size=some m8:=Heap.get?_push_size _ rfl
 have k2:=oB (f:=ID w "s" s.toks (.str ⟨#[c]⟩ tk)) (fun b o e=>Heap.get?_push_of_some m8 e) hn
 have g2:=Heap.get?_update_self (ID w "s" s.toks (.str ⟨#[c]⟩ tk)) hL rfl
 have e:=(N c hc prog w (fun r s'=>(∃ u,r = .ok (.ret (.str (qS c) u)))∧Keeps s s') s tk).mpr ⟨rfl,hL,⟨by rw[hL]; rfl,X.keeps k2⟩,hlim.keeps k2,g2,Code.quiet_builtin _ (by decide +kernel),g2,Code.quiet_builtin _ (by decide +kernel),?_⟩
 ·obtain⟨o,fd,body,h1,h2,h3,h4,e⟩:=CD e
  obtain⟨h5,h4⟩:=aA h4
  obtain⟨h6,h7⟩:=aA h4
  exact SR hh X hroom (X _ _ h1) h2 (bJ h5) (bJ h6) h3 (uN (xQ X h7)) e
 ·unfold qS
  cases fK c with
  | true=>exact⟨g2,⟨_,rfl⟩,_,_,rfl,k2⟩
  | false =>
   refine⟨Heap.get?_push_of_some _ (Heap.get?_push_of_some _ g2),fun A hh=>H4 hc rfl fun t t'=>?_⟩
   have k4:=fun b o e=>Heap.get?_push_of_some (TU (.str ⟨#[c]⟩ tk) p ((s.heap.push m8).update s.heap.objs.size (ID w "s" s.toks (.str ⟨#[c]⟩ tk))).objs.size) (Heap.get?_push_of_some TT (k2 b o e))
   exact⟨t,0,rfl,X.keeps k4,Code.quiet_builtin _ (by decide +kernel),Code.quiet_builtin _ (by decide +kernel),⟨_,rfl⟩,_,_,rfl,k4⟩
noncomputable def wD(c:Nat):PyData:=.str ⟨#[c]⟩
theorem U6(c:Nat):(qS c).length≤7:=by
 unfold qS sA
 cases fK c with
 | true=>exact(show 1≤7 by decide)
 | false =>
  cases c==39 with
  | true=>exact Nat.le_of_ble_eq_true rfl
  | false=>exact(show 3≤7 by decide)
theorem YY{c:Nat}(h:bL (wD c)=true):PyData.strOk (qS c)=true:=by
 have hc:bL (.str ⟨#[c]⟩)=true:=h
 have h39:bL (.str "'")=true:=by kernel_rfl
 unfold qS sA
 cases fK c with
 | true=>exact(y1 hc).1
 | false =>
  cases c==39 with
  | true=>kernel_rfl
  | false=>exact(y1 (cH (x:=⟨#[39,c]⟩) (cH (x:=⟨#[39]⟩) h39 hc (Nat.le_of_ble_eq_true rfl)) h39 (Nat.le_of_ble_eq_true rfl))).1
theorem UJ(ts:List Str):∀ k:Nat,(∀ t∈ts,t.length≤7)→ts.foldl (fun n x=>n+x.length+(" " : Str).length) k≤k+8*ts.length:=by
 induction ts with
 | nil=>exact fun k _=>Nat.le_refl _
 | cons t ts ih=>exact fun k h=>Nat.le_trans (ih _ fun u hu=>h u (List.mem_cons_of_mem _ hu)) (by
   rw[List.length_cons,Nat.mul_succ,Nat.add_comm (8*ts.length),← Nat.add_assoc k]
   exact Nat.add_le_add_right (Nat.add_le_add_right (m:=k+7) (Nat.add_le_add_left (h t List.mem_cons_self) k) 1) _)
theorem wN{cs:List Nat}(hlen:cs.length≤900)(hok:cM (cs.map wD)=true):JoinOk " " (cs.map qS)=true∧bL (.str (Str.join " " (cs.map qS)))=true:=by
 have hj:JoinOk " " (cs.map qS)=true:=by
  unfold JoinOk Builtin.Str.tooLong
  rw[← Array.foldl_toList,Bool.not_eq_true',decide_eq_false_iff_not]
  refine Nat.not_lt.mpr (Nat.le_trans (UJ (cs.map qS) 0 fun t h=>?_) ?_)
  ·obtain⟨x,_,rfl⟩:=List.mem_map.mp h
   exact U6 x
  ·rw[List.length_map,Nat.zero_add]
   exact Nat.le_trans (Nat.mul_le_mul_left 8 hlen) (by decide)
 have hl:(Str.join " " (cs.map qS)).length≤sizeLine:=StrLaws.glued_eq_join _ _▸joinFit_length ((Bool.not_eq_true' _).mp hj)
 refine⟨hj,y4 (jN (by kernel_rfl) _ fun t h=>?_) hl⟩
 obtain⟨x,hx,rfl⟩:=List.mem_map.mp h
 exact YY (bV.mp hok (wD x) (List.mem_map_of_mem hx))
theorem LX{h:Heap}{vs:List Value}{cs:List Nat}{as:List Addr}(r:aR h vs (cs.map wD) as):vs.length=cs.length∧∀(i:Nat)(v:Value),vs[i]? = some v→∃ c t,cs[i]? = some c∧v = .str ⟨#[c]⟩ t:=by
 have hl:vs.length=cs.length:=(aS r).trans (List.length_map _)
 refine⟨hl,fun i v e=>?_⟩
 have hc:cs[i]? = some (cs[i]'(hl▸(List.getElem?_eq_some_iff.mp e).1)):=List.getElem?_eq_getElem _
 obtain⟨v',bs,e',r',_⟩:=eQ r ((List.getElem?_map ..).trans (congrArg (Option.map wD) hc))
 cases e.symm.trans e'
 obtain⟨t,ht⟩:=fF r'
 exact⟨_,t,hc,ht⟩
noncomputable def GG:List Str:=["split_command"]
noncomputable def IP:OF:=⟨1,1,[],.nil⟩
noncomputable def xL:List (Str×NameKind):=[((".0" : Str),.local),(("arg" : Str),.local),(("quote" : Str),.globalImplicit)]
noncomputable abbrev IQ(p1 p2 p3 p4 p5:Pos)(gsc:Scope)(gpos:Pos):Expr:=.GeneratorExp (.Call (.Name "quote" p1) [.Name "arg" p2] [] p3) [⟨.Name "arg" p4,.Name "split_command" p5,[],0⟩] gsc gpos
def AR(gp:Nat×Nat)(body:List Stmt):Prop:=∃(k0:Nat)(q0 apos p1 p2 p3 p4 p5 gpos pos rpos:Pos)(gsc:Scope),body=[.Return (some (.Call (.Attribute (.Constant (.str " ") k0 q0) "join" apos) [IQ p1 p2 p3 p4 p5 gsc gpos] [] pos)) rpos] ∧
 (apos.endLine==pos.line)=true∧(gpos.line=gp.1∧gpos.col=gp.2)∧gsc.names=xL∧gsc.kind = .function∧gsc.isCoroutine=false
def ON(K:Frag)(a c:Addr)(gp:Nat×Nat):Prop:=Ak K a fun fd body=>fd.code = .ref c∧AR gp body
theorem wA(n:Nat):passing (fun _=>true) n 0=List.range n:=by
 unfold passing
 rw[List.drop_zero,List.filter_eq_self]
 exact fun _ _=>rfl
theorem KC{h h':Heap}{P:Addr}(x:h.NoLimit)(hP:P≠cStatics)(hk:∀ b o,b≠P→h.get? b=some o→h'.get? b=some o):h'.NoLimit:=by
 obtain⟨mc,⟨o',es,ep,e,r⟩,b⟩:=x
 exact⟨mc,⟨o',es,ep,hk _ _ hP.symm e,r⟩,b⟩
section
variable{Z:aE}{K:Frag}{c P:Addr}{gp:Nat×Nat}{A:Around}{s:Shared}{E:Value→Shared→Prop}
theorem M8(GK:gZ Z K c P gp)(hI:bB Z s){env:Env}{pos:Pos}{q:Str}{sc:Scope}{Q:Value→Shared→Prop}(hcode:env.code = .ref c)(hp:pos.line=gp.1∧pos.col=gp.2)
  (h:∀ code h' tk,Heap.ExtBut P s.heap h'→s.heap.objs.size≤h'.objs.size→OldK Z.h₀ h'→iH P gp h'→Q code { s with heap:=h',toks:=tk }):wpAny (model Z.prog Z.w) A (genexprCode env pos q sc) Q E s:=by
 obtain⟨ps,hP,hps⟩:=GK.tab _ hI.tab
 have C:=pR GK.hd fun _ _ hc e=>hI.old.get_of_cls e hc
 rcases hps with rfl | ⟨cv,rfl⟩
 ·refine wpAny_genexprCodeX hcode (C.code hP (by simp[TriplesOk])) (C.tab hP) rfl fun c' h₃ tk₃ hx hge hlt _ _ htab _=>?_
  exact h _ h₃ tk₃ hx (Nat.le_trans hge (Nat.le_of_lt hlt)) (hI.old.step_table (GK.hd.tab GK.tab₀) (C.tab hP) htab hx GK.ne.2) ⟨_,htab.2,.inr ⟨.ref c',by rw[hp.1,hp.2]; rfl⟩⟩
 ·exact wpAny_genexprCode_hit (c':=cv) hcode (C.code hP (by simp[TriplesOk,rawInt])) (by simp[codeAmong,rawInt,hp.1,hp.2]) (h _ _ s.toks (fun _ _ _ e=>e) (Nat.le_refl _) hI.old ⟨_,hP,.inr ⟨cv,rfl⟩⟩)
theorem Q2{aq p0:Addr}{x:Nat}{tx:Tok}{m₂:Str→Option Value}{L:Addr}{code:Value}{env:Env}{p1 p2 p3:Pos}{gsc:Scope}(N:GM K aq p0)(hqn:Z.mg "quote" = some (.ref aq))(hqk:keepIn K (.ref aq)=true)(hx:jC x=true)(hn:gsc.names=xL)(hk:gsc.kind = .function)(hgl:env.globals=mainGlobals)
  (hh:A.handled=none) (hroom:A.depth<recursionLimit) (X:K.In s.heap) (hlim:s.heap.NoLimit) (hg:s.heap.Ns mainGlobals Z.mg) (hns:s.heap.Ns L m₂) (hm:m₂ "arg" = some (.str ⟨#[x]⟩ tx)) :
  wpAny (model Z.prog Z.w) A (eval (.Call (.Name "quote" p1) [.Name "arg" p2] [] p3) (genEnv gsc [] L code builtinsNs env)) (fun y s'=>(∃ u,y = .str (qS x) u)∧Keeps s s') E s:=by
 have l1:gsc.names.lookup ("quote" : Str)=some .globalImplicit:=by rw[hn]; decide
 have l2:gsc.names.lookup ("arg" : Str)=some .local:=by rw[hn]; decide
 rw[bX]
 refine wpAny_bind (Calls.Name_function_global hk l1 (Calls.loadGlobal_global (mg:=Z.mg) (by show s.heap.Ns env.globals Z.mg; rw[hgl]; exact hg) hqn ?_) (by decide))
 refine callWith_of (P:=K.In) (by rw[(aZ rfl).1]; rfl) (keeps_K hqk) (bW (Z:=Z) ((aZ rfl).2.1 nofun _ p3) ?_)
 rw[bF rfl]
 show wpAny _ _ (spliced ((false,eval (.Name "arg" p2) (genEnv gsc [] L code builtinsNs env))::backTo p3 (starEach [] (genEnv gsc [] L code builtinsNs env)))) _ _ _
 refine Calls.spliced_cons (wpAny_Name (wpAny_loadName_local hk l2 hns hm (Calls.spliced_nil ⟨X,wpAny_call (codeAny_mono (DB N hx hh hroom X hlim) fun r s' h=>?_)⟩)) (by decide))
 obtain⟨⟨u,rfl⟩,k⟩:=h
 exact⟨⟨u,rfl⟩,k⟩
theorem WX{h:Heap}{g bi:Addr}{Q:Addr→Shared→Prop}(B:h.BuiltinsAt Z.mg P)(hg:s.heap.Ns g Z.mg)(hk:∀ b o,b≠P→h.get? b=some o→s.heap.get? b=some o)(q:Q builtinsNs s):wpAny (model Z.prog Z.w) A (builtinsFor g bi) Q E s:=by
 obtain⟨bm,ob,hbm,hne0,_,hneP,hbo,hcls,hdict,hdata⟩:=B
 exact wpAny_builtinsFor hg hbm hne0 (hk _ _ hneP hbo) hcls hdict hdata q
noncomputable abbrev JG(l:Addr):Obj:={ cls:=.type "list_iterator",data:=.fields #[.ref l,.int 0 0] }
theorem V3{cs:List Nat}{n:Nat}{lst:List (Str×Tok)}(hn:n=cs.length)(h:ItemsOf (fun j y=>∃ i,(passing (fun _=>true) n 0)[j]? = some i∧∃ x u,cs[i]? = some x∧y = .str (qS x) u) (strValues lst).toArray (passing (fun _=>true) n 0).length):lst.map (·.1)=cs.map qS:=by
 rw[wA,List.length_range,hn]at h
 have hl:lst.length=cs.length:=by simpa [strValues]using h.1
 refine List.ext_getElem? fun j=>?_
 rcases Nat.lt_or_ge j lst.length with hj | hj
 ·obtain⟨i,hi,x,u,hx,he⟩:=h.2 j (.str (lst[j]'hj).1 (lst[j]'hj).2) (by simp[strValues,hj])
  rw[List.getElem?_range (hl▸hj)]at hi
  cases hi
  injection he with he1 _
  rw[List.getElem?_map,List.getElem?_map,hx,List.getElem?_eq_getElem hj,Option.map_some,Option.map_some,he1]
 ·rw[List.getElem?_eq_none (by rw[List.length_map]; exact hj),List.getElem?_eq_none (by rw[List.length_map,← hl]; exact hj)]
theorem M7(GK:gZ Z K c P gp)(hK:∀ h,Z.TabI h→K.In h){aq p0:Addr}(N:GM K aq p0)(hqn:Z.mg "quote" = some (.ref aq))(hqk:keepIn K (.ref aq)=true){cs:List Nat}(hcs:∀ x∈cs,jC x=true)(hlen:cs.length≤900)(hfit:JoinOk " " (cs.map qS)=true)
  {env:Env} {p1 p2 p3 p4 p5 gpos:Pos} {gsc:Scope} {l:Addr} {items:Array Value} {m:Str→Option Value} {t0:Tok} {Q:Value→Shared→Prop} (hp:gpos.line=gp.1∧gpos.col=gp.2) (hn:gsc.names=xL) (hk:gsc.kind = .function) (hco:gsc.isCoroutine=false)
  (hkd:env.scope.kind = .function) (hsc:env.kindOf "split_command" = some .local) (hns:s.heap.Ns env.locals m) (hm:m "split_command" = some (.ref l)) (hl:s.heap.IsList l items) (hcode:env.code = .ref c) (hgl:env.globals=mainGlobals)
  (hA:A.handled=none) (hroom:A.depth+1<recursionLimit) (hI:bB Z s) (hsz0:Z.n≤s.heap.objs.size) (hPl:l≠P) (hil:items.size=cs.length) (hiw:∀(i:Nat)v,items[i]? = some v→∃ x t,cs[i]? = some x∧v = .str ⟨#[x]⟩ t)
  (hQ:∀ s' t,bB Z s'→(∀ b o,b≠P→s.heap.get? b=some o→s'.heap.get? b=some o)→Q (.str (Str.join " " (cs.map qS)) t) s') :
  wpAny (model Z.prog Z.w) A (eval (IQ p1 p2 p3 p4 p5 gsc gpos) env) (fun g s'=>wpAny (model Z.prog Z.w) A (call (.builtin "str.join") [.str " " t0,g]) Q E s') E s:=by
 have hclo:closureFor gsc env=pure []:=by unfold closureFor; rw[hn]; rfl
 refine wpAny_GeneratorExp_walksQD (cl:=[]) hA hco hclo (by rw[hn]; decide) (by rw[hn]; decide) (by rw[hn]; decide) hk (Nat.lt_of_succ_lt hroom) ?_ (fun _=>rfl)
 refine wpAny_Name (wpAny_loadName_local hkd hsc hns hm ?_) (by decide)
 have I2:bB Z { s with heap:=s.heap.push (JG l) }:=hI.push _ s.toks
 refine wpAny_pyIter_list hl ⟨I2.lim,M8 GK I2 hcode hp fun code h₃ tk₃ hx hsz hold htab=>?_⟩
 have hit:=Heap.get?_push_size (h:=s.heap) (o:=JG l) rfl
 have hPs:P<s.heap.objs.size:=let⟨_,e,_⟩:=GK.tab _ hI.tab; Heap.lt_size e
 have hlt:l<s.heap.objs.size:=let⟨_,e,_⟩:=hl; Heap.lt_size e
 have hk3:∀ b o,b≠P→s.heap.get? b=some o→h₃.get? b=some o:=fun b o hb e=>hx b o hb (Heap.get?_push_of_some _ e)
 have hs3:s.heap.objs.size<h₃.objs.size:=Nat.lt_of_lt_of_le (Heap.size_push s.heap (JG l)▸Nat.lt_succ_self _) hsz
 refine WX (CT GK.bm hI.old) (by rw[hgl]; exact hI.glob.at' fun o e=>hk3 _ o GK.ne.1.symm e) hk3 ?_
 refine⟨s.heap.objs.size,[s.heap.objs.size,l],[s.heap.objs.size],items.size,_,_,fun _=>true,fun i y=>∃ x u,cs[i]? = some x∧y = .str (qS x) u,rfl,fun A' hA'=>Walks.list hA' _ _ (Nat.ne_of_lt hlt) items,
  ⟨⟨_,hx _ _ (fun e=>Nat.ne_of_lt hPs e.symm) hit,rfl,rfl⟩,let⟨o',e,r⟩:=hl; ⟨o',hk3 _ _ hPl e,r⟩⟩,fun b hb=>(List.mem_cons.mp hb).elim (fun e=>e▸hs3) fun hb=>(List.mem_singleton.mp hb).symm▸Nat.lt_trans hlt hs3,KC hI.lim GK.ne.2 hk3,fun h=>Nat.ne_of_lt (let⟨_,hn,_⟩:=hI.lim; hn.lt) (List.mem_singleton.mp h),
  fun href hhref=>⟨fun A' E' i v t m₂ _ _ _ _ _ _ _=>by rw[List.forIn_nil]; exact wpAny_pure ⟨rfl,_,_,rfl,fun _ _ e=>e⟩,fun A' E' i v t m₂ hA' hD _ hPi _ hns' hm' hk'=>?_⟩,fun a h₅ tk gs hgb hag hsz₅ hk₅ W hat=>?_⟩
 ·obtain⟨x,tx,hx',rfl⟩:=hiw i v hPi
  have hk2:∀ b o,b≠P→s.heap.get? b=some o→t.heap.get? b=some o:=fun b o hb e=>hk' b (List.mem_range.mpr (Nat.lt_trans (Heap.lt_size e) hs3)) (fun h=>Nat.ne_of_lt (Heap.lt_size e) (List.mem_singleton.mp h)) o (hhref b o (hk3 b o hb e))
  refine wpAny_mono (Q2 N hqn hqk (hcs x (List.mem_of_getElem? hx')) hn hk hgl hA' (Nat.lt_of_le_of_lt hD hroom) (fun b o e=>hk2 b o (fun e'=>nomatch (e'▸GK.out).symm.trans e) (hK _ hI.tab b o e)) (KC hI.lim GK.ne.2 hk2) (hI.glob.at' fun o e=>hk2 _ o GK.ne.1.symm e) hns' hm') (fun y s' h=>?_) fun _ _ e=>e
  obtain⟨⟨u,hu⟩,k⟩:=h
  exact⟨⟨x,u,hx',hu⟩,k⟩
 ·have hn':(passing (fun _=>true) items.size 0).length=cs.length:=by rw[wA,List.length_range,hil]
  have hge:∀ b∈[h₃.objs.size,s.heap.objs.size],s.heap.objs.size≤b:=fun b hb=>(List.mem_cons.mp hb).elim (fun e=>e▸Nat.le_of_lt hs3) fun hb=>List.mem_singleton.mp hb▸Nat.le_refl _
  refine SC.joinGen W.in4_2 (fun i s' st=>st.1.typeIs) hat (fun b hb=>?_) List.mem_cons_self (fun i v hv=>?_) (fun s'' lst hmo hit=>?_) (by rw[hn']; exact Nat.le_trans hlen (by decide))
  ·show b<h₅.objs.size
   rw[hsz₅]
   exact(List.mem_cons.mp hb).elim (fun e=>e▸Nat.lt_succ_self _) fun hb=>(List.mem_cons.mp hb).elim (fun e=>e▸Nat.lt_succ_of_lt hag) fun hb=>Nat.lt_succ_of_lt (Nat.lt_trans (List.mem_range.mp hb) hag)
  ·obtain⟨_,_,x,u,_,e⟩:=hv
   exact⟨_,_,e⟩
  ·rw[V3 hil hit,show Txt.join " " (cs.map qS)=Str.join " " (cs.map qS)from StrLaws.glued_eq_join _ _]
   have hm:∀ b o,b<s.heap.objs.size→h₅.get? b=some o→s''.heap.get? b=some o:=fun b o hb e=>hmo.heap b o (fun hw=>Nat.not_lt.mpr (hge b hw) hb) e
   have hkw:∀ b o,b≠P→s.heap.get? b=some o→s''.heap.get? b=some o:=fun b o hb e=>hm b o (Heap.lt_size e) (hk₅ b o (hk3 b o hb e))
   exact⟨hfit,fun t' k=>hQ _ _ (GK.inv hI hkw (OldK.stepOld (hold.step_keeps hk₅) fun b o hb e=>hm b o (Nat.lt_of_lt_of_le hb hsz0) e) ((htab.keeps hk₅).imp fun _ x=>x.imp_left (hm _ _ hPs)) (hmo.gens.bare (hI.gens.push hgb)) hmo.os) hkw⟩
theorem HT(hlam:Z.lam=qX K)(hK:∀ h,Z.TabI h→K.In h)(hK0:K.In Z.h₀)(GK:gZ Z K c P gp){a aq p0:Addr}(J:ON K a c gp)(hbo:gE K a GG IP)(hck:eK K (fun _ _=>true) a GG IP=true)(N:GM K aq p0)(hqn:Z.mg "quote" = some (.ref aq))(hqk:keepIn K (.ref aq)=true)
  {cs:List Nat} (hcs:∀ x∈cs,jC x=true) (hlen:cs.length≤900) {vs:List Value} {as:List Addr} {Q:Value→Shared→Prop} (hA:fJ Z 20 A) (hI:bB Z s) (hsz:Z.n≤s.heap.objs.size) (r:aR s.heap vs [.list (cs.map wD)] as) (hok:cM (cs.map wD)=true)
  (hQ:∀ v s',bB Z s'→Kp Z.n s.heap s'.heap→Rd s'.heap v (.str (Str.join " " (cs.map qS))) []→bL (.str (Str.join " " (cs.map qS)))=true→Q v s'):wpAny (model Z.prog Z.w) A (call (.ref a) vs) Q E s :=
 mP (m:=fun vs _=>wpAny (model Z.prog Z.w) A (call (.ref a) vs) Q E s) r fun v bs rv=>by
 obtain⟨l,items,n,sl,cs',rfl,hl,hr,_⟩:=eE rv
 obtain⟨hil,hiw⟩:=LX hr
 obtain⟨o,fd,body,j1,j2,j3,hcode,hjb⟩:=CD J
 obtain⟨fd',body',FF,_⟩:=dS hlam hK hK0 hbo hck
 obtain⟨o',f1,_,f3⟩:=FF.obj
 cases(hK0 _ _ j1).symm.trans f1
 cases j2.symm.trans f3
 cases j3.symm.trans FF.body
 obtain⟨k0,q0,apos,p1,p2,p3,p4,p5,gpos,pos,rpos,gsc,rfl,hline,hp,g3,g4,g5⟩:=hjb
 obtain⟨dv,hdv,hb⟩:=FF.bind
 cases hdv
 have hb:BindsTo s fd ⟨[.ref l],[]⟩ ((GG.take IP.arity).zip [.ref l]):=hb s [.ref l] hI.tab (Nat.le_refl _) (Nat.le_refl _)
 refine wpAny_call (B3 (D:=⟨Z,fun _=>none,fun _ _ _=>none,fun _ _ _=>none,1,GG⟩) (ρ:=[none]) (μ:=[]) (st:=[]) FF hb rfl (fun x v h=>by cases x with | zero=>cases h | succ x=>cases h) (hA.mono (show 8*(1+1)≤20 by decide)) hI hsz ⟨rfl,.nil,nofun,fun k x f h=>nomatch h⟩ fun env s₁ _ C out hx=>hx.2.2.elim fun m hm=>?_)
 have henv:=hx.1
 have hk1:=hx.2.1
 have hml:m "split_command" = some (.ref l):=hm.2 0 _ rfl
 have hP0:∀ b ob,s₁.heap.get? b=some ob→(ob.cls ≠ .none∨Z.n≤b)→b≠P:=fun b ob e h e'=>by
  obtain⟨ps,hP,_⟩:=GK.tab _ C.hi.tab
  subst e'
  cases hP.symm.trans e
  exact h.elim (fun h=>h rfl) fun h=>Nat.not_lt.mpr h (Heap.lt_size GK.tab₀)
 have hpl:aX [IQ p1 p2 p3 p4 p5 gsc gpos]:=aZ rfl
 refine wpAny_execs_cons (wpAny_Return_some (wpAny_Call_method_lateS (aQ rfl _ _ _) (jE hpl (Nat.le_of_ble_eq_true rfl)) hline ?_))
 rw[arm_eval_Constant]
 refine wpAny_mkText ⟨"str",_,F.plainAttrs_str,F.slot_str_join,F.type_str_join,typeIs_str _ _ _,nofun,aV nofun (hpl.1 env pos) (bW (Z:=Z) (hpl.2.1 nofun env pos) ?_)⟩
 rw[bF rfl]
 show wpAny _ _ (spliced ((false,eval (IQ p1 p2 p3 p4 p5 gsc gpos) env)::backTo pos (starEach [] env))) _ _ _
 refine Calls.spliced_cons (wpAny_mono (M7 (Z:=Z.at (env.locals::Z.fr)) (GK.at _) hK N hqn hqk hcs hlen (wN hlen hok).1 hp g3 g4 g5 (C.he.kind) (henv▸FF.params _ (by decide)) hm.1 hml ⟨_,hk1 _ _ hl,rfl,_,rfl⟩ (henv▸hcode) C.he.glob C.ha.handled (Nat.lt_of_le_of_lt (Nat.add_le_add (Nat.le_add_right _ _) (by decide:1≤20)) C.ha.depth) (C.hi.tok _) C.he.size (hP0 l _ (hk1 _ _ hl) (.inl nofun)) (hil▸rfl) (fun i v e=>hiw i v (Array.getElem?_toList▸e)) fun s' t I' hk'=>?_) (fun _ _ h=>Calls.spliced_nil h) fun _ _ e=>e)
 have o':=out (so:=[]) (μ':=[]) (s':=s') ⟨I',⟨List.prefix_rfl,fun b ob e h _ _=>.inl (hk' b ob (hP0 b ob e h) e),nofun⟩,⟨rfl,.nil,nofun,fun k x f h=>nomatch h⟩⟩
 exact hQ _ _ o'.i ⟨fun b ob e h=>o'.t.keep b ob e h nofun id⟩ (.str _ _) (wN hlen hok).2
end
theorem KU{p:Program}{loose:List Str}{mean:ExcName→Option Value}{mg mb:Str→Option Value}{h₀:Heap}{P:Addr}(T:Top p loose mean mg mb h₀)(hP:h₀.get? P=some (tabObj #[])):(P≠mainGlobals∧P≠cStatics)∧h₀.BuiltinsAt mg P:=by
 have hn:∀{a m},h₀.Ns a m→P≠a:=fun x e=>by
  obtain⟨o,es,ep,e1,e2,_⟩:=x
  rw[← e,hP]at e1; cases e1; cases e2
 obtain⟨mc,hc,_⟩:=T.nolimit
 refine⟨⟨hn T.g,hn hc⟩,?_⟩
 obtain⟨bm,ob,h1,h2,h3,h4,h5,h6⟩:=T.bmain
 refine⟨bm,ob,h1,h2,fun e=>?_,fun e=>?_,h3,h4,h5,h6⟩
 ·obtain⟨o,es,ep,e1,e2,_⟩:=T.g
  rw[← e,h3]at e1; cases e1; rw[h6]at e2; cases e2
 ·rw[e,hP]at h3; cases h3; cases h6
structure gI(Z:aE)(K:Frag)(lp gp:Nat×Nat)(c1 P1 c2 P2:Addr):Prop where
 hK:∀ h,Z.TabI h→K.In h
 hK0:K.In Z.h₀
 tab₀:Z.TabI Z.h₀
 lam:Z.lam = .ref c1
 lok:gZ Z K c1 P1 lp
 gok:gZ Z K c2 P2 gp
 mb:∀ x:Str,x ≠ "__name__" → Z.mb x=bootBuiltins x
theorem OP{prog:Program}{w:World}{p:Program}{loose:List Str}{mean:ExcName→Option Value}{mg mb:Str→Option Value}{s:Shared}{K:Frag}{lp gp:Nat×Nat}{c1 P1 c2 P2:Addr}(T:Top p loose mean mg mb s.heap)(X:K.In s.heap)(e1:s.heap.get? P1=some (tabObj #[]))(e2:s.heap.get? P2=some (tabObj #[]))
  (h1:codeHdIn K c1 P1=true) (h2:codeHdIn K c2 P2=true) (n1:K.lookup P1=none) (n2:K.lookup P2=none) (ne:P1≠P2) :
  ∃ Z:aE,gI Z K lp gp c1 P1 c2 P2∧(Z.prog=prog∧Z.w=w∧Z.h₀=s.heap∧Z.os=s.os)∧Z.mg=mg∧Z.fr=[]:=by
 have l1:=Heap.lt_size e1
 have l2:=Heap.lt_size e2
 refine⟨{
  prog:=prog,w:=w,h₀:=s.heap,os:=s.os,mg:=mg,mb:=mb,hg:=T.g,hb:=T.b,fr:=[],lam:=.ref c1
  TabI:=fun h=>K.In h∧iH P1 lp h∧iH P2 gp h
  tabK:=fun h h' x k=>⟨fun a o e=>k a o (Heap.lt_size (X a o e)) (x.1 a o e),x.2.1.imp fun _ y=>y.imp_left (k _ _ l1),x.2.2.imp fun _ y=>y.imp_left (k _ _ l2)⟩ },?_,⟨rfl,rfl,rfl,rfl⟩,rfl,rfl⟩
 obtain⟨a1,b1⟩:=KU T e1
 obtain⟨a2,b2⟩:=KU T e2
 exact{
  hK:=fun h x=>x.1
  hK0:=X
  tab₀:=⟨X,⟨_,e1,.inl rfl⟩,_,e2,.inl rfl⟩
  lam:=rfl
  lok:=⟨codeHd_of_K X h1,e1,n1,a1,b1,fun h x=>x.2.1,fun h h' x k t=>⟨fun a o e=>k a o (fun e'=>by rw[e',n1]at e; cases e) (x.1 a o e),t,x.2.2.imp fun _ y=>y.imp_left (k _ _ ne.symm)⟩⟩
  gok:=⟨codeHd_of_K X h2,e2,n2,a2,b2,fun h x=>x.2.2,fun h h' x k t=>⟨fun a o e=>k a o (fun e'=>by rw[e',n2]at e; cases e) (x.1 a o e),x.2.1.imp fun _ y=>y.imp_left (k _ _ ne),t⟩⟩
  mb:=T.builtins }
noncomputable def yT(K:Frag)(n:Str):Bool:=iB (K.lookup mainGlobals) fun o=>s8 o.data fun es _=>(nsFind es n).isNone
structure fH(K:Frag)(lp gp:Nat×Nat)(c1 P1 c2 P2:Addr)(C8 a8 C9 f9 q9 a9 aj aq p0:Addr):Prop where
 b:(([codeHdIn K c1 P1,codeHdIn K c2 P2,(K.lookup P1).isNone,(K.lookup P2).isNone,P1 != P2,qX K == .ref c1,SV K,s9.all (wH K (W5 lp)),(iD++sP).all fun x=>yT K x.1,yT K "ValueError",
  eK K (fun sc body=>eJ K (pV K) (l6 K) (W5 lp cW) cW sc dZ.body body) a8 cW dZ,eI K "join_shlex" == some (.ref aj),eK K (fun _ _=>true) aj GG IP,eI K "quote" == some (.ref aq),keepIn K (.ref aq)]:List Bool).all id)=true
 bd:(mK s9 fun p=>fC (l6 K p.1) fun a=>gE K a p.2.1 p.2.2)∧gE K a8 cW dZ∧gE K aj GG IP∧vM K (pV K)
 cls:KZ K C8 a8 C9 f9 q9 a9
 j:ON K aj c2 gp
 q:GM K aq p0
section
variable{Z:aE}{K:Frag}{lp gp:Nat×Nat}{c1 P1 c2 P2:Addr}{C8 a8 C9 f9 q9 a9 aj aq p0:Addr}
theorem wR(X:K.In Z.h₀){n:Str}(h:yT K n=true):Z.mg n=none:=by
 obtain⟨o,hk,h⟩:=eF h
 obtain⟨es,m,hd,h⟩:=E9 h
 obtain⟨o',es',ep,e,hd',_,hall⟩:=Z.hg
 cases(X _ _ hk).symm.trans e
 cases hd.symm.trans hd'
 exact(hall n).symm.trans (Option.isNone_iff_eq_none.mp h)
theorem RH:((iD++sP).all fun x=>bootBuiltins x.1==some x.2&&x.1 != ("__name__" : Str))=true:=by kernel_rfl
theorem rC(ZO:gI Z K lp gp c1 P1 c2 P2)(H:fH K lp gp c1 P1 c2 P2 C8 a8 C9 f9 q9 a9 aj aq p0){n:Str}{v:Value}(h:(n,v)∈iD++sP):Z.mg n=none∧Z.mb n=some v :=
 have h2:=aA (List.all_eq_true.mp RH _ h)
 ⟨wR ZO.hK0 (List.all_eq_true.mp (aJ H.b 8 rfl) _ h),(ZO.mb _ (bne_iff_ne.mp h2.2)).trans (eq_of_beq h2.1)⟩
theorem ZJ(ZO:gI Z K lp gp c1 P1 c2 P2)(H:fH K lp gp c1 P1 c2 P2 C8 a8 C9 f9 q9 a9 aj aq p0)(F lvl:Nat)(fr:List Addr):bZ (Z.at fr) (pV K) (aN F lvl) (2*lvl) (l6 K):=by
 have hB:gD Z:=fun n v h=>rC ZO H (List.mem_append_left _ h)
 have hl:Z.lam=qX K:=ZO.lam.trans (eq_of_beq (aJ H.b 5 rfl)).symm
 have hX:tI Z (pV K) (l6 K) (W5 lp) (eG F):=VX ZO.hK ZO.hK0 hl hB H.bd.2.2.2 ZO.lok ZO.lam (aJ H.b 6 rfl)
 exact fun{f a args st v st'}h1 h2{A s vs μ R}=>QC (fuel:=F) ZO.hK ZO.hK0 hB (KB hl ZO.hK ZO.hK0 H.bd.1 (aJ H.b 7 rfl)) (QI ZO.hK ZO.hK0 hl hB H.cls (aJ H.b 10 rfl) H.bd.2.1 hX) hX lvl fr h1 h2
end
noncomputable def xG:List PyData→Option (List Nat)
 | []=>some []
 | x::r=>qZ x fun s=>kG s.cps.toList fun c t=>o7 t ((xG r).map (c :: ·))
theorem vU:∀{xs:List PyData}{cs:List Nat},xG xs=some cs→xs=cs.map wD
 | [],_,h=>by cases h; rfl
 | x::r,cs,h=>j5 h fun s es h=>mA h fun c t ec h=>nL h fun et h=>b7 h fun cs' h1 e=>by
  have e2:s=⟨#[c]⟩:=congrArg Str.mk (Array.toList_inj.mp (ec.trans (congrArg (c :: ·) et)))
  rw[← e,es,e2,vU h1]; rfl
noncomputable def tC:List OV→Option (List PyData)
 | []=>some []
 | v::r=>qW v fun x=>if flat x&&bL x then(tC r).map (x :: ·)else none
noncomputable def pA(F:Nat)(x:Str):Option PyData:=(aN F 6 15 [.d (.str x)] []).bind fun r=>IL r.1 fun k=>fL r.2[k]? fun vs=>(tC vs).map .list
noncomputable def o9(F:Nat)(x:Str):Option PyData:=(aN F 6 14 [.d (.str x)] []).bind fun r=>qW r.1 fun d=>if flat d&&bL d then some d else none
noncomputable def zA(xs:List PyData):Option PyData:=(xG xs).bind fun cs=>if cs.all jC&&decide (cs.length≤900)then some (.str (Str.join " " (cs.map qS)))else none
noncomputable def IS(ded:List PyData→Option PyData)(xs ys:List PyData):Option PyData:=(ded [.list xs]).bind fun a=>(ded [.list ys]).bind fun b=>iS a fun xs'=>iS b fun ys'=>if PyData.depthAll xs'≤64 then some (.bool (iG xs' ys'))else none
noncomputable def D2(F:Nat)(ded:List PyData→Option PyData)(n:Str)(args:List PyData):Option PyData:=kG args fun x r =>
 if n = "split" then o7 r (qZ x (pA F))else if n = "translate" then o7 r (qZ x (o9 F))else if n = "join_shlex" then o7 r (iS x zA)
 else if n = "_compare_args_orderless" then kG r fun y r'=>o7 r' (iS x fun xs=>iS y fun ys=>IS ded xs ys)else none
theorem HY{μ:List Addr}{h:Heap}{vs:List Value}{xs:List OV}(hv:gT μ vs xs):∀{ds:List PyData},tC xs=some ds→aR h vs ds []∧cM ds=true∧ds.length=xs.length:=by
 induction hv with
 | nil=>intro ds hd; cases hd; exact⟨.nil,rfl,rfl⟩
 | @cons v x vs xs h1 _ ih =>
  exact fun{ds}hd=>jY hd fun d e hd=>iO hd fun hx hd=>b7 hd fun ds' h2 ed=>by
   obtain⟨g1,g2,g3⟩:=ih h2
   subst e; subst ed
   exact⟨.cons (as:=[]) (bs:=[]) (pX.rd h1 h).1 g1,Bool.and_eq_true_iff.mpr ⟨(aA hx).2,g2⟩,congrArg (· + 1) g3⟩
noncomputable def CP:List Str:=["first_args", "second_args", "first_unhashable", "second_unhashable", "t", "elem"]
noncomputable def XI(d:Nat)(pf:PF)(f:Nat):Option PF:=if f=d then some pf else none
noncomputable def w7(F d:Nat)(pf:PF):Nat→List PyData→Option PyData:=bH (XI d pf) (fun _ _=>none) F 1
def D7(K:Frag)(fn:List Str)(d:Nat):Prop:=mB K "_compare_args_orderless" CP 2∧((l6 K 15).isSome&&((l6 K 14).isSome&&tX K (fun sc body=>yR fn CP sc d body) "_compare_args_orderless" CP 2))=true
section
variable{Z:aE}{K:Frag}{lp gp:Nat×Nat}{c1 P1 c2 P2:Addr}{C8 a8 C9 f9 q9 a9 aj aq p0:Addr}{F:Nat}{fn:List Str}{d:Nat}
theorem Z4(hB:fE Z){tab:Nat→Option PF}{pf:PF}(hT:sR Z fn tab)(hd:tab d=some pf)(fr:List Addr):dX (Z.at fr) 1 fn (w7 F d pf) :=
 CR (Z:=Z) (c:=0) hB (fun f n pf' hn h=>iO h fun e h=>hT f n pf' hn (by rw[e,hd]; exact h)) (fun fr f n args dd _ _ h=>by cases h) 1 fr
theorem MW(ZO:gI Z K lp gp c1 P1 c2 P2)(H:fH K lp gp c1 P1 c2 P2 C8 a8 C9 f9 q9 a9 aj aq p0){fr:List Addr}{f:Nat}{a:Addr}(hf:l6 K f=some a)(hk:H9 f=[]){x:Str}{v:OV}{st':St}(h:aN F 6 f [.d (.str x)] []=some (v,st')){A:Around}{s:Shared}{vs:List Value}{as:List Addr}{Q E:Value→Shared→Prop}
  (hA:fJ (Z.at fr) 100 A) (hI:bB (Z.at fr) s) (hsz:Z.n≤s.heap.objs.size) (r:aR s.heap vs [.str x] as) (hok:cM [.str x]=true)
  (hQ:∀ w s' μ',dF (Z.at fr) (pV K) jX [] s.heap μ' st' s'→VE μ' w v→Q w s'):wpAny (model Z.prog Z.w) A (call (.ref a) vs) Q E s :=
 mP (m:=fun vs _=>wpAny (model Z.prog Z.w) A (call (.ref a) vs) Q E s) r fun u bs ru=>W7 (m:=fun u=>wpAny (model Z.prog Z.w) A (call (.ref a) [u]) Q E s) ru fun t=>by
 have:=ZJ ZO H F 6 fr hf h (A:=A) (s:=s) (vs:=[.str x t]) (μ:=[]) (R:=wants Q E) (hA.mono (show 8*(2*6)≤100 by decide)) hI hsz ⟨rfl,.nil,nofun,fun k x f h=>nomatch h⟩ (.cons (mM (aA hok).1) .nil) fun w s' μ' a g=>hQ w s' μ' a g
 rw[i8 hk]at this
 exact wpAny_call this
theorem ZN{fr:List Addr}{μ':List Addr}{st':St}{s s':Shared}(a:dF (Z.at fr) (pV K) jX [] s.heap μ' st' s'):Kp Z.n s.heap s'.heap:=⟨fun b o e c=>a.t.keep b o e c nofun id⟩
theorem CA(ZO:gI Z K lp gp c1 P1 c2 P2)(H:fH K lp gp c1 P1 c2 P2 C8 a8 C9 f9 q9 a9 aj aq p0):Z.lam=qX K:=ZO.lam.trans (eq_of_beq (aJ H.b 5 rfl)).symm
theorem zS(ZO:gI Z K lp gp c1 P1 c2 P2)(H:fH K lp gp c1 P1 c2 P2 C8 a8 C9 f9 q9 a9 aj aq p0){f:Nat}{pf:OF}(ht:D5 f=some pf)(hs:(l6 K f).isSome=true)(hk:H9 f=[]){n:Str}(hg:l6 K f=(eI K n).bind eY){x:Str}{d:PyData}{q:OV×St}
  (hq:aN F 6 f [.d (.str x)] []=some q) {fr:List Addr} (hr:∀{s s':Shared}{μ':List Addr}{w:Value},dF (Z.at fr) (pV K) jX [] s.heap μ' q.2 s'→VE μ' w q.1→∃ bs,Rd s'.heap w d bs∧bL d=true∧∀ y∈bs,∀ o,s.heap.get? y=some o→o.cls = .none):jG (Z.at fr) 100 n [.str x] d:=by
 obtain⟨a,ha⟩:=Option.isSome_iff_exists.mp hs
 obtain⟨_,fd,_,_,FF,_⟩:=KB (CA ZO H) ZO.hK ZO.hK0 H.bd.1 (aJ H.b 7 rfl) f pf a ht ha
 obtain⟨o,h1,h2,h3⟩:=FF.obj
 exact⟨a,o,fd,aT (hg.symm.trans ha) fun v hv h=>eM ZO.hK0 (hv.trans (congrArg some (YV h))),h1,h2,h3,fun A s vs as Q E hA hI hsz r hok hQ=>MW ZO H ha hk hq hA hI hsz r hok fun w s' μ' a' hv=>let⟨bs,g1,g2,g3⟩:=hr a' hv; hQ w bs s' a'.i (ZN a') g1 g2 fun y hy=>.inr (g3 y hy)⟩
theorem DD(ZO:gI Z K lp gp c1 P1 c2 P2)(H:fH K lp gp c1 P1 c2 P2 C8 a8 C9 f9 q9 a9 aj aq p0)(h1:(l6 K 15).isSome=true){x:Str}{d:PyData}(h:pA F x=some d)(fr:List Addr):jG (Z.at fr) 100 "split" [.str x] d :=
 aT h fun q hq h=>sI h fun k ek h=>RO h fun ws hw h=>b7 h fun ds hds e=>zS ZO H (f:=15) rfl h1 rfl rfl hq fun a' hv=>by
  subst e
  rw[ek]at hv
  obtain⟨b,items,n,sl,rfl,hb,g1,g2,g3,g4⟩:=a'.so.listAt hw hv
  obtain⟨r1,r2,r3⟩:=HY g2 hds
  exact⟨[b],.list g1 ⟨rfl,rfl⟩ rfl r1,Bool.and_eq_true_iff.mpr ⟨decide_eq_true (r3▸AG g4),r2⟩,fun y hy o e=>by
   rw[List.mem_singleton.mp hy,(a'.t.new b (List.mem_of_getElem? hb) nofun).2.1]at e
   cases e⟩
theorem DC(ZO:gI Z K lp gp c1 P1 c2 P2)(H:fH K lp gp c1 P1 c2 P2 C8 a8 C9 f9 q9 a9 aj aq p0)(h1:(l6 K 14).isSome=true){x:Str}{d:PyData}(h:o9 F x=some d)(fr:List Addr):jG (Z.at fr) 100 "translate" [.str x] d :=
 aT h fun q hq h=>jY h fun z ez h=>iO h fun hz e=>zS ZO H (f:=14) rfl h1 rfl rfl hq fun a' hv=>by
  cases e
  rw[ez]at hv
  exact⟨[],(pX.rd hv _).1,(aA hz).2,nofun⟩
theorem G4(ZO:gI Z K lp gp c1 P1 c2 P2)(H:fH K lp gp c1 P1 c2 P2 C8 a8 C9 f9 q9 a9 aj aq p0){xs:List PyData}{d:PyData}(h:zA xs=some d)(fr:List Addr):jG (Z.at fr) 100 "join_shlex" [.list xs] d :=
 aT h fun cs hcs h=>iO h fun hc e=>by
  obtain⟨fd',body',FF,_⟩:=dS (CA ZO H) ZO.hK ZO.hK0 H.bd.2.2.1 (aJ H.b 12 rfl)
  obtain⟨o',o1,o2,o3⟩:=FF.obj
  cases vU hcs
  cases e
  exact⟨aj,o',fd',eM ZO.hK0 (eq_of_beq (aJ H.b 11 rfl)),o1,o2,o3,fun A s vs as Q E hA hI hsz r hok hQ =>
   HT (Z:=Z.at fr) (CA (Z:=Z) ZO H) ZO.hK ZO.hK0 (ZO.gok.at fr) H.j H.bd.2.2.1 (aJ H.b 12 rfl) H.q (eM ZO.hK0 (eq_of_beq (aJ H.b 13 rfl))) (aJ H.b 14 rfl) (List.all_eq_true.mp (aA hc).1) (of_decide_eq_true (aA hc).2) (hA.mono (by decide)) hI hsz r (aA (aA hok).1).2 fun v s' I k r' ok'=>hQ v [] s' I k r' ok' nofun⟩
theorem LY(ZO:gI Z K lp gp c1 P1 c2 P2)(H:fH K lp gp c1 P1 c2 P2 C8 a8 C9 f9 q9 a9 aj aq p0)(L:D7 K fn d){tab:Nat→Option PF}{pf:PF}(hT:sR Z fn tab)(hd:tab d=some pf)(fr:List Addr){xs ys:List PyData}{dd:PyData}
  (h:IS (w7 F d pf d) xs ys=some dd):jG (Z.at fr) 100 "_compare_args_orderless" [.list xs,.list ys] dd :=
 aT h fun a1 h1 h=>aT h fun b1 h2 h=>iC h fun xs' ea h=>iC h fun ys' eb h=>iO h fun hdep e=>by
  obtain⟨a,o,fd,body,FI,hb⟩:=mC ZO.hK0 L.1 (aA (aA L.2).2).2
  cases e
  subst ea eb
  exact⟨a,o,fd,FI.name,FI.obj,FI.cls,FI.data,fun A s vs as Q E hA hI hsz r hok hQ =>
   yZ (Z:=Z.at fr) (lvl:=1) (fun n v h=>rC ZO H (List.mem_append_right _ h)) ⟨wR ZO.hK0 (aJ H.b 9 rfl),(ZO.mb _ (by decide)).trans (by kernel_rfl)⟩ (fun fr'=>Z4 (fun n v h=>rC ZO H (List.mem_append_right _ h)) hT hd fr') (FI.at fr) hb h1 h2 hdep (hA.mono (by decide)) hI hsz r hok hQ⟩
theorem TX{α:Type}{G c:Prop} [Decidable c] {a b:Option α} {d:α} (h:(if c then a else b)=some d) (k:c→a=some d→G) (k':b=some d→G):G:=by
 by_cases hc:c
 ·exact k hc ((if_pos hc).symm.trans h)
 ·exact k' ((if_neg hc).symm.trans h)
theorem xJ{fr:List Addr}{m n:Str}{as bs:List PyData}{d:PyData}(en:n=m)(e:as=bs)(p:jG (Z.at fr) 100 m bs d):jG (Z.at fr) 100 n as d:=e▸Eq.subst (motive:=fun m=>jG (Z.at fr) 100 m bs d) en.symm p
theorem HR(ZO:gI Z K lp gp c1 P1 c2 P2)(H:fH K lp gp c1 P1 c2 P2 C8 a8 C9 f9 q9 a9 aj aq p0)(L:D7 K fn d){tab:Nat→Option PF}{pf:PF}(hT:sR Z fn tab)(hd:tab d=some pf)(fr:List Addr) :
  CU (Z.at fr) 100 fn tab (fun f args=>(fn[f]?).bind fun n=>D2 F (w7 F d pf d) n args):=fun f n args dd hn _ h0 =>
 mA (show D2 F (w7 F d pf d) n args=some dd from(congrArg (Option.bind · _) hn).symm.trans h0) fun x r er h =>
  TX h (fun n1 h=>nL h fun e h=>j5 h fun y ey h=>xJ n1 (er.trans (congr (congrArg List.cons ey) e)) (DD ZO H (aA L.2).1 h fr)) fun h =>
  TX h (fun n1 h=>nL h fun e h=>j5 h fun y ey h=>xJ n1 (er.trans (congr (congrArg List.cons ey) e)) (DC ZO H (aA (aA L.2).2).1 h fr)) fun h =>
  TX h (fun n1 h=>nL h fun e h=>iC h fun y ey h=>xJ n1 (er.trans (congr (congrArg List.cons ey) e)) (G4 ZO H h fr)) fun h =>
  iO h fun n1 h=>mA h fun y r' er' h=>nL h fun e h=>iC h fun xs ex h=>iC h fun ys ey h=>xJ n1 (er.trans (congr (congrArg List.cons ex) (er'.trans (congr (congrArg List.cons ey) e)))) (LY ZO H L hT hd fr h)
end
theorem PA{h:Heap}{a:Addr}{P:Params}{vs:List Value}{ns:List Int}{d:WData}(hw:Well P h (.ref a) d)(hd:∃ xs,d = .list xs)(hl:h.IsList a vs.toArray)(hi:IntsAre vs ns):Rd h (.ref a) (.list (ns.map .int)) [a]:=by
 obtain⟨xs,rfl⟩:=hd
 cases hw with
 | list e _ =>
  obtain⟨o,e',_,n,hdt⟩:=hl
  cases e.symm.trans e'
  rw[(Data.seq.inj hdt).1]at e
  exact .list e ⟨rfl,rfl⟩ rfl (DA hi)
theorem P9(ns:List Int):cM (ns.map .int)=true:=bV.mpr fun d hd=>let⟨_,_,e⟩:=List.mem_map.mp hd; e▸rfl
theorem QU{prog:Program}{w:World}{p:Program}{loose:List Str}{mean:ExcName→Option Value}{mg mb:Str→Option Value}{K:Frag}{lp gp:Nat×Nat}{c1 P1 c2 P2:Addr}{C8 a8 C9 f9 q9 a9 aj aq p0:Addr}{fn:List Str}{d:Nat}{s₁:Shared}{specs:List pJ}{tab:Nat→Option PF}{pfd:PF}{F lvl f:Nat}
  (T:Top p loose mean mg mb s₁.heap) (X:K.In s₁.heap) (e1:s₁.heap.get? P1=some (tabObj #[])) (e2:s₁.heap.get? P2=some (tabObj #[])) (H:fH K lp gp c1 P1 c2 P2 C8 a8 C9 f9 q9 a9 aj aq p0) (L:D7 K fn d) (hsb:mK specs fun S=>mB K S.1 S.2.1 S.2.2.arity) (hs:specs.all (yL K fn)=true) (ht:∀ f n pf,fn[f]? = some n→tab f=some pf→∃ nm,(n,nm,pf)∈specs) (hd:tab d=some pfd) (hgens:AllBare s₁.gens)
  {n:Str} {fa l:Addr} {vs:List Value} {ns:List Int} {E:Value→Shared→Prop} {wd:WData} (hn:fn[f]? = some n) (hm:mg n=some (.ref fa)) (hw:Well w.params s₁.heap (.ref l) wd) (hwd:∃ xs,wd = .list xs) (hl:s₁.heap.IsList l vs.toArray) (hi:IntsAre vs ns) (hns:ns.length≤63)
  (hrun:bH tab (fun f args=>(fn[f]?).bind fun n=>D2 F (w7 F d pfd d) n args) F lvl f [.list (ns.map .int)]=some (.bool true)) (hlv:lvl≤100) :
  wpAny (model prog w) callerA (call (.ref fa) [.ref l]) (fun v s'=>v = .bool true∧OldK s₁.heap s'.heap∧s'.os=s₁.os∧AllBare s'.gens) E s₁:=by
 obtain⟨Z,ZO,⟨rfl,rfl,z3,z4⟩,rfl,z7⟩:=OP (prog:=prog) (w:=w) (lp:=lp) (gp:=gp) T X e1 e2 (aJ H.b 0 rfl) (aJ H.b 1 rfl) (Option.isNone_iff_eq_none.mp (aJ H.b 2 rfl)) (Option.isNone_iff_eq_none.mp (aJ H.b 3 rfl)) (bne_iff_ne.mp (aJ H.b 4 rfl))
 have hA:fJ Z (lvl+100) callerA:=(⟨rfl,by decide,by decide,[],rfl,fun _ h=>absurd h List.not_mem_nil⟩:fJ Z 200 callerA).mono (Nat.add_le_add_right hlv 100)
 have hB:fE Z:=fun n v h=>rC ZO H (List.mem_append_right _ h)
 have hI:bB Z s₁:=HV z3.symm T.nolimit (z3▸ZO.tab₀) hgens z4.symm z7
 have hr:aR s₁.heap [.ref l] [.list (ns.map .int)] ([l]++[]):=.cons (PA hw hwd hl hi) .nil
 have hok:cM [.list (ns.map .int)]=true:=Bool.and_eq_true_iff.mpr ⟨Bool.and_eq_true_iff.mpr ⟨decide_eq_true (by rw[List.length_map]; exact Nat.le_trans hns (by decide)),P9 ns⟩,rfl⟩
 have hT:sR Z fn tab:=LB ZO.hK0 hsb hs ht
 refine wpAny_mono (U1 hB hT (fun fr=>HR ZO H L hT hd fr) hn hm hA hI (by rw[← z3]; exact Nat.le_refl _) hr hok hrun) (fun v s' h=>?_) fun _ _ e=>e
 obtain⟨I,bs,r⟩:=h
 exact⟨yD r,z3▸I.old,I.os.trans z4,I.gens⟩
end Kt.Internal
end
section
open PySem PySem.W PyProof.Rows
namespace Kt.Internal
noncomputable def Cm:PF:=⟨3,1,(.cons (.assign 1 (.lit (.str ("a'[ \"*\\]?#-!" : Str)))) (.cons (.ret (.bin .Add (.comp (.idx (.var 1) (.bin .Mod (.bin .Add (.var 0) (.var 2)) (.lit (.int 12)))) (.one 2) (.range1 (.lit (.int 7))) .no .nil) (.list (.cons (.bi .chr (.cons (.bin .Add (.lit (.int 256)) (.bin .Mod (.bin .FloorDiv (.var 0) (.lit (.int 12))) (.lit (.int 50000)))) .nil)) .nil)))) .nil))⟩
noncomputable def Dg:List Str:=["x", "table", "k"]
noncomputable def Ck:PF:=⟨6,3,(.cons (.assign 3 (.list (.cons (.bin .Mod (.var 0) (.lit (.int 3))) (.cons (.bin .Mod (.bin .FloorDiv (.var 0) (.lit (.int 3))) (.lit (.int 3))) (.cons (.bin .Mod (.bin .FloorDiv (.var 0) (.lit (.int 9))) (.lit (.int 3))) .nil))))) (.cons (.ret (.comp (.idx (.var 2) (.bin .Add (.bin .Mult (.lit (.int 2)) (.var 4)) (.var 5))) (.two 4 5) (.zip (.var 1) (.var 3)) (.yes (.cmp .Lt (.var 5) (.lit (.int 2)))) .nil)) .nil))⟩
noncomputable def Df:List Str:=["x", "places", "signs", "figures", "p", "d"]
noncomputable def EG:PE:=(.cmp .Lt (.var 2) (.bin .Sub (.bi .len (.cons (.var 0) .nil)) (.lit (.int 3))))
noncomputable def sQ:mG:=(.cons (.assign 3 (.cmp .Eq (.idx (.var 0) (.var 2)) (.lit (.str ("[" : Str))))) (.cons (.ife (.cmp .In (.idx (.var 0) (.var 2)) (.lit (.str ("()*+?{|^$" : Str)))) (.cons (.ret (.list .nil)) .nil) .nil) (.cons (.ife (.cmp .Eq (.idx (.var 0) (.var 2)) (.lit (.str ("." : Str)))) (.cons (.app 1 (.lit .none)) .nil) (.cons (.aug 2 .Add (.ite (.var 3) (.lit (.int 1)) (.lit (.int 0)))) (.cons (.aug 2 .Add (.ite (.cmp .Eq (.idx (.var 0) (.var 2)) (.lit (.str ("\\" : Str)))) (.lit (.int 1)) (.lit (.int 0)))) (.cons (.app 1 (.idx (.var 0) (.var 2))) (.cons (.aug 2 .Add (.ite (.var 3) (.lit (.int 1)) (.lit (.int 0)))) (.cons (.ife (.bool true (.var 3) (.cmp .NotEq (.idx (.var 0) (.var 2)) (.lit (.str ("]" : Str))))) (.cons (.ret (.list .nil)) .nil) .nil) .nil)))))) (.cons (.aug 2 .Add (.lit (.int 1))) .nil))))
noncomputable def Cj:PF:=⟨4,1,(.cons (.assign2 1 2 (.list .nil) (.lit (.int 4))) (.cons (.while_ EG sQ) (.cons (.ret (.ite (.bool true (.cmp .Eq (.slc (.var 0) .no (.yes (.lit (.int 4)))) (.lit (.str ("(?s:" : Str)))) (.cmp .Eq (.slc (.var 0) (.yes (.neg (.lit (.int 3)))) .no) (.lit (.str (")\\Z" : Str))))) (.var 1) (.list .nil))) .nil)))⟩
noncomputable def De:List Str:=["text", "parts", "k", "inside"]
noncomputable def D9:PI:=(.range1 (.bi .len (.cons (.var 5) .nil)))
noncomputable def JP:mG:=(.cons (.assign 8 (.comp (.var 9) (.one 9) (.of (.slc (.var 2) (.yes (.bin .Mult (.lit (.int 2)) (.var 4))) (.yes (.bin .Add (.bin .Mult (.lit (.int 2)) (.var 4)) (.lit (.int 2)))))) (.yes (.bool false (.cmp .Is (.idx (.var 5) (.var 4)) (.lit .none)) (.cmp .Eq (.idx (.var 5) (.var 4)) (.var 9)))) .nil)) (.cons (.assign 6 (.comp (.bin .Add (.var 10) (.var 9)) (.one 10) (.of (.var 6)) .no (.cons (.one 9) (.of (.var 8)) .no .nil))) .nil))
noncomputable def SP:PI:=(.range1 (.lit (.int 4)))
noncomputable def EI:mG:=(.cons (.assign 7 (.me .join (.lit (.str ("" : Str))) (.cons (.comp (.var 9) (.one 9) (.of (.slc (.var 2) (.yes (.bin .Mult (.lit (.int 2)) (.var 4))) (.yes (.bin .Add (.bin .Mult (.lit (.int 2)) (.var 4)) (.lit (.int 2)))))) (.yes (.bool true (.cmp .In (.var 9) (.var 0)) (.cmp .In (.var 4) (.var 1)))) .nil) .nil))) (.cons (.aug 3 .Add (.ite (.cmp .Eq (.var 7) (.lit (.str ("" : Str)))) (.lit (.str ("?" : Str))) (.ite (.cmp .In (.var 7) (.lit (.str ("*?[" : Str)))) (.bin .Add (.bin .Add (.lit (.str ("[" : Str))) (.var 7)) (.lit (.str ("]" : Str)))) (.var 7)))) .nil))
noncomputable def Ci:PF:=⟨11,3,(.cons (.assign 3 (.lit (.str ("" : Str)))) (.cons (.for_ (.one 4) SP EI) (.cons (.assign 5 (.call 2 (.cons (.call 9 (.cons (.var 3) .nil)) .nil))) (.cons (.assign 6 (.ite (.cmp .Eq (.bi .len (.cons (.var 5) .nil)) (.lit (.int 4))) (.list (.cons (.lit (.str ("" : Str))) .nil)) (.list .nil))) (.cons (.for_ (.one 4) D9 JP) (.cons (.ret (.var 6)) .nil))))))⟩
noncomputable def Dd:List Str:=["row", "places", "signs", "pattern", "p", "parts", "taken", "word", "pair", "sign", "name"]
noncomputable def zD:PI:=(.range3 0 8 2)
noncomputable def EH:mG:=(.cons (.ife (.bool false (.bool true (.cmp .In (.idx (.var 1) (.var 5)) (.idx (.var 6) (.lit (.int 0)))) (.cmp .In (.idx (.var 1) (.bin .Add (.var 5) (.lit (.int 1)))) (.idx (.var 7) (.lit (.int 0))))) (.bool true (.cmp .In (.idx (.var 1) (.bin .Add (.var 5) (.lit (.int 1)))) (.idx (.var 6) (.lit (.int 0)))) (.cmp .In (.idx (.var 1) (.var 5)) (.idx (.var 7) (.lit (.int 0)))))) (.cons (.app 4 (.var 5)) .nil) .nil) .nil)
noncomputable def SN:PI:=(.range1 (.var 2))
noncomputable def qI:mG:=(.cons (.assign2 6 7 (.idx (.var 0) (.var 3)) (.idx (.var 0) (.var 2))) (.cons (.assign 4 (.list .nil)) (.cons (.for_ (.one 5) zD EH) (.cons (.ife (.cmp .Eq (.bi .len (.cons (.var 4) .nil)) (.lit (.int 1))) (.cons (.assign 8 (.call 6 (.cons (.bin .Add (.idx (.var 6) (.lit (.int 0))) (.idx (.var 7) (.lit (.int 0)))) .nil))) (.cons (.assign 9 (.comp (.var 10) (.one 10) (.of (.var 8)) (.yes (.cmp .NotIn (.var 10) (.slc (.var 1) (.yes (.idx (.var 4) (.lit (.int 0)))) (.yes (.bin .Add (.idx (.var 4) (.lit (.int 0))) (.lit (.int 2))))))) .nil)) (.cons (.ife (.cmp .Eq (.comp (.var 12) (.one 12) (.of (.var 0)) (.yes (.cmp .Eq (.comp (.var 10) (.one 10) (.of (.idx (.var 12) (.lit (.int 0)))) (.yes (.cmp .NotIn (.var 10) (.var 9))) .nil) (.list .nil))) .nil) (.list .nil)) (.cons (.ife (.cmp .Eq (.idx (.var 4) (.lit (.int 0))) (.lit (.int 0))) (.cons (.assign 11 (.call 6 (.cons (.bin .Add (.idx (.var 6) (.lit (.int 1))) (.idx (.var 7) (.lit (.int 1)))) .nil))) .nil) (.cons (.assign 11 (.comp (.var 13) (.one 13) (.of (.idx (.var 6) (.lit (.int 1)))) (.yes (.cmp .In (.var 13) (.idx (.var 7) (.lit (.int 1))))) .nil)) .nil)) (.cons (.assign 0 (.bin .Add (.var 0) (.list (.cons (.list (.cons (.var 9) (.cons (.var 11) .nil))) .nil)))) .nil)) .nil) .nil))) .nil) .nil))))
noncomputable def EF:PE:=(.bool true (.cmp .Lt (.var 2) (.bi .len (.cons (.var 0) .nil))) (.bool true (.cmp .Lt (.bi .len (.cons (.var 0) .nil)) (.lit (.int 99))) (.cmp .NotEq (.idx (.idx (.var 0) (.neg (.lit (.int 1)))) (.lit (.int 0))) (.list .nil))))
noncomputable def JO:mG:=(.cons (.for_ (.one 3) SN qI) (.cons (.aug 2 .Add (.lit (.int 1))) .nil))
noncomputable def Ch:PF:=⟨14,2,(.cons (.assign 2 (.lit (.int 0))) (.cons (.while_ EF JO) (.cons (.ret (.var 0)) .nil)))⟩
noncomputable def Dc:List Str:=["rules", "signs", "j", "i", "odd", "k", "one", "two", "words", "row", "word", "middle", "rule", "name"]
noncomputable def JI:PI:=(.of (.slc (.var 6) .no (.yes (.lit (.int 1)))))
noncomputable def S3:mG:=(.cons (.ife (.cmp .NotEq (.comp (.var 22) (.one 22) (.of (.var 4)) (.yes (.bool true (.cmp .NotIn (.var 22) (.idx (.var 10) (.lit (.int 0)))) (.cmp .NotIn (.var 22) (.var 8)))) .nil) (.list .nil)) (.cons (.ret (.lit (.bool false))) .nil) .nil) (.cons (.ife (.cmp .NotEq (.comp (.var 22) (.one 22) (.of (.var 4)) (.yes (.bool true (.cmp .NotIn (.var 22) (.idx (.var 10) (.lit (.int 1)))) (.cmp .In (.var 22) (.var 8)))) .nil) (.list .nil)) (.cons (.ret (.lit (.bool false))) .nil) .nil) (.cons (.assign 15 (.comp (.bin .Add (.idx (.var 3) (.ite (.cmp .Eq (.idx (.var 22) (.lit (.int 0))) (.idx (.var 3) (.lit (.int 1)))) (.lit (.int 0)) (.lit (.int 1)))) (.slc (.var 22) (.yes (.lit (.int 1))) .no)) (.one 22) (.of (.var 8)) .no .nil)) (.cons (.assign 16 (.comp (.bin .Add (.slc (.var 22) .no (.yes (.lit (.int 3)))) (.idx (.var 3) (.ite (.cmp .Eq (.idx (.var 22) (.lit (.int 3))) (.idx (.var 3) (.lit (.int 7)))) (.lit (.int 6)) (.lit (.int 7))))) (.one 22) (.of (.var 8)) .no .nil)) (.cons (.ife (.bool false (.cmp .IsNot (.call 10 (.cons (.var 15) (.cons (.var 8) .nil))) (.lit (.bool true))) (.cmp .IsNot (.call 10 (.cons (.var 8) (.cons (.var 16) .nil))) (.lit (.bool true)))) (.cons (.ret (.lit (.bool false))) .nil) .nil) .nil)))))
noncomputable def D8:PI:=(.range1 (.bin .Sub (.bi .len (.cons (.var 2) .nil)) (.lit (.int 1))))
noncomputable def zJ:mG:=(.cons (.assign 11 (.call 1 (.cons (.idx (.var 2) (.bin .Add (.var 5) (.lit (.int 1)))) (.cons (.list (.cons (.bin .Mod (.var 5) (.lit (.int 2))) (.cons (.bin .Add (.bin .Mod (.var 5) (.lit (.int 2))) (.lit (.int 1))) (.cons (.bin .Add (.bin .Mod (.var 5) (.lit (.int 2))) (.lit (.int 2))) .nil)))) (.cons (.var 3) .nil))))) (.cons (.assign 12 (.call 8 (.cons (.call 7 (.cons (.var 11) .nil)) .nil))) (.cons (.ife (.cmp .NotEq (.var 12) (.var 11)) (.cons (.ret (.lit (.bool false))) .nil) .nil) (.cons (.assign 13 (.ite (.cmp .Eq (.bin .Mod (.var 5) (.lit (.int 2))) (.lit (.int 0))) (.call 3 (.cons (.var 12) (.cons (.list (.cons (.lit (.int 1)) (.cons (.lit (.int 2)) .nil))) (.cons (.var 3) .nil)))) (.list .nil))) (.cons (.assign 9 (.bin .Add (.var 9) (.list (.cons (.list (.cons (.var 12) (.cons (.comp (.var 22) (.one 22) (.of (.var 4)) (.yes (.cmp .NotIn (.var 22) (.var 13))) .nil) .nil))) .nil)))) (.cons (.assign 14 (.call 3 (.cons (.var 12) (.cons (.list (.cons (.lit (.int 0)) (.cons (.lit (.int 1)) (.cons (.lit (.int 2)) (.cons (.lit (.int 3)) .nil))))) (.cons (.var 3) .nil))))) (.cons (.assign 10 (.ite (.cmp .Eq (.bin .Mod (.var 5) (.lit (.int 2))) (.lit (.int 0))) (.list (.cons (.bin .Add (.idx (.var 10) (.lit (.int 0))) (.var 14)) (.cons (.idx (.var 10) (.lit (.int 1))) .nil))) (.list (.cons (.idx (.var 10) (.lit (.int 0))) (.cons (.bin .Add (.idx (.var 10) (.lit (.int 1))) (.var 14)) .nil))))) .nil)))))))
noncomputable def W9:PF:=⟨23,1,(.cons (.assign 1 (.bin .Add (.slc (.var 0) .no (.yes (.lit (.int 7)))) (.list (.cons (.lit (.int 4)) (.cons (.lit (.int 18)) (.cons (.lit (.int 25)) (.cons (.lit (.int 25)) (.cons (.lit (.int 23)) .nil)))))))) (.cons (.assign 2 (.comp (.bin .Mod (.var 17) (.bin .Pow (.lit (.int 10)) (.lit (.int 9)))) (.one 17) (.of (.slc (.var 1) .no (.yes (.bi .max2 (.cons (.lit (.int 5)) (.cons (.bin .Sub (.bi .len (.cons (.var 1) .nil)) (.lit (.int 5))) .nil)))))) .no .nil)) (.cons (.assign 3 (.call 0 (.cons (.idx (.var 2) (.lit (.int 0))) .nil))) (.cons (.assign 4 (.comp (.bin .Add (.bin .Add (.bin .Add (.var 18) (.var 19)) (.var 20)) (.var 21)) (.one 18) (.of (.slc (.var 3) .no (.yes (.lit (.int 2))))) .no (.cons (.one 19) (.of (.slc (.var 3) (.yes (.lit (.int 2))) (.yes (.lit (.int 4))))) .no (.cons (.one 20) (.of (.slc (.var 3) (.yes (.lit (.int 4))) (.yes (.lit (.int 6))))) .no (.cons (.one 21) (.of (.slc (.var 3) (.yes (.lit (.int 6))) .no)) .no .nil))))) (.cons (.assign2 9 10 (.list .nil) (.list (.cons (.list .nil) (.cons (.list .nil) .nil)))) (.cons (.for_ (.one 5) D8 zJ) (.cons (.assign 6 (.comp (.var 8) (.two 11 8) (.of (.call 4 (.cons (.var 9) (.cons (.var 3) .nil)))) (.yes (.cmp .Eq (.var 11) (.list .nil))) .nil)) (.cons (.assign 7 (.call 10 (.cons (.bin .Add (.idx (.var 10) (.lit (.int 0))) (.idx (.var 10) (.lit (.int 1)))) (.cons (.var 4) .nil)))) (.cons (.ife (.bool false (.cmp .IsNot (.call 10 (.cons (.var 4) (.cons (.bin .Add (.idx (.var 10) (.lit (.int 0))) (.idx (.var 10) (.lit (.int 1)))) .nil))) (.var 7)) (.cmp .IsNot (.var 7) (.cmp .NotEq (.var 6) (.list .nil)))) (.cons (.ret (.lit (.bool false))) .nil) .nil) (.cons (.for_ (.one 8) JI S3) (.cons (.ret (.lit (.bool true))) .nil)))))))))))⟩
noncomputable def Db:List Str:=["script", "drawn", "numbers", "signs", "names", "k", "middles", "whole", "middle", "rules", "refused", "row", "read", "gone", "more", "first", "last", "x", "a", "b", "c", "d", "name"]
noncomputable def SM:PI:=(.of (.var 0))
noncomputable def Z7:mG:=(.cons (.ife (.cmp .NotIn (.var 2) (.var 1)) (.cons (.app 1 (.var 2)) .nil) .nil) .nil)
noncomputable def RM:PF:=⟨3,1,(.cons (.assign 1 (.list .nil)) (.cons (.for_ (.one 2) SM Z7) (.cons (.ret (.var 1)) .nil)))⟩
noncomputable def Da:List Str:=["unhashable_params", "new_unhashable", "t"]
noncomputable def jI:List pJ:=[("_law_signs",Dg,Cm),("_law_row",Df,Ck),("_law_parts",De,Cj),("_law_taken",Dd,Ci),("_law_closed",Dc,Ch),("law",Db,W9),("_deduplicate_unhashable",Da,RM)]
noncomputable def BB:List Str:=["_law_signs", "_law_row", "_law_parts", "_law_taken", "_law_closed", "law", "_deduplicate_unhashable", "join_shlex", "split", "translate", "_compare_args_orderless"]
noncomputable def aY(f:Nat):Option PF:=(jI[f]?).map (·.2.2)
theorem LA(f:Nat)(n:Str)(pf:PF)(hn:BB[f]? = some n)(hf:aY f=some pf):∃ nm,(n,nm,pf)∈jI:=by
 obtain⟨⟨m,nm,q⟩,h,e⟩:=Option.map_eq_some_iff.mp hf
 have hl:f<(jI.map (·.1)).length:=by rw[List.length_map]; exact(List.getElem?_eq_some_iff.mp h).1
 have h2:BB[f]? = some m:=(show BB[f]? = (jI.map (·.1)++(["join_shlex", "split", "translate", "_compare_args_orderless"]:List Str))[f]? from rfl).trans ((List.getElem?_append_left hl).trans (by rw[List.getElem?_map,h]; rfl))
 cases hn.symm.trans h2
 cases e
 exact⟨nm,List.mem_of_getElem? h⟩
noncomputable def rD(th ok:Thread→Bool)(st:SharedT→Thread→Option (SharedT×Thread)):Nat→SharedT→Thread→Option SharedT
 | 0,_,_=>none
 | n+1,s,t=>match th t with
  | true=>some s
  | false=>match ok t with
   | false=>none
   | true=>match st s t with
    | some r=>rD th ok st n r.1 r.2
    | none=>none
theorem t9{tb:String→Option Builtin}{p:Program}{w:World}{n₀:Nat}{ann:Option Value}:∀(n:Nat)(s s':SharedT)(t:Thread),rD through (stepOk n₀ ann) (stepT (denote tb) p w) n s t=some s'→topRun tb p w n₀ ann n s.abs t=some s'.abs
 | 0,_,_,_,h=>nomatch h
 | n+1,s,s',t,h=>by
  rw[rD]at h
  rw[topRun]
  cases ht:through t with
  | true=>rw[ht]at h; exact congrArg some (congrArg SharedT.abs (Option.some.inj h))
  | false =>
   rw[ht]at h
   cases hk:stepOk n₀ ann t with
   | false=>rw[hk]at h; cases h
   | true =>
    rw[hk]at h
    cases hs:stepT (denote tb) p w s t with
    | none=>rw[hs]at h; cases h
    | some r=>rw[hs]at h; dsimp only; rw[stepT_spec hs]; exact t9 n _ _ _ h
noncomputable def rP(st:SharedT→Thread→Option (SharedT×Thread)):Nat→SharedT→Thread→Option SharedT
 | 0,_,_=>none
 | n+1,s,t=>match t.atExitBegin with
  | some []=>some s
  | some (_::_)=>none
  | none=>match st s t with
   | some r=>rP st n r.1 r.2
   | none=>none
theorem uJ{tb:String→Option Builtin}{p:Program}{w:World}:∀(n:Nat)(s s':SharedT)(t:Thread),rP (stepT (denote tb) p w) n s t=some s'→importEnds tb p w n s.abs t=some s'.abs
 | 0,_,_,_,h=>nomatch h
 | n+1,s,s',t,h=>by
  rw[rP]at h
  rw[importEnds]
  cases ht:t.atExitBegin with
  | some l =>
   rw[ht]at h
   cases l with
   | nil=>exact congrArg some (congrArg SharedT.abs (Option.some.inj h))
   | cons=>cases h
  | none =>
   rw[ht]at h
   cases hs:stepT (denote tb) p w s t with
   | none=>rw[hs]at h; cases h
   | some r=>rw[hs]at h; dsimp only; rw[stepT_spec hs]; exact uJ n _ _ _ h
noncomputable def Ae:List Obj→BT→Nat→Option BT
 | [],t,_=>some t
 | o::r,t,n=>match((t.ins n o).get n).isSome with
  | true=>Ae r (t.ins n o) (n+1)
  | false=>none
theorem EM{life:Life}:∀(os:List Obj)(t t':BT)(n:Nat),Ae os t n=some t'→absHeap t' (n+os.length) life=⟨(absHeap t n life).objs++os.toArray,life⟩
 | [],t,t',n,h=>by cases h; rw[List.length_nil,Nat.add_zero]; exact congrArg (Heap.mk · life) (Array.append_empty (xs:=(absHeap t n life).objs)).symm
 | o::r,t,t',n,h=>by
  rw[Ae]at h
  cases g:((t.ins n o).get n).isSome with
  | false=>rw[g]at h; cases h
  | true =>
   rw[g]at h
   have:=EM (life:=life) r _ _ _ h
   rw[List.length_cons,Nat.add_comm r.length,← Nat.add_assoc,this,absHeap_ins g]
   exact congrArg (Heap.mk · life) (by show(absHeap t n life).objs.push o++r.toArray=_; simp)
noncomputable def BJ(s:Shared):Option SharedT:=(Ae s.heap.objs.toList .nil 0).map fun T=>⟨T,s.heap.objs.size,s.heap.life,s.gens,s.drawn,s.toks,s.os⟩
theorem t8{s:Shared}{t:SharedT}(h:BJ s=some t):t.abs=s:=by
 obtain⟨T,h',rfl⟩:=Option.map_eq_some_iff.mp h
 have:=EM (life:=s.heap.life) _ _ _ _ h'
 rw[Nat.zero_add,Array.length_toList]at this
 show Shared.mk (absHeap T s.heap.objs.size s.heap.life) _ _ _ _=s
 rw[this]
 exact congrArg (fun h=>Shared.mk h s.gens s.drawn s.toks s.os) (congrArg (Heap.mk · s.heap.life) (show #[]++s.heap.objs.toList.toArray=s.heap.objs by simp))
noncomputable def JJ(stI:SharedT→Thread→Option (SharedT×Thread))(fence:Shared→Option Shared)(ok:Thread→Bool)(st:SharedT→Thread→Option (SharedT×Thread))(p:Program)(N:Nat):Option (Shared×SharedT) :=
 (BJ (start (opening p)).1).bind fun a=>(rP stI N a (start (opening p)).2).bind fun b=>(fence b.abs).bind fun s₀=>(BJ s₀).bind fun c=>(rD through ok st N c (topStub p)).map fun d=>(s₀,d)
theorem ZK{p q:Program}{loose:List Str}{Xt:Shared→Bool}{Y:Shared→Prop}{N m₀:Nat}{ann:Option Value}
  (run:∀ w:World,∃ s₀ s,JJ (stepT (denote treeTable) (opening p) w) (fenceModules? p) (stepOk m₀ ann) (stepT (denote treeTable) p w) p N=some (s₀,s) ∧
   ((s₀.heap.isNs mainGlobals&&s₀.gens.size==0)=true∧s₀.heap.objs.size=m₀∧s₀.heap.nsMap mainGlobals "__annotations__" = ann) ∧
   (staticsOk (importedModules p.main.body) s₀.heap s.abs.heap&&namesBound p s.abs.heap&&gensDone s.abs&&laidKept s₀.heap s.abs.heap)=true∧openSeen q loose (importedModules p.main.body) Xt true s.abs=openGood q loose∧Y s.abs) :
  LeftO p q loose Xt Y (fun _=>True) N:=fun w=>by
 obtain⟨s₀,s,h,⟨z1,z2,z3⟩,l1,l2,y⟩:=run w
 obtain⟨a,h1,h⟩:=Option.bind_eq_some_iff.mp h
 obtain⟨b,h2,h⟩:=Option.bind_eq_some_iff.mp h
 obtain⟨s₁,h3,h⟩:=Option.bind_eq_some_iff.mp h
 obtain⟨c,h4,h⟩:=Option.bind_eq_some_iff.mp h
 obtain⟨d,h5,h⟩:=Option.map_eq_some_iff.mp h
 cases h
 have r1:=uJ _ _ _ _ h2
 rw[t8 h1]at r1
 have r2:=t9 _ _ _ _ h5
 rw[t8 h4]at r2
 have t:topFrom treeTable p w N s₀=some s.abs:=by
  unfold topFrom
  rw[z1,z2,z3,r2]
  show(match staticsOk (importedModules p.main.body) s₀.heap s.abs.heap&&namesBound p s.abs.heap&&gensDone s.abs&&laidKept s₀.heap s.abs.heap with | true=>some s.abs | false=>none)=some s.abs
  rw[l1]
 unfold openEnds fencedOpening
 rw[r1,Option.bind_some,h3,Option.bind_some,t]
 exact congrArg some (Prod.ext l2 (eq_true y))
end Kt.Internal
end
section
open PySem PySem.W PyProof.Rows PySem.Calls Builtin
namespace Kt.Internal
def tJ(K:Frag)(a:Addr)(nm:List Str)(pf:OF):Prop:=fC (GB K a) fun fd=>sV pf.arity fun vals=>if pf.arity≤vals.length+(nI K fd).length then
 ∀ _:Setting,some ((nm.take pf.arity).zip (vals++(nI K fd).drop ((nI K fd).length+vals.length - pf.arity)))=some ((nm.take pf.arity).zip (vals++(nI K fd).drop ((nI K fd).length+vals.length - pf.arity)))else True
theorem E7{α:Type}{o:Option α}{f:α→Prop}(h:o.isSome=true)(g:∀ x,f x):fC o f:=by
 cases o with
 | none=>cases h
 | some x=>exact g x
theorem CV(k:Nat):∀{P:List Value→Prop},(∀ l,P l)→sV k P:=by
 induction k with
 | zero=>exact fun g=>g []
 | succ k ih=>exact fun g=>⟨g [],fun v=>ih fun l=>g (v::l)⟩
theorem DQ(k:Nat):∀{P:List Value→Prop},(∀ l,P l)→mT k P:=by
 induction k with
 | zero=>exact fun g=>g []
 | succ k ih=>exact fun g v=>ih fun l=>g (v::l)
theorem xS{K:Frag}{a:Addr}{nm:List Str}{pf:OF}(h:(GB K a).isSome=true):tJ K a nm pf:=E7 h fun fd=>CV _ fun vals=>by
 split
 ·exact fun _=>rfl
 ·trivial
theorem e8{K:Frag}{a:Addr}{nm:List Str}{pf:OF}(e:gE K a nm pf=tJ K a nm pf)(h:(GB K a).isSome=true):gE K a nm pf:=e.mpr (xS h)
theorem F5{α:Type}{P:α→Prop}{b:α→Bool}{l:List α}(h:l.all b=true)(g:∀ x,b x=true→P x):mK l P:=by
 induction l with
 | nil=>trivial
 | cons x l ih =>
  obtain⟨h1,h2⟩:=Bool.and_eq_true_iff.mp h
  exact⟨g x h1,ih h2⟩
theorem lX{K:Frag}{l:List (Nat×List Str×OF)}(e:(mK l fun p=>fC (l6 K p.1) fun a=>gE K a p.2.1 p.2.2)=(mK l fun p=>fC (l6 K p.1) fun a=>tJ K a p.2.1 p.2.2))(h:(l.all fun p=>iB (l6 K p.1) fun a=>(GB K a).isSome)=true):mK l fun p=>fC (l6 K p.1) fun a=>gE K a p.2.1 p.2.2 :=
 e.mpr (F5 h fun p hp=>by
  obtain⟨a,e,h⟩:=eF hp
  rw[e]
  exact xS h)
def KO(K:Frag)(cA:Nat→Option Addr):Prop:=fC (cA 0) fun C=>(fC ((findIn K (.ref C) "__iter__").bind fun v=>v.bind eY) fun fi=>tJ K fi qA vJ)∧fC ((findIn K (.ref C) "__next__").bind fun v=>v.bind eY) fun fn=>tJ K fn gA sH
theorem oC{K:Frag}{cA:Nat→Option Addr}(e:vM K cA=KO K cA)(h:(iB (cA 0) fun C=>(iB ((findIn K (.ref C) "__iter__").bind fun v=>v.bind eY) fun fi=>(GB K fi).isSome)&&iB ((findIn K (.ref C) "__next__").bind fun v=>v.bind eY) fun fn=>(GB K fn).isSome)=true):vM K cA:=by
 obtain⟨C,e1,h⟩:=eF h
 obtain⟨h1,h2⟩:=Bool.and_eq_true_iff.mp h
 obtain⟨a,e2,h1⟩:=eF h1
 obtain⟨b,e3,h2⟩:=eF h2
 rw[e,KO,e1]
 show fC _ _∧fC _ _
 rw[e2,e3]
 exact⟨xS h1,xS h2⟩
def xU(K:Frag)(n:Str)(nm:List Str)(k:Nat):Prop:=fC ((eI K n).bind eY) fun a=>fC (GB K a) fun _=>mT k fun vals=>(pure ((nm.take k).zip vals):Sem (List (Str×Value)))=pure ((nm.take k).zip vals)
noncomputable def isFn(K:Frag)(n:Str):Bool:=iB ((eI K n).bind eY) fun a=>(GB K a).isSome
theorem KV{K:Frag}{n:Str}{nm:List Str}{k:Nat}(h:isFn K n=true):xU K n nm k:=by
 obtain⟨a,e,h⟩:=eF h
 have g:fC (GB K a) fun _=>mT k fun vals=>(pure ((nm.take k).zip vals):Sem (List (Str×Value)))=pure ((nm.take k).zip vals):=E7 h fun _=>DQ _ fun _=>rfl
 rw[xU,e]
 exact g
theorem oJ{K:Frag}{n:Str}{nm:List Str}{k:Nat}(e:mB K n nm k=xU K n nm k)(h:isFn K n=true):mB K n nm k:=e.mpr (KV h)
theorem lY{K:Frag}{l:List pJ}(e:(mK l fun S=>mB K S.1 S.2.1 S.2.2.arity)=mK l fun S=>xU K S.1 S.2.1 S.2.2.arity)(h:(l.all fun S=>isFn K S.1)=true):mK l fun S=>mB K S.1 S.2.1 S.2.2.arity:=e.mpr (F5 h fun S hS=>KV hS)
theorem rQ{K:Frag}{a p:Addr}(h:∀ k,JS K a p (k+256))(h1:mK [97,39,91,32,34,42,92,93,63,35,45,98,33] (JS K a p)):GM K a p:=fun c h0=>by
 rcases Bool.or_eq_true_iff.mp h0 with h0 | h0
 ·exact t7 h1 (List.contains_iff_mem.mp h0)
 ·obtain⟨k,e⟩:=Nat.exists_eq_add_of_le' (of_decide_eq_true h0)
  rw[e]
  exact h k
noncomputable def ZQ:List Stmt:=[.Return (some (.Call (.Attribute (.Constant (.str " ") 0 ⟨838,11,838,14⟩) "join" ⟨838,11,838,19⟩) [IQ ⟨838,21,838,26⟩ ⟨838,27,838,30⟩ ⟨838,21,838,31⟩ ⟨838,36,838,39⟩ ⟨838,43,838,56⟩ ⟨.function,xL,true,false,[]⟩ ⟨838,20,838,57⟩] [] ⟨838,11,838,58⟩)) ⟨838,4,838,58⟩]
theorem rR{K:Frag}{a c:Addr}(e:ON K a c (838,20)=(Value.ref c=Value.ref c∧AR (838,20) ZQ)):ON K a c (838,20):=e.mpr ⟨rfl,0,_,_,_,_,_,_,_,_,_,_,_,rfl,rfl,⟨rfl,rfl⟩,rfl,rfl,rfl⟩
noncomputable def kT(t:SharedT):Frag:=(List.range t.n).filterMap fun a=>if a==70||a==784 then none else((t.tree.get a).bind alive).map fun o=>(a,o)
theorem MU{a:Addr}{o:Obj}{l:Frag}(h:l.lookup a=some o):(a,o)∈l:=by
 induction l with
 | nil=>cases h
 | cons x l ih =>
  rw[List.lookup_cons]at h
  cases e:a==x.1 with
  | true =>
   rw[e]at h
   cases h
   rw[eq_of_beq e]
   exact List.mem_cons_self
  | false =>
   rw[e]at h
   exact List.mem_cons_of_mem _ (ih h)
theorem IZ{t:SharedT}{a:Addr}{o:Obj}(hn:a<t.n)(h:(t.tree.get a).bind alive=some o):t.abs.heap.get? a=some o:=by
 obtain⟨o',h1,h2⟩:=Option.bind_eq_some_iff.mp h
 exact(abs_get hn h1).trans h2
theorem ZP(t:SharedT):(kT t).In t.abs.heap:=fun a o h=>by
 obtain⟨b,hb,e⟩:=List.mem_filterMap.mp (MU h)
 split at e
 ·cases e
 ·obtain⟨o',h1,h2⟩:=Option.map_eq_some_iff.mp e
  cases h2
  exact IZ (List.mem_range.mp hb) h1
noncomputable abbrev xA(K:Frag):Prop:=fH K (67,46) (838,20) 74 70 788 784 770 694 635 128 132 405 789 797 87∧D7 K BB 6∧(mK jI fun S=>mB K S.1 S.2.1 S.2.2.arity)∧jI.all (yL K BB)=true
def Y6(s:Shared):Prop:=∃ K:Frag,K.In s.heap∧xA K∧s.heap.get? 70=some (tabObj #[])∧s.heap.get? 784=some (tabObj #[])
noncomputable abbrev F9:=PySem.Challenge.pw_kt0084_07
noncomputable abbrev r6:OpenRow:=PySem.Challenge.rw_kt0084_07.row
@[irreducible] noncomputable def v6:Program:=view F9 [0,1,2,4,5,7,8,10,11,12,14,15,16,17,18,19,20,21,23,24,25,26,28,29,31,33,34,35,36,38,39,41,42,43,44,45,46]
noncomputable def xK:List Str:=["twin_re_1_fnmatch", "_special_chars_map", "twin_re_1_shlex", "UnsupportedOperation", "IOBase", "BufferedIOBase", "TextIOBase", "BytesIO", "StringIO", "join_path", "shlex", "split", "join_shlex", "_find_unsafe"]
noncomputable abbrev X6:Shared→Bool:=fun s=>xlAt v6 [] s&&recOk (RowW.records r6.toRowW) s
noncomputable abbrev Cf(p:Program)(w:World):=PySem.W.Fast.tw10156331382660048174 (PySem.W.Fast.tw11892475500146522536 PySem.W.Fast.tw14364793385576792824) p w
@[irreducible] noncomputable def go6(w:World):Option (Shared×SharedT):=JJ (Cf (opening F9) w) (PySem.W.Fast.tw14289696077712309145 F9) (PySem.W.Fast.tw6613529449190102663 34 (some (.ref 6))) (Cf F9 w) F9 6800
noncomputable abbrev sS(x:Shared×SharedT):Prop :=
 (x.1.heap.isNs mainGlobals&&x.1.gens.size==0)=true∧x.1.heap.objs.size=34∧x.1.heap.nsMap mainGlobals "__annotations__" = some (.ref 6) ∧
 (staticsOk (importedModules F9.main.body) x.1.heap x.2.abs.heap&&namesBound F9 x.2.abs.heap&&gensDone x.2.abs&&laidKept x.1.heap x.2.abs.heap)=true ∧
 PySem.W.Fast.tw4187177175401517315 v6 xK (PySem.W.Fast.tw5923862056798008813 F9.main.body) X6 true x.2.abs=openGood v6 xK ∧
 Nat.blt 784 x.2.n=true∧(x.2.tree.get 70).bind alive=some (tabObj #[])∧(x.2.tree.get 784).bind alive=some (tabObj #[])
@[irreducible] noncomputable def x6(w:World)(h:(go6 w).isSome=true):Shared×SharedT:=(go6 w).get h
@[irreducible] noncomputable def K6(w:World)(h:(go6 w).isSome=true):Frag:=kT (x6 w h).2
noncomputable abbrev P6(w:World):Prop:=∃ h:(go6 w).isSome=true,sS (x6 w h)∧xA (K6 w h)
theorem ZV(w:World):∃ h:(go6 ((w.withFollow "comprehension-iter-twice" false).withFollow "special-get-raises" false)).isSome=true,sS (x6 ((w.withFollow "comprehension-iter-twice" false).withFollow "special-get-raises" false) h):=by
 have h:(go6 ((w.withFollow "comprehension-iter-twice" false).withFollow "special-get-raises" false)).isSome=true:=by kernel_rfl
 exact⟨h,by kernel_rfl,by kernel_rfl,by kernel_rfl,by kernel_rfl,by kernel_rfl,by kernel_rfl,by kernel_rfl,by kernel_rfl⟩
theorem ZZ(w:World)(h:(go6 ((w.withFollow "comprehension-iter-twice" false).withFollow "special-get-raises" false)).isSome=true):xA (K6 ((w.withFollow "comprehension-iter-twice" false).withFollow "special-get-raises" false) h) :=
 ⟨⟨by kernel_rfl,⟨lX (by kernel_rfl) (by kernel_rfl),e8 (by kernel_rfl) (by kernel_rfl),e8 (by kernel_rfl) (by kernel_rfl),oC (by kernel_rfl) (by kernel_rfl)⟩,
  ⟨⟨by kernel_rfl,by kernel_rfl,by kernel_rfl⟩,⟨by kernel_rfl,by kernel_rfl,by kernel_rfl⟩,fun prog w A R s x p=>by kernel_rfl,⟨fun prog w A R s x=>by kernel_rfl,fun prog w R s x=>by unfold zK; kernel_rfl⟩,fun S l x p=>(by kernel_rfl:_=(some ((cW.take dZ.arity).zip [l,x,.none,p,.bool false])=some ((cW.take dZ.arity).zip [l,x,.none,p,.bool false]))).mpr rfl⟩,
  rR (by kernel_rfl),rQ (fun k prog w R s tk=>by kernel_rfl) ⟨fun prog w R s tk=>by kernel_rfl,fun prog w R s tk=>by kernel_rfl,fun prog w R s tk=>by kernel_rfl,fun prog w R s tk=>by kernel_rfl,fun prog w R s tk=>by kernel_rfl,fun prog w R s tk=>by kernel_rfl,fun prog w R s tk=>by kernel_rfl,fun prog w R s tk=>by kernel_rfl,fun prog w R s tk=>by kernel_rfl,fun prog w R s tk=>by kernel_rfl,fun prog w R s tk=>by kernel_rfl,fun prog w R s tk=>by kernel_rfl,fun prog w R s tk=>by kernel_rfl,trivial⟩⟩,⟨oJ (by kernel_rfl) (by kernel_rfl),by kernel_rfl⟩,lY (by kernel_rfl) (by kernel_rfl),by kernel_rfl⟩
theorem ZU(w:World):∃ h:(go6 ((w.withFollow "comprehension-iter-twice" false).withFollow "special-get-raises" true)).isSome=true,sS (x6 ((w.withFollow "comprehension-iter-twice" false).withFollow "special-get-raises" true) h):=by
 have h:(go6 ((w.withFollow "comprehension-iter-twice" false).withFollow "special-get-raises" true)).isSome=true:=by kernel_rfl
 exact⟨h,by kernel_rfl,by kernel_rfl,by kernel_rfl,by kernel_rfl,by kernel_rfl,by kernel_rfl,by kernel_rfl,by kernel_rfl⟩
theorem ZY(w:World)(h:(go6 ((w.withFollow "comprehension-iter-twice" false).withFollow "special-get-raises" true)).isSome=true):xA (K6 ((w.withFollow "comprehension-iter-twice" false).withFollow "special-get-raises" true) h) :=
 ⟨⟨by kernel_rfl,⟨lX (by kernel_rfl) (by kernel_rfl),e8 (by kernel_rfl) (by kernel_rfl),e8 (by kernel_rfl) (by kernel_rfl),oC (by kernel_rfl) (by kernel_rfl)⟩,
  ⟨⟨by kernel_rfl,by kernel_rfl,by kernel_rfl⟩,⟨by kernel_rfl,by kernel_rfl,by kernel_rfl⟩,fun prog w A R s x p=>by kernel_rfl,⟨fun prog w A R s x=>by kernel_rfl,fun prog w R s x=>by unfold zK; kernel_rfl⟩,fun S l x p=>(by kernel_rfl:_=(some ((cW.take dZ.arity).zip [l,x,.none,p,.bool false])=some ((cW.take dZ.arity).zip [l,x,.none,p,.bool false]))).mpr rfl⟩,
  rR (by kernel_rfl),rQ (fun k prog w R s tk=>by kernel_rfl) ⟨fun prog w R s tk=>by kernel_rfl,fun prog w R s tk=>by kernel_rfl,fun prog w R s tk=>by kernel_rfl,fun prog w R s tk=>by kernel_rfl,fun prog w R s tk=>by kernel_rfl,fun prog w R s tk=>by kernel_rfl,fun prog w R s tk=>by kernel_rfl,fun prog w R s tk=>by kernel_rfl,fun prog w R s tk=>by kernel_rfl,fun prog w R s tk=>by kernel_rfl,fun prog w R s tk=>by kernel_rfl,fun prog w R s tk=>by kernel_rfl,fun prog w R s tk=>by kernel_rfl,trivial⟩⟩,⟨oJ (by kernel_rfl) (by kernel_rfl),by kernel_rfl⟩,lY (by kernel_rfl) (by kernel_rfl),by kernel_rfl⟩
theorem ZT(w:World):∃ h:(go6 ((w.withFollow "comprehension-iter-twice" true).withFollow "special-get-raises" false)).isSome=true,sS (x6 ((w.withFollow "comprehension-iter-twice" true).withFollow "special-get-raises" false) h):=by
 have h:(go6 ((w.withFollow "comprehension-iter-twice" true).withFollow "special-get-raises" false)).isSome=true:=by kernel_rfl
 exact⟨h,by kernel_rfl,by kernel_rfl,by kernel_rfl,by kernel_rfl,by kernel_rfl,by kernel_rfl,by kernel_rfl,by kernel_rfl⟩
theorem ZX(w:World)(h:(go6 ((w.withFollow "comprehension-iter-twice" true).withFollow "special-get-raises" false)).isSome=true):xA (K6 ((w.withFollow "comprehension-iter-twice" true).withFollow "special-get-raises" false) h) :=
 ⟨⟨by kernel_rfl,⟨lX (by kernel_rfl) (by kernel_rfl),e8 (by kernel_rfl) (by kernel_rfl),e8 (by kernel_rfl) (by kernel_rfl),oC (by kernel_rfl) (by kernel_rfl)⟩,
  ⟨⟨by kernel_rfl,by kernel_rfl,by kernel_rfl⟩,⟨by kernel_rfl,by kernel_rfl,by kernel_rfl⟩,fun prog w A R s x p=>by kernel_rfl,⟨fun prog w A R s x=>by kernel_rfl,fun prog w R s x=>by unfold zK; kernel_rfl⟩,fun S l x p=>(by kernel_rfl:_=(some ((cW.take dZ.arity).zip [l,x,.none,p,.bool false])=some ((cW.take dZ.arity).zip [l,x,.none,p,.bool false]))).mpr rfl⟩,
  rR (by kernel_rfl),rQ (fun k prog w R s tk=>by kernel_rfl) ⟨fun prog w R s tk=>by kernel_rfl,fun prog w R s tk=>by kernel_rfl,fun prog w R s tk=>by kernel_rfl,fun prog w R s tk=>by kernel_rfl,fun prog w R s tk=>by kernel_rfl,fun prog w R s tk=>by kernel_rfl,fun prog w R s tk=>by kernel_rfl,fun prog w R s tk=>by kernel_rfl,fun prog w R s tk=>by kernel_rfl,fun prog w R s tk=>by kernel_rfl,fun prog w R s tk=>by kernel_rfl,fun prog w R s tk=>by kernel_rfl,fun prog w R s tk=>by kernel_rfl,trivial⟩⟩,⟨oJ (by kernel_rfl) (by kernel_rfl),by kernel_rfl⟩,lY (by kernel_rfl) (by kernel_rfl),by kernel_rfl⟩
theorem ZS(w:World):∃ h:(go6 ((w.withFollow "comprehension-iter-twice" true).withFollow "special-get-raises" true)).isSome=true,sS (x6 ((w.withFollow "comprehension-iter-twice" true).withFollow "special-get-raises" true) h):=by
 have h:(go6 ((w.withFollow "comprehension-iter-twice" true).withFollow "special-get-raises" true)).isSome=true:=by kernel_rfl
 exact⟨h,by kernel_rfl,by kernel_rfl,by kernel_rfl,by kernel_rfl,by kernel_rfl,by kernel_rfl,by kernel_rfl,by kernel_rfl⟩
theorem ZW(w:World)(h:(go6 ((w.withFollow "comprehension-iter-twice" true).withFollow "special-get-raises" true)).isSome=true):xA (K6 ((w.withFollow "comprehension-iter-twice" true).withFollow "special-get-raises" true) h) :=
 ⟨⟨by kernel_rfl,⟨lX (by kernel_rfl) (by kernel_rfl),e8 (by kernel_rfl) (by kernel_rfl),e8 (by kernel_rfl) (by kernel_rfl),oC (by kernel_rfl) (by kernel_rfl)⟩,
  ⟨⟨by kernel_rfl,by kernel_rfl,by kernel_rfl⟩,⟨by kernel_rfl,by kernel_rfl,by kernel_rfl⟩,fun prog w A R s x p=>by kernel_rfl,⟨fun prog w A R s x=>by kernel_rfl,fun prog w R s x=>by unfold zK; kernel_rfl⟩,fun S l x p=>(by kernel_rfl:_=(some ((cW.take dZ.arity).zip [l,x,.none,p,.bool false])=some ((cW.take dZ.arity).zip [l,x,.none,p,.bool false]))).mpr rfl⟩,
  rR (by kernel_rfl),rQ (fun k prog w R s tk=>by kernel_rfl) ⟨fun prog w R s tk=>by kernel_rfl,fun prog w R s tk=>by kernel_rfl,fun prog w R s tk=>by kernel_rfl,fun prog w R s tk=>by kernel_rfl,fun prog w R s tk=>by kernel_rfl,fun prog w R s tk=>by kernel_rfl,fun prog w R s tk=>by kernel_rfl,fun prog w R s tk=>by kernel_rfl,fun prog w R s tk=>by kernel_rfl,fun prog w R s tk=>by kernel_rfl,fun prog w R s tk=>by kernel_rfl,fun prog w R s tk=>by kernel_rfl,fun prog w R s tk=>by kernel_rfl,trivial⟩⟩,⟨oJ (by kernel_rfl) (by kernel_rfl),by kernel_rfl⟩,lY (by kernel_rfl) (by kernel_rfl),by kernel_rfl⟩
theorem By:∀ w:World,P6 w:=by
 have g:∀{w:World},(∃ h:(go6 w).isSome=true,sS (x6 w h))→(∀ h:(go6 w).isSome=true,xA (K6 w h))→P6 w:=fun a b=>let⟨h,s⟩:=a; ⟨h,s,b h⟩
 refine byRow2 "special-get-raises" (P:=P6) (fun w=>?_) fun w=>?_
 ·exact byRow2 "comprehension-iter-twice" (P:=fun w=>P6 (w.withFollow "special-get-raises" false)) (fun w=>g (ZV w) (ZZ w)) (fun w=>g (ZT w) (ZX w)) w
 ·exact byRow2 "comprehension-iter-twice" (P:=fun w=>P6 (w.withFollow "special-get-raises" true)) (fun w=>g (ZU w) (ZY w)) (fun w=>g (ZS w) (ZW w)) w
theorem WE(w:World):JJ (stepT (denote treeTable) (opening F9) w) (fenceModules? F9) (stepOk 34 (some (.ref 6))) (stepT (denote treeTable) F9 w) F9 6800=go6 w:=by
 unfold go6
 rw[PySem.W.Fast.te14364793385576792824,PySem.W.Fast.te11892475500146522536,PySem.W.Fast.te10156331382660048174,PySem.W.Fast.te6613529449190102663,PySem.W.Fast.te14289696077712309145]
theorem y6(w:World)(s:Shared×SharedT)(F:sS s)(H:xA (kT s.2)):Y6 s.2.abs :=
 have hn:784<s.2.n:=Nat.le_of_ble_eq_true F.2.2.2.2.2.1
 ⟨kT s.2,ZP s.2,H,IZ (Nat.lt_trans (by decide) hn) F.2.2.2.2.2.2.1,IZ hn F.2.2.2.2.2.2.2⟩
theorem ZL:LeftO r6.prog v6 xK X6 Y6 (fun _=>True) 6800:=ZK (p:=F9) fun w=>by
 obtain⟨h,F,H⟩:=By w
 refine⟨(x6 w h).1,(x6 w h).2,?_,⟨F.1,F.2.1,F.2.2.1⟩,F.2.2.2.1,?_,y6 w _ F (by unfold K6 at H; exact H)⟩
 ·rw[WE]; unfold x6; exact(Option.some_get h).symm
 ·rw[PySem.W.Fast.te4187177175401517315,PySem.W.Fast.te5923862056798008813]; exact F.2.2.2.2.1
end Kt.Internal
end
section
open PySem PySem.W PyProof.Rows
namespace Kt.Internal
section
variable{cl:jB}{ex:Nat→LO→St→Option (OV×St)}{f n:Nat}{ρ ρ':LO}{st st' st'':St}{s:OS}{ss A:kD}{a b e:OE}{u v w:OV}{r:Option (lZ×St)}
theorem aO(h:A6 cl ex f s ρ st=some (.next ρ',st'))(g:bO cl ex f ss ρ' st'=r):bO cl ex f (.cons s ss) ρ st=r:=(congrArg (Option.bind · _) h).trans g
theorem tR{c:OE}{B:kD}(h:j9 cl ex c ρ st=some (true,st'))(g:bO cl ex f A ρ st'=some (.next ρ',st''))(k:bO cl ex f ss ρ' st''=r):bO cl ex f (.cons (.ife c A B) ss) ρ st=r :=
 aO ((congrArg (Option.bind · _) h).trans g) k
theorem b9{c:OE}{B:kD}(h:j9 cl ex c ρ st=some (false,st'))(g:bO cl ex f B ρ st'=some (.next ρ',st''))(k:bO cl ex f ss ρ' st''=r):bO cl ex f (.cons (.ife c A B) ss) ρ st=r :=
 aO ((congrArg (Option.bind · _) h).trans g) k
theorem DI{c:OE}{B:kD}(h:j9 cl ex c ρ st=some (true,st'))(g:bO cl ex f A ρ st'=some (.ret v,st'')):bO cl ex f (.cons (.ife c A B) ss) ρ st=some (.ret v,st'') :=
 have e:A6 cl ex f (.ife c A B) ρ st=some (.ret v,st''):=(congrArg (Option.bind · _) h).trans g
 congrArg (Option.bind · _) e
theorem jJ{x:Nat}(h:cR cl ex e ρ st=some (v,st')):A6 cl ex f (.assign x e) ρ st=some (.next (ρ.set x (some v)),st'):=congrArg (Option.map _) h
theorem rG(h:cR cl ex e ρ st=some (v,st')):bO cl ex f (.cons (.ret e) ss) ρ st=some (.ret v,st'):=congrArg (fun o=>Option.bind (Option.map (fun p:OV×St=>(lZ.ret p.1,p.2)) o) _) h
theorem BV{lo hi:OO}{x y:Option Int}(ha:cR cl ex a ρ st=some (v,st))(h1:XA cl ex lo ρ st=some (x,st))(h2:XA cl ex hi ρ st=some (y,st))(hs:IH v x y=some u):cR cl ex (.slc a lo hi) ρ st=some (u,st) :=
 (congrArg (Option.bind · _) ha).trans ((congrArg (Option.bind · _) h1).trans ((congrArg (Option.bind · _) h2).trans (congrArg (Option.map _) hs)))
theorem VC{op:Operator}(ha:cR cl ex a ρ st=some (v,st))(hb:cR cl ex b ρ st=some (w,st))(hs:GJ op v w=some u):cR cl ex (.bin op a b) ρ st=some (u,st) :=
 (congrArg (Option.bind · _) ha).trans ((congrArg (Option.bind · _) hb).trans (congrArg (Option.map _) hs))
theorem BW(ha:cR cl ex a ρ st=some (v,st))(hb:cR cl ex b ρ st=some (w,st))(hs:fQ st v w=some u):cR cl ex (.idx a b) ρ st=some (u,st) :=
 (congrArg (Option.bind · _) ha).trans ((congrArg (Option.bind · _) hb).trans (congrArg (Option.map _) hs))
theorem sZ{op:CmpOp}(ha:cR cl ex a ρ st=some (v,st))(hb:cR cl ex b ρ st=some (w,st))(hs:BD op v w=some u):cR cl ex (.cmp op a b) ρ st=some (u,st) :=
 (congrArg (Option.bind · _) ha).trans ((congrArg (Option.bind · _) hb).trans (congrArg (Option.map _) hs))
theorem BX{t:Bool}(h:cR cl ex e ρ st=some (.d (.bool t),st)):j9 cl ex e ρ st=some (t,st):=congrArg (Option.bind · _) h
end
noncomputable def XV(test:LO→St→Option (Bool×St))(body:LO→St→Option (lZ×St))(n:Nat)(r:lZ×St):Option (lZ×St):=match r.1 with
 | .next ρ | .cont ρ=>cX test body n ρ r.2
 | .brk ρ=>some (.next ρ,r.2)
 | .ret v=>some (.ret v,r.2)
theorem gJ{test:LO→St→Option (Bool×St)}{body:LO→St→Option (lZ×St)}{n:Nat}{ρ:LO}{st:St}{r:lZ×St}(ht:test ρ st=some (true,st))(hb:body ρ st=some r):cX test body (n+1) ρ st=XV test body n r :=
 (congrArg (Option.bind · _) ht).trans (congrArg (Option.bind · _) hb)
theorem nX{test:LO→St→Option (Bool×St)}{body:LO→St→Option (lZ×St)}{n:Nat}{ρ:LO}{st:St}(ht:test ρ st=some (false,st)):cX test body (n+1) ρ st=some (.next ρ,st):=congrArg (Option.bind · _) ht
noncomputable def gB:Nat→kD→kD
 | 0,ss=>ss
 | n+1,ss=>match ss with | .nil=>.nil | .cons _ r=>gB n r
theorem KS{A R:List Nat}{x:Nat}:cut (A++x::R) (some (A.length:Int)) (some ((A.length:Int)+1))=[x]:=by
 have h1:dH (A.length:Int) (A++x::R).length=A.length:=t3 (List.prefix_append _ _).length_le
 have h2:dH ((A.length:Int)+1) (A++x::R).length=A.length+1:=t3 (by rw[List.length_append]; exact Nat.add_le_add_left (Nat.le_add_left _ _) _)
 show((A++x::R).take (dH ((A.length:Int)+1) _)).drop (dH (A.length:Int) _)=_
 rw[h1,h2,List.take_length_add_append,List.drop_left]
 rfl
theorem tQ{q:Int}(h0:0≤q)(h:q<100000):vH (.d (.int q))=some q:=by
 have h1:decide ((-(2 ^ 62):Int)<q)=true:=decide_eq_true (Int.lt_of_lt_of_le (by decide +kernel) h0)
 have h2:decide (q<(2 ^ 62:Int))=true:=decide_eq_true (Int.lt_trans h (by decide +kernel))
 unfold vH qW pZ
 dsimp only
 rw[h1,h2]; rfl
theorem zT{n:Nat}(h:n<100000):vH (.d (.int (n:Int)))=some (n:Int):=tQ (Int.natCast_nonneg n) (Int.ofNat_lt.mpr h)
noncomputable def X7:Str := "abcdfeghijklmnopqrstuvwxyzABCDEFGHIJKLMNOPQRSTUVWXYZ0123456789_ßàáâãäåæçèéêëìíîïðñòóôõöøùúûüýþÿÀÁÂÃÄÅÆÇÈÉÊËÌÍÎÏÐÑÒÓÔÕÖØÙÚÛÜÝÞ"
noncomputable def Cy(s t:OV):List (Str×OV):=[("instream",.o 2),("infile",.d .none),("posix",.d (.bool true)),("eof",.d .none),("commenters",.d (.str "")),("wordchars",.d (.str X7)),("whitespace",.d (.str " \t\r\n")),("whitespace_split",.d (.bool true)),("quotes",.d (.str "'\"")),("escape",.d (.str "\\")),
 ("escapedquotes",.d (.str "\"")),("state",s),("pushback",.o 4),("lineno",.d (.int 1)),("debug",.d (.int 0)),("token",t),("filestack",.o 5),("source",.d .none),("_punctuation_chars",.d (.str ""))]
noncomputable def Dj(buf:Str)(p:Int):List (Str×OV):=[("_StringIO__newline",.d (.str "\n")),("_StringIO__buf",.d (.str buf)),("_StringIO__pos",.d (.int p))]
noncomputable def rS(s t:OV)(buf:Str)(p:Int)(z:St):St:=.inst 0 :: .dict (Cy s t) :: .inst 1 :: .dict (Dj buf p) :: .deq :: .deq::z
section
variable{F L:Nat}{s t:OV}{buf:Str}{p q:Int}{z:St}
theorem E2:aN F (L+2) 1 [.o 2,.d (.int 1)] (rS s t buf p z)=eH (bO (aN F (L+1)) (eG F (aN F (L+1))) F (gB 5 JA.body) [some (.o 2),some (.d (.int 1)),some (.d (.int p)),some (.d (.int buf.length))] (rS s t buf p z)):=by kernel_rfl
theorem E1:j9 (aN F (L+1)) (eG F (aN F (L+1))) (.cmp .GtE (.var 2) (.var 3)) [some (.o 2),some (.d (.int 1)),some (.d (.int p)),some (.d (.int q))] (rS s t buf p z)=some (decide (p≥q),rS s t buf p z):=by kernel_rfl
theorem zR:j9 (aN F (L+1)) (eG F (aN F (L+1))) (.bool true (.cmp .GtE (.var 1) (.lit (.int 0))) (.cmp .Lt (.bin .Add (.var 2) (.var 1)) (.var 3))) [some (.o 2),some (.d (.int 1)),some (.d (.int p)),some (.d (.int q))] (rS s t buf p z)=some (decide (p+1<q),rS s t buf p z):=by kernel_rfl
theorem PD:bO (aN F (L+1)) (eG F (aN F (L+1))) F (.cons (.assign 3 (.bin .Add (.var 2) (.var 1))) .nil) [some (.o 2),some (.d (.int 1)),some (.d (.int p)),some (.d (.int q))] (rS s t buf p z)=some (.next [some (.o 2),some (.d (.int 1)),some (.d (.int p)),some (.d (.int (p+1)))],rS s t buf p z):=by kernel_rfl
theorem U5:A6 (aN F (L+1)) (eG F (aN F (L+1))) F (.setA 1 (.var 0) ("_StringIO__pos" : Str) (.var 3)) [some (.o 2),some (.d (.int 1)),some (.d (.int p)),some (.d (.int q))] (rS s t buf p z)=some (.next [some (.o 2),some (.d (.int 1)),some (.d (.int p)),some (.d (.int q))],rS s t buf q z):=by kernel_rfl
theorem MX(h:(buf.length:Int)≤p):aN F (L+2) 1 [.o 2,.d (.int 1)] (rS s t buf p z)=some (.d (.str ""),rS s t buf p z) :=
 E2.trans (congrArg eH (DI (E1.trans (congrArg (fun b=>some (b,rS s t buf p z)) (decide_eq_true h))) (v:=.d (.str "")) (st'':=rS s t buf p z) (by kernel_rfl)))
theorem PH{c:Nat}(h0:0≤p)(h1:p+1<100000)(hs:IH (.d (.str buf)) (some p) (some (p+1))=some (.d (.str ⟨#[c]⟩))):bO (aN F (L+1)) (eG F (aN F (L+1))) F (gB 7 JA.body) [some (.o 2),some (.d (.int 1)),some (.d (.int p)),some (.d (.int (p+1)))] (rS s t buf p z)=some (.ret (.d (.str ⟨#[c]⟩)),rS s t buf (p+1) z) :=
 aO U5 (rG (BV (VC (BV (v:=.d (.str buf)) (x:=some p) (y:=some (p+1)) (by kernel_rfl) (congrArg (Option.map fun i=>(some i,rS s t buf (p+1) z)) (tQ h0 (Int.lt_trans (Int.lt_add_one_of_le (Int.le_refl p)) h1))) (congrArg (Option.map fun i=>(some i,rS s t buf (p+1) z)) (tQ (Int.le_add_one h0) h1)) hs) (w:=.d (.str " ")) (u:=.d (.str ⟨#[c,32]⟩)) (by kernel_rfl) (by kernel_rfl)) (x:=none) (y:=some (-1)) rfl (by kernel_rfl) (by kernel_rfl)))
theorem QT{A R:List Nat}{c:Nat}(hb:A.length<90000):aN F (L+2) 1 [.o 2,.d (.int 1)] (rS s t ⟨(A++c::R).toArray⟩ A.length z)=some (.d (.str ⟨#[c]⟩),rS s t ⟨(A++c::R).toArray⟩ ((A.length:Int)+1) z):=by
 have hl:((⟨(A++c::R).toArray⟩:Str).length:Int)=(A.length:Int)+1+(R.length:Int):=by
  exact congrArg (Nat.cast:Nat→Int) (List.length_append.trans (Nat.add_right_comm A.length R.length 1))
 have hs:IH (.d (.str ⟨(A++c::R).toArray⟩)) (some (A.length:Int)) (some ((A.length:Int)+1))=some (.d (.str ⟨#[c]⟩)):=congrArg (fun l:List Nat=>some (OV.d (.str ⟨l.toArray⟩))) KS
 have h0:=Int.natCast_nonneg A.length
 have h1:(A.length:Int)+1<100000:=Int.lt_of_lt_of_le (Int.add_lt_add_right (Int.ofNat_lt.mpr hb) 1) (by decide)
 have hr:=fun a=>Int.le_add_of_nonneg_right (a:=a) (Int.natCast_nonneg R.length)
 generalize (⟨(A++c::R).toArray⟩:Str)=buf at hl hs ⊢
 generalize (A.length:Int)=p at hl hs h0 h1 ⊢
 have l1:=PH (F:=F) (L:=L) (s:=s) (t:=t) (z:=z) h0 h1 hs
 refine E2.trans (congrArg eH (a₂:=some (.ret (.d (.str ⟨#[c]⟩)),rS s t buf (p+1) z)) (b9 (E1.trans (congrArg (fun b=>some (b,rS s t buf p z)) (decide_eq_false ?_))) rfl ?_))
 ·exact hl▸Int.not_le.mpr (Int.lt_of_lt_of_le (Int.lt_add_one_of_le (Int.le_refl p)) (hr _))
 rw[hl]
 by_cases hlt:p+1<p+1+(R.length:Int)
 ·exact tR (zR.trans (congrArg (fun b=>some (b,rS s t buf p z)) (decide_eq_true hlt))) PD l1
 ·refine b9 (zR.trans (congrArg (fun b=>some (b,rS s t buf p z)) (decide_eq_false hlt))) rfl ?_
  rw[show p+1+(R.length:Int)=p+1 from Int.le_antisymm (Int.not_lt.mp hlt) (hr _)]
  exact l1
end
noncomputable def J1:kD:=gB 1 pG
noncomputable abbrev rL(q:Bool)(c:Option OV):LO:=[some (.o 0),some (.d (.bool q)),some (.d (.str " ")),none,c]
structure RS where
 q:Bool
 s:OV
 t:OV
noncomputable def sg(c:Nat):OV:=.d (.str ⟨#[c]⟩)
section
variable{F L f n:Nat}{ex:Nat→LO→St→Option (OV×St)}{cl:jB}{s t:OV}{p:Int}{buf:Str}{z:St}{q:Bool}{c:Option OV}
theorem PB:cR cl ex (.mcall 1 (.attr 0 (.var 0) ("instream" : Str)) ("read" : Str) 1 (.cons (.lit (.int 1)) .nil)) (rL q c) (rS s t buf p z)=cl 1 [.o 2,.d (.int 1)] (rS s t buf p z):=by kernel_rfl
theorem E0{v:OV}{st':St}{r:Option (lZ×St)}(h:aN F (L+2) 1 [.o 2,.d (.int 1)] (rS s t buf p z)=some (v,st'))(g:bO (aN F (L+2)) ex f J1 (rL q (some v)) st'=r):bO (aN F (L+2)) ex f pG (rL q c) (rS s t buf p z)=r :=
 b9 (st':=rS s t buf p z) (by kernel_rfl) (aO (jJ (PB.trans h)) rfl) g
def Tr(F L f:Nat)(ex:Nat→LO→St→Option (OV×St))(fl:LO→lZ)(a:RS)(v:OV)(b:RS):Prop:=∀(buf:Str)(p:Int)(z:St),bO (aN F (L+2)) ex f J1 (rL a.q (some v)) (rS a.s a.t buf p z)=some (fl (rL b.q (some v)),rS b.s b.t buf p z)
theorem OT{c:Nat}(h:c=97∨c=98∨c=45):Tr F L f ex .next ⟨false,sg 32,.d (.str "")⟩ (sg c) ⟨false,sg 97,sg c⟩:=fun buf p z=>by
 rcases h with rfl | rfl | rfl <;> kernel_rfl
theorem RR:Tr F L f ex .next ⟨q,sg 32,t⟩ (sg 39) ⟨q,sg 39,t⟩:=fun buf p z=>by kernel_rfl
theorem IY:Tr F L f ex .next ⟨q,sg 39,t⟩ (sg 39) ⟨true,sg 97,t⟩:=fun buf p z=>by kernel_rfl
theorem YC:Tr F L f ex .next ⟨q,sg 97,t⟩ (sg 34) ⟨q,sg 34,t⟩:=fun buf p z=>by kernel_rfl
theorem YB:Tr F L f ex .next ⟨q,sg 34,.d (.str "")⟩ (sg 39) ⟨true,sg 34,sg 39⟩:=fun buf p z=>by kernel_rfl
theorem YA:Tr F L f ex .next ⟨q,sg 34,t⟩ (sg 34) ⟨true,sg 97,t⟩:=fun buf p z=>by kernel_rfl
theorem X9:Tr F L f ex .next ⟨q,sg 97,t⟩ (sg 39) ⟨q,sg 39,t⟩:=fun buf p z=>by kernel_rfl
theorem YD{c:Nat}(hs:jC c=true)(hc:fK c=false)(h39:c≠39):Tr F L f ex .next ⟨q,sg 39,.d (.str "")⟩ (sg c) ⟨true,sg 39,sg c⟩:=by
 revert hc h39
 refine pM (m:=fun c=>fK c=false→c≠39→Tr F L f ex .next ⟨q,sg 39,.d (.str "")⟩ (sg c) ⟨true,sg 39,sg c⟩) hs ⟨?_,?_,?_,?_,?_,?_,?_,?_,?_,?_,?_,?_,?_⟩ fun k _ _ buf p z=>by kernel_rfl
 ·exact fun h=>nomatch h
 ·exact fun _ h=>absurd rfl h
 all_goals first | exact(fun _ _ buf p z=>by kernel_rfl)| exact fun h=>nomatch h
theorem UA{c:Nat}:Tr F L f ex .brk ⟨q,sg 97,sg c⟩ (sg 32) ⟨q,sg 32,sg c⟩:=fun buf p z=>by kernel_rfl
theorem UB:Tr F L f ex .brk ⟨q,sg 97,t⟩ (.d (.str "")) ⟨q,.d .none,t⟩:=fun buf p z=>by kernel_rfl
theorem OU:Tr F L f ex .brk ⟨q,.d .none,t⟩ (.d (.str "")) ⟨q,.d .none,.d (.str "")⟩:=fun buf p z=>by kernel_rfl
end
noncomputable def qw(c:Nat):List Nat:=bif fK c then [c]else bif c==39 then [39,39,34,39,34,39,39]else [39,c,39]
section
variable{F L f n:Nat}{ex:Nat→LO→St→Option (OV×St)}{z:St}
noncomputable abbrev rW(F L f:Nat)(ex:Nat→LO→St→Option (OV×St))(n:Nat)(c:Option OV)(a:RS)(l:List Nat)(p:Nat)(z:St):Option (lZ×St) :=
 cX (j9 (aN F (L+2)) ex tA) (bO (aN F (L+2)) ex f pG) n (rL a.q c) (rS a.s a.t ⟨l.toArray⟩ p z)
theorem EW{ρ:LO}{st:St}:j9 (aN F (L+2)) ex tA ρ st=some (true,st):=rfl
theorem R3{fl:LO→lZ}{a b:RS}{A R l:List Nat}{x:Nat}{c:Option OV}(T:Tr F L f ex fl a (sg x) b)(hb:A.length<90000)(hl:l=A++x::R) :
  rW F L f ex (n+1) c a l A.length z=XV (j9 (aN F (L+2)) ex tA) (bO (aN F (L+2)) ex f pG) n (fl (rL b.q (some (sg x))),rS b.s b.t ⟨l.toArray⟩ (A++[x]).length z):=by
 subst hl
 refine gJ EW (E0 (QT hb) ?_)
 rw[List.length_append]
 exact T _ _ z
theorem J0{a b:RS}{l:List Nat}{c:Option OV}(T:Tr F L f ex .brk a (.d (.str "")) b):rW F L f ex (n+1) c a l l.length z=some (.next (rL b.q (some (.d (.str "")))),rS b.s b.t ⟨l.toArray⟩ l.length z) :=
 gJ EW (E0 (MX (Int.le_refl _)) (T _ _ z))
noncomputable def Az(F L f:Nat)(ex:Nat→LO→St→Option (OV×St)):RS→List Nat→RS→Prop
 | a,[],b=>a=b
 | a,x::xs,b=>∃ m,Tr F L f ex .next a (sg x) m∧Az F L f ex m xs b
theorem JZ{b:RS}{l R:List Nat}{xs:List Nat}:∀{a:RS}{A:List Nat}{c:Option OV},Az F L f ex a xs b→l=A++(xs++R)→(A++xs).length<90000→∃ c',rW F L f ex (n+xs.length) c a l A.length z=rW F L f ex n c' b l (A++xs).length z:=by
 induction xs with
 | nil=>exact fun{a A c}h _ _=>by cases h; exact⟨c,by rw[List.append_nil]; rfl⟩
 | cons x xs ih =>
  intro a A c h hl hb
  obtain⟨m,h1,h2⟩:=h
  have e:A++x::xs=A++[x]++xs:=(List.append_assoc A [x] xs).symm
  have hl2:l=A++[x]++(xs++R):=hl.trans (List.append_assoc A [x] (xs++R)).symm
  obtain⟨c',g⟩:=ih (A:=A++[x]) (c:=some (sg x)) h2 hl2 (e▸hb)
  exact⟨c',(R3 h1 (Nat.lt_of_le_of_lt (List.length_append▸Nat.le_add_right _ _) hb) hl).trans (g.trans (by rw[e]))⟩
theorem zL{x:Nat}(hx:jC x=true):Az F L f ex ⟨false,sg 32,.d (.str "")⟩ (qw x) ⟨!fK x,sg 97,sg x⟩:=by
 have h0:(!fK x||(x==97||(x==98||x==45)))=true:=pM (m:=fun x=>(!fK x||(x==97||(x==98||x==45)))=true) hx (by refine⟨?_,?_,?_,?_,?_,?_,?_,?_,?_,?_,?_,?_,?_⟩ <;> kernel_rfl) fun k=>by kernel_rfl
 unfold qw
 cases hs:fK x with
 | true =>
  rw[hs]at h0
  have h0:(x==97||(x==98||x==45))=true:=h0
  exact⟨_,OT ((Bool.or_eq_true_iff.mp h0).imp eq_of_beq fun h=>(Bool.or_eq_true_iff.mp h).imp eq_of_beq eq_of_beq),rfl⟩
 | false =>
  cases h:x==39 with
  | true=>rw[eq_of_beq h]; exact⟨_,RR,_,IY,_,YC,_,YB,_,YA,_,X9,_,IY,rfl⟩
  | false=>exact⟨_,RR,_,YD hx hs (ne_of_beq_false h),_,IY,rfl⟩
end
noncomputable def NY:List Nat→List Nat
 | []=>[]
 | c::r=>match r with | []=>qw c | _::_=>qw c++32::NY r
section
variable{F L n:Nat}{z:St}
theorem O7{f x:Nat}{ex:Nat→LO→St→Option (OV×St)}{A:List Nat}{c:Option OV}(hx:jC x=true)(hb:(A++qw x).length<90000) :
  ∃ c',rW F L f ex (n+1+(qw x).length) c ⟨false,sg 32,.d (.str "")⟩ (A++qw x) A.length z=some (.next (rL (!fK x) c'),rS (.d .none) (sg x) ⟨(A++qw x).toArray⟩ (A++qw x).length z):=by
 obtain⟨c',h⟩:=JZ (F:=F) (L:=L) (f:=f) (ex:=ex) (n:=n+1) (z:=z) (R:=[]) (A:=A) (c:=c) (zL hx) (by rw[List.append_nil]) hb
 exact⟨_,h.trans (J0 UB)⟩
theorem O6{f x:Nat}{ex:Nat→LO→St→Option (OV×St)}{A R:List Nat}{c:Option OV}(hx:jC x=true)(hb:(A++qw x).length<90000) :
  ∃ c',rW F L f ex (n+1+(qw x).length) c ⟨false,sg 32,.d (.str "")⟩ (A++(qw x++32::R)) A.length z=some (.next (rL (!fK x) c'),rS (sg 32) (sg x) ⟨(A++(qw x++32::R)).toArray⟩ (A++qw x++[32]).length z):=by
 obtain⟨c',h⟩:=JZ (F:=F) (L:=L) (f:=f) (ex:=ex) (n:=n+1) (z:=z) (R:=32::R) (A:=A) (c:=c) (zL hx) rfl hb
 exact⟨_,h.trans (R3 UA hb (List.append_assoc ..).symm)⟩
noncomputable def At(F L:Nat)(r:lZ×St):Option (lZ×St):=match r.1 with
 | .next ρ'=>bO (aN F (L+2)) (eG F (aN F (L+2))) F (gB 3 SD.body) ρ' r.2
 | g=>some (g,r.2)
noncomputable abbrev As(F L:Nat)(st:St):Option (lZ×St):=cX (j9 (aN F (L+2)) (eG F (aN F (L+2))) tA) (bO (aN F (L+2)) (eG F (aN F (L+2))) F pG) F (rL false none) st
theorem EY{s t:OV}{buf:Str}{p:Int}:aN F (L+3) 6 [.o 0] (rS s t buf p z)=eH (Option.bind (As F L (rS s t buf p z)) (At F L)):=by kernel_rfl
theorem EX{s s' t:OV}{buf:Str}{p p':Int}{x:Nat}{b:Bool}{c:Option OV}(h:As F L (rS s t buf p z)=some (.next (rL b c),rS s' (sg x) buf p' z)):aN F (L+3) 6 [.o 0] (rS s t buf p z)=some (sg x,rS s' (.d (.str "")) buf p' z) :=
 EY.trans ((congrArg (fun o=>eH (Option.bind o (At F L))) h).trans (by cases b <;> kernel_rfl))
theorem O8{s s' t:OV}{buf:Str}{p p':Int}{c:Option OV}(h:As F L (rS s t buf p z)=some (.next (rL false c),rS s' (.d (.str "")) buf p' z)):aN F (L+3) 6 [.o 0] (rS s t buf p z)=some (.d .none,rS s' (.d (.str "")) buf p' z) :=
 EY.trans ((congrArg (fun o=>eH (Option.bind o (At F L))) h).trans (by kernel_rfl))
theorem FT{cl:jB}{ex:Nat→LO→St→Option (OV×St)}{ρ:LO}{s t:OV}{buf:Str}{p:Int}:cR cl ex (.mcall 0 (.var 0) ("read_token" : Str) 6 .nil) (some (.o 0)::ρ) (rS s t buf p z)=cl 6 [.o 0] (rS s t buf p z):=by kernel_rfl
theorem FS{s s':OV}{buf:Str}{p p':Int}{x:Nat}(h:aN (F+1) (L+3) 6 [.o 0] (rS s (.d (.str "")) buf p z)=some (sg x,rS s' (.d (.str "")) buf p' z)):aN (F+1) (L+4) 7 [.o 0] (rS s (.d (.str "")) buf p z)=some (sg x,rS s' (.d (.str "")) buf p' z) :=
 (show aN (F+1) (L+4) 7 [.o 0] (rS s (.d (.str "")) buf p z)=eH (bO (aN (F+1) (L+3)) (eG (F+1) (aN (F+1) (L+3))) (F+1) I9.body [some (.o 0),none,none,none,none,none] (rS s (.d (.str "")) buf p z)) by kernel_rfl).trans
  ((congrArg eH (b9 (st':=rS s (.d (.str "")) buf p z) (by kernel_rfl) rfl (aO (jJ (FT.trans h)) rfl))).trans (by kernel_rfl))
theorem Q0{s s':OV}{buf:Str}{p p':Int}(h:aN (F+1) (L+3) 6 [.o 0] (rS s (.d (.str "")) buf p z)=some (.d .none,rS s' (.d (.str "")) buf p' z)):aN (F+1) (L+4) 7 [.o 0] (rS s (.d (.str "")) buf p z)=some (.d .none,rS s' (.d (.str "")) buf p' z) :=
 (show aN (F+1) (L+4) 7 [.o 0] (rS s (.d (.str "")) buf p z)=eH (bO (aN (F+1) (L+3)) (eG (F+1) (aN (F+1) (L+3))) (F+1) I9.body [some (.o 0),none,none,none,none,none] (rS s (.d (.str "")) buf p z)) by kernel_rfl).trans
  ((congrArg eH (b9 (st':=rS s (.d (.str "")) buf p z) (by kernel_rfl) rfl (aO (jJ (FT.trans h)) rfl))).trans (by kernel_rfl))
theorem FG{cl:jB}{s s':OV}{buf:Str}{p p':Int}{x:Nat}(h:cl 7 [.o 0] (rS s (.d (.str "")) buf p z)=some (sg x,rS s' (.d (.str "")) buf p' z)):sK cl (.o 0) (rS s (.d (.str "")) buf p z)=some (some (sg x),rS s' (.d (.str "")) buf p' z) :=
 (congrArg (Option.bind · _) ((show cR cl (fun _ _ _=>none) vI [some (.o 0),none] (rS s (.d (.str "")) buf p z)=cl 7 [.o 0] (rS s (.d (.str "")) buf p z) by kernel_rfl).trans h)).trans (by kernel_rfl)
theorem QL{cl:jB}{s s':OV}{buf:Str}{p p':Int}(h:cl 7 [.o 0] (rS s (.d (.str "")) buf p z)=some (.d .none,rS s' (.d (.str "")) buf p' z)):sK cl (.o 0) (rS s (.d (.str "")) buf p z)=some (none,rS s' (.d (.str "")) buf p' z) :=
 (congrArg (Option.bind · _) ((show cR cl (fun _ _ _=>none) vI [some (.o 0),none] (rS s (.d (.str "")) buf p z)=cl 7 [.o 0] (rS s (.d (.str "")) buf p z) by kernel_rfl).trans h)).trans (by kernel_rfl)
end
def Ps(ws l:List Nat)(s:OV)(p:Int):Prop:=match ws with
 | []=>s = .d .none∧p=l.length
 | _::_=>s=sg 32∧∃ A,l=A++NY ws∧p=A.length
theorem BP(x:Nat):(qw x).length≤7:=by
 unfold qw
 cases fK x with
 | true=>exact(show 1≤7 by decide)
 | false=>cases x==39 with | true=>exact Nat.le_refl 7 | false=>exact(show 3≤7 by decide)
section
variable{F L n:Nat}{ws l:List Nat}{x:Nat}{s:OV}{p:Int}
theorem QJ(hx:jC x=true)(hb:l.length<90000)(hF:8≤F)(h:Ps (x::ws) l s p):∃ s' p',Ps ws l s' p'∧∀ z,sK (aN (F+1) (L+4)) (.o 0) (rS s (.d (.str "")) ⟨l.toArray⟩ p z)=some (some (sg x),rS s' (.d (.str "")) ⟨l.toArray⟩ p' z):=by
 obtain⟨rfl,A,hl,rfl⟩:=h
 obtain⟨n,hn⟩:∃ n,F+1=n+1+(qw x).length:=⟨F - (qw x).length,by rw[Nat.add_right_comm,Nat.sub_add_cancel (Nat.le_trans (BP x) (Nat.le_of_succ_le hF))]⟩
 cases ws with
 | nil =>
  have hl:l=A++qw x:=hl
  subst hl
  refine⟨_,_,⟨rfl,rfl⟩,fun z=>?_⟩
  obtain⟨c',h⟩:=O7 (F:=F+1) (L:=L+0) (f:=F+1) (ex:=eG (F+1) (aN (F+1) (L+2))) (n:=n) (z:=z) (A:=A) (c:=none) hx hb
  exact FG (FS (EX (congrArg (fun k=>cX _ _ k _ _) hn |>.trans h)))
 | cons y ws =>
  have hl:l=A++(qw x++32::NY (y::ws)):=hl
  subst hl
  refine⟨_,_,⟨rfl,A++qw x++[32],by rw[List.append_assoc,List.append_assoc]; rfl,rfl⟩,fun z=>?_⟩
  obtain⟨c',h⟩:=O6 (F:=F+1) (L:=L+0) (f:=F+1) (ex:=eG (F+1) (aN (F+1) (L+2))) (n:=n) (z:=z) (A:=A) (R:=NY (y::ws)) (c:=none) hx (Nat.lt_of_le_of_lt (by rw[List.length_append,List.length_append,List.length_append]; exact Nat.add_le_add_left (Nat.le_add_right _ _) _) hb)
  exact FG (FS (EX (congrArg (fun k=>cX _ _ k _ _) hn |>.trans h)))
theorem QK{z:St}(h:Ps [] l s p):sK (aN (F+1) (L+4)) (.o 0) (rS s (.d (.str "")) ⟨l.toArray⟩ p z)=some (none,rS (.d .none) (.d (.str "")) ⟨l.toArray⟩ l.length z):=by
 obtain⟨rfl,rfl⟩:=h
 have h:=J0 (F:=F+1) (L:=L) (f:=F+1) (ex:=eG (F+1) (aN (F+1) (L+2))) (n:=F) (z:=z) (a:=⟨false,.d .none,.d (.str "")⟩) (l:=l) (c:=none) OU
 exact QL (Q0 (O8 h))
theorem CZ(hb:l.length<90000)(hF:8≤F):∀{ws:List Nat}{n:Nat}{s:OV}{p:Int}{acc:List OV},(∀ c∈ws,jC c=true)→Ps ws l s p→ws.length<n→acc.length+ws.length≤1000 →
  lD (aN (F+1) (L+4)) n (.o 0) 6 (rS s (.d (.str "")) ⟨l.toArray⟩ p [.list acc])=some (.o 6,rS (.d .none) (.d (.str "")) ⟨l.toArray⟩ l.length [.list (acc++ws.map sg)]):=by
 intro ws
 induction ws with
 | nil =>
  intro n s p acc _ h hn _
  obtain⟨n,rfl⟩:=Nat.exists_eq_add_of_lt hn
  rw[List.map_nil,List.append_nil,show([]:List Nat).length+n+1=n+1 from congrArg (· + 1) (Nat.zero_add n)]
  exact congrArg (Option.bind · _) (QK h)
 | cons x ws ih =>
  intro n s p acc hc h hn ha
  obtain⟨n,rfl⟩:=Nat.exists_eq_succ_of_ne_zero (Nat.ne_of_gt (Nat.lt_of_le_of_lt (Nat.zero_le _) hn))
  obtain⟨s',p',h',hnx⟩:=QJ (L:=L) (hc x List.mem_cons_self) hb hF h
  have ha':(acc++[sg x]).length+ws.length≤1000:=by rw[List.length_append,Nat.add_assoc,Nat.add_comm [sg x].length]; exact ha
  have hpush:nE (rS s' (.d (.str "")) ⟨l.toArray⟩ p' [.list acc]) 6 (sg x)=some (rS s' (.d (.str "")) ⟨l.toArray⟩ p' [.list (acc++[sg x])]):=if_pos (Nat.le_trans (Nat.le_add_right _ _) ha)
  have e:acc++(x::ws).map sg=acc++[sg x]++ws.map sg:=(List.append_assoc acc [sg x] (ws.map sg)).symm
  rw[e]
  exact(congrArg (Option.bind · _) (hnx [.list acc])).trans ((congrArg (Option.bind · _) hpush).trans (ih (fun c h=>hc c (List.mem_cons_of_mem _ h)) h' (Nat.lt_of_succ_lt_succ hn) ha'))
end
theorem R4(x:Nat):qS x=⟨(qw x).toArray⟩:=by
 unfold qS qw sA
 cases fK x with
 | true=>rfl
 | false =>
  cases h:x==39 with
  | true=>kernel_rfl
  | false=>kernel_rfl
theorem jH(a b:List Nat):(⟨a.toArray⟩:Str)++⟨b.toArray⟩=⟨(a++b).toArray⟩:=congrArg Str.mk (List.append_toArray a b)
theorem QV(cs:List Nat):Str.join " " (cs.map qS)=⟨(NY cs).toArray⟩:=by
 induction cs with
 | nil=>rfl
 | cons x cs ih =>
  cases cs with
  | nil=>exact R4 x
  | cons y cs =>
   show qS x ++ " " ++ Str.join " " ((y::cs).map qS)=⟨(qw x++32::NY (y::cs)).toArray⟩
   rw[ih,R4 x,show(" " : Str)=⟨[32].toArray⟩from rfl,jH,jH,List.append_assoc]; rfl
theorem V6(cs:List Nat):(NY cs).length≤8*cs.length:=by
 induction cs with
 | nil=>exact Nat.le_refl _
 | cons x cs ih =>
  cases cs with
  | nil=>exact Nat.le_trans (BP x) (show 7≤8 by decide)
  | cons y cs =>
   show(qw x++32::NY (y::cs)).length≤_
   rw[List.length_append,List.length_cons,List.length_cons,Nat.mul_succ,Nat.add_comm]
   exact Nat.le_trans (Nat.add_le_add (Nat.succ_le_succ ih) (BP x)) (Nat.le_of_eq (Nat.succ_add_eq_add_succ _ 7))
theorem M9{cs:List Nat}(h:∀ c∈cs,bL (wD c)=true):tC (cs.map sg)=some (cs.map wD):=by
 induction cs with
 | nil=>rfl
 | cons x cs ih =>
  show(if(flat (wD x)&&bL (wD x))=true then(tC (cs.map sg)).map (wD x :: ·)else none)=_
  rw[h x List.mem_cons_self,ih fun c hc=>h c (List.mem_cons_of_mem _ hc)]; rfl
theorem C5{F:Nat}{x:Str}:aN F 6 15 [.d (.str x)] []=eH (Option.bind (Option.map (fun p:OV×St=>(lZ.ret p.1,p.2)) (lD (aN F 5) F (.o 0) 6 (rS (sg 32) (.d (.str "")) x 0 [.list []]))) fun r=>match r.1 with
 | .next ρ'=>bO (aN F 5) (eG F (aN F 5)) F .nil ρ' r.2
 | g=>some (g,r.2)):=by kernel_rfl
theorem C4{F:Nat}{cs:List Nat}(hc:∀ c∈cs,jC c=true)(hok:∀ c∈cs,bL (wD c)=true)(hne:cs≠[])(hl:cs.length≤900)(hF:900≤F):pA (F+1) (Str.join " " (cs.map qS))=some (.list (cs.map wD)):=by
 have hb:(NY cs).length<90000:=Nat.lt_of_le_of_lt (Nat.le_trans (V6 cs) (Nat.mul_le_mul_left 8 hl)) (by decide)
 have hP:Ps cs (NY cs) (sg 32) (0:Int):=by
  cases cs with
  | nil=>exact absurd rfl hne
  | cons y cs=>exact⟨rfl,[],rfl,rfl⟩
 have h:=CZ (L:=1) (n:=F+1) (acc:=[]) hb (Nat.le_trans (by decide) hF) hc hP (Nat.lt_succ_of_le (Nat.le_trans hl hF)) (by rw[List.length_nil,Nat.zero_add]; exact Nat.le_trans hl (by decide))
 rw[QV]
 unfold pA
 rw[C5,h]
 exact congrArg (Option.map PyData.list) (M9 hok)
section
variable{cl:jB}{ex:Nat→LO→St→Option (OV×St)}{f n:Nat}{ρ:LO}{st st':St}{a b e:OE}{v:OV}{t:Bool}
theorem rH{m j:Nat}(hf:cR cl ex a ρ st=some (.o m,st))(he:cR cl ex e ρ st=some (v,st))(hm:SF st (.o m)=some j)(hp:nE st j v=some st'):A6 cl ex f (.expr (.app a e)) ρ st=some (.next ρ,st'):=by
 have h:cR cl ex (.app a e) ρ st=some (.d .none,st'):=(congrArg (Option.bind · _) hf).trans ((congrArg (Option.bind · _) he).trans ((congrArg (Option.bind · _) hm).trans (congrArg (Option.map _) hp)))
 exact congrArg (Option.bind · _) h
theorem yE(ha:cR cl ex a ρ st=some (.d (.bool true),st))(hb:cR cl ex b ρ st=some (.d (.bool t),st)):j9 cl ex (.bool true a b) ρ st=some (t,st):=by
 have h:cR cl ex (.bool true a b) ρ st=some (.d (.bool t),st):=(congrArg (Option.bind · _) ha).trans hb
 exact congrArg (Option.bind · _) h
theorem QY{s:Str}{q:Int}{c:Nat}(h0:0≤q)(h1:q<100000)(hlt:q.toNat<s.length)(hg:s.cps[q.toNat]? = some c):fQ st (.d (.str s)) (.d (.int q))=some (sg c):=by
 have hp:cY q s.length=some q.toNat:=by
  have h3:decide ((-(2 ^ 62):Int)<q)=true:=decide_eq_true (Int.lt_of_lt_of_le (by decide +kernel) h0)
  have h4:decide (q<(2 ^ 62:Int))=true:=decide_eq_true (Int.lt_trans h1 (by decide +kernel))
  unfold cY
  rw[h3,h4,if_pos h0,if_pos hlt]; rfl
 have e:fQ st (.d (.str s)) (.d (.int q))=qC ((cY q s.length).bind fun k=>(s.cps[k]?).map fun c=>PyData.str ⟨#[c]⟩):=rfl
 rw[e,hp]
 show qC ((s.cps[q.toNat]?).map fun c=>PyData.str ⟨#[c]⟩)=_
 rw[hg]; rfl
theorem tB{A R:List Nat}{c:Nat}(hb:A.length<90000):fQ st (.d (.str ⟨(A++c::R).toArray⟩)) (.d (.int A.length))=some (sg c) :=
 QY (Int.natCast_nonneg _) (Int.lt_trans (Int.ofNat_lt.mpr hb) (by decide)) (by rw[Int.toNat_natCast]; show A.length<(A++c::R).length; rw[List.length_append]; exact Nat.lt_add_of_pos_right (Nat.succ_pos _))
  (by rw[Int.toNat_natCast,List.getElem?_toArray,List.getElem?_append_right (Nat.le_refl _),Nat.sub_self]; rfl)
end
noncomputable abbrev jA(s:Str)(i n:Int)(c j u:Option OV):LO:=[some (.d (.str s)),some (.o 0),some (.d (.str ".")),some (.o 1),some (.o 2),some (.d (.int i)),some (.d (.int n)),c,j,u,none,none,none,none]
noncomputable abbrev c6(ps:List OV):St:=[.plain,.list ps,.meth 1]
noncomputable def eA(c:Nat):Bool:=c==42||(c==63||c==91)
theorem ES(a b:Nat):((⟨#[a]⟩:Str)==⟨#[b]⟩)=(a==b):=by
 by_cases e:a=b
 ·subst e; rw[beq_self_eq_true,beq_self_eq_true]
 ·rw[beq_false_of_ne e,beq_false_of_ne fun h=>e (List.cons.inj (congrArg (fun s:Str=>s.cps.toList) h)).1]
theorem KT{c d:Nat}:BD .Eq (sg c) (sg d)=some (.d (.bool (c==d))):=(show _=some (OV.d (.bool ((⟨#[c]⟩:Str)==⟨#[d]⟩))) by kernel_rfl).trans (by rw[ES])
theorem WT{c d:Nat}:BD .NotEq (sg c) (sg d)=some (.d (.bool (!(c==d)))):=(show _=some (OV.d (.bool (!((⟨#[c]⟩:Str)==⟨#[d]⟩)))) by kernel_rfl).trans (by rw[ES])
section
variable{F L:Nat}{s:Str}{i n:Int}{ps:List OV}{c j u:Option OV}{x:Nat}
theorem xX{v:OV}(hp:ps.length≤1000):nE (c6 ps) 1 v=some (c6 (ps++[v])):=if_pos hp
theorem y3{d:Nat}{b:Bool}{cl:jB}{ex:Nat→LO→St→Option (OV×St)}(h:(x==d)=b):j9 cl ex (.cmp .Eq (.var 7) (.lit (.str ⟨#[d]⟩))) (jA s i n (some (sg x)) j u) (c6 ps)=some (b,c6 ps):=BX (sZ (v:=sg x) (w:=sg d) rfl rfl (h▸KT))
theorem xW{f:Nat}{cl:jB}{ex:Nat→LO→St→Option (OV×St)}{r:Option (lZ×St)}(hx:fQ (c6 ps) (.d (.str s)) (.d (.int i))=some (sg x))(g:bO cl ex f (gB 2 fS) (jA s (i+1) n (some (sg x)) j u) (c6 ps)=r):bO cl ex f fS (jA s i n c j u) (c6 ps)=r :=
 aO (jJ (BW (v:=.d (.str s)) (w:=.d (.int i)) rfl rfl hx)) (aO (ρ':=jA s (i+1) n (some (sg x)) j u) (st':=c6 ps) (by kernel_rfl) g)
theorem K5(hb:eA x=false)(hp:ps.length≤1000)(hx:fQ (c6 ps) (.d (.str s)) (.d (.int i))=some (sg x)) :
  bO (aN F (L+1)) (eG F (aN F (L+1))) F fS (jA s i n c j u) (c6 ps)=some (.next (jA s (i+1) n (some (sg x)) j u),c6 (ps++[.d (.str (qY x))])):=by
 obtain⟨h1,hb⟩:=Bool.or_eq_false_iff.mp hb
 obtain⟨h2,h3⟩:=Bool.or_eq_false_iff.mp hb
 refine xW hx (b9 (y3 (d:=42) h1) (b9 (y3 (d:=63) h2) (b9 (y3 (d:=91) h3) (aO (rH (m:=2) (j:=1) (v:=.d (.str (qY x))) rfl ?_ rfl (xX hp)) rfl) rfl) rfl) rfl)
 kernel_rfl
theorem T9(hp:ps.length≤1000)(hx:fQ (c6 ps) (.d (.str s)) (.d (.int i))=some (sg 63)) :
  bO (aN F (L+1)) (eG F (aN F (L+1))) F fS (jA s i n c j u) (c6 ps)=some (.next (jA s (i+1) n (some (sg 63)) j u),c6 (ps++[.d (.str ".")])) :=
 xW hx (b9 (y3 (d:=42) rfl) (tR (y3 (d:=63) rfl) (aO (rH (m:=2) (j:=1) (v:=.d (.str ".")) rfl rfl rfl (xX hp)) rfl) rfl) rfl)
noncomputable def qB:kD→OS
 | .nil=>.stuck
 | .cons s _=>s
noncomputable def VI(ss:kD):kD:=match qB ss with | .ife _ a _=>a | _=>.nil
noncomputable def s7(ss:kD):kD:=match qB ss with | .ife _ _ b=>b | _=>.nil
noncomputable def A4(x:Nat):Str:=bif x==91 then⟨#[92,91]⟩else⟨#[x]⟩
theorem eD{m:Nat→Prop}{x:Nat}(h:eA x=true)(h1:m 42)(h2:m 63)(h3:m 91):m x :=
 (Bool.or_eq_true_iff.mp h).elim (fun h=>eq_of_beq h▸h1) fun h=>(Bool.or_eq_true_iff.mp h).elim (fun h=>eq_of_beq h▸h2) fun h=>eq_of_beq h▸h3
section
variable{cl:jB}{f:Nat}
theorem RU{k:Int}(h:k<n):cR cl (eG F cl) (.cmp .Lt (.var 8) (.var 6)) (jA s i n c (some (.d (.int k))) u) (c6 ps)=some (.d (.bool true),c6 ps) :=
 (show _=some (OV.d (.bool (decide (k<n))),c6 ps) by kernel_rfl).trans (by rw[decide_eq_true h])
theorem JV{k:Int}{y:Nat}(h:fQ (c6 ps) (.d (.str s)) (.d (.int k))=some (sg y)):cR cl (eG F cl) (.idx (.var 0) (.var 8)) (jA s i n c (some (.d (.int k))) u) (c6 ps)=some (sg y,c6 ps):=BW (v:=.d (.str s)) (w:=.d (.int k)) rfl rfl h
theorem RV{k:Int}{y d:Nat}{b:Bool}(hk:k<n)(h:fQ (c6 ps) (.d (.str s)) (.d (.int k))=some (sg y))(hb:(y==d)=b):j9 cl (eG F cl) (.bool true (.cmp .Lt (.var 8) (.var 6)) (.cmp .Eq (.idx (.var 0) (.var 8)) (.lit (.str ⟨#[d]⟩)))) (jA s i n c (some (.d (.int k))) u) (c6 ps)=some (b,c6 ps) :=
 yE (RU hk) (sZ (w:=sg d) (JV h) rfl (hb▸KT))
theorem RT{k:Int}{y d:Nat}{b:Bool}(hk:k<n)(h:fQ (c6 ps) (.d (.str s)) (.d (.int k))=some (sg y))(hb:(!(y==d))=b):j9 cl (eG F cl) (.bool true (.cmp .Lt (.var 8) (.var 6)) (.cmp .NotEq (.idx (.var 0) (.var 8)) (.lit (.str ⟨#[d]⟩)))) (jA s i n c (some (.d (.int k))) u) (c6 ps)=some (b,c6 ps) :=
 yE (RU hk) (sZ (w:=sg d) (JV h) rfl (hb▸WT))
theorem K9{k:Int}{n':Nat}(hx:eA x=true)(hk:k<n)(hk2:k+1<n)(h1:fQ (c6 ps) (.d (.str s)) (.d (.int k))=some (sg x))(h2:fQ (c6 ps) (.d (.str s)) (.d (.int (k+1)))=some (sg 93)) :
  cX (j9 cl (eG F cl) FE) (bO cl (eG F cl) f FD) (n'+2) (jA s i n c (some (.d (.int k))) u) (c6 ps)=some (.next (jA s i n c (some (.d (.int (k+1)))) u),c6 ps) :=
 (gJ (r:=(.next (jA s i n c (some (.d (.int (k+1)))) u),c6 ps)) (RT (d:=93) hk h1 (eD (m:=fun x=>(!(x==93))=true) hx rfl rfl rfl)) (by kernel_rfl)).trans (nX (RT (d:=93) hk2 h2 rfl))
noncomputable def vF:kD:=gB 1 (s7 (gB 4 (VI (s7 (s7 (gB 2 fS))))))
noncomputable def RX:kD:=s7 (s7 (gB 3 vF))
theorem YH{k:Int}(hx:eA x=true):A6 cl (eG F cl) f (qB vF) (jA s i n c (some (.d (.int k))) (some (sg x))) (c6 ps)=some (.next (jA s i n c (some (.d (.int k))) (some (sg x))),c6 ps):=eD (m:=fun x=>A6 cl (eG F cl) f (qB vF) (jA s i n c (some (.d (.int k))) (some (sg x))) (c6 ps)=some (.next (jA s i n c (some (.d (.int k))) (some (sg x))),c6 ps)) hx (by kernel_rfl) (by kernel_rfl) (by kernel_rfl)
theorem YG{k:Int}(hx:eA x=true):A6 cl (eG F cl) f (qB (gB 1 vF)) (jA s i n c (some (.d (.int k))) (some (sg x))) (c6 ps)=some (.next (jA s i n c (some (.d (.int k))) (some (sg x))),c6 ps):=eD (m:=fun x=>A6 cl (eG F cl) f (qB (gB 1 vF)) (jA s i n c (some (.d (.int k))) (some (sg x))) (c6 ps)=some (.next (jA s i n c (some (.d (.int k))) (some (sg x))),c6 ps)) hx (by kernel_rfl) (by kernel_rfl) (by kernel_rfl)
theorem YF{k:Int}(hx:eA x=true):A6 cl (eG F cl) f (qB RX) (jA s i n c (some (.d (.int k))) (some (sg x))) (c6 ps)=some (.next (jA s i n c (some (.d (.int k))) (some (.d (.str (A4 x))))),c6 ps):=eD (m:=fun x=>A6 cl (eG F cl) f (qB RX) (jA s i n c (some (.d (.int k))) (some (sg x))) (c6 ps)=some (.next (jA s i n c (some (.d (.int k))) (some (.d (.str (A4 x))))),c6 ps)) hx (by kernel_rfl) (by kernel_rfl) (by kernel_rfl)
theorem YE(hx:eA x=true):N7 ("[" ++ A4 x ++ "]")=some (.d (.str ("[" ++ A4 x ++ "]"))):=eD (m:=fun x=>N7 ("[" ++ A4 x ++ "]")=some (.d (.str ("[" ++ A4 x ++ "]")))) hx (by kernel_rfl) (by kernel_rfl) (by kernel_rfl)
theorem OX{k:Int}(hx:eA x=true)(hp:ps.length≤1000):bO cl (eG F cl) f vF (jA s i n c (some (.d (.int k))) (some (sg x))) (c6 ps) =
  some (.next (jA s (k+1) n c (some (.d (.int k))) (some (.d (.str (A4 x))))),c6 (ps++[.d (.str ("[" ++ A4 x ++ "]"))])) :=
 aO (YH hx) (aO (YG hx) (aO (ρ':=jA s (k+1) n c (some (.d (.int k))) (some (sg x))) (st':=c6 ps) (by kernel_rfl) (b9 (st':=c6 ps) (by kernel_rfl)
  (b9 (st':=c6 ps) (BX (sZ (v:=sg x) (w:=sg 33) rfl rfl (eD (m:=fun x=>BD .Eq (sg x) (sg 33)=some (.d (.bool false))) hx (by kernel_rfl) (by kernel_rfl) (by kernel_rfl))))
   (aO (YF hx) (aO (rH (m:=2) (j:=1) (v:=.d (.str ("[" ++ A4 x ++ "]"))) rfl (congrArg (Option.map fun v=>(v,c6 ps)) (YE hx)) rfl (xX hp)) rfl)) rfl) rfl)))
theorem T8{F':Nat}(hx:eA x=true)(hp:ps.length≤1000)(h0:fQ (c6 ps) (.d (.str s)) (.d (.int i))=some (sg 91))(h1:fQ (c6 ps) (.d (.str s)) (.d (.int (i+1)))=some (sg x))(h2:fQ (c6 ps) (.d (.str s)) (.d (.int (i+1+1)))=some (sg 93))
  (hk:i+1+1<n) (hs:IH (.d (.str s)) (some (i+1)) (some (i+1+1))=some (sg x)) (hq:vH (.d (.int (i+1)))=some (i+1)) (hq2:vH (.d (.int (i+1+1)))=some (i+1+1)) :
  bO cl (eG (F'+2) cl) (F'+2) fS (jA s i n c j u) (c6 ps)=some (.next (jA s (i+1+1+1) n (some (sg 91)) (some (.d (.int (i+1+1)))) (some (.d (.str (A4 x))))),c6 (ps++[.d (.str ("[" ++ A4 x ++ "]"))])):=by
 have hk1:i+1<n:=Int.lt_trans (Int.lt_succ _) hk
 refine xW h0 (b9 (y3 (d:=42) rfl) (b9 (y3 (d:=63) rfl) (tR (y3 (d:=91) rfl) ?_ rfl) rfl) rfl)
 refine aO (ρ':=jA s (i+1) n (some (sg 91)) (some (.d (.int (i+1)))) u) (st':=c6 ps) (by kernel_rfl) ?_
 refine b9 (RV (d:=33) hk1 h1 (eD (m:=fun x=>(x==33)=false) hx rfl rfl rfl)) rfl ?_
 refine b9 (RV (d:=93) hk1 h1 (eD (m:=fun x=>(x==93)=false) hx rfl rfl rfl)) rfl ?_
 refine aO (K9 hx hk1 hk h1 h2) ?_
 refine b9 (st':=c6 ps) ((show j9 cl (eG (F'+2) cl) (.cmp .GtE (.var 8) (.var 6)) (jA s (i+1) n (some (sg 91)) (some (.d (.int (i+1+1)))) u) (c6 ps)=some (decide (i+1+1≥n),c6 ps) by kernel_rfl).trans (by rw[decide_eq_false (Int.not_le.mpr hk)])) ?_ rfl
 exact aO (jJ (BV (v:=.d (.str s)) (x:=some (i+1)) (y:=some (i+1+1)) rfl (congrArg (Option.map fun i=>(some i,c6 ps)) hq) (congrArg (Option.map fun i=>(some i,c6 ps)) hq2) hs)) (OX hx hp)
end
end
noncomputable def pc(c:Nat):List Nat:=bif eA c then [91,c,93]else [c]
noncomputable def Au(c:Nat):Str:=bif eA c then "[" ++ A4 c ++ "]" else qY c
noncomputable def W8(c:Nat):OV:=.d (.str (Au c))
section
variable{F L m:Nat}{c j u:Option OV}{l:List Nat}{ps:List OV}
noncomputable abbrev tW(F L m:Nat)(c j u:Option OV)(l:List Nat)(p:Int)(ps:List OV):Option (lZ×St) :=
 cX (j9 (aN (F+2) (L+1)) (eG (F+2) (aN (F+2) (L+1))) rM) (bO (aN (F+2) (L+1)) (eG (F+2) (aN (F+2) (L+1))) (F+2) fS) m (jA ⟨l.toArray⟩ p l.length c j u) (c6 ps)
theorem xF{s:Str}{i n:Int}{b:Bool}{cl:jB}{ex:Nat→LO→St→Option (OV×St)}(h:decide (i<n)=b):j9 cl ex rM (jA s i n c j u) (c6 ps)=some (b,c6 ps):=(show _=some (decide (i<n),c6 ps) by kernel_rfl).trans (by rw[h])
theorem nT{A:List Nat}{x:Nat}:(((A++[x]).length:Nat):Int)=(A.length:Int)+1:=by rw[List.length_append]; rfl
theorem T6{A R:List Nat}{x:Nat}(hl:l=A++(pc x++R))(hb:l.length<80000)(hp:ps.length≤1000):∃ c' j' u',tW F L (m+1) c j u l A.length ps=tW F L m c' j' u' l (A++pc x).length (ps++[W8 x]):=by
 have hlen:A.length+((pc x).length+R.length)=l.length:=by rw[hl,List.length_append,List.length_append]
 have hb':∀{k},k≤l.length→k<90000:=fun h=>Nat.lt_of_le_of_lt h (Nat.lt_trans hb (by decide))
 have hpos:0<(pc x).length:=by unfold pc; cases eA x <;> exact Nat.succ_pos _
 have ht:decide ((A.length:Int)<(l.length:Int))=true:=decide_eq_true (Int.ofNat_lt.mpr (hlen▸Nat.lt_add_of_pos_right (Nat.add_pos_left hpos _)))
 have hA:A.length<90000:=hb' (hlen▸Nat.le_add_right _ _)
 unfold pc at hl hlen ⊢
 unfold W8 Au
 cases hx:eA x with
 | false =>
  rw[hx]at hl
  have h:=K5 (F:=F+2) (L:=L) (s:=⟨l.toArray⟩) (i:=A.length) (n:=l.length) (c:=c) (j:=j) (u:=u) hx hp (by rw[hl]; exact tB hA)
  refine⟨some (sg x),j,u,(gJ (xF ht) h).trans ?_⟩
  exact congrArg (fun q=>tW F L m (some (sg x)) j u l q (ps++[.d (.str (qY x))])) nT.symm
 | true =>
  rw[hx]at hl hlen
  have e1:=nT (A:=A) (x:=91)
  have e2:(((A++[91]++[x]).length:Nat):Int)=(A.length:Int)+1+1:=by rw[nT,e1]
  have l1:l=A++[91]++x::(93::R):=by rw[hl,List.append_assoc]; rfl
  have l2:l=A++[91]++[x]++93::R:=by rw[hl,List.append_assoc,List.append_assoc]; rfl
  have s1:(A++[91]).length<80000:=by rw[l1]at hb; rw[List.length_append]at hb; exact Nat.lt_of_le_of_lt (Nat.le_add_right _ _) hb
  have s2:(A++[91]++[x]).length<80000:=by rw[l2]at hb; rw[List.length_append]at hb; exact Nat.lt_of_le_of_lt (Nat.le_add_right _ _) hb
  have h:=T8 (cl:=aN (F+2) (L+1)) (F':=F) (s:=⟨l.toArray⟩) (i:=A.length) (n:=l.length) (c:=c) (j:=j) (u:=u) hx hp (by rw[hl]; exact tB hA)
   (by rw[← e1,l1]; exact tB (Nat.lt_trans s1 (by decide))) (by rw[← e2,l2]; exact tB (Nat.lt_trans s2 (by decide)))
   (by rw[← e2]; exact Int.ofNat_lt.mpr (by rw[l2,List.length_append (bs:=93::R)]; exact Nat.lt_add_of_pos_right (Nat.succ_pos _)))
   (by rw[← e1,l1]; exact congrArg (fun l:List Nat=>some (OV.d (.str ⟨l.toArray⟩))) KS) (by rw[← e1]; exact zT (Nat.lt_trans s1 (by decide))) (by rw[← e2]; exact zT (Nat.lt_trans s2 (by decide)))
  refine⟨some (sg 91),some (.d (.int ((A.length:Int)+1+1))),some (.d (.str (A4 x))),(gJ (xF ht) h).trans ?_⟩
  have e3:(A.length:Int)+1+1+1=(((A++[91,x,93]).length:Nat):Int):=by rw[← e2,← nT (x:=93),List.append_assoc,List.append_assoc]; rfl
  exact congrArg (fun q=>tW F L m (some (sg 91)) (some (.d (.int ((A.length:Int)+1+1)))) (some (.d (.str (A4 x)))) l q (ps++[.d (.str ("[" ++ A4 x ++ "]"))])) e3
noncomputable def pq:Option Nat→List Nat
 | some c=>pc c
 | none=>[63]
noncomputable def RL:Option Nat→OV
 | some c=>W8 c
 | none=>.d (.str ".")
theorem K2{A R:List Nat}{q:Option Nat}(hl:l=A++(pq q++R))(hb:l.length<80000)(hp:ps.length≤1000):∃ c' j' u',tW F L (m+1) c j u l A.length ps=tW F L m c' j' u' l (A++pq q).length (ps++[RL q]):=by
 cases q with
 | some x=>exact T6 hl hb hp
 | none =>
  have hlen:A.length+(1+R.length)=l.length:=by rw[hl,List.length_append,List.length_append]; rfl
  have h:A.length<l.length:=Nat.lt_of_lt_of_le (Nat.lt_succ_self _) (Nat.le_trans (Nat.add_le_add_left (Nat.le_add_right 1 _) _) (Nat.le_of_eq hlen))
  have ht:decide ((A.length:Int)<(l.length:Int))=true:=decide_eq_true (Int.ofNat_lt.mpr h)
  have hl':l=A++63::R:=hl
  have h:=T9 (F:=F+2) (L:=L) (s:=⟨l.toArray⟩) (i:=A.length) (n:=l.length) (c:=c) (j:=j) (u:=u) hp (by rw[hl']; exact tB (Nat.lt_trans h (Nat.lt_trans hb (by decide))))
  refine⟨some (sg 63),j,u,(gJ (xF ht) h).trans ?_⟩
  exact congrArg (fun q=>tW F L m (some (sg 63)) j u l q (ps++[.d (.str ".")])) nT.symm
theorem T7{R:List Nat}{cs:List (Option Nat)}:∀{A:List Nat}{ps:List OV}{c j u:Option OV},l=A++(cs.flatMap pq++R)→l.length<80000→ps.length+cs.length≤1000→∃ c' j' u',tW F L (m+cs.length) c j u l A.length ps=tW F L m c' j' u' l (A++cs.flatMap pq).length (ps++cs.map RL):=by
 induction cs with
 | nil=>exact fun{A ps c j u}_ _ _=>⟨c,j,u,by rw[List.flatMap_nil,List.map_nil,List.append_nil,List.append_nil]; rfl⟩
 | cons x cs ih =>
  intro A ps c j u hl hb hp
  rw[List.flatMap_cons,List.append_assoc]at hl
  obtain⟨c1,j1,u1,g1⟩:=K2 (F:=F) (L:=L) (m:=m+cs.length) (c:=c) (j:=j) (u:=u) hl hb (Nat.le_trans (Nat.le_add_right _ _) hp)
  obtain⟨c2,j2,u2,g2⟩:=ih (A:=A++pq x) (ps:=ps++[RL x]) (c:=c1) (j:=j1) (u:=u1) (hl.trans (List.append_assoc ..).symm) hb (by rw[List.length_append,Nat.add_assoc,Nat.add_comm [RL x].length]; exact hp)
  exact⟨c2,j2,u2,g1.trans (g2.trans (by rw[List.flatMap_cons,List.append_assoc,List.append_assoc]; rfl))⟩
end
section
variable{cl:jB}{ex:Nat→LO→St→Option (OV×St)}{f:Nat}{ρ ρ':LO}{st st' st'':St}{ss A:kD}
theorem zU{c:OE}(h:j9 cl ex c ρ st=some (true,st')):A6 cl ex f (.asrt c) ρ st=some (.next ρ,st'):=congrArg (Option.bind · _) h
theorem Ce(a b:Int):BD .Eq (.d (.int a)) (.d (.int b))=some (.d (.bool (a==b))):=by kernel_rfl
theorem M2{xs:List OV}{q:Int}{k:Nat}{v:OV}(hk:st[k]? = some (.list xs))(h0:0≤q)(h1:q<100000)(hg:xs[q.toNat]? = some v):fQ st (.o k) (.d (.int q))=some v:=by
 have hp:cY q xs.length=some q.toNat:=by
  have h3:decide ((-(2 ^ 62):Int)<q)=true:=decide_eq_true (Int.lt_of_lt_of_le (by decide +kernel) h0)
  have h4:decide (q<(2 ^ 62:Int))=true:=decide_eq_true (Int.lt_trans h1 (by decide +kernel))
  unfold cY
  rw[h3,h4,if_pos h0,if_pos (JK hg)]; rfl
 have e:fQ st (.o k) (.d (.int q))=fL st[k]? fun xs=>(cY q xs.length).bind (xs[·]?):=rfl
 rw[e,hk]
 show(cY q xs.length).bind (xs[·]?)=_
 rw[hp]; exact hg
theorem QZ{P R:List OV}{k:Nat}{v:OV}(hk:st[k]? = some (.list (P++v::R)))(hb:P.length<90000):fQ st (.o k) (.d (.int P.length))=some v :=
 M2 hk (Int.natCast_nonneg _) (Int.lt_trans (Int.ofNat_lt.mpr hb) (by decide)) (by rw[Int.toNat_natCast,List.getElem?_append_right (Nat.le_refl _),Nat.sub_self]; rfl)
end
noncomputable def TK(F L:Nat)(r:lZ×St):Option (lZ×St):=match r.1 with
 | .next ρ'=>bO (aN F (L+1)) (eG F (aN F (L+1))) F (gB 4 KA.body) ρ' r.2
 | g=>some (g,r.2)
section
variable{F L:Nat}{c j u:Option OV}{s:Str}{ps:List OV}{qs:List (Option Nat)}
theorem LF:aN F (L+2) 12 [.d (.str s),.o 0,.d (.str ".")] [.plain]=eH (Option.bind (cX (j9 (aN F (L+1)) (eG F (aN F (L+1))) rM) (bO (aN F (L+1)) (eG F (aN F (L+1))) F fS) F (jA s 0 s.length none none none) (c6 [])) (TK F L)):=by kernel_rfl
theorem LE{n:Int}:eH (TK F L (.next (jA s n n c j u),c6 ps))=some (.o 1,c6 ps) :=
 congrArg eH (aO (zU (st':=c6 ps) ((show j9 _ _ (.cmp .Eq (.var 5) (.var 6)) (jA s n n c j u) (c6 ps)=some (n==n,c6 ps) by kernel_rfl).trans (by rw[beq_self_eq_true]))) (rG (v:=.o 1) rfl))
theorem GR(hl:qs.length≤900)(hb:(qs.flatMap pq).length<80000)(hF:1000≤F):aN (F+2) (L+2) 12 [.d (.str ⟨(qs.flatMap pq).toArray⟩),.o 0,.d (.str ".")] [.plain]=some (.o 1,c6 (qs.map RL)):=by
 obtain⟨m,hm⟩:∃ m,F+2=m+1+qs.length:=⟨F+1 - qs.length,(congrArg (· + 1) (Nat.sub_add_cancel (Nat.le_trans hl (Nat.le_trans (by decide) (Nat.le_succ_of_le hF)))).symm).trans (Nat.add_right_comm _ _ _)⟩
 obtain⟨c,j,u,h⟩:=T7 (F:=F) (L:=L) (m:=m+1) (l:=qs.flatMap pq) (A:=[]) (R:=[]) (ps:=[]) (cs:=qs) (c:=none) (j:=none) (u:=none) (List.append_nil _).symm hb (by rw[List.length_nil,Nat.zero_add]; exact Nat.le_trans hl (by decide))
 have hend:tW F L (m+1) c j u (qs.flatMap pq) ([]++qs.flatMap pq).length ([]++qs.map RL)=some (.next (jA ⟨(qs.flatMap pq).toArray⟩ ((qs.flatMap pq).length:Nat) ((qs.flatMap pq).length:Nat) c j u),c6 (qs.map RL)):=nX (xF (decide_eq_false (Int.lt_irrefl _)))
 exact LF.trans ((congrArg (fun o=>eH (Option.bind o (TK (F+2) L))) ((congrArg (fun k=>tW F L k none none none (qs.flatMap pq) ((0:Nat):Int) []) hm).trans (h.trans hend))).trans LE)
end
noncomputable abbrev jL(i n:Int)(x:Option OV):LO:=[some (.o 1),some (.o 0),some (.o 3),some (.o 4),some (.d (.int i)),some (.d (.int n)),x]
noncomputable abbrev jS(ps qs:List OV)(z:St):St:=.plain :: .list ps :: .meth 1 :: .list qs :: .meth 3::z
def GH(v:OV):Prop:=∃ s,v = .d (.str s)
theorem MT{test:LO→St→Option (Bool×St)}{body:LO→St→Option (lZ×St)}{P:Int→LO}{S:List OV→St}{ps R:List OV}{m:Nat}
  (ht:∀ A v R qs,ps=A++v::R→GH v→test (P A.length) (S qs)=some (true,S qs)) (hb:∀ A v R qs,ps=A++v::R→GH v→qs.length≤1000→body (P A.length) (S qs)=some (.next (P ((A.length:Int)+1)),S (qs++[v]))) {vs:List OV} :
  ∀{A qs:List OV},ps=A++(vs++R)→(∀ v∈vs,GH v)→qs.length+vs.length≤1000→cX test body (m+vs.length) (P A.length) (S qs)=cX test body m (P (A++vs).length) (S (qs++vs)):=by
 induction vs with
 | nil=>exact fun{A qs}_ _ _=>by rw[List.append_nil,List.append_nil]; rfl
 | cons v vs ih =>
  intro A qs hp hv hq
  have e:A++v::vs=A++[v]++vs:=(List.append_assoc A [v] vs).symm
  have e2:qs++v::vs=qs++[v]++vs:=(List.append_assoc qs [v] vs).symm
  have hs:=hv v List.mem_cons_self
  have hl:(((A++[v]).length:Nat):Int)=(A.length:Int)+1:=by rw[List.length_append]; rfl
  have g:=ih (A:=A++[v]) (qs:=qs++[v]) (hp.trans (List.append_assoc A [v] (vs++R)).symm) (fun w h=>hv w (List.mem_cons_of_mem _ h)) (by rw[List.length_append,Nat.add_assoc,Nat.add_comm [v].length]; exact hq)
  rw[hl]at g
  rw[e,e2]
  exact(gJ (ht A v (vs++R) qs hp hs) (hb A v (vs++R) qs hp hs (Nat.le_trans (Nat.le_add_right _ _) hq))).trans g
section
variable{cl:jB}{ex:Nat→LO→St→Option (OV×St)}{f:Nat}{ps qs:List OV}{z:St}{i n:Int}{x:Option OV}{v:OV}
theorem Bo(h:i<n):cR cl ex (.cmp .Lt (.var 4) (.var 5)) (jL i n x) (jS ps qs z)=some (.d (.bool true),jS ps qs z):=(show _=some (OV.d (.bool (decide (i<n))),jS ps qs z) by kernel_rfl).trans (by rw[decide_eq_true h])
theorem SK(hi:fQ (jS ps qs z) (.o 1) (.d (.int i))=some v):cR cl ex (.idx (.var 0) (.var 4)) (jL i n x) (jS ps qs z)=some (v,jS ps qs z):=BW (v:=.o 1) (w:=.d (.int i)) rfl rfl hi
theorem Di(h:i<n)(hi:fQ (jS ps qs z) (.o 1) (.d (.int i))=some v)(hv:GH v):j9 cl ex g9 (jL i n x) (jS ps qs z)=some (true,jS ps qs z):=by
 obtain⟨s,rfl⟩:=hv
 exact yE (Bo h) (sZ (w:=.o 0) (SK hi) rfl rfl)
theorem V9{k:Int}:j9 cl ex g9 (jL k k x) (jS ps qs z)=some (false,jS ps qs z):=by
 have e:cR cl ex (.cmp .Lt (.var 4) (.var 5)) (jL k k x) (jS ps qs z)=some (.d (.bool false),jS ps qs z):=(show _=some (OV.d (.bool (decide (k<k))),jS ps qs z) by kernel_rfl).trans (by rw[decide_eq_false (Int.lt_irrefl _)])
 have e2:cR cl ex g9 (jL k k x) (jS ps qs z)=some (.d (.bool false),jS ps qs z):=congrArg (Option.bind · _) e
 exact BX e2
theorem V8(hq:qs.length≤1000):nE (jS ps qs z) 3 v=some (jS ps (qs++[v]) z):=if_pos hq
theorem Bq(hi:fQ (jS ps qs z) (.o 1) (.d (.int i))=some v)(hq:qs.length≤1000):bO cl ex f lJ (jL i n x) (jS ps qs z)=some (.next (jL (i+1) n x),jS ps (qs++[v]) z) :=
 aO (rH (m:=4) (j:=3) rfl (SK hi) rfl (V8 hq)) (aO (ρ':=jL (i+1) n x) (st':=jS ps (qs++[v]) z) (by kernel_rfl) rfl)
theorem Bp{k:Int}{b:Bool}(h:(i==k)=b):j9 cl ex (.cmp .Eq (.var 4) (.var 5)) (jL i k x) (jS ps qs z)=some (b,jS ps qs z):=(show _=some (i==k,jS ps qs z) by kernel_rfl).trans (by rw[h])
end
noncomputable def lV(l:List Nat):OV:=.d (.str ⟨l.toArray⟩)
noncomputable def pl(c:Nat):List Nat:=bif eA c then 91::((bif c==91 then [92,91]else [c])++[93])else if kH c then [92,c]else [c]
theorem VA(c:Nat):W8 c=lV (pl c):=by
 unfold W8 Au pl A4 qY lV
 cases eA c with
 | true=>cases c==91 <;> rfl
 | false =>
  by_cases h:kH c=true
  ·rw[if_pos h,cond_false,cond_false,if_pos h]
  ·rw[if_neg h,cond_false,cond_false,if_neg h]
theorem wM(ls:List (List Nat)):Str.join "" (ls.map fun l=>(⟨l.toArray⟩:Str))=⟨ls.flatten.toArray⟩:=by
 induction ls with
 | nil=>rfl
 | cons l ls ih =>
  cases ls with
  | nil=>exact congrArg (fun l:List Nat=>(⟨l.toArray⟩:Str)) (List.append_nil l).symm
  | cons k ls =>
   show(⟨l.toArray⟩:Str) ++ "" ++ Str.join "" ((k::ls).map fun l=>(⟨l.toArray⟩:Str))=⟨(l++(k::ls).flatten).toArray⟩
   rw[ih,show("" : Str)=⟨([]:List Nat).toArray⟩from rfl,jH,jH,List.append_nil]
theorem GT(ls:List (List Nat)):vG (ls.map lV)=some (ls.map fun l=>(⟨l.toArray⟩:Str)):=by
 induction ls with
 | nil=>rfl
 | cons l ls ih=>exact congrArg (Option.map _) ih
theorem zN(ls:List (List Nat)):∀ k:Nat,(ls.map fun l=>(⟨l.toArray⟩:Str)).foldl (fun n x=>n+x.length+("" : Str).length) k=k+ls.flatten.length:=by
 induction ls with
 | nil=>exact fun k=>rfl
 | cons l ls ih=>exact fun k=>(ih _).trans (by rw[List.flatten_cons,List.length_append,← Nat.add_assoc]; rfl)
theorem DN{st:St}{k:Nat}{ls:List (List Nat)}(hk:st[k]? = some (.list (ls.map lV)))(hb:ls.flatten.length≤90000):JF st (.d (.str "")) (.o k)=some (lV ls.flatten):=by
 have e:JF st (.d (.str "")) (.o k)=Option.bind (fL st[k]? fun xs=>some (k,xs)) fun p=>(vG p.2).bind fun ss=>if ss.foldl (fun n x=>n+x.length+("" : Str).length) 0≤2 ^ 20 then some (.d (.str (Str.join "" ss)))else none:=rfl
 rw[e,hk]
 show Option.bind (vG (ls.map lV)) _=_
 rw[GT]
 show(if _ then _ else _)=_
 rw[zN,Nat.zero_add,if_pos (Nat.le_trans hb (show 90000≤2 ^ 20 by decide)),wM]; rfl
theorem GV{l:List Nat}(a b:List Nat)(hb:(a++l++b).length≤90000):N7 (⟨a.toArray⟩++⟨l.toArray⟩++⟨b.toArray⟩)=some (lV (a++l++b)):=by
 rw[jH,jH]
 exact if_pos (Nat.le_trans hb (by decide))
section
variable{cl:jB}{ex:Nat→LO→St→Option (OV×St)}{f m:Nat}{ps vs R A qs fs:List OV}{z:St}{x:Option OV}
theorem TV{B:List OV}{v:OV}{R':List OV}(h:ps=B++v::R')(hb:ps.length≤2000):((B.length:Int)<(ps.length:Nat))∧∀ qs z,fQ (jS ps qs z) (.o 1) (.d (.int B.length))=some v:=by
 have hl:B.length<ps.length:=by rw[h,List.length_append]; exact Nat.lt_add_of_pos_right (Nat.succ_pos _)
 exact⟨Int.ofNat_lt.mpr hl,fun qs z=>QZ (congrArg (fun l=>some (FO.list l)) h) (Nat.lt_of_lt_of_le hl (Nat.le_trans hb (by decide)))⟩
theorem Bn(hb:ps.length≤2000)(hp:ps=A++(vs++R))(hv:∀ v∈vs,GH v)(hq:qs.length+vs.length≤1000) :
  cX (j9 cl ex g9) (bO cl ex f lJ) (m+vs.length) (jL A.length (ps.length:Nat) x) (jS ps qs z)=cX (j9 cl ex g9) (bO cl ex f lJ) m (jL (A++vs).length (ps.length:Nat) x) (jS ps (qs++vs) z) :=
 MT (P:=fun q=>jL q (ps.length:Nat) x) (S:=fun qs=>jS ps qs z) (fun B v R' qs h hs=>Di (TV h hb).1 ((TV h hb).2 qs z) hs) (fun B v R' qs h hs hq=>Bq ((TV h hb).2 qs z) hq) hp hv hq
end
noncomputable def TJ(F L:Nat)(r:lZ×St):Option (lZ×St):=match r.1 with
 | .next ρ'=>bO (aN F (L+1)) (eG F (aN F (L+1))) F (gB 4 B5.body) ρ' r.2
 | g=>some (g,r.2)
section
variable{F L:Nat}{ps:List OV}{z:St}{x:Option OV}{ls:List (List Nat)}
theorem LD:aN F (L+2) 13 [.o 1,.o 0] (c6 ps)=eH (Option.bind (cX (j9 (aN F (L+1)) (eG F (aN F (L+1))) g9) (bO (aN F (L+1)) (eG F (aN F (L+1))) F lJ) F (jL 0 (ps.length:Nat) none) (jS ps [] [])) (TJ F L)):=by kernel_rfl
theorem LC{n:Int}(hb:ls.flatten.length≤80000):eH (bO (aN F (L+1)) (eG F (aN F (L+1))) F (gB 5 B5.body) (jL n n x) (jS ps (ls.map lV) z))=some (lV ([40,63,115,58]++ls.flatten++[41,92,90]),jS ps (ls.map lV) z):=by
 refine congrArg eH (aO (zU (Bp (beq_self_eq_true n))) (aO (ρ':=[some (.o 1),some (.o 0),some (lV ls.flatten),some (.o 4),some (.d (.int n)),some (.d (.int n)),x]) (st':=jS ps (ls.map lV) z) ?_ (rG (v:=lV ([40,63,115,58]++ls.flatten++[41,92,90])) (st':=jS ps (ls.map lV) z) ?_)))
 ·exact jJ (v:=lV ls.flatten) (congrArg (Option.map fun v=>(v,jS ps (ls.map lV) z)) (DN (st:=jS ps (ls.map lV) z) (k:=3) rfl (Nat.le_trans hb (by decide))))
 ·exact congrArg (Option.map fun v=>(v,jS ps (ls.map lV) z)) (GV [40,63,115,58] [41,92,90] (by rw[List.length_append,List.length_append]; exact Nat.le_trans (Nat.add_le_add_right (Nat.add_le_add_left hb 4) 3) (by decide)))
theorem UO{ls:List (List Nat)}:∀ v∈ls.map lV,GH v:=fun v h=>let⟨_,_,e⟩:=List.mem_map.mp h; ⟨_,e.symm⟩
theorem ZR{cl:jB}{ex:Nat→LO→St→Option (OV×St)}{k:Int}{qs:List OV}:j9 cl ex yH (jL k k x) (jS ps qs z)=some (false,jS ps qs z):=(show _=some (decide (k<k),jS ps qs z) by kernel_rfl).trans (by rw[decide_eq_false (Int.lt_irrefl _)])
theorem GQ(hl:ls.length≤900)(hb:ls.flatten.length≤70000)(hF:1000≤F):(aN (F+1) (L+2) 13 [.o 1,.o 0] (c6 (ls.map lV))).map (·.1)=some (lV ([40,63,115,58]++ls.flatten++[41,92,90])):=by
 obtain⟨m,hm⟩:∃ m,F+1=m+1+(ls.map lV).length:=⟨F - ls.length,by rw[List.length_map,Nat.add_right_comm,Nat.sub_add_cancel (Nat.le_trans hl (Nat.le_trans (by decide) hF))]⟩
 have hps:(ls.map lV).length≤2000:=by rw[List.length_map]; exact Nat.le_trans hl (by decide)
 have w2:=(Bn (cl:=aN (F+1) (L+1)) (ex:=eG (F+1) (aN (F+1) (L+1))) (f:=F+1) (m:=m+1) (A:=[]) (R:=[]) (qs:=[]) (z:=[]) (x:=none) hps (List.append_nil _).symm UO (by rw[List.length_map,List.length_nil,Nat.zero_add]; exact Nat.le_trans hl (by decide))).trans (nX V9)
 have htl:=LC (F:=F+1) (L:=L) (ps:=ls.map lV) (z:=[]) (x:=none) (ls:=ls) (n:=((ls.map lV).length:Nat)) (Nat.le_trans hb (by decide))
 have hw:A6 (aN (F+1) (L+1)) (eG (F+1) (aN (F+1) (L+1))) (F+1) (.while_ yH FC) (jL ((ls.map lV).length:Nat) ((ls.map lV).length:Nat) none) (jS (ls.map lV) (ls.map lV) [])=some (.next (jL ((ls.map lV).length:Nat) ((ls.map lV).length:Nat) none),jS (ls.map lV) (ls.map lV) []):=nX (n:=F) ZR
 have hK:eH (TJ (F+1) L (.next (jL ((ls.map lV).length:Nat) ((ls.map lV).length:Nat) none),jS (ls.map lV) (ls.map lV) []))=some (lV ([40,63,115,58]++ls.flatten++[41,92,90]),jS (ls.map lV) (ls.map lV) []) :=
  (congrArg eH (aO hw rfl)).trans htl
 have hall:=LD.trans ((congrArg (fun o=>eH (Option.bind o (TJ (F+1) L))) ((congrArg (fun k=>cX (j9 (aN (F+1) (L+1)) (eG (F+1) (aN (F+1) (L+1))) g9) (bO (aN (F+1) (L+1)) (eG (F+1) (aN (F+1) (L+1))) (F+1) lJ) k (jL 0 ((ls.map lV).length:Nat) none) (jS (ls.map lV) [] [])) hm).trans w2)).trans hK)
 rw[hall]; rfl
theorem Cw{d:PyData}{s:Str}(h12:aN F (L+2) 12 [.d (.str s),.o 0,.d (.str ".")] [.plain]=some (.o 1,c6 ps))(h13:(aN F (L+2) 13 [.o 1,.o 0] (c6 ps)).map (·.1)=some (.d d)):∃ st,aN F (L+3) 14 [.d (.str s)] []=some (.d d,st):=by
 obtain⟨⟨v,st⟩,h,e⟩:=Option.map_eq_some_iff.mp h13
 have e:v = .d d:=e
 subst e
 refine⟨st,(show _=eH (bO (aN F (L+2)) (eG F (aN F (L+2))) F J9.body [some (.d (.str s)),none,none] []) by kernel_rfl).trans (congrArg eH (aO (ρ':=[some (.d (.str s)),some (.o 0),none]) (st':=[.plain]) (by kernel_rfl) (aO (jJ (v:=.o 1) (st':=c6 ps) ?_) (rG (v:=.d d) (st':=st) ?_))))⟩
 ·exact(show _=aN F (L+2) 12 [.d (.str s),.o 0,.d (.str ".")] [.plain] by kernel_rfl).trans h12
 ·exact(show _=aN F (L+2) 13 [.o 1,.o 0] (c6 ps) by kernel_rfl).trans h
noncomputable def pU:Option Nat→List Nat
 | some c=>pl c
 | none=>[46]
theorem PK{qs:List (Option Nat)}:qs.map RL=(qs.map pU).map lV:=by
 rw[List.map_map]
 refine List.map_congr_left fun q _=>?_
 cases q with
 | some c=>exact VA c
 | none=>rfl
theorem BS(qs:List (Option Nat)):(qs.map pU).flatten.length≤5*qs.length:=by
 induction qs with
 | nil=>exact Nat.le_refl _
 | cons q qs ih =>
  rw[List.map_cons,List.flatten_cons,List.length_append,List.length_cons,Nat.mul_succ,Nat.add_comm]
  refine Nat.add_le_add ih ?_
  cases q with
  | none=>exact Nat.le_of_ble_eq_true rfl
  | some c =>
   show(pl c).length≤5
   unfold pl
   cases eA c <;> cases c==91 <;> cases kH c <;> exact Nat.le_of_ble_eq_true rfl
noncomputable def RJ(l:List Nat):PyData:=.str ⟨([40,63,115,58]++l++[41,92,90]).toArray⟩
theorem K7{s:Str}{l:List Nat}(hok:bL (RJ l)=true)(h:∃ st,aN F 6 14 [.d (.str s)] []=some (.d (RJ l),st)):o9 F s=some (RJ l):=by
 obtain⟨st,h⟩:=h
 unfold o9
 rw[h]
 exact if_pos (congrArg _ hok)
theorem AS{qs:List (Option Nat)}(hl:qs.length≤900)(hb:(qs.flatMap pq).length<80000)(hF:1000≤F)(hok:bL (RJ (qs.map pU).flatten)=true):o9 (F+2) ⟨(qs.flatMap pq).toArray⟩=some (RJ (qs.map pU).flatten) :=
 K7 hok (Cw (L:=3) (PK▸GR hl hb hF) (GQ (F:=F+1) (L:=3) (ls:=qs.map pU) (by rw[List.length_map]; exact hl) (Nat.le_trans (BS qs) (Nat.le_trans (Nat.mul_le_mul_left 5 hl) (by decide))) (Nat.le_succ_of_le hF)))
end
noncomputable abbrev aU(cs:List Nat):PyData:=.list (cs.map wD)
theorem CK(a b:Nat):PyData.eqv (wD a) (wD b)=(a==b):=by
 show((⟨#[a]⟩:Str)==⟨#[b]⟩)=_
 by_cases h:a=b
 ·subst h; simp
 ·rw[beq_eq_false_iff_ne.mpr h,beq_eq_false_iff_ne.mpr]
  intro e; injection e with e; injection e with e; injection e with e _; exact h e
theorem oS:∀(a b:List Nat),PyData.eqvAll (a.map wD) (b.map wD)=(a==b)
 | [],[]=>by simp[PyData.eqvAll]
 | [],_::_=>by simp[PyData.eqvAll]
 | _::_,[]=>by simp[PyData.eqvAll]
 | a::as,b::bs=>by
  rw[List.map_cons,List.map_cons,PyData.eqvAll,CK,oS]
  simp
theorem NE(a b:List Nat):PyData.eqv (aU a) (aU b)=(a==b):=by rw[aU,aU,PyData.eqv,oS]
theorem qQ:∀(a:List Nat),PyData.depthAll (a.map wD)=0
 | []=>by simp[PyData.depthAll]
 | a::as=>by rw[List.map_cons,PyData.depthAll,qQ]; simp[wD,PyData.depth]
theorem H3(a:List Nat):(aU a).depth=1:=by rw[aU,PyData.depth,qQ]
theorem NF(a:List Nat)(d:PyData):l3 (aU a) d=true:=decide_eq_true (Nat.le_trans (Nat.min_le_left _ _) (by rw[H3]; decide))
theorem QQ(a b:List Nat):u4 .NotEq (aU a) (aU b)=some (.bool (!(a==b))):=by
 show(if l3 (aU a) (aU b)=true then some (PyData.bool (!PyData.eqv (aU a) (aU b)))else none)=_
 rw[NF,NE]; rfl
theorem zM{α:Type}(l:List α)(n:Nat):l.take (min n l.length)=l.take n:=by
 rcases Nat.le_total n l.length with h | h
 ·rw[Nat.min_eq_left h]
 ·rw[Nat.min_eq_right h,List.take_length,List.take_of_length_le h]
theorem AO{α:Type}(l:List α)(k n:Nat)(h:l.length≤n):l.drop (min k n)=l.drop k:=by
 rcases Nat.le_total k n with h' | h'
 ·rw[Nat.min_eq_left h']
 ·rw[Nat.min_eq_right h',List.drop_of_length_le h,List.drop_of_length_le (Nat.le_trans h h')]
theorem lT(k n:Nat):dH (k:Int) n=min k n:=by
 rcases Nat.le_total k n with h | h
 ·rw[Nat.min_eq_left h,t3 h]
 ·rw[Nat.min_eq_right h,dH,if_neg (Int.not_lt.mpr (Int.natCast_nonneg k)),Int.min_eq_right (Int.ofNat_le.mpr h)]
  exact congrArg Int.toNat (Int.max_eq_right (Int.natCast_nonneg n))
theorem WS{α:Type}(l:List α)(a b:Nat):cut l (some (a:Int)) (some (b:Int))=(l.take b).drop a:=by
 unfold cut
 dsimp only
 rw[lT,lT,zM,AO _ _ _ (List.length_take_le' b l)]
theorem KQ{α:Type}(l:List α)(b:Nat):cut l none (some (b:Int))=l.take b:=by
 unfold cut
 dsimp only
 rw[lT,zM,List.drop_zero]
theorem KR{α:Type}(l:List α)(a:Nat):cut l (some (a:Int)) none=l.drop a:=by
 unfold cut
 dsimp only
 rw[lT,List.take_length,AO _ _ _ (Nat.le_refl _)]
section
variable{α:Type} [BEq α] [LawfulBEq α] {D:α→PyData}
noncomputable def uW:List α→List α→List α
 | [],acc=>acc
 | x::xs,acc=>uW xs (if acc.contains x then acc else acc++[x])
theorem S5(hD:∀ a b,PyData.eqv (D a) (D b)=(a==b))(x:α)(a:List α):((a.map D).any fun y=>PyData.eqv y (D x))=a.contains x:=by
 induction a with
 | nil=>rfl
 | cons a as ih=>rw[List.map_cons,List.any_cons,ih,hD,List.contains_cons,show(a==x)=(x==a)from by rw[Bool.eq_iff_iff,beq_iff_eq,beq_iff_eq,eq_comm]]
theorem oH(xs:List α):∀ acc:List α,acc.Nodup→(uW xs acc).Nodup:=by
 induction xs with
 | nil=>exact fun _ h=>h
 | cons x xs ih =>
  intro acc h
  rw[uW]
  split
  ·exact ih acc h
  ·rename_i hc
   refine ih _ (List.nodup_append.mpr ⟨h,List.nodup_cons.mpr ⟨List.not_mem_nil,List.nodup_nil⟩,fun a ha b hb e=>hc ?_⟩)
   exact List.contains_iff_mem.mpr (List.mem_singleton.mp hb▸e▸ha)
theorem tF(xs:List α)(y:α):∀ acc:List α,y∈uW xs acc↔y∈acc∨y∈xs:=by
 induction xs with
 | nil=>exact fun acc=>⟨.inl,fun h=>h.resolve_right List.not_mem_nil⟩
 | cons x xs ih =>
  intro acc
  rw[uW,ih,List.mem_cons]
  split
  ·rename_i hc
   have hx:=List.contains_iff_mem.mp hc
   exact⟨Or.imp_right .inr,fun h=>h.elim .inl fun h=>h.elim (fun e=>.inl (e▸hx)) .inr⟩
  ·rw[List.mem_append,List.mem_singleton,or_assoc]
theorem WR(xs:List α):∀ acc:List α,(uW xs acc).length≤acc.length+xs.length:=by
 induction xs with
 | nil=>exact fun _=>Nat.le_refl _
 | cons x xs ih =>
  intro acc
  rw[uW,List.length_cons,Nat.add_comm xs.length,← Nat.add_assoc]
  refine Nat.le_trans (ih _) (Nat.add_le_add_right ?_ _)
  split
  ·exact Nat.le_succ _
  ·exact Nat.le_of_eq List.length_append
theorem G3(hD:∀ a b,PyData.eqv (D a) (D b)=(a==b))(x:α)(l:List α):dQ (l.map D) (D x)=if l.contains x then some ((l.erase x).map D)else none:=by
 induction l with
 | nil=>rfl
 | cons y l ih =>
  rw[List.map_cons,dQ,hD,ih,List.contains_cons,List.erase_cons]
  by_cases h:y=x
  ·subst h; rw[beq_self_eq_true,Bool.true_or]; rfl
  ·rw[beq_false_of_ne h,beq_false_of_ne (Ne.symm h),Bool.false_or]
   simp only[Bool.false_eq_true,if_false]
   split <;> rfl
theorem C7(hD:∀ a b,PyData.eqv (D a) (D b)=(a==b))(xs:List α):∀ ts:List α,xs.Nodup→ts.Nodup→d7 (xs.map D) (ts.map D)=if xs.all ts.contains then some ((ts.filter fun t=>!xs.contains t).map D)else none:=by
 induction xs with
 | nil =>
  intro ts _ _
  exact congrArg (fun l=>some (List.map D l)) (List.filter_eq_self.mpr fun _ _=>rfl).symm
 | cons x xs ih =>
  intro ts hx ht
  rw[List.map_cons,d7,G3 hD,List.all_cons]
  rw[List.nodup_cons]at hx
  by_cases h:ts.contains x=true
  ·rw[if_pos h,Option.bind_some,ih _ hx.2 (ht.erase x),h,Bool.true_and]
   have e1:xs.all (ts.erase x).contains=xs.all ts.contains:=by
    rw[Bool.eq_iff_iff,List.all_eq_true,List.all_eq_true]
    refine forall_congr' fun y=>forall_congr' fun hy=>?_
    rw[List.contains_iff_mem,List.contains_iff_mem,ht.mem_erase_iff]
    exact⟨And.right,fun h=>⟨fun e=>hx.1 (e▸hy),h⟩⟩
   have e2:(ts.erase x).filter (fun t=>!xs.contains t)=ts.filter fun t=>!(x::xs).contains t:=by
    rw[ht.erase_eq_filter,List.filter_filter]
    refine List.filter_congr fun t _=>?_
    rw[List.contains_cons,Bool.not_or,Bool.and_comm]
    rfl
   rw[e1,e2]
  ·rw[if_neg h,Option.bind_none,Bool.eq_false_iff.mpr h,Bool.false_and,if_neg (by decide)]
noncomputable def kI(xs ys:List α):Bool:=xs.all ys.contains&&ys.all xs.contains
theorem NL(hD:∀ a b,PyData.eqv (D a) (D b)=(a==b)){xs ys:List α}(hx:xs.Nodup)(hy:ys.Nodup):iG (xs.map D) (ys.map D)=kI xs ys:=by
 unfold iG kI
 rw[C7 hD xs ys hx hy]
 by_cases h:xs.all ys.contains=true
 ·rw[if_pos h,h,Bool.true_and]
  dsimp only
  rw[Bool.eq_iff_iff,List.isEmpty_iff,List.map_eq_nil_iff,List.filter_eq_nil_iff,List.all_eq_true]
  refine forall_congr' fun y=>forall_congr' fun _=>?_
  cases xs.contains y <;> simp
 ·rw[if_neg h,Bool.eq_false_iff.mpr h,Bool.false_and]
theorem eP(xs ys:List α):kI xs ys=true↔∀ x,x∈xs↔x∈ys:=by
 unfold kI
 rw[Bool.and_eq_true,List.all_eq_true,List.all_eq_true]
 exact⟨fun⟨h1,h2⟩x=>⟨fun h=>List.contains_iff_mem.mp (h1 x h),fun h=>List.contains_iff_mem.mp (h2 x h)⟩,fun h=>⟨fun x hx=>List.contains_iff_mem.mpr ((h x).mp hx),fun x hx=>List.contains_iff_mem.mpr ((h x).mpr hx)⟩⟩
theorem LS(xs ys:List α):kI (uW xs []) (uW ys [])=kI xs ys:=by
 rw[Bool.eq_iff_iff,eP,eP]
 refine forall_congr' fun x=>?_
 rw[tF,tF,or_iff_right List.not_mem_nil,or_iff_right List.not_mem_nil]
end
structure vR{α:Type} [BEq α] (D:α→PyData):Prop where
 eqv:∀ a b,PyData.eqv (D a) (D b)=(a==b)
 flat:∀ a,flat (D a)=true
theorem uK{d:PyData}(h:flat d=true):d.depth=0:=by
 cases d with
 | list=>cases h
 | tuple=>cases h
 | dict=>cases h
 | _=>rfl
theorem lR{d:PyData}(h:flat d=true)(e:PyData):l3 d e=true:=decide_eq_true (Nat.le_trans (Nat.min_le_left _ _) (Nat.le_trans (Nat.le_of_eq (uK h)) (Nat.zero_le _)))
section
variable{α:Type} [BEq α] [LawfulBEq α] {D:α→PyData} (hD:vR D)
include hD
theorem TZ(x:α)(a:List α):u4 .In (D x) (.list (a.map D))=some (.bool (a.contains x)):=by
 show(if l3 (D x) (.list (a.map D))=true then some ((a.map D).any fun y=>PyData.eqv y (D x))else none).map _=_
 rw[lR (hD.flat x),S5 hD.eqv]; rfl
theorem yI(x:α)(a:List α):u4 .NotIn (D x) (.list (a.map D))=some (.bool (!a.contains x)):=by
 show(if l3 (D x) (.list (a.map D))=true then some ((a.map D).any fun y=>PyData.eqv y (D x))else none).map _=_
 rw[lR (hD.flat x),S5 hD.eqv]; rfl
theorem F1:∀ a:List α,PyData.depthAll (a.map D)=0
 | []=>rfl
 | a::as=>by rw[List.map_cons,PyData.depthAll,F1 as,uK (hD.flat a)]; rfl
end
theorem yM:vR wD:=⟨CK,fun _=>rfl⟩
theorem Al(c:Nat):flat (wD c)=true:=rfl
theorem W4{α:Type}(a:Option α):(some a).join=a:=rfl
theorem mS{xs:List PyData}(h:xs.length≤1000000):NX xs=some (.list xs):=by
 unfold NX
 rw[if_pos (Nat.le_trans h (by decide))]
section
variable{tab:Nat→Option PF}{prim:Nat→List PyData→Option PyData}{F l:Nat}{cl:Nat→List PyData→Option PyData}
theorem aF{s:PS}{ss:mG}{σ σ':dY}(h:oX cl F s σ=some (.next σ')):b6 cl F (.cons s ss) σ=b6 cl F ss σ':=congrArg (Option.bind · _) h
theorem T4{s:PS}{ss:mG}{σ:dY}{d:PyData}(h:oX cl F s σ=some (.ret d)):b6 cl F (.cons s ss) σ=some (.ret d):=congrArg (Option.bind · _) h
theorem cO{s:PS}{σ σ':dY}(h:oX cl F s σ=some (.next σ')):b6 cl F (.cons s .nil) σ=some (.next σ'):=congrArg (Option.bind · _) h
theorem DZ{c:PE}{a b:mG}{σ:dY}{d:PyData}{t:Bool}(h:aD cl c σ.env=some d)(ht:bT d=some t):oX cl F (.ife c a b) σ=if t then b6 cl F a σ else b6 cl F b σ:=(congrArg (Option.bind · _) h).trans (congrArg (Option.bind · _) ht)
theorem xC{c:PE}{a b:mG}{σ:dY}{d:PyData}(h:aD cl c σ.env=some d)(ht:bT d=some true):oX cl F (.ife c a b) σ=b6 cl F a σ:=DZ h ht
theorem iQ{c:PE}{a b:mG}{σ:dY}{d:PyData}(h:aD cl c σ.env=some d)(ht:bT d=some false):oX cl F (.ife c a b) σ=b6 cl F b σ:=DZ h ht
theorem bK{x:Nat}{e:PE}{σ:dY}{d:PyData}(h:aD cl e σ.env=some d):oX cl F (.assign x e) σ=some (.next (w4 σ x d (bP σ.own d e) (vK e))):=congrArg (Option.map _) h
theorem EJ{x y:Nat}{a b:PE}{σ:dY}{d d':PyData}(h1:aD cl a σ.env=some d)(h2:aD cl b σ.env=some d'):oX cl F (.assign2 x y a b) σ=some (.next (w4 (w4 σ x d (bP (bP σ.own d a) d' b) (u0 a b)) y d' (w4 σ x d (bP (bP σ.own d a) d' b) (u0 a b)).own false)) :=
 (show _=Option.bind (aD cl a σ.env) fun d=>(aD cl b σ.env).map fun d'=>Fl.next (w4 (w4 σ x d (bP (bP σ.own d a) d' b) (u0 a b)) y d' (w4 σ x d (bP (bP σ.own d a) d' b) (u0 a b)).own false)from rfl).trans (by rw[h1,h2]; rfl)
theorem pY{e:PE}{ss:mG}{σ:dY}{d:PyData}(h:aD cl e σ.env=some d):b6 cl F (.cons (.ret e) ss) σ=some (.ret d):=T4 (congrArg (Option.map _) h)
theorem xD{x:Nat}{e:PE}{σ:dY}{xs:List PyData}{d:PyData}(ho:σ.own.contains x=true)(hx:bC σ.env x=some (.list xs))(h:aD cl e σ.env=some d)(hg:(!flat d&&(kB e).contains x)=false)(hl:xs.length+1≤1000000) :
  oX cl F (.app x e) σ=some (.next { env:=σ.env.set x (some (.list (xs++[d]))),own:=bP σ.own d e }):=by
 have h0:oX cl F (.app x e) σ=if σ.own.contains x then(Option.bind (bC σ.env x) fun q=>iS q fun xs=>(aD cl e σ.env).bind fun d=>if !flat d&&(kB e).contains x then none else(NX (xs++[d])).map fun l=>.next { env:=σ.env.set x (some l),own:=bP σ.own d e })else none:=rfl
 rw[h0,if_pos ho,hx]
 show Option.bind (aD cl e σ.env) _=_
 rw[h]
 show(if(!flat d&&(kB e).contains x)=true then _ else _)=_
 rw[hg,mS (by rw[List.length_append]; exact hl)]
 rfl
theorem kM{t:Tg}{i:PI}{b:mG}{σ:dY}{ds:List PyData}(h:uY cl i σ.env=some ds):oX cl F (.for_ t i b) σ=dJ (b6 cl F b) (fun d τ=>(fO t d τ.env).map fun ρ=>{ env:=ρ,own:=lose τ.own (bU t) }) ds { σ with own:=lose σ.own (cT i) }:=congrArg (Option.bind · _) h
theorem eW{body:dY→Option Fl}{bind:PyData→dY→Option dY}{d:PyData}{ds:List PyData}{σ σ₁ σ₂:dY}(h1:bind d σ=some σ₁)(h2:body σ₁=some (.next σ₂)):dJ body bind (d::ds) σ=dJ body bind ds σ₂:=(congrArg (Option.bind · _) h1).trans (congrArg (Option.bind · _) h2)
theorem EK{test:dY→Option Bool}{body:dY→Option Fl}{n:Nat}{σ σ':dY}(h1:test σ=some true)(h2:body σ=some (.next σ')):dK test body (n+1) σ=dK test body n σ':=(congrArg (Option.bind · _) h1).trans (congrArg (Option.bind · _) h2)
theorem BH{test:dY→Option Bool}{body:dY→Option Fl}{n:Nat}{σ:dY}(h1:test σ=some false):dK test body (n+1) σ=some (.next σ):=congrArg (Option.bind · _) h1
theorem mO{f:Nat}{pf:PF}{args:List PyData}{d:PyData}(ht:tab f=some pf)(ha:args.length=pf.arity)(h:b6 (bH tab prim F l) F pf.body ⟨dE pf.size args,[]⟩=some (.ret d)):bH tab prim F (l+1) f args=some d:=by
 rw[bH,ht]
 dsimp only
 rw[if_pos ha,h]
theorem nZ{f:Nat}{args:List PyData}(ht:tab f=none):bH tab prim F (l+1) f args=prim f args:=by rw[bH,ht]
variable{α:Type} [BEq α] [LawfulBEq α] {D:α→PyData} (hD:vR D)
include hD
theorem NI{a:Option PyData}(xs:List α):∀(acc:List α)(t:Option PyData),acc.length+xs.length≤1000 →
  ∃ t',dJ (b6 cl F (.cons (.ife (.cmp .NotIn (.var 2) (.var 1)) (.cons (.app 1 (.var 2)) .nil) .nil) .nil)) (fun d τ=>(fO (.one 2) d τ.env).map fun ρ=>{ env:=ρ,own:=lose τ.own (bU (.one 2)) }) (xs.map D) ⟨[a,some (.list (acc.map D)),t],[1]⟩ =
   some (.next ⟨[a,some (.list ((uW xs acc).map D)),t'],[1]⟩):=by
 induction xs with
 | nil=>exact fun acc t _=>⟨t,rfl⟩
 | cons x xs ih =>
  intro acc t h
  rw[List.length_cons]at h
  have e:aD cl (.cmp .NotIn (.var 2) (.var 1)) [a,some (.list (acc.map D)),some (D x)]=some (.bool (!acc.contains x)):=yI hD x acc
  have step:b6 cl F (.cons (.ife (.cmp .NotIn (.var 2) (.var 1)) (.cons (.app 1 (.var 2)) .nil) .nil) .nil) ⟨[a,some (.list (acc.map D)),some (D x)],[1]⟩=some (.next ⟨[a,some (.list ((if acc.contains x then acc else acc++[x]).map D)),some (D x)],[1]⟩):=by
   refine cO ?_
   rw[DZ (F:=F) (a:=.cons (.app 1 (.var 2)) .nil) (b:=.nil) (σ:=⟨[a,some (.list (acc.map D)),some (D x)],[1]⟩) e rfl]
   cases hc:acc.contains x
   ·refine cO ?_
    rw[xD (xs:=acc.map D) (d:=D x) rfl rfl rfl (by rw[hD.flat x]; rfl) (by rw[List.length_map]; exact Nat.le_trans (Nat.succ_le_succ (Nat.le_add_right _ _)) (Nat.le_trans h (by decide)))]
    rw[bP,if_pos (hD.flat x),if_neg Bool.false_ne_true,List.map_append]; rfl
   ·rfl
  obtain⟨t',ih⟩:=ih (if acc.contains x then acc else acc++[x]) (some (D x)) (by split; exact Nat.le_of_succ_le h; rw[List.length_append]; exact Nat.succ_add _ _▸h)
  exact⟨t',by rw[List.map_cons,eW (σ₁:=⟨[a,some (.list (acc.map D)),some (D x)],[1]⟩) rfl step]; exact ih⟩
theorem rX{d:Nat}(ht:tab d=some RM)(xs:List α)(hl:xs.length≤1000):bH tab prim F (l+1) d [.list (xs.map D)]=some (.list ((uW xs []).map D)):=by
 obtain⟨t',h⟩:=NI (cl:=bH tab prim F l) (F:=F) (a:=some (.list (xs.map D))) hD xs [] none (by rwa[List.length_nil,Nat.zero_add])
 refine mO ht rfl ?_
 refine(aF (bK (d:=.list []) rfl)).trans ?_
 exact(aF ((kM (i:=SM) (ds:=xs.map D) rfl).trans h)).trans (pY rfl)
end
theorem FB{l:List Nat}(h:l.all (fun c=>decide (c<0x110000))=true)(hl:l.length≤1000000):bL (.str ⟨l.toArray⟩)=true :=
 Bool.and_eq_true_iff.mpr ⟨(List.all_toArray (p:=fun c=>decide (c<0x110000))).trans h,decide_eq_true (Nat.le_trans hl (by decide))⟩
noncomputable def A5(c:Nat):Bool:=jC c&&decide (c<55296)
theorem mN{c:Nat}(h:A5 c=true):jC c=true∧c<0x110000:=⟨(aA h).1,Nat.lt_trans (of_decide_eq_true (aA h).2) (by decide)⟩
theorem X8{c:Nat}(h:A5 c=true):bL (wD c)=true:=FB (l:=[c]) ((Bool.and_true _).trans (decide_eq_true (mN h).2)) (Nat.le_of_ble_eq_true rfl)
theorem yU(cs:List Nat):xG (cs.map wD)=some cs:=by
 induction cs with
 | nil=>rfl
 | cons c cs ih=>exact congrArg (Option.map _) ih
theorem MZ{cs:List Nat}(h:∀ c∈cs,A5 c=true)(hl:cs.length≤900):zA (cs.map wD)=some (.str (Str.join " " (cs.map qS))):=by
 unfold zA
 rw[yU]
 exact if_pos (Bool.and_eq_true_iff.mpr ⟨List.all_eq_true.mpr fun c hc=>(mN (h c hc)).1,decide_eq_true hl⟩)
theorem GW{cs:List Nat}(h:∀ c∈cs,A5 c=true)(hne:cs≠[])(hl:cs.length≤900):pA 1002 (Str.join " " (cs.map qS))=some (aU cs) :=
 C4 (F:=1001) (fun c hc=>(mN (h c hc)).1) (fun c hc=>X8 (h c hc)) hne hl (by decide)
theorem RD{α:Type} [BEq α] [LawfulBEq α] {D:α→PyData} (hD:vR D) {d:Nat} (xs ys:List α) (hx:xs.length≤1000) (hy:ys.length≤1000):IS (w7 1002 d RM d) (xs.map D) (ys.map D)=some (.bool (kI xs ys)):=by
 have ht:XI d RM d=some RM:=if_pos rfl
 unfold IS w7
 rw[rX hD ht xs hx,rX hD ht ys hy]
 show(if PyData.depthAll ((uW xs []).map D)≤64 then some (PyData.bool (iG ((uW xs []).map D) ((uW ys []).map D)))else none)=_
 rw[F1 hD,if_pos (by decide),NL hD.eqv (oH _ _ List.nodup_nil) (oH _ _ List.nodup_nil),LS]
theorem R7{q:Int}(h0:-1000001<q)(h:q<1000001):pZ (.int q)=some q :=
 if_pos (Bool.and_eq_true_iff.mpr ⟨decide_eq_true (Int.lt_trans (by decide +kernel) h0),decide_eq_true (Int.lt_trans h (by decide +kernel))⟩)
theorem G5{q:Int}{n:Nat}(h0:0≤q)(h:q<1000001)(hn:q.toNat<n):cY q n=some q.toNat :=
 (if_pos (Bool.and_eq_true_iff.mpr ⟨decide_eq_true (Int.lt_of_lt_of_le (by decide +kernel) h0),decide_eq_true (Int.lt_trans h (by decide +kernel))⟩)).trans ((if_pos h0).trans (if_pos hn))
section
variable{cl:Nat→List PyData→Option PyData}{ρ:aL}{a b lo hi:PE}
theorem KD{p:Nat}(h:p≤1000000):(p:Int)<1000001:=Int.ofNat_lt.mpr (Nat.lt_succ_of_le h)
theorem fY{p:Nat}(h:p≤1000000):pZ (.int (p:Int))=some (p:Int):=R7 (Int.lt_of_lt_of_le (by decide) (Int.natCast_nonneg p)) (KD h)
theorem v9{p n:Nat}(hp:p≤1000000)(h:p<n):cY (p:Int) n=some p:=G5 (Int.natCast_nonneg p) (KD hp) h
theorem yN{p:Nat}(h:p≤1000000):u3 (p:Int)=true:=decide_eq_true (Nat.lt_of_le_of_lt h (Nat.lt_of_lt_of_le (show 1000000<2 ^ 20 by decide) (Nat.pow_le_pow_right (by decide) (by decide))))
theorem jK{e:PE}{d:PyData}{i:Int}(h:aD cl e ρ=some d)(hp:pZ d=some i):W2 cl (.yes e) ρ=some (some i):=(congrArg (Option.bind · _) h).trans (congrArg (Option.map _) hp)
theorem lN{x:PyData}{u v:PO}{i j:Option Int}(h1:aD cl a ρ=some x)(h2:W2 cl u ρ=some i)(h3:W2 cl v ρ=some j):aD cl (.slc a u v) ρ=IJ x i j :=
 (congrArg (Option.bind · _) h1).trans ((congrArg (Option.bind · _) h2).trans (congrArg (Option.bind · _) h3))
theorem WM{l:List PyData}{p q:Nat}(h1:aD cl a ρ=some (.list l))(h2:aD cl lo ρ=some (.int (p:Int)))(h3:aD cl hi ρ=some (.int (q:Int)))(hp:p≤1000000)(hq:q≤1000000):aD cl (.slc a (.yes lo) (.yes hi)) ρ=some (.list ((l.take q).drop p)) :=
 (lN h1 (jK h2 (fY hp)) (jK h3 (fY hq))).trans (congrArg (fun l=>some (PyData.list l)) (WS ..))
theorem WL{l:List PyData}{p:Nat}(h1:aD cl a ρ=some (.list l))(h2:aD cl lo ρ=some (.int (p:Int)))(hp:p≤1000000):aD cl (.slc a (.yes lo) .no) ρ=some (.list (l.drop p)) :=
 (lN h1 (jK h2 (fY hp)) rfl).trans (congrArg (fun l=>some (PyData.list l)) (KR ..))
theorem xM{l:List PyData}{q:Nat}(h1:aD cl a ρ=some (.list l))(h3:aD cl hi ρ=some (.int (q:Int)))(hq:q≤1000000):aD cl (.slc a .no (.yes hi)) ρ=some (.list (l.take q)) :=
 (lN h1 rfl (jK h3 (fY hq))).trans (congrArg (fun l=>some (PyData.list l)) (KQ ..))
theorem eB{op:Operator}{x y z:PyData}(h1:aD cl a ρ=some x)(h2:aD cl b ρ=some y)(h:sC op x y=some z):aD cl (.bin op a b) ρ=some z:=(congrArg (Option.bind · _) h1).trans ((congrArg (Option.bind · _) h2).trans h)
theorem dD{op:CmpOp}{x y z:PyData}(h1:aD cl a ρ=some x)(h2:aD cl b ρ=some y)(h:u4 op x y=some z):aD cl (.cmp op a b) ρ=some z:=(congrArg (Option.bind · _) h1).trans ((congrArg (Option.bind · _) h2).trans h)
theorem eX{p q:Nat}(h1:aD cl a ρ=some (.int (p:Int)))(h2:aD cl b ρ=some (.int (q:Int))):aD cl (.bin .Add a b) ρ=some (.int ((p+q:Nat):Int)):=eB h1 h2 rfl
theorem y8{x:PyData}(h1:aD cl a ρ=some x):kF cl (.cons a .nil) ρ=some [x]:=congrArg (Option.bind · _) h1
theorem OL{x y:PyData}(h1:aD cl a ρ=some x)(h2:aD cl b ρ=some y):kF cl (.cons a (.cons b .nil)) ρ=some [x,y]:=(congrArg (Option.bind · _) h1).trans (congrArg (Option.map _) (y8 h2))
theorem zH{c:PE}{x y z:PyData}(h1:aD cl a ρ=some x)(h2:aD cl b ρ=some y)(h3:aD cl c ρ=some z):kF cl (.cons a (.cons b (.cons c .nil))) ρ=some [x,y,z]:=(congrArg (Option.bind · _) h1).trans (congrArg (Option.map _) (OL h2 h3))
theorem ED{f:Bi}{es:r8}{l:List PyData}{d:PyData}(h:kF cl es ρ=some l)(hd:W3 f l=some d):aD cl (.bi f es) ρ=some d:=(congrArg (Option.bind · _) h).trans hd
theorem nV{f:Nat}{es:r8}{l:List PyData}{d:PyData}(h:kF cl es ρ=some l)(hd:cl f l=some d):aD cl (.call f es) ρ=some d:=(congrArg (Option.bind · _) h).trans hd
theorem pH{l:List PyData}(h1:aD cl a ρ=some (.list l)):aD cl (.bi .len (.cons a .nil)) ρ=some (.int (l.length:Int)):=ED (y8 h1) rfl
theorem wP{l:List PyData}{i:Int}:BA (.list l) (.int i)=(cY i l.length).bind (l[·]?):=rfl
theorem yQ{x y d:PyData}{i:PE}(h1:aD cl a ρ=some x)(h2:aD cl i ρ=some y)(h:BA x y=some d):aD cl (.idx a i) ρ=some d:=(congrArg (Option.bind · _) h1).trans ((congrArg (Option.bind · _) h2).trans h)
theorem fG{l:List PyData}{x:PyData}{i:PE}{p:Nat}(h1:aD cl a ρ=some (.list l))(h2:aD cl i ρ=some (.int (p:Int)))(hp:p≤1000000)(hx:l[p]? = some x):aD cl (.idx a i) ρ=some x :=
 yQ h1 h2 (by rw[wP,v9 hp (List.getElem?_eq_some_iff.mp hx).1]; exact hx)
theorem zG{x:Nat}{w:List Nat}(h1:aD cl a ρ=some (wD x))(h2:aD cl b ρ=some (aU w)):aD cl (.cmp .In a b) ρ=some (.bool (w.contains x)):=dD h1 h2 (TZ yM x w)
theorem Q9{v w:List Nat}(h1:aD cl a ρ=some (aU v))(h2:aD cl b ρ=some (aU w))(hl:v.length+w.length≤1000000):aD cl (.bin .Add a b) ρ=some (aU (v++w)) :=
 eB h1 h2 ((mS (by rw[← List.map_append,List.length_map,List.length_append]; exact hl)).trans (by rw[aU,List.map_append]))
theorem WO{x:Bool}{y:PyData}(h1:aD cl a ρ=some (.bool x))(h2:x=true→aD cl b ρ=some y):aD cl (.bool true a b) ρ=some (if x then y else .bool false) :=
 (congrArg (Option.bind · _) h1).trans (match x,h2 with | true,h2=>h2 rfl | false,_=>rfl)
theorem gN{f:Nat}{x d:PyData}(h1:aD cl a ρ=some x)(h:cl f [x]=some d):aD cl (.call f (.cons a .nil)) ρ=some d:=nV (y8 h1) h
theorem kU{f:Nat}{x y d:PyData}(h1:aD cl a ρ=some x)(h2:aD cl b ρ=some y)(h:cl f [x,y]=some d):aD cl (.call f (.cons a (.cons b .nil))) ρ=some d:=nV (OL h1 h2) h
theorem tE{q:Nat}(h:aD cl a ρ=some (.int (q:Int)))(hq:q≤1000000):uY cl (.range1 a) ρ=some ((List.range q).map fun(k:Nat)=>PyData.int ((0+k:Nat):Int)) :=
 (congrArg (Option.bind · _) h).trans ((if_pos (Bool.and_eq_true_iff.mpr ⟨decide_eq_true (Int.natCast_nonneg q),decide_eq_true (Int.le_trans (Int.ofNat_le.mpr hq) (by decide))⟩)).trans (congrArg some (by
  unfold XE
  rw[rangeSize_nat,Int.toNat_natCast,Int.sub_zero,Int.toNat_natCast]
  exact congrArg (List.map · _) (funext fun k=>by rw[Int.mul_one,Int.natCast_add]; rfl))))
theorem JM{p q:Nat}(h0:0<q)(hq:q≤1000000):sC .FloorDiv (.int (p:Int)) (.int (q:Int))=some (.int ((p / q:Nat):Int)):=by
 show(if(decide (0<((q:Nat):Int))&&u3 (q:Int))=true then some (PyData.int ((p:Int).fdiv (q:Int)))else none)=_
 rw[yN hq,decide_eq_true (Int.natCast_pos.mpr h0),Int.fdiv_eq_ediv_of_nonneg _ (Int.natCast_nonneg q)]; rfl
theorem OB{p q:Nat}(h0:0<q):sC .Mod (.int (p:Int)) (.int (q:Int))=some (.int ((p%q:Nat):Int)):=by
 show(if 0<((q:Nat):Int)then some (PyData.int ((p:Int).fmod (q:Int)))else none)=_
 rw[if_pos (Int.natCast_pos.mpr h0),Int.fmod_eq_emod_of_nonneg _ (Int.natCast_nonneg q)]; rfl
theorem rU{w:List Nat}{p q k:Nat}(h1:aD cl a ρ=some (aU w))(h2:aD cl lo ρ=some (.int (p:Int)))(h3:aD cl hi ρ=some (.int (q:Int)))(e:q=p+k)(hq:q≤1000000):aD cl (.slc a (.yes lo) (.yes hi)) ρ=some (aU ((w.drop p).take k)) :=
 (WM h1 h2 h3 (Nat.le_trans (e▸Nat.le_add_right p k) hq) hq).trans (by rw[e,← List.take_drop,aU,List.map_take,List.map_drop])
theorem Q7{w:List Nat}{p:Nat}(h1:aD cl a ρ=some (aU w))(h2:aD cl lo ρ=some (.int (p:Int)))(hp:p≤1000000):aD cl (.slc a (.yes lo) .no) ρ=some (aU (w.drop p)):=(WL h1 h2 hp).trans (by rw[aU,List.map_drop])
theorem Q4{w:List Nat}{q:Nat}(h1:aD cl a ρ=some (aU w))(h2:aD cl hi ρ=some (.int (q:Int)))(hq:q≤1000000):aD cl (.slc a .no (.yes hi)) ρ=some (aU (w.take q)):=(xM h1 h2 hq).trans (by rw[aU,List.map_take])
theorem hH{x y:Bool}(h1:aD cl a ρ=some (.bool x))(h2:aD cl b ρ=some (.bool y)):aD cl (.bool true a b) ρ=some (.bool (x&&y)):=(congrArg (Option.bind · _) h1).trans (by cases x with | true=>exact h2 | false=>rfl)
end
theorem CE{α β:Type}{g:α→List β}{c:Nat}{ds:List α}(h:∀ d∈ds,(g d).length≤c):(ds.flatMap g).length≤ds.length*c:=by
 induction ds with
 | nil=>exact Nat.zero_le _
 | cons d ds ih =>
  rw[List.flatMap_cons,List.length_append,List.length_cons,Nat.succ_mul,Nat.add_comm]
  exact Nat.add_le_add (ih fun x hx=>h x (List.mem_cons_of_mem _ hx)) (h d List.mem_cons_self)
noncomputable abbrev sD(l:List Nat):PyData:=.str ⟨l.toArray⟩
section
variable{cl:Nat→List PyData→Option PyData}{ρ:aL}{a b lo hi:PE}{F:Nat}
theorem CL(a b:List Nat):PyData.eqv (sD a) (sD b)=(a==b):=by
 show((⟨a.toArray⟩:Str)==⟨b.toArray⟩)=_
 by_cases h:a=b
 ·subst h; rw[beq_self_eq_true,beq_self_eq_true]
 ·rw[beq_false_of_ne h,beq_false_of_ne fun e=>h (congrArg (fun s:Str=>s.cps.toList) e)]
theorem RA(l:List Nat)(d:PyData):l3 (sD l) d=true:=decide_eq_true (Nat.le_trans (Nat.min_le_left _ _) (show(sD l).depth≤_ from Nat.zero_le _))
theorem XY(x y:List Nat)(t:PyData):(if l3 (sD x) (sD y)=true then some t else none)=some t:=if_pos (RA x (sD y))
theorem xO{x y:List Nat}(h1:aD cl a ρ=some (sD x))(h2:aD cl b ρ=some (sD y)):aD cl (.cmp .Eq a b) ρ=some (.bool (x==y)):=dD h1 h2 ((XY x y _).trans (by rw[CL]))
theorem WN{x y:List Nat}(h1:aD cl a ρ=some (sD x))(h2:aD cl b ρ=some (sD y)):aD cl (.cmp .NotEq a b) ρ=some (.bool (!(x==y))):=dD h1 h2 ((XY x y _).trans (by rw[CL]))
theorem Q8{l:List Nat}(h1:aD cl a ρ=some (sD l)):aD cl (.bi .len (.cons a .nil)) ρ=some (.int (l.length:Int)):=ED (y8 h1) rfl
theorem KW(a b:List Nat)(h:a.length+b.length≤1000000):sC .Add (sD a) (sD b)=some (sD (a++b)):=by
 show Ah ((⟨a.toArray⟩:Str)++⟨b.toArray⟩)=_
 rw[jH]
 exact if_pos (Nat.le_trans (Nat.le_of_eq (show(a++b).length=_ from List.length_append)) (Nat.le_trans h (by decide)))
theorem hU{x y:List Nat}(h1:aD cl a ρ=some (sD x))(h2:aD cl b ρ=some (sD y))(h:x.length+y.length≤1000000):aD cl (.bin .Add a b) ρ=some (sD (x++y)):=eB h1 h2 (KW x y h)
theorem M3{s:Str}{i:Int}:BA (.str s) (.int i)=(cY i s.length).bind fun k=>(s.cps[k]?).map fun c=>PyData.str ⟨#[c]⟩:=rfl
theorem rV{l:List Nat}{c:Nat}{i:PE}{p:Nat}(h1:aD cl a ρ=some (sD l))(h2:aD cl i ρ=some (.int (p:Int)))(hp:p≤1000000)(hx:l[p]? = some c):aD cl (.idx a i) ρ=some (wD c):=by
 have h3:l.toArray[p]? = some c:=List.getElem?_toArray.trans hx
 refine yQ h1 h2 ?_
 rw[M3,v9 hp (show p<(⟨l.toArray⟩:Str).length from(List.getElem?_eq_some_iff.mp hx).1)]
 show(l.toArray[p]?).map _=_
 rw[h3]; rfl
theorem Q6{l:List Nat}{p:Nat}(h1:aD cl a ρ=some (sD l))(h2:aD cl lo ρ=some (.int (p:Int)))(hp:p≤1000000):aD cl (.slc a (.yes lo) .no) ρ=some (sD (l.drop p)) :=
 (lN h1 (jK h2 (fY hp)) rfl).trans (congrArg (fun l=>some (sD l)) (KR ..))
theorem FY{l:List Nat}{q:Nat}(h1:aD cl a ρ=some (sD l))(h3:aD cl hi ρ=some (.int (q:Int)))(hq:q≤1000000):aD cl (.slc a .no (.yes hi)) ρ=some (sD (l.take q)) :=
 (lN h1 rfl (jK h3 (fY hq))).trans (congrArg (fun l=>some (sD l)) (KQ ..))
theorem HA{p:Nat}(h:p≤1000000):pZ (.int (-(p:Int)))=some (-(p:Int)):=R7 (Int.lt_of_lt_of_le (by decide) (Int.neg_le_neg (Int.ofNat_le.mpr h))) (Int.lt_of_le_of_lt (Int.neg_nonpos_of_nonneg (Int.natCast_nonneg p)) (by decide))
theorem RB{α:Type}(l:List α){p:Nat}(hp:0<p):cut l (some (-(p:Int))) none=l.drop (l.length - p):=by
 have h:dH (-(p:Int)) l.length=l.length - p:=by
  have e:-(p:Int)+l.length≤l.length:=Int.le_trans (Int.add_le_add_right (Int.neg_nonpos_of_nonneg (Int.natCast_nonneg p)) _) (Int.le_of_eq (Int.zero_add _))
  rw[dH,if_pos (Int.neg_neg_of_pos (Int.ofNat_lt.mpr hp)),Int.min_eq_left e,Int.add_comm,← Int.sub_eq_add_neg]
  rcases Nat.le_total p l.length with h | h
  ·exact congrArg Int.toNat ((congrArg (max 0) (Int.ofNat_sub h).symm).trans (Int.max_eq_right (Int.natCast_nonneg _)))
  ·rw[Nat.sub_eq_zero_of_le h,Int.max_eq_left (Int.sub_nonpos_of_le (Int.ofNat_le.mpr h))]; rfl
 show(l.take l.length).drop (dH (-(p:Int)) l.length)=_
 rw[h,List.take_length]
theorem Q5{l:List Nat}{p:Nat}(h1:aD cl a ρ=some (sD l))(h2:aD cl lo ρ=some (.int (-(p:Int))))(h0:0<p)(hp:p≤1000000):aD cl (.slc a (.yes lo) .no) ρ=some (sD (l.drop (l.length - p))) :=
 (lN h1 (jK h2 (HA hp)) rfl).trans (congrArg (fun l=>some (sD l)) (RB _ h0))
theorem Cd{i:Int}(h:aD cl a ρ=some (.int i)):aD cl (.neg a) ρ=some (.int (-i)):=congrArg (Option.bind · _) h
theorem yO{p q:Nat}(h1:aD cl a ρ=some (.int (p:Int)))(h2:aD cl b ρ=some (.int (q:Int)))(h:q≤p):aD cl (.bin .Sub a b) ρ=some (.int ((p - q:Nat):Int)):=eB h1 h2 (congrArg (fun i=>some (PyData.int i)) (Int.ofNat_sub h).symm)
theorem CI{p q:Nat}{t:Bool}(h1:aD cl a ρ=some (.int (p:Int)))(h2:aD cl b ρ=some (.int (q:Int)))(h:decide (p<q)=t):aD cl (.cmp .Lt a b) ρ=some (.bool t):=dD h1 h2 (congrArg (fun i=>some (PyData.bool i)) ((decide_eq_decide.mpr Int.ofNat_lt).trans h))
theorem mU{c:PE}{t:Bool}{x y:PyData}(h:aD cl c ρ=some (.bool t))(h1:t=true→aD cl a ρ=some x)(h2:t=false→aD cl b ρ=some y):aD cl (.ite c a b) ρ=some (bif t then x else y) :=
 (congrArg (Option.bind · _) h).trans (by cases t with | true=>exact h1 rfl | false=>exact h2 rfl)
theorem nU{c:PE}{t:Bool}{p q:Nat}(h:aD cl c ρ=some (.bool t)):aD cl (.ite c (.lit (.int (p:Int))) (.lit (.int (q:Int)))) ρ=some (.int ((bif t then p else q:Nat):Int)) :=
 (congrArg (Option.bind · _) h).trans (by cases t <;> rfl)
theorem Z1{y:PyData}(h1:aD cl a ρ=some (.bool false))(h2:aD cl b ρ=some y):aD cl (.bool false a b) ρ=some y:=(congrArg (Option.bind · _) h1).trans h2
theorem JT{x:Nat}{op:Operator}{e:PE}{σ:dY}{u v d:PyData}(hx:bC σ.env x=some u)(h:aD cl e σ.env=some v)(hf:(flat u&&flat v&&(op == .Add||op == .Sub))=true)(hd:sC op u v=some d):oX cl F (.aug x op e) σ=some (.next (w4 σ x d σ.own false)) :=
 (congrArg (Option.bind · _) hx).trans ((congrArg (Option.bind · _) h).trans ((if_pos hf).trans (congrArg (Option.map _) hd)))
theorem lB{x:Nat}{e:PE}{σ:dY}{p q:Nat}(hx:bC σ.env x=some (.int (p:Int)))(h:aD cl e σ.env=some (.int (q:Int))):oX cl F (.aug x .Add e) σ=some (.next (w4 σ x (.int ((p+q:Nat):Int)) σ.own false)):=JT hx h rfl rfl
theorem OQ{x:Nat}{e:PE}{σ:dY}{p q:List Nat}(hx:bC σ.env x=some (sD p))(h:aD cl e σ.env=some (sD q))(hl:p.length+q.length≤1000000):oX cl F (.aug x .Add e) σ=some (.next (w4 σ x (sD (p++q)) σ.own false)):=JT hx h rfl (KW p q hl)
theorem CJ{x y:List Nat}{t:Bool}(h1:aD cl a ρ=some (sD y))(h2:aD cl b ρ=some (sD x))(h:Txt.contains ⟨x.toArray⟩ ⟨y.toArray⟩=t):aD cl (.cmp .In a b) ρ=some (.bool t):=dD h1 h2 (congrArg (fun i=>some (PyData.bool i)) h)
end
end Kt.Internal
end
section

namespace Kt.Internal
theorem iJ{α:Type} [BEq α] [LawfulBEq α] (l:List α):∀{m:List α},l.Nodup→(∀ x∈l,x∈m)→l.length≤m.length:=by
 induction l with
 | nil=>exact fun _ _=>Nat.zero_le _
 | cons a l ih =>
  intro m h hs
  rw[List.nodup_cons]at h
  have ha:=hs a (.head _)
  have:=ih (m:=m.erase a) h.2 fun x hx=>(List.mem_erase_of_ne fun e:x=a=>h.1 (e▸hx)).mpr (hs x (.tail _ hx))
  rw[List.length_erase_of_mem ha]at this
  exact Nat.le_trans (Nat.succ_le_succ this) (Nat.le_of_eq (Nat.succ_pred_eq_of_pos (List.length_pos_of_mem ha)))
section
variable{s:Nat→Nat}
def B2(β:Nat→Nat):Prop:=∀ p,β p<2
noncomputable def gR(s:Nat→Nat)(β:Nat→Nat):List Nat:=[s (β 0),s (2+β 1),s (4+β 2),s (6+β 3)]
def Tk(s:Nat→Nat)(r:List Nat)(β:Nat→Nat):Prop:=∀ k,k<8→s k∈r→k%2=β (k / 2)
theorem l8{n:Nat}(h:n<2):n=0∨n=1:=(Nat.le_one_iff_eq_zero_or_eq_one).mp (Nat.le_of_lt_succ h)
theorem hf(k:Nat)(h:k<8):k / 2<4:=Nat.div_lt_of_lt_mul h
theorem k8:∀ k<8,k%2=0→k+1<8∧(k+1) / 2=k / 2∧(k+1)%2=1∧2*(k / 2)=k:=by decide
theorem k9:∀(k:Fin 8)(b0 b1 b2 b3:Fin 2),decide (k.1=b0.1∨k.1=2+b1.1∨k.1=4+b2.1∨k.1=6+b3.1)=(k.1%2==[b0.1,b1.1,b2.1,b3.1].getD (k.1 / 2) 0):=by decide +kernel
theorem Bz{P:Nat→Prop}(h0:P 0)(h1:P 1)(h2:P 2)(h3:P 3):∀ p<4,P p:=fun p hp=>by
 iterate 4
  cases p with
  | zero=>assumption
  | succ p=>?_
 exact absurd hp (Nat.not_lt.mpr (Nat.le_add_left 4 p))
theorem Cn(β:Nat→Nat):∀ p<4,[β 0,β 1,β 2,β 3].getD p 0=β p:=Bz rfl rfl rfl rfl
theorem KF(hs:∀ i j,i<8→j<8→s i=s j→i=j){β:Nat→Nat}(hβ:B2 β){k:Nat}(hk:k<8):s k∈gR s β↔k%2=β (k / 2):=by
 have q:∀{c p:Nat},c≤6→(s k=s (c+β p)↔k=c+β p):=fun hc=>⟨hs k _ hk (Nat.add_lt_add_of_le_of_lt hc (hβ _)),congrArg s⟩
 have q0:s k=s (β 0)↔k=β 0:=⟨hs k _ hk (Nat.lt_trans (hβ 0) (by decide)),congrArg s⟩
 unfold gR
 rw[List.mem_cons,List.mem_cons,List.mem_cons,List.mem_singleton,q0,q (by decide),q (by decide),q (by decide),← Cn β _ (hf k hk),← beq_iff_eq (a:=k%2),← k9 ⟨k,hk⟩ ⟨_,hβ 0⟩ ⟨_,hβ 1⟩ ⟨_,hβ 2⟩ ⟨_,hβ 3⟩,decide_eq_true_iff]
structure A7(s:Nat→Nat)(r:List Nat):Prop where
 nd:r.Nodup
 of:∀ x∈r,∃ k,k<8∧x=s k
 one:∀ p,p<4→s (2*p)∈r→s (2*p+1)∉r
structure q8(s:Nat→Nat)(N R0 R1:List (List Nat))(ru:List Nat×List (List Nat)):Prop where
 wf:A7 s ru.1
 len:ru.2.length≤16
 sub:∀ n∈ru.2,n∈N
 p1:∀ β,B2 β→gR s β∉R0→(∀ k,k<2→s k∈ru.1→k%2=β (k / 2))→gR s β∈ru.2
 p2:∀ β,B2 β→gR s β∉R1→gR s β∈ru.2→¬∀ k,k<8→2≤k→s k∈ru.1→k%2=β (k / 2)
 p3:∀ β γ,B2 β→B2 γ→β 1=γ 1→β 2=γ 2→gR s β∈ru.2→gR s γ∈ru.2
noncomputable def fN(s:Nat→Nat)(a b:List Nat)(k:Nat):Bool:=(a.contains (s k)&&b.contains (s (k+1)))||(a.contains (s (k+1))&&b.contains (s k))
noncomputable def mI(s:Nat→Nat)(a b:List Nat):List Nat:=[0,2,4,6].filter (fN s a b)
theorem i7{a b:List Nat}{k:Nat}:fN s a b k=true↔(s k∈a∧s (k+1)∈b)∨(s (k+1)∈a∧s k∈b):=by
 unfold fN
 rw[Bool.or_eq_true,Bool.and_eq_true,Bool.and_eq_true,List.contains_iff_mem,List.contains_iff_mem,List.contains_iff_mem,List.contains_iff_mem]
theorem zF{k:Nat}:k∈[0,2,4,6]↔k<8∧k%2=0 :=
 ⟨(show ∀ k∈[0,2,4,6],k<8∧k%2=0 by decide) k,fun h=>(show ∀ k<8,k%2=0→k∈[0,2,4,6] by decide) k h.1 h.2⟩
theorem B4{a b:List Nat}{k:Nat}(h:mI s a b=[k]):(k<8∧k%2=0)∧fN s a b k=true∧∀ j,j<8→j%2=0→j≠k→fN s a b j≠true:=by
 have hm:∀ j,j∈mI s a b↔j∈[0,2,4,6]∧fN s a b j=true:=fun j=>List.mem_filter
 rw[h]at hm
 have:=(hm k).mp (.head _)
 exact⟨zF.mp this.1,this.2,fun j h1 h2 h3 h4=>h3 (List.mem_singleton.mp ((hm j).mpr ⟨zF.mpr ⟨h1,h2⟩,h4⟩))⟩
theorem VL{a b:List Nat}{k:Nat}(hk:k<8∧k%2=0)(h:fN s a b k=true)(ho:∀ j,j<8→j%2=0→j≠k→fN s a b j≠true):mI s a b=[k]:=by
 have hk':=zF.mpr hk
 have e:mI s a b=[0,2,4,6].filter fun j=>j==k:=List.filter_congr fun j hj=>by
  by_cases e:j=k
  ·rw[e,h,beq_self_eq_true]
  ·rw[beq_false_of_ne e,Bool.eq_false_iff.mpr (ho j (zF.mp hj).1 (zF.mp hj).2 e)]
 exact e.trans ((show ∀ k∈[0,2,4,6],([0,2,4,6].filter fun j=>j==k)=[k] by decide) k hk')
noncomputable def f8(s:Nat→Nat)(k:Nat)(a b:List Nat):List Nat:=(uW (a++b) []).filter fun w=>!([s k,s (k+1)]:List Nat).contains w
noncomputable def oZ(k:Nat)(M M':List (List Nat)):List (List Nat):=if k=0 then uW (M++M') []else M.filter M'.contains
theorem lK{k x:Nat}{a b:List Nat}:x∈f8 s k a b↔(x∈a∨x∈b)∧x≠s k∧x≠s (k+1):=by
 unfold f8
 rw[List.mem_filter,tF,or_iff_right List.not_mem_nil,List.mem_append,Bool.not_eq_true',Bool.eq_false_iff,ne_eq,List.contains_iff_mem,List.mem_cons,List.mem_singleton,not_or]
theorem lL{k:Nat}{M M':List (List Nat)}{n:List Nat}:n∈oZ k M M'↔(k=0∧(n∈M∨n∈M'))∨(k≠0∧n∈M∧n∈M'):=by
 unfold oZ
 by_cases h:k=0
 ·rw[if_pos h,tF,or_iff_right List.not_mem_nil,List.mem_append]
  exact⟨fun x=>.inl ⟨h,x⟩,fun x=>x.elim And.right fun x=>absurd h x.1⟩
 ·rw[if_neg h,List.mem_filter,List.contains_iff_mem]
  exact⟨fun x=>.inr ⟨h,x⟩,fun x=>x.elim (fun x=>absurd x.1 h) And.right⟩
theorem only{r:List Nat}(w:A7 s r){k:Nat}(h8:k<8)(h2:k%2=0){j:Nat}(hj:j<8)(e:j / 2=k / 2)(m:s j∈r):(s k∈r→j%2=0)∧(s (k+1)∈r→j%2=1):=by
 obtain⟨_,_,q,hp⟩:=k8 k h8 h2
 have w:=w.one (k / 2) (hf k h8)
 rw[hp]at w
 rcases(show ∀ k<8,k%2=0→∀ j<8,j / 2=k / 2→j=k∨j=k+1 by decide) k h8 h2 j hj e with rfl | rfl
 ·exact⟨fun _=>h2,fun h=>absurd h (w m)⟩
 ·exact⟨fun h=>absurd m (w h),fun _=>q⟩
variable{N R0 R1:List (List Nat)}
theorem QW(hs:∀ i j,i<8→j<8→s i=s j→i=j)(hN:N.length≤16){a b:List Nat×List (List Nat)}(ha:q8 s N R0 R1 a)(hb:q8 s N R0 R1 b){k:Nat}(hk:mI s a.1 b.1=[k]):q8 s N R0 R1 (f8 s k a.1 b.1,oZ k a.2 b.2):=by
 obtain⟨⟨k8',k2⟩,hc,ho⟩:=B4 hk
 obtain⟨kl,kh,_,_⟩:=k8 k k8' k2
 have inR:∀{j},j<8→j / 2≠k / 2→s j∈a.1∨s j∈b.1→s j∈f8 s k a.1 b.1:=fun hj h h'=>lK.mpr ⟨h',fun e=>h (hs _ _ hj k8' e▸rfl),fun e=>h (hs _ _ hj kl e▸kh)⟩
 have side:∀ β,B2 β→(∀ j,j<8→j / 2=k / 2→s j∈a.1→j%2=β (j / 2))∨∀ j,j<8→j / 2=k / 2→s j∈b.1→j%2=β (j / 2):=fun β hβ=>by
  have oa:=fun{j}=>only ha.wf k8' k2 (j:=j)
  have ob:=fun{j}=>only hb.wf k8' k2 (j:=j)
  rcases i7.mp hc with⟨h1,h2⟩| ⟨h1,h2⟩ <;> rcases l8 (hβ (k / 2))with e | e
  ·exact .inl fun j hj q m=>((oa hj q m).1 h1).trans (q▸e.symm)
  ·exact .inr fun j hj q m=>((ob hj q m).2 h2).trans (q▸e.symm)
  ·exact .inr fun j hj q m=>((ob hj q m).1 h2).trans (q▸e.symm)
  ·exact .inl fun j hj q m=>((oa hj q m).2 h1).trans (q▸e.symm)
 have lo:∀{j},j<2→j<8∧j / 2=0:=fun h=>⟨Nat.lt_trans h (by decide),Nat.div_eq_of_lt h⟩
 have kz:k≠0→k / 2≠0:=(show ∀ k<8,k%2=0→k≠0→k / 2≠0 by decide) k k8' k2
 refine⟨⟨(oH _ _ List.nodup_nil).filter _,fun x hx=>(lK.mp hx).1.elim (ha.wf.of x) (hb.wf.of x),fun p hp h1 h2=>?_⟩,?_,fun n hn=>(lL.mp hn).elim (fun h=>h.2.elim (ha.sub n) (hb.sub n)) fun h=>ha.sub n h.2.1,fun β hβ h0 hr=>?_,fun β hβ h1 hm hr=>?_,fun β γ hβ hγ e1 e2 hm=>?_⟩
 ·obtain⟨g1,g2,_⟩:=lK.mp h1
  obtain⟨g3,_,_⟩:=lK.mp h2
  refine ho (2*p) (Nat.mul_lt_mul_of_pos_left hp Nat.two_pos) (Nat.mul_mod_right 2 p) (fun e=>g2 (e▸rfl)) (i7.mpr ?_)
  rcases g1 with g1 | g1 <;> rcases g3 with g3 | g3
  ·exact absurd g3 (ha.wf.one p hp g1)
  ·exact .inl ⟨g1,g3⟩
  ·exact .inr ⟨g3,g1⟩
  ·exact absurd g3 (hb.wf.one p hp g1)
 ·show(oZ k a.2 b.2).length≤16
  unfold oZ
  split
  ·exact Nat.le_trans (iJ _ (oH _ _ List.nodup_nil) fun n hn=>((tF _ _ _).mp hn).elim (fun h=>absurd h List.not_mem_nil) fun h=>(List.mem_append.mp h).elim (ha.sub n) (hb.sub n)) hN
  ·exact Nat.le_trans (List.length_filter_le _ _) ha.len
 ·by_cases e:k=0
  ·have q:∀{j},j<2→j / 2=k / 2:=fun h=>(lo h).2.trans (by rw[e])
   exact lL.mpr (.inl ⟨e,(side β hβ).imp (fun h=>ha.p1 β hβ h0 fun j hj hr=>h j (lo hj).1 (q hj) hr) fun h=>hb.p1 β hβ h0 fun j hj hr=>h j (lo hj).1 (q hj) hr⟩)
  ·have q:∀{j},j<2→j / 2≠k / 2:=fun h e'=>kz e (e'.symm.trans (lo h).2)
   exact lL.mpr (.inr ⟨e,ha.p1 β hβ h0 fun j hj h=>hr j hj (inR (lo hj).1 (q hj) (.inl h)),hb.p1 β hβ h0 fun j hj h=>hr j hj (inR (lo hj).1 (q hj) (.inr h))⟩)
 ·rcases lL.mp hm with⟨e,hm⟩| ⟨e,hm,hm'⟩
  ·have q:∀{j},2≤j→j / 2≠k / 2:=fun h e'=>Nat.ne_of_gt (Nat.div_pos h Nat.two_pos) (e'.trans (by rw[e]))
   exact hm.elim (fun hm=>ha.p2 β hβ h1 hm fun j hj h2 h=>hr j hj h2 (inR hj (q h2) (.inl h))) fun hm=>hb.p2 β hβ h1 hm fun j hj h2 h=>hr j hj h2 (inR hj (q h2) (.inr h))
  ·exact(side β hβ).elim (fun h=>ha.p2 β hβ h1 hm fun j hj h2 hx=>if q:j / 2=k / 2 then h j hj q hx else hr j hj h2 (inR hj q (.inl hx))) fun h=>hb.p2 β hβ h1 hm' fun j hj h2 hx=>if q:j / 2=k / 2 then h j hj q hx else hr j hj h2 (inR hj q (.inr hx))
 ·exact lL.mpr ((lL.mp hm).imp (fun h=>⟨h.1,h.2.imp (ha.p3 β γ hβ hγ e1 e2) (hb.p3 β γ hβ hγ e1 e2)⟩) fun h=>⟨h.1,ha.p3 β γ hβ hγ e1 e2 h.2.1,hb.p3 β γ hβ hγ e1 e2 h.2.2⟩)
noncomputable def DY(s:Nat→Nat)(r:List Nat)(p:Nat):Nat:=if s (2*p)∈r then 1 else if s (2*p+1)∈r then 2 else 0
noncomputable def XD(s:Nat→Nat)(r:List Nat):Nat:=DY s r 0+3*DY s r 1+9*DY s r 2+27*DY s r 3
theorem qG(r:List Nat)(p:Nat):DY s r p<3:=by
 unfold DY
 split
 ·decide
 ·split <;> decide
theorem Z6(r:List Nat):XD s r<81:=(show ∀ a<3,∀ b<3,∀ c<3,∀ d<3,a+3*b+9*c+27*d<81 by decide +kernel) _ (qG r 0) _ (qG r 1) _ (qG r 2) _ (qG r 3)
theorem S2(r:List Nat)(p:Nat)(hp:p<4):XD s r / 3 ^ p%3=DY s r p :=
 ((show ∀ a<3,∀ b<3,∀ c<3,∀ d<3,∀ p<4,(a+3*b+9*c+27*d) / 3 ^ p%3=[a,b,c,d].getD p 0 by decide +kernel) _ (qG r 0) _ (qG r 1) _ (qG r 2) _ (qG r 3) p hp).trans (Cn (DY s r) p hp)
theorem Cu{r:List Nat}{p:Nat}:DY s r p=1↔s (2*p)∈r:=by
 unfold DY
 by_cases h:s (2*p)∈r
 ·rw[if_pos h]; exact iff_of_true rfl h
 ·rw[if_neg h]; refine iff_of_false ?_ h; split <;> nofun
theorem Dp{r:List Nat}{p:Nat}(h:DY s r p=2):s (2*p+1)∈r:=by
 unfold DY at h
 split at h
 ·cases h
 ·split at h
  ·assumption
  ·cases h
theorem WU{r r':List Nat}(h:A7 s r)(e:XD s r=XD s r'):∀ x∈r,x∈r':=fun x hx=>by
 obtain⟨k,hk,rfl⟩:=h.of x hx
 have hp:DY s r (k / 2)=DY s r' (k / 2):=by rw[← S2 r _ (hf k hk),e,S2 r' _ (hf k hk)]
 have w:=h.one (k / 2) (hf k hk)
 have dm:=Nat.div_add_mod k 2
 rcases l8 (Nat.mod_lt k Nat.two_pos)with e' | e' <;> rw[e']at dm
 ·exact dm▸Cu.mp (hp.symm.trans (Cu.mpr (dm.symm▸hx:s (2*(k / 2)+0)∈r)))
 ·have hx':s (2*(k / 2)+1)∈r:=dm.symm▸hx
  exact dm▸Dp (hp.symm.trans ((if_neg fun g=>w g hx').trans (if_pos hx')))
end
section
variable{s:Nat→Nat}{N R0 R1:List (List Nat)}
abbrev Rl:=List Nat×List (List Nat)
def Cl(s:Nat→Nat)(L:List Rl)(a b:List Nat):Prop:=∀ k,mI s a b=[k]→∃ ru∈L,∀ x∈ru.1,x∈f8 s k a b
structure sE(s:Nat→Nat)(N R0 R1:List (List Nat))(I L:List Rl):Prop where
 inv:∀ ru∈L,q8 s N R0 R1 ru
 ex:∃ c,L=I++c∧(c.map fun ru=>XD s ru.1).Nodup
theorem sE.len{I L:List Rl}(G:sE s N R0 R1 I L):L.length≤I.length+81:=by
 obtain⟨c,e,h⟩:=G.ex
 have:=iJ _ (m:=List.range 81) h fun x hx=>by
  obtain⟨ru,_,rfl⟩:=List.mem_map.mp hx
  exact List.mem_range.mpr (Z6 _)
 rw[List.length_map,List.length_range]at this
 rw[e,List.length_append]
 exact Nat.add_le_add_left this _
noncomputable def j4(L:List Rl)(row:List Nat):List Rl:=L.filter fun ru=>(ru.1.filter fun w=>!row.contains w)==[]
theorem tT{L:List Rl}{row:List Nat}{ru:Rl}:ru∈j4 L row↔ru∈L∧∀ x∈ru.1,x∈row:=by
 unfold j4
 rw[List.mem_filter,beq_iff_eq,List.filter_eq_nil_iff]
 refine and_congr_right fun _=>forall_congr' fun x=>forall_congr' fun _=>?_
 rw[Bool.not_eq_true',Bool.not_eq_false,List.contains_iff_mem]
noncomputable def BE(s:Nat→Nat)(L:List Rl)(a b:Rl):List Rl:=match mI s a.1 b.1 with
 | [k]=>if j4 L (f8 s k a.1 b.1)=[]then L++[(f8 s k a.1 b.1,oZ k a.2 b.2)]else L
 | _=>L
theorem Cl.mono{L L':List Rl}{a b:List Nat}(h:Cl s L a b)(hs:∀ ru∈L,ru∈L'):Cl s L' a b:=fun k hk=>let⟨ru,h1,h2⟩:=h k hk; ⟨ru,hs ru h1,h2⟩
theorem NR(hs:∀ i j,i<8→j<8→s i=s j→i=j)(hN:N.length≤16){I L:List Rl}(G:sE s N R0 R1 I L){a b:Rl}(ha:a∈L)(hb:b∈L):L <+: BE s L a b∧sE s N R0 R1 I (BE s L a b)∧Cl s (BE s L a b) a.1 b.1:=by
 have no:(∀ k,mI s a.1 b.1≠[k])→L <+: L∧sE s N R0 R1 I L∧Cl s L a.1 b.1:=fun h=>⟨List.prefix_refl L,G,fun k hk=>absurd hk (h k)⟩
 unfold BE
 match ho:mI s a.1 b.1 with
 | []=>exact no fun k e=>by rw[ho]at e; cases e
 | _::_::_=>exact no fun k e=>by rw[ho]at e; cases e
 | [k] =>
  have hr:=QW hs hN (G.inv a ha) (G.inv b hb) ho
  dsimp only
  by_cases hg:j4 L (f8 s k a.1 b.1)=[]
  ·rw[if_pos hg]
   obtain⟨c,e,h⟩:=G.ex
   refine⟨List.prefix_append _ _,⟨fun ru h=>(List.mem_append.mp h).elim (G.inv ru) fun h=>List.mem_singleton.mp h▸hr,c++[(f8 s k a.1 b.1,oZ k a.2 b.2)],by rw[e,List.append_assoc],?_⟩,fun k' hk'=>⟨_,List.mem_append_right _ (.head _),fun x hx=>?_⟩⟩
   ·rw[List.map_append,List.nodup_append]
    refine⟨h,List.nodup_cons.mpr ⟨List.not_mem_nil,List.nodup_nil⟩,fun x hx y hy e'=>?_⟩
    obtain⟨ru,h1,rfl⟩:=List.mem_map.mp hx
    have hru:ru∈L:=e▸List.mem_append_right _ h1
    have:ru∈j4 L (f8 s k a.1 b.1):=tT.mpr ⟨hru,WU (G.inv ru hru).wf (e'.trans (List.mem_singleton.mp hy))⟩
    rw[hg]at this
    cases this
   ·cases ho.symm.trans hk'
    exact hx
  ·rw[if_neg hg]
   refine⟨List.prefix_refl L,G,fun k' hk'=>?_⟩
   cases ho.symm.trans hk'
   obtain⟨ru,h⟩:=List.exists_mem_of_ne_nil _ hg
   exact⟨ru,(tT.mp h).1,(tT.mp h).2⟩
theorem MQ(a b:List Nat):mI s a b=mI s b a:=List.filter_congr fun k _=>by
 unfold fN
 rw[Bool.and_comm (a.contains (s k)),Bool.and_comm (a.contains (s (k+1))),Bool.or_comm]
theorem sk{r:List Nat}{k p b:Nat}(h:s k∈r)(e:k / 2=p)(e':k%2=b):s (2*p+b)∈r:=by
 subst e e'
 rwa[Nat.div_add_mod]
theorem NK{L:List Rl}(hw:∀ ru∈L,A7 s ru.1)(hc:∀ i j(hi:i<L.length)(hj:j<L.length),i<j→Cl s L L[i].1 L[j].1)(hall:∀ β,B2 β→∃ ru∈L,Tk s ru.1 β):∃ ru∈L,ru.1=[]:=by
 have any:∀ a∈L,∀ b∈L,∀ k,mI s a.1 b.1=[k]→∃ ru∈L,∀ x∈ru.1,(x∈a.1∨x∈b.1)∧x≠s k∧x≠s (k+1):=fun a ha b hb k ho=>by
  obtain⟨i,hi,e1⟩:=List.getElem_of_mem ha
  obtain⟨j,hj,e2⟩:=List.getElem_of_mem hb
  rcases Nat.lt_trichotomy i j with h | h | h
  ·obtain⟨ru,h,hx⟩:=hc i j hi hj h k (by rw[e1,e2]; exact ho)
   exact⟨ru,h,fun x m=>e1▸e2▸lK.mp (hx x m)⟩
  ·subst h
   obtain⟨⟨h8,h2⟩,hcl,_⟩:=B4 ho
   cases e1.symm.trans e2
   have w:=(hw a ha).one (k / 2) (hf k h8)
   rw[(k8 k h8 h2).2.2.2]at w
   exact(i7.mp hcl).elim (fun h=>absurd h.2 (w h.1)) fun h=>absurd h.1 (w h.2)
  ·obtain⟨ru,h,hx⟩:=hc j i hj hi h k (by rw[e1,e2,MQ]; exact ho)
   exact⟨ru,h,fun x m=>(lK.mp (hx x m)).imp_left fun h=>(e1▸e2▸h:x∈b.1∨x∈a.1).symm⟩
 have T:∀ m p,m+p=4→∀ β,B2 β→∃ ru∈L,∀ k,k<8→s k∈ru.1→k / 2<p∧k%2=β (k / 2):=fun m=>by
  induction m with
  | zero=>exact fun p hp β hβ=>let⟨ru,h,t⟩:=hall β hβ; ⟨ru,h,fun k hk hx=>⟨Nat.lt_of_lt_of_eq (hf k hk) ((Nat.zero_add p).symm.trans hp).symm,t k hk hx⟩⟩
  | succ m ih =>
   intro p hm β hβ
   have ih:=ih (p+1) (by rw[← hm,Nat.add_right_comm,Nat.add_assoc])
   have p4:p<4:=hm▸Nat.lt_add_of_pos_left (Nat.succ_pos m)
   obtain⟨γ,γp,γq⟩:∃ γ:Nat→Nat,γ p=1 - β p∧∀{q},q≠p→γ q=β q:=⟨fun q=>if q=p then 1 - β p else β q,if_pos rfl,fun h=>if_neg h⟩
   have hγ:B2 γ:=fun q=>if e:q=p then e▸γp▸Nat.lt_succ_of_le (Nat.sub_le 1 _)else(γq e).symm▸hβ q
   obtain⟨r1,h1,t1⟩:=ih β hβ
   obtain⟨r2,h2,t2⟩:=ih γ hγ
   have lt:∀{k},k / 2<p+1→k / 2≠p→k / 2<p:=fun h h'=>Nat.lt_of_le_of_ne (Nat.le_of_lt_succ h) h'
   have t2':∀{k},k<8→k / 2≠p→s k∈r2.1→k / 2<p∧k%2=β (k / 2):=fun hk q hx=>⟨lt (t2 _ hk hx).1 q,(t2 _ hk hx).2.trans (γq q)⟩
   by_cases g1:s (2*p+β p)∈r1.1
   ·by_cases g2:s (2*p+(1 - β p))∈r2.1
    ·have hcl:fN s r1.1 r2.1 (2*p)=true:=i7.mpr (by
      rcases l8 (hβ p)with e | e <;> rw[e]at g1 g2
      ·exact .inl ⟨g1,g2⟩
      ·exact .inr ⟨g1,g2⟩)
     obtain⟨ru,h,hx⟩:=any r1 h1 r2 h2 _ (VL ⟨Nat.mul_lt_mul_of_pos_left p4 Nat.two_pos,Nat.mul_mod_right 2 p⟩ hcl fun j hj h0 hne h=>by
      obtain⟨j8,e1,e2,e3⟩:=k8 j hj h0
      have q:j / 2≠p:=fun e=>hne (e▸e3.symm)
      have no:∀{b},0=b→1=b→False:=fun e e'=>nomatch e.trans e'.symm
      rcases i7.mp h with⟨a,b⟩| ⟨a,b⟩
      ·exact no (h0.symm.trans (t1 j hj a).2) (e2.symm.trans (e1▸(t2' j8 (e1▸q) b).2))
      ·exact no (h0.symm.trans (t2' hj q b).2) (e2.symm.trans (e1▸(t1 _ j8 a).2)))
     refine⟨ru,h,fun k hk hm=>?_⟩
     obtain⟨hor,n1,n2⟩:=hx _ hm
     have q:k / 2≠p:=fun e=>by
      have dm:=Nat.div_add_mod k 2
      rw[e]at dm
      rcases l8 (Nat.mod_lt k Nat.two_pos)with e | e <;> rw[e]at dm
      ·exact n1 (dm▸rfl)
      ·exact n2 (dm▸rfl)
     exact hor.elim (fun hr=>⟨lt (t1 k hk hr).1 q,(t1 k hk hr).2⟩) fun hr=>t2' hk q hr
    ·exact⟨r2,h2,fun k hk hx=>t2' hk (fun e=>g2 (sk hx e ((t2 k hk hx).2.trans (e▸γp)))) hx⟩
   ·exact⟨r1,h1,fun k hk hx=>⟨lt (t1 k hk hx).1 fun e=>g1 (sk hx e ((t1 k hk hx).2.trans (e▸rfl))),(t1 k hk hx).2⟩⟩
 obtain⟨ru,h,t⟩:=T 4 0 rfl (fun _=>0) fun _=>Nat.two_pos
 refine⟨ru,h,List.eq_nil_iff_forall_not_mem.mpr fun x hx=>?_⟩
 obtain⟨k,hk,rfl⟩:=(hw ru h).of x hx
 exact Nat.not_lt_zero _ (t k hk hx).1
end
end Kt.Internal
end
section
open PySem PySem.W PyProof.Rows
namespace Kt.Internal
section
variable{cl:Nat→List PyData→Option PyData}{ρ:aL}{elt:PE}{i:PI}{c:PO}{x:Nat}
theorem rN{α:Type}{f:PyData→Option (List PyData)}{k:α→PyData}{g:α→List PyData}{as:List α}(h:∀ a∈as,f (k a)=some (g a)):y7 f (as.map k)=some (as.flatMap g):=by
 induction as with
 | nil=>rfl
 | cons a as ih=>exact(congrArg (Option.bind · _) (h a (.head _))).trans (congrArg (Option.map _) (ih fun a ha=>h a (.tail _ ha)))
theorem qP{α β:Type}{p:α→Bool}{g:α→β}(as:List α):as.flatMap (fun a=>if p a then [g a]else [])=(as.filter p).map g:=by
 induction as with
 | nil=>rfl
 | cons a as ih =>
  rw[List.flatMap_cons,ih,List.filter_cons]
  cases p a <;> rfl
theorem dA{α:Type}{k g:α→PyData}{p:α→Bool}{as:List α}(hi:uY cl i ρ=some (as.map k))(hc:∀ a∈as,N0 cl c ((ρ.set x none).set x (some (k a)))=some (p a))(he:∀ a∈as,p a=true→aD cl elt ((ρ.set x none).set x (some (k a)))=some (g a))(hl:as.length≤1000000) :
  aD cl (.comp elt (.one x) i c .nil) ρ=some (.list ((as.filter p).map g)):=by
 refine(congrArg (Option.bind · _) hi).trans ((congrArg (Option.bind · NX) (rN (g:=fun a=>if p a then [g a]else []) fun a ha=>?_)).trans ?_)
 ·refine(congrArg (Option.bind · _) (hc a ha)).trans ?_
  cases hp:p a with
  | false=>rfl
  | true=>exact congrArg (Option.map _) (he a ha hp)
 ·rw[qP]
  exact mS (by rw[List.length_map]; exact Nat.le_trans (List.length_filter_le _ _) hl)
theorem uL{α:Type}{y:Nat}{k1 k2 g:α→PyData}{p:α→Bool}{as:List α}(hi:uY cl i ρ=some (as.map fun a=>.list [k1 a,k2 a]))(hc:∀ a∈as,N0 cl c ((((ρ.set x none).set y none).set x (some (k1 a))).set y (some (k2 a)))=some (p a))
  (he:∀ a∈as,p a=true→aD cl elt ((((ρ.set x none).set y none).set x (some (k1 a))).set y (some (k2 a)))=some (g a)) (hl:as.length≤1000000) :
  aD cl (.comp elt (.two x y) i c .nil) ρ=some (.list ((as.filter p).map g)):=by
 refine(congrArg (Option.bind · _) hi).trans ((congrArg (Option.bind · NX) (rN (g:=fun a=>if p a then [g a]else []) fun a ha=>?_)).trans ?_)
 ·refine(show _=Option.bind (N0 cl c ((((ρ.set x none).set y none).set x (some (k1 a))).set y (some (k2 a)))) fun b=>if b then NZ cl (aD cl elt) .nil ((((ρ.set x none).set y none).set x (some (k1 a))).set y (some (k2 a)))else some []from rfl).trans ((congrArg (Option.bind · _) (hc a ha)).trans ?_)
  cases hp:p a with
  | false=>rfl
  | true=>exact congrArg (Option.map _) (he a ha hp)
 ·rw[qP]
  exact mS (by rw[List.length_map]; exact Nat.le_trans (List.length_filter_le _ _) hl)
theorem xN{α:Type}{k g:α→PyData}{as:List α}(hi:uY cl i ρ=some (as.map k))(he:∀ a∈as,aD cl elt ((ρ.set x none).set x (some (k a)))=some (g a))(hl:as.length≤1000000):aD cl (.comp elt (.one x) i .no .nil) ρ=some (.list (as.map g)) :=
 (dA (p:=fun _=>true) hi (fun _ _=>rfl) (fun a ha _=>he a ha) hl).trans (by rw[List.filter_eq_self.mpr fun _ _=>rfl])
theorem gG{e:PE}{b:Bool}(h:aD cl e ρ=some (.bool b)):N0 cl (.yes e) ρ=some b:=congrArg (Option.bind · bT) h
theorem l9{e:PE}{ds:List PyData}(h:aD cl e ρ=some (.list ds)):uY cl (.of e) ρ=some ds:=congrArg (Option.bind · KJ) h
theorem yP{a b:PE}{p q:Nat}(h1:aD cl a ρ=some (.int (p:Int)))(h2:aD cl b ρ=some (.int (q:Int)))(hp:p≤1000000)(hq:q≤1000000):aD cl (.bin .Mult a b) ρ=some (.int ((p*q:Nat):Int)) :=
 eB h1 h2 ((if_pos (Bool.and_eq_true_iff.mpr ⟨yN hp,yN hq⟩)).trans (congrArg (fun i=>some (PyData.int i)) (Int.natCast_mul p q).symm))
end
theorem rT:vR sD:=⟨CL,fun _=>rfl⟩
theorem Bk(i:Int){q:Nat}(h:0<q):sC .Mod (.int i) (.int (q:Int))=some (.int ((i.fmod q).toNat:Nat))∧(i.fmod q).toNat<q:=by
 have h0:(0:Int)<(q:Int):=Int.natCast_pos.mpr h
 have e:=Int.fmod_eq_emod_of_nonneg i (Int.natCast_nonneg q)
 have h1:0≤i.fmod q:=e▸Int.emod_nonneg i (Int.ne_of_gt h0)
 have h2:i.fmod q<q:=e▸Int.emod_lt_of_pos i h0
 exact⟨(if_pos h0).trans (congrArg (fun i=>some (PyData.int i)) (Int.toNat_of_nonneg h1).symm),(Int.toNat_lt h1).mpr h2⟩
noncomputable def fP:List Nat:=("a'[ \"*\\]?#-!" : Str).cps.toList
theorem xY:(fP.length==12&&(fP.all (fun c=>A5 c&&decide (c<256))&&(List.range 12).all fun i=>(List.range 12).all fun j=>!(fP.getD i 0==fP.getD j 0)||i==j))=true:=by kernel_rfl
theorem BL(q:Nat):fP[q%12]? = some (fP.getD (q%12) 0)∧A5 (fP.getD (q%12) 0)=true∧fP.getD (q%12) 0<256:=by
 have h:q%12<fP.length:=eq_of_beq (aA xY).1▸Nat.mod_lt _ (by decide)
 rw[List.getD_eq_getElem?_getD,List.getElem?_eq_getElem h]
 have:=List.all_eq_true.mp (aA (aA xY).2).1 _ (List.getElem_mem h)
 exact⟨rfl,(aA this).1,of_decide_eq_true (aA this).2⟩
theorem OY{i j:Nat}(hi:i<12)(hj:j<12)(e:fP.getD i 0=fP.getD j 0):i=j:=by
 have:=List.all_eq_true.mp (List.all_eq_true.mp (aA (aA xY).2).2 i (List.mem_range.mpr hi)) j (List.mem_range.mpr hj)
 rw[e,beq_self_eq_true]at this
 exact eq_of_beq this
structure S8(S:List Nat):Prop where
 len:S.length=8
 inj:∀ i j,i<8→j<8→S.getD i 0=S.getD j 0→i=j
 ok:∀ c∈S,A5 c=true
theorem S8.at{S:List Nat}(h:S8 S){k:Nat}(hk:k<8):S[k]? = some (S.getD k 0):=by rw[List.getD_eq_getElem?_getD,List.getElem?_eq_getElem (h.len.symm▸hk)]; rfl
theorem S8.sg{S:List Nat}(h:S8 S){k:Nat}(hk:k<8):A5 (S.getD k 0)=true:=h.ok _ (List.mem_of_getElem? (h.at hk))
theorem WY(i:Int):W3 .chr [.int i]=T1 i:=rfl
theorem GY{prim:Nat→List PyData→Option PyData}{F l p:Nat}:∃ S:List Nat,S8 S∧bH aY prim F (l+1) 0 [.int (p:Int)]=some (aU S):=by
 have hc:p / 12%50000<50000:=Nat.mod_lt _ (by decide)
 have h4:A5 (256+p / 12%50000)=true:=Bool.and_eq_true_iff.mpr ⟨Bool.or_eq_true_iff.mpr (.inr (decide_eq_true (Nat.le_add_right _ _))),decide_eq_true (Nat.lt_trans (Nat.add_lt_add_left hc 256) (by decide))⟩
 have v0:aD (bH aY prim F l) (.var 0) [some (.int (p:Int)),some (sD fP),none]=some (.int (p:Int)):=rfl
 have e1:=xN (cl:=bH aY prim F l) (ρ:=[some (.int (p:Int)),some (sD fP),none]) (elt:=.idx (.var 1) (.bin .Mod (.bin .Add (.var 0) (.var 2)) (.lit (.int 12)))) (x:=2) (g:=fun k=>wD (fP.getD ((p+(0+k))%12) 0)) (tE (a:=.lit (.int 7)) (q:=7) rfl (by decide)) (fun k _ =>
  rV (l:=fP) rfl (eB (y:=.int ((12:Nat):Int)) (eX (p:=p) rfl rfl) rfl (OB (by decide))) (Nat.le_trans (Nat.le_of_lt (Nat.mod_lt _ (by decide))) (by decide)) (BL _).1) (by decide)
 rw[show((List.range 7).map fun k=>wD (fP.getD ((p+(0+k))%12) 0))=((List.range 7).map fun k=>fP.getD ((p+(0+k))%12) 0).map wD from(List.map_map (g:=wD) (f:=fun k=>fP.getD ((p+(0+k))%12) 0) (l:=List.range 7)).symm]at e1
 have d3:=eX (a:=.lit (.int 256)) (p:=256) rfl (eB (op:=.Mod) (b:=.lit (.int 50000)) (eB (op:=.FloorDiv) (b:=.lit (.int 12)) v0 rfl (JM (q:=12) (by decide) (by decide))) rfl (OB (q:=50000) (by decide)))
 have d4:W3 .chr [.int ((256+p / 12%50000:Nat):Int)]=some (wD (256+p / 12%50000)):=by
  have hlt:((256+p / 12%50000:Nat):Int)<0xD800:=Int.ofNat_lt.mpr (of_decide_eq_true (aA h4).2)
  generalize 256+p / 12%50000=c at hlt
  rw[WY,T1,decide_eq_true (Int.natCast_nonneg c),decide_eq_true hlt,Int.toNat_natCast]; rfl
 have d5:aD (bH aY prim F l) (.list (.cons (.bi .chr (.cons (.bin .Add (.lit (.int 256)) (.bin .Mod (.bin .FloorDiv (.var 0) (.lit (.int 12))) (.lit (.int 50000)))) .nil)) .nil)) [some (.int (p:Int)),some (sD fP),none]=some (aU [256+p / 12%50000]):=congrArg (Option.map _) (y8 (ED (y8 d3) d4))
 refine⟨((List.range 7).map fun k=>fP.getD ((p+(0+k))%12) 0)++[256+p / 12%50000],⟨rfl,?_,fun c hc=>?_⟩,mO (pf:=Cm) rfl rfl ((aF (bK (d:=sD fP) rfl)).trans (pY (Q9 e1 d5 (Nat.le_of_ble_eq_true rfl))))⟩
 ·have g:∀ i,i<8→((List.range 8).map fun i=>if i<7 then fP.getD ((p+(0+i))%12) 0 else 256+p / 12%50000).getD i 0=if i<7 then fP.getD ((p+(0+i))%12) 0 else 256+p / 12%50000:=fun i hi=>by
   rw[List.getD_eq_getElem?_getD,List.getElem?_map,List.getElem?_range hi]; rfl
  intro i j hi hj e
  have e:=(g i hi).symm.trans ((show _=_ from e).trans (g j hj))
  rw[Nat.zero_add,Nat.zero_add]at e
  have far:∀{i},fP.getD ((p+i)%12) 0≠256+p / 12%50000:=fun e=>Nat.not_lt.mpr (Nat.le_add_right 256 _) (e▸(BL _).2.2)
  have le:∀{i j},j<7→(p+i)%12=(p+j)%12→j≤i:=fun{i j}hj e=>by
   have h:=Nat.sub_mod_eq_zero_of_mod_eq e.symm
   rw[Nat.add_sub_add_left,Nat.mod_eq_of_lt (Nat.lt_of_le_of_lt (Nat.sub_le j i) (Nat.lt_trans hj (by decide)))]at h
   exact Nat.le_of_sub_eq_zero h
  by_cases h1:i<7 <;> by_cases h2:j<7
  ·rw[if_pos h1,if_pos h2]at e
   have:=OY (Nat.mod_lt _ (by decide)) (Nat.mod_lt _ (by decide)) e
   exact Nat.le_antisymm (le h1 this.symm) (le h2 this)
  ·rw[if_pos h1,if_neg h2]at e
   exact absurd e far
  ·rw[if_neg h1,if_pos h2]at e
   exact absurd e.symm far
  ·have q:∀{i},i<8→¬i<7→i=7:=fun h h'=>Nat.le_antisymm (Nat.le_of_lt_succ h) (Nat.not_lt.mp h')
   exact(q hi h1).trans (q hj h2).symm
 ·rcases List.mem_append.mp hc with h | h
  ·obtain⟨k,_,e⟩:=List.mem_map.mp h
   exact e▸(BL _).2.1
  ·exact List.mem_singleton.mp h▸h4
noncomputable def N8(q X:Nat):List (Nat×Nat):=[(q,X%3),(q+1,X / 3%3),(q+2,X / 9%3)].filter fun a=>decide (a.2<2)
noncomputable def oY(S:List Nat)(q X:Nat):List Nat:=(N8 q X).map fun a=>S.getD (2*a.1+a.2) 0
theorem BC{a b:Nat}(h:b<2):(2*a+b) / 2=a:=by rw[Nat.mul_add_div Nat.two_pos,Nat.div_eq_of_lt h,Nat.add_zero]
theorem OC{a b:Nat}(h:b<2):(2*a+b)%2=b:=by rw[Nat.mul_add_mod,Nat.mod_eq_of_lt h]
theorem H8{a b:Nat}(h:a≤3)(h':b<2):2*a+b<8:=Nat.add_lt_add_of_le_of_lt (Nat.mul_le_mul_left 2 h) h'
theorem KG{q X:Nat}{a:Nat×Nat}(h1:a∈[(q,X%3),(q+1,X / 3%3),(q+2,X / 9%3)]):q≤a.1∧a.1≤q+2∧a.2=X / 3 ^ (a.1 - q)%3:=by
 have g:∀ i,i≤2→(q+i,X / 3 ^ i%3)=a→q≤a.1∧a.1≤q+2∧a.2=X / 3 ^ (a.1 - q)%3:=fun i hi e=>by
  subst e
  exact⟨Nat.le_add_right _ _,Nat.add_le_add_left hi q,by rw[Nat.add_sub_cancel_left]⟩
 rcases List.mem_cons.mp h1 with h | h
 ·exact g 0 (by decide) (by rw[h,Nat.pow_zero,Nat.div_one,Nat.add_zero])
 rcases List.mem_cons.mp h with h | h
 ·exact g 1 (by decide) h.symm
 ·exact g 2 (by decide) (List.mem_singleton.mp h).symm
theorem O9{prim:Nat→List PyData→Option PyData}{F l q X:Nat}{S:List Nat}(hS:S8 S)(hq:q≤1):bH aY prim F (l+1) 1 [.int (X:Int),.list [.int (q:Int),.int ((q+1:Nat):Int),.int ((q+2:Nat):Int)],aU S]=some (aU (oY S q X)):=by
 have m3:∀{ρ:aL}{e:PE}{n:Nat},aD (bH aY prim F l) e ρ=some (.int (n:Int))→aD (bH aY prim F l) (.bin .Mod e (.lit (.int 3))) ρ=some (.int ((n%3:Nat):Int)):=fun h=>eB (y:=.int ((3:Nat):Int)) h rfl (OB (by decide))
 have e1:aD (bH aY prim F l) (.list (.cons (.bin .Mod (.var 0) (.lit (.int 3))) (.cons (.bin .Mod (.bin .FloorDiv (.var 0) (.lit (.int 3))) (.lit (.int 3))) (.cons (.bin .Mod (.bin .FloorDiv (.var 0) (.lit (.int 9))) (.lit (.int 3))) .nil)))) (dE 6 [.int (X:Int),.list [.int (q:Int),.int ((q+1:Nat):Int),.int ((q+2:Nat):Int)],aU S]) =
   some (.list [.int ((X%3:Nat):Int),.int ((X / 3%3:Nat):Int),.int ((X / 9%3:Nat):Int)]) :=
  congrArg (Option.map _) (zH (m3 (n:=X) rfl) (m3 (eB (y:=.int ((3:Nat):Int)) (x:=.int (X:Int)) rfl rfl (JM (by decide) (by decide)))) (m3 (eB (y:=.int ((9:Nat):Int)) (x:=.int (X:Int)) rfl rfl (JM (by decide) (by decide)))))
 refine mO (pf:=Ck) rfl rfl ((aF (bK e1)).trans (pY ?_))
 have h:=uL (cl:=bH aY prim F l) (i:=.zip (.var 1) (.var 3)) (c:=.yes (.cmp .Lt (.var 5) (.lit (.int 2)))) (elt:=.idx (.var 2) (.bin .Add (.bin .Mult (.lit (.int 2)) (.var 4)) (.var 5))) (x:=4) (y:=5)
  (ρ:=[some (.int (X:Int)),some (.list [.int (q:Int),.int ((q+1:Nat):Int),.int ((q+2:Nat):Int)]),some (aU S),some (.list [.int ((X%3:Nat):Int),.int ((X / 3%3:Nat):Int),.int ((X / 9%3:Nat):Int)]),none,none])
  (as:=[(q,X%3),(q+1,X / 3%3),(q+2,X / 9%3)]) (k1:=fun a=>.int ((a.1:Nat):Int)) (k2:=fun a=>.int ((a.2:Nat):Int)) (g:=fun a=>wD (S.getD (2*a.1+a.2) 0)) (p:=fun a=>decide (a.2<2)) rfl
  (fun a _=>gG (CI (p:=a.2) (b:=.lit (.int 2)) (q:=2) rfl rfl rfl)) (fun a ha h2=>?_) (Nat.le_of_ble_eq_true rfl)
 ·exact h.trans (congrArg (fun l=>some (PyData.list l)) (List.map_map (g:=wD) (f:=fun a:Nat×Nat=>S.getD (2*a.1+a.2) 0)).symm)
 ·have h1:a.1≤3:=Nat.le_trans (KG ha).2.1 (Nat.add_le_add_right hq 2)
  have h2:=H8 h1 (of_decide_eq_true h2)
  exact fG (l:=S.map wD) (p:=2*a.1+a.2) rfl (eX (yP (a:=.lit (.int 2)) (p:=2) (q:=a.1) rfl rfl (by decide) (Nat.le_trans h1 (by decide))) rfl) (Nat.le_trans (Nat.le_of_lt h2) (by decide)) (by rw[List.getElem?_map,hS.at h2]; rfl)
theorem gL{q X:Nat}{a:Nat×Nat}(hq:q≤1)(h:a∈N8 q X):a.1≤3∧a.2<2∧a.2=X / 3 ^ (a.1 - q)%3∧q≤a.1∧a.1≤q+2 :=
 have⟨h1,h2⟩:=List.mem_filter.mp h
 have⟨h3,h4,h5⟩:=KG h1
 ⟨Nat.le_trans h4 (Nat.add_le_add_right hq 2),of_decide_eq_true h2,h5,h3,h4⟩
theorem LT(q X:Nat):(N8 q X).Pairwise fun a b=>a.1≠b.1:=by
 refine List.Pairwise.filter _ ?_
 have ne:∀{i j},i<j→q+i≠q+j:=fun h=>Nat.ne_of_lt (Nat.add_lt_add_left h q)
 refine List.pairwise_cons.mpr ⟨fun b hb=>?_,List.pairwise_cons.mpr ⟨fun b hb=>?_,List.pairwise_singleton _ _⟩⟩
 ·exact(List.mem_cons.mp hb).elim (fun e=>e▸ne (i:=0) (j:=1) (by decide)) fun hb=>List.mem_singleton.mp hb▸ne (i:=0) (j:=2) (by decide)
 ·exact List.mem_singleton.mp hb▸ne (by decide)
theorem yB{S:List Nat}(hS:S8 S){q X k:Nat}(hk:k<8)(hq:q≤1)(h:S.getD k 0∈oY S q X):(k / 2,k%2)∈N8 q X:=by
 obtain⟨a,ha,e⟩:=List.mem_map.mp h
 have⟨h2,h3,_⟩:=gL hq ha
 rw[← hS.inj _ _ (H8 h2 h3) hk e,BC h3,OC h3]
 exact ha
theorem BO{S:List Nat}(hS:S8 S){q X:Nat}(hq:q≤1):A7 (S.getD · 0) (oY S q X):=by
 refine⟨?_,fun x hx=>?_,fun p hp h1 h2=>?_⟩
 ·refine List.pairwise_map.mpr (List.Pairwise.imp_of_mem (fun ha hb hab e=>hab ?_) (LT q X))
  have⟨h2,h3,_⟩:=gL hq ha
  have⟨h5,h6,_⟩:=gL hq hb
  exact(BC h3).symm.trans ((congrArg (· / 2) (hS.inj _ _ (H8 h2 h3) (H8 h5 h6) e)).trans (BC h6))
 ·obtain⟨a,ha,rfl⟩:=List.mem_map.mp hx
  have⟨h2,h3,_⟩:=gL hq ha
  exact⟨2*a.1+a.2,H8 h2 h3,rfl⟩
 ·have p3:=Nat.le_of_lt_succ hp
  have h0:(0:Nat)<2:=by decide
  have h1':(1:Nat)<2:=by decide
  have a:=(gL hq (yB hS (H8 p3 h0) hq h1)).2.2.1
  have b:=(gL hq (yB hS (H8 p3 h1') hq h2)).2.2.1
  simp only[BC h0,OC h0]at a
  simp only[BC h1',OC h1']at b
  exact nomatch a.trans b.symm
noncomputable def N1(c:Nat):Bool:=c==91||(!eA c&&kH c)
noncomputable def GA(i b:Bool)(c:Nat):List Nat:=(bif i then [91]else [])++((bif b then [92]else [])++c::(bif i then [93]else []))
noncomputable def RN(i b:Bool)(c:Nat):Nat:=bif i then 91 else bif b then 92 else c
noncomputable def TR(c:Nat):Bool:=pl c==GA (eA c) (N1 c) c&&(!Txt.contains "()*+?{|^$" ⟨#[RN (eA c) (N1 c) c]⟩&&(!(RN (eA c) (N1 c) c==46)&&(((RN (eA c) (N1 c) c==91)==eA c)&&(((bif N1 c then 92 else c)==92)==N1 c&&(Txt.contains "*?[" ⟨#[c]⟩==eA c)))))
theorem I1{c:Nat}(h:jC c=true):TR c=true:=by
 rcases Bool.or_eq_true_iff.mp h with h | h
 ·exact List.all_eq_true.mp (show([97,39,91,32,34,42,92,93,63,35,45,98,33]:List Nat).all TR=true by kernel_rfl) c (List.contains_iff_mem.mp h)
 ·obtain⟨k,rfl⟩:=Nat.exists_eq_add_of_le (of_decide_eq_true h)
  rw[Nat.add_comm]
  have e:pl (k+256)=[k+256]:=by kernel_rfl
  have e2:GA (eA (k+256)) (N1 (k+256)) (k+256)=[k+256]:=by kernel_rfl
  have e3:RN (eA (k+256)) (N1 (k+256)) (k+256)=k+256:=by kernel_rfl
  unfold TR
  rw[e,e2,e3,beq_self_eq_true,Bool.true_and]
  kernel_rfl
theorem P5(a b:Nat):([a]==[b])=(a==b):=by
 by_cases h:a=b
 ·rw[h,beq_self_eq_true,beq_self_eq_true]
 ·rw[beq_false_of_ne h,beq_false_of_ne fun e=>h (List.cons.inj e).1]
noncomputable def IC:Option Nat→PyData
 | some c=>wD c
 | none=>.none
section
variable{cl:Nat→List PyData→Option PyData}{F:Nat}{T X Y:List Nat}{ps:List PyData}{c:Nat}{i b:Bool}{v:Option PyData}
noncomputable abbrev pS(T:List Nat)(ps:List PyData)(k:Nat)(i:Option PyData):dY:=⟨[some (sD T),some (.list ps),some (.int (k:Int)),i],[1]⟩
theorem tH(l:List Nat)(q:Nat):(X++l)[X.length+q]? = l[q]?:=by rw[List.getElem?_append_right (Nat.le_add_right _ _),Nat.add_sub_cancel_left]
theorem mV{ρ:aL}{e e':PE}{x y:Nat}{t:Bool}(h1:aD cl e ρ=some (sD [x]))(h2:aD cl e' ρ=some (sD [y]))(h:(x==y)=t):aD cl (.cmp .Eq e e') ρ=some (.bool t):=(xO h1 h2).trans (by rw[P5,h])
theorem nH{ρ:aL}{k h:Nat}(hl:T.length≤10000)(v0:aD cl (.var 0) ρ=some (sD T))(v2:aD cl (.var 2) ρ=some (.int (k:Int)))(g:T[k]? = some h):aD cl (.idx (.var 0) (.var 2)) ρ=some (wD h):=rV v0 v2 (Nat.le_trans (Nat.le_of_lt (List.getElem?_eq_some_iff.mp g).1) (Nat.le_trans hl (by decide))) g
theorem L3{k h d:Nat}(g0:T[k]? = some h)(g1:T[k+(bif i then 1 else 0)]? = some d)(g2:T[k+(bif i then 1 else 0)+(bif b then 1 else 0)]? = some c)(g3:i=true→T[k+(bif i then 1 else 0)+(bif b then 1 else 0)+(bif i then 1 else 0)]? = some 93)
  (o1:Txt.contains "()*+?{|^$" ⟨#[h]⟩=false) (o2:(h==91)=i) (o4:(h==46)=false) (o3:(d==92)=b) (hl:T.length≤10000) (ht:ps.length+1≤1000000):b6 cl F sQ (pS T ps k v)=some (.next (pS T (ps++[wD c]) (k+(bif i then 1 else 0)+(bif b then 1 else 0)+(bif i then 1 else 0)+1) (some (.bool i)))) :=
 (aF (bK (mV (nH hl rfl rfl g0) rfl o2))).trans ((aF (iQ (CJ (x:=("()*+?{|^$" : Str).cps.toList) (y:=[h]) (nH hl rfl rfl g0) rfl o1) rfl)).trans ((aF ((iQ (mV (nH hl rfl rfl g0) rfl o4) rfl).trans
  ((aF (lB rfl (nU (t:=i) (p:=1) (q:=0) rfl))).trans ((aF (lB rfl (nU (p:=1) (q:=0) (mV (nH hl rfl rfl g1) rfl o3)))).trans ((aF (xD (d:=wD c) rfl rfl (nH hl rfl rfl g2) rfl ht)).trans
   ((aF (lB rfl (nU (t:=i) (p:=1) (q:=0) rfl))).trans (cO (iQ (d:=.bool false) ((WO (x:=i) (y:=.bool false) rfl fun hi=>WN (x:=[93]) (y:=[93]) (nH hl rfl rfl (g3 hi)) rfl).trans (by cases i <;> rfl)) rfl)))))))).trans
   (cO (lB (q:=1) rfl rfl))))
theorem Y1(i b:Bool)(c:Nat)(Y:List Nat):(GA i b c++Y)[0]? = some (RN i b c)∧(GA i b c++Y)[bif i then 1 else 0]? = some (bif b then 92 else c)∧(GA i b c++Y)[(bif i then 1 else 0)+(bif b then 1 else 0)]? = some c ∧
  (i=true→(GA i b c++Y)[(bif i then 1 else 0)+((bif b then 1 else 0)+(bif i then 1 else 0))]? = some 93)∧(bif i then 1 else 0)+((bif b then 1 else 0)+((bif i then 1 else 0)+1))=(GA i b c).length:=by
 cases i <;> cases b <;> exact⟨rfl,rfl,rfl,fun h=>(by first | rfl | cases h),rfl⟩
theorem G8(hT:T=X++(GA i b c++Y))(o1:Txt.contains "()*+?{|^$" ⟨#[RN i b c]⟩=false)(o2:(RN i b c==91)=i)(o4:(RN i b c==46)=false)(o3:((bif b then 92 else c)==92)=b)(hl:T.length≤10000)(ht:ps.length≤10000) :
  b6 cl F sQ (pS T ps X.length v)=some (.next (pS T (ps++[wD c]) (X.length+(GA i b c).length) (some (.bool i)))) :=
 have g:=Y1 i b c Y
 (L3 (by rw[hT]; exact(tH _ 0).trans g.1) (by rw[hT,tH]; exact g.2.1) (by rw[hT,Nat.add_assoc,tH]; exact g.2.2.1) (fun hi=>by rw[hT,Nat.add_assoc,Nat.add_assoc,tH]; exact g.2.2.2.1 hi) o1 o2 o4 o3 hl (Nat.le_trans (Nat.succ_le_succ ht) (by decide))).trans (by rw[Nat.add_assoc,Nat.add_assoc,Nat.add_assoc,g.2.2.2.2])
theorem G9(hT:T=X++46::Y)(hl:T.length≤10000)(ht:ps.length≤10000):b6 cl F sQ (pS T ps X.length v)=some (.next (pS T (ps++[.none]) (X.length+1) (some (.bool false)))):=by
 have g0:T[X.length]? = some 46:=by rw[hT,show X.length=X.length+0 from rfl,tH]; rfl
 exact(aF (bK (mV (y:=91) (nH hl rfl rfl g0) rfl rfl))).trans ((aF (iQ (CJ (x:=("()*+?{|^$" : Str).cps.toList) (y:=[46]) (nH hl rfl rfl g0) rfl (t:=false) (by kernel_rfl)) rfl)).trans ((aF ((xC (mV (y:=46) (nH hl rfl rfl g0) rfl rfl) rfl).trans
  (cO (xD (e:=.lit .none) (d:=.none) rfl rfl rfl rfl (Nat.le_trans (Nat.succ_le_succ ht) (by decide)))))).trans (cO (lB (q:=1) rfl rfl))))
theorem DH{P B:List Nat}{m:Nat}{qs:List (Option Nat)}(hT:T=P++B)(hB:B.length=3)(hl:T.length≤10000):∀{ps:List PyData}{X:List Nat}{v:Option PyData},(∀ c,some c∈qs→A5 c=true)→P=X++(qs.map pU).flatten→ps.length+qs.length≤10000 →
  ∃ v',dK (fun τ=>(aD cl EG τ.env).bind bT) (b6 cl F sQ) (m+1+qs.length) (pS T ps X.length v)=some (.next (pS T (ps++qs.map IC) P.length v')):=by
 have test:∀{ps:List PyData}{k:Nat}{v:Option PyData}{b:Bool},decide (k<P.length)=b→(aD cl EG (pS T ps k v).env).bind bT=some b:=fun{ps k v b}h=>by
  have hs:T.length - 3=P.length:=by rw[hT,List.length_append,hB,Nat.add_sub_cancel]
  have e1:=yO (cl:=cl) (ρ:=(pS T ps k v).env) (Q8 (a:=.var 0) (l:=T) rfl) (b:=.lit (.int 3)) (q:=3) rfl (by rw[hT,List.length_append,hB]; exact Nat.le_add_left _ _)
  rw[hs]at e1
  exact congrArg (Option.bind · bT) (CI (a:=.var 2) (p:=k) rfl e1 h)
 induction qs with
 | nil =>
  intro ps X v _ hP _
  have hP:=hP.trans (List.append_nil X)
  exact⟨v,by rw[List.map_nil,List.append_nil,hP]; exact BH (n:=m) (test (by rw[hP]; exact decide_eq_false (Nat.lt_irrefl _)))⟩
 | cons q qs ih =>
  intro ps X v hc hP ht
  have hP2:P=X++(pU q++(qs.map pU).flatten):=hP
  rw[List.length_cons,Nat.add_comm qs.length,← Nat.add_assoc]at ht
  have hps:ps.length≤10000:=Nat.le_trans (Nat.le_add_right _ 1) (Nat.le_trans (Nat.le_add_right _ _) ht)
  have hT2:T=X++(pU q++((qs.map pU).flatten++B)):=hT.trans (by rw[hP2,List.append_assoc,List.append_assoc])
  have st:∃ i:Bool,b6 cl F sQ (pS T ps X.length v)=some (.next (pS T (ps++[IC q]) (X++pU q).length (some (.bool i))))∧0<(pU q).length:=by
   cases q with
   | none=>exact⟨false,by rw[List.length_append]; exact G9 hT2 hl hps,by decide⟩
   | some c =>
    obtain⟨o0,o⟩:=aA (I1 (mN (hc c (.head _))).1)
    obtain⟨o1,o⟩:=aA o
    obtain⟨o4,o⟩:=aA o
    obtain⟨o2,o⟩:=aA o
    have o0:pU (some c)=GA (eA c) (N1 c) c:=eq_of_beq o0
    rw[o0]at hT2 ⊢
    exact⟨eA c,by rw[List.length_append]; exact G8 hT2 (bJ o1) (eq_of_beq o2) (bJ o4) (eq_of_beq (aA o).1) hl hps,by cases eA c <;> cases N1 c <;> exact Nat.succ_pos _⟩
  obtain⟨i,st,hpos⟩:=st
  have hlt:X.length<P.length:=by
   rw[hP2,List.length_append,List.length_append]
   exact Nat.lt_add_of_pos_right (Nat.add_pos_left hpos _)
  obtain⟨v',g⟩:=ih (ps:=ps++[IC q]) (X:=X++pU q) (v:=some (.bool i)) (fun x hx=>hc x (.tail _ hx)) (hP2.trans (List.append_assoc _ _ _).symm) (by rw[List.length_append]; exact ht)
  exact⟨v',(EK (n:=m+1+qs.length) (test (decide_eq_true hlt)) st).trans (g.trans (by rw[List.append_assoc]; rfl))⟩
end
theorem U9{i b:Bool}{c:Nat}{p:Nat→Bool}(h1:p 91=true)(h2:p 92=true)(h3:p 93=true)(h:p c=true):(GA i b c).all p=true:=by
 have e:(GA i b c).all p=((bif i then [91]else []).all p&&((bif b then [92]else []).all p&&(p c&&(bif i then [93]else []).all p))):=by unfold GA; rw[List.all_append,List.all_append]; rfl
 have g:∀(t:Bool){a:Nat},p a=true→(bif t then [a]else []).all p=true:=fun t a ha=>by
  cases t with
  | false=>rfl
  | true=>exact(Bool.and_true _).trans ha
 rw[e,h,g i h1,g b h2,g i h3]; rfl
theorem PL{qs:List (Option Nat)}(h:∀ c,some c∈qs→A5 c=true):(qs.map pU).flatten.all (fun c=>decide (c<0x110000))=true:=by
 rw[List.all_flatten,List.all_map]
 refine List.all_eq_true.mpr fun q hq=>?_
 cases q with
 | none=>rfl
 | some c =>
  show(pl c).all _=true
  rw[eq_of_beq (aA (I1 (mN (h c hq)).1)).1]
  exact U9 rfl rfl rfl (decide_eq_true (mN (h c hq)).2)
theorem YW{l:List Nat}(h:l.all (fun c=>decide (c<0x110000))=true)(hl:l.length≤5000):bL (RJ l)=true:=by
 refine FB ?_ ?_
 ·rw[List.all_append,List.all_append,h]; rfl
 ·rw[List.length_append,List.length_append]; exact Nat.le_trans (Nat.add_le_add_right (Nat.add_le_add_left hl 4) 3) (by decide)
theorem G7{prim:Nat→List PyData→Option PyData}{F l:Nat}{qs:List (Option Nat)}(hc:∀ c,some c∈qs→A5 c=true)(hl:qs.length≤100) :
  bH aY prim (F+1001) (l+1) 2 [RJ (qs.map pU).flatten]=some (.list (qs.map IC)):=by
 have hp:=Nat.le_trans (BS qs) (Nat.mul_le_mul_left 5 hl)
 have hTl:([40,63,115,58]++(qs.map pU).flatten++[41,92,90]).length≤10000:=by rw[List.length_append,List.length_append]; exact Nat.le_trans (Nat.add_le_add_right (Nat.add_le_add_left hp 4) 3) (by decide)
 obtain⟨m,hm⟩:∃ m,F+1001=m+1+qs.length:=let⟨m,e⟩:=Nat.exists_eq_add_of_le (Nat.le_trans (Nat.succ_le_succ hl) (Nat.le_trans (by decide) (Nat.le_add_left 1001 F))); ⟨m,e.trans (by rw[Nat.add_comm (qs.length+1),Nat.add_comm qs.length,Nat.add_assoc])⟩
 obtain⟨v,h⟩:=DH (cl:=bH aY prim (F+1001) l) (F:=F+1001) (m:=m) (T:=[40,63,115,58]++(qs.map pU).flatten++[41,92,90]) (P:=[40,63,115,58]++(qs.map pU).flatten) (B:=[41,92,90]) (ps:=[]) (X:=[40,63,115,58]) (v:=none) rfl rfl hTl hc rfl (by rw[List.length_nil,Nat.zero_add]; exact Nat.le_trans hl (by decide))
 rw[← hm]at h
 have ht:([40,63,115,58]++(qs.map pU).flatten++[41,92,90]).take 4=[40,63,115,58]:=rfl
 have hd:([40,63,115,58]++(qs.map pU).flatten++[41,92,90]).drop (([40,63,115,58]++(qs.map pU).flatten++[41,92,90]).length - 3)=[41,92,90]:=by
  rw[List.length_append (bs:=[41,92,90]),show([41,92,90]:List Nat).length=3 from rfl,Nat.add_sub_cancel,List.drop_left]
 show bH aY prim (F+1001) (l+1) 2 [sD ([40,63,115,58]++(qs.map pU).flatten++[41,92,90])]=_
 generalize [40,63,115,58]++(qs.map pU).flatten++[41,92,90]=T at hTl h ht hd
 generalize ([40,63,115,58]++(qs.map pU).flatten).length=k at h
 have e1:=xO (FY (cl:=bH aY prim (F+1001) l) (ρ:=(pS T ([]++qs.map IC) k v).env) (a:=.var 0) (l:=T) rfl (hi:=.lit (.int 4)) (q:=4) rfl (by decide)) (b:=.lit (.str ("(?s:" : Str))) (y:=[40,63,115,58]) rfl
 have e2:=xO (Q5 (cl:=bH aY prim (F+1001) l) (ρ:=(pS T ([]++qs.map IC) k v).env) (a:=.var 0) (l:=T) rfl (lo:=.neg (.lit (.int 3))) (p:=3) rfl (by decide) (by decide)) (b:=.lit (.str (")\\Z" : Str))) (y:=[41,92,90]) rfl
 rw[ht,beq_self_eq_true]at e1
 rw[hd,beq_self_eq_true]at e2
 refine mO (pf:=Cj) rfl rfl ((aF (show oX (bH aY prim (F+1001) l) (F+1001) (.assign2 1 2 (.list .nil) (.lit (.int 4))) ⟨dE 4 [sD T],[]⟩=some (.next (pS T [] 4 none))from rfl)).trans ((aF (show oX (bH aY prim (F+1001) l) (F+1001) (.while_ EG sQ) (pS T [] 4 none)=_ from h)).trans (pY ?_)))
 exact mU (y:=.list []) (hH e1 e2) (fun _=>rfl) fun h=>nomatch h
section
variable{cl:Nat→List PyData→Option PyData}{ρ:aL}{elt:PE}{i j:PI}{x y:Nat}{g:PG}
theorem oG{β:Type}{k:β→PyData}{G:β→List PyData}{bs:List β}{fe:aL→Option PyData}(hj:uY cl j ρ=some (bs.map k))(h:∀ b∈bs,NZ cl fe g (ρ.set y (some (k b)))=some (G b)):NZ cl fe (.cons (.one y) j .no g) ρ=some (bs.flatMap G) :=
 (congrArg (Option.bind · _) hj).trans (rN fun b hb=>h b hb)
theorem F0{fe:aL→Option PyData}{d:PyData}(h:fe ρ=some d):NZ cl fe .nil ρ=some [d]:=congrArg (Option.map _) h
theorem FZ{α:Type}{k:α→PyData}{G:α→List PyData}{as:List α}(hi:uY cl i ρ=some (as.map k))(h:∀ a∈as,NZ cl (aD cl elt) g ((TC ([x]++w3 g) ρ).set x (some (k a)))=some (G a))(hl:(as.flatMap G).length≤1000000):aD cl (.comp elt (.one x) i .no g) ρ=some (.list (as.flatMap G)) :=
 (congrArg (Option.bind · _) hi).trans ((congrArg (Option.bind · NX) (rN fun a ha=>h a ha)).trans (mS hl))
end
theorem FV:vR fun p:Nat=>PyData.int (p:Int):=⟨fun a b=>by
 show((a:Int)==(b:Int))=(a==b)
 by_cases h:a=b
 ·rw[h,beq_self_eq_true,beq_self_eq_true]
 ·rw[beq_false_of_ne h]; exact beq_false_of_ne fun e=>h (Int.ofNat.inj e),fun _=>rfl⟩
theorem C3(ls:List (List Nat)):D1 (ls.map sD)=some (ls.map fun l=>(⟨l.toArray⟩:Str)):=by
 induction ls with
 | nil=>rfl
 | cons l ls ih=>exact congrArg (Option.map _) ih
theorem DO{ls:List (List Nat)}(hb:ls.flatten.length≤90000):zB "" (ls.map sD)=some (sD ls.flatten):=by
 unfold zB
 rw[C3]
 show(if _ then _ else _)=_
 rw[zN,Nat.zero_add,if_pos (Nat.le_trans hb (by decide)),wM]
theorem wC(l:List Nat):(l.map fun c=>[c]).flatten=l:=by
 induction l with
 | nil=>rfl
 | cons c l ih=>exact congrArg (c :: ·) ih
theorem o8{S:List Nat}(h:S.length=8){p:Nat}(hp:p<4):(S.drop (2*p)).take 2=[S.getD (2*p) 0,S.getD (2*p+1) 0]:=by
 have g:∀{k}(h:k<S.length),S.getD k 0=S[k]:=fun h=>by rw[List.getD_eq_getElem?_getD,List.getElem?_eq_getElem h]; rfl
 have h0:2*p<S.length:=h▸H8 (b:=0) (Nat.le_of_lt_succ hp) (by decide)
 have h1:2*p+1<S.length:=h▸H8 (Nat.le_of_lt_succ hp) (by decide)
 rw[g h0,g h1,List.drop_eq_getElem_cons h0,List.drop_eq_getElem_cons h1]
 rfl
noncomputable def qN(s:Nat→Nat)(r:List Nat)(b:Bool)(p:Nat):Option Nat:=if b then(if s (2*p)∈r then some (s (2*p))else if s (2*p+1)∈r then some (s (2*p+1))else none)else none
theorem OR{s:Nat→Nat}{r:List Nat}(hw:A7 s r){b:Bool}{p:Nat}(hp:p<4):[s (2*p),s (2*p+1)].filter (fun c=>r.contains c&&b)=(qN s r b p).toList:=by
 have w:=hw.one p hp
 unfold qN
 rw[List.filter_cons,List.filter_cons,List.filter_nil]
 cases b with
 | false=>rw[Bool.and_false,Bool.and_false]; rfl
 | true =>
  rw[Bool.and_true,Bool.and_true]
  by_cases h1:s (2*p)∈r
  ·have h2:=w h1
   rw[if_pos rfl,if_pos h1,List.contains_iff_mem.mpr h1,Bool.eq_false_iff.mpr fun h=>h2 (List.contains_iff_mem.mp h)]; rfl
  ·rw[if_pos rfl,if_neg h1,Bool.eq_false_iff.mpr fun h=>h1 (List.contains_iff_mem.mp h)]
   by_cases h2:s (2*p+1)∈r
   ·rw[if_pos h2,List.contains_iff_mem.mpr h2]; rfl
   ·rw[if_neg h2,Bool.eq_false_iff.mpr fun h=>h2 (List.contains_iff_mem.mp h)]; rfl
theorem R5{S r:List Nat}(hS:S8 S){b:Bool}{p c:Nat}(hp:p<4)(h:qN (S.getD · 0) r b p=some c):A5 c=true:=by
 unfold qN at h
 split at h
 ·split at h
  ·cases h; exact hS.sg (H8 (b:=0) (Nat.le_of_lt_succ hp) (by decide))
  ·split at h
   ·cases h; exact hS.sg (H8 (Nat.le_of_lt_succ hp) (by decide))
   ·cases h
 ·cases h
noncomputable abbrev pD(ps:List Nat):PyData:=.list (ps.map fun p:Nat=>.int (p:Int))
section
variable{cl:Nat→List PyData→Option PyData}{F:Nat}{S r ps:List Nat}
noncomputable abbrev kS(r ps S t:List Nat)(p w:Option PyData):dY:=⟨[some (aU r),some (pD ps),some (aU S),some (sD t),p,none,none,w,none,none,none],[]⟩
theorem BR(q:Option Nat):(pq q).length≤3:=by
 cases q with
 | none=>exact Nat.le_of_ble_eq_true rfl
 | some c =>
  show(pc c).length≤3
  unfold pc
  cases eA c <;> exact Nat.le_of_ble_eq_true rfl
theorem LZ(hS:S8 S)(hw:A7 (S.getD · 0) r){t:List Nat}{p:Nat}{v:Option PyData}(hp:p<4)(ht:t.length≤1000):∃ w,b6 cl F EI (kS r ps S t (some (.int (p:Int))) v)=some (.next (kS r ps S (t++pq (qN (S.getD · 0) r (ps.contains p) p)) (some (.int (p:Int))) w)):=by
 have e2p:∀{ρ:aL},aD cl (.var 4) ρ=some (.int (p:Int))→aD cl (.bin .Mult (.lit (.int 2)) (.var 4)) ρ=some (.int ((2*p:Nat):Int)):=fun h=>yP (p:=2) rfl h (by decide) (Nat.le_trans (Nat.le_of_lt hp) (by decide))
 have hi:uY cl (.of (.slc (.var 2) (.yes (.bin .Mult (.lit (.int 2)) (.var 4))) (.yes (.bin .Add (.bin .Mult (.lit (.int 2)) (.var 4)) (.lit (.int 2)))))) (kS r ps S t (some (.int (p:Int))) v).env=some ([S.getD (2*p) 0,S.getD (2*p+1) 0].map wD) :=
  l9 ((rU (w:=S) (p:=2*p) (q:=2*p+2) (k:=2) rfl (e2p rfl) (eX (e2p rfl) (q:=2) rfl) rfl (Nat.le_trans (Nat.add_le_add_right (Nat.mul_le_mul_left 2 (Nat.le_of_lt hp)) 2) (by decide))).trans (by rw[o8 hS.len hp]))
 have e1:=dA (elt:=.var 9) (x:=9) (c:=.yes (.bool true (.cmp .In (.var 9) (.var 0)) (.cmp .In (.var 4) (.var 1)))) (g:=wD) (p:=fun c=>r.contains c&&ps.contains p) hi
  (fun c _=>gG (hH (zG (x:=c) (w:=r) rfl rfl) (dD (x:=.int (p:Int)) rfl rfl (TZ FV p ps)))) (fun c _ _=>rfl) (Nat.le_of_ble_eq_true rfl)
 rw[OR (s:=(S.getD · 0)) hw hp]at e1
 generalize hq:qN (S.getD · 0) r (ps.contains p) p=q at e1
 have e2:aD cl (.me .join (.lit (.str ("" : Str))) (.cons (.comp (.var 9) (.one 9) (.of (.slc (.var 2) (.yes (.bin .Mult (.lit (.int 2)) (.var 4))) (.yes (.bin .Add (.bin .Mult (.lit (.int 2)) (.var 4)) (.lit (.int 2)))))) (.yes (.bool true (.cmp .In (.var 9) (.var 0)) (.cmp .In (.var 4) (.var 1)))) .nil) .nil)) (kS r ps S t (some (.int (p:Int))) v).env=some (sD q.toList):=by
  refine(congrArg (Option.bind · _) (y8 e1)).trans ?_
  show zB "" (q.toList.map wD)=_
  rw[show q.toList.map wD=(q.toList.map fun c=>[c]).map sD from(List.map_map (g:=sD) (f:=fun c=>[c])).symm,DO (by rw[wC]; cases q <;> exact Nat.le_of_ble_eq_true rfl),wC]
 have v7:aD cl (.var 7) (kS r ps S t (some (.int (p:Int))) (some (sD q.toList))).env=some (sD q.toList):=rfl
 have e3:aD cl (.ite (.cmp .Eq (.var 7) (.lit (.str ("" : Str)))) (.lit (.str ("?" : Str))) (.ite (.cmp .In (.var 7) (.lit (.str ("*?[" : Str)))) (.bin .Add (.bin .Add (.lit (.str ("[" : Str))) (.var 7)) (.lit (.str ("]" : Str)))) (.var 7))) (kS r ps S t (some (.int (p:Int))) (some (sD q.toList))).env=some (sD (pq q)):=by
  have c1:=xO v7 (b:=.lit (.str ("" : Str))) (y:=[]) rfl
  cases q with
  | none=>exact(mU (x:=sD [63]) (y:=.none) c1 (fun _=>rfl) fun h=>nomatch h)
  | some c =>
   have hc:=R5 hS hp hq
   have o:=(aA (aA (aA (aA (aA (I1 (mN hc).1)).2).2).2).2).2
   have c2:=CJ (b:=.lit (.str ("*?[" : Str))) (x:=("*?[" : Str).cps.toList) (y:=[c]) v7 rfl (eq_of_beq o)
   have c3:=hU (x:=[91,c]) (y:=[93]) (hU (a:=.lit (.str ("[" : Str))) (x:=[91]) (y:=[c]) rfl v7 (Nat.le_of_ble_eq_true rfl)) (b:=.lit (.str ("]" : Str))) rfl (Nat.le_of_ble_eq_true rfl)
   refine(mU (x:=.none) c1 (fun h=>nomatch h) fun _=>mU c2 (fun _=>c3) fun _=>v7).trans ?_
   show some (bif eA c then _ else _)=some (sD (pc c))
   unfold pc
   cases eA c <;> rfl
 refine⟨some (sD q.toList),(aF (bK e2)).trans (cO (OQ (p:=t) (q:=pq q) rfl e3 ?_))⟩
 exact Nat.le_trans (Nat.add_le_add ht (BR q)) (by decide)
noncomputable def NW(s:Nat→Nat)(r ps:List Nat):List (Option Nat):=(List.range 4).map fun p=>qN s r (ps.contains p) p
theorem L0(hS:S8 S)(hw:A7 (S.getD · 0) r){v w:Option PyData}:∃ v' w',oX cl F (.for_ (.one 4) SP EI) (kS r ps S [] v w)=some (.next (kS r ps S ((NW (S.getD · 0) r ps).flatMap pq) v' w')):=by
 have go:∀(ks t:List Nat)(v w:Option PyData),(∀ k∈ks,k<4)→t.length+3*ks.length≤1000→∃ v' w',dJ (b6 cl F EI) (fun d τ=>(fO (.one 4) d τ.env).map fun ρ=>{ env:=ρ,own:=lose τ.own (bU (.one 4)) }) (ks.map fun k:Nat=>.int ((0+k:Nat):Int)) (kS r ps S t v w) =
   some (.next (kS r ps S (t++(ks.map fun p=>qN (S.getD · 0) r (ps.contains p) p).flatMap pq) v' w')):=fun ks=>by
  induction ks with
  | nil=>exact fun t v w _ _=>⟨v,w,by rw[List.map_nil,List.map_nil,List.flatMap_nil,List.append_nil]; rfl⟩
  | cons k ks ih =>
   intro t v w hk ht
   rw[List.length_cons]at ht
   obtain⟨w1,h1⟩:=LZ (cl:=cl) (F:=F) (ps:=ps) (t:=t) (v:=w) hS hw (hk k (.head _)) (Nat.le_trans (Nat.le_add_right _ _) ht)
   obtain⟨v',w',h2⟩:=ih (t++pq (qN (S.getD · 0) r (ps.contains k) k)) (some (.int (k:Int))) w1 (fun x hx=>hk x (.tail _ hx)) (by rw[List.length_append]; exact Nat.le_trans (Nat.add_le_add_right (Nat.add_le_add_left (BR _) _) _) (Nat.le_trans (Nat.le_of_eq (by rw[Nat.mul_succ,Nat.add_assoc,Nat.add_comm 3])) ht))
   refine⟨v',w',?_⟩
   rw[List.map_cons,Nat.zero_add,eW (σ₁:=kS r ps S t (some (.int (k:Int))) w) rfl h1,h2,List.map_cons,List.flatMap_cons,List.append_assoc]
 obtain⟨v',w',h⟩:=go (List.range 4) [] v w (fun k hk=>List.mem_range.mp hk) (by decide)
 exact⟨v',w',(kM (tE (a:=.lit (.int 4)) (q:=4) rfl (by decide))).trans h⟩
end
noncomputable def Av(q:Option Nat)(c:Nat):Bool:=match q with
 | none=>true
 | some c'=>c'==c
noncomputable def gX(T:List (List Nat))(P:List Nat):List (List Nat):=T.flatMap fun n=>P.map fun c=>n++[c]
theorem AL{α β:Type}(g:α→β)(l:List α):(l.flatMap fun c=>[g c])=l.map g:=by
 induction l with
 | nil=>rfl
 | cons c l ih=>rw[List.flatMap_cons,ih]; rfl
theorem AC{T:List (List Nat)}{P:List Nat}{n:List Nat}:n∈gX T P↔∃ m∈T,∃ c∈P,n=m++[c]:=by
 unfold gX
 rw[List.mem_flatMap]
 refine exists_congr fun m=>and_congr_right fun _=>?_
 rw[List.mem_map]
 exact exists_congr fun c=>and_congr_right fun _=>eq_comm
theorem zP{T:List (List Nat)}{P:List Nat}(hP:P.length≤2):(gX T P).length≤T.length*2:=CE fun n _=>by rw[List.length_map]; exact hP
noncomputable def qV(s:Nat→Nat)(q:Option Nat)(p:Nat):List Nat:=[s (2*p),s (2*p+1)].filter (Av q)
theorem g8(s:Nat→Nat)(q:Option Nat)(p:Nat):(qV s q p).length≤2:=Nat.le_trans (List.length_filter_le _ _) (Nat.le_of_ble_eq_true rfl)
section
variable{cl:Nat→List PyData→Option PyData}{F:Nat}{S t:List Nat}{r0 p0:PyData}{w:Option PyData}{qs:List (Option Nat)}
noncomputable abbrev gS(r0 p0:PyData)(S t:List Nat)(p:Option PyData)(qs:List (Option Nat))(T:List (List Nat))(w v:Option PyData)(o:List Nat):dY:=⟨[some r0,some p0,some (aU S),some (sD t),p,some (.list (qs.map IC)),some (.list (T.map sD)),w,v,none,none],o⟩
theorem rE(hS:S8 S){T:List (List Nat)}{p:Nat}{q:Option Nat}{v:Option PyData}{o:List Nat}(hp:p<4)(hq:qs[p]? = some q)(hT:T.length≤8)(hn:∀ n∈T,n.length≤1000)(ho:o=[]∨o=[6]) :
  b6 cl F JP (gS r0 p0 S t (some (.int (p:Int))) qs T w v o)=some (.next (gS r0 p0 S t (some (.int (p:Int))) qs (gX T (qV (S.getD · 0) q p)) w (some (aU (qV (S.getD · 0) q p))) [6])):=by
 have e2p:∀{ρ:aL},aD cl (.var 4) ρ=some (.int (p:Int))→aD cl (.bin .Mult (.lit (.int 2)) (.var 4)) ρ=some (.int ((2*p:Nat):Int)):=fun h=>yP (p:=2) rfl h (by decide) (Nat.le_trans (Nat.le_of_lt hp) (by decide))
 have hi:uY cl (.of (.slc (.var 2) (.yes (.bin .Mult (.lit (.int 2)) (.var 4))) (.yes (.bin .Add (.bin .Mult (.lit (.int 2)) (.var 4)) (.lit (.int 2)))))) (gS r0 p0 S t (some (.int (p:Int))) qs T w v o).env=some ([S.getD (2*p) 0,S.getD (2*p+1) 0].map wD) :=
  l9 ((rU (w:=S) (p:=2*p) (q:=2*p+2) (k:=2) rfl (e2p rfl) (eX (e2p rfl) (q:=2) rfl) rfl (Nat.le_trans (Nat.add_le_add_right (Nat.mul_le_mul_left 2 (Nat.le_of_lt hp)) 2) (by decide))).trans (by rw[o8 hS.len hp]))
 have e1:=dA (elt:=.var 9) (x:=9) (c:=.yes (.bool false (.cmp .Is (.idx (.var 5) (.var 4)) (.lit .none)) (.cmp .Eq (.idx (.var 5) (.var 4)) (.var 9)))) (g:=wD) (p:=Av q) hi
  (fun c _=>gG (by
   have hx:∀{ρ:aL},aD cl (.var 5) ρ=some (.list (qs.map IC))→aD cl (.var 4) ρ=some (.int (p:Int))→aD cl (.idx (.var 5) (.var 4)) ρ=some (IC q):=fun h5 h4=>fG h5 h4 (Nat.le_trans (Nat.le_of_lt hp) (by decide)) (by rw[List.getElem?_map,hq]; rfl)
   cases q with
   | none=>exact congrArg (Option.bind · _) (dD (op:=.Is) (b:=.lit .none) (z:=.bool true) (hx rfl rfl) rfl rfl)
   | some c'=>exact Z1 (dD (op:=.Is) (b:=.lit .none) (z:=.bool false) (hx rfl rfl) rfl rfl) (dD (op:=.Eq) (b:=.var 9) (x:=wD c') (y:=wD c) (z:=.bool (c'==c)) (hx rfl rfl) rfl (by
     show(if l3 (wD c') (wD c)=true then some (PyData.bool (PyData.eqv (wD c') (wD c)))else none)=_
     rw[lR rfl,CK]; rfl)))) (fun c _ _=>rfl) (Nat.le_of_ble_eq_true rfl)
 have s1:oX cl F (.assign 8 (.comp (.var 9) (.one 9) (.of (.slc (.var 2) (.yes (.bin .Mult (.lit (.int 2)) (.var 4))) (.yes (.bin .Add (.bin .Mult (.lit (.int 2)) (.var 4)) (.lit (.int 2)))))) (.yes (.bool false (.cmp .Is (.idx (.var 5) (.var 4)) (.lit .none)) (.cmp .Eq (.idx (.var 5) (.var 4)) (.var 9)))) .nil)) (gS r0 p0 S t (some (.int (p:Int))) qs T w v o) =
   some (.next (gS r0 p0 S t (some (.int (p:Int))) qs T w (some (aU (qV (S.getD · 0) q p))) (8::o))):=(bK e1).trans (by rcases ho with rfl | rfl <;> rfl)
 have hl:=g8 (S.getD · 0) q p
 generalize qV (S.getD · 0) q p=P at s1 hl
 have e2:=FZ (cl:=cl) (ρ:=(gS r0 p0 S t (some (.int (p:Int))) qs T w (some (aU P)) (8::o)).env) (elt:=.bin .Add (.var 10) (.var 9)) (x:=10) (i:=.of (.var 6)) (g:=.cons (.one 9) (.of (.var 8)) .no .nil) (k:=sD) (as:=T) (G:=fun n=>P.flatMap fun c=>[sD (n++[c])]) rfl
  (fun n hn'=>oG (k:=wD) (bs:=P) rfl fun c _=>F0 (hU (x:=n) (y:=[c]) rfl rfl (Nat.le_trans (Nat.add_le_add_right (hn n hn') 1) (by decide))))
  (Nat.le_trans (CE (c:=2) fun n _=>by rw[AL,List.length_map]; exact hl) (Nat.le_trans (Nat.mul_le_mul_right 2 hT) (by decide)))
 rw[show(T.flatMap fun n=>P.flatMap fun c=>[sD (n++[c])])=(gX T P).map sD by
  unfold gX
  rw[List.map_flatMap]
  exact congrArg (fun f=>T.flatMap f) (funext fun n=>by rw[AL,List.map_map]; rfl)]at e2
 exact(aF s1).trans (cO ((bK e2).trans (by rcases ho with rfl | rfl <;> rfl)))
noncomputable def NU(s:Nat→Nat)(qs:List (Option Nat)):List (List Nat):=gX (gX (gX (gX [[]] (qV s (qs.getD 0 none) 0)) (qV s (qs.getD 1 none) 1)) (qV s (qs.getD 2 none) 2)) (qV s (qs.getD 3 none) 3)
theorem OW(hS:S8 S)(hq:qs.length=4){v:Option PyData}{p:Option PyData}{o:List Nat}(ho:o=[]∨o=[6]):∃ p' v',oX cl F (.for_ (.one 4) D9 JP) (gS r0 p0 S t p qs [[]] w v o)=some (.next (gS r0 p0 S t p' qs (NU (S.getD · 0) qs) w v' [6])):=by
 have hg:∀ k,k<4→qs[k]? = some (qs.getD k none):=fun k hk=>by rw[List.getD_eq_getElem?_getD,List.getElem?_eq_getElem (hq.symm▸hk)]; rfl
 have hs:∀{T:List (List Nat)}{P:List Nat}{a b:Nat},P.length≤2→T.length≤a∧(∀ n∈T,n.length≤b)→(gX T P).length≤a*2∧∀ n∈gX T P,n.length≤b+1:=fun hP h=>⟨Nat.le_trans (zP hP) (Nat.mul_le_mul_right 2 h.1),fun n hn=>by
  obtain⟨m,hm,c,_,rfl⟩:=AC.mp hn
  rw[List.length_append]
  exact Nat.add_le_add_right (h.2 m hm) 1⟩
 have h0:([[]]:List (List Nat)).length≤1∧∀ n∈([[]]:List (List Nat)),n.length≤0:=⟨Nat.le_refl _,fun n hn=>by rw[List.mem_singleton.mp hn]; exact Nat.le_refl _⟩
 have h1:=hs (g8 (S.getD · 0) (qs.getD 0 none) 0) h0
 have h2:=hs (g8 (S.getD · 0) (qs.getD 1 none) 1) h1
 have h3:=hs (g8 (S.getD · 0) (qs.getD 2 none) 2) h2
 have b:∀{T:List (List Nat)}{k:Nat},(∀ n∈T,n.length≤k)→k≤1000→∀ n∈T,n.length≤1000:=fun h hk n hn=>Nat.le_trans (h n hn) hk
 have hl:lose o (cT D9)=o:=List.filter_eq_self.mpr fun _ _=>rfl
 have bnd:∀{T:List (List Nat)}{v p:Option PyData}{k:Nat}{o:List Nat},(o=[]∨o=[6])→(fO (.one 4) (.int ((0+k:Nat):Int)) (gS r0 p0 S t p qs T w v o).env).map (fun ρ=>(⟨ρ,lose o (bU (.one 4))⟩:dY))=some (gS r0 p0 S t (some (.int (k:Int))) qs T w v o):=fun{T v p k o}ho=>by
  rw[Nat.zero_add]
  rcases ho with rfl | rfl <;> rfl
 have hln:aD cl (.bi .len (.cons (.var 5) .nil)) (gS r0 p0 S t p qs [[]] w v o).env=some (.int ((4:Nat):Int)):=(pH (l:=qs.map IC) rfl).trans (by rw[List.length_map,hq])
 refine⟨some (.int ((3:Nat):Int)),some (aU (qV (S.getD · 0) (qs.getD 3 none) 3)),(kM (i:=D9) (tE hln (by decide))).trans ?_⟩
 rw[hl]
 refine(eW (bnd ho) (rE hS (p:=0) (by decide) (hg 0 (by decide)) (Nat.le_trans h0.1 (by decide)) (b h0.2 (by decide)) ho)).trans ?_
 refine(eW (bnd (.inr rfl)) (rE hS (p:=1) (by decide) (hg 1 (by decide)) (Nat.le_trans h1.1 (by decide)) (b h1.2 (by decide)) (.inr rfl))).trans ?_
 refine(eW (bnd (.inr rfl)) (rE hS (p:=2) (by decide) (hg 2 (by decide)) (Nat.le_trans h2.1 (by decide)) (b h2.2 (by decide)) (.inr rfl))).trans ?_
 refine(eW (bnd (.inr rfl)) (rE hS (p:=3) (by decide) (hg 3 (by decide)) (Nat.le_trans h3.1 (by decide)) (b h3.2 (by decide)) (.inr rfl))).trans ?_
 rfl
end
theorem PJ{s:Nat→Nat}{r:List Nat}(hw:A7 s r){b:Bool}{p x:Nat}(hp:p<4):x∈qV s (qN s r b p) p↔∃ t,t<2∧x=s (2*p+t)∧(b=true→∀ u,u<2→s (2*p+u)∈r→u=t):=by
 have key:∀{y z:Nat},(y∈r→z∉r)→(x∈[y,z].filter (Av (if b then(if y∈r then some y else if z∈r then some z else none)else none))↔(x=y∧(b=true→z∉r))∨x=z∧(b=true→y∉r)):=fun{y z}w=>by
  rw[List.mem_filter,List.mem_cons,List.mem_singleton]
  cases b with
  | false=>exact⟨fun h=>h.1.imp (⟨·,nofun⟩) (⟨·,nofun⟩),fun h=>⟨h.imp And.left And.left,rfl⟩⟩
  | true =>
   rw[if_pos rfl]
   by_cases h1:y∈r
   ·rw[if_pos h1]
    exact⟨fun h=>.inl ⟨(eq_of_beq h.2).symm,fun _=>w h1⟩,fun h=>h.elim (fun h=>⟨.inl h.1,beq_iff_eq.mpr h.1.symm⟩) fun h=>absurd h1 (h.2 rfl)⟩
   ·rw[if_neg h1]
    by_cases h2:z∈r
    ·rw[if_pos h2]
     exact⟨fun h=>.inr ⟨(eq_of_beq h.2).symm,fun _=>h1⟩,fun h=>h.elim (fun h=>absurd h2 (h.2 rfl)) fun h=>⟨.inr h.1,beq_iff_eq.mpr h.1.symm⟩⟩
    ·rw[if_neg h2]
     exact⟨fun h=>h.1.imp (⟨·,fun _=>h2⟩) (⟨·,fun _=>h1⟩),fun h=>⟨h.imp And.left And.left,rfl⟩⟩
 refine(key (hw.one p hp)).trans ⟨fun h=>h.elim (fun h=>⟨0,Nat.two_pos,h.1,fun hb u hu hm=>(l8 hu).elim id fun e=>by subst e; exact absurd hm (h.2 hb)⟩) fun h=>⟨1,Nat.le_refl 2,h.1,fun hb u hu hm=>(l8 hu).elim (fun e=>by subst e; exact absurd hm (h.2 hb)) id⟩,fun⟨t,ht,e,h⟩=>?_⟩
 rcases l8 ht with rfl | rfl
 ·exact .inl ⟨e,fun hb hm=>nomatch h hb 1 (Nat.le_refl 2) hm⟩
 ·exact .inr ⟨e,fun hb hm=>nomatch h hb 0 Nat.two_pos hm⟩
noncomputable def Ar(β:Nat→Nat)(k t p:Nat):Nat:=if p=k then t else β p
theorem tL{β:Nat→Nat}{k t:Nat}:Ar β k t k=t:=if_pos rfl
theorem BI{β:Nat→Nat}{k t p:Nat}(h:p≠k):Ar β k t p=β p:=if_neg h
noncomputable def XJ(P:Nat→List Nat):Nat→List (List Nat)
 | 0=>[[]]
 | k+1=>gX (XJ P k) (P k)
theorem MS{P:Nat→List Nat}{f:Nat→Nat→Nat}{R:Nat→Nat→Prop}(hP:∀{p c},p<4→(c∈P p↔∃ t,t<2∧c=f p t∧R p t)){k:Nat}:k≤4→∀{n},n∈XJ P k↔∃ β,B2 β∧(∀ p,p<k→R p (β p))∧n=(List.range k).map fun p=>f p (β p):=by
 induction k with
 | zero=>exact fun _{n}=>⟨fun h=>⟨fun _=>0,fun _=>Nat.two_pos,nofun,List.mem_singleton.mp h⟩,fun⟨_,_,_,e⟩=>e ▸ .head _⟩
 | succ k ih =>
  refine fun hk{n}=>AC.trans ⟨?_,?_⟩
  ·rintro⟨m,hm,c,hc,rfl⟩
   obtain⟨β,hβ,hR,rfl⟩:=(ih (Nat.le_of_succ_le hk)).mp hm
   obtain⟨t,ht,rfl,hr⟩:=(hP hk).mp hc
   refine⟨Ar β k t,fun p=>?_,fun p hp=>?_,?_⟩
   ·by_cases e:p=k
    ·rw[e,tL]; exact ht
    ·rw[BI e]; exact hβ p
   ·by_cases e:p=k
    ·rw[e,tL]; exact hr
    ·rw[BI e]; exact hR p (Nat.lt_of_le_of_ne (Nat.le_of_lt_succ hp) e)
   ·rw[List.range_succ,List.map_append,List.map_singleton,tL]
    exact congrArg (· ++ [f k t]) (List.map_congr_left fun p hp=>congrArg (f p) (BI (Nat.ne_of_lt (List.mem_range.mp hp))).symm)
  ·rintro⟨β,hβ,hR,rfl⟩
   exact⟨_,(ih (Nat.le_of_succ_le hk)).mpr ⟨β,hβ,fun p hp=>hR p (Nat.lt_succ_of_lt hp),rfl⟩,_,(hP hk).mpr ⟨β k,hβ k,rfl,hR k (Nat.lt_succ_self k)⟩,by rw[List.range_succ,List.map_append]; rfl⟩
theorem BK{s:Nat→Nat}{r:List Nat}(hw:A7 s r)(b:Nat→Bool){n:List Nat}:n∈NU s [qN s r (b 0) 0,qN s r (b 1) 1,qN s r (b 2) 2,qN s r (b 3) 3]↔∃ β,B2 β∧n=gR s β∧∀ k,k<8→b (k / 2)=true→s k∈r→k%2=β (k / 2) :=
 (MS (P:=fun p=>qV s (qN s r (b p) p) p) (fun hp=>PJ hw hp) (Nat.le_refl 4)).trans (exists_congr fun β=>and_congr_right fun hβ=>and_comm.trans (and_congr (.of_eq (congrArg (n = ·) (show [s (2*0+β 0),s (2*1+β 1),s (2*2+β 2),s (2*3+β 3)]=gR s β from by rw[Nat.mul_zero,Nat.zero_add]; rfl)))
  ⟨fun c k hk hb hm=>c (k / 2) (hf k hk) hb _ (Nat.mod_lt _ Nat.two_pos) (by rwa[Nat.div_add_mod]),fun hc p hp hb u hu hm=>by
   have:=hc (2*p+u) (H8 (Nat.le_of_lt_succ hp) hu) (by rwa[BC hu]) hm
   rwa[BC hu,OC hu]at this⟩))
theorem kN(s:Nat→Nat)(qs:List (Option Nat)):(NU s qs).length≤16:=by
 have h:∀{T:List (List Nat)}{P:List Nat}{a:Nat},P.length≤2→T.length≤a→(gX T P).length≤a*2:=fun hP h=>Nat.le_trans (zP hP) (Nat.mul_le_mul_right 2 h)
 exact h (g8 ..) (h (g8 ..) (h (g8 ..) (h (T:=[[]]) (a:=1) (g8 ..) (Nat.le_refl 1))))
noncomputable def iL(f:Nat)(args:List PyData):Option PyData:=(BB[f]?).bind fun n=>D2 1002 (w7 1002 6 RM 6) n args
theorem vT{l:Nat}{S r ps:List Nat}(hS:S8 S)(hw:A7 (S.getD · 0) r):bH aY iL 1002 (l+2) 3 [aU r,pD ps,aU S]=some (.list ((NU (S.getD · 0) (NW (S.getD · 0) r ps)).map sD)):=by
 have hc:∀ c,some c∈NW (S.getD · 0) r ps→A5 c=true:=fun c h=>by
  obtain⟨p,hp,e⟩:=List.mem_map.mp h
  exact R5 hS (List.mem_range.mp hp) e
 obtain⟨v1,w1,h1⟩:=L0 (cl:=bH aY iL 1002 (l+1)) (F:=1002) (ps:=ps) (v:=none) (w:=none) hS hw
 have hl:(NW (S.getD · 0) r ps).length=4:=rfl
 generalize NW (S.getD · 0) r ps=qs at hc h1 hl ⊢
 have hb:(qs.flatMap pq).length≤12:=Nat.le_trans (CE fun q _=>BR q) (by rw[hl]; decide)
 have c9:bH aY iL 1002 (l+1) 9 [sD (qs.flatMap pq)]=some (RJ (qs.map pU).flatten) :=
  (nZ rfl).trans ((show iL 9 [sD (qs.flatMap pq)]=o9 1002 ⟨(qs.flatMap pq).toArray⟩ by kernel_rfl).trans (AS (F:=1000) (by rw[hl]; decide) (Nat.lt_of_le_of_lt hb (by decide)) (Nat.le_refl _) (YW (PL hc) (Nat.le_trans (BS qs) (by rw[hl]; decide)))))
 have c2:=G7 (prim:=iL) (F:=1) (l:=l) hc (by rw[hl]; decide)
 have hln:∀{ρ:aL},aD (bH aY iL 1002 (l+1)) (.var 5) ρ=some (.list (qs.map IC))→aD (bH aY iL 1002 (l+1)) (.bi .len (.cons (.var 5) .nil)) ρ=some (.int ((4:Nat):Int)):=fun h=>(pH h).trans (by rw[List.length_map,hl])
 obtain⟨p',v',h2⟩:=OW (cl:=bH aY iL 1002 (l+1)) (F:=1002) (r0:=aU r) (p0:=pD ps) (t:=qs.flatMap pq) (w:=w1) (v:=none) (p:=v1) (o:=[]) hS hl (.inl rfl)
 exact mO (pf:=Ci) rfl rfl ((aF (show oX (bH aY iL 1002 (l+1)) 1002 (.assign 3 (.lit (.str ("" : Str)))) ⟨dE 11 [aU r,pD ps,aU S],[]⟩=some (.next (kS r ps S [] none none))from rfl)).trans ((aF h1).trans ((aF (bK (gN (f:=2) (gN (f:=9) (a:=.var 3) rfl c9) c2))).trans
  ((aF (bK (mU (t:=true) (x:=.list ([[]].map sD)) (y:=.none) (dD (op:=.Eq) (b:=.lit (.int 4)) (hln rfl) rfl (by kernel_rfl)) (fun _=>rfl) fun h=>nomatch h))).trans ((aF h2).trans (pY rfl))))))
noncomputable def eO(s:Nat→Nat):List (List Nat):=NU s [none,none,none,none]
theorem eU{s:Nat→Nat}{n:List Nat}:n∈eO s↔∃ β,B2 β∧n=gR s β :=
 (BK (s:=s) (r:=[]) ⟨List.nodup_nil,nofun,fun _ _ h=>nomatch h⟩ (fun _=>false)).trans (exists_congr fun β=>and_congr_right fun _=>⟨And.left,fun h=>⟨h,fun _ _ h=>nomatch h⟩⟩)
section
variable{cl:Nat→List PyData→Option PyData}{S:List Nat}
theorem YM(hS:S8 S){ρ:aL}(h:aD cl (.var 3) ρ=some (aU S)):uY cl (.of (.slc (.var 3) .no (.yes (.lit (.int 2))))) ρ=some ([S.getD (2*0) 0,S.getD (2*0+1) 0].map wD) :=
 l9 ((Q4 (w:=S) (q:=2) h rfl (by decide)).trans (congrArg (fun l=>some (aU l)) (o8 (p:=0) hS.len (by decide))))
theorem JX(hS:S8 S){ρ:aL}{p:Nat}{lo hi:PE}(h:aD cl (.var 3) ρ=some (aU S))(hp:p<4)(h1:aD cl lo ρ=some (.int ((2*p:Nat):Int)))(h2:aD cl hi ρ=some (.int ((2*p+2:Nat):Int))):uY cl (.of (.slc (.var 3) (.yes lo) (.yes hi))) ρ=some ([S.getD (2*p) 0,S.getD (2*p+1) 0].map wD) :=
 l9 ((rU (w:=S) (p:=2*p) (q:=2*p+2) (k:=2) h h1 h2 rfl (Nat.le_trans (Nat.add_le_add_right (Nat.mul_le_mul_left 2 (Nat.le_of_lt hp)) 2) (by decide))).trans (congrArg (fun l=>some (aU l)) (o8 hS.len hp)))
theorem UQ(hS:S8 S){ρ:aL}(h:aD cl (.var 3) ρ=some (aU S)):uY cl (.of (.slc (.var 3) (.yes (.lit (.int 6))) .no)) ρ=some ([S.getD (2*3) 0,S.getD (2*3+1) 0].map wD) :=
 l9 ((Q7 (w:=S) (p:=6) h rfl (by decide)).trans (congrArg (fun l=>some (aU l)) ((List.take_of_length_le (by rw[List.length_drop,hS.len]; decide)).symm.trans (o8 (p:=3) hS.len (by decide)))))
noncomputable abbrev V0:PE:=.comp (.bin .Add (.bin .Add (.bin .Add (.var 18) (.var 19)) (.var 20)) (.var 21)) (.one 18) (.of (.slc (.var 3) .no (.yes (.lit (.int 2))))) .no (.cons (.one 19) (.of (.slc (.var 3) (.yes (.lit (.int 2))) (.yes (.lit (.int 4))))) .no (.cons (.one 20) (.of (.slc (.var 3) (.yes (.lit (.int 4))) (.yes (.lit (.int 6))))) .no (.cons (.one 21) (.of (.slc (.var 3) (.yes (.lit (.int 6))) .no)) .no .nil)))
theorem MR(hS:S8 S){x0 x1 x2:Option PyData}:aD cl V0 [x0,x1,x2,some (aU S),none,none,none,none,none,none,none,none,none,none,none,none,none,none,none,none,none,none,none]=some (.list ((eO (S.getD · 0)).map sD)):=by
 refine(FZ (k:=wD) (as:=[S.getD (2*0) 0,S.getD (2*0+1) 0]) (G:=fun a=>[S.getD (2*1) 0,S.getD (2*1+1) 0].flatMap fun b=>[S.getD (2*2) 0,S.getD (2*2+1) 0].flatMap fun c=>[S.getD (2*3) 0,S.getD (2*3+1) 0].flatMap fun d=>[sD [a,b,c,d]]) (YM hS rfl) (fun a _=>?_) ?_).trans rfl
 ·refine oG (k:=wD) (bs:=[S.getD (2*1) 0,S.getD (2*1+1) 0]) (JX hS (p:=1) rfl (by decide) rfl rfl) fun b _=>?_
  refine oG (k:=wD) (bs:=[S.getD (2*2) 0,S.getD (2*2+1) 0]) (JX hS (p:=2) rfl (by decide) rfl rfl) fun c _=>?_
  refine oG (k:=wD) (bs:=[S.getD (2*3) 0,S.getD (2*3+1) 0]) (UQ hS rfl) fun d _=>?_
  exact F0 (hU (x:=[a,b,c]) (y:=[d]) (hU (x:=[a,b]) (y:=[c]) (hU (x:=[a]) (y:=[b]) rfl rfl (Nat.le_of_ble_eq_true rfl)) rfl (Nat.le_of_ble_eq_true rfl)) rfl (Nat.le_of_ble_eq_true rfl))
 ·exact Nat.le_of_ble_eq_true rfl
end
noncomputable abbrev fB(M:List (List Nat)):PyData:=.list (M.map sD)
noncomputable def bA(ru:Rl):PyData:=.list [aU ru.1,fB ru.2]
noncomputable abbrev jD(L:List Rl):PyData:=.list (L.map bA)
theorem WP(l:List PyData):u4 .Eq (.list l) (.list [])=some (.bool l.isEmpty):=by
 show(if l3 (.list l) (.list [])=true then some (PyData.bool (PyData.eqv (.list l) (.list [])))else none)=_
 have h:l3 (.list l) (.list [])=true:=decide_eq_true (Nat.le_trans (Nat.min_le_right _ _) (show PyData.depth (.list [])≤64 by decide +kernel))
 rw[h,if_pos rfl,PyData.eqv]
 cases l <;> rfl
theorem VZ(l:List PyData):u4 .NotEq (.list l) (.list [])=some (.bool (!l.isEmpty)):=by
 show(if l3 (.list l) (.list [])=true then some (PyData.bool (!PyData.eqv (.list l) (.list [])))else none)=_
 have h:l3 (.list l) (.list [])=true:=decide_eq_true (Nat.le_trans (Nat.min_le_right _ _) (show PyData.depth (.list [])≤64 by decide +kernel))
 rw[h,if_pos rfl,PyData.eqv]
 cases l <;> rfl
section
variable{cl:Nat→List PyData→Option PyData}{ρ:aL}{a:PE}
theorem qE{ru:Rl}(h:aD cl a ρ=some (bA ru)):aD cl (.idx a (.lit (.int 0))) ρ=some (aU ru.1):=fG (l:=[aU ru.1,fB ru.2]) (p:=0) h rfl (by decide) rfl
theorem EC{ru:Rl}(h:aD cl a ρ=some (bA ru)):aD cl (.idx a (.lit (.int 1))) ρ=some (fB ru.2):=fG (l:=[aU ru.1,fB ru.2]) (p:=1) h rfl (by decide) rfl
theorem tY{l:List PyData}(h:aD cl a ρ=some (.list l)):aD cl (.cmp .Eq a (.list .nil)) ρ=some (.bool l.isEmpty):=dD h rfl (WP l)
theorem oD{l:List PyData}(h:aD cl a ρ=some (.list l)):aD cl (.cmp .NotEq a (.list .nil)) ρ=some (.bool (!l.isEmpty)):=dD h rfl (VZ l)
theorem CG{b:PE}{x y:Bool}(h1:aD cl a ρ=some (.bool x))(h2:aD cl b ρ=some (.bool y)):aD cl (.bool false a b) ρ=some (.bool (x||y)):=(congrArg (Option.bind · _) h1).trans (by cases x with | true=>rfl | false=>exact h2)
theorem mW{α:Type}{D:α→PyData}{b:PE}{x y:List α}(h1:aD cl a ρ=some (.list (x.map D)))(h2:aD cl b ρ=some (.list (y.map D)))(hl:x.length+y.length≤1000000):aD cl (.bin .Add a b) ρ=some (.list ((x++y).map D)) :=
 eB h1 h2 ((mS (by rw[← List.map_append,List.length_map,List.length_append]; exact hl)).trans (by rw[List.map_append]))
end
section
variable{cl:Nat→List PyData→Option PyData}{F:Nat}{S:List Nat}
noncomputable abbrev cE(L:List Rl)(S:List Nat)(j:Nat)(x3 x4 x5 x6 x7 x8 x9 x11:Option PyData):aL:=[some (jD L),some (aU S),some (.int (j:Int)),x3,x4,x5,x6,x7,x8,x9,none,x11,none,none]
noncomputable abbrev r7(os:List Nat):PyData:=.list (os.map fun k:Nat=>.int (k:Int))
theorem AD{o:List Nat}{x y:Nat}(hne:y≠x)(h:o.contains y=true):(lose o [x]).contains y=true:=List.contains_iff_mem.mpr (List.mem_filter.mpr ⟨List.contains_iff_mem.mp h,by
 rw[Bool.not_eq_true',Bool.eq_false_iff]
 exact fun e=>hne (List.mem_singleton.mp (List.contains_iff_mem.mp e))⟩)
theorem NO{ρ:aL}(hS:S8 S){a b:Rl}{k:Nat}(hk:k<7)(v1:aD cl (.var 1) ρ=some (aU S))(v5:aD cl (.var 5) ρ=some (.int (k:Int)))(v6:aD cl (.var 6) ρ=some (bA a))(v7:aD cl (.var 7) ρ=some (bA b)) :
  aD cl (.bool false (.bool true (.cmp .In (.idx (.var 1) (.var 5)) (.idx (.var 6) (.lit (.int 0)))) (.cmp .In (.idx (.var 1) (.bin .Add (.var 5) (.lit (.int 1)))) (.idx (.var 7) (.lit (.int 0))))) (.bool true (.cmp .In (.idx (.var 1) (.bin .Add (.var 5) (.lit (.int 1)))) (.idx (.var 6) (.lit (.int 0)))) (.cmp .In (.idx (.var 1) (.var 5)) (.idx (.var 7) (.lit (.int 0)))))) ρ=some (.bool (fN (S.getD · 0) a.1 b.1 k)) :=
 have pl:∀{e:PE}{k:Nat},k<8→aD cl e ρ=some (.int (k:Int))→aD cl (.idx (.var 1) e) ρ=some (wD (S.getD k 0)):=fun h v=>fG v1 v (Nat.le_trans (Nat.le_of_lt h) (by decide)) (by rw[List.getElem?_map,hS.at h]; rfl)
 have sk:=pl (Nat.lt_succ_of_lt hk) v5
 have sk1:=pl (Nat.succ_lt_succ hk) (eX (b:=.lit (.int 1)) v5 (q:=1) rfl)
 CG (hH (zG sk (qE v6)) (zG sk1 (qE v7))) (hH (zG sk1 (qE v6)) (zG sk (qE v7)))
theorem MO(hS:S8 S){L:List Rl}{a b:Rl}{j k:Nat}{x3 x8 x9 x11:Option PyData}{os o:List Nat}(hk:k<7)(ho:o.contains 4=true)(hl:os.length≤100) :
  b6 cl F EH ⟨cE L S j x3 (some (r7 os)) (some (.int (k:Int))) (some (bA a)) (some (bA b)) x8 x9 x11,o⟩=some (.next ⟨cE L S j x3 (some (r7 (os++if fN (S.getD · 0) a.1 b.1 k then [k]else []))) (some (.int (k:Int))) (some (bA a)) (some (bA b)) x8 x9 x11,o⟩):=by
 refine cO ((DZ (F:=F) (NO hS hk rfl rfl rfl rfl) rfl).trans ?_)
 cases fN (S.getD · 0) a.1 b.1 k
 ·rw[if_neg Bool.false_ne_true,if_neg Bool.false_ne_true,List.append_nil]; rfl
 ·rw[if_pos rfl,if_pos rfl,show r7 (os++[k]) = .list ((os.map fun k:Nat=>PyData.int (k:Int))++[.int (k:Int)]) by rw[r7,List.map_append]; rfl]
  exact cO (xD (x:=4) (e:=.var 5) (xs:=os.map fun k:Nat=>.int (k:Int)) ho rfl rfl rfl (by rw[List.length_map]; exact Nat.le_trans (Nat.succ_le_succ hl) (by decide)))
theorem MP(hS:S8 S){L:List Rl}{a b:Rl}{j:Nat}{x3 x5 x8 x9 x11:Option PyData}{o:List Nat}(ho:o.contains 4=true):∃ x5' o',oX cl F (.for_ (.one 5) zD EH) ⟨cE L S j x3 (some (r7 [])) x5 (some (bA a)) (some (bA b)) x8 x9 x11,o⟩=some (.next ⟨cE L S j x3 (some (r7 (mI (S.getD · 0) a.1 b.1))) x5' (some (bA a)) (some (bA b)) x8 x9 x11,o'⟩):=by
 have go:∀(ks os o:List Nat)(x5:Option PyData),(∀ k∈ks,k<7)→o.contains 4=true→os.length+ks.length≤100→∃ x5' o',dJ (b6 cl F EH) (fun d τ=>(fO (.one 5) d τ.env).map fun ρ=>{ env:=ρ,own:=lose τ.own (bU (.one 5)) }) (ks.map fun k:Nat=>.int (k:Int)) ⟨cE L S j x3 (some (r7 os)) x5 (some (bA a)) (some (bA b)) x8 x9 x11,o⟩ =
   some (.next ⟨cE L S j x3 (some (r7 (os++ks.filter (fN (S.getD · 0) a.1 b.1)))) x5' (some (bA a)) (some (bA b)) x8 x9 x11,o'⟩):=fun ks=>by
  induction ks with
  | nil=>exact fun os o x5 _ _ _=>⟨x5,o,by rw[List.filter_nil,List.append_nil]; rfl⟩
  | cons k ks ih =>
   intro os o x5 hk ho hl
   rw[List.length_cons]at hl
   have h1:=MO (cl:=cl) (F:=F) (L:=L) (a:=a) (b:=b) (j:=j) (x3:=x3) (x8:=x8) (x9:=x9) (x11:=x11) hS (hk k (.head _)) (AD (x:=5) (by decide) ho) (os:=os) (Nat.le_trans (Nat.le_add_right _ _) hl)
   obtain⟨x5',o',h2⟩:=ih (os++if fN (S.getD · 0) a.1 b.1 k then [k]else []) (lose o [5]) (some (.int (k:Int))) (fun x hx=>hk x (.tail _ hx)) (AD (by decide) ho) (by rw[List.length_append,Nat.add_right_comm]; exact Nat.le_trans (Nat.add_le_add_left (m:=1) (by split <;> exact Nat.le_of_ble_eq_true rfl) _) hl)
   refine⟨x5',o',?_⟩
   rw[List.map_cons,eW (σ₁:=⟨cE L S j x3 (some (r7 os)) (some (.int (k:Int))) (some (bA a)) (some (bA b)) x8 x9 x11,lose o [5]⟩) rfl h1,h2,List.append_assoc,List.filter_cons]
   cases fN (S.getD · 0) a.1 b.1 k <;> rfl
 obtain⟨x5',o',h⟩:=go [0,2,4,6] [] (lose o (cT zD)) x5 (by decide) (by rw[show lose o (cT zD)=o from List.filter_eq_self.mpr fun _ _=>rfl]; exact ho) (by decide)
 exact⟨x5',o',(kM (i:=zD) (ds:=[0,2,4,6].map fun k:Nat=>.int (k:Int)) (by kernel_rfl)).trans h⟩
end
theorem JU{s:Nat→Nat}{r:List Nat}(h:A7 s r):r.length≤8:=by
 have:=iJ r (m:=(List.range 8).map s) h.nd fun x hx=>let⟨k,hk,e⟩:=h.of x hx; List.mem_map.mpr ⟨k,List.mem_range.mpr hk,e.symm⟩
 rwa[List.length_map,List.length_range]at this
section
variable{cl:Nat→List PyData→Option PyData}{F x y:Nat}{ρ:aL}{a b e:PE}{d d':PyData}
theorem xP{p q:Nat}(h1:aD cl a ρ=some (.int (p:Int)))(h2:aD cl b ρ=some (.int (q:Int))):aD cl (.cmp .Eq a b) ρ=some (.bool (p==q)):=dD h1 h2 ((show _=(if l3 (.int (p:Int)) (.int (q:Int))=true then some (PyData.bool (PyData.eqv (.int (p:Int)) (.int (q:Int))))else none)from rfl).trans (by rw[lR rfl,if_pos rfl,FV.eqv]))
theorem AM(h:aD cl a ρ=some d):aD cl (.list (.cons a .nil)) ρ=some (.list [d]):=congrArg (Option.map _) (y8 h)
theorem oE(h1:aD cl a ρ=some d)(h2:aD cl b ρ=some d'):aD cl (.list (.cons a (.cons b .nil))) ρ=some (.list [d,d']):=congrArg (Option.map _) (OL h1 h2)
theorem wT{c:Nat}{w:List Nat}(h1:aD cl a ρ=some (wD c))(h2:aD cl b ρ=some (aU w)):aD cl (.cmp .NotIn a b) ρ=some (.bool (!w.contains c)):=dD h1 h2 (yI yM c w)
theorem KP{n:List Nat}{M:List (List Nat)}(h1:aD cl a ρ=some (sD n))(h2:aD cl b ρ=some (fB M)):aD cl (.cmp .In a b) ρ=some (.bool (M.contains n)):=dD h1 h2 (TZ rT n M)
theorem lS{n:List Nat}{M:List (List Nat)}(h1:aD cl a ρ=some (sD n))(h2:aD cl b ρ=some (fB M)):aD cl (.cmp .NotIn a b) ρ=some (.bool (!M.contains n)):=dD h1 h2 (yI rT n M)
theorem RI{α:Type} [BEq α] (l:List α):(l==[])=l.isEmpty:=by cases l <;> rfl
end
noncomputable def sO:Nat→mG→mG
 | 0,ss=>ss
 | n+1,ss=>match ss with | .nil=>.nil | .cons _ r=>sO n r
section
variable{l:Nat}{S:List Nat}
noncomputable abbrev Bc:PE:=.comp (.var 10) (.one 10) (.of (.var 8)) (.yes (.cmp .NotIn (.var 10) (.slc (.var 1) (.yes (.idx (.var 4) (.lit (.int 0)))) (.yes (.bin .Add (.idx (.var 4) (.lit (.int 0))) (.lit (.int 2))))))) .nil
theorem U2{cl:Nat→List PyData→Option PyData}(hS:S8 S){L:List Rl}{j k:Nat}{w:List Nat}{x3 x5 x6 x7 x9 x11:Option PyData}(hk:k<8∧k%2=0)(hw:w.length≤100) :
  aD cl Bc (cE L S j x3 (some (r7 [k])) x5 x6 x7 (some (aU w)) x9 x11)=some (aU (w.filter fun c=>!([S.getD k 0,S.getD (k+1) 0]:List Nat).contains c)):=by
 obtain⟨p,hp,rfl⟩:∃ p,p<4∧k=2*p:=⟨k / 2,hf k hk.1,(k8 k hk.1 hk.2).2.2.2.symm⟩
 have h0:∀{ρ:aL},aD cl (.var 4) ρ=some (r7 [2*p])→aD cl (.idx (.var 4) (.lit (.int 0))) ρ=some (.int ((2*p:Nat):Int)):=fun h=>fG (p:=0) h rfl (by decide) rfl
 have hs:∀{ρ:aL},aD cl (.var 1) ρ=some (aU S)→aD cl (.var 4) ρ=some (r7 [2*p])→aD cl (.slc (.var 1) (.yes (.idx (.var 4) (.lit (.int 0)))) (.yes (.bin .Add (.idx (.var 4) (.lit (.int 0))) (.lit (.int 2))))) ρ=some (aU [S.getD (2*p) 0,S.getD (2*p+1) 0]):=fun h1 h4 =>
  (rU (w:=S) (p:=2*p) (q:=2*p+2) (k:=2) h1 (h0 h4) (eX (h0 h4) (q:=2) rfl) rfl (Nat.le_trans (Nat.add_le_add_right (Nat.mul_le_mul_left 2 (Nat.le_of_lt hp)) 2) (by decide))).trans (by rw[o8 hS.len hp])
 exact dA (k:=wD) (g:=wD) (as:=w) rfl (fun c _=>gG (wT rfl (hs rfl rfl))) (fun c _ _=>rfl) (Nat.le_trans hw (by decide))
noncomputable abbrev SQ:PE:=.comp (.var 12) (.one 12) (.of (.var 0)) (.yes (.cmp .Eq (.comp (.var 10) (.one 10) (.of (.idx (.var 12) (.lit (.int 0)))) (.yes (.cmp .NotIn (.var 10) (.var 9))) .nil) (.list .nil))) .nil
theorem Q1{cl:Nat→List PyData→Option PyData}{L:List Rl}{j:Nat}{row:List Nat}{x3 x4 x5 x6 x7 x8 x11:Option PyData}(hL:L.length≤100)(hr:∀ ru∈L,ru.1.length≤8) :
  aD cl SQ (cE L S j x3 x4 x5 x6 x7 x8 (some (aU row)) x11)=some (jD (j4 L row)):=by
 refine(dA (k:=bA) (g:=bA) (p:=fun ru=>(ru.1.filter fun w=>!row.contains w)==[]) (as:=L) rfl (fun ru hru=>gG ?_) (fun c _ _=>rfl) (Nat.le_trans hL (by decide)))
 refine(tY (dA (k:=wD) (g:=wD) (p:=fun w=>!row.contains w) (as:=ru.1) (l9 (qE rfl)) (fun c _=>gG (wT rfl rfl)) (fun c _ _=>rfl) (Nat.le_trans (hr ru hru) (by decide)))).trans ?_
 rw[RI]
 cases ru.1.filter fun w=>!row.contains w <;> rfl
noncomputable abbrev TS:PE:=.comp (.var 13) (.one 13) (.of (.idx (.var 6) (.lit (.int 1)))) (.yes (.cmp .In (.var 13) (.idx (.var 7) (.lit (.int 1))))) .nil
theorem V2{cl:Nat→List PyData→Option PyData}{L:List Rl}{j:Nat}{a b:Rl}{x3 x4 x5 x8 x9 x11:Option PyData}(ha:a.2.length≤16) :
  aD cl TS (cE L S j x3 x4 x5 (some (bA a)) (some (bA b)) x8 x9 x11)=some (fB (a.2.filter b.2.contains)) :=
 dA (k:=sD) (g:=sD) (p:=b.2.contains) (as:=a.2) (l9 (EC rfl)) (fun n _=>gG (KP rfl (EC rfl))) (fun n _ _=>rfl) (Nat.le_trans ha (by decide))
theorem Z2(r:List Nat)(h:r.length≤1000):bH aY iL 1002 (l+1) 6 [aU r]=some (aU (uW r [])):=rX yM rfl r h
theorem Z3(M:List (List Nat))(h:M.length≤1000):bH aY iL 1002 (l+1) 6 [fB M]=some (fB (uW M [])):=rX rT rfl M h
def CS(L:List Rl)(S:List Nat)(j:Nat)(ρ:aL):Prop:=∃ x3 x4 x5 x6 x7 x8 x9 x11,ρ=cE L S j x3 x4 x5 x6 x7 x8 x9 x11
theorem CS.mk{L:List Rl}{j:Nat}{x3 x4 x5 x6 x7 x8 x9 x11:Option PyData}:CS L S j (cE L S j x3 x4 x5 x6 x7 x8 x9 x11):=⟨_,_,_,_,_,_,_,_,rfl⟩
theorem CS.to{L:List Rl}{j:Nat}{ρ:aL}{P:aL→Prop}(h:CS L S j ρ)(k:∀{x3 x4 x5 x6 x7 x8 x9 x11},P (cE L S j x3 x4 x5 x6 x7 x8 x9 x11)):P ρ:=by
 obtain⟨_,_,_,_,_,_,_,_,rfl⟩:=h
 exact k
theorem RY{α β:Type}{f:α→List β}{a b:α}{c:Nat}(ha:(f a).length≤c)(hb:(f b).length≤c)(hc:c≤16):(f a).length+(f b).length≤100:=Nat.le_trans (Nat.add_le_add (Nat.le_trans ha hc) (Nat.le_trans hb hc)) (by decide)
section
variable{L:List Rl}{a b:Rl}{j k:Nat}{x3 x4 x5 x6 x7 x8 x9 x11:Option PyData}{o:List Nat}
theorem V1(ma:a.2.length≤16)(mb:b.2.length≤16):∃ f:List Nat→List Nat,∀ o,oX (bH aY iL 1002 (l+1)) 1002 (.ife (.cmp .Eq (.idx (.var 4) (.lit (.int 0))) (.lit (.int 0))) (.cons (.assign 11 (.call 6 (.cons (.bin .Add (.idx (.var 6) (.lit (.int 1))) (.idx (.var 7) (.lit (.int 1)))) .nil))) .nil) (.cons (.assign 11 TS) .nil))
  ⟨cE L S j x3 (some (r7 [k])) x5 (some (bA a)) (some (bA b)) x8 x9 x11,o⟩=some (.next ⟨cE L S j x3 (some (r7 [k])) x5 (some (bA a)) (some (bA b)) x8 x9 (some (fB (oZ k a.2 b.2))),f o⟩):=by
 have e:aD (bH aY iL 1002 (l+1)) (.cmp .Eq (.idx (.var 4) (.lit (.int 0))) (.lit (.int 0))) (cE L S j x3 (some (r7 [k])) x5 (some (bA a)) (some (bA b)) x8 x9 x11)=some (.bool (k==0)):=xP (q:=0) (fG (l:=[k].map fun k:Nat=>.int (k:Int)) (p:=0) rfl rfl (by decide) rfl) rfl
 have hs:=RY (f:=fun x:Rl=>x.2) ma mb (by decide)
 unfold oZ
 by_cases h0:k=0
 ·rw[if_pos h0]
  exact⟨_,fun o=>(xC e (by rw[h0]; rfl)).trans (cO (bK (gN (f:=6) (mW (D:=sD) (EC (ru:=a) rfl) (EC (ru:=b) rfl) (Nat.le_trans hs (by decide))) (Z3 (l:=l) (a.2++b.2) (by rw[List.length_append]; exact Nat.le_trans hs (by decide))))))⟩
 ·rw[if_neg h0]
  exact⟨_,fun o=>(iQ e (show bT (.bool (k==0))=some false from congrArg some (beq_false_of_ne h0))).trans (cO (bK (V2 ma)))⟩
theorem B9{ρ:aL}{os:List Nat}{cl:Nat→List PyData→Option PyData}(h:aD cl (.var 4) ρ=some (r7 os)):aD cl (.cmp .Eq (.bi .len (.cons (.var 4) .nil)) (.lit (.int 1))) ρ=some (.bool (os.length==1)):=xP (q:=1) ((pH h).trans (by rw[List.length_map])) rfl
theorem K4(hS:S8 S)(hk:k<8∧k%2=0)(hL:L.length≤100)(hr:∀ ru∈L,ru.1.length≤8)(ra:a.1.length≤8)(rb:b.1.length≤8)(ma:a.2.length≤16)(mb:b.2.length≤16) :
  ∃ σ,b6 (bH aY iL 1002 (l+1)) 1002 (sO 3 qI) ⟨cE L S j x3 (some (r7 [k])) x5 (some (bA a)) (some (bA b)) x8 x9 x11,o⟩=some (.next σ)∧CS (if j4 L (f8 (S.getD · 0) k a.1 b.1)=[]then L++[(f8 (S.getD · 0) k a.1 b.1,oZ k a.2 b.2)]else L) S j σ.env:=by
 have hs:=RY (f:=fun x:Rl=>x.1) ra rb (by decide)
 have hw:(uW (a.1++b.1) []).length≤100:=Nat.le_trans (WR _ _) (by rw[List.length_nil,List.length_append,Nat.zero_add]; exact hs)
 have e10:=tY (Q1 (S:=S) (cl:=bH aY iL 1002 (l+1)) (j:=j) (row:=f8 (S.getD · 0) k a.1 b.1) (x3:=x3) (x4:=some (r7 [k])) (x5:=x5) (x6:=some (bA a)) (x7:=some (bA b)) (x8:=some (aU (uW (a.1++b.1) []))) (x11:=x11) hL hr)
 have into:∀{τ:dY}{o':List Nat→List Nat},(∀ o,b6 (bH aY iL 1002 (l+1)) 1002 (.cons (.ife (.cmp .Eq SQ (.list .nil)) (.cons (.ife (.cmp .Eq (.idx (.var 4) (.lit (.int 0))) (.lit (.int 0))) (.cons (.assign 11 (.call 6 (.cons (.bin .Add (.idx (.var 6) (.lit (.int 1))) (.idx (.var 7) (.lit (.int 1)))) .nil))) .nil) (.cons (.assign 11 TS) .nil)) (.cons (.assign 0 (.bin .Add (.var 0) (.list (.cons (.list (.cons (.var 9) (.cons (.var 11) .nil))) .nil)))) .nil)) .nil) .nil)
   ⟨cE L S j x3 (some (r7 [k])) x5 (some (bA a)) (some (bA b)) (some (aU (uW (a.1++b.1) []))) (some (aU (f8 (S.getD · 0) k a.1 b.1))) x11,o⟩=some (.next ⟨τ.env,o' o⟩))→CS (if j4 L (f8 (S.getD · 0) k a.1 b.1)=[]then L++[(f8 (S.getD · 0) k a.1 b.1,oZ k a.2 b.2)]else L) S j τ.env →
   ∃ σ,b6 (bH aY iL 1002 (l+1)) 1002 (sO 3 qI) ⟨cE L S j x3 (some (r7 [k])) x5 (some (bA a)) (some (bA b)) x8 x9 x11,o⟩=some (.next σ)∧CS (if j4 L (f8 (S.getD · 0) k a.1 b.1)=[]then L++[(f8 (S.getD · 0) k a.1 b.1,oZ k a.2 b.2)]else L) S j σ.env:=fun h c =>
  ⟨_,cO ((xC (B9 (os:=[k]) rfl) rfl).trans ((aF (bK (gN (f:=6) (mW (D:=wD) (qE (a:=.var 6) (ru:=a) rfl) (qE (a:=.var 7) (ru:=b) rfl) (Nat.le_trans hs (by decide))) (Z2 (l:=l) (a.1++b.1) (by rw[List.length_append]; exact Nat.le_trans hs (by decide)))))).trans ((aF (bK (U2 hS hk hw))).trans (h _)))),c⟩
 by_cases hg:j4 L (f8 (S.getD · 0) k a.1 b.1)=[]
 ·rw[if_pos hg]at into ⊢
  rw[hg]at e10
  obtain⟨f,s11⟩:=V1 (l:=l) (S:=S) (L:=L) (j:=j) (k:=k) (x3:=x3) (x5:=x5) (x8:=some (aU (uW (a.1++b.1) []))) (x9:=some (aU (f8 (S.getD · 0) k a.1 b.1))) (x11:=x11) ma mb
  exact into (τ:=⟨_,[]⟩) (fun o=>cO ((xC e10 rfl).trans ((aF (s11 o)).trans (cO (bK (mW (D:=bA) (a:=.var 0) (x:=L) (y:=[(f8 (S.getD · 0) k a.1 b.1,oZ k a.2 b.2)]) rfl (AM (oE (a:=.var 9) (b:=.var 11) rfl rfl)) (Nat.le_trans (Nat.succ_le_succ hL) (by decide)))))))) CS.mk
 ·rw[if_neg hg]at into ⊢
  refine into (τ:=⟨_,[]⟩) (o':=id) (fun o=>cO ((iQ e10 (show bT (.bool ((j4 L (f8 (S.getD · 0) k a.1 b.1)).map bA).isEmpty)=some false from congrArg some ?_)).trans rfl)) CS.mk
  cases hgl:j4 L (f8 (S.getD · 0) k a.1 b.1)with
  | nil=>exact absurd hgl hg
  | cons _ _=>rfl
theorem GO(hS:S8 S){i:Nat}(hi:L[i]? = some a)(hj:L[j]? = some b)(hL:L.length≤100):∃ x5' o',b6 (bH aY iL 1002 (l+1)) 1002 qI ⟨cE L S j (some (.int (i:Int))) x4 x5 x6 x7 x8 x9 x11,o⟩ =
  b6 (bH aY iL 1002 (l+1)) 1002 (sO 3 qI) ⟨cE L S j (some (.int (i:Int))) (some (r7 (mI (S.getD · 0) a.1 b.1))) x5' (some (bA a)) (some (bA b)) x8 x9 x11,o'⟩:=by
 have g:∀{ρ:aL}{e:PE}{i:Nat}{a:Rl},L[i]? = some a→aD (bH aY iL 1002 (l+1)) (.var 0) ρ=some (jD L)→aD (bH aY iL 1002 (l+1)) e ρ=some (.int (i:Int))→aD (bH aY iL 1002 (l+1)) (.idx (.var 0) e) ρ=some (bA a):=fun h h0 h1 =>
  fG h0 h1 (Nat.le_trans (Nat.le_of_lt (List.getElem?_eq_some_iff.mp h).1) (Nat.le_trans hL (by decide))) (by rw[List.getElem?_map,h]; rfl)
 obtain⟨x5',o3,s3⟩:=MP (cl:=bH aY iL 1002 (l+1)) (F:=1002) (L:=L) (a:=a) (b:=b) (j:=j) (x3:=some (.int (i:Int))) (x5:=x5) (x8:=x8) (x9:=x9) (x11:=x11) (o:=4::(lose (w4 (w4 ⟨cE L S j (some (.int (i:Int))) x4 x5 x6 x7 x8 x9 x11,o⟩ 6 (bA a) (bP (bP o (bA a) (.idx (.var 0) (.var 3))) (bA b) (.idx (.var 0) (.var 2))) false) 7 (bA b) (w4 ⟨cE L S j (some (.int (i:Int))) x4 x5 x6 x7 x8 x9 x11,o⟩ 6 (bA a) (bP (bP o (bA a) (.idx (.var 0) (.var 3))) (bA b) (.idx (.var 0) (.var 2))) false).own false).own []).filter (· != 4)) hS (List.contains_iff_mem.mpr (.head _))
 exact⟨x5',o3,(aF (EJ (g hi rfl rfl) (g hj rfl rfl))).trans ((aF (bK (d:=.list []) rfl)).trans (aF s3))⟩
theorem turn(hS:S8 S){i:Nat}{σ:dY}(hc:CS L S j σ.env)(hi:L[i]? = some a)(hj:L[j]? = some b)(hL:L.length≤100)(hr:∀ ru∈L,ru.1.length≤8∧ru.2.length≤16) :
  ∃ τ,b6 (bH aY iL 1002 (l+1)) 1002 qI ⟨σ.env.set 3 (some (.int (i:Int))),lose σ.own [3]⟩=some (.next τ)∧CS (BE (S.getD · 0) L a b) S j τ.env:=by
 obtain⟨ra,ma⟩:=hr a (List.mem_of_getElem? hi)
 obtain⟨rb,mb⟩:=hr b (List.mem_of_getElem? hj)
 refine hc.to (P:=fun ρ=>∃ τ,b6 (bH aY iL 1002 (l+1)) 1002 qI ⟨ρ.set 3 (some (.int (i:Int))),lose σ.own [3]⟩=some (.next τ)∧CS (BE (S.getD · 0) L a b) S j τ.env) fun{x3 x4 x5 x6 x7 x8 x9 x11}=>?_
 obtain⟨x5',o3,h⟩:=GO (l:=l) (x4:=x4) (x5:=x5) (x6:=x6) (x7:=x7) (x8:=x8) (x9:=x9) (x11:=x11) (o:=lose σ.own [3]) hS hi hj hL
 unfold BE
 match ho:mI (S.getD · 0) a.1 b.1 with
 | []=>exact⟨_,h.trans (cO (iQ (B9 (congrArg (fun os=>some (r7 os)) ho)) rfl)),CS.mk⟩
 | k::q::os=>exact⟨_,h.trans (cO (iQ (B9 (congrArg (fun os=>some (r7 os)) ho)) rfl)),CS.mk⟩
 | [k] =>
  obtain⟨τ,h2,c⟩:=K4 (l:=l) (L:=L) (j:=j) (x3:=some (.int (i:Int))) (x5:=x5') (x8:=x8) (x9:=x9) (x11:=x11) (o:=o3) hS (B4 ho).1 hL (fun ru h=>(hr ru h).1) ra rb ma mb
  rw[ho]at h
  exact⟨τ,h.trans h2,c⟩
end
end
def BG(s:Nat→Nat)(L:List Rl)(i j:Nat):Prop:=∀ a b,L[i]? = some a→L[j]? = some b→Cl s L a.1 b.1
theorem BG.app{s:Nat→Nat}{L L':List Rl}{i j:Nat}(h:BG s L i j)(p:L <+: L')(hi:i<j)(hj:j<L.length):BG s L' i j:=by
 obtain⟨l,rfl⟩:=p
 intro a b ha hb
 rw[List.getElem?_append_left (Nat.lt_trans hi hj)]at ha
 rw[List.getElem?_append_left hj]at hb
 exact(h a b ha hb).mono fun ru h=>List.mem_append_left _ h
theorem DE(n:Nat):cY (-1) (n+1)=some n:=by
 have h:cY (-1) (n+1)=(if 0≤(-1:Int)+((n+1:Nat):Int)then some ((-1:Int)+((n+1:Nat):Int)).toNat else none):=by kernel_rfl
 have e:(-1:Int)+((n+1:Nat):Int)=(n:Int):=by rw[Int.natCast_add,Int.add_comm,Int.add_assoc]; exact Int.add_zero _
 rw[h,e,if_pos (Int.natCast_nonneg _),Int.toNat_natCast]
section
variable{cl:Nat→List PyData→Option PyData}{ρ:aL}{a b:PE}
theorem NC{l:List PyData}{x:PyData}(h:aD cl a ρ=some (.list (l++[x]))):aD cl (.idx a (.neg (.lit (.int 1)))) ρ=some x:=by
 refine yQ (y:=.int (-1)) h rfl ?_
 rw[wP,List.length_append]
 show(cY (-1) (l.length+1)).bind ((l++[x])[·]?)=_
 rw[DE]
 exact List.getElem?_concat_length
end
section
variable{l:Nat}{S:List Nat}{N R0 R1:List (List Nat)}{I:List Rl}
theorem sE.sizes{s:Nat→Nat}{L:List Rl}(G:sE s N R0 R1 I L)(hI:I.length≤6):L.length≤87∧∀ ru∈L,ru.1.length≤8∧ru.2.length≤16 :=
 ⟨Nat.le_trans G.len (Nat.add_le_add_right hI 81),fun ru h=>⟨JU (G.inv ru h).wf,(G.inv ru h).len⟩⟩
theorem QX(hS:S8 S)(hN:N.length≤16)(hI:I.length≤6){j:Nat}(ks:List Nat):∀{L:List Rl}{σ:dY},CS L S j σ.env→sE (S.getD · 0) N R0 R1 I L→(∀ k∈ks,k<j)→j<L.length →
  ∃ L' σ',dJ (b6 (bH aY iL 1002 (l+1)) 1002 qI) (fun d τ=>(fO (.one 3) d τ.env).map fun ρ=>{ env:=ρ,own:=lose τ.own (bU (.one 3)) }) (ks.map fun k:Nat=>.int ((0+k:Nat):Int)) σ=some (.next σ') ∧
   CS L' S j σ'.env∧L <+: L'∧sE (S.getD · 0) N R0 R1 I L'∧∀ k∈ks,BG (S.getD · 0) L' k j:=by
 induction ks with
 | nil=>exact fun{L σ}hc G _ _=>⟨L,σ,rfl,hc,List.prefix_refl L,G,nofun⟩
 | cons k ks ih =>
  intro L σ hc G hk hj
  have hkj:=hk k (.head _)
  have hkl:=Nat.lt_trans hkj hj
  obtain⟨τ,h1,C1⟩:=turn (l:=l) hS hc (List.getElem?_eq_getElem hkl) (List.getElem?_eq_getElem hj) (Nat.le_trans (G.sizes hI).1 (by decide)) (G.sizes hI).2
  obtain⟨p1,G1,c1⟩:=NR hS.inj hN G (List.getElem_mem hkl) (List.getElem_mem hj)
  have hj1:=Nat.lt_of_lt_of_le hj p1.length_le
  obtain⟨L',σ',h2,C2,p2,G2,c2⟩:=ih C1 G1 (fun x hx=>hk x (.tail _ hx)) hj1
  refine⟨L',σ',?_,C2,p1.trans p2,G2,fun x hx=>(List.mem_cons.mp hx).elim (fun e=>e▸?_) (c2 x)⟩
  ·rw[List.map_cons,Nat.zero_add]
   exact(eW rfl h1).trans h2
  ·refine BG.app (fun a b ha hb=>?_) p2 hkj hj1
   obtain⟨l1,e1⟩:=p1
   rw[← e1,List.getElem?_append_left hkl,List.getElem?_eq_getElem hkl]at ha
   rw[← e1,List.getElem?_append_left hj,List.getElem?_eq_getElem hj]at hb
   cases ha; cases hb
   exact c1
theorem SW{cl:Nat→List PyData→Option PyData}{ρ:aL}{a b:PE}{p q:Nat}(h1:aD cl a ρ=some (.int (p:Int)))(h2:aD cl b ρ=some (.int (q:Int))):aD cl (.cmp .Lt a b) ρ=some (.bool (decide (p<q))):=CI h1 h2 rfl
theorem WV{cl:Nat→List PyData→Option PyData}{L:List Rl}{j:Nat}{ρ:aL}(hc:CS L S j ρ)(hL:L.length≤87)(hne:L≠[]):∃ ru∈L,aD cl EF ρ=some (.bool (decide (j<L.length) && !ru.1.isEmpty)):=by
 obtain⟨l0,ru,e⟩:=(List.eq_nil_or_concat L).resolve_left hne
 rw[List.concat_eq_append]at e
 have v0:aD cl (.var 0) ρ=some (jD L):=hc.to (P:=fun ρ=>aD cl (.var 0) ρ=_) rfl
 have v2:aD cl (.var 2) ρ=some (.int (j:Int)):=hc.to (P:=fun ρ=>aD cl (.var 2) ρ=_) rfl
 have hl:aD cl (.bi .len (.cons (.var 0) .nil)) ρ=some (.int (L.length:Int)):=(pH v0).trans (by rw[List.length_map])
 have h9:(decide (L.length<99) && !(ru.1.map wD).isEmpty) = !ru.1.isEmpty:=by
  rw[decide_eq_true (Nat.lt_of_le_of_lt hL (by decide)),Bool.true_and]
  cases ru.1 <;> rfl
 exact⟨ru,e▸List.mem_append_right _ (.head _),(hH (SW v2 hl) (hH (SW (b:=.lit (.int 99)) (q:=99) hl rfl) (oD (qE (ru:=ru) (NC (l:=l0.map bA) (v0.trans (by rw[jD,e,List.map_append]; rfl))))))).trans (by rw[h9])⟩
theorem WW(hS:S8 S)(hN:N.length≤16)(hI:I.length≤6)(n:Nat):∀{j:Nat}{L:List Rl}{σ:dY},CS L S j σ.env→sE (S.getD · 0) N R0 R1 I L→L≠[]→j≤L.length→(∀ j',j'<j→∀ i,i<j'→BG (S.getD · 0) L i j')→88≤n+j →
  ∃ L' j' σ',dK (fun τ=>(aD (bH aY iL 1002 (l+1)) EF τ.env).bind bT) (b6 (bH aY iL 1002 (l+1)) 1002 JO) n σ=some (.next σ')∧CS L' S j' σ'.env ∧
   sE (S.getD · 0) N R0 R1 I L'∧(∀ ru∈L,ru∈L')∧((∃ ru∈L',ru.1=[])∨∀ j',j'<L'.length→∀ i,i<j'→BG (S.getD · 0) L' i j'):=by
 induction n with
 | zero=>exact fun{j L σ}_ G _ hj _ hn=>absurd (Nat.le_trans (Nat.le_trans (Nat.zero_add j▸hn) hj) (G.sizes hI).1) (by decide)
 | succ n ih =>
  intro j L σ hC G hne hj hc hn
  obtain⟨ru,hru,ht⟩:=WV (cl:=bH aY iL 1002 (l+1)) hC (G.sizes hI).1 hne
  by_cases hlt:j<L.length
  ·rw[decide_eq_true hlt,Bool.true_and]at ht
   cases he:ru.1.isEmpty with
   | true =>
    rw[he]at ht
    exact⟨L,j,σ,BH (congrArg (Option.bind · bT) ht),hC,G,fun _ h=>h,.inl ⟨ru,hru,List.isEmpty_iff.mp he⟩⟩
   | false =>
    rw[he]at ht
    obtain⟨L1,τ,h1,C1,p1,G1,c1⟩:=QX (l:=l) (σ:={ σ with own:=lose σ.own (cT SN) }) hS hN hI (List.range j) hC G (fun k hk=>List.mem_range.mp hk) hlt
    obtain⟨L',j',σ',h2,C2,G2,sub,c2⟩:=ih (j:=j+1) (σ:=⟨τ.env.set 2 (some (.int ((j+1:Nat):Int))),τ.own.filter (· != 2)⟩) (C1.to (P:=fun ρ=>CS L1 S (j+1) (ρ.set 2 _)) CS.mk) G1 (fun e=>hne (List.prefix_nil.mp (e▸p1))) (Nat.lt_of_lt_of_le hlt p1.length_le)
     (fun j' hj' i hi=>(Nat.lt_succ_iff_lt_or_eq.mp hj').elim (fun h=>(hc j' h i hi).app p1 hi (Nat.lt_of_lt_of_le h hj)) fun e=>by subst e; exact c1 i (List.mem_range.mpr hi)) (Nat.le_trans hn (Nat.le_of_eq (Nat.succ_add_eq_add_succ n j)))
    refine⟨L',j',σ',(EK (congrArg (Option.bind · bT) ht) ((aF ((kM (tE (a:=.var 2) (q:=j) (hC.to (P:=fun ρ=>aD _ (.var 2) ρ=_) rfl) (Nat.le_trans hj (Nat.le_trans (G.sizes hI).1 (by decide))))).trans h1)).trans (cO (lB (p:=j) (q:=1) (C1.to (P:=fun ρ=>bC ρ 2=_) rfl) rfl)))).trans h2,C2,G2,fun ru h=>sub ru (p1.subset h),c2⟩
  ·rw[decide_eq_false hlt]at ht
   exact⟨L,j,σ,BH (congrArg (Option.bind · bT) ht),hC,G,fun _ h=>h,.inr fun j' hj'=>hc j' (Nat.lt_of_lt_of_le hj' (Nat.not_lt.mp hlt))⟩
theorem DR(hS:S8 S)(hN:N.length≤16)(hI:I.length≤6)(hne:I≠[])(h:∀ ru∈I,q8 (S.getD · 0) N R0 R1 ru)(hall:∀ β,B2 β→gR (S.getD · 0) β∈R0∨gR (S.getD · 0) β∈R1→∃ ru∈I,Tk (S.getD · 0) ru.1 β) :
  ∃ L,bH aY iL 1002 (l+2) 4 [jD I,aU S]=some (jD L)∧L.length≤87∧(∀ ru∈L,q8 (S.getD · 0) N R0 R1 ru)∧((∃ ru∈L,ru.1=[])↔∀ β,B2 β→gR (S.getD · 0) β∈R0∨gR (S.getD · 0) β∈R1):=by
 obtain⟨L,j',σ,h1,C,G,sub,hc⟩:=WW (l:=l) (j:=0) (σ:=⟨cE I S 0 none none none none none none none none,[]⟩) hS hN hI 1002 CS.mk ⟨h,[],(List.append_nil _).symm,List.nodup_nil⟩ hne (Nat.zero_le _) (fun _ h=>absurd h (Nat.not_lt_zero _)) (by decide)
 refine⟨L,mO (pf:=Ch) rfl rfl ((aF (show oX (bH aY iL 1002 (l+1)) 1002 (.assign 2 (.lit (.int 0))) ⟨dE 14 [jD I,aU S],[]⟩=some (.next ⟨cE I S 0 none none none none none none none none,[]⟩)from rfl)).trans ((aF (show oX (bH aY iL 1002 (l+1)) 1002 (.while_ EF JO) _=_ from h1)).trans (pY (C.to (P:=fun ρ=>aD _ (.var 0) ρ=_) rfl)))),(G.sizes hI).1,G.inv,fun⟨ru,hru,he⟩β hβ=>?_,fun hcov=>hc.elim id fun hc=>?_⟩
 ·have R:=G.inv ru hru
  by_cases h0:gR (S.getD · 0) β∈R0
  ·exact .inl h0
  ·by_cases h1:gR (S.getD · 0) β∈R1
   ·exact .inr h1
   ·exact absurd (fun k _ _ hk=>by rw[he]at hk; cases hk) (R.p2 β hβ h1 (R.p1 β hβ h0 fun k _ hk=>by rw[he]at hk; cases hk))
 ·exact NK (fun ru h=>(G.inv ru h).wf) (fun i j hi hj hij=>hc j hj i hij _ _ (List.getElem?_eq_getElem hi) (List.getElem?_eq_getElem hj)) fun β hβ=>let⟨ru,h,t⟩:=hall β hβ (hcov β hβ); ⟨ru,sub ru h,t⟩
end
section
variable{s:Nat→Nat}{r:List Nat}{N R0 R1 R0' R1':List (List Nat)}
theorem q8.mono{ru:Rl}(h:q8 s N R0 R1 ru)(h0:∀ n∈R0,n∈R0')(h1:∀ n∈R1,n∈R1'):q8 s N R0' R1' ru :=
 ⟨h.wf,h.len,h.sub,fun β hβ hn=>h.p1 β hβ fun h=>hn (h0 _ h),fun β hβ hn=>h.p2 β hβ fun h=>hn (h1 _ h),h.p3⟩
theorem ZH(hs:∀ i j,i<8→j<8→s i=s j→i=j){β γ:Nat→Nat}(hβ:B2 β)(hγ:B2 γ)(e:gR s β=gR s γ){k:Nat}(hk:k<8):k%2=β (k / 2)↔k%2=γ (k / 2):=by rw[← KF hs hβ hk,← KF hs hγ hk,e]
theorem vS(hs:∀ i j,i<8→j<8→s i=s j→i=j)(hw:A7 s r)(ps:List Nat){β:Nat→Nat}(hβ:B2 β):gR s β∈NU s (NW s r ps)↔∀ k,k<8→k / 2∈ps→s k∈r→k%2=β (k / 2):=by
 refine(BK hw ps.contains).trans ⟨fun⟨γ,hγ,e,h⟩k hk hp hm=>(ZH hs hβ hγ e hk).mpr (h k hk (List.contains_iff_mem.mpr hp) hm),fun h=>⟨β,hβ,rfl,fun k hk hp=>h k hk (List.contains_iff_mem.mp hp)⟩⟩
theorem EO{qs:List Nat}(hw:A7 s r){n:List Nat}(h:n∈NU s (NW s r qs)):n∈eO s:=let⟨β,hβ,e,_⟩:=(BK hw qs.contains).mp h; eU.mpr ⟨β,hβ,e⟩
theorem tS(hs:∀ i j,i<8→j<8→s i=s j→i=j)(hw:A7 s r){β:Nat→Nat}(hβ:B2 β):gR s β∈NU s (NW s r [0,1,2,3])↔Tk s r β :=
 (vS hs hw _ hβ).trans ⟨fun h k hk hm=>h k hk ((show ∀ k<8,k / 2∈[0,1,2,3] by decide) k hk) hm,fun h k hk _ hm=>h k hk hm⟩
end
noncomputable def sM(S:List Nat)(q X:Nat):List (List Nat):=if q=0 then NU (S.getD · 0) (NW (S.getD · 0) (oY S q X) [1,2])else []
noncomputable def gY(S:List Nat)(q X:Nat):List (List Nat):=NU (S.getD · 0) (NW (S.getD · 0) (oY S q X) [0,1,2,3])
noncomputable def qF(S:List Nat)(q X:Nat):Rl:=(oY S q X,(eO (S.getD · 0)).filter fun n=>!(sM S q X).contains n)
theorem NH{S:List Nat}(hS:S8 S){q X:Nat}(hq:q≤1){R0 R1:List (List Nat)}(h0:q=0→∀ n∈gY S q X,n∈R0)(h1:q=1→∀ n∈gY S q X,n∈R1):q8 (S.getD · 0) (eO (S.getD · 0)) R0 R1 (qF S q X):=by
 have hw:=BO hS (X:=X) hq
 have hpl:∀{k},k<8→S.getD k 0∈oY S q X→q≤k / 2∧k / 2≤q+2:=fun hk h=>(gL hq (yB hS hk hq h)).2.2.2
 have hm:∀{n},n∈(qF S q X).2↔n∈eO (S.getD · 0)∧n∉sM S q X:=fun{n}=>by
  show n∈List.filter _ _↔_
  rw[List.mem_filter,Bool.not_eq_true',Bool.eq_false_iff,ne_eq,List.contains_iff_mem]
 have hn:∀{β},B2 β→gR (S.getD · 0) β∈eO (S.getD · 0):=fun h=>eU.mpr ⟨_,h,rfl⟩
 have hg:∀{β},B2 β→(gR (S.getD · 0) β∈sM S q X↔q=0∧∀ k,k<8→k / 2∈[1,2]→S.getD k 0∈oY S q X→k%2=β (k / 2)):=fun hβ=>by
  unfold sM
  by_cases e:q=0
  ·rw[if_pos e]
   exact(vS hS.inj hw [1,2] hβ).trans ⟨fun h=>⟨e,h⟩,And.right⟩
  ·rw[if_neg e]
   exact⟨fun h=>(nomatch h),fun h=>absurd h.1 e⟩
 refine⟨hw,Nat.le_trans (List.length_filter_le _ _) (kN _ _),fun n h=>(hm.mp h).1,fun β hβ hb hr=>hm.mpr ⟨hn hβ,fun h=>?_⟩,fun β hβ hb hmem hr=>?_,fun β γ hβ hγ e1 e2 hmem=>hm.mpr ⟨hn hγ,fun h=>(hm.mp hmem).2 ((hg hβ).mpr ?_)⟩⟩
 ·obtain⟨e,h⟩:=(hg hβ).mp h
  refine hb (h0 e _ ((tS hS.inj hw hβ).mpr fun k hk hx=>?_))
  by_cases h2:k<2
  ·exact hr k h2 hx
  ·exact h k hk ((show ∀ k<8,¬k<2→k / 2≤2→k / 2∈[1,2] by decide) k hk h2 (Nat.le_trans (hpl hk hx).2 (by rw[e]; decide))) hx
 ·by_cases e:q=0
  ·exact(hm.mp hmem).2 ((hg hβ).mpr ⟨e,fun k hk hp hx=>hr k hk ((show ∀ k<8,k / 2∈[1,2]→2≤k by decide) k hk hp) hx⟩)
  ·have e:=(l8 (Nat.lt_succ_of_le hq)).resolve_left e
   exact hb (h1 e _ ((tS hS.inj hw hβ).mpr fun k hk hx=>hr k hk ((show ∀ k<8,1≤k / 2→2≤k by decide) k hk (e▸(hpl hk hx).1)) hx))
 ·obtain⟨e,h⟩:=(hg hγ).mp h
  exact⟨e,fun k hk hp hx=>(h k hk hp hx).trans ((List.mem_cons.mp hp).elim (fun e=>by rw[e,e1]) fun h=>by rw[List.mem_singleton.mp h,e2])⟩
section
variable{l:Nat}{S:List Nat}
noncomputable abbrev lE(x0 x1:Option PyData)(ns:List Nat)(S:List Nat)(k:Option PyData)(L:List Rl)(R0 R1:List (List Nat))(y11 y12 y13 y14:Option PyData):aL :=
 [x0,x1,some (.list (ns.map fun p:Nat=>.int (p:Int))),some (aU S),some (fB (eO (S.getD · 0))),k,none,none,none,some (jD L),some (.list [fB R0,fB R1]),y11,y12,y13,y14,none,none,none,none,none,none,none,none]
def DS(x0 x1:Option PyData)(ns:List Nat)(S:List Nat)(L:List Rl)(R0 R1:List (List Nat))(ρ:aL):Prop:=∃ k y11 y12 y13 y14,ρ=lE x0 x1 ns S k L R0 R1 y11 y12 y13 y14
theorem DS.mk{x0 x1 k y11 y12 y13 y14:Option PyData}{ns:List Nat}{L:List Rl}{R0 R1:List (List Nat)}:DS x0 x1 ns S L R0 R1 (lE x0 x1 ns S k L R0 R1 y11 y12 y13 y14):=⟨_,_,_,_,_,rfl⟩
theorem DS.to{x0 x1:Option PyData}{ns:List Nat}{L:List Rl}{R0 R1:List (List Nat)}{ρ:aL}{P:aL→Prop}(h:DS x0 x1 ns S L R0 R1 ρ)(k:∀{z y11 y12 y13 y14},P (lE x0 x1 ns S z L R0 R1 y11 y12 y13 y14)):P ρ:=by
 obtain⟨_,_,_,_,_,rfl⟩:=h
 exact k
theorem GX{r:List Nat}(h:∀ c∈r,A5 c=true)(hl:r.length≤8):bH aY iL 1002 (l+1) 7 [aU r]=some (.str (Str.join " " (r.map qS)))∧bH aY iL 1002 (l+1) 8 [.str (Str.join " " (r.map qS))]=some (aU r):=by
 refine⟨(nZ rfl).trans ((show iL 7 [aU r]=zA (r.map wD) by kernel_rfl).trans (MZ h (Nat.le_trans hl (by decide)))),(nZ rfl).trans ((show iL 8 [.str (Str.join " " (r.map qS))]=pA 1002 (Str.join " " (r.map qS)) by kernel_rfl).trans ?_)⟩
 cases r with
 | nil=>kernel_rfl
 | cons c r=>exact GW h nofun (Nat.le_trans hl (by decide))
end
noncomputable abbrev kC:Nat→List PyData→Option PyData:=bH aY iL 1002 19
theorem NB{cl:Nat→List PyData→Option PyData}{ρ:aL}{a b c:PE}{x y z:PyData}(h1:aD cl a ρ=some x)(h2:aD cl b ρ=some y)(h3:aD cl c ρ=some z):aD cl (.list (.cons a (.cons b (.cons c .nil)))) ρ=some (.list [x,y,z]):=congrArg (Option.map _) (zH h1 h2 h3)
section
variable{S:List Nat}{x0 x1:Option PyData}
theorem qD{ρ:aL}{R0 R1:List (List Nat)}(h:aD kC (.var 10) ρ=some (.list [fB R0,fB R1])):aD kC (.idx (.var 10) (.lit (.int 0))) ρ=some (fB R0)∧aD kC (.idx (.var 10) (.lit (.int 1))) ρ=some (fB R1) :=
 ⟨fG (l:=[fB R0,fB R1]) (p:=0) h rfl (by decide) rfl,fG (l:=[fB R0,fB R1]) (p:=1) h rfl (by decide) rfl⟩
theorem H1(hS:S8 S){ns:List Nat}{L:List Rl}{R0 R1:List (List Nat)}{k X:Nat}{σ:dY}(hc:DS x0 x1 ns S L R0 R1 σ.env)(hk:k≤100)(hX:ns[k+1]? = some X)(hL:L.length≤100)(h0:R0.length≤1000)(h1:R1.length≤1000) :
  ∃ τ,b6 kC 1002 zJ ⟨σ.env.set 5 (some (.int (k:Int))),lose σ.own [5]⟩=some (.next τ)∧DS x0 x1 ns S (L++[qF S (k%2) X]) (if k%2=0 then R0++gY S (k%2) X else R0) (if k%2=0 then R1 else R1++gY S (k%2) X) τ.env:=by
 have hq:k%2≤1:=Nat.le_of_lt_succ (Nat.mod_lt _ Nat.two_pos)
 have hw:=BO hS (X:=X) hq
 have km:∀{ρ:aL},aD kC (.var 5) ρ=some (.int (k:Int))→aD kC (.bin .Mod (.var 5) (.lit (.int 2))) ρ=some (.int ((k%2:Nat):Int)):=fun h=>eB (y:=.int ((2:Nat):Int)) h rfl (OB (by decide))
 have hsp:=GX (l:=18) (r:=oY S (k%2) X) (fun c hc=>let⟨j,hj,e⟩:=hw.of c hc; e▸hS.sg hj) (JU hw)
 have g4:∀{ρ:aL},aD kC (.var 5) ρ=some (.int (k:Int))→aD kC (.var 12) ρ=some (aU (oY S (k%2) X))→aD kC (.var 3) ρ=some (aU S)→aD kC (.ite (.cmp .Eq (.bin .Mod (.var 5) (.lit (.int 2))) (.lit (.int 0))) (.call 3 (.cons (.var 12) (.cons (.list (.cons (.lit (.int 1)) (.cons (.lit (.int 2)) .nil))) (.cons (.var 3) .nil)))) (.list .nil)) ρ=some (fB (sM S (k%2) X)):=fun v5 v12 v3 =>
  (mU (xP (q:=0) (km v5) rfl) (fun _=>nV (f:=3) (zH v12 rfl v3) (vT (l:=17) (ps:=[1,2]) hS hw)) fun _=>rfl).trans (by
   unfold sM
   by_cases h:k%2=0
   ·rw[if_pos h,h]; rfl
   ·rw[if_neg h,beq_false_of_ne h]; rfl)
 have g7:∀{ρ:aL}{more:List (List Nat)},more.length≤16→aD kC (.var 5) ρ=some (.int (k:Int))→aD kC (.var 10) ρ=some (.list [fB R0,fB R1])→aD kC (.var 14) ρ=some (fB more)→aD kC (.ite (.cmp .Eq (.bin .Mod (.var 5) (.lit (.int 2))) (.lit (.int 0))) (.list (.cons (.bin .Add (.idx (.var 10) (.lit (.int 0))) (.var 14)) (.cons (.idx (.var 10) (.lit (.int 1))) .nil))) (.list (.cons (.idx (.var 10) (.lit (.int 0))) (.cons (.bin .Add (.idx (.var 10) (.lit (.int 1))) (.var 14)) .nil)))) ρ =
   some (.list [fB (if k%2=0 then R0++more else R0),fB (if k%2=0 then R1 else R1++more)]):=fun hm v5 v10 v14 =>
  (mU (xP (q:=0) (km v5) rfl) (fun _=>oE (mW (D:=sD) (qD v10).1 v14 (Nat.le_trans (Nat.add_le_add h0 hm) (by decide))) (qD v10).2) fun _=>oE (qD v10).1 (mW (D:=sD) (qD v10).2 v14 (Nat.le_trans (Nat.add_le_add h1 hm) (by decide)))).trans (by
   by_cases h:k%2=0
   ·rw[if_pos h,if_pos h,h]; rfl
   ·rw[if_neg h,if_neg h,beq_false_of_ne h]; rfl)
 exact hc.to (P:=fun ρ=>∃ τ,b6 kC 1002 zJ ⟨ρ.set 5 (some (.int (k:Int))),lose σ.own [5]⟩=some (.next τ)∧DS x0 x1 ns S (L++[qF S (k%2) X]) (if k%2=0 then R0++gY S (k%2) X else R0) (if k%2=0 then R1 else R1++gY S (k%2) X) τ.env) fun{z y11 y12 y13 y14} =>
  ⟨_,(aF (bK (nV (f:=1) (zH (a:=.idx (.var 2) (.bin .Add (.var 5) (.lit (.int 1)))) (c:=.var 3) (fG (l:=ns.map fun p:Nat=>.int (p:Int)) (p:=k+1) rfl (eX (p:=k) (q:=1) rfl rfl) (Nat.le_trans (Nat.succ_le_succ hk) (by decide)) (by rw[List.getElem?_map,hX]; rfl)) (NB (km rfl) (eX (km rfl) (b:=.lit (.int 1)) (q:=1) rfl) (eX (km rfl) (b:=.lit (.int 2)) (q:=2) rfl)) rfl) (O9 (prim:=iL) (F:=1002) (l:=18) (q:=k%2) (X:=X) hS hq)))).trans
   ((aF (bK (gN (f:=8) (gN (f:=7) (a:=.var 11) rfl hsp.1) hsp.2))).trans ((aF (iQ (dD (op:=.NotEq) (a:=.var 12) (b:=.var 11) rfl rfl (QQ (oY S (k%2) X) (oY S (k%2) X))) (by rw[beq_self_eq_true]; rfl))).trans
   ((aF (bK (g4 rfl rfl rfl))).trans ((aF (bK (mW (D:=bA) (a:=.var 9) (x:=L) (y:=[qF S (k%2) X]) rfl
    (AM (oE (a:=.var 12) (d:=aU (oY S (k%2) X)) rfl (dA (x:=22) (i:=.of (.var 4)) (elt:=.var 22) (c:=.yes (.cmp .NotIn (.var 22) (.var 13))) (k:=sD) (g:=sD) (p:=fun n=>!(sM S (k%2) X).contains n) (as:=eO (S.getD · 0)) rfl (fun n _=>gG (lS rfl rfl)) (fun n _ _=>rfl) (Nat.le_trans (kN _ _) (by decide))))) (Nat.le_trans (Nat.succ_le_succ hL) (by decide))))).trans
   ((aF (bK (nV (f:=3) (zH (a:=.var 12) (b:=.list (.cons (.lit (.int 0)) (.cons (.lit (.int 1)) (.cons (.lit (.int 2)) (.cons (.lit (.int 3)) .nil))))) (c:=.var 3) rfl rfl rfl) (vT (l:=17) (ps:=[0,1,2,3]) hS hw)))).trans (cO (bK (g7 (kN _ _) rfl rfl rfl)))))))),DS.mk⟩
structure qJ(S:List Nat)(t:Nat)(L:List Rl)(R0 R1:List (List Nat)):Prop where
 len:L.length=t
 l0:R0.length≤16*t
 l1:R1.length≤16*t
 inv:∀ ru∈L,q8 (S.getD · 0) (eO (S.getD · 0)) R0 R1 ru
 nm:∀ n,n∈R0∨n∈R1→n∈eO (S.getD · 0)
 all:∀ β,B2 β→gR (S.getD · 0) β∈R0∨gR (S.getD · 0) β∈R1→∃ ru∈L,Tk (S.getD · 0) ru.1 β
theorem qJ.step(hS:S8 S){t q X:Nat}{L:List Rl}{R0 R1:List (List Nat)}(D:qJ S t L R0 R1)(hq:q≤1):qJ S (t+1) (L++[qF S q X]) (if q=0 then R0++gY S q X else R0) (if q=0 then R1 else R1++gY S q X):=by
 have hw:=BO hS (X:=X) hq
 have hml:(gY S q X).length≤16:=kN _ _
 have m0:∀ n,n∈(if q=0 then R0++gY S q X else R0)↔n∈R0∨(q=0∧n∈gY S q X):=fun n=>by
  by_cases e:q=0
  ·rw[if_pos e,List.mem_append]; exact or_congr_right ⟨fun h=>⟨e,h⟩,And.right⟩
  ·rw[if_neg e]; exact⟨.inl,fun h=>h.resolve_right fun h=>e h.1⟩
 have m1:∀ n,n∈(if q=0 then R1 else R1++gY S q X)↔n∈R1∨(q≠0∧n∈gY S q X):=fun n=>by
  by_cases e:q=0
  ·rw[if_pos e]; exact⟨.inl,fun h=>h.resolve_right fun h=>h.1 e⟩
  ·rw[if_neg e,List.mem_append]; exact or_congr_right ⟨fun h=>⟨e,h⟩,And.right⟩
 refine⟨by rw[List.length_append,D.len]; rfl,?_,?_,fun ru h=>(List.mem_append.mp h).elim (fun h=>(D.inv ru h).mono (fun n h=>(m0 n).mpr (.inl h)) fun n h=>(m1 n).mpr (.inl h)) fun h=>List.mem_singleton.mp h▸NH hS hq (fun e n h=>(m0 n).mpr (.inr ⟨e,h⟩)) fun e n h=>(m1 n).mpr (.inr ⟨by rw[e]; decide,h⟩),fun n h=>?_,fun β hβ h=>?_⟩
 ·split
  ·rw[List.length_append]; exact Nat.add_le_add D.l0 hml
  ·exact Nat.le_trans D.l0 (Nat.le_add_right _ 16)
 ·split
  ·exact Nat.le_trans D.l1 (Nat.le_add_right _ 16)
  ·rw[List.length_append]; exact Nat.add_le_add D.l1 hml
 ·rw[m0,m1]at h
  rcases h with(h | h)| (h | h)
  ·exact D.nm n (.inl h)
  ·exact EO hw h.2
  ·exact D.nm n (.inr h)
  ·exact EO hw h.2
 ·rw[m0,m1]at h
  have old:∀ h,∃ ru∈L++[qF S q X],Tk (S.getD · 0) ru.1 β:=fun h=>let⟨ru,h1,h2⟩:=D.all β hβ h; ⟨ru,List.mem_append_left _ h1,h2⟩
  have new:gR (S.getD · 0) β∈gY S q X→∃ ru∈L++[qF S q X],Tk (S.getD · 0) ru.1 β:=fun h=>⟨_,List.mem_append_right _ (.head _),(tS hS.inj hw hβ).mp h⟩
  rcases h with(h | h)| (h | h)
  ·exact old (.inl h)
  ·exact new h.2
  ·exact old (.inr h)
  ·exact new h.2
theorem H2(hS:S8 S){ns:List Nat}{m:Nat}(hm:m≤6)(hns:ns.length=m+1){σ:dY}(hc:DS x0 x1 ns S [] [] [] σ.env):∃ L R0 R1 τ,oX kC 1002 (.for_ (.one 5) D8 zJ) σ=some (.next τ)∧DS x0 x1 ns S L R0 R1 τ.env∧qJ S m L R0 R1:=by
 have go:∀(n t:Nat){L:List Rl}{R0 R1:List (List Nat)}{σ:dY},t+n=m→DS x0 x1 ns S L R0 R1 σ.env→qJ S t L R0 R1→∃ L R0 R1 τ,dJ (b6 kC 1002 zJ) (fun d τ=>(fO (.one 5) d τ.env).map fun ρ=>{ env:=ρ,own:=lose τ.own (bU (.one 5)) }) ((List.range' t n).map fun k:Nat=>.int ((0+k:Nat):Int)) σ=some (.next τ)∧DS x0 x1 ns S L R0 R1 τ.env∧qJ S m L R0 R1:=fun n=>by
  induction n with
  | zero=>exact fun t{L R0 R1 σ}e hc D=>⟨L,R0,R1,σ,rfl,hc,by rw[← e]; exact D⟩
  | succ n ih =>
   intro t L R0 R1 σ e hc D
   have ht:t<m:=e▸Nat.lt_add_of_pos_right (Nat.succ_pos n)
   have t6:=Nat.le_trans (Nat.le_of_lt ht) hm
   have b:∀{R:List (List Nat)},R.length≤16*t→R.length≤1000:=fun h=>Nat.le_trans h (Nat.le_trans (Nat.mul_le_mul_left 16 t6) (by decide))
   have hlt:t+1<ns.length:=hns▸Nat.succ_lt_succ ht
   obtain⟨τ,h1,c1⟩:=H1 (X:=ns[t+1]) hS hc (Nat.le_trans t6 (by decide)) (List.getElem?_eq_getElem hlt) (D.len▸Nat.le_trans t6 (by decide)) (b D.l0) (b D.l1)
   obtain⟨L',R0',R1',τ',h2,r⟩:=ih (t+1) ((Nat.succ_add_eq_add_succ t n).trans e) c1 (D.step hS (Nat.le_of_lt_succ (Nat.mod_lt t Nat.two_pos)))
   refine⟨L',R0',R1',τ',?_,r⟩
   rw[List.range'_succ,List.map_cons,Nat.zero_add]
   exact(eW rfl h1).trans h2
 obtain⟨L,R0,R1,τ,h,r⟩:=go m 0 (σ:={ σ with own:=lose σ.own (cT D8) }) (Nat.zero_add m) hc ⟨rfl,Nat.zero_le _,Nat.zero_le _,nofun,fun n h=>h.elim nofun nofun,fun β _ h=>h.elim nofun nofun⟩
 rw[← List.range_eq_range']at h
 have v2:aD kC (.var 2) σ.env=some (.list (ns.map fun p:Nat=>.int (p:Int))):=hc.to (P:=fun ρ=>aD kC (.var 2) ρ=_) rfl
 exact⟨L,R0,R1,τ,(kM (i:=D8) (tE (q:=m) (yO (b:=.lit (.int 1)) (q:=1) ((pH v2).trans (by rw[List.length_map,hns])) rfl (Nat.le_add_left _ _)) (Nat.le_trans hm (by decide)))).trans h,r⟩
end
theorem rY{l:Nat}(a b:List (List Nat))(ha:a.length≤1000)(hb:b.length≤1000):bH aY iL 1002 (l+1) 10 [fB a,fB b]=some (.bool (kI a b)) :=
 (nZ rfl).trans ((show iL 10 [fB a,fB b]=IS (w7 1002 6 RM 6) (a.map sD) (b.map sD) by kernel_rfl).trans (RD rT a b ha hb))
theorem oF{cl:Nat→List PyData→Option PyData}{ρ:aL}{a b:PE}{x y:Bool}(h1:aD cl a ρ=some (.bool x))(h2:aD cl b ρ=some (.bool y)):aD cl (.cmp .IsNot a b) ρ=some (.bool (!(x==y))):=dD h1 h2 rfl
section
variable{S:List Nat}
noncomputable def XC(S n:List Nat):List Nat:=(bif n.getD 0 0==S.getD 1 0 then S.getD 0 0 else S.getD 1 0)::n.drop 1
noncomputable def XB(S n:List Nat):List Nat:=n.take 3++[bif n.getD 3 0==S.getD 7 0 then S.getD 6 0 else S.getD 7 0]
noncomputable def nC(β:Nat→Nat)(p:Nat):Nat→Nat:=fun q=>if q=p then 1 - β p else β q
theorem xV{β:Nat→Nat}(h:B2 β)(p:Nat):B2 (nC β p):=fun q=>by
 unfold nC
 split
 ·exact Nat.lt_succ_of_le (Nat.sub_le 1 _)
 ·exact h q
theorem WK(hS:S8 S){β:Nat→Nat}(h:B2 β):XC S (gR (S.getD · 0) β)=gR (S.getD · 0) (nC β 0):=by
 show(bif S.getD (β 0) 0==S.getD 1 0 then S.getD 0 0 else S.getD 1 0)::[S.getD (2+β 1) 0,S.getD (4+β 2) 0,S.getD (6+β 3) 0]=[S.getD (1 - β 0) 0,S.getD (2+β 1) 0,S.getD (4+β 2) 0,S.getD (6+β 3) 0]
 congr 1
 rcases l8 (h 0)with e | e <;> rw[e]
 ·rw[beq_false_of_ne fun e=>nomatch hS.inj 0 1 (by decide) (by decide) e]; rfl
 ·rw[beq_self_eq_true]; rfl
theorem WH(hS:S8 S){β:Nat→Nat}(h:B2 β):XB S (gR (S.getD · 0) β)=gR (S.getD · 0) (nC β 3):=by
 show [S.getD (β 0) 0,S.getD (2+β 1) 0,S.getD (4+β 2) 0,bif S.getD (6+β 3) 0==S.getD 7 0 then S.getD 6 0 else S.getD 7 0]=[S.getD (β 0) 0,S.getD (2+β 1) 0,S.getD (4+β 2) 0,S.getD (6+(1 - β 3)) 0]
 congr 4
 rcases l8 (h 3)with e | e <;> rw[e]
 ·rw[beq_false_of_ne fun e=>nomatch hS.inj 6 7 (by decide) (by decide) e]; rfl
 ·rw[beq_self_eq_true]; rfl
theorem K3{β:Nat→Nat}(h:B2 β)(p:Nat):nC (nC β p) p=β:=funext fun q=>by
 unfold nC
 by_cases e:q=p
 ·rw[if_pos e,if_pos rfl,e]; exact(show ∀ b<2,1 - (1 - b)=b by decide) _ (h p)
 ·rw[if_neg e,if_neg e]
theorem FW{M:List (List Nat)}{f:List Nat→List Nat}{p:Nat}(hM:∀ n∈M,n∈eO (S.getD · 0))(hf:∀{β},B2 β→f (gR (S.getD · 0) β)=gR (S.getD · 0) (nC β p))(hp:∀ β,B2 β→gR (S.getD · 0) β∈M→gR (S.getD · 0) (nC β p)∈M):∀ n,n∈M.map f↔n∈M:=fun n=>by
 rw[List.mem_map]
 refine⟨fun⟨m,hm,e⟩=>?_,fun h=>?_⟩
 ·obtain⟨β,hβ,rfl⟩:=eU.mp (hM m hm)
  rw[← e,hf hβ]
  exact hp β hβ hm
 ·obtain⟨β,hβ,rfl⟩:=eU.mp (hM n h)
  exact⟨_,hp β hβ h,by rw[hf (xV hβ p),K3 hβ p]⟩
variable{x0 x1 x2 x5 x6 x7 x9 x10 x11 x12 x13 x14:Option PyData}
noncomputable abbrev mE(x0 x1 x2:Option PyData)(S:List Nat)(x5 x6 x7 x8 x9:Option PyData)(R0 R1:List (List Nat))(x11 x12 x13 x14 x15 x16:Option PyData):aL :=
 [x0,x1,x2,some (aU S),some (fB (eO (S.getD · 0))),x5,x6,x7,x8,x9,some (.list [fB R0,fB R1]),x11,x12,x13,x14,x15,x16,none,none,none,none,none,none]
theorem EB(hS:S8 S){ρ:aL}{a:PE}{k:Nat}(h3:aD kC (.var 3) ρ=some (aU S))(ha:aD kC a ρ=some (.int (k:Int)))(hk:k<8):aD kC (.idx (.var 3) a) ρ=some (wD (S.getD k 0)):=fG h3 ha (Nat.le_trans (Nat.le_of_lt hk) (by decide)) (by rw[List.getElem?_map,hS.at hk]; rfl)
theorem WJ(hS:S8 S){M R0 R1:List (List Nat)}(hM:∀ n∈M,n∈eO (S.getD · 0))(hl:M.length≤16):aD kC (.comp (.bin .Add (.idx (.var 3) (.ite (.cmp .Eq (.idx (.var 22) (.lit (.int 0))) (.idx (.var 3) (.lit (.int 1)))) (.lit (.int 0)) (.lit (.int 1)))) (.slc (.var 22) (.yes (.lit (.int 1))) .no)) (.one 22) (.of (.var 8)) .no .nil) (mE x0 x1 x2 S x5 x6 x7 (some (fB M)) x9 R0 R1 x11 x12 x13 x14 none none)=some (fB (M.map (XC S))):=by
 refine(xN (k:=sD) (g:=fun n=>sD (XC S n)) (as:=M) rfl (fun n hn=>?_) (Nat.le_trans hl (by decide))).trans (congrArg (fun l=>some (PyData.list l)) (List.map_map (g:=sD) (f:=XC S)).symm)
 obtain⟨β,hβ,rfl⟩:=eU.mp (hM n hn)
 refine(hU (x:=[S.getD (bif S.getD (β 0) 0==S.getD 1 0 then 0 else 1) 0]) (y:=(gR (S.getD · 0) β).drop 1) (EB hS rfl (nU (p:=0) (q:=1) (mV (x:=S.getD (β 0) 0) (rV (a:=.var 22) (i:=.lit (.int 0)) (l:=gR (S.getD · 0) β) (p:=0) rfl rfl (by decide) rfl) (EB hS (k:=1) (a:=.lit (.int 1)) rfl rfl (by decide)) rfl)) (by cases S.getD (β 0) 0==S.getD 1 0 <;> decide)) (Q6 (a:=.var 22) (lo:=.lit (.int 1)) (p:=1) rfl rfl (by decide)) (Nat.le_of_ble_eq_true rfl)).trans ?_
 show some (sD (S.getD (bif S.getD (β 0) 0==S.getD 1 0 then 0 else 1) 0::_))=some (sD ((bif S.getD (β 0) 0==S.getD 1 0 then S.getD 0 0 else S.getD 1 0)::_))
 cases S.getD (β 0) 0==S.getD 1 0 <;> rfl
theorem WG(hS:S8 S){M R0 R1:List (List Nat)}{x15:Option PyData}(hM:∀ n∈M,n∈eO (S.getD · 0))(hl:M.length≤16):aD kC (.comp (.bin .Add (.slc (.var 22) .no (.yes (.lit (.int 3)))) (.idx (.var 3) (.ite (.cmp .Eq (.idx (.var 22) (.lit (.int 3))) (.idx (.var 3) (.lit (.int 7)))) (.lit (.int 6)) (.lit (.int 7))))) (.one 22) (.of (.var 8)) .no .nil) (mE x0 x1 x2 S x5 x6 x7 (some (fB M)) x9 R0 R1 x11 x12 x13 x14 x15 none)=some (fB (M.map (XB S))):=by
 refine(xN (k:=sD) (g:=fun n=>sD (XB S n)) (as:=M) rfl (fun n hn=>?_) (Nat.le_trans hl (by decide))).trans (congrArg (fun l=>some (PyData.list l)) (List.map_map (g:=sD) (f:=XB S)).symm)
 obtain⟨β,hβ,rfl⟩:=eU.mp (hM n hn)
 refine(hU (x:=(gR (S.getD · 0) β).take 3) (y:=[S.getD (bif S.getD (6+β 3) 0==S.getD 7 0 then 6 else 7) 0]) (FY (a:=.var 22) (hi:=.lit (.int 3)) (q:=3) rfl rfl (by decide)) (EB hS rfl (nU (p:=6) (q:=7) (mV (x:=S.getD (6+β 3) 0) (rV (a:=.var 22) (i:=.lit (.int 3)) (l:=gR (S.getD · 0) β) (p:=3) rfl rfl (by decide) rfl) (EB hS (k:=7) (a:=.lit (.int 7)) rfl rfl (by decide)) rfl)) (by cases S.getD (6+β 3) 0==S.getD 7 0 <;> decide)) (Nat.le_of_ble_eq_true rfl)).trans ?_
 show some (sD (_++[S.getD (bif S.getD (6+β 3) 0==S.getD 7 0 then 6 else 7) 0]))=some (sD (_++[bif S.getD (6+β 3) 0==S.getD 7 0 then S.getD 6 0 else S.getD 7 0]))
 cases S.getD (6+β 3) 0==S.getD 7 0 <;> rfl
theorem QR(hS:S8 S){M R0 R1:List (List Nat)}{o:List Nat}(hM:∀ n∈M,n∈eO (S.getD · 0))(hl:M.length≤16)(h1:∀ β,B2 β→gR (S.getD · 0) β∉R0→gR (S.getD · 0) β∈M)(h2:∀ β,B2 β→gR (S.getD · 0) β∉R1→gR (S.getD · 0) β∉M)
  (h3:∀ β γ,B2 β→B2 γ→β 1=γ 1→β 2=γ 2→gR (S.getD · 0) β∈M→gR (S.getD · 0) γ∈M):∃ τ,b6 kC 1002 S3 ⟨mE x0 x1 x2 S x5 x6 x7 (some (fB M)) x9 R0 R1 x11 x12 x13 x14 none none,o⟩=some (.next τ):=by
 have hN:(eO (S.getD · 0)).length≤1000000:=Nat.le_trans (kN _ _) (by decide)
 have e1:=oD (dA (cl:=kC) (ρ:=mE x0 x1 x2 S x5 x6 x7 (some (fB M)) x9 R0 R1 x11 x12 x13 x14 none none) (x:=22) (i:=.of (.var 4)) (elt:=.var 22) (c:=.yes (.bool true (.cmp .NotIn (.var 22) (.idx (.var 10) (.lit (.int 0)))) (.cmp .NotIn (.var 22) (.var 8)))) (k:=sD) (g:=sD) (p:=fun n=>!R0.contains n && !M.contains n) (as:=eO (S.getD · 0)) rfl
  (fun n _=>gG (hH (lS rfl (qD (R1:=R1) rfl).1) (lS rfl rfl))) (fun n _ _=>rfl) hN)
 have e2:=oD (dA (cl:=kC) (ρ:=mE x0 x1 x2 S x5 x6 x7 (some (fB M)) x9 R0 R1 x11 x12 x13 x14 none none) (x:=22) (i:=.of (.var 4)) (elt:=.var 22) (c:=.yes (.bool true (.cmp .NotIn (.var 22) (.idx (.var 10) (.lit (.int 1)))) (.cmp .In (.var 22) (.var 8)))) (k:=sD) (g:=sD) (p:=fun n=>!R1.contains n&&M.contains n) (as:=eO (S.getD · 0)) rfl
  (fun n _=>gG (hH (lS rfl (qD (R0:=R0) rfl).2) (KP rfl rfl))) (fun n _ _=>rfl) hN)
 rw[show(eO (S.getD · 0)).filter (fun n=>!R0.contains n && !M.contains n)=[]from List.filter_eq_nil_iff.mpr fun n hn h=>by
  obtain⟨β,hβ,rfl⟩:=eU.mp hn
  obtain⟨a,b⟩:=aA h
  exact Bool.eq_false_iff.mp (bJ b) (List.contains_iff_mem.mpr (h1 β hβ fun h=>Bool.eq_false_iff.mp (bJ a) (List.contains_iff_mem.mpr h)))]at e1
 rw[show(eO (S.getD · 0)).filter (fun n=>!R1.contains n&&M.contains n)=[]from List.filter_eq_nil_iff.mpr fun n hn h=>by
  obtain⟨β,hβ,rfl⟩:=eU.mp hn
  obtain⟨a,b⟩:=aA h
  exact h2 β hβ (fun h=>Bool.eq_false_iff.mp (bJ a) (List.contains_iff_mem.mpr h)) (List.contains_iff_mem.mp b)]at e2
 have l1:M.length≤1000:=Nat.le_trans hl (by decide)
 have ml:∀ f:List Nat→List Nat,(M.map f).length≤1000:=fun f=>by rw[List.length_map]; exact l1
 have c1:=rY (l:=18) (M.map (XC S)) M (ml _) l1
 have c2:=rY (l:=18) M (M.map (XB S)) l1 (ml _)
 rw[(eP _ _).mpr (FW hM (WK hS) fun β hβ hm=>h3 β _ hβ (xV hβ 0) rfl rfl hm)]at c1
 rw[(eP _ _).mpr fun n=>(FW hM (WH hS) (fun β hβ hm=>h3 β _ hβ (xV hβ 3) rfl rfl hm) n).symm]at c2
 exact⟨_,(aF (iQ e1 rfl)).trans ((aF (iQ e2 rfl)).trans ((aF (bK (WJ hS hM hl))).trans ((aF (bK (WG hS hM hl))).trans
  (cO (iQ (CG (oF (kU (f:=10) (a:=.var 15) (b:=.var 8) rfl rfl c1) (b:=.lit (.bool true)) (y:=true) rfl) (oF (kU (f:=10) (a:=.var 8) (b:=.var 16) rfl rfl c2) (b:=.lit (.bool true)) (y:=true) rfl)) rfl)))))⟩
end
noncomputable def GF(L:List Rl):List Rl:=L.filter fun ru=>ru.1.isEmpty
theorem YS{S:List Nat}{m:Nat}{L Ms:List Rl}{R0 R1:List (List Nat)}(D:qJ S m L R0 R1)(h:Ms≠[]↔∀ β,B2 β→gR (S.getD · 0) β∈R0∨gR (S.getD · 0) β∈R1):kI (R0++R1) (eO (S.getD · 0)) = !Ms.isEmpty∧kI (eO (S.getD · 0)) (R0++R1) = !Ms.isEmpty:=by
 have e:kI (R0++R1) (eO (S.getD · 0)) = !Ms.isEmpty:=by
  rw[Bool.eq_iff_iff,eP,Bool.not_eq_true',Bool.eq_false_iff,ne_eq,List.isEmpty_iff,← ne_eq,h]
  exact⟨fun h β hβ=>List.mem_append.mp ((h _).mpr (eU.mpr ⟨β,hβ,rfl⟩)),fun h n=>⟨fun hn=>D.nm n (List.mem_append.mp hn),fun hn=>by
   obtain⟨β,hβ,rfl⟩:=eU.mp hn
   exact List.mem_append.mpr (h β hβ)⟩⟩
 exact⟨e,.trans (by rw[Bool.eq_iff_iff,eP,eP]; exact⟨fun h n=>(h n).symm,fun h n=>(h n).symm⟩) e⟩
theorem Q3{S:List Nat}(hS:S8 S){x0 x1 x2 x5 x7 x9 x11 x12 x13 x14:Option PyData}{Ms:List Rl}{R0 R1:List (List Nat)}{o:List Nat}(h:∀ ru∈Ms,q8 (S.getD · 0) (eO (S.getD · 0)) R0 R1 ru∧ru.1=[]) :
  b6 kC 1002 (sO 9 W9.body) ⟨mE x0 x1 x2 S x5 (some (.list (Ms.map fun ru=>fB ru.2))) x7 none x9 R0 R1 x11 x12 x13 x14 none none,o⟩=some (.ret (.bool true)):=by
 have hi:uY kC JI (mE x0 x1 x2 S x5 (some (.list (Ms.map fun ru=>fB ru.2))) x7 none x9 R0 R1 x11 x12 x13 x14 none none)=some ((Ms.take 1).map fun ru=>fB ru.2) :=
  l9 ((xM (a:=.var 6) (hi:=.lit (.int 1)) (q:=1) rfl rfl (by decide)).trans (by rw[List.map_take]))
 cases Ms with
 | nil=>exact(aF ((kM hi).trans rfl)).trans (pY rfl)
 | cons ru Ms =>
  obtain⟨R,he⟩:=h ru (.head _)
  have no:∀{k:Nat}{P:Prop},S.getD k 0∈ru.1→P:=fun hk=>by rw[he]at hk; cases hk
  obtain⟨τ,hτ⟩:=QR (M:=ru.2) (R0:=R0) (R1:=R1) (o:=lose (lose o (cT JI)) [8]) (x0:=x0) (x1:=x1) (x2:=x2) (x5:=x5) (x6:=some (.list ((ru::Ms).map fun ru=>fB ru.2))) (x7:=x7) (x9:=x9) (x11:=x11) (x12:=x12) (x13:=x13) (x14:=x14) hS R.sub R.len
   (fun β hβ hn=>R.p1 β hβ hn fun k _ hk=>no hk) (fun β hβ hn hm=>R.p2 β hβ hn hm fun k _ _ hk=>no hk) R.p3
  exact(aF ((kM hi).trans (eW rfl hτ))).trans (pY rfl)
theorem MY{S:List Nat}(hS:S8 S){x0 x1:Option PyData}{ns:List Nat}{m:Nat}{L:List Rl}{R0 R1:List (List Nat)}{σ:dY}(hd:DS x0 x1 ns S L R0 R1 σ.env)(hm:m≤6)(hm1:1≤m)(D:qJ S m L R0 R1):b6 kC 1002 (sO 6 W9.body) σ=some (.ret (.bool true)):=by
 obtain⟨Lc,hc,hcl,hinv,hiff⟩:=DR (l:=17) hS (kN _ _) (D.len▸hm) (fun e=>Nat.ne_of_gt hm1 (D.len.symm.trans (congrArg List.length e))) D.inv D.all
 have hmid:∀ ru∈GF Lc,ru∈Lc∧ru.1=[]:=fun ru h=>⟨(List.mem_filter.mp h).1,List.isEmpty_iff.mp (List.mem_filter.mp h).2⟩
 have W:=YS (Ms:=GF Lc) D (.trans ⟨fun h=>let⟨ru,hr⟩:=List.exists_mem_of_ne_nil _ h; ⟨ru,hmid ru hr⟩,fun⟨ru,h1,h2⟩e=>List.not_mem_nil (e▸(List.mem_filter.mpr ⟨h1,List.isEmpty_iff.mpr h2⟩:ru∈GF Lc):ru∈[])⟩ hiff)
 have b:R0.length+R1.length≤1000:=Nat.le_trans (Nat.add_le_add D.l0 D.l1) (Nat.le_trans (Nat.add_le_add (Nat.mul_le_mul_left 16 hm) (Nat.mul_le_mul_left 16 hm)) (by decide))
 have hcat:∀{ρ:aL},aD kC (.var 10) ρ=some (.list [fB R0,fB R1])→aD kC (.bin .Add (.idx (.var 10) (.lit (.int 0))) (.idx (.var 10) (.lit (.int 1)))) ρ=some (fB (R0++R1)):=fun h=>mW (D:=sD) (qD h).1 (qD h).2 (Nat.le_trans b (by decide))
 have c1:=rY (l:=18) (R0++R1) (eO (S.getD · 0)) (List.length_append▸b) (Nat.le_trans (kN _ _) (by decide))
 have c2:=rY (l:=18) (eO (S.getD · 0)) (R0++R1) (Nat.le_trans (kN _ _) (by decide)) (List.length_append▸b)
 rw[W.1]at c1
 rw[W.2]at c2
 exact hd.to (P:=fun ρ=>b6 kC 1002 (sO 6 W9.body) ⟨ρ,σ.own⟩=some (.ret (.bool true))) fun{z y11 y12 y13 y14} =>
  (aF (bK (uL (x:=11) (y:=8) (as:=Lc) (k1:=fun ru=>aU ru.1) (k2:=fun ru=>fB ru.2) (g:=fun ru=>fB ru.2) (p:=fun ru=>ru.1.isEmpty) (l9 (kU (f:=4) (a:=.var 9) (b:=.var 3) rfl rfl hc))
   (fun ru _=>gG ((tY (l:=ru.1.map wD) rfl).trans (by cases ru.1 <;> rfl))) (fun ru _ _=>rfl) (Nat.le_trans hcl (by decide))))).trans
  ((aF (bK (kU (f:=10) (hcat rfl) (b:=.var 4) rfl c1))).trans ((aF (iQ ((CG (oF (kU (f:=10) (a:=.var 4) rfl (hcat rfl) c2) (b:=.var 7) rfl) (oF (a:=.var 7) (x:=!(GF Lc).isEmpty) rfl (oD (a:=.var 6) (l:=(GF Lc).map fun ru=>fB ru.2) rfl))).trans
   (show _=some (PyData.bool false) by cases GF Lc <;> rfl)) rfl)).trans (Q3 hS fun ru h=>⟨hinv ru (hmid ru h).1,(hmid ru h).2⟩)))
theorem Bl(p q:Nat):W3 .max2 [.int (p:Int),.int (q:Int)]=some (.int ((max p q:Nat):Int)):=by
 show some (PyData.int (if(q:Int)>(p:Int)then(q:Int)else(p:Int)))=_
 by_cases h:p<q
 ·rw[if_pos (Int.ofNat_lt.mpr h),Nat.max_eq_right (Nat.le_of_lt h)]
 ·rw[if_neg fun h'=>h (Int.ofNat_lt.mp h'),Nat.max_eq_left (Nat.not_lt.mp h)]
noncomputable def IR:List Int:=[4,18,25,25,23]
theorem ZM(ns:List Int):bH aY iL 1002 20 5 [.list (ns.map .int)]=some (.bool true):=by
 have e1:aD kC (.bin .Add (.slc (.var 0) .no (.yes (.lit (.int 7)))) (.list (.cons (.lit (.int 4)) (.cons (.lit (.int 18)) (.cons (.lit (.int 25)) (.cons (.lit (.int 25)) (.cons (.lit (.int 23)) .nil))))))) (dE 23 [.list (ns.map .int)])=some (.list ((ns.take 7++IR).map .int)):=by
  refine eB (xM (l:=ns.map .int) (q:=7) rfl rfl (by decide)) (y:=.list (IR.map .int)) rfl ?_
  rw[← List.map_take,List.map_append]
  exact mS (by rw[List.length_append,List.length_map]; exact Nat.le_trans (Nat.add_le_add_right (List.length_take_le 7 ns) 5) (by decide))
 have hDl:5≤(ns.take 7++IR).length∧(ns.take 7++IR).length≤12:=by
  rw[List.length_append]; exact⟨Nat.le_add_left 5 _,Nat.add_le_add_right (List.length_take_le 7 ns) 5⟩
 refine mO (pf:=W9) (l:=19) rfl rfl ((aF (bK e1)).trans ?_)
 generalize ns.take 7++IR=D at hDl
 have v1:aD kC (.var 1) [some (.list (ns.map .int)),some (.list (D.map .int)),none,none,none,none,none,none,none,none,none,none,none,none,none,none,none,none,none,none,none,none,none]=some (.list (D.map .int)):=rfl
 have l1:=pH v1
 rw[List.length_map]at l1
 have hm:max 5 (D.length - 5)≤D.length∧5≤max 5 (D.length - 5)∧max 5 (D.length - 5)≤7:=⟨Nat.max_le.mpr ⟨hDl.1,Nat.sub_le _ 5⟩,Nat.le_max_left _ _,Nat.max_le.mpr ⟨by decide,Nat.sub_le_sub_right hDl.2 5⟩⟩
 have b3:=xM v1 (ED (f:=.max2) (OL (a:=.lit (.int 5)) rfl (yO (b:=.lit (.int 5)) (q:=5) l1 rfl hDl.1)) (Bl 5 (D.length - 5))) (Nat.le_trans hm.2.2 (by decide))
 rw[← List.map_take]at b3
 have hl:(D.take (max 5 (D.length - 5))).length=max 5 (D.length - 5):=List.length_take_of_le hm.1
 have e2:=xN (elt:=.bin .Mod (.var 17) (.bin .Pow (.lit (.int 10)) (.lit (.int 9)))) (x:=17) (g:=fun x=>.int ((x.fmod ((1000000000:Nat):Int)).toNat:Nat)) (l9 b3) (fun x _=>eB (x:=.int x) (y:=.int ((1000000000:Nat):Int)) rfl (by kernel_rfl) (Bk x (by decide)).1) (by rw[hl]; exact Nat.le_trans hm.2.2 (by decide))
 rw[show((D.take (max 5 (D.length - 5))).map fun x=>PyData.int ((x.fmod ((1000000000:Nat):Int)).toNat:Nat))=((D.take (max 5 (D.length - 5))).map fun x=>(x.fmod ((1000000000:Nat):Int)).toNat).map (fun(p:Nat)=>.int (p:Int))from(List.map_map (g:=fun(p:Nat)=>PyData.int (p:Int)) (f:=fun x:Int=>(x.fmod ((1000000000:Nat):Int)).toNat)).symm]at e2
 have hN:((D.take (max 5 (D.length - 5))).map fun x:Int=>(x.fmod ((1000000000:Nat):Int)).toNat).length=max 5 (D.length - 5):=by rw[List.length_map,hl]
 generalize (D.take (max 5 (D.length - 5))).map (fun x:Int=>(x.fmod ((1000000000:Nat):Int)).toNat)=nu at e2 hN
 have h5:=hm.2
 rw[← hN]at h5
 refine(aF (bK e2)).trans ?_
 clear e1 e2 v1 l1 b3 hm hN hDl hl
 obtain⟨p,rest,rfl⟩:∃ p rest,nu=p::rest:=by
  cases nu with
  | nil=>exact absurd h5.1 (by decide)
  | cons p rest=>exact⟨p,rest,rfl⟩
 rw[List.length_cons]at h5
 obtain⟨S,hS,g3⟩:=GY (prim:=iL) (F:=1002) (l:=18) (p:=p)
 refine(aF (bK (gN (x:=.int (p:Int)) rfl g3))).trans ((aF (bK (MR hS))).trans ((aF (EJ (d:=.list []) (d':=.list [.list [],.list []]) rfl rfl)).trans ?_))
 obtain⟨L,R0,R1,τ,hd,hc,hD⟩:=H2 (x0:=some (.list (ns.map .int))) (x1:=some (.list (D.map .int))) (ns:=p::rest) (m:=rest.length) (σ:=⟨lE (some (.list (ns.map .int))) (some (.list (D.map .int))) (p::rest) S none [] [] [] none none none none,[4]⟩) hS (Nat.le_of_succ_le_succ h5.2) rfl DS.mk
 exact(aF hd).trans (MY hS hc (Nat.le_of_succ_le_succ h5.2) (Nat.le_trans (by decide) (Nat.le_of_succ_le_succ h5.1)) hD)
end Kt.Internal
end
section
open PySem PySem.W PyProof.Rows PySem.Calls Builtin
namespace Kt.Internal
theorem Cz:Fast.tw8326940854005059898 { strict:=!R.allR (Fast.tw5923862056798008813 PySem.Challenge.rw_kt0084_07.prog.main.body) (Fast.tw3471404346716756564 Fast.tw17691160309236699985),foot:=none,bare:=R.filterR (Fast.tw13343964577679436407 PySem.Challenge.rw_kt0084_07.prog PySem.Challenge.rw_kt0084_07.prog.main.body) [⟨⟨[118,97,114,115]⟩⟩,⟨⟨[100,105,114]⟩⟩,⟨⟨[108,111,99,97,108,115]⟩⟩] } PySem.Challenge.rw_kt0084_07.prog.main.body=true:=by kernel_rfl
theorem V4:Fast.tw12908688711261696721 PySem.Challenge.rw_kt0084_07.prog=true:=by
 delta PySem.W.Fast.tw12908688711261696721
 refine look_both (look_both ?_ Cz) (by kernel_rfl)
 kernel_rfl
theorem YT:PySem.Challenge.rw_kt0084_07.wellSaid=true:=by
 refine(congrFun PySem.W.Fast.te9446332074065402090 _).trans ?_
 delta PySem.W.Fast.tw9446332074065402090
 iterate 18 (refine look_both ?_ (by kernel_rfl))
 delta PySem.W.Fast.tw17960256430627541270
 refine look_both (look_both ?_ (by kernel_rfl)) (by kernel_rfl)
 delta PySem.W.Fast.tw2436336058641802641
 iterate 13 (refine look_both ?_ (by kernel_rfl))
 exact V4
theorem Dq:(defOf v6 r6.name).isSome=true:=by kernel_rfl
noncomputable def D6:=(defOf v6 r6.name).get Dq
theorem Dr:D6.1.name = "law" := by kernel_rfl
end Kt.Internal
theorem PySem.Challenge.cw_kt0084_07_holds : PySem.Challenge.rw_kt0084_07.Holds := by
 refine holds_law Kt.Internal.YT fun said=>?_
 refine PySem.W.holds_open (d:=Kt.Internal.D6.1) (kwd:=Kt.Internal.D6.2) (q:=Kt.Internal.v6) (loose:=Kt.Internal.xK) (Xt:=Kt.Internal.X6) (XP:=XL Kt.Internal.v6 []) (Yf:=Kt.Internal.Y6) (Ya:=fun _=>True) (YP:=fun _ h=>∃ K:Frag,K.In h∧Kt.Internal.xA K∧h.get? 70=some (tabObj #[])∧h.get? 784=some (tabObj #[])) (N:=6800) Kt.Internal.ZL (fun w s e=>of_eq_true e) (fun w h h' Y k=>?_) (fun s e=>xl_of s (Bool.and_eq_true_iff.mp e).1) XL.keeps (by kernel_rfl) (by kernel_rfl) (by kernel_rfl) (fun s e=>recFacts_of (Bool.and_eq_true_iff.mp e).2) rfl said (by decide +kernel) ⟨rfl,rfl,rfl,rfl,rfl,by decide +kernel⟩ ?hw ?hc
 ·obtain⟨K,X,H,e1,e2⟩:=Y
  exact⟨K,fun a o e=>k _ _ (X a o e),H,k _ _ e1,k _ _ e2⟩
 ·w_witness2
 intro w s₀ s₁ mg mb G Y fa o pm cd doc dV kV ho hd hcd hD hmg hg args vals as hpre hlay hrd hwl hlo
 obtain⟨K,KX,⟨H,L,HB,HS⟩,t1,t2⟩:=Y
 refine Ground.open G ?_
 intro T B D TE TW
 wrow_args hpre hlay hrd hwl hlo
 rename_i ns hs0 _ _ _ _ as3 as2 l vs as1 hL ra hwell hrd0 hints hr0 hcond ht
 refine wpAny_mono (Kt.Internal.QU (prog:=_) (w:=w) (fn:=Kt.Internal.BB) (f:=5) (tab:=Kt.Internal.aY) (d:=6) (pfd:=Kt.Internal.RM) (F:=1002) (lvl:=20) (specs:=Kt.Internal.jI) T KX t1 t2 H L HB HS Kt.Internal.LA rfl (.of_eq hg) rfl ((congrArg mg Kt.Internal.Dr).symm.trans hmg) hwell ⟨_,rfl⟩ hL hints ?_ (Kt.Internal.ZM ns) (by decide)) (fun v s' h=>?_) fun _ _ e=>e
 ·omega
 obtain⟨rfl,hold,hos,hb⟩:=h
 exact⟨.inl ⟨_,_,[],rfl,fun _=>rfl,ReadsW.bool true,(by first | rfl | wrow_post | kernel_rfl),fun _=>⟨List.nodup_nil,fun _ hm=>(nomatch hm)⟩⟩,hold,hos,hb⟩
end
