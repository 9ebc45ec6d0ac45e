import PyProof.Rows.All
import Wide.All
import OpenK.AllK
import Wide.FinOn
import KE.KPar
import KE.KStopIter
import KE.KOwnIter
import KE.KLam
import PySem.Challenge.RW_kt0084_02
set_option Elab.async false
set_option maxRecDepth 100000
set_option maxHeartbeats 8000000
set_option autoImplicit false
set_option genSizeOf false
set_option genInjectivity false
set_option linter.all false
section
open PySem
namespace Kt.Internal
theorem aA{a b:Bool}(h:(a&&b)=true):a=true∧b=true:=by rwa[Bool.and_eq_true]at h
theorem aB{a b:Bool}{G:Prop}(h:(a&&b)=true)(k:a=true→b=true→G):G:=k (aA h).1 (aA h).2
theorem aV{α β:Type}{o:Option α}{f:α→Option β}{d:β}{G:Prop}(h:o.bind f=some d)(k:∀ a,o=some a→f a=some d→G):G:=by cases o with | none=>cases h | some a=>exact k a rfl h
theorem bY{α β:Type}{o:Option α}{f:α→β}{d:β}{G:Prop}(h:o.map f=some d)(k:∀ a,o=some a→f a=d→G):G:=by cases o with | none=>cases h | some a=>exact k a rfl (Option.some.inj h)
noncomputable def fJ{α:Type}(l:List α)(f:α→Bool):Bool:=match l with | []=>false | a::r=>r.isEmpty&&f a
theorem cB{α:Type}{l:List α}{f:α→Bool}{m:List α→Prop}(h:fJ l f=true)(k:∀ a,f a=true→m [a]):m l:=by cases l with | nil=>cases h | cons a r=>cases r with | nil=>exact k a h | cons b r=>cases h
noncomputable def hM{α:Type}(l:List α)(f:α→List α→Bool):Bool:=match l with | []=>false | a::r=>f a r
theorem cW{α:Type}{l:List α}{f:α→List α→Bool}{m:List α→Prop}(h:hM l f=true)(k:∀ a r,f a r=true→m (a::r)):m l:=by cases l with | nil=>cases h | cons a r=>exact k a r h
theorem dE{α:Type}{l:List α}{m:List α→Prop}(h:l.isEmpty=true)(k:m []):m l:=by cases l with | nil=>exact k | cons a r=>cases h
noncomputable def gT{α:Type}(o:Option α)(f:α→Bool):Bool:=match o with | none=>false | some a=>f a
theorem rJ{α:Type}{o:Option α}{f:α→Bool}{m:Option α→Prop}(h:gT o f=true)(k:∀ a,f a=true→m (some a)):m o:=by cases o with | none=>cases h | some a=>exact k a h
theorem rU{α:Type}{o:Option α}{m:Option α→Prop}(h:o.isNone=true)(k:m none):m o:=by cases o with | none=>exact k | some a=>cases h
noncomputable def aW(e:Expr)(f:Str→Pos→Bool):Bool:=if h:e.ctorIdx=23 then Expr.Name.elim e h f else false
theorem aO{e:Expr}{f:Str→Pos→Bool}{m:Expr→Prop}(h:aW e f=true)(k:∀ a b,f a b=true→m (.Name a b)):m e:=by
 by_cases c:e.ctorIdx=23
 ·exact Expr.Name.elim (motive_1:=fun e=>aW e f=true→m e) e c k h
 ·rw[aW,dif_neg c]at h; cases h
noncomputable def bF(e:Expr)(f:Const→Nat→Pos→Bool):Bool:=if h:e.ctorIdx=19 then Expr.Constant.elim e h f else false
theorem bX{e:Expr}{f:Const→Nat→Pos→Bool}{m:Expr→Prop}(h:bF e f=true)(k:∀ a b c,f a b c=true→m (.Constant a b c)):m e:=by
 by_cases c:e.ctorIdx=19
 ·exact Expr.Constant.elim (motive_1:=fun e=>bF e f=true→m e) e c k h
 ·rw[bF,dif_neg c]at h; cases h
noncomputable def bI(e:Expr)(f:Expr→Str→Pos→Bool):Bool:=if h:e.ctorIdx=20 then Expr.Attribute.elim e h f else false
theorem bW{e:Expr}{f:Expr→Str→Pos→Bool}{m:Expr→Prop}(h:bI e f=true)(k:∀ a b c,f a b c=true→m (.Attribute a b c)):m e:=by
 by_cases c:e.ctorIdx=20
 ·exact Expr.Attribute.elim (motive_1:=fun e=>bI e f=true→m e) e c k h
 ·rw[bI,dif_neg c]at h; cases h
noncomputable def cQ(e:Expr)(f:Expr→List Expr→List Keyword→Pos→Bool):Bool:=if h:e.ctorIdx=16 then Expr.Call.elim e h f else false
theorem cS{e:Expr}{f:Expr→List Expr→List Keyword→Pos→Bool}{m:Expr→Prop}(h:cQ e f=true)(k:∀ a b c d,f a b c d=true→m (.Call a b c d)):m e:=by
 by_cases c:e.ctorIdx=16
 ·exact Expr.Call.elim (motive_1:=fun e=>cQ e f=true→m e) e c k h
 ·rw[cQ,dif_neg c]at h; cases h
noncomputable def fT(e:Expr)(f:Expr→List CmpOp→List Expr→Pos→Bool):Bool:=if h:e.ctorIdx=15 then Expr.Compare.elim e h f else false
theorem mP{e:Expr}{f:Expr→List CmpOp→List Expr→Pos→Bool}{m:Expr→Prop}(h:fT e f=true)(k:∀ a b c d,f a b c d=true→m (.Compare a b c d)):m e:=by
 by_cases c:e.ctorIdx=15
 ·exact Expr.Compare.elim (motive_1:=fun e=>fT e f=true→m e) e c k h
 ·rw[fT,dif_neg c]at h; cases h
noncomputable def kI(e:Expr)(f:BoolOp→List Expr→Pos→Bool):Bool:=if h:e.ctorIdx=0 then Expr.BoolOp.elim e h f else false
theorem vR{e:Expr}{f:BoolOp→List Expr→Pos→Bool}{m:Expr→Prop}(h:kI e f=true)(k:∀ a b c,f a b c=true→m (.BoolOp a b c)):m e:=by
 by_cases c:e.ctorIdx=0
 ·exact Expr.BoolOp.elim (motive_1:=fun e=>kI e f=true→m e) e c k h
 ·rw[kI,dif_neg c]at h; cases h
noncomputable def nH(e:Expr)(f:Expr→Operator→Expr→Pos→Bool):Bool:=if h:e.ctorIdx=2 then Expr.BinOp.elim e h f else false
theorem AF{e:Expr}{f:Expr→Operator→Expr→Pos→Bool}{m:Expr→Prop}(h:nH e f=true)(k:∀ a b c d,f a b c d=true→m (.BinOp a b c d)):m e:=by
 by_cases c:e.ctorIdx=2
 ·exact Expr.BinOp.elim (motive_1:=fun e=>nH e f=true→m e) e c k h
 ·rw[nH,dif_neg c]at h; cases h
noncomputable def eV(e:Expr)(f:UnaryOp→Expr→Pos→Bool):Bool:=if h:e.ctorIdx=3 then Expr.UnaryOp.elim e h f else false
theorem jC{e:Expr}{f:UnaryOp→Expr→Pos→Bool}{m:Expr→Prop}(h:eV e f=true)(k:∀ a b c,f a b c=true→m (.UnaryOp a b c)):m e:=by
 by_cases c:e.ctorIdx=3
 ·exact Expr.UnaryOp.elim (motive_1:=fun e=>eV e f=true→m e) e c k h
 ·rw[eV,dif_neg c]at h; cases h
noncomputable def q8(e:Expr)(f:Expr→Expr→Expr→Pos→Bool):Bool:=if h:e.ctorIdx=5 then Expr.IfExp.elim e h f else false
theorem NH{e:Expr}{f:Expr→Expr→Expr→Pos→Bool}{m:Expr→Prop}(h:q8 e f=true)(k:∀ a b c d,f a b c d=true→m (.IfExp a b c d)):m e:=by
 by_cases c:e.ctorIdx=5
 ·exact Expr.IfExp.elim (motive_1:=fun e=>q8 e f=true→m e) e c k h
 ·rw[q8,dif_neg c]at h; cases h
noncomputable def oZ(e:Expr)(f:List Expr→Pos→Bool):Bool:=if h:e.ctorIdx=24 then Expr.List.elim e h f else false
theorem q7{e:Expr}{f:List Expr→Pos→Bool}{m:Expr→Prop}(h:oZ e f=true)(k:∀ a b,f a b=true→m (.List a b)):m e:=by
 by_cases c:e.ctorIdx=24
 ·exact Expr.List.elim (motive_1:=fun e=>oZ e f=true→m e) e c k h
 ·rw[oZ,dif_neg c]at h; cases h
noncomputable def gL(e:Expr)(f:List Expr→Nat→Pos→Bool):Bool:=if h:e.ctorIdx=25 then Expr.Tuple.elim e h f else false
theorem kH{e:Expr}{f:List Expr→Nat→Pos→Bool}{m:Expr→Prop}(h:gL e f=true)(k:∀ a b c,f a b c=true→m (.Tuple a b c)):m e:=by
 by_cases c:e.ctorIdx=25
 ·exact Expr.Tuple.elim (motive_1:=fun e=>gL e f=true→m e) e c k h
 ·rw[gL,dif_neg c]at h; cases h
noncomputable def dL(e:Expr)(f:Expr→Expr→Pos→Bool):Bool:=if h:e.ctorIdx=21 then Expr.Subscript.elim e h f else false
theorem fR{e:Expr}{f:Expr→Expr→Pos→Bool}{m:Expr→Prop}(h:dL e f=true)(k:∀ a b c,f a b c=true→m (.Subscript a b c)):m e:=by
 by_cases c:e.ctorIdx=21
 ·exact Expr.Subscript.elim (motive_1:=fun e=>dL e f=true→m e) e c k h
 ·rw[dL,dif_neg c]at h; cases h
noncomputable def nE(e:Expr)(f:Option Expr→Option Expr→Option Expr→Pos→Bool):Bool:=if h:e.ctorIdx=26 then Expr.Slice.elim e h f else false
theorem AD{e:Expr}{f:Option Expr→Option Expr→Option Expr→Pos→Bool}{m:Expr→Prop}(h:nE e f=true)(k:∀ a b c d,f a b c d=true→m (.Slice a b c d)):m e:=by
 by_cases c:e.ctorIdx=26
 ·exact Expr.Slice.elim (motive_1:=fun e=>nE e f=true→m e) e c k h
 ·rw[nE,dif_neg c]at h; cases h
noncomputable def jE(e:Expr)(f:Expr→List Comprehension→Scope→Pos→Bool):Bool:=if h:e.ctorIdx=8 then Expr.ListComp.elim e h f else false
theorem qA{e:Expr}{f:Expr→List Comprehension→Scope→Pos→Bool}{m:Expr→Prop}(h:jE e f=true)(k:∀ a b c d,f a b c d=true→m (.ListComp a b c d)):m e:=by
 by_cases c:e.ctorIdx=8
 ·exact Expr.ListComp.elim (motive_1:=fun e=>jE e f=true→m e) e c k h
 ·rw[jE,dif_neg c]at h; cases h
noncomputable def OQ(e:Expr)(f:Expr→List Comprehension→Scope→Pos→Bool):Bool:=if h:e.ctorIdx=11 then Expr.GeneratorExp.elim e h f else false
noncomputable def gQ(e:Expr)(f:List Expr→Pos→Bool):Bool:=if h:e.ctorIdx=18 then Expr.JoinedStr.elim e h f else false
theorem yR{e:Expr}{f:List Expr→Pos→Bool}{m:Expr→Prop}(h:gQ e f=true)(k:∀ a b,f a b=true→m (.JoinedStr a b)):m e:=by
 by_cases c:e.ctorIdx=18
 ·exact Expr.JoinedStr.elim (motive_1:=fun e=>gQ e f=true→m e) e c k h
 ·rw[gQ,dif_neg c]at h; cases h
noncomputable def dR(e:Expr)(f:Expr→Int→Option Expr→Pos→Bool):Bool:=if h:e.ctorIdx=17 then Expr.FormattedValue.elim e h f else false
theorem oL{e:Expr}{f:Expr→Int→Option Expr→Pos→Bool}{m:Expr→Prop}(h:dR e f=true)(k:∀ a b c d,f a b c d=true→m (.FormattedValue a b c d)):m e:=by
 by_cases c:e.ctorIdx=17
 ·exact Expr.FormattedValue.elim (motive_1:=fun e=>dR e f=true→m e) e c k h
 ·rw[dR,dif_neg c]at h; cases h
noncomputable def eD(e:Stmt)(f:Option Expr→Pos→Bool):Bool:=if h:e.ctorIdx=3 then Stmt.Return.elim e h f else false
theorem gP{e:Stmt}{f:Option Expr→Pos→Bool}{m:Stmt→Prop}(h:eD e f=true)(k:∀ a b,f a b=true→m (.Return a b)):m e:=by
 by_cases c:e.ctorIdx=3
 ·exact Stmt.Return.elim (motive_2:=fun e=>eD e f=true→m e) e c k h
 ·rw[eD,dif_neg c]at h; cases h
noncomputable def cG(e:Stmt)(f:List Expr→Expr→Pos→Bool):Bool:=if h:e.ctorIdx=5 then Stmt.Assign.elim e h f else false
theorem dM{e:Stmt}{f:List Expr→Expr→Pos→Bool}{m:Stmt→Prop}(h:cG e f=true)(k:∀ a b c,f a b c=true→m (.Assign a b c)):m e:=by
 by_cases c:e.ctorIdx=5
 ·exact Stmt.Assign.elim (motive_2:=fun e=>cG e f=true→m e) e c k h
 ·rw[cG,dif_neg c]at h; cases h
noncomputable def c6(e:Stmt)(f:Expr→Operator→Expr→Pos→Bool):Bool:=if h:e.ctorIdx=7 then Stmt.AugAssign.elim e h f else false
theorem gF{e:Stmt}{f:Expr→Operator→Expr→Pos→Bool}{m:Stmt→Prop}(h:c6 e f=true)(k:∀ a b c d,f a b c d=true→m (.AugAssign a b c d)):m e:=by
 by_cases c:e.ctorIdx=7
 ·exact Stmt.AugAssign.elim (motive_2:=fun e=>c6 e f=true→m e) e c k h
 ·rw[c6,dif_neg c]at h; cases h
noncomputable def nD(e:Stmt)(f:Expr→Expr→List Stmt→List Stmt→Pos→Bool):Bool:=if h:e.ctorIdx=9 then Stmt.For.elim e h f else false
theorem AC{e:Stmt}{f:Expr→Expr→List Stmt→List Stmt→Pos→Bool}{m:Stmt→Prop}(h:nD e f=true)(k:∀ a b c d e,f a b c d e=true→m (.For a b c d e)):m e:=by
 by_cases c:e.ctorIdx=9
 ·exact Stmt.For.elim (motive_2:=fun e=>nD e f=true→m e) e c k h
 ·rw[nD,dif_neg c]at h; cases h
noncomputable def iI(e:Stmt)(f:Expr→List Stmt→List Stmt→Pos→Bool):Bool:=if h:e.ctorIdx=11 then Stmt.While.elim e h f else false
theorem tV{e:Stmt}{f:Expr→List Stmt→List Stmt→Pos→Bool}{m:Stmt→Prop}(h:iI e f=true)(k:∀ a b c d,f a b c d=true→m (.While a b c d)):m e:=by
 by_cases c:e.ctorIdx=11
 ·exact Stmt.While.elim (motive_2:=fun e=>iI e f=true→m e) e c k h
 ·rw[iI,dif_neg c]at h; cases h
noncomputable def oY(e:Stmt)(f:Expr→List Stmt→List Stmt→Pos→Bool):Bool:=if h:e.ctorIdx=12 then Stmt.If.elim e h f else false
theorem xV{e:Stmt}{f:Expr→List Stmt→List Stmt→Pos→Bool}{m:Stmt→Prop}(h:oY e f=true)(k:∀ a b c d,f a b c d=true→m (.If a b c d)):m e:=by
 by_cases c:e.ctorIdx=12
 ·exact Stmt.If.elim (motive_2:=fun e=>oY e f=true→m e) e c k h
 ·rw[oY,dif_neg c]at h; cases h
noncomputable def lN(e:Stmt)(f:Option Expr→Option Expr→Pos→Bool):Bool:=if h:e.ctorIdx=16 then Stmt.Raise.elim e h f else false
theorem DF{e:Stmt}{f:Option Expr→Option Expr→Pos→Bool}{m:Stmt→Prop}(h:lN e f=true)(k:∀ a b c,f a b c=true→m (.Raise a b c)):m e:=by
 by_cases c:e.ctorIdx=16
 ·exact Stmt.Raise.elim (motive_2:=fun e=>lN e f=true→m e) e c k h
 ·rw[lN,dif_neg c]at h; cases h
noncomputable def q6(e:Stmt)(f:List Stmt→List ExceptHandler→List Stmt→List Stmt→Pos→Bool):Bool:=if h:e.ctorIdx=17 then Stmt.Try.elim e h f else false
theorem NG{e:Stmt}{f:List Stmt→List ExceptHandler→List Stmt→List Stmt→Pos→Bool}{m:Stmt→Prop}(h:q6 e f=true)(k:∀ a b c d e,f a b c d e=true→m (.Try a b c d e)):m e:=by
 by_cases c:e.ctorIdx=17
 ·exact Stmt.Try.elim (motive_2:=fun e=>q6 e f=true→m e) e c k h
 ·rw[q6,dif_neg c]at h; cases h
noncomputable def jD(e:Stmt)(f:Expr→Option Expr→Pos→Bool):Bool:=if h:e.ctorIdx=19 then Stmt.Assert.elim e h f else false
theorem A5{e:Stmt}{f:Expr→Option Expr→Pos→Bool}{m:Stmt→Prop}(h:jD e f=true)(k:∀ a b c,f a b c=true→m (.Assert a b c)):m e:=by
 by_cases c:e.ctorIdx=19
 ·exact Stmt.Assert.elim (motive_2:=fun e=>jD e f=true→m e) e c k h
 ·rw[jD,dif_neg c]at h; cases h
noncomputable def iA(e:Stmt)(f:Expr→Pos→Bool):Bool:=if h:e.ctorIdx=24 then Stmt.Expr.elim e h f else false
theorem pK{e:Stmt}{f:Expr→Pos→Bool}{m:Stmt→Prop}(h:iA e f=true)(k:∀ a b,f a b=true→m (.Expr a b)):m e:=by
 by_cases c:e.ctorIdx=24
 ·exact Stmt.Expr.elim (motive_2:=fun e=>iA e f=true→m e) e c k h
 ·rw[iA,dif_neg c]at h; cases h
theorem bZ{α:Type} [BEq α] [LawfulBEq α] {a b:α} {m:α→Prop} (h:(a==b)=true) (k:m b):m a:=eq_of_beq h▸k
noncomputable def Bd(e:Expr):Bool:=bF e fun c _ _=>c.ctorIdx==0
noncomputable def B5(e:Comprehension)(f:Expr→Expr→List Expr→Int→Bool):Bool:=f e.target e.iter e.ifs e.is_async
theorem nG{e:Comprehension}{f:Expr→Expr→List Expr→Int→Bool}{m:Comprehension→Prop}(h:B5 e f=true)(k:∀ a b c d,f a b c d=true→m ⟨a,b,c,d⟩):m e:=by cases e; exact k _ _ _ _ h
noncomputable def XY(e:ExceptHandler)(f:Option Expr→Option Str→List Stmt→Pos→Bool):Bool:=match e with | .ExceptHandler a b c d=>f a b c d
theorem ZE{e:ExceptHandler}{f:Option Expr→Option Str→List Stmt→Pos→Bool}{m:ExceptHandler→Prop}(h:XY e f=true)(k:∀ a b c d,f a b c d=true→m (.ExceptHandler a b c d)):m e:=by cases e; exact k _ _ _ _ h
theorem aJ{l:List Bool}(h:l.all id=true){b:Bool}(k:Nat)(e:l[k]? = some b):b=true:=List.all_eq_true.mp h _ (List.mem_of_getElem? e)
theorem bH{b:Bool}(h:(!b)=true):b=false:=by cases b with | true=>cases h | false=>rfl
end Kt.Internal
end
section
open PySem PySem.W
namespace Kt.Internal
abbrev aN:=List (Option PyData)
inductive Bi where
 | len | max2 | chr
inductive Me where
 | join
set_option genCtorIdx false in
inductive Tg where
 | one (x:Nat)
set_option genCtorIdx false in
mutual
inductive PE where
 | lit (d:PyData)
 | var (x:Nat)
 | neg (a:PE)
 | nt (a:PE)
 | bool (isAnd:Bool) (a b:PE)
 | bin (op:Operator) (a b:PE)
 | cmp (op:CmpOp) (a b:PE)
 | ite (c a b:PE)
 | list (es:qV)
 | comp (elt:PE) (t:Tg) (i:PI) (c:PO) (g:PG)
 | call (f:Nat) (es:qV)
 | bi (b:Bi) (es:qV)
 | me (m:Me) (o:PE) (es:qV)
 | lrg (a:PE)
 | idx (a i:PE)
 | slc (a:PE) (lo hi:PO)
inductive qV where
 | nil
 | cons (e:PE) (es:qV)
inductive PO where
 | no
 | yes (e:PE)
inductive PI where
 | of (e:PE)
 | range1 (a:PE)
 | range3 (a b c:Int)
 | range2 (a b:PE)
inductive PG where
 | nil
 | cons (t:Tg) (i:PI) (c:PO) (g:PG)
end
set_option genCtorIdx false in
mutual
inductive PS where
 | assign (x:Nat) (e:PE)
 | nil2 (x y:Nat) (d:PyData)
 | aug (x:Nat) (op:Operator) (e:PE)
 | app (x:Nat) (e:PE)
 | ife (c:PE) (a b:kX)
 | for_ (t:Tg) (i:PI) (b:kX)
 | while_ (c:PE) (b:kX)
 | ret (e:PE)
inductive kX where
 | nil
 | cons (s:PS) (ss:kX)
end
mutual
noncomputable def bL:PyData→Bool
 | .none | .bool _ | .int _=>true
 | .str x=>PyData.strOk x&&decide (x.length≤sizeLine)
 | .list xs=>decide (xs.length≤sizeLine)&&cD xs
 | .tuple _ | .dict _=>false
noncomputable def cD:List PyData→Bool
 | []=>true
 | x::xs=>bL x&&cD xs
end
mutual
theorem bO:∀{d:PyData},bL d=true→d.canLay0=true
 | .none,_=>by simp[PyData.canLay0]
 | .bool _,_=>by simp[PyData.canLay0]
 | .int _,_=>by simp[PyData.canLay0]
 | .str x,h=>by simp[bL]at h; simpa [PyData.canLay0]using h.1
 | .list xs,h=>by simp[bL]at h; simpa [PyData.canLay0]using b5 h.2
 | .tuple _,h | .dict _,h=>by cases h
theorem b5:∀{ds:List PyData},cD ds=true→PyData.canLayAll0 ds=true
 | [],_=>by simp[PyData.canLayAll0]
 | x::xs,h=>by simp[cD]at h; simp[PyData.canLayAll0,bO h.1,b5 h.2]
end
theorem cZ:∀{ds:List PyData},cD ds=true↔∀ d∈ds,bL d=true
 | []=>by simp[cD]
 | x::xs=>by simp[cD,cZ (ds:=xs)]
theorem kO{xs ys:List PyData}:cD (xs++ys)=true↔cD xs=true∧cD ys=true:=by
 simp only[cZ,List.mem_append]
 exact⟨fun h=>⟨fun d hd=>h d (.inl hd),fun d hd=>h d (.inr hd)⟩,fun h d hd=>hd.elim (h.1 d) (h.2 d)⟩
noncomputable def bV:PyData→Option Bool
 | .none=>some false
 | .bool b=>some b
 | .int i=>some (i != 0)
 | .str s=>some (s.length != 0)
 | .list xs=>some (!xs.isEmpty)
 | .tuple _ | .dict _=>none
noncomputable def SF(xs:List PyData):Option PyData:=if xs.length≤sizeLine then some (.list xs)else none
noncomputable def Au(s:Str):Option PyData:=if s.length≤sizeLine then some (.str s)else none
noncomputable def uN(a:Int):Bool:=decide (a.natAbs<2 ^ 1024)
section
variable{α:Type}
noncomputable def iU(x:PyData)(f:Int→Option α):Option α:=match x with | .int i=>f i | _=>none
noncomputable def qQ(x:PyData)(f:Str→Option α):Option α:=match x with | .str i=>f i | _=>none
noncomputable def l4(x:PyData)(f:List PyData→Option α):Option α:=match x with | .list i=>f i | _=>none
noncomputable def TM(x:PyData)(f:Bool→Option α):Option α:=match x with | .bool i=>f i | _=>none
end
noncomputable def YC:Operator→Int→Int→Option PyData
 | .Add,a,b=>some (.int (a+b))
 | .Sub,a,b=>some (.int (a - b))
 | .Mult,a,b=>if uN a&&uN b then some (.int (a*b))else none
 | .FloorDiv,a,b=>if 0<b&&uN b then some (.int (a.fdiv b))else none
 | .Mod,a,b=>if 0<b then some (.int (a.fmod b))else none
 | .Pow,a,b=>if uN a&&0≤b&&b≤1024 then some (.int (a ^ b.toNat))else none
 | _,_,_=>none
noncomputable def rM(op:Operator)(x y:PyData):Option PyData:=match x with
 | .int a=>iU y (YC op a)
 | .str a=>qQ y fun b=>if op == .Add then Au (a++b)else none
 | .list a=>l4 y fun b=>if op == .Add then SF (a++b)else none
 | _=>none
noncomputable def jY(a b:PyData):Bool:=decide (min a.depth b.depth≤64)
noncomputable def FE:PyData→Bool
 | .none=>true
 | _=>false
noncomputable def Av(x y:PyData):Option Bool:=match y with
 | .none=>some (FE x)
 | .bool b=>TM x fun a=>some (a==b)
 | _=>none
noncomputable def Bq(x y:PyData):Option Bool:=match y with
 | .list ys=>if jY x (.list ys)then some (ys.any fun y=>PyData.eqv y x)else none
 | .str t=>qQ x fun a=>some (Txt.contains t a)
 | _=>none
noncomputable def UG:CmpOp→Int→Int→Option Bool
 | .Lt,a,b=>some (decide (a<b))
 | .LtE,a,b=>some (decide (a≤b))
 | .Gt,a,b=>some (decide (a>b))
 | .GtE,a,b=>some (decide (a≥b))
 | _,_,_=>none
noncomputable def zI(op:CmpOp)(x y:PyData):Option PyData:=match op with
 | .Eq=>if jY x y then some (.bool (PyData.eqv x y))else none
 | .NotEq=>if jY x y then some (.bool (!PyData.eqv x y))else none
 | .In=>(Bq x y).map .bool
 | .NotIn=>(Bq x y).map fun q=>.bool (!q)
 | .Is=>(Av x y).map .bool
 | .IsNot=>(Av x y).map fun q=>.bool (!q)
 | op=>iU x fun a=>iU y fun b=>(UG op a b).map .bool
noncomputable def UH(i:Int):Option PyData:=if 0≤i&&i<0xD800 then some (.str ⟨#[i.toNat]⟩)else none
noncomputable def DT:List PyData→Option (List Str)
 | []=>some []
 | d::r=>qQ d fun i=>(DT r).map (i :: ·)
noncomputable def Eo(b:Bi)(x:PyData):Option PyData:=match b with
 | .len=>(match x with | .list xs=>some (.int xs.length)| .str s=>some (.int s.length)| _=>none)
 | .chr=>iU x UH
 | _=>none
noncomputable def Em(b:Bi)(x y:PyData):Option PyData:=match b with
 | .max2=>iU x fun a=>iU y fun b=>some (.int (if b>a then b else a))
 | _=>none
noncomputable def T6{α:Type}(ds:List PyData)(f:PyData→Option α)(g:PyData→PyData→Option α):Option α:=match ds with
 | []=>none
 | x::r=>(match r with | []=>f x | y::r=>if r.isEmpty then g x y else none)
noncomputable def XM(b:Bi)(ds:List PyData):Option PyData:=T6 ds (Eo b) (Em b)
noncomputable def zM(sep:Str)(xs:List PyData):Option PyData:=(DT xs).bind fun l=>if l.foldl (fun n x=>n+x.length+sep.length) 0≤2 ^ 20 then some (.str (Str.join sep l))else none
noncomputable def Bn(m:Me)(o:PyData)(ds:List PyData):Option PyData:=T6 ds (fun x=>match m with
 | .join=>qQ o fun sep=>l4 x (zM sep)) fun _ _=>none
noncomputable def dT(i:Int)(n:Nat):Option Nat :=
 if -(2 ^ 62)<i&&i<2 ^ 62 then
  (if 0≤i then(if i.toNat<n then some i.toNat else none)
   else if 0≤i+n then some (i+n).toNat else none)
 else none
noncomputable def BG(x y:PyData):Option PyData:=iU y fun i=>match x with
 | .list xs=>(dT i xs.length).bind (xs[·]?)
 | .str s=>(dT i s.length).bind fun k=>(s.cps[k]?).map fun c=>.str ⟨#[c]⟩
 | _=>none
noncomputable def dG(i:Int)(n:Nat):Nat:=(max 0 (min (if i<0 then i+n else i) (n:Int))).toNat
noncomputable def cut{α:Type}(l:List α)(lo hi:Option Int):List α :=
 let a:=match lo with | none=>0 | some i=>dG i l.length
 let b:=match hi with | none=>l.length | some i=>dG i l.length
 (l.take b).drop a
noncomputable def IW(d:PyData)(lo hi:Option Int):Option PyData :=
 match d with
 | .list xs=>some (.list (cut xs lo hi))
 | .str s=>some (.str ⟨(cut s.cps.toList lo hi).toArray⟩)
 | _=>none
noncomputable def pU:PyData→Option Int
 | .int i=>if -(2 ^ 62)<i&&i<2 ^ 62 then some i else none
 | _=>none
noncomputable def IK(lo hi k:Int):List PyData:=(List.range (Builtin.Range.rangeSize lo hi k).toNat).map fun(j:Nat)=>PyData.int (lo+(j:Int)*k)
noncomputable def lA(n:Int):Bool:=decide (0≤n)&&decide (n≤2 ^ 20)
noncomputable def Bx(m n k:Int):Bool:=!(k==0)&&(Builtin.Range.small m n k&&(!Builtin.divisionGoesByPylong (n - m) k&&decide ((Builtin.Range.rangeSize m n k).toNat≤1000)))
noncomputable def KY:PyData→Option (List PyData)
 | .list xs=>some xs
 | _=>none
noncomputable def gJ:Tg→PyData→aN→Option aN
 | .one x,d,ρ=>some (ρ.set x (some d))
noncomputable def bT:Tg→List Nat
 | .one x=>[x]
noncomputable def uL:PG→List Nat
 | .nil=>[]
 | .cons t _ _ g=>bT t++uL g
noncomputable def O1:List Nat→aN→aN
 | [],ρ=>ρ
 | x::xs,ρ=>O1 xs (ρ.set x none)
noncomputable def zF(f:PyData→Option (List PyData)):List PyData→Option (List PyData)
 | []=>some []
 | d::ds=>(f d).bind fun a=>(zF f ds).map fun r=>a++r
noncomputable def aY(ρ:aN)(x:Nat):Option PyData:=(ρ[x]?).join
section
variable(cl:Nat→List PyData→Option PyData)
mutual
noncomputable def aD:PE→aN→Option PyData
 | .lit d,_=>some d
 | .var x,ρ=>aY ρ x
 | .neg a,ρ=>(aD a ρ).bind fun d=>iU d fun i=>some (.int (-i))
 | .nt a,ρ=>(aD a ρ).bind fun d=>(bV d).map fun b=>.bool (!b)
 | .bool q a b,ρ=>(aD a ρ).bind fun d=>(bV d).bind fun t=>if t==q then aD b ρ else some d
 | .bin op a b,ρ=>(aD a ρ).bind fun x=>(aD b ρ).bind fun y=>rM op x y
 | .cmp op a b,ρ=>(aD a ρ).bind fun x=>(aD b ρ).bind fun y=>zI op x y
 | .ite c a b,ρ=>(aD c ρ).bind fun d=>(bV d).bind fun t=>if t then aD a ρ else aD b ρ
 | .list es,ρ=>(iT es ρ).map .list
 | .comp elt t i c g,ρ=>(wO i ρ).bind fun ds=>(zF (fun d=>(gJ t d (O1 (bT t++uL g) ρ)).bind fun ρ'=>(O0 c ρ').bind fun b=>if b then OU (aD elt) g ρ' else some []) ds).bind SF
 | .call f es,ρ=>(iT es ρ).bind fun l=>cl f l
 | .bi b es,ρ=>(iT es ρ).bind fun l=>XM b l
 | .me m o es,ρ=>(aD o ρ).bind fun d=>(iT es ρ).bind fun l=>Bn m d l
 | .lrg a,ρ=>(aD a ρ).bind fun d=>iU d fun n=>if lA n then some (.list (IK 0 n 1))else none
 | .idx a i,ρ=>(aD a ρ).bind fun x=>(aD i ρ).bind fun y=>BG x y
 | .slc a lo hi,ρ=>(aD a ρ).bind fun x=>(XJ lo ρ).bind fun l=>(XJ hi ρ).bind fun h=>IW x l h
noncomputable def iT:qV→aN→Option (List PyData)
 | .nil,_=>some []
 | .cons e es,ρ=>(aD e ρ).bind fun d=>(iT es ρ).map fun l=>d::l
noncomputable def XJ:PO→aN→Option (Option Int)
 | .no,_=>some none
 | .yes e,ρ=>(aD e ρ).bind fun d=>(pU d).map some
noncomputable def wO:PI→aN→Option (List PyData)
 | .of e,ρ=>(aD e ρ).bind KY
 | .range1 a,ρ=>(aD a ρ).bind fun d=>iU d fun n=>if lA n then some (IK 0 n 1)else none
 | .range3 m n k,_=>if Bx m n k then some (IK m n k)else none
 | .range2 a b,ρ=>(aD a ρ).bind fun x=>(aD b ρ).bind fun y=>iU x fun m=>iU y fun n=>if lA m&&lA n then some (IK m n 1)else none
noncomputable def O0:PO→aN→Option Bool
 | .no,_=>some true
 | .yes e,ρ=>(aD e ρ).bind bV
noncomputable def OU(fe:aN→Option PyData):PG→aN→Option (List PyData)
 | .nil,ρ=>(fe ρ).map fun d=>[d]
 | .cons t i c g,ρ=>(wO i ρ).bind fun ds=>zF (fun d=>(gJ t d ρ).bind fun ρ'=>(O0 c ρ').bind fun b=>if b then OU fe g ρ' else some []) ds
end
end
mutual
noncomputable def lT:PE→List Nat
 | .lit _=>[]
 | .var x=>[x]
 | .neg a=>lT a
 | .nt a=>lT a
 | .bool _ a b=>lT a++lT b
 | .bin _ a b=>lT a++lT b
 | .cmp _ a b=>lT a++lT b
 | .ite _ a b=>lT a++lT b
 | .list es=>rK es
 | .comp elt _ i _ g=>lT elt++(dX i++GJ g)
 | .call _ es=>rK es
 | .bi _ es=>rK es
 | .me _ o es=>lT o++rK es
 | .lrg _=>[]
 | .idx a _=>lT a
 | .slc a _ _=>lT a
noncomputable def rK:qV→List Nat
 | .nil=>[]
 | .cons e es=>lT e++rK es
noncomputable def dX:PI→List Nat
 | .of e=>lT e
 | .range1 _=>[]
 | .range3 _ _ _=>[]
 | .range2 _ _=>[]
noncomputable def GJ:PG→List Nat
 | .nil=>[]
 | .cons _ i _ g=>dX i++GJ g
end
noncomputable def flat:PyData→Bool
 | .none | .bool _ | .int _ | .str _=>true
 | _=>false
noncomputable def u7:PE→Bool
 | .list _ | .comp _ _ _ _ _=>true
 | _=>false
structure eH where
 env:aN
 own:List Nat
noncomputable def lose(own xs:List Nat):List Nat:=own.filter fun y=>!xs.contains y
noncomputable def iY(own:List Nat)(d:PyData)(e:PE):List Nat:=if flat d then own else lose own (lT e)
noncomputable def OX(σ:eH)(x:Nat)(d:PyData)(own:List Nat)(new:Bool):eH :=
 { env:=σ.env.set x (some d),own:=let r:=own.filter (· != x); if new then x::r else r }
set_option genCtorIdx false in
inductive Fl where
 | next (σ:eH)
 | ret (d:PyData)
noncomputable def eQ(body:eH→Option Fl)(bind:PyData→eH→Option eH):List PyData→eH→Option Fl
 | [],σ=>some (.next σ)
 | d::ds,σ=>(bind d σ).bind fun σ₁=>(body σ₁).bind fun
  | .next σ₂=>eQ body bind ds σ₂
  | .ret v=>some (.ret v)
noncomputable def dH(test:eH→Option Bool)(body:eH→Option Fl):Nat→eH→Option Fl
 | 0,_=>none
 | n+1,σ=>(test σ).bind fun t=>if t then(body σ).bind fun
   | .next σ₂=>dH test body n σ₂
   | .ret v=>some (.ret v)
  else some (.next σ)
section
variable(cl:Nat→List PyData→Option PyData)(fuel:Nat)
mutual
noncomputable def zA:PS→eH→Option Fl
 | .assign x e,σ=>(aD cl e σ.env).map fun d=>.next (OX σ x d (iY σ.own d e) (u7 e))
 | .nil2 x y d,σ=>if flat d then some (.next (OX (OX σ x (.list []) (lose σ.own []) true) y d (OX σ x (.list []) (lose σ.own []) true).own false))else none
 | .aug x op e,σ=>(aY σ.env x).bind fun a=>(aD cl e σ.env).bind fun b=>if flat a&&flat b&&(op == .Add||op == .Sub)then(rM op a b).map fun d=>.next (OX σ x d σ.own false)else none
 | .app x e,σ=>if σ.own.contains x then((aY σ.env x).bind fun q=>l4 q fun xs=>(aD cl e σ.env).bind fun d =>
     if !flat d&&(lT e).contains x then none
     else(SF (xs++[d])).map fun l=>.next { env:=σ.env.set x (some l),own:=iY σ.own d e })else none
 | .ife c a b,σ=>(aD cl c σ.env).bind fun d=>(bV d).bind fun t=>if t then c8 a σ else c8 b σ
 | .for_ t i b,σ=>(wO cl i σ.env).bind fun ds =>
   eQ (c8 b) (fun d τ=>(gJ t d τ.env).map fun ρ=>{ env:=ρ,own:=lose τ.own (bT t) }) ds { σ with own:=lose σ.own (dX i) }
 | .while_ c b,σ=>dH (fun τ=>(aD cl c τ.env).bind bV) (c8 b) fuel σ
 | .ret e,σ=>(aD cl e σ.env).map .ret
noncomputable def c8:kX→eH→Option Fl
 | .nil,σ=>some (.next σ)
 | .cons s ss,σ=>(zA s σ).bind fun
  | .next σ'=>c8 ss σ'
  | .ret d=>some (.ret d)
end
end
structure PF where
 size:Nat
 arity:Nat
 body:kX
noncomputable def d7(n:Nat)(args:List PyData):aN:=args.map some++List.replicate (n - args.length) none
noncomputable def c7(tab:Nat→Option PF)(prim:Nat→List PyData→Option PyData)(fuel:Nat):Nat→Nat→List PyData→Option PyData
 | 0,_,_=>none
 | lvl+1,f,args=>match tab f with
  | some pf=>if args.length=pf.arity then
    (match c8 (c7 tab prim fuel lvl) fuel pf.body ⟨d7 pf.size args,[]⟩with
     | some (.ret d)=>some d
     | some (.next _)=>some .none
     | none=>none)else none
  | none=>prim f args
end Kt.Internal
end
section
open PySem PySem.W PyProof.Rows
namespace Kt.Internal
def iP(o:Option Nat)(es:List Nat):Prop:=∃ y∈es,o=some y
structure aE where
 prog:Program
 w:World
 h₀:Heap
 os:OsState
 TabI:Heap→Prop
 tabK:∀ h h':Heap,TabI h→(∀ b o,b<h₀.objs.size→h.get? b=some o→h'.get? b=some o)→TabI h'
 mg:Str→Option Value
 mb:Str→Option Value
 hg:h₀.Ns mainGlobals mg
 hb:h₀.Ns builtinsNs mb
 fr:List Addr
 lam:Value:=.none
noncomputable abbrev aE.n(Z:aE):Nat:=Z.h₀.objs.size
def Sl(h':Heap)(b:Addr)(o:Obj):Prop:=h'.get? b=some o∨((∃ es ep,o.data = .dict es ep)∧∃ sl,h'.get? b=some { o with slots:=sl })
theorem Sl.ex{h':Heap}{b:Addr}{o:Obj}(x:Sl h' b o):∃ o',h'.get? b=some o'∧o'.cls=o.cls∧o'.data=o.data:=by
 rcases x with e | ⟨_,sl,e⟩
 ·exact⟨o,e,rfl,rfl⟩
 ·exact⟨_,e,rfl,rfl⟩
theorem Sl.lt{h':Heap}{b:Addr}{o:Obj}(x:Sl h' b o):b<h'.objs.size:=let⟨_,e,_⟩:=x.ex; Heap.lt_size e
theorem Sl.seq{h':Heap}{b:Addr}{o:Obj}{xs:Array Value}{n:Nat}(x:Sl h' b o)(hd:o.data = .seq xs n):h'.get? b=some o:=by
 rcases x with e | ⟨⟨es,ep,e⟩,_⟩
 ·exact e
 ·rw[hd]at e; cases e
theorem Sl.cell{h':Heap}{b:Addr}{o:Obj}{v:Option Value}(x:Sl h' b o)(hd:o.data = .cell v):h'.get? b=some o:=by
 rcases x with e | ⟨⟨es,ep,e⟩,_⟩
 ·exact e
 ·rw[hd]at e; cases e
theorem Sl.flds{h':Heap}{b:Addr}{o:Obj}{vs:Array Value}(x:Sl h' b o)(hd:o.data = .fields vs):h'.get? b=some o:=by
 rcases x with e | ⟨⟨es,ep,e⟩,_⟩
 ·exact e
 ·rw[hd]at e; cases e
theorem Sl.nd{h':Heap}{b:Addr}{o:Obj}(x:Sl h' b o)(hd:∀ es ep,o.data ≠ .dict es ep):h'.get? b=some o:=by
 rcases x with e | ⟨⟨es,ep,e⟩,_⟩
 ·exact e
 ·exact absurd e (hd es ep)
theorem Sl.next{h₁ h₂:Heap}{b:Addr}{o:Obj}(x:Sl h₁ b o)(y:∀ o',h₁.get? b=some o'→o'.cls=o.cls→Sl h₂ b o'):Sl h₂ b o:=by
 rcases x with e | ⟨hd,sl,e⟩
 ·exact y o e rfl
 ·rcases y _ e rfl with e' | ⟨_,sl',e'⟩
  ·exact .inr ⟨hd,sl,e'⟩
  ·exact .inr ⟨hd,sl',e'⟩
theorem Sl.then{h₁ h₂:Heap}{b:Addr}{o:Obj}(x:Sl h₁ b o)(y:∀ o',h₁.get? b=some o'→h₂.get? b=some o'):Sl h₂ b o:=x.next fun o' e _=>.inl (y o' e)
structure Kp(n:Nat)(h h':Heap):Prop where
 k:∀ b o,h.get? b=some o→(o.cls ≠ .none∨n≤b)→Sl h' b o
theorem Kp.refl(n:Nat)(h:Heap):Kp n h h:=⟨fun _ _ e _=>.inl e⟩
theorem Kp.trans{n:Nat}{h₁ h₂ h₃:Heap}(x:Kp n h₁ h₂)(y:Kp n h₂ h₃):Kp n h₁ h₃:=⟨fun b o e c=>(x.k b o e c).next fun o' e' hc=>y.k b o' e' (by rw[hc]; exact c)⟩
theorem Kp.of{n:Nat}{h h':Heap}(k:∀ b o,h.get? b=some o→h'.get? b=some o):Kp n h h':=⟨fun b o e _=>.inl (k b o e)⟩
theorem Kp.push(n:Nat)(h:Heap)(o:Obj):Kp n h (h.push o):=.of fun _ _ e=>Heap.get?_push_of_some _ e
theorem Kp.ns{n:Nat}{h h':Heap}{a:Addr}{m:Str→Option Value}(k:Kp n h h')(ha:n≤a)(x:h.Ns a m):h'.Ns a m :=
 let⟨_,es,ep,e,hd,r⟩:=x; let⟨o',e',_,hd'⟩:=(k.k _ _ e (.inr ha)).ex; ⟨o',es,ep,e',hd'.trans hd,r⟩
theorem Kp.cell{n:Nat}{h h':Heap}{a:Addr}{v:Option Value}(k:Kp n h h')(ha:n≤a)(x:h.IsCell a v):h'.IsCell a v :=
 let⟨o,e,r⟩:=x; ⟨o,(k.k _ _ e (.inr ha)).cell r,r⟩
inductive hH(h:Heap):Bool→List Value→List PyData→List Addr→Prop
 | none:hH h true [.none] [.none] []
 | bool (b):hH h true [.bool b] [.bool b] []
 | int (i t):hH h true [.int i t] [.int i] []
 | str (x t):hH h true [.str x t] [.str x] []
 | list {a o vs n xs as}:h.get? a=some o→(o.cls = .type "list" ∧ o.dict=none)→o.data = .seq vs n→hH h false vs.toList xs as→hH h true [.ref a] [.list xs] (a::as)
 | nil:hH h false [] [] []
 | cons {v vs d ds as bs}:hH h true [v] [d] as→hH h false vs ds bs→hH h false (v::vs) (d::ds) (as++bs)
abbrev Rd(h:Heap)(v:Value)(d:PyData)(as:List Addr):Prop:=hH h true [v] [d] as
abbrev aU(h:Heap)(vs:List Value)(ds:List PyData)(as:List Addr):Prop:=hH h false vs ds as
theorem aU.ind{h:Heap}{P:List Value→List PyData→List Addr→Prop}(h0:P [] [] [])(h1:∀{v vs d ds as bs},Rd h v d as→aU h vs ds bs→P vs ds bs→P (v::vs) (d::ds) (as++bs)){vs:List Value}{ds:List PyData}{as:List Addr}(r:aU h vs ds as):P vs ds as:=by
 have:∀{q vs ds as},hH h q vs ds as→q=false→P vs ds as:=fun r=>by
  induction r with
  | nil=>exact fun _=>h0
  | cons r1 r2 _ i2=>exact fun _=>h1 r1 r2 (i2 rfl)
  | _=>exact nofun
 exact this r rfl
theorem hH.map{h h':Heap}{q:Bool}{vs:List Value}{ds:List PyData}{as:List Addr}(r:hH h q vs ds as) :
  (∀ a o,a∈as→h.get? a=some o→o.cls = .type "list" → h'.get? a=some o)→hH h' q vs ds as:=by
 induction r with
 | none=>intro _; exact .none
 | bool b=>intro _; exact .bool b
 | int i t=>intro _; exact .int i t
 | str x t=>intro _; exact .str x t
 | list h1 h2 h3 h4 ih=>intro k; exact .list (k _ _ List.mem_cons_self h1 h2.1) h2 h3 (ih fun a o ha=>k a o (List.mem_cons_of_mem _ ha))
 | nil=>intro _; exact .nil
 | cons h1 h2 i1 i2=>intro k; exact .cons (i1 fun a o ha=>k a o (List.mem_append_left _ ha)) (i2 fun a o ha=>k a o (List.mem_append_right _ ha))
theorem hH.objs{h:Heap}{q:Bool}{vs:List Value}{ds:List PyData}{as:List Addr}(r:hH h q vs ds as):∀ a∈as,∃ o xs n,h.get? a=some o∧o.data = .seq xs n∧o.cls = .type "list" := by
 induction r with
 | none=>intro _ h; cases h
 | bool=>intro _ h; cases h
 | int=>intro _ h; cases h
 | str=>intro _ h; cases h
 | list h1 h2 h3 h4 ih =>
  intro a ha
  rcases List.mem_cons.mp ha with rfl | ha
  ·exact⟨_,_,_,h1,h3,h2.1⟩
  ·exact ih a ha
 | nil=>intro _ h; cases h
 | cons _ _ i1 i2 =>
  intro a ha
  exact(List.mem_append.mp ha).elim (i1 a) (i2 a)
theorem Kp.rd{n:Nat}{h h':Heap}{q:Bool}{vs:List Value}{ds:List PyData}{as:List Addr}(k:Kp n h h')(r:hH h q vs ds as):hH h' q vs ds as :=
 r.map fun a o ha e c=>by
  obtain⟨o',xs,m,e',hd,_⟩:=r.objs a ha
  rw[e]at e'; cases e'
  exact(k.k a o e (.inl (by rw[c]; nofun))).seq hd
theorem hH.lt{h:Heap}{q:Bool}{vs:List Value}{ds:List PyData}{as:List Addr}(r:hH h q vs ds as):∀ a∈as,a<h.objs.size:=by
 induction r with
 | none=>intro _ h; cases h
 | bool=>intro _ h; cases h
 | int=>intro _ h; cases h
 | str=>intro _ h; cases h
 | list h1 h2 h3 h4 ih =>
  intro a ha
  rcases List.mem_cons.mp ha with rfl | ha
  ·exact Heap.lt_size h1
  ·exact ih a ha
 | nil=>intro _ h; cases h
 | cons _ _ i1 i2=>intro a ha; exact(List.mem_append.mp ha).elim (i1 a) (i2 a)
theorem hH.reads'{h:Heap}{q:Bool}{vs:List Value}{ds:List PyData}{as:List Addr}(r:hH h q vs ds as):∃ bs,(q=true→∀ v d,vs=[v]→ds=[d]→Reads h v d bs)∧(q=false→ReadsAll h vs ds bs):=by
 induction r with
 | none=>exact⟨[],fun _ v d e1 e2=>by cases e1; cases e2; exact .none,nofun⟩
 | bool b=>exact⟨[],fun _ v d e1 e2=>by cases e1; cases e2; exact .bool b,nofun⟩
 | int i t=>exact⟨[],fun _ v d e1 e2=>by cases e1; cases e2; exact .int i t,nofun⟩
 | str x t=>exact⟨[],fun _ v d e1 e2=>by cases e1; cases e2; exact .str x t,nofun⟩
 | list h1 h2 h3 h4 ih =>
  obtain⟨bs,_,hb⟩:=ih
  exact⟨_,fun _ v d e1 e2=>by cases e1; cases e2; exact .list h1 h2.1 h3 (hb rfl),nofun⟩
 | nil=>exact⟨[],nofun,fun _=>.nil⟩
 | cons h1 h2 i1 i2 =>
  obtain⟨b1,x1,_⟩:=i1
  obtain⟨b2,_,x2⟩:=i2
  exact⟨b1++b2,nofun,fun _=>.cons (x1 rfl _ _ rfl rfl) (x2 rfl)⟩
theorem Rd.reads{h:Heap}{v:Value}{d:PyData}{as:List Addr}(r:Rd h v d as):∃ bs,Reads h v d bs:=let⟨bs,x,_⟩:=hH.reads' r; ⟨bs,x rfl _ _ rfl rfl⟩
theorem aU.reads{h:Heap}{vs:List Value}{ds:List PyData}{as:List Addr}(r:aU h vs ds as):∃ bs,ReadsAll h vs ds bs:=let⟨bs,_,x⟩:=hH.reads' r; ⟨bs,x rfl⟩
theorem hH.same{h:Heap}{q:Bool}{vs:List Value}{ds:List PyData}{as:List Addr}(r:hH h q vs ds as):∀{ds':List PyData}{as':List Addr},hH h q vs ds' as'→ds=ds'∧as=as':=by
 induction r with
 | none=>intro ds' as' r'; cases r'; exact⟨rfl,rfl⟩
 | bool b=>intro ds' as' r'; cases r'; exact⟨rfl,rfl⟩
 | int i t=>intro ds' as' r'; cases r'; exact⟨rfl,rfl⟩
 | str x t=>intro ds' as' r'; cases r'; exact⟨rfl,rfl⟩
 | list h1 h2 h3 h4 ih =>
  intro ds' as' r'
  cases r' with
  | list g1 g2 g3 g4 =>
   rw[h1]at g1; cases g1
   rw[h3]at g3; cases g3
   obtain⟨e1,e2⟩:=ih g4
   subst e1 e2
   exact⟨rfl,rfl⟩
 | nil=>intro ds' as' r'; cases r'; exact⟨rfl,rfl⟩
 | cons h1 h2 i1 i2 =>
  intro ds' as' r'
  cases r' with
  | cons g1 g2 =>
   obtain⟨e1,e2⟩:=i1 g1
   obtain⟨e3,e4⟩:=i2 g2
   simp only[List.cons.injEq,and_true]at e1
   subst e1 e2 e3 e4
   exact⟨rfl,rfl⟩
theorem hH.inside{h:Heap}{q:Bool}{vs:List Value}{ds:List PyData}{as:List Addr}(r:hH h q vs ds as):∀ a∈as,∃ d' as',Rd h (.ref a) d' as'∧as'.length≤as.length∧∃ r,as'=a::r:=by
 induction r with
 | none=>intro _ h; cases h
 | bool=>intro _ h; cases h
 | int=>intro _ h; cases h
 | str=>intro _ h; cases h
 | list h1 h2 h3 h4 ih =>
  intro a ha
  rcases List.mem_cons.mp ha with rfl | ha
  ·exact⟨_,_,.list h1 h2 h3 h4,Nat.le_refl _,_,rfl⟩
  ·obtain⟨d',as',x,y,z⟩:=ih a ha
   exact⟨d',as',x,Nat.le_succ_of_le y,z⟩
 | nil=>intro _ h; cases h
 | cons _ _ i1 i2 =>
  intro a ha
  rcases List.mem_append.mp ha with ha | ha
  ·obtain⟨d',as',x,y,z⟩:=i1 a ha
   exact⟨d',as',x,by rw[List.length_append]; exact Nat.le_trans y (Nat.le_add_right _ _),z⟩
  ·obtain⟨d',as',x,y,z⟩:=i2 a ha
   exact⟨d',as',x,by rw[List.length_append]; exact Nat.le_trans y (Nat.le_add_left _ _),z⟩
theorem Rd.shape{h:Heap}{v:Value}{d:PyData}{as:List Addr}(r:Rd h v d as):(as=[]∧∀ a,v ≠ .ref a)∨∃ a bs vs ds,v = .ref a∧as=a::bs∧aU h vs ds bs:=by
 cases r with
 | list h1 h2 h3 h4=>exact .inr ⟨_,_,_,_,rfl,rfl,h4⟩
 | _=>exact .inl ⟨rfl,nofun⟩
theorem Rd.apart{h:Heap}{v:Value}{d:PyData}{as:List Addr}{b:Addr}(r:Rd h v d as)(hb:as.head? = some b):b∉as.tail:=by
 rcases r.shape with⟨rfl,_⟩| ⟨a,bs,vs,ds,rfl,rfl,hin⟩
 ·cases hb
 ·simp only[List.head?_cons,Option.some.injEq]at hb
  subst hb
  intro hm
  obtain⟨d',as',r',hlen,r2,rfl⟩:=hH.inside hin a hm
  have:=(hH.same r r').2
  rw[← this]at hlen
  exact Nat.not_succ_le_self _ hlen
theorem C4{h:Heap}{vs:List Value}{ns:List Int}(hi:IntsAre vs ns):aU h vs (ns.map .int) []:=by
 induction hi with
 | nil=>exact .nil
 | cons n t _ ih=>exact hH.cons (as:=[]) (bs:=[]) (.int n t) ih
structure aZ(Z:aE)(s:Shared):Prop where
 old:OldK Z.h₀ s.heap
 lim:s.heap.NoLimit
 tab:Z.TabI s.heap
 gens:AllBare s.gens
 os:s.os=Z.os
 frs:∀ L∈Z.fr,Z.n≤L∧∃ o,s.heap.get? L=some o∧∃ es ep,o.data = .dict es ep
theorem OldK.stepOld{h₀ h h':Heap}(K:OldK h₀ h)(hk:∀ b o,b<h₀.objs.size→h.get? b=some o→h'.get? b=some o):OldK h₀ h':=by
 refine⟨fun b o e=>?_,fun b o e=>let⟨o',ho'⟩:=K.there b o e; ⟨o',hk _ _ (Heap.lt_size e) ho'⟩⟩
 have hb:=Heap.lt_size e
 rcases K.old b o e with x | ⟨t,hc,vs,more,hv,x⟩| ⟨rfl,hc,⟨o',es,n,ho',r⟩,z⟩
 ·exact .inl (hk _ _ hb x)
 ·exact .inr (.inl ⟨t,hc,vs,more,hv,hk _ _ hb x⟩)
 ·exact .inr (.inr ⟨rfl,hc,⟨o',es,n,hk _ _ hb ho',r⟩,fun key=>by rw[OldK.staticOf_congr ((hk _ _ hb ho').trans ho'.symm) key]; exact z key⟩)
theorem aZ.step{Z:aE}{s:Shared}(I:aZ Z s){h':Heap}{tk:Nat}(hk:∀ b o,b<Z.n→s.heap.get? b=some o→h'.get? b=some o)
  (hc:cStatics<Z.n) (hf:∀ L∈Z.fr,∀ o,s.heap.get? L=some o→(∃ es ep,o.data = .dict es ep)→∃ o',h'.get? L=some o'∧∃ es ep,o'.data = .dict es ep):aZ Z { s with heap:=h',toks:=tk } where
 old:=OldK.stepOld I.old hk
 lim:=let⟨mc,⟨o,es,ep,e,r⟩,b⟩:=I.lim; ⟨mc,⟨o,es,ep,hk _ _ hc e,r⟩,b⟩
 tab:=Z.tabK _ _ I.tab hk
 gens:=I.gens
 os:=I.os
 frs:=fun L hL=>let⟨h1,o,e,hd⟩:=I.frs L hL; ⟨h1,hf L hL o e hd⟩
theorem aE.low(Z:aE):mainGlobals<Z.n:=Z.hg.lt
theorem aE.lowC(Z:aE):cStatics<Z.n:=Nat.lt_trans (by decide) Z.low
theorem aZ.full{Z:aE}{s:Shared}(I:aZ Z s){h':Heap}{tk:Nat}(hk:∀ b o,s.heap.get? b=some o→h'.get? b=some o):aZ Z { s with heap:=h',toks:=tk } :=
 I.step (fun b o _ e=>hk b o e) Z.lowC fun L _ o e hd=>⟨o,hk L o e,hd⟩
theorem aZ.tok{Z:aE}{s:Shared}(I:aZ Z s)(tk:Nat):aZ Z { s with toks:=tk }:=⟨I.old,I.lim,I.tab,I.gens,I.os,I.frs⟩
theorem aZ.push{Z:aE}{s:Shared}(I:aZ Z s)(o:Obj)(tk:Nat):aZ Z { s with heap:=s.heap.push o,toks:=tk } :=
 I.full fun _ _ e=>Heap.get?_push_of_some _ e
theorem aZ.same{Z:aE}{s:Shared}(I:aZ Z s){a:Addr}{h':Heap}(ha:Z.n≤a)(hs:Heap.SameBut a s.heap h')(hfa:a∈Z.fr→∃ o',h'.get? a=some o'∧∃ es ep,o'.data = .dict es ep)(tk:Nat):aZ Z { s with heap:=h',toks:=tk } :=
 I.step (fun b o hb e=>(hs.2 b (by rintro rfl; exact Nat.lt_irrefl _ (Nat.lt_of_lt_of_le hb ha))).trans e) Z.lowC fun L hL o e hd=>by
  by_cases e':L=a
  ·subst e'; exact hfa hL
  ·exact⟨o,(hs.2 L e').trans e,hd⟩
theorem aZ.notFr{Z:aE}{s:Shared}(I:aZ Z s){a:Addr}(ha:s.heap.get? a=none):a∉Z.fr:=fun h=>by obtain⟨_,o,e,_⟩:=I.frs a h; rw[ha]at e; cases e
theorem aZ.frNot{Z:aE}{s:Shared}(I:aZ Z s){a:Addr}{o:Obj}(ha:s.heap.get? a=some o)(hd:∀ es ep,o.data ≠ .dict es ep):a∉Z.fr:=fun h=>by obtain⟨_,o',e,es,ep,hd'⟩:=I.frs a h; rw[ha]at e; cases e; exact hd es ep hd'
theorem aZ.frLt{Z:aE}{s:Shared}(I:aZ Z s){a:Addr}(ha:s.heap.objs.size≤a):a∉Z.fr:=fun h=>by obtain⟨_,o,e,_⟩:=I.frs a h; exact absurd (Heap.lt_size e) (Nat.not_lt.mpr ha)
theorem EZ{h₀ h:Heap}(K:OldK h₀ h){a:Addr}{m:Str→Option Value}(x:h₀.Ns a m)(ha:a≠cStatics):h.Ns a m:=by
 obtain⟨o,es,ep,e,hd,r⟩:=x
 rcases K.old a o e with h1 | ⟨_,_,vs,more,hv,_⟩| ⟨h1,_⟩
 ·exact⟨o,es,ep,h1,hd,r⟩
 ·rw[hd]at hv; cases hv
 ·exact absurd h1 ha
theorem aZ.glob{Z:aE}{s:Shared}(I:aZ Z s):s.heap.Ns mainGlobals Z.mg:=EZ I.old Z.hg (by decide)
theorem aZ.bltn{Z:aE}{s:Shared}(I:aZ Z s):s.heap.Ns builtinsNs Z.mb:=EZ I.old Z.hb (by decide)
def XO(env:Env)(n:Str):Prop:=env.kindOf n=some .local∨env.kindOf n=some .cell∨env.kindOf n=some .free
def uK(env:Env)(h:Heap)(n:Str)(v:Value):Prop :=
 (env.kindOf n=some .local∧∃ m,h.Ns env.locals m∧m n=some v) ∨
 ((env.kindOf n=some .cell∨env.kindOf n=some .free)∧∃ c,env.cells.lookup n=some c∧h.IsCell c (some v))
structure aH(Z:aE)(nm:List Str)(env:Env)(ρ:aN)(O:List (Option Nat×Addr))(h:Heap):Prop where
 kind:env.scope.kind = .function
 glob:env.globals=mainGlobals
 blt:env.builtins=builtinsNs
 new:Z.n≤env.locals
 ns:∃ m,h.Ns env.locals m
 live:∀ yb∈O,∃ o,h.get? yb.2=some o∧o.cls ≠ .none
 apart:∀ yb∈O,yb.2≠env.locals∧∀ n c,(env.kindOf n=some .cell∨env.kindOf n=some .free)→env.cells.lookup n=some c→yb.2≠c
 cells:∀ n,(env.kindOf n=some .cell∨env.kindOf n=some .free)→∃ c v,env.cells.lookup n=some c∧Z.n≤c∧h.IsCell c v
 inj:∀ n m c,(env.kindOf n=some .cell∨env.kindOf n=some .free)→(env.kindOf m=some .cell∨env.kindOf m=some .free)→env.cells.lookup n=some c→env.cells.lookup m=some c→n=m
 vars:∀ x d n,aY ρ x=some d→nm[x]? = some n→XO env n→∃ v as,uK env h n v∧Rd h v d as∧bL d=true∧∀ yb∈O,yb.2∈as→yb.1=some x∧as.head? = some yb.2
theorem uK.kp{n:Nat}{env:Env}{h h':Heap}{x:Str}{v:Value}(k:Kp n h h')(hl:n≤env.locals)(hc:∀ c,env.cells.lookup x=some c→(env.kindOf x=some .cell∨env.kindOf x=some .free)→n≤c)(a:uK env h x v):uK env h' x v:=by
 rcases a with⟨hk,m,hn,hv⟩| ⟨hk,c,hcl,hcell⟩
 ·exact .inl ⟨hk,m,k.ns hl hn,hv⟩
 ·exact .inr ⟨hk,c,hcl,k.cell (hc c hcl hk) hcell⟩
theorem aH.kp{Z:aE}{nm:List Str}{env:Env}{ρ:aN}{O:List (Option Nat×Addr)}{h h':Heap}(x:aH Z nm env ρ O h)(k:Kp Z.n h h'):aH Z nm env ρ O h' where
 kind:=x.kind
 glob:=x.glob
 blt:=x.blt
 new:=x.new
 ns:=let⟨m,hm⟩:=x.ns; ⟨m,k.ns x.new hm⟩
 live:=fun yb hy=>let⟨_,e,c⟩:=x.live yb hy; let⟨o',e',hc,_⟩:=(k.k _ _ e (.inl c)).ex; ⟨o',e',hc▸c⟩
 apart:=x.apart
 cells:=fun n hn=>let⟨c,v,h1,h2,h3⟩:=x.cells n hn; ⟨c,v,h1,h2,k.cell h2 h3⟩
 inj:=x.inj
 vars:=fun y d n h1 h2 h3=>by
  obtain⟨v,as,a,r,hd,ho⟩:=x.vars y d n h1 h2 h3
  exact⟨v,as,a.kp k x.new (fun c hc hk=>by obtain⟨c',_,e,hn,_⟩:=x.cells n hk; rw[hc]at e; cases e; exact hn),k.rd r,hd,ho⟩
theorem aH.lt{Z:aE}{nm:List Str}{env:Env}{ρ:aN}{O:List (Option Nat×Addr)}{h:Heap}(x:aH Z nm env ρ O h):∀ yb∈O,yb.2<h.objs.size :=
 fun yb hy=>let⟨_,e,_⟩:=x.live yb hy; Heap.lt_size e
theorem aH.size{Z:aE}{nm:List Str}{env:Env}{ρ:aN}{O:List (Option Nat×Addr)}{h:Heap}(x:aH Z nm env ρ O h):Z.n≤h.objs.size :=
 let⟨_,hm⟩:=x.ns; Nat.le_trans x.new (Nat.le_of_lt hm.lt)
structure fG(Z:aE)(lvl:Nat)(A:Around):Prop where
 handled:A.handled=none
 depth:A.depth+lvl+20<recursionLimit
 units:A.units+3*lvl+200<cLine
 frames:∃ fs,A.frames=some fs∧∀ env∈fs,env.scope.kind ≠ .module∧∃ L,env.frame=some L∧L∈Z.fr
theorem fG.mono{Z:aE}{l k:Nat}{A:Around}(h:fG Z l A)(hk:k≤l):fG Z k A:=⟨h.handled,Nat.lt_of_le_of_lt (Nat.add_le_add_right (Nat.add_le_add_left hk _) 20) h.depth,Nat.lt_of_le_of_lt (Nat.add_le_add_right (Nat.add_le_add_left (Nat.mul_le_mul_left 3 hk) _) 200) h.units,h.frames⟩
theorem fG.in_{Z:aE}{k:Nat}{A:Around}(h:fG Z (k+1) A):fG Z k A.in1:=⟨h.handled,Nat.lt_of_succ_lt h.depth,Nat.lt_of_le_of_lt (Nat.add_le_add_right (Nat.le_trans (Nat.le_of_eq (Nat.add_right_comm A.units 1 (3*k))) (Nat.le_add_right _ 2)) 200) h.units,h.frames⟩
theorem fG.dp{Z:aE}{k:Nat}{A:Around}(h:fG Z (k+1) A):A.depth+1+k+20<recursionLimit∧A.units+3+3*k+200<cLine∧A.depth<recursionLimit :=
 ⟨Nat.lt_of_le_of_lt (Nat.le_of_eq (congrArg (· + 20) (Nat.add_right_comm A.depth 1 k))) h.depth,Nat.lt_of_le_of_lt (Nat.le_of_eq (congrArg (· + 200) (Nat.add_right_comm A.units 3 (3*k)))) h.units,Nat.lt_of_le_of_lt (Nat.le_trans (Nat.le_add_right _ _) (Nat.le_add_right _ _)) h.depth⟩
def uO(sc:Scope)(env:Env):Prop :=
 (∀ n,sc.names.lookup n=some .local→env.kindOf n=some .local) ∧
 (∀ n,(sc.names.lookup n=some .cell∨sc.names.lookup n=some .free)→(env.kindOf n=some .cell∨env.kindOf n=some .free)) ∧
 (∀ n,sc.names.lookup n=some .globalImplicit→env.kindOf n=some .globalImplicit)
def pQ(Z:aE)(s:Shared)(O:List (Option Nat×Addr))(es:List Nat)(d:PyData)(Q:Value→Shared→Prop):Prop :=
 ∀ v as s',aZ Z s'→Kp Z.n s.heap s'.heap→Rd s'.heap v d as→bL d=true→(∀ yb∈O,yb.2∈as→iP yb.1 es)→Q v s'
structure Cx(Z:aE)(lvl:Nat)(nm:List Str)(sc:Scope)(A:Around)(env:Env)(ρ:aN)(O:List (Option Nat×Addr))(s:Shared):Prop where
 ha:fG Z lvl A
 hs:uO sc env
 he:aH Z nm env ρ O s.heap
 hi:aZ Z s
theorem Cx.kp{Z:aE}{lvl:Nat}{nm:List Str}{sc:Scope}{A:Around}{env:Env}{ρ:aN}{O:List (Option Nat×Addr)}{s s':Shared}(X:Cx Z lvl nm sc A env ρ O s)(k:Kp Z.n s.heap s'.heap)(I:aZ Z s'):Cx Z lvl nm sc A env ρ O s':=⟨X.ha,X.hs,X.he.kp k,I⟩
section
variable(Z:aE)(cl:Nat→List PyData→Option PyData)(lvl:Nat)(nm:List Str)
def ST(sc:Scope)(e:Expr)(p:PE):Prop :=
 ∀{A:Around}{env:Env}{ρ:aN}{O:List (Option Nat×Addr)}{s:Shared}{d:PyData}{b:Bool}{Q:Bool→Shared→Prop}{E:Value→Shared→Prop},
  Cx Z lvl nm sc A env ρ O s→aD cl p ρ=some d→bV d=some b→(∀ s',aZ Z s'→Kp Z.n s.heap s'.heap→Q b s')→wpAny (model Z.prog Z.w) A (isTrue e env (eval e env)) Q E s
def SE(sc:Scope)(e:Expr)(p:PE):Prop :=
 ∀{A:Around}{env:Env}{ρ:aN}{O:List (Option Nat×Addr)}{s:Shared}{d:PyData}{Q:Value→Shared→Prop}{E:Value→Shared→Prop},
  Cx Z lvl nm sc A env ρ O s→aD cl p ρ=some d→pQ Z s O (lT p) d Q→wpAny (model Z.prog Z.w) A (eval e env) Q E s
end
section
variable{Z:aE}{A:Around}{E:Value→Shared→Prop}{s:Shared}{O:List (Option Nat×Addr)}{es:List Nat}{Q:Value→Shared→Prop}{lvl:Nat}
theorem eX{i:Int}(I:aZ Z s)(g:pQ Z s O es (.int i) Q)(t tk:Nat):Q (.int i t) { s with toks:=tk } :=
 g _ [] _ (I.tok tk) (Kp.refl _ _) (.int i t) (by simp[bL]) (fun _ _ h=>nomatch h)
theorem eO{b:Bool}(I:aZ Z s)(g:pQ Z s O es (.bool b) Q):Q (.bool b) s :=
 g _ [] _ I (Kp.refl _ _) (.bool b) (by simp[bL]) (fun _ _ h=>nomatch h)
theorem N0(I:aZ Z s)(g:pQ Z s O es .none Q):Q .none s :=
 g _ [] _ I (Kp.refl _ _) .none (by simp[bL]) (fun _ _ h=>nomatch h)
theorem lI{x:Str}(I:aZ Z s)(g:pQ Z s O es (.str x) Q)(hx:bL (.str x)=true)(t tk:Nat):Q (.str x t) { s with toks:=tk } :=
 g _ [] _ (I.tok tk) (Kp.refl _ _) (.str x t) hx (fun _ _ h=>nomatch h)
theorem tC{x:Str}(I:aZ Z s)(g:pQ Z s O es (.str x) Q)(hx:bL (.str x)=true)(t:Nat):Q (.str x t) s :=
 g _ [] _ I (Kp.refl _ _) (.str x t) hx (fun _ _ h=>nomatch h)
theorem tD{ds:List PyData}{vs:List Value}{as:List Addr}(I:aZ Z s)(g:pQ Z s O es (.list ds) Q)(r:aU s.heap vs ds as)(hd:bL (.list ds)=true)
  (ho:∀ yb∈O,yb.2∈as→iP yb.1 es) (hO:∀ yb∈O,yb.2<s.heap.objs.size) (tk n:Nat) :
  Q (.ref s.heap.objs.size) { s with heap:=s.heap.push { cls:=.type "list",data:=.seq vs.toArray n },toks:=tk }:=by
 refine g _ (s.heap.objs.size::as) _ (I.push _ tk) (Kp.push _ _ _) (.list (Heap.get?_push_size _ rfl) ⟨rfl,rfl⟩ rfl ?_) hd ?_
 ·exact(Kp.push Z.n s.heap _).rd (by simpa using r)
 ·intro yb hy hm
  rcases List.mem_cons.mp hm with e | hm
  ·have:=hO yb hy; rw[e]at this; exact absurd this (Nat.lt_irrefl _)
  ·exact ho yb hy hm
theorem jH{h:Heap}{vs ws:List Value}{ds es:List PyData}{as bs:List Addr}(r:aU h vs ds as)(y:aU h ws es bs):aU h (vs++ws) (ds++es) (as++bs) :=
 aU.ind (P:=fun vs ds as=>aU h (vs++ws) (ds++es) (as++bs)) y (fun r1 _ i=>by rw[List.append_assoc]; exact hH.cons r1 i) r
theorem aT{h:Heap}{vs:List Value}{ds:List PyData}{as:List Addr}(r:aU h vs ds as):vs.length=ds.length:=aU.ind (P:=fun vs ds _=>vs.length=ds.length) rfl (fun _ _ i=>congrArg (· + 1) i) r
theorem iF{h:Heap}{vs:List Value}{ds:List PyData}{as:List Addr}{k:Nat}{d:PyData}(r:aU h vs ds as)(e:ds[k]? = some d):∃ v bs,vs[k]? = some v∧Rd h v d bs∧∀ a∈bs,a∈as :=
 aU.ind (P:=fun vs ds as=>∀ k,ds[k]? = some d→∃ v bs,vs[k]? = some v∧Rd h v d bs∧∀ a∈bs,a∈as) (fun _ e=>nomatch List.getElem?_nil.symm.trans e) (fun r1 _ i k e=>by
  cases k with
  | zero=>cases Option.some.inj e; exact⟨_,_,rfl,r1,fun a ha=>List.mem_append_left _ ha⟩
  | succ k =>
   obtain⟨v,bs,e1,r,hm⟩:=i k e
   exact⟨v,bs,e1,r,fun a ha=>List.mem_append_right _ (hm a ha)⟩) r k e
theorem vK{h:Heap}:∀{vs:List Value}{ds:List PyData}{as:List Addr},aU h vs ds as→∀(f:List Nat),(∀ k∈f,k<ds.length) →
  ∃ bs,aU h (f.filterMap (vs[·]?)) (f.filterMap (ds[·]?)) bs∧∀ a∈bs,a∈as
 | _,_,_,_,[],_=>⟨[],.nil,fun _ h=>nomatch h⟩
 | vs,ds,as,r,k::f,hf=>by
  obtain⟨bs,rb,hb⟩:=vK r f fun j hj=>hf j (List.mem_cons_of_mem _ hj)
  have hk:=hf k List.mem_cons_self
  obtain⟨v,cs,e1,rc,hc⟩:=iF (k:=k) (d:=ds[k]) r (by simp[hk])
  refine⟨cs++bs,?_,fun a ha=>(List.mem_append.mp ha).elim (hc a) (hb a)⟩
  have e2:ds[k]? = some ds[k]:=by simp[hk]
  rw[List.filterMap_cons,List.filterMap_cons,e1,e2]
  exact .cons rc rb
theorem dK{h:Heap}{v:Value}{xs:List PyData}{as:List Addr}(r:Rd h v (.list xs) as) :
  ∃ a vs bs,v = .ref a∧h.IsList a vs∧aU h vs.toList xs bs∧as=a::bs:=by
 cases r with
 | list h1 h2 h3 h4=>exact⟨_,_,_,rfl,⟨_,h1,h2.1,_,h3⟩,h4,rfl⟩
theorem eF{h:Heap}{v:Value}{xs:List PyData}{as:List Addr}(r:Rd h v (.list xs) as) :
  ∃ a vs n sl bs,v = .ref a∧h.get? a=some { cls:=.type "list",dict:=none,data:=.seq vs n,slots:=sl }∧aU h vs.toList xs bs∧as=a::bs:=by
 cases r with
 | list h1 h2 h3 h4 =>
  rename_i a o vs n bs
  obtain⟨cls,dd,data,sl⟩:=o
  simp only at h2 h3
  obtain⟨h2,h2'⟩:=h2
  subst h2 h2' h3
  exact⟨_,_,_,_,_,rfl,h1,h4,rfl⟩
section
variable{h:Heap}{v:Value}{x:PyData}{as:List Addr}{α:Type}{d:α}{m:Value→Prop}
theorem F9{i:Int}{as:List Addr}(r:Rd h v (.int i) as)(k:∀ t,m (.int i t)):m v:=by cases r; exact k _
theorem XQ{i:Str}{as:List Addr}(r:Rd h v (.str i) as)(k:∀ t,m (.str i t)):m v:=by cases r; exact k _
theorem Cy{i:Bool}{as:List Addr}(r:Rd h v (.bool i) as)(k:m (.bool i)):m v:=by cases r; exact k
theorem mX{f:Int→Option α}(r:Rd h v x as)(e:iU x f=some d)(k:∀ i t,f i=some d→m (.int i t)):m v:=by
 cases x with
 | int i=>exact F9 r fun t=>k i t e
 | _=>cases e
theorem Y9{f:Str→Option α}(r:Rd h v x as)(e:qQ x f=some d)(k:∀ i t,x = .str i→f i=some d→m (.str i t)):m v:=by
 cases x with
 | str i=>exact XQ r fun t=>k i t rfl e
 | _=>cases e
theorem VP{f:Bool→Option α}(r:Rd h v x as)(e:TM x f=some d)(k:∀ i,f i=some d→m (.bool i)):m v:=by
 cases x with
 | bool i=>exact Cy r (k i e)
 | _=>cases e
theorem kC{G:Prop}{f:List PyData→Option α}(e:l4 x f=some d)(k:∀ xs,x = .list xs→f xs=some d→G):G:=by
 cases x with
 | list i=>exact k i rfl e
 | _=>cases e
theorem jR{G:Prop}{f:Str→Option α}(e:qQ x f=some d)(k:∀ i,x = .str i→f i=some d→G):G:=by
 cases x with
 | str i=>exact k i rfl e
 | _=>cases e
theorem fE{i:Str}(r:Rd h v (.str i) as):∃ t,v = .str i t:=XQ (m:=fun v=>∃ t,v = .str i t) r fun t=>⟨t,rfl⟩
theorem xS{i:Bool}(r:Rd h v (.bool i) as):v = .bool i:=Cy (m:=fun v=>v = .bool i) r rfl
theorem r7{G:Prop}{f:Int→Option α}(e:iU x f=some d)(k:∀ i,x = .int i→f i=some d→G):G:=by
 cases x with
 | int i=>exact k i rfl e
 | _=>cases e
theorem y9{G:Prop}{c:Bool}{a:α}(e:(if c=true then some a else none)=some d)(k:c=true→a=d→G):G:=by
 cases c with
 | true=>exact k rfl (Option.some.inj e)
 | false=>cases e
theorem Cj{G:Prop}{c:Bool}{a:Option α}(e:(if c=true then a else none)=some d)(k:c=true→a=some d→G):G:=by
 cases c with
 | true=>exact k rfl e
 | false=>cases e
theorem hY{G c:Prop} [Decidable c] {a:Option α} (e:(if c then a else none)=some d) (k:c→a=some d→G):G:=by
 by_cases hc:c
 ·rw[if_pos hc]at e; exact k hc e
 ·rw[if_neg hc]at e; cases e
end
theorem O8{n:Nat}(h:n≤2 ^ 24):(n:Int)<2 ^ 63:=Int.lt_of_le_of_lt (Int.ofNat_le.mpr h) (by decide)
theorem JN{n:Nat}(h:n≤2 ^ 24):¬(n:Int)≥2 ^ 63:=Int.not_le.mpr (O8 h)
theorem vV{i:Int}{n:Nat}(h:0≤i+n):-(n:Int)≤i:=Int.le_of_sub_nonneg (Int.le_trans h (Int.le_of_eq (Int.sub_neg _ _).symm))
theorem S9{n m:Nat}(e:n=m)(h:m≤1001):(n:Int)<2 ^ 63:=O8 (Nat.le_trans (Nat.le_of_eq e) (Nat.le_trans h (by decide)))
theorem yZ{x:Str}(h:bL (.str x)=true):PyData.strOk x=true∧x.length≤sizeLine:=⟨(aA h).1,of_decide_eq_true (aA h).2⟩
theorem y0{xs:List PyData}(h:bL (.list xs)=true):xs.length≤sizeLine∧cD xs=true:=⟨of_decide_eq_true (aA h).1,(aA h).2⟩
theorem zE{xs:List PyData}(h:xs.length≤sizeLine)(h':cD xs=true):bL (.list xs)=true:=by rw[bL,decide_eq_true h,h']; rfl
theorem zD{x:Str}(h:PyData.strOk x=true)(h':x.length≤sizeLine):bL (.str x)=true:=by rw[bL,decide_eq_true h',h]; rfl
theorem gG{a:Int}(h:uN a=true):Builtin.Int.intBits a≤1024:=PyProof.Rows.intBits_le (of_decide_eq_true h)
theorem yT{a b:Int}(ha:uN a=true)(hb:uN b=true):IntMulOk a b:=by
 exact fun h=>absurd (of_decide_eq_true (aA h).2) (Int.not_lt.mpr (Int.le_trans (Int.add_le_add (Int.ofNat_le.mpr (gG ha)) (Int.ofNat_le.mpr (gG hb))) (by decide)))
theorem qT{a b:Int}(hb:uN b=true):Builtin.divisionGoesByPylong a b=false:=by
 refine PyProof.noPylong_of_log2 ?_
 have h:b.natAbs<2 ^ 1024:=of_decide_eq_true hb
 by_cases h0:b.natAbs=0
 ·rw[h0]; decide
 ·exact Nat.lt_trans ((Nat.log2_lt h0).mpr h) (by decide)
theorem b7{x y:Str}(hx:bL (.str x)=true)(hy:bL (.str y)=true)(hs:(x++y).length≤sizeLine):bL (.str (x++y))=true:=by
 refine zD ?_ hs
 unfold PyData.strOk
 rw[Str.cps_append,Array.all_append]
 exact Bool.and_eq_true_iff.mpr ⟨(yZ hx).1,(yZ hy).1⟩
theorem s0{u:Str}(e:u.length=0):u=Str.empty:=by obtain⟨c⟩:=u; exact congrArg Str.mk (Array.eq_empty_of_size_eq_zero e)
theorem qG{u v:Str}(e:v.length=0):u++v=u:=by rw[s0 e]; exact Str.ext' (by rw[Str.cps_append]; exact Array.append_empty)
theorem R7{op:Operator}{i j:Int}{t u:Tok}{d:PyData}(I:aZ Z s)(h:YC op i j=some d)(g:pQ Z s O es d Q):wpAny (model Z.prog Z.w) A (binaryOp op (.int i t) (.int j u)) Q E s:=by
 cases op with
 | Add=>cases h; exact P.add_int (eX I g _ _)
 | Sub=>cases h; exact P.sub_int (eX I g _ _)
 | Mult=>exact y9 h fun hf e=>by subst e; exact P.mul_int (eX I g _ _) (yT (aA hf).1 (aA hf).2)
 | FloorDiv=>exact y9 h fun hf e=>by subst e; exact floordiv_int (Int.ne_of_gt (of_decide_eq_true (aA hf).1)) (eX I g _ _) (.inl (qT (aA hf).2))
 | Mod=>exact hY h fun hf e=>by cases e; exact mod_int' (Int.ne_of_gt hf) (eX I g _ _)
 | Pow =>
  exact y9 h fun hf e=>by
   subst e
   have h0:=of_decide_eq_true (aA (aA hf).1).2
   have h2:=of_decide_eq_true (aA hf).2
   refine pow_int h0 ?_ (eX I g _ _)
   exact Int.le_trans (Int.mul_le_mul (Int.ofNat_le.mpr (gG (aA (aA hf).1).1)) h2 h0 (by decide)) (by decide)
 | _=>cases h
theorem OP{u v:Str}{t t':Tok}{d:PyData}(I:aZ Z s)(hx:bL (.str u)=true)(hy:bL (.str v)=true)(h:Au (u++v)=some d)(g:pQ Z s O es d Q):wpAny (model Z.prog Z.w) A (binaryOp .Add (.str u t) (.str v t')) Q E s:=by
 refine hY h fun hs e=>?_
 cases e
 have hok:=b7 hx hy hs
 refine P.add_str ?_
 by_cases e1:(u.length==0)=true
 ·rw[if_pos e1]
  have e2:u++v=v:=by rw[s0 (eq_of_beq e1)]; exact Str.empty_append v
  rw[e2]at g hok
  exact tC I g hok _
 ·rw[if_neg e1]
  by_cases e3:(v.length==0)=true
  ·rw[if_pos e3]
   rw[qG (eq_of_beq e3)]at g hok
   exact tC I g hok _
  ·rw[if_neg e3]
   exact⟨hs,lI I g hok _ _⟩
theorem IG{a b:Value}{xs ys:List PyData}{as bs:List Addr}{d:PyData}(I:aZ Z s)(ra:Rd s.heap a (.list xs) as)(rb:Rd s.heap b (.list ys) bs)(hx:bL (.list xs)=true)(hy:bL (.list ys)=true)(h:SF (xs++ys)=some d)
  (g:pQ Z s O es d Q) (hoa:∀ yb∈O,yb.2∈as→iP yb.1 es) (hob:∀ yb∈O,yb.2∈bs→iP yb.1 es) (hO:∀ yb∈O,yb.2<s.heap.objs.size):wpAny (model Z.prog Z.w) A (binaryOp .Add a b) Q E s:=by
 obtain⟨la,vs,n,sl,as',rfl,ho,rvs,rfl⟩:=eF ra
 obtain⟨lb,ws,n2,sl2,bs',rfl,ho2,rws,rfl⟩:=eF rb
 refine hY h fun hs e=>?_
 cases e
 have hsz:vs.size+ws.size≤sizeLine:=by
  have e1:=aT rvs
  have e2:=aT rws
  rw[Array.length_toList]at e1 e2
  rwa[e1,e2,← List.length_append]
 refine concat_meets ⟨_,ho,rfl⟩ ⟨_,ho2,rfl⟩ noFill_list_add seq_list_add PySem.F.slot_list_add PySem.F.entry_list_add (PySem.F.args_list_add_2 _ _) (list_addW la lb vs ws n n2 none none sl sl2 hsz) ⟨ho,ho2,?_⟩
 have e:vs++ws=(vs.toList++ws.toList).toArray:=by rw[← Array.toList_append]
 rw[e]
 exact tD I g (jH rvs rws) (zE hs (kO.mpr ⟨(y0 hx).2,(y0 hy).2⟩)) (fun yb hy hm=>(List.mem_append.mp hm).elim (fun m=>hoa yb hy (List.mem_cons_of_mem _ m)) fun m=>hob yb hy (List.mem_cons_of_mem _ m)) hO _ _
theorem vJ{op:Operator}{a b:Value}{x y d:PyData}{as bs:List Addr}(I:aZ Z s)(ra:Rd s.heap a x as)(rb:Rd s.heap b y bs)(hx:bL x=true)(hy:bL y=true)
  (h:rM op x y=some d) (g:pQ Z s O es d Q) (hoa:∀ yb∈O,yb.2∈as→iP yb.1 es) (hob:∀ yb∈O,yb.2∈bs→iP yb.1 es) (hO:∀ yb∈O,yb.2<s.heap.objs.size) :
  wpAny (model Z.prog Z.w) A (binaryOp op a b) Q E s:=by
 cases x with
 | int i=>exact F9 (m:=fun a=>wpAny _ A (binaryOp op a b) Q E s) ra fun t=>mX (m:=fun b=>wpAny _ A (binaryOp op _ b) Q E s) rb h fun j u h=>R7 I h g
 | str u =>
  exact XQ (m:=fun a=>wpAny _ A (binaryOp op a b) Q E s) ra fun t=>Y9 (m:=fun b=>wpAny _ A (binaryOp op _ b) Q E s) rb h fun v t' e h=>hY h fun ho h=>by
   cases eq_of_beq ho
   exact OP I hx (e▸hy) h g
 | list xs =>
  exact kC h fun ys e h=>hY h fun ho h=>by
   cases eq_of_beq ho
   subst e
   exact IG I ra rb hx hy h g hoa hob hO
 | _=>cases h
theorem fG.u{A:Around}(hA:fG Z lvl A){q:Nat}(h:q≤64):A.units+1+q<cLine :=
 Nat.lt_of_le_of_lt (Nat.add_assoc A.units 1 q▸Nat.add_assoc A.units (3*lvl) 200▸Nat.add_le_add_left (Nat.le_trans (Nat.add_le_add_left h 1) (Nat.le_trans (by decide) (Nat.le_add_left 200 _))) _) hA.units
theorem fG.u'{A:Around}(hA:fG Z lvl A){q:Nat}(h:q≤64):A.units+q<cLine:=Nat.lt_of_le_of_lt (Nat.add_le_add_right (Nat.le_succ _) q) (hA.u h)
theorem F3{xs:List PyData}(h:bL (.list xs)=true):PyData.canLayAll0 xs=true:=b5 (y0 h).2
theorem zX{a b:Value}{x y:PyData}{q:Bool}{as bs:List Addr}(hA:fG Z lvl A)(I:aZ Z s)(ra:Rd s.heap a x as)(rb:Rd s.heap b y bs)(hx:bL x=true)(hy:bL y=true)
  (h:Bq x y=some q):(Q (.bool q) s→wpAny (model Z.prog Z.w) A (compareOp .In a b) Q E s)∧(Q (.bool !q) s→wpAny (model Z.prog Z.w) A (compareOp .NotIn a b) Q E s):=by
 cases y with
 | list ys =>
  exact y9 h fun he e=>by
   subst e
   obtain⟨as',ra'⟩:=ra.reads
   obtain⟨bs',rb'⟩:=rb.reads
   have hm:=hA.u (Nat.le_trans (Nat.le_min.mpr ⟨Nat.min_le_right _ _,Nat.le_succ_of_le (Nat.min_le_left _ _)⟩) (of_decide_eq_true he:min x.depth (PyData.depthAll ys+1)≤64))
   exact⟨SeqAt.in_list_reads rb' ra' (F3 hy) (bO hx) hm,SeqAt.notIn_list_reads rb' ra' (F3 hy) (bO hx) hm⟩
 | str v =>
  obtain⟨t,rfl⟩:=fE rb
  exact jR h fun u e h=>by
   subst e
   obtain⟨t',rfl⟩:=fE ra
   have h:Txt.contains v u=q:=Option.some.inj h
   subst h
   exact⟨fun h=>P.in_str h,fun h=>P.notIn_str h⟩
 | _=>cases h
theorem s6{a b:Value}{x y:PyData}{q:Bool}{as bs:List Addr}(ra:Rd s.heap a x as)(rb:Rd s.heap b y bs)
  (h:Av x y=some q):(Q (.bool q) s→wpAny (model Z.prog Z.w) A (compareOp .Is a b) Q E s)∧(Q (.bool !q) s→wpAny (model Z.prog Z.w) A (compareOp .IsNot a b) Q E s):=by
 cases y with
 | none =>
  cases h
  have e:(a==Value.none)=FE x:=by cases ra <;> rfl
  cases rb
  exact⟨fun h=>is_none_gen (by rw[e]; exact h),fun h=>isnot_none_gen (by rw[e]; exact h)⟩
 | bool c =>
  cases xS rb
  exact VP (m:=fun a=>(Q (.bool q) s→wpAny (model Z.prog Z.w) A (compareOp .Is a _) Q E s)∧(Q (.bool !q) s→wpAny (model Z.prog Z.w) A (compareOp .IsNot a _) Q E s)) ra h fun i h=>by
   cases h
   exact⟨is_bool,isnot_bool⟩
 | _=>cases h
theorem pH{op:CmpOp}{a b:Value}{x y d:PyData}{as bs:List Addr}(hA:fG Z lvl A)(I:aZ Z s)(ra:Rd s.heap a x as)(rb:Rd s.heap b y bs)(hx:bL x=true)(hy:bL y=true)
  (h:zI op x y=some d) (g:pQ Z s O es d Q):wpAny (model Z.prog Z.w) A (compareOp op a b) Q E s:=by
 have onI:∀{op:CmpOp},(∀ i j t u q,UG op i j=some q→Q (.bool q) s→wpAny (model Z.prog Z.w) A (compareOp op (.int i t) (.int j u)) Q E s)→(iU x fun a=>iU y fun b=>(UG op a b).map PyData.bool)=some d→wpAny (model Z.prog Z.w) A (compareOp op a b) Q E s:=fun{op}k h =>
  mX (m:=fun a=>wpAny _ A (compareOp op a b) Q E s) ra h fun i t h=>mX (m:=fun b=>wpAny _ A (compareOp op _ b) Q E s) rb h fun j u h=>bY h fun q hq e=>by subst e; exact k i j t u q hq (eO I g)
 cases op with
 | Eq =>
  exact y9 h fun he e=>by
   subst e
   obtain⟨as',ra'⟩:=ra.reads
   obtain⟨bs',rb'⟩:=rb.reads
   exact SeqAt.compareEq_reads ra' rb' (bO hx) (bO hy) (hA.u' (of_decide_eq_true he)) (eO I g)
 | NotEq =>
  exact y9 h fun he e=>by
   subst e
   obtain⟨as',ra'⟩:=ra.reads
   obtain⟨bs',rb'⟩:=rb.reads
   exact SeqAt.compareNe_reads ra' rb' (bO hx) (bO hy) (hA.u' (of_decide_eq_true he)) (eO I g)
 | In=>exact bY h fun q hq e=>(zX hA I ra rb hx hy hq).1 (eO I (e▸g))
 | NotIn=>exact bY h fun q hq e=>(zX hA I ra rb hx hy hq).2 (eO I (e▸g))
 | Is=>exact bY h fun q hq e=>(s6 ra rb hq).1 (eO I (e▸g))
 | IsNot=>exact bY h fun q hq e=>(s6 ra rb hq).2 (eO I (e▸g))
 | Lt=>exact onI (fun i j t u q e hq=>by cases e; exact P.lt_int hq) h
 | LtE=>exact onI (fun i j t u q e hq=>by cases e; exact P.le_int hq) h
 | Gt=>exact onI (fun i j t u q e hq=>by cases e; exact P.gt_int hq) h
 | GtE=>exact onI (fun i j t u q e hq=>by cases e; exact P.ge_int hq) h
end
theorem DB{α:Type}(l:List α)(a b:Nat)(hb:b≤l.length):((List.range (b - a)).map (a + ·)).filterMap (l[·]?)=(l.take b).drop a:=by
 apply List.ext_getElem?
 intro i
 rw[List.filterMap_map]
 have h:∀(m:Nat),a+m≤l.length→(List.range m).filterMap ((l[·]?)∘(a + ·))=(l.drop a).take m:=by
  intro m
  induction m with
  | zero=>intro _; simp
  | succ m ih =>
   intro hm
   rw[List.range_succ,List.filterMap_append,ih (Nat.le_of_succ_le hm),List.take_add_one]
   congr 1
   simp only[List.filterMap_cons,List.filterMap_nil,Function.comp,List.getElem?_drop]
   simp[show a+m<l.length from hm]
 by_cases hab:a≤b
 ·rw[h (b - a) (Nat.le_trans (Nat.le_of_eq (Nat.add_sub_cancel' hab)) hb),List.drop_take]
 ·rw[Nat.sub_eq_zero_of_le (Nat.le_of_not_le hab)]
  simp only[List.range_zero,List.filterMap_nil,List.getElem?_nil]
  rw[List.drop_eq_nil_of_le (List.length_take▸Nat.le_trans (Nat.min_le_left _ _) (Nat.le_of_not_le hab))]
  rfl
theorem OH{α:Type}(l:List α)(lo hi:Option Int)(h:(cut l lo hi).length=l.length):cut l lo hi=l :=
 ((List.drop_sublist _ _).trans (List.take_sublist _ _)).eq_of_length h
theorem oG{α:Type}(l:List α):∀ f:List Nat,(∀ k∈f,k<l.length)→(f.filterMap (l[·]?)).length=f.length
 | [],_=>rfl
 | k::f,hf=>by
  have hk:=hf k List.mem_cons_self
  rw[List.filterMap_cons,List.getElem?_eq_getElem hk]
  simp only[List.length_cons]
  rw[oG l f fun j hj=>hf j (List.mem_cons_of_mem _ hj)]
theorem wJ(i:Int)(n:Nat):dG i n≤n:=Int.toNat_le.mpr (Int.max_le.mpr ⟨Int.natCast_nonneg n,Int.min_le_right _ _⟩)
theorem tI{k n:Nat}(h:k≤n):dG (k:Int) n=k:=by
 rw[dG,if_neg (Int.not_lt.mpr (Int.natCast_nonneg k)),Int.min_eq_left (Int.ofNat_le.mpr h)]
 exact congrArg Int.toNat (Int.max_eq_right (Int.natCast_nonneg k))
noncomputable def f8(n:Nat)(lo hi:Option Int):List Nat :=
 let a:=match lo with | none=>0 | some i=>dG i n
 let b:=match hi with | none=>n | some i=>dG i n
 (List.range (b - a)).map (a + ·)
theorem CO{α:Type}(l:List α)(lo hi:Option Int):(f8 l.length lo hi).filterMap (l[·]?)=cut l lo hi:=by
 unfold f8 cut
 refine DB l _ _ ?_
 cases hi with
 | none=>exact Nat.le_refl _
 | some i=>exact wJ _ _
theorem wK(n:Nat)(lo hi:Option Int):sliceRange (sliceBounds lo hi none n).1 (sliceBounds lo hi none n).2.1 (sliceBounds lo hi none n).2.2=f8 n lo hi:=by
 have e1:∀ i:Int,max 0 (min (if i<0 then i+n else i) (n:Int))=(dG i n:Nat):=fun i=>(Int.toNat_of_nonneg (Int.le_max_left 0 _)).symm
 unfold f8
 cases lo <;> cases hi <;> simp only[sliceBounds,Option.getD_none,Int.one_pos,gt_iff_lt,if_true,e1]
 ·exact sliceRange_one 0 n
 ·exact sliceRange_one 0 _
 ·exact sliceRange_one _ n
 ·exact sliceRange_one _ _
theorem uQ(items:Array Value)(lo hi:Option Int):slicePick items lo hi none=((f8 items.size lo hi).filterMap (items[·]?)).toArray:=by
 unfold slicePick
 rw[wK]
theorem DA(n:Nat)(lo hi:Option Int):Builtin.Str.strSliceIndices lo hi 1 n=f8 n lo hi:=by
 rw[← wK]
 cases lo <;> cases hi <;> rfl
theorem wI{n:Nat}{lo hi:Option Int}{k:Nat}(h:k∈f8 n lo hi):k<n:=by
 unfold f8 at h
 simp only[List.mem_map,List.mem_range]at h
 obtain⟨j,hj,rfl⟩:=h
 cases hi with
 | none=>exact Nat.add_lt_of_lt_sub' hj
 | some i=>exact Nat.lt_of_lt_of_le (Nat.add_lt_of_lt_sub' hj) (wJ i n)
theorem NI{xs:List PyData}(lo hi:Option Int)(h:cD xs=true):cD (cut xs lo hi)=true:=by
 rw[cZ]at *
 intro d hd
 exact h d (List.mem_of_mem_take (List.mem_of_mem_drop hd))
theorem l9{α:Type}(l:List α)(lo hi:Option Int):(cut l lo hi).length≤l.length:=((List.drop_sublist _ _).trans (List.take_sublist _ _)).length_le
theorem iE{x:Str}:PyData.strOk x=true↔∀ c∈x.cps.toList,c<0x110000:=by
 unfold PyData.strOk
 rw[← Array.all_toList,List.all_eq_true]
 simp only[decide_eq_true_eq]
section
variable{Z:aE}{A:Around}{E:Value→Shared→Prop}{s:Shared}{O:List (Option Nat×Addr)}{es:List Nat}{Q:Value→Shared→Prop}{lvl:Nat}
theorem eS{v:Value}{d:PyData}{as:List Addr}{b:Bool}{R:Bool→Shared→Prop}(I:aZ Z s)(r:Rd s.heap v d as)(hd:bL d=true)(h:bV d=some b)
  (g:∀ s',aZ Z s'→Kp Z.n s.heap s'.heap→R b s'):wpAny (model Z.prog Z.w) A (truthy v) R E s:=by
 have g0:=g s I (Kp.refl _ _)
 have g1:∀ tk,R b { s with toks:=tk }:=fun tk=>g _ (I.tok tk) (Kp.refl _ _)
 clear g
 cases d with
 | none=>cases h; cases r; exact fun _ _ _=>g0
 | bool b'=>cases h; cases xS r; exact wpAny_truthy_bool g0
 | int i=>cases h; exact F9 (m:=fun v=>wpAny _ A (truthy v) R E s) r fun t=>P.truthy_int g0
 | str x =>
  obtain⟨t,rfl⟩:=fE r
  have hs:x.length≤2 ^ 24:=(yZ hd).2
  have h:(x.length != 0)=b:=Option.some.inj h
  subst h
  have e:(((x.length:Nat):Int) != 0)=(x.length != 0):=by cases x.length <;> rfl
  exact P.truthy_str (JN hs) (e▸g1 _)
 | list xs =>
  obtain⟨a,vs,bs,rfl,hl,h4,rfl⟩:=dK r
  have h:(!xs.isEmpty)=b:=Option.some.inj h
  subst h
  have hs:xs.length≤2 ^ 24:=(y0 hd).1
  have hsz:vs.size=xs.length:=(Array.length_toList).symm.trans (aT h4)
  have e:vs.isEmpty=xs.isEmpty:=by
   unfold Array.isEmpty
   rw[hsz]
   cases xs <;> rfl
  exact wpAny_truthy_list hl (O8 (hsz▸hs)) (e▸g1 _)
 | _=>cases h
theorem nS{xs:List PyData}{k:Nat}{d:PyData}(h:cD xs=true)(e:xs[k]? = some d):bL d=true:=cZ.mp h d (List.mem_of_getElem? e)
theorem fQ{i:Int}{n k:Nat}(h:dT i n=some k):k<n∧-(2 ^ 63)≤i∧i<2 ^ 63∧((0≤i∧k=i.toNat)∨(i<0∧0≤i+n∧k=(i+n).toNat)) :=
 Cj h fun hb h =>
  have h1:-(2 ^ 63)≤i:=Int.le_trans (by decide) (Int.le_of_lt (of_decide_eq_true (aA hb).1))
  have h2:i<2 ^ 63:=Int.lt_of_lt_of_le (of_decide_eq_true (aA hb).2) (by decide)
  (Int.lt_or_le i 0).elim
   (fun hi=>hY ((if_neg (Int.not_le.mpr hi)).symm.trans h) fun h0 e=>by
    cases e; exact⟨(Int.toNat_lt h0).mpr (Int.lt_of_lt_of_le (Int.add_lt_add_right hi n) (Int.le_of_eq (Int.zero_add _))),h1,h2,.inr ⟨hi,h0,rfl⟩⟩)
   fun hi=>hY ((if_pos hi).symm.trans h) fun hk e=>by cases e; exact⟨hk,h1,h2,.inl ⟨hi,rfl⟩⟩
theorem A2{i:Int}{n k:Nat}(h:dT i n=some k):seqIndex? i n=some k:=by
 obtain⟨hk,h1,h2,h3⟩:=fQ h
 have on:∀ j:Int,0≤j→j.toNat<n→(if(decide (0≤j)&&decide (j<n))=true then some j.toNat else none)=some j.toNat:=fun j h0 hj =>
  if_pos (Bool.and_eq_true_iff.mpr ⟨decide_eq_true h0,decide_eq_true ((Int.toNat_lt h0).mp hj)⟩)
 unfold seqIndex?
 rcases h3 with⟨h3,rfl⟩| ⟨h3,h4,rfl⟩
 ·rw[if_neg (Int.not_lt.mpr h3)]; exact on _ h3 hk
 ·rw[if_pos h3]; exact on _ h4 hk
theorem vI{a b:Value}{x y d:PyData}{as bs:List Addr}(I:aZ Z s)(ra:Rd s.heap a x as)(rb:Rd s.heap b y bs)(hx:bL x=true)
  (h:BG x y=some d) (g:pQ Z s O es d Q) (hoa:∀ yb∈O,yb.2∈as.tail→iP yb.1 es):wpAny (model Z.prog Z.w) A (getItem a b) Q E s :=
 mX (m:=fun b=>wpAny _ A (getItem a b) Q E s) rb h fun i t h=>by
  cases x with
  | list xs =>
   obtain⟨la,vs,as',rfl,hl,rvs,rfl⟩:=dK ra
   exact aV h fun k hp h=>by
    obtain⟨hk,h1,h2,h3⟩:=fQ hp
    obtain⟨v,cs,ev,rv,hcs⟩:=iF rvs h
    have hsz:vs.size=xs.length:=(Array.length_toList).symm.trans (aT rvs)
    have hle:=(y0 hx).1
    rw[Array.getElem?_toList]at ev
    have hq:Q v s:=g v cs s I (Kp.refl _ _) rv (nS (y0 hx).2 h) fun yb hy hm=>hoa yb hy (hcs _ hm)
    rw[← hsz]at h3 hle
    rcases h3 with⟨h3,rfl⟩| ⟨h3,h4,rfl⟩
    ·exact wpAny_getItem_list hl h3 h2 ev hq
    ·exact wpAny_getItem_list_neg hl h3 (vV h4) h1 ev hq
  | str x =>
   obtain⟨t,rfl⟩:=fE ra
   exact aV h fun k hp h=>bY h fun c hc e=>by
    subst e
    obtain⟨hk,h1,h2,h3⟩:=fQ hp
    refine P.getItem_str (i:=i) (c:=c) (Bool.or_eq_false_iff.mpr ⟨decide_eq_false (Int.not_lt.mpr h1),decide_eq_false (Int.not_le.mpr h2)⟩) (by rw[A2 hp]; exact hc) (lI I g (zD (iE.mpr fun c' hc'=>?_) (Nat.le_of_ble_eq_true rfl)) _ _)
    cases List.mem_singleton.mp hc'
    exact iE.mp (yZ hx).1 _ (Array.mem_toList_iff.mpr (Array.mem_of_getElem? hc))
  | _=>cases h
theorem pL(o:Option (Int×Tok)):IsPart (partValue o) (o.map (·.1)):=by
 cases o with
 | none=>exact .none
 | some p=>exact .int _ _
theorem A6{x:Str}(lo hi:Option Int)(hx:bL (.str x)=true):bL (.str ⟨(cut x.cps.toList lo hi).toArray⟩)=true :=
 zD (iE.mpr fun c hc=>iE.mp (yZ hx).1 c (List.mem_of_mem_take (List.mem_of_mem_drop hc))) (Nat.le_trans (l9 x.cps.toList lo hi) (yZ hx).2)
theorem vH{a:Value}{x d:PyData}{as:List Addr}{lo hi:Option (Int×Tok)}{sl:Addr}(I:aZ Z s)(ra:Rd s.heap a x as)(hx:bL x=true)
  (hsl:s.heap.IsSlice sl lo hi none)
  (h:IW x (lo.map (·.1)) (hi.map (·.1))=some d) (g:pQ Z s O es d Q) (hoa:∀ yb∈O,yb.2∈as.tail→iP yb.1 es) (hO:∀ yb∈O,yb.2<s.heap.objs.size) :
  wpAny (model Z.prog Z.w) A (getItem a (.ref sl)) Q E s:=by
 cases x with
 | list xs =>
  obtain⟨la,vs,as',rfl,hl,rvs,rfl⟩:=dK ra
  cases h
  have hsz:vs.size=xs.length:=(Array.length_toList).symm.trans (aT rvs)
  refine wpAny_getItem_list_slice hl (vl:=partValue lo) (vu:=partValue hi) (vs:=partValue none) hsl (pL lo) (pL hi) (pL none) nofun ?_ (by rw[hsz]; exact(y0 hx).1)
  obtain⟨bs,rb,hb⟩:=vK rvs (f8 xs.length (lo.map (·.1)) (hi.map (·.1))) fun k hk=>wI hk
  rw[CO]at rb
  rw[Option.map_none,uQ,hsz,show(vs[·]?)=(vs.toList[·]?)from funext fun k=>Array.getElem?_toList.symm]
  exact tD I g rb (zE (Nat.le_trans (l9 _ _ _) (y0 hx).1) (NI _ _ (y0 hx).2)) (fun yb hy hm=>hoa yb hy (hb _ hm)) hO _ _
 | str x =>
  obtain⟨t,rfl⟩:=fE ra
  cases h
  have hok:=A6 (lo.map (·.1)) (hi.map (·.1)) hx
  refine wpAny_getItem_str_slice hsl rfl ?_
  have e:(f8 x.length (lo.map (·.1)) (hi.map (·.1))).filterMap (x.cps[·]?)=cut x.cps.toList (lo.map (·.1)) (hi.map (·.1)):=by
   rw[← CO,show(x.cps[·]?)=(x.cps.toList[·]?)from funext fun k=>Array.getElem?_toList.symm]; rfl
  unfold sliceMade slicePicked
  rw[show Option.getD (Option.map (·.1) (none:Option (Int×Tok))) 1=1 from rfl,DA]
  by_cases hc:((1:Int)==1&&(f8 x.length (lo.map (·.1)) (hi.map (·.1))).length==x.length)=true
  ·rw[if_pos hc]
   have e3:cut x.cps.toList (lo.map (·.1)) (hi.map (·.1))=x.cps.toList:=by
    refine OH _ _ _ ?_
    rw[← CO,oG _ _ fun k hk=>wI hk]
    exact eq_of_beq (aA hc).2
   rw[e3]at g
   exact tC I g hx _
  ·rw[if_neg hc,e]
   exact⟨(yZ hok).2,lI I g hok _ _⟩
 | _=>cases h
end
theorem vF:∀{xs:List PyData}{l:List Str},DT xs=some l→xs=l.map .str
 | [],l,h=>by cases h; rfl
 | d::r,l,h=>jR (x:=d) h fun i e h=>bY h fun m hm h=>by subst h; rw[e,List.map_cons,← vF hm]
theorem S3{α:Type}{ds:List PyData}{f:PyData→Option α}{g:PyData→PyData→Option α}{d:α}{m:List PyData→Prop}(h:T6 ds f g=some d)(k₁:∀ x,f x=some d→m [x])(k₂:∀ x y,g x y=some d→m [x,y]):m ds:=by
 cases ds with
 | nil=>cases h
 | cons x r =>
  cases r with
  | nil=>exact k₁ x h
  | cons y r =>
   cases r with
   | nil=>exact k₂ x y h
   | cons z r=>cases h
theorem kD{h:Heap}{vs:List Value}{x:PyData}{as:List Addr}{m:List Value→List Addr→Prop}(r:aU h vs [x] as)(k:∀ v as,Rd h v x as→m [v] as):m vs as:=by
 cases r with
 | cons r1 r2=>cases r2; rw[List.append_nil]; exact k _ _ r1
theorem KK{h:Heap}{vs:List Value}{x:PyData}{ds:List PyData}{as:List Addr}{m:List Value→Prop}(r:aU h vs (x::ds) as)(k:∀ v vs bs cs,Rd h v x bs→aU h vs ds cs→m (v::vs)):m vs:=by
 cases r with
 | cons r1 r2=>exact k _ _ _ _ r1 r2
theorem BS{h:Heap}{vs:List Value}{x y:PyData}{as:List Addr}{m:List Value→Prop}(r:aU h vs [x,y] as)(k:∀ v w as bs,Rd h v x as→Rd h w y bs→m [v,w]):m vs :=
 KK r fun v _ _ _ r1 r=>kD (m:=fun vs _=>m (v::vs)) r fun w _ r2=>k v w _ _ r1 r2
theorem NJ{c:Nat}(h:c<0x110000):bL (.str ⟨#[c]⟩)=true:=zD (iE.mpr fun c' hc=>by cases List.mem_singleton.mp hc; exact h) (Nat.le_of_ble_eq_true rfl)
section
variable{Z:aE}{A:Around}{E:Value→Shared→Prop}{s:Shared}{O:List (Option Nat×Addr)}{es:List Nat}{Q:Value→Shared→Prop}{lvl:Nat}
theorem AP{i:Int}{h':Heap}{tk:Nat}(I:aZ Z s)(g:pQ Z s O es (.int i) Q)(hk:∀ b o,s.heap.get? b=some o→h'.get? b=some o)(t:Nat):Q (.int i t) { s with heap:=h',toks:=tk } :=
 g _ [] _ (I.full hk) (.of hk) (.int i t) (by simp[bL]) (fun _ _ h=>nomatch h)
noncomputable def O2:Bi→Value
 | .len=>.builtin "len"
 | .max2=>.builtin "max"
 | .chr=>.builtin "chr"
theorem MG{b:Bi}{vs:List Value}{ds:List PyData}{as:List Addr}{d:PyData}(hA:fG Z lvl A)(I:aZ Z s)(r:aU s.heap vs ds as)(hd:cD ds=true)
  (h:XM b ds=some d) (g:pQ Z s O es d Q) (ho:∀ yb∈O,yb.2∈as→iP yb.1 es) (hO:∀ yb∈O,yb.2<s.heap.objs.size):wpAny (model Z.prog Z.w) A (call (O2 b) vs) Q E s:=by
 have hh:=hA.handled
 revert r hd
 refine S3 (m:=fun ds=>aU s.heap vs ds as→cD ds=true→wpAny (model Z.prog Z.w) A (call (O2 b) vs) Q E s) h (fun x h r hd=>?_) fun x y h r _=>?_
 ·have hx:bL x=true:=(aA hd).1
  clear ho
  refine kD (m:=fun vs _=>wpAny _ A (call (O2 b) vs) Q E s) r fun v as r=>?_
  cases b with
  | len =>
   cases x with
   | list xs =>
    obtain⟨la,ws,as',rfl,hl,rvs,rfl⟩:=dK r
    have hs:xs.length≤2 ^ 24:=(y0 hx).1
    have hsz:ws.size=xs.length:=(Array.length_toList).symm.trans (aT rvs)
    cases h
    refine Calls.call_len_list hl (O8 (hsz▸hs)) ?_
    rw[hsz]
    exact eX I g _ _
   | str x =>
    obtain⟨t,rfl⟩:=fE r
    have hs:x.length≤2 ^ 24:=(yZ hx).2
    cases h
    exact P.len_str (JN hs) (eX I g _ _)
   | _=>cases h
  | chr =>
   exact mX (m:=fun v=>wpAny _ A (call (O2 .chr) [v]) Q E s) r h fun i t h=>hY h fun hc e=>by
    cases e
    have h1:=of_decide_eq_true (aA hc).1
    have h2:=of_decide_eq_true (aA hc).2
    exact P.chr_of_int (Bool.or_eq_false_iff.mpr ⟨decide_eq_false (Int.not_lt.mpr h1),decide_eq_false (Int.not_lt.mpr (Int.le_trans (Int.le_of_lt h2) (by decide)))⟩) (lI I g (NJ ((Int.toNat_lt h1).mpr (Int.lt_trans h2 (by decide)))) _ _)
  | _=>cases h
 ·have fin:∀{c:Prop} [Decidable c] {i j:Int} {t u:Tok} {h':Heap} {tk:Nat},some (PyData.int (if c then i else j))=some d→(∀ b o,s.heap.get? b=some o→h'.get? b=some o)→Q (if c then .int i t else .int j u) { s with heap:=h',toks:=tk }:=fun{c}_{i j t u h' tk}e hk=>by
   cases e
   by_cases hc:c
   ·rw[if_pos hc]at g ⊢; exact AP I g hk _
   ·rw[if_neg hc]at g ⊢; exact AP I g hk _
  refine BS (m:=fun vs=>wpAny _ A (call (O2 b) vs) Q E s) r fun v w as bs ra rb=>?_
  cases b with
  | max2=>exact mX (m:=fun v=>wpAny _ A (call (O2 .max2) [v,w]) Q E s) ra h fun i t h=>mX (m:=fun w=>wpAny _ A (call (O2 .max2) [_,w]) Q E s) rb h fun j u h=>max_two_ints hh fun h' tk hk=>fin h hk
  | _=>cases h
end
structure wU(Z:aE)(A:Around)(I:Addr)(ds:List PyData)(used:List Addr)(St:Nat→Heap→Prop):Prop where
 new:Z.n≤I
 apart:I∉used
 frame:∀ k h h',St k h→(∀ b,b=I∨b∈used→∀ o,h.get? b=some o→h'.get? b=some o)→St k h'
 live:∀ k h,St k h→∃ o,h.get? I=some o∧o.cls ≠ .none∧∀ es ep,o.data ≠ .dict es ep
 step:∀ k d(s:Shared)(R:Option Value→Shared→Prop)(E:Value→Shared→Prop),ds[k]? = some d→St k s.heap→aZ Z s →
  (∀ v bs s',aZ Z s'→(∀ b o,b≠I→s.heap.get? b=some o→s'.heap.get? b=some o)→Rd s'.heap v d bs→(∀ a∈bs,a∈used)→St (k+1) s'.heap→R (some v) s') →
  wpAny (model Z.prog Z.w) A (pyNext (.ref I)) R E s
 done:∀(s:Shared)(Q:Option Value→Shared→Prop)(E:Value→Shared→Prop),St ds.length s.heap→aZ Z s →
  (∀ s',aZ Z s'→(∀ b o,b≠I→s.heap.get? b=some o→s'.heap.get? b=some o)→Q none s')→wpAny (model Z.prog Z.w) A (pyNext (.ref I)) Q E s
 again:∀ k(s:Shared)(Q:Value→Shared→Prop)(E:Value→Shared→Prop),St k s.heap→Q (.ref I) s→wpAny (model Z.prog Z.w) A (pyIter (.ref I)) Q E s
theorem aZ.but{Z:aE}{s:Shared}(inv:aZ Z s){I:Addr}{h':Heap}(tk:Nat)(hn:Z.n≤I)(hnf:I∉Z.fr)(hk:∀ b o,b≠I→s.heap.get? b=some o→h'.get? b=some o):aZ Z { s with heap:=h',toks:=tk } :=
 inv.step (fun b o hb e=>hk b o (fun hm=>Nat.lt_irrefl _ (Nat.lt_of_lt_of_le hb (hm▸hn))) e) Z.lowC fun L hL o e hd=>⟨o,hk L o (fun hm=>hnf (hm▸hL)) e,hd⟩
theorem kQ{h h':Heap}{l:Addr}{items:Array Value}(x:h.IsList l items)(hk:∀ o,h.get? l=some o→h'.get? l=some o):h'.IsList l items :=
 let⟨o,e,r⟩:=x; ⟨o,hk o e,r⟩
theorem A8{h h':Heap}{I l:Addr}{k:Nat}(x:h.IsListIter I l k)(hk:∀ o,h.get? I=some o→h'.get? I=some o):h'.IsListIter I l k :=
 let⟨o,e,r⟩:=x; ⟨o,hk o e,r⟩
theorem hH.keep{h h':Heap}{q:Bool}{vs:List Value}{ds:List PyData}{as:List Addr}(r:hH h q vs ds as)(k:∀ b∈as,∀ o,h.get? b=some o→h'.get? b=some o):hH h' q vs ds as :=
 r.map fun a o ha e _=>k a ha o e
section
variable{Z:aE}{A:Around}
theorem wU.list(hh:A.handled=none){I l:Addr}{items:Array Value}{ds:List PyData}{as:List Addr}(hI:Z.n≤I)(hIf:I∉Z.fr)(hap:I∉l::as) :
  wU Z A I ds (l::as) (fun k h=>h.IsListIter I l k∧h.IsList l items∧aU h items.toList ds as) where
 new:=hI
 apart:=hap
 frame:=fun k h h' st hk=>⟨A8 st.1 (hk I (.inl rfl)),kQ st.2.1 (hk l (.inr List.mem_cons_self)),st.2.2.keep fun b hb=>hk b (.inr (List.mem_cons_of_mem _ hb))⟩
 live:=fun k h st=>let⟨o,e,c,hf⟩:=st.1; ⟨o,e,by rw[c]; nofun,fun es ep hd=>by rw[hf]at hd; cases hd⟩
 step:=fun k d s R E hd st inv hR=>by
  obtain⟨v,bs,ev,rv,hbs⟩:=iF st.2.2 hd
  refine wpAny_pyNext_list_item st.1 st.2.1 (x:=v) (by rwa[Array.getElem?_toList]at ev) fun h' hit hs=>?_
  have hk:∀ b o,b≠I→s.heap.get? b=some o→h'.get? b=some o:=fun b o hb e=>hs.extBut b o hb e
  have hk':∀ b,b∈l::as→∀ o,s.heap.get? b=some o→h'.get? b=some o:=fun b hb o e=>hk b o (fun e'=>hap (e'▸hb)) e
  exact hR v bs _ (inv.but s.toks hI hIf hk) hk (rv.keep fun b hb=>hk' b (List.mem_cons_of_mem _ (hbs b hb))) (fun a ha=>List.mem_cons_of_mem _ (hbs a ha)) ⟨hit,kQ st.2.1 (hk' l List.mem_cons_self),st.2.2.keep fun b hb=>hk' b (List.mem_cons_of_mem _ hb)⟩
 done:=fun s Q E st inv hQ=>by
  refine wpAny_pyNext_list_end hh st.1 st.2.1 (by rw[← aT st.2.2,Array.length_toList]; exact Array.getElem?_eq_none (Nat.le_refl _)) fun h' hs=>?_
  have hk:∀ b o,b≠I→s.heap.get? b=some o→h'.get? b=some o:=fun b o hb e=>hs b o hb e
  exact hQ _ (inv.but s.toks hI hIf hk) hk
 again:=fun k s Q E st hQ=>wpAny_pyIter_listiter st.1 hQ
theorem wU.range(hh:A.handled=none){I:Addr}{lo st:Int}{n:Nat}(hI:Z.n≤I)(hIf:I∉Z.fr) :
  wU Z A I ((List.range n).map fun(k:Nat)=>PyData.int (lo+(k:Int)*st)) [] (fun k h=>IsRangeIter h I (lo+(k:Nat)*st) ((n:Int) - (k:Nat)) st) where
 new:=hI
 apart:=nofun
 frame:=fun k h h' e hk=>hk I (.inl rfl) _ e
 live:=fun k h e=>⟨_,e,nofun,nofun⟩
 step:=fun k d s R E hd e0 inv hR=>by
  rw[List.getElem?_map,Option.map_eq_some_iff]at hd
  obtain⟨j,hj,rfl⟩:=hd
  obtain⟨hkn,hj⟩:=List.getElem?_eq_some_iff.mp hj
  rw[List.getElem_range]at hj
  subst hj
  rw[List.length_range]at hkn
  refine wpAny_pyNext_range_item e0 (Int.sub_pos_of_lt (Int.ofNat_lt.mpr hkn)) fun h' hit hs=>?_
  have hk:∀ b o,b≠I→s.heap.get? b=some o→h'.get? b=some o:=fun b o hb e=>hs.extBut b o hb e
  refine hR _ [] _ (inv.but _ hI hIf hk) hk (.int _ _) (fun _ h=>nomatch h) ?_
  rwa[show lo+((k+1:Nat):Int)*st=lo+(k:Int)*st+st by rw[Int.natCast_add,Int.add_mul,Int.add_assoc]; exact congrArg (fun z=>lo+((k:Int)*st+z)) (Int.one_mul st),show(n:Int) - ((k+1:Nat):Int)=(n:Int) - (k:Int) - 1 from(Int.sub_sub (n:Int) (k:Int) 1).symm]
 done:=fun s Q E e0 inv hQ=>by
  rw[List.length_map,List.length_range]at e0
  refine wpAny_pyNext_range_end hh e0 (Int.le_of_eq (Int.sub_self _)) fun h' hs=>?_
  have hk:∀ b o,b≠I→s.heap.get? b=some o→h'.get? b=some o:=fun b o hb e=>hs b o hb e
  exact hQ _ (inv.but s.toks hI hIf hk) hk
 again:=fun k s Q E e0 hQ=>wpAny_pyIter_rangeiter e0 hQ
end
noncomputable def T0:Option NameKind→Bool
 | some .local | some .cell | some .free=>true
 | _=>false
noncomputable def I3:PyData→Option Const
 | .none=>some .none
 | .bool a=>some (.bool a)
 | .int a=>some (.int a)
 | .str a=>if bL (.str a)then some (.str a)else none
 | _=>none
noncomputable def sW:Bi→Str
 | .len => "len"
 | .max2 => "max"
 | .chr => "chr"
noncomputable def B9:Me→Str
 | .join => "join"
noncomputable def rC(e:Expr):Bool:=e.ctorIdx==26
noncomputable def aC(e:Expr):Bool:=e.ctorIdx==22
noncomputable def f7(e:Expr):Bool:=e.ctorIdx==8||e.ctorIdx==9||e.ctorIdx==10||e.ctorIdx==11
noncomputable def CE(e:Expr):Bool:=e.ctorIdx==19||e.ctorIdx==23
noncomputable def gW(e:Expr):Bool:=e.ctorIdx==7
noncomputable def aM(sc:Scope)(n:Str):Bool:=sc.names.lookup n==some .globalImplicit&&n != ("__debug__" : Str)
noncomputable def jZ(sc:Scope)(n:Str):Bool:=sc.names.lookup n==some .local||sc.names.lookup n==some .cell
noncomputable def jX(q:Bool):BoolOp:=if q then .And else .Or
noncomputable def EJ(nm:List Str)(sc:Scope)(scope:Scope)(ts:List Nat):Bool :=
 scope.kind == .function&&(decide (ts.Nodup)&&(decide ((scope.names.map (·.1)).Nodup)&&(decide (nm.Nodup)&&(!nm.contains ".0" &&
 scope.names.all fun p=>match p.2 with
  | .free=>sc.names.lookup p.1==some .cell||sc.names.lookup p.1==some .free
  | .local | .cell=>p.1 == ".0" || ts.any fun x=>nm[x]? == some p.1
  | .globalImplicit=>true
  | _=>false))))
noncomputable def vA(nm:List Str)(sc:Scope):Tg→Expr→Bool
 | .one x,e=>aW e fun n _=>nm[x]? == some n&&jZ sc n
noncomputable def PA(i:Int)(e:Expr):Bool:=bF e fun c _ _=>c == .int i
theorem JT{i:Int}{e:Expr}{m:Expr→Prop}(h:PA i e=true)(k:∀ a p,m (.Constant (.int i) a p)):m e:=bX h fun c a p h=>bZ (m:=fun c=>m (.Constant c a p)) h (k a p)
noncomputable def mC:qV→Nat
 | .nil=>0
 | .cons _ es=>mC es+1
section
variable(fn:List Str)(nm:List Str)
mutual
noncomputable def cO(sc:Scope):PE→Expr→Bool
 | .lit d,e=>bF e fun c _ _=>I3 d==some c
 | .var x,e=>aW e fun n _=>nm[x]? == some n&&T0 (sc.names.lookup n)&&n != ("__debug__" : Str)&&n != ("__classdict__" : Str)
 | .neg a,e=>eV e fun o x _=>o == .USub&&cO sc a x
 | .nt a,e=>eV e fun o x _=>o == .Not&&cO sc a x
 | .bool q a b,e=>kI e fun op xs pos=>op==jX q&&hM xs fun x r=>cO sc a x&&hM r fun y r=>if r.isEmpty then cO sc b y else cO sc b (.BoolOp op (y::r) pos)
 | .bin op a b,e=>nH e fun l o r _=>o==op&&(cO sc a l&&cO sc b r)
 | .cmp op a b,e=>fT e fun l os rs _=>fJ os fun o=>o==op&&fJ rs fun r=>!behindInMarks op r&&(cO sc a l&&cO sc b r)
 | .ite c a b,e=>q8 e fun t x y _=>cO sc c t&&(cO sc a x&&cO sc b y)
 | .list es,e=>oZ e fun xs _=>decide (mC es≤1000)&&m7 sc es xs
 | .comp elt t i c g,e=>jE e fun el gens scope _=>hM gens fun cp r=>B5 cp fun target iter ifs az=>az==0&&(CQ scope c ifs&&(!gW iter&&(EJ nm sc scope (bT t++uL g)&&(PD sc i iter&&(vA nm scope t target&&(I9 scope g r&&cO scope elt el))))))
 | .call f es,e=>cQ e fun fe as ks _=>ks.isEmpty&&aW fe fun n _=>fn[f]? == some n&&(aM sc n&&(decide (mC es≠0)&&m7 sc es as))
 | .bi b es,e=>cQ e fun fe as ks _=>ks.isEmpty&&aW fe fun n _=>n==sW b&&(aM sc (sW b)&&(decide (mC es≠0)&&m7 sc es as))
 | .me m o es,e=>cQ e fun fe as ks pos=>ks.isEmpty&&bI fe fun x name apos=>name==B9 m&&(CE x&&(apos.endLine==pos.line&&(decide (mC es≠0)&&(decide (mC es≤5)&&(cO sc o x&&m7 sc es as)))))
 | .lrg a,e=>cQ e fun fe as ks _=>ks.isEmpty&&aW fe fun n _=>n==("list" : Str)&&fJ as fun y=>cQ y fun ge bs ls _=>ls.isEmpty&&aW ge fun m _=>m==("range" : Str)&&fJ bs fun x=>aM sc "list" && (!aC x&&(aM sc "range" && cO sc a x))
 | .idx a i,e=>dL e fun v s _=>!rC s&&(cO sc a v&&cO sc i s)
 | .slc a lo hi,e=>dL e fun v s _=>nE s fun l u st _=>st.isNone&&(cO sc a v&&(UI sc lo l&&UI sc hi u))
noncomputable def m7(sc:Scope):qV→List Expr→Bool
 | .nil,es=>es.isEmpty
 | .cons p ps,es=>hM es fun e r=>!aC e&&(cO sc p e&&m7 sc ps r)
noncomputable def UI(sc:Scope):PO→Option Expr→Bool
 | .no,o=>o.isNone
 | .yes p,o=>gT o fun e=>cO sc p e
noncomputable def PD(sc:Scope):PI→Expr→Bool
 | .of p,e=>cO sc p e
 | .range1 a,e=>cQ e fun fe as ks _=>ks.isEmpty&&aW fe fun n _=>n==("range" : Str)&&fJ as fun x=>!aC x&&(aM sc "range" && cO sc a x)
 | .range3 m n k,e=>cQ e fun fe as ks _=>ks.isEmpty&&aW fe fun u _=>u==("range" : Str)&&hM as fun x r=>hM r fun y r=>fJ r fun v=>PA m x&&(PA n y&&(PA k v&&aM sc "range"))
 | .range2 a b,e=>cQ e fun fe as ks _=>ks.isEmpty&&aW fe fun n _=>n==("range" : Str)&&hM as fun x r=>fJ r fun y=>!aC x&&(!aC y&&(aM sc "range" && (cO sc a x&&cO sc b y)))
noncomputable def CQ(sc:Scope):PO→List Expr→Bool
 | .no,l=>l.isEmpty
 | .yes p,l=>fJ l fun e=>cO sc p e
noncomputable def I9(sc:Scope):PG→List Comprehension→Bool
 | .nil,gs=>gs.isEmpty
 | .cons t i c g,gs=>hM gs fun cp r=>B5 cp fun target iter ifs az=>az==0&&(CQ sc c ifs&&(!gW iter&&(PD sc i iter&&(vA nm sc t target&&I9 sc g r))))
end
end
noncomputable def r8:List (Str×Value) :=
 [("len",.builtin "len"),("max",.builtin "max"),("min",.builtin "min"),("chr",.builtin "chr"),("list",.type "list"),("range",.type "range"),("zip",.type "zip")]
def fC(Z:aE):Prop:=∀ n v,(n,v)∈r8→Z.mg n=none∧Z.mb n=some v
def eC(Z:aE)(lvl:Nat)(fn:List Str)(cl:Nat→List PyData→Option PyData):Prop :=
 ∀ f n args d,fn[f]? = some n→cl f args=some d→∃ a o fd,Z.mg n=some (.ref a)∧Z.h₀.get? a=some o∧o.cls ≠ .none∧o.data = .func fd ∧
  ∀(A:Around)(s:Shared)(vs:List Value)(as:List Addr)(Q:Value→Shared→Prop)(E:Value→Shared→Prop),fG Z lvl A→aZ Z s→Z.n≤s.heap.objs.size→aU s.heap vs args as→cD args=true →
   (∀ v bs s',aZ Z s'→Kp Z.n s.heap s'.heap→Rd s'.heap v d bs→bL d=true→(∀ a∈bs,a∈as∨∀ o,s.heap.get? a=some o→o.cls = .none)→Q v s')→wpAny (model Z.prog Z.w) A (call (.ref a) vs) Q E s
section
variable{M:Model}{A:Around}{E:Value→Shared→Prop}{s:Shared}{env:Env}
theorem uK.load{n:Str}{v:Value}{Q:Value→Shared→Prop}(hk:env.scope.kind = .function)(a:uK env s.heap n v)(hcd:n≠("__classdict__" : Str))(h:Q v s):wpAny M A (loadName env n) Q E s:=by
 rcases a with⟨hl,m,hn,hv⟩| ⟨hl,c,hc,hv⟩
 ·exact wpAny_loadName_local hk hl hn hv h
 ·rcases hl with hl | hl
  ·exact wpAny_loadName_cell hk hl hc hv h
  ·exact wpAny_loadName_free hk hl hc hv h (beq_eq_false_iff_ne.mpr hcd)
theorem aR{pos:Pos}{f:Value}{first:List Value}{args:List (Bool×Sem Value)}{Q:Value→Shared→Prop}(hf:∀ a,f ≠ .ref a)(hplain:args.any (·.1)=false)
  (h:wpAny M A (evalArgs f true args []) (fun a s₁=>wpAny M A (call f (first++a.pos) a.kw) Q E s₁) E s) :
  wpAny M A (callWith pos f first args []) Q E s:=by
 have hkeep:keeperOf f=pure .machine:=by
  cases f with
  | ref a=>exact absurd rfl (hf a)
  | _=>rfl
 unfold callWith
 rw[hplain,hkeep]
 exact wpAny_bind (wpAny_holding (wpAny_mono h (fun a s₁ h₁=>wpAny_bind (wpAny_standAt (wpAny_bind (wpAny_pure (wpAny_bind (wpAny_mono h₁ (fun r s₂ hr=>wpAny_bind (wpAny_holding (wpAny_point (wpAny_pure hr)))) fun _ _ x=>x)))))) fun _ _ x=>x))
end
theorem pQ.mono{Z:aE}{s s':Shared}{O:List (Option Nat×Addr)}{es es':List Nat}{d:PyData}{Q:Value→Shared→Prop}(g:pQ Z s O es d Q)(k:Kp Z.n s.heap s'.heap)(h:∀ y,y∈es'→y∈es):pQ Z s' O es' d Q :=
 fun v as s'' i k' r hd ho=>g v as s'' i (k.trans k') r hd fun yb hy hm=>let⟨y,h1,h2⟩:=ho yb hy hm; ⟨y,h y h1,h2⟩
theorem pQ.kp{Z:aE}{s s':Shared}{O:List (Option Nat×Addr)}{es:List Nat}{d:PyData}{Q:Value→Shared→Prop}(g:pQ Z s O es d Q)(k:Kp Z.n s.heap s'.heap):pQ Z s' O es d Q :=
 fun v as s'' i k' r hd ho=>g v as s'' i (k.trans k') r hd ho
theorem iP.l{o:Option Nat}{es es':List Nat}(h:iP o es):iP o (es++es'):=let⟨y,h1,h2⟩:=h; ⟨y,List.mem_append_left _ h1,h2⟩
theorem iP.r{o:Option Nat}{es es':List Nat}(h:iP o es'):iP o (es++es'):=let⟨y,h1,h2⟩:=h; ⟨y,List.mem_append_right _ h1,h2⟩
section
variable{Z:aE}{cl:Nat→List PyData→Option PyData}{lvl:Nat}{nm:List Str}{fn:List Str}{sc:Scope}
theorem UN{env:Env}{n:Str}(hs:uO sc env)(h:T0 (sc.names.lookup n)=true):XO env n:=by
 have g:=hs.2.1 n
 have g1:=hs.1 n
 generalize sc.names.lookup n=k at h g g1
 cases k with
 | none=>cases h
 | some k =>
  cases k with
  | «local»=>exact .inl (g1 rfl)
  | cell=>exact .inr (g (.inl rfl))
  | free=>exact .inr (g (.inr rfl))
  | _=>cases h
theorem MD{e:Expr}{p:PE}(h:SE Z cl lvl nm sc e p)(hw:∀ env,isTrue e env (eval e env)=(do let v ← eval e env; standAt e.pos; holding [v] (truthy v))):ST Z cl lvl nm sc e p:=fun{A env ρ O s d b Q E}X hd hb hQ=>by
 rw[hw]
 exact wpAny_bind (h X hd fun v as s' I' k r hok _=>wpAny_bind (wpAny_standAt (wpAny_holding (eS I' r hok hb fun s'' I'' k''=>hQ s'' I'' (k.trans k'')))))
theorem KF{d:PyData}{c:Const}{k:Nat}{pos:Pos}(h:I3 d=some c):SE Z cl lvl nm sc (.Constant c k pos) (.lit d):=fun{A env ρ O s d' Q E}X hd g=>by
 cases hd
 rw[arm_eval_Constant]
 cases d with
 | none=>cases h; exact wpAny_pure (N0 X.hi g)
 | bool a=>cases h; exact wpAny_pure (eO X.hi g)
 | int a=>cases h; exact wpAny_mkInt (eX X.hi g _ _)
 | str a=>exact y9 h fun h2 e=>by subst e; exact wpAny_mkText (lI X.hi g h2 _ _)
 | _=>cases h
theorem VD{x:Nat}{n:Str}{pos:Pos}(hn:nm[x]? = some n)(hv:T0 (sc.names.lookup n)=true)(hd:n≠("__debug__" : Str))(hc:n≠("__classdict__" : Str)):SE Z cl lvl nm sc (.Name n pos) (.var x):=fun{A env ρ O s d Q E}X he g=>by
 obtain⟨v,as,a,r,hok,ho⟩:=X.he.vars x d n he hn (UN X.hs hv)
 exact wpAny_Name (a.load X.he.kind hc (g v as s X.hi (Kp.refl _ _) r hok fun yb hy hm=>⟨x,List.mem_singleton.mpr rfl,(ho yb hy hm).1⟩)) (beq_eq_false_iff_ne.mpr hd)
theorem VG{a:PE}{e:Expr}{pos:Pos}(h:SE Z cl lvl nm sc e a):SE Z cl lvl nm sc (.UnaryOp .USub e pos) (.neg a):=fun{A env ρ O s d Q E}X hd g=>aV hd fun x hx hd=>by
 rw[arm_eval_UnaryOp]
 refine wpAny_bind (h X hx fun v as s' I' k r hok ho=>mX (m:=fun v=>wpAny _ A (do standAt pos; holding [v] (unaryOp .USub v)) Q E s') r hd fun i t e=>?_)
 cases e
 exact wpAny_bind (wpAny_standAt (wpAny_holding (P.neg_int (eX I' (g.kp k) _ _))))
theorem Y0{a:PE}{e:Expr}{pos:Pos}(h:SE Z cl lvl nm sc e a):SE Z cl lvl nm sc (.UnaryOp .Not e pos) (.nt a):=fun{A env ρ O s d Q E}X hd g=>aV hd fun x hx hd=>bY hd fun b hb e=>by
 subst e
 rw[arm_eval_UnaryOp]
 refine wpAny_bind (h X hx fun v as s' I' k r hok ho=>wpAny_bind (wpAny_standAt (wpAny_holding ?_)))
 exact wpAny_holding (wpAny_bind (eS I' r hok hb fun s'' I'' k''=>wpAny_pure (eO I'' (g.kp (k.trans k'')))))
theorem YW{a:PE}{e:Expr}{pos:Pos}(h:ST Z cl lvl nm sc e a):ST Z cl lvl nm sc (.UnaryOp .Not e pos) (.nt a):=fun{A env ρ O s d b Q E}X hd hb hQ=>aV hd fun x hx hd=>bY hd fun t ht e=>by
 subst e
 cases hb
 exact wpAny_isTrue_Not (h X hx ht hQ)
theorem VL{op:Operator}{a b:PE}{l r:Expr}{pos:Pos}(ha:SE Z cl lvl nm sc l a)(hb:SE Z cl lvl nm sc r b):SE Z cl lvl nm sc (.BinOp l op r pos) (.bin op a b):=fun{A env ρ O s d Q E}X hd g=>aV hd fun x hx hd=>aV hd fun y hy hd =>
 wpAny_BinOp (ha X hx fun va as s₁ I₁ k₁ r₁ ok₁ o₁=>hb (X.kp k₁ I₁) hy fun vb bs s₂ I₂ k₂ r₂ ok₂ o₂ =>
  vJ I₂ (k₂.rd r₁) r₂ ok₁ ok₂ hd (g.kp (k₁.trans k₂)) (fun yb hy hm=>(o₁ yb hy hm).l) (fun yb hy hm=>(o₂ yb hy hm).r) (X.he.kp (k₁.trans k₂)).lt)
theorem VK{op:CmpOp}{a b:PE}{l r:Expr}{pos:Pos}(hm:behindInMarks op r=false)(ha:SE Z cl lvl nm sc l a)(hb:SE Z cl lvl nm sc r b):SE Z cl lvl nm sc (.Compare l [op] [r] pos) (.cmp op a b):=fun{A env ρ O s d Q E}X hd g=>aV hd fun x hx hd=>aV hd fun y hy hd =>
 wpAny_Compare1 (ha X hx fun va as s₁ I₁ k₁ r₁ ok₁ o₁=>hb (X.kp k₁ I₁) hy fun vb bs s₂ I₂ k₂ r₂ ok₂ o₂=>pH X.ha I₂ (k₂.rd r₁) r₂ ok₁ ok₂ hd (g.kp (k₁.trans k₂))) hm
theorem U7{op:CmpOp}{a b:PE}{l r:Expr}{pos:Pos}(hm:behindInMarks op r=false)(ha:SE Z cl lvl nm sc l a)(hb:SE Z cl lvl nm sc r b):ST Z cl lvl nm sc (.Compare l [op] [r] pos) (.cmp op a b):=fun{A env ρ O s d t Q E}X hd ht hQ=>aV hd fun x hx hd=>aV hd fun y hy hd =>
 wpAny_isTrue_Compare1 (ha X hx fun va as s₁ I₁ k₁ r₁ ok₁ o₁=>hb (X.kp k₁ I₁) hy fun vb bs s₂ I₂ k₂ r₂ ok₂ o₂=>pH (O:=[]) (es:=[]) X.ha I₂ (k₂.rd r₁) r₂ ok₁ ok₂ hd fun v cs s₃ I₃ k₃ r₃ ok₃ _ =>
  eS I₃ r₃ ok₃ ht fun s₄ I₄ k₄=>hQ s₄ I₄ ((k₁.trans k₂).trans (k₃.trans k₄))) hm
theorem VI{c a b:PE}{t x y:Expr}{pos:Pos}(hc:ST Z cl lvl nm sc t c)(ha:SE Z cl lvl nm sc x a)(hb:SE Z cl lvl nm sc y b):SE Z cl lvl nm sc (.IfExp t x y pos) (.ite c a b):=fun{A env ρ O s d Q E}X hd g=>aV hd fun q hx hd=>aV hd fun t ht hd=>by
 rw[arm_eval_IfExp]
 refine wpAny_bind (hc X hx ht fun s₁ I₁ k₁=>?_)
 cases t with
 | true=>exact ha (X.kp k₁ I₁) hd (g.mono k₁ fun _=>List.mem_append_left _)
 | false=>exact hb (X.kp k₁ I₁) hd (g.mono k₁ fun _=>List.mem_append_right _)
theorem U6{c a b:PE}{t x y:Expr}{pos:Pos}(hc:ST Z cl lvl nm sc t c)(ha:ST Z cl lvl nm sc x a)(hb:ST Z cl lvl nm sc y b):ST Z cl lvl nm sc (.IfExp t x y pos) (.ite c a b):=fun{A env ρ O s d r Q E}X hd hr hQ=>aV hd fun q hx hd=>aV hd fun t ht hd=>by
 rw[arm_isTrue_IfExp]
 refine wpAny_bind (hc X hx ht fun s₁ I₁ k₁=>?_)
 cases t with
 | true=>exact ha (X.kp k₁ I₁) hd hr fun s₂ I₂ k₂=>hQ s₂ I₂ (k₁.trans k₂)
 | false=>exact hb (X.kp k₁ I₁) hd hr fun s₂ I₂ k₂=>hQ s₂ I₂ (k₁.trans k₂)
theorem AS{q:Bool}{a b:PE}{ρ:aN}{d:PyData}{G:Prop}(hd:aD cl (.bool q a b) ρ=some d)(k:∀ x t,aD cl a ρ=some x→bV x=some t→(t=q∧aD cl b ρ=some d)∨(t=(!q)∧x=d)→G):G :=
 aV hd fun x hx hd=>aV hd fun t ht hd=>k x t hx ht <| by
  by_cases h:(t==q)=true
  ·rw[if_pos h]at hd; exact .inl ⟨eq_of_beq h,hd⟩
  ·rw[if_neg h]at hd; exact .inr ⟨by cases t <;> cases q <;> first | rfl | exact absurd rfl h,Option.some.inj hd⟩
theorem EI{q:Bool}{a b:PE}{x:Expr}{rest:List Expr}{pos:Pos}(hr:∀ env,∃ y r,evalEach rest env=y::r)(ha:SE Z cl lvl nm sc x a)
  (hb:∀{A:Around}{env:Env}{ρ:aN}{O:List (Option Nat×Addr)}{s:Shared}{d:PyData}{Q:Value→Shared→Prop}{E:Value→Shared→Prop},
   Cx Z lvl nm sc A env ρ O s→aD cl b ρ=some d→pQ Z s O (lT b) d Q→wpAny (model Z.prog Z.w) A (boolOp pos (jX q) (evalEach rest env)) Q E s) :
  SE Z cl lvl nm sc (.BoolOp (jX q) (x::rest) pos) (.bool q a b):=fun{A env ρ O s d Q E}X hd g=>AS hd fun y t hx ht hc=>by
 rw[arm_eval_BoolOp,arm_evalEach_cons]
 have hb':=fun{s₂}(k:Kp Z.n s.heap s₂.heap)(I:aZ Z s₂)h=>hb (Q:=Q) (E:=E) (X.kp k I) h (g.mono k fun _=>List.mem_append_right _)
 obtain⟨y',r',e⟩:=hr env
 rw[e]at hb' ⊢
 refine wpAny_bind (ha X hx fun v as s₁ I₁ k₁ r₁ ok₁ o₁=>wpAny_bind (wpAny_standAt (wpAny_bind (wpAny_holding (eS I₁ r₁ ok₁ ht fun s₂ I₂ k₂=>?_)))))
 rcases hc with⟨rfl,hc⟩| ⟨rfl,rfl⟩
 ·have:=hb' (k₁.trans k₂) I₂ hc
  cases t <;> exact this
 ·have:Q v s₂:=g v as s₂ I₂ (k₁.trans k₂) (k₂.rd r₁) ok₁ fun yb hy hm=>(o₁ yb hy hm).l
  cases q <;> exact wpAny_pure this
theorem EE{q:Bool}{a b:PE}{x:Expr}{rest:List Expr}{pos:Pos}(ha:ST Z cl lvl nm sc x a)
  (hb:∀{A:Around}{env:Env}{ρ:aN}{O:List (Option Nat×Addr)}{s:Shared}{d:PyData}{t:Bool}{Q:Bool→Shared→Prop}{E:Value→Shared→Prop},
   Cx Z lvl nm sc A env ρ O s→aD cl b ρ=some d→bV d=some t→(∀ s',aZ Z s'→Kp Z.n s.heap s'.heap→Q t s')→wpAny (model Z.prog Z.w) A (allTrue (jX q) rest env) Q E s) :
  ST Z cl lvl nm sc (.BoolOp (jX q) (x::rest) pos) (.bool q a b):=fun{A env ρ O s d r Q E}X hd hr hQ=>AS hd fun y t hx ht hc=>by
 rw[arm_isTrue_BoolOp,arm_allTrue_cons]
 refine wpAny_bind (ha X hx ht fun s₁ I₁ k₁=>?_)
 rcases hc with⟨rfl,hc⟩| ⟨rfl,rfl⟩
 ·have:=hb (E:=E) (X.kp k₁ I₁) hc hr fun s₂ I₂ k₂=>hQ s₂ I₂ (k₁.trans k₂)
  cases t <;> exact this
 ·cases ht.symm.trans hr
  have:=hQ s₁ I₁ k₁
  cases q <;> exact wpAny_pure this
end
theorem kR{cl:Nat→List PyData→Option PyData}{ρ:aN}:∀{ps:qV}{ds:List PyData},iT cl ps ρ=some ds→ds.length=mC ps
 | .nil,ds,h=>by cases h; rfl
 | .cons p ps,ds,h=>aV (o:=aD cl p ρ) h fun x hx h=>bY h fun l hl e=>by subst e; exact congrArg Nat.succ (kR hl)
section
variable{Z:aE}{cl:Nat→List PyData→Option PyData}{lvl:Nat}{nm:List Str}{fn:List Str}{sc:Scope}
def IL(Z:aE)(cl:Nat→List PyData→Option PyData)(lvl:Nat)(nm:List Str)(sc:Scope)(es:List Expr)(ps:qV):Prop :=
 ∀{A:Around}{env:Env}{ρ:aN}{O:List (Option Nat×Addr)}{s:Shared}{ds:List PyData}{R:List Value→Shared→Prop}{E:Value→Shared→Prop}{pos:Pos},
  Cx Z lvl nm sc A env ρ O s→iT cl ps ρ=some ds →
  (∀ vs as s',aZ Z s'→Kp Z.n s.heap s'.heap→aU s'.heap vs ds as→cD ds=true→(∀ yb∈O,yb.2∈as→iP yb.1 (rK ps))→R vs s') →
  wpAny (model Z.prog Z.w) A (spliced (backTo pos (starEach es env))) R E s
theorem xQ:IL Z cl lvl nm sc [] .nil:=fun{A env ρ O s ds R E pos}X hd hR=>by
 cases hd
 exact Calls.spliced_nil (hR [] [] s X.hi (Kp.refl _ _) .nil rfl fun _ _ h=>nomatch h)
theorem nN{e:Expr}{es:List Expr}{p:PE}{ps:qV}(hstar:∀ env,starEach (e::es) env=(false,eval e env)::starEach es env)(h1:SE Z cl lvl nm sc e p)(h2:IL Z cl lvl nm sc es ps):IL Z cl lvl nm sc (e::es) (.cons p ps):=fun{A env ρ O s ds R E pos}X hd hR=>aV hd fun x hx hd=>bY hd fun l hl e=>by
 subst e
 rw[hstar]
 exact Calls.spliced_cons (h1 X hx fun v as s₁ I₁ k₁ r₁ ok₁ o₁=>h2 (X.kp k₁ I₁) hl fun vs bs s₂ I₂ k₂ r₂ ok₂ o₂ =>
  hR (v::vs) (as++bs) s₂ I₂ (k₁.trans k₂) (.cons (k₂.rd r₁) r₂) (by rw[cD,ok₁,ok₂]; rfl) fun yb hy hm=>(List.mem_append.mp hm).elim (fun hm=>(o₁ yb hy hm).l) fun hm=>(o₂ yb hy hm).r)
theorem P3{es:List Expr}{ps:qV}{pos:Pos}(hlen:mC ps≤1000)(h:IL Z cl lvl nm sc es ps):SE Z cl lvl nm sc (.List es pos) (.list ps):=fun{A env ρ O s d Q E}X hd g=>bY hd fun ds hds e=>by
 subst e
 rw[arm_eval_List]
 exact wpAny_bind (wpAny_standAt (wpAny_bind (h X hds fun vs as s₁ I₁ k₁ r₁ ok₁ o₁=>by
  have hl:ds.length≤sizeLine:=Nat.le_trans (kR hds▸hlen) (by decide)
  exact wpAny_newList (tD I₁ (g.kp k₁) r₁ (zE hl ok₁) o₁ (X.he.kp k₁).lt _ _) (aT r₁▸hl))))
theorem fP{n:Str}(hg:aM sc n=true):sc.names.lookup n=some .globalImplicit∧(n==("__debug__" : Str))=false:=⟨eq_of_beq (aA hg).1,bH (aA hg).2⟩
theorem N3{n:Str}{pos:Pos}{env:Env}{v:Value}{A:Around}{s:Shared}{Q:Value→Shared→Prop}{E:Value→Shared→Prop}{ρ:aN}{O:List (Option Nat×Addr)}(X:Cx Z lvl nm sc A env ρ O s)
  (hg:aM sc n=true) (hv:Z.mg n=some v) (h:Q v s):wpAny (model Z.prog Z.w) A (eval (.Name n pos) env) Q E s :=
 Calls.Name_function_global X.he.kind (X.hs.2.2 n (fP hg).1) (Calls.loadGlobal_global (mg:=Z.mg) (X.he.glob▸X.hi.glob) hv h) (fP hg).2
theorem yN{n:Str}{pos:Pos}{env:Env}{v:Value}{A:Around}{s:Shared}{Q:Value→Shared→Prop}{E:Value→Shared→Prop}{ρ:aN}{O:List (Option Nat×Addr)}(hB:fC Z)(X:Cx Z lvl nm sc A env ρ O s)
  (hg:aM sc n=true) (hv:(n,v)∈r8) (h:Q v s):wpAny (model Z.prog Z.w) A (eval (.Name n pos) env) Q E s :=
 Calls.Name_function_global X.he.kind (X.hs.2.2 n (fP hg).1) (Calls.loadGlobal_builtin (mg:=Z.mg) (mb:=Z.mb) (X.he.glob▸X.hi.glob) (hB n v hv).1 (X.he.blt▸X.hi.bltn) (hB n v hv).2 h) (fP hg).2
theorem bJ{f:Value}{es:List Expr}{pos:Pos}{env:Env}{A:Around}{s:Shared}{Q:Args→Shared→Prop}{E:Value→Shared→Prop}(hne:∃ x r,backTo pos (starEach es env)=(false,x)::r)
  (h:wpAny (model Z.prog Z.w) A (spliced (backTo pos (starEach es env))) (fun vs s'=>Q ⟨vs,[]⟩ s') E s):wpAny (model Z.prog Z.w) A (evalArgs f true (backTo pos (starEach es env)) []) Q E s:=by
 obtain⟨x,r,e⟩:=hne
 rw[e]at h ⊢
 exact Calls.evalArgs_plain h
def aX(es:List Expr):Prop:=(∀ env pos,(backTo pos (starEach es env)).any (·.1)=false)∧(es≠[]→∀ env pos,∃ x r,backTo pos (starEach es env)=(false,x)::r)∧∀ env pos,(backTo pos (starEach es env)).length=es.length
theorem bG(n:Str)(p pos:Pos)(args:List Expr)(env:Env):eval (.Call (.Name n p) args [] pos) env=(do callWith pos (← eval (.Name n p) env) [] (backTo pos (starEach args env)) (backToKw pos (keywordEach [] env))):=rfl
theorem P5{f:Nat}{n:Str}{p pos:Pos}{es:List Expr}{ps:qV}(hC:eC Z lvl fn cl)(hn:fn[f]? = some n)(hg:aM sc n=true)(hne:es≠[])(hpl:aX es)(h:IL Z cl lvl nm sc es ps) :
  SE Z cl lvl nm sc (.Call (.Name n p) es [] pos) (.call f ps):=fun{A env ρ O s d Q E}X hd g=>aV hd fun ds hx hd=>by
 obtain⟨a,o,fd,hv,ho,hoc,hof,hcall⟩:=hC f n ds d hn hd
 rw[bG]
 exact wpAny_bind (N3 X hg hv (Calls.callWith_function (o:=o) (fd:=fd) (bJ (hpl.2.1 hne env pos) (h X hx fun vs as s₁ I₁ k₁ r₁ ok₁ o₁ =>
  ⟨⟨I₁.old.get_of_cls ho hoc,hof⟩,hcall A s₁ vs as Q E X.ha I₁ (X.he.kp k₁).size r₁ ok₁ fun v bs s₂ I₂ k₂ r₂ ok₂ o₂=>g v bs s₂ I₂ (k₁.trans k₂) r₂ ok₂ fun yb hy hm=>(o₂ _ hm).elim (o₁ yb hy) fun hm=>by
   obtain⟨oo,e,c⟩:=(X.he.kp k₁).live yb hy
   exact absurd (hm _ e) c⟩))))
theorem IF(b:Bi):(sW b,O2 b)∈r8:=by cases b <;> decide
theorem DP(b:Bi)(a:Addr):O2 b ≠ .ref a:=by cases b <;> nofun
theorem Y2{b:Bi}{p pos:Pos}{es:List Expr}{ps:qV}(hB:fC Z)(hg:aM sc (sW b)=true)(hne:es≠[])(hpl:aX es)(h:IL Z cl lvl nm sc es ps) :
  SE Z cl lvl nm sc (.Call (.Name (sW b) p) es [] pos) (.bi b ps):=fun{A env ρ O s d Q E}X hd g=>aV hd fun ds hx hd=>by
 rw[bG]
 exact wpAny_bind (yN hB X hg (IF b) (aR (DP b) (hpl.1 env pos) (bJ (hpl.2.1 hne env pos) (h X hx fun vs as s₁ I₁ k₁ r₁ ok₁ o₁=>MG X.ha I₁ r₁ ok₁ hd (g.kp k₁) o₁ (X.he.kp k₁).lt))))
theorem A7{A:Around}{s:Shared}{vs:Array Value}{xs:List PyData}{as bs:List Addr}{x:Value}{d:PyData}(rs:aU s.heap vs.toList xs as)(rx:Rd s.heap x d bs)(hxs:cD xs=true)(hd:bL d=true)
  (hu:A.units+1+min (PyData.depthAll xs) d.depth<cLine):∃ e:Value→Bool,(∀ y,y∈vs→SeqAt.EqAt A.in1 s y x (e y))∧vs.toList.map e=xs.map fun y=>PyData.eqv y d:=by
 obtain⟨as',rs'⟩:=rs.reads
 obtain⟨bs',rx'⟩:=rx.reads
 refine⟨fun y=>PyData.eqv (SeqAt.readOf s.heap y) d,SeqAt.items_eqAt rs' rx' (b5 hxs) (bO hd) hu,?_⟩
 rw[← SeqAt.readsAll_map xs vs.toList as' (b5 hxs) rs',List.map_map]
 rfl
theorem oB{h:Heap}:∀{l:List Str}{vs:List Value}{as:List Addr},aU h vs (l.map .str) as→∃ ps:List (Str×Tok),vs=strValues ps∧ps.map (·.1)=l
 | [],vs,as,r=>by cases r; exact⟨[],rfl,rfl⟩
 | n::ns,vs,as,r=>by
  cases r with
  | cons h1 h2 =>
   obtain⟨xs,rfl,e⟩:=oB h2
   obtain⟨t,rfl⟩:=fE h1
   exact⟨(n,t)::xs,rfl,congrArg (n :: ·) e⟩
theorem oC{x y:Str}(hx:PyData.strOk x=true)(hy:PyData.strOk y=true):PyData.strOk (x++y)=true:=by
 unfold PyData.strOk
 rw[Str.cps_append,Array.all_append]
 exact Bool.and_eq_true_iff.mpr ⟨hx,hy⟩
theorem jB{sep:Str}(hs:PyData.strOk sep=true):∀ l:List Str,(∀ x∈l,PyData.strOk x=true)→PyData.strOk (Str.join sep l)=true
 | [],_=>by kernel_rfl
 | [x],h=>h x List.mem_cons_self
 | x::y::r,h=>oC (oC (h x List.mem_cons_self) hs) (jB hs (y::r) fun z hz=>h z (List.mem_cons_of_mem _ hz))
noncomputable def I1:Me→String
 | .join => "str.join"
noncomputable def Er:Me→String
 | .join => "str"
section
variable{A:Around}{E:Value→Shared→Prop}{s:Shared}{O:List (Option Nat×Addr)}{es:List Nat}{Q:Value→Shared→Prop}
theorem C2{sep:Str}{xs:List PyData}{d:PyData}{t:Tok}{v:Value}{as:List Addr}(I:aZ Z s)(r:Rd s.heap v (.list xs) as)(hsep:bL (.str sep)=true)(hd:bL (.list xs)=true)(h:zM sep xs=some d)(g:pQ Z s O es d Q) :
  wpAny (model Z.prog Z.w) A (call (.builtin "str.join") [.str sep t,v]) Q E s:=aV h fun l hs h=>hY h fun hfold e=>by
 cases e
 cases vF hs
 obtain⟨a,items,as',rfl,hl,ra,-⟩:=dK r
 obtain⟨ps,e1,e2⟩:=oB ra
 rw[show items=(strValues ps).toArray by rw[← e1]]at hl
 have hjo:JoinOk sep l=true:=by
  unfold JoinOk Builtin.Str.tooLong
  rw[← Array.foldl_toList,Bool.not_eq_true',decide_eq_false_iff_not]
  exact Nat.not_lt.mpr (Nat.le_trans hfold (by decide))
 have hlen:(Txt.join sep l).length≤sizeLine:=joinFit_length (bH hjo)
 have hj:Txt.join sep l=Str.join sep l:=StrLaws.glued_eq_join sep l
 refine SC.join hl e2 hjo fun t' k=>?_
 rw[hj]at hlen ⊢
 exact lI I g (zD (jB (yZ hsep).1 l fun x hx=>(yZ (cZ.mp (y0 hd).2 (.str x) (List.mem_map_of_mem hx))).1) hlen) _ _
end
end
section
variable{Z:aE}{cl:Nat→List PyData→Option PyData}{lvl:Nat}{nm:List Str}{fn:List Str}{sc:Scope}
theorem bC{e:Expr}(h:aC e=false)(es:List Expr)(env:Env):starEach (e::es) env=(false,eval e env)::starEach es env:=by
 cases e with
 | Starred=>cases h
 | _=>rfl
theorem dO{e:Expr}{es:List Expr}(h:aC e=false)(ih:aX es):aX (e::es):=by
 have hs:=bC h es
 refine⟨fun env pos=>?_,fun _ env pos=>?_,fun env pos=>?_⟩
 ·rw[hs]; exact ih.1 env pos
 ·rw[hs]; exact⟨_,_,rfl⟩
 ·rw[hs]; exact congrArg Nat.succ (ih.2.2 env pos)
theorem gZ:aX []:=⟨fun _ _=>rfl,fun h=>absurd rfl h,fun _ _=>rfl⟩
theorem aQ{e:Expr}(h:aC e=false):aX [e]:=dO h gZ
theorem iG{e f:Expr}(h:aC e=false)(h':aC f=false):aX [e,f]:=dO h (aQ h')
theorem kU:∀{ps:qV}{es:List Expr},m7 fn nm sc ps es=true→aX es∧es.length=mC ps
 | .nil,es,h=>dE (m:=fun es=>aX es∧es.length=0) h ⟨gZ,rfl⟩
 | .cons p ps,es,h=>cW (m:=fun es=>aX es∧es.length=mC ps+1) h fun e r h=>let⟨h1,h2⟩:=aA h; let⟨i1,i2⟩:=kU (aA h2).2; ⟨dO (bH h1) i1,congrArg Nat.succ i2⟩
theorem jF{s:Shared}{a:Value}{x:PyData}{as:List Addr}(ra:Rd s.heap a x as)(h:(x.ctorIdx==3||x.ctorIdx==4)=true) :
  ∃ T id,s.TypeIs a T∧typeLookup (.type T) "__getitem__" = pure (some (.builtin id)):=by
 cases x with
 | list xs=>obtain⟨a,vs,bs,rfl,⟨o,h1,h2,_⟩,_⟩:=dK ra; exact⟨_,_,⟨_,h1,h2⟩,F.slot_list_getitem.lookup⟩
 | str x=>obtain⟨t,rfl⟩:=fE ra; exact⟨_,_,typeIs_str _ _ _,F.slot_str_getitem.lookup⟩
 | _=>cases h
theorem MI{x d:PyData}{lo hi:Option Int}(h:IW x lo hi=some d):(x.ctorIdx==3||x.ctorIdx==4)=true:=by cases x <;> first | rfl | cases h
theorem NX{x y d:PyData}(h:BG x y=some d):(x.ctorIdx==3||x.ctorIdx==4)=true:=r7 h fun i _ h=>by cases x <;> first | rfl | cases h
theorem SR{O:List (Option Nat×Addr)}{es:List Nat}{as:List Addr}(h:∀ yb∈O,yb.2∈as→iP yb.1 es):∀ yb∈O,yb.2∈as.tail→iP yb.1 es:=fun yb hy hm=>h yb hy (List.mem_of_mem_tail hm)
theorem VJ{a i:PE}{v sl:Expr}{pos:Pos}(hns:rC sl=false)(ha:SE Z cl lvl nm sc v a)(hi:SE Z cl lvl nm sc sl i):SE Z cl lvl nm sc (.Subscript v sl pos) (.idx a i):=fun{A env ρ O s d Q E}X hd g=>aV hd fun x hx hd=>aV hd fun y hy hd =>
 Subscript_ (ha X hx fun va as s₁ I₁ k₁ r₁ ok₁ o₁=>hi (X.kp k₁ I₁) hy fun vb bs s₂ I₂ k₂ r₂ ok₂ o₂=>by
  obtain⟨T,id,hT,hl⟩:=jF (k₂.rd r₁) (NX hd)
  refine tail_any (ops:=[va,vb]) hT hl (vI I₂ (k₂.rd r₁) r₂ ok₁ hd (g.kp (k₁.trans k₂)) (SR o₁)) ?_
  cases sl with
  | Slice=>cases hns
  | _=>rfl)
def SO(Z:aE)(cl:Nat→List PyData→Option PyData)(lvl:Nat)(nm:List Str)(sc:Scope)(o:Option Expr)(p:PO):Prop :=
 ∀{A:Around}{env:Env}{ρ:aN}{O:List (Option Nat×Addr)}{s:Shared}{d:Option Int}{Q:Value→Shared→Prop}{E:Value→Shared→Prop},
  Cx Z lvl nm sc A env ρ O s→XJ cl p ρ=some d →
  (∀ q:Option (Int×Tok),q.map (·.1)=d→∀ s',aZ Z s'→Kp Z.n s.heap s'.heap→Q (partValue q) s')→wpAny (model Z.prog Z.w) A (evalPart o env) Q E s
theorem YY:SO Z cl lvl nm sc none .no:=fun{A env ρ O s d Q E}X hd hQ=>by
 cases hd
 exact wpAny_pure (hQ none rfl s X.hi (Kp.refl _ _))
theorem vO{x:PyData}{i:Int}(h:pU x=some i):x = .int i:=by
 cases x with
 | int j=>exact congrArg _ (hY h fun _ e=>Option.some.inj e)
 | _=>cases h
theorem U9{e:Expr}{p:PE}(h:SE Z cl lvl nm sc e p):SO Z cl lvl nm sc (some e) (.yes p):=fun{A env ρ O s d Q E}X hd hQ=>aV hd fun x hx hd=>bY hd fun i hi e=>by
 subst e
 rw[evalPart_some]
 exact h X hx fun v as s' I' k r hok ho=>F9 (m:=fun v=>Q v s') (vO hi▸r) fun t=>hQ (some (i,t)) rfl s' I' k
theorem VF{a:PE}{lo hi:PO}{v:Expr}{l u:Option Expr}{p pos:Pos}(ha:SE Z cl lvl nm sc v a)(hl:SO Z cl lvl nm sc l lo)(hu:SO Z cl lvl nm sc u hi):SE Z cl lvl nm sc (.Subscript v (.Slice l u none p) pos) (.slc a lo hi):=fun{A env ρ O s d Q E}X hd g =>
 aV hd fun x hx hd=>aV hd fun y hy hd=>aV hd fun z hz hd =>
 Subscript_ (ha X hx fun va as s₁ I₁ k₁ r₁ ok₁ o₁=>wpAny_Slice (hl (X.kp k₁ I₁) hy fun q1 e1 s₂ I₂ k₂=>hu (X.kp (k₁.trans k₂) I₂) hz fun q2 e2 s₃ I₃ k₃=>wpAny_pure (by
  have k₄:=(k₂.trans k₃).trans (Kp.push Z.n s₃.heap { cls:=.type "slice",data:=.fields #[partValue q1,partValue q2,.none] })
  have ra:=k₄.rd r₁
  obtain⟨T,id,hT,hl⟩:=jF (s:={ s₃ with heap:=s₃.heap.push { cls:=.type "slice",data:=.fields #[partValue q1,partValue q2,.none] } }) ra (MI hd)
  exact tail_any (ops:=[.ref s₃.heap.objs.size,va]) hT hl (vH (lo:=q1) (hi:=q2) (I₃.push _ s₃.toks) ra ok₁ ⟨_,Heap.get?_push_size _ rfl,rfl,rfl⟩ (by rw[e1,e2]; exact hd) (g.kp (k₁.trans k₄)) (SR o₁) (X.he.kp (k₁.trans k₄)).lt) rfl)))
noncomputable def b9(e:Expr):Bool:=cQ e fun f _ _ _=>aW f fun _ _=>true
theorem aS{e:Expr}(h:b9 e=false)(n:Str)(env:Env)(w:Sem Value):attributeBase e n env w=w:=by
 cases e with
 | Call f=>cases f with
  | Name=>cases h
  | _=>rfl
 | _=>rfl
theorem H4{e:Expr}(h:CE e=true):b9 e=false:=by
 have h2:e.ctorIdx≠16:=fun c=>by
  unfold CE at h
  rw[c]at h
  cases h
 exact dif_neg h2
theorem iW{es:List Expr}{env:Env}{pos:Pos}(hpl:aX es)(hlen:es.length≤5):methodCallForm (es.length+([]:List Keyword).length) (backTo pos (starEach es env)) (backToKw pos (keywordEach [] env))=true:=by
 have h1:=hpl.1 env pos
 rw[List.any_eq_not_all_not,Bool.not_eq_false']at h1
 show((backTo pos (starEach es env)).all (fun x=>!x.1)&&(backToKw pos (keywordEach [] env)).all (fun x=>x.1.isSome)&&decide (es.length+([]:List Keyword).length+(if([]:List Keyword).isEmpty then 0 else 1)<30))=true
 rw[h1]
 exact decide_eq_true (Nat.lt_of_le_of_lt hlen (by decide))
def YE(Z:aE)(A:Around)(s:Shared)(O:List (Option Nat×Addr))(es:List Nat)(Q E:Value→Shared→Prop)(m:Me)(o:Value)(d:PyData)(ds:List PyData):Prop :=
 ∃ T,PlainAttrs T∧Slot T (B9 m) (I1 m)∧typeOf (.builtin (I1 m))=pure (.type "method_descriptor")∧s.TypeIs o T∧(∀ a,o = .ref a→∃ ob,s.heap.get? a=some ob∧ob.dict=none) ∧
  ∀{vs:List Value}{s':Shared}{as:List Addr},Kp Z.n s.heap s'.heap→aZ Z s'→aU s'.heap vs ds as→cD ds=true→pQ Z s' O es d Q→wpAny (model Z.prog Z.w) A (call (.builtin (I1 m)) (o::vs)) Q E s'
theorem MF{A:Around}{E:Value→Shared→Prop}{s:Shared}{O:List (Option Nat×Addr)}{es:List Nat}{Q:Value→Shared→Prop}{m:Me}{o:Value}{od:PyData}{os:List Addr}{ds:List PyData}{d:PyData}
  (hA:fG Z lvl A) (ro:Rd s.heap o od os) (hod:bL od=true) (h:Bn m od ds=some d):YE Z A s O es Q E m o d ds:=by
 refine S3 (m:=YE Z A s O es Q E m o d) h (fun x h=>?_) nofun
 cases m with
 | join =>
  exact jR h fun sep e h=>kC h fun xs e' h=>by
   subst e e'
   obtain⟨t,rfl⟩:=fE ro
   exact⟨_,F.plainAttrs_str,F.slot_str_join,F.type_str_join,typeIs_str _ _ _,nofun,fun{vs s' as}k I r hd g=>kD (m:=fun vs _=>wpAny _ A (call (.builtin (I1 .join)) (.str sep t::vs)) Q E s') r fun v as rv=>C2 I rv hod (aA hd).1 h g⟩
theorem Y1{m:Me}{o:PE}{es:qV}{x:Expr}{args:List Expr}{apos pos:Pos}(hc:b9 x=false)(hline:(apos.endLine==pos.line)=true)(hne:mC es≠0)(hfew:mC es≤5)(ho:SE Z cl lvl nm sc x o)
  (hpl:aX args∧args.length=mC es) (hes:IL Z cl lvl nm sc args es):SE Z cl lvl nm sc (.Call (.Attribute x (B9 m) apos) args [] pos) (.me m o es):=fun{A env ρ O s d Q E}X hd g=>aV hd fun od hx hd=>aV hd fun l hy hd =>
 wpAny_Call_method_lateS (aS hc _ _ _) (iW hpl.1 (hpl.2▸hfew)) hline (ho X hx fun vo os s₁ I₁ k₁ r₁ ok₁ o₁=>by
  obtain⟨T,pa,slot,hty,hT,hdict,fin⟩:=MF (O:=O) (es:=lT (.me m o es)) (Q:=Q) (E:=E) X.ha r₁ ok₁ hd
  exact⟨T,I1 m,pa,slot,hty,hT,hdict,aR nofun (hpl.1.1 env pos) (bJ (hpl.1.2.1 (fun e=>hne (hpl.2▸e▸rfl)) env pos) (hes (X.kp k₁ I₁) hy fun vs as s₂ I₂ k₂ r₂ ok₂ o₂=>fin k₂ I₂ r₂ ok₂ (g.kp (k₁.trans k₂))))⟩)
end
section
variable{h:Heap}{a:Addr}{m:Str→Option Value}{o:Obj}{xs:Array Value}{n:Nat}{v:Option Value}
theorem eW(x:h.Ns a m)(e:h.get? a=some o)(hd:o.data = .seq xs n):False:=let⟨o',es,ep,e',hd',_⟩:=x; by
 cases e.symm.trans e'
 cases hd.symm.trans hd'
theorem oK(x:h.IsCell a v)(e:h.get? a=some o)(hd:o.data = .seq xs n):False:=let⟨o',e',hd'⟩:=x; by
 cases e.symm.trans e'
 cases hd.symm.trans hd'
theorem qC(x:h.Ns a m)(y:h.IsCell a v):False:=let⟨o',es,ep,e',hd',_⟩:=x; let⟨o,e,hd⟩:=y; by
 cases e.symm.trans e'
 cases hd.symm.trans hd'
end
def cf(env:Env)(n:Str):Prop:=env.kindOf n=some .cell∨env.kindOf n=some .free
def Wr(nm:List Str)(env:Env)(xs:List Nat)(b:Addr):Prop :=
 b=env.locals∨∃ x∈xs,∃ n,nm[x]? = some n∧cf env n∧env.cells.lookup n=some b
theorem Wr.mono{nm:List Str}{env:Env}{xs ys:List Nat}{b:Addr}(h:∀ x∈xs,x∈ys)(w:Wr nm env xs b):Wr nm env ys b :=
 w.elim .inl fun⟨x,hx,r⟩=>.inr ⟨x,h x hx,r⟩
structure aK(Z:aE)(nm:List Str)(env:Env)(xs:List Nat)(X:Addr→Prop)(h h':Heap):Prop where
 keep:∀ b o,h.get? b=some o→(o.cls ≠ .none∨Z.n≤b)→¬Wr nm env xs b→¬X b→Sl h' b o
 acc:∀ n v,(∀ x∈xs,nm[x]? ≠ some n)→uK env h n v→uK env h' n v
 ns:(∃ m,h.Ns env.locals m)→∃ m,h'.Ns env.locals m
 cells:∀ n c v,cf env n→env.cells.lookup n=some c→h.IsCell c v→∃ v',h'.IsCell c v'
theorem iC{nm:List Str}(hnd:nm.Nodup){x y:Nat}{n:Str}(h1:nm[x]? = some n)(h2:nm[y]? = some n):x=y :=
 let⟨_,e1⟩:=List.getElem?_eq_some_iff.mp h1; let⟨_,e2⟩:=List.getElem?_eq_some_iff.mp h2; (List.getElem_inj hnd).mp (e1.trans e2.symm)
section
variable{Z:aE}{nm:List Str}{env:Env}{xs:List Nat}{X:Addr→Prop}{h h' h₁ h₂ h₃:Heap}{ρ:aN}{O:List (Option Nat×Addr)}
theorem aH.cellAt(hE:aH Z nm env ρ O h){n:Str}(hk:cf env n){c:Addr}(hc:env.cells.lookup n=some c):Z.n≤c∧∃ v,h.IsCell c v:=by
 obtain⟨c',v,e,hn,hv⟩:=hE.cells n hk
 cases hc.symm.trans e
 exact⟨hn,v,hv⟩
theorem aK.trans(a:aK Z nm env xs X h₁ h₂)(b:aK Z nm env xs X h₂ h₃):aK Z nm env xs X h₁ h₃ where
 keep:=fun y o e c hw hx=>(a.keep y o e c hw hx).next fun o' e' hc=>b.keep y o' e' (by rw[hc]; exact c) hw hx
 acc:=fun n v hn hv=>b.acc n v hn (a.acc n v hn hv)
 ns:=fun hn=>b.ns (a.ns hn)
 cells:=fun n c v hk hc hv=>let⟨v',hv'⟩:=a.cells n c v hk hc hv; b.cells n c v' hk hc hv'
theorem aK.mono{ys:List Nat}{Y:Addr→Prop}(a:aK Z nm env xs X h h')(hxy:∀ x∈xs,x∈ys)(hXY:∀ b,X b→Y b):aK Z nm env ys Y h h' where
 keep:=fun y o e c hw hx=>a.keep y o e c (fun w=>hw (w.mono hxy)) fun q=>hx (hXY _ q)
 acc:=fun n v hn hv=>a.acc n v (fun x hx=>hn x (hxy x hx)) hv
 ns:=a.ns
 cells:=a.cells
theorem aK.of_kp(hE:aH Z nm env ρ O h)(k:Kp Z.n h h'):aK Z nm env xs X h h' where
 keep:=fun y o e c _ _=>k.k y o e c
 acc:=fun n v _ hv=>hv.kp k hE.new fun c hc hk=>(hE.cellAt hk hc).1
 ns:=fun⟨m,hm⟩=>⟨m,k.ns hE.new hm⟩
 cells:=fun n c v hk hc hv=>⟨v,k.cell (hE.cellAt hk hc).1 hv⟩
theorem aH.wr_ge(hE:aH Z nm env ρ O h){b:Addr}(w:Wr nm env xs b):Z.n≤b∧b<h.objs.size∧∀ o vs n,h.get? b=some o→o.data ≠ .seq vs n:=by
 rcases w with rfl | ⟨x,hx,n,hn,hk,hc⟩
 ·obtain⟨m,hm⟩:=hE.ns
  exact⟨hE.new,hm.lt,fun o vs n e hd=>eW hm e hd⟩
 ·obtain⟨h2,v,h3⟩:=hE.cellAt hk hc
  exact⟨h2,h3.lt,fun o vs n e hd=>oK h3 e hd⟩
theorem aH.out(hE:aH Z nm env ρ O h){yb:Option Nat×Addr}(hy:yb∈O):¬Wr nm env xs yb.2:=fun w =>
 w.elim (hE.apart yb hy).1 fun⟨_,_,n,_,hk,hc⟩=>(hE.apart yb hy).2 n _ hk hc rfl
theorem aK.rd{q:Bool}{vs:List Value}{ds:List PyData}{as:List Addr}(T:aK Z nm env xs X h h')(hE:aH Z nm env ρ O h)(r:hH h q vs ds as)(hX:∀ b∈as,¬X b):hH h' q vs ds as:=r.map fun b o hb e c=>by
 obtain⟨o',vs,m,e',hd,_⟩:=r.objs b hb
 cases e.symm.trans e'
 exact(T.keep b o e (.inl (by rw[c]; nofun)) (fun w=>(hE.wr_ge w).2.2 o vs m e hd) (hX b hb)).seq hd
theorem aH.of_turned'{O₂:List (Option Nat×Addr)}(hE:aH Z nm env ρ O h)(hsub:∀ yb∈O₂,yb∈O)(hnd:nm.Nodup)(T:aK Z nm env xs X h h')(hρ:∀ x∈xs,aY ρ x=none)(hX:∀ yb∈O₂,X yb.2→∃ o,h'.get? yb.2=some o∧o.cls ≠ .none)
  (hR:∀ b,X b→(none,b)∈O):aH Z nm env ρ O₂ h' where
 kind:=hE.kind
 glob:=hE.glob
 blt:=hE.blt
 new:=hE.new
 ns:=T.ns hE.ns
 live:=fun yb hy=>by
  by_cases hx:X yb.2
  ·exact hX yb hy hx
  ·obtain⟨o,e,c⟩:=hE.live yb (hsub yb hy)
   obtain⟨o',e',hc,_⟩:=(T.keep _ _ e (.inl c) (hE.out (hsub yb hy)) hx).ex
   exact⟨o',e',hc▸c⟩
 apart:=fun yb hy=>hE.apart yb (hsub yb hy)
 cells:=fun n hk=>let⟨c,v,e,h2,h3⟩:=hE.cells n hk; let⟨v',h4⟩:=T.cells n c v hk e h3; ⟨c,v',e,h2,h4⟩
 inj:=hE.inj
 vars:=fun y d n h1 h2 h3=>by
  obtain⟨v,as,a,r,hok,ho⟩:=hE.vars y d n h1 h2 h3
  refine⟨v,as,T.acc n v (fun x hx hxn=>?_) a,T.rd hE r fun b hb q=>?_,hok,fun yb hy=>ho yb (hsub yb hy)⟩
  ·cases(hρ y (iC hnd hxn h2▸hx)).symm.trans h1
  ·cases(ho _ (hR b q) hb).1
theorem aH.of_turned(hE:aH Z nm env ρ O h)(hnd:nm.Nodup)(T:aK Z nm env xs X h h')(hρ:∀ x∈xs,aY ρ x=none)(hX:∀ yb∈O,X yb.2→∃ o,h'.get? yb.2=some o∧o.cls ≠ .none)
  (hR:∀ b,X b→(none,b)∈O):aH Z nm env ρ O h':=hE.of_turned' (fun _ h=>h) hnd T hρ hX hR
theorem aH.lessO{O':List (Option Nat×Addr)}(hE:aH Z nm env ρ O h)(hs:∀ yb∈O',yb∈O):aH Z nm env ρ O' h :=
 { hE with live:=fun yb hy=>hE.live yb (hs yb hy),apart:=fun yb hy=>hE.apart yb (hs yb hy),vars:=fun y d n h1 h2 h3=>let⟨v,as,a,r,hok,ho⟩:=hE.vars y d n h1 h2 h3; ⟨v,as,a,r,hok,fun yb hy=>ho yb (hs yb hy)⟩ }
theorem aH.lessV{ρ':aN}(hE:aH Z nm env ρ O h)(hs:∀ x d,aY ρ' x=some d→aY ρ x=some d):aH Z nm env ρ' O h :=
 { hE with vars:=fun y d n h1=>hE.vars y d n (hs y d h1) }
theorem E5{a:Addr}{m m':Str→Option Value}(x:h.Ns a m)(y:h.Ns a m')(n:Str):m n=m' n:=by
 obtain⟨o,es,ep,e,hd,_,hm⟩:=x
 obtain⟨o',es',ep',e',hd',_,hm'⟩:=y
 cases e.symm.trans e'
 cases hd.symm.trans hd'
 exact(hm n).symm.trans (hm' n)
theorem uK.uniq{n:Str}{v w:Value}(a:uK env h n v)(b:uK env h n w):v=w:=by
 rcases a with⟨h1,m,h2,h3⟩| ⟨h1,c,h2,o,e,hd⟩ <;> rcases b with⟨g1,m',g2,g3⟩| ⟨g1,c',g2,o',e',hd'⟩
 ·exact Option.some.inj ((h3.symm.trans (E5 h2 g2 n)).trans g3)
 ·rw[h1]at g1; exact g1.elim nofun nofun
 ·rw[g1]at h1; exact h1.elim nofun nofun
 ·cases h2.symm.trans g2
  cases e.symm.trans e'
  cases hd.symm.trans hd'
  rfl
theorem lO{x y:Nat}{d:PyData}{q:Option PyData}(h:aY (ρ.set x q) y=some d):(y=x∧q=some d)∨(y≠x∧aY ρ y=some d):=by
 unfold aY at h ⊢
 rw[List.getElem?_set]at h
 by_cases e:x=y
 ·rw[if_pos e]at h
  by_cases hx:x<ρ.length
  ·rw[if_pos hx]at h; exact .inl ⟨e.symm,h⟩
  ·rw[if_neg hx]at h; cases h
 ·rw[if_neg e]at h
  exact .inr ⟨fun e'=>e e'.symm,h⟩
theorem tY(ρ:aN)(x:Nat):aY (ρ.set x none) x=none:=by
 cases e:aY (ρ.set x none) x with
 | none=>rfl
 | some d=>rcases lO e with⟨_,e⟩| ⟨e,_⟩ <;> first | cases e | exact absurd rfl e
theorem AI{x y:Nat}(q:Option PyData)(h:x≠y):aY (ρ.set x q) y=aY ρ y:=by unfold aY; rw[List.getElem?_set,if_neg h]
theorem vY{x y:Nat}{d:PyData}(h:aY (ρ.set x none) y=some d):aY ρ y=some d:=(lO h).elim (fun e=>nomatch e.2) fun e=>e.2
theorem vG{M:Model}{A:Around}{E:Value→Shared→Prop}{s:Shared}{n:Str}{v:Value}{x:Nat}{Q:Unit→Shared→Prop}(hE:aH Z nm env ρ O s.heap)(hI:aZ Z s)(hx:nm[x]? = some n)
  (hk:env.kindOf n=some .local∨env.kindOf n=some .cell)
  (hQ:∀ h' tk,aZ Z { s with heap:=h',toks:=tk }→uK env h' n v→aK Z nm env [x] (fun _=>False) s.heap h'→Q () { s with heap:=h',toks:=tk }):wpAny M A (storeName env n v) Q E s:=by
 obtain⟨m,hm⟩:=hE.ns
 have hne:∀{y},(∀ x'∈[x],nm[x']? ≠ some y)→y≠n:=fun hy e=>hy x (List.mem_singleton.mpr rfl) (e▸hx)
 rcases hk with hk | hk
 ·refine wpAny_storeName_local hk hm (fun h' hn hs=>hQ h' _ (hI.same hE.new hs (fun _=>let⟨o,es,ep,e,hd,_⟩:=hn; ⟨o,e,es,ep,hd⟩) _) (.inl ⟨hk,_,hn,if_pos rfl⟩) ?_) (by simp[hE.kind])
  have cell:∀{c u},s.heap.IsCell c u→h'.IsCell c u:=fun⟨o,e,hd⟩=>⟨o,(hs.2 _ fun e'=>qC hm ⟨o,e'▸e,hd⟩).trans e,hd⟩
  refine⟨fun b o e _ hw _=>.inl ((hs.2 b fun e'=>hw (.inl e')).trans e),fun y u hy hv=>?_,fun _=>⟨_,hn⟩,fun y c u hyk hc hu=>⟨u,cell hu⟩⟩
  rcases hv with⟨h1,m',h2,h3⟩| ⟨h1,c,h2,h3⟩
  ·exact .inl ⟨h1,_,hn,(if_neg (hne hy)).trans ((E5 hm h2 y).trans h3)⟩
  ·exact .inr ⟨h1,c,h2,cell h3⟩
 ·obtain⟨c,v₀,hc,hcn,hcell⟩:=hE.cells n (.inl hk)
  refine wpAny_storeName_cell hE.kind hk hc hcell fun h' hc' hs=>hQ h' s.toks (hI.same hcn hs (fun h=>absurd h (let⟨o,e,hd⟩:=hcell; hI.frNot e fun es ep h=>by cases hd.symm.trans h)) _) (.inr ⟨.inl hk,c,hc,hc'⟩) ?_
  have hlc:env.locals≠c:=fun e=>qC hm (e▸hcell)
  refine⟨fun b o e _ hw _=>.inl ((hs.2 b fun e'=>hw (.inr ⟨x,List.mem_singleton.mpr rfl,n,hx,.inl hk,e'▸hc⟩)).trans e),fun y u hy hv=>?_,fun _=>⟨m,hm.sameBut hs hlc⟩,fun y c' u hyk hyc hu=>?_⟩
  ·rcases hv with⟨h1,m',h2,h3⟩| ⟨h1,c',h2,o,e,hd⟩
   ·exact .inl ⟨h1,m',h2.sameBut hs hlc,h3⟩
   ·exact .inr ⟨h1,c',h2,o,(hs.2 c' fun e'=>hne hy (hE.inj y n c h1 (.inl hk) (e'▸h2) hc)).trans e,hd⟩
  ·by_cases e:c'=c
   ·exact⟨_,e▸hc'⟩
   ·obtain⟨o,e',hd⟩:=hu
    exact⟨u,o,(hs.2 c' e).trans e',hd⟩
theorem aH.stored{x:Nat}{n:Str}{v:Value}{d:PyData}{as:List Addr}(hE:aH Z nm env ρ O h)(hnd:nm.Nodup)(hx:nm[x]? = some n)(T:aK Z nm env [x] (fun _=>False) h h')(a:uK env h' n v)
  (r:Rd h v d as) (hd:bL d=true) (ho:∀ yb∈O,yb.2∈as→yb.1=some x∧as.head? = some yb.2):aH Z nm env (ρ.set x (some d)) O h' :=
 have h0:aH Z nm env (ρ.set x none) O h':=aH.of_turned (hE.lessV (ρ':=ρ.set x none) fun y q hy=>vY hy) hnd T (fun y hy=>by cases List.mem_singleton.mp hy; exact tY ρ x) (fun _ _ h=>h.elim) fun _ h=>h.elim
 { h0 with
  vars:=fun y q m h1 h2 h3=>by
   rcases lO h1 with⟨rfl,e⟩| ⟨hne,e⟩
   ·cases e
    cases hx.symm.trans h2
    exact⟨v,as,a,T.rd hE r fun _ _=>id,hd,ho⟩
   ·exact h0.vars y q m ((AI none fun e=>hne e.symm).trans e) h2 h3 }
theorem FB{sc:Scope}(hs:uO sc env){n:Str}(h:jZ sc n=true)(hf:env.kindOf n≠some .free):env.kindOf n=some .local∨env.kindOf n=some .cell:=by
 rcases Bool.or_eq_true_iff.mp h with h | h
 ·exact .inl (hs.1 n (eq_of_beq h))
 ·exact(hs.2.1 n (.inl (eq_of_beq h))).elim .inr fun e=>absurd e hf
def pE(sc:Scope)(env:Env):Prop:=∀ n,jZ sc n=true→env.kindOf n≠some .free
end
section
variable{Z:aE}{cl:Nat→List PyData→Option PyData}{lvl:Nat}{nm:List Str}{fn:List Str}{sc:Scope}
theorem wL{A:Around}{env:Env}{ρ:aN}{O:List (Option Nat×Addr)}{s:Shared}{E:Value→Shared→Prop}{x:Nat}{n:Str}{p:Pos}{v:Value}{d:PyData}{as:List Addr}{Q:Unit→Shared→Prop}(hnd:nm.Nodup)(hx:nm[x]? = some n)(hl:jZ sc n=true)
  (hs:uO sc env) (hf:pE sc env) (hE:aH Z nm env ρ O s.heap) (hI:aZ Z s) (r:Rd s.heap v d as) (hd:bL d=true) (ho:∀ yb∈O,yb.2∉as)
  (hQ:∀ s',aZ Z s'→aH Z nm env (ρ.set x (some d)) O s'.heap→aK Z nm env [x] (fun _=>False) s.heap s'.heap→Q () s'):wpAny (model Z.prog Z.w) A (assign (.Name n p) env v) Q E s :=
 wpAny_assign_Name (vG hE hI hx (FB hs hl (hf n hl)) fun _ _ I' a T=>hQ _ I' (hE.stored hnd hx T a r hd fun yb hy hm=>absurd hm (ho yb hy)) T)
structure Do(Z:aE)(A:Around)(O:List (Option Nat×Addr))(p:PI)(s:Shared)(ds:List PyData)(I:Addr)(used:List Addr)(St:Nat→Heap→Prop)(s':Shared):Prop where
 iter:wU Z A I ds used St
 start:St 0 s'.heap
 ok:cD ds=true
 len:ds.length≤sizeLine
 inv:aZ Z s'
 kp:Kp Z.n s.heap s'.heap
 fresh:s.heap.get? I=none
 seq:∀ a∈used,∃ o vs n,s'.heap.get? a=some o∧o.data = .seq vs n∧o.cls ≠ .none
 own:∀ yb∈O,yb.2∈used→iP yb.1 (dX p)
def SI(Z:aE)(cl:Nat→List PyData→Option PyData)(lvl:Nat)(nm:List Str)(sc:Scope)(e:Expr)(p:PI):Prop :=
 ∀{A:Around}{env:Env}{ρ:aN}{O:List (Option Nat×Addr)}{s:Shared}{ds:List PyData}{Q:Value→Shared→Prop}{E:Value→Shared→Prop},
  Cx Z lvl nm sc A env ρ O s→wO cl p ρ=some ds →
  (∀ I used St s',Do Z A O p s ds I used St s'→Q (.ref I) s')→wpAny (model Z.prog Z.w) A (eval e env) (fun x s₁=>wpAny (model Z.prog Z.w) A (pyIter x) Q E s₁) E s
theorem get?_ge {h:Heap} {a:Addr} (ha:h.objs.size≤a):h.get? a=none:=by
 cases e:h.get? a with
 | none=>rfl
 | some o=>exact absurd (Heap.lt_size e) (Nat.not_lt.mpr ha)
theorem Kp.none{h h':Heap}(k:Kp Z.n h h'){a:Addr}(hna:Z.n≤a)(ha:h'.get? a=none):h.get? a=none:=by
 cases e:h.get? a with
 | none=>rfl
 | some o=>obtain⟨_,this,_⟩:=(k.k a o e (.inr hna)).ex; cases ha.symm.trans this
theorem SU{e:Expr}{p:PE}(h:SE Z cl lvl nm sc e p):SI Z cl lvl nm sc e (.of p):=fun{A env ρ O s ds Q E}X hd hQ=>aV hd fun x hx hd=>h X hx fun v as s₁ I₁ k₁ r₁ ok₁ o₁=>by
 cases x with
 | list xs =>
  cases hd
  obtain⟨a,items,as',rfl,hl,ra,rfl⟩:=dK r₁
  have hsz:Z.n≤s₁.heap.objs.size:=(X.he.kp k₁).size
  have hp:∀{b o}{ob:Obj},s₁.heap.get? b=some o→(s₁.heap.push ob).get? b=some o:=fun e=>Heap.get?_push_of_some _ e
  exact wpAny_pyIter_list hl (hQ s₁.heap.objs.size (a::as') (fun k h=>h.IsListIter s₁.heap.objs.size a k∧h.IsList a items∧aU h items.toList ds as') _
   ⟨wU.list X.ha.handled hsz (I₁.frLt (Nat.le_refl _)) fun hb=>Nat.lt_irrefl _ (r₁.lt _ hb),⟨⟨_,Heap.get?_push_size _ rfl,rfl,rfl⟩,kQ hl fun o e=>hp e,ra.map fun _ _ _ e _=>hp e⟩,(y0 ok₁).2,(y0 ok₁).1,I₁.push _ _,k₁.trans (Kp.push _ _ _),k₁.none hsz (get?_ge (Nat.le_refl _)),
    fun b hb=>let⟨o,vs,n,e,hd,hc⟩:=r₁.objs b hb; ⟨o,vs,n,hp e,hd,by rw[hc]; nofun⟩,o₁⟩)
 | _=>cases hd
theorem xP{A:Around}{env:Env}{ρ:aN}{O:List (Option Nat×Addr)}{s s₁:Shared}{Q:Value→Shared→Prop}{E:Value→Shared→Prop}{p:PI}{lo hi k:Int}{t u v:Tok}{r:Addr}(X:Cx Z lvl nm sc A env ρ O s)(hs:Builtin.Range.small lo hi k=true)(hl:(Builtin.Range.rangeSize lo hi k).toNat≤sizeLine)(hI:aZ Z s₁)
  (kp:Kp Z.n s.heap s₁.heap) (hR:IsRange s₁.heap r lo hi k t u v) (hQ:∀ I used St s',Do Z A O p s (IK lo hi k) I used St s'→Q (.ref I) s'):wpAny (model Z.prog Z.w) A (pyIter (.ref r)) Q E s₁:=by
 have hsz:=(X.he.kp kp).size
 refine wpAny_pyIter_range hR hs (hQ _ [] (fun j h=>IsRangeIter h _ (lo+(j:Nat)*k) (((Builtin.Range.rangeSize lo hi k).toNat:Int) - (j:Nat)) k) _
  ⟨wU.range X.ha.handled hsz (hI.frLt (Nat.le_refl _)),?_,cZ.mpr fun d hd=>let⟨_,_,e⟩:=List.mem_map.mp hd; e▸rfl,?_,hI.push _ _,kp.trans (Kp.push _ _ _),kp.none hsz (get?_ge (Nat.le_refl _)),nofun,nofun⟩)
 ·show IsRangeIter _ _ (lo+((0:Nat):Int)*k) (((Builtin.Range.rangeSize lo hi k).toNat:Int) - ((0:Nat):Int)) k
  rw[show lo+((0:Nat):Int)*k=lo from(congrArg (lo + ·) (Int.zero_mul k)).trans (Int.add_zero lo),show(((Builtin.Range.rangeSize lo hi k).toNat:Int) - ((0:Nat):Int))=Builtin.Range.rangeSize lo hi k from(Int.sub_zero _).trans (rangeSize_toNat lo hi k).symm]
  exact Heap.get?_push_size _ rfl
 ·unfold IK
  rw[List.length_map,List.length_range]
  exact hl
theorem iK{n:Str}{p pos:Pos}{es:List Expr}{ps:qV}{v:Value}{A:Around}{env:Env}{ρ:aN}{O:List (Option Nat×Addr)}{s:Shared}{ds:List PyData}{Q:Value→Shared→Prop}{E:Value→Shared→Prop}(hB:fC Z)(X:Cx Z lvl nm sc A env ρ O s)(hg:aM sc n=true)(hv:(n,v)∈r8)(hnr:∀ a,v ≠ .ref a)(hne:es≠[])(hpl:aX es)(h:IL Z cl lvl nm sc es ps)(hd:iT cl ps ρ=some ds)
  (hQ:∀ vs as s',aZ Z s'→Kp Z.n s.heap s'.heap→aU s'.heap vs ds as→cD ds=true→(∀ yb∈O,yb.2∈as→iP yb.1 (rK ps))→wpAny (model Z.prog Z.w) A (call v vs) Q E s') :
  wpAny (model Z.prog Z.w) A (eval (.Call (.Name n p) es [] pos) env) Q E s:=by
 rw[bG]
 exact wpAny_bind (yN hB X hg hv (aR hnr (hpl.1 env pos) (bJ (hpl.2.1 hne env pos) (h X hd hQ))))
theorem qY{e:Expr}{p:PE}(hst:aC e=false)(h:SE Z cl lvl nm sc e p):IL Z cl lvl nm sc [e] (.cons p .nil):=nN (bC hst []) h xQ
theorem EH{e f:Expr}{p q:PE}(hst:aC e=false)(hst':aC f=false)(h:SE Z cl lvl nm sc e p)(h':SE Z cl lvl nm sc f q):IL Z cl lvl nm sc [e,f] (.cons p (.cons q .nil)) :=
 nN (bC hst [f]) h (qY hst' h')
theorem G3{e:Expr}{p q:Pos}{a:PE}(hB:fC Z)(hg:aM sc "range" = true)(hst:aC e=false)(h:SE Z cl lvl nm sc e a):SI Z cl lvl nm sc (.Call (.Name "range" p) [e] [] q) (.range1 a):=fun{A env ρ O s ds Q E}X hd hQ=>aV hd fun x hx hd=>r7 hd fun n e hd=>y9 hd fun hr e'=>by
 subst e e'
 have h0:0≤n:=of_decide_eq_true (aA hr).1
 have h1:n≤2 ^ 20:=of_decide_eq_true (aA hr).2
 have hl:(Builtin.Range.rangeSize 0 n 1).toNat≤sizeLine:=by
  rw[rangeSize_nat,Int.toNat_natCast,Int.sub_zero]
  exact Int.toNat_le.mpr (Int.le_trans h1 (by decide))
 exact iK (ps:=.cons a .nil) (ds:=[.int n]) hB X hg (v:=.type "range") (by decide) nofun nofun (aQ hst) (qY hst h) (by rw[iT,hx]; rfl) fun vs as s₁ I₁ k₁ r₁ ok₁ o₁ =>
  kD (m:=fun vs _=>wpAny _ A (call (.type "range") vs) _ E s₁) r₁ fun v as r=>F9 (m:=fun v=>wpAny _ A (call (.type "range") [v]) _ E s₁) r fun t=>call_range_1 (xP X (small_one (by decide) (by decide) (Int.le_trans (by decide) h0) (Int.lt_of_le_of_lt h1 (by decide))) hl (I₁.push _ _) (k₁.trans (Kp.push _ _ _)) (IsRange.new _ 0 n 1 _ _ _) hQ)
theorem G2{e f:Expr}{p q:Pos}{a b:PE}(hB:fC Z)(hg:aM sc "range" = true)(hst:aC e=false)(hst':aC f=false)(h:SE Z cl lvl nm sc e a)(h':SE Z cl lvl nm sc f b):SI Z cl lvl nm sc (.Call (.Name "range" p) [e,f] [] q) (.range2 a b):=fun{A env ρ O s ds Q E}X hd hQ=>aV hd fun x hx hd=>aV hd fun y hy hd=>r7 hd fun m e hd=>r7 hd fun n e' hd=>y9 hd fun hr e''=>by
 subst e e' e''
 have m0:0≤m:=of_decide_eq_true (aA (aA hr).1).1
 have m1:m≤2 ^ 20:=of_decide_eq_true (aA (aA hr).1).2
 have n0:0≤n:=of_decide_eq_true (aA (aA hr).2).1
 have n1:n≤2 ^ 20:=of_decide_eq_true (aA (aA hr).2).2
 have hl:(Builtin.Range.rangeSize m n 1).toNat≤sizeLine:=by
  rw[rangeSize_nat,Int.toNat_natCast]
  exact Int.toNat_le.mpr (Int.le_trans (Int.sub_le_self n m0) (Int.le_trans n1 (by decide)))
 exact iK (ps:=.cons a (.cons b .nil)) (ds:=[.int m,.int n]) hB X hg (v:=.type "range") (by decide) nofun nofun (iG hst hst') (EH hst hst' h h') (by rw[iT,hx,iT,hy]; rfl) fun vs as s₁ I₁ k₁ r₁ ok₁ o₁ =>
  BS (m:=fun vs=>wpAny _ A (call (.type "range") vs) _ E s₁) r₁ fun v w as bs r r'=>F9 (m:=fun v=>wpAny _ A (call (.type "range") [v,w]) _ E s₁) r fun t=>F9 (m:=fun w=>wpAny _ A (call (.type "range") [_,w]) _ E s₁) r' fun u =>
   call_range_2 (xP X (small_one (Int.le_trans (by decide) m0) (Int.lt_of_le_of_lt m1 (by decide)) (Int.le_trans (by decide) n0) (Int.lt_of_le_of_lt n1 (by decide))) hl (I₁.push _ _) (k₁.trans (Kp.push _ _ _)) (IsRange.new _ m n 1 _ _ _) hQ)
theorem Bw{h:Heap}{vs:List Value}{i j k:Int}{as:List Addr}{m:List Value→Prop}(r:aU h vs [.int i,.int j,.int k] as)(g:∀ t u v,m [.int i t,.int j u,.int k v]):m vs :=
 KK r fun v vs _ _ ra r=>F9 (m:=fun v=>m (v::vs)) ra fun t=>BS (m:=fun vs=>m (_::vs)) r fun v w _ _ rb rc=>F9 (m:=fun v=>m [_,v,w]) rb fun u=>F9 (m:=fun w=>m [_,_,w]) rc fun v=>g t u v
theorem G1{k1 k2 k3:Nat}{p p1 p2 p3 q:Pos}{m n k:Int}(hB:fC Z)(hg:aM sc "range" = true):SI Z cl lvl nm sc (.Call (.Name "range" p) [.Constant (.int m) k1 p1,.Constant (.int n) k2 p2,.Constant (.int k) k3 p3] [] q) (.range3 m n k):=fun{A env ρ O s ds Q E}X hd hQ=>y9 hd fun hr e'=>by
 subst e'
 obtain⟨r0,hr⟩:=aA hr
 obtain⟨r1,hr⟩:=aA hr
 obtain⟨r2,r3⟩:=aA hr
 have lit:∀{i:Int}{k:Nat}{p:Pos},SE Z cl lvl nm sc (.Constant (.int i) k p) (.lit (.int i)):=KF rfl
 refine iK (ds:=[.int m,.int n,.int k]) hB X hg (v:=.type "range") (by decide) nofun nofun (dO rfl (iG rfl rfl)) (nN (bC rfl _) lit (EH rfl rfl lit lit)) rfl fun vs as s₁ I₁ k₁ r₁ _ _ =>
  Bw (m:=fun vs=>wpAny _ A (call (.type "range") vs) _ E s₁) r₁ fun t u v=>?_
 exact call_range_3 (ne_of_beq_false (bH r0)) (xP X r1 (Nat.le_trans (of_decide_eq_true r3) (by decide)) (I₁.push _ _) (k₁.trans (Kp.push _ _ _)) (IsRange.new _ m n k _ _ _) hQ) (.inl (bH r2))
theorem vL{h:Heap}{f:Nat→Int}:∀{vs:List Value}{n k:Nat},vs.length=n→(∀ i v,vs[i]? = some v→∃ t,v=Value.int (f (k+i)) t)→aU h vs ((List.range' k n).map fun j=>PyData.int (f j)) []
 | [],_,_,e,_=>by cases e; exact .nil
 | v::vs,_,k,e,g=>by
  cases e
  obtain⟨t,rfl⟩:=g 0 v rfl
  exact .cons (.int _ _) (vL (k:=k+1) rfl fun i v h=>by rw[Nat.add_right_comm]; exact g (i+1) v h)
theorem VH{e:Expr}{p q q1 pos:Pos}{a:PE}(hB:fC Z)(hl:aM sc "list" = true)(hg:aM sc "range" = true)(hst:aC e=false)(h:SE Z cl lvl nm sc e a):SE Z cl lvl nm sc (.Call (.Name "list" p) [.Call (.Name "range" q) [e] [] q1] [] pos) (.lrg a):=fun{A env ρ O s d Q E}X hd g=>aV hd fun x hx hd=>r7 hd fun n e hd=>y9 hd fun hr e'=>by
 subst e e'
 have h0:0≤n:=of_decide_eq_true (aA hr).1
 have h1:n≤2 ^ 20:=of_decide_eq_true (aA hr).2
 have hz:Builtin.Range.rangeSize 0 n 1=(n.toNat:Int):=by rw[rangeSize_nat,Int.sub_zero]
 have hn:n.toNat≤2 ^ 20:=Int.toNat_le.mpr h1
 rw[bG]
 refine wpAny_bind (yN hB X hl (v:=.type "list") (by decide) (aR nofun ((aQ rfl).1 env pos) (bJ ((aQ rfl).2.1 nofun env pos) ?_)))
 refine(show wpAny _ A (spliced (backTo pos [(false,eval (.Call (.Name "range" q) [e] [] q1) env)])) _ E s from Calls.spliced_cons ?_)
 refine iK (ps:=.cons a .nil) (ds:=[.int n]) hB X hg (v:=.type "range") (by decide) nofun nofun (aQ hst) (qY hst h) (by rw[iT,hx]; rfl) fun vs as s₁ I₁ k₁ r₁ ok₁ o₁ =>
  kD (m:=fun vs _=>wpAny _ A (call (.type "range") vs) _ E s₁) r₁ fun v as r=>F9 (m:=fun v=>wpAny _ A (call (.type "range") [v]) _ E s₁) r fun t=>call_range_1 (Calls.spliced_nil ?_)
 refine call_list_range (n:=n.toNat) X.ha.handled (IsRange.new _ 0 n 1 _ _ _) (small_one (by decide) (by decide) (Int.le_trans (by decide) h0) (Int.lt_of_le_of_lt h1 (by decide))) hz (Nat.le_trans hn (by decide)) fun h' tk acc c hk hS hi=>?_
 have hby:IK 0 n 1=(List.range' 0 n.toNat).map fun j:Nat=>PyData.int (0+(j:Int)*1):=by unfold IK; rw[hz,Int.toNat_natCast,List.range_eq_range']
 have ra:aU h' acc.toList (IK 0 n 1) []:=hby▸vL (f:=fun j=>0+(j:Int)*1) (Array.length_toList.trans hi.1) fun i v e=>by rw[Nat.zero_add]; exact hi.2 i v (Array.getElem?_toList▸e)
 have kp:=k₁.trans (Kp.push Z.n s₁.heap { cls:=.type "range",data:=.fields #[.int 0 s₁.toks,.int n t,.int 1 (s₁.toks+1)] })
 exact g _ _ _ ((I₁.push _ _).full (tk:=tk) hk) (kp.trans (Kp.of hk)) (.list hS ⟨rfl,rfl⟩ rfl ra) (zE (Nat.le_trans (Nat.le_of_eq ((aT ra).symm.trans (Array.length_toList.trans hi.1))) (Nat.le_trans hn (by decide))) (cZ.mpr fun d hd=>let⟨_,_,e⟩:=List.mem_map.mp hd; e▸rfl)) fun yb hy hm=>absurd ((X.he.kp kp).lt yb hy) (by rw[List.mem_singleton.mp hm]; exact Nat.lt_irrefl _)
theorem pM{e:Expr}(h:gW e=false)(env:Env)(x:Value):foldedSetIterable e env x=pure x:=by
 cases e with
 | Set=>cases h
 | _=>rfl
noncomputable def hit(es:List Nat):Option Nat→Bool
 | none=>false
 | some y=>es.contains y
theorem yA{es:List Nat}{o:Option Nat}:hit es o=true↔iP o es:=by
 cases o with
 | none=>exact⟨nofun,fun⟨_,_,h⟩=>nomatch h⟩
 | some y=>exact⟨fun h=>⟨y,List.contains_iff_mem.mp h,rfl⟩,fun⟨z,h,e⟩=>by cases e; exact List.contains_iff_mem.mpr h⟩
noncomputable def reserves(fp:List Addr)(O:List (Option Nat×Addr))(es:List Nat):List (Option Nat×Addr):=fp.map (fun a=>(none,a))++O.filter fun yb=>!hit es yb.1
noncomputable abbrev reserve(I:Addr)(O:List (Option Nat×Addr))(es:List Nat):List (Option Nat×Addr):=reserves [I] O es
section
variable{fp:List Addr}{O:List (Option Nat×Addr)}{es:List Nat}{yb:Option Nat×Addr}{I:Addr}
theorem cT(h:yb∈reserves fp O es):(∃ a∈fp,yb=(none,a))∨(yb∈O∧¬iP yb.1 es) :=
 (List.mem_append.mp h).imp (fun h=>let⟨a,ha,e⟩:=List.mem_map.mp h; ⟨a,ha,e.symm⟩) fun h=>⟨(List.mem_filter.mp h).1,fun h'=>by have:=bH (List.mem_filter.mp h).2; rw[yA.mpr h']at this; cases this⟩
theorem kP(h:yb∈reserve I O es):yb=(none,I)∨(yb∈O∧¬iP yb.1 es):=(cT h).imp_left fun⟨_,ha,e⟩=>List.mem_singleton.mp ha▸e
theorem dJ(h:yb∈O):yb∈reserves fp O es∨iP yb.1 es:=by
 cases hh:hit es yb.1 with
 | true=>exact .inr (yA.mp hh)
 | false=>exact .inl (List.mem_append_right _ (List.mem_filter.mpr ⟨h,by rw[hh]; rfl⟩))
theorem jG{a:Addr}(h:(none,a)∈O):(none,a)∈reserves fp O es:=(dJ h).elim id fun⟨_,_,h⟩=>nomatch h
theorem tR{a:Addr}(h:a∈fp):(none,a)∈reserves fp O es:=List.mem_append_left _ (List.mem_map_of_mem h)
end
theorem aH.reserves{env:Env}{ρ:aN}{O:List (Option Nat×Addr)}{h h':Heap}{fp:List Addr}{es:List Nat}(hE:aH Z nm env ρ O h)(k:Kp Z.n h h')(hfresh:∀ a∈fp,h.get? a=none)(hlive:∀ a∈fp,∃ o,h'.get? a=some o∧o.cls ≠ .none):aH Z nm env ρ (reserves fp O es) h' :=
 have hk:=hE.kp k
 { hk with
  live:=fun yb hy=>(cT hy).elim (fun⟨a,ha,e⟩=>e▸hlive a ha) fun h=>hk.live yb h.1
  apart:=fun yb hy=>(cT hy).elim (fun⟨I,ha,e⟩=>by
   subst e
   have hfresh:=hfresh I ha
   refine⟨fun e'=>?_,fun n c hkd hc e'=>?_⟩
   ·obtain⟨m,o,es,ep,e'',_⟩:=hE.ns
    cases hfresh.symm.trans ((show I=env.locals from e')▸e'')
   ·obtain⟨_,v,o,e'',_⟩:=hE.cellAt hkd hc
    cases hfresh.symm.trans ((show I=c from e')▸e'')) fun h=>hk.apart yb h.1
  vars:=fun x d n h1 h2 h3=>by
   obtain⟨v,as,a,r,hd,ho⟩:=hE.vars x d n h1 h2 h3
   refine⟨v,as,a.kp k hE.new (fun c hc hkd=>(hE.cellAt hkd hc).1),k.rd r,hd,fun yb hy hm=>(cT hy).elim (fun⟨b,hb,e⟩=>?_) fun h=>ho yb h.1 hm⟩
   obtain⟨o,_,_,e',_⟩:=r.objs yb.2 hm
   rw[e]at e'
   cases(hfresh b hb).symm.trans e' }
theorem aH.reserve{env:Env}{ρ:aN}{O:List (Option Nat×Addr)}{h h':Heap}{I:Addr}{es:List Nat}(hE:aH Z nm env ρ O h)(k:Kp Z.n h h')(hfresh:h.get? I=none)(hlive:∃ o,h'.get? I=some o∧o.cls ≠ .none):aH Z nm env ρ (Kt.Internal.reserve I O es) h' :=
 hE.reserves k (fun _ h=>List.mem_singleton.mp h▸hfresh) fun _ h=>List.mem_singleton.mp h▸hlive
end
section
variable{Z:aE}{cl:Nat→List PyData→Option PyData}{lvl:Nat}{nm:List Str}{fn:List Str}{sc:Scope}
theorem ME{A:Around}{env:Env}{ρ ρ':aN}{O:List (Option Nat×Addr)}{s:Shared}{E:Value→Shared→Prop}{t:Tg}{target:Expr}{v:Value}{d:PyData}{as:List Addr}{Q:Unit→Shared→Prop}(hck:vA nm sc t target=true)(hnd:nm.Nodup)
  (hs:uO sc env) (hf:pE sc env) (hE:aH Z nm env ρ O s.heap) (hI:aZ Z s) (hb:gJ t d ρ=some ρ') (r:Rd s.heap v d as) (hd:bL d=true) (ho:∀ yb∈O,yb.2∉as)
  (hQ:∀ s',aZ Z s'→aH Z nm env ρ' O s'.heap→aK Z nm env (bT t) (fun _=>False) s.heap s'.heap→Q () s'):wpAny (model Z.prog Z.w) A (assign target env v) Q E s:=by
 cases t with
 | one x =>
  cases hb
  apply aO hck; intro n p hck
  exact wL hnd (eq_of_beq (aA hck).1) (aA hck).2 hs hf hE hI r hd ho hQ
end
structure J5(Z:aE)(A:Around)(target:Expr)(I:Addr)(fp:List Addr)(ds:List PyData)(used:List Addr)(St:Nat→Heap→Prop):Prop where
 new:∀ a∈fp,Z.n≤a
 apart:∀ a∈used,a∉fp
 frame:∀ k h h',St k h→(∀ b,b∈fp∨b∈used→∀ o,h.get? b=some o→h'.get? b=some o)→St k h'
 live:∀ k h,k≤ds.length→St k h→∀ a∈fp,∃ o,h.get? a=some o∧o.cls ≠ .none∧∀ es ep,o.data ≠ .dict es ep
 step:∀ k d(s:Shared)(R:Value→Shared→Prop)(E:Value→Shared→Prop),ds[k]? = some d→St k s.heap→aZ Z s →
  (∀ v bs s',aZ Z s'→(∀ b o,b∉fp→s.heap.get? b=some o→s'.heap.get? b=some o)→Rd s'.heap v d bs→(∀ a∈bs,a∈used)→St (k+1) s'.heap→R v s') →
  wpAny (model Z.prog Z.w) A (pyNext (.ref I)) (fun r s₁=>∃ v,r=some v∧wpAny (model Z.prog Z.w) A (letOwnedTupleGo target (.ref I) v) (fun _ s'=>R v s') E s₁) E s
 done:∀(s:Shared)(Q:Option Value→Shared→Prop)(E:Value→Shared→Prop),St ds.length s.heap→aZ Z s →
  (∀ s',aZ Z s'→(∀ b o,b∉fp→s.heap.get? b=some o→s'.heap.get? b=some o)→Q none s')→wpAny (model Z.prog Z.w) A (pyNext (.ref I)) Q E s
 again:∀ k(s:Shared)(Q:Value→Shared→Prop)(E:Value→Shared→Prop),St k s.heap→Q (.ref I) s→wpAny (model Z.prog Z.w) A (pyIter (.ref I)) Q E s
def GM(target:Expr):Prop:=∃ n p,target = .Name n p
theorem uD{prog:Program}{w:World}{A:Around}{E:Value→Shared→Prop}{s:Shared}{Q:Unit→Shared→Prop}{target:Expr}{I:Addr}{v:Value}(ht:GM target)(h:Q () s):wpAny (model prog w) A (letOwnedTupleGo target (.ref I) v) Q E s:=by
 obtain⟨n,p,rfl⟩:=ht
 exact wpAny_pure h
theorem wU.two{Z:aE}{A:Around}{I:Addr}{ds:List PyData}{used:List Addr}{St:Nat→Heap→Prop}(J:wU Z A I ds used St){target:Expr}(ht:GM target):J5 Z A target I [I] ds used St where
 new:=fun _ h=>List.mem_singleton.mp h▸J.new
 apart:=fun _ h h'=>J.apart (List.mem_singleton.mp h'▸h)
 frame:=fun k h h' st hk=>J.frame k h h' st fun b hb=>hk b (hb.imp_left List.mem_singleton.mpr)
 live:=fun k h _ st a ha=>List.mem_singleton.mp ha▸J.live k h st
 step:=fun k d s R E hd st inv hR=>J.step k d s _ _ hd st inv fun v bs s' I' kp r hb st'=>⟨v,rfl,uD ht (hR v bs s' I' (fun b o hb e=>kp b o (fun e'=>hb (List.mem_singleton.mpr e')) e) r hb st')⟩
 done:=fun s Q E st inv hQ=>J.done s Q E st inv fun s' I' kp=>hQ s' I' fun b o hb e=>kp b o (fun e'=>hb (List.mem_singleton.mpr e')) e
 again:=J.again
section
variable{Z:aE}{cl:Nat→List PyData→Option PyData}{lvl:Nat}{nm:List Str}{fn:List Str}{sc:Scope}
structure Cs(Z:aE)(A:Around)(target:Expr)(O:List (Option Nat×Addr))(p:PI)(s:Shared)(ds:List PyData)(I:Addr)(fp used:List Addr)(St:Nat→Heap→Prop)(s':Shared):Prop where
 iter:J5 Z A target I fp ds used St
 start:St 0 s'.heap
 ok:cD ds=true
 len:ds.length≤sizeLine
 inv:aZ Z s'
 kp:Kp Z.n s.heap s'.heap
 fresh:∀ a∈fp,s.heap.get? a=none
 seq:∀ a∈used,∃ o vs n,s'.heap.get? a=some o∧o.data = .seq vs n∧o.cls ≠ .none
 own:∀ yb∈O,yb.2∈used→iP yb.1 (dX p)
def SJ(Z:aE)(cl:Nat→List PyData→Option PyData)(lvl:Nat)(nm:List Str)(sc:Scope)(e:Expr)(p:PI):Prop :=
 ∀{A:Around}{env:Env}{ρ:aN}{O:List (Option Nat×Addr)}{s:Shared}{ds:List PyData}{Q:Value→Shared→Prop}{E:Value→Shared→Prop}(target:Expr),GM target →
  Cx Z lvl nm sc A env ρ O s→wO cl p ρ=some ds →
  (∀ I fp used St s',Cs Z A target O p s ds I fp used St s'→Q (.ref I) s')→wpAny (model Z.prog Z.w) A (eval e env) (fun x s₁=>wpAny (model Z.prog Z.w) A (pyIter x) Q E s₁) E s
theorem SI.sj{e:Expr}{p:PI}(h:SI Z cl lvl nm sc e p):SJ Z cl lvl nm sc e p:=fun target ht X hd hQ =>
 h X hd fun I used St s' S=>hQ I [I] used St s' ⟨S.iter.two ht,S.start,S.ok,S.len,S.inv,S.kp,fun _ h=>List.mem_singleton.mp h▸S.fresh,S.seq,S.own⟩
end
noncomputable def w1(ifs:List Expr)(env:Env):Sem Bool:=forIn ifs true fun c r=>if r=true then do let ok ← isTrue c env (eval c env); pure (ForInStep.yield ok)else pure (ForInStep.yield r)
section
variable{prog:Program}{w:World}{A:Around}{E:Value→Shared→Prop}{R:Result→Shared→Prop}{s:Shared}{elt:Expr}{gens:List Comprehension}{scope:Scope}{pos:Pos}{depth:Nat}{it acc:Value}{env:Env}{target iter:Expr}{ifs:List Expr}{n:Option Comprehension}
noncomputable def JG(elt:Expr)(gens:List Comprehension)(scope:Scope)(pos:Pos)(depth:Nat)(it acc:Value)(env:Env):Option Comprehension→Sem Fin
 | some g'=>do
  let x ← eval g'.iter env
  standAt g'.iter.pos
  let x ← foldedSetIterable g'.iter env x
  let _ ← runOwn (.compStart (.ListComp elt gens scope pos) (depth+1) (← holding [x] (pyIter x)) acc env) env
  again (.compLoop (.ListComp elt gens scope pos) depth it acc env)
 | none=>do
  (do let _ ← call (.builtin "list.append") [acc,← eval elt env])
  again (.compLoop (.ListComp elt gens scope pos) depth it acc env)
theorem A9(hg:gens[depth]? = some ⟨target,iter,ifs,0⟩)(hn:gens[depth+1]? = n)(ha:∀ c,n=some c→c.is_async=0) :
  compTurn (.ListComp elt gens scope pos) depth it acc env=(do
   standAt iter.pos
   match ← pyNext it with
   | none=>pure (.done .next)
   | some v =>
    letOwnedTupleGo target it v
    assign target env v
    let ok ← w1 ifs env
    if ok then JG elt gens scope pos depth it acc env n
    else again (.compLoop (.ListComp elt gens scope pos) depth it acc env)):=by
 unfold compTurn
 dsimp only
 rw[hg]
 dsimp only
 rw[hn]
 cases n with
 | none=>rfl
 | some c =>
  obtain⟨t',i',f',az⟩:=c
  cases ha _ rfl
  rfl
def SL(M:Model)(A:Around)(elt:Expr)(gens:List Comprehension)(scope:Scope)(pos:Pos)(depth:Nat)(it acc:Value)(env:Env)(n:Option Comprehension)(K:Shared→Prop)(E:Value→Shared→Prop)(ok:Bool)(s:Shared):Prop :=
 bif ok then ∀ P:Fin→Shared→Prop,(∀ s₅,K s₅→P (.again (.compLoop (.ListComp elt gens scope pos) depth it acc env)) s₅)→wpAny M A (JG elt gens scope pos depth it acc env n) P E s else K s
theorem uU(hg:gens[depth]? = some ⟨target,iter,ifs,0⟩)(hn:gens[depth+1]? = n)(ha:∀ c,n=some c→c.is_async=0)(I:Nat→Shared→Prop)
  (turn:∀ k s,I k s→∀ E,wpAny (model prog w) A (pyNext it) (fun r s₁=>match r with
   | none=>R (.ok .next) s₁
   | some v=>wpAny (model prog w) A (letOwnedTupleGo target it v) (fun _ s₂=>wpAny (model prog w) A (assign target env v) (fun _ s₃=>wpAny (model prog w) A (w1 ifs env) (fun ok s₄ =>
SL (model prog w) A elt gens scope pos depth it acc env n (fun s₅=>∃ m,m<k∧I m s₅) E ok s₄) E s₃) E s₂) E s₁) E s)
  (k:Nat) (h:I k s):codeAny (model prog w) A (.compLoop (.ListComp elt gens scope pos) depth it acc env) R s:=by
 refine codeAny_loop rfl I (fun k s hI=>?_) k h
 show wpAny _ A ((compTurn (.ListComp elt gens scope pos) depth it acc env).onRaise (fun x=>do noteFrame x env; theTreesLotGoes x)) _ _ s
 rw[A9 hg hn ha]
 refine wpAny_noted (wpAny_bind (wpAny_standAt (wpAny_bind (wpAny_mono (turn k s hI _) (fun r s₁ h₁=>?_) fun _ _ h'=>h'))))
 cases r with
 | none=>exact wpAny_pure h₁
 | some v =>
  refine wpAny_bind (wpAny_mono h₁ (fun _ s₂ h₂=>wpAny_bind (wpAny_mono h₂ (fun _ s₃ h₃=>wpAny_bind (wpAny_mono h₃ (fun ok s₄ h₄=>?_) fun _ _ h'=>h')) fun _ _ h'=>h')) fun _ _ h'=>h')
  cases ok with
  | false=>exact wpAny_pure ⟨rfl,h₄⟩
  | true=>exact h₄ _ fun _ h₅=>⟨rfl,h₅⟩
theorem mA(hg:gens[depth]? = some ⟨target,iter,ifs,0⟩)(h0:codeAny (model prog w) A (.compLoop (.ListComp elt gens scope pos) depth it acc env) R s)
  (h:wpAny (model prog w) A (pyIter it) (fun it' s'=>codeAny (model prog w) A (.compLoop (.ListComp elt gens scope pos) depth it' acc env) R s') (notedBy (model prog w) A env fun x s'=>R (.error x) s') s) :
  codeAny (model prog w) A (.compStart (.ListComp elt gens scope pos) depth it acc env) R s:=by
 refine codeAny_of_tree ?_
 show wpAny _ _ ((compStart (.ListComp elt gens scope pos) depth it acc env).onRaise (fun x=>do noteFrame x env; standAt theWindowsPlace)) _ _ s
 refine wpAny_notedAt ?_
 unfold compStart
 rw[show(clausesOf (.ListComp elt gens scope pos))[depth]? = some ⟨target,iter,ifs,0⟩from hg]
 show wpAny _ _ (ask >>= _) _ _ s
 refine wpAny_bind (wpAny_askSetting (wpAny_ite ?_))
 split
 ·first
   | exact wpAny_bind (wpAny_pure (wpAny_pure (And.intro rfl h0)))
   | exact wpAny_pure (And.intro rfl h0)
 ·first
   | exact wpAny_bind (wpAny_rule (wpAny_bind (wpAny_standAt (wpAny_bind (wpAny_mono h (fun it' s' h'=>wpAny_pure (And.intro rfl h')) fun _ _ x=>x)))))
   | (refine wpAny_bind (wpAny_rule ?_); show wpAny _ _ (standAt iter.pos >>= _) _ _ s; exact wpAny_bind (wpAny_standAt (wpAny_bind (wpAny_mono h (fun it' s' h'=>wpAny_pure (And.intro rfl h')) fun _ _ x=>x))))
end
section
variable{Z:aE}{cl:Nat→List PyData→Option PyData}{lvl:Nat}{nm:List Str}{fn:List Str}{sc:Scope}
def SC(Z:aE)(cl:Nat→List PyData→Option PyData)(lvl:Nat)(nm:List Str)(sc:Scope)(ifs:List Expr)(c:PO):Prop :=
 ∀{A:Around}{env:Env}{ρ:aN}{O:List (Option Nat×Addr)}{s:Shared}{b:Bool}{Q:Bool→Shared→Prop}{E:Value→Shared→Prop},
  Cx Z lvl nm sc A env ρ O s→O0 cl c ρ=some b→(∀ s',aZ Z s'→Kp Z.n s.heap s'.heap→Q b s')→wpAny (model Z.prog Z.w) A (w1 ifs env) Q E s
theorem Y3:SC Z cl lvl nm sc [] .no:=fun{A env ρ O s b Q E}X hd hQ=>by
 cases hd
 exact wpAny_pure (hQ s X.hi (Kp.refl _ _))
theorem VM{e:Expr}{p:PE}(h:ST Z cl lvl nm sc e p):SC Z cl lvl nm sc [e] (.yes p):=fun{A env ρ O s b Q E}X hd hQ=>aV hd fun x hx ht=>by
 show wpAny _ A (forIn [e] true _) Q E s
 rw[List.forIn_cons]
 exact wpAny_bind (wpAny_bind (h X hx ht fun s₁ I₁ k₁=>wpAny_pure (wpAny_pure (hQ s₁ I₁ k₁))))
structure cX(acc:Addr)(res:List PyData)(O:List (Option Nat×Addr))(es:List Nat)(h:Heap):Prop where
 obj:∃ vs n sl as,h.get? acc=some { cls:=.type "list",dict:=none,data:=.seq vs n,slots:=sl }∧aU h vs.toList res as∧∀ yb∈O,yb.2∈as→iP yb.1 es
 ok:cD res=true
theorem cX.keep{acc:Addr}{res:List PyData}{O:List (Option Nat×Addr)}{es:List Nat}{h h':Heap}(x:cX acc res O es h)(hk:∀ b o,h.get? b=some o→(∃ xs n,o.data = .seq xs n)→o.cls ≠ .none→(b=acc∨(none,b)∉O)→h'.get? b=some o):cX acc res O es h':=by
 obtain⟨⟨vs,n,sl,as,e,r,ho⟩,ok⟩:=x
 refine⟨⟨vs,n,sl,as,hk _ _ e ⟨_,_,rfl⟩ nofun (.inl rfl),r.map fun a o ha' e' c=>?_,ho⟩,ok⟩
 obtain⟨o',xs,n',e'',hd,hc⟩:=r.objs a ha'
 cases e'.symm.trans e''
 exact hk a o e' ⟨_,_,hd⟩ (by rw[hc]; nofun) (.inr fun hy=>let⟨_,_,hz⟩:=ho _ hy ha'; nomatch hz)
theorem cX.push{acc:Addr}{res:List PyData}{O:List (Option Nat×Addr)}{es:List Nat}{A:Around}{s:Shared}{E:Value→Shared→Prop}{v:Value}{d:PyData}{bs:List Addr}{Q:Value→Shared→Prop}(x:cX acc res O es s.heap)(hn:Z.n≤acc)(ha:(none,acc)∈O)(hI:aZ Z s)(r:Rd s.heap v d bs)(hd:bL d=true)
  (ho:∀ yb∈O,yb.2∈bs→iP yb.1 es) (hsz:res.length≤sizeLine)
  (hQ:∀ s',aZ Z s'→cX acc (res++[d]) O es s'.heap→(∀ b o,b≠acc→s.heap.get? b=some o→s'.heap.get? b=some o)→Q .none s') :
  wpAny (model Z.prog Z.w) A (call (.builtin "list.append") [.ref acc,v]) Q E s:=by
 obtain⟨⟨vs,n,sl,as,e,rs,hos⟩,ok⟩:=x
 have hlen:=aT rs
 rw[Array.length_toList]at hlen
 have noacc:∀{cs:List Addr},(∀ yb∈O,yb.2∈cs→iP yb.1 es)→acc∉cs:=fun h hm=>let⟨_,_,hz⟩:=h _ ha hm; nomatch hz
 refine wpAny_call_entry slot_list_append ⟨_,e,rfl⟩ entry_list_append ?_ (args_list_append _ _)
 show wpAny _ _ (updateSeq acc (·.push v) >>= fun _=>ret .none) _ _ s
 refine wpAny_bind (wpAny_updateSeq e rfl (wpAny_pure ⟨.none,rfl,?_⟩))
 have hs:=Heap.SameBut.update s.heap acc (Obj.mapSeq (·.push v))
 have hk:∀ b o,b≠acc→s.heap.get? b=some o→(s.heap.update acc (Obj.mapSeq (·.push v))).get? b=some o:=fun b o hb q=>(hs.2 b hb).trans q
 refine hQ _ (hI.same hn hs (fun h=>absurd h (hI.frNot e nofun)) s.toks) ⟨⟨vs.push v,_,sl,as++bs,Heap.get?_update_self _ e rfl,?_,fun yb hy hm=>(List.mem_append.mp hm).elim (hos yb hy) (ho yb hy)⟩,kO.mpr ⟨ok,by rw[cD,hd]; rfl⟩⟩ hk
 rw[Array.toList_push,← List.append_nil bs]
 exact jH (rs.map fun a o h1 h2 _=>hk a o (fun e'=>noacc hos (e'▸h1)) h2) (.cons (r.map fun a o h1 h2 _=>hk a o (fun e'=>noacc ho (e'▸h1)) h2) .nil)
theorem aK.of_but{env:Env}{xs:List Nat}{X:Addr→Prop}{h h':Heap}(hk:∀ b o,¬X b→h.get? b=some o→h'.get? b=some o)(h1:¬X env.locals)(h2:∀ n c,cf env n→env.cells.lookup n=some c→¬X c):aK Z nm env xs X h h' where
 keep:=fun b o e _ _ hx=>.inl (hk b o hx e)
 acc:=fun n v _ hv=>hv.imp (fun⟨h3,m,⟨o,es,ep,e,r⟩,h5⟩=>⟨h3,m,⟨o,es,ep,hk _ _ h1 e,r⟩,h5⟩) fun⟨h3,c,h4,⟨o,e,r⟩⟩=>⟨h3,c,h4,⟨o,hk _ _ (h2 n c h3 h4) e,r⟩⟩
 ns:=fun⟨m,⟨o,es,ep,e,r⟩⟩=>⟨m,⟨o,es,ep,hk _ _ h1 e,r⟩⟩
 cells:=fun n c v hkd hc⟨o,e,r⟩=>⟨v,o,hk _ _ (h2 n c hkd hc) e,r⟩
theorem aH.but{env:Env}{ρ:aN}{O:List (Option Nat×Addr)}{xs:List Nat}{I:Addr}{h h':Heap}(hE:aH Z nm env ρ O h)(hI:(none,I)∈O)(hk:∀ b o,b≠I→h.get? b=some o→h'.get? b=some o):aK Z nm env xs (· = I) h h' :=
 .of_but hk (fun e=>(hE.apart _ hI).1 e.symm) fun n c hkd hc e=>(hE.apart _ hI).2 n c hkd hc e.symm
theorem aH.buts{env:Env}{ρ:aN}{O:List (Option Nat×Addr)}{xs:List Nat}{fp:List Addr}{h h':Heap}(hE:aH Z nm env ρ O h)(hI:∀ a∈fp,(none,a)∈O)(hk:∀ b o,b∉fp→h.get? b=some o→h'.get? b=some o):aK Z nm env xs (· ∈ fp) h h' :=
 .of_but hk (fun e=>(hE.apart _ (hI _ e)).1 rfl) fun n c hkd hc e=>(hE.apart _ (hI _ e)).2 n c hkd hc rfl
theorem HW{f:PyData→Option (List PyData)}{d:PyData}{ds new:List PyData}{G:Prop}(h:zF f (d::ds)=some new)(k:∀ a b,f d=some a→zF f ds=some b→new=a++b→G):G :=
 aV (o:=f d) h fun a ha h=>bY h fun b hb e=>k a b ha hb e.symm
structure mN(used:List Addr)(h:Heap):Prop where
 at_:∀ a∈used,∃ o vs n,h.get? a=some o∧o.data = .seq vs n∧o.cls ≠ .none
theorem mN.turn{env:Env}{ρ:aN}{O:List (Option Nat×Addr)}{xs:List Nat}{X:Addr→Prop}{used:List Addr}{h h':Heap}(sq:mN used h)(hE:aH Z nm env ρ O h)(T:aK Z nm env xs X h h')(hX:∀ b∈used,¬X b):(∀ b∈used,∀ o,h.get? b=some o→h'.get? b=some o)∧mN used h':=by
 have hu:∀ b∈used,∀ o,h.get? b=some o→h'.get? b=some o:=fun b hb o e=>by
  obtain⟨o',vs,n,e',hd,hc⟩:=sq.at_ b hb
  cases e.symm.trans e'
  exact(T.keep b o e (.inl hc) (fun w=>(hE.wr_ge w).2.2 o vs n e hd) (hX b hb)).seq hd
 exact⟨hu,⟨fun b hb=>let⟨o',vs,n,e',r⟩:=sq.at_ b hb; ⟨o',vs,n,hu b hb o' e',r⟩⟩⟩
def SG(Z:aE)(cl:Nat→List PyData→Option PyData)(lvl:Nat)(nm:List Str)(sc:Scope)(elt:Expr)(gens:List Comprehension)(pos:Pos)(pe:PE)(depth:Nat)(g:PG):Prop :=
 ∀{A:Around}{env:Env}{ρ:aN}{O:List (Option Nat×Addr)}{s:Shared}{it:Value}{acc:Addr}{res new:List PyData}{es:List Nat}{P:Fin→Shared→Prop}{E:Value→Shared→Prop},Cx Z lvl nm sc A env ρ O s→pE sc env→Z.n≤acc→(none,acc)∈O→cX acc res O es s.heap →
  (∀ x∈uL g,aY ρ x=none)→(∀ y,y∈lT pe++GJ g→y∈es)→(uL g).Nodup→OU cl (aD cl pe) g ρ=some new→(res++new).length≤sizeLine →
  (∀ s',aZ Z s'→aK Z nm env (uL g) (· = acc) s.heap s'.heap→cX acc (res++new) O es s'.heap→P (.again (.compLoop (.ListComp elt gens sc pos) depth it (.ref acc) env)) s') →
  wpAny (model Z.prog Z.w) A (JG elt gens sc pos depth it (.ref acc) env gens[depth+1]?) P E s
theorem cX.kp{acc:Addr}{res:List PyData}{O O₂:List (Option Nat×Addr)}{es xs:List Nat}{env:Env}{ρ:aN}{h h':Heap}(x:cX acc res O es h)(hE:aH Z nm env ρ O₂ h)(T:aK Z nm env xs (fun _=>False) h h'):cX acc res O es h' :=
 x.keep fun b o e⟨vs,n,hd⟩hc _=>(T.keep b o e (.inl hc) (fun w=>(hE.wr_ge w).2.2 o vs n e hd) id).seq hd
theorem VB{elt:Expr}{gens:List Comprehension}{pos:Pos}{pe:PE}{depth:Nat}(hn:gens[depth+1]? = none)(h:SE Z cl lvl nm sc elt pe):SG Z cl lvl nm sc elt gens pos pe depth .nil:=fun{A env ρ O s it acc res new es P E}X hf hna hacc ok hρ hes hnd hev hsz hP=>bY hev fun d hd e=>by
 subst e
 rw[hn]
 refine wpAny_bind (wpAny_bind (h X hd fun v bs s₁ I₁ k₁ r₁ ok₁ o₁=>wpAny_bind ?_))
 have T:aK Z nm env [] (fun _=>False) s.heap s₁.heap:=.of_kp X.he k₁
 refine(ok.kp X.he T).push hna hacc I₁ r₁ ok₁ (fun yb hy hm=>let⟨y,h1,h2⟩:=o₁ yb hy hm; ⟨y,hes y (List.mem_append_left _ h1),h2⟩) (Nat.le_trans (List.prefix_append _ _).length_le hsz) fun s₂ I₂ ok₂ hk=>wpAny_pure (wpAny_pure (hP s₂ I₂ ((T.mono (fun _ h=>h) fun _ h=>h.elim).trans ((X.he.kp k₁).but hacc hk)) ok₂))
theorem DI{t:Tg}{d:PyData}{ρ ρ':aN}(hb:gJ t d ρ=some ρ'){x:Nat}(hx:x∉bT t):aY ρ' x=aY ρ x:=by
 have ne:∀(σ:aN)(y:Nat)(q:Option PyData),y≠x→aY (σ.set y q) x=aY σ x:=fun σ y q hne=>by unfold aY; rw[List.getElem?_set_ne hne]
 cases t with
 | one y=>cases hb; exact ne _ _ _ fun e=>hx (e ▸ .head _)
structure J6(Z:aE)(cl:Nat→List PyData→Option PyData)(lvl:Nat)(nm:List Str)(sc:Scope)(elt:Expr)(gens:List Comprehension)(pos:Pos)(pe:PE)(depth:Nat)(t:Tg)(c:PO)(g:PG)(target iter:Expr)(ifs:List Expr):Prop where
 hg:gens[depth]? = some ⟨target,iter,ifs,0⟩
 ha:∀ c,gens[depth+1]? = some c→c.is_async=0
 hnd:nm.Nodup
 hck:vA nm sc t target=true
 hc:SC Z cl lvl nm sc ifs c
 hr:SG Z cl lvl nm sc elt gens pos pe depth g
theorem tX{elt target iter:Expr}{ifs:List Expr}{gens:List Comprehension}{pos:Pos}{pe:PE}{depth:Nat}{t:Tg}{c:PO}{g:PG}(G:J6 Z cl lvl nm sc elt gens pos pe depth t c g target iter ifs)
  {A:Around} {env:Env} {ρ:aN} {O:List (Option Nat×Addr)} {s:Shared} {acc:Addr} {res new:List PyData} {es:List Nat} {R:Result→Shared→Prop} {I:Addr} {fp used:List Addr} {St:Nat→Heap→Prop} {ds:List PyData}
  (X:Cx Z lvl nm sc A env ρ O s) (hf:pE sc env) (hna:Z.n≤acc) (hacc:(none,acc)∈O) (hfp:∀ a∈fp,(none,a)∈O) (hit:J5 Z A target I fp ds used St) (hst:St 0 s.heap)
  (hseq:mN used s.heap) (hus:∀ yb∈O,yb.2∉used) (haf:acc∉fp) (hok:cX acc res O es s.heap) (hdsok:cD ds=true) (hρ:∀ x∈bT t++uL g,aY ρ x=none) (hes:∀ y,y∈lT pe++GJ g→y∈es) (hnd:(bT t++uL g).Nodup)
  (hev:zF (fun d=>(gJ t d ρ).bind fun ρ'=>(O0 cl c ρ').bind fun b=>if b then OU cl (aD cl pe) g ρ' else some []) ds=some new) (hsz:(res++new).length≤sizeLine)
  (hR:∀ s',aZ Z s'→aK Z nm env (bT t++uL g) (fun b=>b=acc∨b∈fp) s.heap s'.heap→cX acc (res++new) O es s'.heap→R (.ok .next) s') :
  codeAny (model Z.prog Z.w) A (.compLoop (.ListComp elt gens sc pos) depth (.ref I) (.ref acc) env) R s:=by
 let f:PyData→Option (List PyData):=fun d=>(gJ t d ρ).bind fun ρ'=>(O0 cl c ρ').bind fun b=>if b then OU cl (aD cl pe) g ρ' else some []
 let Y:Addr→Prop:=fun b=>b=acc∨b∈fp
 have hYO:∀ b,Y b→(none,b)∈O:=fun b hx=>hx.elim (fun e=>e▸hacc) (hfp b)
 have liveY:∀{h:Heap}{rr:List PyData}{j:Nat},cX acc rr O es h→j≤ds.length→St j h→∀ yb∈O,Y yb.2→∃ o,h.get? yb.2=some o∧o.cls ≠ .none:=fun ok hj st yb _ hx=>hx.elim (fun e=>by
  obtain⟨⟨vs,n,sl,as,e',_⟩,_⟩:=ok
  exact e▸⟨_,e',nofun⟩) fun hm=>let⟨o,e',c,_⟩:=hit.live _ _ hj st _ hm; ⟨o,e',c⟩
 let J:Nat→Shared→Prop:=fun n s'=>∃ k res' new',n=ds.length - k∧k≤ds.length∧St k s'.heap∧aZ Z s'∧aK Z nm env (bT t++uL g) Y s.heap s'.heap∧cX acc res' O es s'.heap∧zF f (ds.drop k)=some new'∧res'++new'=res++new∧mN used s'.heap
 refine uU G.hg rfl G.ha J (fun n s₀ hJ E=>?_) ds.length ⟨0,res,new,rfl,Nat.zero_le _,hst,X.hi,aK.of_kp X.he (Kp.refl _ _),hok,hev,rfl,hseq⟩
 obtain⟨k,res',new',rfl,hk,st₀,I₀,T₀,ok₀,ev₀,hsum,sq₀⟩:=hJ
 have E₀:aH Z nm env ρ O s₀.heap:=X.he.of_turned G.hnd T₀ hρ (liveY ok₀ hk st₀) hYO
 have keepI:∀{rr:List PyData}{h:Heap},cX acc rr O es s₀.heap→(∀ b o,b∉fp→s₀.heap.get? b=some o→h.get? b=some o)→cX acc rr O es h:=fun ok kp=>ok.keep fun b o e _ _ hb=>kp b o (fun hm=>hb.elim (fun e=>haf (e▸hm)) fun h=>h (hfp b hm)) e
 rcases hdr:ds.drop k with _ | ⟨d,r⟩
 ·
  rw[hdr]at ev₀
  cases ev₀
  rw[List.append_nil]at hsum
  subst hsum
  have hkl:k=ds.length:=Nat.le_antisymm hk (List.drop_eq_nil_iff.mp hdr)
  exact hit.done s₀ _ _ (hkl▸st₀) I₀ fun s₁ I₁ kp₁=>hR s₁ I₁ (T₀.trans ((E₀.buts hfp kp₁).mono (fun _ h=>h) fun _ h=>.inr h)) (keepI ok₀ kp₁)
 ·
  have hlt:k<ds.length:=Nat.lt_of_not_le fun h=>by rw[List.drop_eq_nil_iff.mpr h]at hdr; cases hdr
  have hdk:ds[k]? = some d:=by rw[← Nat.add_zero k,← List.getElem?_drop,hdr]; rfl
  have hdr1:ds.drop (k+1)=r:=by rw[← List.drop_drop,hdr]; rfl
  rw[hdr]at ev₀
  refine HW ev₀ fun a b hfa hfb e=>aV (o:=gJ t d ρ) hfa fun ρ' hb hfa=>aV (o:=O0 cl c ρ') hfa fun tb ht hfa=>?_
  subst e
  refine wpAny_mono (hit.step k d s₀ (fun v s₂=>wpAny (model Z.prog Z.w) A (assign target env v) (fun _ s₃=>wpAny (model Z.prog Z.w) A (w1 ifs env) (SL (model Z.prog Z.w) A elt gens sc pos depth (.ref I) (.ref acc) env gens[depth+1]? (fun s₅=>∃ m,m<ds.length - k∧J m s₅) E) E s₃) E s₂) E hdk st₀ I₀ fun v bs s₁ I₁ kp₁ r₁ hbs st₁=>?_) (fun r s₁ hv=>by obtain⟨v,rfl,h₁⟩:=hv; exact h₁) fun _ _ h=>h
  have ok₁:cX acc res' O es s₁.heap:=keepI ok₀ kp₁
  have TI:=(E₀.buts (xs:=bT t++uL g) hfp kp₁).mono (Y:=Y) (fun _ h=>h) fun _ h=>.inr h
  have E₁:aH Z nm env ρ O s₁.heap:=E₀.of_turned G.hnd TI hρ (liveY ok₁ hlt st₁) hYO
  have sq₁:=(sq₀.turn E₀ TI fun b hb hx=>hx.elim (fun e=>hus _ hacc (e▸hb)) (hit.apart b hb)).2
  refine ME G.hck G.hnd X.hs hf E₁ I₁ hb r₁ (nS hdsok hdk) (fun yb hy hm=>hus yb hy (hbs _ hm)) fun s₂ I₂ E₂ T₂=>G.hc ⟨X.ha,X.hs,E₂,I₂⟩ ht fun s₃ I₃ k₃=>?_
  have E₃:=E₂.kp k₃
  have T₁₃:aK Z nm env (bT t) (fun _=>False) s₁.heap s₃.heap:=T₂.trans (.of_kp E₂ k₃)
  have ok₃:=ok₁.kp E₁ T₁₃
  have go:∀ s₄,aZ Z s₄→aK Z nm env (uL g) (· = acc) s₃.heap s₄.heap→cX acc (res'++a) O es s₄.heap→∃ m,m<ds.length - k∧J m s₄:=fun s₄ I₄ T₄ ok₄=>by
   have T₁₄:aK Z nm env (bT t++uL g) (· = acc) s₁.heap s₄.heap:=(T₁₃.mono (fun _ h=>List.mem_append_left _ h) fun _ h=>h.elim).trans (T₄.mono (fun _ h=>List.mem_append_right _ h) fun _ h=>h)
   obtain⟨hu,sq₄⟩:=sq₁.turn E₁ T₁₄ fun b hb e=>hus _ hacc (e▸hb)
   exact⟨ds.length - (k+1),Nat.sub_lt_sub_left hlt (Nat.lt_succ_self k),k+1,res'++a,b,rfl,hlt,hit.frame _ _ _ st₁ fun b hb o e=>hb.elim (fun hb=>let⟨o',e',cI,dI⟩:=hit.live _ _ hlt st₁ b hb; (by
    cases e.symm.trans e'
    exact(T₁₄.keep b o e (.inl cI) (E₁.out (hfp b hb)) fun e=>haf (e▸hb)).nd dI)) fun hb=>hu b hb o e,I₄,T₀.trans (TI.trans (T₁₄.mono (fun _ h=>h) fun _ h=>.inl h)),ok₄,hdr1▸hfb,by rw[List.append_assoc]; exact hsum,sq₄⟩
  cases tb with
  | false=>cases hfa; exact go s₃ I₃ (.of_kp E₃ (Kp.refl _ _)) (by rw[List.append_nil]; exact ok₃)
  | true =>
   refine fun P hP=>G.hr ⟨X.ha,X.hs,E₃,I₃⟩ hf hna hacc ok₃ (fun x hx=>?_) hes (List.nodup_append.mp hnd).2.1 hfa ?_ fun s₄ I₄ T₄ ok₄=>hP s₄ (go s₄ I₄ T₄ ok₄)
   ·rw[DI hb fun hm=>(List.nodup_append.mp hnd).2.2 x hm x hx rfl]
    exact hρ x (List.mem_append_right _ hx)
   ·rw[← hsum,← List.append_assoc,List.length_append]at hsz
    exact Nat.le_trans (Nat.le_add_right _ _) hsz
end
section
variable{Z:aE}{cl:Nat→List PyData→Option PyData}{lvl:Nat}{nm:List Str}{fn:List Str}{sc:Scope}
theorem aK.narrow{env:Env}{xs:List Nat}{X Y:Addr→Prop}{h h':Heap}(T:aK Z nm env xs X h h')(hX:∀ b o,X b→h.get? b=some o→Y b):aK Z nm env xs Y h h':={ T with keep:=fun b o e c hw hy=>T.keep b o e c hw fun hx=>hy (hX b o hx e) }
theorem cX.reserves{acc:Addr}{res:List PyData}{O:List (Option Nat×Addr)}{fp:List Addr}{es es':List Nat}{h:Heap}(x:cX acc res O es h)(hfr:∀ a∈fp,h.get? a=none):cX acc res (reserves fp O es') es h :=
 ⟨let⟨vs,n,sl,as,e,r,ho⟩:=x.obj; ⟨vs,n,sl,as,e,r,fun yb hy hm=>(cT hy).elim (fun⟨a,ha,e'⟩=>by
  obtain⟨o,_,_,e'',_⟩:=r.objs _ hm
  rw[e']at e''
  cases(hfr a ha).symm.trans e'') fun h=>ho yb h.1 hm⟩,x.ok⟩
theorem PZ{elt target iter:Expr}{ifs:List Expr}{gens:List Comprehension}{pos:Pos}{pe:PE}{depth:Nat}{t:Tg}{i:PI}{c:PO}{g:PG}(G:J6 Z cl lvl nm sc elt gens pos pe (depth+1) t c g target iter ifs)(ht:GM target)(hset:gW iter=false)(hi:SJ Z cl lvl nm sc iter i) :
  SG Z cl lvl nm sc elt gens pos pe depth (.cons t i c g):=fun{A env ρ O s it acc res new es P E}X hf hna hacc ok hρ hes hnd hev hsz hP=>aV hev fun ds hx hev=>by
 rw[G.hg]
 refine wpAny_bind (wpAny_mono (hi (Q:=fun it' s₂=>wpAny (model Z.prog Z.w) A (runOwn (.compStart (.ListComp elt gens sc pos) (depth+1) it' (.ref acc) env) env >>= fun _=>again (.compLoop (.ListComp elt gens sc pos) depth it (.ref acc) env)) P E s₂) target ht X hx fun I fp used St s₁ S=>wpAny_bind (wpAny_runOwn ?_)) (fun x s₁ h₁=>wpAny_bind (wpAny_standAt (wpAny_bind (wpAny_of_eq (pM hset env x) (wpAny_bind (wpAny_holding h₁)))))) fun _ _ h=>h)
 have E₁:aH Z nm env ρ (reserves fp O (dX i)) s₁.heap:=X.he.reserves S.kp S.fresh fun a ha=>let⟨o,e,c,_⟩:=S.iter.live _ _ (Nat.zero_le _) S.start a ha; ⟨o,e,c⟩
 have haf:acc∉fp:=fun hm=>by obtain⟨o,e,_⟩:=X.he.live _ hacc; cases(S.fresh _ hm).symm.trans e
 have ok₁:cX acc res (reserves fp O (dX i)) es s₁.heap:=(ok.reserves S.fresh).kp (xs:=[]) X.he (.of_kp X.he S.kp)
 have loop:∀ R:Result→Shared→Prop,(∀ s',P (.again (.compLoop (.ListComp elt gens sc pos) depth it (.ref acc) env)) s'→R (.ok .next) s')→codeAny (model Z.prog Z.w) A (.compLoop (.ListComp elt gens sc pos) (depth+1) (.ref I) (.ref acc) env) R s₁:=fun R hR =>
  tX G ⟨X.ha,X.hs,E₁,S.inv⟩ hf hna (jG hacc) (fun a ha=>tR ha) S.iter S.start ⟨S.seq⟩ (fun yb hy hm=>(cT hy).elim (fun⟨a,ha,e⟩=>S.iter.apart _ hm (e▸ha)) fun h=>h.2 (S.own yb h.1 hm)) haf ok₁ S.ok hρ
   (fun y hy=>hes y ((List.mem_append.mp hy).elim (List.mem_append_left _) fun h=>List.mem_append_right _ (List.mem_append_right _ h))) hnd hev hsz
   fun s' I' T ok'=>hR s' (hP s' I' (((aK.of_kp X.he S.kp).trans T).narrow fun b o hb e=>hb.elim id fun hm=>by cases(S.fresh b hm).symm.trans e)
    ⟨let⟨vs,n,sl,as,e,r,ho⟩:=ok'.obj; ⟨vs,n,sl,as,e,r,fun yb hy hm=>(dJ hy).elim (fun h=>ho yb h hm) fun⟨y,h1,h2⟩=>⟨y,hes y (List.mem_append_right _ (List.mem_append_left _ h1)),h2⟩⟩,ok'.ok⟩)
 exact mA G.hg (loop _ fun _ h=>wpAny_pure h) (S.iter.again 0 s₁ _ _ S.start (loop _ fun _ h=>wpAny_pure h))
end
section
variable{β:Type}{m n:Str}{k b:β}{r l:List (Str×β)}
theorem jO:((m,k)::r).lookup m=some k:=by rw[List.lookup_cons,beq_self_eq_true]
theorem j9(h:n≠m):((m,k)::r).lookup n=r.lookup n:=by rw[List.lookup_cons,beq_false_of_ne h]
theorem f6:∀{l:List (Str×β)},l.lookup n=some b→(n,b)∈l
 | [],h=>nomatch h
 | (m,k)::r,h=>by
  by_cases e:n=m
  ·subst e; rw[jO]at h; cases h; exact List.mem_cons_self
  ·rw[j9 e]at h; exact List.mem_cons_of_mem _ (f6 h)
theorem CB:∀{l:List (Str×β)},(l.map (·.1)).Nodup→(n,b)∈l→l.lookup n=some b
 | (m,k)::r,hnd,h=>by
  rw[List.map_cons,List.nodup_cons]at hnd
  rcases List.mem_cons.mp h with e | h
  ·cases e; exact jO
  ·rw[j9 (show n≠m from fun e=>hnd.1 (by rw[← e]; exact List.mem_map_of_mem (f:=(·.1)) h))]; exact CB hnd.2 h
end
noncomputable def c4(env:Env):List (Str×NameKind)→List (Str×Addr)→List (Str×Addr)
 | [],acc=>acc
 | (n,k)::r,acc=>if k == .free then c4 env r ((n,(env.cells.lookup n).getD 0)::acc)else c4 env r acc
theorem jJ{env:Env}(f:Str×NameKind→List (Str×Addr)→Sem (ForInStep (List (Str×Addr))))
  (hf:∀ n k cs,f (n,k) cs=if(k == .free)=true then(do let a ← cellOf env n; pure (.yield ((n,a)::cs)))else pure (.yield cs)) :
  ∀(names:List (Str×NameKind))(acc:List (Str×Addr)),(∀ n,(n,NameKind.free)∈names→∃ c,env.cells.lookup n=some c)→(forIn names acc f:Sem (List (Str×Addr)))=pure (c4 env names acc)
 | [],acc,_=>by rw[List.forIn_nil]; rfl
 | (n,k)::r,acc,h=>by
  rw[List.forIn_cons,hf]
  have hr:∀ m,(m,NameKind.free)∈r→∃ c,env.cells.lookup m=some c:=fun m hm=>h m (List.mem_cons_of_mem _ hm)
  unfold c4
  by_cases hk:(k == .free)=true
  ·cases eq_of_beq hk
   obtain⟨c,hc⟩:=h n List.mem_cons_self
   rw[if_pos hk,if_pos hk]
   unfold cellOf
   rw[hc]
   exact jJ f hf r _ hr
  ·rw[if_neg hk,if_neg hk]
   exact jJ f hf r _ hr
theorem uV{env:Env}{scope:Scope}(h:∀ n,(n,NameKind.free)∈scope.names→∃ c,env.cells.lookup n=some c):closureFor scope env=pure (c4 env scope.names []):=by
 simp only[closureFor]
 rw[jJ (env:=env) _ (fun n k cs=>by cases k <;> rfl) scope.names [] h]
 rfl
theorem jV{env:Env}{n:Str}:∀(names:List (Str×NameKind))(acc:List (Str×Addr)),(names.map (·.1)).Nodup→(∀ n,(n,NameKind.free)∈names→∃ c,env.cells.lookup n=some c) →
  (names.lookup n=some .free→(c4 env names acc).lookup n=env.cells.lookup n)∧(names.lookup n≠some .free→(c4 env names acc).lookup n=acc.lookup n)
 | [],acc,_,_=>⟨nofun,fun _=>rfl⟩
 | (m,k)::r,acc,hnd,h=>by
  rw[List.map_cons,List.nodup_cons]at hnd
  have ih:=fun acc=>jV (n:=n) r acc hnd.2 fun m hm=>h m (List.mem_cons_of_mem _ hm)
  unfold c4
  by_cases e:n=m
  ·subst e
   have no:r.lookup n≠some .free:=fun h=>hnd.1 (List.mem_map_of_mem (f:=(·.1)) (f6 h))
   rw[jO]
   by_cases hk:(k == .free)=true
   ·cases eq_of_beq hk
    obtain⟨c,hc⟩:=h n List.mem_cons_self
    rw[if_pos hk,(ih _).2 no,jO,hc]
    exact⟨fun _=>rfl,fun h=>absurd rfl h⟩
   ·rw[if_neg hk,(ih _).2 no]
    exact⟨fun h=>absurd (by rw[Option.some.inj h]; rfl) hk,fun _=>rfl⟩
  ·rw[j9 e]
   by_cases hk:(k == .free)=true
   ·rw[if_pos hk]
    exact⟨(ih _).1,fun h=>((ih _).2 h).trans (j9 e)⟩
   ·rw[if_neg hk]
    exact ih _
theorem CA{β:Type}{n:Str}{l:List (Str×β)}(h:n∉l.map (·.1)):l.lookup n=none:=by
 cases e:l.lookup n with
 | none=>rfl
 | some b=>exact absurd (List.mem_map_of_mem (f:=(·.1)) (f6 e)) h
theorem tJ(n:Str):∀(names:List (Str×NameKind))(N:Nat)(acc:List (Str×Addr)),(names.map (·.1)).Nodup →
  (names.lookup n=some .cell→(cellsFrom N names acc).lookup n=(cellsFrom N names []).lookup n∧∃ c,(cellsFrom N names acc).lookup n=some c∧N≤c)∧(names.lookup n≠some .cell→(cellsFrom N names acc).lookup n=acc.lookup n)
 | [],_,_,_=>⟨nofun,fun _=>rfl⟩
 | (m,k)::r,N,acc,hnd=>by
  rw[List.map_cons,List.nodup_cons]at hnd
  have ih:=fun N acc=>tJ n r N acc hnd.2
  unfold cellsFrom
  by_cases e:n=m
  ·subst e
   have no:∀ N acc,(cellsFrom N r acc).lookup n=acc.lookup n:=fun N acc=>(ih N acc).2 (by rw[CA hnd.1]; nofun)
   rw[jO]
   by_cases hk:(k == .cell)=true
   ·rw[if_pos hk,if_pos hk,no,no,jO,jO]
    exact⟨fun _=>⟨rfl,N,rfl,Nat.le_refl _⟩,fun h=>absurd (congrArg some (eq_of_beq hk)) h⟩
   ·rw[if_neg hk,if_neg hk,no,no]
    exact⟨fun h=>absurd (by rw[Option.some.inj h]; rfl) hk,fun _=>rfl⟩
  ·rw[j9 e]
   by_cases hk:(k == .cell)=true
   ·rw[if_pos hk,if_pos hk]
    exact⟨fun h=>have g:=(ih (N+1) ((m,N)::acc)).1 h; ⟨g.1.trans ((ih (N+1) [(m,N)]).1 h).1.symm,let⟨c,h1,h2⟩:=g.2; ⟨c,h1,Nat.le_of_succ_le h2⟩⟩,fun h=>((ih _ _).2 h).trans (j9 e)⟩
   ·rw[if_neg hk,if_neg hk]
    exact ih N acc
noncomputable def rk(env:Env)(n:Str)(k:NameKind):NameKind:=if(k == .free&&env.scope.kind == .function&&env.kindOf n==some .cell)then .cell else k
theorem s9{env:Env}{n:Str}{k:NameKind}(h:k ≠ .free):rk env n k=k:=if_neg fun e=>h (eq_of_beq (aA (aA e).1).1)
theorem EN(env:Env)(n:Str):rk env n .free = .cell∨rk env n .free = .free:=by
 unfold rk
 cases(NameKind.free == .free&&env.scope.kind == .function&&env.kindOf n==some .cell)
 ·exact .inr rfl
 ·exact .inl rfl
theorem kW(env:Env)(n:Str):∀(names:List (Str×NameKind)),
  (names.map fun(n,k)=>if(k==NameKind.free&&env.scope.kind == .function&&env.kindOf n==some .cell)then(n,NameKind.cell)else(n,k)).lookup n=(names.lookup n).map (rk env n)
 | []=>rfl
 | (m,k)::r=>by
  have e1:(match(m,k)with | (n,k)=>if(k==NameKind.free&&env.scope.kind == .function&&env.kindOf n==some .cell)=true then(n,NameKind.cell)else(n,k))=(m,rk env m k):=by
   show(if(k==NameKind.free&&env.scope.kind == .function&&env.kindOf m==some .cell)=true then(m,NameKind.cell)else(m,k))=_
   unfold rk
   cases(k==NameKind.free&&env.scope.kind == .function&&env.kindOf m==some .cell) <;> rfl
  rw[List.map_cons,e1]
  by_cases e:n=m
  ·subst e; rw[jO,jO]; rfl
  ·rw[j9 e,j9 e]; exact kW env n r
section
variable{Z:aE}{cl:Nat→List PyData→Option PyData}{lvl:Nat}{nm:List Str}{fn:List Str}{sc:Scope}
theorem n7:∀{ts:List Nat}{ρ:aN}{x:Nat}{d:PyData},aY (O1 ts ρ) x=some d→x∉ts∧aY ρ x=some d
 | [],_,_,_,h=>⟨nofun,h⟩
 | t::ts,ρ,x,d,h=>by
  obtain⟨h1,h2⟩:=n7 (ts:=ts) (ρ:=ρ.set t none) h
  exact⟨fun hm=>(List.mem_cons.mp hm).elim (fun e=>by subst e; rw[tY]at h2; cases h2) h1,vY h2⟩
theorem OL{ts:List Nat}(ρ:aN){x:Nat}(h:x∈ts):aY (O1 ts ρ) x=none:=by
 cases e:aY (O1 ts ρ) x with
 | none=>rfl
 | some d=>exact absurd h (n7 e).1
structure mQ(nm:List Str)(sc scope:Scope)(ts:List Nat):Prop where
 tsnd:ts.Nodup
 kind:scope.kind = .function
 nodup:(scope.names.map (·.1)).Nodup
 nmnd:nm.Nodup
 dot:(".0" : Str)∉nm
 free:∀ n,scope.names.lookup n=some .free→sc.names.lookup n=some .cell∨sc.names.lookup n=some .free
 own:∀ n,scope.names.lookup n=some .local→n = ".0" ∨ ∃ x∈ts,nm[x]? = some n
 ownC:∀ n,scope.names.lookup n=some .cell→n = ".0" ∨ ∃ x∈ts,nm[x]? = some n
theorem tQ{scope:Scope}{ts:List Nat}(h:EJ nm sc scope ts=true):mQ nm sc scope ts:=by
 obtain⟨h1,h⟩:=aA h
 obtain⟨h0,h⟩:=aA h
 obtain⟨h2,h⟩:=aA h
 obtain⟨h3,h⟩:=aA h
 obtain⟨h4,h⟩:=aA h
 have h6:=List.all_eq_true.mp h
 have own:∀ n:Str,(n == ".0" || ts.any fun x=>nm[x]? == some n)=true→n = ".0" ∨ ∃ x∈ts,nm[x]? = some n:=fun n h=>(Bool.or_eq_true_iff.mp h).imp eq_of_beq fun h=>let⟨x,h1,h2⟩:=List.any_eq_true.mp h; ⟨x,h1,eq_of_beq h2⟩
 refine⟨of_decide_eq_true h0,eq_of_beq h1,of_decide_eq_true h2,of_decide_eq_true h3,fun hm=>?_,fun n hn=>(Bool.or_eq_true_iff.mp (h6 _ (f6 hn))).imp eq_of_beq eq_of_beq,fun n hn=>own n (h6 _ (f6 hn)),fun n hn=>own n (h6 _ (f6 hn))⟩
 rw[List.contains_iff_mem.mpr hm]at h4
 cases h4
theorem H8{scope:Scope}{env:Env}{ρ:aN}{O:List (Option Nat×Addr)}{s:Shared}{ts:List Nat}{M:Model}{A:Around}{E:Value→Shared→Prop}{Q:Env→Shared→Prop}(F:mQ nm sc scope ts)(hs:uO sc env)(hE:aH Z nm env ρ O s.heap)(hI:aZ Z s)
  (hfc:∀ n,(n,NameKind.free)∈scope.names→∃ c,env.cells.lookup n=some c)
  (hQ:∀(cenv:Env)s',uO scope { cenv with scope:=relabel scope env }→pE scope { cenv with scope:=relabel scope env }→aH Z nm { cenv with scope:=relabel scope env } (O1 ts ρ) O s'.heap→aZ Z s' →
   (∀ b o,s.heap.get? b=some o→s'.heap.get? b=some o)→cenv.locals=s.heap.objs.size→(∀ n c,jZ scope n=true→cf { cenv with scope:=relabel scope env } n→cenv.cells.lookup n=some c→s.heap.objs.size≤c)→Q cenv s') :
  wpAny M A (newFunctionEnv scope env.globals (c4 env scope.names []) [] env.qual none .none (some env)) Q E s:=by
 have hfk:∀ n,scope.names.lookup n=some .free→cf env n:=fun n hn=>hs.2.1 n (F.free n hn)
 simp only[newFunctionEnv,Option.isSome_some,if_true]
 refine wpAny_bind (wpAny_alloc ?_)
 refine wpAny_bind (wpAny_layCells _ (fun name kind cells=>by cases kind <;> rfl) _ _ _ _ ?_)
 refine wpAny_bind (m:=forIn [] _ _) ?_
 rw[List.forIn_nil]
 refine wpAny_pure (wpAny_pure ?_)
 have hsz:(s.heap.push { cls:=.type "dict",data:=.dict #[] }).objs.size=s.heap.objs.size+1:=Heap.size_push ..
 have hkeep:∀ b o,s.heap.get? b=some o→(pushCells (s.heap.push { cls:=.type "dict",data:=.dict #[] }) scope.names).get? b=some o:=fun b o e=>pushCells_keeps scope.names _ _ _ (Heap.get?_push_of_some _ e)
 have OK:=cellsFrom_ok scope.names (s.heap.push { cls:=.type "dict",data:=.dict #[] }) (s.heap.objs.size+1) [] ⟨nofun,List.Pairwise.nil⟩ (Nat.le_of_eq hsz.symm)
 rw[hsz]at OK
 show Q { scope:=scope,locals:=s.heap.objs.size,globals:=env.globals,cells:=cellsFrom (s.heap.push { cls:=.type "dict",data:=.dict #[] }).objs.size scope.names (c4 env scope.names []),qual:=env.qual,func:=none,code:=env.code,frame:=env.frame,builtins:=env.builtins } { s with heap:=pushCells (s.heap.push { cls:=.type "dict",data:=.dict #[] }) scope.names }
 rw[hsz]
 have hL:=fun n acc=>tJ n scope.names (s.heap.objs.size+1) acc F.nodup
 generalize hcells:cellsFrom (s.heap.objs.size+1) scope.names (c4 env scope.names [])=cells
 generalize hh:pushCells (s.heap.push { cls:=.type "dict",data:=.dict #[] }) scope.names=h₂ at hkeep OK
 have hns:∃ m,h₂.Ns s.heap.objs.size m:=by
  obtain⟨o,es,ep,e,r⟩:=Heap.Ns.new s.heap (.type "dict")
  exact⟨_,o,es,ep,hh▸pushCells_keeps scope.names _ _ _ e,r⟩
 have hcl:∀ n,scope.names.lookup n=some .free→cells.lookup n=env.cells.lookup n:=fun n hn=>hcells▸((hL n _).2 (by rw[hn]; nofun)).trans ((jV scope.names [] F.nodup hfc).1 hn)
 have hcc:∀ n,scope.names.lookup n=some .cell→∃ c,cells.lookup n=some c∧s.heap.objs.size<c∧h₂.IsCell c none∧(n,c)∈cellsFrom (s.heap.objs.size+1) scope.names []:=fun n hn=>by
  obtain⟨e,c,h1,h2⟩:=(hL n (c4 env scope.names [])).1 hn
  have hm:=f6 (e.symm.trans h1)
  exact⟨c,hcells▸h1,h2,(OK.empty n c hm).1,hm⟩
 have hkind:∀ n:Str,Env.kindOf { scope:=relabel scope env,locals:=s.heap.objs.size,globals:=env.globals,cells:=cells,qual:=env.qual,func:=none,code:=env.code,frame:=env.frame,builtins:=env.builtins } n=(scope.names.lookup n).map (rk env n):=fun n=>kW env n scope.names
 have hcf:∀ n:Str,cf { scope:=relabel scope env,locals:=s.heap.objs.size,globals:=env.globals,cells:=cells,qual:=env.qual,func:=none,code:=env.code,frame:=env.frame,builtins:=env.builtins } n→scope.names.lookup n=some .cell∨scope.names.lookup n=some .free:=fun n h=>by
  unfold cf at h
  rw[hkind]at h
  generalize scope.names.lookup n=o at h
  cases o with
  | none=>exact h.elim nofun nofun
  | some k =>
   by_cases hk:k = .free
   ·exact .inr (congrArg some hk)
   ·rwa[Option.map_some,s9 hk]at h
 have hfree:∀ n,scope.names.lookup n=some .free→(scope.names.lookup n).map (rk env n)=some .cell∨(scope.names.lookup n).map (rk env n)=some .free:=fun n hn=>by rw[hn]; exact(EN env n).imp (congrArg some) (congrArg some)
 have ho:∀ n k,k ≠ .free→scope.names.lookup n=some k→(scope.names.lookup n).map (rk env n)=some k:=fun n k hk hn=>by rw[hn,Option.map_some,s9 hk]
 refine hQ _ _ ⟨fun n hn=>(hkind n).trans (ho n _ nofun hn),fun n hn=>by rw[hkind]; exact hn.elim (fun h=>.inl (ho n _ nofun h)) (hfree n),fun n hn=>(hkind n).trans (ho n _ nofun hn)⟩ (fun n hn=>by rw[hkind]; exact(Bool.or_eq_true_iff.mp hn).elim (fun h=>by rw[ho n .local nofun (eq_of_beq h)]; nofun) fun h=>by rw[ho n .cell nofun (eq_of_beq h)]; nofun) ?_ (hI.full (tk:=s.toks) hkeep) hkeep rfl fun n c h h' hc=>?_
 ·exact{
   kind:=F.kind
   glob:=hE.glob
   blt:=hE.blt
   new:=hE.size
   ns:=hns
   live:=fun yb hy=>let⟨o,e,c⟩:=hE.live yb hy; ⟨o,hkeep _ _ e,c⟩
   apart:=fun yb hy=>⟨fun e=>absurd (hE.lt yb hy) (by rw[show yb.2=s.heap.objs.size from e]; exact Nat.lt_irrefl _),fun n c hk hc=>by
    rcases hcf n hk with h | h
    ·obtain⟨c',e,h1,_⟩:=hcc n h
     cases hc.symm.trans e
     exact Nat.ne_of_lt (Nat.lt_trans (hE.lt yb hy) h1)
    ·exact(hE.apart yb hy).2 n c (hfk n h) ((hcl n h).symm.trans hc)⟩
   cells:=fun n hk=>(hcf n hk).elim (fun h=>let⟨c,e,h1,h2,_⟩:=hcc n h; ⟨c,none,e,Nat.le_trans hE.size (Nat.le_of_lt h1),h2⟩) fun h=>let⟨c,v,h5,h6,h7⟩:=hE.cells n (hfk n h); ⟨c,v,(hcl n h).trans h5,h6,h7.keeps hkeep⟩
   inj:=fun n m c hn hm cn cm=>by
    have old:∀ n m,scope.names.lookup n=some .free→scope.names.lookup m=some .cell→cells.lookup n=some c→cells.lookup m=some c→False:=fun n m hn hm cn cm=>by
     obtain⟨c₁,_,e,_,h⟩:=hE.cells n (hfk n hn)
     cases((hcl n hn).symm.trans cn).symm.trans e
     obtain⟨c₂,e,h1,_⟩:=hcc m hm
     cases cm.symm.trans e
     exact Nat.lt_irrefl _ (Nat.lt_trans h.lt h1)
    rcases hcf n hn with h | h
    ·rcases hcf m hm with h' | h'
     ·obtain⟨c₁,e,_,_,g⟩:=hcc n h
      cases cn.symm.trans e
      obtain⟨c₂,e,_,_,g'⟩:=hcc m h'
      cases cm.symm.trans e
      exact name_of_addr OK.apart g g'
     ·exact(old m n h' h cm cn).elim
    ·rcases hcf m hm with h' | h'
     ·exact(old n m h h' cn cm).elim
     ·exact hE.inj n m c (hfk n h) (hfk m h') ((hcl n h).symm.trans cn) ((hcl m h').symm.trans cm)
   vars:=fun y d n h1 h2 h3=>by
    have no:¬(n = ".0" ∨ ∃ x∈ts,nm[x]? = some n):=fun h=>h.elim (fun e=>absurd (List.mem_of_getElem? h2) (e▸F.dot)) fun⟨x,hx,e⟩=>by
     cases iC F.nmnd e h2
     exact absurd hx (n7 h1).1
    have hnx:scope.names.lookup n=some .free:=by
     rcases h3 with h3 | h3
     ·have h3':=(hkind n).symm.trans h3
      refine absurd (F.own n ?_) no
      generalize scope.names.lookup n=o at h3'
      cases o with
      | none=>cases h3'
      | some k =>
       by_cases hk:k = .free
       ·subst hk
        exact(EN env n).elim (fun e=>by rw[Option.map_some,e]at h3'; cases h3') fun e=>by rw[Option.map_some,e]at h3'; cases h3'
       ·rwa[Option.map_some,s9 hk]at h3'
     ·exact(hcf n h3).elim (fun h=>absurd (F.ownC n h) no) id
    obtain⟨v,as,a,r,hd,ho⟩:=hE.vars y d n (n7 h1).2 h2 (.inr (hfk n hnx))
    refine⟨v,as,.inr ⟨by rw[hkind]; exact hfree n hnx,?_⟩,r.map fun b o _ e _=>hkeep b o e,hd,ho⟩
    rcases a with⟨h4,_⟩| ⟨h4,c,h5,h6⟩
    ·exact(hfk n hnx).elim (fun h=>nomatch h4.symm.trans h) fun h=>nomatch h4.symm.trans h
    ·exact⟨c,(hcl n hnx).trans h5,h6.keeps hkeep⟩ }
 ·rcases hcf n h' with g | g
  ·obtain⟨c',e,h1,_⟩:=hcc n g
   cases hc.symm.trans e
   exact Nat.le_of_lt h1
  ·exact(Bool.or_eq_true_iff.mp h).elim (fun h=>nomatch (eq_of_beq h).symm.trans g) fun h=>nomatch (eq_of_beq h).symm.trans g
end
section
variable{Z:aE}{cl:Nat→List PyData→Option PyData}{lvl:Nat}{nm:List Str}{fn:List Str}{sc:Scope}
structure xK(Z:aE)(cl:Nat→List PyData→Option PyData)(lvl:Nat)(nm:List Str)(sc scope:Scope)(elt target iter:Expr)(ifs:List Expr)(gens:List Comprehension)(pos:Pos)(pe:PE)(t:Tg)(i:PI)(c:PO)(g:PG):Prop where
 F:mQ nm sc scope (bT t++uL g)
 own:∀ x∈bT t++uL g,∀ n,nm[x]? = some n→jZ scope n=true
 hset:gW iter=false
 hi:SJ Z cl lvl nm sc iter i
 ht:GM target
 G:J6 Z cl lvl nm scope elt (⟨target,iter,ifs,0⟩::gens) pos pe 0 t c g target iter ifs
theorem tH{elt target iter:Expr}{ifs:List Expr}{gens:List Comprehension}{scope:Scope}{pos:Pos}{pe:PE}{t:Tg}{i:PI}{c:PO}{g:PG}(C:xK Z cl lvl nm sc scope elt target iter ifs gens pos pe t i c g)
  {A:Around} {env:Env} {ρ:aN} {O:List (Option Nat×Addr)} {s:Shared} {d:PyData} {Q:Value→Shared→Prop} {E:Value→Shared→Prop} {use:Option (Value→Sem Unit)} (X:Cx Z lvl nm sc A env ρ O s) (hd:aD cl (.comp pe t i c g) ρ=some d)
  (gt:∀ acc C s' as,aZ Z s'→Kp Z.n s.heap s'.heap→Rd s'.heap (.ref acc) d (acc::as)→bL d=true→(∀ yb∈O,yb.2∈acc::as→iP yb.1 (lT (.comp pe t i c g)))→s.heap.get? C=none→s.heap.get? acc=none→Z.n≤C→Z.n≤acc→(∃ m,s'.heap.Ns C m) →
   compPost (model Z.prog Z.w) A E use Q (.ref acc) C (.ok .next) s') :
  wpAny (model Z.prog Z.w) A (comprehension (.ListComp elt (⟨target,iter,ifs,0⟩::gens) scope pos) scope env (firstIterPos (⟨target,iter,ifs,0⟩::gens) pos) (newList []) (firstAsync (⟨target,iter,ifs,0⟩::gens)) (firstIter (⟨target,iter,ifs,0⟩::gens) env) use) Q E s :=
 aV hd fun ds hds hd=>aV hd fun new hnew hd=>hY hd fun hsz e=>by
 cases e
 have F:=C.F
 have hE:=X.he
 have hfree:∀ n,(n,NameKind.free)∈scope.names→∃ c,env.cells.lookup n=some c:=fun n hm=>let⟨c,_,h1,_⟩:=hE.cells n (X.hs.2.1 n (F.free n (CB F.nodup hm))); ⟨c,h1⟩
 refine wpAny_comprehension_free rfl (pM C.hset env) (uV hfree) F.kind (fun p hp hl=>CB F.nodup (by rw[← hl]; exact hp)) (C.hi target C.ht X hds fun I fp used St s₁ S=>wpAny_newList (items:=[]) ?_ (by decide))
 generalize hg:s₁.heap.objs.size=acc
 generalize hh:s₁.heap.push { cls:=.type "list",data:=.seq (List.toArray ([]:List Value)) }=h₂
 have hgacc:h₂.get? acc=some { cls:=.type "list",data:=.seq #[] }:=by rw[← hh,← hg]; exact Heap.get?_push_size _ rfl
 have hpk:∀ b o,s₁.heap.get? b=some o→h₂.get? b=some o:=fun b o e=>by rw[← hh]; exact Heap.get?_push_of_some _ e
 have hna:Z.n≤acc:=hg▸(hE.kp S.kp).size
 have hone:s₁.heap.get? acc=none:=get?_ge (Nat.le_of_eq hg)
 have E₁:aH Z nm env ρ (reserves fp O (dX i)) s₁.heap:=hE.reserves S.kp S.fresh fun a ha=>let⟨o,e,c,_⟩:=S.iter.live _ _ (Nat.zero_le _) S.start a ha; ⟨o,e,c⟩
 have E₂:aH Z nm env ρ (reserve acc (reserves fp O (dX i)) []) h₂:=E₁.reserve (Kp.of hpk) hone ⟨_,hgacc,nofun⟩
 have haI:acc∉fp:=fun hm=>by obtain⟨o,e',_⟩:=S.iter.live _ _ (Nat.zero_le _) S.start _ hm; rw[hone]at e'; cases e'
 have usNo:∀ b∈used,∀ o,s₁.heap.get? b=some o→b≠acc:=fun b _ o e e'=>by rw[e',hone]at e; cases e
 have hus:∀ yb∈reserve acc (reserves fp O (dX i)) [],yb.2∉used:=fun yb hy hm=>(kP hy).elim (fun e=>by
  subst e
  obtain⟨o,_,_,e',_⟩:=S.seq _ hm
  exact usNo _ hm _ e' rfl) fun h=>(cT h.1).elim (fun⟨a,ha,e⟩=>S.iter.apart _ hm (e▸ha)) fun h=>h.2 (S.own yb h.1 hm)
 refine H8 F X.hs (s:={ s₁ with heap:=h₂ }) E₂ (S.inv.full (tk:=s₁.toks) hpk) hfree fun cenv s₃ hs₃ hf₃ E₃ I₃ hk₃ hloc hncf=>?_
 have hk₁₃:∀ b o,s₁.heap.get? b=some o→s₃.heap.get? b=some o:=fun b o e=>hk₃ b o (hpk b o e)
 have st₃:St 0 s₃.heap:=S.iter.frame 0 _ _ S.start fun b _ o e=>hk₁₃ b o e
 have sq₃:mN used s₃.heap:=⟨fun a ha=>let⟨o,vs,n,e,r⟩:=S.seq a ha; ⟨o,vs,n,hk₁₃ _ _ e,r⟩⟩
 have ok₃:cX acc [] (reserve acc (reserves fp O (dX i)) []) (lT pe++(dX i++GJ g)) s₃.heap:=⟨⟨#[],0,#[],[],hk₃ _ _ hgacc,.nil,nofun⟩,rfl⟩
 have old:∀ b o,s.heap.get? b=some o→b≠acc∧b∉fp∧¬Wr nm { cenv with scope:=relabel scope env } (bT t++uL g) b:=fun b o e=>by
  have hb:b<acc:=by
   rcases Nat.lt_or_ge b Z.n with h | h
   ·exact Nat.lt_of_lt_of_le h hna
   ·exact hg▸(S.kp.k b o e (.inr h)).lt
  refine⟨Nat.ne_of_lt hb,(fun hm=>by rw[S.fresh b hm]at e; cases e),fun w=>?_⟩
  have ha:acc<h₂.objs.size:=Heap.lt_size hgacc
  rcases w with w | ⟨y,hy,n,hn,hk,hc⟩
  ·rw[show b=cenv.locals from w,hloc]at hb
   exact absurd hb (Nat.not_lt.mpr (Nat.le_of_lt ha))
  ·exact absurd hb (Nat.not_lt.mpr (Nat.le_trans (Nat.le_of_lt ha) (hncf n b (C.own y hy n hn) hk hc)))
 have fin:∀ s',aZ Z s'→aK Z nm { cenv with scope:=relabel scope env } (bT t++uL g) (fun b=>b=acc∨b∈fp) s₃.heap s'.heap→cX acc new (reserve acc (reserves fp O (dX i)) []) (lT pe++(dX i++GJ g)) s'.heap →
   compPost (model Z.prog Z.w) A E use Q (.ref acc) cenv.locals (.ok .next) s':=fun s' I' T ok'=>by
  obtain⟨⟨vs,n,sl,as,e,r,ho⟩,okd⟩:=ok'
  refine gt acc cenv.locals s' as I' ⟨fun b o e c=>?_⟩ (.list e ⟨rfl,rfl⟩ rfl r) (zE hsz okd) (fun yb hy hm=>?_) ?_ ?_ ?_ hna (T.ns E₃.ns)
  ·obtain⟨g1,g2,g3⟩:=old b o e
   exact(S.kp.k b o e c).next fun o' e' hcc=>T.keep b o' (hk₁₃ b o' e') (by rw[hcc]; exact c) g3 fun h=>h.elim g1 g2
  ·rcases List.mem_cons.mp hm with h | hm
   ·obtain⟨o,e,c⟩:=hE.live yb hy
    exact absurd h (old _ _ e).1
   ·rcases dJ (fp:=fp) (es:=dX i) hy with h | ⟨y,h1,h2⟩
    ·exact(dJ (fp:=[acc]) (es:=[]) h).elim (fun h=>ho yb h hm) fun⟨_,h1,_⟩=>nomatch h1
    ·exact⟨y,List.mem_append_right _ (List.mem_append_left _ h1),h2⟩
  ·cases e':s.heap.get? cenv.locals with
   | none=>rfl
   | some o=>exact absurd (.inl rfl) (old cenv.locals o e').2.2
  ·exact S.kp.none hna hone
  ·rw[hloc]
   exact Nat.le_trans hna (Nat.le_of_lt (Heap.lt_size hgacc))
 have loop:∀ R:Result→Shared→Prop,(∀ s',compPost (model Z.prog Z.w) A E use Q (.ref acc) cenv.locals (.ok .next) s'→R (.ok .next) s')→codeAny (model Z.prog Z.w) A (.compLoop (.ListComp elt (⟨target,iter,ifs,0⟩::gens) scope pos) 0 (.ref I) (.ref acc) { cenv with scope:=relabel scope env }) R s₃:=fun R hR =>
  tX C.G ⟨X.ha,hs₃,E₃,I₃⟩ hf₃ hna (.head _) (fun a ha=>jG (tR ha)) S.iter st₃ sq₃ hus haI ok₃ S.ok (fun x hx=>OL ρ hx) (fun y hy=>(List.mem_append.mp hy).elim (List.mem_append_left _) fun h=>List.mem_append_right _ (List.mem_append_right _ h)) F.tsnd hnew hsz fun s' I' T ok'=>hR s' (fin s' I' T ok')
 exact mA C.G.hg (loop _ fun _ h=>h) (S.iter.again 0 s₃ _ _ st₃ (loop _ fun _ h=>h))
theorem P4{elt target iter:Expr}{ifs:List Expr}{gens:List Comprehension}{scope:Scope}{pos:Pos}{pe:PE}{t:Tg}{i:PI}{c:PO}{g:PG}(C:xK Z cl lvl nm sc scope elt target iter ifs gens pos pe t i c g) :
  SE Z cl lvl nm sc (.ListComp elt (⟨target,iter,ifs,0⟩::gens) scope pos) (.comp pe t i c g):=fun{A env ρ O s d Q E}X hd gt=>by
 rw[eval_ListComp]
 refine tH C X hd fun acc C s' as I' k r okd ho hC hacc hnC hna⟨m,hm⟩=>⟨m,hm,fun h' hs'=>gt (.ref acc) (acc::as) _ (I'.same hnC hs' (fun h=>absurd h (X.hi.notFr hC)) s'.toks) ⟨fun b o e c=>(k.k b o e c).then fun o' e'=>(hs'.2 b fun e''=>by rw[e'',hC]at e; cases e).trans e'⟩ (r.map fun a o ha e _=>?_) okd ho⟩
 obtain⟨o',xs,n',e',hd',_⟩:=r.objs a ha
 cases e.symm.trans e'
 exact(hs'.2 a fun e''=>eW hm (e''▸e) hd').trans e
end
section
variable{Z:aE}{cl:Nat→List PyData→Option PyData}{lvl:Nat}{nm:List Str}{fn:List Str}
def SB(Z:aE)(cl:Nat→List PyData→Option PyData)(lvl:Nat)(nm:List Str)(sc:Scope)(p:PE)(e:Expr):Prop:=SE Z cl lvl nm sc e p∧ST Z cl lvl nm sc e p
theorem SB.of{e:Expr}{p:PE}{sc:Scope}(h:SE Z cl lvl nm sc e p)(hw:∀ env,isTrue e env (eval e env)=(do let v ← eval e env; standAt e.pos; holding [v] (truthy v))):SB Z cl lvl nm sc p e:=⟨h,MD h hw⟩
theorem PX{q:Bool}{b:PE}{y:Expr}{sc:Scope}(h:ST Z cl lvl nm sc y b){A:Around}{env:Env}{ρ:aN}{O:List (Option Nat×Addr)}{s:Shared}{d:PyData}{t:Bool}{Q:Bool→Shared→Prop}{E:Value→Shared→Prop}
  (X:Cx Z lvl nm sc A env ρ O s) (hd:aD cl b ρ=some d) (ht:bV d=some t) (hQ:∀ s',aZ Z s'→Kp Z.n s.heap s'.heap→Q t s'):wpAny (model Z.prog Z.w) A (allTrue (jX q) [y] env) Q E s:=by
 rw[arm_allTrue_cons]
 refine wpAny_bind (h X hd ht fun s₁ I₁ k₁=>?_)
 have:=hQ s₁ I₁ k₁
 cases q <;> cases t <;> exact wpAny_pure this
theorem MK{q:Bool}{a b:PE}{x y:Expr}{pos:Pos}{sc:Scope}(i1:SB Z cl lvl nm sc a x)(i2:SB Z cl lvl nm sc b y):SB Z cl lvl nm sc (.bool q a b) (.BoolOp (jX q) [x,y] pos) :=
 ⟨EI (rest:=[y]) (pos:=pos) (fun _=>⟨_,_,rfl⟩) i1.1 fun{A env ρ O s d Q E}X hd g=>i2.1 (A:=A) (env:=env) (Q:=Q) (E:=E) X hd g,EE i1.2 (PX i2.2)⟩
theorem MJ{q:Bool}{a b:PE}{x y z:Expr}{r:List Expr}{pos:Pos}{sc:Scope}(i1:SB Z cl lvl nm sc a x)(i2:SB Z cl lvl nm sc b (.BoolOp (jX q) (y::z::r) pos)):SB Z cl lvl nm sc (.bool q a b) (.BoolOp (jX q) (x::y::z::r) pos) :=
 ⟨EI (rest:=y::z::r) (pos:=pos) (fun _=>⟨_,_,rfl⟩) i1.1 fun{A env ρ O s d Q E}X hd g=>i2.1 (A:=A) (env:=env) (Q:=Q) (E:=E) X hd g,EE i1.2 fun{A env ρ O s d t Q E}X hd ht hQ=>i2.2 (A:=A) (env:=env) (Q:=Q) (E:=E) X hd ht hQ⟩
theorem R6{q:Bool}{a b:PE}{sc:Scope}{e:Expr}(ha:∀ e,cO fn nm sc a e=true→SB Z cl lvl nm sc a e)(hb:∀ e,cO fn nm sc b e=true→SB Z cl lvl nm sc b e)(h:cO fn nm sc (.bool q a b) e=true):SB Z cl lvl nm sc (.bool q a b) e:=by
 apply vR h; intro op xs pos h
 refine aB h fun hz h=>?_; have hz:=eq_of_beq hz; subst hz
 apply cW h; intro x r h
 refine aB h fun h1 h=>?_
 apply cW h; intro y r' h
 cases r' with
 | nil=>exact MK (ha _ h1) (hb _ h)
 | cons z r=>exact MJ (ha _ h1) (hb _ h)
theorem T2{t:Tg}{sc:Scope}{e:Expr}(h:vA nm sc t e=true):GM e:=by
 cases t with
 | one x =>
  apply aO h; intro n p _
  exact⟨n,p,rfl⟩
theorem BY{t:Tg}{sc:Scope}{e:Expr}(h:vA nm sc t e=true):∀ x∈bT t,∀ n,nm[x]? = some n→jZ sc n=true:=by
 have one:∀{x:Nat}{m:Str},(nm[x]? == some m&&jZ sc m)=true→∀ n,nm[x]? = some n→jZ sc n=true:=fun h n e=>by
  obtain⟨h1,h2⟩:=aA h
  cases(eq_of_beq h1).symm.trans e
  exact h2
 cases t with
 | one x =>
  apply aO (m:=fun _=>_) h; intro n p h y hy
  exact List.mem_singleton.mp hy▸one h
theorem JI{sc:Scope}:∀{g:PG}{gs:List Comprehension},I9 fn nm sc g gs=true→∀ x∈uL g,∀ n,nm[x]? = some n→jZ sc n=true
 | .nil,_,_=>nofun
 | .cons t i c g,gs,h=>by
  apply cW (m:=fun _=>_) h; intro cp r h
  apply nG (m:=fun _=>_) h; intro target iter ifs az h x hx
  have h2:=aA (aA (aA (aA (aA h).2).2).2).2
  exact(List.mem_append.mp hx).elim (BY h2.1 x) (JI h2.2 x)
theorem yO{sc:Scope}{g:PG}{gs:List Comprehension}(h:I9 fn nm sc g gs=true)(c:Comprehension)(e:gs[0]? = some c):c.is_async=0:=by
 cases g with
 | nil=>exact dE (m:=fun gs=>gs[0]? = some c→c.is_async=0) h nofun e
 | cons t i b g =>
  revert e
  apply cW h; intro cp r h e
  cases e
  apply nG h; intro target iter ifs az h
  exact eq_of_beq (aA h).1
theorem F4{es:qV}{as:List Expr}{sc:Scope}(h:(decide (mC es≠0)&&m7 fn nm sc es as)=true):as≠[]∧aX as∧m7 fn nm sc es as=true:=by
 obtain⟨h1,h2⟩:=aA h
 obtain⟨h3,h4⟩:=kU h2
 exact⟨fun e=>of_decide_eq_true h1 (by rw[← h4,e]; rfl),h3,h2⟩
mutual
theorem bB(hB:fC Z)(hC:eC Z lvl fn cl):∀(p:PE)(sc:Scope)(e:Expr),cO fn nm sc p e=true→SB Z cl lvl nm sc p e
 | .lit d,sc,e,h=>by
  apply bX h; intro c k p h
  exact .of (KF (eq_of_beq h)) fun _=>rfl
 | .var x,sc,e,h=>by
  apply aO h; intro n p h
  exact .of (VD (eq_of_beq (aA (aA (aA h).1).1).1) (aA (aA (aA h).1).1).2 (bne_iff_ne.mp (aA (aA h).1).2) (bne_iff_ne.mp (aA h).2)) fun _=>rfl
 | .neg a,sc,e,h=>by
  apply jC h; intro o x p h
  refine aB h fun z h=>?_; apply bZ z
  exact .of (VG (bB hB hC a sc _ h).1) fun _=>rfl
 | .nt a,sc,e,h=>by
  apply jC h; intro o x p h
  refine aB h fun z h=>?_; apply bZ z
  have i:=bB hB hC a sc _ h
  exact⟨Y0 i.1,YW i.2⟩
 | .bool q a b,sc,e,h=>R6 (fun e h=>bB hB hC a sc e h) (fun e h=>bB hB hC b sc e h) h
 | .bin op a b,sc,e,h=>by
  apply AF h; intro l o r p h
  refine aB h fun z h=>?_; apply bZ z
  exact .of (VL (bB hB hC a sc _ (aA h).1).1 (bB hB hC b sc _ (aA h).2).1) fun _=>rfl
 | .cmp op a b,sc,e,h=>by
  apply mP h; intro l os rs p h
  apply cB h; intro o h
  refine aB h fun z h=>?_; apply bZ z
  apply cB h; intro r h
  refine aB h fun z h=>?_
  have i1:=bB hB hC a sc _ (aA h).1
  have i2:=bB hB hC b sc _ (aA h).2
  exact⟨VK (bH z) i1.1 i2.1,U7 (bH z) i1.1 i2.1⟩
 | .ite c a b,sc,e,h=>by
  apply NH h; intro t x y p h
  refine aB h fun h1 h=>?_
  have i1:=bB hB hC c sc _ h1
  have i2:=bB hB hC a sc _ (aA h).1
  have i3:=bB hB hC b sc _ (aA h).2
  exact⟨VI i1.2 i2.1 i3.1,U6 i1.2 i2.2 i3.2⟩
 | .list es,sc,e,h=>by
  apply q7 h; intro xs p h
  exact .of (P3 (of_decide_eq_true (aA h).1) (k9 hB hC es sc _ (aA h).2)) fun _=>rfl
 | .comp elt t i c g,sc,e,h=>by
  apply qA h; intro el gens scope pos h
  apply cW h; intro cp r h
  apply nG h; intro target iter ifs az h
  refine aB h fun z h=>?_; apply bZ z
  refine aB h fun h1 h=>aB h fun h2 h=>aB h fun h3 h=>aB h fun h4 h=>aB h fun h5 h=>?_
  have F:=tQ h3
  exact .of (P4 ⟨F,fun x hx=>(List.mem_append.mp hx).elim (BY h5 x) (JI (aA h).1 x),bH h2,(SI.sj (w6 hB hC i sc _ h4)),T2 h5,⟨rfl,yO (aA h).1,F.nmnd,h5,BO hB hC c scope _ h1,BN hB hC g scope el (⟨target,iter,ifs,0⟩::r) pos elt 0 F.nmnd (bB hB hC elt scope _ (aA h).2).1 (aA h).1⟩⟩) fun _=>rfl
 | .call f es,sc,e,h=>by
  apply cS h; intro fe as ks p h
  refine aB h fun z h=>?_; apply dE z
  apply aO h; intro n q h
  refine aB h fun h1 h=>aB h fun h2 h=>?_
  obtain⟨g1,g2,g3⟩:=F4 h
  exact .of (P5 hC (eq_of_beq h1) h2 g1 g2 (k9 hB hC es sc _ g3)) fun _=>rfl
 | .bi b es,sc,e,h=>by
  apply cS h; intro fe as ks p h
  refine aB h fun z h=>?_; apply dE z
  apply aO h; intro n q h
  refine aB h fun z h=>?_; apply bZ z
  refine aB h fun h2 h=>?_
  obtain⟨g1,g2,g3⟩:=F4 h
  exact .of (Y2 hB h2 g1 g2 (k9 hB hC es sc _ g3)) fun _=>rfl
 | .me m o es,sc,e,h=>by
  apply cS h; intro fe as ks pos h
  refine aB h fun z h=>?_; apply dE z
  apply bW h; intro x name apos h
  refine aB h fun z h=>?_; apply bZ z
  refine aB h fun h1 h=>aB h fun h2 h=>aB h fun h3 h=>aB h fun h4 h=>?_
  exact .of (Y1 (H4 h1) h2 (of_decide_eq_true h3) (of_decide_eq_true h4) (bB hB hC o sc _ (aA h).1).1 (kU (aA h).2) (k9 hB hC es sc _ (aA h).2)) fun _=>rfl
 | .lrg a,sc,e,h=>by
  apply cS h; intro fe as ks p h
  refine aB h fun z h=>?_; apply dE z
  apply aO h; intro n q h
  refine aB h fun z h=>?_; apply bZ z
  apply cB h; intro y h
  apply cS h; intro ge bs ls p2 h
  refine aB h fun z h=>?_; apply dE z
  apply aO h; intro m q2 h
  refine aB h fun z h=>?_; apply bZ z
  apply cB h; intro x h
  refine aB h fun hl h=>aB h fun z h=>?_
  exact .of (VH hB hl (aA h).1 (bH z) (bB hB hC a sc _ (aA h).2).1) fun _=>rfl
 | .idx a i,sc,e,h=>by
  apply fR h; intro v s p h
  refine aB h fun z h=>?_
  exact .of (VJ (bH z) (bB hB hC a sc _ (aA h).1).1 (bB hB hC i sc _ (aA h).2).1) fun _=>rfl
 | .slc a lo hi,sc,e,h=>by
  apply fR h; intro v s p h
  apply AD h; intro l u st q h
  refine aB h fun z h=>?_; apply rU z
  refine aB h fun h1 h=>?_
  exact .of (VF (bB hB hC a sc _ h1).1 (KD hB hC lo sc _ (aA h).1) (KD hB hC hi sc _ (aA h).2)) fun _=>rfl
theorem k9(hB:fC Z)(hC:eC Z lvl fn cl):∀(ps:qV)(sc:Scope)(es:List Expr),m7 fn nm sc ps es=true→IL Z cl lvl nm sc es ps
 | .nil,sc,es,h=>by apply dE h; exact xQ
 | .cons p ps,sc,es,h=>by
  apply cW h; intro e r h
  refine aB h fun z h=>?_
  exact nN (bC (bH z) r) (bB hB hC p sc e (aA h).1).1 (k9 hB hC ps sc r (aA h).2)
theorem KD(hB:fC Z)(hC:eC Z lvl fn cl):∀(p:PO)(sc:Scope)(o:Option Expr),UI fn nm sc p o=true→SO Z cl lvl nm sc o p
 | .no,sc,o,h=>by apply rU h; exact YY
 | .yes p,sc,o,h=>by
  apply rJ h; intro e h
  exact U9 (bB hB hC p sc e h).1
theorem BO(hB:fC Z)(hC:eC Z lvl fn cl):∀(p:PO)(sc:Scope)(es:List Expr),CQ fn nm sc p es=true→SC Z cl lvl nm sc es p
 | .no,sc,es,h=>by apply dE h; exact Y3
 | .yes p,sc,es,h=>by
  apply cB h; intro e h
  exact VM (bB hB hC p sc e h).2
theorem BN(hB:fC Z)(hC:eC Z lvl fn cl):∀(g:PG)(sc:Scope)(el:Expr)(gens:List Comprehension)(pos:Pos)(pe:PE)(depth:Nat),nm.Nodup→SE Z cl lvl nm sc el pe→I9 fn nm sc g (gens.drop (depth+1))=true→SG Z cl lvl nm sc el gens pos pe depth g
 | .nil,sc,el,gens,pos,pe,depth,hnd,he,h=>VB (List.getElem?_eq_none (List.drop_eq_nil_iff.mp (List.isEmpty_iff.mp h))) he
 | .cons t i c g,sc,el,gens,pos,pe,depth,hnd,he,h=>by
  generalize hl:gens.drop (depth+1)=l at h
  revert hl
  apply cW h; intro cp r h
  apply nG h; intro target iter ifs az h
  refine aB h fun z h=>?_; apply bZ z
  intro hl
  have e1:gens[depth+1]? = some ⟨target,iter,ifs,0⟩:=by rw[← Nat.add_zero (depth+1),← List.getElem?_drop,hl]; rfl
  have e2:gens.drop (depth+1+1)=r:=by rw[← List.drop_drop,hl]; rfl
  refine aB h fun h1 h=>aB h fun h2 h=>aB h fun h4 h=>aB h fun h5 h=>?_
  exact PZ ⟨e1,fun c e=>yO h c (by rw[← e2,List.getElem?_drop]; exact e),hnd,h5,BO hB hC c sc _ h1,BN hB hC g sc el gens pos pe (depth+1) hnd he (by rw[e2]; exact h)⟩ (T2 h5) (bH h2) (SI.sj (w6 hB hC i sc _ h4))
theorem w6(hB:fC Z)(hC:eC Z lvl fn cl):∀(p:PI)(sc:Scope)(e:Expr),PD fn nm sc p e=true→SI Z cl lvl nm sc e p
 | .of p,sc,e,h=>(SU (bB hB hC p sc e h).1)
 | .range1 a,sc,e,h=>by
  apply cS h; intro fe as ks p h
  refine aB h fun z h=>?_; apply dE z
  apply aO h; intro n q h
  refine aB h fun z h=>?_; apply bZ z
  apply cB h; intro x h
  refine aB h fun z h=>?_
  exact(G3 hB (aA h).1 (bH z) (bB hB hC a sc _ (aA h).2).1)
 | .range3 a b c,sc,e,h=>by
  apply cS h; intro fe as ks p h
  refine aB h fun z h=>?_; apply dE z
  apply aO h; intro n q h
  refine aB h fun z h=>?_; apply bZ z
  apply cW h; intro x r h
  apply cW h; intro y r h
  apply cB h; intro u h
  refine aB h fun z h=>?_; apply JT z; intro k1 p1
  refine aB h fun z h=>?_; apply JT z; intro k2 p2
  refine aB h fun z h=>?_; apply JT z; intro k3 p3
  exact(G1 hB h)
 | .range2 a b,sc,e,h=>by
  apply cS h; intro fe as ks p h
  refine aB h fun z h=>?_; apply dE z
  apply aO h; intro n q h
  refine aB h fun z h=>?_; apply bZ z
  apply cW h; intro x r h
  apply cB h; intro y h
  refine aB h fun z h=>aB h fun z' h=>aB h fun g h=>?_
  exact(G2 hB g (bH z) (bH z') (bB hB hC a sc _ (aA h).1).1 (bB hB hC b sc _ (aA h).2).1)
end
theorem R2(hB:fC Z)(hC:eC Z lvl fn cl){elt:PE}{t:Tg}{i:PI}{c:PO}{g:PG}{sc:Scope}{e:Expr}{m:Expr→Prop}(h:cO fn nm sc (.comp elt t i c g) e=true)
  (k:∀{scope el target iter ifs r pos},xK Z cl lvl nm sc scope el target iter ifs r pos elt t i c g→m (.ListComp el (⟨target,iter,ifs,0⟩::r) scope pos)):m e:=by
 apply qA h; intro el gens scope pos h
 apply cW h; intro cp r h
 apply nG h; intro target iter ifs az h
 refine aB h fun z h=>?_; apply bZ z
 refine aB h fun h1 h=>aB h fun h2 h=>aB h fun h3 h=>aB h fun h4 h=>aB h fun h5 h=>?_
 have F:=tQ h3
 exact k ⟨F,fun x hx=>(List.mem_append.mp hx).elim (BY h5 x) (JI (aA h).1 x),bH h2,(SI.sj (w6 hB hC i sc _ h4)),T2 h5,⟨rfl,yO (aA h).1,F.nmnd,h5,BO hB hC c scope _ h1,BN hB hC g scope el (⟨target,iter,ifs,0⟩::r) pos elt 0 F.nmnd (bB hB hC elt scope _ (aA h).2).1 (aA h).1⟩⟩
end
def O3(env:Env)(b:Addr):Prop:=b=env.locals∨∃ n,cf env n∧env.cells.lookup n=some b
theorem Wr.all{nm:List Str}{env:Env}{xs:List Nat}{b:Addr}(w:Wr nm env xs b):O3 env b:=w.imp id fun⟨_,_,n,_,hk,hc⟩=>⟨n,hk,hc⟩
structure g9(Z:aE)(nm:List Str)(env:Env)(σ:eH)(O:List (Option Nat×Addr))(s:Shared):Prop where
 inv:aZ Z s
 eok:aH Z nm env σ.env O s.heap
 own:∀ y∈σ.own,∃ n b,nm[y]? = some n∧uK env s.heap n (.ref b)∧(some y,b)∈O
 high:∀ y b,(some y,b)∈O→Z.n≤b
structure bE(Z:aE)(env:Env)(O O':List (Option Nat×Addr))(h h':Heap):Prop where
 keep:∀ b o,h.get? b=some o→(o.cls ≠ .none∨Z.n≤b)→¬O3 env b→(∀ y,(some y,b)∉O)→Sl h' b o
 live:∀ b o,h.get? b=some o→Z.n≤b→∃ o',h'.get? b=some o'
 newO:∀ y b,(some y,b)∈O'→(some y,b)∈O∨(Z.n≤b∧h.get? b=none)
 resv:∀ a,(none,a)∈O'↔(none,a)∈O
section
variable{Z:aE}{nm:List Str}{env:Env}{O O' O'':List (Option Nat×Addr)}{h h' h'':Heap}{ρ:aN}{σ:eH}{s:Shared}
theorem nT{h:Heap}{b:Addr}(k:∀ o,h.get? b=some o→False):h.get? b=none:=by
 cases e:h.get? b with
 | none=>rfl
 | some o=>exact(k o e).elim
theorem bE.refl:bE Z env O O h h:=⟨fun _ _ e _ _ _=>.inl e,fun b o e _=>⟨o,e⟩,fun _ _ h=>.inl h,fun _=>Iff.rfl⟩
theorem bE.trans(a:bE Z env O O' h h')(b:bE Z env O' O'' h' h''):bE Z env O O'' h h'' where
 keep:=fun x o e c hw ho=>(a.keep x o e c hw ho).next fun o' e' hcc=>b.keep x o' e' (by rw[hcc]; exact c) hw fun y hy=>(a.newO y x hy).elim (ho y) fun h=>nomatch h.2.symm.trans e
 live:=fun x o e hn=>let⟨o',e'⟩:=a.live x o e hn; b.live x o' e' hn
 newO:=fun y x hy=>(b.newO y x hy).elim (a.newO y x) fun⟨hn,h1⟩=>.inr ⟨hn,nT fun o e=>let⟨_,e'⟩:=a.live x o e hn; nomatch h1.symm.trans e'⟩
 resv:=fun x=>(b.resv x).trans (a.resv x)
theorem bE.kp(k:Kp Z.n h h'):bE Z env O O h h':=⟨fun b o e c _ _=>k.k b o e c,fun b o e hn=>let⟨o',e',_⟩:=(k.k b o e (.inr hn)).ex; ⟨o',e'⟩,fun _ _ h=>.inl h,fun _=>Iff.rfl⟩
theorem bE.less(hs:∀ y b,(some y,b)∈O'→(some y,b)∈O)(hr:∀ a,(none,a)∈O'↔(none,a)∈O):bE Z env O O' h h:=⟨fun _ _ e _ _ _=>.inl e,fun b o e _=>⟨o,e⟩,fun y b h=>.inl (hs y b h),hr⟩
theorem bE.turned{xs:List Nat}(hE:aH Z nm env ρ O h)(T:aK Z nm env xs (fun _=>False) h h'):bE Z env O O h h' where
 keep:=fun b o e c hw _=>T.keep b o e c (fun w=>hw w.all) id
 live:=fun b o e hn=>by
  by_cases hw:Wr nm env xs b
  ·rcases hw with rfl | ⟨x,hx,n,_,hk,hc⟩
   ·obtain⟨m,o',_,_,e',_⟩:=T.ns hE.ns
    exact⟨o',e'⟩
   ·obtain⟨_,v,h3⟩:=hE.cellAt hk hc
    obtain⟨v',o',e',_⟩:=T.cells n b v hk hc h3
    exact⟨o',e'⟩
  ·obtain⟨o',e',_⟩:=(T.keep b o e (.inr hn) hw id).ex
   exact⟨o',e'⟩
 newO:=fun _ _ h=>.inl h
 resv:=fun _=>Iff.rfl
noncomputable def cC(O:List (Option Nat×Addr))(es:List Nat):List (Option Nat×Addr):=O.filter fun yb=>!hit es yb.1
theorem bS{es:List Nat}{yb:Option Nat×Addr}:yb∈cC O es↔yb∈O∧¬iP yb.1 es:=by
 unfold cC
 rw[List.mem_filter,← yA,Bool.not_eq_true',Bool.not_eq_true]
theorem yS{es:List Nat}:¬iP none es:=fun⟨_,_,h⟩=>nomatch h
theorem bE.drop(es:List Nat):bE Z env O (cC O es) h h:=bE.less (fun _ _ h=>(bS.mp h).1) fun a=>⟨fun h=>(bS.mp h).1,fun h=>bS.mpr ⟨h,yS⟩⟩
theorem kK{own xs:List Nat}{y:Nat}:y∈lose own xs↔y∈own∧y∉xs:=by
 unfold lose
 rw[List.mem_filter,Bool.not_eq_true',← Bool.not_eq_true,List.contains_iff_mem]
theorem g9.kp(S:g9 Z nm env σ O s){s':Shared}(I:aZ Z s')(k:Kp Z.n s.heap s'.heap):g9 Z nm env σ O s' where
 inv:=I
 eok:=S.eok.kp k
 own:=fun y hy=>let⟨n,b,h1,h2,h3⟩:=S.own y hy; ⟨n,b,h1,h2.kp k S.eok.new (fun c hc hk=>(S.eok.cellAt hk hc).1),h3⟩
 high:=S.high
theorem g9.lose(S:g9 Z nm env σ O s){es:List Nat}{own:List Nat}(ho:∀ y∈own,y∈σ.own∧y∉es):g9 Z nm env ⟨σ.env,own⟩ (cC O es) s where
 inv:=S.inv
 eok:=S.eok.lessO fun yb hy=>(bS.mp hy).1
 own:=fun y hy=>let⟨h0,h1⟩:=ho y hy; let⟨n,b,h2,h3,h4⟩:=S.own y h0; ⟨n,b,h2,h3,bS.mpr ⟨h4,fun⟨z,hz,e⟩=>h1 (by cases e; exact hz)⟩⟩
 high:=fun y b h=>S.high y b (bS.mp h).1
theorem g9.turn{ρ':aN}{xs:List Nat}{X:Addr→Prop}{own:List Nat}{s':Shared}(S:g9 Z nm env σ O s)(hnd:nm.Nodup)(I:aZ Z s')(E:aH Z nm env ρ' O s'.heap)(T:aK Z nm env xs X s.heap s'.heap)(ho:∀ y∈own,y∈σ.own∧y∉xs):g9 Z nm env ⟨ρ',own⟩ O s' :=
 ⟨I,E,fun y hy=>let⟨h0,h1⟩:=ho y hy; let⟨n,b,g1,g2,g3⟩:=S.own y h0; ⟨n,b,g1,T.acc n _ (fun x hx hxn=>h1 (iC hnd hxn g1▸hx)) g2,g3⟩,S.high⟩
def BJ(Z:aE)(nm:List Str)(env:Env)(O:List (Option Nat×Addr))(s:Shared)(fl:Fl)(R:Flow→Shared→Prop):Prop :=
 match fl with
 | .next σ'=>∀ s' O',g9 Z nm env σ' O' s'→bE Z env O O' s.heap s'.heap→R .next s'
 | .ret d=>∀ v as s' O',aZ Z s'→Rd s'.heap v d as→bL d=true→(∀ a,(none,a)∈O→a∉as)→bE Z env O O' s.heap s'.heap→R (.ret v) s'
theorem BJ.from_{s₁:Shared}{fl:Fl}{R:Flow→Shared→Prop}(p:BJ Z nm env O s fl R)(st:bE Z env O O' s.heap s₁.heap):BJ Z nm env O' s₁ fl R:=by
 cases fl with
 | next σ'=>exact fun s' O'' S st'=>p s' O'' S (st.trans st')
 | ret d=>exact fun v as s' O'' I r hd hr st'=>p v as s' O'' I r hd (fun a ha=>hr a ((st.resv a).mpr ha)) (st.trans st')
theorem XI{M:Model}{A:Around}{E:Value→Shared→Prop}{Q:Unit→Shared→Prop}{x:Nat}{n:Str}{v:Value}{d:PyData}{as:List Addr}{own':List Nat}(S:g9 Z nm env σ O s)(hnd:nm.Nodup)(hx:nm[x]? = some n)(hk:env.kindOf n=some .local∨env.kindOf n=some .cell)
  (r:Rd s.heap v d as) (hd:bL d=true) (ho:∀ yb∈O,yb.2∈as→yb.1=some x∧as.head? = some yb.2) (hown:∀ y∈own',(y≠x∧y∈σ.own)∨(y=x∧∃ b,v = .ref b∧(some x,b)∈O))
  (hQ:∀ s',g9 Z nm env ⟨σ.env.set x (some d),own'⟩ O s'→bE Z env O O s.heap s'.heap→aK Z nm env [x] (fun _=>False) s.heap s'.heap→Q () s'):wpAny M A (storeName env n v) Q E s :=
 vG S.eok S.inv hx hk fun h' tk I' a T=>hQ _ ⟨I',S.eok.stored hnd hx T a r hd ho,fun y hy=>by
  rcases hown y hy with⟨hne,hy⟩| ⟨rfl,b,rfl,hb⟩
  ·obtain⟨m,b,h1,h2,h3⟩:=S.own y hy
   exact⟨m,b,h1,T.acc m _ (fun z hz hzm=>hne ((iC hnd hzm h1).symm.trans (List.mem_singleton.mp hz))) h2,h3⟩
  ·exact⟨n,b,hx,a,hb⟩,S.high⟩ (bE.turned S.eok T) T
theorem aK.other{x:Nat}{n m:Str}{u:Value}(hx:nm[x]? = some n)(T:aK Z nm env [x] (fun _=>False) h h')(hm:m≠n)(a:uK env h m u):uK env h' m u:=T.acc m u (fun z hz hzm=>hm (Option.some.inj (hzm.symm.trans (by rw[List.mem_singleton.mp hz]; exact hx)))) a
noncomputable def oP(d:PyData)(e:PE):List Nat:=if flat d then []else lT e
theorem lS(own:List Nat)(d:PyData)(e:PE):iY own d e=lose own (oP d e):=by
 unfold iY oP
 cases flat d
 ·rfl
 ·exact(List.filter_eq_self.mpr fun _ _=>rfl).symm
theorem xR{h:Heap}{v:Value}{d:PyData}{as:List Addr}(r:Rd h v d as)(hf:flat d=true):as=[]:=by
 cases r with
 | list=>cases hf
 | _=>rfl
theorem rH{h:Heap}{v:Value}{d:PyData}{as:List Addr}{e:PE}(r:Rd h v d as)(ho:∀ yb∈O,yb.2∈as→iP yb.1 (lT e)):∀ yb∈O,yb.2∈as→iP yb.1 (oP d e):=fun yb hy hm=>by
 unfold oP
 cases hf:flat d
 ·exact ho yb hy hm
 ·rw[xR r hf]at hm; cases hm
theorem aH.add{x:Nat}{b:Addr}(hE:aH Z nm env ρ O h)(k:Kp Z.n h h')(hfresh:h.get? b=none)(hlive:∃ o,h'.get? b=some o∧o.cls ≠ .none):aH Z nm env ρ ((some x,b)::O) h' :=
 have hr:=hE.reserve (es:=[]) k hfresh hlive
 have old:∀{yb},yb∈O→yb∈Kt.Internal.reserve b O []:=fun hy=>(dJ hy).resolve_right fun⟨_,h,_⟩=>nomatch h
 { hr with
  live:=fun yb hy=>(List.mem_cons.mp hy).elim (fun e=>e▸hlive) fun hy=>hr.live yb (old hy)
  apart:=fun yb hy=>(List.mem_cons.mp hy).elim (fun e=>e▸hr.apart (none,b) List.mem_cons_self) fun hy=>hr.apart yb (old hy)
  vars:=fun y d n h1 h2 h3=>let⟨v,as,a,r,hd,ho⟩:=hr.vars y d n h1 h2 h3; ⟨v,as,a,r,hd,fun yb hy hm=>(List.mem_cons.mp hy).elim (fun e=>nomatch (ho (none,b) List.mem_cons_self (by rw[e]at hm; exact hm)).1) fun hy=>ho yb (old hy) hm⟩ }
theorem FC{x:Nat}{es:List Nat}(S:g9 Z nm env σ O s):g9 Z nm env ⟨σ.env,(lose σ.own es).filter (· != x)⟩ (cC O (x::es)) s:=S.lose fun y hy=>by
 obtain⟨h1,h2⟩:=List.mem_filter.mp hy
 obtain⟨h3,h4⟩:=kK.mp h1
 exact⟨h3,fun h=>(List.mem_cons.mp h).elim (bne_iff_ne.mp h2) h4⟩
theorem ER{A:Around}{E:Value→Shared→Prop}{R:Unit→Shared→Prop}{x:Nat}{n:Str}{v:Value}{d:PyData}{as:List Addr}{es:List Nat}(S:g9 Z nm env σ O s)(hnd:nm.Nodup)(hx:nm[x]? = some n)
  (hk:env.kindOf n=some .local∨env.kindOf n=some .cell) (r:Rd s.heap v d as) (hd:bL d=true) (ho:∀ yb∈O,yb.2∈as→iP yb.1 es)
  (hR:∀ s',g9 Z nm env ⟨σ.env.set x (some d),(lose σ.own es).filter (· != x)⟩ (cC O (x::es)) s'→bE Z env O (cC O (x::es)) s.heap s'.heap→aK Z nm env [x] (fun _=>False) s.heap s'.heap→R () s'):wpAny (model Z.prog Z.w) A (storeName env n v) R E s :=
 XI (FC S) hnd hx hk r hd (fun yb hy hm=>let⟨h1,h2⟩:=bS.mp hy; let⟨z,hz,e⟩:=ho yb h1 hm; absurd ⟨z,List.mem_cons_of_mem _ hz,e⟩ h2) (own':=(lose σ.own es).filter (· != x)) (fun y hy=>.inl ⟨bne_iff_ne.mp (List.mem_filter.mp hy).2,hy⟩) fun s' S'' st T=>hR s' S'' ((bE.drop _).trans st) T
theorem E8{s₁:Shared}{x:Nat}{b:Addr}{es:List Nat}(S:g9 Z nm env σ O s)(I₁:aZ Z s₁)(k₁:Kp Z.n s.heap s₁.heap)(hlive:∃ o,s₁.heap.get? b=some o∧o.cls ≠ .none)(hb:s.heap.get? b=none)(hbn:Z.n≤b) :
  g9 Z nm env ⟨σ.env,(lose σ.own es).filter (· != x)⟩ ((some x,b)::cC O (x::es)) s₁∧bE Z env O ((some x,b)::cC O (x::es)) s.heap s₁.heap:=by
 have S':=FC (x:=x) (es:=es) S
 have S₁:=S'.kp I₁ k₁
 have st:=(bE.drop (Z:=Z) (env:=env) (h:=s.heap) (O:=O) (x::es)).trans (bE.kp k₁)
 exact⟨⟨I₁,S'.eok.add k₁ hb hlive,fun y hy=>let⟨n,c,h1,h2,h3⟩:=S₁.own y hy; ⟨n,c,h1,h2,List.mem_cons_of_mem _ h3⟩,fun y c hy=>(List.mem_cons.mp hy).elim (fun e=>by cases e; exact hbn) (S'.high y c)⟩,
  st.keep,st.live,fun y c hy=>(List.mem_cons.mp hy).elim (fun e=>by cases e; exact .inr ⟨hbn,hb⟩) (st.newO y c),fun a=>⟨fun h'=>(st.resv a).mp ((List.mem_cons.mp h').resolve_left nofun),fun h'=>List.mem_cons_of_mem _ ((st.resv a).mpr h')⟩⟩
theorem qZ{A:Around}{E:Value→Shared→Prop}{R:Unit→Shared→Prop}{s₁:Shared}{x:Nat}{n:Str}{b:Addr}{bs:List Addr}{d:PyData}{es:List Nat}(S:g9 Z nm env σ O s)(hnd:nm.Nodup)(hx:nm[x]? = some n)
  (hk:env.kindOf n=some .local∨env.kindOf n=some .cell) (I₁:aZ Z s₁) (k₁:Kp Z.n s.heap s₁.heap) (r:Rd s₁.heap (.ref b) d (b::bs)) (hd:bL d=true) (hb:s.heap.get? b=none) (hbn:Z.n≤b) (ho:∀ yb∈O,yb.2∈b::bs→iP yb.1 es)
  (hR:∀ s',g9 Z nm env ⟨σ.env.set x (some d),x::(lose σ.own es).filter (· != x)⟩ ((some x,b)::cC O (x::es)) s'→bE Z env O ((some x,b)::cC O (x::es)) s.heap s'.heap→aK Z nm env [x] (fun _=>False) s₁.heap s'.heap→R () s'):wpAny (model Z.prog Z.w) A (storeName env n (.ref b)) R E s₁:=by
 obtain⟨S₁,st⟩:=E8 (x:=x) (es:=es) S I₁ k₁ (let⟨o,_,_,e,_,c⟩:=r.objs b List.mem_cons_self; ⟨o,e,by rw[c]; nofun⟩) hb hbn
 exact XI (own':=x::(lose σ.own es).filter (· != x)) S₁ hnd hx hk r hd
  (fun yb hy hm=>(List.mem_cons.mp hy).elim (fun e=>by rw[e]; exact⟨rfl,rfl⟩) fun hy=>let⟨h1,h2⟩:=bS.mp hy; let⟨z,hz,e⟩:=ho yb h1 hm; absurd ⟨z,List.mem_cons_of_mem _ hz,e⟩ h2)
  (fun y hy=>(List.mem_cons.mp hy).elim (fun e=>.inr ⟨e,b,rfl,List.mem_cons_self⟩) fun hy=>.inl ⟨bne_iff_ne.mp (List.mem_filter.mp hy).2,hy⟩) fun s' S'' st' T=>hR s' S'' (st.trans st') T
theorem WJ(hE:aH Z nm env ρ O h){b:Addr}(hb:h.get? b=none):¬O3 env b:=by
 rintro(rfl | ⟨n,hk,hc⟩)
 ·obtain⟨m,o,_,_,e,_⟩:=hE.ns
  cases hb.symm.trans e
 ·obtain⟨_,v,o,e,_⟩:=hE.cellAt hk hc
  cases hb.symm.trans e
theorem HO(hE:aH Z nm env ρ O h){b:Addr}{o:Obj}{vs:Array Value}{n:Nat}(e:h.get? b=some o)(hd:o.data = .seq vs n):¬O3 env b:=by
 rintro(rfl | ⟨m,hk,hc⟩)
 ·obtain⟨m,hm⟩:=hE.ns
  exact eW hm e hd
 ·obtain⟨_,v,h3⟩:=hE.cellAt hk hc
  exact oK h3 e hd
theorem RC(hE:aH Z nm env ρ O h){yb:Option Nat×Addr}(hy:yb∈O):¬O3 env yb.2:=fun w=>w.elim (hE.apart yb hy).1 fun⟨m,hk,hc⟩=>(hE.apart yb hy).2 m _ hk hc rfl
end
structure Sx(Z:aE)(lvl:Nat)(nm:List Str)(sc:Scope)(A:Around)(env:Env)(σ:eH)(O:List (Option Nat×Addr))(s:Shared):Prop where
 ha:fG Z lvl A
 hs:uO sc env
 hf:pE sc env
 S:g9 Z nm env σ O s
section
variable{Z:aE}{cl:Nat→List PyData→Option PyData}{lvl:Nat}{nm:List Str}{fn:List Str}{sc:Scope}
theorem Sx.cx{A:Around}{env:Env}{σ:eH}{O:List (Option Nat×Addr)}{s:Shared}(X:Sx Z lvl nm sc A env σ O s):Cx Z lvl nm sc A env σ.env O s:=⟨X.ha,X.hs,X.S.eok,X.S.inv⟩
theorem Sx.go{A:Around}{env:Env}{σ σ':eH}{O O':List (Option Nat×Addr)}{s s':Shared}(X:Sx Z lvl nm sc A env σ O s)(S:g9 Z nm env σ' O' s'):Sx Z lvl nm sc A env σ' O' s':=⟨X.ha,X.hs,X.hf,S⟩
theorem Sx.kind{A:Around}{env:Env}{σ:eH}{O:List (Option Nat×Addr)}{s:Shared}{n:Str}(X:Sx Z lvl nm sc A env σ O s)(h:jZ sc n=true):env.kindOf n=some .local∨env.kindOf n=some .cell:=FB X.hs h (X.hf n h)
def DR(Z:aE)(cl:Nat→List PyData→Option PyData)(lvl:Nat)(nm:List Str)(sc:Scope)(fuel:Nat)(st:Stmt)(p:PS):Prop :=
 ∀{A:Around}{env:Env}{σ:eH}{O:List (Option Nat×Addr)}{s:Shared}{fl:Fl}{R:Flow→Shared→Prop}{E:Value→Shared→Prop},
  Sx Z lvl nm sc A env σ O s→zA cl fuel p σ=some fl→BJ Z nm env O s fl R→wpAny (model Z.prog Z.w) A (exec st env) R E s
def SX(Z:aE)(cl:Nat→List PyData→Option PyData)(lvl:Nat)(nm:List Str)(sc:Scope)(fuel:Nat)(ss:List Stmt)(p:kX):Prop :=
 ∀{A:Around}{env:Env}{σ:eH}{O:List (Option Nat×Addr)}{s:Shared}{fl:Fl}{R:Flow→Shared→Prop}{E:Value→Shared→Prop},
  Sx Z lvl nm sc A env σ O s→c8 cl fuel p σ=some fl→BJ Z nm env O s fl R→wpAny (model Z.prog Z.w) A (execs ss env) R E s
theorem UX{fuel:Nat}:SX Z cl lvl nm sc fuel [] .nil:=fun{A env σ O s fl R E}X hd hR=>by
 cases hd
 exact wpAny_execs_nil (hR s O X.S bE.refl)
theorem PW{fuel:Nat}{st:Stmt}{ss:List Stmt}{p:PS}{ps:kX}(h1:DR Z cl lvl nm sc fuel st p)(h2:SX Z cl lvl nm sc fuel ss ps):SX Z cl lvl nm sc fuel (st::ss) (.cons p ps):=fun{A env σ O s fl R E}X hd hR=>aV hd fun f hx hd=>by
 refine wpAny_execs_cons (h1 X hx ?_)
 cases f with
 | next σ'=>exact fun s' O' S' st=>h2 (X.go S') hd (hR.from_ st)
 | ret d=>cases hd; exact hR
theorem UW{fuel:Nat}{e:Expr}{p:PE}{pos:Pos}(h:SE Z cl lvl nm sc e p):DR Z cl lvl nm sc fuel (.Return (some e) pos) (.ret p):=fun{A env σ O s fl R E}X hd hR=>bY hd fun d hv e=>by
 subst e
 exact wpAny_Return_some (h X.cx hv fun v as s₁ I₁ k₁ r₁ ok₁ o₁=>hR v as s₁ O I₁ r₁ ok₁ (fun a ha hm=>let⟨y,_,e⟩:=o₁ _ ha hm; nomatch e) (bE.kp k₁))
theorem YV{fuel:Nat}{t:Expr}{b1 b2:List Stmt}{c:PE}{p1 p2:kX}{pos:Pos}(hc:ST Z cl lvl nm sc t c)(h1:SX Z cl lvl nm sc fuel b1 p1)(h2:SX Z cl lvl nm sc fuel b2 p2):DR Z cl lvl nm sc fuel (.If t b1 b2 pos) (.ife c p1 p2):=fun{A env σ O s fl R E}X hd hR=>aV hd fun d hx hd=>aV hd fun b ht hd =>
 wpAny_If (hc X.cx hx ht fun s₁ I₁ k₁=>by
  cases b with
  | true=>exact h1 (X.go (X.S.kp I₁ k₁)) hd (hR.from_ (bE.kp k₁))
  | false=>exact h2 (X.go (X.S.kp I₁ k₁)) hd (hR.from_ (bE.kp k₁)))
theorem MB{fuel:Nat}{t:Expr}{b:List Stmt}{c:PE}{ps:kX}{pos:Pos}(hc:ST Z cl lvl nm sc t c)(h:SX Z cl lvl nm sc fuel b ps):DR Z cl lvl nm sc fuel (.While t b [] pos) (.while_ c ps):=fun{A env σ O s fl R E}X hd hR=>by
 refine wpAny_While (codeAny_whileLoop (fun n s'=>∃ σ' O',g9 Z nm env σ' O' s'∧bE Z env O O' s.heap s'.heap∧dH (fun τ=>(aD cl c τ.env).bind bV) (c8 cl fuel ps) n σ'=some fl) (fun n s₀⟨σ',O',S',st,hw⟩=>?_) fuel ⟨σ,O,X.S,bE.refl,hd⟩)
 cases n with
 | zero=>cases hw
 | succ n =>
  refine aV hw fun tb hx hw=>aV hx fun d hx ht=>hc (X.go S').cx hx ht fun s₁ I₁ k₁=>?_
  have st₁:=st.trans (bE.kp k₁)
  cases tb with
  | false=>cases hw; exact wpAny_execs_nil (hR s₁ O' (S'.kp I₁ k₁) st₁)
  | true =>
   refine aV hw fun f hb hw=>h (X.go (S'.kp I₁ k₁)) hb ?_
   cases f with
   | next σ₂=>exact fun s₂ O₂ S₂ st₂=>⟨n,Nat.lt_succ_self n,σ₂,O₂,S₂,st₁.trans st₂,hw⟩
   | ret v=>cases hw; exact fun w as s₂ O₂ I₂ r okd hr st₂=>hR w as s₂ O₂ I₂ r okd (fun a ha=>hr a ((st.resv a).mpr ha)) (st₁.trans st₂)
theorem jA{value:Expr}(h:f7 value=false)(t:Option Expr)(l:Nat)(env:Env):swapsWith value t l env=pure false:=by
 cases value with
 | ListComp | SetComp | DictComp=>cases h
 | _=>rfl
theorem uP{fuel:Nat}{x:Nat}{n:Str}{np pos:Pos}{value:Expr}{p:PE}(hnd:nm.Nodup)(hx:nm[x]? = some n)(hk:jZ sc n=true)(hnew:u7 p=false)(hc:f7 value=false)(h:SE Z cl lvl nm sc value p) :
  DR Z cl lvl nm sc fuel (.Assign [.Name n np] value pos) (.assign x p):=fun{A env σ O s fl R E}X hd hR=>bY hd fun d hv e=>by
 subst e
 refine wpAny_Assign_Name (h X.cx hv fun v as s₁ I₁ k₁ r₁ ok₁ o₁=>ER (X.S.kp I₁ k₁) hnd hx (X.kind hk) r₁ ok₁ (rH r₁ o₁) fun s' S' st _=>?_) (jA hc _ _ _)
 rw[hnew,lS]at hR
 exact hR s' _ S' ((bE.kp k₁).trans st)
theorem uA{fuel:Nat}{x:Nat}{n:Str}{np pos lp:Pos}{es:List Expr}{ps:qV}(hnd:nm.Nodup)(hx:nm[x]? = some n)(hk:jZ sc n=true)(hlen:mC ps≤1000)(h:IL Z cl lvl nm sc es ps) :
  DR Z cl lvl nm sc fuel (.Assign [.Name n np] (.List es lp) pos) (.assign x (.list ps)):=fun{A env σ O s fl R E}X hd hR=>bY hd fun d hv e=>bY hv fun ds hds e'=>by
 subst e e'
 refine wpAny_Assign_Name ?_ rfl
 rw[arm_eval_List]
 refine wpAny_bind (wpAny_standAt (wpAny_bind (h X.cx hds fun vs as s₁ I₁ k₁ r₁ ok₁ o₁=>?_)))
 have hl:ds.length≤sizeLine:=Nat.le_trans (kR hds▸hlen) (by decide)
 have hE:=X.S.eok.kp k₁
 have ho:∀ yb∈O,yb.2∈s₁.heap.objs.size::as→iP yb.1 (rK ps):=fun yb hy hm=>(List.mem_cons.mp hm).elim (fun e=>absurd (hE.lt yb hy) (by rw[e]; exact Nat.lt_irrefl _)) (o₁ yb hy)
 have hp:∀{b o}{ob:Obj},s₁.heap.get? b=some o→(s₁.heap.push ob).get? b=some o:=fun e=>Heap.get?_push_of_some _ e
 refine wpAny_newList (qZ X.S hnd hx (X.kind hk) (I₁.push _ _) (k₁.trans (Kp.push _ _ _)) (.list (as:=as) (Heap.get?_push_size _ rfl) ⟨rfl,rfl⟩ rfl (by rw[List.toList_toArray]; exact r₁.map fun _ _ _ e _=>hp e)) (zE hl ok₁) (k₁.none hE.size (get?_ge (Nat.le_refl _))) hE.size ho fun s' S' st _=>?_) (aT r₁▸hl)
 rw[lS]at hR
 exact hR s' _ S' st
theorem g9.letGo{env:Env}{σ:eH}{O O₀:List (Option Nat×Addr)}{s₀ s:Shared}{C:Addr}{h':Heap}(hnd:nm.Nodup)(S:g9 Z nm env σ O s)(st:bE Z env O₀ O s₀.heap s.heap)(hC:s₀.heap.get? C=none)(hCn:Z.n≤C)(hw:¬O3 env C)(hCf:C∉Z.fr)(hCO:∀ yb∈O,yb.2≠C)(hs:Heap.SameBut C s.heap h')
  (hv:aH Z nm env σ.env O h'):g9 Z nm env σ O { s with heap:=h' }∧bE Z env O₀ O s₀.heap h':=by
 have T:aK Z nm env [] (fun b=>b=C) s.heap h':=aK.of_but (fun b o hb e=>(hs.2 b hb).trans e) (fun e=>hw (.inl e.symm)) fun n c hk hc e=>hw (.inr ⟨n,hk,e▸hc⟩)
 refine⟨S.turn hnd (S.inv.same hCn hs (fun h=>absurd h hCf) s.toks) hv T fun y hy=>⟨hy,nofun⟩,?_⟩
 have ne:∀ b o,s₀.heap.get? b=some o→b≠C:=fun b o e e'=>by rw[e',hC]at e; cases e
 exact⟨fun b o e c hw ho=>(st.keep b o e c hw ho).then fun o' e'=>(hs.2 b (ne b o e)).trans e',fun b o e hn=>let⟨o',e'⟩:=st.live b o e hn; ⟨o',(hs.2 b (ne b o e)).trans e'⟩,st.newO,st.resv⟩
theorem aH.sameBut{env:Env}{ρ:aN}{O:List (Option Nat×Addr)}{h h':Heap}{C:Addr}(hE:aH Z nm env ρ O h)(hs:Heap.SameBut C h h')(hw:¬O3 env C)(hCO:∀ yb∈O,yb.2≠C)(hns:∀ o vs n,h.get? C=some o→o.data ≠ .seq vs n):aH Z nm env ρ O h' :=
 have T:aK Z nm env [] (fun b=>b=C) h h':=aK.of_but (fun b o hb e=>(hs.2 b hb).trans e) (fun e=>hw (.inl e.symm)) fun n c hk hc e=>hw (.inr ⟨n,hk,e▸hc⟩)
 { hE with
  ns:=T.ns hE.ns
  live:=fun yb hy=>let⟨o,e,c⟩:=hE.live yb hy; ⟨o,(hs.2 _ (hCO yb hy)).trans e,c⟩
  cells:=fun n hk=>let⟨c,v,e,h2,h3⟩:=hE.cells n hk; let⟨v',h4⟩:=T.cells n c v hk e h3; ⟨c,v',e,h2,h4⟩
  vars:=fun y d n h1 h2 h3=>by
   obtain⟨v,as,a,r,hok,ho⟩:=hE.vars y d n h1 h2 h3
   refine⟨v,as,T.acc n v nofun a,T.rd hE r fun b hb e=>?_,hok,ho⟩
   obtain⟨o,vs,m,e',hd,_⟩:=r.objs b hb
   exact hns o vs m (e▸e') hd }
theorem uB{fuel:Nat}{x:Nat}{n:Str}{np pos cpos:Pos}{elt target iter:Expr}{ifs:List Expr}{gens:List Comprehension}{scope:Scope}{pe:PE}{t:Tg}{i:PI}{c:PO}{g:PG}(hnd:nm.Nodup)(hx:nm[x]? = some n)(hk:jZ sc n=true)
  (C:xK Z cl lvl nm sc scope elt target iter ifs gens cpos pe t i c g) :
  DR Z cl lvl nm sc fuel (.Assign [.Name n np] (.ListComp elt (⟨target,iter,ifs,0⟩::gens) scope cpos) pos) (.assign x (.comp pe t i c g)):=fun{A env σ O s fl R E}X hd hR=>bY hd fun d hv e=>by
 subst e
 have S:=X.S
 have hR':BJ Z nm env O s (.next (OX σ x d (lose σ.own (oP d (.comp pe t i c g))) true)) R:=by rw[← lS]; exact hR
 obtain⟨b,hsw⟩:∃ b,swapsWith (.ListComp elt (⟨target,iter,ifs,0⟩::gens) scope cpos) (some (.Name n np)) pos.line env=pure b:=⟨_,rfl⟩
 cases b with
 | false =>
  refine wpAny_Assign_Name ?_ hsw
  rw[eval_ListComp]
  refine tH C X.cx hv fun acc C s₁ as I₁ k₁ r₁ ok₁ o₁ hC hacc hCn haccn⟨m,hm⟩=>⟨m,hm,fun h' hs'=>?_⟩
  refine qZ S hnd hx (X.kind hk) (I₁.same hCn hs' (fun h=>absurd h (S.inv.notFr hC)) s₁.toks) ⟨fun b o e c=>(k₁.k b o e c).then fun o' e'=>(hs'.2 b fun e''=>by rw[e'',hC]at e; cases e).trans e'⟩ (r₁.map fun a o ha e _=>?_) ok₁ hacc haccn (rH r₁ o₁) fun s' S' st _=>hR' s' _ S' st
  obtain⟨o',xs,n',e',hv',_⟩:=r₁.objs a ha
  cases e.symm.trans e'
  exact(hs'.2 a fun e''=>eW hm (e''▸e) hv').trans e
 | true =>
  rw[exec_Assign_Name_used _ _ _ _ hsw]
  refine wpAny_bind (wpAny_standAt (wpAny_bind ?_))
  refine wpAny_bind (tH (Q:=fun _ s'=>wpAny (model Z.prog Z.w) A (pure ():Sem Unit) (fun _ s''=>wpAny (model Z.prog Z.w) A (pure Flow.next:Sem Flow) R E s'') E s') (use:=some (assign (.Name n np) env)) C X.cx hv fun acc C s₁ as I₁ k₁ r₁ ok₁ o₁ hC hacc hCn haccn⟨m,hm⟩=>?_)
  show wpAny (model Z.prog Z.w) A (assign (.Name n np) env (.ref acc)) _ E s₁
  refine wpAny_assign_Name (qZ S hnd hx (X.kind hk) I₁ k₁ r₁ ok₁ hacc haccn (rH r₁ o₁) fun s₂ S₂ st₂ T₂=>?_)
  have hw:¬O3 env C:=WJ S.eok hC
  have hm₂:s₂.heap.Ns C m:=by
   obtain⟨o,es,ep,e,hdd,r⟩:=hm
   obtain⟨o',e',_,hv'⟩:=(T₂.keep C o e (.inr hCn) (fun w=>hw w.all) id).ex
   exact⟨o',es,ep,e',hv'.trans hdd,r⟩
  refine⟨m,hm₂,fun h' hs'=>?_⟩
  have hCO:∀ yb∈(some x,acc)::cC O (x::oP d (.comp pe t i c g)),yb.2≠C:=fun yb hy e=>(List.mem_cons.mp hy).elim (fun e'=>by
   obtain⟨o,vs,k,e'',hv',_⟩:=r₁.objs acc List.mem_cons_self
   exact eW hm ((show acc=C by rw[← e,e'])▸e'') hv') fun hy=>by
   obtain⟨o,e',_⟩:=S.eok.live yb (bS.mp hy).1
   rw[e,hC]at e'; cases e'
  obtain⟨S₃,st₃⟩:=g9.letGo hnd S₂ st₂ hC hCn hw (S.inv.notFr hC) hCO hs' (S₂.eok.sameBut hs' hw hCO fun o vs n e hv=>eW hm₂ e hv)
  exact wpAny_pure (wpAny_pure (hR' _ _ S₃ st₃))
theorem H7{u v:Str}{t t':Tok}{d:PyData}{A:Around}{E:Value→Shared→Prop}{s:Shared}{Q:Value→Shared→Prop}(hx:bL (.str u)=true)(hy:bL (.str v)=true)(h:Au (u++v)=some d)(g:∀ t tk,∃ x,d = .str x∧(bL d=true→Q (.str x t) { s with toks:=tk })):wpAny (model Z.prog Z.w) A (inplaceOp .Add (.str u t) (.str v t')) Q E s:=by
 refine hY h fun hs e=>?_
 cases e
 have hok:=b7 hx hy hs
 have g':∀ t tk,Q (.str (u++v) t) { s with toks:=tk }:=fun t tk=>by obtain⟨x,e,h⟩:=g t tk; cases e; exact h hok
 refine P.iadd_str ?_
 by_cases e1:(u.length==0)=true
 ·rw[if_pos e1]
  have:=g' t' s.toks
  rwa[show u++v=v by rw[s0 (eq_of_beq e1)]; exact Str.empty_append v]at this
 ·rw[if_neg e1]
  by_cases e3:(v.length==0)=true
  ·rw[if_pos e3]
   have:=g' t s.toks
   rwa[qG (eq_of_beq e3)]at this
  ·rw[if_neg e3]
   exact⟨hs,g' _ _⟩
theorem oI{op:Operator}{a b d:PyData}{v w:Value}{as bs:List Addr}{A:Around}{E:Value→Shared→Prop}{s:Shared}{Q:Value→Shared→Prop}(ra:Rd s.heap v a as)(rb:Rd s.heap w b bs)(ha:bL a=true)(hb:bL b=true)(hfa:flat a=true)(hop:(op == .Add||op == .Sub)=true)(h:rM op a b=some d)
  (fin:∀ v' tk,(∀ h:Heap,Rd h v' d [])→bL d=true→Q v' { s with toks:=tk }):wpAny (model Z.prog Z.w) A (inplaceOp op v w) Q E s:=by
 have hop':=(Bool.or_eq_true_iff.mp hop).imp eq_of_beq eq_of_beq
 cases a with
 | int i =>
  exact F9 (m:=fun v=>wpAny _ A (inplaceOp op v w) Q E s) ra fun t=>mX (m:=fun w=>wpAny _ A (inplaceOp op _ w) Q E s) rb h fun j u h=>by
   rcases hop' with rfl | rfl <;> cases h
   ·exact P.iadd_int (fin _ _ (fun _=>.int _ _) rfl)
   ·exact P.isub_int (fin _ _ (fun _=>.int _ _) rfl)
 | str u =>
  obtain⟨t,rfl⟩:=fE ra
  exact jR h fun v e h=>hY h fun ho h=>by
   subst e
   obtain⟨t',rfl⟩:=fE rb
   cases eq_of_beq ho
   have hd:∃ x,d = .str x:=hY h fun _ e=>⟨_,(Option.some.inj e).symm⟩
   obtain⟨x,rfl⟩:=hd
   exact H7 ha hb h fun t tk=>⟨x,rfl,fun ok=>fin _ _ (fun _=>.str _ _) ok⟩
 | list=>cases hfa
 | _=>cases h
theorem UZ{fuel:Nat}{x:Nat}{n:Str}{np pos:Pos}{op:Operator}{value:Expr}{p:PE}(hnd:nm.Nodup)(hx:nm[x]? = some n)(hk:jZ sc n=true)(hcd:n≠("__classdict__" : Str))(h:SE Z cl lvl nm sc value p) :
  DR Z cl lvl nm sc fuel (.AugAssign (.Name n np) op value pos) (.aug x op p):=fun{A env σ O s fl R E}X hd hR=>aV hd fun a hl hd=>aV hd fun b hx' hd=>hY hd fun hc hd=>bY hd fun d hv e=>by
 subst e
 have S:=X.S
 have hk':=X.kind hk
 obtain⟨v,as,ac,r,hok,ho⟩:=S.eok.vars x a n hl hx (hk'.elim .inl fun h=>.inr (.inl h))
 refine wpAny_AugAssign_Name (ac.load S.eok.kind hcd (h X.cx hx' fun w bs s₁ I₁ k₁ r₁ ok₁ o₁=>?_))
 refine oI (k₁.rd r) r₁ hok ok₁ (aA (aA hc).1).1 (aA hc).2 hv fun v' tk r' ok'=>ER (es:=[]) (S.kp (I₁.tok tk) k₁) hnd hx hk' (r' _) ok' (fun _ _ h=>nomatch h) fun s' S' st _=>?_
 rw[show lose σ.own []=σ.own from List.filter_eq_self.mpr fun _ _=>rfl]at S'
 exact hR s' _ S' ((bE.kp k₁).trans st)
end
theorem oM{prog:Program}{w:World}{A:Around}{s:Shared}{R:Result→Shared→Prop}{tn:Str}{tp:Pos}{it:Value}{body:List Stmt}{env:Env}(I:Nat→Shared→Prop)
  (turn:∀ n s,I n s→wpAny (model prog w) A (pyNext it) (fun r s₁=>match r with
   | none=>R (.ok .next) s₁
   | some v=>wpAny (model prog w) A (assign (.Name tn tp) env v) (fun _ s₃=>wpAny (model prog w) A (execs body env) (fun f s₄=>match f with
     | .next | .cont=>∃ m,m<n∧I m s₄
     | .brk=>R (.ok .next) s₄
     | .ret v=>R (.ok (.ret v)) s₄) (notedBy (model prog w) A env fun e s'=>R (.error e) s') s₃) (notedBy (model prog w) A env fun e s'=>R (.error e) s') s₁) (notedBy (model prog w) A env fun e s'=>R (.error e) s') s)
  (n:Nat) (h:I n s):codeAny (model prog w) A (.forLoop (.Name tn tp) it body [] env) R s:=by
 refine codeAny_loop' rfl I (fun n s hI=>?_) n h
 show wpAny _ _ ((forTurn (.Name tn tp) it body [] env).onRaise (fun x=>do noteFrame x env; theTreesLotGoes x)) _ _ s
 refine wpAny_noted ?_
 simp only[forTurn]
 refine wpAny_bind (wpAny_standAt (wpAny_bind (wpAny_onRaise (wpAny_mono (turn n s hI) (fun r s₁ h₁=>?_) fun _ _ h'=>wpAny_standAt h'))))
 cases r with
 | none=>exact wpAny_pure (.inr ⟨rfl,codeAny_block (wpAny_execs_nil h₁)⟩)
 | some v =>
  refine wpAny_bind (wpAny_pure (wpAny_bind (wpAny_mono h₁ (fun _ s₃ h₃=>wpAny_bind (wpAny_mono h₃ (fun f s₄ h₄=>?_) fun _ _ h'=>h')) fun _ _ h'=>h')))
  cases f with
  | next=>exact wpAny_pure (.inl ⟨rfl,h₄⟩)
  | cont=>exact wpAny_pure (.inl ⟨rfl,h₄⟩)
  | brk=>exact wpAny_pure h₄
  | ret v=>exact wpAny_pure h₄
section
variable{Z:aE}{cl:Nat→List PyData→Option PyData}{lvl:Nat}{nm:List Str}{fn:List Str}{sc:Scope}
theorem tT{env:Env}{σ:eH}{O:List (Option Nat×Addr)}{s:Shared}{x:Nat}{n:Str}{b:Addr}{items items':Array Value}{c c':Nat}{sl sl':Array (Option Value)}{xs xs':List PyData}{bs bs':List Addr}{h':Heap}
  (S:g9 Z nm env σ O s) (hnd:nm.Nodup) (hx:nm[x]? = some n) (hl:aY σ.env x=some (.list xs)) (hvis:XO env n) (hacc:uK env s.heap n (.ref b)) (h3:(some x,b)∈O) (hobj:s.heap.get? b=some { cls:=.type "list",dict:=none,data:=.seq items c,slots:=sl })
  (ra:aU s.heap items.toList xs bs) (hsb:Heap.SameBut b s.heap h') (hnew:h'.get? b=some { cls:=.type "list",dict:=none,data:=.seq items' c',slots:=sl' }) (ra':aU s.heap items'.toList xs' bs') (hnb:b∉bs') (hsub:∀ a∈bs',a∈bs∨∀ yb∈O,yb.2≠a) (hok:bL (.list xs')=true) :
  g9 Z nm env ⟨σ.env.set x (some (.list xs')),σ.own⟩ O { s with heap:=h' }∧bE Z env O O s.heap h'∧uK env h' n (.ref b)∧aU h' items'.toList xs' bs':=by
 obtain⟨hap1,hap2⟩:=S.eok.apart _ h3
 have hrd:Rd s.heap (.ref b) (.list xs) (b::bs):=.list hobj ⟨rfl,rfl⟩ rfl ra
 have hkeep:∀ c o,c≠b→s.heap.get? c=some o→h'.get? c=some o:=fun c o hc e=>(hsb.2 c hc).trans e
 have T:aK Z nm env [] (fun c=>c=b) s.heap h':=aK.of_but (fun c o hc e=>hkeep c o hc e) (fun e=>hap1 e.symm) fun m c hkc hc e=>hap2 m c hkc hc e.symm
 have ra2:aU h' items'.toList xs' bs':=ra'.map fun a o ha e _=>hkeep a o (fun e'=>hnb (e'▸ha)) e
 obtain⟨v0,as0,ac0,r0,ok0,ho0⟩:=S.eok.vars x _ n hl hx hvis
 cases ac0.uniq hacc
 cases(hH.same r0 hrd).2
 have hEn:aH Z nm env (σ.env.set x (some (.list xs'))) O h' :=
  { S.eok with
   ns:=T.ns S.eok.ns
   live:=fun yb hy=>by
    by_cases e:yb.2=b
    ·rw[e]; exact⟨_,hnew,nofun⟩
    ·obtain⟨o,e',c⟩:=S.eok.live yb hy
     exact⟨o,hkeep _ _ e e',c⟩
   cells:=fun m hm=>let⟨c,u,h1,h2,h3⟩:=S.eok.cells m hm; let⟨u',h4⟩:=T.cells m c u hm h1 h3; ⟨c,u',h1,h2,h4⟩
   vars:=fun y q m hy1 hy2 hy3=>by
    rcases lO hy1 with⟨rfl,e⟩| ⟨hne,e⟩
    ·cases e
     cases hx.symm.trans hy2
     refine⟨.ref b,b::bs',T.acc _ _ nofun hacc,.list hnew ⟨rfl,rfl⟩ rfl ra2,hok,fun yb hyb hm=>(List.mem_cons.mp hm).elim (fun hm=>?_) fun hm=>(hsub _ hm).elim (fun hm=>ho0 yb hyb (List.mem_cons_of_mem _ hm)) fun h=>absurd rfl (h yb hyb)⟩
     exact⟨(ho0 yb hyb (by rw[hm]; exact List.mem_cons_self)).1,by rw[hm]; rfl⟩
    ·obtain⟨v',as',a',r',hd',ho'⟩:=S.eok.vars y q m e hy2 hy3
     exact⟨v',as',T.acc _ _ nofun a',T.rd S.eok r' fun a ha e=>hne (Option.some.inj (ho' _ h3 (e▸ha)).1).symm,hd',ho'⟩ }
 refine⟨⟨S.inv.same (S.high _ _ h3) hsb (fun h=>absurd h (S.inv.frNot hobj nofun)) s.toks,hEn,fun y hy=>let⟨m,c,g1,g2,g3⟩:=S.own y hy; ⟨m,c,g1,T.acc _ _ nofun g2,g3⟩,S.high⟩,⟨fun c o e hc hw hoo=>.inl (hkeep c o (fun e'=>hoo x (e'▸h3)) e),fun c o e hcn=>?_,fun y c hy=>.inl hy,fun _=>Iff.rfl⟩,T.acc _ _ nofun hacc,ra2⟩
 by_cases e':c=b
 ·rw[e']; exact⟨_,hnew⟩
 ·exact⟨o,hkeep c o e' e⟩
theorem U0{fuel:Nat}{x:Nat}{n:Str}{np apos cpos pos:Pos}{value:Expr}{p:PE}(hnd:nm.Nodup)(hx:nm[x]? = some n)(hk:jZ sc n=true)(hdbg:n≠("__debug__" : Str))(hcd:n≠("__classdict__" : Str))(hline:(apos.endLine==cpos.line)=true)
  (hst:aC value=false) (h:SE Z cl lvl nm sc value p):DR Z cl lvl nm sc fuel (.Expr (.Call (.Attribute (.Name n np) "append" apos) [value] [] cpos) pos) (.app x p):=fun{A env σ O s fl R E}X hd hR =>
 hY hd fun hown hd=>aV hd fun q hl hd=>kC hd fun xs e hc=>aV hc fun d hx' hc=>by
 subst e
 have S:=X.S
 by_cases hesc:(!flat d&&(lT p).contains x)=true
 ·rw[if_pos hesc]at hc; cases hc
 rw[if_neg hesc]at hc
 refine bY hc fun l hl' e=>hY hl' fun hsz e'=>?_
 cases e'
 subst e
 have hvis:XO env n:=(X.kind hk).elim .inl fun h=>.inr (.inl h)
 obtain⟨v,as,ac,r,hok,ho⟩:=S.eok.vars x _ n hl hx hvis
 obtain⟨n',b,h1,h2,h3⟩:=S.own x (List.contains_iff_mem.mp hown)
 cases hx.symm.trans h1
 cases ac.uniq h2
 obtain⟨b',items,k,sl,bs,e,hobj,ra,rfl⟩:=eF r
 cases e
 have hint:interactive env=false:=by unfold interactive; rw[S.eok.kind]; rfl
 have hpl:=aQ hst
 refine wpAny_Expr (wpAny_Call_method_lateS (aS rfl _ _ _) (iW hpl (Nat.le_of_ble_eq_true rfl)) hline ?_) hint rfl
 refine wpAny_Name (ac.load S.eok.kind hcd ?_) (beq_eq_false_iff_ne.mpr hdbg)
 refine⟨"list", "list.append",F.plainAttrs_list,slot_list_append,type_list_append,⟨_,hobj,rfl⟩,fun a e=>by cases e; exact⟨_,hobj,rfl⟩,?_⟩
 refine aR nofun (hpl.1 env cpos) (bJ (hpl.2.1 nofun env cpos) ?_)
 rw[bC hst]
 refine Calls.spliced_cons (h X.cx hx' fun w cs s₁ I₁ k₁ r₁ ok₁ o₁=>Calls.spliced_nil ?_)
 have hobj₁:=(k₁.k _ _ hobj (.inl nofun)).seq rfl
 refine wpAny_call_entry slot_list_append ⟨_,hobj₁,rfl⟩ entry_list_append ?_ (args_list_append _ _)
 show wpAny _ _ (updateSeq b (·.push w) >>= fun _=>ret .none) _ _ s₁
 have hlenx:items.size=xs.length:=(Array.length_toList).symm.trans (aT ra)
 rw[List.length_append]at hsz
 have hsz1:items.size+1≤sizeLine:=hlenx▸hsz
 have hsz2:items.size≤sizeLine:=Nat.le_of_succ_le hsz1
 have hsz3:(items.push w).size≤sizeLine:=by rw[Array.size_push]; exact hsz1
 refine wpAny_bind (wpAny_updateSeq hobj₁ rfl (wpAny_pure ⟨.none,rfl,?_⟩))
 have S₁:=(S.kp I₁ k₁).lose (es:=oP d p) (own:=lose σ.own (oP d p)) fun y hy=>kK.mp hy
 have hxe:¬iP (some x) (oP d p):=fun⟨y,hy,e⟩=>by
  cases e
  unfold oP at hy
  cases hf:flat d
  ·rw[hf]at hy hesc; exact hesc (List.contains_iff_mem.mpr hy)
  ·rw[hf]at hy; cases hy
 have h3':(some x,b)∈cC O (oP d p):=bS.mpr ⟨h3,hxe⟩
 have hcs:∀ a∈cs,∀ yb∈cC O (oP d p),yb.2≠a:=fun a ha yb hy e=>(bS.mp hy).2 (rH r₁ o₁ yb (bS.mp hy).1 (e▸ha))
 obtain⟨S₂,st₂,_⟩:=tT (items':=items.push w) (bs':=bs++(cs++[])) S₁ hnd hx hl hvis (h2.kp k₁ S.eok.new fun c hc hkc=>(S.eok.cellAt hkc hc).1) h3' hobj₁ (k₁.rd ra) (Heap.SameBut.update s₁.heap b (Obj.mapSeq (·.push w))) (Heap.get?_update_self (Obj.mapSeq (·.push w)) hobj₁ rfl)
  (by rw[Array.toList_push]; exact jH (k₁.rd ra) (.cons r₁ .nil)) (fun hm=>(List.mem_append.mp hm).elim (r.apart rfl) fun hm=>hcs b (by rwa[List.append_nil]at hm) _ h3' rfl) (fun a ha=>(List.mem_append.mp ha).imp id fun ha=>hcs a (by rwa[List.append_nil]at ha))
  (zE (by rw[List.length_append]; exact hsz) (kO.mpr ⟨(y0 hok).2,by rw[cD,ok₁]; rfl⟩))
 have hR':BJ Z nm env O s (.next ⟨σ.env.set x (some (.list (xs++[d]))),lose σ.own (oP d p)⟩) R:=by rw[← lS]; exact hR
 exact hR' _ _ S₂ (((bE.kp k₁).trans (bE.drop _)).trans st₂)
noncomputable def pZ(O₁ O:List (Option Nat×Addr)):List (Option Nat×Addr):=O₁.filter fun yb=>yb.1.isSome||decide (yb∈O)
theorem fV{O₁ O:List (Option Nat×Addr)}{yb:Option Nat×Addr}:yb∈pZ O₁ O↔yb∈O₁∧(yb.1.isSome=true∨yb∈O):=by
 unfold pZ
 rw[List.mem_filter,Bool.or_eq_true,decide_eq_true_eq]
structure cJ(Z:aE)(env:Env)(O:List (Option Nat×Addr))(h:Heap)(O₀:List (Option Nat×Addr))(h₁:Heap)(O':List (Option Nat×Addr))(h':Heap):Prop where
 keep:∀ b o,h.get? b=some o→(o.cls ≠ .none∨Z.n≤b)→¬O3 env b→(∀ y,(some y,b)∉O)→Sl h' b o
 live:∀ b o,h.get? b=some o→Z.n≤b→∃ o',h'.get? b=some o'
 live1:∀ b o,h₁.get? b=some o→Z.n≤b→∃ o',h'.get? b=some o'
 newO:∀ y b,(some y,b)∈O'→(some y,b)∈O₀∨(Z.n≤b∧h₁.get? b=none)
 resv:∀ a,(none,a)∈O'↔(none,a)∈O₀
section
variable{env:Env}{O O₀ O' O'':List (Option Nat×Addr)}{h h₁ h' h'':Heap}{I:Addr}
theorem cJ.step(k:Kp Z.n h h₁)(hO:∀ y b,(some y,b)∈O₀→(some y,b)∈O)(L:cJ Z env O h O₀ h₁ O' h')(st:bE Z env O' O'' h' h''):cJ Z env O h O₀ h₁ O'' h'' where
 keep:=fun b o e c hw ho=>(L.keep b o e c hw ho).next fun o' e' hcc=>st.keep b o' e' (by rw[hcc]; exact c) hw fun y hy=>(L.newO y b hy).elim (fun h1=>ho y (hO y b h1)) fun h1=>let⟨_,e2,_⟩:=(k.k b o e c).ex; nomatch h1.2.symm.trans e2
 live:=fun b o e hn=>let⟨o',e'⟩:=L.live b o e hn; st.live b o' e' hn
 live1:=fun b o e hn=>let⟨o',e'⟩:=L.live1 b o e hn; st.live b o' e' hn
 newO:=fun y b hy=>(st.newO y b hy).elim (L.newO y b) fun⟨hn,h1⟩=>.inr ⟨hn,nT fun o e=>let⟨_,e'⟩:=L.live1 b o e hn; nomatch h1.symm.trans e'⟩
 resv:=fun a=>(st.resv a).trans (L.resv a)
theorem cJ.next(L:cJ Z env O h O₀ h₁ O' h')(hfresh:h.get? I=none)(kp:∀ b o,b≠I→h'.get? b=some o→h''.get? b=some o)(hl:∃ o,h''.get? I=some o):cJ Z env O h O₀ h₁ O' h'' where
 keep:=fun b o e c hw ho=>(L.keep b o e c hw ho).then fun o' e'=>kp b o' (fun hm=>by rw[hm,hfresh]at e; cases e) e'
 live:=fun b o e hn=>let⟨o',e'⟩:=L.live b o e hn; ⟨o',kp b o' (fun hm=>by rw[hm,hfresh]at e; cases e) e'⟩
 live1:=fun b o e hn=>by
  obtain⟨o',e'⟩:=L.live1 b o e hn
  by_cases hm:b=I
  ·rw[hm]; exact hl
  ·exact⟨o',kp b o' hm e'⟩
 newO:=L.newO
 resv:=L.resv
theorem cJ.exit(k:Kp Z.n h h₁)(hO:∀ y b,(some y,b)∈O₀→(some y,b)∈O)(hON:∀ a,(none,a)∈O→(none,a)∈O₀)(L:cJ Z env O h O₀ h₁ O' h')(hfresh:h.get? I=none)(kp:∀ b o,b≠I→h'.get? b=some o→h''.get? b=some o) :
  bE Z env O (pZ O' O) h h'' where
 keep:=fun b o e c hw ho=>(L.keep b o e c hw ho).then fun o' e'=>kp b o' (fun hm=>by rw[hm,hfresh]at e; cases e) e'
 live:=fun b o e hn=>let⟨o',e'⟩:=L.live b o e hn; ⟨o',kp b o' (fun hm=>by rw[hm,hfresh]at e; cases e) e'⟩
 newO:=fun y b hy=>(L.newO y b (fV.mp hy).1).imp (hO y b) fun⟨hn,h1⟩=>⟨hn,k.none hn h1⟩
 resv:=fun a=>fV.trans ⟨fun h=>h.2.resolve_left nofun,fun h=>⟨(L.resv a).mpr (hON a h),.inr h⟩⟩
end
theorem FJ{A:Around}{env:Env}{σ:eH}{O:List (Option Nat×Addr)}{s:Shared}{tn:Str}{tp pos:Pos}{iter:Expr}{body:List Stmt}{x:Nat}{i:PI}{ds:List PyData}{R:Flow→Shared→Prop}{E:Value→Shared→Prop}(K:Nat→eH→List (Option Nat×Addr)→Shared→Prop)
  (X:Sx Z lvl nm sc A env σ O s) (hnd:nm.Nodup) (hx:nm[x]? = some tn) (hl:jZ sc tn=true) (hset:gW iter=false) (hi:SI Z cl lvl nm sc iter i) (hds:wO cl i σ.env=some ds)
  (K0:∀ I s₁,aZ Z s₁→Kp Z.n s.heap s₁.heap→K 0 ⟨σ.env,lose σ.own (dX i)⟩ (Kt.Internal.reserve I O (dX i)) s₁)
  (KI:∀ k σ' O' s₀ s₂ I,K k σ' O' s₀→(none,I)∈O'→(∀ y b,(some y,b)∈O'→b≠I)→g9 Z nm env σ' O' s₂→(∀ b o,b≠I→s₀.heap.get? b=some o→s₂.heap.get? b=some o)→aK Z nm env [] (· = I) s₀.heap s₂.heap→K k σ' O' s₂)
  (turn:∀ k d σ' O' s₂ s₃,ds[k]? = some d→bL d=true→K k σ' O' s₂→Sx Z lvl nm sc A env ⟨σ'.env.set x (some d),lose σ'.own [x]⟩ (cC O' [x]) s₃→aH Z nm env σ'.env O' s₂.heap→aK Z nm env [x] (fun _=>False) s₂.heap s₃.heap →
   (∀ O₄ h₄,bE Z env (cC O' [x]) O₄ s₃.heap h₄→bE Z env O (pZ O₄ O) s.heap h₄)→(∀ a,(none,a)∈O→(none,a)∈cC O' [x]) →
   wpAny (model Z.prog Z.w) A (execs body env) (fun f s₄=>match f with
    | .next | .cont=>∃ σ'' O'',K (k+1) σ'' O'' s₄∧g9 Z nm env σ'' O'' s₄∧bE Z env (cC O' [x]) O'' s₃.heap s₄.heap
    | .brk=>R .next s₄
    | .ret v=>R (.ret v) s₄) (notedBy (model Z.prog Z.w) A env fun e s'=>cameBackBy (model Z.prog Z.w) A env E e s') s₃)
  (fin:∀ σ' O' s₀ s',K ds.length σ' O' s₀→g9 Z nm env σ' (pZ O' O) s'→bE Z env O (pZ O' O) s.heap s'.heap→R .next s') :
  wpAny (model Z.prog Z.w) A (exec (.For (.Name tn tp) iter body [] pos) env) R E s:=by
 have S:=X.S
 refine wpAny_For (hi X.cx hds fun I used St s₁ Sr=>?_) (pM hset env)
 generalize hO₀e:Kt.Internal.reserve I O (dX i)=O₀
 have hIl:∃ o,s₁.heap.get? I=some o∧o.cls ≠ .none:=let⟨o,e,c,_⟩:=Sr.iter.live _ _ Sr.start; ⟨o,e,c⟩
 have some₀:∀ y b,(some y,b)∈O₀→(some y,b)∈O∧¬iP (some y) (dX i):=fun y b hy=>(kP (hO₀e▸hy)).resolve_left nofun
 have S₁:g9 Z nm env ⟨σ.env,lose σ.own (dX i)⟩ O₀ s₁:=⟨Sr.inv,hO₀e▸S.eok.reserve Sr.kp Sr.fresh hIl,fun y hy=>by
  obtain⟨h1,h2⟩:=kK.mp hy
  obtain⟨n,b,g1,g2,g3⟩:=(S.kp Sr.inv Sr.kp).own y h1
  exact⟨n,b,g1,g2,hO₀e▸(dJ g3).resolve_right fun⟨z,hz,e⟩=>h2 (by cases e; exact hz)⟩,fun y b hy=>S.high y b (some₀ y b hy).1⟩
 have hON:∀ a,(none,a)∈O→(none,a)∈O₀:=fun a h=>hO₀e▸jG h
 have lab₀:∀ y b,(some y,b)∈O₀→b∉used∧b≠I:=fun y b hy=>⟨fun hm=>(some₀ y b hy).2 (Sr.own _ (some₀ y b hy).1 hm),fun e=>by obtain⟨o,e',_⟩:=S.eok.live _ (some₀ y b hy).1; rw[show(some y,b).2=I from e,Sr.fresh]at e'; cases e'⟩
 let Lp:List (Option Nat×Addr)→Heap→Prop:=cJ Z env O s.heap O₀ s₁.heap
 have hIO:∀{O' h},Lp O' h→(none,I)∈O':=fun L=>(L.resv I).mpr (hO₀e▸List.mem_cons_self)
 have lab:∀{O' h},Lp O' h→∀ y b,(some y,b)∈O'→b∉used∧b≠I:=fun L y b hy=>by
  rcases L.newO y b hy with h | ⟨_,h⟩
  ·exact lab₀ y b h
  ·refine⟨fun hm=>?_,fun e=>?_⟩
   ·obtain⟨o,_,_,e,_⟩:=Sr.seq b hm; cases h.symm.trans e
   ·obtain⟨o,e',_⟩:=hIl; subst e; cases h.symm.trans e'
 have usO:∀{O' h},Lp O' h→∀ yb∈O',yb.2∉used:=fun{O' h}L yb hy hm=>by
  obtain⟨y,b⟩:=yb
  cases y with
  | some y=>exact(lab L y b hy).1 hm
  | none=>exact(kP (hO₀e▸(L.resv b).mp hy)).elim (fun e=>by cases e; exact Sr.iter.apart hm) fun h=>let⟨_,_,e⟩:=Sr.own _ h.1 hm; nomatch e
 let J:Nat→Shared→Prop:=fun n s'=>∃ k σ' O',n=ds.length - k∧k≤ds.length∧St k s'.heap∧g9 Z nm env σ' O' s'∧Lp O' s'.heap∧K k σ' O' s'∧mN used s'.heap
 have L₀:Lp O₀ s₁.heap:=⟨fun b o e c _ _=>Sr.kp.k b o e c,fun b o e hn=>let⟨o',e',_⟩:=(Sr.kp.k b o e (.inr hn)).ex; ⟨o',e'⟩,fun b o e _=>⟨o,e⟩,fun _ _ h=>.inl h,fun _=>Iff.rfl⟩
 have hO₀:∀ y b,(some y,b)∈O₀→(some y,b)∈O:=fun y b h=>(some₀ y b h).1
 refine oM J (fun n s₀ hJ=>?_) ds.length ⟨0,_,O₀,rfl,Nat.zero_le _,Sr.start,S₁,L₀,hO₀e▸K0 I s₁ Sr.inv Sr.kp,⟨Sr.seq⟩⟩
 obtain⟨k,σ',O',rfl,hk,st₀,S₀,T₀,K₀,sq₀⟩:=hJ
 have hII:=hIO T₀
 have butI:∀{s₂:Shared},(∀ b o,b≠I→s₀.heap.get? b=some o→s₂.heap.get? b=some o)→aK Z nm env [] (· = I) s₀.heap s₂.heap:=fun kp=>S₀.eok.but hII kp
 rcases Nat.lt_or_ge k ds.length with hlt | hge
 ·have hdk:ds[k]? = some ds[k]:=List.getElem?_eq_getElem hlt
  refine Sr.iter.step k ds[k] s₀ _ _ hdk st₀ S₀.inv fun v bs s₂ I₂ kp₂ r₂ hbs st₂=>?_
  have TI:=butI kp₂
  have hIl₂:∃ o,s₂.heap.get? I=some o∧o.cls ≠ .none:=let⟨o,e,c,_⟩:=Sr.iter.live _ _ st₂; ⟨o,e,c⟩
  have E₂:aH Z nm env σ'.env O' s₂.heap:=S₀.eok.of_turned hnd TI nofun (fun yb _ hx=>hx▸hIl₂) fun b hb=>hb▸hII
  have S₂:g9 Z nm env σ' O' s₂:=S₀.turn hnd I₂ E₂ TI fun y hy=>⟨hy,nofun⟩
  have L₂:Lp O' s₂.heap:=cJ.next T₀ Sr.fresh kp₂ (let⟨o,e,_⟩:=hIl₂; ⟨o,e⟩)
  have K₂:=KI k σ' O' s₀ s₂ I K₀ hII (fun y b h=>(lab T₀ y b h).2) S₂ kp₂ TI
  have hXu:∀ b∈used,¬b=I:=fun b hb e=>Sr.iter.apart (e▸hb)
  have sq₂:=(sq₀.turn S₀.eok TI hXu).2
  have S₂':g9 Z nm env ⟨σ'.env,lose σ'.own [x]⟩ (cC O' [x]) s₂:=S₂.lose fun y hy=>kK.mp hy
  have L₂':Lp (cC O' [x]) s₂.heap:=cJ.step Sr.kp hO₀ L₂ (bE.drop [x])
  refine wL hnd hx hl X.hs X.hf S₂'.eok I₂ r₂ (nS Sr.ok hdk) (fun yb hy hm=>usO L₂' yb hy (hbs _ hm)) fun s₃ I₃ E₃ T₃=>?_
  have st₃:bE Z env (cC O' [x]) (cC O' [x]) s₂.heap s₃.heap:=bE.turned S₂'.eok T₃
  have S₃:g9 Z nm env ⟨σ'.env.set x (some ds[k]),lose σ'.own [x]⟩ (cC O' [x]) s₃:=S₂'.turn hnd I₃ E₃ T₃ fun y hy=>⟨hy,(kK.mp hy).2⟩
  have L₃:Lp (cC O' [x]) s₃.heap:=cJ.step Sr.kp hO₀ L₂' st₃
  refine wpAny_mono (turn k ds[k] σ' O' s₂ s₃ hdk (nS Sr.ok hdk) K₂ (X.go S₃) E₂ T₃ (fun O₄ h₄ st₄=>cJ.exit Sr.kp hO₀ hON (cJ.step Sr.kp hO₀ L₃ st₄) Sr.fresh fun b o _ e=>e) fun a ha=>(L₃.resv a).mpr (hON a ha)) (fun f s₄ h₄=>?_) fun _ _ h=>h
  have next:(∃ σ'' O'',K (k+1) σ'' O'' s₄∧g9 Z nm env σ'' O'' s₄∧bE Z env (cC O' [x]) O'' s₃.heap s₄.heap)→∃ m,m<ds.length - k∧J m s₄:=fun⟨σ₄,O₄,K₄,S₄,st₄⟩=>by
   have st₂₄:bE Z env (cC O' [x]) O₄ s₂.heap s₄.heap:=st₃.trans st₄
   have hu:∀ b∈used,∀ o,s₂.heap.get? b=some o→s₄.heap.get? b=some o:=fun b hb o e=>by
    obtain⟨o',vs,n,e',hd,hc⟩:=sq₂.at_ b hb
    cases e.symm.trans e'
    exact(st₂₄.keep b o e (.inl hc) (HO S₂'.eok e hd) fun y hy=>(lab L₂' y b hy).1 hb).seq hd
   have hI₄:∀ o,s₂.heap.get? I=some o→s₄.heap.get? I=some o:=fun o e=>by
    obtain⟨o',e',c,nd⟩:=Sr.iter.live _ _ st₂
    cases e.symm.trans e'
    exact(st₂₄.keep I o e (.inl c) (RC S₂.eok (yb:=(none,I)) hII) fun y hy=>(lab L₂' y I hy).2 rfl).nd nd
   exact⟨ds.length - (k+1),Nat.sub_lt_sub_left hlt (Nat.lt_succ_self k),k+1,σ₄,O₄,rfl,hlt,Sr.iter.frame _ _ _ st₂ fun b hb o e=>hb.elim (fun hb=>by subst hb; exact hI₄ o e) fun hb=>hu b hb o e,S₄,cJ.step Sr.kp hO₀ L₃ st₄,K₄,⟨fun b hb=>let⟨o',vs,n,e',r⟩:=sq₂.at_ b hb; ⟨o',vs,n,hu b hb o' e',r⟩⟩⟩
  cases f with
  | next=>exact next h₄
  | cont=>exact next h₄
  | brk=>exact h₄
  | ret v=>exact h₄
 ·cases Nat.le_antisymm hk hge
  refine Sr.iter.done s₀ _ _ st₀ S₀.inv fun s₂ I₂ kp₂=>?_
  have TI:=butI kp₂
  have E₂:aH Z nm env σ'.env (pZ O' O) s₂.heap:=S₀.eok.of_turned' (fun yb hy=>(fV.mp hy).1) hnd TI nofun (fun yb hy hx=>by
   exfalso
   obtain⟨h1,h2⟩:=fV.mp hy
   obtain⟨y,b⟩:=yb
   rcases h2 with h2 | h2
   ·cases y with
    | none=>cases h2
    | some y=>exact(lab T₀ y b h1).2 hx
   ·obtain⟨o,e,_⟩:=S.eok.live _ h2
    rw[show(y,b).2=I from hx,Sr.fresh]at e; cases e) fun b hb=>hb▸hII
  exact fin σ' O' s₀ s₂ K₀ ⟨I₂,E₂,fun y hy=>let⟨n,b,g1,g2,g3⟩:=S₀.own y hy; ⟨n,b,g1,TI.acc n _ nofun g2,fV.mpr ⟨g3,.inl rfl⟩⟩,fun y b hy=>S₀.high y b (fV.mp hy).1⟩ (cJ.exit Sr.kp hO₀ hON T₀ Sr.fresh kp₂)
theorem UY{fuel:Nat}{tn:Str}{tp pos:Pos}{iter:Expr}{body:List Stmt}{x:Nat}{i:PI}{ps:kX}(hnd:nm.Nodup)(hx:nm[x]? = some tn)(hl:jZ sc tn=true)(hset:gW iter=false)(hi:SI Z cl lvl nm sc iter i)(hb:SX Z cl lvl nm sc fuel body ps) :
  DR Z cl lvl nm sc fuel (.For (.Name tn tp) iter body [] pos) (.for_ (.one x) i ps):=fun{A env σ O s fl R E}X hd hR=>aV hd fun ds hds hd=>by
 let bindP:PyData→eH→Option eH:=fun d τ=>(gJ (.one x) d τ.env).map fun ρ=>{ env:=ρ,own:=lose τ.own (bT (.one x)) }
 refine FJ (fun k σ' _ _=>eQ (c8 cl fuel ps) bindP (ds.drop k) σ'=some fl) X hnd hx hl hset hi hds (fun _ _ _ _=>hd) (fun k σ' O' s₀ s₂ I h _ _ _ _ _=>h) (fun k d σ' O' s₂ s₃ hdk _ hk X₃ _ _ out rsv=>?_) fun σ' O' s₀ s' hk S' st=>?_
 ·obtain⟨hlt,e⟩:=List.getElem?_eq_some_iff.mp hdk
  rw[List.drop_eq_getElem_cons hlt,e]at hk
  refine aV (o:=c8 cl fuel ps ⟨σ'.env.set x (some d),lose σ'.own [x]⟩) hk fun f hbody hk=>hb X₃ hbody ?_
  cases f with
  | next σ₄=>exact fun s₄ O₄ S₄ st₄=>⟨σ₄,O₄,hk,S₄,st₄⟩
  | ret v=>cases hk; exact fun w as s₄ O₄ I₄ r₄ ok₄ hr₄ st₄=>hR w as s₄ (pZ O₄ O) I₄ r₄ ok₄ (fun a ha=>hr₄ a (rsv a ha)) (out _ _ st₄)
 ·rw[List.drop_length]at hk
  cases hk
  exact hR s' _ S' st
end
theorem yW(t value:Expr)(pos:Pos)(env:Env)(hs:swapsWith value (some t) pos.line env=pure false):exec (.Assign [t] value pos) env=(do
  standAt pos
  let v ← eval value env
  assignStores env v (← swappedStores [t] value env) ((assignEach [t] env).map (·.2))):=by
 have e:exec (.Assign [t] value pos) env=(do
  standAt pos
  if ← swapsWith value (some t) pos.line env then do
   evalThenUse value env fun v=>assignAll v ((assignEach [t] env).map (·.2))
   pure .next
  else do
   let v ← eval value env
   assignStores env v (← swappedStores [t] value env) ((assignEach [t] env).map (·.2))):=rfl
 rw[e,hs]; rfl
theorem A1(n m:Str)(p1 p2:Pos)(k:Nat)(tp:Pos)(ea eb:Expr)(k':Nat)(vp:Pos)(env:Env)(hcon:(!([ea,eb].all (foldedForSure 8))&&[ea,eb].all (constantsAlone 8))=false) :
  ∃ r,swappedStores [.Tuple [.Name n p1,.Name m p2] k tp] (.Tuple [ea,eb] k' vp) env=pure r∧(r=none∨r=some [n,m]):=by
 have key:∀(c1 c2:Bool)(names:List Str),(names.length=2→names=[n,m]) →
   ∃ r,(if c1=true then(pure none:Sem (Option (List Str)))else if c2=true then pure none else if(names.length != 2||names.eraseDups.length != names.length)=true then pure none else
    if([ea,eb].all (foldedForSure 8))=true then pure none else if([ea,eb].all (constantsAlone 8))=true then unsupported "assign.tuple-of-constant-expressions:order-of-the-stores" else pure (some names))=pure r∧(r=none∨r=some [n,m]):=fun c1 c2 names hn=>by
  by_cases h1:c1=true
  ·exact⟨none,if_pos h1,.inl rfl⟩
  by_cases h2:c2=true
  ·exact⟨none,by rw[if_neg h1,if_pos h2],.inl rfl⟩
  by_cases h3:(names.length != 2||names.eraseDups.length != names.length)=true
  ·exact⟨none,by rw[if_neg h1,if_neg h2,if_pos h3],.inl rfl⟩
  by_cases h4:([ea,eb].all (foldedForSure 8))=true
  ·exact⟨none,by rw[if_neg h1,if_neg h2,if_neg h3,if_pos h4],.inl rfl⟩
  by_cases h5:([ea,eb].all (constantsAlone 8))=true
  ·rw[h5,Bool.eq_false_iff.mpr h4]at hcon; cases hcon
  refine⟨some names,by rw[if_neg h1,if_neg h2,if_neg h3,if_neg h4,if_neg h5],.inr (congrArg some (hn ?_))⟩
  cases hl:names.length != 2
  ·exact bne_eq_false_iff_eq.mp hl
  ·rw[hl]at h3; exact absurd rfl h3
 refine key _ _ _ fun h5=>?_
 revert h5
 show(List.filterMap _ [Expr.Name n p1,Expr.Name m p2]).length=2→List.filterMap _ [Expr.Name n p1,Expr.Name m p2]=[n,m]
 rw[List.filterMap_cons,List.filterMap_cons,List.filterMap_nil]
 dsimp only
 generalize (env.kindOf n==some .local&&_)=c
 generalize (env.kindOf m==some .local&&_)=d
 cases c <;> cases d <;> first | exact fun _=>rfl | exact fun h=>nomatch h
def Ep(M:Model)(A:Around)(E:Value→Shared→Prop)(env:Env)(n m:Str)(R:Flow→Shared→Prop)(v1 v2:Value)(s:Shared):Prop:=∀ h':Heap,(∀ c o,s.heap.get? c=some o→h'.get? c=some o) →
 wpAny M A (storeName env n v1) (fun _ s₄=>wpAny M A (storeName env m v2) (fun _ s₅=>R .next s₅) E s₄) E { s with heap:=h' } ∧
 wpAny M A (storeName env m v2) (fun _ s₄=>wpAny M A (storeName env n v1) (fun _ s₅=>R .next s₅) E s₄) E { s with heap:=h' }
theorem qF{prog:Program}{W:World}{A:Around}{E:Value→Shared→Prop}{env:Env}{R:Flow→Shared→Prop}{n m:Str}{p1 p2 tp vp pos:Pos}{k k':Nat}{ea eb:Expr}{s:Shared}(hA:A.handled=none)
  (hsa:aC ea=false) (hsb:aC eb=false) (hcon:(!([ea,eb].all (foldedForSure 8))&&[ea,eb].all (constantsAlone 8))=false)
  (h:wpAny (model prog W) A (eval ea env) (fun v1 s₁=>wpAny (model prog W) A (eval eb env) (fun v2 s₂=>Ep (model prog W) A E env n m R v1 v2 s₂) E s₁) E s) :
  wpAny (model prog W) A (exec (.Assign [.Tuple [.Name n p1,.Name m p2] k tp] (.Tuple [ea,eb] k' vp) pos) env) R E s:=by
 rw[yW _ _ _ _ rfl]
 refine wpAny_bind (wpAny_standAt (wpAny_bind ?_))
 rw[arm_eval_Tuple,bC hsa,bC hsb]
 refine wpAny_bind (wpAny_standAt (wpAny_bind (Calls.spliced_cons (wpAny_mono h (fun v1 s₁ h=>Calls.spliced_cons (wpAny_mono h (fun v2 s₂ go=>Calls.spliced_nil (wpAny_newObj_type ?_ (Nat.le_of_ble_eq_true rfl))) fun _ _ e=>e)) fun _ _ e=>e))))
 have htup:(s₂.heap.push { cls:=.type "tuple",data:=.seq [v1,v2].toArray }).IsTuple s₂.heap.objs.size #[v1,v2]:=⟨_,Heap.get?_push_size _ rfl,rfl,_,rfl⟩
 have keep:∀{h':Heap},Heap.ExtBut (s₂.heap.push { cls:=.type "tuple",data:=.seq [v1,v2].toArray }).objs.size (s₂.heap.push { cls:=.type "tuple",data:=.seq [v1,v2].toArray }) h'→∀ c o,s₂.heap.get? c=some o→h'.get? c=some o:=fun he c o e=>let e:=Heap.get?_push_of_some _ e; he c o (fun e'=>Nat.lt_irrefl _ (e'▸Heap.lt_size e)) e
 obtain⟨r,hsw,hr⟩:=A1 n m p1 p2 k tp ea eb k' vp env hcon
 rw[hsw]
 refine wpAny_bind (wpAny_pure ?_)
 rcases hr with rfl | rfl
 ·show wpAny _ A (do assignAll (.ref s₂.heap.objs.size) [assign (.Tuple [.Name n p1,.Name m p2] k tp) env]; pure .next) R E _
  refine wpAny_bind ?_
  show wpAny _ A (assign (.Tuple [.Name n p1,.Name m p2] k tp) env (.ref s₂.heap.objs.size)) _ E _
  rw[arm_assign_Tuple]
  refine wpAny_bind (wpAny_standAt (wpAny_unpack_tuple hA htup rfl rfl fun h' he=>?_))
  exact wpAny_assignInOrder_more (wpAny_assign_Name (wpAny_mono (go h' (keep he)).1 (fun _ s₄ h4=>wpAny_assignInOrder_more (wpAny_assign_Name (wpAny_mono h4 (fun _ s₅ h5=>wpAny_assignInOrder_none (wpAny_pure h5)) fun _ _ e=>e))) fun _ _ e=>e))
 ·show wpAny _ A (do
    rule "assign.swapped-stores"
    let items ← unpackItems (.ref s₂.heap.objs.size) (#[v1,v2]:Array Value).size none
    assignInOrder ([n,m].reverse.map fun n=>bindName env n) items.reverse
    pure .next) R E _
  refine wpAny_bind (wpAny_rule (wpAny_bind (wpAny_unpackItems_tuple hA htup (Q:=fun items s'=>wpAny (model prog W) A (assignInOrder ([n,m].reverse.map fun n=>bindName env n) items.reverse >>= fun _=>pure Flow.next) R E s') fun h' he=>wpAny_bind ?_)))
  show wpAny _ A (assignInOrder [bindName env m,bindName env n] [v2,v1]) _ E _
  exact wpAny_assignInOrder_more (wpAny_bindName (wpAny_mono (go h' (keep he)).2 (fun _ s₄ h4=>wpAny_assignInOrder_more (wpAny_bindName (wpAny_mono h4 (fun _ s₅ h5=>wpAny_assignInOrder_none (wpAny_pure h5)) fun _ _ e=>e))) fun _ _ e=>e))
section
variable{Z:aE}{cl:Nat→List PyData→Option PyData}{lvl:Nat}{nm:List Str}{fn:List Str}{sc:Scope}
theorem PV{fuel:Nat}{x y:Nat}{n m:Str}{p1 p2 tp vp lp pos:Pos}{k k':Nat}{eb:Expr}{d2:PyData}(hnd:nm.Nodup)(hxy:x≠y)(hx:nm[x]? = some n)(hy:nm[y]? = some m)(hk1:jZ sc n=true)
  (hk2:jZ sc m=true) (hsb:aC eb=false) (hcon:(!([.List [] lp,eb].all (foldedForSure 8))&&[.List [] lp,eb].all (constantsAlone 8))=false) (hb:SE Z cl lvl nm sc eb (.lit d2)) :
  DR Z cl lvl nm sc fuel (.Assign [.Tuple [.Name n p1,.Name m p2] k tp] (.Tuple [.List [] lp,eb] k' vp) pos) (.nil2 x y d2):=fun{A env σ O s fl R E}X hd hR=>y9 hd fun hfl e=>by
 subst e
 have S:=X.S
 refine qF X.ha.handled rfl hsb hcon ?_
 rw[arm_eval_List]
 refine wpAny_bind (wpAny_standAt (wpAny_bind (xQ (cl:=cl) X.cx rfl fun vs as s₁ I₁ k₁ r₁ ok₁ o₁=>?_)))
 cases r₁
 have hsz:Z.n≤s₁.heap.objs.size:=(S.eok.kp k₁).size
 refine wpAny_newList ?_ (by decide)
 have kp₁:=k₁.trans (Kp.push Z.n s₁.heap { cls:=.type "list",data:=.seq (List.toArray ([]:List Value)) })
 refine hb (X.cx.kp kp₁ (I₁.push _ _)) rfl fun v2 as2 s₂ I₂ k₂ r₂ ok₂ o₂ h' hk'=>?_
 cases xR r₂ hfl
 have kf:Kp Z.n s₂.heap h':=Kp.of hk'
 have hl:Sl h' s₁.heap.objs.size { cls:=.type "list",data:=.seq (List.toArray ([]:List Value)) }:=(k₂.trans kf).k _ _ (Heap.get?_push_size _ rfl) (.inl nofun)
 obtain⟨S₁,st⟩:=E8 (x:=x) (es:=[]) S (I₂.full (h':=h') (tk:=s₂.toks) hk') (kp₁.trans (k₂.trans kf)) ⟨_,hl.seq rfl,nofun⟩ (k₁.none hsz (get?_ge (Nat.le_refl _))) hsz
 have rl:Rd h' (.ref s₁.heap.objs.size) (.list []) [s₁.heap.objs.size]:=.list (hl.seq rfl) ⟨rfl,rfl⟩ rfl .nil
 have ho:∀ yb∈(some x,s₁.heap.objs.size)::cC O [x],yb.2∈[s₁.heap.objs.size]→yb.1=some x∧[s₁.heap.objs.size].head? = some yb.2:=fun yb hy hm=>(List.mem_cons.mp hy).elim (fun e=>by rw[e]; exact⟨rfl,rfl⟩) fun hy=>by
  obtain⟨o,e,_⟩:=S.eok.live yb (bS.mp hy).1
  rw[List.mem_singleton.mp hm,k₁.none hsz (get?_ge (Nat.le_refl _))]at e
  cases e
 have own2:∀ z∈(x::(lose σ.own []).filter (· != x)).filter (· != y),z≠y∧z∈x::(lose σ.own []).filter (· != x):=fun z hz=>⟨bne_iff_ne.mp (List.mem_filter.mp hz).2,(List.mem_filter.mp hz).1⟩
 have fin:∀ s',g9 Z nm env ⟨(σ.env.set x (some (.list []))).set y (some d2),(x::(lose σ.own []).filter (· != x)).filter (· != y)⟩ ((some x,s₁.heap.objs.size)::cC O [x]) s'→bE Z env O ((some x,s₁.heap.objs.size)::cC O [x]) s.heap s'.heap→R .next s':=fun s' S' st=>by
  exact hR s' _ S' st
 refine⟨XI S₁ hnd hx (X.kind hk1) rl rfl ho (own':=x::(lose σ.own []).filter (· != x)) (fun z hz=>(List.mem_cons.mp hz).elim (fun e=>.inr ⟨e,_,rfl,.head _⟩) fun hz=>.inl ⟨bne_iff_ne.mp (List.mem_filter.mp hz).2,hz⟩) fun s₃ S₃ st₃ T₃ =>
   XI S₃ hnd hy (X.kind hk2) (T₃.rd S₁.eok (kf.rd r₂) nofun) ok₂ nofun (own':=(x::(lose σ.own []).filter (· != x)).filter (· != y)) (fun z hz=>.inl (own2 z hz)) fun s₄ S₄ st₄ _=>fin s₄ S₄ ((st.trans st₃).trans st₄),
  XI S₁ hnd hy (X.kind hk2) (kf.rd r₂) ok₂ nofun (own':=((lose σ.own []).filter (· != x)).filter (· != y)) (fun z hz=>.inl ⟨bne_iff_ne.mp (List.mem_filter.mp hz).2,(List.mem_filter.mp hz).1⟩) fun s₃ S₃ st₃ T₃ =>
   XI S₃ hnd hx (X.kind hk1) (T₃.rd S₁.eok rl fun _ _=>id) rfl ho (own':=(x::(lose σ.own []).filter (· != x)).filter (· != y)) (fun z hz=>(List.mem_cons.mp (own2 z hz).2).elim (fun e=>.inr ⟨e,_,rfl,.head _⟩) fun h=>.inl ⟨bne_iff_ne.mp (List.mem_filter.mp h).2,List.mem_filter.mpr ⟨h,bne_iff_ne.mpr (own2 z hz).1⟩⟩) fun s₄ S₄ st₄ _=>fin s₄ (List.set_comm _ _ (Ne.symm hxy)▸S₄) ((st.trans st₃).trans st₄)⟩
end
section
variable(fn:List Str)(nm:List Str)
mutual
noncomputable def I8(sc:Scope):PS→Stmt→Bool
 | .assign x e,st=>cG st fun ts v _=>fJ ts fun t=>aW t fun n _=>nm[x]? == some n&&(jZ sc n&&((!f7 v||u7 e)&&cO fn nm sc e v))
 | .nil2 x y d,st=>cG st fun ts v _=>fJ ts fun t=>gL t fun ns _ _=>hM ns fun t1 r=>fJ r fun t2=>aW t1 fun n _=>aW t2 fun m _=>gL v fun es _ _=>hM es fun ea r=>fJ r fun eb=>oZ ea fun xs q=>xs.isEmpty &&
   (x != y&&(nm[x]? == some n&&(nm[y]? == some m&&(jZ sc n&&(jZ sc m&&(!aC eb&&(!(!([.List [] q,eb].all (foldedForSure 8))&&[.List [] q,eb].all (constantsAlone 8))&&bF eb fun c _ _=>I3 d==some c)))))))
 | .aug x op e,st=>c6 st fun t o v _=>o==op&&aW t fun n _=>nm[x]? == some n&&(jZ sc n&&(n != ("__classdict__" : Str)&&cO fn nm sc e v))
 | .app x e,st=>iA st fun c _=>cQ c fun f as ks cpos=>ks.isEmpty&&bI f fun o an apos=>an==("append" : Str)&&aW o fun n _=>fJ as fun v=>nm[x]? == some n&&(jZ sc n&&(n != ("__debug__" : Str)&&(n != ("__classdict__" : Str)&&(apos.endLine==cpos.line&&(!aC v&&cO fn nm sc e v)))))
 | .ife c a b,st=>oY st fun t b1 b2 _=>cO fn nm sc c t&&(m6 sc a b1&&m6 sc b b2)
 | .for_ (.one x) i b,st=>nD st fun t iter body els _=>els.isEmpty&&aW t fun n _=>nm[x]? == some n&&(jZ sc n&&(!gW iter&&(PD fn nm sc i iter&&m6 sc b body)))
 | .while_ c b,st=>iI st fun t body els _=>els.isEmpty&&(cO fn nm sc c t&&m6 sc b body)
 | .ret e,st=>eD st fun o _=>gT o fun v=>cO fn nm sc e v
noncomputable def m6(sc:Scope):kX→List Stmt→Bool
 | .nil,ss=>ss.isEmpty
 | .cons p ps,ss=>hM ss fun st r=>I8 sc p st&&m6 sc ps r
end
end
section
variable{Z:aE}{cl:Nat→List PyData→Option PyData}{lvl:Nat}{nm:List Str}{fn:List Str}
theorem GV(hB:fC Z)(hC:eC Z lvl fn cl){fuel:Nat}{x:Nat}{n:Str}{np pos:Pos}{value:Expr}{p:PE}{sc:Scope}(hnd:nm.Nodup)(hx:nm[x]? = some n)(hk:jZ sc n=true)(hc:(!f7 value||u7 p)=true)(h:cO fn nm sc p value=true) :
  DR Z cl lvl nm sc fuel (.Assign [.Name n np] value pos) (.assign x p):=by
 cases hn:u7 p with
 | false=>exact uP hnd hx hk hn (bH (by rwa[hn,Bool.or_false]at hc)) (bB hB hC p sc _ h).1
 | true =>
  cases p with
  | list es =>
   apply q7 h; intro xs q h
   exact uA hnd hx hk (of_decide_eq_true (aA h).1) (k9 hB hC es sc _ (aA h).2)
  | comp elt t i c g=>exact R2 (m:=fun e=>DR Z cl lvl nm sc fuel (.Assign [.Name _ _] e _) _) hB hC h fun C=>uB hnd hx hk C
  | _=>cases hn
mutual
theorem w5(hB:fC Z)(hC:eC Z lvl fn cl)(hnd:nm.Nodup)(fuel:Nat):∀(p:PS)(sc:Scope)(st:Stmt),I8 fn nm sc p st=true→DR Z cl lvl nm sc fuel st p
 | .assign x e,sc,st,h=>by
  apply dM h; intro ts v p h
  apply cB h; intro t h
  apply aO h; intro n q h
  refine aB h fun h1 h=>aB h fun h2 h=>aB h fun h3 h4=>?_
  exact GV hB hC hnd (eq_of_beq h1) h2 h3 h4
 | .nil2 x y d,sc,st,h=>by
  apply dM h; intro ts v p h
  apply cB h; intro t h
  apply kH h; intro ns k q h
  apply cW h; intro t1 r h
  apply cB h; intro t2 h
  apply aO h; intro n q1 h
  apply aO h; intro m q2 h
  apply kH h; intro es k' q3 h
  apply cW h; intro ea r h
  apply cB h; intro eb h
  apply q7 h; intro xs lp h
  refine aB h fun z h=>?_; apply dE z; apply dE z
  refine aB h fun h1 h=>aB h fun h2 h=>aB h fun h3 h=>aB h fun h4 h=>aB h fun h5 h=>aB h fun h6 h=>aB h fun h7 h=>?_
  exact PV hnd (bne_iff_ne.mp h1) (eq_of_beq h2) (eq_of_beq h3) h4 h5 (bH h6) (bH h7) (bB hB hC (.lit d) sc _ h).1
 | .aug x op e,sc,st,h=>by
  apply gF h; intro t o v p h
  refine aB h fun z h=>?_; apply bZ z
  apply aO h; intro n q h
  refine aB h fun h1 h=>aB h fun h2 h=>aB h fun h3 h=>?_
  exact UZ hnd (eq_of_beq h1) h2 (bne_iff_ne.mp h3) (bB hB hC e sc _ h).1
 | .app x e,sc,st,h=>by
  apply pK h; intro c p h
  apply cS h; intro f as ks cpos h
  refine aB h fun z h=>?_; apply dE z
  apply bW h; intro o an apos h
  refine aB h fun z h=>?_; apply bZ z
  apply aO h; intro n q h
  apply cB h; intro v h
  refine aB h fun h1 h=>aB h fun h2 h=>aB h fun h3 h=>aB h fun h4 h=>aB h fun h5 h=>aB h fun h6 h=>?_
  exact U0 hnd (eq_of_beq h1) h2 (bne_iff_ne.mp h3) (bne_iff_ne.mp h4) h5 (bH h6) (bB hB hC e sc _ h).1
 | .ife c a b,sc,st,h=>by
  apply xV h; intro t b1 b2 p h
  refine aB h fun h1 h=>?_
  exact YV (bB hB hC c sc _ h1).2 (k8 hB hC hnd fuel a sc _ (aA h).1) (k8 hB hC hnd fuel b sc _ (aA h).2)
 | .for_ (.one x) i b,sc,st,h=>by
  apply AC h; intro t iter body els p h
  refine aB h fun z h=>?_; apply dE z
  apply aO h; intro n q h
  refine aB h fun h1 h=>aB h fun h2 h=>aB h fun h3 h=>?_
  exact UY hnd (eq_of_beq h1) h2 (bH h3) (w6 hB hC i sc _ (aA h).1) (k8 hB hC hnd fuel b sc _ (aA h).2)
 | .while_ c b,sc,st,h=>by
  apply tV h; intro t body els p h
  refine aB h fun z h=>?_; apply dE z
  exact MB (bB hB hC c sc _ (aA h).1).2 (k8 hB hC hnd fuel b sc _ (aA h).2)
 | .ret e,sc,st,h=>by
  apply gP h; intro o p h
  apply rJ h; intro v h
  exact UW (bB hB hC e sc _ h).1
theorem k8(hB:fC Z)(hC:eC Z lvl fn cl)(hnd:nm.Nodup)(fuel:Nat):∀(p:kX)(sc:Scope)(ss:List Stmt),m6 fn nm sc p ss=true→SX Z cl lvl nm sc fuel ss p
 | .nil,sc,ss,h=>by apply dE h; exact UX
 | .cons p ps,sc,ss,h=>by
  apply cW h; intro st r h
  exact PW (w5 hB hC hnd fuel p sc st (aA h).1) (k8 hB hC hnd fuel ps sc r (aA h).2)
end
end
structure wW(Z:aE)(n:Str)(a:Addr)(o:Obj)(fd:FuncData)(body:List Stmt)(nm:List Str)(arity:Nat):Prop where
 name:Z.mg n=some (.ref a)
 obj:Z.h₀.get? a=some o
 cls:o.cls ≠ .none
 data:o.data = .func fd
 body:fd.body = .stmts body
 clo:fd.closure=[]
 kind:fd.scope.kind = .function
 co:fd.scope.isCoroutine=false
 gen:fd.scope.isGenerator=false
 glob:fd.globals=mainGlobals
 blt:fd.builtins=builtinsNs
 code:∃ c oc vs t,fd.code = .ref c∧Z.h₀.get? c=some oc∧oc.cls ≠ .none∧oc.data = .fields vs∧vs[1]? = some (.str fd.qualname t)
 bind:∀ vals:List Value,vals.length=arity→bindArgs fd ⟨vals,[]⟩=pure ((nm.take arity).zip vals)
 len:arity≤nm.length
 nd:nm.Nodup
 snd:(fd.scope.names.map (·.1)).Nodup
 nofree:∀ p∈fd.scope.names,p.2 ≠ .free
 params:∀ n∈nm.take arity,fd.scope.names.lookup n=some .local∨fd.scope.names.lookup n=some .cell
theorem tL{kindOf:Str→Option NameKind}:∀(binds:List (Str×Value))(m:Str→Option Value)(n:Str),(binds.map (·.1)).Nodup →
  bindL kindOf binds m n=if kindOf n=some .local then(match binds.lookup n with | some v=>some v | none=>m n)else m n
 | [],m,n,_=>by unfold bindL; split <;> rfl
 | (k,v)::r,m,n,hnd=>by
  rw[List.map_cons,List.nodup_cons]at hnd
  unfold bindL
  rw[tL r _ n hnd.2]
  by_cases e:n=k
  ·subst e
   rw[CA hnd.1,jO]
   by_cases hl:kindOf n=some .local
   ·rw[if_pos hl,if_pos hl,if_pos hl]; exact if_pos rfl
   ·rw[if_neg hl,if_neg hl,if_neg hl]
  ·rw[j9 e]
   have:(if kindOf k=some .local then(fun x=>if x=k then some v else m x)else m) n=m n:=by
    by_cases hl:kindOf k=some .local
    ·rw[if_pos hl]; exact if_neg e
    ·rw[if_neg hl]
   rw[this]
theorem AY{kindOf:Str→Option NameKind}:∀(binds:List (Str×Value))(m:Str→Option Value)(n:Str),(binds.map (·.1)).Nodup →
  bindC kindOf binds m n=if kindOf n=some .local then m n else(match binds.lookup n with | some v=>some v | none=>m n)
 | [],m,n,_=>by unfold bindC; split <;> rfl
 | (k,v)::r,m,n,hnd=>by
  rw[List.map_cons,List.nodup_cons]at hnd
  unfold bindC
  rw[AY r _ n hnd.2]
  by_cases e:n=k
  ·subst e
   rw[CA hnd.1,jO]
   by_cases hl:kindOf n=some .local
   ·rw[if_pos hl,if_pos hl,if_pos hl]
   ·rw[if_neg hl,if_neg hl,if_neg hl]; exact if_pos rfl
  ·rw[j9 e]
   have:(if kindOf k=some .local then m else(fun x=>if x=k then some v else m x)) n=m n:=by
    by_cases hl:kindOf k=some .local
    ·rw[if_pos hl]
    ·rw[if_neg hl]; exact if_neg e
   rw[this]
theorem mO:∀(ns:List Str)(vs:List Value)(i:Nat)(n:Str),ns.Nodup→ns[i]? = some n→(ns.zip vs).lookup n=vs[i]?
 | m::ns,[],i,n,_,_=>rfl
 | m::ns,v::vs,0,n,_,h=>by cases h; exact jO
 | m::ns,v::vs,i+1,n,hnd,h=>by
  rw[List.nodup_cons]at hnd
  rw[List.zip_cons_cons,j9 (show n≠m from fun e=>hnd.1 (e▸List.mem_of_getElem? h))]
  exact mO ns vs i n hnd.2 h
noncomputable abbrev aE.at(Z:aE)(fr:List Addr):aE:={ Z with fr:=fr }
section
variable{Z:aE}{cl:Nat→List PyData→Option PyData}{lvl:Nat}{fn:List Str}
theorem DH{n:Nat}{args:List PyData}{x:Nat}{d:PyData}(h:aY (d7 n args) x=some d):args[x]? = some d:=by
 unfold aY d7 at h
 rw[List.getElem?_append]at h
 by_cases hx:x<(args.map some).length
 ·rw[if_pos hx,List.getElem?_map]at h
  cases e:args[x]? with
  | none=>rw[e]at h; cases h
  | some q=>rw[e]at h; exact h
 ·rw[if_neg hx,List.getElem?_replicate]at h
  by_cases hy:x - (args.map some).length<n - args.length
  ·rw[if_pos hy]at h; cases h
  ·rw[if_neg hy]at h; cases h
noncomputable def oX(h:Heap)(as:List Addr):List (Option Nat×Addr) :=
 ((List.range h.objs.size).filter fun a=>decide (a∉as∧∃ o,h.get? a=some o∧o.cls ≠ .none)).map fun a=>(none,a)
theorem gE{h:Heap}{as:List Addr}{yb:Option Nat×Addr}:yb∈oX h as↔yb.1=none∧yb.2∉as∧∃ o,h.get? yb.2=some o∧o.cls ≠ .none:=by
 unfold oX
 rw[List.mem_map]
 constructor
 ·rintro⟨a,h1,rfl⟩
  exact⟨rfl,of_decide_eq_true (List.mem_filter.mp h1).2⟩
 ·obtain⟨y,b⟩:=yb
  rintro⟨rfl,h1,o,e,h2⟩
  exact⟨b,List.mem_filter.mpr ⟨List.mem_range.mpr (Heap.lt_size e),decide_eq_true ⟨h1,o,e,h2⟩⟩,rfl⟩
theorem t9{n:Str}{a:Addr}{o:Obj}{fd:FuncData}{body:List Stmt}{nm:List Str}{arity size:Nat}(F:wW Z n a o fd body nm arity){args:List PyData}{d:PyData}(hlen:args.length=arity)
  {A:Around} {s:Shared} {vs:List Value} {as:List Addr} {Q:Value→Shared→Prop} {E:Value→Shared→Prop} (hA:fG Z (lvl+1) A) (hI:aZ Z s) (hsz:Z.n≤s.heap.objs.size) (r:aU s.heap vs args as) (hok:cD args=true)
  (hQ:∀ v bs s',aZ Z s'→Kp Z.n s.heap s'.heap→Rd s'.heap v d bs→bL d=true→(∀ a∈bs,a∈as∨∀ o,s.heap.get? a=some o→o.cls = .none)→Q v s')
  (hbody:∀(env:Env)(s₁:Shared)(R:Flow→Shared→Prop)(E':Value→Shared→Prop)(O:List (Option Nat×Addr)),env=callEnvC fd s.heap.objs.size a→Sx (Z.at (s.heap.objs.size::Z.fr)) lvl nm fd.scope (A.deeper env) env ⟨d7 size args,[]⟩ O s₁→Kp Z.n s.heap s₁.heap →
   (∀ v bs s' O',aZ (Z.at (s.heap.objs.size::Z.fr)) s'→Rd s'.heap v d bs→bL d=true→(∀ a,(none,a)∈O→a∉bs)→bE (Z.at (s.heap.objs.size::Z.fr)) env O O' s₁.heap s'.heap→R (.ret v) s'∧(bs=[]→d = .none→R .next s')) →
   wpAny (model Z.prog Z.w) (A.deeper env) (execs body env) R E' s₁):wpAny (model Z.prog Z.w) A (call (.ref a) vs) Q E s:=by
 have hvl:=aT r
 obtain⟨c,oc,cvs,ct,hc1,hc2,hc3,hc4,hc5⟩:=F.code
 have hcellsL:=fun m hm=>((tJ m fd.scope.names (s.heap.objs.size+1) [] F.snd).1 hm).2
 have hbn:(((nm.take arity).zip vs).map (·.1))=nm.take arity:=List.map_fst_zip (by rw[List.length_take,hvl,hlen]; exact Nat.min_le_left _ _)
 have htnd:(nm.take arity).Nodup:=F.nd.sublist (List.take_sublist _ _)
 refine wpAny_call (codeAny_call_cells (R:=wants Q E) hA.dp.2.2 (hI.old.get_of_cls F.obj F.cls) F.data hI.lim ⟨c,oc,cvs,ct,hc1,hI.old.get_of_cls hc2 hc3,hc4,hc5⟩ F.body (F.bind vs (hvl.trans hlen)) F.clo (fun p hp=>?_) (fun s₁ X=>?_) F.co F.gen F.kind)
 ·refine(F.params p.1 (hbn▸List.mem_map_of_mem hp)).imp id fun h=>?_
  obtain⟨c,h1,_⟩:=hcellsL _ h
  exact⟨h,by rw[h1]; rfl⟩
 ·generalize henv:callEnvC fd s.heap.objs.size a=env at X ⊢
  have hkof:∀ m,env.kindOf m=fd.scope.names.lookup m:=fun m=>henv▸rfl
  have hcl:env.cells=cellsFrom (s.heap.objs.size+1) fd.scope.names []:=henv▸rfl
  have hloc:env.locals=s.heap.objs.size:=henv▸rfl
  have hnofree:∀ m,env.kindOf m≠some .free:=fun m h=>F.nofree _ (f6 ((hkof m).symm.trans h)) rfl
  have hcell:∀ m,cf env m→fd.scope.names.lookup m=some .cell:=fun m h=>(hkof m).symm.trans (h.resolve_right (hnofree m))
  have hkeep:=X.toInCall.keep
  have hI₀:aZ Z s₁:=by
   obtain⟨h',tk,rfl⟩:=X.toInCall.same
   exact hI.full hkeep
  have hns:=X.toInCall.ns
  have hcell1:=X.cell
  have habove:=X.above
  have hapart:=X.apart
  have hI₁:aZ (Z.at (s.heap.objs.size::Z.fr)) s₁:=⟨hI₀.old,hI₀.lim,hI₀.tab,hI₀.gens,hI₀.os,fun L hL=>(List.mem_cons.mp hL).elim (fun e=>by
   obtain⟨o,es,ep,e',hdd,_⟩:=hns
   exact⟨e▸hsz,o,by rw[e,← hloc]; exact e',es,ep,hdd⟩) (hI₀.frs L)⟩
  have hback:∀{t:Shared},aZ (Z.at (s.heap.objs.size::Z.fr)) t→aZ Z t:=fun I=>⟨I.old,I.lim,I.tab,I.gens,I.os,fun L hL=>I.frs L (List.mem_cons_of_mem _ hL)⟩
  have oldLt:∀{b o},s.heap.get? b=some o→b≠env.locals∧∀ m c,env.cells.lookup m=some c→b≠c:=fun{b o}e=>⟨fun e'=>Nat.lt_irrefl _ (show s.heap.objs.size<s.heap.objs.size from(e'.trans hloc)▸Heap.lt_size e),fun m c hc e'=>by
   have:=habove m c (f6 hc)
   exact absurd (Heap.lt_size e) (by rw[e']; exact Nat.not_lt.mpr (Nat.le_of_lt (hloc▸this)))⟩
  have hE:aH (Z.at (s.heap.objs.size::Z.fr)) nm env (d7 size args) (oX s.heap as) s₁.heap:={
   kind:=henv▸F.kind
   glob:=henv▸F.glob
   blt:=henv▸F.blt
   new:=hloc▸hsz
   ns:=⟨_,hns⟩
   live:=fun yb hy=>let⟨_,_,o,e,h⟩:=gE.mp hy; ⟨o,hkeep _ _ e,h⟩
   apart:=fun yb hy=>let⟨_,_,o,e,_⟩:=gE.mp hy; ⟨(oldLt e).1,fun m c _ hc=>(oldLt e).2 m c hc⟩
   cells:=fun m hm=>let⟨c,h1,h2⟩:=hcellsL m (hcell m hm); ⟨c,_,hcl▸h1,Nat.le_trans hsz (Nat.le_of_succ_le h2),hcell1 m c (hcl▸h1)⟩
   inj:=fun m m' c _ _ cm cm'=>name_of_addr hapart (f6 cm) (f6 cm')
   vars:=fun x q m h1 h2 h3=>by
    have hax:=DH h1
    obtain⟨v,bs,hv,rv,hbs⟩:=iF r hax
    have hxl:x<arity:=hlen▸(List.getElem?_eq_some_iff.mp hax).1
    have hxm:(nm.take arity)[x]? = some m:=by rw[List.getElem?_take,if_pos hxl]; exact h2
    have hlk:((nm.take arity).zip vs).lookup m=some v:=(mO _ _ x m htnd hxm).trans hv
    refine⟨v,bs,?_,rv.map fun b o _ e _=>hkeep b o e,cZ.mp hok q (List.mem_of_getElem? hax),fun yb hy hm=>absurd (hbs _ hm) (gE.mp hy).2.1⟩
    rcases F.params m (List.mem_of_getElem? hxm)with hl | hl
    ·refine .inl ⟨(hkof m).trans hl,_,hns,?_⟩
     rw[tL _ _ _ (by rw[hbn]; exact htnd),if_pos ((hkof m).trans hl),hlk]
    ·obtain⟨c,h4,_⟩:=hcellsL m hl
     refine .inr ⟨.inl ((hkof m).trans hl),c,hcl▸h4,?_⟩
     have:=hcell1 m c (hcl▸h4)
     rwa[AY _ _ _ (by rw[hbn]; exact htnd),if_neg (show ¬env.kindOf m=some .local from fun e=>nomatch ((hkof m).symm.trans e).symm.trans hl),hlk]at this }
  have hA':fG (Z.at (s.heap.objs.size::Z.fr)) lvl (A.deeper env):=⟨hA.handled,hA.dp.1,hA.dp.2.1,by
   obtain⟨fs,h1,h2⟩:=hA.frames
   refine⟨env::fs,by show A.frames.map _=_; rw[h1]; rfl,fun e he=>(List.mem_cons.mp he).elim (fun e'=>?_) fun he=>let⟨g1,L,g2,g3⟩:=h2 e he; ⟨g1,L,g2,List.mem_cons_of_mem _ g3⟩⟩
   rw[e',← henv]
   exact⟨by show fd.scope.kind ≠ .module; rw[F.kind]; nofun,_,rfl,List.mem_cons_self⟩⟩
  have hSc:uO fd.scope env:=⟨fun m h=>(hkof m).trans h,fun m h=>by unfold cf at *; rw[hkof]; exact h,fun m h=>(hkof m).trans h⟩
  have noSome:∀{y b},(some y,b)∉oX s.heap as:=fun hy=>nomatch (gE.mp hy).1
  have kpOf:∀{O':List (Option Nat×Addr)}{h':Heap},bE (Z.at (s.heap.objs.size::Z.fr)) env (oX s.heap as) O' s₁.heap h'→Kp Z.n s.heap h':=fun st=>⟨fun b o e c=>st.keep b o (hkeep b o e) c (fun w=>w.elim (oldLt e).1 fun⟨m,_,hc⟩=>(oldLt e).2 m b hc rfl) fun y hy=>noSome hy⟩
  refine hbody env s₁ _ _ (oX s.heap as) henv.symm ⟨hA',hSc,fun m _=>hnofree m,hI₁,hE,(fun _ h=>absurd h List.not_mem_nil),fun y b hy=>absurd hy noSome⟩ (Kp.of hkeep) fun v bs s' O' I' r' ok' hr st=>?_
  have fin:Q v s':=hQ v bs s' (hback I') (kpOf st) r' ok' fun b hb=>by
   by_cases hba:b∈as
   ·exact .inl hba
   ·refine .inr fun o e=>?_
    by_cases hc:o.cls = .none
    ·exact hc
    ·exact absurd hb (hr b (gE.mpr ⟨rfl,hba,o,e,hc⟩))
  refine⟨fin,fun _ hd=>?_⟩
  subst hd
  cases r'
  exact fin
theorem R5(hB:fC Z)(hC:∀ fr,eC (Z.at fr) lvl fn cl){fuel:Nat}{n:Str}{a:Addr}{o:Obj}{fd:FuncData}{body:List Stmt}{nm:List Str}{pf:PF}(F:wW Z n a o fd body nm pf.arity)(hck:m6 fn nm fd.scope pf.body body=true){args:List PyData}{d:PyData}(hlen:args.length=pf.arity)
  (hd:(match c8 cl fuel pf.body ⟨d7 pf.size args,[]⟩with | some (.ret d)=>some d | some (.next _)=>some .none | none=>none)=some d)
  {A:Around} {s:Shared} {vs:List Value} {as:List Addr} {Q:Value→Shared→Prop} {E:Value→Shared→Prop} (hA:fG Z (lvl+1) A) (hI:aZ Z s) (hsz:Z.n≤s.heap.objs.size) (r:aU s.heap vs args as) (hok:cD args=true)
  (hQ:∀ v bs s',aZ Z s'→Kp Z.n s.heap s'.heap→Rd s'.heap v d bs→bL d=true→(∀ a∈bs,a∈as∨∀ o,s.heap.get? a=some o→o.cls = .none)→Q v s'):wpAny (model Z.prog Z.w) A (call (.ref a) vs) Q E s:=by
 refine t9 (size:=pf.size) F hlen hA hI hsz r hok hQ fun env s₁ R E' O _ X _ hR=>?_
 cases hx:c8 cl fuel pf.body ⟨d7 pf.size args,[]⟩with
 | none=>rw[hx]at hd; cases hd
 | some fl =>
  rw[hx]at hd
  refine k8 (Z:=Z.at (s.heap.objs.size::Z.fr)) hB (hC (s.heap.objs.size::Z.fr)) F.nd fuel pf.body fd.scope body hck X hx ?_
  cases fl with
  | next σ'=>cases hd; exact fun s' O' S' st=>(hR .none [] s' O' S'.inv .none rfl (fun _ _ h=>nomatch h) st).2 rfl rfl
  | ret q=>cases hd; exact fun v bs s' O' I' r' ok' hr st=>(hR v bs s' O' I' r' ok' hr st).1
end
theorem wW.at{Z:aE}{n:Str}{a:Addr}{o:Obj}{fd:FuncData}{body:List Stmt}{nm:List Str}{k:Nat}(F:wW Z n a o fd body nm k)(fr:List Addr):wW (Z.at fr) n a o fd body nm k :=
 ⟨F.name,F.obj,F.cls,F.data,F.body,F.clo,F.kind,F.co,F.gen,F.glob,F.blt,F.code,F.bind,F.len,F.nd,F.snd,F.nofree,F.params⟩
def iZ(Z:aE)(c:Nat)(n:Str)(args:List PyData)(d:PyData):Prop :=
 ∃ a o fd,Z.mg n=some (.ref a)∧Z.h₀.get? a=some o∧o.cls ≠ .none∧o.data = .func fd ∧
  ∀(A:Around)(s:Shared)(vs:List Value)(as:List Addr)(Q:Value→Shared→Prop)(E:Value→Shared→Prop),fG Z c A→aZ Z s→Z.n≤s.heap.objs.size→aU s.heap vs args as→cD args=true →
   (∀ v bs s',aZ Z s'→Kp Z.n s.heap s'.heap→Rd s'.heap v d bs→bL d=true→(∀ a∈bs,a∈as∨∀ o,s.heap.get? a=some o→o.cls = .none)→Q v s')→wpAny (model Z.prog Z.w) A (call (.ref a) vs) Q E s
def CU(Z:aE)(c:Nat)(fn:List Str)(tab:Nat→Option PF)(prim:Nat→List PyData→Option PyData):Prop :=
 ∀ f n args d,fn[f]? = some n→tab f=none→prim f args=some d→iZ Z c n args d
def sB(Z:aE)(fn:List Str)(tab:Nat→Option PF):Prop :=
 ∀ f n pf,fn[f]? = some n→tab f=some pf→∃ a o fd body nm,wW Z n a o fd body nm pf.arity∧m6 fn nm fd.scope pf.body body=true
theorem CR{Z:aE}{fn:List Str}{tab:Nat→Option PF}{prim:Nat→List PyData→Option PyData}{fuel c:Nat}(hB:fC Z)(hT:sB Z fn tab)(hP:∀ fr,CU (Z.at fr) c fn tab prim):∀ lvl fr,eC (Z.at fr) (lvl+c) fn (c7 tab prim fuel lvl)
 | 0,_=>fun f n args d _ h=>nomatch h
 | lvl+1,fr=>fun f n args d hn h=>by
  unfold c7 at h
  cases ht:tab f with
  | none =>
   rw[ht]at h
   obtain⟨a,o,fd,h1,h2,h3,h4,h5⟩:=hP fr f n args d hn ht h
   exact⟨a,o,fd,h1,h2,h3,h4,fun A s vs as Q E hA=>h5 A s vs as Q E (hA.mono (Nat.le_add_left _ _))⟩
  | some pf =>
   rw[ht]at h
   refine hY h fun hlen h=>?_
   obtain⟨a,o,fd,body,nm,F,hck⟩:=hT f n pf hn ht
   have F:=F.at fr
   exact⟨a,o,fd,F.name,F.obj,F.cls,F.data,fun A s vs as Q E hA hI hsz r hok hQ=>R5 (Z:=Z.at fr) hB (fun fr'=>CR hB hT hP lvl fr') F hck hlen h (hA.mono (Nat.le_of_eq (Nat.add_right_comm _ _ _))) hI hsz r hok hQ⟩
noncomputable def pA(e:Data)(f:FuncData→Bool):Bool:=if h:e.ctorIdx=7 then Data.func.elim e h f else false
theorem QY{e:Data}{f:FuncData→Bool}{m:Data→Prop}(h:pA e f=true)(k:∀ a,f a=true→m (.func a)):m e:=by
 by_cases c:e.ctorIdx=7
 ·exact Data.func.elim (motive:=fun e=>pA e f=true→m e) e c k h
 ·rw[pA,dif_neg c]at h; cases h
theorem EX{e:Data}{f:FuncData→Bool}(h:pA e f=true):∃ a,e = .func a∧f a=true:=QY (m:=fun e=>∃ a,e = .func a∧f a=true) h fun a h=>⟨a,rfl,h⟩
noncomputable def iB(e:Data)(f:Array Value→Bool):Bool:=if h:e.ctorIdx=9 then Data.fields.elim e h f else false
theorem HN{e:Data}{f:Array Value→Bool}{m:Data→Prop}(h:iB e f=true)(k:∀ a,f a=true→m (.fields a)):m e:=by
 by_cases c:e.ctorIdx=9
 ·exact Data.fields.elim (motive:=fun e=>iB e f=true→m e) e c k h
 ·rw[iB,dif_neg c]at h; cases h
theorem vQ{e:Data}{f:Array Value→Bool}(h:iB e f=true):∃ a,e = .fields a∧f a=true:=HN (m:=fun e=>∃ a,e = .fields a∧f a=true) h fun a h=>⟨a,rfl,h⟩
noncomputable def hZ(e:Value)(f:Addr→Bool):Bool:=if h:e.ctorIdx=10 then Value.ref.elim e h f else false
theorem KO{e:Value}{f:Addr→Bool}{m:Value→Prop}(h:hZ e f=true)(k:∀ a,f a=true→m (.ref a)):m e:=by
 by_cases c:e.ctorIdx=10
 ·exact Value.ref.elim (motive:=fun e=>hZ e f=true→m e) e c k h
 ·rw[hZ,dif_neg c]at h; cases h
theorem mI{e:Value}{f:Addr→Bool}(h:hZ e f=true):∃ a,e = .ref a∧f a=true:=KO (m:=fun e=>∃ a,e = .ref a∧f a=true) h fun a h=>⟨a,rfl,h⟩
noncomputable def rQ(e:Value)(f:Str→Tok→Bool):Bool:=if h:e.ctorIdx=6 then Value.str.elim e h f else false
theorem B2{e:Value}{f:Str→Tok→Bool}{m:Value→Prop}(h:rQ e f=true)(k:∀ a b,f a b=true→m (.str a b)):m e:=by
 by_cases c:e.ctorIdx=6
 ·exact Value.str.elim (motive:=fun e=>rQ e f=true→m e) e c k h
 ·rw[rQ,dif_neg c]at h; cases h
theorem V4{e:Value}{f:Str→Tok→Bool}(h:rQ e f=true):∃ a b,e = .str a b∧f a b=true:=B2 (m:=fun e=>∃ a b,e = .str a b∧f a b=true) h fun a b h=>⟨a,b,rfl,h⟩
noncomputable def sM(e:Value)(f:String→Bool):Bool:=if h:e.ctorIdx=8 then Value.type.elim e h f else false
theorem EV{e:Value}{f:String→Bool}{m:Value→Prop}(h:sM e f=true)(k:∀ a,f a=true→m (.type a)):m e:=by
 by_cases c:e.ctorIdx=8
 ·exact Value.type.elim (motive:=fun e=>sM e f=true→m e) e c k h
 ·rw[sM,dif_neg c]at h; cases h
theorem Ba{e:Value}{f:String→Bool}(h:sM e f=true):∃ a,e = .type a∧f a=true:=EV (m:=fun e=>∃ a,e = .type a∧f a=true) h fun a h=>⟨a,rfl,h⟩
noncomputable def lB(e:FuncBody)(f:List Stmt→Bool):Bool:=if h:e.ctorIdx=0 then FuncBody.stmts.elim e h f else false
theorem NF{e:FuncBody}{f:List Stmt→Bool}{m:FuncBody→Prop}(h:lB e f=true)(k:∀ a,f a=true→m (.stmts a)):m e:=by
 by_cases c:e.ctorIdx=0
 ·exact FuncBody.stmts.elim (motive:=fun e=>lB e f=true→m e) e c k h
 ·rw[lB,dif_neg c]at h; cases h
theorem AB{e:FuncBody}{f:List Stmt→Bool}(h:lB e f=true):∃ a,e = .stmts a∧f a=true:=NF (m:=fun e=>∃ a,e = .stmts a∧f a=true) h fun a h=>⟨a,rfl,h⟩
theorem eG{α:Type}{o:Option α}{f:α→Bool}(h:gT o f=true):∃ a,o=some a∧f a=true:=rJ (m:=fun o=>∃ a,o=some a∧f a=true) h fun a h=>⟨a,rfl,h⟩
def fB{α:Type}(e:Option α)(f:α→Prop):Prop:=match e with | some a=>f a | none=>False
theorem mZ{α:Type}{e:Option α}{f:α→Prop}(h:fB e f):∃ a,e=some a∧f a:=by
 cases e with
 | none=>exact h.elim
 | some a=>exact⟨a,rfl,h⟩
noncomputable def mD{α:Type}:List α→(α→Prop)→Prop
 | [],_=>True
 | x::l,P=>P x∧mD l P
theorem tM{α:Type}{P:α→Prop}{x:α}{l:List α}:mD l P→x∈l→P x:=by
 induction l with
 | nil=>exact fun _ h=>nomatch h
 | cons y l ih=>exact fun h hx=>(List.mem_cons.mp hx).elim (fun e=>e▸h.1) (ih h.2)
noncomputable def mL:Nat→(List Value→Prop)→Prop
 | 0,P=>P []
 | k+1,P=>∀ v,mL k fun l=>P (v::l)
theorem IB{l:List Value}:∀{P:List Value→Prop},mL l.length P→P l:=by
 induction l with
 | nil=>exact fun{P}h=>h
 | cons v l ih=>exact fun{P}h=>ih (P:=fun l=>P (v::l)) (h v)
noncomputable def eZ(v:Value):Option Addr:=if h:v.ctorIdx=10 then Value.ref.elim v h some else none
noncomputable def TG(d:Data):Option FuncData:=if h:d.ctorIdx=7 then Data.func.elim d h some else none
noncomputable def GC(K:Frag)(a:Addr):Option FuncData:=(K.lookup a).bind fun o=>TG o.data
noncomputable abbrev vB:FuncData→Args→Sem (List (Str×Value)):=PySem.W.Fast.tw9782568553167038054
theorem tK(fd:FuncData)(as:Args):bindArgs fd as=vB fd as:=congrFun (congrFun PySem.W.Fast.te9782568553167038054 fd) as
abbrev pF:=Str×List Str×PF
noncomputable def As(K:Frag)(a:Addr)(f:Obj→Bool):Bool:=gT (K.lookup a) fun o=>sM o.cls (fun _=>true)&&f o
theorem T7{K:Frag}{a:Addr}{f:Obj→Bool}{G:Prop}(h:As K a f=true)(k:∀ o,K.lookup a=some o→o.cls ≠ .none→f o=true→G):G :=
 (rJ (m:=fun x=>K.lookup a=x→G) h fun o h e=>aB h fun h1 h2=>k o e (EV (m:=(· ≠ .none)) h1 fun _ _ e=>nomatch e) h2) rfl
noncomputable def eK(K:Frag)(n:Str):Option Value:=(K.lookup mainGlobals).bind fun o=>match o.data with
 | .dict es _=>nsFind es n
 | _=>none
noncomputable def iJ(K:Frag)(q:Str)(v:Value):Bool:=hZ v fun c=>As K c fun o=>iB o.data fun vs=>gT vs[1]? fun v=>rQ v fun t _=>t==q
noncomputable def FP(K:Frag)(P:Scope→List Stmt→Bool)(nm:List Str)(k:Nat)(fd:FuncData):Bool :=
 ([lB fd.body fun body=>P fd.scope body,
  fd.closure.isEmpty,fd.scope.kind == .function,!fd.scope.isCoroutine,!fd.scope.isGenerator,fd.globals==mainGlobals,fd.builtins==builtinsNs,iJ K fd.qualname fd.code,
  decide (k≤nm.length),decide nm.Nodup,decide ((fd.scope.names.map (·.1)).Nodup),fd.scope.names.all fun p=>p.2 != .free,
  (nm.take k).all fun n=>fd.scope.names.lookup n==some .local||fd.scope.names.lookup n==some .cell]:List Bool).all id
noncomputable def tE(K:Frag)(P:Scope→List Stmt→Bool)(n:Str)(nm:List Str)(k:Nat):Bool :=
 gT (eK K n) fun v=>hZ v fun a=>As K a fun o=>pA o.data fun fd=>FP K P nm k fd
def l6(K:Frag)(n:Str)(nm:List Str)(k:Nat):Prop:=fB ((eK K n).bind eZ) fun a=>fB (GC K a) fun fd=>mL k fun vals=>vB fd ⟨vals,[]⟩=pure ((nm.take k).zip vals)
noncomputable def yC(K:Frag)(fn:List Str)(S:pF):Bool:=tE K (fun sc body=>m6 fn S.2.1 sc S.2.2.body body) S.1 S.2.1 S.2.2.arity
theorem eP{Z:aE}{K:Frag}(X:K.In Z.h₀){n:Str}{v:Value}(h:eK K n=some v):Z.mg n=some v :=
 aV h fun o ho h=>by
  obtain⟨o',es,ep,e',hd,_,hall⟩:=Z.hg
  cases(X _ _ ho).symm.trans e'
  rw[hd]at h
  exact(hall n).symm.trans h
theorem xH{K:Frag}{h₀:Heap}(X:K.In h₀){q:Str}{v:Value}(h:iJ K q v=true):∃ c oc vs t,v = .ref c∧h₀.get? c=some oc∧oc.cls ≠ .none∧oc.data = .fields vs∧vs[1]? = some (.str q t) :=
 by
 obtain⟨c,e,h⟩:=mI h
 exact T7 h fun oc e1 e2 h=>by
  obtain⟨vs,e3,h⟩:=vQ h
  obtain⟨_,e4,h⟩:=eG h
  obtain⟨_,t,e5,h⟩:=V4 h
  exact⟨c,oc,vs,t,e,X _ _ e1,e2,e3,e4.trans (congrArg some (e5.trans (by rw[eq_of_beq h])))⟩
theorem K1{K:Frag}{a:Addr}{o:Obj}{fd:FuncData}(h:K.lookup a=some o)(e:o.data = .func fd):GC K a=some fd:=by
 unfold GC
 rw[h]
 show TG o.data=_
 rw[e]; rfl
theorem DL{Z:aE}{K:Frag}{P:Scope→List Stmt→Bool}{n:Str}{nm:List Str}{k:Nat}{a:Addr}{o:Obj}{fd:FuncData}(X:K.In Z.h₀)(hn:Z.mg n=some (.ref a))(ho:K.lookup a=some o)(hc:o.cls ≠ .none)(hd:o.data = .func fd)(hbi:mL k fun vals=>vB fd ⟨vals,[]⟩=pure ((nm.take k).zip vals))(h:FP K P nm k fd=true) :
  ∃ body,wW Z n a o fd body nm k∧P fd.scope body=true:=by
 obtain⟨body,hb,hck⟩:=AB (aJ h 0 rfl)
 refine⟨body,{
  name:=hn
  obj:=X _ _ ho
  cls:=hc
  data:=hd
  body:=hb
  clo:=List.isEmpty_iff.mp (aJ h 1 rfl)
  kind:=eq_of_beq (aJ h 2 rfl)
  co:=bH (aJ h 3 rfl)
  gen:=bH (aJ h 4 rfl)
  glob:=eq_of_beq (aJ h 5 rfl)
  blt:=eq_of_beq (aJ h 6 rfl)
  code:=xH X (aJ h 7 rfl)
  bind:=fun vals hl=>(tK _ _).trans (IB (P:=fun vals=>vB fd ⟨vals,[]⟩=pure ((nm.take k).zip vals)) (hl▸hbi))
  len:=of_decide_eq_true (aJ h 8 rfl)
  nd:=of_decide_eq_true (aJ h 9 rfl)
  snd:=of_decide_eq_true (aJ h 10 rfl)
  nofree:=fun p hp=>bne_iff_ne.mp (List.all_eq_true.mp (aJ h 11 rfl) p hp)
  params:=fun n hn=>(Bool.or_eq_true _ _▸List.all_eq_true.mp (aJ h 12 rfl) n hn).imp eq_of_beq eq_of_beq },hck⟩
theorem l8{Z:aE}{K:Frag}{P:Scope→List Stmt→Bool}{n:Str}{nm:List Str}{k:Nat}(X:K.In Z.h₀)(hbi:l6 K n nm k)(h:tE K P n nm k=true) :
  ∃ a o fd body,wW Z n a o fd body nm k∧P fd.scope body=true :=
 by
 obtain⟨v,e,h⟩:=eG h
 obtain⟨a,rfl,h⟩:=mI h
 obtain⟨a',ea,hbi⟩:=mZ hbi
 cases(congrArg (Option.bind · eZ) e).symm.trans ea
 obtain⟨fd',ef,hbi⟩:=mZ hbi
 exact T7 h fun o ho hc h=>by
  obtain⟨fd,hd,h⟩:=EX h
  cases(K1 ho hd).symm.trans ef
  obtain⟨body,F⟩:=DL X (eP X e) ho hc hd hbi h
  exact⟨a,o,_,body,F⟩
theorem L6{Z:aE}{K:Frag}{fn:List Str}{tab:Nat→Option PF}{specs:List pF}(X:K.In Z.h₀)(hb:mD specs fun S=>l6 K S.1 S.2.1 S.2.2.arity)(hc:specs.all (yC K fn)=true)(ht:∀ f n pf,fn[f]? = some n→tab f=some pf→∃ nm,(n,nm,pf)∈specs):sB Z fn tab:=by
 intro f n pf hf hp
 obtain⟨nm,hm⟩:=ht f n pf hf hp
 obtain⟨a,o,fd,body,F,hk⟩:=l8 X (tM (P:=fun S:pF=>l6 K S.1 S.2.1 S.2.2.arity) (x:=(n,nm,pf)) hb hm) (List.all_eq_true.mp hc _ hm)
 exact⟨a,o,fd,body,nm,F,hk⟩
theorem VN{Z:aE}{fn:List Str}{tab:Nat→Option PF}{prim:Nat→List PyData→Option PyData}{fuel lvl f c:Nat}{n:Str}{a:Addr}{args:List PyData}{d:PyData}{A:Around}{s:Shared}{vs:List Value}{as:List Addr}{E:Value→Shared→Prop}
  (hB:fC Z) (hT:sB Z fn tab) (hP:∀ fr,CU (Z.at fr) c fn tab prim) (hn:fn[f]? = some n) (hm:Z.mg n=some (.ref a)) (hA:fG Z (lvl+c) A) (hI:aZ Z s) (hsz:Z.n≤s.heap.objs.size) (r:aU s.heap vs args as) (hok:cD args=true)
  (hrun:c7 tab prim fuel lvl f args=some d):wpAny (model Z.prog Z.w) A (call (.ref a) vs) (fun v s'=>aZ Z s'∧∃ bs,Rd s'.heap v d bs) E s:=by
 obtain⟨a',o,fd,h1,_,_,_,h5⟩:=CR hB hT hP lvl Z.fr f n args d hn hrun
 rw[hm]at h1; cases h1
 exact h5 A s vs as _ E hA hI hsz r hok fun v bs s' I' _ r' _ _=>⟨I',bs,r'⟩
theorem H5{Z:aE}{s:Shared}(h:s.heap=Z.h₀)(hl:s.heap.NoLimit)(ht:Z.TabI s.heap)(hg:AllBare s.gens)(ho:s.os=Z.os)(hf:Z.fr=[]):aZ Z s:=⟨h▸OldK.refl _,hl,ht,hg,ho,fun L hL=>by rw[hf]at hL; cases hL⟩
end Kt.Internal
end
section
open PySem PySem.W PyProof.Rows
open AutoSeq1 (wpAny_loadPart')
open MeetsSeq MeetsSeq2 MeetsSeq3 SeqRoads2
namespace Kt.Internal
open SeqAt (EqAt)
theorem uR(l:Addr)(items:Array Value)(n:Nat)(sl:Array (Option Value))(x:Value)(e:Value→Bool)(j:Nat)(hj:j<items.size)(hit:e items[j]=true)(k:Nat)(hs1:items.size≤sizeLine) :
  ∀ i:Nat,j - i=k→i≤j→(∀ m(hm:m<items.size),i≤m→m<j→e items[m]=false)→Meets (Builtin.«list.remove.loop» ⟨[.ref l,x,rawInt i],[]⟩)
   (fun A R s=>s.heap.get? l=some { cls:=.type "list",dict:=none,data:=.seq items n,slots:=sl }∧(∀ y,y∈items→EqAt A.in1 s y x (e y))∧R (.ok (.ret .none)) { s with heap:=s.heap.update l (Obj.mapSeq fun xs=>xs.eraseIdxIfInBounds j) }):=by
 induction k with
 | zero =>
  intro i hk hij hno prog w A R s h
  obtain⟨hp,g,d,tk,os⟩:=s; obtain⟨hl,he,h⟩:=h
  obtain rfl:i=j:=Nat.le_antisymm hij (Nat.le_of_sub_eq_zero hk)
  wp_walk using wpAny_loadPart' hl
  have hi:items[((i:Nat):Int).toNat]? = some items[i]:=Array.getElem?_eq_getElem hj
  rw[hi]
  refine wpAny_bind (he _ (Array.getElem_mem hj) prog w _ _ ?_)
  rw[hit]
  have hz':(items.eraseIdxIfInBounds i).size≤sizeLine+1:=Nat.le_trans (size_erased items _) (Nat.le_succ_of_le hs1)
  wp_walk using(wpAny_updateSeq hl rfl (hz:=hs1) (_hz':=hz')),wpAny_loadPart' hl
  simpa using h
 | succ k ih =>
  intro i hk hij hno prog w A R s h
  obtain⟨hp,g,d,tk,os⟩:=s; obtain⟨hl,he,h⟩:=h
  have hij':i<j:=Nat.lt_of_sub_eq_succ hk
  have hlt:i<items.size:=Nat.lt_trans hij' hj
  wp_walk using wpAny_loadPart' hl
  have hi:items[((i:Nat):Int).toNat]? = some items[i]:=Array.getElem?_eq_getElem hlt
  have hc:((i:Int)+1)=((i+1:Nat):Int):=rfl
  rw[hi]
  refine wpAny_bind (he _ (Array.getElem_mem hlt) prog w _ _ ?_)
  rw[hno i hlt (Nat.le_refl _) hij']
  wp_walk
  rw[hc]
  exact⟨plainId_quiet plain_remove_loop _,codeAny_builtin entry_remove_loop (by
   rw[Around.under_plainId plain_remove_loop _]
   exact ih (i+1) (congrArg Nat.pred hk) hij' (fun m hm h1 h2=>hno m hm (Nat.le_of_succ_le h1) h2) prog w A R _ ⟨hl,he,h⟩)⟩
theorem uS(l:Addr)(items:Array Value)(n:Nat)(sl:Array (Option Value))(x:Value)(e:Value→Bool)(j:Nat)(hj:j<items.size)
  (hit:e items[j]=true) (hno:∀ m(hm:m<items.size),m<j→e items[m]=false) (hs1:items.size≤sizeLine) :
  Meets (Builtin.«list.remove» ⟨[.ref l,x],[]⟩)
   (fun A R s=>s.heap.get? l=some { cls:=.type "list",dict:=none,data:=.seq items n,slots:=sl }∧(∀ y,y∈items→EqAt A.in1 s y x (e y))∧R (.ok (.ret .none)) { s with heap:=s.heap.update l (Obj.mapSeq fun xs=>xs.eraseIdxIfInBounds j) }):=by
 intro prog w A R s h
 obtain⟨hp,g,d,tk,os⟩:=s; obtain⟨hl,he,h⟩:=h
 wp_walk using wpAny_loadPart' hl
 exact⟨plainId_quiet plain_remove_loop _,codeAny_builtin entry_remove_loop (by
  rw[Around.under_plainId plain_remove_loop _]
  exact uR l items n sl x e j hj hit _ hs1 0 rfl (Nat.zero_le _) (fun m hm _ h2=>hno m hm h2) prog w A R _ ⟨hl,he,h⟩)⟩
theorem mR(l:Addr)(items:Array Value)(n:Nat)(sl:Array (Option Value))(x:Value)(e:Value→Bool)(hno:∀ m(hm:m<items.size),e items[m]=false)(k:Nat) :
  ∀ i:Nat,items.size - i=k→Meets (Builtin.«list.remove.loop» ⟨[.ref l,x,rawInt i],[]⟩)
   (fun A R s=>s.heap.get? l=some { cls:=.type "list",dict:=none,data:=.seq items n,slots:=sl }∧(∀ y,y∈items→EqAt A.in1 s y x (e y))∧raisesNew "ValueError" A R s):=by
 induction k with
 | zero =>
  intro i hk prog w A R s h
  obtain⟨hp,g,d,tk,os⟩:=s; obtain⟨hl,he,h⟩:=h
  wp_walk using wpAny_loadPart' hl
  have hi:items[((i:Nat):Int).toNat]? = none:=Array.getElem?_eq_none (Nat.le_of_sub_eq_zero hk)
  rw[hi]
  wp_walk
  exact_raiseError plainExc_ValueError h.1 h.2
 | succ k ih =>
  intro i hk prog w A R s h
  obtain⟨hp,g,d,tk,os⟩:=s; obtain⟨hl,he,h⟩:=h
  have hlt:i<items.size:=Nat.lt_of_sub_eq_succ hk
  wp_walk using wpAny_loadPart' hl
  have hi:items[((i:Nat):Int).toNat]? = some items[i]:=Array.getElem?_eq_getElem hlt
  have hc:((i:Int)+1)=((i+1:Nat):Int):=rfl
  rw[hi]
  refine wpAny_bind (he _ (Array.getElem_mem hlt) prog w _ _ ?_)
  rw[hno i hlt]
  wp_walk
  rw[hc]
  exact⟨plainId_quiet plain_remove_loop _,codeAny_builtin entry_remove_loop (by
   rw[Around.under_plainId plain_remove_loop _]
   exact ih (i+1) (congrArg Nat.pred hk) prog w A R _ ⟨hl,he,h⟩)⟩
theorem mS(l:Addr)(items:Array Value)(n:Nat)(sl:Array (Option Value))(x:Value)(e:Value→Bool)(hno:∀ m(hm:m<items.size),e items[m]=false) :
  Meets (Builtin.«list.remove» ⟨[.ref l,x],[]⟩)
   (fun A R s=>s.heap.get? l=some { cls:=.type "list",dict:=none,data:=.seq items n,slots:=sl }∧(∀ y,y∈items→EqAt A.in1 s y x (e y))∧raisesNew "ValueError" A R s):=by
 intro prog w A R s h
 obtain⟨hp,g,d,tk,os⟩:=s; obtain⟨hl,he,h⟩:=h
 wp_walk using wpAny_loadPart' hl
 exact⟨plainId_quiet plain_remove_loop _,codeAny_builtin entry_remove_loop (by
  rw[Around.under_plainId plain_remove_loop _]
  exact mR l items n sl x e hno _ 0 rfl prog w A R _ ⟨hl,he,h⟩)⟩
end Kt.Internal
end
section
open PySem PySem.W PyProof.Rows
namespace Kt.Internal
noncomputable def oO(h:Heap):List Addr→Heap
 | []=>h
 | a::r=>oO (h.update a fun o=>{ o with data:=.freed }) r
theorem get?_hide_one (h:Heap) (a b:Addr):(h.update a fun o=>{ o with data:=.freed }).get? b=if b=a then none else h.get? b:=by
 by_cases e:b=a
 ·subst e
  rw[if_pos rfl]
  cases hx:(h.update b fun o=>{ o with data:=.freed }).get? b with
  | none=>rfl
  | some o =>
   obtain⟨e1,e2⟩:=Heap.get?_some_iff.mp hx
   cases h
   simp only[Heap.update,Array.getElem?_modify,if_true,Option.map_eq_some_iff]at e1
   obtain⟨o',_,rfl⟩:=e1
   simp[Obj.isFreed]at e2
 ·rw[if_neg e,Heap.get?_update_other _ _ (Ne.symm e)]
theorem get?_hide:∀(fr:List Addr)(h:Heap)(b:Addr),(oO h fr).get? b=if b∈fr then none else h.get? b
 | [],h,b=>by simp[oO]
 | a::r,h,b=>by
  unfold oO
  rw[get?_hide r,get?_hide_one]
  by_cases e:b=a
  ·subst e; simp
  ·by_cases e2:b∈r <;> simp[e,e2]
theorem tP(h:Heap)(fr:List Addr):(oO h fr).StaysIn h:=fun b o e=>by
 rw[get?_hide]at e
 split at e
 ·cases e
 ·exact e
theorem jI{Z:aE}{s:Shared}(I:aZ Z s):∀{fs:List Env},(∀ env∈fs,env.scope.kind ≠ .module∧∃ L,env.frame=some L∧L∈Z.fr)→s.heap.FunFrames (oO s.heap Z.fr) fs
 | [],_=>trivial
 | env::rest,h=>by
  obtain⟨h1,L,h2,h3⟩:=h env List.mem_cons_self
  obtain⟨_,o,e,es,ep,hd⟩:=I.frs L h3
  exact⟨h1,⟨L,o,h2,by rw[get?_hide,if_pos h3],e,fun vs h=>by rw[hd]at h; cases h⟩,jI I fun env' he=>h env' (List.mem_cons_of_mem _ he)⟩
theorem qD{Z:aE}{s:Shared}(I:aZ Z s){h':Heap}(h1:(oO s.heap Z.fr).StaysIn h')(h2:∀ b o,s.heap.get? b=some o→(∀ vs,o.data ≠ .fields vs)→∃ sl,h'.get? b=some { o with slots:=sl }):Kp Z.n s.heap h' where
 k:=fun b o e _=>by
  by_cases hb:b∈Z.fr
  ·obtain⟨_,o',e',es,ep,hd⟩:=I.frs b hb
   rw[e]at e'; cases e'
   obtain⟨sl,h⟩:=h2 b o e fun vs h=>by rw[hd]at h; cases h
   exact .inr ⟨⟨es,ep,hd⟩,sl,h⟩
  ·exact .inl (h1 b o (by rw[get?_hide,if_neg hb]; exact e))
theorem oH{Z:aE}{s:Shared}(I:aZ Z s){h':Heap}{tk:Nat}(h1:(oO s.heap Z.fr).StaysIn h')(h2:∀ b o,s.heap.get? b=some o→(∀ vs,o.data ≠ .fields vs)→∃ sl,h'.get? b=some { o with slots:=sl }):aZ Z { s with heap:=h',toks:=tk }:=by
 refine I.step (fun b o hb e=>h1 b o ?_) Z.lowC fun L hL o e hd=>?_
 ·rw[get?_hide,if_neg fun hm=>?_]
  ·exact e
  ·exact absurd hb (Nat.not_lt.mpr (I.frs b hm).1)
 ·obtain⟨es,ep,hd⟩:=hd
  obtain⟨sl,h⟩:=h2 L o e fun vs h=>by rw[hd]at h; cases h
  exact⟨_,h,es,ep,hd⟩
theorem qR{M:Model}{A:Around}{E:Value→Shared→Prop}{s:Shared}{base:Heap}{env:Env}{outer:List Env}{L e:Addr}{oe:Obj}{vs:Array Value}{a0:Value}{Q:Unit→Shared→Prop}
  (hfr:A.frames=some (env::outer)) (hl:s.heap.FunFrames base (env::outer)) (hf:env.frame=some L) (he:s.heap.get? e=some oe) (hkb:base.StaysIn s.heap) (hen:base.get? e=none) (hd:oe.data = .fields vs) (h0:vs[0]? = some a0) (h1:vs[1]? = some .none)
  (h:∀ h',Heap.NotedW base (env::outer) e oe.cls a0 (rawInt L) s.heap h'→Q () { s with heap:=h' }):wpAny M A (noteFrame (.ref e) env) Q E s:=by
 unfold noteFrame
 simp only[hf]
 refine wpAny_bind (wpAny_field he hd h1 ?_)
 rw[if_neg (by decide)]
 exact wpAny_entryW hfr hl hf he hkb hen hd (Array.getElem?_eq_some_iff.mp h1).1 h0 h
abbrev Sc:=List (Nat×Obj)
def Dm(K:Frag)(h:Heap)(a:Addr)(f:Obj→Sc→Prop)(sc:Sc):Prop:=match sc with
 | []=>match K.lookup a with | some o=>f o []| none=>False
 | p::r=>match p.1 with
  | 0=>h.get? a=some p.2∧f p.2 r
  | n+1=>match K.lookup a with | some o=>f o ((n,p.2)::r)| none=>False
noncomputable def vc{α:Type}(cf:Code→(Result→Sc→Shared→Prop)→Sc→Shared→Prop)(K:Frag)(S:Setting)(Q:α→Sc→Shared→Prop)(E:Value→Sc→Shared→Prop)(t:Sem α):Sc→Shared→Prop:=match t with
 | .pure a=>Q a
 | .raise e=>E e
 | .rule _ k=>vc cf K S Q E (k ())
 | .at _ k=>vc cf K S Q E (k ())
 | .point _ k=>vc cf K S Q E (k ())
 | .ask k=>vc cf K S Q E (k S)
 | .load a _ k=>fun sc s=>Dm K s.heap a (fun o sc=>vc cf K S Q E (k o) sc s) sc
 | .alloc o k=>fun sc s=>vc cf K S Q E (k s.heap.objs.size) sc { s with heap:=s.heap.push o }
 | .update a _ f k=>fun sc s=>((s.heap.get? a).isSome=true∧K.In (s.heap.update a f))∧vc cf K S Q E (k ()) sc { s with heap:=s.heap.update a f }
 | .fresh k=>fun sc s=>vc cf K S Q E (k s.toks) sc { s with toks:=s.toks+1 }
 | .handled own k=>bif own then fun _ _=>False else vc cf K S Q E (k none)
 | .call c hd _ _ k=>match hd with | none=>cf c (fun r=>vc cf K S Q E (k r))| some _=>fun _ _=>False
 | _=>fun _ _=>False
noncomputable def DQ(D:Code→Sem Fin)(K:Frag)(S:Setting):Nat→Code→(Result→Sc→Shared→Prop)→Sc→Shared→Prop
 | 0=>fun _ _ _ _=>False
 | n+1=>fun c R=>vc (DQ D K S n) K S (fun fin=>match fin with | .done f=>R (.ok f)| .again c'=>fun sc s=>c'.quiet=true∧DQ D K S n c' R sc s) (fun e=>R (.error e)) (D c)
section
variable{α:Type}{M:Model}{K:Frag}
theorem WP{h:Heap}{a:Addr}{f:Obj→Sc→Prop}{sc:Sc}(X:K.In h)(x:Dm K h a f sc){g:Obj→Prop}(hg:∀ o sc,f o sc→g o):∃ o,h.get? a=some o∧g o:=by
 have key:∀ sc',(match K.lookup a with | some o=>f o sc' | none=>False)→∃ o,h.get? a=some o∧g o:=fun sc' x=>by
  cases e:K.lookup a with
  | none=>rw[e]at x; exact x.elim
  | some o=>rw[e]at x; exact⟨o,X _ _ e,hg _ _ x⟩
 cases sc with
 | nil=>exact key _ x
 | cons p r =>
  obtain⟨n,o⟩:=p
  cases n with
  | zero=>exact⟨o,x.1,hg _ _ x.2⟩
  | succ n=>exact key _ x
theorem uY{cf:Code→(Result→Sc→Shared→Prop)→Sc→Shared→Prop}{A:Around}(hcf:∀{c:Code}{R:Result→Sc→Shared→Prop}{sc:Sc}{s:Shared},K.In s.heap→cf c R sc s→codeAny M (A.mark none) c (fun r s'=>∃ sc',K.In s'.heap∧R r sc' s') s)
  {Q:α→Sc→Shared→Prop} {E:Value→Sc→Shared→Prop} (hh:A.handled=none) (t:Sem α):∀{sc:Sc}{s:Shared},K.In s.heap→vc cf K ⟨M.prog,M.w.params⟩ Q E t sc s→wpAny M A t (fun a s'=>∃ sc',K.In s'.heap∧Q a sc' s') (fun e s'=>∃ sc',K.In s'.heap∧E e sc' s') s:=by
 induction t with
 | pure a=>exact fun X x _ _ _=>⟨_,X,x⟩
 | raise e=>exact fun X x _ _ _=>⟨_,X,x⟩
 | rule _ k ih=>exact fun X x Γ p hΓ=>ih () X x Γ p hΓ
 | «at» p k ih=>exact fun X x Γ _ hΓ=>ih () X x Γ p hΓ
 | point _ k ih=>exact fun X x Γ p hΓ=>ih () X x Γ p hΓ
 | ask k ih=>exact fun X x Γ p hΓ=>ih _ X x Γ p hΓ
 | load a _ k ih=>exact fun{sc s}X x Γ p hΓ=>WP (f:=fun o sc=>vc cf K ⟨M.prog,M.w.params⟩ Q E (k o) sc s) X x fun o _ x=>ih o X x Γ p hΓ
 | alloc o k ih=>exact fun{sc s}X x Γ p hΓ=>ih _ (X.keeps fun _ _ e=>Heap.get?_push_of_some _ e) x Γ p hΓ
 | update a _ f k ih=>exact fun X x Γ p hΓ=>⟨x.1.1,ih () x.1.2 x.2 Γ p hΓ⟩
 | fresh k ih=>exact fun{sc s}X x Γ p hΓ=>ih s.toks (s:={ s with toks:=s.toks+1 }) X x Γ p hΓ
 | handled own k ih =>
  intro sc s X x Γ p hΓ
  cases own with
  | true=>exact x.elim
  | false =>
  show Sem.wp M Γ (k Γ.handled) _ _ p _
  rw[hΓ.1,hh]
  exact ih none X x Γ p hΓ
 | call c hd g l k ih =>
  intro sc s X x Γ p hΓ
  cases hd with
  | some e=>exact x.elim
  | none =>
  exact wpCode_mono (fun r s'⟨_,X',x'⟩=>ih r X' x' Γ p hΓ) (hcf X x (Γ.enter c none p) p rfl (hΓ.enter c none p nofun))
 | _=>exact fun _ x=>x.elim
theorem gC{D:Code→Sem Fin}(hD:M.den=D)(n:Nat):∀{A:Around}{c:Code}{R:Result→Sc→Shared→Prop}{sc:Sc}{s:Shared},A.handled=none→K.In s.heap→DQ D K ⟨M.prog,M.w.params⟩ n c R sc s→codeAny M A c (fun r s'=>∃ sc',K.In s'.heap∧R r sc' s') s:=by
 induction n with
 | zero=>exact fun _ _ x=>x.elim
 | succ n ih =>
  intro A c R sc s hh X x
  refine codeAny_of_tree ?_
  rw[hD]
  refine wpAny_mono (uY (A:=A.under c) (ih (by rw[Around.mark_none]; exact hh)) hh (D c) X x) (fun fin s' h=>?_) fun _ _ e=>e
  obtain⟨sc',X',h⟩:=h
  cases fin with
  | done f=>exact⟨sc',X',h⟩
  | again c'=>exact⟨h.1,ih hh X' h.2⟩
end
noncomputable abbrev D0:Code→Sem Fin:=PySem.W.Fast.tw11892475500146522536 PySem.W.Fast.tw14364793385576792824
theorem iX(prog:Program)(w:World):(model prog w).den=D0:=(congrArg denote table_eq_tree).trans ((congrFun PySem.W.Fast.te11892475500146522536 treeTable).trans (congrArg PySem.W.Fast.tw11892475500146522536 PySem.W.Fast.te14364793385576792824))
theorem JQ{prog:Program}{w:World}{K:Frag}{A:Around}{c:Code}{R:Result→Shared→Prop}{s:Shared}(n:Nat)(sc:Sc)(P:Prop)(hh:A.handled=none)(X:K.In s.heap)(e:DQ D0 K ⟨prog,w.params⟩ n c (fun r _ s=>R r s) sc s=P)(h:P):codeAny (model prog w) A c R s :=
 codeAny_mono (gC (M:=model prog w) (iX prog w) n hh X (e.mpr h)) fun _ _⟨_,_,x⟩=>x
theorem JD{α:Type}{prog:Program}{w:World}{K:Frag}{A:Around}{t t':Sem α}{Q:α→Shared→Prop}{E:Value→Shared→Prop}{s:Shared}(et:t=t')(n:Nat)(sc:Sc)(P:Prop)(hh:A.handled=none)(X:K.In s.heap)
  (e:vc (DQ D0 K ⟨prog,w.params⟩ n) K ⟨prog,w.params⟩ (fun a _ s=>Q a s) (fun e _ s=>E e s) t' sc s=P) (h:P):wpAny (model prog w) A t Q E s:=by
 subst et
 exact wpAny_mono (uY (M:=model prog w) (gC (M:=model prog w) (iX prog w) n (by rw[Around.mark_none]; exact hh)) hh t X (e.mpr h)) (fun _ _⟨_,_,x⟩=>x) fun _ _⟨_,_,x⟩=>x
def PB(R:Result→Shared→Prop)(G:Code→Sc→Shared→Prop)(f:Fin)(sc:Sc)(s:Shared):Prop:=match f with | .done f=>R (.ok f) s | .again c=>G c sc s
abbrev Mk:=Code→Option (Addr→Addr→Value×Sc)
def Aw(M:Model)(A:Around)(K:Frag)(mk:Mk)(cf:Code→(Result→Sc→Shared→Prop)→Sc→Shared→Prop)(c:Code)(R:Result→Sc→Shared→Prop)(sc:Sc)(s:Shared):Prop:=match mk c with
 | some g=>codeAny M A c (fun r s'=>∃ x d,r = .ok (.ret (g x d).1)∧K.In s'.heap∧R (.ok (.ret (g x d).1)) (g x d).2 s') s
 | none=>cf c R sc s
noncomputable def Bf(prog:Program)(w:World)(K:Frag)(n:Nat)(c:Code)(R:Result→Shared→Prop)(G:Code→Sc→Shared→Prop):Sc→Shared→Prop :=
 vc (DQ D0 K ⟨prog,w.params⟩ n) K ⟨prog,w.params⟩ (PB R G) (fun e _ s=>R (.error e) s) (D0 c)
noncomputable def Be(prog:Program)(w:World)(A:Around)(K:Frag)(mk:Mk)(n:Nat)(c c0:Code)(R:Result→Shared→Prop):Sc→Shared→Prop :=
 Bf prog w K n c R fun c1 sc s=>c1.quiet=true∧Bf prog w K n c1 R (fun c' sc s=>(c'=c0∧c'.quiet=true) ∧
  vc (Aw (model prog w) (A.under c0) K mk (DQ D0 K ⟨prog,w.params⟩ n)) K ⟨prog,w.params⟩ (PB R fun _ _ _=>False) (fun e _ s=>R (.error e) s) (D0 c0) sc s) sc s
def Br(M:Model)(K:Frag)(mk:Mk)(cf:Code→(Result→Sc→Shared→Prop)→Sc→Shared→Prop)(c:Code)(R:Result→Sc→Shared→Prop)(sc:Sc)(s:Shared):Prop:=match mk c with
 | some g=>∀ A:Around,A.handled=none→codeAny M A c (fun r s'=>∃ x d,r = .ok (.ret (g x d).1)∧K.In s'.heap∧R (.ok (.ret (g x d).1)) (g x d).2 s') s
 | none=>cf c R sc s
noncomputable def Bg(prog:Program)(w:World)(K:Frag)(mk:Mk)(n:Nat)(fd:FuncData)(body:List Stmt)(f:Addr)(args:Args)(R:Result→Shared→Prop):Sc→Shared→Prop :=
 vc (DQ D0 K ⟨prog,w.params⟩ n) K ⟨prog,w.params⟩ (fun binds=>vc (DQ D0 K ⟨prog,w.params⟩ n) K ⟨prog,w.params⟩ (fun env sc s=>s.heap.NoLimit∧vc (Br (model prog w) K mk (DQ D0 K ⟨prog,w.params⟩ n)) K ⟨prog,w.params⟩ (PB R fun _ _ _=>False) (fun e _ s=>R (.error e) s) (D0 (.func body env)) sc s) (fun e _ s=>R (.error e) s)
  (PySem.W.Fast.tw11113344188204177931 fd.scope fd.globals fd.closure binds (fd.qualname ++ ".<locals>.") (some f) fd.code none fd.builtins)) (fun e _ s=>R (.error e) s) (PySem.W.Fast.tw9782568553167038054 fd args)
section
variable{prog:Program}{w:World}{K:Frag}{A:Around}{R:Result→Shared→Prop}{s:Shared}
theorem KZ{M:Model}{mk:Mk}{cf:Code→(Result→Sc→Shared→Prop)→Sc→Shared→Prop}(hcf:∀{c:Code}{R:Result→Sc→Shared→Prop}{sc:Sc}{s:Shared},K.In s.heap→cf c R sc s→codeAny M A c (fun r s'=>∃ sc',K.In s'.heap∧R r sc' s') s)
  {c:Code} {R:Result→Sc→Shared→Prop} {sc:Sc} {s:Shared} (X:K.In s.heap) (x:Aw M A K mk cf c R sc s):codeAny M A c (fun r s'=>∃ sc',K.In s'.heap∧R r sc' s') s:=by
 unfold Aw at x
 cases e:mk c with
 | none=>rw[e]at x; exact hcf X x
 | some g =>
  rw[e]at x
  refine codeAny_mono x fun r s' h=>?_
  obtain⟨x,d,e,X',h⟩:=h
  exact⟨_,X',e▸h⟩
theorem AL{c:Code}{G:Code→(Result→Sc→Shared→Prop)→Sc→Shared→Prop}{sc:Sc}(hh:A.handled=none)(hG:∀{c':Code}{R:Result→Sc→Shared→Prop}{sc:Sc}{s:Shared},K.In s.heap→G c' R sc s→codeAny (model prog w) (A.under c) c' (fun r s'=>∃ sc',K.In s'.heap∧R r sc' s') s)(X:K.In s.heap)
  (h:vc G K ⟨prog,w.params⟩ (PB R fun _ _ _=>False) (fun e _ s=>R (.error e) s) (D0 c) sc s):codeAny (model prog w) A c R s:=by
 refine codeAny_of_tree ?_
 rw[iX]
 refine wpAny_mono (uY (M:=model prog w) (A:=A.under c) (by rw[Around.mark_none]; exact hG) hh (D0 c) X h) (fun fin s' h=>?_) fun _ _ x=>x.elim fun _ x=>x.2
 obtain⟨_,_,h⟩:=h
 cases fin with
 | done f=>exact h
 | again c'=>exact h.elim
theorem hop{c:Code}{n:Nat}{G:Code→Sc→Shared→Prop}{sc:Sc}(hh:A.handled=none)(hG:∀ c' sc s,K.In s.heap→G c' sc s→c'.quiet=true∧codeAny (model prog w) A c' R s)(X:K.In s.heap)(h:Bf prog w K n c R G sc s):codeAny (model prog w) A c R s:=by
 refine codeAny_of_tree ?_
 rw[iX]
 refine wpAny_mono (uY (M:=model prog w) (A:=A.under c) (by rw[Around.mark_none]; exact gC (M:=model prog w) (iX prog w) n hh) hh (D0 c) X h) (fun fin s' h=>?_) fun _ _ x=>x.elim fun _ x=>x.2
 obtain⟨sc',X',h⟩:=h
 cases fin with
 | done f=>exact h
 | again c'=>exact hG c' sc' s' X' h
theorem TN{mk:Mk}{c c0:Code}(n:Nat)(sc:Sc)(P:Prop)(hh:A.handled=none)(X:K.In s.heap)(e:Be prog w A K mk n c c0 R sc s=P)(h:P):codeAny (model prog w) A c R s:=by
 refine hop hh (fun c1 sc s X h=>⟨h.1,hop hh (fun c' sc s X h=>⟨h.1.2,?_⟩) X h.2⟩) X (e.mpr h)
 rw[h.1.1]
 exact AL hh (KZ (A:=A.under c0) (cf:=DQ D0 K ⟨prog,w.params⟩ n) (gC (A:=A.under c0) (M:=model prog w) (iX prog w) n hh)) X h.2
theorem WV{A:Around}{mk:Mk}{n:Nat}{c:Code}{R:Result→Sc→Shared→Prop}{sc:Sc}{s:Shared}(hh:A.handled=none)(X:K.In s.heap)(x:Br (model prog w) K mk (DQ D0 K ⟨prog,w.params⟩ n) c R sc s):codeAny (model prog w) A c (fun r s'=>∃ sc',K.In s'.heap∧R r sc' s') s:=by
 refine KZ (mk:=mk) (cf:=DQ D0 K ⟨prog,w.params⟩ n) (sc:=sc) (gC (M:=model prog w) (iX prog w) n hh) X ?_
 unfold Br at x
 unfold Aw
 cases e:mk c with
 | none=>rw[e]at x; exact x
 | some g=>rw[e]at x; exact x A hh
theorem TF{f:Addr}{args:Args}{o:Obj}{fd:FuncData}{body:List Stmt}{mk:Mk}{n:Nat}{sc:Sc}(hh:A.handled=none)(X:K.In s.heap)(hroom:A.depth<recursionLimit)
  (ho:s.heap.get? f=some o) (hd:o.data = .func fd) (hco:fd.scope.isCoroutine=false) (hgen:fd.scope.isGenerator=false) (hbody:fd.body = .stmts body) (hcd:s.heap.CodeRec fd.code fd.qualname)
  (h:Bg prog w K mk n fd body f args R sc s):codeAny (model prog w) A (.call (.ref f) args) R s:=by
 refine codeAny_call_function hroom ho hd hco hgen hbody hcd ?_
 rw[PySem.W.Fast.te11113344188204177931,congrFun (congrFun PySem.W.Fast.te9782568553167038054 fd) args]
 refine wpAny_mono (uY (M:=model prog w) (A:=A.in1) (by rw[Around.mark_none]; exact gC (M:=model prog w) (iX prog w) n hh) hh _ X h) (fun binds s' h=>?_) fun _ _ x=>x.elim fun _ x=>x.2
 obtain⟨sc',X',h⟩:=h
 refine wpAny_mono (uY (M:=model prog w) (A:=A.in1) (by rw[Around.mark_none]; exact gC (M:=model prog w) (iX prog w) n hh) hh _ X' h) (fun env s' h=>?_) fun _ _ x=>x.elim fun _ x=>x.2
 obtain⟨sc',X',h1,h⟩:=h
 exact⟨h1,AL hh (WV hh) X' h⟩
end
noncomputable def dP:List PyData→PyData→Option (List PyData)
 | [],_=>none
 | y::ys,x=>if PyData.eqv y x then some ys else(dP ys x).map (y :: ·)
noncomputable def dY:List PyData→List PyData→Option (List PyData)
 | [],ts=>some ts
 | x::xs,ts=>(dP ts x).bind (dY xs)
noncomputable def CN:List PyData→List PyData→List PyData
 | [],acc=>acc
 | x::xs,acc=>CN xs (if acc.any (fun y=>PyData.eqv y x)then acc else acc++[x])
noncomputable def An(xs ys:List PyData):Bool:=match dY (CN xs []) (CN ys [])with
 | some r=>r.isEmpty
 | none=>false
theorem oE:∀{ts:List PyData}{d:PyData}{ts':List PyData},dP ts d=some ts'→∃ j,∃ h:j<ts.length,PyData.eqv ts[j] d=true∧(∀ m(hm:m<ts.length),m<j→PyData.eqv ts[m] d=false)∧ts'=ts.eraseIdx j
 | y::ys,d,ts',h=>by
  rw[dP]at h
  cases hy:PyData.eqv y d with
  | true =>
   rw[hy]at h
   cases h
   exact⟨0,Nat.zero_lt_succ _,hy,fun m _ hm=>absurd hm (Nat.not_lt_zero m),rfl⟩
  | false =>
   rw[hy]at h
   obtain⟨r,hr,e⟩:=Option.map_eq_some_iff.mp h
   obtain⟨j,hj,h1,h2,e'⟩:=oE hr
   exact⟨j+1,Nat.succ_lt_succ hj,h1,fun m hm hlt=>match m,hm,hlt with
    | 0,_,_=>hy
    | m+1,hm,hlt=>h2 m (Nat.lt_of_succ_lt_succ hm) (Nat.lt_of_succ_lt_succ hlt),by rw[← e,e']; rfl⟩
theorem oF:∀{ts:List PyData}{d:PyData},dP ts d=none→∀ m(hm:m<ts.length),PyData.eqv ts[m] d=false
 | y::ys,d,h,m,hm=>by
  rw[dP]at h
  cases hy:PyData.eqv y d with
  | true=>rw[hy]at h; cases h
  | false =>
   rw[hy]at h
   cases m with
   | zero=>exact hy
   | succ m=>exact oF (Option.map_eq_none_iff.mp h) m (Nat.lt_of_succ_lt_succ hm)
theorem wH:∀{xs:List PyData}{x:PyData},x∈xs→x.depth≤PyData.depthAll xs
 | y::ys,x,h=>by
  rw[PyData.depthAll]
  exact(List.mem_cons.mp h).elim (fun e=>e▸Nat.le_max_left _ _) fun h=>Nat.le_trans (wH h) (Nat.le_max_right _ _)
theorem NO{ρ:aN}{x:Nat}{d:PyData}(h:aY ρ x=some d):x<ρ.length:=by
 unfold aY at h
 cases e:ρ[x]? with
 | none=>rw[e]at h; cases h
 | some q=>exact(List.getElem?_eq_some_iff.mp e).1
theorem vX{ρ:aN}{x:Nat}(q:Option PyData)(h:x<ρ.length):aY (ρ.set x q) x=q:=by
 unfold aY
 rw[List.getElem?_set,if_pos rfl,if_pos h]
 cases q <;> rfl
theorem A3{h:Heap}{vs:List Value}{ds:List PyData}{as:List Addr}(j:Nat)(r:aU h vs ds as):∃ bs,aU h (vs.eraseIdx j) (ds.eraseIdx j) bs∧∀ a∈bs,a∈as :=
 aU.ind (P:=fun vs ds as=>∀ j,∃ bs,aU h (vs.eraseIdx j) (ds.eraseIdx j) bs∧∀ a∈bs,a∈as) (fun _=>⟨[],.nil,fun _ h=>h⟩) (fun r1 r2 i j=>by
  cases j with
  | zero=>exact⟨_,r2,fun a ha=>List.mem_append_right _ ha⟩
  | succ j =>
   obtain⟨bs,hb,hs⟩:=i j
   exact⟨_++bs,.cons r1 hb,fun a ha=>(List.mem_append.mp ha).elim (List.mem_append_left _) fun ha=>List.mem_append_right _ (hs a ha)⟩) r j
section
variable{Z:aE}{cl:Nat→List PyData→Option PyData}{lvl:Nat}{nm:List Str}{sc:Scope}
theorem HY{A:Around}{env:Env}{ρ:aN}{O:List (Option Nat×Addr)}{s:Shared}{Q:Value→Shared→Prop}{E:Value→Shared→Prop}{x:Expr}{p:PE}{q pos:Pos}{xs:List PyData}(hB:fC Z)(hg:aM sc "list" = true)(hst:aC x=false)(h:SE Z cl lvl nm sc x p)
  (X:Cx Z lvl nm sc A env ρ O s) (hx:aD cl p ρ=some (.list xs))
  (hQ:∀ b bs s',aZ Z s'→Kp Z.n s.heap s'.heap→Rd s'.heap (.ref b) (.list xs) (b::bs)→bL (.list xs)=true→(∀ yb∈O,yb.2∈b::bs→iP yb.1 (lT p))→s.heap.get? b=none→Z.n≤b→Q (.ref b) s') :
  wpAny (model Z.prog Z.w) A (eval (.Call (.Name "list" q) [x] [] pos) env) Q E s :=
 iK (ps:=.cons p .nil) (ds:=[.list xs]) hB X hg (v:=.type "list") (by decide) nofun nofun (aQ hst) (qY hst h) (by rw[iT,hx]; rfl) fun vs as s₁ I₁ k₁ r₁ ok₁ o₁ =>
  kD (m:=fun vs as=>(∀ yb∈O,yb.2∈as→iP yb.1 (rK (.cons p .nil)))→wpAny _ A (call (.type "list") vs) Q E s₁) r₁ (fun v as r1 o₁=>by
   obtain⟨la,ws,n,sl,as',e,ho,rvs,e'⟩:=eF r1
   subst e e'
   have hok:bL (.list xs)=true:=(aA ok₁).1
   have hn:Z.n≤s₁.heap.objs.size:=(X.he.kp k₁).size
   have hsz:ws.size=xs.length:=Array.length_toList.symm.trans (aT rvs)
   refine call_list_seq la (.inl rfl) ho rfl rfl (fun h' c' hk hnew=>?_) (hsz▸(y0 hok).1)
   refine hQ s₁.heap.objs.size as' _ (I₁.full (tk:=s₁.toks) hk) (k₁.trans (Kp.of hk)) (.list hnew ⟨rfl,rfl⟩ rfl (rvs.map fun _ _ _ e _=>hk _ _ e)) hok (fun yb hy hm=>(List.mem_cons.mp hm).elim (fun e=>?_) fun hm=>?_) (k₁.none hn (get?_ge (Nat.le_refl _))) hn
   ·exact absurd ((X.he.kp k₁).lt yb hy) (by rw[e]; exact Nat.lt_irrefl _)
   ·obtain⟨y,h1,h2⟩:=o₁ yb hy (List.mem_cons_of_mem _ hm)
    exact⟨y,by rw[rK,rK,List.append_nil]at h1; exact h1,h2⟩) o₁
theorem MP{A:Around}{E:Value→Shared→Prop}{s:Shared}{Q:Value→Shared→Prop}{b:Addr}{items:Array Value}{c:Nat}{sl:Array (Option Value)}{ts:List PyData}{bs cs:List Addr}{v:Value}{d:PyData}(hA:fG Z lvl A)
  (ho:s.heap.get? b=some { cls:=.type "list",dict:=none,data:=.seq items c,slots:=sl }) (r:aU s.heap items.toList ts bs) (rv:Rd s.heap v d cs) (hts:bL (.list ts)=true) (hd:bL d=true) (hdep:d.depth≤64)
  (hE:dP ts d=none→∀ h' tk e,Heap.NewExc s.heap h' e "ValueError" → E (.ref e) { s with heap:=h',toks:=tk })
  (hQ':∀ ts' j,dP ts d=some ts'→j<ts.length→ts'=ts.eraseIdx j→Q .none { s with heap:=s.heap.update b (Obj.mapSeq fun xs=>xs.eraseIdxIfInBounds j) }) :
  wpAny (model Z.prog Z.w) A (call (.builtin "list.remove") [.ref b,v]) Q E s:=by
 have hok:=y0 hts
 have hlen:items.size=ts.length:=Array.length_toList.symm.trans (aT r)
 obtain⟨e,he1,he2⟩:=A7 (A:=A) r rv hok.2 hd (hA.u (Nat.le_trans (Nat.min_le_right _ _) hdep))
 have hget:∀ m(hm:m<items.size),e items[m]=PyData.eqv (ts[m]'(hlen▸hm)) d:=fun m hm=>by
  have:(items.toList.map e)[m]? = _:=congrArg (·[m]?) he2
  rw[List.getElem?_map,List.getElem?_map,List.getElem?_eq_getElem (by rw[Array.length_toList]; exact hm),List.getElem?_eq_getElem (hlen▸hm)]at this
  exact Option.some.inj this
 cases hr:dP ts d with
 | none=>exact call_meets F.slot_list_remove ⟨_,ho,rfl⟩ F.entry_list_remove (F.args_list_remove_2 _ _) (mS b items c sl v e fun m hm=>(hget m hm).trans (oF hr m (hlen▸hm))) ⟨ho,he1,hA.handled,hE hr⟩
 | some ts' =>
  obtain⟨j,hj,h1,h2,h3⟩:=oE hr
  exact call_meets F.slot_list_remove ⟨_,ho,rfl⟩ F.entry_list_remove (F.args_list_remove_2 _ _) (uS b items c sl v e j (hlen▸hj) ((hget j _).trans h1) (fun m hm hlt=>(hget m hm).trans (h2 m (hlen▸hm) hlt)) (hlen▸hok.1)) ⟨ho,he1,hQ' ts' j hr hj h3⟩
theorem MN{A:Around}{env:Env}{σ:eH}{O:List (Option Nat×Addr)}{s:Shared}{x4 x5:Nat}{n4 n5:Str}{p4 p5 ap cp sp:Pos}{b:Addr}{ts:List PyData}{d:PyData}{Q:Flow→Shared→Prop}{E:Value→Shared→Prop}
  (X:Sx Z lvl nm sc A env σ O s) (hnd:nm.Nodup) (hx4:nm[x4]? = some n4) (hx5:nm[x5]? = some n5) (hk4:jZ sc n4=true) (hk5:jZ sc n5=true) (h4d:n4≠("__debug__" : Str)∧n4≠("__classdict__" : Str)) (h5d:n5≠("__debug__" : Str)∧n5≠("__classdict__" : Str)) (hline:(ap.endLine==cp.line)=true)
  (hl4:aY σ.env x4=some (.list ts)) (hl5:aY σ.env x5=some d) (hacc:uK env s.heap n4 (.ref b)) (h3:(some x4,b)∈O) (hdep:d.depth≤64)
  (hQ:∀ ts' s',dP ts d=some ts'→g9 Z nm env ⟨σ.env.set x4 (some (.list ts')),σ.own⟩ O s'→bE Z env O O s.heap s'.heap→uK env s'.heap n4 (.ref b)→Q .next s')
  (hE:dP ts d=none→∀ h' tk e,Heap.NewExc s.heap h' e "ValueError" → E (.ref e) { s with heap:=h',toks:=tk }) :
  wpAny (model Z.prog Z.w) A (exec (.Expr (.Call (.Attribute (.Name n4 p4) "remove" ap) [.Name n5 p5] [] cp) sp) env) Q E s:=by
 have S:=X.S
 have hint:interactive env=false:=by unfold interactive; rw[S.eok.kind]; rfl
 have hpl:aX [.Name n5 p5]:=aQ rfl
 have hv4:XO env n4:=(X.kind hk4).elim .inl fun h=>.inr (.inl h)
 obtain⟨v4,as4,ac4,r4,ok4,_⟩:=S.eok.vars x4 _ n4 hl4 hx4 hv4
 cases ac4.uniq hacc
 obtain⟨b',items,c,sl,bs,e,hobj,ra,rfl⟩:=eF r4
 cases e
 obtain⟨v5,as5,ac5,r5,ok5,_⟩:=S.eok.vars x5 _ n5 hl5 hx5 ((X.kind hk5).elim .inl fun h=>.inr (.inl h))
 refine wpAny_Expr (wpAny_Call_method_lateS (aS rfl _ _ _) (iW hpl (Nat.le_of_ble_eq_true rfl)) hline ?_) hint rfl
 refine wpAny_Name (ac4.load S.eok.kind h4d.2 ?_) (beq_eq_false_iff_ne.mpr h4d.1)
 refine⟨"list", "list.remove",F.plainAttrs_list,F.slot_list_remove,F.type_list_remove,⟨_,hobj,rfl⟩,fun a e=>by cases e; exact⟨_,hobj,rfl⟩,?_⟩
 refine aR nofun (hpl.1 env cp) (bJ (hpl.2.1 nofun env cp) ?_)
 refine Calls.spliced_cons (wpAny_Name (ac5.load S.eok.kind h5d.2 (Calls.spliced_nil ?_)) (beq_eq_false_iff_ne.mpr h5d.1))
 refine MP X.ha hobj ra r5 ok4 ok5 hdep hE fun ts' j hr hj hts'=>?_
 have hlen:items.size=ts.length:=Array.length_toList.symm.trans (aT ra)
 have herase:(items.eraseIdxIfInBounds j).toList=items.toList.eraseIdx j:=by
  unfold Array.eraseIdxIfInBounds
  rw[dif_pos (hlen▸hj),Array.toList_eraseIdx]
 obtain⟨bs',rb,hsub⟩:=A3 j ra
 subst hts'
 obtain⟨S',st',ac',_⟩:=tT (items':=items.eraseIdxIfInBounds j) S hnd hx4 hl4 hv4 hacc h3 hobj ra (Heap.SameBut.update s.heap b _) (Heap.get?_update_self (Obj.mapSeq fun xs=>xs.eraseIdxIfInBounds j) hobj rfl) (by rw[herase]; exact rb) (fun h=>r4.apart rfl (hsub _ h)) (fun a ha=>.inl (hsub a ha))
  (zE (Nat.le_trans (List.length_eraseIdx_le ..) (y0 ok4).1) (cZ.mpr fun q hq=>cZ.mp (y0 ok4).2 q (List.mem_of_mem_eraseIdx hq)))
 exact hQ _ _ hr S' st' ac'
theorem MO{A:Around}{env:Env}{σ:eH}{O:List (Option Nat×Addr)}{s:Shared}{x2 x4 x5:Nat}{n4 n5:Str}{p4 p5 p5' ap cp sp fpos:Pos}{iter:Expr}{b:Addr}{xs ts:List PyData}{R:Flow→Shared→Prop}{E:Value→Shared→Prop}
  (X:Sx Z lvl nm sc A env σ O s) (hnd:nm.Nodup) (hi:SI Z cl lvl nm sc iter (.of (.var x2))) (hset:gW iter=false) (hxs:wO cl (.of (.var x2)) σ.env=some xs)
  (h24:x2≠x4) (h45:x4≠x5) (hx4:nm[x4]? = some n4) (hx5:nm[x5]? = some n5) (hk4:jZ sc n4=true) (hk5:jZ sc n5=true) (h4d:n4≠("__debug__" : Str)∧n4≠("__classdict__" : Str)) (h5d:n5≠("__debug__" : Str)∧n5≠("__classdict__" : Str)) (hline:(ap.endLine==cp.line)=true)
  (hl4:aY σ.env x4=some (.list ts)) (hacc:uK env s.heap n4 (.ref b)) (h3:(some x4,b)∈O) (hdep:PyData.depthAll xs≤64) (hlen5:x5<σ.env.length)
  (hQ:∀ r s' σ' O',dY xs ts=some r→aY σ'.env x4=some (.list r)→g9 Z nm env σ' O' s'→bE Z env O O' s.heap s'.heap→R .next s')
  (hE:dY xs ts=none→∀ s₀ σ₀ O₀ O',g9 Z nm env σ₀ O₀ s₀→bE Z env O O' s.heap s₀.heap→∀ h' tk e,Heap.NewExc s₀.heap h' e "ValueError" → notedBy (model Z.prog Z.w) A env (fun x s'=>cameBackBy (model Z.prog Z.w) A env E x s') (.ref e) { s₀ with heap:=h',toks:=tk }) :
  wpAny (model Z.prog Z.w) A (exec (.For (.Name n5 p5) iter [.Expr (.Call (.Attribute (.Name n4 p4) "remove" ap) [.Name n5 p5'] [] cp) sp] [] fpos) env) R E s:=by
 refine FJ (fun k σ' O' s'=>∃ ts',dY (xs.drop k) ts'=dY xs ts∧aY σ'.env x4=some (.list ts')∧x5<σ'.env.length∧(some x4,b)∈O'∧uK env s'.heap n4 (.ref b)) X hnd hx5 hk5 hset hi hxs
  (fun I s₁ I₁ k₁=>⟨ts,rfl,hl4,hlen5,(dJ h3).resolve_right fun⟨z,hz,e⟩=>?_,hacc.kp k₁ X.S.eok.new fun c hc hk=>(X.S.eok.cellAt hk hc).1⟩)
  (fun k σ' O' s₀ s₂ I⟨ts',h1,h2,h3,h4,h5⟩_ _ _ _ T=>⟨ts',h1,h2,h3,h4,T.acc _ _ nofun h5⟩) (fun k d σ' O' s₂ s₃ hdk okd⟨ts',h1,h2,h3,h4,h5⟩X₃ _ T₃ out _=>?_) fun σ' O' s₀ s'⟨ts',h1,h2,_⟩S' st=>?_
 ·cases e
  exact h24 (List.mem_singleton.mp hz).symm
 ·obtain⟨hlt,e⟩:=List.getElem?_eq_some_iff.mp hdk
  rw[List.drop_eq_getElem_cons hlt,e,dY]at h1
  have h4':(some x4,b)∈cC O' [x5]:=bS.mpr ⟨h4,fun⟨z,hz,e⟩=>by cases e; exact h45 (List.mem_singleton.mp hz)⟩
  have hl4':aY (σ'.env.set x5 (some d)) x4=some (.list ts'):=(AI _ (Ne.symm h45)).trans h2
  refine wpAny_execs_cons (MN X₃ hnd hx4 hx5 hk4 hk5 h4d h5d hline hl4' (vX _ h3) (T₃.other hx5 (fun e=>h45 (iC hnd hx4 (e▸hx5))) h5) h4' (Nat.le_trans (wH (List.mem_of_getElem? hdk)) hdep) (fun ts'' s₄ hr S₄ st₄ ac₄=>?_) fun hr h' tk e' hx=>?_)
  ·rw[hr]at h1
   exact wpAny_execs_nil ⟨_,_,⟨ts'',h1,vX _ (NO hl4'),by rw[List.length_set,List.length_set]; exact h3,h4',ac₄⟩,S₄,st₄⟩
  ·rw[hr]at h1
   exact hE h1.symm s₃ _ _ _ X₃.S (out _ _ bE.refl) h' tk e' hx
 ·rw[List.drop_length]at h1
  exact hQ ts' s' σ' _ h1.symm h2 S' st
theorem uC{M:Model}{A:Around}{E:Value→Shared→Prop}{s:Shared}{base:Heap}{l:List Env}{e L:Addr}{cls a0:Value}{Q:Unit→Shared→Prop}(hh:Heap.HeldW base l e cls a0 L s.heap)
  (hQ:∀ h',Heap.HeldW base l e cls a0 L h'→s.heap.UpToSlots h'→Q () { s with heap:=h' }):wpAny M A (setFlight (.ref e) (some L)) Q E s:=by
 obtain⟨hkb,hen,hl,ht⟩:=hh
 obtain⟨oe,vs,T,oT,ts,he,hcls,hd,h1,hnT,hTe,hT,hdT,h3⟩:=ht
 have hsz3:3<ts.size:=(Array.getElem?_eq_some_iff.mp h3).1
 have other:∀ b,b≠T→(s.heap.update T (Obj.mapFields (·.setIfInBounds 3 (rawInt L)))).get? b=s.heap.get? b:=fun b hb=>Heap.get?_update_other _ _ (Ne.symm hb)
 have noRecord:∀ b o,s.heap.get? b=some o→(∀ vs,o.data ≠ .fields vs)→b≠T:=fun b o hb hnf q=>by
  rw[q,hT]at hb; injection hb with hb; subst hb; exact hnf ts hdT
 unfold setFlight
 refine wpAny_bind (wpAny_field he hd h1 ?_)
 rw[if_pos (show(Value.ref T != Value.none)=true from by simp)]
 refine wpAny_setField hT hdT hsz3 (hQ _ ⟨fun b o hbo=>(other b fun q=>by rw[q,hnT]at hbo; cases hbo).trans (hkb b o hbo),hen,
  hl.of_keeps fun b o hb hnf=>⟨o,(other b (noRecord b o hb hnf)).trans hb,rfl⟩,?_⟩ fun b o hb hnf=>⟨o.slots,(other b (noRecord b o hb hnf)).trans hb⟩)
 exact⟨oe,vs,T,_,_,(other e (Ne.symm hTe)).trans he,hcls,hd,h1,hnT,hTe,Heap.get?_update_self _ hT (Obj.isFreed_of_fields (Obj.data_mapFields hdT _)),Obj.data_mapFields hdT _,by simp[hsz3]⟩
theorem uW{prog:Program}{w:World}{A:Around}{E:Value→Shared→Prop}{s:Shared}{base:Heap}{l:List Env}{env:Env}{e L:Addr}{cls a0:Value}(hf:env.frame=some L)(hh:Heap.HeldW base l e cls a0 L s.heap)
  (hQ:∀ h',Heap.HeldW base l e cls a0 L h'→s.heap.UpToSlots h'→E (.ref e) { s with heap:=h' }):cameBackBy (model prog w) A env E (.ref e) s:=by
 have hh0:=hh
 obtain⟨hkb,hen,hl,ht⟩:=hh
 obtain⟨oe,vs,T,oT,ts,he,hcls,hd,h1,_⟩:=ht
 unfold cameBackBy
 refine wpAny_bind (wpAny_field he hd h1 ?_)
 rw[if_neg (by simp)]
 rw[hf]
 exact uC hh0 hQ
theorem yY{A:Around}{E:Value→Shared→Prop}{R:Flow→Shared→Prop}{env:Env}{outer:List Env}{σ:eH}{O:List (Option Nat×Addr)}{s:Shared}{e:Addr}{h₁:Heap}{tk:Nat}{p1 p2 p3 p4:Pos}{k:Nat}(X:Sx Z lvl nm sc A env σ O s)
  (hfr:A.frames=some (env::outer)) (hf:env.frame=some env.locals) (hg:aM sc "ValueError" = true) (hV:Z.mg "ValueError" = none∧Z.mb "ValueError" = some (.type "ValueError")) (hx:Heap.NewExc s.heap h₁ e "ValueError")
  (hR:∀ s',aZ Z s'→Kp Z.n s.heap s'.heap→R (.ret (.bool false)) s') :
  notedBy (model Z.prog Z.w) A env (fun x s'=>cameBackBy (model Z.prog Z.w) A env (fun x s₁=>wpAny (model Z.prog Z.w) A (noteFrame x env) (fun _ s₂=>wpAny (model Z.prog Z.w) A (setFlight x none) (fun _ s₃ =>
   wpAny (model Z.prog Z.w) A (handleBy x env [.ExceptHandler (some (.Name "ValueError" p1)) none [.Return (some (.Constant (.bool false) k p2)) p3] p4]) R E s₃) E s₂) E s₁) x s') (.ref e) { s with heap:=h₁,toks:=tk }:=by
 have hI:=X.S.inv
 obtain⟨fs,hfs,hfs2⟩:=X.ha.frames
 cases hfr.symm.trans hfs
 have hl1:h₁.FunFrames (oO s.heap Z.fr) (env::outer):=(jI hI hfs2).of_keeps fun b o hb _=>⟨o,hx.keeps b o hb,rfl⟩
 have hkb:(oO s.heap Z.fr).StaysIn h₁:=fun b o hb=>hx.keeps b o (tP s.heap Z.fr b o hb)
 have hen:(oO s.heap Z.fr).get? e=none:=by
  rw[get?_hide,hx.new]
  split <;> rfl
 obtain⟨ob,t,he,hc,hd⟩:=hx.there
 generalize hbe:oO s.heap Z.fr=base at hl1 hkb hen
 have fin:∀{h':Heap},base.StaysIn h'→s.heap.UpToSlots h'→aZ Z { s with heap:=h',toks:=tk }∧Kp Z.n s.heap h':=fun h1 h2=>⟨oH hI (hbe▸h1) h2,qD hI (hbe▸h1) h2⟩
 refine qR (s:={ s with heap:=h₁,toks:=tk }) hfr hl1 hf he hkb hen hd rfl rfl fun h₂⟨k1,k2,k3,k4⟩=>?_
 have up12:s.heap.UpToSlots h₂:=(Heap.UpToSlots.of_keeps hx.keeps).trans k4
 refine uW (s:={ s with heap:=h₂,toks:=tk }) hf ⟨k1,hen,k2,k3⟩ fun h₃ hh₃ up₃=>?_
 refine wpAny_noteFrame_againW hf hh₃.2.2.2 (wpAny_landsW hh₃ fun h₄ hh₄ up₄=>?_)
 have up14:s.heap.UpToSlots h₄:=(up12.trans up₃).trans up₄
 have I₄:=(fin hh₄.1 up14).1
 refine wpAny_handleBy_builtin (X := "ValueError") (T := "ValueError") (b:=true) F.isExc_ValueError F.notTuple_ValueError F.self_ValueError ?_
 obtain⟨g1,g2⟩:=fP hg
 refine Calls.Name_function_global X.S.eok.kind (X.hs.2.2 _ g1) (Calls.loadGlobal_builtin (mg:=Z.mg) (mb:=Z.mb) (by rw[X.S.eok.glob]; exact I₄.glob) hV.1 (by rw[X.S.eok.blt]; exact I₄.bltn) hV.2 ?_) g2
 obtain⟨ob',hob',hcls'⟩:=hh₄.2.2.2.at.there
 refine⟨rfl,⟨ob',hob',hcls'.trans hc⟩,?_⟩
 rw[if_pos rfl]
 refine wpAny_setFlight_noneW hh₄.1 hh₄.2.2.1 hh₄.2.2.2.at fun h₅ g1 g2 g3 g4=>?_
 have f5:=fin g1 (up14.trans fun b o hb hn=>⟨o.slots,g4 b o hb hn⟩)
 refine wpAny_execs_cons (wpAny_Return_some ?_)
 rw[arm_eval_Constant]
 exact wpAny_pure (hR _ f5.1 f5.2)
end
noncomputable def AX(fn nm:List Str)(sc:Scope)(d:Nat)(s1 s2 s5:Stmt)(x3 it:Expr)(l t e t2 e2 rm ve:Str)(ap cp:Pos):List Bool :=
 [nm.length==6,decide nm.Nodup,I8 fn nm sc (.assign 2 (.call d (.cons (.var 0) .nil))) s1,I8 fn nm sc (.assign 3 (.call d (.cons (.var 1) .nil))) s2,l==("list" : Str),aM sc "list",!aC x3,cO fn nm sc (.var 3) x3,
  nm[4]? == some t,nm[5]? == some e,t2==t,e2==e,rm==("remove" : Str),ve==("ValueError" : Str),aM sc "ValueError",jZ sc t,jZ sc e,t != ("__debug__" : Str),t != ("__classdict__" : Str),e != ("__debug__" : Str),e != ("__classdict__" : Str),
  ap.endLine==cp.line,!gW it,cO fn nm sc (.var 2) it,I8 fn nm sc (.ret (.nt (.var 4))) s5]
noncomputable def AO(e:Expr):Bool:=bF e fun c _ _=>match c with | .bool b=>!b | _=>false
noncomputable def yM(fn:List Str)(nm:List Str)(sc:Scope)(d:Nat)(body:List Stmt):Bool :=
 hM body fun s1 r=>hM r fun s2 r=>hM r fun s3 r=>hM r fun s4 r=>fJ r fun s5=>cG s3 fun ts v _=>fJ ts fun tn=>aW tn fun t _=>cQ v fun lf as ks _=>ks.isEmpty&&(aW lf fun l _=>fJ as fun x3 =>
 q6 s4 fun tb th te tf _=>te.isEmpty&&(tf.isEmpty&&(fJ tb fun fo=>nD fo fun en it fb fe _=>fe.isEmpty&&(aW en fun e _=>fJ fb fun fs=>iA fs fun fc _=>cQ fc fun at_ fas fks cp=>fks.isEmpty&&(bI at_ fun te rm ap=>aW te fun t2 _=>fJ fas fun ee=>aW ee fun e2 _ =>
 fJ th fun eh=>XY eh fun ty en hb _=>en.isNone&&(gT ty fun ty=>aW ty fun ve _=>fJ hb fun rs=>eD rs fun rv _=>gT rv fun rv=>AO rv&&(AX fn nm sc d s1 s2 s5 x3 it l t e t2 e2 rm ve ap cp).all id))))))
inductive TT(fn nm:List Str)(sc:Scope)(d:Nat):List Stmt→Prop
 | mk {s1 s2 s5:Stmt} {x3 it:Expr} {l t e t2 e2 rm ve:Str} {ap cp p1 p2 p3 p4 p5 p6 p7 p8 p9 p10 p11 p12 p13 p14:Pos} {k:Nat} (h:(AX fn nm sc d s1 s2 s5 x3 it l t e t2 e2 rm ve ap cp).all id=true) :
  TT fn nm sc d [s1,s2,.Assign [.Name t p1] (.Call (.Name l p2) [x3] [] p3) p4,
   .Try [.For (.Name e p5) it [.Expr (.Call (.Attribute (.Name t2 p6) rm ap) [.Name e2 p7] [] cp) p8] [] p9] [.ExceptHandler (some (.Name ve p10)) none [.Return (some (.Constant (.bool false) k p11)) p12] p13] [] [] p14,s5]
theorem NV{e:Expr}{m:Expr→Prop}(h:AO e=true)(k:∀ a p,m (.Constant (.bool false) a p)):m e:=bX h fun c a p h=>by
 cases c with
 | bool b=>cases b with
  | false=>exact k a p
  | true=>cases h
 | _=>cases h
theorem OJ{fn nm:List Str}{sc:Scope}{d:Nat}{body:List Stmt}(h:yM fn nm sc d body=true):TT fn nm sc d body:=by
 apply cW h; intro _ _ h; apply cW h; intro _ _ h; apply cW h; intro _ _ h; apply cW h; intro _ _ h; apply cB h; intro _ h; apply dM h; intro _ _ _ h; apply cB h; intro _ h; apply aO h; intro _ _ h
 apply cS h; intro _ _ _ _ h; refine aB h fun z h=>?_; apply dE z; apply aO h; intro _ _ h; apply cB h; intro _ h
 apply NG h; intro _ _ _ _ _ h; refine aB h fun z h=>?_; apply dE z; refine aB h fun z h=>?_; apply dE z; apply cB h; intro _ h; apply AC h; intro _ _ _ _ _ h; refine aB h fun z h=>?_; apply dE z; apply aO h; intro _ _ h; apply cB h; intro _ h
 apply pK h; intro _ _ h; apply cS h; intro _ _ _ _ h; refine aB h fun z h=>?_; apply dE z; apply bW h; intro _ _ _ h; apply aO h; intro _ _ h; apply cB h; intro _ h; apply aO h; intro _ _ h
 apply cB h; intro _ h; apply ZE h; intro _ _ _ _ h; refine aB h fun z h=>?_; apply rU z; apply rJ h; intro _ h; apply aO h; intro _ _ h; apply cB h; intro _ h; apply gP h; intro _ _ h; apply rJ h; intro _ h
 refine aB h fun z h=>?_; apply NV z; intro _ _
 exact .mk h
section
variable{Z:aE}{cl:Nat→List PyData→Option PyData}{lvl:Nat}{fn:List Str}
noncomputable def gX(xs' ys':List PyData):Bool:=match dY xs' ys' with | some r=>r.isEmpty | none=>false
theorem yX(hB:fC Z)(hV:Z.mg "ValueError" = none∧Z.mb "ValueError" = some (.type "ValueError"))(hC:∀ fr,eC (Z.at fr) lvl fn cl){d:Nat}{n:Str}{a:Addr}{o:Obj}{fd:FuncData}{body:List Stmt}{nm:List Str}(F:wW Z n a o fd body nm 2)(hck:yM fn nm fd.scope d body=true){xs ys xs' ys':List PyData}
  (hx:cl d [.list xs]=some (.list xs')) (hy:cl d [.list ys]=some (.list ys')) (hdep:PyData.depthAll xs'≤64)
  {A:Around} {s:Shared} {vs:List Value} {as:List Addr} {Q:Value→Shared→Prop} {E:Value→Shared→Prop} (hA:fG Z (lvl+1) A) (hI:aZ Z s) (hsz:Z.n≤s.heap.objs.size) (r:aU s.heap vs [.list xs,.list ys] as) (hok:cD [.list xs,.list ys]=true)
  (hQ:∀ v bs s',aZ Z s'→Kp Z.n s.heap s'.heap→Rd s'.heap v (.bool (gX xs' ys')) bs→bL (.bool (gX xs' ys'))=true→(∀ a∈bs,a∈as∨∀ o,s.heap.get? a=some o→o.cls = .none)→Q v s') :
  wpAny (model Z.prog Z.w) A (call (.ref a) vs) Q E s:=by
 refine t9 (size:=6) F (args:=[.list xs,.list ys]) rfl hA hI hsz r hok hQ fun env s₁ R E' O henv X _ hR=>?_
 obtain⟨outer,hout⟩:∃ outer,(A.deeper env).frames=some (env::outer):=by
  obtain⟨fs,h1,_⟩:=hA.frames
  exact⟨fs,by show A.frames.map _=_; rw[h1]; rfl⟩
 have hfm:env.frame=some env.locals:=by rw[henv]; rfl
 clear henv
 generalize s.heap.objs.size::Z.fr=fr at X hR
 have hB':fC (Z.at fr):=hB
 have hC':=hC fr
 obtain⟨hc⟩:=OJ hck
 rename_i s1 s2 s5 x3 it l t e t2 e2 rm ve ap cp p1 p2 p3 p4 p5 p6 p7 p8 p9 p10 p11 p12 p13 p14 k1
 have c2:nm.Nodup:=of_decide_eq_true (aJ hc 1 rfl)
 cases eq_of_beq (aJ hc 4 rfl)
 cases eq_of_beq (aJ hc 10 rfl)
 cases eq_of_beq (aJ hc 11 rfl)
 cases eq_of_beq (aJ hc 12 rfl)
 cases eq_of_beq (aJ hc 13 rfl)
 have c9:nm[4]? = some t:=eq_of_beq (aJ hc 8 rfl)
 have c10:nm[5]? = some e:=eq_of_beq (aJ hc 9 rfl)
 have c16:jZ fd.scope t=true:=aJ hc 15 rfl
 have c17:jZ fd.scope e=true:=aJ hc 16 rfl
 have hi0:d7 6 [.list xs,.list ys]=[some (.list xs),some (.list ys),none,none,none,none]:=rfl
 rw[hi0]at X
 refine wpAny_execs_cons (w5 hB' hC' c2 0 _ _ _ (aJ hc 2 rfl) X (fl:=.next ⟨[some (.list xs),some (.list ys),some (.list xs'),none,none,none],[]⟩) (congrArg (Option.map _) hx) fun s₂ O₂ S₂ st₂=>?_)
 have X₂:=X.go S₂
 refine wpAny_execs_cons (w5 hB' hC' c2 0 _ _ _ (aJ hc 3 rfl) X₂ (fl:=.next ⟨[some (.list xs),some (.list ys),some (.list xs'),some (.list ys'),none,none],[]⟩) (congrArg (Option.map _) hy) fun s₃ O₃ S₃ st₃=>?_)
 have X₃:=X.go S₃
 refine wpAny_execs_cons (wpAny_Assign_Name (HY (Z:=Z.at fr) (cl:=cl) (p:=.var 3) (xs:=ys') hB' (aJ hc 5 rfl) (bH (aJ hc 6 rfl)) (bB hB' hC' _ _ _ (aJ hc 7 rfl)).1 X₃.cx rfl fun b bs s₄ I₄ k₄ r₄ ok₄ ho hbnone hbn=>?_) rfl)
 refine qZ (Z:=Z.at fr) S₃ c2 c9 (X₃.kind c16) I₄ k₄ r₄ ok₄ hbnone hbn ho fun s₅ S₅ st₅ T₅=>?_
 obtain⟨nb,b',g1,g2,g3⟩:=S₅.own 4 List.mem_cons_self
 cases c9.symm.trans g1
 have stAll:=((st₂.trans st₃).trans st₅)
 refine wpAny_execs_cons (wpAny_Try_except (wpAny_execs_cons (MO (Z:=Z.at fr) (cl:=cl) (x2:=2) (x4:=4) (x5:=5) (X.go S₅) c2 (SU (bB hB' hC' _ _ _ (aJ hc 23 rfl)).1) (bH (aJ hc 22 rfl)) (xs:=xs') rfl (by decide) (by decide) c9 c10 c16 c17 ⟨bne_iff_ne.mp (aJ hc 17 rfl),bne_iff_ne.mp (aJ hc 18 rfl)⟩ ⟨bne_iff_ne.mp (aJ hc 19 rfl),bne_iff_ne.mp (aJ hc 20 rfl)⟩ (aJ hc 21 rfl)
  rfl g2 g3 hdep (Nat.le_of_ble_eq_true rfl) (fun rr s₆ σ' O₆ hr hl4 S₆ st₆=>wpAny_execs_nil (wpAny_execs_nil ?_)) fun hr s₀ σ₀ O₀ O' S₀ st h' tk e hx=>?_)))
 ·have he:gX xs' ys'=rr.isEmpty:=by unfold gX; rw[hr]
  refine wpAny_execs_cons (w5 hB' hC' c2 0 _ _ _ (aJ hc 24 rfl) (X.go S₆) (fl:=.ret (.bool rr.isEmpty)) ?_ fun v as' s₇ O₇ I₇ r₇ ok₇ hr₇ st₇=>?_)
  ·show((aY σ'.env 4).bind _).map Fl.ret=_
   rw[hl4]
   cases rr <;> rfl
  ·exact(hR v as' s₇ O₇ I₇ (by rw[he]; exact r₇) rfl (fun a ha=>hr₇ a (((stAll.trans st₆).resv a).mpr ha)) ((stAll.trans st₆).trans st₇)).1
 ·have he:gX xs' ys'=false:=by unfold gX; rw[hr]
  exact yY (Z:=Z.at fr) (X.go S₀) hout hfm (aJ hc 14 rfl) hV hx fun s' I' k'=>(hR _ [] s' _ I' (by rw[he]; exact .bool false) rfl nofun ((stAll.trans st).trans (bE.kp k'))).1
end
set_option genCtorIdx false in
inductive OV where
 | d (x:PyData)
 | o (k:Nat)
 | ty (T:String)
set_option genCtorIdx false in
inductive FO where
 | inst (c:Nat)
 | dict (es:List (Str×OV))
 | list (xs:List OV)
 | meth (k:Nat)
 | deq
 | plain
abbrev St:=List FO
abbrev LO:=List (Option OV)
set_option genCtorIdx false in
mutual
inductive OE where
 | lit (d:PyData)
 | var (x:Nat)
 | ty (T:String)
 | attr (c:Nat) (e:OE) (a:Str)
 | prop (c:Nat) (e:OE) (a:Str) (f:Nat)
 | nt (e:OE)
 | bool (isAnd:Bool) (a b:OE)
 | cmp (op:CmpOp) (a b:OE)
 | inT (a:OE) (l:List Str)
 | bin (op:Operator) (a b:OE)
 | call (f:Nat) (es:GE)
 | mcall (c:Nat) (e:OE) (m:Str) (f:Nat) (es:GE)
 | len (e:OE)
 | typ (e:OE)
 | intc (e:OE)
 | isStr (e:OE)
 | repl (e a b:OE)
 | joinL (e l:OE)
 | idx (e i:OE)
 | slc (e:OE) (lo hi:OO)
 | nil
 | addm (e:OE)
 | app (f e:OE)
 | appL (l e:OE)
 | fstr (a:Str) (e:OE) (b:Str)
 | neg (i:Int)
 | ext (j:Nat)
 | stuck
inductive GE where
 | nil
 | cons (e:OE) (es:GE)
inductive OO where
 | no
 | yes (e:OE)
end
set_option genCtorIdx false in
mutual
inductive OS where
 | assign (x:Nat) (e:OE)
 | assign2 (x y:Nat) (a b:OE)
 | setA (c:Nat) (o:OE) (a:Str) (e:OE)
 | aug (x:Nat) (op:Operator) (e:OE)
 | augA (c:Nat) (o:OE) (a:Str) (op:Operator) (e:OE)
 | expr (e:OE)
 | ife (c:OE) (a b:j4)
 | while_ (c:OE) (b:j4)
 | ret (e:OE)
 | brk
 | cont
 | asrt (e:OE)
 | stuck
inductive j4 where
 | nil
 | cons (s:OS) (ss:j4)
end
section
variable{α:Type}{G:Prop}{v:OV}{d:α}
noncomputable def IY(v:OV)(f:Nat→Option α):Option α:=match v with | .o k=>f k | _=>none
noncomputable def qL(v:OV)(f:PyData→Option α):Option α:=match v with | .d x=>f x | _=>none
theorem rT{f:Nat→Option α}(h:IY v f=some d)(k:∀ n,v = .o n→f n=some d→G):G:=by
 cases v with
 | o n=>exact k n rfl h
 | _=>cases h
theorem jM{f:PyData→Option α}(h:qL v f=some d)(k:∀ x,v = .d x→f x=some d→G):G:=by
 cases v with
 | d x=>exact k x rfl h
 | _=>cases h
noncomputable def fL(o:Option FO)(f:List OV→Option α):Option α:=o.bind fun q=>match q with | .list xs=>f xs | _=>none
noncomputable def fD(o:Option FO)(f:List (Str×OV)→Option α):Option α:=o.bind fun q=>match q with | .dict xs=>f xs | _=>none
noncomputable def fI(o:Option FO)(f:Nat→Option α):Option α:=o.bind fun q=>match q with | .inst xs=>f xs | _=>none
noncomputable def fM(o:Option FO)(f:Nat→Option α):Option α:=o.bind fun q=>match q with | .meth xs=>f xs | _=>none
theorem SK{o:Option FO}{f:List OV→Option α}(h:fL o f=some d)(k:∀ n,o=some (.list n)→f n=some d→G):G:=aV h fun q e h=>by
 cases q with
 | list n=>exact k n e h
 | _=>cases h
theorem Ej{o:Option FO}{f:List (Str×OV)→Option α}(h:fD o f=some d)(k:∀ n,o=some (.dict n)→f n=some d→G):G:=aV h fun q e h=>by
 cases q with
 | dict n=>exact k n e h
 | _=>cases h
theorem Ei{o:Option FO}{f:Nat→Option α}(h:fI o f=some d)(k:∀ n,o=some (.inst n)→f n=some d→G):G:=aV h fun q e h=>by
 cases q with
 | inst n=>exact k n e h
 | _=>cases h
theorem Eh{o:Option FO}{f:Nat→Option α}(h:fM o f=some d)(k:∀ n,o=some (.meth n)→f n=some d→G):G:=aV h fun q e h=>by
 cases q with
 | meth n=>exact k n e h
 | _=>cases h
theorem bD{β γ:Type}{o:Option (β×γ)}{f:β×γ→Option α}(h:o.bind f=some d)(k:∀ a b,o=some (a,b)→f (a,b)=some d→G):G:=aV h fun p e h=>k p.1 p.2 e h
theorem j5{β:Type}{o:Option α}{st st':β}(h:o.map (fun v=>(v,st))=some (d,st'))(k:o=some d→st=st'→G):G:=bY h fun a e h=>k (e.trans (congrArg (fun p=>some p.1) h)) (congrArg Prod.snd h)
end
noncomputable def rZ(v:OV):Option PyData:=qL v fun x=>if flat x then some x else none
noncomputable def j8:List (Str×OV)→Str→Option OV
 | [],_=>none
 | p::r,a=>if p.1==a then some p.2 else j8 r a
noncomputable def O6:List (Str×OV)→Str→OV→List (Str×OV)
 | [],a,v=>[(a,v)]
 | p::r,a,v=>if p.1==a then(p.1,v)::r else p::O6 r a v
noncomputable def jQ(c:Nat)(st:St)(v:OV):Option (Nat×List (Str×OV)):=IY v fun k=>fI st[k]? fun c'=>fD st[k+1]? fun es=>if c'=c then some (k,es)else none
noncomputable def JP(st:St)(v:OV):Option (Nat×List OV):=IY v fun k=>fL st[k]? fun xs=>some (k,xs)
noncomputable def S7(st:St)(v:OV):Option Nat:=IY v fun k=>fM st[k]? some
noncomputable def Eg(f:FO):Option Bool:=match f with
 | .list xs=>some !xs.isEmpty
 | .deq=>some false
 | _=>none
noncomputable def sI(st:St)(v:OV):Option Bool:=match v with
 | .d x=>if flat x then bV x else none
 | .o k=>st[k]?.bind Eg
 | .ty _=>none
noncomputable def pX(o:Option PyData):Option OV:=o.bind fun d=>if flat d then some (.d d)else none
noncomputable def GL(op:Operator)(a b:OV):Option OV:=(rZ a).bind fun x=>(rZ b).bind fun y=>pX (rM op x y)
noncomputable def Bp(v w:OV):Option Bool:=match v with
 | .d x=>if flat x then(match w with | .d y=>if flat y then Av x y else none | .o _=>some false | .ty _=>none)else none
 | .o j=>(match w with | .o k=>some (j==k)| .d x=>if flat x then some false else none | .ty _=>none)
 | .ty T=>(match w with | .ty U=>some (T==U)| _=>none)
noncomputable def BI(op:CmpOp)(a b:OV):Option OV:=match op with
 | .Is=>(Bp a b).map fun q=>.d (.bool q)
 | .IsNot=>(Bp a b).map fun q=>.d (.bool !q)
 | _=>(rZ a).bind fun x=>(rZ b).bind fun y=>pX (zI op x y)
noncomputable def mV(v:OV):Option Str:=qL v fun x=>qQ x some
noncomputable def u0:List OV→Option (List Str)
 | []=>some []
 | v::r=>(mV v).bind fun s=>(u0 r).map (s :: ·)
noncomputable def O5(s:Str):Option OV:=if s.length≤sizeLine then some (.d (.str s))else none
noncomputable def Ce(st:St)(v:OV):Option OV:=match v with
 | .d x=>qQ x fun s=>some (.d (.int s.length))
 | .o k=>fL st[k]? fun xs=>some (.d (.int xs.length))
 | .ty _=>none
noncomputable def fN(st:St)(v w:OV):Option OV:=qL w fun y=>match v with
 | .d x=>qQ x fun s=>pX (BG (.str s) y)
 | .o k=>iU y fun i=>fL st[k]? fun xs=>(dT i xs.length).bind (xs[·]?)
 | .ty _=>none
noncomputable def IV(v:OV)(lo hi:Option Int):Option OV:=(mV v).bind fun s=>pX (IW (.str s) lo hi)
noncomputable def u4(v:OV):Option Int:=qL v pU
noncomputable def Bt(v:OV):Option OV:=qL v fun x=>match x with
 | .int _=>some (.ty "int")
 | .str _=>some (.ty "str")
 | _=>none
noncomputable def IJ(f:Nat):List Str:=if f==18||f==19 then ["posix"]else []
noncomputable def jT(f:Nat)(vs:List Value):Args:=match IJ f with
 | []=>⟨vs,[]⟩
 | ks=>⟨vs.take (vs.length - ks.length),ks.zip (vs.drop (vs.length - ks.length))⟩
theorem iL{f:Nat}{vs:List Value}(h:IJ f=[]):jT f vs=⟨vs,[]⟩:=by unfold jT; rw[h]
noncomputable def Y5(e a b:OV):Option OV:=(mV e).bind fun s=>(mV a).bind fun x=>(mV b).bind fun _ =>
 if(Builtin.Str.occurrences s x 0 s.length (s.length+1)).isEmpty then some (.d (.str s))else none
noncomputable def JR(st:St)(e l:OV):Option OV:=(mV e).bind fun sep=>(JP st l).bind fun p=>(u0 p.2).bind fun ss =>
 if ss.foldl (fun n x=>n+x.length+sep.length) 0≤2 ^ 20 then some (.d (.str (Str.join sep ss)))else none
noncomputable def mY(st:St)(k:Nat)(v:OV):Option St:=fL st[k]? fun xs=>if xs.length≤1000 then some (st.set k (.list (xs++[v])))else none
section
variable(cl:Nat→List OV→St→Option (OV×St))(ex:Nat→LO→St→Option (OV×St))
mutual
noncomputable def cK:OE→LO→St→Option (OV×St)
 | .lit d,_,st=>if flat d then some (.d d,st)else none
 | .var x,ρ,st=>((ρ[x]?).join).map fun v=>(v,st)
 | .ty T,_,st=>some (.ty T,st)
 | .attr c e a,ρ,st=>(cK e ρ st).bind fun p=>(jQ c p.2 p.1).bind fun q=>(j8 q.2 a).map fun v=>(v,p.2)
 | .prop c e a f,ρ,st=>(cK e ρ st).bind fun p=>(jQ c p.2 p.1).bind fun q=>if(j8 q.2 a).isNone then cl f [p.1] p.2 else none
 | .nt e,ρ,st=>(cK e ρ st).bind fun p=>(sI p.2 p.1).map fun b=>(.d (.bool !b),p.2)
 | .bool q a b,ρ,st=>(cK a ρ st).bind fun p=>(sI p.2 p.1).bind fun t=>if t==q then cK b ρ p.2 else some p
 | .cmp op a b,ρ,st=>(cK a ρ st).bind fun p=>(cK b ρ p.2).bind fun r=>(BI op p.1 r.1).map fun v=>(v,r.2)
 | .inT a l,ρ,st=>(cK a ρ st).bind fun p=>(mV p.1).map fun s=>(.d (.bool (l.any fun x=>x==s)),p.2)
 | .bin op a b,ρ,st=>(cK a ρ st).bind fun p=>(cK b ρ p.2).bind fun r=>(GL op p.1 r.1).map fun v=>(v,r.2)
 | .call f es,ρ,st=>(wQ es ρ st).bind fun p=>cl f p.1 p.2
 | .mcall c e m f es,ρ,st=>(cK e ρ st).bind fun p=>(jQ c p.2 p.1).bind fun q=>if(j8 q.2 m).isNone then(wQ es ρ p.2).bind fun r=>cl f (p.1::r.1) r.2 else none
 | .len e,ρ,st=>(cK e ρ st).bind fun p=>(Ce p.2 p.1).map fun v=>(v,p.2)
 | .typ e,ρ,st=>(cK e ρ st).bind fun p=>(Bt p.1).map fun v=>(v,p.2)
 | .intc e,ρ,st=>(cK e ρ st).bind fun p=>qL p.1 fun x=>iU x fun i=>some (.d (.int i),p.2)
 | .isStr e,ρ,st=>(cK e ρ st).bind fun p=>(mV p.1).map fun _=>(.d (.bool true),p.2)
 | .repl e a b,ρ,st=>(cK e ρ st).bind fun p=>(cK a ρ p.2).bind fun q=>(cK b ρ q.2).bind fun r=>(Y5 p.1 q.1 r.1).map fun v=>(v,r.2)
 | .joinL e l,ρ,st=>(cK e ρ st).bind fun p=>(cK l ρ p.2).bind fun q=>(JR q.2 p.1 q.1).map fun v=>(v,q.2)
 | .idx e i,ρ,st=>(cK e ρ st).bind fun p=>(cK i ρ p.2).bind fun r=>(fN r.2 p.1 r.1).map fun v=>(v,r.2)
 | .slc e lo hi,ρ,st=>(cK e ρ st).bind fun p=>(XS lo ρ p.2).bind fun q=>(XS hi ρ q.2).bind fun r=>(IV p.1 q.1 r.1).map fun v=>(v,r.2)
 | .nil,_,st=>some (.o st.length,st++[.list []])
 | .addm e,ρ,st=>(cK e ρ st).bind fun p=>(JP p.2 p.1).map fun q=>(.o p.2.length,p.2++[.meth q.1])
 | .app f e,ρ,st=>(cK f ρ st).bind fun p=>(cK e ρ p.2).bind fun r=>(S7 r.2 p.1).bind fun j=>(mY r.2 j r.1).map fun st'=>(.d .none,st')
 | .appL l e,ρ,st=>(cK l ρ st).bind fun p=>(JP p.2 p.1).bind fun q=>(cK e ρ p.2).bind fun r=>(mY r.2 q.1 r.1).map fun st'=>(.d .none,st')
 | .fstr a e b,ρ,st=>(cK e ρ st).bind fun p=>(mV p.1).bind fun s=>(O5 (a++s++b)).map fun v=>(v,p.2)
 | .neg i,_,st=>some (.d (.int (-i)),st)
 | .ext j,ρ,st=>ex j ρ st
 | .stuck,_,_=>none
noncomputable def wQ:GE→LO→St→Option (List OV×St)
 | .nil,_,st=>some ([],st)
 | .cons e es,ρ,st=>(cK e ρ st).bind fun p=>(wQ es ρ p.2).map fun r=>(p.1::r.1,r.2)
noncomputable def XS:OO→LO→St→Option (Option Int×St)
 | .no,_,st=>some (none,st)
 | .yes e,ρ,st=>(cK e ρ st).bind fun p=>(u4 p.1).map fun i=>(some i,p.2)
end
set_option genCtorIdx false in
inductive lU where
 | next (ρ:LO)
 | brk (ρ:LO)
 | cont (ρ:LO)
 | ret (v:OV)
noncomputable def JF(c:Nat)(st:St)(o:OV)(a:Str)(v:OV):Option St:=(jQ c st o).bind fun q =>
 let es:=O6 q.2 a v
 if es.length≤100 then some (st.set (q.1+1) (.dict es))else none
noncomputable def cP(test:LO→St→Option (Bool×St))(body:LO→St→Option (lU×St)):Nat→LO→St→Option (lU×St)
 | 0,_,_=>none
 | n+1,ρ,st=>(test ρ st).bind fun t=>if t.1 then(body ρ t.2).bind fun r=>match r.1 with
   | .next ρ' | .cont ρ'=>cP test body n ρ' r.2
   | .brk ρ'=>some (.next ρ',r.2)
   | .ret v=>some (.ret v,r.2)
  else some (.next ρ,t.2)
variable(fuel:Nat)
noncomputable def jW(e:OE)(ρ:LO)(st:St):Option (Bool×St):=(cK cl ex e ρ st).bind fun p=>(sI p.2 p.1).map fun t=>(t,p.2)
mutual
noncomputable def BD:OS→LO→St→Option (lU×St)
 | .assign x e,ρ,st=>(cK cl ex e ρ st).map fun p=>(.next (ρ.set x (some p.1)),p.2)
 | .assign2 x y a b,ρ,st=>(cK cl ex a ρ st).bind fun p=>(cK cl ex b ρ p.2).map fun r=>(.next ((ρ.set x (some p.1)).set y (some r.1)),r.2)
 | .setA c o a e,ρ,st=>(cK cl ex e ρ st).bind fun p=>(cK cl ex o ρ p.2).bind fun q=>(JF c q.2 q.1 a p.1).map fun st'=>(.next ρ,st')
 | .aug x op e,ρ,st=>((ρ[x]?).join).bind fun a=>(cK cl ex e ρ st).bind fun p=>if op == .Add||op == .Sub then(GL op a p.1).map fun v=>(.next (ρ.set x (some v)),p.2)else none
 | .augA c o a op e,ρ,st=>(cK cl ex o ρ st).bind fun p=>(jQ c p.2 p.1).bind fun q=>(j8 q.2 a).bind fun old=>(cK cl ex e ρ p.2).bind fun r=>if op == .Add||op == .Sub then
   (GL op old r.1).bind fun v=>(JF c r.2 p.1 a v).map fun st'=>(.next ρ,st')else none
 | .expr e,ρ,st=>(cK cl ex e ρ st).bind fun p=>qL p.1 fun _=>some (.next ρ,p.2)
 | .ife c a b,ρ,st=>(jW cl ex c ρ st).bind fun t=>if t.1 then bN a ρ t.2 else bN b ρ t.2
 | .while_ c b,ρ,st=>cP (jW cl ex c) (bN b) fuel ρ st
 | .ret e,ρ,st=>(cK cl ex e ρ st).map fun p=>(.ret p.1,p.2)
 | .brk,ρ,st=>some (.brk ρ,st)
 | .cont,ρ,st=>some (.cont ρ,st)
 | .asrt e,ρ,st=>(jW cl ex e ρ st).bind fun t=>if t.1 then some (.next ρ,t.2)else none
 | .stuck,_,_=>none
noncomputable def bN:j4→LO→St→Option (lU×St)
 | .nil,ρ,st=>some (.next ρ,st)
 | .cons s ss,ρ,st=>(BD s ρ st).bind fun r=>match r.1 with
  | .next ρ'=>bN ss ρ' r.2
  | f=>some (f,r.2)
end
end
noncomputable def eJ:Option (lU×St)→Option (OV×St)
 | some (.ret v,st)=>some (v,st)
 | some (.next _,st)=>some (.d .none,st)
 | _=>none
structure OF where
 size:Nat
 arity:Nat
 dflt:List PyData
 body:j4
noncomputable def D1(pf:OF)(args:List OV):Option LO :=
 if args.length≤pf.arity&&pf.arity≤args.length+pf.dflt.length&&pf.arity≤pf.size&&pf.dflt.length≤pf.arity&&pf.dflt.all flat then
  some ((args++(pf.dflt.drop (pf.dflt.length+args.length - pf.arity)).map OV.d).map some++List.replicate (pf.size - pf.arity) none)else none
abbrev iO:=Nat→List OV→St→Option (OV×St)
noncomputable def qK(tab:Nat→Option OF)(prim:iO→iO)(ex:iO→Nat→LO→St→Option (OV×St))(fuel:Nat):Nat→iO
 | 0,_,_,_=>none
 | lvl+1,f,args,st=>match tab f with
  | some pf=>(D1 pf args).bind fun ρ=>eJ (bN (qK tab prim ex fuel lvl) (ex (qK tab prim ex fuel lvl)) fuel pf.body ρ st)
  | none=>prim (qK tab prim ex fuel lvl) f args st
def pR(v:Value)(d:PyData):Prop:=Rd default v d []∧bL d=true
theorem VO{h:Heap}{q:Bool}{vs:List Value}{ds:List PyData}{as:List Addr}(r:hH h q vs ds as):q=true→as=[]→∀ d,ds=[d]→flat d=true:=by
 cases r with
 | list=>exact fun _ e=>nomatch e
 | nil=>exact fun e=>nomatch e
 | cons=>exact fun e=>nomatch e
 | _=>exact fun _ _ _ e=>List.head_eq_of_cons_eq e▸rfl
theorem pR.rd{v:Value}{d:PyData}(x:pR v d)(h:Heap):Rd h v d []∧bL d=true∧flat d=true:=⟨x.1.map (fun _ _ ha=>nomatch ha),x.2,VO x.1 rfl rfl d rfl⟩
theorem WZ{h:Heap}{v:Value}{d:PyData}{as:List Addr}(r:Rd h v d as)(ok:bL d=true)(f:flat d=true):pR v d:=by
 cases xR r f
 exact⟨r.map (fun _ _ ha=>nomatch ha),ok⟩
def VE(μ:List Addr)(v:Value):OV→Prop
 | .d x=>pR v x
 | .o k=>∃ a,μ[k]? = some a∧v = .ref a
 | .ty T=>v = .type T
inductive gH(μ:List Addr):List Value→List OV→Prop
 | nil:gH μ [] []
 | cons {v vs x xs}:VE μ v x→gH μ vs xs→gH μ (v::vs) (x::xs)
inductive mF(μ:List Addr):List DictEntry→List (Str×OV)→Prop
 | nil:mF μ [] []
 | cons {e es n x xs}:(∃ t,e.key = .str n t)→VE μ e.val x→mF μ es xs→mF μ (e::es) ((n,x)::xs)
section
variable{μ μ':List Addr}
theorem dZ(p:μ <+: μ'){k:Nat}{a:Addr}(h:μ[k]? = some a):μ'[k]? = some a:=by
 obtain⟨t,rfl⟩:=p
 rw[List.getElem?_append_left (List.getElem?_eq_some_iff.mp h).1]; exact h
theorem VE.pre(p:μ <+: μ'){v:Value}:∀{x:OV},VE μ v x→VE μ' v x
 | .d _,h=>h
 | .o _,⟨a,h,e⟩=>⟨a,dZ p h,e⟩
 | .ty _,h=>h
theorem gH.pre(p:μ <+: μ'){vs:List Value}{xs:List OV}(h:gH μ vs xs):gH μ' vs xs:=by
 induction h with
 | nil=>exact .nil
 | cons h _ ih=>exact .cons (h.pre p) ih
theorem mF.pre(p:μ <+: μ'){es:List DictEntry}{xs:List (Str×OV)}(h:mF μ es xs):mF μ' es xs:=by
 induction h with
 | nil=>exact .nil
 | cons k h _ ih=>exact .cons k (h.pre p) ih
theorem gH.length{vs:List Value}{xs:List OV}(h:gH μ vs xs):vs.length=xs.length:=by
 induction h with
 | nil=>rfl
 | cons _ _ ih=>exact congrArg (· + 1) ih
theorem mF.length{es:List DictEntry}{xs:List (Str×OV)}(h:mF μ es xs):es.length=xs.length:=by
 induction h with
 | nil=>rfl
 | cons _ _ _ ih=>exact congrArg (· + 1) ih
theorem gH.get{vs:List Value}{xs:List OV}(h:gH μ vs xs):∀{k:Nat}{x:OV},xs[k]? = some x→∃ v,vs[k]? = some v∧VE μ v x:=by
 induction h with
 | nil=>exact fun e=>nomatch e
 | cons h _ ih=>exact fun{k x}=>k.casesOn (fun e=>⟨_,rfl,Option.some.inj e▸h⟩) fun k=>ih (k:=k)
theorem gH.append{vs ws:List Value}{xs ys:List OV}(h:gH μ vs xs)(g:gH μ ws ys):gH μ (vs++ws) (xs++ys):=by
 induction h with
 | nil=>exact g
 | cons h _ ih=>exact .cons h ih
theorem gH.drop(k:Nat){vs:List Value}{xs:List OV}(h:gH μ vs xs):gH μ (vs.drop k) (xs.drop k):=by
 induction h generalizing k with
 | nil=>rw[List.drop_nil,List.drop_nil]; exact .nil
 | cons h hs ih=>exact k.casesOn (.cons h hs) fun k=>ih k
theorem T1{vs:List Value}{x:OV}{xs:List OV}{m:List Value→Prop}(h:gH μ vs (x::xs))(k:∀ w ws,VE μ w x→gH μ ws xs→m (w::ws)):m vs:=by
 cases h with | cons h g=>exact k _ _ h g
theorem qJ{vs:List Value}{x:OV}{m:List Value→Prop}(h:gH μ vs [x])(k:∀ w,VE μ w x→m [w]):m vs:=T1 h fun w ws h g=>by cases g; exact k w h
theorem O4{vs:List Value}{x y:OV}{m:List Value→Prop}(h:gH μ vs [x,y])(k:∀ w u,VE μ w x→VE μ u y→m [w,u]):m vs:=T1 h fun w ws h g=>qJ (m:=fun ws=>m (w::ws)) g fun u g=>k w u h g
end
noncomputable abbrev dN(b:Addr):Obj:={ cls:=.type "builtin_function_or_method",data:=.fields #[.builtin "list.append",.ref b] }
def TR(o:Obj):Prop:=o.cls = .type "collections.deque" ∧ o.dict=none∧(∃ a b,o.data = .fields #[a,b])
noncomputable abbrev gO(ents:Array DictEntry)(n:Nat)(sl:Array (Option Value)):Obj:={ cls:=.type "dict",dict:=none,data:=.dict ents n,slots:=sl }
noncomputable abbrev bP(items:Array Value)(n:Nat)(sl:Array (Option Value)):Obj:={ cls:=.type "list",dict:=none,data:=.seq items n,slots:=sl }
def GF(cA:Nat→Option Addr)(μ:List Addr)(h:Heap)(k:Nat)(a:Addr):FO→Prop
 | .inst c=>∃ C dx,cA c=some C∧μ[k+1]? = some dx∧h.get? a=some (instObj C dx)
 | .dict es=>∃ ents n sl,h.get? a=some (gO ents n sl)∧mF μ ents.toList es∧es.length≤100
 | .list xs=>∃ items n sl,h.get? a=some (bP items n sl)∧gH μ items.toList xs∧xs.length≤1001
 | .meth j=>∃ b,μ[j]? = some b∧h.get? a=some (dN b)
 | .deq=>∃ o,h.get? a=some o∧TR o
 | .plain=>∃ o,h.get? a=some o∧o.cls ≠ .type "tuple"
structure lZ(Z:aE)(cA:Nat→Option Addr)(μ:List Addr)(st:St)(h:Heap):Prop where
 len:μ.length=st.length
 nd:μ.Nodup
 hi:∀ a∈μ,Z.n≤a∧a∉Z.fr
 at_:∀(k:Nat)(a:Addr)(f:FO),μ[k]? = some a→st[k]? = some f→GF cA μ h k a f
structure fY(Z:aE)(L:Addr→Prop)(μ μ':List Addr)(h h':Heap):Prop where
 pre:μ <+: μ'
 keep:∀ b o,h.get? b=some o→(o.cls ≠ .none∨Z.n≤b)→b∉μ→¬L b→Sl h' b o
 new:∀ a∈μ',a∉μ→Z.n≤a∧h.get? a=none∧¬L a
section
variable{Z:aE}{L:Addr→Prop}{cA:Nat→Option Addr}{μ μ' μ'':List Addr}{st st':St}{h h' h'':Heap}
theorem GF.ex{k:Nat}{a:Addr}{f:FO}(x:GF cA μ h k a f):∃ o,h.get? a=some o∧o.cls ≠ .type "tuple" := by
 cases f with
 | inst c=>exact let⟨_,_,_,_,e⟩:=x; ⟨_,e,nofun⟩
 | dict es=>exact let⟨_,_,_,e,_⟩:=x; ⟨_,e,by show Value.type "dict" ≠ _; decide⟩
 | list xs=>exact let⟨_,_,_,e,_⟩:=x; ⟨_,e,by show Value.type "list" ≠ _; decide⟩
 | meth j=>exact let⟨_,_,e⟩:=x; ⟨_,e,by show Value.type "builtin_function_or_method" ≠ _; decide⟩
 | deq=>exact let⟨o,e,h1,_⟩:=x; ⟨o,e,by rw[h1]; decide⟩
 | plain=>exact x
theorem GF.sl{k:Nat}{a:Addr}{f:FO}(x:GF cA μ h k a f)(p:μ <+: μ')(s:∀ o,h.get? a=some o→Sl h' a o):GF cA μ' h' k a f:=by
 cases f with
 | inst c=>exact let⟨C,dx,h1,h2,e⟩:=x; ⟨C,dx,h1,dZ p h2,(s _ e).nd nofun⟩
 | dict es=>exact let⟨ents,n,sl,e,h1,h2⟩:=x; (s _ e).elim (fun e'=>⟨ents,n,sl,e',h1.pre p,h2⟩) fun⟨_,sl',e'⟩=>⟨ents,n,sl',e',h1.pre p,h2⟩
 | list xs=>exact let⟨items,n,sl,e,h1,h2⟩:=x; ⟨items,n,sl,(s _ e).seq rfl,h1.pre p,h2⟩
 | meth j=>exact let⟨b,h1,e⟩:=x; ⟨b,dZ p h1,(s _ e).nd nofun⟩
 | deq=>exact let⟨o,e,h1,h2,a,b,h3⟩:=x; ⟨o,(s _ e).flds h3,h1,h2,a,b,h3⟩
 | plain=>exact let⟨_,e,hc⟩:=x; let⟨o',e',hc',_⟩:=(s _ e).ex; ⟨o',e',hc'▸hc⟩
theorem lZ.of(S:lZ Z cA μ st h){k:Nat}{f:FO}{a:Addr}(e:st[k]? = some f)(h1:μ[k]? = some a):GF cA μ h k a f:=S.at_ k a f h1 e
theorem lZ.ex(S:lZ Z cA μ st h){k:Nat}{a:Addr}(h1:μ[k]? = some a):∃ o,h.get? a=some o∧o.cls ≠ .type "tuple" :=
 (S.at_ k a _ h1 (List.getElem?_eq_getElem (S.len▸(List.getElem?_eq_some_iff.mp h1).1))).ex
theorem lZ.live(S:lZ Z cA μ st h)(a:Addr)(ha:a∈μ):∃ o,h.get? a=some o:=let⟨_,e⟩:=List.mem_iff_getElem?.mp ha; let⟨o,e,_⟩:=S.ex e; ⟨o,e⟩
theorem lZ.kp(S:lZ Z cA μ st h)(k:Kp Z.n h h'):lZ Z cA μ st h':=⟨S.len,S.nd,S.hi,fun j a f h1 h2=>(S.at_ j a f h1 h2).sl List.prefix_rfl fun o e=>k.k a o e (.inr (S.hi a (List.mem_of_getElem? h1)).1)⟩
theorem fY.kp(k:Kp Z.n h h'):fY Z L μ μ h h':=⟨List.prefix_rfl,fun b o e c _ _=>k.k b o e c,fun _ ha hn=>absurd ha hn⟩
theorem fY.refl:fY Z L μ μ h h:=.kp (Kp.refl _ _)
theorem fY.trans(x:fY Z L μ μ' h h')(y:fY Z L μ' μ'' h' h''):fY Z L μ μ'' h h'' where
 pre:=x.pre.trans y.pre
 keep:=fun b o e c hb hl=>(x.keep b o e c hb hl).next fun o' e' hc=>y.keep b o' e' (by rw[hc]; exact c) (fun hm=>nomatch (x.new b hm hb).2.1.symm.trans e) hl
 new:=fun a ha hn=>(Classical.em (a∈μ')).elim (fun hm=>x.new a hm hn) fun hm=>let⟨h1,h2,h3⟩:=y.new a ha hm; ⟨h1,nT (fun o e=>let⟨_,e',_⟩:=(x.keep a o e (.inr h1) hn h3).ex; nomatch h2.symm.trans e'),h3⟩
theorem fY.ns(x:fY Z L μ μ' h h'){a:Addr}{m:Str→Option Value}(ha:Z.n≤a)(hm:a∉μ)(hl:¬L a)(n:h.Ns a m):h'.Ns a m :=
 let⟨_,es,ep,e,hd,r⟩:=n; let⟨o',e',_,hd'⟩:=(x.keep _ _ e (.inr ha) hm hl).ex; ⟨o',es,ep,e',hd'.trans hd,r⟩
end
structure lX(Z:aE)(nm:List Str)(env:Env)(ρ:LO)(μ:List Addr)(h:Heap):Prop where
 lam:nm.length=14→env.code=Z.lam
 kind:env.scope.kind = .function
 glob:env.globals=mainGlobals
 blt:env.builtins=builtinsNs
 new:Z.n≤env.locals
 out:env.locals∉μ
 ns:∃ m,h.Ns env.locals m∧∀(x:Nat)(v:OV)(n:Str),(ρ[x]?).join=some v→nm[x]? = some n→∃ w,m n=some w∧VE μ w v
theorem lX.ne{Z:aE}{nm:List Str}{env:Env}{ρ:LO}{μ:List Addr}{h:Heap}(x:lX Z nm env ρ μ h){a:Addr}(ha:h.get? a=none):a≠env.locals:=fun e=>by
 obtain⟨m,⟨o,_,_,e',_⟩,_⟩:=x.ns
 rw[← e,ha]at e'; cases e'
theorem lX.step{Z:aE}{nm:List Str}{env:Env}{ρ:LO}{μ μ':List Addr}{h h':Heap}(x:lX Z nm env ρ μ h)(t:fY Z (fun _=>False) μ μ' h h'):lX Z nm env ρ μ' h' :=
 { x with
  out:=fun hm=>x.ne (t.new _ hm x.out).2.1 rfl
  ns:=let⟨m,hm,hv⟩:=x.ns; ⟨m,t.ns x.new x.out id hm,fun y v n h1 h2=>let⟨w,h3,h4⟩:=hv y v n h1 h2; ⟨w,h3,h4.pre t.pre⟩⟩ }
theorem lX.size{Z:aE}{nm:List Str}{env:Env}{ρ:LO}{μ:List Addr}{h:Heap}(x:lX Z nm env ρ μ h):Z.n≤h.objs.size :=
 let⟨_,hm,_⟩:=x.ns; Nat.le_trans x.new (Nat.le_of_lt hm.lt)
theorem fY.inL{Z:aE}{nm:List Str}{env:Env}{ρ:LO}{μ μ':List Addr}{h h':Heap}(hE:lX Z nm env ρ μ h)(x:fY Z (fun _=>False) μ μ' h h'):fY Z (· = env.locals) μ μ' h h' :=
 ⟨x.pre,fun b o e c hb _=>x.keep b o e c hb id,fun a ha hn=>let⟨h1,h2,_⟩:=x.new a ha hn; ⟨h1,h2,hE.ne h2⟩⟩
end Kt.Internal
end
section
open PySem PySem.W PyProof.Rows PySem.Calls Builtin Builtin.ObjectAttr
namespace Kt.Internal
theorem t4{μ:List Addr}{es:List DictEntry}{xs:List (Str×OV)}(h:mF μ es xs):es.any (·.refKey)=false:=by
 induction h with
 | nil=>rfl
 | cons k _ _ ih =>
  obtain⟨t,hk⟩:=k
  rw[List.any_cons,ih]
  unfold DictEntry.refKey
  rw[hk]
  rfl
theorem v8{e:DictEntry}{n a:Str}(k:∃ t,e.key = .str n t):e.key.isStr a=(n==a):=by obtain⟨t,hk⟩:=k; rw[hk]; rfl
theorem wF{μ:List Addr}{a:Str}{es:List DictEntry}{xs:List (Str×OV)}(h:mF μ es xs) :
  (∀ v,j8 xs a=some v→∃ e,es.find? (·.key.isStr a)=some e∧VE μ e.val v)∧(j8 xs a=none→es.find? (·.key.isStr a)=none):=by
 induction h with
 | nil=>exact⟨nofun,fun _=>rfl⟩
 | cons k hv _ ih =>
  rw[List.find?_cons,v8 k,j8]
  dsimp only
  rename_i n _ _ _
  cases n==a with
  | true=>exact⟨fun v e=>⟨_,rfl,Option.some.inj e▸hv⟩,nofun⟩
  | false=>exact ih
theorem OC{μ:List Addr}{a:Str}{hsh:Int}{t:Tok}{w:Value}{v:OV}(hw:VE μ w v){es:List DictEntry}{xs:List (Str×OV)}(h:mF μ es xs):mF μ (putL a hsh (.str a t) w es) (O6 xs a v):=by
 induction h with
 | nil=>exact .cons ⟨t,rfl⟩ hw .nil
 | cons k hv hs ih =>
  rw[putL,O6,v8 k]
  dsimp only
  rename_i n _ _
  cases n==a with
  | true=>exact .cons k hw hs
  | false=>exact .cons k hv ih
noncomputable def zN(K:Frag)(C:Addr)(a:Str):Bool:=plainGet K C a&&(hasDictIn K C&&gT (findIn K (.ref C) a) (noGet K))
noncomputable def zK(K:Frag)(C:Addr)(a:Str):Bool:=findIn K (.ref C) "__setattr__" == some (some (.builtin "object.__setattr__"))&&(plainOver K C&&(takerIn K C a==some none&&hasDictIn K C))
noncomputable def B8(K:Frag)(C:Addr)(m:Str)(f:Addr):Bool:=plainGet K C m&&(findIn K (.ref C) m==some (some (.ref f))&&(isFn K (.ref f)&&(fnIn K f&&keepIn K (.ref f))))
noncomputable def Cu(v:Value)(f:Addr→Bool):Bool:=hZ v f
noncomputable def BV(K:Frag)(C:Addr)(a:Str)(f:Addr):Bool:=plainGet K C a&&(hasDictIn K C&&gT (findIn K (.ref C) a) fun x=>gT x fun x=>hZ x fun p =>
 specialIn K (.ref p) "__get__" == some (some (.builtin "property.__get__"))&&(takesIn K (.ref p)==some true&&gT (recIn K p "property") fun l=>hM l fun g _=>hZ g fun g=>g==f))
structure dF(Z:aE)(cA:Nat→Option Addr)(L:Addr→Prop)(μ:List Addr)(h:Heap)(μ':List Addr)(st':St)(s':Shared):Prop where
 i:aZ Z s'
 t:fY Z L μ μ' h s'.heap
 so:lZ Z cA μ' st' s'.heap
abbrev jK:Addr→Prop:=fun _=>False
section
variable{Z:aE}{cA:Nat→Option Addr}{L:Addr→Prop}{μ μ' μ'':List Addr}{st st' st'':St}{s s' s'':Shared}{h:Heap}{K:Frag}
theorem dF.trans(a:dF Z cA L μ h μ' st' s')(b:dF Z cA L μ' s'.heap μ'' st'' s''):dF Z cA L μ h μ'' st'' s'':=⟨b.i,a.t.trans b.t,b.so⟩
theorem dF.here(I:aZ Z s)(S:lZ Z cA μ st s.heap):dF Z cA L μ s.heap μ st s:=⟨I,.refl,S⟩
theorem dF.tok(a:dF Z cA L μ h μ' st' s')(tk:Nat):dF Z cA L μ h μ' st' { s' with toks:=tk }:=⟨a.i.tok tk,a.t,a.so⟩
theorem dF.kp(a:dF Z cA L μ h μ' st' s')(I:aZ Z s'')(k:Kp Z.n s'.heap s''.heap):dF Z cA L μ h μ' st' s'':=⟨I,a.t.trans (.kp k),a.so.kp k⟩
theorem getElem?_nodup {α:Type} {l:List α} (nd:l.Nodup) {i j:Nat} {a:α} (h1:l[i]? = some a) (h2:l[j]? = some a):i=j :=
 let⟨_,e1⟩:=List.getElem?_eq_some_iff.mp h1; let⟨_,e2⟩:=List.getElem?_eq_some_iff.mp h2; (List.getElem_inj nd).mp (e1.trans e2.symm)
theorem dF.turn(a:dF Z cA L μ h μ' st' s'){k:Nat}{b:Addr}{f:FO}{h':Heap}{tk:Nat}(hk:μ'[k]? = some b)(hb:Heap.SameBut b s'.heap h')(hf:GF cA μ' h' k b f):dF Z cA L μ h μ' (st'.set k f) { s' with heap:=h',toks:=tk }:=by
 have hm:=List.mem_of_getElem? hk
 have hh:=a.so.hi b hm
 refine⟨a.i.same hh.1 hb (fun h=>absurd h hh.2) tk,a.t.trans ⟨List.prefix_rfl,fun c o e _ hn _=>.inl ((hb.2 c fun e'=>hn (e'▸hm)).trans e),fun _ h hn=>absurd h hn⟩,?_⟩
 refine⟨a.so.len.trans List.length_set.symm,a.so.nd,a.so.hi,fun j c g h1 h2=>?_⟩
 by_cases e:j=k
 ·subst e
  cases hk.symm.trans h1
  rw[List.getElem?_set_self (a.so.len▸(List.getElem?_eq_some_iff.mp hk).1)]at h2
  cases h2; exact hf
 ·rw[List.getElem?_set_ne (Ne.symm e)]at h2
  exact(a.so.at_ j c g h1 h2).sl List.prefix_rfl fun o e'=>.inl ((hb.2 c fun e'=>e (getElem?_nodup a.so.nd (e'▸h1) hk)).trans e')
theorem dF.mores(a:dF Z cA L μ h μ' st' s'){bs:List Addr}{fs:List FO}{h':Heap}{tk:Nat}(hlen:bs.length=fs.length)(hnd:bs.Nodup)(hb:∀ b∈bs,s'.heap.get? b=none∧(Z.n≤b∧b∉Z.fr)∧¬L b)(hk:∀ c o,s'.heap.get? c=some o→h'.get? c=some o)
  (hf:∀ i b f,bs[i]? = some b→fs[i]? = some f→GF cA (μ'++bs) h' (st'.length+i) b f):dF Z cA L μ h (μ'++bs) (st'++fs) { s' with heap:=h',toks:=tk }:=by
 refine⟨a.i.full hk,a.t.trans ⟨List.prefix_append _ _,fun c o e _ _ _=>.inl (hk c o e),fun c hc hnb=>(List.mem_append.mp hc).elim (fun h=>absurd h hnb) fun h=>⟨(hb c h).2.1.1,(hb c h).1,(hb c h).2.2⟩⟩,?_⟩
 refine⟨by rw[List.length_append,List.length_append,a.so.len,hlen],List.nodup_append.mpr ⟨a.so.nd,hnd,fun x hx y hy e=>?_⟩,fun c hc=>(List.mem_append.mp hc).elim (a.so.hi c) fun h=>(hb c h).2.1,fun j c g h1 h2=>?_⟩
 ·obtain⟨o,ho⟩:=a.so.live x hx
  rw[e,(hb y hy).1]at ho; cases ho
 ·rcases Nat.lt_or_ge j μ'.length with hj | hj
  ·rw[List.getElem?_append_left hj]at h1
   rw[List.getElem?_append_left (a.so.len▸hj)]at h2
   exact(a.so.at_ j c g h1 h2).sl (List.prefix_append _ _) fun o e=>.inl (hk c o e)
  ·rw[List.getElem?_append_right hj]at h1
   rw[List.getElem?_append_right (a.so.len▸hj),← a.so.len]at h2
   exact Nat.add_sub_cancel' (a.so.len▸hj:st'.length≤j)▸a.so.len▸hf _ c g h1 h2
theorem dF.more(a:dF Z cA L μ h μ' st' s'){b:Addr}{f:FO}{h':Heap}{tk:Nat}(hb:s'.heap.get? b=none)(hn:Z.n≤b)(hfr:b∉Z.fr)(hl:¬L b)(hk:∀ c o,s'.heap.get? c=some o→h'.get? c=some o)(hf:GF cA (μ'++[b]) h' st'.length b f) :
  dF Z cA L μ h (μ'++[b]) (st'++[f]) { s' with heap:=h',toks:=tk } :=
 a.mores rfl (List.nodup_cons.mpr ⟨nofun,.nil⟩) (fun c hc=>List.mem_singleton.mp hc▸⟨hb,⟨hn,hfr⟩,hl⟩) hk fun i=>i.casesOn (fun c g h1 h2=>Option.some.inj h1▸Option.some.inj h2▸hf) fun i c g h1=>nomatch h1
theorem lZ.instK(S:lZ Z cA μ st h){G:Prop}{c k:Nat}{C:Addr}{es:List (Str×OV)}{o:OV}{w:Value}(hC:cA c=some C)(e:jQ c st o=some (k,es))(hw:VE μ w o)
  (go:∀ x dx ents n sl,w = .ref x→μ[k+1]? = some dx→InstAt h x (instObj C dx) C (some (gO ents n sl))→mF μ ents.toList es→G):G :=
 rT e fun j e1 e=>Ei e fun c' h1 e=>Ej e fun es' h2 e=>hY e fun hc e=>by
 cases e
 subst hc e1
 obtain⟨x,g1,rfl⟩:=hw
 obtain⟨C',dx,g2,g3,g4⟩:=S.of h1 g1
 cases hC.symm.trans g2
 obtain⟨ents,n,sl,g6,g7,_⟩:=S.of h2 g3
 exact go x dx ents n sl rfl g3 ⟨g4,rfl,rfl,g6⟩ g7
theorem v9{w:Value}{v:OV}(h:VE μ w v):handedIn w=true:=by
 cases v with
 | d y=>obtain⟨r,_⟩:=h; cases r <;> rfl
 | o k=>obtain⟨_,_,rfl⟩:=h; rfl
 | ty T=>cases h; rfl
theorem X9{A:Around}{E:Value→Shared→Prop}{Q:Value→Shared→Prop}{c k:Nat}{es:List (Str×OV)}{o:OV}{a:Str}{v:OV}{w:Value}{expr:Bool}{C:Addr}(X:K.In s.heap)(S:lZ Z cA μ st s.heap)
  (hC:cA c=some C) (hok:zN K C a=true) (e:jQ c st o=some (k,es)) (hl:j8 es a=some v) (hw:VE μ w o)
  (hQ:∀ u,VE μ u v→Q u { s with toks:=s.toks+1 }):wpAny (model Z.prog Z.w) A (getAttr w a expr) Q E s :=
 S.instK hC e hw fun x dx ents n sl ew _ II En=>aB hok fun g1 h=>aB h fun g2 h=>by
 subst ew
 obtain⟨attr,hattr,g3⟩:=eG h
 obtain⟨en,h8,h9⟩:=(wF (a:=a) En).1 v hl
 exact get_value X II (plainGet_of g1).1 (findObj_own (v:=en.val) g2 hattr g3 (by show(match ents.toList.find? _ with | some e=>_ | none=>_)=_; rw[h8])) (v9 h9) (hQ _ h9)
theorem HX{ents:Array DictEntry}{n:Nat}{sl:Array (Option Value)}{xs:List (Str×OV)}{a:Str}(h:mF μ ents.toList xs)(e:j8 xs a=none):lookIn a (gO ents n sl)=some none:=by
 unfold lookIn; dsimp only; rw[(wF (a:=a) h).2 e,t4 h]; rfl
theorem ZU{A:Around}{E:Value→Shared→Prop}{Q:Value×List Value→Shared→Prop}{c k:Nat}{es:List (Str×OV)}{o:OV}{a:Str}{w:Value}{pl:Sem Bool}{C f:Addr}(X:K.In s.heap)(S:lZ Z cA μ st s.heap)
  (hC:cA c=some C) (hok:B8 K C a f=true) (e:jQ c st o=some (k,es)) (hl:j8 es a=none) (hw:VE μ w o)
  (hQ:Q (.ref f,[w]) s):wpAny (model Z.prog Z.w) A (getMethod w a pl) Q E s :=
 S.instK hC e hw fun x dx ents n sl ew _ II En=>aB hok fun g1 h=>aB h fun g2 h=>aB h fun g3 h=>aB h fun g4 _=>by
 subst ew
 exact method_fn (od:=some _) X II (plainGet_of g1).1 (plainGet_of g1).2 (eq_of_beq g2) (eq_of_beq g3) (by show(lookIn a _).map _=_; rw[HX En hl]; rfl) hQ
theorem ZB{A:Around}{E:Value→Shared→Prop}{Q:Value→Shared→Prop}{c k:Nat}{es:List (Str×OV)}{o:OV}{a:Str}{w:Value}{expr:Bool}{C f:Addr}(X:K.In s.heap)(S:lZ Z cA μ st s.heap)
  (hC:cA c=some C) (hok:BV K C a f=true) (e:jQ c st o=some (k,es)) (hw:VE μ w o)
  (h:codeAny (model Z.prog Z.w) A.in1 (.call (.ref f) ⟨[w],[]⟩) (fun r s'=>∃ v,r = .ok (.ret v)∧wpAny (model Z.prog Z.w) A (handedOut v) Q E s') { s with toks:=s.toks+1 }):wpAny (model Z.prog Z.w) A (getAttr w a expr) Q E s :=
 S.instK hC e hw fun x dx ents n sl ew _ II En=>aB hok fun g1 hk=>aB hk fun g2 hk=>by
 subst ew
 obtain⟨y,e1,hk⟩:=eG hk
 obtain⟨z,e2,hk⟩:=eG hk
 obtain⟨p,e3,hk⟩:=mI hk
 subst e2 e3
 obtain⟨g3,hk⟩:=aA hk
 obtain⟨g4,hk⟩:=aA hk
 obtain⟨l,hrec,hk⟩:=eG hk
 obtain⟨rest,rfl⟩:∃ rest,l = .ref f::rest:=cW (m:=fun l=>∃ rest,l=Value.ref f::rest) hk fun g r hk=>KO (m:=fun g=>∃ rest,g::r=Value.ref f::rest) hk fun g' hk=>⟨r,by rw[eq_of_beq hk]⟩
 have hcls:(clsIn K C).isSome=true:=by
  obtain⟨cd,hc,_⟩:=any_some g2
  rw[hc]; rfl
 refine get_bind (od:=some _) X II (plainGet_of g1).1 (findObj_data hcls e1 (eq_of_beq g3) (eq_of_beq g4)) (plainGet_of g1).2 (wpAny_call (prop_get (s:={ s with toks:=s.toks+1 }) X hrec ?_))
 exact codeAny_mono h fun r s'⟨v,e,hv⟩=>by subst e; exact hv
theorem XW{A:Around}{E:Value→Shared→Prop}{Q:Unit→Shared→Prop}{c:Nat}{o:OV}{a:Str}{v:OV}{w u:Value}{C:Addr}{st'':St}(X:K.In s'.heap)(at_:dF Z cA L μ h μ' st' s')
  (hC:cA c=some C) (hok:zK K C a=true) (e:JF c st' o a v=some st'') (hw:VE μ' w o) (hu:VE μ' u v)
  (hQ:∀ s'',dF Z cA L μ h μ' st'' s''→Q () s''):wpAny (model Z.prog Z.w) A (setAttr w a u) Q E s' :=
 bD e fun k es hi e=>hY e fun hsz e=>at_.so.instK hC hi hw fun x dx ents n sl ew h3 II En=>aB hok fun g1 hk=>aB hk fun g2 hk=>aB hk fun g3 g4=>by
 subst ew
 cases e
 have h5:s'.heap.get? dx=some (gO ents n sl):=II.dict
 refine set_plain X II (eq_of_beq g1) (osa_open (s:={ s' with toks:=s'.toks+1 }) X II g2 (eq_of_beq g3) fun b=>?_)
 obtain⟨cd,hcd,hd'⟩:=any_some g4
 refine wpAny_bind (wpAny_pure (wpAny_bind (wpAny_bind (wpAny_loadPart II.at_ (wpAny_bind (looks_clsIn (M:=model Z.prog Z.w) X hcd _ _ _ _ (fun _ _ e=>e) ?_))))))
 rw[hd']
 refine wpAny_pure (a:=some dx) (wpAny_bind (wpAny_pure (wpAny_bind ?_)))
 unfold nsSet
 refine wpAny_bind (wpAny_bind (wpAny_askSetting (wpAny_pure (wpAny_bind (wpAny_mkText (wpAny_bind (wpAny_loadPart h5 ?_)))))))
 dsimp only
 have hc:(!ents.any (·.key.isStr a)&&ents.any (·.refKey))=false:=by
  rw[show ents.any (fun x=>x.refKey)=false from by rw[← Array.any_toList]; exact t4 En,Bool.and_false]
 rw[aRefKeyMayBeTheName_at,hc]
 have hput:∀ hsh tk,Obj.putName a hsh (.str a tk) u (gO ents n sl)=gO (putL a hsh (.str a tk) u ents.toList).toArray (putN a ents.toList n) sl:=fun hsh tk=>by
  have:=putName_dict a hsh (.str a tk) u ents.toList n
  rw[Obj.putName_eq]at this ⊢
  unfold Obj.putNameByArray at this ⊢
  dsimp only[dictOf,gO]at this ⊢
  split at this <;> rename_i q <;> rw[Array.toArray_toList]at q <;> rw[q] <;> exact congrArg (fun d:Data=>(⟨.type "dict",none,d,sl⟩:Obj)) (congrArg Obj.data this)
 have D':∀ hsh tk,(s'.heap.update dx (Obj.putName a hsh (.str a tk) u)).get? dx=some (gO (putL a hsh (.str a tk) u ents.toList).toArray (putN a ents.toList n) sl):=fun hsh tk=>(Heap.get?_update_self _ h5 (by rw[hput]; rfl)).trans (congrArg some (hput hsh tk))
 have E':=fun hsh tk=>OC (a:=a) (hsh:=hsh) (t:=tk) hu En
 refine wpAny_updatePart h5 (wpAny_bind (wpAny_lookBehind (D' _ _) (pastItsLine_dict (by rw[List.size_toArray,(E' _ _).length]; exact Nat.le_trans hsz (by decide))) (wpAny_pure (hQ _ ?_))))
 exact at_.turn h3 (Heap.SameBut.update ..) ⟨_,_,_,D' _ _,E' _ _,hsz⟩
end
abbrev qb(id:String)(vs:List Value):Prop:=(Code.builtin id ⟨vs,[]⟩).quiet=true
theorem CW{prog:Program}{w:World}{A:Around}{E:Value→Shared→Prop}{s:Shared}{l:Addr}{o:Obj}{Q:Bool→Shared→Prop}(hh:A.handled=none)(ho:s.heap.get? l=some o)(hq:TR o)(h:Q false { s with toks:=s.toks+1+1 }):wpAny (model prog w) A (truthy (.ref l)) Q E s:=by
 obtain⟨hc,hdict,a,b,hd⟩:=hq
 have ho:s.heap.get? l=some ⟨.type "collections.deque",none,.fields #[a,b],o.slots⟩:=by rw[ho,← hc,← hdict,← hd]
 refine JD (K:=[]) (congrFun PySem.W.Fast.te15245631507167962100 (.ref l)) 9 (List.replicate 5 (0,⟨.type "collections.deque",none,.fields #[a,b],o.slots⟩))
  (s.heap.get? l=some ⟨.type "collections.deque",none,.fields #[a,b],o.slots⟩∧s.heap.get? l=some ⟨.type "collections.deque",none,.fields #[a,b],o.slots⟩∧s.heap.get? l=some ⟨.type "collections.deque",none,.fields #[a,b],o.slots⟩∧s.heap.get? l=some ⟨.type "collections.deque",none,.fields #[a,b],o.slots⟩ ∧
   qb "collections.deque.__len__" [.ref l]∧s.heap.get? l=some ⟨.type "collections.deque",none,.fields #[a,b],o.slots⟩∧Q false { s with toks:=s.toks+1+1 }) hh ?_ ?_ ?_
 ·exact fun _ _ h=>nomatch h
 ·kernel_rfl
 ·exact⟨ho,ho,ho,ho,Code.quiet_builtin _ (by decide +kernel),ho,h⟩
end Kt.Internal
end
section
open PySem PySem.W PyProof.Rows PySem.Calls
namespace Kt.Internal
structure OD where
 Z:aE
 cA:Nat→Option Addr
 cl:iO
 ex:Nat→LO→St→Option (OV×St)
 lvl:Nat
 nm:List Str
def gI(Z:aE)(cA:Nat→Option Addr)(μ:List Addr)(h:Heap)(st:St)(v:OV)(Q:Value→Shared→Prop):Prop:=∀ w s' μ',dF Z cA jK μ h μ' st s'→VE μ' w v→Q w s'
structure Oc(D:OD)(sc:Scope)(A:Around)(env:Env)(ρ:LO)(μ:List Addr)(st:St)(s:Shared):Prop where
 ha:fG D.Z (8*D.lvl+7) A
 hs:uO sc env
 he:lX D.Z D.nm env ρ μ s.heap
 hi:aZ D.Z s
 so:lZ D.Z D.cA μ st s.heap
section
variable(D:OD)(sc:Scope)
def cF(e:Expr)(p:OE):Prop :=
 ∀{A:Around}{env:Env}{ρ:LO}{μ:List Addr}{st:St}{s:Shared}{v:OV}{st':St}{Q:Value→Shared→Prop}{E:Value→Shared→Prop},
  Oc D sc A env ρ μ st s→cK D.cl D.ex p ρ st=some (v,st')→gI D.Z D.cA μ s.heap st' v Q→wpAny (model D.Z.prog D.Z.w) A (eval e env) Q E s
def IM(e:Expr)(p:OE):Prop :=
 ∀{A:Around}{env:Env}{ρ:LO}{μ:List Addr}{st:St}{s:Shared}{t:Bool}{st':St}{Q:Bool→Shared→Prop}{E:Value→Shared→Prop},
  Oc D sc A env ρ μ st s→jW D.cl D.ex p ρ st=some (t,st')→(∀ s' μ',dF D.Z D.cA jK μ s.heap μ' st' s'→Q t s')→wpAny (model D.Z.prog D.Z.w) A (isTrue e env (eval e env)) Q E s
def wT(es:List Expr)(ps:GE):Prop :=
 ∀{A:Around}{env:Env}{ρ:LO}{μ:List Addr}{st:St}{s:Shared}{ds:List OV}{st':St}{R:List Value→Shared→Prop}{E:Value→Shared→Prop}{pos:Pos},
  Oc D sc A env ρ μ st s→wQ D.cl D.ex ps ρ st=some (ds,st')→(∀ vs s' μ',dF D.Z D.cA jK μ s.heap μ' st' s'→gH μ' vs ds→R vs s')→wpAny (model D.Z.prog D.Z.w) A (spliced (backTo pos (starEach es env))) R E s
def XU(o:Option Expr)(p:OO):Prop :=
 ∀{A:Around}{env:Env}{ρ:LO}{μ:List Addr}{st:St}{s:Shared}{d:Option Int}{st':St}{Q:Value→Shared→Prop}{E:Value→Shared→Prop},
  Oc D sc A env ρ μ st s→XS D.cl D.ex p ρ st=some (d,st')→(∀ q:Option (Int×Tok),q.map (·.1)=d→∀ s' μ',dF D.Z D.cA jK μ s.heap μ' st' s'→Q (partValue q) s')→wpAny (model D.Z.prog D.Z.w) A (evalPart o env) Q E s
end
def bQ(Z:aE)(cA:Nat→Option Addr)(cl:iO)(lvl:Nat)(fA:Nat→Option Addr):Prop :=
 ∀{f:Nat}{a:Addr}{args:List OV}{st:St}{v:OV}{st':St},fA f=some a→cl f args st=some (v,st') →
  ∀{A:Around}{s:Shared}{vs:List Value}{μ:List Addr}{R:Result→Shared→Prop},fG Z (8*lvl) A→aZ Z s→Z.n≤s.heap.objs.size→lZ Z cA μ st s.heap→gH μ vs args →
   gI Z cA μ s.heap st' v (fun w s'=>R (.ok (.ret w)) s')→codeAny (model Z.prog Z.w) A (.call (.ref a) (jT f vs)) R s
noncomputable def gU:List (Str×Value) :=
 [("len",.builtin "len"),("type",.type "type"),("int",.type "int"),("bool",.type "bool"),("str",.type "str"),("isinstance",.builtin "isinstance"),("object",.type "object"),("list",.type "list"),("StopIteration",.type "StopIteration")]
def fZ(Z:aE):Prop:=∀ n v,(n,v)∈gU→Z.mg n=none∧Z.mb n=some v
section
variable{Z:aE}{cA:Nat→Option Addr}{μ μ' μ'':List Addr}{st st' st'':St}{s s' s'':Shared}{h:Heap}{A:Around}{Q:Value→Shared→Prop}{E:Value→Shared→Prop}{w u:Value}{x y v:OV}{lvl:Nat}
theorem gI.after(g:gI Z cA μ h st v Q)(a:dF Z cA jK μ h μ' st' s'):gI Z cA μ' s'.heap st v Q:=fun w s'' μ'' b hv=>g w s'' μ'' (a.trans b) hv
theorem gI.flat{d:PyData}(g:gI Z cA μ h st (.d d) Q)(a:dF Z cA jK μ h μ' st s')(hf:Kt.Internal.flat d=true):pQ Z s' [] [] d Q:=fun v _ s'' I k r ok _=>g v s'' μ' (a.kp I k) (WZ r ok hf)
theorem u8{α:Type}{d:α}{G:Prop}{v:OV}{f:PyData→Option α}(h:(rZ v).bind f=some d)(k:∀ x,v = .d x→Kt.Internal.flat x=true→f x=some d→G):G :=
 aV h fun x hx h=>jM hx fun y e hy=>y9 hy fun hf e'=>k x (e'▸e) (e'▸hf) h
theorem sU{o:Option PyData}{v:OV}{G:Prop}(h:pX o=some v)(k:∀ d,o=some d→Kt.Internal.flat d=true→v = .d d→G):G:=aV h fun d e h=>y9 h fun hf e'=>k d e hf e'.symm
theorem rO{α:Type}{d:α}{G:Prop}{v:OV}{f:Str→Option α}(h:(mV v).bind f=some d)(k:∀ x,v = .d (.str x)→f x=some d→G):G :=
 aV h fun x hx h=>jM hx fun y e hy=>jR hy fun s e' hs=>k x (by rw[e,e',Option.some.inj hs]) h
theorem pG{v:OV}{x:Str}(h:mV v=some x):v = .d (.str x):=jM h fun y e hy=>jR hy fun s e' hs=>by rw[e,e',Option.some.inj hs]
theorem OR{x:Str}{m:Value→Prop}(h:VE μ w (.d (.str x)))(k:∀ t,bL (.str x)=true→m (.str x t)):m w:=XQ (m:=m) h.1 fun t=>k t h.2
theorem Ao{x:Int}{m:Value→Prop}(h:VE μ w (.d (.int x)))(k:∀ t,m (.int x t)):m w:=F9 (m:=m) h.1 k
theorem sE{i:Int}{t:Tok}:VE μ (.int i t) (.d (.int i)):=⟨.int i t,rfl⟩
theorem kZ{b:Bool}:VE μ (.bool b) (.d (.bool b)):=⟨.bool b,rfl⟩
theorem nB:VE μ .none (.d .none):=⟨.none,rfl⟩
theorem mG{x:Str}{t:Tok}(h:bL (.str x)=true):VE μ (.str x t) (.d (.str x)):=⟨.str x t,h⟩
theorem lZ.listAt{k:Nat}{xs:List OV}(S:lZ Z cA μ st h)(hk:st[k]? = some (.list xs))(hw:VE μ w (.o k)):∃ a items n sl,w = .ref a∧μ[k]? = some a∧h.get? a=some (bP items n sl)∧gH μ items.toList xs∧items.size=xs.length∧xs.length≤1001:=by
 obtain⟨a,ha,rfl⟩:=hw
 obtain⟨items,n,sl,h2,h3,h4⟩:=S.of hk ha
 exact⟨a,items,n,sl,rfl,ha,h2,h3,Array.length_toList.symm.trans h3.length,h4⟩
theorem AK{n:Nat}(h:n≤1001):n≤sizeLine:=Nat.le_trans h (by decide)
theorem nC{b:Bool}{R:Bool→Shared→Prop}(hh:A.handled=none)(a:dF Z cA jK μ h μ' st' s')(hw:VE μ' w v)(ht:sI st' v=some b)(g:∀ s'',dF Z cA jK μ h μ' st' s''→R b s''):wpAny (model Z.prog Z.w) A (truthy w) R E s':=by
 cases v with
 | d x=>exact hY ht fun _ ht=>let⟨r,ok,_⟩:=pR.rd hw s'.heap; eS a.i r ok ht fun s'' I k=>g s'' (a.kp I k)
 | o k =>
  exact aV ht fun f hf ht=>by
   cases f with
   | list xs =>
    cases ht
    obtain⟨b,items,n,sl,rfl,_,h2,_,h4,h5⟩:=a.so.listAt hf hw
    have e:items.isEmpty=xs.isEmpty:=by
     unfold Array.isEmpty
     rw[h4]
     cases xs <;> rfl
    exact wpAny_truthy_list ⟨_,h2,rfl,n,rfl⟩ (S9 h4 h5) (e▸g _ (a.tok _))
   | deq =>
    cases ht
    obtain⟨b,ha,rfl⟩:=hw
    obtain⟨o,h2,h3⟩:=a.so.of hf ha
    exact CW hh h2 h3 (g _ (a.tok _))
   | _=>cases ht
 | ty T=>cases ht
theorem Ca{op:Operator}(a:dF Z cA jK μ h μ' st' s')(hw:VE μ' w x)(hu:VE μ' u y)(hv:GL op x y=some v)(g:gI Z cA μ h st' v Q):wpAny (model Z.prog Z.w) A (binaryOp op w u) Q E s' :=
 u8 hv fun x' e1 _ hv=>u8 hv fun y' e2 _ hv=>sU hv fun d h3 f3 e=>by
 subst e1 e2 e
 obtain⟨r1,ok1,_⟩:=pR.rd hw s'.heap
 obtain⟨r2,ok2,_⟩:=pR.rd hu s'.heap
 exact vJ (O:=[]) (es:=[]) a.i r1 r2 ok1 ok2 h3 (g.flat a f3) nofun nofun nofun
theorem nP{w:Value}{x:PyData}(h:pR w x)(a:Addr):(plainIs w (.ref a)=true∧(w == .ref a)=false)∧plainIs (.ref a) w=true∧(Value.ref a==w)=false:=by
 obtain⟨r,_⟩:=h
 cases r <;> exact⟨⟨rfl,rfl⟩,rfl,rfl⟩
theorem Dh{b:Bool}(S:lZ Z cA μ st s.heap)(hw:VE μ w x)(hu:VE μ u y)(hb:Bp x y=some b):(Q (.bool b) s→wpAny (model Z.prog Z.w) A (compareOp .Is w u) Q E s)∧(Q (.bool !b) s→wpAny (model Z.prog Z.w) A (compareOp .IsNot w u) Q E s):=by
 have both:(∀ R:Bool→Shared→Prop,R b s→wpAny (model Z.prog Z.w) A (isSame w u) R E s)→(Q (.bool b) s→wpAny (model Z.prog Z.w) A (compareOp .Is w u) Q E s)∧(Q (.bool !b) s→wpAny (model Z.prog Z.w) A (compareOp .IsNot w u) Q E s) :=
  fun h=>⟨fun q=>by show wpAny _ A (do return .bool (← isSame w u)) Q E s; exact wpAny_bind (h _ (wpAny_pure q)),fun q=>by show wpAny _ A (do return .bool (!(← isSame w u))) Q E s; exact wpAny_bind (h _ (wpAny_pure q))⟩
 cases x with
 | d x =>
  refine hY hb fun fx hb=>?_
  cases y with
  | d y=>exact hY hb fun fy hb=>s6 (pR.rd hw s.heap).1 (pR.rd hu s.heap).1 hb
  | o k=>obtain⟨a,_,rfl⟩:=hu; cases hb; exact both fun R q=>wpAny_isSame_plain (nP hw a).1.1 ((nP hw a).1.2▸q)
  | ty T=>cases hb
 | o k =>
  obtain⟨a,ha,rfl⟩:=hw
  cases y with
  | d y=>refine hY hb fun fy hb=>?_; cases hb; exact both fun R q=>wpAny_isSame_plain (nP hu a).2.1 ((nP hu a).2.2▸q)
  | o j =>
   obtain⟨c,hc,rfl⟩:=hu
   refine both fun R hq=>?_
   cases hb
   by_cases e:k=j
   ·subst e
    cases ha.symm.trans hc
    exact wpAny_isSame_ref_self (beq_self_eq_true k▸hq)
   ·obtain⟨o1,e1,n1⟩:=S.ex ha
    obtain⟨o2,e2,_⟩:=S.ex hc
    exact wpAny_isSame_ref_other (fun e'=>e (getElem?_nodup S.nd ha (e'▸hc))) e1 e2 n1 (beq_false_of_ne e▸hq)
  | ty T=>cases hb
 | ty T =>
  cases y with
  | ty U =>
   cases hw; cases hu; cases hb
   have:(Value.type T==Value.type U)=(T==U):=by
    by_cases e:T=U
    ·subst e; rw[beq_self_eq_true,beq_self_eq_true]
    ·rw[beq_false_of_ne e,beq_false_of_ne fun h=>e (Value.type.inj h)]
   exact both fun R q=>wpAny_isSame_plain rfl (this▸q)
  | _=>cases hb
theorem X1{op:CmpOp}(hA:fG Z lvl A)(a:dF Z cA jK μ h μ' st' s')(hw:VE μ' w x)(hu:VE μ' u y)(hv:BI op x y=some v)(g:gI Z cA μ h st' v Q):wpAny (model Z.prog Z.w) A (compareOp op w u) Q E s':=by
 have rest:((rZ x).bind fun x=>(rZ y).bind fun y=>pX (zI op x y))=some v→wpAny (model Z.prog Z.w) A (compareOp op w u) Q E s':=fun hv =>
  u8 hv fun x' e1 _ hv=>u8 hv fun y' e2 _ hv=>sU hv fun d h3 f3 e=>by
  subst e1 e2 e
  obtain⟨r1,ok1,_⟩:=pR.rd hw s'.heap
  obtain⟨r2,ok2,_⟩:=pR.rd hu s'.heap
  exact pH (O:=[]) (es:=[]) hA a.i r1 r2 ok1 ok2 h3 (g.flat a f3)
 cases op with
 | Is=>exact bY hv fun b hb e=>(Dh a.so hw hu hb).1 (g _ _ _ a (e▸kZ))
 | IsNot=>exact bY hv fun b hb e=>(Dh a.so hw hu hb).2 (g _ _ _ a (e▸kZ))
 | _=>exact rest hv
theorem Bz(a:dF Z cA jK μ h μ' st' s')(hw:VE μ' w x)(hu:VE μ' u y)(hv:fN st' x y=some v)(g:gI Z cA μ h st' v Q) :
  (∃ T id,s'.TypeIs w T∧typeLookup (.type T) "__getitem__" = pure (some (.builtin id)))∧wpAny (model Z.prog Z.w) A (getItem w u) Q E s':=jM hv fun y' ey hv=>by
 subst ey
 cases x with
 | d x =>
  exact jR hv fun sx ex hv=>sU hv fun d h3 f3 e=>by
   subst ex e
   obtain⟨r1,ok1,_⟩:=pR.rd hw s'.heap
   obtain⟨r2,ok2,_⟩:=pR.rd hu s'.heap
   exact⟨jF r1 rfl,vI (O:=[]) (es:=[]) a.i r1 r2 ok1 h3 (g.flat a f3) nofun⟩
 | o k =>
  exact r7 hv fun i ei hv1=>SK hv1 fun xs hk hv2=>aV hv2 fun j hp hv3=>by
   subst ei
   obtain⟨b,items,n,sl,rfl,_,h2,h3,h4,h5⟩:=a.so.listAt hk hw
   refine⟨⟨"list",_,⟨_,h2,rfl⟩,slot_list_getitem.lookup⟩,Ao (m:=fun u=>wpAny _ A (getItem _ u) Q E s') hu fun t=>?_⟩
   obtain⟨hj,h5,h6,h7⟩:=fQ hp
   obtain⟨z,ev,hz⟩:=h3.get hv3
   have ev':items[j]? = some z:=Array.getElem?_toList▸ev
   have hq:Q z s':=g z s' μ' a hz
   have hl:s'.heap.IsList b items:=⟨_,h2,rfl,n,rfl⟩
   rcases h7 with⟨h7,rfl⟩| ⟨h7,h8,rfl⟩
   ·exact wpAny_getItem_list hl h7 h6 ev' hq
   ·exact wpAny_getItem_list_neg hl h7 (h4▸vV h8) h5 (by rw[h4]; exact ev') hq
 | ty T=>cases hv
theorem dF.turnL{b:Addr}{k:Nat}{R:Unit→Shared→Prop}{xs ys:List OV}{f:Array Value→Array Value}(a:dF Z cA jK μ h μ' st' s')(hk:μ'[k]? = some b)(hx:st'[k]? = some (.list xs))(hl:ys.length≤1001)
  (hg:∀{items:Array Value},gH μ' items.toList xs→gH μ' (f items).toList ys) (g:∀ s'',dF Z cA jK μ h μ' (st'.set k (.list ys)) s''→R () s''):(∃ items n sl,s'.heap.get? b=some (bP items n sl))∧wpAny (model Z.prog Z.w) A (updateSeq b f) R E s':=by
 obtain⟨items,n,sl,h2,h3,h4⟩:=a.so.of hx hk
 have sz:∀{vs:Array Value}{xs:List OV},gH μ' vs.toList xs→xs.length≤1001→vs.size≤sizeLine:=fun h hl=>Array.length_toList.symm.trans h.length▸AK hl
 exact⟨⟨items,n,sl,h2⟩,wpAny_updateSeq h2 rfl (hz:=sz h3 h4) (_hz':=Nat.le_succ_of_le (sz (hg h3) hl)) (g _ (a.turn hk (Heap.SameBut.update ..) ⟨f items,_,sl,Heap.get?_update_self (Obj.mapSeq f) h2 rfl,hg h3,hl⟩))⟩
theorem KN{b:Addr}{k:Nat}{R:Unit→Shared→Prop}(a:dF Z cA jK μ h μ' st' s')(hp:mY st' k v=some st'')(hk:μ'[k]? = some b)(hv:VE μ' u v)(g:∀ s'',dF Z cA jK μ h μ' st'' s''→R () s'') :
  (∃ items n sl,s'.heap.get? b=some (bP items n sl))∧wpAny (model Z.prog Z.w) A (updateSeq b (·.push u)) R E s':=SK hp fun xs hx hp=>hY hp fun hlen e=>by
 cases e
 exact a.turnL hk hx (by rw[List.length_append]; exact Nat.succ_le_succ hlen) (fun h=>by rw[Array.toList_push]; exact h.append (.cons hv .nil)) g
theorem S2{b:Addr}{k:Nat}(a:dF Z cA jK μ h μ' st' s')(hp:mY st' k v=some st'')(hk:μ'[k]? = some b)(hv:VE μ' u v)(g:gI Z cA μ h st'' (.d .none) Q) :
  (∃ items n sl,s'.heap.get? b=some (bP items n sl))∧wpAny (model Z.prog Z.w) A (updateSeq b (·.push u) >>= fun _=>ret .none) (fun fin s''=>∃ v,fin=PySem.Fin.done (.ret v)∧Q v s'') E s' :=
 let⟨o,w⟩:=KN (R:=fun _ s''=>wpAny (model Z.prog Z.w) A (ret .none) (fun fin s''=>∃ v,fin=PySem.Fin.done (.ret v)∧Q v s'') E s'') a hp hk hv fun s'' a'=>wpAny_pure ⟨.none,rfl,g _ _ _ a' nB⟩; ⟨o,wpAny_bind w⟩
end
end Kt.Internal
end
section
open PySem PySem.W PyProof.Rows PySem.Calls Builtin Builtin.ObjectAttr
namespace Kt.Internal
section
variable{D:OD}{sc:Scope}{K:Frag}{fA:Nat→Option Addr}{A:Around}{env:Env}{ρ:LO}{μ μ':List Addr}{st st':St}{s s':Shared}
theorem Oc.go(C:Oc D sc A env ρ μ st s)(a:dF D.Z D.cA jK μ s.heap μ' st' s'):Oc D sc A env ρ μ' st' s':=⟨C.ha,C.hs,C.he.step a.t,a.i,a.so⟩
theorem Oc.at(C:Oc D sc A env ρ μ st s):dF D.Z D.cA jK μ s.heap μ st s:=.here C.hi C.so
theorem KL{e:Expr}{p:OE}(h:cF D sc e p)(hw:∀ env,isTrue e env (eval e env)=(do let v ← eval e env; standAt e.pos; holding [v] (truthy v))):cF D sc e p∧IM D sc e p :=
 ⟨h,fun{A env ρ μ st s t st' Q E}C hd hQ=>bD hd fun v st₁ hx hd=>j5 hd fun hb e=>by
 subst e
 rw[hw]
 exact wpAny_bind (h C hx fun w s' μ' a hv=>wpAny_bind (wpAny_standAt (wpAny_holding (nC C.ha.handled a hv hb fun s'' a'=>hQ s'' μ' a'))))⟩
theorem QR{d:PyData}{c:Const}{k:Nat}{pos:Pos}(h:I3 d=some c):cF D sc (.Constant c k pos) (.lit d):=fun{A env ρ μ st s v st' Q E}C hd g=>y9 hd fun hf e=>by
 cases e
 rw[arm_eval_Constant]
 cases d with
 | none=>cases h; exact wpAny_pure (g _ _ _ C.at nB)
 | bool a=>cases h; exact wpAny_pure (g _ _ _ C.at kZ)
 | int a=>cases h; exact wpAny_mkInt (g _ _ _ (C.at.tok _) sE)
 | str a=>exact y9 h fun h2 e=>by subst e; exact wpAny_mkText (g _ _ _ (C.at.tok _) (mG h2))
 | _=>cases h
theorem Oc.load(C:Oc D sc A env ρ μ st s){x:Nat}{n:Str}{v:OV}{Q:Value→Shared→Prop}{E:Value→Shared→Prop}(hn:D.nm[x]? = some n)(hv:sc.names.lookup n=some .local)
  (hx:(ρ[x]?).join=some v) (hQ:∀ w,VE μ w v→Q w s):wpAny (model D.Z.prog D.Z.w) A (loadName env n) Q E s :=
 let⟨_,hm,hmv⟩:=C.he.ns; let⟨w,hw,hwv⟩:=hmv x v n hx hn; wpAny_loadName_local C.he.kind (C.hs.1 n hv) hm hw (hQ w hwv)
theorem xU{x:Nat}{n:Str}{pos:Pos}(hn:D.nm[x]? = some n)(hv:sc.names.lookup n=some .local)(hd:n≠("__debug__" : Str)):cF D sc (.Name n pos) (.var x):=fun{A env ρ μ st s v st' Q E}C he g=>bY he fun v' hx e=>by
 cases e
 exact wpAny_Name (C.load hn hv hx fun w hw=>g _ _ _ C.at hw) (beq_eq_false_iff_ne.mpr hd)
theorem Oc.glob(C:Oc D sc A env ρ μ st s){n:Str}{pos:Pos}{v:Value}{Q:Value→Shared→Prop}{E:Value→Shared→Prop}(hg:aM sc n=true)(hv:D.Z.mg n=some v)(h:Q v s):wpAny (model D.Z.prog D.Z.w) A (eval (.Name n pos) env) Q E s :=
 Calls.Name_function_global C.he.kind (C.hs.2.2 n (fP hg).1) (Calls.loadGlobal_global (mg:=D.Z.mg) (C.he.glob▸C.hi.glob) hv h) (fP hg).2
theorem Oc.blt(C:Oc D sc A env ρ μ st s)(hB:fZ D.Z){n:Str}{pos:Pos}{v:Value}{Q:Value→Shared→Prop}{E:Value→Shared→Prop}(hg:aM sc n=true)(hv:(n,v)∈gU)(h:Q v s):wpAny (model D.Z.prog D.Z.w) A (eval (.Name n pos) env) Q E s :=
 Calls.Name_function_global C.he.kind (C.hs.2.2 n (fP hg).1) (Calls.loadGlobal_builtin (mg:=D.Z.mg) (mb:=D.Z.mb) (C.he.glob▸C.hi.glob) (hB n v hv).1 (C.he.blt▸C.hi.bltn) (hB n v hv).2 h) (fP hg).2
theorem KM{T:String}{n:Str}{pos:Pos}(hB:fZ D.Z)(hg:aM sc n=true)(hv:(n,.type T)∈gU):cF D sc (.Name n pos) (.ty T):=fun{A env ρ μ st s v st' Q E}C he g=>by
 cases he
 exact C.blt hB hg hv (g _ _ _ C.at rfl)
theorem NB{c:Nat}{C:Addr}{x:Expr}{a:Str}{pos:Pos}{p:OE}(hK:∀ h,D.Z.TabI h→K.In h)(hC:D.cA c=some C)(hok:zN K C a=true)(hc:b9 x=false)(h:cF D sc x p):cF D sc (.Attribute x a pos) (.attr c p a):=fun{A env ρ μ st s v st' Q E}X he g =>
 bD he fun o st₁ hx he=>bD he fun k es hi he=>j5 he fun hl e=>by
 subst e
 rw[arm_eval_Attribute,aS hc]
 exact wpAny_bind (h X hx fun w s₁ μ₁ a₁ hw=>wpAny_bind (wpAny_standAt (wpAny_bind (wpAny_holding (X9 (hK _ a₁.i.tab) a₁.so hC hok hi hl hw fun u hu=>wpAny_bind (wpAny_letTemporaryGo (wpAny_pure (g _ _ _ (a₁.tok _) hu))))))))
theorem V2{a:OE}{e:Expr}{pos:Pos}(h:cF D sc e a):cF D sc (.UnaryOp .Not e pos) (.nt a):=fun{A env ρ μ st s v st' Q E}C he g=>bD he fun o st₁ hx he=>bY he fun b hb e=>by
 cases e
 rw[arm_eval_UnaryOp]
 exact wpAny_bind (h C hx fun w s₁ μ₁ a₁ hw=>wpAny_bind (wpAny_standAt (wpAny_holding (wpAny_holding (wpAny_bind (nC C.ha.handled a₁ hw hb fun s₂ a₂=>wpAny_pure (g _ _ _ a₂ kZ)))))))
theorem V0{a:OE}{e:Expr}{pos:Pos}(h:IM D sc e a):IM D sc (.UnaryOp .Not e pos) (.nt a):=fun{A env ρ μ st s t st' Q E}C he hQ=>bD he fun o st₁ hx he=>bD hx fun y st₂ hy hx=>bY hx fun b hb e=>by
 cases e
 exact j5 he fun ht e=>by
  subst e
  cases ht
  exact wpAny_isTrue_Not (h (t:=b) C ((congrArg (Option.bind · _) hy).trans (congrArg (Option.map _) hb)) hQ)
theorem QV{op:Operator}{a b:OE}{l r:Expr}{pos:Pos}(ha:cF D sc l a)(hb:cF D sc r b):cF D sc (.BinOp l op r pos) (.bin op a b):=fun{A env ρ μ st s v st' Q E}C he g=>bD he fun x st₁ hx he=>bD he fun y st₂ hy he=>j5 he fun hv e=>by
 subst e
 exact wpAny_BinOp (ha C hx fun w s₁ μ₁ a₁ hw=>hb (C.go a₁) hy fun u s₂ μ₂ a₂ hu=>Ca (a₁.trans a₂) (hw.pre a₂.t.pre) hu hv g)
theorem z6{q:Bool}{a b:OE}{v:OV}{G:Prop}(hd:cK D.cl D.ex (.bool q a b) ρ st=some (v,st'))(k:∀ x st₁ t,cK D.cl D.ex a ρ st=some (x,st₁)→sI st₁ x=some t→(t=q∧cK D.cl D.ex b ρ st₁=some (v,st'))∨(t=(!q)∧x=v∧st₁=st')→G):G :=
 bD hd fun x st₁ hx hd=>aV hd fun t ht hd=>k x st₁ t hx ht <| by
  by_cases h:(t==q)=true
  ·rw[if_pos h]at hd; exact .inl ⟨eq_of_beq h,hd⟩
  ·rw[if_neg h]at hd; cases hd; exact .inr ⟨by cases t <;> cases q <;> first | rfl | exact absurd rfl h,rfl,rfl⟩
theorem AA{q:Bool}{a b:OE}{x:Expr}{rest:List Expr}{pos:Pos}(hr:∀ env,∃ y r,evalEach rest env=y::r)(ha:cF D sc x a)
  (hb:∀{A:Around}{env:Env}{ρ:LO}{μ:List Addr}{st:St}{s:Shared}{v:OV}{st':St}{Q:Value→Shared→Prop}{E:Value→Shared→Prop},
   Oc D sc A env ρ μ st s→cK D.cl D.ex b ρ st=some (v,st')→gI D.Z D.cA μ s.heap st' v Q→wpAny (model D.Z.prog D.Z.w) A (boolOp pos (jX q) (evalEach rest env)) Q E s) :
  cF D sc (.BoolOp (jX q) (x::rest) pos) (.bool q a b):=fun{A env ρ μ st s v st' Q E}C hd g=>z6 hd fun y st₁ t hx ht hc=>by
 rw[arm_eval_BoolOp,arm_evalEach_cons]
 have hb':=fun{μ₂ st₂ s₂}(a₂:dF D.Z D.cA jK μ s.heap μ₂ st₂ s₂)h=>hb (Q:=Q) (E:=E) (C.go a₂) h (g.after a₂)
 obtain⟨y',r',e⟩:=hr env
 rw[e]at hb' ⊢
 refine wpAny_bind (ha C hx fun w s₁ μ₁ a₁ hw=>wpAny_bind (wpAny_standAt (wpAny_bind (wpAny_holding (nC C.ha.handled a₁ hw ht fun s₂ a₂=>?_)))))
 rcases hc with⟨rfl,hc⟩| ⟨rfl,rfl,rfl⟩
 ·have:=hb' a₂ hc
  cases t <;> exact this
 ·have:Q w s₂:=g w s₂ μ₁ a₂ hw
  cases q <;> exact wpAny_pure this
theorem z9{q:Bool}{a b:OE}{x:Expr}{rest:List Expr}{pos:Pos}(ha:IM D sc x a)
  (hb:∀{A:Around}{env:Env}{ρ:LO}{μ:List Addr}{st:St}{s:Shared}{t:Bool}{st':St}{Q:Bool→Shared→Prop}{E:Value→Shared→Prop},
   Oc D sc A env ρ μ st s→jW D.cl D.ex b ρ st=some (t,st')→(∀ s' μ',dF D.Z D.cA jK μ s.heap μ' st' s'→Q t s')→wpAny (model D.Z.prog D.Z.w) A (allTrue (jX q) rest env) Q E s) :
  IM D sc (.BoolOp (jX q) (x::rest) pos) (.bool q a b):=fun{A env ρ μ st s r st' Q E}C hd hQ=>bD hd fun v st₂ hv hd=>j5 hd fun hr e=>by
 subst e
 refine z6 hv fun y st₁ t hx ht hc=>?_
 rw[arm_isTrue_BoolOp,arm_allTrue_cons]
 refine wpAny_bind (ha (t:=t) C ((congrArg (Option.bind · _) hx).trans (congrArg (Option.map _) ht)) fun s₁ μ₁ a₁=>?_)
 rcases hc with⟨rfl,hc⟩| ⟨rfl,rfl,rfl⟩
 ·have:=hb (E:=E) (C.go a₁) (t:=r) ((congrArg (Option.bind · _) hc).trans (congrArg (Option.map _) hr)) fun s₂ μ₂ a₂=>hQ s₂ μ₂ (a₁.trans a₂)
  cases t <;> exact this
 ·cases ht.symm.trans hr
  have:=hQ s₁ μ₁ a₁
  cases q <;> exact wpAny_pure this
theorem QU{op:CmpOp}{a b:OE}{l r:Expr}{pos:Pos}(hm:behindInMarks op r=false)(ha:cF D sc l a)(hb:cF D sc r b):cF D sc (.Compare l [op] [r] pos) (.cmp op a b):=fun{A env ρ μ st s v st' Q E}C he g=>bD he fun x st₁ hx he=>bD he fun y st₂ hy he=>j5 he fun hv e=>by
 subst e
 exact wpAny_Compare1 (ha C hx fun w s₁ μ₁ a₁ hw=>hb (C.go a₁) hy fun u s₂ μ₂ a₂ hu=>X1 C.ha (a₁.trans a₂) (hw.pre a₂.t.pre) hu hv g) hm
theorem QL{op:CmpOp}{a b:OE}{l r:Expr}{pos:Pos}(hm:behindInMarks op r=false)(ha:cF D sc l a)(hb:cF D sc r b):IM D sc (.Compare l [op] [r] pos) (.cmp op a b):=fun{A env ρ μ st s t st' Q E}C he hQ=>bD he fun v st₃ hv he=>j5 he fun ht e=>by
 subst e
 exact bD hv fun x st₁ hx hv1=>bD hv1 fun y st₂ hy hv2=>j5 hv2 fun hv3 e=>by
  subst e
  exact wpAny_isTrue_Compare1 (ha C hx fun w s₁ μ₁ a₁ hw=>hb (C.go a₁) hy fun u s₂ μ₂ a₂ hu=>X1 C.ha (a₁.trans a₂) (hw.pre a₂.t.pre) hu hv3 fun z s₃ μ₃ a₃ hz=>nC C.ha.handled a₃ hz ht fun s₄ a₄=>hQ s₄ μ₃ a₄) hm
theorem cY:wT D sc [] .nil:=fun{A env ρ μ st s ds st' R E pos}C hd hR=>by
 cases hd
 exact Calls.spliced_nil (hR [] s μ C.at .nil)
theorem bR{e:Expr}{es:List Expr}{p:OE}{ps:GE}(hstar:aC e=false)(h1:cF D sc e p)(h2:wT D sc es ps):wT D sc (e::es) (.cons p ps):=fun{A env ρ μ st s ds st' R E pos}C hd hR=>bD hd fun x st₁ hx hd=>bY hd fun q hr e=>by
 cases e
 rw[bC hstar]
 exact Calls.spliced_cons (h1 C hx fun w s₁ μ₁ a₁ hw=>h2 (C.go a₁) hr fun vs s₂ μ₂ a₂ hvs=>hR (w::vs) s₂ μ₂ (a₁.trans a₂) (.cons (hw.pre a₂.t.pre) hvs))
theorem fG.in1{Z:aE}{l:Nat}{A:Around}(h:fG Z (8*l+7) A):fG Z (8*l) A.in1:=h.in_.mono (Nat.le_add_right _ 6)
theorem g8:∀{es:List Expr},(es.all fun e=>!aC e)=true→aX es
 | [],_=>gZ
 | _::_,h=>dO (bH (aA h).1) (g8 (aA h).2)
theorem fU{f:Value}{es:List Expr}{ps:GE}{pos:Pos}{ds:List OV}{R:Args→Shared→Prop}{E:Value→Shared→Prop}(hpl:aX es)(h:wT D sc es ps)(C:Oc D sc A env ρ μ st s)(hd:wQ D.cl D.ex ps ρ st=some (ds,st'))
  (hR:∀ vs s' μ',dF D.Z D.cA jK μ s.heap μ' st' s'→gH μ' vs ds→R ⟨vs,[]⟩ s'):wpAny (model D.Z.prog D.Z.w) A (evalArgs f true (backTo pos (starEach es env)) []) R E s:=by
 have:=h (R:=fun vs s'=>R ⟨vs,[]⟩ s') (E:=E) (pos:=pos) C hd hR
 cases es with
 | nil =>
  unfold evalArgs
  show wpAny _ A (spliced [] >>= _) R E s
  refine wpAny_bind (wpAny_mono this (fun vs s' h'=>wpAny_bind (wpAny_pure (wpAny_holding ?_))) fun _ _ e=>e)
  exact wpAny_bind (wpAny_pure (wpAny_bind (wpAny_pure (wpAny_pure h'))))
 | cons e es=>exact bJ (hpl.2.1 nofun env pos) this
theorem NA{f:Nat}{a:Addr}{n:Str}{p pos:Pos}{es:List Expr}{ps:GE}(hkw:IJ f=[])(hK:∀ h,D.Z.TabI h→K.In h)(hC:bQ D.Z D.cA D.cl D.lvl fA)(hf:fA f=some a)(hg:aM sc n=true)(hv:D.Z.mg n=some (.ref a))(hk:keepIn K (.ref a)=true)
  (hpl:aX es) (h:wT D sc es ps):cF D sc (.Call (.Name n p) es [] pos) (.call f ps):=fun{A env ρ μ st s v st' Q E}C he g=>bD he fun ds st₁ hx hd=>by
 rw[bG]
 exact wpAny_bind (C.glob hg hv (callWith_of (P:=K.In) (by rw[hpl.1]; rfl) (keeps_K hk) (fU hpl h C hx fun vs s₁ μ₁ a₁ hvs=>⟨hK _ a₁.i.tab,wpAny_call (iL hkw▸hC hf hd (C.ha.mono (Nat.le_add_right _ _)) a₁.i (C.he.step a₁.t).size a₁.so hvs (g.after a₁))⟩)))
theorem HG{c f:Nat}{C a:Addr}{o:Expr}{m:Str}{apos pos:Pos}{es:List Expr}{p:OE}{ps:GE}(hkw:IJ f=[])(hK:∀ h,D.Z.TabI h→K.In h)(hC:bQ D.Z D.cA D.cl D.lvl fA)(hcA:D.cA c=some C)(hf:fA f=some a)(hok:B8 K C m a=true)(hc0:b9 o=false)(hline:(apos.endLine==pos.line)=true)
  (hlen:es.length≤5) (hpl:aX es) (ho:cF D sc o p) (h:wT D sc es ps):cF D sc (.Call (.Attribute o m apos) es [] pos) (.mcall c p m f ps):=fun{A env ρ μ st s v st' Q E}X he g =>
 bD he fun x st₁ hx he=>bD he fun k ats hi he=>hY he fun hno he=>bD he fun ds st₂ hy hd=>by
 rw[arm_eval_Call,aS hc0]
 have hpos:methodCallPos true o env apos pos=pure pos:=by unfold methodCallPos; rw[hline]; rfl
 have hk:keepIn K (.ref a)=true:=(aA (aA (aA (aA hok).2).2).2).2
 refine wpAny_bind (ho X hx fun w s₁ μ₁ a₁ hw=>wpAny_bind (wpAny_standAt ?_))
 unfold methodCall
 rw[iW hpl hlen]
 refine wpAny_bind (wpAny_holding (ZU (hK _ a₁.i.tab) a₁.so hcA hok hi (Option.isNone_iff_eq_none.mp hno) hw (wpAny_bind (wpAny_of_eq hpos (callWith_of (P:=K.In) (by rw[hpl.1]; rfl) (keeps_K hk) (fU hpl h (X.go a₁) hy fun vs s₂ μ₂ a₂ hvs=>?_))))))
 have a₁₂:=a₁.trans a₂
 exact⟨hK _ a₂.i.tab,wpAny_call (iL hkw▸hC (args:=x::ds) (vs:=w::vs) hf hd (X.ha.mono (Nat.le_add_right _ _)) a₂.i (X.he.step a₁₂.t).size a₂.so (.cons (hw.pre a₂.t.pre) hvs) (g.after a₁₂))⟩
theorem M7{c f:Nat}{C a:Addr}{x:Expr}{nmA:Str}{pos:Pos}{p:OE}(hkw:IJ f=[])(hK:∀ h,D.Z.TabI h→K.In h)(hC:bQ D.Z D.cA D.cl D.lvl fA)(hcA:D.cA c=some C)(hf:fA f=some a)(hok:BV K C nmA a=true)(hc:b9 x=false)(h:cF D sc x p) :
  cF D sc (.Attribute x nmA pos) (.prop c p nmA f):=fun{A env ρ μ st s v st' Q E}X he g=>bD he fun o st₁ hx he=>bD he fun k es hi he=>hY he fun _ hd=>by
 rw[arm_eval_Attribute,aS hc]
 refine wpAny_bind (h X hx fun w s₁ μ₁ a₁ hw=>wpAny_bind (wpAny_standAt (wpAny_bind (wpAny_holding (ZB (hK _ a₁.i.tab) a₁.so hcA hok hi hw ?_)))))
 refine iL hkw▸hC (args:=[o]) (s:={ s₁ with toks:=s₁.toks+1 }) (vs:=[w]) hf hd X.ha.in1 (a₁.i.tok _) (X.he.step a₁.t).size a₁.so (.cons hw .nil) fun u s₂ μ₂ a₂ hu=>⟨u,rfl,?_⟩
 rw[handedOut_of (v9 hu)]
 exact wpAny_pure (wpAny_bind (wpAny_letTemporaryGo (wpAny_pure (g u s₂ μ₂ ((a₁.tok _).trans a₂) hu))))
theorem kG{n:Str}{f:Value}{p pos:Pos}{es:List Expr}{ps:GE}{ds:List OV}{Q:Value→Shared→Prop}{E:Value→Shared→Prop}(hB:fZ D.Z)(hg:aM sc n=true)(hv:(n,f)∈gU)(hnr:∀ a,f ≠ .ref a)
  (hpl:aX es) (h:wT D sc es ps) (C:Oc D sc A env ρ μ st s) (hd:wQ D.cl D.ex ps ρ st=some (ds,st'))
  (hR:∀ vs s' μ',dF D.Z D.cA jK μ s.heap μ' st' s'→gH μ' vs ds→wpAny (model D.Z.prog D.Z.w) A (call f vs) Q E s') :
  wpAny (model D.Z.prog D.Z.w) A (eval (.Call (.Name n p) es [] pos) env) Q E s:=by
 rw[bG]
 exact wpAny_bind (C.blt hB hg hv (aR hnr (hpl.1 env pos) (fU hpl h C hd hR)))
theorem uM{p:OE}{x:OV}(h:cK D.cl D.ex p ρ st=some (x,st')):wQ D.cl D.ex (.cons p .nil) ρ st=some ([x],st'):=congrArg (Option.bind · _) h
theorem X0{p q:OE}{x y:OV}{st₁:St}(h:cK D.cl D.ex p ρ st=some (x,st₁))(h':cK D.cl D.ex q ρ st₁=some (y,st')):wQ D.cl D.ex (.cons p (.cons q .nil)) ρ st=some ([x,y],st'):=(congrArg (Option.bind · _) h).trans (congrArg (Option.map _) (uM h'))
theorem QS{e:Expr}{p:OE}{q pos:Pos}(hB:fZ D.Z)(hg:aM sc "len" = true)(hst:aC e=false)(h:cF D sc e p):cF D sc (.Call (.Name "len" q) [e] [] pos) (.len p):=fun{A env ρ μ st s v st' Q E}C he g=>bD he fun x st₁ hx he=>j5 he fun hl e=>by
 subst e
 refine kG (f:=.builtin "len") hB hg (by decide) nofun (aQ hst) (bR hst h cY) C (uM hx) fun vs s₁ μ₁ a₁ hvs=>qJ (m:=fun vs=>wpAny _ A (call (.builtin "len") vs) Q E s₁) hvs fun w hw=>?_
 cases x with
 | d x =>
  exact jR hl fun y e hl=>by
   cases e; cases hl
   exact OR (m:=fun w=>wpAny _ A (call (.builtin "len") [w]) Q E s₁) hw fun t hok=>P.len_str (JN (yZ hok).2) (g _ _ _ (a₁.tok _) sE)
 | o k =>
  exact SK hl fun xs hk e=>by
   cases e
   obtain⟨b,items,n,sl,rfl,_,h2,_,h4,h5⟩:=a₁.so.listAt hk hw
   exact Calls.call_len_list ⟨_,h2,rfl,n,rfl⟩ (S9 h4 h5) (h4▸g _ _ _ (a₁.tok _) sE)
 | ty T=>cases hl
theorem QN{e:Expr}{p:OE}{q pos:Pos}(hB:fZ D.Z)(hg:aM sc "type" = true)(hst:aC e=false)(h:cF D sc e p):cF D sc (.Call (.Name "type" q) [e] [] pos) (.typ p):=fun{A env ρ μ st s v st' Q E}C he g=>bD he fun x st₁ hx he=>j5 he fun hl e=>by
 subst e
 exact kG (f:=.type "type") hB hg (by decide) nofun (aQ hst) (bR hst h cY) C (uM hx) fun vs s₁ μ₁ a₁ hvs=>qJ (m:=fun vs=>wpAny _ A (call (.type "type") vs) Q E s₁) hvs fun w hw=>jM hl fun y e hl=>by
  subst e
  cases y with
  | int i=>cases hl; exact Ao (m:=fun w=>wpAny _ A (call (.type "type") [w]) Q E s₁) hw fun t=>call_type_of (typeIs_int _ _ _) (by decide) (g _ _ _ a₁ rfl)
  | str i=>cases hl; exact OR (m:=fun w=>wpAny _ A (call (.type "type") [w]) Q E s₁) hw fun t _=>call_type_of (typeIs_str _ _ _) (by decide) (g _ _ _ a₁ rfl)
  | _=>cases hl
theorem M8{e:Expr}{p:OE}{q pos:Pos}(hB:fZ D.Z)(hg:aM sc "int" = true)(hst:aC e=false)(h:cF D sc e p):cF D sc (.Call (.Name "int" q) [e] [] pos) (.intc p):=fun{A env ρ μ st s v st' Q E}C he g=>bD he fun x st₁ hx he=>jM he fun y e he=>r7 he fun i e' he=>by
 have e:x = .d y:=e
 subst e e'
 cases he
 exact kG (f:=.type "int") hB hg (by decide) nofun (aQ hst) (bR hst h cY) C (uM hx) fun vs s₁ μ₁ a₁ hvs=>qJ (m:=fun vs=>wpAny _ A (call (.type "int") vs) Q E s₁) hvs fun w hw =>
  Ao (m:=fun w=>wpAny _ A (call (.type "int") [w]) Q E s₁) hw fun t=>call_int_int (g _ _ _ a₁ sE)
theorem HI{e:Expr}{p:OE}{q q' pos:Pos}(hB:fZ D.Z)(hg:aM sc "isinstance" = true)(hg':aM sc "str" = true)(hst:aC e=false)(h:cF D sc e p) :
  cF D sc (.Call (.Name "isinstance" q) [e,.Name "str" q'] [] pos) (.isStr p):=fun{A env ρ μ st s v st' Q E}C he g=>bD he fun x st₁ hx he=>bY he fun y hy e=>by
 cases pG hy
 cases e
 exact kG (f:=.builtin "isinstance") (ps:=.cons p (.cons (.ty "str") .nil)) hB hg (by decide) nofun (iG hst rfl) (bR hst h (bR rfl (KM hB hg' (by decide)) cY)) C (X0 hx rfl) fun vs s₁ μ₁ a₁ hvs =>
  O4 (m:=fun vs=>wpAny _ A (call (.builtin "isinstance") vs) Q E s₁) hvs fun w u hw hu=>OR (m:=fun w=>wpAny _ A (call (.builtin "isinstance") [w,u]) Q E s₁) hw fun t _=>by
   cases hu
   exact call_isinstance_yes (typeIs_str _ _ _) F.isi_meta_str (by rw[isSubtype_type]; kernel_rfl) (g _ _ _ a₁ kZ)
theorem QT{a i:OE}{v sl:Expr}{pos:Pos}(hns:rC sl=false)(ha:cF D sc v a)(hi:cF D sc sl i):cF D sc (.Subscript v sl pos) (.idx a i):=fun{A env ρ μ st s r st' Q E}C he g=>bD he fun x st₁ hx he=>bD he fun y st₂ hy he=>j5 he fun hv e=>by
 subst e
 refine Subscript_ (ha C hx fun w s₁ μ₁ a₁ hw=>hi (C.go a₁) hy fun u s₂ μ₂ a₂ hu=>?_)
 obtain⟨⟨T,id,hT,hl⟩,hq⟩:=Bz (A:=A) (E:=E) (a₁.trans a₂) (hw.pre a₂.t.pre) hu hv g
 refine tail_any (ops:=[w,u]) hT hl hq ?_
 cases sl with
 | Slice=>cases hns
 | _=>rfl
theorem V1:XU D sc none .no:=fun{A env ρ μ st s d st' Q E}C hd hQ=>by
 cases hd
 exact wpAny_pure (hQ none rfl s μ C.at)
theorem QM{e:Expr}{p:OE}(h:cF D sc e p):XU D sc (some e) (.yes p):=fun{A env ρ μ st s d st' Q E}C hd hQ=>bD hd fun x st₁ hx hd=>bY hd fun i hi e=>by
 cases e
 rw[evalPart_some]
 exact h C hx fun w s' μ' a hw=>jM hi fun y e hi'=>Ao (μ:=μ') (x:=i) (m:=fun w=>Q w s') (by cases vO hi'; cases(show x=OV.d _ from e); exact hw) fun t=>hQ (some (i,t)) rfl s' μ' a
theorem QO{a:OE}{lo hi:OO}{v:Expr}{l u:Option Expr}{p pos:Pos}(ha:cF D sc v a)(hl:XU D sc l lo)(hu:XU D sc u hi):cF D sc (.Subscript v (.Slice l u none p) pos) (.slc a lo hi):=fun{A env ρ μ st s r st' Q E}C he g =>
 bD he fun x st₁ hx he=>bD he fun y st₂ hy he=>bD he fun z st₃ hz he=>j5 he fun hv e=>rO hv fun sx ex hv=>sU hv fun d h3 f3 ed=>by
 cases ex
 subst e ed
 refine Subscript_ (ha C hx fun w s₁ μ₁ a₁ hw=>wpAny_Slice (hl (C.go a₁) hy fun q1 e1 s₂ μ₂ a₂=>hu ((C.go a₁).go a₂) hz fun q2 e2 s₃ μ₃ a₃=>wpAny_pure ?_))
 have a₄:=((a₁.trans a₂).trans a₃).kp (a₃.i.push { cls:=.type "slice",data:=.fields #[partValue q1,partValue q2,.none] } s₃.toks) (Kp.push _ _ _)
 obtain⟨r1,ok1,_⟩:=pR.rd (show pR w (.str sx)from hw) (s₃.heap.push { cls:=.type "slice",data:=.fields #[partValue q1,partValue q2,.none] })
 obtain⟨T,id,hT,hl⟩:=jF (s:={ s₃ with heap:=s₃.heap.push { cls:=.type "slice",data:=.fields #[partValue q1,partValue q2,.none] } }) r1 rfl
 exact tail_any (ops:=[.ref s₃.heap.objs.size,w]) hT hl (vH (O:=[]) (es:=[]) (lo:=q1) (hi:=q2) a₄.i r1 ok1 ⟨_,Heap.get?_push_size _ rfl,rfl,rfl⟩ (by rw[e1,e2]; exact h3) (g.flat a₄ f3) nofun nofun) rfl
theorem S4{id:String}{name:Str}{x:Expr}{args:List Expr}{apos pos:Pos}{p:OE}{ps:GE}(slot:Slot "str" name id)(hty:typeOf (.builtin id)=pure (.type "method_descriptor"))(hc:b9 x=false)(hline:(apos.endLine==pos.line)=true)(hlen:args.length≤5)(hpl:aX args)
  (ho:cF D sc x p) (h:wT D sc args ps) {st₁ st₂:St} {a:Str} {ds:List OV} {Q:Value→Shared→Prop} {E:Value→Shared→Prop} (C:Oc D sc A env ρ μ st s) (hx:cK D.cl D.ex p ρ st=some (.d (.str a),st₁)) (hy:wQ D.cl D.ex ps ρ st₁=some (ds,st₂))
  (hR:∀ t vs s' μ',bL (.str a)=true→dF D.Z D.cA jK μ s.heap μ' st₂ s'→gH μ' vs ds→wpAny (model D.Z.prog D.Z.w) A (call (.builtin id) (.str a t::vs)) Q E s') :
  wpAny (model D.Z.prog D.Z.w) A (eval (.Call (.Attribute x name apos) args [] pos) env) Q E s :=
 wpAny_Call_method_lateS (aS hc _ _ _) (iW hpl hlen) hline (ho C hx fun w s₁ μ₁ a₁ hw=>OR (m:=fun w=>MethodOnS D.Z.prog D.Z.w A E name w pos (backTo pos (starEach args env)) Q s₁) hw fun t hok =>
  ⟨"str",id,F.plainAttrs_str,slot,hty,typeIs_str _ _ _,nofun,aR nofun (hpl.1 env pos) (fU hpl h (C.go a₁) hy fun vs s₂ μ₂ a₂ hvs=>hR t vs s₂ μ₂ hok (a₁.trans a₂) hvs)⟩)
theorem M6{x e1 e2:Expr}{apos pos:Pos}{p a b:OE}(hc:b9 x=false)(hline:(apos.endLine==pos.line)=true)(h1:aC e1=false)(h2:aC e2=false)(ho:cF D sc x p)(ha:cF D sc e1 a)(hb:cF D sc e2 b) :
  cF D sc (.Call (.Attribute x "replace" apos) [e1,e2] [] pos) (.repl p a b):=fun{A env ρ μ st s r st' Q E}C he g =>
 bD he fun x' st₁ hx he=>bD he fun y st₂ hy he=>bD he fun z st₃ hz he=>j5 he fun hv e=>rO hv fun sx ex hv=>rO hv fun sy ey hv=>rO hv fun sz ez hv=>y9 hv fun hocc er=>by
 cases ex; cases ey; cases ez
 subst e er
 refine S4 (ps:=.cons a (.cons b .nil)) F.slot_str_replace F.type_str_replace hc hline (Nat.le_of_ble_eq_true rfl) (iG h1 h2) ho (bR h1 ha (bR h2 hb cY)) C hx (X0 hy hz) fun t vs s' μ' hok a' hvs =>
  O4 (m:=fun vs=>wpAny _ A (call (.builtin "str.replace") (.str sx t::vs)) Q E s') hvs fun w u hw hu=>OR (m:=fun w=>wpAny _ A (call (.builtin "str.replace") [.str sx t,w,u]) Q E s') hw fun tw _=>OR (m:=fun u=>wpAny _ A (call (.builtin "str.replace") [.str sx t,_,u]) Q E s') hu fun tu _=>?_
 refine call_gives F.slot_str_replace (typeIs_str _ _ _) F.entry_str_replace (F.args_str_replace_3 _ _ _) (gives_str_replace sx sy sz t tw tu fun h=>by rw[hocc]at h; cases h) ?_
 rw[hocc,Bool.true_or,if_pos rfl]
 exact g _ _ _ a' (mG hok)
theorem GX{vs:List Value}{xs:List OV}(h:gH μ vs xs):∀{l:List Str},u0 xs=some l→∃ ps:List (Str×Tok),vs=strValues ps∧ps.map (·.1)=l∧∀ x∈l,bL (.str x)=true:=by
 induction h with
 | nil=>exact fun h=>by cases h; exact⟨[],rfl,rfl,nofun⟩
 | cons h _ ih =>
  exact fun hl=>rO hl fun s e hl=>bY hl fun r hr e'=>by
   subst e e'
   obtain⟨ps,e1,e2,hall⟩:=ih hr
   subst e1
   exact OR (m:=fun v=>∃ ps:List (Str×Tok),v::_=strValues ps∧ps.map (·.1)=s::r∧∀ x∈s::r,bL (.str x)=true) h fun t hok=>⟨(s,t)::ps,rfl,congrArg (s :: ·) e2,fun y hy=>(List.mem_cons.mp hy).elim (fun e=>e▸hok) (hall y)⟩
theorem HH{x e1:Expr}{apos pos:Pos}{p a:OE}(hc:b9 x=false)(hline:(apos.endLine==pos.line)=true)(h1:aC e1=false)(ho:cF D sc x p)(ha:cF D sc e1 a) :
  cF D sc (.Call (.Attribute x "join" apos) [e1] [] pos) (.joinL p a):=fun{A env ρ μ st s r st' Q E}C he g =>
 bD he fun x' st₁ hx he=>bD he fun y st₂ hy he=>j5 he fun hv e=>rO hv fun sep ex hv=>bD hv fun k xs hl hv=>aV hv fun ss hss hv=>hY hv fun hfold er=>rT hl fun k' ey hl=>SK hl fun xs' hk hl=>by
 cases ex; cases er; cases hl
 subst e ey
 refine S4 (ps:=.cons a .nil) F.slot_str_join F.type_str_join hc hline (Nat.le_of_ble_eq_true rfl) (aQ h1) ho (bR h1 ha cY) C hx (uM hy) fun t vs s' μ' hok a' hvs =>
  qJ (m:=fun vs=>wpAny _ A (call (.builtin "str.join") (.str sep t::vs)) Q E s') hvs fun w hw=>?_
 obtain⟨b,items,n,sl,rfl,_,g2,g3,_⟩:=a'.so.listAt hk hw
 obtain⟨ps,e1,e2,hall⟩:=GX g3 hss
 have e1':items=(strValues ps).toArray:=by rw[← e1]
 rw[e1']at g2
 have hjo:JoinOk sep ss=true:=by
  unfold JoinOk Builtin.Str.tooLong
  rw[← Array.foldl_toList,Bool.not_eq_true',decide_eq_false_iff_not]
  exact Nat.not_lt.mpr (Nat.le_trans hfold (by decide))
 have hlen:(Txt.join sep ss).length≤sizeLine:=joinFit_length (bH hjo)
 refine SC.join ⟨_,g2,rfl,n,rfl⟩ e2 hjo fun t'' tk=>?_
 rw[show Txt.join sep ss=Str.join sep ss from StrLaws.glued_eq_join sep ss]at hlen ⊢
 exact g _ _ _ (a'.tok _) (mG (zD (jB (yZ hok).1 ss fun x hx=>(yZ (hall x hx)).1) hlen))
theorem Oc.more(C:Oc D sc A env ρ μ st s){μ₁:List Addr}{st₁:St}{s₁:Shared}(a:dF D.Z D.cA jK μ s.heap μ₁ st₁ s₁){o:Obj}{f:FO}{tk:Nat}{v:OV→Prop}(hf:GF D.cA (μ₁++[s₁.heap.objs.size]) (s₁.heap.push o) st₁.length s₁.heap.objs.size f) :
  dF D.Z D.cA jK μ s.heap (μ₁++[s₁.heap.objs.size]) (st₁++[f]) { s₁ with heap:=s₁.heap.push o,toks:=tk }∧VE (μ₁++[s₁.heap.objs.size]) (.ref s₁.heap.objs.size) (.o st₁.length) :=
 ⟨a.more (get?_ge (Nat.le_refl _)) (C.he.step a.t).size (a.i.frLt (Nat.le_refl _)) id (fun _ _ e=>Heap.get?_push_of_some _ e) hf,_,by rw[← a.so.len]; exact List.getElem?_concat_length,rfl⟩
theorem QP{pos:Pos}:cF D sc (.List [] pos) .nil:=fun{A env ρ μ st s r st' Q E}C he g=>by
 cases he
 rw[arm_eval_List]
 refine wpAny_bind (wpAny_standAt (wpAny_bind (Calls.spliced_nil (wpAny_newList ?_ (Nat.le_of_ble_eq_true rfl)))))
 have m:=C.more C.at (tk:=s.toks) (v:=fun _=>True) (f:=.list []) (o:={ cls:=.type "list",data:=.seq (([]:List Value).toArray) }) ⟨#[],_,_,Heap.get?_push_size _ rfl,.nil,Nat.zero_le _⟩
 exact g _ _ _ m.1 m.2
theorem NC{x e1:Expr}{apos pos:Pos}{p a:OE}(hc:b9 x=false)(hline:(apos.endLine==pos.line)=true)(h1:aC e1=false)(ho:cF D sc x p)(ha:cF D sc e1 a) :
  cF D sc (.Call (.Attribute x "append" apos) [e1] [] pos) (.appL p a):=fun{A env ρ μ st s r st' Q E}C he g =>
 bD he fun x' st₁ hx he=>bD he fun k xs hl he=>bD he fun y st₂ hy he=>bY he fun st₃ hp e=>rT hl fun k' ex hl=>SK hl fun xs' hk hl=>by
 cases hl; cases e
 subst ex
 refine wpAny_Call_method_lateS (aS hc _ _ _) (iW (aQ h1) (Nat.le_of_ble_eq_true rfl)) hline (ho C hx fun w s₁ μ₁ a₁ hw=>?_)
 obtain⟨b,items,n,sl,rfl,hb,g2,_⟩:=a₁.so.listAt hk hw
 refine⟨"list", "list.append",F.plainAttrs_list,slot_list_append,type_list_append,⟨_,g2,rfl⟩,fun a e=>by cases e; exact⟨_,g2,rfl⟩,?_⟩
 refine aR nofun ((aQ h1).1 env pos) (fU (aQ h1) (bR h1 ha cY) (C.go a₁) (uM hy) fun vs s₂ μ₂ a₂ hvs=>qJ (m:=fun vs=>wpAny _ A (call (.builtin "list.append") (.ref b::vs)) Q E s₂) hvs fun u hu=>?_)
 obtain⟨⟨_,_,_,o2⟩,body⟩:=S2 (A:=A.in1) (E:=E) (a₁.trans a₂) hp (dZ a₂.t.pre hb) hu g
 exact wpAny_call_entry slot_list_append ⟨_,o2,rfl⟩ entry_list_append body (args_list_append _ _)
theorem QQ{i:Int}{k:Nat}{p1 pos:Pos}:cF D sc (.UnaryOp .USub (.Constant (.int i) k p1) pos) (.neg i):=fun{A env ρ μ st s r st' Q E}C he g=>by
 cases he
 rw[arm_eval_UnaryOp]
 refine wpAny_bind ?_
 rw[arm_eval_Constant]
 exact wpAny_mkInt (wpAny_bind (wpAny_standAt (wpAny_holding (P.neg_int (g _ _ _ (C.at.tok _) sE)))))
end
section
variable{D:OD}{sc:Scope}{K:Frag}{fA:Nat→Option Addr}{A:Around}{env:Env}{ρ:LO}{μ μ':List Addr}{st st':St}{s s':Shared}
noncomputable def fS:List Str→List Expr→Bool
 | [],es=>es.isEmpty
 | x::xs,es=>hM es fun e r=>bF e fun c _ _=>c == .str x&&(bL (.str x)&&fS xs r)
theorem gR{pos:Pos}{E:Value→Shared→Prop}:∀{xs:List Str}{es:List Expr}{s:Shared}{R:List Value→Shared→Prop},fS xs es=true →
  (∀ vs tk,(∀ h,ReadsAll h vs (xs.map .str) [])→R vs { s with toks:=tk })→wpAny (model D.Z.prog D.Z.w) A (spliced (backTo pos (starEach es env))) R E s
 | [],es,s,R,hc,h=>dE (m:=fun es=>wpAny _ A (spliced (backTo pos (starEach es env))) R E s) hc (Calls.spliced_nil (h [] s.toks fun _=>.nil))
 | x::xs,es,s,R,hc,h=>by
  apply cW hc; intro e r hc
  apply bX hc; intro c k p hc
  refine aB hc fun z hc=>?_; apply bZ z
  refine Calls.spliced_cons ?_
  rw[arm_eval_Constant]
  exact wpAny_mkText (gR (s:={ s with toks:=s.toks+1 }) (aA hc).2 fun vs tk r=>h (_::vs) tk fun g=>ReadsAll.cons (as:=[]) (bs:=[]) (.str x _) (r g))
theorem zW(x:Str):∀ l:List Str,(l.map PyData.str).any (fun y=>PyData.eqv y (.str x))=l.any fun y=>y==x
 | []=>rfl
 | a::l=>congrArg ((a==x)|| ·) (zW x l)
theorem oD:∀{l:List Str}{es:List Expr},fS l es=true→cD (l.map .str)=true
 | [],_,_=>rfl
 | x::xs,es,hc=>cW (m:=fun _=>cD ((x::xs).map .str)=true) hc fun e r hc=>bX (m:=fun _=>cD ((x::xs).map .str)=true) hc fun c k p hc=>by
  show(bL (.str x)&&cD (xs.map .str))=true
  rw[(aA (aA hc).2).1,oD (aA (aA hc).2).2]; rfl
theorem vS{w:Value}{x:Str}{l:List Str}{es:List Expr}{k:Nat}{pos:Pos}{Q:Value→Shared→Prop}{E:Value→Shared→Prop}(C:Oc D sc A env ρ μ st s)(hw:VE μ w (.d (.str x)))
  (hc:fS l es=true) (hl:l.length≤50) (g:gI D.Z D.cA μ s.heap st (.d (.bool (l.any fun y=>y==x))) Q):wpAny (model D.Z.prog D.Z.w) A (eval (.Tuple es k pos) env) (fun u s'=>wpAny (model D.Z.prog D.Z.w) A (compareOp .In w u) Q E s') E s:=by
 rw[arm_eval_Tuple]
 refine wpAny_bind (wpAny_standAt (wpAny_bind (gR hc fun vs tk r=>wpAny_newObj_type ?_ ?_)))
 ·have a:=(C.at.tok tk).kp (C.hi.push { cls:=.type "tuple",data:=.seq vs.toArray } tk) (Kp.push _ _ _)
  obtain⟨rw',okx,_⟩:=pR.rd (show pR w (.str x)from hw) (s.heap.push { cls:=.type "tuple",data:=.seq vs.toArray })
  obtain⟨_,rx⟩:=rw'.reads
  refine SeqAt.in_tuple_reads (xs:=l.map .str) (Reads.tuple (Heap.get?_push_size _ rfl) rfl rfl (r _)) rx (b5 (oD hc)) (bO okx) (C.ha.u (Nat.le_trans (Nat.min_le_right _ _) (Nat.zero_le 64))) ((zW x l).symm▸g _ _ _ a kZ)
 ·show vs.toArray.size≤_
  rw[List.size_toArray,SeqAt.ReadsAll.length _ _ _ (r default),List.length_map]
  exact Nat.le_trans hl (by decide)
theorem WU{l:List Str}{e:Expr}{es:List Expr}{k:Nat}{p2 pos:Pos}{p:OE}(hc:fS l es=true)(hl:l.length≤50)(h:cF D sc e p):cF D sc (.Compare e [.In] [.Tuple es k p2] pos) (.inT p l)∧IM D sc (.Compare e [.In] [.Tuple es k p2] pos) (.inT p l) :=
 ⟨fun{A env ρ μ st s v st' Q E}C he g=>bD he fun x st₁ hx he=>bY he fun y hy e=>by
  cases pG hy
  cases e
  exact wpAny_Compare1 (h C hx fun w s₁ μ₁ a₁ hw=>vS (C.go a₁) hw hc hl (g.after a₁)) rfl,
 fun{A env ρ μ st s t st' Q E}C he hQ=>bD he fun v st₂ hv he=>j5 he fun ht e=>by
  subst e
  exact bD hv fun x st₁ hx hv=>bY hv fun y hy e=>by
   cases pG hy
   cases e
   exact wpAny_isTrue_Compare1 (h C hx fun w s₁ μ₁ a₁ hw=>vS (C.go a₁) hw hc hl fun z s₃ μ₃ a₃ hz=>nC C.ha.handled (a₁.trans a₃) hz ht fun s₄ a₄=>hQ s₄ μ₃ a₄) rfl⟩
theorem iM(x:Str):Str.empty++x=x:=congrArg Str.mk (Array.empty_append (xs:=x.cps))
theorem M9{a b:Str}{k1 k2:Nat}{e:Expr}{p1 p2 p3 pos:Pos}{p:OE}(ha:bL (.str a)=true)(hb:bL (.str b)=true)(h:cF D sc e p) :
  cF D sc (.JoinedStr [.Constant (.str a) k1 p1,.FormattedValue e (-1) none p2,.Constant (.str b) k2 p3] pos) (.fstr a p b):=fun{A env ρ μ st s r st' Q E}C he g=>bD he fun x' st₁ hx he=>rO he fun sx ex he=>j5 he fun hv e=>hY hv fun hlen er=>by
 have ex:x'=_:=ex
 subst e ex
 cases er
 have hl1:(a++sx).length≤sizeLine:=Nat.le_trans (by rw[strLen_append (a++sx) b]; exact Nat.le_add_right _ _) hlen
 refine wpAny_JoinedStr ?_
 rw[arm_evalEach_cons,arm_evalEach_cons,arm_evalEach_cons]
 show wpAny _ A (eval (.Constant (.str a) k1 p1) env) _ E s
 rw[arm_eval_Constant]
 refine wpAny_mkText ⟨a,_,rfl,by rw[iM]; exact(yZ ha).2,?_⟩
 rw[iM]
 show wpAny _ A (eval (.FormattedValue e (-1) none p2) env) _ E _
 refine wpAny_FormattedValue_plain (h (C.go (C.at.tok (s.toks+1))) hx fun w s₁ μ₁ a₁ hw=>?_)
 obtain⟨t,rfl,hok⟩:∃ t,w = .str sx t∧bL (.str sx)=true:=OR (m:=fun w=>∃ t,w = .str sx t∧bL (.str sx)=true) hw fun t ok=>⟨t,rfl,ok⟩
 have hok3:bL (.str (a++sx++b))=true:=b7 (b7 ha hok hl1) hb hlen
 have rest:∀ tk t',∃ y t,(Value.str sx t') = .str y t∧(a++y).length≤sizeLine∧Joins (model D.Z.prog D.Z.w) A E [eval (.Constant (.str b) k2 p3) env] (a++y) (fun out s₁=>out.length≤sizeLine∧Q (.str out s₁.toks) { s₁ with toks:=s₁.toks+1 }) { s₁ with toks:=tk }:=fun tk t'=>by
  refine⟨sx,t',rfl,hl1,?_⟩
  show wpAny _ A (eval (.Constant (.str b) k2 p3) env) _ E _
  rw[arm_eval_Constant]
  exact wpAny_mkText ⟨b,_,rfl,hlen,hlen,g _ _ _ ((C.at.tok (s.toks+1)).trans (a₁.tok _)) (mG hok3)⟩
 exact wpAny_formatField_str (rest _ _) (rest _ _) (yZ hok).2
end
section
variable{prog:Program}{w:World}{A:Around}{E:Value→Shared→Prop}{s:Shared}
theorem uF{l:Addr}{vs:Array Value}{n:Nat}{sl:Array (Option Value)}{Q:Value→Shared→Prop}(hh:A.handled=none)(ho:s.heap.get? l=some (bP vs n sl))
  (h:Q (.ref s.heap.objs.size) { s with heap:=s.heap.push (dN l),toks:=s.toks+1 }):wpAny (model prog w) A (getAttr (.ref l) "append" true) Q E s:=by
 refine JD (K:=[]) (congrFun (congrFun (congrFun PySem.W.Fast.te4926136581373384958 (.ref l)) "append") true) 9 (List.replicate 6 (0,bP vs n sl))
  (s.heap.get? l=some (bP vs n sl)∧s.heap.get? l=some (bP vs n sl)∧qb "list.__getattribute__" [.ref l,.str "append" s.toks]∧s.heap.get? l=some (bP vs n sl)∧s.heap.get? l=some (bP vs n sl)∧s.heap.get? l=some (bP vs n sl) ∧
   qb "method_descriptor.__get__" [.builtin "list.append",.ref l,.type "list"]∧s.heap.get? l=some (bP vs n sl)∧Q (.ref s.heap.objs.size) { s with heap:=s.heap.push (dN l),toks:=s.toks+1 }) hh ?_ ?_ ?_
 ·exact fun _ _ h=>nomatch h
 ·kernel_rfl
 ·exact⟨ho,ho,Code.quiet_builtin _ (by decide +kernel),ho,ho,ho,Code.quiet_builtin _ (by decide +kernel),ho,h⟩
theorem DO{u l:Addr}{v:Value}{vs:Array Value}{n:Nat}{sl:Array (Option Value)}{Q:Value→Shared→Prop}(hh:A.handled=none)(hu:s.heap.get? u=some (dN l))(ho:s.heap.get? l=some (bP vs n sl))
  (h:wpAny (model prog w) A.in1 (updateSeq l (·.push v) >>= fun _=>ret .none) (fun fin s'=>∃ v,fin=PySem.Fin.done (.ret v)∧Q v s') E s):wpAny (model prog w) A (call (.ref u) [v]) Q E s:=by
 refine wpAny_call (codeAny_of_tree (JD (K:=[]) (congrFun (congrFun PySem.W.Fast.te2956504954644400088 (.ref u)) ⟨[v],[]⟩) 9 [(0,dN l),(0,bP vs n sl),(0,bP vs n sl),(0,bP vs n sl)]
  (s.heap.get? u=some (dN l)∧s.heap.get? l=some (bP vs n sl)∧s.heap.get? l=some (bP vs n sl)∧s.heap.get? l=some (bP vs n sl)∧qb "list.append" [.ref l,v]∧codeAny (model prog w) A (.builtin "list.append" ⟨[.ref l,v],[]⟩) (wants Q E) s) hh ?_ ?_ ?_))
 ·exact fun _ _ h=>nomatch h
 ·kernel_rfl
 ·refine⟨hu,ho,ho,ho,Code.quiet_builtin _ (by decide +kernel),codeAny_builtin entry_list_append ?_⟩
  rw[Around.under_plainId (id := "list.append") (by decide +kernel) _]
  refine wpAny_mono h (fun fin s' h'=>?_) fun _ _ e=>e
  obtain⟨w,rfl,hw⟩:=h'
  exact hw
end
def F7(o:Obj):Prop:=o.cls = .type "builtin_function_or_method" ∧ ∃ a b,o.data = .fields #[.builtin a,b]
theorem uH{M:Model}{A:Around}{E:Value→Shared→Prop}{s:Shared}{pos:Pos}{u:Addr}{first:List Value}{args:List (Bool×Sem Value)}{Q:Value→Shared→Prop}(hplain:args.any (·.1)=false)
  (h:wpAny M A (evalArgs (.ref u) true args []) (fun x s₁=>(∃ o,s₁.heap.get? u=some o∧F7 o)∧wpAny M A (call (.ref u) (first++x.pos) x.kw) Q E s₁) E s):wpAny M A (callWith pos (.ref u) first args []) Q E s:=by
 unfold callWith
 refine wpAny_bind (wpAny_holding (wpAny_mono h (fun x s₁ h₁=>wpAny_bind (wpAny_standAt ?_)) fun _ _ x=>x))
 obtain⟨⟨⟨oc,od,oda,osl⟩,ho,hc,a,b,hd⟩,hcall⟩:=h₁
 cases hc; cases hd
 rw[hplain]
 refine wpAny_bind (m:=keeperOf (.ref u)) ?_
 unfold keeperOf
 refine wpAny_bind (wpAny_load ho ?_)
 dsimp only
 rw[if_pos (by decide),if_pos (by decide)]
 exact wpAny_pure (wpAny_bind (wpAny_mono hcall (fun r s₂ hr=>wpAny_bind (wpAny_holding (wpAny_point (wpAny_pure hr)))) fun _ _ x=>x))
section
variable{D:OD}{sc:Scope}{A:Around}{env:Env}{ρ:LO}{μ μ':List Addr}{st st':St}{s s':Shared}
theorem NE{x:Expr}{pos:Pos}{p:OE}(hc:b9 x=false)(h:cF D sc x p):cF D sc (.Attribute x "append" pos) (.addm p):=fun{A env ρ μ st s r st' Q E}C he g =>
 bD he fun x' st₁ hx he=>bY he fun q hl e=>rT hl fun k ex hl=>SK hl fun xs hk hl=>by
 cases hl; cases e
 subst ex
 rw[arm_eval_Attribute,aS hc]
 refine wpAny_bind (h C hx fun w s₁ μ₁ a₁ hw=>?_)
 obtain⟨b,items,n,sl,rfl,hb,g2,_⟩:=a₁.so.listAt hk hw
 refine wpAny_bind (wpAny_standAt (wpAny_bind (wpAny_holding (uF C.ha.handled g2 (wpAny_bind (wpAny_letTemporaryGo (wpAny_pure ?_)))))))
 have m:=(C.go a₁).more (.here a₁.i a₁.so) (tk:=s₁.toks+1) (v:=fun _=>True) (f:=.meth k) (o:=dN b) ⟨b,dZ (List.prefix_append _ _) hb,Heap.get?_push_size _ rfl⟩
 exact g _ _ _ (a₁.trans m.1) m.2
theorem QW{x e1:Expr}{n:Str}{p pos:Pos}{f a:OE}(hx':x = .Name n p)(h1:aC e1=false)(ho:cF D sc x f)(ha:cF D sc e1 a) :
  cF D sc (.Call x [e1] [] pos) (.app f a):=fun{A env ρ μ st s r st' Q E}C he g =>
 bD he fun x' st₁ hx he=>bD he fun y st₂ hy he=>aV he fun j hl he=>bY he fun st3 hp e=>rT hl fun k ex hl=>Eh hl fun j' hk hl=>SK hp fun xs hk2 hp2=>by
 cases hl; cases e
 subst ex hx'
 rw[bG]
 refine wpAny_bind (ho C hx fun w s₁ μ₁ a₁ hw=>?_)
 obtain⟨u,hu,rfl⟩:=hw
 refine uH ((aQ h1).1 env pos) (fU (aQ h1) (bR h1 ha cY) (C.go a₁) (uM hy) fun vs s₂ μ₂ a₂ hvs=>qJ (m:=fun vs=>(∃ o,s₂.heap.get? u=some o∧F7 o)∧wpAny _ A (call (.ref u) vs) Q E s₂) hvs fun z hz=>?_)
 obtain⟨b,g2,g3⟩:=a₂.so.of hk (dZ a₂.t.pre hu)
 obtain⟨⟨_,_,_,o2⟩,body⟩:=S2 (A:=A.in1) (E:=E) (a₁.trans a₂) hp g2 hz g
 exact⟨⟨_,g3,rfl,_,_,rfl⟩,DO C.ha.handled g3 o2 body⟩
end
end Kt.Internal
end
section
open PySem PySem.W PyProof.Rows PySem.Calls
namespace Kt.Internal
noncomputable def pJ(e:Expr):Bool:=!(e.ctorIdx==3||e.ctorIdx==0||e.ctorIdx==5||e.ctorIdx==15)
theorem uT{e:Expr}(h:pJ e=true)(env:Env):isTrue e env (eval e env)=(do let v ← eval e env; standAt e.pos; holding [v] (truthy v)):=by
 cases e with
 | UnaryOp=>cases h
 | BoolOp=>cases h
 | IfExp=>cases h
 | Compare=>cases h
 | _=>rfl
section
variable(K:Frag)(cA fA:Nat→Option Addr)(xc:Nat→Scope→Expr→Bool)(nm:List Str)
noncomputable def mJ(e:Expr)(n:Str)(f:Expr→List Expr→Bool):Bool:=cQ e fun fe as ks pos=>ks.isEmpty&&bI fe fun o m apos=>m==n&&(!b9 o&&(apos.endLine==pos.line&&f o as))
noncomputable def IX(e:Expr)(f:Str→List Expr→Bool):Bool:=cQ e fun fe as ks _=>ks.isEmpty&&aW fe fun n _=>f n as
noncomputable def O7(sc:Scope)(e:Expr)(n:Str)(f:Expr→Bool):Bool:=IX e fun m as=>m==n&&(aM sc n&&fJ as fun x=>!aC x&&f x)
noncomputable def E6(es:List Expr):Bool:=es.all fun e=>!aC e
mutual
noncomputable def bA(sc:Scope):OE→Expr→Bool
 | .lit d,e=>bF e fun c _ _=>I3 d==some c
 | .var x,e=>aW e fun n _=>nm[x]? == some n&&(sc.names.lookup n==some .local&&n != ("__debug__" : Str))
 | .ty T,e=>aW e fun n _=>aM sc n&&gU.any (fun p=>p.1==n&&p.2 == .type T)
 | .attr c p a,e=>bI e fun x n _=>n==a&&(!b9 x&&(gT (cA c) (fun C=>zN K C a)&&bA sc p x))
 | .prop c p a f,e=>bI e fun x n _=>(IJ f).isEmpty&&(n==a&&(!b9 x&&(gT (cA c) (fun C=>gT (fA f) fun g=>BV K C a g)&&bA sc p x)))
 | .nt a,e=>eV e fun o x _=>o == .Not&&bA sc a x
 | .bool q a b,e=>kI e fun op xs pos=>op==jX q&&hM xs fun x r=>bA sc a x&&hM r fun y r=>if r.isEmpty then bA sc b y else bA sc b (.BoolOp op (y::r) pos)
 | .cmp op a b,e=>fT e fun l os rs _=>fJ os fun o=>o==op&&fJ rs fun r=>!behindInMarks op r&&(bA sc a l&&bA sc b r)
 | .inT a l,e=>fT e fun x os rs _=>fJ os fun o=>o == .In&&fJ rs fun r=>gL r fun es _ _=>fS l es&&(decide (l.length≤50)&&bA sc a x)
 | .bin op a b,e=>nH e fun l o r _=>o==op&&(bA sc a l&&bA sc b r)
 | .call f ps,e=>IX e fun n as=>(IJ f).isEmpty&&(aM sc n&&(gT (fA f) (fun a=>eK K n==some (.ref a)&&keepIn K (.ref a))&&(E6 as&&xI sc ps as)))
 | .mcall c p m f ps,e=>mJ e m fun o as=>(IJ f).isEmpty&&(gT (cA c) (fun C=>gT (fA f) fun a=>B8 K C m a)&&(decide (as.length≤5)&&(E6 as&&(bA sc p o&&xI sc ps as))))
 | .len p,e=>O7 sc e "len" fun x=>bA sc p x
 | .typ p,e=>O7 sc e "type" fun x=>bA sc p x
 | .intc p,e=>O7 sc e "int" fun x=>bA sc p x
 | .isStr p,e=>IX e fun n as=>n==("isinstance" : Str)&&(aM sc "isinstance" && (aM sc "str" && hM as fun x r=>!aC x&&(bA sc p x&&fJ r fun y=>aW y fun m _=>m==("str" : Str))))
 | .repl p a b,e=>mJ e "replace" fun o as=>hM as fun x r=>fJ r fun y=>!aC x&&(!aC y&&(bA sc p o&&(bA sc a x&&bA sc b y)))
 | .joinL p l,e=>mJ e "join" fun o as=>fJ as fun x=>!aC x&&(bA sc p o&&bA sc l x)
 | .idx a i,e=>dL e fun v s _=>!rC s&&(bA sc a v&&bA sc i s)
 | .slc a lo hi,e=>dL e fun v s _=>nE s fun l u st _=>st.isNone&&(bA sc a v&&(J1 sc lo l&&J1 sc hi u))
 | .nil,e=>oZ e fun xs _=>xs.isEmpty
 | .addm p,e=>bI e fun x n _=>n==("append" : Str)&&(!b9 x&&bA sc p x)
 | .app f p,e=>cQ e fun fe as ks _=>ks.isEmpty&&(fJ as fun x=>!aC x&&(bA sc p x&&(bA sc f fe&&aW fe fun _ _=>true)))
 | .appL l p,e=>mJ e "append" fun o as=>fJ as fun x=>!aC x&&(bA sc l o&&bA sc p x)
 | .fstr a p b,e=>gQ e fun es _=>hM es fun x r=>hM r fun v r=>fJ r fun y=>bF x fun c _ _=>c == .str a&&bF y fun c _ _=>c == .str b&&(bL (.str a)&&(bL (.str b) &&
   dR v fun v cv sp _=>cv==-1&&(sp.isNone&&bA sc p v)))
 | .neg i,e=>eV e fun o x _=>o == .USub&&bF x fun c _ _=>c == .int i
 | .ext j,e=>xc j sc e&&pJ e
 | .stuck,_=>true
noncomputable def xI(sc:Scope):GE→List Expr→Bool
 | .nil,es=>es.isEmpty
 | .cons p ps,es=>hM es fun e r=>!aC e&&(bA sc p e&&xI sc ps r)
noncomputable def J1(sc:Scope):OO→Option Expr→Bool
 | .no,o=>o.isNone
 | .yes p,o=>gT o fun e=>bA sc p e
end
end
theorem lC{e:Expr}{n:Str}{f:Expr→List Expr→Bool}{m:Expr→Prop}(h:mJ e n f=true)(k:∀ o as(apos pos:Pos),b9 o=false→(apos.endLine==pos.line)=true→f o as=true→m (.Call (.Attribute o n apos) as [] pos)):m e:=by
 apply cS h; intro fe as ks pos h
 refine aB h fun z h=>?_; apply dE z
 apply bW h; intro o m' apos h
 refine aB h fun z h=>?_; apply bZ z
 exact k o as apos pos (bH (aA h).1) (aA (aA h).2).1 (aA (aA h).2).2
theorem DW{e:Expr}{f:Str→List Expr→Bool}{m:Expr→Prop}(h:IX e f=true)(k:∀ n as(p pos:Pos),f n as=true→m (.Call (.Name n p) as [] pos)):m e:=by
 apply cS h; intro fe as ks pos h
 refine aB h fun z h=>?_; apply dE z
 apply aO h; intro n p h
 exact k n as p pos h
theorem JJ{sc:Scope}{e:Expr}{n:Str}{f:Expr→Bool}{m:Expr→Prop}(h:O7 sc e n f=true)(k:∀ x(p pos:Pos),aM sc n=true→aC x=false→f x=true→m (.Call (.Name n p) [x] [] pos)):m e:=by
 apply DW h; intro n' as p pos h
 refine aB h fun z h=>?_; apply bZ z
 refine aB h fun h1 h=>?_
 apply cB h; intro x h
 exact k x p pos h1 (bH (aA h).1) (aA h).2
structure OY(D:OD)(K:Frag)(fA:Nat→Option Addr)(xc:Nat→Scope→Expr→Bool):Prop where
 k:∀ h,D.Z.TabI h→K.In h
 k0:K.In D.Z.h₀
 b:fZ D.Z
 c:bQ D.Z D.cA D.cl D.lvl fA
 x:∀ j sc e,xc j sc e=true→cF D sc e (.ext j)
section
variable{D:OD}{K:Frag}{fA:Nat→Option Addr}{xc:Nat→Scope→Expr→Bool}{sc:Scope}
theorem Q3{n:Str}{T:String}(h:gU.any (fun p=>p.1==n&&p.2 == .type T)=true):(n,Value.type T)∈gU:=by
 obtain⟨p,hm,h⟩:=List.any_eq_true.mp h
 have e:p=(n,.type T):=Prod.ext (eq_of_beq (aA h).1) (eq_of_beq (aA h).2)
 exact e▸hm
def IS(D:OD)(sc:Scope)(p:OE)(e:Expr):Prop:=cF D sc e p∧IM D sc e p
theorem IS.of{e:Expr}{p:OE}(h:cF D sc e p)(hw:pJ e=true):IS D sc p e:=KL h (uT hw)
theorem M5{q:Bool}{y:Expr}{b:OE}(h:IM D sc y b){A:Around}{env:Env}{ρ:LO}{μ:List Addr}{st:St}{s:Shared}{t:Bool}{st':St}{Q:Bool→Shared→Prop}{E:Value→Shared→Prop}(C:Oc D sc A env ρ μ st s)(hd:jW D.cl D.ex b ρ st=some (t,st'))
  (hQ:∀ s' μ',dF D.Z D.cA jK μ s.heap μ' st' s'→Q t s'):wpAny (model D.Z.prog D.Z.w) A (allTrue (jX q) [y] env) Q E s:=by
 rw[arm_allTrue_cons]
 refine wpAny_bind (h C hd fun s₁ μ₁ a₁=>?_)
 have:=hQ s₁ μ₁ a₁
 cases q <;> cases t <;> exact wpAny_pure this
theorem HK{q:Bool}{a b:OE}{x y:Expr}{pos:Pos}(i1:IS D sc a x)(i2:IS D sc b y):IS D sc (.bool q a b) (.BoolOp (jX q) [x,y] pos) :=
 ⟨AA (rest:=[y]) (fun _=>⟨_,_,rfl⟩) i1.1 fun{A env ρ μ st s v st' Q E}C hd g=>i2.1 (A:=A) (env:=env) (Q:=Q) (E:=E) C hd g,z9 i1.2 (M5 i2.2)⟩
theorem HJ{q:Bool}{a b:OE}{x y z:Expr}{r:List Expr}{pos:Pos}(i1:IS D sc a x)(i2:IS D sc b (.BoolOp (jX q) (y::z::r) pos)):IS D sc (.bool q a b) (.BoolOp (jX q) (x::y::z::r) pos) :=
 ⟨AA (rest:=y::z::r) (fun _=>⟨_,_,rfl⟩) i1.1 fun{A env ρ μ st s v st' Q E}C hd g=>i2.1 (A:=A) (env:=env) (Q:=Q) (E:=E) C hd g,z9 i1.2 fun{A env ρ μ st s t st' Q E}C hd hQ=>i2.2 (A:=A) (env:=env) (Q:=Q) (E:=E) C hd hQ⟩
mutual
theorem aF(X:OY D K fA xc):∀(p:OE){sc:Scope}{e:Expr},bA K D.cA fA xc D.nm sc p e=true→IS D sc p e
 | .lit d,sc,e,h=>by
  apply bX h; intro c k p h
  exact .of (QR (eq_of_beq h)) rfl
 | .var x,sc,e,h=>by
  apply aO h; intro n p h
  exact .of (xU (eq_of_beq (aA h).1) (eq_of_beq (aA (aA h).2).1) (bne_iff_ne.mp (aA (aA h).2).2)) rfl
 | .ty T,sc,e,h=>by
  apply aO h; intro n p h
  exact .of (KM X.b (aA h).1 (Q3 (aA h).2)) rfl
 | .attr c p a,sc,e,h=>by
  apply bW h; intro x n q h
  refine aB h fun z h=>aB h fun h1 h=>aB h fun h2 h=>?_; apply bZ z
  obtain⟨C,hC,h2⟩:=eG h2
  exact .of (NB X.k hC h2 (bH h1) (aF X p h).1) rfl
 | .prop c p a f,sc,e,h=>by
  apply bW h; intro x n q h
  refine aB h fun h0 h=>aB h fun z h=>aB h fun h1 h=>aB h fun h2 h=>?_; apply bZ z
  obtain⟨C,hC,h2⟩:=eG h2
  obtain⟨g,hg,h2⟩:=eG h2
  exact .of (M7 (List.isEmpty_iff.mp h0) X.k X.c hC hg h2 (bH h1) (aF X p h).1) rfl
 | .nt a,sc,e,h=>by
  apply jC h; intro o x p h
  refine aB h fun z h=>?_; apply bZ z
  exact⟨V2 (aF X a h).1,V0 (aF X a h).2⟩
 | .bool q a b,sc,e,h=>by
  apply vR h; intro op xs pos h
  refine aB h fun hz h=>?_; have hz:=eq_of_beq hz; subst hz
  apply cW h; intro x r h
  refine aB h fun h1 h=>?_
  apply cW h; intro y r' h
  cases r' with
  | nil=>exact HK (aF X a h1) (aF X b h)
  | cons z r=>exact HJ (aF X a h1) (aF X b h)
 | .cmp op a b,sc,e,h=>by
  apply mP h; intro l os rs p h
  apply cB h; intro o h
  refine aB h fun z h=>?_; apply bZ z
  apply cB h; intro r h
  refine aB h fun z h=>?_
  exact⟨QU (bH z) (aF X a (aA h).1).1 (aF X b (aA h).2).1,QL (bH z) (aF X a (aA h).1).1 (aF X b (aA h).2).1⟩
 | .inT a l,sc,e,h=>by
  apply mP h; intro x os rs p h
  apply cB h; intro o h
  refine aB h fun z h=>?_; apply bZ z
  apply cB h; intro r h
  apply kH h; intro es k q h
  exact WU (aA h).1 (of_decide_eq_true (aA (aA h).2).1) (aF X a (aA (aA h).2).2).1
 | .bin op a b,sc,e,h=>by
  apply AF h; intro l o r p h
  refine aB h fun z h=>?_; apply bZ z
  exact .of (QV (aF X a (aA h).1).1 (aF X b (aA h).2).1) rfl
 | .call f ps,sc,e,h=>by
  apply DW h; intro n as p q h
  refine aB h fun h0 h=>aB h fun h1 h=>aB h fun h2 h=>aB h fun h3 h=>?_
  obtain⟨a,ha,h2⟩:=eG h2
  exact .of (NA (List.isEmpty_iff.mp h0) X.k X.c ha h1 (eP X.k0 (eq_of_beq (aA h2).1)) (aA h2).2 (g8 h3) (s7 X ps h)) rfl
 | .mcall c p m f ps,sc,e,h=>by
  apply lC h; intro o as apos pos hc hl h
  refine aB h fun h0 h=>aB h fun h1 h=>aB h fun h2 h=>aB h fun h3 h=>?_
  obtain⟨C,hC,h1⟩:=eG h1
  obtain⟨a,ha,h1⟩:=eG h1
  exact .of (HG (List.isEmpty_iff.mp h0) X.k X.c hC ha h1 hc hl (of_decide_eq_true h2) (g8 h3) (aF X p (aA h).1).1 (s7 X ps (aA h).2)) rfl
 | .len p,sc,e,h=>by
  apply JJ h; intro x q r h1 h2 h
  exact .of (QS X.b h1 h2 (aF X p h).1) rfl
 | .typ p,sc,e,h=>by
  apply JJ h; intro x q r h1 h2 h
  exact .of (QN X.b h1 h2 (aF X p h).1) rfl
 | .intc p,sc,e,h=>by
  apply JJ h; intro x q r h1 h2 h
  exact .of (M8 X.b h1 h2 (aF X p h).1) rfl
 | .isStr p,sc,e,h=>by
  apply DW h; intro n as q r h
  refine aB h fun z h=>aB h fun h1 h=>aB h fun h2 h=>?_; apply bZ z
  apply cW h; intro x l h
  refine aB h fun h3 h=>aB h fun h4 h=>?_
  apply cB h; intro y h
  apply aO h; intro m q' h
  apply bZ h
  exact .of (HI X.b h1 h2 (bH h3) (aF X p h4).1) rfl
 | .repl p a b,sc,e,h=>by
  apply lC h; intro o as apos pos hc hl h
  apply cW h; intro x l h
  apply cB h; intro y h
  refine aB h fun h1 h=>aB h fun h2 h=>aB h fun h3 h=>?_
  exact .of (M6 hc hl (bH h1) (bH h2) (aF X p h3).1 (aF X a (aA h).1).1 (aF X b (aA h).2).1) rfl
 | .joinL p l,sc,e,h=>by
  apply lC h; intro o as apos pos hc hl h
  apply cB h; intro x h
  refine aB h fun h1 h=>?_
  exact .of (HH hc hl (bH h1) (aF X p (aA h).1).1 (aF X l (aA h).2).1) rfl
 | .idx a i,sc,e,h=>by
  apply fR h; intro v s p h
  refine aB h fun z h=>?_
  exact .of (QT (bH z) (aF X a (aA h).1).1 (aF X i (aA h).2).1) rfl
 | .slc a lo hi,sc,e,h=>by
  apply fR h; intro v s p h
  apply AD h; intro l u st q h
  refine aB h fun z h=>?_; apply rU z
  exact .of (QO (aF X a (aA h).1).1 (EF X lo (aA (aA h).2).1) (EF X hi (aA (aA h).2).2)) rfl
 | .nil,sc,e,h=>by
  apply q7 h; intro xs p h
  apply dE h
  exact .of QP rfl
 | .addm p,sc,e,h=>by
  apply bW h; intro x n q h
  refine aB h fun z h=>?_; apply bZ z
  exact .of (NE (bH (aA h).1) (aF X p (aA h).2).1) rfl
 | .app f p,sc,e,h=>by
  apply cS h; intro fe as ks q h
  refine aB h fun z h=>?_; apply dE z
  apply cB h; intro x h
  refine aB h fun h1 h=>aB h fun h2 h=>aB h fun h3 h4=>?_
  have i:IS D sc f fe:=aF X f h3
  exact .of (aO (m:=fun fe=>IS D sc f fe→cF D sc (.Call fe [x] [] q) (.app f p)) h4 (fun n np _ i=>QW rfl (bH h1) i.1 (aF X p h2).1) i) rfl
 | .appL l p,sc,e,h=>by
  apply lC h; intro o as apos pos hc hl h
  apply cB h; intro x h
  refine aB h fun h1 h=>?_
  exact .of (NC hc hl (bH h1) (aF X l (aA h).1).1 (aF X p (aA h).2).1) rfl
 | .fstr a p b,sc,e,h=>by
  apply yR h; intro es q h
  apply cW h; intro x r h
  apply cW h; intro v r h
  apply cB h; intro y h
  apply bX h; intro c1 k1 p1 h
  refine aB h fun z h=>?_; apply bZ z
  apply bX h; intro c2 k2 p2 h
  refine aB h fun z h=>?_; apply bZ z
  refine aB h fun h1 h=>aB h fun h2 h=>?_
  apply oL h; intro v' cv sp p3 h
  refine aB h fun z h=>?_; apply bZ z
  refine aB h fun z h=>?_; apply rU z
  exact .of (M9 h1 h2 (aF X p h).1) rfl
 | .neg i,sc,e,h=>by
  apply jC h; intro o x p h
  refine aB h fun z h=>?_; apply bZ z
  apply bX h; intro c k q h
  apply bZ h
  exact KL QQ fun _=>rfl
 | .ext j,sc,e,h=>.of (X.x j sc e (aA h).1) (aA h).2
 | .stuck,sc,e,h=>⟨fun _ hd=>(nomatch hd),fun _ hd=>(nomatch hd)⟩
theorem s7(X:OY D K fA xc):∀(ps:GE){sc:Scope}{es:List Expr},xI K D.cA fA xc D.nm sc ps es=true→wT D sc es ps
 | .nil,sc,es,h=>by apply dE h; exact cY
 | .cons p ps,sc,es,h=>by
  apply cW h; intro e r h
  refine aB h fun z h=>?_
  exact bR (bH z) (aF X p (aA h).1).1 (s7 X ps (aA h).2)
theorem EF(X:OY D K fA xc):∀(p:OO){sc:Scope}{o:Option Expr},J1 K D.cA fA xc D.nm sc p o=true→XU D sc o p
 | .no,sc,o,h=>by apply rU h; exact V1
 | .yes p,sc,o,h=>by
  apply rJ h; intro e h
  exact QM (aF X p h).1
end
end
section
variable{D:OD}{sc:Scope}{K:Frag}{fA:Nat→Option Addr}{A:Around}{E:Value→Shared→Prop}{env:Env}{ρ:LO}{μ μ':List Addr}{st so:St}{s s':Shared}{h:Heap}{xc:Nat→Scope→Expr→Bool}
theorem Oc.inL(C:Oc D sc A env ρ μ st s)(a:dF D.Z D.cA jK μ s.heap μ' so s'):dF D.Z D.cA (· = env.locals) μ s.heap μ' so s':=⟨a.i,a.t.inL C.he,a.so⟩
theorem WN{x y:Nat}{v u:OV}(hh:((ρ.set x (some v))[y]?).join=some u):(y=x∧v=u)∨(y≠x∧(ρ[y]?).join=some u):=by
 rw[List.getElem?_set]at hh
 by_cases e:x=y
 ·rw[if_pos e]at hh
  by_cases hx:x<ρ.length
  ·rw[if_pos hx]at hh; exact .inl ⟨e.symm,Option.some.inj hh⟩
  ·rw[if_neg hx]at hh; cases hh
 ·rw[if_neg e]at hh
  exact .inr ⟨fun e'=>e e'.symm,hh⟩
theorem Oc.store(C:Oc D sc A env ρ μ st s){x:Nat}{n:Str}{w:Value}{v:OV}{Q:Unit→Shared→Prop}(hnd:D.nm.Nodup)(hx:D.nm[x]? = some n)(hl:sc.names.lookup n=some .local)(hw:VE μ w v)
  (hQ:∀ s',dF D.Z D.cA (· = env.locals) μ s.heap μ st s'→lX D.Z D.nm env (ρ.set x (some v)) μ s'.heap→Q () s'):wpAny (model D.Z.prog D.Z.w) A (storeName env n w) Q E s:=by
 have hE:=C.he
 obtain⟨m,hm,hv⟩:=hE.ns
 refine wpAny_storeName_local (C.hs.1 n hl) hm (fun h' hn hsb=>hQ _ ⟨C.hi.same hE.new hsb (fun _=>let⟨o,es,ep,e,hd,_⟩:=hn; ⟨o,e,es,ep,hd⟩) _,⟨List.prefix_rfl,fun b o e _ _ hb=>.inl ((hsb.2 b hb).trans e),fun _ h hn=>absurd h hn⟩,?_⟩ ?_) (by rw[hE.kind]; rfl)
 ·exact⟨C.so.len,C.so.nd,C.so.hi,fun k a f h1 h2=>(C.so.at_ k a f h1 h2).sl List.prefix_rfl fun o e=>.inl ((hsb.2 a fun e'=>hE.out (e'▸List.mem_of_getElem? h1)).trans e)⟩
 ·refine{ hE with ns:=⟨_,hn,fun y u k h1 h2=>(WN h1).elim (fun⟨e,e'⟩=>?_) fun⟨hne,h1⟩=>?_⟩ }
  ·subst e e'
   cases hx.symm.trans h2
   exact⟨w,if_pos rfl,hw⟩
  ·obtain⟨w',h3,h4⟩:=hv y u k h1 h2
   exact⟨w',(if_neg fun e:k=n=>hne (iC hnd h2 (e▸hx))).trans h3,h4⟩
noncomputable def Ak(D:OD)(env:Env)(μ:List Addr)(h:Heap):lU→Flow→Prop
 | .next ρ,fl=>fl = .next∧lX D.Z D.nm env ρ μ h
 | .brk ρ,fl=>fl = .brk∧lX D.Z D.nm env ρ μ h
 | .cont ρ,fl=>fl = .cont∧lX D.Z D.nm env ρ μ h
 | .ret v,fl=>∃ w,fl = .ret w∧VE μ w v
def vC(D:OD)(env:Env)(μ:List Addr)(h:Heap)(r:lU×St)(R:Flow→Shared→Prop):Prop:=∀ fl s' μ',dF D.Z D.cA (· = env.locals) μ h μ' r.2 s'→Ak D env μ' s'.heap r.1 fl→R fl s'
theorem vC.from_{r:lU×St}{R:Flow→Shared→Prop}(p:vC D env μ h r R)(a:dF D.Z D.cA (· = env.locals) μ h μ' so s'):vC D env μ' s'.heap r R:=fun fl s'' μ'' b f=>p fl s'' μ'' (a.trans b) f
end
section
variable(D:OD)(sc:Scope)(fuel:Nat)
def lW(st:Stmt)(p:OS):Prop :=
 ∀{A:Around}{env:Env}{ρ:LO}{μ:List Addr}{so:St}{s:Shared}{r:lU×St}{R:Flow→Shared→Prop}{E:Value→Shared→Prop},
  Oc D sc A env ρ μ so s→BD D.cl D.ex fuel p ρ so=some r→vC D env μ s.heap r R→wpAny (model D.Z.prog D.Z.w) A (exec st env) R E s
def TZ(ss:List Stmt)(p:j4):Prop :=
 ∀{A:Around}{env:Env}{ρ:LO}{μ:List Addr}{so:St}{s:Shared}{r:lU×St}{R:Flow→Shared→Prop}{E:Value→Shared→Prop},
  Oc D sc A env ρ μ so s→bN D.cl D.ex fuel p ρ so=some r→vC D env μ s.heap r R→wpAny (model D.Z.prog D.Z.w) A (execs ss env) R E s
end
section
variable{D:OD}{sc:Scope}{fuel:Nat}{K:Frag}{fA:Nat→Option Addr}{A:Around}{E:Value→Shared→Prop}{env:Env}{ρ ρ':LO}{μ μ':List Addr}{so st st':St}{s s':Shared}{xc:Nat→Scope→Expr→Bool}
 {np pos apos:Pos} {value o:Expr} {p q:OE}
theorem Oc.to(C:Oc D sc A env ρ μ so s)(a:dF D.Z D.cA (· = env.locals) μ s.heap μ' st s')(e:lX D.Z D.nm env ρ' μ' s'.heap):Oc D sc A env ρ' μ' st s':=⟨C.ha,C.hs,e,a.i,a.so⟩
theorem Oc.next(C:Oc D sc A env ρ μ so s){R:Flow→Shared→Prop}(hR:vC D env μ s.heap (.next ρ,st) R)(a:dF D.Z D.cA jK μ s.heap μ' st s'):R .next s':=hR _ _ _ (C.inL a) ⟨rfl,C.he.step a.t⟩
theorem QI:TZ D sc fuel [] .nil:=fun{A env ρ μ so s r R E}C hd hR=>by
 cases hd
 exact wpAny_execs_nil (C.next hR C.at)
theorem M3{st:Stmt}{ss:List Stmt}{p:OS}{ps:j4}(h1:lW D sc fuel st p)(h2:TZ D sc fuel ss ps):TZ D sc fuel (st::ss) (.cons p ps):=fun{A env ρ μ so s r R E}C hd hR=>bD hd fun f so₁ hx hd=>by
 refine wpAny_execs_cons (h1 C hx fun fl s' μ' a g=>?_)
 cases f with
 | next ρ'=>obtain⟨rfl,e⟩:=g; exact h2 (C.to a e) hd (hR.from_ a)
 | brk ρ'=>obtain⟨rfl,e⟩:=g; cases hd; exact hR _ _ _ a ⟨rfl,e⟩
 | cont ρ'=>obtain⟨rfl,e⟩:=g; cases hd; exact hR _ _ _ a ⟨rfl,e⟩
 | ret v=>obtain⟨w,rfl,e⟩:=g; cases hd; exact hR _ _ _ a ⟨w,rfl,e⟩
theorem tU{x:Nat}{n:Str}(hnd:D.nm.Nodup)(hx:D.nm[x]? = some n)(hl:sc.names.lookup n=some .local)(hc:f7 value=false)(h:cF D sc value p):lW D sc fuel (.Assign [.Name n np] value pos) (.assign x p):=fun{A env ρ μ so s r R E}C hd hR=>bY hd fun v hv e=>by
 cases e
 exact wpAny_Assign_Name (h C hv fun w s₁ μ₁ a₁ hw=>(C.go a₁).store hnd hx hl hw fun s₂ a₂ E₂=>hR _ s₂ μ₁ ((C.inL a₁).trans a₂) ⟨rfl,E₂⟩) (jA hc _ _ _)
theorem A4{x y:Nat}{n m:Str}{p1 p2 tp vp:Pos}{k k':Nat}{ea eb:Expr}{a b:OE}(hnd:D.nm.Nodup)(hxy:x≠y)(hx:D.nm[x]? = some n)(hy:D.nm[y]? = some m)(hk1:sc.names.lookup n=some .local)(hk2:sc.names.lookup m=some .local)
  (hsa:aC ea=false) (hsb:aC eb=false) (hcon:(!([ea,eb].all (foldedForSure 8))&&[ea,eb].all (constantsAlone 8))=false) (ha:cF D sc ea a) (hb:cF D sc eb b) :
  lW D sc fuel (.Assign [.Tuple [.Name n p1,.Name m p2] k tp] (.Tuple [ea,eb] k' vp) pos) (.assign2 x y a b):=fun{A env ρ μ so s r R E}C hd hR=>bD hd fun d1 so₁ hv1 hd=>bY hd fun d2 hv2 e=>by
 cases e
 refine qF C.ha.handled hsa hsb hcon (ha C hv1 fun v1 s₁ μ₁ a₁ hw1=>hb (C.go a₁) hv2 fun v2 s₂ μ₂ a₂ hw2 h' hk=>?_)
 have t:=(a₁.trans a₂).kp (a₂.i.full (h':=h') (tk:=s₂.toks) hk) (Kp.of hk)
 have C':=C.go t
 have hw1:=hw1.pre a₂.t.pre
 have fin:∀{s₅ s₆ σ},dF D.Z D.cA (· = env.locals) μ₂ h' μ₂ d2.2 s₅→dF D.Z D.cA (· = env.locals) μ₂ s₅.heap μ₂ d2.2 s₆→lX D.Z D.nm env σ μ₂ s₆.heap→σ=(ρ.set x (some d1)).set y (some d2.1)→R .next s₆:=fun a₅ a₆ e he=>hR _ _ μ₂ ((C.inL t).trans (a₅.trans a₆)) ⟨rfl,he▸e⟩
 exact⟨C'.store hnd hx hk1 hw1 fun s₅ a₅ E₅=>(C'.to a₅ E₅).store hnd hy hk2 hw2 fun s₆ a₆ E₆=>fin a₅ a₆ E₆ rfl,
  C'.store hnd hy hk2 hw2 fun s₅ a₅ E₅=>(C'.to a₅ E₅).store hnd hx hk1 hw1 fun s₆ a₆ E₆=>fin a₅ a₆ E₆ (List.set_comm _ _ (Ne.symm hxy))⟩
theorem MY{c:Nat}{C':Addr}{a:Str}(hK:∀ h,D.Z.TabI h→K.In h)(hC:D.cA c=some C')(hok:zK K C' a=true)(hc:f7 value=false)(ho:cF D sc o q)(h:cF D sc value p) :
  lW D sc fuel (.Assign [.Attribute o a apos] value pos) (.setA c q a p):=fun{A env ρ μ so s r R E}C hd hR=>bD hd fun v so₁ hv hd=>bD hd fun u so₂ hu hd=>bY hd fun so₃ h3 e=>by
 cases e
 exact plainObj_wpAny_Assign_Attribute (h C hv fun w s₁ μ₁ a₁ hw=>ho (C.go a₁) hu fun z s₂ μ₂ a₂ hz=>XW (hK _ a₂.i.tab) (a₁.trans a₂) hC hok h3 hz (hw.pre a₂.t.pre) fun s₃ a₃=>C.next hR a₃) (jA hc _ _ _)
theorem AG{h:Heap}{w u:Value}{x y v:OV}{op:Operator}{Q:Value→Shared→Prop}(a:dF D.Z D.cA jK μ h μ' st' s')(hop:(op == .Add||op == .Sub)=true)(hw:VE μ' w x)(hu:VE μ' u y)(hv:GL op x y=some v)(g:gI D.Z D.cA μ h st' v Q) :
  wpAny (model D.Z.prog D.Z.w) A (inplaceOp op w u) Q E s':=u8 hv fun x' e1 f1 hv=>u8 hv fun y' e2 f2 hv=>sU hv fun d h3 f3 e=>by
 subst e1 e2 e
 obtain⟨r1,ok1,_⟩:=pR.rd hw s'.heap
 obtain⟨r2,ok2,_⟩:=pR.rd hu s'.heap
 exact oI r1 r2 ok1 ok2 f1 hop h3 fun v' tk r ok=>g _ _ _ (a.tok tk) ⟨r _,ok⟩
theorem QK{x:Nat}{n:Str}{op:Operator}(hnd:D.nm.Nodup)(hx:D.nm[x]? = some n)(hl:sc.names.lookup n=some .local)(h:cF D sc value p):lW D sc fuel (.AugAssign (.Name n np) op value pos) (.aug x op p):=fun{A env ρ μ so s r R E}C hd hR =>
 aV hd fun a ha hd=>bD hd fun v so₁ hv hd=>hY hd fun hop hd=>bY hd fun v' hv' e=>by
 cases e
 exact wpAny_AugAssign_Name (C.load hx hl ha fun w hw=>h C hv fun u s₁ μ₁ a₁ hu=>AG a₁ hop (hw.pre a₁.t.pre) hu hv' fun z s₂ μ₂ a₂ hz=>(C.go a₂).store hnd hx hl hz fun s₃ a₃ E₃=>hR _ s₃ μ₂ ((C.inL a₂).trans a₃) ⟨rfl,E₃⟩)
theorem M4{c:Nat}{C':Addr}{a:Str}{op:Operator}(hK:∀ h,D.Z.TabI h→K.In h)(hC:D.cA c=some C')(hok:zK K C' a=true)(hgo:zN K C' a=true)(ho:cF D sc o q)(h:cF D sc value p) :
  lW D sc fuel (.AugAssign (.Attribute o a apos) op value pos) (.augA c q a op p):=fun{A env ρ μ so s r R E}C hd hR =>
 bD hd fun u so₁ hu hd=>bD hd fun k es hi hd=>aV hd fun old hold hd=>bD hd fun v so₂ hv hd=>hY hd fun hop hd=>aV hd fun v' hv' hd=>bY hd fun so₃ h3 e=>by
 cases e
 exact wpAny_AugAssign_AttributeAny (ho C hu fun z s₁ μ₁ a₁ hz=>X9 (hK _ a₁.i.tab) a₁.so hC hgo hi hold hz fun w hw=>h (C.go (a₁.tok _)) hv fun y s₂ μ₂ a₂ hy =>
  AG (.here a₂.i a₂.so) hop (hw.pre a₂.t.pre) hy hv' fun x s₃ μ₃ a₃ hx=>XW (hK _ a₃.i.tab) (((a₁.tok _).trans a₂).trans a₃) hC hok h3 ((hz.pre a₂.t.pre).pre a₃.t.pre) hx fun s₄ a₄=>C.next hR a₄)
theorem MZ{e:Expr}(hc:f7 e=false)(h:cF D sc e p):lW D sc fuel (.Expr e pos) (.expr p):=fun{A env ρ μ so s r R E}C hd hR=>bD hd fun v so₁ hv hd=>jM hd fun x ex hd=>by
 cases hd
 have ex:v = .d x:=ex
 subst ex
 have hint:interactive env=false:=by unfold interactive; rw[C.he.kind]; rfl
 exact wpAny_Expr (h C hv fun w s₁ μ₁ a₁ hw=>have:=C.next hR a₁; by obtain⟨r,_⟩:=hw; cases r <;> exact this) hint (jA hc _ _ _)
theorem ES{e:Expr}(h:cF D sc e p):lW D sc fuel (.Return (some e) pos) (.ret p):=fun{A env ρ μ so s r R E}C hd hR=>bY hd fun v hv e=>by
 cases e
 exact wpAny_Return_some (h C hv fun w s₁ μ₁ a₁ hw=>hR _ _ _ (C.inL a₁) ⟨w,rfl,hw⟩)
theorem VZ{t:Expr}{b1 b2:List Stmt}{c:OE}{p1 p2:j4}(hc:IM D sc t c)(h1:TZ D sc fuel b1 p1)(h2:TZ D sc fuel b2 p2):lW D sc fuel (.If t b1 b2 pos) (.ife c p1 p2):=fun{A env ρ μ so s r R E}C hd hR=>bD hd fun b so₁ hv hd =>
 wpAny_If (hc C hv fun s₁ μ₁ a₁=>by
  cases b with
  | true=>exact h1 (C.go a₁) hd (hR.from_ (C.inL a₁))
  | false=>exact h2 (C.go a₁) hd (hR.from_ (C.inL a₁)))
theorem DE{t:Expr}{m:Option Expr}{c:OE}(hc:IM D sc t c):lW D sc fuel (.Assert t m pos) (.asrt c):=fun{A env ρ μ so s r R E}C hd hR=>bD hd fun b so₁ hv hd=>hY hd fun hb e=>by
 cases e
 exact wpAny_Assert_holds (hc C hv fun s₁ μ₁ a₁=>⟨hb,C.next hR a₁⟩)
theorem QJ:lW D sc fuel (.Break pos) .brk:=fun{A env ρ μ so s r R E}C hd hR=>by
 cases hd
 exact wpAny_Break (hR _ _ _ (C.inL C.at) ⟨rfl,C.he⟩)
theorem M2:lW D sc fuel (.Continue pos) .cont:=fun{A env ρ μ so s r R E}C hd hR=>by
 cases hd
 exact wpAny_Continue (hR _ _ _ (C.inL C.at) ⟨rfl,C.he⟩)
theorem HF{t:Expr}{b:List Stmt}{c:OE}{ps:j4}(hc:IM D sc t c)(h:TZ D sc fuel b ps):lW D sc fuel (.While t b [] pos) (.while_ c ps):=fun{A env ρ μ so s r R E}C hd hR=>by
 refine wpAny_While (codeAny_whileLoop (fun n s'=>∃ ρ' μ' so',dF D.Z D.cA (· = env.locals) μ s.heap μ' so' s'∧lX D.Z D.nm env ρ' μ' s'.heap∧cP (jW D.cl D.ex c) (bN D.cl D.ex fuel ps) n ρ' so'=some r) ?_ fuel ⟨ρ,μ,so,C.inL C.at,C.he,hd⟩)
 rintro n s₀ ⟨ρ',μ',so',a,E',hw⟩
 cases n with
 | zero=>cases hw
 | succ n =>
  have C':=C.to a E'
  exact bD hw fun tb so₁ hv hw=>hc C' hv fun s₁ μ₁ a₁=>by
   have a₂:=a.trans (C'.inL a₁)
   cases tb with
   | false =>
    cases hw
    exact wpAny_execs_nil (hR _ _ _ a₂ ⟨rfl,E'.step a₁.t⟩)
   | true =>
    exact bD hw fun f so₂ hb hw=>h (C'.go a₁) hb fun fl s₂ μ₂ a₃ g=>by
     cases f with
     | next ρ₂=>obtain⟨rfl,e⟩:=g; exact⟨n,Nat.lt_succ_self n,ρ₂,μ₂,so₂,a₂.trans a₃,e,hw⟩
     | cont ρ₂=>obtain⟨rfl,e⟩:=g; exact⟨n,Nat.lt_succ_self n,ρ₂,μ₂,so₂,a₂.trans a₃,e,hw⟩
     | brk ρ₂=>obtain⟨rfl,e⟩:=g; cases hw; exact hR _ _ _ (a₂.trans a₃) ⟨rfl,e⟩
     | ret v=>obtain⟨w,rfl,e⟩:=g; cases hw; exact hR _ _ _ (a₂.trans a₃) ⟨w,rfl,e⟩
end
section
variable(K:Frag)(cA fA:Nat→Option Addr)(xc:Nat→Scope→Expr→Bool)(nm:List Str)
noncomputable def O9(sc:Scope)(x:Nat)(n:Str):Bool:=nm[x]? == some n&&sc.names.lookup n==some .local
noncomputable def TB:OS→Bool
 | .stuck=>true
 | _=>false
theorem U5{p:OS}(h:TB p=true):p = .stuck:=by
 cases p with
 | stuck=>rfl
 | _=>cases h
mutual
noncomputable def TO(sc:Scope):OS→Stmt→Bool
 | .assign x p,st=>cG st fun ts v _=>fJ ts fun t=>aW t fun n _=>O9 nm sc x n&&(!f7 v&&bA K cA fA xc nm sc p v)
 | .assign2 x y a b,st=>cG st fun ts v _=>fJ ts fun t=>gL t fun ns _ _=>hM ns fun t1 r=>fJ r fun t2=>aW t1 fun n _=>aW t2 fun m _=>gL v fun es _ _=>hM es fun ea r=>fJ r fun eb =>
   x != y&&(O9 nm sc x n&&(O9 nm sc y m&&(!aC ea&&(!aC eb&&(!(!([ea,eb].all (foldedForSure 8))&&[ea,eb].all (constantsAlone 8))&&(bA K cA fA xc nm sc a ea&&bA K cA fA xc nm sc b eb))))))
 | .setA c o a p,st=>cG st fun ts v _=>fJ ts fun t=>bI t fun x n _=>n==a&&(gT (cA c) (fun C=>zK K C a)&&(!f7 v&&(bA K cA fA xc nm sc o x&&bA K cA fA xc nm sc p v)))
 | .aug x op p,st=>c6 st fun t o v _=>o==op&&aW t fun n _=>O9 nm sc x n&&bA K cA fA xc nm sc p v
 | .augA c q a op p,st=>c6 st fun t o v _=>o==op&&bI t fun x n _=>n==a&&(gT (cA c) (fun C=>zK K C a&&zN K C a)&&(bA K cA fA xc nm sc q x&&bA K cA fA xc nm sc p v))
 | .expr p,st=>iA st fun e _=>!f7 e&&bA K cA fA xc nm sc p e
 | .ife c a b,st=>oY st fun t b1 b2 _=>bA K cA fA xc nm sc c t&&(eM sc a b1&&eM sc b b2)
 | .while_ c b,st=>iI st fun t b1 b2 _=>b2.isEmpty&&(bA K cA fA xc nm sc c t&&eM sc b b1)
 | .ret p,st=>eD st fun e _=>gT e fun e=>bA K cA fA xc nm sc p e
 | .brk,st=>st.ctorIdx==26
 | .cont,st=>st.ctorIdx==27
 | .asrt c,st=>jD st fun t _ _=>bA K cA fA xc nm sc c t
 | .stuck,_=>true
noncomputable def eM(sc:Scope):j4→List Stmt→Bool
 | .nil,ss=>ss.isEmpty
 | .cons p ps,ss=>TB p||hM ss fun st r=>TO sc p st&&eM sc ps r
end
end
section
variable{D:OD}{K:Frag}{fA:Nat→Option Addr}{xc:Nat→Scope→Expr→Bool}
mutual
theorem PY(X:OY D K fA xc)(hnd:D.nm.Nodup)(fuel:Nat):∀(p:OS){sc:Scope}{st:Stmt},TO K D.cA fA xc D.nm sc p st=true→lW D sc fuel st p
 | .assign x p,sc,st,h=>by
  apply dM h; intro ts v pos h
  apply cB h; intro t h
  apply aO h; intro n q h
  refine aB h fun h1 h=>aB h fun h2 h=>?_
  exact tU hnd (eq_of_beq (aA h1).1) (eq_of_beq (aA h1).2) (bH h2) (aF X p h).1
 | .assign2 x y a b,sc,st,h=>by
  apply dM h; intro ts v pos h
  apply cB h; intro t h
  apply kH h; intro ns k q h
  apply cW h; intro t1 r h
  apply cB h; intro t2 h
  apply aO h; intro n q1 h
  apply aO h; intro m q2 h
  apply kH h; intro es k' q' h
  apply cW h; intro ea r' h
  apply cB h; intro eb h
  refine aB h fun h1 h=>aB h fun h2 h=>aB h fun h3 h=>aB h fun h4 h=>aB h fun h5 h=>aB h fun h6 h=>?_
  exact A4 hnd (bne_iff_ne.mp h1) (eq_of_beq (aA h2).1) (eq_of_beq (aA h3).1) (eq_of_beq (aA h2).2) (eq_of_beq (aA h3).2) (bH h4) (bH h5) (bH h6) (aF X a (aA h).1).1 (aF X b (aA h).2).1
 | .setA c o a p,sc,st,h=>by
  apply dM h; intro ts v pos h
  apply cB h; intro t h
  apply bW h; intro x n q h
  refine aB h fun z h=>aB h fun h1 h=>aB h fun h2 h=>?_; apply bZ z
  obtain⟨C,hC,h1⟩:=eG h1
  exact MY X.k hC h1 (bH h2) (aF X o (aA h).1).1 (aF X p (aA h).2).1
 | .aug x op p,sc,st,h=>by
  apply gF h; intro t o v pos h
  refine aB h fun z h=>?_; apply bZ z
  apply aO h; intro n q h
  exact QK hnd (eq_of_beq (aA (aA h).1).1) (eq_of_beq (aA (aA h).1).2) (aF X p (aA h).2).1
 | .augA c q a op p,sc,st,h=>by
  apply gF h; intro t o v pos h
  refine aB h fun z h=>?_; apply bZ z
  apply bW h; intro x n q' h
  refine aB h fun z h=>aB h fun h1 h=>?_; apply bZ z
  obtain⟨C,hC,h1⟩:=eG h1
  exact M4 X.k hC (aA h1).1 (aA h1).2 (aF X q (aA h).1).1 (aF X p (aA h).2).1
 | .expr p,sc,st,h=>by
  apply pK h; intro e pos h
  exact MZ (bH (aA h).1) (aF X p (aA h).2).1
 | .ife c a b,sc,st,h=>by
  apply xV h; intro t b1 b2 pos h
  exact VZ (aF X c (aA h).1).2 (kF X hnd fuel a (aA (aA h).2).1) (kF X hnd fuel b (aA (aA h).2).2)
 | .while_ c b,sc,st,h=>by
  apply tV h; intro t b1 b2 pos h
  refine aB h fun z h=>?_; apply dE z
  exact HF (aF X c (aA h).1).2 (kF X hnd fuel b (aA h).2)
 | .ret p,sc,st,h=>by
  apply gP h; intro e pos h
  apply rJ h; intro e h
  exact ES (aF X p h).1
 | .brk,sc,st,h=>Stmt.Break.elim (motive_2:=fun st=>lW D sc fuel st .brk) st (eq_of_beq h) fun _=>QJ
 | .cont,sc,st,h=>Stmt.Continue.elim (motive_2:=fun st=>lW D sc fuel st .cont) st (eq_of_beq h) fun _=>M2
 | .asrt c,sc,st,h=>by
  apply A5 h; intro t m pos h
  exact DE (aF X c h).2
 | .stuck,sc,st,h=>fun _ hd=>(nomatch hd)
theorem kF(X:OY D K fA xc)(hnd:D.nm.Nodup)(fuel:Nat):∀(p:j4){sc:Scope}{ss:List Stmt},eM K D.cA fA xc D.nm sc p ss=true→TZ D sc fuel ss p
 | .nil,sc,ss,h=>by apply dE h; exact QI
 | .cons p ps,sc,ss,h=>by
  refine(Bool.or_eq_true_iff.mp h).elim (fun h=>?_) fun h=>?_
  ·cases U5 h; exact fun _ hd=>nomatch hd
  ·apply cW h; intro st r h
   exact M3 (PY X hnd fuel p (aA h).1) (kF X hnd fuel ps (aA h).2)
end
end
theorem JX{α:Type}{l:List α}{i:Nat}{a:α}(e:l[i]? = some a):i<l.length:=(List.getElem?_eq_some_iff.mp e).1
theorem MC{a d n:Nat}(h1:a≤n)(h2:n≤a+d):a+(d - (d+a - n))=n:=by
 obtain⟨j,rfl⟩:=Nat.exists_eq_add_of_le h1
 rw[Nat.add_comm d a,Nat.add_sub_add_left,Nat.sub_sub_self (Nat.le_of_add_le_add_left h2)]
structure e8(Z:aE)(a:Addr)(fd:FuncData)(body:List Stmt)(nm:List Str)(pf:OF):Prop where
 lam:nm.length=14→fd.code=Z.lam
 obj:∃ o,Z.h₀.get? a=some o∧o.cls ≠ .none∧o.data = .func fd
 body:fd.body = .stmts body
 clo:fd.closure=[]
 kind:fd.scope.kind = .function
 co:fd.scope.isCoroutine=false
 gen:fd.scope.isGenerator=false
 glob:fd.globals=mainGlobals
 blt:fd.builtins=builtinsNs
 code:∃ c oc vs t,fd.code = .ref c∧Z.h₀.get? c=some oc∧oc.cls ≠ .none∧oc.data = .fields vs∧vs[1]? = some (.str fd.qualname t)
 bind:∃ dv:List Value,gH [] dv (pf.dflt.map .d)∧∀(s:Shared)(vals:List Value),Z.TabI s.heap→vals.length≤pf.arity→pf.arity≤vals.length+dv.length→BindsTo s fd ⟨vals,[]⟩ ((nm.take pf.arity).zip (vals++dv.drop (dv.length+vals.length - pf.arity)))
 len:pf.arity≤nm.length
 nd:nm.Nodup
 nocell:∀ p∈fd.scope.names,p.2 ≠ .cell∧p.2 ≠ .free
 params:∀ n∈nm.take pf.arity,fd.scope.names.lookup n=some .local
section
variable{prog:Program}{w:World}{A:Around}{s:Shared}
theorem mT{R:Result→Shared→Prop}{a:Addr}{o:Obj}{fd:FuncData}{body:List Stmt}{args:Args}{binds:List (Str×Value)}
  (hroom:A.depth<recursionLimit) (ho:s.heap.get? a=some o) (hdata:o.data = .func fd) (hlim:s.heap.NoLimit) (hcd:s.heap.CodeRec fd.code fd.qualname)
  (hbody:fd.body = .stmts body) (hbind:BindsTo s fd args binds) (hclo:fd.closure=[])
  (hkind:∀ x∈binds,fd.scope.names.lookup x.1=some .local∨(fd.scope.names.lookup x.1=some .cell∧((cellsFrom (s.heap.objs.size+1) fd.scope.names []).lookup x.1).isSome=true))
  (h:∀ s₁,InCallC s (callEnvC fd s.heap.objs.size a).locals (bindL (callEnvC fd s.heap.objs.size a).kindOf binds fun _=>none) (callEnvC fd s.heap.objs.size a).cells
    (bindC (callEnvC fd s.heap.objs.size a).kindOf binds fun _=>none) s₁ →
   wpAny (model prog w) (A.deeper (callEnvC fd s.heap.objs.size a)) (execs body (callEnvC fd s.heap.objs.size a)) (fun f s'=>R (.ok (.ret (match f with | .ret v=>v | _=>.none))) s')
    (fun e s'=>wpAny (model prog w) (A.deeper (callEnvC fd s.heap.objs.size a)) (leaving (callEnvC fd s.heap.objs.size a) e) (fun _ s''=>R (.error e) s'') (fun e' s''=>R (.error e') s'') s') s₁)
  (hco:fd.scope.isCoroutine=false) (hgen:fd.scope.isGenerator=false) (hk:fd.scope.kind = .function) :
  codeAny (model prog w) A (.call (.ref a) args) R s:=by
 refine codeAny_call_function hroom ho hdata hco hgen hbody hcd (hbind _ _ _ _ ?_)
 rw[hclo]
 refine wpAny_newFunctionEnv_cells hk hkind fun env he s' x=>?_
 subst he
 exact⟨hlim.keeps x.toInCall.keep,codeAny_func (h s' x)⟩
end
noncomputable abbrev OD.at(D:OD)(fr:List Addr):OD:={ D with Z:=D.Z.at fr }
section
variable{D:OD}{K:Frag}{fA:Nat→Option Addr}{xc:Nat→Scope→Expr→Bool}{a:Addr}{fd:FuncData}{body:List Stmt}{pf:OF}{nm:List Str}{st st':St}{μ:List Addr}{A:Around}{s:Shared}{R:Result→Shared→Prop}{ρ:LO}{all:List Value}{as:Args}
def PH(μ:List Addr)(all:List Value)(ρ:LO):Prop:=∀(x:Nat)(v:OV),(ρ[x]?).join=some v→∃ w,all[x]? = some w∧VE μ w v
theorem EB{vs:List Value}{xs:List OV}{k:Nat}(h:gH μ vs xs):PH μ vs (xs.map some++List.replicate k none):=fun x v hx=>by
 rw[List.getElem?_append]at hx
 by_cases c:x<(xs.map some).length
 ·rw[if_pos c,List.getElem?_map]at hx
  cases e:xs[x]? with
  | none=>rw[e]at hx; cases hx
  | some u =>
   rw[e]at hx
   cases(show some u=some v from hx)
   exact h.get e
 ·rw[if_neg c,List.getElem?_replicate]at hx
  by_cases c:x - (xs.map some).length<k
  ·rw[if_pos c]at hx; cases hx
  ·rw[if_neg c]at hx; cases hx
theorem e8.binds(F:e8 D.Z a fd body nm pf)(I:aZ D.Z s){vs:List Value}{args:List OV}(hvs:gH μ vs args)(hf:D1 pf args=some ρ) :
  ∃ all,BindsTo s fd ⟨vs,[]⟩ ((nm.take pf.arity).zip all)∧all.length=pf.arity∧PH μ all ρ:=hY hf fun hc e=>by
 cases e
 obtain⟨hc,h4⟩:=aA (aA hc).1
 obtain⟨h1,h2⟩:=aA (aA hc).1
 obtain⟨dv,hdv,hb⟩:=F.bind
 have hvl:=hvs.length
 have hdl:dv.length=pf.dflt.length:=hdv.length.trans (List.length_map _)
 have h1:=hvl▸of_decide_eq_true h1
 have h2:pf.arity≤vs.length+dv.length:=by rw[hvl,hdl]; exact of_decide_eq_true h2
 refine⟨_,hb s vs I.tab h1 h2,by rw[List.length_append,List.length_drop]; exact MC h1 h2,EB (hvs.append ?_)⟩
 rw[List.map_drop,hvl,hdl]
 exact(hdv.pre List.nil_prefix).drop _
theorem e8.at(F:e8 D.Z a fd body nm pf)(fr:List Addr):e8 (D.Z.at fr) a fd body nm pf:={ F with }
theorem B6(F:e8 D.Z a fd body D.nm pf)(hb:BindsTo s fd as ((D.nm.take pf.arity).zip all))(hall:all.length=pf.arity)(hval:PH μ all ρ)
  (hA:fG D.Z (8*(D.lvl+1)) A) (hI:aZ D.Z s) (hsz:D.Z.n≤s.heap.objs.size) (S:lZ D.Z D.cA μ st s.heap)
  (H:∀(env:Env)(s₁:Shared),env.frame=some env.locals→Oc (D.at (env.locals::D.Z.fr)) fd.scope (A.deeper env) env ρ μ st s₁ →
   (∀{μ':List Addr}{so:St}{s':Shared},dF (D.Z.at (env.locals::D.Z.fr)) D.cA (· = env.locals) μ s₁.heap μ' so s'→dF D.Z D.cA jK μ s.heap μ' so s') →
   (env=callEnvC fd s.heap.objs.size a∧(∀ b o,s.heap.get? b=some o→s₁.heap.get? b=some o)∧∃ m,s₁.heap.Ns env.locals m∧∀(x:Nat)n,(D.nm.take pf.arity)[x]? = some n→m n=all[x]?) →
   wpAny (model D.Z.prog D.Z.w) (A.deeper env) (execs body env) (fun f s'=>R (.ok (.ret (match f with | .ret v=>v | _=>.none))) s')
    (fun e s'=>wpAny (model D.Z.prog D.Z.w) (A.deeper env) (leaving env e) (fun _ s''=>R (.error e) s'') (fun e' s''=>R (.error e') s'') s') s₁):codeAny (model D.Z.prog D.Z.w) A (.call (.ref a) as) R s:=by
 obtain⟨c,oc,cvs,ct,hc1,hc2,hc3,hc4,hc5⟩:=F.code
 obtain⟨o,ho1,ho2,ho3⟩:=F.obj
 have hnl:(D.nm.take pf.arity).length=pf.arity:=by rw[List.length_take]; exact Nat.min_eq_left F.len
 have hbn:(((D.nm.take pf.arity).zip all).map (·.1))=D.nm.take pf.arity:=List.map_fst_zip (by rw[hnl,hall]; exact Nat.le_refl _)
 have htnd:(D.nm.take pf.arity).Nodup:=F.nd.sublist (List.take_sublist _ _)
 refine mT hA.dp.2.2 (hI.old.get_of_cls ho1 ho2) ho3 hI.lim ⟨c,oc,cvs,ct,hc1,hI.old.get_of_cls hc2 hc3,hc4,hc5⟩ F.body hb F.clo (fun p hp=>.inl (F.params _ (hbn▸List.mem_map_of_mem hp))) (fun s₁ X₁=>?_) F.co F.gen F.kind
 have hkeep:=X₁.toInCall.keep
 have hns:=X₁.toInCall.ns
 have hat:∀(x:Nat)n,(D.nm.take pf.arity)[x]? = some n→bindL (callEnvC fd s.heap.objs.size a).kindOf ((D.nm.take pf.arity).zip all) (fun _=>none) n=all[x]?:=fun x n hx=>by
  rw[tL _ _ _ (by rw[hbn]; exact htnd),if_pos (show(callEnvC fd s.heap.objs.size a).kindOf n=some .local from F.params n (List.mem_of_getElem? hx)),mO _ _ x n htnd hx]
  cases all[x]? <;> rfl
 have hI₀:aZ D.Z s₁:=by
  obtain⟨h',tk,rfl⟩:=X₁.toInCall.same
  exact hI.full hkeep
 have hLnone:s.heap.get? s.heap.objs.size=none:=get?_ge (Nat.le_refl _)
 have hLμ:∀ a∈μ,a≠s.heap.objs.size:=fun a ha e=>let⟨o,e'⟩:=S.live a ha; nomatch (e▸hLnone).symm.trans e'
 refine H (callEnvC fd s.heap.objs.size a) s₁ rfl ⟨?_,⟨fun m h=>h,fun m h=>h,fun m h=>h⟩,?_,?_,?_⟩ (fun{μ' so s'}b=>⟨?_,?_,?_⟩) ⟨rfl,hkeep,_,hns,hat⟩
 ·refine⟨hA.handled,hA.dp.1,hA.dp.2.1,?_⟩
  obtain⟨fs,h1,h2⟩:=hA.frames
  refine⟨callEnvC fd s.heap.objs.size a::fs,by show A.frames.map _=_; rw[h1]; rfl,fun e he=>(List.mem_cons.mp he).elim (fun e'=>?_) fun he=>let⟨g1,L,g2,g3⟩:=h2 e he; ⟨g1,L,g2,List.mem_cons_of_mem _ g3⟩⟩
  subst e'
  exact⟨by show fd.scope.kind ≠ .module; rw[F.kind]; nofun,_,rfl,List.mem_cons_self⟩
 ·refine⟨F.lam,F.kind,F.glob,F.blt,hsz,fun h=>hLμ _ h rfl,_,hns,fun x v n h1 h2=>?_⟩
  obtain⟨w,hw,hwv⟩:=hval x v h1
  exact⟨w,(hat x n (by rw[List.getElem?_take,if_pos (hall▸JX hw)]; exact h2)).trans hw,hwv⟩
 ·refine⟨hI₀.old,hI₀.lim,hI₀.tab,hI₀.gens,hI₀.os,fun L hL=>(List.mem_cons.mp hL).elim (fun e=>?_) (hI₀.frs L)⟩
  obtain⟨o,es,ep,e',hdd,_⟩:=hns
  subst e
  exact⟨hsz,o,e',es,ep,hdd⟩
 ·exact⟨S.len,S.nd,fun a ha=>⟨(S.hi a ha).1,fun hm=>(List.mem_cons.mp hm).elim (hLμ a ha) (S.hi a ha).2⟩,fun k a f h1 h2=>(S.at_ k a f h1 h2).sl List.prefix_rfl fun o e=>.inl (hkeep a o e)⟩
 ·exact⟨b.i.old,b.i.lim,b.i.tab,b.i.gens,b.i.os,fun L hL=>b.i.frs L (List.mem_cons_of_mem _ hL)⟩
 ·exact⟨b.t.pre,fun c o e cl hb _=>b.t.keep c o (hkeep c o e) cl hb (fun e'=>by rw[show c=s.heap.objs.size from e',hLnone]at e; cases e),fun c hc hn=>let⟨h1,h2,_⟩:=b.t.new c hc hn; ⟨h1,nT (fun o e=>nomatch h2.symm.trans (hkeep c o e)),id⟩⟩
 ·exact⟨b.so.len,b.so.nd,fun c hc=>⟨(b.so.hi c hc).1,fun hm=>(b.so.hi c hc).2 (List.mem_cons_of_mem _ hm)⟩,b.so.at_⟩
theorem qB{fuel:Nat}{v:OV}(X:∀ fr,OY (D.at fr) K fA xc)(F:e8 D.Z a fd body D.nm pf)(hck:eM K D.cA fA xc D.nm fd.scope pf.body body=true)
  (hb:BindsTo s fd as ((D.nm.take pf.arity).zip all)) (hall:all.length=pf.arity) (hval:PH μ all ρ) (hd:eJ (bN D.cl D.ex fuel pf.body ρ st)=some (v,st'))
  (hA:fG D.Z (8*(D.lvl+1)) A) (hI:aZ D.Z s) (hsz:D.Z.n≤s.heap.objs.size) (S:lZ D.Z D.cA μ st s.heap) (hR:gI D.Z D.cA μ s.heap st' v (fun w s'=>R (.ok (.ret w)) s')):codeAny (model D.Z.prog D.Z.w) A (.call (.ref a) as) R s :=
 B6 F hb hall hval hA hI hsz S fun env s₁ _ C out _=>by
 cases hx:bN D.cl D.ex fuel pf.body ρ st with
 | none=>rw[hx]at hd; cases hd
 | some r =>
  rw[hx]at hd
  refine kF (D:=D.at (env.locals::D.Z.fr)) (X _) F.nd fuel pf.body hck C hx fun fl s' μ' a' g=>?_
  obtain⟨f,so⟩:=r
  cases f with
  | next ρ'=>cases hd; obtain⟨rfl,_⟩:=g; exact hR .none s' μ' (out a') nB
  | ret u=>cases hd; obtain⟨w,rfl,hw⟩:=g; exact hR w s' μ' (out a') hw
  | brk ρ'=>cases hd
  | cont ρ'=>cases hd
theorem AH{fuel:Nat}{v:OV}{args:List OV}{vs:List Value}(X:∀ fr,OY (D.at fr) K fA xc)(F:e8 D.Z a fd body D.nm pf)(hck:eM K D.cA fA xc D.nm fd.scope pf.body body=true)
  (hfill:D1 pf args=some ρ) (hd:eJ (bN D.cl D.ex fuel pf.body ρ st)=some (v,st'))
  (hA:fG D.Z (8*(D.lvl+1)) A) (hI:aZ D.Z s) (hsz:D.Z.n≤s.heap.objs.size) (S:lZ D.Z D.cA μ st s.heap) (hvs:gH μ vs args) (hR:gI D.Z D.cA μ s.heap st' v (fun w s'=>R (.ok (.ret w)) s')):codeAny (model D.Z.prog D.Z.w) A (.call (.ref a) ⟨vs,[]⟩) R s :=
 let⟨_,hb,hall,hval⟩:=F.binds hI hvs hfill; qB X F hck hb hall hval hd hA hI hsz S hR
end
section
variable{Z:aE}{cA fA:Nat→Option Addr}{K:Frag}{xc:List Str→Nat→Scope→Expr→Bool}{tab:Nat→Option OF}{prim:iO→iO}{ex:iO→Nat→LO→St→Option (OV×St)}{fuel:Nat}
def LU(Z:aE)(K:Frag)(cA fA:Nat→Option Addr)(xc:List Str→Nat→Scope→Expr→Bool)(tab:Nat→Option OF):Prop :=
 ∀ f pf a,tab f=some pf→fA f=some a→IJ f=[]∧∃ fd body nm,e8 Z a fd body nm pf∧eM K cA fA (xc nm) nm fd.scope pf.body body=true
def F6(Z:aE)(cA fA:Nat→Option Addr)(tab:Nat→Option OF)(prim:iO→iO):Prop :=
 ∀(cl:iO)(lvl:Nat),(∀ fr,bQ (Z.at fr) cA cl lvl fA)→∀{fr:List Addr}{f:Nat}{a:Addr}{args:List OV}{st:St}{v:OV}{st':St},tab f=none→fA f=some a→prim cl f args st=some (v,st') →
  ∀{A:Around}{s:Shared}{vs:List Value}{μ:List Addr}{R:Result→Shared→Prop},fG (Z.at fr) (8*(lvl+2)) A→aZ (Z.at fr) s→Z.n≤s.heap.objs.size→lZ (Z.at fr) cA μ st s.heap→gH μ vs args →
   gI (Z.at fr) cA μ s.heap st' v (fun w s'=>R (.ok (.ret w)) s')→codeAny (model Z.prog Z.w) A (.call (.ref a) (jT f vs)) R s
def sY(Z:aE)(cA fA:Nat→Option Addr)(xc:List Str→Nat→Scope→Expr→Bool)(ex:iO→Nat→LO→St→Option (OV×St)):Prop :=
 ∀(cl:iO)(lvl:Nat),(∀ fr,bQ (Z.at fr) cA cl lvl fA)→∀ fr nm j sc e,xc nm j sc e=true→cF ⟨Z.at fr,cA,cl,ex cl,lvl+1,nm⟩ sc e (.ext j)
theorem bQ.up{cl:iO}{l l':Nat}(h:bQ Z cA cl l fA)(hl:l≤l'):bQ Z cA cl l' fA :=
 fun{f a args st v st'}h1 h2{A s vs μ R}hA=>h h1 h2 (hA.mono (Nat.mul_le_mul_left 8 hl))
theorem Q2(hK:∀ h,Z.TabI h→K.In h)(hK0:K.In Z.h₀)(hB:fZ Z)(hT:LU Z K cA fA xc tab)(hP:F6 Z cA fA tab prim)(hX:sY Z cA fA xc ex)  (lvl:Nat):∀ fr,bQ (Z.at fr) cA (qK tab prim ex fuel lvl) (2*lvl) fA:=by
 induction lvl with
 | zero=>intro fr f a args st v st' _ h; cases h
 | succ lvl ih =>
  intro fr f a args st v st' hf h A s vs μ R hA hI hsz S hvs hR
  have h:(match tab f with
   | some pf=>(D1 pf args).bind fun ρ=>eJ (bN (qK tab prim ex fuel lvl) (ex (qK tab prim ex fuel lvl)) fuel pf.body ρ st)
   | none=>prim (qK tab prim ex fuel lvl) f args st)=some (v,st'):=h
  cases ht:tab f with
  | none =>
   rw[ht]at h
   exact hP _ (2*lvl) ih ht hf h hA hI hsz S hvs hR
  | some pf =>
   rw[ht]at h
   exact aV h fun ρ hfill hd=>by
    obtain⟨hkw,fd,body,nm,F,hck⟩:=hT f pf a ht hf
    rw[iL hkw]
    exact AH (D:=⟨Z.at fr,cA,qK tab prim ex fuel lvl,ex (qK tab prim ex fuel lvl),2*lvl+1,nm⟩) (xc:=xc nm) (fun fr'=>⟨hK,hK0,hB,bQ.up (ih fr') (Nat.le_succ _),fun j sc e hx=>hX _ (2*lvl) ih fr' nm j sc e hx⟩)
     (e8.at (D:=⟨Z,cA,qK tab prim ex fuel lvl,ex (qK tab prim ex fuel lvl),2*lvl+1,nm⟩) F fr) hck hfill hd hA hI hsz S hvs hR
end
end Kt.Internal
end
section
open PySem PySem.W PyProof.Rows
namespace Kt.Internal
noncomputable def ZS:OF:=⟨2,2,[],(.cons (.ife (.bool true (.cmp .IsNot (.typ (.var 0)) (.ty "int")) (.cmp .IsNot (.typ (.var 0)) (.ty "bool"))) (.cons (.expr .stuck) .nil) .nil) (.cons (.assign 0 (.intc (.var 0))) (.cons (.ife (.bool false (.cmp .Gt (.var 0) (.lit (.int 1099511627776))) (.cmp .Lt (.var 0) (.neg 1099511627776))) (.cons (.expr .stuck) .nil) .nil) (.cons (.ret (.var 0)) .nil))))⟩
noncomputable def ZM:List Str:=["n", "what"]
noncomputable def JM:OF:=⟨4,2,[.int (-1)],(.cons (.ife (.cmp .Is (.var 1) (.lit .none)) (.cons (.assign 1 (.neg 1)) .nil) .nil) (.cons (.assign 1 (.call 0 (.cons (.var 1) (.cons (.lit (.str ("StringIO.read of a size that is no exact int" : Str))) .nil)))) (.cons (.expr (.mcall 1 (.var 0) ("_StringIO__check" : Str) 2 .nil)) (.cons (.assign 2 (.attr 1 (.var 0) ("_StringIO__pos" : Str))) (.cons (.assign 3 (.len (.attr 1 (.var 0) ("_StringIO__buf" : Str)))) (.cons (.ife (.cmp .GtE (.var 2) (.var 3)) (.cons (.ret (.lit (.str ("" : Str)))) .nil) .nil) (.cons (.ife (.bool true (.cmp .GtE (.var 1) (.lit (.int 0))) (.cmp .Lt (.bin .Add (.var 2) (.var 1)) (.var 3))) (.cons (.assign 3 (.bin .Add (.var 2) (.var 1))) .nil) .nil) (.cons (.setA 1 (.var 0) ("_StringIO__pos" : Str) (.var 3)) (.cons (.ret (.slc (.bin .Add (.slc (.attr 1 (.var 0) ("_StringIO__buf" : Str)) (.yes (.var 2)) (.yes (.var 3))) (.lit (.str (" " : Str)))) .no (.yes (.neg 1)))) .nil)))))))))⟩
noncomputable def ZL:List Str:=["self", "size", "start", "stop"]
noncomputable def ZR:OF:=⟨1,1,[],(.cons (.ife (.cmp .Is (.attr 1 (.var 0) ("_StringIO__buf" : Str)) (.lit .none)) (.cons .stuck .nil) .nil) .nil)⟩
noncomputable def ZK:List Str:=["self"]
noncomputable def ZQ:OF:=⟨3,3,[.str ("" : Str),.str ("\n" : Str)],(.cons (.ife (.bool true (.cmp .IsNot (.var 2) (.lit .none)) (.cmp .IsNot (.typ (.var 2)) (.ty "str"))) (.cons (.expr .stuck) .nil) .nil) (.cons (.ife (.bool true (.cmp .IsNot (.var 2) (.lit .none)) (.bool true (.cmp .NotEq (.var 2) (.lit (.str ("" : Str)))) (.bool true (.cmp .NotEq (.var 2) (.lit (.str ("\n" : Str)))) (.bool true (.cmp .NotEq (.var 2) (.lit (.str ("\r" : Str)))) (.cmp .NotEq (.var 2) (.lit (.str ("\r\n" : Str)))))))) (.cons .stuck .nil) .nil) (.cons (.ife (.bool true (.cmp .IsNot (.var 1) (.lit .none)) (.cmp .IsNot (.typ (.var 1)) (.ty "str"))) (.cons (.expr .stuck) .nil) .nil) (.cons (.setA 1 (.var 0) ("_StringIO__newline" : Str) (.var 2)) (.cons (.setA 1 (.var 0) ("_StringIO__buf" : Str) (.lit (.str ("" : Str)))) (.cons (.setA 1 (.var 0) ("_StringIO__pos" : Str) (.lit (.int 0))) (.cons (.ife (.cmp .IsNot (.var 1) (.lit .none)) (.cons (.setA 1 (.var 0) ("_StringIO__buf" : Str) (.mcall 1 (.var 0) ("_StringIO__translated" : Str) 4 (.cons (.var 1) .nil))) .nil) .nil) .nil)))))))⟩
noncomputable def ZJ:List Str:=["self", "initial_value", "newline"]
noncomputable def ZP:OF:=⟨3,2,[],(.cons (.assign 2 (.attr 1 (.var 0) ("_StringIO__newline" : Str))) (.cons (.ife (.cmp .Is (.var 2) (.lit .none)) (.cons (.ret (.repl (.repl (.var 1) (.lit (.str ("\r\n" : Str))) (.lit (.str ("\n" : Str)))) (.lit (.str ("\r" : Str))) (.lit (.str ("\n" : Str))))) .nil) .nil) (.cons (.ife (.bool false (.cmp .Eq (.var 2) (.lit (.str ("\r" : Str)))) (.cmp .Eq (.var 2) (.lit (.str ("\r\n" : Str))))) (.cons (.ret (.repl (.var 1) (.lit (.str ("\n" : Str))) (.var 2))) .nil) .nil) (.cons (.ret (.var 1)) .nil))))⟩
noncomputable def ZI:List Str:=["self", "s", "newline"]
noncomputable def dW:OF:=⟨6,5,[.none,.none,.bool false,.bool false],(.cons (.ife (.isStr (.var 1)) (.cons (.assign 1 (.call 9 (.cons (.var 1) .nil))) .nil) .nil) (.cons (.ife (.cmp .IsNot (.var 1) (.lit .none)) (.cons (.setA 0 (.var 0) ("instream" : Str) (.var 1)) (.cons (.setA 0 (.var 0) ("infile" : Str) (.var 2)) .nil)) (.cons (.setA 0 (.var 0) ("instream" : Str) .stuck) (.cons (.setA 0 (.var 0) ("infile" : Str) (.lit .none)) .nil))) (.cons (.setA 0 (.var 0) ("posix" : Str) (.var 3)) (.cons (.ife (.var 3) (.cons (.setA 0 (.var 0) ("eof" : Str) (.lit .none)) .nil) (.cons (.setA 0 (.var 0) ("eof" : Str) (.lit (.str ("" : Str)))) .nil)) (.cons (.setA 0 (.var 0) ("commenters" : Str) (.lit (.str ("#" : Str)))) (.cons (.setA 0 (.var 0) ("wordchars" : Str) (.lit (.str ("abcdfeghijklmnopqrstuvwxyzABCDEFGHIJKLMNOPQRSTUVWXYZ0123456789_" : Str)))) (.cons (.ife (.attr 0 (.var 0) ("posix" : Str)) (.cons (.augA 0 (.var 0) ("wordchars" : Str) .Add (.lit (.str ("ßàáâãäåæçèéêëìíîïðñòóôõöøùúûüýþÿÀÁÂÃÄÅÆÇÈÉÊËÌÍÎÏÐÑÒÓÔÕÖØÙÚÛÜÝÞ" : Str)))) .nil) .nil) (.cons (.setA 0 (.var 0) ("whitespace" : Str) (.lit (.str (" \t\r\n" : Str)))) (.cons (.setA 0 (.var 0) ("whitespace_split" : Str) (.lit (.bool false))) (.cons (.setA 0 (.var 0) ("quotes" : Str) (.lit (.str ("'\"" : Str)))) (.cons (.setA 0 (.var 0) ("escape" : Str) (.lit (.str ("\\" : Str)))) (.cons (.setA 0 (.var 0) ("escapedquotes" : Str) (.lit (.str ("\"" : Str)))) (.cons (.setA 0 (.var 0) ("state" : Str) (.lit (.str (" " : Str)))) (.cons (.setA 0 (.var 0) ("pushback" : Str) (.ext 0)) (.cons (.setA 0 (.var 0) ("lineno" : Str) (.lit (.int 1))) (.cons (.setA 0 (.var 0) ("debug" : Str) (.lit (.int 0))) (.cons (.setA 0 (.var 0) ("token" : Str) (.lit (.str ("" : Str)))) (.cons (.setA 0 (.var 0) ("filestack" : Str) (.ext 0)) (.cons (.setA 0 (.var 0) ("source" : Str) (.lit .none)) (.cons (.ife (.nt (.var 4)) (.cons (.assign 4 (.lit (.str ("" : Str)))) .nil) (.cons (.ife (.cmp .Is (.var 4) (.lit (.bool true))) (.cons (.assign 4 (.lit (.str ("();<>|&" : Str)))) .nil) .nil) .nil)) (.cons (.setA 0 (.var 0) ("_punctuation_chars" : Str) (.var 4)) (.cons (.ife (.var 4) (.cons (.setA 0 (.var 0) ("_pushback_chars" : Str) (.ext 0)) (.cons (.augA 0 (.var 0) ("wordchars" : Str) .Add (.lit (.str ("~-./*?=" : Str)))) (.cons (.assign 5 .stuck) (.cons (.setA 0 (.var 0) ("wordchars" : Str) .stuck) .nil)))) .nil) .nil))))))))))))))))))))))⟩
noncomputable def cN:List Str:=["self", "instream", "infile", "posix", "punctuation_chars", "t"]
noncomputable def sQ:OE:=(.lit (.bool true))
noncomputable def pB:j4:=(.cons (.ife (.bool true (.prop 0 (.var 0) ("punctuation_chars" : Str) 8) (.attr 0 (.var 0) ("_pushback_chars" : Str))) (.cons (.assign 4 .stuck) .nil) (.cons (.assign 4 (.mcall 1 (.attr 0 (.var 0) ("instream" : Str)) ("read" : Str) 1 (.cons (.lit (.int 1)) .nil))) .nil)) (.cons (.ife (.cmp .Eq (.var 4) (.lit (.str ("\n" : Str)))) (.cons (.augA 0 (.var 0) ("lineno" : Str) .Add (.lit (.int 1))) .nil) .nil) (.cons (.ife (.cmp .GtE (.attr 0 (.var 0) ("debug" : Str)) (.lit (.int 3))) (.cons (.expr .stuck) .nil) .nil) (.cons (.ife (.cmp .Is (.attr 0 (.var 0) ("state" : Str)) (.lit .none)) (.cons (.setA 0 (.var 0) ("token" : Str) (.lit (.str ("" : Str)))) (.cons .brk .nil)) (.cons (.ife (.cmp .Eq (.attr 0 (.var 0) ("state" : Str)) (.lit (.str (" " : Str)))) (.cons (.ife (.nt (.var 4)) (.cons (.setA 0 (.var 0) ("state" : Str) (.lit .none)) (.cons .brk .nil)) (.cons (.ife (.cmp .In (.var 4) (.attr 0 (.var 0) ("whitespace" : Str))) (.cons (.ife (.cmp .GtE (.attr 0 (.var 0) ("debug" : Str)) (.lit (.int 2))) (.cons (.expr .stuck) .nil) .nil) (.cons (.ife (.bool false (.attr 0 (.var 0) ("token" : Str)) (.bool true (.attr 0 (.var 0) ("posix" : Str)) (.var 1))) (.cons .brk .nil) (.cons .cont .nil)) .nil)) (.cons (.ife (.cmp .In (.var 4) (.attr 0 (.var 0) ("commenters" : Str))) (.cons (.expr .stuck) (.cons (.augA 0 (.var 0) ("lineno" : Str) .Add (.lit (.int 1))) .nil)) (.cons (.ife (.bool true (.attr 0 (.var 0) ("posix" : Str)) (.cmp .In (.var 4) (.attr 0 (.var 0) ("escape" : Str)))) (.cons (.assign 2 (.lit (.str ("a" : Str)))) (.cons (.setA 0 (.var 0) ("state" : Str) (.var 4)) .nil)) (.cons (.ife (.cmp .In (.var 4) (.attr 0 (.var 0) ("wordchars" : Str))) (.cons (.setA 0 (.var 0) ("token" : Str) (.var 4)) (.cons (.setA 0 (.var 0) ("state" : Str) (.lit (.str ("a" : Str)))) .nil)) (.cons (.ife (.cmp .In (.var 4) (.prop 0 (.var 0) ("punctuation_chars" : Str) 8)) (.cons (.setA 0 (.var 0) ("token" : Str) (.var 4)) (.cons (.setA 0 (.var 0) ("state" : Str) (.lit (.str ("c" : Str)))) .nil)) (.cons (.ife (.cmp .In (.var 4) (.attr 0 (.var 0) ("quotes" : Str))) (.cons (.ife (.nt (.attr 0 (.var 0) ("posix" : Str))) (.cons (.setA 0 (.var 0) ("token" : Str) (.var 4)) .nil) .nil) (.cons (.setA 0 (.var 0) ("state" : Str) (.var 4)) .nil)) (.cons (.ife (.attr 0 (.var 0) ("whitespace_split" : Str)) (.cons (.setA 0 (.var 0) ("token" : Str) (.var 4)) (.cons (.setA 0 (.var 0) ("state" : Str) (.lit (.str ("a" : Str)))) .nil)) (.cons (.setA 0 (.var 0) ("token" : Str) (.var 4)) (.cons (.ife (.bool false (.attr 0 (.var 0) ("token" : Str)) (.bool true (.attr 0 (.var 0) ("posix" : Str)) (.var 1))) (.cons .brk .nil) (.cons .cont .nil)) .nil))) .nil)) .nil)) .nil)) .nil)) .nil)) .nil)) .nil)) .nil) (.cons (.ife (.cmp .In (.attr 0 (.var 0) ("state" : Str)) (.attr 0 (.var 0) ("quotes" : Str))) (.cons (.assign 1 (.lit (.bool true))) (.cons (.ife (.nt (.var 4)) (.cons (.ife (.cmp .GtE (.attr 0 (.var 0) ("debug" : Str)) (.lit (.int 2))) (.cons (.expr .stuck) .nil) .nil) (.cons .stuck .nil)) .nil) (.cons (.ife (.cmp .Eq (.var 4) (.attr 0 (.var 0) ("state" : Str))) (.cons (.ife (.nt (.attr 0 (.var 0) ("posix" : Str))) (.cons (.augA 0 (.var 0) ("token" : Str) .Add (.var 4)) (.cons (.setA 0 (.var 0) ("state" : Str) (.lit (.str (" " : Str)))) (.cons .brk .nil))) (.cons (.setA 0 (.var 0) ("state" : Str) (.lit (.str ("a" : Str)))) .nil)) .nil) (.cons (.ife (.bool true (.attr 0 (.var 0) ("posix" : Str)) (.bool true (.cmp .In (.var 4) (.attr 0 (.var 0) ("escape" : Str))) (.cmp .In (.attr 0 (.var 0) ("state" : Str)) (.attr 0 (.var 0) ("escapedquotes" : Str))))) (.cons (.assign 2 (.attr 0 (.var 0) ("state" : Str))) (.cons (.setA 0 (.var 0) ("state" : Str) (.var 4)) .nil)) (.cons (.augA 0 (.var 0) ("token" : Str) .Add (.var 4)) .nil)) .nil)) .nil))) (.cons (.ife (.cmp .In (.attr 0 (.var 0) ("state" : Str)) (.attr 0 (.var 0) ("escape" : Str))) (.cons (.ife (.nt (.var 4)) (.cons (.ife (.cmp .GtE (.attr 0 (.var 0) ("debug" : Str)) (.lit (.int 2))) (.cons (.expr .stuck) .nil) .nil) (.cons .stuck .nil)) .nil) (.cons (.ife (.bool true (.cmp .In (.var 2) (.attr 0 (.var 0) ("quotes" : Str))) (.bool true (.cmp .NotEq (.var 4) (.attr 0 (.var 0) ("state" : Str))) (.cmp .NotEq (.var 4) (.var 2)))) (.cons (.augA 0 (.var 0) ("token" : Str) .Add (.attr 0 (.var 0) ("state" : Str))) .nil) .nil) (.cons (.augA 0 (.var 0) ("token" : Str) .Add (.var 4)) (.cons (.setA 0 (.var 0) ("state" : Str) (.var 2)) .nil)))) (.cons (.ife (.inT (.attr 0 (.var 0) ("state" : Str)) [("a" : Str),("c" : Str)]) (.cons (.ife (.nt (.var 4)) (.cons (.setA 0 (.var 0) ("state" : Str) (.lit .none)) (.cons .brk .nil)) (.cons (.ife (.cmp .In (.var 4) (.attr 0 (.var 0) ("whitespace" : Str))) (.cons (.ife (.cmp .GtE (.attr 0 (.var 0) ("debug" : Str)) (.lit (.int 2))) (.cons (.expr .stuck) .nil) .nil) (.cons (.setA 0 (.var 0) ("state" : Str) (.lit (.str (" " : Str)))) (.cons (.ife (.bool false (.attr 0 (.var 0) ("token" : Str)) (.bool true (.attr 0 (.var 0) ("posix" : Str)) (.var 1))) (.cons .brk .nil) (.cons .cont .nil)) .nil))) (.cons (.ife (.cmp .In (.var 4) (.attr 0 (.var 0) ("commenters" : Str))) (.cons (.expr .stuck) (.cons (.augA 0 (.var 0) ("lineno" : Str) .Add (.lit (.int 1))) (.cons (.ife (.attr 0 (.var 0) ("posix" : Str)) (.cons (.setA 0 (.var 0) ("state" : Str) (.lit (.str (" " : Str)))) (.cons (.ife (.bool false (.attr 0 (.var 0) ("token" : Str)) (.bool true (.attr 0 (.var 0) ("posix" : Str)) (.var 1))) (.cons .brk .nil) (.cons .cont .nil)) .nil)) .nil) .nil))) (.cons (.ife (.cmp .Eq (.attr 0 (.var 0) ("state" : Str)) (.lit (.str ("c" : Str)))) (.cons (.ife (.cmp .In (.var 4) (.prop 0 (.var 0) ("punctuation_chars" : Str) 8)) (.cons (.augA 0 (.var 0) ("token" : Str) .Add (.var 4)) .nil) (.cons (.ife (.cmp .NotIn (.var 4) (.attr 0 (.var 0) ("whitespace" : Str))) (.cons (.expr (.appL (.attr 0 (.var 0) ("_pushback_chars" : Str)) (.var 4))) .nil) .nil) (.cons (.setA 0 (.var 0) ("state" : Str) (.lit (.str (" " : Str)))) (.cons .brk .nil)))) .nil) (.cons (.ife (.bool true (.attr 0 (.var 0) ("posix" : Str)) (.cmp .In (.var 4) (.attr 0 (.var 0) ("quotes" : Str)))) (.cons (.setA 0 (.var 0) ("state" : Str) (.var 4)) .nil) (.cons (.ife (.bool true (.attr 0 (.var 0) ("posix" : Str)) (.cmp .In (.var 4) (.attr 0 (.var 0) ("escape" : Str)))) (.cons (.assign 2 (.lit (.str ("a" : Str)))) (.cons (.setA 0 (.var 0) ("state" : Str) (.var 4)) .nil)) (.cons (.ife (.bool false (.cmp .In (.var 4) (.attr 0 (.var 0) ("wordchars" : Str))) (.bool false (.cmp .In (.var 4) (.attr 0 (.var 0) ("quotes" : Str))) (.bool true (.attr 0 (.var 0) ("whitespace_split" : Str)) (.cmp .NotIn (.var 4) (.prop 0 (.var 0) ("punctuation_chars" : Str) 8))))) (.cons (.augA 0 (.var 0) ("token" : Str) .Add (.var 4)) .nil) (.cons (.ife (.prop 0 (.var 0) ("punctuation_chars" : Str) 8) (.cons (.expr (.appL (.attr 0 (.var 0) ("_pushback_chars" : Str)) (.var 4))) .nil) (.cons (.expr .stuck) .nil)) (.cons (.ife (.cmp .GtE (.attr 0 (.var 0) ("debug" : Str)) (.lit (.int 2))) (.cons (.expr .stuck) .nil) .nil) (.cons (.setA 0 (.var 0) ("state" : Str) (.lit (.str (" " : Str)))) (.cons (.ife (.bool false (.attr 0 (.var 0) ("token" : Str)) (.bool true (.attr 0 (.var 0) ("posix" : Str)) (.var 1))) (.cons .brk .nil) (.cons .cont .nil)) .nil))))) .nil)) .nil)) .nil)) .nil)) .nil)) .nil)) .nil) .nil) .nil)) .nil)) .nil)) .nil)) .nil))))
noncomputable def S5:OF:=⟨5,1,[],(.cons (.assign 1 (.lit (.bool false))) (.cons (.assign 2 (.lit (.str (" " : Str)))) (.cons (.while_ sQ pB) (.cons (.assign 3 (.attr 0 (.var 0) ("token" : Str))) (.cons (.setA 0 (.var 0) ("token" : Str) (.lit (.str ("" : Str)))) (.cons (.ife (.bool true (.attr 0 (.var 0) ("posix" : Str)) (.bool true (.nt (.var 1)) (.cmp .Eq (.var 3) (.lit (.str ("" : Str)))))) (.cons (.assign 3 (.lit .none)) .nil) .nil) (.cons (.ife (.cmp .Gt (.attr 0 (.var 0) ("debug" : Str)) (.lit (.int 1))) (.cons (.ife (.var 3) (.cons (.expr .stuck) .nil) (.cons (.expr .stuck) .nil)) .nil) .nil) (.cons (.ret (.var 3)) .nil))))))))⟩
noncomputable def ZH:List Str:=["self", "quoted", "escapedstate", "result", "nextchar"]
noncomputable def WH:OE:=(.cmp .Eq (.var 1) (.attr 0 (.var 0) ("eof" : Str)))
noncomputable def V8:j4:=(.cons (.ife (.nt (.attr 0 (.var 0) ("filestack" : Str))) (.cons (.ret (.attr 0 (.var 0) ("eof" : Str))) .nil) (.cons (.expr .stuck) (.cons (.assign 1 (.mcall 0 (.var 0) ("get_token" : Str) 7 .nil)) .nil))) .nil)
noncomputable def WG:OE:=(.cmp .Eq (.var 1) (.attr 0 (.var 0) ("source" : Str)))
noncomputable def V7:j4:=(.cons (.assign 3 .stuck) (.cons (.ife (.var 3) (.cons .stuck .nil) .nil) (.cons (.assign 1 (.mcall 0 (.var 0) ("get_token" : Str) 7 .nil)) .nil)))
noncomputable def JL:OF:=⟨6,1,[],(.cons (.ife (.attr 0 (.var 0) ("pushback" : Str)) (.cons (.assign 2 .stuck) (.cons (.ife (.cmp .GtE (.attr 0 (.var 0) ("debug" : Str)) (.lit (.int 1))) (.cons (.expr .stuck) .nil) .nil) (.cons (.ret (.var 2)) .nil))) .nil) (.cons (.assign 1 (.mcall 0 (.var 0) ("read_token" : Str) 6 .nil)) (.cons (.ife (.cmp .IsNot (.attr 0 (.var 0) ("source" : Str)) (.lit .none)) (.cons (.while_ WG V7) .nil) .nil) (.cons (.while_ WH V8) (.cons (.ife (.cmp .GtE (.attr 0 (.var 0) ("debug" : Str)) (.lit (.int 1))) (.cons (.ife (.cmp .NotEq (.var 1) (.attr 0 (.var 0) ("eof" : Str))) (.cons (.expr .stuck) .nil) (.cons (.expr .stuck) .nil)) .nil) .nil) (.cons (.ret (.var 1)) .nil))))))⟩
noncomputable def ZG:List Str:=["self", "raw", "tok", "spec", "newfile", "newstream"]
noncomputable def ZN:OF:=⟨1,1,[],(.cons (.ret (.attr 0 (.var 0) ("_punctuation_chars" : Str))) .nil)⟩
noncomputable def ZF:List Str:=["self"]
noncomputable def WF:OF:=⟨1,1,[],(.cons (.ife (.isStr (.var 0)) (.cons (.ret (.ext 6)) .nil) (.cons (.assign 0 .stuck) (.cons (.ret .stuck) .nil))) .nil)⟩
noncomputable def WD:List Str:=["pattern"]
noncomputable def Q7:OE:=(.lit (.bool true))
noncomputable def Q5:j4:=(.cons (.assign 11 .stuck) (.cons (.ife (.cmp .Lt (.var 11) (.lit (.int 0))) (.cons .brk .nil) .nil) (.cons (.expr (.appL (.var 10) (.slc (.var 0) (.yes (.var 5)) (.yes (.var 11))))) (.cons (.assign 5 (.bin .Add (.var 11) (.lit (.int 1)))) (.cons (.assign 11 (.bin .Add (.var 11) (.lit (.int 3)))) .nil)))))
noncomputable def E3:OE:=(.bool true (.cmp .Lt (.var 8) (.var 6)) (.cmp .NotEq (.idx (.var 0) (.var 8)) (.lit (.str ("]" : Str)))))
noncomputable def E2:j4:=(.cons (.assign 8 (.bin .Add (.var 8) (.lit (.int 1)))) .nil)
noncomputable def rA:OE:=(.cmp .Lt (.var 5) (.var 6))
noncomputable def fO:j4:=(.cons (.assign 7 (.idx (.var 0) (.var 5))) (.cons (.assign 5 (.bin .Add (.var 5) (.lit (.int 1)))) (.cons (.ife (.cmp .Eq (.var 7) (.lit (.str ("*" : Str)))) (.cons (.ife (.bool false (.nt (.var 3)) (.cmp .IsNot (.idx (.var 3) (.neg 1)) (.var 1))) (.cons (.expr (.app (.var 4) (.var 1))) .nil) .nil) .nil) (.cons (.ife (.cmp .Eq (.var 7) (.lit (.str ("?" : Str)))) (.cons (.expr (.app (.var 4) (.var 2))) .nil) (.cons (.ife (.cmp .Eq (.var 7) (.lit (.str ("[" : Str)))) (.cons (.assign 8 (.var 5)) (.cons (.ife (.bool true (.cmp .Lt (.var 8) (.var 6)) (.cmp .Eq (.idx (.var 0) (.var 8)) (.lit (.str ("!" : Str))))) (.cons (.assign 8 (.bin .Add (.var 8) (.lit (.int 1)))) .nil) .nil) (.cons (.ife (.bool true (.cmp .Lt (.var 8) (.var 6)) (.cmp .Eq (.idx (.var 0) (.var 8)) (.lit (.str ("]" : Str))))) (.cons (.assign 8 (.bin .Add (.var 8) (.lit (.int 1)))) .nil) .nil) (.cons (.while_ E3 E2) (.cons (.ife (.cmp .GtE (.var 8) (.var 6)) (.cons (.expr (.app (.var 4) (.lit (.str ("\\[" : Str))))) .nil) (.cons (.assign 9 (.slc (.var 0) (.yes (.var 5)) (.yes (.var 8)))) (.cons (.ife (.cmp .NotIn (.lit (.str ("-" : Str))) (.var 9)) (.cons (.assign 9 (.repl (.var 9) (.lit (.str ("\\" : Str))) (.lit (.str ("\\\\" : Str))))) .nil) (.cons (.assign 10 .nil) (.cons (.assign 11 .stuck) (.cons (.while_ Q7 Q5) (.cons (.assign 12 (.slc (.var 0) (.yes (.var 5)) (.yes (.var 8)))) (.cons (.ife (.var 12) (.cons (.expr (.appL (.var 10) (.var 12))) .nil) (.cons .stuck .nil)) (.cons .stuck .nil))))))) (.cons (.assign 9 (.ext 5)) (.cons (.assign 5 (.bin .Add (.var 8) (.lit (.int 1)))) (.cons (.ife (.nt (.var 9)) (.cons (.expr (.app (.var 4) (.lit (.str ("(?!)" : Str))))) .nil) (.cons (.ife (.cmp .Eq (.var 9) (.lit (.str ("!" : Str)))) (.cons (.expr (.app (.var 4) (.lit (.str ("." : Str))))) .nil) (.cons (.ife (.cmp .Eq (.idx (.var 9) (.lit (.int 0))) (.lit (.str ("!" : Str)))) (.cons (.assign 9 (.bin .Add (.lit (.str ("^" : Str))) (.slc (.var 9) (.yes (.lit (.int 1))) .no))) .nil) (.cons (.ife (.inT (.idx (.var 9) (.lit (.int 0))) [("^" : Str),("[" : Str)]) (.cons (.assign 9 (.bin .Add (.lit (.str ("\\" : Str))) (.var 9))) .nil) .nil) .nil)) (.cons (.expr (.app (.var 4) (.fstr ("[" : Str) (.var 9) ("]" : Str)))) .nil))) .nil)) .nil)))))) .nil))))) (.cons (.expr (.app (.var 4) (.call 11 (.cons (.var 7) .nil)))) .nil)) .nil)) .nil)) .nil)))
noncomputable def KR:OF:=⟨14,3,[],(.cons (.assign 3 .nil) (.cons (.assign 4 (.addm (.var 3))) (.cons (.assign2 5 6 (.lit (.int 0)) (.len (.var 0))) (.cons (.while_ rA fO) (.cons (.asrt (.cmp .Eq (.var 5) (.var 6))) (.cons (.ret (.var 3)) .nil))))))⟩
noncomputable def WC:List Str:=["pat", "STAR", "QUESTION_MARK", "res", "add", "i", "n", "c", "j", "stuff", "chunks", "k", "chunk", "s"]
noncomputable def Q6:OE:=(.bool true (.cmp .Lt (.var 4) (.var 5)) (.cmp .IsNot (.idx (.var 0) (.var 4)) (.var 1)))
noncomputable def Q4:j4:=(.cons (.expr (.appL (.var 6) (.idx (.var 0) (.var 4)))) (.cons (.aug 4 .Add (.lit (.int 1))) .nil))
noncomputable def xW:OE:=(.cmp .Lt (.var 4) (.var 5))
noncomputable def E1:j4:=(.cons (.asrt (.cmp .Is (.idx (.var 0) (.var 4)) (.var 1))) (.cons (.aug 4 .Add (.lit (.int 1))) (.cons (.ife (.cmp .Eq (.var 4) (.var 5)) (.cons (.expr (.app (.var 3) (.lit (.str (".*" : Str))))) (.cons .brk .nil)) .nil) (.cons (.asrt (.cmp .IsNot (.idx (.var 0) (.var 4)) (.var 1))) (.cons (.assign 6 .nil) (.cons (.while_ Q6 Q4) (.cons (.assign 6 (.joinL (.lit (.str ("" : Str))) (.var 6))) (.cons (.ife (.cmp .Eq (.var 4) (.var 5)) (.cons (.expr (.app (.var 3) (.lit (.str (".*" : Str))))) (.cons (.expr (.app (.var 3) (.var 6))) .nil)) (.cons (.expr (.app (.var 3) (.fstr ("(?>.*?" : Str) (.var 6) (")" : Str)))) .nil)) .nil))))))))
noncomputable def gM:OE:=(.bool true (.cmp .Lt (.var 4) (.var 5)) (.cmp .IsNot (.idx (.var 0) (.var 4)) (.var 1)))
noncomputable def lD:j4:=(.cons (.expr (.app (.var 3) (.idx (.var 0) (.var 4)))) (.cons (.aug 4 .Add (.lit (.int 1))) .nil))
noncomputable def B7:OF:=⟨7,2,[],(.cons (.assign 2 .nil) (.cons (.assign 3 (.addm (.var 2))) (.cons (.assign2 4 5 (.lit (.int 0)) (.len (.var 0))) (.cons (.while_ gM lD) (.cons (.while_ xW E1) (.cons (.asrt (.cmp .Eq (.var 4) (.var 5))) (.cons (.assign 2 (.joinL (.lit (.str ("" : Str))) (.var 2))) (.cons (.ret (.fstr ("(?s:" : Str) (.var 2) (")\\Z" : Str))) .nil))))))))⟩
noncomputable def WB:List Str:=["inp", "STAR", "res", "add", "i", "n", "fixed"]
noncomputable def KQ:OF:=⟨3,1,[],(.cons (.assign 1 (.ext 7)) (.cons (.assign 2 (.call 12 (.cons (.var 0) (.cons (.var 1) (.cons (.lit (.str ("." : Str))) .nil))))) (.cons (.ret (.call 13 (.cons (.var 2) (.cons (.var 1) .nil)))) .nil)))⟩
noncomputable def WA:List Str:=["pat", "STAR", "parts"]
noncomputable def WE:OF:=⟨4,3,[.bool false,.bool true],(.cons (.ife (.cmp .Is (.var 0) (.lit .none)) (.cons .stuck .nil) .nil) (.cons (.assign 3 (.ext 1)) (.cons (.setA 0 (.var 3) ("whitespace_split" : Str) (.lit (.bool true))) (.cons (.ife (.nt (.var 1)) (.cons (.setA 0 (.var 3) ("commenters" : Str) (.lit (.str ("" : Str)))) .nil) .nil) (.cons (.ret (.ext 2)) .nil)))))⟩
noncomputable def V9:List Str:=["s", "comments", "posix", "lex"]
noncomputable def sP:List (Nat×List Str×OF):=[(0,ZM,ZS),(1,ZL,JM),(2,ZK,ZR),(3,ZJ,ZQ),(4,ZI,ZP),(6,ZH,S5),(7,ZG,JL),(8,ZF,ZN),(11,WD,WF),(12,WC,KR),(13,WB,B7),(14,WA,KQ),(15,V9,WE)]
noncomputable def DX(f:Nat):Option OF:=(sP.find? (·.1==f)).map (·.2.2)
noncomputable def fH(c:Nat):Bool:=(97≤c&&c≤122)||(65≤c&&c≤90)||(48≤c&&c≤57)||c==95||c==64||c==37||c==43||c==61||c==58||c==44||c==46||c==47||c==45
noncomputable def iS(c:Nat):Bool:=[97,39,91,32,34,42,92,93,63,35,45,98,33].contains c||decide (256≤c)
noncomputable def j7(c:Nat):Bool:=[40,41,91,93,123,125,63,42,43,45,124,94,36,92,46,38,126,35,32,9,10,13,11,12].contains c
section
variable{α β:Type}{G:Prop}{d:β}
noncomputable def j6(l:List α)(f:α→List α→Option β):Option β:=match l with | []=>none | a::r=>f a r
noncomputable def oQ(l:List α)(x:Option β):Option β:=match l with | []=>x | _::_=>none
theorem l5{l:List α}{f:α→List α→Option β}(h:j6 l f=some d)(k:∀ a r,l=a::r→f a r=some d→G):G:=by
 cases l with
 | nil=>cases h
 | cons a r=>exact k a r rfl h
theorem m8{l:List α}{x:Option β}(h:oQ l x=some d)(k:l=[]→x=some d→G):G:=by
 cases l with
 | nil=>exact k rfl h
 | cons a r=>cases h
noncomputable def GG(ρ:LO)(x:Nat)(f:OV→Option β):Option β:=((ρ[x]?).join).bind f
noncomputable def T5(v:OV)(f:Nat→Option β):Option β:=(mV v).bind fun x=>j6 x.cps.toList fun c r=>oQ r (f c)
theorem SV{v:OV}{f:Nat→Option β}(h:T5 v f=some d)(k:∀ c,v = .d (.str ⟨#[c]⟩)→f c=some d→G):G :=
 aV h fun x hx h=>jM hx fun y ev hy=>jR hy fun z ey ez=>l5 h fun c r hc h=>m8 h fun hr h=>k c (by
  cases ez
  have e:x=⟨#[c]⟩:=congrArg Str.mk (Array.toList_inj.mp (hc.trans (congrArg (c :: ·) hr)))
  rw[ev,ey,e]) h
end
noncomputable def u5:OE:=.mcall 0 (.var 0) ("get_token" : Str) 7 .nil
noncomputable def JK:OE:=.cmp .Eq (.var 1) (.attr 0 (.var 0) ("eof" : Str))
noncomputable def rV(cl:iO)(l:OV)(st:St):Option (Option OV×St) :=
 (cK cl (fun _ _ _=>none) u5 [some l,none] st).bind fun r=>(jW cl (fun _ _ _=>none) JK [some l,some r.1] r.2).map fun t=>(if t.1 then none else some r.1,t.2)
noncomputable def k7(cl:iO):Nat→OV→Nat→St→Option (OV×St)
 | 0,_,_,_=>none
 | n+1,l,k,st=>(rV cl l st).bind fun r=>r.1.elim (some (.o k,r.2)) fun x=>(mY r.2 k x).bind fun st'=>k7 cl n l k st'
noncomputable def eI(fuel:Nat)(cl:iO)(j:Nat)(ρ:LO)(st:St):Option (OV×St):=([
 some (.o st.length,st++[.deq]),
 GG ρ 0 fun s=>GG ρ 2 fun p=>cl 18 [s,p] st,
 GG ρ 3 fun l=>k7 cl fuel l st.length (st++[.list []]),
 none,
 none,
 GG ρ 9 fun s=>T5 s fun c=>if c==42||c==63||c==91 then some (.d (.str ⟨#[c]⟩),st)else none,
 GG ρ 0 fun s=>T5 s fun c=>some (.d (.str (if j7 c then⟨#[92,c]⟩else⟨#[c]⟩)),st),
 some (.o st.length,st++[.plain])]:List (Option (OV×St)))[j]?.join
noncomputable def newO(cl:iO)(c i:Nat)(xs:List OV)(st:St):Option (OV×St):=(cl i (.o st.length::xs) (st++[.inst c,.dict []])).bind fun r=>qL r.1 fun d=>if d.ctorIdx=0 then some (.o st.length,r.2)else none
noncomputable def JH(fuel:Nat)(cl:iO)(f:Nat)(args:List OV)(st:St):Option (OV×St) :=
 if f=9 then j6 args fun x r=>oQ r ((mV x).bind fun _=>newO cl 1 3 [x] st)
 else if f=18 then j6 args fun x r=>j6 r fun p r=>oQ r (newO cl 0 19 [x,p] st)
 else if f=19 then j6 args fun l r=>j6 r fun x r=>j6 r fun p r=>oQ r (eJ (bN cl (eI fuel cl) fuel dW.body [some l,some x,some (.d .none),some p,some (.d (.bool false)),none] st))
 else none
noncomputable def aL(fuel:Nat):Nat→iO:=qK DX (JH fuel) (eI fuel) fuel
end Kt.Internal
end
section
open PySem PySem.W PyProof.Rows PySem.Calls
namespace Kt.Internal
set_option genCtorIdx false in
inductive YG where
 | glob (n:Str)| meth (c m:Str)| prop (c m:Str)
theorem Y7{v:Value}{a:Addr}(h:eZ v=some a):v = .ref a:=by
 by_cases c:v.ctorIdx=10
 ·exact Value.ref.elim (motive:=fun v=>eZ v=some a→v = .ref a) v c (fun b h=>congrArg Value.ref (Option.some.inj h)) h
 ·rw[eZ,dif_neg c]at h; cases h
noncomputable def Ef(K:Frag)(r:YG):Option Addr:=match r with
 | .glob n=>(eK K n).bind eZ
 | .meth c m=>((eK K c).bind eZ).bind fun C=>(findIn K (.ref C) m).bind fun v=>v.bind eZ
 | .prop c m=>((eK K c).bind eZ).bind fun C=>(findIn K (.ref C) m).bind fun p=>(p.bind eZ).bind fun a=>(recIn K a "property").bind fun vs=>vs.head?.bind eZ
noncomputable def Ad:List (Option YG):=[some (.glob "_index"),some (.meth "StringIO" "read"),some (.meth "StringIO" "_StringIO__check"),some (.meth "StringIO" "__init__"),some (.meth "StringIO" "_StringIO__translated"),none,
 some (.meth "shlex" "read_token"),some (.meth "shlex" "get_token"),some (.prop "shlex" "punctuation_chars"),some (.glob "StringIO"),none,some (.glob "escape"),some (.glob "_translate"),
 some (.glob "_join_translated_parts"),some (.glob "translate"),some (.glob "split"),none,none,some (.glob "shlex"),some (.meth "shlex" "__init__")]
noncomputable def lY(K:Frag)(f:Nat):Option Addr:=(Ad[f]?.join).bind (Ef K)
noncomputable def pP(K:Frag)(c:Nat):Option Addr:=(["shlex", "StringIO"]:List Str)[c]?.bind fun n=>(eK K n).bind eZ
noncomputable def m3(e:Value)(f:Int→Tok→Bool):Bool:=if h:e.ctorIdx=4 then Value.int.elim e h f else false
theorem B3{e:Value}{f:Int→Tok→Bool}{m:Value→Prop}(h:m3 e f=true)(k:∀ a b,f a b=true→m (.int a b)):m e:=by
 by_cases c:e.ctorIdx=4
 ·exact Value.int.elim (motive:=fun e=>m3 e f=true→m e) e c k h
 ·rw[m3,dif_neg c]at h; cases h
noncomputable def X3(v:Value)(d:PyData):Bool:=match d with
 | .none=>v == .none
 | .bool b=>v == .bool b
 | .int i=>m3 v fun j _=>j==i
 | .str x=>rQ v fun y _=>y==x&&bL (.str x)
 | _=>false
theorem RL{v:Value}{d:PyData}(h:X3 v d=true):pR v d:=by
 cases d with
 | none=>exact eq_of_beq h▸⟨.none,rfl⟩
 | bool b=>exact eq_of_beq h▸⟨.bool b,rfl⟩
 | int i=>exact B3 (m:=fun v=>pR v (.int i)) h fun j t h=>eq_of_beq h▸⟨.int j t,rfl⟩
 | str x=>exact B2 (m:=fun v=>pR v (.str x)) h fun y t h=>bZ (m:=fun y=>pR (.str y t) (.str x)) (aA h).1 ⟨.str x t,(aA h).2⟩
 | _=>cases h
noncomputable def JO:List PyData→List Value→Bool
 | [],vs=>vs.isEmpty
 | d::ds,vs=>hM vs fun v r=>X3 v d&&JO ds r
theorem AJ:∀{ds:List PyData}{vs:List Value},JO ds vs=true→gH [] vs (ds.map .d)
 | [],_,h=>dE (m:=fun vs=>gH [] vs []) h .nil
 | _::_,_,h=>cW (m:=fun vs=>gH [] vs _) h fun _ _ h=>.cons (RL (aA h).1) (AJ (aA h).2)
noncomputable def DV(e:Data)(f:Array Value→Bool):Bool:=if h:e.ctorIdx=2 then Data.seq.elim e h fun a _=>f a else false
theorem V5{e:Data}{f:Array Value→Bool}(h:DV e f=true):∃ a n,e = .seq a n∧f a=true:=by
 by_cases c:e.ctorIdx=2
 ·exact Data.seq.elim (motive:=fun e=>DV e f=true→∃ a n,e = .seq a n∧f a=true) e c (fun a n h=>⟨a,n,rfl,h⟩) h
 ·rw[DV,dif_neg c]at h; cases h
noncomputable def Bv(d:Data):List Value:=if h:d.ctorIdx=2 then Data.seq.elim d h fun a _=>a.toList else []
noncomputable def m5(K:Frag)(fd:FuncData):List Value:=(((eZ fd.defaults).bind fun T=>K.lookup T).map fun o=>Bv o.data).getD []
noncomputable def sG:Nat→(List Value→Prop)→Prop
 | 0,P=>P []
 | k+1,P=>P []∧∀ v,sG k fun l=>P (v::l)
theorem GP{l:List Value}:∀{k:Nat}{P:List Value→Prop},sG k P→l.length≤k→P l:=by
 induction l with
 | nil=>exact fun{k P}h _=>by cases k with | zero=>exact h | succ k=>exact h.1
 | cons v l ih=>exact fun{k P}h e=>by cases k with | zero=>exact absurd e (Nat.not_succ_le_zero _)| succ k=>exact ih (P:=fun l=>P (v::l)) (h.2 v) (Nat.le_of_succ_le_succ e)
def f4(K:Frag)(a:Addr)(nm:List Str)(pf:OF):Prop:=fB (GC K a) fun fd=>sG pf.arity fun vals=>if pf.arity≤vals.length+(m5 K fd).length then
 ∀ S,peek K S (vB fd ⟨vals,[]⟩)=some ((nm.take pf.arity).zip (vals++(m5 K fd).drop ((m5 K fd).length+vals.length - pf.arity)))else True
noncomputable def qO(K:Frag):Value:=(((eK K "_translate").bind eZ).bind fun a=>(K.lookup a).bind fun o=>match o.data with | .func fd=>some fd.code | _=>none).getD .none
noncomputable def NK(K:Frag)(nm:List Str)(pf:OF)(fd:FuncData):Bool :=
 ([nm.length != 14||fd.code==qO K,fd.closure.isEmpty,fd.scope.kind == .function,!fd.scope.isCoroutine,!fd.scope.isGenerator,fd.globals==mainGlobals,fd.builtins==builtinsNs,iJ K fd.qualname fd.code,
  JO pf.dflt (m5 K fd),
  decide (pf.arity≤nm.length),decide nm.Nodup,fd.scope.names.all fun p=>p.2 != .cell&&p.2 != .free,(nm.take pf.arity).all fun n=>fd.scope.names.lookup n==some .local]:List Bool).all id
noncomputable def eN(K:Frag)(P:Scope→List Stmt→Bool)(a:Addr)(nm:List Str)(pf:OF):Bool:=As K a fun o=>pA o.data fun fd=>NK K nm pf fd&&lB fd.body fun body=>P fd.scope body
theorem dQ{Z:aE}{K:Frag}{P:Scope→List Stmt→Bool}{a:Addr}{nm:List Str}{pf:OF}(hlam:Z.lam=qO K)(hK:∀ h,Z.TabI h→K.In h)(X:K.In Z.h₀)(hb:f4 K a nm pf)(h:eN K P a nm pf=true) :
  ∃ fd body,e8 Z a fd body nm pf∧P fd.scope body=true:=T7 h fun o ho hc h=>by
 obtain⟨fd,hd,h⟩:=EX h
 obtain⟨body,hbd,hP⟩:=AB (aA h).2
 obtain⟨fd',ef,hb⟩:=mZ hb
 cases(K1 ho hd).symm.trans ef
 have h:=(aA h).1
 exact⟨fd,body,{
  lam:=fun hn=>hlam▸(Bool.or_eq_true_iff.mp (aJ h 0 rfl)).elim (fun h=>absurd hn (bne_iff_ne.mp h)) eq_of_beq
  obj:=⟨o,X _ _ ho,hc,hd⟩
  body:=hbd
  clo:=List.isEmpty_iff.mp (aJ h 1 rfl)
  kind:=eq_of_beq (aJ h 2 rfl)
  co:=bH (aJ h 3 rfl)
  gen:=bH (aJ h 4 rfl)
  glob:=eq_of_beq (aJ h 5 rfl)
  blt:=eq_of_beq (aJ h 6 rfl)
  code:=xH X (aJ h 7 rfl)
  bind:=⟨_,AJ (aJ h 8 rfl),fun s vals ht h1 h2=>kp_binds (hK _ ht) fun S=>by rw[tK]; exact Eq.mp (if_pos h2) (GP hb h1) S⟩
  len:=of_decide_eq_true (aJ h 9 rfl)
  nd:=of_decide_eq_true (aJ h 10 rfl)
  nocell:=fun p hp=>let⟨h1,h2⟩:=aA (List.all_eq_true.mp (aJ h 11 rfl) p hp); ⟨bne_iff_ne.mp h1,bne_iff_ne.mp h2⟩
  params:=fun n hn=>eq_of_beq (List.all_eq_true.mp (aJ h 12 rfl) n hn) },hP⟩
noncomputable def vT(K:Frag)(xc:List Str→Nat→Scope→Expr→Bool)(p:Nat×List Str×OF):Bool:=(IJ p.1).isEmpty&&gT (lY K p.1) fun a=>eN K (fun sc body=>eM K (pP K) (lY K) (xc p.2.1) p.2.1 sc p.2.2.body body) a p.2.1 p.2.2
theorem KS{Z:aE}{K:Frag}{xc:List Str→Nat→Scope→Expr→Bool}(hlam:Z.lam=qO K)(hK:∀ h,Z.TabI h→K.In h)(X:K.In Z.h₀)(hb:mD sP fun p=>fB (lY K p.1) fun a=>f4 K a p.2.1 p.2.2)(h:sP.all (vT K xc)=true):LU Z K (pP K) (lY K) xc DX:=fun f pf a ht hf=>bY ht fun q hq e=>by
 subst e
 obtain⟨h1,h2⟩:=aA (List.all_eq_true.mp h _ (List.mem_of_find?_eq_some hq))
 have hq:q.1=f:=eq_of_beq (List.find?_some (p:=fun x:Nat×List Str×OF=>x.1==f) hq)
 subst hq
 obtain⟨a',ha,h2⟩:=eG h2
 cases hf.symm.trans ha
 obtain⟨_,ea,hb⟩:=mZ (tM (P:=fun p:Nat×List Str×OF=>fB (lY K p.1) fun a=>f4 K a p.2.1 p.2.2) hb (List.mem_of_find?_eq_some hq))
 cases ha.symm.trans ea
 obtain⟨fd,body,F,hc⟩:=dQ hlam hK X hb h2
 exact⟨List.isEmpty_iff.mp h1,fd,body,_,F,hc⟩
noncomputable def jP(nm:List Str)(sc:Scope)(x:Nat)(e:Expr):Bool:=aW e fun n _=>nm[x]? == some n&&(sc.names.lookup n==some .local&&n != ("__debug__" : Str))
theorem WS{nm:List Str}{sc:Scope}{x:Nat}{e:Expr}{m:Expr→Prop}(h:jP nm sc x e=true)(k:∀ n p,nm[x]? = some n→sc.names.lookup n=some .local→n≠("__debug__" : Str)→m (.Name n p)):m e:=aO h fun n p h=>k n p (eq_of_beq (aA h).1) (eq_of_beq (aA (aA h).2).1) (bne_iff_ne.mp (aA (aA h).2).2)
noncomputable def WT(t:Str)(e:Expr):Bool:=bF e fun c _ _=>c == .str t
noncomputable def QX(sc:Scope):Bool:=fJ sc.names fun p=>p.2 == .local
noncomputable def By(k:Keyword)(f:Str→Expr→Bool):Bool:=gT k.arg fun n=>f n k.value
noncomputable def nR(e:Expr)(f:Arguments→Expr→Scope→Pos→Bool):Bool:=if h:e.ctorIdx=4 then Expr.Lambda.elim e h f else false
theorem HM{e:Expr}{f:Arguments→Expr→Scope→Pos→Bool}{m:Expr→Prop}(h:nR e f=true)(k:∀ a b c d,f a b c d=true→m (.Lambda a b c d)):m e:=by
 by_cases c:e.ctorIdx=4
 ·exact Expr.Lambda.elim (motive_1:=fun e=>nR e f=true→m e) e c k h
 ·rw[nR,dif_neg c]at h; cases h
noncomputable def At(sc:Scope)(e:Expr)(n:Str)(f:List Expr→Bool):Bool:=IX e fun m as=>m==n&&(aM sc n&&f as)
noncomputable def XN(lp:Nat×Nat)(nm:List Str)(j:Nat)(sc:Scope)(e:Expr):Bool:=gT (([
 fun _=>At sc e "deque" fun as=>as.isEmpty,
 fun _=>cQ e fun fe as ks _=>aW fe fun n _=>n==("shlex" : Str)&&(aM sc "shlex" && fJ as fun x=>jP nm sc 0 x&&fJ ks fun k=>By k fun n y=>n==("posix" : Str)&&jP nm sc 2 y),
 fun _=>At sc e "list" fun as=>fJ as fun x=>jP nm sc 3 x,
 fun _=>false,
 fun _=>false,
 fun _=>mJ e "sub" fun x as=>nm.length==14&&(aW x fun n _=>n==("twin_re_1_fnmatch" : Str)&&(aM sc "twin_re_1_fnmatch" && hM as fun l r=>(fJ r fun y=>jP nm sc 9 y)&&nR l fun a _ lsc q=>a.defaults.isEmpty&&(a.kw_defaults.isEmpty&&(q.line==lp.1&&(q.col==lp.2&&QX lsc))))),
 fun _=>mJ e "translate" fun x as=>jP nm sc 0 x&&fJ as fun y=>aW y fun n _=>n==("_special_chars_map" : Str)&&aM sc "_special_chars_map",
 fun _=>At sc e "object" fun as=>as.isEmpty]:List (Unit→Bool))[j]?) fun f=>f ()
end Kt.Internal
end
section
open PySem PySem.W PyProof.Rows PySem.Calls Builtin
namespace Kt.Internal
noncomputable abbrev cM:Obj:={ cls:=.type "object",data:=.plain }
noncomputable abbrev b6:Obj:={ cls:=.type "collections.deque",data:=.fields #[.none,.int 0 0] }
def J4(T:String)(o:Obj):Prop:=∀{prog:Program}{w:World}{A:Around}{s:Shared}{Q:Value→Shared→Prop}{E:Value→Shared→Prop},A.handled=none →
 (∀ h',(∀ b o,s.heap.get? b=some o→h'.get? b=some o)→h'.get? s.heap.objs.size=some o→Q (.ref s.heap.objs.size) { s with heap:=h' })→wpAny (model prog w) A (call (.type T) []) Q E s
theorem BA:J4 "object" cM:=fun{prog w A s Q E}hh h=>by
 have L:(s.heap.push cM).get? s.heap.objs.size=some cM:=Heap.get?_push_size _ rfl
 refine wpAny_call (JQ (K:=[]) (R:=wants Q E) 9 [(0,cM),(0,cM),(0,cM)]
  (qb "type.__call__" [.type "object"]∧qb "object.__new__" [.type "object"]∧(s.heap.push cM).get? s.heap.objs.size=some cM∧(s.heap.push cM).get? s.heap.objs.size=some cM∧(s.heap.push cM).get? s.heap.objs.size=some cM∧qb "object.__init__" [.ref s.heap.objs.size]∧Q (.ref s.heap.objs.size) { s with heap:=s.heap.push cM }) hh ?_ ?_ ?_)
 ·exact fun _ _ h=>nomatch h
 ·kernel_rfl
 ·exact⟨Code.quiet_builtin _ (by decide +kernel),Code.quiet_builtin _ (by decide +kernel),L,L,L,Code.quiet_builtin _ (by decide +kernel),h _ (fun b o e=>Heap.get?_push_of_some _ e) L⟩
theorem DN:J4 "collections.deque" b6:=fun{prog w A s Q E}hh h=>by
 have L:(s.heap.push b6).get? s.heap.objs.size=some b6:=Heap.get?_push_size _ rfl
 have L2:((s.heap.push b6).update s.heap.objs.size (Obj.mapFields fun x=>x.setIfInBounds 0 .none)).get? s.heap.objs.size=some b6:=Heap.get?_update_self _ L rfl
 refine wpAny_call (JQ (K:=[]) (R:=wants Q E) 9 [(0,b6),(0,b6),(0,b6),(0,b6),(0,b6)]
  (qb "type.__call__" [.type "collections.deque"]∧qb "collections.deque.__new__" [.type "collections.deque"]∧(s.heap.push b6).get? s.heap.objs.size=some b6∧(s.heap.push b6).get? s.heap.objs.size=some b6∧(s.heap.push b6).get? s.heap.objs.size=some b6∧qb "collections.deque.__init__" [.ref s.heap.objs.size] ∧
   (s.heap.push b6).get? s.heap.objs.size=some b6∧(((s.heap.push b6).get? s.heap.objs.size).isSome=true∧Frag.In [] ((s.heap.push b6).update s.heap.objs.size (Obj.mapFields fun x=>x.setIfInBounds 0 .none))) ∧
   ((s.heap.push b6).update s.heap.objs.size (Obj.mapFields fun x=>x.setIfInBounds 0 .none)).get? s.heap.objs.size=some b6∧Q (.ref s.heap.objs.size) { s with heap:=(s.heap.push b6).update s.heap.objs.size (Obj.mapFields fun x=>x.setIfInBounds 0 .none) }) hh ?_ ?_ ?_)
 ·exact fun _ _ h=>nomatch h
 ·kernel_rfl
 ·exact⟨Code.quiet_builtin _ (by decide +kernel),Code.quiet_builtin _ (by decide +kernel),L,L,L,Code.quiet_builtin _ (by decide +kernel),L,⟨by rw[L]; rfl,fun _ _ h=>nomatch h⟩,L2,
   h _ (fun b o e=>(Heap.get?_update_other _ _ fun e'=>by rw[← e',get?_ge (Nat.le_refl _)]at e; cases e).trans (Heap.get?_push_of_some _ e)) L2⟩
section
variable{D:OD}{sc:Scope}{K:Frag}{fA:Nat→Option Addr}{fuel:Nat}
def OD.Ex(D:OD)(fuel:Nat):Prop:=D.ex=eI fuel D.cl
theorem ET{j:Nat}{n:Str}{p pos:Pos}{T:String}{f:FO}{o:Obj}(hT:J4 T o)(hX:D.Ex fuel)(hex:∀ ρ st,eI fuel D.cl j ρ st=some (.o st.length,st++[f]))(hf:∀{μ h k a},h.get? a=some o→GF D.cA μ h k a f)
  (hn:∀{A:Around}{env:Env}{ρ:LO}{μ:List Addr}{st:St}{s:Shared}{Q:Value→Shared→Prop}{E:Value→Shared→Prop},Oc D sc A env ρ μ st s→Q (.type T) s→wpAny (model D.Z.prog D.Z.w) A (eval (.Name n p) env) Q E s) :
  cF D sc (.Call (.Name n p) [] [] pos) (.ext j):=fun{A env ρ μ st s v st' Q E}C he g=>by
 cases((congrFun (congrFun (congrFun hX j) ρ) st).trans (hex ρ st)).symm.trans he
 rw[bG]
 refine wpAny_bind (hn C (aR nofun rfl (evalArgs_nil3 (hT C.ha.handled fun h' hk ho=>?_))))
 exact g _ _ _ (C.at.more (tk:=s.toks) (get?_ge (Nat.le_refl _)) C.he.size (C.hi.frLt (Nat.le_refl _)) id hk (hf ho)) ⟨_,by rw[← C.so.len]; exact List.getElem?_concat_length,rfl⟩
theorem Ck{p pos:Pos}(hX:D.Ex fuel)(hB:fZ D.Z)(hg:aM sc "object" = true):cF D sc (.Call (.Name "object" p) [] [] pos) (.ext 7) :=
 ET (f:=.plain) BA hX (fun _ _=>rfl) (fun h=>⟨_,h,by show Value.type "object" ≠ _; decide⟩) fun C h=>C.blt hB hg (by decide) h
theorem Cp{p pos:Pos}(hX:D.Ex fuel)(hg:aM sc "deque" = true)(hv:D.Z.mg "deque" = some (.type "collections.deque")):cF D sc (.Call (.Name "deque" p) [] [] pos) (.ext 0) :=
 ET (f:=.deq) DN hX (fun _ _=>rfl) (fun h=>⟨_,h,rfl,rfl,_,_,rfl⟩) fun C h=>C.glob hg hv h
theorem sF{x:Nat}{e:Expr}(h:jP D.nm sc x e=true):cF D sc e (.var x)∧aC e=false∧b9 e=false:=WS (m:=fun e=>cF D sc e (.var x)∧aC e=false∧b9 e=false) h fun n p h1 h2 h3=>⟨xU h1 h2 h3,rfl,rfl⟩
theorem sK{cl:iO}{ex:Nat→LO→St→Option (OV×St)}{ρ:LO}{x:Nat}{v:OV}{st:St}(h:(ρ[x]?).join=some v):cK cl ex (.var x) ρ st=some (v,st):=congrArg (Option.map _) h
theorem IT{α:Type}{d:α}{G:Prop}{ρ:LO}{x:Nat}{f:OV→Option α}(h:GG ρ x f=some d)(k:∀ v,(ρ[x]?).join=some v→f v=some d→G):G:=aV h k
theorem Co{p pos kp:Pos}{x y:Expr}{a:Addr}(hX:D.Ex fuel)(hK:∀ h,D.Z.TabI h→K.In h)(hC:bQ D.Z D.cA D.cl D.lvl fA)(hf:fA 18=some a)(hg:aM sc "shlex" = true)(hv:D.Z.mg "shlex" = some (.ref a))(hk:keepIn K (.ref a)=true)
  (hx:jP D.nm sc 0 x=true) (hy:jP D.nm sc 2 y=true):cF D sc (.Call (.Name "shlex" p) [x] [⟨some "posix",y,kp⟩] pos) (.ext 1):=fun{A env ρ μ st s v st' Q E}C he g =>
 IT ((congrFun (congrFun (congrFun hX 1) ρ) st).symm.trans he) fun xs h1 he=>IT he fun ps h2 he=>by
 obtain⟨ox,stx,_⟩:=sF hx
 obtain⟨oy,sty,_⟩:=sF hy
 show wpAny _ _ (eval (.Name "shlex" p) env >>= fun f=>callWith pos f [] (backTo pos (starEach [x] env)) (backToKw pos (keywordEach [⟨some "posix",y,kp⟩] env))) _ _ _
 refine wpAny_bind (C.glob hg hv (callWith_of (P:=K.In) (by rw[(aQ stx).1 env pos]; rfl) (keeps_K hk) (evalArgs_kw2 rfl (bR stx ox cY C (uM (sK h1)) fun vs s₁ μ₁ a₁ hvs=>kwAll_cons (oy (C.go a₁) (sK h2) fun w s₂ μ₂ a₂ hw=>kwAll_nil ⟨hK _ a₂.i.tab,?_⟩)) (bC stx [] env))))
 exact qJ (m:=fun vs=>wpAny _ A (call (.ref a) ([]++vs) _) Q E s₂) hvs fun u hu=>wpAny_call (hC hf he (C.ha.mono (Nat.le_add_right _ _)) a₂.i (C.he.step (a₁.trans a₂).t).size a₂.so (.cons (hu.pre a₂.t.pre) (.cons hw .nil)) (g.after (a₁.trans a₂)))
end
noncomputable def fW:List Str:=["self", "token"]
noncomputable def rR:OF:=⟨2,1,[],.nil⟩
noncomputable def TV:Nat→Scope→Expr→Bool:=fun _ _ _=>false
noncomputable def E7(K:Frag)(cA fA:Nat→Option Addr)(sc:Scope)(value:Expr)(test:Expr):List Bool:=[aM sc "StopIteration",sc.names.lookup ("token" : Str)==some .local,!f7 value,bA K cA fA TV fW sc u5 value,bA K cA fA TV fW sc JK test]
noncomputable def kJ(K:Frag)(cA fA:Nat→Option Addr)(sc:Scope)(body:List Stmt):Bool :=
 hM body fun z8 r9=>hM r9 fun z10 r11=>fJ r11 fun z12=>cG z8 fun z13 value p2=>fJ z13 fun z14=>aW z14 fun z15 p1=>z15==("token" : Str)&&(oY z10 fun test z16 z17 p5=>fJ z16 fun z18=>lN z18 fun z19 z20 p4=>gT z19 fun z21=>aW z21 fun z22 p3=>z22==("StopIteration" : Str)&&(z20.isNone&&(z17.isEmpty&&(eD z12 fun z23 p7=>gT z23 fun z24=>aW z24 fun z25 p6=>z25==("token" : Str)&&((E7 K cA fA sc value test).all id)))))
theorem HQ{K:Frag}{cA fA:Nat→Option Addr}{sc:Scope}{body:List Stmt}{m:List Stmt→Prop}(h:kJ K cA fA sc body=true)(k:∀(p1:Pos)(value:Expr)(p2:Pos)(test:Expr)(p3 p4 p5 p6 p7:Pos),(E7 K cA fA sc value test).all id=true →
  m [(.Assign [(.Name ("token" : Str) p1)] value p2),(.If test [(.Raise (some (.Name ("StopIteration" : Str) p3)) none p4)] [] p5),(.Return (some (.Name ("token" : Str) p6)) p7)]):m body:=by
 apply cW h; intro z8 r9 h; apply cW h; intro z10 r11 h; apply cB h; intro z12 h; apply dM h; intro z13 value p2 h; apply cB h; intro z14 h; apply aO h; intro z15 p1 h; refine aB h fun z h=>?_; apply bZ z; apply xV h; intro test z16 z17 p5 h; apply cB h; intro z18 h; apply DF h; intro z19 z20 p4 h; apply rJ h; intro z21 h; apply aO h; intro z22 p3 h; refine aB h fun z h=>?_; apply bZ z; refine aB h fun z h=>?_; apply rU z; refine aB h fun z h=>?_; apply dE z; apply gP h; intro z23 p7 h; apply rJ h; intro z24 h; apply aO h; intro z25 p6 h; refine aB h fun z h=>?_; apply bZ z; exact k _ _ _ _ _ _ _ _ _ h
noncomputable abbrev ND(Z:aE)(cA:Nat→Option Addr)(cl:iO)(lvl:Nat)(nm:List Str):OD:=⟨Z,cA,cl,fun _ _ _=>none,lvl,nm⟩
section
variable{Z:aE}{cA fA:Nat→Option Addr}{cl:iO}{lvl:Nat}{K:Frag}{μ μ':List Addr}{h h':Heap}{S:Addr}{l v:OV}{st st':St}{A:Around}{s:Shared}{x:Addr}
theorem HP{a:Addr}{fd:FuncData}{body:List Stmt}(X:∀ fr,OY ((ND Z cA cl lvl fW).at fr) K fA TV)(F:e8 Z a fd body fW rR)(hck:kJ K cA fA fd.scope body=true){r:Option OV}(hd:rV cl l st=some (r,st'))
  {w:Value} {Q E:Value→Shared→Prop} (hA:fG Z (8*(lvl+1)) A) (hI:aZ Z s) (hsz:Z.n≤s.heap.objs.size) (S:lZ Z cA μ st s.heap) (hw:VE μ w l)
  (hQ:∀ v,r=some v→gI Z cA μ s.heap st' v Q) (hE:r=none→∀ s' μ' e,dF Z cA jK μ s.heap μ' st' s'→s'.TypeIs (.ref e) "StopIteration" → E (.ref e) s'):wpAny (model Z.prog Z.w) A (call (.ref a) [w]) Q E s :=
 bD hd fun tk st1 h1 hd=>bY hd fun bs h2 e=>by
 obtain⟨b,st2⟩:=bs
 cases e
 obtain⟨all,hb,hall,hval⟩:=e8.binds (D:=ND Z cA cl lvl fW) (pf:=rR) (ρ:=[some l,none]) F hI (vs:=[w]) (args:=[l]) (.cons hw .nil) rfl
 refine wpAny_call (B6 (D:=ND Z cA cl lvl fW) F hb hall hval hA hI hsz S fun env s₁ hfm C out _=>?_)
 have XX:=X (env.locals::Z.fr)
 have hnd:fW.Nodup:=F.nd
 apply HQ hck; intro p1 value p2 test p3 p4 p5 p6 p7 hz
 have c5:=eq_of_beq (aJ hz 1 rfl)
 refine wpAny_execs_cons (tU (fuel:=0) (x:=1) (n := "token") (p:=u5) hnd rfl c5 (bH (aJ hz 2 rfl)) (aF XX u5 (aJ hz 3 rfl)).1 C (congrArg (Option.map _) h1) fun fl s₂ μ₂ a₂ g=>?_)
 obtain⟨rfl,e₂⟩:=g
 have C₂:=C.to a₂ e₂
 refine wpAny_execs_cons (wpAny_If ((aF XX JK (aJ hz 4 rfl)).2 C₂ h2 fun s₃ μ₃ a₃=>?_))
 have C₃:=C₂.go a₃
 have a₂₃:=a₂.trans (C₂.inL a₃)
 cases b with
 | false =>
  refine wpAny_execs_nil (wpAny_execs_cons (ES (D:=(ND Z cA cl lvl fW).at (env.locals::Z.fr)) (fuel:=0) (xU (x:=1) (n := "token") rfl c5 (by decide)) C₃ (r:=(.ret tk,st2)) rfl fun fl s₄ μ₄ a₄ g=>?_))
  obtain⟨u,rfl,hu⟩:=g
  exact hQ tk rfl u s₄ μ₄ (out (a₂₃.trans a₄)) hu
 | true =>
  refine wpAny_execs_cons (owsi_raiseC C₃.ha.handled (C₃.blt XX.b (aJ hz 0 rfl) (by decide) ⟨rfl,rfl⟩) fun h' e hm=>?_)
  obtain⟨fs,hf1,hf2⟩:=hA.frames
  have hfr:(A.deeper env).frames=some (env::fs):=by show A.frames.map _=_; rw[hf1]; rfl
  obtain⟨fs',hf3,hf4⟩:=C₃.ha.frames
  cases hfr.symm.trans hf3
  refine wpAny_leaves_madeW (base:=oO s₃.heap (env.locals::Z.fr)) (h:=s₃.heap) hfr hfm (tP _ _) (jI C₃.hi hf4) hm.of fun h'' t x1 x2 x3 x4=>?_
  have g2:∀ b o,s₃.heap.get? b=some o→(∀ vs,o.data ≠ .fields vs)→∃ sl,h''.get? b=some { o with slots:=sl }:=fun b o e hn=>x4 b o (hm.keeps b o e) hn
  obtain⟨oe,vs,he,hc,_⟩:=x1.first
  exact hE rfl _ μ₃ e (out (a₂₃.trans (C₃.inL (C₃.at.kp (oH (tk:=s₃.toks) C₃.hi x1.1 g2) (qD C₃.hi x1.1 g2))))) ⟨oe,he,hc⟩
theorem WY{L:Addr}{m:Str→Option Value}(K0:K.In Z.h₀)(X:K.In h)(hL:Z.n≤L)(hn:h.Ns L m):∃ h₀,Fr h₀ L h m∧K.In h₀:=by
 have hlt:L<h.objs.size:=hn.lt
 have key:∀ a,a<L→({ h with objs:=h.objs.extract 0 L }:Heap).get? a=h.get? a:=fun a ha=>by
  refine Option.ext fun o=>?_
  rw[Heap.get?_some_iff,Heap.get?_some_iff]
  show(h.objs.extract 0 L)[a]? = _∧_↔_
  rw[Array.getElem?_extract,if_pos (by rw[Nat.sub_zero,Nat.min_eq_left (Nat.le_of_lt hlt)]; exact ha),Nat.zero_add]
 have hsz:(h.objs.extract 0 L).size=L:=by rw[Array.size_extract,Nat.sub_zero,Nat.min_eq_left (Nat.le_of_lt hlt)]
 exact⟨{ h with objs:=h.objs.extract 0 L },⟨hn,fun b o e=>(key b (hsz▸Heap.lt_size e)).symm.trans e,Nat.le_of_eq hsz⟩,fun a o e=>(key a (Nat.lt_of_lt_of_le (Heap.lt_size (K0 a o e)) hL)).trans (X a o e)⟩
noncomputable def CD(K:Frag)(C fi fn:Addr):Bool:=findIn K (.ref C) "__iter__" == some (some (.ref fi))&&(isFn K (.ref fi)&&(findIn K (.ref C) "__next__" == some (some (.ref fn))&&(isFn K (.ref fn) &&
 (findIn K (.ref C) "__len__" == some none&&findIn K (.ref C) "__length_hint__" == some none))))
theorem vU{r:Option OV×St}(hd:rV cl l st=some r):∃ k es,jQ 0 st l=some (k,es):=aV hd fun p h1 _=>bD h1 fun l' st' h2 h3=>j5 h2 fun h4 e=>by
 cases(show some l=some l' from h4)
 subst e
 exact bD h3 fun k es h5 _=>⟨k,es,h5⟩
theorem lZ.instAt{C k:Nat}{o:OV}{es:List (Str×OV)}{c:Nat}(Ss:lZ Z cA μ st h)(e:jQ c st o=some (k,es))(hC:cA c=some C)(hx:VE μ (.ref x) o):∃ dx ox,InstAt h x (instObj C dx) C (some ox) :=
 Ss.instK hC e hx fun y dx ents n sl ew _ II _=>by cases ew; exact⟨dx,_,II⟩
variable{D:OD}{sc:Scope}{env:Env}{ρ:LO}{A':Around}
theorem Oc.cut(C:Oc D sc A env ρ μ st s)(K0:K.In D.Z.h₀)(hK:∀ h,D.Z.TabI h→K.In h):∃ h₀ m,Fr h₀ env.locals s.heap m∧K.In h₀:=let⟨m,hm,_⟩:=C.he.ns; let⟨h₀,a,b⟩:=WY K0 (hK _ C.hi.tab) C.he.new hm; ⟨h₀,m,a,b⟩
theorem L3{C' fi fn k:Addr}{fd:FuncData}{body:List Stmt}(X:∀ fr,OY ((ND D.Z D.cA D.cl lvl fW).at fr) K fA TV)(FN:e8 D.Z fn fd body fW rR)(hck:kJ K D.cA fA fd.scope body=true)(hC:D.cA 0=some C')(hit:CD K C' fi fn=true)
  (hA:fG D.Z (8*(lvl+1)) A'.in1) {R:Result→Shared→Prop} (n:Nat):∀{st:St}{s:Shared}{μ:List Addr},k7 D.cl n l k st=some (v,st')→Oc D sc A env ρ μ st s→VE μ (.ref x) l→μ[k]? = some S →
   (∀ s' μ',v = .o k→dF D.Z D.cA jK μ s.heap μ' st' s'→R (.ok (.ret .none)) s')→codeAny (model D.Z.prog D.Z.w) A' (.builtin "list.extend.loop" ⟨[.ref S,.ref x,.none],[]⟩) R s:=by
 induction n with
 | zero=>exact fun hd=>nomatch hd
 | succ n ih =>
  intro st s μ hd C hx hS hR
  refine aV hd fun r h1 hd=>?_
  obtain⟨r,st1⟩:=r
  obtain⟨k',es,hin⟩:=vU h1
  obtain⟨dx,ox,II⟩:=C.so.instAt hin hC hx
  obtain⟨h₀,m,FF,XF⟩:=C.cut (X D.Z.fr).k0 (X D.Z.fr).k
  have i:=(aA (aA hit).2).2
  refine codeAny_builtin F.entry_extend_loop ?_
  rw[Around.under_plainId F.plain_extend_loop _]
  show wpAny _ A'.in1 (pyNext (.ref x) >>= _) _ _ s
  refine wpAny_bind (owit_next FF XF II (eq_of_beq (aA i).1) (aA (aA i).2).1 (HP X FN hck h1 hA C.hi C.he.size C.so hx (fun u hu w s₁ μ₁ a₁ hw=>?_) fun hr s' μ₁ e a₁ hT=>?_))
  ·subst hu
   exact aV hd fun st2 hp hd=>by
    show wpAny _ A'.in1 (updateSeq S (·.push w) >>= _) _ _ _
    refine wpAny_bind (KN a₁ hp (dZ a₁.t.pre hS) hw fun s₂ a₂=>wpAny_pure ⟨plainId_quiet F.plain_extend_loop _,?_⟩).2
    exact ih hd (C.go a₂) (hx.pre a₂.t.pre) (dZ a₂.t.pre hS) fun s' μ' e a₃=>hR s' μ' e (a₂.trans a₃)
  ·subst hr
   cases hd
   unfold OwitStop
   refine wpAny_isInstance (b:=true) hT (by rw[isSubtype_type]; kernel_rfl) ?_
   show(if true=true then _ else _)
   rw[if_pos rfl]
   exact wpAny_pure (hR s' μ₁ rfl a₁)
theorem s8{α:Type}{a:α}:∀{l:List α}{k:Nat},l[k]? = some a→l.set k a=l
 | [],_,h=>nomatch h
 | b::l,0,h=>congrArg (· :: l) (Option.some.inj h).symm
 | b::l,k+1,h=>congrArg (b :: ·) (s8 (l:=l) h)
noncomputable def pV:List Str:=["self"]
noncomputable def u6:OF:=⟨1,1,[],.cons (.ret (.var 0)) .nil⟩
noncomputable def CG(K:Frag)(cA fA:Nat→Option Addr):Bool:=gT (cA 0) fun C=>gT ((findIn K (.ref C) "__iter__").bind fun v=>v.bind eZ) fun fi=>gT ((findIn K (.ref C) "__next__").bind fun v=>v.bind eZ) fun fn =>
 CD K C fi fn&&(eN K (fun sc body=>eM K cA fA TV pV sc u6.body body) fi pV u6&&eN K (kJ K cA fA) fn fW rR)
def u9(K:Frag)(cA:Nat→Option Addr):Prop:=fB (cA 0) fun C=>(fB ((findIn K (.ref C) "__iter__").bind fun v=>v.bind eZ) fun fi=>f4 K fi pV u6)∧fB ((findIn K (.ref C) "__next__").bind fun v=>v.bind eZ) fun fn=>f4 K fn fW rR
theorem GQ{n k:Nat}(h:k7 cl n l k st=some (v,st')):∃ k es,jQ 0 st l=some (k,es):=by
 cases n with
 | zero=>cases h
 | succ n=>exact aV h fun r h1 _=>vU h1
theorem N8{Z:aE}{cA:Nat→Option Addr}(hK:∀ h,Z.TabI h→K.In h)(hK0:K.In Z.h₀)(hlam:Z.lam=qO K)(hb2:u9 K cA)(h2:CG K cA fA=true){G:Prop}
  (g:∀ C fi fn fdI bodyI fd body,cA 0=some C→CD K C fi fn=true→e8 Z fi fdI bodyI pV u6→eM K cA fA TV pV fdI.scope u6.body bodyI=true→e8 Z fn fd body fW rR→kJ K cA fA fd.scope body=true →
   findIn K (.ref C) "__iter__" = some (some (.ref fi))→isFn K (.ref fi)=true→findIn K (.ref C) "__next__" = some (some (.ref fn))→findIn K (.ref C) "__len__" = some none→findIn K (.ref C) "__length_hint__" = some none→G):G:=by
 obtain⟨C',hC,h2⟩:=eG h2
 obtain⟨fi,hfi,h2⟩:=eG h2
 obtain⟨fn,hfn,h2⟩:=eG h2
 obtain⟨hit,h2⟩:=aA h2
 obtain⟨_,e0,b1,b2⟩:=mZ hb2
 cases hC.symm.trans e0
 obtain⟨_,e1,b1⟩:=mZ b1
 cases hfi.symm.trans e1
 obtain⟨_,e2,b2⟩:=mZ b2
 cases hfn.symm.trans e2
 obtain⟨fdI,bodyI,FI,hckI⟩:=dQ hlam hK hK0 b1 (aA h2).1
 obtain⟨fd,body,FN,hck⟩:=dQ hlam hK hK0 b2 (aA h2).2
 obtain⟨i1,i⟩:=aA hit
 obtain⟨i2,i⟩:=aA i
 obtain⟨i3,i⟩:=aA i
 obtain⟨i5,i6⟩:=aA (aA i).2
 exact g C' fi fn fdI bodyI fd body hC hit FI hckI FN hck (eq_of_beq i1) i2 (eq_of_beq i3) (eq_of_beq i5) (eq_of_beq i6)
theorem Cn{p pos:Pos}{y:Expr}{fuel:Nat}(hX:D.Ex fuel)(hl:D.lvl=lvl+1)(hK:∀ h,D.Z.TabI h→K.In h)(hK0:K.In D.Z.h₀)(hlam:D.Z.lam=qO K)(hB:fZ D.Z)(hCl:∀ fr,bQ (D.Z.at fr) D.cA D.cl lvl fA)(hb2:u9 K D.cA)(h2:CG K D.cA fA=true)(hg:aM sc "list" = true)(hy:jP D.nm sc 3 y=true) :
  cF D sc (.Call (.Name "list" p) [y] [] pos) (.ext 2):=fun{A env ρ μ st s v st' Q E}C he g=>IT ((congrFun (congrFun (congrFun hX 2) ρ) st).symm.trans he) fun l h1 he=>by
 refine N8 hK hK0 hlam hb2 h2 fun C' fi fn fdI bodyI fd body hC hit FI hckI FN hck i1 i2 i3 i5 i6=>?_
 have X:∀ fr nm,OY ((ND D.Z D.cA D.cl lvl nm).at fr) K fA TV:=fun fr nm=>⟨hK,hK0,hB,hCl fr,fun _ _ _ h=>nomatch h⟩
 have hA:fG D.Z (8*(lvl+1)) A.in1.in1:=(C.ha.mono (k:=8*(lvl+1)+2) (hl▸Nat.le_add_right _ 5)).in_.in_
 obtain⟨oy,sty,_⟩:=sF hy
 refine kG (f:=.type "list") hB hg (by decide) nofun (aQ sty) (bR sty oy cY) C (uM (sK h1)) fun vs s₁ μ₁ a₁ hvs=>qJ (m:=fun vs=>wpAny _ A (call (.type "list") vs) Q E s₁) hvs fun w hw=>?_
 obtain⟨k,es,hin⟩:=GQ he
 obtain⟨j,rfl⟩:∃ j,l = .o j:=rT hin fun j e _=>⟨j,e⟩
 obtain⟨x,hxj,rfl⟩:=hw
 have C₁:=C.go a₁
 refine callType_codes (Q₁:=fun obj s₂=>obj = .ref s₁.heap.objs.size∧s₂={ s₁ with heap:=s₁.heap.push { cls:=.type "list",data:=.seq #[] } }) F.called_list (F.typeCall_list_1 _) F.entry_list_init
  (code_list_new _ ⟨rfl,rfl⟩) fun obj s₂ h₂=>?_
 obtain⟨rfl,rfl⟩:=h₂
 have hSx:x≠s₁.heap.objs.size:=fun e=>by obtain⟨o,ho⟩:=C₁.so.live x (List.mem_of_getElem? hxj); rw[e,get?_ge (Nat.le_refl _)]at ho; cases ho
 have a₂:=(C₁.more C₁.at (tk:=s₁.toks) (v:=fun _=>True) (f:=.list []) (o:={ cls:=.type "list",data:=.seq #[] }) ⟨#[],_,_,Heap.get?_push_size _ rfl,.nil,Nat.zero_le _⟩).1
 have hSo:(s₁.heap.push { cls:=.type "list",data:=.seq #[] }).get? s₁.heap.objs.size=some { cls:=.type "list",data:=.seq #[] }:=Heap.get?_push_size _ rfl
 have hSk:(μ₁++[s₁.heap.objs.size])[st.length]? = some s₁.heap.objs.size:=by rw[← C₁.so.len]; exact List.getElem?_concat_length
 have hSl:(st++[FO.list []])[st.length]? = some (.list []):=List.getElem?_concat_length
 have hxj:=dZ (List.prefix_append μ₁ [s₁.heap.objs.size]) hxj
 generalize s₁.heap.objs.size=S at *
 generalize s₁.heap.push { cls:=.type "list",data:=.seq #[] }=hS at *
 generalize μ₁++[S]=μ₂ at *
 generalize st++[FO.list []]=st₂ at *
 generalize st.length=n at *
 refine⟨⟨_,hSo,rfl⟩,F.args_list_init_2 _ _,?_⟩
 show wpAny _ A.in1.in1 (do let old ← Builtin.List.listItems (.ref S); Builtin.List.listUpdate (.ref S) (fun _=>#[]); letGo old.toList.reverse; Builtin.List.listExtendWith (.ref S) (.ref x) .none) _ _ _
 refine wpAny_bind ?_
 unfold Builtin.List.listItems
 refine wpAny_bind (wpAny_seqItems hSo rfl (wpAny_pure ?_))
 show wpAny _ A.in1.in1 (updateSeq S (fun _=>#[]) >>= fun _=>letGo (#[]:Array Value).toList.reverse >>= fun _=>Builtin.List.listExtendWith (.ref S) (.ref x) .none) _ _ _
 refine wpAny_bind (a₂.turnL hSk hSl (ys:=[]) (f:=fun _=>#[]) (Nat.zero_le _) (fun _=>.nil) fun s₃ a₃=>wpAny_bind (wpAny_letGo ?_)).2
 rw[s8 hSl]at a₃
 have C₃:=C₁.go a₃
 obtain⟨dx,ox,II⟩:=C₃.so.instAt hin hC ⟨x,hxj,rfl⟩
 obtain⟨h₀,m,FF,XF⟩:=C₃.cut hK0 hK
 unfold Builtin.List.listExtendWith
 refine wpAny_bind (II.type.here ?_)
 rw[if_neg (show ¬(Builtin.List.listSameRef (.ref S) (.ref x)||Value.ref C'==Value.type "list" || Value.ref C'==Value.type "tuple")=true from by
  rw[show Builtin.List.listSameRef (.ref S) (.ref x)=false from beq_false_of_ne (Ne.symm hSx)]; exact nofun)]
 refine wpAny_bind (owit_iter FF XF II i1 i2 (wpAny_call (AH (D:=ND D.Z D.cA D.cl lvl pV) (fun fr=>X fr pV) FI hckI (fuel:=0) (args:=[.o j]) (ρ:=[some (.o j)]) (v:=.o j) rfl rfl hA C₃.hi C₃.he.size C₃.so (.cons ⟨x,hxj,rfl⟩ .nil) fun w s₄ μ₄ a₄ hw=>?_)))
 have hxj₄:=dZ a₄.t.pre hxj
 obtain⟨x',hx',rfl⟩:=hw
 cases hxj₄.symm.trans hx'
 have C₄:=C₃.go a₄
 obtain⟨dx₄,ox₄,II₄⟩:=C₄.so.instAt hin hC ⟨x,hxj₄,rfl⟩
 obtain⟨h₄,m₄,FF₄,XF₄⟩:=C₄.cut hK0 hK
 refine owit_it FF₄ XF₄ II₄ i3 (wpAny_bind (wpAny_holding ?_))
 unfold Builtin.List.listLengthHint
 refine wpAny_bind (wpAny_bind (II₄.type.here ((looks_findIn (hK _ C₄.hi.tab) i5).here ?_)))
 show wpAny _ _ (specialOf (Value.ref x) (Str.ofString "__length_hint__") >>= _) _ _ _
 refine wpAny_bind (wpAny_bind (II₄.type.here ((looks_findIn (hK _ C₄.hi.tab) i6).here (wpAny_pure ?_))))
 show wpAny _ _ (rule "list.extend.makes-room" >>= fun _=>(updateSeq S (·.push .none) >>= fun _=>updateSeq S (·.pop)) >>= fun _=>again (.builtin "list.extend.loop" ⟨[.ref S,.ref x,.none],[]⟩)) _ _ _
 have hS₄:=dZ a₄.t.pre hSk
 refine wpAny_bind (wpAny_rule (wpAny_bind (wpAny_bind (C₄.at.turnL hS₄ hSl (ys:=[.d .none]) (f:=(·.push .none)) (Nat.le_of_ble_eq_true rfl) (fun h=>by rw[Array.toList_push]; exact h.append (.cons nB .nil)) fun s₅ a₅ =>
  (a₅.turnL hS₄ (List.getElem?_set_self (JX hSl)) (ys:=[]) (f:=(·.pop)) (Nat.zero_le _) (fun h=>?_) fun s₆ a₆=>wpAny_pure ⟨plainId_quiet F.plain_extend_loop _,?_⟩).2).2)))
 ·rw[Array.toList_pop]
  exact qJ (m:=fun l=>gH μ₄ l.dropLast []) h fun _ _=>.nil
 ·rw[List.set_set,s8 hSl]at a₆
  exact L3 (fun fr=>X fr fW) FN hck hC hit hA fuel he (C₄.go a₆) ⟨x,hxj₄,rfl⟩ hS₄ fun s₇ μ₇ e a₇=>⟨rfl,g _ _ _ (a₁.trans (a₃.trans (a₄.trans (a₆.trans a₇)))) (by subst e; exact⟨S,dZ a₇.t.pre hS₄,rfl⟩)⟩
end
noncomputable def qP(c:Nat):Str:=if j7 c then⟨#[92,c]⟩else⟨#[c]⟩
section
variable{prog:Program}{w:World}{A:Around}{E:Value→Shared→Prop}{s:Shared}
theorem N4{d:Addr}{f:Int→Option Value}{k:Int}{t:Tok}{Q:Value→Shared→Prop}(hm:s.heap.IntMap d f)(hf:f k=none)(hh:A.handled=none)
  (h:∀ h' tk e,Heap.NewExc s.heap h' e "KeyError" → E (.ref e) { s with heap:=h',toks:=tk }):wpAny (model prog w) A (getItem (.ref d) (.int k t)) Q E s:=by
 unfold getItem
 refine wpAny_holding ?_
 refine wpAny_bind (wpAny_sequenceKey hm.typeIs (by decide) ?_)
 refine wpAny_bind (wpAny_callSpecial?_slot (name:=Str.ofString "__getitem__") hm.typeIs slot_dict_getitem
  (wpAny_call_entry slot_dict_getitem hm.typeIs entry_dict_getitem ?_ (args_dict_getitem _ _)))
 show wpAny _ _ (dictGet d (.int k t) >>= _) _ _ s
 refine wpAny_bind (wpAny_dictGet_int hm ?_)
 rw[hf]
 show wpAny _ _ (Builtin.Dict.missed d (.int k t) >>= _) _ _ _
 refine wpAny_bind (wpAny_missed_int ?_)
 refine wpAny_bind (wpAny_typeOf (s:={ s with toks:=s.toks+1 }) hm.typeIs ?_)
 show wpAny _ _ (if(Value.type "dict" != Value.type "dict")=true then _ else _) _ _ _
 rw[if_neg (by decide)]
 exact wpAny_bind (wpAny_rule (wpAny_raise_newExc plainExc_KeyError hh fun h' e hn=>h h' _ e hn))
theorem UU{d:Addr}{f:Int→Option Value}{c:Nat}{x:Str}{tt:Tok}{Q:Builtin.Str.Mapped→Shared→Prop}(hm:s.heap.IntMap d f)(hf:f c=some (.str x tt))(h:∀ tk,Q (.text x) { s with toks:=tk }):wpAny (model prog w) A (Builtin.Str.tableLookup (.ref d) c) Q E s:=by
 unfold Builtin.Str.tableLookup
 refine wpAny_bind (wpAny_attempt (wpAny_bind (wpAny_mkInt (wpAny_getItem_intMap (s:={ s with toks:=_ }) hm hf ?_))))
 dsimp only
 have L1:∀ h,Looks (model prog w) h (asInt? (.str x tt)) none:=fun _=>Looks.of_pure (by kernel_rfl)
 have L2:∀ h,Looks (model prog w) h (asStr? (.str x tt)) (some x):=fun _=>Looks.of_pure (by kernel_rfl)
 refine wpAny_bind ((L1 _).here ?_)
 refine wpAny_bind ((L2 _).here ?_)
 exact wpAny_pure (h _)
theorem ED{d:Addr}{f:Int→Option Value}{c:Nat}{Q:Builtin.Str.Mapped→Shared→Prop}(hm:s.heap.IntMap d f)(hf:f c=none)(hh:A.handled=none)(h:∀ h' tk,(∀ b o,s.heap.get? b=some o→h'.get? b=some o)→Q .keep { s with heap:=h',toks:=tk }) :
  wpAny (model prog w) A (Builtin.Str.tableLookup (.ref d) c) Q E s:=by
 unfold Builtin.Str.tableLookup
 refine wpAny_bind (wpAny_attempt (wpAny_bind (wpAny_mkInt (N4 (s:={ s with toks:=_ }) hm hf hh fun h' tk e hn=>?_))))
 dsimp only
 obtain⟨ob,t0,he,hc,hd⟩:=hn.there
 refine wpAny_bind (wpAny_isInstance (T := "KeyError") ⟨ob,he,hc⟩ (b:=true) (by rw[isSubtype_type]; kernel_rfl) ?_)
 rw[if_pos rfl]
 exact wpAny_bind (wpAny_rule (wpAny_pure (h h' tk hn.keeps)))
theorem uG{d:Addr}{f:Int→Option Value}{c:Nat}{t0:Tok}{Q:Value→Shared→Prop}(hm:s.heap.IntMap d f)(hf:f c=if j7 c then(f c)else none)(hs:j7 c=true→∃ tt,f c=some (.str ⟨#[92,c]⟩ tt))(hh:A.handled=none)
  (h:∀ h' tk tt,(∀ b o,s.heap.get? b=some o→h'.get? b=some o)→Q (.str (qP c) tt) { s with heap:=h',toks:=tk }):wpAny (model prog w) A (call (.builtin "str.translate") [.str ⟨#[c]⟩ t0,.ref d]) Q E s:=by
 refine wpAny_call_entry F.slot_str_translate (typeIs_str _ _ _) F.entry_str_translate ?_ (F.args_str_translate_2 _ _)
 unfold Builtin.«str.translate»
 obtain⟨hp,g,dr,tk,os⟩:=s
 have hall:(#[c].all fun x=>decide (x<128))=decide (c<128):=by simp
 repeat lk
 rw[hall]
 have hgc:#[c][#[c].size - 1 - 0]=c:=rfl
 rw[hgc]
 cases hsp:j7 c with
 | true =>
  obtain⟨tt,hfc⟩:=hs hsp
  have hlt:c<128:=by
   exact(List.all_eq_true.mp (show([40,41,91,93,123,125,63,42,43,45,124,94,36,92,46,38,126,35,32,9,10,13,11,12].all fun c=>decide (c<128))=true from rfl) c (List.contains_iff_mem.mp hsp)|> of_decide_eq_true)
  rw[decide_eq_true hlt]
  repeat (first | with_reducible refine UU hm hfc (fun tk=>?_)| lk)
  have he:qP c=⟨#[92,c]⟩:=by unfold qP; rw[hsp]; rfl
  rw[he]at h
  exact⟨_,rfl,h _ _ _ fun _ _ e=>e⟩
 | false =>
  rw[hsp,if_neg (by decide)]at hf
  have he:qP c=⟨#[c]⟩:=by unfold qP; rw[hsp]; rfl
  rw[he]at h
  by_cases hlt:c<128
  ·rw[decide_eq_true hlt]
   repeat (first | with_reducible refine ED hm hf hh (fun h' tk hk=>?_)| lk)
   exact⟨_,rfl,h _ _ _ hk⟩
  ·rw[decide_eq_false hlt]
   repeat (first | with_reducible refine ED hm hf hh (fun h' tk hk=>?_)| lk)
   exact⟨_,rfl,h _ _ _ hk⟩
end
noncomputable def TK(k:Nat)(e:DictEntry):Bool:=m3 e.key fun j _=>j==(k:Int)&&(e.hash==hashInt k&&rQ e.val fun x _=>x==⟨#[92,k]⟩)
noncomputable def CM:List Nat→List DictEntry→Bool
 | [],es=>es.isEmpty
 | k::ks,es=>hM es fun e r=>TK k e&&CM ks r
noncomputable def sO(e:Data)(f:Array DictEntry→Nat→Bool):Bool:=if h:e.ctorIdx=3 then Data.dict.elim e h f else false
theorem EY{e:Data}{f:Array DictEntry→Nat→Bool}(h:sO e f=true):∃ a n,e = .dict a n∧f a n=true:=by
 by_cases c:e.ctorIdx=3
 ·exact Data.dict.elim (motive:=fun e=>sO e f=true→∃ a n,e = .dict a n∧f a n=true) e c (fun a n h=>⟨a,n,rfl,h⟩) h
 ·rw[sO,dif_neg c]at h; cases h
noncomputable def YX:List Nat:=[40,41,91,93,123,125,63,42,43,45,124,94,36,92,46,38,126,35,32,9,10,13,11,12]
theorem W5{k:Nat}{e:DictEntry}(h:TK k e=true):∃ t tt,e.key = .int k t∧e.val = .str ⟨#[92,k]⟩ tt∧e.hash=hashInt k:=by
 obtain⟨hs,ke,ve⟩:=e
 refine B3 (e:=ke) (m:=fun ke=>∃ t tt,ke = .int k t∧ve = .str ⟨#[92,k]⟩ tt∧hs=hashInt k) h fun j t h=>aB h fun h1 h=>B2 (e:=ve) (m:=fun ve=>∃ t' tt,Value.int j t = .int k t'∧ve = .str ⟨#[92,k]⟩ tt∧hs=hashInt k) (aA h).2 fun x tt h3=>⟨t,tt,by rw[eq_of_beq h1],by rw[eq_of_beq h3],eq_of_beq (aA h).1⟩
theorem wC(c:Nat):∀{ks:List Nat}{l:List DictEntry},CM ks l=true →
  (∀ e∈l,∃ k:Nat,∃ t,e.key = .int k t∧e.hash=hashInt k)∧(ks.contains c=false→(l.find? fun e=>Value.isInt c e.key).map (·.val)=none)∧(ks.contains c=true→∃ tt,(l.find? fun e=>Value.isInt c e.key).map (·.val)=some (.str ⟨#[92,c]⟩ tt))
 | [],l,h=>dE (m:=fun l:List DictEntry=>(∀ e∈l,∃ k:Nat,∃ t,e.key = .int k t∧e.hash=hashInt k)∧(_→(l.find? fun e=>Value.isInt c e.key).map (·.val)=none)∧(_→∃ tt,(l.find? fun e=>Value.isInt c e.key).map (·.val)=some (.str ⟨#[92,c]⟩ tt))) h ⟨fun _ h=>(nomatch h),fun _=>rfl,fun h=>(nomatch h)⟩
 | k::ks,l,h=>by
  apply cW h; intro e r h
  obtain⟨t,tt,h1,h2,h3⟩:=W5 (aA h).1
  obtain⟨i0,i1,i2⟩:=wC c (aA h).2
  have hi:Value.isInt c e.key=(c==k):=by
   rw[h1]
   show((k:Int)==(c:Int))=_
   by_cases e:c=k
   ·subst e; rw[beq_self_eq_true,beq_self_eq_true]
   ·rw[beq_false_of_ne e]; exact beq_false_of_ne fun h=>e (Int.ofNat.inj h).symm
  rw[List.find?_cons,hi,List.contains_cons]
  refine⟨fun e' he=>(List.mem_cons.mp he).elim (fun e=>e▸⟨k,t,h1,h3⟩) (i0 e'),?_⟩
  by_cases e':c=k
  ·subst e'
   rw[beq_self_eq_true]
   exact⟨fun h=>(nomatch h),fun _=>⟨tt,congrArg some h2⟩⟩
  ·rw[beq_false_of_ne e']
   exact⟨i1,i2⟩
noncomputable def K2(K:Frag):Bool:=gT (eK K "_special_chars_map") fun v=>hZ v fun d=>gT (K.lookup d) fun o=>o.cls == .type "dict" && sO o.data fun es _=>CM YX es.toList
section
variable{D:OD}{sc:Scope}{K:Frag}{fuel:Nat}
theorem Q0{c:Nat}(h:bL (.str ⟨#[c]⟩)=true):bL (.str (qP c))=true:=by
 have h1:=(yZ h).1
 have h92:PyData.strOk ⟨#[92]⟩=true:=by kernel_rfl
 unfold qP
 by_cases hs:j7 c=true
 ·rw[if_pos hs]
  exact b7 (x:=⟨#[92]⟩) (y:=⟨#[c]⟩) (zD h92 (by decide)) h (Nat.le_of_ble_eq_true rfl)
 ·rw[if_neg hs]; exact h
theorem Cl{p apos pos:Pos}{x:Expr}(hX:D.Ex fuel)(hK:∀ h,D.Z.TabI h→K.In h)(hK0:K.In D.Z.h₀)(hok:K2 K=true)(hg:aM sc "_special_chars_map" = true)(hx:jP D.nm sc 0 x=true)(hline:(apos.endLine==pos.line)=true) :
  cF D sc (.Call (.Attribute x "translate" apos) [.Name "_special_chars_map" p] [] pos) (.ext 6):=fun{A env ρ μ st s v st' Q E}C he g =>
 IT ((congrFun (congrFun (congrFun hX 6) ρ) st).symm.trans he) fun xs h1 he=>SV he fun c ec he=>by
 subst ec
 cases he
 obtain⟨ox,stx,c0⟩:=sF hx
 obtain⟨w,hd,hok⟩:=eG hok
 obtain⟨d,rfl,hok⟩:=mI hok
 obtain⟨o,hl,hok⟩:=eG hok
 obtain⟨es,ep,hdd,hm⟩:=EY (aA hok).2
 refine wpAny_Call_method_lateS (aS c0 _ _ _) (iW (aQ rfl) (Nat.le_of_ble_eq_true rfl)) hline (ox C (sK h1) fun w s₁ μ₁ a₁ hw=>?_)
 obtain⟨t,rfl,hokc⟩:∃ t,w = .str ⟨#[c]⟩ t∧bL (.str ⟨#[c]⟩)=true:=OR (m:=fun w=>∃ t,w = .str ⟨#[c]⟩ t∧bL (.str ⟨#[c]⟩)=true) hw fun t ok=>⟨t,rfl,ok⟩
 refine⟨"str",_,F.plainAttrs_str,F.slot_str_translate,F.type_str_translate,typeIs_str _ _ _,nofun,aR nofun ((aQ rfl).1 env pos) (bJ ((aQ rfl).2.1 nofun env pos) ?_)⟩
 rw[bC rfl]
 refine Calls.spliced_cons ((C.go a₁).glob hg (eP hK0 hd) (Calls.spliced_nil ?_))
 obtain⟨f0,f1,f2⟩:=wC c hm
 have hfb:findBy Value.isInt es (c:Int)=(es.toList.find? fun e=>Value.isInt c e.key).map (·.val):=by unfold findBy; rw[← Array.find?_toList]
 refine uG (f:=fun k=>findBy Value.isInt es k) ⟨o,es,ep,hK _ a₁.i.tab _ _ hl,eq_of_beq (aA hok).1,hdd,fun e he=>?_,fun _=>rfl⟩ ?_ (fun h=>by rw[hfb]; exact f2 h) C.ha.handled fun h' tk tt hk=>g _ _ _ (a₁.kp (a₁.i.full (tk:=tk) hk) (.of hk)) (mG (Q0 hokc))
 ·obtain⟨k,t,h1,h2⟩:=f0 e (Array.mem_toList_iff.mpr he)
  exact⟨_,_,h1,h2⟩
 ·rw[hfb]
  cases hs:j7 c with
  | true=>rfl
  | false=>exact(f1 hs)
end
end Kt.Internal
end
section
open PySem PySem.W PyProof.Rows PySem.Calls Builtin Builtin.Re
namespace Kt.Internal
theorem pI{m:Nat→Prop}{c:Nat}(h:iS c=true)(h1:m 97∧m 39∧m 91∧m 32∧m 34∧m 42∧m 92∧m 93∧m 63∧m 35∧m 45∧m 98∧m 33)(h2:∀ k,m (k+256)):m c:=by
 refine(Bool.or_eq_true_iff.mp h).elim (fun h=>?_) fun h=>Nat.sub_add_cancel (of_decide_eq_true h)▸h2 (c - 256)
 obtain⟨a1,a2,a3,a4,a5,a6,a7,a8,a9,b1,b2,b3,b4⟩:=h1
 have key:∀ c∈[97,39,91,32,34,42,92,93,63,35,45,98,33],m c:=by
  simp only[List.forall_mem_cons]
  exact⟨a1,a2,a3,a4,a5,a6,a7,a8,a9,b1,b2,b3,b4,fun _ h=>nomatch h⟩
 exact key c (List.contains_iff_mem.mp h)
theorem Q1{y:Nat}(h:iS y=true):Builtin.Str.occurrences ⟨#[y]⟩ "'" 0 1 2=bif y==39 then [0]else [] :=
 pI (m:=fun y=>Builtin.Str.occurrences ⟨#[y]⟩ "'" 0 1 2=bif y==39 then [0]else []) h (by refine⟨?_,?_,?_,?_,?_,?_,?_,?_,?_,?_,?_,?_,?_⟩ <;> kernel_rfl) fun k=>by kernel_rfl
noncomputable def rI(c:Nat):Str:=bif c==39 then "'\"'\"'" else⟨#[c]⟩
theorem ID{prog:Program}{w:World}{A:Around}{R:Result→Shared→Prop}{s:Shared}{c:Nat}{t t1:Tok}(hsg:iS c=true)(h1:(t1==0)=false)(h:∀ tk tk',R (.ok (.ret (.str (rI c) tk))) { s with toks:=tk' }):codeAny (model prog w) A (.call (.builtin "str.replace") ⟨[.str ⟨#[c]⟩ t,.str "'" t1,.str "'\"'\"'" (t1+1)],[]⟩) R s:=by
 have ho:Builtin.Str.occurrences ⟨#[c]⟩ "'" 0 (Str.length ⟨#[c]⟩) (Str.length ⟨#[c]⟩+1)=_:=Q1 hsg
 refine codeAny_call_builtin F.slot_str_replace.plain F.entry_str_replace (F.slot_str_replace.check _ _ _ _ _ _ _ _ (typeIs_str _ _ _) (F.args_str_replace_3 _ _ _) (gives_str_replace ⟨#[c]⟩ "'" "'\"'\"'" t t1 (t1+1) (fun h=>?_) _ _ _ _ _ ?_))
 ·rw[ho]at h ⊢
  cases hy:c==39 with
  | true=>exact⟨by rw[h1]; rfl,beq_false_of_ne (Nat.ne_of_lt (Nat.lt_succ_self _)),by decide,by kernel_rfl⟩
  | false=>rw[hy]at h; cases h
 ·rw[ho]
  unfold rI at h
  cases hy:c==39 with
  | true=>rw[hy]at h; exact⟨by show 5≤_; decide,h _ _⟩
  | false=>rw[hy]at h; exact h _ _
theorem XG{t:Str}{e:Expr}{m:Expr→Prop}(h:WT t e=true)(k:∀ a p,m (.Constant (.str t) a p)):m e:=bX h fun c a p h=>bZ (m:=fun c=>m (.Constant c a p)) h (k a p)
noncomputable def zQ:List Nat:=[14,14,4,1,1,9,0,64,0,1342177280,0,0,0,0,0,17,0,13,11,9,0,64,0,1342177280,0,0,0,0,0,17,1,1]
noncomputable def TY:List Nat→(Nat→Tok)→List Value
 | [],_=>[]
 | n::ns,τ=>.int n (τ 0)::TY ns fun i=>τ (i+1)
noncomputable abbrev oW(a0 a1 a3 a4:Value)(g:Int)(k2 k6:Tok)(t:Addr)(dd:Option Addr)(sl:Array (Option Value)):Obj:={ cls:=.type "re.Pattern",dict:=dd,data:=.fields #[a0,a1,.int g k2,a3,a4,.ref t,.int 0 k6],slots:=sl }
noncomputable abbrev sH(items:Array Value)(n:Nat)(dd:Option Addr)(sl:Array (Option Value)):Obj:={ cls:=.type "tuple",dict:=dd,data:=.seq items n,slots:=sl }
noncomputable abbrev UA:Obj:={ cls:=.type "tuple",data:=.seq #[rawInt 0,rawInt 1] }
noncomputable abbrev UB(x:Value)(p:Addr)(t:Addr):Obj:={ cls:=.type "re.Match",data:=.fields #[x,.ref p,rawInt 0,rawInt 1,rawInt (-1),.ref t] }
theorem BF{α:Type}{l:List α}{f:α→List α→Bool}(h:hM l f=true):∃ a r,l=a::r∧f a r=true:=cW (m:=fun l=>∃ a r,l=a::r∧f a r=true) h fun a r h=>⟨a,r,rfl,h⟩
theorem XZ{α:Type}{l:List α}{f:α→Bool}(h:fJ l f=true):∃ a,l=[a]∧f a=true:=cB (m:=fun l=>∃ a,l=[a]∧f a=true) h fun a h=>⟨a,rfl,h⟩
theorem B4{e:Value}{f:Int→Tok→Bool}(h:m3 e f=true):∃ a b,e = .int a b∧f a b=true:=B3 (m:=fun e=>∃ a b,e = .int a b∧f a b=true) h fun a b h=>⟨a,b,rfl,h⟩
noncomputable def UF:List Nat→List Value→Bool
 | [],vs=>vs.isEmpty
 | n::ns,vs=>hM vs fun v r=>m3 v (fun i _=>i==(n:Int))&&UF ns r
theorem FD:∀{ns:List Nat}{vs:List Value},UF ns vs=true→∃ τ,vs=TY ns τ
 | [],_,h=>⟨fun _=>0,List.isEmpty_iff.mp h⟩
 | n::ns,vs,h=>by
  obtain⟨v,r,e,h⟩:=BF h
  obtain⟨i,t,ev,hi⟩:=B4 (aA h).1
  obtain⟨τ,er⟩:=FD (aA h).2
  exact⟨fun i=>Nat.casesOn i t τ,by rw[e,ev,eq_of_beq hi,er]; rfl⟩
noncomputable def S0(K:Frag)(p:Addr)(g:Int)(code:List Nat):Bool:=gT (K.lookup p) fun o=>o.cls == .type "re.Pattern" && (o.dict.isNone&&iB o.data fun fs=>hM fs.toList fun _ r=>hM r fun _ r=>hM r fun v r=>m3 v (fun i _=>i==g)&&(hM r fun _ r=>hM r fun _ r=>hM r fun t r =>
 (fJ r fun v=>m3 v fun k _=>k==0)&&hZ t fun t=>gT (K.lookup t) fun o=>o.cls == .type "tuple" && DV o.data fun items=>UF code items.toList))
theorem VX{K:Frag}{p:Addr}{g:Int}{code:List Nat}(h:S0 K p g code=true){G:Prop}(go:∀{a0 a1 a3 a4:Value}{k2 k6:Tok}{t:Addr}{sl:Array (Option Value)}{τ:Nat→Tok}{n:Nat}{dd3:Option Addr}{sl3:Array (Option Value)},K.lookup p=some (oW a0 a1 a3 a4 g k2 k6 t none sl)→K.lookup t=some (sH (TY code τ).toArray n dd3 sl3)→G):G:=by
 obtain⟨⟨oc,od,oda,osl⟩,e,h⟩:=eG h
 obtain⟨h1,h⟩:=aA h
 obtain⟨h2,h⟩:=aA h
 obtain⟨⟨fs⟩,h3,h⟩:=vQ h
 obtain⟨a0,r0,e0,h⟩:=BF h
 obtain⟨a1,r1,e1,h⟩:=BF h
 obtain⟨v,r2,e2,h⟩:=BF h
 obtain⟨h4,h⟩:=aA h
 obtain⟨i,k2,ei,h4⟩:=B4 h4
 obtain⟨a3,r3,e3,h⟩:=BF h
 obtain⟨a4,r4,e4,h⟩:=BF h
 obtain⟨t,r5,e5,h⟩:=BF h
 obtain⟨h5,h⟩:=aA h
 obtain⟨k,e6,h5⟩:=XZ h5
 obtain⟨k,k6,ek,h5⟩:=B4 h5
 obtain⟨t,et,h⟩:=mI h
 obtain⟨⟨pc,pd,pda,psl⟩,e',h⟩:=eG h
 obtain⟨h6,h⟩:=aA h
 obtain⟨⟨items⟩,n,h7,h⟩:=V5 h
 obtain⟨τ,hτ⟩:=FD h
 refine go (a0:=a0) (a1:=a1) (a3:=a3) (a4:=a4) (k2:=k2) (k6:=k6) (t:=t) (sl:=osl) (τ:=τ) (n:=n) (dd3:=pd) (sl3:=psl) ?_ ?_
 ·have h1:oc=_:=eq_of_beq h1
  have h2:od=none:=Option.isNone_iff_eq_none.mp h2
  have h3:oda=_:=h3
  have e0:fs=_:=e0
  rw[e,h1,h2,h3,e0,e1,e2,ei,eq_of_beq h4,e3,e4,e5,et,e6,ek,eq_of_beq h5]
 ·have h6:pc=_:=eq_of_beq h6
  have h7:pda=_:=h7
  have hτ:items=_:=hτ
  rw[e',h6,h7,hτ]
def gY(P:Addr)(lp:Nat×Nat)(h:Heap):Prop:=∃ ps,h.get? P=some (tabObj ps)∧(ps=#[]∨∃ cv,ps=#[rawInt lp.1,rawInt lp.2,cv])
structure gK(Z:aE)(K:Frag)(c P:Addr)(lp:Nat×Nat):Prop where
 hd:CodeHd Z.h₀ c P
 tab₀:Z.h₀.get? P=some (tabObj #[])
 out:K.lookup P=none
 ne:P≠mainGlobals∧P≠cStatics
 bm:Z.h₀.BuiltinsAt Z.mg P
 tab:∀ h,Z.TabI h→gY P lp h
 tabI:∀ h h':Heap,Z.TabI h→(∀ b o,b≠P→h.get? b=some o→h'.get? b=some o)→gY P lp h'→Z.TabI h'
section
variable{D:OD}{sc:Scope}{K:Frag}{c P:Addr}{A:Around}{env:Env}{ρ:LO}{μ:List Addr}{st:St}{s:Shared}
theorem pN{h₀ h:Heap}(x:CodeHd h₀ c P)(g:∀ o,c≠P→o.cls ≠ .none→h₀.get? c=some o→h.get? c=some o):CodeHd h c P:=by
 obtain⟨_,vs,file,tf,flags,tg,inF,text,tt,e,hc,r⟩:=x
 exact⟨_,vs,file,tf,flags,tg,inF,text,tt,g _ r.2.2.2.2.2.2.2 (by rw[hc]; nofun) e,hc,r⟩
theorem CS{h₀ h:Heap}{mg:Str→Option Value}(x:h₀.BuiltinsAt mg P)(o:OldK h₀ h):h.BuiltinsAt mg P :=
 by obtain⟨bm,ob,h1,h2,h3,h4,h5,h6,r⟩:=x; exact⟨bm,ob,h1,h2,h3,h4,o.get_of_cls h5 (by rw[h6]; nofun),h6,r⟩
theorem gK.inv{Z:aE}{lp:Nat×Nat}(LK:gK Z K c P lp)(hI:aZ Z s){s':Shared}(hk:∀ b o,b≠P→s.heap.get? b=some o→s'.heap.get? b=some o)(hold:OldK Z.h₀ s'.heap)(hlt:gY P lp s'.heap)(hg:AllBare s'.gens)(hos:s'.os=s.os):aZ Z s':=by
 refine⟨hold,?_,LK.tabI _ _ hI.tab hk hlt,hg,hos.trans hI.os,fun L hL=>?_⟩
 ·obtain⟨mc,⟨o',es,ep,e,r⟩,b⟩:=hI.lim
  exact⟨mc,⟨o',es,ep,hk _ _ LK.ne.2.symm e,r⟩,b⟩
 ·obtain⟨h1,o',e,hd'⟩:=hI.frs L hL
  exact⟨h1,o',hk L o' (fun e'=>Nat.lt_irrefl _ (Nat.lt_of_lt_of_le (Heap.lt_size LK.tab₀) (e'▸h1))) e,hd'⟩
theorem gY.keeps{lp:Nat×Nat}{h h':Heap}(x:gY P lp h)(hk:∀ b o,h.get? b=some o→h'.get? b=some o):gY P lp h':=x.imp fun _ x=>x.imp_left (hk _ _)
theorem AM{lp:Nat×Nat}(LK:gK D.Z K c P lp)(C:Oc D sc A env ρ μ st s){Q:Value→Shared→Prop}(hQ:∀ f s' o,dF D.Z D.cA jK μ s.heap μ st s'→s'.heap.get? f=some o→o.cls = .type "function" → f∉μ→Q (.ref f) s')
  {h':Heap} {tk:Nat} {o:Obj} (hc:o.cls = .type "function") (hsz:s.heap.objs.size≤h'.objs.size) (hfr:o.isFreed=false) (hx:Heap.ExtBut P s.heap h') (hold:OldK D.Z.h₀ h') (hlt:gY P lp h'):Q (.ref h'.objs.size) { s with heap:=h'.push o,toks:=tk }:=by
 have hI:=C.hi
 have hPn:P<D.Z.n:=Heap.lt_size LK.tab₀
 have hk:∀ b o',b≠P→s.heap.get? b=some o'→(h'.push o).get? b=some o':=fun b o' hb e=>Heap.get?_push_of_some _ (hx b o' hb e)
 have hP:∀ a,D.Z.n≤a→a≠P:=fun a ha e=>Nat.lt_irrefl _ (Nat.lt_of_lt_of_le (e▸hPn) ha)
 have hnew:∀ o',s.heap.get? h'.objs.size≠some o':=fun o' e=>Nat.lt_irrefl _ (Nat.lt_of_lt_of_le (Heap.lt_size e) hsz)
 have hkp:∀ b o',h'.get? b=some o'→(h'.push o).get? b=some o':=fun _ _ e=>Heap.get?_push_of_some _ e
 refine hQ _ _ o ⟨LK.inv hI hk (hold.step_keeps hkp) (hlt.keeps hkp) hI.gens rfl,⟨List.prefix_rfl,fun b o' e hb _ _=>.inl (hk b o' (fun e'=>?_) e),fun _ h hn=>absurd h hn⟩,
  ⟨C.so.len,C.so.nd,C.so.hi,fun k a f h1 h2=>(C.so.at_ k a f h1 h2).sl List.prefix_rfl fun o' e=>.inl (hk a o' (hP a (C.so.hi a (List.mem_of_getElem? h1)).1) e)⟩⟩ (Heap.get?_push_size _ hfr) hc fun hm=>let⟨o',e⟩:=C.so.live _ hm; hnew o' e
 obtain⟨ps,e2,_⟩:=LK.tab _ hI.tab
 rw[e',e2]at e
 cases e
 exact hb.elim (fun h=>h rfl) fun h=>hP b h e'
theorem IC{lp:Nat×Nat}{params:Arguments}{body:Expr}{lsc:Scope}{pos:Pos}{n:Str}(LK:gK D.Z K c P lp)(hp:pos.line=lp.1∧pos.col=lp.2)(hn:lsc.names=[(n,.local)])(hd:params.defaults=[])(hd':params.kw_defaults=[]){Q E:Value→Shared→Prop}
  (hl:D.Z.lam = .ref c) (hnm:D.nm.length=14) (C:Oc D sc A env ρ μ st s) (hQ:∀ f s' o,dF D.Z D.cA jK μ s.heap μ st s'→s'.heap.get? f=some o→o.cls = .type "function" → f∉μ→Q (.ref f) s') :
  wpAny (model D.Z.prog D.Z.w) A (eval (.Lambda params body lsc pos) env) Q E s:=by
 have hI:=C.hi
 have hcode:env.code = .ref c:=(C.he.lam hnm).trans hl
 obtain⟨ps,hP,hps⟩:=LK.tab _ hI.tab
 have CH:=pN LK.hd fun _ _ hc e=>hI.old.get_of_cls e hc
 have hclo:closureFor lsc env=pure []:=by unfold closureFor; rw[hn]; rfl
 refine kla_eval (show defaultsOf params env=([],[])from by cases params; cases hd; cases hd'; rfl) ?_
 rcases hps with rfl | ⟨cv,rfl⟩
 ·refine kla_makeFunction (mg:=D.Z.mg) hclo C.he.glob hI.glob hcode CH hP (by simp[TriplesOk]) rfl LK.ne.1.symm (CS LK.bm hI.old) fun c' ctv h' tk hx hge hlt hrec htb=>?_
  have CX:CodeHd h' c P:=pN CH fun _ hn _ e=>hx _ _ hn e
  exact AM LK C hQ (tk:=tk) rfl (Nat.le_trans hge (Nat.le_of_lt hlt)) rfl hx (hI.old.step_table (LK.hd.tab LK.tab₀) (CH.tab hP) (CX.tab htb) hx LK.ne.2) ⟨_,htb,.inr ⟨.ref c',by rw[hp.1,hp.2]; rfl⟩⟩
 ·refine kla_makeFunctionHit (mg:=D.Z.mg) (cv:=cv) hclo C.he.glob hI.glob hcode CH hP ?_ ?_ (CS LK.bm hI.old) fun ctv h' tk hk hsz=>AM LK C hQ (tk:=tk) rfl hsz rfl (fun b o _ e=>hk b o e) (hI.old.step_keeps hk) ⟨_,hk _ _ hP,.inr ⟨cv,rfl⟩⟩
  ·simp[TriplesOk,rawInt]
  ·simp[codeAmong,rawInt,hp.1,hp.2]
end
theorem G9:PlainAttrs "re.Pattern" :=
 ⟨⟨"object.__getattribute__",by rw[typeLookup_type,builtinLookup_eq_fast]; kernel_rfl,by decide +kernel⟩,by rw[typeLookup_type,builtinLookup_eq_fast]; kernel_rfl⟩
theorem MH:Slot "re.Pattern" "sub" "re.Pattern.sub" :=
 .of (owner := "re.Pattern") (n := "sub") (by rw[typeLookup_type,builtinLookup_eq_fast]; kernel_rfl) (by decide +kernel) (by decide +kernel) (by decide +kernel)
  (by first | exact .inl (by decide +kernel)| exact .inr (by decide +kernel)) (by rw[isSubtype_type]; kernel_rfl)
theorem LX:typeOf (.builtin "re.Pattern.sub")=pure (.type "method_descriptor"):=by show builtinType _=_; rw[builtinType_eq_fast]; kernel_rfl
noncomputable abbrev dB(l:Array Value)(n:Nat):Obj:={ cls:=.type "list",data:=.seq l n }
noncomputable abbrev JY(od:Option Addr)(oda:Data)(osl:Array (Option Value)):Obj:={ cls:=.type "function",dict:=od,data:=oda,slots:=osl }
noncomputable def BE(h:Heap)(v:Value):Heap:=(h.push (dB #[] 0)).update h.objs.size (Obj.mapSeq fun x=>PySem.W.Fast.tw2398297429280069960 x v)
def Cr(R:Result→Shared→Prop)(s:Shared)(p f t:Addr)(op of ot:Obj)(c:Nat)(tk:Tok):Prop :=
 s.heap.get? p=some op∧qb "re.Pattern.sub" [.ref p,.ref f,.str ⟨#[c]⟩ tk]∧s.heap.get? f=some of∧s.heap.get? p=some op∧s.heap.get? t=some ot ∧
  qb "re.Pattern.sub.loop" [.ref p,.str ⟨#[c]⟩ tk,.ref f,rawInt 1,rawInt 0,rawInt 0,rawInt 0,rawInt 0,.bool false,.ref s.heap.objs.size,.bool false] ∧
  (s.heap.push (dB #[] 0)).get? p=some op∧(s.heap.push (dB #[] 0)).get? t=some ot∧(s.heap.push (dB #[] 0)).get? s.heap.objs.size=some (dB #[] 0) ∧
  (((s.heap.push (dB #[] 0)).get? s.heap.objs.size).isSome=true∧Frag.In [] (BE s.heap (.str ⟨#[c]⟩ s.toks))) ∧
  (BE s.heap (.str ⟨#[c]⟩ s.toks)).get? s.heap.objs.size=some (dB #[.str ⟨#[c]⟩ s.toks] 1)∧(BE s.heap (.str ⟨#[c]⟩ s.toks)).get? s.heap.objs.size=some (dB #[.str ⟨#[c]⟩ s.toks] 1) ∧
  qb "str.join" [.str ⟨#[]⟩ (s.toks+1),.ref s.heap.objs.size] ∧
  (BE s.heap (.str ⟨#[c]⟩ s.toks)).get? s.heap.objs.size=some (dB #[.str ⟨#[c]⟩ s.toks] 1)∧(BE s.heap (.str ⟨#[c]⟩ s.toks)).get? s.heap.objs.size=some (dB #[.str ⟨#[c]⟩ s.toks] 1) ∧
  R (.ok (.ret (.str ⟨#[c]⟩ s.toks))) { s with heap:=BE s.heap (.str ⟨#[c]⟩ s.toks),toks:=s.toks+1+1 }
theorem U2{S:Setting}{R:Result→Shared→Prop}{s:Shared}{p f t:Addr}{sl2 sl3 osl:Array (Option Value)}{a0 a1 a3 a4:Value}{k2 k6:Tok}{dd3 od:Option Addr}{oda:Data}{τ:Nat→Tok}{n c:Nat}{tk:Tok}(hc:(c==42||c==63||c==91)=true) :
  DQ D0 [] S 9 (.call (.builtin "re.Pattern.sub") ⟨[.ref p,.ref f,.str ⟨#[c]⟩ tk],[]⟩) (fun r _ s=>R r s) [(0,oW a0 a1 a3 a4 1 k2 k6 t none sl2),(0,JY od oda osl),(0,oW a0 a1 a3 a4 1 k2 k6 t none sl2),(0,sH (TY zQ τ).toArray n dd3 sl3),(0,oW a0 a1 a3 a4 1 k2 k6 t none sl2),(0,sH (TY zQ τ).toArray n dd3 sl3),
   (0,dB #[] 0),(0,dB #[.str ⟨#[c]⟩ s.toks] 1),(0,dB #[.str ⟨#[c]⟩ s.toks] 1),(0,dB #[.str ⟨#[c]⟩ s.toks] 1),(0,dB #[.str ⟨#[c]⟩ s.toks] 1)] s=Cr R s p f t (oW a0 a1 a3 a4 1 k2 k6 t none sl2) (JY od oda osl) (sH (TY zQ τ).toArray n dd3 sl3) c tk:=by
 rcases Bool.or_eq_true_iff.mp hc with h | h
 ·rcases Bool.or_eq_true_iff.mp h with h | h <;> (cases eq_of_beq h; kernel_rfl)
 ·cases eq_of_beq h; kernel_rfl
theorem OM{prog:Program}{w:World}{A:Around}{E:Value→Shared→Prop}{s:Shared}{p f t:Addr}{sl2 sl3 osl:Array (Option Value)}{a0 a1 a3 a4:Value}{k2 k6:Tok}{dd3 od:Option Addr}{oda:Data}{τ:Nat→Tok}{n c:Nat}{tk:Tok}{Q:Value→Shared→Prop}(hh:A.handled=none)
  (hp:s.heap.get? p=some (oW a0 a1 a3 a4 1 k2 k6 t none sl2)) (ht:s.heap.get? t=some (sH (TY zQ τ).toArray n dd3 sl3)) (hf:s.heap.get? f=some (JY od oda osl)) (hc:(c==42||c==63||c==91)=true)
  (h:∀ h' tk tk',(∀ b o,s.heap.get? b=some o→h'.get? b=some o)→Q (.str ⟨#[c]⟩ tk) { s with heap:=h',toks:=tk' }) :
  wpAny (model prog w) A (call (.builtin "re.Pattern.sub") [.ref p,.ref f,.str ⟨#[c]⟩ tk]) Q E s:=by
 have hl:(s.heap.push (dB #[] 0)).get? s.heap.objs.size=some (dB #[] 0):=Heap.get?_push_size _ rfl
 have h2:(BE s.heap (.str ⟨#[c]⟩ s.toks)).get? s.heap.objs.size=some (dB #[.str ⟨#[c]⟩ s.toks] 1):=Heap.get?_update_self _ hl rfl
 exact wpAny_call (JQ (K:=[]) 9 _ _ hh (fun _ _ h=>nomatch h) (U2 hc) ⟨hp,Code.quiet_builtin _ (by decide +kernel),hf,hp,ht,Code.quiet_builtin _ (by decide +kernel),Heap.get?_push_of_some _ hp,Heap.get?_push_of_some _ ht,hl,⟨by rw[hl]; rfl,fun _ _ h=>nomatch h⟩,h2,h2,Code.quiet_builtin _ (by decide +kernel),h2,h2,
  h _ _ _ fun b o e=>(Heap.get?_update_other _ _ fun e'=>by rw[← e',get?_ge (Nat.le_refl _)]at e; cases e).trans (Heap.get?_push_of_some _ e)⟩)
noncomputable def K3(K:Frag):Bool:=gT (eK K "twin_re_1_fnmatch") fun v=>hZ v fun p=>S0 K p 1 zQ
section
variable{D:OD}{sc:Scope}{K:Frag}{c P:Addr}{lp:Nat×Nat}{fuel:Nat}
theorem Cm{p apos pos q:Pos}{x body:Expr}{a:Arguments}{lsc:Scope}{nn:Str}(hX:D.Ex fuel)(hK:∀ h,D.Z.TabI h→K.In h)(hK0:K.In D.Z.h₀)(LK:gK D.Z K c P lp)(hl:D.Z.lam = .ref c)(hok:K3 K=true)(hg:aM sc "twin_re_1_fnmatch" = true)(hx:jP D.nm sc 9 x=true)(hline:(apos.endLine==pos.line)=true)
  (hnm:D.nm.length=14) (hd:a.defaults=[]) (hd':a.kw_defaults=[]) (hq:q.line=lp.1∧q.col=lp.2) (hone:lsc.names=[(nn,.local)]) :
  cF D sc (.Call (.Attribute (.Name "twin_re_1_fnmatch" p) "sub" apos) [.Lambda a body lsc q,x] [] pos) (.ext 5):=fun{A env ρ μ st s v st' Q E}C he g =>
 IT ((congrFun (congrFun (congrFun hX 5) ρ) st).symm.trans he) fun xs h1 he=>SV he fun d ec he=>hY (show(if(d==42||d==63||d==91)=true then some (OV.d (.str ⟨#[d]⟩),st)else none)=some (v,st')from he) fun hsg he2=>by
 subst ec
 cases he2
 obtain⟨ox,stx,_⟩:=sF hx
 obtain⟨w,hp,hok⟩:=eG hok
 obtain⟨pp,rfl,hok⟩:=mI hok
 refine VX hok fun g1 g2=>?_
 have hpl:aX [.Lambda a body lsc q,x]:=iG rfl stx
 have XK:=hK _ C.hi.tab
 refine wpAny_Call_method_lateS (aS rfl _ _ _) (iW hpl (Nat.le_of_ble_eq_true rfl)) hline (C.glob hg (eP hK0 hp) ⟨"re.Pattern",_,G9,MH,LX,⟨_,XK _ _ g1,rfl⟩,fun b e=>by cases e; exact⟨_,XK _ _ g1,rfl⟩,aR nofun (hpl.1 env pos) (bJ (hpl.2.1 nofun env pos) ?_)⟩)
 rw[bC rfl]
 show wpAny _ A (spliced ((false,eval (.Lambda a body lsc q) env)::backTo pos (starEach [x] env))) _ _ _
 refine Calls.spliced_cons (IC LK hq hone hd hd' hl hnm C fun f s₁ of a₁ hf hfc hfd=>?_)
 refine bR stx ox cY (C.go a₁) (uM (sK h1)) fun vs s₂ μ₂ a₂ hvs=>qJ (m:=fun vs=>wpAny _ A (call (.builtin "re.Pattern.sub") (.ref pp :: .ref f::vs)) Q E s₂) hvs fun w hw=>?_
 obtain⟨tk,rfl,hok2⟩:∃ t,w = .str ⟨#[d]⟩ t∧bL (.str ⟨#[d]⟩)=true:=OR (m:=fun w=>∃ t,w = .str ⟨#[d]⟩ t∧bL (.str ⟨#[d]⟩)=true) hw fun t ok=>⟨t,rfl,ok⟩
 have XK2:=hK _ a₂.i.tab
 obtain⟨⟨oc,od,oda,osl⟩,e',hcl,_⟩:=(a₂.t.keep f of hf (.inl (by rw[hfc]; nofun)) hfd id).ex
 have hcl:oc=_:=hcl.trans hfc
 exact OM C.ha.handled (XK2 _ _ g1) (XK2 _ _ g2) (hcl▸e') hsg fun h' tk1 tk2 hk=>g _ _ μ₂ ((a₁.trans a₂).kp (a₂.i.full (tk:=tk2) hk) (.of hk)) (mG hok2)
end
theorem gK.at{Z:aE}{K:Frag}{c P:Addr}{lp:Nat×Nat}(x:gK Z K c P lp)(fr:List Addr):gK (Z.at fr) K c P lp:={ x with }
noncomputable def TH(K:Frag):Bool:=eK K "deque" == some (.type "collections.deque")&&((gT (eK K "shlex") fun v=>hZ v fun a=>keepIn K (.ref a))&&(CG K (pP K) (lY K)&&(K3 K&&K2 K)))
theorem XD{m:Nat→Prop}(h0:m 0)(h1:m 1)(h2:m 2)(h3:m 3)(h4:m 4)(h5:m 5)(h6:m 6)(h7:m 7)(h:∀ n,m (n+8)):∀ n,m n
 | 0=>h0 | 1=>h1 | 2=>h2 | 3=>h3 | 4=>h4 | 5=>h5 | 6=>h6 | 7=>h7 | n+8=>h n
theorem T8{sc:Scope}{e:Expr}{n:Str}{f:List Expr→Bool}{m:Expr→Prop}(h:At sc e n f=true)(k:∀ as(p pos:Pos),aM sc n=true→f as=true→m (.Call (.Name n p) as [] pos)):m e:=by
 apply DW h; intro n' as p pos h
 refine aB h fun z h=>?_; apply bZ z
 exact k as p pos (aA h).1 (aA h).2
theorem WI{Z:aE}{K:Frag}{c P:Addr}{lp:Nat×Nat}{fuel:Nat}(hK:∀ h,Z.TabI h→K.In h)(hK0:K.In Z.h₀)(hlam:Z.lam=qO K)(hB:fZ Z)(hb2:u9 K (pP K))(LK:gK Z K c P lp)(hl0:Z.lam = .ref c)(h:TH K=true) :
  sY Z (pP K) (lY K) (XN lp) (eI fuel):=fun cl lvl hC fr nm j=>aB h fun d0 h=>aB h fun d1 h=>aB h fun d2 h=>aB h fun d5 d6=>by
 have hX:OD.Ex ⟨Z.at fr,pP K,cl,eI fuel cl,lvl+1,nm⟩ fuel:=rfl
 refine XD (m:=fun j=>∀ sc e,XN lp nm j sc e=true→cF ⟨Z.at fr,pP K,cl,eI fuel cl,lvl+1,nm⟩ sc e (.ext j)) (fun sc e h=>?_) (fun sc e h=>?_) (fun sc e h=>?_) (fun sc e h=>?_) (fun sc e h=>?_) (fun sc e h=>?_) (fun sc e h=>?_) (fun sc e h=>?_) (fun n sc e h=>?_) j
 ·apply T8 h; intro as p pos hg h
  apply dE h
  exact Cp hX hg (eP hK0 (eq_of_beq d0))
 ·apply cS h; intro fe as ks pos h
  apply aO h; intro n p h
  refine aB h fun z h=>aB h fun hg h=>?_; apply bZ z
  apply cB h; intro x h
  refine aB h fun hx h=>?_
  apply cB h; intro k h
  obtain⟨kn,ky,kp⟩:=k
  apply rJ (m:=fun kn=>cF _ sc (.Call _ [x] [⟨kn,ky,kp⟩] pos) _) h; intro n' h
  refine aB h fun z h=>?_; apply bZ z
  obtain⟨v,ha,d1⟩:=eG d1
  obtain⟨a,rfl,d1⟩:=mI d1
  exact Co hX hK (bQ.up (hC fr) (Nat.le_succ _)) (a:=a) (show(eK K "shlex").bind eZ=_ by rw[ha]; rfl) hg (eP hK0 ha) d1 hx h
 ·apply T8 h; intro as p pos hg h
  apply cB h; intro x h
  exact Cn hX rfl hK hK0 hlam hB hC hb2 d2 hg h
 ·cases h
 ·cases h
 ·apply lC h; intro x as apos pos h0 hl h
  refine aB h fun hn h=>?_
  apply aO h; intro n p h
  refine aB h fun z h=>aB h fun hg h=>?_; apply bZ z
  apply cW h; intro l r h
  refine aB h fun h1 h=>?_
  apply cB h1; intro y h1
  apply HM h; intro a body lsc q h
  refine aB h fun h2 h=>aB h fun h3 h=>aB h fun h4 h=>aB h fun h5 h=>?_
  obtain⟨⟨nn,k⟩,e,h6⟩:=XZ h
  exact Cm hX hK hK0 (LK.at fr) hl0 d5 hg h1 hl (eq_of_beq hn) (List.isEmpty_iff.mp h2) (List.isEmpty_iff.mp h3) ⟨eq_of_beq h4,eq_of_beq h5⟩ (e.trans (by rw[show k=_ from eq_of_beq h6]))
 ·apply lC h; intro x as apos pos h0 hl h
  refine aB h fun hx h=>?_
  apply cB h; intro y h
  apply aO h; intro n p h
  refine aB h fun z hg=>?_; apply bZ z
  exact Cl hX hK hK0 d6 hg hx hl
 ·apply T8 h; intro as p pos hg h
  apply dE h
  exact Ck hX hB hg
 ·cases h
end Kt.Internal
end
section
open PySem PySem.W PyProof.Rows PySem.Calls Builtin
namespace Kt.Internal
noncomputable def IZ(h:Heap)(C:Addr):Heap:=(h.push emptyDict).push (instObj C h.objs.size)
noncomputable abbrev F8(C:Addr)(x:Value)(kw:List (Str×Value)):Code:=.builtin "type.__call__" ⟨[.ref C,x],kw⟩
noncomputable def KP(c:Code)(f:Addr→Option (Addr→Addr→Value×Sc)):Option (Addr→Addr→Value×Sc):=match c with
 | .call v _=>(match v with | .ref u=>f u | _=>none)
 | _=>none
noncomputable def Dk(aI:Addr)(c:Code):Option (Addr→Addr→Value×Sc):=KP c fun u=>bif u==aI then some fun _ _=>(.none,[])else none
noncomputable def Dj(C f aI:Addr)(c:Code):Option (Addr→Addr→Value×Sc):=KP c fun u=>bif u==aI then some fun _ _=>(.none,[])else bif u==f then some fun x d=>(.ref x,[(0,instObj C d),(1,instObj C d)])else none
noncomputable abbrev YF(prog:Program)(w:World)(K:Frag)(A:Around)(R:Result→Shared→Prop)(s:Shared)(aI y:Addr)(x:Value)(kw:List (Str×Value)):Prop :=
 codeAny (model prog w) A (.call (.ref aI) ⟨[.ref y,x],kw⟩) (fun r s'=>∃ _ _:Addr,r = .ok (.ret .none)∧K.In s'.heap∧R (.ok (.ret (.ref y))) s') s
def Am(prog:Program)(w:World)(K:Frag)(A:Around)(R:Result→Shared→Prop)(s:Shared)(C aI:Addr)(x:Value)(kw:List (Str×Value)):Prop :=
 (Code.call (.builtin "type.__call__") ⟨[.ref C,x],kw⟩).quiet=true∧(F8 C x kw=F8 C x kw∧(F8 C x kw).quiet=true)∧(Code.builtin "object.__new__" ⟨[.ref C,x],kw⟩).quiet=true ∧
  (IZ s.heap C).get? (s.heap.push emptyDict).objs.size=some (instObj C s.heap.objs.size)∧(IZ s.heap C).get? (s.heap.push emptyDict).objs.size=some (instObj C s.heap.objs.size) ∧
  YF prog w K (A.under (F8 C x kw)) R { s with heap:=IZ s.heap C } aI (s.heap.push emptyDict).objs.size x kw
def Al(prog:Program)(w:World)(K:Frag)(A:Around)(R:Result→Shared→Prop)(s:Shared)(C f q aI:Addr)(x:Value):Prop :=
 (Code.call (.builtin "type.__call__") ⟨[.ref C,x],[]⟩).quiet=true∧(F8 C x []=F8 C x []∧(F8 C x []).quiet=true)∧qb "type.__getattribute__" [.ref C,.str "__new__" s.toks]∧qb "staticmethod.__get__" [.ref q,.none,.ref C] ∧
  codeAny (model prog w) (A.under (F8 C x [])) (.call (.ref f) ⟨[.ref C,x],[]⟩) (fun r s'=>∃ y d:Addr,r = .ok (.ret (.ref y))∧K.In s'.heap∧s'.heap.get? y=some (instObj C d)∧s'.heap.get? y=some (instObj C d)∧YF prog w K (A.under (F8 C x [])) R s' aI y x []) { s with toks:=s.toks+1 }
noncomputable def IR(w:World)(n:Str)(tk:Tok)(v:Value):Obj→Obj:=Obj.putName n (if n.cps.isEmpty then 0 else reduceHash (w.params.strHash n.cps)) (.str n tk) v
noncomputable abbrev mU:Obj:={ cls:=.type "frame",data:=.dict #[] }
noncomputable abbrev IU(x:Value):Obj:={ cls:=.type "tuple",data:=.seq #[x] }
def YD(K:Frag)(R:Result→Shared→Prop)(s:Shared)(C L:Addr)(h0:Heap)(f1 f2 f3:Obj→Obj):Prop :=
 h0.get? L=some mU∧((h0.get? L).isSome=true∧K.In (h0.update L f1))∧(h0.update L f1).get? L=some (f1 mU)∧(((h0.update L f1).get? L).isSome=true∧K.In ((h0.update L f1).update L f2)) ∧
  ((h0.update L f1).update L f2).get? L=some (f2 (f1 mU))∧((((h0.update L f1).update L f2).get? L).isSome=true∧K.In (((h0.update L f1).update L f2).update L f3))∧(((h0.update L f1).update L f2).update L f3).NoLimit ∧
  (((h0.update L f1).update L f2).update L f3).get? L=some (f3 (f2 (f1 mU)))∧(((h0.update L f1).update L f2).update L f3).get? L=some (f3 (f2 (f1 mU))) ∧
  qb "type.__getattribute__" [.type "object",.str "__new__" (s.toks+1+1+1)]∧(((h0.update L f1).update L f2).update L f3).get? L=some (f3 (f2 (f1 mU)))∧qb "object.__new__" [.ref C] ∧
  R (.ok (.ret (.ref ((((h0.update L f1).update L f2).update L f3).push emptyDict).objs.size))) { s with heap:=IZ (((h0.update L f1).update L f2).update L f3) C,toks:=s.toks+1+1+1+1 }
def nF(e:Data)(f:FuncData→Prop):Prop:=if h:e.ctorIdx=7 then Data.func.elim e h f else False
def nQ(e:FuncBody)(f:List Stmt→Prop):Prop:=if h:e.ctorIdx=0 then FuncBody.stmts.elim e h f else False
def Ax(K:Frag)(f:Addr)(P:FuncData→List Stmt→Prop):Prop:=fB (K.lookup f) fun o=>nF o.data fun fd=>nQ fd.body fun b=>P fd b
def YI(K:Frag)(C aI:Addr):Prop:=∀(prog:Program)(w:World)(A:Around)(R:Result→Shared→Prop)(s:Shared)(x p:Value),Be prog w A K (Dk aI) 9 (.call (.ref C) ⟨[x],[("posix",p)]⟩) (F8 C x [("posix",p)]) R [(26,instObj C s.heap.objs.size),(1,instObj C s.heap.objs.size)] s=Am prog w K A R s C aI x [("posix",p)]
def YH(K:Frag)(C f q aI:Addr):Prop:=∀(prog:Program)(w:World)(A:Around)(R:Result→Shared→Prop)(s:Shared)(x:Value),Be prog w A K (Dj C f aI) 9 (.call (.ref C) ⟨[x],[]⟩) (F8 C x []) R [] s=Al prog w K A R s C f q aI x
def zR(w:World)(s:Shared)(C:Addr)(x:Value)(P:(f1 f2 f3:Obj→Obj)→Prop):Prop:=P (IR w "cls" s.toks (.ref C)) (IR w "args" (s.toks+1) (.ref s.heap.objs.size)) (IR w "kwargs" (s.toks+1+1) (.ref (s.heap.push (IU x)).objs.size))
def UK(K:Frag)(C f:Addr):Prop:=∀(prog:Program)(w:World)(R:Result→Shared→Prop)(s:Shared)(x:Value),zR w s C x fun f1 f2 f3 =>
 Ax K f (fun fd body=>(!fd.scope.isCoroutine&&(!fd.scope.isGenerator&&iJ K fd.qualname fd.code))=true∧Bg prog w K (fun _=>none) 9 fd body f ⟨[.ref C,x],[]⟩ R [(0,mU),(0,f1 mU),(0,f2 (f1 mU)),(0,f3 (f2 (f1 mU))),(3,f3 (f2 (f1 mU))),(3,f3 (f2 (f1 mU)))] s) =
  (true=true∧YD K R s C ((s.heap.push (IU x)).push emptyDict).objs.size (((s.heap.push (IU x)).push emptyDict).push mU) f1 f2 f3)
theorem AE{e:Data}{f:FuncData→Prop}(h:nF e f):∃ a,e = .func a∧f a:=by
 by_cases c:e.ctorIdx=7
 ·exact Data.func.elim (motive:=fun e=>nF e f→∃ a,e = .func a∧f a) e c (fun a h=>⟨a,rfl,h⟩) h
 ·rw[nF,dif_neg c]at h; exact h.elim
theorem HL{e:FuncBody}{f:List Stmt→Prop}(h:nQ e f):∃ a,e = .stmts a∧f a:=by
 by_cases c:e.ctorIdx=0
 ·exact FuncBody.stmts.elim (motive:=fun e=>nQ e f→∃ a,e = .stmts a∧f a) e c (fun a h=>⟨a,rfl,h⟩) h
 ·rw[nQ,dif_neg c]at h; exact h.elim
theorem CF{K:Frag}{f:Addr}{P:FuncData→List Stmt→Prop}(x:Ax K f P):∃ o fd body,K.lookup f=some o∧o.data = .func fd∧fd.body = .stmts body∧P fd body :=
 let⟨o,e,x⟩:=mZ x; let⟨fd,e1,x⟩:=AE x; let⟨b,e2,x⟩:=HL x; ⟨o,fd,b,e,e1,e2,x⟩
theorem t7{h:Heap}{q:Str}{v:Value}(x:∃ c oc vs t,v = .ref c∧h.get? c=some oc∧oc.cls ≠ .none∧oc.data = .fields vs∧vs[1]? = some (.str q t)):h.CodeRec v q:=by
 obtain⟨c,oc,vs,t,a1,a2,_,r⟩:=x
 exact⟨c,oc,vs,t,a1,a2,r⟩
theorem Ai{d:PyData}(h:d.ctorIdx=0):d = .none:=by cases d <;> first | rfl | cases h
section
variable{Z:aE}{cA fA:Nat→Option Addr}{cl:iO}{lvl c:Nat}{K:Frag}{μ:List Addr}{st st':St}{A:Around}{s:Shared}{C:Addr}
theorem Dl{a b k:Nat}(hk:1≤k):a+1+b≤a+(b+k):=by rw[Nat.add_assoc,Nat.add_comm 1]; exact Nat.add_le_add_left (Nat.add_le_add_left hk b) a
theorem wM{l:Nat}{x:Value}{kw:List (Str×Value)}(h:fG Z (l+3) A):fG Z l (A.under (F8 C x kw)) :=
 ⟨h.handled,Nat.lt_of_le_of_lt (Nat.add_le_add_right (Dl (a:=A.depth) (b:=l) (k:=3) (by decide)) 20) h.depth,Nat.lt_of_le_of_lt (Nat.add_le_add_right (Dl (a:=A.units) (b:=3*l) (k:=9) (by decide)) 200) h.units,h.frames⟩
theorem RF{x dx:Addr}{h':Heap}{l:Nat}(hl:μ.length=l)(hC:cA c=some C)(g1:h'.get? x=some (instObj C dx))(g2:h'.get? dx=some emptyDict)(i:Nat)(b:Addr)(f:FO)(h1:[x,dx][i]? = some b)(h2:[FO.inst c,.dict []][i]? = some f):GF cA (μ++[x,dx]) h' (l+i) b f:=by
 cases i with
 | zero =>
  cases h1; cases h2
  exact⟨C,dx,hC,by subst hl; exact(List.getElem?_append_right (Nat.le_succ μ.length)).trans (congrArg ([x,dx][·]?) (Nat.add_sub_cancel_left (n:=μ.length) (m:=1))),g1⟩
 | succ i =>
  cases i with
  | zero=>cases h1; cases h2; exact⟨#[],0,#[],g2,.nil,Nat.zero_le _⟩
  | succ i=>cases h1
theorem RG{i:Nat}{xs:List OV}{v:OV}(he:newO cl c i xs st=some (v,st')):v = .o st.length∧cl i (.o st.length::xs) (st++[.inst c,.dict []])=some (.d .none,st'):=aV he fun r hd he=>jM he fun d ed he=>hY he fun hd0 he =>
 have h:OV.o st.length=v∧r.2=st':=Prod.mk.inj (Option.some.inj he)
 ⟨h.1.symm,hd.trans (congrArg some (Prod.ext (ed.trans (congrArg OV.d (Ai hd0))) h.2))⟩
theorem X2{fI:Nat}{aI x dx:Addr}{tk:Tok}{h':Heap}{vs:List Value}{args:List OV}{v:OV}{R:Result→Shared→Prop}(hCl:bQ Z cA cl lvl fA)(hK:∀ h,Z.TabI h→K.In h)(hC:cA c=some C)(hfA:fA fI=some aI)(hI:aZ Z s)(hsz:Z.n≤s.heap.objs.size)(S:lZ Z cA μ st s.heap)(hA:fG Z (8*lvl) A)
  (hb:∀ b∈[x,dx],s.heap.objs.size≤b) (hne:x≠dx) (hk:∀ b o,s.heap.get? b=some o→h'.get? b=some o) (g1:h'.get? x=some (instObj C dx)) (g2:h'.get? dx=some emptyDict) (hvs:gH μ vs args)
  (he:newO cl c fI args st=some (v,st')) (hR:gI Z cA μ s.heap st' v (fun w s'=>R (.ok (.ret w)) s')) :
  codeAny (model Z.prog Z.w) A (.call (.ref aI) (jT fI (.ref x::vs))) (fun r s'=>∃ _ _:Addr,r = .ok (.ret .none)∧K.In s'.heap∧R (.ok (.ret (.ref x))) s') { s with heap:=h',toks:=tk }:=by
 obtain⟨rfl,hd⟩:=RG he
 have a:=(dF.here (L:=jK) hI S).mores (bs:=[x,dx]) (fs:=[.inst c,.dict []]) (tk:=tk) rfl (List.nodup_cons.mpr ⟨fun h=>hne (List.mem_singleton.mp h),List.nodup_cons.mpr ⟨nofun,.nil⟩⟩) (fun b h=>⟨get?_ge (hb b h),⟨Nat.le_trans hsz (hb b h),hI.frLt (hb b h)⟩,id⟩) hk (RF S.len hC g1 g2)
 have ho:VE (μ++[x,dx]) (.ref x) (.o st.length):=⟨x,by rw[← S.len,List.getElem?_append_right (Nat.le_refl _),Nat.sub_self]; rfl,rfl⟩
 refine hCl hfA hd hA a.i (Nat.le_trans hsz (Nat.le_trans (hb x List.mem_cons_self) (Nat.le_of_lt (Heap.lt_size g1)))) a.so (.cons ho (hvs.pre a.t.pre)) fun w s' μ' a' hw=>?_
 have hw:w = .none:=by cases hw.1; rfl
 subst hw
 exact⟨0,0,rfl,hK _ a'.i.tab,hR _ _ _ (a.trans a') (ho.pre a'.t.pre)⟩
theorem VT{aI:Addr}{args:List OV}{v:OV}{vs:List Value}{R:Result→Shared→Prop}(hCl:bQ Z cA cl lvl fA)(hK:∀ h,Z.TabI h→K.In h)(hC:cA 0=some C)(hfA:fA 19=some aI)(N:YI K C aI)
  (hA:fG Z (8*(lvl+2)) A) (hI:aZ Z s) (hsz:Z.n≤s.heap.objs.size) (S:lZ Z cA μ st s.heap) (hvs:gH μ vs args) (he:j6 args (fun x r=>j6 r fun p r=>oQ r (newO cl 0 19 [x,p] st))=some (v,st'))
  (hR:gI Z cA μ s.heap st' v (fun w s'=>R (.ok (.ret w)) s')):codeAny (model Z.prog Z.w) A (.call (.ref C) (jT 18 vs)) R s :=
 l5 he fun x r e1 he=>l5 he fun p r' e2 he=>m8 he fun e3 he=>by
 subst e3; subst e2; subst e1
 refine O4 (m:=fun vs=>codeAny (model Z.prog Z.w) A (.call (.ref C) (jT 18 vs)) R s) hvs fun w u hw hu=>?_
 have hx:(IZ s.heap C).get? (s.heap.push emptyDict).objs.size=some (instObj C s.heap.objs.size):=Heap.get?_push_size _ rfl
 have hz:(s.heap.push emptyDict).objs.size=s.heap.objs.size+1:=Heap.size_push ..
 refine TN (mk:=Dk aI) 9 _ _ hA.handled (hK _ hI.tab) (N Z.prog Z.w A R s w u) ⟨rfl,⟨rfl,Code.quiet_builtin _ (by decide +kernel)⟩,Code.quiet_builtin _ (by decide +kernel),hx,hx,?_⟩
 refine X2 (tk:=s.toks) (vs:=[w,u]) hCl hK hC hfA hI hsz S (wM (hA.mono (by show 8*lvl+3≤8*lvl+8+8; exact Nat.add_le_add_left (show 3≤16 by decide) (8*lvl)))) (fun b hb=>?_) (fun e=>Nat.succ_ne_self _ (hz.symm.trans e)) (fun b o e=>Heap.get?_push_of_some _ (Heap.get?_push_of_some _ e)) hx (Heap.get?_push_of_some _ (Heap.get?_push_size _ rfl)) (.cons hw (.cons hu .nil)) he hR
 exact(List.mem_cons.mp hb).elim (fun e=>e▸hz▸Nat.le_succ _) fun hb=>List.mem_singleton.mp hb▸Nat.le_refl _
theorem nV{h h':Heap}{L:Addr}{f:Obj→Obj}(hk:∀ b o,h.get? b=some o→h'.get? b=some o)(hn:h.get? L=none)(b:Addr)(o:Obj)(e:h.get? b=some o):(h'.update L f).get? b=some o:=(Heap.get?_update_other _ _ fun e'=>by rw[← e',hn]at e; cases e).trans (hk b o e)
theorem RH{L:Addr}{h0:Heap}{f1 f2 f3:Obj→Obj}{R:Result→Shared→Prop}(hK:∀ h,Z.TabI h→K.In h)(hI:aZ Z s)(hL:h0.get? L=some mU)(hk:∀ b o,s.heap.get? b=some o→h0.get? b=some o)(hn:s.heap.get? L=none)(hz:s.heap.objs.size≤L)(e1:(f1 mU).isFreed=false)(e2:(f2 (f1 mU)).isFreed=false)(e3:(f3 (f2 (f1 mU))).isFreed=false)
  (hR:∀ h' tk y d,(∀ b o,s.heap.get? b=some o→h'.get? b=some o)→(∀ b∈[y,d],s.heap.objs.size≤b)→y≠d→h'.get? y=some (instObj C d)→h'.get? d=some emptyDict→R (.ok (.ret (.ref y))) { s with heap:=h',toks:=tk }):YD K R s C L h0 f1 f2 f3:=by
 have I:∀{h:Heap},(∀ b o,s.heap.get? b=some o→h.get? b=some o)→aZ Z { s with heap:=h,toks:=0 }:=fun hk=>hI.full hk
 have k1:=nV (f:=f1) hk hn
 have k2:=nV (f:=f2) k1 hn
 have k3:=nV (f:=f3) k2 hn
 have g1:=Heap.get?_update_self f1 hL e1
 have g2:=Heap.get?_update_self f2 g1 e2
 have g3:=Heap.get?_update_self f3 g2 e3
 refine⟨hL,⟨by rw[hL]; rfl,hK _ (I k1).tab⟩,g1,⟨by rw[g1]; rfl,hK _ (I k2).tab⟩,g2,⟨by rw[g2]; rfl,hK _ (I k3).tab⟩,(I k3).lim,g3,g3,Code.quiet_builtin _ (by decide +kernel),g3,Code.quiet_builtin _ (by decide +kernel),?_⟩
 have hs:=Nat.le_trans hz (Nat.le_of_lt (Heap.lt_size g3))
 generalize ((h0.update L f1).update L f2).update L f3=h3 at k3 hs
 have hz:(h3.push emptyDict).objs.size=h3.objs.size+1:=Heap.size_push ..
 exact hR _ _ _ h3.objs.size (fun b o e=>Heap.get?_push_of_some _ (Heap.get?_push_of_some _ (k3 b o e))) (fun b hb=>(List.mem_cons.mp hb).elim (fun e=>e▸hz▸Nat.le_succ_of_le hs) fun hb=>List.mem_singleton.mp hb▸hs) (fun e=>Nat.succ_ne_self _ (hz.symm.trans e)) (Heap.get?_push_size _ rfl) (Heap.get?_push_of_some _ (Heap.get?_push_size _ rfl))
theorem IE{f:Addr}{x:Value}{R:Result→Shared→Prop}(N:UK K C f)(hh:A.handled=none)(hroom:A.depth<recursionLimit)(hK:∀ h,Z.TabI h→K.In h)(hI:aZ Z s)
  (hR:∀ h' tk y d,(∀ b o,s.heap.get? b=some o→h'.get? b=some o)→(∀ b∈[y,d],s.heap.objs.size≤b)→y≠d→h'.get? y=some (instObj C d)→h'.get? d=some emptyDict→R (.ok (.ret (.ref y))) { s with heap:=h',toks:=tk }) :
  codeAny (model Z.prog Z.w) A (.call (.ref f) ⟨[.ref C,x],[]⟩) R s:=by
 have X:=hK _ hI.tab
 have hk:∀ b o,s.heap.get? b=some o→(((s.heap.push (IU x)).push emptyDict).push mU).get? b=some o:=fun b o e=>Heap.get?_push_of_some _ (Heap.get?_push_of_some _ (Heap.get?_push_of_some _ e))
 have hz:s.heap.objs.size≤((s.heap.push (IU x)).push emptyDict).objs.size:=by rw[Heap.size_push,Heap.size_push]; exact Nat.le_add_right _ 2
 have e:=(N Z.prog Z.w R s x).mpr ⟨rfl,RH hK hI (Heap.get?_push_size _ rfl) hk (get?_ge hz) hz rfl rfl rfl hR⟩
 obtain⟨o,fd,body,h1,h2,h3,h4,e⟩:=CF e
 obtain⟨h5,h4⟩:=aA h4
 obtain⟨h6,h7⟩:=aA h4
 exact TF hh X hroom (X _ _ h1) h2 (bH h5) (bH h6) h3 (t7 (xH X h7)) e
theorem ZC{f q aI:Addr}{args:List OV}{v:OV}{vs:List Value}{R:Result→Shared→Prop}(hCl:bQ Z cA cl lvl fA)(hK:∀ h,Z.TabI h→K.In h)(hC:cA 1=some C)(hfA:fA 3=some aI)(N:YH K C f q aI)(N2:UK K C f)
  (hA:fG Z (8*(lvl+2)) A) (hI:aZ Z s) (hsz:Z.n≤s.heap.objs.size) (S:lZ Z cA μ st s.heap) (hvs:gH μ vs args) (he:j6 args (fun x r=>oQ r ((mV x).bind fun _=>newO cl 1 3 [x] st))=some (v,st'))
  (hR:gI Z cA μ s.heap st' v (fun w s'=>R (.ok (.ret w)) s')):codeAny (model Z.prog Z.w) A (.call (.ref C) (jT 9 vs)) R s :=
 l5 he fun x r e1 h1=>m8 h1 fun e2 h2=>aV h2 fun _ _ h3=>by
 subst e2; subst e1
 refine qJ (m:=fun vs=>codeAny (model Z.prog Z.w) A (.call (.ref C) (jT 9 vs)) R s) hvs fun w hw=>?_
 have hA1:fG Z (8*lvl) (A.under (F8 C w [])):=wM (hA.mono (Nat.add_le_add_left (show 3≤16 by decide) (8*lvl)))
 exact TN (mk:=Dj C f aI) 9 _ _ hA.handled (hK _ hI.tab) (N Z.prog Z.w A R s w) ⟨rfl,⟨rfl,Code.quiet_builtin _ (by decide +kernel)⟩,Code.quiet_builtin _ (by decide +kernel),Code.quiet_builtin _ (by decide +kernel),
  IE (s:={ s with toks:=s.toks+1 }) N2 hA1.handled (Nat.lt_of_le_of_lt (Nat.le_trans (Nat.le_add_right _ _) (Nat.le_add_right _ _)) hA1.depth) hK (hI.tok _) fun h' tk y d hk hb hne g1 g2=>⟨y,d,rfl,(hK _ hI.tab).keeps hk,g1,g1,
   X2 (s:={ s with toks:=s.toks+1 }) (tk:=tk) (vs:=[w]) hCl hK hC hfA (hI.tok _) hsz S hA1 hb hne hk g1 g2 (.cons hw .nil) h3 hR⟩⟩
end
def TS(K:Frag)(a:Addr):Prop:=∀(S:Setting)(l x p:Value),fB (K.lookup a) fun o=>nF o.data fun fd=>peek K S (vB fd ⟨[l,x],[("posix",p)]⟩)=some ((cN.take dW.arity).zip [l,x,.none,p,.bool false])
def LV(K:Frag)(C8 a8 C9 f9 q9 a9:Addr):Prop:=(pP K 0=some C8∧lY K 19=some a8∧lY K 18=some C8)∧(pP K 1=some C9∧lY K 3=some a9∧lY K 9=some C9)∧YI K C8 a8∧(YH K C9 f9 q9 a9∧UK K C9 f9)∧TS K a8
section
variable{Z:aE}{K:Frag}{xc:List Str→Nat→Scope→Expr→Bool}{fuel:Nat}
theorem VS{cl:iO}{lvl:Nat}{a:Addr}{fr:List Addr}{args:List OV}{st st':St}{v:OV}{A:Around}{s:Shared}{vs:List Value}{μ:List Addr}{R:Result→Shared→Prop}(hK:∀ h,Z.TabI h→K.In h)(hK0:K.In Z.h₀)(hlam:Z.lam=qO K)(hB:fZ Z)(hC:∀ fr,bQ (Z.at fr) (pP K) cl lvl (lY K))(hX:sY Z (pP K) (lY K) xc (eI fuel))
  (hck:eN K (fun sc body=>eM K (pP K) (lY K) (xc cN) cN sc dW.body body) a cN dW=true) (hbo:f4 K a cN dW) (N:TS K a) (hA:fG (Z.at fr) (8*(lvl+2)) A) (hI:aZ (Z.at fr) s) (hsz:Z.n≤s.heap.objs.size) (S:lZ (Z.at fr) (pP K) μ st s.heap) (hvs:gH μ vs args)
  (he:j6 args (fun l r=>j6 r fun x r=>j6 r fun p r=>oQ r (eJ (bN cl (eI fuel cl) fuel dW.body [some l,some x,some (.d .none),some p,some (.d (.bool false)),none] st)))=some (v,st')) (hR:gI (Z.at fr) (pP K) μ s.heap st' v (fun w s'=>R (.ok (.ret w)) s')):codeAny (model Z.prog Z.w) A (.call (.ref a) (jT 19 vs)) R s :=
 l5 he fun l r e1 he=>l5 he fun x r' e2 he=>l5 he fun p r'' e3 he=>m8 he fun e4 he=>by
 subst e4; subst e3; subst e2; subst e1
 refine T1 (m:=fun vs=>codeAny (model Z.prog Z.w) A (.call (.ref a) (jT 19 vs)) R s) hvs fun lv ws hl hvs=>O4 (m:=fun ws=>codeAny (model Z.prog Z.w) A (.call (.ref a) (jT 19 (lv::ws))) R s) hvs fun w u hw hu=>?_
 obtain⟨fd,body,F,hck⟩:=dQ hlam hK hK0 hbo hck
 have hb:BindsTo s fd ⟨[lv,w],[("posix",u)]⟩ ((cN.take dW.arity).zip [lv,w,.none,u,.bool false]):=kp_binds (hK _ hI.tab) fun S=>by
  obtain⟨o,e,h⟩:=mZ (N S lv w u)
  obtain⟨fd',e',h⟩:=AE h
  obtain⟨o',ho,_,hd⟩:=F.obj
  cases(hK0 _ _ e).symm.trans ho
  cases e'.symm.trans hd
  rw[tK]
  exact h
 exact qB (D:=⟨Z.at fr,pP K,cl,eI fuel cl,lvl+1,cN⟩) (xc:=xc cN) (fun fr'=>⟨hK,hK0,hB,bQ.up (hC fr') (Nat.le_succ _),fun j sc e hx=>hX cl lvl hC fr' cN j sc e hx⟩) (e8.at (D:=⟨Z,pP K,cl,eI fuel cl,lvl+1,cN⟩) F fr) hck hb rfl
  (EB (xs:=[l,x,.d .none,p,.d (.bool false)]) (k:=1) (.cons hl (.cons hw (.cons nB (.cons hu (.cons ⟨.bool false,rfl⟩ .nil)))))) he hA hI hsz S hR
theorem Q8{C8 a8 C9 f9 q9 a9:Addr}(hK:∀ h,Z.TabI h→K.In h)(hK0:K.In Z.h₀)(hlam:Z.lam=qO K)(hB:fZ Z)(hO:LV K C8 a8 C9 f9 q9 a9)(hck:eN K (fun sc body=>eM K (pP K) (lY K) (xc cN) cN sc dW.body body) a8 cN dW=true)(hbo:f4 K a8 cN dW)(hX:sY Z (pP K) (lY K) xc (eI fuel)) :
  F6 Z (pP K) (lY K) DX (JH fuel):=fun cl lvl hC{fr f a args st v st'}_ hf he{A s vs μ R}hA hI hsz S hvs hR=>by
 obtain⟨⟨k1,k2,k3⟩,⟨k4,k5,k6⟩,n8,⟨n9,m9⟩,n19⟩:=hO
 unfold JH at he
 by_cases c9:f=9
 ·rw[if_pos c9]at he
  subst c9
  cases k6.symm.trans hf
  exact ZC (Z:=Z.at fr) (hC fr) hK k4 k5 n9 m9 hA hI hsz S hvs he hR
 ·rw[if_neg c9]at he
  by_cases c18:f=18
  ·rw[if_pos c18]at he
   subst c18
   cases k3.symm.trans hf
   exact VT (Z:=Z.at fr) (hC fr) hK k1 k2 n8 hA hI hsz S hvs he hR
  ·rw[if_neg c18]at he
   by_cases c19:f=19
   ·rw[if_pos c19]at he
    subst c19
    cases k2.symm.trans hf
    exact VS hK hK0 hlam hB hC hX hck hbo n19 hA hI hsz S hvs he hR
   ·rw[if_neg c19]at he; cases he
end
noncomputable def Ec(c:Nat)(d:Code):Option (Addr→Addr→Value×Sc):=match d with
 | .call v _=>(match v with | .builtin nn=>bif nn == "str.replace" then some (fun x _=>(.str (rI c) x,[]))else none | _=>none)
 | _=>none
def XE(prog:Program)(w:World)(K:Frag)(R:Result→Shared→Prop)(s:Shared)(p c:Nat)(tk:Tok)(L:Addr)(o1:Obj)(h1 h2:Heap):Prop :=
 h1.get? L=some mU∧((h1.get? L).isSome=true∧K.In h2)∧h2.NoLimit∧h2.get? L=some o1∧qb "str.__len__" [.str ⟨#[c]⟩ tk]∧h2.get? L=some o1∧qb "re.Pattern.search" [.ref p,.str ⟨#[c]⟩ tk] ∧
  bif fH c then h2.get? L=some o1∧R (.ok (.ret (.str ⟨#[c]⟩ tk))) { s with heap:=h2,toks:=s.toks+1+1+1 }
  else((h2.push UA).push (UB (.str ⟨#[c]⟩ tk) p h2.objs.size)).get? L=some o1∧∀ A:Around,A.handled=none→codeAny (model prog w) A (.call (.builtin "str.replace") ⟨[.str ⟨#[c]⟩ tk,.str "'" (s.toks+4),.str "'\"'\"'" (s.toks+5)],[]⟩)
   (fun r s'=>∃ x _:Addr,r = .ok (.ret (.str (rI c) x))∧K.In s'.heap∧qb "str.__add__" [.str "'" (s.toks+3),.str (rI c) x]∧qb "str.__add__" [.str ("'" ++ rI c) s'.toks,.str "'" (s'.toks+1)]∧R (.ok (.ret (.str ("'" ++ rI c ++ "'") (s'.toks+2)))) { s' with toks:=s'.toks+3 })
   { s with heap:=(h2.push UA).push (UB (.str ⟨#[c]⟩ tk) p h2.objs.size),toks:=s.toks+6 }
def J7(K:Frag)(a p c:Nat):Prop:=∀(prog:Program)(w:World)(R:Result→Shared→Prop)(s:Shared)(tk:Tok),
 Ax K a (fun fd body=>(!fd.scope.isCoroutine&&(!fd.scope.isGenerator&&iJ K fd.qualname fd.code))=true∧Bg prog w K (Ec c) 9 fd body a ⟨[.str ⟨#[c]⟩ tk],[]⟩ R [(0,mU),(0,IR w "s" s.toks (.str ⟨#[c]⟩ tk) mU),(1,IR w "s" s.toks (.str ⟨#[c]⟩ tk) mU),(7,IR w "s" s.toks (.str ⟨#[c]⟩ tk) mU)] s) =
  (true=true∧XE prog w K R s p c tk s.heap.objs.size (IR w "s" s.toks (.str ⟨#[c]⟩ tk) mU) (s.heap.push mU) ((s.heap.push mU).update s.heap.objs.size (IR w "s" s.toks (.str ⟨#[c]⟩ tk))))
def GN(K:Frag)(a p:Nat):Prop:=∀ c,iS c=true→J7 K a p c
noncomputable def qS(c:Nat):Str:=bif fH c then⟨#[c]⟩else "'" ++ rI c ++ "'"
theorem C5{prog:Program}{w:World}{K:Frag}{A:Around}{s:Shared}{a p c:Nat}{tk:Tok}(N:GN K a p)(hc:iS c=true)(hh:A.handled=none)(hroom:A.depth<recursionLimit)(X:K.In s.heap)(hlim:s.heap.NoLimit) :
  codeAny (model prog w) A (.call (.ref a) ⟨[.str ⟨#[c]⟩ tk],[]⟩) (fun r s'=>(∃ u,r = .ok (.ret (.str (qS c) u)))∧Keeps s s') s:=by
 have hn:s.heap.get? s.heap.objs.size=none:=get?_ge (Nat.le_refl _)
 have hL:(s.heap.push mU).get? s.heap.objs.size=some mU:=Heap.get?_push_size _ rfl
 have k2:=nV (f:=IR w "s" s.toks (.str ⟨#[c]⟩ tk)) (fun b o e=>Heap.get?_push_of_some mU e) hn
 have g2:=Heap.get?_update_self (IR w "s" s.toks (.str ⟨#[c]⟩ tk)) hL rfl
 have e:=(N c hc prog w (fun r s'=>(∃ u,r = .ok (.ret (.str (qS c) u)))∧Keeps s s') s tk).mpr ⟨rfl,hL,⟨by rw[hL]; rfl,X.keeps k2⟩,hlim.keeps k2,g2,Code.quiet_builtin _ (by decide +kernel),g2,Code.quiet_builtin _ (by decide +kernel),?_⟩
 ·obtain⟨o,fd,body,h1,h2,h3,h4,e⟩:=CF e
  obtain⟨h5,h4⟩:=aA h4
  obtain⟨h6,h7⟩:=aA h4
  exact TF hh X hroom (X _ _ h1) h2 (bH h5) (bH h6) h3 (t7 (xH X h7)) e
 ·unfold qS
  cases fH c with
  | true=>exact⟨g2,⟨_,rfl⟩,_,_,rfl,k2⟩
  | false =>
   refine⟨Heap.get?_push_of_some _ (Heap.get?_push_of_some _ g2),fun A hh=>ID hc rfl fun t t'=>?_⟩
   have k4:=fun b o e=>Heap.get?_push_of_some (UB (.str ⟨#[c]⟩ tk) p ((s.heap.push mU).update s.heap.objs.size (IR w "s" s.toks (.str ⟨#[c]⟩ tk))).objs.size) (Heap.get?_push_of_some UA (k2 b o e))
   exact⟨t,0,rfl,X.keeps k4,Code.quiet_builtin _ (by decide +kernel),Code.quiet_builtin _ (by decide +kernel),⟨_,rfl⟩,_,_,rfl,k4⟩
noncomputable def wD(c:Nat):PyData:=.str ⟨#[c]⟩
theorem VR(c:Nat):(qS c).length≤7:=by
 unfold qS rI
 cases fH c with
 | true=>exact(show 1≤7 by decide)
 | false =>
  cases c==39 with
  | true=>exact Nat.le_of_ble_eq_true rfl
  | false=>exact(show 3≤7 by decide)
theorem ZA{c:Nat}(h:bL (wD c)=true):PyData.strOk (qS c)=true:=by
 have hc:bL (.str ⟨#[c]⟩)=true:=h
 have h39:bL (.str "'")=true:=by kernel_rfl
 unfold qS rI
 cases fH c with
 | true=>exact(yZ hc).1
 | false =>
  cases c==39 with
  | true=>kernel_rfl
  | false=>exact(yZ (b7 (x:=⟨#[39,c]⟩) (b7 (x:=⟨#[39]⟩) h39 hc (Nat.le_of_ble_eq_true rfl)) h39 (Nat.le_of_ble_eq_true rfl))).1
theorem U1(ts:List Str):∀ k:Nat,(∀ t∈ts,t.length≤7)→ts.foldl (fun n x=>n+x.length+(" " : Str).length) k≤k+8*ts.length:=by
 induction ts with
 | nil=>exact fun k _=>Nat.le_refl _
 | cons t ts ih=>exact fun k h=>Nat.le_trans (ih _ fun u hu=>h u (List.mem_cons_of_mem _ hu)) (by
   rw[List.length_cons,Nat.mul_succ,Nat.add_comm (8*ts.length),← Nat.add_assoc k]
   exact Nat.add_le_add_right (Nat.add_le_add_right (m:=k+7) (Nat.add_le_add_left (h t List.mem_cons_self) k) 1) _)
theorem v3{cs:List Nat}(hlen:cs.length≤900)(hok:cD (cs.map wD)=true):JoinOk " " (cs.map qS)=true∧bL (.str (Str.join " " (cs.map qS)))=true:=by
 have hj:JoinOk " " (cs.map qS)=true:=by
  unfold JoinOk Builtin.Str.tooLong
  rw[← Array.foldl_toList,Bool.not_eq_true',decide_eq_false_iff_not]
  refine Nat.not_lt.mpr (Nat.le_trans (U1 (cs.map qS) 0 fun t h=>?_) ?_)
  ·obtain⟨x,_,rfl⟩:=List.mem_map.mp h
   exact VR x
  ·rw[List.length_map,Nat.zero_add]
   exact Nat.le_trans (Nat.mul_le_mul_left 8 hlen) (by decide)
 have hl:(Str.join " " (cs.map qS)).length≤sizeLine:=StrLaws.glued_eq_join _ _▸joinFit_length ((Bool.not_eq_true' _).mp hj)
 refine⟨hj,zD (jB (by kernel_rfl) _ fun t h=>?_) hl⟩
 obtain⟨x,hx,rfl⟩:=List.mem_map.mp h
 exact ZA (cZ.mp hok (wD x) (List.mem_map_of_mem hx))
theorem MQ{h:Heap}{vs:List Value}{cs:List Nat}{as:List Addr}(r:aU h vs (cs.map wD) as):vs.length=cs.length∧∀(i:Nat)(v:Value),vs[i]? = some v→∃ c t,cs[i]? = some c∧v = .str ⟨#[c]⟩ t:=by
 have hl:vs.length=cs.length:=(aT r).trans (List.length_map _)
 refine⟨hl,fun i v e=>?_⟩
 have hc:cs[i]? = some (cs[i]'(hl▸(List.getElem?_eq_some_iff.mp e).1)):=List.getElem?_eq_getElem _
 obtain⟨v',bs,e',r',_⟩:=iF r ((List.getElem?_map ..).trans (congrArg (Option.map wD) hc))
 cases e.symm.trans e'
 obtain⟨t,ht⟩:=fE r'
 exact⟨_,t,hc,ht⟩
noncomputable def GH:List Str:=["split_command"]
noncomputable def I4:OF:=⟨1,1,[],.nil⟩
noncomputable def xC:List (Str×NameKind):=[((".0" : Str),.local),(("arg" : Str),.local),(("quote" : Str),.globalImplicit)]
noncomputable abbrev I5(p1 p2 p3 p4 p5:Pos)(gsc:Scope)(gpos:Pos):Expr:=.GeneratorExp (.Call (.Name "quote" p1) [.Name "arg" p2] [] p3) [⟨.Name "arg" p4,.Name "split_command" p5,[],0⟩] gsc gpos
def AZ(gp:Nat×Nat)(body:List Stmt):Prop:=∃(k0:Nat)(q0 apos p1 p2 p3 p4 p5 gpos pos rpos:Pos)(gsc:Scope),body=[.Return (some (.Call (.Attribute (.Constant (.str " ") k0 q0) "join" apos) [I5 p1 p2 p3 p4 p5 gsc gpos] [] pos)) rpos] ∧
 (apos.endLine==pos.line)=true∧(gpos.line=gp.1∧gpos.col=gp.2)∧gsc.names=xC∧gsc.kind = .function∧gsc.isCoroutine=false
def PJ(K:Frag)(a c:Addr)(gp:Nat×Nat):Prop:=Ax K a fun fd body=>fd.code = .ref c∧AZ gp body
theorem vN(n:Nat):passing (fun _=>true) n 0=List.range n:=by
 unfold passing
 rw[List.drop_zero,List.filter_eq_self]
 exact fun _ _=>rfl
theorem KU{h h':Heap}{P:Addr}(x:h.NoLimit)(hP:P≠cStatics)(hk:∀ b o,b≠P→h.get? b=some o→h'.get? b=some o):h'.NoLimit:=by
 obtain⟨mc,⟨o',es,ep,e,r⟩,b⟩:=x
 exact⟨mc,⟨o',es,ep,hk _ _ hP.symm e,r⟩,b⟩
section
variable{Z:aE}{K:Frag}{c P:Addr}{gp:Nat×Nat}{A:Around}{s:Shared}{E:Value→Shared→Prop}
theorem N6(GK:gK Z K c P gp)(hI:aZ Z s){env:Env}{pos:Pos}{q:Str}{sc:Scope}{Q:Value→Shared→Prop}(hcode:env.code = .ref c)(hp:pos.line=gp.1∧pos.col=gp.2)
  (h:∀ code h' tk,Heap.ExtBut P s.heap h'→s.heap.objs.size≤h'.objs.size→OldK Z.h₀ h'→gY P gp h'→Q code { s with heap:=h',toks:=tk }):wpAny (model Z.prog Z.w) A (genexprCode env pos q sc) Q E s:=by
 obtain⟨ps,hP,hps⟩:=GK.tab _ hI.tab
 have C:=pN GK.hd fun _ _ hc e=>hI.old.get_of_cls e hc
 rcases hps with rfl | ⟨cv,rfl⟩
 ·refine wpAny_genexprCodeX hcode (C.code hP (by simp[TriplesOk])) (C.tab hP) rfl fun c' h₃ tk₃ hx hge hlt _ _ htab _=>?_
  exact h _ h₃ tk₃ hx (Nat.le_trans hge (Nat.le_of_lt hlt)) (hI.old.step_table (GK.hd.tab GK.tab₀) (C.tab hP) htab hx GK.ne.2) ⟨_,htab.2,.inr ⟨.ref c',by rw[hp.1,hp.2]; rfl⟩⟩
 ·exact wpAny_genexprCode_hit (c':=cv) hcode (C.code hP (by simp[TriplesOk,rawInt])) (by simp[codeAmong,rawInt,hp.1,hp.2]) (h _ _ s.toks (fun _ _ _ e=>e) (Nat.le_refl _) hI.old ⟨_,hP,.inr ⟨cv,rfl⟩⟩)
theorem RT{aq p0:Addr}{x:Nat}{tx:Tok}{m₂:Str→Option Value}{L:Addr}{code:Value}{env:Env}{p1 p2 p3:Pos}{gsc:Scope}(N:GN K aq p0)(hqn:Z.mg "quote" = some (.ref aq))(hqk:keepIn K (.ref aq)=true)(hx:iS x=true)(hn:gsc.names=xC)(hk:gsc.kind = .function)(hgl:env.globals=mainGlobals)
  (hh:A.handled=none) (hroom:A.depth<recursionLimit) (X:K.In s.heap) (hlim:s.heap.NoLimit) (hg:s.heap.Ns mainGlobals Z.mg) (hns:s.heap.Ns L m₂) (hm:m₂ "arg" = some (.str ⟨#[x]⟩ tx)) :
  wpAny (model Z.prog Z.w) A (eval (.Call (.Name "quote" p1) [.Name "arg" p2] [] p3) (genEnv gsc [] L code builtinsNs env)) (fun y s'=>(∃ u,y = .str (qS x) u)∧Keeps s s') E s:=by
 have l1:gsc.names.lookup ("quote" : Str)=some .globalImplicit:=by rw[hn]; decide
 have l2:gsc.names.lookup ("arg" : Str)=some .local:=by rw[hn]; decide
 rw[bG]
 refine wpAny_bind (Calls.Name_function_global hk l1 (Calls.loadGlobal_global (mg:=Z.mg) (by show s.heap.Ns env.globals Z.mg; rw[hgl]; exact hg) hqn ?_) (by decide))
 refine callWith_of (P:=K.In) (by rw[(aQ rfl).1]; rfl) (keeps_K hqk) (bJ (Z:=Z) ((aQ rfl).2.1 nofun _ p3) ?_)
 rw[bC rfl]
 show wpAny _ _ (spliced ((false,eval (.Name "arg" p2) (genEnv gsc [] L code builtinsNs env))::backTo p3 (starEach [] (genEnv gsc [] L code builtinsNs env)))) _ _ _
 refine Calls.spliced_cons (wpAny_Name (wpAny_loadName_local hk l2 hns hm (Calls.spliced_nil ⟨X,wpAny_call (codeAny_mono (C5 N hx hh hroom X hlim) fun r s' h=>?_)⟩)) (by decide))
 obtain⟨⟨u,rfl⟩,k⟩:=h
 exact⟨⟨u,rfl⟩,k⟩
theorem XB{h:Heap}{g bi:Addr}{Q:Addr→Shared→Prop}(B:h.BuiltinsAt Z.mg P)(hg:s.heap.Ns g Z.mg)(hk:∀ b o,b≠P→h.get? b=some o→s.heap.get? b=some o)(q:Q builtinsNs s):wpAny (model Z.prog Z.w) A (builtinsFor g bi) Q E s:=by
 obtain⟨bm,ob,hbm,hne0,_,hneP,hbo,hcls,hdict,hdata⟩:=B
 exact wpAny_builtinsFor hg hbm hne0 (hk _ _ hneP hbo) hcls hdict hdata q
noncomputable abbrev JS(l:Addr):Obj:={ cls:=.type "list_iterator",data:=.fields #[.ref l,.int 0 0] }
theorem WL{cs:List Nat}{n:Nat}{lst:List (Str×Tok)}(hn:n=cs.length)(h:ItemsOf (fun j y=>∃ i,(passing (fun _=>true) n 0)[j]? = some i∧∃ x u,cs[i]? = some x∧y = .str (qS x) u) (strValues lst).toArray (passing (fun _=>true) n 0).length):lst.map (·.1)=cs.map qS:=by
 rw[vN,List.length_range,hn]at h
 have hl:lst.length=cs.length:=by simpa [strValues]using h.1
 refine List.ext_getElem? fun j=>?_
 rcases Nat.lt_or_ge j lst.length with hj | hj
 ·obtain⟨i,hi,x,u,hx,he⟩:=h.2 j (.str (lst[j]'hj).1 (lst[j]'hj).2) (by simp[strValues,hj])
  rw[List.getElem?_range (hl▸hj)]at hi
  cases hi
  injection he with he1 _
  rw[List.getElem?_map,List.getElem?_map,hx,List.getElem?_eq_getElem hj,Option.map_some,Option.map_some,he1]
 ·rw[List.getElem?_eq_none (by rw[List.length_map]; exact hj),List.getElem?_eq_none (by rw[List.length_map,← hl]; exact hj)]
theorem N5(GK:gK Z K c P gp)(hK:∀ h,Z.TabI h→K.In h){aq p0:Addr}(N:GN K aq p0)(hqn:Z.mg "quote" = some (.ref aq))(hqk:keepIn K (.ref aq)=true){cs:List Nat}(hcs:∀ x∈cs,iS x=true)(hlen:cs.length≤900)(hfit:JoinOk " " (cs.map qS)=true)
  {env:Env} {p1 p2 p3 p4 p5 gpos:Pos} {gsc:Scope} {l:Addr} {items:Array Value} {m:Str→Option Value} {t0:Tok} {Q:Value→Shared→Prop} (hp:gpos.line=gp.1∧gpos.col=gp.2) (hn:gsc.names=xC) (hk:gsc.kind = .function) (hco:gsc.isCoroutine=false)
  (hkd:env.scope.kind = .function) (hsc:env.kindOf "split_command" = some .local) (hns:s.heap.Ns env.locals m) (hm:m "split_command" = some (.ref l)) (hl:s.heap.IsList l items) (hcode:env.code = .ref c) (hgl:env.globals=mainGlobals)
  (hA:A.handled=none) (hroom:A.depth+1<recursionLimit) (hI:aZ Z s) (hsz0:Z.n≤s.heap.objs.size) (hPl:l≠P) (hil:items.size=cs.length) (hiw:∀(i:Nat)v,items[i]? = some v→∃ x t,cs[i]? = some x∧v = .str ⟨#[x]⟩ t)
  (hQ:∀ s' t,aZ Z s'→(∀ b o,b≠P→s.heap.get? b=some o→s'.heap.get? b=some o)→Q (.str (Str.join " " (cs.map qS)) t) s') :
  wpAny (model Z.prog Z.w) A (eval (I5 p1 p2 p3 p4 p5 gsc gpos) env) (fun g s'=>wpAny (model Z.prog Z.w) A (call (.builtin "str.join") [.str " " t0,g]) Q E s') E s:=by
 have hclo:closureFor gsc env=pure []:=by unfold closureFor; rw[hn]; rfl
 refine wpAny_GeneratorExp_walksQD (cl:=[]) hA hco hclo (by rw[hn]; decide) (by rw[hn]; decide) (by rw[hn]; decide) hk (Nat.lt_of_succ_lt hroom) ?_ (fun _=>rfl)
 refine wpAny_Name (wpAny_loadName_local hkd hsc hns hm ?_) (by decide)
 have I2:aZ Z { s with heap:=s.heap.push (JS l) }:=hI.push _ s.toks
 refine wpAny_pyIter_list hl ⟨I2.lim,N6 GK I2 hcode hp fun code h₃ tk₃ hx hsz hold htab=>?_⟩
 have hit:=Heap.get?_push_size (h:=s.heap) (o:=JS l) rfl
 have hPs:P<s.heap.objs.size:=let⟨_,e,_⟩:=GK.tab _ hI.tab; Heap.lt_size e
 have hlt:l<s.heap.objs.size:=let⟨_,e,_⟩:=hl; Heap.lt_size e
 have hk3:∀ b o,b≠P→s.heap.get? b=some o→h₃.get? b=some o:=fun b o hb e=>hx b o hb (Heap.get?_push_of_some _ e)
 have hs3:s.heap.objs.size<h₃.objs.size:=Nat.lt_of_lt_of_le (Heap.size_push s.heap (JS l)▸Nat.lt_succ_self _) hsz
 refine XB (CS GK.bm hI.old) (by rw[hgl]; exact hI.glob.at' fun o e=>hk3 _ o GK.ne.1.symm e) hk3 ?_
 refine⟨s.heap.objs.size,[s.heap.objs.size,l],[s.heap.objs.size],items.size,_,_,fun _=>true,fun i y=>∃ x u,cs[i]? = some x∧y = .str (qS x) u,rfl,fun A' hA'=>Walks.list hA' _ _ (Nat.ne_of_lt hlt) items,
  ⟨⟨_,hx _ _ (fun e=>Nat.ne_of_lt hPs e.symm) hit,rfl,rfl⟩,let⟨o',e,r⟩:=hl; ⟨o',hk3 _ _ hPl e,r⟩⟩,fun b hb=>(List.mem_cons.mp hb).elim (fun e=>e▸hs3) fun hb=>(List.mem_singleton.mp hb).symm▸Nat.lt_trans hlt hs3,KU hI.lim GK.ne.2 hk3,fun h=>Nat.ne_of_lt (let⟨_,hn,_⟩:=hI.lim; hn.lt) (List.mem_singleton.mp h),
  fun href hhref=>⟨fun A' E' i v t m₂ _ _ _ _ _ _ _=>by rw[List.forIn_nil]; exact wpAny_pure ⟨rfl,_,_,rfl,fun _ _ e=>e⟩,fun A' E' i v t m₂ hA' hD _ hPi _ hns' hm' hk'=>?_⟩,fun a h₅ tk gs hgb hag hsz₅ hk₅ W hat=>?_⟩
 ·obtain⟨x,tx,hx',rfl⟩:=hiw i v hPi
  have hk2:∀ b o,b≠P→s.heap.get? b=some o→t.heap.get? b=some o:=fun b o hb e=>hk' b (List.mem_range.mpr (Nat.lt_trans (Heap.lt_size e) hs3)) (fun h=>Nat.ne_of_lt (Heap.lt_size e) (List.mem_singleton.mp h)) o (hhref b o (hk3 b o hb e))
  refine wpAny_mono (RT N hqn hqk (hcs x (List.mem_of_getElem? hx')) hn hk hgl hA' (Nat.lt_of_le_of_lt hD hroom) (fun b o e=>hk2 b o (fun e'=>nomatch (e'▸GK.out).symm.trans e) (hK _ hI.tab b o e)) (KU hI.lim GK.ne.2 hk2) (hI.glob.at' fun o e=>hk2 _ o GK.ne.1.symm e) hns' hm') (fun y s' h=>?_) fun _ _ e=>e
  obtain⟨⟨u,hu⟩,k⟩:=h
  exact⟨⟨x,u,hx',hu⟩,k⟩
 ·have hn':(passing (fun _=>true) items.size 0).length=cs.length:=by rw[vN,List.length_range,hil]
  have hge:∀ b∈[h₃.objs.size,s.heap.objs.size],s.heap.objs.size≤b:=fun b hb=>(List.mem_cons.mp hb).elim (fun e=>e▸Nat.le_of_lt hs3) fun hb=>List.mem_singleton.mp hb▸Nat.le_refl _
  refine SC.joinGen W.in4_2 (fun i s' st=>st.1.typeIs) hat (fun b hb=>?_) List.mem_cons_self (fun i v hv=>?_) (fun s'' lst hmo hit=>?_) (by rw[hn']; exact Nat.le_trans hlen (by decide))
  ·show b<h₅.objs.size
   rw[hsz₅]
   exact(List.mem_cons.mp hb).elim (fun e=>e▸Nat.lt_succ_self _) fun hb=>(List.mem_cons.mp hb).elim (fun e=>e▸Nat.lt_succ_of_lt hag) fun hb=>Nat.lt_succ_of_lt (Nat.lt_trans (List.mem_range.mp hb) hag)
  ·obtain⟨_,_,x,u,_,e⟩:=hv
   exact⟨_,_,e⟩
  ·rw[WL hil hit,show Txt.join " " (cs.map qS)=Str.join " " (cs.map qS)from StrLaws.glued_eq_join _ _]
   have hm:∀ b o,b<s.heap.objs.size→h₅.get? b=some o→s''.heap.get? b=some o:=fun b o hb e=>hmo.heap b o (fun hw=>Nat.not_lt.mpr (hge b hw) hb) e
   have hkw:∀ b o,b≠P→s.heap.get? b=some o→s''.heap.get? b=some o:=fun b o hb e=>hm b o (Heap.lt_size e) (hk₅ b o (hk3 b o hb e))
   exact⟨hfit,fun t' k=>hQ _ _ (GK.inv hI hkw (OldK.stepOld (hold.step_keeps hk₅) fun b o hb e=>hm b o (Nat.lt_of_lt_of_le hb hsz0) e) ((htab.keeps hk₅).imp fun _ x=>x.imp_left (hm _ _ hPs)) (hmo.gens.bare (hI.gens.push hgb)) hmo.os) hkw⟩
theorem H3(hlam:Z.lam=qO K)(hK:∀ h,Z.TabI h→K.In h)(hK0:K.In Z.h₀)(GK:gK Z K c P gp){a aq p0:Addr}(J:PJ K a c gp)(hbo:f4 K a GH I4)(hck:eN K (fun _ _=>true) a GH I4=true)(N:GN K aq p0)(hqn:Z.mg "quote" = some (.ref aq))(hqk:keepIn K (.ref aq)=true)
  {cs:List Nat} (hcs:∀ x∈cs,iS x=true) (hlen:cs.length≤900) {vs:List Value} {as:List Addr} {Q:Value→Shared→Prop} (hA:fG Z 20 A) (hI:aZ Z s) (hsz:Z.n≤s.heap.objs.size) (r:aU s.heap vs [.list (cs.map wD)] as) (hok:cD (cs.map wD)=true)
  (hQ:∀ v s',aZ Z s'→Kp Z.n s.heap s'.heap→Rd s'.heap v (.str (Str.join " " (cs.map qS))) []→bL (.str (Str.join " " (cs.map qS)))=true→Q v s'):wpAny (model Z.prog Z.w) A (call (.ref a) vs) Q E s :=
 kD (m:=fun vs _=>wpAny (model Z.prog Z.w) A (call (.ref a) vs) Q E s) r fun v bs rv=>by
 obtain⟨l,items,n,sl,cs',rfl,hl,hr,_⟩:=eF rv
 obtain⟨hil,hiw⟩:=MQ hr
 obtain⟨o,fd,body,j1,j2,j3,hcode,hjb⟩:=CF J
 obtain⟨fd',body',FF,_⟩:=dQ hlam hK hK0 hbo hck
 obtain⟨o',f1,_,f3⟩:=FF.obj
 cases(hK0 _ _ j1).symm.trans f1
 cases j2.symm.trans f3
 cases j3.symm.trans FF.body
 obtain⟨k0,q0,apos,p1,p2,p3,p4,p5,gpos,pos,rpos,gsc,rfl,hline,hp,g3,g4,g5⟩:=hjb
 obtain⟨dv,hdv,hb⟩:=FF.bind
 cases hdv
 have hb:BindsTo s fd ⟨[.ref l],[]⟩ ((GH.take I4.arity).zip [.ref l]):=hb s [.ref l] hI.tab (Nat.le_refl _) (Nat.le_refl _)
 refine wpAny_call (B6 (D:=⟨Z,fun _=>none,fun _ _ _=>none,fun _ _ _=>none,1,GH⟩) (ρ:=[none]) (μ:=[]) (st:=[]) FF hb rfl (fun x v h=>by cases x with | zero=>cases h | succ x=>cases h) (hA.mono (show 8*(1+1)≤20 by decide)) hI hsz ⟨rfl,.nil,nofun,fun k x f h=>nomatch h⟩ fun env s₁ _ C out hx=>hx.2.2.elim fun m hm=>?_)
 have henv:=hx.1
 have hk1:=hx.2.1
 have hml:m "split_command" = some (.ref l):=hm.2 0 _ rfl
 have hP0:∀ b ob,s₁.heap.get? b=some ob→(ob.cls ≠ .none∨Z.n≤b)→b≠P:=fun b ob e h e'=>by
  obtain⟨ps,hP,_⟩:=GK.tab _ C.hi.tab
  subst e'
  cases hP.symm.trans e
  exact h.elim (fun h=>h rfl) fun h=>Nat.not_lt.mpr h (Heap.lt_size GK.tab₀)
 have hpl:aX [I5 p1 p2 p3 p4 p5 gsc gpos]:=aQ rfl
 refine wpAny_execs_cons (wpAny_Return_some (wpAny_Call_method_lateS (aS rfl _ _ _) (iW hpl (Nat.le_of_ble_eq_true rfl)) hline ?_))
 rw[arm_eval_Constant]
 refine wpAny_mkText ⟨"str",_,F.plainAttrs_str,F.slot_str_join,F.type_str_join,typeIs_str _ _ _,nofun,aR nofun (hpl.1 env pos) (bJ (Z:=Z) (hpl.2.1 nofun env pos) ?_)⟩
 rw[bC rfl]
 show wpAny _ _ (spliced ((false,eval (I5 p1 p2 p3 p4 p5 gsc gpos) env)::backTo pos (starEach [] env))) _ _ _
 refine Calls.spliced_cons (wpAny_mono (N5 (Z:=Z.at (env.locals::Z.fr)) (GK.at _) hK N hqn hqk hcs hlen (v3 hlen hok).1 hp g3 g4 g5 (C.he.kind) (henv▸FF.params _ (by decide)) hm.1 hml ⟨_,hk1 _ _ hl,rfl,_,rfl⟩ (henv▸hcode) C.he.glob C.ha.handled (Nat.lt_of_le_of_lt (Nat.add_le_add (Nat.le_add_right _ _) (by decide:1≤20)) C.ha.depth) (C.hi.tok _) C.he.size (hP0 l _ (hk1 _ _ hl) (.inl nofun)) (hil▸rfl) (fun i v e=>hiw i v (Array.getElem?_toList▸e)) fun s' t I' hk'=>?_) (fun _ _ h=>Calls.spliced_nil h) fun _ _ e=>e)
 have o':=out (so:=[]) (μ':=[]) (s':=s') ⟨I',⟨List.prefix_rfl,fun b ob e h _ _=>.inl (hk' b ob (hP0 b ob e h) e),nofun⟩,⟨rfl,.nil,nofun,fun k x f h=>nomatch h⟩⟩
 exact hQ _ _ o'.i ⟨fun b ob e h=>o'.t.keep b ob e h nofun id⟩ (.str _ _) (v3 hlen hok).2
end
theorem LR{p:Program}{loose:List Str}{mean:ExcName→Option Value}{mg mb:Str→Option Value}{h₀:Heap}{P:Addr}(T:Top p loose mean mg mb h₀)(hP:h₀.get? P=some (tabObj #[])):(P≠mainGlobals∧P≠cStatics)∧h₀.BuiltinsAt mg P:=by
 have hn:∀{a m},h₀.Ns a m→P≠a:=fun x e=>by
  obtain⟨o,es,ep,e1,e2,_⟩:=x
  rw[← e,hP]at e1; cases e1; cases e2
 obtain⟨mc,hc,_⟩:=T.nolimit
 refine⟨⟨hn T.g,hn hc⟩,?_⟩
 obtain⟨bm,ob,h1,h2,h3,h4,h5,h6⟩:=T.bmain
 refine⟨bm,ob,h1,h2,fun e=>?_,fun e=>?_,h3,h4,h5,h6⟩
 ·obtain⟨o,es,ep,e1,e2,_⟩:=T.g
  rw[← e,h3]at e1; cases e1; rw[h6]at e2; cases e2
 ·rw[e,hP]at h3; cases h3; cases h6
structure gA(Z:aE)(K:Frag)(lp gp:Nat×Nat)(c1 P1 c2 P2:Addr):Prop where
 hK:∀ h,Z.TabI h→K.In h
 hK0:K.In Z.h₀
 tab₀:Z.TabI Z.h₀
 lam:Z.lam = .ref c1
 lok:gK Z K c1 P1 lp
 gok:gK Z K c2 P2 gp
 mb:∀ x:Str,x ≠ "__name__" → Z.mb x=bootBuiltins x
theorem PK{prog:Program}{w:World}{p:Program}{loose:List Str}{mean:ExcName→Option Value}{mg mb:Str→Option Value}{s:Shared}{K:Frag}{lp gp:Nat×Nat}{c1 P1 c2 P2:Addr}(T:Top p loose mean mg mb s.heap)(X:K.In s.heap)(e1:s.heap.get? P1=some (tabObj #[]))(e2:s.heap.get? P2=some (tabObj #[]))
  (h1:codeHdIn K c1 P1=true) (h2:codeHdIn K c2 P2=true) (n1:K.lookup P1=none) (n2:K.lookup P2=none) (ne:P1≠P2) :
  ∃ Z:aE,gA Z K lp gp c1 P1 c2 P2∧(Z.prog=prog∧Z.w=w∧Z.h₀=s.heap∧Z.os=s.os)∧Z.mg=mg∧Z.fr=[]:=by
 have l1:=Heap.lt_size e1
 have l2:=Heap.lt_size e2
 refine⟨{
  prog:=prog,w:=w,h₀:=s.heap,os:=s.os,mg:=mg,mb:=mb,hg:=T.g,hb:=T.b,fr:=[],lam:=.ref c1
  TabI:=fun h=>K.In h∧gY P1 lp h∧gY P2 gp h
  tabK:=fun h h' x k=>⟨fun a o e=>k a o (Heap.lt_size (X a o e)) (x.1 a o e),x.2.1.imp fun _ y=>y.imp_left (k _ _ l1),x.2.2.imp fun _ y=>y.imp_left (k _ _ l2)⟩ },?_,⟨rfl,rfl,rfl,rfl⟩,rfl,rfl⟩
 obtain⟨a1,b1⟩:=LR T e1
 obtain⟨a2,b2⟩:=LR T e2
 exact{
  hK:=fun h x=>x.1
  hK0:=X
  tab₀:=⟨X,⟨_,e1,.inl rfl⟩,_,e2,.inl rfl⟩
  lam:=rfl
  lok:=⟨codeHd_of_K X h1,e1,n1,a1,b1,fun h x=>x.2.1,fun h h' x k t=>⟨fun a o e=>k a o (fun e'=>by rw[e',n1]at e; cases e) (x.1 a o e),t,x.2.2.imp fun _ y=>y.imp_left (k _ _ ne.symm)⟩⟩
  gok:=⟨codeHd_of_K X h2,e2,n2,a2,b2,fun h x=>x.2.2,fun h h' x k t=>⟨fun a o e=>k a o (fun e'=>by rw[e',n2]at e; cases e) (x.1 a o e),x.2.1.imp fun _ y=>y.imp_left (k _ _ ne),t⟩⟩
  mb:=T.builtins }
noncomputable def yP(K:Frag)(n:Str):Bool:=gT (K.lookup mainGlobals) fun o=>sO o.data fun es _=>(nsFind es n).isNone
structure fF(K:Frag)(lp gp:Nat×Nat)(c1 P1 c2 P2:Addr)(C8 a8 C9 f9 q9 a9 aj aq p0:Addr):Prop where
 b:(([codeHdIn K c1 P1,codeHdIn K c2 P2,(K.lookup P1).isNone,(K.lookup P2).isNone,P1 != P2,qO K == .ref c1,TH K,sP.all (vT K (XN lp)),(gU++r8).all fun x=>yP K x.1,yP K "ValueError",
  eN K (fun sc body=>eM K (pP K) (lY K) (XN lp cN) cN sc dW.body body) a8 cN dW,eK K "join_shlex" == some (.ref aj),eN K (fun _ _=>true) aj GH I4,eK K "quote" == some (.ref aq),keepIn K (.ref aq)]:List Bool).all id)=true
 bd:(mD sP fun p=>fB (lY K p.1) fun a=>f4 K a p.2.1 p.2.2)∧f4 K a8 cN dW∧f4 K aj GH I4∧u9 K (pP K)
 cls:LV K C8 a8 C9 f9 q9 a9
 j:PJ K aj c2 gp
 q:GN K aq p0
section
variable{Z:aE}{K:Frag}{lp gp:Nat×Nat}{c1 P1 c2 P2:Addr}{C8 a8 C9 f9 q9 a9 aj aq p0:Addr}
theorem wA(X:K.In Z.h₀){n:Str}(h:yP K n=true):Z.mg n=none:=by
 obtain⟨o,hk,h⟩:=eG h
 obtain⟨es,m,hd,h⟩:=EY h
 obtain⟨o',es',ep,e,hd',_,hall⟩:=Z.hg
 cases(X _ _ hk).symm.trans e
 cases hd.symm.trans hd'
 exact(hall n).symm.trans (Option.isNone_iff_eq_none.mp h)
theorem R8:((gU++r8).all fun x=>bootBuiltins x.1==some x.2&&x.1 != ("__name__" : Str))=true:=by kernel_rfl
theorem qW(ZO:gA Z K lp gp c1 P1 c2 P2)(H:fF K lp gp c1 P1 c2 P2 C8 a8 C9 f9 q9 a9 aj aq p0){n:Str}{v:Value}(h:(n,v)∈gU++r8):Z.mg n=none∧Z.mb n=some v :=
 have h2:=aA (List.all_eq_true.mp R8 _ h)
 ⟨wA ZO.hK0 (List.all_eq_true.mp (aJ H.b 8 rfl) _ h),(ZO.mb _ (bne_iff_ne.mp h2.2)).trans (eq_of_beq h2.1)⟩
theorem ZV(ZO:gA Z K lp gp c1 P1 c2 P2)(H:fF K lp gp c1 P1 c2 P2 C8 a8 C9 f9 q9 a9 aj aq p0)(F lvl:Nat)(fr:List Addr):bQ (Z.at fr) (pP K) (aL F lvl) (2*lvl) (lY K):=by
 have hB:fZ Z:=fun n v h=>qW ZO H (List.mem_append_left _ h)
 have hl:Z.lam=qO K:=ZO.lam.trans (eq_of_beq (aJ H.b 5 rfl)).symm
 have hX:sY Z (pP K) (lY K) (XN lp) (eI F):=WI ZO.hK ZO.hK0 hl hB H.bd.2.2.2 ZO.lok ZO.lam (aJ H.b 6 rfl)
 exact fun{f a args st v st'}h1 h2{A s vs μ R}=>Q2 (fuel:=F) ZO.hK ZO.hK0 hB (KS hl ZO.hK ZO.hK0 H.bd.1 (aJ H.b 7 rfl)) (Q8 ZO.hK ZO.hK0 hl hB H.cls (aJ H.b 10 rfl) H.bd.2.1 hX) hX lvl fr h1 h2
end
noncomputable def w4:List PyData→Option (List Nat)
 | []=>some []
 | x::r=>qQ x fun s=>j6 s.cps.toList fun c t=>oQ t ((w4 r).map (c :: ·))
theorem vE:∀{xs:List PyData}{cs:List Nat},w4 xs=some cs→xs=cs.map wD
 | [],_,h=>by cases h; rfl
 | x::r,cs,h=>jR h fun s es h=>l5 h fun c t ec h=>m8 h fun et h=>bY h fun cs' h1 e=>by
  have e2:s=⟨#[c]⟩:=congrArg Str.mk (Array.toList_inj.mp (ec.trans (congrArg (c :: ·) et)))
  rw[← e,es,e2,vE h1]; rfl
noncomputable def sT:List OV→Option (List PyData)
 | []=>some []
 | v::r=>qL v fun x=>if flat x&&bL x then(sT r).map (x :: ·)else none
noncomputable def oU(F:Nat)(x:Str):Option PyData:=(aL F 6 15 [.d (.str x)] []).bind fun r=>IY r.1 fun k=>fL r.2[k]? fun vs=>(sT vs).map .list
noncomputable def oS(F:Nat)(x:Str):Option PyData:=(aL F 6 14 [.d (.str x)] []).bind fun r=>qL r.1 fun d=>if flat d&&bL d then some d else none
noncomputable def zL(xs:List PyData):Option PyData:=(w4 xs).bind fun cs=>if cs.all iS&&decide (cs.length≤900)then some (.str (Str.join " " (cs.map qS)))else none
noncomputable def I7(ded:List PyData→Option PyData)(xs ys:List PyData):Option PyData:=(ded [.list xs]).bind fun a=>(ded [.list ys]).bind fun b=>l4 a fun xs'=>l4 b fun ys'=>if PyData.depthAll xs'≤64 then some (.bool (gX xs' ys'))else none
noncomputable def DU(F:Nat)(ded:List PyData→Option PyData)(n:Str)(args:List PyData):Option PyData:=j6 args fun x r =>
 if n = "split" then oQ r (qQ x (oU F))else if n = "translate" then oQ r (qQ x (oS F))else if n = "join_shlex" then oQ r (l4 x zL)
 else if n = "_compare_args_orderless" then j6 r fun y r'=>oQ r' (l4 x fun xs=>l4 y fun ys=>I7 ded xs ys)else none
theorem IA{μ:List Addr}{h:Heap}{vs:List Value}{xs:List OV}(hv:gH μ vs xs):∀{ds:List PyData},sT xs=some ds→aU h vs ds []∧cD ds=true∧ds.length=xs.length:=by
 induction hv with
 | nil=>intro ds hd; cases hd; exact⟨.nil,rfl,rfl⟩
 | @cons v x vs xs h1 _ ih =>
  exact fun{ds}hd=>jM hd fun d e hd=>hY hd fun hx hd=>bY hd fun ds' h2 ed=>by
   obtain⟨g1,g2,g3⟩:=ih h2
   subst e; subst ed
   exact⟨.cons (as:=[]) (bs:=[]) (pR.rd h1 h).1 g1,Bool.and_eq_true_iff.mpr ⟨(aA hx).2,g2⟩,congrArg (· + 1) g3⟩
noncomputable def CP:List Str:=["first_args", "second_args", "first_unhashable", "second_unhashable", "t", "elem"]
noncomputable def XV(d:Nat)(pf:PF)(f:Nat):Option PF:=if f=d then some pf else none
noncomputable def wR(F d:Nat)(pf:PF):Nat→List PyData→Option PyData:=c7 (XV d pf) (fun _ _=>none) F 1
def DZ(K:Frag)(fn:List Str)(d:Nat):Prop:=l6 K "_compare_args_orderless" CP 2∧((lY K 15).isSome&&((lY K 14).isSome&&tE K (fun sc body=>yM fn CP sc d body) "_compare_args_orderless" CP 2))=true
section
variable{Z:aE}{K:Frag}{lp gp:Nat×Nat}{c1 P1 c2 P2:Addr}{C8 a8 C9 f9 q9 a9 aj aq p0:Addr}{F:Nat}{fn:List Str}{d:Nat}
theorem Ag(hB:fC Z){tab:Nat→Option PF}{pf:PF}(hT:sB Z fn tab)(hd:tab d=some pf)(fr:List Addr):eC (Z.at fr) 1 fn (wR F d pf) :=
 CR (Z:=Z) (c:=0) hB (fun f n pf' hn h=>hY h fun e h=>hT f n pf' hn (by rw[e,hd]; exact h)) (fun fr f n args dd _ _ h=>by cases h) 1 fr
theorem NQ(ZO:gA Z K lp gp c1 P1 c2 P2)(H:fF K lp gp c1 P1 c2 P2 C8 a8 C9 f9 q9 a9 aj aq p0){fr:List Addr}{f:Nat}{a:Addr}(hf:lY K f=some a)(hk:IJ f=[]){x:Str}{v:OV}{st':St}(h:aL F 6 f [.d (.str x)] []=some (v,st')){A:Around}{s:Shared}{vs:List Value}{as:List Addr}{Q E:Value→Shared→Prop}
  (hA:fG (Z.at fr) 100 A) (hI:aZ (Z.at fr) s) (hsz:Z.n≤s.heap.objs.size) (r:aU s.heap vs [.str x] as) (hok:cD [.str x]=true)
  (hQ:∀ w s' μ',dF (Z.at fr) (pP K) jK [] s.heap μ' st' s'→VE μ' w v→Q w s'):wpAny (model Z.prog Z.w) A (call (.ref a) vs) Q E s :=
 kD (m:=fun vs _=>wpAny (model Z.prog Z.w) A (call (.ref a) vs) Q E s) r fun u bs ru=>XQ (m:=fun u=>wpAny (model Z.prog Z.w) A (call (.ref a) [u]) Q E s) ru fun t=>by
 have:=ZV ZO H F 6 fr hf h (A:=A) (s:=s) (vs:=[.str x t]) (μ:=[]) (R:=wants Q E) (hA.mono (show 8*(2*6)≤100 by decide)) hI hsz ⟨rfl,.nil,nofun,fun k x f h=>nomatch h⟩ (.cons (mG (aA hok).1) .nil) fun w s' μ' a g=>hQ w s' μ' a g
 rw[iL hk]at this
 exact wpAny_call this
theorem ZZ{fr:List Addr}{μ':List Addr}{st':St}{s s':Shared}(a:dF (Z.at fr) (pP K) jK [] s.heap μ' st' s'):Kp Z.n s.heap s'.heap:=⟨fun b o e c=>a.t.keep b o e c nofun id⟩
theorem CC(ZO:gA Z K lp gp c1 P1 c2 P2)(H:fF K lp gp c1 P1 c2 P2 C8 a8 C9 f9 q9 a9 aj aq p0):Z.lam=qO K:=ZO.lam.trans (eq_of_beq (aJ H.b 5 rfl)).symm
theorem zZ(ZO:gA Z K lp gp c1 P1 c2 P2)(H:fF K lp gp c1 P1 c2 P2 C8 a8 C9 f9 q9 a9 aj aq p0){f:Nat}{pf:OF}(ht:DX f=some pf)(hs:(lY K f).isSome=true)(hk:IJ f=[]){n:Str}(hg:lY K f=(eK K n).bind eZ){x:Str}{d:PyData}{q:OV×St}
  (hq:aL F 6 f [.d (.str x)] []=some q) {fr:List Addr} (hr:∀{s s':Shared}{μ':List Addr}{w:Value},dF (Z.at fr) (pP K) jK [] s.heap μ' q.2 s'→VE μ' w q.1→∃ bs,Rd s'.heap w d bs∧bL d=true∧∀ y∈bs,∀ o,s.heap.get? y=some o→o.cls = .none):iZ (Z.at fr) 100 n [.str x] d:=by
 obtain⟨a,ha⟩:=Option.isSome_iff_exists.mp hs
 obtain⟨_,fd,_,_,FF,_⟩:=KS (CC ZO H) ZO.hK ZO.hK0 H.bd.1 (aJ H.b 7 rfl) f pf a ht ha
 obtain⟨o,h1,h2,h3⟩:=FF.obj
 exact⟨a,o,fd,aV (hg.symm.trans ha) fun v hv h=>eP ZO.hK0 (hv.trans (congrArg some (Y7 h))),h1,h2,h3,fun A s vs as Q E hA hI hsz r hok hQ=>NQ ZO H ha hk hq hA hI hsz r hok fun w s' μ' a' hv=>let⟨bs,g1,g2,g3⟩:=hr a' hv; hQ w bs s' a'.i (ZZ a') g1 g2 fun y hy=>.inr (g3 y hy)⟩
theorem C7(ZO:gA Z K lp gp c1 P1 c2 P2)(H:fF K lp gp c1 P1 c2 P2 C8 a8 C9 f9 q9 a9 aj aq p0)(h1:(lY K 15).isSome=true){x:Str}{d:PyData}(h:oU F x=some d)(fr:List Addr):iZ (Z.at fr) 100 "split" [.str x] d :=
 aV h fun q hq h=>rT h fun k ek h=>SK h fun ws hw h=>bY h fun ds hds e=>zZ ZO H (f:=15) rfl h1 rfl rfl hq fun a' hv=>by
  subst e
  rw[ek]at hv
  obtain⟨b,items,n,sl,rfl,hb,g1,g2,g3,g4⟩:=a'.so.listAt hw hv
  obtain⟨r1,r2,r3⟩:=IA g2 hds
  exact⟨[b],.list g1 ⟨rfl,rfl⟩ rfl r1,Bool.and_eq_true_iff.mpr ⟨decide_eq_true (r3▸AK g4),r2⟩,fun y hy o e=>by
   rw[List.mem_singleton.mp hy,(a'.t.new b (List.mem_of_getElem? hb) nofun).2.1]at e
   cases e⟩
theorem C6(ZO:gA Z K lp gp c1 P1 c2 P2)(H:fF K lp gp c1 P1 c2 P2 C8 a8 C9 f9 q9 a9 aj aq p0)(h1:(lY K 14).isSome=true){x:Str}{d:PyData}(h:oS F x=some d)(fr:List Addr):iZ (Z.at fr) 100 "translate" [.str x] d :=
 aV h fun q hq h=>jM h fun z ez h=>hY h fun hz e=>zZ ZO H (f:=14) rfl h1 rfl rfl hq fun a' hv=>by
  cases e
  rw[ez]at hv
  exact⟨[],(pR.rd hv _).1,(aA hz).2,nofun⟩
theorem G7(ZO:gA Z K lp gp c1 P1 c2 P2)(H:fF K lp gp c1 P1 c2 P2 C8 a8 C9 f9 q9 a9 aj aq p0){xs:List PyData}{d:PyData}(h:zL xs=some d)(fr:List Addr):iZ (Z.at fr) 100 "join_shlex" [.list xs] d :=
 aV h fun cs hcs h=>hY h fun hc e=>by
  obtain⟨fd',body',FF,_⟩:=dQ (CC ZO H) ZO.hK ZO.hK0 H.bd.2.2.1 (aJ H.b 12 rfl)
  obtain⟨o',o1,o2,o3⟩:=FF.obj
  cases vE hcs
  cases e
  exact⟨aj,o',fd',eP ZO.hK0 (eq_of_beq (aJ H.b 11 rfl)),o1,o2,o3,fun A s vs as Q E hA hI hsz r hok hQ =>
   H3 (Z:=Z.at fr) (CC (Z:=Z) ZO H) ZO.hK ZO.hK0 (ZO.gok.at fr) H.j H.bd.2.2.1 (aJ H.b 12 rfl) H.q (eP ZO.hK0 (eq_of_beq (aJ H.b 13 rfl))) (aJ H.b 14 rfl) (List.all_eq_true.mp (aA hc).1) (of_decide_eq_true (aA hc).2) (hA.mono (by decide)) hI hsz r (aA (aA hok).1).2 fun v s' I k r' ok'=>hQ v [] s' I k r' ok' nofun⟩
theorem MT(ZO:gA Z K lp gp c1 P1 c2 P2)(H:fF K lp gp c1 P1 c2 P2 C8 a8 C9 f9 q9 a9 aj aq p0)(L:DZ K fn d){tab:Nat→Option PF}{pf:PF}(hT:sB Z fn tab)(hd:tab d=some pf)(fr:List Addr){xs ys:List PyData}{dd:PyData}
  (h:I7 (wR F d pf d) xs ys=some dd):iZ (Z.at fr) 100 "_compare_args_orderless" [.list xs,.list ys] dd :=
 aV h fun a1 h1 h=>aV h fun b1 h2 h=>kC h fun xs' ea h=>kC h fun ys' eb h=>hY h fun hdep e=>by
  obtain⟨a,o,fd,body,FI,hb⟩:=l8 ZO.hK0 L.1 (aA (aA L.2).2).2
  cases e
  subst ea eb
  exact⟨a,o,fd,FI.name,FI.obj,FI.cls,FI.data,fun A s vs as Q E hA hI hsz r hok hQ =>
   yX (Z:=Z.at fr) (lvl:=1) (fun n v h=>qW ZO H (List.mem_append_right _ h)) ⟨wA ZO.hK0 (aJ H.b 9 rfl),(ZO.mb _ (by decide)).trans (by kernel_rfl)⟩ (fun fr'=>Ag (fun n v h=>qW ZO H (List.mem_append_right _ h)) hT hd fr') (FI.at fr) hb h1 h2 hdep (hA.mono (by decide)) hI hsz r hok hQ⟩
theorem UE{α:Type}{G c:Prop} [Decidable c] {a b:Option α} {d:α} (h:(if c then a else b)=some d) (k:c→a=some d→G) (k':b=some d→G):G:=by
 by_cases hc:c
 ·exact k hc ((if_pos hc).symm.trans h)
 ·exact k' ((if_neg hc).symm.trans h)
theorem w7{fr:List Addr}{m n:Str}{as bs:List PyData}{d:PyData}(en:n=m)(e:as=bs)(p:iZ (Z.at fr) 100 m bs d):iZ (Z.at fr) 100 n as d:=e▸Eq.subst (motive:=fun m=>iZ (Z.at fr) 100 m bs d) en.symm p
theorem HZ(ZO:gA Z K lp gp c1 P1 c2 P2)(H:fF K lp gp c1 P1 c2 P2 C8 a8 C9 f9 q9 a9 aj aq p0)(L:DZ K fn d){tab:Nat→Option PF}{pf:PF}(hT:sB Z fn tab)(hd:tab d=some pf)(fr:List Addr) :
  CU (Z.at fr) 100 fn tab (fun f args=>(fn[f]?).bind fun n=>DU F (wR F d pf d) n args):=fun f n args dd hn _ h0 =>
 l5 (show DU F (wR F d pf d) n args=some dd from(congrArg (Option.bind · _) hn).symm.trans h0) fun x r er h =>
  UE h (fun n1 h=>m8 h fun e h=>jR h fun y ey h=>w7 n1 (er.trans (congr (congrArg List.cons ey) e)) (C7 ZO H (aA L.2).1 h fr)) fun h =>
  UE h (fun n1 h=>m8 h fun e h=>jR h fun y ey h=>w7 n1 (er.trans (congr (congrArg List.cons ey) e)) (C6 ZO H (aA (aA L.2).2).1 h fr)) fun h =>
  UE h (fun n1 h=>m8 h fun e h=>kC h fun y ey h=>w7 n1 (er.trans (congr (congrArg List.cons ey) e)) (G7 ZO H h fr)) fun h =>
  hY h fun n1 h=>l5 h fun y r' er' h=>m8 h fun e h=>kC h fun xs ex h=>kC h fun ys ey h=>w7 n1 (er.trans (congr (congrArg List.cons ex) (er'.trans (congr (congrArg List.cons ey) e)))) (MT ZO H L hT hd fr h)
end
theorem QB{h:Heap}{a:Addr}{P:Params}{vs:List Value}{ns:List Int}{d:WData}(hw:Well P h (.ref a) d)(hd:∃ xs,d = .list xs)(hl:h.IsList a vs.toArray)(hi:IntsAre vs ns):Rd h (.ref a) (.list (ns.map .int)) [a]:=by
 obtain⟨xs,rfl⟩:=hd
 cases hw with
 | list e _ =>
  obtain⟨o,e',_,n,hdt⟩:=hl
  cases e.symm.trans e'
  rw[(Data.seq.inj hdt).1]at e
  exact .list e ⟨rfl,rfl⟩ rfl (C4 hi)
theorem QZ(ns:List Int):cD (ns.map .int)=true:=cZ.mpr fun d hd=>let⟨_,_,e⟩:=List.mem_map.mp hd; e▸rfl
theorem RN{prog:Program}{w:World}{p:Program}{loose:List Str}{mean:ExcName→Option Value}{mg mb:Str→Option Value}{K:Frag}{lp gp:Nat×Nat}{c1 P1 c2 P2:Addr}{C8 a8 C9 f9 q9 a9 aj aq p0:Addr}{fn:List Str}{d:Nat}{s₁:Shared}{specs:List pF}{tab:Nat→Option PF}{pfd:PF}{F lvl f:Nat}
  (T:Top p loose mean mg mb s₁.heap) (X:K.In s₁.heap) (e1:s₁.heap.get? P1=some (tabObj #[])) (e2:s₁.heap.get? P2=some (tabObj #[])) (H:fF K lp gp c1 P1 c2 P2 C8 a8 C9 f9 q9 a9 aj aq p0) (L:DZ K fn d) (hsb:mD specs fun S=>l6 K S.1 S.2.1 S.2.2.arity) (hs:specs.all (yC K fn)=true) (ht:∀ f n pf,fn[f]? = some n→tab f=some pf→∃ nm,(n,nm,pf)∈specs) (hd:tab d=some pfd) (hgens:AllBare s₁.gens)
  {n:Str} {fa l:Addr} {vs:List Value} {ns:List Int} {E:Value→Shared→Prop} {wd:WData} (hn:fn[f]? = some n) (hm:mg n=some (.ref fa)) (hw:Well w.params s₁.heap (.ref l) wd) (hwd:∃ xs,wd = .list xs) (hl:s₁.heap.IsList l vs.toArray) (hi:IntsAre vs ns) (hns:ns.length≤63)
  (hrun:c7 tab (fun f args=>(fn[f]?).bind fun n=>DU F (wR F d pfd d) n args) F lvl f [.list (ns.map .int)]=some (.bool true)) (hlv:lvl≤100) :
  wpAny (model prog w) callerA (call (.ref fa) [.ref l]) (fun v s'=>v = .bool true∧OldK s₁.heap s'.heap∧s'.os=s₁.os∧AllBare s'.gens) E s₁:=by
 obtain⟨Z,ZO,⟨rfl,rfl,z3,z4⟩,rfl,z7⟩:=PK (prog:=prog) (w:=w) (lp:=lp) (gp:=gp) T X e1 e2 (aJ H.b 0 rfl) (aJ H.b 1 rfl) (Option.isNone_iff_eq_none.mp (aJ H.b 2 rfl)) (Option.isNone_iff_eq_none.mp (aJ H.b 3 rfl)) (bne_iff_ne.mp (aJ H.b 4 rfl))
 have hA:fG Z (lvl+100) callerA:=(⟨rfl,by decide,by decide,[],rfl,fun _ h=>absurd h List.not_mem_nil⟩:fG Z 200 callerA).mono (Nat.add_le_add_right hlv 100)
 have hB:fC Z:=fun n v h=>qW ZO H (List.mem_append_right _ h)
 have hI:aZ Z s₁:=H5 z3.symm T.nolimit (z3▸ZO.tab₀) hgens z4.symm z7
 have hr:aU s₁.heap [.ref l] [.list (ns.map .int)] ([l]++[]):=.cons (QB hw hwd hl hi) .nil
 have hok:cD [.list (ns.map .int)]=true:=Bool.and_eq_true_iff.mpr ⟨Bool.and_eq_true_iff.mpr ⟨decide_eq_true (by rw[List.length_map]; exact Nat.le_trans hns (by decide)),QZ ns⟩,rfl⟩
 have hT:sB Z fn tab:=L6 ZO.hK0 hsb hs ht
 refine wpAny_mono (VN hB hT (fun fr=>HZ ZO H L hT hd fr) hn hm hA hI (by rw[← z3]; exact Nat.le_refl _) hr hok hrun) (fun v s' h=>?_) fun _ _ e=>e
 obtain⟨I,bs,r⟩:=h
 exact⟨xS r,z3▸I.old,I.os.trans z4,I.gens⟩
end Kt.Internal
end
section
open PySem PySem.W PyProof.Rows
namespace Kt.Internal
noncomputable def Df:PF:=⟨3,1,(.cons (.assign 1 (.lit (.str ("a'[ \"*\\]?#-!" : Str)))) (.cons (.ret (.bin .Add (.comp (.idx (.var 1) (.bin .Mod (.bin .Add (.var 0) (.var 2)) (.lit (.int 12)))) (.one 2) (.range1 (.lit (.int 7))) .no .nil) (.list (.cons (.bi .chr (.cons (.bin .Add (.lit (.int 256)) (.bin .Mod (.bin .FloorDiv (.var 0) (.lit (.int 12))) (.lit (.int 50000)))) .nil)) .nil)))) .nil))⟩
noncomputable def Eb:List Str:=["x", "table", "k"]
noncomputable def TD:PI:=(.of (.var 0))
noncomputable def J3:kX:=(.cons (.assign 4 (.bin .Mod (.var 3) (.bi .len (.cons (.var 2) .nil)))) (.cons (.assign 5 (.bin .Mod (.bin .FloorDiv (.var 3) (.bi .len (.cons (.var 2) .nil))) (.lit (.int 4)))) (.cons (.assign 6 (.slc (.var 1) (.yes (.bin .Mult (.lit (.int 2)) (.var 5))) (.yes (.bin .Add (.bin .Mult (.lit (.int 2)) (.var 5)) (.lit (.int 2)))))) (.cons (.assign 7 (.comp (.var 9) (.one 9) (.of (.idx (.var 2) (.var 4))) (.yes (.cmp .NotIn (.var 9) (.var 6))) .nil)) (.cons (.assign 8 (.ite (.cmp .Eq (.var 7) (.idx (.var 2) (.var 4))) (.list (.cons (.bin .Add (.var 7) (.slc (.var 6) .no (.yes (.lit (.int 1))))) (.cons (.bin .Add (.var 7) (.slc (.var 6) (.yes (.lit (.int 1))) .no)) .nil))) (.list (.cons (.var 7) .nil)))) (.cons (.assign 2 (.bin .Add (.bin .Add (.slc (.var 2) .no (.yes (.var 4))) (.var 8)) (.slc (.var 2) (.yes (.bin .Add (.var 4) (.lit (.int 1)))) .no))) .nil))))))
noncomputable def De:PF:=⟨10,2,(.cons (.assign 2 (.list (.cons (.list .nil) .nil))) (.cons (.for_ (.one 3) TD J3) (.cons (.ret (.var 2)) .nil)))⟩
noncomputable def Ea:List Str:=["numbers", "signs", "rules", "x", "r", "place", "pair", "rest", "new", "word"]
noncomputable def Z4:PI:=(.range1 (.lit (.int 4)))
noncomputable def J2:kX:=(.cons (.assign 4 (.me .join (.lit (.str ("" : Str))) (.cons (.comp (.var 5) (.one 5) (.of (.slc (.var 1) (.yes (.bin .Mult (.lit (.int 2)) (.var 3))) (.yes (.bin .Add (.bin .Mult (.lit (.int 2)) (.var 3)) (.lit (.int 2)))))) (.yes (.cmp .In (.var 5) (.var 0))) .nil) .nil))) (.cons (.aug 2 .Add (.ite (.cmp .Eq (.var 4) (.lit (.str ("" : Str)))) (.lit (.str ("?" : Str))) (.ite (.cmp .In (.var 4) (.lit (.str ("*?[" : Str)))) (.bin .Add (.bin .Add (.lit (.str ("[" : Str))) (.var 4)) (.lit (.str ("]" : Str)))) (.var 4)))) .nil))
noncomputable def Dd:PF:=⟨6,2,(.cons (.assign 2 (.lit (.str ("" : Str)))) (.cons (.for_ (.one 3) Z4 J2) (.cons (.ret (.var 2)) .nil)))⟩
noncomputable def Dz:List Str:=["rule", "signs", "pattern", "place", "word", "sign"]
noncomputable def D5:PE:=(.cmp .Lt (.var 2) (.bin .Sub (.bi .len (.cons (.var 0) .nil)) (.lit (.int 3))))
noncomputable def sA:kX:=(.cons (.assign 3 (.cmp .Eq (.idx (.var 0) (.var 2)) (.lit (.str ("[" : Str))))) (.cons (.ife (.cmp .In (.idx (.var 0) (.var 2)) (.lit (.str ("()*+?{|^$" : Str)))) (.cons (.ret (.list .nil)) .nil) .nil) (.cons (.ife (.cmp .Eq (.idx (.var 0) (.var 2)) (.lit (.str ("." : Str)))) (.cons (.app 1 (.lit .none)) .nil) (.cons (.aug 2 .Add (.ite (.var 3) (.lit (.int 1)) (.lit (.int 0)))) (.cons (.aug 2 .Add (.ite (.cmp .Eq (.idx (.var 0) (.var 2)) (.lit (.str ("\\" : Str)))) (.lit (.int 1)) (.lit (.int 0)))) (.cons (.app 1 (.idx (.var 0) (.var 2))) (.cons (.aug 2 .Add (.ite (.var 3) (.lit (.int 1)) (.lit (.int 0)))) (.cons (.ife (.bool true (.var 3) (.cmp .NotEq (.idx (.var 0) (.var 2)) (.lit (.str ("]" : Str))))) (.cons (.ret (.list .nil)) .nil) .nil) .nil)))))) (.cons (.aug 2 .Add (.lit (.int 1))) .nil))))
noncomputable def Dc:PF:=⟨4,1,(.cons (.nil2 1 2 (.int 4)) (.cons (.while_ D5 sA) (.cons (.ret (.ite (.bool true (.cmp .Eq (.slc (.var 0) .no (.yes (.lit (.int 4)))) (.lit (.str ("(?s:" : Str)))) (.cmp .Eq (.slc (.var 0) (.yes (.neg (.lit (.int 3)))) .no) (.lit (.str (")\\Z" : Str))))) (.var 1) (.list .nil))) .nil)))⟩
noncomputable def Dy:List Str:=["text", "parts", "k", "inside"]
noncomputable def Z3:PI:=(.of (.ite (.cmp .Eq (.bi .len (.cons (.var 0) .nil)) (.lit (.int 4))) (.var 1) (.list .nil)))
noncomputable def TP:kX:=(.cons (.ife (.cmp .Eq (.comp (.var 4) (.one 4) (.range1 (.lit (.int 4))) (.yes (.bool true (.cmp .IsNot (.idx (.var 0) (.var 4)) (.lit .none)) (.cmp .NotEq (.idx (.var 0) (.var 4)) (.idx (.var 3) (.var 4))))) .nil) (.list .nil)) (.cons (.app 2 (.var 3)) .nil) .nil) .nil)
noncomputable def Db:PF:=⟨5,2,(.cons (.assign 2 (.list .nil)) (.cons (.for_ (.one 3) Z3 TP) (.cons (.ret (.var 2)) .nil)))⟩
noncomputable def Dx:List Str:=["parts", "names", "taken", "name", "k"]
noncomputable def D4:PE:=(.cmp .Lt (.var 2) (.lit (.int 4)))
noncomputable def D9:kX:=(.cons (.assign 3 (.slc (.var 1) (.yes (.bin .Mult (.lit (.int 2)) (.var 2))) (.yes (.bin .Add (.bin .Mult (.lit (.int 2)) (.var 2)) (.lit (.int 2)))))) (.cons (.assign 4 (.comp (.comp (.var 8) (.one 8) (.of (.var 0)) (.yes (.cmp .In (.var 7) (.var 8))) .nil) (.one 7) (.of (.var 3)) .no .nil)) (.cons (.aug 2 .Add (.lit (.int 1))) (.cons (.ife (.cmp .Eq (.comp (.bi .len (.cons (.var 9) .nil)) (.one 9) (.of (.var 4)) .no .nil) (.list (.cons (.lit (.int 1)) (.cons (.lit (.int 1)) .nil)))) (.cons (.assign 5 (.call 9 (.cons (.bin .Add (.bin .Add (.call 8 (.cons (.idx (.idx (.var 4) (.lit (.int 0))) (.lit (.int 0))) .nil)) (.lit (.str (" " : Str)))) (.call 8 (.cons (.idx (.idx (.var 4) (.lit (.int 1))) (.lit (.int 0))) .nil))) .nil))) (.cons (.assign 6 (.comp (.var 10) (.one 10) (.of (.call 7 (.cons (.var 5) .nil))) (.yes (.cmp .NotIn (.var 10) (.var 3))) .nil)) (.cons (.assign 0 (.bin .Add (.comp (.var 8) (.one 8) (.of (.var 0)) (.yes (.cmp .NotIn (.var 8) (.bin .Add (.idx (.var 4) (.lit (.int 0))) (.idx (.var 4) (.lit (.int 1)))))) .nil) (.list (.cons (.var 6) .nil)))) (.cons (.assign 2 (.lit (.int 0))) .nil)))) .nil) .nil))))
noncomputable def Da:PF:=⟨11,2,(.cons (.assign 2 (.lit (.int 0))) (.cons (.while_ D4 D9) (.cons (.ret (.var 0)) .nil)))⟩
noncomputable def Dw:List Str:=["rules", "signs", "place", "pair", "named", "words", "both", "sign", "rule", "group", "word"]
noncomputable def JV:PI:=(.range2 (.lit (.int 1)) (.bin .Pow (.lit (.int 2)) (.bi .len (.cons (.var 12) .nil))))
noncomputable def D8:kX:=(.cons (.assign 15 (.comp (.var 25) (.one 23) (.range1 (.bi .len (.cons (.var 12) .nil))) (.yes (.cmp .Eq (.bin .Mod (.bin .FloorDiv (.var 13) (.bin .Pow (.lit (.int 2)) (.var 23))) (.lit (.int 2))) (.lit (.int 1)))) (.cons (.one 25) (.of (.idx (.var 12) (.var 23))) .no .nil))) (.cons (.ife (.cmp .Lt (.bin .Mult (.lit (.int 2)) (.bi .len (.cons (.comp (.var 21) (.one 21) (.of (.var 10)) (.yes (.cmp .NotEq (.comp (.var 24) (.one 24) (.of (.var 21)) (.yes (.cmp .In (.var 24) (.var 15))) .nil) (.list .nil))) .nil) .nil))) (.bin .Add (.bi .len (.cons (.var 15) .nil)) (.lit (.int 2)))) (.cons (.ret (.lit (.bool false))) .nil) .nil) .nil))
noncomputable def JU:PI:=(.range1 (.bi .len (.cons (.var 4) .nil)))
noncomputable def D7:kX:=(.cons (.assign 14 (.comp (.var 22) (.one 23) (.of (.var 7)) (.yes (.cmp .NotEq (.var 23) (.var 8))) (.cons (.one 22) (.of (.idx (.var 6) (.var 23))) .no .nil))) (.cons (.ife (.call 11 (.cons (.var 14) (.cons (.var 5) .nil))) (.cons (.assign 7 (.comp (.var 23) (.one 23) (.of (.var 7)) (.yes (.cmp .NotEq (.var 23) (.var 8))) .nil)) .nil) .nil) .nil))
noncomputable def Bm:PF:=⟨26,1,(.cons (.assign 1 (.bin .Add (.slc (.var 0) .no (.yes (.lit (.int 8)))) (.list (.cons (.lit (.int 1)) (.cons (.lit (.int 0)) (.cons (.lit (.int 3)) (.cons (.lit (.int 8)) (.cons (.lit (.int 2)) (.cons (.lit (.int 10)) .nil))))))))) (.cons (.assign 2 (.comp (.bin .Mod (.var 16) (.bin .Pow (.lit (.int 10)) (.lit (.int 9)))) (.one 16) (.of (.slc (.var 1) .no (.yes (.bi .max2 (.cons (.lit (.int 6)) (.cons (.bin .Sub (.bi .len (.cons (.var 1) .nil)) (.lit (.int 6))) .nil)))))) .no .nil)) (.cons (.assign 3 (.call 0 (.cons (.idx (.var 2) (.lit (.int 0))) .nil))) (.cons (.assign 4 (.call 1 (.cons (.slc (.var 2) (.yes (.lit (.int 1))) .no) (.cons (.var 3) .nil)))) (.cons (.assign 5 (.comp (.bin .Add (.bin .Add (.bin .Add (.var 17) (.var 18)) (.var 19)) (.var 20)) (.one 17) (.of (.slc (.var 3) .no (.yes (.lit (.int 2))))) .no (.cons (.one 18) (.of (.slc (.var 3) (.yes (.lit (.int 2))) (.yes (.lit (.int 4))))) .no (.cons (.one 19) (.of (.slc (.var 3) (.yes (.lit (.int 4))) (.yes (.lit (.int 6))))) .no (.cons (.one 20) (.of (.slc (.var 3) (.yes (.lit (.int 6))) .no)) .no .nil))))) (.cons (.assign 6 (.comp (.call 4 (.cons (.call 3 (.cons (.call 10 (.cons (.call 2 (.cons (.var 21) (.cons (.var 3) .nil))) .nil)) .nil)) (.cons (.var 5) .nil))) (.one 21) (.of (.var 4)) .no .nil)) (.cons (.assign 7 (.lrg (.bi .len (.cons (.var 4) .nil)))) (.cons (.for_ (.one 8) JU D7) (.cons (.assign 9 (.comp (.comp (.var 23) (.one 23) (.of (.var 7)) (.yes (.cmp .In (.var 22) (.idx (.var 6) (.var 23)))) .nil) (.one 22) (.of (.var 5)) .no .nil)) (.cons (.ife (.bool false (.cmp .In (.list .nil) (.var 9)) (.cmp .NotEq (.comp (.var 23) (.one 23) (.of (.var 7)) (.yes (.cmp .NotIn (.list (.cons (.var 23) .nil)) (.var 9))) .nil) (.list .nil))) (.cons (.ret (.lit (.bool false))) .nil) .nil) (.cons (.assign 10 (.comp (.idx (.var 4) (.var 23)) (.one 23) (.of (.var 7)) .no .nil)) (.cons (.assign 11 (.comp (.var 24) (.one 21) (.of (.var 10)) .no (.cons (.one 24) (.of (.var 21)) .no .nil))) (.cons (.assign 12 (.comp (.slc (.var 3) (.yes (.var 23)) (.yes (.bin .Add (.var 23) (.lit (.int 2))))) (.one 23) (.range3 0 8 2) (.yes (.bool false (.cmp .In (.idx (.var 3) (.var 23)) (.var 11)) (.cmp .In (.idx (.var 3) (.bin .Add (.var 23) (.lit (.int 1)))) (.var 11)))) .nil)) (.cons (.for_ (.one 13) JV D8) (.cons (.ret (.cmp .Is (.cmp .Eq (.call 5 (.cons (.var 10) (.cons (.var 3) .nil))) (.list (.cons (.list .nil) .nil))) (.cmp .Eq (.bi .len (.cons (.var 10) .nil)) (.bin .Add (.bi .len (.cons (.var 12) .nil)) (.lit (.int 1)))))) .nil)))))))))))))))⟩
noncomputable def Dv:List Str:=["script", "drawn", "numbers", "signs", "rules", "names", "taken", "kept", "r", "takers", "cover", "words", "pairs", "mask", "others", "some", "x", "a", "b", "c", "d", "rule", "name", "k", "word", "sign"]
noncomputable def TC:PI:=(.of (.var 0))
noncomputable def Aj:kX:=(.cons (.ife (.cmp .NotIn (.var 2) (.var 1)) (.cons (.app 1 (.var 2)) .nil) .nil) .nil)
noncomputable def SD:PF:=⟨3,1,(.cons (.assign 1 (.list .nil)) (.cons (.for_ (.one 2) TC Aj) (.cons (.ret (.var 1)) .nil)))⟩
noncomputable def Du:List Str:=["unhashable_params", "new_unhashable", "t"]
noncomputable def i7:List pF:=[("_law_signs",Eb,Df),("_law_rules",Ea,De),("_law_pattern",Dz,Dd),("_law_parts",Dy,Dc),("_law_taken",Dx,Db),("_law_melted",Dw,Da),("law",Dv,Bm),("_deduplicate_unhashable",Du,SD)]
noncomputable def BH:List Str:=["_law_signs", "_law_rules", "_law_pattern", "_law_parts", "_law_taken", "_law_melted", "law", "_deduplicate_unhashable", "join_shlex", "split", "translate", "_compare_args_orderless"]
noncomputable def dC(f:Nat):Option PF:=(i7[f]?).map (·.2.2)
theorem L5(f:Nat)(n:Str)(pf:PF)(hn:BH[f]? = some n)(hf:dC f=some pf):∃ nm,(n,nm,pf)∈i7:=by
 obtain⟨⟨m,nm,q⟩,h,e⟩:=Option.map_eq_some_iff.mp hf
 have hl:f<(i7.map (·.1)).length:=by rw[List.length_map]; exact(List.getElem?_eq_some_iff.mp h).1
 have h2:BH[f]? = some m:=(show BH[f]? = (i7.map (·.1)++(["join_shlex", "split", "translate", "_compare_args_orderless"]:List Str))[f]? from rfl).trans ((List.getElem?_append_left hl).trans (by rw[List.getElem?_map,h]; rfl))
 cases hn.symm.trans h2
 cases e
 exact⟨nm,List.mem_of_getElem? h⟩
noncomputable def qX(th ok:Thread→Bool)(st:SharedT→Thread→Option (SharedT×Thread)):Nat→SharedT→Thread→Option SharedT
 | 0,_,_=>none
 | n+1,s,t=>match th t with
  | true=>some s
  | false=>match ok t with
   | false=>none
   | true=>match st s t with
    | some r=>qX th ok st n r.1 r.2
    | none=>none
theorem tO{tb:String→Option Builtin}{p:Program}{w:World}{n₀:Nat}{ann:Option Value}:∀(n:Nat)(s s':SharedT)(t:Thread),qX through (stepOk n₀ ann) (stepT (denote tb) p w) n s t=some s'→topRun tb p w n₀ ann n s.abs t=some s'.abs
 | 0,_,_,_,h=>nomatch h
 | n+1,s,s',t,h=>by
  rw[qX]at h
  rw[topRun]
  cases ht:through t with
  | true=>rw[ht]at h; exact congrArg some (congrArg SharedT.abs (Option.some.inj h))
  | false =>
   rw[ht]at h
   cases hk:stepOk n₀ ann t with
   | false=>rw[hk]at h; cases h
   | true =>
    rw[hk]at h
    cases hs:stepT (denote tb) p w s t with
    | none=>rw[hs]at h; cases h
    | some r=>rw[hs]at h; dsimp only; rw[stepT_spec hs]; exact tO n _ _ _ h
noncomputable def rD(st:SharedT→Thread→Option (SharedT×Thread)):Nat→SharedT→Thread→Option SharedT
 | 0,_,_=>none
 | n+1,s,t=>match t.atExitBegin with
  | some []=>some s
  | some (_::_)=>none
  | none=>match st s t with
   | some r=>rD st n r.1 r.2
   | none=>none
theorem tZ{tb:String→Option Builtin}{p:Program}{w:World}:∀(n:Nat)(s s':SharedT)(t:Thread),rD (stepT (denote tb) p w) n s t=some s'→importEnds tb p w n s.abs t=some s'.abs
 | 0,_,_,_,h=>nomatch h
 | n+1,s,s',t,h=>by
  rw[rD]at h
  rw[importEnds]
  cases ht:t.atExitBegin with
  | some l =>
   rw[ht]at h
   cases l with
   | nil=>exact congrArg some (congrArg SharedT.abs (Option.some.inj h))
   | cons=>cases h
  | none =>
   rw[ht]at h
   cases hs:stepT (denote tb) p w s t with
   | none=>rw[hs]at h; cases h
   | some r=>rw[hs]at h; dsimp only; rw[stepT_spec hs]; exact tZ n _ _ _ h
noncomputable def Ap:List Obj→BT→Nat→Option BT
 | [],t,_=>some t
 | o::r,t,n=>match((t.ins n o).get n).isSome with
  | true=>Ap r (t.ins n o) (n+1)
  | false=>none
theorem EC{life:Life}:∀(os:List Obj)(t t':BT)(n:Nat),Ap os t n=some t'→absHeap t' (n+os.length) life=⟨(absHeap t n life).objs++os.toArray,life⟩
 | [],t,t',n,h=>by cases h; rw[List.length_nil,Nat.add_zero]; exact congrArg (Heap.mk · life) (Array.append_empty (xs:=(absHeap t n life).objs)).symm
 | o::r,t,t',n,h=>by
  rw[Ap]at h
  cases g:((t.ins n o).get n).isSome with
  | false=>rw[g]at h; cases h
  | true =>
   rw[g]at h
   have:=EC (life:=life) r _ _ _ h
   rw[List.length_cons,Nat.add_comm r.length,← Nat.add_assoc,this,absHeap_ins g]
   exact congrArg (Heap.mk · life) (by show(absHeap t n life).objs.push o++r.toArray=_; simp)
noncomputable def BL(s:Shared):Option SharedT:=(Ap s.heap.objs.toList .nil 0).map fun T=>⟨T,s.heap.objs.size,s.heap.life,s.gens,s.drawn,s.toks,s.os⟩
theorem tN{s:Shared}{t:SharedT}(h:BL s=some t):t.abs=s:=by
 obtain⟨T,h',rfl⟩:=Option.map_eq_some_iff.mp h
 have:=EC (life:=s.heap.life) _ _ _ _ h'
 rw[Nat.zero_add,Array.length_toList]at this
 show Shared.mk (absHeap T s.heap.objs.size s.heap.life) _ _ _ _=s
 rw[this]
 exact congrArg (fun h=>Shared.mk h s.gens s.drawn s.toks s.os) (congrArg (Heap.mk · s.heap.life) (show #[]++s.heap.objs.toList.toArray=s.heap.objs by simp))
noncomputable def JW(stI:SharedT→Thread→Option (SharedT×Thread))(fence:Shared→Option Shared)(ok:Thread→Bool)(st:SharedT→Thread→Option (SharedT×Thread))(p:Program)(N:Nat):Option (Shared×SharedT) :=
 (BL (start (opening p)).1).bind fun a=>(rD stI N a (start (opening p)).2).bind fun b=>(fence b.abs).bind fun s₀=>(BL s₀).bind fun c=>(qX through ok st N c (topStub p)).map fun d=>(s₀,d)
theorem ZW{p q:Program}{loose:List Str}{Xt:Shared→Bool}{Y:Shared→Prop}{N m₀:Nat}{ann:Option Value}
  (run:∀ w:World,∃ s₀ s,JW (stepT (denote treeTable) (opening p) w) (fenceModules? p) (stepOk m₀ ann) (stepT (denote treeTable) p w) p N=some (s₀,s) ∧
   ((s₀.heap.isNs mainGlobals&&s₀.gens.size==0)=true∧s₀.heap.objs.size=m₀∧s₀.heap.nsMap mainGlobals "__annotations__" = ann) ∧
   (staticsOk (importedModules p.main.body) s₀.heap s.abs.heap&&namesBound p s.abs.heap&&gensDone s.abs&&laidKept s₀.heap s.abs.heap)=true∧openSeen q loose (importedModules p.main.body) Xt true s.abs=openGood q loose∧Y s.abs) :
  LeftO p q loose Xt Y (fun _=>True) N:=fun w=>by
 obtain⟨s₀,s,h,⟨z1,z2,z3⟩,l1,l2,y⟩:=run w
 obtain⟨a,h1,h⟩:=Option.bind_eq_some_iff.mp h
 obtain⟨b,h2,h⟩:=Option.bind_eq_some_iff.mp h
 obtain⟨s₁,h3,h⟩:=Option.bind_eq_some_iff.mp h
 obtain⟨c,h4,h⟩:=Option.bind_eq_some_iff.mp h
 obtain⟨d,h5,h⟩:=Option.map_eq_some_iff.mp h
 cases h
 have r1:=tZ _ _ _ _ h2
 rw[tN h1]at r1
 have r2:=tO _ _ _ _ h5
 rw[tN h4]at r2
 have t:topFrom treeTable p w N s₀=some s.abs:=by
  unfold topFrom
  rw[z1,z2,z3,r2]
  show(match staticsOk (importedModules p.main.body) s₀.heap s.abs.heap&&namesBound p s.abs.heap&&gensDone s.abs&&laidKept s₀.heap s.abs.heap with | true=>some s.abs | false=>none)=some s.abs
  rw[l1]
 unfold openEnds fencedOpening
 rw[r1,Option.bind_some,h3,Option.bind_some,t]
 exact congrArg some (Prod.ext l2 (eq_true y))
end Kt.Internal
end
section
open PySem PySem.W PyProof.Rows PySem.Calls Builtin
namespace Kt.Internal
def sZ(K:Frag)(a:Addr)(nm:List Str)(pf:OF):Prop:=fB (GC K a) fun fd=>sG pf.arity fun vals=>if pf.arity≤vals.length+(m5 K fd).length then
 ∀ _:Setting,some ((nm.take pf.arity).zip (vals++(m5 K fd).drop ((m5 K fd).length+vals.length - pf.arity)))=some ((nm.take pf.arity).zip (vals++(m5 K fd).drop ((m5 K fd).length+vals.length - pf.arity)))else True
theorem EW{α:Type}{o:Option α}{f:α→Prop}(h:o.isSome=true)(g:∀ x,f x):fB o f:=by
 cases o with
 | none=>cases h
 | some x=>exact g x
theorem CV(k:Nat):∀{P:List Value→Prop},(∀ l,P l)→sG k P:=by
 induction k with
 | zero=>exact fun g=>g []
 | succ k ih=>exact fun g=>⟨g [],fun v=>ih fun l=>g (v::l)⟩
theorem DM(k:Nat):∀{P:List Value→Prop},(∀ l,P l)→mL k P:=by
 induction k with
 | zero=>exact fun g=>g []
 | succ k ih=>exact fun g v=>ih fun l=>g (v::l)
theorem xJ{K:Frag}{a:Addr}{nm:List Str}{pf:OF}(h:(GC K a).isSome=true):sZ K a nm pf:=EW h fun fd=>CV _ fun vals=>by
 split
 ·exact fun _=>rfl
 ·trivial
theorem e9{K:Frag}{a:Addr}{nm:List Str}{pf:OF}(e:f4 K a nm pf=sZ K a nm pf)(h:(GC K a).isSome=true):f4 K a nm pf:=e.mpr (xJ h)
theorem F5{α:Type}{P:α→Prop}{b:α→Bool}{l:List α}(h:l.all b=true)(g:∀ x,b x=true→P x):mD l P:=by
 induction l with
 | nil=>trivial
 | cons x l ih =>
  obtain⟨h1,h2⟩:=Bool.and_eq_true_iff.mp h
  exact⟨g x h1,ih h2⟩
theorem lQ{K:Frag}{l:List (Nat×List Str×OF)}(e:(mD l fun p=>fB (lY K p.1) fun a=>f4 K a p.2.1 p.2.2)=(mD l fun p=>fB (lY K p.1) fun a=>sZ K a p.2.1 p.2.2))(h:(l.all fun p=>gT (lY K p.1) fun a=>(GC K a).isSome)=true):mD l fun p=>fB (lY K p.1) fun a=>f4 K a p.2.1 p.2.2 :=
 e.mpr (F5 h fun p hp=>by
  obtain⟨a,e,h⟩:=eG hp
  rw[e]
  exact xJ h)
def K4(K:Frag)(cA:Nat→Option Addr):Prop:=fB (cA 0) fun C=>(fB ((findIn K (.ref C) "__iter__").bind fun v=>v.bind eZ) fun fi=>sZ K fi pV u6)∧fB ((findIn K (.ref C) "__next__").bind fun v=>v.bind eZ) fun fn=>sZ K fn fW rR
theorem nY{K:Frag}{cA:Nat→Option Addr}(e:u9 K cA=K4 K cA)(h:(gT (cA 0) fun C=>(gT ((findIn K (.ref C) "__iter__").bind fun v=>v.bind eZ) fun fi=>(GC K fi).isSome)&&gT ((findIn K (.ref C) "__next__").bind fun v=>v.bind eZ) fun fn=>(GC K fn).isSome)=true):u9 K cA:=by
 obtain⟨C,e1,h⟩:=eG h
 obtain⟨h1,h2⟩:=Bool.and_eq_true_iff.mp h
 obtain⟨a,e2,h1⟩:=eG h1
 obtain⟨b,e3,h2⟩:=eG h2
 rw[e,K4,e1]
 show fB _ _∧fB _ _
 rw[e2,e3]
 exact⟨xJ h1,xJ h2⟩
def xL(K:Frag)(n:Str)(nm:List Str)(k:Nat):Prop:=fB ((eK K n).bind eZ) fun a=>fB (GC K a) fun _=>mL k fun vals=>(pure ((nm.take k).zip vals):Sem (List (Str×Value)))=pure ((nm.take k).zip vals)
noncomputable def isFn(K:Frag)(n:Str):Bool:=gT ((eK K n).bind eZ) fun a=>(GC K a).isSome
theorem LS{K:Frag}{n:Str}{nm:List Str}{k:Nat}(h:isFn K n=true):xL K n nm k:=by
 obtain⟨a,e,h⟩:=eG h
 have g:fB (GC K a) fun _=>mL k fun vals=>(pure ((nm.take k).zip vals):Sem (List (Str×Value)))=pure ((nm.take k).zip vals):=EW h fun _=>DM _ fun _=>rfl
 rw[xL,e]
 exact g
theorem oA{K:Frag}{n:Str}{nm:List Str}{k:Nat}(e:l6 K n nm k=xL K n nm k)(h:isFn K n=true):l6 K n nm k:=e.mpr (LS h)
theorem lR{K:Frag}{l:List pF}(e:(mD l fun S=>l6 K S.1 S.2.1 S.2.2.arity)=mD l fun S=>xL K S.1 S.2.1 S.2.2.arity)(h:(l.all fun S=>isFn K S.1)=true):mD l fun S=>l6 K S.1 S.2.1 S.2.2.arity:=e.mpr (F5 h fun S hS=>LS hS)
theorem rE{K:Frag}{a p:Addr}(h:∀ k,J7 K a p (k+256))(h1:mD [97,39,91,32,34,42,92,93,63,35,45,98,33] (J7 K a p)):GN K a p:=fun c h0=>by
 rcases Bool.or_eq_true_iff.mp h0 with h0 | h0
 ·exact tM h1 (List.contains_iff_mem.mp h0)
 ·obtain⟨k,e⟩:=Nat.exists_eq_add_of_le' (of_decide_eq_true h0)
  rw[e]
  exact h k
noncomputable def Z1:List Stmt:=[.Return (some (.Call (.Attribute (.Constant (.str " ") 0 ⟨838,11,838,14⟩) "join" ⟨838,11,838,19⟩) [I5 ⟨838,21,838,26⟩ ⟨838,27,838,30⟩ ⟨838,21,838,31⟩ ⟨838,36,838,39⟩ ⟨838,43,838,56⟩ ⟨.function,xC,true,false,[]⟩ ⟨838,20,838,57⟩] [] ⟨838,11,838,58⟩)) ⟨838,4,838,58⟩]
theorem rF{K:Frag}{a c:Addr}(e:PJ K a c (838,20)=(Value.ref c=Value.ref c∧AZ (838,20) Z1)):PJ K a c (838,20):=e.mpr ⟨rfl,0,_,_,_,_,_,_,_,_,_,_,_,rfl,rfl,⟨rfl,rfl⟩,rfl,rfl,rfl⟩
noncomputable def kT(t:SharedT):Frag:=(List.range t.n).filterMap fun a=>if a==70||a==784 then none else((t.tree.get a).bind alive).map fun o=>(a,o)
theorem NN{a:Addr}{o:Obj}{l:Frag}(h:l.lookup a=some o):(a,o)∈l:=by
 induction l with
 | nil=>cases h
 | cons x l ih =>
  rw[List.lookup_cons]at h
  cases e:a==x.1 with
  | true =>
   rw[e]at h
   cases h
   rw[eq_of_beq e]
   exact List.mem_cons_self
  | false =>
   rw[e]at h
   exact List.mem_cons_of_mem _ (ih h)
theorem JC{t:SharedT}{a:Addr}{o:Obj}(hn:a<t.n)(h:(t.tree.get a).bind alive=some o):t.abs.heap.get? a=some o:=by
 obtain⟨o',h1,h2⟩:=Option.bind_eq_some_iff.mp h
 exact(abs_get hn h1).trans h2
theorem Z0(t:SharedT):(kT t).In t.abs.heap:=fun a o h=>by
 obtain⟨b,hb,e⟩:=List.mem_filterMap.mp (NN h)
 split at e
 ·cases e
 ·obtain⟨o',h1,h2⟩:=Option.map_eq_some_iff.mp e
  cases h2
  exact JC (List.mem_range.mp hb) h1
noncomputable abbrev wV(K:Frag):Prop:=fF K (67,46) (838,20) 74 70 788 784 770 694 635 128 132 405 789 797 87∧DZ K BH 7∧(mD i7 fun S=>l6 K S.1 S.2.1 S.2.2.arity)∧i7.all (yC K BH)=true
def Y6(s:Shared):Prop:=∃ K:Frag,K.In s.heap∧wV K∧s.heap.get? 70=some (tabObj #[])∧s.heap.get? 784=some (tabObj #[])
noncomputable abbrev GA:=PySem.Challenge.pw_kt0084_02
noncomputable abbrev r6:OpenRow:=PySem.Challenge.rw_kt0084_02.row
@[irreducible] noncomputable def v6:Program:=view GA [0,1,2,4,5,7,8,10,11,12,14,15,16,17,18,19,20,21,23,24,25,26,28,29,31,33,34,35,36,38,39,41,42,43,44,45,46,47]
noncomputable def xB:List Str:=["twin_re_1_fnmatch", "_special_chars_map", "twin_re_1_shlex", "UnsupportedOperation", "IOBase", "BufferedIOBase", "TextIOBase", "BytesIO", "StringIO", "join_path", "shlex", "split", "join_shlex", "_find_unsafe"]
noncomputable abbrev X6:Shared→Bool:=fun s=>xlAt v6 [] s&&recOk (RowW.records r6.toRowW) s
noncomputable abbrev Cw(p:Program)(w:World):=PySem.W.Fast.tw10156331382660048174 (PySem.W.Fast.tw11892475500146522536 PySem.W.Fast.tw14364793385576792824) p w
@[irreducible] noncomputable def go6(w:World):Option (Shared×SharedT):=JW (Cw (opening GA) w) (PySem.W.Fast.tw14289696077712309145 GA) (PySem.W.Fast.tw6613529449190102663 34 (some (.ref 6))) (Cw GA w) GA 6800
noncomputable abbrev sC(x:Shared×SharedT):Prop :=
 (x.1.heap.isNs mainGlobals&&x.1.gens.size==0)=true∧x.1.heap.objs.size=34∧x.1.heap.nsMap mainGlobals "__annotations__" = some (.ref 6) ∧
 (staticsOk (importedModules GA.main.body) x.1.heap x.2.abs.heap&&namesBound GA x.2.abs.heap&&gensDone x.2.abs&&laidKept x.1.heap x.2.abs.heap)=true ∧
 PySem.W.Fast.tw4187177175401517315 v6 xB (PySem.W.Fast.tw5923862056798008813 GA.main.body) X6 true x.2.abs=openGood v6 xB ∧
 Nat.blt 784 x.2.n=true∧(x.2.tree.get 70).bind alive=some (tabObj #[])∧(x.2.tree.get 784).bind alive=some (tabObj #[])
@[irreducible] noncomputable def x6(w:World)(h:(go6 w).isSome=true):Shared×SharedT:=(go6 w).get h
@[irreducible] noncomputable def K6(w:World)(h:(go6 w).isSome=true):Frag:=kT (x6 w h).2
noncomputable abbrev P6(w:World):Prop:=∃ h:(go6 w).isSome=true,sC (x6 w h)∧wV (K6 w h)
theorem Z8(w:World):∃ h:(go6 ((w.withFollow "comprehension-iter-twice" false).withFollow "special-get-raises" false)).isSome=true,sC (x6 ((w.withFollow "comprehension-iter-twice" false).withFollow "special-get-raises" false) h):=by
 have h:(go6 ((w.withFollow "comprehension-iter-twice" false).withFollow "special-get-raises" false)).isSome=true:=by kernel_rfl
 exact⟨h,by kernel_rfl,by kernel_rfl,by kernel_rfl,by kernel_rfl,by kernel_rfl,by kernel_rfl,by kernel_rfl,by kernel_rfl⟩
theorem Ac(w:World)(h:(go6 ((w.withFollow "comprehension-iter-twice" false).withFollow "special-get-raises" false)).isSome=true):wV (K6 ((w.withFollow "comprehension-iter-twice" false).withFollow "special-get-raises" false) h) :=
 ⟨⟨by kernel_rfl,⟨lQ (by kernel_rfl) (by kernel_rfl),e9 (by kernel_rfl) (by kernel_rfl),e9 (by kernel_rfl) (by kernel_rfl),nY (by kernel_rfl) (by kernel_rfl)⟩,
  ⟨⟨by kernel_rfl,by kernel_rfl,by kernel_rfl⟩,⟨by kernel_rfl,by kernel_rfl,by kernel_rfl⟩,fun prog w A R s x p=>by kernel_rfl,⟨fun prog w A R s x=>by kernel_rfl,fun prog w R s x=>by unfold zR; kernel_rfl⟩,fun S l x p=>(by kernel_rfl:_=(some ((cN.take dW.arity).zip [l,x,.none,p,.bool false])=some ((cN.take dW.arity).zip [l,x,.none,p,.bool false]))).mpr rfl⟩,
  rF (by kernel_rfl),rE (fun k prog w R s tk=>by kernel_rfl) ⟨fun prog w R s tk=>by kernel_rfl,fun prog w R s tk=>by kernel_rfl,fun prog w R s tk=>by kernel_rfl,fun prog w R s tk=>by kernel_rfl,fun prog w R s tk=>by kernel_rfl,fun prog w R s tk=>by kernel_rfl,fun prog w R s tk=>by kernel_rfl,fun prog w R s tk=>by kernel_rfl,fun prog w R s tk=>by kernel_rfl,fun prog w R s tk=>by kernel_rfl,fun prog w R s tk=>by kernel_rfl,fun prog w R s tk=>by kernel_rfl,fun prog w R s tk=>by kernel_rfl,trivial⟩⟩,⟨oA (by kernel_rfl) (by kernel_rfl),by kernel_rfl⟩,lR (by kernel_rfl) (by kernel_rfl),by kernel_rfl⟩
theorem Z7(w:World):∃ h:(go6 ((w.withFollow "comprehension-iter-twice" false).withFollow "special-get-raises" true)).isSome=true,sC (x6 ((w.withFollow "comprehension-iter-twice" false).withFollow "special-get-raises" true) h):=by
 have h:(go6 ((w.withFollow "comprehension-iter-twice" false).withFollow "special-get-raises" true)).isSome=true:=by kernel_rfl
 exact⟨h,by kernel_rfl,by kernel_rfl,by kernel_rfl,by kernel_rfl,by kernel_rfl,by kernel_rfl,by kernel_rfl,by kernel_rfl⟩
theorem Ab(w:World)(h:(go6 ((w.withFollow "comprehension-iter-twice" false).withFollow "special-get-raises" true)).isSome=true):wV (K6 ((w.withFollow "comprehension-iter-twice" false).withFollow "special-get-raises" true) h) :=
 ⟨⟨by kernel_rfl,⟨lQ (by kernel_rfl) (by kernel_rfl),e9 (by kernel_rfl) (by kernel_rfl),e9 (by kernel_rfl) (by kernel_rfl),nY (by kernel_rfl) (by kernel_rfl)⟩,
  ⟨⟨by kernel_rfl,by kernel_rfl,by kernel_rfl⟩,⟨by kernel_rfl,by kernel_rfl,by kernel_rfl⟩,fun prog w A R s x p=>by kernel_rfl,⟨fun prog w A R s x=>by kernel_rfl,fun prog w R s x=>by unfold zR; kernel_rfl⟩,fun S l x p=>(by kernel_rfl:_=(some ((cN.take dW.arity).zip [l,x,.none,p,.bool false])=some ((cN.take dW.arity).zip [l,x,.none,p,.bool false]))).mpr rfl⟩,
  rF (by kernel_rfl),rE (fun k prog w R s tk=>by kernel_rfl) ⟨fun prog w R s tk=>by kernel_rfl,fun prog w R s tk=>by kernel_rfl,fun prog w R s tk=>by kernel_rfl,fun prog w R s tk=>by kernel_rfl,fun prog w R s tk=>by kernel_rfl,fun prog w R s tk=>by kernel_rfl,fun prog w R s tk=>by kernel_rfl,fun prog w R s tk=>by kernel_rfl,fun prog w R s tk=>by kernel_rfl,fun prog w R s tk=>by kernel_rfl,fun prog w R s tk=>by kernel_rfl,fun prog w R s tk=>by kernel_rfl,fun prog w R s tk=>by kernel_rfl,trivial⟩⟩,⟨oA (by kernel_rfl) (by kernel_rfl),by kernel_rfl⟩,lR (by kernel_rfl) (by kernel_rfl),by kernel_rfl⟩
theorem Z6(w:World):∃ h:(go6 ((w.withFollow "comprehension-iter-twice" true).withFollow "special-get-raises" false)).isSome=true,sC (x6 ((w.withFollow "comprehension-iter-twice" true).withFollow "special-get-raises" false) h):=by
 have h:(go6 ((w.withFollow "comprehension-iter-twice" true).withFollow "special-get-raises" false)).isSome=true:=by kernel_rfl
 exact⟨h,by kernel_rfl,by kernel_rfl,by kernel_rfl,by kernel_rfl,by kernel_rfl,by kernel_rfl,by kernel_rfl,by kernel_rfl⟩
theorem Aa(w:World)(h:(go6 ((w.withFollow "comprehension-iter-twice" true).withFollow "special-get-raises" false)).isSome=true):wV (K6 ((w.withFollow "comprehension-iter-twice" true).withFollow "special-get-raises" false) h) :=
 ⟨⟨by kernel_rfl,⟨lQ (by kernel_rfl) (by kernel_rfl),e9 (by kernel_rfl) (by kernel_rfl),e9 (by kernel_rfl) (by kernel_rfl),nY (by kernel_rfl) (by kernel_rfl)⟩,
  ⟨⟨by kernel_rfl,by kernel_rfl,by kernel_rfl⟩,⟨by kernel_rfl,by kernel_rfl,by kernel_rfl⟩,fun prog w A R s x p=>by kernel_rfl,⟨fun prog w A R s x=>by kernel_rfl,fun prog w R s x=>by unfold zR; kernel_rfl⟩,fun S l x p=>(by kernel_rfl:_=(some ((cN.take dW.arity).zip [l,x,.none,p,.bool false])=some ((cN.take dW.arity).zip [l,x,.none,p,.bool false]))).mpr rfl⟩,
  rF (by kernel_rfl),rE (fun k prog w R s tk=>by kernel_rfl) ⟨fun prog w R s tk=>by kernel_rfl,fun prog w R s tk=>by kernel_rfl,fun prog w R s tk=>by kernel_rfl,fun prog w R s tk=>by kernel_rfl,fun prog w R s tk=>by kernel_rfl,fun prog w R s tk=>by kernel_rfl,fun prog w R s tk=>by kernel_rfl,fun prog w R s tk=>by kernel_rfl,fun prog w R s tk=>by kernel_rfl,fun prog w R s tk=>by kernel_rfl,fun prog w R s tk=>by kernel_rfl,fun prog w R s tk=>by kernel_rfl,fun prog w R s tk=>by kernel_rfl,trivial⟩⟩,⟨oA (by kernel_rfl) (by kernel_rfl),by kernel_rfl⟩,lR (by kernel_rfl) (by kernel_rfl),by kernel_rfl⟩
theorem Z5(w:World):∃ h:(go6 ((w.withFollow "comprehension-iter-twice" true).withFollow "special-get-raises" true)).isSome=true,sC (x6 ((w.withFollow "comprehension-iter-twice" true).withFollow "special-get-raises" true) h):=by
 have h:(go6 ((w.withFollow "comprehension-iter-twice" true).withFollow "special-get-raises" true)).isSome=true:=by kernel_rfl
 exact⟨h,by kernel_rfl,by kernel_rfl,by kernel_rfl,by kernel_rfl,by kernel_rfl,by kernel_rfl,by kernel_rfl,by kernel_rfl⟩
theorem Z9(w:World)(h:(go6 ((w.withFollow "comprehension-iter-twice" true).withFollow "special-get-raises" true)).isSome=true):wV (K6 ((w.withFollow "comprehension-iter-twice" true).withFollow "special-get-raises" true) h) :=
 ⟨⟨by kernel_rfl,⟨lQ (by kernel_rfl) (by kernel_rfl),e9 (by kernel_rfl) (by kernel_rfl),e9 (by kernel_rfl) (by kernel_rfl),nY (by kernel_rfl) (by kernel_rfl)⟩,
  ⟨⟨by kernel_rfl,by kernel_rfl,by kernel_rfl⟩,⟨by kernel_rfl,by kernel_rfl,by kernel_rfl⟩,fun prog w A R s x p=>by kernel_rfl,⟨fun prog w A R s x=>by kernel_rfl,fun prog w R s x=>by unfold zR; kernel_rfl⟩,fun S l x p=>(by kernel_rfl:_=(some ((cN.take dW.arity).zip [l,x,.none,p,.bool false])=some ((cN.take dW.arity).zip [l,x,.none,p,.bool false]))).mpr rfl⟩,
  rF (by kernel_rfl),rE (fun k prog w R s tk=>by kernel_rfl) ⟨fun prog w R s tk=>by kernel_rfl,fun prog w R s tk=>by kernel_rfl,fun prog w R s tk=>by kernel_rfl,fun prog w R s tk=>by kernel_rfl,fun prog w R s tk=>by kernel_rfl,fun prog w R s tk=>by kernel_rfl,fun prog w R s tk=>by kernel_rfl,fun prog w R s tk=>by kernel_rfl,fun prog w R s tk=>by kernel_rfl,fun prog w R s tk=>by kernel_rfl,fun prog w R s tk=>by kernel_rfl,fun prog w R s tk=>by kernel_rfl,fun prog w R s tk=>by kernel_rfl,trivial⟩⟩,⟨oA (by kernel_rfl) (by kernel_rfl),by kernel_rfl⟩,lR (by kernel_rfl) (by kernel_rfl),by kernel_rfl⟩
theorem Cq:∀ w:World,P6 w:=by
 have g:∀{w:World},(∃ h:(go6 w).isSome=true,sC (x6 w h))→(∀ h:(go6 w).isSome=true,wV (K6 w h))→P6 w:=fun a b=>let⟨h,s⟩:=a; ⟨h,s,b h⟩
 refine byRow2 "special-get-raises" (P:=P6) (fun w=>?_) fun w=>?_
 ·exact byRow2 "comprehension-iter-twice" (P:=fun w=>P6 (w.withFollow "special-get-raises" false)) (fun w=>g (Z8 w) (Ac w)) (fun w=>g (Z6 w) (Aa w)) w
 ·exact byRow2 "comprehension-iter-twice" (P:=fun w=>P6 (w.withFollow "special-get-raises" true)) (fun w=>g (Z7 w) (Ab w)) (fun w=>g (Z5 w) (Z9 w)) w
theorem WX(w:World):JW (stepT (denote treeTable) (opening GA) w) (fenceModules? GA) (stepOk 34 (some (.ref 6))) (stepT (denote treeTable) GA w) GA 6800=go6 w:=by
 unfold go6
 rw[PySem.W.Fast.te14364793385576792824,PySem.W.Fast.te11892475500146522536,PySem.W.Fast.te10156331382660048174,PySem.W.Fast.te6613529449190102663,PySem.W.Fast.te14289696077712309145]
theorem y6(w:World)(s:Shared×SharedT)(F:sC s)(H:wV (kT s.2)):Y6 s.2.abs :=
 have hn:784<s.2.n:=Nat.le_of_ble_eq_true F.2.2.2.2.2.1
 ⟨kT s.2,Z0 s.2,H,JC (Nat.lt_trans (by decide) hn) F.2.2.2.2.2.2.1,JC hn F.2.2.2.2.2.2.2⟩
theorem ZX:LeftO r6.prog v6 xB X6 Y6 (fun _=>True) 6800:=ZW (p:=GA) fun w=>by
 obtain⟨h,F,H⟩:=Cq w
 refine⟨(x6 w h).1,(x6 w h).2,?_,⟨F.1,F.2.1,F.2.2.1⟩,F.2.2.2.1,?_,y6 w _ F (by unfold K6 at H; exact H)⟩
 ·rw[WX]; unfold x6; exact(Option.some_get h).symm
 ·rw[PySem.W.Fast.te4187177175401517315,PySem.W.Fast.te5923862056798008813]; exact F.2.2.2.2.1
end Kt.Internal
end
section
open PySem PySem.W PyProof.Rows
namespace Kt.Internal
section
variable{cl:iO}{ex:Nat→LO→St→Option (OV×St)}{f n:Nat}{ρ ρ':LO}{st st' st'':St}{s:OS}{ss A:j4}{a b e:OE}{u v w:OV}{r:Option (lU×St)}
theorem aP(h:BD cl ex f s ρ st=some (.next ρ',st'))(g:bN cl ex f ss ρ' st'=r):bN cl ex f (.cons s ss) ρ st=r:=(congrArg (Option.bind · _) h).trans g
theorem tB{c:OE}{B:j4}(h:jW cl ex c ρ st=some (true,st'))(g:bN cl ex f A ρ st'=some (.next ρ',st''))(k:bN cl ex f ss ρ' st''=r):bN cl ex f (.cons (.ife c A B) ss) ρ st=r :=
 aP ((congrArg (Option.bind · _) h).trans g) k
theorem bU{c:OE}{B:j4}(h:jW cl ex c ρ st=some (false,st'))(g:bN cl ex f B ρ st'=some (.next ρ',st''))(k:bN cl ex f ss ρ' st''=r):bN cl ex f (.cons (.ife c A B) ss) ρ st=r :=
 aP ((congrArg (Option.bind · _) h).trans g) k
theorem DD{c:OE}{B:j4}(h:jW cl ex c ρ st=some (true,st'))(g:bN cl ex f A ρ st'=some (.ret v,st'')):bN cl ex f (.cons (.ife c A B) ss) ρ st=some (.ret v,st'') :=
 have e:BD cl ex f (.ife c A B) ρ st=some (.ret v,st''):=(congrArg (Option.bind · _) h).trans g
 congrArg (Option.bind · _) e
theorem i8{x:Nat}(h:cK cl ex e ρ st=some (v,st')):BD cl ex f (.assign x e) ρ st=some (.next (ρ.set x (some v)),st'):=congrArg (Option.map _) h
theorem q4(h:cK cl ex e ρ st=some (v,st')):bN cl ex f (.cons (.ret e) ss) ρ st=some (.ret v,st'):=congrArg (fun o=>Option.bind (Option.map (fun p:OV×St=>(lU.ret p.1,p.2)) o) _) h
theorem BZ{lo hi:OO}{x y:Option Int}(ha:cK cl ex a ρ st=some (v,st))(h1:XS cl ex lo ρ st=some (x,st))(h2:XS cl ex hi ρ st=some (y,st))(hs:IV v x y=some u):cK cl ex (.slc a lo hi) ρ st=some (u,st) :=
 (congrArg (Option.bind · _) ha).trans ((congrArg (Option.bind · _) h1).trans ((congrArg (Option.bind · _) h2).trans (congrArg (Option.map _) hs)))
theorem VY{op:Operator}(ha:cK cl ex a ρ st=some (v,st))(hb:cK cl ex b ρ st=some (w,st))(hs:GL op v w=some u):cK cl ex (.bin op a b) ρ st=some (u,st) :=
 (congrArg (Option.bind · _) ha).trans ((congrArg (Option.bind · _) hb).trans (congrArg (Option.map _) hs))
theorem B0(ha:cK cl ex a ρ st=some (v,st))(hb:cK cl ex b ρ st=some (w,st))(hs:fN st v w=some u):cK cl ex (.idx a b) ρ st=some (u,st) :=
 (congrArg (Option.bind · _) ha).trans ((congrArg (Option.bind · _) hb).trans (congrArg (Option.map _) hs))
theorem sL{op:CmpOp}(ha:cK cl ex a ρ st=some (v,st))(hb:cK cl ex b ρ st=some (w,st))(hs:BI op v w=some u):cK cl ex (.cmp op a b) ρ st=some (u,st) :=
 (congrArg (Option.bind · _) ha).trans ((congrArg (Option.bind · _) hb).trans (congrArg (Option.map _) hs))
theorem B1{t:Bool}(h:cK cl ex e ρ st=some (.d (.bool t),st)):jW cl ex e ρ st=some (t,st):=congrArg (Option.bind · _) h
end
noncomputable def X8(test:LO→St→Option (Bool×St))(body:LO→St→Option (lU×St))(n:Nat)(r:lU×St):Option (lU×St):=match r.1 with
 | .next ρ | .cont ρ=>cP test body n ρ r.2
 | .brk ρ=>some (.next ρ,r.2)
 | .ret v=>some (.ret v,r.2)
theorem gB{test:LO→St→Option (Bool×St)}{body:LO→St→Option (lU×St)}{n:Nat}{ρ:LO}{st:St}{r:lU×St}(ht:test ρ st=some (true,st))(hb:body ρ st=some r):cP test body (n+1) ρ st=X8 test body n r :=
 (congrArg (Option.bind · _) ht).trans (congrArg (Option.bind · _) hb)
theorem nM{test:LO→St→Option (Bool×St)}{body:LO→St→Option (lU×St)}{n:Nat}{ρ:LO}{st:St}(ht:test ρ st=some (false,st)):cP test body (n+1) ρ st=some (.next ρ,st):=congrArg (Option.bind · _) ht
noncomputable def fX:Nat→j4→j4
 | 0,ss=>ss
 | n+1,ss=>match ss with | .nil=>.nil | .cons _ r=>fX n r
theorem LP{A R:List Nat}{x:Nat}:cut (A++x::R) (some (A.length:Int)) (some ((A.length:Int)+1))=[x]:=by
 have h1:dG (A.length:Int) (A++x::R).length=A.length:=tI (List.prefix_append _ _).length_le
 have h2:dG ((A.length:Int)+1) (A++x::R).length=A.length+1:=tI (by rw[List.length_append]; exact Nat.add_le_add_left (Nat.le_add_left _ _) _)
 show((A++x::R).take (dG ((A.length:Int)+1) _)).drop (dG (A.length:Int) _)=_
 rw[h1,h2,List.take_length_add_append,List.drop_left]
 rfl
theorem tA{q:Int}(h0:0≤q)(h:q<100000):u4 (.d (.int q))=some q:=by
 have h1:decide ((-(2 ^ 62):Int)<q)=true:=decide_eq_true (Int.lt_of_lt_of_le (by decide +kernel) h0)
 have h2:decide (q<(2 ^ 62:Int))=true:=decide_eq_true (Int.lt_trans h (by decide +kernel))
 unfold u4 qL pU
 dsimp only
 rw[h1,h2]; rfl
theorem z0{n:Nat}(h:n<100000):u4 (.d (.int (n:Int)))=some (n:Int):=tA (Int.natCast_nonneg n) (Int.ofNat_lt.mpr h)
noncomputable def YJ:Str := "abcdfeghijklmnopqrstuvwxyzABCDEFGHIJKLMNOPQRSTUVWXYZ0123456789_ßàáâãäåæçèéêëìíîïðñòóôõöøùúûüýþÿÀÁÂÃÄÅÆÇÈÉÊËÌÍÎÏÐÑÒÓÔÕÖØÙÚÛÜÝÞ"
noncomputable def Ds(s t:OV):List (Str×OV):=[("instream",.o 2),("infile",.d .none),("posix",.d (.bool true)),("eof",.d .none),("commenters",.d (.str "")),("wordchars",.d (.str YJ)),("whitespace",.d (.str " \t\r\n")),("whitespace_split",.d (.bool true)),("quotes",.d (.str "'\"")),("escape",.d (.str "\\")),
 ("escapedquotes",.d (.str "\"")),("state",s),("pushback",.o 4),("lineno",.d (.int 1)),("debug",.d (.int 0)),("token",t),("filestack",.o 5),("source",.d .none),("_punctuation_chars",.d (.str ""))]
noncomputable def Ee(buf:Str)(p:Int):List (Str×OV):=[("_StringIO__newline",.d (.str "\n")),("_StringIO__buf",.d (.str buf)),("_StringIO__pos",.d (.int p))]
noncomputable def rS(s t:OV)(buf:Str)(p:Int)(z:St):St:=.inst 0 :: .dict (Ds s t) :: .inst 1 :: .dict (Ee buf p) :: .deq :: .deq::z
section
variable{F L:Nat}{s t:OV}{buf:Str}{p q:Int}{z:St}
theorem EQ:aL F (L+2) 1 [.o 2,.d (.int 1)] (rS s t buf p z)=eJ (bN (aL F (L+1)) (eI F (aL F (L+1))) F (fX 5 JM.body) [some (.o 2),some (.d (.int 1)),some (.d (.int p)),some (.d (.int buf.length))] (rS s t buf p z)):=by kernel_rfl
theorem EP:jW (aL F (L+1)) (eI F (aL F (L+1))) (.cmp .GtE (.var 2) (.var 3)) [some (.o 2),some (.d (.int 1)),some (.d (.int p)),some (.d (.int q))] (rS s t buf p z)=some (decide (p≥q),rS s t buf p z):=by kernel_rfl
theorem zY:jW (aL F (L+1)) (eI F (aL F (L+1))) (.bool true (.cmp .GtE (.var 1) (.lit (.int 0))) (.cmp .Lt (.bin .Add (.var 2) (.var 1)) (.var 3))) [some (.o 2),some (.d (.int 1)),some (.d (.int p)),some (.d (.int q))] (rS s t buf p z)=some (decide (p+1<q),rS s t buf p z):=by kernel_rfl
theorem QD:bN (aL F (L+1)) (eI F (aL F (L+1))) F (.cons (.assign 3 (.bin .Add (.var 2) (.var 1))) .nil) [some (.o 2),some (.d (.int 1)),some (.d (.int p)),some (.d (.int q))] (rS s t buf p z)=some (.next [some (.o 2),some (.d (.int 1)),some (.d (.int p)),some (.d (.int (p+1)))],rS s t buf p z):=by kernel_rfl
theorem VQ:BD (aL F (L+1)) (eI F (aL F (L+1))) F (.setA 1 (.var 0) ("_StringIO__pos" : Str) (.var 3)) [some (.o 2),some (.d (.int 1)),some (.d (.int p)),some (.d (.int q))] (rS s t buf p z)=some (.next [some (.o 2),some (.d (.int 1)),some (.d (.int p)),some (.d (.int q))],rS s t buf q z):=by kernel_rfl
theorem NR(h:(buf.length:Int)≤p):aL F (L+2) 1 [.o 2,.d (.int 1)] (rS s t buf p z)=some (.d (.str ""),rS s t buf p z) :=
 EQ.trans (congrArg eJ (DD (EP.trans (congrArg (fun b=>some (b,rS s t buf p z)) (decide_eq_true h))) (v:=.d (.str "")) (st'':=rS s t buf p z) (by kernel_rfl)))
theorem QE{c:Nat}(h0:0≤p)(h1:p+1<100000)(hs:IV (.d (.str buf)) (some p) (some (p+1))=some (.d (.str ⟨#[c]⟩))):bN (aL F (L+1)) (eI F (aL F (L+1))) F (fX 7 JM.body) [some (.o 2),some (.d (.int 1)),some (.d (.int p)),some (.d (.int (p+1)))] (rS s t buf p z)=some (.ret (.d (.str ⟨#[c]⟩)),rS s t buf (p+1) z) :=
 aP VQ (q4 (BZ (VY (BZ (v:=.d (.str buf)) (x:=some p) (y:=some (p+1)) (by kernel_rfl) (congrArg (Option.map fun i=>(some i,rS s t buf (p+1) z)) (tA h0 (Int.lt_trans (Int.lt_add_one_of_le (Int.le_refl p)) h1))) (congrArg (Option.map fun i=>(some i,rS s t buf (p+1) z)) (tA (Int.le_add_one h0) h1)) hs) (w:=.d (.str " ")) (u:=.d (.str ⟨#[c,32]⟩)) (by kernel_rfl) (by kernel_rfl)) (x:=none) (y:=some (-1)) rfl (by kernel_rfl) (by kernel_rfl)))
theorem RM{A R:List Nat}{c:Nat}(hb:A.length<90000):aL F (L+2) 1 [.o 2,.d (.int 1)] (rS s t ⟨(A++c::R).toArray⟩ A.length z)=some (.d (.str ⟨#[c]⟩),rS s t ⟨(A++c::R).toArray⟩ ((A.length:Int)+1) z):=by
 have hl:((⟨(A++c::R).toArray⟩:Str).length:Int)=(A.length:Int)+1+(R.length:Int):=by
  exact congrArg (Nat.cast:Nat→Int) (List.length_append.trans (Nat.add_right_comm A.length R.length 1))
 have hs:IV (.d (.str ⟨(A++c::R).toArray⟩)) (some (A.length:Int)) (some ((A.length:Int)+1))=some (.d (.str ⟨#[c]⟩)):=congrArg (fun l:List Nat=>some (OV.d (.str ⟨l.toArray⟩))) LP
 have h0:=Int.natCast_nonneg A.length
 have h1:(A.length:Int)+1<100000:=Int.lt_of_lt_of_le (Int.add_lt_add_right (Int.ofNat_lt.mpr hb) 1) (by decide)
 have hr:=fun a=>Int.le_add_of_nonneg_right (a:=a) (Int.natCast_nonneg R.length)
 generalize (⟨(A++c::R).toArray⟩:Str)=buf at hl hs ⊢
 generalize (A.length:Int)=p at hl hs h0 h1 ⊢
 have l1:=QE (F:=F) (L:=L) (s:=s) (t:=t) (z:=z) h0 h1 hs
 refine EQ.trans (congrArg eJ (a₂:=some (.ret (.d (.str ⟨#[c]⟩)),rS s t buf (p+1) z)) (bU (EP.trans (congrArg (fun b=>some (b,rS s t buf p z)) (decide_eq_false ?_))) rfl ?_))
 ·exact hl▸Int.not_le.mpr (Int.lt_of_lt_of_le (Int.lt_add_one_of_le (Int.le_refl p)) (hr _))
 rw[hl]
 by_cases hlt:p+1<p+1+(R.length:Int)
 ·exact tB (zY.trans (congrArg (fun b=>some (b,rS s t buf p z)) (decide_eq_true hlt))) QD l1
 ·refine bU (zY.trans (congrArg (fun b=>some (b,rS s t buf p z)) (decide_eq_false hlt))) rfl ?_
  rw[show p+1+(R.length:Int)=p+1 from Int.le_antisymm (Int.not_lt.mp hlt) (hr _)]
  exact l1
end
noncomputable def KJ:j4:=fX 1 pB
noncomputable abbrev rL(q:Bool)(c:Option OV):LO:=[some (.o 0),some (.d (.bool q)),some (.d (.str " ")),none,c]
structure RS where
 q:Bool
 s:OV
 t:OV
noncomputable def sg(c:Nat):OV:=.d (.str ⟨#[c]⟩)
section
variable{F L f n:Nat}{ex:Nat→LO→St→Option (OV×St)}{cl:iO}{s t:OV}{p:Int}{buf:Str}{z:St}{q:Bool}{c:Option OV}
theorem QC:cK cl ex (.mcall 1 (.attr 0 (.var 0) ("instream" : Str)) ("read" : Str) 1 (.cons (.lit (.int 1)) .nil)) (rL q c) (rS s t buf p z)=cl 1 [.o 2,.d (.int 1)] (rS s t buf p z):=by kernel_rfl
theorem EO{v:OV}{st':St}{r:Option (lU×St)}(h:aL F (L+2) 1 [.o 2,.d (.int 1)] (rS s t buf p z)=some (v,st'))(g:bN (aL F (L+2)) ex f KJ (rL q (some v)) st'=r):bN (aL F (L+2)) ex f pB (rL q c) (rS s t buf p z)=r :=
 bU (st':=rS s t buf p z) (by kernel_rfl) (aP (i8 (QC.trans h)) rfl) g
def Tr(F L f:Nat)(ex:Nat→LO→St→Option (OV×St))(fl:LO→lU)(a:RS)(v:OV)(b:RS):Prop:=∀(buf:Str)(p:Int)(z:St),bN (aL F (L+2)) ex f KJ (rL a.q (some v)) (rS a.s a.t buf p z)=some (fl (rL b.q (some v)),rS b.s b.t buf p z)
theorem PN{c:Nat}(h:c=97∨c=98∨c=45):Tr F L f ex .next ⟨false,sg 32,.d (.str "")⟩ (sg c) ⟨false,sg 97,sg c⟩:=fun buf p z=>by
 rcases h with rfl | rfl | rfl <;> kernel_rfl
theorem SM:Tr F L f ex .next ⟨q,sg 32,t⟩ (sg 39) ⟨q,sg 39,t⟩:=fun buf p z=>by kernel_rfl
theorem JA:Tr F L f ex .next ⟨q,sg 39,t⟩ (sg 39) ⟨true,sg 97,t⟩:=fun buf p z=>by kernel_rfl
theorem YO:Tr F L f ex .next ⟨q,sg 97,t⟩ (sg 34) ⟨q,sg 34,t⟩:=fun buf p z=>by kernel_rfl
theorem YN:Tr F L f ex .next ⟨q,sg 34,.d (.str "")⟩ (sg 39) ⟨true,sg 34,sg 39⟩:=fun buf p z=>by kernel_rfl
theorem YM:Tr F L f ex .next ⟨q,sg 34,t⟩ (sg 34) ⟨true,sg 97,t⟩:=fun buf p z=>by kernel_rfl
theorem YL:Tr F L f ex .next ⟨q,sg 97,t⟩ (sg 39) ⟨q,sg 39,t⟩:=fun buf p z=>by kernel_rfl
theorem YQ{c:Nat}(hs:iS c=true)(hc:fH c=false)(h39:c≠39):Tr F L f ex .next ⟨q,sg 39,.d (.str "")⟩ (sg c) ⟨true,sg 39,sg c⟩:=by
 revert hc h39
 refine pI (m:=fun c=>fH c=false→c≠39→Tr F L f ex .next ⟨q,sg 39,.d (.str "")⟩ (sg c) ⟨true,sg 39,sg c⟩) hs ⟨?_,?_,?_,?_,?_,?_,?_,?_,?_,?_,?_,?_,?_⟩ fun k _ _ buf p z=>by kernel_rfl
 ·exact fun h=>nomatch h
 ·exact fun _ h=>absurd rfl h
 all_goals first | exact(fun _ _ buf p z=>by kernel_rfl)| exact fun h=>nomatch h
theorem US{c:Nat}:Tr F L f ex .brk ⟨q,sg 97,sg c⟩ (sg 32) ⟨q,sg 32,sg c⟩:=fun buf p z=>by kernel_rfl
theorem UT:Tr F L f ex .brk ⟨q,sg 97,t⟩ (.d (.str "")) ⟨q,.d .none,t⟩:=fun buf p z=>by kernel_rfl
theorem PP:Tr F L f ex .brk ⟨q,.d .none,t⟩ (.d (.str "")) ⟨q,.d .none,.d (.str "")⟩:=fun buf p z=>by kernel_rfl
end
noncomputable def qw(c:Nat):List Nat:=bif fH c then [c]else bif c==39 then [39,39,34,39,34,39,39]else [39,c,39]
section
variable{F L f n:Nat}{ex:Nat→LO→St→Option (OV×St)}{z:St}
noncomputable abbrev rW(F L f:Nat)(ex:Nat→LO→St→Option (OV×St))(n:Nat)(c:Option OV)(a:RS)(l:List Nat)(p:Nat)(z:St):Option (lU×St) :=
 cP (jW (aL F (L+2)) ex sQ) (bN (aL F (L+2)) ex f pB) n (rL a.q c) (rS a.s a.t ⟨l.toArray⟩ p z)
theorem EK{ρ:LO}{st:St}:jW (aL F (L+2)) ex sQ ρ st=some (true,st):=rfl
theorem SW{fl:LO→lU}{a b:RS}{A R l:List Nat}{x:Nat}{c:Option OV}(T:Tr F L f ex fl a (sg x) b)(hb:A.length<90000)(hl:l=A++x::R) :
  rW F L f ex (n+1) c a l A.length z=X8 (jW (aL F (L+2)) ex sQ) (bN (aL F (L+2)) ex f pB) n (fl (rL b.q (some (sg x))),rS b.s b.t ⟨l.toArray⟩ (A++[x]).length z):=by
 subst hl
 refine gB EK (EO (RM hb) ?_)
 rw[List.length_append]
 exact T _ _ z
theorem KH{a b:RS}{l:List Nat}{c:Option OV}(T:Tr F L f ex .brk a (.d (.str "")) b):rW F L f ex (n+1) c a l l.length z=some (.next (rL b.q (some (.d (.str "")))),rS b.s b.t ⟨l.toArray⟩ l.length z) :=
 gB EK (EO (NR (Int.le_refl _)) (T _ _ z))
noncomputable def Bs(F L f:Nat)(ex:Nat→LO→St→Option (OV×St)):RS→List Nat→RS→Prop
 | a,[],b=>a=b
 | a,x::xs,b=>∃ m,Tr F L f ex .next a (sg x) m∧Bs F L f ex m xs b
theorem KG{b:RS}{l R:List Nat}{xs:List Nat}:∀{a:RS}{A:List Nat}{c:Option OV},Bs F L f ex a xs b→l=A++(xs++R)→(A++xs).length<90000→∃ c',rW F L f ex (n+xs.length) c a l A.length z=rW F L f ex n c' b l (A++xs).length z:=by
 induction xs with
 | nil=>exact fun{a A c}h _ _=>by cases h; exact⟨c,by rw[List.append_nil]; rfl⟩
 | cons x xs ih =>
  intro a A c h hl hb
  obtain⟨m,h1,h2⟩:=h
  have e:A++x::xs=A++[x]++xs:=(List.append_assoc A [x] xs).symm
  have hl2:l=A++[x]++(xs++R):=hl.trans (List.append_assoc A [x] (xs++R)).symm
  obtain⟨c',g⟩:=ih (A:=A++[x]) (c:=some (sg x)) h2 hl2 (e▸hb)
  exact⟨c',(SW h1 (Nat.lt_of_le_of_lt (List.length_append▸Nat.le_add_right _ _) hb) hl).trans (g.trans (by rw[e]))⟩
theorem zT{x:Nat}(hx:iS x=true):Bs F L f ex ⟨false,sg 32,.d (.str "")⟩ (qw x) ⟨!fH x,sg 97,sg x⟩:=by
 have h0:(!fH x||(x==97||(x==98||x==45)))=true:=pI (m:=fun x=>(!fH x||(x==97||(x==98||x==45)))=true) hx (by refine⟨?_,?_,?_,?_,?_,?_,?_,?_,?_,?_,?_,?_,?_⟩ <;> kernel_rfl) fun k=>by kernel_rfl
 unfold qw
 cases hs:fH x with
 | true =>
  rw[hs]at h0
  have h0:(x==97||(x==98||x==45))=true:=h0
  exact⟨_,PN ((Bool.or_eq_true_iff.mp h0).imp eq_of_beq fun h=>(Bool.or_eq_true_iff.mp h).imp eq_of_beq eq_of_beq),rfl⟩
 | false =>
  cases h:x==39 with
  | true=>rw[eq_of_beq h]; exact⟨_,SM,_,JA,_,YO,_,YN,_,YM,_,YL,_,JA,rfl⟩
  | false=>exact⟨_,SM,_,YQ hx hs (ne_of_beq_false h),_,JA,rfl⟩
end
noncomputable def qU:List Nat→List Nat
 | []=>[]
 | c::r=>match r with | []=>qw c | _::_=>qw c++32::qU r
section
variable{F L n:Nat}{z:St}
theorem P8{f x:Nat}{ex:Nat→LO→St→Option (OV×St)}{A:List Nat}{c:Option OV}(hx:iS x=true)(hb:(A++qw x).length<90000) :
  ∃ c',rW F L f ex (n+1+(qw x).length) c ⟨false,sg 32,.d (.str "")⟩ (A++qw x) A.length z=some (.next (rL (!fH x) c'),rS (.d .none) (sg x) ⟨(A++qw x).toArray⟩ (A++qw x).length z):=by
 obtain⟨c',h⟩:=KG (F:=F) (L:=L) (f:=f) (ex:=ex) (n:=n+1) (z:=z) (R:=[]) (A:=A) (c:=c) (zT hx) (by rw[List.append_nil]) hb
 exact⟨_,h.trans (KH UT)⟩
theorem P7{f x:Nat}{ex:Nat→LO→St→Option (OV×St)}{A R:List Nat}{c:Option OV}(hx:iS x=true)(hb:(A++qw x).length<90000) :
  ∃ c',rW F L f ex (n+1+(qw x).length) c ⟨false,sg 32,.d (.str "")⟩ (A++(qw x++32::R)) A.length z=some (.next (rL (!fH x) c'),rS (sg 32) (sg x) ⟨(A++(qw x++32::R)).toArray⟩ (A++qw x++[32]).length z):=by
 obtain⟨c',h⟩:=KG (F:=F) (L:=L) (f:=f) (ex:=ex) (n:=n+1) (z:=z) (R:=32::R) (A:=A) (c:=c) (zT hx) rfl hb
 exact⟨_,h.trans (SW US hb (List.append_assoc ..).symm)⟩
noncomputable def Bk(F L:Nat)(r:lU×St):Option (lU×St):=match r.1 with
 | .next ρ'=>bN (aL F (L+2)) (eI F (aL F (L+2))) F (fX 3 S5.body) ρ' r.2
 | g=>some (g,r.2)
noncomputable abbrev Bj(F L:Nat)(st:St):Option (lU×St):=cP (jW (aL F (L+2)) (eI F (aL F (L+2))) sQ) (bN (aL F (L+2)) (eI F (aL F (L+2))) F pB) F (rL false none) st
theorem EM{s t:OV}{buf:Str}{p:Int}:aL F (L+3) 6 [.o 0] (rS s t buf p z)=eJ (Option.bind (Bj F L (rS s t buf p z)) (Bk F L)):=by kernel_rfl
theorem EL{s s' t:OV}{buf:Str}{p p':Int}{x:Nat}{b:Bool}{c:Option OV}(h:Bj F L (rS s t buf p z)=some (.next (rL b c),rS s' (sg x) buf p' z)):aL F (L+3) 6 [.o 0] (rS s t buf p z)=some (sg x,rS s' (.d (.str "")) buf p' z) :=
 EM.trans ((congrArg (fun o=>eJ (Option.bind o (Bk F L))) h).trans (by cases b <;> kernel_rfl))
theorem P9{s s' t:OV}{buf:Str}{p p':Int}{c:Option OV}(h:Bj F L (rS s t buf p z)=some (.next (rL false c),rS s' (.d (.str "")) buf p' z)):aL F (L+3) 6 [.o 0] (rS s t buf p z)=some (.d .none,rS s' (.d (.str "")) buf p' z) :=
 EM.trans ((congrArg (fun o=>eJ (Option.bind o (Bk F L))) h).trans (by kernel_rfl))
theorem FH{cl:iO}{ex:Nat→LO→St→Option (OV×St)}{ρ:LO}{s t:OV}{buf:Str}{p:Int}:cK cl ex (.mcall 0 (.var 0) ("read_token" : Str) 6 .nil) (some (.o 0)::ρ) (rS s t buf p z)=cl 6 [.o 0] (rS s t buf p z):=by kernel_rfl
theorem FG{s s':OV}{buf:Str}{p p':Int}{x:Nat}(h:aL (F+1) (L+3) 6 [.o 0] (rS s (.d (.str "")) buf p z)=some (sg x,rS s' (.d (.str "")) buf p' z)):aL (F+1) (L+4) 7 [.o 0] (rS s (.d (.str "")) buf p z)=some (sg x,rS s' (.d (.str "")) buf p' z) :=
 (show aL (F+1) (L+4) 7 [.o 0] (rS s (.d (.str "")) buf p z)=eJ (bN (aL (F+1) (L+3)) (eI (F+1) (aL (F+1) (L+3))) (F+1) JL.body [some (.o 0),none,none,none,none,none] (rS s (.d (.str "")) buf p z)) by kernel_rfl).trans
  ((congrArg eJ (bU (st':=rS s (.d (.str "")) buf p z) (by kernel_rfl) rfl (aP (i8 (FH.trans h)) rfl))).trans (by kernel_rfl))
theorem RR{s s':OV}{buf:Str}{p p':Int}(h:aL (F+1) (L+3) 6 [.o 0] (rS s (.d (.str "")) buf p z)=some (.d .none,rS s' (.d (.str "")) buf p' z)):aL (F+1) (L+4) 7 [.o 0] (rS s (.d (.str "")) buf p z)=some (.d .none,rS s' (.d (.str "")) buf p' z) :=
 (show aL (F+1) (L+4) 7 [.o 0] (rS s (.d (.str "")) buf p z)=eJ (bN (aL (F+1) (L+3)) (eI (F+1) (aL (F+1) (L+3))) (F+1) JL.body [some (.o 0),none,none,none,none,none] (rS s (.d (.str "")) buf p z)) by kernel_rfl).trans
  ((congrArg eJ (bU (st':=rS s (.d (.str "")) buf p z) (by kernel_rfl) rfl (aP (i8 (FH.trans h)) rfl))).trans (by kernel_rfl))
theorem E4{cl:iO}{s s':OV}{buf:Str}{p p':Int}{x:Nat}(h:cl 7 [.o 0] (rS s (.d (.str "")) buf p z)=some (sg x,rS s' (.d (.str "")) buf p' z)):rV cl (.o 0) (rS s (.d (.str "")) buf p z)=some (some (sg x),rS s' (.d (.str "")) buf p' z) :=
 (congrArg (Option.bind · _) ((show cK cl (fun _ _ _=>none) u5 [some (.o 0),none] (rS s (.d (.str "")) buf p z)=cl 7 [.o 0] (rS s (.d (.str "")) buf p z) by kernel_rfl).trans h)).trans (by kernel_rfl)
theorem RB{cl:iO}{s s':OV}{buf:Str}{p p':Int}(h:cl 7 [.o 0] (rS s (.d (.str "")) buf p z)=some (.d .none,rS s' (.d (.str "")) buf p' z)):rV cl (.o 0) (rS s (.d (.str "")) buf p z)=some (none,rS s' (.d (.str "")) buf p' z) :=
 (congrArg (Option.bind · _) ((show cK cl (fun _ _ _=>none) u5 [some (.o 0),none] (rS s (.d (.str "")) buf p z)=cl 7 [.o 0] (rS s (.d (.str "")) buf p z) by kernel_rfl).trans h)).trans (by kernel_rfl)
end
def Ps(ws l:List Nat)(s:OV)(p:Int):Prop:=match ws with
 | []=>s = .d .none∧p=l.length
 | _::_=>s=sg 32∧∃ A,l=A++qU ws∧p=A.length
theorem BU(x:Nat):(qw x).length≤7:=by
 unfold qw
 cases fH x with
 | true=>exact(show 1≤7 by decide)
 | false=>cases x==39 with | true=>exact Nat.le_refl 7 | false=>exact(show 3≤7 by decide)
section
variable{F L n:Nat}{ws l:List Nat}{x:Nat}{s:OV}{p:Int}
theorem Q9(hx:iS x=true)(hb:l.length<90000)(hF:8≤F)(h:Ps (x::ws) l s p):∃ s' p',Ps ws l s' p'∧∀ z,rV (aL (F+1) (L+4)) (.o 0) (rS s (.d (.str "")) ⟨l.toArray⟩ p z)=some (some (sg x),rS s' (.d (.str "")) ⟨l.toArray⟩ p' z):=by
 obtain⟨rfl,A,hl,rfl⟩:=h
 obtain⟨n,hn⟩:∃ n,F+1=n+1+(qw x).length:=⟨F - (qw x).length,by rw[Nat.add_right_comm,Nat.sub_add_cancel (Nat.le_trans (BU x) (Nat.le_of_succ_le hF))]⟩
 cases ws with
 | nil =>
  have hl:l=A++qw x:=hl
  subst hl
  refine⟨_,_,⟨rfl,rfl⟩,fun z=>?_⟩
  obtain⟨c',h⟩:=P8 (F:=F+1) (L:=L+0) (f:=F+1) (ex:=eI (F+1) (aL (F+1) (L+2))) (n:=n) (z:=z) (A:=A) (c:=none) hx hb
  exact E4 (FG (EL (congrArg (fun k=>cP _ _ k _ _) hn |>.trans h)))
 | cons y ws =>
  have hl:l=A++(qw x++32::qU (y::ws)):=hl
  subst hl
  refine⟨_,_,⟨rfl,A++qw x++[32],by rw[List.append_assoc,List.append_assoc]; rfl,rfl⟩,fun z=>?_⟩
  obtain⟨c',h⟩:=P7 (F:=F+1) (L:=L+0) (f:=F+1) (ex:=eI (F+1) (aL (F+1) (L+2))) (n:=n) (z:=z) (A:=A) (R:=qU (y::ws)) (c:=none) hx (Nat.lt_of_le_of_lt (by rw[List.length_append,List.length_append,List.length_append]; exact Nat.add_le_add_left (Nat.le_add_right _ _) _) hb)
  exact E4 (FG (EL (congrArg (fun k=>cP _ _ k _ _) hn |>.trans h)))
theorem RA{z:St}(h:Ps [] l s p):rV (aL (F+1) (L+4)) (.o 0) (rS s (.d (.str "")) ⟨l.toArray⟩ p z)=some (none,rS (.d .none) (.d (.str "")) ⟨l.toArray⟩ l.length z):=by
 obtain⟨rfl,rfl⟩:=h
 have h:=KH (F:=F+1) (L:=L) (f:=F+1) (ex:=eI (F+1) (aL (F+1) (L+2))) (n:=F) (z:=z) (a:=⟨false,.d .none,.d (.str "")⟩) (l:=l) (c:=none) PP
 exact RB (RR (P9 h))
theorem CY(hb:l.length<90000)(hF:8≤F):∀{ws:List Nat}{n:Nat}{s:OV}{p:Int}{acc:List OV},(∀ c∈ws,iS c=true)→Ps ws l s p→ws.length<n→acc.length+ws.length≤1000 →
  k7 (aL (F+1) (L+4)) n (.o 0) 6 (rS s (.d (.str "")) ⟨l.toArray⟩ p [.list acc])=some (.o 6,rS (.d .none) (.d (.str "")) ⟨l.toArray⟩ l.length [.list (acc++ws.map sg)]):=by
 intro ws
 induction ws with
 | nil =>
  intro n s p acc _ h hn _
  obtain⟨n,rfl⟩:=Nat.exists_eq_add_of_lt hn
  rw[List.map_nil,List.append_nil,show([]:List Nat).length+n+1=n+1 from congrArg (· + 1) (Nat.zero_add n)]
  exact congrArg (Option.bind · _) (RA h)
 | cons x ws ih =>
  intro n s p acc hc h hn ha
  obtain⟨n,rfl⟩:=Nat.exists_eq_succ_of_ne_zero (Nat.ne_of_gt (Nat.lt_of_le_of_lt (Nat.zero_le _) hn))
  obtain⟨s',p',h',hnx⟩:=Q9 (L:=L) (hc x List.mem_cons_self) hb hF h
  have ha':(acc++[sg x]).length+ws.length≤1000:=by rw[List.length_append,Nat.add_assoc,Nat.add_comm [sg x].length]; exact ha
  have hpush:mY (rS s' (.d (.str "")) ⟨l.toArray⟩ p' [.list acc]) 6 (sg x)=some (rS s' (.d (.str "")) ⟨l.toArray⟩ p' [.list (acc++[sg x])]):=if_pos (Nat.le_trans (Nat.le_add_right _ _) ha)
  have e:acc++(x::ws).map sg=acc++[sg x]++ws.map sg:=(List.append_assoc acc [sg x] (ws.map sg)).symm
  rw[e]
  exact(congrArg (Option.bind · _) (hnx [.list acc])).trans ((congrArg (Option.bind · _) hpush).trans (ih (fun c h=>hc c (List.mem_cons_of_mem _ h)) h' (Nat.lt_of_succ_lt_succ hn) ha'))
end
theorem SY(x:Nat):qS x=⟨(qw x).toArray⟩:=by
 unfold qS qw rI
 cases fH x with
 | true=>rfl
 | false =>
  cases h:x==39 with
  | true=>kernel_rfl
  | false=>kernel_rfl
theorem i4(a b:List Nat):(⟨a.toArray⟩:Str)++⟨b.toArray⟩=⟨(a++b).toArray⟩:=congrArg Str.mk (List.append_toArray a b)
theorem xZ(cs:List Nat):Str.join " " (cs.map qS)=⟨(qU cs).toArray⟩:=by
 induction cs with
 | nil=>rfl
 | cons x cs ih =>
  cases cs with
  | nil=>exact SY x
  | cons y cs =>
   show qS x ++ " " ++ Str.join " " ((y::cs).map qS)=⟨(qw x++32::qU (y::cs)).toArray⟩
   rw[ih,SY x,show(" " : Str)=⟨[32].toArray⟩from rfl,i4,i4,List.append_assoc]; rfl
theorem KW(cs:List Nat):(qU cs).length≤8*cs.length:=by
 induction cs with
 | nil=>exact Nat.le_refl _
 | cons x cs ih =>
  cases cs with
  | nil=>exact Nat.le_trans (BU x) (show 7≤8 by decide)
  | cons y cs =>
   show(qw x++32::qU (y::cs)).length≤_
   rw[List.length_append,List.length_cons,List.length_cons,Nat.mul_succ,Nat.add_comm]
   exact Nat.le_trans (Nat.add_le_add (Nat.succ_le_succ ih) (BU x)) (Nat.le_of_eq (Nat.succ_add_eq_add_succ _ 7))
theorem N7{cs:List Nat}(h:∀ c∈cs,bL (wD c)=true):sT (cs.map sg)=some (cs.map wD):=by
 induction cs with
 | nil=>rfl
 | cons x cs ih =>
  show(if(flat (wD x)&&bL (wD x))=true then(sT (cs.map sg)).map (wD x :: ·)else none)=_
  rw[h x List.mem_cons_self,ih fun c hc=>h c (List.mem_cons_of_mem _ hc)]; rfl
theorem C1{F:Nat}{x:Str}:aL F 6 15 [.d (.str x)] []=eJ (Option.bind (Option.map (fun p:OV×St=>(lU.ret p.1,p.2)) (k7 (aL F 5) F (.o 0) 6 (rS (sg 32) (.d (.str "")) x 0 [.list []]))) fun r=>match r.1 with
 | .next ρ'=>bN (aL F 5) (eI F (aL F 5)) F .nil ρ' r.2
 | g=>some (g,r.2)):=by kernel_rfl
theorem C0{F:Nat}{cs:List Nat}(hc:∀ c∈cs,iS c=true)(hok:∀ c∈cs,bL (wD c)=true)(hne:cs≠[])(hl:cs.length≤900)(hF:900≤F):oU (F+1) (Str.join " " (cs.map qS))=some (.list (cs.map wD)):=by
 have hb:(qU cs).length<90000:=Nat.lt_of_le_of_lt (Nat.le_trans (KW cs) (Nat.mul_le_mul_left 8 hl)) (by decide)
 have hP:Ps cs (qU cs) (sg 32) (0:Int):=by
  cases cs with
  | nil=>exact absurd rfl hne
  | cons y cs=>exact⟨rfl,[],rfl,rfl⟩
 have h:=CY (L:=1) (n:=F+1) (acc:=[]) hb (Nat.le_trans (by decide) hF) hc hP (Nat.lt_succ_of_le (Nat.le_trans hl hF)) (by rw[List.length_nil,Nat.zero_add]; exact Nat.le_trans hl (by decide))
 rw[xZ]
 unfold oU
 rw[C1,h]
 exact congrArg (Option.map PyData.list) (N7 hok)
section
variable{cl:iO}{ex:Nat→LO→St→Option (OV×St)}{f n:Nat}{ρ:LO}{st st':St}{a b e:OE}{v:OV}{t:Bool}
theorem q5{m j:Nat}(hf:cK cl ex a ρ st=some (.o m,st))(he:cK cl ex e ρ st=some (v,st))(hm:S7 st (.o m)=some j)(hp:mY st j v=some st'):BD cl ex f (.expr (.app a e)) ρ st=some (.next ρ,st'):=by
 have h:cK cl ex (.app a e) ρ st=some (.d .none,st'):=(congrArg (Option.bind · _) hf).trans ((congrArg (Option.bind · _) he).trans ((congrArg (Option.bind · _) hm).trans (congrArg (Option.map _) hp)))
 exact congrArg (Option.bind · _) h
theorem xT(ha:cK cl ex a ρ st=some (.d (.bool true),st))(hb:cK cl ex b ρ st=some (.d (.bool t),st)):jW cl ex (.bool true a b) ρ st=some (t,st):=by
 have h:cK cl ex (.bool true a b) ρ st=some (.d (.bool t),st):=(congrArg (Option.bind · _) ha).trans hb
 exact congrArg (Option.bind · _) h
theorem RP{s:Str}{q:Int}{c:Nat}(h0:0≤q)(h1:q<100000)(hlt:q.toNat<s.length)(hg:s.cps[q.toNat]? = some c):fN st (.d (.str s)) (.d (.int q))=some (sg c):=by
 have hp:dT q s.length=some q.toNat:=by
  have h3:decide ((-(2 ^ 62):Int)<q)=true:=decide_eq_true (Int.lt_of_lt_of_le (by decide +kernel) h0)
  have h4:decide (q<(2 ^ 62:Int))=true:=decide_eq_true (Int.lt_trans h1 (by decide +kernel))
  unfold dT
  rw[h3,h4,if_pos h0,if_pos hlt]; rfl
 have e:fN st (.d (.str s)) (.d (.int q))=pX ((dT q s.length).bind fun k=>(s.cps[k]?).map fun c=>PyData.str ⟨#[c]⟩):=rfl
 rw[e,hp]
 show pX ((s.cps[q.toNat]?).map fun c=>PyData.str ⟨#[c]⟩)=_
 rw[hg]; rfl
theorem sR{A R:List Nat}{c:Nat}(hb:A.length<90000):fN st (.d (.str ⟨(A++c::R).toArray⟩)) (.d (.int A.length))=some (sg c) :=
 RP (Int.natCast_nonneg _) (Int.lt_trans (Int.ofNat_lt.mpr hb) (by decide)) (by rw[Int.toNat_natCast]; show A.length<(A++c::R).length; rw[List.length_append]; exact Nat.lt_add_of_pos_right (Nat.succ_pos _))
  (by rw[Int.toNat_natCast,List.getElem?_toArray,List.getElem?_append_right (Nat.le_refl _),Nat.sub_self]; rfl)
end
noncomputable abbrev iN(s:Str)(i n:Int)(c j u:Option OV):LO:=[some (.d (.str s)),some (.o 0),some (.d (.str ".")),some (.o 1),some (.o 2),some (.d (.int i)),some (.d (.int n)),c,j,u,none,none,none,none]
noncomputable abbrev cU(ps:List OV):St:=[.plain,.list ps,.meth 1]
noncomputable def eA(c:Nat):Bool:=c==42||(c==63||c==91)
theorem EG(a b:Nat):((⟨#[a]⟩:Str)==⟨#[b]⟩)=(a==b):=by
 by_cases e:a=b
 ·subst e; rw[beq_self_eq_true,beq_self_eq_true]
 ·rw[beq_false_of_ne e,beq_false_of_ne fun h=>e (List.cons.inj (congrArg (fun s:Str=>s.cps.toList) h)).1]
theorem LQ{c d:Nat}:BI .Eq (sg c) (sg d)=some (.d (.bool (c==d))):=(show _=some (OV.d (.bool ((⟨#[c]⟩:Str)==⟨#[d]⟩))) by kernel_rfl).trans (by rw[EG])
theorem XA{c d:Nat}:BI .NotEq (sg c) (sg d)=some (.d (.bool (!(c==d)))):=(show _=some (OV.d (.bool (!((⟨#[c]⟩:Str)==⟨#[d]⟩)))) by kernel_rfl).trans (by rw[EG])
section
variable{F L:Nat}{s:Str}{i n:Int}{ps:List OV}{c j u:Option OV}{x:Nat}
theorem xN{v:OV}(hp:ps.length≤1000):mY (cU ps) 1 v=some (cU (ps++[v])):=if_pos hp
theorem zC{d:Nat}{b:Bool}{cl:iO}{ex:Nat→LO→St→Option (OV×St)}(h:(x==d)=b):jW cl ex (.cmp .Eq (.var 7) (.lit (.str ⟨#[d]⟩))) (iN s i n (some (sg x)) j u) (cU ps)=some (b,cU ps):=B1 (sL (v:=sg x) (w:=sg d) rfl rfl (h▸LQ))
theorem xM{f:Nat}{cl:iO}{ex:Nat→LO→St→Option (OV×St)}{r:Option (lU×St)}(hx:fN (cU ps) (.d (.str s)) (.d (.int i))=some (sg x))(g:bN cl ex f (fX 2 fO) (iN s (i+1) n (some (sg x)) j u) (cU ps)=r):bN cl ex f fO (iN s i n c j u) (cU ps)=r :=
 aP (i8 (B0 (v:=.d (.str s)) (w:=.d (.int i)) rfl rfl hx)) (aP (ρ':=iN s (i+1) n (some (sg x)) j u) (st':=cU ps) (by kernel_rfl) g)
theorem LZ(hb:eA x=false)(hp:ps.length≤1000)(hx:fN (cU ps) (.d (.str s)) (.d (.int i))=some (sg x)) :
  bN (aL F (L+1)) (eI F (aL F (L+1))) F fO (iN s i n c j u) (cU ps)=some (.next (iN s (i+1) n (some (sg x)) j u),cU (ps++[.d (.str (qP x))])):=by
 obtain⟨h1,hb⟩:=Bool.or_eq_false_iff.mp hb
 obtain⟨h2,h3⟩:=Bool.or_eq_false_iff.mp hb
 refine xM hx (bU (zC (d:=42) h1) (bU (zC (d:=63) h2) (bU (zC (d:=91) h3) (aP (q5 (m:=2) (j:=1) (v:=.d (.str (qP x))) rfl ?_ rfl (xN hp)) rfl) rfl) rfl) rfl)
 kernel_rfl
theorem UR(hp:ps.length≤1000)(hx:fN (cU ps) (.d (.str s)) (.d (.int i))=some (sg 63)) :
  bN (aL F (L+1)) (eI F (aL F (L+1))) F fO (iN s i n c j u) (cU ps)=some (.next (iN s (i+1) n (some (sg 63)) j u),cU (ps++[.d (.str ".")])) :=
 xM hx (bU (zC (d:=42) rfl) (tB (zC (d:=63) rfl) (aP (q5 (m:=2) (j:=1) (v:=.d (.str ".")) rfl rfl rfl (xN hp)) rfl) rfl) rfl)
noncomputable def pW:j4→OS
 | .nil=>.stuck
 | .cons s _=>s
noncomputable def V3(ss:j4):j4:=match pW ss with | .ife _ a _=>a | _=>.nil
noncomputable def sN(ss:j4):j4:=match pW ss with | .ife _ _ b=>b | _=>.nil
noncomputable def BC(x:Nat):Str:=bif x==91 then⟨#[92,91]⟩else⟨#[x]⟩
theorem eE{m:Nat→Prop}{x:Nat}(h:eA x=true)(h1:m 42)(h2:m 63)(h3:m 91):m x :=
 (Bool.or_eq_true_iff.mp h).elim (fun h=>eq_of_beq h▸h1) fun h=>(Bool.or_eq_true_iff.mp h).elim (fun h=>eq_of_beq h▸h2) fun h=>eq_of_beq h▸h3
section
variable{cl:iO}{f:Nat}
theorem SP{k:Int}(h:k<n):cK cl (eI F cl) (.cmp .Lt (.var 8) (.var 6)) (iN s i n c (some (.d (.int k))) u) (cU ps)=some (.d (.bool true),cU ps) :=
 (show _=some (OV.d (.bool (decide (k<n))),cU ps) by kernel_rfl).trans (by rw[decide_eq_true h])
theorem KB{k:Int}{y:Nat}(h:fN (cU ps) (.d (.str s)) (.d (.int k))=some (sg y)):cK cl (eI F cl) (.idx (.var 0) (.var 8)) (iN s i n c (some (.d (.int k))) u) (cU ps)=some (sg y,cU ps):=B0 (v:=.d (.str s)) (w:=.d (.int k)) rfl rfl h
theorem SQ{k:Int}{y d:Nat}{b:Bool}(hk:k<n)(h:fN (cU ps) (.d (.str s)) (.d (.int k))=some (sg y))(hb:(y==d)=b):jW cl (eI F cl) (.bool true (.cmp .Lt (.var 8) (.var 6)) (.cmp .Eq (.idx (.var 0) (.var 8)) (.lit (.str ⟨#[d]⟩)))) (iN s i n c (some (.d (.int k))) u) (cU ps)=some (b,cU ps) :=
 xT (SP hk) (sL (w:=sg d) (KB h) rfl (hb▸LQ))
theorem SN{k:Int}{y d:Nat}{b:Bool}(hk:k<n)(h:fN (cU ps) (.d (.str s)) (.d (.int k))=some (sg y))(hb:(!(y==d))=b):jW cl (eI F cl) (.bool true (.cmp .Lt (.var 8) (.var 6)) (.cmp .NotEq (.idx (.var 0) (.var 8)) (.lit (.str ⟨#[d]⟩)))) (iN s i n c (some (.d (.int k))) u) (cU ps)=some (b,cU ps) :=
 xT (SP hk) (sL (w:=sg d) (KB h) rfl (hb▸XA))
theorem L4{k:Int}{n':Nat}(hx:eA x=true)(hk:k<n)(hk2:k+1<n)(h1:fN (cU ps) (.d (.str s)) (.d (.int k))=some (sg x))(h2:fN (cU ps) (.d (.str s)) (.d (.int (k+1)))=some (sg 93)) :
  cP (jW cl (eI F cl) E3) (bN cl (eI F cl) f E2) (n'+2) (iN s i n c (some (.d (.int k))) u) (cU ps)=some (.next (iN s i n c (some (.d (.int (k+1)))) u),cU ps) :=
 (gB (r:=(.next (iN s i n c (some (.d (.int (k+1)))) u),cU ps)) (SN (d:=93) hk h1 (eE (m:=fun x=>(!(x==93))=true) hx rfl rfl rfl)) (by kernel_rfl)).trans (nM (SN (d:=93) hk2 h2 rfl))
noncomputable def uZ:j4:=fX 1 (sN (fX 4 (V3 (sN (sN (fX 2 fO))))))
noncomputable def SS:j4:=sN (sN (fX 3 uZ))
theorem YU{k:Int}(hx:eA x=true):BD cl (eI F cl) f (pW uZ) (iN s i n c (some (.d (.int k))) (some (sg x))) (cU ps)=some (.next (iN s i n c (some (.d (.int k))) (some (sg x))),cU ps):=eE (m:=fun x=>BD cl (eI F cl) f (pW uZ) (iN s i n c (some (.d (.int k))) (some (sg x))) (cU ps)=some (.next (iN s i n c (some (.d (.int k))) (some (sg x))),cU ps)) hx (by kernel_rfl) (by kernel_rfl) (by kernel_rfl)
theorem YT{k:Int}(hx:eA x=true):BD cl (eI F cl) f (pW (fX 1 uZ)) (iN s i n c (some (.d (.int k))) (some (sg x))) (cU ps)=some (.next (iN s i n c (some (.d (.int k))) (some (sg x))),cU ps):=eE (m:=fun x=>BD cl (eI F cl) f (pW (fX 1 uZ)) (iN s i n c (some (.d (.int k))) (some (sg x))) (cU ps)=some (.next (iN s i n c (some (.d (.int k))) (some (sg x))),cU ps)) hx (by kernel_rfl) (by kernel_rfl) (by kernel_rfl)
theorem YS{k:Int}(hx:eA x=true):BD cl (eI F cl) f (pW SS) (iN s i n c (some (.d (.int k))) (some (sg x))) (cU ps)=some (.next (iN s i n c (some (.d (.int k))) (some (.d (.str (BC x))))),cU ps):=eE (m:=fun x=>BD cl (eI F cl) f (pW SS) (iN s i n c (some (.d (.int k))) (some (sg x))) (cU ps)=some (.next (iN s i n c (some (.d (.int k))) (some (.d (.str (BC x))))),cU ps)) hx (by kernel_rfl) (by kernel_rfl) (by kernel_rfl)
theorem YR(hx:eA x=true):O5 ("[" ++ BC x ++ "]")=some (.d (.str ("[" ++ BC x ++ "]"))):=eE (m:=fun x=>O5 ("[" ++ BC x ++ "]")=some (.d (.str ("[" ++ BC x ++ "]")))) hx (by kernel_rfl) (by kernel_rfl) (by kernel_rfl)
theorem PR{k:Int}(hx:eA x=true)(hp:ps.length≤1000):bN cl (eI F cl) f uZ (iN s i n c (some (.d (.int k))) (some (sg x))) (cU ps) =
  some (.next (iN s (k+1) n c (some (.d (.int k))) (some (.d (.str (BC x))))),cU (ps++[.d (.str ("[" ++ BC x ++ "]"))])) :=
 aP (YU hx) (aP (YT hx) (aP (ρ':=iN s (k+1) n c (some (.d (.int k))) (some (sg x))) (st':=cU ps) (by kernel_rfl) (bU (st':=cU ps) (by kernel_rfl)
  (bU (st':=cU ps) (B1 (sL (v:=sg x) (w:=sg 33) rfl rfl (eE (m:=fun x=>BI .Eq (sg x) (sg 33)=some (.d (.bool false))) hx (by kernel_rfl) (by kernel_rfl) (by kernel_rfl))))
   (aP (YS hx) (aP (q5 (m:=2) (j:=1) (v:=.d (.str ("[" ++ BC x ++ "]"))) rfl (congrArg (Option.map fun v=>(v,cU ps)) (YR hx)) rfl (xN hp)) rfl)) rfl) rfl)))
theorem UQ{F':Nat}(hx:eA x=true)(hp:ps.length≤1000)(h0:fN (cU ps) (.d (.str s)) (.d (.int i))=some (sg 91))(h1:fN (cU ps) (.d (.str s)) (.d (.int (i+1)))=some (sg x))(h2:fN (cU ps) (.d (.str s)) (.d (.int (i+1+1)))=some (sg 93))
  (hk:i+1+1<n) (hs:IV (.d (.str s)) (some (i+1)) (some (i+1+1))=some (sg x)) (hq:u4 (.d (.int (i+1)))=some (i+1)) (hq2:u4 (.d (.int (i+1+1)))=some (i+1+1)) :
  bN cl (eI (F'+2) cl) (F'+2) fO (iN s i n c j u) (cU ps)=some (.next (iN s (i+1+1+1) n (some (sg 91)) (some (.d (.int (i+1+1)))) (some (.d (.str (BC x))))),cU (ps++[.d (.str ("[" ++ BC x ++ "]"))])):=by
 have hk1:i+1<n:=Int.lt_trans (Int.lt_succ _) hk
 refine xM h0 (bU (zC (d:=42) rfl) (bU (zC (d:=63) rfl) (tB (zC (d:=91) rfl) ?_ rfl) rfl) rfl)
 refine aP (ρ':=iN s (i+1) n (some (sg 91)) (some (.d (.int (i+1)))) u) (st':=cU ps) (by kernel_rfl) ?_
 refine bU (SQ (d:=33) hk1 h1 (eE (m:=fun x=>(x==33)=false) hx rfl rfl rfl)) rfl ?_
 refine bU (SQ (d:=93) hk1 h1 (eE (m:=fun x=>(x==93)=false) hx rfl rfl rfl)) rfl ?_
 refine aP (L4 hx hk1 hk h1 h2) ?_
 refine bU (st':=cU ps) ((show jW cl (eI (F'+2) cl) (.cmp .GtE (.var 8) (.var 6)) (iN s (i+1) n (some (sg 91)) (some (.d (.int (i+1+1)))) u) (cU ps)=some (decide (i+1+1≥n),cU ps) by kernel_rfl).trans (by rw[decide_eq_false (Int.not_le.mpr hk)])) ?_ rfl
 exact aP (i8 (BZ (v:=.d (.str s)) (x:=some (i+1)) (y:=some (i+1+1)) rfl (congrArg (Option.map fun i=>(some i,cU ps)) hq) (congrArg (Option.map fun i=>(some i,cU ps)) hq2) hs)) (PR hx hp)
end
end
noncomputable def pc(c:Nat):List Nat:=bif eA c then [91,c,93]else [c]
noncomputable def Bl(c:Nat):Str:=bif eA c then "[" ++ BC c ++ "]" else qP c
noncomputable def XR(c:Nat):OV:=.d (.str (Bl c))
section
variable{F L m:Nat}{c j u:Option OV}{l:List Nat}{ps:List OV}
noncomputable abbrev tW(F L m:Nat)(c j u:Option OV)(l:List Nat)(p:Int)(ps:List OV):Option (lU×St) :=
 cP (jW (aL (F+2) (L+1)) (eI (F+2) (aL (F+2) (L+1))) rA) (bN (aL (F+2) (L+1)) (eI (F+2) (aL (F+2) (L+1))) (F+2) fO) m (iN ⟨l.toArray⟩ p l.length c j u) (cU ps)
theorem w3{s:Str}{i n:Int}{b:Bool}{cl:iO}{ex:Nat→LO→St→Option (OV×St)}(h:decide (i<n)=b):jW cl ex rA (iN s i n c j u) (cU ps)=some (b,cU ps):=(show _=some (decide (i<n),cU ps) by kernel_rfl).trans (by rw[h])
theorem nI{A:List Nat}{x:Nat}:(((A++[x]).length:Nat):Int)=(A.length:Int)+1:=by rw[List.length_append]; rfl
theorem UO{A R:List Nat}{x:Nat}(hl:l=A++(pc x++R))(hb:l.length<80000)(hp:ps.length≤1000):∃ c' j' u',tW F L (m+1) c j u l A.length ps=tW F L m c' j' u' l (A++pc x).length (ps++[XR x]):=by
 have hlen:A.length+((pc x).length+R.length)=l.length:=by rw[hl,List.length_append,List.length_append]
 have hb':∀{k},k≤l.length→k<90000:=fun h=>Nat.lt_of_le_of_lt h (Nat.lt_trans hb (by decide))
 have hpos:0<(pc x).length:=by unfold pc; cases eA x <;> exact Nat.succ_pos _
 have ht:decide ((A.length:Int)<(l.length:Int))=true:=decide_eq_true (Int.ofNat_lt.mpr (hlen▸Nat.lt_add_of_pos_right (Nat.add_pos_left hpos _)))
 have hA:A.length<90000:=hb' (hlen▸Nat.le_add_right _ _)
 unfold pc at hl hlen ⊢
 unfold XR Bl
 cases hx:eA x with
 | false =>
  rw[hx]at hl
  have h:=LZ (F:=F+2) (L:=L) (s:=⟨l.toArray⟩) (i:=A.length) (n:=l.length) (c:=c) (j:=j) (u:=u) hx hp (by rw[hl]; exact sR hA)
  refine⟨some (sg x),j,u,(gB (w3 ht) h).trans ?_⟩
  exact congrArg (fun q=>tW F L m (some (sg x)) j u l q (ps++[.d (.str (qP x))])) nI.symm
 | true =>
  rw[hx]at hl hlen
  have e1:=nI (A:=A) (x:=91)
  have e2:(((A++[91]++[x]).length:Nat):Int)=(A.length:Int)+1+1:=by rw[nI,e1]
  have l1:l=A++[91]++x::(93::R):=by rw[hl,List.append_assoc]; rfl
  have l2:l=A++[91]++[x]++93::R:=by rw[hl,List.append_assoc,List.append_assoc]; rfl
  have s1:(A++[91]).length<80000:=by rw[l1]at hb; rw[List.length_append]at hb; exact Nat.lt_of_le_of_lt (Nat.le_add_right _ _) hb
  have s2:(A++[91]++[x]).length<80000:=by rw[l2]at hb; rw[List.length_append]at hb; exact Nat.lt_of_le_of_lt (Nat.le_add_right _ _) hb
  have h:=UQ (cl:=aL (F+2) (L+1)) (F':=F) (s:=⟨l.toArray⟩) (i:=A.length) (n:=l.length) (c:=c) (j:=j) (u:=u) hx hp (by rw[hl]; exact sR hA)
   (by rw[← e1,l1]; exact sR (Nat.lt_trans s1 (by decide))) (by rw[← e2,l2]; exact sR (Nat.lt_trans s2 (by decide)))
   (by rw[← e2]; exact Int.ofNat_lt.mpr (by rw[l2,List.length_append (bs:=93::R)]; exact Nat.lt_add_of_pos_right (Nat.succ_pos _)))
   (by rw[← e1,l1]; exact congrArg (fun l:List Nat=>some (OV.d (.str ⟨l.toArray⟩))) LP) (by rw[← e1]; exact z0 (Nat.lt_trans s1 (by decide))) (by rw[← e2]; exact z0 (Nat.lt_trans s2 (by decide)))
  refine⟨some (sg 91),some (.d (.int ((A.length:Int)+1+1))),some (.d (.str (BC x))),(gB (w3 ht) h).trans ?_⟩
  have e3:(A.length:Int)+1+1+1=(((A++[91,x,93]).length:Nat):Int):=by rw[← e2,← nI (x:=93),List.append_assoc,List.append_assoc]; rfl
  exact congrArg (fun q=>tW F L m (some (sg 91)) (some (.d (.int ((A.length:Int)+1+1)))) (some (.d (.str (BC x)))) l q (ps++[.d (.str ("[" ++ BC x ++ "]"))])) e3
noncomputable def pq:Option Nat→List Nat
 | some c=>pc c
 | none=>[63]
noncomputable def SA:Option Nat→OV
 | some c=>XR c
 | none=>.d (.str ".")
theorem LY{A R:List Nat}{q:Option Nat}(hl:l=A++(pq q++R))(hb:l.length<80000)(hp:ps.length≤1000):∃ c' j' u',tW F L (m+1) c j u l A.length ps=tW F L m c' j' u' l (A++pq q).length (ps++[SA q]):=by
 cases q with
 | some x=>exact UO hl hb hp
 | none =>
  have hlen:A.length+(1+R.length)=l.length:=by rw[hl,List.length_append,List.length_append]; rfl
  have h:A.length<l.length:=Nat.lt_of_lt_of_le (Nat.lt_succ_self _) (Nat.le_trans (Nat.add_le_add_left (Nat.le_add_right 1 _) _) (Nat.le_of_eq hlen))
  have ht:decide ((A.length:Int)<(l.length:Int))=true:=decide_eq_true (Int.ofNat_lt.mpr h)
  have hl':l=A++63::R:=hl
  have h:=UR (F:=F+2) (L:=L) (s:=⟨l.toArray⟩) (i:=A.length) (n:=l.length) (c:=c) (j:=j) (u:=u) hp (by rw[hl']; exact sR (Nat.lt_trans h (Nat.lt_trans hb (by decide))))
  refine⟨some (sg 63),j,u,(gB (w3 ht) h).trans ?_⟩
  exact congrArg (fun q=>tW F L m (some (sg 63)) j u l q (ps++[.d (.str ".")])) nI.symm
theorem UP{R:List Nat}{cs:List (Option Nat)}:∀{A:List Nat}{ps:List OV}{c j u:Option OV},l=A++(cs.flatMap pq++R)→l.length<80000→ps.length+cs.length≤1000→∃ c' j' u',tW F L (m+cs.length) c j u l A.length ps=tW F L m c' j' u' l (A++cs.flatMap pq).length (ps++cs.map SA):=by
 induction cs with
 | nil=>exact fun{A ps c j u}_ _ _=>⟨c,j,u,by rw[List.flatMap_nil,List.map_nil,List.append_nil,List.append_nil]; rfl⟩
 | cons x cs ih =>
  intro A ps c j u hl hb hp
  rw[List.flatMap_cons,List.append_assoc]at hl
  obtain⟨c1,j1,u1,g1⟩:=LY (F:=F) (L:=L) (m:=m+cs.length) (c:=c) (j:=j) (u:=u) hl hb (Nat.le_trans (Nat.le_add_right _ _) hp)
  obtain⟨c2,j2,u2,g2⟩:=ih (A:=A++pq x) (ps:=ps++[SA x]) (c:=c1) (j:=j1) (u:=u1) (hl.trans (List.append_assoc ..).symm) hb (by rw[List.length_append,Nat.add_assoc,Nat.add_comm [SA x].length]; exact hp)
  exact⟨c2,j2,u2,g1.trans (g2.trans (by rw[List.flatMap_cons,List.append_assoc,List.append_assoc]; rfl))⟩
end
section
variable{cl:iO}{ex:Nat→LO→St→Option (OV×St)}{f:Nat}{ρ ρ':LO}{st st' st'':St}{ss A:j4}
theorem z5{c:OE}(h:jW cl ex c ρ st=some (true,st')):BD cl ex f (.asrt c) ρ st=some (.next ρ,st'):=congrArg (Option.bind · _) h
theorem Cv(a b:Int):BI .Eq (.d (.int a)) (.d (.int b))=some (.d (.bool (a==b))):=by kernel_rfl
theorem NY{xs:List OV}{q:Int}{k:Nat}{v:OV}(hk:st[k]? = some (.list xs))(h0:0≤q)(h1:q<100000)(hg:xs[q.toNat]? = some v):fN st (.o k) (.d (.int q))=some v:=by
 have hp:dT q xs.length=some q.toNat:=by
  have h3:decide ((-(2 ^ 62):Int)<q)=true:=decide_eq_true (Int.lt_of_lt_of_le (by decide +kernel) h0)
  have h4:decide (q<(2 ^ 62:Int))=true:=decide_eq_true (Int.lt_trans h1 (by decide +kernel))
  unfold dT
  rw[h3,h4,if_pos h0,if_pos (JX hg)]; rfl
 have e:fN st (.o k) (.d (.int q))=fL st[k]? fun xs=>(dT q xs.length).bind (xs[·]?):=rfl
 rw[e,hk]
 show(dT q xs.length).bind (xs[·]?)=_
 rw[hp]; exact hg
theorem RQ{P R:List OV}{k:Nat}{v:OV}(hk:st[k]? = some (.list (P++v::R)))(hb:P.length<90000):fN st (.o k) (.d (.int P.length))=some v :=
 NY hk (Int.natCast_nonneg _) (Int.lt_trans (Int.ofNat_lt.mpr hb) (by decide)) (by rw[Int.toNat_natCast,List.getElem?_append_right (Nat.le_refl _),Nat.sub_self]; rfl)
end
noncomputable def T4(F L:Nat)(r:lU×St):Option (lU×St):=match r.1 with
 | .next ρ'=>bN (aL F (L+1)) (eI F (aL F (L+1))) F (fX 4 KR.body) ρ' r.2
 | g=>some (g,r.2)
section
variable{F L:Nat}{c j u:Option OV}{s:Str}{ps:List OV}{qs:List (Option Nat)}
theorem MA:aL F (L+2) 12 [.d (.str s),.o 0,.d (.str ".")] [.plain]=eJ (Option.bind (cP (jW (aL F (L+1)) (eI F (aL F (L+1))) rA) (bN (aL F (L+1)) (eI F (aL F (L+1))) F fO) F (iN s 0 s.length none none none) (cU [])) (T4 F L)):=by kernel_rfl
theorem L9{n:Int}:eJ (T4 F L (.next (iN s n n c j u),cU ps))=some (.o 1,cU ps) :=
 congrArg eJ (aP (z5 (st':=cU ps) ((show jW _ _ (.cmp .Eq (.var 5) (.var 6)) (iN s n n c j u) (cU ps)=some (n==n,cU ps) by kernel_rfl).trans (by rw[beq_self_eq_true]))) (q4 (v:=.o 1) rfl))
theorem GU(hl:qs.length≤900)(hb:(qs.flatMap pq).length<80000)(hF:1000≤F):aL (F+2) (L+2) 12 [.d (.str ⟨(qs.flatMap pq).toArray⟩),.o 0,.d (.str ".")] [.plain]=some (.o 1,cU (qs.map SA)):=by
 obtain⟨m,hm⟩:∃ m,F+2=m+1+qs.length:=⟨F+1 - qs.length,(congrArg (· + 1) (Nat.sub_add_cancel (Nat.le_trans hl (Nat.le_trans (by decide) (Nat.le_succ_of_le hF)))).symm).trans (Nat.add_right_comm _ _ _)⟩
 obtain⟨c,j,u,h⟩:=UP (F:=F) (L:=L) (m:=m+1) (l:=qs.flatMap pq) (A:=[]) (R:=[]) (ps:=[]) (cs:=qs) (c:=none) (j:=none) (u:=none) (List.append_nil _).symm hb (by rw[List.length_nil,Nat.zero_add]; exact Nat.le_trans hl (by decide))
 have hend:tW F L (m+1) c j u (qs.flatMap pq) ([]++qs.flatMap pq).length ([]++qs.map SA)=some (.next (iN ⟨(qs.flatMap pq).toArray⟩ ((qs.flatMap pq).length:Nat) ((qs.flatMap pq).length:Nat) c j u),cU (qs.map SA)):=nM (w3 (decide_eq_false (Int.lt_irrefl _)))
 exact MA.trans ((congrArg (fun o=>eJ (Option.bind o (T4 (F+2) L))) ((congrArg (fun k=>tW F L k none none none (qs.flatMap pq) ((0:Nat):Int) []) hm).trans (h.trans hend))).trans L9)
end
noncomputable abbrev jL(i n:Int)(x:Option OV):LO:=[some (.o 1),some (.o 0),some (.o 3),some (.o 4),some (.d (.int i)),some (.d (.int n)),x]
noncomputable abbrev jS(ps qs:List OV)(z:St):St:=.plain :: .list ps :: .meth 1 :: .list qs :: .meth 3::z
def GI(v:OV):Prop:=∃ s,v = .d (.str s)
theorem NM{test:LO→St→Option (Bool×St)}{body:LO→St→Option (lU×St)}{P:Int→LO}{S:List OV→St}{ps R:List OV}{m:Nat}
  (ht:∀ A v R qs,ps=A++v::R→GI v→test (P A.length) (S qs)=some (true,S qs)) (hb:∀ A v R qs,ps=A++v::R→GI v→qs.length≤1000→body (P A.length) (S qs)=some (.next (P ((A.length:Int)+1)),S (qs++[v]))) {vs:List OV} :
  ∀{A qs:List OV},ps=A++(vs++R)→(∀ v∈vs,GI v)→qs.length+vs.length≤1000→cP test body (m+vs.length) (P A.length) (S qs)=cP test body m (P (A++vs).length) (S (qs++vs)):=by
 induction vs with
 | nil=>exact fun{A qs}_ _ _=>by rw[List.append_nil,List.append_nil]; rfl
 | cons v vs ih =>
  intro A qs hp hv hq
  have e:A++v::vs=A++[v]++vs:=(List.append_assoc A [v] vs).symm
  have e2:qs++v::vs=qs++[v]++vs:=(List.append_assoc qs [v] vs).symm
  have hs:=hv v List.mem_cons_self
  have hl:(((A++[v]).length:Nat):Int)=(A.length:Int)+1:=by rw[List.length_append]; rfl
  have g:=ih (A:=A++[v]) (qs:=qs++[v]) (hp.trans (List.append_assoc A [v] (vs++R)).symm) (fun w h=>hv w (List.mem_cons_of_mem _ h)) (by rw[List.length_append,Nat.add_assoc,Nat.add_comm [v].length]; exact hq)
  rw[hl]at g
  rw[e,e2]
  exact(gB (ht A v (vs++R) qs hp hs) (hb A v (vs++R) qs hp hs (Nat.le_trans (Nat.le_add_right _ _) hq))).trans g
section
variable{cl:iO}{ex:Nat→LO→St→Option (OV×St)}{f:Nat}{ps qs:List OV}{z:St}{i n:Int}{x:Option OV}{v:OV}
theorem Cg(h:i<n):cK cl ex (.cmp .Lt (.var 4) (.var 5)) (jL i n x) (jS ps qs z)=some (.d (.bool true),jS ps qs z):=(show _=some (OV.d (.bool (decide (i<n))),jS ps qs z) by kernel_rfl).trans (by rw[decide_eq_true h])
theorem TA(hi:fN (jS ps qs z) (.o 1) (.d (.int i))=some v):cK cl ex (.idx (.var 0) (.var 4)) (jL i n x) (jS ps qs z)=some (v,jS ps qs z):=B0 (v:=.o 1) (w:=.d (.int i)) rfl rfl hi
theorem Ed(h:i<n)(hi:fN (jS ps qs z) (.o 1) (.d (.int i))=some v)(hv:GI v):jW cl ex gM (jL i n x) (jS ps qs z)=some (true,jS ps qs z):=by
 obtain⟨s,rfl⟩:=hv
 exact xT (Cg h) (sL (w:=.o 0) (TA hi) rfl rfl)
theorem WR{k:Int}:jW cl ex gM (jL k k x) (jS ps qs z)=some (false,jS ps qs z):=by
 have e:cK cl ex (.cmp .Lt (.var 4) (.var 5)) (jL k k x) (jS ps qs z)=some (.d (.bool false),jS ps qs z):=(show _=some (OV.d (.bool (decide (k<k))),jS ps qs z) by kernel_rfl).trans (by rw[decide_eq_false (Int.lt_irrefl _)])
 have e2:cK cl ex gM (jL k k x) (jS ps qs z)=some (.d (.bool false),jS ps qs z):=congrArg (Option.bind · _) e
 exact B1 e2
theorem WQ(hq:qs.length≤1000):mY (jS ps qs z) 3 v=some (jS ps (qs++[v]) z):=if_pos hq
theorem Ci(hi:fN (jS ps qs z) (.o 1) (.d (.int i))=some v)(hq:qs.length≤1000):bN cl ex f lD (jL i n x) (jS ps qs z)=some (.next (jL (i+1) n x),jS ps (qs++[v]) z) :=
 aP (q5 (m:=4) (j:=3) rfl (TA hi) rfl (WQ hq)) (aP (ρ':=jL (i+1) n x) (st':=jS ps (qs++[v]) z) (by kernel_rfl) rfl)
theorem Ch{k:Int}{b:Bool}(h:(i==k)=b):jW cl ex (.cmp .Eq (.var 4) (.var 5)) (jL i k x) (jS ps qs z)=some (b,jS ps qs z):=(show _=some (i==k,jS ps qs z) by kernel_rfl).trans (by rw[h])
end
noncomputable def lV(l:List Nat):OV:=.d (.str ⟨l.toArray⟩)
noncomputable def pl(c:Nat):List Nat:=bif eA c then 91::((bif c==91 then [92,91]else [c])++[93])else if j7 c then [92,c]else [c]
theorem VW(c:Nat):XR c=lV (pl c):=by
 unfold XR Bl pl BC qP lV
 cases eA c with
 | true=>cases c==91 <;> rfl
 | false =>
  by_cases h:j7 c=true
  ·rw[if_pos h,cond_false,cond_false,if_pos h]
  ·rw[if_neg h,cond_false,cond_false,if_neg h]
theorem vZ(ls:List (List Nat)):Str.join "" (ls.map fun l=>(⟨l.toArray⟩:Str))=⟨ls.flatten.toArray⟩:=by
 induction ls with
 | nil=>rfl
 | cons l ls ih =>
  cases ls with
  | nil=>exact congrArg (fun l:List Nat=>(⟨l.toArray⟩:Str)) (List.append_nil l).symm
  | cons k ls =>
   show(⟨l.toArray⟩:Str) ++ "" ++ Str.join "" ((k::ls).map fun l=>(⟨l.toArray⟩:Str))=⟨(l++(k::ls).flatten).toArray⟩
   rw[ih,show("" : Str)=⟨([]:List Nat).toArray⟩from rfl,i4,i4,List.append_nil]
theorem GW(ls:List (List Nat)):u0 (ls.map lV)=some (ls.map fun l=>(⟨l.toArray⟩:Str)):=by
 induction ls with
 | nil=>rfl
 | cons l ls ih=>exact congrArg (Option.map _) ih
theorem zV(ls:List (List Nat)):∀ k:Nat,(ls.map fun l=>(⟨l.toArray⟩:Str)).foldl (fun n x=>n+x.length+("" : Str).length) k=k+ls.flatten.length:=by
 induction ls with
 | nil=>exact fun k=>rfl
 | cons l ls ih=>exact fun k=>(ih _).trans (by rw[List.flatten_cons,List.length_append,← Nat.add_assoc]; rfl)
theorem DJ{st:St}{k:Nat}{ls:List (List Nat)}(hk:st[k]? = some (.list (ls.map lV)))(hb:ls.flatten.length≤90000):JR st (.d (.str "")) (.o k)=some (lV ls.flatten):=by
 have e:JR st (.d (.str "")) (.o k)=Option.bind (fL st[k]? fun xs=>some (k,xs)) fun p=>(u0 p.2).bind fun ss=>if ss.foldl (fun n x=>n+x.length+("" : Str).length) 0≤2 ^ 20 then some (.d (.str (Str.join "" ss)))else none:=rfl
 rw[e,hk]
 show Option.bind (u0 (ls.map lV)) _=_
 rw[GW]
 show(if _ then _ else _)=_
 rw[zV,Nat.zero_add,if_pos (Nat.le_trans hb (show 90000≤2 ^ 20 by decide)),vZ]; rfl
theorem GY{l:List Nat}(a b:List Nat)(hb:(a++l++b).length≤90000):O5 (⟨a.toArray⟩++⟨l.toArray⟩++⟨b.toArray⟩)=some (lV (a++l++b)):=by
 rw[i4,i4]
 exact if_pos (Nat.le_trans hb (by decide))
section
variable{cl:iO}{ex:Nat→LO→St→Option (OV×St)}{f m:Nat}{ps vs R A qs fs:List OV}{z:St}{x:Option OV}
theorem UD{B:List OV}{v:OV}{R':List OV}(h:ps=B++v::R')(hb:ps.length≤2000):((B.length:Int)<(ps.length:Nat))∧∀ qs z,fN (jS ps qs z) (.o 1) (.d (.int B.length))=some v:=by
 have hl:B.length<ps.length:=by rw[h,List.length_append]; exact Nat.lt_add_of_pos_right (Nat.succ_pos _)
 exact⟨Int.ofNat_lt.mpr hl,fun qs z=>RQ (congrArg (fun l=>some (FO.list l)) h) (Nat.lt_of_lt_of_le hl (Nat.le_trans hb (by decide)))⟩
theorem Cf(hb:ps.length≤2000)(hp:ps=A++(vs++R))(hv:∀ v∈vs,GI v)(hq:qs.length+vs.length≤1000) :
  cP (jW cl ex gM) (bN cl ex f lD) (m+vs.length) (jL A.length (ps.length:Nat) x) (jS ps qs z)=cP (jW cl ex gM) (bN cl ex f lD) m (jL (A++vs).length (ps.length:Nat) x) (jS ps (qs++vs) z) :=
 NM (P:=fun q=>jL q (ps.length:Nat) x) (S:=fun qs=>jS ps qs z) (fun B v R' qs h hs=>Ed (UD h hb).1 ((UD h hb).2 qs z) hs) (fun B v R' qs h hs hq=>Ci ((UD h hb).2 qs z) hq) hp hv hq
end
noncomputable def T3(F L:Nat)(r:lU×St):Option (lU×St):=match r.1 with
 | .next ρ'=>bN (aL F (L+1)) (eI F (aL F (L+1))) F (fX 4 B7.body) ρ' r.2
 | g=>some (g,r.2)
section
variable{F L:Nat}{ps:List OV}{z:St}{x:Option OV}{ls:List (List Nat)}
theorem L8:aL F (L+2) 13 [.o 1,.o 0] (cU ps)=eJ (Option.bind (cP (jW (aL F (L+1)) (eI F (aL F (L+1))) gM) (bN (aL F (L+1)) (eI F (aL F (L+1))) F lD) F (jL 0 (ps.length:Nat) none) (jS ps [] [])) (T3 F L)):=by kernel_rfl
theorem L7{n:Int}(hb:ls.flatten.length≤80000):eJ (bN (aL F (L+1)) (eI F (aL F (L+1))) F (fX 5 B7.body) (jL n n x) (jS ps (ls.map lV) z))=some (lV ([40,63,115,58]++ls.flatten++[41,92,90]),jS ps (ls.map lV) z):=by
 refine congrArg eJ (aP (z5 (Ch (beq_self_eq_true n))) (aP (ρ':=[some (.o 1),some (.o 0),some (lV ls.flatten),some (.o 4),some (.d (.int n)),some (.d (.int n)),x]) (st':=jS ps (ls.map lV) z) ?_ (q4 (v:=lV ([40,63,115,58]++ls.flatten++[41,92,90])) (st':=jS ps (ls.map lV) z) ?_)))
 ·exact i8 (v:=lV ls.flatten) (congrArg (Option.map fun v=>(v,jS ps (ls.map lV) z)) (DJ (st:=jS ps (ls.map lV) z) (k:=3) rfl (Nat.le_trans hb (by decide))))
 ·exact congrArg (Option.map fun v=>(v,jS ps (ls.map lV) z)) (GY [40,63,115,58] [41,92,90] (by rw[List.length_append,List.length_append]; exact Nat.le_trans (Nat.add_le_add_right (Nat.add_le_add_left hb 4) 3) (by decide)))
theorem U8{ls:List (List Nat)}:∀ v∈ls.map lV,GI v:=fun v h=>let⟨_,_,e⟩:=List.mem_map.mp h; ⟨_,e.symm⟩
theorem Z2{cl:iO}{ex:Nat→LO→St→Option (OV×St)}{k:Int}{qs:List OV}:jW cl ex xW (jL k k x) (jS ps qs z)=some (false,jS ps qs z):=(show _=some (decide (k<k),jS ps qs z) by kernel_rfl).trans (by rw[decide_eq_false (Int.lt_irrefl _)])
theorem GT(hl:ls.length≤900)(hb:ls.flatten.length≤70000)(hF:1000≤F):(aL (F+1) (L+2) 13 [.o 1,.o 0] (cU (ls.map lV))).map (·.1)=some (lV ([40,63,115,58]++ls.flatten++[41,92,90])):=by
 obtain⟨m,hm⟩:∃ m,F+1=m+1+(ls.map lV).length:=⟨F - ls.length,by rw[List.length_map,Nat.add_right_comm,Nat.sub_add_cancel (Nat.le_trans hl (Nat.le_trans (by decide) hF))]⟩
 have hps:(ls.map lV).length≤2000:=by rw[List.length_map]; exact Nat.le_trans hl (by decide)
 have w2:=(Cf (cl:=aL (F+1) (L+1)) (ex:=eI (F+1) (aL (F+1) (L+1))) (f:=F+1) (m:=m+1) (A:=[]) (R:=[]) (qs:=[]) (z:=[]) (x:=none) hps (List.append_nil _).symm U8 (by rw[List.length_map,List.length_nil,Nat.zero_add]; exact Nat.le_trans hl (by decide))).trans (nM WR)
 have htl:=L7 (F:=F+1) (L:=L) (ps:=ls.map lV) (z:=[]) (x:=none) (ls:=ls) (n:=((ls.map lV).length:Nat)) (Nat.le_trans hb (by decide))
 have hw:BD (aL (F+1) (L+1)) (eI (F+1) (aL (F+1) (L+1))) (F+1) (.while_ xW E1) (jL ((ls.map lV).length:Nat) ((ls.map lV).length:Nat) none) (jS (ls.map lV) (ls.map lV) [])=some (.next (jL ((ls.map lV).length:Nat) ((ls.map lV).length:Nat) none),jS (ls.map lV) (ls.map lV) []):=nM (n:=F) Z2
 have hK:eJ (T3 (F+1) L (.next (jL ((ls.map lV).length:Nat) ((ls.map lV).length:Nat) none),jS (ls.map lV) (ls.map lV) []))=some (lV ([40,63,115,58]++ls.flatten++[41,92,90]),jS (ls.map lV) (ls.map lV) []) :=
  (congrArg eJ (aP hw rfl)).trans htl
 have hall:=L8.trans ((congrArg (fun o=>eJ (Option.bind o (T3 (F+1) L))) ((congrArg (fun k=>cP (jW (aL (F+1) (L+1)) (eI (F+1) (aL (F+1) (L+1))) gM) (bN (aL (F+1) (L+1)) (eI (F+1) (aL (F+1) (L+1))) (F+1) lD) k (jL 0 ((ls.map lV).length:Nat) none) (jS (ls.map lV) [] [])) hm).trans w2)).trans hK)
 rw[hall]; rfl
theorem Bh{d:PyData}{s:Str}(h12:aL F (L+2) 12 [.d (.str s),.o 0,.d (.str ".")] [.plain]=some (.o 1,cU ps))(h13:(aL F (L+2) 13 [.o 1,.o 0] (cU ps)).map (·.1)=some (.d d)):∃ st,aL F (L+3) 14 [.d (.str s)] []=some (.d d,st):=by
 obtain⟨⟨v,st⟩,h,e⟩:=Option.map_eq_some_iff.mp h13
 have e:v = .d d:=e
 subst e
 refine⟨st,(show _=eJ (bN (aL F (L+2)) (eI F (aL F (L+2))) F KQ.body [some (.d (.str s)),none,none] []) by kernel_rfl).trans (congrArg eJ (aP (ρ':=[some (.d (.str s)),some (.o 0),none]) (st':=[.plain]) (by kernel_rfl) (aP (i8 (v:=.o 1) (st':=cU ps) ?_) (q4 (v:=.d d) (st':=st) ?_))))⟩
 ·exact(show _=aL F (L+2) 12 [.d (.str s),.o 0,.d (.str ".")] [.plain] by kernel_rfl).trans h12
 ·exact(show _=aL F (L+2) 13 [.o 1,.o 0] (cU ps) by kernel_rfl).trans h
noncomputable def pO:Option Nat→List Nat
 | some c=>pl c
 | none=>[46]
theorem QF{qs:List (Option Nat)}:qs.map SA=(qs.map pO).map lV:=by
 rw[List.map_map]
 refine List.map_congr_left fun q _=>?_
 cases q with
 | some c=>exact VW c
 | none=>rfl
theorem BX(qs:List (Option Nat)):(qs.map pO).flatten.length≤5*qs.length:=by
 induction qs with
 | nil=>exact Nat.le_refl _
 | cons q qs ih =>
  rw[List.map_cons,List.flatten_cons,List.length_append,List.length_cons,Nat.mul_succ,Nat.add_comm]
  refine Nat.add_le_add ih ?_
  cases q with
  | none=>exact Nat.le_of_ble_eq_true rfl
  | some c =>
   show(pl c).length≤5
   unfold pl
   cases eA c <;> cases c==91 <;> cases j7 c <;> exact Nat.le_of_ble_eq_true rfl
noncomputable def R9(l:List Nat):PyData:=.str ⟨([40,63,115,58]++l++[41,92,90]).toArray⟩
theorem L0{s:Str}{l:List Nat}(hok:bL (R9 l)=true)(h:∃ st,aL F 6 14 [.d (.str s)] []=some (.d (R9 l),st)):oS F s=some (R9 l):=by
 obtain⟨st,h⟩:=h
 unfold oS
 rw[h]
 exact if_pos (congrArg _ hok)
theorem A0{qs:List (Option Nat)}(hl:qs.length≤900)(hb:(qs.flatMap pq).length<80000)(hF:1000≤F)(hok:bL (R9 (qs.map pO).flatten)=true):oS (F+2) ⟨(qs.flatMap pq).toArray⟩=some (R9 (qs.map pO).flatten) :=
 L0 hok (Bh (L:=3) (QF▸GU hl hb hF) (GT (F:=F+1) (L:=3) (ls:=qs.map pO) (by rw[List.length_map]; exact hl) (Nat.le_trans (BX qs) (Nat.le_trans (Nat.mul_le_mul_left 5 hl) (by decide))) (Nat.le_succ_of_le hF)))
end
noncomputable abbrev aG(cs:List Nat):PyData:=.list (cs.map wD)
theorem LI(a b:Nat):PyData.eqv (wD a) (wD b)=(a==b):=by
 show((⟨#[a]⟩:Str)==⟨#[b]⟩)=_
 by_cases h:a=b
 ·subst h; simp
 ·rw[beq_eq_false_iff_ne.mpr h,beq_eq_false_iff_ne.mpr]
  intro e; injection e with e; injection e with e; injection e with e _; exact h e
theorem oJ:∀(a b:List Nat),PyData.eqvAll (a.map wD) (b.map wD)=(a==b)
 | [],[]=>by simp[PyData.eqvAll]
 | [],_::_=>by simp[PyData.eqvAll]
 | _::_,[]=>by simp[PyData.eqvAll]
 | a::as,b::bs=>by
  rw[List.map_cons,List.map_cons,PyData.eqvAll,LI,oJ]
  simp
theorem tF(a b:List Nat):PyData.eqv (aG a) (aG b)=(a==b):=by rw[aG,aG,PyData.eqv,oJ]
theorem qE:∀(a:List Nat),PyData.depthAll (a.map wD)=0
 | []=>by simp[PyData.depthAll]
 | a::as=>by rw[List.map_cons,PyData.depthAll,qE]; simp[wD,PyData.depth]
theorem wG(a:List Nat):(aG a).depth=1:=by rw[aG,PyData.depth,qE]
theorem AU(a:List Nat)(d:PyData):jY (aG a) d=true:=decide_eq_true (Nat.le_trans (Nat.min_le_left _ _) (by rw[wG]; decide))
theorem Bb(a b:List Nat):zI .NotEq (aG a) (aG b)=some (.bool (!(a==b))):=by
 show(if jY (aG a) (aG b)=true then some (PyData.bool (!PyData.eqv (aG a) (aG b)))else none)=_
 rw[AU,tF]; rfl
theorem zU{α:Type}(l:List α)(n:Nat):l.take (min n l.length)=l.take n:=by
 rcases Nat.le_total n l.length with h | h
 ·rw[Nat.min_eq_left h]
 ·rw[Nat.min_eq_right h,List.take_length,List.take_of_length_le h]
theorem AW{α:Type}(l:List α)(k n:Nat)(h:l.length≤n):l.drop (min k n)=l.drop k:=by
 rcases Nat.le_total k n with h' | h'
 ·rw[Nat.min_eq_left h']
 ·rw[Nat.min_eq_right h',List.drop_of_length_le h,List.drop_of_length_le (Nat.le_trans h h')]
theorem lP(k n:Nat):dG (k:Int) n=min k n:=by
 rcases Nat.le_total k n with h | h
 ·rw[Nat.min_eq_left h,tI h]
 ·rw[Nat.min_eq_right h,dG,if_neg (Int.not_lt.mpr (Int.natCast_nonneg k)),Int.min_eq_right (Int.ofNat_le.mpr h)]
  exact congrArg Int.toNat (Int.max_eq_right (Int.natCast_nonneg n))
theorem W8{α:Type}(l:List α)(a b:Nat):cut l (some (a:Int)) (some (b:Int))=(l.take b).drop a:=by
 unfold cut
 dsimp only
 rw[lP,lP,zU,AW _ _ _ (List.length_take_le' b l)]
theorem LN{α:Type}(l:List α)(b:Nat):cut l none (some (b:Int))=l.take b:=by
 unfold cut
 dsimp only
 rw[lP,zU,List.drop_zero]
theorem W7{α:Type}(l:List α)(a:Nat):cut l (some (a:Int)) none=l.drop a:=by
 unfold cut
 dsimp only
 rw[lP,List.take_length,AW _ _ _ (Nat.le_refl _)]
section
variable{α:Type} [BEq α] [LawfulBEq α] {D:α→PyData}
noncomputable def zB:List α→List α→List α
 | [],acc=>acc
 | x::xs,acc=>zB xs (if acc.contains x then acc else acc++[x])
theorem TQ(hD:∀ a b,PyData.eqv (D a) (D b)=(a==b))(x:α)(a:List α):((a.map D).any fun y=>PyData.eqv y (D x))=a.contains x:=by
 induction a with
 | nil=>rfl
 | cons a as ih=>rw[List.map_cons,List.any_cons,ih,hD,List.contains_cons,show(a==x)=(x==a)from by rw[Bool.eq_iff_iff,beq_iff_eq,beq_iff_eq,eq_comm]]
theorem tG(xs:List α):∀ acc:List α,acc.Nodup→(zB xs acc).Nodup:=by
 induction xs with
 | nil=>exact fun _ h=>h
 | cons x xs ih =>
  intro acc h
  rw[zB]
  split
  ·exact ih acc h
  ·rename_i hc
   refine ih _ (List.nodup_append.mpr ⟨h,List.nodup_cons.mpr ⟨List.not_mem_nil,List.nodup_nil⟩,fun a ha b hb e=>hc ?_⟩)
   exact List.contains_iff_mem.mpr (List.mem_singleton.mp hb▸e▸ha)
theorem xG(xs:List α)(y:α):∀ acc:List α,y∈zB xs acc↔y∈acc∨y∈xs:=by
 induction xs with
 | nil=>exact fun acc=>⟨.inl,fun h=>h.resolve_right List.not_mem_nil⟩
 | cons x xs ih =>
  intro acc
  rw[zB,ih,List.mem_cons]
  split
  ·rename_i hc
   have hx:=List.contains_iff_mem.mp hc
   exact⟨Or.imp_right .inr,fun h=>h.elim .inl fun h=>h.elim (fun e=>.inl (e▸hx)) .inr⟩
  ·rw[List.mem_append,List.mem_singleton,or_assoc]
theorem W6(xs:List α):∀ acc:List α,(zB xs acc).length≤acc.length+xs.length:=by
 induction xs with
 | nil=>exact fun _=>Nat.le_refl _
 | cons x xs ih =>
  intro acc
  rw[zB,List.length_cons,Nat.add_comm xs.length,← Nat.add_assoc]
  refine Nat.le_trans (ih _) (Nat.add_le_add_right ?_ _)
  split
  ·exact Nat.le_succ _
  ·exact Nat.le_of_eq List.length_append
theorem G6(hD:∀ a b,PyData.eqv (D a) (D b)=(a==b))(x:α)(l:List α):dP (l.map D) (D x)=if l.contains x then some ((l.erase x).map D)else none:=by
 induction l with
 | nil=>rfl
 | cons y l ih =>
  rw[List.map_cons,dP,hD,ih,List.contains_cons,List.erase_cons]
  by_cases h:y=x
  ·subst h; rw[beq_self_eq_true,Bool.true_or]; rfl
  ·rw[beq_false_of_ne h,beq_false_of_ne (Ne.symm h),Bool.false_or]
   simp only[Bool.false_eq_true,if_false]
   split <;> rfl
theorem C3(hD:∀ a b,PyData.eqv (D a) (D b)=(a==b))(xs:List α):∀ ts:List α,xs.Nodup→ts.Nodup→dY (xs.map D) (ts.map D)=if xs.all ts.contains then some ((ts.filter fun t=>!xs.contains t).map D)else none:=by
 induction xs with
 | nil =>
  intro ts _ _
  exact congrArg (fun l=>some (List.map D l)) (List.filter_eq_self.mpr fun _ _=>rfl).symm
 | cons x xs ih =>
  intro ts hx ht
  rw[List.map_cons,dY,G6 hD,List.all_cons]
  rw[List.nodup_cons]at hx
  by_cases h:ts.contains x=true
  ·rw[if_pos h,Option.bind_some,ih _ hx.2 (ht.erase x),h,Bool.true_and]
   have e1:xs.all (ts.erase x).contains=xs.all ts.contains:=by
    rw[Bool.eq_iff_iff,List.all_eq_true,List.all_eq_true]
    refine forall_congr' fun y=>forall_congr' fun hy=>?_
    rw[List.contains_iff_mem,List.contains_iff_mem,ht.mem_erase_iff]
    exact⟨And.right,fun h=>⟨fun e=>hx.1 (e▸hy),h⟩⟩
   have e2:(ts.erase x).filter (fun t=>!xs.contains t)=ts.filter fun t=>!(x::xs).contains t:=by
    rw[ht.erase_eq_filter,List.filter_filter]
    refine List.filter_congr fun t _=>?_
    rw[List.contains_cons,Bool.not_or,Bool.and_comm]
    rfl
   rw[e1,e2]
  ·rw[if_neg h,Option.bind_none,Bool.eq_false_iff.mpr h,Bool.false_and,if_neg (by decide)]
noncomputable def l3(xs ys:List α):Bool:=xs.all ys.contains&&ys.all xs.contains
theorem OI(hD:∀ a b,PyData.eqv (D a) (D b)=(a==b)){xs ys:List α}(hx:xs.Nodup)(hy:ys.Nodup):gX (xs.map D) (ys.map D)=l3 xs ys:=by
 unfold gX l3
 rw[C3 hD xs ys hx hy]
 by_cases h:xs.all ys.contains=true
 ·rw[if_pos h,h,Bool.true_and]
  dsimp only
  rw[Bool.eq_iff_iff,List.isEmpty_iff,List.map_eq_nil_iff,List.filter_eq_nil_iff,List.all_eq_true]
  refine forall_congr' fun y=>forall_congr' fun _=>?_
  cases xs.contains y <;> simp
 ·rw[if_neg h,Bool.eq_false_iff.mpr h,Bool.false_and]
theorem lM(xs ys:List α):l3 xs ys=true↔∀ x,x∈xs↔x∈ys:=by
 unfold l3
 rw[Bool.and_eq_true,List.all_eq_true,List.all_eq_true]
 exact⟨fun⟨h1,h2⟩x=>⟨fun h=>List.contains_iff_mem.mp (h1 x h),fun h=>List.contains_iff_mem.mp (h2 x h)⟩,fun h=>⟨fun x hx=>List.contains_iff_mem.mpr ((h x).mp hx),fun x hx=>List.contains_iff_mem.mpr ((h x).mpr hx)⟩⟩
theorem ML(xs ys:List α):l3 (zB xs []) (zB ys [])=l3 xs ys:=by
 rw[Bool.eq_iff_iff,lM,lM]
 refine forall_congr' fun x=>?_
 rw[xG,xG,or_iff_right List.not_mem_nil,or_iff_right List.not_mem_nil]
end
structure jU{α:Type} [BEq α] (D:α→PyData):Prop where
 eqv:∀ a b,PyData.eqv (D a) (D b)=(a==b)
 dep:∀ a,(D a).depth≤60
theorem n6{d:PyData}(h:d.depth≤60)(e:PyData):jY d e=true:=decide_eq_true (Nat.le_trans (Nat.min_le_left _ _) (Nat.le_trans h (by decide)))
section
variable{α:Type} [BEq α] [LawfulBEq α] {D:α→PyData} (hD:jU D)
include hD
theorem X5(x:α)(a:List α):zI .In (D x) (.list (a.map D))=some (.bool (a.contains x)):=by
 show(if jY (D x) (.list (a.map D))=true then some ((a.map D).any fun y=>PyData.eqv y (D x))else none).map _=_
 rw[n6 (hD.dep x),TQ hD.eqv]; rfl
theorem rB(x:α)(a:List α):zI .NotIn (D x) (.list (a.map D))=some (.bool (!a.contains x)):=by
 show(if jY (D x) (.list (a.map D))=true then some ((a.map D).any fun y=>PyData.eqv y (D x))else none).map _=_
 rw[n6 (hD.dep x),TQ hD.eqv]; rfl
theorem yK:∀ a:List α,PyData.depthAll (a.map D)≤60
 | []=>Nat.zero_le _
 | a::as=>by rw[List.map_cons,PyData.depthAll]; exact Nat.max_le.mpr ⟨hD.dep a,yK as⟩
end
theorem yD:jU wD:=⟨LI,fun _=>Nat.zero_le _⟩
theorem w9{xs:List PyData}(h:xs.length≤1000000):SF xs=some (.list xs):=by
 unfold SF
 rw[if_pos (Nat.le_trans h (by decide))]
section
variable{tab:Nat→Option PF}{prim:Nat→List PyData→Option PyData}{F l:Nat}{cl:Nat→List PyData→Option PyData}
theorem bM{s:PS}{ss:kX}{σ σ':eH}(h:zA cl F s σ=some (.next σ')):c8 cl F (.cons s ss) σ=c8 cl F ss σ':=congrArg (Option.bind · _) h
theorem UM{s:PS}{ss:kX}{σ:eH}{d:PyData}(h:zA cl F s σ=some (.ret d)):c8 cl F (.cons s ss) σ=some (.ret d):=congrArg (Option.bind · _) h
theorem iV{s:PS}{σ σ':eH}(h:zA cl F s σ=some (.next σ')):c8 cl F (.cons s .nil) σ=some (.next σ'):=congrArg (Option.bind · _) h
theorem zJ{c:PE}{a b:kX}{σ:eH}{d:PyData}{t:Bool}(h:aD cl c σ.env=some d)(ht:bV d=some t):zA cl F (.ife c a b) σ=if t then c8 cl F a σ else c8 cl F b σ:=(congrArg (Option.bind · _) h).trans (congrArg (Option.bind · _) ht)
theorem DS{c:PE}{a b:kX}{σ:eH}{d:PyData}(h:aD cl c σ.env=some d)(ht:bV d=some false):zA cl F (.ife c a b) σ=c8 cl F b σ:=zJ h ht
theorem UL{c:PE}{a b:kX}{σ:eH}{d:PyData}(h:aD cl c σ.env=some d)(ht:bV d=some true):zA cl F (.ife c a b) σ=c8 cl F a σ:=zJ h ht
theorem kB{x:Nat}{e:PE}{σ:eH}{d:PyData}(h:aD cl e σ.env=some d):zA cl F (.assign x e) σ=some (.next (OX σ x d (iY σ.own d e) (u7 e))):=congrArg (Option.map _) h
theorem uX{e:PE}{ss:kX}{σ:eH}{d:PyData}(h:aD cl e σ.env=some d):c8 cl F (.cons (.ret e) ss) σ=some (.ret d):=UM (congrArg (Option.map _) h)
theorem wY{x:Nat}{e:PE}{σ:eH}{xs:List PyData}{d:PyData}(ho:σ.own.contains x=true)(hx:aY σ.env x=some (.list xs))(h:aD cl e σ.env=some d)(hg:(!flat d&&(lT e).contains x)=false)(hl:xs.length+1≤1000000) :
  zA cl F (.app x e) σ=some (.next { env:=σ.env.set x (some (.list (xs++[d]))),own:=iY σ.own d e }):=by
 have h0:zA cl F (.app x e) σ=if σ.own.contains x then(Option.bind (aY σ.env x) fun q=>l4 q fun xs=>(aD cl e σ.env).bind fun d=>if !flat d&&(lT e).contains x then none else(SF (xs++[d])).map fun l=>.next { env:=σ.env.set x (some l),own:=iY σ.own d e })else none:=rfl
 rw[h0,if_pos ho,hx]
 show Option.bind (aD cl e σ.env) _=_
 rw[h]
 show(if(!flat d&&(lT e).contains x)=true then _ else _)=_
 rw[hg,w9 (by rw[List.length_append]; exact hl)]
 rfl
theorem wX{t:Tg}{i:PI}{b:kX}{σ:eH}{ds:List PyData}(h:wO cl i σ.env=some ds):zA cl F (.for_ t i b) σ=eQ (c8 cl F b) (fun d τ=>(gJ t d τ.env).map fun ρ=>{ env:=ρ,own:=lose τ.own (bT t) }) ds { σ with own:=lose σ.own (dX i) }:=congrArg (Option.bind · _) h
theorem yE{body:eH→Option Fl}{bind:PyData→eH→Option eH}{d:PyData}{ds:List PyData}{σ σ₁ σ₂:eH}(h1:bind d σ=some σ₁)(h2:body σ₁=some (.next σ₂)):eQ body bind (d::ds) σ=eQ body bind ds σ₂:=(congrArg (Option.bind · _) h1).trans (congrArg (Option.bind · _) h2)
theorem EA{test:eH→Option Bool}{body:eH→Option Fl}{n:Nat}{σ σ':eH}(h1:test σ=some true)(h2:body σ=some (.next σ')):dH test body (n+1) σ=dH test body n σ':=(congrArg (Option.bind · _) h1).trans (congrArg (Option.bind · _) h2)
theorem J9{test:eH→Option Bool}{body:eH→Option Fl}{n:Nat}{σ:eH}(h1:test σ=some false):dH test body (n+1) σ=some (.next σ):=congrArg (Option.bind · _) h1
theorem oV{f:Nat}{pf:PF}{args:List PyData}{d:PyData}(ht:tab f=some pf)(ha:args.length=pf.arity)(h:c8 (c7 tab prim F l) F pf.body ⟨d7 pf.size args,[]⟩=some (.ret d)):c7 tab prim F (l+1) f args=some d:=by
 rw[c7,ht]
 dsimp only
 rw[if_pos ha,h]
theorem nO{f:Nat}{args:List PyData}(ht:tab f=none):c7 tab prim F (l+1) f args=prim f args:=by rw[c7,ht]
variable{α:Type} [BEq α] [LawfulBEq α] {D:α→PyData} (hD:jU D)
include hD
theorem OG{a:Option PyData}(xs:List α):∀(acc:List α)(t:Option PyData),acc.length+xs.length≤1000 →
  ∃ t',eQ (c8 cl F (.cons (.ife (.cmp .NotIn (.var 2) (.var 1)) (.cons (.app 1 (.var 2)) .nil) .nil) .nil)) (fun d τ=>(gJ (.one 2) d τ.env).map fun ρ=>{ env:=ρ,own:=lose τ.own (bT (.one 2)) }) (xs.map D) ⟨[a,some (.list (acc.map D)),t],[1]⟩ =
   some (.next ⟨[a,some (.list ((zB xs acc).map D)),t'],[1]⟩):=by
 induction xs with
 | nil=>exact fun acc t _=>⟨t,rfl⟩
 | cons x xs ih =>
  intro acc t h
  rw[List.length_cons]at h
  have e:aD cl (.cmp .NotIn (.var 2) (.var 1)) [a,some (.list (acc.map D)),some (D x)]=some (.bool (!acc.contains x)):=rB hD x acc
  have step:c8 cl F (.cons (.ife (.cmp .NotIn (.var 2) (.var 1)) (.cons (.app 1 (.var 2)) .nil) .nil) .nil) ⟨[a,some (.list (acc.map D)),some (D x)],[1]⟩=some (.next ⟨[a,some (.list ((if acc.contains x then acc else acc++[x]).map D)),some (D x)],[1]⟩):=by
   refine iV ?_
   rw[zJ (F:=F) (a:=.cons (.app 1 (.var 2)) .nil) (b:=.nil) (σ:=⟨[a,some (.list (acc.map D)),some (D x)],[1]⟩) e rfl]
   cases hc:acc.contains x
   ·refine iV ?_
    rw[wY (xs:=acc.map D) (d:=D x) rfl rfl rfl (Bool.and_false _) (by rw[List.length_map]; exact Nat.le_trans (Nat.succ_le_succ (Nat.le_add_right _ _)) (Nat.le_trans h (by decide)))]
    rw[show iY [1] (D x) (.var 2)=[1] by unfold iY; split <;> rfl,if_neg Bool.false_ne_true,List.map_append]; rfl
   ·rfl
  obtain⟨t',ih⟩:=ih (if acc.contains x then acc else acc++[x]) (some (D x)) (by split; exact Nat.le_of_succ_le h; rw[List.length_append]; exact Nat.succ_add _ _▸h)
  exact⟨t',by rw[List.map_cons,yE (σ₁:=⟨[a,some (.list (acc.map D)),some (D x)],[1]⟩) rfl step]; exact ih⟩
theorem yL{d:Nat}(ht:tab d=some SD)(xs:List α)(hl:xs.length≤1000):c7 tab prim F (l+1) d [.list (xs.map D)]=some (.list ((zB xs []).map D)):=by
 obtain⟨t',h⟩:=OG (cl:=c7 tab prim F l) (F:=F) (a:=some (.list (xs.map D))) hD xs [] none (by rwa[List.length_nil,Nat.zero_add])
 refine oV ht rfl ?_
 refine(bM (kB (d:=.list []) rfl)).trans ?_
 exact(bM ((wX (i:=TC) (ds:=xs.map D) rfl).trans h)).trans (uX rfl)
end
theorem E0{l:List Nat}(h:l.all (fun c=>decide (c<0x110000))=true)(hl:l.length≤1000000):bL (.str ⟨l.toArray⟩)=true :=
 Bool.and_eq_true_iff.mpr ⟨(List.all_toArray (p:=fun c=>decide (c<0x110000))).trans h,decide_eq_true (Nat.le_trans hl (by decide))⟩
noncomputable def wN(c:Nat):Bool:=iS c&&decide (c<55296)
theorem mH{c:Nat}(h:wN c=true):iS c=true∧c<0x110000:=⟨(aA h).1,Nat.lt_trans (of_decide_eq_true (aA h).2) (by decide)⟩
theorem YK{c:Nat}(h:wN c=true):bL (wD c)=true:=E0 (l:=[c]) ((Bool.and_true _).trans (decide_eq_true (mH h).2)) (Nat.le_of_ble_eq_true rfl)
theorem yQ(cs:List Nat):w4 (cs.map wD)=some cs:=by
 induction cs with
 | nil=>rfl
 | cons c cs ih=>exact congrArg (Option.map _) ih
theorem NU{cs:List Nat}(h:∀ c∈cs,wN c=true)(hl:cs.length≤900):zL (cs.map wD)=some (.str (Str.join " " (cs.map qS))):=by
 unfold zL
 rw[yQ]
 exact if_pos (Bool.and_eq_true_iff.mpr ⟨List.all_eq_true.mpr fun c hc=>(mH (h c hc)).1,decide_eq_true hl⟩)
theorem GZ{cs:List Nat}(h:∀ c∈cs,wN c=true)(hne:cs≠[])(hl:cs.length≤900):oU 1002 (Str.join " " (cs.map qS))=some (aG cs) :=
 C0 (F:=1001) (fun c hc=>(mH (h c hc)).1) (fun c hc=>YK (h c hc)) hne hl (by decide)
theorem R4{α:Type} [BEq α] [LawfulBEq α] {D:α→PyData} (hD:jU D) {d:Nat} (xs ys:List α) (hx:xs.length≤1000) (hy:ys.length≤1000):I7 (wR 1002 d SD d) (xs.map D) (ys.map D)=some (.bool (l3 xs ys)):=by
 have ht:XV d SD d=some SD:=if_pos rfl
 unfold I7 wR
 rw[yL hD ht xs hx,yL hD ht ys hy]
 show(if PyData.depthAll ((zB xs []).map D)≤64 then some (PyData.bool (gX ((zB xs []).map D) ((zB ys []).map D)))else none)=_
 rw[if_pos (Nat.le_trans (yK hD _) (by decide)),OI hD.eqv (tG _ _ List.nodup_nil) (tG _ _ List.nodup_nil),ML]
theorem S1{q:Int}(h0:-1000001<q)(h:q<1000001):pU (.int q)=some q :=
 if_pos (Bool.and_eq_true_iff.mpr ⟨decide_eq_true (Int.lt_trans (by decide +kernel) h0),decide_eq_true (Int.lt_trans h (by decide +kernel))⟩)
theorem G8{q:Int}{n:Nat}(h0:0≤q)(h:q<1000001)(hn:q.toNat<n):dT q n=some q.toNat :=
 (if_pos (Bool.and_eq_true_iff.mpr ⟨decide_eq_true (Int.lt_of_lt_of_le (by decide +kernel) h0),decide_eq_true (Int.lt_trans h (by decide +kernel))⟩)).trans ((if_pos h0).trans (if_pos hn))
section
variable{cl:Nat→List PyData→Option PyData}{ρ:aN}{a b lo hi:PE}
theorem KV{p:Nat}(h:p≤1000000):(p:Int)<1000001:=Int.ofNat_lt.mpr (Nat.lt_succ_of_le h)
theorem iH{p:Nat}(h:p≤1000000):pU (.int (p:Int))=some (p:Int):=S1 (Int.lt_of_lt_of_le (by decide) (Int.natCast_nonneg p)) (KV h)
theorem vM{p n:Nat}(hp:p≤1000000)(h:p<n):dT (p:Int) n=some p:=G8 (Int.natCast_nonneg p) (KV hp) h
theorem rG{p:Nat}(h:p≤1000000):uN (p:Int)=true:=decide_eq_true (Nat.lt_of_le_of_lt h (Nat.lt_of_lt_of_le (show 1000000<2 ^ 20 by decide) (Nat.pow_le_pow_right (by decide) (by decide))))
theorem lK{e:PE}{d:PyData}{i:Int}(h:aD cl e ρ=some d)(hp:pU d=some i):XJ cl (.yes e) ρ=some (some i):=(congrArg (Option.bind · _) h).trans (congrArg (Option.map _) hp)
theorem nJ{x:PyData}{u v:PO}{i j:Option Int}(h1:aD cl a ρ=some x)(h2:XJ cl u ρ=some i)(h3:XJ cl v ρ=some j):aD cl (.slc a u v) ρ=IW x i j :=
 (congrArg (Option.bind · _) h1).trans ((congrArg (Option.bind · _) h2).trans (congrArg (Option.bind · _) h3))
theorem W0{l:List PyData}{p q:Nat}(h1:aD cl a ρ=some (.list l))(h2:aD cl lo ρ=some (.int (p:Int)))(h3:aD cl hi ρ=some (.int (q:Int)))(hp:p≤1000000)(hq:q≤1000000):aD cl (.slc a (.yes lo) (.yes hi)) ρ=some (.list ((l.take q).drop p)) :=
 (nJ h1 (lK h2 (iH hp)) (lK h3 (iH hq))).trans (congrArg (fun l=>some (PyData.list l)) (W8 ..))
theorem K8{l:List PyData}{p:Nat}(h1:aD cl a ρ=some (.list l))(h2:aD cl lo ρ=some (.int (p:Int)))(hp:p≤1000000):aD cl (.slc a (.yes lo) .no) ρ=some (.list (l.drop p)) :=
 (nJ h1 (lK h2 (iH hp)) rfl).trans (congrArg (fun l=>some (PyData.list l)) (W7 ..))
theorem K7{l:List PyData}{q:Nat}(h1:aD cl a ρ=some (.list l))(h3:aD cl hi ρ=some (.int (q:Int)))(hq:q≤1000000):aD cl (.slc a .no (.yes hi)) ρ=some (.list (l.take q)) :=
 (nJ h1 rfl (lK h3 (iH hq))).trans (congrArg (fun l=>some (PyData.list l)) (LN ..))
theorem dU{op:Operator}{x y z:PyData}(h1:aD cl a ρ=some x)(h2:aD cl b ρ=some y)(h:rM op x y=some z):aD cl (.bin op a b) ρ=some z:=(congrArg (Option.bind · _) h1).trans ((congrArg (Option.bind · _) h2).trans h)
theorem cR{op:CmpOp}{x y z:PyData}(h1:aD cl a ρ=some x)(h2:aD cl b ρ=some y)(h:zI op x y=some z):aD cl (.cmp op a b) ρ=some z:=(congrArg (Option.bind · _) h1).trans ((congrArg (Option.bind · _) h2).trans h)
theorem gN{p q:Nat}(h1:aD cl a ρ=some (.int (p:Int)))(h2:aD cl b ρ=some (.int (q:Int))):aD cl (.bin .Add a b) ρ=some (.int ((p+q:Nat):Int)):=dU h1 h2 rfl
theorem zH{x:PyData}(h1:aD cl a ρ=some x):iT cl (.cons a .nil) ρ=some [x]:=congrArg (Option.bind · _) h1
theorem PC{x y:PyData}(h1:aD cl a ρ=some x)(h2:aD cl b ρ=some y):iT cl (.cons a (.cons b .nil)) ρ=some [x,y]:=(congrArg (Option.bind · _) h1).trans (congrArg (Option.map _) (zH h2))
theorem Dr{c:PE}{x y z:PyData}(h1:aD cl a ρ=some x)(h2:aD cl b ρ=some y)(h3:aD cl c ρ=some z):iT cl (.cons a (.cons b (.cons c .nil))) ρ=some [x,y,z]:=(congrArg (Option.bind · _) h1).trans (congrArg (Option.map _) (PC h2 h3))
theorem D2{f:Bi}{es:qV}{l:List PyData}{d:PyData}(h:iT cl es ρ=some l)(hd:XM f l=some d):aD cl (.bi f es) ρ=some d:=(congrArg (Option.bind · _) h).trans hd
theorem F0{f:Nat}{es:qV}{l:List PyData}{d:PyData}(h:iT cl es ρ=some l)(hd:cl f l=some d):aD cl (.call f es) ρ=some d:=(congrArg (Option.bind · _) h).trans hd
theorem LE{l:List PyData}(h1:aD cl a ρ=some (.list l)):aD cl (.bi .len (.cons a .nil)) ρ=some (.int (l.length:Int)):=D2 (zH h1) rfl
theorem H6{l:List PyData}{i:Int}:BG (.list l) (.int i)=(dT i l.length).bind (l[·]?):=rfl
theorem FY{x y d:PyData}{i:PE}(h1:aD cl a ρ=some x)(h2:aD cl i ρ=some y)(h:BG x y=some d):aD cl (.idx a i) ρ=some d:=(congrArg (Option.bind · _) h1).trans ((congrArg (Option.bind · _) h2).trans h)
theorem LF{l:List PyData}{x:PyData}{i:PE}{p:Nat}(h1:aD cl a ρ=some (.list l))(h2:aD cl i ρ=some (.int (p:Int)))(hp:p≤1000000)(hx:l[p]? = some x):aD cl (.idx a i) ρ=some x :=
 FY h1 h2 (by rw[H6,vM hp (List.getElem?_eq_some_iff.mp hx).1]; exact hx)
theorem yJ{v w:List Nat}(h1:aD cl a ρ=some (aG v))(h2:aD cl b ρ=some (aG w))(hl:v.length+w.length≤1000000):aD cl (.bin .Add a b) ρ=some (aG (v++w)) :=
 dU h1 h2 ((w9 (by rw[← List.map_append,List.length_map,List.length_append]; exact hl)).trans (by rw[aG,List.map_append]))
theorem CK{x:Bool}{y:PyData}(h1:aD cl a ρ=some (.bool x))(h2:x=true→aD cl b ρ=some y):aD cl (.bool true a b) ρ=some (if x then y else .bool false) :=
 (congrArg (Option.bind · _) h1).trans (match x,h2 with | true,h2=>h2 rfl | false,_=>rfl)
theorem zP{x:Nat}{w:List Nat}(h1:aD cl a ρ=some (wD x))(h2:aD cl b ρ=some (aG w)):aD cl (.cmp .In a b) ρ=some (.bool (w.contains x)):=cR h1 h2 (X5 yD x w)
theorem LB{x:Nat}{w:List Nat}(h1:aD cl a ρ=some (wD x))(h2:aD cl b ρ=some (aG w)):aD cl (.cmp .NotIn a b) ρ=some (.bool (!w.contains x)):=cR h1 h2 (rB yD x w)
theorem gD{f:Nat}{x d:PyData}(h1:aD cl a ρ=some x)(h:cl f [x]=some d):aD cl (.call f (.cons a .nil)) ρ=some d:=F0 (zH h1) h
theorem kM{f:Nat}{x y d:PyData}(h1:aD cl a ρ=some x)(h2:aD cl b ρ=some y)(h:cl f [x,y]=some d):aD cl (.call f (.cons a (.cons b .nil))) ρ=some d:=F0 (PC h1 h2) h
theorem K9{q:Nat}(h:aD cl a ρ=some (.int (q:Int)))(hq:q≤1000000):wO cl (.range1 a) ρ=some ((List.range q).map fun(k:Nat)=>PyData.int ((0+k:Nat):Int)) :=
 (congrArg (Option.bind · _) h).trans ((if_pos (Bool.and_eq_true_iff.mpr ⟨decide_eq_true (Int.natCast_nonneg q),decide_eq_true (Int.le_trans (Int.ofNat_le.mpr hq) (by decide))⟩)).trans (congrArg some (by
  unfold IK
  rw[rangeSize_nat,Int.toNat_natCast,Int.sub_zero,Int.toNat_natCast]
  exact congrArg (List.map · _) (funext fun k=>by rw[Int.mul_one,Int.natCast_add]; rfl))))
theorem J0{p q:Nat}(h0:0<q)(hq:q≤1000000):rM .FloorDiv (.int (p:Int)) (.int (q:Int))=some (.int ((p / q:Nat):Int)):=by
 show(if(decide (0<((q:Nat):Int))&&uN (q:Int))=true then some (PyData.int ((p:Int).fdiv (q:Int)))else none)=_
 rw[rG hq,decide_eq_true (Int.natCast_pos.mpr h0),Int.fdiv_eq_ediv_of_nonneg _ (Int.natCast_nonneg q)]; rfl
theorem I0{p q:Nat}(h0:0<q):rM .Mod (.int (p:Int)) (.int (q:Int))=some (.int ((p%q:Nat):Int)):=by
 show(if 0<((q:Nat):Int)then some (PyData.int ((p:Int).fmod (q:Int)))else none)=_
 rw[if_pos (Int.natCast_pos.mpr h0),Int.fmod_eq_emod_of_nonneg _ (Int.natCast_nonneg q)]; rfl
theorem FU{w:List Nat}{p q k:Nat}(h1:aD cl a ρ=some (aG w))(h2:aD cl lo ρ=some (.int (p:Int)))(h3:aD cl hi ρ=some (.int (q:Int)))(e:q=p+k)(hq:q≤1000000):aD cl (.slc a (.yes lo) (.yes hi)) ρ=some (aG ((w.drop p).take k)) :=
 (W0 h1 h2 h3 (Nat.le_trans (e▸Nat.le_add_right p k) hq) hq).trans (by rw[e,← List.take_drop,aG,List.map_take,List.map_drop])
theorem FS{w:List Nat}{p:Nat}(h1:aD cl a ρ=some (aG w))(h2:aD cl lo ρ=some (.int (p:Int)))(hp:p≤1000000):aD cl (.slc a (.yes lo) .no) ρ=some (aG (w.drop p)):=(K8 h1 h2 hp).trans (by rw[aG,List.map_drop])
theorem FQ{w:List Nat}{q:Nat}(h1:aD cl a ρ=some (aG w))(h3:aD cl hi ρ=some (.int (q:Int)))(hq:q≤1000000):aD cl (.slc a .no (.yes hi)) ρ=some (aG (w.take q)):=(K7 h1 h3 hq).trans (by rw[aG,List.map_take])
theorem RY{x y:Bool}(h1:aD cl a ρ=some (.bool x))(h2:aD cl b ρ=some (.bool y)):aD cl (.bool true a b) ρ=some (.bool (x&&y)):=(congrArg (Option.bind · _) h1).trans (by cases x with | true=>exact h2 | false=>rfl)
end
theorem xD{α β:Type}{g:α→List β}{c:Nat}{ds:List α}(h:∀ d∈ds,(g d).length≤c):(ds.flatMap g).length≤ds.length*c:=by
 induction ds with
 | nil=>exact Nat.zero_le _
 | cons d ds ih =>
  rw[List.flatMap_cons,List.length_append,List.length_cons,Nat.succ_mul,Nat.add_comm]
  exact Nat.add_le_add (ih fun x hx=>h x (List.mem_cons_of_mem _ hx)) (h d List.mem_cons_self)
noncomputable abbrev sD(l:List Nat):PyData:=.str ⟨l.toArray⟩
section
variable{cl:Nat→List PyData→Option PyData}{ρ:aN}{a b lo hi:PE}{F:Nat}
theorem CL(a b:List Nat):PyData.eqv (sD a) (sD b)=(a==b):=by
 show((⟨a.toArray⟩:Str)==⟨b.toArray⟩)=_
 by_cases h:a=b
 ·subst h; rw[beq_self_eq_true,beq_self_eq_true]
 ·rw[beq_false_of_ne h,beq_false_of_ne fun e=>h (congrArg (fun s:Str=>s.cps.toList) e)]
theorem RZ(l:List Nat)(d:PyData):jY (sD l) d=true:=decide_eq_true (Nat.le_trans (Nat.min_le_left _ _) (show(sD l).depth≤_ from Nat.zero_le _))
theorem YA(x y:List Nat)(t:PyData):(if jY (sD x) (sD y)=true then some t else none)=some t:=if_pos (RZ x (sD y))
theorem xF{x y:List Nat}(h1:aD cl a ρ=some (sD x))(h2:aD cl b ρ=some (sD y)):aD cl (.cmp .Eq a b) ρ=some (.bool (x==y)):=cR h1 h2 ((YA x y _).trans (by rw[CL]))
theorem LC{x y:List Nat}(h1:aD cl a ρ=some (sD x))(h2:aD cl b ρ=some (sD y)):aD cl (.cmp .NotEq a b) ρ=some (.bool (!(x==y))):=cR h1 h2 ((YA x y _).trans (by rw[CL]))
theorem RX{l:List Nat}(h1:aD cl a ρ=some (sD l)):aD cl (.bi .len (.cons a .nil)) ρ=some (.int (l.length:Int)):=D2 (zH h1) rfl
theorem LT(a b:List Nat)(h:a.length+b.length≤1000000):rM .Add (sD a) (sD b)=some (sD (a++b)):=by
 show Au ((⟨a.toArray⟩:Str)++⟨b.toArray⟩)=_
 rw[i4]
 exact if_pos (Nat.le_trans (Nat.le_of_eq (show(a++b).length=_ from List.length_append)) (Nat.le_trans h (by decide)))
theorem i9{x y:List Nat}(h1:aD cl a ρ=some (sD x))(h2:aD cl b ρ=some (sD y))(h:x.length+y.length≤1000000):aD cl (.bin .Add a b) ρ=some (sD (x++y)):=dU h1 h2 (LT x y h)
theorem NZ{s:Str}{i:Int}:BG (.str s) (.int i)=(dT i s.length).bind fun k=>(s.cps[k]?).map fun c=>PyData.str ⟨#[c]⟩:=rfl
theorem yI{l:List Nat}{c:Nat}{i:PE}{p:Nat}(h1:aD cl a ρ=some (sD l))(h2:aD cl i ρ=some (.int (p:Int)))(hp:p≤1000000)(hx:l[p]? = some c):aD cl (.idx a i) ρ=some (wD c):=by
 have h3:l.toArray[p]? = some c:=List.getElem?_toArray.trans hx
 refine FY h1 h2 ?_
 rw[NZ,vM hp (show p<(⟨l.toArray⟩:Str).length from(List.getElem?_eq_some_iff.mp hx).1)]
 show(l.toArray[p]?).map _=_
 rw[h3]; rfl
theorem RU{l:List Nat}{q:Nat}(h1:aD cl a ρ=some (sD l))(h3:aD cl hi ρ=some (.int (q:Int)))(hq:q≤1000000):aD cl (.slc a .no (.yes hi)) ρ=some (sD (l.take q)) :=
 (nJ h1 rfl (lK h3 (iH hq))).trans (congrArg (fun l=>some (sD l)) (LN ..))
theorem HE{p:Nat}(h:p≤1000000):pU (.int (-(p:Int)))=some (-(p:Int)):=S1 (Int.lt_of_lt_of_le (by decide) (Int.neg_le_neg (Int.ofNat_le.mpr h))) (Int.lt_of_le_of_lt (Int.neg_nonpos_of_nonneg (Int.natCast_nonneg p)) (by decide))
theorem R1{α:Type}(l:List α){p:Nat}(hp:0<p):cut l (some (-(p:Int))) none=l.drop (l.length - p):=by
 have h:dG (-(p:Int)) l.length=l.length - p:=by
  have e:-(p:Int)+l.length≤l.length:=Int.le_trans (Int.add_le_add_right (Int.neg_nonpos_of_nonneg (Int.natCast_nonneg p)) _) (Int.le_of_eq (Int.zero_add _))
  rw[dG,if_pos (Int.neg_neg_of_pos (Int.ofNat_lt.mpr hp)),Int.min_eq_left e,Int.add_comm,← Int.sub_eq_add_neg]
  rcases Nat.le_total p l.length with h | h
  ·exact congrArg Int.toNat ((congrArg (max 0) (Int.ofNat_sub h).symm).trans (Int.max_eq_right (Int.natCast_nonneg _)))
  ·rw[Nat.sub_eq_zero_of_le h,Int.max_eq_left (Int.sub_nonpos_of_le (Int.ofNat_le.mpr h))]; rfl
 show(l.take l.length).drop (dG (-(p:Int)) l.length)=_
 rw[h,List.take_length]
theorem RV{l:List Nat}{p:Nat}(h1:aD cl a ρ=some (sD l))(h2:aD cl lo ρ=some (.int (-(p:Int))))(h0:0<p)(hp:p≤1000000):aD cl (.slc a (.yes lo) .no) ρ=some (sD (l.drop (l.length - p))) :=
 (nJ h1 (lK h2 (HE hp)) rfl).trans (congrArg (fun l=>some (sD l)) (R1 _ h0))
theorem FR{p q:Nat}(h1:aD cl a ρ=some (.int (p:Int)))(h2:aD cl b ρ=some (.int (q:Int)))(h:q≤p):aD cl (.bin .Sub a b) ρ=some (.int ((p - q:Nat):Int)):=dU h1 h2 (congrArg (fun i=>some (PyData.int i)) (Int.ofNat_sub h).symm)
theorem CI{p q:Nat}{t:Bool}(h1:aD cl a ρ=some (.int (p:Int)))(h2:aD cl b ρ=some (.int (q:Int)))(h:decide (p<q)=t):aD cl (.cmp .Lt a b) ρ=some (.bool t):=cR h1 h2 (congrArg (fun i=>some (PyData.bool i)) ((decide_eq_decide.mpr Int.ofNat_lt).trans h))
theorem pC{c:PE}{t:Bool}{x y:PyData}(h:aD cl c ρ=some (.bool t))(h1:t=true→aD cl a ρ=some x)(h2:t=false→aD cl b ρ=some y):aD cl (.ite c a b) ρ=some (bif t then x else y) :=
 (congrArg (Option.bind · _) h).trans (by cases t with | true=>exact h1 rfl | false=>exact h2 rfl)
theorem yH{c:PE}{t:Bool}{p q:Nat}(h:aD cl c ρ=some (.bool t)):aD cl (.ite c (.lit (.int (p:Int))) (.lit (.int (q:Int)))) ρ=some (.int ((bif t then p else q:Nat):Int)) :=
 (congrArg (Option.bind · _) h).trans (by cases t <;> rfl)
theorem Dq{y:PyData}(h1:aD cl a ρ=some (.bool false))(h2:aD cl b ρ=some y):aD cl (.bool false a b) ρ=some y:=(congrArg (Option.bind · _) h1).trans h2
theorem J8{x:Nat}{op:Operator}{e:PE}{σ:eH}{u v d:PyData}(hx:aY σ.env x=some u)(h:aD cl e σ.env=some v)(hf:(flat u&&flat v&&(op == .Add||op == .Sub))=true)(hd:rM op u v=some d):zA cl F (.aug x op e) σ=some (.next (OX σ x d σ.own false)) :=
 (congrArg (Option.bind · _) hx).trans ((congrArg (Option.bind · _) h).trans ((if_pos hf).trans (congrArg (Option.map _) hd)))
theorem kY{x:Nat}{e:PE}{σ:eH}{p q:Nat}(hx:aY σ.env x=some (.int (p:Int)))(h:aD cl e σ.env=some (.int (q:Int))):zA cl F (.aug x .Add e) σ=some (.next (OX σ x (.int ((p+q:Nat):Int)) σ.own false)):=J8 hx h rfl rfl
theorem PL{x:Nat}{e:PE}{σ:eH}{p q:List Nat}(hx:aY σ.env x=some (sD p))(h:aD cl e σ.env=some (sD q))(hl:p.length+q.length≤1000000):zA cl F (.aug x .Add e) σ=some (.next (OX σ x (sD (p++q)) σ.own false)):=J8 hx h rfl (LT p q hl)
theorem CJ{x y:List Nat}{t:Bool}(h1:aD cl a ρ=some (sD y))(h2:aD cl b ρ=some (sD x))(h:Txt.contains ⟨x.toArray⟩ ⟨y.toArray⟩=t):aD cl (.cmp .In a b) ρ=some (.bool t):=cR h1 h2 (congrArg (fun i=>some (PyData.bool i)) h)
end
end Kt.Internal
end
section
open Nat.Internal.Linear
namespace Kt.Internal
noncomputable def cx:Nat→List Nat→Context
 | _,[]=>.leaf 0
 | k,a::s=>.branch (k+1) (.leaf a) (cx (k+1) s)
noncomputable def un(l r:Expr):List Expr→Bool
 | a::b::s=>un (.add l a) (.add r b) s
 | _=>(ExprCnstr.mk false l r).toNormPoly.isUnsat
noncomputable def dn(x:Context)(C:Prop):List Expr→Prop
 | a::b::s=>a.denote x≤b.denote x→dn x C s
 | _=>C
theorem UC(x:Context){C:Prop}{l r:Expr}:∀{s:List Expr},un l r s=true→C∨l.denote x≤r.denote x→dn x C s
 | [],h,g | [_],h,g=>g.elim id fun g=>(Eq.mp (ExprCnstr.eq_false_of_isUnsat x ⟨false,l,r⟩ h) g).elim
 | _::_::_,h,g=>fun k=>UC x h (g.imp_right fun g=>Nat.add_le_add g k)
theorem lF(x:List Nat)(s:List Expr)(h:un (.num 0) (.num 0) s=true):dn (cx 0 x) False s:=UC _ h (.inr (Nat.le_refl 0))
theorem lL(x:List Nat)(s:List Expr)(a b:Expr)(h:un (.add b (.num 1)) a s=true):dn (cx 0 x) (a.denote (cx 0 x)≤b.denote (cx 0 x)) s:=UC _ h (Nat.lt_or_ge (b.denote (cx 0 x)) (a.denote (cx 0 x))).symm
theorem Ar(a b:Nat):a≤a - b+b:=Nat.le_add_of_sub_le (Nat.le_refl _)
theorem XH{a b:Nat}(h:b≤a):a - b+b≤a:=Nat.le_of_eq (Nat.sub_add_cancel h)
theorem Aq(a b:Nat):a - b≤a:=Nat.sub_le a b
theorem eL{a b:Nat}(h:a=b):a≤b:=Nat.le_of_eq h
theorem eR{a b:Nat}(h:a=b):b≤a:=Nat.le_of_eq h.symm
theorem nA{a b:Nat}(h:a≤b)(g:b≤a):a=b:=Nat.le_antisymm h g
noncomputable def zb(a b:Expr):Expr:=.add a b
noncomputable def zc(a b c:Expr):Expr:=.add (.add a b) c
noncomputable def zd(a b c d:Expr):Expr:=.add (.add (.add a b) c) d
noncomputable def ze(a:Expr):Expr:=.add a (.num 1)
noncomputable def vk:Expr:=.num 1
noncomputable def o0:Expr:=.var 0
noncomputable def o1:Expr:=.var 1
noncomputable def o2:Expr:=.var 2
noncomputable def o3:Expr:=.var 3
noncomputable def o4:Expr:=.var 4
noncomputable def o5:Expr:=.var 5
noncomputable def o6:Expr:=.var 6
noncomputable def o7:Expr:=.var 7
noncomputable def o8:Expr:=.var 8
noncomputable def o9:Expr:=.var 9
end Kt.Internal
end
section

namespace Kt.Internal
section
noncomputable def dt(a x:Nat→Int):List Nat→Int
 | []=>0
 | p::V=>a p*x p+dt a x V
theorem Dn(a b c d:Int):a+b+(c+d)=a+c+(b+d):=by rw[Int.add_assoc,Int.add_assoc,Int.add_left_comm b]
theorem eY{a x:Nat→Int}:∀{V:List Nat},(∀ p∈V,a p*x p=0)→dt a x V=0
 | [],_=>rfl
 | p::V,h=>by rw[dt,h p List.mem_cons_self,eY fun q hq=>h q (List.mem_cons_of_mem _ hq),Int.zero_add]
theorem pD(a x y:Nat→Int)(c:Int):∀ V:List Nat,dt a (fun p=>c*x p+y p) V=c*dt a x V+dt a y V
 | []=>by simp only[dt,Int.mul_zero,Int.add_zero]
 | p::V=>by rw[dt,dt,dt,pD a x y c V,Int.mul_add,Int.mul_add,Int.mul_left_comm,Dn]
theorem LJ(a b x:Nat→Int)(c d:Int):∀ V:List Nat,dt (fun p=>c*a p - d*b p) x V=c*dt a x V - d*dt b x V
 | []=>by simp only[dt,Int.mul_zero,Int.sub_zero]
 | p::V=>by rw[dt,dt,dt,LJ a b x c d V,Int.sub_mul,Int.mul_add,Int.mul_add,Int.mul_assoc,Int.mul_assoc,Int.sub_eq_add_neg,Int.sub_eq_add_neg,Int.sub_eq_add_neg,Int.neg_add,Dn]
theorem LL(a:Nat→Int)(q:Nat)(k:Int):∀{V:List Nat},V.Nodup→q∈V→dt a (fun p=>if p=q then k else 0) V=a q*k
 | p::V,hn,h=>by
  rw[List.nodup_cons]at hn
  rw[dt]
  by_cases e:p=q
  ·subst e
   rw[if_pos rfl,eY fun q hq=>by rw[if_neg (show ¬q=p from fun e=>hn.1 (e▸hq)),Int.mul_zero],Int.add_zero]
  ·rw[if_neg e,Int.mul_zero,Int.zero_add,LL a q k hn.2 ((List.mem_cons.mp h).resolve_left fun h=>e h.symm)]
theorem LM(a x:Nat→Int)(V:List Nat):dt a (fun p=>- x p) V=- dt a x V:=by
 have:=pD a x (fun _=>0) (-1) V
 rw[eY (x:=fun _=>0) fun p _=>Int.mul_zero _,Int.add_zero,Int.neg_one_mul]at this
 rw[← this]
 congr 1
 funext p
 rw[Int.neg_one_mul,Int.add_zero]
theorem D3{a x:Nat→Int}:∀{V:List Nat},0≤dt a x V→(∃ p∈V,a p*x p≠0)→∃ p∈V,0<a p*x p
 | p::V,h,g=>by
  rw[dt]at h
  rcases Int.lt_trichotomy (a p*x p) 0 with e | e | e
  ·by_cases h':∃ q∈V,a q*x q≠0
   ·obtain⟨q,h1,h2⟩:=D3 (a:=a) (x:=x) (V:=V) (by omega) h'
    exact⟨q,List.mem_cons_of_mem _ h1,h2⟩
   ·rw[eY fun q hq=>Decidable.byContradiction fun e=>h' ⟨q,hq,e⟩]at h
    omega
  ·rw[e,Int.zero_add]at h
   obtain⟨q,h1,h2⟩:=D3 h (let⟨q,h1,h2⟩:=g; ⟨q,(List.mem_cons.mp h1).resolve_left fun e'=>h2 (e'▸e),h2⟩)
   exact⟨q,List.mem_cons_of_mem _ h1,h2⟩
  ·exact⟨p,List.mem_cons_self,e⟩
theorem Bo{V:List Nat}(hV:V.Nodup):∀(n:Nat)(L:List (Nat→Int))(W:List Nat),L.length=n→W.Nodup→(∀ p∈W,p∈V)→n<W.length →
  ∃ x:Nat→Int,(∃ p∈W,x p≠0)∧(∀ p,p∉W→x p=0)∧∀ a∈L,dt a x V=0:=by
 intro n
 induction n with
 | zero =>
  intro L W e _ _ hl
  obtain⟨p,W,rfl⟩:=List.exists_cons_of_length_pos hl
  refine⟨fun q=>if q=p then 1 else 0,⟨p,List.mem_cons_self,?_⟩,fun q hq=>if_neg fun(e:q=p)=>hq (by rw[e]; exact List.mem_cons_self),fun a ha=>by rw[List.eq_nil_of_length_eq_zero e]at ha; cases ha⟩
  show(if p=p then(1:Int)else 0)≠0
  rw[if_pos rfl]
  decide
 | succ n ih =>
  intro L W e hW hs hl
  obtain⟨a,L,rfl⟩:=List.exists_cons_of_length_eq_add_one e
  have e:=Nat.succ.inj e
  by_cases h:∀ p∈W,a p=0
  ·obtain⟨x,h1,h2,h3⟩:=ih L W e hW hs (Nat.lt_of_succ_lt hl)
   refine⟨x,h1,h2,fun b hb=>(List.mem_cons.mp hb).elim (fun e=>?_) (h3 b)⟩
   rw[e]
   refine eY fun p _=>?_
   by_cases hp:p∈W
   ·rw[h p hp,Int.zero_mul]
   ·rw[h2 p hp,Int.mul_zero]
  ·obtain⟨p₀,h⟩:=Classical.not_forall.mp h
   obtain⟨hp,h⟩:=Classical.not_imp.mp h
   obtain⟨x,⟨p,g1,g2⟩,h2,h3⟩:=ih (L.map fun b p=>a p₀*b p - b p₀*a p) (W.erase p₀) ((List.length_map _).trans e) (hW.erase p₀) (fun p hp=>hs p (List.mem_of_mem_erase hp)) (by
    rw[List.length_erase_of_mem hp]; exact Nat.lt_sub_of_add_lt hl)
   refine⟨fun p=>a p₀*x p+if p=p₀ then - dt a x V else 0,⟨p,List.mem_of_mem_erase g1,?_⟩,fun q hq=>?_,fun b hb=>?_⟩
   ·show a p₀*x p+(if p=p₀ then - dt a x V else 0)≠0
    rw[if_neg fun e=>(hW.mem_erase_iff.mp g1).1 e,Int.add_zero]
    exact Int.mul_ne_zero h g2
   ·show a p₀*x q+(if q=p₀ then - dt a x V else 0)=0
    rw[if_neg fun(e:q=p₀)=>hq (by rw[e]; exact hp),h2 q fun h=>hq (List.mem_of_mem_erase h),Int.mul_zero,Int.add_zero]
   ·rw[pD,LL b p₀ _ hV (hs p₀ hp)]
    rcases List.mem_cons.mp hb with rfl | hb
    ·rw[Int.mul_neg,Int.add_right_neg]
    ·have:=h3 _ (List.mem_map_of_mem (f:=fun b p=>a p₀*b p - b p₀*a p) hb)
     rw[LJ]at this
     rw[Int.mul_neg,← Int.sub_eq_add_neg]
     exact this
end
section
def cH{ι:Type}(r:ι→Nat→Option Bool)(i:ι)(y:Nat→Bool):Prop:=∀ p b,r i p=some b→y p=b
structure MU{ι:Type}(r:ι→Nat→Option Bool)(A:List ι)(U:List Nat)(σ:Nat→Bool):Prop where
 nd:A.Nodup
 un:U.Nodup
 cov:∀ y,(∀ p,p∉U→y p=σ p)→∃ i∈A,cH r i y
 irr:∀ i∈A,∃ y,(∀ p,p∉U→y p=σ p)∧cH r i y∧∀ j∈A,j≠i→¬cH r j y
noncomputable def TU:Option Bool→Int
 | none=>0
 | some true=>1
 | some false=>-1
noncomputable def eU{ι:Type}(r:ι→Nat→Option Bool)(i:ι):Nat→Int:=fun p=>TU (r i p)
noncomputable def av(x:Nat→Int):Nat→Bool:=fun p=>decide (x p<0)
theorem CT{ι:Type}{r:ι→Nat→Option Bool}{i:ι}{p:Nat}{x:Nat→Int}(h:0<eU r i p*x p):x p≠0∧∃ b,r i p=some b∧av x p≠b:=by
 unfold eU at h
 refine⟨fun e=>by rw[e,Int.mul_zero]at h; exact Int.lt_irrefl _ h,?_⟩
 cases e:r i p with
 | none=>rw[e,TU,Int.zero_mul]at h; exact absurd h (Int.lt_irrefl _)
 | some b =>
  rw[e]at h
  refine⟨b,rfl,?_⟩
  unfold av
  cases b with
  | true=>rw[TU,Int.one_mul]at h; rw[decide_eq_false (Int.not_lt.mpr (Int.le_of_lt h))]; nofun
  | false=>rw[TU,Int.neg_one_mul]at h; rw[decide_eq_true (Int.neg_pos.mp h)]; nofun
variable{ι:Type} [DecidableEq ι] {r:ι→Nat→Option Bool} {A:List ι} {U V:List Nat} {σ:Nat→Bool}
theorem QA{i:ι}{p:Nat}(h:r i p≠none):eU r i p≠0:=by
 unfold eU
 cases e:r i p with
 | none=>exact absurd e h
 | some b=>cases b <;> (unfold TU; decide)
theorem Ay(M:MU r A U σ)(hV:∀ p∈U,p∈V){x:Nat→Int}(hx:∀ p,p∉U→x p=0){c:ι}{q:Nat}(hc:c∈A)(hq:x q≠0)(hr:r c q≠none)(h:∀ i∈A,0≤dt (eU r i) x V):False:=by
 obtain⟨y,h1,h2,h3⟩:=M.irr c hc
 have inU:∀ p,x p≠0→p∈U:=fun p hp=>Decidable.byContradiction fun e=>hp (hx p e)
 obtain⟨i,hi,g⟩:=M.cov (fun p=>if x p=0 then y p else av x p) fun p hp=>by rw[if_pos (hx p hp)]; exact h1 p hp
 by_cases t:∃ p,x p≠0∧r i p≠none
 ·obtain⟨p,t1,t2⟩:=t
  obtain⟨p',_,g2⟩:=D3 (h i hi) ⟨p,hV p (inU p t1),Int.mul_ne_zero (QA t2) t1⟩
  obtain⟨g3,b,g4,g5⟩:=CT g2
  have e:(if x p'=0 then y p' else av x p')=b:=g p' b g4
  rw[if_neg g3]at e
  exact g5 e
 ·have:cH r i y:=fun p b e=>by
   have g':(if x p=0 then y p else av x p)=b:=g p b e
   rwa[if_pos (Decidable.byContradiction fun hp=>t ⟨p,hp,by rw[e]; nofun⟩)]at g'
  by_cases e:i=c
  ·subst e; exact t ⟨q,hq,hr⟩
  ·exact h3 i hi e this
def GO{ι:Type}(r:ι→Nat→Option Bool)(A:List ι)(U:List Nat):Prop:=∀ p∈U,∃ i∈A,r i p≠none
theorem Di(M:MU r A U σ)(hV:∀ p∈U,p∈V)(hF:GO r A U){x:Nat→Int}(hx:∀ p,p∉U→x p=0){c:ι}{q:Nat}(hq:x q≠0)(h:∀ i∈A,i≠c→dt (eU r i) x V=0):False:=by
 have inU:q∈U:=Decidable.byContradiction fun e=>hq (hx q e)
 obtain⟨i,hi,hr⟩:=hF q inU
 rcases Int.le_total 0 (dt (eU r c) x V)with g | g
 ·exact Ay M hV hx hi hq hr fun j hj=>by
   by_cases e:j=c
   ·rw[e]; exact g
   ·exact Int.le_of_eq (h j hj e).symm
 ·refine Ay (x:=fun p=>- x p) M hV (fun p hp=>by rw[hx p hp]; rfl) hi (Int.neg_ne_zero.mpr hq) hr fun j hj=>?_
  rw[LM]
  by_cases e:j=c
  ·rw[e]; exact Int.neg_nonneg_of_nonpos g
  ·rw[h j hj e]; exact Int.le_refl _
noncomputable def OT{ι:Type}(r:ι→Nat→Option Bool)(T:List Nat)(i:ι):Bool:=T.any fun p=>(r i p).isSome
theorem vD{T:List Nat}{i:ι}{p:Nat}(h:OT r T i=false)(hp:p∈T):r i p=none:=by
 cases e:r i p with
 | none=>rfl
 | some b=>rw[OT,List.any_eq_false]at h; exact absurd (by rw[e]; rfl) (h p hp)
theorem JB(M:MU r A U σ)(hVn:V.Nodup)(hV:∀ p∈U,p∈V){T:List Nat}(hT:T.Nodup)(hTU:∀ p∈T,p∈U)(h0:T≠[])(hF:GO r A T):T.length<(A.filter (OT r T)).length:=by
 refine Nat.lt_of_not_le fun hle=>?_
 cases e:A.filter (OT r T)with
 | nil =>
  obtain⟨p,T',rfl⟩:=List.exists_cons_of_ne_nil h0
  obtain⟨i,hi,hr⟩:=hF p List.mem_cons_self
  have:=List.filter_eq_nil_iff.mp e i hi
  exact hr (vD (Bool.eq_false_iff.mpr this) List.mem_cons_self)
 | cons c L =>
  rw[e]at hle
  obtain⟨x,⟨q,h1,h2⟩,h3,h4⟩:=Bo hVn L.length (L.map (eU r)) T (List.length_map _) hT (fun p hp=>hV p (hTU p hp)) hle
  obtain⟨i,hi,hr⟩:=hF q h1
  have hz:∀ j∈A,j≠c→dt (eU r j) x V=0:=fun j hj hjc=>by
   cases t:OT r T j with
   | false =>
    refine eY fun p _=>?_
    by_cases hp:p∈T
    ·rw[eU,vD t hp,TU,Int.zero_mul]
    ·rw[h3 p hp,Int.mul_zero]
   | true =>
    have hm:j∈A.filter (OT r T):=List.mem_filter.mpr ⟨hj,t⟩
    rw[e]at hm
    exact h4 _ (List.mem_map_of_mem ((List.mem_cons.mp hm).resolve_left hjc))
  have hx:∀ p,p∉U→x p=0:=fun p hp=>h3 p fun h=>hp (hTU p h)
  rcases Int.le_total 0 (dt (eU r c) x V)with g | g
  ·exact Ay M hV hx hi h2 hr fun j hj=>by
    by_cases e:j=c
    ·rw[e]; exact g
    ·exact Int.le_of_eq (hz j hj e).symm
  ·refine Ay (x:=fun p=>- x p) M hV (fun p hp=>by rw[hx p hp]; rfl) hi (Int.neg_ne_zero.mpr h2) hr fun j hj=>?_
   rw[LM]
   by_cases e:j=c
   ·rw[e]; exact Int.neg_nonneg_of_nonpos g
   ·rw[hz j hj e]; exact Int.le_refl _
end
end Kt.Internal
end
section
open Nat.Internal.Linear
namespace Kt.Internal
section
theorem uI{α:Type}{P:α→Bool}{l:List α}{a:α}(h:a∈l.filter P):a∈l:=(List.mem_filter.mp h).1
theorem kE{α:Type}(P:α→Bool):∀ l:List α,(l.filter P).length+(l.filter fun x=>!P x).length=l.length
 | []=>rfl
 | a::l=>by
  have:=kE P l
  rw[List.filter_cons,List.filter_cons]
  cases P a with
  | true=>exact(Nat.succ_add _ _).trans (congrArg Nat.succ this)
  | false=>exact congrArg Nat.succ this
theorem JZ{α:Type}(P Q:α→Bool):∀ l:List α,(l.filter P).length+(l.filter Q).length=(l.filter fun x=>P x||Q x).length+(l.filter fun x=>P x&&Q x).length
 | []=>rfl
 | a::l=>by
  have:=JZ P Q l
  rw[List.filter_cons,List.filter_cons,List.filter_cons,List.filter_cons]
  cases P a with
  | true=>cases Q a with
   | true=>exact(Nat.add_add_add_comm _ 1 _ 1).trans ((congrArg (· + 2) this).trans (Nat.add_add_add_comm _ _ 1 1))
   | false=>exact(Nat.succ_add _ _).trans ((congrArg Nat.succ this).trans (Nat.succ_add _ _).symm)
  | false=>cases Q a with
   | true=>exact(congrArg Nat.succ this).trans (Nat.succ_add _ _).symm
   | false=>exact this
theorem FL{α:Type}{P Q:α→Bool}{l:List α}(h:∀ x∈l,P x=true→Q x=true):(l.filter P).length≤(l.filter Q).length:=by
 rw[← List.countP_eq_length_filter,← List.countP_eq_length_filter]; exact List.countP_mono_left h
theorem xE{α:Type}{P:α→Bool}{l:List α}{a:α}(h:a∈l)(hp:P a=true):0<(l.filter P).length:=List.length_pos_of_mem (List.mem_filter.mpr ⟨h,hp⟩)
variable{ι:Type} [DecidableEq ι] {r:ι→Nat→Option Bool} {A:List ι} {U:List Nat} {σ:Nat→Bool}
noncomputable def men{ι:Type}(r:ι→Nat→Option Bool)(A:List ι)(p:Nat):Bool:=A.any fun i=>(r i p).isSome
theorem cE{p:Nat}:men r A p=true↔∃ i∈A,r i p≠none:=by
 unfold men
 rw[List.any_eq_true]
 exact⟨fun⟨i,h1,h2⟩=>⟨i,h1,fun e=>by rw[e]at h2; cases h2⟩,fun⟨i,h1,h2⟩=>⟨i,h1,by cases e:r i p with | none=>exact absurd e h2 | some b=>rfl⟩⟩
theorem xA{p:Nat}{i:ι}(h:men r A p=false)(hi:i∈A):r i p=none:=Decidable.byContradiction fun e=>by rw[cE.mpr ⟨i,hi,e⟩]at h; cases h
theorem hall(M:MU r A U σ)(hF:GO r A U)(hl:A.length=U.length+1)(S:ι→Bool)(hS:∃ i∈A,S i=false):(A.filter S).length≤(U.filter (men r (A.filter S))).length:=by
 have h1:=kE (men r (A.filter S)) U
 have h2:=kE S A
 obtain⟨i,hi,hs⟩:=hS
 have h3:=xE (P:=fun x=>!S x) hi (by rw[hs]; rfl)
 by_cases e:(U.filter fun x=>!men r (A.filter S) x)=[]
 ·rw[e,List.length_nil]at h1
  exact lL [A.length,U.length,(List.filter (men r (List.filter S A)) U).length,(List.filter S A).length,(List.filter (fun x=>!S x) A).length] [o0,ze o1,o1,zb o2 (.num 0),zb o3 o4,o0,vk,o4] o3 o2 rfl (eL hl) (eR h1) (eL h2) h3
 ·have h4:=JB M M.un (fun p hp=>hp) (M.un.filter fun x=>!men r (A.filter S) x) (fun p hp=>uI hp) e fun p hp=>hF p (uI hp)
  have h5:(A.filter (OT r (U.filter fun x=>!men r (A.filter S) x))).length≤(A.filter fun x=>!S x).length:=FL fun i hi h=>by
   cases e:S i with
   | false=>rfl
   | true =>
    obtain⟨p,g1,g2⟩:=List.any_eq_true.mp h
    obtain⟨_,g3⟩:=List.mem_filter.mp g1
    rw[Bool.not_eq_true']at g3
    rw[xA g3 (List.mem_filter.mpr ⟨hi,e⟩)]at g2
    cases g2
  exact lL [A.length,U.length,(List.filter (men r (List.filter S A)) U).length,(List.filter (fun x=>!men r (List.filter S A) x) U).length,(List.filter S A).length,(List.filter (fun x=>!S x) A).length,(List.filter (OT r (List.filter (fun x=>!men r (List.filter S A) x) U)) A).length] [o0,ze o1,o1,zb o2 o3,zb o4 o5,o0,ze o3,o6,o6,o5] o4 o2 rfl (eL hl) (eR h1) (eL h2) h4 h5
theorem U3(hA:A.Nodup)(hU:U.Nodup):∀(n:Nat)(g:ι→Bool),(A.filter g).length≤n→(∀ y,(∀ p,p∉U→y p=σ p)→∃ i∈A.filter g,cH r i y)→∃ g':ι→Bool,(∀ i,g' i=true→g i=true)∧MU r (A.filter g') U σ:=by
 intro n
 induction n with
 | zero =>
  intro g hn hc
  obtain⟨i,hi,_⟩:=hc σ fun _ _=>rfl
  exact absurd (List.length_pos_of_mem hi) (Nat.not_lt.mpr hn)
 | succ n ih =>
  intro g hn hc
  by_cases h:∀ i∈A.filter g,∃ y,(∀ p,p∉U→y p=σ p)∧cH r i y∧∀ j∈A.filter g,j≠i→¬cH r j y
  ·exact⟨g,fun _ h=>h,hA.filter g,hU,hc,h⟩
  ·obtain⟨i,h⟩:=Classical.not_forall.mp h
   obtain⟨hi,h⟩:=Classical.not_imp.mp h
   have hlt:(A.filter fun x=>g x&&x != i).length<(A.filter g).length:=by
    have e:(A.filter fun x=>g x&&x != i)=(A.filter g).filter (· != i):=by rw[List.filter_filter]; exact List.filter_congr fun x _=>Bool.and_comm _ _
    rw[e]
    have k1:=kE (· != i) (A.filter g)
    have k2:=xE (P:=fun x=>!(x != i)) hi (by simp)
    exact lL [(List.filter (fun x=>x != i) (List.filter g A)).length,(List.filter (fun x=>!x != i) (List.filter g A)).length,(List.filter g A).length] [zb o0 o1,o2,vk,o1] (ze o0) o2 rfl (eL k1) k2
   obtain⟨g',h1,h2⟩:=ih (fun x=>g x&&x != i) (by exact lL [(List.filter g A).length,n,(List.filter (fun x=>g x&&x != i) A).length] [o0,ze o1,ze o2,o0] o2 o1 rfl hn hlt) fun y hy=>by
    obtain⟨j,hj,hh⟩:=hc y hy
    obtain⟨j1,j2⟩:=List.mem_filter.mp hj
    by_cases e:j=i
    ·subst e
     have:∃ k∈A.filter g,k≠j∧cH r k y:=Classical.byContradiction fun q=>h ⟨y,hy,hh,fun k hk hkj hkh=>q ⟨k,hk,hkj,hkh⟩⟩
     obtain⟨k,k1,k2,k3⟩:=this
     obtain⟨k4,k5⟩:=List.mem_filter.mp k1
     exact⟨k,List.mem_filter.mpr ⟨k4,by rw[k5,Bool.true_and]; exact bne_iff_ne.mpr k2⟩,k3⟩
    ·exact⟨j,List.mem_filter.mpr ⟨j1,by rw[j2,Bool.true_and]; exact bne_iff_ne.mpr e⟩,hh⟩
   exact⟨g',fun i hi=>(aA (h1 i hi)).1,h2⟩
theorem fresh:∀ U:List Nat,∃ z,∀ p∈U,p<z
 | []=>⟨0,nofun⟩
 | p::U=>let⟨z,h⟩:=fresh U; ⟨max (p+1) z,fun q hq=>(List.mem_cons.mp hq).elim (fun e=>by rw[e]; exact Nat.le_max_left (p+1) z) fun hq=>Nat.lt_of_lt_of_le (h q hq) (Nat.le_max_right (p+1) z)⟩
theorem kN{a b x y:Nat→Int}:∀{V:List Nat},(∀ p∈V,a p*x p=b p*y p)→dt a x V=dt b y V
 | [],_=>rfl
 | p::V,h=>by rw[dt,dt,h p List.mem_cons_self,kN fun q hq=>h q (List.mem_cons_of_mem _ hq)]
noncomputable def pT(z:Nat)(k:Int)(a:Nat→Int):Nat→Int:=fun p=>if p=z then k else a p
theorem YB{z:Nat}{k:Int}{a x:Nat→Int}(hz:∀ p∈U,p≠z):dt (pT z k a) x (z::U)=k*x z+dt a x U:=by
 rw[dt,pT,if_pos rfl,kN (a:=pT z k a) (b:=a) (y:=x) fun p hp=>by rw[pT,if_neg (hz p hp)]]
theorem ext{S:ι→Bool}(M:MU r A U σ)(ht:(A.filter S).length=(U.filter (men r (A.filter S))).length)(hl:A.length=U.length+1)
  {x:Nat→Int} {t:Int} (hx:∀ p∈U,men r (A.filter S) p=false→x p=0) (hS:∀ i∈A,S i=true→dt (eU r i) x U=t) {c:ι} (hc:c∈A) (hcS:S c=false) :
  ∃(β:Int)(y:Nat→Int),(∀ p,p∉U→y p=0)∧(∀ i∈A,i≠c→dt (eU r i) y U=β*t)∧(∀ p∈U,men r (A.filter S) p=true→y p=β*x p)∧(β=0→∃ q,y q≠0):=by
 obtain⟨z,hz⟩:=fresh U
 have hz':∀ p∈U,p≠z:=fun p hp=>Nat.ne_of_lt (hz p hp)
 have hzU:z∉U:=fun h=>hz' z h rfl
 have n1:=kE S A
 have n2:=kE (men r (A.filter S)) U
 have hcm:c∈A.filter fun i=>!S i:=List.mem_filter.mpr ⟨hc,by rw[hcS]; rfl⟩
 obtain⟨w,⟨q,q1,q2⟩,h2,h3⟩:=Bo (V:=z::U) (List.nodup_cons.mpr ⟨hzU,M.un⟩) _ (((A.filter fun i=>!S i).erase c).map fun i=>pT z (dt (eU r i) x U - t) (eU r i)) (z::U.filter fun p=>!men r (A.filter S) p) rfl
  (List.nodup_cons.mpr ⟨fun h=>hzU (uI h),M.un.filter _⟩) (fun p hp=>(List.mem_cons.mp hp).elim (fun e=>e▸List.mem_cons_self) fun h=>List.mem_cons_of_mem _ (uI h))
  (by rw[List.length_map,List.length_erase_of_mem hcm,List.length_cons]; exact lL [(List.filter (men r (List.filter S A)) U).length,(List.filter S A).length,A.length,U.length,(List.filter (fun i=>!S i) A).length,(List.filter (fun p=>!men r (List.filter S A) p) U).length,(List.filter (fun i=>!S i) A).length - 1] [o0,o1,o2,ze o3,zb o1 o4,o2,o3,zb o0 o5,ze o6,o4] (ze o6) (ze o5) rfl (eR ht) (eL hl) (eL n1) (eR n2) (XH (lL [(List.filter S A).length,(List.filter (men r (List.filter S A)) U).length,U.length,A.length,(List.filter (fun i=>!S i) A).length,(List.filter (fun p=>!men r (List.filter S A) p) U).length] [o0,o1,ze o2,o3,o3,zb o0 o4,zb o1 o5,o2] vk o4 rfl (eL ht) (eR hl) (eR n1) (eL n2))))
 have wz:∀ p∈U,men r (A.filter S) p=true→w p=0:=fun p hp hm=>h2 p fun h=>(List.mem_cons.mp h).elim (hz' p hp) fun h=>by have:=(List.mem_filter.mp h).2; rw[hm]at this; cases this
 have ew:∀ i,dt (eU r i) (fun p=>if p∈U then w z*x p+w p else 0) U=w z*dt (eU r i) x U+dt (eU r i) w U:=fun i=>by
  rw[← pD]
  exact kN fun p hp=>by rw[if_pos hp]
 refine⟨w z,fun p=>if p∈U then w z*x p+w p else 0,fun p hp=>if_neg hp,fun i hi hic=>?_,fun p hp hm=>?_,fun h0=>⟨q,?_⟩⟩
 ·rw[ew]
  cases e:S i with
  | true =>
   rw[hS i hi e,eY fun p hp=>?_,Int.add_zero]
   cases hm:men r (A.filter S) p with
   | true=>rw[wz p hp hm,Int.mul_zero]
   | false=>rw[eU,xA hm (List.mem_filter.mpr ⟨hi,e⟩),TU,Int.zero_mul]
  | false =>
   have g:=h3 _ (List.mem_map_of_mem (f:=fun i=>pT z (dt (eU r i) x U - t) (eU r i)) ((List.mem_erase_of_ne hic).mpr (List.mem_filter.mpr ⟨hi,by rw[e]; rfl⟩)))
   rw[YB hz',Int.sub_mul,Int.mul_comm,Int.mul_comm t]at g
   omega
 ·show(if p∈U then w z*x p+w p else 0)=_
  rw[if_pos hp,wz p hp hm,Int.add_zero]
 ·have hq:q∈U:=by
   refine(List.mem_cons.mp q1).elim (fun e=>?_) uI
   rw[e]at q2
   exact absurd h0 q2
  show(if q∈U then w z*x q+w q else 0)≠0
  rw[if_pos hq,h0,Int.zero_mul,Int.zero_add]
  exact q2
end
section
variable{ι:Type} [DecidableEq ι] {r:ι→Nat→Option Bool} {A:List ι} {U:List Nat} {σ:Nat→Bool}
theorem ON{x y:Nat→Int}{k:Int}{p:Nat}(hk:0<k)(e:x p=k*y p):av x p=av y p:=by
 unfold av
 rw[e]
 by_cases h:y p<0
 ·rw[decide_eq_true h,decide_eq_true (Int.mul_neg_of_pos_of_neg hk h)]
 ·rw[decide_eq_false h,decide_eq_false (Int.not_lt.mpr (Int.mul_nonneg (Int.le_of_lt hk) (Int.not_lt.mp h)))]
theorem F2{a x:Nat→Int}{V:List Nat}(h:0<dt a x V):∃ p∈V,0<a p*x p:=by
 refine D3 (Int.le_of_lt h) (Classical.byContradiction fun g=>?_)
 rw[eY fun p hp=>Decidable.byContradiction fun e=>g ⟨p,hp,e⟩]at h
 exact Int.lt_irrefl _ h
theorem Bu(M:MU r A U σ)(hF:GO r A U)(hl:A.length=U.length+1){S:ι→Bool}(ht:(A.filter S).length=(U.filter (men r (A.filter S))).length)(hU:∃ p∈U,men r (A.filter S) p=false) :
  ∃ σ',MU r (A.filter fun i=>!S i) (U.filter fun p=>!men r (A.filter S) p) σ':=by
 obtain⟨z,hz⟩:=fresh U
 have hz':∀ p∈U,p≠z:=fun p hp=>Nat.ne_of_lt (hz p hp)
 have hzU:z∉U:=fun h=>hz' z h rfl
 obtain⟨x,⟨q,q1,q2⟩,h2,h3⟩:=Bo (V:=z::U) (List.nodup_cons.mpr ⟨hzU,M.un⟩) _ ((A.filter S).map fun i=>pT z (-1) (eU r i)) (z::U.filter (men r (A.filter S))) rfl
  (List.nodup_cons.mpr ⟨fun h=>hzU (uI h),M.un.filter _⟩) (fun p hp=>(List.mem_cons.mp hp).elim (fun e=>e▸List.mem_cons_self) fun h=>List.mem_cons_of_mem _ (uI h))
  (by rw[List.length_map,List.length_cons]; exact lL [(List.filter S A).length,(List.filter (men r (List.filter S A)) U).length] [o0,o1] (ze o0) (ze o1) rfl (eL ht))
 have hS:∀ i∈A,S i=true→dt (eU r i) x U=x z:=fun i hi e=>by
  have:=h3 _ (List.mem_map_of_mem (f:=fun i=>pT z (-1) (eU r i)) (List.mem_filter.mpr ⟨hi,e⟩))
  rw[YB hz']at this
  omega
 have hx:∀ p∈U,men r (A.filter S) p=false→x p=0:=fun p hp hm=>h2 p fun h=>(List.mem_cons.mp h).elim (hz' p hp) fun h=>by rw[(List.mem_filter.mp h).2]at hm; cases hm
 have tz:x z≠0:=fun e=>by
  obtain⟨p,hp,hm⟩:=hU
  obtain⟨c,hc,hcp⟩:=hF p hp
  have hcS:S c=false:=Bool.eq_false_iff.mpr fun h=>hcp (xA hm (List.mem_filter.mpr ⟨hc,h⟩))
  obtain⟨β,y,y1,y2,y3,y4⟩:=ext M ht hl hx hS hc hcS
  have hq:∃ q,y q≠0:=by
   by_cases hb:β=0
   ·exact y4 hb
   ·have hq:q∈U.filter (men r (A.filter S)):=(List.mem_cons.mp q1).resolve_left fun h=>q2 (h▸e)
    exact⟨q,by rw[y3 q (uI hq) (List.mem_filter.mp hq).2]; exact Int.mul_ne_zero hb q2⟩
  obtain⟨q,hq⟩:=hq
  exact Di M (fun p hp=>hp) hF y1 hq fun i hi hic=>by rw[y2 i hi hic,e,Int.mul_zero]
 have t2:0<x z*x z:=by
  rcases Int.lt_or_gt_of_ne tz with h | h
  ·exact Int.mul_pos_of_neg_of_neg h h
  ·exact Int.mul_pos h h
 have hS':∀ i∈A,S i=true→dt (eU r i) (fun p=>x z*x p) U=x z*x z:=fun i hi e=>by
  have:=pD (eU r i) x (fun _=>0) (x z) U
  rw[eY (x:=fun _=>0) fun p _=>Int.mul_zero _,hS i hi e,Int.add_zero]at this
  rw[← this]
  exact kN fun p _=>by rw[Int.add_zero]
 have hσ:∀ y:Nat→Bool,(∀ p,p∉U.filter (fun p=>!men r (A.filter S) p)→y p=if p∈U then av (fun p=>x z*x p) p else σ p)→(∀ p,p∉U→y p=σ p)∧∀ p∈U,men r (A.filter S) p=true→y p=av (fun p=>x z*x p) p:=fun y hy=>⟨fun p hp=>by
  have:=hy p fun h=>hp (uI h)
  rwa[if_neg hp]at this,fun p hp hm=>by
  have:=hy p fun h=>by have:=(List.mem_filter.mp h).2; rw[hm]at this; cases this
  rwa[if_pos hp]at this⟩
 refine⟨fun p=>if p∈U then av (fun p=>x z*x p) p else σ p,M.nd.filter _,M.un.filter _,fun y hy=>?_,fun c hc=>?_⟩
 ·obtain⟨g1,g2⟩:=hσ y hy
  obtain⟨i,hi,hh⟩:=M.cov y g1
  refine⟨i,List.mem_filter.mpr ⟨hi,?_⟩,hh⟩
  cases e:S i with
  | false=>rfl
  | true =>
   obtain⟨p,p1,p2⟩:=F2 ((hS' i hi e).symm▸t2)
   obtain⟨_,b,p4,p5⟩:=CT (x:=fun p=>x z*x p) p2
   exact absurd ((g2 p p1 (cE.mpr ⟨i,List.mem_filter.mpr ⟨hi,e⟩,by rw[p4]; nofun⟩)).symm.trans (hh p b p4)) p5
 ·obtain⟨hcA,hcS⟩:=List.mem_filter.mp hc
  rw[Bool.not_eq_true']at hcS
  obtain⟨β,y,y1,y2,y3,y4⟩:=ext (x:=fun p=>x z*x p) M ht hl (fun p hp hm=>by show x z*x p=0; rw[hx p hp hm,Int.mul_zero]) hS' hcA hcS
  have hb:β≠0:=fun e=>by
   obtain⟨q,hq⟩:=y4 e
   exact Di M (fun p hp=>hp) hF y1 hq fun i hi hic=>by rw[y2 i hi hic,e,Int.zero_mul]
  have b2:0<β*β:=by
   rcases Int.lt_or_gt_of_ne hb with h | h
   ·exact Int.mul_pos_of_neg_of_neg h h
   ·exact Int.mul_pos h h
  have no:∀ i∈A,i≠c→¬cH r i fun p=>if p∈U then av (fun p=>β*y p) p else σ p:=fun i hi hic hh=>by
   have e:dt (eU r i) (fun p=>β*y p) U=β*(β*(x z*x z)):=by
    have:=pD (eU r i) y (fun _=>0) β U
    rw[eY (x:=fun _=>0) fun p _=>Int.mul_zero _,y2 i hi hic,Int.add_zero]at this
    rw[← this]
    exact kN fun p _=>by rw[Int.add_zero]
   rw[← Int.mul_assoc]at e
   obtain⟨p,p1,p2⟩:=F2 (e.symm▸Int.mul_pos b2 t2)
   obtain⟨_,b,p4,p5⟩:=CT (x:=fun p=>β*y p) p2
   have g:(if p∈U then av (fun p=>β*y p) p else σ p)=b:=hh p b p4
   rw[if_pos p1]at g
   exact p5 g
  refine⟨fun p=>if p∈U then av (fun p=>β*y p) p else σ p,fun p hp=>?_,?_,fun j hj hjc=>no j (uI hj) hjc⟩
  ·show(if p∈U then _ else _)=if p∈U then _ else _
   by_cases hpU:p∈U
   ·rw[if_pos hpU,if_pos hpU]
    have hm:men r (A.filter S) p=true:=by
     cases e:men r (A.filter S) p with
     | true=>rfl
     | false=>exact absurd (List.mem_filter.mpr ⟨hpU,by rw[e]; rfl⟩) hp
    exact ON b2 (by show β*y p=β*β*(x z*x p); rw[y3 p hpU hm,Int.mul_assoc])
   ·rw[if_neg hpU,if_neg hpU]
  ·obtain⟨i,hi,hh⟩:=M.cov (fun p=>if p∈U then av (fun p=>β*y p) p else σ p) fun p hp=>if_neg hp
   by_cases e:i=c
   ·rw[← e]; exact hh
   ·exact absurd hh (no i hi e)
def UJ{ι:Type}(r:ι→Nat→Option Bool)(A:List ι)(U:List Nat):Prop:=∃ p∈U,∃ c∈A,∃ d∈A,r c p=some false∧r d p=some true∧∀ i∈A,r i p≠none→i=c∨i=d
theorem X7(M:MU r A U σ){p:Nat}(hp:p∈U)(b:Bool):∃ g:ι→Bool,(∀ i,g i=true→r i p≠some !b)∧MU r (A.filter g) (U.filter (· != p)) (fun q=>if q=p then b else σ q):=by
 have hy:∀ y:Nat→Bool,(∀ q,q∉U.filter (· != p)→y q=if q=p then b else σ q)→(∀ q,q∉U→y q=σ q)∧y p=b:=fun y hy=>⟨fun q hq=>by
  have:=hy q fun h=>hq (uI h)
  rwa[if_neg fun(e:q=p)=>hq (e▸hp)]at this,by
  have:=hy p fun h=>by have:=(List.mem_filter.mp h).2; rw[bne_self_eq_false]at this; cases this
  rwa[if_pos rfl]at this⟩
 obtain⟨g,h1,h2⟩:=U3 (r:=r) (σ:=fun q=>if q=p then b else σ q) M.nd (M.un.filter (· != p)) _ (fun i=>decide (r i p≠some !b)) (Nat.le_refl _) fun y h=>by
  obtain⟨g1,g2⟩:=hy y h
  obtain⟨i,hi,hh⟩:=M.cov y g1
  exact⟨i,List.mem_filter.mpr ⟨hi,decide_eq_true fun e=>by have:=hh p _ e; rw[g2]at this; cases b <;> cases this⟩,hh⟩
 exact⟨g,fun i hi=>of_decide_eq_true (h1 i hi),h2⟩
theorem KC(M:MU r A U σ):(U.filter (men r A)).length<A.length:=by
 by_cases e:U.filter (men r A)=[]
 ·rw[e]
  obtain⟨i,hi,_⟩:=M.cov σ fun _ _=>rfl
  exact List.length_pos_of_mem hi
 ·exact Nat.lt_of_lt_of_le (JB M M.un (fun p hp=>hp) (M.un.filter _) (fun p hp=>uI hp) e fun p hp=>cE.mp (List.mem_filter.mp hp).2) (List.length_filter_le _ _)
theorem R0{p:Nat}(M:MU r A [p] σ)(hF:GO r A [p]):UJ r A [p]:=by
 have hp:p∈[p]:=List.mem_cons_self
 have h:∀ b,∃ c∈A,cH r c fun q=>if q=p then b else σ q:=fun b=>M.cov _ fun q hq=>if_neg fun(e:q=p)=>hq (e▸hp)
 have at':∀{c:ι}{b:Bool}{q:Nat}{k:Bool},(cH r c fun q=>if q=p then b else σ q)→r c q=some k→(if q=p then b else σ q)=k:=fun h e=>h _ _ e
 have two:∀ i∈A,∃ b,∀ c∈A,(cH r c fun q=>if q=p then b else σ q)→c=i:=fun i hi=>by
  obtain⟨y,h1,h2,h3⟩:=M.irr i hi
  refine⟨y p,fun c hc hh=>Decidable.byContradiction fun e=>h3 c hc e fun q b hb=>?_⟩
  rw[← at' hh hb]
  by_cases e:q=p
  ·rw[if_pos e,e]
  ·rw[if_neg e]; exact h1 q fun h=>e (List.mem_singleton.mp h)
 have at_:∀ b c,c∈A→(cH r c fun q=>if q=p then b else σ q)→r c p=some b:=fun b c hc hh=>by
  cases e:r c p with
  | none =>
   have all:∀ i∈A,c=i:=fun i hi=>by
    obtain⟨b',h⟩:=two i hi
    refine h c hc fun q k hk=>?_
    have:=at' hh hk
    by_cases e':q=p
    ·rw[e',e]at hk; cases hk
    ·rw[if_neg e']at this; exact(if_neg e').trans this
   obtain⟨i,hi,hr⟩:=hF p hp
   rw[← all i hi]at hr
   exact absurd e hr
  | some k =>
   have:=at' hh e
   rw[if_pos rfl]at this
   rw[this]
 obtain⟨c,c1,c2⟩:=h false
 obtain⟨d,d1,d2⟩:=h true
 refine⟨p,hp,c,c1,d,d1,at_ _ c c1 c2,at_ _ d d1 d2,fun i hi _=>?_⟩
 obtain⟨b,h⟩:=two i hi
 cases b with
 | false=>exact .inl (h c c1 c2).symm
 | true=>exact .inr (h d d1 d2).symm
theorem d1:∀(n:Nat)(A:List ι)(U:List Nat)(σ:Nat→Bool),U.length≤n→MU r A U σ→GO r A U→A.length=U.length+1→U≠[]→UJ r A U:=by
 intro n
 induction n with
 | zero=>exact fun A U σ hn _ _ _ h0=>absurd (List.eq_nil_of_length_eq_zero (Nat.le_zero.mp hn)) h0
 | succ n ih =>
  intro A U σ hn M hF hl h0
  have red:∀ S:ι→Bool,0<(A.filter S).length→(A.filter S).length=(U.filter (men r (A.filter S))).length→(∃ p∈U,men r (A.filter S) p=false)→UJ r A U:=fun S hs ht hU=>by
   obtain⟨σ',M'⟩:=Bu M hF hl ht hU
   have n1:=kE S A
   have n2:=kE (men r (A.filter S)) U
   have keep:∀ i∈A,∀ p,men r (A.filter S) p=false→r i p≠none→i∈A.filter fun i=>!S i:=fun i hi p hm hr=>List.mem_filter.mpr ⟨hi,by
    cases e:S i with
    | false=>rfl
    | true=>exact absurd (xA hm (List.mem_filter.mpr ⟨hi,e⟩)) hr⟩
   have out:∀ p∈U.filter (fun p=>!men r (A.filter S) p),p∈U∧men r (A.filter S) p=false:=fun p hp=>let⟨h1,h2⟩:=List.mem_filter.mp hp; ⟨h1,by rwa[Bool.not_eq_true']at h2⟩
   obtain⟨p,hp,c,hc,d,hd,h1,h2,h3⟩:=ih _ _ σ' (by exact lL [U.length,n,(List.filter S A).length,(List.filter (men r (List.filter S A)) U).length,(List.filter (fun p=>!men r (List.filter S A) p) U).length] [o0,ze o1,vk,o2,o2,o3,zb o3 o4,o0] o4 o1 rfl hn hs (eL ht) (eL n2)) M' (fun p hp=>let⟨i,hi,hr⟩:=hF p (out p hp).1; ⟨i,keep i hi p (out p hp).2 hr,hr⟩) (by exact nA (lL [A.length,U.length,(List.filter (men r (List.filter S A)) U).length,(List.filter S A).length,(List.filter (fun i=>!S i) A).length,(List.filter (fun p=>!men r (List.filter S A) p) U).length] [o0,ze o1,o2,o3,zb o3 o4,o0,o1,zb o2 o5] o4 (ze o5) rfl (eL hl) (eR ht) (eL n1) (eR n2)) (lL [U.length,A.length,(List.filter S A).length,(List.filter (men r (List.filter S A)) U).length,(List.filter (fun i=>!S i) A).length,(List.filter (fun p=>!men r (List.filter S A) p) U).length] [ze o0,o1,o2,o3,o1,zb o2 o4,zb o3 o5,o0] (ze o5) o4 rfl (eR hl) (eL ht) (eR n1) (eL n2))) (by
    obtain⟨p,hp,hm⟩:=hU
    exact List.ne_nil_of_mem (List.mem_filter.mpr ⟨hp,by rw[hm]; rfl⟩))
   exact⟨p,(out p hp).1,c,uI hc,d,uI hd,h1,h2,fun i hi hr=>h3 i (keep i hi p (out p hp).2 hr) hr⟩
  obtain⟨p,U',rfl⟩:=List.exists_cons_of_ne_nil h0
  have hpm:p∈p::U':=List.mem_cons_self
  have hU':(p::U').filter (· != p)=U':=by
   rw[List.filter_cons,if_neg (by simp),List.filter_eq_self]
   exact fun q hq=>bne_iff_ne.mpr fun e=>(List.nodup_cons.mp M.un).1 (e▸hq)
  obtain⟨g0,a0,M0⟩:=X7 M hpm false
  obtain⟨g1,a1,M1⟩:=X7 M hpm true
  rw[hU']at M0 M1
  have dis:∀ i∈A,r i p≠none→¬(g0 i=true∧g1 i=true):=fun i _ hr h=>by
   cases e:r i p with
   | none=>exact hr e
   | some b=>cases b with
    | true=>exact a0 i h.1 e
    | false=>exact a1 i h.2 e
  have any:∀ i∈A,(g0 i||g1 i)=true:=fun i hi=>by
   obtain⟨y,h1,h2,h3⟩:=M.irr i hi
   have hy:∀ b,y p=b→∀ q,q∉U'→y q=if q=p then b else σ q:=fun b hb q hq=>by
    by_cases e:q=p
    ·rw[if_pos e,e,hb]
    ·rw[if_neg e]; exact h1 q fun h=>(List.mem_cons.mp h).elim e hq
   have fin:∀ g:ι→Bool,(∃ j∈A.filter g,cH r j y)→g i=true:=fun g⟨j,hj,hh⟩=>by
    by_cases e:j=i
    ·rw[← e]; exact(List.mem_filter.mp hj).2
    ·exact absurd hh (h3 j (uI hj) e)
   cases e:y p with
   | false=>rw[fin g0 (M0.cov y (hy false e)),Bool.true_or]
   | true=>rw[fin g1 (M1.cov y (hy true e)),Bool.or_true]
  have anyP:∀ q∈U',(men r (A.filter g0) q||men r (A.filter g1) q)=true:=fun q hq=>by
   obtain⟨i,hi,hr⟩:=hF q (List.mem_cons_of_mem _ hq)
   rcases Bool.or_eq_true_iff.mp (any i hi)with h | h
   ·rw[cE.mpr ⟨i,List.mem_filter.mpr ⟨hi,h⟩,hr⟩,Bool.true_or]
   ·rw[cE.mpr ⟨i,List.mem_filter.mpr ⟨hi,h⟩,hr⟩,Bool.or_true]
  have k1:=JZ g0 g1 A
  have k2:=JZ (men r (A.filter g0)) (men r (A.filter g1)) U'
  rw[List.filter_eq_self.mpr any]at k1
  rw[List.filter_eq_self.mpr anyP]at k2
  have l0:=KC M0
  have l1:=KC M1
  rw[List.length_cons]at hl
  have some:∀{α:Type}{l:List α}{P:α→Bool},0<(l.filter P).length→∃ a∈l,P a=true:=fun h=>by
   obtain⟨a,ha⟩:=List.exists_mem_of_length_pos h
   exact⟨a,List.mem_filter.mp ha⟩
  have le:∀{g:ι→Bool},((p::U').filter (men r (A.filter g))).length≤(U'.filter (men r (A.filter g))).length+1:=fun{g}=>by
   rw[List.filter_cons]
   split
   ·exact Nat.le_refl _
   ·exact Nat.le_succ _
  rcases Nat.eq_zero_or_pos (A.filter fun x=>g0 x&&g1 x).length with e | e
  ·have dj:∀ i∈A,g0 i=true→g1 i=true→False:=fun i hi h h'=>Nat.ne_of_gt (xE (P:=fun x=>g0 x&&g1 x) hi (by rw[h,h']; rfl)) e
   have dp:∀ q∈U',men r (A.filter g0) q=true→men r (A.filter g1) q=true→False:=fun q hq h h'=>by
    have:=xE (P:=fun x=>men r (A.filter g0) x&&men r (A.filter g1) x) hq (by rw[h,h']; rfl)
    exact lF [A.length,U'.length,(List.filter g0 A).length,(List.filter g1 A).length,(List.filter (fun x=>g0 x&&g1 x) A).length,(List.filter (fun x=>men r (List.filter g0 A) x&&men r (List.filter g1 A) x) U').length,(List.filter (men r (List.filter g0 A)) U').length,(List.filter (men r (List.filter g1 A)) U').length] [o0,ze (ze o1),zb o2 o3,zb o0 o4,zb o1 o5,zb o6 o7,ze o6,o2,ze o7,o3,o4,.num 0,vk,o5] rfl (eL hl) (eL k1) (eR k2) l0 l1 (eL e) this
   have fls:∀{b:Bool},(b=true→False)→b=false:=fun h=>Bool.eq_false_iff.mpr h
   rcases Nat.eq_zero_or_pos (U'.filter (men r (A.filter g1))).length with e1 | e1
   ·rcases Nat.eq_zero_or_pos (U'.filter (men r (A.filter g0))).length with e0 | e0
    ·have:U'=[]:=List.eq_nil_of_length_eq_zero (by exact nA (lL [U'.length,(List.filter (fun x=>men r (List.filter g0 A) x&&men r (List.filter g1 A) x) U').length,(List.filter (men r (List.filter g0 A)) U').length,(List.filter (men r (List.filter g1 A)) U').length] [zb o0 o1,zb o2 o3,o3,.num 0,o2,.num 0] o0 (.num 0) rfl (eR k2) (eL e1) (eL e0)) (lL [U'.length] [] (.num 0) o0 rfl ))
     subst this
     exact R0 M hF
    ·obtain⟨i,hi,hg⟩:=some (l:=A) (P:=g0) (by exact lL [(List.filter (men r (List.filter g0 A)) U').length,(List.filter g0 A).length] [ze o0,o1,vk,o0] vk o1 rfl l0 e0)
     have hh:=hall M hF (by rw[List.length_cons]; exact hl) g1 ⟨i,hi,fls (dj i hi hg)⟩
     have:=le (g:=g1)
     obtain⟨q,hq,hm⟩:=some e0
     exact red g1 (by exact lL [(List.filter (men r (List.filter g1 A)) U').length,(List.filter g1 A).length] [ze o0,o1] vk o1 rfl l1) (by exact nA (lL [(List.filter g1 A).length,(List.filter (men r (List.filter g1 A)) (p::U')).length] [o0,o1] o0 o1 rfl hh) (lL [(List.filter (men r (List.filter g1 A)) U').length,(List.filter g1 A).length,(List.filter (men r (List.filter g1 A)) (p::U')).length] [ze o0,o1,o2,ze o0] o2 o1 rfl l1 this)) ⟨q,List.mem_cons_of_mem _ hq,fls (dp q hq hm)⟩
   ·obtain⟨i,hi,hg⟩:=some (l:=A) (P:=g1) (by exact lL [(List.filter (men r (List.filter g1 A)) U').length,(List.filter g1 A).length] [ze o0,o1,vk,o0] vk o1 rfl l1 e1)
    have hh:=hall M hF (by rw[List.length_cons]; exact hl) g0 ⟨i,hi,fls fun h=>dj i hi h hg⟩
    have:=le (g:=g0)
    obtain⟨q,hq,hm⟩:=some e1
    exact red g0 (by exact lL [(List.filter (men r (List.filter g0 A)) U').length,(List.filter g0 A).length] [ze o0,o1] vk o1 rfl l0) (by exact nA (lL [(List.filter g0 A).length,(List.filter (men r (List.filter g0 A)) (p::U')).length] [o0,o1] o0 o1 rfl hh) (lL [(List.filter (men r (List.filter g0 A)) U').length,(List.filter g0 A).length,(List.filter (men r (List.filter g0 A)) (p::U')).length] [ze o0,o1,o2,ze o0] o2 o1 rfl l0 this)) ⟨q,List.mem_cons_of_mem _ hq,fls fun h=>dp q hq h hm⟩
  ·obtain⟨i,hi,hr⟩:=hF p hpm
   have hh:=hall M hF (by rw[List.length_cons]; exact hl) (fun x=>g0 x&&g1 x) ⟨i,hi,Bool.eq_false_iff.mpr fun h=>dis i hi hr (aA h)⟩
   have hpn:men r (A.filter fun x=>g0 x&&g1 x) p=false:=Bool.eq_false_iff.mpr fun h=>by
    obtain⟨j,hj,hjr⟩:=cE.mp h
    obtain⟨hj,hg⟩:=List.mem_filter.mp hj
    exact dis j hj hjr (aA hg)
   have h5:((p::U').filter (men r (A.filter fun x=>g0 x&&g1 x))).length≤(U'.filter fun q=>men r (A.filter g0) q&&men r (A.filter g1) q).length:=by
    rw[List.filter_cons,if_neg (by rw[hpn]; nofun)]
    exact FL fun q hq h=>by
     obtain⟨j,hj,hjr⟩:=cE.mp h
     obtain⟨hj,hg⟩:=List.mem_filter.mp hj
     rw[cE.mpr ⟨j,List.mem_filter.mpr ⟨hj,(aA hg).1⟩,hjr⟩,cE.mpr ⟨j,List.mem_filter.mpr ⟨hj,(aA hg).2⟩,hjr⟩]
     rfl
   exact red _ e (by exact nA (lL [(List.filter (fun x=>g0 x&&g1 x) A).length,(List.filter (men r (List.filter (fun x=>g0 x&&g1 x) A)) (p::U')).length] [o0,o1] o0 o1 rfl hh) (lL [A.length,U'.length,(List.filter g0 A).length,(List.filter g1 A).length,(List.filter (fun x=>g0 x&&g1 x) A).length,(List.filter (fun x=>men r (List.filter g0 A) x&&men r (List.filter g1 A) x) U').length,(List.filter (men r (List.filter g0 A)) U').length,(List.filter (men r (List.filter g1 A)) U').length,(List.filter (men r (List.filter (fun x=>g0 x&&g1 x) A)) (p::U')).length] [o0,ze (ze o1),zb o2 o3,zb o0 o4,zb o1 o5,zb o6 o7,ze o6,o2,ze o7,o3,o8,o5] o8 o4 rfl (eL hl) (eL k1) (eR k2) l0 l1 h5)) ⟨p,hpm,hpn⟩
end
end Kt.Internal
end
section

namespace Kt.Internal
section
variable{ι:Type} [DecidableEq ι] {r:ι→Nat→Option Bool} {A:List ι} {U:List Nat} {σ:Nat→Bool}
theorem MU.men(M:MU r A U σ):MU r A (U.filter (men r A)) σ:=by
 refine⟨M.nd,M.un.filter _,fun y hy=>M.cov y fun p hp=>hy p fun h=>hp (uI h),fun i hi=>?_⟩
 obtain⟨y,h1,h2,h3⟩:=M.irr i hi
 have key:∀{j},j∈A→(cH r j (fun p=>if Kt.Internal.men r A p then y p else σ p)↔cH r j y):=fun{j}hj=>by
  have:∀ p b,r j p=some b→(if Kt.Internal.men r A p then y p else σ p)=y p:=fun p b e=>if_pos (cE.mpr ⟨j,hj,by rw[e]; nofun⟩)
  exact⟨fun h p b e=>(this p b e).symm.trans (h p b e),fun h p b e=>(this p b e).trans (h p b e)⟩
 refine⟨_,fun p hp=>?_,(key hi).mpr h2,fun j hj e h=>h3 j hj e ((key hj).mp h)⟩
 by_cases hm:Kt.Internal.men r A p=true
 ·exact(if_pos hm).trans (h1 p fun hu=>hp (List.mem_filter.mpr ⟨hu,hm⟩))
 ·exact if_neg hm
noncomputable def GD(y:Nat→Bool)(p:Nat):Nat→Bool:=fun q=>if q=p then !y q else y q
theorem sS{y:Nat→Bool}{p q:Nat}(h:q≠p):GD y p q=y q:=if_neg h
theorem yB{i:ι}{y:Nat→Bool}{p:Nat}(h:r i p=none):cH r i (GD y p)↔cH r i y:=by
 have:∀ q b,r i q=some b→GD y p q=y q:=fun q b e=>sS fun e'=>by rw[e',h]at e; cases e
 exact⟨fun g q b e=>(this q b e).symm.trans (g q b e),fun g q b e=>(this q b e).trans (g q b e)⟩
theorem other(M:MU r A U σ){p:Nat}(hp:p∈U){c d:ι}{b:Bool}(hc:r c p=some b)(h:∀ i∈A,r i p≠none→i=c∨i=d){y:Nat→Bool}(hy:∀ q,q∉U→y q=σ q)(h2:cH r c y)(h3:∀ j∈A,j≠c→¬cH r j y):cH r d (GD y p):=by
 obtain⟨i,hi,g⟩:=M.cov (GD y p) fun q hq=>(sS fun e=>hq (by rw[e]; exact hp)).trans (hy q hq)
 have nc:i≠c:=fun e=>by
  have h4:=h2 p b hc
  have h5:=g p b (e▸hc)
  unfold GD at h5
  rw[if_pos rfl,h4]at h5
  cases b <;> cases h5
 cases e:r i p with
 | none=>exact absurd ((yB e).mp g) (h3 i hi nc)
 | some k=>exact((h i hi (by rw[e]; nofun)).resolve_left nc)▸g
theorem RE(M:MU r A U σ){p:Nat}(hp:p∈U){c d:ι}(hA:c∈A){b:Bool}(hc:r c p=some b)(h:∀ i∈A,r i p≠none→i=c∨i=d){q:Nat}(hq:q≠p){a a':Bool}(e:r c q=some a)(e':r d q=some a'):a=a':=by
 obtain⟨y,h1,h2,h3⟩:=M.irr c hA
 exact(h2 q a e).symm.trans ((sS hq).symm.trans (other M hp hc h h1 h2 h3 q a' e'))
theorem Cc(M:MU r A U σ){p:Nat}(hp:p∈U){c d e:ι}(hA:c∈A)(hD:d∈A)(hcd:c≠d){b:Bool}(hc:r c p=some b)(hd:r d p=some !b)(h:∀ i∈A,r i p≠none→i=c∨i=d)
  (he:∀ q k,r e q=some k↔q≠p∧(r c q=some k∨r d q=some k)) {B:List ι} (hB:∀ i,i∈B↔i∈A∧i≠c∧i≠d) (hn:B.Nodup):MU r (B++[e]) U σ:=by
 have he2:∀{y:Nat→Bool},cH r e y→cH r c y∨cH r d y:=fun{y}g=>by
  have key:∀{i:ι}{b:Bool},r i p=some b→y p=b→(∀ q k,r i q=some k→q≠p→r e q=some k)→cH r i y:=fun h1 h2 h3 q k e'=>by
   by_cases hq:q=p
   ·subst hq; rw[h2]; exact Option.some.inj (h1.symm.trans e')
   ·exact g q k (h3 q k e' hq)
  by_cases h4:y p=b
  ·exact .inl (key hc h4 fun q k e' hq=>(he q k).mpr ⟨hq,.inl e'⟩)
  ·exact .inr (key hd (by cases b <;> cases hyp:y p <;> simp_all) fun q k e' hq=>(he q k).mpr ⟨hq,.inr e'⟩)
 have mk:∀{y:Nat→Bool},cH r c y→cH r d (GD y p)→cH r e y:=fun{y}g1 g2 q k e'=>by
  obtain⟨hq,e'⟩:=(he q k).mp e'
  exact e'.elim (g1 q k) fun e'=>(sS hq).symm.trans (g2 q k e')
 have flp2:∀{y:Nat→Bool},GD (GD y p) p=y:=fun{y}=>funext fun q=>by
  unfold GD
  by_cases e:q=p
  ·rw[if_pos e,if_pos e,Bool.not_not]
  ·rw[if_neg e,if_neg e]
 have hep:r e p=none:=by
  cases e':r e p with
  | none=>rfl
  | some k=>exact absurd rfl ((he p k).mp e').1
 have inB:∀ i∈B,∃ y,(∀ q,q∉U→y q=σ q)∧cH r i y∧(∀ j∈B,j≠i→¬cH r j y)∧¬cH r e y:=fun i hi=>by
  obtain⟨hiA,n1,n2⟩:=(hB i).mp hi
  obtain⟨y,h1,h2,h3⟩:=M.irr i hiA
  exact⟨y,h1,h2,fun j hj hji=>h3 j ((hB j).mp hj).1 hji,fun g=>(he2 g).elim (h3 c hA n1.symm) (h3 d hD n2.symm)⟩
 refine⟨?_,M.un,fun y hy=>?_,fun i hi=>?_⟩
 ·refine List.nodup_append.mpr ⟨hn,List.nodup_cons.mpr ⟨List.not_mem_nil,List.nodup_nil⟩,fun i hi j hj e'=>?_⟩
  obtain⟨y,_,h2,_,h4⟩:=inB i hi
  rw[List.mem_singleton.mp hj]at e'
  exact h4 (e'▸h2)
 ·obtain⟨i,hi,g⟩:=M.cov y hy
  by_cases hcd':i=c∨i=d
  ·obtain⟨j,hj,g'⟩:=M.cov (GD y p) fun q hq=>(sS fun e'=>hq (by rw[e']; exact hp)).trans (hy q hq)
   cases e':r j p with
   | none=>exact⟨j,List.mem_append_left _ ((hB j).mpr ⟨hj,(fun h=>nomatch (h▸e').symm.trans hc),(fun h=>nomatch (h▸e').symm.trans hd)⟩),(yB e').mp g'⟩
   | some k =>
    refine⟨e,List.mem_append_right _ List.mem_cons_self,?_⟩
    have no:∀{i:ι}{b:Bool},r i p=some b→cH r i y→¬cH r i (GD y p):=fun{i b}h1 h2 h3=>by
     have h4:=h2 p b h1
     have h5:=h3 p b h1
     unfold GD at h5
     rw[if_pos rfl,h4]at h5
     cases b <;> cases h5
    rcases h j hj (by rw[e']; nofun)with rfl | rfl
    ·rcases hcd' with rfl | rfl
     ·exact absurd g' (no hc g)
     ·exact(yB hep).mp (mk g' (flp2.symm▸g))
    ·rcases hcd' with rfl | rfl
     ·exact mk g g'
     ·exact absurd g' (no hd g)
  ·exact⟨i,List.mem_append_left _ ((hB i).mpr ⟨hi,not_or.mp hcd'⟩),g⟩
 ·rcases List.mem_append.mp hi with hi | hi
  ·obtain⟨y,h1,h2,h3,h4⟩:=inB i hi
   exact⟨y,h1,h2,fun j hj hji=>(List.mem_append.mp hj).elim (fun hj=>h3 j hj hji) fun hj=>List.mem_singleton.mp hj▸h4⟩
  ·obtain⟨y,h1,h2,h3⟩:=M.irr c hA
   rw[List.mem_singleton.mp hi]
   refine⟨y,h1,mk h2 (other M hp hc h h1 h2 h3),fun j hj hje=>?_⟩
   obtain⟨hjA,n1,_⟩:=(hB j).mp ((List.mem_append.mp hj).resolve_right fun h=>hje (List.mem_singleton.mp h))
   exact h3 j hjA n1
end
section
variable{s:Nat→Nat}{r:List Nat}
noncomputable def sgP(s:Nat→Nat)(p:Nat)(b:Bool):Nat:=s (2*p+b.toNat)
def rN(s:Nat→Nat):Prop:=∀{i j},i<8→j<8→s i=s j→i=j
theorem mW{p:Nat}(hp:p<4)(b:Bool):2*p+b.toNat<8:=Nat.lt_of_le_of_lt (Nat.add_le_add (Nat.mul_le_mul_left 2 (Nat.le_of_lt_succ hp)) (Bool.toNat_le b)) (by decide)
theorem sJ(hs:rN s){p q:Nat}{b c:Bool}(hp:p<4)(hq:q<4)(e:sgP s p b=sgP s q c):p=q∧b=c:=by
 have h:=hs (mW hp b) (mW hq c) e
 have e1:=congrArg (· / 2) h
 have e2:=congrArg (· % 2) h
 simp only[Nat.mul_add_div Nat.two_pos,Nat.mul_add_mod,Nat.div_eq_of_lt (Bool.toNat_lt _),Nat.mod_eq_of_lt (Bool.toNat_lt _)]at e1 e2
 exact⟨e1,by cases b <;> cases c <;> first | rfl | cases e2⟩
structure uJ(s:Nat→Nat)(r:List Nat):Prop where
 nd:r.Nodup
 of:∀ x∈r,∃ p b,p<4∧x=sgP s p b
 one:∀ p,p<4→sgP s p false∈r→sgP s p true∉r
noncomputable def rr(s:Nat→Nat)(r:List Nat)(p:Nat):Option Bool:=if p<4 then(if r.contains (sgP s p false)then some false else if r.contains (sgP s p true)then some true else none)else none
theorem dS(hw:uJ s r){p:Nat}{b:Bool}:rr s r p=some b↔p<4∧sgP s p b∈r:=by
 have w:=hw.one p
 unfold rr
 by_cases hp:p<4
 ·rw[if_pos hp]
  by_cases h1:sgP s p false∈r
  ·rw[if_pos (List.contains_iff_mem.mpr h1)]
   cases b with
   | false=>exact⟨fun _=>⟨hp,h1⟩,fun _=>rfl⟩
   | true=>exact⟨nofun,fun h=>absurd h.2 (w hp h1)⟩
  ·rw[if_neg fun h=>h1 (List.contains_iff_mem.mp h)]
   by_cases h2:sgP s p true∈r
   ·rw[if_pos (List.contains_iff_mem.mpr h2)]
    cases b with
    | false=>exact⟨nofun,fun h=>absurd h.2 h1⟩
    | true=>exact⟨fun _=>⟨hp,h2⟩,fun _=>rfl⟩
   ·rw[if_neg fun h=>h2 (List.contains_iff_mem.mp h)]
    cases b with
    | false=>exact⟨nofun,fun h=>absurd h.2 h1⟩
    | true=>exact⟨nofun,fun h=>absurd h.2 h2⟩
 ·rw[if_neg hp]
  exact⟨nofun,fun h=>absurd h.1 hp⟩
theorem Az(hw:uJ s r){p:Nat}(hp:p<4):rr s r p=none↔sgP s p false∉r∧sgP s p true∉r :=
 ⟨fun h=>⟨(fun h1=>nomatch h.symm.trans ((dS hw).mpr ⟨hp,h1⟩)),(fun h1=>nomatch h.symm.trans ((dS hw).mpr ⟨hp,h1⟩))⟩,fun h=>by
  cases e:rr s r p with
  | none=>rfl
  | some b =>
   have:=((dS hw).mp e).2
   cases b
   ·exact absurd this h.1
   ·exact absurd this h.2⟩
theorem u3(hw:uJ s r){p:Nat}(hp:p<4):rr s r p≠none↔∃ b,sgP s p b∈r :=
 ⟨fun h=>match e:rr s r p with | none=>absurd e h | some b=>⟨b,((dS hw).mp e).2⟩,fun⟨b,h⟩e=>nomatch e.symm.trans ((dS hw).mpr ⟨hp,h⟩)⟩
noncomputable def XT:List Bool:=[false,true]
theorem RJ(b:Bool):b∈XT:=by cases b <;> decide
noncomputable def iR(s:Nat→Nat):List (List Nat):=XT.flatMap fun a=>XT.flatMap fun b=>XT.flatMap fun c=>XT.flatMap fun d=>[[sgP s 0 a,sgP s 1 b,sgP s 2 c,sgP s 3 d]]
noncomputable def TX(s:Nat→Nat)(y:Nat→Bool):List Nat:=(List.range 4).map fun p=>sgP s p (y p)
theorem lG{n:List Nat}:n∈iR s↔∃ y,n=TX s y:=by
 unfold iR
 simp only[List.mem_flatMap,List.mem_singleton,RJ,true_and]
 exact⟨fun⟨a,b,c,d,e⟩=>⟨fun p=>[a,b,c,d].getD p false,e⟩,fun⟨y,e⟩=>⟨y 0,y 1,y 2,y 3,e⟩⟩
theorem KT{y:Nat→Bool}{p:Nat}(hp:p<4):(TX s y)[p]? = some (sgP s p (y p)):=by
 unfold TX
 rw[List.getElem?_map,List.getElem?_range hp]; rfl
noncomputable def qN(s:Nat→Nat)(r:List Nat)(p:Nat):Option Nat:=(rr s r p).map (sgP s p)
noncomputable def Dg(q:Option Nat)(c:Option Nat):Bool:=match q with | none=>true | some x=>c==some x
noncomputable def zG(qs:List (Option Nat))(n:List Nat):Bool:=(List.range 4).all fun k=>Dg (qs.getD k none) n[k]?
noncomputable def OZ(s:Nat→Nat)(r:List Nat):List (Option Nat):=(List.range 4).map (qN s r)
theorem nX(hs:rN s){y:Nat→Bool}:zG (OZ s r) (TX s y)=true↔cH (rr s) r y:=by
 unfold zG
 rw[List.all_eq_true]
 have q:∀{k},k<4→((OZ s r).getD k none)=qN s r k:=fun{k}hk=>by
  unfold OZ
  rw[List.getD_eq_getElem?_getD,List.getElem?_map,List.getElem?_range hk]; rfl
 have lt:∀{p b},rr s r p=some b→p<4:=fun{p b}h=>Decidable.byContradiction fun e=>by unfold rr at h; rw[if_neg e]at h; cases h
 refine⟨fun h p b e=>?_,fun h k hk=>?_⟩
 ·have hp:=lt e
  have:=h p (List.mem_range.mpr hp)
  rw[q hp,KT hp,qN,e]at this
  exact(sJ hs hp hp (Option.some.inj (eq_of_beq this))).2
 ·have hk:=List.mem_range.mp hk
  rw[q hk,KT hk,qN]
  cases e:rr s r k with
  | none=>rfl
  | some b=>rw[h k b e]; exact beq_self_eq_true _
noncomputable def BB(s:Nat→Nat)(r:List Nat):List (List Nat):=(iR s).filter (zG (OZ s r))
theorem Bc(hs:rN s){n:List Nat}:n∈BB s r↔∃ y,n=TX s y∧cH (rr s) r y:=by
 unfold BB
 rw[List.mem_filter,lG]
 exact⟨fun⟨⟨y,e⟩,h⟩=>⟨y,e,(nX hs).mp (e▸h)⟩,fun⟨y,e,h⟩=>⟨⟨y,e⟩,e▸(nX hs).mpr h⟩⟩
theorem w0(hs:rN s){y:Nat→Bool}:TX s y∈BB s r↔cH (rr s) r y:=by
 unfold BB
 rw[List.mem_filter]
 exact⟨fun h=>(nX hs).mp h.2,fun h=>⟨lG.mpr ⟨y,rfl⟩,(nX hs).mpr h⟩⟩
end
section
variable{α:Type} [BEq α] [LawfulBEq α] {N:List α} {t:Nat→List α}
noncomputable def kA(N:List α)(t:Nat→List α)(K:List Nat)(r:Nat):List Nat:=if l3 ((K.filter (· != r)).flatMap t) N then K.filter (· != r)else K
def Ct(N:List α)(t:Nat→List α)(K:List Nat)(k:Nat):Prop:=∃ n∈N,∀ j∈K,n∈t j→j=k
structure BK(N:List α)(t:Nat→List α)(m:Nat)(K:List Nat):Prop where
 nd:K.Nodup
 cov:∀ n∈N,∃ k∈K,n∈t k
 own:∀ k∈K,k<m→Ct N t K k
theorem H0{m:Nat}{K:List Nat}(h:BK N t m K)(hs:∀ k∈K,∀ n∈t k,n∈N):BK N t (m+1) (kA N t K m):=by
 unfold kA
 by_cases e:l3 ((K.filter (· != m)).flatMap t) N=true
 ·rw[if_pos e]
  refine⟨h.nd.filter _,fun n hn=>List.mem_flatMap.mp (((lM _ _).mp e n).mpr hn),fun k hk hkm=>?_⟩
  obtain⟨hk,hkm'⟩:=List.mem_filter.mp hk
  obtain⟨n,hn,g⟩:=h.own k hk (Nat.lt_of_le_of_ne (Nat.le_of_lt_succ hkm) (bne_iff_ne.mp hkm'))
  exact⟨n,hn,fun j hj=>g j (List.mem_filter.mp hj).1⟩
 ·rw[if_neg e]
  refine⟨h.nd,h.cov,fun k hk hkm=>?_⟩
  by_cases hm:k=m
  ·subst hm
   refine Classical.byContradiction fun no=>e ((lM _ _).mpr fun n=>⟨fun hn=>?_,fun hn=>?_⟩)
   ·obtain⟨j,hj,hn⟩:=List.mem_flatMap.mp hn
    exact hs j (List.mem_filter.mp hj).1 n hn
   ·refine List.mem_flatMap.mpr (Classical.byContradiction fun no'=>no ⟨n,hn,fun j hj hjn=>Decidable.byContradiction fun e=>no' ⟨j,List.mem_filter.mpr ⟨hj,bne_iff_ne.mpr e⟩,hjn⟩⟩)
  ·exact h.own k hk (Nat.lt_of_le_of_ne (Nat.le_of_lt_succ hkm) hm)
theorem AN{K:List Nat}{m k:Nat}(h:k∈kA N t K m):k∈K:=by
 unfold kA at h
 split at h
 ·exact(List.mem_filter.mp h).1
 ·exact h
noncomputable def rY(N:List α)(t:Nat→List α)(m:Nat):List Nat:=(List.range m).foldl (kA N t) (List.range m)
theorem NT{m:Nat}(hs:∀ k,k<m→∀ n∈t k,n∈N)(hc:∀ n∈N,∃ k,k<m∧n∈t k):BK N t m (rY N t m)∧∀ k∈rY N t m,k<m:=by
 have go:∀ i,i≤m→BK N t i ((List.range i).foldl (kA N t) (List.range m))∧∀ k∈(List.range i).foldl (kA N t) (List.range m),k<m:=fun i=>by
  induction i with
  | zero=>exact fun _=>⟨⟨List.nodup_range,fun n hn=>let⟨k,h1,h2⟩:=hc n hn; ⟨k,List.mem_range.mpr h1,h2⟩,fun _ _ h=>absurd h (Nat.not_lt_zero _)⟩,fun k hk=>List.mem_range.mp hk⟩
  | succ i ih =>
   intro hi
   obtain⟨h1,h2⟩:=ih (Nat.le_of_succ_le hi)
   rw[List.range_succ,List.foldl_append,List.foldl_cons,List.foldl_nil]
   exact⟨H0 h1 fun k hk=>hs k (h2 k hk),fun k hk=>h2 k (AN hk)⟩
 exact go m (Nat.le_refl m)
end
end Kt.Internal
end
section
open PySem PySem.W PyProof.Rows
namespace Kt.Internal
section
variable{cl:Nat→List PyData→Option PyData}{ρ:aN}{elt:PE}{i j:PI}{c:PO}{x y:Nat}{g:PG}
theorem FA{α:Type}{f:PyData→Option (List PyData)}{k:α→PyData}{g:α→List PyData}{as:List α}(h:∀ a∈as,f (k a)=some (g a)):zF f (as.map k)=some (as.flatMap g):=by
 induction as with
 | nil=>rfl
 | cons a as ih=>exact(congrArg (Option.bind · _) (h a (.head _))).trans (congrArg (Option.map _) (ih fun a ha=>h a (.tail _ ha)))
theorem yV{α β:Type}{p:α→Bool}{g:α→List β}(as:List α):as.flatMap (fun a=>if p a then g a else [])=(as.filter p).flatMap g:=by
 induction as with
 | nil=>rfl
 | cons a as ih =>
  rw[List.flatMap_cons,ih,List.filter_cons]
  cases p a <;> rfl
theorem kL{α β:Type}(g:α→β)(l:List α):(l.flatMap fun c=>[g c])=l.map g:=by
 induction l with
 | nil=>rfl
 | cons c l ih=>rw[List.flatMap_cons,ih]; rfl
theorem nZ{α:Type}{k:α→PyData}{G:α→List PyData}{p:α→Bool}{as:List α}(hi:wO cl i ρ=some (as.map k))(hc:∀ a∈as,O0 cl c ((O1 ([x]++uL g) ρ).set x (some (k a)))=some (p a))(h:∀ a∈as,p a=true→OU cl (aD cl elt) g ((O1 ([x]++uL g) ρ).set x (some (k a)))=some (G a))(hl:((as.filter p).flatMap G).length≤1000000) :
  aD cl (.comp elt (.one x) i c g) ρ=some (.list ((as.filter p).flatMap G)):=by
 refine(congrArg (Option.bind · _) hi).trans ((congrArg (Option.bind · SF) (FA (g:=fun a=>if p a then G a else []) fun a ha=>?_)).trans ?_)
 ·refine(congrArg (Option.bind · _) (hc a ha)).trans ?_
  cases hp:p a with
  | false=>rfl
  | true=>exact h a ha hp
 ·rw[yV]
  exact w9 hl
theorem FZ{α:Type}{k:α→PyData}{G:α→List PyData}{as:List α}(hi:wO cl i ρ=some (as.map k))(h:∀ a∈as,OU cl (aD cl elt) g ((O1 ([x]++uL g) ρ).set x (some (k a)))=some (G a))(hl:(as.flatMap G).length≤1000000):aD cl (.comp elt (.one x) i .no g) ρ=some (.list (as.flatMap G)):=by
 have e:as.filter (fun _=>true)=as:=List.filter_eq_self.mpr fun _ _=>rfl
 exact(nZ (p:=fun _=>true) hi (fun _ _=>rfl) (fun a ha _=>h a ha) (e.symm▸hl)).trans (by rw[e])
theorem iD{β:Type}{k:β→PyData}{G:β→List PyData}{bs:List β}{fe:aN→Option PyData}(hj:wO cl j ρ=some (bs.map k))(h:∀ b∈bs,OU cl fe g (ρ.set y (some (k b)))=some (G b)):OU cl fe (.cons (.one y) j .no g) ρ=some (bs.flatMap G) :=
 (congrArg (Option.bind · _) hj).trans (FA fun b hb=>h b hb)
theorem nL{fe:aN→Option PyData}{d:PyData}(h:fe ρ=some d):OU cl fe .nil ρ=some [d]:=congrArg (Option.map _) h
theorem b0{α:Type}{k g:α→PyData}{p:α→Bool}{as:List α}(hi:wO cl i ρ=some (as.map k))(hc:∀ a∈as,O0 cl c ((ρ.set x none).set x (some (k a)))=some (p a))(he:∀ a∈as,p a=true→aD cl elt ((ρ.set x none).set x (some (k a)))=some (g a))(hl:as.length≤1000000) :
  aD cl (.comp elt (.one x) i c .nil) ρ=some (.list ((as.filter p).map g)):=by
 rw[← kL]
 exact nZ hi hc (fun a ha hp=>nL (he a ha hp)) (by rw[kL,List.length_map]; exact Nat.le_trans (List.length_filter_le _ _) hl)
theorem mM{α:Type}{k g:α→PyData}{as:List α}(hi:wO cl i ρ=some (as.map k))(he:∀ a∈as,aD cl elt ((ρ.set x none).set x (some (k a)))=some (g a))(hl:as.length≤1000000):aD cl (.comp elt (.one x) i .no .nil) ρ=some (.list (as.map g)) :=
 (b0 (p:=fun _=>true) hi (fun _ _=>rfl) (fun a ha _=>he a ha) hl).trans (by rw[List.filter_eq_self.mpr fun _ _=>rfl])
theorem eB{e:PE}{b:Bool}(h:aD cl e ρ=some (.bool b)):O0 cl (.yes e) ρ=some b:=congrArg (Option.bind · bV) h
theorem cL{e:PE}{ds:List PyData}(h:aD cl e ρ=some (.list ds)):wO cl (.of e) ρ=some ds:=congrArg (Option.bind · KY) h
theorem FW{a b:PE}{p q:Nat}(h1:aD cl a ρ=some (.int (p:Int)))(h2:aD cl b ρ=some (.int (q:Int)))(hp:p≤1000000)(hq:q≤1000000):aD cl (.bin .Mult a b) ρ=some (.int ((p*q:Nat):Int)) :=
 dU h1 h2 ((if_pos (Bool.and_eq_true_iff.mpr ⟨rG hp,rG hq⟩)).trans (congrArg (fun i=>some (PyData.int i)) (Int.natCast_mul p q).symm))
theorem FM{α β:Type}{body:eH→Option Fl}{bind:PyData→eH→Option eH}{k:α→PyData}{step:β→α→β}{as:List α}:∀{R:Nat→β→eH→Prop}{b:β}{σ:eH},(∀ i b a σ,as[i]? = some a→R i b σ→∃ σ₁ σ₂,bind (k a) σ=some σ₁∧body σ₁=some (.next σ₂)∧R (i+1) (step b a) σ₂) →
  R 0 b σ→∃ σ',eQ body bind (as.map k) σ=some (.next σ')∧R as.length (as.foldl step b) σ':=by
 induction as with
 | nil=>exact fun{R b σ}_ h0=>⟨σ,rfl,h0⟩
 | cons a as ih =>
  intro R b σ h h0
  obtain⟨σ₁,σ₂,h1,h2,h3⟩:=h 0 b a σ rfl h0
  obtain⟨σ',h4,h5⟩:=ih (R:=fun i=>R (i+1)) (fun i b a σ e=>h (i+1) b a σ e) h3
  exact⟨σ',(yE h1 h2).trans h4,h5⟩
end
theorem FK:jU sD:=⟨CL,fun _=>Nat.zero_le _⟩
theorem Cb(i:Int){q:Nat}(h:0<q):rM .Mod (.int i) (.int (q:Int))=some (.int ((i.fmod q).toNat:Nat))∧(i.fmod q).toNat<q:=by
 have h0:(0:Int)<(q:Int):=Int.natCast_pos.mpr h
 have e:=Int.fmod_eq_emod_of_nonneg i (Int.natCast_nonneg q)
 have h1:0≤i.fmod q:=e▸Int.emod_nonneg i (Int.ne_of_gt h0)
 have h2:i.fmod q<q:=e▸Int.emod_lt_of_pos i h0
 exact⟨(if_pos h0).trans (congrArg (fun i=>some (PyData.int i)) (Int.toNat_of_nonneg h1).symm),(Int.toNat_lt h1).mpr h2⟩
noncomputable def fK:List Nat:=("a'[ \"*\\]?#-!" : Str).cps.toList
theorem xO:(fK.length==12&&(fK.all (fun c=>wN c&&decide (c<256))&&(List.range 12).all fun i=>(List.range 12).all fun j=>!(fK.getD i 0==fK.getD j 0)||i==j))=true:=by kernel_rfl
theorem BM(q:Nat):fK[q%12]? = some (fK.getD (q%12) 0)∧wN (fK.getD (q%12) 0)=true∧fK.getD (q%12) 0<256:=by
 have h:q%12<fK.length:=eq_of_beq (aA xO).1▸Nat.mod_lt _ (by decide)
 rw[List.getD_eq_getElem?_getD,List.getElem?_eq_getElem h]
 have:=List.all_eq_true.mp (aA (aA xO).2).1 _ (List.getElem_mem h)
 exact⟨rfl,(aA this).1,of_decide_eq_true (aA this).2⟩
theorem PU{i j:Nat}(hi:i<12)(hj:j<12)(e:fK.getD i 0=fK.getD j 0):i=j:=by
 have:=List.all_eq_true.mp (List.all_eq_true.mp (aA (aA xO).2).2 i (List.mem_range.mpr hi)) j (List.mem_range.mpr hj)
 rw[e,beq_self_eq_true]at this
 exact eq_of_beq this
structure S8(S:List Nat):Prop where
 len:S.length=8
 inj:∀ i j,i<8→j<8→S.getD i 0=S.getD j 0→i=j
 ok:∀ c∈S,wN c=true
theorem S8.at{S:List Nat}(h:S8 S){k:Nat}(hk:k<8):S[k]? = some (S.getD k 0):=by rw[List.getD_eq_getElem?_getD,List.getElem?_eq_getElem (h.len.symm▸hk)]; rfl
theorem S8.sg{S:List Nat}(h:S8 S){k:Nat}(hk:k<8):wN (S.getD k 0)=true:=h.ok _ (List.mem_of_getElem? (h.at hk))
theorem XC(i:Int):XM .chr [.int i]=UH i:=rfl
theorem G0{prim:Nat→List PyData→Option PyData}{F l p:Nat}:∃ S:List Nat,S8 S∧c7 dC prim F (l+1) 0 [.int (p:Int)]=some (aG S):=by
 have hc:p / 12%50000<50000:=Nat.mod_lt _ (by decide)
 have h4:wN (256+p / 12%50000)=true:=Bool.and_eq_true_iff.mpr ⟨Bool.or_eq_true_iff.mpr (.inr (decide_eq_true (Nat.le_add_right _ _))),decide_eq_true (Nat.lt_trans (Nat.add_lt_add_left hc 256) (by decide))⟩
 have v0:aD (c7 dC prim F l) (.var 0) [some (.int (p:Int)),some (sD fK),none]=some (.int (p:Int)):=rfl
 have e1:=mM (cl:=c7 dC prim F l) (ρ:=[some (.int (p:Int)),some (sD fK),none]) (elt:=.idx (.var 1) (.bin .Mod (.bin .Add (.var 0) (.var 2)) (.lit (.int 12)))) (x:=2) (g:=fun k=>wD (fK.getD ((p+(0+k))%12) 0)) (K9 (a:=.lit (.int 7)) (q:=7) rfl (by decide)) (fun k _ =>
  yI (l:=fK) rfl (dU (y:=.int ((12:Nat):Int)) (gN (p:=p) rfl rfl) rfl (I0 (by decide))) (Nat.le_trans (Nat.le_of_lt (Nat.mod_lt _ (by decide))) (by decide)) (BM _).1) (by decide)
 rw[show((List.range 7).map fun k=>wD (fK.getD ((p+(0+k))%12) 0))=((List.range 7).map fun k=>fK.getD ((p+(0+k))%12) 0).map wD from(List.map_map (g:=wD) (f:=fun k=>fK.getD ((p+(0+k))%12) 0) (l:=List.range 7)).symm]at e1
 have d3:=gN (a:=.lit (.int 256)) (p:=256) rfl (dU (op:=.Mod) (b:=.lit (.int 50000)) (dU (op:=.FloorDiv) (b:=.lit (.int 12)) v0 rfl (J0 (q:=12) (by decide) (by decide))) rfl (I0 (q:=50000) (by decide)))
 have d4:XM .chr [.int ((256+p / 12%50000:Nat):Int)]=some (wD (256+p / 12%50000)):=by
  have hlt:((256+p / 12%50000:Nat):Int)<0xD800:=Int.ofNat_lt.mpr (of_decide_eq_true (aA h4).2)
  generalize 256+p / 12%50000=c at hlt
  rw[XC,UH,decide_eq_true (Int.natCast_nonneg c),decide_eq_true hlt,Int.toNat_natCast]; rfl
 have d5:aD (c7 dC prim F l) (.list (.cons (.bi .chr (.cons (.bin .Add (.lit (.int 256)) (.bin .Mod (.bin .FloorDiv (.var 0) (.lit (.int 12))) (.lit (.int 50000)))) .nil)) .nil)) [some (.int (p:Int)),some (sD fK),none]=some (aG [256+p / 12%50000]):=congrArg (Option.map _) (zH (D2 (zH d3) d4))
 refine⟨((List.range 7).map fun k=>fK.getD ((p+(0+k))%12) 0)++[256+p / 12%50000],⟨rfl,?_,fun c hc=>?_⟩,oV (pf:=Df) rfl rfl ((bM (kB (d:=sD fK) rfl)).trans (uX (yJ e1 d5 (Nat.le_of_ble_eq_true rfl))))⟩
 ·have g:∀ i,i<8→((List.range 8).map fun i=>if i<7 then fK.getD ((p+(0+i))%12) 0 else 256+p / 12%50000).getD i 0=if i<7 then fK.getD ((p+(0+i))%12) 0 else 256+p / 12%50000:=fun i hi=>by
   rw[List.getD_eq_getElem?_getD,List.getElem?_map,List.getElem?_range hi]; rfl
  intro i j hi hj e
  have e:=(g i hi).symm.trans ((show _=_ from e).trans (g j hj))
  rw[Nat.zero_add,Nat.zero_add]at e
  have far:∀{i},fK.getD ((p+i)%12) 0≠256+p / 12%50000:=fun e=>Nat.not_lt.mpr (Nat.le_add_right 256 _) (e▸(BM _).2.2)
  have le:∀{i j},j<7→(p+i)%12=(p+j)%12→j≤i:=fun{i j}hj e=>by
   have h:=Nat.sub_mod_eq_zero_of_mod_eq e.symm
   rw[Nat.add_sub_add_left,Nat.mod_eq_of_lt (Nat.lt_of_le_of_lt (Nat.sub_le j i) (Nat.lt_trans hj (by decide)))]at h
   exact Nat.le_of_sub_eq_zero h
  by_cases h1:i<7 <;> by_cases h2:j<7
  ·rw[if_pos h1,if_pos h2]at e
   have:=PU (Nat.mod_lt _ (by decide)) (Nat.mod_lt _ (by decide)) e
   exact Nat.le_antisymm (le h1 this.symm) (le h2 this)
  ·rw[if_pos h1,if_neg h2]at e
   exact absurd e far
  ·rw[if_neg h1,if_pos h2]at e
   exact absurd e.symm far
  ·have q:∀{i},i<8→¬i<7→i=7:=fun h h'=>Nat.le_antisymm (Nat.le_of_lt_succ h) (Nat.not_lt.mp h')
   exact(q hi h1).trans (q hj h2).symm
 ·rcases List.mem_append.mp hc with h | h
  ·obtain⟨k,_,e⟩:=List.mem_map.mp h
   exact e▸(BM _).2.1
  ·exact List.mem_singleton.mp h▸h4
noncomputable def OW(c:Nat):Bool:=c==91||(!eA c&&j7 c)
noncomputable def GB(i b:Bool)(c:Nat):List Nat:=(bif i then [91]else [])++((bif b then [92]else [])++c::(bif i then [93]else []))
noncomputable def SH(i b:Bool)(c:Nat):Nat:=bif i then 91 else bif b then 92 else c
noncomputable def T9(c:Nat):Bool:=pl c==GB (eA c) (OW c) c&&(!Txt.contains "()*+?{|^$" ⟨#[SH (eA c) (OW c) c]⟩&&(!(SH (eA c) (OW c) c==46)&&(((SH (eA c) (OW c) c==91)==eA c)&&(((bif OW c then 92 else c)==92)==OW c&&(Txt.contains "*?[" ⟨#[c]⟩==eA c)))))
theorem JE{c:Nat}(h:iS c=true):T9 c=true:=by
 rcases Bool.or_eq_true_iff.mp h with h | h
 ·exact List.all_eq_true.mp (show([97,39,91,32,34,42,92,93,63,35,45,98,33]:List Nat).all T9=true by kernel_rfl) c (List.contains_iff_mem.mp h)
 ·obtain⟨k,rfl⟩:=Nat.exists_eq_add_of_le (of_decide_eq_true h)
  rw[Nat.add_comm]
  have e:pl (k+256)=[k+256]:=by kernel_rfl
  have e2:GB (eA (k+256)) (OW (k+256)) (k+256)=[k+256]:=by kernel_rfl
  have e3:SH (eA (k+256)) (OW (k+256)) (k+256)=k+256:=by kernel_rfl
  unfold T9
  rw[e,e2,e3,beq_self_eq_true,Bool.true_and]
  kernel_rfl
theorem EU(a b:Nat):([a]==[b])=(a==b):=by
 by_cases h:a=b
 ·rw[h,beq_self_eq_true,beq_self_eq_true]
 ·rw[beq_false_of_ne h,beq_false_of_ne fun e=>h (List.cons.inj e).1]
noncomputable def IH:Option Nat→PyData
 | some c=>wD c
 | none=>.none
section
variable{cl:Nat→List PyData→Option PyData}{F:Nat}{T X Y:List Nat}{ps:List PyData}{c:Nat}{i b:Bool}{v:Option PyData}
noncomputable abbrev pS(T:List Nat)(ps:List PyData)(k:Nat)(i:Option PyData):eH:=⟨[some (sD T),some (.list ps),some (.int (k:Int)),i],[1]⟩
theorem sX(l:List Nat)(q:Nat):(X++l)[X.length+q]? = l[q]?:=by rw[List.getElem?_append_right (Nat.le_add_right _ _),Nat.add_sub_cancel_left]
theorem sV{ρ:aN}{e e':PE}{x y:Nat}{t:Bool}(h1:aD cl e ρ=some (sD [x]))(h2:aD cl e' ρ=some (sD [y]))(h:(x==y)=t):aD cl (.cmp .Eq e e') ρ=some (.bool t):=(xF h1 h2).trans (by rw[EU,h])
theorem m4{ρ:aN}{k h:Nat}(hl:T.length≤10000)(v0:aD cl (.var 0) ρ=some (sD T))(v2:aD cl (.var 2) ρ=some (.int (k:Int)))(g:T[k]? = some h):aD cl (.idx (.var 0) (.var 2)) ρ=some (wD h):=yI v0 v2 (Nat.le_trans (Nat.le_of_lt (List.getElem?_eq_some_iff.mp g).1) (Nat.le_trans hl (by decide))) g
theorem MW{k h d:Nat}(g0:T[k]? = some h)(g1:T[k+(bif i then 1 else 0)]? = some d)(g2:T[k+(bif i then 1 else 0)+(bif b then 1 else 0)]? = some c)(g3:i=true→T[k+(bif i then 1 else 0)+(bif b then 1 else 0)+(bif i then 1 else 0)]? = some 93)
  (o1:Txt.contains "()*+?{|^$" ⟨#[h]⟩=false) (o2:(h==91)=i) (o4:(h==46)=false) (o3:(d==92)=b) (hl:T.length≤10000) (ht:ps.length+1≤1000000):c8 cl F sA (pS T ps k v)=some (.next (pS T (ps++[wD c]) (k+(bif i then 1 else 0)+(bif b then 1 else 0)+(bif i then 1 else 0)+1) (some (.bool i)))) :=
 (bM (kB (sV (m4 hl rfl rfl g0) rfl o2))).trans ((bM (DS (CJ (x:=("()*+?{|^$" : Str).cps.toList) (y:=[h]) (m4 hl rfl rfl g0) rfl o1) rfl)).trans ((bM ((DS (sV (m4 hl rfl rfl g0) rfl o4) rfl).trans
  ((bM (kY rfl (yH (t:=i) (p:=1) (q:=0) rfl))).trans ((bM (kY rfl (yH (p:=1) (q:=0) (sV (m4 hl rfl rfl g1) rfl o3)))).trans ((bM (wY (d:=wD c) rfl rfl (m4 hl rfl rfl g2) rfl ht)).trans
   ((bM (kY rfl (yH (t:=i) (p:=1) (q:=0) rfl))).trans (iV (DS (d:=.bool false) ((CK (x:=i) (y:=.bool false) rfl fun hi=>LC (x:=[93]) (y:=[93]) (m4 hl rfl rfl (g3 hi)) rfl).trans (by cases i <;> rfl)) rfl)))))))).trans
   (iV (kY (q:=1) rfl rfl))))
theorem ZD(i b:Bool)(c:Nat)(Y:List Nat):(GB i b c++Y)[0]? = some (SH i b c)∧(GB i b c++Y)[bif i then 1 else 0]? = some (bif b then 92 else c)∧(GB i b c++Y)[(bif i then 1 else 0)+(bif b then 1 else 0)]? = some c ∧
  (i=true→(GB i b c++Y)[(bif i then 1 else 0)+((bif b then 1 else 0)+(bif i then 1 else 0))]? = some 93)∧(bif i then 1 else 0)+((bif b then 1 else 0)+((bif i then 1 else 0)+1))=(GB i b c).length:=by
 cases i <;> cases b <;> exact⟨rfl,rfl,rfl,fun h=>(by first | rfl | cases h),rfl⟩
theorem HC(hT:T=X++(GB i b c++Y))(o1:Txt.contains "()*+?{|^$" ⟨#[SH i b c]⟩=false)(o2:(SH i b c==91)=i)(o4:(SH i b c==46)=false)(o3:((bif b then 92 else c)==92)=b)(hl:T.length≤10000)(ht:ps.length≤10000) :
  c8 cl F sA (pS T ps X.length v)=some (.next (pS T (ps++[wD c]) (X.length+(GB i b c).length) (some (.bool i)))) :=
 have g:=ZD i b c Y
 (MW (by rw[hT]; exact(sX _ 0).trans g.1) (by rw[hT,sX]; exact g.2.1) (by rw[hT,Nat.add_assoc,sX]; exact g.2.2.1) (fun hi=>by rw[hT,Nat.add_assoc,Nat.add_assoc,sX]; exact g.2.2.2.1 hi) o1 o2 o4 o3 hl (Nat.le_trans (Nat.succ_le_succ ht) (by decide))).trans (by rw[Nat.add_assoc,Nat.add_assoc,Nat.add_assoc,g.2.2.2.2])
theorem HD(hT:T=X++46::Y)(hl:T.length≤10000)(ht:ps.length≤10000):c8 cl F sA (pS T ps X.length v)=some (.next (pS T (ps++[.none]) (X.length+1) (some (.bool false)))):=by
 have g0:T[X.length]? = some 46:=by rw[hT,show X.length=X.length+0 from rfl,sX]; rfl
 exact(bM (kB (sV (y:=91) (m4 hl rfl rfl g0) rfl rfl))).trans ((bM (DS (CJ (x:=("()*+?{|^$" : Str).cps.toList) (y:=[46]) (m4 hl rfl rfl g0) rfl (t:=false) (by kernel_rfl)) rfl)).trans ((bM ((UL (sV (y:=46) (m4 hl rfl rfl g0) rfl rfl) rfl).trans
  (iV (wY (e:=.lit .none) (d:=.none) rfl rfl rfl rfl (Nat.le_trans (Nat.succ_le_succ ht) (by decide)))))).trans (iV (kY (q:=1) rfl rfl))))
theorem DC{P B:List Nat}{m:Nat}{qs:List (Option Nat)}(hT:T=P++B)(hB:B.length=3)(hl:T.length≤10000):∀{ps:List PyData}{X:List Nat}{v:Option PyData},(∀ c,some c∈qs→wN c=true)→P=X++(qs.map pO).flatten→ps.length+qs.length≤10000 →
  ∃ v',dH (fun τ=>(aD cl D5 τ.env).bind bV) (c8 cl F sA) (m+1+qs.length) (pS T ps X.length v)=some (.next (pS T (ps++qs.map IH) P.length v')):=by
 have test:∀{ps:List PyData}{k:Nat}{v:Option PyData}{b:Bool},decide (k<P.length)=b→(aD cl D5 (pS T ps k v).env).bind bV=some b:=fun{ps k v b}h=>by
  have hs:T.length - 3=P.length:=by rw[hT,List.length_append,hB,Nat.add_sub_cancel]
  have e1:=FR (cl:=cl) (ρ:=(pS T ps k v).env) (RX (a:=.var 0) (l:=T) rfl) (b:=.lit (.int 3)) (q:=3) rfl (by rw[hT,List.length_append,hB]; exact Nat.le_add_left _ _)
  rw[hs]at e1
  exact congrArg (Option.bind · bV) (CI (a:=.var 2) (p:=k) rfl e1 h)
 induction qs with
 | nil =>
  intro ps X v _ hP _
  have hP:=hP.trans (List.append_nil X)
  exact⟨v,by rw[List.map_nil,List.append_nil,hP]; exact J9 (n:=m) (test (by rw[hP]; exact decide_eq_false (Nat.lt_irrefl _)))⟩
 | cons q qs ih =>
  intro ps X v hc hP ht
  have hP2:P=X++(pO q++(qs.map pO).flatten):=hP
  rw[List.length_cons,Nat.add_comm qs.length,← Nat.add_assoc]at ht
  have hps:ps.length≤10000:=Nat.le_trans (Nat.le_add_right _ 1) (Nat.le_trans (Nat.le_add_right _ _) ht)
  have hT2:T=X++(pO q++((qs.map pO).flatten++B)):=hT.trans (by rw[hP2,List.append_assoc,List.append_assoc])
  have st:∃ i:Bool,c8 cl F sA (pS T ps X.length v)=some (.next (pS T (ps++[IH q]) (X++pO q).length (some (.bool i))))∧0<(pO q).length:=by
   cases q with
   | none=>exact⟨false,by rw[List.length_append]; exact HD hT2 hl hps,by decide⟩
   | some c =>
    obtain⟨o0,o⟩:=aA (JE (mH (hc c (.head _))).1)
    obtain⟨o1,o⟩:=aA o
    obtain⟨o4,o⟩:=aA o
    obtain⟨o2,o⟩:=aA o
    have o0:pO (some c)=GB (eA c) (OW c) c:=eq_of_beq o0
    rw[o0]at hT2 ⊢
    exact⟨eA c,by rw[List.length_append]; exact HC hT2 (bH o1) (eq_of_beq o2) (bH o4) (eq_of_beq (aA o).1) hl hps,by cases eA c <;> cases OW c <;> exact Nat.succ_pos _⟩
  obtain⟨i,st,hpos⟩:=st
  have hlt:X.length<P.length:=by
   rw[hP2,List.length_append,List.length_append]
   exact Nat.lt_add_of_pos_right (Nat.add_pos_left hpos _)
  obtain⟨v',g⟩:=ih (ps:=ps++[IH q]) (X:=X++pO q) (v:=some (.bool i)) (fun x hx=>hc x (.tail _ hx)) (hP2.trans (List.append_assoc _ _ _).symm) (by rw[List.length_append]; exact ht)
  exact⟨v',(EA (n:=m+1+qs.length) (test (decide_eq_true hlt)) st).trans (g.trans (by rw[List.append_assoc]; rfl))⟩
end
theorem VV{i b:Bool}{c:Nat}{p:Nat→Bool}(h1:p 91=true)(h2:p 92=true)(h3:p 93=true)(h:p c=true):(GB i b c).all p=true:=by
 have e:(GB i b c).all p=((bif i then [91]else []).all p&&((bif b then [92]else []).all p&&(p c&&(bif i then [93]else []).all p))):=by unfold GB; rw[List.all_append,List.all_append]; rfl
 have g:∀(t:Bool){a:Nat},p a=true→(bif t then [a]else []).all p=true:=fun t a ha=>by
  cases t with
  | false=>rfl
  | true=>exact(Bool.and_true _).trans ha
 rw[e,h,g i h1,g b h2,g i h3]; rfl
theorem QG{qs:List (Option Nat)}(h:∀ c,some c∈qs→wN c=true):(qs.map pO).flatten.all (fun c=>decide (c<0x110000))=true:=by
 rw[List.all_flatten,List.all_map]
 refine List.all_eq_true.mpr fun q hq=>?_
 cases q with
 | none=>rfl
 | some c =>
  show(pl c).all _=true
  rw[eq_of_beq (aA (JE (mH (h c hq)).1)).1]
  exact VV rfl rfl rfl (decide_eq_true (mH (h c hq)).2)
theorem Y8{l:List Nat}(h:l.all (fun c=>decide (c<0x110000))=true)(hl:l.length≤5000):bL (R9 l)=true:=by
 refine E0 ?_ ?_
 ·rw[List.all_append,List.all_append,h]; rfl
 ·rw[List.length_append,List.length_append]; exact Nat.le_trans (Nat.add_le_add_right (Nat.add_le_add_left hl 4) 3) (by decide)
theorem HA{prim:Nat→List PyData→Option PyData}{F l:Nat}{qs:List (Option Nat)}(hc:∀ c,some c∈qs→wN c=true)(hl:qs.length≤100) :
  c7 dC prim (F+1001) (l+1) 3 [R9 (qs.map pO).flatten]=some (.list (qs.map IH)):=by
 have hp:=Nat.le_trans (BX qs) (Nat.mul_le_mul_left 5 hl)
 have hTl:([40,63,115,58]++(qs.map pO).flatten++[41,92,90]).length≤10000:=by rw[List.length_append,List.length_append]; exact Nat.le_trans (Nat.add_le_add_right (Nat.add_le_add_left hp 4) 3) (by decide)
 obtain⟨m,hm⟩:∃ m,F+1001=m+1+qs.length:=let⟨m,e⟩:=Nat.exists_eq_add_of_le (Nat.le_trans (Nat.succ_le_succ hl) (Nat.le_trans (by decide) (Nat.le_add_left 1001 F))); ⟨m,e.trans (by rw[Nat.add_comm (qs.length+1),Nat.add_comm qs.length,Nat.add_assoc])⟩
 obtain⟨v,h⟩:=DC (cl:=c7 dC prim (F+1001) l) (F:=F+1001) (m:=m) (T:=[40,63,115,58]++(qs.map pO).flatten++[41,92,90]) (P:=[40,63,115,58]++(qs.map pO).flatten) (B:=[41,92,90]) (ps:=[]) (X:=[40,63,115,58]) (v:=none) rfl rfl hTl hc rfl (by rw[List.length_nil,Nat.zero_add]; exact Nat.le_trans hl (by decide))
 rw[← hm]at h
 have ht:([40,63,115,58]++(qs.map pO).flatten++[41,92,90]).take 4=[40,63,115,58]:=rfl
 have hd:([40,63,115,58]++(qs.map pO).flatten++[41,92,90]).drop (([40,63,115,58]++(qs.map pO).flatten++[41,92,90]).length - 3)=[41,92,90]:=by
  rw[List.length_append (bs:=[41,92,90]),show([41,92,90]:List Nat).length=3 from rfl,Nat.add_sub_cancel,List.drop_left]
 show c7 dC prim (F+1001) (l+1) 3 [sD ([40,63,115,58]++(qs.map pO).flatten++[41,92,90])]=_
 generalize [40,63,115,58]++(qs.map pO).flatten++[41,92,90]=T at hTl h ht hd
 generalize ([40,63,115,58]++(qs.map pO).flatten).length=k at h
 have e1:=xF (RU (cl:=c7 dC prim (F+1001) l) (ρ:=(pS T ([]++qs.map IH) k v).env) (a:=.var 0) (l:=T) rfl (hi:=.lit (.int 4)) (q:=4) rfl (by decide)) (b:=.lit (.str ("(?s:" : Str))) (y:=[40,63,115,58]) rfl
 have e2:=xF (RV (cl:=c7 dC prim (F+1001) l) (ρ:=(pS T ([]++qs.map IH) k v).env) (a:=.var 0) (l:=T) rfl (lo:=.neg (.lit (.int 3))) (p:=3) rfl (by decide) (by decide)) (b:=.lit (.str (")\\Z" : Str))) (y:=[41,92,90]) rfl
 rw[ht,beq_self_eq_true]at e1
 rw[hd,beq_self_eq_true]at e2
 refine oV (pf:=Dc) rfl rfl ((bM (show zA (c7 dC prim (F+1001) l) (F+1001) (.nil2 1 2 (.int 4)) ⟨d7 4 [sD T],[]⟩=some (.next (pS T [] 4 none))from rfl)).trans ((bM (show zA (c7 dC prim (F+1001) l) (F+1001) (.while_ D5 sA) (pS T [] 4 none)=_ from h)).trans (uX ?_)))
 exact pC (y:=.list []) (RY e1 e2) (fun _=>rfl) fun h=>nomatch h
theorem S8.inj8{S:List Nat}(h:S8 S):rN (S.getD · 0):=fun hi hj e=>h.inj _ _ hi hj e
theorem CZ(ls:List (List Nat)):DT (ls.map sD)=some (ls.map fun l=>(⟨l.toArray⟩:Str)):=by
 induction ls with
 | nil=>rfl
 | cons l ls ih=>exact congrArg (Option.map _) ih
theorem DK{ls:List (List Nat)}(hb:ls.flatten.length≤90000):zM "" (ls.map sD)=some (sD ls.flatten):=by
 unfold zM
 rw[CZ]
 show(if _ then _ else _)=_
 rw[zV,Nat.zero_add,if_pos (Nat.le_trans hb (by decide)),vZ]
theorem vP(l:List Nat):(l.map fun c=>[c]).flatten=l:=by
 induction l with
 | nil=>rfl
 | cons c l ih=>exact congrArg (c :: ·) ih
theorem wZ{S:List Nat}(h:S.length=8){p:Nat}(hp:p<4):(S.drop (2*p)).take 2=[sgP (S.getD · 0) p false,sgP (S.getD · 0) p true]:=by
 have g:∀{k}(h:k<S.length),S.getD k 0=S[k]:=fun h=>by rw[List.getD_eq_getElem?_getD,List.getElem?_eq_getElem h]; rfl
 have h0:2*p<S.length:=h▸mW hp false
 have h1:2*p+1<S.length:=h▸mW hp true
 rw[show sgP (S.getD · 0) p false=S.getD (2*p) 0 from rfl,show sgP (S.getD · 0) p true=S.getD (2*p+1) 0 from rfl,g h0,g h1,List.drop_eq_getElem_cons h0,List.drop_eq_getElem_cons h1]
 rfl
section
variable{s:Nat→Nat}{r:List Nat}
theorem PM(hw:uJ s r){p:Nat}(hp:p<4):[sgP s p false,sgP s p true].filter r.contains=(qN s r p).toList:=by
 have w:=hw.one p hp
 unfold qN rr
 rw[if_pos hp,List.filter_cons,List.filter_cons,List.filter_nil]
 by_cases h1:r.contains (sgP s p false)=true
 ·rw[if_pos h1,if_pos h1,if_neg fun h=>w (List.contains_iff_mem.mp h1) (List.contains_iff_mem.mp h)]; rfl
 ·rw[if_neg h1,if_neg h1]
  by_cases h2:r.contains (sgP s p true)=true
  ·rw[if_pos h2,if_pos h2]; rfl
  ·rw[if_neg h2,if_neg h2]; rfl
end
theorem S8.sgP{S:List Nat}(hS:S8 S){p:Nat}(hp:p<4)(b:Bool):wN (Kt.Internal.sgP (S.getD · 0) p b)=true:=hS.sg (mW hp b)
theorem SZ{S r:List Nat}(hS:S8 S){p c:Nat}(hp:p<4)(h:qN (S.getD · 0) r p=some c):wN c=true:=by
 obtain⟨b,_,e⟩:=Option.map_eq_some_iff.mp h
 exact e▸hS.sgP hp b
section
variable{cl:Nat→List PyData→Option PyData}{ρ:aN}
theorem Ae{m:Me}{o:PE}{es:qV}{d r:PyData}{l:List PyData}(h1:aD cl o ρ=some d)(h2:iT cl es ρ=some l)(h:Bn m d l=some r):aD cl (.me m o es) ρ=some r:=(congrArg (Option.bind · _) h1).trans ((congrArg (Option.bind · _) h2).trans h)
noncomputable abbrev Cz(a p:PE):PE:=.slc a (.yes (.bin .Mult (.lit (.int 2)) p)) (.yes (.bin .Add (.bin .Mult (.lit (.int 2)) p) (.lit (.int 2))))
noncomputable abbrev iQ(s:Nat→Nat)(p:Nat):List Nat:=[sgP s p false,sgP s p true]
theorem yG{S:List Nat}(hS:S8 S){a b:PE}{p:Nat}(hp:p<4)(h1:aD cl a ρ=some (aG S))(h2:aD cl b ρ=some (.int (p:Int))):aD cl (Cz a b) ρ=some (aG (iQ (S.getD · 0) p)) :=
 have e:=FW (a:=.lit (.int 2)) (p:=2) rfl h2 (by decide) (Nat.le_trans (Nat.le_of_lt hp) (by decide))
 (FU (w:=S) (p:=2*p) (q:=2*p+2) (k:=2) h1 e (gN e (q:=2) rfl) rfl (Nat.le_trans (Nat.add_le_add_right (Nat.mul_le_mul_left 2 (Nat.le_of_lt hp)) 2) (by decide))).trans (by rw[wZ hS.len hp])
end
section
variable{cl:Nat→List PyData→Option PyData}{F:Nat}{S r:List Nat}
noncomputable abbrev kS(r S t:List Nat)(p w:Option PyData):eH:=⟨[some (aG r),some (aG S),some (sD t),p,w,none],[]⟩
theorem BW(q:Option Nat):(pq q).length≤3:=by
 cases q with
 | none=>exact Nat.le_of_ble_eq_true rfl
 | some c =>
  show(pc c).length≤3
  unfold pc
  cases eA c <;> exact Nat.le_of_ble_eq_true rfl
theorem MV(hS:S8 S)(hw:uJ (S.getD · 0) r){t:List Nat}{p:Nat}{v:Option PyData}(hp:p<4)(ht:t.length≤1000):∃ w,c8 cl F J2 (kS r S t (some (.int (p:Int))) v)=some (.next (kS r S (t++pq (qN (S.getD · 0) r p)) (some (.int (p:Int))) w)):=by
 have e1:=b0 (cl:=cl) (ρ:=(kS r S t (some (.int (p:Int))) v).env) (elt:=.var 5) (x:=5) (c:=.yes (.cmp .In (.var 5) (.var 0))) (g:=wD) (p:=r.contains) (cL (yG (a:=.var 1) (b:=.var 3) hS hp rfl rfl))
  (fun c _=>eB (zP (x:=c) (w:=r) rfl rfl)) (fun c _ _=>rfl) (Nat.le_of_ble_eq_true rfl)
 rw[PM hw hp]at e1
 generalize hq:qN (S.getD · 0) r p=q at e1
 have e2:=Ae (m:=.join) (o:=.lit (.str ("" : Str))) rfl (zH e1) (show zM "" (q.toList.map wD)=some (sD q.toList) by
  rw[show q.toList.map wD=(q.toList.map fun c=>[c]).map sD from(List.map_map (g:=sD) (f:=fun c=>[c])).symm,DK (by rw[vP]; cases q <;> exact Nat.le_of_ble_eq_true rfl),vP])
 have v7:aD cl (.var 4) (kS r S t (some (.int (p:Int))) (some (sD q.toList))).env=some (sD q.toList):=rfl
 have e3:aD cl (.ite (.cmp .Eq (.var 4) (.lit (.str ("" : Str)))) (.lit (.str ("?" : Str))) (.ite (.cmp .In (.var 4) (.lit (.str ("*?[" : Str)))) (.bin .Add (.bin .Add (.lit (.str ("[" : Str))) (.var 4)) (.lit (.str ("]" : Str)))) (.var 4))) (kS r S t (some (.int (p:Int))) (some (sD q.toList))).env=some (sD (pq q)):=by
  have c1:=xF v7 (b:=.lit (.str ("" : Str))) (y:=[]) rfl
  cases q with
  | none=>exact(pC (x:=sD [63]) (y:=.none) c1 (fun _=>rfl) fun h=>nomatch h)
  | some c =>
   have hc:=SZ hS hp hq
   have o:=(aA (aA (aA (aA (aA (JE (mH hc).1)).2).2).2).2).2
   have c2:=CJ (b:=.lit (.str ("*?[" : Str))) (x:=("*?[" : Str).cps.toList) (y:=[c]) v7 rfl (eq_of_beq o)
   have c3:=i9 (x:=[91,c]) (y:=[93]) (i9 (a:=.lit (.str ("[" : Str))) (x:=[91]) (y:=[c]) rfl v7 (Nat.le_of_ble_eq_true rfl)) (b:=.lit (.str ("]" : Str))) rfl (Nat.le_of_ble_eq_true rfl)
   refine(pC (x:=.none) c1 (fun h=>nomatch h) fun _=>pC c2 (fun _=>c3) fun _=>v7).trans ?_
   show some (bif eA c then _ else _)=some (sD (pc c))
   unfold pc
   cases eA c <;> rfl
 exact⟨some (sD q.toList),(bM (kB e2)).trans (iV (PL (p:=t) (q:=pq q) rfl e3 (Nat.le_trans (Nat.add_le_add ht (BW q)) (by decide))))⟩
theorem H9{α β:Type}(g:α→List β)(l:List α):∀ t:List β,l.foldl (fun t a=>t++g a) t=t++l.flatMap g:=by
 induction l with
 | nil=>exact fun t=>(List.append_nil t).symm
 | cons a l ih=>exact fun t=>(ih _).trans (by rw[List.flatMap_cons,List.append_assoc])
theorem NW(q:Nat):((List.range q).map fun(k:Nat)=>PyData.int ((0+k:Nat):Int))=(List.range q).map fun(k:Nat)=>PyData.int (k:Int):=List.map_congr_left fun k _=>by rw[Nat.zero_add]
theorem zO{ρ:aN}{a:PE}{q:Nat}(h:aD cl a ρ=some (.int (q:Int)))(hq:q≤1000000):wO cl (.range1 a) ρ=some ((List.range q).map fun(k:Nat)=>PyData.int (k:Int)):=(K9 h hq).trans (congrArg some (NW q))
theorem QH{prim:Nat→List PyData→Option PyData}{l:Nat}(hS:S8 S)(hw:uJ (S.getD · 0) r):c7 dC prim F (l+1) 2 [aG r,aG S]=some (sD ((OZ (S.getD · 0) r).flatMap pq)):=by
 obtain⟨σ,h,_,v,w,rfl⟩:=FM (as:=List.range 4) (k:=fun k:Nat=>.int (k:Int)) (step:=fun t p=>t++pq (qN (S.getD · 0) r p)) (R:=fun i t σ=>t.length≤3*i∧∃ v w,σ=kS r S t v w) (body:=c8 (c7 dC prim F l) F J2)
  (bind:=fun d τ=>(gJ (.one 3) d τ.env).map fun ρ=>{ env:=ρ,own:=lose τ.own (bT (.one 3)) }) (b:=[]) (σ:=kS r S [] none none) (fun i t p σ hp⟨hl,v,w,e⟩=>by
   subst e
   obtain⟨hi,e⟩:=List.getElem?_eq_some_iff.mp hp
   rw[List.length_range]at hi
   rw[List.getElem_range]at e
   subst e
   obtain⟨w',h⟩:=MV (cl:=c7 dC prim F l) (F:=F) (v:=w) hS hw hi (Nat.le_trans hl (Nat.le_trans (Nat.mul_le_mul_left 3 (Nat.le_of_lt hi)) (by decide)))
   exact⟨_,_,rfl,h,by rw[List.length_append]; exact Nat.add_le_add hl (BW _),_,_,rfl⟩) ⟨Nat.le_refl _,none,none,rfl⟩
 rw[H9,List.nil_append,show((List.range 4).flatMap fun p=>pq (qN (S.getD · 0) r p))=(OZ (S.getD · 0) r).flatMap pq from(List.flatMap_map ..).symm]at h
 exact oV (pf:=Dd) rfl rfl ((bM (kB (d:=sD []) rfl)).trans ((bM ((wX (zO (a:=.lit (.int 4)) (q:=4) rfl (by decide))).trans h)).trans (uX rfl)))
end
section
variable{cl:Nat→List PyData→Option PyData}{ρ:aN}{F:Nat}
theorem F1(xs:List PyData):PyData.eqv (.list xs) (.list [])=xs.isEmpty:=by
 rw[PyData.eqv]
 cases xs <;> rw[PyData.eqvAll] <;> first | rfl | nofun
theorem AV(d:PyData):jY d (.list [])=true:=decide_eq_true (Nat.le_trans (Nat.min_le_right _ _) (show(PyData.list []).depth≤64 by decide))
theorem OB{a:PE}{xs:List PyData}(h:aD cl a ρ=some (.list xs)):aD cl (.cmp .Eq a (.list .nil)) ρ=some (.bool xs.isEmpty) :=
 cR h (y:=.list []) rfl (by
  show(if jY _ _=true then some (PyData.bool (PyData.eqv _ _))else none)=_
  rw[AV,F1]; rfl)
theorem wE{a:PE}{xs:List PyData}(h:aD cl a ρ=some (.list xs)):aD cl (.cmp .NotEq a (.list .nil)) ρ=some (.bool !xs.isEmpty) :=
 cR h (y:=.list []) rfl (by
  show(if jY _ _=true then some (PyData.bool !(PyData.eqv _ _))else none)=_
  rw[AV,F1]; rfl)
theorem MR{q i k:Nat}(h:(List.range q)[i]? = some k):i=k∧i<q:=by
 obtain⟨hi,e⟩:=List.getElem?_eq_some_iff.mp h
 rw[List.getElem_range]at e
 exact⟨e,by rwa[List.length_range]at hi⟩
noncomputable abbrev mB(N:List (List Nat)):PyData:=.list (N.map sD)
theorem filter_nil{α:Type}{p:α→Bool}{l:List α}:(l.filter fun a=>!p a).isEmpty=l.all p:=by
 rw[Bool.eq_iff_iff,List.isEmpty_iff,List.filter_eq_nil_iff,List.all_eq_true]
 exact forall_congr' fun a=>forall_congr' fun _=>by cases p a <;> decide
theorem WW{qs:List (Option Nat)}{n:List Nat}{y t:Option PyData}{l0:PyData}(hq:qs.length=4)(hn:n.length=4) :
  aD cl (.cmp .Eq (.comp (.var 4) (.one 4) (.range1 (.lit (.int 4))) (.yes (.bool true (.cmp .IsNot (.idx (.var 0) (.var 4)) (.lit .none)) (.cmp .NotEq (.idx (.var 0) (.var 4)) (.idx (.var 3) (.var 4))))) .nil) (.list .nil)) [some (.list (qs.map IH)),some l0,t,some (sD n),y]=some (.bool (zG qs n)):=by
 refine(OB (b0 (p:=fun k=>!Dg (qs.getD k none) n[k]?) (k:=fun k:Nat=>.int (k:Int)) (g:=fun k:Nat=>.int (k:Int)) (zO (a:=.lit (.int 4)) (q:=4) rfl (by decide)) (fun k hk=>?_) (fun _ _ _=>rfl) (by decide))).trans ?_
 ·have hk:=List.mem_range.mp hk
  obtain⟨c,hc⟩:∃ c,n[k]? = some c:=⟨_,List.getElem?_eq_getElem (hn.symm▸hk)⟩
  obtain⟨q,e⟩:∃ q,qs[k]? = some q:=⟨_,List.getElem?_eq_getElem (hq.symm▸hk)⟩
  have hx:∀{ρ:aN},aD cl (.var 0) ρ=some (.list (qs.map IH))→aD cl (.var 4) ρ=some (.int (k:Int))→aD cl (.idx (.var 0) (.var 4)) ρ=some (IH q):=fun h5 h4=>LF h5 h4 (Nat.le_trans (Nat.le_of_lt hk) (by decide)) (by rw[List.getElem?_map,e]; rfl)
  rw[hc,show qs.getD k none=q by rw[List.getD_eq_getElem?_getD,e]; rfl]
  cases q with
  | none=>exact eB (CK (x:=false) (y:=.none) (cR (op:=.IsNot) (b:=.lit .none) (hx rfl rfl) rfl rfl) nofun)
  | some x=>exact(eB (b:=!([x]==[c])) (CK (x:=true) (cR (op:=.IsNot) (b:=.lit .none) (hx rfl rfl) rfl rfl) fun _=>LC (hx rfl rfl) (yI (l:=n) rfl rfl (Nat.le_trans (Nat.le_of_lt hk) (by decide)) hc))).trans (congrArg (fun b=>some !b) ((EU x c).trans (by
    show _=(some c==some x)
    rw[Bool.eq_iff_iff,beq_iff_eq,beq_iff_eq]
    exact⟨fun e=>e▸rfl,fun e=>(Option.some.inj e).symm⟩)))
 ·rw[List.isEmpty_map,filter_nil]; rfl
theorem yU{α:Type}(p:α→Bool)(l:List α):∀ t:List α,l.foldl (fun t a=>if p a then t++[a]else t) t=t++l.filter p:=by
 induction l with
 | nil=>exact fun t=>(List.append_nil t).symm
 | cons a l ih =>
  intro t
  rw[List.foldl_cons,ih,List.filter_cons]
  split
  ·exact List.append_assoc ..
  ·rfl
noncomputable abbrev tS(qs:List (Option Nat))(N T:List (List Nat))(y z:Option PyData):eH:=⟨[some (.list (qs.map IH)),some (mB N),some (mB T),y,z],[2]⟩
theorem GS{prim:Nat→List PyData→Option PyData}{l:Nat}{qs:List (Option Nat)}{N:List (List Nat)}(hq:qs.length=4)(hN:∀ n∈N,n.length=4)(hl:N.length≤1000):c7 dC prim F (l+1) 4 [.list (qs.map IH),mB N]=some (mB (N.filter (zG qs))):=by
 obtain⟨σ,h,_,y,z,rfl⟩:=FM (as:=N) (k:=sD) (step:=fun t n=>if zG qs n then t++[n]else t) (R:=fun i t σ=>t.length≤i∧∃ y z,σ=tS qs N t y z) (body:=c8 (c7 dC prim F l) F TP)
  (bind:=fun d τ=>(gJ (.one 3) d τ.env).map fun ρ=>{ env:=ρ,own:=lose τ.own (bT (.one 3)) }) (b:=[]) (σ:=tS qs N [] none none) (fun i t n σ hn⟨ht,y,z,e⟩=>by
   subst e
   have hi:i<N.length:=(List.getElem?_eq_some_iff.mp hn).1
   refine⟨tS qs N t (some (sD n)) z,tS qs N (if zG qs n then t++[n]else t) (some (sD n)) z,rfl,iV ((zJ (WW hq (hN n (List.mem_of_getElem? hn))) rfl).trans ?_),?_,_,_,rfl⟩
   ·cases zG qs n with
    | false=>rfl
    | true=>exact iV ((wY (xs:=t.map sD) (d:=sD n) rfl rfl rfl rfl (by rw[List.length_map]; exact Nat.le_trans (Nat.succ_le_succ (Nat.le_trans ht (Nat.le_trans (Nat.le_of_lt hi) hl))) (by decide))).trans (by rw[show t.map sD++[sD n]=(t++[n]).map sD by rw[List.map_append]; rfl]; rfl))
   ·split
    ·rw[List.length_append]; exact Nat.succ_le_succ ht
    ·exact Nat.le_succ_of_le ht) ⟨Nat.le_refl _,none,none,rfl⟩
 rw[yU,List.nil_append]at h
 refine oV (pf:=Db) rfl rfl ((bM (kB (d:=.list []) rfl)).trans ((bM ((wX (ds:=N.map sD) (cL (pC (t:=true) (x:=mB N) (y:=.none) ?_ (fun _=>rfl) nofun))).trans h)).trans (uX rfl)))
 exact cR (y:=.int 4) (LE (l:=qs.map IH) rfl) rfl (by rw[List.length_map,hq]; kernel_rfl)
end
section
variable(cl:Nat→List PyData→Option PyData)(F:Nat)
def N1(s:PS)(ρ ρ':aN):Prop:=∀ o,∃ o',zA cl F s ⟨ρ,o⟩=some (.next ⟨ρ',o'⟩)
def Nx(ss:kX)(ρ ρ':aN):Prop:=∀ o,∃ o',c8 cl F ss ⟨ρ,o⟩=some (.next ⟨ρ',o'⟩)
def Rx(ss:kX)(ρ:aN)(d:PyData):Prop:=∀ o,c8 cl F ss ⟨ρ,o⟩=some (.ret d)
end
section
variable{cl:Nat→List PyData→Option PyData}{F:Nat}{s:PS}{ss a b:kX}{ρ ρ' ρ₁:aN}{d:PyData}{x:Nat}{e c:PE}
theorem w8:Nx cl F .nil ρ ρ:=fun o=>⟨o,rfl⟩
theorem dD(h1:N1 cl F s ρ ρ₁)(h2:Nx cl F ss ρ₁ ρ'):Nx cl F (.cons s ss) ρ ρ':=fun o=>let⟨o₁,e1⟩:=h1 o; let⟨o₂,e2⟩:=h2 o₁; ⟨o₂,(bM e1).trans e2⟩
theorem mK(h1:N1 cl F s ρ ρ'):Nx cl F (.cons s .nil) ρ ρ':=dD h1 w8
theorem b8(h1:N1 cl F s ρ ρ₁)(h2:Rx cl F ss ρ₁ d):Rx cl F (.cons s ss) ρ d:=fun o=>let⟨o₁,e1⟩:=h1 o; (bM e1).trans (h2 o₁)
theorem BQ(h:aD cl e ρ=some d):Rx cl F (.cons (.ret e) ss) ρ d:=fun _=>uX h
theorem bK(h:aD cl e ρ=some d):N1 cl F (.assign x e) ρ (ρ.set x (some d)):=fun _=>⟨_,kB h⟩
theorem RI{p q:Nat}(hx:aY ρ x=some (.int (p:Int)))(h:aD cl e ρ=some (.int (q:Int))):N1 cl F (.aug x .Add e) ρ (ρ.set x (some (.int ((p+q:Nat):Int)))):=fun _=>⟨_,kY hx h⟩
theorem DY{t:Bool}(h:aD cl c ρ=some (.bool t))(h1:t=true→Nx cl F a ρ ρ')(h2:t=false→Nx cl F b ρ ρ'):N1 cl F (.ife c a b) ρ ρ':=fun o=>by
 rw[zJ h rfl]
 cases t with
 | true=>exact h1 rfl o
 | false=>exact h2 rfl o
theorem S6(h:aD cl c ρ=some (.bool false)):N1 cl F (.ife c a .nil) ρ ρ:=DY h nofun fun _=>w8
theorem xY{α β:Type}{i:PI}{k:α→PyData}{step:β→α→β}{as:List α}{R:Nat→β→aN→Prop}{b₀:β}(hi:wO cl i ρ=some (as.map k))
  (h:∀ i b v ρ,as[i]? = some v→R i b ρ→∃ ρ',Nx cl F a (ρ.set x (some (k v))) ρ'∧R (i+1) (step b v) ρ') (h0:R 0 b₀ ρ):∃ ρ',N1 cl F (.for_ (.one x) i a) ρ ρ'∧R as.length (as.foldl step b₀) ρ':=by
 have key:∀{as:List α}{R:Nat→β→aN→Prop}{b₀:β}{ρ:aN},(∀ i b v ρ,as[i]? = some v→R i b ρ→∃ ρ',Nx cl F a (ρ.set x (some (k v))) ρ'∧R (i+1) (step b v) ρ')→R 0 b₀ ρ →
   ∃ ρ',(∀ o,∃ o',eQ (c8 cl F a) (fun d τ=>(gJ (.one x) d τ.env).map fun ρ=>{ env:=ρ,own:=lose τ.own (bT (.one x)) }) (as.map k) ⟨ρ,o⟩=some (.next ⟨ρ',o'⟩))∧R as.length (as.foldl step b₀) ρ':=fun{as}=>by
  induction as with
  | nil=>exact fun{R b ρ}_ h0=>⟨ρ,fun o=>⟨o,rfl⟩,h0⟩
  | cons v as ih =>
   intro R b ρ h h0
   obtain⟨ρ₂,h2,h3⟩:=h 0 b v ρ rfl h0
   obtain⟨ρ',h4,h5⟩:=ih (R:=fun i=>R (i+1)) (fun i b a σ e=>h (i+1) b a σ e) h3
   exact⟨ρ',fun o=>let⟨o₁,e1⟩:=h2 (lose o (bT (.one x))); let⟨o₂,e2⟩:=h4 o₁; ⟨o₂,(yE rfl e1).trans e2⟩,h5⟩
 obtain⟨ρ',h1,h2⟩:=key h h0
 exact⟨ρ',fun o=>let⟨o',e⟩:=h1 _; ⟨o',(wX hi).trans e⟩,h2⟩
theorem BR{tab:Nat→Option PF}{prim:Nat→List PyData→Option PyData}{l f:Nat}{pf:PF}{args:List PyData}(ht:tab f=some pf)(ha:args.length=pf.arity)(h:Rx (c7 tab prim F l) F pf.body (d7 pf.size args) d):c7 tab prim F (l+1) f args=some d:=oV ht ha (h [])
end
section
variable{cl:Nat→List PyData→Option PyData}{ρ:aN}{a b i:PE}{α:Type}{D:α→PyData}{v w:List α}
theorem nK(h1:aD cl a ρ=some (.list (v.map D)))(h2:aD cl b ρ=some (.list (w.map D)))(hl:v.length+w.length≤1000000):aD cl (.bin .Add a b) ρ=some (.list ((v++w).map D)) :=
 dU h1 h2 ((w9 (by rw[← List.map_append,List.length_map,List.length_append]; exact hl)).trans (by rw[List.map_append]))
theorem yF{q:Nat}(h1:aD cl a ρ=some (.list (v.map D)))(h2:aD cl i ρ=some (.int (q:Int)))(hq:q≤1000000):aD cl (.slc a .no (.yes i)) ρ=some (.list ((v.take q).map D)):=(K7 h1 h2 hq).trans (by rw[List.map_take])
theorem FT{q:Nat}(h1:aD cl a ρ=some (.list (v.map D)))(h2:aD cl i ρ=some (.int (q:Int)))(hq:q≤1000000):aD cl (.slc a (.yes i) .no) ρ=some (.list ((v.drop q).map D)):=(K8 h1 h2 hq).trans (by rw[List.map_drop])
theorem d9{q:Nat}{x:α}(h1:aD cl a ρ=some (.list (v.map D)))(h2:aD cl i ρ=some (.int (q:Int)))(hq:q≤1000000)(h:v[q]? = some x):aD cl (.idx a i) ρ=some (D x):=LF h1 h2 hq (by rw[List.getElem?_map,h]; rfl)
theorem d8(h1:aD cl a ρ=some (.list (v.map D))):aD cl (.bi .len (.cons a .nil)) ρ=some (.int (v.length:Int)):=(LE h1).trans (by rw[List.length_map])
theorem W3{v w:List Nat}(h1:aD cl a ρ=some (aG v))(h2:aD cl b ρ=some (aG w)):aD cl (.cmp .Eq a b) ρ=some (.bool (v==w)):=cR h1 h2 (by
 show(if jY (aG v) (aG w)=true then some (PyData.bool (PyData.eqv (aG v) (aG w)))else none)=_
 rw[AU,tF]; rfl)
end
theorem wB:jU aG:=⟨tF,fun a=>Nat.le_trans (Nat.le_of_eq (wG a)) (by decide)⟩
noncomputable abbrev gS(R:List (List Nat)):PyData:=.list (R.map aG)
section
variable{s:Nat→Nat}{r q t:List Nat}{y:Nat→Bool}
theorem nW(hw:uJ s r):cH (rr s) r y↔∀ p b,p<4→sgP s p b∈r→y p=b :=
 ⟨fun h p b hp hm=>h p b ((dS hw).mpr ⟨hp,hm⟩),fun h p b e=>let⟨h1,h2⟩:=(dS hw).mp e; h p b h1 h2⟩
theorem uJ.sub(hw:uJ s q)(hn:t.Nodup)(h:∀ x∈t,x∈q):uJ s t:=⟨hn,fun x hx=>hw.of x (h x hx),fun p hp h1 h2=>hw.one p hp (h _ h1) (h _ h2)⟩
theorem uJ.add(hs:rN s)(hw:uJ s q){p:Nat}(hp:p<4)(h:∀ b,sgP s p b∉q)(b:Bool):uJ s (q++[sgP s p b]):=by
 refine⟨List.nodup_append.mpr ⟨hw.nd,List.nodup_cons.mpr ⟨List.not_mem_nil,List.nodup_nil⟩,fun x hx z hz e=>h b (List.mem_singleton.mp hz▸e▸hx)⟩,fun x hx=>(List.mem_append.mp hx).elim (hw.of x) fun e=>⟨p,b,hp,List.mem_singleton.mp e⟩,fun p' hp' h1 h2=>?_⟩
 have at_:∀{c},sgP s p' c∈q++[sgP s p b]→sgP s p' c∈q∨p'=p∧c=b:=fun hm=>(List.mem_append.mp hm).imp_right fun e=>sJ hs hp' hp (List.mem_singleton.mp e)
 rcases at_ h1 with h1 | ⟨e,h1⟩
 ·rcases at_ h2 with h2 | ⟨e,_⟩
  ·exact hw.one p' hp' h1 h2
  ·exact h false (e▸h1)
 ·rcases at_ h2 with h2 | ⟨_,h2⟩
  ·exact h true (e▸h2)
  ·exact nomatch h1.trans h2.symm
structure wS(s:Nat→Nat)(R:List (List Nat)):Prop where
 ne:R≠[]
 wf:∀ r∈R,uJ s r
 cov:∀ y,∃ r∈R,cH (rr s) r y
noncomputable def e7(s:Nat→Nat)(p:Nat)(q:List Nat):List Nat:=q.filter fun c=>!(iQ s p).contains c
noncomputable def qM(s:Nat→Nat)(p:Nat)(q:List Nat):List (List Nat):=bif e7 s p q==q then [e7 s p q++[sgP s p false],e7 s p q++[sgP s p true]]else [e7 s p q]
noncomputable def rP(s:Nat→Nat)(R:List (List Nat))(x:Nat):List (List Nat):=R.take (x%R.length)++qM s (x / R.length%4) (R.getD (x%R.length) [])++R.drop (x%R.length+1)
theorem wS.step(hs:rN s){R:List (List Nat)}(h:wS s R)(x:Nat):wS s (rP s R x):=by
 have hl:=Nat.mod_lt x (List.length_pos_iff.mpr h.ne)
 have hp:x / R.length%4<4:=Nat.mod_lt _ (by decide)
 unfold rP
 generalize x / R.length%4=p at hp
 generalize x%R.length=k at hl
 have e:R.getD k []=R[k]:=by rw[List.getD_eq_getElem?_getD,List.getElem?_eq_getElem hl]; rfl
 have hm:R[k]∈R:=List.getElem_mem hl
 rw[e]
 generalize hq:R[k]=q at hm
 have hw:=h.wf q hm
 have sub:∀ x∈e7 s p q,x∈q:=fun x hx=>(List.mem_filter.mp hx).1
 have news:qM s p q≠[]∧(∀ r∈qM s p q,uJ s r)∧∀ y,cH (rr s) q y→∃ r∈qM s p q,cH (rr s) r y:=by
  have hr:=hw.sub (hw.nd.filter _) sub
  unfold qM
  cases e:e7 s p q==q with
  | false=>exact⟨nofun,fun r hr'=>List.mem_singleton.mp hr'▸hr,fun y hy=>⟨_,.head _,(nW hr).mpr fun p b hp hm=>(nW hw).mp hy p b hp (sub _ hm)⟩⟩
  | true =>
   rw[eq_of_beq e]
   have no:∀ b,sgP s p b∉q:=fun b hm=>by
    rw[← eq_of_beq e]at hm
    have:=(List.mem_filter.mp hm).2
    cases b
    ·rw[List.contains_iff_mem.mpr (List.Mem.head _)]at this; cases this
    ·rw[List.contains_iff_mem.mpr (List.Mem.tail _ (.head _))]at this; cases this
   have ad:=fun b=>hw.add hs hp no b
   refine⟨nofun,fun r hr'=>(List.mem_cons.mp hr').elim (fun e=>e▸ad false) fun h=>List.mem_singleton.mp h▸ad true,fun y hy=>⟨q++[sgP s p (y p)],?_,(nW (ad _)).mpr fun p' b hp' hm=>?_⟩⟩
   ·cases y p
    ·exact .head _
    ·exact .tail _ (.head _)
   ·rcases List.mem_append.mp hm with hm | hm
    ·exact(nW hw).mp hy p' b hp' hm
    ·obtain⟨e1,e2⟩:=sJ hs hp' hp (List.mem_singleton.mp hm)
     rw[e1,e2]
 obtain⟨n1,n2,n3⟩:=news
 refine⟨fun e=>n1 (List.append_eq_nil_iff.mp (List.append_eq_nil_iff.mp e).1).2,fun r hr=>?_,fun y=>?_⟩
 ·rcases List.mem_append.mp hr with hr | hr
  ·exact(List.mem_append.mp hr).elim (fun hr=>h.wf r (List.mem_of_mem_take hr)) (n2 r)
  ·exact h.wf r (List.mem_of_mem_drop hr)
 ·obtain⟨r,hr,hy⟩:=h.cov y
  have e:R=R.take k++q::R.drop (k+1):=by rw[← hq,← List.drop_eq_getElem_cons hl,List.take_append_drop]
  rw[e]at hr
  rcases List.mem_append.mp hr with hr | hr
  ·exact⟨r,List.mem_append_left _ (List.mem_append_left _ hr),hy⟩
  ·rcases List.mem_cons.mp hr with rfl | hr
   ·obtain⟨r',h1,h2⟩:=n3 y hy
    exact⟨r',List.mem_append_left _ (List.mem_append_right _ h1),h2⟩
   ·exact⟨r,List.mem_append_right _ hr,hy⟩
end
end Kt.Internal
end
section
open PySem PySem.W PyProof.Rows
open Nat.Internal.Linear
namespace Kt.Internal
theorem l7{α:Type} [BEq α] [LawfulBEq α] (l:List α):∀{m:List α},l.Nodup→(∀ x∈l,x∈m)→l.length≤m.length:=by
 induction l with
 | nil=>exact fun _ _=>Nat.zero_le _
 | cons a l ih =>
  intro m h hs
  rw[List.nodup_cons]at h
  have ha:=hs a (.head _)
  have:=ih (m:=m.erase a) h.2 fun x hx=>(List.mem_erase_of_ne fun e:x=a=>h.1 (e▸hx)).mpr (hs x (.tail _ hx))
  rw[List.length_erase_of_mem ha]at this
  exact Nat.le_trans (Nat.succ_le_succ this) (Nat.le_of_eq (Nat.succ_pred_eq_of_pos (List.length_pos_of_mem ha)))
theorem uJ.len{s:Nat→Nat}{r:List Nat}(hw:uJ s r):r.length≤8:=by
 have:=l7 r (m:=(List.range 8).map s) hw.nd fun x hx=>let⟨p,b,hp,e⟩:=hw.of x hx; List.mem_map.mpr ⟨_,List.mem_range.mpr (mW hp b),e.symm⟩
 rwa[List.length_map,List.length_range]at this
noncomputable abbrev qH(ns:List Nat):PyData:=.list (ns.map fun n:Nat=>.int (n:Int))
section
variable{cl:Nat→List PyData→Option PyData}{F:Nat}{S:List Nat}
theorem K5{ρ:aN}{x:Nat}{d:PyData}(h:aY ρ x=some d):aD cl (.var x) ρ=some d:=h
theorem AR{ρ:aN}{a:PE}{x:PyData}(h1:aD cl a ρ=some x):aD cl (.list (.cons a .nil)) ρ=some (.list [x]):=congrArg (Option.map _) (zH h1)
theorem OA{ρ:aN}{a b:PE}{x y:PyData}(h1:aD cl a ρ=some x)(h2:aD cl b ρ=some y):aD cl (.list (.cons a (.cons b .nil))) ρ=some (.list [x,y]):=congrArg (Option.map _) (PC h1 h2)
noncomputable abbrev uE(ns S:List Nat)(R:List (List Nat))(x3 x4 x5 x6 x7 x8:Option PyData):aN:=[some (qH ns),some (aG S),some (gS R),x3,x4,x5,x6,x7,x8,none]
theorem j0{a b:Nat}(h:a≤b)(hb:b≤1000000:=by decide):a≤1000000:=Nat.le_trans h hb
theorem E9(s:Nat→Nat)(p:Nat)(q:List Nat):(qM s p q).length≤2:=by
 unfold qM
 cases e7 s p q==q <;> exact Nat.le_of_ble_eq_true rfl
theorem G5(hS:S8 S){ns:List Nat}{R:List (List Nat)}(h:wS (S.getD · 0) R)(hl:R.length≤100){x:Nat}{x4 x5 x6 x7 x8:Option PyData}:∃ y4 y5 y6 y7 y8,Nx cl F J3 (uE ns S R (some (.int (x:Int))) x4 x5 x6 x7 x8) (uE ns S (rP (S.getD · 0) R x) (some (.int (x:Int))) y4 y5 y6 y7 y8):=by
 have h0:=List.length_pos_iff.mpr h.ne
 have hk:=Nat.mod_lt x h0
 have hp:x / R.length%4<4:=Nat.mod_lt _ (by decide)
 have e4:=dU (op:=.Mod) (K5 (cl:=cl) (ρ:=uE ns S R (some (.int (x:Int))) x4 x5 x6 x7 x8) (x:=3) rfl) (d8 (a:=.var 2) (v:=R) (D:=aG) rfl) (I0 (p:=x) h0)
 have e5:=dU (op:=.Mod) (dU (op:=.FloorDiv) (K5 (cl:=cl) (ρ:=uE ns S R (some (.int (x:Int))) (some (.int ((x%R.length:Nat):Int))) x5 x6 x7 x8) (x:=3) rfl) (d8 (a:=.var 2) (v:=R) (D:=aG) rfl) (J0 (p:=x) h0 (j0 hl))) (b:=.lit (.int 4)) rfl (I0 (q:=4) (by decide))
 have eq:R[x%R.length]? = some (R.getD (x%R.length) []):=by rw[List.getD_eq_getElem?_getD,List.getElem?_eq_getElem hk]; rfl
 have hq:=h.wf _ (List.mem_of_getElem? eq)
 have hk':x%R.length≤1000000:=j0 (Nat.le_trans (Nat.le_of_lt hk) hl)
 have hns:=E9 (S.getD · 0) (x / R.length%4) (R.getD (x%R.length) [])
 unfold rP
 generalize R.getD (x%R.length) []=q at eq hq hns ⊢
 generalize x / R.length%4=p at e5 hp hns ⊢
 generalize x%R.length=k at e4 e5 eq hk hk' ⊢
 refine⟨_,_,_,_,_,dD (bK e4) (dD (bK e5) (dD (bK (yG (a:=.var 1) (b:=.var 5) hS hp rfl rfl)) (dD (bK (b0 (as:=q) (k:=wD) (g:=wD) (p:=fun c=>!(iQ (S.getD · 0) p).contains c) (cL (d9 (v:=R) (D:=aG) (a:=.var 2) (i:=.var 4) rfl rfl hk' eq)) (fun c _=>eB (LB (x:=c) (w:=iQ (S.getD · 0) p) rfl rfl)) (fun _ _ _=>rfl) (j0 hq.len)))
  (dD (bK (d:=gS (qM (S.getD · 0) p q)) ?_) (mK (bK (nK (v:=R.take k++qM (S.getD · 0) p q) (w:=R.drop (k+1)) (D:=aG) (nK (v:=R.take k) (w:=qM (S.getD · 0) p q) (yF (v:=R) (a:=.var 2) (i:=.var 4) rfl rfl hk') (b:=.var 8) rfl ?_) (FT (v:=R) (a:=.var 2) rfl (gN (a:=.var 4) (p:=k) (q:=1) rfl rfl) (j0 (Nat.le_trans hk hl))) ?_)))))))⟩
 ·have hr:=Nat.le_trans (List.length_filter_le (fun c=>!(iQ (S.getD · 0) p).contains c) q) hq.len
  have hb:(e7 (S.getD · 0) p q).length+1≤1000000:=j0 (Nat.succ_le_succ hr)
  refine(pC (x:=.list [aG (e7 (S.getD · 0) p q++[sgP (S.getD · 0) p false]),aG (e7 (S.getD · 0) p q++[sgP (S.getD · 0) p true])]) (y:=.list [aG (e7 (S.getD · 0) p q)]) (W3 (a:=.var 7) (v:=e7 (S.getD · 0) p q) rfl (d9 (v:=R) (D:=aG) (a:=.var 2) (i:=.var 4) rfl rfl hk' eq)) (fun _=>OA
   (yJ (a:=.var 7) (v:=e7 (S.getD · 0) p q) (w:=[sgP (S.getD · 0) p false]) rfl (FQ (w:=iQ (S.getD · 0) p) (a:=.var 6) (hi:=.lit (.int 1)) (q:=1) rfl rfl (by decide)) hb) (yJ (a:=.var 7) (v:=e7 (S.getD · 0) p q) (w:=[sgP (S.getD · 0) p true]) rfl (FS (w:=iQ (S.getD · 0) p) (a:=.var 6) (lo:=.lit (.int 1)) (p:=1) rfl rfl (by decide)) hb)) (fun _=>rfl)).trans ?_
  unfold qM
  cases e7 (S.getD · 0) p q==q <;> rfl
 ·exact j0 (Nat.add_le_add (Nat.le_trans (List.length_take_le' k R) hl) hns)
 ·rw[List.length_append]
  exact j0 (Nat.add_le_add (Nat.add_le_add (Nat.le_trans (List.length_take_le' k R) hl) hns) (Nat.le_trans (by rw[List.length_drop]; exact Nat.sub_le _ _) hl))
theorem MM{s:Nat→Nat}{R:List (List Nat)}(h:R≠[])(x:Nat):(rP s R x).length≤R.length+1:=by
 have hk:=Nat.mod_lt x (List.length_pos_iff.mpr h)
 have hc:=E9 s (x / R.length%4) (R.getD (x%R.length) [])
 unfold rP
 generalize qM s (x / R.length%4) (R.getD (x%R.length) [])=N at hc
 generalize x%R.length=k at hk
 rw[List.length_append,List.length_append,List.length_take,List.length_drop,Nat.min_eq_left (Nat.le_of_lt hk)]
 exact lL [N.length,R.length - (k+1),k,R.length] [o0,.num 2,zb o1 (ze o2),o3] (zc o2 o0 o1) (ze o3) rfl hc (XH (lL [k,R.length] [ze o0,o1] (ze o0) o1 rfl hk))
theorem G4{prim:Nat→List PyData→Option PyData}{l:Nat}(hS:S8 S){ns:List Nat}(hn:ns.length≤90):∃ R,c7 dC prim F (l+1) 1 [qH ns,aG S]=some (gS R)∧wS (S.getD · 0) R∧R.length≤ns.length+1:=by
 obtain⟨ρ,h,hR,hl,x3,x4,x5,x6,x7,x8,rfl⟩:=xY (cl:=c7 dC prim F l) (F:=F) (x:=3) (i:=TD) (a:=J3) (as:=ns) (k:=fun n:Nat=>.int (n:Int)) (step:=rP (S.getD · 0)) (b₀:=[[]]) (ρ:=uE ns S [[]] none none none none none none)
  (R:=fun i R ρ=>wS (S.getD · 0) R∧R.length≤i+1∧∃ x3 x4 x5 x6 x7 x8,ρ=uE ns S R x3 x4 x5 x6 x7 x8) (cL rfl) (fun i R x ρ hx⟨hR,hl,x3,x4,x5,x6,x7,x8,e⟩=>by
   subst e
   have hi:=(List.getElem?_eq_some_iff.mp hx).1
   obtain⟨y4,y5,y6,y7,y8,h⟩:=G5 (cl:=c7 dC prim F l) (F:=F) (ns:=ns) hS hR (x:=x) (x4:=x4) (x5:=x5) (x6:=x6) (x7:=x7) (x8:=x8) (by exact lL [ns.length,R.length,i] [o0,.num 90,o1,ze o2,ze o2,o0] o1 (.num 100) rfl hn hl hi)
   exact⟨_,h,hR.step hS.inj8 x,Nat.le_trans (MM hR.ne x) (Nat.succ_le_succ hl),_,_,_,_,_,_,rfl⟩)
  ⟨⟨nofun,fun r hr=>List.mem_singleton.mp hr▸⟨List.nodup_nil,nofun,nofun⟩,fun y=>⟨[],.head _,fun p b e=>by unfold rr at e; split at e <;> cases e⟩⟩,Nat.le_refl _,none,none,none,none,none,none,rfl⟩
 exact⟨_,BR (pf:=De) rfl rfl (b8 (bK (d:=gS [[]]) rfl) (b8 h (BQ rfl))),hR,hl⟩
end
section
variable{s:Nat→Nat}{A:List (List Nat)}{p:Nat}{c d:List Nat}
noncomputable abbrev U4:List Nat:=[0,1,2,3]
theorem gV:p∈U4↔p<4:=by
 rw[show U4=List.range 4 from rfl,List.mem_range]
structure oR(s:Nat→Nat)(A:List (List Nat)):Prop where
 wf:∀ r∈A,uJ s r
 mu:MU (rr s) A U4 fun _=>false
noncomputable def qI(s:Nat→Nat)(A:List (List Nat))(p:Nat)(b:Bool):List (List Nat):=A.filter fun r=>r.contains (sgP s p b)
theorem lH{r:List Nat}{b:Bool}:r∈qI s A p b↔r∈A∧sgP s p b∈r:=by unfold qI; rw[List.mem_filter,List.contains_iff_mem]
noncomputable def cV(s:Nat→Nat)(A:List (List Nat)):List Nat:=U4.filter (men (rr s) A)
noncomputable def pY(s:Nat→Nat)(p:Nat)(c d:List Nat):List Nat:=e7 s p (zB (c++d) [])
noncomputable def jN(s:Nat→Nat)(A:List (List Nat))(p:Nat)(c d:List Nat):List (List Nat):=A.filter (fun r=>!([c]++[d]).contains r)++[pY s p c d]
theorem nU(hs:rN s)(hp:p<4){q:Nat}(hq:q<4){b:Bool}:sgP s q b∈pY s p c d↔q≠p∧(sgP s q b∈c∨sgP s q b∈d):=by
 unfold pY e7
 rw[List.mem_filter,xG,or_iff_right List.not_mem_nil,List.mem_append,and_comm]
 refine and_congr_left fun _=>?_
 rw[Bool.not_eq_true',Bool.eq_false_iff,ne_eq,List.contains_iff_mem,List.mem_cons,List.mem_singleton]
 refine not_congr ⟨fun h=>h.elim (fun e=>(sJ hs hq hp e).1) fun e=>(sJ hs hq hp e).1,fun e=>?_⟩
 subst e
 cases b
 ·exact .inl rfl
 ·exact .inr rfl
theorem RK(hs:rN s)(C:oR s A)(hp:p<4)(h0:qI s A p false=[c])(h1:qI s A p true=[d]):oR s (jN s A p c d)∧(jN s A p c d).length+1=A.length∧(cV s (jN s A p c d)).length+1=(cV s A).length:=by
 obtain⟨cA,cm⟩:=lH.mp (h0▸List.Mem.head _:c∈qI s A p false)
 obtain⟨dA,dm⟩:=lH.mp (h1▸List.Mem.head _:d∈qI s A p true)
 have wc:=C.wf c cA
 have wd:=C.wf d dA
 have hcd:c≠d:=fun e=>wc.one p hp cm (e▸dm)
 have rc:rr s c p=some false:=(dS wc).mpr ⟨hp,cm⟩
 have rd:rr s d p=some true:=(dS wd).mpr ⟨hp,dm⟩
 have only:∀ i∈A,rr s i p≠none→i=c∨i=d:=fun i hi h=>by
  obtain⟨b,hb⟩:=(u3 (C.wf i hi) hp).mp h
  cases b with
  | false=>exact .inl (List.mem_singleton.mp (h0▸lH.mpr ⟨hi,hb⟩))
  | true=>exact .inr (List.mem_singleton.mp (h1▸lH.mpr ⟨hi,hb⟩))
 have we:uJ s (pY s p c d):=by
  refine⟨(tG _ _ List.nodup_nil).filter _,fun x hx=>?_,fun q hq hf ht=>?_⟩
  ·exact(List.mem_append.mp (((xG _ _ _).mp (List.mem_filter.mp hx).1).resolve_left List.not_mem_nil)).elim (wc.of x) (wd.of x)
  ·obtain⟨n,f⟩:=(nU hs hp hq).mp hf
   obtain⟨_,t⟩:=(nU hs hp hq).mp ht
   have no:∀{a a'},sgP s q a∈c→sgP s q a'∈d→a=a':=fun h h'=>RE C.mu (gV.mpr hp) cA rc only n ((dS wc).mpr ⟨hq,h⟩) ((dS wd).mpr ⟨hq,h'⟩)
   rcases f with f | f <;> rcases t with t | t
   ·exact wc.one q hq f t
   ·exact nomatch no f t
   ·exact nomatch no t f
   ·exact wd.one q hq f t
 have he:∀ q k,rr s (pY s p c d) q=some k↔q≠p∧(rr s c q=some k∨rr s d q=some k):=fun q k=>by
  rw[dS we,dS wc,dS wd]
  exact⟨fun⟨hq,h⟩=>((nU hs hp hq).mp h).imp_right fun h=>h.imp (⟨hq,·⟩) (⟨hq,·⟩),fun⟨n,h⟩=>have hq:=h.elim And.left And.left; ⟨hq,(nU hs hp hq).mpr ⟨n,h.imp And.right And.right⟩⟩⟩
 have hB:∀ i,i∈A.filter (fun r=>!([c]++[d]).contains r)↔i∈A∧i≠c∧i≠d:=fun i=>by
  rw[List.mem_filter,Bool.not_eq_true',Bool.eq_false_iff,ne_eq,List.contains_iff_mem,List.mem_append,List.mem_singleton,List.mem_singleton,not_or]
 have hn:=C.mu.nd.filter fun r=>!([c]++[d]).contains r
 refine⟨⟨fun r hr=>(List.mem_append.mp hr).elim (fun h=>C.wf r (uI h)) fun h=>List.mem_singleton.mp h▸we,Cc C.mu (gV.mpr hp) cA dA hcd rc rd only he hB hn⟩,?_,?_⟩
 ·have e:A.filter (fun r=>!([c]++[d]).contains r)=(A.erase c).erase d:=by
   rw[(C.mu.nd.erase c).erase_eq_filter,C.mu.nd.erase_eq_filter,List.filter_filter]
   refine List.filter_congr fun r _=>?_
   rw[Bool.eq_iff_iff,Bool.not_eq_true',Bool.eq_false_iff,ne_eq,List.contains_iff_mem,List.mem_append,List.mem_singleton,List.mem_singleton,not_or,Bool.and_eq_true,bne_iff_ne,bne_iff_ne]
   exact and_comm
  have hd':d∈A.erase c:=(List.mem_erase_of_ne hcd.symm).mpr dA
  rw[jN,List.length_append,e,List.length_erase_of_mem hd',List.length_erase_of_mem cA]
  have h1:=List.length_pos_of_mem hd'
  rw[List.length_erase_of_mem cA]at h1
  show A.length - 1 - 1+1+1=A.length
  exact nA (lL [A.length - 1,A.length,A.length - 1 - 1] [ze o0,o1,ze o2,o0] (ze (ze o2)) o1 rfl (XH (lL [A.length - 1,A.length] [vk,o0,o0,o1] vk o1 rfl h1 (Aq _ _))) (XH (lL [A.length - 1] [vk,o0] vk o0 rfl h1))) (lL [A.length,A.length - 1,A.length - 1 - 1] [o0,ze o1,o1,ze o2] o0 (ze (ze o2)) rfl (Ar _ _) (Ar _ _))
 ·have e:cV s (jN s A p c d)=(cV s A).erase p:=by
   rw[List.Nodup.erase_eq_filter (show(cV s A).Nodup from C.mu.un.filter _),cV,cV,List.filter_filter]
   refine List.filter_congr fun q _=>?_
   rw[Bool.eq_iff_iff,Bool.and_eq_true,bne_iff_ne,cE,cE]
   refine⟨fun⟨i,hi,hr⟩=>?_,fun⟨n,i,hi,hr⟩=>?_⟩
   ·rcases List.mem_append.mp hi with hi | hi
    ·obtain⟨hi,n1,n2⟩:=(hB i).mp hi
     exact⟨fun e=>(only i hi (e▸hr)).elim n1 n2,i,hi,hr⟩
    ·rw[List.mem_singleton.mp hi]at hr
     cases e:rr s (pY s p c d) q with
     | none=>exact absurd e hr
     | some k =>
      obtain⟨n,h⟩:=(he q k).mp e
      exact⟨n,h.elim (fun h=>⟨c,cA,by rw[h]; nofun⟩) fun h=>⟨d,dA,by rw[h]; nofun⟩⟩
   ·cases e:rr s i q with
    | none=>exact absurd e hr
    | some k =>
     have nw:(rr s c q=some k∨rr s d q=some k)→∃ i∈jN s A p c d,rr s i q≠none:=fun h=>⟨_,List.mem_append_right _ (.head _),by rw[(he q k).mpr ⟨n,h⟩]; nofun⟩
     by_cases h1:i=c
     ·exact nw (.inl (h1▸e))
     ·by_cases h2:i=d
      ·exact nw (.inr (h2▸e))
      ·exact⟨i,List.mem_append_left _ ((hB i).mpr ⟨hi,h1,h2⟩),hr⟩
  have hm:p∈cV s A:=List.mem_filter.mpr ⟨gV.mpr hp,cE.mpr ⟨c,cA,by rw[rc]; nofun⟩⟩
  rw[e,List.length_erase_of_mem hm]
  exact Nat.succ_pred_eq_of_pos (List.length_pos_of_mem hm)
noncomputable def rX(s:Nat→Nat)(A:List (List Nat))(p:Nat):Bool:=(qI s A p false).length==1&&(qI s A p true).length==1
theorem NP(C:oR s A)(h:∀ p,p<4→rX s A p=false)(hl:A.length=(cV s A).length+1):A=[[]]:=by
 have M:=C.mu.men
 have nil:cV s A=[]:=Classical.byContradiction fun h0=>by
  obtain⟨p,hp,c,hc,d,hd,h1,h2,h3⟩:=d1 _ A (cV s A) _ (Nat.le_refl _) M (fun p hp=>cE.mp (List.mem_filter.mp hp).2) hl h0
  have hp4:=gV.mp (uI hp)
  have one:∀{b e},e∈A→rr s e p=some b→(∀ i∈A,rr s i p=some b→i=e)→(qI s A p b).length=1:=fun{b e}he h1 h2=>by
   have:qI s A p b=[e]:=by
    unfold qI
    have q:A.filter (fun r=>r.contains (sgP s p b))=A.filter (· == e):=List.filter_congr fun i hi=>by
     rw[Bool.eq_iff_iff,List.contains_iff_mem,beq_iff_eq]
     exact⟨fun h=>h2 i hi ((dS (C.wf i hi)).mpr ⟨hp4,h⟩),fun h=>by rw[h]; exact((dS (C.wf e he)).mp h1).2⟩
    rw[q,List.filter_beq,C.mu.nd.count,if_pos he]; rfl
   rw[this]; rfl
  have:=h p hp4
  unfold rX at this
  rw[one hc h1 (fun i hi e=>(h3 i hi (by rw[e]; nofun)).resolve_right fun e'=>nomatch (e'▸e).symm.trans h2),one hd h2 (fun i hi e=>(h3 i hi (by rw[e]; nofun)).resolve_left fun e'=>nomatch (e'▸e).symm.trans h1)]at this
  exact absurd this (by decide)
 rw[nil]at hl
 obtain⟨r,rfl⟩:=List.length_eq_one_iff.mp hl
 have:r=[]:=List.eq_nil_iff_forall_not_mem.mpr fun x hx=>by
  obtain⟨p,b,hp,e⟩:=(C.wf r (.head _)).of x hx
  have:p∈cV s [r]:=List.mem_filter.mpr ⟨gV.mpr hp,cE.mpr ⟨r,.head _,(u3 (C.wf r (.head _)) hp).mpr ⟨b,e▸hx⟩⟩⟩
  rw[nil]at this
  cases this
 rw[this]
end
noncomputable def IQ(f:Nat)(args:List PyData):Option PyData:=(BH[f]?).bind fun n=>DU 1002 (wR 1002 7 SD 7) n args
theorem WO{a:List Nat}(ha:a≠[]){b:List Nat}(hb:b≠[]):qU (a++b)=qU a++32::qU b:=by
 obtain⟨y,b,rfl⟩:=List.exists_cons_of_ne_nil hb
 induction a with
 | nil=>exact absurd rfl ha
 | cons x a ih =>
  cases a with
  | nil=>rfl
  | cons z a =>
   show qw x++32::qU (z::a++y::b)=qw x++32::qU (z::a)++32::qU (y::b)
   rw[ih nofun,List.append_assoc]; rfl
theorem S8.row{S r:List Nat}(hS:S8 S)(hw:uJ (S.getD · 0) r):∀ c∈r,wN c=true:=fun c hc=>let⟨_,b,hp,e⟩:=hw.of c hc; e▸hS.sgP hp b
theorem AT{α:Type} [BEq α] {D:α→PyData} (hD:∀ a b,PyData.eqv (D a) (D b)=(a==b)):∀ a b:List α,PyData.eqvAll (a.map D) (b.map D)=(a==b)
 | [],[]=>by rw[List.map_nil,PyData.eqvAll]; rfl
 | [],_::_=>by rw[List.map_nil,List.map_cons,PyData.eqvAll] <;> first | rfl | nofun
 | _::_,[]=>by rw[List.map_nil,List.map_cons,PyData.eqvAll] <;> first | rfl | nofun
 | a::as,b::bs=>by rw[List.map_cons,List.map_cons,PyData.eqvAll,hD,AT hD]; rfl
theorem lJ:jU fun p:Nat=>PyData.int (p:Int):=⟨fun a b=>by
 show((a:Int)==(b:Int))=(a==b)
 by_cases h:a=b
 ·rw[h,beq_self_eq_true,beq_self_eq_true]
 ·rw[beq_false_of_ne h]; exact beq_false_of_ne fun e=>h (Int.ofNat.inj e),fun _=>Nat.zero_le _⟩
theorem W4{α:Type} [BEq α] [LawfulBEq α] {D:α→PyData} (hD:jU D) (d:PyData) (w:List α):jY d (.list (w.map D))=true:=decide_eq_true (Nat.le_trans (Nat.min_le_right _ _) (by rw[PyData.depth]; exact Nat.le_trans (Nat.succ_le_succ (yK hD w)) (by decide)))
theorem TJ{α:Type} [BEq α] {D:α→PyData} (hD:∀ a b,PyData.eqv (D a) (D b)=(a==b)) (v w:List α):PyData.eqv (.list (v.map D)) (.list (w.map D))=(v==w):=by rw[PyData.eqv,AT hD]
theorem LH{α:Type} [BEq α] [LawfulBEq α] {D:α→PyData} (hD:jU D) {cl:Nat→List PyData→Option PyData} {ρ:aN} {a b:PE} {v w:List α} (h1:aD cl a ρ=some (.list (v.map D))) (h2:aD cl b ρ=some (.list (w.map D))):aD cl (.cmp .Eq a b) ρ=some (.bool (v==w)):=cR h1 h2 (by
 show(if jY (.list (v.map D)) (.list (w.map D))=true then some (PyData.bool (PyData.eqv (.list (v.map D)) (.list (w.map D))))else none)=_
 rw[W4 hD,TJ hD.eqv]; rfl)
section
variable{l:Nat}
noncomputable abbrev eT(l:Nat):Nat→List PyData→Option PyData:=c7 dC IQ 1002 (l+1)
theorem RW{ρ:aN}{a b:PE}{c d:List Nat}(hc:∀ x∈c,wN x=true)(hd:∀ x∈d,wN x=true)(nc:c≠[])(nd:d≠[])(lc:c.length≤100)(ld:d.length≤100)(h1:aD (eT l) a ρ=some (aG c))(h2:aD (eT l) b ρ=some (aG d)) :
  aD (eT l) (.call 9 (.cons (.bin .Add (.bin .Add (.call 8 (.cons a .nil)) (.lit (.str (" " : Str)))) (.call 8 (.cons b .nil))) .nil)) ρ=some (aG (c++d)):=by
 have j:∀{c:List Nat},(∀ x∈c,wN x=true)→c.length≤100→eT l 8 [aG c]=some (sD (qU c)):=fun{c}h hl=>(nO rfl).trans ((show IQ 8 [aG c]=zL (c.map wD) by kernel_rfl).trans ((NU h (Nat.le_trans hl (by decide))).trans (by rw[xZ])))
 have len:∀{c:List Nat},c.length≤100→(qU c).length≤800:=fun hl=>Nat.le_trans (KW _) (Nat.mul_le_mul_left 8 hl)
 refine gD (i9 (y:=qU d) (i9 (x:=qU c) (y:=[32]) (gD h1 (j hc lc)) rfl (j0 (Nat.add_le_add_right (len lc) 1))) (gD h2 (j hd ld)) (j0 (by rw[List.length_append]; exact Nat.add_le_add (Nat.add_le_add_right (len lc) 1) (len ld)))) ?_
 rw[show qU c++[32]++qU d=qU (c++d) by rw[WO nc nd,List.append_assoc]; rfl,show sD (qU (c++d)) = .str (Str.join " " ((c++d).map qS)) by rw[xZ]]
 exact(nO rfl).trans ((show IQ 9 [.str (Str.join " " ((c++d).map qS))]=oU 1002 (Str.join " " ((c++d).map qS)) by kernel_rfl).trans (GZ (fun x hx=>(List.mem_append.mp hx).elim (hc x) (hd x)) (fun e=>nc (List.append_eq_nil_iff.mp e).1) (by rw[List.length_append]; exact Nat.le_trans (Nat.add_le_add lc ld) (by decide))))
theorem Af(r:List Nat)(h:r.length≤1000):eT l 7 [aG r]=some (aG (zB r [])):=yL yD rfl r h
noncomputable abbrev mE(A:List (List Nat))(S:List Nat)(p:Nat)(x3 x4 x5 x6:Option PyData):aN:=[some (gS A),some (aG S),some (.int (p:Int)),x3,x4,x5,x6,none,none,none,none]
theorem X4{α:Type}{l:List α}(h:(l.length==1)=true):∃ a,l=[a]:=List.length_eq_one_iff.mp (eq_of_beq h)
def MS(S:List Nat)(A:List (List Nat))(p:Nat)(ρ:aN):Prop:=∃ x3 x4 x5 x6,ρ=mE A S p x3 x4 x5 x6
def Dp(s:Nat→Nat)(A A':List (List Nat)):Prop:=oR s A'∧A'.length+(cV s A).length=A.length+(cV s A').length
theorem HR{S:List Nat}(hS:S8 S){A:List (List Nat)}(C:oR (S.getD · 0) A)(hl:A.length≤100){p:Nat}(hp:p<4){x3 x4 x5 x6:Option PyData} :
  ∃ A' p' ρ',Nx (eT l) 1002 D9 (mE A S p x3 x4 x5 x6) ρ'∧MS S A' p' ρ'∧Dp (S.getD · 0) A A'∧(A'=A∧p'=p+1∧rX (S.getD · 0) A p=false∨A'.length+1=A.length∧p'=0):=by
 have e3:=yG (cl:=eT l) (ρ:=mE A S p x3 x4 x5 x6) (a:=.var 1) (b:=.var 2) hS hp rfl rfl
 have e4:=mM (cl:=eT l) (ρ:=mE A S p (some (aG (iQ (S.getD · 0) p))) x4 x5 x6) (x:=7) (as:=iQ (S.getD · 0) p) (k:=wD) (g:=fun c=>gS (A.filter fun r=>r.contains c)) (elt:=.comp (.var 8) (.one 8) (.of (.var 0)) (.yes (.cmp .In (.var 7) (.var 8))) .nil) (cL (e:=.var 3) rfl)
  (fun c _=>b0 (as:=A) (k:=aG) (g:=aG) (p:=fun r=>r.contains c) (cL (e:=.var 0) rfl) (fun r _=>eB (zP (x:=c) (w:=r) rfl rfl)) (fun _ _ _=>rfl) (j0 hl)) (Nat.le_of_ble_eq_true rfl)
 have e5:=mM (cl:=eT l) (ρ:=mE A S (p+1) (some (aG (iQ (S.getD · 0) p))) (some (.list [gS (qI (S.getD · 0) A p false),gS (qI (S.getD · 0) A p true)])) x5 x6) (x:=9) (as:=[qI (S.getD · 0) A p false,qI (S.getD · 0) A p true]) (k:=gS) (g:=fun G=>.int (G.length:Int)) (elt:=.bi .len (.cons (.var 9) .nil)) (cL (e:=.var 4) rfl)
  (fun G _=>d8 (v:=G) (D:=aG) rfl) (Nat.le_of_ble_eq_true rfl)
 have e6:aD (eT l) (.cmp .Eq (.comp (.bi .len (.cons (.var 9) .nil)) (.one 9) (.of (.var 4)) .no .nil) (.list (.cons (.lit (.int 1)) (.cons (.lit (.int 1)) .nil)))) (mE A S (p+1) (some (aG (iQ (S.getD · 0) p))) (some (.list [gS (qI (S.getD · 0) A p false),gS (qI (S.getD · 0) A p true)])) x5 x6)=some (.bool (rX (S.getD · 0) A p)) :=
  (LH lJ (v:=[(qI (S.getD · 0) A p false).length,(qI (S.getD · 0) A p true).length]) (w:=[1,1]) e5 rfl).trans (congrArg (fun b=>some (PyData.bool b)) (by
   show((qI (S.getD · 0) A p false).length==1&&((qI (S.getD · 0) A p true).length==1&&true))=_
   rw[Bool.and_true]; rfl))
 have head:∀{ρ':aN}{ss:kX},Nx (eT l) 1002 ss (mE A S (p+1) (some (aG (iQ (S.getD · 0) p))) (some (.list [gS (qI (S.getD · 0) A p false),gS (qI (S.getD · 0) A p true)])) x5 x6) ρ' →
   Nx (eT l) 1002 (.cons (.assign 3 (Cz (.var 1) (.var 2))) (.cons (.assign 4 (.comp (.comp (.var 8) (.one 8) (.of (.var 0)) (.yes (.cmp .In (.var 7) (.var 8))) .nil) (.one 7) (.of (.var 3)) .no .nil)) (.cons (.aug 2 .Add (.lit (.int 1))) ss))) (mE A S p x3 x4 x5 x6) ρ':=fun h =>
  dD (bK e3) (dD (bK e4) (dD (RI (p:=p) (q:=1) rfl rfl) h))
 cases hb:rX (S.getD · 0) A p with
 | false=>exact⟨A,p+1,_,head (mK (DY e6 (fun h=>nomatch hb.symm.trans h) fun _=>w8)),⟨_,_,_,_,rfl⟩,⟨C,rfl⟩,.inl ⟨rfl,rfl,rfl⟩⟩
 | true =>
  obtain⟨c,hc⟩:=X4 (aA hb).1
  obtain⟨d,hd⟩:=X4 (aA hb).2
  obtain⟨M,m1,m2⟩:=RK hS.inj8 C hp hc hd
  obtain⟨cA,cm⟩:=lH.mp (hc▸List.Mem.head _:c∈qI (S.getD · 0) A p false)
  obtain⟨dA,dm⟩:=lH.mp (hd▸List.Mem.head _:d∈qI (S.getD · 0) A p true)
  have wc:=C.wf c cA
  have wd:=C.wf d dA
  rw[hc,hd]at head e6
  have i0:∀{ρ:aN},aD (eT l) (.var 4) ρ=some (.list [gS [c],gS [d]])→aD (eT l) (.idx (.var 4) (.lit (.int 0))) ρ=some (gS [c])∧aD (eT l) (.idx (.var 4) (.lit (.int 1))) ρ=some (gS [d]):=fun h =>
   ⟨d9 (v:=[[c],[d]]) (D:=gS) (q:=0) h rfl (by decide) rfl,d9 (v:=[[c],[d]]) (D:=gS) (q:=1) h rfl (by decide) rfl⟩
  have lcd:(c++d).length≤16:=by rw[List.length_append]; exact Nat.add_le_add wc.len wd.len
  have ldd:(zB (c++d) []).length≤16:=Nat.le_trans (W6 _ _) (by rw[List.length_nil,Nat.zero_add]; exact lcd)
  refine⟨jN (S.getD · 0) A p c d,0,mE (jN (S.getD · 0) A p c d) S 0 (some (aG (iQ (S.getD · 0) p))) (some (.list [gS [c],gS [d]])) (some (aG (c++d))) (some (aG (pY (S.getD · 0) p c d))),head (mK (DY e6 (fun _=>?_) fun h=>nomatch hb.symm.trans h)),⟨_,_,_,_,rfl⟩,⟨M,by exact nA (lL [(jN (fun x=>S.getD x 0) A p c d).length,A.length,(cV (fun x=>S.getD x 0) A).length,(cV (fun x=>S.getD x 0) (jN (fun x=>S.getD x 0) A p c d)).length] [ze o0,o1,o2,ze o3] (zb o0 o2) (zb o1 o3) rfl (eL m1) (eR m2)) (lL [A.length,(jN (fun x=>S.getD x 0) A p c d).length,(cV (fun x=>S.getD x 0) (jN (fun x=>S.getD x 0) A p c d)).length,(cV (fun x=>S.getD x 0) A).length] [o0,ze o1,ze o2,o3] (zb o0 o2) (zb o1 o3) rfl (eR m1) (eL m2))⟩,.inr ⟨m1,rfl⟩⟩
  refine dD (bK (RW (hS.row wc) (hS.row wd) (List.ne_nil_of_mem cm) (List.ne_nil_of_mem dm) (Nat.le_trans wc.len (by decide)) (Nat.le_trans wd.len (by decide)) (d9 (v:=[c]) (D:=aG) (i:=.lit (.int 0)) (q:=0) (i0 rfl).1 rfl (by decide) rfl) (d9 (v:=[d]) (D:=aG) (i:=.lit (.int 0)) (q:=0) (i0 rfl).2 rfl (by decide) rfl)))
   (dD (bK (b0 (x:=10) (as:=zB (c++d) []) (k:=wD) (g:=wD) (p:=fun x=>!(iQ (S.getD · 0) p).contains x) (cL (gD (a:=.var 5) rfl (Af (c++d) (Nat.le_trans lcd (by decide))))) (fun x _=>eB (LB (x:=x) (w:=iQ (S.getD · 0) p) rfl rfl)) (fun _ _ _=>rfl) (j0 ldd)))
    (dD (bK (nK (v:=A.filter fun r=>!([c]++[d]).contains r) (w:=[pY (S.getD · 0) p c d]) (D:=aG) (b0 (x:=8) (as:=A) (k:=aG) (g:=aG) (p:=fun r=>!([c]++[d]).contains r) (cL (e:=.var 0) rfl)
     (fun r _=>eB (cR (y:=gS ([c]++[d])) rfl (nK (v:=[c]) (w:=[d]) (D:=aG) (i0 rfl).1 (i0 rfl).2 (Nat.le_of_ble_eq_true rfl)) (rB wB r ([c]++[d])))) (fun _ _ _=>rfl) (j0 hl)) (AR (a:=.var 6) rfl) (j0 (Nat.succ_le_succ (Nat.le_trans (List.length_filter_le _ _) hl))))) (mK (bK rfl))))
def zS(l:Nat)(S:List Nat)(n:Nat)(A:List (List Nat))(ρ:aN):Prop:=∃ A' ρ',(∀ o,∃ o',dH (fun τ=>(aD (eT l) D4 τ.env).bind bV) (c8 (eT l) 1002 D9) n ⟨ρ,o⟩=some (.next ⟨ρ',o'⟩))∧MS S A' 4 ρ'∧Dp (S.getD · 0) A A'∧∀ q,q<4→rX (S.getD · 0) A' q=false
theorem vW{S:List Nat}{A:List (List Nat)}{p:Nat}{x3 x4 x5 x6:Option PyData}{t:Bool}(h:decide (p<4)=t):(aD (eT l) D4 (mE A S p x3 x4 x5 x6)).bind bV=some t:=congrArg (Option.bind · bV) (CI (a:=.var 2) (b:=.lit (.int 4)) (q:=4) rfl rfl h)
theorem zS.step{S:List Nat}{n:Nat}{A A':List (List Nat)}{ρ ρ':aN}(ht:(aD (eT l) D4 ρ).bind bV=some true)(h1:Nx (eT l) 1002 D9 ρ ρ')(K:A'.length+(cV (S.getD · 0) A).length=A.length+(cV (S.getD · 0) A').length)(h:zS l S n A' ρ'):zS l S (n+1) A ρ:=by
 obtain⟨A'',ρ'',g1,g2,⟨g3,g4⟩,g5⟩:=h
 exact⟨A'',ρ'',fun o=>let⟨o₁,e1⟩:=h1 o; let⟨o₂,e2⟩:=g1 o₁; ⟨o₂,(EA ht e1).trans e2⟩,g2,⟨g3,by exact nA (lL [A'.length,(cV (fun x=>S.getD x 0) A).length,A.length,(cV (fun x=>S.getD x 0) A').length,A''.length,(cV (fun x=>S.getD x 0) A'').length] [zb o0 o1,zb o2 o3,zb o4 o3,zb o0 o5] (zb o4 o1) (zb o2 o5) rfl (eL K) (eL g4)) (lL [A.length,(cV (fun x=>S.getD x 0) A').length,A'.length,(cV (fun x=>S.getD x 0) A).length,(cV (fun x=>S.getD x 0) A'').length,A''.length] [zb o0 o1,zb o2 o3,zb o2 o4,zb o5 o1] (zb o0 o4) (zb o5 o3) rfl (eR K) (eR g4))⟩,g5⟩
theorem HT{S:List Nat}(hS:S8 S):∀(n:Nat){A:List (List Nat)}{p:Nat}{ρ:aN},MS S A p ρ→oR (S.getD · 0) A→A.length≤100→p≤4→(∀ q,q<p→rX (S.getD · 0) A q=false)→5*A.length+(4 - p)<n→zS l S n A ρ:=by
 intro n
 induction n with
 | zero=>exact fun _ _ _ _ _ h=>absurd h (Nat.not_lt_zero _)
 | succ n ih =>
  intro A p ρ ⟨x3,x4,x5,x6,e⟩ C hl hp hq hn
  subst e
  by_cases h:p<4
  ·obtain⟨A',p',ρ',h1,h2,⟨h3,hk⟩,h4⟩:=HR (l:=l) hS C hl h (x3:=x3) (x4:=x4) (x5:=x5) (x6:=x6)
   refine zS.step (vW (decide_eq_true h)) h1 hk ?_
   rcases h4 with⟨rfl,rfl,g⟩| ⟨g,rfl⟩
   ·exact ih h2 h3 hl h (fun q hq'=>(Nat.lt_succ_iff_lt_or_eq.mp hq').elim (hq q) fun e=>e▸g) (by exact lL [A'.length,4 - p,n,p,4 - (p+1)] [ze (zb (.mulL 5 o0) o1),ze o2,.num 4,zb o1 o3,zb o4 (ze o3),.num 4] (ze (zb (.mulL 5 o0) o4)) o2 rfl hn (Ar _ _) (XH (lL [p] [ze o0,.num 4] (ze o0) (.num 4) rfl h)))
   ·exact ih h2 h3 (by exact lL [A.length,A'.length] [o0,.num 100,ze o1,o0] o1 (.num 100) rfl hl (eL g)) (by exact lL [] [] (.num 0) (.num 4) rfl ) nofun (by exact lL [A.length,4 - p,n,p,A'.length,4 - 0] [ze (zb (.mulL 5 o0) o1),ze o2,ze o3,.num 4,ze o4,o0,ze o4,o0,ze o4,o0,ze o4,o0,ze o4,o0,.num 4,zb o1 o3,o5,.num 4] (ze (zb (.mulL 5 o4) o5)) o2 rfl hn h (eL g) (eL g) (eL g) (eL g) (eL g) (Ar _ _) (Aq _ _))
  ·cases Nat.le_antisymm hp (Nat.not_lt.mp h)
   exact⟨A,_,fun o=>⟨o,J9 (vW rfl)⟩,⟨_,_,_,_,rfl⟩,⟨C,rfl⟩,hq⟩
theorem DG{S:List Nat}(hS:S8 S){A:List (List Nat)}(C:oR (S.getD · 0) A)(hl:A.length≤100):∃ A',c7 dC IQ 1002 (l+2) 5 [gS A,aG S]=some (gS A')∧(A'=[[]]↔A.length=(cV (S.getD · 0) A).length+1):=by
 obtain⟨A',_,h1,⟨y3,y4,y5,y6,rfl⟩,⟨h2,h3⟩,h4⟩:=HT (l:=l) hS 1002 (p:=0) ⟨none,none,none,none,rfl⟩ C hl (by decide) nofun (by exact lL [A.length,4 - 0] [o0,.num 100,o0,.num 100,o0,.num 100,o0,.num 100,o0,.num 100,o1,.num 4] (ze (zb (.mulL 5 o0) o1)) (.num 1002) rfl hl hl hl hl hl (Aq _ _))
 refine⟨A',BR (pf:=Da) rfl rfl (b8 (bK (d:=.int 0) rfl) (b8 (ρ₁:=mE A' S 4 y3 y4 y5 y6) (fun o=>h1 o) (BQ rfl))),fun e=>?_,fun e=>NP h2 h4 (by exact nA (lL [A'.length,(cV (fun x=>S.getD x 0) A).length,A.length,(cV (fun x=>S.getD x 0) A').length] [zb o0 o1,zb o2 o3,o2,ze o1] o0 (ze o3) rfl (eL h3) (eL e)) (lL [A.length,(cV (fun x=>S.getD x 0) A').length,A'.length,(cV (fun x=>S.getD x 0) A).length] [zb o0 o1,zb o2 o3,ze o3,o0] (ze o1) o2 rfl (eR h3) (eR e)))⟩
 have:(cV (S.getD · 0) A').length=0:=by
  subst e
  rfl
 subst e
 rw[this]at h3
 rw[List.length_cons,List.length_nil]at h3
 exact nA (lL [A.length,(cV (fun x=>S.getD x 0) A).length] [zb o0 (.num 0),zb (ze (.num 0)) o1] o0 (ze o1) rfl (eR h3)) (lL [(cV (fun x=>S.getD x 0) A).length,A.length] [zb (ze (.num 0)) o0,zb o1 (.num 0)] (ze o0) o1 rfl (eL h3))
end
end Kt.Internal
end
section
open PySem PySem.W PyProof.Rows
namespace Kt.Internal
section
variable{s:Nat→Nat}{A R:List (List Nat)}{K:List Nat}
noncomputable def tk1(s:Nat→Nat)(R:List (List Nat))(k:Nat):List (List Nat):=BB s (R.getD k [])
theorem Ah(hs:rN s)(hR:wS s R)(H:BK (iR s) (tk1 s R) R.length K)(hK:∀ k∈K,k<R.length):oR s (K.map (R.getD · [])):=by
 have at_:∀{k},k∈K→R.getD k []∈R:=fun{k}hk=>by
  rw[List.getD_eq_getElem?_getD,List.getElem?_eq_getElem (hK k hk)]
  exact List.getElem_mem _
 have own:∀{k},k∈K→∃ n∈iR s,n∈tk1 s R k∧∀ j∈K,n∈tk1 s R j→j=k:=fun{k}hk=>by
  obtain⟨n,hn,h⟩:=H.own k hk (hK k hk)
  obtain⟨j,hj,h'⟩:=H.cov n hn
  exact⟨n,hn,h j hj h'▸h',h⟩
 have wf:∀ r∈K.map (R.getD · []),uJ s r:=fun r hr=>let⟨k,hk,e⟩:=List.mem_map.mp hr; e▸hR.wf _ (at_ hk)
 have nd:(K.map (R.getD · [])).Nodup:=List.pairwise_map.mpr (List.Pairwise.imp_of_mem (fun{a b}ha hb hab e=>hab (by
  obtain⟨n,_,h1,h2⟩:=own ha
  exact(h2 b hb (show n∈BB s (R.getD b [])from e▸h1)).symm)) H.nd)
 refine⟨wf,nd,by decide,fun y _=>?_,fun i hi=>?_⟩
 ·obtain⟨k,hk,h⟩:=H.cov _ (lG.mpr ⟨y,rfl⟩)
  exact⟨_,List.mem_map_of_mem hk,(w0 hs).mp h⟩
 ·obtain⟨k,hk,rfl⟩:=List.mem_map.mp hi
  obtain⟨n,hn,h1,h2⟩:=own hk
  obtain⟨y,rfl⟩:=lG.mp hn
  have lt:∀{r p b},rr s r p=some b→p<4:=fun{r p b}h=>Decidable.byContradiction fun e=>by unfold rr at h; rw[if_neg e]at h; cases h
  have key:∀{r},cH (rr s) r (fun p=>if p<4 then y p else false)↔cH (rr s) r y:=fun{r}=>⟨fun h p b e=>(if_pos (lt e)).symm.trans (h p b e),fun h p b e=>(if_pos (lt e)).trans (h p b e)⟩
  refine⟨_,fun p hp=>if_neg fun h=>hp (gV.mpr h),key.mpr ((w0 hs).mp h1),fun j hj hne h=>?_⟩
  obtain⟨k',hk',rfl⟩:=List.mem_map.mp hj
  exact hne (by rw[h2 k' hk' ((w0 hs).mpr (key.mp h))])
theorem W9(C:oR s A){T:List Nat}(hT:T.Nodup)(hTU:∀ p∈T,p∈cV s A)(h0:T≠[]):T.length<(A.filter fun r=>!(r.filter (T.flatMap (iQ s)).contains).isEmpty).length:=by
 have e:A.filter (fun r=>!(r.filter (T.flatMap (iQ s)).contains).isEmpty)=A.filter (OT (rr s) T):=List.filter_congr fun r hr=>by
  have hw:=C.wf r hr
  rw[Bool.eq_iff_iff,Bool.not_eq_true',Bool.eq_false_iff,ne_eq,List.isEmpty_iff,List.filter_eq_nil_iff,OT,List.any_eq_true]
  have i1:∀ p∈T,(rr s r p).isSome=true↔∃ b,sgP s p b∈r:=fun p hp=>by
   rw[← u3 hw (gV.mp (uI (hTU p hp))),ne_eq,← Option.not_isSome_iff_eq_none,Classical.not_not]
  refine⟨fun h=>Classical.byContradiction fun no=>h fun x hx hm=>?_,fun⟨p,hp,h⟩h'=>?_⟩
  ·obtain⟨p,hp,hx'⟩:=List.mem_flatMap.mp (List.contains_iff_mem.mp hm)
   refine no ⟨p,hp,(i1 p hp).mpr ?_⟩
   rcases List.mem_cons.mp hx' with e | e
   ·exact⟨false,e▸hx⟩
   ·exact⟨true,List.mem_singleton.mp e▸hx⟩
  ·obtain⟨b,hb⟩:=(i1 p hp).mp h
   refine h' _ hb (List.contains_iff_mem.mpr (List.mem_flatMap.mpr ⟨p,hp,?_⟩))
   cases b
   ·exact .head _
   ·exact .tail _ (.head _)
 rw[e]
 exact JB C.mu C.mu.un (fun _ h=>h) hT (fun p hp=>uI (hTU p hp)) h0 fun p hp=>cE.mp (List.mem_filter.mp (hTU p hp)).2
theorem V6(C:oR s A):U4.filter (fun p=>A.flatten.contains (sgP s p false)||A.flatten.contains (sgP s p true))=cV s A:=List.filter_congr fun p hp=>by
 have hp:=gV.mp hp
 rw[Bool.eq_iff_iff,Bool.or_eq_true,List.contains_iff_mem,List.contains_iff_mem,List.mem_flatten,List.mem_flatten,cE]
 refine⟨fun h=>h.elim (fun⟨r,h1,h2⟩=>⟨r,h1,(u3 (C.wf r h1) hp).mpr ⟨_,h2⟩⟩) fun⟨r,h1,h2⟩=>⟨r,h1,(u3 (C.wf r h1) hp).mpr ⟨_,h2⟩⟩,fun⟨r,h1,h2⟩=>?_⟩
 obtain⟨b,hb⟩:=(u3 (C.wf r h1) hp).mp h2
 cases b
 ·exact .inl ⟨r,h1,hb⟩
 ·exact .inr ⟨r,h1,hb⟩
noncomputable def IP(P:List Nat)(m:Nat):List Nat:=(List.range P.length).filter fun j=>m / 2 ^ j%2==1
theorem VC{P:List Nat}{m:Nat}(h0:m≠0)(h:m<2 ^ P.length):IP P m≠[]:=by
 obtain⟨i,hi⟩:=Nat.exists_testBit_of_ne_zero h0
 have:i<P.length:=(Nat.pow_lt_pow_iff_right (by decide:1<2)).mp (Nat.lt_of_le_of_lt (Nat.ge_two_pow_of_testBit hi) h)
 refine List.ne_nil_of_mem (a:=i) (List.mem_filter.mpr ⟨List.mem_range.mpr this,?_⟩)
 rwa[Nat.testBit_eq_decide_div_mod_eq]at hi
theorem P0{P:List Nat}(hP:P.Nodup)(m:Nat):((IP P m).map (P.getD · 0)).Nodup∧∀ p∈(IP P m).map (P.getD · 0),p∈P:=by
 have at_:∀{j},j∈IP P m→∃ h:j<P.length,P.getD j 0=P[j]:=fun hj=>by
  have h:=List.mem_range.mp (uI hj)
  exact⟨h,by rw[List.getD_eq_getElem?_getD,List.getElem?_eq_getElem h]; rfl⟩
 refine⟨List.pairwise_map.mpr (List.Pairwise.imp_of_mem (fun{a b}ha hb hab e=>hab (by
  obtain⟨h1,e1⟩:=at_ ha
  obtain⟨h2,e2⟩:=at_ hb
  exact(List.getElem?_inj h1 hP).mp (by rw[List.getElem?_eq_getElem h1,List.getElem?_eq_getElem h2,e1.symm.trans (e.trans e2)]))) (List.nodup_range.filter _)),fun p hp=>?_⟩
 obtain⟨j,hj,e⟩:=List.mem_map.mp hp
 obtain⟨h1,e1⟩:=at_ hj
 exact e▸e1▸List.getElem_mem h1
end
section
variable{cl:Nat→List PyData→Option PyData}{ρ:aN}{a b:PE}
theorem W1{p q:Nat}(h1:aD cl a ρ=some (.int (p:Int)))(h2:aD cl b ρ=some (.int (q:Int)))(hp:p≤1000000)(hq:q≤1000000):wO cl (.range2 a b) ρ=some ((List.range (q - p)).map fun(k:Nat)=>PyData.int ((p+k:Nat):Int)):=by
 have ok:∀{q:Nat},q≤1000000→lA (q:Int)=true:=fun hq=>Bool.and_eq_true_iff.mpr ⟨decide_eq_true (Int.natCast_nonneg _),decide_eq_true (Int.le_trans (Int.ofNat_le.mpr hq) (by decide))⟩
 refine(congrArg (Option.bind · _) h1).trans ((congrArg (Option.bind · _) h2).trans ((if_pos (Bool.and_eq_true_iff.mpr ⟨ok hp,ok hq⟩)).trans (congrArg some ?_)))
 unfold IK
 rw[rangeSize_nat,Int.toNat_natCast,show((q:Int) - (p:Int)).toNat=q - p from Int.toNat_sub q p]
 exact congrArg (List.map · _) (funext fun k=>by rw[Int.mul_one,Int.natCast_add])
theorem W2{q:Nat}(h:aD cl a ρ=some (.int (q:Int)))(hq:q≤1000000):aD cl (.lrg a) ρ=some (qH (List.range q)):=by
 have e:=zO h hq
 rw[show wO cl (.range1 a) ρ=Option.bind (aD cl a ρ) (fun d=>iU d fun n=>if lA n then some (IK 0 n 1)else none)from rfl,h]at e
 refine(congrArg (Option.bind · _) h).trans ?_
 refine y9 e fun hr e=>?_
 exact(if_pos hr).trans (congrArg (fun l=>some (PyData.list l)) e)
theorem FV{p q:Nat}(h1:aD cl a ρ=some (.int (p:Int)))(h2:aD cl b ρ=some (.int (q:Int)))(hp:p≤1000000)(hq:q≤1024):aD cl (.bin .Pow a b) ρ=some (.int ((p ^ q:Nat):Int)) :=
 dU h1 h2 ((if_pos (Bool.and_eq_true_iff.mpr ⟨Bool.and_eq_true_iff.mpr ⟨rG hp,decide_eq_true (Int.natCast_nonneg q)⟩,decide_eq_true (Int.ofNat_le.mpr hq)⟩)).trans (congrArg (fun i=>some (PyData.int i)) (by rw[Int.toNat_natCast,Int.natCast_pow])))
theorem LD{p q:Nat}(h1:aD cl a ρ=some (.int (p:Int)))(h2:aD cl b ρ=some (.int (q:Int))):aD cl (.cmp .NotEq a b) ρ=some (.bool (p != q)):=cR h1 h2 (by
 show(if jY (.int (p:Int)) (.int (q:Int))=true then some (PyData.bool !(PyData.eqv (.int (p:Int)) (.int (q:Int))))else none)=_
 rw[n6 (lJ.dep p),lJ.eqv]; rfl)
theorem LG{p q:Nat}(h1:aD cl a ρ=some (.int (p:Int)))(h2:aD cl b ρ=some (.int (q:Int))):aD cl (.cmp .Eq a b) ρ=some (.bool (p==q)):=cR h1 h2 (by
 show(if jY (.int (p:Int)) (.int (q:Int))=true then some (PyData.bool (PyData.eqv (.int (p:Int)) (.int (q:Int))))else none)=_
 rw[n6 (lJ.dep p),lJ.eqv]; rfl)
theorem FX{α:Type} [BEq α] [LawfulBEq α] {D:α→PyData} (hD:jU D) {x:α} {w:List α} (h1:aD cl a ρ=some (D x)) (h2:aD cl b ρ=some (.list (w.map D))):aD cl (.cmp .In a b) ρ=some (.bool (w.contains x)):=cR h1 h2 (X5 hD x w)
theorem N9{α:Type} [BEq α] [LawfulBEq α] {D:α→PyData} (hD:jU D) {x:α} {w:List α} (h1:aD cl a ρ=some (D x)) (h2:aD cl b ρ=some (.list (w.map D))):aD cl (.cmp .NotIn a b) ρ=some (.bool (!w.contains x)):=cR h1 h2 (rB hD x w)
theorem LA{x y:Bool}(h1:aD cl a ρ=some (.bool x))(h2:aD cl b ρ=some (.bool y)):aD cl (.bool false a b) ρ=some (.bool (x||y)):=(congrArg (Option.bind · _) h1).trans (by cases x with | true=>rfl | false=>exact h2)
theorem t5:∀ w:List Nat,PyData.depthAll (w.map fun n:Nat=>PyData.int (n:Int))=0
 | []=>by rw[List.map_nil,PyData.depthAll]
 | a::as=>by rw[List.map_cons,PyData.depthAll,t5 as,PyData.depth] <;> first | rfl | nofun
theorem AQ:jU qH:=⟨fun a b=>TJ lJ.eqv a b,fun w=>by rw[qH,PyData.depth,t5]; decide⟩
end
section
variable{l:Nat}{S:List Nat}{R:List (List Nat)}{K:List Nat}
noncomputable abbrev lE(x0 x1 x2 x3 x4 x5 x6 x7 x8 x9 x10 x11 x12 x13 x14 x15:Option PyData):aN:=[x0,x1,x2,x3,x4,x5,x6,x7,x8,x9,x10,x11,x12,x13,x14,x15,none,none,none,none,none,none,none,none,none,none]
variable{x0 x1 x2 x3 x4 x5 x6 x7 x8 x9 x10 x11 x12 x13 x14 x15:Option PyData}
theorem xX(s:Nat→Nat):(iR s).length=16:=rfl
theorem ZT{s:Nat→Nat}:∀ n∈iR s,n.length=4:=fun n hn=>by
 obtain⟨y,rfl⟩:=lG.mp hn
 rfl
theorem PQ(s:Nat→Nat)(r:List Nat):(BB s r).length≤16:=List.length_filter_le _ _
theorem PT(hS:S8 S){r:List Nat}(hw:uJ (S.getD · 0) r){ρ:aN}{a b c:PE}(ha:aD (eT (l+1)) a ρ=some (aG r))(hb:aD (eT (l+1)) b ρ=some (aG S))(hc:aD (eT (l+1)) c ρ=some (mB (iR (S.getD · 0)))) :
  aD (eT (l+1)) (.call 4 (.cons (.call 3 (.cons (.call 10 (.cons (.call 2 (.cons a (.cons b .nil))) .nil)) .nil)) (.cons c .nil))) ρ=some (mB (BB (S.getD · 0) r)):=by
 have hq:∀ c,some c∈OZ (S.getD · 0) r→wN c=true:=fun c h=>by
  obtain⟨p,hp,e⟩:=List.mem_map.mp h
  exact SZ hS (List.mem_range.mp hp) e
 have hl:(OZ (S.getD · 0) r).length=4:=rfl
 have c2:=kM (f:=2) ha hb (QH (prim:=IQ) (F:=1002) (l:=l+1) hS hw)
 unfold BB
 generalize OZ (S.getD · 0) r=qs at hq hl c2 ⊢
 have hb:(qs.flatMap pq).length≤12:=Nat.le_trans (xD fun q _=>BW q) (by rw[hl]; decide)
 have c10:eT (l+1) 10 [sD (qs.flatMap pq)]=some (R9 (qs.map pO).flatten) :=
  (nO rfl).trans ((show IQ 10 [sD (qs.flatMap pq)]=oS 1002 ⟨(qs.flatMap pq).toArray⟩ by kernel_rfl).trans (A0 (F:=1000) (by rw[hl]; decide) (Nat.lt_of_le_of_lt hb (by decide)) (Nat.le_refl _) (Y8 (QG hq) (Nat.le_trans (BX qs) (by rw[hl]; decide)))))
 exact kM (gD (gD c2 c10) (HA (prim:=IQ) (F:=1) (l:=l+1) hq (by rw[hl]; decide))) hc (GS hl ZT (by rw[xX]; decide))
noncomputable abbrev IN(s:Nat→Nat)(R:List (List Nat)):PyData:=.list ((R.map (BB s)).map mB)
theorem R3(a b:List (List Nat))(ha:a.length≤1000)(hb:b.length≤1000):eT l 11 [mB a,mB b]=some (.bool (l3 a b)) :=
 (nO rfl).trans ((show IQ 11 [mB a,mB b]=I7 (wR 1002 7 SD 7) (a.map sD) (b.map sD) by kernel_rfl).trans (R4 FK a b ha hb))
theorem KA{s:Nat→Nat}{ρ:aN}{i:PE}{k:Nat}(hk:k<R.length)(hR:R.length≤100)(h:aD (eT l) (.var 6) ρ=some (IN s R))(hi:aD (eT l) i ρ=some (.int (k:Int))):aD (eT l) (.idx (.var 6) i) ρ=some (mB (tk1 s R k)) :=
 d9 (v:=R.map (BB s)) (D:=mB) h hi (j0 (Nat.le_trans (Nat.le_of_lt hk) hR)) (by rw[List.getElem?_map,tk1,List.getD_eq_getElem?_getD,List.getElem?_eq_getElem hk]; rfl)
theorem UV{s:Nat→Nat}(K:List Nat):(K.flatMap (tk1 s R)).length≤K.length*16:=xD fun k _=>PQ _ _
theorem H1{s:Nat→Nat}(hR:R.length≤16){r:Nat}(hK:∀ k∈K,k<R.length)(hl:K.length≤16) :
  ∃ y14,Nx (eT l) 1002 D7 (lE x0 x1 x2 x3 x4 (some (mB (iR s))) (some (IN s R)) (some (qH K)) (some (.int (r:Int))) x9 x10 x11 x12 x13 x14 x15) (lE x0 x1 x2 x3 x4 (some (mB (iR s))) (some (IN s R)) (some (qH (kA (iR s) (tk1 s R) K r))) (some (.int (r:Int))) x9 x10 x11 x12 x13 y14 x15):=by
 have hb:((K.filter (· != r)).flatMap (tk1 s R)).length≤256:=Nat.le_trans (UV _) (Nat.mul_le_mul_right 16 (Nat.le_trans (List.length_filter_le _ _) hl))
 have e1:=nZ (cl:=eT l) (ρ:=lE x0 x1 x2 x3 x4 (some (mB (iR s))) (some (IN s R)) (some (qH K)) (some (.int (r:Int))) x9 x10 x11 x12 x13 x14 x15) (elt:=.var 22) (x:=23) (c:=.yes (.cmp .NotEq (.var 23) (.var 8))) (g:=.cons (.one 22) (.of (.idx (.var 6) (.var 23))) .no .nil) (as:=K) (k:=fun k:Nat=>.int (k:Int)) (p:=(· != r)) (G:=fun k=>(tk1 s R k).map sD) (cL (e:=.var 7) rfl)
  (fun k _=>eB (LD (p:=k) (q:=r) rfl rfl)) (fun k hk _=>(iD (k:=sD) (bs:=tk1 s R k) (G:=fun n=>[sD n]) (cL (KA (hK k hk) (Nat.le_trans hR (by decide)) rfl rfl)) fun n _=>nL rfl).trans (by rw[kL])) (by rw[← List.map_flatMap,List.length_map]; exact j0 hb)
 rw[← List.map_flatMap]at e1
 refine⟨some (mB ((K.filter (· != r)).flatMap (tk1 s R))),dD (bK e1) (mK ?_)⟩
 unfold kA
 refine DY (kM (a:=.var 14) (b:=.var 5) rfl rfl (R3 _ _ (Nat.le_trans hb (by decide)) (by rw[xX]; decide))) (fun h=>?_) fun h=>?_
 ·rw[if_pos h]
  exact mK (bK (b0 (x:=23) (as:=K) (k:=fun k:Nat=>.int (k:Int)) (g:=fun k:Nat=>.int (k:Int)) (p:=(· != r)) (cL (e:=.var 7) rfl) (fun k _=>eB (LD (p:=k) (q:=r) rfl rfl)) (fun _ _ _=>rfl) (j0 hl)))
 ·rw[if_neg (by rw[h]; nofun)]
  exact w8
theorem H2{s:Nat→Nat}(hR:R.length≤16):∃ y8 y14,N1 (eT l) 1002 (.for_ (.one 8) JU D7) (lE x0 x1 x2 x3 (some (gS R)) (some (mB (iR s))) (some (IN s R)) (some (qH (List.range R.length))) x8 x9 x10 x11 x12 x13 x14 x15) (lE x0 x1 x2 x3 (some (gS R)) (some (mB (iR s))) (some (IN s R)) (some (qH (rY (iR s) (tk1 s R) R.length))) y8 x9 x10 x11 x12 x13 y14 x15):=by
 obtain⟨ρ,h,_,_,y8,y14,rfl⟩:=xY (cl:=eT l) (F:=1002) (x:=8) (i:=JU) (a:=D7) (as:=List.range R.length) (k:=fun n:Nat=>.int (n:Int)) (step:=kA (iR s) (tk1 s R)) (b₀:=List.range R.length) (ρ:=lE x0 x1 x2 x3 (some (gS R)) (some (mB (iR s))) (some (IN s R)) (some (qH (List.range R.length))) x8 x9 x10 x11 x12 x13 x14 x15)
  (R:=fun i K ρ=>(∀ k∈K,k<R.length)∧K.length≤16∧∃ y8 y14,ρ=lE x0 x1 x2 x3 (some (gS R)) (some (mB (iR s))) (some (IN s R)) (some (qH K)) y8 x9 x10 x11 x12 x13 y14 x15) (zO (d8 (a:=.var 4) (v:=R) (D:=aG) rfl) (j0 hR)) (fun i K r ρ hx⟨hK,hl,y8,y14,e⟩=>by
   subst e
   obtain⟨z14,h⟩:=H1 (l:=l) (s:=s) (R:=R) (K:=K) (x0:=x0) (x1:=x1) (x2:=x2) (x3:=x3) (x4:=some (gS R)) (x9:=x9) (x10:=x10) (x11:=x11) (x12:=x12) (x13:=x13) (x14:=y14) (x15:=x15) hR (r:=r) hK hl
   refine⟨_,h,fun k hk=>hK k (AN hk),?_,_,_,rfl⟩
   unfold kA
   split
   ·exact Nat.le_trans (List.length_filter_le _ _) hl
   ·exact hl)
  ⟨fun k hk=>List.mem_range.mp hk,by rw[List.length_range]; exact hR,x8,x14,rfl⟩
 exact⟨y8,y14,h⟩
end
end Kt.Internal
end
section
open PySem PySem.W PyProof.Rows
open Nat.Internal.Linear
namespace Kt.Internal
section
variable{l:Nat}{S:List Nat}{R A:List (List Nat)}{K:List Nat}
variable{x0 x1 x2 x3 x4 x5 x6 x7 x8 x9 x10 x11 x12 x13 x14 x15:Option PyData}
theorem BP(hS:S8 S){ρ:aN}{p:Nat}{lo hi:PE}(h:aD (eT l) (.var 3) ρ=some (aG S))(hp:p<4)(h1:aD (eT l) lo ρ=some (.int ((2*p:Nat):Int)))(h2:aD (eT l) hi ρ=some (.int ((2*p+2:Nat):Int))):aD (eT l) (.slc (.var 3) (.yes lo) (.yes hi)) ρ=some (aG (iQ (S.getD · 0) p)) :=
 (FU (w:=S) (p:=2*p) (q:=2*p+2) (k:=2) h h1 h2 rfl (Nat.le_trans (Nat.add_le_add_right (Nat.mul_le_mul_left 2 (Nat.le_of_lt hp)) 2) (by decide))).trans (congrArg (fun l=>some (aG l)) (wZ hS.len hp))
theorem YZ(hS:S8 S){ρ:aN}(h:aD (eT l) (.var 3) ρ=some (aG S)):aD (eT l) (.slc (.var 3) .no (.yes (.lit (.int 2)))) ρ=some (aG (iQ (S.getD · 0) 0)) :=
 (FQ (w:=S) (q:=2) h rfl (by decide)).trans (congrArg (fun l=>some (aG l)) (wZ (p:=0) hS.len (by decide)))
theorem VA(hS:S8 S){ρ:aN}(h:aD (eT l) (.var 3) ρ=some (aG S)):aD (eT l) (.slc (.var 3) (.yes (.lit (.int 6))) .no) ρ=some (aG (iQ (S.getD · 0) 3)) :=
 (FS (w:=S) (p:=6) h rfl (by decide)).trans (congrArg (fun l=>some (aG l)) ((List.take_of_length_le (by rw[List.length_drop,hS.len]; decide)).symm.trans (wZ (p:=3) hS.len (by decide))))
noncomputable abbrev WK:PE:=.comp (.bin .Add (.bin .Add (.bin .Add (.var 17) (.var 18)) (.var 19)) (.var 20)) (.one 17) (.of (.slc (.var 3) .no (.yes (.lit (.int 2))))) .no (.cons (.one 18) (.of (.slc (.var 3) (.yes (.lit (.int 2))) (.yes (.lit (.int 4))))) .no (.cons (.one 19) (.of (.slc (.var 3) (.yes (.lit (.int 4))) (.yes (.lit (.int 6))))) .no (.cons (.one 20) (.of (.slc (.var 3) (.yes (.lit (.int 6))) .no)) .no .nil)))
theorem NL(hS:S8 S):aD (eT l) WK (lE x0 x1 x2 (some (aG S)) x4 x5 x6 x7 x8 x9 x10 x11 x12 x13 x14 x15)=some (mB (iR (S.getD · 0))):=by
 refine(FZ (k:=wD) (as:=iQ (S.getD · 0) 0) (G:=fun a=>(iQ (S.getD · 0) 1).flatMap fun b=>(iQ (S.getD · 0) 2).flatMap fun c=>(iQ (S.getD · 0) 3).flatMap fun d=>[sD [a,b,c,d]]) (cL (YZ hS rfl)) (fun a _=>?_) (Nat.le_of_ble_eq_true rfl)).trans rfl
 refine iD (k:=wD) (bs:=iQ (S.getD · 0) 1) (cL (BP hS (p:=1) rfl (by decide) rfl rfl)) fun b _=>?_
 refine iD (k:=wD) (bs:=iQ (S.getD · 0) 2) (cL (BP hS (p:=2) rfl (by decide) rfl rfl)) fun c _=>?_
 refine iD (k:=wD) (bs:=iQ (S.getD · 0) 3) (cL (VA hS rfl)) fun d _=>?_
 exact nL (i9 (x:=[a,b,c]) (y:=[d]) (i9 (x:=[a,b]) (y:=[c]) (i9 (x:=[a]) (y:=[b]) rfl rfl (Nat.le_of_ble_eq_true rfl)) rfl (Nat.le_of_ble_eq_true rfl)) rfl (Nat.le_of_ble_eq_true rfl))
noncomputable def oN(s:Nat→Nat)(R:List (List Nat))(K:List Nat)(n:List Nat):List Nat:=K.filter fun k=>(tk1 s R k).contains n
theorem GR{s:Nat→Nat}(hR:R.length≤16)(hK:∀ k∈K,k<R.length)(hl:K.length≤16) :
  aD (eT l) (.comp (.comp (.var 23) (.one 23) (.of (.var 7)) (.yes (.cmp .In (.var 22) (.idx (.var 6) (.var 23)))) .nil) (.one 22) (.of (.var 5)) .no .nil) (lE x0 x1 x2 x3 x4 (some (mB (iR s))) (some (IN s R)) (some (qH K)) x8 x9 x10 x11 x12 x13 x14 x15)=some (.list (((iR s).map (oN s R K)).map qH)) :=
 (mM (x:=22) (as:=iR s) (k:=sD) (g:=fun n=>qH (oN s R K n)) (cL (e:=.var 5) rfl) (fun n _=>b0 (x:=23) (as:=K) (k:=fun k:Nat=>.int (k:Int)) (g:=fun k:Nat=>.int (k:Int)) (p:=fun k=>(tk1 s R k).contains n) (cL (e:=.var 7) rfl)
  (fun k hk=>eB (FX FK (x:=n) rfl (KA (hK k hk) (Nat.le_trans hR (by decide)) rfl rfl))) (fun _ _ _=>rfl) (j0 hl)) (by rw[xX]; decide)).trans (congrArg (fun l=>some (PyData.list l)) (List.map_map (g:=qH) (f:=oN s R K)).symm)
theorem RD{s:Nat→Nat}(H:BK (iR s) (tk1 s R) R.length K)(hK:∀ k∈K,k<R.length)(hl:K.length≤16) :
  aD (eT l) (.bool false (.cmp .In (.list .nil) (.var 9)) (.cmp .NotEq (.comp (.var 23) (.one 23) (.of (.var 7)) (.yes (.cmp .NotIn (.list (.cons (.var 23) .nil)) (.var 9))) .nil) (.list .nil))) (lE x0 x1 x2 x3 x4 x5 x6 (some (qH K)) x8 (some (.list (((iR s).map (oN s R K)).map qH))) x10 x11 x12 x13 x14 x15)=some (.bool false):=by
 have h1:((iR s).map (oN s R K)).contains []=false:=Bool.eq_false_iff.mpr fun h=>by
  obtain⟨n,hn,e⟩:=List.mem_map.mp (List.contains_iff_mem.mp h)
  obtain⟨k,hk,hkn⟩:=H.cov n hn
  exact absurd (List.contains_iff_mem.mpr hkn) (List.filter_eq_nil_iff.mp e k hk)
 have h2:K.filter (fun k=>!((iR s).map (oN s R K)).contains [k])=[]:=List.filter_eq_nil_iff.mpr fun k hk h=>by
  obtain⟨n,hn,g⟩:=H.own k hk (hK k hk)
  obtain⟨j,hj,hjn⟩:=H.cov n hn
  have hkn:=g j hj hjn▸hjn
  have:oN s R K n=[k]:=by
   have e:oN s R K n=K.filter (· == k):=List.filter_congr fun i hi=>by
    rw[Bool.eq_iff_iff,List.contains_iff_mem,beq_iff_eq]
    exact⟨g i hi,fun e=>e▸hkn⟩
   rw[e,List.filter_beq,H.nd.count,if_pos hk]; rfl
  rw[List.contains_iff_mem.mpr (List.mem_map.mpr ⟨n,hn,this⟩)]at h
  cases h
 have e2:=b0 (cl:=eT l) (ρ:=lE x0 x1 x2 x3 x4 x5 x6 (some (qH K)) x8 (some (.list (((iR s).map (oN s R K)).map qH))) x10 x11 x12 x13 x14 x15) (elt:=.var 23) (x:=23) (as:=K) (k:=fun k:Nat=>.int (k:Int)) (g:=fun k:Nat=>.int (k:Int)) (p:=fun k=>!((iR s).map (oN s R K)).contains [k]) (cL (e:=.var 7) rfl)
  (fun k _=>eB (N9 AQ (a:=.list (.cons (.var 23) .nil)) (b:=.var 9) (x:=[k]) (AR (a:=.var 23) rfl) rfl)) (fun _ _ _=>rfl) (j0 hl)
 rw[h2]at e2
 exact(LA (FX AQ (a:=.list .nil) (b:=.var 9) (x:=[]) (w:=(iR s).map (oN s R K)) rfl rfl) (wE e2)).trans (by rw[h1]; rfl)
theorem LW(hA:∀ r∈A,r.length≤8)(hl:A.length≤100):aD (eT l) (.comp (.var 24) (.one 21) (.of (.var 10)) .no (.cons (.one 24) (.of (.var 21)) .no .nil)) (lE x0 x1 x2 x3 x4 x5 x6 x7 x8 x9 (some (gS A)) x11 x12 x13 x14 x15)=some (aG A.flatten):=by
 refine(FZ (k:=aG) (as:=A) (G:=fun r=>r.map wD) (cL (e:=.var 10) rfl) (fun r _=>(iD (k:=wD) (bs:=r) (G:=fun c=>[wD c]) (cL (e:=.var 21) rfl) fun c _=>nL rfl).trans (by rw[kL])) ?_).trans ?_
 ·exact j0 (Nat.le_trans (xD (c:=8) fun r hr=>by rw[List.length_map]; exact hA r hr) (Nat.mul_le_mul_right 8 hl))
 ·rw[aG,List.map_flatten,List.flatMap_def]
noncomputable abbrev wP(s:Nat→Nat)(P:List Nat):PyData:=.list (P.map fun p=>aG (iQ s p))
theorem MX(hS:S8 S)(C:oR (S.getD · 0) A):aD (eT l) (.comp (.slc (.var 3) (.yes (.var 23)) (.yes (.bin .Add (.var 23) (.lit (.int 2))))) (.one 23) (.range3 0 8 2) (.yes (.bool false (.cmp .In (.idx (.var 3) (.var 23)) (.var 11)) (.cmp .In (.idx (.var 3) (.bin .Add (.var 23) (.lit (.int 1)))) (.var 11)))) .nil)
  (lE x0 x1 x2 (some (aG S)) x4 x5 x6 x7 x8 x9 x10 (some (aG A.flatten)) x12 x13 x14 x15)=some (wP (S.getD · 0) (cV (S.getD · 0) A)):=by
 rw[← V6 C]
 refine b0 (x:=23) (as:=U4) (k:=fun p:Nat=>.int ((2*p:Nat):Int)) (g:=fun p=>aG (iQ (S.getD · 0) p)) (by kernel_rfl) (fun p hp=>?_) (fun p hp _=>?_) (by decide)
 ·have hp:=gV.mp hp
  have i1:2*p+1≤1000000:=j0 (Nat.le_of_lt (mW hp true))
  exact eB (LA (zP (x:=sgP (S.getD · 0) p false) (w:=A.flatten) (d9 (v:=S) (D:=wD) (a:=.var 3) (i:=.var 23) (q:=2*p) rfl rfl (Nat.le_of_succ_le i1) (hS.at (mW hp false))) rfl) (zP (x:=sgP (S.getD · 0) p true) (w:=A.flatten) (d9 (v:=S) (D:=wD) (a:=.var 3) (q:=2*p+1) rfl (gN (a:=.var 23) (p:=2*p) (q:=1) rfl rfl) i1 (hS.at (mW hp true))) rfl))
 ·exact BP hS rfl (gV.mp hp) rfl (gN (a:=.var 23) (p:=2*p) (q:=2) rfl rfl)
theorem VU(s:Nat→Nat)(T:List Nat):(T.flatMap (iQ s)).length=2*T.length:=by
 induction T with
 | nil=>rfl
 | cons p T ih=>rw[List.flatMap_cons,List.length_append,ih]; exact Nat.add_comm 2 _
theorem HU(hS:S8 S)(C:oR (S.getD · 0) A)(hl:A.length≤100){m:Nat}(h0:m≠0)(hm:m<2 ^ (cV (S.getD · 0) A).length) :
  ∃ y15,Nx (eT l) 1002 D8 (lE x0 x1 x2 x3 x4 x5 x6 x7 x8 x9 (some (gS A)) x11 (some (wP (S.getD · 0) (cV (S.getD · 0) A))) (some (.int (m:Int))) x14 x15) (lE x0 x1 x2 x3 x4 x5 x6 x7 x8 x9 (some (gS A)) x11 (some (wP (S.getD · 0) (cV (S.getD · 0) A))) (some (.int (m:Int))) x14 y15):=by
 have hP:(cV (S.getD · 0) A).length≤4:=List.length_filter_le _ _
 obtain⟨t1,t2⟩:=P0 (show(cV (S.getD · 0) A).Nodup from C.mu.un.filter _) m
 have t3:=W9 C t1 t2 fun e=>VC h0 hm (List.map_eq_nil_iff.mp e)
 have hsl:(IP (cV (S.getD · 0) A) m).length≤4:=Nat.le_trans (List.length_filter_le _ _) (by rw[List.length_range]; exact hP)
 have e1:=nZ (cl:=eT l) (ρ:=lE x0 x1 x2 x3 x4 x5 x6 x7 x8 x9 (some (gS A)) x11 (some (wP (S.getD · 0) (cV (S.getD · 0) A))) (some (.int (m:Int))) x14 x15) (elt:=.var 25) (x:=23) (i:=.range1 (.bi .len (.cons (.var 12) .nil))) (c:=.yes (.cmp .Eq (.bin .Mod (.bin .FloorDiv (.var 13) (.bin .Pow (.lit (.int 2)) (.var 23))) (.lit (.int 2))) (.lit (.int 1)))) (g:=.cons (.one 25) (.of (.idx (.var 12) (.var 23))) .no .nil)
  (as:=List.range (cV (S.getD · 0) A).length) (k:=fun k:Nat=>.int (k:Int)) (p:=fun j=>m / 2 ^ j%2==1) (G:=fun j=>(iQ (S.getD · 0) ((cV (S.getD · 0) A).getD j 0)).map wD) (zO (d8 (a:=.var 12) (v:=cV (S.getD · 0) A) (D:=fun p=>aG (iQ (S.getD · 0) p)) rfl) (j0 hP))
  (fun j hj=>have hj4:=Nat.lt_of_lt_of_le (List.mem_range.mp hj) hP; eB (LG (p:=m / 2 ^ j%2) (q:=1) (dU (b:=.lit (.int 2)) (y:=.int ((2:Nat):Int)) (dU (x:=.int (m:Int)) rfl (FV (a:=.lit (.int 2)) (b:=.var 23) (p:=2) (q:=j) rfl rfl (by decide) (Nat.le_trans (Nat.le_of_lt hj4) (by decide))) (J0 (Nat.two_pow_pos j) (Nat.le_trans (Nat.pow_le_pow_right (by decide) (Nat.le_of_lt hj4)) (by decide)))) rfl (I0 (by decide))) rfl))
  (fun j hj _=>have hj':=List.mem_range.mp hj; (iD (k:=wD) (bs:=iQ (S.getD · 0) ((cV (S.getD · 0) A).getD j 0)) (G:=fun c=>[wD c]) (cL (d9 (v:=cV (S.getD · 0) A) (D:=fun p=>aG (iQ (S.getD · 0) p)) (a:=.var 12) (i:=.var 23) (q:=j) rfl rfl (j0 (Nat.le_trans (Nat.le_of_lt hj') hP)) (by rw[List.getD_eq_getElem?_getD,List.getElem?_eq_getElem hj']; rfl))) fun c _=>nL rfl).trans (by rw[kL]))
  (Nat.le_trans (xD (c:=2) fun j _=>Nat.le_of_ble_eq_true rfl) (j0 (Nat.mul_le_mul_right 2 hsl)))
 rw[show((List.range (cV (S.getD · 0) A).length).filter fun j=>m / 2 ^ j%2==1)=IP (cV (S.getD · 0) A) m from rfl,show((IP (cV (S.getD · 0) A) m).flatMap fun j=>(iQ (S.getD · 0) ((cV (S.getD · 0) A).getD j 0)).map wD)=(((IP (cV (S.getD · 0) A) m).map ((cV (S.getD · 0) A).getD · 0)).flatMap (iQ (S.getD · 0))).map wD by rw[List.map_flatMap,List.flatMap_map]]at e1
 have hT:((IP (cV (S.getD · 0) A) m).map ((cV (S.getD · 0) A).getD · 0)).length≤4:=by rw[List.length_map]; exact hsl
 have hW:=VU (S.getD · 0) ((IP (cV (S.getD · 0) A) m).map ((cV (S.getD · 0) A).getD · 0))
 generalize (IP (cV (S.getD · 0) A) m).map ((cV (S.getD · 0) A).getD · 0)=T at e1 t3 hT hW
 generalize T.flatMap (iQ (S.getD · 0))=W at e1 t3 hW
 refine⟨some (aG W),dD (bK e1) (mK (S6 ?_))⟩
 have e2:=b0 (cl:=eT l) (ρ:=lE x0 x1 x2 x3 x4 x5 x6 x7 x8 x9 (some (gS A)) x11 (some (wP (S.getD · 0) (cV (S.getD · 0) A))) (some (.int (m:Int))) x14 (some (aG W))) (elt:=.var 21) (x:=21) (as:=A) (k:=aG) (g:=aG) (p:=fun r=>!(r.filter W.contains).isEmpty) (cL (e:=.var 10) rfl)
  (fun r hr=>eB ((wE (b0 (elt:=.var 24) (x:=24) (as:=r) (k:=wD) (g:=wD) (p:=W.contains) (cL (e:=.var 21) rfl) (fun c _=>eB (zP (a:=.var 24) (b:=.var 15) (x:=c) (w:=W) rfl rfl)) (fun _ _ _=>rfl) (j0 (C.wf r hr).len))).trans (by rw[List.isEmpty_map]))) (fun _ _ _=>rfl) (j0 hl)
 have hf:(A.filter fun r=>!(r.filter W.contains).isEmpty).length≤100:=Nat.le_trans (List.length_filter_le _ _) hl
 exact CI (FW (a:=.lit (.int 2)) (p:=2) rfl (d8 (D:=aG) e2) (by decide) (j0 hf)) (gN (d8 (a:=.var 15) (v:=W) (D:=wD) rfl) (b:=.lit (.int 2)) (q:=2) rfl) (decide_eq_false (by rw[hW]; exact Nat.not_lt.mpr (Nat.mul_le_mul_left 2 t3)))
theorem HV(hS:S8 S)(C:oR (S.getD · 0) A)(hl:A.length≤100):∃ y13 y15,N1 (eT l) 1002 (.for_ (.one 13) JV D8) (lE x0 x1 x2 x3 x4 x5 x6 x7 x8 x9 (some (gS A)) x11 (some (wP (S.getD · 0) (cV (S.getD · 0) A))) x13 x14 x15) (lE x0 x1 x2 x3 x4 x5 x6 x7 x8 x9 (some (gS A)) x11 (some (wP (S.getD · 0) (cV (S.getD · 0) A))) y13 x14 y15):=by
 have hP:(cV (S.getD · 0) A).length≤4:=List.length_filter_le _ _
 have h2:2 ^ (cV (S.getD · 0) A).length≤16:=Nat.pow_le_pow_right (by decide) hP
 obtain⟨ρ,h,y13,y15,rfl⟩:=xY (cl:=eT l) (F:=1002) (x:=13) (i:=JV) (a:=D8) (as:=List.range (2 ^ (cV (S.getD · 0) A).length - 1)) (k:=fun n:Nat=>.int ((1+n:Nat):Int)) (step:=fun _ _=>()) (b₀:=()) (ρ:=lE x0 x1 x2 x3 x4 x5 x6 x7 x8 x9 (some (gS A)) x11 (some (wP (S.getD · 0) (cV (S.getD · 0) A))) x13 x14 x15)
  (R:=fun _ _ ρ=>∃ y13 y15,ρ=lE x0 x1 x2 x3 x4 x5 x6 x7 x8 x9 (some (gS A)) x11 (some (wP (S.getD · 0) (cV (S.getD · 0) A))) y13 x14 y15)
  (W1 (a:=.lit (.int 1)) (p:=1) rfl (FV (a:=.lit (.int 2)) (p:=2) rfl (d8 (a:=.var 12) (v:=cV (S.getD · 0) A) (D:=fun p=>aG (iQ (S.getD · 0) p)) rfl) (by decide) (Nat.le_trans hP (by decide))) (by decide) (j0 h2)) (fun i _ k ρ hx⟨y13,y15,e⟩=>by
   subst e
   obtain⟨rfl,hk⟩:=MR hx
   obtain⟨z,h⟩:=HU (l:=l) hS C hl (m:=1+i) (x0:=x0) (x1:=x1) (x2:=x2) (x3:=x3) (x4:=x4) (x5:=x5) (x6:=x6) (x7:=x7) (x8:=x8) (x9:=x9) (x11:=x11) (x14:=x14) (x15:=y15) (by exact fun gg=>lF [i] [zb vk o0,.num 0] rfl (eL gg)) (by exact lL [i,2 ^ (cV (fun x=>S.getD x 0) A).length - 1,2 ^ (cV (fun x=>S.getD x 0) A).length] [ze o0,o1,ze o1,o2] (ze (zb vk o0)) o2 rfl hk (XH (lL [i,2 ^ (cV (fun x=>S.getD x 0) A).length - 1,2 ^ (cV (fun x=>S.getD x 0) A).length] [ze o0,o1,o1,o2] vk o2 rfl hk (Aq _ _))))
   exact⟨_,h,_,_,rfl⟩) ⟨x13,x15,rfl⟩
 exact⟨y13,y15,h⟩
end
end Kt.Internal
end
section
open PySem PySem.W PyProof.Rows
namespace Kt.Internal
theorem Cd(p q:Nat):XM .max2 [.int (p:Int),.int (q:Int)]=some (.int ((max p q:Nat):Int)):=by
 show some (PyData.int (if(q:Int)>(p:Int)then(q:Int)else(p:Int)))=_
 by_cases h:(q:Int)>(p:Int)
 ·rw[if_pos h,Nat.max_eq_right (Nat.le_of_lt (Int.ofNat_lt.mp h))]
 ·rw[if_neg h,Nat.max_eq_left (Int.ofNat_le.mp (Int.not_lt.mp h))]
noncomputable def I6:List Int:=[1,0,3,8,2,10]
noncomputable def TL:Nat→kX→kX
 | 0,ss=>ss
 | n+1,ss=>match ss with | .nil=>.nil | .cons _ ss=>TL n ss
theorem RO{s:Nat→Nat}(hs:rN s){R:List (List Nat)}(hR:wS s R):BK (iR s) (tk1 s R) R.length (rY (iR s) (tk1 s R) R.length)∧∀ k∈rY (iR s) (tk1 s R) R.length,k<R.length :=
 NT (fun _ _ n hn=>uI hn) fun n hn=>by
  obtain⟨y,rfl⟩:=lG.mp hn
  obtain⟨r,hr,h⟩:=hR.cov y
  obtain⟨k,hk,rfl⟩:=List.getElem_of_mem hr
  exact⟨k,hk,(show TX s y∈BB s (R.getD k [])from by rw[List.getD_eq_getElem?_getD,List.getElem?_eq_getElem hk]; exact(w0 hs).mpr h)⟩
theorem NS{l:Nat}{S:List Nat}(hS:S8 S){R:List (List Nat)}(hR:wS (S.getD · 0) R)(hl:R.length≤16){x0 x1 x2:Option PyData}:Rx (eT (l+1)) 1002 (TL 4 Bm.body) (lE x0 x1 x2 (some (aG S)) (some (gS R)) none none none none none none none none none none none) (.bool true):=by
 obtain⟨H,hK⟩:=RO hS.inj8 hR
 have hKl:(rY (iR (S.getD · 0)) (tk1 (S.getD · 0) R) R.length).length≤16:=Nat.le_trans (l7 _ (m:=List.range R.length) H.nd fun k hk=>List.mem_range.mpr (hK k hk)) (by rw[List.length_range]; exact hl)
 have C:=Ah hS.inj8 hR H hK
 have t6:=mM (cl:=eT (l+1)) (ρ:=lE x0 x1 x2 (some (aG S)) (some (gS R)) (some (mB (iR (S.getD · 0)))) none none none none none none none none none none) (x:=21) (as:=R) (k:=aG) (g:=fun r=>mB (BB (S.getD · 0) r)) (elt:=.call 4 (.cons (.call 3 (.cons (.call 10 (.cons (.call 2 (.cons (.var 21) (.cons (.var 3) .nil))) .nil)) .nil)) (.cons (.var 5) .nil))) (cL (e:=.var 4) rfl) (fun r hr=>PT hS (hR.wf r hr) rfl rfl rfl) (j0 hl)
 rw[show(R.map fun r=>mB (BB (S.getD · 0) r))=(R.map (BB (S.getD · 0))).map mB from(List.map_map (g:=mB) (f:=BB (S.getD · 0))).symm]at t6
 obtain⟨y8,y14,t8⟩:=H2 (l:=l+1) (s:=(S.getD · 0)) (R:=R) (x0:=x0) (x1:=x1) (x2:=x2) (x3:=some (aG S)) (x8:=none) (x9:=none) (x10:=none) (x11:=none) (x12:=none) (x13:=none) (x14:=none) (x15:=none) hl
 generalize rY (iR (S.getD · 0)) (tk1 (S.getD · 0) R) R.length=K at H hK hKl C t8
 have t11:aD (eT (l+1)) (.comp (.idx (.var 4) (.var 23)) (.one 23) (.of (.var 7)) .no .nil) (lE x0 x1 x2 (some (aG S)) (some (gS R)) (some (mB (iR (S.getD · 0)))) (some (IN (S.getD · 0) R)) (some (qH K)) y8 (some (.list (((iR (S.getD · 0)).map (oN (S.getD · 0) R K)).map qH))) none none none none y14 none)=some (gS (K.map (R.getD · []))) :=
  (mM (x:=23) (as:=K) (k:=fun k:Nat=>.int (k:Int)) (g:=fun k=>aG (R.getD k [])) (cL (e:=.var 7) rfl) (fun k hk=>d9 (v:=R) (D:=aG) (a:=.var 4) (i:=.var 23) (q:=k) rfl rfl (j0 (Nat.le_trans (Nat.le_of_lt (hK k hk)) hl)) (by rw[List.getD_eq_getElem?_getD,List.getElem?_eq_getElem (hK k hk)]; rfl)) (j0 hKl)).trans (congrArg (fun l=>some (PyData.list l)) (List.map_map (g:=aG) (f:=(R.getD · []))).symm)
 refine b8 (bK (NL hS)) (b8 (bK t6) (b8 (bK (W2 (d8 (a:=.var 4) (v:=R) (D:=aG) rfl) (j0 hl))) (b8 t8 (b8 (bK (GR (s:=(S.getD · 0)) hl hK hKl)) (b8 (S6 (RD H hK hKl)) (b8 (bK t11) ?_))))))
 have hA:(K.map (R.getD · [])).length≤100:=by rw[List.length_map]; exact Nat.le_trans hKl (by decide)
 clear t11 t8 t6
 generalize K.map (R.getD · [])=A at C hA
 obtain⟨y13,y15,Bh⟩:=HV (l:=l+1) hS C hA (x0:=x0) (x1:=x1) (x2:=x2) (x3:=some (aG S)) (x4:=some (gS R)) (x5:=some (mB (iR (S.getD · 0)))) (x6:=some (IN (S.getD · 0) R)) (x7:=some (qH K)) (x8:=y8) (x9:=some (.list (((iR (S.getD · 0)).map (oN (S.getD · 0) R K)).map qH))) (x11:=some (aG A.flatten)) (x13:=none) (x14:=y14) (x15:=none)
 obtain⟨A',m1,m2⟩:=DG (l:=l) hS C hA
 refine b8 (bK (LW (fun r hr=>(C.wf r hr).len) hA)) (b8 (bK (MX hS C)) (b8 Bh (BQ (cR (op:=.Is) (LH wB (v:=A') (w:=[[]]) (kM (a:=.var 10) (b:=.var 3) rfl rfl m1) rfl) (LG (d8 (a:=.var 10) (v:=A) (D:=aG) rfl) (gN (d8 (a:=.var 12) (v:=cV (S.getD · 0) A) (D:=fun p=>aG (iQ (S.getD · 0) p)) rfl) (b:=.lit (.int 1)) (q:=1) rfl)) ?_))))
 show some (PyData.bool ((A'==[[]])==(A.length==(cV (S.getD · 0) A).length+1)))=_
 rw[show(A'==[[]])=(A.length==(cV (S.getD · 0) A).length+1) by rw[Bool.eq_iff_iff,beq_iff_eq,beq_iff_eq]; exact m2,beq_self_eq_true]
theorem ZY(ns:List Int):c7 dC IQ 1002 20 6 [.list (ns.map .int)]=some (.bool true):=by
 have e1:aD (eT 18) (.bin .Add (.slc (.var 0) .no (.yes (.lit (.int 8)))) (.list (.cons (.lit (.int 1)) (.cons (.lit (.int 0)) (.cons (.lit (.int 3)) (.cons (.lit (.int 8)) (.cons (.lit (.int 2)) (.cons (.lit (.int 10)) .nil)))))))) (d7 26 [.list (ns.map .int)])=some (.list ((ns.take 8++I6).map .int)) :=
  nK (yF (v:=ns) (a:=.var 0) (q:=8) rfl rfl (by decide)) (w:=I6) rfl (j0 (Nat.add_le_add_right (List.length_take_le 8 ns) 6))
 have hDl:6≤(ns.take 8++I6).length∧(ns.take 8++I6).length≤14:=by
  rw[List.length_append]; exact⟨Nat.le_add_left 6 _,Nat.add_le_add_right (List.length_take_le 8 ns) 6⟩
 refine BR (pf:=Bm) (l:=19) rfl rfl (b8 (bK e1) ?_)
 clear e1
 generalize ns.take 8++I6=D at hDl
 have hm:max 6 (D.length - 6)≤D.length∧6≤max 6 (D.length - 6)∧max 6 (D.length - 6)≤8:=⟨Nat.max_le.mpr ⟨hDl.1,Nat.sub_le _ 6⟩,Nat.le_max_left _ _,Nat.max_le.mpr ⟨by decide,Nat.sub_le_sub_right hDl.2 6⟩⟩
 have b3:=yF (cl:=eT 18) (ρ:=lE (some (.list (ns.map .int))) (some (.list (D.map .int))) none none none none none none none none none none none none none none) (v:=D) (D:=PyData.int) (a:=.var 1) rfl (D2 (f:=.max2) (PC (a:=.lit (.int 6)) rfl (FR (b:=.lit (.int 6)) (q:=6) (d8 (a:=.var 1) (v:=D) (D:=PyData.int) rfl) rfl hDl.1)) (Cd 6 (D.length - 6))) (j0 hm.2.2)
 have hl:(D.take (max 6 (D.length - 6))).length=max 6 (D.length - 6):=List.length_take_of_le hm.1
 have e2:=mM (elt:=.bin .Mod (.var 16) (.bin .Pow (.lit (.int 10)) (.lit (.int 9)))) (x:=16) (g:=fun x=>.int ((x.fmod ((1000000000:Nat):Int)).toNat:Nat)) (cL b3) (fun x _=>dU (x:=.int x) (y:=.int ((1000000000:Nat):Int)) rfl (by kernel_rfl) (Cb x (by decide)).1) (by rw[hl]; exact j0 hm.2.2)
 rw[show((D.take (max 6 (D.length - 6))).map fun x=>PyData.int ((x.fmod ((1000000000:Nat):Int)).toNat:Nat))=((D.take (max 6 (D.length - 6))).map fun x=>(x.fmod ((1000000000:Nat):Int)).toNat).map (fun(p:Nat)=>.int (p:Int))from(List.map_map (g:=fun(p:Nat)=>PyData.int (p:Int)) (f:=fun x:Int=>(x.fmod ((1000000000:Nat):Int)).toNat)).symm]at e2
 have hN:((D.take (max 6 (D.length - 6))).map fun x:Int=>(x.fmod ((1000000000:Nat):Int)).toNat).length=max 6 (D.length - 6):=by rw[List.length_map,hl]
 generalize (D.take (max 6 (D.length - 6))).map (fun x:Int=>(x.fmod ((1000000000:Nat):Int)).toNat)=nu at e2 hN
 have h5:=hm.2
 rw[← hN]at h5
 refine b8 (bK e2) ?_
 clear e2 b3 hm hN hDl hl
 obtain⟨p,rest,rfl⟩:=List.exists_cons_of_length_pos (Nat.lt_of_lt_of_le (by decide) h5.1)
 obtain⟨S,hS,g3⟩:=G0 (prim:=IQ) (F:=1002) (l:=18) (p:=p)
 obtain⟨R,g4,hR,hRl⟩:=G4 (prim:=IQ) (F:=1002) (l:=18) (ns:=rest) hS (Nat.le_trans (Nat.le_of_succ_le h5.2) (by decide))
 exact b8 (bK (gD (x:=.int (p:Int)) (d9 (v:=p::rest) (D:=fun n:Nat=>.int (n:Int)) (a:=.var 2) (q:=0) rfl rfl (by decide) rfl) g3)) (b8 (bK (kM (a:=.slc (.var 2) (.yes (.lit (.int 1))) .no) (b:=.var 3) (x:=qH rest) (FT (v:=p::rest) (D:=fun n:Nat=>.int (n:Int)) (a:=.var 2) (q:=1) rfl rfl (by decide)) rfl g4)) (NS (l:=17) hS hR (Nat.le_trans hRl (Nat.le_trans h5.2 (by decide)))))
end Kt.Internal
end
section
open PySem PySem.W PyProof.Rows PySem.Calls Builtin
namespace Kt.Internal
theorem Dt:Fast.tw8326940854005059898 { strict:=!R.allR (Fast.tw5923862056798008813 PySem.Challenge.rw_kt0084_02.prog.main.body) (Fast.tw3471404346716756564 Fast.tw17691160309236699985),foot:=none,bare:=R.filterR (Fast.tw13343964577679436407 PySem.Challenge.rw_kt0084_02.prog PySem.Challenge.rw_kt0084_02.prog.main.body) [⟨⟨[118,97,114,115]⟩⟩,⟨⟨[100,105,114]⟩⟩,⟨⟨[108,111,99,97,108,115]⟩⟩] } PySem.Challenge.rw_kt0084_02.prog.main.body=true:=by kernel_rfl
theorem WM:Fast.tw12908688711261696721 PySem.Challenge.rw_kt0084_02.prog=true:=by
 delta PySem.W.Fast.tw12908688711261696721
 refine look_both (look_both ?_ Dt) (by kernel_rfl)
 kernel_rfl
theorem Y4:PySem.Challenge.rw_kt0084_02.wellSaid=true:=by
 refine(congrFun PySem.W.Fast.te9446332074065402090 _).trans ?_
 delta PySem.W.Fast.tw9446332074065402090
 iterate 18 (refine look_both ?_ (by kernel_rfl))
 delta PySem.W.Fast.tw17960256430627541270
 refine look_both (look_both ?_ (by kernel_rfl)) (by kernel_rfl)
 delta PySem.W.Fast.tw2436336058641802641
 iterate 13 (refine look_both ?_ (by kernel_rfl))
 exact WM
theorem Ek:(defOf v6 r6.name).isSome=true:=by kernel_rfl
noncomputable def D6:=(defOf v6 r6.name).get Ek
theorem El:D6.1.name = "law" := by kernel_rfl
end Kt.Internal
theorem PySem.Challenge.cw_kt0084_02_holds : PySem.Challenge.rw_kt0084_02.Holds := by
 refine holds_law Kt.Internal.Y4 fun said=>?_
 refine PySem.W.holds_open (d:=Kt.Internal.D6.1) (kwd:=Kt.Internal.D6.2) (q:=Kt.Internal.v6) (loose:=Kt.Internal.xB) (Xt:=Kt.Internal.X6) (XP:=XL Kt.Internal.v6 []) (Yf:=Kt.Internal.Y6) (Ya:=fun _=>True) (YP:=fun _ h=>∃ K:Frag,K.In h∧Kt.Internal.wV K∧h.get? 70=some (tabObj #[])∧h.get? 784=some (tabObj #[])) (N:=6800) Kt.Internal.ZX (fun w s e=>of_eq_true e) (fun w h h' Y k=>?_) (fun s e=>xl_of s (Bool.and_eq_true_iff.mp e).1) XL.keeps (by kernel_rfl) (by kernel_rfl) (by kernel_rfl) (fun s e=>recFacts_of (Bool.and_eq_true_iff.mp e).2) rfl said (by decide +kernel) ⟨rfl,rfl,rfl,rfl,rfl,by decide +kernel⟩ ?hw ?hc
 ·obtain⟨K,X,H,e1,e2⟩:=Y
  exact⟨K,fun a o e=>k _ _ (X a o e),H,k _ _ e1,k _ _ e2⟩
 ·w_witness2
 intro w s₀ s₁ mg mb G Y fa o pm cd doc dV kV ho hd hcd hD hmg hg args vals as hpre hlay hrd hwl hlo
 obtain⟨K,KX,⟨H,L,HB,HS⟩,t1,t2⟩:=Y
 refine Ground.open G ?_
 intro T B D TE TW
 wrow_args hpre hlay hrd hwl hlo
 rename_i ns hs0 _ _ _ _ as3 as2 l vs as1 hL ra hwell hrd0 hints hr0 hcond ht
 refine wpAny_mono (Kt.Internal.RN (prog:=_) (w:=w) (fn:=Kt.Internal.BH) (f:=6) (tab:=Kt.Internal.dC) (d:=7) (pfd:=Kt.Internal.SD) (F:=1002) (lvl:=20) (specs:=Kt.Internal.i7) T KX t1 t2 H L HB HS Kt.Internal.L5 rfl (.of_eq hg) rfl ((congrArg mg Kt.Internal.El).symm.trans hmg) hwell ⟨_,rfl⟩ hL hints ?_ (Kt.Internal.ZY ns) (by decide)) (fun v s' h=>?_) fun _ _ e=>e
 ·omega
 obtain⟨rfl,hold,hos,hb⟩:=h
 exact⟨.inl ⟨_,_,[],rfl,fun _=>rfl,ReadsW.bool true,(by first | rfl | wrow_post | kernel_rfl),fun _=>⟨List.nodup_nil,fun _ hm=>(nomatch hm)⟩⟩,hold,hos,hb⟩
end
