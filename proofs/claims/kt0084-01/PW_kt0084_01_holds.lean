import PyProof.Rows.All
import Wide.All
import OpenK.AllK
import Wide.FinOn
import KE.KPar
import KE.KStopIter
import KE.KOwnIter
import KE.KLam
import PyProof.StrLawsIn
import PySem.Challenge.RW_kt0084_01
set_option Elab.async false
set_option maxRecDepth 100000
set_option maxHeartbeats 8000000
set_option autoImplicit false
set_option genSizeOf false
set_option genInjectivity false
set_option linter.all false
section
open PySem
namespace Kt.Internal
theorem aA{a b:Bool}(h:(a&&b)=true):a=true∧b=true:=by rwa[Bool.and_eq_true]at h
theorem aB{a b:Bool}{G:Prop}(h:(a&&b)=true)(k:a=true→b=true→G):G:=k (aA h).1 (aA h).2
theorem aS{α β:Type}{o:Option α}{f:α→Option β}{d:β}{G:Prop}(h:o.bind f=some d)(k:∀ a,o=some a→f a=some d→G):G:=by cases o with | none=>cases h | some a=>exact k a rfl h
theorem bY{α β:Type}{o:Option α}{f:α→β}{d:β}{G:Prop}(h:o.map f=some d)(k:∀ a,o=some a→f a=d→G):G:=by cases o with | none=>cases h | some a=>exact k a rfl (Option.some.inj h)
noncomputable def gK{α:Type}(l:List α)(f:α→Bool):Bool:=match l with | []=>false | a::r=>r.isEmpty&&f a
theorem cJ{α:Type}{l:List α}{f:α→Bool}{m:List α→Prop}(h:gK l f=true)(k:∀ a,f a=true→m [a]):m l:=by cases l with | nil=>cases h | cons a r=>cases r with | nil=>exact k a h | cons b r=>cases h
noncomputable def jJ{α:Type}(l:List α)(f:α→List α→Bool):Bool:=match l with | []=>false | a::r=>f a r
theorem cZ{α:Type}{l:List α}{f:α→List α→Bool}{m:List α→Prop}(h:jJ l f=true)(k:∀ a r,f a r=true→m (a::r)):m l:=by cases l with | nil=>cases h | cons a r=>exact k a r h
theorem d9{α:Type}{l:List α}{m:List α→Prop}(h:l.isEmpty=true)(k:m []):m l:=by cases l with | nil=>exact k | cons a r=>cases h
noncomputable def iB{α:Type}(o:Option α)(f:α→Bool):Bool:=match o with | none=>false | some a=>f a
theorem qX{α:Type}{o:Option α}{f:α→Bool}{m:Option α→Prop}(h:iB o f=true)(k:∀ a,f a=true→m (some a)):m o:=by cases o with | none=>cases h | some a=>exact k a h
theorem nK{α:Type}{o:Option α}{m:Option α→Prop}(h:o.isNone=true)(k:m none):m o:=by cases o with | none=>exact k | some a=>cases h
noncomputable def aX(e:Expr)(f:Str→Pos→Bool):Bool:=if h:e.ctorIdx=23 then Expr.Name.elim e h f else false
theorem aN{e:Expr}{f:Str→Pos→Bool}{m:Expr→Prop}(h:aX e f=true)(k:∀ a b,f a b=true→m (.Name a b)):m e:=by
 by_cases c:e.ctorIdx=23
 ·exact Expr.Name.elim (motive_1:=fun e=>aX e f=true→m e) e c k h
 ·rw[aX,dif_neg c]at h; cases h
noncomputable def bL(e:Expr)(f:Const→Nat→Pos→Bool):Bool:=if h:e.ctorIdx=19 then Expr.Constant.elim e h f else false
theorem bS{e:Expr}{f:Const→Nat→Pos→Bool}{m:Expr→Prop}(h:bL e f=true)(k:∀ a b c,f a b c=true→m (.Constant a b c)):m e:=by
 by_cases c:e.ctorIdx=19
 ·exact Expr.Constant.elim (motive_1:=fun e=>bL e f=true→m e) e c k h
 ·rw[bL,dif_neg c]at h; cases h
noncomputable def bM(e:Expr)(f:Expr→Str→Pos→Bool):Bool:=if h:e.ctorIdx=20 then Expr.Attribute.elim e h f else false
theorem b6{e:Expr}{f:Expr→Str→Pos→Bool}{m:Expr→Prop}(h:bM e f=true)(k:∀ a b c,f a b c=true→m (.Attribute a b c)):m e:=by
 by_cases c:e.ctorIdx=20
 ·exact Expr.Attribute.elim (motive_1:=fun e=>bM e f=true→m e) e c k h
 ·rw[bM,dif_neg c]at h; cases h
noncomputable def dY(e:Expr)(f:Expr→List Expr→List Keyword→Pos→Bool):Bool:=if h:e.ctorIdx=16 then Expr.Call.elim e h f else false
theorem eH{e:Expr}{f:Expr→List Expr→List Keyword→Pos→Bool}{m:Expr→Prop}(h:dY e f=true)(k:∀ a b c d,f a b c d=true→m (.Call a b c d)):m e:=by
 by_cases c:e.ctorIdx=16
 ·exact Expr.Call.elim (motive_1:=fun e=>dY e f=true→m e) e c k h
 ·rw[dY,dif_neg c]at h; cases h
noncomputable def gF(e:Expr)(f:Expr→List CmpOp→List Expr→Pos→Bool):Bool:=if h:e.ctorIdx=15 then Expr.Compare.elim e h f else false
theorem m7{e:Expr}{f:Expr→List CmpOp→List Expr→Pos→Bool}{m:Expr→Prop}(h:gF e f=true)(k:∀ a b c d,f a b c d=true→m (.Compare a b c d)):m e:=by
 by_cases c:e.ctorIdx=15
 ·exact Expr.Compare.elim (motive_1:=fun e=>gF e f=true→m e) e c k h
 ·rw[gF,dif_neg c]at h; cases h
noncomputable def kZ(e:Expr)(f:BoolOp→List Expr→Pos→Bool):Bool:=if h:e.ctorIdx=0 then Expr.BoolOp.elim e h f else false
theorem wH{e:Expr}{f:BoolOp→List Expr→Pos→Bool}{m:Expr→Prop}(h:kZ e f=true)(k:∀ a b c,f a b c=true→m (.BoolOp a b c)):m e:=by
 by_cases c:e.ctorIdx=0
 ·exact Expr.BoolOp.elim (motive_1:=fun e=>kZ e f=true→m e) e c k h
 ·rw[kZ,dif_neg c]at h; cases h
noncomputable def nU(e:Expr)(f:Expr→Operator→Expr→Pos→Bool):Bool:=if h:e.ctorIdx=2 then Expr.BinOp.elim e h f else false
theorem AF{e:Expr}{f:Expr→Operator→Expr→Pos→Bool}{m:Expr→Prop}(h:nU e f=true)(k:∀ a b c d,f a b c d=true→m (.BinOp a b c d)):m e:=by
 by_cases c:e.ctorIdx=2
 ·exact Expr.BinOp.elim (motive_1:=fun e=>nU e f=true→m e) e c k h
 ·rw[nU,dif_neg c]at h; cases h
noncomputable def eO(e:Expr)(f:UnaryOp→Expr→Pos→Bool):Bool:=if h:e.ctorIdx=3 then Expr.UnaryOp.elim e h f else false
theorem gX{e:Expr}{f:UnaryOp→Expr→Pos→Bool}{m:Expr→Prop}(h:eO e f=true)(k:∀ a b c,f a b c=true→m (.UnaryOp a b c)):m e:=by
 by_cases c:e.ctorIdx=3
 ·exact Expr.UnaryOp.elim (motive_1:=fun e=>eO e f=true→m e) e c k h
 ·rw[eO,dif_neg c]at h; cases h
noncomputable def rI(e:Expr)(f:Expr→Expr→Expr→Pos→Bool):Bool:=if h:e.ctorIdx=5 then Expr.IfExp.elim e h f else false
theorem ML{e:Expr}{f:Expr→Expr→Expr→Pos→Bool}{m:Expr→Prop}(h:rI e f=true)(k:∀ a b c d,f a b c d=true→m (.IfExp a b c d)):m e:=by
 by_cases c:e.ctorIdx=5
 ·exact Expr.IfExp.elim (motive_1:=fun e=>rI e f=true→m e) e c k h
 ·rw[rI,dif_neg c]at h; cases h
noncomputable def sZ(e:Expr)(f:List Expr→Pos→Bool):Bool:=if h:e.ctorIdx=24 then Expr.List.elim e h f else false
theorem rH{e:Expr}{f:List Expr→Pos→Bool}{m:Expr→Prop}(h:sZ e f=true)(k:∀ a b,f a b=true→m (.List a b)):m e:=by
 by_cases c:e.ctorIdx=24
 ·exact Expr.List.elim (motive_1:=fun e=>sZ e f=true→m e) e c k h
 ·rw[sZ,dif_neg c]at h; cases h
noncomputable def gA(e:Expr)(f:List Expr→Nat→Pos→Bool):Bool:=if h:e.ctorIdx=25 then Expr.Tuple.elim e h f else false
theorem fW{e:Expr}{f:List Expr→Nat→Pos→Bool}{m:Expr→Prop}(h:gA e f=true)(k:∀ a b c,f a b c=true→m (.Tuple a b c)):m e:=by
 by_cases c:e.ctorIdx=25
 ·exact Expr.Tuple.elim (motive_1:=fun e=>gA e f=true→m e) e c k h
 ·rw[gA,dif_neg c]at h; cases h
noncomputable def cW(e:Expr)(f:Expr→Expr→Pos→Bool):Bool:=if h:e.ctorIdx=21 then Expr.Subscript.elim e h f else false
theorem fG{e:Expr}{f:Expr→Expr→Pos→Bool}{m:Expr→Prop}(h:cW e f=true)(k:∀ a b c,f a b c=true→m (.Subscript a b c)):m e:=by
 by_cases c:e.ctorIdx=21
 ·exact Expr.Subscript.elim (motive_1:=fun e=>cW e f=true→m e) e c k h
 ·rw[cW,dif_neg c]at h; cases h
noncomputable def lP(e:Expr)(f:Option Expr→Option Expr→Option Expr→Pos→Bool):Bool:=if h:e.ctorIdx=26 then Expr.Slice.elim e h f else false
theorem tQ{e:Expr}{f:Option Expr→Option Expr→Option Expr→Pos→Bool}{m:Expr→Prop}(h:lP e f=true)(k:∀ a b c d,f a b c d=true→m (.Slice a b c d)):m e:=by
 by_cases c:e.ctorIdx=26
 ·exact Expr.Slice.elim (motive_1:=fun e=>lP e f=true→m e) e c k h
 ·rw[lP,dif_neg c]at h; cases h
noncomputable def jX(e:Expr)(f:Expr→List Comprehension→Scope→Pos→Bool):Bool:=if h:e.ctorIdx=8 then Expr.ListComp.elim e h f else false
theorem qN{e:Expr}{f:Expr→List Comprehension→Scope→Pos→Bool}{m:Expr→Prop}(h:jX e f=true)(k:∀ a b c d,f a b c d=true→m (.ListComp a b c d)):m e:=by
 by_cases c:e.ctorIdx=8
 ·exact Expr.ListComp.elim (motive_1:=fun e=>jX e f=true→m e) e c k h
 ·rw[jX,dif_neg c]at h; cases h
noncomputable def NN(e:Expr)(f:Expr→List Comprehension→Scope→Pos→Bool):Bool:=if h:e.ctorIdx=11 then Expr.GeneratorExp.elim e h f else false
noncomputable def iH(e:Expr)(f:List Expr→Pos→Bool):Bool:=if h:e.ctorIdx=18 then Expr.JoinedStr.elim e h f else false
theorem yZ{e:Expr}{f:List Expr→Pos→Bool}{m:Expr→Prop}(h:iH e f=true)(k:∀ a b,f a b=true→m (.JoinedStr a b)):m e:=by
 by_cases c:e.ctorIdx=18
 ·exact Expr.JoinedStr.elim (motive_1:=fun e=>iH e f=true→m e) e c k h
 ·rw[iH,dif_neg c]at h; cases h
noncomputable def dT(e:Expr)(f:Expr→Int→Option Expr→Pos→Bool):Bool:=if h:e.ctorIdx=17 then Expr.FormattedValue.elim e h f else false
theorem oX{e:Expr}{f:Expr→Int→Option Expr→Pos→Bool}{m:Expr→Prop}(h:dT e f=true)(k:∀ a b c d,f a b c d=true→m (.FormattedValue a b c d)):m e:=by
 by_cases c:e.ctorIdx=17
 ·exact Expr.FormattedValue.elim (motive_1:=fun e=>dT e f=true→m e) e c k h
 ·rw[dT,dif_neg c]at h; cases h
noncomputable def eN(e:Stmt)(f:Option Expr→Pos→Bool):Bool:=if h:e.ctorIdx=3 then Stmt.Return.elim e h f else false
theorem iG{e:Stmt}{f:Option Expr→Pos→Bool}{m:Stmt→Prop}(h:eN e f=true)(k:∀ a b,f a b=true→m (.Return a b)):m e:=by
 by_cases c:e.ctorIdx=3
 ·exact Stmt.Return.elim (motive_2:=fun e=>eN e f=true→m e) e c k h
 ·rw[eN,dif_neg c]at h; cases h
noncomputable def cP(e:Stmt)(f:List Expr→Expr→Pos→Bool):Bool:=if h:e.ctorIdx=5 then Stmt.Assign.elim e h f else false
theorem dL{e:Stmt}{f:List Expr→Expr→Pos→Bool}{m:Stmt→Prop}(h:cP e f=true)(k:∀ a b c,f a b c=true→m (.Assign a b c)):m e:=by
 by_cases c:e.ctorIdx=5
 ·exact Stmt.Assign.elim (motive_2:=fun e=>cP e f=true→m e) e c k h
 ·rw[cP,dif_neg c]at h; cases h
noncomputable def dC(e:Stmt)(f:Expr→Operator→Expr→Pos→Bool):Bool:=if h:e.ctorIdx=7 then Stmt.AugAssign.elim e h f else false
theorem g8{e:Stmt}{f:Expr→Operator→Expr→Pos→Bool}{m:Stmt→Prop}(h:dC e f=true)(k:∀ a b c d,f a b c d=true→m (.AugAssign a b c d)):m e:=by
 by_cases c:e.ctorIdx=7
 ·exact Stmt.AugAssign.elim (motive_2:=fun e=>dC e f=true→m e) e c k h
 ·rw[dC,dif_neg c]at h; cases h
noncomputable def nR(e:Stmt)(f:Expr→Expr→List Stmt→List Stmt→Pos→Bool):Bool:=if h:e.ctorIdx=9 then Stmt.For.elim e h f else false
theorem AD{e:Stmt}{f:Expr→Expr→List Stmt→List Stmt→Pos→Bool}{m:Stmt→Prop}(h:nR e f=true)(k:∀ a b c d e,f a b c d e=true→m (.For a b c d e)):m e:=by
 by_cases c:e.ctorIdx=9
 ·exact Stmt.For.elim (motive_2:=fun e=>nR e f=true→m e) e c k h
 ·rw[nR,dif_neg c]at h; cases h
noncomputable def jD(e:Stmt)(f:Expr→List Stmt→List Stmt→Pos→Bool):Bool:=if h:e.ctorIdx=11 then Stmt.While.elim e h f else false
theorem uH{e:Stmt}{f:Expr→List Stmt→List Stmt→Pos→Bool}{m:Stmt→Prop}(h:jD e f=true)(k:∀ a b c d,f a b c d=true→m (.While a b c d)):m e:=by
 by_cases c:e.ctorIdx=11
 ·exact Stmt.While.elim (motive_2:=fun e=>jD e f=true→m e) e c k h
 ·rw[jD,dif_neg c]at h; cases h
noncomputable def pJ(e:Stmt)(f:Expr→List Stmt→List Stmt→Pos→Bool):Bool:=if h:e.ctorIdx=12 then Stmt.If.elim e h f else false
theorem yI{e:Stmt}{f:Expr→List Stmt→List Stmt→Pos→Bool}{m:Stmt→Prop}(h:pJ e f=true)(k:∀ a b c d,f a b c d=true→m (.If a b c d)):m e:=by
 by_cases c:e.ctorIdx=12
 ·exact Stmt.If.elim (motive_2:=fun e=>pJ e f=true→m e) e c k h
 ·rw[pJ,dif_neg c]at h; cases h
noncomputable def l3(e:Stmt)(f:Option Expr→Option Expr→Pos→Bool):Bool:=if h:e.ctorIdx=16 then Stmt.Raise.elim e h f else false
theorem DH{e:Stmt}{f:Option Expr→Option Expr→Pos→Bool}{m:Stmt→Prop}(h:l3 e f=true)(k:∀ a b c,f a b c=true→m (.Raise a b c)):m e:=by
 by_cases c:e.ctorIdx=16
 ·exact Stmt.Raise.elim (motive_2:=fun e=>l3 e f=true→m e) e c k h
 ·rw[l3,dif_neg c]at h; cases h
noncomputable def rG(e:Stmt)(f:List Stmt→List ExceptHandler→List Stmt→List Stmt→Pos→Bool):Bool:=if h:e.ctorIdx=17 then Stmt.Try.elim e h f else false
theorem MK{e:Stmt}{f:List Stmt→List ExceptHandler→List Stmt→List Stmt→Pos→Bool}{m:Stmt→Prop}(h:rG e f=true)(k:∀ a b c d e,f a b c d e=true→m (.Try a b c d e)):m e:=by
 by_cases c:e.ctorIdx=17
 ·exact Stmt.Try.elim (motive_2:=fun e=>rG e f=true→m e) e c k h
 ·rw[rG,dif_neg c]at h; cases h
noncomputable def jW(e:Stmt)(f:Expr→Option Expr→Pos→Bool):Bool:=if h:e.ctorIdx=19 then Stmt.Assert.elim e h f else false
theorem A6{e:Stmt}{f:Expr→Option Expr→Pos→Bool}{m:Stmt→Prop}(h:jW e f=true)(k:∀ a b c,f a b c=true→m (.Assert a b c)):m e:=by
 by_cases c:e.ctorIdx=19
 ·exact Stmt.Assert.elim (motive_2:=fun e=>jW e f=true→m e) e c k h
 ·rw[jW,dif_neg c]at h; cases h
noncomputable def i9(e:Stmt)(f:Expr→Pos→Bool):Bool:=if h:e.ctorIdx=24 then Stmt.Expr.elim e h f else false
theorem pZ{e:Stmt}{f:Expr→Pos→Bool}{m:Stmt→Prop}(h:i9 e f=true)(k:∀ a b,f a b=true→m (.Expr a b)):m e:=by
 by_cases c:e.ctorIdx=24
 ·exact Stmt.Expr.elim (motive_2:=fun e=>i9 e f=true→m e) e c k h
 ·rw[i9,dif_neg c]at h; cases h
theorem b9{α:Type} [BEq α] [LawfulBEq α] {a b:α} {m:α→Prop} (h:(a==b)=true) (k:m b):m a:=eq_of_beq h▸k
noncomputable def Z5(e:Expr):Bool:=bL e fun c _ _=>c.ctorIdx==0
noncomputable def B4(e:Comprehension)(f:Expr→Expr→List Expr→Int→Bool):Bool:=f e.target e.iter e.ifs e.is_async
theorem nT{e:Comprehension}{f:Expr→Expr→List Expr→Int→Bool}{m:Comprehension→Prop}(h:B4 e f=true)(k:∀ a b c d,f a b c d=true→m ⟨a,b,c,d⟩):m e:=by cases e; exact k _ _ _ _ h
noncomputable def W6(e:ExceptHandler)(f:Option Expr→Option Str→List Stmt→Pos→Bool):Bool:=match e with | .ExceptHandler a b c d=>f a b c d
theorem YL{e:ExceptHandler}{f:Option Expr→Option Str→List Stmt→Pos→Bool}{m:ExceptHandler→Prop}(h:W6 e f=true)(k:∀ a b c d,f a b c d=true→m (.ExceptHandler a b c d)):m e:=by cases e; exact k _ _ _ _ h
theorem aL{l:List Bool}(h:l.all id=true){b:Bool}(k:Nat)(e:l[k]? = some b):b=true:=List.all_eq_true.mp h _ (List.mem_of_getElem? e)
theorem bO{b:Bool}(h:(!b)=true):b=false:=by cases b with | true=>cases h | false=>rfl
end Kt.Internal
end
section
open PySem PySem.W
namespace Kt.Internal
abbrev aW:=List (Option PyData)
inductive Bi where
 | len | max2 | min2 | chr
inductive Me where
 | join | find
set_option genCtorIdx false in
inductive Tg where
 | one (x:Nat)
 | two (x y:Nat)
set_option genCtorIdx false in
mutual
inductive PE where
 | lit (d:PyData)
 | var (x:Nat)
 | neg (a:PE)
 | nt (a:PE)
 | bool (isAnd:Bool) (a b:PE)
 | bin (op:Operator) (a b:PE)
 | cmp (op:CmpOp) (a b:PE)
 | ite (c a b:PE)
 | list (es:rZ)
 | rev (a:PE)
 | comp (elt:PE) (t:Tg) (i:PI) (c:PO) (g:PG)
 | call (f:Nat) (es:rZ)
 | bi (b:Bi) (es:rZ)
 | me (m:Me) (o:PE) (es:rZ)
 | idx (a i:PE)
 | slc (a:PE) (lo hi:PO)
inductive rZ where
 | nil
 | cons (e:PE) (es:rZ)
inductive PO where
 | no
 | yes (e:PE)
inductive PI where
 | of (e:PE)
 | range1 (a:PE)
 | range2 (a b:PE)
inductive PG where
 | nil
 | cons (t:Tg) (i:PI) (c:PO) (g:PG)
end
set_option genCtorIdx false in
mutual
inductive PS where
 | assign (x:Nat) (e:PE)
 | assign2 (x y:Nat) (a b:PE)
 | aug (x:Nat) (op:Operator) (e:PE)
 | app (x:Nat) (e:PE)
 | ife (c:PE) (a b:pB)
 | for_ (t:Tg) (i:PI) (b:pB)
 | while_ (c:PE) (b:pB)
 | ret (e:PE)
inductive pB where
 | nil
 | cons (s:PS) (ss:pB)
end
mutual
noncomputable def bK:PyData→Bool
 | .none | .bool _ | .int _=>true
 | .str x=>PyData.strOk x&&decide (x.length≤sizeLine)
 | .list xs=>decide (xs.length≤sizeLine)&&cL xs
 | .tuple _ | .dict _=>false
noncomputable def cL:List PyData→Bool
 | []=>true
 | x::xs=>bK x&&cL xs
end
mutual
theorem bR:∀{d:PyData},bK d=true→d.canLay0=true
 | .none,_=>by simp[PyData.canLay0]
 | .bool _,_=>by simp[PyData.canLay0]
 | .int _,_=>by simp[PyData.canLay0]
 | .str x,h=>by simp[bK]at h; simpa [PyData.canLay0]using h.1
 | .list xs,h=>by simp[bK]at h; simpa [PyData.canLay0]using b8 h.2
 | .tuple _,h | .dict _,h=>by cases h
theorem b8:∀{ds:List PyData},cL ds=true→PyData.canLayAll0 ds=true
 | [],_=>by simp[PyData.canLayAll0]
 | x::xs,h=>by simp[cL]at h; simp[PyData.canLayAll0,bR h.1,b8 h.2]
end
theorem cC:∀{ds:List PyData},cL ds=true↔∀ d∈ds,bK d=true
 | []=>by simp[cL]
 | x::xs=>by simp[cL,cC (ds:=xs)]
theorem k8{xs ys:List PyData}:cL (xs++ys)=true↔cL xs=true∧cL ys=true:=by
 simp only[cC,List.mem_append]
 exact⟨fun h=>⟨fun d hd=>h d (.inl hd),fun d hd=>h d (.inr hd)⟩,fun h d hd=>hd.elim (h.1 d) (h.2 d)⟩
noncomputable def cO:PyData→Option Bool
 | .none=>some false
 | .bool b=>some b
 | .int i=>some (i != 0)
 | .str s=>some (s.length != 0)
 | .list xs=>some (!xs.isEmpty)
 | .tuple _ | .dict _=>none
noncomputable def NS(xs:List PyData):Option PyData:=if xs.length≤sizeLine then some (.list xs)else none
noncomputable def Z0(s:Str):Option PyData:=if s.length≤sizeLine then some (.str s)else none
noncomputable def u8(a:Int):Bool:=decide (a.natAbs<2 ^ 1024)
section
variable{α:Type}
noncomputable def kF(x:PyData)(f:Int→Option α):Option α:=match x with | .int i=>f i | _=>none
noncomputable def mE(x:PyData)(f:Str→Option α):Option α:=match x with | .str i=>f i | _=>none
noncomputable def i8(x:PyData)(f:List PyData→Option α):Option α:=match x with | .list i=>f i | _=>none
noncomputable def SR(x:PyData)(f:Bool→Option α):Option α:=match x with | .bool i=>f i | _=>none
end
noncomputable def XH:Operator→Int→Int→Option PyData
 | .Add,a,b=>some (.int (a+b))
 | .Sub,a,b=>some (.int (a - b))
 | .Mult,a,b=>if u8 a&&u8 b then some (.int (a*b))else none
 | .FloorDiv,a,b=>if 0<b&&u8 b then some (.int (a.fdiv b))else none
 | .Mod,a,b=>if 0<b then some (.int (a.fmod b))else none
 | .Pow,a,b=>if u8 a&&0≤b&&b≤1024 then some (.int (a ^ b.toNat))else none
 | _,_,_=>none
noncomputable def sB(op:Operator)(x y:PyData):Option PyData:=match x with
 | .int a=>kF y (XH op a)
 | .str a=>mE y fun b=>if op == .Add then Z0 (a++b)else none
 | .list a=>i8 y fun b=>if op == .Add then NS (a++b)else none
 | _=>none
noncomputable def pD(a b:PyData):Bool:=decide (min a.depth b.depth≤64)
noncomputable def FG:PyData→Bool
 | .none=>true
 | _=>false
noncomputable def Z1(x y:PyData):Option Bool:=match y with
 | .none=>some (FG x)
 | .bool b=>SR x fun a=>some (a==b)
 | _=>none
noncomputable def Ae(x y:PyData):Option Bool:=match y with
 | .list ys=>if pD x (.list ys)then some (ys.any fun y=>PyData.eqv y x)else none
 | .str t=>mE x fun a=>some (Txt.contains t a)
 | _=>none
noncomputable def TU:CmpOp→Int→Int→Option Bool
 | .Lt,a,b=>some (decide (a<b))
 | .LtE,a,b=>some (decide (a≤b))
 | .Gt,a,b=>some (decide (a>b))
 | .GtE,a,b=>some (decide (a≥b))
 | _,_,_=>none
noncomputable def sA(op:CmpOp)(x y:PyData):Option PyData:=match op with
 | .Eq=>if pD x y then some (.bool (PyData.eqv x y))else none
 | .NotEq=>if pD x y then some (.bool (!PyData.eqv x y))else none
 | .In=>(Ae x y).map .bool
 | .NotIn=>(Ae x y).map fun q=>.bool (!q)
 | .Is=>(Z1 x y).map .bool
 | .IsNot=>(Z1 x y).map fun q=>.bool (!q)
 | op=>kF x fun a=>kF y fun b=>(TU op a b).map .bool
noncomputable def TV(i:Int):Option PyData:=if 0≤i&&i<0xD800 then some (.str ⟨#[i.toNat]⟩)else none
noncomputable def DS:List PyData→Option (List Str)
 | []=>some []
 | d::r=>mE d fun i=>(DS r).map (i :: ·)
noncomputable def tB:PyData→Bool
 | .int _=>true
 | _=>false
noncomputable def fU(xs:List PyData)(i:Nat):Int:=match xs[i]? with | some (.int a)=>a | _=>0
noncomputable def zN(gt:Int→Int→Bool)(xs:List PyData):Option PyData:=if xs.all tB && !xs.isEmpty then some (.int (fU xs (argBest (fun i j=>gt (fU xs i) (fU xs j)) (xs.length - 1))))else none
noncomputable def mL(s t:Str)(k:Nat):Int:=match Builtin.Str.occurrences s t k s.length 1 with | i::_=>(i:Int)| []=>-1
noncomputable def Cz(b:Bi)(x:PyData):Option PyData:=match b with
 | .len=>(match x with | .list xs=>some (.int xs.length)| .str s=>some (.int s.length)| _=>none)
 | .chr=>kF x TV
 | .max2=>i8 x (zN fun a b=>decide (a>b))
 | .min2=>i8 x (zN fun a b=>decide (a<b))
noncomputable def Cy(b:Bi)(x y:PyData):Option PyData:=match b with
 | .max2=>kF x fun a=>kF y fun b=>some (.int (if b>a then b else a))
 | _=>none
noncomputable def TK{α:Type}(ds:List PyData)(f:PyData→Option α)(g:PyData→PyData→Option α):Option α:=match ds with
 | []=>none
 | x::r=>(match r with | []=>f x | y::r=>if r.isEmpty then g x y else none)
noncomputable def RK(b:Bi)(ds:List PyData):Option PyData:=TK ds (Cz b) (Cy b)
noncomputable def vQ(sep:Str)(xs:List PyData):Option PyData:=(DS xs).bind fun l=>if l.foldl (fun n x=>n+x.length+sep.length) 0≤2 ^ 20 then some (.str (Str.join sep l))else none
noncomputable def Bu(m:Me)(o:PyData)(ds:List PyData):Option PyData:=TK ds (fun x=>match m with
 | .join=>mE o fun sep=>i8 x (vQ sep)
 | .find=>mE o fun s=>mE x fun t=>some (.int (mL s t 0))) fun x y=>match m with
 | .find=>mE o fun s=>mE x fun t=>kF y fun i=>some (.int (mL s t (fromIndex s.length i)))
 | _=>none
noncomputable def cT(i:Int)(n:Nat):Option Nat :=
 if -(2 ^ 62)<i&&i<2 ^ 62 then
  (if 0≤i then(if i.toNat<n then some i.toNat else none)
   else if 0≤i+n then some (i+n).toNat else none)
 else none
noncomputable def BM(x y:PyData):Option PyData:=kF y fun i=>match x with
 | .list xs=>(cT i xs.length).bind (xs[·]?)
 | .str s=>(cT i s.length).bind fun k=>(s.cps[k]?).map fun c=>.str ⟨#[c]⟩
 | _=>none
noncomputable def dH(i:Int)(n:Nat):Nat:=(max 0 (min (if i<0 then i+n else i) (n:Int))).toNat
noncomputable def cut{α:Type}(l:List α)(lo hi:Option Int):List α :=
 let a:=match lo with | none=>0 | some i=>dH i l.length
 let b:=match hi with | none=>l.length | some i=>dH i l.length
 (l.take b).drop a
noncomputable def IA(d:PyData)(lo hi:Option Int):Option PyData :=
 match d with
 | .list xs=>some (.list (cut xs lo hi))
 | .str s=>some (.str ⟨(cut s.cps.toList lo hi).toArray⟩)
 | _=>none
noncomputable def qH:PyData→Option Int
 | .int i=>if -(2 ^ 62)<i&&i<2 ^ 62 then some i else none
 | _=>none
noncomputable def TH:PyData→Option PyData
 | .list xs=>some (.list xs.reverse)
 | .str s=>some (.str ⟨s.cps.toList.reverse.toArray⟩)
 | _=>none
noncomputable def WX(lo hi k:Int):List PyData:=(List.range (Builtin.Range.rangeSize lo hi k).toNat).map fun(j:Nat)=>PyData.int (lo+(j:Int)*k)
noncomputable def rC(n:Int):Bool:=decide (0≤n)&&decide (n≤2 ^ 20)
noncomputable def KD:PyData→Option (List PyData)
 | .list xs=>some xs
 | _=>none
noncomputable def W2{α:Type}(d:PyData)(f:PyData→PyData→Option α):Option α:=i8 d fun l=>match l with
 | []=>none
 | a::l=>match l with
  | []=>none
  | b::r=>if r.isEmpty then f a b else none
noncomputable def iC:Tg→PyData→aW→Option aW
 | .one x,d,ρ=>some (ρ.set x (some d))
 | .two x y,d,ρ=>W2 d fun a b=>some ((ρ.set x (some a)).set y (some b))
noncomputable def b0:Tg→List Nat
 | .one x=>[x]
 | .two x y=>[x,y]
noncomputable def u0:PG→List Nat
 | .nil=>[]
 | .cons t _ _ g=>b0 t++u0 g
noncomputable def NW:List Nat→aW→aW
 | [],ρ=>ρ
 | x::xs,ρ=>NW xs (ρ.set x none)
noncomputable def zF(f:PyData→Option (List PyData)):List PyData→Option (List PyData)
 | []=>some []
 | d::ds=>(f d).bind fun a=>(zF f ds).map fun r=>a++r
noncomputable def bB(ρ:aW)(x:Nat):Option PyData:=(ρ[x]?).join
section
variable(cl:Nat→List PyData→Option PyData)
mutual
noncomputable def aH:PE→aW→Option PyData
 | .lit d,_=>some d
 | .var x,ρ=>bB ρ x
 | .neg a,ρ=>(aH a ρ).bind fun d=>kF d fun i=>some (.int (-i))
 | .nt a,ρ=>(aH a ρ).bind fun d=>(cO d).map fun b=>.bool (!b)
 | .bool q a b,ρ=>(aH a ρ).bind fun d=>(cO d).bind fun t=>if t==q then aH b ρ else some d
 | .bin op a b,ρ=>(aH a ρ).bind fun x=>(aH b ρ).bind fun y=>sB op x y
 | .cmp op a b,ρ=>(aH a ρ).bind fun x=>(aH b ρ).bind fun y=>sA op x y
 | .ite c a b,ρ=>(aH c ρ).bind fun d=>(cO d).bind fun t=>if t then aH a ρ else aH b ρ
 | .list es,ρ=>(kE es ρ).map .list
 | .comp elt t i c g,ρ=>(zA i ρ).bind fun ds=>(zF (fun d=>(iC t d (NW (b0 t++u0 g) ρ)).bind fun ρ'=>(NU c ρ').bind fun b=>if b then S8 (aH elt) g ρ' else some []) ds).bind NS
 | .call f es,ρ=>(kE es ρ).bind fun l=>cl f l
 | .bi b es,ρ=>(kE es ρ).bind fun l=>RK b l
 | .me m o es,ρ=>(aH o ρ).bind fun d=>(kE es ρ).bind fun l=>Bu m d l
 | .rev a,ρ=>(aH a ρ).bind TH
 | .idx a i,ρ=>(aH a ρ).bind fun x=>(aH i ρ).bind fun y=>BM x y
 | .slc a lo hi,ρ=>(aH a ρ).bind fun x=>(WW lo ρ).bind fun l=>(WW hi ρ).bind fun h=>IA x l h
noncomputable def kE:rZ→aW→Option (List PyData)
 | .nil,_=>some []
 | .cons e es,ρ=>(aH e ρ).bind fun d=>(kE es ρ).map fun l=>d::l
noncomputable def WW:PO→aW→Option (Option Int)
 | .no,_=>some none
 | .yes e,ρ=>(aH e ρ).bind fun d=>(qH d).map some
noncomputable def zA:PI→aW→Option (List PyData)
 | .of e,ρ=>(aH e ρ).bind KD
 | .range1 a,ρ=>(aH a ρ).bind fun d=>kF d fun n=>if rC n then some (WX 0 n 1)else none
 | .range2 a b,ρ=>(aH a ρ).bind fun x=>(aH b ρ).bind fun y=>kF x fun m=>kF y fun n=>if rC m&&rC n then some (WX m n 1)else none
noncomputable def NU:PO→aW→Option Bool
 | .no,_=>some true
 | .yes e,ρ=>(aH e ρ).bind cO
noncomputable def S8(fe:aW→Option PyData):PG→aW→Option (List PyData)
 | .nil,ρ=>(fe ρ).map fun d=>[d]
 | .cons t i c g,ρ=>(zA i ρ).bind fun ds=>zF (fun d=>(iC t d ρ).bind fun ρ'=>(NU c ρ').bind fun b=>if b then S8 fe g ρ' else some []) ds
end
end
mutual
noncomputable def lG:PE→List Nat
 | .lit _=>[]
 | .var x=>[x]
 | .neg a=>lG a
 | .nt a=>lG a
 | .bool _ a b=>lG a++lG b
 | .bin _ a b=>lG a++lG b
 | .cmp _ a b=>lG a++lG b
 | .ite _ a b=>lG a++lG b
 | .list es=>r8 es
 | .comp elt _ i _ g=>lG elt++(eB i++GB g)
 | .call _ es=>r8 es
 | .bi _ es=>r8 es
 | .me _ o es=>lG o++r8 es
 | .rev a=>lG a
 | .idx a _=>lG a
 | .slc a _ _=>lG a
noncomputable def r8:rZ→List Nat
 | .nil=>[]
 | .cons e es=>lG e++r8 es
noncomputable def eB:PI→List Nat
 | .of e=>lG e
 | .range1 _=>[]
 | .range2 _ _=>[]
noncomputable def GB:PG→List Nat
 | .nil=>[]
 | .cons _ i _ g=>eB i++GB g
end
noncomputable def flat:PyData→Bool
 | .none | .bool _ | .int _ | .str _=>true
 | _=>false
noncomputable def vR:PE→Bool
 | .list _ | .comp _ _ _ _ _=>true
 | _=>false
noncomputable def Am:PE→Bool
 | .list .nil=>true
 | _=>false
noncomputable def SL:PE→Bool
 | .lit d=>flat d
 | _=>false
noncomputable def u6(a b:PE):Bool:=Am a&&SL b
structure eV where
 env:aW
 own:List Nat
noncomputable def lose(own xs:List Nat):List Nat:=own.filter fun y=>!xs.contains y
noncomputable def b5(own:List Nat)(d:PyData)(e:PE):List Nat:=if flat d then own else lose own (lG e)
noncomputable def BF(σ:eV)(x:Nat)(d:PyData)(own:List Nat)(new:Bool):eV :=
 { env:=σ.env.set x (some d),own:=let r:=own.filter (· != x); if new then x::r else r }
set_option genCtorIdx false in
inductive Fl where
 | next (σ:eV)
 | ret (d:PyData)
noncomputable def fX(body:eV→Option Fl)(bind:PyData→eV→Option eV):List PyData→eV→Option Fl
 | [],σ=>some (.next σ)
 | d::ds,σ=>(bind d σ).bind fun σ₁=>(body σ₁).bind fun
  | .next σ₂=>fX body bind ds σ₂
  | .ret v=>some (.ret v)
noncomputable def dJ(test:eV→Option Bool)(body:eV→Option Fl):Nat→eV→Option Fl
 | 0,_=>none
 | n+1,σ=>(test σ).bind fun t=>if t then(body σ).bind fun
   | .next σ₂=>dJ test body n σ₂
   | .ret v=>some (.ret v)
  else some (.next σ)
section
variable(cl:Nat→List PyData→Option PyData)(fuel:Nat)
mutual
noncomputable def vJ:PS→eV→Option Fl
 | .assign x e,σ=>(aH cl e σ.env).map fun d=>.next (BF σ x d (b5 σ.own d e) (vR e))
 | .assign2 x y a b,σ=>(aH cl a σ.env).bind fun d=>(aH cl b σ.env).map fun d' =>
   .next (BF (BF σ x d (b5 (b5 σ.own d a) d' b) (u6 a b)) y d' ((BF σ x d (b5 (b5 σ.own d a) d' b) (u6 a b)).own) false)
 | .aug x op e,σ=>(bB σ.env x).bind fun a=>(aH cl e σ.env).bind fun b=>if flat a&&flat b&&(op == .Add||op == .Sub)then(sB op a b).map fun d=>.next (BF σ x d σ.own false)else none
 | .app x e,σ=>if σ.own.contains x then((bB σ.env x).bind fun q=>i8 q fun xs=>(aH cl e σ.env).bind fun d =>
     if !flat d&&(lG e).contains x then none
     else(NS (xs++[d])).map fun l=>.next { env:=σ.env.set x (some l),own:=b5 σ.own d e })else none
 | .ife c a b,σ=>(aH cl c σ.env).bind fun d=>(cO d).bind fun t=>if t then dO a σ else dO b σ
 | .for_ t i b,σ=>(zA cl i σ.env).bind fun ds =>
   fX (dO b) (fun d τ=>(iC t d τ.env).map fun ρ=>{ env:=ρ,own:=lose τ.own (b0 t) }) ds { σ with own:=lose σ.own (eB i) }
 | .while_ c b,σ=>dJ (fun τ=>(aH cl c τ.env).bind cO) (dO b) fuel σ
 | .ret e,σ=>(aH cl e σ.env).map .ret
noncomputable def dO:pB→eV→Option Fl
 | .nil,σ=>some (.next σ)
 | .cons s ss,σ=>(vJ s σ).bind fun
  | .next σ'=>dO ss σ'
  | .ret d=>some (.ret d)
end
end
structure PF where
 size:Nat
 arity:Nat
 body:pB
noncomputable def eI(n:Nat)(args:List PyData):aW:=args.map some++List.replicate (n - args.length) none
noncomputable def cG(tab:Nat→Option PF)(prim:Nat→List PyData→Option PyData)(fuel:Nat):Nat→Nat→List PyData→Option PyData
 | 0,_,_=>none
 | lvl+1,f,args=>match tab f with
  | some pf=>if args.length=pf.arity then
    (match dO (cG tab prim fuel lvl) fuel pf.body ⟨eI pf.size args,[]⟩with
     | some (.ret d)=>some d
     | some (.next _)=>some .none
     | none=>none)else none
  | none=>prim f args
end Kt.Internal
end
section
open PySem PySem.W PyProof.Rows
namespace Kt.Internal
def iX(o:Option Nat)(es:List Nat):Prop:=∃ y∈es,o=some y
structure aF where
 prog:Program
 w:World
 h₀:Heap
 os:OsState
 TabI:Heap→Prop
 tabK:∀ h h':Heap,TabI h→(∀ b o,b<h₀.objs.size→h.get? b=some o→h'.get? b=some o)→TabI h'
 mg:Str→Option Value
 mb:Str→Option Value
 hg:h₀.Ns mainGlobals mg
 hb:h₀.Ns builtinsNs mb
 fr:List Addr
 lam:Value:=.none
noncomputable abbrev aF.n(Z:aF):Nat:=Z.h₀.objs.size
def Sl(h':Heap)(b:Addr)(o:Obj):Prop:=h'.get? b=some o∨((∃ es ep,o.data = .dict es ep)∧∃ sl,h'.get? b=some { o with slots:=sl })
theorem Sl.ex{h':Heap}{b:Addr}{o:Obj}(x:Sl h' b o):∃ o',h'.get? b=some o'∧o'.cls=o.cls∧o'.data=o.data:=by
 rcases x with e | ⟨_,sl,e⟩
 ·exact⟨o,e,rfl,rfl⟩
 ·exact⟨_,e,rfl,rfl⟩
theorem Sl.lt{h':Heap}{b:Addr}{o:Obj}(x:Sl h' b o):b<h'.objs.size:=let⟨_,e,_⟩:=x.ex; Heap.lt_size e
theorem Sl.seq{h':Heap}{b:Addr}{o:Obj}{xs:Array Value}{n:Nat}(x:Sl h' b o)(hd:o.data = .seq xs n):h'.get? b=some o:=by
 rcases x with e | ⟨⟨es,ep,e⟩,_⟩
 ·exact e
 ·rw[hd]at e; cases e
theorem Sl.cell{h':Heap}{b:Addr}{o:Obj}{v:Option Value}(x:Sl h' b o)(hd:o.data = .cell v):h'.get? b=some o:=by
 rcases x with e | ⟨⟨es,ep,e⟩,_⟩
 ·exact e
 ·rw[hd]at e; cases e
theorem Sl.flds{h':Heap}{b:Addr}{o:Obj}{vs:Array Value}(x:Sl h' b o)(hd:o.data = .fields vs):h'.get? b=some o:=by
 rcases x with e | ⟨⟨es,ep,e⟩,_⟩
 ·exact e
 ·rw[hd]at e; cases e
theorem Sl.nd{h':Heap}{b:Addr}{o:Obj}(x:Sl h' b o)(hd:∀ es ep,o.data ≠ .dict es ep):h'.get? b=some o:=by
 rcases x with e | ⟨⟨es,ep,e⟩,_⟩
 ·exact e
 ·exact absurd e (hd es ep)
theorem Sl.next{h₁ h₂:Heap}{b:Addr}{o:Obj}(x:Sl h₁ b o)(y:∀ o',h₁.get? b=some o'→o'.cls=o.cls→Sl h₂ b o'):Sl h₂ b o:=by
 rcases x with e | ⟨hd,sl,e⟩
 ·exact y o e rfl
 ·rcases y _ e rfl with e' | ⟨_,sl',e'⟩
  ·exact .inr ⟨hd,sl,e'⟩
  ·exact .inr ⟨hd,sl',e'⟩
theorem Sl.then{h₁ h₂:Heap}{b:Addr}{o:Obj}(x:Sl h₁ b o)(y:∀ o',h₁.get? b=some o'→h₂.get? b=some o'):Sl h₂ b o:=x.next fun o' e _=>.inl (y o' e)
structure Kp(n:Nat)(h h':Heap):Prop where
 k:∀ b o,h.get? b=some o→(o.cls ≠ .none∨n≤b)→Sl h' b o
theorem Kp.refl(n:Nat)(h:Heap):Kp n h h:=⟨fun _ _ e _=>.inl e⟩
theorem Kp.trans{n:Nat}{h₁ h₂ h₃:Heap}(x:Kp n h₁ h₂)(y:Kp n h₂ h₃):Kp n h₁ h₃:=⟨fun b o e c=>(x.k b o e c).next fun o' e' hc=>y.k b o' e' (by rw[hc]; exact c)⟩
theorem Kp.of{n:Nat}{h h':Heap}(k:∀ b o,h.get? b=some o→h'.get? b=some o):Kp n h h':=⟨fun b o e _=>.inl (k b o e)⟩
theorem Kp.push(n:Nat)(h:Heap)(o:Obj):Kp n h (h.push o):=.of fun _ _ e=>Heap.get?_push_of_some _ e
theorem Kp.ns{n:Nat}{h h':Heap}{a:Addr}{m:Str→Option Value}(k:Kp n h h')(ha:n≤a)(x:h.Ns a m):h'.Ns a m :=
 let⟨_,es,ep,e,hd,r⟩:=x; let⟨o',e',_,hd'⟩:=(k.k _ _ e (.inr ha)).ex; ⟨o',es,ep,e',hd'.trans hd,r⟩
theorem Kp.cell{n:Nat}{h h':Heap}{a:Addr}{v:Option Value}(k:Kp n h h')(ha:n≤a)(x:h.IsCell a v):h'.IsCell a v :=
 let⟨o,e,r⟩:=x; ⟨o,(k.k _ _ e (.inr ha)).cell r,r⟩
inductive iV(h:Heap):Bool→List Value→List PyData→List Addr→Prop
 | none:iV h true [.none] [.none] []
 | bool (b):iV h true [.bool b] [.bool b] []
 | int (i t):iV h true [.int i t] [.int i] []
 | str (x t):iV h true [.str x t] [.str x] []
 | list {a o vs n xs as}:h.get? a=some o→(o.cls = .type "list" ∧ o.dict=none)→o.data = .seq vs n→iV h false vs.toList xs as→iV h true [.ref a] [.list xs] (a::as)
 | nil:iV h false [] [] []
 | cons {v vs d ds as bs}:iV h true [v] [d] as→iV h false vs ds bs→iV h false (v::vs) (d::ds) (as++bs)
abbrev Rd(h:Heap)(v:Value)(d:PyData)(as:List Addr):Prop:=iV h true [v] [d] as
abbrev aU(h:Heap)(vs:List Value)(ds:List PyData)(as:List Addr):Prop:=iV h false vs ds as
theorem aU.ind{h:Heap}{P:List Value→List PyData→List Addr→Prop}(h0:P [] [] [])(h1:∀{v vs d ds as bs},Rd h v d as→aU h vs ds bs→P vs ds bs→P (v::vs) (d::ds) (as++bs)){vs:List Value}{ds:List PyData}{as:List Addr}(r:aU h vs ds as):P vs ds as:=by
 have:∀{q vs ds as},iV h q vs ds as→q=false→P vs ds as:=fun r=>by
  induction r with
  | nil=>exact fun _=>h0
  | cons r1 r2 _ i2=>exact fun _=>h1 r1 r2 (i2 rfl)
  | _=>exact nofun
 exact this r rfl
theorem iV.map{h h':Heap}{q:Bool}{vs:List Value}{ds:List PyData}{as:List Addr}(r:iV h q vs ds as) :
  (∀ a o,a∈as→h.get? a=some o→o.cls = .type "list" → h'.get? a=some o)→iV h' q vs ds as:=by
 induction r with
 | none=>intro _; exact .none
 | bool b=>intro _; exact .bool b
 | int i t=>intro _; exact .int i t
 | str x t=>intro _; exact .str x t
 | list h1 h2 h3 h4 ih=>intro k; exact .list (k _ _ List.mem_cons_self h1 h2.1) h2 h3 (ih fun a o ha=>k a o (List.mem_cons_of_mem _ ha))
 | nil=>intro _; exact .nil
 | cons h1 h2 i1 i2=>intro k; exact .cons (i1 fun a o ha=>k a o (List.mem_append_left _ ha)) (i2 fun a o ha=>k a o (List.mem_append_right _ ha))
theorem iV.objs{h:Heap}{q:Bool}{vs:List Value}{ds:List PyData}{as:List Addr}(r:iV h q vs ds as):∀ a∈as,∃ o xs n,h.get? a=some o∧o.data = .seq xs n∧o.cls = .type "list" := by
 induction r with
 | none=>intro _ h; cases h
 | bool=>intro _ h; cases h
 | int=>intro _ h; cases h
 | str=>intro _ h; cases h
 | list h1 h2 h3 h4 ih =>
  intro a ha
  rcases List.mem_cons.mp ha with rfl | ha
  ·exact⟨_,_,_,h1,h3,h2.1⟩
  ·exact ih a ha
 | nil=>intro _ h; cases h
 | cons _ _ i1 i2 =>
  intro a ha
  exact(List.mem_append.mp ha).elim (i1 a) (i2 a)
theorem Kp.rd{n:Nat}{h h':Heap}{q:Bool}{vs:List Value}{ds:List PyData}{as:List Addr}(k:Kp n h h')(r:iV h q vs ds as):iV h' q vs ds as :=
 r.map fun a o ha e c=>by
  obtain⟨o',xs,m,e',hd,_⟩:=r.objs a ha
  rw[e]at e'; cases e'
  exact(k.k a o e (.inl (by rw[c]; nofun))).seq hd
theorem iV.lt{h:Heap}{q:Bool}{vs:List Value}{ds:List PyData}{as:List Addr}(r:iV h q vs ds as):∀ a∈as,a<h.objs.size:=by
 induction r with
 | none=>intro _ h; cases h
 | bool=>intro _ h; cases h
 | int=>intro _ h; cases h
 | str=>intro _ h; cases h
 | list h1 h2 h3 h4 ih =>
  intro a ha
  rcases List.mem_cons.mp ha with rfl | ha
  ·exact Heap.lt_size h1
  ·exact ih a ha
 | nil=>intro _ h; cases h
 | cons _ _ i1 i2=>intro a ha; exact(List.mem_append.mp ha).elim (i1 a) (i2 a)
theorem iV.reads'{h:Heap}{q:Bool}{vs:List Value}{ds:List PyData}{as:List Addr}(r:iV h q vs ds as):∃ bs,(q=true→∀ v d,vs=[v]→ds=[d]→Reads h v d bs)∧(q=false→ReadsAll h vs ds bs):=by
 induction r with
 | none=>exact⟨[],fun _ v d e1 e2=>by cases e1; cases e2; exact .none,nofun⟩
 | bool b=>exact⟨[],fun _ v d e1 e2=>by cases e1; cases e2; exact .bool b,nofun⟩
 | int i t=>exact⟨[],fun _ v d e1 e2=>by cases e1; cases e2; exact .int i t,nofun⟩
 | str x t=>exact⟨[],fun _ v d e1 e2=>by cases e1; cases e2; exact .str x t,nofun⟩
 | list h1 h2 h3 h4 ih =>
  obtain⟨bs,_,hb⟩:=ih
  exact⟨_,fun _ v d e1 e2=>by cases e1; cases e2; exact .list h1 h2.1 h3 (hb rfl),nofun⟩
 | nil=>exact⟨[],nofun,fun _=>.nil⟩
 | cons h1 h2 i1 i2 =>
  obtain⟨b1,x1,_⟩:=i1
  obtain⟨b2,_,x2⟩:=i2
  exact⟨b1++b2,nofun,fun _=>.cons (x1 rfl _ _ rfl rfl) (x2 rfl)⟩
theorem Rd.reads{h:Heap}{v:Value}{d:PyData}{as:List Addr}(r:Rd h v d as):∃ bs,Reads h v d bs:=let⟨bs,x,_⟩:=iV.reads' r; ⟨bs,x rfl _ _ rfl rfl⟩
theorem aU.reads{h:Heap}{vs:List Value}{ds:List PyData}{as:List Addr}(r:aU h vs ds as):∃ bs,ReadsAll h vs ds bs:=let⟨bs,_,x⟩:=iV.reads' r; ⟨bs,x rfl⟩
theorem iV.same{h:Heap}{q:Bool}{vs:List Value}{ds:List PyData}{as:List Addr}(r:iV h q vs ds as):∀{ds':List PyData}{as':List Addr},iV h q vs ds' as'→ds=ds'∧as=as':=by
 induction r with
 | none=>intro ds' as' r'; cases r'; exact⟨rfl,rfl⟩
 | bool b=>intro ds' as' r'; cases r'; exact⟨rfl,rfl⟩
 | int i t=>intro ds' as' r'; cases r'; exact⟨rfl,rfl⟩
 | str x t=>intro ds' as' r'; cases r'; exact⟨rfl,rfl⟩
 | list h1 h2 h3 h4 ih =>
  intro ds' as' r'
  cases r' with
  | list g1 g2 g3 g4 =>
   rw[h1]at g1; cases g1
   rw[h3]at g3; cases g3
   obtain⟨e1,e2⟩:=ih g4
   subst e1 e2
   exact⟨rfl,rfl⟩
 | nil=>intro ds' as' r'; cases r'; exact⟨rfl,rfl⟩
 | cons h1 h2 i1 i2 =>
  intro ds' as' r'
  cases r' with
  | cons g1 g2 =>
   obtain⟨e1,e2⟩:=i1 g1
   obtain⟨e3,e4⟩:=i2 g2
   simp only[List.cons.injEq,and_true]at e1
   subst e1 e2 e3 e4
   exact⟨rfl,rfl⟩
theorem iV.inside{h:Heap}{q:Bool}{vs:List Value}{ds:List PyData}{as:List Addr}(r:iV h q vs ds as):∀ a∈as,∃ d' as',Rd h (.ref a) d' as'∧as'.length≤as.length∧∃ r,as'=a::r:=by
 induction r with
 | none=>intro _ h; cases h
 | bool=>intro _ h; cases h
 | int=>intro _ h; cases h
 | str=>intro _ h; cases h
 | list h1 h2 h3 h4 ih =>
  intro a ha
  rcases List.mem_cons.mp ha with rfl | ha
  ·exact⟨_,_,.list h1 h2 h3 h4,Nat.le_refl _,_,rfl⟩
  ·obtain⟨d',as',x,y,z⟩:=ih a ha
   exact⟨d',as',x,Nat.le_succ_of_le y,z⟩
 | nil=>intro _ h; cases h
 | cons _ _ i1 i2 =>
  intro a ha
  rcases List.mem_append.mp ha with ha | ha
  ·obtain⟨d',as',x,y,z⟩:=i1 a ha
   exact⟨d',as',x,by rw[List.length_append]; exact Nat.le_trans y (Nat.le_add_right _ _),z⟩
  ·obtain⟨d',as',x,y,z⟩:=i2 a ha
   exact⟨d',as',x,by rw[List.length_append]; exact Nat.le_trans y (Nat.le_add_left _ _),z⟩
theorem Rd.shape{h:Heap}{v:Value}{d:PyData}{as:List Addr}(r:Rd h v d as):(as=[]∧∀ a,v ≠ .ref a)∨∃ a bs vs ds,v = .ref a∧as=a::bs∧aU h vs ds bs:=by
 cases r with
 | list h1 h2 h3 h4=>exact .inr ⟨_,_,_,_,rfl,rfl,h4⟩
 | _=>exact .inl ⟨rfl,nofun⟩
theorem Rd.apart{h:Heap}{v:Value}{d:PyData}{as:List Addr}{b:Addr}(r:Rd h v d as)(hb:as.head? = some b):b∉as.tail:=by
 rcases r.shape with⟨rfl,_⟩| ⟨a,bs,vs,ds,rfl,rfl,hin⟩
 ·cases hb
 ·simp only[List.head?_cons,Option.some.injEq]at hb
  subst hb
  intro hm
  obtain⟨d',as',r',hlen,r2,rfl⟩:=iV.inside hin a hm
  have:=(iV.same r r').2
  rw[← this]at hlen
  exact Nat.not_succ_le_self _ hlen
theorem C6{h:Heap}{vs:List Value}{ns:List Int}(hi:IntsAre vs ns):aU h vs (ns.map .int) []:=by
 induction hi with
 | nil=>exact .nil
 | cons n t _ ih=>exact iV.cons (as:=[]) (bs:=[]) (.int n t) ih
structure bA(Z:aF)(s:Shared):Prop where
 old:OldK Z.h₀ s.heap
 lim:s.heap.NoLimit
 tab:Z.TabI s.heap
 gens:AllBare s.gens
 os:s.os=Z.os
 frs:∀ L∈Z.fr,Z.n≤L∧∃ o,s.heap.get? L=some o∧∃ es ep,o.data = .dict es ep
theorem OldK.stepOld{h₀ h h':Heap}(K:OldK h₀ h)(hk:∀ b o,b<h₀.objs.size→h.get? b=some o→h'.get? b=some o):OldK h₀ h':=by
 refine⟨fun b o e=>?_,fun b o e=>let⟨o',ho'⟩:=K.there b o e; ⟨o',hk _ _ (Heap.lt_size e) ho'⟩⟩
 have hb:=Heap.lt_size e
 rcases K.old b o e with x | ⟨t,hc,vs,more,hv,x⟩| ⟨rfl,hc,⟨o',es,n,ho',r⟩,z⟩
 ·exact .inl (hk _ _ hb x)
 ·exact .inr (.inl ⟨t,hc,vs,more,hv,hk _ _ hb x⟩)
 ·exact .inr (.inr ⟨rfl,hc,⟨o',es,n,hk _ _ hb ho',r⟩,fun key=>by rw[OldK.staticOf_congr ((hk _ _ hb ho').trans ho'.symm) key]; exact z key⟩)
theorem bA.step{Z:aF}{s:Shared}(I:bA Z s){h':Heap}{tk:Nat}(hk:∀ b o,b<Z.n→s.heap.get? b=some o→h'.get? b=some o)
  (hc:cStatics<Z.n) (hf:∀ L∈Z.fr,∀ o,s.heap.get? L=some o→(∃ es ep,o.data = .dict es ep)→∃ o',h'.get? L=some o'∧∃ es ep,o'.data = .dict es ep):bA Z { s with heap:=h',toks:=tk } where
 old:=OldK.stepOld I.old hk
 lim:=let⟨mc,⟨o,es,ep,e,r⟩,b⟩:=I.lim; ⟨mc,⟨o,es,ep,hk _ _ hc e,r⟩,b⟩
 tab:=Z.tabK _ _ I.tab hk
 gens:=I.gens
 os:=I.os
 frs:=fun L hL=>let⟨h1,o,e,hd⟩:=I.frs L hL; ⟨h1,hf L hL o e hd⟩
theorem aF.low(Z:aF):mainGlobals<Z.n:=Z.hg.lt
theorem aF.lowC(Z:aF):cStatics<Z.n:=Nat.lt_trans (by decide) Z.low
theorem bA.full{Z:aF}{s:Shared}(I:bA Z s){h':Heap}{tk:Nat}(hk:∀ b o,s.heap.get? b=some o→h'.get? b=some o):bA Z { s with heap:=h',toks:=tk } :=
 I.step (fun b o _ e=>hk b o e) Z.lowC fun L _ o e hd=>⟨o,hk L o e,hd⟩
theorem bA.tok{Z:aF}{s:Shared}(I:bA Z s)(tk:Nat):bA Z { s with toks:=tk }:=⟨I.old,I.lim,I.tab,I.gens,I.os,I.frs⟩
theorem bA.push{Z:aF}{s:Shared}(I:bA Z s)(o:Obj)(tk:Nat):bA Z { s with heap:=s.heap.push o,toks:=tk } :=
 I.full fun _ _ e=>Heap.get?_push_of_some _ e
theorem bA.same{Z:aF}{s:Shared}(I:bA Z s){a:Addr}{h':Heap}(ha:Z.n≤a)(hs:Heap.SameBut a s.heap h')(hfa:a∈Z.fr→∃ o',h'.get? a=some o'∧∃ es ep,o'.data = .dict es ep)(tk:Nat):bA Z { s with heap:=h',toks:=tk } :=
 I.step (fun b o hb e=>(hs.2 b (by rintro rfl; exact Nat.lt_irrefl _ (Nat.lt_of_lt_of_le hb ha))).trans e) Z.lowC fun L hL o e hd=>by
  by_cases e':L=a
  ·subst e'; exact hfa hL
  ·exact⟨o,(hs.2 L e').trans e,hd⟩
theorem bA.notFr{Z:aF}{s:Shared}(I:bA Z s){a:Addr}(ha:s.heap.get? a=none):a∉Z.fr:=fun h=>by obtain⟨_,o,e,_⟩:=I.frs a h; rw[ha]at e; cases e
theorem bA.frNot{Z:aF}{s:Shared}(I:bA Z s){a:Addr}{o:Obj}(ha:s.heap.get? a=some o)(hd:∀ es ep,o.data ≠ .dict es ep):a∉Z.fr:=fun h=>by obtain⟨_,o',e,es,ep,hd'⟩:=I.frs a h; rw[ha]at e; cases e; exact hd es ep hd'
theorem bA.frLt{Z:aF}{s:Shared}(I:bA Z s){a:Addr}(ha:s.heap.objs.size≤a):a∉Z.fr:=fun h=>by obtain⟨_,o,e,_⟩:=I.frs a h; exact absurd (Heap.lt_size e) (Nat.not_lt.mpr ha)
theorem E1{h₀ h:Heap}(K:OldK h₀ h){a:Addr}{m:Str→Option Value}(x:h₀.Ns a m)(ha:a≠cStatics):h.Ns a m:=by
 obtain⟨o,es,ep,e,hd,r⟩:=x
 rcases K.old a o e with h1 | ⟨_,_,vs,more,hv,_⟩| ⟨h1,_⟩
 ·exact⟨o,es,ep,h1,hd,r⟩
 ·rw[hd]at hv; cases hv
 ·exact absurd h1 ha
theorem bA.glob{Z:aF}{s:Shared}(I:bA Z s):s.heap.Ns mainGlobals Z.mg:=E1 I.old Z.hg (by decide)
theorem bA.bltn{Z:aF}{s:Shared}(I:bA Z s):s.heap.Ns builtinsNs Z.mb:=E1 I.old Z.hb (by decide)
def WZ(env:Env)(n:Str):Prop:=env.kindOf n=some .local∨env.kindOf n=some .cell∨env.kindOf n=some .free
def uZ(env:Env)(h:Heap)(n:Str)(v:Value):Prop :=
 (env.kindOf n=some .local∧∃ m,h.Ns env.locals m∧m n=some v) ∨
 ((env.kindOf n=some .cell∨env.kindOf n=some .free)∧∃ c,env.cells.lookup n=some c∧h.IsCell c (some v))
structure aK(Z:aF)(nm:List Str)(env:Env)(ρ:aW)(O:List (Option Nat×Addr))(h:Heap):Prop where
 kind:env.scope.kind = .function
 glob:env.globals=mainGlobals
 blt:env.builtins=builtinsNs
 new:Z.n≤env.locals
 ns:∃ m,h.Ns env.locals m
 live:∀ yb∈O,∃ o,h.get? yb.2=some o∧o.cls ≠ .none
 apart:∀ yb∈O,yb.2≠env.locals∧∀ n c,(env.kindOf n=some .cell∨env.kindOf n=some .free)→env.cells.lookup n=some c→yb.2≠c
 cells:∀ n,(env.kindOf n=some .cell∨env.kindOf n=some .free)→∃ c v,env.cells.lookup n=some c∧Z.n≤c∧h.IsCell c v
 inj:∀ n m c,(env.kindOf n=some .cell∨env.kindOf n=some .free)→(env.kindOf m=some .cell∨env.kindOf m=some .free)→env.cells.lookup n=some c→env.cells.lookup m=some c→n=m
 vars:∀ x d n,bB ρ x=some d→nm[x]? = some n→WZ env n→∃ v as,uZ env h n v∧Rd h v d as∧bK d=true∧∀ yb∈O,yb.2∈as→yb.1=some x∧as.head? = some yb.2
theorem uZ.kp{n:Nat}{env:Env}{h h':Heap}{x:Str}{v:Value}(k:Kp n h h')(hl:n≤env.locals)(hc:∀ c,env.cells.lookup x=some c→(env.kindOf x=some .cell∨env.kindOf x=some .free)→n≤c)(a:uZ env h x v):uZ env h' x v:=by
 rcases a with⟨hk,m,hn,hv⟩| ⟨hk,c,hcl,hcell⟩
 ·exact .inl ⟨hk,m,k.ns hl hn,hv⟩
 ·exact .inr ⟨hk,c,hcl,k.cell (hc c hcl hk) hcell⟩
theorem aK.kp{Z:aF}{nm:List Str}{env:Env}{ρ:aW}{O:List (Option Nat×Addr)}{h h':Heap}(x:aK Z nm env ρ O h)(k:Kp Z.n h h'):aK Z nm env ρ O h' where
 kind:=x.kind
 glob:=x.glob
 blt:=x.blt
 new:=x.new
 ns:=let⟨m,hm⟩:=x.ns; ⟨m,k.ns x.new hm⟩
 live:=fun yb hy=>let⟨_,e,c⟩:=x.live yb hy; let⟨o',e',hc,_⟩:=(k.k _ _ e (.inl c)).ex; ⟨o',e',hc▸c⟩
 apart:=x.apart
 cells:=fun n hn=>let⟨c,v,h1,h2,h3⟩:=x.cells n hn; ⟨c,v,h1,h2,k.cell h2 h3⟩
 inj:=x.inj
 vars:=fun y d n h1 h2 h3=>by
  obtain⟨v,as,a,r,hd,ho⟩:=x.vars y d n h1 h2 h3
  exact⟨v,as,a.kp k x.new (fun c hc hk=>by obtain⟨c',_,e,hn,_⟩:=x.cells n hk; rw[hc]at e; cases e; exact hn),k.rd r,hd,ho⟩
theorem aK.lt{Z:aF}{nm:List Str}{env:Env}{ρ:aW}{O:List (Option Nat×Addr)}{h:Heap}(x:aK Z nm env ρ O h):∀ yb∈O,yb.2<h.objs.size :=
 fun yb hy=>let⟨_,e,_⟩:=x.live yb hy; Heap.lt_size e
theorem aK.size{Z:aF}{nm:List Str}{env:Env}{ρ:aW}{O:List (Option Nat×Addr)}{h:Heap}(x:aK Z nm env ρ O h):Z.n≤h.objs.size :=
 let⟨_,hm⟩:=x.ns; Nat.le_trans x.new (Nat.le_of_lt hm.lt)
structure f6(Z:aF)(lvl:Nat)(A:Around):Prop where
 handled:A.handled=none
 depth:A.depth+lvl+20<recursionLimit
 units:A.units+3*lvl+200<cLine
 frames:∃ fs,A.frames=some fs∧∀ env∈fs,env.scope.kind ≠ .module∧∃ L,env.frame=some L∧L∈Z.fr
theorem f6.mono{Z:aF}{l k:Nat}{A:Around}(h:f6 Z l A)(hk:k≤l):f6 Z k A:=⟨h.handled,Nat.lt_of_le_of_lt (Nat.add_le_add_right (Nat.add_le_add_left hk _) 20) h.depth,Nat.lt_of_le_of_lt (Nat.add_le_add_right (Nat.add_le_add_left (Nat.mul_le_mul_left 3 hk) _) 200) h.units,h.frames⟩
theorem f6.in_{Z:aF}{k:Nat}{A:Around}(h:f6 Z (k+1) A):f6 Z k A.in1:=⟨h.handled,Nat.lt_of_succ_lt h.depth,Nat.lt_of_le_of_lt (Nat.add_le_add_right (Nat.le_trans (Nat.le_of_eq (Nat.add_right_comm A.units 1 (3*k))) (Nat.le_add_right _ 2)) 200) h.units,h.frames⟩
theorem f6.dp{Z:aF}{k:Nat}{A:Around}(h:f6 Z (k+1) A):A.depth+1+k+20<recursionLimit∧A.units+3+3*k+200<cLine∧A.depth<recursionLimit :=
 ⟨Nat.lt_of_le_of_lt (Nat.le_of_eq (congrArg (· + 20) (Nat.add_right_comm A.depth 1 k))) h.depth,Nat.lt_of_le_of_lt (Nat.le_of_eq (congrArg (· + 200) (Nat.add_right_comm A.units 3 (3*k)))) h.units,Nat.lt_of_le_of_lt (Nat.le_trans (Nat.le_add_right _ _) (Nat.le_add_right _ _)) h.depth⟩
def vA(sc:Scope)(env:Env):Prop :=
 (∀ n,sc.names.lookup n=some .local→env.kindOf n=some .local) ∧
 (∀ n,(sc.names.lookup n=some .cell∨sc.names.lookup n=some .free)→(env.kindOf n=some .cell∨env.kindOf n=some .free)) ∧
 (∀ n,sc.names.lookup n=some .globalImplicit→env.kindOf n=some .globalImplicit)
def pA(Z:aF)(s:Shared)(O:List (Option Nat×Addr))(es:List Nat)(d:PyData)(Q:Value→Shared→Prop):Prop :=
 ∀ v as s',bA Z s'→Kp Z.n s.heap s'.heap→Rd s'.heap v d as→bK d=true→(∀ yb∈O,yb.2∈as→iX yb.1 es)→Q v s'
structure Cx(Z:aF)(lvl:Nat)(nm:List Str)(sc:Scope)(A:Around)(env:Env)(ρ:aW)(O:List (Option Nat×Addr))(s:Shared):Prop where
 ha:f6 Z lvl A
 hs:vA sc env
 he:aK Z nm env ρ O s.heap
 hi:bA Z s
theorem Cx.kp{Z:aF}{lvl:Nat}{nm:List Str}{sc:Scope}{A:Around}{env:Env}{ρ:aW}{O:List (Option Nat×Addr)}{s s':Shared}(X:Cx Z lvl nm sc A env ρ O s)(k:Kp Z.n s.heap s'.heap)(I:bA Z s'):Cx Z lvl nm sc A env ρ O s':=⟨X.ha,X.hs,X.he.kp k,I⟩
section
variable(Z:aF)(cl:Nat→List PyData→Option PyData)(lvl:Nat)(nm:List Str)
def ST(sc:Scope)(e:Expr)(p:PE):Prop :=
 ∀{A:Around}{env:Env}{ρ:aW}{O:List (Option Nat×Addr)}{s:Shared}{d:PyData}{b:Bool}{Q:Bool→Shared→Prop}{E:Value→Shared→Prop},
  Cx Z lvl nm sc A env ρ O s→aH cl p ρ=some d→cO d=some b→(∀ s',bA Z s'→Kp Z.n s.heap s'.heap→Q b s')→wpAny (model Z.prog Z.w) A (isTrue e env (eval e env)) Q E s
def SE(sc:Scope)(e:Expr)(p:PE):Prop :=
 ∀{A:Around}{env:Env}{ρ:aW}{O:List (Option Nat×Addr)}{s:Shared}{d:PyData}{Q:Value→Shared→Prop}{E:Value→Shared→Prop},
  Cx Z lvl nm sc A env ρ O s→aH cl p ρ=some d→pA Z s O (lG p) d Q→wpAny (model Z.prog Z.w) A (eval e env) Q E s
end
section
variable{Z:aF}{A:Around}{E:Value→Shared→Prop}{s:Shared}{O:List (Option Nat×Addr)}{es:List Nat}{Q:Value→Shared→Prop}{lvl:Nat}
theorem eJ{i:Int}(I:bA Z s)(g:pA Z s O es (.int i) Q)(t tk:Nat):Q (.int i t) { s with toks:=tk } :=
 g _ [] _ (I.tok tk) (Kp.refl _ _) (.int i t) (by simp[bK]) (fun _ _ h=>nomatch h)
theorem fC{b:Bool}(I:bA Z s)(g:pA Z s O es (.bool b) Q):Q (.bool b) s :=
 g _ [] _ I (Kp.refl _ _) (.bool b) (by simp[bK]) (fun _ _ h=>nomatch h)
theorem M4(I:bA Z s)(g:pA Z s O es .none Q):Q .none s :=
 g _ [] _ I (Kp.refl _ _) .none (by simp[bK]) (fun _ _ h=>nomatch h)
theorem jT{x:Str}(I:bA Z s)(g:pA Z s O es (.str x) Q)(hx:bK (.str x)=true)(t tk:Nat):Q (.str x t) { s with toks:=tk } :=
 g _ [] _ (I.tok tk) (Kp.refl _ _) (.str x t) hx (fun _ _ h=>nomatch h)
theorem tT{x:Str}(I:bA Z s)(g:pA Z s O es (.str x) Q)(hx:bK (.str x)=true)(t:Nat):Q (.str x t) s :=
 g _ [] _ I (Kp.refl _ _) (.str x t) hx (fun _ _ h=>nomatch h)
theorem oH{ds:List PyData}{vs:List Value}{as:List Addr}(I:bA Z s)(g:pA Z s O es (.list ds) Q)(r:aU s.heap vs ds as)(hd:bK (.list ds)=true)
  (ho:∀ yb∈O,yb.2∈as→iX yb.1 es) (hO:∀ yb∈O,yb.2<s.heap.objs.size) (tk n:Nat) :
  Q (.ref s.heap.objs.size) { s with heap:=s.heap.push { cls:=.type "list",data:=.seq vs.toArray n },toks:=tk }:=by
 refine g _ (s.heap.objs.size::as) _ (I.push _ tk) (Kp.push _ _ _) (.list (Heap.get?_push_size _ rfl) ⟨rfl,rfl⟩ rfl ?_) hd ?_
 ·exact(Kp.push Z.n s.heap _).rd (by simpa using r)
 ·intro yb hy hm
  rcases List.mem_cons.mp hm with e | hm
  ·have:=hO yb hy; rw[e]at this; exact absurd this (Nat.lt_irrefl _)
  ·exact ho yb hy hm
theorem jZ{h:Heap}{vs ws:List Value}{ds es:List PyData}{as bs:List Addr}(r:aU h vs ds as)(y:aU h ws es bs):aU h (vs++ws) (ds++es) (as++bs) :=
 aU.ind (P:=fun vs ds as=>aU h (vs++ws) (ds++es) (as++bs)) y (fun r1 _ i=>by rw[List.append_assoc]; exact iV.cons r1 i) r
theorem aP{h:Heap}{vs:List Value}{ds:List PyData}{as:List Addr}(r:aU h vs ds as):vs.length=ds.length:=aU.ind (P:=fun vs ds _=>vs.length=ds.length) rfl (fun _ _ i=>congrArg (· + 1) i) r
theorem gE{h:Heap}{vs:List Value}{ds:List PyData}{as:List Addr}{k:Nat}{d:PyData}(r:aU h vs ds as)(e:ds[k]? = some d):∃ v bs,vs[k]? = some v∧Rd h v d bs∧∀ a∈bs,a∈as :=
 aU.ind (P:=fun vs ds as=>∀ k,ds[k]? = some d→∃ v bs,vs[k]? = some v∧Rd h v d bs∧∀ a∈bs,a∈as) (fun _ e=>nomatch List.getElem?_nil.symm.trans e) (fun r1 _ i k e=>by
  cases k with
  | zero=>cases Option.some.inj e; exact⟨_,_,rfl,r1,fun a ha=>List.mem_append_left _ ha⟩
  | succ k =>
   obtain⟨v,bs,e1,r,hm⟩:=i k e
   exact⟨v,bs,e1,r,fun a ha=>List.mem_append_right _ (hm a ha)⟩) r k e
theorem pW{h:Heap}:∀{vs:List Value}{ds:List PyData}{as:List Addr},aU h vs ds as→∀(f:List Nat),(∀ k∈f,k<ds.length) →
  ∃ bs,aU h (f.filterMap (vs[·]?)) (f.filterMap (ds[·]?)) bs∧∀ a∈bs,a∈as
 | _,_,_,_,[],_=>⟨[],.nil,fun _ h=>nomatch h⟩
 | vs,ds,as,r,k::f,hf=>by
  obtain⟨bs,rb,hb⟩:=pW r f fun j hj=>hf j (List.mem_cons_of_mem _ hj)
  have hk:=hf k List.mem_cons_self
  obtain⟨v,cs,e1,rc,hc⟩:=gE (k:=k) (d:=ds[k]) r (by simp[hk])
  refine⟨cs++bs,?_,fun a ha=>(List.mem_append.mp ha).elim (hc a) (hb a)⟩
  have e2:ds[k]? = some ds[k]:=by simp[hk]
  rw[List.filterMap_cons,List.filterMap_cons,e1,e2]
  exact .cons rc rb
theorem b7{h:Heap}{v:Value}{xs:List PyData}{as:List Addr}(r:Rd h v (.list xs) as) :
  ∃ a vs bs,v = .ref a∧h.IsList a vs∧aU h vs.toList xs bs∧as=a::bs:=by
 cases r with
 | list h1 h2 h3 h4=>exact⟨_,_,_,rfl,⟨_,h1,h2.1,_,h3⟩,h4,rfl⟩
theorem eT{h:Heap}{v:Value}{xs:List PyData}{as:List Addr}(r:Rd h v (.list xs) as) :
  ∃ a vs n sl bs,v = .ref a∧h.get? a=some { cls:=.type "list",dict:=none,data:=.seq vs n,slots:=sl }∧aU h vs.toList xs bs∧as=a::bs:=by
 cases r with
 | list h1 h2 h3 h4 =>
  rename_i a o vs n bs
  obtain⟨cls,dd,data,sl⟩:=o
  simp only at h2 h3
  obtain⟨h2,h2'⟩:=h2
  subst h2 h2' h3
  exact⟨_,_,_,_,_,rfl,h1,h4,rfl⟩
section
variable{h:Heap}{v:Value}{x:PyData}{as:List Addr}{α:Type}{d:α}{m:Value→Prop}
theorem H4{i:Int}{as:List Addr}(r:Rd h v (.int i) as)(k:∀ t,m (.int i t)):m v:=by cases r; exact k _
theorem S3{i:Str}{as:List Addr}(r:Rd h v (.str i) as)(k:∀ t,m (.str i t)):m v:=by cases r; exact k _
theorem Bl{i:Bool}{as:List Addr}(r:Rd h v (.bool i) as)(k:m (.bool i)):m v:=by cases r; exact k
theorem nH{f:Int→Option α}(r:Rd h v x as)(e:kF x f=some d)(k:∀ i t,f i=some d→m (.int i t)):m v:=by
 cases x with
 | int i=>exact H4 r fun t=>k i t e
 | _=>cases e
theorem YH{f:Str→Option α}(r:Rd h v x as)(e:mE x f=some d)(k:∀ i t,x = .str i→f i=some d→m (.str i t)):m v:=by
 cases x with
 | str i=>exact S3 r fun t=>k i t rfl e
 | _=>cases e
theorem U0{f:Bool→Option α}(r:Rd h v x as)(e:SR x f=some d)(k:∀ i,f i=some d→m (.bool i)):m v:=by
 cases x with
 | bool i=>exact Bl r (k i e)
 | _=>cases e
theorem iK{G:Prop}{f:List PyData→Option α}(e:i8 x f=some d)(k:∀ xs,x = .list xs→f xs=some d→G):G:=by
 cases x with
 | list i=>exact k i rfl e
 | _=>cases e
theorem f7{G:Prop}{f:Str→Option α}(e:mE x f=some d)(k:∀ i,x = .str i→f i=some d→G):G:=by
 cases x with
 | str i=>exact k i rfl e
 | _=>cases e
theorem eK{i:Str}(r:Rd h v (.str i) as):∃ t,v = .str i t:=S3 (m:=fun v=>∃ t,v = .str i t) r fun t=>⟨t,rfl⟩
theorem yF{i:Bool}(r:Rd h v (.bool i) as):v = .bool i:=Bl (m:=fun v=>v = .bool i) r rfl
theorem sN{G:Prop}{f:Int→Option α}(e:kF x f=some d)(k:∀ i,x = .int i→f i=some d→G):G:=by
 cases x with
 | int i=>exact k i rfl e
 | _=>cases e
theorem BI{G:Prop}{c:Bool}{a:α}(e:(if c=true then some a else none)=some d)(k:c=true→a=d→G):G:=by
 cases c with
 | true=>exact k rfl (Option.some.inj e)
 | false=>cases e
theorem Aw{G:Prop}{c:Bool}{a:Option α}(e:(if c=true then a else none)=some d)(k:c=true→a=some d→G):G:=by
 cases c with
 | true=>exact k rfl e
 | false=>cases e
theorem iY{G c:Prop} [Decidable c] {a:Option α} (e:(if c then a else none)=some d) (k:c→a=some d→G):G:=by
 by_cases hc:c
 ·rw[if_pos hc]at e; exact k hc e
 ·rw[if_neg hc]at e; cases e
end
theorem N4{n:Nat}(h:n≤2 ^ 24):(n:Int)<2 ^ 63:=Int.lt_of_le_of_lt (Int.ofNat_le.mpr h) (by decide)
theorem I3{n:Nat}(h:n≤2 ^ 24):¬(n:Int)≥2 ^ 63:=Int.not_le.mpr (N4 h)
theorem wL{i:Int}{n:Nat}(h:0≤i+n):-(n:Int)≤i:=Int.le_of_sub_nonneg (Int.le_trans h (Int.le_of_eq (Int.sub_neg _ _).symm))
theorem R7{n m:Nat}(e:n=m)(h:m≤1001):(n:Int)<2 ^ 63:=N4 (Nat.le_trans (Nat.le_of_eq e) (Nat.le_trans h (by decide)))
theorem u4{x:Str}(h:bK (.str x)=true):PyData.strOk x=true∧x.length≤sizeLine:=⟨(aA h).1,of_decide_eq_true (aA h).2⟩
theorem rY{xs:List PyData}(h:bK (.list xs)=true):xs.length≤sizeLine∧cL xs=true:=⟨of_decide_eq_true (aA h).1,(aA h).2⟩
theorem zD{xs:List PyData}(h:xs.length≤sizeLine)(h':cL xs=true):bK (.list xs)=true:=by rw[bK,decide_eq_true h,h']; rfl
theorem w9{x:Str}(h:PyData.strOk x=true)(h':x.length≤sizeLine):bK (.str x)=true:=by rw[bK,decide_eq_true h',h]; rfl
theorem g9{a:Int}(h:u8 a=true):Builtin.Int.intBits a≤1024:=PyProof.Rows.intBits_le (of_decide_eq_true h)
theorem y2{a b:Int}(ha:u8 a=true)(hb:u8 b=true):IntMulOk a b:=by
 exact fun h=>absurd (of_decide_eq_true (aA h).2) (Int.not_lt.mpr (Int.le_trans (Int.add_le_add (Int.ofNat_le.mpr (g9 ha)) (Int.ofNat_le.mpr (g9 hb))) (by decide)))
theorem q6{a b:Int}(hb:u8 b=true):Builtin.divisionGoesByPylong a b=false:=by
 refine PyProof.noPylong_of_log2 ?_
 have h:b.natAbs<2 ^ 1024:=of_decide_eq_true hb
 by_cases h0:b.natAbs=0
 ·rw[h0]; decide
 ·exact Nat.lt_trans ((Nat.log2_lt h0).mpr h) (by decide)
theorem cE{x y:Str}(hx:bK (.str x)=true)(hy:bK (.str y)=true)(hs:(x++y).length≤sizeLine):bK (.str (x++y))=true:=by
 refine w9 ?_ hs
 unfold PyData.strOk
 rw[Str.cps_append,Array.all_append]
 exact Bool.and_eq_true_iff.mpr ⟨(u4 hx).1,(u4 hy).1⟩
theorem tK{u:Str}(e:u.length=0):u=Str.empty:=by obtain⟨c⟩:=u; exact congrArg Str.mk (Array.eq_empty_of_size_eq_zero e)
theorem qU{u v:Str}(e:v.length=0):u++v=u:=by rw[tK e]; exact Str.ext' (by rw[Str.cps_append]; exact Array.append_empty)
theorem RC{op:Operator}{i j:Int}{t u:Tok}{d:PyData}(I:bA Z s)(h:XH op i j=some d)(g:pA Z s O es d Q):wpAny (model Z.prog Z.w) A (binaryOp op (.int i t) (.int j u)) Q E s:=by
 cases op with
 | Add=>cases h; exact P.add_int (eJ I g _ _)
 | Sub=>cases h; exact P.sub_int (eJ I g _ _)
 | Mult=>exact BI h fun hf e=>by subst e; exact P.mul_int (eJ I g _ _) (y2 (aA hf).1 (aA hf).2)
 | FloorDiv=>exact BI h fun hf e=>by subst e; exact floordiv_int (Int.ne_of_gt (of_decide_eq_true (aA hf).1)) (eJ I g _ _) (.inl (q6 (aA hf).2))
 | Mod=>exact iY h fun hf e=>by cases e; exact mod_int' (Int.ne_of_gt hf) (eJ I g _ _)
 | Pow =>
  exact BI h fun hf e=>by
   subst e
   have h0:=of_decide_eq_true (aA (aA hf).1).2
   have h2:=of_decide_eq_true (aA hf).2
   refine pow_int h0 ?_ (eJ I g _ _)
   exact Int.le_trans (Int.mul_le_mul (Int.ofNat_le.mpr (g9 (aA (aA hf).1).1)) h2 h0 (by decide)) (by decide)
 | _=>cases h
theorem NM{u v:Str}{t t':Tok}{d:PyData}(I:bA Z s)(hx:bK (.str u)=true)(hy:bK (.str v)=true)(h:Z0 (u++v)=some d)(g:pA Z s O es d Q):wpAny (model Z.prog Z.w) A (binaryOp .Add (.str u t) (.str v t')) Q E s:=by
 refine iY h fun hs e=>?_
 cases e
 have hok:=cE hx hy hs
 refine P.add_str ?_
 by_cases e1:(u.length==0)=true
 ·rw[if_pos e1]
  have e2:u++v=v:=by rw[tK (eq_of_beq e1)]; exact Str.empty_append v
  rw[e2]at g hok
  exact tT I g hok _
 ·rw[if_neg e1]
  by_cases e3:(v.length==0)=true
  ·rw[if_pos e3]
   rw[qU (eq_of_beq e3)]at g hok
   exact tT I g hok _
  ·rw[if_neg e3]
   exact⟨hs,jT I g hok _ _⟩
theorem HY{a b:Value}{xs ys:List PyData}{as bs:List Addr}{d:PyData}(I:bA Z s)(ra:Rd s.heap a (.list xs) as)(rb:Rd s.heap b (.list ys) bs)(hx:bK (.list xs)=true)(hy:bK (.list ys)=true)(h:NS (xs++ys)=some d)
  (g:pA Z s O es d Q) (hoa:∀ yb∈O,yb.2∈as→iX yb.1 es) (hob:∀ yb∈O,yb.2∈bs→iX yb.1 es) (hO:∀ yb∈O,yb.2<s.heap.objs.size):wpAny (model Z.prog Z.w) A (binaryOp .Add a b) Q E s:=by
 obtain⟨la,vs,n,sl,as',rfl,ho,rvs,rfl⟩:=eT ra
 obtain⟨lb,ws,n2,sl2,bs',rfl,ho2,rws,rfl⟩:=eT rb
 refine iY h fun hs e=>?_
 cases e
 have hsz:vs.size+ws.size≤sizeLine:=by
  have e1:=aP rvs
  have e2:=aP rws
  rw[Array.length_toList]at e1 e2
  rwa[e1,e2,← List.length_append]
 refine concat_meets ⟨_,ho,rfl⟩ ⟨_,ho2,rfl⟩ noFill_list_add seq_list_add PySem.F.slot_list_add PySem.F.entry_list_add (PySem.F.args_list_add_2 _ _) (list_addW la lb vs ws n n2 none none sl sl2 hsz) ⟨ho,ho2,?_⟩
 have e:vs++ws=(vs.toList++ws.toList).toArray:=by rw[← Array.toList_append]
 rw[e]
 exact oH I g (jZ rvs rws) (zD hs (k8.mpr ⟨(rY hx).2,(rY hy).2⟩)) (fun yb hy hm=>(List.mem_append.mp hm).elim (fun m=>hoa yb hy (List.mem_cons_of_mem _ m)) fun m=>hob yb hy (List.mem_cons_of_mem _ m)) hO _ _
theorem wA{op:Operator}{a b:Value}{x y d:PyData}{as bs:List Addr}(I:bA Z s)(ra:Rd s.heap a x as)(rb:Rd s.heap b y bs)(hx:bK x=true)(hy:bK y=true)
  (h:sB op x y=some d) (g:pA Z s O es d Q) (hoa:∀ yb∈O,yb.2∈as→iX yb.1 es) (hob:∀ yb∈O,yb.2∈bs→iX yb.1 es) (hO:∀ yb∈O,yb.2<s.heap.objs.size) :
  wpAny (model Z.prog Z.w) A (binaryOp op a b) Q E s:=by
 cases x with
 | int i=>exact H4 (m:=fun a=>wpAny _ A (binaryOp op a b) Q E s) ra fun t=>nH (m:=fun b=>wpAny _ A (binaryOp op _ b) Q E s) rb h fun j u h=>RC I h g
 | str u =>
  exact S3 (m:=fun a=>wpAny _ A (binaryOp op a b) Q E s) ra fun t=>YH (m:=fun b=>wpAny _ A (binaryOp op _ b) Q E s) rb h fun v t' e h=>iY h fun ho h=>by
   cases eq_of_beq ho
   exact NM I hx (e▸hy) h g
 | list xs =>
  exact iK h fun ys e h=>iY h fun ho h=>by
   cases eq_of_beq ho
   subst e
   exact HY I ra rb hx hy h g hoa hob hO
 | _=>cases h
theorem f6.u{A:Around}(hA:f6 Z lvl A){q:Nat}(h:q≤64):A.units+1+q<cLine :=
 Nat.lt_of_le_of_lt (Nat.add_assoc A.units 1 q▸Nat.add_assoc A.units (3*lvl) 200▸Nat.add_le_add_left (Nat.le_trans (Nat.add_le_add_left h 1) (Nat.le_trans (by decide) (Nat.le_add_left 200 _))) _) hA.units
theorem f6.u'{A:Around}(hA:f6 Z lvl A){q:Nat}(h:q≤64):A.units+q<cLine:=Nat.lt_of_le_of_lt (Nat.add_le_add_right (Nat.le_succ _) q) (hA.u h)
theorem FX{xs:List PyData}(h:bK (.list xs)=true):PyData.canLayAll0 xs=true:=b8 (rY h).2
theorem zV{a b:Value}{x y:PyData}{q:Bool}{as bs:List Addr}(hA:f6 Z lvl A)(I:bA Z s)(ra:Rd s.heap a x as)(rb:Rd s.heap b y bs)(hx:bK x=true)(hy:bK y=true)
  (h:Ae x y=some q):(Q (.bool q) s→wpAny (model Z.prog Z.w) A (compareOp .In a b) Q E s)∧(Q (.bool !q) s→wpAny (model Z.prog Z.w) A (compareOp .NotIn a b) Q E s):=by
 cases y with
 | list ys =>
  exact BI h fun he e=>by
   subst e
   obtain⟨as',ra'⟩:=ra.reads
   obtain⟨bs',rb'⟩:=rb.reads
   have hm:=hA.u (Nat.le_trans (Nat.le_min.mpr ⟨Nat.min_le_right _ _,Nat.le_succ_of_le (Nat.min_le_left _ _)⟩) (of_decide_eq_true he:min x.depth (PyData.depthAll ys+1)≤64))
   exact⟨SeqAt.in_list_reads rb' ra' (FX hy) (bR hx) hm,SeqAt.notIn_list_reads rb' ra' (FX hy) (bR hx) hm⟩
 | str v =>
  obtain⟨t,rfl⟩:=eK rb
  exact f7 h fun u e h=>by
   subst e
   obtain⟨t',rfl⟩:=eK ra
   have h:Txt.contains v u=q:=Option.some.inj h
   subst h
   exact⟨fun h=>P.in_str h,fun h=>P.notIn_str h⟩
 | _=>cases h
theorem tL{a b:Value}{x y:PyData}{q:Bool}{as bs:List Addr}(ra:Rd s.heap a x as)(rb:Rd s.heap b y bs)
  (h:Z1 x y=some q):(Q (.bool q) s→wpAny (model Z.prog Z.w) A (compareOp .Is a b) Q E s)∧(Q (.bool !q) s→wpAny (model Z.prog Z.w) A (compareOp .IsNot a b) Q E s):=by
 cases y with
 | none =>
  cases h
  have e:(a==Value.none)=FG x:=by cases ra <;> rfl
  cases rb
  exact⟨fun h=>is_none_gen (by rw[e]; exact h),fun h=>isnot_none_gen (by rw[e]; exact h)⟩
 | bool c =>
  cases yF rb
  exact U0 (m:=fun a=>(Q (.bool q) s→wpAny (model Z.prog Z.w) A (compareOp .Is a _) Q E s)∧(Q (.bool !q) s→wpAny (model Z.prog Z.w) A (compareOp .IsNot a _) Q E s)) ra h fun i h=>by
   cases h
   exact⟨is_bool,isnot_bool⟩
 | _=>cases h
theorem pU{op:CmpOp}{a b:Value}{x y d:PyData}{as bs:List Addr}(hA:f6 Z lvl A)(I:bA Z s)(ra:Rd s.heap a x as)(rb:Rd s.heap b y bs)(hx:bK x=true)(hy:bK y=true)
  (h:sA op x y=some d) (g:pA Z s O es d Q):wpAny (model Z.prog Z.w) A (compareOp op a b) Q E s:=by
 have onI:∀{op:CmpOp},(∀ i j t u q,TU op i j=some q→Q (.bool q) s→wpAny (model Z.prog Z.w) A (compareOp op (.int i t) (.int j u)) Q E s)→(kF x fun a=>kF y fun b=>(TU op a b).map PyData.bool)=some d→wpAny (model Z.prog Z.w) A (compareOp op a b) Q E s:=fun{op}k h =>
  nH (m:=fun a=>wpAny _ A (compareOp op a b) Q E s) ra h fun i t h=>nH (m:=fun b=>wpAny _ A (compareOp op _ b) Q E s) rb h fun j u h=>bY h fun q hq e=>by subst e; exact k i j t u q hq (fC I g)
 cases op with
 | Eq =>
  exact BI h fun he e=>by
   subst e
   obtain⟨as',ra'⟩:=ra.reads
   obtain⟨bs',rb'⟩:=rb.reads
   exact SeqAt.compareEq_reads ra' rb' (bR hx) (bR hy) (hA.u' (of_decide_eq_true he)) (fC I g)
 | NotEq =>
  exact BI h fun he e=>by
   subst e
   obtain⟨as',ra'⟩:=ra.reads
   obtain⟨bs',rb'⟩:=rb.reads
   exact SeqAt.compareNe_reads ra' rb' (bR hx) (bR hy) (hA.u' (of_decide_eq_true he)) (fC I g)
 | In=>exact bY h fun q hq e=>(zV hA I ra rb hx hy hq).1 (fC I (e▸g))
 | NotIn=>exact bY h fun q hq e=>(zV hA I ra rb hx hy hq).2 (fC I (e▸g))
 | Is=>exact bY h fun q hq e=>(tL ra rb hq).1 (fC I (e▸g))
 | IsNot=>exact bY h fun q hq e=>(tL ra rb hq).2 (fC I (e▸g))
 | Lt=>exact onI (fun i j t u q e hq=>by cases e; exact P.lt_int hq) h
 | LtE=>exact onI (fun i j t u q e hq=>by cases e; exact P.le_int hq) h
 | Gt=>exact onI (fun i j t u q e hq=>by cases e; exact P.gt_int hq) h
 | GtE=>exact onI (fun i j t u q e hq=>by cases e; exact P.ge_int hq) h
end
theorem DD{α:Type}(l:List α)(a b:Nat)(hb:b≤l.length):((List.range (b - a)).map (a + ·)).filterMap (l[·]?)=(l.take b).drop a:=by
 apply List.ext_getElem?
 intro i
 rw[List.filterMap_map]
 have h:∀(m:Nat),a+m≤l.length→(List.range m).filterMap ((l[·]?)∘(a + ·))=(l.drop a).take m:=by
  intro m
  induction m with
  | zero=>intro _; simp
  | succ m ih =>
   intro hm
   rw[List.range_succ,List.filterMap_append,ih (Nat.le_of_succ_le hm),List.take_add_one]
   congr 1
   simp only[List.filterMap_cons,List.filterMap_nil,Function.comp,List.getElem?_drop]
   simp[show a+m<l.length from hm]
 by_cases hab:a≤b
 ·rw[h (b - a) (Nat.le_trans (Nat.le_of_eq (Nat.add_sub_cancel' hab)) hb),List.drop_take]
 ·rw[Nat.sub_eq_zero_of_le (Nat.le_of_not_le hab)]
  simp only[List.range_zero,List.filterMap_nil,List.getElem?_nil]
  rw[List.drop_eq_nil_of_le (List.length_take▸Nat.le_trans (Nat.min_le_left _ _) (Nat.le_of_not_le hab))]
  rfl
theorem z5{α:Type}(l:List α):((List.range l.length).map fun k=>l.length - 1 - k).filterMap (l[·]?)=l.reverse:=by
 have:∀ m,m≤l.length→((List.range m).filterMap ((l[·]?)∘fun k=>l.length - 1 - k))=l.reverse.take m:=by
  intro m
  induction m with
  | zero=>intro _; rfl
  | succ m ih =>
   intro hm
   rw[List.range_succ,List.filterMap_append,ih (Nat.le_of_succ_le hm),List.take_add_one,List.getElem?_reverse hm]
   congr 1
 rw[List.filterMap_map,this _ (Nat.le_refl _)]
 exact List.take_of_length_le (Nat.le_of_eq List.length_reverse)
theorem NG{α:Type}(l:List α)(lo hi:Option Int)(h:(cut l lo hi).length=l.length):cut l lo hi=l :=
 ((List.drop_sublist _ _).trans (List.take_sublist _ _)).eq_of_length h
theorem oR{α:Type}(l:List α):∀ f:List Nat,(∀ k∈f,k<l.length)→(f.filterMap (l[·]?)).length=f.length
 | [],_=>rfl
 | k::f,hf=>by
  have hk:=hf k List.mem_cons_self
  rw[List.filterMap_cons,List.getElem?_eq_getElem hk]
  simp only[List.length_cons]
  rw[oR l f fun j hj=>hf j (List.mem_cons_of_mem _ hj)]
theorem w0(i:Int)(n:Nat):dH i n≤n:=Int.toNat_le.mpr (Int.max_le.mpr ⟨Int.natCast_nonneg n,Int.min_le_right _ _⟩)
theorem t5{k n:Nat}(h:k≤n):dH (k:Int) n=k:=by
 rw[dH,if_neg (Int.not_lt.mpr (Int.natCast_nonneg k)),Int.min_eq_left (Int.ofNat_le.mpr h)]
 exact congrArg Int.toNat (Int.max_eq_right (Int.natCast_nonneg k))
noncomputable def gR(n:Nat)(lo hi:Option Int):List Nat :=
 let a:=match lo with | none=>0 | some i=>dH i n
 let b:=match hi with | none=>n | some i=>dH i n
 (List.range (b - a)).map (a + ·)
theorem CP{α:Type}(l:List α)(lo hi:Option Int):(gR l.length lo hi).filterMap (l[·]?)=cut l lo hi:=by
 unfold gR cut
 refine DD l _ _ ?_
 cases hi with
 | none=>exact Nat.le_refl _
 | some i=>exact w0 _ _
theorem w3(n:Nat)(lo hi:Option Int):sliceRange (sliceBounds lo hi none n).1 (sliceBounds lo hi none n).2.1 (sliceBounds lo hi none n).2.2=gR n lo hi:=by
 have e1:∀ i:Int,max 0 (min (if i<0 then i+n else i) (n:Int))=(dH i n:Nat):=fun i=>(Int.toNat_of_nonneg (Int.le_max_left 0 _)).symm
 unfold gR
 cases lo <;> cases hi <;> simp only[sliceBounds,Option.getD_none,Int.one_pos,gt_iff_lt,if_true,e1]
 ·exact sliceRange_one 0 n
 ·exact sliceRange_one 0 _
 ·exact sliceRange_one _ n
 ·exact sliceRange_one _ _
theorem vC(items:Array Value)(lo hi:Option Int):slicePick items lo hi none=((gR items.size lo hi).filterMap (items[·]?)).toArray:=by
 unfold slicePick
 rw[w3]
theorem DC(n:Nat)(lo hi:Option Int):Builtin.Str.strSliceIndices lo hi 1 n=gR n lo hi:=by
 rw[← w3]
 cases lo <;> cases hi <;> rfl
theorem wZ{n:Nat}{lo hi:Option Int}{k:Nat}(h:k∈gR n lo hi):k<n:=by
 unfold gR at h
 simp only[List.mem_map,List.mem_range]at h
 obtain⟨j,hj,rfl⟩:=h
 cases hi with
 | none=>exact Nat.add_lt_of_lt_sub' hj
 | some i=>exact Nat.lt_of_lt_of_le (Nat.add_lt_of_lt_sub' hj) (w0 i n)
theorem MM{xs:List PyData}(lo hi:Option Int)(h:cL xs=true):cL (cut xs lo hi)=true:=by
 rw[cC]at *
 intro d hd
 exact h d (List.mem_of_mem_take (List.mem_of_mem_drop hd))
theorem mR{α:Type}(l:List α)(lo hi:Option Int):(cut l lo hi).length≤l.length:=((List.drop_sublist _ _).trans (List.take_sublist _ _)).length_le
theorem fN{x:Str}:PyData.strOk x=true↔∀ c∈x.cps.toList,c<0x110000:=by
 unfold PyData.strOk
 rw[← Array.all_toList,List.all_eq_true]
 simp only[decide_eq_true_eq]
section
variable{Z:aF}{A:Around}{E:Value→Shared→Prop}{s:Shared}{O:List (Option Nat×Addr)}{es:List Nat}{Q:Value→Shared→Prop}{lvl:Nat}
theorem fF{v:Value}{d:PyData}{as:List Addr}{b:Bool}{R:Bool→Shared→Prop}(I:bA Z s)(r:Rd s.heap v d as)(hd:bK d=true)(h:cO d=some b)
  (g:∀ s',bA Z s'→Kp Z.n s.heap s'.heap→R b s'):wpAny (model Z.prog Z.w) A (truthy v) R E s:=by
 have g0:=g s I (Kp.refl _ _)
 have g1:∀ tk,R b { s with toks:=tk }:=fun tk=>g _ (I.tok tk) (Kp.refl _ _)
 clear g
 cases d with
 | none=>cases h; cases r; exact fun _ _ _=>g0
 | bool b'=>cases h; cases yF r; exact wpAny_truthy_bool g0
 | int i=>cases h; exact H4 (m:=fun v=>wpAny _ A (truthy v) R E s) r fun t=>P.truthy_int g0
 | str x =>
  obtain⟨t,rfl⟩:=eK r
  have hs:x.length≤2 ^ 24:=(u4 hd).2
  have h:(x.length != 0)=b:=Option.some.inj h
  subst h
  have e:(((x.length:Nat):Int) != 0)=(x.length != 0):=by cases x.length <;> rfl
  exact P.truthy_str (I3 hs) (e▸g1 _)
 | list xs =>
  obtain⟨a,vs,bs,rfl,hl,h4,rfl⟩:=b7 r
  have h:(!xs.isEmpty)=b:=Option.some.inj h
  subst h
  have hs:xs.length≤2 ^ 24:=(rY hd).1
  have hsz:vs.size=xs.length:=(Array.length_toList).symm.trans (aP h4)
  have e:vs.isEmpty=xs.isEmpty:=by
   unfold Array.isEmpty
   rw[hsz]
   cases xs <;> rfl
  exact wpAny_truthy_list hl (N4 (hsz▸hs)) (e▸g1 _)
 | _=>cases h
theorem oE{xs:List PyData}{k:Nat}{d:PyData}(h:cL xs=true)(e:xs[k]? = some d):bK d=true:=cC.mp h d (List.mem_of_getElem? e)
theorem gC{i:Int}{n k:Nat}(h:cT i n=some k):k<n∧-(2 ^ 63)≤i∧i<2 ^ 63∧((0≤i∧k=i.toNat)∨(i<0∧0≤i+n∧k=(i+n).toNat)) :=
 Aw h fun hb h =>
  have h1:-(2 ^ 63)≤i:=Int.le_trans (by decide) (Int.le_of_lt (of_decide_eq_true (aA hb).1))
  have h2:i<2 ^ 63:=Int.lt_of_lt_of_le (of_decide_eq_true (aA hb).2) (by decide)
  (Int.lt_or_le i 0).elim
   (fun hi=>iY ((if_neg (Int.not_le.mpr hi)).symm.trans h) fun h0 e=>by
    cases e; exact⟨(Int.toNat_lt h0).mpr (Int.lt_of_lt_of_le (Int.add_lt_add_right hi n) (Int.le_of_eq (Int.zero_add _))),h1,h2,.inr ⟨hi,h0,rfl⟩⟩)
   fun hi=>iY ((if_pos hi).symm.trans h) fun hk e=>by cases e; exact⟨hk,h1,h2,.inl ⟨hi,rfl⟩⟩
theorem A2{i:Int}{n k:Nat}(h:cT i n=some k):seqIndex? i n=some k:=by
 obtain⟨hk,h1,h2,h3⟩:=gC h
 have on:∀ j:Int,0≤j→j.toNat<n→(if(decide (0≤j)&&decide (j<n))=true then some j.toNat else none)=some j.toNat:=fun j h0 hj =>
  if_pos (Bool.and_eq_true_iff.mpr ⟨decide_eq_true h0,decide_eq_true ((Int.toNat_lt h0).mp hj)⟩)
 unfold seqIndex?
 rcases h3 with⟨h3,rfl⟩| ⟨h3,h4,rfl⟩
 ·rw[if_neg (Int.not_lt.mpr h3)]; exact on _ h3 hk
 ·rw[if_pos h3]; exact on _ h4 hk
theorem v9{a b:Value}{x y d:PyData}{as bs:List Addr}(I:bA Z s)(ra:Rd s.heap a x as)(rb:Rd s.heap b y bs)(hx:bK x=true)
  (h:BM x y=some d) (g:pA Z s O es d Q) (hoa:∀ yb∈O,yb.2∈as.tail→iX yb.1 es):wpAny (model Z.prog Z.w) A (getItem a b) Q E s :=
 nH (m:=fun b=>wpAny _ A (getItem a b) Q E s) rb h fun i t h=>by
  cases x with
  | list xs =>
   obtain⟨la,vs,as',rfl,hl,rvs,rfl⟩:=b7 ra
   exact aS h fun k hp h=>by
    obtain⟨hk,h1,h2,h3⟩:=gC hp
    obtain⟨v,cs,ev,rv,hcs⟩:=gE rvs h
    have hsz:vs.size=xs.length:=(Array.length_toList).symm.trans (aP rvs)
    have hle:=(rY hx).1
    rw[Array.getElem?_toList]at ev
    have hq:Q v s:=g v cs s I (Kp.refl _ _) rv (oE (rY hx).2 h) fun yb hy hm=>hoa yb hy (hcs _ hm)
    rw[← hsz]at h3 hle
    rcases h3 with⟨h3,rfl⟩| ⟨h3,h4,rfl⟩
    ·exact wpAny_getItem_list hl h3 h2 ev hq
    ·exact wpAny_getItem_list_neg hl h3 (wL h4) h1 ev hq
  | str x =>
   obtain⟨t,rfl⟩:=eK ra
   exact aS h fun k hp h=>bY h fun c hc e=>by
    subst e
    obtain⟨hk,h1,h2,h3⟩:=gC hp
    refine P.getItem_str (i:=i) (c:=c) (Bool.or_eq_false_iff.mpr ⟨decide_eq_false (Int.not_lt.mpr h1),decide_eq_false (Int.not_le.mpr h2)⟩) (by rw[A2 hp]; exact hc) (jT I g (w9 (fN.mpr fun c' hc'=>?_) (Nat.le_of_ble_eq_true rfl)) _ _)
    cases List.mem_singleton.mp hc'
    exact fN.mp (u4 hx).1 _ (Array.mem_toList_iff.mpr (Array.mem_of_getElem? hc))
  | _=>cases h
theorem gI(o:Option (Int×Tok)):IsPart (partValue o) (o.map (·.1)):=by
 cases o with
 | none=>exact .none
 | some p=>exact .int _ _
theorem A8{x:Str}(lo hi:Option Int)(hx:bK (.str x)=true):bK (.str ⟨(cut x.cps.toList lo hi).toArray⟩)=true :=
 w9 (fN.mpr fun c hc=>fN.mp (u4 hx).1 c (List.mem_of_mem_take (List.mem_of_mem_drop hc))) (Nat.le_trans (mR x.cps.toList lo hi) (u4 hx).2)
theorem v8{a:Value}{x d:PyData}{as:List Addr}{lo hi:Option (Int×Tok)}{sl:Addr}(I:bA Z s)(ra:Rd s.heap a x as)(hx:bK x=true)
  (hsl:s.heap.IsSlice sl lo hi none)
  (h:IA x (lo.map (·.1)) (hi.map (·.1))=some d) (g:pA Z s O es d Q) (hoa:∀ yb∈O,yb.2∈as.tail→iX yb.1 es) (hO:∀ yb∈O,yb.2<s.heap.objs.size) :
  wpAny (model Z.prog Z.w) A (getItem a (.ref sl)) Q E s:=by
 cases x with
 | list xs =>
  obtain⟨la,vs,as',rfl,hl,rvs,rfl⟩:=b7 ra
  cases h
  have hsz:vs.size=xs.length:=(Array.length_toList).symm.trans (aP rvs)
  refine wpAny_getItem_list_slice hl (vl:=partValue lo) (vu:=partValue hi) (vs:=partValue none) hsl (gI lo) (gI hi) (gI none) nofun ?_ (by rw[hsz]; exact(rY hx).1)
  obtain⟨bs,rb,hb⟩:=pW rvs (gR xs.length (lo.map (·.1)) (hi.map (·.1))) fun k hk=>wZ hk
  rw[CP]at rb
  rw[Option.map_none,vC,hsz,show(vs[·]?)=(vs.toList[·]?)from funext fun k=>Array.getElem?_toList.symm]
  exact oH I g rb (zD (Nat.le_trans (mR _ _ _) (rY hx).1) (MM _ _ (rY hx).2)) (fun yb hy hm=>hoa yb hy (hb _ hm)) hO _ _
 | str x =>
  obtain⟨t,rfl⟩:=eK ra
  cases h
  have hok:=A8 (lo.map (·.1)) (hi.map (·.1)) hx
  refine wpAny_getItem_str_slice hsl rfl ?_
  have e:(gR x.length (lo.map (·.1)) (hi.map (·.1))).filterMap (x.cps[·]?)=cut x.cps.toList (lo.map (·.1)) (hi.map (·.1)):=by
   rw[← CP,show(x.cps[·]?)=(x.cps.toList[·]?)from funext fun k=>Array.getElem?_toList.symm]; rfl
  unfold sliceMade slicePicked
  rw[show Option.getD (Option.map (·.1) (none:Option (Int×Tok))) 1=1 from rfl,DC]
  by_cases hc:((1:Int)==1&&(gR x.length (lo.map (·.1)) (hi.map (·.1))).length==x.length)=true
  ·rw[if_pos hc]
   have e3:cut x.cps.toList (lo.map (·.1)) (hi.map (·.1))=x.cps.toList:=by
    refine NG _ _ _ ?_
    rw[← CP,oR _ _ fun k hk=>wZ hk]
    exact eq_of_beq (aA hc).2
   rw[e3]at g
   exact tT I g hx _
  ·rw[if_neg hc,e]
   exact⟨(u4 hok).2,jT I g hok _ _⟩
 | _=>cases h
theorem A7{x:Str}(hx:bK (.str x)=true):bK (.str ⟨x.cps.toList.reverse.toArray⟩)=true :=
 w9 (fN.mpr fun c hc=>fN.mp (u4 hx).1 c (List.mem_reverse.mp hc)) (Nat.le_trans (Nat.le_of_eq (List.length_reverse)) (u4 hx).2)
theorem GU(n:Nat):sliceRange (sliceBounds none none (some (-1)) n).1 (sliceBounds none none (some (-1)) n).2.1 (sliceBounds none none (some (-1)) n).2.2=(List.range n).map fun k=>n - 1 - k:=by
 rw[← picked_rev]; rfl
theorem GR{a:Value}{x d:PyData}{as:List Addr}{t:Tok}{sl:Addr}(I:bA Z s)(ra:Rd s.heap a x as)(hx:bK x=true)
  (hsl:s.heap.IsSlice sl none none (some (-1,t)))
  (h:TH x=some d) (g:pA Z s O es d Q) (hoa:∀ yb∈O,yb.2∈as.tail→iX yb.1 es) (hO:∀ yb∈O,yb.2<s.heap.objs.size) :
  wpAny (model Z.prog Z.w) A (getItem a (.ref sl)) Q E s:=by
 cases x with
 | list xs =>
  obtain⟨la,vs,as',rfl,hl,rvs,rfl⟩:=b7 ra
  cases h
  have hsz:vs.size=xs.length:=(Array.length_toList).symm.trans (aP rvs)
  refine wpAny_getItem_list_slice hl (vl:=partValue none) (vu:=partValue none) (vs:=partValue (some (-1,t))) hsl (gI none) (gI none) (gI (some (-1,t))) (by simp) ?_ (by rw[hsz]; exact(rY hx).1)
  obtain⟨bs,rb,hb⟩:=pW rvs ((List.range xs.length).map fun k=>xs.length - 1 - k) fun k hk=>by
   obtain⟨j,hj,rfl⟩:=List.mem_map.mp hk
   exact Nat.lt_of_le_of_lt (Nat.sub_le _ _) (Nat.sub_lt (Nat.lt_of_le_of_lt (Nat.zero_le _) (List.mem_range.mp hj)) Nat.one_pos)
  rw[z5]at rb
  have e1:slicePick vs (Option.map (·.1) (none:Option (Int×Tok))) (Option.map (·.1) (none:Option (Int×Tok))) (Option.map (·.1) (some ((-1:Int),t)))=(((List.range xs.length).map fun k=>xs.length - 1 - k).filterMap (vs.toList[·]?)).toArray:=by
   unfold slicePick
   rw[show(vs[·]?)=(vs.toList[·]?)from funext fun k=>Array.getElem?_toList.symm,← hsz]
   exact congrArg (fun l=>(l.filterMap (vs.toList[·]?)).toArray) (GU vs.size)
  rw[e1]
  exact oH I g rb (zD (Nat.le_trans (Nat.le_of_eq List.length_reverse) (rY hx).1) (cC.mpr fun d hd=>cC.mp (rY hx).2 d (List.mem_reverse.mp hd))) (fun yb hy hm=>hoa yb hy (hb _ hm)) hO _ _
 | str x =>
  obtain⟨t,rfl⟩:=eK ra
  cases h
  have hok:=A7 hx
  refine wpAny_getItem_str_slice hsl rfl ?_
  have e:(Builtin.Str.strSliceIndices none none (-1) x.length).filterMap (x.cps[·]?)=x.cps.toList.reverse:=by
   rw[picked_rev,← z5,show(x.cps[·]?)=(x.cps.toList[·]?)from funext fun k=>Array.getElem?_toList.symm]; rfl
  unfold sliceMade slicePicked
  rw[if_neg (by simp)]
  show(⟨((Builtin.Str.strSliceIndices none none (-1) x.length).filterMap (x.cps[·]?)).toArray⟩:Str).length≤sizeLine∧Q (.str ⟨((Builtin.Str.strSliceIndices none none (-1) x.length).filterMap (x.cps[·]?)).toArray⟩ _) _
  rw[e]
  exact⟨(u4 hok).2,jT I g hok _ _⟩
 | _=>cases h
end
theorem vZ:∀{xs:List PyData}{l:List Str},DS xs=some l→xs=l.map .str
 | [],l,h=>by cases h; rfl
 | d::r,l,h=>f7 (x:=d) h fun i e h=>bY h fun m hm h=>by subst h; rw[e,List.map_cons,← vZ hm]
theorem R3{α:Type}{ds:List PyData}{f:PyData→Option α}{g:PyData→PyData→Option α}{d:α}{m:List PyData→Prop}(h:TK ds f g=some d)(k₁:∀ x,f x=some d→m [x])(k₂:∀ x y,g x y=some d→m [x,y]):m ds:=by
 cases ds with
 | nil=>cases h
 | cons x r =>
  cases r with
  | nil=>exact k₁ x h
  | cons y r =>
   cases r with
   | nil=>exact k₂ x y h
   | cons z r=>cases h
theorem kP{h:Heap}{vs:List Value}{x:PyData}{as:List Addr}{m:List Value→List Addr→Prop}(r:aU h vs [x] as)(k:∀ v as,Rd h v x as→m [v] as):m vs as:=by
 cases r with
 | cons r1 r2=>cases r2; rw[List.append_nil]; exact k _ _ r1
theorem U1{h:Heap}{vs:List Value}{x:PyData}{ds:List PyData}{as:List Addr}{m:List Value→Prop}(r:aU h vs (x::ds) as)(k:∀ v vs bs cs,Rd h v x bs→aU h vs ds cs→m (v::vs)):m vs:=by
 cases r with
 | cons r1 r2=>exact k _ _ _ _ r1 r2
theorem BV{h:Heap}{vs:List Value}{x y:PyData}{as:List Addr}{m:List Value→Prop}(r:aU h vs [x,y] as)(k:∀ v w as bs,Rd h v x as→Rd h w y bs→m [v,w]):m vs :=
 U1 r fun v _ _ _ r1 r=>kP (m:=fun vs _=>m (v::vs)) r fun w _ r2=>k v w _ _ r1 r2
theorem MO{c:Nat}(h:c<0x110000):bK (.str ⟨#[c]⟩)=true:=w9 (fN.mpr fun c' hc=>by cases List.mem_singleton.mp hc; exact h) (Nat.le_of_ble_eq_true rfl)
section
variable{Z:aF}{A:Around}{E:Value→Shared→Prop}{s:Shared}{O:List (Option Nat×Addr)}{es:List Nat}{Q:Value→Shared→Prop}{lvl:Nat}
theorem tU{i:Int}{h':Heap}{tk:Nat}(I:bA Z s)(g:pA Z s O es (.int i) Q)(hk:∀ b o,s.heap.get? b=some o→h'.get? b=some o)(t:Nat):Q (.int i t) { s with heap:=h',toks:=tk } :=
 g _ [] _ (I.full hk) (.of hk) (.int i t) (by simp[bK]) (fun _ _ h=>nomatch h)
noncomputable def NX:Bi→Value
 | .len=>.builtin "len"
 | .max2=>.builtin "max"
 | .min2=>.builtin "min"
 | .chr=>.builtin "chr"
theorem SV{G:Prop}{gt:Int→Int→Bool}{xs:List PyData}{d:PyData}(h:zN gt xs=some d)(k:xs.all tB=true→xs.isEmpty=false→PyData.int (fU xs (argBest (fun i j=>gt (fU xs i) (fU xs j)) (xs.length - 1)))=d→G):G :=
 BI h fun hc e=>k (aA hc).1 (bO (aA hc).2) e
theorem V7{xs:List PyData}(h:xs.all tB=true){i:Nat}{d:PyData}(e:xs[i]? = some d):d = .int (fU xs i):=by
 have:=List.all_eq_true.mp h d (List.mem_of_getElem? e)
 unfold fU
 rw[e]
 cases d with
 | int a=>rfl
 | _=>cases this
theorem uC{op:CmpOp}{n:String}{gt:Int→Int→Bool}{v:Value}{xs:List PyData}{as:List Addr}
  (hw:∀{prog:Program}{w:World}{A:Around}{E:Value→Shared→Prop}{s:Shared}{x:Value}{Q:Value→Shared→Prop},wpAny (model prog w) A.in1 (pyIter x) (fun it s₂=>∃ I fp wr n P St bt,it = .ref I∧Walks prog w A.in1 I fp wr n P St∧St 0 s₂.heap∧(∀ b∈fp,b<s₂.heap.objs.size)∧0<n∧CmpOf prog w A.in1 op P bt ∧
   ∀ v h' tk,P (argBest bt (n - 1)) v→(∀ b o,b∉wr→s₂.heap.get? b=some o→h'.get? b=some o)→Q v { s₂ with heap:=h',toks:=tk }) E s→wpAny (model prog w) A (call (.builtin n) [x]) Q E s)
  (hc:∀{prog:Program}{w:World}{A:Around}{P:Nat→Value→Prop}(val:Nat→Int),(∀ i v,P i v→∃ t,v = .int (val i) t)→CmpOf prog w A op P fun i j=>gt (val i) (val j))
  (hh:A.handled=none) (I:bA Z s) (r:Rd s.heap v (.list xs) as) (hx:bK (.list xs)=true) (hi:xs.all tB=true) (hne:xs.isEmpty=false) (g:pA Z s O es (.int (fU xs (argBest (fun i j=>gt (fU xs i) (fU xs j)) (xs.length - 1)))) Q) :
  wpAny (model Z.prog Z.w) A (call (.builtin n) [v]) Q E s:=by
 obtain⟨la,ws,as',rfl,hl,ra,-⟩:=b7 r
 have hsz:ws.size=xs.length:=(Array.length_toList).symm.trans (aP ra)
 have hlt:la<s.heap.objs.size:=let⟨o,ho,_⟩:=hl; Heap.lt_size ho
 have hval:∀ i v,ws[i]? = some v→∃ t,v=Value.int (fU xs i) t:=fun i v e=>by
  have hi':i<xs.length:=hsz▸(Array.getElem?_eq_some_iff.mp e).1
  obtain⟨v',bs,e',rv,_⟩:=gE ra (List.getElem?_eq_getElem hi')
  rw[Array.getElem?_toList]at e'
  cases e.symm.trans e'
  rw[V7 hi (List.getElem?_eq_getElem hi')]at rv
  exact H4 (m:=fun v=>∃ t,v=Value.int _ t) rv fun t=>⟨t,rfl⟩
 refine hw (wpAny_pyIter_list hl ⟨s.heap.objs.size,[s.heap.objs.size,la],[s.heap.objs.size],ws.size,fun i v=>ws[i]? = some v,fun i h=>h.IsListIter s.heap.objs.size la i∧h.IsList la ws,_,rfl,Walks.list (show A.in1.handled=none from hh) _ la (Nat.ne_of_lt hlt) ws,⟨?_,(let⟨o,e,r⟩:=hl; ⟨o,Heap.get?_push_of_some _ e,r⟩)⟩,?_,?_,hc _ hval,fun v h' tk e hk=>?_⟩)
 ·exact⟨_,Heap.get?_push_size _ rfl,rfl,rfl⟩
 ·intro b hb
  rw[Heap.size_push]
  exact(List.mem_cons.mp hb).elim (fun e=>e▸Nat.lt_succ_self _) fun hb=>List.mem_singleton.mp hb▸Nat.lt_succ_of_lt hlt
 ·rw[hsz]
  cases xs with
  | nil=>cases hne
  | cons=>exact Nat.zero_lt_succ _
 ·rw[hsz]at e
  obtain⟨t,rfl⟩:=hval _ _ e
  exact tU I g (fun b o hb=>hk b o (fun hm=>Nat.ne_of_lt (Heap.lt_size hb) (List.mem_singleton.mp hm)) (Heap.get?_push_of_some _ hb)) t
theorem LM{b:Bi}{vs:List Value}{ds:List PyData}{as:List Addr}{d:PyData}(hA:f6 Z lvl A)(I:bA Z s)(r:aU s.heap vs ds as)(hd:cL ds=true)
  (h:RK b ds=some d) (g:pA Z s O es d Q) (ho:∀ yb∈O,yb.2∈as→iX yb.1 es) (hO:∀ yb∈O,yb.2<s.heap.objs.size):wpAny (model Z.prog Z.w) A (call (NX b) vs) Q E s:=by
 have hh:=hA.handled
 revert r hd
 refine R3 (m:=fun ds=>aU s.heap vs ds as→cL ds=true→wpAny (model Z.prog Z.w) A (call (NX b) vs) Q E s) h (fun x h r hd=>?_) fun x y h r _=>?_
 ·have hx:bK x=true:=(aA hd).1
  clear ho
  refine kP (m:=fun vs _=>wpAny _ A (call (NX b) vs) Q E s) r fun v as r=>?_
  cases b with
  | len =>
   cases x with
   | list xs =>
    obtain⟨la,ws,as',rfl,hl,rvs,rfl⟩:=b7 r
    have hs:xs.length≤2 ^ 24:=(rY hx).1
    have hsz:ws.size=xs.length:=(Array.length_toList).symm.trans (aP rvs)
    cases h
    refine Calls.call_len_list hl (N4 (hsz▸hs)) ?_
    rw[hsz]
    exact eJ I g _ _
   | str x =>
    obtain⟨t,rfl⟩:=eK r
    have hs:x.length≤2 ^ 24:=(u4 hx).2
    cases h
    exact P.len_str (I3 hs) (eJ I g _ _)
   | _=>cases h
  | chr =>
   exact nH (m:=fun v=>wpAny _ A (call (NX .chr) [v]) Q E s) r h fun i t h=>iY h fun hc e=>by
    cases e
    have h1:=of_decide_eq_true (aA hc).1
    have h2:=of_decide_eq_true (aA hc).2
    exact P.chr_of_int (Bool.or_eq_false_iff.mpr ⟨decide_eq_false (Int.not_lt.mpr h1),decide_eq_false (Int.not_lt.mpr (Int.le_trans (Int.le_of_lt h2) (by decide)))⟩) (jT I g (MO ((Int.toNat_lt h1).mpr (Int.lt_trans h2 (by decide)))) _ _)
  | max2=>exact iK h fun xs e h=>SV h fun hi hne e'=>by subst e e'; exact uC (gt:=fun a b=>decide (a>b)) call_max_walk (fun val hv=>CmpOf.ints_gt val hv) hh I r hx hi hne g
  | min2=>exact iK h fun xs e h=>SV h fun hi hne e'=>by subst e e'; exact uC (gt:=fun a b=>decide (a<b)) call_min_walk (fun val hv=>CmpOf.ints_lt val hv) hh I r hx hi hne g
 ·have fin:∀{c:Prop} [Decidable c] {i j:Int} {t u:Tok} {h':Heap} {tk:Nat},some (PyData.int (if c then i else j))=some d→(∀ b o,s.heap.get? b=some o→h'.get? b=some o)→Q (if c then .int i t else .int j u) { s with heap:=h',toks:=tk }:=fun{c}_{i j t u h' tk}e hk=>by
   cases e
   by_cases hc:c
   ·rw[if_pos hc]at g ⊢; exact tU I g hk _
   ·rw[if_neg hc]at g ⊢; exact tU I g hk _
  refine BV (m:=fun vs=>wpAny _ A (call (NX b) vs) Q E s) r fun v w as bs ra rb=>?_
  cases b with
  | max2=>exact nH (m:=fun v=>wpAny _ A (call (NX .max2) [v,w]) Q E s) ra h fun i t h=>nH (m:=fun w=>wpAny _ A (call (NX .max2) [_,w]) Q E s) rb h fun j u h=>max_two_ints hh fun h' tk hk=>fin h hk
  | _=>cases h
end
noncomputable def TJ:List String:=["enumerate", "zip", "dict_itemiterator", "dict_reverseitemiterator", "odict_iterator", "itertools.zip_longest", "itertools.pairwise"]
structure xE(Z:aF)(A:Around)(I:Addr)(ds:List PyData)(used:List Addr)(St:Nat→Heap→Prop):Prop where
 new:Z.n≤I
 apart:I∉used
 frame:∀ k h h',St k h→(∀ b,b=I∨b∈used→∀ o,h.get? b=some o→h'.get? b=some o)→St k h'
 live:∀ k h,St k h→∃ o,h.get? I=some o∧o.cls ≠ .none∧∀ es ep,o.data ≠ .dict es ep
 ty:∀ k h,St k h→∃ o T,h.get? I=some o∧o.cls = .type T∧TJ.contains T=false
 step:∀ k d(s:Shared)(R:Option Value→Shared→Prop)(E:Value→Shared→Prop),ds[k]? = some d→St k s.heap→bA Z s →
  (∀ v bs s',bA Z s'→(∀ b o,b≠I→s.heap.get? b=some o→s'.heap.get? b=some o)→Rd s'.heap v d bs→(∀ a∈bs,a∈used)→St (k+1) s'.heap→R (some v) s') →
  wpAny (model Z.prog Z.w) A (pyNext (.ref I)) R E s
 done:∀(s:Shared)(Q:Option Value→Shared→Prop)(E:Value→Shared→Prop),St ds.length s.heap→bA Z s →
  (∀ s',bA Z s'→(∀ b o,b≠I→s.heap.get? b=some o→s'.heap.get? b=some o)→Q none s')→wpAny (model Z.prog Z.w) A (pyNext (.ref I)) Q E s
 again:∀ k(s:Shared)(Q:Value→Shared→Prop)(E:Value→Shared→Prop),St k s.heap→Q (.ref I) s→wpAny (model Z.prog Z.w) A (pyIter (.ref I)) Q E s
theorem bA.but{Z:aF}{s:Shared}(inv:bA Z s){I:Addr}{h':Heap}(tk:Nat)(hn:Z.n≤I)(hnf:I∉Z.fr)(hk:∀ b o,b≠I→s.heap.get? b=some o→h'.get? b=some o):bA Z { s with heap:=h',toks:=tk } :=
 inv.step (fun b o hb e=>hk b o (fun hm=>Nat.lt_irrefl _ (Nat.lt_of_lt_of_le hb (hm▸hn))) e) Z.lowC fun L hL o e hd=>⟨o,hk L o (fun hm=>hnf (hm▸hL)) e,hd⟩
theorem eU{h h':Heap}{l:Addr}{items:Array Value}(x:h.IsList l items)(hk:∀ o,h.get? l=some o→h'.get? l=some o):h'.IsList l items :=
 let⟨o,e,r⟩:=x; ⟨o,hk o e,r⟩
theorem BB{h h':Heap}{I l:Addr}{k:Nat}(x:h.IsListIter I l k)(hk:∀ o,h.get? I=some o→h'.get? I=some o):h'.IsListIter I l k :=
 let⟨o,e,r⟩:=x; ⟨o,hk o e,r⟩
theorem iV.keep{h h':Heap}{q:Bool}{vs:List Value}{ds:List PyData}{as:List Addr}(r:iV h q vs ds as)(k:∀ b∈as,∀ o,h.get? b=some o→h'.get? b=some o):iV h' q vs ds as :=
 r.map fun a o ha e _=>k a ha o e
section
variable{Z:aF}{A:Around}
theorem xE.list(hh:A.handled=none){I l:Addr}{items:Array Value}{ds:List PyData}{as:List Addr}(hI:Z.n≤I)(hIf:I∉Z.fr)(hap:I∉l::as) :
  xE Z A I ds (l::as) (fun k h=>h.IsListIter I l k∧h.IsList l items∧aU h items.toList ds as) where
 new:=hI
 apart:=hap
 frame:=fun k h h' st hk=>⟨BB st.1 (hk I (.inl rfl)),eU st.2.1 (hk l (.inr List.mem_cons_self)),st.2.2.keep fun b hb=>hk b (.inr (List.mem_cons_of_mem _ hb))⟩
 live:=fun k h st=>let⟨o,e,c,hf⟩:=st.1; ⟨o,e,by rw[c]; nofun,fun es ep hd=>by rw[hf]at hd; cases hd⟩
 ty:=fun k h st=>let⟨o,e,c,_⟩:=st.1; ⟨o,_,e,c,by decide +kernel⟩
 step:=fun k d s R E hd st inv hR=>by
  obtain⟨v,bs,ev,rv,hbs⟩:=gE st.2.2 hd
  refine wpAny_pyNext_list_item st.1 st.2.1 (x:=v) (by rwa[Array.getElem?_toList]at ev) fun h' hit hs=>?_
  have hk:∀ b o,b≠I→s.heap.get? b=some o→h'.get? b=some o:=fun b o hb e=>hs.extBut b o hb e
  have hk':∀ b,b∈l::as→∀ o,s.heap.get? b=some o→h'.get? b=some o:=fun b hb o e=>hk b o (fun e'=>hap (e'▸hb)) e
  exact hR v bs _ (inv.but s.toks hI hIf hk) hk (rv.keep fun b hb=>hk' b (List.mem_cons_of_mem _ (hbs b hb))) (fun a ha=>List.mem_cons_of_mem _ (hbs a ha)) ⟨hit,eU st.2.1 (hk' l List.mem_cons_self),st.2.2.keep fun b hb=>hk' b (List.mem_cons_of_mem _ hb)⟩
 done:=fun s Q E st inv hQ=>by
  refine wpAny_pyNext_list_end hh st.1 st.2.1 (by rw[← aP st.2.2,Array.length_toList]; exact Array.getElem?_eq_none (Nat.le_refl _)) fun h' hs=>?_
  have hk:∀ b o,b≠I→s.heap.get? b=some o→h'.get? b=some o:=fun b o hb e=>hs b o hb e
  exact hQ _ (inv.but s.toks hI hIf hk) hk
 again:=fun k s Q E st hQ=>wpAny_pyIter_listiter st.1 hQ
theorem xE.range(hh:A.handled=none){I:Addr}{lo st:Int}{n:Nat}(hI:Z.n≤I)(hIf:I∉Z.fr) :
  xE Z A I ((List.range n).map fun(k:Nat)=>PyData.int (lo+(k:Int)*st)) [] (fun k h=>IsRangeIter h I (lo+(k:Nat)*st) ((n:Int) - (k:Nat)) st) where
 new:=hI
 apart:=nofun
 frame:=fun k h h' e hk=>hk I (.inl rfl) _ e
 live:=fun k h e=>⟨_,e,nofun,nofun⟩
 ty:=fun k h e=>⟨_,_,e,rfl,by decide +kernel⟩
 step:=fun k d s R E hd e0 inv hR=>by
  rw[List.getElem?_map,Option.map_eq_some_iff]at hd
  obtain⟨j,hj,rfl⟩:=hd
  obtain⟨hkn,hj⟩:=List.getElem?_eq_some_iff.mp hj
  rw[List.getElem_range]at hj
  subst hj
  rw[List.length_range]at hkn
  refine wpAny_pyNext_range_item e0 (Int.sub_pos_of_lt (Int.ofNat_lt.mpr hkn)) fun h' hit hs=>?_
  have hk:∀ b o,b≠I→s.heap.get? b=some o→h'.get? b=some o:=fun b o hb e=>hs.extBut b o hb e
  refine hR _ [] _ (inv.but _ hI hIf hk) hk (.int _ _) (fun _ h=>nomatch h) ?_
  rwa[show lo+((k+1:Nat):Int)*st=lo+(k:Int)*st+st by rw[Int.natCast_add,Int.add_mul,Int.add_assoc]; exact congrArg (fun z=>lo+((k:Int)*st+z)) (Int.one_mul st),show(n:Int) - ((k+1:Nat):Int)=(n:Int) - (k:Int) - 1 from(Int.sub_sub (n:Int) (k:Int) 1).symm]
 done:=fun s Q E e0 inv hQ=>by
  rw[List.length_map,List.length_range]at e0
  refine wpAny_pyNext_range_end hh e0 (Int.le_of_eq (Int.sub_self _)) fun h' hs=>?_
  have hk:∀ b o,b≠I→s.heap.get? b=some o→h'.get? b=some o:=fun b o hb e=>hs b o hb e
  exact hQ _ (inv.but s.toks hI hIf hk) hk
 again:=fun k s Q E e0 hQ=>wpAny_pyIter_rangeiter e0 hQ
end
noncomputable def TA:Option NameKind→Bool
 | some .local | some .cell | some .free=>true
 | _=>false
noncomputable def N5:PyData→Option Const
 | .none=>some .none
 | .bool a=>some (.bool a)
 | .int a=>some (.int a)
 | .str a=>if bK (.str a)then some (.str a)else none
 | _=>none
noncomputable def tH:Bi→Str
 | .len => "len"
 | .max2 => "max"
 | .min2 => "min"
 | .chr => "chr"
noncomputable def B9:Me→Str
 | .join => "join"
 | .find => "find"
noncomputable def rO(e:Expr):Bool:=e.ctorIdx==26
noncomputable def aC(e:Expr):Bool:=e.ctorIdx==22
noncomputable def gQ(e:Expr):Bool:=e.ctorIdx==8||e.ctorIdx==9||e.ctorIdx==10||e.ctorIdx==11
noncomputable def CE(e:Expr):Bool:=e.ctorIdx==19||e.ctorIdx==23
noncomputable def iO(e:Expr):Bool:=e.ctorIdx==7
noncomputable def aR(sc:Scope)(n:Str):Bool:=sc.names.lookup n==some .globalImplicit&&n != ("__debug__" : Str)
noncomputable def iU(sc:Scope)(n:Str):Bool:=sc.names.lookup n==some .local||sc.names.lookup n==some .cell
noncomputable def kD(q:Bool):BoolOp:=if q then .And else .Or
noncomputable def EK(nm:List Str)(sc:Scope)(scope:Scope)(ts:List Nat):Bool :=
 scope.kind == .function&&(decide (ts.Nodup)&&(decide ((scope.names.map (·.1)).Nodup)&&(decide (nm.Nodup)&&(!nm.contains ".0" &&
 scope.names.all fun p=>match p.2 with
  | .free=>sc.names.lookup p.1==some .cell||sc.names.lookup p.1==some .free
  | .local=>p.1 == ".0" || ts.any fun x=>nm[x]? == some p.1
  | .globalImplicit=>true
  | _=>false))))
noncomputable def sL:Tg→Bool
 | .one _=>false
 | .two _ _=>true
noncomputable def vV(nm:List Str)(sc:Scope):Tg→Expr→Bool
 | .one x,e=>aX e fun n _=>nm[x]? == some n&&iU sc n
 | .two x y,e=>gA e fun es _ _=>jJ es fun a r=>gK r fun b=>aX a fun n _=>aX b fun m _=>(nm[x]? == some n&&iU sc n)&&(nm[y]? == some m&&iU sc m)
noncomputable def Au(i:Int)(e:Expr):Bool:=bL e fun c _ _=>c == .int i
theorem Ca{i:Int}{e:Expr}{m:Expr→Prop}(h:Au i e=true)(k:∀ a p,m (.Constant (.int i) a p)):m e:=bS h fun c a p h=>b9 (m:=fun c=>m (.Constant c a p)) h (k a p)
noncomputable def mT:rZ→Nat
 | .nil=>0
 | .cons _ es=>mT es+1
section
variable(fn:List Str)(nm:List Str)
mutual
noncomputable def cR(sc:Scope):PE→Expr→Bool
 | .lit d,e=>bL e fun c _ _=>N5 d==some c
 | .var x,e=>aX e fun n _=>nm[x]? == some n&&TA (sc.names.lookup n)&&n != ("__debug__" : Str)&&n != ("__classdict__" : Str)
 | .neg a,e=>eO e fun o x _=>o == .USub&&cR sc a x
 | .nt a,e=>eO e fun o x _=>o == .Not&&cR sc a x
 | .bool q a b,e=>kZ e fun op xs pos=>op==kD q&&jJ xs fun x r=>cR sc a x&&jJ r fun y r=>if r.isEmpty then cR sc b y else cR sc b (.BoolOp op (y::r) pos)
 | .bin op a b,e=>nU e fun l o r _=>o==op&&(cR sc a l&&cR sc b r)
 | .cmp op a b,e=>gF e fun l os rs _=>gK os fun o=>o==op&&gK rs fun r=>!behindInMarks op r&&(cR sc a l&&cR sc b r)
 | .ite c a b,e=>rI e fun t x y _=>cR sc c t&&(cR sc a x&&cR sc b y)
 | .list es,e=>sZ e fun xs _=>decide (mT es≤1000)&&nN sc es xs
 | .comp elt t i c g,e=>jX e fun el gens scope _=>jJ gens fun cp r=>B4 cp fun target iter ifs az=>az==0&&(CR scope c ifs&&(!iO iter&&(EK nm sc scope (b0 t++u0 g)&&(IJ (sL t) sc i iter&&(vV nm scope t target&&(IK scope g r&&cR scope elt el))))))
 | .call f es,e=>dY e fun fe as ks _=>ks.isEmpty&&aX fe fun n _=>fn[f]? == some n&&(aR sc n&&(decide (mT es≠0)&&nN sc es as))
 | .bi b es,e=>dY e fun fe as ks _=>ks.isEmpty&&aX fe fun n _=>n==tH b&&(aR sc (tH b)&&(decide (mT es≠0)&&nN sc es as))
 | .me m o es,e=>dY e fun fe as ks pos=>ks.isEmpty&&bM fe fun x name apos=>name==B9 m&&(CE x&&(apos.endLine==pos.line&&(decide (mT es≠0)&&(decide (mT es≤5)&&(cR sc o x&&nN sc es as)))))
 | .rev a,e=>cW e fun v s _=>lP s fun l u st _=>l.isNone&&(u.isNone&&iB st fun m=>eO m fun o c _=>o == .USub&&bL c fun c _ _=>c == .int 1&&cR sc a v)
 | .idx a i,e=>cW e fun v s _=>!rO s&&(cR sc a v&&cR sc i s)
 | .slc a lo hi,e=>cW e fun v s _=>lP s fun l u st _=>st.isNone&&(cR sc a v&&(TX sc lo l&&TX sc hi u))
noncomputable def nN(sc:Scope):rZ→List Expr→Bool
 | .nil,es=>es.isEmpty
 | .cons p ps,es=>jJ es fun e r=>!aC e&&(cR sc p e&&nN sc ps r)
noncomputable def TX(sc:Scope):PO→Option Expr→Bool
 | .no,o=>o.isNone
 | .yes p,o=>iB o fun e=>cR sc p e
noncomputable def IJ(z:Bool)(sc:Scope):PI→Expr→Bool
 | .of p,e=>cR sc p e
 | .range1 a,e=>dY e fun fe as ks _=>ks.isEmpty&&aX fe fun n _=>n==("range" : Str)&&gK as fun x=>!aC x&&(aR sc "range" && cR sc a x)
 | .range2 a b,e=>dY e fun fe as ks _=>ks.isEmpty&&aX fe fun n _=>n==("range" : Str)&&jJ as fun x r=>gK r fun y=>!aC x&&(!aC y&&(aR sc "range" && (cR sc a x&&cR sc b y)))
noncomputable def CR(sc:Scope):PO→List Expr→Bool
 | .no,l=>l.isEmpty
 | .yes p,l=>gK l fun e=>cR sc p e
noncomputable def IK(sc:Scope):PG→List Comprehension→Bool
 | .nil,gs=>gs.isEmpty
 | .cons t i c g,gs=>jJ gs fun cp r=>B4 cp fun target iter ifs az=>az==0&&(CR sc c ifs&&(!iO iter&&(IJ (sL t) sc i iter&&(vV nm sc t target&&IK sc g r))))
end
end
noncomputable def sO:List (Str×Value) :=
 [("len",.builtin "len"),("max",.builtin "max"),("min",.builtin "min"),("chr",.builtin "chr"),("list",.type "list"),("range",.type "range"),("zip",.type "zip")]
def f8(Z:aF):Prop:=∀ n v,(n,v)∈sO→Z.mg n=none∧Z.mb n=some v
def dZ(Z:aF)(lvl:Nat)(fn:List Str)(cl:Nat→List PyData→Option PyData):Prop :=
 ∀ f n args d,fn[f]? = some n→cl f args=some d→∃ a o fd,Z.mg n=some (.ref a)∧Z.h₀.get? a=some o∧o.cls ≠ .none∧o.data = .func fd ∧
  ∀(A:Around)(s:Shared)(vs:List Value)(as:List Addr)(Q:Value→Shared→Prop)(E:Value→Shared→Prop),f6 Z lvl A→bA Z s→Z.n≤s.heap.objs.size→aU s.heap vs args as→cL args=true →
   (∀ v bs s',bA Z s'→Kp Z.n s.heap s'.heap→Rd s'.heap v d bs→bK d=true→(∀ a∈bs,a∈as∨∀ o,s.heap.get? a=some o→o.cls = .none)→Q v s')→wpAny (model Z.prog Z.w) A (call (.ref a) vs) Q E s
section
variable{M:Model}{A:Around}{E:Value→Shared→Prop}{s:Shared}{env:Env}
theorem uZ.load{n:Str}{v:Value}{Q:Value→Shared→Prop}(hk:env.scope.kind = .function)(a:uZ env s.heap n v)(hcd:n≠("__classdict__" : Str))(h:Q v s):wpAny M A (loadName env n) Q E s:=by
 rcases a with⟨hl,m,hn,hv⟩| ⟨hl,c,hc,hv⟩
 ·exact wpAny_loadName_local hk hl hn hv h
 ·rcases hl with hl | hl
  ·exact wpAny_loadName_cell hk hl hc hv h
  ·exact wpAny_loadName_free hk hl hc hv h (beq_eq_false_iff_ne.mpr hcd)
theorem aT{pos:Pos}{f:Value}{first:List Value}{args:List (Bool×Sem Value)}{Q:Value→Shared→Prop}(hf:∀ a,f ≠ .ref a)(hplain:args.any (·.1)=false)
  (h:wpAny M A (evalArgs f true args []) (fun a s₁=>wpAny M A (call f (first++a.pos) a.kw) Q E s₁) E s) :
  wpAny M A (callWith pos f first args []) Q E s:=by
 have hkeep:keeperOf f=pure .machine:=by
  cases f with
  | ref a=>exact absurd rfl (hf a)
  | _=>rfl
 unfold callWith
 rw[hplain,hkeep]
 exact wpAny_bind (wpAny_holding (wpAny_mono h (fun a s₁ h₁=>wpAny_bind (wpAny_standAt (wpAny_bind (wpAny_pure (wpAny_bind (wpAny_mono h₁ (fun r s₂ hr=>wpAny_bind (wpAny_holding (wpAny_point (wpAny_pure hr)))) fun _ _ x=>x)))))) fun _ _ x=>x))
end
theorem pA.mono{Z:aF}{s s':Shared}{O:List (Option Nat×Addr)}{es es':List Nat}{d:PyData}{Q:Value→Shared→Prop}(g:pA Z s O es d Q)(k:Kp Z.n s.heap s'.heap)(h:∀ y,y∈es'→y∈es):pA Z s' O es' d Q :=
 fun v as s'' i k' r hd ho=>g v as s'' i (k.trans k') r hd fun yb hy hm=>let⟨y,h1,h2⟩:=ho yb hy hm; ⟨y,h y h1,h2⟩
theorem pA.kp{Z:aF}{s s':Shared}{O:List (Option Nat×Addr)}{es:List Nat}{d:PyData}{Q:Value→Shared→Prop}(g:pA Z s O es d Q)(k:Kp Z.n s.heap s'.heap):pA Z s' O es d Q :=
 fun v as s'' i k' r hd ho=>g v as s'' i (k.trans k') r hd ho
theorem iX.l{o:Option Nat}{es es':List Nat}(h:iX o es):iX o (es++es'):=let⟨y,h1,h2⟩:=h; ⟨y,List.mem_append_left _ h1,h2⟩
theorem iX.r{o:Option Nat}{es es':List Nat}(h:iX o es'):iX o (es++es'):=let⟨y,h1,h2⟩:=h; ⟨y,List.mem_append_right _ h1,h2⟩
section
variable{Z:aF}{cl:Nat→List PyData→Option PyData}{lvl:Nat}{nm:List Str}{fn:List Str}{sc:Scope}
theorem T1{env:Env}{n:Str}(hs:vA sc env)(h:TA (sc.names.lookup n)=true):WZ env n:=by
 have g:=hs.2.1 n
 have g1:=hs.1 n
 generalize sc.names.lookup n=k at h g g1
 cases k with
 | none=>cases h
 | some k =>
  cases k with
  | «local»=>exact .inl (g1 rfl)
  | cell=>exact .inr (g (.inl rfl))
  | free=>exact .inr (g (.inr rfl))
  | _=>cases h
theorem LH{e:Expr}{p:PE}(h:SE Z cl lvl nm sc e p)(hw:∀ env,isTrue e env (eval e env)=(do let v ← eval e env; standAt e.pos; holding [v] (truthy v))):ST Z cl lvl nm sc e p:=fun{A env ρ O s d b Q E}X hd hb hQ=>by
 rw[hw]
 exact wpAny_bind (h X hd fun v as s' I' k r hok _=>wpAny_bind (wpAny_standAt (wpAny_holding (fF I' r hok hb fun s'' I'' k''=>hQ s'' I'' (k.trans k'')))))
theorem US{d:PyData}{c:Const}{k:Nat}{pos:Pos}(h:N5 d=some c):SE Z cl lvl nm sc (.Constant c k pos) (.lit d):=fun{A env ρ O s d' Q E}X hd g=>by
 cases hd
 rw[arm_eval_Constant]
 cases d with
 | none=>cases h; exact wpAny_pure (M4 X.hi g)
 | bool a=>cases h; exact wpAny_pure (fC X.hi g)
 | int a=>cases h; exact wpAny_mkInt (eJ X.hi g _ _)
 | str a=>exact BI h fun h2 e=>by subst e; exact wpAny_mkText (jT X.hi g h2 _ _)
 | _=>cases h
theorem UO{x:Nat}{n:Str}{pos:Pos}(hn:nm[x]? = some n)(hv:TA (sc.names.lookup n)=true)(hd:n≠("__debug__" : Str))(hc:n≠("__classdict__" : Str)):SE Z cl lvl nm sc (.Name n pos) (.var x):=fun{A env ρ O s d Q E}X he g=>by
 obtain⟨v,as,a,r,hok,ho⟩:=X.he.vars x d n he hn (T1 X.hs hv)
 exact wpAny_Name (a.load X.he.kind hc (g v as s X.hi (Kp.refl _ _) r hok fun yb hy hm=>⟨x,List.mem_singleton.mpr rfl,(ho yb hy hm).1⟩)) (beq_eq_false_iff_ne.mpr hd)
theorem UR{a:PE}{e:Expr}{pos:Pos}(h:SE Z cl lvl nm sc e a):SE Z cl lvl nm sc (.UnaryOp .USub e pos) (.neg a):=fun{A env ρ O s d Q E}X hd g=>aS hd fun x hx hd=>by
 rw[arm_eval_UnaryOp]
 refine wpAny_bind (h X hx fun v as s' I' k r hok ho=>nH (m:=fun v=>wpAny _ A (do standAt pos; holding [v] (unaryOp .USub v)) Q E s') r hd fun i t e=>?_)
 cases e
 exact wpAny_bind (wpAny_standAt (wpAny_holding (P.neg_int (eJ I' (g.kp k) _ _))))
theorem X9{a:PE}{e:Expr}{pos:Pos}(h:SE Z cl lvl nm sc e a):SE Z cl lvl nm sc (.UnaryOp .Not e pos) (.nt a):=fun{A env ρ O s d Q E}X hd g=>aS hd fun x hx hd=>bY hd fun b hb e=>by
 subst e
 rw[arm_eval_UnaryOp]
 refine wpAny_bind (h X hx fun v as s' I' k r hok ho=>wpAny_bind (wpAny_standAt (wpAny_holding ?_)))
 exact wpAny_holding (wpAny_bind (fF I' r hok hb fun s'' I'' k''=>wpAny_pure (fC I'' (g.kp (k.trans k'')))))
theorem X5{a:PE}{e:Expr}{pos:Pos}(h:ST Z cl lvl nm sc e a):ST Z cl lvl nm sc (.UnaryOp .Not e pos) (.nt a):=fun{A env ρ O s d b Q E}X hd hb hQ=>aS hd fun x hx hd=>bY hd fun t ht e=>by
 subst e
 cases hb
 exact wpAny_isTrue_Not (h X hx ht hQ)
theorem UW{op:Operator}{a b:PE}{l r:Expr}{pos:Pos}(ha:SE Z cl lvl nm sc l a)(hb:SE Z cl lvl nm sc r b):SE Z cl lvl nm sc (.BinOp l op r pos) (.bin op a b):=fun{A env ρ O s d Q E}X hd g=>aS hd fun x hx hd=>aS hd fun y hy hd =>
 wpAny_BinOp (ha X hx fun va as s₁ I₁ k₁ r₁ ok₁ o₁=>hb (X.kp k₁ I₁) hy fun vb bs s₂ I₂ k₂ r₂ ok₂ o₂ =>
  wA I₂ (k₂.rd r₁) r₂ ok₁ ok₂ hd (g.kp (k₁.trans k₂)) (fun yb hy hm=>(o₁ yb hy hm).l) (fun yb hy hm=>(o₂ yb hy hm).r) (X.he.kp (k₁.trans k₂)).lt)
theorem UV{op:CmpOp}{a b:PE}{l r:Expr}{pos:Pos}(hm:behindInMarks op r=false)(ha:SE Z cl lvl nm sc l a)(hb:SE Z cl lvl nm sc r b):SE Z cl lvl nm sc (.Compare l [op] [r] pos) (.cmp op a b):=fun{A env ρ O s d Q E}X hd g=>aS hd fun x hx hd=>aS hd fun y hy hd =>
 wpAny_Compare1 (ha X hx fun va as s₁ I₁ k₁ r₁ ok₁ o₁=>hb (X.kp k₁ I₁) hy fun vb bs s₂ I₂ k₂ r₂ ok₂ o₂=>pU X.ha I₂ (k₂.rd r₁) r₂ ok₁ ok₂ hd (g.kp (k₁.trans k₂))) hm
theorem UJ{op:CmpOp}{a b:PE}{l r:Expr}{pos:Pos}(hm:behindInMarks op r=false)(ha:SE Z cl lvl nm sc l a)(hb:SE Z cl lvl nm sc r b):ST Z cl lvl nm sc (.Compare l [op] [r] pos) (.cmp op a b):=fun{A env ρ O s d t Q E}X hd ht hQ=>aS hd fun x hx hd=>aS hd fun y hy hd =>
 wpAny_isTrue_Compare1 (ha X hx fun va as s₁ I₁ k₁ r₁ ok₁ o₁=>hb (X.kp k₁ I₁) hy fun vb bs s₂ I₂ k₂ r₂ ok₂ o₂=>pU (O:=[]) (es:=[]) X.ha I₂ (k₂.rd r₁) r₂ ok₁ ok₂ hd fun v cs s₃ I₃ k₃ r₃ ok₃ _ =>
  fF I₃ r₃ ok₃ ht fun s₄ I₄ k₄=>hQ s₄ I₄ ((k₁.trans k₂).trans (k₃.trans k₄))) hm
theorem UT{c a b:PE}{t x y:Expr}{pos:Pos}(hc:ST Z cl lvl nm sc t c)(ha:SE Z cl lvl nm sc x a)(hb:SE Z cl lvl nm sc y b):SE Z cl lvl nm sc (.IfExp t x y pos) (.ite c a b):=fun{A env ρ O s d Q E}X hd g=>aS hd fun q hx hd=>aS hd fun t ht hd=>by
 rw[arm_eval_IfExp]
 refine wpAny_bind (hc X hx ht fun s₁ I₁ k₁=>?_)
 cases t with
 | true=>exact ha (X.kp k₁ I₁) hd (g.mono k₁ fun _=>List.mem_append_left _)
 | false=>exact hb (X.kp k₁ I₁) hd (g.mono k₁ fun _=>List.mem_append_right _)
theorem UI{c a b:PE}{t x y:Expr}{pos:Pos}(hc:ST Z cl lvl nm sc t c)(ha:ST Z cl lvl nm sc x a)(hb:ST Z cl lvl nm sc y b):ST Z cl lvl nm sc (.IfExp t x y pos) (.ite c a b):=fun{A env ρ O s d r Q E}X hd hr hQ=>aS hd fun q hx hd=>aS hd fun t ht hd=>by
 rw[arm_isTrue_IfExp]
 refine wpAny_bind (hc X hx ht fun s₁ I₁ k₁=>?_)
 cases t with
 | true=>exact ha (X.kp k₁ I₁) hd hr fun s₂ I₂ k₂=>hQ s₂ I₂ (k₁.trans k₂)
 | false=>exact hb (X.kp k₁ I₁) hd hr fun s₂ I₂ k₂=>hQ s₂ I₂ (k₁.trans k₂)
theorem AS{q:Bool}{a b:PE}{ρ:aW}{d:PyData}{G:Prop}(hd:aH cl (.bool q a b) ρ=some d)(k:∀ x t,aH cl a ρ=some x→cO x=some t→(t=q∧aH cl b ρ=some d)∨(t=(!q)∧x=d)→G):G :=
 aS hd fun x hx hd=>aS hd fun t ht hd=>k x t hx ht <| by
  by_cases h:(t==q)=true
  ·rw[if_pos h]at hd; exact .inl ⟨eq_of_beq h,hd⟩
  ·rw[if_neg h]at hd; exact .inr ⟨by cases t <;> cases q <;> first | rfl | exact absurd rfl h,Option.some.inj hd⟩
theorem EJ{q:Bool}{a b:PE}{x:Expr}{rest:List Expr}{pos:Pos}(hr:∀ env,∃ y r,evalEach rest env=y::r)(ha:SE Z cl lvl nm sc x a)
  (hb:∀{A:Around}{env:Env}{ρ:aW}{O:List (Option Nat×Addr)}{s:Shared}{d:PyData}{Q:Value→Shared→Prop}{E:Value→Shared→Prop},
   Cx Z lvl nm sc A env ρ O s→aH cl b ρ=some d→pA Z s O (lG b) d Q→wpAny (model Z.prog Z.w) A (boolOp pos (kD q) (evalEach rest env)) Q E s) :
  SE Z cl lvl nm sc (.BoolOp (kD q) (x::rest) pos) (.bool q a b):=fun{A env ρ O s d Q E}X hd g=>AS hd fun y t hx ht hc=>by
 rw[arm_eval_BoolOp,arm_evalEach_cons]
 have hb':=fun{s₂}(k:Kp Z.n s.heap s₂.heap)(I:bA Z s₂)h=>hb (Q:=Q) (E:=E) (X.kp k I) h (g.mono k fun _=>List.mem_append_right _)
 obtain⟨y',r',e⟩:=hr env
 rw[e]at hb' ⊢
 refine wpAny_bind (ha X hx fun v as s₁ I₁ k₁ r₁ ok₁ o₁=>wpAny_bind (wpAny_standAt (wpAny_bind (wpAny_holding (fF I₁ r₁ ok₁ ht fun s₂ I₂ k₂=>?_)))))
 rcases hc with⟨rfl,hc⟩| ⟨rfl,rfl⟩
 ·have:=hb' (k₁.trans k₂) I₂ hc
  cases t <;> exact this
 ·have:Q v s₂:=g v as s₂ I₂ (k₁.trans k₂) (k₂.rd r₁) ok₁ fun yb hy hm=>(o₁ yb hy hm).l
  cases q <;> exact wpAny_pure this
theorem EE{q:Bool}{a b:PE}{x:Expr}{rest:List Expr}{pos:Pos}(ha:ST Z cl lvl nm sc x a)
  (hb:∀{A:Around}{env:Env}{ρ:aW}{O:List (Option Nat×Addr)}{s:Shared}{d:PyData}{t:Bool}{Q:Bool→Shared→Prop}{E:Value→Shared→Prop},
   Cx Z lvl nm sc A env ρ O s→aH cl b ρ=some d→cO d=some t→(∀ s',bA Z s'→Kp Z.n s.heap s'.heap→Q t s')→wpAny (model Z.prog Z.w) A (allTrue (kD q) rest env) Q E s) :
  ST Z cl lvl nm sc (.BoolOp (kD q) (x::rest) pos) (.bool q a b):=fun{A env ρ O s d r Q E}X hd hr hQ=>AS hd fun y t hx ht hc=>by
 rw[arm_isTrue_BoolOp,arm_allTrue_cons]
 refine wpAny_bind (ha X hx ht fun s₁ I₁ k₁=>?_)
 rcases hc with⟨rfl,hc⟩| ⟨rfl,rfl⟩
 ·have:=hb (E:=E) (X.kp k₁ I₁) hc hr fun s₂ I₂ k₂=>hQ s₂ I₂ (k₁.trans k₂)
  cases t <;> exact this
 ·cases ht.symm.trans hr
  have:=hQ s₁ I₁ k₁
  cases q <;> exact wpAny_pure this
end
theorem lA{cl:Nat→List PyData→Option PyData}{ρ:aW}:∀{ps:rZ}{ds:List PyData},kE cl ps ρ=some ds→ds.length=mT ps
 | .nil,ds,h=>by cases h; rfl
 | .cons p ps,ds,h=>aS (o:=aH cl p ρ) h fun x hx h=>bY h fun l hl e=>by subst e; exact congrArg Nat.succ (lA hl)
section
variable{Z:aF}{cl:Nat→List PyData→Option PyData}{lvl:Nat}{nm:List Str}{fn:List Str}{sc:Scope}
def H2(Z:aF)(cl:Nat→List PyData→Option PyData)(lvl:Nat)(nm:List Str)(sc:Scope)(es:List Expr)(ps:rZ):Prop :=
 ∀{A:Around}{env:Env}{ρ:aW}{O:List (Option Nat×Addr)}{s:Shared}{ds:List PyData}{R:List Value→Shared→Prop}{E:Value→Shared→Prop}{pos:Pos},
  Cx Z lvl nm sc A env ρ O s→kE cl ps ρ=some ds →
  (∀ vs as s',bA Z s'→Kp Z.n s.heap s'.heap→aU s'.heap vs ds as→cL ds=true→(∀ yb∈O,yb.2∈as→iX yb.1 (r8 ps))→R vs s') →
  wpAny (model Z.prog Z.w) A (spliced (backTo pos (starEach es env))) R E s
theorem yD:H2 Z cl lvl nm sc [] .nil:=fun{A env ρ O s ds R E pos}X hd hR=>by
 cases hd
 exact Calls.spliced_nil (hR [] [] s X.hi (Kp.refl _ _) .nil rfl fun _ _ h=>nomatch h)
theorem tO{e:Expr}{es:List Expr}{p:PE}{ps:rZ}(hstar:∀ env,starEach (e::es) env=(false,eval e env)::starEach es env)(h1:SE Z cl lvl nm sc e p)(h2:H2 Z cl lvl nm sc es ps):H2 Z cl lvl nm sc (e::es) (.cons p ps):=fun{A env ρ O s ds R E pos}X hd hR=>aS hd fun x hx hd=>bY hd fun l hl e=>by
 subst e
 rw[hstar]
 exact Calls.spliced_cons (h1 X hx fun v as s₁ I₁ k₁ r₁ ok₁ o₁=>h2 (X.kp k₁ I₁) hl fun vs bs s₂ I₂ k₂ r₂ ok₂ o₂ =>
  hR (v::vs) (as++bs) s₂ I₂ (k₁.trans k₂) (.cons (k₂.rd r₁) r₂) (by rw[cL,ok₁,ok₂]; rfl) fun yb hy hm=>(List.mem_append.mp hm).elim (fun hm=>(o₁ yb hy hm).l) fun hm=>(o₂ yb hy hm).r)
theorem OX{es:List Expr}{ps:rZ}{pos:Pos}(hlen:mT ps≤1000)(h:H2 Z cl lvl nm sc es ps):SE Z cl lvl nm sc (.List es pos) (.list ps):=fun{A env ρ O s d Q E}X hd g=>bY hd fun ds hds e=>by
 subst e
 rw[arm_eval_List]
 exact wpAny_bind (wpAny_standAt (wpAny_bind (h X hds fun vs as s₁ I₁ k₁ r₁ ok₁ o₁=>by
  have hl:ds.length≤sizeLine:=Nat.le_trans (lA hds▸hlen) (by decide)
  exact wpAny_newList (oH I₁ (g.kp k₁) r₁ (zD hl ok₁) o₁ (X.he.kp k₁).lt _ _) (aP r₁▸hl))))
theorem gB{n:Str}(hg:aR sc n=true):sc.names.lookup n=some .globalImplicit∧(n==("__debug__" : Str))=false:=⟨eq_of_beq (aA hg).1,bO (aA hg).2⟩
theorem M5{n:Str}{pos:Pos}{env:Env}{v:Value}{A:Around}{s:Shared}{Q:Value→Shared→Prop}{E:Value→Shared→Prop}{ρ:aW}{O:List (Option Nat×Addr)}(X:Cx Z lvl nm sc A env ρ O s)
  (hg:aR sc n=true) (hv:Z.mg n=some v) (h:Q v s):wpAny (model Z.prog Z.w) A (eval (.Name n pos) env) Q E s :=
 Calls.Name_function_global X.he.kind (X.hs.2.2 n (gB hg).1) (Calls.loadGlobal_global (mg:=Z.mg) (X.he.glob▸X.hi.glob) hv h) (gB hg).2
theorem FZ{n:Str}{pos:Pos}{env:Env}{v:Value}{A:Around}{s:Shared}{Q:Value→Shared→Prop}{E:Value→Shared→Prop}{ρ:aW}{O:List (Option Nat×Addr)}(hB:f8 Z)(X:Cx Z lvl nm sc A env ρ O s)
  (hg:aR sc n=true) (hv:(n,v)∈sO) (h:Q v s):wpAny (model Z.prog Z.w) A (eval (.Name n pos) env) Q E s :=
 Calls.Name_function_global X.he.kind (X.hs.2.2 n (gB hg).1) (Calls.loadGlobal_builtin (mg:=Z.mg) (mb:=Z.mb) (X.he.glob▸X.hi.glob) (hB n v hv).1 (X.he.blt▸X.hi.bltn) (hB n v hv).2 h) (gB hg).2
theorem bT{f:Value}{es:List Expr}{pos:Pos}{env:Env}{A:Around}{s:Shared}{Q:Args→Shared→Prop}{E:Value→Shared→Prop}(hne:∃ x r,backTo pos (starEach es env)=(false,x)::r)
  (h:wpAny (model Z.prog Z.w) A (spliced (backTo pos (starEach es env))) (fun vs s'=>Q ⟨vs,[]⟩ s') E s):wpAny (model Z.prog Z.w) A (evalArgs f true (backTo pos (starEach es env)) []) Q E s:=by
 obtain⟨x,r,e⟩:=hne
 rw[e]at h ⊢
 exact Calls.evalArgs_plain h
def aV(es:List Expr):Prop:=(∀ env pos,(backTo pos (starEach es env)).any (·.1)=false)∧(es≠[]→∀ env pos,∃ x r,backTo pos (starEach es env)=(false,x)::r)∧∀ env pos,(backTo pos (starEach es env)).length=es.length
theorem bU(n:Str)(p pos:Pos)(args:List Expr)(env:Env):eval (.Call (.Name n p) args [] pos) env=(do callWith pos (← eval (.Name n p) env) [] (backTo pos (starEach args env)) (backToKw pos (keywordEach [] env))):=rfl
theorem OZ{f:Nat}{n:Str}{p pos:Pos}{es:List Expr}{ps:rZ}(hC:dZ Z lvl fn cl)(hn:fn[f]? = some n)(hg:aR sc n=true)(hne:es≠[])(hpl:aV es)(h:H2 Z cl lvl nm sc es ps) :
  SE Z cl lvl nm sc (.Call (.Name n p) es [] pos) (.call f ps):=fun{A env ρ O s d Q E}X hd g=>aS hd fun ds hx hd=>by
 obtain⟨a,o,fd,hv,ho,hoc,hof,hcall⟩:=hC f n ds d hn hd
 rw[bU]
 exact wpAny_bind (M5 X hg hv (Calls.callWith_function (o:=o) (fd:=fd) (bT (hpl.2.1 hne env pos) (h X hx fun vs as s₁ I₁ k₁ r₁ ok₁ o₁ =>
  ⟨⟨I₁.old.get_of_cls ho hoc,hof⟩,hcall A s₁ vs as Q E X.ha I₁ (X.he.kp k₁).size r₁ ok₁ fun v bs s₂ I₂ k₂ r₂ ok₂ o₂=>g v bs s₂ I₂ (k₁.trans k₂) r₂ ok₂ fun yb hy hm=>(o₂ _ hm).elim (o₁ yb hy) fun hm=>by
   obtain⟨oo,e,c⟩:=(X.he.kp k₁).live yb hy
   exact absurd (hm _ e) c⟩))))
theorem HW(b:Bi):(tH b,NX b)∈sO:=by cases b <;> decide
theorem DO(b:Bi)(a:Addr):NX b ≠ .ref a:=by cases b <;> nofun
theorem YB{b:Bi}{p pos:Pos}{es:List Expr}{ps:rZ}(hB:f8 Z)(hg:aR sc (tH b)=true)(hne:es≠[])(hpl:aV es)(h:H2 Z cl lvl nm sc es ps) :
  SE Z cl lvl nm sc (.Call (.Name (tH b) p) es [] pos) (.bi b ps):=fun{A env ρ O s d Q E}X hd g=>aS hd fun ds hx hd=>by
 rw[bU]
 exact wpAny_bind (FZ hB X hg (HW b) (aT (DO b) (hpl.1 env pos) (bT (hpl.2.1 hne env pos) (h X hx fun vs as s₁ I₁ k₁ r₁ ok₁ o₁=>LM X.ha I₁ r₁ ok₁ hd (g.kp k₁) o₁ (X.he.kp k₁).lt))))
theorem BA{A:Around}{s:Shared}{vs:Array Value}{xs:List PyData}{as bs:List Addr}{x:Value}{d:PyData}(rs:aU s.heap vs.toList xs as)(rx:Rd s.heap x d bs)(hxs:cL xs=true)(hd:bK d=true)
  (hu:A.units+1+min (PyData.depthAll xs) d.depth<cLine):∃ e:Value→Bool,(∀ y,y∈vs→SeqAt.EqAt A.in1 s y x (e y))∧vs.toList.map e=xs.map fun y=>PyData.eqv y d:=by
 obtain⟨as',rs'⟩:=rs.reads
 obtain⟨bs',rx'⟩:=rx.reads
 refine⟨fun y=>PyData.eqv (SeqAt.readOf s.heap y) d,SeqAt.items_eqAt rs' rx' (b8 hxs) (bR hd) hu,?_⟩
 rw[← SeqAt.readsAll_map xs vs.toList as' (b8 hxs) rs',List.map_map]
 rfl
theorem oM{h:Heap}:∀{l:List Str}{vs:List Value}{as:List Addr},aU h vs (l.map .str) as→∃ ps:List (Str×Tok),vs=strValues ps∧ps.map (·.1)=l
 | [],vs,as,r=>by cases r; exact⟨[],rfl,rfl⟩
 | n::ns,vs,as,r=>by
  cases r with
  | cons h1 h2 =>
   obtain⟨xs,rfl,e⟩:=oM h2
   obtain⟨t,rfl⟩:=eK h1
   exact⟨(n,t)::xs,rfl,congrArg (n :: ·) e⟩
theorem oN{x y:Str}(hx:PyData.strOk x=true)(hy:PyData.strOk y=true):PyData.strOk (x++y)=true:=by
 unfold PyData.strOk
 rw[Str.cps_append,Array.all_append]
 exact Bool.and_eq_true_iff.mpr ⟨hx,hy⟩
theorem jV{sep:Str}(hs:PyData.strOk sep=true):∀ l:List Str,(∀ x∈l,PyData.strOk x=true)→PyData.strOk (Str.join sep l)=true
 | [],_=>by kernel_rfl
 | [x],h=>h x List.mem_cons_self
 | x::y::r,h=>oN (oN (h x List.mem_cons_self) hs) (jV hs (y::r) fun z hz=>h z (List.mem_cons_of_mem _ hz))
noncomputable def u7:Me→String
 | .join => "str.join"
 | .find => "str.find"
noncomputable def De:Me→String
 | .join => "str"
 | .find => "str"
section
variable{A:Around}{E:Value→Shared→Prop}{s:Shared}{O:List (Option Nat×Addr)}{es:List Nat}{Q:Value→Shared→Prop}
theorem C4{sep:Str}{xs:List PyData}{d:PyData}{t:Tok}{v:Value}{as:List Addr}(I:bA Z s)(r:Rd s.heap v (.list xs) as)(hsep:bK (.str sep)=true)(hd:bK (.list xs)=true)(h:vQ sep xs=some d)(g:pA Z s O es d Q) :
  wpAny (model Z.prog Z.w) A (call (.builtin "str.join") [.str sep t,v]) Q E s:=aS h fun l hs h=>iY h fun hfold e=>by
 cases e
 cases vZ hs
 obtain⟨a,items,as',rfl,hl,ra,-⟩:=b7 r
 obtain⟨ps,e1,e2⟩:=oM ra
 rw[show items=(strValues ps).toArray by rw[← e1]]at hl
 have hjo:JoinOk sep l=true:=by
  unfold JoinOk Builtin.Str.tooLong
  rw[← Array.foldl_toList,Bool.not_eq_true',decide_eq_false_iff_not]
  exact Nat.not_lt.mpr (Nat.le_trans hfold (by decide))
 have hlen:(Txt.join sep l).length≤sizeLine:=joinFit_length (bO hjo)
 have hj:Txt.join sep l=Str.join sep l:=StrLaws.glued_eq_join sep l
 refine SC.join hl e2 hjo fun t' k=>?_
 rw[hj]at hlen ⊢
 exact jT I g (w9 (jV (u4 hsep).1 l fun x hx=>(u4 (cC.mp (rY hd).2 (.str x) (List.mem_map_of_mem hx))).1) hlen) _ _
end
end
section
variable{Z:aF}{cl:Nat→List PyData→Option PyData}{lvl:Nat}{nm:List Str}{fn:List Str}{sc:Scope}
theorem bI{e:Expr}(h:aC e=false)(es:List Expr)(env:Env):starEach (e::es) env=(false,eval e env)::starEach es env:=by
 cases e with
 | Starred=>cases h
 | _=>rfl
theorem fH{e:Expr}{es:List Expr}(h:aC e=false)(ih:aV es):aV (e::es):=by
 have hs:=bI h es
 refine⟨fun env pos=>?_,fun _ env pos=>?_,fun env pos=>?_⟩
 ·rw[hs]; exact ih.1 env pos
 ·rw[hs]; exact⟨_,_,rfl⟩
 ·rw[hs]; exact congrArg Nat.succ (ih.2.2 env pos)
theorem iS:aV []:=⟨fun _ _=>rfl,fun h=>absurd rfl h,fun _ _=>rfl⟩
theorem aY{e:Expr}(h:aC e=false):aV [e]:=fH h iS
theorem lZ{e f:Expr}(h:aC e=false)(h':aC f=false):aV [e,f]:=fH h (aY h')
theorem lB:∀{ps:rZ}{es:List Expr},nN fn nm sc ps es=true→aV es∧es.length=mT ps
 | .nil,es,h=>d9 (m:=fun es=>aV es∧es.length=0) h ⟨iS,rfl⟩
 | .cons p ps,es,h=>cZ (m:=fun es=>aV es∧es.length=mT ps+1) h fun e r h=>let⟨h1,h2⟩:=aA h; let⟨i1,i2⟩:=lB (aA h2).2; ⟨fH (bO h1) i1,congrArg Nat.succ i2⟩
theorem gZ{s:Shared}{a:Value}{x:PyData}{as:List Addr}(ra:Rd s.heap a x as)(h:(x.ctorIdx==3||x.ctorIdx==4)=true) :
  ∃ T id,s.TypeIs a T∧typeLookup (.type T) "__getitem__" = pure (some (.builtin id)):=by
 cases x with
 | list xs=>obtain⟨a,vs,bs,rfl,⟨o,h1,h2,_⟩,_⟩:=b7 ra; exact⟨_,_,⟨_,h1,h2⟩,F.slot_list_getitem.lookup⟩
 | str x=>obtain⟨t,rfl⟩:=eK ra; exact⟨_,_,typeIs_str _ _ _,F.slot_str_getitem.lookup⟩
 | _=>cases h
theorem LP{x d:PyData}{lo hi:Option Int}(h:IA x lo hi=some d):(x.ctorIdx==3||x.ctorIdx==4)=true:=by cases x <;> first | rfl | cases h
theorem M1{x y d:PyData}(h:BM x y=some d):(x.ctorIdx==3||x.ctorIdx==4)=true:=sN h fun i _ h=>by cases x <;> first | rfl | cases h
theorem IQ{O:List (Option Nat×Addr)}{es:List Nat}{as:List Addr}(h:∀ yb∈O,yb.2∈as→iX yb.1 es):∀ yb∈O,yb.2∈as.tail→iX yb.1 es:=fun yb hy hm=>h yb hy (List.mem_of_mem_tail hm)
theorem UU{a i:PE}{v sl:Expr}{pos:Pos}(hns:rO sl=false)(ha:SE Z cl lvl nm sc v a)(hi:SE Z cl lvl nm sc sl i):SE Z cl lvl nm sc (.Subscript v sl pos) (.idx a i):=fun{A env ρ O s d Q E}X hd g=>aS hd fun x hx hd=>aS hd fun y hy hd =>
 Subscript_ (ha X hx fun va as s₁ I₁ k₁ r₁ ok₁ o₁=>hi (X.kp k₁ I₁) hy fun vb bs s₂ I₂ k₂ r₂ ok₂ o₂=>by
  obtain⟨T,id,hT,hl⟩:=gZ (k₂.rd r₁) (M1 hd)
  refine tail_any (ops:=[va,vb]) hT hl (v9 I₂ (k₂.rd r₁) r₂ ok₁ hd (g.kp (k₁.trans k₂)) (IQ o₁)) ?_
  cases sl with
  | Slice=>cases hns
  | _=>rfl)
def SO(Z:aF)(cl:Nat→List PyData→Option PyData)(lvl:Nat)(nm:List Str)(sc:Scope)(o:Option Expr)(p:PO):Prop :=
 ∀{A:Around}{env:Env}{ρ:aW}{O:List (Option Nat×Addr)}{s:Shared}{d:Option Int}{Q:Value→Shared→Prop}{E:Value→Shared→Prop},
  Cx Z lvl nm sc A env ρ O s→WW cl p ρ=some d →
  (∀ q:Option (Int×Tok),q.map (·.1)=d→∀ s',bA Z s'→Kp Z.n s.heap s'.heap→Q (partValue q) s')→wpAny (model Z.prog Z.w) A (evalPart o env) Q E s
theorem X8:SO Z cl lvl nm sc none .no:=fun{A env ρ O s d Q E}X hd hQ=>by
 cases hd
 exact wpAny_pure (hQ none rfl s X.hi (Kp.refl _ _))
theorem wE{x:PyData}{i:Int}(h:qH x=some i):x = .int i:=by
 cases x with
 | int j=>exact congrArg _ (iY h fun _ e=>Option.some.inj e)
 | _=>cases h
theorem UL{e:Expr}{p:PE}(h:SE Z cl lvl nm sc e p):SO Z cl lvl nm sc (some e) (.yes p):=fun{A env ρ O s d Q E}X hd hQ=>aS hd fun x hx hd=>bY hd fun i hi e=>by
 subst e
 rw[evalPart_some]
 exact h X hx fun v as s' I' k r hok ho=>H4 (m:=fun v=>Q v s') (wE hi▸r) fun t=>hQ (some (i,t)) rfl s' I' k
theorem UP{a:PE}{lo hi:PO}{v:Expr}{l u:Option Expr}{p pos:Pos}(ha:SE Z cl lvl nm sc v a)(hl:SO Z cl lvl nm sc l lo)(hu:SO Z cl lvl nm sc u hi):SE Z cl lvl nm sc (.Subscript v (.Slice l u none p) pos) (.slc a lo hi):=fun{A env ρ O s d Q E}X hd g =>
 aS hd fun x hx hd=>aS hd fun y hy hd=>aS hd fun z hz hd =>
 Subscript_ (ha X hx fun va as s₁ I₁ k₁ r₁ ok₁ o₁=>wpAny_Slice (hl (X.kp k₁ I₁) hy fun q1 e1 s₂ I₂ k₂=>hu (X.kp (k₁.trans k₂) I₂) hz fun q2 e2 s₃ I₃ k₃=>wpAny_pure (by
  have k₄:=(k₂.trans k₃).trans (Kp.push Z.n s₃.heap { cls:=.type "slice",data:=.fields #[partValue q1,partValue q2,.none] })
  have ra:=k₄.rd r₁
  obtain⟨T,id,hT,hl⟩:=gZ (s:={ s₃ with heap:=s₃.heap.push { cls:=.type "slice",data:=.fields #[partValue q1,partValue q2,.none] } }) ra (LP hd)
  exact tail_any (ops:=[.ref s₃.heap.objs.size,va]) hT hl (v8 (lo:=q1) (hi:=q2) (I₃.push _ s₃.toks) ra ok₁ ⟨_,Heap.get?_push_size _ rfl,rfl,rfl⟩ (by rw[e1,e2]; exact hd) (g.kp (k₁.trans k₄)) (IQ o₁) (X.he.kp (k₁.trans k₄)).lt) rfl)))
noncomputable def cF(e:Expr):Bool:=dY e fun f _ _ _=>aX f fun _ _=>true
theorem aQ{e:Expr}(h:cF e=false)(n:Str)(env:Env)(w:Sem Value):attributeBase e n env w=w:=by
 cases e with
 | Call f=>cases f with
  | Name=>cases h
  | _=>rfl
 | _=>rfl
theorem HJ{e:Expr}(h:CE e=true):cF e=false:=by
 have h2:e.ctorIdx≠16:=fun c=>by
  unfold CE at h
  rw[c]at h
  cases h
 exact dif_neg h2
theorem jM{es:List Expr}{env:Env}{pos:Pos}(hpl:aV es)(hlen:es.length≤5):methodCallForm (es.length+([]:List Keyword).length) (backTo pos (starEach es env)) (backToKw pos (keywordEach [] env))=true:=by
 have h1:=hpl.1 env pos
 rw[List.any_eq_not_all_not,Bool.not_eq_false']at h1
 show((backTo pos (starEach es env)).all (fun x=>!x.1)&&(backToKw pos (keywordEach [] env)).all (fun x=>x.1.isSome)&&decide (es.length+([]:List Keyword).length+(if([]:List Keyword).isEmpty then 0 else 1)<30))=true
 rw[h1]
 exact decide_eq_true (Nat.lt_of_le_of_lt hlen (by decide))
theorem LT{x d:PyData}(h:TH x=some d):(x.ctorIdx==3||x.ctorIdx==4)=true:=by cases x <;> first | rfl | cases h
theorem UQ{a:PE}{v:Expr}{k1:Nat}{p1 p2 p pos:Pos}(ha:SE Z cl lvl nm sc v a):SE Z cl lvl nm sc (.Subscript v (.Slice none none (some (.UnaryOp .USub (.Constant (.int 1) k1 p1) p2)) p) pos) (.rev a):=fun{A env ρ O s d Q E}X hd g=>aS hd fun x hx hd =>
 Subscript_ (ha X hx fun va as s₁ I₁ k₁ r₁ ok₁ o₁=>wpAny_Slice (wpAny_pure (wpAny_pure (by
  rw[evalPart_some,arm_eval_UnaryOp]
  refine wpAny_bind ?_
  rw[arm_eval_Constant]
  refine wpAny_mkInt (wpAny_bind (wpAny_standAt (wpAny_holding (P.neg_int ?_))))
  have k₄:=Kp.push Z.n s₁.heap { cls:=.type "slice",data:=.fields #[.none,.none,.int (-1) (s₁.toks+1)] }
  have ra:=k₄.rd r₁
  obtain⟨T,id,hT,hl⟩:=gZ (s:={ s₁ with heap:=s₁.heap.push { cls:=.type "slice",data:=.fields #[.none,.none,.int (-1) (s₁.toks+1)] },toks:=s₁.toks+1+1 }) ra (LT hd)
  exact tail_any (ops:=[va,.ref s₁.heap.objs.size]) hT hl (GR (t:=s₁.toks+1) (I₁.push _ _) ra ok₁ ⟨_,Heap.get?_push_size _ rfl,rfl,rfl⟩ hd (g.kp (k₁.trans k₄)) (IQ o₁) (X.he.kp (k₁.trans k₄)).lt) rfl))))
def XJ(Z:aF)(A:Around)(s:Shared)(O:List (Option Nat×Addr))(es:List Nat)(Q E:Value→Shared→Prop)(m:Me)(o:Value)(d:PyData)(ds:List PyData):Prop :=
 ∃ T,PlainAttrs T∧Slot T (B9 m) (u7 m)∧typeOf (.builtin (u7 m))=pure (.type "method_descriptor")∧s.TypeIs o T∧(∀ a,o = .ref a→∃ ob,s.heap.get? a=some ob∧ob.dict=none) ∧
  ∀{vs:List Value}{s':Shared}{as:List Addr},Kp Z.n s.heap s'.heap→bA Z s'→aU s'.heap vs ds as→cL ds=true→pA Z s' O es d Q→wpAny (model Z.prog Z.w) A (call (.builtin (u7 m)) (o::vs)) Q E s'
theorem LL{A:Around}{E:Value→Shared→Prop}{s:Shared}{O:List (Option Nat×Addr)}{es:List Nat}{Q:Value→Shared→Prop}{m:Me}{o:Value}{od:PyData}{os:List Addr}{ds:List PyData}{d:PyData}
  (hA:f6 Z lvl A) (ro:Rd s.heap o od os) (hod:bK od=true) (h:Bu m od ds=some d):XJ Z A s O es Q E m o d ds:=by
 refine R3 (m:=XJ Z A s O es Q E m o d) h (fun x h=>?_) fun x y h=>?_
 rotate_left
 ·cases m with
  | join=>cases h
  | find =>
   exact f7 h fun sx e h=>f7 h fun tx e' h=>sN h fun i e'' h=>by
    subst e e' e''
    cases h
    obtain⟨t,rfl⟩:=eK ro
    exact⟨_,F.plainAttrs_str,F.slot_str_find,F.type_str_find,typeIs_str _ _ _,nofun,fun{vs s' as}k I r hd g=>BV (m:=fun vs=>wpAny _ A (call (.builtin (u7 .find)) (.str sx t::vs)) Q E s') r fun v w as bs rv rw=>S3 (m:=fun v=>wpAny _ A (call (.builtin (u7 .find)) [.str sx t,v,w]) Q E s') rv fun u=>H4 (m:=fun w=>wpAny _ A (call (.builtin (u7 .find)) [.str sx t,.str tx u,w]) Q E s') rw fun q =>
     call_gives F.slot_str_find (typeIs_str _ _ _) F.entry_str_find (F.args_str_find_3 _ _ _) (gives_str_find_from sx tx i t u q) (eJ I g _ _)⟩
 cases m with
 | find =>
  exact f7 h fun sx e h=>f7 h fun tx e' h=>by
   subst e e'
   cases h
   obtain⟨t,rfl⟩:=eK ro
   exact⟨_,F.plainAttrs_str,F.slot_str_find,F.type_str_find,typeIs_str _ _ _,nofun,fun{vs s' as}k I r hd g=>kP (m:=fun vs _=>wpAny _ A (call (.builtin (u7 .find)) (.str sx t::vs)) Q E s') r fun v as rv=>S3 (m:=fun v=>wpAny _ A (call (.builtin (u7 .find)) [.str sx t,v]) Q E s') rv fun u =>
    call_gives F.slot_str_find (typeIs_str _ _ _) F.entry_str_find (F.args_str_find_2 _ _) (gives_str_find sx tx t u) (eJ I g _ _)⟩
 | join =>
  exact f7 h fun sep e h=>iK h fun xs e' h=>by
   subst e e'
   obtain⟨t,rfl⟩:=eK ro
   exact⟨_,F.plainAttrs_str,F.slot_str_join,F.type_str_join,typeIs_str _ _ _,nofun,fun{vs s' as}k I r hd g=>kP (m:=fun vs _=>wpAny _ A (call (.builtin (u7 .join)) (.str sep t::vs)) Q E s') r fun v as rv=>C4 I rv hod (aA hd).1 h g⟩
theorem YA{m:Me}{o:PE}{es:rZ}{x:Expr}{args:List Expr}{apos pos:Pos}(hc:cF x=false)(hline:(apos.endLine==pos.line)=true)(hne:mT es≠0)(hfew:mT es≤5)(ho:SE Z cl lvl nm sc x o)
  (hpl:aV args∧args.length=mT es) (hes:H2 Z cl lvl nm sc args es):SE Z cl lvl nm sc (.Call (.Attribute x (B9 m) apos) args [] pos) (.me m o es):=fun{A env ρ O s d Q E}X hd g=>aS hd fun od hx hd=>aS hd fun l hy hd =>
 wpAny_Call_method_lateS (aQ hc _ _ _) (jM hpl.1 (hpl.2▸hfew)) hline (ho X hx fun vo os s₁ I₁ k₁ r₁ ok₁ o₁=>by
  obtain⟨T,pa,slot,hty,hT,hdict,fin⟩:=LL (O:=O) (es:=lG (.me m o es)) (Q:=Q) (E:=E) X.ha r₁ ok₁ hd
  exact⟨T,u7 m,pa,slot,hty,hT,hdict,aT nofun (hpl.1.1 env pos) (bT (hpl.1.2.1 (fun e=>hne (hpl.2▸e▸rfl)) env pos) (hes (X.kp k₁ I₁) hy fun vs as s₂ I₂ k₂ r₂ ok₂ o₂=>fin k₂ I₂ r₂ ok₂ (g.kp (k₁.trans k₂))))⟩)
end
section
variable{h:Heap}{a:Addr}{m:Str→Option Value}{o:Obj}{xs:Array Value}{n:Nat}{v:Option Value}
theorem fP(x:h.Ns a m)(e:h.get? a=some o)(hd:o.data = .seq xs n):False:=let⟨o',es,ep,e',hd',_⟩:=x; by
 cases e.symm.trans e'
 cases hd.symm.trans hd'
theorem oW(x:h.IsCell a v)(e:h.get? a=some o)(hd:o.data = .seq xs n):False:=let⟨o',e',hd'⟩:=x; by
 cases e.symm.trans e'
 cases hd.symm.trans hd'
theorem qP(x:h.Ns a m)(y:h.IsCell a v):False:=let⟨o',es,ep,e',hd',_⟩:=x; let⟨o,e,hd⟩:=y; by
 cases e.symm.trans e'
 cases hd.symm.trans hd'
end
def cf(env:Env)(n:Str):Prop:=env.kindOf n=some .cell∨env.kindOf n=some .free
def Wr(nm:List Str)(env:Env)(xs:List Nat)(b:Addr):Prop :=
 b=env.locals∨∃ x∈xs,∃ n,nm[x]? = some n∧cf env n∧env.cells.lookup n=some b
theorem Wr.mono{nm:List Str}{env:Env}{xs ys:List Nat}{b:Addr}(h:∀ x∈xs,x∈ys)(w:Wr nm env xs b):Wr nm env ys b :=
 w.elim .inl fun⟨x,hx,r⟩=>.inr ⟨x,h x hx,r⟩
structure aM(Z:aF)(nm:List Str)(env:Env)(xs:List Nat)(X:Addr→Prop)(h h':Heap):Prop where
 keep:∀ b o,h.get? b=some o→(o.cls ≠ .none∨Z.n≤b)→¬Wr nm env xs b→¬X b→Sl h' b o
 acc:∀ n v,(∀ x∈xs,nm[x]? ≠ some n)→uZ env h n v→uZ env h' n v
 ns:(∃ m,h.Ns env.locals m)→∃ m,h'.Ns env.locals m
 cells:∀ n c v,cf env n→env.cells.lookup n=some c→h.IsCell c v→∃ v',h'.IsCell c v'
theorem jB{nm:List Str}(hnd:nm.Nodup){x y:Nat}{n:Str}(h1:nm[x]? = some n)(h2:nm[y]? = some n):x=y :=
 let⟨_,e1⟩:=List.getElem?_eq_some_iff.mp h1; let⟨_,e2⟩:=List.getElem?_eq_some_iff.mp h2; (List.getElem_inj hnd).mp (e1.trans e2.symm)
section
variable{Z:aF}{nm:List Str}{env:Env}{xs:List Nat}{X:Addr→Prop}{h h' h₁ h₂ h₃:Heap}{ρ:aW}{O:List (Option Nat×Addr)}
theorem aK.cellAt(hE:aK Z nm env ρ O h){n:Str}(hk:cf env n){c:Addr}(hc:env.cells.lookup n=some c):Z.n≤c∧∃ v,h.IsCell c v:=by
 obtain⟨c',v,e,hn,hv⟩:=hE.cells n hk
 cases hc.symm.trans e
 exact⟨hn,v,hv⟩
theorem aM.trans(a:aM Z nm env xs X h₁ h₂)(b:aM Z nm env xs X h₂ h₃):aM Z nm env xs X h₁ h₃ where
 keep:=fun y o e c hw hx=>(a.keep y o e c hw hx).next fun o' e' hc=>b.keep y o' e' (by rw[hc]; exact c) hw hx
 acc:=fun n v hn hv=>b.acc n v hn (a.acc n v hn hv)
 ns:=fun hn=>b.ns (a.ns hn)
 cells:=fun n c v hk hc hv=>let⟨v',hv'⟩:=a.cells n c v hk hc hv; b.cells n c v' hk hc hv'
theorem aM.mono{ys:List Nat}{Y:Addr→Prop}(a:aM Z nm env xs X h h')(hxy:∀ x∈xs,x∈ys)(hXY:∀ b,X b→Y b):aM Z nm env ys Y h h' where
 keep:=fun y o e c hw hx=>a.keep y o e c (fun w=>hw (w.mono hxy)) fun q=>hx (hXY _ q)
 acc:=fun n v hn hv=>a.acc n v (fun x hx=>hn x (hxy x hx)) hv
 ns:=a.ns
 cells:=a.cells
theorem aM.of_kp(hE:aK Z nm env ρ O h)(k:Kp Z.n h h'):aM Z nm env xs X h h' where
 keep:=fun y o e c _ _=>k.k y o e c
 acc:=fun n v _ hv=>hv.kp k hE.new fun c hc hk=>(hE.cellAt hk hc).1
 ns:=fun⟨m,hm⟩=>⟨m,k.ns hE.new hm⟩
 cells:=fun n c v hk hc hv=>⟨v,k.cell (hE.cellAt hk hc).1 hv⟩
theorem aK.wr_ge(hE:aK Z nm env ρ O h){b:Addr}(w:Wr nm env xs b):Z.n≤b∧b<h.objs.size∧∀ o vs n,h.get? b=some o→o.data ≠ .seq vs n:=by
 rcases w with rfl | ⟨x,hx,n,hn,hk,hc⟩
 ·obtain⟨m,hm⟩:=hE.ns
  exact⟨hE.new,hm.lt,fun o vs n e hd=>fP hm e hd⟩
 ·obtain⟨h2,v,h3⟩:=hE.cellAt hk hc
  exact⟨h2,h3.lt,fun o vs n e hd=>oW h3 e hd⟩
theorem aK.out(hE:aK Z nm env ρ O h){yb:Option Nat×Addr}(hy:yb∈O):¬Wr nm env xs yb.2:=fun w =>
 w.elim (hE.apart yb hy).1 fun⟨_,_,n,_,hk,hc⟩=>(hE.apart yb hy).2 n _ hk hc rfl
theorem aM.rd{q:Bool}{vs:List Value}{ds:List PyData}{as:List Addr}(T:aM Z nm env xs X h h')(hE:aK Z nm env ρ O h)(r:iV h q vs ds as)(hX:∀ b∈as,¬X b):iV h' q vs ds as:=r.map fun b o hb e c=>by
 obtain⟨o',vs,m,e',hd,_⟩:=r.objs b hb
 cases e.symm.trans e'
 exact(T.keep b o e (.inl (by rw[c]; nofun)) (fun w=>(hE.wr_ge w).2.2 o vs m e hd) (hX b hb)).seq hd
theorem aK.of_turned'{O₂:List (Option Nat×Addr)}(hE:aK Z nm env ρ O h)(hsub:∀ yb∈O₂,yb∈O)(hnd:nm.Nodup)(T:aM Z nm env xs X h h')(hρ:∀ x∈xs,bB ρ x=none)(hX:∀ yb∈O₂,X yb.2→∃ o,h'.get? yb.2=some o∧o.cls ≠ .none)
  (hR:∀ b,X b→(none,b)∈O):aK Z nm env ρ O₂ h' where
 kind:=hE.kind
 glob:=hE.glob
 blt:=hE.blt
 new:=hE.new
 ns:=T.ns hE.ns
 live:=fun yb hy=>by
  by_cases hx:X yb.2
  ·exact hX yb hy hx
  ·obtain⟨o,e,c⟩:=hE.live yb (hsub yb hy)
   obtain⟨o',e',hc,_⟩:=(T.keep _ _ e (.inl c) (hE.out (hsub yb hy)) hx).ex
   exact⟨o',e',hc▸c⟩
 apart:=fun yb hy=>hE.apart yb (hsub yb hy)
 cells:=fun n hk=>let⟨c,v,e,h2,h3⟩:=hE.cells n hk; let⟨v',h4⟩:=T.cells n c v hk e h3; ⟨c,v',e,h2,h4⟩
 inj:=hE.inj
 vars:=fun y d n h1 h2 h3=>by
  obtain⟨v,as,a,r,hok,ho⟩:=hE.vars y d n h1 h2 h3
  refine⟨v,as,T.acc n v (fun x hx hxn=>?_) a,T.rd hE r fun b hb q=>?_,hok,fun yb hy=>ho yb (hsub yb hy)⟩
  ·cases(hρ y (jB hnd hxn h2▸hx)).symm.trans h1
  ·cases(ho _ (hR b q) hb).1
theorem aK.of_turned(hE:aK Z nm env ρ O h)(hnd:nm.Nodup)(T:aM Z nm env xs X h h')(hρ:∀ x∈xs,bB ρ x=none)(hX:∀ yb∈O,X yb.2→∃ o,h'.get? yb.2=some o∧o.cls ≠ .none)
  (hR:∀ b,X b→(none,b)∈O):aK Z nm env ρ O h':=hE.of_turned' (fun _ h=>h) hnd T hρ hX hR
theorem aK.lessO{O':List (Option Nat×Addr)}(hE:aK Z nm env ρ O h)(hs:∀ yb∈O',yb∈O):aK Z nm env ρ O' h :=
 { hE with live:=fun yb hy=>hE.live yb (hs yb hy),apart:=fun yb hy=>hE.apart yb (hs yb hy),vars:=fun y d n h1 h2 h3=>let⟨v,as,a,r,hok,ho⟩:=hE.vars y d n h1 h2 h3; ⟨v,as,a,r,hok,fun yb hy=>ho yb (hs yb hy)⟩ }
theorem aK.lessV{ρ':aW}(hE:aK Z nm env ρ O h)(hs:∀ x d,bB ρ' x=some d→bB ρ x=some d):aK Z nm env ρ' O h :=
 { hE with vars:=fun y d n h1=>hE.vars y d n (hs y d h1) }
theorem E7{a:Addr}{m m':Str→Option Value}(x:h.Ns a m)(y:h.Ns a m')(n:Str):m n=m' n:=by
 obtain⟨o,es,ep,e,hd,_,hm⟩:=x
 obtain⟨o',es',ep',e',hd',_,hm'⟩:=y
 cases e.symm.trans e'
 cases hd.symm.trans hd'
 exact(hm n).symm.trans (hm' n)
theorem uZ.uniq{n:Str}{v w:Value}(a:uZ env h n v)(b:uZ env h n w):v=w:=by
 rcases a with⟨h1,m,h2,h3⟩| ⟨h1,c,h2,o,e,hd⟩ <;> rcases b with⟨g1,m',g2,g3⟩| ⟨g1,c',g2,o',e',hd'⟩
 ·exact Option.some.inj ((h3.symm.trans (E7 h2 g2 n)).trans g3)
 ·rw[h1]at g1; exact g1.elim nofun nofun
 ·rw[g1]at h1; exact h1.elim nofun nofun
 ·cases h2.symm.trans g2
  cases e.symm.trans e'
  cases hd.symm.trans hd'
  rfl
theorem l4{x y:Nat}{d:PyData}{q:Option PyData}(h:bB (ρ.set x q) y=some d):(y=x∧q=some d)∨(y≠x∧bB ρ y=some d):=by
 unfold bB at h ⊢
 rw[List.getElem?_set]at h
 by_cases e:x=y
 ·rw[if_pos e]at h
  by_cases hx:x<ρ.length
  ·rw[if_pos hx]at h; exact .inl ⟨e.symm,h⟩
  ·rw[if_neg hx]at h; cases h
 ·rw[if_neg e]at h
  exact .inr ⟨fun e'=>e e'.symm,h⟩
theorem uJ(ρ:aW)(x:Nat):bB (ρ.set x none) x=none:=by
 cases e:bB (ρ.set x none) x with
 | none=>rfl
 | some d=>rcases l4 e with⟨_,e⟩| ⟨e,_⟩ <;> first | cases e | exact absurd rfl e
theorem AJ{x y:Nat}(q:Option PyData)(h:x≠y):bB (ρ.set x q) y=bB ρ y:=by unfold bB; rw[List.getElem?_set,if_neg h]
theorem wN{x y:Nat}{d:PyData}(h:bB (ρ.set x none) y=some d):bB ρ y=some d:=(l4 h).elim (fun e=>nomatch e.2) fun e=>e.2
theorem v7{M:Model}{A:Around}{E:Value→Shared→Prop}{s:Shared}{n:Str}{v:Value}{x:Nat}{Q:Unit→Shared→Prop}(hE:aK Z nm env ρ O s.heap)(hI:bA Z s)(hx:nm[x]? = some n)
  (hk:env.kindOf n=some .local∨env.kindOf n=some .cell)
  (hQ:∀ h' tk,bA Z { s with heap:=h',toks:=tk }→uZ env h' n v→aM Z nm env [x] (fun _=>False) s.heap h'→Q () { s with heap:=h',toks:=tk }):wpAny M A (storeName env n v) Q E s:=by
 obtain⟨m,hm⟩:=hE.ns
 have hne:∀{y},(∀ x'∈[x],nm[x']? ≠ some y)→y≠n:=fun hy e=>hy x (List.mem_singleton.mpr rfl) (e▸hx)
 rcases hk with hk | hk
 ·refine wpAny_storeName_local hk hm (fun h' hn hs=>hQ h' _ (hI.same hE.new hs (fun _=>let⟨o,es,ep,e,hd,_⟩:=hn; ⟨o,e,es,ep,hd⟩) _) (.inl ⟨hk,_,hn,if_pos rfl⟩) ?_) (by simp[hE.kind])
  have cell:∀{c u},s.heap.IsCell c u→h'.IsCell c u:=fun⟨o,e,hd⟩=>⟨o,(hs.2 _ fun e'=>qP hm ⟨o,e'▸e,hd⟩).trans e,hd⟩
  refine⟨fun b o e _ hw _=>.inl ((hs.2 b fun e'=>hw (.inl e')).trans e),fun y u hy hv=>?_,fun _=>⟨_,hn⟩,fun y c u hyk hc hu=>⟨u,cell hu⟩⟩
  rcases hv with⟨h1,m',h2,h3⟩| ⟨h1,c,h2,h3⟩
  ·exact .inl ⟨h1,_,hn,(if_neg (hne hy)).trans ((E7 hm h2 y).trans h3)⟩
  ·exact .inr ⟨h1,c,h2,cell h3⟩
 ·obtain⟨c,v₀,hc,hcn,hcell⟩:=hE.cells n (.inl hk)
  refine wpAny_storeName_cell hE.kind hk hc hcell fun h' hc' hs=>hQ h' s.toks (hI.same hcn hs (fun h=>absurd h (let⟨o,e,hd⟩:=hcell; hI.frNot e fun es ep h=>by cases hd.symm.trans h)) _) (.inr ⟨.inl hk,c,hc,hc'⟩) ?_
  have hlc:env.locals≠c:=fun e=>qP hm (e▸hcell)
  refine⟨fun b o e _ hw _=>.inl ((hs.2 b fun e'=>hw (.inr ⟨x,List.mem_singleton.mpr rfl,n,hx,.inl hk,e'▸hc⟩)).trans e),fun y u hy hv=>?_,fun _=>⟨m,hm.sameBut hs hlc⟩,fun y c' u hyk hyc hu=>?_⟩
  ·rcases hv with⟨h1,m',h2,h3⟩| ⟨h1,c',h2,o,e,hd⟩
   ·exact .inl ⟨h1,m',h2.sameBut hs hlc,h3⟩
   ·exact .inr ⟨h1,c',h2,o,(hs.2 c' fun e'=>hne hy (hE.inj y n c h1 (.inl hk) (e'▸h2) hc)).trans e,hd⟩
  ·by_cases e:c'=c
   ·exact⟨_,e▸hc'⟩
   ·obtain⟨o,e',hd⟩:=hu
    exact⟨u,o,(hs.2 c' e).trans e',hd⟩
theorem aK.stored{x:Nat}{n:Str}{v:Value}{d:PyData}{as:List Addr}(hE:aK Z nm env ρ O h)(hnd:nm.Nodup)(hx:nm[x]? = some n)(T:aM Z nm env [x] (fun _=>False) h h')(a:uZ env h' n v)
  (r:Rd h v d as) (hd:bK d=true) (ho:∀ yb∈O,yb.2∈as→yb.1=some x∧as.head? = some yb.2):aK Z nm env (ρ.set x (some d)) O h' :=
 have h0:aK Z nm env (ρ.set x none) O h':=aK.of_turned (hE.lessV (ρ':=ρ.set x none) fun y q hy=>wN hy) hnd T (fun y hy=>by cases List.mem_singleton.mp hy; exact uJ ρ x) (fun _ _ h=>h.elim) fun _ h=>h.elim
 { h0 with
  vars:=fun y q m h1 h2 h3=>by
   rcases l4 h1 with⟨rfl,e⟩| ⟨hne,e⟩
   ·cases e
    cases hx.symm.trans h2
    exact⟨v,as,a,T.rd hE r fun _ _=>id,hd,ho⟩
   ·exact h0.vars y q m ((AJ none fun e=>hne e.symm).trans e) h2 h3 }
theorem FC{sc:Scope}(hs:vA sc env){n:Str}(h:iU sc n=true)(hf:env.kindOf n≠some .free):env.kindOf n=some .local∨env.kindOf n=some .cell:=by
 rcases Bool.or_eq_true_iff.mp h with h | h
 ·exact .inl (hs.1 n (eq_of_beq h))
 ·exact(hs.2.1 n (.inl (eq_of_beq h))).elim .inr fun e=>absurd e hf
def pQ(sc:Scope)(env:Env):Prop:=∀ n,iU sc n=true→env.kindOf n≠some .free
end
section
variable{Z:aF}{cl:Nat→List PyData→Option PyData}{lvl:Nat}{nm:List Str}{fn:List Str}{sc:Scope}
theorem l7{A:Around}{env:Env}{ρ:aW}{O:List (Option Nat×Addr)}{s:Shared}{E:Value→Shared→Prop}{x:Nat}{n:Str}{p:Pos}{v:Value}{d:PyData}{as:List Addr}{Q:Unit→Shared→Prop}(hnd:nm.Nodup)(hx:nm[x]? = some n)(hl:iU sc n=true)
  (hs:vA sc env) (hf:pQ sc env) (hE:aK Z nm env ρ O s.heap) (hI:bA Z s) (r:Rd s.heap v d as) (hd:bK d=true) (ho:∀ yb∈O,yb.2∉as)
  (hQ:∀ s',bA Z s'→aK Z nm env (ρ.set x (some d)) O s'.heap→aM Z nm env [x] (fun _=>False) s.heap s'.heap→Q () s'):wpAny (model Z.prog Z.w) A (assign (.Name n p) env v) Q E s :=
 wpAny_assign_Name (v7 hE hI hx (FC hs hl (hf n hl)) fun _ _ I' a T=>hQ _ I' (hE.stored hnd hx T a r hd fun yb hy hm=>absurd hm (ho yb hy)) T)
structure Bz(Z:aF)(A:Around)(O:List (Option Nat×Addr))(p:PI)(s:Shared)(ds:List PyData)(I:Addr)(used:List Addr)(St:Nat→Heap→Prop)(s':Shared):Prop where
 iter:xE Z A I ds used St
 start:St 0 s'.heap
 ok:cL ds=true
 len:ds.length≤sizeLine
 inv:bA Z s'
 kp:Kp Z.n s.heap s'.heap
 fresh:s.heap.get? I=none
 seq:∀ a∈used,∃ o vs n,s'.heap.get? a=some o∧o.data = .seq vs n∧o.cls ≠ .none
 own:∀ yb∈O,yb.2∈used→iX yb.1 (eB p)
def SI(Z:aF)(cl:Nat→List PyData→Option PyData)(lvl:Nat)(nm:List Str)(sc:Scope)(e:Expr)(p:PI):Prop :=
 ∀{A:Around}{env:Env}{ρ:aW}{O:List (Option Nat×Addr)}{s:Shared}{ds:List PyData}{Q:Value→Shared→Prop}{E:Value→Shared→Prop},
  Cx Z lvl nm sc A env ρ O s→zA cl p ρ=some ds →
  (∀ I used St s',Bz Z A O p s ds I used St s'→Q (.ref I) s')→wpAny (model Z.prog Z.w) A (eval e env) (fun x s₁=>wpAny (model Z.prog Z.w) A (pyIter x) Q E s₁) E s
theorem get?_ge {h:Heap} {a:Addr} (ha:h.objs.size≤a):h.get? a=none:=by
 cases e:h.get? a with
 | none=>rfl
 | some o=>exact absurd (Heap.lt_size e) (Nat.not_lt.mpr ha)
theorem Kp.none{h h':Heap}(k:Kp Z.n h h'){a:Addr}(hna:Z.n≤a)(ha:h'.get? a=none):h.get? a=none:=by
 cases e:h.get? a with
 | none=>rfl
 | some o=>obtain⟨_,this,_⟩:=(k.k a o e (.inr hna)).ex; cases ha.symm.trans this
theorem RV{e:Expr}{p:PE}(h:SE Z cl lvl nm sc e p):SI Z cl lvl nm sc e (.of p):=fun{A env ρ O s ds Q E}X hd hQ=>aS hd fun x hx hd=>h X hx fun v as s₁ I₁ k₁ r₁ ok₁ o₁=>by
 cases x with
 | list xs =>
  cases hd
  obtain⟨a,items,as',rfl,hl,ra,rfl⟩:=b7 r₁
  have hsz:Z.n≤s₁.heap.objs.size:=(X.he.kp k₁).size
  have hp:∀{b o}{ob:Obj},s₁.heap.get? b=some o→(s₁.heap.push ob).get? b=some o:=fun e=>Heap.get?_push_of_some _ e
  exact wpAny_pyIter_list hl (hQ s₁.heap.objs.size (a::as') (fun k h=>h.IsListIter s₁.heap.objs.size a k∧h.IsList a items∧aU h items.toList ds as') _
   ⟨xE.list X.ha.handled hsz (I₁.frLt (Nat.le_refl _)) fun hb=>Nat.lt_irrefl _ (r₁.lt _ hb),⟨⟨_,Heap.get?_push_size _ rfl,rfl,rfl⟩,eU hl fun o e=>hp e,ra.map fun _ _ _ e _=>hp e⟩,(rY ok₁).2,(rY ok₁).1,I₁.push _ _,k₁.trans (Kp.push _ _ _),k₁.none hsz (get?_ge (Nat.le_refl _)),
    fun b hb=>let⟨o,vs,n,e,hd,hc⟩:=r₁.objs b hb; ⟨o,vs,n,hp e,hd,by rw[hc]; nofun⟩,o₁⟩)
 | _=>cases hd
theorem EH{A:Around}{env:Env}{ρ:aW}{O:List (Option Nat×Addr)}{s s₁:Shared}{Q:Value→Shared→Prop}{E:Value→Shared→Prop}{p:PI}{lo hi k:Int}{t u v:Tok}{r:Addr}(X:Cx Z lvl nm sc A env ρ O s)(hs:Builtin.Range.small lo hi k=true)(hl:(Builtin.Range.rangeSize lo hi k).toNat≤sizeLine)(hI:bA Z s₁)
  (kp:Kp Z.n s.heap s₁.heap) (hR:IsRange s₁.heap r lo hi k t u v) (hQ:∀ I used St s',Bz Z A O p s (WX lo hi k) I used St s'→Q (.ref I) s'):wpAny (model Z.prog Z.w) A (pyIter (.ref r)) Q E s₁:=by
 have hsz:=(X.he.kp kp).size
 refine wpAny_pyIter_range hR hs (hQ _ [] (fun j h=>IsRangeIter h _ (lo+(j:Nat)*k) (((Builtin.Range.rangeSize lo hi k).toNat:Int) - (j:Nat)) k) _
  ⟨xE.range X.ha.handled hsz (hI.frLt (Nat.le_refl _)),?_,cC.mpr fun d hd=>let⟨_,_,e⟩:=List.mem_map.mp hd; e▸rfl,?_,hI.push _ _,kp.trans (Kp.push _ _ _),kp.none hsz (get?_ge (Nat.le_refl _)),nofun,nofun⟩)
 ·show IsRangeIter _ _ (lo+((0:Nat):Int)*k) (((Builtin.Range.rangeSize lo hi k).toNat:Int) - ((0:Nat):Int)) k
  rw[show lo+((0:Nat):Int)*k=lo from(congrArg (lo + ·) (Int.zero_mul k)).trans (Int.add_zero lo),show(((Builtin.Range.rangeSize lo hi k).toNat:Int) - ((0:Nat):Int))=Builtin.Range.rangeSize lo hi k from(Int.sub_zero _).trans (rangeSize_toNat lo hi k).symm]
  exact Heap.get?_push_size _ rfl
 ·unfold WX
  rw[List.length_map,List.length_range]
  exact hl
theorem qD{n:Str}{p pos:Pos}{es:List Expr}{ps:rZ}{v:Value}{A:Around}{env:Env}{ρ:aW}{O:List (Option Nat×Addr)}{s:Shared}{ds:List PyData}{Q:Value→Shared→Prop}{E:Value→Shared→Prop}(hB:f8 Z)(X:Cx Z lvl nm sc A env ρ O s)(hg:aR sc n=true)(hv:(n,v)∈sO)(hnr:∀ a,v ≠ .ref a)(hne:es≠[])(hpl:aV es)(h:H2 Z cl lvl nm sc es ps)(hd:kE cl ps ρ=some ds)
  (hQ:∀ vs as s',bA Z s'→Kp Z.n s.heap s'.heap→aU s'.heap vs ds as→cL ds=true→(∀ yb∈O,yb.2∈as→iX yb.1 (r8 ps))→wpAny (model Z.prog Z.w) A (call v vs) Q E s') :
  wpAny (model Z.prog Z.w) A (eval (.Call (.Name n p) es [] pos) env) Q E s:=by
 rw[bU]
 exact wpAny_bind (FZ hB X hg hv (aT hnr (hpl.1 env pos) (bT (hpl.2.1 hne env pos) (h X hd hQ))))
theorem yC{e:Expr}{p:PE}(hst:aC e=false)(h:SE Z cl lvl nm sc e p):H2 Z cl lvl nm sc [e] (.cons p .nil):=tO (bI hst []) h yD
theorem OU{e f:Expr}{p q:PE}(hst:aC e=false)(hst':aC f=false)(h:SE Z cl lvl nm sc e p)(h':SE Z cl lvl nm sc f q):H2 Z cl lvl nm sc [e,f] (.cons p (.cons q .nil)) :=
 tO (bI hst [f]) h (yC hst' h')
theorem GT{e:Expr}{p q:Pos}{a:PE}(hB:f8 Z)(hg:aR sc "range" = true)(hst:aC e=false)(h:SE Z cl lvl nm sc e a):SI Z cl lvl nm sc (.Call (.Name "range" p) [e] [] q) (.range1 a):=fun{A env ρ O s ds Q E}X hd hQ=>aS hd fun x hx hd=>sN hd fun n e hd=>BI hd fun hr e'=>by
 subst e e'
 have h0:0≤n:=of_decide_eq_true (aA hr).1
 have h1:n≤2 ^ 20:=of_decide_eq_true (aA hr).2
 have hl:(Builtin.Range.rangeSize 0 n 1).toNat≤sizeLine:=by
  rw[rangeSize_nat,Int.toNat_natCast,Int.sub_zero]
  exact Int.toNat_le.mpr (Int.le_trans h1 (by decide))
 exact qD (ps:=.cons a .nil) (ds:=[.int n]) hB X hg (v:=.type "range") (by decide) nofun nofun (aY hst) (yC hst h) (by rw[kE,hx]; rfl) fun vs as s₁ I₁ k₁ r₁ ok₁ o₁ =>
  kP (m:=fun vs _=>wpAny _ A (call (.type "range") vs) _ E s₁) r₁ fun v as r=>H4 (m:=fun v=>wpAny _ A (call (.type "range") [v]) _ E s₁) r fun t=>call_range_1 (EH X (small_one (by decide) (by decide) (Int.le_trans (by decide) h0) (Int.lt_of_le_of_lt h1 (by decide))) hl (I₁.push _ _) (k₁.trans (Kp.push _ _ _)) (IsRange.new _ 0 n 1 _ _ _) hQ)
theorem GS{e f:Expr}{p q:Pos}{a b:PE}(hB:f8 Z)(hg:aR sc "range" = true)(hst:aC e=false)(hst':aC f=false)(h:SE Z cl lvl nm sc e a)(h':SE Z cl lvl nm sc f b):SI Z cl lvl nm sc (.Call (.Name "range" p) [e,f] [] q) (.range2 a b):=fun{A env ρ O s ds Q E}X hd hQ=>aS hd fun x hx hd=>aS hd fun y hy hd=>sN hd fun m e hd=>sN hd fun n e' hd=>BI hd fun hr e''=>by
 subst e e' e''
 have m0:0≤m:=of_decide_eq_true (aA (aA hr).1).1
 have m1:m≤2 ^ 20:=of_decide_eq_true (aA (aA hr).1).2
 have n0:0≤n:=of_decide_eq_true (aA (aA hr).2).1
 have n1:n≤2 ^ 20:=of_decide_eq_true (aA (aA hr).2).2
 have hl:(Builtin.Range.rangeSize m n 1).toNat≤sizeLine:=by
  rw[rangeSize_nat,Int.toNat_natCast]
  exact Int.toNat_le.mpr (Int.le_trans (Int.sub_le_self n m0) (Int.le_trans n1 (by decide)))
 exact qD (ps:=.cons a (.cons b .nil)) (ds:=[.int m,.int n]) hB X hg (v:=.type "range") (by decide) nofun nofun (lZ hst hst') (OU hst hst' h h') (by rw[kE,hx,kE,hy]; rfl) fun vs as s₁ I₁ k₁ r₁ ok₁ o₁ =>
  BV (m:=fun vs=>wpAny _ A (call (.type "range") vs) _ E s₁) r₁ fun v w as bs r r'=>H4 (m:=fun v=>wpAny _ A (call (.type "range") [v,w]) _ E s₁) r fun t=>H4 (m:=fun w=>wpAny _ A (call (.type "range") [_,w]) _ E s₁) r' fun u =>
   call_range_2 (EH X (small_one (Int.le_trans (by decide) m0) (Int.lt_of_le_of_lt m1 (by decide)) (Int.le_trans (by decide) n0) (Int.lt_of_le_of_lt n1 (by decide))) hl (I₁.push _ _) (k₁.trans (Kp.push _ _ _)) (IsRange.new _ m n 1 _ _ _) hQ)
theorem qA{e:Expr}(h:iO e=false)(env:Env)(x:Value):foldedSetIterable e env x=pure x:=by
 cases e with
 | Set=>cases h
 | _=>rfl
noncomputable def hit(es:List Nat):Option Nat→Bool
 | none=>false
 | some y=>es.contains y
theorem yL{es:List Nat}{o:Option Nat}:hit es o=true↔iX o es:=by
 cases o with
 | none=>exact⟨nofun,fun⟨_,_,h⟩=>nomatch h⟩
 | some y=>exact⟨fun h=>⟨y,List.contains_iff_mem.mp h,rfl⟩,fun⟨z,h,e⟩=>by cases e; exact List.contains_iff_mem.mpr h⟩
noncomputable def reserves(fp:List Addr)(O:List (Option Nat×Addr))(es:List Nat):List (Option Nat×Addr):=fp.map (fun a=>(none,a))++O.filter fun yb=>!hit es yb.1
noncomputable abbrev reserve(I:Addr)(O:List (Option Nat×Addr))(es:List Nat):List (Option Nat×Addr):=reserves [I] O es
section
variable{fp:List Addr}{O:List (Option Nat×Addr)}{es:List Nat}{yb:Option Nat×Addr}{I:Addr}
theorem cY(h:yb∈reserves fp O es):(∃ a∈fp,yb=(none,a))∨(yb∈O∧¬iX yb.1 es) :=
 (List.mem_append.mp h).imp (fun h=>let⟨a,ha,e⟩:=List.mem_map.mp h; ⟨a,ha,e.symm⟩) fun h=>⟨(List.mem_filter.mp h).1,fun h'=>by have:=bO (List.mem_filter.mp h).2; rw[yL.mpr h']at this; cases this⟩
theorem k9(h:yb∈reserve I O es):yb=(none,I)∨(yb∈O∧¬iX yb.1 es):=(cY h).imp_left fun⟨_,ha,e⟩=>List.mem_singleton.mp ha▸e
theorem dK(h:yb∈O):yb∈reserves fp O es∨iX yb.1 es:=by
 cases hh:hit es yb.1 with
 | true=>exact .inr (yL.mp hh)
 | false=>exact .inl (List.mem_append_right _ (List.mem_filter.mpr ⟨h,by rw[hh]; rfl⟩))
theorem jY{a:Addr}(h:(none,a)∈O):(none,a)∈reserves fp O es:=(dK h).elim id fun⟨_,_,h⟩=>nomatch h
theorem uE{a:Addr}(h:a∈fp):(none,a)∈reserves fp O es:=List.mem_append_left _ (List.mem_map_of_mem h)
end
theorem aK.reserves{env:Env}{ρ:aW}{O:List (Option Nat×Addr)}{h h':Heap}{fp:List Addr}{es:List Nat}(hE:aK Z nm env ρ O h)(k:Kp Z.n h h')(hfresh:∀ a∈fp,h.get? a=none)(hlive:∀ a∈fp,∃ o,h'.get? a=some o∧o.cls ≠ .none):aK Z nm env ρ (reserves fp O es) h' :=
 have hk:=hE.kp k
 { hk with
  live:=fun yb hy=>(cY hy).elim (fun⟨a,ha,e⟩=>e▸hlive a ha) fun h=>hk.live yb h.1
  apart:=fun yb hy=>(cY hy).elim (fun⟨I,ha,e⟩=>by
   subst e
   have hfresh:=hfresh I ha
   refine⟨fun e'=>?_,fun n c hkd hc e'=>?_⟩
   ·obtain⟨m,o,es,ep,e'',_⟩:=hE.ns
    cases hfresh.symm.trans ((show I=env.locals from e')▸e'')
   ·obtain⟨_,v,o,e'',_⟩:=hE.cellAt hkd hc
    cases hfresh.symm.trans ((show I=c from e')▸e'')) fun h=>hk.apart yb h.1
  vars:=fun x d n h1 h2 h3=>by
   obtain⟨v,as,a,r,hd,ho⟩:=hE.vars x d n h1 h2 h3
   refine⟨v,as,a.kp k hE.new (fun c hc hkd=>(hE.cellAt hkd hc).1),k.rd r,hd,fun yb hy hm=>(cY hy).elim (fun⟨b,hb,e⟩=>?_) fun h=>ho yb h.1 hm⟩
   obtain⟨o,_,_,e',_⟩:=r.objs yb.2 hm
   rw[e]at e'
   cases(hfresh b hb).symm.trans e' }
theorem aK.reserve{env:Env}{ρ:aW}{O:List (Option Nat×Addr)}{h h':Heap}{I:Addr}{es:List Nat}(hE:aK Z nm env ρ O h)(k:Kp Z.n h h')(hfresh:h.get? I=none)(hlive:∃ o,h'.get? I=some o∧o.cls ≠ .none):aK Z nm env ρ (Kt.Internal.reserve I O es) h' :=
 hE.reserves k (fun _ h=>List.mem_singleton.mp h▸hfresh) fun _ h=>List.mem_singleton.mp h▸hlive
end
section
variable{prog:Program}{w:World}{A:Around}{E:Value→Shared→Prop}{s:Shared}
theorem wX{it t:Addr}{items:Array Value}(hne:t≠it):∀(n i:Nat)(s:Shared)(Q:List Value→Shared→Prop),s.heap.IsListIter it t i→s.heap.IsList t items→i+n≤items.size →
  (∀ h',h'.IsListIter it t (i+n)→Heap.SameBut it s.heap h'→Q ((items.toList.drop i).take n) { s with heap:=h' })→wpAny (model prog w) A (draw (.ref it) n) Q E s
 | 0,i,s,Q,hit,_,_,hQ=>wpAny_pure (hQ s.heap hit (Heap.SameBut.refl ..))
 | n+1,i,s,Q,hit,ht,hle,hQ=>by
  have hlt:i<items.size:=Nat.lt_of_lt_of_le (Nat.lt_add_of_pos_right (Nat.succ_pos n)) hle
  have hi:i+1+n=i+(n+1):=Nat.succ_add i n
  show wpAny _ _ (pyNext (.ref it) >>= _) Q E s
  refine wpAny_bind (wpAny_pyNext_list_item hit ht (x:=items[i]) (Array.getElem?_eq_getElem hlt) fun h₁ hit₁ hs₁=>?_)
  refine wpAny_bind (wpAny_holding (wX hne n (i+1) _ _ hit₁ (eU ht fun o e=>hs₁.extBut t o hne e) (Nat.le_trans (Nat.le_of_eq hi) hle) fun h₂ hit₂ hs₂=>wpAny_pure ?_))
  have:=hQ h₂ (hi▸hit₂) (hs₁.trans hs₂)
  rwa[List.drop_eq_getElem_cons (by rwa[Array.length_toList]),List.take_succ_cons]at this
theorem qE{t:Addr}{items:Array Value}{Q:List Value→Shared→Prop}(hh:A.handled=none)(ht:s.heap.IsList t items)
  (hQ:∀ h',Heap.ExtBut s.heap.objs.size s.heap h'→Q items.toList { s with heap:=h' }):wpAny (model prog w) A (unpackItems (.ref t) items.size none) Q E s:=by
 have hlt:t≠s.heap.objs.size:=let⟨o,ho,_⟩:=ht; Nat.ne_of_lt (Heap.lt_size ho)
 unfold unpackItems notIterableAtAll
 refine wpAny_bind (wpAny_bind (wpAny_specialOf ht.typeIs F.slot_list_iter.lookup (wpAny_pure ?_)))
 refine wpAny_bind (wpAny_holding (wpAny_pyIter_list ht ?_))
 have htp:∀ o,(s.heap.push o).IsList t items:=fun o=>eU ht fun _ e=>Heap.get?_push_of_some _ e
 refine wpAny_bind (wpAny_holding (wX hlt items.size 0 _ _ ⟨_,Heap.get?_push_size _ rfl,rfl,rfl⟩ (htp _) (Nat.le_of_eq (Nat.zero_add _)) fun h₁ hit₁ hs₁=>?_))
 rw[List.drop_zero,List.take_of_length_le (Nat.le_of_eq Array.length_toList),if_neg (by rw[Array.length_toList]; exact Nat.lt_irrefl _)]
 refine wpAny_bind (wpAny_holding (wpAny_pyNext_list_end hh hit₁ (eU (htp _) fun o e=>hs₁.extBut t o hlt e) (Array.getElem?_eq_none (Nat.le_of_eq (Nat.zero_add _).symm)) fun h₂ he₂=>?_))
 exact wpAny_pure (hQ h₂ fun b o hb e=>he₂ b o hb (hs₁.extBut b o hb (Heap.get?_push_of_some _ e)))
inductive IL(z:Bool)(h:Heap):Value→PyData→List Addr→Prop
 | val {v d as}:Rd h v d as→IL z h v d as
 | pair {t va vb a b bs cs}:z=true→IsPair h t va vb→Rd h va a bs→Rd h vb b cs→IL z h (.ref t) (.list [a,b]) (bs++cs)
theorem CW{z:Bool}{v:Value}{a b:PyData}{as:List Addr}{targets:List (Bool×(Value→Sem Unit))}{Q:Unit→Shared→Prop}(hh:A.handled=none)(r:IL z s.heap v (.list [a,b]) as)
  (hn:targets.length=2) (hstar:targets.findIdx? (·.1)=none)
  (h:∀ h' va vb bs cs,(∀ y o,s.heap.get? y=some o→h'.get? y=some o)→Rd h' va a bs→Rd h' vb b cs→(∀ y,y∈bs∨y∈cs→y∈as)→wpAny (model prog w) A (assignInOrder (targets.map (·.2)) [va,vb]) Q E { s with heap:=h' }) :
  wpAny (model prog w) A (unpack v targets) Q E s:=by
 have fresh:∀{h':Heap},Heap.ExtBut s.heap.objs.size s.heap h'→∀ y o,s.heap.get? y=some o→h'.get? y=some o:=fun e y o q=>e y o (fun e'=>Nat.lt_irrefl _ (e'▸Heap.lt_size q)) q
 cases r with
 | val r =>
  obtain⟨t,items,bs,rfl,hl,ra,rfl⟩:=b7 r
  generalize e:items.toList=l at ra
  cases ra with
  | cons r1 ra=>cases ra with
   | cons r2 ra =>
    cases ra
    have hsz:items.size=2:=by rw[← Array.length_toList,e]; rfl
    unfold unpack
    rw[hn,hstar,← hsz]
    refine wpAny_bind (wpAny_holding (qE hh hl fun h' he=>?_))
    rw[e]
    exact h h' _ _ _ _ (fresh he) (r1.map fun _ _ _ e _=>fresh he _ _ e) (r2.map fun _ _ _ e _=>fresh he _ _ e) fun y hy=>List.mem_cons_of_mem _ (List.mem_append.mpr (hy.imp_right (List.mem_append_left _)))
 | pair _ hp ra rb =>
  refine wpAny_unpack_tuple hh ⟨_,hp,rfl,_,rfl⟩ (by rw[hn]; rfl) hstar fun h' he=>?_
  exact h h' _ _ _ _ (fresh he) (ra.map fun _ _ _ e _=>fresh he _ _ e) (rb.map fun _ _ _ e _=>fresh he _ _ e) fun y hy=>List.mem_append.mpr hy
end
section
variable{Z:aF}{cl:Nat→List PyData→Option PyData}{lvl:Nat}{nm:List Str}{fn:List Str}{sc:Scope}
theorem RL{α:Type}{x:PyData}{f:PyData→PyData→Option α}{v:α}{G:Prop}(h:W2 x f=some v)(k:∀ a b,x = .list [a,b]→f a b=some v→G):G:=by
 cases x with
 | list l=>cases l with
  | nil=>cases h
  | cons a l=>cases l with
   | nil=>cases h
   | cons b l=>cases l with
    | nil=>exact k a b rfl h
    | cons _ _=>cases h
 | _=>cases h
theorem LJ{z:Bool}{A:Around}{env:Env}{ρ ρ':aW}{O:List (Option Nat×Addr)}{s:Shared}{E:Value→Shared→Prop}{t:Tg}{target:Expr}{v:Value}{d:PyData}{as:List Addr}{Q:Unit→Shared→Prop}(hck:vV nm sc t target=true)(hz:(sL t || !z)=true)(hnd:nm.Nodup)(hh:A.handled=none)
  (hs:vA sc env) (hf:pQ sc env) (hE:aK Z nm env ρ O s.heap) (hI:bA Z s) (hb:iC t d ρ=some ρ') (r:IL z s.heap v d as) (hd:bK d=true) (ho:∀ yb∈O,yb.2∉as)
  (hQ:∀ s',bA Z s'→aK Z nm env ρ' O s'.heap→aM Z nm env (b0 t) (fun _=>False) s.heap s'.heap→Q () s'):wpAny (model Z.prog Z.w) A (assign target env v) Q E s:=by
 cases t with
 | one x =>
  cases r with
  | pair h=>rw[h]at hz; cases hz
  | val r =>
   cases hb
   apply aN hck; intro n p hck
   exact l7 hnd (eq_of_beq (aA hck).1) (aA hck).2 hs hf hE hI r hd ho hQ
 | two x y =>
  refine RL hb fun a b e hb=>?_
  subst e
  cases hb
  apply fW hck; intro es x1 p hck
  apply cZ hck; intro e1 r' hck
  apply cJ hck; intro e2 hck
  apply aN hck; intro n p1 hck
  apply aN hck; intro m p2 hck
  obtain⟨h1,h2⟩:=aA hck
  have hok:bK a=true∧bK b=true:=⟨cC.mp (rY hd).2 _ List.mem_cons_self,cC.mp (rY hd).2 _ (List.mem_cons_of_mem _ List.mem_cons_self)⟩
  rw[arm_assign_Tuple]
  refine wpAny_bind (wpAny_standAt (CW hh r rfl rfl fun h' va vb bs cs hk ra rb hin=>?_))
  have E₁:=hE.kp (Kp.of hk)
  have sub:∀{q:Nat},q∈[x,y]→∀ q'∈[q],q'∈[x,y]:=fun h q' h'=>List.mem_singleton.mp h'▸h
  refine wpAny_assignInOrder_more (l7 hnd (eq_of_beq (aA h1).1) (aA h1).2 hs hf E₁ (hI.full (tk:=s.toks) hk) ra hok.1 (fun yb hy hm=>ho yb hy (hin _ (.inl hm))) fun s₂ I₂ E₂ T₂=>?_)
  have rb₂:Rd s₂.heap vb b cs:=rb.map fun q o hq e c=>by
   obtain⟨o',vs,m,e',hd,_⟩:=rb.objs q hq
   cases e.symm.trans e'
   exact(T₂.keep q o e (.inl (by rw[c]; nofun)) (fun w=>(E₁.wr_ge w).2.2 o vs m e hd) id).seq hd
  exact wpAny_assignInOrder_more (l7 hnd (eq_of_beq (aA h2).1) (aA h2).2 hs hf E₂ I₂ rb₂ hok.2 (fun yb hy hm=>ho yb hy (hin _ (.inr hm))) fun s₃ I₃ E₃ T₃=>wpAny_assignInOrder_none (hQ _ I₃ E₃ (((aM.of_kp hE (Kp.of hk)).trans (T₂.mono (sub List.mem_cons_self) fun _=>id)).trans (T₃.mono (sub (List.mem_cons_of_mem _ List.mem_cons_self)) fun _=>id))))
end
noncomputable def zJ(_:PI):Bool:=false
structure JK(Z:aF)(A:Around)(target:Expr)(z:Bool)(I:Addr)(fp:List Addr)(ds:List PyData)(used:List Addr)(St:Nat→Heap→Prop):Prop where
 new:∀ a∈fp,Z.n≤a
 apart:∀ a∈used,a∉fp
 frame:∀ k h h',St k h→(∀ b,b∈fp∨b∈used→∀ o,h.get? b=some o→h'.get? b=some o)→St k h'
 live:∀ k h,k≤ds.length→St k h→∀ a∈fp,∃ o,h.get? a=some o∧o.cls ≠ .none∧∀ es ep,o.data ≠ .dict es ep
 step:∀ k d(s:Shared)(R:Value→Shared→Prop)(E:Value→Shared→Prop),ds[k]? = some d→St k s.heap→bA Z s →
  (∀ v bs s',bA Z s'→(∀ b o,b∉fp→s.heap.get? b=some o→s'.heap.get? b=some o)→IL z s'.heap v d bs→(∀ a∈bs,a∈used)→St (k+1) s'.heap→R v s') →
  wpAny (model Z.prog Z.w) A (pyNext (.ref I)) (fun r s₁=>∃ v,r=some v∧wpAny (model Z.prog Z.w) A (letOwnedTupleGo target (.ref I) v) (fun _ s'=>R v s') E s₁) E s
 done:∀(s:Shared)(Q:Option Value→Shared→Prop)(E:Value→Shared→Prop),St ds.length s.heap→bA Z s →
  (∀ s',bA Z s'→(∀ b o,b∉fp→s.heap.get? b=some o→s'.heap.get? b=some o)→Q none s')→wpAny (model Z.prog Z.w) A (pyNext (.ref I)) Q E s
 again:∀ k(s:Shared)(Q:Value→Shared→Prop)(E:Value→Shared→Prop),St k s.heap→Q (.ref I) s→wpAny (model Z.prog Z.w) A (pyIter (.ref I)) Q E s
def GE(z:Bool)(target:Expr):Prop:=(z=false∧∃ n p,target = .Name n p)∨∃ a b c,target = .Tuple a b c
theorem uU{prog:Program}{w:World}{A:Around}{E:Value→Shared→Prop}{s:Shared}{Q:Unit→Shared→Prop}{z:Bool}{target:Expr}{I:Addr}{v:Value}{o:Obj}{T:String}(ht:GE z target)(ho:s.heap.get? I=some o)(hc:o.cls = .type T)(hT:TJ.contains T=false)(h:Q () s) :
  wpAny (model prog w) A (letOwnedTupleGo target (.ref I) v) Q E s:=by
 rcases ht with⟨_,n,p,rfl⟩| ⟨a,b,c,rfl⟩
 ·exact wpAny_pure h
 cases v with
 | ref a =>
  refine wpAny_bind (wpAny_load ho ?_)
  obtain⟨cls,dict,data,slots⟩:=o
  cases hc
  cases data with
  | fields vs =>
   show wpAny _ A (if(TJ.contains T&&vs[0]? == some (rawInt a))=true then _ else _) Q E s
   rw[hT]
   exact wpAny_pure h
  | _=>exact wpAny_pure h
 | _=>exact wpAny_pure h
theorem xE.two{Z:aF}{A:Around}{I:Addr}{ds:List PyData}{used:List Addr}{St:Nat→Heap→Prop}(J:xE Z A I ds used St){target:Expr}{z:Bool}(ht:GE z target):JK Z A target z I [I] ds used St where
 new:=fun _ h=>List.mem_singleton.mp h▸J.new
 apart:=fun _ h h'=>J.apart (List.mem_singleton.mp h'▸h)
 frame:=fun k h h' st hk=>J.frame k h h' st fun b hb=>hk b (hb.imp_left List.mem_singleton.mpr)
 live:=fun k h _ st a ha=>List.mem_singleton.mp ha▸J.live k h st
 step:=fun k d s R E hd st inv hR=>J.step k d s _ _ hd st inv fun v bs s' I' kp r hb st'=>⟨v,rfl,let⟨_,_,e,c,t⟩:=J.ty _ _ st'; uU ht e c t (hR v bs s' I' (fun b o hb e=>kp b o (fun e'=>hb (List.mem_singleton.mpr e')) e) (.val r) hb st')⟩
 done:=fun s Q E st inv hQ=>J.done s Q E st inv fun s' I' kp=>hQ s' I' fun b o hb e=>kp b o (fun e'=>hb (List.mem_singleton.mpr e')) e
 again:=J.again
section
variable{Z:aF}{cl:Nat→List PyData→Option PyData}{lvl:Nat}{nm:List Str}{fn:List Str}{sc:Scope}
structure Bg(Z:aF)(A:Around)(target:Expr)(z:Bool)(O:List (Option Nat×Addr))(p:PI)(s:Shared)(ds:List PyData)(I:Addr)(fp used:List Addr)(St:Nat→Heap→Prop)(s':Shared):Prop where
 iter:JK Z A target z I fp ds used St
 start:St 0 s'.heap
 ok:cL ds=true
 len:ds.length≤sizeLine
 inv:bA Z s'
 kp:Kp Z.n s.heap s'.heap
 fresh:∀ a∈fp,s.heap.get? a=none
 seq:∀ a∈used,∃ o vs n,s'.heap.get? a=some o∧o.data = .seq vs n∧o.cls ≠ .none
 own:∀ yb∈O,yb.2∈used→iX yb.1 (eB p)
def SJ(Z:aF)(cl:Nat→List PyData→Option PyData)(lvl:Nat)(nm:List Str)(sc:Scope)(z:Bool)(e:Expr)(p:PI):Prop :=
 ∀{A:Around}{env:Env}{ρ:aW}{O:List (Option Nat×Addr)}{s:Shared}{ds:List PyData}{Q:Value→Shared→Prop}{E:Value→Shared→Prop}(target:Expr),GE z target →
  Cx Z lvl nm sc A env ρ O s→zA cl p ρ=some ds →
  (∀ I fp used St s',Bg Z A target z O p s ds I fp used St s'→Q (.ref I) s')→wpAny (model Z.prog Z.w) A (eval e env) (fun x s₁=>wpAny (model Z.prog Z.w) A (pyIter x) Q E s₁) E s
theorem SI.sj{z:Bool}{e:Expr}{p:PI}(h:SI Z cl lvl nm sc e p):SJ Z cl lvl nm sc z e p:=fun target ht X hd hQ =>
 h X hd fun I used St s' S=>hQ I [I] used St s' ⟨S.iter.two ht,S.start,S.ok,S.len,S.inv,S.kp,fun _ h=>List.mem_singleton.mp h▸S.fresh,S.seq,S.own⟩
end
noncomputable def xI(ifs:List Expr)(env:Env):Sem Bool:=forIn ifs true fun c r=>if r=true then do let ok ← isTrue c env (eval c env); pure (ForInStep.yield ok)else pure (ForInStep.yield r)
section
variable{prog:Program}{w:World}{A:Around}{E:Value→Shared→Prop}{R:Result→Shared→Prop}{s:Shared}{elt:Expr}{gens:List Comprehension}{scope:Scope}{pos:Pos}{depth:Nat}{it acc:Value}{env:Env}{target iter:Expr}{ifs:List Expr}{n:Option Comprehension}
noncomputable def IV(elt:Expr)(gens:List Comprehension)(scope:Scope)(pos:Pos)(depth:Nat)(it acc:Value)(env:Env):Option Comprehension→Sem Fin
 | some g'=>do
  let x ← eval g'.iter env
  standAt g'.iter.pos
  let x ← foldedSetIterable g'.iter env x
  let _ ← runOwn (.compStart (.ListComp elt gens scope pos) (depth+1) (← holding [x] (pyIter x)) acc env) env
  again (.compLoop (.ListComp elt gens scope pos) depth it acc env)
 | none=>do
  (do let _ ← call (.builtin "list.append") [acc,← eval elt env])
  again (.compLoop (.ListComp elt gens scope pos) depth it acc env)
theorem BC(hg:gens[depth]? = some ⟨target,iter,ifs,0⟩)(hn:gens[depth+1]? = n)(ha:∀ c,n=some c→c.is_async=0) :
  compTurn (.ListComp elt gens scope pos) depth it acc env=(do
   standAt iter.pos
   match ← pyNext it with
   | none=>pure (.done .next)
   | some v =>
    letOwnedTupleGo target it v
    assign target env v
    let ok ← xI ifs env
    if ok then IV elt gens scope pos depth it acc env n
    else again (.compLoop (.ListComp elt gens scope pos) depth it acc env)):=by
 unfold compTurn
 dsimp only
 rw[hg]
 dsimp only
 rw[hn]
 cases n with
 | none=>rfl
 | some c =>
  obtain⟨t',i',f',az⟩:=c
  cases ha _ rfl
  rfl
def RM(M:Model)(A:Around)(elt:Expr)(gens:List Comprehension)(scope:Scope)(pos:Pos)(depth:Nat)(it acc:Value)(env:Env)(n:Option Comprehension)(K:Shared→Prop)(E:Value→Shared→Prop)(ok:Bool)(s:Shared):Prop :=
 bif ok then ∀ P:Fin→Shared→Prop,(∀ s₅,K s₅→P (.again (.compLoop (.ListComp elt gens scope pos) depth it acc env)) s₅)→wpAny M A (IV elt gens scope pos depth it acc env n) P E s else K s
theorem vG(hg:gens[depth]? = some ⟨target,iter,ifs,0⟩)(hn:gens[depth+1]? = n)(ha:∀ c,n=some c→c.is_async=0)(I:Nat→Shared→Prop)
  (turn:∀ k s,I k s→∀ E,wpAny (model prog w) A (pyNext it) (fun r s₁=>match r with
   | none=>R (.ok .next) s₁
   | some v=>wpAny (model prog w) A (letOwnedTupleGo target it v) (fun _ s₂=>wpAny (model prog w) A (assign target env v) (fun _ s₃=>wpAny (model prog w) A (xI ifs env) (fun ok s₄ =>
RM (model prog w) A elt gens scope pos depth it acc env n (fun s₅=>∃ m,m<k∧I m s₅) E ok s₄) E s₃) E s₂) E s₁) E s)
  (k:Nat) (h:I k s):codeAny (model prog w) A (.compLoop (.ListComp elt gens scope pos) depth it acc env) R s:=by
 refine codeAny_loop rfl I (fun k s hI=>?_) k h
 show wpAny _ A ((compTurn (.ListComp elt gens scope pos) depth it acc env).onRaise (fun x=>do noteFrame x env; theTreesLotGoes x)) _ _ s
 rw[BC hg hn ha]
 refine wpAny_noted (wpAny_bind (wpAny_standAt (wpAny_bind (wpAny_mono (turn k s hI _) (fun r s₁ h₁=>?_) fun _ _ h'=>h'))))
 cases r with
 | none=>exact wpAny_pure h₁
 | some v =>
  refine wpAny_bind (wpAny_mono h₁ (fun _ s₂ h₂=>wpAny_bind (wpAny_mono h₂ (fun _ s₃ h₃=>wpAny_bind (wpAny_mono h₃ (fun ok s₄ h₄=>?_) fun _ _ h'=>h')) fun _ _ h'=>h')) fun _ _ h'=>h')
  cases ok with
  | false=>exact wpAny_pure ⟨rfl,h₄⟩
  | true=>exact h₄ _ fun _ h₅=>⟨rfl,h₅⟩
theorem mS(hg:gens[depth]? = some ⟨target,iter,ifs,0⟩)(h0:codeAny (model prog w) A (.compLoop (.ListComp elt gens scope pos) depth it acc env) R s)
  (h:wpAny (model prog w) A (pyIter it) (fun it' s'=>codeAny (model prog w) A (.compLoop (.ListComp elt gens scope pos) depth it' acc env) R s') (notedBy (model prog w) A env fun x s'=>R (.error x) s') s) :
  codeAny (model prog w) A (.compStart (.ListComp elt gens scope pos) depth it acc env) R s:=by
 refine codeAny_of_tree ?_
 show wpAny _ _ ((compStart (.ListComp elt gens scope pos) depth it acc env).onRaise (fun x=>do noteFrame x env; standAt theWindowsPlace)) _ _ s
 refine wpAny_notedAt ?_
 unfold compStart
 rw[show(clausesOf (.ListComp elt gens scope pos))[depth]? = some ⟨target,iter,ifs,0⟩from hg]
 show wpAny _ _ (ask >>= _) _ _ s
 refine wpAny_bind (wpAny_askSetting (wpAny_ite ?_))
 split
 ·first
   | exact wpAny_bind (wpAny_pure (wpAny_pure (And.intro rfl h0)))
   | exact wpAny_pure (And.intro rfl h0)
 ·first
   | exact wpAny_bind (wpAny_rule (wpAny_bind (wpAny_standAt (wpAny_bind (wpAny_mono h (fun it' s' h'=>wpAny_pure (And.intro rfl h')) fun _ _ x=>x)))))
   | (refine wpAny_bind (wpAny_rule ?_); show wpAny _ _ (standAt iter.pos >>= _) _ _ s; exact wpAny_bind (wpAny_standAt (wpAny_bind (wpAny_mono h (fun it' s' h'=>wpAny_pure (And.intro rfl h')) fun _ _ x=>x))))
end
section
variable{Z:aF}{cl:Nat→List PyData→Option PyData}{lvl:Nat}{nm:List Str}{fn:List Str}{sc:Scope}
def SC(Z:aF)(cl:Nat→List PyData→Option PyData)(lvl:Nat)(nm:List Str)(sc:Scope)(ifs:List Expr)(c:PO):Prop :=
 ∀{A:Around}{env:Env}{ρ:aW}{O:List (Option Nat×Addr)}{s:Shared}{b:Bool}{Q:Bool→Shared→Prop}{E:Value→Shared→Prop},
  Cx Z lvl nm sc A env ρ O s→NU cl c ρ=some b→(∀ s',bA Z s'→Kp Z.n s.heap s'.heap→Q b s')→wpAny (model Z.prog Z.w) A (xI ifs env) Q E s
theorem YC:SC Z cl lvl nm sc [] .no:=fun{A env ρ O s b Q E}X hd hQ=>by
 cases hd
 exact wpAny_pure (hQ s X.hi (Kp.refl _ _))
theorem UX{e:Expr}{p:PE}(h:ST Z cl lvl nm sc e p):SC Z cl lvl nm sc [e] (.yes p):=fun{A env ρ O s b Q E}X hd hQ=>aS hd fun x hx ht=>by
 show wpAny _ A (forIn [e] true _) Q E s
 rw[List.forIn_cons]
 exact wpAny_bind (wpAny_bind (h X hx ht fun s₁ I₁ k₁=>wpAny_pure (wpAny_pure (hQ s₁ I₁ k₁))))
structure dA(acc:Addr)(res:List PyData)(O:List (Option Nat×Addr))(es:List Nat)(h:Heap):Prop where
 obj:∃ vs n sl as,h.get? acc=some { cls:=.type "list",dict:=none,data:=.seq vs n,slots:=sl }∧aU h vs.toList res as∧∀ yb∈O,yb.2∈as→iX yb.1 es
 ok:cL res=true
theorem dA.keep{acc:Addr}{res:List PyData}{O:List (Option Nat×Addr)}{es:List Nat}{h h':Heap}(x:dA acc res O es h)(hk:∀ b o,h.get? b=some o→(∃ xs n,o.data = .seq xs n)→o.cls ≠ .none→(b=acc∨(none,b)∉O)→h'.get? b=some o):dA acc res O es h':=by
 obtain⟨⟨vs,n,sl,as,e,r,ho⟩,ok⟩:=x
 refine⟨⟨vs,n,sl,as,hk _ _ e ⟨_,_,rfl⟩ nofun (.inl rfl),r.map fun a o ha' e' c=>?_,ho⟩,ok⟩
 obtain⟨o',xs,n',e'',hd,hc⟩:=r.objs a ha'
 cases e'.symm.trans e''
 exact hk a o e' ⟨_,_,hd⟩ (by rw[hc]; nofun) (.inr fun hy=>let⟨_,_,hz⟩:=ho _ hy ha'; nomatch hz)
theorem dA.push{acc:Addr}{res:List PyData}{O:List (Option Nat×Addr)}{es:List Nat}{A:Around}{s:Shared}{E:Value→Shared→Prop}{v:Value}{d:PyData}{bs:List Addr}{Q:Value→Shared→Prop}(x:dA acc res O es s.heap)(hn:Z.n≤acc)(ha:(none,acc)∈O)(hI:bA Z s)(r:Rd s.heap v d bs)(hd:bK d=true)
  (ho:∀ yb∈O,yb.2∈bs→iX yb.1 es) (hsz:res.length≤sizeLine)
  (hQ:∀ s',bA Z s'→dA acc (res++[d]) O es s'.heap→(∀ b o,b≠acc→s.heap.get? b=some o→s'.heap.get? b=some o)→Q .none s') :
  wpAny (model Z.prog Z.w) A (call (.builtin "list.append") [.ref acc,v]) Q E s:=by
 obtain⟨⟨vs,n,sl,as,e,rs,hos⟩,ok⟩:=x
 have hlen:=aP rs
 rw[Array.length_toList]at hlen
 have noacc:∀{cs:List Addr},(∀ yb∈O,yb.2∈cs→iX yb.1 es)→acc∉cs:=fun h hm=>let⟨_,_,hz⟩:=h _ ha hm; nomatch hz
 refine wpAny_call_entry slot_list_append ⟨_,e,rfl⟩ entry_list_append ?_ (args_list_append _ _)
 show wpAny _ _ (updateSeq acc (·.push v) >>= fun _=>ret .none) _ _ s
 refine wpAny_bind (wpAny_updateSeq e rfl (wpAny_pure ⟨.none,rfl,?_⟩))
 have hs:=Heap.SameBut.update s.heap acc (Obj.mapSeq (·.push v))
 have hk:∀ b o,b≠acc→s.heap.get? b=some o→(s.heap.update acc (Obj.mapSeq (·.push v))).get? b=some o:=fun b o hb q=>(hs.2 b hb).trans q
 refine hQ _ (hI.same hn hs (fun h=>absurd h (hI.frNot e nofun)) s.toks) ⟨⟨vs.push v,_,sl,as++bs,Heap.get?_update_self _ e rfl,?_,fun yb hy hm=>(List.mem_append.mp hm).elim (hos yb hy) (ho yb hy)⟩,k8.mpr ⟨ok,by rw[cL,hd]; rfl⟩⟩ hk
 rw[Array.toList_push,← List.append_nil bs]
 exact jZ (rs.map fun a o h1 h2 _=>hk a o (fun e'=>noacc hos (e'▸h1)) h2) (.cons (r.map fun a o h1 h2 _=>hk a o (fun e'=>noacc ho (e'▸h1)) h2) .nil)
theorem aM.of_but{env:Env}{xs:List Nat}{X:Addr→Prop}{h h':Heap}(hk:∀ b o,¬X b→h.get? b=some o→h'.get? b=some o)(h1:¬X env.locals)(h2:∀ n c,cf env n→env.cells.lookup n=some c→¬X c):aM Z nm env xs X h h' where
 keep:=fun b o e _ _ hx=>.inl (hk b o hx e)
 acc:=fun n v _ hv=>hv.imp (fun⟨h3,m,⟨o,es,ep,e,r⟩,h5⟩=>⟨h3,m,⟨o,es,ep,hk _ _ h1 e,r⟩,h5⟩) fun⟨h3,c,h4,⟨o,e,r⟩⟩=>⟨h3,c,h4,⟨o,hk _ _ (h2 n c h3 h4) e,r⟩⟩
 ns:=fun⟨m,⟨o,es,ep,e,r⟩⟩=>⟨m,⟨o,es,ep,hk _ _ h1 e,r⟩⟩
 cells:=fun n c v hkd hc⟨o,e,r⟩=>⟨v,o,hk _ _ (h2 n c hkd hc) e,r⟩
theorem aK.but{env:Env}{ρ:aW}{O:List (Option Nat×Addr)}{xs:List Nat}{I:Addr}{h h':Heap}(hE:aK Z nm env ρ O h)(hI:(none,I)∈O)(hk:∀ b o,b≠I→h.get? b=some o→h'.get? b=some o):aM Z nm env xs (· = I) h h' :=
 .of_but hk (fun e=>(hE.apart _ hI).1 e.symm) fun n c hkd hc e=>(hE.apart _ hI).2 n c hkd hc e.symm
theorem aK.buts{env:Env}{ρ:aW}{O:List (Option Nat×Addr)}{xs:List Nat}{fp:List Addr}{h h':Heap}(hE:aK Z nm env ρ O h)(hI:∀ a∈fp,(none,a)∈O)(hk:∀ b o,b∉fp→h.get? b=some o→h'.get? b=some o):aM Z nm env xs (· ∈ fp) h h' :=
 .of_but hk (fun e=>(hE.apart _ (hI _ e)).1 rfl) fun n c hkd hc e=>(hE.apart _ (hI _ e)).2 n c hkd hc rfl
theorem HE{f:PyData→Option (List PyData)}{d:PyData}{ds new:List PyData}{G:Prop}(h:zF f (d::ds)=some new)(k:∀ a b,f d=some a→zF f ds=some b→new=a++b→G):G :=
 aS (o:=f d) h fun a ha h=>bY h fun b hb e=>k a b ha hb e.symm
structure m5(used:List Addr)(h:Heap):Prop where
 at_:∀ a∈used,∃ o vs n,h.get? a=some o∧o.data = .seq vs n∧o.cls ≠ .none
theorem m5.turn{env:Env}{ρ:aW}{O:List (Option Nat×Addr)}{xs:List Nat}{X:Addr→Prop}{used:List Addr}{h h':Heap}(sq:m5 used h)(hE:aK Z nm env ρ O h)(T:aM Z nm env xs X h h')(hX:∀ b∈used,¬X b):(∀ b∈used,∀ o,h.get? b=some o→h'.get? b=some o)∧m5 used h':=by
 have hu:∀ b∈used,∀ o,h.get? b=some o→h'.get? b=some o:=fun b hb o e=>by
  obtain⟨o',vs,n,e',hd,hc⟩:=sq.at_ b hb
  cases e.symm.trans e'
  exact(T.keep b o e (.inl hc) (fun w=>(hE.wr_ge w).2.2 o vs n e hd) (hX b hb)).seq hd
 exact⟨hu,⟨fun b hb=>let⟨o',vs,n,e',r⟩:=sq.at_ b hb; ⟨o',vs,n,hu b hb o' e',r⟩⟩⟩
def SG(Z:aF)(cl:Nat→List PyData→Option PyData)(lvl:Nat)(nm:List Str)(sc:Scope)(elt:Expr)(gens:List Comprehension)(pos:Pos)(pe:PE)(depth:Nat)(g:PG):Prop :=
 ∀{A:Around}{env:Env}{ρ:aW}{O:List (Option Nat×Addr)}{s:Shared}{it:Value}{acc:Addr}{res new:List PyData}{es:List Nat}{P:Fin→Shared→Prop}{E:Value→Shared→Prop},Cx Z lvl nm sc A env ρ O s→pQ sc env→Z.n≤acc→(none,acc)∈O→dA acc res O es s.heap →
  (∀ x∈u0 g,bB ρ x=none)→(∀ y,y∈lG pe++GB g→y∈es)→(u0 g).Nodup→S8 cl (aH cl pe) g ρ=some new→(res++new).length≤sizeLine →
  (∀ s',bA Z s'→aM Z nm env (u0 g) (· = acc) s.heap s'.heap→dA acc (res++new) O es s'.heap→P (.again (.compLoop (.ListComp elt gens sc pos) depth it (.ref acc) env)) s') →
  wpAny (model Z.prog Z.w) A (IV elt gens sc pos depth it (.ref acc) env gens[depth+1]?) P E s
theorem dA.kp{acc:Addr}{res:List PyData}{O O₂:List (Option Nat×Addr)}{es xs:List Nat}{env:Env}{ρ:aW}{h h':Heap}(x:dA acc res O es h)(hE:aK Z nm env ρ O₂ h)(T:aM Z nm env xs (fun _=>False) h h'):dA acc res O es h' :=
 x.keep fun b o e⟨vs,n,hd⟩hc _=>(T.keep b o e (.inl hc) (fun w=>(hE.wr_ge w).2.2 o vs n e hd) id).seq hd
theorem UM{elt:Expr}{gens:List Comprehension}{pos:Pos}{pe:PE}{depth:Nat}(hn:gens[depth+1]? = none)(h:SE Z cl lvl nm sc elt pe):SG Z cl lvl nm sc elt gens pos pe depth .nil:=fun{A env ρ O s it acc res new es P E}X hf hna hacc ok hρ hes hnd hev hsz hP=>bY hev fun d hd e=>by
 subst e
 rw[hn]
 refine wpAny_bind (wpAny_bind (h X hd fun v bs s₁ I₁ k₁ r₁ ok₁ o₁=>wpAny_bind ?_))
 have T:aM Z nm env [] (fun _=>False) s.heap s₁.heap:=.of_kp X.he k₁
 refine(ok.kp X.he T).push hna hacc I₁ r₁ ok₁ (fun yb hy hm=>let⟨y,h1,h2⟩:=o₁ yb hy hm; ⟨y,hes y (List.mem_append_left _ h1),h2⟩) (Nat.le_trans (List.prefix_append _ _).length_le hsz) fun s₂ I₂ ok₂ hk=>wpAny_pure (wpAny_pure (hP s₂ I₂ ((T.mono (fun _ h=>h) fun _ h=>h.elim).trans ((X.he.kp k₁).but hacc hk)) ok₂))
theorem DJ{t:Tg}{d:PyData}{ρ ρ':aW}(hb:iC t d ρ=some ρ'){x:Nat}(hx:x∉b0 t):bB ρ' x=bB ρ x:=by
 have ne:∀(σ:aW)(y:Nat)(q:Option PyData),y≠x→bB (σ.set y q) x=bB σ x:=fun σ y q hne=>by unfold bB; rw[List.getElem?_set_ne hne]
 cases t with
 | one y=>cases hb; exact ne _ _ _ fun e=>hx (e ▸ .head _)
 | two y z =>
  refine RL hb fun a b _ hb=>?_
  cases hb
  rw[ne _ _ _ fun e=>hx (e ▸ .tail _ (.head _)),ne _ _ _ fun e=>hx (e ▸ .head _)]
structure JL(Z:aF)(cl:Nat→List PyData→Option PyData)(lvl:Nat)(nm:List Str)(sc:Scope)(elt:Expr)(gens:List Comprehension)(pos:Pos)(pe:PE)(depth:Nat)(t:Tg)(c:PO)(g:PG)(target iter:Expr)(ifs:List Expr):Prop where
 hg:gens[depth]? = some ⟨target,iter,ifs,0⟩
 ha:∀ c,gens[depth+1]? = some c→c.is_async=0
 hnd:nm.Nodup
 hck:vV nm sc t target=true
 hc:SC Z cl lvl nm sc ifs c
 hr:SG Z cl lvl nm sc elt gens pos pe depth g
theorem uI{elt target iter:Expr}{ifs:List Expr}{gens:List Comprehension}{pos:Pos}{pe:PE}{depth:Nat}{t:Tg}{c:PO}{g:PG}(G:JL Z cl lvl nm sc elt gens pos pe depth t c g target iter ifs){z:Bool}(hz:(sL t || !z)=true)
  {A:Around} {env:Env} {ρ:aW} {O:List (Option Nat×Addr)} {s:Shared} {acc:Addr} {res new:List PyData} {es:List Nat} {R:Result→Shared→Prop} {I:Addr} {fp used:List Addr} {St:Nat→Heap→Prop} {ds:List PyData}
  (X:Cx Z lvl nm sc A env ρ O s) (hf:pQ sc env) (hna:Z.n≤acc) (hacc:(none,acc)∈O) (hfp:∀ a∈fp,(none,a)∈O) (hit:JK Z A target z I fp ds used St) (hst:St 0 s.heap)
  (hseq:m5 used s.heap) (hus:∀ yb∈O,yb.2∉used) (haf:acc∉fp) (hok:dA acc res O es s.heap) (hdsok:cL ds=true) (hρ:∀ x∈b0 t++u0 g,bB ρ x=none) (hes:∀ y,y∈lG pe++GB g→y∈es) (hnd:(b0 t++u0 g).Nodup)
  (hev:zF (fun d=>(iC t d ρ).bind fun ρ'=>(NU cl c ρ').bind fun b=>if b then S8 cl (aH cl pe) g ρ' else some []) ds=some new) (hsz:(res++new).length≤sizeLine)
  (hR:∀ s',bA Z s'→aM Z nm env (b0 t++u0 g) (fun b=>b=acc∨b∈fp) s.heap s'.heap→dA acc (res++new) O es s'.heap→R (.ok .next) s') :
  codeAny (model Z.prog Z.w) A (.compLoop (.ListComp elt gens sc pos) depth (.ref I) (.ref acc) env) R s:=by
 let f:PyData→Option (List PyData):=fun d=>(iC t d ρ).bind fun ρ'=>(NU cl c ρ').bind fun b=>if b then S8 cl (aH cl pe) g ρ' else some []
 let Y:Addr→Prop:=fun b=>b=acc∨b∈fp
 have hYO:∀ b,Y b→(none,b)∈O:=fun b hx=>hx.elim (fun e=>e▸hacc) (hfp b)
 have liveY:∀{h:Heap}{rr:List PyData}{j:Nat},dA acc rr O es h→j≤ds.length→St j h→∀ yb∈O,Y yb.2→∃ o,h.get? yb.2=some o∧o.cls ≠ .none:=fun ok hj st yb _ hx=>hx.elim (fun e=>by
  obtain⟨⟨vs,n,sl,as,e',_⟩,_⟩:=ok
  exact e▸⟨_,e',nofun⟩) fun hm=>let⟨o,e',c,_⟩:=hit.live _ _ hj st _ hm; ⟨o,e',c⟩
 let J:Nat→Shared→Prop:=fun n s'=>∃ k res' new',n=ds.length - k∧k≤ds.length∧St k s'.heap∧bA Z s'∧aM Z nm env (b0 t++u0 g) Y s.heap s'.heap∧dA acc res' O es s'.heap∧zF f (ds.drop k)=some new'∧res'++new'=res++new∧m5 used s'.heap
 refine vG G.hg rfl G.ha J (fun n s₀ hJ E=>?_) ds.length ⟨0,res,new,rfl,Nat.zero_le _,hst,X.hi,aM.of_kp X.he (Kp.refl _ _),hok,hev,rfl,hseq⟩
 obtain⟨k,res',new',rfl,hk,st₀,I₀,T₀,ok₀,ev₀,hsum,sq₀⟩:=hJ
 have E₀:aK Z nm env ρ O s₀.heap:=X.he.of_turned G.hnd T₀ hρ (liveY ok₀ hk st₀) hYO
 have keepI:∀{rr:List PyData}{h:Heap},dA acc rr O es s₀.heap→(∀ b o,b∉fp→s₀.heap.get? b=some o→h.get? b=some o)→dA acc rr O es h:=fun ok kp=>ok.keep fun b o e _ _ hb=>kp b o (fun hm=>hb.elim (fun e=>haf (e▸hm)) fun h=>h (hfp b hm)) e
 rcases hdr:ds.drop k with _ | ⟨d,r⟩
 ·
  rw[hdr]at ev₀
  cases ev₀
  rw[List.append_nil]at hsum
  subst hsum
  have hkl:k=ds.length:=Nat.le_antisymm hk (List.drop_eq_nil_iff.mp hdr)
  exact hit.done s₀ _ _ (hkl▸st₀) I₀ fun s₁ I₁ kp₁=>hR s₁ I₁ (T₀.trans ((E₀.buts hfp kp₁).mono (fun _ h=>h) fun _ h=>.inr h)) (keepI ok₀ kp₁)
 ·
  have hlt:k<ds.length:=Nat.lt_of_not_le fun h=>by rw[List.drop_eq_nil_iff.mpr h]at hdr; cases hdr
  have hdk:ds[k]? = some d:=by rw[← Nat.add_zero k,← List.getElem?_drop,hdr]; rfl
  have hdr1:ds.drop (k+1)=r:=by rw[← List.drop_drop,hdr]; rfl
  rw[hdr]at ev₀
  refine HE ev₀ fun a b hfa hfb e=>aS (o:=iC t d ρ) hfa fun ρ' hb hfa=>aS (o:=NU cl c ρ') hfa fun tb ht hfa=>?_
  subst e
  refine wpAny_mono (hit.step k d s₀ (fun v s₂=>wpAny (model Z.prog Z.w) A (assign target env v) (fun _ s₃=>wpAny (model Z.prog Z.w) A (xI ifs env) (RM (model Z.prog Z.w) A elt gens sc pos depth (.ref I) (.ref acc) env gens[depth+1]? (fun s₅=>∃ m,m<ds.length - k∧J m s₅) E) E s₃) E s₂) E hdk st₀ I₀ fun v bs s₁ I₁ kp₁ r₁ hbs st₁=>?_) (fun r s₁ hv=>by obtain⟨v,rfl,h₁⟩:=hv; exact h₁) fun _ _ h=>h
  have ok₁:dA acc res' O es s₁.heap:=keepI ok₀ kp₁
  have TI:=(E₀.buts (xs:=b0 t++u0 g) hfp kp₁).mono (Y:=Y) (fun _ h=>h) fun _ h=>.inr h
  have E₁:aK Z nm env ρ O s₁.heap:=E₀.of_turned G.hnd TI hρ (liveY ok₁ hlt st₁) hYO
  have sq₁:=(sq₀.turn E₀ TI fun b hb hx=>hx.elim (fun e=>hus _ hacc (e▸hb)) (hit.apart b hb)).2
  refine LJ G.hck hz G.hnd X.ha.handled X.hs hf E₁ I₁ hb r₁ (oE hdsok hdk) (fun yb hy hm=>hus yb hy (hbs _ hm)) fun s₂ I₂ E₂ T₂=>G.hc ⟨X.ha,X.hs,E₂,I₂⟩ ht fun s₃ I₃ k₃=>?_
  have E₃:=E₂.kp k₃
  have T₁₃:aM Z nm env (b0 t) (fun _=>False) s₁.heap s₃.heap:=T₂.trans (.of_kp E₂ k₃)
  have ok₃:=ok₁.kp E₁ T₁₃
  have go:∀ s₄,bA Z s₄→aM Z nm env (u0 g) (· = acc) s₃.heap s₄.heap→dA acc (res'++a) O es s₄.heap→∃ m,m<ds.length - k∧J m s₄:=fun s₄ I₄ T₄ ok₄=>by
   have T₁₄:aM Z nm env (b0 t++u0 g) (· = acc) s₁.heap s₄.heap:=(T₁₃.mono (fun _ h=>List.mem_append_left _ h) fun _ h=>h.elim).trans (T₄.mono (fun _ h=>List.mem_append_right _ h) fun _ h=>h)
   obtain⟨hu,sq₄⟩:=sq₁.turn E₁ T₁₄ fun b hb e=>hus _ hacc (e▸hb)
   exact⟨ds.length - (k+1),Nat.sub_lt_sub_left hlt (Nat.lt_succ_self k),k+1,res'++a,b,rfl,hlt,hit.frame _ _ _ st₁ fun b hb o e=>hb.elim (fun hb=>let⟨o',e',cI,dI⟩:=hit.live _ _ hlt st₁ b hb; (by
    cases e.symm.trans e'
    exact(T₁₄.keep b o e (.inl cI) (E₁.out (hfp b hb)) fun e=>haf (e▸hb)).nd dI)) fun hb=>hu b hb o e,I₄,T₀.trans (TI.trans (T₁₄.mono (fun _ h=>h) fun _ h=>.inl h)),ok₄,hdr1▸hfb,by rw[List.append_assoc]; exact hsum,sq₄⟩
  cases tb with
  | false=>cases hfa; exact go s₃ I₃ (.of_kp E₃ (Kp.refl _ _)) (by rw[List.append_nil]; exact ok₃)
  | true =>
   refine fun P hP=>G.hr ⟨X.ha,X.hs,E₃,I₃⟩ hf hna hacc ok₃ (fun x hx=>?_) hes (List.nodup_append.mp hnd).2.1 hfa ?_ fun s₄ I₄ T₄ ok₄=>hP s₄ (go s₄ I₄ T₄ ok₄)
   ·rw[DJ hb fun hm=>(List.nodup_append.mp hnd).2.2 x hm x hx rfl]
    exact hρ x (List.mem_append_right _ hx)
   ·rw[← hsum,← List.append_assoc,List.length_append]at hsz
    exact Nat.le_trans (Nat.le_add_right _ _) hsz
end
section
variable{Z:aF}{cl:Nat→List PyData→Option PyData}{lvl:Nat}{nm:List Str}{fn:List Str}{sc:Scope}
theorem aM.narrow{env:Env}{xs:List Nat}{X Y:Addr→Prop}{h h':Heap}(T:aM Z nm env xs X h h')(hX:∀ b o,X b→h.get? b=some o→Y b):aM Z nm env xs Y h h':={ T with keep:=fun b o e c hw hy=>T.keep b o e c hw fun hx=>hy (hX b o hx e) }
theorem dA.reserves{acc:Addr}{res:List PyData}{O:List (Option Nat×Addr)}{fp:List Addr}{es es':List Nat}{h:Heap}(x:dA acc res O es h)(hfr:∀ a∈fp,h.get? a=none):dA acc res (reserves fp O es') es h :=
 ⟨let⟨vs,n,sl,as,e,r,ho⟩:=x.obj; ⟨vs,n,sl,as,e,r,fun yb hy hm=>(cY hy).elim (fun⟨a,ha,e'⟩=>by
  obtain⟨o,_,_,e'',_⟩:=r.objs _ hm
  rw[e']at e''
  cases(hfr a ha).symm.trans e'') fun h=>ho yb h.1 hm⟩,x.ok⟩
theorem OT{elt target iter:Expr}{ifs:List Expr}{gens:List Comprehension}{pos:Pos}{pe:PE}{depth:Nat}{t:Tg}{i:PI}{c:PO}{g:PG}(G:JL Z cl lvl nm sc elt gens pos pe (depth+1) t c g target iter ifs){z:Bool}(hz:(sL t || !z)=true)(ht:GE z target)(hset:iO iter=false)(hi:SJ Z cl lvl nm sc z iter i) :
  SG Z cl lvl nm sc elt gens pos pe depth (.cons t i c g):=fun{A env ρ O s it acc res new es P E}X hf hna hacc ok hρ hes hnd hev hsz hP=>aS hev fun ds hx hev=>by
 rw[G.hg]
 refine wpAny_bind (wpAny_mono (hi (Q:=fun it' s₂=>wpAny (model Z.prog Z.w) A (runOwn (.compStart (.ListComp elt gens sc pos) (depth+1) it' (.ref acc) env) env >>= fun _=>again (.compLoop (.ListComp elt gens sc pos) depth it (.ref acc) env)) P E s₂) target ht X hx fun I fp used St s₁ S=>wpAny_bind (wpAny_runOwn ?_)) (fun x s₁ h₁=>wpAny_bind (wpAny_standAt (wpAny_bind (wpAny_of_eq (qA hset env x) (wpAny_bind (wpAny_holding h₁)))))) fun _ _ h=>h)
 have E₁:aK Z nm env ρ (reserves fp O (eB i)) s₁.heap:=X.he.reserves S.kp S.fresh fun a ha=>let⟨o,e,c,_⟩:=S.iter.live _ _ (Nat.zero_le _) S.start a ha; ⟨o,e,c⟩
 have haf:acc∉fp:=fun hm=>by obtain⟨o,e,_⟩:=X.he.live _ hacc; cases(S.fresh _ hm).symm.trans e
 have ok₁:dA acc res (reserves fp O (eB i)) es s₁.heap:=(ok.reserves S.fresh).kp (xs:=[]) X.he (.of_kp X.he S.kp)
 have loop:∀ R:Result→Shared→Prop,(∀ s',P (.again (.compLoop (.ListComp elt gens sc pos) depth it (.ref acc) env)) s'→R (.ok .next) s')→codeAny (model Z.prog Z.w) A (.compLoop (.ListComp elt gens sc pos) (depth+1) (.ref I) (.ref acc) env) R s₁:=fun R hR =>
  uI G hz ⟨X.ha,X.hs,E₁,S.inv⟩ hf hna (jY hacc) (fun a ha=>uE ha) S.iter S.start ⟨S.seq⟩ (fun yb hy hm=>(cY hy).elim (fun⟨a,ha,e⟩=>S.iter.apart _ hm (e▸ha)) fun h=>h.2 (S.own yb h.1 hm)) haf ok₁ S.ok hρ
   (fun y hy=>hes y ((List.mem_append.mp hy).elim (List.mem_append_left _) fun h=>List.mem_append_right _ (List.mem_append_right _ h))) hnd hev hsz
   fun s' I' T ok'=>hR s' (hP s' I' (((aM.of_kp X.he S.kp).trans T).narrow fun b o hb e=>hb.elim id fun hm=>by cases(S.fresh b hm).symm.trans e)
    ⟨let⟨vs,n,sl,as,e,r,ho⟩:=ok'.obj; ⟨vs,n,sl,as,e,r,fun yb hy hm=>(dK hy).elim (fun h=>ho yb h hm) fun⟨y,h1,h2⟩=>⟨y,hes y (List.mem_append_right _ (List.mem_append_left _ h1)),h2⟩⟩,ok'.ok⟩)
 exact mS G.hg (loop _ fun _ h=>wpAny_pure h) (S.iter.again 0 s₁ _ _ S.start (loop _ fun _ h=>wpAny_pure h))
end
section
variable{β:Type}{m n:Str}{k b:β}{r l:List (Str×β)}
theorem kN:((m,k)::r).lookup m=some k:=by rw[List.lookup_cons,beq_self_eq_true]
theorem kM(h:n≠m):((m,k)::r).lookup n=r.lookup n:=by rw[List.lookup_cons,beq_false_of_ne h]
theorem iN:∀{l:List (Str×β)},l.lookup n=some b→(n,b)∈l
 | [],h=>nomatch h
 | (m,k)::r,h=>by
  by_cases e:n=m
  ·subst e; rw[kN]at h; cases h; exact List.mem_cons_self
  ·rw[kM e]at h; exact List.mem_cons_of_mem _ (iN h)
theorem CA:∀{l:List (Str×β)},(l.map (·.1)).Nodup→(n,b)∈l→l.lookup n=some b
 | (m,k)::r,hnd,h=>by
  rw[List.map_cons,List.nodup_cons]at hnd
  rcases List.mem_cons.mp h with e | h
  ·cases e; exact kN
  ·rw[kM (show n≠m from fun e=>hnd.1 (by rw[← e]; exact List.mem_map_of_mem (f:=(·.1)) h))]; exact CA hnd.2 h
end
noncomputable def eF(env:Env):List (Str×NameKind)→List (Str×Addr)→List (Str×Addr)
 | [],acc=>acc
 | (n,k)::r,acc=>if k == .free then eF env r ((n,(env.cells.lookup n).getD 0)::acc)else eF env r acc
theorem j4{env:Env}(f:Str×NameKind→List (Str×Addr)→Sem (ForInStep (List (Str×Addr))))
  (hf:∀ n k cs,f (n,k) cs=if(k == .free)=true then(do let a ← cellOf env n; pure (.yield ((n,a)::cs)))else pure (.yield cs)) :
  ∀(names:List (Str×NameKind))(acc:List (Str×Addr)),(∀ n,(n,NameKind.free)∈names→∃ c,env.cells.lookup n=some c)→(forIn names acc f:Sem (List (Str×Addr)))=pure (eF env names acc)
 | [],acc,_=>by rw[List.forIn_nil]; rfl
 | (n,k)::r,acc,h=>by
  rw[List.forIn_cons,hf]
  have hr:∀ m,(m,NameKind.free)∈r→∃ c,env.cells.lookup m=some c:=fun m hm=>h m (List.mem_cons_of_mem _ hm)
  unfold eF
  by_cases hk:(k == .free)=true
  ·cases eq_of_beq hk
   obtain⟨c,hc⟩:=h n List.mem_cons_self
   rw[if_pos hk,if_pos hk]
   unfold cellOf
   rw[hc]
   exact j4 f hf r _ hr
  ·rw[if_neg hk,if_neg hk]
   exact j4 f hf r _ hr
theorem vH{env:Env}{scope:Scope}(h:∀ n,(n,NameKind.free)∈scope.names→∃ c,env.cells.lookup n=some c):closureFor scope env=pure (eF env scope.names []):=by
 simp only[closureFor]
 rw[j4 (env:=env) _ (fun n k cs=>by cases k <;> rfl) scope.names [] h]
 rfl
theorem kB{env:Env}{n:Str}:∀(names:List (Str×NameKind))(acc:List (Str×Addr)),(names.map (·.1)).Nodup→(∀ n,(n,NameKind.free)∈names→∃ c,env.cells.lookup n=some c) →
  (names.lookup n=some .free→(eF env names acc).lookup n=env.cells.lookup n)∧(names.lookup n≠some .free→(eF env names acc).lookup n=acc.lookup n)
 | [],acc,_,_=>⟨nofun,fun _=>rfl⟩
 | (m,k)::r,acc,hnd,h=>by
  rw[List.map_cons,List.nodup_cons]at hnd
  have ih:=fun acc=>kB (n:=n) r acc hnd.2 fun m hm=>h m (List.mem_cons_of_mem _ hm)
  unfold eF
  by_cases e:n=m
  ·subst e
   have no:r.lookup n≠some .free:=fun h=>hnd.1 (List.mem_map_of_mem (f:=(·.1)) (iN h))
   rw[kN]
   by_cases hk:(k == .free)=true
   ·cases eq_of_beq hk
    obtain⟨c,hc⟩:=h n List.mem_cons_self
    rw[if_pos hk,(ih _).2 no,kN,hc]
    exact⟨fun _=>rfl,fun h=>absurd rfl h⟩
   ·rw[if_neg hk,(ih _).2 no]
    exact⟨fun h=>absurd (by rw[Option.some.inj h]; rfl) hk,fun _=>rfl⟩
  ·rw[kM e]
   by_cases hk:(k == .free)=true
   ·rw[if_pos hk]
    exact⟨(ih _).1,fun h=>((ih _).2 h).trans (kM e)⟩
   ·rw[if_neg hk]
    exact ih _
theorem yJ:∀{names:List (Str×NameKind)}(h:Heap)(N:Nat)(acc:List (Str×Addr)),(∀ p∈names,p.2 ≠ .cell)→cellsFrom N names acc=acc∧pushCells h names=h
 | [],_,_,_,_=>⟨rfl,rfl⟩
 | (n,k)::r,h,N,acc,hc=>by
  have hk:¬(k==NameKind.cell)=true:=fun e=>hc _ List.mem_cons_self (eq_of_beq e)
  unfold cellsFrom pushCells
  rw[if_neg hk,if_neg hk]
  exact yJ h N acc fun p hp=>hc p (List.mem_cons_of_mem _ hp)
noncomputable def rk(env:Env)(n:Str)(k:NameKind):NameKind:=if(k == .free&&env.scope.kind == .function&&env.kindOf n==some .cell)then .cell else k
theorem oA{env:Env}{n:Str}{k:NameKind}(h:k ≠ .free):rk env n k=k:=if_neg fun e=>h (eq_of_beq (aA (aA e).1).1)
theorem EP(env:Env)(n:Str):rk env n .free = .cell∨rk env n .free = .free:=by
 unfold rk
 cases(NameKind.free == .free&&env.scope.kind == .function&&env.kindOf n==some .cell)
 ·exact .inr rfl
 ·exact .inl rfl
theorem lD(env:Env)(n:Str):∀(names:List (Str×NameKind)),
  (names.map fun(n,k)=>if(k==NameKind.free&&env.scope.kind == .function&&env.kindOf n==some .cell)then(n,NameKind.cell)else(n,k)).lookup n=(names.lookup n).map (rk env n)
 | []=>rfl
 | (m,k)::r=>by
  have e1:(match(m,k)with | (n,k)=>if(k==NameKind.free&&env.scope.kind == .function&&env.kindOf n==some .cell)=true then(n,NameKind.cell)else(n,k))=(m,rk env m k):=by
   show(if(k==NameKind.free&&env.scope.kind == .function&&env.kindOf m==some .cell)=true then(m,NameKind.cell)else(m,k))=_
   unfold rk
   cases(k==NameKind.free&&env.scope.kind == .function&&env.kindOf m==some .cell) <;> rfl
  rw[List.map_cons,e1]
  by_cases e:n=m
  ·subst e; rw[kN,kN]; rfl
  ·rw[kM e,kM e]; exact lD env n r
section
variable{Z:aF}{cl:Nat→List PyData→Option PyData}{lvl:Nat}{nm:List Str}{fn:List Str}{sc:Scope}
theorem oK:∀{ts:List Nat}{ρ:aW}{x:Nat}{d:PyData},bB (NW ts ρ) x=some d→x∉ts∧bB ρ x=some d
 | [],_,_,_,h=>⟨nofun,h⟩
 | t::ts,ρ,x,d,h=>by
  obtain⟨h1,h2⟩:=oK (ts:=ts) (ρ:=ρ.set t none) h
  exact⟨fun hm=>(List.mem_cons.mp hm).elim (fun e=>by subst e; rw[uJ]at h2; cases h2) h1,wN h2⟩
theorem NK{ts:List Nat}(ρ:aW){x:Nat}(h:x∈ts):bB (NW ts ρ) x=none:=by
 cases e:bB (NW ts ρ) x with
 | none=>rfl
 | some d=>exact absurd h (oK e).1
structure nB(nm:List Str)(sc scope:Scope)(ts:List Nat):Prop where
 tsnd:ts.Nodup
 kind:scope.kind = .function
 nodup:(scope.names.map (·.1)).Nodup
 nmnd:nm.Nodup
 dot:(".0" : Str)∉nm
 free:∀ n,scope.names.lookup n=some .free→sc.names.lookup n=some .cell∨sc.names.lookup n=some .free
 own:∀ n,scope.names.lookup n=some .local→n = ".0" ∨ ∃ x∈ts,nm[x]? = some n
 nocell:∀ p∈scope.names,p.2 ≠ .cell
theorem uD{scope:Scope}{ts:List Nat}(h:EK nm sc scope ts=true):nB nm sc scope ts:=by
 obtain⟨h1,h⟩:=aA h
 obtain⟨h0,h⟩:=aA h
 obtain⟨h2,h⟩:=aA h
 obtain⟨h3,h⟩:=aA h
 obtain⟨h4,h⟩:=aA h
 have h6:=List.all_eq_true.mp h
 refine⟨of_decide_eq_true h0,eq_of_beq h1,of_decide_eq_true h2,of_decide_eq_true h3,fun hm=>?_,fun n hn=>?_,fun n hn=>?_,fun p hp e=>?_⟩
 ·rw[List.contains_iff_mem.mpr hm]at h4; cases h4
 ·exact(Bool.or_eq_true_iff.mp (h6 _ (iN hn))).imp eq_of_beq eq_of_beq
 ·exact(Bool.or_eq_true_iff.mp (h6 _ (iN hn))).imp eq_of_beq fun h=>let⟨x,h1,h2⟩:=List.any_eq_true.mp h; ⟨x,h1,eq_of_beq h2⟩
 ·have:=h6 p hp
  obtain⟨n,k⟩:=p
  cases e
  cases this
theorem HP{scope:Scope}{env:Env}{ρ:aW}{O:List (Option Nat×Addr)}{s:Shared}{ts:List Nat}{M:Model}{A:Around}{E:Value→Shared→Prop}{Q:Env→Shared→Prop}(F:nB nm sc scope ts)(hs:vA sc env)(hE:aK Z nm env ρ O s.heap)(hI:bA Z s)
  (hfc:∀ n,(n,NameKind.free)∈scope.names→∃ c,env.cells.lookup n=some c)
  (hQ:∀(cenv:Env)s',vA scope { cenv with scope:=relabel scope env }→pQ scope { cenv with scope:=relabel scope env }→aK Z nm { cenv with scope:=relabel scope env } (NW ts ρ) O s'.heap→bA Z s' →
   (∀ b o,s.heap.get? b=some o→s'.heap.get? b=some o)→cenv.locals=s.heap.objs.size→(∀ n,iU scope n=true→¬cf { cenv with scope:=relabel scope env } n)→Q cenv s') :
  wpAny M A (newFunctionEnv scope env.globals (eF env scope.names []) [] env.qual none .none (some env)) Q E s:=by
 have hfk:∀ n,scope.names.lookup n=some .free→cf env n:=fun n hn=>hs.2.1 n (F.free n hn)
 simp only[newFunctionEnv,Option.isSome_some,if_true]
 refine wpAny_bind (wpAny_alloc ?_)
 refine wpAny_bind (wpAny_layCells _ (fun name kind cells=>by cases kind <;> rfl) _ _ _ _ ?_)
 rw[(yJ s.heap _ _ F.nocell).1,(yJ _ 0 [] F.nocell).2]
 refine wpAny_bind (m:=forIn [] _ _) ?_
 rw[List.forIn_nil]
 refine wpAny_pure (wpAny_pure ?_)
 have hkeep:∀ b o,s.heap.get? b=some o→(s.heap.push { cls:=.type "dict",data:=.dict #[] }).get? b=some o:=fun b o e=>Heap.get?_push_of_some _ e
 generalize hcells:eF env scope.names []=cells
 have hcl:∀ n,scope.names.lookup n=some .free→cells.lookup n=env.cells.lookup n:=fun n hn=>hcells▸(kB scope.names [] F.nodup hfc).1 hn
 have hkind:∀ n:Str,Env.kindOf { scope:=relabel scope env,locals:=s.heap.objs.size,globals:=env.globals,cells:=cells,qual:=env.qual,func:=none,code:=env.code,frame:=env.frame,builtins:=env.builtins } n=(scope.names.lookup n).map (rk env n):=fun n=>lD env n scope.names
 have nocell:∀ n,scope.names.lookup n≠some .cell:=fun n h=>F.nocell _ (iN h) rfl
 have hcf:∀ n:Str,cf { scope:=relabel scope env,locals:=s.heap.objs.size,globals:=env.globals,cells:=cells,qual:=env.qual,func:=none,code:=env.code,frame:=env.frame,builtins:=env.builtins } n→scope.names.lookup n=some .free:=fun n h=>by
  unfold cf at h
  rw[hkind]at h
  have:=nocell n
  generalize scope.names.lookup n=o at h this
  cases o with
  | none=>exact h.elim nofun nofun
  | some k =>
   by_cases hk:k = .free
   ·rw[hk]
   ·rw[Option.map_some,oA hk]at h
    exact h.elim (fun h=>absurd h this) fun h=>h
 have hloc:∀ n,iU scope n=true→scope.names.lookup n=some .local:=fun n h=>(Bool.or_eq_true_iff.mp h).elim eq_of_beq fun h=>absurd (eq_of_beq h) (nocell n)
 have hfree:∀ n,scope.names.lookup n=some .free→(scope.names.lookup n).map (rk env n)=some .cell∨(scope.names.lookup n).map (rk env n)=some .free:=fun n hn=>by rw[hn]; exact(EP env n).imp (congrArg some) (congrArg some)
 have hl:∀ n,scope.names.lookup n=some .local→(scope.names.lookup n).map (rk env n)=some .local:=fun n hn=>by rw[hn,Option.map_some,oA (k:=.local) nofun]
 refine hQ _ _ ⟨fun n hn=>(hkind n).trans (hl n hn),fun n hn=>hn.elim (fun h=>absurd h (nocell n)) fun h=>by rw[hkind]; exact hfree n h,fun n hn=>by rw[hkind,hn,Option.map_some,oA (k:=.globalImplicit) nofun]⟩ (fun n hn=>by rw[hkind,hl n (hloc n hn)]; nofun) ?_ (hI.full (tk:=s.toks) hkeep) hkeep rfl fun n h h'=>by have:=hcf n h'; rw[hloc n h]at this; cases this
 exact{
  kind:=F.kind
  glob:=hE.glob
  blt:=hE.blt
  new:=hE.size
  ns:=⟨_,Heap.Ns.new s.heap (.type "dict")⟩
  live:=fun yb hy=>let⟨o,e,c⟩:=hE.live yb hy; ⟨o,hkeep _ _ e,c⟩
  apart:=fun yb hy=>⟨fun e=>absurd (hE.lt yb hy) (by rw[show yb.2=s.heap.objs.size from e]; exact Nat.lt_irrefl _),fun n c hk hc=>(hE.apart yb hy).2 n c (hfk n (hcf n hk)) ((hcl n (hcf n hk)).symm.trans hc)⟩
  cells:=fun n hk=>let⟨c,v,h5,h6,h7⟩:=hE.cells n (hfk n (hcf n hk)); ⟨c,v,(hcl n (hcf n hk)).trans h5,h6,h7.keeps hkeep⟩
  inj:=fun n m c hn hm cn cm=>hE.inj n m c (hfk n (hcf n hn)) (hfk m (hcf m hm)) ((hcl n (hcf n hn)).symm.trans cn) ((hcl m (hcf m hm)).symm.trans cm)
  vars:=fun y d n h1 h2 h3=>by
   have hnx:scope.names.lookup n=some .free:=by
    rcases h3 with h3 | h3
    ·have h3':=(hkind n).symm.trans h3
     have hloc:scope.names.lookup n=some .local:=by
      generalize hg:scope.names.lookup n=o at h3'
      cases o with
      | none=>cases h3'
      | some k =>
       by_cases hk:k = .free
       ·subst hk
        exact(EP env n).elim (fun e=>by rw[Option.map_some,e]at h3'; cases h3') fun e=>by rw[Option.map_some,e]at h3'; cases h3'
       ·rwa[Option.map_some,oA hk]at h3'
     rcases F.own n hloc with e | ⟨x,hx,e⟩
     ·exact absurd (List.mem_of_getElem? h2) (e▸F.dot)
     ·cases jB F.nmnd e h2
      exact absurd hx (oK h1).1
    ·exact hcf n h3
   obtain⟨v,as,a,r,hd,ho⟩:=hE.vars y d n (oK h1).2 h2 (.inr (hfk n hnx))
   refine⟨v,as,.inr ⟨by rw[hkind]; exact hfree n hnx,?_⟩,r.map fun b o _ e _=>hkeep b o e,hd,ho⟩
   rcases a with⟨h4,_⟩| ⟨h4,c,h5,h6⟩
   ·exact(hfk n hnx).elim (fun h=>nomatch h4.symm.trans h) fun h=>nomatch h4.symm.trans h
   ·exact⟨c,(hcl n hnx).trans h5,h6.keeps hkeep⟩ }
end
section
variable{Z:aF}{cl:Nat→List PyData→Option PyData}{lvl:Nat}{nm:List Str}{fn:List Str}{sc:Scope}
structure xY(Z:aF)(cl:Nat→List PyData→Option PyData)(lvl:Nat)(nm:List Str)(sc scope:Scope)(elt target iter:Expr)(ifs:List Expr)(gens:List Comprehension)(pos:Pos)(pe:PE)(t:Tg)(i:PI)(c:PO)(g:PG)(z:Bool):Prop where
 F:nB nm sc scope (b0 t++u0 g)
 own:∀ x∈b0 t++u0 g,∀ n,nm[x]? = some n→iU scope n=true
 hset:iO iter=false
 hi:SJ Z cl lvl nm sc z iter i
 ht:GE z target
 hz:(sL t || !z)=true
 G:JL Z cl lvl nm scope elt (⟨target,iter,ifs,0⟩::gens) pos pe 0 t c g target iter ifs
theorem tZ{elt target iter:Expr}{ifs:List Expr}{gens:List Comprehension}{scope:Scope}{pos:Pos}{pe:PE}{t:Tg}{i:PI}{c:PO}{g:PG}{z:Bool}(C:xY Z cl lvl nm sc scope elt target iter ifs gens pos pe t i c g z)
  {A:Around} {env:Env} {ρ:aW} {O:List (Option Nat×Addr)} {s:Shared} {d:PyData} {Q:Value→Shared→Prop} {E:Value→Shared→Prop} {use:Option (Value→Sem Unit)} (X:Cx Z lvl nm sc A env ρ O s) (hd:aH cl (.comp pe t i c g) ρ=some d)
  (gt:∀ acc C s' as,bA Z s'→Kp Z.n s.heap s'.heap→Rd s'.heap (.ref acc) d (acc::as)→bK d=true→(∀ yb∈O,yb.2∈acc::as→iX yb.1 (lG (.comp pe t i c g)))→s.heap.get? C=none→s.heap.get? acc=none→Z.n≤C→Z.n≤acc→(∃ m,s'.heap.Ns C m) →
   compPost (model Z.prog Z.w) A E use Q (.ref acc) C (.ok .next) s') :
  wpAny (model Z.prog Z.w) A (comprehension (.ListComp elt (⟨target,iter,ifs,0⟩::gens) scope pos) scope env (firstIterPos (⟨target,iter,ifs,0⟩::gens) pos) (newList []) (firstAsync (⟨target,iter,ifs,0⟩::gens)) (firstIter (⟨target,iter,ifs,0⟩::gens) env) use) Q E s :=
 aS hd fun ds hds hd=>aS hd fun new hnew hd=>iY hd fun hsz e=>by
 cases e
 have F:=C.F
 have hE:=X.he
 have hfree:∀ n,(n,NameKind.free)∈scope.names→∃ c,env.cells.lookup n=some c:=fun n hm=>let⟨c,_,h1,_⟩:=hE.cells n (X.hs.2.1 n (F.free n (CA F.nodup hm))); ⟨c,h1⟩
 refine wpAny_comprehension_free rfl (qA C.hset env) (vH hfree) F.kind (fun p hp hl=>CA F.nodup (by rw[← hl]; exact hp)) (C.hi target C.ht X hds fun I fp used St s₁ S=>wpAny_newList (items:=[]) ?_ (by decide))
 generalize hg:s₁.heap.objs.size=acc
 generalize hh:s₁.heap.push { cls:=.type "list",data:=.seq (List.toArray ([]:List Value)) }=h₂
 have hgacc:h₂.get? acc=some { cls:=.type "list",data:=.seq #[] }:=by rw[← hh,← hg]; exact Heap.get?_push_size _ rfl
 have hpk:∀ b o,s₁.heap.get? b=some o→h₂.get? b=some o:=fun b o e=>by rw[← hh]; exact Heap.get?_push_of_some _ e
 have hna:Z.n≤acc:=hg▸(hE.kp S.kp).size
 have hone:s₁.heap.get? acc=none:=get?_ge (Nat.le_of_eq hg)
 have E₁:aK Z nm env ρ (reserves fp O (eB i)) s₁.heap:=hE.reserves S.kp S.fresh fun a ha=>let⟨o,e,c,_⟩:=S.iter.live _ _ (Nat.zero_le _) S.start a ha; ⟨o,e,c⟩
 have E₂:aK Z nm env ρ (reserve acc (reserves fp O (eB i)) []) h₂:=E₁.reserve (Kp.of hpk) hone ⟨_,hgacc,nofun⟩
 have haI:acc∉fp:=fun hm=>by obtain⟨o,e',_⟩:=S.iter.live _ _ (Nat.zero_le _) S.start _ hm; rw[hone]at e'; cases e'
 have usNo:∀ b∈used,∀ o,s₁.heap.get? b=some o→b≠acc:=fun b _ o e e'=>by rw[e',hone]at e; cases e
 have hus:∀ yb∈reserve acc (reserves fp O (eB i)) [],yb.2∉used:=fun yb hy hm=>(k9 hy).elim (fun e=>by
  subst e
  obtain⟨o,_,_,e',_⟩:=S.seq _ hm
  exact usNo _ hm _ e' rfl) fun h=>(cY h.1).elim (fun⟨a,ha,e⟩=>S.iter.apart _ hm (e▸ha)) fun h=>h.2 (S.own yb h.1 hm)
 refine HP F X.hs (s:={ s₁ with heap:=h₂ }) E₂ (S.inv.full (tk:=s₁.toks) hpk) hfree fun cenv s₃ hs₃ hf₃ E₃ I₃ hk₃ hloc hncf=>?_
 have hk₁₃:∀ b o,s₁.heap.get? b=some o→s₃.heap.get? b=some o:=fun b o e=>hk₃ b o (hpk b o e)
 have st₃:St 0 s₃.heap:=S.iter.frame 0 _ _ S.start fun b _ o e=>hk₁₃ b o e
 have sq₃:m5 used s₃.heap:=⟨fun a ha=>let⟨o,vs,n,e,r⟩:=S.seq a ha; ⟨o,vs,n,hk₁₃ _ _ e,r⟩⟩
 have ok₃:dA acc [] (reserve acc (reserves fp O (eB i)) []) (lG pe++(eB i++GB g)) s₃.heap:=⟨⟨#[],0,#[],[],hk₃ _ _ hgacc,.nil,nofun⟩,rfl⟩
 have old:∀ b o,s.heap.get? b=some o→b≠acc∧b∉fp∧¬Wr nm { cenv with scope:=relabel scope env } (b0 t++u0 g) b:=fun b o e=>by
  have hb:b<acc:=by
   rcases Nat.lt_or_ge b Z.n with h | h
   ·exact Nat.lt_of_lt_of_le h hna
   ·exact hg▸(S.kp.k b o e (.inr h)).lt
  refine⟨Nat.ne_of_lt hb,(fun hm=>by rw[S.fresh b hm]at e; cases e),fun w=>?_⟩
  rcases w with w | ⟨y,hy,n,hn,hk,_⟩
  ·have:acc<h₂.objs.size:=Heap.lt_size hgacc
   rw[show b=cenv.locals from w,hloc]at hb
   exact absurd hb (Nat.not_lt.mpr (Nat.le_of_lt this))
  ·exact hncf _ (C.own y hy n hn) hk
 have fin:∀ s',bA Z s'→aM Z nm { cenv with scope:=relabel scope env } (b0 t++u0 g) (fun b=>b=acc∨b∈fp) s₃.heap s'.heap→dA acc new (reserve acc (reserves fp O (eB i)) []) (lG pe++(eB i++GB g)) s'.heap →
   compPost (model Z.prog Z.w) A E use Q (.ref acc) cenv.locals (.ok .next) s':=fun s' I' T ok'=>by
  obtain⟨⟨vs,n,sl,as,e,r,ho⟩,okd⟩:=ok'
  refine gt acc cenv.locals s' as I' ⟨fun b o e c=>?_⟩ (.list e ⟨rfl,rfl⟩ rfl r) (zD hsz okd) (fun yb hy hm=>?_) ?_ ?_ ?_ hna (T.ns E₃.ns)
  ·obtain⟨g1,g2,g3⟩:=old b o e
   exact(S.kp.k b o e c).next fun o' e' hcc=>T.keep b o' (hk₁₃ b o' e') (by rw[hcc]; exact c) g3 fun h=>h.elim g1 g2
  ·rcases List.mem_cons.mp hm with h | hm
   ·obtain⟨o,e,c⟩:=hE.live yb hy
    exact absurd h (old _ _ e).1
   ·rcases dK (fp:=fp) (es:=eB i) hy with h | ⟨y,h1,h2⟩
    ·exact(dK (fp:=[acc]) (es:=[]) h).elim (fun h=>ho yb h hm) fun⟨_,h1,_⟩=>nomatch h1
    ·exact⟨y,List.mem_append_right _ (List.mem_append_left _ h1),h2⟩
  ·cases e':s.heap.get? cenv.locals with
   | none=>rfl
   | some o=>exact absurd (.inl rfl) (old cenv.locals o e').2.2
  ·exact S.kp.none hna hone
  ·rw[hloc]
   exact Nat.le_trans hna (Nat.le_of_lt (Heap.lt_size hgacc))
 have loop:∀ R:Result→Shared→Prop,(∀ s',compPost (model Z.prog Z.w) A E use Q (.ref acc) cenv.locals (.ok .next) s'→R (.ok .next) s')→codeAny (model Z.prog Z.w) A (.compLoop (.ListComp elt (⟨target,iter,ifs,0⟩::gens) scope pos) 0 (.ref I) (.ref acc) { cenv with scope:=relabel scope env }) R s₃:=fun R hR =>
  uI C.G C.hz ⟨X.ha,hs₃,E₃,I₃⟩ hf₃ hna (.head _) (fun a ha=>jY (uE ha)) S.iter st₃ sq₃ hus haI ok₃ S.ok (fun x hx=>NK ρ hx) (fun y hy=>(List.mem_append.mp hy).elim (List.mem_append_left _) fun h=>List.mem_append_right _ (List.mem_append_right _ h)) F.tsnd hnew hsz fun s' I' T ok'=>hR s' (fin s' I' T ok')
 exact mS C.G.hg (loop _ fun _ h=>h) (S.iter.again 0 s₃ _ _ st₃ (loop _ fun _ h=>h))
theorem OY{elt target iter:Expr}{ifs:List Expr}{gens:List Comprehension}{scope:Scope}{pos:Pos}{pe:PE}{t:Tg}{i:PI}{c:PO}{g:PG}{z:Bool}(C:xY Z cl lvl nm sc scope elt target iter ifs gens pos pe t i c g z) :
  SE Z cl lvl nm sc (.ListComp elt (⟨target,iter,ifs,0⟩::gens) scope pos) (.comp pe t i c g):=fun{A env ρ O s d Q E}X hd gt=>by
 rw[eval_ListComp]
 refine tZ C X hd fun acc C s' as I' k r okd ho hC hacc hnC hna⟨m,hm⟩=>⟨m,hm,fun h' hs'=>gt (.ref acc) (acc::as) _ (I'.same hnC hs' (fun h=>absurd h (X.hi.notFr hC)) s'.toks) ⟨fun b o e c=>(k.k b o e c).then fun o' e'=>(hs'.2 b fun e''=>by rw[e'',hC]at e; cases e).trans e'⟩ (r.map fun a o ha e _=>?_) okd ho⟩
 obtain⟨o',xs,n',e',hd',_⟩:=r.objs a ha
 cases e.symm.trans e'
 exact(hs'.2 a fun e''=>fP hm (e''▸e) hd').trans e
end
section
variable{Z:aF}{cl:Nat→List PyData→Option PyData}{lvl:Nat}{nm:List Str}{fn:List Str}
def SB(Z:aF)(cl:Nat→List PyData→Option PyData)(lvl:Nat)(nm:List Str)(sc:Scope)(p:PE)(e:Expr):Prop:=SE Z cl lvl nm sc e p∧ST Z cl lvl nm sc e p
theorem SB.of{e:Expr}{p:PE}{sc:Scope}(h:SE Z cl lvl nm sc e p)(hw:∀ env,isTrue e env (eval e env)=(do let v ← eval e env; standAt e.pos; holding [v] (truthy v))):SB Z cl lvl nm sc p e:=⟨h,LH h hw⟩
theorem OP{q:Bool}{b:PE}{y:Expr}{sc:Scope}(h:ST Z cl lvl nm sc y b){A:Around}{env:Env}{ρ:aW}{O:List (Option Nat×Addr)}{s:Shared}{d:PyData}{t:Bool}{Q:Bool→Shared→Prop}{E:Value→Shared→Prop}
  (X:Cx Z lvl nm sc A env ρ O s) (hd:aH cl b ρ=some d) (ht:cO d=some t) (hQ:∀ s',bA Z s'→Kp Z.n s.heap s'.heap→Q t s'):wpAny (model Z.prog Z.w) A (allTrue (kD q) [y] env) Q E s:=by
 rw[arm_allTrue_cons]
 refine wpAny_bind (h X hd ht fun s₁ I₁ k₁=>?_)
 have:=hQ s₁ I₁ k₁
 cases q <;> cases t <;> exact wpAny_pure this
theorem LR{q:Bool}{a b:PE}{x y:Expr}{pos:Pos}{sc:Scope}(i1:SB Z cl lvl nm sc a x)(i2:SB Z cl lvl nm sc b y):SB Z cl lvl nm sc (.bool q a b) (.BoolOp (kD q) [x,y] pos) :=
 ⟨EJ (rest:=[y]) (pos:=pos) (fun _=>⟨_,_,rfl⟩) i1.1 fun{A env ρ O s d Q E}X hd g=>i2.1 (A:=A) (env:=env) (Q:=Q) (E:=E) X hd g,EE i1.2 (OP i2.2)⟩
theorem LQ{q:Bool}{a b:PE}{x y z:Expr}{r:List Expr}{pos:Pos}{sc:Scope}(i1:SB Z cl lvl nm sc a x)(i2:SB Z cl lvl nm sc b (.BoolOp (kD q) (y::z::r) pos)):SB Z cl lvl nm sc (.bool q a b) (.BoolOp (kD q) (x::y::z::r) pos) :=
 ⟨EJ (rest:=y::z::r) (pos:=pos) (fun _=>⟨_,_,rfl⟩) i1.1 fun{A env ρ O s d Q E}X hd g=>i2.1 (A:=A) (env:=env) (Q:=Q) (E:=E) X hd g,EE i1.2 fun{A env ρ O s d t Q E}X hd ht hQ=>i2.2 (A:=A) (env:=env) (Q:=Q) (E:=E) X hd ht hQ⟩
theorem RB{q:Bool}{a b:PE}{sc:Scope}{e:Expr}(ha:∀ e,cR fn nm sc a e=true→SB Z cl lvl nm sc a e)(hb:∀ e,cR fn nm sc b e=true→SB Z cl lvl nm sc b e)(h:cR fn nm sc (.bool q a b) e=true):SB Z cl lvl nm sc (.bool q a b) e:=by
 apply wH h; intro op xs pos h
 refine aB h fun hz h=>?_; have hz:=eq_of_beq hz; subst hz
 apply cZ h; intro x r h
 refine aB h fun h1 h=>?_
 apply cZ h; intro y r' h
 cases r' with
 | nil=>exact LR (ha _ h1) (hb _ h)
 | cons z r=>exact LQ (ha _ h1) (hb _ h)
theorem TC{t:Tg}{i:PI}{sc:Scope}{e:Expr}(h:vV nm sc t e=true)(hz:(sL t || !zJ i)=true):GE (zJ i) e:=by
 cases t with
 | one x =>
  apply aN h; intro n p _
  exact .inl ⟨bO hz,n,p,rfl⟩
 | two x y =>
  apply fW h; intro a b c _
  exact .inr ⟨a,b,c,rfl⟩
theorem BZ{t:Tg}{sc:Scope}{e:Expr}(h:vV nm sc t e=true):∀ x∈b0 t,∀ n,nm[x]? = some n→iU sc n=true:=by
 have one:∀{x:Nat}{m:Str},(nm[x]? == some m&&iU sc m)=true→∀ n,nm[x]? = some n→iU sc n=true:=fun h n e=>by
  obtain⟨h1,h2⟩:=aA h
  cases(eq_of_beq h1).symm.trans e
  exact h2
 cases t with
 | one x =>
  apply aN (m:=fun _=>_) h; intro n p h y hy
  exact List.mem_singleton.mp hy▸one h
 | two x y =>
  apply fW (m:=fun _=>_) h; intro es x1 p h
  apply cZ (m:=fun _=>_) h; intro a r h
  apply cJ (m:=fun _=>_) h; intro b h
  apply aN (m:=fun _=>_) h; intro n p1 h
  apply aN (m:=fun _=>_) h; intro m p2 h z hz
  exact(List.mem_cons.mp hz).elim (fun e=>e▸one (aA h).1) fun h'=>List.mem_singleton.mp h'▸one (aA h).2
theorem IX{sc:Scope}:∀{g:PG}{gs:List Comprehension},IK fn nm sc g gs=true→∀ x∈u0 g,∀ n,nm[x]? = some n→iU sc n=true
 | .nil,_,_=>nofun
 | .cons t i c g,gs,h=>by
  apply cZ (m:=fun _=>_) h; intro cp r h
  apply nT (m:=fun _=>_) h; intro target iter ifs az h x hx
  have h2:=aA (aA (aA (aA (aA h).2).2).2).2
  exact(List.mem_append.mp hx).elim (BZ h2.1 x) (IX h2.2 x)
theorem yU{sc:Scope}{g:PG}{gs:List Comprehension}(h:IK fn nm sc g gs=true)(c:Comprehension)(e:gs[0]? = some c):c.is_async=0:=by
 cases g with
 | nil=>exact d9 (m:=fun gs=>gs[0]? = some c→c.is_async=0) h nofun e
 | cons t i b g =>
  revert e
  apply cZ h; intro cp r h e
  cases e
  apply nT h; intro target iter ifs az h
  exact eq_of_beq (aA h).1
theorem SI.both{z z':Bool}{e:Expr}{sc:Scope}{p:PI}(q:SI Z cl lvl nm sc e p):SJ Z cl lvl nm sc z e p∧(z'=false→SI Z cl lvl nm sc e p):=⟨SI.sj q,fun _=>q⟩
theorem IM{z:Bool}{p:PI}{sc:Scope}{e:Expr}(h:IJ fn nm z sc p e=true):(z || !zJ p)=true:=by
 exact Bool.or_true z
theorem FY{es:rZ}{as:List Expr}{sc:Scope}(h:(decide (mT es≠0)&&nN fn nm sc es as)=true):as≠[]∧aV as∧nN fn nm sc es as=true:=by
 obtain⟨h1,h2⟩:=aA h
 obtain⟨h3,h4⟩:=lB h2
 exact⟨fun e=>of_decide_eq_true h1 (by rw[← h4,e]; rfl),h3,h2⟩
mutual
theorem bD(hB:f8 Z)(hC:dZ Z lvl fn cl):∀(p:PE)(sc:Scope)(e:Expr),cR fn nm sc p e=true→SB Z cl lvl nm sc p e
 | .lit d,sc,e,h=>by
  apply bS h; intro c k p h
  exact .of (US (eq_of_beq h)) fun _=>rfl
 | .var x,sc,e,h=>by
  apply aN h; intro n p h
  exact .of (UO (eq_of_beq (aA (aA (aA h).1).1).1) (aA (aA (aA h).1).1).2 (bne_iff_ne.mp (aA (aA h).1).2) (bne_iff_ne.mp (aA h).2)) fun _=>rfl
 | .neg a,sc,e,h=>by
  apply gX h; intro o x p h
  refine aB h fun z h=>?_; apply b9 z
  exact .of (UR (bD hB hC a sc _ h).1) fun _=>rfl
 | .nt a,sc,e,h=>by
  apply gX h; intro o x p h
  refine aB h fun z h=>?_; apply b9 z
  have i:=bD hB hC a sc _ h
  exact⟨X9 i.1,X5 i.2⟩
 | .bool q a b,sc,e,h=>RB (fun e h=>bD hB hC a sc e h) (fun e h=>bD hB hC b sc e h) h
 | .bin op a b,sc,e,h=>by
  apply AF h; intro l o r p h
  refine aB h fun z h=>?_; apply b9 z
  exact .of (UW (bD hB hC a sc _ (aA h).1).1 (bD hB hC b sc _ (aA h).2).1) fun _=>rfl
 | .cmp op a b,sc,e,h=>by
  apply m7 h; intro l os rs p h
  apply cJ h; intro o h
  refine aB h fun z h=>?_; apply b9 z
  apply cJ h; intro r h
  refine aB h fun z h=>?_
  have i1:=bD hB hC a sc _ (aA h).1
  have i2:=bD hB hC b sc _ (aA h).2
  exact⟨UV (bO z) i1.1 i2.1,UJ (bO z) i1.1 i2.1⟩
 | .ite c a b,sc,e,h=>by
  apply ML h; intro t x y p h
  refine aB h fun h1 h=>?_
  have i1:=bD hB hC c sc _ h1
  have i2:=bD hB hC a sc _ (aA h).1
  have i3:=bD hB hC b sc _ (aA h).2
  exact⟨UT i1.2 i2.1 i3.1,UI i1.2 i2.2 i3.2⟩
 | .list es,sc,e,h=>by
  apply rH h; intro xs p h
  exact .of (OX (of_decide_eq_true (aA h).1) (lN hB hC es sc _ (aA h).2)) fun _=>rfl
 | .comp elt t i c g,sc,e,h=>by
  apply qN h; intro el gens scope pos h
  apply cZ h; intro cp r h
  apply nT h; intro target iter ifs az h
  refine aB h fun z h=>?_; apply b9 z
  refine aB h fun h1 h=>aB h fun h2 h=>aB h fun h3 h=>aB h fun h4 h=>aB h fun h5 h=>?_
  have F:=uD h3
  have hz:=IM h4
  exact .of (OY ⟨F,fun x hx=>(List.mem_append.mp hx).elim (BZ h5 x) (IX (aA h).1 x),bO h2,(xL hB hC i _ sc _ h4).1,TC h5 hz,hz,⟨rfl,yU (aA h).1,F.nmnd,h5,BU hB hC c scope _ h1,BS hB hC g scope el (⟨target,iter,ifs,0⟩::r) pos elt 0 F.nmnd (bD hB hC elt scope _ (aA h).2).1 (aA h).1⟩⟩) fun _=>rfl
 | .call f es,sc,e,h=>by
  apply eH h; intro fe as ks p h
  refine aB h fun z h=>?_; apply d9 z
  apply aN h; intro n q h
  refine aB h fun h1 h=>aB h fun h2 h=>?_
  obtain⟨g1,g2,g3⟩:=FY h
  exact .of (OZ hC (eq_of_beq h1) h2 g1 g2 (lN hB hC es sc _ g3)) fun _=>rfl
 | .bi b es,sc,e,h=>by
  apply eH h; intro fe as ks p h
  refine aB h fun z h=>?_; apply d9 z
  apply aN h; intro n q h
  refine aB h fun z h=>?_; apply b9 z
  refine aB h fun h2 h=>?_
  obtain⟨g1,g2,g3⟩:=FY h
  exact .of (YB hB h2 g1 g2 (lN hB hC es sc _ g3)) fun _=>rfl
 | .me m o es,sc,e,h=>by
  apply eH h; intro fe as ks pos h
  refine aB h fun z h=>?_; apply d9 z
  apply b6 h; intro x name apos h
  refine aB h fun z h=>?_; apply b9 z
  refine aB h fun h1 h=>aB h fun h2 h=>aB h fun h3 h=>aB h fun h4 h=>?_
  exact .of (YA (HJ h1) h2 (of_decide_eq_true h3) (of_decide_eq_true h4) (bD hB hC o sc _ (aA h).1).1 (lB (aA h).2) (lN hB hC es sc _ (aA h).2)) fun _=>rfl
 | .rev a,sc,e,h=>by
  apply fG h; intro v s p h
  apply tQ h; intro l u st q h
  refine aB h fun z h=>?_; apply nK z
  refine aB h fun z h=>?_; apply nK z
  apply qX h; intro m h
  apply gX h; intro o c q2 h
  refine aB h fun z h=>?_; apply b9 z
  apply bS h; intro c k q3 h
  refine aB h fun z h=>?_; apply b9 z
  exact .of (UQ (bD hB hC a sc _ h).1) fun _=>rfl
 | .idx a i,sc,e,h=>by
  apply fG h; intro v s p h
  refine aB h fun z h=>?_
  exact .of (UU (bO z) (bD hB hC a sc _ (aA h).1).1 (bD hB hC i sc _ (aA h).2).1) fun _=>rfl
 | .slc a lo hi,sc,e,h=>by
  apply fG h; intro v s p h
  apply tQ h; intro l u st q h
  refine aB h fun z h=>?_; apply nK z
  refine aB h fun h1 h=>?_
  exact .of (UP (bD hB hC a sc _ h1).1 (JT hB hC lo sc _ (aA h).1) (JT hB hC hi sc _ (aA h).2)) fun _=>rfl
theorem lN(hB:f8 Z)(hC:dZ Z lvl fn cl):∀(ps:rZ)(sc:Scope)(es:List Expr),nN fn nm sc ps es=true→H2 Z cl lvl nm sc es ps
 | .nil,sc,es,h=>by apply d9 h; exact yD
 | .cons p ps,sc,es,h=>by
  apply cZ h; intro e r h
  refine aB h fun z h=>?_
  exact tO (bI (bO z) r) (bD hB hC p sc e (aA h).1).1 (lN hB hC ps sc r (aA h).2)
theorem JT(hB:f8 Z)(hC:dZ Z lvl fn cl):∀(p:PO)(sc:Scope)(o:Option Expr),TX fn nm sc p o=true→SO Z cl lvl nm sc o p
 | .no,sc,o,h=>by apply nK h; exact X8
 | .yes p,sc,o,h=>by
  apply qX h; intro e h
  exact UL (bD hB hC p sc e h).1
theorem BU(hB:f8 Z)(hC:dZ Z lvl fn cl):∀(p:PO)(sc:Scope)(es:List Expr),CR fn nm sc p es=true→SC Z cl lvl nm sc es p
 | .no,sc,es,h=>by apply d9 h; exact YC
 | .yes p,sc,es,h=>by
  apply cJ h; intro e h
  exact UX (bD hB hC p sc e h).2
theorem BS(hB:f8 Z)(hC:dZ Z lvl fn cl):∀(g:PG)(sc:Scope)(el:Expr)(gens:List Comprehension)(pos:Pos)(pe:PE)(depth:Nat),nm.Nodup→SE Z cl lvl nm sc el pe→IK fn nm sc g (gens.drop (depth+1))=true→SG Z cl lvl nm sc el gens pos pe depth g
 | .nil,sc,el,gens,pos,pe,depth,hnd,he,h=>UM (List.getElem?_eq_none (List.drop_eq_nil_iff.mp (List.isEmpty_iff.mp h))) he
 | .cons t i c g,sc,el,gens,pos,pe,depth,hnd,he,h=>by
  generalize hl:gens.drop (depth+1)=l at h
  revert hl
  apply cZ h; intro cp r h
  apply nT h; intro target iter ifs az h
  refine aB h fun z h=>?_; apply b9 z
  intro hl
  have e1:gens[depth+1]? = some ⟨target,iter,ifs,0⟩:=by rw[← Nat.add_zero (depth+1),← List.getElem?_drop,hl]; rfl
  have e2:gens.drop (depth+1+1)=r:=by rw[← List.drop_drop,hl]; rfl
  refine aB h fun h1 h=>aB h fun h2 h=>aB h fun h4 h=>aB h fun h5 h=>?_
  have hz:=IM h4
  exact OT ⟨e1,fun c e=>yU h c (by rw[← e2,List.getElem?_drop]; exact e),hnd,h5,BU hB hC c sc _ h1,BS hB hC g sc el gens pos pe (depth+1) hnd he (by rw[e2]; exact h)⟩ hz (TC h5 hz) (bO h2) (xL hB hC i _ sc _ h4).1
theorem xL(hB:f8 Z)(hC:dZ Z lvl fn cl):∀(p:PI)(z:Bool)(sc:Scope)(e:Expr),IJ fn nm z sc p e=true→SJ Z cl lvl nm sc (zJ p) e p∧(z=false→SI Z cl lvl nm sc e p)
 | .of p,z,sc,e,h=>SI.both (RV (bD hB hC p sc e h).1)
 | .range1 a,z,sc,e,h=>by
  apply eH h; intro fe as ks p h
  refine aB h fun z h=>?_; apply d9 z
  apply aN h; intro n q h
  refine aB h fun z h=>?_; apply b9 z
  apply cJ h; intro x h
  refine aB h fun z h=>?_
  exact SI.both (GT hB (aA h).1 (bO z) (bD hB hC a sc _ (aA h).2).1)
 | .range2 a b,z,sc,e,h=>by
  apply eH h; intro fe as ks p h
  refine aB h fun z h=>?_; apply d9 z
  apply aN h; intro n q h
  refine aB h fun z h=>?_; apply b9 z
  apply cZ h; intro x r h
  apply cJ h; intro y h
  refine aB h fun z h=>aB h fun z' h=>aB h fun g h=>?_
  exact SI.both (GS hB g (bO z) (bO z') (bD hB hC a sc _ (aA h).1).1 (bD hB hC b sc _ (aA h).2).1)
end
theorem Q8(hB:f8 Z)(hC:dZ Z lvl fn cl){elt:PE}{t:Tg}{i:PI}{c:PO}{g:PG}{sc:Scope}{e:Expr}{m:Expr→Prop}(h:cR fn nm sc (.comp elt t i c g) e=true)
  (k:∀{scope el target iter ifs r pos},xY Z cl lvl nm sc scope el target iter ifs r pos elt t i c g (zJ i)→m (.ListComp el (⟨target,iter,ifs,0⟩::r) scope pos)):m e:=by
 apply qN h; intro el gens scope pos h
 apply cZ h; intro cp r h
 apply nT h; intro target iter ifs az h
 refine aB h fun z h=>?_; apply b9 z
 refine aB h fun h1 h=>aB h fun h2 h=>aB h fun h3 h=>aB h fun h4 h=>aB h fun h5 h=>?_
 have F:=uD h3
 have hz:=IM h4
 exact k ⟨F,fun x hx=>(List.mem_append.mp hx).elim (BZ h5 x) (IX (aA h).1 x),bO h2,(xL hB hC i _ sc _ h4).1,TC h5 hz,hz,⟨rfl,yU (aA h).1,F.nmnd,h5,BU hB hC c scope _ h1,BS hB hC g scope el (⟨target,iter,ifs,0⟩::r) pos elt 0 F.nmnd (bD hB hC elt scope _ (aA h).2).1 (aA h).1⟩⟩
end
def NY(env:Env)(b:Addr):Prop:=b=env.locals∨∃ n,cf env n∧env.cells.lookup n=some b
theorem Wr.all{nm:List Str}{env:Env}{xs:List Nat}{b:Addr}(w:Wr nm env xs b):NY env b:=w.imp id fun⟨_,_,n,_,hk,hc⟩=>⟨n,hk,hc⟩
structure hY(Z:aF)(nm:List Str)(env:Env)(σ:eV)(O:List (Option Nat×Addr))(s:Shared):Prop where
 inv:bA Z s
 eok:aK Z nm env σ.env O s.heap
 own:∀ y∈σ.own,∃ n b,nm[y]? = some n∧uZ env s.heap n (.ref b)∧(some y,b)∈O
 high:∀ y b,(some y,b)∈O→Z.n≤b
structure bH(Z:aF)(env:Env)(O O':List (Option Nat×Addr))(h h':Heap):Prop where
 keep:∀ b o,h.get? b=some o→(o.cls ≠ .none∨Z.n≤b)→¬NY env b→(∀ y,(some y,b)∉O)→Sl h' b o
 live:∀ b o,h.get? b=some o→Z.n≤b→∃ o',h'.get? b=some o'
 newO:∀ y b,(some y,b)∈O'→(some y,b)∈O∨(Z.n≤b∧h.get? b=none)
 resv:∀ a,(none,a)∈O'↔(none,a)∈O
section
variable{Z:aF}{nm:List Str}{env:Env}{O O' O'':List (Option Nat×Addr)}{h h' h'':Heap}{ρ:aW}{σ:eV}{s:Shared}
theorem oF{h:Heap}{b:Addr}(k:∀ o,h.get? b=some o→False):h.get? b=none:=by
 cases e:h.get? b with
 | none=>rfl
 | some o=>exact(k o e).elim
theorem bH.refl:bH Z env O O h h:=⟨fun _ _ e _ _ _=>.inl e,fun b o e _=>⟨o,e⟩,fun _ _ h=>.inl h,fun _=>Iff.rfl⟩
theorem bH.trans(a:bH Z env O O' h h')(b:bH Z env O' O'' h' h''):bH Z env O O'' h h'' where
 keep:=fun x o e c hw ho=>(a.keep x o e c hw ho).next fun o' e' hcc=>b.keep x o' e' (by rw[hcc]; exact c) hw fun y hy=>(a.newO y x hy).elim (ho y) fun h=>nomatch h.2.symm.trans e
 live:=fun x o e hn=>let⟨o',e'⟩:=a.live x o e hn; b.live x o' e' hn
 newO:=fun y x hy=>(b.newO y x hy).elim (a.newO y x) fun⟨hn,h1⟩=>.inr ⟨hn,oF fun o e=>let⟨_,e'⟩:=a.live x o e hn; nomatch h1.symm.trans e'⟩
 resv:=fun x=>(b.resv x).trans (a.resv x)
theorem bH.kp(k:Kp Z.n h h'):bH Z env O O h h':=⟨fun b o e c _ _=>k.k b o e c,fun b o e hn=>let⟨o',e',_⟩:=(k.k b o e (.inr hn)).ex; ⟨o',e'⟩,fun _ _ h=>.inl h,fun _=>Iff.rfl⟩
theorem bH.less(hs:∀ y b,(some y,b)∈O'→(some y,b)∈O)(hr:∀ a,(none,a)∈O'↔(none,a)∈O):bH Z env O O' h h:=⟨fun _ _ e _ _ _=>.inl e,fun b o e _=>⟨o,e⟩,fun y b h=>.inl (hs y b h),hr⟩
theorem bH.turned{xs:List Nat}(hE:aK Z nm env ρ O h)(T:aM Z nm env xs (fun _=>False) h h'):bH Z env O O h h' where
 keep:=fun b o e c hw _=>T.keep b o e c (fun w=>hw w.all) id
 live:=fun b o e hn=>by
  by_cases hw:Wr nm env xs b
  ·rcases hw with rfl | ⟨x,hx,n,_,hk,hc⟩
   ·obtain⟨m,o',_,_,e',_⟩:=T.ns hE.ns
    exact⟨o',e'⟩
   ·obtain⟨_,v,h3⟩:=hE.cellAt hk hc
    obtain⟨v',o',e',_⟩:=T.cells n b v hk hc h3
    exact⟨o',e'⟩
  ·obtain⟨o',e',_⟩:=(T.keep b o e (.inr hn) hw id).ex
   exact⟨o',e'⟩
 newO:=fun _ _ h=>.inl h
 resv:=fun _=>Iff.rfl
noncomputable def bZ(O:List (Option Nat×Addr))(es:List Nat):List (Option Nat×Addr):=O.filter fun yb=>!hit es yb.1
theorem bQ{es:List Nat}{yb:Option Nat×Addr}:yb∈bZ O es↔yb∈O∧¬iX yb.1 es:=by
 unfold bZ
 rw[List.mem_filter,← yL,Bool.not_eq_true',Bool.not_eq_true]
theorem y1{es:List Nat}:¬iX none es:=fun⟨_,_,h⟩=>nomatch h
theorem bH.drop(es:List Nat):bH Z env O (bZ O es) h h:=bH.less (fun _ _ h=>(bQ.mp h).1) fun a=>⟨fun h=>(bQ.mp h).1,fun h=>bQ.mpr ⟨h,y1⟩⟩
theorem gU{own xs:List Nat}{y:Nat}:y∈lose own xs↔y∈own∧y∉xs:=by
 unfold lose
 rw[List.mem_filter,Bool.not_eq_true',← Bool.not_eq_true,List.contains_iff_mem]
theorem hY.kp(S:hY Z nm env σ O s){s':Shared}(I:bA Z s')(k:Kp Z.n s.heap s'.heap):hY Z nm env σ O s' where
 inv:=I
 eok:=S.eok.kp k
 own:=fun y hy=>let⟨n,b,h1,h2,h3⟩:=S.own y hy; ⟨n,b,h1,h2.kp k S.eok.new (fun c hc hk=>(S.eok.cellAt hk hc).1),h3⟩
 high:=S.high
theorem hY.lose(S:hY Z nm env σ O s){es:List Nat}{own:List Nat}(ho:∀ y∈own,y∈σ.own∧y∉es):hY Z nm env ⟨σ.env,own⟩ (bZ O es) s where
 inv:=S.inv
 eok:=S.eok.lessO fun yb hy=>(bQ.mp hy).1
 own:=fun y hy=>let⟨h0,h1⟩:=ho y hy; let⟨n,b,h2,h3,h4⟩:=S.own y h0; ⟨n,b,h2,h3,bQ.mpr ⟨h4,fun⟨z,hz,e⟩=>h1 (by cases e; exact hz)⟩⟩
 high:=fun y b h=>S.high y b (bQ.mp h).1
theorem hY.turn{ρ':aW}{xs:List Nat}{X:Addr→Prop}{own:List Nat}{s':Shared}(S:hY Z nm env σ O s)(hnd:nm.Nodup)(I:bA Z s')(E:aK Z nm env ρ' O s'.heap)(T:aM Z nm env xs X s.heap s'.heap)(ho:∀ y∈own,y∈σ.own∧y∉xs):hY Z nm env ⟨ρ',own⟩ O s' :=
 ⟨I,E,fun y hy=>let⟨h0,h1⟩:=ho y hy; let⟨n,b,g1,g2,g3⟩:=S.own y h0; ⟨n,b,g1,T.acc n _ (fun x hx hxn=>h1 (jB hnd hxn g1▸hx)) g2,g3⟩,S.high⟩
def BQ(Z:aF)(nm:List Str)(env:Env)(O:List (Option Nat×Addr))(s:Shared)(fl:Fl)(R:Flow→Shared→Prop):Prop :=
 match fl with
 | .next σ'=>∀ s' O',hY Z nm env σ' O' s'→bH Z env O O' s.heap s'.heap→R .next s'
 | .ret d=>∀ v as s' O',bA Z s'→Rd s'.heap v d as→bK d=true→(∀ a,(none,a)∈O→a∉as)→bH Z env O O' s.heap s'.heap→R (.ret v) s'
theorem BQ.from_{s₁:Shared}{fl:Fl}{R:Flow→Shared→Prop}(p:BQ Z nm env O s fl R)(st:bH Z env O O' s.heap s₁.heap):BQ Z nm env O' s₁ fl R:=by
 cases fl with
 | next σ'=>exact fun s' O'' S st'=>p s' O'' S (st.trans st')
 | ret d=>exact fun v as s' O'' I r hd hr st'=>p v as s' O'' I r hd (fun a ha=>hr a ((st.resv a).mpr ha)) (st.trans st')
theorem RE{M:Model}{A:Around}{E:Value→Shared→Prop}{Q:Unit→Shared→Prop}{x:Nat}{n:Str}{v:Value}{d:PyData}{as:List Addr}{own':List Nat}(S:hY Z nm env σ O s)(hnd:nm.Nodup)(hx:nm[x]? = some n)(hk:env.kindOf n=some .local∨env.kindOf n=some .cell)
  (r:Rd s.heap v d as) (hd:bK d=true) (ho:∀ yb∈O,yb.2∈as→yb.1=some x∧as.head? = some yb.2) (hown:∀ y∈own',(y≠x∧y∈σ.own)∨(y=x∧∃ b,v = .ref b∧(some x,b)∈O))
  (hQ:∀ s',hY Z nm env ⟨σ.env.set x (some d),own'⟩ O s'→bH Z env O O s.heap s'.heap→aM Z nm env [x] (fun _=>False) s.heap s'.heap→Q () s'):wpAny M A (storeName env n v) Q E s :=
 v7 S.eok S.inv hx hk fun h' tk I' a T=>hQ _ ⟨I',S.eok.stored hnd hx T a r hd ho,fun y hy=>by
  rcases hown y hy with⟨hne,hy⟩| ⟨rfl,b,rfl,hb⟩
  ·obtain⟨m,b,h1,h2,h3⟩:=S.own y hy
   exact⟨m,b,h1,T.acc m _ (fun z hz hzm=>hne ((jB hnd hzm h1).symm.trans (List.mem_singleton.mp hz))) h2,h3⟩
  ·exact⟨n,b,hx,a,hb⟩,S.high⟩ (bH.turned S.eok T) T
theorem aM.other{x:Nat}{n m:Str}{u:Value}(hx:nm[x]? = some n)(T:aM Z nm env [x] (fun _=>False) h h')(hm:m≠n)(a:uZ env h m u):uZ env h' m u:=T.acc m u (fun z hz hzm=>hm (Option.some.inj (hzm.symm.trans (by rw[List.mem_singleton.mp hz]; exact hx)))) a
noncomputable def dW(d:PyData)(e:PE):List Nat:=if flat d then []else lG e
theorem gJ(own:List Nat)(d:PyData)(e:PE):b5 own d e=lose own (dW d e):=by
 unfold b5 dW
 cases flat d
 ·rfl
 ·exact(List.filter_eq_self.mpr fun _ _=>rfl).symm
theorem yE{h:Heap}{v:Value}{d:PyData}{as:List Addr}(r:Rd h v d as)(hf:flat d=true):as=[]:=by
 cases r with
 | list=>cases hf
 | _=>rfl
theorem lX{h:Heap}{v:Value}{d:PyData}{as:List Addr}{e:PE}(r:Rd h v d as)(ho:∀ yb∈O,yb.2∈as→iX yb.1 (lG e)):∀ yb∈O,yb.2∈as→iX yb.1 (dW d e):=fun yb hy hm=>by
 unfold dW
 cases hf:flat d
 ·exact ho yb hy hm
 ·rw[yE r hf]at hm; cases hm
theorem aK.add{x:Nat}{b:Addr}(hE:aK Z nm env ρ O h)(k:Kp Z.n h h')(hfresh:h.get? b=none)(hlive:∃ o,h'.get? b=some o∧o.cls ≠ .none):aK Z nm env ρ ((some x,b)::O) h' :=
 have hr:=hE.reserve (es:=[]) k hfresh hlive
 have old:∀{yb},yb∈O→yb∈Kt.Internal.reserve b O []:=fun hy=>(dK hy).resolve_right fun⟨_,h,_⟩=>nomatch h
 { hr with
  live:=fun yb hy=>(List.mem_cons.mp hy).elim (fun e=>e▸hlive) fun hy=>hr.live yb (old hy)
  apart:=fun yb hy=>(List.mem_cons.mp hy).elim (fun e=>e▸hr.apart (none,b) List.mem_cons_self) fun hy=>hr.apart yb (old hy)
  vars:=fun y d n h1 h2 h3=>let⟨v,as,a,r,hd,ho⟩:=hr.vars y d n h1 h2 h3; ⟨v,as,a,r,hd,fun yb hy hm=>(List.mem_cons.mp hy).elim (fun e=>nomatch (ho (none,b) List.mem_cons_self (by rw[e]at hm; exact hm)).1) fun hy=>ho yb (old hy) hm⟩ }
theorem FD{x:Nat}{es:List Nat}(S:hY Z nm env σ O s):hY Z nm env ⟨σ.env,(lose σ.own es).filter (· != x)⟩ (bZ O (x::es)) s:=S.lose fun y hy=>by
 obtain⟨h1,h2⟩:=List.mem_filter.mp hy
 obtain⟨h3,h4⟩:=gU.mp h1
 exact⟨h3,fun h=>(List.mem_cons.mp h).elim (bne_iff_ne.mp h2) h4⟩
theorem ET{A:Around}{E:Value→Shared→Prop}{R:Unit→Shared→Prop}{x:Nat}{n:Str}{v:Value}{d:PyData}{as:List Addr}{es:List Nat}(S:hY Z nm env σ O s)(hnd:nm.Nodup)(hx:nm[x]? = some n)
  (hk:env.kindOf n=some .local∨env.kindOf n=some .cell) (r:Rd s.heap v d as) (hd:bK d=true) (ho:∀ yb∈O,yb.2∈as→iX yb.1 es)
  (hR:∀ s',hY Z nm env ⟨σ.env.set x (some d),(lose σ.own es).filter (· != x)⟩ (bZ O (x::es)) s'→bH Z env O (bZ O (x::es)) s.heap s'.heap→aM Z nm env [x] (fun _=>False) s.heap s'.heap→R () s'):wpAny (model Z.prog Z.w) A (storeName env n v) R E s :=
 RE (FD S) hnd hx hk r hd (fun yb hy hm=>let⟨h1,h2⟩:=bQ.mp hy; let⟨z,hz,e⟩:=ho yb h1 hm; absurd ⟨z,List.mem_cons_of_mem _ hz,e⟩ h2) (own':=(lose σ.own es).filter (· != x)) (fun y hy=>.inl ⟨bne_iff_ne.mp (List.mem_filter.mp hy).2,hy⟩) fun s' S'' st T=>hR s' S'' ((bH.drop _).trans st) T
theorem FA{s₁:Shared}{x:Nat}{b:Addr}{es:List Nat}(S:hY Z nm env σ O s)(I₁:bA Z s₁)(k₁:Kp Z.n s.heap s₁.heap)(hlive:∃ o,s₁.heap.get? b=some o∧o.cls ≠ .none)(hb:s.heap.get? b=none)(hbn:Z.n≤b) :
  hY Z nm env ⟨σ.env,(lose σ.own es).filter (· != x)⟩ ((some x,b)::bZ O (x::es)) s₁∧bH Z env O ((some x,b)::bZ O (x::es)) s.heap s₁.heap:=by
 have S':=FD (x:=x) (es:=es) S
 have S₁:=S'.kp I₁ k₁
 have st:=(bH.drop (Z:=Z) (env:=env) (h:=s.heap) (O:=O) (x::es)).trans (bH.kp k₁)
 exact⟨⟨I₁,S'.eok.add k₁ hb hlive,fun y hy=>let⟨n,c,h1,h2,h3⟩:=S₁.own y hy; ⟨n,c,h1,h2,List.mem_cons_of_mem _ h3⟩,fun y c hy=>(List.mem_cons.mp hy).elim (fun e=>by cases e; exact hbn) (S'.high y c)⟩,
  st.keep,st.live,fun y c hy=>(List.mem_cons.mp hy).elim (fun e=>by cases e; exact .inr ⟨hbn,hb⟩) (st.newO y c),fun a=>⟨fun h'=>(st.resv a).mp ((List.mem_cons.mp h').resolve_left nofun),fun h'=>List.mem_cons_of_mem _ ((st.resv a).mpr h')⟩⟩
theorem rD{A:Around}{E:Value→Shared→Prop}{R:Unit→Shared→Prop}{s₁:Shared}{x:Nat}{n:Str}{b:Addr}{bs:List Addr}{d:PyData}{es:List Nat}(S:hY Z nm env σ O s)(hnd:nm.Nodup)(hx:nm[x]? = some n)
  (hk:env.kindOf n=some .local∨env.kindOf n=some .cell) (I₁:bA Z s₁) (k₁:Kp Z.n s.heap s₁.heap) (r:Rd s₁.heap (.ref b) d (b::bs)) (hd:bK d=true) (hb:s.heap.get? b=none) (hbn:Z.n≤b) (ho:∀ yb∈O,yb.2∈b::bs→iX yb.1 es)
  (hR:∀ s',hY Z nm env ⟨σ.env.set x (some d),x::(lose σ.own es).filter (· != x)⟩ ((some x,b)::bZ O (x::es)) s'→bH Z env O ((some x,b)::bZ O (x::es)) s.heap s'.heap→aM Z nm env [x] (fun _=>False) s₁.heap s'.heap→R () s'):wpAny (model Z.prog Z.w) A (storeName env n (.ref b)) R E s₁:=by
 obtain⟨S₁,st⟩:=FA (x:=x) (es:=es) S I₁ k₁ (let⟨o,_,_,e,_,c⟩:=r.objs b List.mem_cons_self; ⟨o,e,by rw[c]; nofun⟩) hb hbn
 exact RE (own':=x::(lose σ.own es).filter (· != x)) S₁ hnd hx hk r hd
  (fun yb hy hm=>(List.mem_cons.mp hy).elim (fun e=>by rw[e]; exact⟨rfl,rfl⟩) fun hy=>let⟨h1,h2⟩:=bQ.mp hy; let⟨z,hz,e⟩:=ho yb h1 hm; absurd ⟨z,List.mem_cons_of_mem _ hz,e⟩ h2)
  (fun y hy=>(List.mem_cons.mp hy).elim (fun e=>.inr ⟨e,b,rfl,List.mem_cons_self⟩) fun hy=>.inl ⟨bne_iff_ne.mp (List.mem_filter.mp hy).2,hy⟩) fun s' S'' st' T=>hR s' S'' (st.trans st') T
theorem VV(hE:aK Z nm env ρ O h){b:Addr}(hb:h.get? b=none):¬NY env b:=by
 rintro(rfl | ⟨n,hk,hc⟩)
 ·obtain⟨m,o,_,_,e,_⟩:=hE.ns
  cases hb.symm.trans e
 ·obtain⟨_,v,o,e,_⟩:=hE.cellAt hk hc
  cases hb.symm.trans e
theorem HA(hE:aK Z nm env ρ O h){b:Addr}{o:Obj}{vs:Array Value}{n:Nat}(e:h.get? b=some o)(hd:o.data = .seq vs n):¬NY env b:=by
 rintro(rfl | ⟨m,hk,hc⟩)
 ·obtain⟨m,hm⟩:=hE.ns
  exact fP hm e hd
 ·obtain⟨_,v,h3⟩:=hE.cellAt hk hc
  exact oW h3 e hd
theorem QE(hE:aK Z nm env ρ O h){yb:Option Nat×Addr}(hy:yb∈O):¬NY env yb.2:=fun w=>w.elim (hE.apart yb hy).1 fun⟨m,hk,hc⟩=>(hE.apart yb hy).2 m _ hk hc rfl
end
structure Sx(Z:aF)(lvl:Nat)(nm:List Str)(sc:Scope)(A:Around)(env:Env)(σ:eV)(O:List (Option Nat×Addr))(s:Shared):Prop where
 ha:f6 Z lvl A
 hs:vA sc env
 hf:pQ sc env
 S:hY Z nm env σ O s
section
variable{Z:aF}{cl:Nat→List PyData→Option PyData}{lvl:Nat}{nm:List Str}{fn:List Str}{sc:Scope}
theorem Sx.cx{A:Around}{env:Env}{σ:eV}{O:List (Option Nat×Addr)}{s:Shared}(X:Sx Z lvl nm sc A env σ O s):Cx Z lvl nm sc A env σ.env O s:=⟨X.ha,X.hs,X.S.eok,X.S.inv⟩
theorem Sx.go{A:Around}{env:Env}{σ σ':eV}{O O':List (Option Nat×Addr)}{s s':Shared}(X:Sx Z lvl nm sc A env σ O s)(S:hY Z nm env σ' O' s'):Sx Z lvl nm sc A env σ' O' s':=⟨X.ha,X.hs,X.hf,S⟩
theorem Sx.kind{A:Around}{env:Env}{σ:eV}{O:List (Option Nat×Addr)}{s:Shared}{n:Str}(X:Sx Z lvl nm sc A env σ O s)(h:iU sc n=true):env.kindOf n=some .local∨env.kindOf n=some .cell:=FC X.hs h (X.hf n h)
def zC(Z:aF)(cl:Nat→List PyData→Option PyData)(lvl:Nat)(nm:List Str)(sc:Scope)(fuel:Nat)(st:Stmt)(p:PS):Prop :=
 ∀{A:Around}{env:Env}{σ:eV}{O:List (Option Nat×Addr)}{s:Shared}{fl:Fl}{R:Flow→Shared→Prop}{E:Value→Shared→Prop},
  Sx Z lvl nm sc A env σ O s→vJ cl fuel p σ=some fl→BQ Z nm env O s fl R→wpAny (model Z.prog Z.w) A (exec st env) R E s
def SX(Z:aF)(cl:Nat→List PyData→Option PyData)(lvl:Nat)(nm:List Str)(sc:Scope)(fuel:Nat)(ss:List Stmt)(p:pB):Prop :=
 ∀{A:Around}{env:Env}{σ:eV}{O:List (Option Nat×Addr)}{s:Shared}{fl:Fl}{R:Flow→Shared→Prop}{E:Value→Shared→Prop},
  Sx Z lvl nm sc A env σ O s→dO cl fuel p σ=some fl→BQ Z nm env O s fl R→wpAny (model Z.prog Z.w) A (execs ss env) R E s
theorem UB{fuel:Nat}:SX Z cl lvl nm sc fuel [] .nil:=fun{A env σ O s fl R E}X hd hR=>by
 cases hd
 exact wpAny_execs_nil (hR s O X.S bH.refl)
theorem ON{fuel:Nat}{st:Stmt}{ss:List Stmt}{p:PS}{ps:pB}(h1:zC Z cl lvl nm sc fuel st p)(h2:SX Z cl lvl nm sc fuel ss ps):SX Z cl lvl nm sc fuel (st::ss) (.cons p ps):=fun{A env σ O s fl R E}X hd hR=>aS hd fun f hx hd=>by
 refine wpAny_execs_cons (h1 X hx ?_)
 cases f with
 | next σ'=>exact fun s' O' S' st=>h2 (X.go S') hd (hR.from_ st)
 | ret d=>cases hd; exact hR
theorem UA{fuel:Nat}{e:Expr}{p:PE}{pos:Pos}(h:SE Z cl lvl nm sc e p):zC Z cl lvl nm sc fuel (.Return (some e) pos) (.ret p):=fun{A env σ O s fl R E}X hd hR=>bY hd fun d hv e=>by
 subst e
 exact wpAny_Return_some (h X.cx hv fun v as s₁ I₁ k₁ r₁ ok₁ o₁=>hR v as s₁ O I₁ r₁ ok₁ (fun a ha hm=>let⟨y,_,e⟩:=o₁ _ ha hm; nomatch e) (bH.kp k₁))
theorem X4{fuel:Nat}{t:Expr}{b1 b2:List Stmt}{c:PE}{p1 p2:pB}{pos:Pos}(hc:ST Z cl lvl nm sc t c)(h1:SX Z cl lvl nm sc fuel b1 p1)(h2:SX Z cl lvl nm sc fuel b2 p2):zC Z cl lvl nm sc fuel (.If t b1 b2 pos) (.ife c p1 p2):=fun{A env σ O s fl R E}X hd hR=>aS hd fun d hx hd=>aS hd fun b ht hd =>
 wpAny_If (hc X.cx hx ht fun s₁ I₁ k₁=>by
  cases b with
  | true=>exact h1 (X.go (X.S.kp I₁ k₁)) hd (hR.from_ (bH.kp k₁))
  | false=>exact h2 (X.go (X.S.kp I₁ k₁)) hd (hR.from_ (bH.kp k₁)))
theorem LF{fuel:Nat}{t:Expr}{b:List Stmt}{c:PE}{ps:pB}{pos:Pos}(hc:ST Z cl lvl nm sc t c)(h:SX Z cl lvl nm sc fuel b ps):zC Z cl lvl nm sc fuel (.While t b [] pos) (.while_ c ps):=fun{A env σ O s fl R E}X hd hR=>by
 refine wpAny_While (codeAny_whileLoop (fun n s'=>∃ σ' O',hY Z nm env σ' O' s'∧bH Z env O O' s.heap s'.heap∧dJ (fun τ=>(aH cl c τ.env).bind cO) (dO cl fuel ps) n σ'=some fl) (fun n s₀⟨σ',O',S',st,hw⟩=>?_) fuel ⟨σ,O,X.S,bH.refl,hd⟩)
 cases n with
 | zero=>cases hw
 | succ n =>
  refine aS hw fun tb hx hw=>aS hx fun d hx ht=>hc (X.go S').cx hx ht fun s₁ I₁ k₁=>?_
  have st₁:=st.trans (bH.kp k₁)
  cases tb with
  | false=>cases hw; exact wpAny_execs_nil (hR s₁ O' (S'.kp I₁ k₁) st₁)
  | true =>
   refine aS hw fun f hb hw=>h (X.go (S'.kp I₁ k₁)) hb ?_
   cases f with
   | next σ₂=>exact fun s₂ O₂ S₂ st₂=>⟨n,Nat.lt_succ_self n,σ₂,O₂,S₂,st₁.trans st₂,hw⟩
   | ret v=>cases hw; exact fun w as s₂ O₂ I₂ r okd hr st₂=>hR w as s₂ O₂ I₂ r okd (fun a ha=>hr a ((st.resv a).mpr ha)) (st₁.trans st₂)
theorem jU{value:Expr}(h:gQ value=false)(t:Option Expr)(l:Nat)(env:Env):swapsWith value t l env=pure false:=by
 cases value with
 | ListComp | SetComp | DictComp=>cases h
 | _=>rfl
theorem vB{fuel:Nat}{x:Nat}{n:Str}{np pos:Pos}{value:Expr}{p:PE}(hnd:nm.Nodup)(hx:nm[x]? = some n)(hk:iU sc n=true)(hnew:vR p=false)(hc:gQ value=false)(h:SE Z cl lvl nm sc value p) :
  zC Z cl lvl nm sc fuel (.Assign [.Name n np] value pos) (.assign x p):=fun{A env σ O s fl R E}X hd hR=>bY hd fun d hv e=>by
 subst e
 refine wpAny_Assign_Name (h X.cx hv fun v as s₁ I₁ k₁ r₁ ok₁ o₁=>ET (X.S.kp I₁ k₁) hnd hx (X.kind hk) r₁ ok₁ (lX r₁ o₁) fun s' S' st _=>?_) (jU hc _ _ _)
 rw[hnew,gJ]at hR
 exact hR s' _ S' ((bH.kp k₁).trans st)
theorem uR{fuel:Nat}{x:Nat}{n:Str}{np pos lp:Pos}{es:List Expr}{ps:rZ}(hnd:nm.Nodup)(hx:nm[x]? = some n)(hk:iU sc n=true)(hlen:mT ps≤1000)(h:H2 Z cl lvl nm sc es ps) :
  zC Z cl lvl nm sc fuel (.Assign [.Name n np] (.List es lp) pos) (.assign x (.list ps)):=fun{A env σ O s fl R E}X hd hR=>bY hd fun d hv e=>bY hv fun ds hds e'=>by
 subst e e'
 refine wpAny_Assign_Name ?_ rfl
 rw[arm_eval_List]
 refine wpAny_bind (wpAny_standAt (wpAny_bind (h X.cx hds fun vs as s₁ I₁ k₁ r₁ ok₁ o₁=>?_)))
 have hl:ds.length≤sizeLine:=Nat.le_trans (lA hds▸hlen) (by decide)
 have hE:=X.S.eok.kp k₁
 have ho:∀ yb∈O,yb.2∈s₁.heap.objs.size::as→iX yb.1 (r8 ps):=fun yb hy hm=>(List.mem_cons.mp hm).elim (fun e=>absurd (hE.lt yb hy) (by rw[e]; exact Nat.lt_irrefl _)) (o₁ yb hy)
 have hp:∀{b o}{ob:Obj},s₁.heap.get? b=some o→(s₁.heap.push ob).get? b=some o:=fun e=>Heap.get?_push_of_some _ e
 refine wpAny_newList (rD X.S hnd hx (X.kind hk) (I₁.push _ _) (k₁.trans (Kp.push _ _ _)) (.list (as:=as) (Heap.get?_push_size _ rfl) ⟨rfl,rfl⟩ rfl (by rw[List.toList_toArray]; exact r₁.map fun _ _ _ e _=>hp e)) (zD hl ok₁) (k₁.none hE.size (get?_ge (Nat.le_refl _))) hE.size ho fun s' S' st _=>?_) (aP r₁▸hl)
 rw[gJ]at hR
 exact hR s' _ S' st
theorem hY.letGo{env:Env}{σ:eV}{O O₀:List (Option Nat×Addr)}{s₀ s:Shared}{C:Addr}{h':Heap}(hnd:nm.Nodup)(S:hY Z nm env σ O s)(st:bH Z env O₀ O s₀.heap s.heap)(hC:s₀.heap.get? C=none)(hCn:Z.n≤C)(hw:¬NY env C)(hCf:C∉Z.fr)(hCO:∀ yb∈O,yb.2≠C)(hs:Heap.SameBut C s.heap h')
  (hv:aK Z nm env σ.env O h'):hY Z nm env σ O { s with heap:=h' }∧bH Z env O₀ O s₀.heap h':=by
 have T:aM Z nm env [] (fun b=>b=C) s.heap h':=aM.of_but (fun b o hb e=>(hs.2 b hb).trans e) (fun e=>hw (.inl e.symm)) fun n c hk hc e=>hw (.inr ⟨n,hk,e▸hc⟩)
 refine⟨S.turn hnd (S.inv.same hCn hs (fun h=>absurd h hCf) s.toks) hv T fun y hy=>⟨hy,nofun⟩,?_⟩
 have ne:∀ b o,s₀.heap.get? b=some o→b≠C:=fun b o e e'=>by rw[e',hC]at e; cases e
 exact⟨fun b o e c hw ho=>(st.keep b o e c hw ho).then fun o' e'=>(hs.2 b (ne b o e)).trans e',fun b o e hn=>let⟨o',e'⟩:=st.live b o e hn; ⟨o',(hs.2 b (ne b o e)).trans e'⟩,st.newO,st.resv⟩
theorem aK.sameBut{env:Env}{ρ:aW}{O:List (Option Nat×Addr)}{h h':Heap}{C:Addr}(hE:aK Z nm env ρ O h)(hs:Heap.SameBut C h h')(hw:¬NY env C)(hCO:∀ yb∈O,yb.2≠C)(hns:∀ o vs n,h.get? C=some o→o.data ≠ .seq vs n):aK Z nm env ρ O h' :=
 have T:aM Z nm env [] (fun b=>b=C) h h':=aM.of_but (fun b o hb e=>(hs.2 b hb).trans e) (fun e=>hw (.inl e.symm)) fun n c hk hc e=>hw (.inr ⟨n,hk,e▸hc⟩)
 { hE with
  ns:=T.ns hE.ns
  live:=fun yb hy=>let⟨o,e,c⟩:=hE.live yb hy; ⟨o,(hs.2 _ (hCO yb hy)).trans e,c⟩
  cells:=fun n hk=>let⟨c,v,e,h2,h3⟩:=hE.cells n hk; let⟨v',h4⟩:=T.cells n c v hk e h3; ⟨c,v',e,h2,h4⟩
  vars:=fun y d n h1 h2 h3=>by
   obtain⟨v,as,a,r,hok,ho⟩:=hE.vars y d n h1 h2 h3
   refine⟨v,as,T.acc n v nofun a,T.rd hE r fun b hb e=>?_,hok,ho⟩
   obtain⟨o,vs,m,e',hd,_⟩:=r.objs b hb
   exact hns o vs m (e▸e') hd }
theorem uS{fuel:Nat}{x:Nat}{n:Str}{np pos cpos:Pos}{elt target iter:Expr}{ifs:List Expr}{gens:List Comprehension}{scope:Scope}{pe:PE}{t:Tg}{i:PI}{c:PO}{g:PG}{z:Bool}(hnd:nm.Nodup)(hx:nm[x]? = some n)(hk:iU sc n=true)
  (C:xY Z cl lvl nm sc scope elt target iter ifs gens cpos pe t i c g z) :
  zC Z cl lvl nm sc fuel (.Assign [.Name n np] (.ListComp elt (⟨target,iter,ifs,0⟩::gens) scope cpos) pos) (.assign x (.comp pe t i c g)):=fun{A env σ O s fl R E}X hd hR=>bY hd fun d hv e=>by
 subst e
 have S:=X.S
 have hR':BQ Z nm env O s (.next (BF σ x d (lose σ.own (dW d (.comp pe t i c g))) true)) R:=by rw[← gJ]; exact hR
 obtain⟨b,hsw⟩:∃ b,swapsWith (.ListComp elt (⟨target,iter,ifs,0⟩::gens) scope cpos) (some (.Name n np)) pos.line env=pure b:=⟨_,rfl⟩
 cases b with
 | false =>
  refine wpAny_Assign_Name ?_ hsw
  rw[eval_ListComp]
  refine tZ C X.cx hv fun acc C s₁ as I₁ k₁ r₁ ok₁ o₁ hC hacc hCn haccn⟨m,hm⟩=>⟨m,hm,fun h' hs'=>?_⟩
  refine rD S hnd hx (X.kind hk) (I₁.same hCn hs' (fun h=>absurd h (S.inv.notFr hC)) s₁.toks) ⟨fun b o e c=>(k₁.k b o e c).then fun o' e'=>(hs'.2 b fun e''=>by rw[e'',hC]at e; cases e).trans e'⟩ (r₁.map fun a o ha e _=>?_) ok₁ hacc haccn (lX r₁ o₁) fun s' S' st _=>hR' s' _ S' st
  obtain⟨o',xs,n',e',hv',_⟩:=r₁.objs a ha
  cases e.symm.trans e'
  exact(hs'.2 a fun e''=>fP hm (e''▸e) hv').trans e
 | true =>
  rw[exec_Assign_Name_used _ _ _ _ hsw]
  refine wpAny_bind (wpAny_standAt (wpAny_bind ?_))
  refine wpAny_bind (tZ (Q:=fun _ s'=>wpAny (model Z.prog Z.w) A (pure ():Sem Unit) (fun _ s''=>wpAny (model Z.prog Z.w) A (pure Flow.next:Sem Flow) R E s'') E s') (use:=some (assign (.Name n np) env)) C X.cx hv fun acc C s₁ as I₁ k₁ r₁ ok₁ o₁ hC hacc hCn haccn⟨m,hm⟩=>?_)
  show wpAny (model Z.prog Z.w) A (assign (.Name n np) env (.ref acc)) _ E s₁
  refine wpAny_assign_Name (rD S hnd hx (X.kind hk) I₁ k₁ r₁ ok₁ hacc haccn (lX r₁ o₁) fun s₂ S₂ st₂ T₂=>?_)
  have hw:¬NY env C:=VV S.eok hC
  have hm₂:s₂.heap.Ns C m:=by
   obtain⟨o,es,ep,e,hdd,r⟩:=hm
   obtain⟨o',e',_,hv'⟩:=(T₂.keep C o e (.inr hCn) (fun w=>hw w.all) id).ex
   exact⟨o',es,ep,e',hv'.trans hdd,r⟩
  refine⟨m,hm₂,fun h' hs'=>?_⟩
  have hCO:∀ yb∈(some x,acc)::bZ O (x::dW d (.comp pe t i c g)),yb.2≠C:=fun yb hy e=>(List.mem_cons.mp hy).elim (fun e'=>by
   obtain⟨o,vs,k,e'',hv',_⟩:=r₁.objs acc List.mem_cons_self
   exact fP hm ((show acc=C by rw[← e,e'])▸e'') hv') fun hy=>by
   obtain⟨o,e',_⟩:=S.eok.live yb (bQ.mp hy).1
   rw[e,hC]at e'; cases e'
  obtain⟨S₃,st₃⟩:=hY.letGo hnd S₂ st₂ hC hCn hw (S.inv.notFr hC) hCO hs' (S₂.eok.sameBut hs' hw hCO fun o vs n e hv=>fP hm₂ e hv)
  exact wpAny_pure (wpAny_pure (hR' _ _ S₃ st₃))
theorem HO{u v:Str}{t t':Tok}{d:PyData}{A:Around}{E:Value→Shared→Prop}{s:Shared}{Q:Value→Shared→Prop}(hx:bK (.str u)=true)(hy:bK (.str v)=true)(h:Z0 (u++v)=some d)(g:∀ t tk,∃ x,d = .str x∧(bK d=true→Q (.str x t) { s with toks:=tk })):wpAny (model Z.prog Z.w) A (inplaceOp .Add (.str u t) (.str v t')) Q E s:=by
 refine iY h fun hs e=>?_
 cases e
 have hok:=cE hx hy hs
 have g':∀ t tk,Q (.str (u++v) t) { s with toks:=tk }:=fun t tk=>by obtain⟨x,e,h⟩:=g t tk; cases e; exact h hok
 refine P.iadd_str ?_
 by_cases e1:(u.length==0)=true
 ·rw[if_pos e1]
  have:=g' t' s.toks
  rwa[show u++v=v by rw[tK (eq_of_beq e1)]; exact Str.empty_append v]at this
 ·rw[if_neg e1]
  by_cases e3:(v.length==0)=true
  ·rw[if_pos e3]
   have:=g' t s.toks
   rwa[qU (eq_of_beq e3)]at this
  ·rw[if_neg e3]
   exact⟨hs,g' _ _⟩
theorem oU{op:Operator}{a b d:PyData}{v w:Value}{as bs:List Addr}{A:Around}{E:Value→Shared→Prop}{s:Shared}{Q:Value→Shared→Prop}(ra:Rd s.heap v a as)(rb:Rd s.heap w b bs)(ha:bK a=true)(hb:bK b=true)(hfa:flat a=true)(hop:(op == .Add||op == .Sub)=true)(h:sB op a b=some d)
  (fin:∀ v' tk,(∀ h:Heap,Rd h v' d [])→bK d=true→Q v' { s with toks:=tk }):wpAny (model Z.prog Z.w) A (inplaceOp op v w) Q E s:=by
 have hop':=(Bool.or_eq_true_iff.mp hop).imp eq_of_beq eq_of_beq
 cases a with
 | int i =>
  exact H4 (m:=fun v=>wpAny _ A (inplaceOp op v w) Q E s) ra fun t=>nH (m:=fun w=>wpAny _ A (inplaceOp op _ w) Q E s) rb h fun j u h=>by
   rcases hop' with rfl | rfl <;> cases h
   ·exact P.iadd_int (fin _ _ (fun _=>.int _ _) rfl)
   ·exact P.isub_int (fin _ _ (fun _=>.int _ _) rfl)
 | str u =>
  obtain⟨t,rfl⟩:=eK ra
  exact f7 h fun v e h=>iY h fun ho h=>by
   subst e
   obtain⟨t',rfl⟩:=eK rb
   cases eq_of_beq ho
   have hd:∃ x,d = .str x:=iY h fun _ e=>⟨_,(Option.some.inj e).symm⟩
   obtain⟨x,rfl⟩:=hd
   exact HO ha hb h fun t tk=>⟨x,rfl,fun ok=>fin _ _ (fun _=>.str _ _) ok⟩
 | list=>cases hfa
 | _=>cases h
theorem UD{fuel:Nat}{x:Nat}{n:Str}{np pos:Pos}{op:Operator}{value:Expr}{p:PE}(hnd:nm.Nodup)(hx:nm[x]? = some n)(hk:iU sc n=true)(hcd:n≠("__classdict__" : Str))(h:SE Z cl lvl nm sc value p) :
  zC Z cl lvl nm sc fuel (.AugAssign (.Name n np) op value pos) (.aug x op p):=fun{A env σ O s fl R E}X hd hR=>aS hd fun a hl hd=>aS hd fun b hx' hd=>iY hd fun hc hd=>bY hd fun d hv e=>by
 subst e
 have S:=X.S
 have hk':=X.kind hk
 obtain⟨v,as,ac,r,hok,ho⟩:=S.eok.vars x a n hl hx (hk'.elim .inl fun h=>.inr (.inl h))
 refine wpAny_AugAssign_Name (ac.load S.eok.kind hcd (h X.cx hx' fun w bs s₁ I₁ k₁ r₁ ok₁ o₁=>?_))
 refine oU (k₁.rd r) r₁ hok ok₁ (aA (aA hc).1).1 (aA hc).2 hv fun v' tk r' ok'=>ET (es:=[]) (S.kp (I₁.tok tk) k₁) hnd hx hk' (r' _) ok' (fun _ _ h=>nomatch h) fun s' S' st _=>?_
 rw[show lose σ.own []=σ.own from List.filter_eq_self.mpr fun _ _=>rfl]at S'
 exact hR s' _ S' ((bH.kp k₁).trans st)
end
theorem oY{prog:Program}{w:World}{A:Around}{s:Shared}{R:Result→Shared→Prop}{tn:Str}{tp:Pos}{it:Value}{body:List Stmt}{env:Env}(I:Nat→Shared→Prop)
  (turn:∀ n s,I n s→wpAny (model prog w) A (pyNext it) (fun r s₁=>match r with
   | none=>R (.ok .next) s₁
   | some v=>wpAny (model prog w) A (assign (.Name tn tp) env v) (fun _ s₃=>wpAny (model prog w) A (execs body env) (fun f s₄=>match f with
     | .next | .cont=>∃ m,m<n∧I m s₄
     | .brk=>R (.ok .next) s₄
     | .ret v=>R (.ok (.ret v)) s₄) (notedBy (model prog w) A env fun e s'=>R (.error e) s') s₃) (notedBy (model prog w) A env fun e s'=>R (.error e) s') s₁) (notedBy (model prog w) A env fun e s'=>R (.error e) s') s)
  (n:Nat) (h:I n s):codeAny (model prog w) A (.forLoop (.Name tn tp) it body [] env) R s:=by
 refine codeAny_loop' rfl I (fun n s hI=>?_) n h
 show wpAny _ _ ((forTurn (.Name tn tp) it body [] env).onRaise (fun x=>do noteFrame x env; theTreesLotGoes x)) _ _ s
 refine wpAny_noted ?_
 simp only[forTurn]
 refine wpAny_bind (wpAny_standAt (wpAny_bind (wpAny_onRaise (wpAny_mono (turn n s hI) (fun r s₁ h₁=>?_) fun _ _ h'=>wpAny_standAt h'))))
 cases r with
 | none=>exact wpAny_pure (.inr ⟨rfl,codeAny_block (wpAny_execs_nil h₁)⟩)
 | some v =>
  refine wpAny_bind (wpAny_pure (wpAny_bind (wpAny_mono h₁ (fun _ s₃ h₃=>wpAny_bind (wpAny_mono h₃ (fun f s₄ h₄=>?_) fun _ _ h'=>h')) fun _ _ h'=>h')))
  cases f with
  | next=>exact wpAny_pure (.inl ⟨rfl,h₄⟩)
  | cont=>exact wpAny_pure (.inl ⟨rfl,h₄⟩)
  | brk=>exact wpAny_pure h₄
  | ret v=>exact wpAny_pure h₄
section
variable{Z:aF}{cl:Nat→List PyData→Option PyData}{lvl:Nat}{nm:List Str}{fn:List Str}{sc:Scope}
theorem uF{env:Env}{σ:eV}{O:List (Option Nat×Addr)}{s:Shared}{x:Nat}{n:Str}{b:Addr}{items items':Array Value}{c c':Nat}{sl sl':Array (Option Value)}{xs xs':List PyData}{bs bs':List Addr}{h':Heap}
  (S:hY Z nm env σ O s) (hnd:nm.Nodup) (hx:nm[x]? = some n) (hl:bB σ.env x=some (.list xs)) (hvis:WZ env n) (hacc:uZ env s.heap n (.ref b)) (h3:(some x,b)∈O) (hobj:s.heap.get? b=some { cls:=.type "list",dict:=none,data:=.seq items c,slots:=sl })
  (ra:aU s.heap items.toList xs bs) (hsb:Heap.SameBut b s.heap h') (hnew:h'.get? b=some { cls:=.type "list",dict:=none,data:=.seq items' c',slots:=sl' }) (ra':aU s.heap items'.toList xs' bs') (hnb:b∉bs') (hsub:∀ a∈bs',a∈bs∨∀ yb∈O,yb.2≠a) (hok:bK (.list xs')=true) :
  hY Z nm env ⟨σ.env.set x (some (.list xs')),σ.own⟩ O { s with heap:=h' }∧bH Z env O O s.heap h'∧uZ env h' n (.ref b)∧aU h' items'.toList xs' bs':=by
 obtain⟨hap1,hap2⟩:=S.eok.apart _ h3
 have hrd:Rd s.heap (.ref b) (.list xs) (b::bs):=.list hobj ⟨rfl,rfl⟩ rfl ra
 have hkeep:∀ c o,c≠b→s.heap.get? c=some o→h'.get? c=some o:=fun c o hc e=>(hsb.2 c hc).trans e
 have T:aM Z nm env [] (fun c=>c=b) s.heap h':=aM.of_but (fun c o hc e=>hkeep c o hc e) (fun e=>hap1 e.symm) fun m c hkc hc e=>hap2 m c hkc hc e.symm
 have ra2:aU h' items'.toList xs' bs':=ra'.map fun a o ha e _=>hkeep a o (fun e'=>hnb (e'▸ha)) e
 obtain⟨v0,as0,ac0,r0,ok0,ho0⟩:=S.eok.vars x _ n hl hx hvis
 cases ac0.uniq hacc
 cases(iV.same r0 hrd).2
 have hEn:aK Z nm env (σ.env.set x (some (.list xs'))) O h' :=
  { S.eok with
   ns:=T.ns S.eok.ns
   live:=fun yb hy=>by
    by_cases e:yb.2=b
    ·rw[e]; exact⟨_,hnew,nofun⟩
    ·obtain⟨o,e',c⟩:=S.eok.live yb hy
     exact⟨o,hkeep _ _ e e',c⟩
   cells:=fun m hm=>let⟨c,u,h1,h2,h3⟩:=S.eok.cells m hm; let⟨u',h4⟩:=T.cells m c u hm h1 h3; ⟨c,u',h1,h2,h4⟩
   vars:=fun y q m hy1 hy2 hy3=>by
    rcases l4 hy1 with⟨rfl,e⟩| ⟨hne,e⟩
    ·cases e
     cases hx.symm.trans hy2
     refine⟨.ref b,b::bs',T.acc _ _ nofun hacc,.list hnew ⟨rfl,rfl⟩ rfl ra2,hok,fun yb hyb hm=>(List.mem_cons.mp hm).elim (fun hm=>?_) fun hm=>(hsub _ hm).elim (fun hm=>ho0 yb hyb (List.mem_cons_of_mem _ hm)) fun h=>absurd rfl (h yb hyb)⟩
     exact⟨(ho0 yb hyb (by rw[hm]; exact List.mem_cons_self)).1,by rw[hm]; rfl⟩
    ·obtain⟨v',as',a',r',hd',ho'⟩:=S.eok.vars y q m e hy2 hy3
     exact⟨v',as',T.acc _ _ nofun a',T.rd S.eok r' fun a ha e=>hne (Option.some.inj (ho' _ h3 (e▸ha)).1).symm,hd',ho'⟩ }
 refine⟨⟨S.inv.same (S.high _ _ h3) hsb (fun h=>absurd h (S.inv.frNot hobj nofun)) s.toks,hEn,fun y hy=>let⟨m,c,g1,g2,g3⟩:=S.own y hy; ⟨m,c,g1,T.acc _ _ nofun g2,g3⟩,S.high⟩,⟨fun c o e hc hw hoo=>.inl (hkeep c o (fun e'=>hoo x (e'▸h3)) e),fun c o e hcn=>?_,fun y c hy=>.inl hy,fun _=>Iff.rfl⟩,T.acc _ _ nofun hacc,ra2⟩
 by_cases e':c=b
 ·rw[e']; exact⟨_,hnew⟩
 ·exact⟨o,hkeep c o e' e⟩
theorem UE{fuel:Nat}{x:Nat}{n:Str}{np apos cpos pos:Pos}{value:Expr}{p:PE}(hnd:nm.Nodup)(hx:nm[x]? = some n)(hk:iU sc n=true)(hdbg:n≠("__debug__" : Str))(hcd:n≠("__classdict__" : Str))(hline:(apos.endLine==cpos.line)=true)
  (hst:aC value=false) (h:SE Z cl lvl nm sc value p):zC Z cl lvl nm sc fuel (.Expr (.Call (.Attribute (.Name n np) "append" apos) [value] [] cpos) pos) (.app x p):=fun{A env σ O s fl R E}X hd hR =>
 iY hd fun hown hd=>aS hd fun q hl hd=>iK hd fun xs e hc=>aS hc fun d hx' hc=>by
 subst e
 have S:=X.S
 by_cases hesc:(!flat d&&(lG p).contains x)=true
 ·rw[if_pos hesc]at hc; cases hc
 rw[if_neg hesc]at hc
 refine bY hc fun l hl' e=>iY hl' fun hsz e'=>?_
 cases e'
 subst e
 have hvis:WZ env n:=(X.kind hk).elim .inl fun h=>.inr (.inl h)
 obtain⟨v,as,ac,r,hok,ho⟩:=S.eok.vars x _ n hl hx hvis
 obtain⟨n',b,h1,h2,h3⟩:=S.own x (List.contains_iff_mem.mp hown)
 cases hx.symm.trans h1
 cases ac.uniq h2
 obtain⟨b',items,k,sl,bs,e,hobj,ra,rfl⟩:=eT r
 cases e
 have hint:interactive env=false:=by unfold interactive; rw[S.eok.kind]; rfl
 have hpl:=aY hst
 refine wpAny_Expr (wpAny_Call_method_lateS (aQ rfl _ _ _) (jM hpl (Nat.le_of_ble_eq_true rfl)) hline ?_) hint rfl
 refine wpAny_Name (ac.load S.eok.kind hcd ?_) (beq_eq_false_iff_ne.mpr hdbg)
 refine⟨"list", "list.append",F.plainAttrs_list,slot_list_append,type_list_append,⟨_,hobj,rfl⟩,fun a e=>by cases e; exact⟨_,hobj,rfl⟩,?_⟩
 refine aT nofun (hpl.1 env cpos) (bT (hpl.2.1 nofun env cpos) ?_)
 rw[bI hst]
 refine Calls.spliced_cons (h X.cx hx' fun w cs s₁ I₁ k₁ r₁ ok₁ o₁=>Calls.spliced_nil ?_)
 have hobj₁:=(k₁.k _ _ hobj (.inl nofun)).seq rfl
 refine wpAny_call_entry slot_list_append ⟨_,hobj₁,rfl⟩ entry_list_append ?_ (args_list_append _ _)
 show wpAny _ _ (updateSeq b (·.push w) >>= fun _=>ret .none) _ _ s₁
 have hlenx:items.size=xs.length:=(Array.length_toList).symm.trans (aP ra)
 rw[List.length_append]at hsz
 have hsz1:items.size+1≤sizeLine:=hlenx▸hsz
 have hsz2:items.size≤sizeLine:=Nat.le_of_succ_le hsz1
 have hsz3:(items.push w).size≤sizeLine:=by rw[Array.size_push]; exact hsz1
 refine wpAny_bind (wpAny_updateSeq hobj₁ rfl (wpAny_pure ⟨.none,rfl,?_⟩))
 have S₁:=(S.kp I₁ k₁).lose (es:=dW d p) (own:=lose σ.own (dW d p)) fun y hy=>gU.mp hy
 have hxe:¬iX (some x) (dW d p):=fun⟨y,hy,e⟩=>by
  cases e
  unfold dW at hy
  cases hf:flat d
  ·rw[hf]at hy hesc; exact hesc (List.contains_iff_mem.mpr hy)
  ·rw[hf]at hy; cases hy
 have h3':(some x,b)∈bZ O (dW d p):=bQ.mpr ⟨h3,hxe⟩
 have hcs:∀ a∈cs,∀ yb∈bZ O (dW d p),yb.2≠a:=fun a ha yb hy e=>(bQ.mp hy).2 (lX r₁ o₁ yb (bQ.mp hy).1 (e▸ha))
 obtain⟨S₂,st₂,_⟩:=uF (items':=items.push w) (bs':=bs++(cs++[])) S₁ hnd hx hl hvis (h2.kp k₁ S.eok.new fun c hc hkc=>(S.eok.cellAt hkc hc).1) h3' hobj₁ (k₁.rd ra) (Heap.SameBut.update s₁.heap b (Obj.mapSeq (·.push w))) (Heap.get?_update_self (Obj.mapSeq (·.push w)) hobj₁ rfl)
  (by rw[Array.toList_push]; exact jZ (k₁.rd ra) (.cons r₁ .nil)) (fun hm=>(List.mem_append.mp hm).elim (r.apart rfl) fun hm=>hcs b (by rwa[List.append_nil]at hm) _ h3' rfl) (fun a ha=>(List.mem_append.mp ha).imp id fun ha=>hcs a (by rwa[List.append_nil]at ha))
  (zD (by rw[List.length_append]; exact hsz) (k8.mpr ⟨(rY hok).2,by rw[cL,ok₁]; rfl⟩))
 have hR':BQ Z nm env O s (.next ⟨σ.env.set x (some (.list (xs++[d]))),lose σ.own (dW d p)⟩) R:=by rw[← gJ]; exact hR
 exact hR' _ _ S₂ (((bH.kp k₁).trans (bH.drop _)).trans st₂)
noncomputable def qM(O₁ O:List (Option Nat×Addr)):List (Option Nat×Addr):=O₁.filter fun yb=>yb.1.isSome||decide (yb∈O)
theorem gH{O₁ O:List (Option Nat×Addr)}{yb:Option Nat×Addr}:yb∈qM O₁ O↔yb∈O₁∧(yb.1.isSome=true∨yb∈O):=by
 unfold qM
 rw[List.mem_filter,Bool.or_eq_true,decide_eq_true_eq]
structure cS(Z:aF)(env:Env)(O:List (Option Nat×Addr))(h:Heap)(O₀:List (Option Nat×Addr))(h₁:Heap)(O':List (Option Nat×Addr))(h':Heap):Prop where
 keep:∀ b o,h.get? b=some o→(o.cls ≠ .none∨Z.n≤b)→¬NY env b→(∀ y,(some y,b)∉O)→Sl h' b o
 live:∀ b o,h.get? b=some o→Z.n≤b→∃ o',h'.get? b=some o'
 live1:∀ b o,h₁.get? b=some o→Z.n≤b→∃ o',h'.get? b=some o'
 newO:∀ y b,(some y,b)∈O'→(some y,b)∈O₀∨(Z.n≤b∧h₁.get? b=none)
 resv:∀ a,(none,a)∈O'↔(none,a)∈O₀
section
variable{env:Env}{O O₀ O' O'':List (Option Nat×Addr)}{h h₁ h' h'':Heap}{I:Addr}
theorem cS.step(k:Kp Z.n h h₁)(hO:∀ y b,(some y,b)∈O₀→(some y,b)∈O)(L:cS Z env O h O₀ h₁ O' h')(st:bH Z env O' O'' h' h''):cS Z env O h O₀ h₁ O'' h'' where
 keep:=fun b o e c hw ho=>(L.keep b o e c hw ho).next fun o' e' hcc=>st.keep b o' e' (by rw[hcc]; exact c) hw fun y hy=>(L.newO y b hy).elim (fun h1=>ho y (hO y b h1)) fun h1=>let⟨_,e2,_⟩:=(k.k b o e c).ex; nomatch h1.2.symm.trans e2
 live:=fun b o e hn=>let⟨o',e'⟩:=L.live b o e hn; st.live b o' e' hn
 live1:=fun b o e hn=>let⟨o',e'⟩:=L.live1 b o e hn; st.live b o' e' hn
 newO:=fun y b hy=>(st.newO y b hy).elim (L.newO y b) fun⟨hn,h1⟩=>.inr ⟨hn,oF fun o e=>let⟨_,e'⟩:=L.live1 b o e hn; nomatch h1.symm.trans e'⟩
 resv:=fun a=>(st.resv a).trans (L.resv a)
theorem cS.next(L:cS Z env O h O₀ h₁ O' h')(hfresh:h.get? I=none)(kp:∀ b o,b≠I→h'.get? b=some o→h''.get? b=some o)(hl:∃ o,h''.get? I=some o):cS Z env O h O₀ h₁ O' h'' where
 keep:=fun b o e c hw ho=>(L.keep b o e c hw ho).then fun o' e'=>kp b o' (fun hm=>by rw[hm,hfresh]at e; cases e) e'
 live:=fun b o e hn=>let⟨o',e'⟩:=L.live b o e hn; ⟨o',kp b o' (fun hm=>by rw[hm,hfresh]at e; cases e) e'⟩
 live1:=fun b o e hn=>by
  obtain⟨o',e'⟩:=L.live1 b o e hn
  by_cases hm:b=I
  ·rw[hm]; exact hl
  ·exact⟨o',kp b o' hm e'⟩
 newO:=L.newO
 resv:=L.resv
theorem cS.exit(k:Kp Z.n h h₁)(hO:∀ y b,(some y,b)∈O₀→(some y,b)∈O)(hON:∀ a,(none,a)∈O→(none,a)∈O₀)(L:cS Z env O h O₀ h₁ O' h')(hfresh:h.get? I=none)(kp:∀ b o,b≠I→h'.get? b=some o→h''.get? b=some o) :
  bH Z env O (qM O' O) h h'' where
 keep:=fun b o e c hw ho=>(L.keep b o e c hw ho).then fun o' e'=>kp b o' (fun hm=>by rw[hm,hfresh]at e; cases e) e'
 live:=fun b o e hn=>let⟨o',e'⟩:=L.live b o e hn; ⟨o',kp b o' (fun hm=>by rw[hm,hfresh]at e; cases e) e'⟩
 newO:=fun y b hy=>(L.newO y b (gH.mp hy).1).imp (hO y b) fun⟨hn,h1⟩=>⟨hn,k.none hn h1⟩
 resv:=fun a=>gH.trans ⟨fun h=>h.2.resolve_left nofun,fun h=>⟨(L.resv a).mpr (hON a h),.inr h⟩⟩
end
theorem FK{A:Around}{env:Env}{σ:eV}{O:List (Option Nat×Addr)}{s:Shared}{tn:Str}{tp pos:Pos}{iter:Expr}{body:List Stmt}{x:Nat}{i:PI}{ds:List PyData}{R:Flow→Shared→Prop}{E:Value→Shared→Prop}(K:Nat→eV→List (Option Nat×Addr)→Shared→Prop)
  (X:Sx Z lvl nm sc A env σ O s) (hnd:nm.Nodup) (hx:nm[x]? = some tn) (hl:iU sc tn=true) (hset:iO iter=false) (hi:SI Z cl lvl nm sc iter i) (hds:zA cl i σ.env=some ds)
  (K0:∀ I s₁,bA Z s₁→Kp Z.n s.heap s₁.heap→K 0 ⟨σ.env,lose σ.own (eB i)⟩ (Kt.Internal.reserve I O (eB i)) s₁)
  (KI:∀ k σ' O' s₀ s₂ I,K k σ' O' s₀→(none,I)∈O'→(∀ y b,(some y,b)∈O'→b≠I)→hY Z nm env σ' O' s₂→(∀ b o,b≠I→s₀.heap.get? b=some o→s₂.heap.get? b=some o)→aM Z nm env [] (· = I) s₀.heap s₂.heap→K k σ' O' s₂)
  (turn:∀ k d σ' O' s₂ s₃,ds[k]? = some d→bK d=true→K k σ' O' s₂→Sx Z lvl nm sc A env ⟨σ'.env.set x (some d),lose σ'.own [x]⟩ (bZ O' [x]) s₃→aK Z nm env σ'.env O' s₂.heap→aM Z nm env [x] (fun _=>False) s₂.heap s₃.heap →
   (∀ O₄ h₄,bH Z env (bZ O' [x]) O₄ s₃.heap h₄→bH Z env O (qM O₄ O) s.heap h₄)→(∀ a,(none,a)∈O→(none,a)∈bZ O' [x]) →
   wpAny (model Z.prog Z.w) A (execs body env) (fun f s₄=>match f with
    | .next | .cont=>∃ σ'' O'',K (k+1) σ'' O'' s₄∧hY Z nm env σ'' O'' s₄∧bH Z env (bZ O' [x]) O'' s₃.heap s₄.heap
    | .brk=>R .next s₄
    | .ret v=>R (.ret v) s₄) (notedBy (model Z.prog Z.w) A env fun e s'=>cameBackBy (model Z.prog Z.w) A env E e s') s₃)
  (fin:∀ σ' O' s₀ s',K ds.length σ' O' s₀→hY Z nm env σ' (qM O' O) s'→bH Z env O (qM O' O) s.heap s'.heap→R .next s') :
  wpAny (model Z.prog Z.w) A (exec (.For (.Name tn tp) iter body [] pos) env) R E s:=by
 have S:=X.S
 refine wpAny_For (hi X.cx hds fun I used St s₁ Sr=>?_) (qA hset env)
 generalize hO₀e:Kt.Internal.reserve I O (eB i)=O₀
 have hIl:∃ o,s₁.heap.get? I=some o∧o.cls ≠ .none:=let⟨o,e,c,_⟩:=Sr.iter.live _ _ Sr.start; ⟨o,e,c⟩
 have some₀:∀ y b,(some y,b)∈O₀→(some y,b)∈O∧¬iX (some y) (eB i):=fun y b hy=>(k9 (hO₀e▸hy)).resolve_left nofun
 have S₁:hY Z nm env ⟨σ.env,lose σ.own (eB i)⟩ O₀ s₁:=⟨Sr.inv,hO₀e▸S.eok.reserve Sr.kp Sr.fresh hIl,fun y hy=>by
  obtain⟨h1,h2⟩:=gU.mp hy
  obtain⟨n,b,g1,g2,g3⟩:=(S.kp Sr.inv Sr.kp).own y h1
  exact⟨n,b,g1,g2,hO₀e▸(dK g3).resolve_right fun⟨z,hz,e⟩=>h2 (by cases e; exact hz)⟩,fun y b hy=>S.high y b (some₀ y b hy).1⟩
 have hON:∀ a,(none,a)∈O→(none,a)∈O₀:=fun a h=>hO₀e▸jY h
 have lab₀:∀ y b,(some y,b)∈O₀→b∉used∧b≠I:=fun y b hy=>⟨fun hm=>(some₀ y b hy).2 (Sr.own _ (some₀ y b hy).1 hm),fun e=>by obtain⟨o,e',_⟩:=S.eok.live _ (some₀ y b hy).1; rw[show(some y,b).2=I from e,Sr.fresh]at e'; cases e'⟩
 let Lp:List (Option Nat×Addr)→Heap→Prop:=cS Z env O s.heap O₀ s₁.heap
 have hIO:∀{O' h},Lp O' h→(none,I)∈O':=fun L=>(L.resv I).mpr (hO₀e▸List.mem_cons_self)
 have lab:∀{O' h},Lp O' h→∀ y b,(some y,b)∈O'→b∉used∧b≠I:=fun L y b hy=>by
  rcases L.newO y b hy with h | ⟨_,h⟩
  ·exact lab₀ y b h
  ·refine⟨fun hm=>?_,fun e=>?_⟩
   ·obtain⟨o,_,_,e,_⟩:=Sr.seq b hm; cases h.symm.trans e
   ·obtain⟨o,e',_⟩:=hIl; subst e; cases h.symm.trans e'
 have usO:∀{O' h},Lp O' h→∀ yb∈O',yb.2∉used:=fun{O' h}L yb hy hm=>by
  obtain⟨y,b⟩:=yb
  cases y with
  | some y=>exact(lab L y b hy).1 hm
  | none=>exact(k9 (hO₀e▸(L.resv b).mp hy)).elim (fun e=>by cases e; exact Sr.iter.apart hm) fun h=>let⟨_,_,e⟩:=Sr.own _ h.1 hm; nomatch e
 let J:Nat→Shared→Prop:=fun n s'=>∃ k σ' O',n=ds.length - k∧k≤ds.length∧St k s'.heap∧hY Z nm env σ' O' s'∧Lp O' s'.heap∧K k σ' O' s'∧m5 used s'.heap
 have L₀:Lp O₀ s₁.heap:=⟨fun b o e c _ _=>Sr.kp.k b o e c,fun b o e hn=>let⟨o',e',_⟩:=(Sr.kp.k b o e (.inr hn)).ex; ⟨o',e'⟩,fun b o e _=>⟨o,e⟩,fun _ _ h=>.inl h,fun _=>Iff.rfl⟩
 have hO₀:∀ y b,(some y,b)∈O₀→(some y,b)∈O:=fun y b h=>(some₀ y b h).1
 refine oY J (fun n s₀ hJ=>?_) ds.length ⟨0,_,O₀,rfl,Nat.zero_le _,Sr.start,S₁,L₀,hO₀e▸K0 I s₁ Sr.inv Sr.kp,⟨Sr.seq⟩⟩
 obtain⟨k,σ',O',rfl,hk,st₀,S₀,T₀,K₀,sq₀⟩:=hJ
 have hII:=hIO T₀
 have butI:∀{s₂:Shared},(∀ b o,b≠I→s₀.heap.get? b=some o→s₂.heap.get? b=some o)→aM Z nm env [] (· = I) s₀.heap s₂.heap:=fun kp=>S₀.eok.but hII kp
 rcases Nat.lt_or_ge k ds.length with hlt | hge
 ·have hdk:ds[k]? = some ds[k]:=List.getElem?_eq_getElem hlt
  refine Sr.iter.step k ds[k] s₀ _ _ hdk st₀ S₀.inv fun v bs s₂ I₂ kp₂ r₂ hbs st₂=>?_
  have TI:=butI kp₂
  have hIl₂:∃ o,s₂.heap.get? I=some o∧o.cls ≠ .none:=let⟨o,e,c,_⟩:=Sr.iter.live _ _ st₂; ⟨o,e,c⟩
  have E₂:aK Z nm env σ'.env O' s₂.heap:=S₀.eok.of_turned hnd TI nofun (fun yb _ hx=>hx▸hIl₂) fun b hb=>hb▸hII
  have S₂:hY Z nm env σ' O' s₂:=S₀.turn hnd I₂ E₂ TI fun y hy=>⟨hy,nofun⟩
  have L₂:Lp O' s₂.heap:=cS.next T₀ Sr.fresh kp₂ (let⟨o,e,_⟩:=hIl₂; ⟨o,e⟩)
  have K₂:=KI k σ' O' s₀ s₂ I K₀ hII (fun y b h=>(lab T₀ y b h).2) S₂ kp₂ TI
  have hXu:∀ b∈used,¬b=I:=fun b hb e=>Sr.iter.apart (e▸hb)
  have sq₂:=(sq₀.turn S₀.eok TI hXu).2
  have S₂':hY Z nm env ⟨σ'.env,lose σ'.own [x]⟩ (bZ O' [x]) s₂:=S₂.lose fun y hy=>gU.mp hy
  have L₂':Lp (bZ O' [x]) s₂.heap:=cS.step Sr.kp hO₀ L₂ (bH.drop [x])
  refine l7 hnd hx hl X.hs X.hf S₂'.eok I₂ r₂ (oE Sr.ok hdk) (fun yb hy hm=>usO L₂' yb hy (hbs _ hm)) fun s₃ I₃ E₃ T₃=>?_
  have st₃:bH Z env (bZ O' [x]) (bZ O' [x]) s₂.heap s₃.heap:=bH.turned S₂'.eok T₃
  have S₃:hY Z nm env ⟨σ'.env.set x (some ds[k]),lose σ'.own [x]⟩ (bZ O' [x]) s₃:=S₂'.turn hnd I₃ E₃ T₃ fun y hy=>⟨hy,(gU.mp hy).2⟩
  have L₃:Lp (bZ O' [x]) s₃.heap:=cS.step Sr.kp hO₀ L₂' st₃
  refine wpAny_mono (turn k ds[k] σ' O' s₂ s₃ hdk (oE Sr.ok hdk) K₂ (X.go S₃) E₂ T₃ (fun O₄ h₄ st₄=>cS.exit Sr.kp hO₀ hON (cS.step Sr.kp hO₀ L₃ st₄) Sr.fresh fun b o _ e=>e) fun a ha=>(L₃.resv a).mpr (hON a ha)) (fun f s₄ h₄=>?_) fun _ _ h=>h
  have next:(∃ σ'' O'',K (k+1) σ'' O'' s₄∧hY Z nm env σ'' O'' s₄∧bH Z env (bZ O' [x]) O'' s₃.heap s₄.heap)→∃ m,m<ds.length - k∧J m s₄:=fun⟨σ₄,O₄,K₄,S₄,st₄⟩=>by
   have st₂₄:bH Z env (bZ O' [x]) O₄ s₂.heap s₄.heap:=st₃.trans st₄
   have hu:∀ b∈used,∀ o,s₂.heap.get? b=some o→s₄.heap.get? b=some o:=fun b hb o e=>by
    obtain⟨o',vs,n,e',hd,hc⟩:=sq₂.at_ b hb
    cases e.symm.trans e'
    exact(st₂₄.keep b o e (.inl hc) (HA S₂'.eok e hd) fun y hy=>(lab L₂' y b hy).1 hb).seq hd
   have hI₄:∀ o,s₂.heap.get? I=some o→s₄.heap.get? I=some o:=fun o e=>by
    obtain⟨o',e',c,nd⟩:=Sr.iter.live _ _ st₂
    cases e.symm.trans e'
    exact(st₂₄.keep I o e (.inl c) (QE S₂.eok (yb:=(none,I)) hII) fun y hy=>(lab L₂' y I hy).2 rfl).nd nd
   exact⟨ds.length - (k+1),Nat.sub_lt_sub_left hlt (Nat.lt_succ_self k),k+1,σ₄,O₄,rfl,hlt,Sr.iter.frame _ _ _ st₂ fun b hb o e=>hb.elim (fun hb=>by subst hb; exact hI₄ o e) fun hb=>hu b hb o e,S₄,cS.step Sr.kp hO₀ L₃ st₄,K₄,⟨fun b hb=>let⟨o',vs,n,e',r⟩:=sq₂.at_ b hb; ⟨o',vs,n,hu b hb o' e',r⟩⟩⟩
  cases f with
  | next=>exact next h₄
  | cont=>exact next h₄
  | brk=>exact h₄
  | ret v=>exact h₄
 ·cases Nat.le_antisymm hk hge
  refine Sr.iter.done s₀ _ _ st₀ S₀.inv fun s₂ I₂ kp₂=>?_
  have TI:=butI kp₂
  have E₂:aK Z nm env σ'.env (qM O' O) s₂.heap:=S₀.eok.of_turned' (fun yb hy=>(gH.mp hy).1) hnd TI nofun (fun yb hy hx=>by
   exfalso
   obtain⟨h1,h2⟩:=gH.mp hy
   obtain⟨y,b⟩:=yb
   rcases h2 with h2 | h2
   ·cases y with
    | none=>cases h2
    | some y=>exact(lab T₀ y b h1).2 hx
   ·obtain⟨o,e,_⟩:=S.eok.live _ h2
    rw[show(y,b).2=I from hx,Sr.fresh]at e; cases e) fun b hb=>hb▸hII
  exact fin σ' O' s₀ s₂ K₀ ⟨I₂,E₂,fun y hy=>let⟨n,b,g1,g2,g3⟩:=S₀.own y hy; ⟨n,b,g1,TI.acc n _ nofun g2,gH.mpr ⟨g3,.inl rfl⟩⟩,fun y b hy=>S₀.high y b (gH.mp hy).1⟩ (cS.exit Sr.kp hO₀ hON T₀ Sr.fresh kp₂)
theorem UC{fuel:Nat}{tn:Str}{tp pos:Pos}{iter:Expr}{body:List Stmt}{x:Nat}{i:PI}{ps:pB}(hnd:nm.Nodup)(hx:nm[x]? = some tn)(hl:iU sc tn=true)(hset:iO iter=false)(hi:SI Z cl lvl nm sc iter i)(hb:SX Z cl lvl nm sc fuel body ps) :
  zC Z cl lvl nm sc fuel (.For (.Name tn tp) iter body [] pos) (.for_ (.one x) i ps):=fun{A env σ O s fl R E}X hd hR=>aS hd fun ds hds hd=>by
 let bindP:PyData→eV→Option eV:=fun d τ=>(iC (.one x) d τ.env).map fun ρ=>{ env:=ρ,own:=lose τ.own (b0 (.one x)) }
 refine FK (fun k σ' _ _=>fX (dO cl fuel ps) bindP (ds.drop k) σ'=some fl) X hnd hx hl hset hi hds (fun _ _ _ _=>hd) (fun k σ' O' s₀ s₂ I h _ _ _ _ _=>h) (fun k d σ' O' s₂ s₃ hdk _ hk X₃ _ _ out rsv=>?_) fun σ' O' s₀ s' hk S' st=>?_
 ·obtain⟨hlt,e⟩:=List.getElem?_eq_some_iff.mp hdk
  rw[List.drop_eq_getElem_cons hlt,e]at hk
  refine aS (o:=dO cl fuel ps ⟨σ'.env.set x (some d),lose σ'.own [x]⟩) hk fun f hbody hk=>hb X₃ hbody ?_
  cases f with
  | next σ₄=>exact fun s₄ O₄ S₄ st₄=>⟨σ₄,O₄,hk,S₄,st₄⟩
  | ret v=>cases hk; exact fun w as s₄ O₄ I₄ r₄ ok₄ hr₄ st₄=>hR w as s₄ (qM O₄ O) I₄ r₄ ok₄ (fun a ha=>hr₄ a (rsv a ha)) (out _ _ st₄)
 ·rw[List.drop_length]at hk
  cases hk
  exact hR s' _ S' st
end
theorem y3(t value:Expr)(pos:Pos)(env:Env)(hs:swapsWith value (some t) pos.line env=pure false):exec (.Assign [t] value pos) env=(do
  standAt pos
  let v ← eval value env
  assignStores env v (← swappedStores [t] value env) ((assignEach [t] env).map (·.2))):=by
 have e:exec (.Assign [t] value pos) env=(do
  standAt pos
  if ← swapsWith value (some t) pos.line env then do
   evalThenUse value env fun v=>assignAll v ((assignEach [t] env).map (·.2))
   pure .next
  else do
   let v ← eval value env
   assignStores env v (← swappedStores [t] value env) ((assignEach [t] env).map (·.2))):=rfl
 rw[e,hs]; rfl
theorem A1(n m:Str)(p1 p2:Pos)(k:Nat)(tp:Pos)(ea eb:Expr)(k':Nat)(vp:Pos)(env:Env)(hcon:(!([ea,eb].all (foldedForSure 8))&&[ea,eb].all (constantsAlone 8))=false) :
  ∃ r,swappedStores [.Tuple [.Name n p1,.Name m p2] k tp] (.Tuple [ea,eb] k' vp) env=pure r∧(r=none∨r=some [n,m]):=by
 have key:∀(c1 c2:Bool)(names:List Str),(names.length=2→names=[n,m]) →
   ∃ r,(if c1=true then(pure none:Sem (Option (List Str)))else if c2=true then pure none else if(names.length != 2||names.eraseDups.length != names.length)=true then pure none else
    if([ea,eb].all (foldedForSure 8))=true then pure none else if([ea,eb].all (constantsAlone 8))=true then unsupported "assign.tuple-of-constant-expressions:order-of-the-stores" else pure (some names))=pure r∧(r=none∨r=some [n,m]):=fun c1 c2 names hn=>by
  by_cases h1:c1=true
  ·exact⟨none,if_pos h1,.inl rfl⟩
  by_cases h2:c2=true
  ·exact⟨none,by rw[if_neg h1,if_pos h2],.inl rfl⟩
  by_cases h3:(names.length != 2||names.eraseDups.length != names.length)=true
  ·exact⟨none,by rw[if_neg h1,if_neg h2,if_pos h3],.inl rfl⟩
  by_cases h4:([ea,eb].all (foldedForSure 8))=true
  ·exact⟨none,by rw[if_neg h1,if_neg h2,if_neg h3,if_pos h4],.inl rfl⟩
  by_cases h5:([ea,eb].all (constantsAlone 8))=true
  ·rw[h5,Bool.eq_false_iff.mpr h4]at hcon; cases hcon
  refine⟨some names,by rw[if_neg h1,if_neg h2,if_neg h3,if_neg h4,if_neg h5],.inr (congrArg some (hn ?_))⟩
  cases hl:names.length != 2
  ·exact bne_eq_false_iff_eq.mp hl
  ·rw[hl]at h3; exact absurd rfl h3
 refine key _ _ _ fun h5=>?_
 revert h5
 show(List.filterMap _ [Expr.Name n p1,Expr.Name m p2]).length=2→List.filterMap _ [Expr.Name n p1,Expr.Name m p2]=[n,m]
 rw[List.filterMap_cons,List.filterMap_cons,List.filterMap_nil]
 dsimp only
 generalize (env.kindOf n==some .local&&_)=c
 generalize (env.kindOf m==some .local&&_)=d
 cases c <;> cases d <;> first | exact fun _=>rfl | exact fun h=>nomatch h
def Dd(M:Model)(A:Around)(E:Value→Shared→Prop)(env:Env)(n m:Str)(R:Flow→Shared→Prop)(v1 v2:Value)(s:Shared):Prop:=∀ h':Heap,(∀ c o,s.heap.get? c=some o→h'.get? c=some o) →
 wpAny M A (storeName env n v1) (fun _ s₄=>wpAny M A (storeName env m v2) (fun _ s₅=>R .next s₅) E s₄) E { s with heap:=h' } ∧
 wpAny M A (storeName env m v2) (fun _ s₄=>wpAny M A (storeName env n v1) (fun _ s₅=>R .next s₅) E s₄) E { s with heap:=h' }
theorem lC{prog:Program}{W:World}{A:Around}{E:Value→Shared→Prop}{env:Env}{R:Flow→Shared→Prop}{n m:Str}{p1 p2 tp vp pos:Pos}{k k':Nat}{ea eb:Expr}{s:Shared}(hA:A.handled=none)
  (hsa:aC ea=false) (hsb:aC eb=false) (hcon:(!([ea,eb].all (foldedForSure 8))&&[ea,eb].all (constantsAlone 8))=false)
  (h:wpAny (model prog W) A (eval ea env) (fun v1 s₁=>wpAny (model prog W) A (eval eb env) (fun v2 s₂=>Dd (model prog W) A E env n m R v1 v2 s₂) E s₁) E s) :
  wpAny (model prog W) A (exec (.Assign [.Tuple [.Name n p1,.Name m p2] k tp] (.Tuple [ea,eb] k' vp) pos) env) R E s:=by
 rw[y3 _ _ _ _ rfl]
 refine wpAny_bind (wpAny_standAt (wpAny_bind ?_))
 rw[arm_eval_Tuple,bI hsa,bI hsb]
 refine wpAny_bind (wpAny_standAt (wpAny_bind (Calls.spliced_cons (wpAny_mono h (fun v1 s₁ h=>Calls.spliced_cons (wpAny_mono h (fun v2 s₂ go=>Calls.spliced_nil (wpAny_newObj_type ?_ (Nat.le_of_ble_eq_true rfl))) fun _ _ e=>e)) fun _ _ e=>e))))
 have htup:(s₂.heap.push { cls:=.type "tuple",data:=.seq [v1,v2].toArray }).IsTuple s₂.heap.objs.size #[v1,v2]:=⟨_,Heap.get?_push_size _ rfl,rfl,_,rfl⟩
 have keep:∀{h':Heap},Heap.ExtBut (s₂.heap.push { cls:=.type "tuple",data:=.seq [v1,v2].toArray }).objs.size (s₂.heap.push { cls:=.type "tuple",data:=.seq [v1,v2].toArray }) h'→∀ c o,s₂.heap.get? c=some o→h'.get? c=some o:=fun he c o e=>let e:=Heap.get?_push_of_some _ e; he c o (fun e'=>Nat.lt_irrefl _ (e'▸Heap.lt_size e)) e
 obtain⟨r,hsw,hr⟩:=A1 n m p1 p2 k tp ea eb k' vp env hcon
 rw[hsw]
 refine wpAny_bind (wpAny_pure ?_)
 rcases hr with rfl | rfl
 ·show wpAny _ A (do assignAll (.ref s₂.heap.objs.size) [assign (.Tuple [.Name n p1,.Name m p2] k tp) env]; pure .next) R E _
  refine wpAny_bind ?_
  show wpAny _ A (assign (.Tuple [.Name n p1,.Name m p2] k tp) env (.ref s₂.heap.objs.size)) _ E _
  rw[arm_assign_Tuple]
  refine wpAny_bind (wpAny_standAt (wpAny_unpack_tuple hA htup rfl rfl fun h' he=>?_))
  exact wpAny_assignInOrder_more (wpAny_assign_Name (wpAny_mono (go h' (keep he)).1 (fun _ s₄ h4=>wpAny_assignInOrder_more (wpAny_assign_Name (wpAny_mono h4 (fun _ s₅ h5=>wpAny_assignInOrder_none (wpAny_pure h5)) fun _ _ e=>e))) fun _ _ e=>e))
 ·show wpAny _ A (do
    rule "assign.swapped-stores"
    let items ← unpackItems (.ref s₂.heap.objs.size) (#[v1,v2]:Array Value).size none
    assignInOrder ([n,m].reverse.map fun n=>bindName env n) items.reverse
    pure .next) R E _
  refine wpAny_bind (wpAny_rule (wpAny_bind (wpAny_unpackItems_tuple hA htup (Q:=fun items s'=>wpAny (model prog W) A (assignInOrder ([n,m].reverse.map fun n=>bindName env n) items.reverse >>= fun _=>pure Flow.next) R E s') fun h' he=>wpAny_bind ?_)))
  show wpAny _ A (assignInOrder [bindName env m,bindName env n] [v2,v1]) _ E _
  exact wpAny_assignInOrder_more (wpAny_bindName (wpAny_mono (go h' (keep he)).2 (fun _ s₄ h4=>wpAny_assignInOrder_more (wpAny_bindName (wpAny_mono h4 (fun _ s₅ h5=>wpAny_assignInOrder_none (wpAny_pure h5)) fun _ _ e=>e))) fun _ _ e=>e))
section
variable{Z:aF}{cl:Nat→List PyData→Option PyData}{lvl:Nat}{nm:List Str}{fn:List Str}{sc:Scope}
theorem W5{M:Model}{A:Around}{E:Value→Shared→Prop}{Q:Unit→Shared→Prop}{env:Env}{σ:eV}{O:List (Option Nat×Addr)}{s:Shared}{x y:Nat}{n m:Str}{v1 v2:Value}{d1 d2:PyData}{as1 as2:List Addr}{own':List Nat}(S:hY Z nm env σ O s)(hnd:nm.Nodup)
  (hx:nm[x]? = some n) (hy:nm[y]? = some m) (hk1:env.kindOf n=some .local∨env.kindOf n=some .cell) (hk2:env.kindOf m=some .local∨env.kindOf m=some .cell) (r1:Rd s.heap v1 d1 as1) (r2:Rd s.heap v2 d2 as2) (hd1:bK d1=true) (hd2:bK d2=true)
  (ho1:∀ yb∈O,yb.2∉as1) (ho2:∀ yb∈O,yb.2∉as2) (hown:∀ z∈own',z≠x∧z≠y∧z∈σ.own)
  (hQ:∀ s',hY Z nm env ⟨(σ.env.set x (some d1)).set y (some d2),own'⟩ O s'→bH Z env O O s.heap s'.heap→Q () s'):wpAny M A (storeName env n v1) (fun _ s₁=>wpAny M A (storeName env m v2) Q E s₁) E s :=
 RE S hnd hx hk1 r1 hd1 (fun yb hy hm=>absurd hm (ho1 yb hy)) (own':=own') (fun z hz=>.inl ⟨(hown z hz).1,(hown z hz).2.2⟩) fun s₁ S₁ st₁ T₁ =>
  RE S₁ hnd hy hk2 (T₁.rd S.eok r2 fun _ _=>id) hd2 (fun yb hy hm=>absurd hm (ho2 yb hy)) (own':=own') (fun z hz=>.inl ⟨(hown z hz).2.1,hz⟩) fun s₂ S₂ st₂ _=>hQ s₂ S₂ (st₁.trans st₂)
theorem C0{fuel:Nat}{x y:Nat}{n m:Str}{p1 p2 tp vp pos:Pos}{k k':Nat}{ea eb:Expr}{a b:PE}(hnd:nm.Nodup)(hxy:x≠y)(hx:nm[x]? = some n)(hy:nm[y]? = some m)(hk1:iU sc n=true)
  (hk2:iU sc m=true) (hsa:aC ea=false) (hsb:aC eb=false) (hcon:(!([ea,eb].all (foldedForSure 8))&&[ea,eb].all (constantsAlone 8))=false) (hna:u6 a b=false) (ha:SE Z cl lvl nm sc ea a) (hb:SE Z cl lvl nm sc eb b) :
  zC Z cl lvl nm sc fuel (.Assign [.Tuple [.Name n p1,.Name m p2] k tp] (.Tuple [ea,eb] k' vp) pos) (.assign2 x y a b):=fun{A env σ O s fl R E}X hd hR=>aS hd fun d1 hxa hd=>bY hd fun d2 hxb e=>by
 subst e
 have S:=X.S
 refine lC X.ha.handled hsa hsb hcon (ha X.cx hxa fun v1 as1 s₁ I₁ k₁ r₁ ok₁ o₁=>hb (X.cx.kp k₁ I₁) hxb fun v2 as2 s₂ I₂ k₂ r₂ ok₂ o₂ h' hk2'=>?_)
 have k₁₂:=k₁.trans k₂
 have kf:Kp Z.n s₂.heap h':=Kp.of hk2'
 have S4:=(S.kp (I₂.full (h':=h') (tk:=s₂.toks) hk2') (k₁₂.trans kf)).lose (es:=x::y::(dW d1 a++dW d2 b)) (own:=((lose (lose σ.own (dW d1 a)) (dW d2 b)).filter (· != x)).filter (· != y)) fun z hz=>by
  obtain⟨hz,h1⟩:=List.mem_filter.mp hz
  obtain⟨hz,h2⟩:=List.mem_filter.mp hz
  obtain⟨hz,h3⟩:=gU.mp hz
  obtain⟨hz,h4⟩:=gU.mp hz
  exact⟨hz,fun h=>(List.mem_cons.mp h).elim (bne_iff_ne.mp h2) fun h=>(List.mem_cons.mp h).elim (bne_iff_ne.mp h1) fun h=>(List.mem_append.mp h).elim h4 h3⟩
 have st4:=(bH.kp (env:=env) (O:=O) (k₁₂.trans kf)).trans (bH.drop (x::y::(dW d1 a++dW d2 b)))
 have av:∀{es:List Nat}{as:List Addr},(∀ yb∈O,yb.2∈as→iX yb.1 es)→(∀ z∈es,z∈x::y::(dW d1 a++dW d2 b))→∀ yb∈bZ O (x::y::(dW d1 a++dW d2 b)),yb.2∉as:=fun ho hs yb hy hm=>let⟨h1,h2⟩:=bQ.mp hy; let⟨z,hz,e⟩:=ho yb h1 hm; h2 ⟨z,hs z hz,e⟩
 have a1:=av (lX r₁ o₁) fun z hz=>List.mem_cons_of_mem _ (List.mem_cons_of_mem _ (List.mem_append_left _ hz))
 have a2:=av (lX r₂ o₂) fun z hz=>List.mem_cons_of_mem _ (List.mem_cons_of_mem _ (List.mem_append_right _ hz))
 have hown:∀ z∈((lose (lose σ.own (dW d1 a)) (dW d2 b)).filter (· != x)).filter (· != y),z≠x∧z≠y∧z∈((lose (lose σ.own (dW d1 a)) (dW d2 b)).filter (· != x)).filter (· != y):=fun z hz=>⟨bne_iff_ne.mp (List.mem_filter.mp (List.mem_filter.mp hz).1).2,bne_iff_ne.mp (List.mem_filter.mp hz).2,hz⟩
 have key:∀ s',hY Z nm env ⟨(σ.env.set x (some d1)).set y (some d2),((lose (lose σ.own (dW d1 a)) (dW d2 b)).filter (· != x)).filter (· != y)⟩ (bZ O (x::y::(dW d1 a++dW d2 b))) s'→bH Z env O (bZ O (x::y::(dW d1 a++dW d2 b))) s.heap s'.heap→R .next s':=fun s' S' st=>by
  rw[hna,gJ,gJ]at hR
  exact hR s' _ S' st
 exact⟨W5 S4 hnd hx hy (X.kind hk1) (X.kind hk2) (kf.rd (k₂.rd r₁)) (kf.rd r₂) ok₁ ok₂ a1 a2 hown fun s' S' st'=>key s' S' (st4.trans st'),
  W5 S4 hnd hy hx (X.kind hk2) (X.kind hk1) (kf.rd r₂) (kf.rd (k₂.rd r₁)) ok₂ ok₁ a2 a1 (fun z hz=>⟨(hown z hz).2.1,(hown z hz).1,hz⟩) fun s' S' st'=>key s' (List.set_comm _ _ (Ne.symm hxy)▸S') (st4.trans st')⟩
theorem A0{fuel:Nat}{x y:Nat}{n m:Str}{p1 p2 tp vp lp pos:Pos}{k k':Nat}{eb:Expr}{b:PE}(hnd:nm.Nodup)(hxy:x≠y)(hx:nm[x]? = some n)(hy:nm[y]? = some m)(hk1:iU sc n=true)
  (hk2:iU sc m=true) (hsb:aC eb=false) (hcon:(!([.List [] lp,eb].all (foldedForSure 8))&&[.List [] lp,eb].all (constantsAlone 8))=false) (hfb:SL b=true) (hfl:∀{ρ d},aH cl b ρ=some d→flat d=true) (hb:SE Z cl lvl nm sc eb b) :
  zC Z cl lvl nm sc fuel (.Assign [.Tuple [.Name n p1,.Name m p2] k tp] (.Tuple [.List [] lp,eb] k' vp) pos) (.assign2 x y (.list .nil) b):=fun{A env σ O s fl R E}X hd hR=>bY (o:=aH cl b σ.env) hd fun d2 hxb e=>by
 subst e
 have S:=X.S
 refine lC X.ha.handled rfl hsb hcon ?_
 rw[arm_eval_List]
 refine wpAny_bind (wpAny_standAt (wpAny_bind (yD (cl:=cl) X.cx rfl fun vs as s₁ I₁ k₁ r₁ ok₁ o₁=>?_)))
 cases r₁
 have hsz:Z.n≤s₁.heap.objs.size:=(S.eok.kp k₁).size
 refine wpAny_newList ?_ (by decide)
 have kp₁:=k₁.trans (Kp.push Z.n s₁.heap { cls:=.type "list",data:=.seq (List.toArray ([]:List Value)) })
 refine hb (X.cx.kp kp₁ (I₁.push _ _)) hxb fun v2 as2 s₂ I₂ k₂ r₂ ok₂ o₂ h' hk'=>?_
 cases yE r₂ (hfl hxb)
 have kf:Kp Z.n s₂.heap h':=Kp.of hk'
 have hl:Sl h' s₁.heap.objs.size { cls:=.type "list",data:=.seq (List.toArray ([]:List Value)) }:=(k₂.trans kf).k _ _ (Heap.get?_push_size _ rfl) (.inl nofun)
 obtain⟨S₁,st⟩:=FA (x:=x) (es:=[]) S (I₂.full (h':=h') (tk:=s₂.toks) hk') (kp₁.trans (k₂.trans kf)) ⟨_,hl.seq rfl,nofun⟩ (k₁.none hsz (get?_ge (Nat.le_refl _))) hsz
 have rl:Rd h' (.ref s₁.heap.objs.size) (.list []) [s₁.heap.objs.size]:=.list (hl.seq rfl) ⟨rfl,rfl⟩ rfl .nil
 have ho:∀ yb∈(some x,s₁.heap.objs.size)::bZ O [x],yb.2∈[s₁.heap.objs.size]→yb.1=some x∧[s₁.heap.objs.size].head? = some yb.2:=fun yb hy hm=>(List.mem_cons.mp hy).elim (fun e=>by rw[e]; exact⟨rfl,rfl⟩) fun hy=>by
  obtain⟨o,e,_⟩:=S.eok.live yb (bQ.mp hy).1
  rw[List.mem_singleton.mp hm,k₁.none hsz (get?_ge (Nat.le_refl _))]at e
  cases e
 have own2:∀ z∈(x::(lose σ.own []).filter (· != x)).filter (· != y),z≠y∧z∈x::(lose σ.own []).filter (· != x):=fun z hz=>⟨bne_iff_ne.mp (List.mem_filter.mp hz).2,(List.mem_filter.mp hz).1⟩
 have fin:∀ s',hY Z nm env ⟨(σ.env.set x (some (.list []))).set y (some d2),(x::(lose σ.own []).filter (· != x)).filter (· != y)⟩ ((some x,s₁.heap.objs.size)::bZ O [x]) s'→bH Z env O ((some x,s₁.heap.objs.size)::bZ O [x]) s.heap s'.heap→R .next s':=fun s' S' st=>by
  have e:b5 (b5 σ.own (.list []) (.list .nil)) d2 b=lose σ.own []:=by
   rw[b5,if_pos (hfl hxb)]
   rfl
  rw[e,show u6 (.list .nil) b=true from hfb]at hR
  exact hR s' _ S' st
 refine⟨RE S₁ hnd hx (X.kind hk1) rl rfl ho (own':=x::(lose σ.own []).filter (· != x)) (fun z hz=>(List.mem_cons.mp hz).elim (fun e=>.inr ⟨e,_,rfl,.head _⟩) fun hz=>.inl ⟨bne_iff_ne.mp (List.mem_filter.mp hz).2,hz⟩) fun s₃ S₃ st₃ T₃ =>
   RE S₃ hnd hy (X.kind hk2) (T₃.rd S₁.eok (kf.rd r₂) nofun) ok₂ nofun (own':=(x::(lose σ.own []).filter (· != x)).filter (· != y)) (fun z hz=>.inl (own2 z hz)) fun s₄ S₄ st₄ _=>fin s₄ S₄ ((st.trans st₃).trans st₄),
  RE S₁ hnd hy (X.kind hk2) (kf.rd r₂) ok₂ nofun (own':=((lose σ.own []).filter (· != x)).filter (· != y)) (fun z hz=>.inl ⟨bne_iff_ne.mp (List.mem_filter.mp hz).2,(List.mem_filter.mp hz).1⟩) fun s₃ S₃ st₃ T₃ =>
   RE S₃ hnd hx (X.kind hk1) (T₃.rd S₁.eok rl fun _ _=>id) rfl ho (own':=(x::(lose σ.own []).filter (· != x)).filter (· != y)) (fun z hz=>(List.mem_cons.mp (own2 z hz).2).elim (fun e=>.inr ⟨e,_,rfl,.head _⟩) fun h=>.inl ⟨bne_iff_ne.mp (List.mem_filter.mp h).2,List.mem_filter.mpr ⟨h,bne_iff_ne.mpr (own2 z hz).1⟩⟩) fun s₄ S₄ st₄ _=>fin s₄ (List.set_comm _ _ (Ne.symm hxy)▸S₄) ((st.trans st₃).trans st₄)⟩
end
section
variable(fn:List Str)(nm:List Str)
mutual
noncomputable def IH(sc:Scope):PS→Stmt→Bool
 | .assign x e,st=>cP st fun ts v _=>gK ts fun t=>aX t fun n _=>nm[x]? == some n&&(iU sc n&&((!gQ v||vR e)&&cR fn nm sc e v))
 | .assign2 x y a b,st=>cP st fun ts v _=>gK ts fun t=>gA t fun ns _ _=>jJ ns fun t1 r=>gK r fun t2=>aX t1 fun n _=>aX t2 fun m _=>gA v fun es _ _=>jJ es fun ea r=>gK r fun eb =>
   x != y&&(nm[x]? == some n&&(nm[y]? == some m&&(iU sc n&&(iU sc m&&(!aC ea&&(!aC eb&&(!(!([ea,eb].all (foldedForSure 8))&&[ea,eb].all (constantsAlone 8))&&(cR fn nm sc a ea&&cR fn nm sc b eb))))))))
 | .aug x op e,st=>dC st fun t o v _=>o==op&&aX t fun n _=>nm[x]? == some n&&(iU sc n&&(n != ("__classdict__" : Str)&&cR fn nm sc e v))
 | .app x e,st=>i9 st fun c _=>dY c fun f as ks cpos=>ks.isEmpty&&bM f fun o an apos=>an==("append" : Str)&&aX o fun n _=>gK as fun v=>nm[x]? == some n&&(iU sc n&&(n != ("__debug__" : Str)&&(n != ("__classdict__" : Str)&&(apos.endLine==cpos.line&&(!aC v&&cR fn nm sc e v)))))
 | .ife c a b,st=>pJ st fun t b1 b2 _=>cR fn nm sc c t&&(nM sc a b1&&nM sc b b2)
 | .for_ (.one x) i b,st=>nR st fun t iter body els _=>els.isEmpty&&aX t fun n _=>nm[x]? == some n&&(iU sc n&&(!iO iter&&(IJ fn nm false sc i iter&&nM sc b body)))
 | .for_ (.two _ _) _ _,_=>false
 | .while_ c b,st=>jD st fun t body els _=>els.isEmpty&&(cR fn nm sc c t&&nM sc b body)
 | .ret e,st=>eN st fun o _=>iB o fun v=>cR fn nm sc e v
noncomputable def nM(sc:Scope):pB→List Stmt→Bool
 | .nil,ss=>ss.isEmpty
 | .cons p ps,ss=>jJ ss fun st r=>IH sc p st&&nM sc ps r
end
end
section
variable{Z:aF}{cl:Nat→List PyData→Option PyData}{lvl:Nat}{nm:List Str}{fn:List Str}
theorem GN(hB:f8 Z)(hC:dZ Z lvl fn cl){fuel:Nat}{x:Nat}{n:Str}{np pos:Pos}{value:Expr}{p:PE}{sc:Scope}(hnd:nm.Nodup)(hx:nm[x]? = some n)(hk:iU sc n=true)(hc:(!gQ value||vR p)=true)(h:cR fn nm sc p value=true) :
  zC Z cl lvl nm sc fuel (.Assign [.Name n np] value pos) (.assign x p):=by
 cases hn:vR p with
 | false=>exact vB hnd hx hk hn (bO (by rwa[hn,Bool.or_false]at hc)) (bD hB hC p sc _ h).1
 | true =>
  cases p with
  | list es =>
   apply rH h; intro xs q h
   exact uR hnd hx hk (of_decide_eq_true (aA h).1) (lN hB hC es sc _ (aA h).2)
  | comp elt t i c g=>exact Q8 (m:=fun e=>zC Z cl lvl nm sc fuel (.Assign [.Name _ _] e _) _) hB hC h fun C=>uS hnd hx hk C
  | _=>cases hn
theorem A9{a b:PE}(h:u6 a b=true):a = .list .nil∧∃ d,b = .lit d∧flat d=true:=by
 obtain⟨h1,h2⟩:=aA h
 refine⟨?_,?_⟩
 ·cases a with
  | list es=>cases es with
   | nil=>rfl
   | cons _ _=>cases h1
  | _=>cases h1
 ·cases b with
  | lit d=>exact⟨d,rfl,h2⟩
  | _=>cases h2
theorem T9(hB:f8 Z)(hC:dZ Z lvl fn cl){fuel:Nat}{x y:Nat}{n m:Str}{p1 p2 tp vp pos:Pos}{k k':Nat}{ea eb:Expr}{a b:PE}{sc:Scope}(hnd:nm.Nodup)(hxy:x≠y)(hx:nm[x]? = some n)(hy:nm[y]? = some m)(hk1:iU sc n=true)
  (hk2:iU sc m=true) (hsa:aC ea=false) (hsb:aC eb=false) (hcon:(!([ea,eb].all (foldedForSure 8))&&[ea,eb].all (constantsAlone 8))=false) (h:cR fn nm sc a ea=true) (ha:SE Z cl lvl nm sc ea a) (hb:SE Z cl lvl nm sc eb b) :
  zC Z cl lvl nm sc fuel (.Assign [.Tuple [.Name n p1,.Name m p2] k tp] (.Tuple [ea,eb] k' vp) pos) (.assign2 x y a b):=by
 cases hn:u6 a b with
 | false=>exact C0 hnd hxy hx hy hk1 hk2 hsa hsb hcon hn ha hb
 | true =>
  obtain⟨rfl,d,rfl,hd⟩:=A9 hn
  revert hcon
  apply rH h; intro xs q h
  apply d9 (m:=fun xs=>(!([.List xs q,eb].all (foldedForSure 8))&&[.List xs q,eb].all (constantsAlone 8))=false→zC Z cl lvl nm sc fuel (.Assign [.Tuple [.Name n _,.Name m _] _ _] (.Tuple [.List xs q,eb] _ _) _) (.assign2 x y (.list .nil) (.lit d))) (aA h).2
  exact fun hcon=>A0 hnd hxy hx hy hk1 hk2 hsb hcon (b:=.lit d) hd (fun e=>by cases e; exact hd) hb
mutual
theorem xK(hB:f8 Z)(hC:dZ Z lvl fn cl)(hnd:nm.Nodup)(fuel:Nat):∀(p:PS)(sc:Scope)(st:Stmt),IH fn nm sc p st=true→zC Z cl lvl nm sc fuel st p
 | .assign x e,sc,st,h=>by
  apply dL h; intro ts v p h
  apply cJ h; intro t h
  apply aN h; intro n q h
  refine aB h fun h1 h=>aB h fun h2 h=>aB h fun h3 h4=>?_
  exact GN hB hC hnd (eq_of_beq h1) h2 h3 h4
 | .assign2 x y a b,sc,st,h=>by
  apply dL h; intro ts v p h
  apply cJ h; intro t h
  apply fW h; intro ns k q h
  apply cZ h; intro t1 r h
  apply cJ h; intro t2 h
  apply aN h; intro n q1 h
  apply aN h; intro m q2 h
  apply fW h; intro es k' q3 h
  apply cZ h; intro ea r h
  apply cJ h; intro eb h
  refine aB h fun h1 h=>aB h fun h2 h=>aB h fun h3 h=>aB h fun h4 h=>aB h fun h5 h=>aB h fun h6 h=>aB h fun h7 h=>aB h fun h8 h=>?_
  exact T9 hB hC hnd (bne_iff_ne.mp h1) (eq_of_beq h2) (eq_of_beq h3) h4 h5 (bO h6) (bO h7) (bO h8) (aA h).1 (bD hB hC a sc _ (aA h).1).1 (bD hB hC b sc _ (aA h).2).1
 | .aug x op e,sc,st,h=>by
  apply g8 h; intro t o v p h
  refine aB h fun z h=>?_; apply b9 z
  apply aN h; intro n q h
  refine aB h fun h1 h=>aB h fun h2 h=>aB h fun h3 h=>?_
  exact UD hnd (eq_of_beq h1) h2 (bne_iff_ne.mp h3) (bD hB hC e sc _ h).1
 | .app x e,sc,st,h=>by
  apply pZ h; intro c p h
  apply eH h; intro f as ks cpos h
  refine aB h fun z h=>?_; apply d9 z
  apply b6 h; intro o an apos h
  refine aB h fun z h=>?_; apply b9 z
  apply aN h; intro n q h
  apply cJ h; intro v h
  refine aB h fun h1 h=>aB h fun h2 h=>aB h fun h3 h=>aB h fun h4 h=>aB h fun h5 h=>aB h fun h6 h=>?_
  exact UE hnd (eq_of_beq h1) h2 (bne_iff_ne.mp h3) (bne_iff_ne.mp h4) h5 (bO h6) (bD hB hC e sc _ h).1
 | .ife c a b,sc,st,h=>by
  apply yI h; intro t b1 b2 p h
  refine aB h fun h1 h=>?_
  exact X4 (bD hB hC c sc _ h1).2 (lK hB hC hnd fuel a sc _ (aA h).1) (lK hB hC hnd fuel b sc _ (aA h).2)
 | .for_ (.one x) i b,sc,st,h=>by
  apply AD h; intro t iter body els p h
  refine aB h fun z h=>?_; apply d9 z
  apply aN h; intro n q h
  refine aB h fun h1 h=>aB h fun h2 h=>aB h fun h3 h=>?_
  exact UC hnd (eq_of_beq h1) h2 (bO h3) ((xL hB hC i false sc _ (aA h).1).2 rfl) (lK hB hC hnd fuel b sc _ (aA h).2)
 | .while_ c b,sc,st,h=>by
  apply uH h; intro t body els p h
  refine aB h fun z h=>?_; apply d9 z
  exact LF (bD hB hC c sc _ (aA h).1).2 (lK hB hC hnd fuel b sc _ (aA h).2)
 | .ret e,sc,st,h=>by
  apply iG h; intro o p h
  apply qX h; intro v h
  exact UA (bD hB hC e sc _ h).1
theorem lK(hB:f8 Z)(hC:dZ Z lvl fn cl)(hnd:nm.Nodup)(fuel:Nat):∀(p:pB)(sc:Scope)(ss:List Stmt),nM fn nm sc p ss=true→SX Z cl lvl nm sc fuel ss p
 | .nil,sc,ss,h=>by apply d9 h; exact UB
 | .cons p ps,sc,ss,h=>by
  apply cZ h; intro st r h
  exact ON (xK hB hC hnd fuel p sc st (aA h).1) (lK hB hC hnd fuel ps sc r (aA h).2)
end
end
structure xG(Z:aF)(n:Str)(a:Addr)(o:Obj)(fd:FuncData)(body:List Stmt)(nm:List Str)(arity:Nat):Prop where
 name:Z.mg n=some (.ref a)
 obj:Z.h₀.get? a=some o
 cls:o.cls ≠ .none
 data:o.data = .func fd
 body:fd.body = .stmts body
 clo:fd.closure=[]
 kind:fd.scope.kind = .function
 co:fd.scope.isCoroutine=false
 gen:fd.scope.isGenerator=false
 glob:fd.globals=mainGlobals
 blt:fd.builtins=builtinsNs
 code:∃ c oc vs t,fd.code = .ref c∧Z.h₀.get? c=some oc∧oc.cls ≠ .none∧oc.data = .fields vs∧vs[1]? = some (.str fd.qualname t)
 bind:∀ vals:List Value,vals.length=arity→bindArgs fd ⟨vals,[]⟩=pure ((nm.take arity).zip vals)
 len:arity≤nm.length
 nd:nm.Nodup
 snd:(fd.scope.names.map (·.1)).Nodup
 nofree:∀ p∈fd.scope.names,p.2 ≠ .free
 params:∀ n∈nm.take arity,fd.scope.names.lookup n=some .local∨fd.scope.names.lookup n=some .cell
theorem KB{β:Type}{n:Str}{l:List (Str×β)}(h:n∉l.map (·.1)):l.lookup n=none:=by
 cases e:l.lookup n with
 | none=>rfl
 | some b=>exact absurd (List.mem_map_of_mem (f:=(·.1)) (iN e)) h
theorem fQ(n:Str):∀(names:List (Str×NameKind))(N:Nat)(acc:List (Str×Addr)),(names.map (·.1)).Nodup→names.lookup n=some .cell→∃ c,(cellsFrom N names acc).lookup n=some c∧N≤c
 | (m,k)::r,N,acc,hnd,h=>by
  rw[List.map_cons,List.nodup_cons]at hnd
  have other:∀(r:List (Str×NameKind))(N:Nat)(acc:List (Str×Addr)),n∉r.map (·.1)→(cellsFrom N r acc).lookup n=acc.lookup n:=fun r=>by
   induction r with
   | nil=>exact fun _ _ _=>rfl
   | cons p r ih =>
    intro N acc hn
    obtain⟨m,k⟩:=p
    rw[List.map_cons,List.mem_cons,not_or]at hn
    unfold cellsFrom
    cases k==NameKind.cell
    ·exact ih _ _ hn.2
    ·exact(ih _ _ hn.2).trans (kM hn.1)
  unfold cellsFrom
  by_cases e:n=m
  ·subst e
   rw[kN]at h
   cases h
   exact⟨N,(other r _ _ hnd.1).trans kN,Nat.le_refl _⟩
  ·rw[kM e]at h
   cases k==NameKind.cell
   ·exact fQ n r N acc hnd.2 h
   ·obtain⟨c,h1,h2⟩:=fQ n r (N+1) ((m,N)::acc) hnd.2 h
    exact⟨c,h1,Nat.le_of_succ_le h2⟩
theorem t7{kindOf:Str→Option NameKind}:∀(binds:List (Str×Value))(m:Str→Option Value)(n:Str),(binds.map (·.1)).Nodup →
  bindL kindOf binds m n=if kindOf n=some .local then(match binds.lookup n with | some v=>some v | none=>m n)else m n
 | [],m,n,_=>by unfold bindL; split <;> rfl
 | (k,v)::r,m,n,hnd=>by
  rw[List.map_cons,List.nodup_cons]at hnd
  unfold bindL
  rw[t7 r _ n hnd.2]
  by_cases e:n=k
  ·subst e
   rw[KB hnd.1,kN]
   by_cases hl:kindOf n=some .local
   ·rw[if_pos hl,if_pos hl,if_pos hl]; exact if_pos rfl
   ·rw[if_neg hl,if_neg hl,if_neg hl]
  ·rw[kM e]
   have:(if kindOf k=some .local then(fun x=>if x=k then some v else m x)else m) n=m n:=by
    by_cases hl:kindOf k=some .local
    ·rw[if_pos hl]; exact if_neg e
    ·rw[if_neg hl]
   rw[this]
theorem AY{kindOf:Str→Option NameKind}:∀(binds:List (Str×Value))(m:Str→Option Value)(n:Str),(binds.map (·.1)).Nodup →
  bindC kindOf binds m n=if kindOf n=some .local then m n else(match binds.lookup n with | some v=>some v | none=>m n)
 | [],m,n,_=>by unfold bindC; split <;> rfl
 | (k,v)::r,m,n,hnd=>by
  rw[List.map_cons,List.nodup_cons]at hnd
  unfold bindC
  rw[AY r _ n hnd.2]
  by_cases e:n=k
  ·subst e
   rw[KB hnd.1,kN]
   by_cases hl:kindOf n=some .local
   ·rw[if_pos hl,if_pos hl,if_pos hl]
   ·rw[if_neg hl,if_neg hl,if_neg hl]; exact if_pos rfl
  ·rw[kM e]
   have:(if kindOf k=some .local then m else(fun x=>if x=k then some v else m x)) n=m n:=by
    by_cases hl:kindOf k=some .local
    ·rw[if_pos hl]
    ·rw[if_neg hl]; exact if_neg e
   rw[this]
theorem m6:∀(ns:List Str)(vs:List Value)(i:Nat)(n:Str),ns.Nodup→ns[i]? = some n→(ns.zip vs).lookup n=vs[i]?
 | m::ns,[],i,n,_,_=>rfl
 | m::ns,v::vs,0,n,_,h=>by cases h; exact kN
 | m::ns,v::vs,i+1,n,hnd,h=>by
  rw[List.nodup_cons]at hnd
  rw[List.zip_cons_cons,kM (show n≠m from fun e=>hnd.1 (e▸List.mem_of_getElem? h))]
  exact m6 ns vs i n hnd.2 h
noncomputable abbrev aF.at(Z:aF)(fr:List Addr):aF:={ Z with fr:=fr }
section
variable{Z:aF}{cl:Nat→List PyData→Option PyData}{lvl:Nat}{fn:List Str}
theorem DI{n:Nat}{args:List PyData}{x:Nat}{d:PyData}(h:bB (eI n args) x=some d):args[x]? = some d:=by
 unfold bB eI at h
 rw[List.getElem?_append]at h
 by_cases hx:x<(args.map some).length
 ·rw[if_pos hx,List.getElem?_map]at h
  cases e:args[x]? with
  | none=>rw[e]at h; cases h
  | some q=>rw[e]at h; exact h
 ·rw[if_neg hx,List.getElem?_replicate]at h
  by_cases hy:x - (args.map some).length<n - args.length
  ·rw[if_pos hy]at h; cases h
  ·rw[if_neg hy]at h; cases h
noncomputable def pI(h:Heap)(as:List Addr):List (Option Nat×Addr) :=
 ((List.range h.objs.size).filter fun a=>decide (a∉as∧∃ o,h.get? a=some o∧o.cls ≠ .none)).map fun a=>(none,a)
theorem gY{h:Heap}{as:List Addr}{yb:Option Nat×Addr}:yb∈pI h as↔yb.1=none∧yb.2∉as∧∃ o,h.get? yb.2=some o∧o.cls ≠ .none:=by
 unfold pI
 rw[List.mem_map]
 constructor
 ·rintro⟨a,h1,rfl⟩
  exact⟨rfl,of_decide_eq_true (List.mem_filter.mp h1).2⟩
 ·obtain⟨y,b⟩:=yb
  rintro⟨rfl,h1,o,e,h2⟩
  exact⟨b,List.mem_filter.mpr ⟨List.mem_range.mpr (Heap.lt_size e),decide_eq_true ⟨h1,o,e,h2⟩⟩,rfl⟩
theorem uQ{n:Str}{a:Addr}{o:Obj}{fd:FuncData}{body:List Stmt}{nm:List Str}{arity size:Nat}(F:xG Z n a o fd body nm arity){args:List PyData}{d:PyData}(hlen:args.length=arity)
  {A:Around} {s:Shared} {vs:List Value} {as:List Addr} {Q:Value→Shared→Prop} {E:Value→Shared→Prop} (hA:f6 Z (lvl+1) A) (hI:bA Z s) (hsz:Z.n≤s.heap.objs.size) (r:aU s.heap vs args as) (hok:cL args=true)
  (hQ:∀ v bs s',bA Z s'→Kp Z.n s.heap s'.heap→Rd s'.heap v d bs→bK d=true→(∀ a∈bs,a∈as∨∀ o,s.heap.get? a=some o→o.cls = .none)→Q v s')
  (hbody:∀(env:Env)(s₁:Shared)(R:Flow→Shared→Prop)(E':Value→Shared→Prop)(O:List (Option Nat×Addr)),env=callEnvC fd s.heap.objs.size a→Sx (Z.at (s.heap.objs.size::Z.fr)) lvl nm fd.scope (A.deeper env) env ⟨eI size args,[]⟩ O s₁→Kp Z.n s.heap s₁.heap →
   (∀ v bs s' O',bA (Z.at (s.heap.objs.size::Z.fr)) s'→Rd s'.heap v d bs→bK d=true→(∀ a,(none,a)∈O→a∉bs)→bH (Z.at (s.heap.objs.size::Z.fr)) env O O' s₁.heap s'.heap→R (.ret v) s'∧(bs=[]→d = .none→R .next s')) →
   wpAny (model Z.prog Z.w) (A.deeper env) (execs body env) R E' s₁):wpAny (model Z.prog Z.w) A (call (.ref a) vs) Q E s:=by
 have hvl:=aP r
 obtain⟨c,oc,cvs,ct,hc1,hc2,hc3,hc4,hc5⟩:=F.code
 have hcellsL:=fun m hm=>fQ m fd.scope.names (s.heap.objs.size+1) [] F.snd hm
 have hbn:(((nm.take arity).zip vs).map (·.1))=nm.take arity:=List.map_fst_zip (by rw[List.length_take,hvl,hlen]; exact Nat.min_le_left _ _)
 have htnd:(nm.take arity).Nodup:=F.nd.sublist (List.take_sublist _ _)
 refine wpAny_call (codeAny_call_cells (R:=wants Q E) hA.dp.2.2 (hI.old.get_of_cls F.obj F.cls) F.data hI.lim ⟨c,oc,cvs,ct,hc1,hI.old.get_of_cls hc2 hc3,hc4,hc5⟩ F.body (F.bind vs (hvl.trans hlen)) F.clo (fun p hp=>?_) (fun s₁ X=>?_) F.co F.gen F.kind)
 ·refine(F.params p.1 (hbn▸List.mem_map_of_mem hp)).imp id fun h=>?_
  obtain⟨c,h1,_⟩:=hcellsL _ h
  exact⟨h,by rw[h1]; rfl⟩
 ·generalize henv:callEnvC fd s.heap.objs.size a=env at X ⊢
  have hkof:∀ m,env.kindOf m=fd.scope.names.lookup m:=fun m=>henv▸rfl
  have hcl:env.cells=cellsFrom (s.heap.objs.size+1) fd.scope.names []:=henv▸rfl
  have hloc:env.locals=s.heap.objs.size:=henv▸rfl
  have hnofree:∀ m,env.kindOf m≠some .free:=fun m h=>F.nofree _ (iN ((hkof m).symm.trans h)) rfl
  have hcell:∀ m,cf env m→fd.scope.names.lookup m=some .cell:=fun m h=>(hkof m).symm.trans (h.resolve_right (hnofree m))
  have hkeep:=X.toInCall.keep
  have hI₀:bA Z s₁:=by
   obtain⟨h',tk,rfl⟩:=X.toInCall.same
   exact hI.full hkeep
  have hns:=X.toInCall.ns
  have hcell1:=X.cell
  have habove:=X.above
  have hapart:=X.apart
  have hI₁:bA (Z.at (s.heap.objs.size::Z.fr)) s₁:=⟨hI₀.old,hI₀.lim,hI₀.tab,hI₀.gens,hI₀.os,fun L hL=>(List.mem_cons.mp hL).elim (fun e=>by
   obtain⟨o,es,ep,e',hdd,_⟩:=hns
   exact⟨e▸hsz,o,by rw[e,← hloc]; exact e',es,ep,hdd⟩) (hI₀.frs L)⟩
  have hback:∀{t:Shared},bA (Z.at (s.heap.objs.size::Z.fr)) t→bA Z t:=fun I=>⟨I.old,I.lim,I.tab,I.gens,I.os,fun L hL=>I.frs L (List.mem_cons_of_mem _ hL)⟩
  have oldLt:∀{b o},s.heap.get? b=some o→b≠env.locals∧∀ m c,env.cells.lookup m=some c→b≠c:=fun{b o}e=>⟨fun e'=>Nat.lt_irrefl _ (show s.heap.objs.size<s.heap.objs.size from(e'.trans hloc)▸Heap.lt_size e),fun m c hc e'=>by
   have:=habove m c (iN hc)
   exact absurd (Heap.lt_size e) (by rw[e']; exact Nat.not_lt.mpr (Nat.le_of_lt (hloc▸this)))⟩
  have hE:aK (Z.at (s.heap.objs.size::Z.fr)) nm env (eI size args) (pI s.heap as) s₁.heap:={
   kind:=henv▸F.kind
   glob:=henv▸F.glob
   blt:=henv▸F.blt
   new:=hloc▸hsz
   ns:=⟨_,hns⟩
   live:=fun yb hy=>let⟨_,_,o,e,h⟩:=gY.mp hy; ⟨o,hkeep _ _ e,h⟩
   apart:=fun yb hy=>let⟨_,_,o,e,_⟩:=gY.mp hy; ⟨(oldLt e).1,fun m c _ hc=>(oldLt e).2 m c hc⟩
   cells:=fun m hm=>let⟨c,h1,h2⟩:=hcellsL m (hcell m hm); ⟨c,_,hcl▸h1,Nat.le_trans hsz (Nat.le_of_succ_le h2),hcell1 m c (hcl▸h1)⟩
   inj:=fun m m' c _ _ cm cm'=>name_of_addr hapart (iN cm) (iN cm')
   vars:=fun x q m h1 h2 h3=>by
    have hax:=DI h1
    obtain⟨v,bs,hv,rv,hbs⟩:=gE r hax
    have hxl:x<arity:=hlen▸(List.getElem?_eq_some_iff.mp hax).1
    have hxm:(nm.take arity)[x]? = some m:=by rw[List.getElem?_take,if_pos hxl]; exact h2
    have hlk:((nm.take arity).zip vs).lookup m=some v:=(m6 _ _ x m htnd hxm).trans hv
    refine⟨v,bs,?_,rv.map fun b o _ e _=>hkeep b o e,cC.mp hok q (List.mem_of_getElem? hax),fun yb hy hm=>absurd (hbs _ hm) (gY.mp hy).2.1⟩
    rcases F.params m (List.mem_of_getElem? hxm)with hl | hl
    ·refine .inl ⟨(hkof m).trans hl,_,hns,?_⟩
     rw[t7 _ _ _ (by rw[hbn]; exact htnd),if_pos ((hkof m).trans hl),hlk]
    ·obtain⟨c,h4,_⟩:=hcellsL m hl
     refine .inr ⟨.inl ((hkof m).trans hl),c,hcl▸h4,?_⟩
     have:=hcell1 m c (hcl▸h4)
     rwa[AY _ _ _ (by rw[hbn]; exact htnd),if_neg (show ¬env.kindOf m=some .local from fun e=>nomatch ((hkof m).symm.trans e).symm.trans hl),hlk]at this }
  have hA':f6 (Z.at (s.heap.objs.size::Z.fr)) lvl (A.deeper env):=⟨hA.handled,hA.dp.1,hA.dp.2.1,by
   obtain⟨fs,h1,h2⟩:=hA.frames
   refine⟨env::fs,by show A.frames.map _=_; rw[h1]; rfl,fun e he=>(List.mem_cons.mp he).elim (fun e'=>?_) fun he=>let⟨g1,L,g2,g3⟩:=h2 e he; ⟨g1,L,g2,List.mem_cons_of_mem _ g3⟩⟩
   rw[e',← henv]
   exact⟨by show fd.scope.kind ≠ .module; rw[F.kind]; nofun,_,rfl,List.mem_cons_self⟩⟩
  have hSc:vA fd.scope env:=⟨fun m h=>(hkof m).trans h,fun m h=>by unfold cf at *; rw[hkof]; exact h,fun m h=>(hkof m).trans h⟩
  have noSome:∀{y b},(some y,b)∉pI s.heap as:=fun hy=>nomatch (gY.mp hy).1
  have kpOf:∀{O':List (Option Nat×Addr)}{h':Heap},bH (Z.at (s.heap.objs.size::Z.fr)) env (pI s.heap as) O' s₁.heap h'→Kp Z.n s.heap h':=fun st=>⟨fun b o e c=>st.keep b o (hkeep b o e) c (fun w=>w.elim (oldLt e).1 fun⟨m,_,hc⟩=>(oldLt e).2 m b hc rfl) fun y hy=>noSome hy⟩
  refine hbody env s₁ _ _ (pI s.heap as) henv.symm ⟨hA',hSc,fun m _=>hnofree m,hI₁,hE,(fun _ h=>absurd h List.not_mem_nil),fun y b hy=>absurd hy noSome⟩ (Kp.of hkeep) fun v bs s' O' I' r' ok' hr st=>?_
  have fin:Q v s':=hQ v bs s' (hback I') (kpOf st) r' ok' fun b hb=>by
   by_cases hba:b∈as
   ·exact .inl hba
   ·refine .inr fun o e=>?_
    by_cases hc:o.cls = .none
    ·exact hc
    ·exact absurd hb (hr b (gY.mpr ⟨rfl,hba,o,e,hc⟩))
  refine⟨fin,fun _ hd=>?_⟩
  subst hd
  cases r'
  exact fin
theorem RA(hB:f8 Z)(hC:∀ fr,dZ (Z.at fr) lvl fn cl){fuel:Nat}{n:Str}{a:Addr}{o:Obj}{fd:FuncData}{body:List Stmt}{nm:List Str}{pf:PF}(F:xG Z n a o fd body nm pf.arity)(hck:nM fn nm fd.scope pf.body body=true){args:List PyData}{d:PyData}(hlen:args.length=pf.arity)
  (hd:(match dO cl fuel pf.body ⟨eI pf.size args,[]⟩with | some (.ret d)=>some d | some (.next _)=>some .none | none=>none)=some d)
  {A:Around} {s:Shared} {vs:List Value} {as:List Addr} {Q:Value→Shared→Prop} {E:Value→Shared→Prop} (hA:f6 Z (lvl+1) A) (hI:bA Z s) (hsz:Z.n≤s.heap.objs.size) (r:aU s.heap vs args as) (hok:cL args=true)
  (hQ:∀ v bs s',bA Z s'→Kp Z.n s.heap s'.heap→Rd s'.heap v d bs→bK d=true→(∀ a∈bs,a∈as∨∀ o,s.heap.get? a=some o→o.cls = .none)→Q v s'):wpAny (model Z.prog Z.w) A (call (.ref a) vs) Q E s:=by
 refine uQ (size:=pf.size) F hlen hA hI hsz r hok hQ fun env s₁ R E' O _ X _ hR=>?_
 cases hx:dO cl fuel pf.body ⟨eI pf.size args,[]⟩with
 | none=>rw[hx]at hd; cases hd
 | some fl =>
  rw[hx]at hd
  refine lK (Z:=Z.at (s.heap.objs.size::Z.fr)) hB (hC (s.heap.objs.size::Z.fr)) F.nd fuel pf.body fd.scope body hck X hx ?_
  cases fl with
  | next σ'=>cases hd; exact fun s' O' S' st=>(hR .none [] s' O' S'.inv .none rfl (fun _ _ h=>nomatch h) st).2 rfl rfl
  | ret q=>cases hd; exact fun v bs s' O' I' r' ok' hr st=>(hR v bs s' O' I' r' ok' hr st).1
end
theorem xG.at{Z:aF}{n:Str}{a:Addr}{o:Obj}{fd:FuncData}{body:List Stmt}{nm:List Str}{k:Nat}(F:xG Z n a o fd body nm k)(fr:List Addr):xG (Z.at fr) n a o fd body nm k :=
 ⟨F.name,F.obj,F.cls,F.data,F.body,F.clo,F.kind,F.co,F.gen,F.glob,F.blt,F.code,F.bind,F.len,F.nd,F.snd,F.nofree,F.params⟩
def jO(Z:aF)(c:Nat)(n:Str)(args:List PyData)(d:PyData):Prop :=
 ∃ a o fd,Z.mg n=some (.ref a)∧Z.h₀.get? a=some o∧o.cls ≠ .none∧o.data = .func fd ∧
  ∀(A:Around)(s:Shared)(vs:List Value)(as:List Addr)(Q:Value→Shared→Prop)(E:Value→Shared→Prop),f6 Z c A→bA Z s→Z.n≤s.heap.objs.size→aU s.heap vs args as→cL args=true →
   (∀ v bs s',bA Z s'→Kp Z.n s.heap s'.heap→Rd s'.heap v d bs→bK d=true→(∀ a∈bs,a∈as∨∀ o,s.heap.get? a=some o→o.cls = .none)→Q v s')→wpAny (model Z.prog Z.w) A (call (.ref a) vs) Q E s
def CU(Z:aF)(c:Nat)(fn:List Str)(tab:Nat→Option PF)(prim:Nat→List PyData→Option PyData):Prop :=
 ∀ f n args d,fn[f]? = some n→tab f=none→prim f args=some d→jO Z c n args d
def sP(Z:aF)(fn:List Str)(tab:Nat→Option PF):Prop :=
 ∀ f n pf,fn[f]? = some n→tab f=some pf→∃ a o fd body nm,xG Z n a o fd body nm pf.arity∧nM fn nm fd.scope pf.body body=true
theorem CS{Z:aF}{fn:List Str}{tab:Nat→Option PF}{prim:Nat→List PyData→Option PyData}{fuel c:Nat}(hB:f8 Z)(hT:sP Z fn tab)(hP:∀ fr,CU (Z.at fr) c fn tab prim):∀ lvl fr,dZ (Z.at fr) (lvl+c) fn (cG tab prim fuel lvl)
 | 0,_=>fun f n args d _ h=>nomatch h
 | lvl+1,fr=>fun f n args d hn h=>by
  unfold cG at h
  cases ht:tab f with
  | none =>
   rw[ht]at h
   obtain⟨a,o,fd,h1,h2,h3,h4,h5⟩:=hP fr f n args d hn ht h
   exact⟨a,o,fd,h1,h2,h3,h4,fun A s vs as Q E hA=>h5 A s vs as Q E (hA.mono (Nat.le_add_left _ _))⟩
  | some pf =>
   rw[ht]at h
   refine iY h fun hlen h=>?_
   obtain⟨a,o,fd,body,nm,F,hck⟩:=hT f n pf hn ht
   have F:=F.at fr
   exact⟨a,o,fd,F.name,F.obj,F.cls,F.data,fun A s vs as Q E hA hI hsz r hok hQ=>RA (Z:=Z.at fr) hB (fun fr'=>CS hB hT hP lvl fr') F hck hlen h (hA.mono (Nat.le_of_eq (Nat.add_right_comm _ _ _))) hI hsz r hok hQ⟩
noncomputable def pL(e:Data)(f:FuncData→Bool):Bool:=if h:e.ctorIdx=7 then Data.func.elim e h f else false
theorem PX{e:Data}{f:FuncData→Bool}{m:Data→Prop}(h:pL e f=true)(k:∀ a,f a=true→m (.func a)):m e:=by
 by_cases c:e.ctorIdx=7
 ·exact Data.func.elim (motive:=fun e=>pL e f=true→m e) e c k h
 ·rw[pL,dif_neg c]at h; cases h
theorem EZ{e:Data}{f:FuncData→Bool}(h:pL e f=true):∃ a,e = .func a∧f a=true:=PX (m:=fun e=>∃ a,e = .func a∧f a=true) h fun a h=>⟨a,rfl,h⟩
noncomputable def jA(e:Data)(f:Array Value→Bool):Bool:=if h:e.ctorIdx=9 then Data.fields.elim e h f else false
theorem G9{e:Data}{f:Array Value→Bool}{m:Data→Prop}(h:jA e f=true)(k:∀ a,f a=true→m (.fields a)):m e:=by
 by_cases c:e.ctorIdx=9
 ·exact Data.fields.elim (motive:=fun e=>jA e f=true→m e) e c k h
 ·rw[jA,dif_neg c]at h; cases h
theorem wG{e:Data}{f:Array Value→Bool}(h:jA e f=true):∃ a,e = .fields a∧f a=true:=G9 (m:=fun e=>∃ a,e = .fields a∧f a=true) h fun a h=>⟨a,rfl,h⟩
noncomputable def i7(e:Value)(f:Addr→Bool):Bool:=if h:e.ctorIdx=10 then Value.ref.elim e h f else false
theorem J2{e:Value}{f:Addr→Bool}{m:Value→Prop}(h:i7 e f=true)(k:∀ a,f a=true→m (.ref a)):m e:=by
 by_cases c:e.ctorIdx=10
 ·exact Value.ref.elim (motive:=fun e=>i7 e f=true→m e) e c k h
 ·rw[i7,dif_neg c]at h; cases h
theorem mZ{e:Value}{f:Addr→Bool}(h:i7 e f=true):∃ a,e = .ref a∧f a=true:=J2 (m:=fun e=>∃ a,e = .ref a∧f a=true) h fun a h=>⟨a,rfl,h⟩
noncomputable def sG(e:Value)(f:Str→Tok→Bool):Bool:=if h:e.ctorIdx=6 then Value.str.elim e h f else false
theorem B1{e:Value}{f:Str→Tok→Bool}{m:Value→Prop}(h:sG e f=true)(k:∀ a b,f a b=true→m (.str a b)):m e:=by
 by_cases c:e.ctorIdx=6
 ·exact Value.str.elim (motive:=fun e=>sG e f=true→m e) e c k h
 ·rw[sG,dif_neg c]at h; cases h
theorem VH{e:Value}{f:Str→Tok→Bool}(h:sG e f=true):∃ a b,e = .str a b∧f a b=true:=B1 (m:=fun e=>∃ a b,e = .str a b∧f a b=true) h fun a b h=>⟨a,b,rfl,h⟩
noncomputable def sY(e:Value)(f:String→Bool):Bool:=if h:e.ctorIdx=8 then Value.type.elim e h f else false
theorem EX{e:Value}{f:String→Bool}{m:Value→Prop}(h:sY e f=true)(k:∀ a,f a=true→m (.type a)):m e:=by
 by_cases c:e.ctorIdx=8
 ·exact Value.type.elim (motive:=fun e=>sY e f=true→m e) e c k h
 ·rw[sY,dif_neg c]at h; cases h
theorem Z4{e:Value}{f:String→Bool}(h:sY e f=true):∃ a,e = .type a∧f a=true:=EX (m:=fun e=>∃ a,e = .type a∧f a=true) h fun a h=>⟨a,rfl,h⟩
noncomputable def lO(e:FuncBody)(f:List Stmt→Bool):Bool:=if h:e.ctorIdx=0 then FuncBody.stmts.elim e h f else false
theorem MJ{e:FuncBody}{f:List Stmt→Bool}{m:FuncBody→Prop}(h:lO e f=true)(k:∀ a,f a=true→m (.stmts a)):m e:=by
 by_cases c:e.ctorIdx=0
 ·exact FuncBody.stmts.elim (motive:=fun e=>lO e f=true→m e) e c k h
 ·rw[lO,dif_neg c]at h; cases h
theorem AC{e:FuncBody}{f:List Stmt→Bool}(h:lO e f=true):∃ a,e = .stmts a∧f a=true:=MJ (m:=fun e=>∃ a,e = .stmts a∧f a=true) h fun a h=>⟨a,rfl,h⟩
theorem eW{α:Type}{o:Option α}{f:α→Bool}(h:iB o f=true):∃ a,o=some a∧f a=true:=qX (m:=fun o=>∃ a,o=some a∧f a=true) h fun a h=>⟨a,rfl,h⟩
def fZ{α:Type}(e:Option α)(f:α→Prop):Prop:=match e with | some a=>f a | none=>False
theorem nI{α:Type}{e:Option α}{f:α→Prop}(h:fZ e f):∃ a,e=some a∧f a:=by
 cases e with
 | none=>exact h.elim
 | some a=>exact⟨a,rfl,h⟩
noncomputable def mU{α:Type}:List α→(α→Prop)→Prop
 | [],_=>True
 | x::l,P=>P x∧mU l P
theorem t8{α:Type}{P:α→Prop}{x:α}{l:List α}:mU l P→x∈l→P x:=by
 induction l with
 | nil=>exact fun _ h=>nomatch h
 | cons y l ih=>exact fun h hx=>(List.mem_cons.mp hx).elim (fun e=>e▸h.1) (ih h.2)
noncomputable def m4:Nat→(List Value→Prop)→Prop
 | 0,P=>P []
 | k+1,P=>∀ v,m4 k fun l=>P (v::l)
theorem HR{l:List Value}:∀{P:List Value→Prop},m4 l.length P→P l:=by
 induction l with
 | nil=>exact fun{P}h=>h
 | cons v l ih=>exact fun{P}h=>ih (P:=fun l=>P (v::l)) (h v)
noncomputable def fS(v:Value):Option Addr:=if h:v.ctorIdx=10 then Value.ref.elim v h some else none
noncomputable def SK(d:Data):Option FuncData:=if h:d.ctorIdx=7 then Data.func.elim d h some else none
noncomputable def F5(K:Frag)(a:Addr):Option FuncData:=(K.lookup a).bind fun o=>SK o.data
noncomputable abbrev vW:FuncData→Args→Sem (List (Str×Value)):=PySem.W.Fast.tw9782568553167038054
theorem t6(fd:FuncData)(as:Args):bindArgs fd as=vW fd as:=congrFun (congrFun PySem.W.Fast.te9782568553167038054 fd) as
abbrev pR:=Str×List Str×PF
noncomputable def ZY(K:Frag)(a:Addr)(f:Obj→Bool):Bool:=iB (K.lookup a) fun o=>sY o.cls (fun _=>true)&&f o
theorem TL{K:Frag}{a:Addr}{f:Obj→Bool}{G:Prop}(h:ZY K a f=true)(k:∀ o,K.lookup a=some o→o.cls ≠ .none→f o=true→G):G :=
 (qX (m:=fun x=>K.lookup a=x→G) h fun o h e=>aB h fun h1 h2=>k o e (EX (m:=(· ≠ .none)) h1 fun _ _ e=>nomatch e) h2) rfl
noncomputable def eZ(K:Frag)(n:Str):Option Value:=(K.lookup mainGlobals).bind fun o=>match o.data with
 | .dict es _=>nsFind es n
 | _=>none
noncomputable def jF(K:Frag)(q:Str)(v:Value):Bool:=i7 v fun c=>ZY K c fun o=>jA o.data fun vs=>iB vs[1]? fun v=>sG v fun t _=>t==q
noncomputable def FP(K:Frag)(P:Scope→List Stmt→Bool)(nm:List Str)(k:Nat)(fd:FuncData):Bool :=
 ([lO fd.body fun body=>P fd.scope body,
  fd.closure.isEmpty,fd.scope.kind == .function,!fd.scope.isCoroutine,!fd.scope.isGenerator,fd.globals==mainGlobals,fd.builtins==builtinsNs,jF K fd.qualname fd.code,
  decide (k≤nm.length),decide nm.Nodup,decide ((fd.scope.names.map (·.1)).Nodup),fd.scope.names.all fun p=>p.2 != .free,
  (nm.take k).all fun n=>fd.scope.names.lookup n==some .local||fd.scope.names.lookup n==some .cell]:List Bool).all id
noncomputable def tV(K:Frag)(P:Scope→List Stmt→Bool)(n:Str)(nm:List Str)(k:Nat):Bool :=
 iB (eZ K n) fun v=>i7 v fun a=>ZY K a fun o=>pL o.data fun fd=>FP K P nm k fd
def mP(K:Frag)(n:Str)(nm:List Str)(k:Nat):Prop:=fZ ((eZ K n).bind fS) fun a=>fZ (F5 K a) fun fd=>m4 k fun vals=>vW fd ⟨vals,[]⟩=pure ((nm.take k).zip vals)
noncomputable def yM(K:Frag)(fn:List Str)(S:pR):Bool:=tV K (fun sc body=>nM fn S.2.1 sc S.2.2.body body) S.1 S.2.1 S.2.2.arity
theorem fE{Z:aF}{K:Frag}(X:K.In Z.h₀){n:Str}{v:Value}(h:eZ K n=some v):Z.mg n=some v :=
 aS h fun o ho h=>by
  obtain⟨o',es,ep,e',hd,_,hall⟩:=Z.hg
  cases(X _ _ ho).symm.trans e'
  rw[hd]at h
  exact(hall n).symm.trans h
theorem xU{K:Frag}{h₀:Heap}(X:K.In h₀){q:Str}{v:Value}(h:jF K q v=true):∃ c oc vs t,v = .ref c∧h₀.get? c=some oc∧oc.cls ≠ .none∧oc.data = .fields vs∧vs[1]? = some (.str q t) :=
 by
 obtain⟨c,e,h⟩:=mZ h
 exact TL h fun oc e1 e2 h=>by
  obtain⟨vs,e3,h⟩:=wG h
  obtain⟨_,e4,h⟩:=eW h
  obtain⟨_,t,e5,h⟩:=VH h
  exact⟨c,oc,vs,t,e,X _ _ e1,e2,e3,e4.trans (congrArg some (e5.trans (by rw[eq_of_beq h])))⟩
theorem KG{K:Frag}{a:Addr}{o:Obj}{fd:FuncData}(h:K.lookup a=some o)(e:o.data = .func fd):F5 K a=some fd:=by
 unfold F5
 rw[h]
 show SK o.data=_
 rw[e]; rfl
theorem DK{Z:aF}{K:Frag}{P:Scope→List Stmt→Bool}{n:Str}{nm:List Str}{k:Nat}{a:Addr}{o:Obj}{fd:FuncData}(X:K.In Z.h₀)(hn:Z.mg n=some (.ref a))(ho:K.lookup a=some o)(hc:o.cls ≠ .none)(hd:o.data = .func fd)(hbi:m4 k fun vals=>vW fd ⟨vals,[]⟩=pure ((nm.take k).zip vals))(h:FP K P nm k fd=true) :
  ∃ body,xG Z n a o fd body nm k∧P fd.scope body=true:=by
 obtain⟨body,hb,hck⟩:=AC (aL h 0 rfl)
 refine⟨body,{
  name:=hn
  obj:=X _ _ ho
  cls:=hc
  data:=hd
  body:=hb
  clo:=List.isEmpty_iff.mp (aL h 1 rfl)
  kind:=eq_of_beq (aL h 2 rfl)
  co:=bO (aL h 3 rfl)
  gen:=bO (aL h 4 rfl)
  glob:=eq_of_beq (aL h 5 rfl)
  blt:=eq_of_beq (aL h 6 rfl)
  code:=xU X (aL h 7 rfl)
  bind:=fun vals hl=>(t6 _ _).trans (HR (P:=fun vals=>vW fd ⟨vals,[]⟩=pure ((nm.take k).zip vals)) (hl▸hbi))
  len:=of_decide_eq_true (aL h 8 rfl)
  nd:=of_decide_eq_true (aL h 9 rfl)
  snd:=of_decide_eq_true (aL h 10 rfl)
  nofree:=fun p hp=>bne_iff_ne.mp (List.all_eq_true.mp (aL h 11 rfl) p hp)
  params:=fun n hn=>(Bool.or_eq_true _ _▸List.all_eq_true.mp (aL h 12 rfl) n hn).imp eq_of_beq eq_of_beq },hck⟩
theorem mQ{Z:aF}{K:Frag}{P:Scope→List Stmt→Bool}{n:Str}{nm:List Str}{k:Nat}(X:K.In Z.h₀)(hbi:mP K n nm k)(h:tV K P n nm k=true) :
  ∃ a o fd body,xG Z n a o fd body nm k∧P fd.scope body=true :=
 by
 obtain⟨v,e,h⟩:=eW h
 obtain⟨a,rfl,h⟩:=mZ h
 obtain⟨a',ea,hbi⟩:=nI hbi
 cases(congrArg (Option.bind · fS) e).symm.trans ea
 obtain⟨fd',ef,hbi⟩:=nI hbi
 exact TL h fun o ho hc h=>by
  obtain⟨fd,hd,h⟩:=EZ h
  cases(KG ho hd).symm.trans ef
  obtain⟨body,F⟩:=DK X (fE X e) ho hc hd hbi h
  exact⟨a,o,_,body,F⟩
theorem LA{Z:aF}{K:Frag}{fn:List Str}{tab:Nat→Option PF}{specs:List pR}(X:K.In Z.h₀)(hb:mU specs fun S=>mP K S.1 S.2.1 S.2.2.arity)(hc:specs.all (yM K fn)=true)(ht:∀ f n pf,fn[f]? = some n→tab f=some pf→∃ nm,(n,nm,pf)∈specs):sP Z fn tab:=by
 intro f n pf hf hp
 obtain⟨nm,hm⟩:=ht f n pf hf hp
 obtain⟨a,o,fd,body,F,hk⟩:=mQ X (t8 (P:=fun S:pR=>mP K S.1 S.2.1 S.2.2.arity) (x:=(n,nm,pf)) hb hm) (List.all_eq_true.mp hc _ hm)
 exact⟨a,o,fd,body,nm,F,hk⟩
theorem UY{Z:aF}{fn:List Str}{tab:Nat→Option PF}{prim:Nat→List PyData→Option PyData}{fuel lvl f c:Nat}{n:Str}{a:Addr}{args:List PyData}{d:PyData}{A:Around}{s:Shared}{vs:List Value}{as:List Addr}{E:Value→Shared→Prop}
  (hB:f8 Z) (hT:sP Z fn tab) (hP:∀ fr,CU (Z.at fr) c fn tab prim) (hn:fn[f]? = some n) (hm:Z.mg n=some (.ref a)) (hA:f6 Z (lvl+c) A) (hI:bA Z s) (hsz:Z.n≤s.heap.objs.size) (r:aU s.heap vs args as) (hok:cL args=true)
  (hrun:cG tab prim fuel lvl f args=some d):wpAny (model Z.prog Z.w) A (call (.ref a) vs) (fun v s'=>bA Z s'∧∃ bs,Rd s'.heap v d bs) E s:=by
 obtain⟨a',o,fd,h1,_,_,_,h5⟩:=CS hB hT hP lvl Z.fr f n args d hn hrun
 rw[hm]at h1; cases h1
 exact h5 A s vs as _ E hA hI hsz r hok fun v bs s' I' _ r' _ _=>⟨I',bs,r'⟩
theorem HK{Z:aF}{s:Shared}(h:s.heap=Z.h₀)(hl:s.heap.NoLimit)(ht:Z.TabI s.heap)(hg:AllBare s.gens)(ho:s.os=Z.os)(hf:Z.fr=[]):bA Z s:=⟨h▸OldK.refl _,hl,ht,hg,ho,fun L hL=>by rw[hf]at hL; cases hL⟩
end Kt.Internal
end
section
open PySem PySem.W PyProof.Rows
open AutoSeq1 (wpAny_loadPart')
open MeetsSeq MeetsSeq2 MeetsSeq3 SeqRoads2
namespace Kt.Internal
open SeqAt (EqAt)
theorem vD(l:Addr)(items:Array Value)(n:Nat)(sl:Array (Option Value))(x:Value)(e:Value→Bool)(j:Nat)(hj:j<items.size)(hit:e items[j]=true)(k:Nat)(hs1:items.size≤sizeLine) :
  ∀ i:Nat,j - i=k→i≤j→(∀ m(hm:m<items.size),i≤m→m<j→e items[m]=false)→Meets (Builtin.«list.remove.loop» ⟨[.ref l,x,rawInt i],[]⟩)
   (fun A R s=>s.heap.get? l=some { cls:=.type "list",dict:=none,data:=.seq items n,slots:=sl }∧(∀ y,y∈items→EqAt A.in1 s y x (e y))∧R (.ok (.ret .none)) { s with heap:=s.heap.update l (Obj.mapSeq fun xs=>xs.eraseIdxIfInBounds j) }):=by
 induction k with
 | zero =>
  intro i hk hij hno prog w A R s h
  obtain⟨hp,g,d,tk,os⟩:=s; obtain⟨hl,he,h⟩:=h
  obtain rfl:i=j:=Nat.le_antisymm hij (Nat.le_of_sub_eq_zero hk)
  wp_walk using wpAny_loadPart' hl
  have hi:items[((i:Nat):Int).toNat]? = some items[i]:=Array.getElem?_eq_getElem hj
  rw[hi]
  refine wpAny_bind (he _ (Array.getElem_mem hj) prog w _ _ ?_)
  rw[hit]
  have hz':(items.eraseIdxIfInBounds i).size≤sizeLine+1:=Nat.le_trans (size_erased items _) (Nat.le_succ_of_le hs1)
  wp_walk using(wpAny_updateSeq hl rfl (hz:=hs1) (_hz':=hz')),wpAny_loadPart' hl
  simpa using h
 | succ k ih =>
  intro i hk hij hno prog w A R s h
  obtain⟨hp,g,d,tk,os⟩:=s; obtain⟨hl,he,h⟩:=h
  have hij':i<j:=Nat.lt_of_sub_eq_succ hk
  have hlt:i<items.size:=Nat.lt_trans hij' hj
  wp_walk using wpAny_loadPart' hl
  have hi:items[((i:Nat):Int).toNat]? = some items[i]:=Array.getElem?_eq_getElem hlt
  have hc:((i:Int)+1)=((i+1:Nat):Int):=rfl
  rw[hi]
  refine wpAny_bind (he _ (Array.getElem_mem hlt) prog w _ _ ?_)
  rw[hno i hlt (Nat.le_refl _) hij']
  wp_walk
  rw[hc]
  exact⟨plainId_quiet plain_remove_loop _,codeAny_builtin entry_remove_loop (by
   rw[Around.under_plainId plain_remove_loop _]
   exact ih (i+1) (congrArg Nat.pred hk) hij' (fun m hm h1 h2=>hno m hm (Nat.le_of_succ_le h1) h2) prog w A R _ ⟨hl,he,h⟩)⟩
theorem vE(l:Addr)(items:Array Value)(n:Nat)(sl:Array (Option Value))(x:Value)(e:Value→Bool)(j:Nat)(hj:j<items.size)
  (hit:e items[j]=true) (hno:∀ m(hm:m<items.size),m<j→e items[m]=false) (hs1:items.size≤sizeLine) :
  Meets (Builtin.«list.remove» ⟨[.ref l,x],[]⟩)
   (fun A R s=>s.heap.get? l=some { cls:=.type "list",dict:=none,data:=.seq items n,slots:=sl }∧(∀ y,y∈items→EqAt A.in1 s y x (e y))∧R (.ok (.ret .none)) { s with heap:=s.heap.update l (Obj.mapSeq fun xs=>xs.eraseIdxIfInBounds j) }):=by
 intro prog w A R s h
 obtain⟨hp,g,d,tk,os⟩:=s; obtain⟨hl,he,h⟩:=h
 wp_walk using wpAny_loadPart' hl
 exact⟨plainId_quiet plain_remove_loop _,codeAny_builtin entry_remove_loop (by
  rw[Around.under_plainId plain_remove_loop _]
  exact vD l items n sl x e j hj hit _ hs1 0 rfl (Nat.zero_le _) (fun m hm _ h2=>hno m hm h2) prog w A R _ ⟨hl,he,h⟩)⟩
theorem nC(l:Addr)(items:Array Value)(n:Nat)(sl:Array (Option Value))(x:Value)(e:Value→Bool)(hno:∀ m(hm:m<items.size),e items[m]=false)(k:Nat) :
  ∀ i:Nat,items.size - i=k→Meets (Builtin.«list.remove.loop» ⟨[.ref l,x,rawInt i],[]⟩)
   (fun A R s=>s.heap.get? l=some { cls:=.type "list",dict:=none,data:=.seq items n,slots:=sl }∧(∀ y,y∈items→EqAt A.in1 s y x (e y))∧raisesNew "ValueError" A R s):=by
 induction k with
 | zero =>
  intro i hk prog w A R s h
  obtain⟨hp,g,d,tk,os⟩:=s; obtain⟨hl,he,h⟩:=h
  wp_walk using wpAny_loadPart' hl
  have hi:items[((i:Nat):Int).toNat]? = none:=Array.getElem?_eq_none (Nat.le_of_sub_eq_zero hk)
  rw[hi]
  wp_walk
  exact_raiseError plainExc_ValueError h.1 h.2
 | succ k ih =>
  intro i hk prog w A R s h
  obtain⟨hp,g,d,tk,os⟩:=s; obtain⟨hl,he,h⟩:=h
  have hlt:i<items.size:=Nat.lt_of_sub_eq_succ hk
  wp_walk using wpAny_loadPart' hl
  have hi:items[((i:Nat):Int).toNat]? = some items[i]:=Array.getElem?_eq_getElem hlt
  have hc:((i:Int)+1)=((i+1:Nat):Int):=rfl
  rw[hi]
  refine wpAny_bind (he _ (Array.getElem_mem hlt) prog w _ _ ?_)
  rw[hno i hlt]
  wp_walk
  rw[hc]
  exact⟨plainId_quiet plain_remove_loop _,codeAny_builtin entry_remove_loop (by
   rw[Around.under_plainId plain_remove_loop _]
   exact ih (i+1) (congrArg Nat.pred hk) prog w A R _ ⟨hl,he,h⟩)⟩
theorem nD(l:Addr)(items:Array Value)(n:Nat)(sl:Array (Option Value))(x:Value)(e:Value→Bool)(hno:∀ m(hm:m<items.size),e items[m]=false) :
  Meets (Builtin.«list.remove» ⟨[.ref l,x],[]⟩)
   (fun A R s=>s.heap.get? l=some { cls:=.type "list",dict:=none,data:=.seq items n,slots:=sl }∧(∀ y,y∈items→EqAt A.in1 s y x (e y))∧raisesNew "ValueError" A R s):=by
 intro prog w A R s h
 obtain⟨hp,g,d,tk,os⟩:=s; obtain⟨hl,he,h⟩:=h
 wp_walk using wpAny_loadPart' hl
 exact⟨plainId_quiet plain_remove_loop _,codeAny_builtin entry_remove_loop (by
  rw[Around.under_plainId plain_remove_loop _]
  exact nC l items n sl x e hno _ 0 rfl prog w A R _ ⟨hl,he,h⟩)⟩
end Kt.Internal
end
section
open PySem PySem.W PyProof.Rows
namespace Kt.Internal
noncomputable def pC(h:Heap):List Addr→Heap
 | []=>h
 | a::r=>pC (h.update a fun o=>{ o with data:=.freed }) r
theorem get?_hide_one (h:Heap) (a b:Addr):(h.update a fun o=>{ o with data:=.freed }).get? b=if b=a then none else h.get? b:=by
 by_cases e:b=a
 ·subst e
  rw[if_pos rfl]
  cases hx:(h.update b fun o=>{ o with data:=.freed }).get? b with
  | none=>rfl
  | some o =>
   obtain⟨e1,e2⟩:=Heap.get?_some_iff.mp hx
   cases h
   simp only[Heap.update,Array.getElem?_modify,if_true,Option.map_eq_some_iff]at e1
   obtain⟨o',_,rfl⟩:=e1
   simp[Obj.isFreed]at e2
 ·rw[if_neg e,Heap.get?_update_other _ _ (Ne.symm e)]
theorem get?_hide:∀(fr:List Addr)(h:Heap)(b:Addr),(pC h fr).get? b=if b∈fr then none else h.get? b
 | [],h,b=>by simp[pC]
 | a::r,h,b=>by
  unfold pC
  rw[get?_hide r,get?_hide_one]
  by_cases e:b=a
  ·subst e; simp
  ·by_cases e2:b∈r <;> simp[e,e2]
theorem uB(h:Heap)(fr:List Addr):(pC h fr).StaysIn h:=fun b o e=>by
 rw[get?_hide]at e
 split at e
 ·cases e
 ·exact e
theorem j0{Z:aF}{s:Shared}(I:bA Z s):∀{fs:List Env},(∀ env∈fs,env.scope.kind ≠ .module∧∃ L,env.frame=some L∧L∈Z.fr)→s.heap.FunFrames (pC s.heap Z.fr) fs
 | [],_=>trivial
 | env::rest,h=>by
  obtain⟨h1,L,h2,h3⟩:=h env List.mem_cons_self
  obtain⟨_,o,e,es,ep,hd⟩:=I.frs L h3
  exact⟨h1,⟨L,o,h2,by rw[get?_hide,if_pos h3],e,fun vs h=>by rw[hd]at h; cases h⟩,j0 I fun env' he=>h env' (List.mem_cons_of_mem _ he)⟩
theorem qQ{Z:aF}{s:Shared}(I:bA Z s){h':Heap}(h1:(pC s.heap Z.fr).StaysIn h')(h2:∀ b o,s.heap.get? b=some o→(∀ vs,o.data ≠ .fields vs)→∃ sl,h'.get? b=some { o with slots:=sl }):Kp Z.n s.heap h' where
 k:=fun b o e _=>by
  by_cases hb:b∈Z.fr
  ·obtain⟨_,o',e',es,ep,hd⟩:=I.frs b hb
   rw[e]at e'; cases e'
   obtain⟨sl,h⟩:=h2 b o e fun vs h=>by rw[hd]at h; cases h
   exact .inr ⟨⟨es,ep,hd⟩,sl,h⟩
  ·exact .inl (h1 b o (by rw[get?_hide,if_neg hb]; exact e))
theorem oS{Z:aF}{s:Shared}(I:bA Z s){h':Heap}{tk:Nat}(h1:(pC s.heap Z.fr).StaysIn h')(h2:∀ b o,s.heap.get? b=some o→(∀ vs,o.data ≠ .fields vs)→∃ sl,h'.get? b=some { o with slots:=sl }):bA Z { s with heap:=h',toks:=tk }:=by
 refine I.step (fun b o hb e=>h1 b o ?_) Z.lowC fun L hL o e hd=>?_
 ·rw[get?_hide,if_neg fun hm=>?_]
  ·exact e
  ·exact absurd hb (Nat.not_lt.mpr (I.frs b hm).1)
 ·obtain⟨es,ep,hd⟩:=hd
  obtain⟨sl,h⟩:=h2 L o e fun vs h=>by rw[hd]at h; cases h
  exact⟨_,h,es,ep,hd⟩
theorem q5{M:Model}{A:Around}{E:Value→Shared→Prop}{s:Shared}{base:Heap}{env:Env}{outer:List Env}{L e:Addr}{oe:Obj}{vs:Array Value}{a0:Value}{Q:Unit→Shared→Prop}
  (hfr:A.frames=some (env::outer)) (hl:s.heap.FunFrames base (env::outer)) (hf:env.frame=some L) (he:s.heap.get? e=some oe) (hkb:base.StaysIn s.heap) (hen:base.get? e=none) (hd:oe.data = .fields vs) (h0:vs[0]? = some a0) (h1:vs[1]? = some .none)
  (h:∀ h',Heap.NotedW base (env::outer) e oe.cls a0 (rawInt L) s.heap h'→Q () { s with heap:=h' }):wpAny M A (noteFrame (.ref e) env) Q E s:=by
 unfold noteFrame
 simp only[hf]
 refine wpAny_bind (wpAny_field he hd h1 ?_)
 rw[if_neg (by decide)]
 exact wpAny_entryW hfr hl hf he hkb hen hd (Array.getElem?_eq_some_iff.mp h1).1 h0 h
abbrev Sc:=List (Nat×Obj)
def Bw(K:Frag)(h:Heap)(a:Addr)(f:Obj→Sc→Prop)(sc:Sc):Prop:=match sc with
 | []=>match K.lookup a with | some o=>f o []| none=>False
 | p::r=>match p.1 with
  | 0=>h.get? a=some p.2∧f p.2 r
  | n+1=>match K.lookup a with | some o=>f o ((n,p.2)::r)| none=>False
noncomputable def vc{α:Type}(cf:Code→(Result→Sc→Shared→Prop)→Sc→Shared→Prop)(K:Frag)(S:Setting)(Q:α→Sc→Shared→Prop)(E:Value→Sc→Shared→Prop)(t:Sem α):Sc→Shared→Prop:=match t with
 | .pure a=>Q a
 | .raise e=>E e
 | .rule _ k=>vc cf K S Q E (k ())
 | .at _ k=>vc cf K S Q E (k ())
 | .point _ k=>vc cf K S Q E (k ())
 | .ask k=>vc cf K S Q E (k S)
 | .load a _ k=>fun sc s=>Bw K s.heap a (fun o sc=>vc cf K S Q E (k o) sc s) sc
 | .alloc o k=>fun sc s=>vc cf K S Q E (k s.heap.objs.size) sc { s with heap:=s.heap.push o }
 | .update a _ f k=>fun sc s=>((s.heap.get? a).isSome=true∧K.In (s.heap.update a f))∧vc cf K S Q E (k ()) sc { s with heap:=s.heap.update a f }
 | .fresh k=>fun sc s=>vc cf K S Q E (k s.toks) sc { s with toks:=s.toks+1 }
 | .handled own k=>bif own then fun _ _=>False else vc cf K S Q E (k none)
 | .call c hd _ _ k=>match hd with | none=>cf c (fun r=>vc cf K S Q E (k r))| some _=>fun _ _=>False
 | _=>fun _ _=>False
noncomputable def DP(D:Code→Sem Fin)(K:Frag)(S:Setting):Nat→Code→(Result→Sc→Shared→Prop)→Sc→Shared→Prop
 | 0=>fun _ _ _ _=>False
 | n+1=>fun c R=>vc (DP D K S n) K S (fun fin=>match fin with | .done f=>R (.ok f)| .again c'=>fun sc s=>c'.quiet=true∧DP D K S n c' R sc s) (fun e=>R (.error e)) (D c)
section
variable{α:Type}{M:Model}{K:Frag}
theorem V4{h:Heap}{a:Addr}{f:Obj→Sc→Prop}{sc:Sc}(X:K.In h)(x:Bw K h a f sc){g:Obj→Prop}(hg:∀ o sc,f o sc→g o):∃ o,h.get? a=some o∧g o:=by
 have key:∀ sc',(match K.lookup a with | some o=>f o sc' | none=>False)→∃ o,h.get? a=some o∧g o:=fun sc' x=>by
  cases e:K.lookup a with
  | none=>rw[e]at x; exact x.elim
  | some o=>rw[e]at x; exact⟨o,X _ _ e,hg _ _ x⟩
 cases sc with
 | nil=>exact key _ x
 | cons p r =>
  obtain⟨n,o⟩:=p
  cases n with
  | zero=>exact⟨o,x.1,hg _ _ x.2⟩
  | succ n=>exact key _ x
theorem vK{cf:Code→(Result→Sc→Shared→Prop)→Sc→Shared→Prop}{A:Around}(hcf:∀{c:Code}{R:Result→Sc→Shared→Prop}{sc:Sc}{s:Shared},K.In s.heap→cf c R sc s→codeAny M (A.mark none) c (fun r s'=>∃ sc',K.In s'.heap∧R r sc' s') s)
  {Q:α→Sc→Shared→Prop} {E:Value→Sc→Shared→Prop} (hh:A.handled=none) (t:Sem α):∀{sc:Sc}{s:Shared},K.In s.heap→vc cf K ⟨M.prog,M.w.params⟩ Q E t sc s→wpAny M A t (fun a s'=>∃ sc',K.In s'.heap∧Q a sc' s') (fun e s'=>∃ sc',K.In s'.heap∧E e sc' s') s:=by
 induction t with
 | pure a=>exact fun X x _ _ _=>⟨_,X,x⟩
 | raise e=>exact fun X x _ _ _=>⟨_,X,x⟩
 | rule _ k ih=>exact fun X x Γ p hΓ=>ih () X x Γ p hΓ
 | «at» p k ih=>exact fun X x Γ _ hΓ=>ih () X x Γ p hΓ
 | point _ k ih=>exact fun X x Γ p hΓ=>ih () X x Γ p hΓ
 | ask k ih=>exact fun X x Γ p hΓ=>ih _ X x Γ p hΓ
 | load a _ k ih=>exact fun{sc s}X x Γ p hΓ=>V4 (f:=fun o sc=>vc cf K ⟨M.prog,M.w.params⟩ Q E (k o) sc s) X x fun o _ x=>ih o X x Γ p hΓ
 | alloc o k ih=>exact fun{sc s}X x Γ p hΓ=>ih _ (X.keeps fun _ _ e=>Heap.get?_push_of_some _ e) x Γ p hΓ
 | update a _ f k ih=>exact fun X x Γ p hΓ=>⟨x.1.1,ih () x.1.2 x.2 Γ p hΓ⟩
 | fresh k ih=>exact fun{sc s}X x Γ p hΓ=>ih s.toks (s:={ s with toks:=s.toks+1 }) X x Γ p hΓ
 | handled own k ih =>
  intro sc s X x Γ p hΓ
  cases own with
  | true=>exact x.elim
  | false =>
  show Sem.wp M Γ (k Γ.handled) _ _ p _
  rw[hΓ.1,hh]
  exact ih none X x Γ p hΓ
 | call c hd g l k ih =>
  intro sc s X x Γ p hΓ
  cases hd with
  | some e=>exact x.elim
  | none =>
  exact wpCode_mono (fun r s'⟨_,X',x'⟩=>ih r X' x' Γ p hΓ) (hcf X x (Γ.enter c none p) p rfl (hΓ.enter c none p nofun))
 | _=>exact fun _ x=>x.elim
theorem gT{D:Code→Sem Fin}(hD:M.den=D)(n:Nat):∀{A:Around}{c:Code}{R:Result→Sc→Shared→Prop}{sc:Sc}{s:Shared},A.handled=none→K.In s.heap→DP D K ⟨M.prog,M.w.params⟩ n c R sc s→codeAny M A c (fun r s'=>∃ sc',K.In s'.heap∧R r sc' s') s:=by
 induction n with
 | zero=>exact fun _ _ x=>x.elim
 | succ n ih =>
  intro A c R sc s hh X x
  refine codeAny_of_tree ?_
  rw[hD]
  refine wpAny_mono (vK (A:=A.under c) (ih (by rw[Around.mark_none]; exact hh)) hh (D c) X x) (fun fin s' h=>?_) fun _ _ e=>e
  obtain⟨sc',X',h⟩:=h
  cases fin with
  | done f=>exact⟨sc',X',h⟩
  | again c'=>exact⟨h.1,ih hh X' h.2⟩
end
noncomputable abbrev D0:Code→Sem Fin:=PySem.W.Fast.tw11892475500146522536 PySem.W.Fast.tw14364793385576792824
theorem jN(prog:Program)(w:World):(model prog w).den=D0:=(congrArg denote table_eq_tree).trans ((congrFun PySem.W.Fast.te11892475500146522536 treeTable).trans (congrArg PySem.W.Fast.tw11892475500146522536 PySem.W.Fast.te14364793385576792824))
theorem I7{prog:Program}{w:World}{K:Frag}{A:Around}{c:Code}{R:Result→Shared→Prop}{s:Shared}(n:Nat)(sc:Sc)(P:Prop)(hh:A.handled=none)(X:K.In s.heap)(e:DP D0 K ⟨prog,w.params⟩ n c (fun r _ s=>R r s) sc s=P)(h:P):codeAny (model prog w) A c R s :=
 codeAny_mono (gT (M:=model prog w) (jN prog w) n hh X (e.mpr h)) fun _ _⟨_,_,x⟩=>x
theorem IS{α:Type}{prog:Program}{w:World}{K:Frag}{A:Around}{t t':Sem α}{Q:α→Shared→Prop}{E:Value→Shared→Prop}{s:Shared}(et:t=t')(n:Nat)(sc:Sc)(P:Prop)(hh:A.handled=none)(X:K.In s.heap)
  (e:vc (DP D0 K ⟨prog,w.params⟩ n) K ⟨prog,w.params⟩ (fun a _ s=>Q a s) (fun e _ s=>E e s) t' sc s=P) (h:P):wpAny (model prog w) A t Q E s:=by
 subst et
 exact wpAny_mono (vK (M:=model prog w) (gT (M:=model prog w) (jN prog w) n (by rw[Around.mark_none]; exact hh)) hh t X (e.mpr h)) (fun _ _⟨_,_,x⟩=>x) fun _ _⟨_,_,x⟩=>x
def N9(R:Result→Shared→Prop)(G:Code→Sc→Shared→Prop)(f:Fin)(sc:Sc)(s:Shared):Prop:=match f with | .done f=>R (.ok f) s | .again c=>G c sc s
abbrev Mk:=Code→Option (Addr→Addr→Value×Sc)
def Z2(M:Model)(A:Around)(K:Frag)(mk:Mk)(cf:Code→(Result→Sc→Shared→Prop)→Sc→Shared→Prop)(c:Code)(R:Result→Sc→Shared→Prop)(sc:Sc)(s:Shared):Prop:=match mk c with
 | some g=>codeAny M A c (fun r s'=>∃ x d,r = .ok (.ret (g x d).1)∧K.In s'.heap∧R (.ok (.ret (g x d).1)) (g x d).2 s') s
 | none=>cf c R sc s
noncomputable def Z7(prog:Program)(w:World)(K:Frag)(n:Nat)(c:Code)(R:Result→Shared→Prop)(G:Code→Sc→Shared→Prop):Sc→Shared→Prop :=
 vc (DP D0 K ⟨prog,w.params⟩ n) K ⟨prog,w.params⟩ (N9 R G) (fun e _ s=>R (.error e) s) (D0 c)
noncomputable def Z6(prog:Program)(w:World)(A:Around)(K:Frag)(mk:Mk)(n:Nat)(c c0:Code)(R:Result→Shared→Prop):Sc→Shared→Prop :=
 Z7 prog w K n c R fun c1 sc s=>c1.quiet=true∧Z7 prog w K n c1 R (fun c' sc s=>(c'=c0∧c'.quiet=true) ∧
  vc (Z2 (model prog w) (A.under c0) K mk (DP D0 K ⟨prog,w.params⟩ n)) K ⟨prog,w.params⟩ (N9 R fun _ _ _=>False) (fun e _ s=>R (.error e) s) (D0 c0) sc s) sc s
def Af(M:Model)(K:Frag)(mk:Mk)(cf:Code→(Result→Sc→Shared→Prop)→Sc→Shared→Prop)(c:Code)(R:Result→Sc→Shared→Prop)(sc:Sc)(s:Shared):Prop:=match mk c with
 | some g=>∀ A:Around,A.handled=none→codeAny M A c (fun r s'=>∃ x d,r = .ok (.ret (g x d).1)∧K.In s'.heap∧R (.ok (.ret (g x d).1)) (g x d).2 s') s
 | none=>cf c R sc s
noncomputable def Z8(prog:Program)(w:World)(K:Frag)(mk:Mk)(n:Nat)(fd:FuncData)(body:List Stmt)(f:Addr)(args:Args)(R:Result→Shared→Prop):Sc→Shared→Prop :=
 vc (DP D0 K ⟨prog,w.params⟩ n) K ⟨prog,w.params⟩ (fun binds=>vc (DP D0 K ⟨prog,w.params⟩ n) K ⟨prog,w.params⟩ (fun env sc s=>s.heap.NoLimit∧vc (Af (model prog w) K mk (DP D0 K ⟨prog,w.params⟩ n)) K ⟨prog,w.params⟩ (N9 R fun _ _ _=>False) (fun e _ s=>R (.error e) s) (D0 (.func body env)) sc s) (fun e _ s=>R (.error e) s)
  (PySem.W.Fast.tw11113344188204177931 fd.scope fd.globals fd.closure binds (fd.qualname ++ ".<locals>.") (some f) fd.code none fd.builtins)) (fun e _ s=>R (.error e) s) (PySem.W.Fast.tw9782568553167038054 fd args)
section
variable{prog:Program}{w:World}{K:Frag}{A:Around}{R:Result→Shared→Prop}{s:Shared}
theorem KF{M:Model}{mk:Mk}{cf:Code→(Result→Sc→Shared→Prop)→Sc→Shared→Prop}(hcf:∀{c:Code}{R:Result→Sc→Shared→Prop}{sc:Sc}{s:Shared},K.In s.heap→cf c R sc s→codeAny M A c (fun r s'=>∃ sc',K.In s'.heap∧R r sc' s') s)
  {c:Code} {R:Result→Sc→Shared→Prop} {sc:Sc} {s:Shared} (X:K.In s.heap) (x:Z2 M A K mk cf c R sc s):codeAny M A c (fun r s'=>∃ sc',K.In s'.heap∧R r sc' s') s:=by
 unfold Z2 at x
 cases e:mk c with
 | none=>rw[e]at x; exact hcf X x
 | some g =>
  rw[e]at x
  refine codeAny_mono x fun r s' h=>?_
  obtain⟨x,d,e,X',h⟩:=h
  exact⟨_,X',e▸h⟩
theorem AM{c:Code}{G:Code→(Result→Sc→Shared→Prop)→Sc→Shared→Prop}{sc:Sc}(hh:A.handled=none)(hG:∀{c':Code}{R:Result→Sc→Shared→Prop}{sc:Sc}{s:Shared},K.In s.heap→G c' R sc s→codeAny (model prog w) (A.under c) c' (fun r s'=>∃ sc',K.In s'.heap∧R r sc' s') s)(X:K.In s.heap)
  (h:vc G K ⟨prog,w.params⟩ (N9 R fun _ _ _=>False) (fun e _ s=>R (.error e) s) (D0 c) sc s):codeAny (model prog w) A c R s:=by
 refine codeAny_of_tree ?_
 rw[jN]
 refine wpAny_mono (vK (M:=model prog w) (A:=A.under c) (by rw[Around.mark_none]; exact hG) hh (D0 c) X h) (fun fin s' h=>?_) fun _ _ x=>x.elim fun _ x=>x.2
 obtain⟨_,_,h⟩:=h
 cases fin with
 | done f=>exact h
 | again c'=>exact h.elim
theorem hop{c:Code}{n:Nat}{G:Code→Sc→Shared→Prop}{sc:Sc}(hh:A.handled=none)(hG:∀ c' sc s,K.In s.heap→G c' sc s→c'.quiet=true∧codeAny (model prog w) A c' R s)(X:K.In s.heap)(h:Z7 prog w K n c R G sc s):codeAny (model prog w) A c R s:=by
 refine codeAny_of_tree ?_
 rw[jN]
 refine wpAny_mono (vK (M:=model prog w) (A:=A.under c) (by rw[Around.mark_none]; exact gT (M:=model prog w) (jN prog w) n hh) hh (D0 c) X h) (fun fin s' h=>?_) fun _ _ x=>x.elim fun _ x=>x.2
 obtain⟨sc',X',h⟩:=h
 cases fin with
 | done f=>exact h
 | again c'=>exact hG c' sc' s' X' h
theorem SS{mk:Mk}{c c0:Code}(n:Nat)(sc:Sc)(P:Prop)(hh:A.handled=none)(X:K.In s.heap)(e:Z6 prog w A K mk n c c0 R sc s=P)(h:P):codeAny (model prog w) A c R s:=by
 refine hop hh (fun c1 sc s X h=>⟨h.1,hop hh (fun c' sc s X h=>⟨h.1.2,?_⟩) X h.2⟩) X (e.mpr h)
 rw[h.1.1]
 exact AM hh (KF (A:=A.under c0) (cf:=DP D0 K ⟨prog,w.params⟩ n) (gT (A:=A.under c0) (M:=model prog w) (jN prog w) n hh)) X h.2
theorem V9{A:Around}{mk:Mk}{n:Nat}{c:Code}{R:Result→Sc→Shared→Prop}{sc:Sc}{s:Shared}(hh:A.handled=none)(X:K.In s.heap)(x:Af (model prog w) K mk (DP D0 K ⟨prog,w.params⟩ n) c R sc s):codeAny (model prog w) A c (fun r s'=>∃ sc',K.In s'.heap∧R r sc' s') s:=by
 refine KF (mk:=mk) (cf:=DP D0 K ⟨prog,w.params⟩ n) (sc:=sc) (gT (M:=model prog w) (jN prog w) n hh) X ?_
 unfold Af at x
 unfold Z2
 cases e:mk c with
 | none=>rw[e]at x; exact x
 | some g=>rw[e]at x; exact x A hh
theorem SH{f:Addr}{args:Args}{o:Obj}{fd:FuncData}{body:List Stmt}{mk:Mk}{n:Nat}{sc:Sc}(hh:A.handled=none)(X:K.In s.heap)(hroom:A.depth<recursionLimit)
  (ho:s.heap.get? f=some o) (hd:o.data = .func fd) (hco:fd.scope.isCoroutine=false) (hgen:fd.scope.isGenerator=false) (hbody:fd.body = .stmts body) (hcd:s.heap.CodeRec fd.code fd.qualname)
  (h:Z8 prog w K mk n fd body f args R sc s):codeAny (model prog w) A (.call (.ref f) args) R s:=by
 refine codeAny_call_function hroom ho hd hco hgen hbody hcd ?_
 rw[PySem.W.Fast.te11113344188204177931,congrFun (congrFun PySem.W.Fast.te9782568553167038054 fd) args]
 refine wpAny_mono (vK (M:=model prog w) (A:=A.in1) (by rw[Around.mark_none]; exact gT (M:=model prog w) (jN prog w) n hh) hh _ X h) (fun binds s' h=>?_) fun _ _ x=>x.elim fun _ x=>x.2
 obtain⟨sc',X',h⟩:=h
 refine wpAny_mono (vK (M:=model prog w) (A:=A.in1) (by rw[Around.mark_none]; exact gT (M:=model prog w) (jN prog w) n hh) hh _ X' h) (fun env s' h=>?_) fun _ _ x=>x.elim fun _ x=>x.2
 obtain⟨sc',X',h1,h⟩:=h
 exact⟨h1,AM hh (V9 hh) X' h⟩
end
noncomputable def dP:List PyData→PyData→Option (List PyData)
 | [],_=>none
 | y::ys,x=>if PyData.eqv y x then some ys else(dP ys x).map (y :: ·)
noncomputable def eD:List PyData→List PyData→Option (List PyData)
 | [],ts=>some ts
 | x::xs,ts=>(dP ts x).bind (eD xs)
noncomputable def CN:List PyData→List PyData→List PyData
 | [],acc=>acc
 | x::xs,acc=>CN xs (if acc.any (fun y=>PyData.eqv y x)then acc else acc++[x])
noncomputable def ZT(xs ys:List PyData):Bool:=match eD (CN xs []) (CN ys [])with
 | some r=>r.isEmpty
 | none=>false
theorem oP:∀{ts:List PyData}{d:PyData}{ts':List PyData},dP ts d=some ts'→∃ j,∃ h:j<ts.length,PyData.eqv ts[j] d=true∧(∀ m(hm:m<ts.length),m<j→PyData.eqv ts[m] d=false)∧ts'=ts.eraseIdx j
 | y::ys,d,ts',h=>by
  rw[dP]at h
  cases hy:PyData.eqv y d with
  | true =>
   rw[hy]at h
   cases h
   exact⟨0,Nat.zero_lt_succ _,hy,fun m _ hm=>absurd hm (Nat.not_lt_zero m),rfl⟩
  | false =>
   rw[hy]at h
   obtain⟨r,hr,e⟩:=Option.map_eq_some_iff.mp h
   obtain⟨j,hj,h1,h2,e'⟩:=oP hr
   exact⟨j+1,Nat.succ_lt_succ hj,h1,fun m hm hlt=>match m,hm,hlt with
    | 0,_,_=>hy
    | m+1,hm,hlt=>h2 m (Nat.lt_of_succ_lt_succ hm) (Nat.lt_of_succ_lt_succ hlt),by rw[← e,e']; rfl⟩
theorem oQ:∀{ts:List PyData}{d:PyData},dP ts d=none→∀ m(hm:m<ts.length),PyData.eqv ts[m] d=false
 | y::ys,d,h,m,hm=>by
  rw[dP]at h
  cases hy:PyData.eqv y d with
  | true=>rw[hy]at h; cases h
  | false =>
   rw[hy]at h
   cases m with
   | zero=>exact hy
   | succ m=>exact oQ (Option.map_eq_none_iff.mp h) m (Nat.lt_of_succ_lt_succ hm)
theorem wY:∀{xs:List PyData}{x:PyData},x∈xs→x.depth≤PyData.depthAll xs
 | y::ys,x,h=>by
  rw[PyData.depthAll]
  exact(List.mem_cons.mp h).elim (fun e=>e▸Nat.le_max_left _ _) fun h=>Nat.le_trans (wY h) (Nat.le_max_right _ _)
theorem MU{ρ:aW}{x:Nat}{d:PyData}(h:bB ρ x=some d):x<ρ.length:=by
 unfold bB at h
 cases e:ρ[x]? with
 | none=>rw[e]at h; cases h
 | some q=>exact(List.getElem?_eq_some_iff.mp e).1
theorem wM{ρ:aW}{x:Nat}(q:Option PyData)(h:x<ρ.length):bB (ρ.set x q) x=q:=by
 unfold bB
 rw[List.getElem?_set,if_pos rfl,if_pos h]
 cases q <;> rfl
theorem A4{h:Heap}{vs:List Value}{ds:List PyData}{as:List Addr}(j:Nat)(r:aU h vs ds as):∃ bs,aU h (vs.eraseIdx j) (ds.eraseIdx j) bs∧∀ a∈bs,a∈as :=
 aU.ind (P:=fun vs ds as=>∀ j,∃ bs,aU h (vs.eraseIdx j) (ds.eraseIdx j) bs∧∀ a∈bs,a∈as) (fun _=>⟨[],.nil,fun _ h=>h⟩) (fun r1 r2 i j=>by
  cases j with
  | zero=>exact⟨_,r2,fun a ha=>List.mem_append_right _ ha⟩
  | succ j =>
   obtain⟨bs,hb,hs⟩:=i j
   exact⟨_++bs,.cons r1 hb,fun a ha=>(List.mem_append.mp ha).elim (List.mem_append_left _) fun ha=>List.mem_append_right _ (hs a ha)⟩) r j
section
variable{Z:aF}{cl:Nat→List PyData→Option PyData}{lvl:Nat}{nm:List Str}{sc:Scope}
theorem HG{A:Around}{env:Env}{ρ:aW}{O:List (Option Nat×Addr)}{s:Shared}{Q:Value→Shared→Prop}{E:Value→Shared→Prop}{x:Expr}{p:PE}{q pos:Pos}{xs:List PyData}(hB:f8 Z)(hg:aR sc "list" = true)(hst:aC x=false)(h:SE Z cl lvl nm sc x p)
  (X:Cx Z lvl nm sc A env ρ O s) (hx:aH cl p ρ=some (.list xs))
  (hQ:∀ b bs s',bA Z s'→Kp Z.n s.heap s'.heap→Rd s'.heap (.ref b) (.list xs) (b::bs)→bK (.list xs)=true→(∀ yb∈O,yb.2∈b::bs→iX yb.1 (lG p))→s.heap.get? b=none→Z.n≤b→Q (.ref b) s') :
  wpAny (model Z.prog Z.w) A (eval (.Call (.Name "list" q) [x] [] pos) env) Q E s :=
 qD (ps:=.cons p .nil) (ds:=[.list xs]) hB X hg (v:=.type "list") (by decide) nofun nofun (aY hst) (yC hst h) (by rw[kE,hx]; rfl) fun vs as s₁ I₁ k₁ r₁ ok₁ o₁ =>
  kP (m:=fun vs as=>(∀ yb∈O,yb.2∈as→iX yb.1 (r8 (.cons p .nil)))→wpAny _ A (call (.type "list") vs) Q E s₁) r₁ (fun v as r1 o₁=>by
   obtain⟨la,ws,n,sl,as',e,ho,rvs,e'⟩:=eT r1
   subst e e'
   have hok:bK (.list xs)=true:=(aA ok₁).1
   have hn:Z.n≤s₁.heap.objs.size:=(X.he.kp k₁).size
   have hsz:ws.size=xs.length:=Array.length_toList.symm.trans (aP rvs)
   refine call_list_seq la (.inl rfl) ho rfl rfl (fun h' c' hk hnew=>?_) (hsz▸(rY hok).1)
   refine hQ s₁.heap.objs.size as' _ (I₁.full (tk:=s₁.toks) hk) (k₁.trans (Kp.of hk)) (.list hnew ⟨rfl,rfl⟩ rfl (rvs.map fun _ _ _ e _=>hk _ _ e)) hok (fun yb hy hm=>(List.mem_cons.mp hm).elim (fun e=>?_) fun hm=>?_) (k₁.none hn (get?_ge (Nat.le_refl _))) hn
   ·exact absurd ((X.he.kp k₁).lt yb hy) (by rw[e]; exact Nat.lt_irrefl _)
   ·obtain⟨y,h1,h2⟩:=o₁ yb hy (List.mem_cons_of_mem _ hm)
    exact⟨y,by rw[r8,r8,List.append_nil]at h1; exact h1,h2⟩) o₁
theorem LY{A:Around}{E:Value→Shared→Prop}{s:Shared}{Q:Value→Shared→Prop}{b:Addr}{items:Array Value}{c:Nat}{sl:Array (Option Value)}{ts:List PyData}{bs cs:List Addr}{v:Value}{d:PyData}(hA:f6 Z lvl A)
  (ho:s.heap.get? b=some { cls:=.type "list",dict:=none,data:=.seq items c,slots:=sl }) (r:aU s.heap items.toList ts bs) (rv:Rd s.heap v d cs) (hts:bK (.list ts)=true) (hd:bK d=true) (hdep:d.depth≤64)
  (hE:dP ts d=none→∀ h' tk e,Heap.NewExc s.heap h' e "ValueError" → E (.ref e) { s with heap:=h',toks:=tk })
  (hQ':∀ ts' j,dP ts d=some ts'→j<ts.length→ts'=ts.eraseIdx j→Q .none { s with heap:=s.heap.update b (Obj.mapSeq fun xs=>xs.eraseIdxIfInBounds j) }) :
  wpAny (model Z.prog Z.w) A (call (.builtin "list.remove") [.ref b,v]) Q E s:=by
 have hok:=rY hts
 have hlen:items.size=ts.length:=Array.length_toList.symm.trans (aP r)
 obtain⟨e,he1,he2⟩:=BA (A:=A) r rv hok.2 hd (hA.u (Nat.le_trans (Nat.min_le_right _ _) hdep))
 have hget:∀ m(hm:m<items.size),e items[m]=PyData.eqv (ts[m]'(hlen▸hm)) d:=fun m hm=>by
  have:(items.toList.map e)[m]? = _:=congrArg (·[m]?) he2
  rw[List.getElem?_map,List.getElem?_map,List.getElem?_eq_getElem (by rw[Array.length_toList]; exact hm),List.getElem?_eq_getElem (hlen▸hm)]at this
  exact Option.some.inj this
 cases hr:dP ts d with
 | none=>exact call_meets F.slot_list_remove ⟨_,ho,rfl⟩ F.entry_list_remove (F.args_list_remove_2 _ _) (nD b items c sl v e fun m hm=>(hget m hm).trans (oQ hr m (hlen▸hm))) ⟨ho,he1,hA.handled,hE hr⟩
 | some ts' =>
  obtain⟨j,hj,h1,h2,h3⟩:=oP hr
  exact call_meets F.slot_list_remove ⟨_,ho,rfl⟩ F.entry_list_remove (F.args_list_remove_2 _ _) (vE b items c sl v e j (hlen▸hj) ((hget j _).trans h1) (fun m hm hlt=>(hget m hm).trans (h2 m (hlen▸hm) hlt)) (hlen▸hok.1)) ⟨ho,he1,hQ' ts' j hr hj h3⟩
theorem LW{A:Around}{env:Env}{σ:eV}{O:List (Option Nat×Addr)}{s:Shared}{x4 x5:Nat}{n4 n5:Str}{p4 p5 ap cp sp:Pos}{b:Addr}{ts:List PyData}{d:PyData}{Q:Flow→Shared→Prop}{E:Value→Shared→Prop}
  (X:Sx Z lvl nm sc A env σ O s) (hnd:nm.Nodup) (hx4:nm[x4]? = some n4) (hx5:nm[x5]? = some n5) (hk4:iU sc n4=true) (hk5:iU sc n5=true) (h4d:n4≠("__debug__" : Str)∧n4≠("__classdict__" : Str)) (h5d:n5≠("__debug__" : Str)∧n5≠("__classdict__" : Str)) (hline:(ap.endLine==cp.line)=true)
  (hl4:bB σ.env x4=some (.list ts)) (hl5:bB σ.env x5=some d) (hacc:uZ env s.heap n4 (.ref b)) (h3:(some x4,b)∈O) (hdep:d.depth≤64)
  (hQ:∀ ts' s',dP ts d=some ts'→hY Z nm env ⟨σ.env.set x4 (some (.list ts')),σ.own⟩ O s'→bH Z env O O s.heap s'.heap→uZ env s'.heap n4 (.ref b)→Q .next s')
  (hE:dP ts d=none→∀ h' tk e,Heap.NewExc s.heap h' e "ValueError" → E (.ref e) { s with heap:=h',toks:=tk }) :
  wpAny (model Z.prog Z.w) A (exec (.Expr (.Call (.Attribute (.Name n4 p4) "remove" ap) [.Name n5 p5] [] cp) sp) env) Q E s:=by
 have S:=X.S
 have hint:interactive env=false:=by unfold interactive; rw[S.eok.kind]; rfl
 have hpl:aV [.Name n5 p5]:=aY rfl
 have hv4:WZ env n4:=(X.kind hk4).elim .inl fun h=>.inr (.inl h)
 obtain⟨v4,as4,ac4,r4,ok4,_⟩:=S.eok.vars x4 _ n4 hl4 hx4 hv4
 cases ac4.uniq hacc
 obtain⟨b',items,c,sl,bs,e,hobj,ra,rfl⟩:=eT r4
 cases e
 obtain⟨v5,as5,ac5,r5,ok5,_⟩:=S.eok.vars x5 _ n5 hl5 hx5 ((X.kind hk5).elim .inl fun h=>.inr (.inl h))
 refine wpAny_Expr (wpAny_Call_method_lateS (aQ rfl _ _ _) (jM hpl (Nat.le_of_ble_eq_true rfl)) hline ?_) hint rfl
 refine wpAny_Name (ac4.load S.eok.kind h4d.2 ?_) (beq_eq_false_iff_ne.mpr h4d.1)
 refine⟨"list", "list.remove",F.plainAttrs_list,F.slot_list_remove,F.type_list_remove,⟨_,hobj,rfl⟩,fun a e=>by cases e; exact⟨_,hobj,rfl⟩,?_⟩
 refine aT nofun (hpl.1 env cp) (bT (hpl.2.1 nofun env cp) ?_)
 refine Calls.spliced_cons (wpAny_Name (ac5.load S.eok.kind h5d.2 (Calls.spliced_nil ?_)) (beq_eq_false_iff_ne.mpr h5d.1))
 refine LY X.ha hobj ra r5 ok4 ok5 hdep hE fun ts' j hr hj hts'=>?_
 have hlen:items.size=ts.length:=Array.length_toList.symm.trans (aP ra)
 have herase:(items.eraseIdxIfInBounds j).toList=items.toList.eraseIdx j:=by
  unfold Array.eraseIdxIfInBounds
  rw[dif_pos (hlen▸hj),Array.toList_eraseIdx]
 obtain⟨bs',rb,hsub⟩:=A4 j ra
 subst hts'
 obtain⟨S',st',ac',_⟩:=uF (items':=items.eraseIdxIfInBounds j) S hnd hx4 hl4 hv4 hacc h3 hobj ra (Heap.SameBut.update s.heap b _) (Heap.get?_update_self (Obj.mapSeq fun xs=>xs.eraseIdxIfInBounds j) hobj rfl) (by rw[herase]; exact rb) (fun h=>r4.apart rfl (hsub _ h)) (fun a ha=>.inl (hsub a ha))
  (zD (Nat.le_trans (List.length_eraseIdx_le ..) (rY ok4).1) (cC.mpr fun q hq=>cC.mp (rY ok4).2 q (List.mem_of_mem_eraseIdx hq)))
 exact hQ _ _ hr S' st' ac'
theorem LX{A:Around}{env:Env}{σ:eV}{O:List (Option Nat×Addr)}{s:Shared}{x2 x4 x5:Nat}{n4 n5:Str}{p4 p5 p5' ap cp sp fpos:Pos}{iter:Expr}{b:Addr}{xs ts:List PyData}{R:Flow→Shared→Prop}{E:Value→Shared→Prop}
  (X:Sx Z lvl nm sc A env σ O s) (hnd:nm.Nodup) (hi:SI Z cl lvl nm sc iter (.of (.var x2))) (hset:iO iter=false) (hxs:zA cl (.of (.var x2)) σ.env=some xs)
  (h24:x2≠x4) (h45:x4≠x5) (hx4:nm[x4]? = some n4) (hx5:nm[x5]? = some n5) (hk4:iU sc n4=true) (hk5:iU sc n5=true) (h4d:n4≠("__debug__" : Str)∧n4≠("__classdict__" : Str)) (h5d:n5≠("__debug__" : Str)∧n5≠("__classdict__" : Str)) (hline:(ap.endLine==cp.line)=true)
  (hl4:bB σ.env x4=some (.list ts)) (hacc:uZ env s.heap n4 (.ref b)) (h3:(some x4,b)∈O) (hdep:PyData.depthAll xs≤64) (hlen5:x5<σ.env.length)
  (hQ:∀ r s' σ' O',eD xs ts=some r→bB σ'.env x4=some (.list r)→hY Z nm env σ' O' s'→bH Z env O O' s.heap s'.heap→R .next s')
  (hE:eD xs ts=none→∀ s₀ σ₀ O₀ O',hY Z nm env σ₀ O₀ s₀→bH Z env O O' s.heap s₀.heap→∀ h' tk e,Heap.NewExc s₀.heap h' e "ValueError" → notedBy (model Z.prog Z.w) A env (fun x s'=>cameBackBy (model Z.prog Z.w) A env E x s') (.ref e) { s₀ with heap:=h',toks:=tk }) :
  wpAny (model Z.prog Z.w) A (exec (.For (.Name n5 p5) iter [.Expr (.Call (.Attribute (.Name n4 p4) "remove" ap) [.Name n5 p5'] [] cp) sp] [] fpos) env) R E s:=by
 refine FK (fun k σ' O' s'=>∃ ts',eD (xs.drop k) ts'=eD xs ts∧bB σ'.env x4=some (.list ts')∧x5<σ'.env.length∧(some x4,b)∈O'∧uZ env s'.heap n4 (.ref b)) X hnd hx5 hk5 hset hi hxs
  (fun I s₁ I₁ k₁=>⟨ts,rfl,hl4,hlen5,(dK h3).resolve_right fun⟨z,hz,e⟩=>?_,hacc.kp k₁ X.S.eok.new fun c hc hk=>(X.S.eok.cellAt hk hc).1⟩)
  (fun k σ' O' s₀ s₂ I⟨ts',h1,h2,h3,h4,h5⟩_ _ _ _ T=>⟨ts',h1,h2,h3,h4,T.acc _ _ nofun h5⟩) (fun k d σ' O' s₂ s₃ hdk okd⟨ts',h1,h2,h3,h4,h5⟩X₃ _ T₃ out _=>?_) fun σ' O' s₀ s'⟨ts',h1,h2,_⟩S' st=>?_
 ·cases e
  exact h24 (List.mem_singleton.mp hz).symm
 ·obtain⟨hlt,e⟩:=List.getElem?_eq_some_iff.mp hdk
  rw[List.drop_eq_getElem_cons hlt,e,eD]at h1
  have h4':(some x4,b)∈bZ O' [x5]:=bQ.mpr ⟨h4,fun⟨z,hz,e⟩=>by cases e; exact h45 (List.mem_singleton.mp hz)⟩
  have hl4':bB (σ'.env.set x5 (some d)) x4=some (.list ts'):=(AJ _ (Ne.symm h45)).trans h2
  refine wpAny_execs_cons (LW X₃ hnd hx4 hx5 hk4 hk5 h4d h5d hline hl4' (wM _ h3) (T₃.other hx5 (fun e=>h45 (jB hnd hx4 (e▸hx5))) h5) h4' (Nat.le_trans (wY (List.mem_of_getElem? hdk)) hdep) (fun ts'' s₄ hr S₄ st₄ ac₄=>?_) fun hr h' tk e' hx=>?_)
  ·rw[hr]at h1
   exact wpAny_execs_nil ⟨_,_,⟨ts'',h1,wM _ (MU hl4'),by rw[List.length_set,List.length_set]; exact h3,h4',ac₄⟩,S₄,st₄⟩
  ·rw[hr]at h1
   exact hE h1.symm s₃ _ _ _ X₃.S (out _ _ bH.refl) h' tk e' hx
 ·rw[List.drop_length]at h1
  exact hQ ts' s' σ' _ h1.symm h2 S' st
theorem uT{M:Model}{A:Around}{E:Value→Shared→Prop}{s:Shared}{base:Heap}{l:List Env}{e L:Addr}{cls a0:Value}{Q:Unit→Shared→Prop}(hh:Heap.HeldW base l e cls a0 L s.heap)
  (hQ:∀ h',Heap.HeldW base l e cls a0 L h'→s.heap.UpToSlots h'→Q () { s with heap:=h' }):wpAny M A (setFlight (.ref e) (some L)) Q E s:=by
 obtain⟨hkb,hen,hl,ht⟩:=hh
 obtain⟨oe,vs,T,oT,ts,he,hcls,hd,h1,hnT,hTe,hT,hdT,h3⟩:=ht
 have hsz3:3<ts.size:=(Array.getElem?_eq_some_iff.mp h3).1
 have other:∀ b,b≠T→(s.heap.update T (Obj.mapFields (·.setIfInBounds 3 (rawInt L)))).get? b=s.heap.get? b:=fun b hb=>Heap.get?_update_other _ _ (Ne.symm hb)
 have noRecord:∀ b o,s.heap.get? b=some o→(∀ vs,o.data ≠ .fields vs)→b≠T:=fun b o hb hnf q=>by
  rw[q,hT]at hb; injection hb with hb; subst hb; exact hnf ts hdT
 unfold setFlight
 refine wpAny_bind (wpAny_field he hd h1 ?_)
 rw[if_pos (show(Value.ref T != Value.none)=true from by simp)]
 refine wpAny_setField hT hdT hsz3 (hQ _ ⟨fun b o hbo=>(other b fun q=>by rw[q,hnT]at hbo; cases hbo).trans (hkb b o hbo),hen,
  hl.of_keeps fun b o hb hnf=>⟨o,(other b (noRecord b o hb hnf)).trans hb,rfl⟩,?_⟩ fun b o hb hnf=>⟨o.slots,(other b (noRecord b o hb hnf)).trans hb⟩)
 exact⟨oe,vs,T,_,_,(other e (Ne.symm hTe)).trans he,hcls,hd,h1,hnT,hTe,Heap.get?_update_self _ hT (Obj.isFreed_of_fields (Obj.data_mapFields hdT _)),Obj.data_mapFields hdT _,by simp[hsz3]⟩
theorem vI{prog:Program}{w:World}{A:Around}{E:Value→Shared→Prop}{s:Shared}{base:Heap}{l:List Env}{env:Env}{e L:Addr}{cls a0:Value}(hf:env.frame=some L)(hh:Heap.HeldW base l e cls a0 L s.heap)
  (hQ:∀ h',Heap.HeldW base l e cls a0 L h'→s.heap.UpToSlots h'→E (.ref e) { s with heap:=h' }):cameBackBy (model prog w) A env E (.ref e) s:=by
 have hh0:=hh
 obtain⟨hkb,hen,hl,ht⟩:=hh
 obtain⟨oe,vs,T,oT,ts,he,hcls,hd,h1,_⟩:=ht
 unfold cameBackBy
 refine wpAny_bind (wpAny_field he hd h1 ?_)
 rw[if_neg (by simp)]
 rw[hf]
 exact uT hh0 hQ
theorem y5{A:Around}{E:Value→Shared→Prop}{R:Flow→Shared→Prop}{env:Env}{outer:List Env}{σ:eV}{O:List (Option Nat×Addr)}{s:Shared}{e:Addr}{h₁:Heap}{tk:Nat}{p1 p2 p3 p4:Pos}{k:Nat}(X:Sx Z lvl nm sc A env σ O s)
  (hfr:A.frames=some (env::outer)) (hf:env.frame=some env.locals) (hg:aR sc "ValueError" = true) (hV:Z.mg "ValueError" = none∧Z.mb "ValueError" = some (.type "ValueError")) (hx:Heap.NewExc s.heap h₁ e "ValueError")
  (hR:∀ s',bA Z s'→Kp Z.n s.heap s'.heap→R (.ret (.bool false)) s') :
  notedBy (model Z.prog Z.w) A env (fun x s'=>cameBackBy (model Z.prog Z.w) A env (fun x s₁=>wpAny (model Z.prog Z.w) A (noteFrame x env) (fun _ s₂=>wpAny (model Z.prog Z.w) A (setFlight x none) (fun _ s₃ =>
   wpAny (model Z.prog Z.w) A (handleBy x env [.ExceptHandler (some (.Name "ValueError" p1)) none [.Return (some (.Constant (.bool false) k p2)) p3] p4]) R E s₃) E s₂) E s₁) x s') (.ref e) { s with heap:=h₁,toks:=tk }:=by
 have hI:=X.S.inv
 obtain⟨fs,hfs,hfs2⟩:=X.ha.frames
 cases hfr.symm.trans hfs
 have hl1:h₁.FunFrames (pC s.heap Z.fr) (env::outer):=(j0 hI hfs2).of_keeps fun b o hb _=>⟨o,hx.keeps b o hb,rfl⟩
 have hkb:(pC s.heap Z.fr).StaysIn h₁:=fun b o hb=>hx.keeps b o (uB s.heap Z.fr b o hb)
 have hen:(pC s.heap Z.fr).get? e=none:=by
  rw[get?_hide,hx.new]
  split <;> rfl
 obtain⟨ob,t,he,hc,hd⟩:=hx.there
 generalize hbe:pC s.heap Z.fr=base at hl1 hkb hen
 have fin:∀{h':Heap},base.StaysIn h'→s.heap.UpToSlots h'→bA Z { s with heap:=h',toks:=tk }∧Kp Z.n s.heap h':=fun h1 h2=>⟨oS hI (hbe▸h1) h2,qQ hI (hbe▸h1) h2⟩
 refine q5 (s:={ s with heap:=h₁,toks:=tk }) hfr hl1 hf he hkb hen hd rfl rfl fun h₂⟨k1,k2,k3,k4⟩=>?_
 have up12:s.heap.UpToSlots h₂:=(Heap.UpToSlots.of_keeps hx.keeps).trans k4
 refine vI (s:={ s with heap:=h₂,toks:=tk }) hf ⟨k1,hen,k2,k3⟩ fun h₃ hh₃ up₃=>?_
 refine wpAny_noteFrame_againW hf hh₃.2.2.2 (wpAny_landsW hh₃ fun h₄ hh₄ up₄=>?_)
 have up14:s.heap.UpToSlots h₄:=(up12.trans up₃).trans up₄
 have I₄:=(fin hh₄.1 up14).1
 refine wpAny_handleBy_builtin (X := "ValueError") (T := "ValueError") (b:=true) F.isExc_ValueError F.notTuple_ValueError F.self_ValueError ?_
 obtain⟨g1,g2⟩:=gB hg
 refine Calls.Name_function_global X.S.eok.kind (X.hs.2.2 _ g1) (Calls.loadGlobal_builtin (mg:=Z.mg) (mb:=Z.mb) (by rw[X.S.eok.glob]; exact I₄.glob) hV.1 (by rw[X.S.eok.blt]; exact I₄.bltn) hV.2 ?_) g2
 obtain⟨ob',hob',hcls'⟩:=hh₄.2.2.2.at.there
 refine⟨rfl,⟨ob',hob',hcls'.trans hc⟩,?_⟩
 rw[if_pos rfl]
 refine wpAny_setFlight_noneW hh₄.1 hh₄.2.2.1 hh₄.2.2.2.at fun h₅ g1 g2 g3 g4=>?_
 have f5:=fin g1 (up14.trans fun b o hb hn=>⟨o.slots,g4 b o hb hn⟩)
 refine wpAny_execs_cons (wpAny_Return_some ?_)
 rw[arm_eval_Constant]
 exact wpAny_pure (hR _ f5.1 f5.2)
end
noncomputable def AX(fn nm:List Str)(sc:Scope)(d:Nat)(s1 s2 s5:Stmt)(x3 it:Expr)(l t e t2 e2 rm ve:Str)(ap cp:Pos):List Bool :=
 [nm.length==6,decide nm.Nodup,IH fn nm sc (.assign 2 (.call d (.cons (.var 0) .nil))) s1,IH fn nm sc (.assign 3 (.call d (.cons (.var 1) .nil))) s2,l==("list" : Str),aR sc "list",!aC x3,cR fn nm sc (.var 3) x3,
  nm[4]? == some t,nm[5]? == some e,t2==t,e2==e,rm==("remove" : Str),ve==("ValueError" : Str),aR sc "ValueError",iU sc t,iU sc e,t != ("__debug__" : Str),t != ("__classdict__" : Str),e != ("__debug__" : Str),e != ("__classdict__" : Str),
  ap.endLine==cp.line,!iO it,cR fn nm sc (.var 2) it,IH fn nm sc (.ret (.nt (.var 4))) s5]
noncomputable def AO(e:Expr):Bool:=bL e fun c _ _=>match c with | .bool b=>!b | _=>false
noncomputable def yT(fn:List Str)(nm:List Str)(sc:Scope)(d:Nat)(body:List Stmt):Bool :=
 jJ body fun s1 r=>jJ r fun s2 r=>jJ r fun s3 r=>jJ r fun s4 r=>gK r fun s5=>cP s3 fun ts v _=>gK ts fun tn=>aX tn fun t _=>dY v fun lf as ks _=>ks.isEmpty&&(aX lf fun l _=>gK as fun x3 =>
 rG s4 fun tb th te tf _=>te.isEmpty&&(tf.isEmpty&&(gK tb fun fo=>nR fo fun en it fb fe _=>fe.isEmpty&&(aX en fun e _=>gK fb fun fs=>i9 fs fun fc _=>dY fc fun at_ fas fks cp=>fks.isEmpty&&(bM at_ fun te rm ap=>aX te fun t2 _=>gK fas fun ee=>aX ee fun e2 _ =>
 gK th fun eh=>W6 eh fun ty en hb _=>en.isNone&&(iB ty fun ty=>aX ty fun ve _=>gK hb fun rs=>eN rs fun rv _=>iB rv fun rv=>AO rv&&(AX fn nm sc d s1 s2 s5 x3 it l t e t2 e2 rm ve ap cp).all id))))))
inductive S2(fn nm:List Str)(sc:Scope)(d:Nat):List Stmt→Prop
 | mk {s1 s2 s5:Stmt} {x3 it:Expr} {l t e t2 e2 rm ve:Str} {ap cp p1 p2 p3 p4 p5 p6 p7 p8 p9 p10 p11 p12 p13 p14:Pos} {k:Nat} (h:(AX fn nm sc d s1 s2 s5 x3 it l t e t2 e2 rm ve ap cp).all id=true) :
  S2 fn nm sc d [s1,s2,.Assign [.Name t p1] (.Call (.Name l p2) [x3] [] p3) p4,
   .Try [.For (.Name e p5) it [.Expr (.Call (.Attribute (.Name t2 p6) rm ap) [.Name e2 p7] [] cp) p8] [] p9] [.ExceptHandler (some (.Name ve p10)) none [.Return (some (.Constant (.bool false) k p11)) p12] p13] [] [] p14,s5]
theorem M0{e:Expr}{m:Expr→Prop}(h:AO e=true)(k:∀ a p,m (.Constant (.bool false) a p)):m e:=bS h fun c a p h=>by
 cases c with
 | bool b=>cases b with
  | false=>exact k a p
  | true=>cases h
 | _=>cases h
theorem NJ{fn nm:List Str}{sc:Scope}{d:Nat}{body:List Stmt}(h:yT fn nm sc d body=true):S2 fn nm sc d body:=by
 apply cZ h; intro _ _ h; apply cZ h; intro _ _ h; apply cZ h; intro _ _ h; apply cZ h; intro _ _ h; apply cJ h; intro _ h; apply dL h; intro _ _ _ h; apply cJ h; intro _ h; apply aN h; intro _ _ h
 apply eH h; intro _ _ _ _ h; refine aB h fun z h=>?_; apply d9 z; apply aN h; intro _ _ h; apply cJ h; intro _ h
 apply MK h; intro _ _ _ _ _ h; refine aB h fun z h=>?_; apply d9 z; refine aB h fun z h=>?_; apply d9 z; apply cJ h; intro _ h; apply AD h; intro _ _ _ _ _ h; refine aB h fun z h=>?_; apply d9 z; apply aN h; intro _ _ h; apply cJ h; intro _ h
 apply pZ h; intro _ _ h; apply eH h; intro _ _ _ _ h; refine aB h fun z h=>?_; apply d9 z; apply b6 h; intro _ _ _ h; apply aN h; intro _ _ h; apply cJ h; intro _ h; apply aN h; intro _ _ h
 apply cJ h; intro _ h; apply YL h; intro _ _ _ _ h; refine aB h fun z h=>?_; apply nK z; apply qX h; intro _ h; apply aN h; intro _ _ h; apply cJ h; intro _ h; apply iG h; intro _ _ h; apply qX h; intro _ h
 refine aB h fun z h=>?_; apply M0 z; intro _ _
 exact .mk h
section
variable{Z:aF}{cl:Nat→List PyData→Option PyData}{lvl:Nat}{fn:List Str}
noncomputable def iQ(xs' ys':List PyData):Bool:=match eD xs' ys' with | some r=>r.isEmpty | none=>false
theorem y4(hB:f8 Z)(hV:Z.mg "ValueError" = none∧Z.mb "ValueError" = some (.type "ValueError"))(hC:∀ fr,dZ (Z.at fr) lvl fn cl){d:Nat}{n:Str}{a:Addr}{o:Obj}{fd:FuncData}{body:List Stmt}{nm:List Str}(F:xG Z n a o fd body nm 2)(hck:yT fn nm fd.scope d body=true){xs ys xs' ys':List PyData}
  (hx:cl d [.list xs]=some (.list xs')) (hy:cl d [.list ys]=some (.list ys')) (hdep:PyData.depthAll xs'≤64)
  {A:Around} {s:Shared} {vs:List Value} {as:List Addr} {Q:Value→Shared→Prop} {E:Value→Shared→Prop} (hA:f6 Z (lvl+1) A) (hI:bA Z s) (hsz:Z.n≤s.heap.objs.size) (r:aU s.heap vs [.list xs,.list ys] as) (hok:cL [.list xs,.list ys]=true)
  (hQ:∀ v bs s',bA Z s'→Kp Z.n s.heap s'.heap→Rd s'.heap v (.bool (iQ xs' ys')) bs→bK (.bool (iQ xs' ys'))=true→(∀ a∈bs,a∈as∨∀ o,s.heap.get? a=some o→o.cls = .none)→Q v s') :
  wpAny (model Z.prog Z.w) A (call (.ref a) vs) Q E s:=by
 refine uQ (size:=6) F (args:=[.list xs,.list ys]) rfl hA hI hsz r hok hQ fun env s₁ R E' O henv X _ hR=>?_
 obtain⟨outer,hout⟩:∃ outer,(A.deeper env).frames=some (env::outer):=by
  obtain⟨fs,h1,_⟩:=hA.frames
  exact⟨fs,by show A.frames.map _=_; rw[h1]; rfl⟩
 have hfm:env.frame=some env.locals:=by rw[henv]; rfl
 clear henv
 generalize s.heap.objs.size::Z.fr=fr at X hR
 have hB':f8 (Z.at fr):=hB
 have hC':=hC fr
 obtain⟨hc⟩:=NJ hck
 rename_i s1 s2 s5 x3 it l t e t2 e2 rm ve ap cp p1 p2 p3 p4 p5 p6 p7 p8 p9 p10 p11 p12 p13 p14 k1
 have c2:nm.Nodup:=of_decide_eq_true (aL hc 1 rfl)
 cases eq_of_beq (aL hc 4 rfl)
 cases eq_of_beq (aL hc 10 rfl)
 cases eq_of_beq (aL hc 11 rfl)
 cases eq_of_beq (aL hc 12 rfl)
 cases eq_of_beq (aL hc 13 rfl)
 have c9:nm[4]? = some t:=eq_of_beq (aL hc 8 rfl)
 have c10:nm[5]? = some e:=eq_of_beq (aL hc 9 rfl)
 have c16:iU fd.scope t=true:=aL hc 15 rfl
 have c17:iU fd.scope e=true:=aL hc 16 rfl
 have hi0:eI 6 [.list xs,.list ys]=[some (.list xs),some (.list ys),none,none,none,none]:=rfl
 rw[hi0]at X
 refine wpAny_execs_cons (xK hB' hC' c2 0 _ _ _ (aL hc 2 rfl) X (fl:=.next ⟨[some (.list xs),some (.list ys),some (.list xs'),none,none,none],[]⟩) (congrArg (Option.map _) hx) fun s₂ O₂ S₂ st₂=>?_)
 have X₂:=X.go S₂
 refine wpAny_execs_cons (xK hB' hC' c2 0 _ _ _ (aL hc 3 rfl) X₂ (fl:=.next ⟨[some (.list xs),some (.list ys),some (.list xs'),some (.list ys'),none,none],[]⟩) (congrArg (Option.map _) hy) fun s₃ O₃ S₃ st₃=>?_)
 have X₃:=X.go S₃
 refine wpAny_execs_cons (wpAny_Assign_Name (HG (Z:=Z.at fr) (cl:=cl) (p:=.var 3) (xs:=ys') hB' (aL hc 5 rfl) (bO (aL hc 6 rfl)) (bD hB' hC' _ _ _ (aL hc 7 rfl)).1 X₃.cx rfl fun b bs s₄ I₄ k₄ r₄ ok₄ ho hbnone hbn=>?_) rfl)
 refine rD (Z:=Z.at fr) S₃ c2 c9 (X₃.kind c16) I₄ k₄ r₄ ok₄ hbnone hbn ho fun s₅ S₅ st₅ T₅=>?_
 obtain⟨nb,b',g1,g2,g3⟩:=S₅.own 4 List.mem_cons_self
 cases c9.symm.trans g1
 have stAll:=((st₂.trans st₃).trans st₅)
 refine wpAny_execs_cons (wpAny_Try_except (wpAny_execs_cons (LX (Z:=Z.at fr) (cl:=cl) (x2:=2) (x4:=4) (x5:=5) (X.go S₅) c2 (RV (bD hB' hC' _ _ _ (aL hc 23 rfl)).1) (bO (aL hc 22 rfl)) (xs:=xs') rfl (by decide) (by decide) c9 c10 c16 c17 ⟨bne_iff_ne.mp (aL hc 17 rfl),bne_iff_ne.mp (aL hc 18 rfl)⟩ ⟨bne_iff_ne.mp (aL hc 19 rfl),bne_iff_ne.mp (aL hc 20 rfl)⟩ (aL hc 21 rfl)
  rfl g2 g3 hdep (Nat.le_of_ble_eq_true rfl) (fun rr s₆ σ' O₆ hr hl4 S₆ st₆=>wpAny_execs_nil (wpAny_execs_nil ?_)) fun hr s₀ σ₀ O₀ O' S₀ st h' tk e hx=>?_)))
 ·have he:iQ xs' ys'=rr.isEmpty:=by unfold iQ; rw[hr]
  refine wpAny_execs_cons (xK hB' hC' c2 0 _ _ _ (aL hc 24 rfl) (X.go S₆) (fl:=.ret (.bool rr.isEmpty)) ?_ fun v as' s₇ O₇ I₇ r₇ ok₇ hr₇ st₇=>?_)
  ·show((bB σ'.env 4).bind _).map Fl.ret=_
   rw[hl4]
   cases rr <;> rfl
  ·exact(hR v as' s₇ O₇ I₇ (by rw[he]; exact r₇) rfl (fun a ha=>hr₇ a (((stAll.trans st₆).resv a).mpr ha)) ((stAll.trans st₆).trans st₇)).1
 ·have he:iQ xs' ys'=false:=by unfold iQ; rw[hr]
  exact y5 (Z:=Z.at fr) (X.go S₀) hout hfm (aL hc 14 rfl) hV hx fun s' I' k'=>(hR _ [] s' _ I' (by rw[he]; exact .bool false) rfl nofun ((stAll.trans st).trans (bH.kp k'))).1
end
set_option genCtorIdx false in
inductive OV where
 | d (x:PyData)
 | o (k:Nat)
 | ty (T:String)
set_option genCtorIdx false in
inductive FO where
 | inst (c:Nat)
 | dict (es:List (Str×OV))
 | list (xs:List OV)
 | meth (k:Nat)
 | deq
 | plain
abbrev St:=List FO
abbrev LO:=List (Option OV)
set_option genCtorIdx false in
mutual
inductive OE where
 | lit (d:PyData)
 | var (x:Nat)
 | ty (T:String)
 | attr (c:Nat) (e:OE) (a:Str)
 | prop (c:Nat) (e:OE) (a:Str) (f:Nat)
 | nt (e:OE)
 | bool (isAnd:Bool) (a b:OE)
 | cmp (op:CmpOp) (a b:OE)
 | inT (a:OE) (l:List Str)
 | bin (op:Operator) (a b:OE)
 | call (f:Nat) (es:F6)
 | mcall (c:Nat) (e:OE) (m:Str) (f:Nat) (es:F6)
 | len (e:OE)
 | typ (e:OE)
 | intc (e:OE)
 | isStr (e:OE)
 | repl (e a b:OE)
 | joinL (e l:OE)
 | idx (e i:OE)
 | slc (e:OE) (lo hi:OO)
 | nil
 | addm (e:OE)
 | app (f e:OE)
 | appL (l e:OE)
 | fstr (a:Str) (e:OE) (b:Str)
 | neg (i:Int)
 | ext (j:Nat)
 | stuck
inductive F6 where
 | nil
 | cons (e:OE) (es:F6)
inductive OO where
 | no
 | yes (e:OE)
end
set_option genCtorIdx false in
mutual
inductive OS where
 | assign (x:Nat) (e:OE)
 | assign2 (x y:Nat) (a b:OE)
 | setA (c:Nat) (o:OE) (a:Str) (e:OE)
 | aug (x:Nat) (op:Operator) (e:OE)
 | augA (c:Nat) (o:OE) (a:Str) (op:Operator) (e:OE)
 | expr (e:OE)
 | ife (c:OE) (a b:kC)
 | while_ (c:OE) (b:kC)
 | ret (e:OE)
 | brk
 | cont
 | asrt (e:OE)
 | stuck
inductive kC where
 | nil
 | cons (s:OS) (ss:kC)
end
section
variable{α:Type}{G:Prop}{v:OV}{d:α}
noncomputable def IC(v:OV)(f:Nat→Option α):Option α:=match v with | .o k=>f k | _=>none
noncomputable def qY(v:OV)(f:PyData→Option α):Option α:=match v with | .d x=>f x | _=>none
theorem sI{f:Nat→Option α}(h:IC v f=some d)(k:∀ n,v = .o n→f n=some d→G):G:=by
 cases v with
 | o n=>exact k n rfl h
 | _=>cases h
theorem j7{f:PyData→Option α}(h:qY v f=some d)(k:∀ x,v = .d x→f x=some d→G):G:=by
 cases v with
 | d x=>exact k x rfl h
 | _=>cases h
noncomputable def fL(o:Option FO)(f:List OV→Option α):Option α:=o.bind fun q=>match q with | .list xs=>f xs | _=>none
noncomputable def fD(o:Option FO)(f:List (Str×OV)→Option α):Option α:=o.bind fun q=>match q with | .dict xs=>f xs | _=>none
noncomputable def fI(o:Option FO)(f:Nat→Option α):Option α:=o.bind fun q=>match q with | .inst xs=>f xs | _=>none
noncomputable def fM(o:Option FO)(f:Nat→Option α):Option α:=o.bind fun q=>match q with | .meth xs=>f xs | _=>none
theorem RI{o:Option FO}{f:List OV→Option α}(h:fL o f=some d)(k:∀ n,o=some (.list n)→f n=some d→G):G:=aS h fun q e h=>by
 cases q with
 | list n=>exact k n e h
 | _=>cases h
theorem Cu{o:Option FO}{f:List (Str×OV)→Option α}(h:fD o f=some d)(k:∀ n,o=some (.dict n)→f n=some d→G):G:=aS h fun q e h=>by
 cases q with
 | dict n=>exact k n e h
 | _=>cases h
theorem Ct{o:Option FO}{f:Nat→Option α}(h:fI o f=some d)(k:∀ n,o=some (.inst n)→f n=some d→G):G:=aS h fun q e h=>by
 cases q with
 | inst n=>exact k n e h
 | _=>cases h
theorem Cs{o:Option FO}{f:Nat→Option α}(h:fM o f=some d)(k:∀ n,o=some (.meth n)→f n=some d→G):G:=aS h fun q e h=>by
 cases q with
 | meth n=>exact k n e h
 | _=>cases h
theorem bF{β γ:Type}{o:Option (β×γ)}{f:β×γ→Option α}(h:o.bind f=some d)(k:∀ a b,o=some (a,b)→f (a,b)=some d→G):G:=aS h fun p e h=>k p.1 p.2 e h
theorem kG{β:Type}{o:Option α}{st st':β}(h:o.map (fun v=>(v,st))=some (d,st'))(k:o=some d→st=st'→G):G:=bY h fun a e h=>k (e.trans (congrArg (fun p=>some p.1) h)) (congrArg Prod.snd h)
end
noncomputable def sM(v:OV):Option PyData:=qY v fun x=>if flat x then some x else none
noncomputable def kL:List (Str×OV)→Str→Option OV
 | [],_=>none
 | p::r,a=>if p.1==a then some p.2 else kL r a
noncomputable def N1:List (Str×OV)→Str→OV→List (Str×OV)
 | [],a,v=>[(a,v)]
 | p::r,a,v=>if p.1==a then(p.1,v)::r else p::N1 r a v
noncomputable def j9(c:Nat)(st:St)(v:OV):Option (Nat×List (Str×OV)):=IC v fun k=>fI st[k]? fun c'=>fD st[k+1]? fun es=>if c'=c then some (k,es)else none
noncomputable def I6(st:St)(v:OV):Option (Nat×List OV):=IC v fun k=>fL st[k]? fun xs=>some (k,xs)
noncomputable def R6(st:St)(v:OV):Option Nat:=IC v fun k=>fM st[k]? some
noncomputable def Cr(f:FO):Option Bool:=match f with
 | .list xs=>some !xs.isEmpty
 | .deq=>some false
 | _=>none
noncomputable def pF(st:St)(v:OV):Option Bool:=match v with
 | .d x=>if flat x then cO x else none
 | .o k=>st[k]?.bind Cr
 | .ty _=>none
noncomputable def qK(o:Option PyData):Option OV:=o.bind fun d=>if flat d then some (.d d)else none
noncomputable def GD(op:Operator)(a b:OV):Option OV:=(sM a).bind fun x=>(sM b).bind fun y=>qK (sB op x y)
noncomputable def Ad(v w:OV):Option Bool:=match v with
 | .d x=>if flat x then(match w with | .d y=>if flat y then Z1 x y else none | .o _=>some false | .ty _=>none)else none
 | .o j=>(match w with | .o k=>some (j==k)| .d x=>if flat x then some false else none | .ty _=>none)
 | .ty T=>(match w with | .ty U=>some (T==U)| _=>none)
noncomputable def BO(op:CmpOp)(a b:OV):Option OV:=match op with
 | .Is=>(Ad a b).map fun q=>.d (.bool q)
 | .IsNot=>(Ad a b).map fun q=>.d (.bool !q)
 | _=>(sM a).bind fun x=>(sM b).bind fun y=>qK (sA op x y)
noncomputable def nG(v:OV):Option Str:=qY v fun x=>mE x some
noncomputable def vM:List OV→Option (List Str)
 | []=>some []
 | v::r=>(nG v).bind fun s=>(vM r).map (s :: ·)
noncomputable def N0(s:Str):Option OV:=if s.length≤sizeLine then some (.d (.str s))else none
noncomputable def Ap(st:St)(v:OV):Option OV:=match v with
 | .d x=>mE x fun s=>some (.d (.int s.length))
 | .o k=>fL st[k]? fun xs=>some (.d (.int xs.length))
 | .ty _=>none
noncomputable def eX(st:St)(v w:OV):Option OV:=qY w fun y=>match v with
 | .d x=>mE x fun s=>qK (BM (.str s) y)
 | .o k=>kF y fun i=>fL st[k]? fun xs=>(cT i xs.length).bind (xs[·]?)
 | .ty _=>none
noncomputable def H9(v:OV)(lo hi:Option Int):Option OV:=(nG v).bind fun s=>qK (IA (.str s) lo hi)
noncomputable def vN(v:OV):Option Int:=qY v qH
noncomputable def Ah(v:OV):Option OV:=qY v fun x=>match x with
 | .int _=>some (.ty "int")
 | .str _=>some (.ty "str")
 | _=>none
noncomputable def H0(f:Nat):List Str:=if f==18||f==19 then ["posix"]else []
noncomputable def kA(f:Nat)(vs:List Value):Args:=match H0 f with
 | []=>⟨vs,[]⟩
 | ks=>⟨vs.take (vs.length - ks.length),ks.zip (vs.drop (vs.length - ks.length))⟩
theorem jG{f:Nat}{vs:List Value}(h:H0 f=[]):kA f vs=⟨vs,[]⟩:=by unfold kA; rw[h]
noncomputable def YE(e a b:OV):Option OV:=(nG e).bind fun s=>(nG a).bind fun x=>(nG b).bind fun _ =>
 if(Builtin.Str.occurrences s x 0 s.length (s.length+1)).isEmpty then some (.d (.str s))else none
noncomputable def I8(st:St)(e l:OV):Option OV:=(nG e).bind fun sep=>(I6 st l).bind fun p=>(vM p.2).bind fun ss =>
 if ss.foldl (fun n x=>n+x.length+sep.length) 0≤2 ^ 20 then some (.d (.str (Str.join sep ss)))else none
noncomputable def mK(st:St)(k:Nat)(v:OV):Option St:=fL st[k]? fun xs=>if xs.length≤1000 then some (st.set k (.list (xs++[v])))else none
section
variable(cl:Nat→List OV→St→Option (OV×St))(ex:Nat→LO→St→Option (OV×St))
mutual
noncomputable def cQ:OE→LO→St→Option (OV×St)
 | .lit d,_,st=>if flat d then some (.d d,st)else none
 | .var x,ρ,st=>((ρ[x]?).join).map fun v=>(v,st)
 | .ty T,_,st=>some (.ty T,st)
 | .attr c e a,ρ,st=>(cQ e ρ st).bind fun p=>(j9 c p.2 p.1).bind fun q=>(kL q.2 a).map fun v=>(v,p.2)
 | .prop c e a f,ρ,st=>(cQ e ρ st).bind fun p=>(j9 c p.2 p.1).bind fun q=>if(kL q.2 a).isNone then cl f [p.1] p.2 else none
 | .nt e,ρ,st=>(cQ e ρ st).bind fun p=>(pF p.2 p.1).map fun b=>(.d (.bool !b),p.2)
 | .bool q a b,ρ,st=>(cQ a ρ st).bind fun p=>(pF p.2 p.1).bind fun t=>if t==q then cQ b ρ p.2 else some p
 | .cmp op a b,ρ,st=>(cQ a ρ st).bind fun p=>(cQ b ρ p.2).bind fun r=>(BO op p.1 r.1).map fun v=>(v,r.2)
 | .inT a l,ρ,st=>(cQ a ρ st).bind fun p=>(nG p.1).map fun s=>(.d (.bool (l.any fun x=>x==s)),p.2)
 | .bin op a b,ρ,st=>(cQ a ρ st).bind fun p=>(cQ b ρ p.2).bind fun r=>(GD op p.1 r.1).map fun v=>(v,r.2)
 | .call f es,ρ,st=>(w8 es ρ st).bind fun p=>cl f p.1 p.2
 | .mcall c e m f es,ρ,st=>(cQ e ρ st).bind fun p=>(j9 c p.2 p.1).bind fun q=>if(kL q.2 m).isNone then(w8 es ρ p.2).bind fun r=>cl f (p.1::r.1) r.2 else none
 | .len e,ρ,st=>(cQ e ρ st).bind fun p=>(Ap p.2 p.1).map fun v=>(v,p.2)
 | .typ e,ρ,st=>(cQ e ρ st).bind fun p=>(Ah p.1).map fun v=>(v,p.2)
 | .intc e,ρ,st=>(cQ e ρ st).bind fun p=>qY p.1 fun x=>kF x fun i=>some (.d (.int i),p.2)
 | .isStr e,ρ,st=>(cQ e ρ st).bind fun p=>(nG p.1).map fun _=>(.d (.bool true),p.2)
 | .repl e a b,ρ,st=>(cQ e ρ st).bind fun p=>(cQ a ρ p.2).bind fun q=>(cQ b ρ q.2).bind fun r=>(YE p.1 q.1 r.1).map fun v=>(v,r.2)
 | .joinL e l,ρ,st=>(cQ e ρ st).bind fun p=>(cQ l ρ p.2).bind fun q=>(I8 q.2 p.1 q.1).map fun v=>(v,q.2)
 | .idx e i,ρ,st=>(cQ e ρ st).bind fun p=>(cQ i ρ p.2).bind fun r=>(eX r.2 p.1 r.1).map fun v=>(v,r.2)
 | .slc e lo hi,ρ,st=>(cQ e ρ st).bind fun p=>(W0 lo ρ p.2).bind fun q=>(W0 hi ρ q.2).bind fun r=>(H9 p.1 q.1 r.1).map fun v=>(v,r.2)
 | .nil,_,st=>some (.o st.length,st++[.list []])
 | .addm e,ρ,st=>(cQ e ρ st).bind fun p=>(I6 p.2 p.1).map fun q=>(.o p.2.length,p.2++[.meth q.1])
 | .app f e,ρ,st=>(cQ f ρ st).bind fun p=>(cQ e ρ p.2).bind fun r=>(R6 r.2 p.1).bind fun j=>(mK r.2 j r.1).map fun st'=>(.d .none,st')
 | .appL l e,ρ,st=>(cQ l ρ st).bind fun p=>(I6 p.2 p.1).bind fun q=>(cQ e ρ p.2).bind fun r=>(mK r.2 q.1 r.1).map fun st'=>(.d .none,st')
 | .fstr a e b,ρ,st=>(cQ e ρ st).bind fun p=>(nG p.1).bind fun s=>(N0 (a++s++b)).map fun v=>(v,p.2)
 | .neg i,_,st=>some (.d (.int (-i)),st)
 | .ext j,ρ,st=>ex j ρ st
 | .stuck,_,_=>none
noncomputable def w8:F6→LO→St→Option (List OV×St)
 | .nil,_,st=>some ([],st)
 | .cons e es,ρ,st=>(cQ e ρ st).bind fun p=>(w8 es ρ p.2).map fun r=>(p.1::r.1,r.2)
noncomputable def W0:OO→LO→St→Option (Option Int×St)
 | .no,_,st=>some (none,st)
 | .yes e,ρ,st=>(cQ e ρ st).bind fun p=>(vN p.1).map fun i=>(some i,p.2)
end
set_option genCtorIdx false in
inductive mC where
 | next (ρ:LO)
 | brk (ρ:LO)
 | cont (ρ:LO)
 | ret (v:OV)
noncomputable def IU(c:Nat)(st:St)(o:OV)(a:Str)(v:OV):Option St:=(j9 c st o).bind fun q =>
 let es:=N1 q.2 a v
 if es.length≤100 then some (st.set (q.1+1) (.dict es))else none
noncomputable def cN(test:LO→St→Option (Bool×St))(body:LO→St→Option (mC×St)):Nat→LO→St→Option (mC×St)
 | 0,_,_=>none
 | n+1,ρ,st=>(test ρ st).bind fun t=>if t.1 then(body ρ t.2).bind fun r=>match r.1 with
   | .next ρ' | .cont ρ'=>cN test body n ρ' r.2
   | .brk ρ'=>some (.next ρ',r.2)
   | .ret v=>some (.ret v,r.2)
  else some (.next ρ,t.2)
variable(fuel:Nat)
noncomputable def jK(e:OE)(ρ:LO)(st:St):Option (Bool×St):=(cQ cl ex e ρ st).bind fun p=>(pF p.2 p.1).map fun t=>(t,p.2)
mutual
noncomputable def w6:OS→LO→St→Option (mC×St)
 | .assign x e,ρ,st=>(cQ cl ex e ρ st).map fun p=>(.next (ρ.set x (some p.1)),p.2)
 | .assign2 x y a b,ρ,st=>(cQ cl ex a ρ st).bind fun p=>(cQ cl ex b ρ p.2).map fun r=>(.next ((ρ.set x (some p.1)).set y (some r.1)),r.2)
 | .setA c o a e,ρ,st=>(cQ cl ex e ρ st).bind fun p=>(cQ cl ex o ρ p.2).bind fun q=>(IU c q.2 q.1 a p.1).map fun st'=>(.next ρ,st')
 | .aug x op e,ρ,st=>((ρ[x]?).join).bind fun a=>(cQ cl ex e ρ st).bind fun p=>if op == .Add||op == .Sub then(GD op a p.1).map fun v=>(.next (ρ.set x (some v)),p.2)else none
 | .augA c o a op e,ρ,st=>(cQ cl ex o ρ st).bind fun p=>(j9 c p.2 p.1).bind fun q=>(kL q.2 a).bind fun old=>(cQ cl ex e ρ p.2).bind fun r=>if op == .Add||op == .Sub then
   (GD op old r.1).bind fun v=>(IU c r.2 p.1 a v).map fun st'=>(.next ρ,st')else none
 | .expr e,ρ,st=>(cQ cl ex e ρ st).bind fun p=>qY p.1 fun _=>some (.next ρ,p.2)
 | .ife c a b,ρ,st=>(jK cl ex c ρ st).bind fun t=>if t.1 then bG a ρ t.2 else bG b ρ t.2
 | .while_ c b,ρ,st=>cN (jK cl ex c) (bG b) fuel ρ st
 | .ret e,ρ,st=>(cQ cl ex e ρ st).map fun p=>(.ret p.1,p.2)
 | .brk,ρ,st=>some (.brk ρ,st)
 | .cont,ρ,st=>some (.cont ρ,st)
 | .asrt e,ρ,st=>(jK cl ex e ρ st).bind fun t=>if t.1 then some (.next ρ,t.2)else none
 | .stuck,_,_=>none
noncomputable def bG:kC→LO→St→Option (mC×St)
 | .nil,ρ,st=>some (.next ρ,st)
 | .cons s ss,ρ,st=>(w6 s ρ st).bind fun r=>match r.1 with
  | .next ρ'=>bG ss ρ' r.2
  | f=>some (f,r.2)
end
end
noncomputable def eY:Option (mC×St)→Option (OV×St)
 | some (.ret v,st)=>some (v,st)
 | some (.next _,st)=>some (.d .none,st)
 | _=>none
structure OF where
 size:Nat
 arity:Nat
 dflt:List PyData
 body:kC
noncomputable def DY(pf:OF)(args:List OV):Option LO :=
 if args.length≤pf.arity&&pf.arity≤args.length+pf.dflt.length&&pf.arity≤pf.size&&pf.dflt.length≤pf.arity&&pf.dflt.all flat then
  some ((args++(pf.dflt.drop (pf.dflt.length+args.length - pf.arity)).map OV.d).map some++List.replicate (pf.size - pf.arity) none)else none
abbrev iZ:=Nat→List OV→St→Option (OV×St)
noncomputable def qW(tab:Nat→Option OF)(prim:iZ→iZ)(ex:iZ→Nat→LO→St→Option (OV×St))(fuel:Nat):Nat→iZ
 | 0,_,_,_=>none
 | lvl+1,f,args,st=>match tab f with
  | some pf=>(DY pf args).bind fun ρ=>eY (bG (qW tab prim ex fuel lvl) (ex (qW tab prim ex fuel lvl)) fuel pf.body ρ st)
  | none=>prim (qW tab prim ex fuel lvl) f args st
def qG(v:Value)(d:PyData):Prop:=Rd default v d []∧bK d=true
theorem UZ{h:Heap}{q:Bool}{vs:List Value}{ds:List PyData}{as:List Addr}(r:iV h q vs ds as):q=true→as=[]→∀ d,ds=[d]→flat d=true:=by
 cases r with
 | list=>exact fun _ e=>nomatch e
 | nil=>exact fun e=>nomatch e
 | cons=>exact fun e=>nomatch e
 | _=>exact fun _ _ _ e=>List.head_eq_of_cons_eq e▸rfl
theorem qG.rd{v:Value}{d:PyData}(x:qG v d)(h:Heap):Rd h v d []∧bK d=true∧flat d=true:=⟨x.1.map (fun _ _ ha=>nomatch ha),x.2,UZ x.1 rfl rfl d rfl⟩
theorem WC{h:Heap}{v:Value}{d:PyData}{as:List Addr}(r:Rd h v d as)(ok:bK d=true)(f:flat d=true):qG v d:=by
 cases yE r f
 exact⟨r.map (fun _ _ ha=>nomatch ha),ok⟩
def VE(μ:List Addr)(v:Value):OV→Prop
 | .d x=>qG v x
 | .o k=>∃ a,μ[k]? = some a∧v = .ref a
 | .ty T=>v = .type T
inductive hW(μ:List Addr):List Value→List OV→Prop
 | nil:hW μ [] []
 | cons {v vs x xs}:VE μ v x→hW μ vs xs→hW μ (v::vs) (x::xs)
inductive mV(μ:List Addr):List DictEntry→List (Str×OV)→Prop
 | nil:mV μ [] []
 | cons {e es n x xs}:(∃ t,e.key = .str n t)→VE μ e.val x→mV μ es xs→mV μ (e::es) ((n,x)::xs)
section
variable{μ μ':List Addr}
theorem eG(p:μ <+: μ'){k:Nat}{a:Addr}(h:μ[k]? = some a):μ'[k]? = some a:=by
 obtain⟨t,rfl⟩:=p
 rw[List.getElem?_append_left (List.getElem?_eq_some_iff.mp h).1]; exact h
theorem VE.pre(p:μ <+: μ'){v:Value}:∀{x:OV},VE μ v x→VE μ' v x
 | .d _,h=>h
 | .o _,⟨a,h,e⟩=>⟨a,eG p h,e⟩
 | .ty _,h=>h
theorem hW.pre(p:μ <+: μ'){vs:List Value}{xs:List OV}(h:hW μ vs xs):hW μ' vs xs:=by
 induction h with
 | nil=>exact .nil
 | cons h _ ih=>exact .cons (h.pre p) ih
theorem mV.pre(p:μ <+: μ'){es:List DictEntry}{xs:List (Str×OV)}(h:mV μ es xs):mV μ' es xs:=by
 induction h with
 | nil=>exact .nil
 | cons k h _ ih=>exact .cons k (h.pre p) ih
theorem hW.length{vs:List Value}{xs:List OV}(h:hW μ vs xs):vs.length=xs.length:=by
 induction h with
 | nil=>rfl
 | cons _ _ ih=>exact congrArg (· + 1) ih
theorem mV.length{es:List DictEntry}{xs:List (Str×OV)}(h:mV μ es xs):es.length=xs.length:=by
 induction h with
 | nil=>rfl
 | cons _ _ _ ih=>exact congrArg (· + 1) ih
theorem hW.get{vs:List Value}{xs:List OV}(h:hW μ vs xs):∀{k:Nat}{x:OV},xs[k]? = some x→∃ v,vs[k]? = some v∧VE μ v x:=by
 induction h with
 | nil=>exact fun e=>nomatch e
 | cons h _ ih=>exact fun{k x}=>k.casesOn (fun e=>⟨_,rfl,Option.some.inj e▸h⟩) fun k=>ih (k:=k)
theorem hW.append{vs ws:List Value}{xs ys:List OV}(h:hW μ vs xs)(g:hW μ ws ys):hW μ (vs++ws) (xs++ys):=by
 induction h with
 | nil=>exact g
 | cons h _ ih=>exact .cons h ih
theorem hW.drop(k:Nat){vs:List Value}{xs:List OV}(h:hW μ vs xs):hW μ (vs.drop k) (xs.drop k):=by
 induction h generalizing k with
 | nil=>rw[List.drop_nil,List.drop_nil]; exact .nil
 | cons h hs ih=>exact k.casesOn (.cons h hs) fun k=>ih k
theorem TB{vs:List Value}{x:OV}{xs:List OV}{m:List Value→Prop}(h:hW μ vs (x::xs))(k:∀ w ws,VE μ w x→hW μ ws xs→m (w::ws)):m vs:=by
 cases h with | cons h g=>exact k _ _ h g
theorem qV{vs:List Value}{x:OV}{m:List Value→Prop}(h:hW μ vs [x])(k:∀ w,VE μ w x→m [w]):m vs:=TB h fun w ws h g=>by cases g; exact k w h
theorem NZ{vs:List Value}{x y:OV}{m:List Value→Prop}(h:hW μ vs [x,y])(k:∀ w u,VE μ w x→VE μ u y→m [w,u]):m vs:=TB h fun w ws h g=>qV (m:=fun ws=>m (w::ws)) g fun u g=>k w u h g
end
noncomputable abbrev dM(b:Addr):Obj:={ cls:=.type "builtin_function_or_method",data:=.fields #[.builtin "list.append",.ref b] }
def S0(o:Obj):Prop:=o.cls = .type "collections.deque" ∧ o.dict=none∧(∃ a b,o.data = .fields #[a,b])
noncomputable abbrev iF(ents:Array DictEntry)(n:Nat)(sl:Array (Option Value)):Obj:={ cls:=.type "dict",dict:=none,data:=.dict ents n,slots:=sl }
noncomputable abbrev bV(items:Array Value)(n:Nat)(sl:Array (Option Value)):Obj:={ cls:=.type "list",dict:=none,data:=.seq items n,slots:=sl }
def F7(cA:Nat→Option Addr)(μ:List Addr)(h:Heap)(k:Nat)(a:Addr):FO→Prop
 | .inst c=>∃ C dx,cA c=some C∧μ[k+1]? = some dx∧h.get? a=some (instObj C dx)
 | .dict es=>∃ ents n sl,h.get? a=some (iF ents n sl)∧mV μ ents.toList es∧es.length≤100
 | .list xs=>∃ items n sl,h.get? a=some (bV items n sl)∧hW μ items.toList xs∧xs.length≤1001
 | .meth j=>∃ b,μ[j]? = some b∧h.get? a=some (dM b)
 | .deq=>∃ o,h.get? a=some o∧S0 o
 | .plain=>∃ o,h.get? a=some o∧o.cls ≠ .type "tuple"
structure mI(Z:aF)(cA:Nat→Option Addr)(μ:List Addr)(st:St)(h:Heap):Prop where
 len:μ.length=st.length
 nd:μ.Nodup
 hi:∀ a∈μ,Z.n≤a∧a∉Z.fr
 at_:∀(k:Nat)(a:Addr)(f:FO),μ[k]? = some a→st[k]? = some f→F7 cA μ h k a f
structure gN(Z:aF)(L:Addr→Prop)(μ μ':List Addr)(h h':Heap):Prop where
 pre:μ <+: μ'
 keep:∀ b o,h.get? b=some o→(o.cls ≠ .none∨Z.n≤b)→b∉μ→¬L b→Sl h' b o
 new:∀ a∈μ',a∉μ→Z.n≤a∧h.get? a=none∧¬L a
section
variable{Z:aF}{L:Addr→Prop}{cA:Nat→Option Addr}{μ μ' μ'':List Addr}{st st':St}{h h' h'':Heap}
theorem F7.ex{k:Nat}{a:Addr}{f:FO}(x:F7 cA μ h k a f):∃ o,h.get? a=some o∧o.cls ≠ .type "tuple" := by
 cases f with
 | inst c=>exact let⟨_,_,_,_,e⟩:=x; ⟨_,e,nofun⟩
 | dict es=>exact let⟨_,_,_,e,_⟩:=x; ⟨_,e,by show Value.type "dict" ≠ _; decide⟩
 | list xs=>exact let⟨_,_,_,e,_⟩:=x; ⟨_,e,by show Value.type "list" ≠ _; decide⟩
 | meth j=>exact let⟨_,_,e⟩:=x; ⟨_,e,by show Value.type "builtin_function_or_method" ≠ _; decide⟩
 | deq=>exact let⟨o,e,h1,_⟩:=x; ⟨o,e,by rw[h1]; decide⟩
 | plain=>exact x
theorem F7.sl{k:Nat}{a:Addr}{f:FO}(x:F7 cA μ h k a f)(p:μ <+: μ')(s:∀ o,h.get? a=some o→Sl h' a o):F7 cA μ' h' k a f:=by
 cases f with
 | inst c=>exact let⟨C,dx,h1,h2,e⟩:=x; ⟨C,dx,h1,eG p h2,(s _ e).nd nofun⟩
 | dict es=>exact let⟨ents,n,sl,e,h1,h2⟩:=x; (s _ e).elim (fun e'=>⟨ents,n,sl,e',h1.pre p,h2⟩) fun⟨_,sl',e'⟩=>⟨ents,n,sl',e',h1.pre p,h2⟩
 | list xs=>exact let⟨items,n,sl,e,h1,h2⟩:=x; ⟨items,n,sl,(s _ e).seq rfl,h1.pre p,h2⟩
 | meth j=>exact let⟨b,h1,e⟩:=x; ⟨b,eG p h1,(s _ e).nd nofun⟩
 | deq=>exact let⟨o,e,h1,h2,a,b,h3⟩:=x; ⟨o,(s _ e).flds h3,h1,h2,a,b,h3⟩
 | plain=>exact let⟨_,e,hc⟩:=x; let⟨o',e',hc',_⟩:=(s _ e).ex; ⟨o',e',hc'▸hc⟩
theorem mI.of(S:mI Z cA μ st h){k:Nat}{f:FO}{a:Addr}(e:st[k]? = some f)(h1:μ[k]? = some a):F7 cA μ h k a f:=S.at_ k a f h1 e
theorem mI.ex(S:mI Z cA μ st h){k:Nat}{a:Addr}(h1:μ[k]? = some a):∃ o,h.get? a=some o∧o.cls ≠ .type "tuple" :=
 (S.at_ k a _ h1 (List.getElem?_eq_getElem (S.len▸(List.getElem?_eq_some_iff.mp h1).1))).ex
theorem mI.live(S:mI Z cA μ st h)(a:Addr)(ha:a∈μ):∃ o,h.get? a=some o:=let⟨_,e⟩:=List.mem_iff_getElem?.mp ha; let⟨o,e,_⟩:=S.ex e; ⟨o,e⟩
theorem mI.kp(S:mI Z cA μ st h)(k:Kp Z.n h h'):mI Z cA μ st h':=⟨S.len,S.nd,S.hi,fun j a f h1 h2=>(S.at_ j a f h1 h2).sl List.prefix_rfl fun o e=>k.k a o e (.inr (S.hi a (List.mem_of_getElem? h1)).1)⟩
theorem gN.kp(k:Kp Z.n h h'):gN Z L μ μ h h':=⟨List.prefix_rfl,fun b o e c _ _=>k.k b o e c,fun _ ha hn=>absurd ha hn⟩
theorem gN.refl:gN Z L μ μ h h:=.kp (Kp.refl _ _)
theorem gN.trans(x:gN Z L μ μ' h h')(y:gN Z L μ' μ'' h' h''):gN Z L μ μ'' h h'' where
 pre:=x.pre.trans y.pre
 keep:=fun b o e c hb hl=>(x.keep b o e c hb hl).next fun o' e' hc=>y.keep b o' e' (by rw[hc]; exact c) (fun hm=>nomatch (x.new b hm hb).2.1.symm.trans e) hl
 new:=fun a ha hn=>(Classical.em (a∈μ')).elim (fun hm=>x.new a hm hn) fun hm=>let⟨h1,h2,h3⟩:=y.new a ha hm; ⟨h1,oF (fun o e=>let⟨_,e',_⟩:=(x.keep a o e (.inr h1) hn h3).ex; nomatch h2.symm.trans e'),h3⟩
theorem gN.ns(x:gN Z L μ μ' h h'){a:Addr}{m:Str→Option Value}(ha:Z.n≤a)(hm:a∉μ)(hl:¬L a)(n:h.Ns a m):h'.Ns a m :=
 let⟨_,es,ep,e,hd,r⟩:=n; let⟨o',e',_,hd'⟩:=(x.keep _ _ e (.inr ha) hm hl).ex; ⟨o',es,ep,e',hd'.trans hd,r⟩
end
structure mG(Z:aF)(nm:List Str)(env:Env)(ρ:LO)(μ:List Addr)(h:Heap):Prop where
 lam:nm.length=14→env.code=Z.lam
 kind:env.scope.kind = .function
 glob:env.globals=mainGlobals
 blt:env.builtins=builtinsNs
 new:Z.n≤env.locals
 out:env.locals∉μ
 ns:∃ m,h.Ns env.locals m∧∀(x:Nat)(v:OV)(n:Str),(ρ[x]?).join=some v→nm[x]? = some n→∃ w,m n=some w∧VE μ w v
theorem mG.ne{Z:aF}{nm:List Str}{env:Env}{ρ:LO}{μ:List Addr}{h:Heap}(x:mG Z nm env ρ μ h){a:Addr}(ha:h.get? a=none):a≠env.locals:=fun e=>by
 obtain⟨m,⟨o,_,_,e',_⟩,_⟩:=x.ns
 rw[← e,ha]at e'; cases e'
theorem mG.step{Z:aF}{nm:List Str}{env:Env}{ρ:LO}{μ μ':List Addr}{h h':Heap}(x:mG Z nm env ρ μ h)(t:gN Z (fun _=>False) μ μ' h h'):mG Z nm env ρ μ' h' :=
 { x with
  out:=fun hm=>x.ne (t.new _ hm x.out).2.1 rfl
  ns:=let⟨m,hm,hv⟩:=x.ns; ⟨m,t.ns x.new x.out id hm,fun y v n h1 h2=>let⟨w,h3,h4⟩:=hv y v n h1 h2; ⟨w,h3,h4.pre t.pre⟩⟩ }
theorem mG.size{Z:aF}{nm:List Str}{env:Env}{ρ:LO}{μ:List Addr}{h:Heap}(x:mG Z nm env ρ μ h):Z.n≤h.objs.size :=
 let⟨_,hm,_⟩:=x.ns; Nat.le_trans x.new (Nat.le_of_lt hm.lt)
theorem gN.inL{Z:aF}{nm:List Str}{env:Env}{ρ:LO}{μ μ':List Addr}{h h':Heap}(hE:mG Z nm env ρ μ h)(x:gN Z (fun _=>False) μ μ' h h'):gN Z (· = env.locals) μ μ' h h' :=
 ⟨x.pre,fun b o e c hb _=>x.keep b o e c hb id,fun a ha hn=>let⟨h1,h2,_⟩:=x.new a ha hn; ⟨h1,h2,hE.ne h2⟩⟩
end Kt.Internal
end
section
open PySem PySem.W PyProof.Rows PySem.Calls Builtin Builtin.ObjectAttr
namespace Kt.Internal
theorem uO{μ:List Addr}{es:List DictEntry}{xs:List (Str×OV)}(h:mV μ es xs):es.any (·.refKey)=false:=by
 induction h with
 | nil=>rfl
 | cons k _ _ ih =>
  obtain⟨t,hk⟩:=k
  rw[List.any_cons,ih]
  unfold DictEntry.refKey
  rw[hk]
  rfl
theorem wR{e:DictEntry}{n a:Str}(k:∃ t,e.key = .str n t):e.key.isStr a=(n==a):=by obtain⟨t,hk⟩:=k; rw[hk]; rfl
theorem wW{μ:List Addr}{a:Str}{es:List DictEntry}{xs:List (Str×OV)}(h:mV μ es xs) :
  (∀ v,kL xs a=some v→∃ e,es.find? (·.key.isStr a)=some e∧VE μ e.val v)∧(kL xs a=none→es.find? (·.key.isStr a)=none):=by
 induction h with
 | nil=>exact⟨nofun,fun _=>rfl⟩
 | cons k hv _ ih =>
  rw[List.find?_cons,wR k,kL]
  dsimp only
  rename_i n _ _ _
  cases n==a with
  | true=>exact⟨fun v e=>⟨_,rfl,Option.some.inj e▸hv⟩,nofun⟩
  | false=>exact ih
theorem NE{μ:List Addr}{a:Str}{hsh:Int}{t:Tok}{w:Value}{v:OV}(hw:VE μ w v){es:List DictEntry}{xs:List (Str×OV)}(h:mV μ es xs):mV μ (putL a hsh (.str a t) w es) (N1 xs a v):=by
 induction h with
 | nil=>exact .cons ⟨t,rfl⟩ hw .nil
 | cons k hv hs ih =>
  rw[putL,N1,wR k]
  dsimp only
  rename_i n _ _
  cases n==a with
  | true=>exact .cons k hw hs
  | false=>exact .cons k hv ih
noncomputable def zK(K:Frag)(C:Addr)(a:Str):Bool:=plainGet K C a&&(hasDictIn K C&&iB (findIn K (.ref C) a) (noGet K))
noncomputable def zG(K:Frag)(C:Addr)(a:Str):Bool:=findIn K (.ref C) "__setattr__" == some (some (.builtin "object.__setattr__"))&&(plainOver K C&&(takerIn K C a==some none&&hasDictIn K C))
noncomputable def B7(K:Frag)(C:Addr)(m:Str)(f:Addr):Bool:=plainGet K C m&&(findIn K (.ref C) m==some (some (.ref f))&&(isFn K (.ref f)&&(fnIn K f&&keepIn K (.ref f))))
noncomputable def Bh(v:Value)(f:Addr→Bool):Bool:=i7 v f
noncomputable def BX(K:Frag)(C:Addr)(a:Str)(f:Addr):Bool:=plainGet K C a&&(hasDictIn K C&&iB (findIn K (.ref C) a) fun x=>iB x fun x=>i7 x fun p =>
 specialIn K (.ref p) "__get__" == some (some (.builtin "property.__get__"))&&(takesIn K (.ref p)==some true&&iB (recIn K p "property") fun l=>jJ l fun g _=>i7 g fun g=>g==f))
structure dG(Z:aF)(cA:Nat→Option Addr)(L:Addr→Prop)(μ:List Addr)(h:Heap)(μ':List Addr)(st':St)(s':Shared):Prop where
 i:bA Z s'
 t:gN Z L μ μ' h s'.heap
 so:mI Z cA μ' st' s'.heap
abbrev j5:Addr→Prop:=fun _=>False
section
variable{Z:aF}{cA:Nat→Option Addr}{L:Addr→Prop}{μ μ' μ'':List Addr}{st st' st'':St}{s s' s'':Shared}{h:Heap}{K:Frag}
theorem dG.trans(a:dG Z cA L μ h μ' st' s')(b:dG Z cA L μ' s'.heap μ'' st'' s''):dG Z cA L μ h μ'' st'' s'':=⟨b.i,a.t.trans b.t,b.so⟩
theorem dG.here(I:bA Z s)(S:mI Z cA μ st s.heap):dG Z cA L μ s.heap μ st s:=⟨I,.refl,S⟩
theorem dG.tok(a:dG Z cA L μ h μ' st' s')(tk:Nat):dG Z cA L μ h μ' st' { s' with toks:=tk }:=⟨a.i.tok tk,a.t,a.so⟩
theorem dG.kp(a:dG Z cA L μ h μ' st' s')(I:bA Z s'')(k:Kp Z.n s'.heap s''.heap):dG Z cA L μ h μ' st' s'':=⟨I,a.t.trans (.kp k),a.so.kp k⟩
theorem getElem?_nodup {α:Type} {l:List α} (nd:l.Nodup) {i j:Nat} {a:α} (h1:l[i]? = some a) (h2:l[j]? = some a):i=j :=
 let⟨_,e1⟩:=List.getElem?_eq_some_iff.mp h1; let⟨_,e2⟩:=List.getElem?_eq_some_iff.mp h2; (List.getElem_inj nd).mp (e1.trans e2.symm)
theorem dG.turn(a:dG Z cA L μ h μ' st' s'){k:Nat}{b:Addr}{f:FO}{h':Heap}{tk:Nat}(hk:μ'[k]? = some b)(hb:Heap.SameBut b s'.heap h')(hf:F7 cA μ' h' k b f):dG Z cA L μ h μ' (st'.set k f) { s' with heap:=h',toks:=tk }:=by
 have hm:=List.mem_of_getElem? hk
 have hh:=a.so.hi b hm
 refine⟨a.i.same hh.1 hb (fun h=>absurd h hh.2) tk,a.t.trans ⟨List.prefix_rfl,fun c o e _ hn _=>.inl ((hb.2 c fun e'=>hn (e'▸hm)).trans e),fun _ h hn=>absurd h hn⟩,?_⟩
 refine⟨a.so.len.trans List.length_set.symm,a.so.nd,a.so.hi,fun j c g h1 h2=>?_⟩
 by_cases e:j=k
 ·subst e
  cases hk.symm.trans h1
  rw[List.getElem?_set_self (a.so.len▸(List.getElem?_eq_some_iff.mp hk).1)]at h2
  cases h2; exact hf
 ·rw[List.getElem?_set_ne (Ne.symm e)]at h2
  exact(a.so.at_ j c g h1 h2).sl List.prefix_rfl fun o e'=>.inl ((hb.2 c fun e'=>e (getElem?_nodup a.so.nd (e'▸h1) hk)).trans e')
theorem dG.mores(a:dG Z cA L μ h μ' st' s'){bs:List Addr}{fs:List FO}{h':Heap}{tk:Nat}(hlen:bs.length=fs.length)(hnd:bs.Nodup)(hb:∀ b∈bs,s'.heap.get? b=none∧(Z.n≤b∧b∉Z.fr)∧¬L b)(hk:∀ c o,s'.heap.get? c=some o→h'.get? c=some o)
  (hf:∀ i b f,bs[i]? = some b→fs[i]? = some f→F7 cA (μ'++bs) h' (st'.length+i) b f):dG Z cA L μ h (μ'++bs) (st'++fs) { s' with heap:=h',toks:=tk }:=by
 refine⟨a.i.full hk,a.t.trans ⟨List.prefix_append _ _,fun c o e _ _ _=>.inl (hk c o e),fun c hc hnb=>(List.mem_append.mp hc).elim (fun h=>absurd h hnb) fun h=>⟨(hb c h).2.1.1,(hb c h).1,(hb c h).2.2⟩⟩,?_⟩
 refine⟨by rw[List.length_append,List.length_append,a.so.len,hlen],List.nodup_append.mpr ⟨a.so.nd,hnd,fun x hx y hy e=>?_⟩,fun c hc=>(List.mem_append.mp hc).elim (a.so.hi c) fun h=>(hb c h).2.1,fun j c g h1 h2=>?_⟩
 ·obtain⟨o,ho⟩:=a.so.live x hx
  rw[e,(hb y hy).1]at ho; cases ho
 ·rcases Nat.lt_or_ge j μ'.length with hj | hj
  ·rw[List.getElem?_append_left hj]at h1
   rw[List.getElem?_append_left (a.so.len▸hj)]at h2
   exact(a.so.at_ j c g h1 h2).sl (List.prefix_append _ _) fun o e=>.inl (hk c o e)
  ·rw[List.getElem?_append_right hj]at h1
   rw[List.getElem?_append_right (a.so.len▸hj),← a.so.len]at h2
   exact Nat.add_sub_cancel' (a.so.len▸hj:st'.length≤j)▸a.so.len▸hf _ c g h1 h2
theorem dG.more(a:dG Z cA L μ h μ' st' s'){b:Addr}{f:FO}{h':Heap}{tk:Nat}(hb:s'.heap.get? b=none)(hn:Z.n≤b)(hfr:b∉Z.fr)(hl:¬L b)(hk:∀ c o,s'.heap.get? c=some o→h'.get? c=some o)(hf:F7 cA (μ'++[b]) h' st'.length b f) :
  dG Z cA L μ h (μ'++[b]) (st'++[f]) { s' with heap:=h',toks:=tk } :=
 a.mores rfl (List.nodup_cons.mpr ⟨nofun,.nil⟩) (fun c hc=>List.mem_singleton.mp hc▸⟨hb,⟨hn,hfr⟩,hl⟩) hk fun i=>i.casesOn (fun c g h1 h2=>Option.some.inj h1▸Option.some.inj h2▸hf) fun i c g h1=>nomatch h1
theorem mI.instK(S:mI Z cA μ st h){G:Prop}{c k:Nat}{C:Addr}{es:List (Str×OV)}{o:OV}{w:Value}(hC:cA c=some C)(e:j9 c st o=some (k,es))(hw:VE μ w o)
  (go:∀ x dx ents n sl,w = .ref x→μ[k+1]? = some dx→InstAt h x (instObj C dx) C (some (iF ents n sl))→mV μ ents.toList es→G):G :=
 sI e fun j e1 e=>Ct e fun c' h1 e=>Cu e fun es' h2 e=>iY e fun hc e=>by
 cases e
 subst hc e1
 obtain⟨x,g1,rfl⟩:=hw
 obtain⟨C',dx,g2,g3,g4⟩:=S.of h1 g1
 cases hC.symm.trans g2
 obtain⟨ents,n,sl,g6,g7,_⟩:=S.of h2 g3
 exact go x dx ents n sl rfl g3 ⟨g4,rfl,rfl,g6⟩ g7
theorem wS{w:Value}{v:OV}(h:VE μ w v):handedIn w=true:=by
 cases v with
 | d y=>obtain⟨r,_⟩:=h; cases r <;> rfl
 | o k=>obtain⟨_,_,rfl⟩:=h; rfl
 | ty T=>cases h; rfl
theorem XE{A:Around}{E:Value→Shared→Prop}{Q:Value→Shared→Prop}{c k:Nat}{es:List (Str×OV)}{o:OV}{a:Str}{v:OV}{w:Value}{expr:Bool}{C:Addr}(X:K.In s.heap)(S:mI Z cA μ st s.heap)
  (hC:cA c=some C) (hok:zK K C a=true) (e:j9 c st o=some (k,es)) (hl:kL es a=some v) (hw:VE μ w o)
  (hQ:∀ u,VE μ u v→Q u { s with toks:=s.toks+1 }):wpAny (model Z.prog Z.w) A (getAttr w a expr) Q E s :=
 S.instK hC e hw fun x dx ents n sl ew _ II En=>aB hok fun g1 h=>aB h fun g2 h=>by
 subst ew
 obtain⟨attr,hattr,g3⟩:=eW h
 obtain⟨en,h8,h9⟩:=(wW (a:=a) En).1 v hl
 exact get_value X II (plainGet_of g1).1 (findObj_own (v:=en.val) g2 hattr g3 (by show(match ents.toList.find? _ with | some e=>_ | none=>_)=_; rw[h8])) (wS h9) (hQ _ h9)
theorem HF{ents:Array DictEntry}{n:Nat}{sl:Array (Option Value)}{xs:List (Str×OV)}{a:Str}(h:mV μ ents.toList xs)(e:kL xs a=none):lookIn a (iF ents n sl)=some none:=by
 unfold lookIn; dsimp only; rw[(wW (a:=a) h).2 e,uO h]; rfl
theorem Y0{A:Around}{E:Value→Shared→Prop}{Q:Value×List Value→Shared→Prop}{c k:Nat}{es:List (Str×OV)}{o:OV}{a:Str}{w:Value}{pl:Sem Bool}{C f:Addr}(X:K.In s.heap)(S:mI Z cA μ st s.heap)
  (hC:cA c=some C) (hok:B7 K C a f=true) (e:j9 c st o=some (k,es)) (hl:kL es a=none) (hw:VE μ w o)
  (hQ:Q (.ref f,[w]) s):wpAny (model Z.prog Z.w) A (getMethod w a pl) Q E s :=
 S.instK hC e hw fun x dx ents n sl ew _ II En=>aB hok fun g1 h=>aB h fun g2 h=>aB h fun g3 h=>aB h fun g4 _=>by
 subst ew
 exact method_fn (od:=some _) X II (plainGet_of g1).1 (plainGet_of g1).2 (eq_of_beq g2) (eq_of_beq g3) (by show(lookIn a _).map _=_; rw[HF En hl]; rfl) hQ
theorem YJ{A:Around}{E:Value→Shared→Prop}{Q:Value→Shared→Prop}{c k:Nat}{es:List (Str×OV)}{o:OV}{a:Str}{w:Value}{expr:Bool}{C f:Addr}(X:K.In s.heap)(S:mI Z cA μ st s.heap)
  (hC:cA c=some C) (hok:BX K C a f=true) (e:j9 c st o=some (k,es)) (hw:VE μ w o)
  (h:codeAny (model Z.prog Z.w) A.in1 (.call (.ref f) ⟨[w],[]⟩) (fun r s'=>∃ v,r = .ok (.ret v)∧wpAny (model Z.prog Z.w) A (handedOut v) Q E s') { s with toks:=s.toks+1 }):wpAny (model Z.prog Z.w) A (getAttr w a expr) Q E s :=
 S.instK hC e hw fun x dx ents n sl ew _ II En=>aB hok fun g1 hk=>aB hk fun g2 hk=>by
 subst ew
 obtain⟨y,e1,hk⟩:=eW hk
 obtain⟨z,e2,hk⟩:=eW hk
 obtain⟨p,e3,hk⟩:=mZ hk
 subst e2 e3
 obtain⟨g3,hk⟩:=aA hk
 obtain⟨g4,hk⟩:=aA hk
 obtain⟨l,hrec,hk⟩:=eW hk
 obtain⟨rest,rfl⟩:∃ rest,l = .ref f::rest:=cZ (m:=fun l=>∃ rest,l=Value.ref f::rest) hk fun g r hk=>J2 (m:=fun g=>∃ rest,g::r=Value.ref f::rest) hk fun g' hk=>⟨r,by rw[eq_of_beq hk]⟩
 have hcls:(clsIn K C).isSome=true:=by
  obtain⟨cd,hc,_⟩:=any_some g2
  rw[hc]; rfl
 refine get_bind (od:=some _) X II (plainGet_of g1).1 (findObj_data hcls e1 (eq_of_beq g3) (eq_of_beq g4)) (plainGet_of g1).2 (wpAny_call (prop_get (s:={ s with toks:=s.toks+1 }) X hrec ?_))
 exact codeAny_mono h fun r s'⟨v,e,hv⟩=>by subst e; exact hv
theorem W4{A:Around}{E:Value→Shared→Prop}{Q:Unit→Shared→Prop}{c:Nat}{o:OV}{a:Str}{v:OV}{w u:Value}{C:Addr}{st'':St}(X:K.In s'.heap)(at_:dG Z cA L μ h μ' st' s')
  (hC:cA c=some C) (hok:zG K C a=true) (e:IU c st' o a v=some st'') (hw:VE μ' w o) (hu:VE μ' u v)
  (hQ:∀ s'',dG Z cA L μ h μ' st'' s''→Q () s''):wpAny (model Z.prog Z.w) A (setAttr w a u) Q E s' :=
 bF e fun k es hi e=>iY e fun hsz e=>at_.so.instK hC hi hw fun x dx ents n sl ew h3 II En=>aB hok fun g1 hk=>aB hk fun g2 hk=>aB hk fun g3 g4=>by
 subst ew
 cases e
 have h5:s'.heap.get? dx=some (iF ents n sl):=II.dict
 refine set_plain X II (eq_of_beq g1) (osa_open (s:={ s' with toks:=s'.toks+1 }) X II g2 (eq_of_beq g3) fun b=>?_)
 obtain⟨cd,hcd,hd'⟩:=any_some g4
 refine wpAny_bind (wpAny_pure (wpAny_bind (wpAny_bind (wpAny_loadPart II.at_ (wpAny_bind (looks_clsIn (M:=model Z.prog Z.w) X hcd _ _ _ _ (fun _ _ e=>e) ?_))))))
 rw[hd']
 refine wpAny_pure (a:=some dx) (wpAny_bind (wpAny_pure (wpAny_bind ?_)))
 unfold nsSet
 refine wpAny_bind (wpAny_bind (wpAny_askSetting (wpAny_pure (wpAny_bind (wpAny_mkText (wpAny_bind (wpAny_loadPart h5 ?_)))))))
 dsimp only
 have hc:(!ents.any (·.key.isStr a)&&ents.any (·.refKey))=false:=by
  rw[show ents.any (fun x=>x.refKey)=false from by rw[← Array.any_toList]; exact uO En,Bool.and_false]
 rw[aRefKeyMayBeTheName_at,hc]
 have hput:∀ hsh tk,Obj.putName a hsh (.str a tk) u (iF ents n sl)=iF (putL a hsh (.str a tk) u ents.toList).toArray (putN a ents.toList n) sl:=fun hsh tk=>by
  have:=putName_dict a hsh (.str a tk) u ents.toList n
  rw[Obj.putName_eq]at this ⊢
  unfold Obj.putNameByArray at this ⊢
  dsimp only[dictOf,iF]at this ⊢
  split at this <;> rename_i q <;> rw[Array.toArray_toList]at q <;> rw[q] <;> exact congrArg (fun d:Data=>(⟨.type "dict",none,d,sl⟩:Obj)) (congrArg Obj.data this)
 have D':∀ hsh tk,(s'.heap.update dx (Obj.putName a hsh (.str a tk) u)).get? dx=some (iF (putL a hsh (.str a tk) u ents.toList).toArray (putN a ents.toList n) sl):=fun hsh tk=>(Heap.get?_update_self _ h5 (by rw[hput]; rfl)).trans (congrArg some (hput hsh tk))
 have E':=fun hsh tk=>NE (a:=a) (hsh:=hsh) (t:=tk) hu En
 refine wpAny_updatePart h5 (wpAny_bind (wpAny_lookBehind (D' _ _) (pastItsLine_dict (by rw[List.size_toArray,(E' _ _).length]; exact Nat.le_trans hsz (by decide))) (wpAny_pure (hQ _ ?_))))
 exact at_.turn h3 (Heap.SameBut.update ..) ⟨_,_,_,D' _ _,E' _ _,hsz⟩
end
abbrev qb(id:String)(vs:List Value):Prop:=(Code.builtin id ⟨vs,[]⟩).quiet=true
theorem CY{prog:Program}{w:World}{A:Around}{E:Value→Shared→Prop}{s:Shared}{l:Addr}{o:Obj}{Q:Bool→Shared→Prop}(hh:A.handled=none)(ho:s.heap.get? l=some o)(hq:S0 o)(h:Q false { s with toks:=s.toks+1+1 }):wpAny (model prog w) A (truthy (.ref l)) Q E s:=by
 obtain⟨hc,hdict,a,b,hd⟩:=hq
 have ho:s.heap.get? l=some ⟨.type "collections.deque",none,.fields #[a,b],o.slots⟩:=by rw[ho,← hc,← hdict,← hd]
 refine IS (K:=[]) (congrFun PySem.W.Fast.te15245631507167962100 (.ref l)) 9 (List.replicate 5 (0,⟨.type "collections.deque",none,.fields #[a,b],o.slots⟩))
  (s.heap.get? l=some ⟨.type "collections.deque",none,.fields #[a,b],o.slots⟩∧s.heap.get? l=some ⟨.type "collections.deque",none,.fields #[a,b],o.slots⟩∧s.heap.get? l=some ⟨.type "collections.deque",none,.fields #[a,b],o.slots⟩∧s.heap.get? l=some ⟨.type "collections.deque",none,.fields #[a,b],o.slots⟩ ∧
   qb "collections.deque.__len__" [.ref l]∧s.heap.get? l=some ⟨.type "collections.deque",none,.fields #[a,b],o.slots⟩∧Q false { s with toks:=s.toks+1+1 }) hh ?_ ?_ ?_
 ·exact fun _ _ h=>nomatch h
 ·kernel_rfl
 ·exact⟨ho,ho,ho,ho,Code.quiet_builtin _ (by decide +kernel),ho,h⟩
end Kt.Internal
end
section
open PySem PySem.W PyProof.Rows PySem.Calls
namespace Kt.Internal
structure OD where
 Z:aF
 cA:Nat→Option Addr
 cl:iZ
 ex:Nat→LO→St→Option (OV×St)
 lvl:Nat
 nm:List Str
def hZ(Z:aF)(cA:Nat→Option Addr)(μ:List Addr)(h:Heap)(st:St)(v:OV)(Q:Value→Shared→Prop):Prop:=∀ w s' μ',dG Z cA j5 μ h μ' st s'→VE μ' w v→Q w s'
structure Oc(D:OD)(sc:Scope)(A:Around)(env:Env)(ρ:LO)(μ:List Addr)(st:St)(s:Shared):Prop where
 ha:f6 D.Z (8*D.lvl+7) A
 hs:vA sc env
 he:mG D.Z D.nm env ρ μ s.heap
 hi:bA D.Z s
 so:mI D.Z D.cA μ st s.heap
section
variable(D:OD)(sc:Scope)
def cM(e:Expr)(p:OE):Prop :=
 ∀{A:Around}{env:Env}{ρ:LO}{μ:List Addr}{st:St}{s:Shared}{v:OV}{st':St}{Q:Value→Shared→Prop}{E:Value→Shared→Prop},
  Oc D sc A env ρ μ st s→cQ D.cl D.ex p ρ st=some (v,st')→hZ D.Z D.cA μ s.heap st' v Q→wpAny (model D.Z.prog D.Z.w) A (eval e env) Q E s
def H3(e:Expr)(p:OE):Prop :=
 ∀{A:Around}{env:Env}{ρ:LO}{μ:List Addr}{st:St}{s:Shared}{t:Bool}{st':St}{Q:Bool→Shared→Prop}{E:Value→Shared→Prop},
  Oc D sc A env ρ μ st s→jK D.cl D.ex p ρ st=some (t,st')→(∀ s' μ',dG D.Z D.cA j5 μ s.heap μ' st' s'→Q t s')→wpAny (model D.Z.prog D.Z.w) A (isTrue e env (eval e env)) Q E s
def xD(es:List Expr)(ps:F6):Prop :=
 ∀{A:Around}{env:Env}{ρ:LO}{μ:List Addr}{st:St}{s:Shared}{ds:List OV}{st':St}{R:List Value→Shared→Prop}{E:Value→Shared→Prop}{pos:Pos},
  Oc D sc A env ρ μ st s→w8 D.cl D.ex ps ρ st=some (ds,st')→(∀ vs s' μ',dG D.Z D.cA j5 μ s.heap μ' st' s'→hW μ' vs ds→R vs s')→wpAny (model D.Z.prog D.Z.w) A (spliced (backTo pos (starEach es env))) R E s
def W1(o:Option Expr)(p:OO):Prop :=
 ∀{A:Around}{env:Env}{ρ:LO}{μ:List Addr}{st:St}{s:Shared}{d:Option Int}{st':St}{Q:Value→Shared→Prop}{E:Value→Shared→Prop},
  Oc D sc A env ρ μ st s→W0 D.cl D.ex p ρ st=some (d,st')→(∀ q:Option (Int×Tok),q.map (·.1)=d→∀ s' μ',dG D.Z D.cA j5 μ s.heap μ' st' s'→Q (partValue q) s')→wpAny (model D.Z.prog D.Z.w) A (evalPart o env) Q E s
end
def bW(Z:aF)(cA:Nat→Option Addr)(cl:iZ)(lvl:Nat)(fA:Nat→Option Addr):Prop :=
 ∀{f:Nat}{a:Addr}{args:List OV}{st:St}{v:OV}{st':St},fA f=some a→cl f args st=some (v,st') →
  ∀{A:Around}{s:Shared}{vs:List Value}{μ:List Addr}{R:Result→Shared→Prop},f6 Z (8*lvl) A→bA Z s→Z.n≤s.heap.objs.size→mI Z cA μ st s.heap→hW μ vs args →
   hZ Z cA μ s.heap st' v (fun w s'=>R (.ok (.ret w)) s')→codeAny (model Z.prog Z.w) A (.call (.ref a) (kA f vs)) R s
noncomputable def iM:List (Str×Value) :=
 [("len",.builtin "len"),("type",.type "type"),("int",.type "int"),("bool",.type "bool"),("str",.type "str"),("isinstance",.builtin "isinstance"),("object",.type "object"),("list",.type "list"),("StopIteration",.type "StopIteration")]
def gO(Z:aF):Prop:=∀ n v,(n,v)∈iM→Z.mg n=none∧Z.mb n=some v
section
variable{Z:aF}{cA:Nat→Option Addr}{μ μ' μ'':List Addr}{st st' st'':St}{s s' s'':Shared}{h:Heap}{A:Around}{Q:Value→Shared→Prop}{E:Value→Shared→Prop}{w u:Value}{x y v:OV}{lvl:Nat}
theorem hZ.after(g:hZ Z cA μ h st v Q)(a:dG Z cA j5 μ h μ' st' s'):hZ Z cA μ' s'.heap st v Q:=fun w s'' μ'' b hv=>g w s'' μ'' (a.trans b) hv
theorem hZ.flat{d:PyData}(g:hZ Z cA μ h st (.d d) Q)(a:dG Z cA j5 μ h μ' st s')(hf:Kt.Internal.flat d=true):pA Z s' [] [] d Q:=fun v _ s'' I k r ok _=>g v s'' μ' (a.kp I k) (WC r ok hf)
theorem vS{α:Type}{d:α}{G:Prop}{v:OV}{f:PyData→Option α}(h:(sM v).bind f=some d)(k:∀ x,v = .d x→Kt.Internal.flat x=true→f x=some d→G):G :=
 aS h fun x hx h=>j7 hx fun y e hy=>BI hy fun hf e'=>k x (e'▸e) (e'▸hf) h
theorem tD{o:Option PyData}{v:OV}{G:Prop}(h:qK o=some v)(k:∀ d,o=some d→Kt.Internal.flat d=true→v = .d d→G):G:=aS h fun d e h=>BI h fun hf e'=>k d e hf e'.symm
theorem sF{α:Type}{d:α}{G:Prop}{v:OV}{f:Str→Option α}(h:(nG v).bind f=some d)(k:∀ x,v = .d (.str x)→f x=some d→G):G :=
 aS h fun x hx h=>j7 hx fun y e hy=>f7 hy fun s e' hs=>k x (by rw[e,e',Option.some.inj hs]) h
theorem pS{v:OV}{x:Str}(h:nG v=some x):v = .d (.str x):=j7 h fun y e hy=>f7 hy fun s e' hs=>by rw[e,e',Option.some.inj hs]
theorem NO{x:Str}{m:Value→Prop}(h:VE μ w (.d (.str x)))(k:∀ t,bK (.str x)=true→m (.str x t)):m w:=S3 (m:=m) h.1 fun t=>k t h.2
theorem ZU{x:Int}{m:Value→Prop}(h:VE μ w (.d (.int x)))(k:∀ t,m (.int x t)):m w:=H4 (m:=m) h.1 k
theorem sR{i:Int}{t:Tok}:VE μ (.int i t) (.d (.int i)):=⟨.int i t,rfl⟩
theorem lI{b:Bool}:VE μ (.bool b) (.d (.bool b)):=⟨.bool b,rfl⟩
theorem nP:VE μ .none (.d .none):=⟨.none,rfl⟩
theorem mW{x:Str}{t:Tok}(h:bK (.str x)=true):VE μ (.str x t) (.d (.str x)):=⟨.str x t,h⟩
theorem mI.listAt{k:Nat}{xs:List OV}(S:mI Z cA μ st h)(hk:st[k]? = some (.list xs))(hw:VE μ w (.o k)):∃ a items n sl,w = .ref a∧μ[k]? = some a∧h.get? a=some (bV items n sl)∧hW μ items.toList xs∧items.size=xs.length∧xs.length≤1001:=by
 obtain⟨a,ha,rfl⟩:=hw
 obtain⟨items,n,sl,h2,h3,h4⟩:=S.of hk ha
 exact⟨a,items,n,sl,rfl,ha,h2,h3,Array.length_toList.symm.trans h3.length,h4⟩
theorem AL{n:Nat}(h:n≤1001):n≤sizeLine:=Nat.le_trans h (by decide)
theorem nQ{b:Bool}{R:Bool→Shared→Prop}(hh:A.handled=none)(a:dG Z cA j5 μ h μ' st' s')(hw:VE μ' w v)(ht:pF st' v=some b)(g:∀ s'',dG Z cA j5 μ h μ' st' s''→R b s''):wpAny (model Z.prog Z.w) A (truthy w) R E s':=by
 cases v with
 | d x=>exact iY ht fun _ ht=>let⟨r,ok,_⟩:=qG.rd hw s'.heap; fF a.i r ok ht fun s'' I k=>g s'' (a.kp I k)
 | o k =>
  exact aS ht fun f hf ht=>by
   cases f with
   | list xs =>
    cases ht
    obtain⟨b,items,n,sl,rfl,_,h2,_,h4,h5⟩:=a.so.listAt hf hw
    have e:items.isEmpty=xs.isEmpty:=by
     unfold Array.isEmpty
     rw[h4]
     cases xs <;> rfl
    exact wpAny_truthy_list ⟨_,h2,rfl,n,rfl⟩ (R7 h4 h5) (e▸g _ (a.tok _))
   | deq =>
    cases ht
    obtain⟨b,ha,rfl⟩:=hw
    obtain⟨o,h2,h3⟩:=a.so.of hf ha
    exact CY hh h2 h3 (g _ (a.tok _))
   | _=>cases ht
 | ty T=>cases ht
theorem Al{op:Operator}(a:dG Z cA j5 μ h μ' st' s')(hw:VE μ' w x)(hu:VE μ' u y)(hv:GD op x y=some v)(g:hZ Z cA μ h st' v Q):wpAny (model Z.prog Z.w) A (binaryOp op w u) Q E s' :=
 vS hv fun x' e1 _ hv=>vS hv fun y' e2 _ hv=>tD hv fun d h3 f3 e=>by
 subst e1 e2 e
 obtain⟨r1,ok1,_⟩:=qG.rd hw s'.heap
 obtain⟨r2,ok2,_⟩:=qG.rd hu s'.heap
 exact wA (O:=[]) (es:=[]) a.i r1 r2 ok1 ok2 h3 (g.flat a f3) nofun nofun nofun
theorem oB{w:Value}{x:PyData}(h:qG w x)(a:Addr):(plainIs w (.ref a)=true∧(w == .ref a)=false)∧plainIs (.ref a) w=true∧(Value.ref a==w)=false:=by
 obtain⟨r,_⟩:=h
 cases r <;> exact⟨⟨rfl,rfl⟩,rfl,rfl⟩
theorem Br{b:Bool}(S:mI Z cA μ st s.heap)(hw:VE μ w x)(hu:VE μ u y)(hb:Ad x y=some b):(Q (.bool b) s→wpAny (model Z.prog Z.w) A (compareOp .Is w u) Q E s)∧(Q (.bool !b) s→wpAny (model Z.prog Z.w) A (compareOp .IsNot w u) Q E s):=by
 have both:(∀ R:Bool→Shared→Prop,R b s→wpAny (model Z.prog Z.w) A (isSame w u) R E s)→(Q (.bool b) s→wpAny (model Z.prog Z.w) A (compareOp .Is w u) Q E s)∧(Q (.bool !b) s→wpAny (model Z.prog Z.w) A (compareOp .IsNot w u) Q E s) :=
  fun h=>⟨fun q=>by show wpAny _ A (do return .bool (← isSame w u)) Q E s; exact wpAny_bind (h _ (wpAny_pure q)),fun q=>by show wpAny _ A (do return .bool (!(← isSame w u))) Q E s; exact wpAny_bind (h _ (wpAny_pure q))⟩
 cases x with
 | d x =>
  refine iY hb fun fx hb=>?_
  cases y with
  | d y=>exact iY hb fun fy hb=>tL (qG.rd hw s.heap).1 (qG.rd hu s.heap).1 hb
  | o k=>obtain⟨a,_,rfl⟩:=hu; cases hb; exact both fun R q=>wpAny_isSame_plain (oB hw a).1.1 ((oB hw a).1.2▸q)
  | ty T=>cases hb
 | o k =>
  obtain⟨a,ha,rfl⟩:=hw
  cases y with
  | d y=>refine iY hb fun fy hb=>?_; cases hb; exact both fun R q=>wpAny_isSame_plain (oB hu a).2.1 ((oB hu a).2.2▸q)
  | o j =>
   obtain⟨c,hc,rfl⟩:=hu
   refine both fun R hq=>?_
   cases hb
   by_cases e:k=j
   ·subst e
    cases ha.symm.trans hc
    exact wpAny_isSame_ref_self (beq_self_eq_true k▸hq)
   ·obtain⟨o1,e1,n1⟩:=S.ex ha
    obtain⟨o2,e2,_⟩:=S.ex hc
    exact wpAny_isSame_ref_other (fun e'=>e (getElem?_nodup S.nd ha (e'▸hc))) e1 e2 n1 (beq_false_of_ne e▸hq)
  | ty T=>cases hb
 | ty T =>
  cases y with
  | ty U =>
   cases hw; cases hu; cases hb
   have:(Value.type T==Value.type U)=(T==U):=by
    by_cases e:T=U
    ·subst e; rw[beq_self_eq_true,beq_self_eq_true]
    ·rw[beq_false_of_ne e,beq_false_of_ne fun h=>e (Value.type.inj h)]
   exact both fun R q=>wpAny_isSame_plain rfl (this▸q)
  | _=>cases hb
theorem W9{op:CmpOp}(hA:f6 Z lvl A)(a:dG Z cA j5 μ h μ' st' s')(hw:VE μ' w x)(hu:VE μ' u y)(hv:BO op x y=some v)(g:hZ Z cA μ h st' v Q):wpAny (model Z.prog Z.w) A (compareOp op w u) Q E s':=by
 have rest:((sM x).bind fun x=>(sM y).bind fun y=>qK (sA op x y))=some v→wpAny (model Z.prog Z.w) A (compareOp op w u) Q E s':=fun hv =>
  vS hv fun x' e1 _ hv=>vS hv fun y' e2 _ hv=>tD hv fun d h3 f3 e=>by
  subst e1 e2 e
  obtain⟨r1,ok1,_⟩:=qG.rd hw s'.heap
  obtain⟨r2,ok2,_⟩:=qG.rd hu s'.heap
  exact pU (O:=[]) (es:=[]) hA a.i r1 r2 ok1 ok2 h3 (g.flat a f3)
 cases op with
 | Is=>exact bY hv fun b hb e=>(Br a.so hw hu hb).1 (g _ _ _ a (e▸lI))
 | IsNot=>exact bY hv fun b hb e=>(Br a.so hw hu hb).2 (g _ _ _ a (e▸lI))
 | _=>exact rest hv
theorem Ak(a:dG Z cA j5 μ h μ' st' s')(hw:VE μ' w x)(hu:VE μ' u y)(hv:eX st' x y=some v)(g:hZ Z cA μ h st' v Q) :
  (∃ T id,s'.TypeIs w T∧typeLookup (.type T) "__getitem__" = pure (some (.builtin id)))∧wpAny (model Z.prog Z.w) A (getItem w u) Q E s':=j7 hv fun y' ey hv=>by
 subst ey
 cases x with
 | d x =>
  exact f7 hv fun sx ex hv=>tD hv fun d h3 f3 e=>by
   subst ex e
   obtain⟨r1,ok1,_⟩:=qG.rd hw s'.heap
   obtain⟨r2,ok2,_⟩:=qG.rd hu s'.heap
   exact⟨gZ r1 rfl,v9 (O:=[]) (es:=[]) a.i r1 r2 ok1 h3 (g.flat a f3) nofun⟩
 | o k =>
  exact sN hv fun i ei hv1=>RI hv1 fun xs hk hv2=>aS hv2 fun j hp hv3=>by
   subst ei
   obtain⟨b,items,n,sl,rfl,_,h2,h3,h4,h5⟩:=a.so.listAt hk hw
   refine⟨⟨"list",_,⟨_,h2,rfl⟩,slot_list_getitem.lookup⟩,ZU (m:=fun u=>wpAny _ A (getItem _ u) Q E s') hu fun t=>?_⟩
   obtain⟨hj,h5,h6,h7⟩:=gC hp
   obtain⟨z,ev,hz⟩:=h3.get hv3
   have ev':items[j]? = some z:=Array.getElem?_toList▸ev
   have hq:Q z s':=g z s' μ' a hz
   have hl:s'.heap.IsList b items:=⟨_,h2,rfl,n,rfl⟩
   rcases h7 with⟨h7,rfl⟩| ⟨h7,h8,rfl⟩
   ·exact wpAny_getItem_list hl h7 h6 ev' hq
   ·exact wpAny_getItem_list_neg hl h7 (h4▸wL h8) h5 (by rw[h4]; exact ev') hq
 | ty T=>cases hv
theorem dG.turnL{b:Addr}{k:Nat}{R:Unit→Shared→Prop}{xs ys:List OV}{f:Array Value→Array Value}(a:dG Z cA j5 μ h μ' st' s')(hk:μ'[k]? = some b)(hx:st'[k]? = some (.list xs))(hl:ys.length≤1001)
  (hg:∀{items:Array Value},hW μ' items.toList xs→hW μ' (f items).toList ys) (g:∀ s'',dG Z cA j5 μ h μ' (st'.set k (.list ys)) s''→R () s''):(∃ items n sl,s'.heap.get? b=some (bV items n sl))∧wpAny (model Z.prog Z.w) A (updateSeq b f) R E s':=by
 obtain⟨items,n,sl,h2,h3,h4⟩:=a.so.of hx hk
 have sz:∀{vs:Array Value}{xs:List OV},hW μ' vs.toList xs→xs.length≤1001→vs.size≤sizeLine:=fun h hl=>Array.length_toList.symm.trans h.length▸AL hl
 exact⟨⟨items,n,sl,h2⟩,wpAny_updateSeq h2 rfl (hz:=sz h3 h4) (_hz':=Nat.le_succ_of_le (sz (hg h3) hl)) (g _ (a.turn hk (Heap.SameBut.update ..) ⟨f items,_,sl,Heap.get?_update_self (Obj.mapSeq f) h2 rfl,hg h3,hl⟩))⟩
theorem J1{b:Addr}{k:Nat}{R:Unit→Shared→Prop}(a:dG Z cA j5 μ h μ' st' s')(hp:mK st' k v=some st'')(hk:μ'[k]? = some b)(hv:VE μ' u v)(g:∀ s'',dG Z cA j5 μ h μ' st'' s''→R () s'') :
  (∃ items n sl,s'.heap.get? b=some (bV items n sl))∧wpAny (model Z.prog Z.w) A (updateSeq b (·.push u)) R E s':=RI hp fun xs hx hp=>iY hp fun hlen e=>by
 cases e
 exact a.turnL hk hx (by rw[List.length_append]; exact Nat.succ_le_succ hlen) (fun h=>by rw[Array.toList_push]; exact h.append (.cons hv .nil)) g
theorem R2{b:Addr}{k:Nat}(a:dG Z cA j5 μ h μ' st' s')(hp:mK st' k v=some st'')(hk:μ'[k]? = some b)(hv:VE μ' u v)(g:hZ Z cA μ h st'' (.d .none) Q) :
  (∃ items n sl,s'.heap.get? b=some (bV items n sl))∧wpAny (model Z.prog Z.w) A (updateSeq b (·.push u) >>= fun _=>ret .none) (fun fin s''=>∃ v,fin=PySem.Fin.done (.ret v)∧Q v s'') E s' :=
 let⟨o,w⟩:=J1 (R:=fun _ s''=>wpAny (model Z.prog Z.w) A (ret .none) (fun fin s''=>∃ v,fin=PySem.Fin.done (.ret v)∧Q v s'') E s'') a hp hk hv fun s'' a'=>wpAny_pure ⟨.none,rfl,g _ _ _ a' nP⟩; ⟨o,wpAny_bind w⟩
end
end Kt.Internal
end
section
open PySem PySem.W PyProof.Rows PySem.Calls Builtin Builtin.ObjectAttr
namespace Kt.Internal
section
variable{D:OD}{sc:Scope}{K:Frag}{fA:Nat→Option Addr}{A:Around}{env:Env}{ρ:LO}{μ μ':List Addr}{st st':St}{s s':Shared}
theorem Oc.go(C:Oc D sc A env ρ μ st s)(a:dG D.Z D.cA j5 μ s.heap μ' st' s'):Oc D sc A env ρ μ' st' s':=⟨C.ha,C.hs,C.he.step a.t,a.i,a.so⟩
theorem Oc.at(C:Oc D sc A env ρ μ st s):dG D.Z D.cA j5 μ s.heap μ st s:=.here C.hi C.so
theorem JZ{e:Expr}{p:OE}(h:cM D sc e p)(hw:∀ env,isTrue e env (eval e env)=(do let v ← eval e env; standAt e.pos; holding [v] (truthy v))):cM D sc e p∧H3 D sc e p :=
 ⟨h,fun{A env ρ μ st s t st' Q E}C hd hQ=>bF hd fun v st₁ hx hd=>kG hd fun hb e=>by
 subst e
 rw[hw]
 exact wpAny_bind (h C hx fun w s' μ' a hv=>wpAny_bind (wpAny_standAt (wpAny_holding (nQ C.ha.handled a hv hb fun s'' a'=>hQ s'' μ' a'))))⟩
theorem PP{d:PyData}{c:Const}{k:Nat}{pos:Pos}(h:N5 d=some c):cM D sc (.Constant c k pos) (.lit d):=fun{A env ρ μ st s v st' Q E}C hd g=>BI hd fun hf e=>by
 cases e
 rw[arm_eval_Constant]
 cases d with
 | none=>cases h; exact wpAny_pure (g _ _ _ C.at nP)
 | bool a=>cases h; exact wpAny_pure (g _ _ _ C.at lI)
 | int a=>cases h; exact wpAny_mkInt (g _ _ _ (C.at.tok _) sR)
 | str a=>exact BI h fun h2 e=>by subst e; exact wpAny_mkText (g _ _ _ (C.at.tok _) (mW h2))
 | _=>cases h
theorem Oc.load(C:Oc D sc A env ρ μ st s){x:Nat}{n:Str}{v:OV}{Q:Value→Shared→Prop}{E:Value→Shared→Prop}(hn:D.nm[x]? = some n)(hv:sc.names.lookup n=some .local)
  (hx:(ρ[x]?).join=some v) (hQ:∀ w,VE μ w v→Q w s):wpAny (model D.Z.prog D.Z.w) A (loadName env n) Q E s :=
 let⟨_,hm,hmv⟩:=C.he.ns; let⟨w,hw,hwv⟩:=hmv x v n hx hn; wpAny_loadName_local C.he.kind (C.hs.1 n hv) hm hw (hQ w hwv)
theorem yG{x:Nat}{n:Str}{pos:Pos}(hn:D.nm[x]? = some n)(hv:sc.names.lookup n=some .local)(hd:n≠("__debug__" : Str)):cM D sc (.Name n pos) (.var x):=fun{A env ρ μ st s v st' Q E}C he g=>bY he fun v' hx e=>by
 cases e
 exact wpAny_Name (C.load hn hv hx fun w hw=>g _ _ _ C.at hw) (beq_eq_false_iff_ne.mpr hd)
theorem Oc.glob(C:Oc D sc A env ρ μ st s){n:Str}{pos:Pos}{v:Value}{Q:Value→Shared→Prop}{E:Value→Shared→Prop}(hg:aR sc n=true)(hv:D.Z.mg n=some v)(h:Q v s):wpAny (model D.Z.prog D.Z.w) A (eval (.Name n pos) env) Q E s :=
 Calls.Name_function_global C.he.kind (C.hs.2.2 n (gB hg).1) (Calls.loadGlobal_global (mg:=D.Z.mg) (C.he.glob▸C.hi.glob) hv h) (gB hg).2
theorem Oc.blt(C:Oc D sc A env ρ μ st s)(hB:gO D.Z){n:Str}{pos:Pos}{v:Value}{Q:Value→Shared→Prop}{E:Value→Shared→Prop}(hg:aR sc n=true)(hv:(n,v)∈iM)(h:Q v s):wpAny (model D.Z.prog D.Z.w) A (eval (.Name n pos) env) Q E s :=
 Calls.Name_function_global C.he.kind (C.hs.2.2 n (gB hg).1) (Calls.loadGlobal_builtin (mg:=D.Z.mg) (mb:=D.Z.mb) (C.he.glob▸C.hi.glob) (hB n v hv).1 (C.he.blt▸C.hi.bltn) (hB n v hv).2 h) (gB hg).2
theorem J0{T:String}{n:Str}{pos:Pos}(hB:gO D.Z)(hg:aR sc n=true)(hv:(n,.type T)∈iM):cM D sc (.Name n pos) (.ty T):=fun{A env ρ μ st s v st' Q E}C he g=>by
 cases he
 exact C.blt hB hg hv (g _ _ _ C.at rfl)
theorem MG{c:Nat}{C:Addr}{x:Expr}{a:Str}{pos:Pos}{p:OE}(hK:∀ h,D.Z.TabI h→K.In h)(hC:D.cA c=some C)(hok:zK K C a=true)(hc:cF x=false)(h:cM D sc x p):cM D sc (.Attribute x a pos) (.attr c p a):=fun{A env ρ μ st s v st' Q E}X he g =>
 bF he fun o st₁ hx he=>bF he fun k es hi he=>kG he fun hl e=>by
 subst e
 rw[arm_eval_Attribute,aQ hc]
 exact wpAny_bind (h X hx fun w s₁ μ₁ a₁ hw=>wpAny_bind (wpAny_standAt (wpAny_bind (wpAny_holding (XE (hK _ a₁.i.tab) a₁.so hC hok hi hl hw fun u hu=>wpAny_bind (wpAny_letTemporaryGo (wpAny_pure (g _ _ _ (a₁.tok _) hu))))))))
theorem VF{a:OE}{e:Expr}{pos:Pos}(h:cM D sc e a):cM D sc (.UnaryOp .Not e pos) (.nt a):=fun{A env ρ μ st s v st' Q E}C he g=>bF he fun o st₁ hx he=>bY he fun b hb e=>by
 cases e
 rw[arm_eval_UnaryOp]
 exact wpAny_bind (h C hx fun w s₁ μ₁ a₁ hw=>wpAny_bind (wpAny_standAt (wpAny_holding (wpAny_holding (wpAny_bind (nQ C.ha.handled a₁ hw hb fun s₂ a₂=>wpAny_pure (g _ _ _ a₂ lI)))))))
theorem VC{a:OE}{e:Expr}{pos:Pos}(h:H3 D sc e a):H3 D sc (.UnaryOp .Not e pos) (.nt a):=fun{A env ρ μ st s t st' Q E}C he hQ=>bF he fun o st₁ hx he=>bF hx fun y st₂ hy hx=>bY hx fun b hb e=>by
 cases e
 exact kG he fun ht e=>by
  subst e
  cases ht
  exact wpAny_isTrue_Not (h (t:=b) C ((congrArg (Option.bind · _) hy).trans (congrArg (Option.map _) hb)) hQ)
theorem PU{op:Operator}{a b:OE}{l r:Expr}{pos:Pos}(ha:cM D sc l a)(hb:cM D sc r b):cM D sc (.BinOp l op r pos) (.bin op a b):=fun{A env ρ μ st s v st' Q E}C he g=>bF he fun x st₁ hx he=>bF he fun y st₂ hy he=>kG he fun hv e=>by
 subst e
 exact wpAny_BinOp (ha C hx fun w s₁ μ₁ a₁ hw=>hb (C.go a₁) hy fun u s₂ μ₂ a₂ hu=>Al (a₁.trans a₂) (hw.pre a₂.t.pre) hu hv g)
theorem z9{q:Bool}{a b:OE}{v:OV}{G:Prop}(hd:cQ D.cl D.ex (.bool q a b) ρ st=some (v,st'))(k:∀ x st₁ t,cQ D.cl D.ex a ρ st=some (x,st₁)→pF st₁ x=some t→(t=q∧cQ D.cl D.ex b ρ st₁=some (v,st'))∨(t=(!q)∧x=v∧st₁=st')→G):G :=
 bF hd fun x st₁ hx hd=>aS hd fun t ht hd=>k x st₁ t hx ht <| by
  by_cases h:(t==q)=true
  ·rw[if_pos h]at hd; exact .inl ⟨eq_of_beq h,hd⟩
  ·rw[if_neg h]at hd; cases hd; exact .inr ⟨by cases t <;> cases q <;> first | rfl | exact absurd rfl h,rfl,rfl⟩
theorem AB{q:Bool}{a b:OE}{x:Expr}{rest:List Expr}{pos:Pos}(hr:∀ env,∃ y r,evalEach rest env=y::r)(ha:cM D sc x a)
  (hb:∀{A:Around}{env:Env}{ρ:LO}{μ:List Addr}{st:St}{s:Shared}{v:OV}{st':St}{Q:Value→Shared→Prop}{E:Value→Shared→Prop},
   Oc D sc A env ρ μ st s→cQ D.cl D.ex b ρ st=some (v,st')→hZ D.Z D.cA μ s.heap st' v Q→wpAny (model D.Z.prog D.Z.w) A (boolOp pos (kD q) (evalEach rest env)) Q E s) :
  cM D sc (.BoolOp (kD q) (x::rest) pos) (.bool q a b):=fun{A env ρ μ st s v st' Q E}C hd g=>z9 hd fun y st₁ t hx ht hc=>by
 rw[arm_eval_BoolOp,arm_evalEach_cons]
 have hb':=fun{μ₂ st₂ s₂}(a₂:dG D.Z D.cA j5 μ s.heap μ₂ st₂ s₂)h=>hb (Q:=Q) (E:=E) (C.go a₂) h (g.after a₂)
 obtain⟨y',r',e⟩:=hr env
 rw[e]at hb' ⊢
 refine wpAny_bind (ha C hx fun w s₁ μ₁ a₁ hw=>wpAny_bind (wpAny_standAt (wpAny_bind (wpAny_holding (nQ C.ha.handled a₁ hw ht fun s₂ a₂=>?_)))))
 rcases hc with⟨rfl,hc⟩| ⟨rfl,rfl,rfl⟩
 ·have:=hb' a₂ hc
  cases t <;> exact this
 ·have:Q w s₂:=g w s₂ μ₁ a₂ hw
  cases q <;> exact wpAny_pure this
theorem AA{q:Bool}{a b:OE}{x:Expr}{rest:List Expr}{pos:Pos}(ha:H3 D sc x a)
  (hb:∀{A:Around}{env:Env}{ρ:LO}{μ:List Addr}{st:St}{s:Shared}{t:Bool}{st':St}{Q:Bool→Shared→Prop}{E:Value→Shared→Prop},
   Oc D sc A env ρ μ st s→jK D.cl D.ex b ρ st=some (t,st')→(∀ s' μ',dG D.Z D.cA j5 μ s.heap μ' st' s'→Q t s')→wpAny (model D.Z.prog D.Z.w) A (allTrue (kD q) rest env) Q E s) :
  H3 D sc (.BoolOp (kD q) (x::rest) pos) (.bool q a b):=fun{A env ρ μ st s r st' Q E}C hd hQ=>bF hd fun v st₂ hv hd=>kG hd fun hr e=>by
 subst e
 refine z9 hv fun y st₁ t hx ht hc=>?_
 rw[arm_isTrue_BoolOp,arm_allTrue_cons]
 refine wpAny_bind (ha (t:=t) C ((congrArg (Option.bind · _) hx).trans (congrArg (Option.map _) ht)) fun s₁ μ₁ a₁=>?_)
 rcases hc with⟨rfl,hc⟩| ⟨rfl,rfl,rfl⟩
 ·have:=hb (E:=E) (C.go a₁) (t:=r) ((congrArg (Option.bind · _) hc).trans (congrArg (Option.map _) hr)) fun s₂ μ₂ a₂=>hQ s₂ μ₂ (a₁.trans a₂)
  cases t <;> exact this
 ·cases ht.symm.trans hr
  have:=hQ s₁ μ₁ a₁
  cases q <;> exact wpAny_pure this
theorem PT{op:CmpOp}{a b:OE}{l r:Expr}{pos:Pos}(hm:behindInMarks op r=false)(ha:cM D sc l a)(hb:cM D sc r b):cM D sc (.Compare l [op] [r] pos) (.cmp op a b):=fun{A env ρ μ st s v st' Q E}C he g=>bF he fun x st₁ hx he=>bF he fun y st₂ hy he=>kG he fun hv e=>by
 subst e
 exact wpAny_Compare1 (ha C hx fun w s₁ μ₁ a₁ hw=>hb (C.go a₁) hy fun u s₂ μ₂ a₂ hu=>W9 C.ha (a₁.trans a₂) (hw.pre a₂.t.pre) hu hv g) hm
theorem PH{op:CmpOp}{a b:OE}{l r:Expr}{pos:Pos}(hm:behindInMarks op r=false)(ha:cM D sc l a)(hb:cM D sc r b):H3 D sc (.Compare l [op] [r] pos) (.cmp op a b):=fun{A env ρ μ st s t st' Q E}C he hQ=>bF he fun v st₃ hv he=>kG he fun ht e=>by
 subst e
 exact bF hv fun x st₁ hx hv1=>bF hv1 fun y st₂ hy hv2=>kG hv2 fun hv3 e=>by
  subst e
  exact wpAny_isTrue_Compare1 (ha C hx fun w s₁ μ₁ a₁ hw=>hb (C.go a₁) hy fun u s₂ μ₂ a₂ hu=>W9 C.ha (a₁.trans a₂) (hw.pre a₂.t.pre) hu hv3 fun z s₃ μ₃ a₃ hz=>nQ C.ha.handled a₃ hz ht fun s₄ a₄=>hQ s₄ μ₃ a₄) hm
theorem dB:xD D sc [] .nil:=fun{A env ρ μ st s ds st' R E pos}C hd hR=>by
 cases hd
 exact Calls.spliced_nil (hR [] s μ C.at .nil)
theorem bX{e:Expr}{es:List Expr}{p:OE}{ps:F6}(hstar:aC e=false)(h1:cM D sc e p)(h2:xD D sc es ps):xD D sc (e::es) (.cons p ps):=fun{A env ρ μ st s ds st' R E pos}C hd hR=>bF hd fun x st₁ hx hd=>bY hd fun q hr e=>by
 cases e
 rw[bI hstar]
 exact Calls.spliced_cons (h1 C hx fun w s₁ μ₁ a₁ hw=>h2 (C.go a₁) hr fun vs s₂ μ₂ a₂ hvs=>hR (w::vs) s₂ μ₂ (a₁.trans a₂) (.cons (hw.pre a₂.t.pre) hvs))
theorem f6.in1{Z:aF}{l:Nat}{A:Around}(h:f6 Z (8*l+7) A):f6 Z (8*l) A.in1:=h.in_.mono (Nat.le_add_right _ 6)
theorem iT:∀{es:List Expr},(es.all fun e=>!aC e)=true→aV es
 | [],_=>iS
 | _::_,h=>fH (bO (aA h).1) (iT (aA h).2)
theorem gG{f:Value}{es:List Expr}{ps:F6}{pos:Pos}{ds:List OV}{R:Args→Shared→Prop}{E:Value→Shared→Prop}(hpl:aV es)(h:xD D sc es ps)(C:Oc D sc A env ρ μ st s)(hd:w8 D.cl D.ex ps ρ st=some (ds,st'))
  (hR:∀ vs s' μ',dG D.Z D.cA j5 μ s.heap μ' st' s'→hW μ' vs ds→R ⟨vs,[]⟩ s'):wpAny (model D.Z.prog D.Z.w) A (evalArgs f true (backTo pos (starEach es env)) []) R E s:=by
 have:=h (R:=fun vs s'=>R ⟨vs,[]⟩ s') (E:=E) (pos:=pos) C hd hR
 cases es with
 | nil =>
  unfold evalArgs
  show wpAny _ A (spliced [] >>= _) R E s
  refine wpAny_bind (wpAny_mono this (fun vs s' h'=>wpAny_bind (wpAny_pure (wpAny_holding ?_))) fun _ _ e=>e)
  exact wpAny_bind (wpAny_pure (wpAny_bind (wpAny_pure (wpAny_pure h'))))
 | cons e es=>exact bT (hpl.2.1 nofun env pos) this
theorem MF{f:Nat}{a:Addr}{n:Str}{p pos:Pos}{es:List Expr}{ps:F6}(hkw:H0 f=[])(hK:∀ h,D.Z.TabI h→K.In h)(hC:bW D.Z D.cA D.cl D.lvl fA)(hf:fA f=some a)(hg:aR sc n=true)(hv:D.Z.mg n=some (.ref a))(hk:keepIn K (.ref a)=true)
  (hpl:aV es) (h:xD D sc es ps):cM D sc (.Call (.Name n p) es [] pos) (.call f ps):=fun{A env ρ μ st s v st' Q E}C he g=>bF he fun ds st₁ hx hd=>by
 rw[bU]
 exact wpAny_bind (C.glob hg hv (callWith_of (P:=K.In) (by rw[hpl.1]; rfl) (keeps_K hk) (gG hpl h C hx fun vs s₁ μ₁ a₁ hvs=>⟨hK _ a₁.i.tab,wpAny_call (jG hkw▸hC hf hd (C.ha.mono (Nat.le_add_right _ _)) a₁.i (C.he.step a₁.t).size a₁.so hvs (g.after a₁))⟩)))
theorem G2{c f:Nat}{C a:Addr}{o:Expr}{m:Str}{apos pos:Pos}{es:List Expr}{p:OE}{ps:F6}(hkw:H0 f=[])(hK:∀ h,D.Z.TabI h→K.In h)(hC:bW D.Z D.cA D.cl D.lvl fA)(hcA:D.cA c=some C)(hf:fA f=some a)(hok:B7 K C m a=true)(hc0:cF o=false)(hline:(apos.endLine==pos.line)=true)
  (hlen:es.length≤5) (hpl:aV es) (ho:cM D sc o p) (h:xD D sc es ps):cM D sc (.Call (.Attribute o m apos) es [] pos) (.mcall c p m f ps):=fun{A env ρ μ st s v st' Q E}X he g =>
 bF he fun x st₁ hx he=>bF he fun k ats hi he=>iY he fun hno he=>bF he fun ds st₂ hy hd=>by
 rw[arm_eval_Call,aQ hc0]
 have hpos:methodCallPos true o env apos pos=pure pos:=by unfold methodCallPos; rw[hline]; rfl
 have hk:keepIn K (.ref a)=true:=(aA (aA (aA (aA hok).2).2).2).2
 refine wpAny_bind (ho X hx fun w s₁ μ₁ a₁ hw=>wpAny_bind (wpAny_standAt ?_))
 unfold methodCall
 rw[jM hpl hlen]
 refine wpAny_bind (wpAny_holding (Y0 (hK _ a₁.i.tab) a₁.so hcA hok hi (Option.isNone_iff_eq_none.mp hno) hw (wpAny_bind (wpAny_of_eq hpos (callWith_of (P:=K.In) (by rw[hpl.1]; rfl) (keeps_K hk) (gG hpl h (X.go a₁) hy fun vs s₂ μ₂ a₂ hvs=>?_))))))
 have a₁₂:=a₁.trans a₂
 exact⟨hK _ a₂.i.tab,wpAny_call (jG hkw▸hC (args:=x::ds) (vs:=w::vs) hf hd (X.ha.mono (Nat.le_add_right _ _)) a₂.i (X.he.step a₁₂.t).size a₂.so (.cons (hw.pre a₂.t.pre) hvs) (g.after a₁₂))⟩
theorem MC{c f:Nat}{C a:Addr}{x:Expr}{nmA:Str}{pos:Pos}{p:OE}(hkw:H0 f=[])(hK:∀ h,D.Z.TabI h→K.In h)(hC:bW D.Z D.cA D.cl D.lvl fA)(hcA:D.cA c=some C)(hf:fA f=some a)(hok:BX K C nmA a=true)(hc:cF x=false)(h:cM D sc x p) :
  cM D sc (.Attribute x nmA pos) (.prop c p nmA f):=fun{A env ρ μ st s v st' Q E}X he g=>bF he fun o st₁ hx he=>bF he fun k es hi he=>iY he fun _ hd=>by
 rw[arm_eval_Attribute,aQ hc]
 refine wpAny_bind (h X hx fun w s₁ μ₁ a₁ hw=>wpAny_bind (wpAny_standAt (wpAny_bind (wpAny_holding (YJ (hK _ a₁.i.tab) a₁.so hcA hok hi hw ?_)))))
 refine jG hkw▸hC (args:=[o]) (s:={ s₁ with toks:=s₁.toks+1 }) (vs:=[w]) hf hd X.ha.in1 (a₁.i.tok _) (X.he.step a₁.t).size a₁.so (.cons hw .nil) fun u s₂ μ₂ a₂ hu=>⟨u,rfl,?_⟩
 rw[handedOut_of (wS hu)]
 exact wpAny_pure (wpAny_bind (wpAny_letTemporaryGo (wpAny_pure (g u s₂ μ₂ ((a₁.tok _).trans a₂) hu))))
theorem kY{n:Str}{f:Value}{p pos:Pos}{es:List Expr}{ps:F6}{ds:List OV}{Q:Value→Shared→Prop}{E:Value→Shared→Prop}(hB:gO D.Z)(hg:aR sc n=true)(hv:(n,f)∈iM)(hnr:∀ a,f ≠ .ref a)
  (hpl:aV es) (h:xD D sc es ps) (C:Oc D sc A env ρ μ st s) (hd:w8 D.cl D.ex ps ρ st=some (ds,st'))
  (hR:∀ vs s' μ',dG D.Z D.cA j5 μ s.heap μ' st' s'→hW μ' vs ds→wpAny (model D.Z.prog D.Z.w) A (call f vs) Q E s') :
  wpAny (model D.Z.prog D.Z.w) A (eval (.Call (.Name n p) es [] pos) env) Q E s:=by
 rw[bU]
 exact wpAny_bind (C.blt hB hg hv (aT hnr (hpl.1 env pos) (gG hpl h C hd hR)))
theorem u5{p:OE}{x:OV}(h:cQ D.cl D.ex p ρ st=some (x,st')):w8 D.cl D.ex (.cons p .nil) ρ st=some ([x],st'):=congrArg (Option.bind · _) h
theorem W8{p q:OE}{x y:OV}{st₁:St}(h:cQ D.cl D.ex p ρ st=some (x,st₁))(h':cQ D.cl D.ex q ρ st₁=some (y,st')):w8 D.cl D.ex (.cons p (.cons q .nil)) ρ st=some ([x,y],st'):=(congrArg (Option.bind · _) h).trans (congrArg (Option.map _) (u5 h'))
theorem PQ{e:Expr}{p:OE}{q pos:Pos}(hB:gO D.Z)(hg:aR sc "len" = true)(hst:aC e=false)(h:cM D sc e p):cM D sc (.Call (.Name "len" q) [e] [] pos) (.len p):=fun{A env ρ μ st s v st' Q E}C he g=>bF he fun x st₁ hx he=>kG he fun hl e=>by
 subst e
 refine kY (f:=.builtin "len") hB hg (by decide) nofun (aY hst) (bX hst h dB) C (u5 hx) fun vs s₁ μ₁ a₁ hvs=>qV (m:=fun vs=>wpAny _ A (call (.builtin "len") vs) Q E s₁) hvs fun w hw=>?_
 cases x with
 | d x =>
  exact f7 hl fun y e hl=>by
   cases e; cases hl
   exact NO (m:=fun w=>wpAny _ A (call (.builtin "len") [w]) Q E s₁) hw fun t hok=>P.len_str (I3 (u4 hok).2) (g _ _ _ (a₁.tok _) sR)
 | o k =>
  exact RI hl fun xs hk e=>by
   cases e
   obtain⟨b,items,n,sl,rfl,_,h2,_,h4,h5⟩:=a₁.so.listAt hk hw
   exact Calls.call_len_list ⟨_,h2,rfl,n,rfl⟩ (R7 h4 h5) (h4▸g _ _ _ (a₁.tok _) sR)
 | ty T=>cases hl
theorem PK{e:Expr}{p:OE}{q pos:Pos}(hB:gO D.Z)(hg:aR sc "type" = true)(hst:aC e=false)(h:cM D sc e p):cM D sc (.Call (.Name "type" q) [e] [] pos) (.typ p):=fun{A env ρ μ st s v st' Q E}C he g=>bF he fun x st₁ hx he=>kG he fun hl e=>by
 subst e
 exact kY (f:=.type "type") hB hg (by decide) nofun (aY hst) (bX hst h dB) C (u5 hx) fun vs s₁ μ₁ a₁ hvs=>qV (m:=fun vs=>wpAny _ A (call (.type "type") vs) Q E s₁) hvs fun w hw=>j7 hl fun y e hl=>by
  subst e
  cases y with
  | int i=>cases hl; exact ZU (m:=fun w=>wpAny _ A (call (.type "type") [w]) Q E s₁) hw fun t=>call_type_of (typeIs_int _ _ _) (by decide) (g _ _ _ a₁ rfl)
  | str i=>cases hl; exact NO (m:=fun w=>wpAny _ A (call (.type "type") [w]) Q E s₁) hw fun t _=>call_type_of (typeIs_str _ _ _) (by decide) (g _ _ _ a₁ rfl)
  | _=>cases hl
theorem MD{e:Expr}{p:OE}{q pos:Pos}(hB:gO D.Z)(hg:aR sc "int" = true)(hst:aC e=false)(h:cM D sc e p):cM D sc (.Call (.Name "int" q) [e] [] pos) (.intc p):=fun{A env ρ μ st s v st' Q E}C he g=>bF he fun x st₁ hx he=>j7 he fun y e he=>sN he fun i e' he=>by
 have e:x = .d y:=e
 subst e e'
 cases he
 exact kY (f:=.type "int") hB hg (by decide) nofun (aY hst) (bX hst h dB) C (u5 hx) fun vs s₁ μ₁ a₁ hvs=>qV (m:=fun vs=>wpAny _ A (call (.type "int") vs) Q E s₁) hvs fun w hw =>
  ZU (m:=fun w=>wpAny _ A (call (.type "int") [w]) Q E s₁) hw fun t=>call_int_int (g _ _ _ a₁ sR)
theorem G4{e:Expr}{p:OE}{q q' pos:Pos}(hB:gO D.Z)(hg:aR sc "isinstance" = true)(hg':aR sc "str" = true)(hst:aC e=false)(h:cM D sc e p) :
  cM D sc (.Call (.Name "isinstance" q) [e,.Name "str" q'] [] pos) (.isStr p):=fun{A env ρ μ st s v st' Q E}C he g=>bF he fun x st₁ hx he=>bY he fun y hy e=>by
 cases pS hy
 cases e
 exact kY (f:=.builtin "isinstance") (ps:=.cons p (.cons (.ty "str") .nil)) hB hg (by decide) nofun (lZ hst rfl) (bX hst h (bX rfl (J0 hB hg' (by decide)) dB)) C (W8 hx rfl) fun vs s₁ μ₁ a₁ hvs =>
  NZ (m:=fun vs=>wpAny _ A (call (.builtin "isinstance") vs) Q E s₁) hvs fun w u hw hu=>NO (m:=fun w=>wpAny _ A (call (.builtin "isinstance") [w,u]) Q E s₁) hw fun t _=>by
   cases hu
   exact call_isinstance_yes (typeIs_str _ _ _) F.isi_meta_str (by rw[isSubtype_type]; kernel_rfl) (g _ _ _ a₁ lI)
theorem PR{a i:OE}{v sl:Expr}{pos:Pos}(hns:rO sl=false)(ha:cM D sc v a)(hi:cM D sc sl i):cM D sc (.Subscript v sl pos) (.idx a i):=fun{A env ρ μ st s r st' Q E}C he g=>bF he fun x st₁ hx he=>bF he fun y st₂ hy he=>kG he fun hv e=>by
 subst e
 refine Subscript_ (ha C hx fun w s₁ μ₁ a₁ hw=>hi (C.go a₁) hy fun u s₂ μ₂ a₂ hu=>?_)
 obtain⟨⟨T,id,hT,hl⟩,hq⟩:=Ak (A:=A) (E:=E) (a₁.trans a₂) (hw.pre a₂.t.pre) hu hv g
 refine tail_any (ops:=[w,u]) hT hl hq ?_
 cases sl with
 | Slice=>cases hns
 | _=>rfl
theorem VD:W1 D sc none .no:=fun{A env ρ μ st s d st' Q E}C hd hQ=>by
 cases hd
 exact wpAny_pure (hQ none rfl s μ C.at)
theorem PJ{e:Expr}{p:OE}(h:cM D sc e p):W1 D sc (some e) (.yes p):=fun{A env ρ μ st s d st' Q E}C hd hQ=>bF hd fun x st₁ hx hd=>bY hd fun i hi e=>by
 cases e
 rw[evalPart_some]
 exact h C hx fun w s' μ' a hw=>j7 hi fun y e hi'=>ZU (μ:=μ') (x:=i) (m:=fun w=>Q w s') (by cases wE hi'; cases(show x=OV.d _ from e); exact hw) fun t=>hQ (some (i,t)) rfl s' μ' a
theorem PL{a:OE}{lo hi:OO}{v:Expr}{l u:Option Expr}{p pos:Pos}(ha:cM D sc v a)(hl:W1 D sc l lo)(hu:W1 D sc u hi):cM D sc (.Subscript v (.Slice l u none p) pos) (.slc a lo hi):=fun{A env ρ μ st s r st' Q E}C he g =>
 bF he fun x st₁ hx he=>bF he fun y st₂ hy he=>bF he fun z st₃ hz he=>kG he fun hv e=>sF hv fun sx ex hv=>tD hv fun d h3 f3 ed=>by
 cases ex
 subst e ed
 refine Subscript_ (ha C hx fun w s₁ μ₁ a₁ hw=>wpAny_Slice (hl (C.go a₁) hy fun q1 e1 s₂ μ₂ a₂=>hu ((C.go a₁).go a₂) hz fun q2 e2 s₃ μ₃ a₃=>wpAny_pure ?_))
 have a₄:=((a₁.trans a₂).trans a₃).kp (a₃.i.push { cls:=.type "slice",data:=.fields #[partValue q1,partValue q2,.none] } s₃.toks) (Kp.push _ _ _)
 obtain⟨r1,ok1,_⟩:=qG.rd (show qG w (.str sx)from hw) (s₃.heap.push { cls:=.type "slice",data:=.fields #[partValue q1,partValue q2,.none] })
 obtain⟨T,id,hT,hl⟩:=gZ (s:={ s₃ with heap:=s₃.heap.push { cls:=.type "slice",data:=.fields #[partValue q1,partValue q2,.none] } }) r1 rfl
 exact tail_any (ops:=[.ref s₃.heap.objs.size,w]) hT hl (v8 (O:=[]) (es:=[]) (lo:=q1) (hi:=q2) a₄.i r1 ok1 ⟨_,Heap.get?_push_size _ rfl,rfl,rfl⟩ (by rw[e1,e2]; exact h3) (g.flat a₄ f3) nofun nofun) rfl
theorem R4{id:String}{name:Str}{x:Expr}{args:List Expr}{apos pos:Pos}{p:OE}{ps:F6}(slot:Slot "str" name id)(hty:typeOf (.builtin id)=pure (.type "method_descriptor"))(hc:cF x=false)(hline:(apos.endLine==pos.line)=true)(hlen:args.length≤5)(hpl:aV args)
  (ho:cM D sc x p) (h:xD D sc args ps) {st₁ st₂:St} {a:Str} {ds:List OV} {Q:Value→Shared→Prop} {E:Value→Shared→Prop} (C:Oc D sc A env ρ μ st s) (hx:cQ D.cl D.ex p ρ st=some (.d (.str a),st₁)) (hy:w8 D.cl D.ex ps ρ st₁=some (ds,st₂))
  (hR:∀ t vs s' μ',bK (.str a)=true→dG D.Z D.cA j5 μ s.heap μ' st₂ s'→hW μ' vs ds→wpAny (model D.Z.prog D.Z.w) A (call (.builtin id) (.str a t::vs)) Q E s') :
  wpAny (model D.Z.prog D.Z.w) A (eval (.Call (.Attribute x name apos) args [] pos) env) Q E s :=
 wpAny_Call_method_lateS (aQ hc _ _ _) (jM hpl hlen) hline (ho C hx fun w s₁ μ₁ a₁ hw=>NO (m:=fun w=>MethodOnS D.Z.prog D.Z.w A E name w pos (backTo pos (starEach args env)) Q s₁) hw fun t hok =>
  ⟨"str",id,F.plainAttrs_str,slot,hty,typeIs_str _ _ _,nofun,aT nofun (hpl.1 env pos) (gG hpl h (C.go a₁) hy fun vs s₂ μ₂ a₂ hvs=>hR t vs s₂ μ₂ hok (a₁.trans a₂) hvs)⟩)
theorem MB{x e1 e2:Expr}{apos pos:Pos}{p a b:OE}(hc:cF x=false)(hline:(apos.endLine==pos.line)=true)(h1:aC e1=false)(h2:aC e2=false)(ho:cM D sc x p)(ha:cM D sc e1 a)(hb:cM D sc e2 b) :
  cM D sc (.Call (.Attribute x "replace" apos) [e1,e2] [] pos) (.repl p a b):=fun{A env ρ μ st s r st' Q E}C he g =>
 bF he fun x' st₁ hx he=>bF he fun y st₂ hy he=>bF he fun z st₃ hz he=>kG he fun hv e=>sF hv fun sx ex hv=>sF hv fun sy ey hv=>sF hv fun sz ez hv=>BI hv fun hocc er=>by
 cases ex; cases ey; cases ez
 subst e er
 refine R4 (ps:=.cons a (.cons b .nil)) F.slot_str_replace F.type_str_replace hc hline (Nat.le_of_ble_eq_true rfl) (lZ h1 h2) ho (bX h1 ha (bX h2 hb dB)) C hx (W8 hy hz) fun t vs s' μ' hok a' hvs =>
  NZ (m:=fun vs=>wpAny _ A (call (.builtin "str.replace") (.str sx t::vs)) Q E s') hvs fun w u hw hu=>NO (m:=fun w=>wpAny _ A (call (.builtin "str.replace") [.str sx t,w,u]) Q E s') hw fun tw _=>NO (m:=fun u=>wpAny _ A (call (.builtin "str.replace") [.str sx t,_,u]) Q E s') hu fun tu _=>?_
 refine call_gives F.slot_str_replace (typeIs_str _ _ _) F.entry_str_replace (F.args_str_replace_3 _ _ _) (gives_str_replace sx sy sz t tw tu fun h=>by rw[hocc]at h; cases h) ?_
 rw[hocc,Bool.true_or,if_pos rfl]
 exact g _ _ _ a' (mW hok)
theorem GP{vs:List Value}{xs:List OV}(h:hW μ vs xs):∀{l:List Str},vM xs=some l→∃ ps:List (Str×Tok),vs=strValues ps∧ps.map (·.1)=l∧∀ x∈l,bK (.str x)=true:=by
 induction h with
 | nil=>exact fun h=>by cases h; exact⟨[],rfl,rfl,nofun⟩
 | cons h _ ih =>
  exact fun hl=>sF hl fun s e hl=>bY hl fun r hr e'=>by
   subst e e'
   obtain⟨ps,e1,e2,hall⟩:=ih hr
   subst e1
   exact NO (m:=fun v=>∃ ps:List (Str×Tok),v::_=strValues ps∧ps.map (·.1)=s::r∧∀ x∈s::r,bK (.str x)=true) h fun t hok=>⟨(s,t)::ps,rfl,congrArg (s :: ·) e2,fun y hy=>(List.mem_cons.mp hy).elim (fun e=>e▸hok) (hall y)⟩
theorem G3{x e1:Expr}{apos pos:Pos}{p a:OE}(hc:cF x=false)(hline:(apos.endLine==pos.line)=true)(h1:aC e1=false)(ho:cM D sc x p)(ha:cM D sc e1 a) :
  cM D sc (.Call (.Attribute x "join" apos) [e1] [] pos) (.joinL p a):=fun{A env ρ μ st s r st' Q E}C he g =>
 bF he fun x' st₁ hx he=>bF he fun y st₂ hy he=>kG he fun hv e=>sF hv fun sep ex hv=>bF hv fun k xs hl hv=>aS hv fun ss hss hv=>iY hv fun hfold er=>sI hl fun k' ey hl=>RI hl fun xs' hk hl=>by
 cases ex; cases er; cases hl
 subst e ey
 refine R4 (ps:=.cons a .nil) F.slot_str_join F.type_str_join hc hline (Nat.le_of_ble_eq_true rfl) (aY h1) ho (bX h1 ha dB) C hx (u5 hy) fun t vs s' μ' hok a' hvs =>
  qV (m:=fun vs=>wpAny _ A (call (.builtin "str.join") (.str sep t::vs)) Q E s') hvs fun w hw=>?_
 obtain⟨b,items,n,sl,rfl,_,g2,g3,_⟩:=a'.so.listAt hk hw
 obtain⟨ps,e1,e2,hall⟩:=GP g3 hss
 have e1':items=(strValues ps).toArray:=by rw[← e1]
 rw[e1']at g2
 have hjo:JoinOk sep ss=true:=by
  unfold JoinOk Builtin.Str.tooLong
  rw[← Array.foldl_toList,Bool.not_eq_true',decide_eq_false_iff_not]
  exact Nat.not_lt.mpr (Nat.le_trans hfold (by decide))
 have hlen:(Txt.join sep ss).length≤sizeLine:=joinFit_length (bO hjo)
 refine SC.join ⟨_,g2,rfl,n,rfl⟩ e2 hjo fun t'' tk=>?_
 rw[show Txt.join sep ss=Str.join sep ss from StrLaws.glued_eq_join sep ss]at hlen ⊢
 exact g _ _ _ (a'.tok _) (mW (w9 (jV (u4 hok).1 ss fun x hx=>(u4 (hall x hx)).1) hlen))
theorem Oc.more(C:Oc D sc A env ρ μ st s){μ₁:List Addr}{st₁:St}{s₁:Shared}(a:dG D.Z D.cA j5 μ s.heap μ₁ st₁ s₁){o:Obj}{f:FO}{tk:Nat}{v:OV→Prop}(hf:F7 D.cA (μ₁++[s₁.heap.objs.size]) (s₁.heap.push o) st₁.length s₁.heap.objs.size f) :
  dG D.Z D.cA j5 μ s.heap (μ₁++[s₁.heap.objs.size]) (st₁++[f]) { s₁ with heap:=s₁.heap.push o,toks:=tk }∧VE (μ₁++[s₁.heap.objs.size]) (.ref s₁.heap.objs.size) (.o st₁.length) :=
 ⟨a.more (get?_ge (Nat.le_refl _)) (C.he.step a.t).size (a.i.frLt (Nat.le_refl _)) id (fun _ _ e=>Heap.get?_push_of_some _ e) hf,_,by rw[← a.so.len]; exact List.getElem?_concat_length,rfl⟩
theorem PM{pos:Pos}:cM D sc (.List [] pos) .nil:=fun{A env ρ μ st s r st' Q E}C he g=>by
 cases he
 rw[arm_eval_List]
 refine wpAny_bind (wpAny_standAt (wpAny_bind (Calls.spliced_nil (wpAny_newList ?_ (Nat.le_of_ble_eq_true rfl)))))
 have m:=C.more C.at (tk:=s.toks) (v:=fun _=>True) (f:=.list []) (o:={ cls:=.type "list",data:=.seq (([]:List Value).toArray) }) ⟨#[],_,_,Heap.get?_push_size _ rfl,.nil,Nat.zero_le _⟩
 exact g _ _ _ m.1 m.2
theorem MH{x e1:Expr}{apos pos:Pos}{p a:OE}(hc:cF x=false)(hline:(apos.endLine==pos.line)=true)(h1:aC e1=false)(ho:cM D sc x p)(ha:cM D sc e1 a) :
  cM D sc (.Call (.Attribute x "append" apos) [e1] [] pos) (.appL p a):=fun{A env ρ μ st s r st' Q E}C he g =>
 bF he fun x' st₁ hx he=>bF he fun k xs hl he=>bF he fun y st₂ hy he=>bY he fun st₃ hp e=>sI hl fun k' ex hl=>RI hl fun xs' hk hl=>by
 cases hl; cases e
 subst ex
 refine wpAny_Call_method_lateS (aQ hc _ _ _) (jM (aY h1) (Nat.le_of_ble_eq_true rfl)) hline (ho C hx fun w s₁ μ₁ a₁ hw=>?_)
 obtain⟨b,items,n,sl,rfl,hb,g2,_⟩:=a₁.so.listAt hk hw
 refine⟨"list", "list.append",F.plainAttrs_list,slot_list_append,type_list_append,⟨_,g2,rfl⟩,fun a e=>by cases e; exact⟨_,g2,rfl⟩,?_⟩
 refine aT nofun ((aY h1).1 env pos) (gG (aY h1) (bX h1 ha dB) (C.go a₁) (u5 hy) fun vs s₂ μ₂ a₂ hvs=>qV (m:=fun vs=>wpAny _ A (call (.builtin "list.append") (.ref b::vs)) Q E s₂) hvs fun u hu=>?_)
 obtain⟨⟨_,_,_,o2⟩,body⟩:=R2 (A:=A.in1) (E:=E) (a₁.trans a₂) hp (eG a₂.t.pre hb) hu g
 exact wpAny_call_entry slot_list_append ⟨_,o2,rfl⟩ entry_list_append body (args_list_append _ _)
theorem PN{i:Int}{k:Nat}{p1 pos:Pos}:cM D sc (.UnaryOp .USub (.Constant (.int i) k p1) pos) (.neg i):=fun{A env ρ μ st s r st' Q E}C he g=>by
 cases he
 rw[arm_eval_UnaryOp]
 refine wpAny_bind ?_
 rw[arm_eval_Constant]
 exact wpAny_mkInt (wpAny_bind (wpAny_standAt (wpAny_holding (P.neg_int (g _ _ _ (C.at.tok _) sR)))))
end
section
variable{D:OD}{sc:Scope}{K:Frag}{fA:Nat→Option Addr}{A:Around}{env:Env}{ρ:LO}{μ μ':List Addr}{st st':St}{s s':Shared}
noncomputable def gD:List Str→List Expr→Bool
 | [],es=>es.isEmpty
 | x::xs,es=>jJ es fun e r=>bL e fun c _ _=>c == .str x&&(bK (.str x)&&gD xs r)
theorem iI{pos:Pos}{E:Value→Shared→Prop}:∀{xs:List Str}{es:List Expr}{s:Shared}{R:List Value→Shared→Prop},gD xs es=true →
  (∀ vs tk,(∀ h,ReadsAll h vs (xs.map .str) [])→R vs { s with toks:=tk })→wpAny (model D.Z.prog D.Z.w) A (spliced (backTo pos (starEach es env))) R E s
 | [],es,s,R,hc,h=>d9 (m:=fun es=>wpAny _ A (spliced (backTo pos (starEach es env))) R E s) hc (Calls.spliced_nil (h [] s.toks fun _=>.nil))
 | x::xs,es,s,R,hc,h=>by
  apply cZ hc; intro e r hc
  apply bS hc; intro c k p hc
  refine aB hc fun z hc=>?_; apply b9 z
  refine Calls.spliced_cons ?_
  rw[arm_eval_Constant]
  exact wpAny_mkText (iI (s:={ s with toks:=s.toks+1 }) (aA hc).2 fun vs tk r=>h (_::vs) tk fun g=>ReadsAll.cons (as:=[]) (bs:=[]) (.str x _) (r g))
theorem zU(x:Str):∀ l:List Str,(l.map PyData.str).any (fun y=>PyData.eqv y (.str x))=l.any fun y=>y==x
 | []=>rfl
 | a::l=>congrArg ((a==x)|| ·) (zU x l)
theorem oO:∀{l:List Str}{es:List Expr},gD l es=true→cL (l.map .str)=true
 | [],_,_=>rfl
 | x::xs,es,hc=>cZ (m:=fun _=>cL ((x::xs).map .str)=true) hc fun e r hc=>bS (m:=fun _=>cL ((x::xs).map .str)=true) hc fun c k p hc=>by
  show(bK (.str x)&&cL (xs.map .str))=true
  rw[(aA (aA hc).2).1,oO (aA (aA hc).2).2]; rfl
theorem wI{w:Value}{x:Str}{l:List Str}{es:List Expr}{k:Nat}{pos:Pos}{Q:Value→Shared→Prop}{E:Value→Shared→Prop}(C:Oc D sc A env ρ μ st s)(hw:VE μ w (.d (.str x)))
  (hc:gD l es=true) (hl:l.length≤50) (g:hZ D.Z D.cA μ s.heap st (.d (.bool (l.any fun y=>y==x))) Q):wpAny (model D.Z.prog D.Z.w) A (eval (.Tuple es k pos) env) (fun u s'=>wpAny (model D.Z.prog D.Z.w) A (compareOp .In w u) Q E s') E s:=by
 rw[arm_eval_Tuple]
 refine wpAny_bind (wpAny_standAt (wpAny_bind (iI hc fun vs tk r=>wpAny_newObj_type ?_ ?_)))
 ·have a:=(C.at.tok tk).kp (C.hi.push { cls:=.type "tuple",data:=.seq vs.toArray } tk) (Kp.push _ _ _)
  obtain⟨rw',okx,_⟩:=qG.rd (show qG w (.str x)from hw) (s.heap.push { cls:=.type "tuple",data:=.seq vs.toArray })
  obtain⟨_,rx⟩:=rw'.reads
  refine SeqAt.in_tuple_reads (xs:=l.map .str) (Reads.tuple (Heap.get?_push_size _ rfl) rfl rfl (r _)) rx (b8 (oO hc)) (bR okx) (C.ha.u (Nat.le_trans (Nat.min_le_right _ _) (Nat.zero_le 64))) ((zU x l).symm▸g _ _ _ a lI)
 ·show vs.toArray.size≤_
  rw[List.size_toArray,SeqAt.ReadsAll.length _ _ _ (r default),List.length_map]
  exact Nat.le_trans hl (by decide)
theorem V8{l:List Str}{e:Expr}{es:List Expr}{k:Nat}{p2 pos:Pos}{p:OE}(hc:gD l es=true)(hl:l.length≤50)(h:cM D sc e p):cM D sc (.Compare e [.In] [.Tuple es k p2] pos) (.inT p l)∧H3 D sc (.Compare e [.In] [.Tuple es k p2] pos) (.inT p l) :=
 ⟨fun{A env ρ μ st s v st' Q E}C he g=>bF he fun x st₁ hx he=>bY he fun y hy e=>by
  cases pS hy
  cases e
  exact wpAny_Compare1 (h C hx fun w s₁ μ₁ a₁ hw=>wI (C.go a₁) hw hc hl (g.after a₁)) rfl,
 fun{A env ρ μ st s t st' Q E}C he hQ=>bF he fun v st₂ hv he=>kG he fun ht e=>by
  subst e
  exact bF hv fun x st₁ hx hv=>bY hv fun y hy e=>by
   cases pS hy
   cases e
   exact wpAny_isTrue_Compare1 (h C hx fun w s₁ μ₁ a₁ hw=>wI (C.go a₁) hw hc hl fun z s₃ μ₃ a₃ hz=>nQ C.ha.handled (a₁.trans a₃) hz ht fun s₄ a₄=>hQ s₄ μ₃ a₄) rfl⟩
theorem jH(x:Str):Str.empty++x=x:=congrArg Str.mk (Array.empty_append (xs:=x.cps))
theorem ME{a b:Str}{k1 k2:Nat}{e:Expr}{p1 p2 p3 pos:Pos}{p:OE}(ha:bK (.str a)=true)(hb:bK (.str b)=true)(h:cM D sc e p) :
  cM D sc (.JoinedStr [.Constant (.str a) k1 p1,.FormattedValue e (-1) none p2,.Constant (.str b) k2 p3] pos) (.fstr a p b):=fun{A env ρ μ st s r st' Q E}C he g=>bF he fun x' st₁ hx he=>sF he fun sx ex he=>kG he fun hv e=>iY hv fun hlen er=>by
 have ex:x'=_:=ex
 subst e ex
 cases er
 have hl1:(a++sx).length≤sizeLine:=Nat.le_trans (by rw[strLen_append (a++sx) b]; exact Nat.le_add_right _ _) hlen
 refine wpAny_JoinedStr ?_
 rw[arm_evalEach_cons,arm_evalEach_cons,arm_evalEach_cons]
 show wpAny _ A (eval (.Constant (.str a) k1 p1) env) _ E s
 rw[arm_eval_Constant]
 refine wpAny_mkText ⟨a,_,rfl,by rw[jH]; exact(u4 ha).2,?_⟩
 rw[jH]
 show wpAny _ A (eval (.FormattedValue e (-1) none p2) env) _ E _
 refine wpAny_FormattedValue_plain (h (C.go (C.at.tok (s.toks+1))) hx fun w s₁ μ₁ a₁ hw=>?_)
 obtain⟨t,rfl,hok⟩:∃ t,w = .str sx t∧bK (.str sx)=true:=NO (m:=fun w=>∃ t,w = .str sx t∧bK (.str sx)=true) hw fun t ok=>⟨t,rfl,ok⟩
 have hok3:bK (.str (a++sx++b))=true:=cE (cE ha hok hl1) hb hlen
 have rest:∀ tk t',∃ y t,(Value.str sx t') = .str y t∧(a++y).length≤sizeLine∧Joins (model D.Z.prog D.Z.w) A E [eval (.Constant (.str b) k2 p3) env] (a++y) (fun out s₁=>out.length≤sizeLine∧Q (.str out s₁.toks) { s₁ with toks:=s₁.toks+1 }) { s₁ with toks:=tk }:=fun tk t'=>by
  refine⟨sx,t',rfl,hl1,?_⟩
  show wpAny _ A (eval (.Constant (.str b) k2 p3) env) _ E _
  rw[arm_eval_Constant]
  exact wpAny_mkText ⟨b,_,rfl,hlen,hlen,g _ _ _ ((C.at.tok (s.toks+1)).trans (a₁.tok _)) (mW hok3)⟩
 exact wpAny_formatField_str (rest _ _) (rest _ _) (u4 hok).2
end
section
variable{prog:Program}{w:World}{A:Around}{E:Value→Shared→Prop}{s:Shared}
theorem uV{l:Addr}{vs:Array Value}{n:Nat}{sl:Array (Option Value)}{Q:Value→Shared→Prop}(hh:A.handled=none)(ho:s.heap.get? l=some (bV vs n sl))
  (h:Q (.ref s.heap.objs.size) { s with heap:=s.heap.push (dM l),toks:=s.toks+1 }):wpAny (model prog w) A (getAttr (.ref l) "append" true) Q E s:=by
 refine IS (K:=[]) (congrFun (congrFun (congrFun PySem.W.Fast.te4926136581373384958 (.ref l)) "append") true) 9 (List.replicate 6 (0,bV vs n sl))
  (s.heap.get? l=some (bV vs n sl)∧s.heap.get? l=some (bV vs n sl)∧qb "list.__getattribute__" [.ref l,.str "append" s.toks]∧s.heap.get? l=some (bV vs n sl)∧s.heap.get? l=some (bV vs n sl)∧s.heap.get? l=some (bV vs n sl) ∧
   qb "method_descriptor.__get__" [.builtin "list.append",.ref l,.type "list"]∧s.heap.get? l=some (bV vs n sl)∧Q (.ref s.heap.objs.size) { s with heap:=s.heap.push (dM l),toks:=s.toks+1 }) hh ?_ ?_ ?_
 ·exact fun _ _ h=>nomatch h
 ·kernel_rfl
 ·exact⟨ho,ho,Code.quiet_builtin _ (by decide +kernel),ho,ho,ho,Code.quiet_builtin _ (by decide +kernel),ho,h⟩
theorem DN{u l:Addr}{v:Value}{vs:Array Value}{n:Nat}{sl:Array (Option Value)}{Q:Value→Shared→Prop}(hh:A.handled=none)(hu:s.heap.get? u=some (dM l))(ho:s.heap.get? l=some (bV vs n sl))
  (h:wpAny (model prog w) A.in1 (updateSeq l (·.push v) >>= fun _=>ret .none) (fun fin s'=>∃ v,fin=PySem.Fin.done (.ret v)∧Q v s') E s):wpAny (model prog w) A (call (.ref u) [v]) Q E s:=by
 refine wpAny_call (codeAny_of_tree (IS (K:=[]) (congrFun (congrFun PySem.W.Fast.te2956504954644400088 (.ref u)) ⟨[v],[]⟩) 9 [(0,dM l),(0,bV vs n sl),(0,bV vs n sl),(0,bV vs n sl)]
  (s.heap.get? u=some (dM l)∧s.heap.get? l=some (bV vs n sl)∧s.heap.get? l=some (bV vs n sl)∧s.heap.get? l=some (bV vs n sl)∧qb "list.append" [.ref l,v]∧codeAny (model prog w) A (.builtin "list.append" ⟨[.ref l,v],[]⟩) (wants Q E) s) hh ?_ ?_ ?_))
 ·exact fun _ _ h=>nomatch h
 ·kernel_rfl
 ·refine⟨hu,ho,ho,ho,Code.quiet_builtin _ (by decide +kernel),codeAny_builtin entry_list_append ?_⟩
  rw[Around.under_plainId (id := "list.append") (by decide +kernel) _]
  refine wpAny_mono h (fun fin s' h'=>?_) fun _ _ e=>e
  obtain⟨w,rfl,hw⟩:=h'
  exact hw
end
def F2(o:Obj):Prop:=o.cls = .type "builtin_function_or_method" ∧ ∃ a b,o.data = .fields #[.builtin a,b]
theorem uX{M:Model}{A:Around}{E:Value→Shared→Prop}{s:Shared}{pos:Pos}{u:Addr}{first:List Value}{args:List (Bool×Sem Value)}{Q:Value→Shared→Prop}(hplain:args.any (·.1)=false)
  (h:wpAny M A (evalArgs (.ref u) true args []) (fun x s₁=>(∃ o,s₁.heap.get? u=some o∧F2 o)∧wpAny M A (call (.ref u) (first++x.pos) x.kw) Q E s₁) E s):wpAny M A (callWith pos (.ref u) first args []) Q E s:=by
 unfold callWith
 refine wpAny_bind (wpAny_holding (wpAny_mono h (fun x s₁ h₁=>wpAny_bind (wpAny_standAt ?_)) fun _ _ x=>x))
 obtain⟨⟨⟨oc,od,oda,osl⟩,ho,hc,a,b,hd⟩,hcall⟩:=h₁
 cases hc; cases hd
 rw[hplain]
 refine wpAny_bind (m:=keeperOf (.ref u)) ?_
 unfold keeperOf
 refine wpAny_bind (wpAny_load ho ?_)
 dsimp only
 rw[if_pos (by decide),if_pos (by decide)]
 exact wpAny_pure (wpAny_bind (wpAny_mono hcall (fun r s₂ hr=>wpAny_bind (wpAny_holding (wpAny_point (wpAny_pure hr)))) fun _ _ x=>x))
section
variable{D:OD}{sc:Scope}{A:Around}{env:Env}{ρ:LO}{μ μ':List Addr}{st st':St}{s s':Shared}
theorem MI{x:Expr}{pos:Pos}{p:OE}(hc:cF x=false)(h:cM D sc x p):cM D sc (.Attribute x "append" pos) (.addm p):=fun{A env ρ μ st s r st' Q E}C he g =>
 bF he fun x' st₁ hx he=>bY he fun q hl e=>sI hl fun k ex hl=>RI hl fun xs hk hl=>by
 cases hl; cases e
 subst ex
 rw[arm_eval_Attribute,aQ hc]
 refine wpAny_bind (h C hx fun w s₁ μ₁ a₁ hw=>?_)
 obtain⟨b,items,n,sl,rfl,hb,g2,_⟩:=a₁.so.listAt hk hw
 refine wpAny_bind (wpAny_standAt (wpAny_bind (wpAny_holding (uV C.ha.handled g2 (wpAny_bind (wpAny_letTemporaryGo (wpAny_pure ?_)))))))
 have m:=(C.go a₁).more (.here a₁.i a₁.so) (tk:=s₁.toks+1) (v:=fun _=>True) (f:=.meth k) (o:=dM b) ⟨b,eG (List.prefix_append _ _) hb,Heap.get?_push_size _ rfl⟩
 exact g _ _ _ (a₁.trans m.1) m.2
theorem PV{x e1:Expr}{n:Str}{p pos:Pos}{f a:OE}(hx':x = .Name n p)(h1:aC e1=false)(ho:cM D sc x f)(ha:cM D sc e1 a) :
  cM D sc (.Call x [e1] [] pos) (.app f a):=fun{A env ρ μ st s r st' Q E}C he g =>
 bF he fun x' st₁ hx he=>bF he fun y st₂ hy he=>aS he fun j hl he=>bY he fun st3 hp e=>sI hl fun k ex hl=>Cs hl fun j' hk hl=>RI hp fun xs hk2 hp2=>by
 cases hl; cases e
 subst ex hx'
 rw[bU]
 refine wpAny_bind (ho C hx fun w s₁ μ₁ a₁ hw=>?_)
 obtain⟨u,hu,rfl⟩:=hw
 refine uX ((aY h1).1 env pos) (gG (aY h1) (bX h1 ha dB) (C.go a₁) (u5 hy) fun vs s₂ μ₂ a₂ hvs=>qV (m:=fun vs=>(∃ o,s₂.heap.get? u=some o∧F2 o)∧wpAny _ A (call (.ref u) vs) Q E s₂) hvs fun z hz=>?_)
 obtain⟨b,g2,g3⟩:=a₂.so.of hk (eG a₂.t.pre hu)
 obtain⟨⟨_,_,_,o2⟩,body⟩:=R2 (A:=A.in1) (E:=E) (a₁.trans a₂) hp g2 hz g
 exact⟨⟨_,g3,rfl,_,_,rfl⟩,DN C.ha.handled g3 o2 body⟩
end
end Kt.Internal
end
section
open PySem PySem.W PyProof.Rows PySem.Calls
namespace Kt.Internal
noncomputable def pY(e:Expr):Bool:=!(e.ctorIdx==3||e.ctorIdx==0||e.ctorIdx==5||e.ctorIdx==15)
theorem vF{e:Expr}(h:pY e=true)(env:Env):isTrue e env (eval e env)=(do let v ← eval e env; standAt e.pos; holding [v] (truthy v)):=by
 cases e with
 | UnaryOp=>cases h
 | BoolOp=>cases h
 | IfExp=>cases h
 | Compare=>cases h
 | _=>rfl
section
variable(K:Frag)(cA fA:Nat→Option Addr)(xc:Nat→Scope→Expr→Bool)(nm:List Str)
noncomputable def m3(e:Expr)(n:Str)(f:Expr→List Expr→Bool):Bool:=dY e fun fe as ks pos=>ks.isEmpty&&bM fe fun o m apos=>m==n&&(!cF o&&(apos.endLine==pos.line&&f o as))
noncomputable def IB(e:Expr)(f:Str→List Expr→Bool):Bool:=dY e fun fe as ks _=>ks.isEmpty&&aX fe fun n _=>f n as
noncomputable def N3(sc:Scope)(e:Expr)(n:Str)(f:Expr→Bool):Bool:=IB e fun m as=>m==n&&(aR sc n&&gK as fun x=>!aC x&&f x)
noncomputable def E8(es:List Expr):Bool:=es.all fun e=>!aC e
mutual
noncomputable def bC(sc:Scope):OE→Expr→Bool
 | .lit d,e=>bL e fun c _ _=>N5 d==some c
 | .var x,e=>aX e fun n _=>nm[x]? == some n&&(sc.names.lookup n==some .local&&n != ("__debug__" : Str))
 | .ty T,e=>aX e fun n _=>aR sc n&&iM.any (fun p=>p.1==n&&p.2 == .type T)
 | .attr c p a,e=>bM e fun x n _=>n==a&&(!cF x&&(iB (cA c) (fun C=>zK K C a)&&bC sc p x))
 | .prop c p a f,e=>bM e fun x n _=>(H0 f).isEmpty&&(n==a&&(!cF x&&(iB (cA c) (fun C=>iB (fA f) fun g=>BX K C a g)&&bC sc p x)))
 | .nt a,e=>eO e fun o x _=>o == .Not&&bC sc a x
 | .bool q a b,e=>kZ e fun op xs pos=>op==kD q&&jJ xs fun x r=>bC sc a x&&jJ r fun y r=>if r.isEmpty then bC sc b y else bC sc b (.BoolOp op (y::r) pos)
 | .cmp op a b,e=>gF e fun l os rs _=>gK os fun o=>o==op&&gK rs fun r=>!behindInMarks op r&&(bC sc a l&&bC sc b r)
 | .inT a l,e=>gF e fun x os rs _=>gK os fun o=>o == .In&&gK rs fun r=>gA r fun es _ _=>gD l es&&(decide (l.length≤50)&&bC sc a x)
 | .bin op a b,e=>nU e fun l o r _=>o==op&&(bC sc a l&&bC sc b r)
 | .call f ps,e=>IB e fun n as=>(H0 f).isEmpty&&(aR sc n&&(iB (fA f) (fun a=>eZ K n==some (.ref a)&&keepIn K (.ref a))&&(E8 as&&xV sc ps as)))
 | .mcall c p m f ps,e=>m3 e m fun o as=>(H0 f).isEmpty&&(iB (cA c) (fun C=>iB (fA f) fun a=>B7 K C m a)&&(decide (as.length≤5)&&(E8 as&&(bC sc p o&&xV sc ps as))))
 | .len p,e=>N3 sc e "len" fun x=>bC sc p x
 | .typ p,e=>N3 sc e "type" fun x=>bC sc p x
 | .intc p,e=>N3 sc e "int" fun x=>bC sc p x
 | .isStr p,e=>IB e fun n as=>n==("isinstance" : Str)&&(aR sc "isinstance" && (aR sc "str" && jJ as fun x r=>!aC x&&(bC sc p x&&gK r fun y=>aX y fun m _=>m==("str" : Str))))
 | .repl p a b,e=>m3 e "replace" fun o as=>jJ as fun x r=>gK r fun y=>!aC x&&(!aC y&&(bC sc p o&&(bC sc a x&&bC sc b y)))
 | .joinL p l,e=>m3 e "join" fun o as=>gK as fun x=>!aC x&&(bC sc p o&&bC sc l x)
 | .idx a i,e=>cW e fun v s _=>!rO s&&(bC sc a v&&bC sc i s)
 | .slc a lo hi,e=>cW e fun v s _=>lP s fun l u st _=>st.isNone&&(bC sc a v&&(JF sc lo l&&JF sc hi u))
 | .nil,e=>sZ e fun xs _=>xs.isEmpty
 | .addm p,e=>bM e fun x n _=>n==("append" : Str)&&(!cF x&&bC sc p x)
 | .app f p,e=>dY e fun fe as ks _=>ks.isEmpty&&(gK as fun x=>!aC x&&(bC sc p x&&(bC sc f fe&&aX fe fun _ _=>true)))
 | .appL l p,e=>m3 e "append" fun o as=>gK as fun x=>!aC x&&(bC sc l o&&bC sc p x)
 | .fstr a p b,e=>iH e fun es _=>jJ es fun x r=>jJ r fun v r=>gK r fun y=>bL x fun c _ _=>c == .str a&&bL y fun c _ _=>c == .str b&&(bK (.str a)&&(bK (.str b) &&
   dT v fun v cv sp _=>cv==-1&&(sp.isNone&&bC sc p v)))
 | .neg i,e=>eO e fun o x _=>o == .USub&&bL x fun c _ _=>c == .int i
 | .ext j,e=>xc j sc e&&pY e
 | .stuck,_=>true
noncomputable def xV(sc:Scope):F6→List Expr→Bool
 | .nil,es=>es.isEmpty
 | .cons p ps,es=>jJ es fun e r=>!aC e&&(bC sc p e&&xV sc ps r)
noncomputable def JF(sc:Scope):OO→Option Expr→Bool
 | .no,o=>o.isNone
 | .yes p,o=>iB o fun e=>bC sc p e
end
end
theorem lQ{e:Expr}{n:Str}{f:Expr→List Expr→Bool}{m:Expr→Prop}(h:m3 e n f=true)(k:∀ o as(apos pos:Pos),cF o=false→(apos.endLine==pos.line)=true→f o as=true→m (.Call (.Attribute o n apos) as [] pos)):m e:=by
 apply eH h; intro fe as ks pos h
 refine aB h fun z h=>?_; apply d9 z
 apply b6 h; intro o m' apos h
 refine aB h fun z h=>?_; apply b9 z
 exact k o as apos pos (bO (aA h).1) (aA (aA h).2).1 (aA (aA h).2).2
theorem DV{e:Expr}{f:Str→List Expr→Bool}{m:Expr→Prop}(h:IB e f=true)(k:∀ n as(p pos:Pos),f n as=true→m (.Call (.Name n p) as [] pos)):m e:=by
 apply eH h; intro fe as ks pos h
 refine aB h fun z h=>?_; apply d9 z
 apply aN h; intro n p h
 exact k n as p pos h
theorem IY{sc:Scope}{e:Expr}{n:Str}{f:Expr→Bool}{m:Expr→Prop}(h:N3 sc e n f=true)(k:∀ x(p pos:Pos),aR sc n=true→aC x=false→f x=true→m (.Call (.Name n p) [x] [] pos)):m e:=by
 apply DV h; intro n' as p pos h
 refine aB h fun z h=>?_; apply b9 z
 refine aB h fun h1 h=>?_
 apply cJ h; intro x h
 exact k x p pos h1 (bO (aA h).1) (aA h).2
structure NV(D:OD)(K:Frag)(fA:Nat→Option Addr)(xc:Nat→Scope→Expr→Bool):Prop where
 k:∀ h,D.Z.TabI h→K.In h
 k0:K.In D.Z.h₀
 b:gO D.Z
 c:bW D.Z D.cA D.cl D.lvl fA
 x:∀ j sc e,xc j sc e=true→cM D sc e (.ext j)
section
variable{D:OD}{K:Frag}{fA:Nat→Option Addr}{xc:Nat→Scope→Expr→Bool}{sc:Scope}
theorem P5{n:Str}{T:String}(h:iM.any (fun p=>p.1==n&&p.2 == .type T)=true):(n,Value.type T)∈iM:=by
 obtain⟨p,hm,h⟩:=List.any_eq_true.mp h
 have e:p=(n,.type T):=Prod.ext (eq_of_beq (aA h).1) (eq_of_beq (aA h).2)
 exact e▸hm
def H6(D:OD)(sc:Scope)(p:OE)(e:Expr):Prop:=cM D sc e p∧H3 D sc e p
theorem H6.of{e:Expr}{p:OE}(h:cM D sc e p)(hw:pY e=true):H6 D sc p e:=JZ h (vF hw)
theorem MA{q:Bool}{y:Expr}{b:OE}(h:H3 D sc y b){A:Around}{env:Env}{ρ:LO}{μ:List Addr}{st:St}{s:Shared}{t:Bool}{st':St}{Q:Bool→Shared→Prop}{E:Value→Shared→Prop}(C:Oc D sc A env ρ μ st s)(hd:jK D.cl D.ex b ρ st=some (t,st'))
  (hQ:∀ s' μ',dG D.Z D.cA j5 μ s.heap μ' st' s'→Q t s'):wpAny (model D.Z.prog D.Z.w) A (allTrue (kD q) [y] env) Q E s:=by
 rw[arm_allTrue_cons]
 refine wpAny_bind (h C hd fun s₁ μ₁ a₁=>?_)
 have:=hQ s₁ μ₁ a₁
 cases q <;> cases t <;> exact wpAny_pure this
theorem G6{q:Bool}{a b:OE}{x y:Expr}{pos:Pos}(i1:H6 D sc a x)(i2:H6 D sc b y):H6 D sc (.bool q a b) (.BoolOp (kD q) [x,y] pos) :=
 ⟨AB (rest:=[y]) (fun _=>⟨_,_,rfl⟩) i1.1 fun{A env ρ μ st s v st' Q E}C hd g=>i2.1 (A:=A) (env:=env) (Q:=Q) (E:=E) C hd g,AA i1.2 (MA i2.2)⟩
theorem G5{q:Bool}{a b:OE}{x y z:Expr}{r:List Expr}{pos:Pos}(i1:H6 D sc a x)(i2:H6 D sc b (.BoolOp (kD q) (y::z::r) pos)):H6 D sc (.bool q a b) (.BoolOp (kD q) (x::y::z::r) pos) :=
 ⟨AB (rest:=y::z::r) (fun _=>⟨_,_,rfl⟩) i1.1 fun{A env ρ μ st s v st' Q E}C hd g=>i2.1 (A:=A) (env:=env) (Q:=Q) (E:=E) C hd g,AA i1.2 fun{A env ρ μ st s t st' Q E}C hd hQ=>i2.2 (A:=A) (env:=env) (Q:=Q) (E:=E) C hd hQ⟩
mutual
theorem aG(X:NV D K fA xc):∀(p:OE){sc:Scope}{e:Expr},bC K D.cA fA xc D.nm sc p e=true→H6 D sc p e
 | .lit d,sc,e,h=>by
  apply bS h; intro c k p h
  exact .of (PP (eq_of_beq h)) rfl
 | .var x,sc,e,h=>by
  apply aN h; intro n p h
  exact .of (yG (eq_of_beq (aA h).1) (eq_of_beq (aA (aA h).2).1) (bne_iff_ne.mp (aA (aA h).2).2)) rfl
 | .ty T,sc,e,h=>by
  apply aN h; intro n p h
  exact .of (J0 X.b (aA h).1 (P5 (aA h).2)) rfl
 | .attr c p a,sc,e,h=>by
  apply b6 h; intro x n q h
  refine aB h fun z h=>aB h fun h1 h=>aB h fun h2 h=>?_; apply b9 z
  obtain⟨C,hC,h2⟩:=eW h2
  exact .of (MG X.k hC h2 (bO h1) (aG X p h).1) rfl
 | .prop c p a f,sc,e,h=>by
  apply b6 h; intro x n q h
  refine aB h fun h0 h=>aB h fun z h=>aB h fun h1 h=>aB h fun h2 h=>?_; apply b9 z
  obtain⟨C,hC,h2⟩:=eW h2
  obtain⟨g,hg,h2⟩:=eW h2
  exact .of (MC (List.isEmpty_iff.mp h0) X.k X.c hC hg h2 (bO h1) (aG X p h).1) rfl
 | .nt a,sc,e,h=>by
  apply gX h; intro o x p h
  refine aB h fun z h=>?_; apply b9 z
  exact⟨VF (aG X a h).1,VC (aG X a h).2⟩
 | .bool q a b,sc,e,h=>by
  apply wH h; intro op xs pos h
  refine aB h fun hz h=>?_; have hz:=eq_of_beq hz; subst hz
  apply cZ h; intro x r h
  refine aB h fun h1 h=>?_
  apply cZ h; intro y r' h
  cases r' with
  | nil=>exact G6 (aG X a h1) (aG X b h)
  | cons z r=>exact G5 (aG X a h1) (aG X b h)
 | .cmp op a b,sc,e,h=>by
  apply m7 h; intro l os rs p h
  apply cJ h; intro o h
  refine aB h fun z h=>?_; apply b9 z
  apply cJ h; intro r h
  refine aB h fun z h=>?_
  exact⟨PT (bO z) (aG X a (aA h).1).1 (aG X b (aA h).2).1,PH (bO z) (aG X a (aA h).1).1 (aG X b (aA h).2).1⟩
 | .inT a l,sc,e,h=>by
  apply m7 h; intro x os rs p h
  apply cJ h; intro o h
  refine aB h fun z h=>?_; apply b9 z
  apply cJ h; intro r h
  apply fW h; intro es k q h
  exact V8 (aA h).1 (of_decide_eq_true (aA (aA h).2).1) (aG X a (aA (aA h).2).2).1
 | .bin op a b,sc,e,h=>by
  apply AF h; intro l o r p h
  refine aB h fun z h=>?_; apply b9 z
  exact .of (PU (aG X a (aA h).1).1 (aG X b (aA h).2).1) rfl
 | .call f ps,sc,e,h=>by
  apply DV h; intro n as p q h
  refine aB h fun h0 h=>aB h fun h1 h=>aB h fun h2 h=>aB h fun h3 h=>?_
  obtain⟨a,ha,h2⟩:=eW h2
  exact .of (MF (List.isEmpty_iff.mp h0) X.k X.c ha h1 (fE X.k0 (eq_of_beq (aA h2).1)) (aA h2).2 (iT h3) (tM X ps h)) rfl
 | .mcall c p m f ps,sc,e,h=>by
  apply lQ h; intro o as apos pos hc hl h
  refine aB h fun h0 h=>aB h fun h1 h=>aB h fun h2 h=>aB h fun h3 h=>?_
  obtain⟨C,hC,h1⟩:=eW h1
  obtain⟨a,ha,h1⟩:=eW h1
  exact .of (G2 (List.isEmpty_iff.mp h0) X.k X.c hC ha h1 hc hl (of_decide_eq_true h2) (iT h3) (aG X p (aA h).1).1 (tM X ps (aA h).2)) rfl
 | .len p,sc,e,h=>by
  apply IY h; intro x q r h1 h2 h
  exact .of (PQ X.b h1 h2 (aG X p h).1) rfl
 | .typ p,sc,e,h=>by
  apply IY h; intro x q r h1 h2 h
  exact .of (PK X.b h1 h2 (aG X p h).1) rfl
 | .intc p,sc,e,h=>by
  apply IY h; intro x q r h1 h2 h
  exact .of (MD X.b h1 h2 (aG X p h).1) rfl
 | .isStr p,sc,e,h=>by
  apply DV h; intro n as q r h
  refine aB h fun z h=>aB h fun h1 h=>aB h fun h2 h=>?_; apply b9 z
  apply cZ h; intro x l h
  refine aB h fun h3 h=>aB h fun h4 h=>?_
  apply cJ h; intro y h
  apply aN h; intro m q' h
  apply b9 h
  exact .of (G4 X.b h1 h2 (bO h3) (aG X p h4).1) rfl
 | .repl p a b,sc,e,h=>by
  apply lQ h; intro o as apos pos hc hl h
  apply cZ h; intro x l h
  apply cJ h; intro y h
  refine aB h fun h1 h=>aB h fun h2 h=>aB h fun h3 h=>?_
  exact .of (MB hc hl (bO h1) (bO h2) (aG X p h3).1 (aG X a (aA h).1).1 (aG X b (aA h).2).1) rfl
 | .joinL p l,sc,e,h=>by
  apply lQ h; intro o as apos pos hc hl h
  apply cJ h; intro x h
  refine aB h fun h1 h=>?_
  exact .of (G3 hc hl (bO h1) (aG X p (aA h).1).1 (aG X l (aA h).2).1) rfl
 | .idx a i,sc,e,h=>by
  apply fG h; intro v s p h
  refine aB h fun z h=>?_
  exact .of (PR (bO z) (aG X a (aA h).1).1 (aG X i (aA h).2).1) rfl
 | .slc a lo hi,sc,e,h=>by
  apply fG h; intro v s p h
  apply tQ h; intro l u st q h
  refine aB h fun z h=>?_; apply nK z
  exact .of (PL (aG X a (aA h).1).1 (EG X lo (aA (aA h).2).1) (EG X hi (aA (aA h).2).2)) rfl
 | .nil,sc,e,h=>by
  apply rH h; intro xs p h
  apply d9 h
  exact .of PM rfl
 | .addm p,sc,e,h=>by
  apply b6 h; intro x n q h
  refine aB h fun z h=>?_; apply b9 z
  exact .of (MI (bO (aA h).1) (aG X p (aA h).2).1) rfl
 | .app f p,sc,e,h=>by
  apply eH h; intro fe as ks q h
  refine aB h fun z h=>?_; apply d9 z
  apply cJ h; intro x h
  refine aB h fun h1 h=>aB h fun h2 h=>aB h fun h3 h4=>?_
  have i:H6 D sc f fe:=aG X f h3
  exact .of (aN (m:=fun fe=>H6 D sc f fe→cM D sc (.Call fe [x] [] q) (.app f p)) h4 (fun n np _ i=>PV rfl (bO h1) i.1 (aG X p h2).1) i) rfl
 | .appL l p,sc,e,h=>by
  apply lQ h; intro o as apos pos hc hl h
  apply cJ h; intro x h
  refine aB h fun h1 h=>?_
  exact .of (MH hc hl (bO h1) (aG X l (aA h).1).1 (aG X p (aA h).2).1) rfl
 | .fstr a p b,sc,e,h=>by
  apply yZ h; intro es q h
  apply cZ h; intro x r h
  apply cZ h; intro v r h
  apply cJ h; intro y h
  apply bS h; intro c1 k1 p1 h
  refine aB h fun z h=>?_; apply b9 z
  apply bS h; intro c2 k2 p2 h
  refine aB h fun z h=>?_; apply b9 z
  refine aB h fun h1 h=>aB h fun h2 h=>?_
  apply oX h; intro v' cv sp p3 h
  refine aB h fun z h=>?_; apply b9 z
  refine aB h fun z h=>?_; apply nK z
  exact .of (ME h1 h2 (aG X p h).1) rfl
 | .neg i,sc,e,h=>by
  apply gX h; intro o x p h
  refine aB h fun z h=>?_; apply b9 z
  apply bS h; intro c k q h
  apply b9 h
  exact JZ PN fun _=>rfl
 | .ext j,sc,e,h=>.of (X.x j sc e (aA h).1) (aA h).2
 | .stuck,sc,e,h=>⟨fun _ hd=>(nomatch hd),fun _ hd=>(nomatch hd)⟩
theorem tM(X:NV D K fA xc):∀(ps:F6){sc:Scope}{es:List Expr},xV K D.cA fA xc D.nm sc ps es=true→xD D sc es ps
 | .nil,sc,es,h=>by apply d9 h; exact dB
 | .cons p ps,sc,es,h=>by
  apply cZ h; intro e r h
  refine aB h fun z h=>?_
  exact bX (bO z) (aG X p (aA h).1).1 (tM X ps (aA h).2)
theorem EG(X:NV D K fA xc):∀(p:OO){sc:Scope}{o:Option Expr},JF K D.cA fA xc D.nm sc p o=true→W1 D sc o p
 | .no,sc,o,h=>by apply nK h; exact VD
 | .yes p,sc,o,h=>by
  apply qX h; intro e h
  exact PJ (aG X p h).1
end
end
section
variable{D:OD}{sc:Scope}{K:Frag}{fA:Nat→Option Addr}{A:Around}{E:Value→Shared→Prop}{env:Env}{ρ:LO}{μ μ':List Addr}{st so:St}{s s':Shared}{h:Heap}{xc:Nat→Scope→Expr→Bool}
theorem Oc.inL(C:Oc D sc A env ρ μ st s)(a:dG D.Z D.cA j5 μ s.heap μ' so s'):dG D.Z D.cA (· = env.locals) μ s.heap μ' so s':=⟨a.i,a.t.inL C.he,a.so⟩
theorem VZ{x y:Nat}{v u:OV}(hh:((ρ.set x (some v))[y]?).join=some u):(y=x∧v=u)∨(y≠x∧(ρ[y]?).join=some u):=by
 rw[List.getElem?_set]at hh
 by_cases e:x=y
 ·rw[if_pos e]at hh
  by_cases hx:x<ρ.length
  ·rw[if_pos hx]at hh; exact .inl ⟨e.symm,Option.some.inj hh⟩
  ·rw[if_neg hx]at hh; cases hh
 ·rw[if_neg e]at hh
  exact .inr ⟨fun e'=>e e'.symm,hh⟩
theorem Oc.store(C:Oc D sc A env ρ μ st s){x:Nat}{n:Str}{w:Value}{v:OV}{Q:Unit→Shared→Prop}(hnd:D.nm.Nodup)(hx:D.nm[x]? = some n)(hl:sc.names.lookup n=some .local)(hw:VE μ w v)
  (hQ:∀ s',dG D.Z D.cA (· = env.locals) μ s.heap μ st s'→mG D.Z D.nm env (ρ.set x (some v)) μ s'.heap→Q () s'):wpAny (model D.Z.prog D.Z.w) A (storeName env n w) Q E s:=by
 have hE:=C.he
 obtain⟨m,hm,hv⟩:=hE.ns
 refine wpAny_storeName_local (C.hs.1 n hl) hm (fun h' hn hsb=>hQ _ ⟨C.hi.same hE.new hsb (fun _=>let⟨o,es,ep,e,hd,_⟩:=hn; ⟨o,e,es,ep,hd⟩) _,⟨List.prefix_rfl,fun b o e _ _ hb=>.inl ((hsb.2 b hb).trans e),fun _ h hn=>absurd h hn⟩,?_⟩ ?_) (by rw[hE.kind]; rfl)
 ·exact⟨C.so.len,C.so.nd,C.so.hi,fun k a f h1 h2=>(C.so.at_ k a f h1 h2).sl List.prefix_rfl fun o e=>.inl ((hsb.2 a fun e'=>hE.out (e'▸List.mem_of_getElem? h1)).trans e)⟩
 ·refine{ hE with ns:=⟨_,hn,fun y u k h1 h2=>(VZ h1).elim (fun⟨e,e'⟩=>?_) fun⟨hne,h1⟩=>?_⟩ }
  ·subst e e'
   cases hx.symm.trans h2
   exact⟨w,if_pos rfl,hw⟩
  ·obtain⟨w',h3,h4⟩:=hv y u k h1 h2
   exact⟨w',(if_neg fun e:k=n=>hne (jB hnd h2 (e▸hx))).trans h3,h4⟩
noncomputable def ZQ(D:OD)(env:Env)(μ:List Addr)(h:Heap):mC→Flow→Prop
 | .next ρ,fl=>fl = .next∧mG D.Z D.nm env ρ μ h
 | .brk ρ,fl=>fl = .brk∧mG D.Z D.nm env ρ μ h
 | .cont ρ,fl=>fl = .cont∧mG D.Z D.nm env ρ μ h
 | .ret v,fl=>∃ w,fl = .ret w∧VE μ w v
def vX(D:OD)(env:Env)(μ:List Addr)(h:Heap)(r:mC×St)(R:Flow→Shared→Prop):Prop:=∀ fl s' μ',dG D.Z D.cA (· = env.locals) μ h μ' r.2 s'→ZQ D env μ' s'.heap r.1 fl→R fl s'
theorem vX.from_{r:mC×St}{R:Flow→Shared→Prop}(p:vX D env μ h r R)(a:dG D.Z D.cA (· = env.locals) μ h μ' so s'):vX D env μ' s'.heap r R:=fun fl s'' μ'' b f=>p fl s'' μ'' (a.trans b) f
end
section
variable(D:OD)(sc:Scope)(fuel:Nat)
def mF(st:Stmt)(p:OS):Prop :=
 ∀{A:Around}{env:Env}{ρ:LO}{μ:List Addr}{so:St}{s:Shared}{r:mC×St}{R:Flow→Shared→Prop}{E:Value→Shared→Prop},
  Oc D sc A env ρ μ so s→w6 D.cl D.ex fuel p ρ so=some r→vX D env μ s.heap r R→wpAny (model D.Z.prog D.Z.w) A (exec st env) R E s
def S9(ss:List Stmt)(p:kC):Prop :=
 ∀{A:Around}{env:Env}{ρ:LO}{μ:List Addr}{so:St}{s:Shared}{r:mC×St}{R:Flow→Shared→Prop}{E:Value→Shared→Prop},
  Oc D sc A env ρ μ so s→bG D.cl D.ex fuel p ρ so=some r→vX D env μ s.heap r R→wpAny (model D.Z.prog D.Z.w) A (execs ss env) R E s
end
section
variable{D:OD}{sc:Scope}{fuel:Nat}{K:Frag}{fA:Nat→Option Addr}{A:Around}{E:Value→Shared→Prop}{env:Env}{ρ ρ':LO}{μ μ':List Addr}{so st st':St}{s s':Shared}{xc:Nat→Scope→Expr→Bool}
 {np pos apos:Pos} {value o:Expr} {p q:OE}
theorem Oc.to(C:Oc D sc A env ρ μ so s)(a:dG D.Z D.cA (· = env.locals) μ s.heap μ' st s')(e:mG D.Z D.nm env ρ' μ' s'.heap):Oc D sc A env ρ' μ' st s':=⟨C.ha,C.hs,e,a.i,a.so⟩
theorem Oc.next(C:Oc D sc A env ρ μ so s){R:Flow→Shared→Prop}(hR:vX D env μ s.heap (.next ρ,st) R)(a:dG D.Z D.cA j5 μ s.heap μ' st s'):R .next s':=hR _ _ _ (C.inL a) ⟨rfl,C.he.step a.t⟩
theorem PB:S9 D sc fuel [] .nil:=fun{A env ρ μ so s r R E}C hd hR=>by
 cases hd
 exact wpAny_execs_nil (C.next hR C.at)
theorem L8{st:Stmt}{ss:List Stmt}{p:OS}{ps:kC}(h1:mF D sc fuel st p)(h2:S9 D sc fuel ss ps):S9 D sc fuel (st::ss) (.cons p ps):=fun{A env ρ μ so s r R E}C hd hR=>bF hd fun f so₁ hx hd=>by
 refine wpAny_execs_cons (h1 C hx fun fl s' μ' a g=>?_)
 cases f with
 | next ρ'=>obtain⟨rfl,e⟩:=g; exact h2 (C.to a e) hd (hR.from_ a)
 | brk ρ'=>obtain⟨rfl,e⟩:=g; cases hd; exact hR _ _ _ a ⟨rfl,e⟩
 | cont ρ'=>obtain⟨rfl,e⟩:=g; cases hd; exact hR _ _ _ a ⟨rfl,e⟩
 | ret v=>obtain⟨w,rfl,e⟩:=g; cases hd; exact hR _ _ _ a ⟨w,rfl,e⟩
theorem uG{x:Nat}{n:Str}(hnd:D.nm.Nodup)(hx:D.nm[x]? = some n)(hl:sc.names.lookup n=some .local)(hc:gQ value=false)(h:cM D sc value p):mF D sc fuel (.Assign [.Name n np] value pos) (.assign x p):=fun{A env ρ μ so s r R E}C hd hR=>bY hd fun v hv e=>by
 cases e
 exact wpAny_Assign_Name (h C hv fun w s₁ μ₁ a₁ hw=>(C.go a₁).store hnd hx hl hw fun s₂ a₂ E₂=>hR _ s₂ μ₁ ((C.inL a₁).trans a₂) ⟨rfl,E₂⟩) (jU hc _ _ _)
theorem A5{x y:Nat}{n m:Str}{p1 p2 tp vp:Pos}{k k':Nat}{ea eb:Expr}{a b:OE}(hnd:D.nm.Nodup)(hxy:x≠y)(hx:D.nm[x]? = some n)(hy:D.nm[y]? = some m)(hk1:sc.names.lookup n=some .local)(hk2:sc.names.lookup m=some .local)
  (hsa:aC ea=false) (hsb:aC eb=false) (hcon:(!([ea,eb].all (foldedForSure 8))&&[ea,eb].all (constantsAlone 8))=false) (ha:cM D sc ea a) (hb:cM D sc eb b) :
  mF D sc fuel (.Assign [.Tuple [.Name n p1,.Name m p2] k tp] (.Tuple [ea,eb] k' vp) pos) (.assign2 x y a b):=fun{A env ρ μ so s r R E}C hd hR=>bF hd fun d1 so₁ hv1 hd=>bY hd fun d2 hv2 e=>by
 cases e
 refine lC C.ha.handled hsa hsb hcon (ha C hv1 fun v1 s₁ μ₁ a₁ hw1=>hb (C.go a₁) hv2 fun v2 s₂ μ₂ a₂ hw2 h' hk=>?_)
 have t:=(a₁.trans a₂).kp (a₂.i.full (h':=h') (tk:=s₂.toks) hk) (Kp.of hk)
 have C':=C.go t
 have hw1:=hw1.pre a₂.t.pre
 have fin:∀{s₅ s₆ σ},dG D.Z D.cA (· = env.locals) μ₂ h' μ₂ d2.2 s₅→dG D.Z D.cA (· = env.locals) μ₂ s₅.heap μ₂ d2.2 s₆→mG D.Z D.nm env σ μ₂ s₆.heap→σ=(ρ.set x (some d1)).set y (some d2.1)→R .next s₆:=fun a₅ a₆ e he=>hR _ _ μ₂ ((C.inL t).trans (a₅.trans a₆)) ⟨rfl,he▸e⟩
 exact⟨C'.store hnd hx hk1 hw1 fun s₅ a₅ E₅=>(C'.to a₅ E₅).store hnd hy hk2 hw2 fun s₆ a₆ E₆=>fin a₅ a₆ E₆ rfl,
  C'.store hnd hy hk2 hw2 fun s₅ a₅ E₅=>(C'.to a₅ E₅).store hnd hx hk1 hw1 fun s₆ a₆ E₆=>fin a₅ a₆ E₆ (List.set_comm _ _ (Ne.symm hxy))⟩
theorem L5{c:Nat}{C':Addr}{a:Str}(hK:∀ h,D.Z.TabI h→K.In h)(hC:D.cA c=some C')(hok:zG K C' a=true)(hc:gQ value=false)(ho:cM D sc o q)(h:cM D sc value p) :
  mF D sc fuel (.Assign [.Attribute o a apos] value pos) (.setA c q a p):=fun{A env ρ μ so s r R E}C hd hR=>bF hd fun v so₁ hv hd=>bF hd fun u so₂ hu hd=>bY hd fun so₃ h3 e=>by
 cases e
 exact plainObj_wpAny_Assign_Attribute (h C hv fun w s₁ μ₁ a₁ hw=>ho (C.go a₁) hu fun z s₂ μ₂ a₂ hz=>W4 (hK _ a₂.i.tab) (a₁.trans a₂) hC hok h3 hz (hw.pre a₂.t.pre) fun s₃ a₃=>C.next hR a₃) (jU hc _ _ _)
theorem AG{h:Heap}{w u:Value}{x y v:OV}{op:Operator}{Q:Value→Shared→Prop}(a:dG D.Z D.cA j5 μ h μ' st' s')(hop:(op == .Add||op == .Sub)=true)(hw:VE μ' w x)(hu:VE μ' u y)(hv:GD op x y=some v)(g:hZ D.Z D.cA μ h st' v Q) :
  wpAny (model D.Z.prog D.Z.w) A (inplaceOp op w u) Q E s':=vS hv fun x' e1 f1 hv=>vS hv fun y' e2 f2 hv=>tD hv fun d h3 f3 e=>by
 subst e1 e2 e
 obtain⟨r1,ok1,_⟩:=qG.rd hw s'.heap
 obtain⟨r2,ok2,_⟩:=qG.rd hu s'.heap
 exact oU r1 r2 ok1 ok2 f1 hop h3 fun v' tk r ok=>g _ _ _ (a.tok tk) ⟨r _,ok⟩
theorem PD{x:Nat}{n:Str}{op:Operator}(hnd:D.nm.Nodup)(hx:D.nm[x]? = some n)(hl:sc.names.lookup n=some .local)(h:cM D sc value p):mF D sc fuel (.AugAssign (.Name n np) op value pos) (.aug x op p):=fun{A env ρ μ so s r R E}C hd hR =>
 aS hd fun a ha hd=>bF hd fun v so₁ hv hd=>iY hd fun hop hd=>bY hd fun v' hv' e=>by
 cases e
 exact wpAny_AugAssign_Name (C.load hx hl ha fun w hw=>h C hv fun u s₁ μ₁ a₁ hu=>AG a₁ hop (hw.pre a₁.t.pre) hu hv' fun z s₂ μ₂ a₂ hz=>(C.go a₂).store hnd hx hl hz fun s₃ a₃ E₃=>hR _ s₃ μ₂ ((C.inL a₂).trans a₃) ⟨rfl,E₃⟩)
theorem L9{c:Nat}{C':Addr}{a:Str}{op:Operator}(hK:∀ h,D.Z.TabI h→K.In h)(hC:D.cA c=some C')(hok:zG K C' a=true)(hgo:zK K C' a=true)(ho:cM D sc o q)(h:cM D sc value p) :
  mF D sc fuel (.AugAssign (.Attribute o a apos) op value pos) (.augA c q a op p):=fun{A env ρ μ so s r R E}C hd hR =>
 bF hd fun u so₁ hu hd=>bF hd fun k es hi hd=>aS hd fun old hold hd=>bF hd fun v so₂ hv hd=>iY hd fun hop hd=>aS hd fun v' hv' hd=>bY hd fun so₃ h3 e=>by
 cases e
 exact wpAny_AugAssign_AttributeAny (ho C hu fun z s₁ μ₁ a₁ hz=>XE (hK _ a₁.i.tab) a₁.so hC hgo hi hold hz fun w hw=>h (C.go (a₁.tok _)) hv fun y s₂ μ₂ a₂ hy =>
  AG (.here a₂.i a₂.so) hop (hw.pre a₂.t.pre) hy hv' fun x s₃ μ₃ a₃ hx=>W4 (hK _ a₃.i.tab) (((a₁.tok _).trans a₂).trans a₃) hC hok h3 ((hz.pre a₂.t.pre).pre a₃.t.pre) hx fun s₄ a₄=>C.next hR a₄)
theorem L6{e:Expr}(hc:gQ e=false)(h:cM D sc e p):mF D sc fuel (.Expr e pos) (.expr p):=fun{A env ρ μ so s r R E}C hd hR=>bF hd fun v so₁ hv hd=>j7 hd fun x ex hd=>by
 cases hd
 have ex:v = .d x:=ex
 subst ex
 have hint:interactive env=false:=by unfold interactive; rw[C.he.kind]; rfl
 exact wpAny_Expr (h C hv fun w s₁ μ₁ a₁ hw=>have:=C.next hR a₁; by obtain⟨r,_⟩:=hw; cases r <;> exact this) hint (jU hc _ _ _)
theorem EU{e:Expr}(h:cM D sc e p):mF D sc fuel (.Return (some e) pos) (.ret p):=fun{A env ρ μ so s r R E}C hd hR=>bY hd fun v hv e=>by
 cases e
 exact wpAny_Return_some (h C hv fun w s₁ μ₁ a₁ hw=>hR _ _ _ (C.inL a₁) ⟨w,rfl,hw⟩)
theorem VB{t:Expr}{b1 b2:List Stmt}{c:OE}{p1 p2:kC}(hc:H3 D sc t c)(h1:S9 D sc fuel b1 p1)(h2:S9 D sc fuel b2 p2):mF D sc fuel (.If t b1 b2 pos) (.ife c p1 p2):=fun{A env ρ μ so s r R E}C hd hR=>bF hd fun b so₁ hv hd =>
 wpAny_If (hc C hv fun s₁ μ₁ a₁=>by
  cases b with
  | true=>exact h1 (C.go a₁) hd (hR.from_ (C.inL a₁))
  | false=>exact h2 (C.go a₁) hd (hR.from_ (C.inL a₁)))
theorem DG{t:Expr}{m:Option Expr}{c:OE}(hc:H3 D sc t c):mF D sc fuel (.Assert t m pos) (.asrt c):=fun{A env ρ μ so s r R E}C hd hR=>bF hd fun b so₁ hv hd=>iY hd fun hb e=>by
 cases e
 exact wpAny_Assert_holds (hc C hv fun s₁ μ₁ a₁=>⟨hb,C.next hR a₁⟩)
theorem PC:mF D sc fuel (.Break pos) .brk:=fun{A env ρ μ so s r R E}C hd hR=>by
 cases hd
 exact wpAny_Break (hR _ _ _ (C.inL C.at) ⟨rfl,C.he⟩)
theorem L7:mF D sc fuel (.Continue pos) .cont:=fun{A env ρ μ so s r R E}C hd hR=>by
 cases hd
 exact wpAny_Continue (hR _ _ _ (C.inL C.at) ⟨rfl,C.he⟩)
theorem G1{t:Expr}{b:List Stmt}{c:OE}{ps:kC}(hc:H3 D sc t c)(h:S9 D sc fuel b ps):mF D sc fuel (.While t b [] pos) (.while_ c ps):=fun{A env ρ μ so s r R E}C hd hR=>by
 refine wpAny_While (codeAny_whileLoop (fun n s'=>∃ ρ' μ' so',dG D.Z D.cA (· = env.locals) μ s.heap μ' so' s'∧mG D.Z D.nm env ρ' μ' s'.heap∧cN (jK D.cl D.ex c) (bG D.cl D.ex fuel ps) n ρ' so'=some r) ?_ fuel ⟨ρ,μ,so,C.inL C.at,C.he,hd⟩)
 rintro n s₀ ⟨ρ',μ',so',a,E',hw⟩
 cases n with
 | zero=>cases hw
 | succ n =>
  have C':=C.to a E'
  exact bF hw fun tb so₁ hv hw=>hc C' hv fun s₁ μ₁ a₁=>by
   have a₂:=a.trans (C'.inL a₁)
   cases tb with
   | false =>
    cases hw
    exact wpAny_execs_nil (hR _ _ _ a₂ ⟨rfl,E'.step a₁.t⟩)
   | true =>
    exact bF hw fun f so₂ hb hw=>h (C'.go a₁) hb fun fl s₂ μ₂ a₃ g=>by
     cases f with
     | next ρ₂=>obtain⟨rfl,e⟩:=g; exact⟨n,Nat.lt_succ_self n,ρ₂,μ₂,so₂,a₂.trans a₃,e,hw⟩
     | cont ρ₂=>obtain⟨rfl,e⟩:=g; exact⟨n,Nat.lt_succ_self n,ρ₂,μ₂,so₂,a₂.trans a₃,e,hw⟩
     | brk ρ₂=>obtain⟨rfl,e⟩:=g; cases hw; exact hR _ _ _ (a₂.trans a₃) ⟨rfl,e⟩
     | ret v=>obtain⟨w,rfl,e⟩:=g; cases hw; exact hR _ _ _ (a₂.trans a₃) ⟨w,rfl,e⟩
end
section
variable(K:Frag)(cA fA:Nat→Option Addr)(xc:Nat→Scope→Expr→Bool)(nm:List Str)
noncomputable def N6(sc:Scope)(x:Nat)(n:Str):Bool:=nm[x]? == some n&&sc.names.lookup n==some .local
noncomputable def R9:OS→Bool
 | .stuck=>true
 | _=>false
theorem UH{p:OS}(h:R9 p=true):p = .stuck:=by
 cases p with
 | stuck=>rfl
 | _=>cases h
mutual
noncomputable def SU(sc:Scope):OS→Stmt→Bool
 | .assign x p,st=>cP st fun ts v _=>gK ts fun t=>aX t fun n _=>N6 nm sc x n&&(!gQ v&&bC K cA fA xc nm sc p v)
 | .assign2 x y a b,st=>cP st fun ts v _=>gK ts fun t=>gA t fun ns _ _=>jJ ns fun t1 r=>gK r fun t2=>aX t1 fun n _=>aX t2 fun m _=>gA v fun es _ _=>jJ es fun ea r=>gK r fun eb =>
   x != y&&(N6 nm sc x n&&(N6 nm sc y m&&(!aC ea&&(!aC eb&&(!(!([ea,eb].all (foldedForSure 8))&&[ea,eb].all (constantsAlone 8))&&(bC K cA fA xc nm sc a ea&&bC K cA fA xc nm sc b eb))))))
 | .setA c o a p,st=>cP st fun ts v _=>gK ts fun t=>bM t fun x n _=>n==a&&(iB (cA c) (fun C=>zG K C a)&&(!gQ v&&(bC K cA fA xc nm sc o x&&bC K cA fA xc nm sc p v)))
 | .aug x op p,st=>dC st fun t o v _=>o==op&&aX t fun n _=>N6 nm sc x n&&bC K cA fA xc nm sc p v
 | .augA c q a op p,st=>dC st fun t o v _=>o==op&&bM t fun x n _=>n==a&&(iB (cA c) (fun C=>zG K C a&&zK K C a)&&(bC K cA fA xc nm sc q x&&bC K cA fA xc nm sc p v))
 | .expr p,st=>i9 st fun e _=>!gQ e&&bC K cA fA xc nm sc p e
 | .ife c a b,st=>pJ st fun t b1 b2 _=>bC K cA fA xc nm sc c t&&(e9 sc a b1&&e9 sc b b2)
 | .while_ c b,st=>jD st fun t b1 b2 _=>b2.isEmpty&&(bC K cA fA xc nm sc c t&&e9 sc b b1)
 | .ret p,st=>eN st fun e _=>iB e fun e=>bC K cA fA xc nm sc p e
 | .brk,st=>st.ctorIdx==26
 | .cont,st=>st.ctorIdx==27
 | .asrt c,st=>jW st fun t _ _=>bC K cA fA xc nm sc c t
 | .stuck,_=>true
noncomputable def e9(sc:Scope):kC→List Stmt→Bool
 | .nil,ss=>ss.isEmpty
 | .cons p ps,ss=>R9 p||jJ ss fun st r=>SU sc p st&&e9 sc ps r
end
end
section
variable{D:OD}{K:Frag}{fA:Nat→Option Addr}{xc:Nat→Scope→Expr→Bool}
mutual
theorem OQ(X:NV D K fA xc)(hnd:D.nm.Nodup)(fuel:Nat):∀(p:OS){sc:Scope}{st:Stmt},SU K D.cA fA xc D.nm sc p st=true→mF D sc fuel st p
 | .assign x p,sc,st,h=>by
  apply dL h; intro ts v pos h
  apply cJ h; intro t h
  apply aN h; intro n q h
  refine aB h fun h1 h=>aB h fun h2 h=>?_
  exact uG hnd (eq_of_beq (aA h1).1) (eq_of_beq (aA h1).2) (bO h2) (aG X p h).1
 | .assign2 x y a b,sc,st,h=>by
  apply dL h; intro ts v pos h
  apply cJ h; intro t h
  apply fW h; intro ns k q h
  apply cZ h; intro t1 r h
  apply cJ h; intro t2 h
  apply aN h; intro n q1 h
  apply aN h; intro m q2 h
  apply fW h; intro es k' q' h
  apply cZ h; intro ea r' h
  apply cJ h; intro eb h
  refine aB h fun h1 h=>aB h fun h2 h=>aB h fun h3 h=>aB h fun h4 h=>aB h fun h5 h=>aB h fun h6 h=>?_
  exact A5 hnd (bne_iff_ne.mp h1) (eq_of_beq (aA h2).1) (eq_of_beq (aA h3).1) (eq_of_beq (aA h2).2) (eq_of_beq (aA h3).2) (bO h4) (bO h5) (bO h6) (aG X a (aA h).1).1 (aG X b (aA h).2).1
 | .setA c o a p,sc,st,h=>by
  apply dL h; intro ts v pos h
  apply cJ h; intro t h
  apply b6 h; intro x n q h
  refine aB h fun z h=>aB h fun h1 h=>aB h fun h2 h=>?_; apply b9 z
  obtain⟨C,hC,h1⟩:=eW h1
  exact L5 X.k hC h1 (bO h2) (aG X o (aA h).1).1 (aG X p (aA h).2).1
 | .aug x op p,sc,st,h=>by
  apply g8 h; intro t o v pos h
  refine aB h fun z h=>?_; apply b9 z
  apply aN h; intro n q h
  exact PD hnd (eq_of_beq (aA (aA h).1).1) (eq_of_beq (aA (aA h).1).2) (aG X p (aA h).2).1
 | .augA c q a op p,sc,st,h=>by
  apply g8 h; intro t o v pos h
  refine aB h fun z h=>?_; apply b9 z
  apply b6 h; intro x n q' h
  refine aB h fun z h=>aB h fun h1 h=>?_; apply b9 z
  obtain⟨C,hC,h1⟩:=eW h1
  exact L9 X.k hC (aA h1).1 (aA h1).2 (aG X q (aA h).1).1 (aG X p (aA h).2).1
 | .expr p,sc,st,h=>by
  apply pZ h; intro e pos h
  exact L6 (bO (aA h).1) (aG X p (aA h).2).1
 | .ife c a b,sc,st,h=>by
  apply yI h; intro t b1 b2 pos h
  exact VB (aG X c (aA h).1).2 (kU X hnd fuel a (aA (aA h).2).1) (kU X hnd fuel b (aA (aA h).2).2)
 | .while_ c b,sc,st,h=>by
  apply uH h; intro t b1 b2 pos h
  refine aB h fun z h=>?_; apply d9 z
  exact G1 (aG X c (aA h).1).2 (kU X hnd fuel b (aA h).2)
 | .ret p,sc,st,h=>by
  apply iG h; intro e pos h
  apply qX h; intro e h
  exact EU (aG X p h).1
 | .brk,sc,st,h=>Stmt.Break.elim (motive_2:=fun st=>mF D sc fuel st .brk) st (eq_of_beq h) fun _=>PC
 | .cont,sc,st,h=>Stmt.Continue.elim (motive_2:=fun st=>mF D sc fuel st .cont) st (eq_of_beq h) fun _=>L7
 | .asrt c,sc,st,h=>by
  apply A6 h; intro t m pos h
  exact DG (aG X c h).2
 | .stuck,sc,st,h=>fun _ hd=>(nomatch hd)
theorem kU(X:NV D K fA xc)(hnd:D.nm.Nodup)(fuel:Nat):∀(p:kC){sc:Scope}{ss:List Stmt},e9 K D.cA fA xc D.nm sc p ss=true→S9 D sc fuel ss p
 | .nil,sc,ss,h=>by apply d9 h; exact PB
 | .cons p ps,sc,ss,h=>by
  refine(Bool.or_eq_true_iff.mp h).elim (fun h=>?_) fun h=>?_
  ·cases UH h; exact fun _ hd=>nomatch hd
  ·apply cZ h; intro st r h
   exact L8 (OQ X hnd fuel p (aA h).1) (kU X hnd fuel ps (aA h).2)
end
end
theorem JC{α:Type}{l:List α}{i:Nat}{a:α}(e:l[i]? = some a):i<l.length:=(List.getElem?_eq_some_iff.mp e).1
theorem LG{a d n:Nat}(h1:a≤n)(h2:n≤a+d):a+(d - (d+a - n))=n:=by
 obtain⟨j,rfl⟩:=Nat.exists_eq_add_of_le h1
 rw[Nat.add_comm d a,Nat.add_sub_add_left,Nat.sub_sub_self (Nat.le_of_add_le_add_left h2)]
structure fV(Z:aF)(a:Addr)(fd:FuncData)(body:List Stmt)(nm:List Str)(pf:OF):Prop where
 lam:nm.length=14→fd.code=Z.lam
 obj:∃ o,Z.h₀.get? a=some o∧o.cls ≠ .none∧o.data = .func fd
 body:fd.body = .stmts body
 clo:fd.closure=[]
 kind:fd.scope.kind = .function
 co:fd.scope.isCoroutine=false
 gen:fd.scope.isGenerator=false
 glob:fd.globals=mainGlobals
 blt:fd.builtins=builtinsNs
 code:∃ c oc vs t,fd.code = .ref c∧Z.h₀.get? c=some oc∧oc.cls ≠ .none∧oc.data = .fields vs∧vs[1]? = some (.str fd.qualname t)
 bind:∃ dv:List Value,hW [] dv (pf.dflt.map .d)∧∀(s:Shared)(vals:List Value),Z.TabI s.heap→vals.length≤pf.arity→pf.arity≤vals.length+dv.length→BindsTo s fd ⟨vals,[]⟩ ((nm.take pf.arity).zip (vals++dv.drop (dv.length+vals.length - pf.arity)))
 len:pf.arity≤nm.length
 nd:nm.Nodup
 nocell:∀ p∈fd.scope.names,p.2 ≠ .cell∧p.2 ≠ .free
 params:∀ n∈nm.take pf.arity,fd.scope.names.lookup n=some .local
section
variable{prog:Program}{w:World}{A:Around}{s:Shared}
theorem nE{R:Result→Shared→Prop}{a:Addr}{o:Obj}{fd:FuncData}{body:List Stmt}{args:Args}{binds:List (Str×Value)}
  (hroom:A.depth<recursionLimit) (ho:s.heap.get? a=some o) (hdata:o.data = .func fd) (hlim:s.heap.NoLimit) (hcd:s.heap.CodeRec fd.code fd.qualname)
  (hbody:fd.body = .stmts body) (hbind:BindsTo s fd args binds) (hclo:fd.closure=[])
  (hkind:∀ x∈binds,fd.scope.names.lookup x.1=some .local∨(fd.scope.names.lookup x.1=some .cell∧((cellsFrom (s.heap.objs.size+1) fd.scope.names []).lookup x.1).isSome=true))
  (h:∀ s₁,InCallC s (callEnvC fd s.heap.objs.size a).locals (bindL (callEnvC fd s.heap.objs.size a).kindOf binds fun _=>none) (callEnvC fd s.heap.objs.size a).cells
    (bindC (callEnvC fd s.heap.objs.size a).kindOf binds fun _=>none) s₁ →
   wpAny (model prog w) (A.deeper (callEnvC fd s.heap.objs.size a)) (execs body (callEnvC fd s.heap.objs.size a)) (fun f s'=>R (.ok (.ret (match f with | .ret v=>v | _=>.none))) s')
    (fun e s'=>wpAny (model prog w) (A.deeper (callEnvC fd s.heap.objs.size a)) (leaving (callEnvC fd s.heap.objs.size a) e) (fun _ s''=>R (.error e) s'') (fun e' s''=>R (.error e') s'') s') s₁)
  (hco:fd.scope.isCoroutine=false) (hgen:fd.scope.isGenerator=false) (hk:fd.scope.kind = .function) :
  codeAny (model prog w) A (.call (.ref a) args) R s:=by
 refine codeAny_call_function hroom ho hdata hco hgen hbody hcd (hbind _ _ _ _ ?_)
 rw[hclo]
 refine wpAny_newFunctionEnv_cells hk hkind fun env he s' x=>?_
 subst he
 exact⟨hlim.keeps x.toInCall.keep,codeAny_func (h s' x)⟩
end
noncomputable abbrev OD.at(D:OD)(fr:List Addr):OD:={ D with Z:=D.Z.at fr }
section
variable{D:OD}{K:Frag}{fA:Nat→Option Addr}{xc:Nat→Scope→Expr→Bool}{a:Addr}{fd:FuncData}{body:List Stmt}{pf:OF}{nm:List Str}{st st':St}{μ:List Addr}{A:Around}{s:Shared}{R:Result→Shared→Prop}{ρ:LO}{all:List Value}{as:Args}
def OA(μ:List Addr)(all:List Value)(ρ:LO):Prop:=∀(x:Nat)(v:OV),(ρ[x]?).join=some v→∃ w,all[x]? = some w∧VE μ w v
theorem D9{vs:List Value}{xs:List OV}{k:Nat}(h:hW μ vs xs):OA μ vs (xs.map some++List.replicate k none):=fun x v hx=>by
 rw[List.getElem?_append]at hx
 by_cases c:x<(xs.map some).length
 ·rw[if_pos c,List.getElem?_map]at hx
  cases e:xs[x]? with
  | none=>rw[e]at hx; cases hx
  | some u =>
   rw[e]at hx
   cases(show some u=some v from hx)
   exact h.get e
 ·rw[if_neg c,List.getElem?_replicate]at hx
  by_cases c:x - (xs.map some).length<k
  ·rw[if_pos c]at hx; cases hx
  ·rw[if_neg c]at hx; cases hx
theorem fV.binds(F:fV D.Z a fd body nm pf)(I:bA D.Z s){vs:List Value}{args:List OV}(hvs:hW μ vs args)(hf:DY pf args=some ρ) :
  ∃ all,BindsTo s fd ⟨vs,[]⟩ ((nm.take pf.arity).zip all)∧all.length=pf.arity∧OA μ all ρ:=iY hf fun hc e=>by
 cases e
 obtain⟨hc,h4⟩:=aA (aA hc).1
 obtain⟨h1,h2⟩:=aA (aA hc).1
 obtain⟨dv,hdv,hb⟩:=F.bind
 have hvl:=hvs.length
 have hdl:dv.length=pf.dflt.length:=hdv.length.trans (List.length_map _)
 have h1:=hvl▸of_decide_eq_true h1
 have h2:pf.arity≤vs.length+dv.length:=by rw[hvl,hdl]; exact of_decide_eq_true h2
 refine⟨_,hb s vs I.tab h1 h2,by rw[List.length_append,List.length_drop]; exact LG h1 h2,D9 (hvs.append ?_)⟩
 rw[List.map_drop,hvl,hdl]
 exact(hdv.pre List.nil_prefix).drop _
theorem fV.at(F:fV D.Z a fd body nm pf)(fr:List Addr):fV (D.Z.at fr) a fd body nm pf:={ F with }
theorem B5(F:fV D.Z a fd body D.nm pf)(hb:BindsTo s fd as ((D.nm.take pf.arity).zip all))(hall:all.length=pf.arity)(hval:OA μ all ρ)
  (hA:f6 D.Z (8*(D.lvl+1)) A) (hI:bA D.Z s) (hsz:D.Z.n≤s.heap.objs.size) (S:mI D.Z D.cA μ st s.heap)
  (H:∀(env:Env)(s₁:Shared),env.frame=some env.locals→Oc (D.at (env.locals::D.Z.fr)) fd.scope (A.deeper env) env ρ μ st s₁ →
   (∀{μ':List Addr}{so:St}{s':Shared},dG (D.Z.at (env.locals::D.Z.fr)) D.cA (· = env.locals) μ s₁.heap μ' so s'→dG D.Z D.cA j5 μ s.heap μ' so s') →
   (env=callEnvC fd s.heap.objs.size a∧(∀ b o,s.heap.get? b=some o→s₁.heap.get? b=some o)∧∃ m,s₁.heap.Ns env.locals m∧∀(x:Nat)n,(D.nm.take pf.arity)[x]? = some n→m n=all[x]?) →
   wpAny (model D.Z.prog D.Z.w) (A.deeper env) (execs body env) (fun f s'=>R (.ok (.ret (match f with | .ret v=>v | _=>.none))) s')
    (fun e s'=>wpAny (model D.Z.prog D.Z.w) (A.deeper env) (leaving env e) (fun _ s''=>R (.error e) s'') (fun e' s''=>R (.error e') s'') s') s₁):codeAny (model D.Z.prog D.Z.w) A (.call (.ref a) as) R s:=by
 obtain⟨c,oc,cvs,ct,hc1,hc2,hc3,hc4,hc5⟩:=F.code
 obtain⟨o,ho1,ho2,ho3⟩:=F.obj
 have hnl:(D.nm.take pf.arity).length=pf.arity:=by rw[List.length_take]; exact Nat.min_eq_left F.len
 have hbn:(((D.nm.take pf.arity).zip all).map (·.1))=D.nm.take pf.arity:=List.map_fst_zip (by rw[hnl,hall]; exact Nat.le_refl _)
 have htnd:(D.nm.take pf.arity).Nodup:=F.nd.sublist (List.take_sublist _ _)
 refine nE hA.dp.2.2 (hI.old.get_of_cls ho1 ho2) ho3 hI.lim ⟨c,oc,cvs,ct,hc1,hI.old.get_of_cls hc2 hc3,hc4,hc5⟩ F.body hb F.clo (fun p hp=>.inl (F.params _ (hbn▸List.mem_map_of_mem hp))) (fun s₁ X₁=>?_) F.co F.gen F.kind
 have hkeep:=X₁.toInCall.keep
 have hns:=X₁.toInCall.ns
 have hat:∀(x:Nat)n,(D.nm.take pf.arity)[x]? = some n→bindL (callEnvC fd s.heap.objs.size a).kindOf ((D.nm.take pf.arity).zip all) (fun _=>none) n=all[x]?:=fun x n hx=>by
  rw[t7 _ _ _ (by rw[hbn]; exact htnd),if_pos (show(callEnvC fd s.heap.objs.size a).kindOf n=some .local from F.params n (List.mem_of_getElem? hx)),m6 _ _ x n htnd hx]
  cases all[x]? <;> rfl
 have hI₀:bA D.Z s₁:=by
  obtain⟨h',tk,rfl⟩:=X₁.toInCall.same
  exact hI.full hkeep
 have hLnone:s.heap.get? s.heap.objs.size=none:=get?_ge (Nat.le_refl _)
 have hLμ:∀ a∈μ,a≠s.heap.objs.size:=fun a ha e=>let⟨o,e'⟩:=S.live a ha; nomatch (e▸hLnone).symm.trans e'
 refine H (callEnvC fd s.heap.objs.size a) s₁ rfl ⟨?_,⟨fun m h=>h,fun m h=>h,fun m h=>h⟩,?_,?_,?_⟩ (fun{μ' so s'}b=>⟨?_,?_,?_⟩) ⟨rfl,hkeep,_,hns,hat⟩
 ·refine⟨hA.handled,hA.dp.1,hA.dp.2.1,?_⟩
  obtain⟨fs,h1,h2⟩:=hA.frames
  refine⟨callEnvC fd s.heap.objs.size a::fs,by show A.frames.map _=_; rw[h1]; rfl,fun e he=>(List.mem_cons.mp he).elim (fun e'=>?_) fun he=>let⟨g1,L,g2,g3⟩:=h2 e he; ⟨g1,L,g2,List.mem_cons_of_mem _ g3⟩⟩
  subst e'
  exact⟨by show fd.scope.kind ≠ .module; rw[F.kind]; nofun,_,rfl,List.mem_cons_self⟩
 ·refine⟨F.lam,F.kind,F.glob,F.blt,hsz,fun h=>hLμ _ h rfl,_,hns,fun x v n h1 h2=>?_⟩
  obtain⟨w,hw,hwv⟩:=hval x v h1
  exact⟨w,(hat x n (by rw[List.getElem?_take,if_pos (hall▸JC hw)]; exact h2)).trans hw,hwv⟩
 ·refine⟨hI₀.old,hI₀.lim,hI₀.tab,hI₀.gens,hI₀.os,fun L hL=>(List.mem_cons.mp hL).elim (fun e=>?_) (hI₀.frs L)⟩
  obtain⟨o,es,ep,e',hdd,_⟩:=hns
  subst e
  exact⟨hsz,o,e',es,ep,hdd⟩
 ·exact⟨S.len,S.nd,fun a ha=>⟨(S.hi a ha).1,fun hm=>(List.mem_cons.mp hm).elim (hLμ a ha) (S.hi a ha).2⟩,fun k a f h1 h2=>(S.at_ k a f h1 h2).sl List.prefix_rfl fun o e=>.inl (hkeep a o e)⟩
 ·exact⟨b.i.old,b.i.lim,b.i.tab,b.i.gens,b.i.os,fun L hL=>b.i.frs L (List.mem_cons_of_mem _ hL)⟩
 ·exact⟨b.t.pre,fun c o e cl hb _=>b.t.keep c o (hkeep c o e) cl hb (fun e'=>by rw[show c=s.heap.objs.size from e',hLnone]at e; cases e),fun c hc hn=>let⟨h1,h2,_⟩:=b.t.new c hc hn; ⟨h1,oF (fun o e=>nomatch h2.symm.trans (hkeep c o e)),id⟩⟩
 ·exact⟨b.so.len,b.so.nd,fun c hc=>⟨(b.so.hi c hc).1,fun hm=>(b.so.hi c hc).2 (List.mem_cons_of_mem _ hm)⟩,b.so.at_⟩
theorem qO{fuel:Nat}{v:OV}(X:∀ fr,NV (D.at fr) K fA xc)(F:fV D.Z a fd body D.nm pf)(hck:e9 K D.cA fA xc D.nm fd.scope pf.body body=true)
  (hb:BindsTo s fd as ((D.nm.take pf.arity).zip all)) (hall:all.length=pf.arity) (hval:OA μ all ρ) (hd:eY (bG D.cl D.ex fuel pf.body ρ st)=some (v,st'))
  (hA:f6 D.Z (8*(D.lvl+1)) A) (hI:bA D.Z s) (hsz:D.Z.n≤s.heap.objs.size) (S:mI D.Z D.cA μ st s.heap) (hR:hZ D.Z D.cA μ s.heap st' v (fun w s'=>R (.ok (.ret w)) s')):codeAny (model D.Z.prog D.Z.w) A (.call (.ref a) as) R s :=
 B5 F hb hall hval hA hI hsz S fun env s₁ _ C out _=>by
 cases hx:bG D.cl D.ex fuel pf.body ρ st with
 | none=>rw[hx]at hd; cases hd
 | some r =>
  rw[hx]at hd
  refine kU (D:=D.at (env.locals::D.Z.fr)) (X _) F.nd fuel pf.body hck C hx fun fl s' μ' a' g=>?_
  obtain⟨f,so⟩:=r
  cases f with
  | next ρ'=>cases hd; obtain⟨rfl,_⟩:=g; exact hR .none s' μ' (out a') nP
  | ret u=>cases hd; obtain⟨w,rfl,hw⟩:=g; exact hR w s' μ' (out a') hw
  | brk ρ'=>cases hd
  | cont ρ'=>cases hd
theorem AH{fuel:Nat}{v:OV}{args:List OV}{vs:List Value}(X:∀ fr,NV (D.at fr) K fA xc)(F:fV D.Z a fd body D.nm pf)(hck:e9 K D.cA fA xc D.nm fd.scope pf.body body=true)
  (hfill:DY pf args=some ρ) (hd:eY (bG D.cl D.ex fuel pf.body ρ st)=some (v,st'))
  (hA:f6 D.Z (8*(D.lvl+1)) A) (hI:bA D.Z s) (hsz:D.Z.n≤s.heap.objs.size) (S:mI D.Z D.cA μ st s.heap) (hvs:hW μ vs args) (hR:hZ D.Z D.cA μ s.heap st' v (fun w s'=>R (.ok (.ret w)) s')):codeAny (model D.Z.prog D.Z.w) A (.call (.ref a) ⟨vs,[]⟩) R s :=
 let⟨_,hb,hall,hval⟩:=F.binds hI hvs hfill; qO X F hck hb hall hval hd hA hI hsz S hR
end
section
variable{Z:aF}{cA fA:Nat→Option Addr}{K:Frag}{xc:List Str→Nat→Scope→Expr→Bool}{tab:Nat→Option OF}{prim:iZ→iZ}{ex:iZ→Nat→LO→St→Option (OV×St)}{fuel:Nat}
def KZ(Z:aF)(K:Frag)(cA fA:Nat→Option Addr)(xc:List Str→Nat→Scope→Expr→Bool)(tab:Nat→Option OF):Prop :=
 ∀ f pf a,tab f=some pf→fA f=some a→H0 f=[]∧∃ fd body nm,fV Z a fd body nm pf∧e9 K cA fA (xc nm) nm fd.scope pf.body body=true
def F1(Z:aF)(cA fA:Nat→Option Addr)(tab:Nat→Option OF)(prim:iZ→iZ):Prop :=
 ∀(cl:iZ)(lvl:Nat),(∀ fr,bW (Z.at fr) cA cl lvl fA)→∀{fr:List Addr}{f:Nat}{a:Addr}{args:List OV}{st:St}{v:OV}{st':St},tab f=none→fA f=some a→prim cl f args st=some (v,st') →
  ∀{A:Around}{s:Shared}{vs:List Value}{μ:List Addr}{R:Result→Shared→Prop},f6 (Z.at fr) (8*(lvl+2)) A→bA (Z.at fr) s→Z.n≤s.heap.objs.size→mI (Z.at fr) cA μ st s.heap→hW μ vs args →
   hZ (Z.at fr) cA μ s.heap st' v (fun w s'=>R (.ok (.ret w)) s')→codeAny (model Z.prog Z.w) A (.call (.ref a) (kA f vs)) R s
def tI(Z:aF)(cA fA:Nat→Option Addr)(xc:List Str→Nat→Scope→Expr→Bool)(ex:iZ→Nat→LO→St→Option (OV×St)):Prop :=
 ∀(cl:iZ)(lvl:Nat),(∀ fr,bW (Z.at fr) cA cl lvl fA)→∀ fr nm j sc e,xc nm j sc e=true→cM ⟨Z.at fr,cA,cl,ex cl,lvl+1,nm⟩ sc e (.ext j)
theorem bW.up{cl:iZ}{l l':Nat}(h:bW Z cA cl l fA)(hl:l≤l'):bW Z cA cl l' fA :=
 fun{f a args st v st'}h1 h2{A s vs μ R}hA=>h h1 h2 (hA.mono (Nat.mul_le_mul_left 8 hl))
theorem P4(hK:∀ h,Z.TabI h→K.In h)(hK0:K.In Z.h₀)(hB:gO Z)(hT:KZ Z K cA fA xc tab)(hP:F1 Z cA fA tab prim)(hX:tI Z cA fA xc ex)  (lvl:Nat):∀ fr,bW (Z.at fr) cA (qW tab prim ex fuel lvl) (2*lvl) fA:=by
 induction lvl with
 | zero=>intro fr f a args st v st' _ h; cases h
 | succ lvl ih =>
  intro fr f a args st v st' hf h A s vs μ R hA hI hsz S hvs hR
  have h:(match tab f with
   | some pf=>(DY pf args).bind fun ρ=>eY (bG (qW tab prim ex fuel lvl) (ex (qW tab prim ex fuel lvl)) fuel pf.body ρ st)
   | none=>prim (qW tab prim ex fuel lvl) f args st)=some (v,st'):=h
  cases ht:tab f with
  | none =>
   rw[ht]at h
   exact hP _ (2*lvl) ih ht hf h hA hI hsz S hvs hR
  | some pf =>
   rw[ht]at h
   exact aS h fun ρ hfill hd=>by
    obtain⟨hkw,fd,body,nm,F,hck⟩:=hT f pf a ht hf
    rw[jG hkw]
    exact AH (D:=⟨Z.at fr,cA,qW tab prim ex fuel lvl,ex (qW tab prim ex fuel lvl),2*lvl+1,nm⟩) (xc:=xc nm) (fun fr'=>⟨hK,hK0,hB,bW.up (ih fr') (Nat.le_succ _),fun j sc e hx=>hX _ (2*lvl) ih fr' nm j sc e hx⟩)
     (fV.at (D:=⟨Z,cA,qW tab prim ex fuel lvl,ex (qW tab prim ex fuel lvl),2*lvl+1,nm⟩) F fr) hck hfill hd hA hI hsz S hvs hR
end
end Kt.Internal
end
section
open PySem PySem.W PyProof.Rows
namespace Kt.Internal
noncomputable def YZ:OF:=⟨2,2,[],(.cons (.ife (.bool true (.cmp .IsNot (.typ (.var 0)) (.ty "int")) (.cmp .IsNot (.typ (.var 0)) (.ty "bool"))) (.cons (.expr .stuck) .nil) .nil) (.cons (.assign 0 (.intc (.var 0))) (.cons (.ife (.bool false (.cmp .Gt (.var 0) (.lit (.int 1099511627776))) (.cmp .Lt (.var 0) (.neg 1099511627776))) (.cons (.expr .stuck) .nil) .nil) (.cons (.ret (.var 0)) .nil))))⟩
noncomputable def YU:List Str:=["n", "what"]
noncomputable def I1:OF:=⟨4,2,[.int (-1)],(.cons (.ife (.cmp .Is (.var 1) (.lit .none)) (.cons (.assign 1 (.neg 1)) .nil) .nil) (.cons (.assign 1 (.call 0 (.cons (.var 1) (.cons (.lit (.str ("StringIO.read of a size that is no exact int" : Str))) .nil)))) (.cons (.expr (.mcall 1 (.var 0) ("_StringIO__check" : Str) 2 .nil)) (.cons (.assign 2 (.attr 1 (.var 0) ("_StringIO__pos" : Str))) (.cons (.assign 3 (.len (.attr 1 (.var 0) ("_StringIO__buf" : Str)))) (.cons (.ife (.cmp .GtE (.var 2) (.var 3)) (.cons (.ret (.lit (.str ("" : Str)))) .nil) .nil) (.cons (.ife (.bool true (.cmp .GtE (.var 1) (.lit (.int 0))) (.cmp .Lt (.bin .Add (.var 2) (.var 1)) (.var 3))) (.cons (.assign 3 (.bin .Add (.var 2) (.var 1))) .nil) .nil) (.cons (.setA 1 (.var 0) ("_StringIO__pos" : Str) (.var 3)) (.cons (.ret (.slc (.bin .Add (.slc (.attr 1 (.var 0) ("_StringIO__buf" : Str)) (.yes (.var 2)) (.yes (.var 3))) (.lit (.str (" " : Str)))) .no (.yes (.neg 1)))) .nil)))))))))⟩
noncomputable def YT:List Str:=["self", "size", "start", "stop"]
noncomputable def YY:OF:=⟨1,1,[],(.cons (.ife (.cmp .Is (.attr 1 (.var 0) ("_StringIO__buf" : Str)) (.lit .none)) (.cons .stuck .nil) .nil) .nil)⟩
noncomputable def YS:List Str:=["self"]
noncomputable def YX:OF:=⟨3,3,[.str ("" : Str),.str ("\n" : Str)],(.cons (.ife (.bool true (.cmp .IsNot (.var 2) (.lit .none)) (.cmp .IsNot (.typ (.var 2)) (.ty "str"))) (.cons (.expr .stuck) .nil) .nil) (.cons (.ife (.bool true (.cmp .IsNot (.var 2) (.lit .none)) (.bool true (.cmp .NotEq (.var 2) (.lit (.str ("" : Str)))) (.bool true (.cmp .NotEq (.var 2) (.lit (.str ("\n" : Str)))) (.bool true (.cmp .NotEq (.var 2) (.lit (.str ("\r" : Str)))) (.cmp .NotEq (.var 2) (.lit (.str ("\r\n" : Str)))))))) (.cons .stuck .nil) .nil) (.cons (.ife (.bool true (.cmp .IsNot (.var 1) (.lit .none)) (.cmp .IsNot (.typ (.var 1)) (.ty "str"))) (.cons (.expr .stuck) .nil) .nil) (.cons (.setA 1 (.var 0) ("_StringIO__newline" : Str) (.var 2)) (.cons (.setA 1 (.var 0) ("_StringIO__buf" : Str) (.lit (.str ("" : Str)))) (.cons (.setA 1 (.var 0) ("_StringIO__pos" : Str) (.lit (.int 0))) (.cons (.ife (.cmp .IsNot (.var 1) (.lit .none)) (.cons (.setA 1 (.var 0) ("_StringIO__buf" : Str) (.mcall 1 (.var 0) ("_StringIO__translated" : Str) 4 (.cons (.var 1) .nil))) .nil) .nil) .nil)))))))⟩
noncomputable def YR:List Str:=["self", "initial_value", "newline"]
noncomputable def YW:OF:=⟨3,2,[],(.cons (.assign 2 (.attr 1 (.var 0) ("_StringIO__newline" : Str))) (.cons (.ife (.cmp .Is (.var 2) (.lit .none)) (.cons (.ret (.repl (.repl (.var 1) (.lit (.str ("\r\n" : Str))) (.lit (.str ("\n" : Str)))) (.lit (.str ("\r" : Str))) (.lit (.str ("\n" : Str))))) .nil) .nil) (.cons (.ife (.bool false (.cmp .Eq (.var 2) (.lit (.str ("\r" : Str)))) (.cmp .Eq (.var 2) (.lit (.str ("\r\n" : Str))))) (.cons (.ret (.repl (.var 1) (.lit (.str ("\n" : Str))) (.var 2))) .nil) .nil) (.cons (.ret (.var 1)) .nil))))⟩
noncomputable def YQ:List Str:=["self", "s", "newline"]
noncomputable def eA:OF:=⟨6,5,[.none,.none,.bool false,.bool false],(.cons (.ife (.isStr (.var 1)) (.cons (.assign 1 (.call 9 (.cons (.var 1) .nil))) .nil) .nil) (.cons (.ife (.cmp .IsNot (.var 1) (.lit .none)) (.cons (.setA 0 (.var 0) ("instream" : Str) (.var 1)) (.cons (.setA 0 (.var 0) ("infile" : Str) (.var 2)) .nil)) (.cons (.setA 0 (.var 0) ("instream" : Str) .stuck) (.cons (.setA 0 (.var 0) ("infile" : Str) (.lit .none)) .nil))) (.cons (.setA 0 (.var 0) ("posix" : Str) (.var 3)) (.cons (.ife (.var 3) (.cons (.setA 0 (.var 0) ("eof" : Str) (.lit .none)) .nil) (.cons (.setA 0 (.var 0) ("eof" : Str) (.lit (.str ("" : Str)))) .nil)) (.cons (.setA 0 (.var 0) ("commenters" : Str) (.lit (.str ("#" : Str)))) (.cons (.setA 0 (.var 0) ("wordchars" : Str) (.lit (.str ("abcdfeghijklmnopqrstuvwxyzABCDEFGHIJKLMNOPQRSTUVWXYZ0123456789_" : Str)))) (.cons (.ife (.attr 0 (.var 0) ("posix" : Str)) (.cons (.augA 0 (.var 0) ("wordchars" : Str) .Add (.lit (.str ("ßàáâãäåæçèéêëìíîïðñòóôõöøùúûüýþÿÀÁÂÃÄÅÆÇÈÉÊËÌÍÎÏÐÑÒÓÔÕÖØÙÚÛÜÝÞ" : Str)))) .nil) .nil) (.cons (.setA 0 (.var 0) ("whitespace" : Str) (.lit (.str (" \t\r\n" : Str)))) (.cons (.setA 0 (.var 0) ("whitespace_split" : Str) (.lit (.bool false))) (.cons (.setA 0 (.var 0) ("quotes" : Str) (.lit (.str ("'\"" : Str)))) (.cons (.setA 0 (.var 0) ("escape" : Str) (.lit (.str ("\\" : Str)))) (.cons (.setA 0 (.var 0) ("escapedquotes" : Str) (.lit (.str ("\"" : Str)))) (.cons (.setA 0 (.var 0) ("state" : Str) (.lit (.str (" " : Str)))) (.cons (.setA 0 (.var 0) ("pushback" : Str) (.ext 0)) (.cons (.setA 0 (.var 0) ("lineno" : Str) (.lit (.int 1))) (.cons (.setA 0 (.var 0) ("debug" : Str) (.lit (.int 0))) (.cons (.setA 0 (.var 0) ("token" : Str) (.lit (.str ("" : Str)))) (.cons (.setA 0 (.var 0) ("filestack" : Str) (.ext 0)) (.cons (.setA 0 (.var 0) ("source" : Str) (.lit .none)) (.cons (.ife (.nt (.var 4)) (.cons (.assign 4 (.lit (.str ("" : Str)))) .nil) (.cons (.ife (.cmp .Is (.var 4) (.lit (.bool true))) (.cons (.assign 4 (.lit (.str ("();<>|&" : Str)))) .nil) .nil) .nil)) (.cons (.setA 0 (.var 0) ("_punctuation_chars" : Str) (.var 4)) (.cons (.ife (.var 4) (.cons (.setA 0 (.var 0) ("_pushback_chars" : Str) (.ext 0)) (.cons (.augA 0 (.var 0) ("wordchars" : Str) .Add (.lit (.str ("~-./*?=" : Str)))) (.cons (.assign 5 .stuck) (.cons (.setA 0 (.var 0) ("wordchars" : Str) .stuck) .nil)))) .nil) .nil))))))))))))))))))))))⟩
noncomputable def cV:List Str:=["self", "instream", "infile", "posix", "punctuation_chars", "t"]
noncomputable def tA:OE:=(.lit (.bool true))
noncomputable def pM:kC:=(.cons (.ife (.bool true (.prop 0 (.var 0) ("punctuation_chars" : Str) 8) (.attr 0 (.var 0) ("_pushback_chars" : Str))) (.cons (.assign 4 .stuck) .nil) (.cons (.assign 4 (.mcall 1 (.attr 0 (.var 0) ("instream" : Str)) ("read" : Str) 1 (.cons (.lit (.int 1)) .nil))) .nil)) (.cons (.ife (.cmp .Eq (.var 4) (.lit (.str ("\n" : Str)))) (.cons (.augA 0 (.var 0) ("lineno" : Str) .Add (.lit (.int 1))) .nil) .nil) (.cons (.ife (.cmp .GtE (.attr 0 (.var 0) ("debug" : Str)) (.lit (.int 3))) (.cons (.expr .stuck) .nil) .nil) (.cons (.ife (.cmp .Is (.attr 0 (.var 0) ("state" : Str)) (.lit .none)) (.cons (.setA 0 (.var 0) ("token" : Str) (.lit (.str ("" : Str)))) (.cons .brk .nil)) (.cons (.ife (.cmp .Eq (.attr 0 (.var 0) ("state" : Str)) (.lit (.str (" " : Str)))) (.cons (.ife (.nt (.var 4)) (.cons (.setA 0 (.var 0) ("state" : Str) (.lit .none)) (.cons .brk .nil)) (.cons (.ife (.cmp .In (.var 4) (.attr 0 (.var 0) ("whitespace" : Str))) (.cons (.ife (.cmp .GtE (.attr 0 (.var 0) ("debug" : Str)) (.lit (.int 2))) (.cons (.expr .stuck) .nil) .nil) (.cons (.ife (.bool false (.attr 0 (.var 0) ("token" : Str)) (.bool true (.attr 0 (.var 0) ("posix" : Str)) (.var 1))) (.cons .brk .nil) (.cons .cont .nil)) .nil)) (.cons (.ife (.cmp .In (.var 4) (.attr 0 (.var 0) ("commenters" : Str))) (.cons (.expr .stuck) (.cons (.augA 0 (.var 0) ("lineno" : Str) .Add (.lit (.int 1))) .nil)) (.cons (.ife (.bool true (.attr 0 (.var 0) ("posix" : Str)) (.cmp .In (.var 4) (.attr 0 (.var 0) ("escape" : Str)))) (.cons (.assign 2 (.lit (.str ("a" : Str)))) (.cons (.setA 0 (.var 0) ("state" : Str) (.var 4)) .nil)) (.cons (.ife (.cmp .In (.var 4) (.attr 0 (.var 0) ("wordchars" : Str))) (.cons (.setA 0 (.var 0) ("token" : Str) (.var 4)) (.cons (.setA 0 (.var 0) ("state" : Str) (.lit (.str ("a" : Str)))) .nil)) (.cons (.ife (.cmp .In (.var 4) (.prop 0 (.var 0) ("punctuation_chars" : Str) 8)) (.cons (.setA 0 (.var 0) ("token" : Str) (.var 4)) (.cons (.setA 0 (.var 0) ("state" : Str) (.lit (.str ("c" : Str)))) .nil)) (.cons (.ife (.cmp .In (.var 4) (.attr 0 (.var 0) ("quotes" : Str))) (.cons (.ife (.nt (.attr 0 (.var 0) ("posix" : Str))) (.cons (.setA 0 (.var 0) ("token" : Str) (.var 4)) .nil) .nil) (.cons (.setA 0 (.var 0) ("state" : Str) (.var 4)) .nil)) (.cons (.ife (.attr 0 (.var 0) ("whitespace_split" : Str)) (.cons (.setA 0 (.var 0) ("token" : Str) (.var 4)) (.cons (.setA 0 (.var 0) ("state" : Str) (.lit (.str ("a" : Str)))) .nil)) (.cons (.setA 0 (.var 0) ("token" : Str) (.var 4)) (.cons (.ife (.bool false (.attr 0 (.var 0) ("token" : Str)) (.bool true (.attr 0 (.var 0) ("posix" : Str)) (.var 1))) (.cons .brk .nil) (.cons .cont .nil)) .nil))) .nil)) .nil)) .nil)) .nil)) .nil)) .nil)) .nil)) .nil) (.cons (.ife (.cmp .In (.attr 0 (.var 0) ("state" : Str)) (.attr 0 (.var 0) ("quotes" : Str))) (.cons (.assign 1 (.lit (.bool true))) (.cons (.ife (.nt (.var 4)) (.cons (.ife (.cmp .GtE (.attr 0 (.var 0) ("debug" : Str)) (.lit (.int 2))) (.cons (.expr .stuck) .nil) .nil) (.cons .stuck .nil)) .nil) (.cons (.ife (.cmp .Eq (.var 4) (.attr 0 (.var 0) ("state" : Str))) (.cons (.ife (.nt (.attr 0 (.var 0) ("posix" : Str))) (.cons (.augA 0 (.var 0) ("token" : Str) .Add (.var 4)) (.cons (.setA 0 (.var 0) ("state" : Str) (.lit (.str (" " : Str)))) (.cons .brk .nil))) (.cons (.setA 0 (.var 0) ("state" : Str) (.lit (.str ("a" : Str)))) .nil)) .nil) (.cons (.ife (.bool true (.attr 0 (.var 0) ("posix" : Str)) (.bool true (.cmp .In (.var 4) (.attr 0 (.var 0) ("escape" : Str))) (.cmp .In (.attr 0 (.var 0) ("state" : Str)) (.attr 0 (.var 0) ("escapedquotes" : Str))))) (.cons (.assign 2 (.attr 0 (.var 0) ("state" : Str))) (.cons (.setA 0 (.var 0) ("state" : Str) (.var 4)) .nil)) (.cons (.augA 0 (.var 0) ("token" : Str) .Add (.var 4)) .nil)) .nil)) .nil))) (.cons (.ife (.cmp .In (.attr 0 (.var 0) ("state" : Str)) (.attr 0 (.var 0) ("escape" : Str))) (.cons (.ife (.nt (.var 4)) (.cons (.ife (.cmp .GtE (.attr 0 (.var 0) ("debug" : Str)) (.lit (.int 2))) (.cons (.expr .stuck) .nil) .nil) (.cons .stuck .nil)) .nil) (.cons (.ife (.bool true (.cmp .In (.var 2) (.attr 0 (.var 0) ("quotes" : Str))) (.bool true (.cmp .NotEq (.var 4) (.attr 0 (.var 0) ("state" : Str))) (.cmp .NotEq (.var 4) (.var 2)))) (.cons (.augA 0 (.var 0) ("token" : Str) .Add (.attr 0 (.var 0) ("state" : Str))) .nil) .nil) (.cons (.augA 0 (.var 0) ("token" : Str) .Add (.var 4)) (.cons (.setA 0 (.var 0) ("state" : Str) (.var 2)) .nil)))) (.cons (.ife (.inT (.attr 0 (.var 0) ("state" : Str)) [("a" : Str),("c" : Str)]) (.cons (.ife (.nt (.var 4)) (.cons (.setA 0 (.var 0) ("state" : Str) (.lit .none)) (.cons .brk .nil)) (.cons (.ife (.cmp .In (.var 4) (.attr 0 (.var 0) ("whitespace" : Str))) (.cons (.ife (.cmp .GtE (.attr 0 (.var 0) ("debug" : Str)) (.lit (.int 2))) (.cons (.expr .stuck) .nil) .nil) (.cons (.setA 0 (.var 0) ("state" : Str) (.lit (.str (" " : Str)))) (.cons (.ife (.bool false (.attr 0 (.var 0) ("token" : Str)) (.bool true (.attr 0 (.var 0) ("posix" : Str)) (.var 1))) (.cons .brk .nil) (.cons .cont .nil)) .nil))) (.cons (.ife (.cmp .In (.var 4) (.attr 0 (.var 0) ("commenters" : Str))) (.cons (.expr .stuck) (.cons (.augA 0 (.var 0) ("lineno" : Str) .Add (.lit (.int 1))) (.cons (.ife (.attr 0 (.var 0) ("posix" : Str)) (.cons (.setA 0 (.var 0) ("state" : Str) (.lit (.str (" " : Str)))) (.cons (.ife (.bool false (.attr 0 (.var 0) ("token" : Str)) (.bool true (.attr 0 (.var 0) ("posix" : Str)) (.var 1))) (.cons .brk .nil) (.cons .cont .nil)) .nil)) .nil) .nil))) (.cons (.ife (.cmp .Eq (.attr 0 (.var 0) ("state" : Str)) (.lit (.str ("c" : Str)))) (.cons (.ife (.cmp .In (.var 4) (.prop 0 (.var 0) ("punctuation_chars" : Str) 8)) (.cons (.augA 0 (.var 0) ("token" : Str) .Add (.var 4)) .nil) (.cons (.ife (.cmp .NotIn (.var 4) (.attr 0 (.var 0) ("whitespace" : Str))) (.cons (.expr (.appL (.attr 0 (.var 0) ("_pushback_chars" : Str)) (.var 4))) .nil) .nil) (.cons (.setA 0 (.var 0) ("state" : Str) (.lit (.str (" " : Str)))) (.cons .brk .nil)))) .nil) (.cons (.ife (.bool true (.attr 0 (.var 0) ("posix" : Str)) (.cmp .In (.var 4) (.attr 0 (.var 0) ("quotes" : Str)))) (.cons (.setA 0 (.var 0) ("state" : Str) (.var 4)) .nil) (.cons (.ife (.bool true (.attr 0 (.var 0) ("posix" : Str)) (.cmp .In (.var 4) (.attr 0 (.var 0) ("escape" : Str)))) (.cons (.assign 2 (.lit (.str ("a" : Str)))) (.cons (.setA 0 (.var 0) ("state" : Str) (.var 4)) .nil)) (.cons (.ife (.bool false (.cmp .In (.var 4) (.attr 0 (.var 0) ("wordchars" : Str))) (.bool false (.cmp .In (.var 4) (.attr 0 (.var 0) ("quotes" : Str))) (.bool true (.attr 0 (.var 0) ("whitespace_split" : Str)) (.cmp .NotIn (.var 4) (.prop 0 (.var 0) ("punctuation_chars" : Str) 8))))) (.cons (.augA 0 (.var 0) ("token" : Str) .Add (.var 4)) .nil) (.cons (.ife (.prop 0 (.var 0) ("punctuation_chars" : Str) 8) (.cons (.expr (.appL (.attr 0 (.var 0) ("_pushback_chars" : Str)) (.var 4))) .nil) (.cons (.expr .stuck) .nil)) (.cons (.ife (.cmp .GtE (.attr 0 (.var 0) ("debug" : Str)) (.lit (.int 2))) (.cons (.expr .stuck) .nil) .nil) (.cons (.setA 0 (.var 0) ("state" : Str) (.lit (.str (" " : Str)))) (.cons (.ife (.bool false (.attr 0 (.var 0) ("token" : Str)) (.bool true (.attr 0 (.var 0) ("posix" : Str)) (.var 1))) (.cons .brk .nil) (.cons .cont .nil)) .nil))))) .nil)) .nil)) .nil)) .nil)) .nil)) .nil)) .nil) .nil) .nil)) .nil)) .nil)) .nil)) .nil))))
noncomputable def R5:OF:=⟨5,1,[],(.cons (.assign 1 (.lit (.bool false))) (.cons (.assign 2 (.lit (.str (" " : Str)))) (.cons (.while_ tA pM) (.cons (.assign 3 (.attr 0 (.var 0) ("token" : Str))) (.cons (.setA 0 (.var 0) ("token" : Str) (.lit (.str ("" : Str)))) (.cons (.ife (.bool true (.attr 0 (.var 0) ("posix" : Str)) (.bool true (.nt (.var 1)) (.cmp .Eq (.var 3) (.lit (.str ("" : Str)))))) (.cons (.assign 3 (.lit .none)) .nil) .nil) (.cons (.ife (.cmp .Gt (.attr 0 (.var 0) ("debug" : Str)) (.lit (.int 1))) (.cons (.ife (.var 3) (.cons (.expr .stuck) .nil) (.cons (.expr .stuck) .nil)) .nil) .nil) (.cons (.ret (.var 3)) .nil))))))))⟩
noncomputable def YO:List Str:=["self", "quoted", "escapedstate", "result", "nextchar"]
noncomputable def VT:OE:=(.cmp .Eq (.var 1) (.attr 0 (.var 0) ("eof" : Str)))
noncomputable def VK:kC:=(.cons (.ife (.nt (.attr 0 (.var 0) ("filestack" : Str))) (.cons (.ret (.attr 0 (.var 0) ("eof" : Str))) .nil) (.cons (.expr .stuck) (.cons (.assign 1 (.mcall 0 (.var 0) ("get_token" : Str) 7 .nil)) .nil))) .nil)
noncomputable def VS:OE:=(.cmp .Eq (.var 1) (.attr 0 (.var 0) ("source" : Str)))
noncomputable def VJ:kC:=(.cons (.assign 3 .stuck) (.cons (.ife (.var 3) (.cons .stuck .nil) .nil) (.cons (.assign 1 (.mcall 0 (.var 0) ("get_token" : Str) 7 .nil)) .nil)))
noncomputable def I0:OF:=⟨6,1,[],(.cons (.ife (.attr 0 (.var 0) ("pushback" : Str)) (.cons (.assign 2 .stuck) (.cons (.ife (.cmp .GtE (.attr 0 (.var 0) ("debug" : Str)) (.lit (.int 1))) (.cons (.expr .stuck) .nil) .nil) (.cons (.ret (.var 2)) .nil))) .nil) (.cons (.assign 1 (.mcall 0 (.var 0) ("read_token" : Str) 6 .nil)) (.cons (.ife (.cmp .IsNot (.attr 0 (.var 0) ("source" : Str)) (.lit .none)) (.cons (.while_ VS VJ) .nil) .nil) (.cons (.while_ VT VK) (.cons (.ife (.cmp .GtE (.attr 0 (.var 0) ("debug" : Str)) (.lit (.int 1))) (.cons (.ife (.cmp .NotEq (.var 1) (.attr 0 (.var 0) ("eof" : Str))) (.cons (.expr .stuck) .nil) (.cons (.expr .stuck) .nil)) .nil) .nil) (.cons (.ret (.var 1)) .nil))))))⟩
noncomputable def YN:List Str:=["self", "raw", "tok", "spec", "newfile", "newstream"]
noncomputable def YV:OF:=⟨1,1,[],(.cons (.ret (.attr 0 (.var 0) ("_punctuation_chars" : Str))) .nil)⟩
noncomputable def YM:List Str:=["self"]
noncomputable def VR:OF:=⟨1,1,[],(.cons (.ife (.isStr (.var 0)) (.cons (.ret (.ext 6)) .nil) (.cons (.assign 0 .stuck) (.cons (.ret .stuck) .nil))) .nil)⟩
noncomputable def VP:List Str:=["pattern"]
noncomputable def P8:OE:=(.lit (.bool true))
noncomputable def P7:kC:=(.cons (.assign 11 .stuck) (.cons (.ife (.cmp .Lt (.var 11) (.lit (.int 0))) (.cons .brk .nil) .nil) (.cons (.expr (.appL (.var 10) (.slc (.var 0) (.yes (.var 5)) (.yes (.var 11))))) (.cons (.assign 5 (.bin .Add (.var 11) (.lit (.int 1)))) (.cons (.assign 11 (.bin .Add (.var 11) (.lit (.int 3)))) .nil)))))
noncomputable def E5:OE:=(.bool true (.cmp .Lt (.var 8) (.var 6)) (.cmp .NotEq (.idx (.var 0) (.var 8)) (.lit (.str ("]" : Str)))))
noncomputable def E3:kC:=(.cons (.assign 8 (.bin .Add (.var 8) (.lit (.int 1)))) .nil)
noncomputable def rK:OE:=(.cmp .Lt (.var 5) (.var 6))
noncomputable def fR:kC:=(.cons (.assign 7 (.idx (.var 0) (.var 5))) (.cons (.assign 5 (.bin .Add (.var 5) (.lit (.int 1)))) (.cons (.ife (.cmp .Eq (.var 7) (.lit (.str ("*" : Str)))) (.cons (.ife (.bool false (.nt (.var 3)) (.cmp .IsNot (.idx (.var 3) (.neg 1)) (.var 1))) (.cons (.expr (.app (.var 4) (.var 1))) .nil) .nil) .nil) (.cons (.ife (.cmp .Eq (.var 7) (.lit (.str ("?" : Str)))) (.cons (.expr (.app (.var 4) (.var 2))) .nil) (.cons (.ife (.cmp .Eq (.var 7) (.lit (.str ("[" : Str)))) (.cons (.assign 8 (.var 5)) (.cons (.ife (.bool true (.cmp .Lt (.var 8) (.var 6)) (.cmp .Eq (.idx (.var 0) (.var 8)) (.lit (.str ("!" : Str))))) (.cons (.assign 8 (.bin .Add (.var 8) (.lit (.int 1)))) .nil) .nil) (.cons (.ife (.bool true (.cmp .Lt (.var 8) (.var 6)) (.cmp .Eq (.idx (.var 0) (.var 8)) (.lit (.str ("]" : Str))))) (.cons (.assign 8 (.bin .Add (.var 8) (.lit (.int 1)))) .nil) .nil) (.cons (.while_ E5 E3) (.cons (.ife (.cmp .GtE (.var 8) (.var 6)) (.cons (.expr (.app (.var 4) (.lit (.str ("\\[" : Str))))) .nil) (.cons (.assign 9 (.slc (.var 0) (.yes (.var 5)) (.yes (.var 8)))) (.cons (.ife (.cmp .NotIn (.lit (.str ("-" : Str))) (.var 9)) (.cons (.assign 9 (.repl (.var 9) (.lit (.str ("\\" : Str))) (.lit (.str ("\\\\" : Str))))) .nil) (.cons (.assign 10 .nil) (.cons (.assign 11 .stuck) (.cons (.while_ P8 P7) (.cons (.assign 12 (.slc (.var 0) (.yes (.var 5)) (.yes (.var 8)))) (.cons (.ife (.var 12) (.cons (.expr (.appL (.var 10) (.var 12))) .nil) (.cons .stuck .nil)) (.cons .stuck .nil))))))) (.cons (.assign 9 (.ext 5)) (.cons (.assign 5 (.bin .Add (.var 8) (.lit (.int 1)))) (.cons (.ife (.nt (.var 9)) (.cons (.expr (.app (.var 4) (.lit (.str ("(?!)" : Str))))) .nil) (.cons (.ife (.cmp .Eq (.var 9) (.lit (.str ("!" : Str)))) (.cons (.expr (.app (.var 4) (.lit (.str ("." : Str))))) .nil) (.cons (.ife (.cmp .Eq (.idx (.var 9) (.lit (.int 0))) (.lit (.str ("!" : Str)))) (.cons (.assign 9 (.bin .Add (.lit (.str ("^" : Str))) (.slc (.var 9) (.yes (.lit (.int 1))) .no))) .nil) (.cons (.ife (.inT (.idx (.var 9) (.lit (.int 0))) [("^" : Str),("[" : Str)]) (.cons (.assign 9 (.bin .Add (.lit (.str ("\\" : Str))) (.var 9))) .nil) .nil) .nil)) (.cons (.expr (.app (.var 4) (.fstr ("[" : Str) (.var 9) ("]" : Str)))) .nil))) .nil)) .nil)))))) .nil))))) (.cons (.expr (.app (.var 4) (.call 11 (.cons (.var 7) .nil)))) .nil)) .nil)) .nil)) .nil)))
noncomputable def J5:OF:=⟨14,3,[],(.cons (.assign 3 .nil) (.cons (.assign 4 (.addm (.var 3))) (.cons (.assign2 5 6 (.lit (.int 0)) (.len (.var 0))) (.cons (.while_ rK fR) (.cons (.asrt (.cmp .Eq (.var 5) (.var 6))) (.cons (.ret (.var 3)) .nil))))))⟩
noncomputable def VO:List Str:=["pat", "STAR", "QUESTION_MARK", "res", "add", "i", "n", "c", "j", "stuff", "chunks", "k", "chunk", "s"]
noncomputable def nW:OE:=(.bool true (.cmp .Lt (.var 4) (.var 5)) (.cmp .IsNot (.idx (.var 0) (.var 4)) (.var 1)))
noncomputable def lR:kC:=(.cons (.expr (.appL (.var 6) (.idx (.var 0) (.var 4)))) (.cons (.aug 4 .Add (.lit (.int 1))) .nil))
noncomputable def E4:OE:=(.cmp .Lt (.var 4) (.var 5))
noncomputable def rJ:kC:=(.cons (.asrt (.cmp .Is (.idx (.var 0) (.var 4)) (.var 1))) (.cons (.aug 4 .Add (.lit (.int 1))) (.cons (.ife (.cmp .Eq (.var 4) (.var 5)) (.cons (.expr (.app (.var 3) (.lit (.str (".*" : Str))))) (.cons .brk .nil)) .nil) (.cons (.asrt (.cmp .IsNot (.idx (.var 0) (.var 4)) (.var 1))) (.cons (.assign 6 .nil) (.cons (.while_ nW lR) (.cons (.assign 6 (.joinL (.lit (.str ("" : Str))) (.var 6))) (.cons (.ife (.cmp .Eq (.var 4) (.var 5)) (.cons (.expr (.app (.var 3) (.lit (.str (".*" : Str))))) (.cons (.expr (.app (.var 3) (.var 6))) .nil)) (.cons (.expr (.app (.var 3) (.fstr ("(?>.*?" : Str) (.var 6) (")" : Str)))) .nil)) .nil))))))))
noncomputable def lS:OE:=(.bool true (.cmp .Lt (.var 4) (.var 5)) (.cmp .IsNot (.idx (.var 0) (.var 4)) (.var 1)))
noncomputable def nV:kC:=(.cons (.expr (.app (.var 3) (.idx (.var 0) (.var 4)))) (.cons (.aug 4 .Add (.lit (.int 1))) .nil))
noncomputable def B6:OF:=⟨7,2,[],(.cons (.assign 2 .nil) (.cons (.assign 3 (.addm (.var 2))) (.cons (.assign2 4 5 (.lit (.int 0)) (.len (.var 0))) (.cons (.while_ lS nV) (.cons (.while_ E4 rJ) (.cons (.asrt (.cmp .Eq (.var 4) (.var 5))) (.cons (.assign 2 (.joinL (.lit (.str ("" : Str))) (.var 2))) (.cons (.ret (.fstr ("(?s:" : Str) (.var 2) (")\\Z" : Str))) .nil))))))))⟩
noncomputable def VN:List Str:=["inp", "STAR", "res", "add", "i", "n", "fixed"]
noncomputable def J4:OF:=⟨3,1,[],(.cons (.assign 1 (.ext 7)) (.cons (.assign 2 (.call 12 (.cons (.var 0) (.cons (.var 1) (.cons (.lit (.str ("." : Str))) .nil))))) (.cons (.ret (.call 13 (.cons (.var 2) (.cons (.var 1) .nil)))) .nil)))⟩
noncomputable def VM:List Str:=["pat", "STAR", "parts"]
noncomputable def VQ:OF:=⟨4,3,[.bool false,.bool true],(.cons (.ife (.cmp .Is (.var 0) (.lit .none)) (.cons .stuck .nil) .nil) (.cons (.assign 3 (.ext 1)) (.cons (.setA 0 (.var 3) ("whitespace_split" : Str) (.lit (.bool true))) (.cons (.ife (.nt (.var 1)) (.cons (.setA 0 (.var 3) ("commenters" : Str) (.lit (.str ("" : Str)))) .nil) .nil) (.cons (.ret (.ext 2)) .nil)))))⟩
noncomputable def VL:List Str:=["s", "comments", "posix", "lex"]
noncomputable def s9:List (Nat×List Str×OF):=[(0,YU,YZ),(1,YT,I1),(2,YS,YY),(3,YR,YX),(4,YQ,YW),(6,YO,R5),(7,YN,I0),(8,YM,YV),(11,VP,VR),(12,VO,J5),(13,VN,B6),(14,VM,J4),(15,VL,VQ)]
noncomputable def DW(f:Nat):Option OF:=(s9.find? (·.1==f)).map (·.2.2)
noncomputable def fT(c:Nat):Bool:=(97≤c&&c≤122)||(65≤c&&c≤90)||(48≤c&&c≤57)||c==95||c==64||c==37||c==43||c==61||c==58||c==44||c==46||c==47||c==45
noncomputable def i4(c:Nat):Bool:=[97,39,91,32,34,42,92,93,63,35,45,98,33].contains c||decide (256≤c)
noncomputable def kK(c:Nat):Bool:=[40,41,91,93,123,125,63,42,43,45,124,94,36,92,46,38,126,35,32,9,10,13,11,12].contains c
section
variable{α β:Type}{G:Prop}{d:β}
noncomputable def kI(l:List α)(f:α→List α→Option β):Option β:=match l with | []=>none | a::r=>f a r
noncomputable def pE(l:List α)(x:Option β):Option β:=match l with | []=>x | _::_=>none
theorem mN{l:List α}{f:α→List α→Option β}(h:kI l f=some d)(k:∀ a r,l=a::r→f a r=some d→G):G:=by
 cases l with
 | nil=>cases h
 | cons a r=>exact k a r rfl h
theorem nO{l:List α}{x:Option β}(h:pE l x=some d)(k:l=[]→x=some d→G):G:=by
 cases l with
 | nil=>exact k rfl h
 | cons a r=>cases h
noncomputable def F8(ρ:LO)(x:Nat)(f:OV→Option β):Option β:=((ρ[x]?).join).bind f
noncomputable def TG(v:OV)(f:Nat→Option β):Option β:=(nG v).bind fun x=>kI x.cps.toList fun c r=>pE r (f c)
theorem RW{v:OV}{f:Nat→Option β}(h:TG v f=some d)(k:∀ c,v = .d (.str ⟨#[c]⟩)→f c=some d→G):G :=
 aS h fun x hx h=>j7 hx fun y ev hy=>f7 hy fun z ey ez=>mN h fun c r hc h=>nO h fun hr h=>k c (by
  cases ez
  have e:x=⟨#[c]⟩:=congrArg Str.mk (Array.toList_inj.mp (hc.trans (congrArg (c :: ·) hr)))
  rw[ev,ey,e]) h
end
noncomputable def vO:OE:=.mcall 0 (.var 0) ("get_token" : Str) 7 .nil
noncomputable def IZ:OE:=.cmp .Eq (.var 1) (.attr 0 (.var 0) ("eof" : Str))
noncomputable def sJ(cl:iZ)(l:OV)(st:St):Option (Option OV×St) :=
 (cQ cl (fun _ _ _=>none) vO [some l,none] st).bind fun r=>(jK cl (fun _ _ _=>none) IZ [some l,some r.1] r.2).map fun t=>(if t.1 then none else some r.1,t.2)
noncomputable def lJ(cl:iZ):Nat→OV→Nat→St→Option (OV×St)
 | 0,_,_,_=>none
 | n+1,l,k,st=>(sJ cl l st).bind fun r=>r.1.elim (some (.o k,r.2)) fun x=>(mK r.2 k x).bind fun st'=>lJ cl n l k st'
noncomputable def d7(fuel:Nat)(cl:iZ)(j:Nat)(ρ:LO)(st:St):Option (OV×St):=([
 some (.o st.length,st++[.deq]),
 F8 ρ 0 fun s=>F8 ρ 2 fun p=>cl 18 [s,p] st,
 F8 ρ 3 fun l=>lJ cl fuel l st.length (st++[.list []]),
 none,
 none,
 F8 ρ 9 fun s=>TG s fun c=>if c==42||c==63||c==91 then some (.d (.str ⟨#[c]⟩),st)else none,
 F8 ρ 0 fun s=>TG s fun c=>some (.d (.str (if kK c then⟨#[92,c]⟩else⟨#[c]⟩)),st),
 some (.o st.length,st++[.plain])]:List (Option (OV×St)))[j]?.join
noncomputable def newO(cl:iZ)(c i:Nat)(xs:List OV)(st:St):Option (OV×St):=(cl i (.o st.length::xs) (st++[.inst c,.dict []])).bind fun r=>qY r.1 fun d=>if d.ctorIdx=0 then some (.o st.length,r.2)else none
noncomputable def IW(fuel:Nat)(cl:iZ)(f:Nat)(args:List OV)(st:St):Option (OV×St) :=
 if f=9 then kI args fun x r=>pE r ((nG x).bind fun _=>newO cl 1 3 [x] st)
 else if f=18 then kI args fun x r=>kI r fun p r=>pE r (newO cl 0 19 [x,p] st)
 else if f=19 then kI args fun l r=>kI r fun x r=>kI r fun p r=>pE r (eY (bG cl (d7 fuel cl) fuel eA.body [some l,some x,some (.d .none),some p,some (.d (.bool false)),none] st))
 else none
noncomputable def aJ(fuel:Nat):Nat→iZ:=qW DW (IW fuel) (d7 fuel) fuel
end Kt.Internal
end
section
open PySem PySem.W PyProof.Rows PySem.Calls
namespace Kt.Internal
set_option genCtorIdx false in
inductive XO where
 | glob (n:Str)| meth (c m:Str)| prop (c m:Str)
theorem YF{v:Value}{a:Addr}(h:fS v=some a):v = .ref a:=by
 by_cases c:v.ctorIdx=10
 ·exact Value.ref.elim (motive:=fun v=>fS v=some a→v = .ref a) v c (fun b h=>congrArg Value.ref (Option.some.inj h)) h
 ·rw[fS,dif_neg c]at h; cases h
noncomputable def Cq(K:Frag)(r:XO):Option Addr:=match r with
 | .glob n=>(eZ K n).bind fS
 | .meth c m=>((eZ K c).bind fS).bind fun C=>(findIn K (.ref C) m).bind fun v=>v.bind fS
 | .prop c m=>((eZ K c).bind fS).bind fun C=>(findIn K (.ref C) m).bind fun p=>(p.bind fS).bind fun a=>(recIn K a "property").bind fun vs=>vs.head?.bind fS
noncomputable def ZK:List (Option XO):=[some (.glob "_index"),some (.meth "StringIO" "read"),some (.meth "StringIO" "_StringIO__check"),some (.meth "StringIO" "__init__"),some (.meth "StringIO" "_StringIO__translated"),none,
 some (.meth "shlex" "read_token"),some (.meth "shlex" "get_token"),some (.prop "shlex" "punctuation_chars"),some (.glob "StringIO"),none,some (.glob "escape"),some (.glob "_translate"),
 some (.glob "_join_translated_parts"),some (.glob "translate"),some (.glob "split"),none,none,some (.glob "shlex"),some (.meth "shlex" "__init__")]
noncomputable def mH(K:Frag)(f:Nat):Option Addr:=(ZK[f]?.join).bind (Cq K)
noncomputable def qF(K:Frag)(c:Nat):Option Addr:=(["shlex", "StringIO"]:List Str)[c]?.bind fun n=>(eZ K n).bind fS
noncomputable def nJ(e:Value)(f:Int→Tok→Bool):Bool:=if h:e.ctorIdx=4 then Value.int.elim e h f else false
theorem B2{e:Value}{f:Int→Tok→Bool}{m:Value→Prop}(h:nJ e f=true)(k:∀ a b,f a b=true→m (.int a b)):m e:=by
 by_cases c:e.ctorIdx=4
 ·exact Value.int.elim (motive:=fun e=>nJ e f=true→m e) e c k h
 ·rw[nJ,dif_neg c]at h; cases h
noncomputable def XC(v:Value)(d:PyData):Bool:=match d with
 | .none=>v == .none
 | .bool b=>v == .bool b
 | .int i=>nJ v fun j _=>j==i
 | .str x=>sG v fun y _=>y==x&&bK (.str x)
 | _=>false
theorem QM{v:Value}{d:PyData}(h:XC v d=true):qG v d:=by
 cases d with
 | none=>exact eq_of_beq h▸⟨.none,rfl⟩
 | bool b=>exact eq_of_beq h▸⟨.bool b,rfl⟩
 | int i=>exact B2 (m:=fun v=>qG v (.int i)) h fun j t h=>eq_of_beq h▸⟨.int j t,rfl⟩
 | str x=>exact B1 (m:=fun v=>qG v (.str x)) h fun y t h=>b9 (m:=fun y=>qG (.str y t) (.str x)) (aA h).1 ⟨.str x t,(aA h).2⟩
 | _=>cases h
noncomputable def I5:List PyData→List Value→Bool
 | [],vs=>vs.isEmpty
 | d::ds,vs=>jJ vs fun v r=>XC v d&&I5 ds r
theorem AK:∀{ds:List PyData}{vs:List Value},I5 ds vs=true→hW [] vs (ds.map .d)
 | [],_,h=>d9 (m:=fun vs=>hW [] vs []) h .nil
 | _::_,_,h=>cZ (m:=fun vs=>hW [] vs _) h fun _ _ h=>.cons (QM (aA h).1) (AK (aA h).2)
noncomputable def DU(e:Data)(f:Array Value→Bool):Bool:=if h:e.ctorIdx=2 then Data.seq.elim e h fun a _=>f a else false
theorem VI{e:Data}{f:Array Value→Bool}(h:DU e f=true):∃ a n,e = .seq a n∧f a=true:=by
 by_cases c:e.ctorIdx=2
 ·exact Data.seq.elim (motive:=fun e=>DU e f=true→∃ a n,e = .seq a n∧f a=true) e c (fun a n h=>⟨a,n,rfl,h⟩) h
 ·rw[DU,dif_neg c]at h; cases h
noncomputable def Ai(d:Data):List Value:=if h:d.ctorIdx=2 then Data.seq.elim d h fun a _=>a.toList else []
noncomputable def nL(K:Frag)(fd:FuncData):List Value:=(((fS fd.defaults).bind fun T=>K.lookup T).map fun o=>Ai o.data).getD []
noncomputable def sT:Nat→(List Value→Prop)→Prop
 | 0,P=>P []
 | k+1,P=>P []∧∀ v,sT k fun l=>P (v::l)
theorem GH{l:List Value}:∀{k:Nat}{P:List Value→Prop},sT k P→l.length≤k→P l:=by
 induction l with
 | nil=>exact fun{k P}h _=>by cases k with | zero=>exact h | succ k=>exact h.1
 | cons v l ih=>exact fun{k P}h e=>by cases k with | zero=>exact absurd e (Nat.not_succ_le_zero _)| succ k=>exact ih (P:=fun l=>P (v::l)) (h.2 v) (Nat.le_of_succ_le_succ e)
def gP(K:Frag)(a:Addr)(nm:List Str)(pf:OF):Prop:=fZ (F5 K a) fun fd=>sT pf.arity fun vals=>if pf.arity≤vals.length+(nL K fd).length then
 ∀ S,peek K S (vW fd ⟨vals,[]⟩)=some ((nm.take pf.arity).zip (vals++(nL K fd).drop ((nL K fd).length+vals.length - pf.arity)))else True
noncomputable def qZ(K:Frag):Value:=(((eZ K "_translate").bind fS).bind fun a=>(K.lookup a).bind fun o=>match o.data with | .func fd=>some fd.code | _=>none).getD .none
noncomputable def MP(K:Frag)(nm:List Str)(pf:OF)(fd:FuncData):Bool :=
 ([nm.length != 14||fd.code==qZ K,fd.closure.isEmpty,fd.scope.kind == .function,!fd.scope.isCoroutine,!fd.scope.isGenerator,fd.globals==mainGlobals,fd.builtins==builtinsNs,jF K fd.qualname fd.code,
  I5 pf.dflt (nL K fd),
  decide (pf.arity≤nm.length),decide nm.Nodup,fd.scope.names.all fun p=>p.2 != .cell&&p.2 != .free,(nm.take pf.arity).all fun n=>fd.scope.names.lookup n==some .local]:List Bool).all id
noncomputable def fB(K:Frag)(P:Scope→List Stmt→Bool)(a:Addr)(nm:List Str)(pf:OF):Bool:=ZY K a fun o=>pL o.data fun fd=>MP K nm pf fd&&lO fd.body fun body=>P fd.scope body
theorem dS{Z:aF}{K:Frag}{P:Scope→List Stmt→Bool}{a:Addr}{nm:List Str}{pf:OF}(hlam:Z.lam=qZ K)(hK:∀ h,Z.TabI h→K.In h)(X:K.In Z.h₀)(hb:gP K a nm pf)(h:fB K P a nm pf=true) :
  ∃ fd body,fV Z a fd body nm pf∧P fd.scope body=true:=TL h fun o ho hc h=>by
 obtain⟨fd,hd,h⟩:=EZ h
 obtain⟨body,hbd,hP⟩:=AC (aA h).2
 obtain⟨fd',ef,hb⟩:=nI hb
 cases(KG ho hd).symm.trans ef
 have h:=(aA h).1
 exact⟨fd,body,{
  lam:=fun hn=>hlam▸(Bool.or_eq_true_iff.mp (aL h 0 rfl)).elim (fun h=>absurd hn (bne_iff_ne.mp h)) eq_of_beq
  obj:=⟨o,X _ _ ho,hc,hd⟩
  body:=hbd
  clo:=List.isEmpty_iff.mp (aL h 1 rfl)
  kind:=eq_of_beq (aL h 2 rfl)
  co:=bO (aL h 3 rfl)
  gen:=bO (aL h 4 rfl)
  glob:=eq_of_beq (aL h 5 rfl)
  blt:=eq_of_beq (aL h 6 rfl)
  code:=xU X (aL h 7 rfl)
  bind:=⟨_,AK (aL h 8 rfl),fun s vals ht h1 h2=>kp_binds (hK _ ht) fun S=>by rw[t6]; exact Eq.mp (if_pos h2) (GH hb h1) S⟩
  len:=of_decide_eq_true (aL h 9 rfl)
  nd:=of_decide_eq_true (aL h 10 rfl)
  nocell:=fun p hp=>let⟨h1,h2⟩:=aA (List.all_eq_true.mp (aL h 11 rfl) p hp); ⟨bne_iff_ne.mp h1,bne_iff_ne.mp h2⟩
  params:=fun n hn=>eq_of_beq (List.all_eq_true.mp (aL h 12 rfl) n hn) },hP⟩
noncomputable def wJ(K:Frag)(xc:List Str→Nat→Scope→Expr→Bool)(p:Nat×List Str×OF):Bool:=(H0 p.1).isEmpty&&iB (mH K p.1) fun a=>fB K (fun sc body=>e9 K (qF K) (mH K) (xc p.2.1) p.2.1 sc p.2.2.body body) a p.2.1 p.2.2
theorem J6{Z:aF}{K:Frag}{xc:List Str→Nat→Scope→Expr→Bool}(hlam:Z.lam=qZ K)(hK:∀ h,Z.TabI h→K.In h)(X:K.In Z.h₀)(hb:mU s9 fun p=>fZ (mH K p.1) fun a=>gP K a p.2.1 p.2.2)(h:s9.all (wJ K xc)=true):KZ Z K (qF K) (mH K) xc DW:=fun f pf a ht hf=>bY ht fun q hq e=>by
 subst e
 obtain⟨h1,h2⟩:=aA (List.all_eq_true.mp h _ (List.mem_of_find?_eq_some hq))
 have hq:q.1=f:=eq_of_beq (List.find?_some (p:=fun x:Nat×List Str×OF=>x.1==f) hq)
 subst hq
 obtain⟨a',ha,h2⟩:=eW h2
 cases hf.symm.trans ha
 obtain⟨_,ea,hb⟩:=nI (t8 (P:=fun p:Nat×List Str×OF=>fZ (mH K p.1) fun a=>gP K a p.2.1 p.2.2) hb (List.mem_of_find?_eq_some hq))
 cases ha.symm.trans ea
 obtain⟨fd,body,F,hc⟩:=dS hlam hK X hb h2
 exact⟨List.isEmpty_iff.mp h1,fd,body,_,F,hc⟩
noncomputable def j8(nm:List Str)(sc:Scope)(x:Nat)(e:Expr):Bool:=aX e fun n _=>nm[x]? == some n&&(sc.names.lookup n==some .local&&n != ("__debug__" : Str))
theorem V5{nm:List Str}{sc:Scope}{x:Nat}{e:Expr}{m:Expr→Prop}(h:j8 nm sc x e=true)(k:∀ n p,nm[x]? = some n→sc.names.lookup n=some .local→n≠("__debug__" : Str)→m (.Name n p)):m e:=aN h fun n p h=>k n p (eq_of_beq (aA h).1) (eq_of_beq (aA (aA h).2).1) (bne_iff_ne.mp (aA (aA h).2).2)
noncomputable def V6(t:Str)(e:Expr):Bool:=bL e fun c _ _=>c == .str t
noncomputable def PW(sc:Scope):Bool:=gK sc.names fun p=>p.2 == .local
noncomputable def Aj(k:Keyword)(f:Str→Expr→Bool):Bool:=iB k.arg fun n=>f n k.value
noncomputable def oD(e:Expr)(f:Arguments→Expr→Scope→Pos→Bool):Bool:=if h:e.ctorIdx=4 then Expr.Lambda.elim e h f else false
theorem G8{e:Expr}{f:Arguments→Expr→Scope→Pos→Bool}{m:Expr→Prop}(h:oD e f=true)(k:∀ a b c d,f a b c d=true→m (.Lambda a b c d)):m e:=by
 by_cases c:e.ctorIdx=4
 ·exact Expr.Lambda.elim (motive_1:=fun e=>oD e f=true→m e) e c k h
 ·rw[oD,dif_neg c]at h; cases h
noncomputable def ZZ(sc:Scope)(e:Expr)(n:Str)(f:List Expr→Bool):Bool:=IB e fun m as=>m==n&&(aR sc n&&f as)
noncomputable def WY(lp:Nat×Nat)(nm:List Str)(j:Nat)(sc:Scope)(e:Expr):Bool:=iB (([
 fun _=>ZZ sc e "deque" fun as=>as.isEmpty,
 fun _=>dY e fun fe as ks _=>aX fe fun n _=>n==("shlex" : Str)&&(aR sc "shlex" && gK as fun x=>j8 nm sc 0 x&&gK ks fun k=>Aj k fun n y=>n==("posix" : Str)&&j8 nm sc 2 y),
 fun _=>ZZ sc e "list" fun as=>gK as fun x=>j8 nm sc 3 x,
 fun _=>false,
 fun _=>false,
 fun _=>m3 e "sub" fun x as=>nm.length==14&&(aX x fun n _=>n==("twin_re_1_fnmatch" : Str)&&(aR sc "twin_re_1_fnmatch" && jJ as fun l r=>(gK r fun y=>j8 nm sc 9 y)&&oD l fun a _ lsc q=>a.defaults.isEmpty&&(a.kw_defaults.isEmpty&&(q.line==lp.1&&(q.col==lp.2&&PW lsc))))),
 fun _=>m3 e "translate" fun x as=>j8 nm sc 0 x&&gK as fun y=>aX y fun n _=>n==("_special_chars_map" : Str)&&aR sc "_special_chars_map",
 fun _=>ZZ sc e "object" fun as=>as.isEmpty]:List (Unit→Bool))[j]?) fun f=>f ()
end Kt.Internal
end
section
open PySem PySem.W PyProof.Rows PySem.Calls Builtin
namespace Kt.Internal
noncomputable abbrev cU:Obj:={ cls:=.type "object",data:=.plain }
noncomputable abbrev cB:Obj:={ cls:=.type "collections.deque",data:=.fields #[.none,.int 0 0] }
def JJ(T:String)(o:Obj):Prop:=∀{prog:Program}{w:World}{A:Around}{s:Shared}{Q:Value→Shared→Prop}{E:Value→Shared→Prop},A.handled=none →
 (∀ h',(∀ b o,s.heap.get? b=some o→h'.get? b=some o)→h'.get? s.heap.objs.size=some o→Q (.ref s.heap.objs.size) { s with heap:=h' })→wpAny (model prog w) A (call (.type T) []) Q E s
theorem BD:JJ "object" cU:=fun{prog w A s Q E}hh h=>by
 have L:(s.heap.push cU).get? s.heap.objs.size=some cU:=Heap.get?_push_size _ rfl
 refine wpAny_call (I7 (K:=[]) (R:=wants Q E) 9 [(0,cU),(0,cU),(0,cU)]
  (qb "type.__call__" [.type "object"]∧qb "object.__new__" [.type "object"]∧(s.heap.push cU).get? s.heap.objs.size=some cU∧(s.heap.push cU).get? s.heap.objs.size=some cU∧(s.heap.push cU).get? s.heap.objs.size=some cU∧qb "object.__init__" [.ref s.heap.objs.size]∧Q (.ref s.heap.objs.size) { s with heap:=s.heap.push cU }) hh ?_ ?_ ?_)
 ·exact fun _ _ h=>nomatch h
 ·kernel_rfl
 ·exact⟨Code.quiet_builtin _ (by decide +kernel),Code.quiet_builtin _ (by decide +kernel),L,L,L,Code.quiet_builtin _ (by decide +kernel),h _ (fun b o e=>Heap.get?_push_of_some _ e) L⟩
theorem DM:JJ "collections.deque" cB:=fun{prog w A s Q E}hh h=>by
 have L:(s.heap.push cB).get? s.heap.objs.size=some cB:=Heap.get?_push_size _ rfl
 have L2:((s.heap.push cB).update s.heap.objs.size (Obj.mapFields fun x=>x.setIfInBounds 0 .none)).get? s.heap.objs.size=some cB:=Heap.get?_update_self _ L rfl
 refine wpAny_call (I7 (K:=[]) (R:=wants Q E) 9 [(0,cB),(0,cB),(0,cB),(0,cB),(0,cB)]
  (qb "type.__call__" [.type "collections.deque"]∧qb "collections.deque.__new__" [.type "collections.deque"]∧(s.heap.push cB).get? s.heap.objs.size=some cB∧(s.heap.push cB).get? s.heap.objs.size=some cB∧(s.heap.push cB).get? s.heap.objs.size=some cB∧qb "collections.deque.__init__" [.ref s.heap.objs.size] ∧
   (s.heap.push cB).get? s.heap.objs.size=some cB∧(((s.heap.push cB).get? s.heap.objs.size).isSome=true∧Frag.In [] ((s.heap.push cB).update s.heap.objs.size (Obj.mapFields fun x=>x.setIfInBounds 0 .none))) ∧
   ((s.heap.push cB).update s.heap.objs.size (Obj.mapFields fun x=>x.setIfInBounds 0 .none)).get? s.heap.objs.size=some cB∧Q (.ref s.heap.objs.size) { s with heap:=(s.heap.push cB).update s.heap.objs.size (Obj.mapFields fun x=>x.setIfInBounds 0 .none) }) hh ?_ ?_ ?_)
 ·exact fun _ _ h=>nomatch h
 ·kernel_rfl
 ·exact⟨Code.quiet_builtin _ (by decide +kernel),Code.quiet_builtin _ (by decide +kernel),L,L,L,Code.quiet_builtin _ (by decide +kernel),L,⟨by rw[L]; rfl,fun _ _ h=>nomatch h⟩,L2,
   h _ (fun b o e=>(Heap.get?_update_other _ _ fun e'=>by rw[← e',get?_ge (Nat.le_refl _)]at e; cases e).trans (Heap.get?_push_of_some _ e)) L2⟩
section
variable{D:OD}{sc:Scope}{K:Frag}{fA:Nat→Option Addr}{fuel:Nat}
def OD.Ex(D:OD)(fuel:Nat):Prop:=D.ex=d7 fuel D.cl
theorem EV{j:Nat}{n:Str}{p pos:Pos}{T:String}{f:FO}{o:Obj}(hT:JJ T o)(hX:D.Ex fuel)(hex:∀ ρ st,d7 fuel D.cl j ρ st=some (.o st.length,st++[f]))(hf:∀{μ h k a},h.get? a=some o→F7 D.cA μ h k a f)
  (hn:∀{A:Around}{env:Env}{ρ:LO}{μ:List Addr}{st:St}{s:Shared}{Q:Value→Shared→Prop}{E:Value→Shared→Prop},Oc D sc A env ρ μ st s→Q (.type T) s→wpAny (model D.Z.prog D.Z.w) A (eval (.Name n p) env) Q E s) :
  cM D sc (.Call (.Name n p) [] [] pos) (.ext j):=fun{A env ρ μ st s v st' Q E}C he g=>by
 cases((congrFun (congrFun (congrFun hX j) ρ) st).trans (hex ρ st)).symm.trans he
 rw[bU]
 refine wpAny_bind (hn C (aT nofun rfl (evalArgs_nil3 (hT C.ha.handled fun h' hk ho=>?_))))
 exact g _ _ _ (C.at.more (tk:=s.toks) (get?_ge (Nat.le_refl _)) C.he.size (C.hi.frLt (Nat.le_refl _)) id hk (hf ho)) ⟨_,by rw[← C.so.len]; exact List.getElem?_concat_length,rfl⟩
theorem Ax{p pos:Pos}(hX:D.Ex fuel)(hB:gO D.Z)(hg:aR sc "object" = true):cM D sc (.Call (.Name "object" p) [] [] pos) (.ext 7) :=
 EV (f:=.plain) BD hX (fun _ _=>rfl) (fun h=>⟨_,h,by show Value.type "object" ≠ _; decide⟩) fun C h=>C.blt hB hg (by decide) h
theorem Bc{p pos:Pos}(hX:D.Ex fuel)(hg:aR sc "deque" = true)(hv:D.Z.mg "deque" = some (.type "collections.deque")):cM D sc (.Call (.Name "deque" p) [] [] pos) (.ext 0) :=
 EV (f:=.deq) DM hX (fun _ _=>rfl) (fun h=>⟨_,h,rfl,rfl,_,_,rfl⟩) fun C h=>C.glob hg hv h
theorem sS{x:Nat}{e:Expr}(h:j8 D.nm sc x e=true):cM D sc e (.var x)∧aC e=false∧cF e=false:=V5 (m:=fun e=>cM D sc e (.var x)∧aC e=false∧cF e=false) h fun n p h1 h2 h3=>⟨yG h1 h2 h3,rfl,rfl⟩
theorem sX{cl:iZ}{ex:Nat→LO→St→Option (OV×St)}{ρ:LO}{x:Nat}{v:OV}{st:St}(h:(ρ[x]?).join=some v):cQ cl ex (.var x) ρ st=some (v,st):=congrArg (Option.map _) h
theorem H7{α:Type}{d:α}{G:Prop}{ρ:LO}{x:Nat}{f:OV→Option α}(h:F8 ρ x f=some d)(k:∀ v,(ρ[x]?).join=some v→f v=some d→G):G:=aS h k
theorem Bb{p pos kp:Pos}{x y:Expr}{a:Addr}(hX:D.Ex fuel)(hK:∀ h,D.Z.TabI h→K.In h)(hC:bW D.Z D.cA D.cl D.lvl fA)(hf:fA 18=some a)(hg:aR sc "shlex" = true)(hv:D.Z.mg "shlex" = some (.ref a))(hk:keepIn K (.ref a)=true)
  (hx:j8 D.nm sc 0 x=true) (hy:j8 D.nm sc 2 y=true):cM D sc (.Call (.Name "shlex" p) [x] [⟨some "posix",y,kp⟩] pos) (.ext 1):=fun{A env ρ μ st s v st' Q E}C he g =>
 H7 ((congrFun (congrFun (congrFun hX 1) ρ) st).symm.trans he) fun xs h1 he=>H7 he fun ps h2 he=>by
 obtain⟨ox,stx,_⟩:=sS hx
 obtain⟨oy,sty,_⟩:=sS hy
 show wpAny _ _ (eval (.Name "shlex" p) env >>= fun f=>callWith pos f [] (backTo pos (starEach [x] env)) (backToKw pos (keywordEach [⟨some "posix",y,kp⟩] env))) _ _ _
 refine wpAny_bind (C.glob hg hv (callWith_of (P:=K.In) (by rw[(aY stx).1 env pos]; rfl) (keeps_K hk) (evalArgs_kw2 rfl (bX stx ox dB C (u5 (sX h1)) fun vs s₁ μ₁ a₁ hvs=>kwAll_cons (oy (C.go a₁) (sX h2) fun w s₂ μ₂ a₂ hw=>kwAll_nil ⟨hK _ a₂.i.tab,?_⟩)) (bI stx [] env))))
 exact qV (m:=fun vs=>wpAny _ A (call (.ref a) ([]++vs) _) Q E s₂) hvs fun u hu=>wpAny_call (hC hf he (C.ha.mono (Nat.le_add_right _ _)) a₂.i (C.he.step (a₁.trans a₂).t).size a₂.so (.cons (hu.pre a₂.t.pre) (.cons hw .nil)) (g.after (a₁.trans a₂)))
end
noncomputable def gL:List Str:=["self", "token"]
noncomputable def sH:OF:=⟨2,1,[],.nil⟩
noncomputable def S6:Nat→Scope→Expr→Bool:=fun _ _ _=>false
noncomputable def E9(K:Frag)(cA fA:Nat→Option Addr)(sc:Scope)(value:Expr)(test:Expr):List Bool:=[aR sc "StopIteration",sc.names.lookup ("token" : Str)==some .local,!gQ value,bC K cA fA S6 gL sc vO value,bC K cA fA S6 gL sc IZ test]
noncomputable def k7(K:Frag)(cA fA:Nat→Option Addr)(sc:Scope)(body:List Stmt):Bool :=
 jJ body fun z8 r9=>jJ r9 fun z10 r11=>gK r11 fun z12=>cP z8 fun z13 value p2=>gK z13 fun z14=>aX z14 fun z15 p1=>z15==("token" : Str)&&(pJ z10 fun test z16 z17 p5=>gK z16 fun z18=>l3 z18 fun z19 z20 p4=>iB z19 fun z21=>aX z21 fun z22 p3=>z22==("StopIteration" : Str)&&(z20.isNone&&(z17.isEmpty&&(eN z12 fun z23 p7=>iB z23 fun z24=>aX z24 fun z25 p6=>z25==("token" : Str)&&((E9 K cA fA sc value test).all id)))))
theorem HD{K:Frag}{cA fA:Nat→Option Addr}{sc:Scope}{body:List Stmt}{m:List Stmt→Prop}(h:k7 K cA fA sc body=true)(k:∀(p1:Pos)(value:Expr)(p2:Pos)(test:Expr)(p3 p4 p5 p6 p7:Pos),(E9 K cA fA sc value test).all id=true →
  m [(.Assign [(.Name ("token" : Str) p1)] value p2),(.If test [(.Raise (some (.Name ("StopIteration" : Str) p3)) none p4)] [] p5),(.Return (some (.Name ("token" : Str) p6)) p7)]):m body:=by
 apply cZ h; intro z8 r9 h; apply cZ h; intro z10 r11 h; apply cJ h; intro z12 h; apply dL h; intro z13 value p2 h; apply cJ h; intro z14 h; apply aN h; intro z15 p1 h; refine aB h fun z h=>?_; apply b9 z; apply yI h; intro test z16 z17 p5 h; apply cJ h; intro z18 h; apply DH h; intro z19 z20 p4 h; apply qX h; intro z21 h; apply aN h; intro z22 p3 h; refine aB h fun z h=>?_; apply b9 z; refine aB h fun z h=>?_; apply nK z; refine aB h fun z h=>?_; apply d9 z; apply iG h; intro z23 p7 h; apply qX h; intro z24 h; apply aN h; intro z25 p6 h; refine aB h fun z h=>?_; apply b9 z; exact k _ _ _ _ _ _ _ _ _ h
noncomputable abbrev ND(Z:aF)(cA:Nat→Option Addr)(cl:iZ)(lvl:Nat)(nm:List Str):OD:=⟨Z,cA,cl,fun _ _ _=>none,lvl,nm⟩
section
variable{Z:aF}{cA fA:Nat→Option Addr}{cl:iZ}{lvl:Nat}{K:Frag}{μ μ':List Addr}{h h':Heap}{S:Addr}{l v:OV}{st st':St}{A:Around}{s:Shared}{x:Addr}
theorem HC{a:Addr}{fd:FuncData}{body:List Stmt}(X:∀ fr,NV ((ND Z cA cl lvl gL).at fr) K fA S6)(F:fV Z a fd body gL sH)(hck:k7 K cA fA fd.scope body=true){r:Option OV}(hd:sJ cl l st=some (r,st'))
  {w:Value} {Q E:Value→Shared→Prop} (hA:f6 Z (8*(lvl+1)) A) (hI:bA Z s) (hsz:Z.n≤s.heap.objs.size) (S:mI Z cA μ st s.heap) (hw:VE μ w l)
  (hQ:∀ v,r=some v→hZ Z cA μ s.heap st' v Q) (hE:r=none→∀ s' μ' e,dG Z cA j5 μ s.heap μ' st' s'→s'.TypeIs (.ref e) "StopIteration" → E (.ref e) s'):wpAny (model Z.prog Z.w) A (call (.ref a) [w]) Q E s :=
 bF hd fun tk st1 h1 hd=>bY hd fun bs h2 e=>by
 obtain⟨b,st2⟩:=bs
 cases e
 obtain⟨all,hb,hall,hval⟩:=fV.binds (D:=ND Z cA cl lvl gL) (pf:=sH) (ρ:=[some l,none]) F hI (vs:=[w]) (args:=[l]) (.cons hw .nil) rfl
 refine wpAny_call (B5 (D:=ND Z cA cl lvl gL) F hb hall hval hA hI hsz S fun env s₁ hfm C out _=>?_)
 have XX:=X (env.locals::Z.fr)
 have hnd:gL.Nodup:=F.nd
 apply HD hck; intro p1 value p2 test p3 p4 p5 p6 p7 hz
 have c5:=eq_of_beq (aL hz 1 rfl)
 refine wpAny_execs_cons (uG (fuel:=0) (x:=1) (n := "token") (p:=vO) hnd rfl c5 (bO (aL hz 2 rfl)) (aG XX vO (aL hz 3 rfl)).1 C (congrArg (Option.map _) h1) fun fl s₂ μ₂ a₂ g=>?_)
 obtain⟨rfl,e₂⟩:=g
 have C₂:=C.to a₂ e₂
 refine wpAny_execs_cons (wpAny_If ((aG XX IZ (aL hz 4 rfl)).2 C₂ h2 fun s₃ μ₃ a₃=>?_))
 have C₃:=C₂.go a₃
 have a₂₃:=a₂.trans (C₂.inL a₃)
 cases b with
 | false =>
  refine wpAny_execs_nil (wpAny_execs_cons (EU (D:=(ND Z cA cl lvl gL).at (env.locals::Z.fr)) (fuel:=0) (yG (x:=1) (n := "token") rfl c5 (by decide)) C₃ (r:=(.ret tk,st2)) rfl fun fl s₄ μ₄ a₄ g=>?_))
  obtain⟨u,rfl,hu⟩:=g
  exact hQ tk rfl u s₄ μ₄ (out (a₂₃.trans a₄)) hu
 | true =>
  refine wpAny_execs_cons (owsi_raiseC C₃.ha.handled (C₃.blt XX.b (aL hz 0 rfl) (by decide) ⟨rfl,rfl⟩) fun h' e hm=>?_)
  obtain⟨fs,hf1,hf2⟩:=hA.frames
  have hfr:(A.deeper env).frames=some (env::fs):=by show A.frames.map _=_; rw[hf1]; rfl
  obtain⟨fs',hf3,hf4⟩:=C₃.ha.frames
  cases hfr.symm.trans hf3
  refine wpAny_leaves_madeW (base:=pC s₃.heap (env.locals::Z.fr)) (h:=s₃.heap) hfr hfm (uB _ _) (j0 C₃.hi hf4) hm.of fun h'' t x1 x2 x3 x4=>?_
  have g2:∀ b o,s₃.heap.get? b=some o→(∀ vs,o.data ≠ .fields vs)→∃ sl,h''.get? b=some { o with slots:=sl }:=fun b o e hn=>x4 b o (hm.keeps b o e) hn
  obtain⟨oe,vs,he,hc,_⟩:=x1.first
  exact hE rfl _ μ₃ e (out (a₂₃.trans (C₃.inL (C₃.at.kp (oS (tk:=s₃.toks) C₃.hi x1.1 g2) (qQ C₃.hi x1.1 g2))))) ⟨oe,he,hc⟩
theorem WB{L:Addr}{m:Str→Option Value}(K0:K.In Z.h₀)(X:K.In h)(hL:Z.n≤L)(hn:h.Ns L m):∃ h₀,Fr h₀ L h m∧K.In h₀:=by
 have hlt:L<h.objs.size:=hn.lt
 have key:∀ a,a<L→({ h with objs:=h.objs.extract 0 L }:Heap).get? a=h.get? a:=fun a ha=>by
  refine Option.ext fun o=>?_
  rw[Heap.get?_some_iff,Heap.get?_some_iff]
  show(h.objs.extract 0 L)[a]? = _∧_↔_
  rw[Array.getElem?_extract,if_pos (by rw[Nat.sub_zero,Nat.min_eq_left (Nat.le_of_lt hlt)]; exact ha),Nat.zero_add]
 have hsz:(h.objs.extract 0 L).size=L:=by rw[Array.size_extract,Nat.sub_zero,Nat.min_eq_left (Nat.le_of_lt hlt)]
 exact⟨{ h with objs:=h.objs.extract 0 L },⟨hn,fun b o e=>(key b (hsz▸Heap.lt_size e)).symm.trans e,Nat.le_of_eq hsz⟩,fun a o e=>(key a (Nat.lt_of_lt_of_le (Heap.lt_size (K0 a o e)) hL)).trans (X a o e)⟩
noncomputable def CD(K:Frag)(C fi fn:Addr):Bool:=findIn K (.ref C) "__iter__" == some (some (.ref fi))&&(isFn K (.ref fi)&&(findIn K (.ref C) "__next__" == some (some (.ref fn))&&(isFn K (.ref fn) &&
 (findIn K (.ref C) "__len__" == some none&&findIn K (.ref C) "__length_hint__" == some none))))
theorem wK{r:Option OV×St}(hd:sJ cl l st=some r):∃ k es,j9 0 st l=some (k,es):=aS hd fun p h1 _=>bF h1 fun l' st' h2 h3=>kG h2 fun h4 e=>by
 cases(show some l=some l' from h4)
 subst e
 exact bF h3 fun k es h5 _=>⟨k,es,h5⟩
theorem mI.instAt{C k:Nat}{o:OV}{es:List (Str×OV)}{c:Nat}(Ss:mI Z cA μ st h)(e:j9 c st o=some (k,es))(hC:cA c=some C)(hx:VE μ (.ref x) o):∃ dx ox,InstAt h x (instObj C dx) C (some ox) :=
 Ss.instK hC e hx fun y dx ents n sl ew _ II _=>by cases ew; exact⟨dx,_,II⟩
variable{D:OD}{sc:Scope}{env:Env}{ρ:LO}{A':Around}
theorem Oc.cut(C:Oc D sc A env ρ μ st s)(K0:K.In D.Z.h₀)(hK:∀ h,D.Z.TabI h→K.In h):∃ h₀ m,Fr h₀ env.locals s.heap m∧K.In h₀:=let⟨m,hm,_⟩:=C.he.ns; let⟨h₀,a,b⟩:=WB K0 (hK _ C.hi.tab) C.he.new hm; ⟨h₀,m,a,b⟩
theorem K7{C' fi fn k:Addr}{fd:FuncData}{body:List Stmt}(X:∀ fr,NV ((ND D.Z D.cA D.cl lvl gL).at fr) K fA S6)(FN:fV D.Z fn fd body gL sH)(hck:k7 K D.cA fA fd.scope body=true)(hC:D.cA 0=some C')(hit:CD K C' fi fn=true)
  (hA:f6 D.Z (8*(lvl+1)) A'.in1) {R:Result→Shared→Prop} (n:Nat):∀{st:St}{s:Shared}{μ:List Addr},lJ D.cl n l k st=some (v,st')→Oc D sc A env ρ μ st s→VE μ (.ref x) l→μ[k]? = some S →
   (∀ s' μ',v = .o k→dG D.Z D.cA j5 μ s.heap μ' st' s'→R (.ok (.ret .none)) s')→codeAny (model D.Z.prog D.Z.w) A' (.builtin "list.extend.loop" ⟨[.ref S,.ref x,.none],[]⟩) R s:=by
 induction n with
 | zero=>exact fun hd=>nomatch hd
 | succ n ih =>
  intro st s μ hd C hx hS hR
  refine aS hd fun r h1 hd=>?_
  obtain⟨r,st1⟩:=r
  obtain⟨k',es,hin⟩:=wK h1
  obtain⟨dx,ox,II⟩:=C.so.instAt hin hC hx
  obtain⟨h₀,m,FF,XF⟩:=C.cut (X D.Z.fr).k0 (X D.Z.fr).k
  have i:=(aA (aA hit).2).2
  refine codeAny_builtin F.entry_extend_loop ?_
  rw[Around.under_plainId F.plain_extend_loop _]
  show wpAny _ A'.in1 (pyNext (.ref x) >>= _) _ _ s
  refine wpAny_bind (owit_next FF XF II (eq_of_beq (aA i).1) (aA (aA i).2).1 (HC X FN hck h1 hA C.hi C.he.size C.so hx (fun u hu w s₁ μ₁ a₁ hw=>?_) fun hr s' μ₁ e a₁ hT=>?_))
  ·subst hu
   exact aS hd fun st2 hp hd=>by
    show wpAny _ A'.in1 (updateSeq S (·.push w) >>= _) _ _ _
    refine wpAny_bind (J1 a₁ hp (eG a₁.t.pre hS) hw fun s₂ a₂=>wpAny_pure ⟨plainId_quiet F.plain_extend_loop _,?_⟩).2
    exact ih hd (C.go a₂) (hx.pre a₂.t.pre) (eG a₂.t.pre hS) fun s' μ' e a₃=>hR s' μ' e (a₂.trans a₃)
  ·subst hr
   cases hd
   unfold OwitStop
   refine wpAny_isInstance (b:=true) hT (by rw[isSubtype_type]; kernel_rfl) ?_
   show(if true=true then _ else _)
   rw[if_pos rfl]
   exact wpAny_pure (hR s' μ₁ rfl a₁)
theorem tN{α:Type}{a:α}:∀{l:List α}{k:Nat},l[k]? = some a→l.set k a=l
 | [],_,h=>nomatch h
 | b::l,0,h=>congrArg (· :: l) (Option.some.inj h).symm
 | b::l,k+1,h=>congrArg (b :: ·) (tN (l:=l) h)
noncomputable def qI:List Str:=["self"]
noncomputable def vP:OF:=⟨1,1,[],.cons (.ret (.var 0)) .nil⟩
noncomputable def CK(K:Frag)(cA fA:Nat→Option Addr):Bool:=iB (cA 0) fun C=>iB ((findIn K (.ref C) "__iter__").bind fun v=>v.bind fS) fun fi=>iB ((findIn K (.ref C) "__next__").bind fun v=>v.bind fS) fun fn =>
 CD K C fi fn&&(fB K (fun sc body=>e9 K cA fA S6 qI sc vP.body body) fi qI vP&&fB K (k7 K cA fA) fn gL sH)
def vT(K:Frag)(cA:Nat→Option Addr):Prop:=fZ (cA 0) fun C=>(fZ ((findIn K (.ref C) "__iter__").bind fun v=>v.bind fS) fun fi=>gP K fi qI vP)∧fZ ((findIn K (.ref C) "__next__").bind fun v=>v.bind fS) fun fn=>gP K fn gL sH
theorem GM{n k:Nat}(h:lJ cl n l k st=some (v,st')):∃ k es,j9 0 st l=some (k,es):=by
 cases n with
 | zero=>cases h
 | succ n=>exact aS h fun r h1 _=>wK h1
theorem NB{Z:aF}{cA:Nat→Option Addr}(hK:∀ h,Z.TabI h→K.In h)(hK0:K.In Z.h₀)(hlam:Z.lam=qZ K)(hb2:vT K cA)(h2:CK K cA fA=true){G:Prop}
  (g:∀ C fi fn fdI bodyI fd body,cA 0=some C→CD K C fi fn=true→fV Z fi fdI bodyI qI vP→e9 K cA fA S6 qI fdI.scope vP.body bodyI=true→fV Z fn fd body gL sH→k7 K cA fA fd.scope body=true →
   findIn K (.ref C) "__iter__" = some (some (.ref fi))→isFn K (.ref fi)=true→findIn K (.ref C) "__next__" = some (some (.ref fn))→findIn K (.ref C) "__len__" = some none→findIn K (.ref C) "__length_hint__" = some none→G):G:=by
 obtain⟨C',hC,h2⟩:=eW h2
 obtain⟨fi,hfi,h2⟩:=eW h2
 obtain⟨fn,hfn,h2⟩:=eW h2
 obtain⟨hit,h2⟩:=aA h2
 obtain⟨_,e0,b1,b2⟩:=nI hb2
 cases hC.symm.trans e0
 obtain⟨_,e1,b1⟩:=nI b1
 cases hfi.symm.trans e1
 obtain⟨_,e2,b2⟩:=nI b2
 cases hfn.symm.trans e2
 obtain⟨fdI,bodyI,FI,hckI⟩:=dS hlam hK hK0 b1 (aA h2).1
 obtain⟨fd,body,FN,hck⟩:=dS hlam hK hK0 b2 (aA h2).2
 obtain⟨i1,i⟩:=aA hit
 obtain⟨i2,i⟩:=aA i
 obtain⟨i3,i⟩:=aA i
 obtain⟨i5,i6⟩:=aA (aA i).2
 exact g C' fi fn fdI bodyI fd body hC hit FI hckI FN hck (eq_of_beq i1) i2 (eq_of_beq i3) (eq_of_beq i5) (eq_of_beq i6)
theorem Ba{p pos:Pos}{y:Expr}{fuel:Nat}(hX:D.Ex fuel)(hl:D.lvl=lvl+1)(hK:∀ h,D.Z.TabI h→K.In h)(hK0:K.In D.Z.h₀)(hlam:D.Z.lam=qZ K)(hB:gO D.Z)(hCl:∀ fr,bW (D.Z.at fr) D.cA D.cl lvl fA)(hb2:vT K D.cA)(h2:CK K D.cA fA=true)(hg:aR sc "list" = true)(hy:j8 D.nm sc 3 y=true) :
  cM D sc (.Call (.Name "list" p) [y] [] pos) (.ext 2):=fun{A env ρ μ st s v st' Q E}C he g=>H7 ((congrFun (congrFun (congrFun hX 2) ρ) st).symm.trans he) fun l h1 he=>by
 refine NB hK hK0 hlam hb2 h2 fun C' fi fn fdI bodyI fd body hC hit FI hckI FN hck i1 i2 i3 i5 i6=>?_
 have X:∀ fr nm,NV ((ND D.Z D.cA D.cl lvl nm).at fr) K fA S6:=fun fr nm=>⟨hK,hK0,hB,hCl fr,fun _ _ _ h=>nomatch h⟩
 have hA:f6 D.Z (8*(lvl+1)) A.in1.in1:=(C.ha.mono (k:=8*(lvl+1)+2) (hl▸Nat.le_add_right _ 5)).in_.in_
 obtain⟨oy,sty,_⟩:=sS hy
 refine kY (f:=.type "list") hB hg (by decide) nofun (aY sty) (bX sty oy dB) C (u5 (sX h1)) fun vs s₁ μ₁ a₁ hvs=>qV (m:=fun vs=>wpAny _ A (call (.type "list") vs) Q E s₁) hvs fun w hw=>?_
 obtain⟨k,es,hin⟩:=GM he
 obtain⟨j,rfl⟩:∃ j,l = .o j:=sI hin fun j e _=>⟨j,e⟩
 obtain⟨x,hxj,rfl⟩:=hw
 have C₁:=C.go a₁
 refine callType_codes (Q₁:=fun obj s₂=>obj = .ref s₁.heap.objs.size∧s₂={ s₁ with heap:=s₁.heap.push { cls:=.type "list",data:=.seq #[] } }) F.called_list (F.typeCall_list_1 _) F.entry_list_init
  (code_list_new _ ⟨rfl,rfl⟩) fun obj s₂ h₂=>?_
 obtain⟨rfl,rfl⟩:=h₂
 have hSx:x≠s₁.heap.objs.size:=fun e=>by obtain⟨o,ho⟩:=C₁.so.live x (List.mem_of_getElem? hxj); rw[e,get?_ge (Nat.le_refl _)]at ho; cases ho
 have a₂:=(C₁.more C₁.at (tk:=s₁.toks) (v:=fun _=>True) (f:=.list []) (o:={ cls:=.type "list",data:=.seq #[] }) ⟨#[],_,_,Heap.get?_push_size _ rfl,.nil,Nat.zero_le _⟩).1
 have hSo:(s₁.heap.push { cls:=.type "list",data:=.seq #[] }).get? s₁.heap.objs.size=some { cls:=.type "list",data:=.seq #[] }:=Heap.get?_push_size _ rfl
 have hSk:(μ₁++[s₁.heap.objs.size])[st.length]? = some s₁.heap.objs.size:=by rw[← C₁.so.len]; exact List.getElem?_concat_length
 have hSl:(st++[FO.list []])[st.length]? = some (.list []):=List.getElem?_concat_length
 have hxj:=eG (List.prefix_append μ₁ [s₁.heap.objs.size]) hxj
 generalize s₁.heap.objs.size=S at *
 generalize s₁.heap.push { cls:=.type "list",data:=.seq #[] }=hS at *
 generalize μ₁++[S]=μ₂ at *
 generalize st++[FO.list []]=st₂ at *
 generalize st.length=n at *
 refine⟨⟨_,hSo,rfl⟩,F.args_list_init_2 _ _,?_⟩
 show wpAny _ A.in1.in1 (do let old ← Builtin.List.listItems (.ref S); Builtin.List.listUpdate (.ref S) (fun _=>#[]); letGo old.toList.reverse; Builtin.List.listExtendWith (.ref S) (.ref x) .none) _ _ _
 refine wpAny_bind ?_
 unfold Builtin.List.listItems
 refine wpAny_bind (wpAny_seqItems hSo rfl (wpAny_pure ?_))
 show wpAny _ A.in1.in1 (updateSeq S (fun _=>#[]) >>= fun _=>letGo (#[]:Array Value).toList.reverse >>= fun _=>Builtin.List.listExtendWith (.ref S) (.ref x) .none) _ _ _
 refine wpAny_bind (a₂.turnL hSk hSl (ys:=[]) (f:=fun _=>#[]) (Nat.zero_le _) (fun _=>.nil) fun s₃ a₃=>wpAny_bind (wpAny_letGo ?_)).2
 rw[tN hSl]at a₃
 have C₃:=C₁.go a₃
 obtain⟨dx,ox,II⟩:=C₃.so.instAt hin hC ⟨x,hxj,rfl⟩
 obtain⟨h₀,m,FF,XF⟩:=C₃.cut hK0 hK
 unfold Builtin.List.listExtendWith
 refine wpAny_bind (II.type.here ?_)
 rw[if_neg (show ¬(Builtin.List.listSameRef (.ref S) (.ref x)||Value.ref C'==Value.type "list" || Value.ref C'==Value.type "tuple")=true from by
  rw[show Builtin.List.listSameRef (.ref S) (.ref x)=false from beq_false_of_ne (Ne.symm hSx)]; exact nofun)]
 refine wpAny_bind (owit_iter FF XF II i1 i2 (wpAny_call (AH (D:=ND D.Z D.cA D.cl lvl qI) (fun fr=>X fr qI) FI hckI (fuel:=0) (args:=[.o j]) (ρ:=[some (.o j)]) (v:=.o j) rfl rfl hA C₃.hi C₃.he.size C₃.so (.cons ⟨x,hxj,rfl⟩ .nil) fun w s₄ μ₄ a₄ hw=>?_)))
 have hxj₄:=eG a₄.t.pre hxj
 obtain⟨x',hx',rfl⟩:=hw
 cases hxj₄.symm.trans hx'
 have C₄:=C₃.go a₄
 obtain⟨dx₄,ox₄,II₄⟩:=C₄.so.instAt hin hC ⟨x,hxj₄,rfl⟩
 obtain⟨h₄,m₄,FF₄,XF₄⟩:=C₄.cut hK0 hK
 refine owit_it FF₄ XF₄ II₄ i3 (wpAny_bind (wpAny_holding ?_))
 unfold Builtin.List.listLengthHint
 refine wpAny_bind (wpAny_bind (II₄.type.here ((looks_findIn (hK _ C₄.hi.tab) i5).here ?_)))
 show wpAny _ _ (specialOf (Value.ref x) (Str.ofString "__length_hint__") >>= _) _ _ _
 refine wpAny_bind (wpAny_bind (II₄.type.here ((looks_findIn (hK _ C₄.hi.tab) i6).here (wpAny_pure ?_))))
 show wpAny _ _ (rule "list.extend.makes-room" >>= fun _=>(updateSeq S (·.push .none) >>= fun _=>updateSeq S (·.pop)) >>= fun _=>again (.builtin "list.extend.loop" ⟨[.ref S,.ref x,.none],[]⟩)) _ _ _
 have hS₄:=eG a₄.t.pre hSk
 refine wpAny_bind (wpAny_rule (wpAny_bind (wpAny_bind (C₄.at.turnL hS₄ hSl (ys:=[.d .none]) (f:=(·.push .none)) (Nat.le_of_ble_eq_true rfl) (fun h=>by rw[Array.toList_push]; exact h.append (.cons nP .nil)) fun s₅ a₅ =>
  (a₅.turnL hS₄ (List.getElem?_set_self (JC hSl)) (ys:=[]) (f:=(·.pop)) (Nat.zero_le _) (fun h=>?_) fun s₆ a₆=>wpAny_pure ⟨plainId_quiet F.plain_extend_loop _,?_⟩).2).2)))
 ·rw[Array.toList_pop]
  exact qV (m:=fun l=>hW μ₄ l.dropLast []) h fun _ _=>.nil
 ·rw[List.set_set,tN hSl]at a₆
  exact K7 (fun fr=>X fr gL) FN hck hC hit hA fuel he (C₄.go a₆) ⟨x,hxj₄,rfl⟩ hS₄ fun s₇ μ₇ e a₇=>⟨rfl,g _ _ _ (a₁.trans (a₃.trans (a₄.trans (a₆.trans a₇)))) (by subst e; exact⟨S,eG a₇.t.pre hS₄,rfl⟩)⟩
end
noncomputable def q4(c:Nat):Str:=if kK c then⟨#[92,c]⟩else⟨#[c]⟩
section
variable{prog:Program}{w:World}{A:Around}{E:Value→Shared→Prop}{s:Shared}
theorem M6{d:Addr}{f:Int→Option Value}{k:Int}{t:Tok}{Q:Value→Shared→Prop}(hm:s.heap.IntMap d f)(hf:f k=none)(hh:A.handled=none)
  (h:∀ h' tk e,Heap.NewExc s.heap h' e "KeyError" → E (.ref e) { s with heap:=h',toks:=tk }):wpAny (model prog w) A (getItem (.ref d) (.int k t)) Q E s:=by
 unfold getItem
 refine wpAny_holding ?_
 refine wpAny_bind (wpAny_sequenceKey hm.typeIs (by decide) ?_)
 refine wpAny_bind (wpAny_callSpecial?_slot (name:=Str.ofString "__getitem__") hm.typeIs slot_dict_getitem
  (wpAny_call_entry slot_dict_getitem hm.typeIs entry_dict_getitem ?_ (args_dict_getitem _ _)))
 show wpAny _ _ (dictGet d (.int k t) >>= _) _ _ s
 refine wpAny_bind (wpAny_dictGet_int hm ?_)
 rw[hf]
 show wpAny _ _ (Builtin.Dict.missed d (.int k t) >>= _) _ _ _
 refine wpAny_bind (wpAny_missed_int ?_)
 refine wpAny_bind (wpAny_typeOf (s:={ s with toks:=s.toks+1 }) hm.typeIs ?_)
 show wpAny _ _ (if(Value.type "dict" != Value.type "dict")=true then _ else _) _ _ _
 rw[if_neg (by decide)]
 exact wpAny_bind (wpAny_rule (wpAny_raise_newExc plainExc_KeyError hh fun h' e hn=>h h' _ e hn))
theorem T8{d:Addr}{f:Int→Option Value}{c:Nat}{x:Str}{tt:Tok}{Q:Builtin.Str.Mapped→Shared→Prop}(hm:s.heap.IntMap d f)(hf:f c=some (.str x tt))(h:∀ tk,Q (.text x) { s with toks:=tk }):wpAny (model prog w) A (Builtin.Str.tableLookup (.ref d) c) Q E s:=by
 unfold Builtin.Str.tableLookup
 refine wpAny_bind (wpAny_attempt (wpAny_bind (wpAny_mkInt (wpAny_getItem_intMap (s:={ s with toks:=_ }) hm hf ?_))))
 dsimp only
 have L1:∀ h,Looks (model prog w) h (asInt? (.str x tt)) none:=fun _=>Looks.of_pure (by kernel_rfl)
 have L2:∀ h,Looks (model prog w) h (asStr? (.str x tt)) (some x):=fun _=>Looks.of_pure (by kernel_rfl)
 refine wpAny_bind ((L1 _).here ?_)
 refine wpAny_bind ((L2 _).here ?_)
 exact wpAny_pure (h _)
theorem EC{d:Addr}{f:Int→Option Value}{c:Nat}{Q:Builtin.Str.Mapped→Shared→Prop}(hm:s.heap.IntMap d f)(hf:f c=none)(hh:A.handled=none)(h:∀ h' tk,(∀ b o,s.heap.get? b=some o→h'.get? b=some o)→Q .keep { s with heap:=h',toks:=tk }) :
  wpAny (model prog w) A (Builtin.Str.tableLookup (.ref d) c) Q E s:=by
 unfold Builtin.Str.tableLookup
 refine wpAny_bind (wpAny_attempt (wpAny_bind (wpAny_mkInt (M6 (s:={ s with toks:=_ }) hm hf hh fun h' tk e hn=>?_))))
 dsimp only
 obtain⟨ob,t0,he,hc,hd⟩:=hn.there
 refine wpAny_bind (wpAny_isInstance (T := "KeyError") ⟨ob,he,hc⟩ (b:=true) (by rw[isSubtype_type]; kernel_rfl) ?_)
 rw[if_pos rfl]
 exact wpAny_bind (wpAny_rule (wpAny_pure (h h' tk hn.keeps)))
theorem uW{d:Addr}{f:Int→Option Value}{c:Nat}{t0:Tok}{Q:Value→Shared→Prop}(hm:s.heap.IntMap d f)(hf:f c=if kK c then(f c)else none)(hs:kK c=true→∃ tt,f c=some (.str ⟨#[92,c]⟩ tt))(hh:A.handled=none)
  (h:∀ h' tk tt,(∀ b o,s.heap.get? b=some o→h'.get? b=some o)→Q (.str (q4 c) tt) { s with heap:=h',toks:=tk }):wpAny (model prog w) A (call (.builtin "str.translate") [.str ⟨#[c]⟩ t0,.ref d]) Q E s:=by
 refine wpAny_call_entry F.slot_str_translate (typeIs_str _ _ _) F.entry_str_translate ?_ (F.args_str_translate_2 _ _)
 unfold Builtin.«str.translate»
 obtain⟨hp,g,dr,tk,os⟩:=s
 have hall:(#[c].all fun x=>decide (x<128))=decide (c<128):=by simp
 repeat lk
 rw[hall]
 have hgc:#[c][#[c].size - 1 - 0]=c:=rfl
 rw[hgc]
 cases hsp:kK c with
 | true =>
  obtain⟨tt,hfc⟩:=hs hsp
  have hlt:c<128:=by
   exact(List.all_eq_true.mp (show([40,41,91,93,123,125,63,42,43,45,124,94,36,92,46,38,126,35,32,9,10,13,11,12].all fun c=>decide (c<128))=true from rfl) c (List.contains_iff_mem.mp hsp)|> of_decide_eq_true)
  rw[decide_eq_true hlt]
  repeat (first | with_reducible refine T8 hm hfc (fun tk=>?_)| lk)
  have he:q4 c=⟨#[92,c]⟩:=by unfold q4; rw[hsp]; rfl
  rw[he]at h
  exact⟨_,rfl,h _ _ _ fun _ _ e=>e⟩
 | false =>
  rw[hsp,if_neg (by decide)]at hf
  have he:q4 c=⟨#[c]⟩:=by unfold q4; rw[hsp]; rfl
  rw[he]at h
  by_cases hlt:c<128
  ·rw[decide_eq_true hlt]
   repeat (first | with_reducible refine EC hm hf hh (fun h' tk hk=>?_)| lk)
   exact⟨_,rfl,h _ _ _ hk⟩
  ·rw[decide_eq_false hlt]
   repeat (first | with_reducible refine EC hm hf hh (fun h' tk hk=>?_)| lk)
   exact⟨_,rfl,h _ _ _ hk⟩
end
noncomputable def SQ(k:Nat)(e:DictEntry):Bool:=nJ e.key fun j _=>j==(k:Int)&&(e.hash==hashInt k&&sG e.val fun x _=>x==⟨#[92,k]⟩)
noncomputable def CM:List Nat→List DictEntry→Bool
 | [],es=>es.isEmpty
 | k::ks,es=>jJ es fun e r=>SQ k e&&CM ks r
noncomputable def s8(e:Data)(f:Array DictEntry→Nat→Bool):Bool:=if h:e.ctorIdx=3 then Data.dict.elim e h f else false
theorem E0{e:Data}{f:Array DictEntry→Nat→Bool}(h:s8 e f=true):∃ a n,e = .dict a n∧f a n=true:=by
 by_cases c:e.ctorIdx=3
 ·exact Data.dict.elim (motive:=fun e=>s8 e f=true→∃ a n,e = .dict a n∧f a n=true) e c (fun a n h=>⟨a,n,rfl,h⟩) h
 ·rw[s8,dif_neg c]at h; cases h
noncomputable def X7:List Nat:=[40,41,91,93,123,125,63,42,43,45,124,94,36,92,46,38,126,35,32,9,10,13,11,12]
theorem WL{k:Nat}{e:DictEntry}(h:SQ k e=true):∃ t tt,e.key = .int k t∧e.val = .str ⟨#[92,k]⟩ tt∧e.hash=hashInt k:=by
 obtain⟨hs,ke,ve⟩:=e
 refine B2 (e:=ke) (m:=fun ke=>∃ t tt,ke = .int k t∧ve = .str ⟨#[92,k]⟩ tt∧hs=hashInt k) h fun j t h=>aB h fun h1 h=>B1 (e:=ve) (m:=fun ve=>∃ t' tt,Value.int j t = .int k t'∧ve = .str ⟨#[92,k]⟩ tt∧hs=hashInt k) (aA h).2 fun x tt h3=>⟨t,tt,by rw[eq_of_beq h1],by rw[eq_of_beq h3],eq_of_beq (aA h).1⟩
theorem wV(c:Nat):∀{ks:List Nat}{l:List DictEntry},CM ks l=true →
  (∀ e∈l,∃ k:Nat,∃ t,e.key = .int k t∧e.hash=hashInt k)∧(ks.contains c=false→(l.find? fun e=>Value.isInt c e.key).map (·.val)=none)∧(ks.contains c=true→∃ tt,(l.find? fun e=>Value.isInt c e.key).map (·.val)=some (.str ⟨#[92,c]⟩ tt))
 | [],l,h=>d9 (m:=fun l:List DictEntry=>(∀ e∈l,∃ k:Nat,∃ t,e.key = .int k t∧e.hash=hashInt k)∧(_→(l.find? fun e=>Value.isInt c e.key).map (·.val)=none)∧(_→∃ tt,(l.find? fun e=>Value.isInt c e.key).map (·.val)=some (.str ⟨#[92,c]⟩ tt))) h ⟨fun _ h=>(nomatch h),fun _=>rfl,fun h=>(nomatch h)⟩
 | k::ks,l,h=>by
  apply cZ h; intro e r h
  obtain⟨t,tt,h1,h2,h3⟩:=WL (aA h).1
  obtain⟨i0,i1,i2⟩:=wV c (aA h).2
  have hi:Value.isInt c e.key=(c==k):=by
   rw[h1]
   show((k:Int)==(c:Int))=_
   by_cases e:c=k
   ·subst e; rw[beq_self_eq_true,beq_self_eq_true]
   ·rw[beq_false_of_ne e]; exact beq_false_of_ne fun h=>e (Int.ofNat.inj h).symm
  rw[List.find?_cons,hi,List.contains_cons]
  refine⟨fun e' he=>(List.mem_cons.mp he).elim (fun e=>e▸⟨k,t,h1,h3⟩) (i0 e'),?_⟩
  by_cases e':c=k
  ·subst e'
   rw[beq_self_eq_true]
   exact⟨fun h=>(nomatch h),fun _=>⟨tt,congrArg some h2⟩⟩
  ·rw[beq_false_of_ne e']
   exact⟨i1,i2⟩
noncomputable def KH(K:Frag):Bool:=iB (eZ K "_special_chars_map") fun v=>i7 v fun d=>iB (K.lookup d) fun o=>o.cls == .type "dict" && s8 o.data fun es _=>CM X7 es.toList
section
variable{D:OD}{sc:Scope}{K:Frag}{fuel:Nat}
theorem PZ{c:Nat}(h:bK (.str ⟨#[c]⟩)=true):bK (.str (q4 c))=true:=by
 have h1:=(u4 h).1
 have h92:PyData.strOk ⟨#[92]⟩=true:=by kernel_rfl
 unfold q4
 by_cases hs:kK c=true
 ·rw[if_pos hs]
  exact cE (x:=⟨#[92]⟩) (y:=⟨#[c]⟩) (w9 h92 (by decide)) h (Nat.le_of_ble_eq_true rfl)
 ·rw[if_neg hs]; exact h
theorem Ay{p apos pos:Pos}{x:Expr}(hX:D.Ex fuel)(hK:∀ h,D.Z.TabI h→K.In h)(hK0:K.In D.Z.h₀)(hok:KH K=true)(hg:aR sc "_special_chars_map" = true)(hx:j8 D.nm sc 0 x=true)(hline:(apos.endLine==pos.line)=true) :
  cM D sc (.Call (.Attribute x "translate" apos) [.Name "_special_chars_map" p] [] pos) (.ext 6):=fun{A env ρ μ st s v st' Q E}C he g =>
 H7 ((congrFun (congrFun (congrFun hX 6) ρ) st).symm.trans he) fun xs h1 he=>RW he fun c ec he=>by
 subst ec
 cases he
 obtain⟨ox,stx,c0⟩:=sS hx
 obtain⟨w,hd,hok⟩:=eW hok
 obtain⟨d,rfl,hok⟩:=mZ hok
 obtain⟨o,hl,hok⟩:=eW hok
 obtain⟨es,ep,hdd,hm⟩:=E0 (aA hok).2
 refine wpAny_Call_method_lateS (aQ c0 _ _ _) (jM (aY rfl) (Nat.le_of_ble_eq_true rfl)) hline (ox C (sX h1) fun w s₁ μ₁ a₁ hw=>?_)
 obtain⟨t,rfl,hokc⟩:∃ t,w = .str ⟨#[c]⟩ t∧bK (.str ⟨#[c]⟩)=true:=NO (m:=fun w=>∃ t,w = .str ⟨#[c]⟩ t∧bK (.str ⟨#[c]⟩)=true) hw fun t ok=>⟨t,rfl,ok⟩
 refine⟨"str",_,F.plainAttrs_str,F.slot_str_translate,F.type_str_translate,typeIs_str _ _ _,nofun,aT nofun ((aY rfl).1 env pos) (bT ((aY rfl).2.1 nofun env pos) ?_)⟩
 rw[bI rfl]
 refine Calls.spliced_cons ((C.go a₁).glob hg (fE hK0 hd) (Calls.spliced_nil ?_))
 obtain⟨f0,f1,f2⟩:=wV c hm
 have hfb:findBy Value.isInt es (c:Int)=(es.toList.find? fun e=>Value.isInt c e.key).map (·.val):=by unfold findBy; rw[← Array.find?_toList]
 refine uW (f:=fun k=>findBy Value.isInt es k) ⟨o,es,ep,hK _ a₁.i.tab _ _ hl,eq_of_beq (aA hok).1,hdd,fun e he=>?_,fun _=>rfl⟩ ?_ (fun h=>by rw[hfb]; exact f2 h) C.ha.handled fun h' tk tt hk=>g _ _ _ (a₁.kp (a₁.i.full (tk:=tk) hk) (.of hk)) (mW (PZ hokc))
 ·obtain⟨k,t,h1,h2⟩:=f0 e (Array.mem_toList_iff.mpr he)
  exact⟨_,_,h1,h2⟩
 ·rw[hfb]
  cases hs:kK c with
  | true=>rfl
  | false=>exact(f1 hs)
end
end Kt.Internal
end
section
open PySem PySem.W PyProof.Rows PySem.Calls Builtin Builtin.Re
namespace Kt.Internal
theorem pV{m:Nat→Prop}{c:Nat}(h:i4 c=true)(h1:m 97∧m 39∧m 91∧m 32∧m 34∧m 42∧m 92∧m 93∧m 63∧m 35∧m 45∧m 98∧m 33)(h2:∀ k,m (k+256)):m c:=by
 refine(Bool.or_eq_true_iff.mp h).elim (fun h=>?_) fun h=>Nat.sub_add_cancel (of_decide_eq_true h)▸h2 (c - 256)
 obtain⟨a1,a2,a3,a4,a5,a6,a7,a8,a9,b1,b2,b3,b4⟩:=h1
 have key:∀ c∈[97,39,91,32,34,42,92,93,63,35,45,98,33],m c:=by
  simp only[List.forall_mem_cons]
  exact⟨a1,a2,a3,a4,a5,a6,a7,a8,a9,b1,b2,b3,b4,fun _ h=>nomatch h⟩
 exact key c (List.contains_iff_mem.mp h)
theorem P0{y:Nat}(h:i4 y=true):Builtin.Str.occurrences ⟨#[y]⟩ "'" 0 1 2=bif y==39 then [0]else [] :=
 pV (m:=fun y=>Builtin.Str.occurrences ⟨#[y]⟩ "'" 0 1 2=bif y==39 then [0]else []) h (by refine⟨?_,?_,?_,?_,?_,?_,?_,?_,?_,?_,?_,?_,?_⟩ <;> kernel_rfl) fun k=>by kernel_rfl
noncomputable def r7(c:Nat):Str:=bif c==39 then "'\"'\"'" else⟨#[c]⟩
theorem HU{prog:Program}{w:World}{A:Around}{R:Result→Shared→Prop}{s:Shared}{c:Nat}{t t1:Tok}(hsg:i4 c=true)(h1:(t1==0)=false)(h:∀ tk tk',R (.ok (.ret (.str (r7 c) tk))) { s with toks:=tk' }):codeAny (model prog w) A (.call (.builtin "str.replace") ⟨[.str ⟨#[c]⟩ t,.str "'" t1,.str "'\"'\"'" (t1+1)],[]⟩) R s:=by
 have ho:Builtin.Str.occurrences ⟨#[c]⟩ "'" 0 (Str.length ⟨#[c]⟩) (Str.length ⟨#[c]⟩+1)=_:=P0 hsg
 refine codeAny_call_builtin F.slot_str_replace.plain F.entry_str_replace (F.slot_str_replace.check _ _ _ _ _ _ _ _ (typeIs_str _ _ _) (F.args_str_replace_3 _ _ _) (gives_str_replace ⟨#[c]⟩ "'" "'\"'\"'" t t1 (t1+1) (fun h=>?_) _ _ _ _ _ ?_))
 ·rw[ho]at h ⊢
  cases hy:c==39 with
  | true=>exact⟨by rw[h1]; rfl,beq_false_of_ne (Nat.ne_of_lt (Nat.lt_succ_self _)),by decide,by kernel_rfl⟩
  | false=>rw[hy]at h; cases h
 ·rw[ho]
  unfold r7 at h
  cases hy:c==39 with
  | true=>rw[hy]at h; exact⟨by show 5≤_; decide,h _ _⟩
  | false=>rw[hy]at h; exact h _ _
theorem WU{t:Str}{e:Expr}{m:Expr→Prop}(h:V6 t e=true)(k:∀ a p,m (.Constant (.str t) a p)):m e:=bS h fun c a p h=>b9 (m:=fun c=>m (.Constant c a p)) h (k a p)
noncomputable def zM:List Nat:=[14,14,4,1,1,9,0,64,0,1342177280,0,0,0,0,0,17,0,13,11,9,0,64,0,1342177280,0,0,0,0,0,17,1,1]
noncomputable def S7:List Nat→(Nat→Tok)→List Value
 | [],_=>[]
 | n::ns,τ=>.int n (τ 0)::S7 ns fun i=>τ (i+1)
noncomputable abbrev pH(a0 a1 a3 a4:Value)(g:Int)(k2 k6:Tok)(t:Addr)(dd:Option Addr)(sl:Array (Option Value)):Obj:={ cls:=.type "re.Pattern",dict:=dd,data:=.fields #[a0,a1,.int g k2,a3,a4,.ref t,.int 0 k6],slots:=sl }
noncomputable abbrev sU(items:Array Value)(n:Nat)(dd:Option Addr)(sl:Array (Option Value)):Obj:={ cls:=.type "tuple",dict:=dd,data:=.seq items n,slots:=sl }
noncomputable abbrev TP:Obj:={ cls:=.type "tuple",data:=.seq #[rawInt 0,rawInt 1] }
noncomputable abbrev TQ(x:Value)(p:Addr)(t:Addr):Obj:={ cls:=.type "re.Match",data:=.fields #[x,.ref p,rawInt 0,rawInt 1,rawInt (-1),.ref t] }
theorem BL{α:Type}{l:List α}{f:α→List α→Bool}(h:jJ l f=true):∃ a r,l=a::r∧f a r=true:=cZ (m:=fun l=>∃ a r,l=a::r∧f a r=true) h fun a r h=>⟨a,r,rfl,h⟩
theorem W7{α:Type}{l:List α}{f:α→Bool}(h:gK l f=true):∃ a,l=[a]∧f a=true:=cJ (m:=fun l=>∃ a,l=[a]∧f a=true) h fun a h=>⟨a,rfl,h⟩
theorem B3{e:Value}{f:Int→Tok→Bool}(h:nJ e f=true):∃ a b,e = .int a b∧f a b=true:=B2 (m:=fun e=>∃ a b,e = .int a b∧f a b=true) h fun a b h=>⟨a,b,rfl,h⟩
noncomputable def TT:List Nat→List Value→Bool
 | [],vs=>vs.isEmpty
 | n::ns,vs=>jJ vs fun v r=>nJ v (fun i _=>i==(n:Int))&&TT ns r
theorem FE:∀{ns:List Nat}{vs:List Value},TT ns vs=true→∃ τ,vs=S7 ns τ
 | [],_,h=>⟨fun _=>0,List.isEmpty_iff.mp h⟩
 | n::ns,vs,h=>by
  obtain⟨v,r,e,h⟩:=BL h
  obtain⟨i,t,ev,hi⟩:=B3 (aA h).1
  obtain⟨τ,er⟩:=FE (aA h).2
  exact⟨fun i=>Nat.casesOn i t τ,by rw[e,ev,eq_of_beq hi,er]; rfl⟩
noncomputable def R0(K:Frag)(p:Addr)(g:Int)(code:List Nat):Bool:=iB (K.lookup p) fun o=>o.cls == .type "re.Pattern" && (o.dict.isNone&&jA o.data fun fs=>jJ fs.toList fun _ r=>jJ r fun _ r=>jJ r fun v r=>nJ v (fun i _=>i==g)&&(jJ r fun _ r=>jJ r fun _ r=>jJ r fun t r =>
 (gK r fun v=>nJ v fun k _=>k==0)&&i7 t fun t=>iB (K.lookup t) fun o=>o.cls == .type "tuple" && DU o.data fun items=>TT code items.toList))
theorem U9{K:Frag}{p:Addr}{g:Int}{code:List Nat}(h:R0 K p g code=true){G:Prop}(go:∀{a0 a1 a3 a4:Value}{k2 k6:Tok}{t:Addr}{sl:Array (Option Value)}{τ:Nat→Tok}{n:Nat}{dd3:Option Addr}{sl3:Array (Option Value)},K.lookup p=some (pH a0 a1 a3 a4 g k2 k6 t none sl)→K.lookup t=some (sU (S7 code τ).toArray n dd3 sl3)→G):G:=by
 obtain⟨⟨oc,od,oda,osl⟩,e,h⟩:=eW h
 obtain⟨h1,h⟩:=aA h
 obtain⟨h2,h⟩:=aA h
 obtain⟨⟨fs⟩,h3,h⟩:=wG h
 obtain⟨a0,r0,e0,h⟩:=BL h
 obtain⟨a1,r1,e1,h⟩:=BL h
 obtain⟨v,r2,e2,h⟩:=BL h
 obtain⟨h4,h⟩:=aA h
 obtain⟨i,k2,ei,h4⟩:=B3 h4
 obtain⟨a3,r3,e3,h⟩:=BL h
 obtain⟨a4,r4,e4,h⟩:=BL h
 obtain⟨t,r5,e5,h⟩:=BL h
 obtain⟨h5,h⟩:=aA h
 obtain⟨k,e6,h5⟩:=W7 h5
 obtain⟨k,k6,ek,h5⟩:=B3 h5
 obtain⟨t,et,h⟩:=mZ h
 obtain⟨⟨pc,pd,pda,psl⟩,e',h⟩:=eW h
 obtain⟨h6,h⟩:=aA h
 obtain⟨⟨items⟩,n,h7,h⟩:=VI h
 obtain⟨τ,hτ⟩:=FE h
 refine go (a0:=a0) (a1:=a1) (a3:=a3) (a4:=a4) (k2:=k2) (k6:=k6) (t:=t) (sl:=osl) (τ:=τ) (n:=n) (dd3:=pd) (sl3:=psl) ?_ ?_
 ·have h1:oc=_:=eq_of_beq h1
  have h2:od=none:=Option.isNone_iff_eq_none.mp h2
  have h3:oda=_:=h3
  have e0:fs=_:=e0
  rw[e,h1,h2,h3,e0,e1,e2,ei,eq_of_beq h4,e3,e4,e5,et,e6,ek,eq_of_beq h5]
 ·have h6:pc=_:=eq_of_beq h6
  have h7:pda=_:=h7
  have hτ:items=_:=hτ
  rw[e',h6,h7,hτ]
def iR(P:Addr)(lp:Nat×Nat)(h:Heap):Prop:=∃ ps,h.get? P=some (tabObj ps)∧(ps=#[]∨∃ cv,ps=#[rawInt lp.1,rawInt lp.2,cv])
structure iD(Z:aF)(K:Frag)(c P:Addr)(lp:Nat×Nat):Prop where
 hd:CodeHd Z.h₀ c P
 tab₀:Z.h₀.get? P=some (tabObj #[])
 out:K.lookup P=none
 ne:P≠mainGlobals∧P≠cStatics
 bm:Z.h₀.BuiltinsAt Z.mg P
 tab:∀ h,Z.TabI h→iR P lp h
 tabI:∀ h h':Heap,Z.TabI h→(∀ b o,b≠P→h.get? b=some o→h'.get? b=some o)→iR P lp h'→Z.TabI h'
section
variable{D:OD}{sc:Scope}{K:Frag}{c P:Addr}{A:Around}{env:Env}{ρ:LO}{μ:List Addr}{st:St}{s:Shared}
theorem qC{h₀ h:Heap}(x:CodeHd h₀ c P)(g:∀ o,c≠P→o.cls ≠ .none→h₀.get? c=some o→h.get? c=some o):CodeHd h c P:=by
 obtain⟨_,vs,file,tf,flags,tg,inF,text,tt,e,hc,r⟩:=x
 exact⟨_,vs,file,tf,flags,tg,inF,text,tt,g _ r.2.2.2.2.2.2.2 (by rw[hc]; nofun) e,hc,r⟩
theorem CT{h₀ h:Heap}{mg:Str→Option Value}(x:h₀.BuiltinsAt mg P)(o:OldK h₀ h):h.BuiltinsAt mg P :=
 by obtain⟨bm,ob,h1,h2,h3,h4,h5,h6,r⟩:=x; exact⟨bm,ob,h1,h2,h3,h4,o.get_of_cls h5 (by rw[h6]; nofun),h6,r⟩
theorem iD.inv{Z:aF}{lp:Nat×Nat}(LK:iD Z K c P lp)(hI:bA Z s){s':Shared}(hk:∀ b o,b≠P→s.heap.get? b=some o→s'.heap.get? b=some o)(hold:OldK Z.h₀ s'.heap)(hlt:iR P lp s'.heap)(hg:AllBare s'.gens)(hos:s'.os=s.os):bA Z s':=by
 refine⟨hold,?_,LK.tabI _ _ hI.tab hk hlt,hg,hos.trans hI.os,fun L hL=>?_⟩
 ·obtain⟨mc,⟨o',es,ep,e,r⟩,b⟩:=hI.lim
  exact⟨mc,⟨o',es,ep,hk _ _ LK.ne.2.symm e,r⟩,b⟩
 ·obtain⟨h1,o',e,hd'⟩:=hI.frs L hL
  exact⟨h1,o',hk L o' (fun e'=>Nat.lt_irrefl _ (Nat.lt_of_lt_of_le (Heap.lt_size LK.tab₀) (e'▸h1))) e,hd'⟩
theorem iR.keeps{lp:Nat×Nat}{h h':Heap}(x:iR P lp h)(hk:∀ b o,h.get? b=some o→h'.get? b=some o):iR P lp h':=x.imp fun _ x=>x.imp_left (hk _ _)
theorem AN{lp:Nat×Nat}(LK:iD D.Z K c P lp)(C:Oc D sc A env ρ μ st s){Q:Value→Shared→Prop}(hQ:∀ f s' o,dG D.Z D.cA j5 μ s.heap μ st s'→s'.heap.get? f=some o→o.cls = .type "function" → f∉μ→Q (.ref f) s')
  {h':Heap} {tk:Nat} {o:Obj} (hc:o.cls = .type "function") (hsz:s.heap.objs.size≤h'.objs.size) (hfr:o.isFreed=false) (hx:Heap.ExtBut P s.heap h') (hold:OldK D.Z.h₀ h') (hlt:iR P lp h'):Q (.ref h'.objs.size) { s with heap:=h'.push o,toks:=tk }:=by
 have hI:=C.hi
 have hPn:P<D.Z.n:=Heap.lt_size LK.tab₀
 have hk:∀ b o',b≠P→s.heap.get? b=some o'→(h'.push o).get? b=some o':=fun b o' hb e=>Heap.get?_push_of_some _ (hx b o' hb e)
 have hP:∀ a,D.Z.n≤a→a≠P:=fun a ha e=>Nat.lt_irrefl _ (Nat.lt_of_lt_of_le (e▸hPn) ha)
 have hnew:∀ o',s.heap.get? h'.objs.size≠some o':=fun o' e=>Nat.lt_irrefl _ (Nat.lt_of_lt_of_le (Heap.lt_size e) hsz)
 have hkp:∀ b o',h'.get? b=some o'→(h'.push o).get? b=some o':=fun _ _ e=>Heap.get?_push_of_some _ e
 refine hQ _ _ o ⟨LK.inv hI hk (hold.step_keeps hkp) (hlt.keeps hkp) hI.gens rfl,⟨List.prefix_rfl,fun b o' e hb _ _=>.inl (hk b o' (fun e'=>?_) e),fun _ h hn=>absurd h hn⟩,
  ⟨C.so.len,C.so.nd,C.so.hi,fun k a f h1 h2=>(C.so.at_ k a f h1 h2).sl List.prefix_rfl fun o' e=>.inl (hk a o' (hP a (C.so.hi a (List.mem_of_getElem? h1)).1) e)⟩⟩ (Heap.get?_push_size _ hfr) hc fun hm=>let⟨o',e⟩:=C.so.live _ hm; hnew o' e
 obtain⟨ps,e2,_⟩:=LK.tab _ hI.tab
 rw[e',e2]at e
 cases e
 exact hb.elim (fun h=>h rfl) fun h=>hP b h e'
theorem HT{lp:Nat×Nat}{params:Arguments}{body:Expr}{lsc:Scope}{pos:Pos}{n:Str}(LK:iD D.Z K c P lp)(hp:pos.line=lp.1∧pos.col=lp.2)(hn:lsc.names=[(n,.local)])(hd:params.defaults=[])(hd':params.kw_defaults=[]){Q E:Value→Shared→Prop}
  (hl:D.Z.lam = .ref c) (hnm:D.nm.length=14) (C:Oc D sc A env ρ μ st s) (hQ:∀ f s' o,dG D.Z D.cA j5 μ s.heap μ st s'→s'.heap.get? f=some o→o.cls = .type "function" → f∉μ→Q (.ref f) s') :
  wpAny (model D.Z.prog D.Z.w) A (eval (.Lambda params body lsc pos) env) Q E s:=by
 have hI:=C.hi
 have hcode:env.code = .ref c:=(C.he.lam hnm).trans hl
 obtain⟨ps,hP,hps⟩:=LK.tab _ hI.tab
 have CH:=qC LK.hd fun _ _ hc e=>hI.old.get_of_cls e hc
 have hclo:closureFor lsc env=pure []:=by unfold closureFor; rw[hn]; rfl
 refine kla_eval (show defaultsOf params env=([],[])from by cases params; cases hd; cases hd'; rfl) ?_
 rcases hps with rfl | ⟨cv,rfl⟩
 ·refine kla_makeFunction (mg:=D.Z.mg) hclo C.he.glob hI.glob hcode CH hP (by simp[TriplesOk]) rfl LK.ne.1.symm (CT LK.bm hI.old) fun c' ctv h' tk hx hge hlt hrec htb=>?_
  have CX:CodeHd h' c P:=qC CH fun _ hn _ e=>hx _ _ hn e
  exact AN LK C hQ (tk:=tk) rfl (Nat.le_trans hge (Nat.le_of_lt hlt)) rfl hx (hI.old.step_table (LK.hd.tab LK.tab₀) (CH.tab hP) (CX.tab htb) hx LK.ne.2) ⟨_,htb,.inr ⟨.ref c',by rw[hp.1,hp.2]; rfl⟩⟩
 ·refine kla_makeFunctionHit (mg:=D.Z.mg) (cv:=cv) hclo C.he.glob hI.glob hcode CH hP ?_ ?_ (CT LK.bm hI.old) fun ctv h' tk hk hsz=>AN LK C hQ (tk:=tk) rfl hsz rfl (fun b o _ e=>hk b o e) (hI.old.step_keeps hk) ⟨_,hk _ _ hP,.inr ⟨cv,rfl⟩⟩
  ·simp[TriplesOk,rawInt]
  ·simp[codeAmong,rawInt,hp.1,hp.2]
end
theorem GY:PlainAttrs "re.Pattern" :=
 ⟨⟨"object.__getattribute__",by rw[typeLookup_type,builtinLookup_eq_fast]; kernel_rfl,by decide +kernel⟩,by rw[typeLookup_type,builtinLookup_eq_fast]; kernel_rfl⟩
theorem LN:Slot "re.Pattern" "sub" "re.Pattern.sub" :=
 .of (owner := "re.Pattern") (n := "sub") (by rw[typeLookup_type,builtinLookup_eq_fast]; kernel_rfl) (by decide +kernel) (by decide +kernel) (by decide +kernel)
  (by first | exact .inl (by decide +kernel)| exact .inr (by decide +kernel)) (by rw[isSubtype_type]; kernel_rfl)
theorem K2:typeOf (.builtin "re.Pattern.sub")=pure (.type "method_descriptor"):=by show builtinType _=_; rw[builtinType_eq_fast]; kernel_rfl
noncomputable abbrev dF(l:Array Value)(n:Nat):Obj:={ cls:=.type "list",data:=.seq l n }
noncomputable abbrev JD(od:Option Addr)(oda:Data)(osl:Array (Option Value)):Obj:={ cls:=.type "function",dict:=od,data:=oda,slots:=osl }
noncomputable def BK(h:Heap)(v:Value):Heap:=(h.push (dF #[] 0)).update h.objs.size (Obj.mapSeq fun x=>PySem.W.Fast.tw2398297429280069960 x v)
def Bf(R:Result→Shared→Prop)(s:Shared)(p f t:Addr)(op of ot:Obj)(c:Nat)(tk:Tok):Prop :=
 s.heap.get? p=some op∧qb "re.Pattern.sub" [.ref p,.ref f,.str ⟨#[c]⟩ tk]∧s.heap.get? f=some of∧s.heap.get? p=some op∧s.heap.get? t=some ot ∧
  qb "re.Pattern.sub.loop" [.ref p,.str ⟨#[c]⟩ tk,.ref f,rawInt 1,rawInt 0,rawInt 0,rawInt 0,rawInt 0,.bool false,.ref s.heap.objs.size,.bool false] ∧
  (s.heap.push (dF #[] 0)).get? p=some op∧(s.heap.push (dF #[] 0)).get? t=some ot∧(s.heap.push (dF #[] 0)).get? s.heap.objs.size=some (dF #[] 0) ∧
  (((s.heap.push (dF #[] 0)).get? s.heap.objs.size).isSome=true∧Frag.In [] (BK s.heap (.str ⟨#[c]⟩ s.toks))) ∧
  (BK s.heap (.str ⟨#[c]⟩ s.toks)).get? s.heap.objs.size=some (dF #[.str ⟨#[c]⟩ s.toks] 1)∧(BK s.heap (.str ⟨#[c]⟩ s.toks)).get? s.heap.objs.size=some (dF #[.str ⟨#[c]⟩ s.toks] 1) ∧
  qb "str.join" [.str ⟨#[]⟩ (s.toks+1),.ref s.heap.objs.size] ∧
  (BK s.heap (.str ⟨#[c]⟩ s.toks)).get? s.heap.objs.size=some (dF #[.str ⟨#[c]⟩ s.toks] 1)∧(BK s.heap (.str ⟨#[c]⟩ s.toks)).get? s.heap.objs.size=some (dF #[.str ⟨#[c]⟩ s.toks] 1) ∧
  R (.ok (.ret (.str ⟨#[c]⟩ s.toks))) { s with heap:=BK s.heap (.str ⟨#[c]⟩ s.toks),toks:=s.toks+1+1 }
theorem UG{S:Setting}{R:Result→Shared→Prop}{s:Shared}{p f t:Addr}{sl2 sl3 osl:Array (Option Value)}{a0 a1 a3 a4:Value}{k2 k6:Tok}{dd3 od:Option Addr}{oda:Data}{τ:Nat→Tok}{n c:Nat}{tk:Tok}(hc:(c==42||c==63||c==91)=true) :
  DP D0 [] S 9 (.call (.builtin "re.Pattern.sub") ⟨[.ref p,.ref f,.str ⟨#[c]⟩ tk],[]⟩) (fun r _ s=>R r s) [(0,pH a0 a1 a3 a4 1 k2 k6 t none sl2),(0,JD od oda osl),(0,pH a0 a1 a3 a4 1 k2 k6 t none sl2),(0,sU (S7 zM τ).toArray n dd3 sl3),(0,pH a0 a1 a3 a4 1 k2 k6 t none sl2),(0,sU (S7 zM τ).toArray n dd3 sl3),
   (0,dF #[] 0),(0,dF #[.str ⟨#[c]⟩ s.toks] 1),(0,dF #[.str ⟨#[c]⟩ s.toks] 1),(0,dF #[.str ⟨#[c]⟩ s.toks] 1),(0,dF #[.str ⟨#[c]⟩ s.toks] 1)] s=Bf R s p f t (pH a0 a1 a3 a4 1 k2 k6 t none sl2) (JD od oda osl) (sU (S7 zM τ).toArray n dd3 sl3) c tk:=by
 rcases Bool.or_eq_true_iff.mp hc with h | h
 ·rcases Bool.or_eq_true_iff.mp h with h | h <;> (cases eq_of_beq h; kernel_rfl)
 ·cases eq_of_beq h; kernel_rfl
theorem NL{prog:Program}{w:World}{A:Around}{E:Value→Shared→Prop}{s:Shared}{p f t:Addr}{sl2 sl3 osl:Array (Option Value)}{a0 a1 a3 a4:Value}{k2 k6:Tok}{dd3 od:Option Addr}{oda:Data}{τ:Nat→Tok}{n c:Nat}{tk:Tok}{Q:Value→Shared→Prop}(hh:A.handled=none)
  (hp:s.heap.get? p=some (pH a0 a1 a3 a4 1 k2 k6 t none sl2)) (ht:s.heap.get? t=some (sU (S7 zM τ).toArray n dd3 sl3)) (hf:s.heap.get? f=some (JD od oda osl)) (hc:(c==42||c==63||c==91)=true)
  (h:∀ h' tk tk',(∀ b o,s.heap.get? b=some o→h'.get? b=some o)→Q (.str ⟨#[c]⟩ tk) { s with heap:=h',toks:=tk' }) :
  wpAny (model prog w) A (call (.builtin "re.Pattern.sub") [.ref p,.ref f,.str ⟨#[c]⟩ tk]) Q E s:=by
 have hl:(s.heap.push (dF #[] 0)).get? s.heap.objs.size=some (dF #[] 0):=Heap.get?_push_size _ rfl
 have h2:(BK s.heap (.str ⟨#[c]⟩ s.toks)).get? s.heap.objs.size=some (dF #[.str ⟨#[c]⟩ s.toks] 1):=Heap.get?_update_self _ hl rfl
 exact wpAny_call (I7 (K:=[]) 9 _ _ hh (fun _ _ h=>nomatch h) (UG hc) ⟨hp,Code.quiet_builtin _ (by decide +kernel),hf,hp,ht,Code.quiet_builtin _ (by decide +kernel),Heap.get?_push_of_some _ hp,Heap.get?_push_of_some _ ht,hl,⟨by rw[hl]; rfl,fun _ _ h=>nomatch h⟩,h2,h2,Code.quiet_builtin _ (by decide +kernel),h2,h2,
  h _ _ _ fun b o e=>(Heap.get?_update_other _ _ fun e'=>by rw[← e',get?_ge (Nat.le_refl _)]at e; cases e).trans (Heap.get?_push_of_some _ e)⟩)
noncomputable def KJ(K:Frag):Bool:=iB (eZ K "twin_re_1_fnmatch") fun v=>i7 v fun p=>R0 K p 1 zM
section
variable{D:OD}{sc:Scope}{K:Frag}{c P:Addr}{lp:Nat×Nat}{fuel:Nat}
theorem Az{p apos pos q:Pos}{x body:Expr}{a:Arguments}{lsc:Scope}{nn:Str}(hX:D.Ex fuel)(hK:∀ h,D.Z.TabI h→K.In h)(hK0:K.In D.Z.h₀)(LK:iD D.Z K c P lp)(hl:D.Z.lam = .ref c)(hok:KJ K=true)(hg:aR sc "twin_re_1_fnmatch" = true)(hx:j8 D.nm sc 9 x=true)(hline:(apos.endLine==pos.line)=true)
  (hnm:D.nm.length=14) (hd:a.defaults=[]) (hd':a.kw_defaults=[]) (hq:q.line=lp.1∧q.col=lp.2) (hone:lsc.names=[(nn,.local)]) :
  cM D sc (.Call (.Attribute (.Name "twin_re_1_fnmatch" p) "sub" apos) [.Lambda a body lsc q,x] [] pos) (.ext 5):=fun{A env ρ μ st s v st' Q E}C he g =>
 H7 ((congrFun (congrFun (congrFun hX 5) ρ) st).symm.trans he) fun xs h1 he=>RW he fun d ec he=>iY (show(if(d==42||d==63||d==91)=true then some (OV.d (.str ⟨#[d]⟩),st)else none)=some (v,st')from he) fun hsg he2=>by
 subst ec
 cases he2
 obtain⟨ox,stx,_⟩:=sS hx
 obtain⟨w,hp,hok⟩:=eW hok
 obtain⟨pp,rfl,hok⟩:=mZ hok
 refine U9 hok fun g1 g2=>?_
 have hpl:aV [.Lambda a body lsc q,x]:=lZ rfl stx
 have XK:=hK _ C.hi.tab
 refine wpAny_Call_method_lateS (aQ rfl _ _ _) (jM hpl (Nat.le_of_ble_eq_true rfl)) hline (C.glob hg (fE hK0 hp) ⟨"re.Pattern",_,GY,LN,K2,⟨_,XK _ _ g1,rfl⟩,fun b e=>by cases e; exact⟨_,XK _ _ g1,rfl⟩,aT nofun (hpl.1 env pos) (bT (hpl.2.1 nofun env pos) ?_)⟩)
 rw[bI rfl]
 show wpAny _ A (spliced ((false,eval (.Lambda a body lsc q) env)::backTo pos (starEach [x] env))) _ _ _
 refine Calls.spliced_cons (HT LK hq hone hd hd' hl hnm C fun f s₁ of a₁ hf hfc hfd=>?_)
 refine bX stx ox dB (C.go a₁) (u5 (sX h1)) fun vs s₂ μ₂ a₂ hvs=>qV (m:=fun vs=>wpAny _ A (call (.builtin "re.Pattern.sub") (.ref pp :: .ref f::vs)) Q E s₂) hvs fun w hw=>?_
 obtain⟨tk,rfl,hok2⟩:∃ t,w = .str ⟨#[d]⟩ t∧bK (.str ⟨#[d]⟩)=true:=NO (m:=fun w=>∃ t,w = .str ⟨#[d]⟩ t∧bK (.str ⟨#[d]⟩)=true) hw fun t ok=>⟨t,rfl,ok⟩
 have XK2:=hK _ a₂.i.tab
 obtain⟨⟨oc,od,oda,osl⟩,e',hcl,_⟩:=(a₂.t.keep f of hf (.inl (by rw[hfc]; nofun)) hfd id).ex
 have hcl:oc=_:=hcl.trans hfc
 exact NL C.ha.handled (XK2 _ _ g1) (XK2 _ _ g2) (hcl▸e') hsg fun h' tk1 tk2 hk=>g _ _ μ₂ ((a₁.trans a₂).kp (a₂.i.full (tk:=tk2) hk) (.of hk)) (mW hok2)
end
theorem iD.at{Z:aF}{K:Frag}{c P:Addr}{lp:Nat×Nat}(x:iD Z K c P lp)(fr:List Addr):iD (Z.at fr) K c P lp:={ x with }
noncomputable def SM(K:Frag):Bool:=eZ K "deque" == some (.type "collections.deque")&&((iB (eZ K "shlex") fun v=>i7 v fun a=>keepIn K (.ref a))&&(CK K (qF K) (mH K)&&(KJ K&&KH K)))
theorem WR{m:Nat→Prop}(h0:m 0)(h1:m 1)(h2:m 2)(h3:m 3)(h4:m 4)(h5:m 5)(h6:m 6)(h7:m 7)(h:∀ n,m (n+8)):∀ n,m n
 | 0=>h0 | 1=>h1 | 2=>h2 | 3=>h3 | 4=>h4 | 5=>h5 | 6=>h6 | 7=>h7 | n+8=>h n
theorem TM{sc:Scope}{e:Expr}{n:Str}{f:List Expr→Bool}{m:Expr→Prop}(h:ZZ sc e n f=true)(k:∀ as(p pos:Pos),aR sc n=true→f as=true→m (.Call (.Name n p) as [] pos)):m e:=by
 apply DV h; intro n' as p pos h
 refine aB h fun z h=>?_; apply b9 z
 exact k as p pos (aA h).1 (aA h).2
theorem VU{Z:aF}{K:Frag}{c P:Addr}{lp:Nat×Nat}{fuel:Nat}(hK:∀ h,Z.TabI h→K.In h)(hK0:K.In Z.h₀)(hlam:Z.lam=qZ K)(hB:gO Z)(hb2:vT K (qF K))(LK:iD Z K c P lp)(hl0:Z.lam = .ref c)(h:SM K=true) :
  tI Z (qF K) (mH K) (WY lp) (d7 fuel):=fun cl lvl hC fr nm j=>aB h fun d0 h=>aB h fun d1 h=>aB h fun d2 h=>aB h fun d5 d6=>by
 have hX:OD.Ex ⟨Z.at fr,qF K,cl,d7 fuel cl,lvl+1,nm⟩ fuel:=rfl
 refine WR (m:=fun j=>∀ sc e,WY lp nm j sc e=true→cM ⟨Z.at fr,qF K,cl,d7 fuel cl,lvl+1,nm⟩ sc e (.ext j)) (fun sc e h=>?_) (fun sc e h=>?_) (fun sc e h=>?_) (fun sc e h=>?_) (fun sc e h=>?_) (fun sc e h=>?_) (fun sc e h=>?_) (fun sc e h=>?_) (fun n sc e h=>?_) j
 ·apply TM h; intro as p pos hg h
  apply d9 h
  exact Bc hX hg (fE hK0 (eq_of_beq d0))
 ·apply eH h; intro fe as ks pos h
  apply aN h; intro n p h
  refine aB h fun z h=>aB h fun hg h=>?_; apply b9 z
  apply cJ h; intro x h
  refine aB h fun hx h=>?_
  apply cJ h; intro k h
  obtain⟨kn,ky,kp⟩:=k
  apply qX (m:=fun kn=>cM _ sc (.Call _ [x] [⟨kn,ky,kp⟩] pos) _) h; intro n' h
  refine aB h fun z h=>?_; apply b9 z
  obtain⟨v,ha,d1⟩:=eW d1
  obtain⟨a,rfl,d1⟩:=mZ d1
  exact Bb hX hK (bW.up (hC fr) (Nat.le_succ _)) (a:=a) (show(eZ K "shlex").bind fS=_ by rw[ha]; rfl) hg (fE hK0 ha) d1 hx h
 ·apply TM h; intro as p pos hg h
  apply cJ h; intro x h
  exact Ba hX rfl hK hK0 hlam hB hC hb2 d2 hg h
 ·cases h
 ·cases h
 ·apply lQ h; intro x as apos pos h0 hl h
  refine aB h fun hn h=>?_
  apply aN h; intro n p h
  refine aB h fun z h=>aB h fun hg h=>?_; apply b9 z
  apply cZ h; intro l r h
  refine aB h fun h1 h=>?_
  apply cJ h1; intro y h1
  apply G8 h; intro a body lsc q h
  refine aB h fun h2 h=>aB h fun h3 h=>aB h fun h4 h=>aB h fun h5 h=>?_
  obtain⟨⟨nn,k⟩,e,h6⟩:=W7 h
  exact Az hX hK hK0 (LK.at fr) hl0 d5 hg h1 hl (eq_of_beq hn) (List.isEmpty_iff.mp h2) (List.isEmpty_iff.mp h3) ⟨eq_of_beq h4,eq_of_beq h5⟩ (e.trans (by rw[show k=_ from eq_of_beq h6]))
 ·apply lQ h; intro x as apos pos h0 hl h
  refine aB h fun hx h=>?_
  apply cJ h; intro y h
  apply aN h; intro n p h
  refine aB h fun z hg=>?_; apply b9 z
  exact Ay hX hK hK0 d6 hg hx hl
 ·apply TM h; intro as p pos hg h
  apply d9 h
  exact Ax hX hB hg
 ·cases h
end Kt.Internal
end
section
open PySem PySem.W PyProof.Rows PySem.Calls Builtin
namespace Kt.Internal
noncomputable def ID(h:Heap)(C:Addr):Heap:=(h.push emptyDict).push (instObj C h.objs.size)
noncomputable abbrev F3(C:Addr)(x:Value)(kw:List (Str×Value)):Code:=.builtin "type.__call__" ⟨[.ref C,x],kw⟩
noncomputable def J3(c:Code)(f:Addr→Option (Addr→Addr→Value×Sc)):Option (Addr→Addr→Value×Sc):=match c with
 | .call v _=>(match v with | .ref u=>f u | _=>none)
 | _=>none
noncomputable def Bt(aI:Addr)(c:Code):Option (Addr→Addr→Value×Sc):=J3 c fun u=>bif u==aI then some fun _ _=>(.none,[])else none
noncomputable def Bs(C f aI:Addr)(c:Code):Option (Addr→Addr→Value×Sc):=J3 c fun u=>bif u==aI then some fun _ _=>(.none,[])else bif u==f then some fun x d=>(.ref x,[(0,instObj C d),(1,instObj C d)])else none
noncomputable abbrev XN(prog:Program)(w:World)(K:Frag)(A:Around)(R:Result→Shared→Prop)(s:Shared)(aI y:Addr)(x:Value)(kw:List (Str×Value)):Prop :=
 codeAny (model prog w) A (.call (.ref aI) ⟨[.ref y,x],kw⟩) (fun r s'=>∃ _ _:Addr,r = .ok (.ret .none)∧K.In s'.heap∧R (.ok (.ret (.ref y))) s') s
def ZS(prog:Program)(w:World)(K:Frag)(A:Around)(R:Result→Shared→Prop)(s:Shared)(C aI:Addr)(x:Value)(kw:List (Str×Value)):Prop :=
 (Code.call (.builtin "type.__call__") ⟨[.ref C,x],kw⟩).quiet=true∧(F3 C x kw=F3 C x kw∧(F3 C x kw).quiet=true)∧(Code.builtin "object.__new__" ⟨[.ref C,x],kw⟩).quiet=true ∧
  (ID s.heap C).get? (s.heap.push emptyDict).objs.size=some (instObj C s.heap.objs.size)∧(ID s.heap C).get? (s.heap.push emptyDict).objs.size=some (instObj C s.heap.objs.size) ∧
  XN prog w K (A.under (F3 C x kw)) R { s with heap:=ID s.heap C } aI (s.heap.push emptyDict).objs.size x kw
def ZR(prog:Program)(w:World)(K:Frag)(A:Around)(R:Result→Shared→Prop)(s:Shared)(C f q aI:Addr)(x:Value):Prop :=
 (Code.call (.builtin "type.__call__") ⟨[.ref C,x],[]⟩).quiet=true∧(F3 C x []=F3 C x []∧(F3 C x []).quiet=true)∧qb "type.__getattribute__" [.ref C,.str "__new__" s.toks]∧qb "staticmethod.__get__" [.ref q,.none,.ref C] ∧
  codeAny (model prog w) (A.under (F3 C x [])) (.call (.ref f) ⟨[.ref C,x],[]⟩) (fun r s'=>∃ y d:Addr,r = .ok (.ret (.ref y))∧K.In s'.heap∧s'.heap.get? y=some (instObj C d)∧s'.heap.get? y=some (instObj C d)∧XN prog w K (A.under (F3 C x [])) R s' aI y x []) { s with toks:=s.toks+1 }
noncomputable def H5(w:World)(n:Str)(tk:Tok)(v:Value):Obj→Obj:=Obj.putName n (if n.cps.isEmpty then 0 else reduceHash (w.params.strHash n.cps)) (.str n tk) v
noncomputable abbrev nF:Obj:={ cls:=.type "frame",data:=.dict #[] }
noncomputable abbrev H8(x:Value):Obj:={ cls:=.type "tuple",data:=.seq #[x] }
def XI(K:Frag)(R:Result→Shared→Prop)(s:Shared)(C L:Addr)(h0:Heap)(f1 f2 f3:Obj→Obj):Prop :=
 h0.get? L=some nF∧((h0.get? L).isSome=true∧K.In (h0.update L f1))∧(h0.update L f1).get? L=some (f1 nF)∧(((h0.update L f1).get? L).isSome=true∧K.In ((h0.update L f1).update L f2)) ∧
  ((h0.update L f1).update L f2).get? L=some (f2 (f1 nF))∧((((h0.update L f1).update L f2).get? L).isSome=true∧K.In (((h0.update L f1).update L f2).update L f3))∧(((h0.update L f1).update L f2).update L f3).NoLimit ∧
  (((h0.update L f1).update L f2).update L f3).get? L=some (f3 (f2 (f1 nF)))∧(((h0.update L f1).update L f2).update L f3).get? L=some (f3 (f2 (f1 nF))) ∧
  qb "type.__getattribute__" [.type "object",.str "__new__" (s.toks+1+1+1)]∧(((h0.update L f1).update L f2).update L f3).get? L=some (f3 (f2 (f1 nF)))∧qb "object.__new__" [.ref C] ∧
  R (.ok (.ret (.ref ((((h0.update L f1).update L f2).update L f3).push emptyDict).objs.size))) { s with heap:=ID (((h0.update L f1).update L f2).update L f3) C,toks:=s.toks+1+1+1+1 }
def nS(e:Data)(f:FuncData→Prop):Prop:=if h:e.ctorIdx=7 then Data.func.elim e h f else False
def oC(e:FuncBody)(f:List Stmt→Prop):Prop:=if h:e.ctorIdx=0 then FuncBody.stmts.elim e h f else False
def Z3(K:Frag)(f:Addr)(P:FuncData→List Stmt→Prop):Prop:=fZ (K.lookup f) fun o=>nS o.data fun fd=>oC fd.body fun b=>P fd b
def XR(K:Frag)(C aI:Addr):Prop:=∀(prog:Program)(w:World)(A:Around)(R:Result→Shared→Prop)(s:Shared)(x p:Value),Z6 prog w A K (Bt aI) 9 (.call (.ref C) ⟨[x],[("posix",p)]⟩) (F3 C x [("posix",p)]) R [(26,instObj C s.heap.objs.size),(1,instObj C s.heap.objs.size)] s=ZS prog w K A R s C aI x [("posix",p)]
def XQ(K:Frag)(C f q aI:Addr):Prop:=∀(prog:Program)(w:World)(A:Around)(R:Result→Shared→Prop)(s:Shared)(x:Value),Z6 prog w A K (Bs C f aI) 9 (.call (.ref C) ⟨[x],[]⟩) (F3 C x []) R [] s=ZR prog w K A R s C f q aI x
def zO(w:World)(s:Shared)(C:Addr)(x:Value)(P:(f1 f2 f3:Obj→Obj)→Prop):Prop:=P (H5 w "cls" s.toks (.ref C)) (H5 w "args" (s.toks+1) (.ref s.heap.objs.size)) (H5 w "kwargs" (s.toks+1+1) (.ref (s.heap.push (H8 x)).objs.size))
def TY(K:Frag)(C f:Addr):Prop:=∀(prog:Program)(w:World)(R:Result→Shared→Prop)(s:Shared)(x:Value),zO w s C x fun f1 f2 f3 =>
 Z3 K f (fun fd body=>(!fd.scope.isCoroutine&&(!fd.scope.isGenerator&&jF K fd.qualname fd.code))=true∧Z8 prog w K (fun _=>none) 9 fd body f ⟨[.ref C,x],[]⟩ R [(0,nF),(0,f1 nF),(0,f2 (f1 nF)),(0,f3 (f2 (f1 nF))),(3,f3 (f2 (f1 nF))),(3,f3 (f2 (f1 nF)))] s) =
  (true=true∧XI K R s C ((s.heap.push (H8 x)).push emptyDict).objs.size (((s.heap.push (H8 x)).push emptyDict).push nF) f1 f2 f3)
theorem AE{e:Data}{f:FuncData→Prop}(h:nS e f):∃ a,e = .func a∧f a:=by
 by_cases c:e.ctorIdx=7
 ·exact Data.func.elim (motive:=fun e=>nS e f→∃ a,e = .func a∧f a) e c (fun a h=>⟨a,rfl,h⟩) h
 ·rw[nS,dif_neg c]at h; exact h.elim
theorem G7{e:FuncBody}{f:List Stmt→Prop}(h:oC e f):∃ a,e = .stmts a∧f a:=by
 by_cases c:e.ctorIdx=0
 ·exact FuncBody.stmts.elim (motive:=fun e=>oC e f→∃ a,e = .stmts a∧f a) e c (fun a h=>⟨a,rfl,h⟩) h
 ·rw[oC,dif_neg c]at h; exact h.elim
theorem CF{K:Frag}{f:Addr}{P:FuncData→List Stmt→Prop}(x:Z3 K f P):∃ o fd body,K.lookup f=some o∧o.data = .func fd∧fd.body = .stmts body∧P fd body :=
 let⟨o,e,x⟩:=nI x; let⟨fd,e1,x⟩:=AE x; let⟨b,e2,x⟩:=G7 x; ⟨o,fd,b,e,e1,e2,x⟩
theorem uP{h:Heap}{q:Str}{v:Value}(x:∃ c oc vs t,v = .ref c∧h.get? c=some oc∧oc.cls ≠ .none∧oc.data = .fields vs∧vs[1]? = some (.str q t)):h.CodeRec v q:=by
 obtain⟨c,oc,vs,t,a1,a2,_,r⟩:=x
 exact⟨c,oc,vs,t,a1,a2,r⟩
theorem ZN{d:PyData}(h:d.ctorIdx=0):d = .none:=by cases d <;> first | rfl | cases h
section
variable{Z:aF}{cA fA:Nat→Option Addr}{cl:iZ}{lvl c:Nat}{K:Frag}{μ:List Addr}{st st':St}{A:Around}{s:Shared}{C:Addr}
theorem Bv{a b k:Nat}(hk:1≤k):a+1+b≤a+(b+k):=by rw[Nat.add_assoc,Nat.add_comm 1]; exact Nat.add_le_add_left (Nat.add_le_add_left hk b) a
theorem w5{l:Nat}{x:Value}{kw:List (Str×Value)}(h:f6 Z (l+3) A):f6 Z l (A.under (F3 C x kw)) :=
 ⟨h.handled,Nat.lt_of_le_of_lt (Nat.add_le_add_right (Bv (a:=A.depth) (b:=l) (k:=3) (by decide)) 20) h.depth,Nat.lt_of_le_of_lt (Nat.add_le_add_right (Bv (a:=A.units) (b:=3*l) (k:=9) (by decide)) 200) h.units,h.frames⟩
theorem QH{x dx:Addr}{h':Heap}{l:Nat}(hl:μ.length=l)(hC:cA c=some C)(g1:h'.get? x=some (instObj C dx))(g2:h'.get? dx=some emptyDict)(i:Nat)(b:Addr)(f:FO)(h1:[x,dx][i]? = some b)(h2:[FO.inst c,.dict []][i]? = some f):F7 cA (μ++[x,dx]) h' (l+i) b f:=by
 cases i with
 | zero =>
  cases h1; cases h2
  exact⟨C,dx,hC,by subst hl; exact(List.getElem?_append_right (Nat.le_succ μ.length)).trans (congrArg ([x,dx][·]?) (Nat.add_sub_cancel_left (n:=μ.length) (m:=1))),g1⟩
 | succ i =>
  cases i with
  | zero=>cases h1; cases h2; exact⟨#[],0,#[],g2,.nil,Nat.zero_le _⟩
  | succ i=>cases h1
theorem QI{i:Nat}{xs:List OV}{v:OV}(he:newO cl c i xs st=some (v,st')):v = .o st.length∧cl i (.o st.length::xs) (st++[.inst c,.dict []])=some (.d .none,st'):=aS he fun r hd he=>j7 he fun d ed he=>iY he fun hd0 he =>
 have h:OV.o st.length=v∧r.2=st':=Prod.mk.inj (Option.some.inj he)
 ⟨h.1.symm,hd.trans (congrArg some (Prod.ext (ed.trans (congrArg OV.d (ZN hd0))) h.2))⟩
theorem XA{fI:Nat}{aI x dx:Addr}{tk:Tok}{h':Heap}{vs:List Value}{args:List OV}{v:OV}{R:Result→Shared→Prop}(hCl:bW Z cA cl lvl fA)(hK:∀ h,Z.TabI h→K.In h)(hC:cA c=some C)(hfA:fA fI=some aI)(hI:bA Z s)(hsz:Z.n≤s.heap.objs.size)(S:mI Z cA μ st s.heap)(hA:f6 Z (8*lvl) A)
  (hb:∀ b∈[x,dx],s.heap.objs.size≤b) (hne:x≠dx) (hk:∀ b o,s.heap.get? b=some o→h'.get? b=some o) (g1:h'.get? x=some (instObj C dx)) (g2:h'.get? dx=some emptyDict) (hvs:hW μ vs args)
  (he:newO cl c fI args st=some (v,st')) (hR:hZ Z cA μ s.heap st' v (fun w s'=>R (.ok (.ret w)) s')) :
  codeAny (model Z.prog Z.w) A (.call (.ref aI) (kA fI (.ref x::vs))) (fun r s'=>∃ _ _:Addr,r = .ok (.ret .none)∧K.In s'.heap∧R (.ok (.ret (.ref x))) s') { s with heap:=h',toks:=tk }:=by
 obtain⟨rfl,hd⟩:=QI he
 have a:=(dG.here (L:=j5) hI S).mores (bs:=[x,dx]) (fs:=[.inst c,.dict []]) (tk:=tk) rfl (List.nodup_cons.mpr ⟨fun h=>hne (List.mem_singleton.mp h),List.nodup_cons.mpr ⟨nofun,.nil⟩⟩) (fun b h=>⟨get?_ge (hb b h),⟨Nat.le_trans hsz (hb b h),hI.frLt (hb b h)⟩,id⟩) hk (QH S.len hC g1 g2)
 have ho:VE (μ++[x,dx]) (.ref x) (.o st.length):=⟨x,by rw[← S.len,List.getElem?_append_right (Nat.le_refl _),Nat.sub_self]; rfl,rfl⟩
 refine hCl hfA hd hA a.i (Nat.le_trans hsz (Nat.le_trans (hb x List.mem_cons_self) (Nat.le_of_lt (Heap.lt_size g1)))) a.so (.cons ho (hvs.pre a.t.pre)) fun w s' μ' a' hw=>?_
 have hw:w = .none:=by cases hw.1; rfl
 subst hw
 exact⟨0,0,rfl,hK _ a'.i.tab,hR _ _ _ (a.trans a') (ho.pre a'.t.pre)⟩
theorem U5{aI:Addr}{args:List OV}{v:OV}{vs:List Value}{R:Result→Shared→Prop}(hCl:bW Z cA cl lvl fA)(hK:∀ h,Z.TabI h→K.In h)(hC:cA 0=some C)(hfA:fA 19=some aI)(N:XR K C aI)
  (hA:f6 Z (8*(lvl+2)) A) (hI:bA Z s) (hsz:Z.n≤s.heap.objs.size) (S:mI Z cA μ st s.heap) (hvs:hW μ vs args) (he:kI args (fun x r=>kI r fun p r=>pE r (newO cl 0 19 [x,p] st))=some (v,st'))
  (hR:hZ Z cA μ s.heap st' v (fun w s'=>R (.ok (.ret w)) s')):codeAny (model Z.prog Z.w) A (.call (.ref C) (kA 18 vs)) R s :=
 mN he fun x r e1 he=>mN he fun p r' e2 he=>nO he fun e3 he=>by
 subst e3; subst e2; subst e1
 refine NZ (m:=fun vs=>codeAny (model Z.prog Z.w) A (.call (.ref C) (kA 18 vs)) R s) hvs fun w u hw hu=>?_
 have hx:(ID s.heap C).get? (s.heap.push emptyDict).objs.size=some (instObj C s.heap.objs.size):=Heap.get?_push_size _ rfl
 have hz:(s.heap.push emptyDict).objs.size=s.heap.objs.size+1:=Heap.size_push ..
 refine SS (mk:=Bt aI) 9 _ _ hA.handled (hK _ hI.tab) (N Z.prog Z.w A R s w u) ⟨rfl,⟨rfl,Code.quiet_builtin _ (by decide +kernel)⟩,Code.quiet_builtin _ (by decide +kernel),hx,hx,?_⟩
 refine XA (tk:=s.toks) (vs:=[w,u]) hCl hK hC hfA hI hsz S (w5 (hA.mono (by show 8*lvl+3≤8*lvl+8+8; exact Nat.add_le_add_left (show 3≤16 by decide) (8*lvl)))) (fun b hb=>?_) (fun e=>Nat.succ_ne_self _ (hz.symm.trans e)) (fun b o e=>Heap.get?_push_of_some _ (Heap.get?_push_of_some _ e)) hx (Heap.get?_push_of_some _ (Heap.get?_push_size _ rfl)) (.cons hw (.cons hu .nil)) he hR
 exact(List.mem_cons.mp hb).elim (fun e=>e▸hz▸Nat.le_succ _) fun hb=>List.mem_singleton.mp hb▸Nat.le_refl _
theorem oG{h h':Heap}{L:Addr}{f:Obj→Obj}(hk:∀ b o,h.get? b=some o→h'.get? b=some o)(hn:h.get? L=none)(b:Addr)(o:Obj)(e:h.get? b=some o):(h'.update L f).get? b=some o:=(Heap.get?_update_other _ _ fun e'=>by rw[← e',hn]at e; cases e).trans (hk b o e)
theorem QJ{L:Addr}{h0:Heap}{f1 f2 f3:Obj→Obj}{R:Result→Shared→Prop}(hK:∀ h,Z.TabI h→K.In h)(hI:bA Z s)(hL:h0.get? L=some nF)(hk:∀ b o,s.heap.get? b=some o→h0.get? b=some o)(hn:s.heap.get? L=none)(hz:s.heap.objs.size≤L)(e1:(f1 nF).isFreed=false)(e2:(f2 (f1 nF)).isFreed=false)(e3:(f3 (f2 (f1 nF))).isFreed=false)
  (hR:∀ h' tk y d,(∀ b o,s.heap.get? b=some o→h'.get? b=some o)→(∀ b∈[y,d],s.heap.objs.size≤b)→y≠d→h'.get? y=some (instObj C d)→h'.get? d=some emptyDict→R (.ok (.ret (.ref y))) { s with heap:=h',toks:=tk }):XI K R s C L h0 f1 f2 f3:=by
 have I:∀{h:Heap},(∀ b o,s.heap.get? b=some o→h.get? b=some o)→bA Z { s with heap:=h,toks:=0 }:=fun hk=>hI.full hk
 have k1:=oG (f:=f1) hk hn
 have k2:=oG (f:=f2) k1 hn
 have k3:=oG (f:=f3) k2 hn
 have g1:=Heap.get?_update_self f1 hL e1
 have g2:=Heap.get?_update_self f2 g1 e2
 have g3:=Heap.get?_update_self f3 g2 e3
 refine⟨hL,⟨by rw[hL]; rfl,hK _ (I k1).tab⟩,g1,⟨by rw[g1]; rfl,hK _ (I k2).tab⟩,g2,⟨by rw[g2]; rfl,hK _ (I k3).tab⟩,(I k3).lim,g3,g3,Code.quiet_builtin _ (by decide +kernel),g3,Code.quiet_builtin _ (by decide +kernel),?_⟩
 have hs:=Nat.le_trans hz (Nat.le_of_lt (Heap.lt_size g3))
 generalize ((h0.update L f1).update L f2).update L f3=h3 at k3 hs
 have hz:(h3.push emptyDict).objs.size=h3.objs.size+1:=Heap.size_push ..
 exact hR _ _ _ h3.objs.size (fun b o e=>Heap.get?_push_of_some _ (Heap.get?_push_of_some _ (k3 b o e))) (fun b hb=>(List.mem_cons.mp hb).elim (fun e=>e▸hz▸Nat.le_succ_of_le hs) fun hb=>List.mem_singleton.mp hb▸hs) (fun e=>Nat.succ_ne_self _ (hz.symm.trans e)) (Heap.get?_push_size _ rfl) (Heap.get?_push_of_some _ (Heap.get?_push_size _ rfl))
theorem HV{f:Addr}{x:Value}{R:Result→Shared→Prop}(N:TY K C f)(hh:A.handled=none)(hroom:A.depth<recursionLimit)(hK:∀ h,Z.TabI h→K.In h)(hI:bA Z s)
  (hR:∀ h' tk y d,(∀ b o,s.heap.get? b=some o→h'.get? b=some o)→(∀ b∈[y,d],s.heap.objs.size≤b)→y≠d→h'.get? y=some (instObj C d)→h'.get? d=some emptyDict→R (.ok (.ret (.ref y))) { s with heap:=h',toks:=tk }) :
  codeAny (model Z.prog Z.w) A (.call (.ref f) ⟨[.ref C,x],[]⟩) R s:=by
 have X:=hK _ hI.tab
 have hk:∀ b o,s.heap.get? b=some o→(((s.heap.push (H8 x)).push emptyDict).push nF).get? b=some o:=fun b o e=>Heap.get?_push_of_some _ (Heap.get?_push_of_some _ (Heap.get?_push_of_some _ e))
 have hz:s.heap.objs.size≤((s.heap.push (H8 x)).push emptyDict).objs.size:=by rw[Heap.size_push,Heap.size_push]; exact Nat.le_add_right _ 2
 have e:=(N Z.prog Z.w R s x).mpr ⟨rfl,QJ hK hI (Heap.get?_push_size _ rfl) hk (get?_ge hz) hz rfl rfl rfl hR⟩
 obtain⟨o,fd,body,h1,h2,h3,h4,e⟩:=CF e
 obtain⟨h5,h4⟩:=aA h4
 obtain⟨h6,h7⟩:=aA h4
 exact SH hh X hroom (X _ _ h1) h2 (bO h5) (bO h6) h3 (uP (xU X h7)) e
theorem YK{f q aI:Addr}{args:List OV}{v:OV}{vs:List Value}{R:Result→Shared→Prop}(hCl:bW Z cA cl lvl fA)(hK:∀ h,Z.TabI h→K.In h)(hC:cA 1=some C)(hfA:fA 3=some aI)(N:XQ K C f q aI)(N2:TY K C f)
  (hA:f6 Z (8*(lvl+2)) A) (hI:bA Z s) (hsz:Z.n≤s.heap.objs.size) (S:mI Z cA μ st s.heap) (hvs:hW μ vs args) (he:kI args (fun x r=>pE r ((nG x).bind fun _=>newO cl 1 3 [x] st))=some (v,st'))
  (hR:hZ Z cA μ s.heap st' v (fun w s'=>R (.ok (.ret w)) s')):codeAny (model Z.prog Z.w) A (.call (.ref C) (kA 9 vs)) R s :=
 mN he fun x r e1 h1=>nO h1 fun e2 h2=>aS h2 fun _ _ h3=>by
 subst e2; subst e1
 refine qV (m:=fun vs=>codeAny (model Z.prog Z.w) A (.call (.ref C) (kA 9 vs)) R s) hvs fun w hw=>?_
 have hA1:f6 Z (8*lvl) (A.under (F3 C w [])):=w5 (hA.mono (Nat.add_le_add_left (show 3≤16 by decide) (8*lvl)))
 exact SS (mk:=Bs C f aI) 9 _ _ hA.handled (hK _ hI.tab) (N Z.prog Z.w A R s w) ⟨rfl,⟨rfl,Code.quiet_builtin _ (by decide +kernel)⟩,Code.quiet_builtin _ (by decide +kernel),Code.quiet_builtin _ (by decide +kernel),
  HV (s:={ s with toks:=s.toks+1 }) N2 hA1.handled (Nat.lt_of_le_of_lt (Nat.le_trans (Nat.le_add_right _ _) (Nat.le_add_right _ _)) hA1.depth) hK (hI.tok _) fun h' tk y d hk hb hne g1 g2=>⟨y,d,rfl,(hK _ hI.tab).keeps hk,g1,g1,
   XA (s:={ s with toks:=s.toks+1 }) (tk:=tk) (vs:=[w]) hCl hK hC hfA (hI.tok _) hsz S hA1 hb hne hk g1 g2 (.cons hw .nil) h3 hR⟩⟩
end
def S1(K:Frag)(a:Addr):Prop:=∀(S:Setting)(l x p:Value),fZ (K.lookup a) fun o=>nS o.data fun fd=>peek K S (vW fd ⟨[l,x],[("posix",p)]⟩)=some ((cV.take eA.arity).zip [l,x,.none,p,.bool false])
def K1(K:Frag)(C8 a8 C9 f9 q9 a9:Addr):Prop:=(qF K 0=some C8∧mH K 19=some a8∧mH K 18=some C8)∧(qF K 1=some C9∧mH K 3=some a9∧mH K 9=some C9)∧XR K C8 a8∧(XQ K C9 f9 q9 a9∧TY K C9 f9)∧S1 K a8
section
variable{Z:aF}{K:Frag}{xc:List Str→Nat→Scope→Expr→Bool}{fuel:Nat}
theorem U4{cl:iZ}{lvl:Nat}{a:Addr}{fr:List Addr}{args:List OV}{st st':St}{v:OV}{A:Around}{s:Shared}{vs:List Value}{μ:List Addr}{R:Result→Shared→Prop}(hK:∀ h,Z.TabI h→K.In h)(hK0:K.In Z.h₀)(hlam:Z.lam=qZ K)(hB:gO Z)(hC:∀ fr,bW (Z.at fr) (qF K) cl lvl (mH K))(hX:tI Z (qF K) (mH K) xc (d7 fuel))
  (hck:fB K (fun sc body=>e9 K (qF K) (mH K) (xc cV) cV sc eA.body body) a cV eA=true) (hbo:gP K a cV eA) (N:S1 K a) (hA:f6 (Z.at fr) (8*(lvl+2)) A) (hI:bA (Z.at fr) s) (hsz:Z.n≤s.heap.objs.size) (S:mI (Z.at fr) (qF K) μ st s.heap) (hvs:hW μ vs args)
  (he:kI args (fun l r=>kI r fun x r=>kI r fun p r=>pE r (eY (bG cl (d7 fuel cl) fuel eA.body [some l,some x,some (.d .none),some p,some (.d (.bool false)),none] st)))=some (v,st')) (hR:hZ (Z.at fr) (qF K) μ s.heap st' v (fun w s'=>R (.ok (.ret w)) s')):codeAny (model Z.prog Z.w) A (.call (.ref a) (kA 19 vs)) R s :=
 mN he fun l r e1 he=>mN he fun x r' e2 he=>mN he fun p r'' e3 he=>nO he fun e4 he=>by
 subst e4; subst e3; subst e2; subst e1
 refine TB (m:=fun vs=>codeAny (model Z.prog Z.w) A (.call (.ref a) (kA 19 vs)) R s) hvs fun lv ws hl hvs=>NZ (m:=fun ws=>codeAny (model Z.prog Z.w) A (.call (.ref a) (kA 19 (lv::ws))) R s) hvs fun w u hw hu=>?_
 obtain⟨fd,body,F,hck⟩:=dS hlam hK hK0 hbo hck
 have hb:BindsTo s fd ⟨[lv,w],[("posix",u)]⟩ ((cV.take eA.arity).zip [lv,w,.none,u,.bool false]):=kp_binds (hK _ hI.tab) fun S=>by
  obtain⟨o,e,h⟩:=nI (N S lv w u)
  obtain⟨fd',e',h⟩:=AE h
  obtain⟨o',ho,_,hd⟩:=F.obj
  cases(hK0 _ _ e).symm.trans ho
  cases e'.symm.trans hd
  rw[t6]
  exact h
 exact qO (D:=⟨Z.at fr,qF K,cl,d7 fuel cl,lvl+1,cV⟩) (xc:=xc cV) (fun fr'=>⟨hK,hK0,hB,bW.up (hC fr') (Nat.le_succ _),fun j sc e hx=>hX cl lvl hC fr' cV j sc e hx⟩) (fV.at (D:=⟨Z,qF K,cl,d7 fuel cl,lvl+1,cV⟩) F fr) hck hb rfl
  (D9 (xs:=[l,x,.d .none,p,.d (.bool false)]) (k:=1) (.cons hl (.cons hw (.cons nP (.cons hu (.cons ⟨.bool false,rfl⟩ .nil)))))) he hA hI hsz S hR
theorem P9{C8 a8 C9 f9 q9 a9:Addr}(hK:∀ h,Z.TabI h→K.In h)(hK0:K.In Z.h₀)(hlam:Z.lam=qZ K)(hB:gO Z)(hO:K1 K C8 a8 C9 f9 q9 a9)(hck:fB K (fun sc body=>e9 K (qF K) (mH K) (xc cV) cV sc eA.body body) a8 cV eA=true)(hbo:gP K a8 cV eA)(hX:tI Z (qF K) (mH K) xc (d7 fuel)) :
  F1 Z (qF K) (mH K) DW (IW fuel):=fun cl lvl hC{fr f a args st v st'}_ hf he{A s vs μ R}hA hI hsz S hvs hR=>by
 obtain⟨⟨k1,k2,k3⟩,⟨k4,k5,k6⟩,n8,⟨n9,m9⟩,n19⟩:=hO
 unfold IW at he
 by_cases c9:f=9
 ·rw[if_pos c9]at he
  subst c9
  cases k6.symm.trans hf
  exact YK (Z:=Z.at fr) (hC fr) hK k4 k5 n9 m9 hA hI hsz S hvs he hR
 ·rw[if_neg c9]at he
  by_cases c18:f=18
  ·rw[if_pos c18]at he
   subst c18
   cases k3.symm.trans hf
   exact U5 (Z:=Z.at fr) (hC fr) hK k1 k2 n8 hA hI hsz S hvs he hR
  ·rw[if_neg c18]at he
   by_cases c19:f=19
   ·rw[if_pos c19]at he
    subst c19
    cases k2.symm.trans hf
    exact U4 hK hK0 hlam hB hC hX hck hbo n19 hA hI hsz S hvs he hR
   ·rw[if_neg c19]at he; cases he
end
noncomputable def Cm(c:Nat)(d:Code):Option (Addr→Addr→Value×Sc):=match d with
 | .call v _=>(match v with | .builtin nn=>bif nn == "str.replace" then some (fun x _=>(.str (r7 c) x,[]))else none | _=>none)
 | _=>none
def WT(prog:Program)(w:World)(K:Frag)(R:Result→Shared→Prop)(s:Shared)(p c:Nat)(tk:Tok)(L:Addr)(o1:Obj)(h1 h2:Heap):Prop :=
 h1.get? L=some nF∧((h1.get? L).isSome=true∧K.In h2)∧h2.NoLimit∧h2.get? L=some o1∧qb "str.__len__" [.str ⟨#[c]⟩ tk]∧h2.get? L=some o1∧qb "re.Pattern.search" [.ref p,.str ⟨#[c]⟩ tk] ∧
  bif fT c then h2.get? L=some o1∧R (.ok (.ret (.str ⟨#[c]⟩ tk))) { s with heap:=h2,toks:=s.toks+1+1+1 }
  else((h2.push TP).push (TQ (.str ⟨#[c]⟩ tk) p h2.objs.size)).get? L=some o1∧∀ A:Around,A.handled=none→codeAny (model prog w) A (.call (.builtin "str.replace") ⟨[.str ⟨#[c]⟩ tk,.str "'" (s.toks+4),.str "'\"'\"'" (s.toks+5)],[]⟩)
   (fun r s'=>∃ x _:Addr,r = .ok (.ret (.str (r7 c) x))∧K.In s'.heap∧qb "str.__add__" [.str "'" (s.toks+3),.str (r7 c) x]∧qb "str.__add__" [.str ("'" ++ r7 c) s'.toks,.str "'" (s'.toks+1)]∧R (.ok (.ret (.str ("'" ++ r7 c ++ "'") (s'.toks+2)))) { s' with toks:=s'.toks+3 })
   { s with heap:=(h2.push TP).push (TQ (.str ⟨#[c]⟩ tk) p h2.objs.size),toks:=s.toks+6 }
def JM(K:Frag)(a p c:Nat):Prop:=∀(prog:Program)(w:World)(R:Result→Shared→Prop)(s:Shared)(tk:Tok),
 Z3 K a (fun fd body=>(!fd.scope.isCoroutine&&(!fd.scope.isGenerator&&jF K fd.qualname fd.code))=true∧Z8 prog w K (Cm c) 9 fd body a ⟨[.str ⟨#[c]⟩ tk],[]⟩ R [(0,nF),(0,H5 w "s" s.toks (.str ⟨#[c]⟩ tk) nF),(1,H5 w "s" s.toks (.str ⟨#[c]⟩ tk) nF),(7,H5 w "s" s.toks (.str ⟨#[c]⟩ tk) nF)] s) =
  (true=true∧WT prog w K R s p c tk s.heap.objs.size (H5 w "s" s.toks (.str ⟨#[c]⟩ tk) nF) (s.heap.push nF) ((s.heap.push nF).update s.heap.objs.size (H5 w "s" s.toks (.str ⟨#[c]⟩ tk))))
def GF(K:Frag)(a p:Nat):Prop:=∀ c,i4 c=true→JM K a p c
noncomputable def qS(c:Nat):Str:=bif fT c then⟨#[c]⟩else "'" ++ r7 c ++ "'"
theorem C7{prog:Program}{w:World}{K:Frag}{A:Around}{s:Shared}{a p c:Nat}{tk:Tok}(N:GF K a p)(hc:i4 c=true)(hh:A.handled=none)(hroom:A.depth<recursionLimit)(X:K.In s.heap)(hlim:s.heap.NoLimit) :
  codeAny (model prog w) A (.call (.ref a) ⟨[.str ⟨#[c]⟩ tk],[]⟩) (fun r s'=>(∃ u,r = .ok (.ret (.str (qS c) u)))∧Keeps s s') s:=by
 have hn:s.heap.get? s.heap.objs.size=none:=get?_ge (Nat.le_refl _)
 have hL:(s.heap.push nF).get? s.heap.objs.size=some nF:=Heap.get?_push_size _ rfl
 have k2:=oG (f:=H5 w "s" s.toks (.str ⟨#[c]⟩ tk)) (fun b o e=>Heap.get?_push_of_some nF e) hn
 have g2:=Heap.get?_update_self (H5 w "s" s.toks (.str ⟨#[c]⟩ tk)) hL rfl
 have e:=(N c hc prog w (fun r s'=>(∃ u,r = .ok (.ret (.str (qS c) u)))∧Keeps s s') s tk).mpr ⟨rfl,hL,⟨by rw[hL]; rfl,X.keeps k2⟩,hlim.keeps k2,g2,Code.quiet_builtin _ (by decide +kernel),g2,Code.quiet_builtin _ (by decide +kernel),?_⟩
 ·obtain⟨o,fd,body,h1,h2,h3,h4,e⟩:=CF e
  obtain⟨h5,h4⟩:=aA h4
  obtain⟨h6,h7⟩:=aA h4
  exact SH hh X hroom (X _ _ h1) h2 (bO h5) (bO h6) h3 (uP (xU X h7)) e
 ·unfold qS
  cases fT c with
  | true=>exact⟨g2,⟨_,rfl⟩,_,_,rfl,k2⟩
  | false =>
   refine⟨Heap.get?_push_of_some _ (Heap.get?_push_of_some _ g2),fun A hh=>HU hc rfl fun t t'=>?_⟩
   have k4:=fun b o e=>Heap.get?_push_of_some (TQ (.str ⟨#[c]⟩ tk) p ((s.heap.push nF).update s.heap.objs.size (H5 w "s" s.toks (.str ⟨#[c]⟩ tk))).objs.size) (Heap.get?_push_of_some TP (k2 b o e))
   exact⟨t,0,rfl,X.keeps k4,Code.quiet_builtin _ (by decide +kernel),Code.quiet_builtin _ (by decide +kernel),⟨_,rfl⟩,_,_,rfl,k4⟩
noncomputable def wD(c:Nat):PyData:=.str ⟨#[c]⟩
theorem U3(c:Nat):(qS c).length≤7:=by
 unfold qS r7
 cases fT c with
 | true=>exact(show 1≤7 by decide)
 | false =>
  cases c==39 with
  | true=>exact Nat.le_of_ble_eq_true rfl
  | false=>exact(show 3≤7 by decide)
theorem YI{c:Nat}(h:bK (wD c)=true):PyData.strOk (qS c)=true:=by
 have hc:bK (.str ⟨#[c]⟩)=true:=h
 have h39:bK (.str "'")=true:=by kernel_rfl
 unfold qS r7
 cases fT c with
 | true=>exact(u4 hc).1
 | false =>
  cases c==39 with
  | true=>kernel_rfl
  | false=>exact(u4 (cE (x:=⟨#[39,c]⟩) (cE (x:=⟨#[39]⟩) h39 hc (Nat.le_of_ble_eq_true rfl)) h39 (Nat.le_of_ble_eq_true rfl))).1
theorem UF(ts:List Str):∀ k:Nat,(∀ t∈ts,t.length≤7)→ts.foldl (fun n x=>n+x.length+(" " : Str).length) k≤k+8*ts.length:=by
 induction ts with
 | nil=>exact fun k _=>Nat.le_refl _
 | cons t ts ih=>exact fun k h=>Nat.le_trans (ih _ fun u hu=>h u (List.mem_cons_of_mem _ hu)) (by
   rw[List.length_cons,Nat.mul_succ,Nat.add_comm (8*ts.length),← Nat.add_assoc k]
   exact Nat.add_le_add_right (Nat.add_le_add_right (m:=k+7) (Nat.add_le_add_left (h t List.mem_cons_self) k) 1) _)
theorem wP{cs:List Nat}(hlen:cs.length≤900)(hok:cL (cs.map wD)=true):JoinOk " " (cs.map qS)=true∧bK (.str (Str.join " " (cs.map qS)))=true:=by
 have hj:JoinOk " " (cs.map qS)=true:=by
  unfold JoinOk Builtin.Str.tooLong
  rw[← Array.foldl_toList,Bool.not_eq_true',decide_eq_false_iff_not]
  refine Nat.not_lt.mpr (Nat.le_trans (UF (cs.map qS) 0 fun t h=>?_) ?_)
  ·obtain⟨x,_,rfl⟩:=List.mem_map.mp h
   exact U3 x
  ·rw[List.length_map,Nat.zero_add]
   exact Nat.le_trans (Nat.mul_le_mul_left 8 hlen) (by decide)
 have hl:(Str.join " " (cs.map qS)).length≤sizeLine:=StrLaws.glued_eq_join _ _▸joinFit_length ((Bool.not_eq_true' _).mp hj)
 refine⟨hj,w9 (jV (by kernel_rfl) _ fun t h=>?_) hl⟩
 obtain⟨x,hx,rfl⟩:=List.mem_map.mp h
 exact YI (cC.mp hok (wD x) (List.mem_map_of_mem hx))
theorem LZ{h:Heap}{vs:List Value}{cs:List Nat}{as:List Addr}(r:aU h vs (cs.map wD) as):vs.length=cs.length∧∀(i:Nat)(v:Value),vs[i]? = some v→∃ c t,cs[i]? = some c∧v = .str ⟨#[c]⟩ t:=by
 have hl:vs.length=cs.length:=(aP r).trans (List.length_map _)
 refine⟨hl,fun i v e=>?_⟩
 have hc:cs[i]? = some (cs[i]'(hl▸(List.getElem?_eq_some_iff.mp e).1)):=List.getElem?_eq_getElem _
 obtain⟨v',bs,e',r',_⟩:=gE r ((List.getElem?_map ..).trans (congrArg (Option.map wD) hc))
 cases e.symm.trans e'
 obtain⟨t,ht⟩:=eK r'
 exact⟨_,t,hc,ht⟩
noncomputable def F9:List Str:=["split_command"]
noncomputable def IE:OF:=⟨1,1,[],.nil⟩
noncomputable def xP:List (Str×NameKind):=[((".0" : Str),.local),(("arg" : Str),.local),(("quote" : Str),.globalImplicit)]
noncomputable abbrev IF(p1 p2 p3 p4 p5:Pos)(gsc:Scope)(gpos:Pos):Expr:=.GeneratorExp (.Call (.Name "quote" p1) [.Name "arg" p2] [] p3) [⟨.Name "arg" p4,.Name "split_command" p5,[],0⟩] gsc gpos
def AZ(gp:Nat×Nat)(body:List Stmt):Prop:=∃(k0:Nat)(q0 apos p1 p2 p3 p4 p5 gpos pos rpos:Pos)(gsc:Scope),body=[.Return (some (.Call (.Attribute (.Constant (.str " ") k0 q0) "join" apos) [IF p1 p2 p3 p4 p5 gsc gpos] [] pos)) rpos] ∧
 (apos.endLine==pos.line)=true∧(gpos.line=gp.1∧gpos.col=gp.2)∧gsc.names=xP∧gsc.kind = .function∧gsc.isCoroutine=false
def OB(K:Frag)(a c:Addr)(gp:Nat×Nat):Prop:=Z3 K a fun fd body=>fd.code = .ref c∧AZ gp body
theorem wC(n:Nat):passing (fun _=>true) n 0=List.range n:=by
 unfold passing
 rw[List.drop_zero,List.filter_eq_self]
 exact fun _ _=>rfl
theorem J7{h h':Heap}{P:Addr}(x:h.NoLimit)(hP:P≠cStatics)(hk:∀ b o,b≠P→h.get? b=some o→h'.get? b=some o):h'.NoLimit:=by
 obtain⟨mc,⟨o',es,ep,e,r⟩,b⟩:=x
 exact⟨mc,⟨o',es,ep,hk _ _ hP.symm e,r⟩,b⟩
section
variable{Z:aF}{K:Frag}{c P:Addr}{gp:Nat×Nat}{A:Around}{s:Shared}{E:Value→Shared→Prop}
theorem M8(GK:iD Z K c P gp)(hI:bA Z s){env:Env}{pos:Pos}{q:Str}{sc:Scope}{Q:Value→Shared→Prop}(hcode:env.code = .ref c)(hp:pos.line=gp.1∧pos.col=gp.2)
  (h:∀ code h' tk,Heap.ExtBut P s.heap h'→s.heap.objs.size≤h'.objs.size→OldK Z.h₀ h'→iR P gp h'→Q code { s with heap:=h',toks:=tk }):wpAny (model Z.prog Z.w) A (genexprCode env pos q sc) Q E s:=by
 obtain⟨ps,hP,hps⟩:=GK.tab _ hI.tab
 have C:=qC GK.hd fun _ _ hc e=>hI.old.get_of_cls e hc
 rcases hps with rfl | ⟨cv,rfl⟩
 ·refine wpAny_genexprCodeX hcode (C.code hP (by simp[TriplesOk])) (C.tab hP) rfl fun c' h₃ tk₃ hx hge hlt _ _ htab _=>?_
  exact h _ h₃ tk₃ hx (Nat.le_trans hge (Nat.le_of_lt hlt)) (hI.old.step_table (GK.hd.tab GK.tab₀) (C.tab hP) htab hx GK.ne.2) ⟨_,htab.2,.inr ⟨.ref c',by rw[hp.1,hp.2]; rfl⟩⟩
 ·exact wpAny_genexprCode_hit (c':=cv) hcode (C.code hP (by simp[TriplesOk,rawInt])) (by simp[codeAmong,rawInt,hp.1,hp.2]) (h _ _ s.toks (fun _ _ _ e=>e) (Nat.le_refl _) hI.old ⟨_,hP,.inr ⟨cv,rfl⟩⟩)
theorem QS{aq p0:Addr}{x:Nat}{tx:Tok}{m₂:Str→Option Value}{L:Addr}{code:Value}{env:Env}{p1 p2 p3:Pos}{gsc:Scope}(N:GF K aq p0)(hqn:Z.mg "quote" = some (.ref aq))(hqk:keepIn K (.ref aq)=true)(hx:i4 x=true)(hn:gsc.names=xP)(hk:gsc.kind = .function)(hgl:env.globals=mainGlobals)
  (hh:A.handled=none) (hroom:A.depth<recursionLimit) (X:K.In s.heap) (hlim:s.heap.NoLimit) (hg:s.heap.Ns mainGlobals Z.mg) (hns:s.heap.Ns L m₂) (hm:m₂ "arg" = some (.str ⟨#[x]⟩ tx)) :
  wpAny (model Z.prog Z.w) A (eval (.Call (.Name "quote" p1) [.Name "arg" p2] [] p3) (genEnv gsc [] L code builtinsNs env)) (fun y s'=>(∃ u,y = .str (qS x) u)∧Keeps s s') E s:=by
 have l1:gsc.names.lookup ("quote" : Str)=some .globalImplicit:=by rw[hn]; decide
 have l2:gsc.names.lookup ("arg" : Str)=some .local:=by rw[hn]; decide
 rw[bU]
 refine wpAny_bind (Calls.Name_function_global hk l1 (Calls.loadGlobal_global (mg:=Z.mg) (by show s.heap.Ns env.globals Z.mg; rw[hgl]; exact hg) hqn ?_) (by decide))
 refine callWith_of (P:=K.In) (by rw[(aY rfl).1]; rfl) (keeps_K hqk) (bT (Z:=Z) ((aY rfl).2.1 nofun _ p3) ?_)
 rw[bI rfl]
 show wpAny _ _ (spliced ((false,eval (.Name "arg" p2) (genEnv gsc [] L code builtinsNs env))::backTo p3 (starEach [] (genEnv gsc [] L code builtinsNs env)))) _ _ _
 refine Calls.spliced_cons (wpAny_Name (wpAny_loadName_local hk l2 hns hm (Calls.spliced_nil ⟨X,wpAny_call (codeAny_mono (C7 N hx hh hroom X hlim) fun r s' h=>?_)⟩)) (by decide))
 obtain⟨⟨u,rfl⟩,k⟩:=h
 exact⟨⟨u,rfl⟩,k⟩
theorem WP{h:Heap}{g bi:Addr}{Q:Addr→Shared→Prop}(B:h.BuiltinsAt Z.mg P)(hg:s.heap.Ns g Z.mg)(hk:∀ b o,b≠P→h.get? b=some o→s.heap.get? b=some o)(q:Q builtinsNs s):wpAny (model Z.prog Z.w) A (builtinsFor g bi) Q E s:=by
 obtain⟨bm,ob,hbm,hne0,_,hneP,hbo,hcls,hdict,hdata⟩:=B
 exact wpAny_builtinsFor hg hbm hne0 (hk _ _ hneP hbo) hcls hdict hdata q
noncomputable abbrev I9(l:Addr):Obj:={ cls:=.type "list_iterator",data:=.fields #[.ref l,.int 0 0] }
theorem VW{cs:List Nat}{n:Nat}{lst:List (Str×Tok)}(hn:n=cs.length)(h:ItemsOf (fun j y=>∃ i,(passing (fun _=>true) n 0)[j]? = some i∧∃ x u,cs[i]? = some x∧y = .str (qS x) u) (strValues lst).toArray (passing (fun _=>true) n 0).length):lst.map (·.1)=cs.map qS:=by
 rw[wC,List.length_range,hn]at h
 have hl:lst.length=cs.length:=by simpa [strValues]using h.1
 refine List.ext_getElem? fun j=>?_
 rcases Nat.lt_or_ge j lst.length with hj | hj
 ·obtain⟨i,hi,x,u,hx,he⟩:=h.2 j (.str (lst[j]'hj).1 (lst[j]'hj).2) (by simp[strValues,hj])
  rw[List.getElem?_range (hl▸hj)]at hi
  cases hi
  injection he with he1 _
  rw[List.getElem?_map,List.getElem?_map,hx,List.getElem?_eq_getElem hj,Option.map_some,Option.map_some,he1]
 ·rw[List.getElem?_eq_none (by rw[List.length_map]; exact hj),List.getElem?_eq_none (by rw[List.length_map,← hl]; exact hj)]
theorem M7(GK:iD Z K c P gp)(hK:∀ h,Z.TabI h→K.In h){aq p0:Addr}(N:GF K aq p0)(hqn:Z.mg "quote" = some (.ref aq))(hqk:keepIn K (.ref aq)=true){cs:List Nat}(hcs:∀ x∈cs,i4 x=true)(hlen:cs.length≤900)(hfit:JoinOk " " (cs.map qS)=true)
  {env:Env} {p1 p2 p3 p4 p5 gpos:Pos} {gsc:Scope} {l:Addr} {items:Array Value} {m:Str→Option Value} {t0:Tok} {Q:Value→Shared→Prop} (hp:gpos.line=gp.1∧gpos.col=gp.2) (hn:gsc.names=xP) (hk:gsc.kind = .function) (hco:gsc.isCoroutine=false)
  (hkd:env.scope.kind = .function) (hsc:env.kindOf "split_command" = some .local) (hns:s.heap.Ns env.locals m) (hm:m "split_command" = some (.ref l)) (hl:s.heap.IsList l items) (hcode:env.code = .ref c) (hgl:env.globals=mainGlobals)
  (hA:A.handled=none) (hroom:A.depth+1<recursionLimit) (hI:bA Z s) (hsz0:Z.n≤s.heap.objs.size) (hPl:l≠P) (hil:items.size=cs.length) (hiw:∀(i:Nat)v,items[i]? = some v→∃ x t,cs[i]? = some x∧v = .str ⟨#[x]⟩ t)
  (hQ:∀ s' t,bA Z s'→(∀ b o,b≠P→s.heap.get? b=some o→s'.heap.get? b=some o)→Q (.str (Str.join " " (cs.map qS)) t) s') :
  wpAny (model Z.prog Z.w) A (eval (IF p1 p2 p3 p4 p5 gsc gpos) env) (fun g s'=>wpAny (model Z.prog Z.w) A (call (.builtin "str.join") [.str " " t0,g]) Q E s') E s:=by
 have hclo:closureFor gsc env=pure []:=by unfold closureFor; rw[hn]; rfl
 refine wpAny_GeneratorExp_walksQD (cl:=[]) hA hco hclo (by rw[hn]; decide) (by rw[hn]; decide) (by rw[hn]; decide) hk (Nat.lt_of_succ_lt hroom) ?_ (fun _=>rfl)
 refine wpAny_Name (wpAny_loadName_local hkd hsc hns hm ?_) (by decide)
 have I2:bA Z { s with heap:=s.heap.push (I9 l) }:=hI.push _ s.toks
 refine wpAny_pyIter_list hl ⟨I2.lim,M8 GK I2 hcode hp fun code h₃ tk₃ hx hsz hold htab=>?_⟩
 have hit:=Heap.get?_push_size (h:=s.heap) (o:=I9 l) rfl
 have hPs:P<s.heap.objs.size:=let⟨_,e,_⟩:=GK.tab _ hI.tab; Heap.lt_size e
 have hlt:l<s.heap.objs.size:=let⟨_,e,_⟩:=hl; Heap.lt_size e
 have hk3:∀ b o,b≠P→s.heap.get? b=some o→h₃.get? b=some o:=fun b o hb e=>hx b o hb (Heap.get?_push_of_some _ e)
 have hs3:s.heap.objs.size<h₃.objs.size:=Nat.lt_of_lt_of_le (Heap.size_push s.heap (I9 l)▸Nat.lt_succ_self _) hsz
 refine WP (CT GK.bm hI.old) (by rw[hgl]; exact hI.glob.at' fun o e=>hk3 _ o GK.ne.1.symm e) hk3 ?_
 refine⟨s.heap.objs.size,[s.heap.objs.size,l],[s.heap.objs.size],items.size,_,_,fun _=>true,fun i y=>∃ x u,cs[i]? = some x∧y = .str (qS x) u,rfl,fun A' hA'=>Walks.list hA' _ _ (Nat.ne_of_lt hlt) items,
  ⟨⟨_,hx _ _ (fun e=>Nat.ne_of_lt hPs e.symm) hit,rfl,rfl⟩,let⟨o',e,r⟩:=hl; ⟨o',hk3 _ _ hPl e,r⟩⟩,fun b hb=>(List.mem_cons.mp hb).elim (fun e=>e▸hs3) fun hb=>(List.mem_singleton.mp hb).symm▸Nat.lt_trans hlt hs3,J7 hI.lim GK.ne.2 hk3,fun h=>Nat.ne_of_lt (let⟨_,hn,_⟩:=hI.lim; hn.lt) (List.mem_singleton.mp h),
  fun href hhref=>⟨fun A' E' i v t m₂ _ _ _ _ _ _ _=>by rw[List.forIn_nil]; exact wpAny_pure ⟨rfl,_,_,rfl,fun _ _ e=>e⟩,fun A' E' i v t m₂ hA' hD _ hPi _ hns' hm' hk'=>?_⟩,fun a h₅ tk gs hgb hag hsz₅ hk₅ W hat=>?_⟩
 ·obtain⟨x,tx,hx',rfl⟩:=hiw i v hPi
  have hk2:∀ b o,b≠P→s.heap.get? b=some o→t.heap.get? b=some o:=fun b o hb e=>hk' b (List.mem_range.mpr (Nat.lt_trans (Heap.lt_size e) hs3)) (fun h=>Nat.ne_of_lt (Heap.lt_size e) (List.mem_singleton.mp h)) o (hhref b o (hk3 b o hb e))
  refine wpAny_mono (QS N hqn hqk (hcs x (List.mem_of_getElem? hx')) hn hk hgl hA' (Nat.lt_of_le_of_lt hD hroom) (fun b o e=>hk2 b o (fun e'=>nomatch (e'▸GK.out).symm.trans e) (hK _ hI.tab b o e)) (J7 hI.lim GK.ne.2 hk2) (hI.glob.at' fun o e=>hk2 _ o GK.ne.1.symm e) hns' hm') (fun y s' h=>?_) fun _ _ e=>e
  obtain⟨⟨u,hu⟩,k⟩:=h
  exact⟨⟨x,u,hx',hu⟩,k⟩
 ·have hn':(passing (fun _=>true) items.size 0).length=cs.length:=by rw[wC,List.length_range,hil]
  have hge:∀ b∈[h₃.objs.size,s.heap.objs.size],s.heap.objs.size≤b:=fun b hb=>(List.mem_cons.mp hb).elim (fun e=>e▸Nat.le_of_lt hs3) fun hb=>List.mem_singleton.mp hb▸Nat.le_refl _
  refine SC.joinGen W.in4_2 (fun i s' st=>st.1.typeIs) hat (fun b hb=>?_) List.mem_cons_self (fun i v hv=>?_) (fun s'' lst hmo hit=>?_) (by rw[hn']; exact Nat.le_trans hlen (by decide))
  ·show b<h₅.objs.size
   rw[hsz₅]
   exact(List.mem_cons.mp hb).elim (fun e=>e▸Nat.lt_succ_self _) fun hb=>(List.mem_cons.mp hb).elim (fun e=>e▸Nat.lt_succ_of_lt hag) fun hb=>Nat.lt_succ_of_lt (Nat.lt_trans (List.mem_range.mp hb) hag)
  ·obtain⟨_,_,x,u,_,e⟩:=hv
   exact⟨_,_,e⟩
  ·rw[VW hil hit,show Txt.join " " (cs.map qS)=Str.join " " (cs.map qS)from StrLaws.glued_eq_join _ _]
   have hm:∀ b o,b<s.heap.objs.size→h₅.get? b=some o→s''.heap.get? b=some o:=fun b o hb e=>hmo.heap b o (fun hw=>Nat.not_lt.mpr (hge b hw) hb) e
   have hkw:∀ b o,b≠P→s.heap.get? b=some o→s''.heap.get? b=some o:=fun b o hb e=>hm b o (Heap.lt_size e) (hk₅ b o (hk3 b o hb e))
   exact⟨hfit,fun t' k=>hQ _ _ (GK.inv hI hkw (OldK.stepOld (hold.step_keeps hk₅) fun b o hb e=>hm b o (Nat.lt_of_lt_of_le hb hsz0) e) ((htab.keeps hk₅).imp fun _ x=>x.imp_left (hm _ _ hPs)) (hmo.gens.bare (hI.gens.push hgb)) hmo.os) hkw⟩
theorem HI(hlam:Z.lam=qZ K)(hK:∀ h,Z.TabI h→K.In h)(hK0:K.In Z.h₀)(GK:iD Z K c P gp){a aq p0:Addr}(J:OB K a c gp)(hbo:gP K a F9 IE)(hck:fB K (fun _ _=>true) a F9 IE=true)(N:GF K aq p0)(hqn:Z.mg "quote" = some (.ref aq))(hqk:keepIn K (.ref aq)=true)
  {cs:List Nat} (hcs:∀ x∈cs,i4 x=true) (hlen:cs.length≤900) {vs:List Value} {as:List Addr} {Q:Value→Shared→Prop} (hA:f6 Z 20 A) (hI:bA Z s) (hsz:Z.n≤s.heap.objs.size) (r:aU s.heap vs [.list (cs.map wD)] as) (hok:cL (cs.map wD)=true)
  (hQ:∀ v s',bA Z s'→Kp Z.n s.heap s'.heap→Rd s'.heap v (.str (Str.join " " (cs.map qS))) []→bK (.str (Str.join " " (cs.map qS)))=true→Q v s'):wpAny (model Z.prog Z.w) A (call (.ref a) vs) Q E s :=
 kP (m:=fun vs _=>wpAny (model Z.prog Z.w) A (call (.ref a) vs) Q E s) r fun v bs rv=>by
 obtain⟨l,items,n,sl,cs',rfl,hl,hr,_⟩:=eT rv
 obtain⟨hil,hiw⟩:=LZ hr
 obtain⟨o,fd,body,j1,j2,j3,hcode,hjb⟩:=CF J
 obtain⟨fd',body',FF,_⟩:=dS hlam hK hK0 hbo hck
 obtain⟨o',f1,_,f3⟩:=FF.obj
 cases(hK0 _ _ j1).symm.trans f1
 cases j2.symm.trans f3
 cases j3.symm.trans FF.body
 obtain⟨k0,q0,apos,p1,p2,p3,p4,p5,gpos,pos,rpos,gsc,rfl,hline,hp,g3,g4,g5⟩:=hjb
 obtain⟨dv,hdv,hb⟩:=FF.bind
 cases hdv
 have hb:BindsTo s fd ⟨[.ref l],[]⟩ ((F9.take IE.arity).zip [.ref l]):=hb s [.ref l] hI.tab (Nat.le_refl _) (Nat.le_refl _)
 refine wpAny_call (B5 (D:=⟨Z,fun _=>none,fun _ _ _=>none,fun _ _ _=>none,1,F9⟩) (ρ:=[none]) (μ:=[]) (st:=[]) FF hb rfl (fun x v h=>by cases x with | zero=>cases h | succ x=>cases h) (hA.mono (show 8*(1+1)≤20 by decide)) hI hsz ⟨rfl,.nil,nofun,fun k x f h=>nomatch h⟩ fun env s₁ _ C out hx=>hx.2.2.elim fun m hm=>?_)
 have henv:=hx.1
 have hk1:=hx.2.1
 have hml:m "split_command" = some (.ref l):=hm.2 0 _ rfl
 have hP0:∀ b ob,s₁.heap.get? b=some ob→(ob.cls ≠ .none∨Z.n≤b)→b≠P:=fun b ob e h e'=>by
  obtain⟨ps,hP,_⟩:=GK.tab _ C.hi.tab
  subst e'
  cases hP.symm.trans e
  exact h.elim (fun h=>h rfl) fun h=>Nat.not_lt.mpr h (Heap.lt_size GK.tab₀)
 have hpl:aV [IF p1 p2 p3 p4 p5 gsc gpos]:=aY rfl
 refine wpAny_execs_cons (wpAny_Return_some (wpAny_Call_method_lateS (aQ rfl _ _ _) (jM hpl (Nat.le_of_ble_eq_true rfl)) hline ?_))
 rw[arm_eval_Constant]
 refine wpAny_mkText ⟨"str",_,F.plainAttrs_str,F.slot_str_join,F.type_str_join,typeIs_str _ _ _,nofun,aT nofun (hpl.1 env pos) (bT (Z:=Z) (hpl.2.1 nofun env pos) ?_)⟩
 rw[bI rfl]
 show wpAny _ _ (spliced ((false,eval (IF p1 p2 p3 p4 p5 gsc gpos) env)::backTo pos (starEach [] env))) _ _ _
 refine Calls.spliced_cons (wpAny_mono (M7 (Z:=Z.at (env.locals::Z.fr)) (GK.at _) hK N hqn hqk hcs hlen (wP hlen hok).1 hp g3 g4 g5 (C.he.kind) (henv▸FF.params _ (by decide)) hm.1 hml ⟨_,hk1 _ _ hl,rfl,_,rfl⟩ (henv▸hcode) C.he.glob C.ha.handled (Nat.lt_of_le_of_lt (Nat.add_le_add (Nat.le_add_right _ _) (by decide:1≤20)) C.ha.depth) (C.hi.tok _) C.he.size (hP0 l _ (hk1 _ _ hl) (.inl nofun)) (hil▸rfl) (fun i v e=>hiw i v (Array.getElem?_toList▸e)) fun s' t I' hk'=>?_) (fun _ _ h=>Calls.spliced_nil h) fun _ _ e=>e)
 have o':=out (so:=[]) (μ':=[]) (s':=s') ⟨I',⟨List.prefix_rfl,fun b ob e h _ _=>.inl (hk' b ob (hP0 b ob e h) e),nofun⟩,⟨rfl,.nil,nofun,fun k x f h=>nomatch h⟩⟩
 exact hQ _ _ o'.i ⟨fun b ob e h=>o'.t.keep b ob e h nofun id⟩ (.str _ _) (wP hlen hok).2
end
theorem KV{p:Program}{loose:List Str}{mean:ExcName→Option Value}{mg mb:Str→Option Value}{h₀:Heap}{P:Addr}(T:Top p loose mean mg mb h₀)(hP:h₀.get? P=some (tabObj #[])):(P≠mainGlobals∧P≠cStatics)∧h₀.BuiltinsAt mg P:=by
 have hn:∀{a m},h₀.Ns a m→P≠a:=fun x e=>by
  obtain⟨o,es,ep,e1,e2,_⟩:=x
  rw[← e,hP]at e1; cases e1; cases e2
 obtain⟨mc,hc,_⟩:=T.nolimit
 refine⟨⟨hn T.g,hn hc⟩,?_⟩
 obtain⟨bm,ob,h1,h2,h3,h4,h5,h6⟩:=T.bmain
 refine⟨bm,ob,h1,h2,fun e=>?_,fun e=>?_,h3,h4,h5,h6⟩
 ·obtain⟨o,es,ep,e1,e2,_⟩:=T.g
  rw[← e,h3]at e1; cases e1; rw[h6]at e2; cases e2
 ·rw[e,hP]at h3; cases h3; cases h6
structure gS(Z:aF)(K:Frag)(lp gp:Nat×Nat)(c1 P1 c2 P2:Addr):Prop where
 hK:∀ h,Z.TabI h→K.In h
 hK0:K.In Z.h₀
 tab₀:Z.TabI Z.h₀
 lam:Z.lam = .ref c1
 lok:iD Z K c1 P1 lp
 gok:iD Z K c2 P2 gp
 mb:∀ x:Str,x ≠ "__name__" → Z.mb x=bootBuiltins x
theorem OC{prog:Program}{w:World}{p:Program}{loose:List Str}{mean:ExcName→Option Value}{mg mb:Str→Option Value}{s:Shared}{K:Frag}{lp gp:Nat×Nat}{c1 P1 c2 P2:Addr}(T:Top p loose mean mg mb s.heap)(X:K.In s.heap)(e1:s.heap.get? P1=some (tabObj #[]))(e2:s.heap.get? P2=some (tabObj #[]))
  (h1:codeHdIn K c1 P1=true) (h2:codeHdIn K c2 P2=true) (n1:K.lookup P1=none) (n2:K.lookup P2=none) (ne:P1≠P2) :
  ∃ Z:aF,gS Z K lp gp c1 P1 c2 P2∧(Z.prog=prog∧Z.w=w∧Z.h₀=s.heap∧Z.os=s.os)∧Z.mg=mg∧Z.fr=[]:=by
 have l1:=Heap.lt_size e1
 have l2:=Heap.lt_size e2
 refine⟨{
  prog:=prog,w:=w,h₀:=s.heap,os:=s.os,mg:=mg,mb:=mb,hg:=T.g,hb:=T.b,fr:=[],lam:=.ref c1
  TabI:=fun h=>K.In h∧iR P1 lp h∧iR P2 gp h
  tabK:=fun h h' x k=>⟨fun a o e=>k a o (Heap.lt_size (X a o e)) (x.1 a o e),x.2.1.imp fun _ y=>y.imp_left (k _ _ l1),x.2.2.imp fun _ y=>y.imp_left (k _ _ l2)⟩ },?_,⟨rfl,rfl,rfl,rfl⟩,rfl,rfl⟩
 obtain⟨a1,b1⟩:=KV T e1
 obtain⟨a2,b2⟩:=KV T e2
 exact{
  hK:=fun h x=>x.1
  hK0:=X
  tab₀:=⟨X,⟨_,e1,.inl rfl⟩,_,e2,.inl rfl⟩
  lam:=rfl
  lok:=⟨codeHd_of_K X h1,e1,n1,a1,b1,fun h x=>x.2.1,fun h h' x k t=>⟨fun a o e=>k a o (fun e'=>by rw[e',n1]at e; cases e) (x.1 a o e),t,x.2.2.imp fun _ y=>y.imp_left (k _ _ ne.symm)⟩⟩
  gok:=⟨codeHd_of_K X h2,e2,n2,a2,b2,fun h x=>x.2.2,fun h h' x k t=>⟨fun a o e=>k a o (fun e'=>by rw[e',n2]at e; cases e) (x.1 a o e),x.2.1.imp fun _ y=>y.imp_left (k _ _ ne),t⟩⟩
  mb:=T.builtins }
noncomputable def yV(K:Frag)(n:Str):Bool:=iB (K.lookup mainGlobals) fun o=>s8 o.data fun es _=>(nsFind es n).isNone
structure f4(K:Frag)(lp gp:Nat×Nat)(c1 P1 c2 P2:Addr)(C8 a8 C9 f9 q9 a9 aj aq p0:Addr):Prop where
 b:(([codeHdIn K c1 P1,codeHdIn K c2 P2,(K.lookup P1).isNone,(K.lookup P2).isNone,P1 != P2,qZ K == .ref c1,SM K,s9.all (wJ K (WY lp)),(iM++sO).all fun x=>yV K x.1,yV K "ValueError",
  fB K (fun sc body=>e9 K (qF K) (mH K) (WY lp cV) cV sc eA.body body) a8 cV eA,eZ K "join_shlex" == some (.ref aj),fB K (fun _ _=>true) aj F9 IE,eZ K "quote" == some (.ref aq),keepIn K (.ref aq)]:List Bool).all id)=true
 bd:(mU s9 fun p=>fZ (mH K p.1) fun a=>gP K a p.2.1 p.2.2)∧gP K a8 cV eA∧gP K aj F9 IE∧vT K (qF K)
 cls:K1 K C8 a8 C9 f9 q9 a9
 j:OB K aj c2 gp
 q:GF K aq p0
section
variable{Z:aF}{K:Frag}{lp gp:Nat×Nat}{c1 P1 c2 P2:Addr}{C8 a8 C9 f9 q9 a9 aj aq p0:Addr}
theorem wT(X:K.In Z.h₀){n:Str}(h:yV K n=true):Z.mg n=none:=by
 obtain⟨o,hk,h⟩:=eW h
 obtain⟨es,m,hd,h⟩:=E0 h
 obtain⟨o',es',ep,e,hd',_,hall⟩:=Z.hg
 cases(X _ _ hk).symm.trans e
 cases hd.symm.trans hd'
 exact(hall n).symm.trans (Option.isNone_iff_eq_none.mp h)
theorem RD:((iM++sO).all fun x=>bootBuiltins x.1==some x.2&&x.1 != ("__name__" : Str))=true:=by kernel_rfl
theorem q7(ZO:gS Z K lp gp c1 P1 c2 P2)(H:f4 K lp gp c1 P1 c2 P2 C8 a8 C9 f9 q9 a9 aj aq p0){n:Str}{v:Value}(h:(n,v)∈iM++sO):Z.mg n=none∧Z.mb n=some v :=
 have h2:=aA (List.all_eq_true.mp RD _ h)
 ⟨wT ZO.hK0 (List.all_eq_true.mp (aL H.b 8 rfl) _ h),(ZO.mb _ (bne_iff_ne.mp h2.2)).trans (eq_of_beq h2.1)⟩
theorem Y2(ZO:gS Z K lp gp c1 P1 c2 P2)(H:f4 K lp gp c1 P1 c2 P2 C8 a8 C9 f9 q9 a9 aj aq p0)(F lvl:Nat)(fr:List Addr):bW (Z.at fr) (qF K) (aJ F lvl) (2*lvl) (mH K):=by
 have hB:gO Z:=fun n v h=>q7 ZO H (List.mem_append_left _ h)
 have hl:Z.lam=qZ K:=ZO.lam.trans (eq_of_beq (aL H.b 5 rfl)).symm
 have hX:tI Z (qF K) (mH K) (WY lp) (d7 F):=VU ZO.hK ZO.hK0 hl hB H.bd.2.2.2 ZO.lok ZO.lam (aL H.b 6 rfl)
 exact fun{f a args st v st'}h1 h2{A s vs μ R}=>P4 (fuel:=F) ZO.hK ZO.hK0 hB (J6 hl ZO.hK ZO.hK0 H.bd.1 (aL H.b 7 rfl)) (P9 ZO.hK ZO.hK0 hl hB H.cls (aL H.b 10 rfl) H.bd.2.1 hX) hX lvl fr h1 h2
end
noncomputable def xJ:List PyData→Option (List Nat)
 | []=>some []
 | x::r=>mE x fun s=>kI s.cps.toList fun c t=>pE t ((xJ r).map (c :: ·))
theorem vY:∀{xs:List PyData}{cs:List Nat},xJ xs=some cs→xs=cs.map wD
 | [],_,h=>by cases h; rfl
 | x::r,cs,h=>f7 h fun s es h=>mN h fun c t ec h=>nO h fun et h=>bY h fun cs' h1 e=>by
  have e2:s=⟨#[c]⟩:=congrArg Str.mk (Array.toList_inj.mp (ec.trans (congrArg (c :: ·) et)))
  rw[← e,es,e2,vY h1]; rfl
noncomputable def tC:List OV→Option (List PyData)
 | []=>some []
 | v::r=>qY v fun x=>if flat x&&bK x then(tC r).map (x :: ·)else none
noncomputable def pG(F:Nat)(x:Str):Option PyData:=(aJ F 6 15 [.d (.str x)] []).bind fun r=>IC r.1 fun k=>fL r.2[k]? fun vs=>(tC vs).map .list
noncomputable def iJ(F:Nat)(x:Str):Option PyData:=(aJ F 6 14 [.d (.str x)] []).bind fun r=>qY r.1 fun d=>if flat d&&bK d then some d else none
noncomputable def zI(xs:List PyData):Option PyData:=(xJ xs).bind fun cs=>if cs.all i4&&decide (cs.length≤900)then some (.str (Str.join " " (cs.map qS)))else none
noncomputable def IG(ded:List PyData→Option PyData)(xs ys:List PyData):Option PyData:=(ded [.list xs]).bind fun a=>(ded [.list ys]).bind fun b=>i8 a fun xs'=>i8 b fun ys'=>if PyData.depthAll xs'≤64 then some (.bool (iQ xs' ys'))else none
noncomputable def DT(F:Nat)(ded:List PyData→Option PyData)(n:Str)(args:List PyData):Option PyData:=kI args fun x r =>
 if n = "split" then pE r (mE x (pG F))else if n = "translate" then pE r (mE x (iJ F))else if n = "join_shlex" then pE r (i8 x zI)
 else if n = "_compare_args_orderless" then kI r fun y r'=>pE r' (i8 x fun xs=>i8 y fun ys=>IG ded xs ys)else none
theorem HQ{μ:List Addr}{h:Heap}{vs:List Value}{xs:List OV}(hv:hW μ vs xs):∀{ds:List PyData},tC xs=some ds→aU h vs ds []∧cL ds=true∧ds.length=xs.length:=by
 induction hv with
 | nil=>intro ds hd; cases hd; exact⟨.nil,rfl,rfl⟩
 | @cons v x vs xs h1 _ ih =>
  exact fun{ds}hd=>j7 hd fun d e hd=>iY hd fun hx hd=>bY hd fun ds' h2 ed=>by
   obtain⟨g1,g2,g3⟩:=ih h2
   subst e; subst ed
   exact⟨.cons (as:=[]) (bs:=[]) (qG.rd h1 h).1 g1,Bool.and_eq_true_iff.mpr ⟨(aA hx).2,g2⟩,congrArg (· + 1) g3⟩
noncomputable def CQ:List Str:=["first_args", "second_args", "first_unhashable", "second_unhashable", "t", "elem"]
noncomputable def W3(d:Nat)(pf:PF)(f:Nat):Option PF:=if f=d then some pf else none
noncomputable def xC(F d:Nat)(pf:PF):Nat→List PyData→Option PyData:=cG (W3 d pf) (fun _ _=>none) F 1
def DX(K:Frag)(fn:List Str)(d:Nat):Prop:=mP K "_compare_args_orderless" CQ 2∧((mH K 15).isSome&&((mH K 14).isSome&&tV K (fun sc body=>yT fn CQ sc d body) "_compare_args_orderless" CQ 2))=true
section
variable{Z:aF}{K:Frag}{lp gp:Nat×Nat}{c1 P1 c2 P2:Addr}{C8 a8 C9 f9 q9 a9 aj aq p0:Addr}{F:Nat}{fn:List Str}{d:Nat}
theorem ZM(hB:f8 Z){tab:Nat→Option PF}{pf:PF}(hT:sP Z fn tab)(hd:tab d=some pf)(fr:List Addr):dZ (Z.at fr) 1 fn (xC F d pf) :=
 CS (Z:=Z) (c:=0) hB (fun f n pf' hn h=>iY h fun e h=>hT f n pf' hn (by rw[e,hd]; exact h)) (fun fr f n args dd _ _ h=>by cases h) 1 fr
theorem MV(ZO:gS Z K lp gp c1 P1 c2 P2)(H:f4 K lp gp c1 P1 c2 P2 C8 a8 C9 f9 q9 a9 aj aq p0){fr:List Addr}{f:Nat}{a:Addr}(hf:mH K f=some a)(hk:H0 f=[]){x:Str}{v:OV}{st':St}(h:aJ F 6 f [.d (.str x)] []=some (v,st')){A:Around}{s:Shared}{vs:List Value}{as:List Addr}{Q E:Value→Shared→Prop}
  (hA:f6 (Z.at fr) 100 A) (hI:bA (Z.at fr) s) (hsz:Z.n≤s.heap.objs.size) (r:aU s.heap vs [.str x] as) (hok:cL [.str x]=true)
  (hQ:∀ w s' μ',dG (Z.at fr) (qF K) j5 [] s.heap μ' st' s'→VE μ' w v→Q w s'):wpAny (model Z.prog Z.w) A (call (.ref a) vs) Q E s :=
 kP (m:=fun vs _=>wpAny (model Z.prog Z.w) A (call (.ref a) vs) Q E s) r fun u bs ru=>S3 (m:=fun u=>wpAny (model Z.prog Z.w) A (call (.ref a) [u]) Q E s) ru fun t=>by
 have:=Y2 ZO H F 6 fr hf h (A:=A) (s:=s) (vs:=[.str x t]) (μ:=[]) (R:=wants Q E) (hA.mono (show 8*(2*6)≤100 by decide)) hI hsz ⟨rfl,.nil,nofun,fun k x f h=>nomatch h⟩ (.cons (mW (aA hok).1) .nil) fun w s' μ' a g=>hQ w s' μ' a g
 rw[jG hk]at this
 exact wpAny_call this
theorem Y8{fr:List Addr}{μ':List Addr}{st':St}{s s':Shared}(a:dG (Z.at fr) (qF K) j5 [] s.heap μ' st' s'):Kp Z.n s.heap s'.heap:=⟨fun b o e c=>a.t.keep b o e c nofun id⟩
theorem CB(ZO:gS Z K lp gp c1 P1 c2 P2)(H:f4 K lp gp c1 P1 c2 P2 C8 a8 C9 f9 q9 a9 aj aq p0):Z.lam=qZ K:=ZO.lam.trans (eq_of_beq (aL H.b 5 rfl)).symm
theorem z0(ZO:gS Z K lp gp c1 P1 c2 P2)(H:f4 K lp gp c1 P1 c2 P2 C8 a8 C9 f9 q9 a9 aj aq p0){f:Nat}{pf:OF}(ht:DW f=some pf)(hs:(mH K f).isSome=true)(hk:H0 f=[]){n:Str}(hg:mH K f=(eZ K n).bind fS){x:Str}{d:PyData}{q:OV×St}
  (hq:aJ F 6 f [.d (.str x)] []=some q) {fr:List Addr} (hr:∀{s s':Shared}{μ':List Addr}{w:Value},dG (Z.at fr) (qF K) j5 [] s.heap μ' q.2 s'→VE μ' w q.1→∃ bs,Rd s'.heap w d bs∧bK d=true∧∀ y∈bs,∀ o,s.heap.get? y=some o→o.cls = .none):jO (Z.at fr) 100 n [.str x] d:=by
 obtain⟨a,ha⟩:=Option.isSome_iff_exists.mp hs
 obtain⟨_,fd,_,_,FF,_⟩:=J6 (CB ZO H) ZO.hK ZO.hK0 H.bd.1 (aL H.b 7 rfl) f pf a ht ha
 obtain⟨o,h1,h2,h3⟩:=FF.obj
 exact⟨a,o,fd,aS (hg.symm.trans ha) fun v hv h=>fE ZO.hK0 (hv.trans (congrArg some (YF h))),h1,h2,h3,fun A s vs as Q E hA hI hsz r hok hQ=>MV ZO H ha hk hq hA hI hsz r hok fun w s' μ' a' hv=>let⟨bs,g1,g2,g3⟩:=hr a' hv; hQ w bs s' a'.i (Y8 a') g1 g2 fun y hy=>.inr (g3 y hy)⟩
theorem DB(ZO:gS Z K lp gp c1 P1 c2 P2)(H:f4 K lp gp c1 P1 c2 P2 C8 a8 C9 f9 q9 a9 aj aq p0)(h1:(mH K 15).isSome=true){x:Str}{d:PyData}(h:pG F x=some d)(fr:List Addr):jO (Z.at fr) 100 "split" [.str x] d :=
 aS h fun q hq h=>sI h fun k ek h=>RI h fun ws hw h=>bY h fun ds hds e=>z0 ZO H (f:=15) rfl h1 rfl rfl hq fun a' hv=>by
  subst e
  rw[ek]at hv
  obtain⟨b,items,n,sl,rfl,hb,g1,g2,g3,g4⟩:=a'.so.listAt hw hv
  obtain⟨r1,r2,r3⟩:=HQ g2 hds
  exact⟨[b],.list g1 ⟨rfl,rfl⟩ rfl r1,Bool.and_eq_true_iff.mpr ⟨decide_eq_true (r3▸AL g4),r2⟩,fun y hy o e=>by
   rw[List.mem_singleton.mp hy,(a'.t.new b (List.mem_of_getElem? hb) nofun).2.1]at e
   cases e⟩
theorem DA(ZO:gS Z K lp gp c1 P1 c2 P2)(H:f4 K lp gp c1 P1 c2 P2 C8 a8 C9 f9 q9 a9 aj aq p0)(h1:(mH K 14).isSome=true){x:Str}{d:PyData}(h:iJ F x=some d)(fr:List Addr):jO (Z.at fr) 100 "translate" [.str x] d :=
 aS h fun q hq h=>j7 h fun z ez h=>iY h fun hz e=>z0 ZO H (f:=14) rfl h1 rfl rfl hq fun a' hv=>by
  cases e
  rw[ez]at hv
  exact⟨[],(qG.rd hv _).1,(aA hz).2,nofun⟩
theorem GW(ZO:gS Z K lp gp c1 P1 c2 P2)(H:f4 K lp gp c1 P1 c2 P2 C8 a8 C9 f9 q9 a9 aj aq p0){xs:List PyData}{d:PyData}(h:zI xs=some d)(fr:List Addr):jO (Z.at fr) 100 "join_shlex" [.list xs] d :=
 aS h fun cs hcs h=>iY h fun hc e=>by
  obtain⟨fd',body',FF,_⟩:=dS (CB ZO H) ZO.hK ZO.hK0 H.bd.2.2.1 (aL H.b 12 rfl)
  obtain⟨o',o1,o2,o3⟩:=FF.obj
  cases vY hcs
  cases e
  exact⟨aj,o',fd',fE ZO.hK0 (eq_of_beq (aL H.b 11 rfl)),o1,o2,o3,fun A s vs as Q E hA hI hsz r hok hQ =>
   HI (Z:=Z.at fr) (CB (Z:=Z) ZO H) ZO.hK ZO.hK0 (ZO.gok.at fr) H.j H.bd.2.2.1 (aL H.b 12 rfl) H.q (fE ZO.hK0 (eq_of_beq (aL H.b 13 rfl))) (aL H.b 14 rfl) (List.all_eq_true.mp (aA hc).1) (of_decide_eq_true (aA hc).2) (hA.mono (by decide)) hI hsz r (aA (aA hok).1).2 fun v s' I k r' ok'=>hQ v [] s' I k r' ok' nofun⟩
theorem L0(ZO:gS Z K lp gp c1 P1 c2 P2)(H:f4 K lp gp c1 P1 c2 P2 C8 a8 C9 f9 q9 a9 aj aq p0)(L:DX K fn d){tab:Nat→Option PF}{pf:PF}(hT:sP Z fn tab)(hd:tab d=some pf)(fr:List Addr){xs ys:List PyData}{dd:PyData}
  (h:IG (xC F d pf d) xs ys=some dd):jO (Z.at fr) 100 "_compare_args_orderless" [.list xs,.list ys] dd :=
 aS h fun a1 h1 h=>aS h fun b1 h2 h=>iK h fun xs' ea h=>iK h fun ys' eb h=>iY h fun hdep e=>by
  obtain⟨a,o,fd,body,FI,hb⟩:=mQ ZO.hK0 L.1 (aA (aA L.2).2).2
  cases e
  subst ea eb
  exact⟨a,o,fd,FI.name,FI.obj,FI.cls,FI.data,fun A s vs as Q E hA hI hsz r hok hQ =>
   y4 (Z:=Z.at fr) (lvl:=1) (fun n v h=>q7 ZO H (List.mem_append_right _ h)) ⟨wT ZO.hK0 (aL H.b 9 rfl),(ZO.mb _ (by decide)).trans (by kernel_rfl)⟩ (fun fr'=>ZM (fun n v h=>q7 ZO H (List.mem_append_right _ h)) hT hd fr') (FI.at fr) hb h1 h2 hdep (hA.mono (by decide)) hI hsz r hok hQ⟩
theorem TS{α:Type}{G c:Prop} [Decidable c] {a b:Option α} {d:α} (h:(if c then a else b)=some d) (k:c→a=some d→G) (k':b=some d→G):G:=by
 by_cases hc:c
 ·exact k hc ((if_pos hc).symm.trans h)
 ·exact k' ((if_neg hc).symm.trans h)
theorem xM{fr:List Addr}{m n:Str}{as bs:List PyData}{d:PyData}(en:n=m)(e:as=bs)(p:jO (Z.at fr) 100 m bs d):jO (Z.at fr) 100 n as d:=e▸Eq.subst (motive:=fun m=>jO (Z.at fr) 100 m bs d) en.symm p
theorem HH(ZO:gS Z K lp gp c1 P1 c2 P2)(H:f4 K lp gp c1 P1 c2 P2 C8 a8 C9 f9 q9 a9 aj aq p0)(L:DX K fn d){tab:Nat→Option PF}{pf:PF}(hT:sP Z fn tab)(hd:tab d=some pf)(fr:List Addr) :
  CU (Z.at fr) 100 fn tab (fun f args=>(fn[f]?).bind fun n=>DT F (xC F d pf d) n args):=fun f n args dd hn _ h0 =>
 mN (show DT F (xC F d pf d) n args=some dd from(congrArg (Option.bind · _) hn).symm.trans h0) fun x r er h =>
  TS h (fun n1 h=>nO h fun e h=>f7 h fun y ey h=>xM n1 (er.trans (congr (congrArg List.cons ey) e)) (DB ZO H (aA L.2).1 h fr)) fun h =>
  TS h (fun n1 h=>nO h fun e h=>f7 h fun y ey h=>xM n1 (er.trans (congr (congrArg List.cons ey) e)) (DA ZO H (aA (aA L.2).2).1 h fr)) fun h =>
  TS h (fun n1 h=>nO h fun e h=>iK h fun y ey h=>xM n1 (er.trans (congr (congrArg List.cons ey) e)) (GW ZO H h fr)) fun h =>
  iY h fun n1 h=>mN h fun y r' er' h=>nO h fun e h=>iK h fun xs ex h=>iK h fun ys ey h=>xM n1 (er.trans (congr (congrArg List.cons ex) (er'.trans (congr (congrArg List.cons ey) e)))) (L0 ZO H L hT hd fr h)
end
theorem O4{h:Heap}{a:Addr}{P:Params}{vs:List Value}{ns:List Int}{d:WData}(hw:Well P h (.ref a) d)(hd:∃ xs,d = .list xs)(hl:h.IsList a vs.toArray)(hi:IntsAre vs ns):Rd h (.ref a) (.list (ns.map .int)) [a]:=by
 obtain⟨xs,rfl⟩:=hd
 cases hw with
 | list e _ =>
  obtain⟨o,e',_,n,hdt⟩:=hl
  cases e.symm.trans e'
  rw[(Data.seq.inj hdt).1]at e
  exact .list e ⟨rfl,rfl⟩ rfl (C6 hi)
theorem PY(ns:List Int):cL (ns.map .int)=true:=cC.mpr fun d hd=>let⟨_,_,e⟩:=List.mem_map.mp hd; e▸rfl
theorem QO{prog:Program}{w:World}{p:Program}{loose:List Str}{mean:ExcName→Option Value}{mg mb:Str→Option Value}{K:Frag}{lp gp:Nat×Nat}{c1 P1 c2 P2:Addr}{C8 a8 C9 f9 q9 a9 aj aq p0:Addr}{fn:List Str}{d:Nat}{s₁:Shared}{specs:List pR}{tab:Nat→Option PF}{pfd:PF}{F lvl f:Nat}
  (T:Top p loose mean mg mb s₁.heap) (X:K.In s₁.heap) (e1:s₁.heap.get? P1=some (tabObj #[])) (e2:s₁.heap.get? P2=some (tabObj #[])) (H:f4 K lp gp c1 P1 c2 P2 C8 a8 C9 f9 q9 a9 aj aq p0) (L:DX K fn d) (hsb:mU specs fun S=>mP K S.1 S.2.1 S.2.2.arity) (hs:specs.all (yM K fn)=true) (ht:∀ f n pf,fn[f]? = some n→tab f=some pf→∃ nm,(n,nm,pf)∈specs) (hd:tab d=some pfd) (hgens:AllBare s₁.gens)
  {n:Str} {fa l:Addr} {vs:List Value} {ns:List Int} {E:Value→Shared→Prop} {wd:WData} (hn:fn[f]? = some n) (hm:mg n=some (.ref fa)) (hw:Well w.params s₁.heap (.ref l) wd) (hwd:∃ xs,wd = .list xs) (hl:s₁.heap.IsList l vs.toArray) (hi:IntsAre vs ns) (hns:ns.length≤63)
  (hrun:cG tab (fun f args=>(fn[f]?).bind fun n=>DT F (xC F d pfd d) n args) F lvl f [.list (ns.map .int)]=some (.bool true)) (hlv:lvl≤100) :
  wpAny (model prog w) callerA (call (.ref fa) [.ref l]) (fun v s'=>v = .bool true∧OldK s₁.heap s'.heap∧s'.os=s₁.os∧AllBare s'.gens) E s₁:=by
 obtain⟨Z,ZO,⟨rfl,rfl,z3,z4⟩,rfl,z7⟩:=OC (prog:=prog) (w:=w) (lp:=lp) (gp:=gp) T X e1 e2 (aL H.b 0 rfl) (aL H.b 1 rfl) (Option.isNone_iff_eq_none.mp (aL H.b 2 rfl)) (Option.isNone_iff_eq_none.mp (aL H.b 3 rfl)) (bne_iff_ne.mp (aL H.b 4 rfl))
 have hA:f6 Z (lvl+100) callerA:=(⟨rfl,by decide,by decide,[],rfl,fun _ h=>absurd h List.not_mem_nil⟩:f6 Z 200 callerA).mono (Nat.add_le_add_right hlv 100)
 have hB:f8 Z:=fun n v h=>q7 ZO H (List.mem_append_right _ h)
 have hI:bA Z s₁:=HK z3.symm T.nolimit (z3▸ZO.tab₀) hgens z4.symm z7
 have hr:aU s₁.heap [.ref l] [.list (ns.map .int)] ([l]++[]):=.cons (O4 hw hwd hl hi) .nil
 have hok:cL [.list (ns.map .int)]=true:=Bool.and_eq_true_iff.mpr ⟨Bool.and_eq_true_iff.mpr ⟨decide_eq_true (by rw[List.length_map]; exact Nat.le_trans hns (by decide)),PY ns⟩,rfl⟩
 have hT:sP Z fn tab:=LA ZO.hK0 hsb hs ht
 refine wpAny_mono (UY hB hT (fun fr=>HH ZO H L hT hd fr) hn hm hA hI (by rw[← z3]; exact Nat.le_refl _) hr hok hrun) (fun v s' h=>?_) fun _ _ e=>e
 obtain⟨I,bs,r⟩:=h
 exact⟨yF r,z3▸I.old,I.os.trans z4,I.gens⟩
end Kt.Internal
end
section
open PySem PySem.W PyProof.Rows
namespace Kt.Internal
noncomputable def Bq:PF:=⟨5,1,(.cons (.assign 1 (.lit (.str ("a'[ \"*\\]?#-b" : Str)))) (.cons (.assign 2 (.bin .Add (.comp (.idx (.var 1) (.bin .Mod (.bin .Add (.idx (.var 0) (.lit (.int 0))) (.var 4)) (.lit (.int 12)))) (.one 4) (.range1 (.lit (.int 3))) .no .nil) (.list (.cons (.bi .chr (.cons (.bin .Add (.lit (.int 256)) (.bin .Mod (.bin .FloorDiv (.idx (.var 0) (.lit (.int 0))) (.lit (.int 12))) (.lit (.int 50000)))) .nil)) .nil)))) (.cons (.ret (.comp (.idx (.var 2) (.bin .Mod (.var 3) (.lit (.int 4)))) (.one 3) (.of (.slc (.var 0) (.yes (.lit (.int 1))) .no)) .no .nil)) .nil)))⟩
noncomputable def Cl:List Str:=["numbers", "table", "letters", "x", "k"]
noncomputable def JA:PI:=(.range2 (.bin .Add (.var 2) (.lit (.int 1))) (.bin .Add (.bi .len (.cons (.var 0) .nil)) (.lit (.int 1))))
noncomputable def JI:pB:=(.cons (.assign 4 (.call 7 (.cons (.slc (.var 0) (.yes (.var 2)) (.yes (.var 3))) .nil))) (.cons (.ife (.cmp .Eq (.var 4) (.rev (.var 4))) (.cons (.app 1 (.list (.cons (.var 2) (.cons (.var 3) .nil)))) .nil) .nil) .nil))
noncomputable def SF:PI:=(.range1 (.bi .len (.cons (.var 0) .nil)))
noncomputable def SW:pB:=(.cons (.for_ (.one 3) JA JI) .nil)
noncomputable def Bp:PF:=⟨5,1,(.cons (.assign 1 (.list .nil)) (.cons (.for_ (.one 2) SF SW) (.cons (.ret (.var 1)) .nil)))⟩
noncomputable def Ck:List Str:=["row", "spots", "i", "j", "line"]
noncomputable def D2:PE:=(.cmp .Lt (.var 2) (.bin .Sub (.bi .len (.cons (.var 0) .nil)) (.lit (.int 6))))
noncomputable def D3:pB:=(.cons (.assign 3 (.cmp .Eq (.idx (.var 0) (.var 2)) (.lit (.str ("[" : Str))))) (.cons (.ife (.cmp .In (.idx (.var 0) (.var 2)) (.lit (.str ("()*+?{|^$." : Str)))) (.cons (.ret (.lit (.str ("" : Str)))) .nil) .nil) (.cons (.aug 2 .Add (.ite (.var 3) (.lit (.int 1)) (.lit (.int 0)))) (.cons (.aug 2 .Add (.ite (.cmp .Eq (.idx (.var 0) (.var 2)) (.lit (.str ("\\" : Str)))) (.lit (.int 1)) (.lit (.int 0)))) (.cons (.aug 1 .Add (.idx (.var 0) (.var 2))) (.cons (.ife (.bool true (.var 3) (.cmp .NotEq (.idx (.var 0) (.bin .Add (.var 2) (.lit (.int 1)))) (.lit (.str ("]" : Str))))) (.cons (.ret (.lit (.str ("" : Str)))) .nil) .nil) (.cons (.aug 2 .Add (.ite (.var 3) (.lit (.int 2)) (.lit (.int 1)))) .nil)))))))
noncomputable def Bo:PF:=⟨4,1,(.cons (.assign2 1 2 (.lit (.str ("" : Str))) (.lit (.int 11))) (.cons (.while_ D2 D3) (.cons (.ret (.ite (.bool true (.cmp .Eq (.slc (.var 0) .no (.yes (.lit (.int 11)))) (.lit (.str ("(?s:.(?>.*?" : Str)))) (.cmp .Eq (.slc (.var 0) (.yes (.neg (.lit (.int 6)))) .no) (.lit (.str (").*)\\Z" : Str))))) (.var 1) (.lit (.str ("" : Str))))) .nil)))⟩
noncomputable def Cj:List Str:=["text", "told", "k", "inside"]
noncomputable def D1:PE:=(.cmp .GtE (.var 9) (.lit (.int 0)))
noncomputable def JH:pB:=(.cons (.assign 5 (.bool true (.var 5) (.cmp .In (.list (.cons (.var 8) (.cons (.bin .Add (.var 9) (.bi .len (.cons (.var 7) .nil))) .nil))) (.var 1)))) (.cons (.assign 8 (.var 9)) (.cons (.assign 9 (.me .find (.var 4) (.cons (.var 7) (.cons (.bin .Add (.var 8) (.lit (.int 1))) .nil)))) .nil)))
noncomputable def SD:PI:=(.of (.var 2))
noncomputable def JG:pB:=(.cons (.assign 6 (.me .join (.lit (.str ("" : Str))) (.cons (.comp (.ite (.cmp .In (.var 10) (.lit (.str ("*?[" : Str)))) (.bin .Add (.bin .Add (.lit (.str ("[" : Str))) (.var 10)) (.lit (.str ("]" : Str)))) (.var 10)) (.one 10) (.of (.var 3)) .no .nil) .nil))) (.cons (.assign 7 (.call 2 (.cons (.call 9 (.cons (.bin .Add (.bin .Add (.lit (.str ("?*" : Str))) (.var 6)) (.lit (.str ("*" : Str)))) .nil)) .nil))) (.cons (.ife (.cmp .NotEq (.var 7) (.me .join (.lit (.str ("" : Str))) (.cons (.var 3) .nil))) (.cons (.ret (.lit .none)) .nil) .nil) (.cons (.assign 8 (.me .find (.var 4) (.cons (.var 7) .nil))) (.cons (.assign 9 (.me .find (.var 4) (.cons (.var 7) (.cons (.bin .Add (.var 8) (.lit (.int 1))) .nil)))) (.cons (.while_ D1 JH) .nil))))))
noncomputable def Bn:PF:=⟨11,3,(.cons (.assign2 4 5 (.me .join (.lit (.str ("" : Str))) (.cons (.var 0) .nil)) (.lit (.bool true))) (.cons (.for_ (.one 3) SD JG) (.cons (.ret (.var 5)) .nil)))⟩
noncomputable def Ci:List Str:=["row", "spots", "mirrored", "piece", "name", "whole", "barred", "told", "place", "again", "sign"]
noncomputable def Bm:PF:=⟨7,4,(.cons (.assign 4 (.bi .max2 (.cons (.comp (.var 6) (.one 6) (.range2 (.bin .Add (.var 2) (.lit (.int 1))) (.bin .Add (.var 3) (.lit (.int 1)))) (.yes (.cmp .In (.list (.cons (.var 2) (.cons (.var 6) .nil))) (.var 1))) .nil) .nil))) (.cons (.assign 5 (.bi .min2 (.cons (.comp (.var 6) (.one 6) (.range2 (.var 2) (.var 3)) (.yes (.cmp .In (.list (.cons (.var 6) (.cons (.var 3) .nil))) (.var 1))) .nil) .nil))) (.cons (.ret (.list (.cons (.slc (.var 0) (.yes (.var 2)) (.yes (.var 4))) (.cons (.slc (.var 0) (.yes (.var 5)) (.yes (.var 3))) .nil)))) .nil)))⟩
noncomputable def Ch:List Str:=["row", "spots", "i", "j", "head", "tail", "k"]
noncomputable def Ac:PF:=⟨15,1,(.cons (.assign 1 (.bin .Add (.slc (.var 0) .no (.yes (.lit (.int 10)))) (.list (.cons (.lit (.int 1)) (.cons (.lit (.int 0)) (.cons (.lit (.int 1)) (.cons (.lit (.int 0)) (.cons (.lit (.int 2)) (.cons (.lit (.int 1)) .nil))))))))) (.cons (.assign 2 (.call 0 (.cons (.comp (.bin .Mod (.var 14) (.bin .Pow (.lit (.int 10)) (.lit (.int 9)))) (.one 14) (.of (.slc (.var 1) .no (.yes (.bi .max2 (.cons (.lit (.int 6)) (.cons (.bin .Sub (.bi .len (.cons (.var 1) .nil)) (.lit (.int 6))) .nil)))))) .no .nil) .nil))) (.cons (.assign 3 (.bi .len (.cons (.var 2) .nil))) (.cons (.assign 4 (.call 1 (.cons (.var 2) .nil))) (.cons (.assign 5 (.comp (.list (.cons (.var 12) (.cons (.var 13) .nil))) (.one 12) (.range1 (.var 3)) .no (.cons (.one 13) (.range2 (.bin .Add (.var 12) (.lit (.int 1))) (.bin .Add (.var 3) (.lit (.int 1)))) .no .nil))) (.cons (.ife (.cmp .NotEq (.var 4) (.comp (.list (.cons (.var 12) (.cons (.var 13) .nil))) (.two 12 13) (.of (.var 5)) (.yes (.cmp .Eq (.slc (.var 2) (.yes (.var 12)) (.yes (.var 13))) (.rev (.slc (.var 2) (.yes (.var 12)) (.yes (.var 13)))))) .nil)) (.cons (.ret (.lit (.bool false))) .nil) .nil) (.cons (.ife (.cmp .NotEq (.call 8 (.cons (.rev (.call 7 (.cons (.var 2) .nil))) .nil)) (.rev (.var 2))) (.cons (.ret (.lit (.bool false))) .nil) .nil) (.cons (.assign 6 (.call 6 (.cons (.comp (.slc (.var 2) (.yes (.var 12)) (.yes (.var 13))) (.two 12 13) (.of (.var 4)) .no .nil) .nil))) (.cons (.assign 7 (.comp (.idx (.call 4 (.cons (.var 2) (.cons (.var 4) (.cons (.lit (.int 0)) (.cons (.var 13) .nil))))) (.lit (.int 1))) (.one 13) (.range2 (.lit (.int 1)) (.bin .Add (.var 3) (.lit (.int 1)))) .no .nil)) (.cons (.assign 8 (.comp (.idx (.call 4 (.cons (.var 2) (.cons (.var 4) (.cons (.var 12) (.cons (.var 3) .nil))))) (.lit (.int 0))) (.one 12) (.range1 (.var 3)) .no .nil)) (.cons (.ife (.bool false (.cmp .IsNot (.call 10 (.cons (.var 7) (.cons (.var 8) .nil))) (.lit (.bool true))) (.cmp .IsNot (.call 10 (.cons (.var 6) (.cons (.var 7) .nil))) (.lit (.bool true)))) (.cons (.ret (.lit (.bool false))) .nil) .nil) (.cons (.assign 9 (.call 6 (.cons (.comp (.slc (.var 2) (.yes (.var 12)) (.yes (.var 13))) (.two 12 13) (.of (.var 5)) .no .nil) .nil))) (.cons (.assign 10 (.call 6 (.cons (.comp (.call 4 (.cons (.var 2) (.cons (.var 4) (.cons (.var 12) (.cons (.var 13) .nil))))) (.two 12 13) (.of (.var 5)) .no .nil) .nil))) (.cons (.assign 11 (.cmp .Eq (.bi .len (.cons (.var 6) .nil)) (.var 3))) (.cons (.ife (.bool false (.cmp .Gt (.bi .len (.cons (.var 6) .nil)) (.var 3)) (.cmp .IsNot (.call 3 (.cons (.var 2) (.cons (.var 4) (.cons (.var 6) .nil)))) (.var 11))) (.cons (.ret (.lit (.bool false))) .nil) .nil) (.cons (.ret (.cmp .Is (.cmp .Eq (.bi .len (.cons (.var 10) .nil)) (.bi .len (.cons (.var 9) .nil))) (.var 11))) .nil))))))))))))))))⟩
noncomputable def Cg:List Str:=["script", "drawn", "row", "size", "spots", "stretches", "mirrored", "ends", "heads", "unlike", "pairs", "rich", "i", "j", "x"]
noncomputable def SA:PI:=(.of (.var 0))
noncomputable def ZP:pB:=(.cons (.ife (.cmp .NotIn (.var 2) (.var 1)) (.cons (.app 1 (.var 2)) .nil) .nil) .nil)
noncomputable def RG:PF:=⟨3,1,(.cons (.assign 1 (.list .nil)) (.cons (.for_ (.one 2) SA ZP) (.cons (.ret (.var 1)) .nil)))⟩
noncomputable def Cf:List Str:=["unhashable_params", "new_unhashable", "t"]
noncomputable def jQ:List pR:=[("_law_row",Cl,Bq),("_law_spots",Ck,Bp),("_law_told",Cj,Bo),("_law_returns",Ci,Bn),("_law_pair",Ch,Bm),("law",Cg,Ac),("_deduplicate_unhashable",Cf,RG)]
noncomputable def BN:List Str:=["_law_row", "_law_spots", "_law_told", "_law_returns", "_law_pair", "law", "_deduplicate_unhashable", "join_shlex", "split", "translate", "_compare_args_orderless"]
noncomputable def cH(f:Nat):Option PF:=(jQ[f]?).map (·.2.2)
theorem K9(f:Nat)(n:Str)(pf:PF)(hn:BN[f]? = some n)(hf:cH f=some pf):∃ nm,(n,nm,pf)∈jQ:=by
 obtain⟨⟨m,nm,q⟩,h,e⟩:=Option.map_eq_some_iff.mp hf
 have hl:f<(jQ.map (·.1)).length:=by rw[List.length_map]; exact(List.getElem?_eq_some_iff.mp h).1
 have h2:BN[f]? = some m:=(show BN[f]? = (jQ.map (·.1)++(["join_shlex", "split", "translate", "_compare_args_orderless"]:List Str))[f]? from rfl).trans ((List.getElem?_append_left hl).trans (by rw[List.getElem?_map,h]; rfl))
 cases hn.symm.trans h2
 cases e
 exact⟨nm,List.mem_of_getElem? h⟩
noncomputable def rB(th ok:Thread→Bool)(st:SharedT→Thread→Option (SharedT×Thread)):Nat→SharedT→Thread→Option SharedT
 | 0,_,_=>none
 | n+1,s,t=>match th t with
  | true=>some s
  | false=>match ok t with
   | false=>none
   | true=>match st s t with
    | some r=>rB th ok st n r.1 r.2
    | none=>none
theorem uA{tb:String→Option Builtin}{p:Program}{w:World}{n₀:Nat}{ann:Option Value}:∀(n:Nat)(s s':SharedT)(t:Thread),rB through (stepOk n₀ ann) (stepT (denote tb) p w) n s t=some s'→topRun tb p w n₀ ann n s.abs t=some s'.abs
 | 0,_,_,_,h=>nomatch h
 | n+1,s,s',t,h=>by
  rw[rB]at h
  rw[topRun]
  cases ht:through t with
  | true=>rw[ht]at h; exact congrArg some (congrArg SharedT.abs (Option.some.inj h))
  | false =>
   rw[ht]at h
   cases hk:stepOk n₀ ann t with
   | false=>rw[hk]at h; cases h
   | true =>
    rw[hk]at h
    cases hs:stepT (denote tb) p w s t with
    | none=>rw[hs]at h; cases h
    | some r=>rw[hs]at h; dsimp only; rw[stepT_spec hs]; exact uA n _ _ _ h
noncomputable def rQ(st:SharedT→Thread→Option (SharedT×Thread)):Nat→SharedT→Thread→Option SharedT
 | 0,_,_=>none
 | n+1,s,t=>match t.atExitBegin with
  | some []=>some s
  | some (_::_)=>none
  | none=>match st s t with
   | some r=>rQ st n r.1 r.2
   | none=>none
theorem uM{tb:String→Option Builtin}{p:Program}{w:World}:∀(n:Nat)(s s':SharedT)(t:Thread),rQ (stepT (denote tb) p w) n s t=some s'→importEnds tb p w n s.abs t=some s'.abs
 | 0,_,_,_,h=>nomatch h
 | n+1,s,s',t,h=>by
  rw[rQ]at h
  rw[importEnds]
  cases ht:t.atExitBegin with
  | some l =>
   rw[ht]at h
   cases l with
   | nil=>exact congrArg some (congrArg SharedT.abs (Option.some.inj h))
   | cons=>cases h
  | none =>
   rw[ht]at h
   cases hs:stepT (denote tb) p w s t with
   | none=>rw[hs]at h; cases h
   | some r=>rw[hs]at h; dsimp only; rw[stepT_spec hs]; exact uM n _ _ _ h
noncomputable def ZV:List Obj→BT→Nat→Option BT
 | [],t,_=>some t
 | o::r,t,n=>match((t.ins n o).get n).isSome with
  | true=>ZV r (t.ins n o) (n+1)
  | false=>none
theorem EB{life:Life}:∀(os:List Obj)(t t':BT)(n:Nat),ZV os t n=some t'→absHeap t' (n+os.length) life=⟨(absHeap t n life).objs++os.toArray,life⟩
 | [],t,t',n,h=>by cases h; rw[List.length_nil,Nat.add_zero]; exact congrArg (Heap.mk · life) (Array.append_empty (xs:=(absHeap t n life).objs)).symm
 | o::r,t,t',n,h=>by
  rw[ZV]at h
  cases g:((t.ins n o).get n).isSome with
  | false=>rw[g]at h; cases h
  | true =>
   rw[g]at h
   have:=EB (life:=life) r _ _ _ h
   rw[List.length_cons,Nat.add_comm r.length,← Nat.add_assoc,this,absHeap_ins g]
   exact congrArg (Heap.mk · life) (by show(absHeap t n life).objs.push o++r.toArray=_; simp)
noncomputable def BR(s:Shared):Option SharedT:=(ZV s.heap.objs.toList .nil 0).map fun T=>⟨T,s.heap.objs.size,s.heap.life,s.gens,s.drawn,s.toks,s.os⟩
theorem t9{s:Shared}{t:SharedT}(h:BR s=some t):t.abs=s:=by
 obtain⟨T,h',rfl⟩:=Option.map_eq_some_iff.mp h
 have:=EB (life:=s.heap.life) _ _ _ _ h'
 rw[Nat.zero_add,Array.length_toList]at this
 show Shared.mk (absHeap T s.heap.objs.size s.heap.life) _ _ _ _=s
 rw[this]
 exact congrArg (fun h=>Shared.mk h s.gens s.drawn s.toks s.os) (congrArg (Heap.mk · s.heap.life) (show #[]++s.heap.objs.toList.toArray=s.heap.objs by simp))
noncomputable def JB(stI:SharedT→Thread→Option (SharedT×Thread))(fence:Shared→Option Shared)(ok:Thread→Bool)(st:SharedT→Thread→Option (SharedT×Thread))(p:Program)(N:Nat):Option (Shared×SharedT) :=
 (BR (start (opening p)).1).bind fun a=>(rQ stI N a (start (opening p)).2).bind fun b=>(fence b.abs).bind fun s₀=>(BR s₀).bind fun c=>(rB through ok st N c (topStub p)).map fun d=>(s₀,d)
theorem Y3{p q:Program}{loose:List Str}{Xt:Shared→Bool}{Y:Shared→Prop}{N m₀:Nat}{ann:Option Value}
  (run:∀ w:World,∃ s₀ s,JB (stepT (denote treeTable) (opening p) w) (fenceModules? p) (stepOk m₀ ann) (stepT (denote treeTable) p w) p N=some (s₀,s) ∧
   ((s₀.heap.isNs mainGlobals&&s₀.gens.size==0)=true∧s₀.heap.objs.size=m₀∧s₀.heap.nsMap mainGlobals "__annotations__" = ann) ∧
   (staticsOk (importedModules p.main.body) s₀.heap s.abs.heap&&namesBound p s.abs.heap&&gensDone s.abs&&laidKept s₀.heap s.abs.heap)=true∧openSeen q loose (importedModules p.main.body) Xt true s.abs=openGood q loose∧Y s.abs) :
  LeftO p q loose Xt Y (fun _=>True) N:=fun w=>by
 obtain⟨s₀,s,h,⟨z1,z2,z3⟩,l1,l2,y⟩:=run w
 obtain⟨a,h1,h⟩:=Option.bind_eq_some_iff.mp h
 obtain⟨b,h2,h⟩:=Option.bind_eq_some_iff.mp h
 obtain⟨s₁,h3,h⟩:=Option.bind_eq_some_iff.mp h
 obtain⟨c,h4,h⟩:=Option.bind_eq_some_iff.mp h
 obtain⟨d,h5,h⟩:=Option.map_eq_some_iff.mp h
 cases h
 have r1:=uM _ _ _ _ h2
 rw[t9 h1]at r1
 have r2:=uA _ _ _ _ h5
 rw[t9 h4]at r2
 have t:topFrom treeTable p w N s₀=some s.abs:=by
  unfold topFrom
  rw[z1,z2,z3,r2]
  show(match staticsOk (importedModules p.main.body) s₀.heap s.abs.heap&&namesBound p s.abs.heap&&gensDone s.abs&&laidKept s₀.heap s.abs.heap with | true=>some s.abs | false=>none)=some s.abs
  rw[l1]
 unfold openEnds fencedOpening
 rw[r1,Option.bind_some,h3,Option.bind_some,t]
 exact congrArg some (Prod.ext l2 (eq_true y))
end Kt.Internal
end
section
open PySem PySem.W PyProof.Rows PySem.Calls Builtin
namespace Kt.Internal
def tJ(K:Frag)(a:Addr)(nm:List Str)(pf:OF):Prop:=fZ (F5 K a) fun fd=>sT pf.arity fun vals=>if pf.arity≤vals.length+(nL K fd).length then
 ∀ _:Setting,some ((nm.take pf.arity).zip (vals++(nL K fd).drop ((nL K fd).length+vals.length - pf.arity)))=some ((nm.take pf.arity).zip (vals++(nL K fd).drop ((nL K fd).length+vals.length - pf.arity)))else True
theorem EY{α:Type}{o:Option α}{f:α→Prop}(h:o.isSome=true)(g:∀ x,f x):fZ o f:=by
 cases o with
 | none=>cases h
 | some x=>exact g x
theorem CV(k:Nat):∀{P:List Value→Prop},(∀ l,P l)→sT k P:=by
 induction k with
 | zero=>exact fun g=>g []
 | succ k ih=>exact fun g=>⟨g [],fun v=>ih fun l=>g (v::l)⟩
theorem DL(k:Nat):∀{P:List Value→Prop},(∀ l,P l)→m4 k P:=by
 induction k with
 | zero=>exact fun g=>g []
 | succ k ih=>exact fun g v=>ih fun l=>g (v::l)
theorem xW{K:Frag}{a:Addr}{nm:List Str}{pf:OF}(h:(F5 K a).isSome=true):tJ K a nm pf:=EY h fun fd=>CV _ fun vals=>by
 split
 ·exact fun _=>rfl
 ·trivial
theorem fY{K:Frag}{a:Addr}{nm:List Str}{pf:OF}(e:gP K a nm pf=tJ K a nm pf)(h:(F5 K a).isSome=true):gP K a nm pf:=e.mpr (xW h)
theorem F0{α:Type}{P:α→Prop}{b:α→Bool}{l:List α}(h:l.all b=true)(g:∀ x,b x=true→P x):mU l P:=by
 induction l with
 | nil=>trivial
 | cons x l ih =>
  obtain⟨h1,h2⟩:=Bool.and_eq_true_iff.mp h
  exact⟨g x h1,ih h2⟩
theorem l8{K:Frag}{l:List (Nat×List Str×OF)}(e:(mU l fun p=>fZ (mH K p.1) fun a=>gP K a p.2.1 p.2.2)=(mU l fun p=>fZ (mH K p.1) fun a=>tJ K a p.2.1 p.2.2))(h:(l.all fun p=>iB (mH K p.1) fun a=>(F5 K a).isSome)=true):mU l fun p=>fZ (mH K p.1) fun a=>gP K a p.2.1 p.2.2 :=
 e.mpr (F0 h fun p hp=>by
  obtain⟨a,e,h⟩:=eW hp
  rw[e]
  exact xW h)
def KK(K:Frag)(cA:Nat→Option Addr):Prop:=fZ (cA 0) fun C=>(fZ ((findIn K (.ref C) "__iter__").bind fun v=>v.bind fS) fun fi=>tJ K fi qI vP)∧fZ ((findIn K (.ref C) "__next__").bind fun v=>v.bind fS) fun fn=>tJ K fn gL sH
theorem oJ{K:Frag}{cA:Nat→Option Addr}(e:vT K cA=KK K cA)(h:(iB (cA 0) fun C=>(iB ((findIn K (.ref C) "__iter__").bind fun v=>v.bind fS) fun fi=>(F5 K fi).isSome)&&iB ((findIn K (.ref C) "__next__").bind fun v=>v.bind fS) fun fn=>(F5 K fn).isSome)=true):vT K cA:=by
 obtain⟨C,e1,h⟩:=eW h
 obtain⟨h1,h2⟩:=Bool.and_eq_true_iff.mp h
 obtain⟨a,e2,h1⟩:=eW h1
 obtain⟨b,e3,h2⟩:=eW h2
 rw[e,KK,e1]
 show fZ _ _∧fZ _ _
 rw[e2,e3]
 exact⟨xW h1,xW h2⟩
def xZ(K:Frag)(n:Str)(nm:List Str)(k:Nat):Prop:=fZ ((eZ K n).bind fS) fun a=>fZ (F5 K a) fun _=>m4 k fun vals=>(pure ((nm.take k).zip vals):Sem (List (Str×Value)))=pure ((nm.take k).zip vals)
noncomputable def isFn(K:Frag)(n:Str):Bool:=iB ((eZ K n).bind fS) fun a=>(F5 K a).isSome
theorem KW{K:Frag}{n:Str}{nm:List Str}{k:Nat}(h:isFn K n=true):xZ K n nm k:=by
 obtain⟨a,e,h⟩:=eW h
 have g:fZ (F5 K a) fun _=>m4 k fun vals=>(pure ((nm.take k).zip vals):Sem (List (Str×Value)))=pure ((nm.take k).zip vals):=EY h fun _=>DL _ fun _=>rfl
 rw[xZ,e]
 exact g
theorem oL{K:Frag}{n:Str}{nm:List Str}{k:Nat}(e:mP K n nm k=xZ K n nm k)(h:isFn K n=true):mP K n nm k:=e.mpr (KW h)
theorem l9{K:Frag}{l:List pR}(e:(mU l fun S=>mP K S.1 S.2.1 S.2.2.arity)=mU l fun S=>xZ K S.1 S.2.1 S.2.2.arity)(h:(l.all fun S=>isFn K S.1)=true):mU l fun S=>mP K S.1 S.2.1 S.2.2.arity:=e.mpr (F0 h fun S hS=>KW hS)
theorem rR{K:Frag}{a p:Addr}(h:∀ k,JM K a p (k+256))(h1:mU [97,39,91,32,34,42,92,93,63,35,45,98,33] (JM K a p)):GF K a p:=fun c h0=>by
 rcases Bool.or_eq_true_iff.mp h0 with h0 | h0
 ·exact t8 h1 (List.contains_iff_mem.mp h0)
 ·obtain⟨k,e⟩:=Nat.exists_eq_add_of_le' (of_decide_eq_true h0)
  rw[e]
  exact h k
noncomputable def ZA:List Stmt:=[.Return (some (.Call (.Attribute (.Constant (.str " ") 0 ⟨734,11,734,14⟩) "join" ⟨734,11,734,19⟩) [IF ⟨734,21,734,26⟩ ⟨734,27,734,30⟩ ⟨734,21,734,31⟩ ⟨734,36,734,39⟩ ⟨734,43,734,56⟩ ⟨.function,xP,true,false,[]⟩ ⟨734,20,734,57⟩] [] ⟨734,11,734,58⟩)) ⟨734,4,734,58⟩]
theorem rT{K:Frag}{a c:Addr}(e:OB K a c (734,20)=(Value.ref c=Value.ref c∧AZ (734,20) ZA)):OB K a c (734,20):=e.mpr ⟨rfl,0,_,_,_,_,_,_,_,_,_,_,_,rfl,rfl,⟨rfl,rfl⟩,rfl,rfl,rfl⟩
noncomputable def kT(t:SharedT):Frag:=(List.range t.n).filterMap fun a=>if a==785||a==746 then none else((t.tree.get a).bind alive).map fun o=>(a,o)
theorem MT{a:Addr}{o:Obj}{l:Frag}(h:l.lookup a=some o):(a,o)∈l:=by
 induction l with
 | nil=>cases h
 | cons x l ih =>
  rw[List.lookup_cons]at h
  cases e:a==x.1 with
  | true =>
   rw[e]at h
   cases h
   rw[eq_of_beq e]
   exact List.mem_cons_self
  | false =>
   rw[e]at h
   exact List.mem_cons_of_mem _ (ih h)
theorem IR{t:SharedT}{a:Addr}{o:Obj}(hn:a<t.n)(h:(t.tree.get a).bind alive=some o):t.abs.heap.get? a=some o:=by
 obtain⟨o',h1,h2⟩:=Option.bind_eq_some_iff.mp h
 exact(abs_get hn h1).trans h2
theorem Y9(t:SharedT):(kT t).In t.abs.heap:=fun a o h=>by
 obtain⟨b,hb,e⟩:=List.mem_filterMap.mp (MT h)
 split at e
 ·cases e
 ·obtain⟨o',h1,h2⟩:=Option.map_eq_some_iff.mp e
  cases h2
  exact IR (List.mem_range.mp hb) h1
noncomputable abbrev xF(K:Frag):Prop:=f4 K (804,46) (734,20) 789 785 750 746 732 656 597 90 94 367 751 759 49∧DX K BN 6∧(mU jQ fun S=>mP K S.1 S.2.1 S.2.2.arity)∧jQ.all (yM K BN)=true
def Y6(s:Shared):Prop:=∃ K:Frag,K.In s.heap∧xF K∧s.heap.get? 785=some (tabObj #[])∧s.heap.get? 746=some (tabObj #[])
noncomputable abbrev F4:=PySem.Challenge.pw_kt0084_01
noncomputable abbrev r6:OpenRow:=PySem.Challenge.rw_kt0084_01.row
@[irreducible] noncomputable def v6:Program:=view F4 [0,1,2,3,5,6,7,8,9,10,11,12,14,15,16,17,19,20,22,24,25,26,27,29,30,32,33,35,36,38,39,41,42,43,44,45,46]
noncomputable def xO:List Str:=["twin_re_1_shlex", "UnsupportedOperation", "IOBase", "BufferedIOBase", "TextIOBase", "BytesIO", "StringIO", "join_path", "shlex", "split", "join_shlex", "_find_unsafe", "twin_re_1_fnmatch", "_special_chars_map"]
noncomputable abbrev X6:Shared→Bool:=fun s=>xlAt v6 [] s&&recOk (RowW.records r6.toRowW) s
noncomputable abbrev Bk(p:Program)(w:World):=PySem.W.Fast.tw10156331382660048174 (PySem.W.Fast.tw11892475500146522536 PySem.W.Fast.tw14364793385576792824) p w
@[irreducible] noncomputable def go6(w:World):Option (Shared×SharedT):=JB (Bk (opening F4) w) (PySem.W.Fast.tw14289696077712309145 F4) (PySem.W.Fast.tw6613529449190102663 34 (some (.ref 6))) (Bk F4 w) F4 6800
noncomputable abbrev sQ(x:Shared×SharedT):Prop :=
 (x.1.heap.isNs mainGlobals&&x.1.gens.size==0)=true∧x.1.heap.objs.size=34∧x.1.heap.nsMap mainGlobals "__annotations__" = some (.ref 6) ∧
 (staticsOk (importedModules F4.main.body) x.1.heap x.2.abs.heap&&namesBound F4 x.2.abs.heap&&gensDone x.2.abs&&laidKept x.1.heap x.2.abs.heap)=true ∧
 PySem.W.Fast.tw4187177175401517315 v6 xO (PySem.W.Fast.tw5923862056798008813 F4.main.body) X6 true x.2.abs=openGood v6 xO ∧
 Nat.blt 785 x.2.n=true∧(x.2.tree.get 785).bind alive=some (tabObj #[])∧(x.2.tree.get 746).bind alive=some (tabObj #[])
@[irreducible] noncomputable def x6(w:World)(h:(go6 w).isSome=true):Shared×SharedT:=(go6 w).get h
@[irreducible] noncomputable def K6(w:World)(h:(go6 w).isSome=true):Frag:=kT (x6 w h).2
noncomputable abbrev P6(w:World):Prop:=∃ h:(go6 w).isSome=true,sQ (x6 w h)∧xF (K6 w h)
theorem ZE(w:World):∃ h:(go6 ((w.withFollow "comprehension-iter-twice" false).withFollow "special-get-raises" false)).isSome=true,sQ (x6 ((w.withFollow "comprehension-iter-twice" false).withFollow "special-get-raises" false) h):=by
 have h:(go6 ((w.withFollow "comprehension-iter-twice" false).withFollow "special-get-raises" false)).isSome=true:=by kernel_rfl
 exact⟨h,by kernel_rfl,by kernel_rfl,by kernel_rfl,by kernel_rfl,by kernel_rfl,by kernel_rfl,by kernel_rfl,by kernel_rfl⟩
theorem ZI(w:World)(h:(go6 ((w.withFollow "comprehension-iter-twice" false).withFollow "special-get-raises" false)).isSome=true):xF (K6 ((w.withFollow "comprehension-iter-twice" false).withFollow "special-get-raises" false) h) :=
 ⟨⟨by kernel_rfl,⟨l8 (by kernel_rfl) (by kernel_rfl),fY (by kernel_rfl) (by kernel_rfl),fY (by kernel_rfl) (by kernel_rfl),oJ (by kernel_rfl) (by kernel_rfl)⟩,
  ⟨⟨by kernel_rfl,by kernel_rfl,by kernel_rfl⟩,⟨by kernel_rfl,by kernel_rfl,by kernel_rfl⟩,fun prog w A R s x p=>by kernel_rfl,⟨fun prog w A R s x=>by kernel_rfl,fun prog w R s x=>by unfold zO; kernel_rfl⟩,fun S l x p=>(by kernel_rfl:_=(some ((cV.take eA.arity).zip [l,x,.none,p,.bool false])=some ((cV.take eA.arity).zip [l,x,.none,p,.bool false]))).mpr rfl⟩,
  rT (by kernel_rfl),rR (fun k prog w R s tk=>by kernel_rfl) ⟨fun prog w R s tk=>by kernel_rfl,fun prog w R s tk=>by kernel_rfl,fun prog w R s tk=>by kernel_rfl,fun prog w R s tk=>by kernel_rfl,fun prog w R s tk=>by kernel_rfl,fun prog w R s tk=>by kernel_rfl,fun prog w R s tk=>by kernel_rfl,fun prog w R s tk=>by kernel_rfl,fun prog w R s tk=>by kernel_rfl,fun prog w R s tk=>by kernel_rfl,fun prog w R s tk=>by kernel_rfl,fun prog w R s tk=>by kernel_rfl,fun prog w R s tk=>by kernel_rfl,trivial⟩⟩,⟨oL (by kernel_rfl) (by kernel_rfl),by kernel_rfl⟩,l9 (by kernel_rfl) (by kernel_rfl),by kernel_rfl⟩
theorem ZD(w:World):∃ h:(go6 ((w.withFollow "comprehension-iter-twice" false).withFollow "special-get-raises" true)).isSome=true,sQ (x6 ((w.withFollow "comprehension-iter-twice" false).withFollow "special-get-raises" true) h):=by
 have h:(go6 ((w.withFollow "comprehension-iter-twice" false).withFollow "special-get-raises" true)).isSome=true:=by kernel_rfl
 exact⟨h,by kernel_rfl,by kernel_rfl,by kernel_rfl,by kernel_rfl,by kernel_rfl,by kernel_rfl,by kernel_rfl,by kernel_rfl⟩
theorem ZH(w:World)(h:(go6 ((w.withFollow "comprehension-iter-twice" false).withFollow "special-get-raises" true)).isSome=true):xF (K6 ((w.withFollow "comprehension-iter-twice" false).withFollow "special-get-raises" true) h) :=
 ⟨⟨by kernel_rfl,⟨l8 (by kernel_rfl) (by kernel_rfl),fY (by kernel_rfl) (by kernel_rfl),fY (by kernel_rfl) (by kernel_rfl),oJ (by kernel_rfl) (by kernel_rfl)⟩,
  ⟨⟨by kernel_rfl,by kernel_rfl,by kernel_rfl⟩,⟨by kernel_rfl,by kernel_rfl,by kernel_rfl⟩,fun prog w A R s x p=>by kernel_rfl,⟨fun prog w A R s x=>by kernel_rfl,fun prog w R s x=>by unfold zO; kernel_rfl⟩,fun S l x p=>(by kernel_rfl:_=(some ((cV.take eA.arity).zip [l,x,.none,p,.bool false])=some ((cV.take eA.arity).zip [l,x,.none,p,.bool false]))).mpr rfl⟩,
  rT (by kernel_rfl),rR (fun k prog w R s tk=>by kernel_rfl) ⟨fun prog w R s tk=>by kernel_rfl,fun prog w R s tk=>by kernel_rfl,fun prog w R s tk=>by kernel_rfl,fun prog w R s tk=>by kernel_rfl,fun prog w R s tk=>by kernel_rfl,fun prog w R s tk=>by kernel_rfl,fun prog w R s tk=>by kernel_rfl,fun prog w R s tk=>by kernel_rfl,fun prog w R s tk=>by kernel_rfl,fun prog w R s tk=>by kernel_rfl,fun prog w R s tk=>by kernel_rfl,fun prog w R s tk=>by kernel_rfl,fun prog w R s tk=>by kernel_rfl,trivial⟩⟩,⟨oL (by kernel_rfl) (by kernel_rfl),by kernel_rfl⟩,l9 (by kernel_rfl) (by kernel_rfl),by kernel_rfl⟩
theorem ZC(w:World):∃ h:(go6 ((w.withFollow "comprehension-iter-twice" true).withFollow "special-get-raises" false)).isSome=true,sQ (x6 ((w.withFollow "comprehension-iter-twice" true).withFollow "special-get-raises" false) h):=by
 have h:(go6 ((w.withFollow "comprehension-iter-twice" true).withFollow "special-get-raises" false)).isSome=true:=by kernel_rfl
 exact⟨h,by kernel_rfl,by kernel_rfl,by kernel_rfl,by kernel_rfl,by kernel_rfl,by kernel_rfl,by kernel_rfl,by kernel_rfl⟩
theorem ZG(w:World)(h:(go6 ((w.withFollow "comprehension-iter-twice" true).withFollow "special-get-raises" false)).isSome=true):xF (K6 ((w.withFollow "comprehension-iter-twice" true).withFollow "special-get-raises" false) h) :=
 ⟨⟨by kernel_rfl,⟨l8 (by kernel_rfl) (by kernel_rfl),fY (by kernel_rfl) (by kernel_rfl),fY (by kernel_rfl) (by kernel_rfl),oJ (by kernel_rfl) (by kernel_rfl)⟩,
  ⟨⟨by kernel_rfl,by kernel_rfl,by kernel_rfl⟩,⟨by kernel_rfl,by kernel_rfl,by kernel_rfl⟩,fun prog w A R s x p=>by kernel_rfl,⟨fun prog w A R s x=>by kernel_rfl,fun prog w R s x=>by unfold zO; kernel_rfl⟩,fun S l x p=>(by kernel_rfl:_=(some ((cV.take eA.arity).zip [l,x,.none,p,.bool false])=some ((cV.take eA.arity).zip [l,x,.none,p,.bool false]))).mpr rfl⟩,
  rT (by kernel_rfl),rR (fun k prog w R s tk=>by kernel_rfl) ⟨fun prog w R s tk=>by kernel_rfl,fun prog w R s tk=>by kernel_rfl,fun prog w R s tk=>by kernel_rfl,fun prog w R s tk=>by kernel_rfl,fun prog w R s tk=>by kernel_rfl,fun prog w R s tk=>by kernel_rfl,fun prog w R s tk=>by kernel_rfl,fun prog w R s tk=>by kernel_rfl,fun prog w R s tk=>by kernel_rfl,fun prog w R s tk=>by kernel_rfl,fun prog w R s tk=>by kernel_rfl,fun prog w R s tk=>by kernel_rfl,fun prog w R s tk=>by kernel_rfl,trivial⟩⟩,⟨oL (by kernel_rfl) (by kernel_rfl),by kernel_rfl⟩,l9 (by kernel_rfl) (by kernel_rfl),by kernel_rfl⟩
theorem ZB(w:World):∃ h:(go6 ((w.withFollow "comprehension-iter-twice" true).withFollow "special-get-raises" true)).isSome=true,sQ (x6 ((w.withFollow "comprehension-iter-twice" true).withFollow "special-get-raises" true) h):=by
 have h:(go6 ((w.withFollow "comprehension-iter-twice" true).withFollow "special-get-raises" true)).isSome=true:=by kernel_rfl
 exact⟨h,by kernel_rfl,by kernel_rfl,by kernel_rfl,by kernel_rfl,by kernel_rfl,by kernel_rfl,by kernel_rfl,by kernel_rfl⟩
theorem ZF(w:World)(h:(go6 ((w.withFollow "comprehension-iter-twice" true).withFollow "special-get-raises" true)).isSome=true):xF (K6 ((w.withFollow "comprehension-iter-twice" true).withFollow "special-get-raises" true) h) :=
 ⟨⟨by kernel_rfl,⟨l8 (by kernel_rfl) (by kernel_rfl),fY (by kernel_rfl) (by kernel_rfl),fY (by kernel_rfl) (by kernel_rfl),oJ (by kernel_rfl) (by kernel_rfl)⟩,
  ⟨⟨by kernel_rfl,by kernel_rfl,by kernel_rfl⟩,⟨by kernel_rfl,by kernel_rfl,by kernel_rfl⟩,fun prog w A R s x p=>by kernel_rfl,⟨fun prog w A R s x=>by kernel_rfl,fun prog w R s x=>by unfold zO; kernel_rfl⟩,fun S l x p=>(by kernel_rfl:_=(some ((cV.take eA.arity).zip [l,x,.none,p,.bool false])=some ((cV.take eA.arity).zip [l,x,.none,p,.bool false]))).mpr rfl⟩,
  rT (by kernel_rfl),rR (fun k prog w R s tk=>by kernel_rfl) ⟨fun prog w R s tk=>by kernel_rfl,fun prog w R s tk=>by kernel_rfl,fun prog w R s tk=>by kernel_rfl,fun prog w R s tk=>by kernel_rfl,fun prog w R s tk=>by kernel_rfl,fun prog w R s tk=>by kernel_rfl,fun prog w R s tk=>by kernel_rfl,fun prog w R s tk=>by kernel_rfl,fun prog w R s tk=>by kernel_rfl,fun prog w R s tk=>by kernel_rfl,fun prog w R s tk=>by kernel_rfl,fun prog w R s tk=>by kernel_rfl,fun prog w R s tk=>by kernel_rfl,trivial⟩⟩,⟨oL (by kernel_rfl) (by kernel_rfl),by kernel_rfl⟩,l9 (by kernel_rfl) (by kernel_rfl),by kernel_rfl⟩
theorem Be:∀ w:World,P6 w:=by
 have g:∀{w:World},(∃ h:(go6 w).isSome=true,sQ (x6 w h))→(∀ h:(go6 w).isSome=true,xF (K6 w h))→P6 w:=fun a b=>let⟨h,s⟩:=a; ⟨h,s,b h⟩
 refine byRow2 "special-get-raises" (P:=P6) (fun w=>?_) fun w=>?_
 ·exact byRow2 "comprehension-iter-twice" (P:=fun w=>P6 (w.withFollow "special-get-raises" false)) (fun w=>g (ZE w) (ZI w)) (fun w=>g (ZC w) (ZG w)) w
 ·exact byRow2 "comprehension-iter-twice" (P:=fun w=>P6 (w.withFollow "special-get-raises" true)) (fun w=>g (ZD w) (ZH w)) (fun w=>g (ZB w) (ZF w)) w
theorem WA(w:World):JB (stepT (denote treeTable) (opening F4) w) (fenceModules? F4) (stepOk 34 (some (.ref 6))) (stepT (denote treeTable) F4 w) F4 6800=go6 w:=by
 unfold go6
 rw[PySem.W.Fast.te14364793385576792824,PySem.W.Fast.te11892475500146522536,PySem.W.Fast.te10156331382660048174,PySem.W.Fast.te6613529449190102663,PySem.W.Fast.te14289696077712309145]
theorem y6(w:World)(s:Shared×SharedT)(F:sQ s)(H:xF (kT s.2)):Y6 s.2.abs :=
 have hn:785<s.2.n:=Nat.le_of_ble_eq_true F.2.2.2.2.2.1
 ⟨kT s.2,Y9 s.2,H,IR hn F.2.2.2.2.2.2.1,IR (Nat.lt_trans (by decide) hn) F.2.2.2.2.2.2.2⟩
theorem Y4:LeftO r6.prog v6 xO X6 Y6 (fun _=>True) 6800:=Y3 (p:=F4) fun w=>by
 obtain⟨h,F,H⟩:=Be w
 refine⟨(x6 w h).1,(x6 w h).2,?_,⟨F.1,F.2.1,F.2.2.1⟩,F.2.2.2.1,?_,y6 w _ F (by unfold K6 at H; exact H)⟩
 ·rw[WA]; unfold x6; exact(Option.some_get h).symm
 ·rw[PySem.W.Fast.te4187177175401517315,PySem.W.Fast.te5923862056798008813]; exact F.2.2.2.2.1
end Kt.Internal
end
section
open PySem PySem.W PyProof.Rows
namespace Kt.Internal
section
variable{cl:iZ}{ex:Nat→LO→St→Option (OV×St)}{f n:Nat}{ρ ρ':LO}{st st' st'':St}{s:OS}{ss A:kC}{a b e:OE}{u v w:OV}{r:Option (mC×St)}
theorem aE(h:w6 cl ex f s ρ st=some (.next ρ',st'))(g:bG cl ex f ss ρ' st'=r):bG cl ex f (.cons s ss) ρ st=r:=(congrArg (Option.bind · _) h).trans g
theorem kW{c:OE}{B:kC}(h:jK cl ex c ρ st=some (true,st'))(g:bG cl ex f A ρ st'=some (.next ρ',st''))(k:bG cl ex f ss ρ' st''=r):bG cl ex f (.cons (.ife c A B) ss) ρ st=r :=
 aE ((congrArg (Option.bind · _) h).trans g) k
theorem bP{c:OE}{B:kC}(h:jK cl ex c ρ st=some (false,st'))(g:bG cl ex f B ρ st'=some (.next ρ',st''))(k:bG cl ex f ss ρ' st''=r):bG cl ex f (.cons (.ife c A B) ss) ρ st=r :=
 aE ((congrArg (Option.bind · _) h).trans g) k
theorem DE{c:OE}{B:kC}(h:jK cl ex c ρ st=some (true,st'))(g:bG cl ex f A ρ st'=some (.ret v,st'')):bG cl ex f (.cons (.ife c A B) ss) ρ st=some (.ret v,st'') :=
 have e:w6 cl ex f (.ife c A B) ρ st=some (.ret v,st''):=(congrArg (Option.bind · _) h).trans g
 congrArg (Option.bind · _) e
theorem iE{x:Nat}(h:cQ cl ex e ρ st=some (v,st')):w6 cl ex f (.assign x e) ρ st=some (.next (ρ.set x (some v)),st'):=congrArg (Option.map _) h
theorem rE(h:cQ cl ex e ρ st=some (v,st')):bG cl ex f (.cons (.ret e) ss) ρ st=some (.ret v,st'):=congrArg (fun o=>Option.bind (Option.map (fun p:OV×St=>(mC.ret p.1,p.2)) o) _) h
theorem B0{lo hi:OO}{x y:Option Int}(ha:cQ cl ex a ρ st=some (v,st))(h1:W0 cl ex lo ρ st=some (x,st))(h2:W0 cl ex hi ρ st=some (y,st))(hs:H9 v x y=some u):cQ cl ex (.slc a lo hi) ρ st=some (u,st) :=
 (congrArg (Option.bind · _) ha).trans ((congrArg (Option.bind · _) h1).trans ((congrArg (Option.bind · _) h2).trans (congrArg (Option.map _) hs)))
theorem VA{op:Operator}(ha:cQ cl ex a ρ st=some (v,st))(hb:cQ cl ex b ρ st=some (w,st))(hs:GD op v w=some u):cQ cl ex (.bin op a b) ρ st=some (u,st) :=
 (congrArg (Option.bind · _) ha).trans ((congrArg (Option.bind · _) hb).trans (congrArg (Option.map _) hs))
theorem xN(ha:cQ cl ex a ρ st=some (v,st))(hb:cQ cl ex b ρ st=some (w,st))(hs:eX st v w=some u):cQ cl ex (.idx a b) ρ st=some (u,st) :=
 (congrArg (Option.bind · _) ha).trans ((congrArg (Option.bind · _) hb).trans (congrArg (Option.map _) hs))
theorem iL{op:CmpOp}(ha:cQ cl ex a ρ st=some (v,st))(hb:cQ cl ex b ρ st=some (w,st))(hs:BO op v w=some u):cQ cl ex (.cmp op a b) ρ st=some (u,st) :=
 (congrArg (Option.bind · _) ha).trans ((congrArg (Option.bind · _) hb).trans (congrArg (Option.map _) hs))
theorem kQ{t:Bool}(h:cQ cl ex e ρ st=some (.d (.bool t),st)):jK cl ex e ρ st=some (t,st):=congrArg (Option.bind · _) h
end
noncomputable def XD(test:LO→St→Option (Bool×St))(body:LO→St→Option (mC×St))(n:Nat)(r:mC×St):Option (mC×St):=match r.1 with
 | .next ρ | .cont ρ=>cN test body n ρ r.2
 | .brk ρ=>some (.next ρ,r.2)
 | .ret v=>some (.ret v,r.2)
theorem eC{test:LO→St→Option (Bool×St)}{body:LO→St→Option (mC×St)}{n:Nat}{ρ:LO}{st:St}{r:mC×St}(ht:test ρ st=some (true,st))(hb:body ρ st=some r):cN test body (n+1) ρ st=XD test body n r :=
 (congrArg (Option.bind · _) ht).trans (congrArg (Option.bind · _) hb)
theorem n6{test:LO→St→Option (Bool×St)}{body:LO→St→Option (mC×St)}{n:Nat}{ρ:LO}{st:St}(ht:test ρ st=some (false,st)):cN test body (n+1) ρ st=some (.next ρ,st):=congrArg (Option.bind · _) ht
noncomputable def gM:Nat→kC→kC
 | 0,ss=>ss
 | n+1,ss=>match ss with | .nil=>.nil | .cons _ r=>gM n r
theorem KT{A R:List Nat}{x:Nat}:cut (A++x::R) (some (A.length:Int)) (some ((A.length:Int)+1))=[x]:=by
 have h1:dH (A.length:Int) (A++x::R).length=A.length:=t5 (List.prefix_append _ _).length_le
 have h2:dH ((A.length:Int)+1) (A++x::R).length=A.length+1:=t5 (by rw[List.length_append]; exact Nat.add_le_add_left (Nat.le_add_left _ _) _)
 show((A++x::R).take (dH ((A.length:Int)+1) _)).drop (dH (A.length:Int) _)=_
 rw[h1,h2,List.take_length_add_append,List.drop_left]
 rfl
theorem tP{q:Int}(h0:0≤q)(h:q<100000):vN (.d (.int q))=some q:=by
 have h1:decide ((-(2 ^ 62):Int)<q)=true:=decide_eq_true (Int.lt_of_lt_of_le (by decide +kernel) h0)
 have h2:decide (q<(2 ^ 62:Int))=true:=decide_eq_true (Int.lt_trans h (by decide +kernel))
 unfold vN qY qH
 dsimp only
 rw[h1,h2]; rfl
theorem z6{n:Nat}(h:n<100000):vN (.d (.int (n:Int)))=some (n:Int):=tP (Int.natCast_nonneg n) (Int.ofNat_lt.mpr h)
noncomputable def XS:Str := "abcdfeghijklmnopqrstuvwxyzABCDEFGHIJKLMNOPQRSTUVWXYZ0123456789_ßàáâãäåæçèéêëìíîïðñòóôõöøùúûüýþÿÀÁÂÃÄÅÆÇÈÉÊËÌÍÎÏÐÑÒÓÔÕÖØÙÚÛÜÝÞ"
noncomputable def Cc(s t:OV):List (Str×OV):=[("instream",.o 2),("infile",.d .none),("posix",.d (.bool true)),("eof",.d .none),("commenters",.d (.str "")),("wordchars",.d (.str XS)),("whitespace",.d (.str " \t\r\n")),("whitespace_split",.d (.bool true)),("quotes",.d (.str "'\"")),("escape",.d (.str "\\")),
 ("escapedquotes",.d (.str "\"")),("state",s),("pushback",.o 4),("lineno",.d (.int 1)),("debug",.d (.int 0)),("token",t),("filestack",.o 5),("source",.d .none),("_punctuation_chars",.d (.str ""))]
noncomputable def Cp(buf:Str)(p:Int):List (Str×OV):=[("_StringIO__newline",.d (.str "\n")),("_StringIO__buf",.d (.str buf)),("_StringIO__pos",.d (.int p))]
noncomputable def rS(s t:OV)(buf:Str)(p:Int)(z:St):St:=.inst 0 :: .dict (Cc s t) :: .inst 1 :: .dict (Cp buf p) :: .deq :: .deq::z
section
variable{F L:Nat}{s t:OV}{buf:Str}{p q:Int}{z:St}
theorem ES:aJ F (L+2) 1 [.o 2,.d (.int 1)] (rS s t buf p z)=eY (bG (aJ F (L+1)) (d7 F (aJ F (L+1))) F (gM 5 I1.body) [some (.o 2),some (.d (.int 1)),some (.d (.int p)),some (.d (.int buf.length))] (rS s t buf p z)):=by kernel_rfl
theorem ER:jK (aJ F (L+1)) (d7 F (aJ F (L+1))) (.cmp .GtE (.var 2) (.var 3)) [some (.o 2),some (.d (.int 1)),some (.d (.int p)),some (.d (.int q))] (rS s t buf p z)=some (decide (p≥q),rS s t buf p z):=by kernel_rfl
theorem zZ:jK (aJ F (L+1)) (d7 F (aJ F (L+1))) (.bool true (.cmp .GtE (.var 1) (.lit (.int 0))) (.cmp .Lt (.bin .Add (.var 2) (.var 1)) (.var 3))) [some (.o 2),some (.d (.int 1)),some (.d (.int p)),some (.d (.int q))] (rS s t buf p z)=some (decide (p+1<q),rS s t buf p z):=by kernel_rfl
theorem O6:bG (aJ F (L+1)) (d7 F (aJ F (L+1))) F (.cons (.assign 3 (.bin .Add (.var 2) (.var 1))) .nil) [some (.o 2),some (.d (.int 1)),some (.d (.int p)),some (.d (.int q))] (rS s t buf p z)=some (.next [some (.o 2),some (.d (.int 1)),some (.d (.int p)),some (.d (.int (p+1)))],rS s t buf p z):=by kernel_rfl
theorem U2:w6 (aJ F (L+1)) (d7 F (aJ F (L+1))) F (.setA 1 (.var 0) ("_StringIO__pos" : Str) (.var 3)) [some (.o 2),some (.d (.int 1)),some (.d (.int p)),some (.d (.int q))] (rS s t buf p z)=some (.next [some (.o 2),some (.d (.int 1)),some (.d (.int p)),some (.d (.int q))],rS s t buf q z):=by kernel_rfl
theorem MW(h:(buf.length:Int)≤p):aJ F (L+2) 1 [.o 2,.d (.int 1)] (rS s t buf p z)=some (.d (.str ""),rS s t buf p z) :=
 ES.trans (congrArg eY (DE (ER.trans (congrArg (fun b=>some (b,rS s t buf p z)) (decide_eq_true h))) (v:=.d (.str "")) (st'':=rS s t buf p z) (by kernel_rfl)))
theorem O7{c:Nat}(h0:0≤p)(h1:p+1<100000)(hs:H9 (.d (.str buf)) (some p) (some (p+1))=some (.d (.str ⟨#[c]⟩))):bG (aJ F (L+1)) (d7 F (aJ F (L+1))) F (gM 7 I1.body) [some (.o 2),some (.d (.int 1)),some (.d (.int p)),some (.d (.int (p+1)))] (rS s t buf p z)=some (.ret (.d (.str ⟨#[c]⟩)),rS s t buf (p+1) z) :=
 aE U2 (rE (B0 (VA (B0 (v:=.d (.str buf)) (x:=some p) (y:=some (p+1)) (by kernel_rfl) (congrArg (Option.map fun i=>(some i,rS s t buf (p+1) z)) (tP h0 (Int.lt_trans (Int.lt_add_one_of_le (Int.le_refl p)) h1))) (congrArg (Option.map fun i=>(some i,rS s t buf (p+1) z)) (tP (Int.le_add_one h0) h1)) hs) (w:=.d (.str " ")) (u:=.d (.str ⟨#[c,32]⟩)) (by kernel_rfl) (by kernel_rfl)) (x:=none) (y:=some (-1)) rfl (by kernel_rfl) (by kernel_rfl)))
theorem QN{A R:List Nat}{c:Nat}(hb:A.length<90000):aJ F (L+2) 1 [.o 2,.d (.int 1)] (rS s t ⟨(A++c::R).toArray⟩ A.length z)=some (.d (.str ⟨#[c]⟩),rS s t ⟨(A++c::R).toArray⟩ ((A.length:Int)+1) z):=by
 have hl:((⟨(A++c::R).toArray⟩:Str).length:Int)=(A.length:Int)+1+(R.length:Int):=by
  exact congrArg (Nat.cast:Nat→Int) (List.length_append.trans (Nat.add_right_comm A.length R.length 1))
 have hs:H9 (.d (.str ⟨(A++c::R).toArray⟩)) (some (A.length:Int)) (some ((A.length:Int)+1))=some (.d (.str ⟨#[c]⟩)):=congrArg (fun l:List Nat=>some (OV.d (.str ⟨l.toArray⟩))) KT
 have h0:=Int.natCast_nonneg A.length
 have h1:(A.length:Int)+1<100000:=Int.lt_of_lt_of_le (Int.add_lt_add_right (Int.ofNat_lt.mpr hb) 1) (by decide)
 have hr:=fun a=>Int.le_add_of_nonneg_right (a:=a) (Int.natCast_nonneg R.length)
 generalize (⟨(A++c::R).toArray⟩:Str)=buf at hl hs ⊢
 generalize (A.length:Int)=p at hl hs h0 h1 ⊢
 have l1:=O7 (F:=F) (L:=L) (s:=s) (t:=t) (z:=z) h0 h1 hs
 refine ES.trans (congrArg eY (a₂:=some (.ret (.d (.str ⟨#[c]⟩)),rS s t buf (p+1) z)) (bP (ER.trans (congrArg (fun b=>some (b,rS s t buf p z)) (decide_eq_false ?_))) rfl ?_))
 ·exact hl▸Int.not_le.mpr (Int.lt_of_lt_of_le (Int.lt_add_one_of_le (Int.le_refl p)) (hr _))
 rw[hl]
 by_cases hlt:p+1<p+1+(R.length:Int)
 ·exact kW (zZ.trans (congrArg (fun b=>some (b,rS s t buf p z)) (decide_eq_true hlt))) O6 l1
 ·refine bP (zZ.trans (congrArg (fun b=>some (b,rS s t buf p z)) (decide_eq_false hlt))) rfl ?_
  rw[show p+1+(R.length:Int)=p+1 from Int.le_antisymm (Int.not_lt.mp hlt) (hr _)]
  exact l1
end
noncomputable def JX:kC:=gM 1 pM
noncomputable abbrev rL(q:Bool)(c:Option OV):LO:=[some (.o 0),some (.d (.bool q)),some (.d (.str " ")),none,c]
structure RS where
 q:Bool
 s:OV
 t:OV
noncomputable def sg(c:Nat):OV:=.d (.str ⟨#[c]⟩)
section
variable{F L f n:Nat}{ex:Nat→LO→St→Option (OV×St)}{cl:iZ}{s t:OV}{p:Int}{buf:Str}{z:St}{q:Bool}{c:Option OV}
theorem O5:cQ cl ex (.mcall 1 (.attr 0 (.var 0) ("instream" : Str)) ("read" : Str) 1 (.cons (.lit (.int 1)) .nil)) (rL q c) (rS s t buf p z)=cl 1 [.o 2,.d (.int 1)] (rS s t buf p z):=by kernel_rfl
theorem EQ{v:OV}{st':St}{r:Option (mC×St)}(h:aJ F (L+2) 1 [.o 2,.d (.int 1)] (rS s t buf p z)=some (v,st'))(g:bG (aJ F (L+2)) ex f JX (rL q (some v)) st'=r):bG (aJ F (L+2)) ex f pM (rL q c) (rS s t buf p z)=r :=
 bP (st':=rS s t buf p z) (by kernel_rfl) (aE (iE (O5.trans h)) rfl) g
def Tr(F L f:Nat)(ex:Nat→LO→St→Option (OV×St))(fl:LO→mC)(a:RS)(v:OV)(b:RS):Prop:=∀(buf:Str)(p:Int)(z:St),bG (aJ F (L+2)) ex f JX (rL a.q (some v)) (rS a.s a.t buf p z)=some (fl (rL b.q (some v)),rS b.s b.t buf p z)
theorem OI{c:Nat}(h:c=97∨c=98∨c=45):Tr F L f ex .next ⟨false,sg 32,.d (.str "")⟩ (sg c) ⟨false,sg 97,sg c⟩:=fun buf p z=>by
 rcases h with rfl | rfl | rfl <;> kernel_rfl
theorem RN:Tr F L f ex .next ⟨q,sg 32,t⟩ (sg 39) ⟨q,sg 39,t⟩:=fun buf p z=>by kernel_rfl
theorem IP:Tr F L f ex .next ⟨q,sg 39,t⟩ (sg 39) ⟨true,sg 97,t⟩:=fun buf p z=>by kernel_rfl
theorem XY:Tr F L f ex .next ⟨q,sg 97,t⟩ (sg 34) ⟨q,sg 34,t⟩:=fun buf p z=>by kernel_rfl
theorem XW:Tr F L f ex .next ⟨q,sg 34,.d (.str "")⟩ (sg 39) ⟨true,sg 34,sg 39⟩:=fun buf p z=>by kernel_rfl
theorem XV:Tr F L f ex .next ⟨q,sg 34,t⟩ (sg 34) ⟨true,sg 97,t⟩:=fun buf p z=>by kernel_rfl
theorem XU:Tr F L f ex .next ⟨q,sg 97,t⟩ (sg 39) ⟨q,sg 39,t⟩:=fun buf p z=>by kernel_rfl
theorem XZ{c:Nat}(hs:i4 c=true)(hc:fT c=false)(h39:c≠39):Tr F L f ex .next ⟨q,sg 39,.d (.str "")⟩ (sg c) ⟨true,sg 39,sg c⟩:=by
 revert hc h39
 refine pV (m:=fun c=>fT c=false→c≠39→Tr F L f ex .next ⟨q,sg 39,.d (.str "")⟩ (sg c) ⟨true,sg 39,sg c⟩) hs ⟨?_,?_,?_,?_,?_,?_,?_,?_,?_,?_,?_,?_,?_⟩ fun k _ _ buf p z=>by kernel_rfl
 ·exact fun h=>nomatch h
 ·exact fun _ h=>absurd rfl h
 all_goals first | exact(fun _ _ buf p z=>by kernel_rfl)| exact fun h=>nomatch h
theorem T6{c:Nat}:Tr F L f ex .brk ⟨q,sg 97,sg c⟩ (sg 32) ⟨q,sg 32,sg c⟩:=fun buf p z=>by kernel_rfl
theorem T7:Tr F L f ex .brk ⟨q,sg 97,t⟩ (.d (.str "")) ⟨q,.d .none,t⟩:=fun buf p z=>by kernel_rfl
theorem OJ:Tr F L f ex .brk ⟨q,.d .none,t⟩ (.d (.str "")) ⟨q,.d .none,.d (.str "")⟩:=fun buf p z=>by kernel_rfl
end
noncomputable def qw(c:Nat):List Nat:=bif fT c then [c]else bif c==39 then [39,39,34,39,34,39,39]else [39,c,39]
section
variable{F L f n:Nat}{ex:Nat→LO→St→Option (OV×St)}{z:St}
noncomputable abbrev rW(F L f:Nat)(ex:Nat→LO→St→Option (OV×St))(n:Nat)(c:Option OV)(a:RS)(l:List Nat)(p:Nat)(z:St):Option (mC×St) :=
 cN (jK (aJ F (L+2)) ex tA) (bG (aJ F (L+2)) ex f pM) n (rL a.q c) (rS a.s a.t ⟨l.toArray⟩ p z)
theorem EL{ρ:LO}{st:St}:jK (aJ F (L+2)) ex tA ρ st=some (true,st):=rfl
theorem RY{fl:LO→mC}{a b:RS}{A R l:List Nat}{x:Nat}{c:Option OV}(T:Tr F L f ex fl a (sg x) b)(hb:A.length<90000)(hl:l=A++x::R) :
  rW F L f ex (n+1) c a l A.length z=XD (jK (aJ F (L+2)) ex tA) (bG (aJ F (L+2)) ex f pM) n (fl (rL b.q (some (sg x))),rS b.s b.t ⟨l.toArray⟩ (A++[x]).length z):=by
 subst hl
 refine eC EL (EQ (QN hb) ?_)
 rw[List.length_append]
 exact T _ _ z
theorem JV{a b:RS}{l:List Nat}{c:Option OV}(T:Tr F L f ex .brk a (.d (.str "")) b):rW F L f ex (n+1) c a l l.length z=some (.next (rL b.q (some (.d (.str "")))),rS b.s b.t ⟨l.toArray⟩ l.length z) :=
 eC EL (EQ (MW (Int.le_refl _)) (T _ _ z))
noncomputable def Ag(F L f:Nat)(ex:Nat→LO→St→Option (OV×St)):RS→List Nat→RS→Prop
 | a,[],b=>a=b
 | a,x::xs,b=>∃ m,Tr F L f ex .next a (sg x) m∧Ag F L f ex m xs b
theorem JU{b:RS}{l R:List Nat}{xs:List Nat}:∀{a:RS}{A:List Nat}{c:Option OV},Ag F L f ex a xs b→l=A++(xs++R)→(A++xs).length<90000→∃ c',rW F L f ex (n+xs.length) c a l A.length z=rW F L f ex n c' b l (A++xs).length z:=by
 induction xs with
 | nil=>exact fun{a A c}h _ _=>by cases h; exact⟨c,by rw[List.append_nil]; rfl⟩
 | cons x xs ih =>
  intro a A c h hl hb
  obtain⟨m,h1,h2⟩:=h
  have e:A++x::xs=A++[x]++xs:=(List.append_assoc A [x] xs).symm
  have hl2:l=A++[x]++(xs++R):=hl.trans (List.append_assoc A [x] (xs++R)).symm
  obtain⟨c',g⟩:=ih (A:=A++[x]) (c:=some (sg x)) h2 hl2 (e▸hb)
  exact⟨c',(RY h1 (Nat.lt_of_le_of_lt (List.length_append▸Nat.le_add_right _ _) hb) hl).trans (g.trans (by rw[e]))⟩
theorem zQ{x:Nat}(hx:i4 x=true):Ag F L f ex ⟨false,sg 32,.d (.str "")⟩ (qw x) ⟨!fT x,sg 97,sg x⟩:=by
 have h0:(!fT x||(x==97||(x==98||x==45)))=true:=pV (m:=fun x=>(!fT x||(x==97||(x==98||x==45)))=true) hx (by refine⟨?_,?_,?_,?_,?_,?_,?_,?_,?_,?_,?_,?_,?_⟩ <;> kernel_rfl) fun k=>by kernel_rfl
 unfold qw
 cases hs:fT x with
 | true =>
  rw[hs]at h0
  have h0:(x==97||(x==98||x==45))=true:=h0
  exact⟨_,OI ((Bool.or_eq_true_iff.mp h0).imp eq_of_beq fun h=>(Bool.or_eq_true_iff.mp h).imp eq_of_beq eq_of_beq),rfl⟩
 | false =>
  cases h:x==39 with
  | true=>rw[eq_of_beq h]; exact⟨_,RN,_,IP,_,XY,_,XW,_,XV,_,XU,_,IP,rfl⟩
  | false=>exact⟨_,RN,_,XZ hx hs (ne_of_beq_false h),_,IP,rfl⟩
end
noncomputable def mA:List Nat→List Nat
 | []=>[]
 | c::r=>match r with | []=>qw c | _::_=>qw c++32::mA r
section
variable{F L n:Nat}{z:St}
theorem O1{f x:Nat}{ex:Nat→LO→St→Option (OV×St)}{A:List Nat}{c:Option OV}(hx:i4 x=true)(hb:(A++qw x).length<90000) :
  ∃ c',rW F L f ex (n+1+(qw x).length) c ⟨false,sg 32,.d (.str "")⟩ (A++qw x) A.length z=some (.next (rL (!fT x) c'),rS (.d .none) (sg x) ⟨(A++qw x).toArray⟩ (A++qw x).length z):=by
 obtain⟨c',h⟩:=JU (F:=F) (L:=L) (f:=f) (ex:=ex) (n:=n+1) (z:=z) (R:=[]) (A:=A) (c:=c) (zQ hx) (by rw[List.append_nil]) hb
 exact⟨_,h.trans (JV T7)⟩
theorem O0{f x:Nat}{ex:Nat→LO→St→Option (OV×St)}{A R:List Nat}{c:Option OV}(hx:i4 x=true)(hb:(A++qw x).length<90000) :
  ∃ c',rW F L f ex (n+1+(qw x).length) c ⟨false,sg 32,.d (.str "")⟩ (A++(qw x++32::R)) A.length z=some (.next (rL (!fT x) c'),rS (sg 32) (sg x) ⟨(A++(qw x++32::R)).toArray⟩ (A++qw x++[32]).length z):=by
 obtain⟨c',h⟩:=JU (F:=F) (L:=L) (f:=f) (ex:=ex) (n:=n+1) (z:=z) (R:=32::R) (A:=A) (c:=c) (zQ hx) rfl hb
 exact⟨_,h.trans (RY T6 hb (List.append_assoc ..).symm)⟩
noncomputable def Ab(F L:Nat)(r:mC×St):Option (mC×St):=match r.1 with
 | .next ρ'=>bG (aJ F (L+2)) (d7 F (aJ F (L+2))) F (gM 3 R5.body) ρ' r.2
 | g=>some (g,r.2)
noncomputable abbrev Aa(F L:Nat)(st:St):Option (mC×St):=cN (jK (aJ F (L+2)) (d7 F (aJ F (L+2))) tA) (bG (aJ F (L+2)) (d7 F (aJ F (L+2))) F pM) F (rL false none) st
theorem EO{s t:OV}{buf:Str}{p:Int}:aJ F (L+3) 6 [.o 0] (rS s t buf p z)=eY (Option.bind (Aa F L (rS s t buf p z)) (Ab F L)):=by kernel_rfl
theorem EM{s s' t:OV}{buf:Str}{p p':Int}{x:Nat}{b:Bool}{c:Option OV}(h:Aa F L (rS s t buf p z)=some (.next (rL b c),rS s' (sg x) buf p' z)):aJ F (L+3) 6 [.o 0] (rS s t buf p z)=some (sg x,rS s' (.d (.str "")) buf p' z) :=
 EO.trans ((congrArg (fun o=>eY (Option.bind o (Ab F L))) h).trans (by cases b <;> kernel_rfl))
theorem O2{s s' t:OV}{buf:Str}{p p':Int}{c:Option OV}(h:Aa F L (rS s t buf p z)=some (.next (rL false c),rS s' (.d (.str "")) buf p' z)):aJ F (L+3) 6 [.o 0] (rS s t buf p z)=some (.d .none,rS s' (.d (.str "")) buf p' z) :=
 EO.trans ((congrArg (fun o=>eY (Option.bind o (Ab F L))) h).trans (by kernel_rfl))
theorem FJ{cl:iZ}{ex:Nat→LO→St→Option (OV×St)}{ρ:LO}{s t:OV}{buf:Str}{p:Int}:cQ cl ex (.mcall 0 (.var 0) ("read_token" : Str) 6 .nil) (some (.o 0)::ρ) (rS s t buf p z)=cl 6 [.o 0] (rS s t buf p z):=by kernel_rfl
theorem FH{s s':OV}{buf:Str}{p p':Int}{x:Nat}(h:aJ (F+1) (L+3) 6 [.o 0] (rS s (.d (.str "")) buf p z)=some (sg x,rS s' (.d (.str "")) buf p' z)):aJ (F+1) (L+4) 7 [.o 0] (rS s (.d (.str "")) buf p z)=some (sg x,rS s' (.d (.str "")) buf p' z) :=
 (show aJ (F+1) (L+4) 7 [.o 0] (rS s (.d (.str "")) buf p z)=eY (bG (aJ (F+1) (L+3)) (d7 (F+1) (aJ (F+1) (L+3))) (F+1) I0.body [some (.o 0),none,none,none,none,none] (rS s (.d (.str "")) buf p z)) by kernel_rfl).trans
  ((congrArg eY (bP (st':=rS s (.d (.str "")) buf p z) (by kernel_rfl) rfl (aE (iE (FJ.trans h)) rfl))).trans (by kernel_rfl))
theorem QR{s s':OV}{buf:Str}{p p':Int}(h:aJ (F+1) (L+3) 6 [.o 0] (rS s (.d (.str "")) buf p z)=some (.d .none,rS s' (.d (.str "")) buf p' z)):aJ (F+1) (L+4) 7 [.o 0] (rS s (.d (.str "")) buf p z)=some (.d .none,rS s' (.d (.str "")) buf p' z) :=
 (show aJ (F+1) (L+4) 7 [.o 0] (rS s (.d (.str "")) buf p z)=eY (bG (aJ (F+1) (L+3)) (d7 (F+1) (aJ (F+1) (L+3))) (F+1) I0.body [some (.o 0),none,none,none,none,none] (rS s (.d (.str "")) buf p z)) by kernel_rfl).trans
  ((congrArg eY (bP (st':=rS s (.d (.str "")) buf p z) (by kernel_rfl) rfl (aE (iE (FJ.trans h)) rfl))).trans (by kernel_rfl))
theorem E6{cl:iZ}{s s':OV}{buf:Str}{p p':Int}{x:Nat}(h:cl 7 [.o 0] (rS s (.d (.str "")) buf p z)=some (sg x,rS s' (.d (.str "")) buf p' z)):sJ cl (.o 0) (rS s (.d (.str "")) buf p z)=some (some (sg x),rS s' (.d (.str "")) buf p' z) :=
 (congrArg (Option.bind · _) ((show cQ cl (fun _ _ _=>none) vO [some (.o 0),none] (rS s (.d (.str "")) buf p z)=cl 7 [.o 0] (rS s (.d (.str "")) buf p z) by kernel_rfl).trans h)).trans (by kernel_rfl)
theorem QC{cl:iZ}{s s':OV}{buf:Str}{p p':Int}(h:cl 7 [.o 0] (rS s (.d (.str "")) buf p z)=some (.d .none,rS s' (.d (.str "")) buf p' z)):sJ cl (.o 0) (rS s (.d (.str "")) buf p z)=some (none,rS s' (.d (.str "")) buf p' z) :=
 (congrArg (Option.bind · _) ((show cQ cl (fun _ _ _=>none) vO [some (.o 0),none] (rS s (.d (.str "")) buf p z)=cl 7 [.o 0] (rS s (.d (.str "")) buf p z) by kernel_rfl).trans h)).trans (by kernel_rfl)
end
def Ps(ws l:List Nat)(s:OV)(p:Int):Prop:=match ws with
 | []=>s = .d .none∧p=l.length
 | _::_=>s=sg 32∧∃ A,l=A++mA ws∧p=A.length
theorem BW(x:Nat):(qw x).length≤7:=by
 unfold qw
 cases fT x with
 | true=>exact(show 1≤7 by decide)
 | false=>cases x==39 with | true=>exact Nat.le_refl 7 | false=>exact(show 3≤7 by decide)
section
variable{F L n:Nat}{ws l:List Nat}{x:Nat}{s:OV}{p:Int}
theorem QA(hx:i4 x=true)(hb:l.length<90000)(hF:8≤F)(h:Ps (x::ws) l s p):∃ s' p',Ps ws l s' p'∧∀ z,sJ (aJ (F+1) (L+4)) (.o 0) (rS s (.d (.str "")) ⟨l.toArray⟩ p z)=some (some (sg x),rS s' (.d (.str "")) ⟨l.toArray⟩ p' z):=by
 obtain⟨rfl,A,hl,rfl⟩:=h
 obtain⟨n,hn⟩:∃ n,F+1=n+1+(qw x).length:=⟨F - (qw x).length,by rw[Nat.add_right_comm,Nat.sub_add_cancel (Nat.le_trans (BW x) (Nat.le_of_succ_le hF))]⟩
 cases ws with
 | nil =>
  have hl:l=A++qw x:=hl
  subst hl
  refine⟨_,_,⟨rfl,rfl⟩,fun z=>?_⟩
  obtain⟨c',h⟩:=O1 (F:=F+1) (L:=L+0) (f:=F+1) (ex:=d7 (F+1) (aJ (F+1) (L+2))) (n:=n) (z:=z) (A:=A) (c:=none) hx hb
  exact E6 (FH (EM (congrArg (fun k=>cN _ _ k _ _) hn |>.trans h)))
 | cons y ws =>
  have hl:l=A++(qw x++32::mA (y::ws)):=hl
  subst hl
  refine⟨_,_,⟨rfl,A++qw x++[32],by rw[List.append_assoc,List.append_assoc]; rfl,rfl⟩,fun z=>?_⟩
  obtain⟨c',h⟩:=O0 (F:=F+1) (L:=L+0) (f:=F+1) (ex:=d7 (F+1) (aJ (F+1) (L+2))) (n:=n) (z:=z) (A:=A) (R:=mA (y::ws)) (c:=none) hx (Nat.lt_of_le_of_lt (by rw[List.length_append,List.length_append,List.length_append]; exact Nat.add_le_add_left (Nat.le_add_right _ _) _) hb)
  exact E6 (FH (EM (congrArg (fun k=>cN _ _ k _ _) hn |>.trans h)))
theorem QB{z:St}(h:Ps [] l s p):sJ (aJ (F+1) (L+4)) (.o 0) (rS s (.d (.str "")) ⟨l.toArray⟩ p z)=some (none,rS (.d .none) (.d (.str "")) ⟨l.toArray⟩ l.length z):=by
 obtain⟨rfl,rfl⟩:=h
 have h:=JV (F:=F+1) (L:=L) (f:=F+1) (ex:=d7 (F+1) (aJ (F+1) (L+2))) (n:=F) (z:=z) (a:=⟨false,.d .none,.d (.str "")⟩) (l:=l) (c:=none) OJ
 exact QC (QR (O2 h))
theorem CZ(hb:l.length<90000)(hF:8≤F):∀{ws:List Nat}{n:Nat}{s:OV}{p:Int}{acc:List OV},(∀ c∈ws,i4 c=true)→Ps ws l s p→ws.length<n→acc.length+ws.length≤1000 →
  lJ (aJ (F+1) (L+4)) n (.o 0) 6 (rS s (.d (.str "")) ⟨l.toArray⟩ p [.list acc])=some (.o 6,rS (.d .none) (.d (.str "")) ⟨l.toArray⟩ l.length [.list (acc++ws.map sg)]):=by
 intro ws
 induction ws with
 | nil =>
  intro n s p acc _ h hn _
  obtain⟨n,rfl⟩:=Nat.exists_eq_add_of_lt hn
  rw[List.map_nil,List.append_nil,show([]:List Nat).length+n+1=n+1 from congrArg (· + 1) (Nat.zero_add n)]
  exact congrArg (Option.bind · _) (QB h)
 | cons x ws ih =>
  intro n s p acc hc h hn ha
  obtain⟨n,rfl⟩:=Nat.exists_eq_succ_of_ne_zero (Nat.ne_of_gt (Nat.lt_of_le_of_lt (Nat.zero_le _) hn))
  obtain⟨s',p',h',hnx⟩:=QA (L:=L) (hc x List.mem_cons_self) hb hF h
  have ha':(acc++[sg x]).length+ws.length≤1000:=by rw[List.length_append,Nat.add_assoc,Nat.add_comm [sg x].length]; exact ha
  have hpush:mK (rS s' (.d (.str "")) ⟨l.toArray⟩ p' [.list acc]) 6 (sg x)=some (rS s' (.d (.str "")) ⟨l.toArray⟩ p' [.list (acc++[sg x])]):=if_pos (Nat.le_trans (Nat.le_add_right _ _) ha)
  have e:acc++(x::ws).map sg=acc++[sg x]++ws.map sg:=(List.append_assoc acc [sg x] (ws.map sg)).symm
  rw[e]
  exact(congrArg (Option.bind · _) (hnx [.list acc])).trans ((congrArg (Option.bind · _) hpush).trans (ih (fun c h=>hc c (List.mem_cons_of_mem _ h)) h' (Nat.lt_of_succ_lt_succ hn) ha'))
end
theorem RZ(x:Nat):qS x=⟨(qw x).toArray⟩:=by
 unfold qS qw r7
 cases fT x with
 | true=>rfl
 | false =>
  cases h:x==39 with
  | true=>kernel_rfl
  | false=>kernel_rfl
theorem jP(a b:List Nat):(⟨a.toArray⟩:Str)++⟨b.toArray⟩=⟨(a++b).toArray⟩:=congrArg Str.mk (List.append_toArray a b)
theorem nZ(cs:List Nat):Str.join " " (cs.map qS)=⟨(mA cs).toArray⟩:=by
 induction cs with
 | nil=>rfl
 | cons x cs ih =>
  cases cs with
  | nil=>exact RZ x
  | cons y cs =>
   show qS x ++ " " ++ Str.join " " ((y::cs).map qS)=⟨(qw x++32::mA (y::cs)).toArray⟩
   rw[ih,RZ x,show(" " : Str)=⟨[32].toArray⟩from rfl,jP,jP,List.append_assoc]; rfl
theorem V2(cs:List Nat):(mA cs).length≤8*cs.length:=by
 induction cs with
 | nil=>exact Nat.le_refl _
 | cons x cs ih =>
  cases cs with
  | nil=>exact Nat.le_trans (BW x) (show 7≤8 by decide)
  | cons y cs =>
   show(qw x++32::mA (y::cs)).length≤_
   rw[List.length_append,List.length_cons,List.length_cons,Nat.mul_succ,Nat.add_comm]
   exact Nat.le_trans (Nat.add_le_add (Nat.succ_le_succ ih) (BW x)) (Nat.le_of_eq (Nat.succ_add_eq_add_succ _ 7))
theorem NA{cs:List Nat}(h:∀ c∈cs,bK (wD c)=true):tC (cs.map sg)=some (cs.map wD):=by
 induction cs with
 | nil=>rfl
 | cons x cs ih =>
  show(if(flat (wD x)&&bK (wD x))=true then(tC (cs.map sg)).map (wD x :: ·)else none)=_
  rw[h x List.mem_cons_self,ih fun c hc=>h c (List.mem_cons_of_mem _ hc)]; rfl
theorem C3{F:Nat}{x:Str}:aJ F 6 15 [.d (.str x)] []=eY (Option.bind (Option.map (fun p:OV×St=>(mC.ret p.1,p.2)) (lJ (aJ F 5) F (.o 0) 6 (rS (sg 32) (.d (.str "")) x 0 [.list []]))) fun r=>match r.1 with
 | .next ρ'=>bG (aJ F 5) (d7 F (aJ F 5)) F .nil ρ' r.2
 | g=>some (g,r.2)):=by kernel_rfl
theorem C2{F:Nat}{cs:List Nat}(hc:∀ c∈cs,i4 c=true)(hok:∀ c∈cs,bK (wD c)=true)(hne:cs≠[])(hl:cs.length≤900)(hF:900≤F):pG (F+1) (Str.join " " (cs.map qS))=some (.list (cs.map wD)):=by
 have hb:(mA cs).length<90000:=Nat.lt_of_le_of_lt (Nat.le_trans (V2 cs) (Nat.mul_le_mul_left 8 hl)) (by decide)
 have hP:Ps cs (mA cs) (sg 32) (0:Int):=by
  cases cs with
  | nil=>exact absurd rfl hne
  | cons y cs=>exact⟨rfl,[],rfl,rfl⟩
 have h:=CZ (L:=1) (n:=F+1) (acc:=[]) hb (Nat.le_trans (by decide) hF) hc hP (Nat.lt_succ_of_le (Nat.le_trans hl hF)) (by rw[List.length_nil,Nat.zero_add]; exact Nat.le_trans hl (by decide))
 rw[nZ]
 unfold pG
 rw[C3,h]
 exact congrArg (Option.map PyData.list) (NA hok)
section
variable{cl:iZ}{ex:Nat→LO→St→Option (OV×St)}{f n:Nat}{ρ:LO}{st st':St}{a b e:OE}{v:OV}{t:Bool}
theorem jR{m j:Nat}(hf:cQ cl ex a ρ st=some (.o m,st))(he:cQ cl ex e ρ st=some (v,st))(hm:R6 st (.o m)=some j)(hp:mK st j v=some st'):w6 cl ex f (.expr (.app a e)) ρ st=some (.next ρ,st'):=by
 have h:cQ cl ex (.app a e) ρ st=some (.d .none,st'):=(congrArg (Option.bind · _) hf).trans ((congrArg (Option.bind · _) he).trans ((congrArg (Option.bind · _) hm).trans (congrArg (Option.map _) hp)))
 exact congrArg (Option.bind · _) h
theorem rF(ha:cQ cl ex a ρ st=some (.d (.bool true),st))(hb:cQ cl ex b ρ st=some (.d (.bool t),st)):jK cl ex (.bool true a b) ρ st=some (t,st):=by
 have h:cQ cl ex (.bool true a b) ρ st=some (.d (.bool t),st):=(congrArg (Option.bind · _) ha).trans hb
 exact congrArg (Option.bind · _) h
theorem QP{s:Str}{q:Int}{c:Nat}(h0:0≤q)(h1:q<100000)(hlt:q.toNat<s.length)(hg:s.cps[q.toNat]? = some c):eX st (.d (.str s)) (.d (.int q))=some (sg c):=by
 have hp:cT q s.length=some q.toNat:=by
  have h3:decide ((-(2 ^ 62):Int)<q)=true:=decide_eq_true (Int.lt_of_lt_of_le (by decide +kernel) h0)
  have h4:decide (q<(2 ^ 62:Int))=true:=decide_eq_true (Int.lt_trans h1 (by decide +kernel))
  unfold cT
  rw[h3,h4,if_pos h0,if_pos hlt]; rfl
 have e:eX st (.d (.str s)) (.d (.int q))=qK ((cT q s.length).bind fun k=>(s.cps[k]?).map fun c=>PyData.str ⟨#[c]⟩):=rfl
 rw[e,hp]
 show qK ((s.cps[q.toNat]?).map fun c=>PyData.str ⟨#[c]⟩)=_
 rw[hg]; rfl
theorem pO{A R:List Nat}{c:Nat}(hb:A.length<90000):eX st (.d (.str ⟨(A++c::R).toArray⟩)) (.d (.int A.length))=some (sg c) :=
 QP (Int.natCast_nonneg _) (Int.lt_trans (Int.ofNat_lt.mpr hb) (by decide)) (by rw[Int.toNat_natCast]; show A.length<(A++c::R).length; rw[List.length_append]; exact Nat.lt_add_of_pos_right (Nat.succ_pos _))
  (by rw[Int.toNat_natCast,List.getElem?_toArray,List.getElem?_append_right (Nat.le_refl _),Nat.sub_self]; rfl)
end
noncomputable abbrev iA(s:Str)(i n:Int)(c j u:Option OV):LO:=[some (.d (.str s)),some (.o 0),some (.d (.str ".")),some (.o 1),some (.o 2),some (.d (.int i)),some (.d (.int n)),c,j,u,none,none,none,none]
noncomputable abbrev cK(ps:List OV):St:=[.plain,.list ps,.meth 1]
noncomputable def fK(c:Nat):Bool:=c==42||(c==63||c==91)
theorem EI(a b:Nat):((⟨#[a]⟩:Str)==⟨#[b]⟩)=(a==b):=by
 by_cases e:a=b
 ·subst e; rw[beq_self_eq_true,beq_self_eq_true]
 ·rw[beq_false_of_ne e,beq_false_of_ne fun h=>e (List.cons.inj (congrArg (fun s:Str=>s.cps.toList) h)).1]
theorem KU{c d:Nat}:BO .Eq (sg c) (sg d)=some (.d (.bool (c==d))):=(show _=some (OV.d (.bool ((⟨#[c]⟩:Str)==⟨#[d]⟩))) by kernel_rfl).trans (by rw[EI])
theorem WO{c d:Nat}:BO .NotEq (sg c) (sg d)=some (.d (.bool (!(c==d)))):=(show _=some (OV.d (.bool (!((⟨#[c]⟩:Str)==⟨#[d]⟩)))) by kernel_rfl).trans (by rw[EI])
section
variable{F L:Nat}{s:Str}{i n:Int}{ps:List OV}{c j u:Option OV}{x:Nat}
theorem rA{v:OV}(hp:ps.length≤1000):mK (cK ps) 1 v=some (cK (ps++[v])):=if_pos hp
theorem w7{d:Nat}{b:Bool}{cl:iZ}{ex:Nat→LO→St→Option (OV×St)}(h:(x==d)=b):jK cl ex (.cmp .Eq (.var 7) (.lit (.str ⟨#[d]⟩))) (iA s i n (some (sg x)) j u) (cK ps)=some (b,cK ps):=kQ (iL (v:=sg x) (w:=sg d) rfl rfl (h▸KU))
theorem q8{f:Nat}{cl:iZ}{ex:Nat→LO→St→Option (OV×St)}{r:Option (mC×St)}(hx:eX (cK ps) (.d (.str s)) (.d (.int i))=some (sg x))(g:bG cl ex f (gM 2 fR) (iA s (i+1) n (some (sg x)) j u) (cK ps)=r):bG cl ex f fR (iA s i n c j u) (cK ps)=r :=
 aE (iE (xN (v:=.d (.str s)) (w:=.d (.int i)) rfl rfl hx)) (aE (ρ':=iA s (i+1) n (some (sg x)) j u) (st':=cK ps) (by kernel_rfl) g)
theorem K3(hb:fK x=false)(hp:ps.length≤1000)(hx:eX (cK ps) (.d (.str s)) (.d (.int i))=some (sg x)) :
  bG (aJ F (L+1)) (d7 F (aJ F (L+1))) F fR (iA s i n c j u) (cK ps)=some (.next (iA s (i+1) n (some (sg x)) j u),cK (ps++[.d (.str (q4 x))])):=by
 obtain⟨h1,hb⟩:=Bool.or_eq_false_iff.mp hb
 obtain⟨h2,h3⟩:=Bool.or_eq_false_iff.mp hb
 refine q8 hx (bP (w7 (d:=42) h1) (bP (w7 (d:=63) h2) (bP (w7 (d:=91) h3) (aE (jR (m:=2) (j:=1) (v:=.d (.str (q4 x))) rfl ?_ rfl (rA hp)) rfl) rfl) rfl) rfl)
 kernel_rfl
theorem T5(hp:ps.length≤1000)(hx:eX (cK ps) (.d (.str s)) (.d (.int i))=some (sg 63)) :
  bG (aJ F (L+1)) (d7 F (aJ F (L+1))) F fR (iA s i n c j u) (cK ps)=some (.next (iA s (i+1) n (some (sg 63)) j u),cK (ps++[.d (.str ".")])) :=
 q8 hx (bP (w7 (d:=42) rfl) (kW (w7 (d:=63) rfl) (aE (jR (m:=2) (j:=1) (v:=.d (.str ".")) rfl rfl rfl (rA hp)) rfl) rfl) rfl)
noncomputable def qJ:kC→OS
 | .nil=>.stuck
 | .cons s _=>s
noncomputable def VG(ss:kC):kC:=match qJ ss with | .ife _ a _=>a | _=>.nil
noncomputable def s6(ss:kC):kC:=match qJ ss with | .ife _ _ b=>b | _=>.nil
noncomputable def BE(x:Nat):Str:=bif x==91 then⟨#[92,91]⟩else⟨#[x]⟩
theorem eS{m:Nat→Prop}{x:Nat}(h:fK x=true)(h1:m 42)(h2:m 63)(h3:m 91):m x :=
 (Bool.or_eq_true_iff.mp h).elim (fun h=>eq_of_beq h▸h1) fun h=>(Bool.or_eq_true_iff.mp h).elim (fun h=>eq_of_beq h▸h2) fun h=>eq_of_beq h▸h3
section
variable{cl:iZ}{f:Nat}
theorem RP{k:Int}(h:k<n):cQ cl (d7 F cl) (.cmp .Lt (.var 8) (.var 6)) (iA s i n c (some (.d (.int k))) u) (cK ps)=some (.d (.bool true),cK ps) :=
 (show _=some (OV.d (.bool (decide (k<n))),cK ps) by kernel_rfl).trans (by rw[decide_eq_true h])
theorem JQ{k:Int}{y:Nat}(h:eX (cK ps) (.d (.str s)) (.d (.int k))=some (sg y)):cQ cl (d7 F cl) (.idx (.var 0) (.var 8)) (iA s i n c (some (.d (.int k))) u) (cK ps)=some (sg y,cK ps):=xN (v:=.d (.str s)) (w:=.d (.int k)) rfl rfl h
theorem RQ{k:Int}{y d:Nat}{b:Bool}(hk:k<n)(h:eX (cK ps) (.d (.str s)) (.d (.int k))=some (sg y))(hb:(y==d)=b):jK cl (d7 F cl) (.bool true (.cmp .Lt (.var 8) (.var 6)) (.cmp .Eq (.idx (.var 0) (.var 8)) (.lit (.str ⟨#[d]⟩)))) (iA s i n c (some (.d (.int k))) u) (cK ps)=some (b,cK ps) :=
 rF (RP hk) (iL (w:=sg d) (JQ h) rfl (hb▸KU))
theorem RO{k:Int}{y d:Nat}{b:Bool}(hk:k<n)(h:eX (cK ps) (.d (.str s)) (.d (.int k))=some (sg y))(hb:(!(y==d))=b):jK cl (d7 F cl) (.bool true (.cmp .Lt (.var 8) (.var 6)) (.cmp .NotEq (.idx (.var 0) (.var 8)) (.lit (.str ⟨#[d]⟩)))) (iA s i n c (some (.d (.int k))) u) (cK ps)=some (b,cK ps) :=
 rF (RP hk) (iL (w:=sg d) (JQ h) rfl (hb▸WO))
theorem K8{k:Int}{n':Nat}(hx:fK x=true)(hk:k<n)(hk2:k+1<n)(h1:eX (cK ps) (.d (.str s)) (.d (.int k))=some (sg x))(h2:eX (cK ps) (.d (.str s)) (.d (.int (k+1)))=some (sg 93)) :
  cN (jK cl (d7 F cl) E5) (bG cl (d7 F cl) f E3) (n'+2) (iA s i n c (some (.d (.int k))) u) (cK ps)=some (.next (iA s i n c (some (.d (.int (k+1)))) u),cK ps) :=
 (eC (r:=(.next (iA s i n c (some (.d (.int (k+1)))) u),cK ps)) (RO (d:=93) hk h1 (eS (m:=fun x=>(!(x==93))=true) hx rfl rfl rfl)) (by kernel_rfl)).trans (n6 (RO (d:=93) hk2 h2 rfl))
noncomputable def vL:kC:=gM 1 (s6 (gM 4 (VG (s6 (s6 (gM 2 fR))))))
noncomputable def RR:kC:=s6 (s6 (gM 3 vL))
theorem X3{k:Int}(hx:fK x=true):w6 cl (d7 F cl) f (qJ vL) (iA s i n c (some (.d (.int k))) (some (sg x))) (cK ps)=some (.next (iA s i n c (some (.d (.int k))) (some (sg x))),cK ps):=eS (m:=fun x=>w6 cl (d7 F cl) f (qJ vL) (iA s i n c (some (.d (.int k))) (some (sg x))) (cK ps)=some (.next (iA s i n c (some (.d (.int k))) (some (sg x))),cK ps)) hx (by kernel_rfl) (by kernel_rfl) (by kernel_rfl)
theorem X2{k:Int}(hx:fK x=true):w6 cl (d7 F cl) f (qJ (gM 1 vL)) (iA s i n c (some (.d (.int k))) (some (sg x))) (cK ps)=some (.next (iA s i n c (some (.d (.int k))) (some (sg x))),cK ps):=eS (m:=fun x=>w6 cl (d7 F cl) f (qJ (gM 1 vL)) (iA s i n c (some (.d (.int k))) (some (sg x))) (cK ps)=some (.next (iA s i n c (some (.d (.int k))) (some (sg x))),cK ps)) hx (by kernel_rfl) (by kernel_rfl) (by kernel_rfl)
theorem X1{k:Int}(hx:fK x=true):w6 cl (d7 F cl) f (qJ RR) (iA s i n c (some (.d (.int k))) (some (sg x))) (cK ps)=some (.next (iA s i n c (some (.d (.int k))) (some (.d (.str (BE x))))),cK ps):=eS (m:=fun x=>w6 cl (d7 F cl) f (qJ RR) (iA s i n c (some (.d (.int k))) (some (sg x))) (cK ps)=some (.next (iA s i n c (some (.d (.int k))) (some (.d (.str (BE x))))),cK ps)) hx (by kernel_rfl) (by kernel_rfl) (by kernel_rfl)
theorem X0(hx:fK x=true):N0 ("[" ++ BE x ++ "]")=some (.d (.str ("[" ++ BE x ++ "]"))):=eS (m:=fun x=>N0 ("[" ++ BE x ++ "]")=some (.d (.str ("[" ++ BE x ++ "]")))) hx (by kernel_rfl) (by kernel_rfl) (by kernel_rfl)
theorem OK{k:Int}(hx:fK x=true)(hp:ps.length≤1000):bG cl (d7 F cl) f vL (iA s i n c (some (.d (.int k))) (some (sg x))) (cK ps) =
  some (.next (iA s (k+1) n c (some (.d (.int k))) (some (.d (.str (BE x))))),cK (ps++[.d (.str ("[" ++ BE x ++ "]"))])) :=
 aE (X3 hx) (aE (X2 hx) (aE (ρ':=iA s (k+1) n c (some (.d (.int k))) (some (sg x))) (st':=cK ps) (by kernel_rfl) (bP (st':=cK ps) (by kernel_rfl)
  (bP (st':=cK ps) (kQ (iL (v:=sg x) (w:=sg 33) rfl rfl (eS (m:=fun x=>BO .Eq (sg x) (sg 33)=some (.d (.bool false))) hx (by kernel_rfl) (by kernel_rfl) (by kernel_rfl))))
   (aE (X1 hx) (aE (jR (m:=2) (j:=1) (v:=.d (.str ("[" ++ BE x ++ "]"))) rfl (congrArg (Option.map fun v=>(v,cK ps)) (X0 hx)) rfl (rA hp)) rfl)) rfl) rfl)))
theorem T4{F':Nat}(hx:fK x=true)(hp:ps.length≤1000)(h0:eX (cK ps) (.d (.str s)) (.d (.int i))=some (sg 91))(h1:eX (cK ps) (.d (.str s)) (.d (.int (i+1)))=some (sg x))(h2:eX (cK ps) (.d (.str s)) (.d (.int (i+1+1)))=some (sg 93))
  (hk:i+1+1<n) (hs:H9 (.d (.str s)) (some (i+1)) (some (i+1+1))=some (sg x)) (hq:vN (.d (.int (i+1)))=some (i+1)) (hq2:vN (.d (.int (i+1+1)))=some (i+1+1)) :
  bG cl (d7 (F'+2) cl) (F'+2) fR (iA s i n c j u) (cK ps)=some (.next (iA s (i+1+1+1) n (some (sg 91)) (some (.d (.int (i+1+1)))) (some (.d (.str (BE x))))),cK (ps++[.d (.str ("[" ++ BE x ++ "]"))])):=by
 have hk1:i+1<n:=Int.lt_trans (Int.lt_succ _) hk
 refine q8 h0 (bP (w7 (d:=42) rfl) (bP (w7 (d:=63) rfl) (kW (w7 (d:=91) rfl) ?_ rfl) rfl) rfl)
 refine aE (ρ':=iA s (i+1) n (some (sg 91)) (some (.d (.int (i+1)))) u) (st':=cK ps) (by kernel_rfl) ?_
 refine bP (RQ (d:=33) hk1 h1 (eS (m:=fun x=>(x==33)=false) hx rfl rfl rfl)) rfl ?_
 refine bP (RQ (d:=93) hk1 h1 (eS (m:=fun x=>(x==93)=false) hx rfl rfl rfl)) rfl ?_
 refine aE (K8 hx hk1 hk h1 h2) ?_
 refine bP (st':=cK ps) ((show jK cl (d7 (F'+2) cl) (.cmp .GtE (.var 8) (.var 6)) (iA s (i+1) n (some (sg 91)) (some (.d (.int (i+1+1)))) u) (cK ps)=some (decide (i+1+1≥n),cK ps) by kernel_rfl).trans (by rw[decide_eq_false (Int.not_le.mpr hk)])) ?_ rfl
 exact aE (iE (B0 (v:=.d (.str s)) (x:=some (i+1)) (y:=some (i+1+1)) rfl (congrArg (Option.map fun i=>(some i,cK ps)) hq) (congrArg (Option.map fun i=>(some i,cK ps)) hq2) hs)) (OK hx hp)
end
end
noncomputable def pc(c:Nat):List Nat:=bif fK c then [91,c,93]else [c]
noncomputable def ZX(c:Nat):Str:=bif fK c then "[" ++ BE c ++ "]" else q4 c
noncomputable def HZ(c:Nat):OV:=.d (.str (ZX c))
section
variable{F L m:Nat}{c j u:Option OV}{l:List Nat}{ps:List OV}
noncomputable abbrev tW(F L m:Nat)(c j u:Option OV)(l:List Nat)(p:Int)(ps:List OV):Option (mC×St) :=
 cN (jK (aJ (F+2) (L+1)) (d7 (F+2) (aJ (F+2) (L+1))) rK) (bG (aJ (F+2) (L+1)) (d7 (F+2) (aJ (F+2) (L+1))) (F+2) fR) m (iA ⟨l.toArray⟩ p l.length c j u) (cK ps)
theorem sV{s:Str}{i n:Int}{b:Bool}{cl:iZ}{ex:Nat→LO→St→Option (OV×St)}(h:decide (i<n)=b):jK cl ex rK (iA s i n c j u) (cK ps)=some (b,cK ps):=(show _=some (decide (i<n),cK ps) by kernel_rfl).trans (by rw[h])
theorem lT{A:List Nat}{x:Nat}:(((A++[x]).length:Nat):Int)=(A.length:Int)+1:=by rw[List.length_append]; rfl
theorem T2{A R:List Nat}{x:Nat}(hl:l=A++(pc x++R))(hb:l.length<80000)(hp:ps.length≤1000):∃ c' j' u',tW F L (m+1) c j u l A.length ps=tW F L m c' j' u' l (A++pc x).length (ps++[HZ x]):=by
 have hlen:A.length+((pc x).length+R.length)=l.length:=by rw[hl,List.length_append,List.length_append]
 have hb':∀{k},k≤l.length→k<90000:=fun h=>Nat.lt_of_le_of_lt h (Nat.lt_trans hb (by decide))
 have hpos:0<(pc x).length:=by unfold pc; cases fK x <;> exact Nat.succ_pos _
 have ht:decide ((A.length:Int)<(l.length:Int))=true:=decide_eq_true (Int.ofNat_lt.mpr (hlen▸Nat.lt_add_of_pos_right (Nat.add_pos_left hpos _)))
 have hA:A.length<90000:=hb' (hlen▸Nat.le_add_right _ _)
 unfold pc at hl hlen ⊢
 unfold HZ ZX
 cases hx:fK x with
 | false =>
  rw[hx]at hl
  have h:=K3 (F:=F+2) (L:=L) (s:=⟨l.toArray⟩) (i:=A.length) (n:=l.length) (c:=c) (j:=j) (u:=u) hx hp (by rw[hl]; exact pO hA)
  refine⟨some (sg x),j,u,(eC (sV ht) h).trans ?_⟩
  exact congrArg (fun q=>tW F L m (some (sg x)) j u l q (ps++[.d (.str (q4 x))])) lT.symm
 | true =>
  rw[hx]at hl hlen
  have e1:=lT (A:=A) (x:=91)
  have e2:(((A++[91]++[x]).length:Nat):Int)=(A.length:Int)+1+1:=by rw[lT,e1]
  have l1:l=A++[91]++x::(93::R):=by rw[hl,List.append_assoc]; rfl
  have l2:l=A++[91]++[x]++93::R:=by rw[hl,List.append_assoc,List.append_assoc]; rfl
  have s1:(A++[91]).length<80000:=by rw[l1]at hb; rw[List.length_append]at hb; exact Nat.lt_of_le_of_lt (Nat.le_add_right _ _) hb
  have s2:(A++[91]++[x]).length<80000:=by rw[l2]at hb; rw[List.length_append]at hb; exact Nat.lt_of_le_of_lt (Nat.le_add_right _ _) hb
  have h:=T4 (cl:=aJ (F+2) (L+1)) (F':=F) (s:=⟨l.toArray⟩) (i:=A.length) (n:=l.length) (c:=c) (j:=j) (u:=u) hx hp (by rw[hl]; exact pO hA)
   (by rw[← e1,l1]; exact pO (Nat.lt_trans s1 (by decide))) (by rw[← e2,l2]; exact pO (Nat.lt_trans s2 (by decide)))
   (by rw[← e2]; exact Int.ofNat_lt.mpr (by rw[l2,List.length_append (bs:=93::R)]; exact Nat.lt_add_of_pos_right (Nat.succ_pos _)))
   (by rw[← e1,l1]; exact congrArg (fun l:List Nat=>some (OV.d (.str ⟨l.toArray⟩))) KT) (by rw[← e1]; exact z6 (Nat.lt_trans s1 (by decide))) (by rw[← e2]; exact z6 (Nat.lt_trans s2 (by decide)))
  refine⟨some (sg 91),some (.d (.int ((A.length:Int)+1+1))),some (.d (.str (BE x))),(eC (sV ht) h).trans ?_⟩
  have e3:(A.length:Int)+1+1+1=(((A++[91,x,93]).length:Nat):Int):=by rw[← e2,← lT (x:=93),List.append_assoc,List.append_assoc]; rfl
  exact congrArg (fun q=>tW F L m (some (sg 91)) (some (.d (.int ((A.length:Int)+1+1)))) (some (.d (.str (BE x)))) l q (ps++[.d (.str ("[" ++ BE x ++ "]"))])) e3
noncomputable def pq:Option Nat→List Nat
 | some c=>pc c
 | none=>[63]
noncomputable def ZW:Option Nat→OV
 | some c=>HZ c
 | none=>.d (.str ".")
theorem zP{A R:List Nat}{q:Option Nat}(hl:l=A++(pq q++R))(hb:l.length<80000)(hp:ps.length≤1000):∃ c' j' u',tW F L (m+1) c j u l A.length ps=tW F L m c' j' u' l (A++pq q).length (ps++[ZW q]):=by
 cases q with
 | some x=>exact T2 hl hb hp
 | none =>
  have hlen:A.length+(1+R.length)=l.length:=by rw[hl,List.length_append,List.length_append]; rfl
  have h:A.length<l.length:=Nat.lt_of_lt_of_le (Nat.lt_succ_self _) (Nat.le_trans (Nat.add_le_add_left (Nat.le_add_right 1 _) _) (Nat.le_of_eq hlen))
  have ht:decide ((A.length:Int)<(l.length:Int))=true:=decide_eq_true (Int.ofNat_lt.mpr h)
  have hl':l=A++63::R:=hl
  have h:=T5 (F:=F+2) (L:=L) (s:=⟨l.toArray⟩) (i:=A.length) (n:=l.length) (c:=c) (j:=j) (u:=u) hp (by rw[hl']; exact pO (Nat.lt_trans h (Nat.lt_trans hb (by decide))))
  refine⟨some (sg 63),j,u,(eC (sV ht) h).trans ?_⟩
  exact congrArg (fun q=>tW F L m (some (sg 63)) j u l q (ps++[.d (.str ".")])) lT.symm
theorem T3{R:List Nat}{cs:List (Option Nat)}:∀{A:List Nat}{ps:List OV}{c j u:Option OV},l=A++(cs.flatMap pq++R)→l.length<80000→ps.length+cs.length≤1000→∃ c' j' u',tW F L (m+cs.length) c j u l A.length ps=tW F L m c' j' u' l (A++cs.flatMap pq).length (ps++cs.map ZW):=by
 induction cs with
 | nil=>exact fun{A ps c j u}_ _ _=>⟨c,j,u,by rw[List.flatMap_nil,List.map_nil,List.append_nil,List.append_nil]; rfl⟩
 | cons x cs ih =>
  intro A ps c j u hl hb hp
  rw[List.flatMap_cons,List.append_assoc]at hl
  obtain⟨c1,j1,u1,g1⟩:=zP (F:=F) (L:=L) (m:=m+cs.length) (c:=c) (j:=j) (u:=u) hl hb (Nat.le_trans (Nat.le_add_right _ _) hp)
  obtain⟨c2,j2,u2,g2⟩:=ih (A:=A++pq x) (ps:=ps++[ZW x]) (c:=c1) (j:=j1) (u:=u1) (hl.trans (List.append_assoc ..).symm) hb (by rw[List.length_append,Nat.add_assoc,Nat.add_comm [ZW x].length]; exact hp)
  exact⟨c2,j2,u2,g1.trans (g2.trans (by rw[List.flatMap_cons,List.append_assoc,List.append_assoc]; rfl))⟩
end
section
variable{cl:iZ}{ex:Nat→LO→St→Option (OV×St)}{f:Nat}{ρ ρ':LO}{st st' st'':St}{ss A:kC}
theorem kX{c:OE}(h:jK cl ex c ρ st=some (true,st')):w6 cl ex f (.asrt c) ρ st=some (.next ρ,st'):=congrArg (Option.bind · _) h
theorem Bj(a b:Int):BO .Eq (.d (.int a)) (.d (.int b))=some (.d (.bool (a==b))):=by kernel_rfl
theorem M2{xs:List OV}{q:Int}{k:Nat}{v:OV}(hk:st[k]? = some (.list xs))(h0:0≤q)(h1:q<100000)(hg:xs[q.toNat]? = some v):eX st (.o k) (.d (.int q))=some v:=by
 have hp:cT q xs.length=some q.toNat:=by
  have h3:decide ((-(2 ^ 62):Int)<q)=true:=decide_eq_true (Int.lt_of_lt_of_le (by decide +kernel) h0)
  have h4:decide (q<(2 ^ 62:Int))=true:=decide_eq_true (Int.lt_trans h1 (by decide +kernel))
  unfold cT
  rw[h3,h4,if_pos h0,if_pos (JC hg)]; rfl
 have e:eX st (.o k) (.d (.int q))=fL st[k]? fun xs=>(cT q xs.length).bind (xs[·]?):=rfl
 rw[e,hk]
 show(cT q xs.length).bind (xs[·]?)=_
 rw[hp]; exact hg
theorem QQ{P R:List OV}{k:Nat}{v:OV}(hk:st[k]? = some (.list (P++v::R)))(hb:P.length<90000):eX st (.o k) (.d (.int P.length))=some v :=
 M2 hk (Int.natCast_nonneg _) (Int.lt_trans (Int.ofNat_lt.mpr hb) (by decide)) (by rw[Int.toNat_natCast,List.getElem?_append_right (Nat.le_refl _),Nat.sub_self]; rfl)
end
noncomputable def TF(F L:Nat)(r:mC×St):Option (mC×St):=match r.1 with
 | .next ρ'=>bG (aJ F (L+1)) (d7 F (aJ F (L+1))) F (gM 4 J5.body) ρ' r.2
 | g=>some (g,r.2)
section
variable{F L:Nat}{c j u:Option OV}{s:Str}{ps:List OV}{qs:List (Option Nat)}
theorem LE:aJ F (L+2) 12 [.d (.str s),.o 0,.d (.str ".")] [.plain]=eY (Option.bind (cN (jK (aJ F (L+1)) (d7 F (aJ F (L+1))) rK) (bG (aJ F (L+1)) (d7 F (aJ F (L+1))) F fR) F (iA s 0 s.length none none none) (cK [])) (TF F L)):=by kernel_rfl
theorem LD{n:Int}:eY (TF F L (.next (iA s n n c j u),cK ps))=some (.o 1,cK ps) :=
 congrArg eY (aE (kX (st':=cK ps) ((show jK _ _ (.cmp .Eq (.var 5) (.var 6)) (iA s n n c j u) (cK ps)=some (n==n,cK ps) by kernel_rfl).trans (by rw[beq_self_eq_true]))) (rE (v:=.o 1) rfl))
end
noncomputable abbrev jL(i n:Int)(x:Option OV):LO:=[some (.o 1),some (.o 0),some (.o 3),some (.o 4),some (.d (.int i)),some (.d (.int n)),x]
noncomputable abbrev jS(ps qs:List OV)(z:St):St:=.plain :: .list ps :: .meth 1 :: .list qs :: .meth 3::z
def xB(v:OV):Prop:=∃ s,v = .d (.str s)
theorem AI{test:LO→St→Option (Bool×St)}{body:LO→St→Option (mC×St)}{P:Int→LO}{S:List OV→St}{ps R:List OV}{m:Nat}
  (ht:∀ A v R qs,ps=A++v::R→xB v→test (P A.length) (S qs)=some (true,S qs)) (hb:∀ A v R qs,ps=A++v::R→xB v→qs.length≤1000→body (P A.length) (S qs)=some (.next (P ((A.length:Int)+1)),S (qs++[v]))) {vs:List OV} :
  ∀{A qs:List OV},ps=A++(vs++R)→(∀ v∈vs,xB v)→qs.length+vs.length≤1000→cN test body (m+vs.length) (P A.length) (S qs)=cN test body m (P (A++vs).length) (S (qs++vs)):=by
 induction vs with
 | nil=>exact fun{A qs}_ _ _=>by rw[List.append_nil,List.append_nil]; rfl
 | cons v vs ih =>
  intro A qs hp hv hq
  have e:A++v::vs=A++[v]++vs:=(List.append_assoc A [v] vs).symm
  have e2:qs++v::vs=qs++[v]++vs:=(List.append_assoc qs [v] vs).symm
  have hs:=hv v List.mem_cons_self
  have hl:(((A++[v]).length:Nat):Int)=(A.length:Int)+1:=by rw[List.length_append]; rfl
  have g:=ih (A:=A++[v]) (qs:=qs++[v]) (hp.trans (List.append_assoc A [v] (vs++R)).symm) (fun w h=>hv w (List.mem_cons_of_mem _ h)) (by rw[List.length_append,Nat.add_assoc,Nat.add_comm [v].length]; exact hq)
  rw[hl]at g
  rw[e,e2]
  exact(eC (ht A v (vs++R) qs hp hs) (hb A v (vs++R) qs hp hs (Nat.le_trans (Nat.le_add_right _ _) hq))).trans g
section
variable{cl:iZ}{ex:Nat→LO→St→Option (OV×St)}{f:Nat}{ps qs:List OV}{z:St}{i n:Int}{x:Option OV}{v:OV}
theorem N7(h:i<n):cQ cl ex (.cmp .Lt (.var 4) (.var 5)) (jL i n x) (jS ps qs z)=some (.d (.bool true),jS ps qs z):=(show _=some (OV.d (.bool (decide (i<n))),jS ps qs z) by kernel_rfl).trans (by rw[decide_eq_true h])
theorem sK(hi:eX (jS ps qs z) (.o 1) (.d (.int i))=some v):cQ cl ex (.idx (.var 0) (.var 4)) (jL i n x) (jS ps qs z)=some (v,jS ps qs z):=xN (v:=.o 1) (w:=.d (.int i)) rfl rfl hi
theorem Bx(h:i<n)(hi:eX (jS ps qs z) (.o 1) (.d (.int i))=some v)(hv:xB v):jK cl ex lS (jL i n x) (jS ps qs z)=some (true,jS ps qs z):=by
 obtain⟨s,rfl⟩:=hv
 exact rF (N7 h) (iL (w:=.o 0) (sK hi) rfl rfl)
theorem CC(hq:qs.length≤1000):mK (jS ps qs z) 3 v=some (jS ps (qs++[v]) z):=if_pos hq
theorem At(hi:eX (jS ps qs z) (.o 1) (.d (.int i))=some v)(hq:qs.length≤1000):bG cl ex f nV (jL i n x) (jS ps qs z)=some (.next (jL (i+1) n x),jS ps (qs++[v]) z) :=
 aE (jR (m:=4) (j:=3) rfl (sK hi) rfl (CC hq)) (aE (ρ':=jL (i+1) n x) (st':=jS ps (qs++[v]) z) (by kernel_rfl) rfl)
theorem N8{k:Int}{b:Bool}(h:(i==k)=b):jK cl ex (.cmp .Eq (.var 4) (.var 5)) (jL i k x) (jS ps qs z)=some (b,jS ps qs z):=(show _=some (i==k,jS ps qs z) by kernel_rfl).trans (by rw[h])
end
noncomputable def lV(l:List Nat):OV:=.d (.str ⟨l.toArray⟩)
noncomputable def pl(c:Nat):List Nat:=bif fK c then 91::((bif c==91 then [92,91]else [c])++[93])else if kK c then [92,c]else [c]
theorem U8(c:Nat):HZ c=lV (pl c):=by
 unfold HZ ZX pl BE q4 lV
 cases fK c with
 | true=>cases c==91 <;> rfl
 | false =>
  by_cases h:kK c=true
  ·rw[if_pos h,cond_false,cond_false,if_pos h]
  ·rw[if_neg h,cond_false,cond_false,if_neg h]
theorem wO(ls:List (List Nat)):Str.join "" (ls.map fun l=>(⟨l.toArray⟩:Str))=⟨ls.flatten.toArray⟩:=by
 induction ls with
 | nil=>rfl
 | cons l ls ih =>
  cases ls with
  | nil=>exact congrArg (fun l:List Nat=>(⟨l.toArray⟩:Str)) (List.append_nil l).symm
  | cons k ls =>
   show(⟨l.toArray⟩:Str) ++ "" ++ Str.join "" ((k::ls).map fun l=>(⟨l.toArray⟩:Str))=⟨(l++(k::ls).flatten).toArray⟩
   rw[ih,show("" : Str)=⟨([]:List Nat).toArray⟩from rfl,jP,jP,List.append_nil]
theorem GO(ls:List (List Nat)):vM (ls.map lV)=some (ls.map fun l=>(⟨l.toArray⟩:Str)):=by
 induction ls with
 | nil=>rfl
 | cons l ls ih=>exact congrArg (Option.map _) ih
theorem zT(ls:List (List Nat)):∀ k:Nat,(ls.map fun l=>(⟨l.toArray⟩:Str)).foldl (fun n x=>n+x.length+("" : Str).length) k=k+ls.flatten.length:=by
 induction ls with
 | nil=>exact fun k=>rfl
 | cons l ls ih=>exact fun k=>(ih _).trans (by rw[List.flatten_cons,List.length_append,← Nat.add_assoc]; rfl)
theorem uK{st:St}{k:Nat}{ls:List (List Nat)}(hk:st[k]? = some (.list (ls.map lV)))(hb:ls.flatten.length≤90000):I8 st (.d (.str "")) (.o k)=some (lV ls.flatten):=by
 have e:I8 st (.d (.str "")) (.o k)=Option.bind (fL st[k]? fun xs=>some (k,xs)) fun p=>(vM p.2).bind fun ss=>if ss.foldl (fun n x=>n+x.length+("" : Str).length) 0≤2 ^ 20 then some (.d (.str (Str.join "" ss)))else none:=rfl
 rw[e,hk]
 show Option.bind (vM (ls.map lV)) _=_
 rw[GO]
 show(if _ then _ else _)=_
 rw[zT,Nat.zero_add,if_pos (Nat.le_trans hb (show 90000≤2 ^ 20 by decide)),wO]; rfl
theorem v3{l:List Nat}(a b:List Nat)(hb:(a++l++b).length≤90000):N0 (⟨a.toArray⟩++⟨l.toArray⟩++⟨b.toArray⟩)=some (lV (a++l++b)):=by
 rw[jP,jP]
 exact if_pos (Nat.le_trans hb (by decide))
section
variable{cl:iZ}{ex:Nat→LO→St→Option (OV×St)}{f m:Nat}{ps vs R A qs fs:List OV}{z:St}{x:Option OV}
theorem xA{B:List OV}{v:OV}{R':List OV}(h:ps=B++v::R')(hb:ps.length≤2000):((B.length:Int)<(ps.length:Nat))∧∀ qs z,eX (jS ps qs z) (.o 1) (.d (.int B.length))=some v:=by
 have hl:B.length<ps.length:=by rw[h,List.length_append]; exact Nat.lt_add_of_pos_right (Nat.succ_pos _)
 exact⟨Int.ofNat_lt.mpr hl,fun qs z=>QQ (congrArg (fun l=>some (FO.list l)) h) (Nat.lt_of_lt_of_le hl (Nat.le_trans hb (by decide)))⟩
theorem Ar(hb:ps.length≤2000)(hp:ps=A++(vs++R))(hv:∀ v∈vs,xB v)(hq:qs.length+vs.length≤1000) :
  cN (jK cl ex lS) (bG cl ex f nV) (m+vs.length) (jL A.length (ps.length:Nat) x) (jS ps qs z)=cN (jK cl ex lS) (bG cl ex f nV) m (jL (A++vs).length (ps.length:Nat) x) (jS ps (qs++vs) z) :=
 AI (P:=fun q=>jL q (ps.length:Nat) x) (S:=fun qs=>jS ps qs z) (fun B v R' qs h hs=>Bx (xA h hb).1 ((xA h hb).2 qs z) hs) (fun B v R' qs h hs hq=>At ((xA h hb).2 qs z) hq) hp hv hq
end
noncomputable def TD(F L:Nat)(r:mC×St):Option (mC×St):=match r.1 with
 | .next ρ'=>bG (aJ F (L+1)) (d7 F (aJ F (L+1))) F (gM 4 B6.body) ρ' r.2
 | g=>some (g,r.2)
section
variable{F L:Nat}{ps:List OV}{z:St}{x:Option OV}{ls:List (List Nat)}
theorem LC:aJ F (L+2) 13 [.o 1,.o 0] (cK ps)=eY (Option.bind (cN (jK (aJ F (L+1)) (d7 F (aJ F (L+1))) lS) (bG (aJ F (L+1)) (d7 F (aJ F (L+1))) F nV) F (jL 0 (ps.length:Nat) none) (jS ps [] [])) (TD F L)):=by kernel_rfl
theorem LB{n:Int}(hb:ls.flatten.length≤80000):eY (bG (aJ F (L+1)) (d7 F (aJ F (L+1))) F (gM 5 B6.body) (jL n n x) (jS ps (ls.map lV) z))=some (lV ([40,63,115,58]++ls.flatten++[41,92,90]),jS ps (ls.map lV) z):=by
 refine congrArg eY (aE (kX (N8 (beq_self_eq_true n))) (aE (ρ':=[some (.o 1),some (.o 0),some (lV ls.flatten),some (.o 4),some (.d (.int n)),some (.d (.int n)),x]) (st':=jS ps (ls.map lV) z) ?_ (rE (v:=lV ([40,63,115,58]++ls.flatten++[41,92,90])) (st':=jS ps (ls.map lV) z) ?_)))
 ·exact iE (v:=lV ls.flatten) (congrArg (Option.map fun v=>(v,jS ps (ls.map lV) z)) (uK (st:=jS ps (ls.map lV) z) (k:=3) rfl (Nat.le_trans hb (by decide))))
 ·exact congrArg (Option.map fun v=>(v,jS ps (ls.map lV) z)) (v3 [40,63,115,58] [41,92,90] (by rw[List.length_append,List.length_append]; exact Nat.le_trans (Nat.add_le_add_right (Nat.add_le_add_left hb 4) 3) (by decide)))
theorem UK{ls:List (List Nat)}:∀ v∈ls.map lV,xB v:=fun v h=>let⟨_,_,e⟩:=List.mem_map.mp h; ⟨_,e.symm⟩
theorem Cb{d:PyData}{s:Str}(h12:aJ F (L+2) 12 [.d (.str s),.o 0,.d (.str ".")] [.plain]=some (.o 1,cK ps))(h13:(aJ F (L+2) 13 [.o 1,.o 0] (cK ps)).map (·.1)=some (.d d)):∃ st,aJ F (L+3) 14 [.d (.str s)] []=some (.d d,st):=by
 obtain⟨⟨v,st⟩,h,e⟩:=Option.map_eq_some_iff.mp h13
 have e:v = .d d:=e
 subst e
 refine⟨st,(show _=eY (bG (aJ F (L+2)) (d7 F (aJ F (L+2))) F J4.body [some (.d (.str s)),none,none] []) by kernel_rfl).trans (congrArg eY (aE (ρ':=[some (.d (.str s)),some (.o 0),none]) (st':=[.plain]) (by kernel_rfl) (aE (iE (v:=.o 1) (st':=cK ps) ?_) (rE (v:=.d d) (st':=st) ?_))))⟩
 ·exact(show _=aJ F (L+2) 12 [.d (.str s),.o 0,.d (.str ".")] [.plain] by kernel_rfl).trans h12
 ·exact(show _=aJ F (L+2) 13 [.o 1,.o 0] (cK ps) by kernel_rfl).trans h
noncomputable def Cd:Option Nat→List Nat
 | some c=>pl c
 | none=>[46]
theorem BY(qs:List (Option Nat)):(qs.map Cd).flatten.length≤5*qs.length:=by
 induction qs with
 | nil=>exact Nat.le_refl _
 | cons q qs ih =>
  rw[List.map_cons,List.flatten_cons,List.length_append,List.length_cons,Nat.mul_succ,Nat.add_comm]
  refine Nat.add_le_add ih ?_
  cases q with
  | none=>exact Nat.le_of_ble_eq_true rfl
  | some c =>
   show(pl c).length≤5
   unfold pl
   cases fK c <;> cases c==91 <;> cases kK c <;> exact Nat.le_of_ble_eq_true rfl
noncomputable def NQ(l:List Nat):PyData:=.str ⟨([40,63,115,58]++l++[41,92,90]).toArray⟩
theorem K4{s:Str}{l:List Nat}(hok:bK (NQ l)=true)(h:∃ st,aJ F 6 14 [.d (.str s)] []=some (.d (NQ l),st)):iJ F s=some (NQ l):=by
 obtain⟨st,h⟩:=h
 unfold iJ
 rw[h]
 exact if_pos (congrArg _ hok)
end
noncomputable abbrev aD(cs:List Nat):PyData:=.list (cs.map wD)
theorem WJ(a b:Nat):PyData.eqv (wD a) (wD b)=(a==b):=by
 show((⟨#[a]⟩:Str)==⟨#[b]⟩)=_
 by_cases h:a=b
 ·subst h; simp
 ·rw[beq_eq_false_iff_ne.mpr h,beq_eq_false_iff_ne.mpr]
  intro e; injection e with e; injection e with e; injection e with e _; exact h e
theorem oV:∀(a b:List Nat),PyData.eqvAll (a.map wD) (b.map wD)=(a==b)
 | [],[]=>by simp[PyData.eqvAll]
 | [],_::_=>by simp[PyData.eqvAll]
 | _::_,[]=>by simp[PyData.eqvAll]
 | a::as,b::bs=>by
  rw[List.map_cons,List.map_cons,PyData.eqvAll,WJ,oV]
  simp
theorem gW(a b:List Nat):PyData.eqv (aD a) (aD b)=(a==b):=by rw[aD,aD,PyData.eqv,oV]
theorem qT:∀(a:List Nat),PyData.depthAll (a.map wD)=0
 | []=>by simp[PyData.depthAll]
 | a::as=>by rw[List.map_cons,PyData.depthAll,qT]; simp[wD,PyData.depth]
theorem l5(a:List Nat):(aD a).depth=1:=by rw[aD,PyData.depth,qT]
theorem AU(a:List Nat)(d:PyData):pD (aD a) d=true:=decide_eq_true (Nat.le_trans (Nat.min_le_left _ _) (by rw[l5]; decide))
theorem QK(a b:List Nat):sA .NotEq (aD a) (aD b)=some (.bool (!(a==b))):=by
 show(if pD (aD a) (aD b)=true then some (PyData.bool (!PyData.eqv (aD a) (aD b)))else none)=_
 rw[AU,gW]; rfl
theorem zR{α:Type}(l:List α)(n:Nat):l.take (min n l.length)=l.take n:=by
 rcases Nat.le_total n l.length with h | h
 ·rw[Nat.min_eq_left h]
 ·rw[Nat.min_eq_right h,List.take_length,List.take_of_length_le h]
theorem AV{α:Type}(l:List α)(k n:Nat)(h:l.length≤n):l.drop (min k n)=l.drop k:=by
 rcases Nat.le_total k n with h' | h'
 ·rw[Nat.min_eq_left h']
 ·rw[Nat.min_eq_right h',List.drop_of_length_le h,List.drop_of_length_le (Nat.le_trans h h')]
theorem l6(k n:Nat):dH (k:Int) n=min k n:=by
 rcases Nat.le_total k n with h | h
 ·rw[Nat.min_eq_left h,t5 h]
 ·rw[Nat.min_eq_right h,dH,if_neg (Int.not_lt.mpr (Int.natCast_nonneg k)),Int.min_eq_right (Int.ofNat_le.mpr h)]
  exact congrArg Int.toNat (Int.max_eq_right (Int.natCast_nonneg n))
theorem WN{α:Type}(l:List α)(a b:Nat):cut l (some (a:Int)) (some (b:Int))=(l.take b).drop a:=by
 unfold cut
 dsimp only
 rw[l6,l6,zR,AV _ _ _ (List.length_take_le' b l)]
theorem KS{α:Type}(l:List α)(b:Nat):cut l none (some (b:Int))=l.take b:=by
 unfold cut
 dsimp only
 rw[l6,zR,List.drop_zero]
theorem WM{α:Type}(l:List α)(a:Nat):cut l (some (a:Int)) none=l.drop a:=by
 unfold cut
 dsimp only
 rw[l6,List.take_length,AV _ _ _ (Nat.le_refl _)]
section
variable{α:Type} [BEq α] [LawfulBEq α] {D:α→PyData}
noncomputable def j6:List α→List α→List α
 | [],acc=>acc
 | x::xs,acc=>j6 xs (if acc.contains x then acc else acc++[x])
theorem SY(hD:∀ a b,PyData.eqv (D a) (D b)=(a==b))(x:α)(a:List α):((a.map D).any fun y=>PyData.eqv y (D x))=a.contains x:=by
 induction a with
 | nil=>rfl
 | cons a as ih=>rw[List.map_cons,List.any_cons,ih,hD,List.contains_cons,show(a==x)=(x==a)from by rw[Bool.eq_iff_iff,beq_iff_eq,beq_iff_eq,eq_comm]]
theorem tY(xs:List α):∀ acc:List α,acc.Nodup→(j6 xs acc).Nodup:=by
 induction xs with
 | nil=>exact fun _ h=>h
 | cons x xs ih =>
  intro acc h
  rw[j6]
  split
  ·exact ih acc h
  ·rename_i hc
   refine ih _ (List.nodup_append.mpr ⟨h,List.nodup_cons.mpr ⟨List.not_mem_nil,List.nodup_nil⟩,fun a ha b hb e=>hc ?_⟩)
   exact List.contains_iff_mem.mpr (List.mem_singleton.mp hb▸e▸ha)
theorem CO(xs:List α)(y:α):∀ acc:List α,y∈j6 xs acc↔y∈acc∨y∈xs:=by
 induction xs with
 | nil=>exact fun acc=>⟨.inl,fun h=>h.resolve_right List.not_mem_nil⟩
 | cons x xs ih =>
  intro acc
  rw[j6,ih,List.mem_cons]
  split
  ·rename_i hc
   have hx:=List.contains_iff_mem.mp hc
   exact⟨Or.imp_right .inr,fun h=>h.elim .inl fun h=>h.elim (fun e=>.inl (e▸hx)) .inr⟩
  ·rw[List.mem_append,List.mem_singleton,or_assoc]
theorem KR(xs:List α):∀ acc:List α,(j6 xs acc).length≤acc.length+xs.length:=by
 induction xs with
 | nil=>exact fun _=>Nat.le_refl _
 | cons x xs ih =>
  intro acc
  rw[j6,List.length_cons,Nat.add_comm xs.length,← Nat.add_assoc]
  refine Nat.le_trans (ih _) (Nat.add_le_add_right ?_ _)
  split
  ·exact Nat.le_succ _
  ·exact Nat.le_of_eq List.length_append
theorem GV(hD:∀ a b,PyData.eqv (D a) (D b)=(a==b))(x:α)(l:List α):dP (l.map D) (D x)=if l.contains x then some ((l.erase x).map D)else none:=by
 induction l with
 | nil=>rfl
 | cons y l ih =>
  rw[List.map_cons,dP,hD,ih,List.contains_cons,List.erase_cons]
  by_cases h:y=x
  ·subst h; rw[beq_self_eq_true,Bool.true_or]; rfl
  ·rw[beq_false_of_ne h,beq_false_of_ne (Ne.symm h),Bool.false_or]
   simp only[Bool.false_eq_true,if_false]
   split <;> rfl
theorem C5(hD:∀ a b,PyData.eqv (D a) (D b)=(a==b))(xs:List α):∀ ts:List α,xs.Nodup→ts.Nodup→eD (xs.map D) (ts.map D)=if xs.all ts.contains then some ((ts.filter fun t=>!xs.contains t).map D)else none:=by
 induction xs with
 | nil =>
  intro ts _ _
  exact congrArg (fun l=>some (List.map D l)) (List.filter_eq_self.mpr fun _ _=>rfl).symm
 | cons x xs ih =>
  intro ts hx ht
  rw[List.map_cons,eD,GV hD,List.all_cons]
  rw[List.nodup_cons]at hx
  by_cases h:ts.contains x=true
  ·rw[if_pos h,Option.bind_some,ih _ hx.2 (ht.erase x),h,Bool.true_and]
   have e1:xs.all (ts.erase x).contains=xs.all ts.contains:=by
    rw[Bool.eq_iff_iff,List.all_eq_true,List.all_eq_true]
    refine forall_congr' fun y=>forall_congr' fun hy=>?_
    rw[List.contains_iff_mem,List.contains_iff_mem,ht.mem_erase_iff]
    exact⟨And.right,fun h=>⟨fun e=>hx.1 (e▸hy),h⟩⟩
   have e2:(ts.erase x).filter (fun t=>!xs.contains t)=ts.filter fun t=>!(x::xs).contains t:=by
    rw[ht.erase_eq_filter,List.filter_filter]
    refine List.filter_congr fun t _=>?_
    rw[List.contains_cons,Bool.not_or,Bool.and_comm]
    rfl
   rw[e1,e2]
  ·rw[if_neg h,Option.bind_none,Bool.eq_false_iff.mpr h,Bool.false_and,if_neg (by decide)]
noncomputable def mJ(xs ys:List α):Bool:=xs.all ys.contains&&ys.all xs.contains
theorem NI(hD:∀ a b,PyData.eqv (D a) (D b)=(a==b)){xs ys:List α}(hx:xs.Nodup)(hy:ys.Nodup):iQ (xs.map D) (ys.map D)=mJ xs ys:=by
 unfold iQ mJ
 rw[C5 hD xs ys hx hy]
 by_cases h:xs.all ys.contains=true
 ·rw[if_pos h,h,Bool.true_and]
  dsimp only
  rw[Bool.eq_iff_iff,List.isEmpty_iff,List.map_eq_nil_iff,List.filter_eq_nil_iff,List.all_eq_true]
  refine forall_congr' fun y=>forall_congr' fun _=>?_
  cases xs.contains y <;> simp
 ·rw[if_neg h,Bool.eq_false_iff.mpr h,Bool.false_and]
theorem lY(xs ys:List α):mJ xs ys=true↔∀ x,x∈xs↔x∈ys:=by
 unfold mJ
 rw[Bool.and_eq_true,List.all_eq_true,List.all_eq_true]
 exact⟨fun⟨h1,h2⟩x=>⟨fun h=>List.contains_iff_mem.mp (h1 x h),fun h=>List.contains_iff_mem.mp (h2 x h)⟩,fun h=>⟨fun x hx=>List.contains_iff_mem.mpr ((h x).mp hx),fun x hx=>List.contains_iff_mem.mpr ((h x).mpr hx)⟩⟩
theorem LS(xs ys:List α):mJ (j6 xs []) (j6 ys [])=mJ xs ys:=by
 rw[Bool.eq_iff_iff,lY,lY]
 refine forall_congr' fun x=>?_
 rw[CO,CO,or_iff_right List.not_mem_nil,or_iff_right List.not_mem_nil]
end
structure mO{α:Type} [BEq α] (D:α→PyData):Prop where
 eqv:∀ a b,PyData.eqv (D a) (D b)=(a==b)
 dep:∀ a,(D a).depth≤60
theorem AW{d:PyData}(h:d.depth≤60)(e:PyData):pD d e=true:=decide_eq_true (Nat.le_trans (Nat.min_le_left _ _) (Nat.le_trans h (by decide)))
section
variable{α:Type} [BEq α] [LawfulBEq α] {D:α→PyData} (hD:mO D)
include hD
theorem Av(x:α)(a:List α):sA .In (D x) (.list (a.map D))=some (.bool (a.contains x)):=by
 show(if pD (D x) (.list (a.map D))=true then some ((a.map D).any fun y=>PyData.eqv y (D x))else none).map _=_
 rw[AW (hD.dep x),SY hD.eqv]; rfl
theorem QF(x:α)(a:List α):sA .NotIn (D x) (.list (a.map D))=some (.bool (!a.contains x)):=by
 show(if pD (D x) (.list (a.map D))=true then some ((a.map D).any fun y=>PyData.eqv y (D x))else none).map _=_
 rw[AW (hD.dep x),SY hD.eqv]; rfl
theorem yR:∀ a:List α,PyData.depthAll (a.map D)≤60
 | []=>Nat.zero_le _
 | a::as=>by rw[List.map_cons,PyData.depthAll]; exact Nat.max_le.mpr ⟨hD.dep a,yR as⟩
end
theorem pN{xs:List PyData}(h:xs.length≤1000000):NS xs=some (.list xs):=by
 unfold NS
 rw[if_pos (Nat.le_trans h (by decide))]
section
variable{tab:Nat→Option PF}{prim:Nat→List PyData→Option PyData}{F l:Nat}{cl:Nat→List PyData→Option PyData}
theorem aZ{s:PS}{ss:pB}{σ σ':eV}(h:vJ cl F s σ=some (.next σ')):dO cl F (.cons s ss) σ=dO cl F ss σ':=congrArg (Option.bind · _) h
theorem TZ{s:PS}{ss:pB}{σ:eV}{d:PyData}(h:vJ cl F s σ=some (.ret d)):dO cl F (.cons s ss) σ=some (.ret d):=congrArg (Option.bind · _) h
theorem kO{s:PS}{σ σ':eV}(h:vJ cl F s σ=some (.next σ')):dO cl F (.cons s .nil) σ=some (.next σ'):=congrArg (Option.bind · _) h
theorem IN{c:PE}{a b:pB}{σ:eV}{d:PyData}{t:Bool}(h:aH cl c σ.env=some d)(ht:cO d=some t):vJ cl F (.ife c a b) σ=if t then dO cl F a σ else dO cl F b σ:=(congrArg (Option.bind · _) h).trans (congrArg (Option.bind · _) ht)
theorem sE{c:PE}{a b:pB}{σ:eV}{d:PyData}(h:aH cl c σ.env=some d)(ht:cO d=some false):vJ cl F (.ife c a b) σ=dO cl F b σ:=IN h ht
theorem dX{x:Nat}{e:PE}{σ:eV}{d:PyData}(h:aH cl e σ.env=some d):vJ cl F (.assign x e) σ=some (.next (BF σ x d (b5 σ.own d e) (vR e))):=congrArg (Option.map _) h
theorem D7{x y:Nat}{a b:PE}{σ:eV}{d d':PyData}(h1:aH cl a σ.env=some d)(h2:aH cl b σ.env=some d'):vJ cl F (.assign2 x y a b) σ=some (.next (BF (BF σ x d (b5 (b5 σ.own d a) d' b) (u6 a b)) y d' (BF σ x d (b5 (b5 σ.own d a) d' b) (u6 a b)).own false)) :=
 (show _=Option.bind (aH cl a σ.env) fun d=>(aH cl b σ.env).map fun d'=>Fl.next (BF (BF σ x d (b5 (b5 σ.own d a) d' b) (u6 a b)) y d' (BF σ x d (b5 (b5 σ.own d a) d' b) (u6 a b)).own false)from rfl).trans (by rw[h1,h2]; rfl)
theorem sC{e:PE}{ss:pB}{σ:eV}{d:PyData}(h:aH cl e σ.env=some d):dO cl F (.cons (.ret e) ss) σ=some (.ret d):=TZ (congrArg (Option.map _) h)
theorem JO{x:Nat}{e:PE}{σ:eV}{xs:List PyData}{d:PyData}(ho:σ.own.contains x=true)(hx:bB σ.env x=some (.list xs))(h:aH cl e σ.env=some d)(hg:(!flat d&&(lG e).contains x)=false)(hl:xs.length+1≤1000000) :
  vJ cl F (.app x e) σ=some (.next { env:=σ.env.set x (some (.list (xs++[d]))),own:=b5 σ.own d e }):=by
 have h0:vJ cl F (.app x e) σ=if σ.own.contains x then(Option.bind (bB σ.env x) fun q=>i8 q fun xs=>(aH cl e σ.env).bind fun d=>if !flat d&&(lG e).contains x then none else(NS (xs++[d])).map fun l=>.next { env:=σ.env.set x (some l),own:=b5 σ.own d e })else none:=rfl
 rw[h0,if_pos ho,hx]
 show Option.bind (aH cl e σ.env) _=_
 rw[h]
 show(if(!flat d&&(lG e).contains x)=true then _ else _)=_
 rw[hg,pN (by rw[List.length_append]; exact hl)]
 rfl
theorem xH{t:Tg}{i:PI}{b:pB}{σ:eV}{ds:List PyData}(h:zA cl i σ.env=some ds):vJ cl F (.for_ t i b) σ=fX (dO cl F b) (fun d τ=>(iC t d τ.env).map fun ρ=>{ env:=ρ,own:=lose τ.own (b0 t) }) ds { σ with own:=lose σ.own (eB i) }:=congrArg (Option.bind · _) h
theorem FM{body:eV→Option Fl}{bind:PyData→eV→Option eV}{d:PyData}{ds:List PyData}{σ σ₁ σ₂:eV}(h1:bind d σ=some σ₁)(h2:body σ₁=some (.next σ₂)):fX body bind (d::ds) σ=fX body bind ds σ₂:=(congrArg (Option.bind · _) h1).trans (congrArg (Option.bind · _) h2)
theorem D8{test:eV→Option Bool}{body:eV→Option Fl}{n:Nat}{σ σ':eV}(h1:test σ=some true)(h2:body σ=some (.next σ')):dJ test body (n+1) σ=dJ test body n σ':=(congrArg (Option.bind · _) h1).trans (congrArg (Option.bind · _) h2)
theorem JP{test:eV→Option Bool}{body:eV→Option Fl}{n:Nat}{σ:eV}(h1:test σ=some false):dJ test body (n+1) σ=some (.next σ):=congrArg (Option.bind · _) h1
theorem mY{f:Nat}{pf:PF}{args:List PyData}{d:PyData}(ht:tab f=some pf)(ha:args.length=pf.arity)(h:dO (cG tab prim F l) F pf.body ⟨eI pf.size args,[]⟩=some (.ret d)):cG tab prim F (l+1) f args=some d:=by
 rw[cG,ht]
 dsimp only
 rw[if_pos ha,h]
theorem n7{f:Nat}{args:List PyData}(ht:tab f=none):cG tab prim F (l+1) f args=prim f args:=by rw[cG,ht]
variable{α:Type} [BEq α] [LawfulBEq α] {D:α→PyData} (hD:mO D)
include hD
theorem NF{a:Option PyData}(xs:List α):∀(acc:List α)(t:Option PyData),acc.length+xs.length≤1000 →
  ∃ t',fX (dO cl F (.cons (.ife (.cmp .NotIn (.var 2) (.var 1)) (.cons (.app 1 (.var 2)) .nil) .nil) .nil)) (fun d τ=>(iC (.one 2) d τ.env).map fun ρ=>{ env:=ρ,own:=lose τ.own (b0 (.one 2)) }) (xs.map D) ⟨[a,some (.list (acc.map D)),t],[1]⟩ =
   some (.next ⟨[a,some (.list ((j6 xs acc).map D)),t'],[1]⟩):=by
 induction xs with
 | nil=>exact fun acc t _=>⟨t,rfl⟩
 | cons x xs ih =>
  intro acc t h
  rw[List.length_cons]at h
  have e:aH cl (.cmp .NotIn (.var 2) (.var 1)) [a,some (.list (acc.map D)),some (D x)]=some (.bool (!acc.contains x)):=QF hD x acc
  have step:dO cl F (.cons (.ife (.cmp .NotIn (.var 2) (.var 1)) (.cons (.app 1 (.var 2)) .nil) .nil) .nil) ⟨[a,some (.list (acc.map D)),some (D x)],[1]⟩=some (.next ⟨[a,some (.list ((if acc.contains x then acc else acc++[x]).map D)),some (D x)],[1]⟩):=by
   refine kO ?_
   rw[IN (F:=F) (a:=.cons (.app 1 (.var 2)) .nil) (b:=.nil) (σ:=⟨[a,some (.list (acc.map D)),some (D x)],[1]⟩) e rfl]
   cases hc:acc.contains x
   ·refine kO ?_
    rw[JO (xs:=acc.map D) (d:=D x) rfl rfl rfl (Bool.and_false _) (by rw[List.length_map]; exact Nat.le_trans (Nat.succ_le_succ (Nat.le_add_right _ _)) (Nat.le_trans h (by decide)))]
    rw[show b5 [1] (D x) (.var 2)=[1] by unfold b5; split <;> rfl,if_neg Bool.false_ne_true,List.map_append]; rfl
   ·rfl
  obtain⟨t',ih⟩:=ih (if acc.contains x then acc else acc++[x]) (some (D x)) (by split; exact Nat.le_of_succ_le h; rw[List.length_append]; exact Nat.succ_add _ _▸h)
  exact⟨t',by rw[List.map_cons,FM (σ₁:=⟨[a,some (.list (acc.map D)),some (D x)],[1]⟩) rfl step]; exact ih⟩
theorem yS{d:Nat}(ht:tab d=some RG)(xs:List α)(hl:xs.length≤1000):cG tab prim F (l+1) d [.list (xs.map D)]=some (.list ((j6 xs []).map D)):=by
 obtain⟨t',h⟩:=NF (cl:=cG tab prim F l) (F:=F) (a:=some (.list (xs.map D))) hD xs [] none (by rwa[List.length_nil,Nat.zero_add])
 refine mY ht rfl ?_
 refine(aZ (dX (d:=.list []) rfl)).trans ?_
 exact(aZ ((xH (i:=SA) (ds:=xs.map D) rfl).trans h)).trans (sC rfl)
end
theorem E2{l:List Nat}(h:l.all (fun c=>decide (c<0x110000))=true)(hl:l.length≤1000000):bK (.str ⟨l.toArray⟩)=true :=
 Bool.and_eq_true_iff.mpr ⟨(List.all_toArray (p:=fun c=>decide (c<0x110000))).trans h,decide_eq_true (Nat.le_trans hl (by decide))⟩
noncomputable def oZ(c:Nat):Bool:=i4 c&&decide (c<55296)
theorem mX{c:Nat}(h:oZ c=true):i4 c=true∧c<0x110000:=⟨(aA h).1,Nat.lt_trans (of_decide_eq_true (aA h).2) (by decide)⟩
theorem XT{c:Nat}(h:oZ c=true):bK (wD c)=true:=E2 (l:=[c]) ((Bool.and_true _).trans (decide_eq_true (mX h).2)) (Nat.le_of_ble_eq_true rfl)
theorem yW(cs:List Nat):xJ (cs.map wD)=some cs:=by
 induction cs with
 | nil=>rfl
 | cons c cs ih=>exact congrArg (Option.map _) ih
theorem MZ{cs:List Nat}(h:∀ c∈cs,oZ c=true)(hl:cs.length≤900):zI (cs.map wD)=some (.str (Str.join " " (cs.map qS))):=by
 unfold zI
 rw[yW]
 exact if_pos (Bool.and_eq_true_iff.mpr ⟨List.all_eq_true.mpr fun c hc=>(mX (h c hc)).1,decide_eq_true hl⟩)
theorem pT{cs:List Nat}(h:∀ c∈cs,oZ c=true)(hne:cs≠[])(hl:cs.length≤900):pG 1002 (Str.join " " (cs.map qS))=some (aD cs) :=
 C2 (F:=1001) (fun c hc=>(mX (h c hc)).1) (fun c hc=>XT (h c hc)) hne hl (by decide)
theorem Q9{α:Type} [BEq α] [LawfulBEq α] {D:α→PyData} (hD:mO D) {d:Nat} (xs ys:List α) (hx:xs.length≤1000) (hy:ys.length≤1000):IG (xC 1002 d RG d) (xs.map D) (ys.map D)=some (.bool (mJ xs ys)):=by
 have ht:W3 d RG d=some RG:=if_pos rfl
 unfold IG xC
 rw[yS hD ht xs hx,yS hD ht ys hy]
 show(if PyData.depthAll ((j6 xs []).map D)≤64 then some (PyData.bool (iQ ((j6 xs []).map D) ((j6 ys []).map D)))else none)=_
 rw[if_pos (Nat.le_trans (yR hD _) (by decide)),NI hD.eqv (tY _ _ List.nodup_nil) (tY _ _ List.nodup_nil),LS]
theorem R1{q:Int}(h0:-1000001<q)(h:q<1000001):qH (.int q)=some q :=
 if_pos (Bool.and_eq_true_iff.mpr ⟨decide_eq_true (Int.lt_trans (by decide +kernel) h0),decide_eq_true (Int.lt_trans h (by decide +kernel))⟩)
theorem GX{q:Int}{n:Nat}(h0:0≤q)(h:q<1000001)(hn:q.toNat<n):cT q n=some q.toNat :=
 (if_pos (Bool.and_eq_true_iff.mpr ⟨decide_eq_true (Int.lt_of_lt_of_le (by decide +kernel) h0),decide_eq_true (Int.lt_trans h (by decide +kernel))⟩)).trans ((if_pos h0).trans (if_pos hn))
section
variable{cl:Nat→List PyData→Option PyData}{ρ:aW}{a b lo hi:PE}
theorem J8{p:Nat}(h:p≤1000000):(p:Int)<1000001:=Int.ofNat_lt.mpr (Nat.lt_succ_of_le h)
theorem jC{p:Nat}(h:p≤1000000):qH (.int (p:Int))=some (p:Int):=R1 (Int.lt_of_lt_of_le (by decide) (Int.natCast_nonneg p)) (J8 h)
theorem wB{p n:Nat}(hp:p≤1000000)(h:p<n):cT (p:Int) n=some p:=GX (Int.natCast_nonneg p) (J8 hp) h
theorem QU{p:Nat}(h:p≤1000000):u8 (p:Int)=true:=decide_eq_true (Nat.lt_of_le_of_lt h (Nat.lt_of_lt_of_le (show 1000000<2 ^ 20 by decide) (Nat.pow_le_pow_right (by decide) (by decide))))
theorem lW{e:PE}{d:PyData}{i:Int}(h:aH cl e ρ=some d)(hp:qH d=some i):WW cl (.yes e) ρ=some (some i):=(congrArg (Option.bind · _) h).trans (congrArg (Option.map _) hp)
theorem n3{x:PyData}{u v:PO}{i j:Option Int}(h1:aH cl a ρ=some x)(h2:WW cl u ρ=some i)(h3:WW cl v ρ=some j):aH cl (.slc a u v) ρ=IA x i j :=
 (congrArg (Option.bind · _) h1).trans ((congrArg (Option.bind · _) h2).trans (congrArg (Option.bind · _) h3))
theorem WF{l:List PyData}{p q:Nat}(h1:aH cl a ρ=some (.list l))(h2:aH cl lo ρ=some (.int (p:Int)))(h3:aH cl hi ρ=some (.int (q:Int)))(hp:p≤1000000)(hq:q≤1000000):aH cl (.slc a (.yes lo) (.yes hi)) ρ=some (.list ((l.take q).drop p)) :=
 (n3 h1 (lW h2 (jC hp)) (lW h3 (jC hq))).trans (congrArg (fun l=>some (PyData.list l)) (WN ..))
theorem WE{l:List PyData}{p:Nat}(h1:aH cl a ρ=some (.list l))(h2:aH cl lo ρ=some (.int (p:Int)))(hp:p≤1000000):aH cl (.slc a (.yes lo) .no) ρ=some (.list (l.drop p)) :=
 (n3 h1 (lW h2 (jC hp)) rfl).trans (congrArg (fun l=>some (PyData.list l)) (WM ..))
theorem KL{l:List PyData}{q:Nat}(h1:aH cl a ρ=some (.list l))(h3:aH cl hi ρ=some (.int (q:Int)))(hq:q≤1000000):aH cl (.slc a .no (.yes hi)) ρ=some (.list (l.take q)) :=
 (n3 h1 rfl (lW h3 (jC hq))).trans (congrArg (fun l=>some (PyData.list l)) (KS ..))
theorem iP{op:Operator}{x y z:PyData}(h1:aH cl a ρ=some x)(h2:aH cl b ρ=some y)(h:sB op x y=some z):aH cl (.bin op a b) ρ=some z:=(congrArg (Option.bind · _) h1).trans ((congrArg (Option.bind · _) h2).trans h)
theorem eM{op:CmpOp}{x y z:PyData}(h1:aH cl a ρ=some x)(h2:aH cl b ρ=some y)(h:sA op x y=some z):aH cl (.cmp op a b) ρ=some z:=(congrArg (Option.bind · _) h1).trans ((congrArg (Option.bind · _) h2).trans h)
theorem dR{p q:Nat}(h1:aH cl a ρ=some (.int (p:Int)))(h2:aH cl b ρ=some (.int (q:Int))):aH cl (.bin .Add a b) ρ=some (.int ((p+q:Nat):Int)):=iP h1 h2 rfl
theorem u9{x:PyData}(h1:aH cl a ρ=some x):kE cl (.cons a .nil) ρ=some [x]:=congrArg (Option.bind · _) h1
theorem GA{x y:PyData}(h1:aH cl a ρ=some x)(h2:aH cl b ρ=some y):kE cl (.cons a (.cons b .nil)) ρ=some [x,y]:=(congrArg (Option.bind · _) h1).trans (congrArg (Option.map _) (u9 h2))
theorem SP{c:PE}{x y z:PyData}(h1:aH cl a ρ=some x)(h2:aH cl b ρ=some y)(h3:aH cl c ρ=some z):kE cl (.cons a (.cons b (.cons c .nil))) ρ=some [x,y,z]:=(congrArg (Option.bind · _) h1).trans (congrArg (Option.map _) (GA h2 h3))
theorem vU{f:Bi}{es:rZ}{l:List PyData}{d:PyData}(h:kE cl es ρ=some l)(hd:RK f l=some d):aH cl (.bi f es) ρ=some d:=(congrArg (Option.bind · _) h).trans hd
theorem rV{f:Nat}{es:rZ}{l:List PyData}{d:PyData}(h:kE cl es ρ=some l)(hd:cl f l=some d):aH cl (.call f es) ρ=some d:=(congrArg (Option.bind · _) h).trans hd
theorem tF{l:List PyData}(h1:aH cl a ρ=some (.list l)):aH cl (.bi .len (.cons a .nil)) ρ=some (.int (l.length:Int)):=vU (u9 h1) rfl
theorem HM{l:List PyData}{i:Int}:BM (.list l) (.int i)=(cT i l.length).bind (l[·]?):=rfl
theorem FU{x y d:PyData}{i:PE}(h1:aH cl a ρ=some x)(h2:aH cl i ρ=some y)(h:BM x y=some d):aH cl (.idx a i) ρ=some d:=(congrArg (Option.bind · _) h1).trans ((congrArg (Option.bind · _) h2).trans h)
theorem xT{l:List PyData}{x:PyData}{i:PE}{p:Nat}(h1:aH cl a ρ=some (.list l))(h2:aH cl i ρ=some (.int (p:Int)))(hp:p≤1000000)(hx:l[p]? = some x):aH cl (.idx a i) ρ=some x :=
 FU h1 h2 (by rw[HM,wB hp (List.getElem?_eq_some_iff.mp hx).1]; exact hx)
theorem Q0{v w:List Nat}(h1:aH cl a ρ=some (aD v))(h2:aH cl b ρ=some (aD w))(hl:v.length+w.length≤1000000):aH cl (.bin .Add a b) ρ=some (aD (v++w)) :=
 iP h1 h2 ((pN (by rw[← List.map_append,List.length_map,List.length_append]; exact hl)).trans (by rw[aD,List.map_append]))
theorem WI{x:Bool}{y:PyData}(h1:aH cl a ρ=some (.bool x))(h2:x=true→aH cl b ρ=some y):aH cl (.bool true a b) ρ=some (if x then y else .bool false) :=
 (congrArg (Option.bind · _) h1).trans (match x,h2 with | true,h2=>h2 rfl | false,_=>rfl)
theorem eE{f:Nat}{x d:PyData}(h1:aH cl a ρ=some x)(h:cl f [x]=some d):aH cl (.call f (.cons a .nil)) ρ=some d:=rV (u9 h1) h
theorem AR{f:Nat}{x y d:PyData}(h1:aH cl a ρ=some x)(h2:aH cl b ρ=some y)(h:cl f [x,y]=some d):aH cl (.call f (.cons a (.cons b .nil))) ρ=some d:=rV (GA h1 h2) h
theorem xS{q:Nat}(h:aH cl a ρ=some (.int (q:Int)))(hq:q≤1000000):zA cl (.range1 a) ρ=some ((List.range q).map fun(k:Nat)=>PyData.int ((0+k:Nat):Int)) :=
 (congrArg (Option.bind · _) h).trans ((if_pos (Bool.and_eq_true_iff.mpr ⟨decide_eq_true (Int.natCast_nonneg q),decide_eq_true (Int.le_trans (Int.ofNat_le.mpr hq) (by decide))⟩)).trans (congrArg some (by
  unfold WX
  rw[rangeSize_nat,Int.toNat_natCast,Int.sub_zero,Int.toNat_natCast]
  exact congrArg (List.map · _) (funext fun k=>by rw[Int.mul_one,Int.natCast_add]; rfl))))
theorem ZJ{p q:Nat}(h0:0<q)(hq:q≤1000000):sB .FloorDiv (.int (p:Int)) (.int (q:Int))=some (.int ((p / q:Nat):Int)):=by
 show(if(decide (0<((q:Nat):Int))&&u8 (q:Int))=true then some (PyData.int ((p:Int).fdiv (q:Int)))else none)=_
 rw[QU hq,decide_eq_true (Int.natCast_pos.mpr h0),Int.fdiv_eq_ediv_of_nonneg _ (Int.natCast_nonneg q)]; rfl
theorem TO{p q:Nat}(h0:0<q):sB .Mod (.int (p:Int)) (.int (q:Int))=some (.int ((p%q:Nat):Int)):=by
 show(if 0<((q:Nat):Int)then some (PyData.int ((p:Int).fmod (q:Int)))else none)=_
 rw[if_pos (Int.natCast_pos.mpr h0),Int.fmod_eq_emod_of_nonneg _ (Int.natCast_nonneg q)]; rfl
theorem QY{w:List Nat}{p q k:Nat}(h1:aH cl a ρ=some (aD w))(h2:aH cl lo ρ=some (.int (p:Int)))(h3:aH cl hi ρ=some (.int (q:Int)))(e:q=p+k)(hq:q≤1000000):aH cl (.slc a (.yes lo) (.yes hi)) ρ=some (aD ((w.drop p).take k)) :=
 (WF h1 h2 h3 (Nat.le_trans (e▸Nat.le_add_right p k) hq) hq).trans (by rw[e,← List.take_drop,aD,List.map_take,List.map_drop])
theorem FV{x y:Bool}(h1:aH cl a ρ=some (.bool x))(h2:aH cl b ρ=some (.bool y)):aH cl (.bool true a b) ρ=some (.bool (x&&y)):=(congrArg (Option.bind · _) h1).trans (by cases x with | true=>exact h2 | false=>rfl)
end
theorem xQ{α β:Type}{g:α→List β}{c:Nat}{ds:List α}(h:∀ d∈ds,(g d).length≤c):(ds.flatMap g).length≤ds.length*c:=by
 induction ds with
 | nil=>exact Nat.zero_le _
 | cons d ds ih =>
  rw[List.flatMap_cons,List.length_append,List.length_cons,Nat.succ_mul,Nat.add_comm]
  exact Nat.add_le_add (ih fun x hx=>h x (List.mem_cons_of_mem _ hx)) (h d List.mem_cons_self)
noncomputable abbrev sD(l:List Nat):PyData:=.str ⟨l.toArray⟩
section
variable{cl:Nat→List PyData→Option PyData}{ρ:aW}{a b lo hi:PE}{F:Nat}
theorem KP(a b:List Nat):PyData.eqv (sD a) (sD b)=(a==b):=by
 show((⟨a.toArray⟩:Str)==⟨b.toArray⟩)=_
 by_cases h:a=b
 ·subst h; rw[beq_self_eq_true,beq_self_eq_true]
 ·rw[beq_false_of_ne h,beq_false_of_ne fun e=>h (congrArg (fun s:Str=>s.cps.toList) e)]
theorem Q4(l:List Nat)(d:PyData):pD (sD l) d=true:=decide_eq_true (Nat.le_trans (Nat.min_le_left _ _) (show(sD l).depth≤_ from Nat.zero_le _))
theorem XG(x y:List Nat)(t:PyData):(if pD (sD x) (sD y)=true then some t else none)=some t:=if_pos (Q4 x (sD y))
theorem tG{x y:List Nat}(h1:aH cl a ρ=some (sD x))(h2:aH cl b ρ=some (sD y)):aH cl (.cmp .Eq a b) ρ=some (.bool (x==y)):=eM h1 h2 ((XG x y _).trans (by rw[KP]))
theorem KM{x y:List Nat}(h1:aH cl a ρ=some (sD x))(h2:aH cl b ρ=some (sD y)):aH cl (.cmp .NotEq a b) ρ=some (.bool (!(x==y))):=eM h1 h2 ((XG x y _).trans (by rw[KP]))
theorem FT{l:List Nat}(h1:aH cl a ρ=some (sD l)):aH cl (.bi .len (.cons a .nil)) ρ=some (.int (l.length:Int)):=vU (u9 h1) rfl
theorem KY(a b:List Nat)(h:a.length+b.length≤1000000):sB .Add (sD a) (sD b)=some (sD (a++b)):=by
 show Z0 ((⟨a.toArray⟩:Str)++⟨b.toArray⟩)=_
 rw[jP]
 exact if_pos (Nat.le_trans (Nat.le_of_eq (show(a++b).length=_ from List.length_append)) (Nat.le_trans h (by decide)))
theorem rX{x y:List Nat}(h1:aH cl a ρ=some (sD x))(h2:aH cl b ρ=some (sD y))(h:x.length+y.length≤1000000):aH cl (.bin .Add a b) ρ=some (sD (x++y)):=iP h1 h2 (KY x y h)
theorem M3{s:Str}{i:Int}:BM (.str s) (.int i)=(cT i s.length).bind fun k=>(s.cps[k]?).map fun c=>PyData.str ⟨#[c]⟩:=rfl
theorem lU{l:List Nat}{c:Nat}{i:PE}{p:Nat}(h1:aH cl a ρ=some (sD l))(h2:aH cl i ρ=some (.int (p:Int)))(hp:p≤1000000)(hx:l[p]? = some c):aH cl (.idx a i) ρ=some (wD c):=by
 have h3:l.toArray[p]? = some c:=List.getElem?_toArray.trans hx
 refine FU h1 h2 ?_
 rw[M3,wB hp (show p<(⟨l.toArray⟩:Str).length from(List.getElem?_eq_some_iff.mp hx).1)]
 show(l.toArray[p]?).map _=_
 rw[h3]; rfl
theorem QW{l:List Nat}{q:Nat}(h1:aH cl a ρ=some (sD l))(h3:aH cl hi ρ=some (.int (q:Int)))(hq:q≤1000000):aH cl (.slc a .no (.yes hi)) ρ=some (sD (l.take q)) :=
 (n3 h1 rfl (lW h3 (jC hq))).trans (congrArg (fun l=>some (sD l)) (KS ..))
theorem GZ{p:Nat}(h:p≤1000000):qH (.int (-(p:Int)))=some (-(p:Int)):=R1 (Int.lt_of_lt_of_le (by decide) (Int.neg_le_neg (Int.ofNat_le.mpr h))) (Int.lt_of_le_of_lt (Int.neg_nonpos_of_nonneg (Int.natCast_nonneg p)) (by decide))
theorem Q7{α:Type}(l:List α){p:Nat}(hp:0<p):cut l (some (-(p:Int))) none=l.drop (l.length - p):=by
 have h:dH (-(p:Int)) l.length=l.length - p:=by
  have e:-(p:Int)+l.length≤l.length:=Int.le_trans (Int.add_le_add_right (Int.neg_nonpos_of_nonneg (Int.natCast_nonneg p)) _) (Int.le_of_eq (Int.zero_add _))
  rw[dH,if_pos (Int.neg_neg_of_pos (Int.ofNat_lt.mpr hp)),Int.min_eq_left e,Int.add_comm,← Int.sub_eq_add_neg]
  rcases Nat.le_total p l.length with h | h
  ·exact congrArg Int.toNat ((congrArg (max 0) (Int.ofNat_sub h).symm).trans (Int.max_eq_right (Int.natCast_nonneg _)))
  ·rw[Nat.sub_eq_zero_of_le h,Int.max_eq_left (Int.sub_nonpos_of_le (Int.ofNat_le.mpr h))]; rfl
 show(l.take l.length).drop (dH (-(p:Int)) l.length)=_
 rw[h,List.take_length]
theorem QX{l:List Nat}{p:Nat}(h1:aH cl a ρ=some (sD l))(h2:aH cl lo ρ=some (.int (-(p:Int))))(h0:0<p)(hp:p≤1000000):aH cl (.slc a (.yes lo) .no) ρ=some (sD (l.drop (l.length - p))) :=
 (n3 h1 (lW h2 (GZ hp)) rfl).trans (congrArg (fun l=>some (sD l)) (Q7 _ h0))
theorem FQ{p q:Nat}(h1:aH cl a ρ=some (.int (p:Int)))(h2:aH cl b ρ=some (.int (q:Int)))(h:q≤p):aH cl (.bin .Sub a b) ρ=some (.int ((p - q:Nat):Int)):=iP h1 h2 (congrArg (fun i=>some (PyData.int i)) (Int.ofNat_sub h).symm)
theorem WG{p q:Nat}{t:Bool}(h1:aH cl a ρ=some (.int (p:Int)))(h2:aH cl b ρ=some (.int (q:Int)))(h:decide (p<q)=t):aH cl (.cmp .Lt a b) ρ=some (.bool t):=eM h1 h2 (congrArg (fun i=>some (PyData.bool i)) ((decide_eq_decide.mpr Int.ofNat_lt).trans h))
theorem KN{c:PE}{t:Bool}{x y:PyData}(h:aH cl c ρ=some (.bool t))(h1:t=true→aH cl a ρ=some x)(h2:t=false→aH cl b ρ=some y):aH cl (.ite c a b) ρ=some (bif t then x else y) :=
 (congrArg (Option.bind · _) h).trans (by cases t with | true=>exact h1 rfl | false=>exact h2 rfl)
theorem yP{c:PE}{t:Bool}{p q:Nat}(h:aH cl c ρ=some (.bool t)):aH cl (.ite c (.lit (.int (p:Int))) (.lit (.int (q:Int)))) ρ=some (.int ((bif t then p else q:Nat):Int)) :=
 (congrArg (Option.bind · _) h).trans (by cases t <;> rfl)
theorem SN{y:PyData}(h1:aH cl a ρ=some (.bool false))(h2:aH cl b ρ=some y):aH cl (.bool false a b) ρ=some y:=(congrArg (Option.bind · _) h1).trans h2
theorem JN{x:Nat}{op:Operator}{e:PE}{σ:eV}{u v d:PyData}(hx:bB σ.env x=some u)(h:aH cl e σ.env=some v)(hf:(flat u&&flat v&&(op == .Add||op == .Sub))=true)(hd:sB op u v=some d):vJ cl F (.aug x op e) σ=some (.next (BF σ x d σ.own false)) :=
 (congrArg (Option.bind · _) hx).trans ((congrArg (Option.bind · _) h).trans ((if_pos hf).trans (congrArg (Option.map _) hd)))
theorem yA{x:Nat}{e:PE}{σ:eV}{p q:Nat}(hx:bB σ.env x=some (.int (p:Int)))(h:aH cl e σ.env=some (.int (q:Int))):vJ cl F (.aug x .Add e) σ=some (.next (BF σ x (.int ((p+q:Nat):Int)) σ.own false)):=JN hx h rfl rfl
theorem OG{x:Nat}{e:PE}{σ:eV}{p q:List Nat}(hx:bB σ.env x=some (sD p))(h:aH cl e σ.env=some (sD q))(hl:p.length+q.length≤1000000):vJ cl F (.aug x .Add e) σ=some (.next (BF σ x (sD (p++q)) σ.own false)):=JN hx h rfl (KY p q hl)
theorem KO{x y:List Nat}{t:Bool}(h1:aH cl a ρ=some (sD y))(h2:aH cl b ρ=some (sD x))(h:Txt.contains ⟨x.toArray⟩ ⟨y.toArray⟩=t):aH cl (.cmp .In a b) ρ=some (.bool t):=eM h1 h2 (congrArg (fun i=>some (PyData.bool i)) h)
end
end Kt.Internal
end
section
open Nat.Internal.Linear
namespace Kt.Internal
noncomputable def cx:Nat→List Nat→Context
 | _,[]=>.leaf 0
 | k,a::s=>.branch (k+1) (.leaf a) (cx (k+1) s)
noncomputable def un(l r:Expr):List Expr→Bool
 | a::b::s=>un (.add l a) (.add r b) s
 | _=>(ExprCnstr.mk false l r).toNormPoly.isUnsat
noncomputable def dn(x:Context)(C:Prop):List Expr→Prop
 | a::b::s=>a.denote x≤b.denote x→dn x C s
 | _=>C
theorem TR(x:Context){C:Prop}{l r:Expr}:∀{s:List Expr},un l r s=true→C∨l.denote x≤r.denote x→dn x C s
 | [],h,g | [_],h,g=>g.elim id fun g=>(Eq.mp (ExprCnstr.eq_false_of_isUnsat x ⟨false,l,r⟩ h) g).elim
 | _::_::_,h,g=>fun k=>TR x h (g.imp_right fun g=>Nat.add_le_add g k)
theorem lF(x:List Nat)(s:List Expr)(h:un (.num 0) (.num 0) s=true):dn (cx 0 x) False s:=TR _ h (.inr (Nat.le_refl 0))
theorem lL(x:List Nat)(s:List Expr)(a b:Expr)(h:un (.add b (.num 1)) a s=true):dn (cx 0 x) (a.denote (cx 0 x)≤b.denote (cx 0 x)) s:=TR _ h (Nat.lt_or_ge (b.denote (cx 0 x)) (a.denote (cx 0 x))).symm
theorem bN(a b:Nat):a≤a - b+b:=Nat.le_add_of_sub_le (Nat.le_refl _)
theorem bE{a b:Nat}(h:b≤a):a - b+b≤a:=Nat.le_of_eq (Nat.sub_add_cancel h)
theorem Z9(a b:Nat):a - b≤a:=Nat.sub_le a b
theorem eL{a b:Nat}(h:a=b):a≤b:=Nat.le_of_eq h
theorem eR{a b:Nat}(h:a=b):b≤a:=Nat.le_of_eq h.symm
theorem nA{a b:Nat}(h:a≤b)(g:b≤a):a=b:=Nat.le_antisymm h g
noncomputable def zb(a b:Expr):Expr:=.add a b
noncomputable def zc(a b c:Expr):Expr:=.add (.add a b) c
noncomputable def zd(a b c d:Expr):Expr:=.add (.add (.add a b) c) d
noncomputable def ze(a:Expr):Expr:=.add a (.num 1)
noncomputable def vk:Expr:=.num 1
noncomputable def o0:Expr:=.var 0
noncomputable def o1:Expr:=.var 1
noncomputable def o2:Expr:=.var 2
noncomputable def o3:Expr:=.var 3
noncomputable def o4:Expr:=.var 4
noncomputable def o5:Expr:=.var 5
noncomputable def o6:Expr:=.var 6
noncomputable def o7:Expr:=.var 7
noncomputable def o8:Expr:=.var 8
noncomputable def o9:Expr:=.var 9
end Kt.Internal
end
section
open PySem PySem.W PyProof.Rows
namespace Kt.Internal
section
variable{cl:iZ}{ex:Nat→LO→St→Option (OV×St)}{f:Nat}{ρ ρ':LO}{st st' st'':St}{A ss:kC}
theorem DF{c:OE}{B:kC}(h:jK cl ex c ρ st=some (true,st'))(g:bG cl ex f A ρ st'=some (.brk ρ',st'')):bG cl ex f (.cons (.ife c A B) ss) ρ st=some (.brk ρ',st''):=by
 have e:w6 cl ex f (.ife c A B) ρ st=some (.brk ρ',st''):=(congrArg (Option.bind · _) h).trans g
 exact congrArg (Option.bind · _) e
end
theorem HL{st:St}{r:List OV}{k:Nat}{v:OV}(hk:st[k]? = some (.list (r++[v]))):eX st (.o k) (.d (.int (-1)))=some v:=by
 have hp:cT (-1) (r++[v]).length=some r.length:=by
  have h:cT (-1) (r++[v]).length=(if 0≤(-1:Int)+((r++[v]).length:Int)then some ((-1:Int)+((r++[v]).length:Int)).toNat else none):=by kernel_rfl
  have e:(-1:Int)+(((r++[v]).length:Nat):Int)=(r.length:Int):=by rw[List.length_append,List.length_singleton,Int.natCast_add,Int.add_comm,Int.add_assoc]; exact Int.add_zero _
  rw[h,e,if_pos (Int.natCast_nonneg _),Int.toNat_natCast]
 have e:eX st (.o k) (.d (.int (-1)))=fL st[k]? fun xs=>(cT (-1) xs.length).bind (xs[·]?):=rfl
 rw[e,hk]
 show(cT (-1) (r++[v]).length).bind ((r++[v])[·]?)=_
 rw[hp]
 exact List.getElem?_concat_length
section
variable{F L:Nat}{c j u:Option OV}{s:Str}{ps:List OV}{i n:Int}
theorem OH{r:List OV}{e:Str}(hr:ps=r++[.d (.str e)])(hp:ps.length≤1000)(hx:eX (cK ps) (.d (.str s)) (.d (.int i))=some (sg 42)) :
  bG (aJ F (L+1)) (d7 F (aJ F (L+1))) F fR (iA s i n c j u) (cK ps)=some (.next (iA s (i+1) n (some (sg 42)) j u),cK (ps++[.o 0])):=by
 refine q8 hx (kW (w7 (d:=42) rfl) (kW (st':=cK ps) ?_ (aE (jR (m:=2) (j:=1) (v:=.o 0) rfl rfl rfl (rA hp)) rfl) rfl) rfl)
 have h1:pF (cK ps) (.o 1)=some true:=by rw[hr]; cases r <;> rfl
 have h2:eX (cK ps) (.o 1) (.d (.int (-1)))=some (.d (.str e)):=HL (r:=r) (congrArg (fun l=>some (FO.list l)) hr)
 have e1:cQ (aJ F (L+1)) (d7 F (aJ F (L+1))) (.nt (.var 3)) (iA s (i+1) n (some (sg 42)) j u) (cK ps)=some (.d (.bool false),cK ps):=congrArg (Option.map fun b=>(OV.d (.bool !b),cK ps)) h1
 have e2:cQ (aJ F (L+1)) (d7 F (aJ F (L+1))) (.cmp .IsNot (.idx (.var 3) (.neg 1)) (.var 1)) (iA s (i+1) n (some (sg 42)) j u) (cK ps)=some (.d (.bool true),cK ps):=iL (v:=.d (.str e)) (w:=.o 0) (xN (v:=.o 1) (w:=.d (.int (-1))) rfl rfl h2) rfl rfl
 exact kQ ((congrArg (Option.bind · _) e1).trans e2)
theorem EA{m:Nat}{A R l:List Nat}{r:List OV}{e:Str}(hl:l=A++42::R)(hb:l.length<80000)(hr:ps=r++[.d (.str e)])(hp:ps.length≤1000):tW F L (m+1) c j u l A.length ps=tW F L m (some (sg 42)) j u l (A++[42]).length (ps++[.o 0]):=by
 have hA:A.length<l.length:=by rw[hl,List.length_append]; exact Nat.lt_add_of_pos_right (Nat.succ_pos _)
 have h:=OH (F:=F+2) (L:=L) (s:=⟨l.toArray⟩) (i:=A.length) (n:=l.length) (c:=c) (j:=j) (u:=u) hr hp (by rw[hl]; exact pO (Nat.lt_trans hA (Nat.lt_trans hb (by decide))))
 exact(eC (sV (decide_eq_true (Int.ofNat_lt.mpr hA))) h).trans (congrArg (fun q=>tW F L m (some (sg 42)) j u l q (ps++[OV.o 0])) lT.symm)
theorem OM{cs:List Nat}(hne:cs≠[])(hl:cs.length≤900)(hb:(63::42::(cs.flatMap pc++[42])).length<80000)(hF:950≤F) :
  aJ (F+2) (L+2) 12 [.d (.str ⟨(63::42::(cs.flatMap pc++[42])).toArray⟩),.o 0,.d (.str ".")] [.plain]=some (.o 1,cK (.d (.str ".") :: .o 0::(cs.map HZ++[.o 0]))):=by
 obtain⟨m,hm⟩:∃ m,F+2=m+1+1+cs.length+1+1:=⟨F - 2 - cs.length,by exact nA (lL [F - 2,F - 2 - cs.length,cs.length,F] [o0,zb o1 o2,o3,zb o0 (.num 2)] (zb o3 (.num 2)) (ze (ze (zb (ze (ze o1)) o2))) rfl (bN _ _) (bN _ _)) (lL [F - 2 - cs.length,cs.length,F - 2,F] [zb o0 o1,o2,zb o2 (.num 2),o3] (ze (ze (zb (ze (ze o0)) o1))) (zb o3 (.num 2)) rfl (bE (lL [cs.length,F,F - 2] [o0,.num 900,.num 950,o1,o1,zb o2 (.num 2)] o0 o2 rfl hl hF (bN _ _))) (bE (lL [F] [.num 950,o0] (.num 2) o0 rfl hF)))⟩
 generalize hl':(63::42::(cs.flatMap pc++[42]):List Nat)=l at hb
 obtain⟨c1,j1,u1,g1⟩:=zP (F:=F) (L:=L) (m:=m+1+1+cs.length+1) (l:=l) (A:=[]) (R:=42::(cs.flatMap pc++[42])) (q:=none) (c:=none) (j:=none) (u:=none) (ps:=[]) hl'.symm hb (Nat.zero_le _)
 have g2:=EA (F:=F) (L:=L) (m:=m+1+1+cs.length) (l:=l) (A:=[63]) (R:=cs.flatMap pc++[42]) (c:=c1) (j:=j1) (u:=u1) (ps:=[.d (.str ".")]) (r:=[]) (e := ".") hl'.symm hb rfl (Nat.le_of_ble_eq_true rfl)
 obtain⟨c3,j3,u3,g3⟩:=T3 (F:=F) (L:=L) (m:=m+1+1) (l:=l) (A:=[63,42]) (R:=[42]) (ps:=[.d (.str "."),.o 0]) (cs:=cs.map some) (c:=some (sg 42)) (j:=j1) (u:=u1) (by rw[← hl',List.flatMap_map]; rfl) hb (by rw[List.length_map]; exact Nat.le_trans (Nat.add_le_add_left hl 2) (by decide))
 rw[List.length_map,List.map_map,List.flatMap_map]at g3
 have hlast:∃ r e,[OV.d (.str "."),.o 0]++cs.map HZ=r++[.d (.str e)]:=by
  rcases List.eq_nil_or_concat cs with h | ⟨r,x,h⟩
  ·exact absurd h hne
  ·exact⟨[OV.d (.str "."),.o 0]++r.map HZ,ZX x,by rw[h,List.concat_eq_append,List.map_append,← List.append_assoc]; rfl⟩
 obtain⟨r,e,hr⟩:=hlast
 have g4:=EA (F:=F) (L:=L) (m:=m+1) (l:=l) (A:=[63,42]++cs.flatMap pc) (R:=[]) (c:=c3) (j:=j3) (u:=u3) (ps:=[OV.d (.str "."),.o 0]++cs.map HZ) (r:=r) (e:=e) (by rw[← hl',List.append_assoc]; rfl) hb hr (by rw[List.length_append,List.length_map]; exact Nat.le_trans (Nat.add_le_add_left hl 2) (by decide))
 have hend:tW F L (m+1) (some (sg 42)) j3 u3 l ([63,42]++cs.flatMap pc++[42]).length ([OV.d (.str "."),.o 0]++cs.map HZ++[.o 0])=some (.next (iA ⟨l.toArray⟩ (l.length:Nat) (l.length:Nat) (some (sg 42)) j3 u3),cK (.d (.str ".") :: .o 0::(cs.map HZ++[.o 0]))):=by
  rw[show([63,42]++cs.flatMap pc++[42]:List Nat)=l from(List.append_assoc _ _ _).trans hl']
  exact n6 (sV (decide_eq_false (Int.lt_irrefl _)))
 exact LE.trans ((congrArg (fun o=>eY (Option.bind o (TF (F+2) L))) ((congrArg (fun k=>tW F L k none none none l ((0:Nat):Int) []) hm).trans (g1.trans (g2.trans (g3.trans (g4.trans hend)))))).trans LD)
end
section
variable{cl:iZ}{ex:Nat→LO→St→Option (OV×St)}{f m:Nat}{ps vs R A qs fs:List OV}{z:St}{x:Option OV}{i n:Int}{v:OV}
theorem By(h:i<n)(hi:eX (jS ps qs z) (.o 1) (.d (.int i))=some (.o 0)):jK cl ex lS (jL i n x) (jS ps qs z)=some (false,jS ps qs z):=rF (N7 h) (iL (w:=.o 0) (sK hi) rfl rfl)
theorem As{fs:List OV}(hi:eX (jS ps qs [.list fs]) (.o 1) (.d (.int i))=some v)(hf:fs.length≤1000):bG cl ex f lR (jL i n (some (.o 5))) (jS ps qs [.list fs])=some (.next (jL (i+1) n (some (.o 5))),jS ps qs [.list (fs++[v])]):=by
 have e:cQ cl ex (.appL (.var 6) (.idx (.var 0) (.var 4))) (jL i n (some (.o 5))) (jS ps qs [.list fs])=some (.d .none,jS ps qs [.list (fs++[v])]) :=
  (show _=Option.bind (cQ cl ex (.idx (.var 0) (.var 4)) (jL i n (some (.o 5))) (jS ps qs [.list fs])) fun r=>(mK r.2 5 r.1).map fun st'=>(OV.d .none,st') by kernel_rfl).trans ((congrArg (Option.bind · _) (sK hi)).trans (congrArg (Option.map _) (if_pos hf)))
 have e2:w6 cl ex f (.expr (.appL (.var 6) (.idx (.var 0) (.var 4)))) (jL i n (some (.o 5))) (jS ps qs [.list fs])=some (.next (jL i n (some (.o 5))),jS ps qs [.list (fs++[v])]):=congrArg (Option.bind · _) e
 exact aE e2 (aE (ρ':=jL (i+1) n (some (.o 5))) (st':=jS ps qs [.list (fs++[v])]) (by kernel_rfl) rfl)
theorem Aq(hb:ps.length≤2000)(hp:ps=A++(vs++R))(hv:∀ v∈vs,xB v)(hq:fs.length+vs.length≤1000) :
  cN (jK cl ex nW) (bG cl ex f lR) (m+vs.length) (jL A.length (ps.length:Nat) (some (.o 5))) (jS ps qs [.list fs])=cN (jK cl ex nW) (bG cl ex f lR) m (jL (A++vs).length (ps.length:Nat) (some (.o 5))) (jS ps qs [.list (fs++vs)]) :=
 AI (P:=fun q=>jL q (ps.length:Nat) (some (.o 5))) (S:=fun fs=>jS ps qs [.list fs]) (fun B v R' fs h hs=>Bx (xA h hb).1 ((xA h hb).2 qs [.list fs]) hs) (fun B v R' fs h hs hq=>As ((xA h hb).2 qs [.list fs]) hq) hp hv hq
theorem R8{k:Int}(h:i+1=k):w6 cl ex f (.aug 4 .Add (.lit (.int 1))) (jL i n x) (jS ps qs z)=some (.next (jL k n x),jS ps qs z):=by
 subst h; kernel_rfl
end
section
variable{F L:Nat}{ls:List (List Nat)}{l0:List Nat}
theorem OL(hl:ls.length≤900)(hb:(l0::ls).flatten.length≤60000)(hF:950≤F) :
  (aJ (F+3) (L+2) 13 [.o 1,.o 0] (cK (.d (.str ".") :: .o 0::((l0::ls).map lV++[.o 0])))).map (·.1)=some (lV ([40,63,115,58]++([46]++([40,63,62,46,42,63]++(l0::ls).flatten++[41]++[46,42]))++[41,92,90])):=by
 obtain⟨m,hm⟩:∃ m,F+3=m+1+((l0::ls).map lV).length:=⟨F+2 - (ls.length+1),by rw[List.length_map,List.length_cons]; exact nA (lL [F,F+2 - (ls.length+1),ls.length] [zb o0 (.num 2),zb o1 (ze o2)] (zb o0 (.num 3)) (zb (ze o1) (ze o2)) rfl (bN _ _)) (lL [F+2 - (ls.length+1),ls.length,F] [zb o0 (ze o1),zb o2 (.num 2)] (zb (ze o0) (ze o1)) (zb o2 (.num 3)) rfl (bE (lL [ls.length,F] [o0,.num 900,.num 950,o1] (ze o0) (zb o1 (.num 2)) rfl hl hF)))⟩
 generalize hV:(l0::ls).map lV=V at hm
 have hVl:V.length≤901:=by rw[← hV,List.length_map]; exact Nat.succ_le_succ hl
 have hVs:∀ v∈V,xB v:=hV▸UK
 obtain⟨v0,V0,hV0⟩:∃ v0 V0,V=v0::V0:=⟨_,_,hV.symm⟩
 have hv0:xB v0:=hVs v0 (hV0▸List.mem_cons_self)
 generalize hps':(OV.d (.str ".") :: .o 0::(V++[.o 0]):List OV)=ps
 have hlen:ps.length=V.length+3:=by rw[← hps',List.length_cons,List.length_cons,List.length_append]; rfl
 have hps:ps.length≤2000:=by rw[hlen]; exact Nat.le_trans (Nat.add_le_add_right hVl 3) (by decide)
 have w1:=Ar (cl:=aJ (F+3) (L+1)) (ex:=d7 (F+3) (aJ (F+3) (L+1))) (f:=F+3) (m:=F+1+1) (A:=[]) (vs:=[.d (.str ".")]) (R:=OV.o 0::(V++[OV.o 0])) (qs:=[]) (z:=[]) (x:=none) hps (by rw[← hps']; rfl) (fun v h=>⟨".",List.mem_singleton.mp h⟩) (Nat.le_of_ble_eq_true rfl)
 have in1:=xA (B:=[.d (.str ".")]) (v:=.o 0) (R':=V++[.o 0]) hps'.symm hps
 have in2:=xA (B:=[.d (.str "."),.o 0]) (v:=v0) (R':=V0++[.o 0]) (by rw[← hps',hV0]; rfl) hps
 have in3:=xA (B:=[.d (.str "."),.o 0]++V) (v:=.o 0) (R':=[]) (by rw[← hps',List.append_assoc]; rfl) hps
 have w2:=(Aq (cl:=aJ (F+3) (L+1)) (ex:=d7 (F+3) (aJ (F+3) (L+1))) (f:=F+3) (m:=m+1) (A:=[.d (.str "."),.o 0]) (vs:=V) (R:=[.o 0]) (qs:=[lV [46]]) (fs:=[]) hps (by rw[← hps']; rfl) hVs (by rw[List.length_nil,Nat.zero_add]; exact Nat.le_trans hVl (by decide))).trans (n6 (By in3.1 (in3.2 _ _)))
 have hq2:((([OV.d (.str ".")]:List OV).length:Nat):Int)+1=((([OV.d (.str "."),.o 0]:List OV).length:Nat):Int):=rfl
 have hn1:((([OV.d (.str "."),.o 0]:List OV).length:Nat):Int)≠(ps.length:Nat):=fun h=>by
  have h:=Int.ofNat.inj h
  rw[hlen]at h
  exact absurd h (Nat.ne_of_lt (Nat.lt_of_lt_of_le (show 2<3 by decide) (Nat.le_add_left 3 _)))
 have hl3:(([OV.d (.str "."),.o 0]++V).length:Int)+1=(ps.length:Nat):=by rw[hlen,List.length_append,Nat.add_comm]; rfl
 have hn3:((([OV.d (.str "."),.o 0]++V).length:Nat):Int)≠(ps.length:Nat):=fun h=>Int.ne_of_lt in3.1 h
 have hb1:bG (aJ (F+3) (L+1)) (d7 (F+3) (aJ (F+3) (L+1))) (F+3) rJ (jL ((([OV.d (.str ".")]:List OV).length:Nat):Int) (ps.length:Nat) none) (jS ps [lV [46]] []) =
   some (.next (jL ((([OV.d (.str "."),.o 0]++V).length:Nat):Int) (ps.length:Nat) (some (lV (l0::ls).flatten))),jS ps ([[46],[40,63,62,46,42,63]++(l0::ls).flatten++[41]].map lV) [.list V]):=by
  refine aE (kX (kQ (iL (v:=.o 0) (w:=.o 0) (sK (in1.2 _ _)) rfl rfl))) (aE (R8 hq2) (bP (N8 (beq_false_of_ne hn1)) rfl ?_))
  obtain⟨s0,rfl⟩:=hv0
  refine aE (kX (kQ (iL (v:=.d (.str s0)) (w:=.o 0) (sK (in2.2 _ _)) rfl rfl))) (aE (ρ':=jL ((([OV.d (.str "."),.o 0]:List OV).length:Nat):Int) (ps.length:Nat) (some (.o 5))) (st':=jS ps [lV [46]] [.list []]) rfl ?_)
  refine aE (show w6 (aJ (F+3) (L+1)) (d7 (F+3) (aJ (F+3) (L+1))) (F+3) (.while_ nW lR) (jL ((([OV.d (.str "."),.o 0]:List OV).length:Nat):Int) (ps.length:Nat) (some (.o 5))) (jS ps [lV [46]] [.list []])=some (.next (jL ((([OV.d (.str "."),.o 0]++V).length:Nat):Int) (ps.length:Nat) (some (.o 5))),jS ps [lV [46]] [.list V])from(congrArg (fun k=>cN (jK (aJ (F+3) (L+1)) (d7 (F+3) (aJ (F+3) (L+1))) nW) (bG (aJ (F+3) (L+1)) (d7 (F+3) (aJ (F+3) (L+1))) (F+3) lR) k (jL ((([OV.d (.str "."),.o 0]:List OV).length:Nat):Int) (ps.length:Nat) (some (.o 5))) (jS ps [lV [46]] [.list []])) hm).trans w2) ?_
  refine aE (iE (v:=lV (l0::ls).flatten) (st':=jS ps [lV [46]] [.list V]) (congrArg (Option.map fun v=>(v,jS ps [lV [46]] [.list V])) (uK (st:=jS ps [lV [46]] [.list V]) (k:=5) (ls:=l0::ls) (by rw[hV]; rfl) (Nat.le_trans hb (by decide))))) ?_
  refine bP (N8 (x:=some (lV (l0::ls).flatten)) (beq_false_of_ne hn3)) (aE (jR (m:=4) (j:=3) (v:=lV ([40,63,62,46,42,63]++(l0::ls).flatten++[41])) rfl ?_ rfl (CC (Nat.le_of_ble_eq_true rfl))) rfl) rfl
  exact congrArg (Option.map fun v=>(v,jS ps [lV [46]] [.list V])) (v3 [40,63,62,46,42,63] [41] (by rw[List.length_append,List.length_append]; exact Nat.le_trans (Nat.add_le_add_right (Nat.add_le_add_left hb 6) 1) (by decide)))
 have hb2:bG (aJ (F+3) (L+1)) (d7 (F+3) (aJ (F+3) (L+1))) (F+3) rJ (jL ((([OV.d (.str "."),.o 0]++V).length:Nat):Int) (ps.length:Nat) (some (lV (l0::ls).flatten))) (jS ps ([[46],[40,63,62,46,42,63]++(l0::ls).flatten++[41]].map lV) [.list V]) =
   some (.brk (jL (ps.length:Nat) (ps.length:Nat) (some (lV (l0::ls).flatten))),jS ps ([[46],[40,63,62,46,42,63]++(l0::ls).flatten++[41],[46,42]].map lV) [.list V]) :=
  aE (kX (kQ (iL (v:=.o 0) (w:=.o 0) (sK (in3.2 _ _)) rfl rfl))) (aE (R8 hl3) (DF (N8 (beq_self_eq_true _)) (aE (jR (m:=4) (j:=3) (v:=lV [46,42]) rfl rfl rfl (CC (Nat.le_of_ble_eq_true rfl))) rfl)))
 have hw:w6 (aJ (F+3) (L+1)) (d7 (F+3) (aJ (F+3) (L+1))) (F+3) (.while_ E4 rJ) (jL ((([OV.d (.str ".")]:List OV).length:Nat):Int) (ps.length:Nat) none) (jS ps [lV [46]] [])=some (.next (jL (ps.length:Nat) (ps.length:Nat) (some (lV (l0::ls).flatten))),jS ps ([[46],[40,63,62,46,42,63]++(l0::ls).flatten++[41],[46,42]].map lV) [.list V]) :=
  (eC (n:=F+2) (kQ (N7 in1.1)) hb1).trans (eC (n:=F+1) (kQ (N7 in3.1)) hb2)
 have htl:=LB (F:=F+3) (L:=L) (ps:=ps) (z:=[.list V]) (x:=some (lV (l0::ls).flatten)) (ls:=[[46],[40,63,62,46,42,63]++(l0::ls).flatten++[41],[46,42]]) (n:=(ps.length:Nat)) (by
  rw[List.flatten_cons,List.flatten_cons,List.flatten_singleton,List.length_append,List.length_append,List.length_append,List.length_append]
  exact Nat.le_trans (Nat.add_le_add_left (Nat.add_le_add_right (Nat.add_le_add_right (Nat.add_le_add_left hb 6) 1) 2) 1) (by decide))
 have hK:eY (TD (F+3) L (.next (jL ((([OV.d (.str ".")]:List OV).length:Nat):Int) (ps.length:Nat) none),jS ps [lV [46]] []))=_:=(congrArg eY (aE hw rfl)).trans htl
 have hall:=LC.trans ((congrArg (fun o=>eY (Option.bind o (TD (F+3) L))) (w1.trans (n6 (n:=F+1) (By in1.1 (in1.2 _ _))))).trans hK)
 rw[hall,List.flatten_cons,List.flatten_cons,List.flatten_singleton]; rfl
end
noncomputable def zE(l:List Nat):List Nat:=[46]++([40,63,62,46,42,63]++l++[41]++[46,42])
theorem GI{F:Nat}{cs:List Nat}(hne:cs≠[])(hl:cs.length≤900)(hb:(63::42::(cs.flatMap pc++[42])).length<80000)(hF:950≤F)(hok:bK (NQ (zE (cs.map pl).flatten))=true):iJ (F+3) ⟨(63::42::(cs.flatMap pc++[42])).toArray⟩=some (NQ (zE (cs.map pl).flatten)):=by
 have e:cs.map HZ=(cs.map pl).map lV:=by rw[List.map_map]; exact List.map_congr_left fun c _=>U8 c
 have hlen:(cs.map pl).flatten.length≤5*cs.length:=by
  have:=BY (cs.map some)
  rwa[List.map_map,List.length_map]at this
 obtain⟨c,r,rfl⟩:=List.exists_cons_of_ne_nil hne
 exact K4 hok (Cb (L:=3) (e▸OM (F:=F+1) (L:=3) hne hl hb (Nat.le_succ_of_le hF)) (OL (F:=F) (L:=3) (l0:=pl c) (ls:=r.map pl) (by rw[List.length_map]; exact Nat.le_of_succ_le hl) (Nat.le_trans hlen (Nat.le_trans (Nat.mul_le_mul_left 5 hl) (by decide))) hF))
end Kt.Internal
end
section

namespace Kt.Internal
section
variable{w:Nat→Nat}
def d8(w:Nat→Nat)(i j l:Nat):Prop:=∀ k,k<l→w (i+k)=w (j+k)
def iW(w:Nat→Nat)(i j l:Nat):Prop:=∀ a b,a+b+1=l→w (i+a)=w (j+b)
theorem d8.refl(i l:Nat):d8 w i i l:=fun _ _=>rfl
theorem d8.symm{i j l:Nat}(h:d8 w i j l):d8 w j i l:=fun k hk=>(h k hk).symm
theorem d8.trans{i j k l:Nat}(h:d8 w i j l)(g:d8 w j k l):d8 w i k l:=fun x hx=>(h x hx).trans (g x hx)
theorem iW.symm{i j l:Nat}(h:iW w i j l):iW w j i l:=fun a b e=>(h b a (by rwa[Nat.add_comm b a])).symm
theorem Co{a b l:Nat}(e:a+b+1=l):a<l:=e▸Nat.lt_succ_of_le (Nat.le_add_right a b)
theorem Cn{a b l:Nat}(e:a+b+1=l):b<l:=e▸Nat.lt_succ_of_le (Nat.le_add_left b a)
theorem iW.mir{i j k l:Nat}(h:iW w i j l)(g:iW w j k l):d8 w i k l:=fun a ha =>
 let⟨b,e⟩:=Nat.exists_eq_add_of_lt ha
 (h a b e.symm).trans (g b a (by rw[Nat.add_comm b a]; exact e.symm))
theorem d8.mir{i j k l:Nat}(h:d8 w i j l)(g:iW w j k l):iW w i k l:=fun a b e=>(h a (Co e)).trans (g a b e)
theorem iW.eqv{i j k l:Nat}(g:iW w i j l)(h:d8 w j k l):iW w i k l:=fun a b e=>(g a b e).trans (h b (Cn e))
theorem d8.sub{i j l:Nat}(h:d8 w i j l)(x:Nat){m:Nat}(hx:x+m≤l):d8 w (i+x) (j+x) m:=fun k hk=>by
 rw[Nat.add_assoc,Nat.add_assoc]; exact h _ (Nat.lt_of_lt_of_le (Nat.add_lt_add_left hk x) hx)
theorem iW.sub{i j l:Nat}(h:iW w i j l){x m y:Nat}(hx:x+m+y=l):iW w (i+x) (j+y) m:=fun a b e=>by
 rw[Nat.add_assoc,Nat.add_assoc]
 exact h _ _ ((congrArg (· + 1) (Nat.add_add_add_comm x a y b)).trans ((Nat.add_right_comm x y (a+b+1)).trans (e.symm▸hx)))
theorem nY{P:Nat→Prop}{n:Nat}:(∃ t,t<n∧P t)→∃ t,t<n∧P t∧∀ u,t<u→u<n→¬P u:=by
 induction n with
 | zero=>exact fun⟨t,h,_⟩=>absurd h (Nat.not_lt_zero t)
 | succ n ih =>
  intro⟨t,h,p⟩
  by_cases hn:P n
  ·exact⟨n,Nat.lt_succ_self n,hn,fun u h1 h2=>absurd h1 (Nat.not_lt.mpr (Nat.le_of_lt_succ h2))⟩
  ·obtain⟨t',h1,h2,h3⟩:=ih ⟨t,Nat.lt_of_le_of_ne (Nat.le_of_lt_succ h) fun e=>hn (e▸p),p⟩
   exact⟨t',Nat.lt_succ_of_lt h1,h2,fun u h4 h5 q=>h3 u h4 (Nat.lt_of_le_of_ne (Nat.le_of_lt_succ h5) fun e=>hn (e▸q)) q⟩
theorem gV{P:Nat→Prop}:∀{t:Nat},P t→∃ u,u≤t∧P u∧∀ v,v<u→¬P v:=by
 intro t
 induction t using Nat.strongRecOn with
 | _ t ih =>
  intro p
  by_cases h:∃ v,v<t∧P v
  ·obtain⟨v,h1,h2⟩:=h
   obtain⟨u,g1,g2,g3⟩:=ih v h1 h2
   exact⟨u,Nat.le_trans g1 (Nat.le_of_lt h1),g2,g3⟩
  ·exact⟨t,Nat.le_refl t,p,fun v hv q=>h ⟨v,hv,q⟩⟩
structure zB(w:Nat→Nat)(i s l:Nat):Prop where
 le:i≤s
 pos:0<l
 mir:iW w s s l
 max:∀ s' l',i≤s'→s'+l'=s+l→iW w s' s' l'→l'≤l
structure BJ(w:Nat→Nat)(i n l:Nat):Prop where
 pos:0<l
 le:l≤n
 mir:iW w i i l
 max:∀ l',l'≤n→iW w i i l'→l'≤l
def D4(w:Nat→Nat)(n:Nat):Prop:=∀ s l,s+l≤n→zB w 0 s l→∀ t,t<s→¬d8 w t s l
def BP(w:Nat→Nat)(n:Nat):Prop:=∀ i d l,0<d→0<l→i+d+l≤n→iW w i i l→d8 w i (i+d) l→(∀ u,0<u→u<d→¬d8 w i (i+u) l)→iW w i i (d+l)
theorem yH(i:Nat):iW w i i 1:=fun a b e=>by
 cases Nat.add_eq_zero_iff.mp (Nat.succ.inj e)with
 | intro e1 e2=>rw[e1,e2]
theorem J9{i e:Nat}(h:i<e):∃ s l,s+l=e∧zB w i s l:=by
 obtain⟨k,rfl⟩:=Nat.exists_eq_add_of_lt h
 obtain⟨s,_,⟨h2,l,hl,hp,hm⟩,h4⟩:=gV (P:=fun s=>i≤s∧∃ l,s+l=i+k+1∧0<l∧iW w s s l) (t:=i+k) ⟨Nat.le_add_right i k,1,rfl,Nat.one_pos,yH _⟩
 exact⟨s,l,hl,h2,hp,hm,fun s' l' g1 g2 g3=>Nat.le_of_not_lt fun g=>h4 s' (Nat.lt_of_add_lt_add_right (g2▸Nat.add_lt_add_left g s)) ⟨g1,l',g2.trans hl,Nat.lt_trans hp g,g3⟩⟩
theorem QG{k l:Nat}(h:0<k):¬k+l≤l:=Nat.not_le.mpr (Nat.lt_add_of_pos_left h)
theorem yX{n:Nat}(h:BP w n):D4 w n:=fun s l hn L t ht he=>by
 obtain⟨t,h1,h2,h3⟩:=nY (P:=fun t=>d8 w t s l) ⟨t,ht,he⟩
 obtain⟨k,rfl⟩:=Nat.exists_eq_add_of_lt h1
 exact QG (Nat.succ_pos k) (L.max t (k+1+l) (Nat.zero_le _) (Nat.add_assoc t (k+1) l).symm (h t (k+1) l (Nat.succ_pos k) L.pos hn ((h2.mir L.mir).eqv h2.symm) h2 fun u hu hud q=>h3 (t+u) (Nat.lt_add_of_pos_right hu) (Nat.add_lt_add_left hud t) (q.symm.trans h2)))
theorem Dc(x d l:Nat):0+(d+l)+x=x+d+l:=by rw[Nat.zero_add,Nat.add_comm,Nat.add_assoc]
theorem Db(x d l:Nat):d+l+x=x+d+l:=by rw[Nat.add_comm,Nat.add_assoc]
theorem Da(u l x v:Nat):u+l+(x+v)=x+(u+v)+l:=by rw[Nat.add_right_comm,Nat.add_left_comm u x v]
theorem yY{n:Nat}(h:D4 w n):∀ e,∀ i d l,i+d+l=e→0<d→0<l→i+d+l≤n→iW w i i l→d8 w i (i+d) l→(∀ u,0<u→u<d→¬d8 w i (i+u) l)→iW w i i (d+l):=by
 intro e
 induction e using Nat.strongRecOn with
 | _ e ih =>
  intro i d l he hd hl hn hm hq hu
  obtain⟨s,q,h1,L⟩:=J9 (w:=w) (i:=0) (e:=i+d+l) (Nat.lt_of_lt_of_le hl (Nat.le_add_left l _))
  have hm':iW w (i+d) (i+d) l:=(hq.symm.mir hm).eqv hq
  obtain⟨r,rfl⟩:=Nat.exists_eq_add_of_le' (L.max (i+d) l (Nat.zero_le _) h1.symm hm')
  have h2:s+r=i+d:=Nat.add_right_cancel ((Nat.add_assoc s r l).trans h1)
  have hr:0<r:=Nat.pos_of_ne_zero fun e=>by
   subst e
   obtain rfl:s=i+d:=h2
   rw[Nat.zero_add]at L
   exact h _ _ hn L i (Nat.lt_add_of_pos_right hd) hq
  have oc:d8 w s (i+d) l:=by
   have g:=L.mir.sub (x:=0) (m:=l) (y:=r) (by rw[Nat.zero_add,Nat.add_comm])
   rw[h2]at g
   exact g.mir hm'
  rcases Nat.lt_or_ge i s with h3 | h3
  ·obtain⟨u,rfl⟩:=Nat.exists_eq_add_of_lt h3
   obtain rfl:u+1+r=d:=Nat.add_left_cancel ((Nat.add_assoc i (u+1) r).symm.trans h2)
   exact absurd (hq.trans oc.symm) (hu (u+1) (Nat.succ_pos u) (Nat.lt_add_of_pos_right hr))
  obtain⟨x,rfl⟩:=Nat.exists_eq_add_of_le h3
  obtain rfl:r=x+d:=Nat.add_left_cancel (h2.trans (Nat.add_assoc s x d))
  rcases Nat.eq_zero_or_pos x with rfl | hx
  ·have:=L.mir; rwa[Nat.zero_add]at this
  have r':iW w s (s+x) (d+l):=L.mir.sub (x:=0) (m:=d+l) (y:=x) (Dc x d l)
  have os:d8 w s (s+d) l:=((oc.trans hq.symm).mir hm).mir (L.mir.sub (x:=d) (m:=l) (y:=x) (Db x d l)).symm
  have hlt:s+d+l<s+x+d+l:=Nat.add_lt_add_right (Nat.add_lt_add_right (Nat.lt_add_of_pos_right hx) d) l
  have:=ih (s+d+l) (he▸hlt) s d l rfl hd hl (Nat.le_trans (Nat.le_of_lt hlt) hn) ((oc.mir hm').eqv oc.symm) os fun u h3 h4 g=>by
   obtain⟨v,rfl⟩:=Nat.exists_eq_add_of_lt h4
   have g1:=L.mir.sub (x:=u) (m:=l) (y:=x+(v+1)) (Da u l x (v+1))
   rw[← Nat.add_assoc]at g1
   exact hu (v+1) (Nat.succ_pos v) (Nat.lt_add_of_pos_left h3) (hm.mir (((hq.trans oc.symm).trans g).mir g1))
  exact(r'.symm.mir this).mir r'
end
section
variable{w:Nat→Nat}{n a l b m:Nat}
structure Sg(w:Nat→Nat)(a l b m i y:Nat):Prop where
 p:d8 w a i l
 q:d8 w b (i+y) m
 le:l≤y+m
 po:∀ x,0<x→x+l≤y+m→¬d8 w a (i+x) l
 qo:∀ x,x<y→¬d8 w b (i+x) m
theorem OR{i d t:Nat}{c:Nat}(ht:d8 w b t m)(hc:d8 w a c l)(hct:c≤t)(hl:c+l≤t+m)(hd:i+d≤c)(h1:∀ u,c<u→u+l≤t+m→i+d≤u→¬d8 w a u l)(h2:∀ u,u<t→i+d≤u→¬d8 w b u m):Sg w a l b m c (t - c) where
 p:=hc
 q:=by rwa[Nat.add_sub_cancel' hct]
 le:=by exact lL [c,l,t,m,t - c] [zb o0 o1,zb o2 o3,o2,zb o4 o0] o1 (zb o4 o3) rfl hl (bN _ _)
 po:=fun x h0 hx=>h1 (c+x) (by exact lL [x,c] [vk,o0] (ze o1) (zb o1 o0) rfl h0) (by exact lL [x,l,t - c,m,c,t] [zb o0 o1,zb o2 o3,zb o2 o4,o5] (zc o4 o0 o1) (zb o5 o3) rfl hx (bE (lL [c,t] [o0,o1] o0 o1 rfl hct))) (by exact lL [i,d,c,x] [zb o0 o1,o2,vk,o3] (zb o0 o1) (zb o2 o3) rfl hd h0)
 qo:=fun x hx=>h2 (c+x) (by exact lL [x,t - c,c,t] [ze o0,o1,zb o1 o2,o3] (ze (zb o2 o0)) o3 rfl hx (bE (lL [c,t] [o0,o1] o0 o1 rfl hct))) (by exact lL [i,d,c,x] [zb o0 o1,o2] (zb o0 o1) (zb o2 o3) rfl hd)
theorem OW{i z D y y':Nat}(A:Sg w a l b m i y)(B:Sg w a l b m (i+D) y')(hp:iW w a a l)(r:iW w i (i+z) (y+m))(g:iW w (i+z) (i+D) (y'+m)):¬y'<y:=fun h=>by
 have hb:=B.le
 have g1:=g.sub (x:=y'+m - l) (m:=l) (y:=0) (by exact nA (lL [y'+m - l,l,y',m] [zb o0 o1,zb o2 o3] (zc o0 o1 (.num 0)) (zb o2 o3) rfl (bE (lL [l,y',m] [o0,zb o1 o2] o0 (zb o1 o2) rfl hb))) (lL [y',m,y'+m - l,l] [zb o0 o1,zb o2 o3] (zb o0 o1) (zc o2 o3 (.num 0)) rfl (bN _ _)))
 have r1:=r.sub (x:=y - y') (m:=l) (y:=y'+m - l) (by exact nA (lL [y - y',y',y,y'+m - l,l,m] [zb o0 o1,o2,zb o3 o4,zb o1 o5] (zc o0 o4 o3) (zb o2 o5) rfl (bE (lL [y',y] [ze o0,o1] o0 o1 rfl h)) (bE (lL [l,y',m] [o0,zb o1 o2] o0 (zb o1 o2) rfl hb))) (lL [y,y - y',y',m,y'+m - l,l] [o0,zb o1 o2,zb o2 o3,zb o4 o5] (zb o0 o3) (zc o1 o5 o4) rfl (bN _ _) (bN _ _)))
 have e:=(hp.eqv B.p).mir g1.symm
 exact A.po (y - y') (by exact lL [y',y,y - y'] [ze o0,o1,o1,zb o2 o0] vk o2 rfl h (bN _ _)) (by exact lL [l,y',m,y - y',y] [o0,zb o1 o2,zb o3 o1,o4] (zb o3 o0) (zb o4 o2) rfl hb (bE (lL [y',y] [ze o0,o1] o0 o1 rfl h))) ((hp.eqv e).mir r1.symm)
theorem UN(R:BP w n)(hl:0<l)(hm:0<m)(hp:iW w a a l)(hq:iW w b b m)(nq:∀ t o,d8 w b t m→o+l≤m→¬d8 w a (t+o) l)(np:∀ t o,d8 w a t l→o+m≤l→¬d8 w b (t+o) m) :
  ∀ D i y y',Sg w a l b m i y→Sg w a l b m (i+D) y'→i+D+y'+m≤n→y=y'∧d8 w i (i+D) (y+m):=by
 intro D
 induction D using Nat.strongRecOn with
 | _ D ih =>
  intro i y y' A B hn
  rcases Nat.eq_zero_or_pos D with rfl | hD
  ·refine⟨?_,d8.refl _ _⟩
   rcases Nat.lt_trichotomy y y' with h | h | h
   ·exact absurd A.q (B.qo y h)
   ·exact h
   ·exact absurd B.q (A.qo y' h)
  obtain⟨d,h1,⟨hd,h2⟩,h3⟩:=gV (P:=fun d=>0<d∧d8 w a (i+d) l) (t:=D) ⟨hD,B.p⟩
  have hB:=B.le
  have hA:=A.le
  have r:=R i d l hd hl (by exact lL [i,D,y',m,n,d,l] [zd o0 o1 o2 o3,o4,o5,o1,o6,zb o2 o3] (zc o0 o5 o6) o4 rfl hn h1 hB) ((A.p.symm.mir hp).eqv A.p) (A.p.symm.trans h2) fun u h4 h5 q=>h3 u h5 ⟨h4,A.p.trans q⟩
  have hdl:y+m<d+l:=Nat.lt_of_not_le fun h=>A.po d hd h h2
  obtain⟨z,hz⟩:∃ z,d+l=(y+m)+z:=⟨d+l - (y+m),by exact nA (lL [d,l,d+l - (y+m),y,m] [zb o0 o1,zb o2 (zb o3 o4)] (zb o0 o1) (zc o3 o4 o2) rfl (bN _ _)) (lL [d+l - (y+m),y,m,d,l] [zb o0 (zb o1 o2),zb o3 o4] (zc o1 o2 o0) (zb o3 o4) rfl (bE (lL [y,m,d,l] [ze (zb o0 o1),zb o2 o3] (zb o0 o1) (zb o2 o3) rfl hdl)))⟩
  have r':iW w i (i+z) (y+m):=r.sub (x:=0) (m:=y+m) (y:=z) (by exact nA (lL [y,m,z,d,l] [zc o0 o1 o2,zb o3 o4] (zc (.num 0) (zb o0 o1) o2) (zb o3 o4) rfl (eR hz)) (lL [d,l,y,m,z] [zb o0 o1,zc o2 o3 o4] (zb o0 o1) (zc (.num 0) (zb o2 o3) o4) rfl (eL hz)))
  obtain⟨t,t1,⟨t2,t3⟩,t4⟩:=gV (P:=fun t=>i+d≤t∧d8 w b t m) (t:=i+D+y') ⟨by exact lL [d,D,i,y'] [o0,o1] (zb o2 o0) (zc o2 o1 o3) rfl h1,B.q⟩
  have tl:i+d+l≤t+m:=Nat.le_of_not_lt fun h=>np (i+d) (t - (i+d)) h2 (by exact lL [t,m,i,d,l,t - (i+d)] [ze (zb o0 o1),zc o2 o3 o4,zb o5 (zb o2 o3),o0] (zb o5 o1) o4 rfl h (bE (lL [i,d,t] [zb o0 o1,o2] (zb o0 o1) o2 rfl t2))) (by rwa[Nat.add_sub_cancel' t2])
  obtain⟨c,c1,⟨c2,c3⟩,c4⟩:=nY (P:=fun c=>i+d≤c∧d8 w a c l) (n:=t+m - l+1) ⟨i+d,by exact lL [i,d,l,t,m,t+m - l] [zc o0 o1 o2,zb o3 o4,zb o3 o4,zb o5 o2] (ze (zb o0 o1)) (ze o5) rfl tl (bN _ _),Nat.le_refl _,h2⟩
  have cD:c≤i+D:=Nat.le_of_not_lt fun h=>B.po (c - (i+D)) (by exact lL [i,D,c,c - (i+D)] [ze (zb o0 o1),o2,o2,zb o3 (zb o0 o1)] vk o3 rfl h (bN _ _)) (by exact lL [t,i,D,y',c,t+m - l,l,m,c - (i+D)] [o0,zc o1 o2 o3,ze o4,ze o5,zb o5 o6,zb o0 o7,zb o8 (zb o1 o2),o4] (zb o8 o6) (zb o3 o7) rfl t1 c1 (bE (lL [d,i,l,t,m] [vk,o0,zc o1 o0 o2,zb o3 o4] o2 (zb o3 o4) rfl hd tl)) (bE (lL [i,D,c] [ze (zb o0 o1),o2] (zb o0 o1) o2 rfl h))) (by rwa[Nat.add_sub_cancel' (Nat.le_of_lt h)])
  have ct:c≤t:=Nat.le_of_not_lt fun h=>nq t (c - t) t3 (by exact lL [c,t+m - l,l,t,m,c - t] [ze o0,ze o1,zb o1 o2,zb o3 o4,zb o5 o3,o0] (zb o5 o2) o4 rfl c1 (bE (lL [d,i,l,t,m] [vk,o0,zc o1 o0 o2,zb o3 o4] o2 (zb o3 o4) rfl hd tl)) (bE (lL [t,c] [ze o0,o1] o0 o1 rfl h))) (by rwa[Nat.add_sub_cancel' (Nat.le_of_lt h)])
  have C:Sg w a l b m c (t - c):=OR t3 c3 ct (by exact lL [c,t+m - l,l,t,m] [ze o0,ze o1,zb o1 o2,zb o3 o4] (zb o0 o2) (zb o3 o4) rfl c1 (bE (lL [d,i,l,t,m] [vk,o0,zc o1 o0 o2,zb o3 o4] o2 (zb o3 o4) rfl hd tl))) c2 (fun u h4 h5 h6 q=>c4 u h4 (by exact lL [u,l,t,m,t+m - l] [zb o0 o1,zb o2 o3,zb o2 o3,zb o4 o1] (ze o0) (ze o4) rfl h5 (bN _ _)) ⟨h6,q⟩) fun u h4 h5 q=>t4 u h4 ⟨h5,q⟩
  rcases Nat.lt_or_ge c (i+D)with hc | hc
  ·obtain⟨e,rfl⟩:∃ e,c=i+e:=⟨c - i,by exact nA (lL [c,c - i,i] [o0,zb o1 o2] o0 (zb o2 o1) rfl (bN _ _)) (lL [c - i,i,c] [zb o0 o1,o2] (zb o1 o0) o2 rfl (bE (lL [d,i,c] [vk,o0,zb o1 o0,o2] o1 o2 rfl hd c2)))⟩
   obtain⟨f,rfl⟩:∃ f,D=e+f:=⟨D - e,by exact nA (lL [D,D - e,e] [o0,zb o1 o2] o0 (zb o2 o1) rfl (bN _ _)) (lL [D - e,e,D] [zb o0 o1,o2] (zb o1 o0) o2 rfl (bE (lL [i,e,D] [ze (zb o0 o1),zb o0 o2] o1 o2 rfl hc)))⟩
   obtain⟨g1,g2⟩:=ih e (by exact lL [i,e,f] [ze (zb o0 o1),zb o0 (zb o1 o2)] (ze o1) (zb o1 o2) rfl hc) i y (t - (i+e)) A C (by exact lL [i,e,f,y',m,n,t,t - (i+e)] [zd o0 (zb o1 o2) o3 o4,o5,o6,zc o0 (zb o1 o2) o3,zb o7 (zb o0 o1),o6] (zd o0 o1 o7 o4) o5 rfl hn t1 (bE (lL [i,e,t] [zb o0 o1,o2] (zb o0 o1) o2 rfl ct)))
   obtain⟨g3,g4⟩:=ih f (by exact lL [d,i,e,f] [vk,o0,zb o1 o0,zb o1 o2] (ze o3) (zb o2 o3) rfl hd c2) (i+e) (t - (i+e)) y' C (by rwa[Nat.add_assoc]) (by exact lL [i,e,f,y',m,n] [zd o0 (zb o1 o2) o3 o4,o5] (zd (zb o0 o1) o2 o3 o4) o5 rfl hn)
   rw[← g1,Nat.add_assoc]at g4
   exact⟨g1.trans g3,g2.trans g4⟩
  cases Nat.le_antisymm cD hc
  have tt:t=i+D+y':=Nat.le_antisymm t1 (Nat.le_of_not_lt fun h=>B.qo (t - (i+D)) (by exact lL [t,i,D,y',t - (i+D)] [ze o0,zc o1 o2 o3,zb o4 (zb o1 o2),o0] (ze o4) o3 rfl h (bE (lL [i,D,t] [zb o0 o1,o2] (zb o0 o1) o2 rfl ct))) (by rwa[Nat.add_sub_cancel' ct]))
  subst tt
  have y0:0<y':=Nat.pos_of_ne_zero fun e=>nq (i+D+y') 0 B.q (by exact lL [l,y',m] [o0,zb o1 o2,o1,.num 0] (zb (.num 0) o0) o2 rfl hB (eL e)) (by subst e; exact B.p)
  have q1:d8 w b (i+z) m:=(hq.eqv A.q).mir (r'.sub (x:=y) (m:=m) (y:=0) (by exact nA (lL [y,m] [] (zc o0 o1 (.num 0)) (zb o0 o1) rfl ) (lL [y,m] [] (zb o0 o1) (zc o0 o1 (.num 0)) rfl )))
  obtain⟨f,hf⟩:∃ f,D+y'=z+f:=⟨D+y' - z,by exact nA (lL [D,y',D+y' - z,z] [zb o0 o1,zb o2 o3] (zb o0 o1) (zb o3 o2) rfl (bN _ _)) (lL [D+y' - z,z,D,y'] [zb o0 o1,zb o2 o3] (zb o1 o0) (zb o2 o3) rfl (bE (lL [d,D,l,y,m,z,y'] [o0,o1,o2,zb o3 o4,zc o3 o4 o5,zb o0 o2,vk,o6] o5 (zb o1 o6) rfl h1 hA (eR hz) y0)))⟩
  have Q:=R (i+z) f m (by exact lL [d,D,l,y,m,z,y',f] [o0,o1,o2,zb o3 o4,zc o3 o4 o5,zb o0 o2,vk,o6,zb o1 o6,zb o5 o7] vk o7 rfl h1 hA (eR hz) y0 (eL hf)) hm (by exact lL [i,D,y',m,n,z,f] [zd o0 o1 o2 o3,o4,zb o5 o6,zb o1 o2] (zd o0 o5 o6 o3) o4 rfl hn (eR hf)) ((q1.symm.mir hq).eqv q1) (by rw[show i+z+f=i+D+y' by exact nA (lL [z,f,D,y',i] [zb o0 o1,zb o2 o3] (zc o4 o0 o1) (zc o4 o2 o3) rfl (eR hf)) (lL [D,y',z,f,i] [zb o0 o1,zb o2 o3] (zc o4 o0 o1) (zc o4 o2 o3) rfl (eL hf))]; exact q1.symm.trans B.q) fun u h4 h5 q=>by
   have q2:=q1.trans q
   rcases Nat.lt_or_ge (z+u) d with h6 | h6
   ·rcases Nat.lt_or_ge (d+l) (z+u+m)with h7 | h7
    ·exact nq (i+z+u) (d - (z+u)) q2 (by exact lL [d,l,z,u,m,d - (z+u)] [ze (zb o0 o1),zc o2 o3 o4,zb o5 (zb o2 o3),o0] (zb o5 o1) o4 rfl h7 (bE (lL [z,u,d] [ze (zb o0 o1),o2] (zb o0 o1) o2 rfl h6))) (by rw[show i+z+u+(d - (z+u))=i+d by exact nA (lL [d - (z+u),z,u,d,i] [zb o0 (zb o1 o2),o3] (zd o4 o1 o2 o0) (zb o4 o3) rfl (bE (lL [z,u,d] [ze (zb o0 o1),o2] (zb o0 o1) o2 rfl h6))) (lL [d,d - (z+u),z,u,i] [o0,zb o1 (zb o2 o3)] (zb o4 o0) (zd o4 o2 o3 o1) rfl (bN _ _))]; exact h2)
    ·have g:=r'.sub (x:=y - u) (m:=m) (y:=u) (by exact nA (lL [y - u,u,y,m] [zb o0 o1,o2] (zc o0 o3 o1) (zb o2 o3) rfl (bE (lL [d,l,y,m,z,u] [zb o0 o1,zc o2 o3 o4,zc o4 o5 o3,zb o0 o1] o5 o2 rfl (eL hz) h7))) (lL [y,y - u,u,m] [o0,zb o1 o2] (zb o0 o3) (zc o1 o3 o2) rfl (bN _ _)))
     exact A.qo (y - u) (by exact lL [u,y - u,y] [vk,o0,zb o1 o0,o2] (ze o1) o2 rfl h4 (bE (lL [d,l,y,m,z,u] [zb o0 o1,zc o2 o3 o4,zc o4 o5 o3,zb o0 o1] o5 o2 rfl (eL hz) h7))) ((hq.eqv q2).mir g.symm)
   ·exact t4 (i+z+u) (by exact lL [z,f,D,y',u,i] [zb o0 o1,zb o2 o3,ze o4,o1] (ze (zc o5 o0 o4)) (zc o5 o2 o3) rfl (eR hf) h5) ⟨by exact lL [d,z,u,i] [o0,zb o1 o2] (zb o3 o0) (zc o3 o1 o2) rfl h6,q2⟩
  have g:iW w (i+z) (i+D) (y'+m):=by
   have:=Q.sub (x:=0) (m:=y'+m) (y:=D - z) (by exact nA (lL [D,y',z,f,D - z,m] [zb o0 o1,zb o2 o3,zb o4 o2,o0] (zc (.num 0) (zb o1 o5) o4) (zb o3 o5) rfl (eL hf) (bE (lL [d,D,l,y,m,z] [o0,o1,o2,zb o3 o4,zc o3 o4 o5,zb o0 o2] o5 o1 rfl h1 hA (eR hz)))) (lL [z,f,D,y',D - z,m] [zb o0 o1,zb o2 o3,o2,zb o4 o0] (zb o1 o5) (zc (.num 0) (zb o3 o5) o4) rfl (eR hf) (bN _ _)))
   rwa[show i+z+(D - z)=i+D by exact nA (lL [D - z,z,D,i] [zb o0 o1,o2] (zc o3 o1 o0) (zb o3 o2) rfl (bE (lL [d,D,l,y,m,z] [o0,o1,o2,zb o3 o4,zc o3 o4 o5,zb o0 o2] o5 o1 rfl h1 hA (eR hz)))) (lL [D,D - z,z,i] [o0,zb o1 o2] (zb o3 o0) (zc o3 o2 o1) rfl (bN _ _))]at this
  have e:y=y':=by
   rcases Nat.lt_trichotomy y y' with h | h | h
   ·have g1:=g.sub (x:=y+m - l) (m:=l) (y:=y' - y) (by exact nA (lL [y+m - l,l,y,m,y' - y,y'] [zb o0 o1,zb o2 o3,zb o4 o2,o5] (zc o0 o1 o4) (zb o5 o3) rfl (bE (lL [l,y,m] [o0,zb o1 o2] o0 (zb o1 o2) rfl hA)) (bE (lL [y,y'] [ze o0,o1] o0 o1 rfl h))) (lL [y,m,y+m - l,l,y',y' - y] [zb o0 o1,zb o2 o3,o4,zb o5 o0] (zb o4 o1) (zc o2 o3 o5) rfl (bN _ _) (bN _ _)))
    rw[show i+z+(y+m - l)=i+d by exact nA (lL [y,m,z,d,l,y+m - l,i] [zc o0 o1 o2,zb o3 o4,zb o5 o4,zb o0 o1] (zc o6 o2 o5) (zb o6 o3) rfl (eR hz) (bE (lL [l,y,m] [o0,zb o1 o2] o0 (zb o1 o2) rfl hA))) (lL [d,l,y,m,z,y+m - l,i] [zb o0 o1,zc o2 o3 o4,zb o2 o3,zb o5 o1] (zb o6 o0) (zc o6 o4 o5) rfl (eL hz) (bN _ _))]at g1
    exact absurd ((hp.eqv h2).mir g1) (B.po (y' - y) (by exact lL [y,y',y' - y] [ze o0,o1,o1,zb o2 o0] vk o2 rfl h (bN _ _)) (by exact lL [l,y,m,y' - y,y'] [o0,zb o1 o2,zb o3 o1,o4] (zb o3 o0) (zb o4 o2) rfl hA (bE (lL [y,y'] [ze o0,o1] o0 o1 rfl h))))
   ·exact h
   ·exact absurd h (OW A B hp r' g)
  exact⟨e,r'.mir (e▸g)⟩
theorem RX{i L s:Nat}(R:BP w n)(hn:i+L≤n)(P:BJ w i L l)(Q:zB w i s m)(hs:s+m=i+L):Sg w i l s m i (s - i):=by
 have hi:=Q.le
 refine⟨d8.refl _ _,by rw[Nat.add_sub_cancel' hi]; exact d8.refl _ _,by have:=P.le; exact lL [i,L,s,m,l,s - i] [zb o0 o1,zb o2 o3,o4,o1,o2,zb o5 o0] o4 (zb o5 o3) rfl (eR hs) this (bN _ _),fun x h0 hx h=>?_,fun x hx h=>?_⟩
 ·obtain⟨u,h1,⟨h2,h3⟩,h4⟩:=gV (P:=fun u=>0<u∧d8 w i (i+u) l) ⟨h0,h⟩
  have:=P.max (u+l) (by exact lL [s,m,i,L,x,l,s - i,u] [zb o0 o1,zb o2 o3,zb o4 o5,zb o6 o1,o7,o4,zb o6 o2,o0] (zb o7 o5) o3 rfl (eL hs) hx h1 (bE (lL [i,s] [o0,o1] o0 o1 rfl hi))) (R i u l h2 P.pos (by exact lL [i,L,n,s,m,x,l,s - i,u] [zb o0 o1,o2,zb o3 o4,zb o0 o1,zb o5 o6,zb o7 o4,o8,o5,zb o7 o0,o3] (zc o0 o8 o6) o2 rfl hn (eL hs) hx h1 (bE (lL [i,s] [o0,o1] o0 o1 rfl hi))) P.mir h3 fun v g1 g2 g3=>h4 v g2 ⟨g1,g3⟩)
  exact lF [u,l] [vk,o0,zb o0 o1,o1] rfl h2 this
 ·obtain⟨u,h1,h2,h3⟩:=nY (P:=fun u=>d8 w s (i+u) m) (n:=s - i) ⟨x,hx,h⟩
  obtain⟨d,rfl⟩:∃ d,s=i+u+d:=⟨s - (i+u),by exact nA (lL [s,s - (i+u),i,u] [o0,zb o1 (zb o2 o3)] o0 (zc o2 o3 o1) rfl (bN _ _)) (lL [s - (i+u),i,u,s] [zb o0 (zb o1 o2),o3] (zc o1 o2 o0) o3 rfl (bE (lL [u,s - i,i,s] [ze o0,o1,zb o1 o2,o3] (zb o2 o0) o3 rfl h1 (bE (lL [i,s] [o0,o1] o0 o1 rfl hi)))))⟩
  have:=Q.max (i+u) (d+m) (Nat.le_add_right _ _) (by exact nA (lL [i,u,d,m] [] (zc o0 o1 (zb o2 o3)) (zd o0 o1 o2 o3) rfl ) (lL [i,u,d,m] [] (zd o0 o1 o2 o3) (zc o0 o1 (zb o2 o3)) rfl )) (R (i+u) d m (by exact lL [u,i+u+d - i,i,d] [ze o0,o1,zb o1 o2,zc o2 o0 o3] vk o3 rfl h1 (bE (lL [i,u,d] [] o0 (zc o0 o1 o2) rfl ))) Q.pos (by exact lL [i,L,n,u,d,m] [zb o0 o1,o2,zd o0 o3 o4 o5,zb o0 o1] (zd o0 o3 o4 o5) o2 rfl hn (eL hs)) ((h2.symm.mir Q.mir).eqv h2) h2.symm fun v g1 g2 g3=>h3 (u+v) (by exact lL [v,u] [vk,o0] (ze o1) (zb o1 o0) rfl g1) (by exact lL [v,d,i,u,i+u+d - i] [ze o0,o1,zc o2 o3 o1,zb o4 o2] (ze (zb o3 o0)) o4 rfl g2 (bN _ _)) (by rw[← Nat.add_assoc]; exact h2.trans g3))
  exact lF [u,i+u+d - i,d,m,i] [ze o0,o1,zb o2 o3,o3,zb o1 o4,zc o4 o0 o2] rfl h1 this (bE (lL [i,u,d] [] o0 (zc o0 o1 o2) rfl ))
theorem L4{i L s i' L' s':Nat}(R:BP w n)(hn:i+L≤n)(hn':i'+L'≤n)(P:BJ w i L l)(Q:zB w i s m)(hs:s+m=i+L)(P':BJ w i' L' l)(Q':zB w i' s' m)(hs':s'+m=i'+L')(ep:d8 w i i' l)(eq:d8 w s s' m)(hii:i≤i'):L=L'∧d8 w i i' L:=by
 have A:=RX R hn P Q hs
 have B:=RX R hn' P' Q' hs'
 have hi:=Q.le
 have hi':=Q'.le
 by_cases same:l=m∧d8 w i s l
 ·obtain⟨rfl,e⟩:=same
  have z:∀{j r:Nat},Sg w j l r l j (r - j)→d8 w j r l→j≤r→r=j:=fun{j r}S e h=>Nat.le_antisymm (Nat.le_of_not_lt fun h'=>S.po (r - j) (by exact lL [j,r,r - j] [ze o0,o1,o1,zb o2 o0] vk o2 rfl h' (bN _ _)) (by exact lL [r - j,l] [] (zb o0 o1) (zb o0 o1) rfl ) (by rwa[Nat.add_sub_cancel' h])) h
  have e1:=z A e hi
  have e2:=z B (ep.symm.trans (e.trans eq)) hi'
  have:L=l:=by exact nA (lL [i,L,s,l] [zb o0 o1,zb o2 o3,o2,o0] o1 o3 rfl (eR hs) (eL e1)) (lL [i,s,l,L] [o0,o1,zb o1 o2,zb o0 o3] o2 o3 rfl hi (eL hs))
  have:L'=l:=by exact nA (lL [i',L',s',l] [zb o0 o1,zb o2 o3,o2,o0] o1 o3 rfl (eR hs') (eL e2)) (lL [i',s',l,L'] [o0,o1,zb o1 o2,zb o0 o3] o2 o3 rfl hi' (eL hs'))
  subst L L'
  exact⟨rfl,ep⟩
 have B:Sg w i l s m (i+(i' - i)) (s' - i'):=by
  rw[Nat.add_sub_cancel' hii]
  exact⟨ep.trans B.p,eq.trans B.q,B.le,fun x h0 hx h=>B.po x h0 hx (ep.symm.trans h),fun x hx h=>B.qo x hx (eq.symm.trans h)⟩
 have pl:=P.le
 have g:=UN R P.pos Q.pos P.mir Q.mir (fun t o h1 h2 h3=>by
  have h4:d8 w i (i+(s - i+o)) l:=by
   rw[← Nat.add_assoc,Nat.add_sub_cancel' hi]
   exact h3.trans ((h1.sub o h2).symm)
  have h5:s - i+o=0:=Nat.eq_zero_of_not_pos fun h=>A.po _ h (by exact lL [o,l,m,s - i] [zb o0 o1,o2] (zc o3 o0 o1) (zb o3 o2) rfl h2) h4
  have h6:s=i:=by exact nA (lL [s - i,o,s,i] [zb o0 o1,.num 0,o2,zb o0 o3] o2 o3 rfl (eL h5) (bN _ _)) (lL [i,s] [o0,o1] o0 o1 rfl hi)
  subst h6
  have h7:=Q.mir.sub (x:=0) (m:=l) (y:=m - l) (by exact nA (lL [m - l,l,m] [zb o0 o1,o2] (zc (.num 0) o1 o0) o2 rfl (bE (lL [o,l,m] [zb o0 o1,o2] o1 o2 rfl h2))) (lL [m,m - l,l] [o0,zb o1 o2] o0 (zc (.num 0) o2 o1) rfl (bN _ _)))
  have h8:m - l=0:=Nat.eq_zero_of_not_pos fun h=>A.po _ h (by exact lL [m - l,l,m,s - s] [zb o0 o1,o2] (zb o0 o1) (zb o3 o2) rfl (bE (lL [o,l,m] [zb o0 o1,o2] o1 o2 rfl h2))) (P.mir.mir h7)
  exact same ⟨by exact nA (lL [o,l,m] [zb o0 o1,o2] o1 o2 rfl h2) (lL [m - l,m,l] [o0,.num 0,o1,zb o0 o2] o1 o2 rfl (eL h8) (bN _ _)),d8.refl _ _⟩) (fun t o h1 h2 h3=>by
  have h4:d8 w s (i+o) m:=h3.trans ((h1.sub o h2).symm)
  have h5:s - i≤o:=Nat.le_of_not_lt fun h=>A.qo o h h4
  have h6:l=s - i+m:=by exact nA (lL [i,L,s,m,l,s - i] [zb o0 o1,zb o2 o3,o4,o1,o2,zb o5 o0] o4 (zb o5 o3) rfl (eR hs) pl (bN _ _)) (lL [o,m,l,s - i] [zb o0 o1,o2,o3,o0] (zb o3 o1) o2 rfl h2 h5)
  have h7:=P.mir.sub (x:=s - i) (m:=m) (y:=0) (by exact nA (lL [s - i,m,l] [zb o0 o1,o2] (zc o0 o1 (.num 0)) o2 rfl (eR h6)) (lL [l,s - i,m] [o0,zb o1 o2] o0 (zc o1 o2 (.num 0)) rfl (eL h6)))
  rw[Nat.add_sub_cancel' hi]at h7
  have h8:s - i=0:=Nat.eq_zero_of_not_pos fun h=>A.qo 0 h (Q.mir.mir h7)
  have h9:s=i:=by exact nA (lL [s - i,s,i] [o0,.num 0,o1,zb o0 o2] o1 o2 rfl (eL h8) (bN _ _)) (lL [i,s] [o0,o1] o0 o1 rfl hi)
  subst h9
  exact same ⟨by exact nA (lL [l,s - s,m] [o0,zb o1 o2,o1,.num 0] o0 o2 rfl (eL h6) (eL h8)) (lL [o,m,l] [zb o0 o1,o2] o1 o2 rfl h2),d8.refl _ _⟩) (i' - i) i (s - i) (s' - i') A B (by exact lL [i',L',n,s',m,i' - i,i,s' - i'] [zb o0 o1,o2,zb o3 o4,zb o0 o1,zb o5 o6,o0,zb o7 o0,o3] (zd o6 o5 o7 o4) o2 rfl hn' (eL hs') (bE (lL [i,i'] [o0,o1] o0 o1 rfl hii)) (bE (lL [i',s'] [o0,o1] o0 o1 rfl hi')))
 rw[Nat.add_sub_cancel' hii]at g
 exact⟨by exact nA (lL [i,L,s,m,s',i',L',s - i,s' - i'] [zb o0 o1,zb o2 o3,zb o4 o3,zb o5 o6,o7,o8,o2,zb o7 o0,zb o8 o5,o4] o1 o6 rfl (eR hs) (eL hs') (eL g.1) (bN _ _) (bE (lL [i',s'] [o0,o1] o0 o1 rfl hi'))) (lL [s,m,i,L,i',L',s',s' - i',s - i] [zb o0 o1,zb o2 o3,zb o4 o5,zb o6 o1,o7,o8,o6,zb o7 o4,zb o8 o2,o0] o5 o3 rfl (eL hs) (eR hs') (eR g.1) (bN _ _) (bE (lL [i,s] [o0,o1] o0 o1 rfl hi))),by rw[show L=s - i+m by exact nA (lL [i,L,s,m,s - i] [zb o0 o1,zb o2 o3,o2,zb o4 o0] o1 (zb o4 o3) rfl (eR hs) (bN _ _)) (lL [s,m,i,L,s - i] [zb o0 o1,zb o2 o3,zb o4 o2,o0] (zb o4 o1) o3 rfl (eL hs) (bE (lL [i,s] [o0,o1] o0 o1 rfl hi)))]; exact g.2⟩
theorem QD{i d:Nat}(hl:0<l)(hm:iW w i i l)(hq:d8 w i (i+d) l)(hu:∀ u,0<u→u<d→¬d8 w i (i+u) l)(hr:¬iW w i i (d+l)):BJ w i (d+l) l∧zB w i (i+d) l∧BJ w i l l∧zB w i i l:=by
 refine⟨⟨hl,Nat.le_add_left _ _,hm,fun l' h1 h2=>Nat.le_of_not_lt fun h=>?_⟩,⟨Nat.le_add_right _ _,hl,(hq.symm.mir hm).eqv hq,fun s' l' h0 h1 h2=>Nat.le_of_not_lt fun h=>?_⟩,⟨hl,Nat.le_refl _,hm,fun _ h _=>h⟩,⟨Nat.le_refl _,hl,hm,fun s' l' h0 h1 _=>by exact lL [i,s',l',l] [o0,o1,zb o1 o2,zb o0 o3] o2 o3 rfl h0 (eL h1)⟩⟩
 ·have g:=h2.sub (x:=0) (m:=l) (y:=l' - l) (by exact nA (lL [l' - l,l,l'] [zb o0 o1,o2] (zc (.num 0) o1 o0) o2 rfl (bE (lL [l,l'] [ze o0,o1] o0 o1 rfl h))) (lL [l',l' - l,l] [o0,zb o1 o2] o0 (zc (.num 0) o2 o1) rfl (bN _ _)))
  rcases Nat.lt_or_ge (l' - l) d with h3 | h3
  ·exact hu _ (by exact lL [l,l',l' - l] [ze o0,o1,o1,zb o2 o0] vk o2 rfl h (bN _ _)) h3 (hm.mir g)
  ·exact hr (by rwa[show d+l=l' by exact nA (lL [d,l' - l,l,l'] [o0,o1,zb o1 o2,o3] (zb o0 o2) o3 rfl h3 (bE (lL [l,l'] [ze o0,o1] o0 o1 rfl h))) (lL [l',d,l] [o0,zb o1 o2] o0 (zb o1 o2) rfl h1)])
 ·obtain⟨u,rfl⟩:∃ u,s'=i+u:=⟨s' - i,by exact nA (lL [s',s' - i,i] [o0,zb o1 o2] o0 (zb o2 o1) rfl (bN _ _)) (lL [s' - i,i,s'] [zb o0 o1,o2] (zb o1 o0) o2 rfl (bE (lL [i,s'] [o0,o1] o0 o1 rfl h0)))⟩
  have g:=h2.sub (x:=0) (m:=l) (y:=l' - l) (by exact nA (lL [l' - l,l,l'] [zb o0 o1,o2] (zc (.num 0) o1 o0) o2 rfl (bE (lL [l,l'] [ze o0,o1] o0 o1 rfl h))) (lL [l',l' - l,l] [o0,zb o1 o2] o0 (zc (.num 0) o2 o1) rfl (bN _ _)))
  rw[show i+u+(l' - l)=i+d by exact nA (lL [i,u,l',d,l,l' - l] [zc o0 o1 o2,zc o0 o3 o4,zb o5 o4,o2] (zc o0 o1 o5) (zb o0 o3) rfl (eL h1) (bE (lL [l,l'] [ze o0,o1] o0 o1 rfl h))) (lL [i,d,l,u,l',l' - l] [zc o0 o1 o2,zc o0 o3 o4,o4,zb o5 o2] (zb o0 o1) (zc o0 o3 o5) rfl (eR h1) (bN _ _))]at g
  rcases Nat.eq_zero_or_pos u with rfl | h3
  ·exact hr (by rwa[show d+l=l' by exact nA (lL [i,d,l,l'] [zc o0 o1 o2,zc o0 (.num 0) o3] (zb o1 o2) o3 rfl (eR h1)) (lL [i,l',d,l] [zc o0 (.num 0) o1,zc o0 o2 o3] o1 (zb o2 o3) rfl (eL h1))])
  ·exact hu u h3 (by exact lL [l,l',i,u,d] [ze o0,o1,zc o2 o3 o1,zc o2 o4 o0] (ze o3) o4 rfl h (eL h1)) ((hm.eqv hq).mir g.symm)
end
end Kt.Internal
end
section
open PySem PySem.W PyProof.Rows
namespace Kt.Internal
theorem JY(x:Nat):(qw x).reverse=qw x:=by
 unfold qw
 cases fT x with
 | true=>rfl
 | false=>cases x==39 <;> rfl
theorem QL(x:Nat)(r:List Nat):∀ y,mA (y::(r++[x]))=mA (y::r)++32::qw x:=by
 induction r with
 | nil=>exact fun _=>rfl
 | cons z r ih=>exact fun y=>(congrArg (fun l=>qw y++32::l) (ih z)).trans (List.append_assoc (qw y) (32::mA (z::r)) (32::qw x)).symm
theorem KA(u:List Nat):(mA u).reverse=mA u.reverse:=by
 induction u with
 | nil=>rfl
 | cons x u ih =>
  cases u with
  | nil=>exact JY x
  | cons y r =>
   have e:(mA (x::y::r)).reverse=(mA (y::r)).reverse++32::qw x:=by
    show(qw x++32::mA (y::r)).reverse=_
    rw[List.reverse_append,JY,List.reverse_cons,List.append_assoc]; rfl
   rw[e,ih,List.reverse_cons (a:=x)]
   obtain⟨z,t,h⟩:=List.exists_cons_of_ne_nil (show(y::r).reverse≠[]from fun h=>nomatch List.reverse_eq_nil_iff.mp h)
   rw[h]
   exact(QL x t z).symm
theorem T0{u v:List Nat}(h:u.map wD=v.map wD):u=v:=by
 have e:=gW u v
 rw[show aD u=aD v from congrArg PyData.list h,gW,beq_self_eq_true]at e
 exact eq_of_beq e.symm
theorem V3{u v:List Nat}(hu:∀ c∈u,oZ c=true)(hv:∀ c∈v,oZ c=true)(hu0:u≠[])(hv0:v≠[])(lu:u.length≤900)(lv:v.length≤900)(h:mA u=mA v):u=v:=by
 have e1:=pT hu hu0 lu
 have e2:=pT hv hv0 lv
 rw[nZ,h]at e1
 rw[nZ]at e2
 exact T0 (PyData.list.inj (Option.some.inj (e1.symm.trans e2)))
theorem JW{u:List Nat}(h:u≠[]):u.reverse≠[]:=fun e=>h (List.reverse_eq_nil_iff.mp e)
noncomputable def dN(u:List Nat):Bool:=u==u.reverse
theorem V1{u:List Nat}(hu:∀ c∈u,oZ c=true)(hu0:u≠[])(lu:u.length≤900):(mA u==(mA u).reverse)=dN u:=by
 rw[KA,Bool.eq_iff_iff]
 unfold dN
 rw[beq_iff_eq,beq_iff_eq]
 exact⟨V3 hu (fun c h=>hu c (List.mem_reverse.mp h)) hu0 (JW hu0) lu (by rwa[List.length_reverse]),congrArg mA⟩
theorem CG{body:eV→Option Fl}{bind:PyData→eV→Option eV}{α:Type}{g:α→PyData}{I:List α→eV→Prop}{as:List α}{n:Nat}(step:∀ done a σ,a∈as→done.length<n→I done σ→∃ σ₁ σ₂,bind (g a) σ=some σ₁∧body σ₁=some (.next σ₂)∧I (done++[a]) σ₂) :
  ∀{done σ},done.length+as.length≤n→I done σ→∃ σ',fX body bind (as.map g) σ=some (.next σ')∧I (done++as) σ':=by
 induction as with
 | nil=>exact fun{done σ}_ h=>⟨σ,rfl,(List.append_nil done).symm▸h⟩
 | cons a as ih =>
  intro done σ hn h
  obtain⟨σ₁,σ₂,h1,h2,h3⟩:=step done a σ List.mem_cons_self (Nat.lt_of_lt_of_le (Nat.lt_add_of_pos_right (Nat.succ_pos _)) hn) h
  obtain⟨σ',g1,g2⟩:=ih (fun d b τ hb=>step d b τ (List.mem_cons_of_mem _ hb)) (by rw[List.length_append]; exact Nat.le_trans (Nat.le_of_eq (Nat.add_right_comm _ 1 _)) hn) h3
  exact⟨σ',(FM h1 h2).trans g1,by rwa[List.append_assoc]at g2⟩
section
variable{cl:Nat→List PyData→Option PyData}{ρ:aW}{a b:PE}{F:Nat}
theorem tE{p q:Nat}(h1:aH cl a ρ=some (.int (p:Int)))(h2:aH cl b ρ=some (.int (q:Int)))(hp:p≤1000000)(hq:q≤1000000):zA cl (.range2 a b) ρ=some ((List.range (q - p)).map fun(k:Nat)=>PyData.int ((p+k:Nat):Int)):=by
 have ok:∀{q:Nat},q≤1000000→rC (q:Int)=true:=fun hq=>Bool.and_eq_true_iff.mpr ⟨decide_eq_true (Int.natCast_nonneg _),decide_eq_true (Int.le_trans (Int.ofNat_le.mpr hq) (by decide))⟩
 refine(congrArg (Option.bind · _) h1).trans ((congrArg (Option.bind · _) h2).trans ((if_pos (Bool.and_eq_true_iff.mpr ⟨ok hp,ok hq⟩)).trans (congrArg some ?_)))
 unfold WX
 rw[rangeSize_nat,Int.toNat_natCast,show((q:Int) - (p:Int)).toNat=q - p from Int.toNat_sub q p]
 exact congrArg (List.map · _) (funext fun k=>by rw[Int.mul_one,Int.natCast_add])
theorem FR{l:List Nat}(h:aH cl a ρ=some (sD l)):aH cl (.rev a) ρ=some (sD l.reverse):=(congrArg (Option.bind · _) h).trans (by show some (PyData.str ⟨(l.toArray.toList.reverse).toArray⟩)=_; rw[List.toList_toArray])
theorem FS{l:List Nat}(h:aH cl a ρ=some (aD l)):aH cl (.rev a) ρ=some (aD l.reverse):=(congrArg (Option.bind · _) h).trans (congrArg (fun l=>some (PyData.list l)) List.map_reverse.symm)
noncomputable def NT(p:Nat×Nat):PyData:=.list [.int (p.1:Int),.int (p.2:Int)]
noncomputable abbrev dD(l:List (Nat×Nat)):PyData:=.list (l.map NT)
theorem DZ{i j:Nat}(h1:aH cl a ρ=some (.int (i:Int)))(h2:aH cl b ρ=some (.int (j:Int))):aH cl (.list (.cons a (.cons b .nil))) ρ=some (NT (i,j)):=congrArg (Option.map _) (GA h1 h2)
noncomputable def dE(w:List Nat)(i l:Nat):List Nat:=(List.range l).map fun k=>w.getD (i+k) 0
theorem bJ{w:List Nat}{i l:Nat}:(dE w i l).length=l:=(List.length_map ..).trans List.length_range
theorem kS{w:List Nat}{i l k:Nat}(h:k<l):(dE w i l).getD k 0=w.getD (i+k) 0:=by
 unfold dE
 rw[List.getD_eq_getElem?_getD,List.getElem?_map,List.getElem?_range h]; rfl
theorem CJ{u v:List Nat}(hl:u.length=v.length)(h:∀ k,k<u.length→u.getD k 0=v.getD k 0):u=v :=
 List.ext_getElem hl fun k h1 h2=>by
  have:=h k h1
  rwa[List.getD_eq_getElem?_getD,List.getD_eq_getElem?_getD,List.getElem?_eq_getElem h1,List.getElem?_eq_getElem h2]at this
theorem yB{w:List Nat}{i l:Nat}(h:i+l≤w.length):(w.drop i).take l=dE w i l:=by
 have e:((w.drop i).take l).length=l:=by
  rw[List.length_take,List.length_drop]
  exact Nat.min_eq_left (Nat.le_sub_of_add_le (by rwa[Nat.add_comm]))
 refine CJ (e.trans bJ.symm) fun k hk=>?_
 rw[e]at hk
 rw[kS hk,List.getD_eq_getElem?_getD,List.getD_eq_getElem?_getD,List.getElem?_take_of_lt hk,List.getElem?_drop]
noncomputable def uY(w:List Nat)(i:Nat)(ks:List Nat):List (Nat×Nat):=(ks.filter fun k=>dN (dE w i (k+1))).map fun k=>(i,i+1+k)
noncomputable def NP(w:List Nat)(is:List Nat):List (Nat×Nat):=is.flatMap fun i=>uY w i (List.range (w.length - i))
theorem EF(w:List Nat)(i:Nat)(ks:List Nat):(uY w i ks).length≤ks.length:=by unfold uY; rw[List.length_map]; exact List.length_filter_le _ _
theorem CI{w:List Nat}(hw:∀ c∈w,oZ c=true){i l:Nat}(h:i+l≤w.length):∀ c∈dE w i l,oZ c=true:=fun c hc=>hw c (List.mem_of_mem_drop (List.mem_of_mem_take (yB h▸hc)))
theorem rU{lo hi:PE}{w:List Nat}{p q k:Nat}(h:p+k≤w.length)(h1:aH cl a ρ=some (aD w))(h2:aH cl lo ρ=some (.int (p:Int)))(h3:aH cl hi ρ=some (.int (q:Int)))(e:q=p+k)(hq:q≤1000000):aH cl (.slc a (.yes lo) (.yes hi)) ρ=some (aD (dE w p k)):=yB h▸QY h1 h2 h3 e hq
theorem LI{w:List Nat}{i:Nat}{S:List (Nat×Nat)}{j v:Option PyData}(hw:∀ c∈w,oZ c=true)(hl:w.length≤20)(hi:i<w.length)(hS:S.length≤900)(hj:∀ u:List Nat,(∀ c∈u,oZ c=true)→u.length≤900→cl 7 [aD u]=some (sD (mA u))) :
  ∃ j' v',vJ cl F (.for_ (.one 3) JA JI) ⟨[some (aD w),some (dD S),some (.int (i:Int)),j,v],[1]⟩=some (.next ⟨[some (aD w),some (dD (S++uY w i (List.range (w.length - i)))),some (.int (i:Int)),j',v'],[1]⟩):=by
 have hr:zA cl JA [some (aD w),some (dD S),some (.int (i:Int)),j,v]=some ((List.range (w.length - i)).map fun(k:Nat)=>PyData.int ((i+1+k:Nat):Int)):=by
  have:=tE (cl:=cl) (ρ:=[some (aD w),some (dD S),some (.int (i:Int)),j,v]) (a:=.bin .Add (.var 2) (.lit (.int 1))) (b:=.bin .Add (.bi .len (.cons (.var 0) .nil)) (.lit (.int 1))) (p:=i+1) (q:=w.length+1) (dR (p:=i) (q:=1) rfl rfl) ((dR (q:=1) (tF (l:=w.map wD) rfl) rfl).trans (by rw[List.length_map])) (Nat.le_trans (Nat.succ_le_of_lt hi) (Nat.le_trans hl (by decide))) (Nat.le_trans (Nat.succ_le_succ hl) (by decide))
  rwa[Nat.add_sub_add_right]at this
 obtain⟨σ,h,j',v',rfl⟩:=CG (body:=dO cl F JI) (bind:=fun d τ=>(iC (.one 3) d τ.env).map fun ρ=>{ env:=ρ,own:=lose τ.own (b0 (.one 3)) }) (g:=fun k:Nat=>PyData.int ((i+1+k:Nat):Int)) (as:=List.range (w.length - i)) (n:=20)
  (I:=fun ks σ=>∃ j v,σ=⟨[some (aD w),some (dD (S++uY w i ks)),some (.int (i:Int)),j,v],[1]⟩) (fun done k σ hk hdn hI=>by
   obtain⟨j,v,rfl⟩:=hI
   have hk:=List.mem_range.mp hk
   have hik:i+(k+1)≤w.length:=by exact lL [k,w.length - i,i,w.length] [ze o0,o1,zb o1 o2,o3] (zb o2 (ze o0)) o3 rfl hk (bE (lL [i,w.length] [ze o0,o1] o0 o1 rfl hi))
   have hu:(dE w i (k+1)).length≤900:=by rw[bJ]; exact Nat.le_trans (Nat.le_trans (Nat.le_add_left _ _) hik) (Nat.le_trans hl (by decide))
   have h0:dE w i (k+1)≠[]:=fun e=>nomatch (bJ (w:=w) (i:=i) (l:=k+1)).symm.trans (congrArg List.length e)
   refine⟨⟨[some (aD w),some (dD (S++uY w i done)),some (.int (i:Int)),some (.int ((i+1+k:Nat):Int)),v],[1]⟩,⟨[some (aD w),some (dD (S++uY w i (done++[k]))),some (.int (i:Int)),some (.int ((i+1+k:Nat):Int)),some (sD (mA (dE w i (k+1))))],[1]⟩,rfl,?_,_,_,rfl⟩
   have e1:aH cl (.call 7 (.cons (.slc (.var 0) (.yes (.var 2)) (.yes (.var 3))) .nil)) [some (aD w),some (dD (S++uY w i done)),some (.int (i:Int)),some (.int ((i+1+k:Nat):Int)),v]=some (sD (mA (dE w i (k+1)))) :=
    eE (rU (w:=w) (p:=i) (q:=i+1+k) (k:=k+1) hik rfl rfl rfl (by exact nA (lL [i,k] [] (zb (ze o0) o1) (zb o0 (ze o1)) rfl ) (lL [i,k] [] (zb o0 (ze o1)) (zb (ze o0) o1) rfl )) (Nat.le_trans (show i+1+k≤20 by exact lL [w.length,i,k] [o0,.num 20,zb o1 (ze o2),o0] (zb (ze o1) o2) (.num 20) rfl hl hik) (by decide))) (hj _ (CI hw hik) hu)
   refine(aZ (dX (F:=F) (σ:=⟨[some (aD w),some (dD (S++uY w i done)),some (.int (i:Int)),some (.int ((i+1+k:Nat):Int)),v],[1]⟩) e1)).trans (kO ?_)
   have e2:aH cl (.cmp .Eq (.var 4) (.rev (.var 4))) [some (aD w),some (dD (S++uY w i done)),some (.int (i:Int)),some (.int ((i+1+k:Nat):Int)),some (sD (mA (dE w i (k+1))))]=some (.bool (dN (dE w i (k+1)))) :=
    (tG rfl (FR rfl)).trans (by rw[V1 (CI hw hik) h0 hu])
   refine(IN (F:=F) (σ:=⟨[some (aD w),some (dD (S++uY w i done)),some (.int (i:Int)),some (.int ((i+1+k:Nat):Int)),some (sD (mA (dE w i (k+1))))],[1]⟩) e2 rfl).trans ?_
   have hs:uY w i (done++[k])=uY w i done++bif dN (dE w i (k+1))then [(i,i+1+k)]else []:=by
    unfold uY
    rw[List.filter_append,List.map_append]
    rw[List.filter_cons,List.filter_nil]
    cases dN (dE w i (k+1)) <;> rfl
   rw[hs]
   cases dN (dE w i (k+1))with
   | false=>rw[cond_false,List.append_nil]; rfl
   | true =>
    have hlen:(S++uY w i done).length+1≤1000000:=by rw[List.length_append]; exact Nat.le_trans (Nat.add_le_add_right (Nat.add_le_add hS (EF w i done)) 1) (Nat.le_trans (Nat.add_le_add_right (Nat.add_le_add_left (Nat.le_of_lt hdn) 900) 1) (by decide))
    rw[if_pos rfl]
    refine kO ((JO (xs:=(S++uY w i done).map NT) (d:=NT (i,i+1+k)) rfl rfl (DZ rfl rfl) rfl (by rwa[List.length_map])).trans ?_)
    rw[cond_true,← List.append_assoc,dD,dD,List.map_append (l₁:=S++uY w i done)]
    rfl) (done:=[]) (σ:=⟨[some (aD w),some (dD S),some (.int (i:Int)),j,v],[1]⟩) (by rw[List.length_nil,Nat.zero_add,List.length_range]; exact Nat.le_trans (Nat.sub_le _ _) hl) ⟨j,v,by rw[show uY w i []=[]from rfl,List.append_nil]⟩
 exact⟨j',v',(xH (F:=F) (t:=.one 3) (σ:=⟨[some (aD w),some (dD S),some (.int (i:Int)),j,v],[1]⟩) hr).trans h⟩
end
noncomputable def RJ(c:Nat):Bool:=c==91||(!fK c&&kK c)
noncomputable def RF(i b:Bool)(c:Nat):List Nat:=(bif i then [91]else [])++((bif b then [92]else [])++c::(bif i then [93]else []))
noncomputable def RH(i b:Bool)(c:Nat):Nat:=bif i then 91 else bif b then 92 else c
noncomputable def TN(c:Nat):Bool:=pl c==RF (fK c) (RJ c) c&&(!Txt.contains "()*+?{|^$." ⟨#[RH (fK c) (RJ c) c]⟩&&(((RH (fK c) (RJ c) c==91)==fK c)&&(((bif RJ c then 92 else c)==92)==RJ c&&(Txt.contains "*?[" ⟨#[c]⟩==fK c))))
theorem IT{c:Nat}(h:i4 c=true):TN c=true:=by
 rcases Bool.or_eq_true_iff.mp h with h | h
 ·exact List.all_eq_true.mp (show([97,39,91,32,34,42,92,93,63,35,45,98,33]:List Nat).all TN=true by kernel_rfl) c (List.contains_iff_mem.mp h)
 ·obtain⟨k,rfl⟩:=Nat.exists_eq_add_of_le (of_decide_eq_true h)
  rw[Nat.add_comm]
  have e:pl (k+256)=[k+256]:=by kernel_rfl
  have e2:RF (fK (k+256)) (RJ (k+256)) (k+256)=[k+256]:=by kernel_rfl
  have e3:RH (fK (k+256)) (RJ (k+256)) (k+256)=k+256:=by kernel_rfl
  unfold TN
  rw[e,e2,e3,beq_self_eq_true,Bool.true_and]
  kernel_rfl
theorem EW(a b:Nat):([a]==[b])=(a==b):=by
 by_cases h:a=b
 ·rw[h,beq_self_eq_true,beq_self_eq_true]
 ·rw[beq_false_of_ne h,beq_false_of_ne fun e=>h (List.cons.inj e).1]
section
variable{cl:Nat→List PyData→Option PyData}{F:Nat}{T A B t X Y:List Nat}{c k:Nat}{i b:Bool}{v:Option PyData}
noncomputable abbrev tS(T t:List Nat)(k:Nat)(i:Option PyData):eV:=⟨[some (sD T),some (sD t),some (.int (k:Int)),i],[]⟩
theorem xX(l:List Nat)(q:Nat):(X++l)[X.length+q]? = l[q]?:=by rw[List.getElem?_append_right (Nat.le_add_right _ _),Nat.add_sub_cancel_left]
theorem KC(b:Bool):(bif b then 1 else 0)≤1:=by cases b <;> exact Nat.le_of_ble_eq_true rfl
theorem GJ(hT:T=X++(RF i b c++Y))(o1:Txt.contains "()*+?{|^$." ⟨#[RH i b c]⟩=false)(o2:(RH i b c==91)=i)(o3:((bif b then 92 else c)==92)=b)(hl:T.length≤10000)(ht:t.length≤10000) :
  dO cl F D3 (tS T t X.length v)=some (.next (tS T (t++[c]) (X.length+(RF i b c).length) (some (.bool i)))):=by
 have hk:X.length≤10000:=by rw[hT,List.length_append]at hl; exact Nat.le_trans (Nat.le_add_right _ _) hl
 have h1:X.length+(bif i then 1 else 0)≤10001:=Nat.add_le_add hk (KC i)
 have h2:X.length+(bif i then 1 else 0)+(bif b then 1 else 0)≤10002:=Nat.add_le_add h1 (KC b)
 have g0:T[X.length]? = some (RH i b c):=by rw[hT,show X.length=X.length+0 from rfl,xX]; cases i <;> cases b <;> rfl
 have g1:T[X.length+(bif i then 1 else 0)]? = some (bif b then 92 else c):=by rw[hT,xX]; cases i <;> cases b <;> rfl
 have g2:T[X.length+(bif i then 1 else 0)+(bif b then 1 else 0)]? = some c:=by rw[hT,Nat.add_assoc,xX]; cases i <;> cases b <;> rfl
 have g3:i=true→T[X.length+(bif i then 1 else 0)+(bif b then 1 else 0)+1]? = some 93:=fun hi=>by rw[hT,Nat.add_assoc,Nat.add_assoc,xX,hi]; cases b <;> rfl
 have e1:=tG (cl:=cl) (ρ:=(tS T t X.length v).env) (a:=.idx (.var 0) (.var 2)) (b:=.lit (.str ("[" : Str))) (x:=[RH i b c]) (y:=[91]) (lU (l:=T) rfl rfl (Nat.le_trans hk (by decide)) g0) rfl
 rw[EW,o2]at e1
 have e2:=KO (cl:=cl) (ρ:=(tS T t X.length (some (.bool i))).env) (a:=.idx (.var 0) (.var 2)) (b:=.lit (.str ("()*+?{|^$." : Str))) (x:=("()*+?{|^$." : Str).cps.toList) (y:=[RH i b c]) (t:=false) (lU (l:=T) rfl rfl (Nat.le_trans hk (by decide)) g0) rfl o1
 have s3:=yA (cl:=cl) (F:=F) (x:=2) (e:=.ite (.var 3) (.lit (.int 1)) (.lit (.int 0))) (σ:=tS T t X.length (some (.bool i))) (p:=X.length) rfl (yP (c:=.var 3) (p:=1) (q:=0) rfl)
 have e4:=tG (cl:=cl) (ρ:=(tS T t (X.length+(bif i then 1 else 0)) (some (.bool i))).env) (a:=.idx (.var 0) (.var 2)) (b:=.lit (.str ("\\" : Str))) (x:=[bif b then 92 else c]) (y:=[92]) (lU (l:=T) rfl rfl (Nat.le_trans h1 (by decide)) g1) rfl
 rw[EW,o3]at e4
 have s4:=yA (cl:=cl) (F:=F) (x:=2) (σ:=tS T t (X.length+(bif i then 1 else 0)) (some (.bool i))) (p:=X.length+(bif i then 1 else 0)) rfl (yP (p:=1) (q:=0) e4)
 have x2:aH cl (.idx (.var 0) (.var 2)) (tS T t (X.length+(bif i then 1 else 0)+(bif b then 1 else 0)) (some (.bool i))).env=some (sD [c]):=lU (l:=T) rfl rfl (Nat.le_trans h2 (by decide)) g2
 have s5:=OG (cl:=cl) (F:=F) (x:=1) (σ:=tS T t (X.length+(bif i then 1 else 0)+(bif b then 1 else 0)) (some (.bool i))) (p:=t) rfl x2 (Nat.le_trans (Nat.add_le_add_right ht 1) (by decide))
 have e6:=WI (cl:=cl) (ρ:=(tS T (t++[c]) (X.length+(bif i then 1 else 0)+(bif b then 1 else 0)) (some (.bool i))).env) (a:=.var 3) (b:=.cmp .NotEq (.idx (.var 0) (.bin .Add (.var 2) (.lit (.int 1)))) (.lit (.str ("]" : Str)))) (x:=i) (y:=.bool false) rfl fun hi =>
  KM (x:=[93]) (y:=[93]) (lU (l:=T) (p:=X.length+(bif i then 1 else 0)+(bif b then 1 else 0)+1) rfl (dR (b:=.lit (.int 1)) (q:=1) rfl rfl) (Nat.le_trans (Nat.succ_le_succ h2) (by decide)) (g3 hi)) rfl
 have e6':=e6.trans (show _=some (PyData.bool false) by cases i <;> rfl)
 have s7:=yA (cl:=cl) (F:=F) (x:=2) (σ:=tS T (t++[c]) (X.length+(bif i then 1 else 0)+(bif b then 1 else 0)) (some (.bool i))) (p:=X.length+(bif i then 1 else 0)+(bif b then 1 else 0)) rfl (yP (c:=.var 3) (p:=2) (q:=1) rfl)
 have hlen:X.length+(bif i then 1 else 0)+(bif b then 1 else 0)+(bif i then 2 else 1)=X.length+(RF i b c).length:=by rw[Nat.add_assoc,Nat.add_assoc]; cases i <;> cases b <;> rfl
 rw[hlen]at s7
 exact(aZ (dX e1)).trans ((aZ (sE e2 rfl)).trans ((aZ s3).trans ((aZ s4).trans ((aZ s5).trans ((aZ (sE e6' rfl)).trans (kO s7))))))
end
theorem U7{i b:Bool}{c:Nat}{p:Nat→Bool}(h1:p 91=true)(h2:p 92=true)(h3:p 93=true)(h:p c=true):(RF i b c).all p=true:=by
 have e:(RF i b c).all p=((bif i then [91]else []).all p&&((bif b then [92]else []).all p&&(p c&&(bif i then [93]else []).all p))):=by unfold RF; rw[List.all_append,List.all_append]; rfl
 have g:∀(t:Bool){a:Nat},p a=true→(bif t then [a]else []).all p=true:=fun t a ha=>by
  cases t with
  | false=>rfl
  | true=>exact(Bool.and_true _).trans ha
 rw[e,h,g i h1,g b h2,g i h3]; rfl
theorem U6{c:Nat}(h:oZ c=true):(pl c).all (fun c=>decide (c<0x110000))=true:=by
 rw[eq_of_beq (aA (IT (mX h).1)).1]
 exact U7 rfl rfl rfl (decide_eq_true (mX h).2)
theorem O8{cs:List Nat}(h:∀ c∈cs,oZ c=true):(cs.map pl).flatten.all (fun c=>decide (c<0x110000))=true:=by
 rw[List.all_flatten,List.all_map]
 exact List.all_eq_true.mpr fun c hc=>U6 (h c hc)
theorem YG{l:List Nat}(h:l.all (fun c=>decide (c<0x110000))=true)(hl:l.length≤5000):bK (NQ l)=true:=by
 refine E2 ?_ ?_
 ·rw[List.all_append,List.all_append,h]; rfl
 ·rw[List.length_append,List.length_append]; exact Nat.le_trans (Nat.add_le_add_right (Nat.add_le_add_left hl 4) 3) (by decide)
section
variable{cl:Nat→List PyData→Option PyData}{F:Nat}{T A B P:List Nat}{cs:List Nat}
theorem zS(hB:B.length=6){t:List Nat}{k:Nat}{v:Option PyData}{b:Bool}(hT:T=P++B)(h:decide (k<P.length)=b):(aH cl D2 (tS T t k v).env).bind cO=some b:=by
 have hs:T.length - B.length=P.length:=by rw[hT,List.length_append,Nat.add_sub_cancel]
 have e1:=FQ (cl:=cl) (ρ:=(tS T t k v).env) (FT (a:=.var 0) (l:=T) rfl) (show aH cl (.lit (.int 6)) _=some (.int ((B.length:Nat):Int)) by rw[hB]; rfl) (by rw[hT,List.length_append]; exact Nat.le_add_left _ _)
 rw[hs]at e1
 exact congrArg (Option.bind · cO) (WG (a:=.var 2) (p:=k) rfl e1 h)
theorem GL(hB:B.length=6){m:Nat}(hT:T=P++B)(hl:T.length≤10000):∀{t X:List Nat}{v:Option PyData},(∀ c∈cs,oZ c=true)→P=X++(cs.map pl).flatten→t.length+cs.length≤10000 →
  ∃ v',dJ (fun τ=>(aH cl D2 τ.env).bind cO) (dO cl F D3) (m+1+cs.length) (tS T t X.length v)=some (.next (tS T (t++cs) P.length v')):=by
 induction cs with
 | nil =>
  intro t X v _ hP _
  have hP:=hP.trans (List.append_nil X)
  refine⟨v,?_⟩
  rw[List.append_nil,hP]
  exact JP (n:=m) (zS hB (hT.trans (by rw[hP])) (decide_eq_false (Nat.lt_irrefl _)))
 | cons c cs ih =>
  intro t X v hc hP ht
  obtain⟨o0,o⟩:=aA (IT (mX (hc c List.mem_cons_self)).1)
  obtain⟨o1,o⟩:=aA o
  obtain⟨o2,o⟩:=aA o
  have o3:=(aA o).1
  have o0:=eq_of_beq o0
  have hP2:P=X++(pl c++(cs.map pl).flatten):=hP
  rw[List.length_cons,Nat.add_comm cs.length,← Nat.add_assoc]at ht
  have hlt:X.length<P.length:=by
   rw[hP2,List.length_append,List.length_append,o0]
   exact Nat.lt_add_of_pos_right (Nat.add_pos_left (by cases fK c <;> cases RJ c <;> exact Nat.succ_pos _) _)
  have st:=GJ (cl:=cl) (F:=F) (v:=v) (X:=X) (Y:=(cs.map pl).flatten++B) (hT.trans (by rw[hP2,o0,List.append_assoc,List.append_assoc])) (Bool.not_eq_true' _▸o1) (eq_of_beq o2) (eq_of_beq o3) hl (Nat.le_trans (Nat.le_add_right _ 1) (Nat.le_trans (Nat.le_add_right _ _) ht))
  rw[← o0,← List.length_append]at st
  obtain⟨v',g⟩:=ih (t:=t++[c]) (X:=X++pl c) (v:=some (.bool (fK c))) (fun x hx=>hc x (List.mem_cons_of_mem _ hx)) (hP2.trans (List.append_assoc _ _ _).symm) (by rw[List.length_append]; exact ht)
  exact⟨v',(D8 (n:=m+1+cs.length) (zS hB hT (decide_eq_true hlt)) st).trans (g.trans (by rw[List.append_assoc]; rfl))⟩
end
noncomputable abbrev DR:List Nat:=[40,63,115,58,46,40,63,62,46,42,63]
noncomputable abbrev H1:List Nat:=[41,46,42,41,92,90]
theorem K5{prim:Nat→List PyData→Option PyData}{F l:Nat}{cs:List Nat}(hc:∀ c∈cs,oZ c=true)(hl:cs.length≤900) :
  cG cH prim (F+1001) (l+1) 2 [NQ (zE (cs.map pl).flatten)]=some (sD cs):=by
 have et:NQ (zE (cs.map pl).flatten)=sD (DR++((cs.map pl).flatten++H1)):=by
  show PyData.str ⟨(([40,63,115,58]++([46]++([40,63,62,46,42,63]++(cs.map pl).flatten++[41]++[46,42]))++[41,92,90]:List Nat)).toArray⟩=_
  rw[List.append_assoc,List.append_assoc,List.append_assoc,List.append_assoc,List.append_assoc]; rfl
 rw[et]
 have hp:(cs.map pl).flatten.length≤5000:=by
  have:=BY (cs.map some)
  rw[List.map_map,List.length_map]at this
  exact Nat.le_trans this (Nat.le_trans (Nat.mul_le_mul_left 5 hl) (by decide))
 have hTl:(DR++((cs.map pl).flatten++H1)).length≤10000:=by rw[List.length_append,List.length_append]; exact Nat.le_trans (Nat.add_le_add_left (Nat.add_le_add_right hp 6) 11) (by decide)
 obtain⟨m,hm⟩:∃ m,F+1001=m+1+cs.length:=⟨F+(1000 - cs.length),by rw[Nat.add_right_comm,Nat.add_assoc F,Nat.sub_add_cancel (Nat.le_trans hl (by decide))]⟩
 obtain⟨v,h⟩:=GL (cl:=cG cH prim (F+1001) l) (F:=F+1001) (m:=m) (T:=DR++((cs.map pl).flatten++H1)) (P:=DR++(cs.map pl).flatten) (B:=H1) rfl (t:=[]) (X:=DR) (v:=none) (List.append_assoc _ _ _).symm hTl hc rfl (by rw[List.length_nil,Nat.zero_add]; exact Nat.le_trans hl (by decide))
 rw[← hm]at h
 have ht:(DR++((cs.map pl).flatten++H1)).take 11=DR:=rfl
 have hd:(DR++((cs.map pl).flatten++H1)).drop ((DR++((cs.map pl).flatten++H1)).length - 6)=H1:=by
  rw[← List.append_assoc,List.length_append (bs:=H1),show H1.length=6 from rfl,Nat.add_sub_cancel,List.drop_left]
 generalize hP:(DR++(cs.map pl).flatten).length=k at h
 generalize DR++((cs.map pl).flatten++H1)=T at hTl h ht hd
 have s1:vJ (cG cH prim (F+1001) l) (F+1001) (.assign2 1 2 (.lit (.str ("" : Str))) (.lit (.int 11))) ⟨eI 4 [sD T],[]⟩=some (.next (tS T [] DR.length none)):=D7 rfl rfl
 have v0:aH (cG cH prim (F+1001) l) (.var 0) (tS T ([]++cs) k v).env=some (sD T):=rfl
 have e1:=tG (QW v0 (hi:=.lit (.int 11)) (q:=11) rfl (by decide)) (b:=.lit (.str ("(?s:.(?>.*?" : Str))) (y:=DR) rfl
 have e2:=tG (QX v0 (lo:=.neg (.lit (.int 6))) (p:=6) rfl (by decide) (by decide)) (b:=.lit (.str (").*)\\Z" : Str))) (y:=H1) rfl
 rw[ht,beq_self_eq_true]at e1
 rw[hd,beq_self_eq_true]at e2
 exact mY (pf:=Bo) rfl rfl ((aZ s1).trans ((aZ (show vJ (cG cH prim (F+1001) l) (F+1001) (.while_ D2 D3) (tS T [] DR.length none)=_ from h)).trans (sC (KN (t:=true) (x:=sD cs) (y:=.none) (FV e1 e2) (fun _=>rfl) fun h=>nomatch h))))
section
variable{cl:Nat→List PyData→Option PyData}{ρ:aW}{elt:PE}{i:PI}{c:PO}{x:Nat}
theorem rM{α:Type}{f:PyData→Option (List PyData)}{k:α→PyData}{g:α→List PyData}{as:List α}(h:∀ a∈as,f (k a)=some (g a)):zF f (as.map k)=some (as.flatMap g):=by
 induction as with
 | nil=>rfl
 | cons a as ih=>exact(congrArg (Option.bind · _) (h a (.head _))).trans (congrArg (Option.map _) (ih fun a ha=>h a (.tail _ ha)))
theorem qR{α β:Type}{p:α→Bool}{g:α→β}(as:List α):as.flatMap (fun a=>if p a then [g a]else [])=(as.filter p).map g:=by
 induction as with
 | nil=>rfl
 | cons a as ih =>
  rw[List.flatMap_cons,ih,List.filter_cons]
  cases p a <;> rfl
theorem qB{α:Type}{k g:α→PyData}{p:α→Bool}{as:List α}(hi:zA cl i ρ=some (as.map k))(hc:∀ a∈as,NU cl c ((ρ.set x none).set x (some (k a)))=some (p a))(he:∀ a∈as,p a=true→aH cl elt ((ρ.set x none).set x (some (k a)))=some (g a))(hl:as.length≤1000000) :
  aH cl (.comp elt (.one x) i c .nil) ρ=some (.list ((as.filter p).map g)):=by
 refine(congrArg (Option.bind · _) hi).trans ((congrArg (Option.bind · NS) (rM (g:=fun a=>if p a then [g a]else []) fun a ha=>?_)).trans ?_)
 ·refine(congrArg (Option.bind · _) (hc a ha)).trans ?_
  cases hp:p a with
  | false=>rfl
  | true=>exact congrArg (Option.map _) (he a ha hp)
 ·rw[qR]
  exact pN (by rw[List.length_map]; exact Nat.le_trans (List.length_filter_le _ _) hl)
theorem uN{α:Type}{y:Nat}{k1 k2 g:α→PyData}{p:α→Bool}{as:List α}(hi:zA cl i ρ=some (as.map fun a=>.list [k1 a,k2 a]))(hc:∀ a∈as,NU cl c ((((ρ.set x none).set y none).set x (some (k1 a))).set y (some (k2 a)))=some (p a))
  (he:∀ a∈as,p a=true→aH cl elt ((((ρ.set x none).set y none).set x (some (k1 a))).set y (some (k2 a)))=some (g a)) (hl:as.length≤1000000) :
  aH cl (.comp elt (.two x y) i c .nil) ρ=some (.list ((as.filter p).map g)):=by
 refine(congrArg (Option.bind · _) hi).trans ((congrArg (Option.bind · NS) (rM (g:=fun a=>if p a then [g a]else []) fun a ha=>?_)).trans ?_)
 ·refine(show _=Option.bind (NU cl c ((((ρ.set x none).set y none).set x (some (k1 a))).set y (some (k2 a)))) fun b=>if b then S8 cl (aH cl elt) .nil ((((ρ.set x none).set y none).set x (some (k1 a))).set y (some (k2 a)))else some []from rfl).trans ((congrArg (Option.bind · _) (hc a ha)).trans ?_)
  cases hp:p a with
  | false=>rfl
  | true=>exact congrArg (Option.map _) (he a ha hp)
 ·rw[qR]
  exact pN (by rw[List.length_map]; exact Nat.le_trans (List.length_filter_le _ _) hl)
theorem pP{α:Type}{k g:α→PyData}{as:List α}(hi:zA cl i ρ=some (as.map k))(he:∀ a∈as,aH cl elt ((ρ.set x none).set x (some (k a)))=some (g a))(hl:as.length≤1000000):aH cl (.comp elt (.one x) i .no .nil) ρ=some (.list (as.map g)) :=
 (qB (p:=fun _=>true) hi (fun _ _=>rfl) (fun a ha _=>he a ha) hl).trans (by rw[List.filter_eq_self.mpr fun _ _=>rfl])
theorem CL{e:PE}{b:Bool}(h:aH cl e ρ=some (.bool b)):NU cl (.yes e) ρ=some b:=congrArg (Option.bind · cO) h
theorem qL{e:PE}{ds:List PyData}(h:aH cl e ρ=some (.list ds)):zA cl (.of e) ρ=some ds:=congrArg (Option.bind · KD) h
end
section
variable{cl:Nat→List PyData→Option PyData}{ρ:aW}{elt:PE}{i j:PI}{x y:Nat}{g:PG}
theorem QZ{α:Type}{k:α→PyData}{G:α→List PyData}{as:List α}(hi:zA cl i ρ=some (as.map k))(h:∀ a∈as,S8 cl (aH cl elt) g ((NW ([x]++u0 g) ρ).set x (some (k a)))=some (G a))(hl:(as.flatMap G).length≤1000000):aH cl (.comp elt (.one x) i .no g) ρ=some (.list (as.flatMap G)) :=
 (congrArg (Option.bind · _) hi).trans ((congrArg (Option.bind · NS) (rM fun a ha=>h a ha)).trans (pN hl))
end
theorem WK(p q:Nat×Nat):PyData.eqv (NT p) (NT q)=(p==q):=by
 show(((p.1:Int)==(q.1:Int))&&(((p.2:Int)==(q.2:Int))&&true))=_
 have e:∀ a b:Nat,((a:Int)==(b:Int))=(a==b):=fun a b=>by
  by_cases h:a=b
  ·rw[h,beq_self_eq_true,beq_self_eq_true]
  ·rw[beq_false_of_ne h]; exact beq_false_of_ne fun e=>h (Int.ofNat.inj e)
 rw[e,e,Bool.and_true]; rfl
theorem FL:mO NT:=⟨WK,fun p=>Nat.le_of_ble_eq_true rfl⟩
theorem oI:mO fun u:List Nat=>aD u:=⟨gW,fun u=>by rw[l5]; decide⟩
section
variable{w:List Nat}{i i' l l':Nat}
theorem cX:dE w i l=dE w i' l↔d8 (w.getD · 0) i i' l :=
 ⟨fun e k hk=>(kS hk).symm.trans ((congrArg (List.getD · k 0) e).trans (kS hk)),fun e=>CJ (bJ.trans bJ.symm) fun k hk=>by rw[bJ]at hk; rw[kS hk,kS hk]; exact e k hk⟩
theorem dQ:dN (dE w i l)=true↔iW (w.getD · 0) i i l:=by
 have r:∀ a b,a+b+1=l→(dE w i l).reverse.getD a 0=w.getD (i+b) 0:=fun a b e=>by
  subst e
  have ha:a<a+b+1:=Nat.lt_succ_of_le (Nat.le_add_right a b)
  rw[List.getD_eq_getElem?_getD,List.getElem?_reverse (by rw[bJ]; exact ha),bJ,← List.getD_eq_getElem?_getD,Nat.add_sub_cancel,Nat.add_sub_cancel_left]
  exact kS (Nat.lt_succ_of_le (Nat.le_add_left b a))
 unfold dN
 rw[beq_iff_eq]
 refine⟨fun e a b hab=>?_,fun e=>CJ List.length_reverse.symm fun k hk=>?_⟩
 ·have:=r a b hab
  rwa[← e,kS (hab▸Nat.lt_succ_of_le (Nat.le_add_right a b))]at this
 ·rw[bJ]at hk
  obtain⟨b,hb⟩:=Nat.exists_eq_add_of_lt hk
  rw[r k b hb.symm,kS hk]
  exact e k b hb.symm
end
theorem FB{w:List Nat}{i:Nat}{ks:List Nat}{p:Nat×Nat}:p∈uY w i ks↔∃ k∈ks,dN (dE w i (k+1))=true∧p=(i,i+1+k):=by
 unfold uY
 rw[List.mem_map]
 exact exists_congr fun k=>by rw[List.mem_filter,and_assoc,eq_comm (a:=p)]
noncomputable abbrev hH(w:List Nat):List (Nat×Nat):=NP w (List.range w.length)
theorem B8{w:List Nat}{i k:Nat}(h:i+1+k≤w.length):(hH w).contains (i,i+1+k)=dN (dE w i (k+1)):=by
 rw[Bool.eq_iff_iff,List.contains_iff_mem]
 unfold hH NP
 rw[List.mem_flatMap]
 constructor
 ·rintro⟨i',_,h'⟩
  obtain⟨k',_,hp,e⟩:=FB.mp h'
  injection e with e1 e2
  subst e1
  rw[Nat.add_left_cancel e2]
  exact hp
 ·exact fun hp=>⟨i,List.mem_range.mpr (by exact lL [i,k,w.length] [zb (ze o0) o1,o2] (ze o0) o2 rfl h),FB.mpr ⟨k,List.mem_range.mpr (by exact lL [i,k,w.length,w.length - i] [zb (ze o0) o1,o2,o2,zb o3 o0] (ze o1) o3 rfl h (bN _ _)),hp,rfl⟩⟩
theorem JS{w:List Nat}(hl:w.length≤20){is:List Nat}(h:is.length≤20):(NP w is).length≤400 :=
 Nat.le_trans (xQ fun i _=>Nat.le_trans (EF _ _ _) (by rw[List.length_range]; exact Nat.le_trans (Nat.sub_le _ _) hl)) (Nat.mul_le_mul_right 20 h)
section
variable{cl:Nat→List PyData→Option PyData}{F:Nat}{w:List Nat}
theorem yQ{ρ:aW}{a b e:PE}{i j:Nat}{S:List (Nat×Nat)}(h1:aH cl a ρ=some (.int (i:Int)))(h2:aH cl b ρ=some (.int (j:Int)))(h3:aH cl e ρ=some (dD S)):aH cl (.cmp .In (.list (.cons a (.cons b .nil))) e) ρ=some (.bool (S.contains (i,j))):=eM (DZ h1 h2) h3 (Av FL (i,j) S)
theorem GQ{prim:Nat→List PyData→Option PyData}{l:Nat}(hw:∀ c∈w,oZ c=true)(hl:w.length≤20)(hj:∀ u:List Nat,(∀ c∈u,oZ c=true)→u.length≤900→cG cH prim F l 7 [aD u]=some (sD (mA u))):cG cH prim F (l+1) 1 [aD w]=some (dD (hH w)):=by
 have hr:zA (cG cH prim F l) SF [some (aD w),some (dD []),none,none,none]=some ((List.range w.length).map fun(k:Nat)=>PyData.int ((0+k:Nat):Int)) :=
  xS ((tF (l:=w.map wD) rfl).trans (by rw[List.length_map])) (Nat.le_trans hl (by decide))
 obtain⟨σ,h,i',j',v',e⟩:=CG (body:=dO (cG cH prim F l) F SW) (bind:=fun d τ=>(iC (.one 2) d τ.env).map fun ρ=>{ env:=ρ,own:=lose τ.own (b0 (.one 2)) }) (g:=fun k:Nat=>PyData.int ((0+k:Nat):Int)) (as:=List.range w.length) (n:=20)
  (I:=fun is σ=>∃ i j v,σ=⟨[some (aD w),some (dD (NP w is)),i,j,v],[1]⟩) (fun done k σ hk hdn hI=>by
   obtain⟨i,j,v,rfl⟩:=hI
   obtain⟨j',v',h⟩:=LI (F:=F) (S:=NP w done) (j:=j) (v:=v) hw hl (List.mem_range.mp hk) (Nat.le_trans (JS hl (Nat.le_of_lt hdn)) (by decide)) hj
   refine⟨⟨[some (aD w),some (dD (NP w done)),some (.int ((0+k:Nat):Int)),j,v],[1]⟩,_,rfl,by rw[Nat.zero_add]; exact kO h,some (.int (k:Int)),j',v',?_⟩
   rw[show NP w (done++[k])=NP w done++uY w k (List.range (w.length - k)) by unfold NP; rw[List.flatMap_append,List.flatMap_singleton]]) (done:=[]) (σ:=⟨[some (aD w),some (dD []),none,none,none],[1]⟩) (by rw[List.length_nil,Nat.zero_add,List.length_range]; exact hl) ⟨none,none,none,rfl⟩
 subst e
 exact mY (pf:=Bp) rfl rfl ((aZ (dX (d:=dD []) rfl)).trans ((aZ ((xH (F:=F) (t:=.one 2) (σ:=⟨[some (aD w),some (dD []),none,none,none],[1]⟩) hr).trans h)).trans (sC rfl)))
end
theorem HX{val:Nat→Int}{gt:Int→Int→Bool}(irr:∀ a,gt a a=false)(tr:∀ a b c,gt c b=true→gt a b=false→gt a c=false)(k:Nat):argBest (fun i j=>gt (val i) (val j)) k≤k∧∀ i,i≤k→gt (val i) (val (argBest (fun i j=>gt (val i) (val j)) k))=false:=by
 induction k with
 | zero=>exact⟨Nat.le_refl _,fun i hi=>by rw[Nat.le_zero.mp hi]; exact irr _⟩
 | succ k ih =>
  rw[argBest]
  by_cases h:gt (val (k+1)) (val (argBest (fun i j=>gt (val i) (val j)) k))=true
  ·rw[if_pos h]
   exact⟨Nat.le_refl _,fun i hi=>(Nat.lt_or_eq_of_le hi).elim (fun h1=>tr _ _ _ h (ih.2 i (Nat.le_of_lt_succ h1))) fun e=>e▸irr _⟩
  ·rw[if_neg h]
   exact⟨Nat.le_succ_of_le ih.1,fun i hi=>(Nat.lt_or_eq_of_le hi).elim (fun h1=>ih.2 i (Nat.le_of_lt_succ h1)) fun e=>e▸Bool.eq_false_iff.mpr h⟩
theorem w4{gt:Int→Int→Bool}(irr:∀ a,gt a a=false)(tr:∀ a b c,gt c b=true→gt a b=false→gt a c=false){L:List Nat}(hne:L≠[]):∃ M,M∈L∧zN gt (L.map fun k:Nat=>PyData.int (k:Int))=some (.int (M:Int))∧∀ x,x∈L→gt (x:Int) (M:Int)=false:=by
 have hpos:0<L.length:=List.length_pos_iff.mpr hne
 obtain⟨h1,h2⟩:=HX (val:=fU (L.map fun k:Nat=>PyData.int (k:Int))) irr tr (L.length - 1)
 have at_:∀{i x:Nat},L[i]? = some x→fU (L.map fun k:Nat=>PyData.int (k:Int)) i=(x:Int):=fun{i x}h=>by unfold fU; rw[List.getElem?_map,h]; rfl
 have hall:(L.map fun k:Nat=>PyData.int (k:Int)).all tB=true:=by rw[List.all_map]; exact List.all_eq_true.mpr fun _ _=>rfl
 have hlt:=Nat.lt_of_le_of_lt h1 (Nat.sub_lt hpos Nat.one_pos)
 generalize hb:argBest (fun i j=>gt (fU (L.map fun k:Nat=>PyData.int (k:Int)) i) (fU (L.map fun k:Nat=>PyData.int (k:Int)) j)) (L.length - 1)=b at h1 h2 hlt
 refine⟨L[b],List.getElem_mem hlt,?_,fun x hx=>?_⟩
 ·unfold zN
  rw[if_pos (by rw[hall]; cases L with | nil=>exact absurd rfl hne | cons=>rfl),List.length_map,hb,at_ (List.getElem?_eq_getElem hlt)]
 ·obtain⟨i,hi⟩:=List.getElem?_of_mem hx
  have:=h2 i (Nat.le_sub_one_of_lt (List.getElem?_eq_some_iff.mp hi).1)
  rwa[at_ hi,at_ (List.getElem?_eq_getElem hlt)]at this
theorem MS{L:List Nat}(hne:L≠[]):∃ M,M∈L∧RK .max2 [.list (L.map fun k:Nat=>PyData.int (k:Int))]=some (.int (M:Int))∧∀ x,x∈L→x≤M:=by
 obtain⟨M,h1,h2,h3⟩:=w4 (gt:=fun a b=>decide (a>b)) (fun a=>decide_eq_false (Int.lt_irrefl a)) (fun a b c h g=>decide_eq_false (Int.not_lt.mpr (Int.le_trans (Int.not_lt.mp (of_decide_eq_false g)) (Int.le_of_lt (of_decide_eq_true h))))) hne
 exact⟨M,h1,h2,fun x hx=>Int.ofNat_le.mp (Int.not_lt.mp (of_decide_eq_false (h3 x hx)))⟩
theorem MR{L:List Nat}(hne:L≠[]):∃ M,M∈L∧RK .min2 [.list (L.map fun k:Nat=>PyData.int (k:Int))]=some (.int (M:Int))∧∀ x,x∈L→M≤x:=by
 obtain⟨M,h1,h2,h3⟩:=w4 (gt:=fun a b=>decide (a<b)) (fun a=>decide_eq_false (Int.lt_irrefl a)) (fun a b c h g=>decide_eq_false (Int.not_lt.mpr (Int.le_trans (Int.le_of_lt (of_decide_eq_true h)) (Int.not_lt.mp (of_decide_eq_false g))))) hne
 exact⟨M,h1,h2,fun x hx=>Int.ofNat_le.mp (Int.not_lt.mp (of_decide_eq_false (h3 x hx)))⟩
theorem BJ.uniq{w:Nat→Nat}{i n l l':Nat}(h:BJ w i n l)(h':BJ w i n l'):l=l':=Nat.le_antisymm (h'.max l h.le h.mir) (h.max l' h'.le h'.mir)
theorem zB.uniq{w:Nat→Nat}{i s s' l l':Nat}(h:zB w i s l)(h':zB w i s' l')(e:s+l=s'+l'):l=l':=Nat.le_antisymm (h'.max s l h.le e h.mir) (h.max s' l' h'.le e.symm h'.mir)
noncomputable def fJ(w:List Nat)(i d:Nat):Nat:=Classical.epsilon (BJ (w.getD · 0) i d)
noncomputable def aO(w:List Nat)(i d:Nat):Nat:=Classical.epsilon fun m=>∃ s,s+m=i+d∧zB (w.getD · 0) i s m
noncomputable def dU(w:List Nat)(i d:Nat):List Nat×List Nat:=(dE w i (fJ w i d),dE w (i+d - aO w i d) (aO w i d))
theorem rN{w:List Nat}{i d l:Nat}(h:BJ (w.getD · 0) i d l):fJ w i d=l:=(Classical.epsilon_spec ⟨l,h⟩:BJ (w.getD · 0) i d (fJ w i d)).uniq h
theorem nX{w:List Nat}{i d s m:Nat}(e:s+m=i+d)(h:zB (w.getD · 0) i s m):aO w i d=m:=by
 obtain⟨s',e',h'⟩:∃ s,s+aO w i d=i+d∧zB (w.getD · 0) i s (aO w i d):=Classical.epsilon_spec (p:=fun m=>∃ s,s+m=i+d∧zB (w.getD · 0) i s m) ⟨m,s,e,h⟩
 exact h'.uniq h (e'.trans e.symm)
noncomputable def BH(p:List Nat×List Nat):PyData:=.list [aD p.1,aD p.2]
section
variable{cl:Nat→List PyData→Option PyData}{F:Nat}{w:List Nat}
theorem L3{prim:Nat→List PyData→Option PyData}{l i d:Nat}{tab:Nat→Option PF}{f:Nat}(ht:tab f=some Bm)(hl:w.length≤20)(hd:0<d)(hi:i+d≤w.length) :
  cG tab prim F (l+1) f [aD w,dD (hH w),.int (i:Int),.int ((i+d:Nat):Int)]=some (BH (dU w i d))∧BJ (w.getD · 0) i d (fJ w i d)∧∃ s,s+aO w i d=i+d∧zB (w.getD · 0) i s (aO w i d):=by
 have b1:i≤1000000:=Nat.le_trans (Nat.le_trans (Nat.le_add_right _ _) (Nat.le_trans hi hl)) (by decide)
 have b2:i+d≤20:=Nat.le_trans hi hl
 have m1:=qB (cl:=cG tab prim F l) (ρ:=[some (aD w),some (dD (hH w)),some (.int (i:Int)),some (.int ((i+d:Nat):Int)),none,none,none]) (elt:=.var 6) (x:=6) (i:=.range2 (.bin .Add (.var 2) (.lit (.int 1))) (.bin .Add (.var 3) (.lit (.int 1)))) (c:=.yes (.cmp .In (.list (.cons (.var 2) (.cons (.var 6) .nil))) (.var 1)))
  (as:=List.range d) (k:=fun k:Nat=>PyData.int ((i+1+k:Nat):Int)) (g:=fun k:Nat=>PyData.int ((i+1+k:Nat):Int)) (p:=fun k=>dN (dE w i (k+1))) (by
   have:=tE (cl:=cG tab prim F l) (ρ:=[some (aD w),some (dD (hH w)),some (.int (i:Int)),some (.int ((i+d:Nat):Int)),none,none,none]) (a:=.bin .Add (.var 2) (.lit (.int 1))) (b:=.bin .Add (.var 3) (.lit (.int 1))) (p:=i+1) (q:=i+d+1) (dR (p:=i) (q:=1) rfl rfl) (dR (p:=i+d) (q:=1) rfl rfl) (by exact lL [i,d] [zb o0 o1,.num 20] (ze o0) (.num 1000000) rfl b2) (by exact lL [i,d] [zb o0 o1,.num 20] (ze (zb o0 o1)) (.num 1000000) rfl b2)
   rwa[Nat.add_sub_add_right,Nat.add_sub_cancel_left]at this) (fun k hk=>CL ((yQ (i:=i) (j:=i+1+k) rfl rfl rfl).trans (by rw[B8 (by have:=List.mem_range.mp hk; exact lL [i,d,w.length,k] [zb o0 o1,o2,ze o3,o1] (zb (ze o0) o3) o2 rfl hi this)]))) (fun k hk _=>rfl) (by rw[List.length_range]; exact lL [i,d] [zb o0 o1,.num 20] o1 (.num 1000000) rfl b2)
 rw[show(((List.range d).filter fun k=>dN (dE w i (k+1))).map fun k:Nat=>PyData.int ((i+1+k:Nat):Int))=(((List.range d).filter fun k=>dN (dE w i (k+1))).map (i+1 + ·)).map fun k:Nat=>PyData.int (k:Int)from by rw[List.map_map]; rfl]at m1
 have one:∀{s:Nat},s+1≤w.length→dN (dE w s 1)=true:=fun h=>dQ.mpr (yH _)
 obtain⟨M,hM,e1,g1⟩:=MS (L:=((List.range d).filter fun k=>dN (dE w i (k+1))).map (i+1 + ·)) (List.ne_nil_of_mem (List.mem_map_of_mem (List.mem_filter.mpr ⟨List.mem_range.mpr hd,one (by exact lL [d,i,w.length] [vk,o0,zb o1 o0,o2] (ze o1) o2 rfl hd hi)⟩)))
 obtain⟨K,hK,rfl⟩:=List.mem_map.mp hM
 obtain⟨hK,pK⟩:=List.mem_filter.mp hK
 have hK:=List.mem_range.mp hK
 have P:BJ (w.getD · 0) i d (K+1):=⟨Nat.succ_pos _,hK,dQ.mp pK,fun l' h1 h2=>by
  rcases Nat.eq_zero_or_pos l' with rfl | h3
  ·exact Nat.zero_le _
  obtain⟨x,rfl⟩:∃ x,l'=x+1:=⟨l' - 1,by exact nA (lL [l',l' - 1] [o0,ze o1] o0 (ze o1) rfl (bN _ _)) (lL [l' - 1,l'] [ze o0,o1] (ze o0) o1 rfl (bE (lL [l'] [vk,o0] vk o0 rfl h3)))⟩
  have:=g1 (i+1+x) (List.mem_map_of_mem (List.mem_filter.mpr ⟨List.mem_range.mpr h1,dQ.mpr h2⟩))
  exact lL [i,x,K] [zb (ze o0) o1,zb (ze o0) o2] (ze o1) (ze o2) rfl this⟩
 have m2:=qB (cl:=cG tab prim F l) (ρ:=[some (aD w),some (dD (hH w)),some (.int (i:Int)),some (.int ((i+d:Nat):Int)),some (.int ((i+1+K:Nat):Int)),none,none]) (elt:=.var 6) (x:=6) (i:=.range2 (.var 2) (.var 3)) (c:=.yes (.cmp .In (.list (.cons (.var 6) (.cons (.var 3) .nil))) (.var 1)))
  (as:=List.range d) (k:=fun k:Nat=>PyData.int ((i+k:Nat):Int)) (g:=fun k:Nat=>PyData.int ((i+k:Nat):Int)) (p:=fun k=>dN (dE w (i+k) (d - k))) (by
   have:=tE (cl:=cG tab prim F l) (ρ:=[some (aD w),some (dD (hH w)),some (.int (i:Int)),some (.int ((i+d:Nat):Int)),some (.int ((i+1+K:Nat):Int)),none,none]) (a:=.var 2) (b:=.var 3) (p:=i) (q:=i+d) rfl rfl b1 (by exact lL [i,d] [zb o0 o1,.num 20] (zb o0 o1) (.num 1000000) rfl b2)
   rwa[Nat.add_sub_cancel_left]at this) (fun k hk=>CL ((yQ (i:=i+k) (j:=i+d) rfl rfl rfl).trans (by
    have hk:=List.mem_range.mp hk
    have:=B8 (w:=w) (i:=i+k) (k:=d - k - 1) (by exact lL [i,d,w.length,d - k - 1,d - k,k] [zb o0 o1,o2,ze o3,o4,zb o4 o5,o1] (zb (ze (zb o0 o5)) o3) o2 rfl hi (bE (lL [k,d,d - k] [ze o0,o1,o1,zb o2 o0] vk o2 rfl hk (bN _ _))) (bE (lL [k,d] [ze o0,o1] o0 o1 rfl hk)))
    rw[show i+k+1+(d - k - 1)=i+d by exact nA (lL [d - k - 1,d - k,k,d,i] [ze o0,o1,zb o1 o2,o3] (zb (ze (zb o4 o2)) o0) (zb o4 o3) rfl (bE (lL [k,d,d - k] [ze o0,o1,o1,zb o2 o0] vk o2 rfl hk (bN _ _))) (bE (lL [k,d] [ze o0,o1] o0 o1 rfl hk))) (lL [d - k,d - k - 1,d,k,i] [o0,ze o1,o2,zb o0 o3] (zb o4 o2) (zb (ze (zb o4 o3)) o1) rfl (bN _ _) (bN _ _)),show d - k - 1+1=d - k by exact nA (lL [d - k - 1,d - k] [ze o0,o1] (ze o0) o1 rfl (bE (lL [k,d,d - k] [ze o0,o1,o1,zb o2 o0] vk o2 rfl hk (bN _ _)))) (lL [d - k,d - k - 1] [o0,ze o1] o0 (ze o1) rfl (bN _ _))]at this
    rw[this]))) (fun k hk _=>rfl) (by rw[List.length_range]; exact lL [i,d] [zb o0 o1,.num 20] o1 (.num 1000000) rfl b2)
 rw[show(((List.range d).filter fun k=>dN (dE w (i+k) (d - k))).map fun k:Nat=>PyData.int ((i+k:Nat):Int))=(((List.range d).filter fun k=>dN (dE w (i+k) (d - k))).map (i + ·)).map fun k:Nat=>PyData.int (k:Int)from by rw[List.map_map]; rfl]at m2
 obtain⟨M,hM,e2,g2⟩:=MR (L:=((List.range d).filter fun k=>dN (dE w (i+k) (d - k))).map (i + ·)) (List.ne_nil_of_mem (List.mem_map_of_mem (a:=d - 1) (List.mem_filter.mpr ⟨List.mem_range.mpr (by exact lL [d - 1,d] [ze o0,o1] (ze o0) o1 rfl (bE (lL [d] [vk,o0] vk o0 rfl hd))),by rw[show d - (d - 1)=1 by exact nA (lL [d,d - 1,d - (d - 1)] [o0,ze o1,zb o2 o1,o0] o2 vk rfl (bN _ _) (bE (lL [d - 1,d] [o0,o1] o0 o1 rfl (Z9 _ _)))) (lL [d,d - (d - 1),d - 1] [o0,zb o1 o2,ze o2,o0] vk o1 rfl (bN _ _) (bE (lL [d] [vk,o0] vk o0 rfl hd)))]; exact one (by exact lL [i,d,w.length,d - 1] [zb o0 o1,o2,ze o3,o1] (ze (zb o0 o3)) o2 rfl hi (bE (lL [d] [vk,o0] vk o0 rfl hd)))⟩)))
 obtain⟨X,hX,rfl⟩:=List.mem_map.mp hM
 obtain⟨hX,pX⟩:=List.mem_filter.mp hX
 have hX:=List.mem_range.mp hX
 have Q:zB (w.getD · 0) i (i+X) (d - X):=⟨Nat.le_add_right _ _,by exact lL [X,d,d - X] [ze o0,o1,o1,zb o2 o0] vk o2 rfl hX (bN _ _),dQ.mp pX,fun s' l' h0 h1 h2=>by
  rcases Nat.eq_zero_or_pos l' with rfl | h3
  ·exact Nat.zero_le _
  obtain⟨x,rfl⟩:∃ x,s'=i+x:=⟨s' - i,by exact nA (lL [s',s' - i,i] [o0,zb o1 o2] o0 (zb o2 o1) rfl (bN _ _)) (lL [s' - i,i,s'] [zb o0 o1,o2] (zb o1 o0) o2 rfl (bE (lL [i,s'] [o0,o1] o0 o1 rfl h0)))⟩
  have e:l'=d - x:=by exact nA (lL [i,x,l',X,d - X,d,d - x] [zc o0 o1 o2,zc o0 o3 o4,o5,zb o6 o1,zb o4 o3,o5] o2 o6 rfl (eL h1) (bN _ _) (bE (lL [X,d] [ze o0,o1] o0 o1 rfl hX))) (lL [i,X,d - X,x,l',d,d - x] [zc o0 o1 o2,zc o0 o3 o4,o5,zb o2 o1,zb o6 o3,o5] o6 o4 rfl (eR h1) (bN _ _) (bE (lL [l',i,x,X,d - X,d] [vk,o0,zc o1 o2 o0,zc o1 o3 o4,zb o4 o3,o5] o2 o5 rfl h3 (eL h1) (bE (lL [X,d] [ze o0,o1] o0 o1 rfl hX)))))
  have:=g2 (i+x) (List.mem_map_of_mem (List.mem_filter.mpr ⟨List.mem_range.mpr (by exact lL [l',i,x,X,d - X,d] [vk,o0,zc o1 o2 o0,zc o1 o3 o4,zb o4 o3,o5] (ze o2) o5 rfl h3 (eL h1) (bE (lL [X,d] [ze o0,o1] o0 o1 rfl hX))),dQ.mpr (e▸h2)⟩))
  exact lL [i,x,l',X,d - X] [zc o0 o1 o2,zc o0 o3 o4,zb o0 o3,zb o0 o1] o2 o4 rfl (eL h1) this⟩
 have eP:=rN P
 have eQ:=nX (d:=d) (show i+X+(d - X)=i+d by exact nA (lL [d - X,X,d,i] [zb o0 o1,o2] (zc o3 o1 o0) (zb o3 o2) rfl (bE (lL [X,d] [ze o0,o1] o0 o1 rfl hX))) (lL [d,d - X,X,i] [o0,zb o1 o2] (zb o3 o0) (zc o3 o2 o1) rfl (bN _ _))) Q
 refine⟨?_,eP▸P,i+X,by rw[eQ]; exact nA (lL [d - X,X,d,i] [zb o0 o1,o2] (zc o3 o1 o0) (zb o3 o2) rfl (bE (lL [X,d] [ze o0,o1] o0 o1 rfl hX))) (lL [d,d - X,X,i] [o0,zb o1 o2] (zb o3 o0) (zc o3 o2 o1) rfl (bN _ _)),eQ▸Q⟩
 have s1:=dX (F:=F) (x:=4) (σ:=⟨[some (aD w),some (dD (hH w)),some (.int (i:Int)),some (.int ((i+d:Nat):Int)),none,none,none],[]⟩) (vU (u9 m1) e1)
 have s2:=dX (F:=F) (x:=5) (σ:=⟨[some (aD w),some (dD (hH w)),some (.int (i:Int)),some (.int ((i+d:Nat):Int)),some (.int ((i+1+K:Nat):Int)),none,none],[]⟩) (vU (u9 m2) e2)
 have s3:∀{ρ:aW},ρ=[some (aD w),some (dD (hH w)),some (.int (i:Int)),some (.int ((i+d:Nat):Int)),some (.int ((i+1+K:Nat):Int)),some (.int ((i+X:Nat):Int)),none]→aH (cG tab prim F l) (.list (.cons (.slc (.var 0) (.yes (.var 2)) (.yes (.var 4))) (.cons (.slc (.var 0) (.yes (.var 5)) (.yes (.var 3))) .nil))) ρ=some (BH (dU w i d)):=fun{ρ}e=>by
  subst e
  refine(congrArg (Option.map _) (GA (rU (w:=w) (p:=i) (q:=i+1+K) (k:=K+1) (by exact lL [i,d,w.length,K] [zb o0 o1,o2,ze o3,o1] (zb o0 (ze o3)) o2 rfl hi hK) rfl rfl rfl (by exact nA (lL [i,K] [] (zb (ze o0) o1) (zb o0 (ze o1)) rfl ) (lL [i,K] [] (zb o0 (ze o1)) (zb (ze o0) o1) rfl )) (by exact lL [i,d,K] [zb o0 o1,.num 20,ze o2,o1] (zb (ze o0) o2) (.num 1000000) rfl b2 hK)) (rU (w:=w) (p:=i+X) (q:=i+d) (k:=d - X) (by exact lL [i,d,w.length,d - X,X] [zb o0 o1,o2,zb o3 o4,o1] (zc o0 o4 o3) o2 rfl hi (bE (lL [X,d] [ze o0,o1] o0 o1 rfl hX))) rfl rfl rfl (by exact nA (lL [d,d - X,X,i] [o0,zb o1 o2] (zb o3 o0) (zc o3 o2 o1) rfl (bN _ _)) (lL [d - X,X,d,i] [zb o0 o1,o2] (zc o3 o1 o0) (zb o3 o2) rfl (bE (lL [X,d] [ze o0,o1] o0 o1 rfl hX)))) (by exact lL [i,d] [zb o0 o1,.num 20] (zb o0 o1) (.num 1000000) rfl b2)))).trans ?_
  unfold BH dU
  rw[eP,eQ,show i+d - (d - X)=i+X by exact nA (lL [d,d - X,X,i+d - (d - X),i] [o0,zb o1 o2,zb o3 o1,zb o4 o0] o3 (zb o4 o2) rfl (bN _ _) (bE (lL [d - X,d,i] [o0,o1] o0 (zb o2 o1) rfl (Z9 _ _)))) (lL [i,d,i+d - (d - X),d - X,X] [zb o0 o1,zb o2 o3,zb o3 o4,o1] (zb o0 o4) o2 rfl (bN _ _) (bE (lL [X,d] [ze o0,o1] o0 o1 rfl hX)))]; rfl
 exact mY ht rfl ((aZ s1).trans ((aZ s2).trans (sC (s3 rfl))))
end
def BG(w u:List Nat)(i:Nat):Prop:=i+u.length≤w.length∧dE w i u.length=u
section
open PySem.StrLaws PySem.Builtin.Str
theorem tR{w u:List Nat}{i:Nat}:(i+(⟨u.toArray⟩:Str).length≤(⟨w.toArray⟩:Str).length∧subAt ⟨w.toArray⟩ ⟨u.toArray⟩ i=true)↔BG w u i:=by
 rw[subAt_eq]
 show(i+u.length≤w.length∧((w.drop i).take u.length==u)=true)↔_
 exact and_congr_right fun h=>by rw[beq_iff_eq,yB h]
theorem MQ{s t:Str}{hi:Nat}{a:Nat}(l:List Nat):∀ free,(forIn l ((#[a]:Array Nat),free) (occBody s t hi 1)).run.fst=#[a]:=by
 induction l with
 | nil=>exact fun _=>rfl
 | cons b l ih =>
  intro free
  rw[List.forIn_cons]
  unfold occBody
  rw[if_neg fun h=>absurd h.1.1.1 (Nat.lt_irrefl 1)]
  exact ih free
theorem P3{s t:Str}{hi a:Nat}(B:List Nat)(ha:a+t.length≤hi∧subAt s t a=true)(A:List Nat):∀ free,(∀ i∈A,¬(i+t.length≤hi∧subAt s t i=true))→free≤a→(forIn (A++a::B) ((#[]:Array Nat),free) (occBody s t hi 1)).run.fst=#[a]:=by
 induction A with
 | nil =>
  intro free _ hf
  rw[List.nil_append,List.forIn_cons]
  unfold occBody
  rw[if_pos ⟨⟨⟨Nat.one_pos,hf⟩,ha.1⟩,ha.2⟩]
  exact MQ B _
 | cons b A ih =>
  intro free hA hf
  rw[List.cons_append,List.forIn_cons]
  unfold occBody
  rw[if_neg fun h=>hA b List.mem_cons_self ⟨h.1.2,h.2⟩]
  exact ih free (fun i h=>hA i (List.mem_cons_of_mem _ h)) hf
theorem AP{w u:List Nat}{k i:Nat}(hk:k≤i)(h:BG w u i)(hn:∀ j,k≤j→j<i→¬BG w u j):mL ⟨w.toArray⟩ ⟨u.toArray⟩ k=(i:Int):=by
 have hi:i≤w.length:=Nat.le_trans (Nat.le_add_right _ _) h.1
 have e:List.range' k (w.length+1 - k)=List.range' k (i - k)++i::List.range' (i+1) (w.length - i):=by
  rw[show w.length+1 - k=(i - k)+((w.length - i)+1) by exact nA (lL [i,i - k,k,w.length,w.length - i,w.length+1 - k] [o0,zb o1 o2,o3,zb o4 o0,zb o5 o2,ze o3] o5 (zb o1 (ze o4)) rfl (bN _ _) (bN _ _) (bE (lL [k,i,w.length] [o0,o1,o1,o2] o0 (ze o2) rfl hk hi))) (lL [w.length,w.length+1 - k,k,i - k,i,w.length - i] [ze o0,zb o1 o2,zb o3 o2,o4,zb o5 o4,o0] (zb o3 (ze o5)) o1 rfl (bN _ _) (bE (lL [k,i] [o0,o1] o0 o1 rfl hk)) (bE (lL [i,w.length] [o0,o1] o0 o1 rfl hi))),← List.range'_append_1,show k+(i - k)=i by exact nA (lL [i - k,k,i] [zb o0 o1,o2] (zb o1 o0) o2 rfl (bE (lL [k,i] [o0,o1] o0 o1 rfl hk))) (lL [i,i - k,k] [o0,zb o1 o2] o0 (zb o2 o1) rfl (bN _ _)),List.range'_succ]
 unfold mL
 rw[occ_eq]
 show(match(forIn (List.range' k (w.length+1 - k)) ((#[]:Array Nat),k) (occBody ⟨w.toArray⟩ ⟨u.toArray⟩ w.length 1)).run.fst.toList with | i::_=>(i:Int)| []=>-1)=_
 rw[e,P3 (s:=⟨w.toArray⟩) (t:=⟨u.toArray⟩) (hi:=w.length) _ (tR.mpr h) _ _ (fun j hj g=>by
  obtain⟨x,hx,rfl⟩:=List.mem_range'.mp hj
  exact hn _ (by exact lL [k,x] [] o0 (zb o0 (.mulL 1 o1)) rfl ) (by exact lL [x,i - k,k,i] [ze o0,o1,zb o1 o2,o3] (ze (zb o2 (.mulL 1 o0))) o3 rfl hx (bE (lL [k,i] [o0,o1] o0 o1 rfl hk))) (tR.mp g)) hk]
theorem QV{w u:List Nat}{k:Nat}(hn:∀ j,k≤j→¬BG w u j):mL ⟨w.toArray⟩ ⟨u.toArray⟩ k=-1:=by
 unfold mL
 rw[occ_eq]
 show(match(forIn (List.range' k (w.length+1 - k)) ((#[]:Array Nat),k) (occBody ⟨w.toArray⟩ ⟨u.toArray⟩ w.length 1)).run.fst.toList with | i::_=>(i:Int)| []=>-1)=_
 have hl:∀ i∈List.range' k (w.length+1 - k),k≤i:=fun i h=>by
  obtain⟨x,_,rfl⟩:=List.mem_range'.mp h
  exact Nat.le_trans (Nat.le_add_right k x) (by exact lL [k,x] [] (zb o0 o1) (zb o0 (.mulL 1 o1)) rfl )
 rw[(occ_none ⟨w.toArray⟩ ⟨u.toArray⟩ w.length _ k hl).mpr fun i h g=>hn i (hl i h) (tR.mp g)]
end
theorem M9(n k:Nat):fromIndex n (k:Int)=k:=by
 unfold fromIndex
 rw[if_neg (Int.not_lt.mpr (Int.natCast_nonneg k)),Int.max_eq_right (Int.natCast_nonneg k),Int.toNat_natCast]
def GG(w u:List Nat)(p a:Nat):Prop:=p<a∧BG w u p∧BG w u a∧∀ j,p<j→j<a→¬BG w u j
section
variable{cl:Nat→List PyData→Option PyData}{F:Nat}{w u:List Nat}
noncomputable abbrev S5(w u:List Nat)(ms bar:Option PyData)(b:Bool)(p:Nat)(a:Int)(sg:Option PyData):eV:=⟨[some (aD w),some (dD (hH w)),ms,some (aD u),some (sD w),some (.bool b),bar,some (sD u),some (.int (p:Int)),some (.int a),sg],[]⟩
theorem NC{ρ:aW}{a b:PE}{s t:List Nat}(h1:aH cl a ρ=some (sD s))(h2:aH cl b ρ=some (sD t)):aH cl (.me .find a (.cons b .nil)) ρ=some (.int (mL ⟨s.toArray⟩ ⟨t.toArray⟩ 0)):=(congrArg (Option.bind · _) h1).trans (congrArg (Option.bind · _) (u9 h2))
theorem AQ{ρ:aW}{a b c:PE}{s t:List Nat}{k:Nat}(h1:aH cl a ρ=some (sD s))(h2:aH cl b ρ=some (sD t))(h3:aH cl c ρ=some (.int (k:Int))):aH cl (.me .find a (.cons b (.cons c .nil))) ρ=some (.int (mL ⟨s.toArray⟩ ⟨t.toArray⟩ k)) :=
 (congrArg (Option.bind · _) h1).trans ((congrArg (Option.bind · _) (GA h2 h3)).trans (show some (PyData.int (mL ⟨s.toArray⟩ ⟨t.toArray⟩ (fromIndex _ (k:Int))))=_ by rw[M9]))
theorem zY{ms bar sg:Option PyData}{b:Bool}{p:Nat}{a:Int}{t:Bool}(h:decide (a≥0)=t):(aH cl D1 (S5 w u ms bar b p a sg).env).bind cO=some t:=(show _=some (decide (a≥0)) by kernel_rfl).trans (congrArg some h)
theorem LV{ms bar sg:Option PyData}(hl:w.length≤20)(hu:0<u.length):∀(n p:Nat)(b:Bool)(m:Nat),w.length - p=n→BG w u p→w.length+1≤m+p →
  ∃ b' p' a',dJ (fun τ=>(aH cl D1 τ.env).bind cO) (dO cl F JH) (m+1) (S5 w u ms bar b p (mL ⟨w.toArray⟩ ⟨u.toArray⟩ (p+1)) sg)=some (.next (S5 w u ms bar b' p' a' sg))∧(b'=true↔b=true∧∀ q a,p≤q→GG w u q a→dN (dE w q (a - q+u.length))=true):=by
 intro n
 induction n using Nat.strongRecOn with
 | _ n ih =>
  intro p b m hn hp hm
  by_cases hx:∃ a,p<a∧BG w u a
  ·obtain⟨a,h1,⟨h2,h3⟩,h4⟩:=gV (P:=fun a=>p<a∧BG w u a) hx.choose_spec
   have hC:GG w u p a:=⟨h2,hp,h3,fun j g1 g2 g3=>h4 j g2 ⟨g1,g3⟩⟩
   rw[AP (k:=p+1) h2 h3 fun j g1 g2 g3=>h4 j g2 ⟨g1,g3⟩]
   obtain⟨m,rfl⟩:∃ m',m=m'+1:=⟨m - 1,by have:=hp.1; exact nA (lL [m,m - 1] [o0,ze o1] o0 (ze o1) rfl (bN _ _)) (lL [m - 1,m] [ze o0,o1] (ze o0) o1 rfl (bE (lL [u.length,w.length,m,p] [vk,o0,ze o1,zb o2 o3,zb o3 o0,o1] vk o2 rfl hu hm this)))⟩
   have ha:=h3.1
   obtain⟨b',p',a',g,hb⟩:=ih (w.length - a) (by exact lL [w.length - p,n,p,a,w.length,w.length - a] [o0,o1,ze o2,o3,o4,zb o0 o2,zb o5 o3,o4] (ze o5) o1 rfl (eL hn) h2 (bN _ _) (bE (lL [u.length,a,w.length] [vk,o0,zb o1 o0,o2] o1 o2 rfl hu ha))) a (b&&dN (dE w p (a - p+u.length))) m rfl h3 (by exact lL [p,a,w.length,m] [ze o0,o1,ze o2,zb (ze o3) o0] (ze o2) (zb o3 o1) rfl h2 hm)
   refine⟨b',p',a',(D8 (zY (decide_eq_true (Int.natCast_nonneg a))) ?_).trans g,?_⟩
   ·have e0:aH cl (.bool true (.var 5) (.cmp .In (.list (.cons (.var 8) (.cons (.bin .Add (.var 9) (.bi .len (.cons (.var 7) .nil))) .nil))) (.var 1))) (S5 w u ms bar b p (a:Int) sg).env=some (.bool (b&&dN (dE w p (a - p+u.length)))):=by
     refine FV (x:=b) rfl ((yQ (i:=p) (j:=a+u.length) (S:=hH w) rfl (dR (p:=a) (q:=u.length) rfl (FT (l:=u) rfl)) rfl).trans ?_)
     have:=B8 (w:=w) (i:=p) (k:=a - p+u.length - 1) (by exact lL [a,u.length,w.length,a - p+u.length - 1,a - p,p] [zb o0 o1,o2,ze o3,zb o4 o1,zb o4 o5,o0] (zb (ze o5) o3) o2 rfl ha (bE (lL [u.length,a - p] [vk,o0] vk (zb o1 o0) rfl hu)) (bE (lL [p,a] [ze o0,o1] o0 o1 rfl h2)))
     rw[show p+1+(a - p+u.length - 1)=a+u.length by exact nA (lL [a - p+u.length - 1,a - p,u.length,p,a] [ze o0,zb o1 o2,zb o1 o3,o4] (zb (ze o3) o0) (zb o4 o2) rfl (bE (lL [u.length,a - p] [vk,o0] vk (zb o1 o0) rfl hu)) (bE (lL [p,a] [ze o0,o1] o0 o1 rfl h2))) (lL [a - p,u.length,a - p+u.length - 1,a,p] [zb o0 o1,ze o2,o3,zb o0 o4] (zb o3 o1) (zb (ze o4) o2) rfl (bN _ _) (bN _ _)),show a - p+u.length - 1+1=a - p+u.length by exact nA (lL [a - p+u.length - 1,a - p,u.length] [ze o0,zb o1 o2] (ze o0) (zb o1 o2) rfl (bE (lL [u.length,a - p] [vk,o0] vk (zb o1 o0) rfl hu))) (lL [a - p,u.length,a - p+u.length - 1] [zb o0 o1,ze o2] (zb o0 o1) (ze o2) rfl (bN _ _))]at this
     rw[this]
    have s0:=dX (F:=F) (x:=5) (σ:=S5 w u ms bar b p (a:Int) sg) e0
    have s1:=dX (cl:=cl) (F:=F) (x:=8) (e:=.var 9) (σ:=S5 w u ms bar (b&&dN (dE w p (a - p+u.length))) p (a:Int) sg) (d:=.int (a:Int)) rfl
    have s2:=dX (F:=F) (x:=9) (σ:=S5 w u ms bar (b&&dN (dE w p (a - p+u.length))) a (a:Int) sg) (AQ (cl:=cl) (a:=.var 4) (b:=.var 7) (c:=.bin .Add (.var 8) (.lit (.int 1))) (s:=w) (t:=u) (k:=a+1) rfl rfl (dR (p:=a) (q:=1) rfl rfl))
    exact(aZ s0).trans ((aZ s1).trans (kO s2))
   ·rw[hb,Bool.and_eq_true,and_assoc]
    refine and_congr_right fun _=>⟨fun⟨g1,g2⟩q c hq hc=>?_,fun g=>⟨g p a (Nat.le_refl _) hC,fun q c hq hc=>g q c (by exact lL [p,a,q] [ze o0,o1,o1,o2] o0 o2 rfl h2 hq) hc⟩⟩
    rcases Nat.eq_or_lt_of_le hq with rfl | hq
    ·have:c=a:=Nat.le_antisymm (Nat.le_of_not_lt fun h=>hc.2.2.2 a h2 h h3) (Nat.le_of_not_lt fun h=>h4 c h ⟨hc.1,hc.2.2.1⟩)
     exact this▸g1
    ·exact g2 q c (Nat.le_of_not_lt fun h=>h4 q h ⟨hq,hc.2.1⟩) hc
  ·have hno:∀ j,p+1≤j→¬BG w u j:=fun j h g=>hx ⟨j,h,g⟩
   rw[QV hno]
   exact⟨b,p,-1,JP (zY (decide_eq_false (by decide))),⟨fun h=>⟨h,fun q a hq hc=>absurd ⟨a,Nat.lt_of_le_of_lt hq hc.1,hc.2.2.1⟩ hx⟩,And.left⟩⟩
end
section
variable{cl:Nat→List PyData→Option PyData}{F:Nat}{w u:List Nat}
theorem WS{ρ:aW}{c:Nat}(hv:aH cl (.var 10) ρ=some (wD c))(hc:i4 c=true):aH cl (.ite (.cmp .In (.var 10) (.lit (.str ("*?[" : Str)))) (.bin .Add (.bin .Add (.lit (.str ("[" : Str))) (.var 10)) (.lit (.str ("]" : Str)))) (.var 10)) ρ=some (sD (pc c)):=by
 have e1:=KO (cl:=cl) (ρ:=ρ) (a:=.var 10) (b:=.lit (.str ("*?[" : Str))) (x:=("*?[" : Str).cps.toList) (y:=[c]) hv rfl (eq_of_beq (aA (aA (aA (aA (IT hc)).2).2).2).2)
 have e2:aH cl (.bin .Add (.bin .Add (.lit (.str ("[" : Str))) (.var 10)) (.lit (.str ("]" : Str)))) ρ=some (sD [91,c,93]) :=
  rX (x:=[91,c]) (y:=[93]) (rX (x:=[91]) (y:=[c]) rfl hv (Nat.le_of_ble_eq_true rfl)) rfl (Nat.le_of_ble_eq_true rfl)
 refine(KN e1 (fun _=>e2) (fun _=>hv)).trans ?_
 unfold pc
 cases fK c <;> rfl
theorem C1(ls:List (List Nat)):DS (ls.map sD)=some (ls.map fun l=>(⟨l.toArray⟩:Str)):=by
 induction ls with
 | nil=>rfl
 | cons l ls ih=>exact congrArg (Option.map _) ih
theorem uL{ls:List (List Nat)}(hb:ls.flatten.length≤90000):vQ "" (ls.map sD)=some (sD ls.flatten):=by
 unfold vQ
 rw[C1]
 show(if _ then _ else _)=_
 rw[zT,Nat.zero_add,if_pos (Nat.le_trans hb (by decide)),wO]
theorem O9(cs:List Nat):(cs.map pc).flatten.length≤3*cs.length:=by
 induction cs with
 | nil=>exact Nat.le_refl _
 | cons c cs ih =>
  rw[List.map_cons,List.flatten_cons,List.length_append,List.length_cons,Nat.mul_succ,Nat.add_comm]
  refine Nat.add_le_add ih ?_
  unfold pc
  cases fK c <;> exact Nat.le_of_ble_eq_true rfl
theorem wF(u:List Nat):(u.map fun c=>[c]).flatten=u:=by
 induction u with
 | nil=>rfl
 | cons c u ih=>exact congrArg (c :: ·) ih
theorem wQ{u:List Nat}(hl:u.length≤90000):vQ "" (u.map wD)=some (sD u):=by
 rw[show u.map wD=(u.map fun c=>[c]).map sD by rw[List.map_map]; rfl,uL (by rwa[wF]),wF]
theorem tX{ρ:aW}{a:PE}{xs:List PyData}{d:PyData}(h1:aH cl a ρ=some (.list xs))(h:vQ "" xs=some d):aH cl (.me .join (.lit (.str ("" : Str))) (.cons a .nil)) ρ=some d:=(congrArg (Option.bind · _) (u9 h1)).trans h
noncomputable abbrev rP(w:List Nat)(ms x3:Option PyData)(b:Bool)(x6 x7 x8 x9 x10:Option PyData):eV:=⟨[some (aD w),some (dD (hH w)),ms,x3,some (sD w),some (.bool b),x6,x7,x8,x9,x10],[]⟩
theorem LU{ms x6 x7 x8 x9 x10:Option PyData}{b:Bool}(hl:w.length≤20)(hu:∀ c∈u,oZ c=true)(hu0:0<u.length)(ho:∃ i,BG w u i)(hp:∀ s:Str,cl 9 [.str s]=iJ 1002 s)(ht:cl 2 [NQ (zE (u.map pl).flatten)]=some (sD u)) :
  ∃ b' y6 y7 y8 y9 y10,dO cl 1002 JG (rP w ms (some (aD u)) b x6 x7 x8 x9 x10)=some (.next (rP w ms (some (aD u)) b' y6 y7 y8 y9 y10))∧(b'=true↔b=true∧∀ q a,GG w u q a→dN (dE w q (a - q+u.length))=true):=by
 have ul:u.length≤20:=by obtain⟨i,h,_⟩:=ho; exact Nat.le_trans (Nat.le_trans (Nat.le_add_left _ _) h) hl
 have fl:(u.map pc).flatten.length≤60:=Nat.le_trans (O9 u) (Nat.mul_le_mul_left 3 ul)
 have c0:=pP (cl:=cl) (ρ:=(rP w ms (some (aD u)) b x6 x7 x8 x9 x10).env) (elt:=.ite (.cmp .In (.var 10) (.lit (.str ("*?[" : Str)))) (.bin .Add (.bin .Add (.lit (.str ("[" : Str))) (.var 10)) (.lit (.str ("]" : Str)))) (.var 10)) (x:=10) (i:=.of (.var 3)) (as:=u) (k:=wD) (g:=fun c=>sD (pc c)) (qL rfl) (fun c hc=>WS rfl (mX (hu c hc)).1) (Nat.le_trans ul (by decide))
 rw[show(u.map fun c=>sD (pc c))=(u.map pc).map sD by rw[List.map_map]; rfl]at c0
 have s1:=dX (F:=1002) (x:=6) (σ:=rP w ms (some (aD u)) b x6 x7 x8 x9 x10) (tX c0 (uL (Nat.le_trans fl (by decide))))
 have e2:aH cl (.bin .Add (.bin .Add (.lit (.str ("?*" : Str))) (.var 6)) (.lit (.str ("*" : Str)))) (rP w ms (some (aD u)) b (some (sD (u.map pc).flatten)) x7 x8 x9 x10).env=some (sD ([63,42]++(u.map pc).flatten++[42])) :=
  rX (x:=[63,42]++(u.map pc).flatten) (y:=[42]) (rX (x:=[63,42]) (y:=(u.map pc).flatten) rfl rfl (by show 2+_≤_; exact lL [(List.map pc u).flatten.length] [o0,.num 60] (zb (.num 2) o0) (.num 1000000) rfl fl)) rfl (by rw[List.length_append]; show 2+_+1≤_; exact lL [(List.map pc u).flatten.length] [o0,.num 60] (ze (zb (.num 2) o0)) (.num 1000000) rfl fl)
 have tr:iJ 1002 ⟨([63,42]++(u.map pc).flatten++[42]).toArray⟩=some (NQ (zE (u.map pl).flatten)):=by
  have hpl:(u.map pl).flatten.length≤100:=by
   have:=BY (u.map some)
   rw[List.map_map,List.length_map]at this
   exact Nat.le_trans this (Nat.mul_le_mul_left 5 ul)
  have:=GI (F:=999) (cs:=u) (fun e=>by rw[e]at hu0; exact absurd hu0 (Nat.lt_irrefl 0)) (Nat.le_trans ul (by decide)) (by rw[List.flatMap_def,List.length_cons,List.length_cons,List.length_append]; show _+1+1+1<_; exact lL [(List.map pc u).flatten.length] [o0,.num 60] (ze (ze (ze (ze o0)))) (.num 80000) rfl fl) (by decide) (YG (by unfold zE; rw[List.all_append,List.all_append,List.all_append,List.all_append,O8 hu]; rfl) (by unfold zE; rw[List.length_append,List.length_append,List.length_append,List.length_append]; show 1+(6+_+1+2)≤_; exact lL [(List.map pl u).flatten.length] [o0,.num 100] (zb vk (zb (ze (zb (.num 6) o0)) (.num 2))) (.num 5000) rfl hpl))
  rwa[List.flatMap_def]at this
 have s2:=dX (F:=1002) (x:=7) (σ:=rP w ms (some (aD u)) b (some (sD (u.map pc).flatten)) x7 x8 x9 x10) (eE (f:=2) (eE (f:=9) e2 ((hp _).trans tr)) ht)
 have e3:=KM (cl:=cl) (ρ:=(rP w ms (some (aD u)) b (some (sD (u.map pc).flatten)) (some (sD u)) x8 x9 x10).env) (a:=.var 7) (x:=u) rfl (tX (a:=.var 3) (xs:=u.map wD) rfl (wQ (Nat.le_trans ul (by decide))))
 rw[beq_self_eq_true]at e3
 obtain⟨i,hi⟩:=ho
 obtain⟨p,h1,h2,h3⟩:=gV (P:=fun i=>BG w u i) hi
 have e4:=NC (cl:=cl) (ρ:=(rP w ms (some (aD u)) b (some (sD (u.map pc).flatten)) (some (sD u)) x8 x9 x10).env) (a:=.var 4) (b:=.var 7) (s:=w) (t:=u) rfl rfl
 rw[AP (Nat.zero_le _) h2 fun j _ hj=>h3 j hj]at e4
 have s4:=dX (F:=1002) (x:=8) (σ:=rP w ms (some (aD u)) b (some (sD (u.map pc).flatten)) (some (sD u)) x8 x9 x10) e4
 have s5:=dX (F:=1002) (x:=9) (σ:=rP w ms (some (aD u)) b (some (sD (u.map pc).flatten)) (some (sD u)) (some (.int (p:Int))) x9 x10) (AQ (cl:=cl) (a:=.var 4) (b:=.var 7) (c:=.bin .Add (.var 8) (.lit (.int 1))) (s:=w) (t:=u) (k:=p+1) rfl rfl (dR (p:=p) (q:=1) rfl rfl))
 obtain⟨b',p',a',g,hb⟩:=LV (cl:=cl) (F:=1002) (ms:=ms) (bar:=some (sD (u.map pc).flatten)) (sg:=x10) hl hu0 _ p b 1001 rfl h2 (by exact lL [w.length,p] [o0,.num 20] (ze o0) (zb (.num 1001) o1) rfl hl)
 refine⟨b',_,_,_,_,_,(aZ s1).trans ((aZ s2).trans ((aZ (sE e3 rfl)).trans ((aZ s4).trans ((aZ s5).trans (kO (show vJ cl 1002 (.while_ D1 JH) _=_ from g)))))),hb.trans (and_congr_right fun _=>⟨fun g q a hc=>g q a (Nat.le_of_not_lt fun h=>h3 q h hc.2.1) hc,fun g q a _ hc=>g q a hc⟩)⟩
theorem A3{prim:Nat→List PyData→Option PyData}{l:Nat}{us:List (List Nat)}(hl:w.length≤20)(hus:us.length≤1000)(hw:∀ c∈w,oZ c=true)(hu:∀ u∈us,(∀ c∈u,oZ c=true)∧0<u.length∧∃ i,BG w u i)(hp:∀ s:Str,cG cH prim 1002 (l+1) 9 [.str s]=iJ 1002 s) :
  ∃ b,cG cH prim 1002 (l+2) 3 [aD w,dD (hH w),.list (us.map fun u=>aD u)]=some (.bool b)∧(b=true↔∀ u∈us,∀ q a,GG w u q a→dN (dE w q (a - q+u.length))=true):=by
 have s1:vJ (cG cH prim 1002 (l+1)) 1002 (.assign2 4 5 (.me .join (.lit (.str ("" : Str))) (.cons (.var 0) .nil)) (.lit (.bool true))) ⟨eI 11 [aD w,dD (hH w),.list (us.map fun u=>aD u)],[]⟩=some (.next (rP w (some (.list (us.map fun u=>aD u))) none true none none none none none)) :=
  D7 (tX (xs:=w.map wD) rfl (wQ (Nat.le_trans hl (by decide)))) rfl
 obtain⟨σ,h,b,x3,x6,x7,x8,x9,x10,e,hb⟩:=CG (body:=dO (cG cH prim 1002 (l+1)) 1002 JG) (bind:=fun d τ=>(iC (.one 3) d τ.env).map fun ρ=>{ env:=ρ,own:=lose τ.own (b0 (.one 3)) }) (g:=fun u:List Nat=>aD u) (as:=us) (n:=1000)
  (I:=fun done σ=>∃ b x3 x6 x7 x8 x9 x10,σ=rP w (some (.list (us.map fun u=>aD u))) x3 b x6 x7 x8 x9 x10∧(b=true↔∀ u∈done,∀ q a,GG w u q a→dN (dE w q (a - q+u.length))=true)) (fun done u σ hm hdn hI=>by
   obtain⟨b,x3,x6,x7,x8,x9,x10,rfl,hb⟩:=hI
   obtain⟨g1,g2,g3⟩:=hu u hm
   obtain⟨b',y6,y7,y8,y9,y10,g,hb'⟩:=LU (ms:=some (.list (us.map fun u=>aD u))) (x6:=x6) (x7:=x7) (x8:=x8) (x9:=x9) (x10:=x10) (b:=b) hl g1 g2 g3 hp (K5 (F:=1) (l:=l) g1 (by obtain⟨i,h,_⟩:=g3; exact lL [w.length,i,u.length] [o0,.num 20,zb o1 o2,o0] o2 (.num 900) rfl hl h))
   refine⟨_,_,rfl,g,b',_,y6,y7,y8,y9,y10,rfl,hb'.trans ⟨fun⟨h1,h2⟩v hv=>?_,fun h=>⟨hb.mpr fun v hv=>h v (List.mem_append_left _ hv),h u (List.mem_append_right _ (.head _))⟩⟩⟩
   rcases List.mem_append.mp hv with hv | hv
   ·exact hb.mp h1 v hv
   ·cases List.mem_singleton.mp hv; exact h2) (done:=[]) (by rw[List.length_nil,Nat.zero_add]; exact hus) ⟨true,none,none,none,none,none,none,rfl,⟨fun _ _ h=>(nomatch h),fun _=>rfl⟩⟩
 subst e
 exact⟨b,mY (pf:=Bn) rfl rfl ((aZ s1).trans ((aZ ((xH (F:=1002) (t:=.one 3) (i:=SD) (σ:=rP w (some (.list (us.map fun u=>aD u))) none true none none none none none) (qL rfl)).trans h)).trans (sC rfl))),hb⟩
end
theorem XB(i:Int){q:Nat}(h:0<q):sB .Mod (.int i) (.int (q:Int))=some (.int ((i.fmod q).toNat:Nat))∧(i.fmod q).toNat<q:=by
 have h0:(0:Int)<(q:Int):=Int.natCast_pos.mpr h
 have e:=Int.fmod_eq_emod_of_nonneg i (Int.natCast_nonneg q)
 have h1:0≤i.fmod q:=e▸Int.emod_nonneg i (Int.ne_of_gt h0)
 have h2:i.fmod q<q:=e▸Int.emod_lt_of_pos i h0
 exact⟨(if_pos h0).trans (congrArg (fun i=>some (PyData.int i)) (Int.toNat_of_nonneg h1).symm),(Int.toNat_lt h1).mpr h2⟩
noncomputable def mD:List Nat:=("a'[ \"*\\]?#-b" : Str).cps.toList
theorem ED:mD.length=12∧mD.all oZ=true:=⟨by kernel_rfl,by kernel_rfl⟩
theorem JR(q:Nat):mD[q%12]? = some (mD.getD (q%12) 0)∧oZ (mD.getD (q%12) 0)=true:=by
 have h:q%12<mD.length:=ED.1.symm▸Nat.mod_lt _ (by decide)
 rw[List.getD_eq_getElem?_getD,List.getElem?_eq_getElem h]
 exact⟨rfl,List.all_eq_true.mp ED.2 _ (List.getElem_mem h)⟩
theorem WQ(i:Int):RK .chr [.int i]=TV i:=rfl
noncomputable abbrev WV(ps:List Nat):PyData:=.list (ps.map fun p:Nat=>PyData.int (p:Int))
theorem O3{prim:Nat→List PyData→Option PyData}{F l p:Nat}{rest:List Nat}(hp:p<1000000000)(hr:rest.length≤1000):∃ w:List Nat,w.length=rest.length∧(∀ c∈w,oZ c=true)∧cG cH prim F (l+1) 0 [WV (p::rest)]=some (aD w):=by
 have hc:p / 12%50000<50000:=Nat.mod_lt _ (by decide)
 have h4:oZ (256+p / 12%50000)=true:=Bool.and_eq_true_iff.mpr ⟨Bool.or_eq_true_iff.mpr (.inr (decide_eq_true (Nat.le_add_right _ _))),decide_eq_true (Nat.lt_trans (Nat.add_lt_add_left hc 256) (by decide))⟩
 have v0:∀{ρ:aW},aH (cG cH prim F l) (.var 0) ρ=some (WV (p::rest))→aH (cG cH prim F l) (.idx (.var 0) (.lit (.int 0))) ρ=some (.int (p:Int)):=fun h=>xT (p:=0) h rfl (by decide) rfl
 have e1:=pP (cl:=cG cH prim F l) (ρ:=[some (WV (p::rest)),some (sD mD),none,none,none]) (elt:=.idx (.var 1) (.bin .Mod (.bin .Add (.idx (.var 0) (.lit (.int 0))) (.var 4)) (.lit (.int 12)))) (x:=4) (g:=fun k=>wD (mD.getD ((p+(0+k))%12) 0)) (xS (a:=.lit (.int 3)) (q:=3) rfl (by decide)) (fun k _ =>
  lU (l:=mD) rfl (iP (y:=.int ((12:Nat):Int)) (dR (p:=p) (v0 rfl) rfl) rfl (TO (by decide))) (Nat.le_trans (Nat.le_of_lt (Nat.mod_lt _ (by decide))) (by decide)) (JR _).1) (by decide)
 rw[show((List.range 3).map fun k=>wD (mD.getD ((p+(0+k))%12) 0))=((List.range 3).map fun k=>mD.getD ((p+(0+k))%12) 0).map wD by rw[List.map_map]; rfl]at e1
 have d3:=dR (cl:=cG cH prim F l) (ρ:=[some (WV (p::rest)),some (sD mD),none,none,none]) (a:=.lit (.int 256)) (p:=256) rfl (iP (op:=.Mod) (b:=.lit (.int 50000)) (iP (op:=.FloorDiv) (b:=.lit (.int 12)) (v0 rfl) rfl (ZJ (q:=12) (by decide) (by decide))) rfl (TO (q:=50000) (by decide)))
 have d4:RK .chr [.int ((256+p / 12%50000:Nat):Int)]=some (wD (256+p / 12%50000)):=by
  have hlt:((256+p / 12%50000:Nat):Int)<0xD800:=Int.ofNat_lt.mpr (of_decide_eq_true (aA h4).2)
  generalize 256+p / 12%50000=c at hlt
  rw[WQ,TV,decide_eq_true (Int.natCast_nonneg c),decide_eq_true hlt,Int.toNat_natCast]; rfl
 have d5:aH (cG cH prim F l) (.list (.cons (.bi .chr (.cons (.bin .Add (.lit (.int 256)) (.bin .Mod (.bin .FloorDiv (.idx (.var 0) (.lit (.int 0))) (.lit (.int 12))) (.lit (.int 50000)))) .nil)) .nil)) [some (WV (p::rest)),some (sD mD),none,none,none]=some (aD [256+p / 12%50000]):=congrArg (Option.map _) (u9 (vU (u9 d3) d4))
 generalize hsg:((List.range 3).map fun k=>mD.getD ((p+(0+k))%12) 0)++[256+p / 12%50000]=sg
 have g1:sg.length=4:=hsg▸rfl
 have g2:∀ c∈sg,oZ c=true:=fun c hc=>by
  rw[← hsg]at hc
  rcases List.mem_append.mp hc with h | h
  ·obtain⟨k,_,e⟩:=List.mem_map.mp h
   exact e▸(JR _).2
  ·exact List.mem_singleton.mp h▸h4
 have e2:=Q0 e1 d5 (Nat.le_of_ble_eq_true rfl)
 rw[hsg]at e2
 have hq:∀ x:Nat,sg[x%4]? = some (sg.getD (x%4) 0):=fun x=>by rw[List.getD_eq_getElem?_getD,List.getElem?_eq_getElem (g1.symm▸Nat.mod_lt x (show 0<4 by decide))]; rfl
 have e4:=pP (cl:=cG cH prim F l) (ρ:=[some (WV (p::rest)),some (sD mD),some (aD sg),none,none]) (elt:=.idx (.var 2) (.bin .Mod (.var 3) (.lit (.int 4)))) (x:=3) (i:=.of (.slc (.var 0) (.yes (.lit (.int 1))) .no)) (as:=rest) (k:=fun p:Nat=>PyData.int (p:Int)) (g:=fun x=>wD (sg.getD (x%4) 0)) (qL (WE (lo:=.lit (.int 1)) (p:=1) (l:=(p::rest).map fun p:Nat=>PyData.int (p:Int)) rfl rfl (by decide))) (fun x _ =>
  xT (l:=sg.map wD) rfl (iP (x:=.int (x:Int)) (y:=.int ((4:Nat):Int)) rfl rfl (TO (by decide))) (Nat.le_trans (Nat.le_of_lt (Nat.mod_lt x (by decide))) (by decide)) (by rw[List.getElem?_map,hq]; rfl)) (Nat.le_trans hr (by decide))
 rw[show(rest.map fun x=>wD (sg.getD (x%4) 0))=(rest.map fun x=>sg.getD (x%4) 0).map wD by rw[List.map_map]; rfl]at e4
 refine⟨rest.map fun x=>sg.getD (x%4) 0,List.length_map ..,fun c hc=>?_,mY (pf:=Bq) rfl rfl ((aZ (dX (d:=sD mD) rfl)).trans ((aZ (dX e2)).trans (sC e4)))⟩
 obtain⟨x,_,e⟩:=List.mem_map.mp hc
 exact g2 c (e▸List.mem_of_getElem? (hq x))
noncomputable def DQ(f:Nat)(args:List PyData):Option PyData:=(BN[f]?).bind fun n=>DT 1002 (xC 1002 6 RG 6) n args
section
variable{l:Nat}{u:List Nat}
theorem c7(h:∀ c∈u,oZ c=true)(hl:u.length≤900):cG cH DQ 1002 (l+1) 7 [aD u]=some (sD (mA u)) :=
 (n7 rfl).trans ((show DQ 7 [aD u]=zI (u.map wD) by kernel_rfl).trans ((MZ h hl).trans (by rw[nZ])))
theorem c8(h:∀ c∈u,oZ c=true)(hne:u≠[])(hl:u.length≤900):cG cH DQ 1002 (l+1) 8 [sD (mA u)]=some (aD u):=by
 have:=pT h hne hl
 rw[nZ]at this
 exact(n7 rfl).trans ((show DQ 8 [sD (mA u)]=pG 1002 ⟨(mA u).toArray⟩ by kernel_rfl).trans this)
theorem c9(s:Str):cG cH DQ 1002 (l+1) 9 [.str s]=iJ 1002 s:=(n7 rfl).trans (show DQ 9 [.str s]=iJ 1002 s by kernel_rfl)
theorem c10{α:Type} [BEq α] [LawfulBEq α] {D:α→PyData} (hD:mO D) (xs ys:List α) (hx:xs.length≤1000) (hy:ys.length≤1000):cG cH DQ 1002 (l+1) 10 [.list (xs.map D),.list (ys.map D)]=some (.bool (mJ xs ys)) :=
 (n7 rfl).trans ((show DQ 10 [.list (xs.map D),.list (ys.map D)]=IG (xC 1002 6 RG 6) (xs.map D) (ys.map D) by kernel_rfl).trans (Q9 hD xs ys hx hy))
theorem c6{α:Type} [BEq α] [LawfulBEq α] {D:α→PyData} (hD:mO D) (xs:List α) (hx:xs.length≤1000):cG cH DQ 1002 (l+1) 6 [.list (xs.map D)]=some (.list ((j6 xs []).map D)):=yS hD rfl xs hx
end
theorem QT:mO BH:=⟨fun p q=>by
 show(PyData.eqv (aD p.1) (aD q.1)&&(PyData.eqv (aD p.2) (aD q.2)&&true))=_
 rw[gW,gW,Bool.and_true]; rfl,fun p=>by
 show max (aD p.1).depth (max (aD p.2).depth 0)+1≤60
 rw[l5,l5]; decide⟩
theorem AT{α:Type} [BEq α] [LawfulBEq α] {D:α→PyData} (hD:mO D):∀ a b:List α,PyData.eqvAll (a.map D) (b.map D)=(a==b)
 | [],[]=>rfl
 | [],_::_=>rfl
 | _::_,[]=>rfl
 | a::as,b::bs=>by
  rw[List.map_cons,List.map_cons,PyData.eqvAll,hD.eqv,AT hD as bs]; rfl
theorem An{α:Type} [BEq α] [LawfulBEq α] {D:α→PyData} (hD:mO D) (a b:List α):sA .NotEq (.list (a.map D)) (.list (b.map D))=some (.bool (!(a==b))):=by
 have h:(PyData.list (a.map D)).depth≤61:=Nat.succ_le_succ (yR hD a)
 show(if pD (.list (a.map D)) (.list (b.map D))=true then some (PyData.bool (!PyData.eqv (.list (a.map D)) (.list (b.map D))))else none)=_
 rw[show pD (.list (a.map D)) (.list (b.map D))=true from decide_eq_true (Nat.le_trans (Nat.min_le_left _ _) (Nat.le_trans h (by decide))),PyData.eqv,AT hD]; rfl
section
variable{α β γ:Type} [BEq α] [LawfulBEq α] [BEq β] [LawfulBEq β] [BEq γ] [LawfulBEq γ]
theorem mM{w:List α}{z:α}:z∈j6 w []↔z∈w:=(CO w z []).trans (or_iff_right List.not_mem_nil)
theorem zL(w:List α):(j6 w []).Nodup:=tY w [] List.nodup_nil
theorem FW{a b:List α}(h:∀ x,x∈a↔x∈b):(j6 a []).length=(j6 b []).length:=((List.perm_ext_iff_of_nodup (zL a) (zL b)).mpr fun x=>by rw[mM,mM]; exact h x).length_eq
theorem Q6(xs:List α):∀ acc:List α,(j6 xs acc).length=acc.length+xs.length→xs.Nodup∧∀ x∈xs,x∉acc:=by
 induction xs with
 | nil=>exact fun _ _=>⟨List.nodup_nil,nofun⟩
 | cons x xs ih =>
  intro acc h
  rw[j6]at h
  by_cases hc:acc.contains x=true
  ·rw[if_pos hc]at h
   have:=KR xs acc
   rw[h,List.length_cons]at this
   exact absurd (Nat.le_of_add_le_add_left this) (Nat.not_succ_le_self _)
  ·rw[if_neg hc]at h
   obtain⟨g1,g2⟩:=ih (acc++[x]) (h.trans (by rw[List.length_append,List.length_cons,List.length_singleton,Nat.add_assoc,Nat.add_comm 1]))
   refine⟨List.nodup_cons.mpr ⟨fun hx=>g2 x hx (List.mem_append_right _ (.head _)),g1⟩,fun y hy hm=>?_⟩
   rcases List.mem_cons.mp hy with rfl | hy
   ·exact hc (List.contains_iff_mem.mpr hm)
   ·exact g2 y hy (List.mem_append_left _ hm)
theorem JE{xs:List α}:(j6 xs []).length=xs.length↔xs.Nodup :=
 ⟨fun h=>(Q6 xs [] (h.trans (Nat.zero_add _).symm)).1,fun h=>((List.perm_ext_iff_of_nodup (zL xs) h).mpr fun x=>mM).length_eq⟩
theorem Q5{xs:List γ}{f:γ→α}{g:γ→β}(hfg:∀ x∈xs,∀ y∈xs,f x=f y→g x=g y):(j6 (xs.map g) []).length=(j6 (xs.map f) []).length↔∀ x∈xs,∀ y∈xs,g x=g y→f x=f y:=by
 by_cases hne:xs=[]
 ·subst hne; exact⟨fun _ _ h=>(nomatch h),fun _=>rfl⟩
 obtain⟨x0,r0,e0⟩:=List.exists_cons_of_ne_nil hne
 have:Nonempty γ:=⟨x0⟩
 have hG:∃ G:α→β,∀ x∈xs,G (f x)=g x:=⟨fun u=>g (Classical.epsilon fun x=>x∈xs∧f x=u),fun x hx=>by
  obtain⟨h1,h2⟩:=Classical.epsilon_spec (p:=fun y=>y∈xs∧f y=f x) ⟨x,hx,rfl⟩
  exact hfg _ h1 x hx h2⟩
 obtain⟨G,hG⟩:=hG
 have e1:(j6 (xs.map g) []).length=(j6 ((j6 (xs.map f) []).map G) []).length:=FW fun z=>by
  constructor
  ·intro h
   obtain⟨x,hx,rfl⟩:=List.mem_map.mp h
   exact List.mem_map.mpr ⟨f x,mM.mpr (List.mem_map_of_mem hx),hG x hx⟩
  ·intro h
   obtain⟨u,hu,rfl⟩:=List.mem_map.mp h
   obtain⟨x,hx,rfl⟩:=List.mem_map.mp (mM.mp hu)
   exact hG x hx▸List.mem_map_of_mem hx
 have e2:(j6 (xs.map f) []).length=((j6 (xs.map f) []).map G).length:=(List.length_map ..).symm
 rw[e1,e2,JE]
 have hnd:=zL (xs.map f)
 constructor
 ·intro h x hx y hy e
  obtain⟨i,hi,ei⟩:=List.getElem_of_mem (mM.mpr (List.mem_map_of_mem (f:=f) hx))
  obtain⟨j,hj,ej⟩:=List.getElem_of_mem (mM.mpr (List.mem_map_of_mem (f:=f) hy))
  have:((j6 (xs.map f) []).map G)[i]'(by rwa[List.length_map])=((j6 (xs.map f) []).map G)[j]'(by rwa[List.length_map]):=by
   rw[List.getElem_map,List.getElem_map,ei,ej,hG x hx,hG y hy,e]
  have:=(List.getElem_inj h).mp this
  subst this
  exact ei.symm.trans ej
 ·intro h
  refine List.pairwise_map.mpr (hnd.imp_of_mem fun{u v}hu hv huv e=>?_)
  obtain⟨x,hx,rfl⟩:=List.mem_map.mp (mM.mp hu)
  obtain⟨y,hy,rfl⟩:=List.mem_map.mp (mM.mp hv)
  rw[hG x hx,hG y hy]at e
  exact huv (h x hx y hy e)
end
noncomputable def jI(n:Nat):List (Nat×Nat):=(List.range n).flatMap fun i=>(List.range (n - i)).map fun k=>(i,i+1+k)
theorem kR{n:Nat}{p:Nat×Nat}:p∈jI n↔p.1<p.2∧p.2≤n:=by
 unfold jI
 rw[List.mem_flatMap]
 constructor
 ·rintro⟨i,hi,h⟩
  obtain⟨k,hk,rfl⟩:=List.mem_map.mp h
  have:=List.mem_range.mp hk
  exact⟨Nat.lt_of_lt_of_le (Nat.lt_succ_self i) (Nat.le_add_right (i+1) k),by show i+1+k≤n; rw[Nat.add_right_comm]; exact Nat.add_lt_of_lt_sub' this⟩
 ·intro⟨h1,h2⟩
  exact⟨p.1,List.mem_range.mpr (by exact lL [p.fst,p.snd,n] [ze o0,o1,o1,o2] (ze o0) o2 rfl h1 h2),List.mem_map.mpr ⟨p.2 - p.1 - 1,List.mem_range.mpr (by exact lL [p.snd,n,n - p.fst,p.fst,p.snd - p.fst - 1,p.snd - p.fst] [o0,o1,o1,zb o2 o3,ze o4,o5,zb o5 o3,o0] (ze o4) o2 rfl h2 (bN _ _) (bE (lL [p.fst,p.snd,p.snd - p.fst] [ze o0,o1,o1,zb o2 o0] vk o2 rfl h1 (bN _ _))) (bE (lL [p.fst,p.snd] [ze o0,o1] o0 o1 rfl h1))),Prod.ext rfl (by show p.1+1+(p.2 - p.1 - 1)=p.2; exact nA (lL [p.snd - p.fst - 1,p.snd - p.fst,p.fst,p.snd] [ze o0,o1,zb o1 o2,o3] (zb (ze o2) o0) o3 rfl (bE (lL [p.fst,p.snd,p.snd - p.fst] [ze o0,o1,o1,zb o2 o0] vk o2 rfl h1 (bN _ _))) (bE (lL [p.fst,p.snd] [ze o0,o1] o0 o1 rfl h1))) (lL [p.snd - p.fst,p.snd - p.fst - 1,p.snd,p.fst] [o0,ze o1,o2,zb o0 o3] o2 (zb (ze o3) o1) rfl (bN _ _) (bN _ _)))⟩⟩
noncomputable def kH(w:List Nat)(p:Nat×Nat):List Nat:=dE w p.1 (p.2 - p.1)
noncomputable def NR(w:List Nat)(p:Nat×Nat):List Nat×List Nat:=dU w p.1 (p.2 - p.1)
theorem RT(w:List Nat):(jI w.length).filter (fun p=>dN (kH w p))=hH w:=by
 unfold jI hH NP
 rw[List.filter_flatMap]
 refine congrArg (List.flatMap · (List.range w.length)) (funext fun i=>?_)
 unfold uY
 rw[List.filter_map]
 refine congrArg (List.map _) (List.filter_congr fun k _=>?_)
 show dN (dE w i (i+1+k - i))=_
 rw[show i+1+k - i=k+1 by exact nA (lL [i+1+k - i,i,k] [zb o0 o1,zb (ze o1) o2] o0 (ze o2) rfl (bE (lL [i,k] [] o0 (zb (ze o0) o1) rfl ))) (lL [i,k,i+1+k - i] [zb (ze o0) o1,zb o2 o0] (ze o1) o2 rfl (bN _ _))]
theorem yK{w:List Nat}{p:Nat×Nat}:p∈hH w↔(p.1<p.2∧p.2≤w.length)∧dN (kH w p)=true:=by rw[← RT,List.mem_filter,kR]
noncomputable def MN(w:List Nat):List (List Nat):=j6 ((hH w).map (kH w)) []
noncomputable def EN(w:List Nat):List (List Nat):=(List.range w.length).map fun k=>(dU w 0 (1+k)).2
noncomputable def HN(w:List Nat):List (List Nat):=(List.range w.length).map fun i=>(dU w i (w.length - i)).1
section
variable{w:List Nat}
theorem zH{u:List Nat}:u∈MN w↔∃ i l,0<l∧i+l≤w.length∧dN (dE w i l)=true∧u=dE w i l:=by
 unfold MN
 rw[mM,List.mem_map]
 constructor
 ·rintro⟨p,hp,rfl⟩
  obtain⟨⟨h1,h2⟩,h3⟩:=yK.mp hp
  exact⟨p.1,p.2 - p.1,by exact lL [p.fst,p.snd,p.snd - p.fst] [ze o0,o1,o1,zb o2 o0] vk o2 rfl h1 (bN _ _),by exact lL [p.snd,w.length,p.snd - p.fst,p.fst] [o0,o1,zb o2 o3,o0] (zb o3 o2) o1 rfl h2 (bE (lL [p.fst,p.snd] [ze o0,o1] o0 o1 rfl h1)),h3,rfl⟩
 ·rintro⟨i,l,h1,h2,h3,rfl⟩
  have e:kH w (i,i+l)=dE w i l:=by show dE w i (i+l - i)=_; rw[Nat.add_sub_cancel_left]
  exact⟨(i,i+l),yK.mpr ⟨⟨Nat.lt_add_of_pos_right h1,h2⟩,e▸h3⟩,e⟩
theorem VX{w:Nat→Nat}{i d:Nat}(h:0<d):∃ l,BJ w i d l:=by
 obtain⟨l,h1,⟨h2,h3⟩,h4⟩:=nY (P:=fun l=>0<l∧iW w i i l) (n:=d+1) ⟨1,Nat.succ_lt_succ h,Nat.one_pos,yH i⟩
 exact⟨l,h2,Nat.le_of_lt_succ h1,h3,fun l' g1 g2=>Nat.le_of_not_lt fun g=>h4 l' g (Nat.lt_succ_of_le g1) ⟨Nat.lt_trans h2 g,g2⟩⟩
theorem jE{i d:Nat}(h:0<d):BJ (w.getD · 0) i d (fJ w i d):=Classical.epsilon_spec (VX h)
theorem fO{i d:Nat}(h:0<d):∃ s,s+aO w i d=i+d∧zB (w.getD · 0) i s (aO w i d):=by
 obtain⟨s,l,h1,h2⟩:=J9 (w:=(w.getD · 0)) (i:=i) (e:=i+d) (Nat.lt_add_of_pos_right h)
 exact Classical.epsilon_spec (p:=fun m=>∃ s,s+m=i+d∧zB (w.getD · 0) i s m) ⟨l,s,h1,h2⟩
theorem wU{i l:Nat}(h0:0<l)(hl:i+l≤w.length)(hp:iW (w.getD · 0) i i l):∃ k,k<w.length∧k+1≤i+l∧(dU w 0 (1+k)).2=dE w i l:=by
 obtain⟨j,h1,h2,h3⟩:=gV (P:=fun j=>d8 (w.getD · 0) i j l) (t:=i) (d8.refl _ _)
 have hj:iW (w.getD · 0) j j l:=(h2.symm.mir hp).eqv h2
 obtain⟨s,e,L⟩:=fO (w:=w) (i:=0) (d:=1+(j+l - 1)) (by exact lL [j+l - 1] [] vk (zb vk o0) rfl )
 have hm:=L.max j l (Nat.zero_le _) (by exact nA (lL [j+l - 1,s,aO w 0 (1+(j+l - 1)),j,l] [zb (.num 0) (zb vk o0),zb o1 o2,zb o3 o4,ze o0] (zb o3 o4) (zb o1 o2) rfl (eR e) (bN _ _)) (lL [s,aO w 0 (1+(j+l - 1)),j+l - 1,j,l] [zb o0 o1,zb (.num 0) (zb vk o2),ze o2,zb o3 o4] (zb o0 o1) (zb o3 o4) rfl (eL e) (bE (lL [l,j] [vk,o0] vk (zb o1 o0) rfl h0)))) hj
 have e2:aO w 0 (1+(j+l - 1))=l:=by
  refine Nat.le_antisymm (Nat.le_of_not_lt fun h=>?_) hm
  have g:=L.mir.sub (x:=0) (m:=l) (y:=aO w 0 (1+(j+l - 1)) - l) (by exact nA (lL [aO w 0 (1+(j+l - 1)) - l,l,aO w 0 (1+(j+l - 1))] [zb o0 o1,o2] (zc (.num 0) o1 o0) o2 rfl (bE (lL [l,aO w 0 (1+(j+l - 1))] [ze o0,o1] o0 o1 rfl h))) (lL [aO w 0 (1+(j+l - 1)),aO w 0 (1+(j+l - 1)) - l,l] [o0,zb o1 o2] o0 (zc (.num 0) o2 o1) rfl (bN _ _)))
  rw[show s+(aO w 0 (1+(j+l - 1)) - l)=j by exact nA (lL [s,aO w 0 (1+(j+l - 1)),j+l - 1,j,l,aO w 0 (1+(j+l - 1)) - l] [zb o0 o1,zb (.num 0) (zb vk o2),ze o2,zb o3 o4,zb o5 o4,o1] (zb o0 o5) o3 rfl (eL e) (bE (lL [l,j] [vk,o0] vk (zb o1 o0) rfl h0)) (bE (lL [l,aO w 0 (1+(j+l - 1))] [ze o0,o1] o0 o1 rfl h))) (lL [j+l - 1,s,aO w 0 (1+(j+l - 1)),j,l,aO w 0 (1+(j+l - 1)) - l] [zb (.num 0) (zb vk o0),zb o1 o2,zb o3 o4,ze o0,o2,zb o5 o4] o3 (zb o1 o5) rfl (eR e) (bN _ _) (bN _ _))]at g
  exact h3 s (by exact lL [s,aO w 0 (1+(j+l - 1)),j+l - 1,l,j] [zb o0 o1,zb (.num 0) (zb vk o2),ze o3,o1,ze o2,zb o4 o3] (ze o0) o4 rfl (eL e) h (bE (lL [l,j] [vk,o0] vk (zb o1 o0) rfl h0))) (h2.trans (hj.mir g.symm))
 refine⟨j+l - 1,by exact lL [i,l,w.length,j,j+l - 1] [zb o0 o1,o2,o3,o0,ze o4,zb o3 o1] (ze o4) o2 rfl hl h1 (bE (lL [l,j] [vk,o0] vk (zb o1 o0) rfl h0)),by exact lL [j,i,j+l - 1,l] [o0,o1,ze o2,zb o0 o3] (ze o2) (zb o1 o3) rfl h1 (bE (lL [l,j] [vk,o0] vk (zb o1 o0) rfl h0)),?_⟩
 show dE w (0+(1+(j+l - 1)) - aO w 0 (1+(j+l - 1))) _=_
 rw[e2,show 0+(1+(j+l - 1)) - l=j by exact nA (lL [j+l - 1,j,l,0+(1+(j+l - 1)) - l] [ze o0,zb o1 o2,zb o3 o2,zb (.num 0) (zb vk o0)] o3 o1 rfl (bE (lL [l,j] [vk,o0] vk (zb o1 o0) rfl h0)) (bE (lL [j,l,j+l - 1] [zb o0 o1,ze o2] o1 (zb (.num 0) (zb vk o2)) rfl (bN _ _)))) (lL [j,l,j+l - 1,0+(1+(j+l - 1)) - l] [zb o0 o1,ze o2,zb (.num 0) (zb vk o2),zb o3 o1] o0 o3 rfl (bN _ _) (bN _ _))]
 exact(cX.mpr h2).symm
theorem MY{i l:Nat}(h0:0<l)(hl:i+l≤w.length)(hp:iW (w.getD · 0) i i l):∃ j,j<w.length∧(dU w j (w.length - j)).1=dE w i l:=by
 obtain⟨j,h1,h2,h3⟩:=nY (P:=fun j=>d8 (w.getD · 0) i j l) (n:=w.length - l+1) ⟨i,by exact lL [i,l,w.length,w.length - l] [zb o0 o1,o2,o2,zb o3 o1] (ze o0) (ze o3) rfl hl (bN _ _),d8.refl _ _⟩
 have hj:iW (w.getD · 0) j j l:=(h2.symm.mir hp).eqv h2
 have L:=jE (w:=w) (i:=j) (d:=w.length - j) (by exact lL [l,j,w.length - l,w.length,w.length - j] [vk,o0,ze o1,ze o2,o3,zb o4 o1,zb o2 o0,o3] vk o4 rfl h0 h1 (bN _ _) (bE (lL [i,l,w.length] [zb o0 o1,o2] o1 o2 rfl hl)))
 have hm:=L.max l (by exact lL [j,w.length - l,w.length,w.length - j,l] [ze o0,ze o1,o2,zb o3 o0,zb o1 o4,o2] o4 o3 rfl h1 (bN _ _) (bE (lL [i,l,w.length] [zb o0 o1,o2] o1 o2 rfl hl))) hj
 have hle:=L.le
 have e2:fJ w j (w.length - j)=l:=by
  refine Nat.le_antisymm (Nat.le_of_not_lt fun h=>?_) hm
  have g:=L.mir.sub (x:=0) (m:=l) (y:=fJ w j (w.length - j) - l) (by exact nA (lL [fJ w j (w.length - j) - l,l,fJ w j (w.length - j)] [zb o0 o1,o2] (zc (.num 0) o1 o0) o2 rfl (bE (lL [l,fJ w j (w.length - j)] [ze o0,o1] o0 o1 rfl h))) (lL [fJ w j (w.length - j),fJ w j (w.length - j) - l,l] [o0,zb o1 o2] o0 (zc (.num 0) o2 o1) rfl (bN _ _)))
  exact h3 _ (Nat.lt_add_of_pos_right (Nat.sub_pos_of_lt h)) (by exact lL [fJ w j (w.length - j),w.length - j,w.length,w.length - l,l,j,fJ w j (w.length - j) - l] [o0,o1,o2,zb o3 o4,zb o1 o5,o2,zb o6 o4,o0] (ze (zb o5 o6)) (ze o3) rfl hle (bN _ _) (bE (lL [l,j,w.length - l,w.length] [vk,o0,ze o1,ze o2,zb o2 o0,o3] o1 o3 rfl h0 h1 (bE (lL [fJ w j (w.length - j),w.length - j,l,w.length] [o0,o1,ze o2,o0,o1,o3] o2 o3 rfl hle h (Z9 _ _))))) (bE (lL [l,fJ w j (w.length - j)] [ze o0,o1] o0 o1 rfl h))) (h2.trans (hj.mir g))
 refine⟨j,by exact lL [l,j,w.length - l,w.length] [vk,o0,ze o1,ze o2,zb o2 o0,o3] (ze o1) o3 rfl h0 h1 (bE (lL [i,l,w.length] [zb o0 o1,o2] o1 o2 rfl hl)),?_⟩
 show dE w j (fJ w j (w.length - j))=_
 rw[e2]
 exact(cX.mpr h2).symm
theorem I4{u:List Nat}:u∈EN w↔u∈MN w:=by
 rw[zH]
 unfold EN
 constructor
 ·intro h
  obtain⟨k,hk,rfl⟩:=List.mem_map.mp h
  have hk:=List.mem_range.mp hk
  obtain⟨s,e,L⟩:=fO (w:=w) (i:=0) (d:=1+k) (by exact lL [k] [] vk (zb vk o0) rfl )
  exact⟨s,aO w 0 (1+k),L.pos,by exact lL [k,w.length,s,aO w 0 (1+k)] [ze o0,o1,zb o2 o3,zb (.num 0) (zb vk o0)] (zb o2 o3) o1 rfl hk (eL e),dQ.mpr L.mir,by show dE w (0+(1+k) - aO w 0 (1+k)) _=_; rw[show 0+(1+k) - aO w 0 (1+k)=s by exact nA (lL [k,s,aO w 0 (1+k),0+(1+k) - aO w 0 (1+k)] [zb (.num 0) (zb vk o0),zb o1 o2,zb o3 o2,zb (.num 0) (zb vk o0)] o3 o1 rfl (eR e) (bE (lL [s,aO w 0 (1+k),k] [zb o0 o1,zb (.num 0) (zb vk o2)] o1 (zb (.num 0) (zb vk o2)) rfl (eL e)))) (lL [s,aO w 0 (1+k),k,0+(1+k) - aO w 0 (1+k)] [zb o0 o1,zb (.num 0) (zb vk o2),zb (.num 0) (zb vk o2),zb o3 o1] o0 o3 rfl (eL e) (bN _ _))]⟩
 ·rintro⟨i,l,h1,h2,h3,rfl⟩
  obtain⟨k,hk,_,e⟩:=wU h1 h2 (dQ.mp h3)
  exact e▸List.mem_map.mpr ⟨k,List.mem_range.mpr hk,rfl⟩
theorem Y1{u:List Nat}:u∈HN w↔u∈MN w:=by
 rw[zH]
 unfold HN
 constructor
 ·intro h
  obtain⟨k,hk,rfl⟩:=List.mem_map.mp h
  have hk:=List.mem_range.mp hk
  have L:=jE (w:=w) (i:=k) (d:=w.length - k) (by exact lL [k,w.length,w.length - k] [ze o0,o1,o1,zb o2 o0] vk o2 rfl hk (bN _ _))
  have hle:=L.le
  exact⟨k,fJ w k (w.length - k),L.pos,by exact lL [fJ w k (w.length - k),w.length - k,k,w.length] [o0,o1,zb o1 o2,o3] (zb o2 o0) o3 rfl hle (bE (lL [k,w.length] [ze o0,o1] o0 o1 rfl hk)),dQ.mpr L.mir,rfl⟩
 ·rintro⟨i,l,h1,h2,h3,rfl⟩
  obtain⟨k,hk,e⟩:=MY h1 h2 (dQ.mp h3)
  exact e▸List.mem_map.mpr ⟨k,List.mem_range.mpr hk,rfl⟩
theorem SZ:(MN w).length=(j6 (EN w) []).length:=by
 have:(MN w).length=(j6 (MN w) []).length:=(JE.mpr (zL _)).symm
 rw[this]
 exact FW fun u=>I4.symm
theorem XM:(MN w).length≤w.length:=by
 rw[SZ]
 refine Nat.le_trans (KR _ _) ?_
 unfold EN
 rw[List.length_map,List.length_range,List.length_nil,Nat.zero_add]
 exact Nat.le_refl _
theorem D5{i:Nat}(h:i<(EN w).length):(EN w)[i]=(dU w 0 (1+i)).2:=(List.getElem_map (f:=fun k=>(dU w 0 (1+k)).2) (l:=List.range w.length) (h:=h)).trans (congrArg (fun k=>(dU w 0 (1+k)).2) (List.getElem_range ..))
theorem zW:(MN w).length=w.length↔D4 (w.getD · 0) w.length:=by
 have e:(EN w).length=w.length:=by unfold EN; rw[List.length_map,List.length_range]
 rw[SZ,show w.length=(EN w).length from e.symm,JE,e]
 constructor
 ·intro h s l hn L t ht he
  have hp:iW (w.getD · 0) t t l:=(he.mir L.mir).eqv he.symm
  obtain⟨k,hk,hkt,e1⟩:=wU L.pos (by exact lL [s,l,w.length,t] [zb o0 o1,o2,ze o3,o0] (zb o3 o1) o2 rfl hn ht) hp
  have e2:(dU w 0 (1+(s+l - 1))).2=dE w s l:=by
   have q:=nX (w:=w) (i:=0) (d:=1+(s+l - 1)) (s:=s) (by have:=L.pos; exact nA (lL [s,l,s+l - 1] [zb o0 o1,ze o2] (zb o0 o1) (zb (.num 0) (zb vk o2)) rfl (bN _ _)) (lL [s+l - 1,s,l] [ze o0,zb o1 o2] (zb (.num 0) (zb vk o0)) (zb o1 o2) rfl (bE (lL [t,s,l] [ze o0,o1,vk,o2] vk (zb o1 o2) rfl ht this)))) L
   show dE w (0+(1+(s+l - 1)) - aO w 0 (1+(s+l - 1))) _=_
   rw[q,show 0+(1+(s+l - 1)) - l=s by have:=L.pos; exact nA (lL [0+(1+(s+l - 1)) - l,l,s+l - 1,s] [zb o0 o1,zb (.num 0) (zb vk o2),ze o2,zb o3 o1] o0 o3 rfl (bE (lL [t,s,l,s+l - 1] [ze o0,o1,zb o1 o2,ze o3] o2 (zb (.num 0) (zb vk o3)) rfl ht (bN _ _))) (bE (lL [t,s,l] [ze o0,o1,vk,o2] vk (zb o1 o2) rfl ht this))) (lL [s+l - 1,0+(1+(s+l - 1)) - l,l,s] [zb (.num 0) (zb vk o0),zb o1 o2,zb o3 o2,ze o0] o3 o1 rfl (bN _ _) (bN _ _))]
  have e3:(EN w)[k]'(by rw[e]; exact hk)=(EN w)[s+l - 1]'(by rw[e]; have:=L.pos; exact lL [s,l,w.length,s+l - 1] [zb o0 o1,o2,ze o3,zb o0 o1] (ze o3) o2 rfl hn (bE (lL [t,s,l] [ze o0,o1,vk,o2] vk (zb o1 o2) rfl ht this))):=by
   rw[D5,D5,e1,e2]
   exact cX.mpr he
  have e4:=(List.getElem_inj h).mp e3
  have:=L.pos
  exact lF [t,s,k,l,s+l - 1] [ze o0,o1,ze o2,zb o0 o3,o4,o2,zb o1 o3,ze o4] rfl ht hkt (eR e4) (bN _ _)
 ·intro h
  refine List.pairwise_iff_getElem.mpr fun i j hi hj hij he=>?_
  rw[D5,D5]at he
  rw[e]at hi hj
  obtain⟨s,e1,L⟩:=fO (w:=w) (i:=0) (d:=1+i) (by exact lL [i] [] vk (zb vk o0) rfl )
  obtain⟨s',e1',L'⟩:=fO (w:=w) (i:=0) (d:=1+j) (by exact lL [j] [] vk (zb vk o0) rfl )
  have he:dE w s (aO w 0 (1+i))=dE w s' (aO w 0 (1+j)):=by
   have:dE w (0+(1+i) - aO w 0 (1+i)) (aO w 0 (1+i))=dE w (0+(1+j) - aO w 0 (1+j)) (aO w 0 (1+j)):=he
   rwa[show 0+(1+i) - aO w 0 (1+i)=s by exact nA (lL [i,s,aO w 0 (1+i),0+(1+i) - aO w 0 (1+i)] [zb (.num 0) (zb vk o0),zb o1 o2,zb o3 o2,zb (.num 0) (zb vk o0)] o3 o1 rfl (eR e1) (bE (lL [s,aO w 0 (1+i),i] [zb o0 o1,zb (.num 0) (zb vk o2)] o1 (zb (.num 0) (zb vk o2)) rfl (eL e1)))) (lL [s,aO w 0 (1+i),i,0+(1+i) - aO w 0 (1+i)] [zb o0 o1,zb (.num 0) (zb vk o2),zb (.num 0) (zb vk o2),zb o3 o1] o0 o3 rfl (eL e1) (bN _ _)),show 0+(1+j) - aO w 0 (1+j)=s' by exact nA (lL [j,s',aO w 0 (1+j),0+(1+j) - aO w 0 (1+j)] [zb (.num 0) (zb vk o0),zb o1 o2,zb o3 o2,zb (.num 0) (zb vk o0)] o3 o1 rfl (eR e1') (bE (lL [s',aO w 0 (1+j),j] [zb o0 o1,zb (.num 0) (zb vk o2)] o1 (zb (.num 0) (zb vk o2)) rfl (eL e1')))) (lL [s',aO w 0 (1+j),j,0+(1+j) - aO w 0 (1+j)] [zb o0 o1,zb (.num 0) (zb vk o2),zb (.num 0) (zb vk o2),zb o3 o1] o0 o3 rfl (eL e1') (bN _ _))]at this
  have hlen:aO w 0 (1+i)=aO w 0 (1+j):=bJ.symm.trans ((congrArg List.length he).trans bJ)
  rw[← hlen]at he L' e1'
  exact h s' _ (by exact lL [j,w.length,s',aO w 0 (1+i)] [ze o0,o1,zb o2 o3,zb (.num 0) (zb vk o0)] (zb o2 o3) o1 rfl hj (eL e1')) L' s (by exact lL [i,j,s,aO w 0 (1+i),s'] [ze o0,o1,zb o2 o3,zb (.num 0) (zb vk o0),zb (.num 0) (zb vk o1),zb o4 o3] (ze o2) o4 rfl hij (eL e1) (eR e1')) (cX.mp he)
theorem zX:BP (w.getD · 0) w.length↔D4 (w.getD · 0) w.length:=⟨yX,fun h i d l h1 h2 h3 h4 h5 h6=>yY h _ i d l rfl h1 h2 h3 h4 h5 h6⟩
theorem NH:(∀ u∈MN w,∀ q a,GG w u q a→dN (dE w q (a - q+u.length))=true)↔BP (w.getD · 0) w.length:=by
 constructor
 ·intro h i d l hd hl hn hm he hu
  have hfl:(dE w i l).length=l:=bJ
  have:=h (dE w i l) (zH.mpr ⟨i,l,hl,by exact lL [d,i,l,w.length] [vk,o0,zc o1 o0 o2,o3] (zb o1 o2) o3 rfl hd hn,dQ.mpr hm,rfl⟩) i (i+d) ⟨Nat.lt_add_of_pos_right hd,⟨by rw[hfl]; exact lL [d,i,l,w.length] [vk,o0,zc o1 o0 o2,o3] (zb o1 o2) o3 rfl hd hn,by rw[hfl]⟩,⟨by rw[hfl]; exact hn,by rw[hfl]; exact(cX.mpr he).symm⟩,fun j g1 g2 g3=>by
   obtain⟨x,rfl⟩:∃ x,j=i+x:=⟨j - i,by exact nA (lL [j,j - i,i] [o0,zb o1 o2] o0 (zb o2 o1) rfl (bN _ _)) (lL [j - i,i,j] [zb o0 o1,o2] (zb o1 o0) o2 rfl (bE (lL [i,j] [ze o0,o1] o0 o1 rfl g1)))⟩
   obtain⟨g4,g5⟩:=g3
   rw[hfl]at g4 g5
   exact hu x (by exact lL [i,x] [ze o0,zb o0 o1] vk o1 rfl g1) (by exact lL [i,x,d] [ze (zb o0 o1),zb o0 o2] (ze o1) o2 rfl g2) (cX.mp g5.symm)⟩
  rw[hfl,Nat.add_sub_cancel_left]at this
  exact dQ.mp this
 ·intro h u hu q a ⟨h1,h2,h3,h4⟩
  obtain⟨i,l,hl,hn,hp,rfl⟩:=zH.mp hu
  have hfl:(dE w i l).length=l:=bJ
  have oc:∀{j},BG w (dE w i l) j↔j+l≤w.length∧d8 (w.getD · 0) i j l:=fun{j}=>by
   unfold BG
   rw[hfl]
   exact and_congr_right fun g=>⟨fun e=>cX.mp e.symm,fun e=>(cX.mpr e).symm⟩
  obtain⟨g1,g2⟩:=oc.mp h2
  obtain⟨g3,g4⟩:=oc.mp h3
  obtain⟨d,rfl⟩:∃ d,a=q+d:=⟨a - q,by exact nA (lL [a,a - q,q] [o0,zb o1 o2] o0 (zb o2 o1) rfl (bN _ _)) (lL [a - q,q,a] [zb o0 o1,o2] (zb o1 o0) o2 rfl (bE (lL [q,a] [ze o0,o1] o0 o1 rfl h1)))⟩
  rw[hfl,Nat.add_sub_cancel_left]
  exact dQ.mpr (h q d l (by exact lL [q,d] [ze o0,zb o0 o1] vk o1 rfl h1) hl g3 ((g2.symm.mir (dQ.mp hp)).eqv g2) (g2.symm.trans g4) fun x k1 k2 k3=>h4 (q+x) (by exact lL [x,q] [vk,o0] (ze o1) (zb o1 o0) rfl k1) (by exact lL [x,d,q] [ze o0,o1] (ze (zb o2 o0)) (zb o2 o1) rfl k2) (oc.mpr ⟨by exact lL [q,d,l,w.length,x] [zc o0 o1 o2,o3,ze o4,o1] (zc o0 o4 o2) o3 rfl g3 k2,g2.trans k3⟩))
theorem PA{i i' d:Nat}(hi:i+d≤w.length)(hi':i'+d≤w.length)(hd:0<d)(h:d8 (w.getD · 0) i i' d):dU w i d=dU w i' d:=by
 have L:=jE (w:=w) (i:=i) hd
 have hle:=L.le
 have e1:fJ w i' d=fJ w i d:=rN ⟨L.pos,L.le,((h.symm.sub 0 (by exact lL [fJ w i d,d] [o0,o1] (zb (.num 0) o0) o1 rfl hle)).mir L.mir).eqv (h.sub 0 (by exact lL [fJ w i d,d] [o0,o1] (zb (.num 0) o0) o1 rfl hle)),fun l' g1 g2=>L.max l' g1 (((h.sub 0 (by exact lL [l',d] [o0,o1] (zb (.num 0) o0) o1 rfl g1)).mir g2).eqv (h.symm.sub 0 (by exact lL [l',d] [o0,o1] (zb (.num 0) o0) o1 rfl g1)))⟩
 obtain⟨s,e,Q⟩:=fO (w:=w) (i:=i) hd
 have hs:=Q.le
 have hq:=Q.pos
 have tr:∀{s l},i≤s→s+l=i+d→d8 (w.getD · 0) s (i'+(s - i)) l:=fun{s l}g1 g2=>by
  have:=h.sub (s - i) (m:=l) (by exact lL [s,l,i,d,s - i] [zb o0 o1,zb o2 o3,zb o4 o2,o0] (zb o4 o1) o3 rfl (eL g2) (bE (lL [i,s] [o0,o1] o0 o1 rfl g1)))
  rwa[Nat.add_sub_cancel' g1]at this
 have e2:aO w i' d=aO w i d:=nX (s:=i'+(s - i)) (by exact nA (lL [s,aO w i d,i,d,s - i,i'] [zb o0 o1,zb o2 o3,zb o4 o2,o0] (zc o5 o4 o1) (zb o5 o3) rfl (eL e) (bE (lL [i,s] [o0,o1] o0 o1 rfl hs))) (lL [i,d,s,aO w i d,s - i,i'] [zb o0 o1,zb o2 o3,o2,zb o4 o0] (zb o5 o1) (zc o5 o4 o3) rfl (eR e) (bN _ _))) ⟨Nat.le_add_right _ _,Q.pos,((tr hs e).symm.mir Q.mir).eqv (tr hs e),fun s' l' g0 g1 g2=>by
  have t:=tr (s:=i+(s' - i')) (l:=l') (by exact lL [i,s' - i'] [] o0 (zb o0 o1) rfl ) (by exact nA (lL [s,aO w i d,i,d,s',l',i',s - i,s' - i'] [zb o0 o1,zb o2 o3,zb o4 o5,zc o6 o7 o1,zb o7 o2,o0,zb o8 o6,o4] (zc o2 o8 o5) (zb o2 o3) rfl (eL e) (eL g1) (bE (lL [i,s] [o0,o1] o0 o1 rfl hs)) (bE (lL [i',s'] [o0,o1] o0 o1 rfl g0))) (lL [i,d,s,aO w i d,i',s - i,s',l',s' - i'] [zb o0 o1,zb o2 o3,zc o4 o5 o3,zb o6 o7,o2,zb o5 o0,o6,zb o8 o4] (zb o0 o1) (zc o0 o8 o7) rfl (eR e) (eR g1) (bN _ _) (bN _ _)))
  rw[show i'+(i+(s' - i') - i)=s' by exact nA (lL [i+(s' - i') - i,i,s' - i',i',s'] [zb o0 o1,zb o1 o2,zb o2 o3,o4] (zb o3 o0) o4 rfl (bE (lL [i,s' - i'] [] o0 (zb o0 o1) rfl )) (bE (lL [i',s'] [o0,o1] o0 o1 rfl g0))) (lL [i,s' - i',i+(s' - i') - i,s',i'] [zb o0 o1,zb o2 o0,o3,zb o1 o4] o3 (zb o4 o2) rfl (bN _ _) (bN _ _))]at t
  exact Q.max (i+(s' - i')) l' (by exact lL [i,s' - i'] [] o0 (zb o0 o1) rfl ) (by exact nA (lL [s',l',i',s - i,aO w i d,i,s,s' - i'] [zb o0 o1,zc o2 o3 o4,zb o3 o5,o6,zb o7 o2,o0] (zc o5 o7 o1) (zb o6 o4) rfl (eL g1) (bE (lL [i,s] [o0,o1] o0 o1 rfl hs)) (bE (lL [i',s'] [o0,o1] o0 o1 rfl g0))) (lL [i',s - i,aO w i d,s',l',s,i,s' - i'] [zc o0 o1 o2,zb o3 o4,o5,zb o1 o6,o3,zb o7 o0] (zb o5 o2) (zc o6 o7 o4) rfl (eR g1) (bN _ _) (bN _ _))) ((t.mir g2).eqv t.symm)⟩
 unfold dU
 rw[e1,e2]
 refine Prod.ext (cX.mpr (h.sub 0 (by exact lL [fJ w i d,d] [o0,o1] (zb (.num 0) o0) o1 rfl hle))) (cX.mpr ?_)
 have t:=tr hs e
 rwa[show i+d - aO w i d=s by exact nA (lL [i,d,s,aO w i d,i+d - aO w i d] [zb o0 o1,zb o2 o3,zb o4 o3,zb o0 o1] o4 o2 rfl (eR e) (bE (lL [s,aO w i d,i,d] [zb o0 o1,zb o2 o3] o1 (zb o2 o3) rfl (eL e)))) (lL [s,aO w i d,i,d,i+d - aO w i d] [zb o0 o1,zb o2 o3,zb o2 o3,zb o4 o1] o0 o4 rfl (eL e) (bN _ _)),show i'+d - aO w i d=i'+(s - i) by exact nA (lL [i,d,s,aO w i d,s - i,i'+d - aO w i d,i'] [zb o0 o1,zb o2 o3,o2,zb o4 o0,zb o5 o3,zb o6 o1] o5 (zb o6 o4) rfl (eR e) (bN _ _) (bE (lL [s,aO w i d,i,d,i'] [zb o0 o1,zb o2 o3,o2,o0] o1 (zb o4 o3) rfl (eL e) hs))) (lL [s,aO w i d,i,d,i',i'+d - aO w i d,s - i] [zb o0 o1,zb o2 o3,zb o4 o3,zb o5 o1,zb o6 o2,o0] (zb o4 o6) o5 rfl (eL e) (bN _ _) (bE (lL [i,s] [o0,o1] o0 o1 rfl hs)))]
theorem G0:(j6 ((jI w.length).map (NR w)) []).length=(j6 ((jI w.length).map (kH w)) []).length↔BP (w.getD · 0) w.length:=by
 have split:∀{p:Nat×Nat},p∈jI w.length→0<p.2 - p.1∧p.1+(p.2 - p.1)≤w.length:=fun h=>have h:=kR.mp h; ⟨Nat.sub_pos_of_lt h.1,Nat.le_trans (Nat.le_of_eq (Nat.add_sub_cancel' (Nat.le_of_lt h.1))) h.2⟩
 rw[Q5 (f:=kH w) (g:=NR w) fun x hx y hy e=>by
  obtain⟨a1,a2⟩:=split hx
  obtain⟨b1,b2⟩:=split hy
  have e:dE w x.1 (x.2 - x.1)=dE w y.1 (y.2 - y.1):=e
  have hl:x.2 - x.1=y.2 - y.1:=bJ.symm.trans ((congrArg List.length e).trans bJ)
  unfold NR
  rw[← hl]at e b2 ⊢
  exact PA a2 b2 a1 (cX.mp e)]
 constructor
 ·intro h i d l hd hl hn hm he hu
  refine Classical.byContradiction fun hr=>?_
  obtain⟨P1,Q1,P2,Q2⟩:=QD hl hm he hu hr
  have m1:(i,i+d+l)∈jI w.length:=kR.mpr ⟨by show i<i+d+l; exact lL [d,l,i] [vk,o0,vk,o1] (ze o2) (zc o2 o0 o1) rfl hd hl,hn⟩
  have m2:(i,i+l)∈jI w.length:=kR.mpr ⟨by show i<i+l; exact lL [l,i] [vk,o0] (ze o1) (zb o1 o0) rfl hl,by show i+l≤_; exact lL [d,i,l,w.length] [vk,o0,zc o1 o0 o2,o3] (zb o1 o2) o3 rfl hd hn⟩
  have g:=h _ m1 _ m2 (by
   show dU w i (i+d+l - i)=dU w i (i+l - i)
   rw[show i+d+l - i=d+l by exact nA (lL [i+d+l - i,i,d,l] [zb o0 o1,zc o1 o2 o3] o0 (zb o2 o3) rfl (bE (lL [d,l,i] [vk,o0,vk,o1] o2 (zc o2 o0 o1) rfl hd hl))) (lL [i,d,l,i+d+l - i] [zc o0 o1 o2,zb o3 o0] (zb o1 o2) o3 rfl (bN _ _)),Nat.add_sub_cancel_left]
   unfold dU
   rw[rN P1,rN P2,nX (by exact nA (lL [i,d,l] [] (zc o0 o1 o2) (zb o0 (zb o1 o2)) rfl ) (lL [i,d,l] [] (zb o0 (zb o1 o2)) (zc o0 o1 o2) rfl )) Q1,nX rfl Q2,show i+(d+l) - l=i+d by exact nA (lL [i+(d+l) - l,l,i,d] [zb o0 o1,zb o2 (zb o3 o1)] o0 (zb o2 o3) rfl (bE (lL [d,l,i] [vk,o0] o1 (zb o2 (zb o0 o1)) rfl hd))) (lL [i,d,l,i+(d+l) - l] [zb o0 (zb o1 o2),zb o3 o2] (zb o0 o1) o3 rfl (bN _ _)),Nat.add_sub_cancel]
   exact Prod.ext rfl (cX.mpr he.symm))
  have g:dE w i (i+d+l - i)=dE w i (i+l - i):=g
  have:=congrArg List.length g
  rw[bJ,bJ]at this
  exact lF [d,i+d+l - i,i+l - i,i,l] [vk,o0,o1,o2,zc o3 o0 o4,zb o1 o3,zb o2 o3,zb o3 o4] rfl hd (eL this) (bN _ _) (bE (lL [l,i] [vk,o0] o1 (zb o1 o0) rfl hl))
 ·intro R
  have main:∀ x∈jI w.length,∀ y∈jI w.length,x.1≤y.1→NR w x=NR w y→kH w x=kH w y:=fun x hx y hy hxy e=>by
   obtain⟨a1,a2⟩:=split hx
   obtain⟨b1,b2⟩:=split hy
   have P:=jE (w:=w) (i:=x.1) a1
   have P':=jE (w:=w) (i:=y.1) b1
   obtain⟨s,hs,Q⟩:=fO (w:=w) (i:=x.1) a1
   obtain⟨s',hs',Q'⟩:=fO (w:=w) (i:=y.1) b1
   have p1:=P.le
   have p2:=P'.le
   have q1:=Q.le
   have q2:=Q'.le
   have e1:dE w x.1 (fJ w x.1 (x.2 - x.1))=dE w y.1 (fJ w y.1 (y.2 - y.1)):=congrArg Prod.fst e
   have e2:dE w (x.1+(x.2 - x.1) - aO w x.1 (x.2 - x.1)) (aO w x.1 (x.2 - x.1))=dE w (y.1+(y.2 - y.1) - aO w y.1 (y.2 - y.1)) (aO w y.1 (y.2 - y.1)):=congrArg Prod.snd e
   rw[show x.1+(x.2 - x.1) - aO w x.1 (x.2 - x.1)=s by exact nA (lL [x.fst,x.snd - x.fst,s,aO w x.fst (x.snd - x.fst),x.fst+(x.snd - x.fst) - aO w x.fst (x.snd - x.fst)] [zb o0 o1,zb o2 o3,zb o4 o3,zb o0 o1] o4 o2 rfl (eR hs) (bE (lL [s,aO w x.fst (x.snd - x.fst),x.fst,x.snd - x.fst] [zb o0 o1,zb o2 o3] o1 (zb o2 o3) rfl (eL hs)))) (lL [s,aO w x.fst (x.snd - x.fst),x.fst,x.snd - x.fst,x.fst+(x.snd - x.fst) - aO w x.fst (x.snd - x.fst)] [zb o0 o1,zb o2 o3,zb o2 o3,zb o4 o1] o0 o4 rfl (eL hs) (bN _ _)),show y.1+(y.2 - y.1) - aO w y.1 (y.2 - y.1)=s' by exact nA (lL [y.fst,y.snd - y.fst,s',aO w y.fst (y.snd - y.fst),y.fst+(y.snd - y.fst) - aO w y.fst (y.snd - y.fst)] [zb o0 o1,zb o2 o3,zb o4 o3,zb o0 o1] o4 o2 rfl (eR hs') (bE (lL [s',aO w y.fst (y.snd - y.fst),y.fst,y.snd - y.fst] [zb o0 o1,zb o2 o3] o1 (zb o2 o3) rfl (eL hs')))) (lL [s',aO w y.fst (y.snd - y.fst),y.fst,y.snd - y.fst,y.fst+(y.snd - y.fst) - aO w y.fst (y.snd - y.fst)] [zb o0 o1,zb o2 o3,zb o2 o3,zb o4 o1] o0 o4 rfl (eL hs') (bN _ _))]at e2
   have l1:fJ w x.1 (x.2 - x.1)=fJ w y.1 (y.2 - y.1):=bJ.symm.trans ((congrArg List.length e1).trans bJ)
   have l2:aO w x.1 (x.2 - x.1)=aO w y.1 (y.2 - y.1):=bJ.symm.trans ((congrArg List.length e2).trans bJ)
   rw[← l1]at e1 P' p2
   rw[← l2]at e2 Q' hs'
   obtain⟨g1,g2⟩:=L4 R a2 b2 P Q hs P' Q' hs' (cX.mp e1) (cX.mp e2) hxy
   show dE w x.1 (x.2 - x.1)=dE w y.1 (y.2 - y.1)
   rw[← g1]at b2 ⊢
   exact cX.mpr g2
  exact fun x hx y hy e=>(Nat.le_total x.1 y.1).elim (fun h=>main x hx y hy h e) fun h=>(main y hy x hx h e.symm).symm
end
noncomputable abbrev mB:Nat→List PyData→Option PyData:=cG cH DQ 1002 19
noncomputable def MX:pB:=match Ac.body with | .cons _ r=>(match r with | .cons _ r=>r | .nil=>.nil)| .nil=>.nil
noncomputable abbrev lE(scr drn:PyData)(x2 x3 x4 x5 x6 x7 x8 x9 x10 x11:Option PyData):aW:=[some scr,some drn,x2,x3,x4,x5,x6,x7,x8,x9,x10,x11,none,none,none]
theorem Q3(a b:List Nat):sA .Eq (aD a) (aD b)=some (.bool (a==b)):=by
 show(if pD (aD a) (aD b)=true then some (PyData.bool (PyData.eqv (aD a) (aD b)))else none)=_
 rw[AU,gW]; rfl
theorem KQ(a b:Nat):sA .Eq (.int (a:Int)) (.int (b:Int))=some (.bool (a==b)):=by
 show some (PyData.bool ((a:Int)==(b:Int)))=_
 by_cases h:a=b
 ·rw[h,beq_self_eq_true,beq_self_eq_true]
 ·rw[beq_false_of_ne h]; exact congrArg (fun b=>some (PyData.bool b)) (beq_false_of_ne fun e=>h (Int.ofNat.inj e))
section
variable{cl:Nat→List PyData→Option PyData}{ρ:aW}{elt:PE}{i:PI}{x y:Nat}
theorem yO{α:Type}{k1 k2 g:α→PyData}{as:List α}(hi:zA cl i ρ=some (as.map fun a=>.list [k1 a,k2 a]))(he:∀ a∈as,aH cl elt ((((ρ.set x none).set y none).set x (some (k1 a))).set y (some (k2 a)))=some (g a))(hl:as.length≤1000000):aH cl (.comp elt (.two x y) i .no .nil) ρ=some (.list (as.map g)) :=
 (uN (p:=fun _=>true) hi (fun _ _=>rfl) (fun a ha _=>he a ha) hl).trans (by rw[List.filter_eq_self.mpr fun _ _=>rfl])
theorem Bd{a b c d:PE}{p q r s:PyData}(h1:aH cl a ρ=some p)(h2:aH cl b ρ=some q)(h3:aH cl c ρ=some r)(h4:aH cl d ρ=some s):kE cl (.cons a (.cons b (.cons c (.cons d .nil)))) ρ=some [p,q,r,s]:=(congrArg (Option.bind · _) h1).trans (congrArg (Option.map _) (SP h2 h3 h4))
end
theorem kJ{cl:Nat→List PyData→Option PyData}{F x:Nat}{e:PE}{ss:pB}{σ:eV}{d:PyData}{r:Option Fl}(env:aW)(h:aH cl e σ.env=some d)(he:σ.env.set x (some d)=env)(g:∀ own,dO cl F ss ⟨env,own⟩=r):dO cl F (.cons (.assign x e) ss) σ=r:=by
 subst he
 exact(aZ (dX h)).trans (g _)
theorem sW{n:Nat}(h:n≤20):(jI n).length≤400 :=
 Nat.le_trans (xQ (c:=20) fun i _=>by rw[List.length_map,List.length_range]; exact Nat.le_trans (Nat.sub_le _ _) h) (by rw[List.length_range]; exact Nat.mul_le_mul_right 20 h)
theorem RU{w:List Nat}(h:w.length≤20):(hH w).length≤400:=JS h (by rw[List.length_range]; exact h)
section
variable{w:List Nat}{scr drn:PyData}{x2 x3 x4 x5 x6 x7 x8 x9 x10 x11:Option PyData}
theorem xR{ρ:aW}{p:Nat×Nat}(hl:w.length≤20)(hp:p.1<p.2∧p.2≤w.length){a b:PE}(h2:aH mB (.var 2) ρ=some (aD w))(h12:aH mB a ρ=some (.int (p.1:Int)))(h13:aH mB b ρ=some (.int (p.2:Int))):aH mB (.slc (.var 2) (.yes a) (.yes b)) ρ=some (aD (kH w p)) :=
 rU (w:=w) (p:=p.1) (q:=p.2) (k:=p.2 - p.1) (by rw[Nat.add_sub_cancel' (Nat.le_of_lt hp.1)]; exact hp.2) h2 h12 h13 (Nat.add_sub_cancel' (Nat.le_of_lt hp.1)).symm (Nat.le_trans hp.2 (Nat.le_trans hl (by decide)))
theorem yN{ρ:aW}{p:Nat×Nat}(hl:w.length≤20)(hp:p.1<p.2∧p.2≤w.length){a b:PE}(h2:aH mB (.var 2) ρ=some (aD w))(h4:aH mB (.var 4) ρ=some (dD (hH w)))(h12:aH mB a ρ=some (.int (p.1:Int)))(h13:aH mB b ρ=some (.int (p.2:Int))):aH mB (.call 4 (.cons (.var 2) (.cons (.var 4) (.cons a (.cons b .nil))))) ρ=some (BH (NR w p)):=by
 have h:=(L3 (tab:=cH) (f:=4) (prim:=DQ) (F:=1002) (l:=18) (w:=w) (i:=p.1) (d:=p.2 - p.1) rfl hl (Nat.sub_pos_of_lt hp.1) (by rw[Nat.add_sub_cancel' (Nat.le_of_lt hp.1)]; exact hp.2)).1
 rw[Nat.add_sub_cancel' (Nat.le_of_lt hp.1)]at h
 exact rV (Bd h2 h4 h12 h13) h
theorem WH{ρ:aW}{a:PE}{p:List Nat×List Nat}(h:aH mB a ρ=some (BH p)):aH mB (.idx a (.lit (.int 0))) ρ=some (aD p.1):=xT (l:=[aD p.1,aD p.2]) (p:=0) h rfl (by decide) rfl
theorem WD{ρ:aW}{a:PE}{p:List Nat×List Nat}(h:aH mB a ρ=some (BH p)):aH mB (.idx a (.lit (.int 1))) ρ=some (aD p.2):=xT (l:=[aD p.1,aD p.2]) (p:=1) h rfl (by decide) rfl
theorem ZL(hl:w.length≤20):aH mB (.comp (.list (.cons (.var 12) (.cons (.var 13) .nil))) (.one 12) (.range1 (.var 3)) .no (.cons (.one 13) (.range2 (.bin .Add (.var 12) (.lit (.int 1))) (.bin .Add (.var 3) (.lit (.int 1)))) .no .nil)) (lE scr drn x2 (some (.int (w.length:Int))) x4 x5 x6 x7 x8 x9 x10 x11)=some (dD (jI w.length)):=by
 have h20:w.length≤1000000:=Nat.le_trans hl (by decide)
 have h:=QZ (cl:=mB) (ρ:=lE scr drn x2 (some (.int (w.length:Int))) x4 x5 x6 x7 x8 x9 x10 x11) (elt:=.list (.cons (.var 12) (.cons (.var 13) .nil))) (x:=12) (i:=.range1 (.var 3)) (g:=.cons (.one 13) (.range2 (.bin .Add (.var 12) (.lit (.int 1))) (.bin .Add (.var 3) (.lit (.int 1)))) .no .nil)
  (as:=List.range w.length) (k:=fun k:Nat=>PyData.int ((0+k:Nat):Int)) (G:=fun i=>(List.range (w.length - i)).flatMap fun k=>[NT (i,i+1+k)]) (xS rfl h20) (fun i hi=>by
   have hi:=List.mem_range.mp hi
   rw[Nat.zero_add]
   have hr:=tE (cl:=mB) (ρ:=(NW ([12]++u0 (.cons (.one 13) (.range2 (.bin .Add (.var 12) (.lit (.int 1))) (.bin .Add (.var 3) (.lit (.int 1)))) .no .nil)) (lE scr drn x2 (some (.int (w.length:Int))) x4 x5 x6 x7 x8 x9 x10 x11)).set 12 (some (.int (i:Int)))) (a:=.bin .Add (.var 12) (.lit (.int 1))) (b:=.bin .Add (.var 3) (.lit (.int 1))) (p:=i+1) (q:=w.length+1) (dR (p:=i) (q:=1) rfl rfl) (dR (p:=w.length) (q:=1) rfl rfl) (Nat.le_trans (Nat.succ_le_of_lt hi) h20) (Nat.le_trans (Nat.succ_le_succ hl) (by decide))
   rw[Nat.add_sub_add_right]at hr
   exact(congrArg (Option.bind · _) hr).trans (rM (g:=fun k=>[NT (i,i+1+k)]) fun k _=>by
    show Option.map (fun d=>[d]) (aH mB (.list (.cons (.var 12) (.cons (.var 13) .nil))) (((NW ([12]++u0 (.cons (.one 13) (.range2 (.bin .Add (.var 12) (.lit (.int 1))) (.bin .Add (.var 3) (.lit (.int 1)))) .no .nil)) (lE scr drn x2 (some (.int (w.length:Int))) x4 x5 x6 x7 x8 x9 x10 x11)).set 12 (some (.int (i:Int)))).set 13 (some (.int ((i+1+k:Nat):Int)))))=_
    exact congrArg (Option.map _) (DZ (i:=i) (j:=i+1+k) rfl rfl))) (Nat.le_trans (xQ (c:=20) fun i _=>Nat.le_trans (xQ (c:=1) fun _ _=>Nat.le_refl 1) (by rw[List.length_range,Nat.mul_one]; exact Nat.le_trans (Nat.sub_le _ _) hl)) (by rw[List.length_range]; exact Nat.le_trans (Nat.mul_le_mul_right 20 hl) (by decide)))
 refine h.trans (congrArg (fun l=>some (PyData.list l)) ?_)
 unfold jI
 rw[List.map_flatMap]
 refine congrArg (List.flatMap · _) (funext fun i=>?_)
 rw[List.map_map,List.map_eq_flatMap]; rfl
end
theorem Y5{w:List Nat}{scr drn:PyData}{own:List Nat}(hw:∀ c∈w,oZ c=true)(h1:0<w.length)(hl:w.length≤20):dO mB 1002 MX ⟨lE scr drn (some (aD w)) none none none none none none none none none,own⟩=some (.ret (.bool true)):=by
 have hne:w≠[]:=List.length_pos_iff.mp h1
 have h9:w.length≤900:=Nat.le_trans hl (by decide)
 have e3:aH mB (.bi .len (.cons (.var 2) .nil)) (lE scr drn (some (aD w)) none none none none none none none none none)=some (.int (w.length:Int)):=(tF (l:=w.map wD) rfl).trans (by rw[List.length_map])
 refine kJ (lE scr drn (some (aD w)) (some (.int (w.length:Int))) none none none none none none none none) e3 rfl fun own=>?_
 have e4:aH mB (.call 1 (.cons (.var 2) .nil)) (lE scr drn (some (aD w)) (some (.int (w.length:Int))) none none none none none none none none)=some (dD (hH w)):=eE (x:=aD w) rfl (GQ hw hl fun u hu hul=>c7 hu hul)
 refine kJ (lE scr drn (some (aD w)) (some (.int (w.length:Int))) (some (dD (hH w))) none none none none none none none) e4 rfl fun own=>kJ (lE scr drn (some (aD w)) (some (.int (w.length:Int))) (some (dD (hH w))) (some (dD (jI w.length))) none none none none none none) (ZL hl) rfl fun own=>?_
 have m0:=uN (cl:=mB) (ρ:=lE scr drn (some (aD w)) (some (.int (w.length:Int))) (some (dD (hH w))) (some (dD (jI w.length))) none none none none none none) (elt:=.list (.cons (.var 12) (.cons (.var 13) .nil))) (i:=.of (.var 5)) (c:=.yes (.cmp .Eq (.slc (.var 2) (.yes (.var 12)) (.yes (.var 13))) (.rev (.slc (.var 2) (.yes (.var 12)) (.yes (.var 13)))))) (x:=12) (y:=13) (k1:=fun p:Nat×Nat=>.int (p.1:Int)) (k2:=fun p=>.int (p.2:Int)) (g:=NT) (p:=fun p=>dN (kH w p)) (as:=jI w.length) (qL rfl) (fun p hp=>CL (eM (xR hl (kR.mp hp) rfl rfl rfl) (FS (xR hl (kR.mp hp) rfl rfl rfl)) (Q3 _ _))) (fun p _ _=>DZ (i:=p.1) (j:=p.2) rfl rfl) (Nat.le_trans (sW hl) (by decide))
 rw[RT]at m0
 have e6:=eM (op:=.NotEq) (a:=.var 4) (x:=dD (hH w)) rfl m0 (An FL _ _)
 rw[beq_self_eq_true]at e6
 refine(aZ (sE e6 rfl)).trans ?_
 have e7:aH mB (.cmp .NotEq (.call 8 (.cons (.rev (.call 7 (.cons (.var 2) .nil))) .nil)) (.rev (.var 2))) (lE scr drn (some (aD w)) (some (.int (w.length:Int))) (some (dD (hH w))) (some (dD (jI w.length))) none none none none none none)=some (.bool (!(w.reverse==w.reverse))) :=
  eM (eE (FR (eE (x:=aD w) rfl (c7 hw h9))) (by rw[KA]; exact c8 (fun c h=>hw c (List.mem_reverse.mp h)) (JW hne) (by rwa[List.length_reverse]))) (FS rfl) (QK _ _)
 rw[beq_self_eq_true]at e7
 refine(aZ (sE e7 rfl)).trans ?_
 have m8:=yO (cl:=mB) (ρ:=lE scr drn (some (aD w)) (some (.int (w.length:Int))) (some (dD (hH w))) (some (dD (jI w.length))) none none none none none none) (elt:=.slc (.var 2) (.yes (.var 12)) (.yes (.var 13))) (i:=.of (.var 4)) (x:=12) (y:=13) (k1:=fun p:Nat×Nat=>.int (p.1:Int)) (k2:=fun p=>.int (p.2:Int)) (g:=fun p=>aD (kH w p)) (as:=hH w) (qL rfl) (fun p hp=>xR hl (yK.mp hp).1 rfl rfl rfl) (Nat.le_trans (RU hl) (by decide))
 rw[show((hH w).map fun p=>aD (kH w p))=((hH w).map (kH w)).map (fun u=>aD u) by rw[List.map_map]; rfl]at m8
 have e8:=eE (f:=6) (d:=.list ((MN w).map fun u=>aD u)) m8 (c6 (l:=18) oI _ (by rw[List.length_map]; exact Nat.le_trans (RU hl) (by decide)))
 refine kJ (lE scr drn (some (aD w)) (some (.int (w.length:Int))) (some (dD (hH w))) (some (dD (jI w.length))) (some (.list ((MN w).map fun u=>aD u))) none none none none none) e8 rfl fun own=>?_
 have m9:=pP (cl:=mB) (ρ:=lE scr drn (some (aD w)) (some (.int (w.length:Int))) (some (dD (hH w))) (some (dD (jI w.length))) (some (.list ((MN w).map fun u=>aD u))) none none none none none) (elt:=.idx (.call 4 (.cons (.var 2) (.cons (.var 4) (.cons (.lit (.int 0)) (.cons (.var 13) .nil))))) (.lit (.int 1))) (x:=13) (i:=.range2 (.lit (.int 1)) (.bin .Add (.var 3) (.lit (.int 1)))) (as:=List.range w.length) (k:=fun k:Nat=>PyData.int ((1+k:Nat):Int)) (g:=fun k=>aD (dU w 0 (1+k)).2) (by
  have:=tE (cl:=mB) (ρ:=lE scr drn (some (aD w)) (some (.int (w.length:Int))) (some (dD (hH w))) (some (dD (jI w.length))) (some (.list ((MN w).map fun u=>aD u))) none none none none none) (a:=.lit (.int 1)) (b:=.bin .Add (.var 3) (.lit (.int 1))) (p:=1) (q:=w.length+1) rfl (dR (p:=w.length) (q:=1) rfl rfl) (by decide) (Nat.le_trans (Nat.succ_le_succ hl) (by decide))
  rwa[Nat.add_sub_cancel]at this) (fun k hk=>WD (yN (w:=w) (p:=(0,1+k)) hl ⟨by show 0<1+k; exact lL [k] [] vk (zb vk o0) rfl ,by have:=List.mem_range.mp hk; show 1+k≤_; exact lL [k,w.length] [ze o0,o1] (zb vk o0) o1 rfl this⟩ rfl rfl rfl rfl)) (by rw[List.length_range]; exact Nat.le_trans hl (by decide))
 rw[show((List.range w.length).map fun k=>aD (dU w 0 (1+k)).2)=(EN w).map fun u=>aD u by unfold EN; rw[List.map_map]; rfl]at m9
 refine kJ (lE scr drn (some (aD w)) (some (.int (w.length:Int))) (some (dD (hH w))) (some (dD (jI w.length))) (some (.list ((MN w).map fun u=>aD u))) (some (.list ((EN w).map fun u=>aD u))) none none none none) m9 rfl fun own=>?_
 have m10:=pP (cl:=mB) (ρ:=lE scr drn (some (aD w)) (some (.int (w.length:Int))) (some (dD (hH w))) (some (dD (jI w.length))) (some (.list ((MN w).map fun u=>aD u))) (some (.list ((EN w).map fun u=>aD u))) none none none none) (elt:=.idx (.call 4 (.cons (.var 2) (.cons (.var 4) (.cons (.var 12) (.cons (.var 3) .nil))))) (.lit (.int 0))) (x:=12) (i:=.range1 (.var 3)) (as:=List.range w.length) (k:=fun k:Nat=>PyData.int ((0+k:Nat):Int)) (g:=fun k=>aD (dU w k (w.length - k)).1) (xS rfl (Nat.le_trans hl (by decide))) (fun k hk=>WH (yN (w:=w) (p:=(k,w.length)) hl ⟨List.mem_range.mp hk,Nat.le_refl _⟩ rfl rfl (by rw[Nat.zero_add]; rfl) rfl)) (by rw[List.length_range]; exact Nat.le_trans hl (by decide))
 rw[show((List.range w.length).map fun k=>aD (dU w k (w.length - k)).1)=(HN w).map fun u=>aD u by unfold HN; rw[List.map_map]; rfl]at m10
 refine kJ (lE scr drn (some (aD w)) (some (.int (w.length:Int))) (some (dD (hH w))) (some (dD (jI w.length))) (some (.list ((MN w).map fun u=>aD u))) (some (.list ((EN w).map fun u=>aD u))) (some (.list ((HN w).map fun u=>aD u))) none none none) m10 rfl fun own=>?_
 have lE':(EN w).length≤1000:=by unfold EN; rw[List.length_map,List.length_range]; exact Nat.le_trans hl (by decide)
 have lH:(HN w).length≤1000:=by unfold HN; rw[List.length_map,List.length_range]; exact Nat.le_trans hl (by decide)
 have lM:(MN w).length≤1000:=Nat.le_trans XM (Nat.le_trans hl (by decide))
 have s1:mJ (EN w) (HN w)=true:=(lY _ _).mpr fun u=>I4.trans Y1.symm
 have s2:mJ (MN w) (EN w)=true:=(lY _ _).mpr fun u=>I4.symm
 have k1:=c10 (l:=18) oI (EN w) (HN w) lE' lH
 have k2:=c10 (l:=18) oI (MN w) (EN w) lM lE'
 rw[s1]at k1
 rw[s2]at k2
 refine(aZ (sE (SN (eM (op:=.IsNot) (z:=.bool false) (AR (x:=.list ((EN w).map fun u=>aD u)) (y:=.list ((HN w).map fun u=>aD u)) rfl rfl k1) rfl rfl) (eM (op:=.IsNot) (z:=.bool false) (AR (x:=.list ((MN w).map fun u=>aD u)) (y:=.list ((EN w).map fun u=>aD u)) rfl rfl k2) rfl rfl)) rfl)).trans ?_
 have m12:=yO (cl:=mB) (ρ:=lE scr drn (some (aD w)) (some (.int (w.length:Int))) (some (dD (hH w))) (some (dD (jI w.length))) (some (.list ((MN w).map fun u=>aD u))) (some (.list ((EN w).map fun u=>aD u))) (some (.list ((HN w).map fun u=>aD u))) none none none) (elt:=.slc (.var 2) (.yes (.var 12)) (.yes (.var 13))) (i:=.of (.var 5)) (x:=12) (y:=13) (k1:=fun p:Nat×Nat=>.int (p.1:Int)) (k2:=fun p=>.int (p.2:Int)) (g:=fun p=>aD (kH w p)) (as:=jI w.length) (qL rfl) (fun p hp=>xR hl (kR.mp hp) rfl rfl rfl) (Nat.le_trans (sW hl) (by decide))
 rw[show((jI w.length).map fun p=>aD (kH w p))=((jI w.length).map (kH w)).map (fun u=>aD u) by rw[List.map_map]; rfl]at m12
 have e12:=eE (f:=6) m12 (c6 (l:=18) oI _ (by rw[List.length_map]; exact Nat.le_trans (sW hl) (by decide)))
 generalize hU:j6 ((jI w.length).map (kH w)) []=U at e12
 refine kJ (lE scr drn (some (aD w)) (some (.int (w.length:Int))) (some (dD (hH w))) (some (dD (jI w.length))) (some (.list ((MN w).map fun u=>aD u))) (some (.list ((EN w).map fun u=>aD u))) (some (.list ((HN w).map fun u=>aD u))) (some (.list (U.map fun u=>aD u))) none none) e12 rfl fun own=>?_
 have m13:=yO (cl:=mB) (ρ:=lE scr drn (some (aD w)) (some (.int (w.length:Int))) (some (dD (hH w))) (some (dD (jI w.length))) (some (.list ((MN w).map fun u=>aD u))) (some (.list ((EN w).map fun u=>aD u))) (some (.list ((HN w).map fun u=>aD u))) (some (.list (U.map fun u=>aD u))) none none) (elt:=.call 4 (.cons (.var 2) (.cons (.var 4) (.cons (.var 12) (.cons (.var 13) .nil))))) (i:=.of (.var 5)) (x:=12) (y:=13) (k1:=fun p:Nat×Nat=>.int (p.1:Int)) (k2:=fun p=>.int (p.2:Int)) (g:=fun p=>BH (NR w p)) (as:=jI w.length) (qL rfl) (fun p hp=>yN hl (kR.mp hp) rfl rfl rfl rfl) (Nat.le_trans (sW hl) (by decide))
 rw[show((jI w.length).map fun p=>BH (NR w p))=((jI w.length).map (NR w)).map BH by rw[List.map_map]; rfl]at m13
 have e13:=eE (f:=6) m13 (c6 (l:=18) QT _ (by rw[List.length_map]; exact Nat.le_trans (sW hl) (by decide)))
 generalize hR:j6 ((jI w.length).map (NR w)) []=R at e13
 refine kJ (lE scr drn (some (aD w)) (some (.int (w.length:Int))) (some (dD (hH w))) (some (dD (jI w.length))) (some (.list ((MN w).map fun u=>aD u))) (some (.list ((EN w).map fun u=>aD u))) (some (.list ((HN w).map fun u=>aD u))) (some (.list (U.map fun u=>aD u))) (some (.list (R.map BH))) none) e13 rfl fun own=>?_
 have len:∀{ρ:aW}{α:Type}{D:α→PyData}{l:List α}{a:PE},aH mB a ρ=some (.list (l.map D))→aH mB (.bi .len (.cons a .nil)) ρ=some (.int (l.length:Int)):=fun h=>(tF h).trans (by rw[List.length_map])
 have e14:=eM (op:=.Eq) (ρ:=(lE scr drn (some (aD w)) (some (.int (w.length:Int))) (some (dD (hH w))) (some (dD (jI w.length))) (some (.list ((MN w).map fun u=>aD u))) (some (.list ((EN w).map fun u=>aD u))) (some (.list ((HN w).map fun u=>aD u))) (some (.list (U.map fun u=>aD u))) (some (.list (R.map BH))) none)) (len (l:=MN w) (D:=fun u=>aD u) (a:=.var 6) rfl) (b:=.var 3) (y:=.int (w.length:Int)) rfl (KQ _ _)
 refine kJ (lE scr drn (some (aD w)) (some (.int (w.length:Int))) (some (dD (hH w))) (some (dD (jI w.length))) (some (.list ((MN w).map fun u=>aD u))) (some (.list ((EN w).map fun u=>aD u))) (some (.list ((HN w).map fun u=>aD u))) (some (.list (U.map fun u=>aD u))) (some (.list (R.map BH))) (some (.bool ((MN w).length==w.length)))) e14 rfl fun own=>?_
 obtain⟨b,r1,r2⟩:=A3 (prim:=DQ) (l:=17) (w:=w) (us:=MN w) hl lM hw (fun u hu=>by
  obtain⟨i,l,g1,g2,g3,rfl⟩:=zH.mp hu
  exact⟨CI hw g2,by rw[bJ]; exact g1,i,by rw[bJ]; exact g2,by rw[bJ]⟩) fun s=>c9 s
 have hb:b=((MN w).length==w.length):=by rw[Bool.eq_iff_iff,r2,NH,zX,← zW,beq_iff_eq]
 have hp:(R.length==U.length)=((MN w).length==w.length):=by rw[Bool.eq_iff_iff,beq_iff_eq,beq_iff_eq,← hR,← hU,G0,zX,← zW]
 subst hb
 generalize hq:((MN w).length==w.length)=q at r1 hp
 have gt:aH mB (.cmp .Gt (.bi .len (.cons (.var 6) .nil)) (.var 3)) (lE scr drn (some (aD w)) (some (.int (w.length:Int))) (some (dD (hH w))) (some (dD (jI w.length))) (some (.list ((MN w).map fun u=>aD u))) (some (.list ((EN w).map fun u=>aD u))) (some (.list ((HN w).map fun u=>aD u))) (some (.list (U.map fun u=>aD u))) (some (.list (R.map BH))) (some (.bool q)))=some (.bool false) :=
  eM (len (l:=MN w) (D:=fun u=>aD u) rfl) (y:=.int (w.length:Int)) rfl (congrArg (fun b=>some (PyData.bool b)) (decide_eq_false (Int.not_lt.mpr (Int.ofNat_le.mpr XM))))
 refine(aZ (sE (SN gt (eM (op:=.IsNot) (b:=.var 11) (y:=.bool q) (z:=.bool false) (rV (f:=3) (SP (x:=aD w) (y:=dD (hH w)) (z:=.list ((MN w).map fun u=>aD u)) rfl rfl rfl) r1) rfl (by cases q <;> rfl))) rfl)).trans (sC ?_)
 refine(eM (op:=.Is) (b:=.var 11) (y:=.bool q) (eM (op:=.Eq) (len (l:=R) (D:=BH) (a:=.var 10) rfl) (len (l:=U) (D:=fun u=>aD u) (a:=.var 9) rfl) (KQ _ _)) rfl ?_)
 rw[hp]
 cases q <;> rfl
theorem Ao(p q:Nat):RK .max2 [.int (p:Int),.int (q:Int)]=some (.int ((max p q:Nat):Int)):=by
 show some (PyData.int (if(q:Int)>(p:Int)then(q:Int)else(p:Int)))=_
 by_cases h:p<q
 ·rw[if_pos (Int.ofNat_lt.mpr h),Nat.max_eq_right (Nat.le_of_lt h)]
 ·rw[if_neg fun h'=>h (Int.ofNat_lt.mp h'),Nat.max_eq_left (Nat.not_lt.mp h)]
noncomputable def GC:List Int:=[1,0,1,0,2,1]
theorem Y7(ns:List Int):cG cH DQ 1002 20 5 [.list (ns.map .int)]=some (.bool true):=by
 have e1:aH mB (.bin .Add (.slc (.var 0) .no (.yes (.lit (.int 10)))) (.list (.cons (.lit (.int 1)) (.cons (.lit (.int 0)) (.cons (.lit (.int 1)) (.cons (.lit (.int 0)) (.cons (.lit (.int 2)) (.cons (.lit (.int 1)) .nil)))))))) (eI 15 [.list (ns.map .int)])=some (.list ((ns.take 10++GC).map .int)):=by
  refine iP (KL (l:=ns.map .int) (q:=10) rfl rfl (by decide)) (y:=.list (GC.map .int)) rfl ?_
  rw[← List.map_take,List.map_append]
  exact pN (by rw[List.length_append,List.length_map]; exact Nat.le_trans (Nat.add_le_add_right (List.length_take_le 10 ns) 6) (by decide))
 have hDl:6≤(ns.take 10++GC).length∧(ns.take 10++GC).length≤16:=by
  rw[List.length_append]; exact⟨Nat.le_add_left 6 _,Nat.add_le_add_right (List.length_take_le 10 ns) 6⟩
 refine mY (pf:=Ac) (l:=19) rfl rfl (kJ (lE (.list (ns.map .int)) (.list ((ns.take 10++GC).map .int)) none none none none none none none none none none) e1 rfl fun own=>?_)
 generalize ns.take 10++GC=D at hDl
 have v1:aH mB (.var 1) (lE (.list (ns.map .int)) (.list (D.map .int)) none none none none none none none none none none)=some (.list (D.map .int)):=rfl
 have l1:=tF v1
 rw[List.length_map]at l1
 have hm:max 6 (D.length - 6)≤D.length∧6≤max 6 (D.length - 6)∧max 6 (D.length - 6)≤10:=⟨Nat.max_le.mpr ⟨hDl.1,Nat.sub_le _ 6⟩,Nat.le_max_left _ _,Nat.max_le.mpr ⟨by decide,Nat.sub_le_sub_right hDl.2 6⟩⟩
 have b3:=KL v1 (vU (f:=.max2) (GA (a:=.lit (.int 6)) rfl (FQ (b:=.lit (.int 6)) (q:=6) l1 rfl hDl.1)) (Ao 6 (D.length - 6))) (Nat.le_trans hm.2.2 (by decide))
 rw[← List.map_take]at b3
 have hl:(D.take (max 6 (D.length - 6))).length=max 6 (D.length - 6):=List.length_take_of_le hm.1
 have e2:=pP (elt:=.bin .Mod (.var 14) (.bin .Pow (.lit (.int 10)) (.lit (.int 9)))) (x:=14) (g:=fun x=>.int ((x.fmod ((1000000000:Nat):Int)).toNat:Nat)) (qL b3) (fun x _=>iP (x:=.int x) (y:=.int ((1000000000:Nat):Int)) rfl (by kernel_rfl) (XB x (by decide)).1) (by rw[hl]; exact Nat.le_trans hm.2.2 (by decide))
 rw[show((D.take (max 6 (D.length - 6))).map fun x=>PyData.int ((x.fmod ((1000000000:Nat):Int)).toNat:Nat))=((D.take (max 6 (D.length - 6))).map fun x=>(x.fmod ((1000000000:Nat):Int)).toNat).map (fun(p:Nat)=>.int (p:Int)) by rw[List.map_map]; rfl]at e2
 have hN:((D.take (max 6 (D.length - 6))).map fun x:Int=>(x.fmod ((1000000000:Nat):Int)).toNat).length=max 6 (D.length - 6):=by rw[List.length_map,hl]
 have hB:∀ p∈(D.take (max 6 (D.length - 6))).map (fun x:Int=>(x.fmod ((1000000000:Nat):Int)).toNat),p<1000000000:=fun p hp=>by
  obtain⟨x,_,rfl⟩:=List.mem_map.mp hp
  exact(XB x (by decide)).2
 generalize (D.take (max 6 (D.length - 6))).map (fun x:Int=>(x.fmod ((1000000000:Nat):Int)).toNat)=nu at e2 hN hB
 have h6:=hm.2
 rw[← hN]at h6
 clear v1 l1 b3 hm hN hDl hl
 obtain⟨p,rest,rfl⟩:∃ p rest,nu=p::rest:=by
  cases nu with
  | nil=>exact absurd h6.1 (by decide)
  | cons p rest=>exact⟨p,rest,rfl⟩
 rw[List.length_cons]at h6
 obtain⟨w,g1,g2,g3⟩:=O3 (prim:=DQ) (F:=1002) (l:=18) (p:=p) (rest:=rest) (hB p (.head _)) (Nat.le_trans (Nat.le_of_succ_le h6.2) (by decide))
 exact kJ (lE (.list (ns.map .int)) (.list (D.map .int)) (some (aD w)) none none none none none none none none none) (eE e2 g3) rfl fun own=>Y5 g2 (g1.symm▸Nat.lt_of_lt_of_le (by decide) (Nat.le_of_succ_le_succ h6.1)) (g1.symm▸Nat.le_trans (Nat.le_of_succ_le h6.2) (by decide))
end Kt.Internal
end
section
open PySem PySem.W PyProof.Rows PySem.Calls Builtin
namespace Kt.Internal
theorem Ce:Fast.tw8326940854005059898 { strict:=!R.allR (Fast.tw5923862056798008813 PySem.Challenge.rw_kt0084_01.prog.main.body) (Fast.tw3471404346716756564 Fast.tw17691160309236699985),foot:=none,bare:=R.filterR (Fast.tw13343964577679436407 PySem.Challenge.rw_kt0084_01.prog PySem.Challenge.rw_kt0084_01.prog.main.body) [⟨⟨[118,97,114,115]⟩⟩,⟨⟨[100,105,114]⟩⟩,⟨⟨[108,111,99,97,108,115]⟩⟩] } PySem.Challenge.rw_kt0084_01.prog.main.body=true:=by kernel_rfl
theorem VY:Fast.tw12908688711261696721 PySem.Challenge.rw_kt0084_01.prog=true:=by
 delta PySem.W.Fast.tw12908688711261696721
 refine look_both (look_both ?_ Ce) (by kernel_rfl)
 kernel_rfl
theorem YD:PySem.Challenge.rw_kt0084_01.wellSaid=true:=by
 refine(congrFun PySem.W.Fast.te9446332074065402090 _).trans ?_
 delta PySem.W.Fast.tw9446332074065402090
 iterate 18 (refine look_both ?_ (by kernel_rfl))
 delta PySem.W.Fast.tw17960256430627541270
 refine look_both (look_both ?_ (by kernel_rfl)) (by kernel_rfl)
 delta PySem.W.Fast.tw2436336058641802641
 iterate 13 (refine look_both ?_ (by kernel_rfl))
 exact VY
theorem Cv:(defOf v6 r6.name).isSome=true:=by kernel_rfl
noncomputable def D6:=(defOf v6 r6.name).get Cv
theorem Cw:D6.1.name = "law" := by kernel_rfl
end Kt.Internal
theorem PySem.Challenge.cw_kt0084_01_holds : PySem.Challenge.rw_kt0084_01.Holds := by
 refine holds_law Kt.Internal.YD fun said=>?_
 refine PySem.W.holds_open (d:=Kt.Internal.D6.1) (kwd:=Kt.Internal.D6.2) (q:=Kt.Internal.v6) (loose:=Kt.Internal.xO) (Xt:=Kt.Internal.X6) (XP:=XL Kt.Internal.v6 []) (Yf:=Kt.Internal.Y6) (Ya:=fun _=>True) (YP:=fun _ h=>∃ K:Frag,K.In h∧Kt.Internal.xF K∧h.get? 785=some (tabObj #[])∧h.get? 746=some (tabObj #[])) (N:=6800) Kt.Internal.Y4 (fun w s e=>of_eq_true e) (fun w h h' Y k=>?_) (fun s e=>xl_of s (Bool.and_eq_true_iff.mp e).1) XL.keeps (by kernel_rfl) (by kernel_rfl) (by kernel_rfl) (fun s e=>recFacts_of (Bool.and_eq_true_iff.mp e).2) rfl said (by decide +kernel) ⟨rfl,rfl,rfl,rfl,rfl,by decide +kernel⟩ ?hw ?hc
 ·obtain⟨K,X,H,e1,e2⟩:=Y
  exact⟨K,fun a o e=>k _ _ (X a o e),H,k _ _ e1,k _ _ e2⟩
 ·w_witness2
 intro w s₀ s₁ mg mb G Y fa o pm cd doc dV kV ho hd hcd hD hmg hg args vals as hpre hlay hrd hwl hlo
 obtain⟨K,KX,⟨H,L,HB,HS⟩,t1,t2⟩:=Y
 refine Ground.open G ?_
 intro T B D TE TW
 wrow_args hpre hlay hrd hwl hlo
 rename_i ns hs0 _ _ _ _ as3 as2 l vs as1 hL ra hwell hrd0 hints hr0 hcond ht
 refine wpAny_mono (Kt.Internal.QO (prog:=_) (w:=w) (fn:=Kt.Internal.BN) (f:=5) (tab:=Kt.Internal.cH) (d:=6) (pfd:=Kt.Internal.RG) (F:=1002) (lvl:=20) (specs:=Kt.Internal.jQ) T KX t1 t2 H L HB HS Kt.Internal.K9 rfl (.of_eq hg) rfl ((congrArg mg Kt.Internal.Cw).symm.trans hmg) hwell ⟨_,rfl⟩ hL hints ?_ (Kt.Internal.Y7 ns) (by decide)) (fun v s' h=>?_) fun _ _ e=>e
 ·omega
 obtain⟨rfl,hold,hos,hb⟩:=h
 exact⟨.inl ⟨_,_,[],rfl,fun _=>rfl,ReadsW.bool true,(by first | rfl | wrow_post | kernel_rfl),fun _=>⟨List.nodup_nil,fun _ hm=>(nomatch hm)⟩⟩,hold,hos,hb⟩
end
