import PyProof.Rows.All
import Wide.All
import OpenK.AllK
import Wide.FinOn
import KE.KPar
import KE.KStopIter
import KE.KOwnIter
import KE.KLam
import PySem.Challenge.RW_kt0084_06
set_option Elab.async false
set_option maxRecDepth 100000
set_option maxHeartbeats 8000000
set_option autoImplicit false
set_option genSizeOf false
set_option genInjectivity false
set_option linter.unusedVariables false
section
open PySem
namespace Kt
theorem andT {a b:Bool} (h:(a && b) = true):a = true ∧ b = true:=by rwa [Bool.and_eq_true] at h
theorem andK {a b:Bool} {G:Prop} (h:(a && b) = true) (k:a = true→b = true→G):G:=k (andT h).1 (andT h).2
theorem bndK {α β:Type} {o:Option α} {f:α→Option β} {d:β} {G:Prop} (h:o.bind f = some d) (k:∀ a,o = some a→f a = some d→G):G:=by cases o with | none=>cases h | some a=>exact k a rfl h
theorem mapK {α β:Type} {o:Option α} {f:α→β} {d:β} {G:Prop} (h:o.map f = some d) (k:∀ a,o = some a→f a = d→G):G:=by cases o with | none=>cases h | some a=>exact k a rfl (Option.some.inj h)
noncomputable def on1 {α:Type} (l:List α) (f:α→Bool):Bool:=match l with | []=>false | a :: r=>r.isEmpty && f a
theorem on1K {α:Type} {l:List α} {f:α→Bool} {m:List α→Prop} (h:on1 l f = true) (k:∀ a,f a = true→m [a]):m l:=by cases l with | nil=>cases h | cons a r=>cases r with | nil=>exact k a h | cons b r=>cases h
noncomputable def onC {α:Type} (l:List α) (f:α→List α→Bool):Bool:=match l with | []=>false | a :: r=>f a r
theorem onCK {α:Type} {l:List α} {f:α→List α→Bool} {m:List α→Prop} (h:onC l f = true) (k:∀ a r,f a r = true→m (a :: r)):m l:=by cases l with | nil=>cases h | cons a r=>exact k a r h
theorem nilK {α:Type} {l:List α} {m:List α→Prop} (h:l.isEmpty = true) (k:m []):m l:=by cases l with | nil=>exact k | cons a r=>cases h
noncomputable def onS {α:Type} (o:Option α) (f:α→Bool):Bool:=match o with | none=>false | some a=>f a
theorem onSK {α:Type} {o:Option α} {f:α→Bool} {m:Option α→Prop} (h:onS o f = true) (k:∀ a,f a = true→m (some a)):m o:=by cases o with | none=>cases h | some a=>exact k a h
theorem noneK {α:Type} {o:Option α} {m:Option α→Prop} (h:o.isNone = true) (k:m none):m o:=by cases o with | none=>exact k | some a=>cases h
theorem bothK {a b c d:Bool} {G:Prop} (h:(a && b && c && d) = true) (k:a = true→b = true→c = true→d = true→G):G:=k (andT (andT (andT h).1).1).1 (andT (andT (andT h).1).1).2 (andT (andT h).1).2 (andT h).2
noncomputable def onName (e:Expr) (f:Str→Pos→Bool):Bool:=if h:e.ctorIdx = 23 then Expr.Name.elim e h f else false
theorem onNameK {e:Expr} {f:Str→Pos→Bool} {m:Expr→Prop} (h:onName e f = true) (k:∀ a b,f a b = true→m (.Name a b)):m e:=by
  by_cases c:e.ctorIdx = 23
  · exact Expr.Name.elim (motive_1:=fun e=>onName e f = true→m e) e c k h
  · rw [onName,dif_neg c] at h; cases h
noncomputable def onConstant (e:Expr) (f:Const→Nat→Pos→Bool):Bool:=if h:e.ctorIdx = 19 then Expr.Constant.elim e h f else false
theorem onConstantK {e:Expr} {f:Const→Nat→Pos→Bool} {m:Expr→Prop} (h:onConstant e f = true) (k:∀ a b c,f a b c = true→m (.Constant a b c)):m e:=by
  by_cases c:e.ctorIdx = 19
  · exact Expr.Constant.elim (motive_1:=fun e=>onConstant e f = true→m e) e c k h
  · rw [onConstant,dif_neg c] at h; cases h
noncomputable def onAttribute (e:Expr) (f:Expr→Str→Pos→Bool):Bool:=if h:e.ctorIdx = 20 then Expr.Attribute.elim e h f else false
theorem onAttributeK {e:Expr} {f:Expr→Str→Pos→Bool} {m:Expr→Prop} (h:onAttribute e f = true) (k:∀ a b c,f a b c = true→m (.Attribute a b c)):m e:=by
  by_cases c:e.ctorIdx = 20
  · exact Expr.Attribute.elim (motive_1:=fun e=>onAttribute e f = true→m e) e c k h
  · rw [onAttribute,dif_neg c] at h; cases h
noncomputable def onCall (e:Expr) (f:Expr→List Expr→List Keyword→Pos→Bool):Bool:=if h:e.ctorIdx = 16 then Expr.Call.elim e h f else false
theorem onCallK {e:Expr} {f:Expr→List Expr→List Keyword→Pos→Bool} {m:Expr→Prop} (h:onCall e f = true) (k:∀ a b c d,f a b c d = true→m (.Call a b c d)):m e:=by
  by_cases c:e.ctorIdx = 16
  · exact Expr.Call.elim (motive_1:=fun e=>onCall e f = true→m e) e c k h
  · rw [onCall,dif_neg c] at h; cases h
noncomputable def onCompare (e:Expr) (f:Expr→List CmpOp→List Expr→Pos→Bool):Bool:=if h:e.ctorIdx = 15 then Expr.Compare.elim e h f else false
theorem onCompareK {e:Expr} {f:Expr→List CmpOp→List Expr→Pos→Bool} {m:Expr→Prop} (h:onCompare e f = true) (k:∀ a b c d,f a b c d = true→m (.Compare a b c d)):m e:=by
  by_cases c:e.ctorIdx = 15
  · exact Expr.Compare.elim (motive_1:=fun e=>onCompare e f = true→m e) e c k h
  · rw [onCompare,dif_neg c] at h; cases h
noncomputable def onBoolOp (e:Expr) (f:BoolOp→List Expr→Pos→Bool):Bool:=if h:e.ctorIdx = 0 then Expr.BoolOp.elim e h f else false
theorem onBoolOpK {e:Expr} {f:BoolOp→List Expr→Pos→Bool} {m:Expr→Prop} (h:onBoolOp e f = true) (k:∀ a b c,f a b c = true→m (.BoolOp a b c)):m e:=by
  by_cases c:e.ctorIdx = 0
  · exact Expr.BoolOp.elim (motive_1:=fun e=>onBoolOp e f = true→m e) e c k h
  · rw [onBoolOp,dif_neg c] at h; cases h
noncomputable def onBinOp (e:Expr) (f:Expr→Operator→Expr→Pos→Bool):Bool:=if h:e.ctorIdx = 2 then Expr.BinOp.elim e h f else false
theorem onBinOpK {e:Expr} {f:Expr→Operator→Expr→Pos→Bool} {m:Expr→Prop} (h:onBinOp e f = true) (k:∀ a b c d,f a b c d = true→m (.BinOp a b c d)):m e:=by
  by_cases c:e.ctorIdx = 2
  · exact Expr.BinOp.elim (motive_1:=fun e=>onBinOp e f = true→m e) e c k h
  · rw [onBinOp,dif_neg c] at h; cases h
noncomputable def onUnaryOp (e:Expr) (f:UnaryOp→Expr→Pos→Bool):Bool:=if h:e.ctorIdx = 3 then Expr.UnaryOp.elim e h f else false
theorem onUnaryOpK {e:Expr} {f:UnaryOp→Expr→Pos→Bool} {m:Expr→Prop} (h:onUnaryOp e f = true) (k:∀ a b c,f a b c = true→m (.UnaryOp a b c)):m e:=by
  by_cases c:e.ctorIdx = 3
  · exact Expr.UnaryOp.elim (motive_1:=fun e=>onUnaryOp e f = true→m e) e c k h
  · rw [onUnaryOp,dif_neg c] at h; cases h
noncomputable def onIfExp (e:Expr) (f:Expr→Expr→Expr→Pos→Bool):Bool:=if h:e.ctorIdx = 5 then Expr.IfExp.elim e h f else false
theorem onIfExpK {e:Expr} {f:Expr→Expr→Expr→Pos→Bool} {m:Expr→Prop} (h:onIfExp e f = true) (k:∀ a b c d,f a b c d = true→m (.IfExp a b c d)):m e:=by
  by_cases c:e.ctorIdx = 5
  · exact Expr.IfExp.elim (motive_1:=fun e=>onIfExp e f = true→m e) e c k h
  · rw [onIfExp,dif_neg c] at h; cases h
noncomputable def onList (e:Expr) (f:List Expr→Pos→Bool):Bool:=if h:e.ctorIdx = 24 then Expr.List.elim e h f else false
theorem onListK {e:Expr} {f:List Expr→Pos→Bool} {m:Expr→Prop} (h:onList e f = true) (k:∀ a b,f a b = true→m (.List a b)):m e:=by
  by_cases c:e.ctorIdx = 24
  · exact Expr.List.elim (motive_1:=fun e=>onList e f = true→m e) e c k h
  · rw [onList,dif_neg c] at h; cases h
noncomputable def onTuple (e:Expr) (f:List Expr→Nat→Pos→Bool):Bool:=if h:e.ctorIdx = 25 then Expr.Tuple.elim e h f else false
theorem onTupleK {e:Expr} {f:List Expr→Nat→Pos→Bool} {m:Expr→Prop} (h:onTuple e f = true) (k:∀ a b c,f a b c = true→m (.Tuple a b c)):m e:=by
  by_cases c:e.ctorIdx = 25
  · exact Expr.Tuple.elim (motive_1:=fun e=>onTuple e f = true→m e) e c k h
  · rw [onTuple,dif_neg c] at h; cases h
noncomputable def onSubscript (e:Expr) (f:Expr→Expr→Pos→Bool):Bool:=if h:e.ctorIdx = 21 then Expr.Subscript.elim e h f else false
theorem onSubscriptK {e:Expr} {f:Expr→Expr→Pos→Bool} {m:Expr→Prop} (h:onSubscript e f = true) (k:∀ a b c,f a b c = true→m (.Subscript a b c)):m e:=by
  by_cases c:e.ctorIdx = 21
  · exact Expr.Subscript.elim (motive_1:=fun e=>onSubscript e f = true→m e) e c k h
  · rw [onSubscript,dif_neg c] at h; cases h
noncomputable def onSlice (e:Expr) (f:Option Expr→Option Expr→Option Expr→Pos→Bool):Bool:=if h:e.ctorIdx = 26 then Expr.Slice.elim e h f else false
theorem onSliceK {e:Expr} {f:Option Expr→Option Expr→Option Expr→Pos→Bool} {m:Expr→Prop} (h:onSlice e f = true) (k:∀ a b c d,f a b c d = true→m (.Slice a b c d)):m e:=by
  by_cases c:e.ctorIdx = 26
  · exact Expr.Slice.elim (motive_1:=fun e=>onSlice e f = true→m e) e c k h
  · rw [onSlice,dif_neg c] at h; cases h
noncomputable def onListComp (e:Expr) (f:Expr→List Comprehension→Scope→Pos→Bool):Bool:=if h:e.ctorIdx = 8 then Expr.ListComp.elim e h f else false
theorem onListCompK {e:Expr} {f:Expr→List Comprehension→Scope→Pos→Bool} {m:Expr→Prop} (h:onListComp e f = true) (k:∀ a b c d,f a b c d = true→m (.ListComp a b c d)):m e:=by
  by_cases c:e.ctorIdx = 8
  · exact Expr.ListComp.elim (motive_1:=fun e=>onListComp e f = true→m e) e c k h
  · rw [onListComp,dif_neg c] at h; cases h
noncomputable def onGeneratorExp (e:Expr) (f:Expr→List Comprehension→Scope→Pos→Bool):Bool:=if h:e.ctorIdx = 11 then Expr.GeneratorExp.elim e h f else false
theorem onGeneratorExpK {e:Expr} {f:Expr→List Comprehension→Scope→Pos→Bool} {m:Expr→Prop} (h:onGeneratorExp e f = true) (k:∀ a b c d,f a b c d = true→m (.GeneratorExp a b c d)):m e:=by
  by_cases c:e.ctorIdx = 11
  · exact Expr.GeneratorExp.elim (motive_1:=fun e=>onGeneratorExp e f = true→m e) e c k h
  · rw [onGeneratorExp,dif_neg c] at h; cases h
noncomputable def onJoinedStr (e:Expr) (f:List Expr→Pos→Bool):Bool:=if h:e.ctorIdx = 18 then Expr.JoinedStr.elim e h f else false
theorem onJoinedStrK {e:Expr} {f:List Expr→Pos→Bool} {m:Expr→Prop} (h:onJoinedStr e f = true) (k:∀ a b,f a b = true→m (.JoinedStr a b)):m e:=by
  by_cases c:e.ctorIdx = 18
  · exact Expr.JoinedStr.elim (motive_1:=fun e=>onJoinedStr e f = true→m e) e c k h
  · rw [onJoinedStr,dif_neg c] at h; cases h
noncomputable def onFormattedValue (e:Expr) (f:Expr→Int→Option Expr→Pos→Bool):Bool:=if h:e.ctorIdx = 17 then Expr.FormattedValue.elim e h f else false
theorem onFormattedValueK {e:Expr} {f:Expr→Int→Option Expr→Pos→Bool} {m:Expr→Prop} (h:onFormattedValue e f = true) (k:∀ a b c d,f a b c d = true→m (.FormattedValue a b c d)):m e:=by
  by_cases c:e.ctorIdx = 17
  · exact Expr.FormattedValue.elim (motive_1:=fun e=>onFormattedValue e f = true→m e) e c k h
  · rw [onFormattedValue,dif_neg c] at h; cases h
noncomputable def onStReturn (e:Stmt) (f:Option Expr→Pos→Bool):Bool:=if h:e.ctorIdx = 3 then Stmt.Return.elim e h f else false
theorem onStReturnK {e:Stmt} {f:Option Expr→Pos→Bool} {m:Stmt→Prop} (h:onStReturn e f = true) (k:∀ a b,f a b = true→m (.Return a b)):m e:=by
  by_cases c:e.ctorIdx = 3
  · exact Stmt.Return.elim (motive_2:=fun e=>onStReturn e f = true→m e) e c k h
  · rw [onStReturn,dif_neg c] at h; cases h
noncomputable def onStAssign (e:Stmt) (f:List Expr→Expr→Pos→Bool):Bool:=if h:e.ctorIdx = 5 then Stmt.Assign.elim e h f else false
theorem onStAssignK {e:Stmt} {f:List Expr→Expr→Pos→Bool} {m:Stmt→Prop} (h:onStAssign e f = true) (k:∀ a b c,f a b c = true→m (.Assign a b c)):m e:=by
  by_cases c:e.ctorIdx = 5
  · exact Stmt.Assign.elim (motive_2:=fun e=>onStAssign e f = true→m e) e c k h
  · rw [onStAssign,dif_neg c] at h; cases h
noncomputable def onStAugAssign (e:Stmt) (f:Expr→Operator→Expr→Pos→Bool):Bool:=if h:e.ctorIdx = 7 then Stmt.AugAssign.elim e h f else false
theorem onStAugAssignK {e:Stmt} {f:Expr→Operator→Expr→Pos→Bool} {m:Stmt→Prop} (h:onStAugAssign e f = true) (k:∀ a b c d,f a b c d = true→m (.AugAssign a b c d)):m e:=by
  by_cases c:e.ctorIdx = 7
  · exact Stmt.AugAssign.elim (motive_2:=fun e=>onStAugAssign e f = true→m e) e c k h
  · rw [onStAugAssign,dif_neg c] at h; cases h
noncomputable def onStFor (e:Stmt) (f:Expr→Expr→List Stmt→List Stmt→Pos→Bool):Bool:=if h:e.ctorIdx = 9 then Stmt.For.elim e h f else false
theorem onStForK {e:Stmt} {f:Expr→Expr→List Stmt→List Stmt→Pos→Bool} {m:Stmt→Prop} (h:onStFor e f = true) (k:∀ a b c d e,f a b c d e = true→m (.For a b c d e)):m e:=by
  by_cases c:e.ctorIdx = 9
  · exact Stmt.For.elim (motive_2:=fun e=>onStFor e f = true→m e) e c k h
  · rw [onStFor,dif_neg c] at h; cases h
noncomputable def onStWhile (e:Stmt) (f:Expr→List Stmt→List Stmt→Pos→Bool):Bool:=if h:e.ctorIdx = 11 then Stmt.While.elim e h f else false
theorem onStWhileK {e:Stmt} {f:Expr→List Stmt→List Stmt→Pos→Bool} {m:Stmt→Prop} (h:onStWhile e f = true) (k:∀ a b c d,f a b c d = true→m (.While a b c d)):m e:=by
  by_cases c:e.ctorIdx = 11
  · exact Stmt.While.elim (motive_2:=fun e=>onStWhile e f = true→m e) e c k h
  · rw [onStWhile,dif_neg c] at h; cases h
noncomputable def onStIf (e:Stmt) (f:Expr→List Stmt→List Stmt→Pos→Bool):Bool:=if h:e.ctorIdx = 12 then Stmt.If.elim e h f else false
theorem onStIfK {e:Stmt} {f:Expr→List Stmt→List Stmt→Pos→Bool} {m:Stmt→Prop} (h:onStIf e f = true) (k:∀ a b c d,f a b c d = true→m (.If a b c d)):m e:=by
  by_cases c:e.ctorIdx = 12
  · exact Stmt.If.elim (motive_2:=fun e=>onStIf e f = true→m e) e c k h
  · rw [onStIf,dif_neg c] at h; cases h
noncomputable def onStRaise (e:Stmt) (f:Option Expr→Option Expr→Pos→Bool):Bool:=if h:e.ctorIdx = 16 then Stmt.Raise.elim e h f else false
theorem onStRaiseK {e:Stmt} {f:Option Expr→Option Expr→Pos→Bool} {m:Stmt→Prop} (h:onStRaise e f = true) (k:∀ a b c,f a b c = true→m (.Raise a b c)):m e:=by
  by_cases c:e.ctorIdx = 16
  · exact Stmt.Raise.elim (motive_2:=fun e=>onStRaise e f = true→m e) e c k h
  · rw [onStRaise,dif_neg c] at h; cases h
noncomputable def onStTry (e:Stmt) (f:List Stmt→List ExceptHandler→List Stmt→List Stmt→Pos→Bool):Bool:=if h:e.ctorIdx = 17 then Stmt.Try.elim e h f else false
theorem onStTryK {e:Stmt} {f:List Stmt→List ExceptHandler→List Stmt→List Stmt→Pos→Bool} {m:Stmt→Prop} (h:onStTry e f = true) (k:∀ a b c d e,f a b c d e = true→m (.Try a b c d e)):m e:=by
  by_cases c:e.ctorIdx = 17
  · exact Stmt.Try.elim (motive_2:=fun e=>onStTry e f = true→m e) e c k h
  · rw [onStTry,dif_neg c] at h; cases h
noncomputable def onStAssert (e:Stmt) (f:Expr→Option Expr→Pos→Bool):Bool:=if h:e.ctorIdx = 19 then Stmt.Assert.elim e h f else false
theorem onStAssertK {e:Stmt} {f:Expr→Option Expr→Pos→Bool} {m:Stmt→Prop} (h:onStAssert e f = true) (k:∀ a b c,f a b c = true→m (.Assert a b c)):m e:=by
  by_cases c:e.ctorIdx = 19
  · exact Stmt.Assert.elim (motive_2:=fun e=>onStAssert e f = true→m e) e c k h
  · rw [onStAssert,dif_neg c] at h; cases h
noncomputable def onStExpr (e:Stmt) (f:Expr→Pos→Bool):Bool:=if h:e.ctorIdx = 24 then Stmt.Expr.elim e h f else false
theorem onStExprK {e:Stmt} {f:Expr→Pos→Bool} {m:Stmt→Prop} (h:onStExpr e f = true) (k:∀ a b,f a b = true→m (.Expr a b)):m e:=by
  by_cases c:e.ctorIdx = 24
  · exact Stmt.Expr.elim (motive_2:=fun e=>onStExpr e f = true→m e) e c k h
  · rw [onStExpr,dif_neg c] at h; cases h
theorem beqK {α:Type} [BEq α] [LawfulBEq α] {a b:α} {m:α→Prop} (h:(a == b) = true) (k:m b):m a:=eq_of_beq h ▸ k
noncomputable def isNoneC (e:Expr):Bool:=onConstant e fun c _ _=>c.ctorIdx == 0
theorem isNoneK {e:Expr} {m:Expr→Prop} (h:isNoneC e = true) (k:∀ a p,m (.Constant .none a p)):m e:=onConstantK h fun c a p h=>Const.none.elim (motive:=fun c=>m (.Constant c a p)) c (eq_of_beq h) (k a p)
noncomputable def onComp (e:Comprehension) (f:Expr→Expr→List Expr→Int→Bool):Bool:=f e.target e.iter e.ifs e.is_async
theorem onCompK {e:Comprehension} {f:Expr→Expr→List Expr→Int→Bool} {m:Comprehension→Prop} (h:onComp e f = true) (k:∀ a b c d,f a b c d = true→m ⟨a,b,c,d⟩):m e:=by cases e; exact k _ _ _ _ h
noncomputable def onEh (e:ExceptHandler) (f:Option Expr→Option Str→List Stmt→Pos→Bool):Bool:=match e with | .ExceptHandler a b c d=>f a b c d
theorem onEhK {e:ExceptHandler} {f:Option Expr→Option Str→List Stmt→Pos→Bool} {m:ExceptHandler→Prop} (h:onEh e f = true) (k:∀ a b c d,f a b c d = true→m (.ExceptHandler a b c d)):m e:=by cases e; exact k _ _ _ _ h
theorem allAt {l:List Bool} (h:l.all id = true) {b:Bool} (k:Nat) (e:l[k]? = some b):b = true:=List.all_eq_true.mp h _ (List.mem_of_getElem? e)
theorem notT {b:Bool} (h:(!b) = true):b = false:=by cases b with | true=>cases h | false=>rfl
end Kt
end
section
open PySem PySem.W
namespace Kt
abbrev PEnv:=List (Option PyData)
inductive Bi where
  | len | max2 | min2 | chr | listOf
inductive Me where
  | join | index
inductive Tg where
  | one (x:Nat)
mutual
inductive PE where
  | lit (d:PyData)
  | var (x:Nat)
  | neg (a:PE)
  | nt (a:PE)
  | bool (isAnd:Bool) (a b:PE)
  | bin (op:Operator) (a b:PE)
  | cmp (op:CmpOp) (a b:PE)
  | ite (c a b:PE)
  | list (es:PEs)
  | comp (elt:PE) (x:Nat) (i:PI)
  | call (f:Nat) (es:PEs)
  | bi (b:Bi) (es:PEs)
  | me (m:Me) (o:PE) (es:PEs)
  | idx (a i:PE)
  | slc (a:PE) (lo hi:PO)
  | rev (a:PE)
inductive PEs where
  | nil
  | cons (e:PE) (es:PEs)
inductive PO where
  | no
  | yes (e:PE)
inductive PI where
  | of (e:PE)
  | range1 (a:PE)
  | range2 (a b:PE)
end
mutual
inductive PS where
  | assign (x:Nat) (e:PE)
  | assign2 (x y:Nat) (a b:PE)
  | aug (x:Nat) (op:Operator) (e:PE)
  | app (x:Nat) (e:PE)
  | ife (c:PE) (a b:PSs)
  | for_ (t:Tg) (i:PI) (b:PSs)
  | while_ (c:PE) (b:PSs)
  | ret (e:PE)
inductive PSs where
  | nil
  | cons (s:PS) (ss:PSs)
end
mutual
noncomputable def okD:PyData→Bool
  | .none | .bool _ | .int _=>true
  | .str x=>PyData.strOk x && decide (x.length ≤ sizeLine)
  | .list xs=>decide (xs.length ≤ sizeLine) && okDs xs
  | .tuple _ | .dict _=>false
noncomputable def okDs:List PyData→Bool
  | []=>true
  | x :: xs=>okD x && okDs xs
end
mutual
theorem canLay0_of_ok:∀ {d:PyData},okD d = true→d.canLay0 = true
  | .none,_=>by simp [PyData.canLay0]
  | .bool _,_=>by simp [PyData.canLay0]
  | .int _,_=>by simp [PyData.canLay0]
  | .str x,h=>by simp [okD] at h; simpa [PyData.canLay0] using h.1
  | .list xs,h=>by simp [okD] at h; simpa [PyData.canLay0] using canLayAll0_of_ok h.2
  | .tuple _,h | .dict _,h=>by cases h
theorem canLayAll0_of_ok:∀ {ds:List PyData},okDs ds = true→PyData.canLayAll0 ds = true
  | [],_=>by simp [PyData.canLayAll0]
  | x :: xs,h=>by simp [okDs] at h; simp [PyData.canLayAll0,canLay0_of_ok h.1,canLayAll0_of_ok h.2]
end
theorem okDs_mem:∀ {ds:List PyData},okDs ds = true ↔ ∀ d ∈ ds,okD d = true
  | []=>by simp [okDs]
  | x :: xs=>by simp [okDs,okDs_mem (ds:=xs)]
theorem okDs_append {xs ys:List PyData}:okDs (xs ++ ys) = true ↔ okDs xs = true ∧ okDs ys = true:=by
  simp only [okDs_mem,List.mem_append]
  exact ⟨fun h=>⟨fun d hd=>h d (.inl hd),fun d hd=>h d (.inr hd)⟩,fun h d hd=>hd.elim (h.1 d) (h.2 d)⟩
noncomputable def truthD:PyData→Option Bool
  | .none=>some false
  | .bool b=>some b
  | .int i=>some (i != 0)
  | .str s=>some (s.length != 0)
  | .list xs=>some (!xs.isEmpty)
  | .tuple _ | .dict _=>none
noncomputable def mkL (xs:List PyData):Option PyData:=if xs.length ≤ sizeLine then some (.list xs) else none
noncomputable def mkS (s:Str):Option PyData:=if s.length ≤ sizeLine then some (.str s) else none
noncomputable def fitI (a:Int):Bool:=decide (a.natAbs < 2 ^ 1024)
section
variable {α:Type}
noncomputable def dInt (x:PyData) (f:Int→Option α):Option α:=match x with | .int i=>f i | _=>none
noncomputable def dStr (x:PyData) (f:Str→Option α):Option α:=match x with | .str i=>f i | _=>none
noncomputable def dList (x:PyData) (f:List PyData→Option α):Option α:=match x with | .list i=>f i | _=>none
noncomputable def dBool (x:PyData) (f:Bool→Option α):Option α:=match x with | .bool i=>f i | _=>none
end
noncomputable def binI:Operator→Int→Int→Option PyData
  | .Add,a,b=>some (.int (a + b))
  | .Sub,a,b=>some (.int (a - b))
  | .Mult,a,b=>if fitI a && fitI b then some (.int (a * b)) else none
  | .FloorDiv,a,b=>if 0 < b && fitI b then some (.int (a.fdiv b)) else none
  | .Mod,a,b=>if 0 < b then some (.int (a.fmod b)) else none
  | .Pow,a,b=>if fitI a && 0 ≤ b && b ≤ 1024 then some (.int (a ^ b.toNat)) else none
  | _,_,_=>none
noncomputable def binD (op:Operator) (x y:PyData):Option PyData:=match x with
  | .int a=>dInt y (binI op a)
  | .str a=>dStr y fun b=>if op == .Add then mkS (a ++ b) else none
  | .list a=>dList y fun b=>if op == .Add then mkL (a ++ b) else none
  | _=>none
noncomputable def eqOk (a b:PyData):Bool:=decide (min a.depth b.depth ≤ 64)
noncomputable def isNoneD:PyData→Bool
  | .none=>true
  | _=>false
noncomputable def isD (x y:PyData):Option Bool:=match y with
  | .none=>some (isNoneD x)
  | .bool b=>dBool x fun a=>some (a == b)
  | _=>none
noncomputable def inD (x y:PyData):Option Bool:=match y with
  | .list ys=>if eqOk x (.list ys) then some (ys.any fun y=>PyData.eqv y x) else none
  | .str t=>dStr x fun a=>some (Txt.contains t a)
  | _=>none
noncomputable def cmpI:CmpOp→Int→Int→Option Bool
  | .Lt,a,b=>some (decide (a < b))
  | .LtE,a,b=>some (decide (a ≤ b))
  | .Gt,a,b=>some (decide (a > b))
  | .GtE,a,b=>some (decide (a ≥ b))
  | _,_,_=>none
noncomputable def cmpD (op:CmpOp) (x y:PyData):Option PyData:=match op with
  | .Eq=>if eqOk x y then some (.bool (PyData.eqv x y)) else none
  | .NotEq=>if eqOk x y then some (.bool (!PyData.eqv x y)) else none
  | .In=>(inD x y).map .bool
  | .NotIn=>(inD x y).map fun q=>.bool (!q)
  | .Is=>(isD x y).map .bool
  | .IsNot=>(isD x y).map fun q=>.bool (!q)
  | op=>dInt x fun a=>dInt y fun b=>(cmpI op a b).map .bool
noncomputable def chrD (i:Int):Option PyData:=if 0 ≤ i && i < 0xD800 then some (.str ⟨#[i.toNat]⟩) else none
noncomputable def strsD:List PyData→Option (List Str)
  | []=>some []
  | d :: r=>dStr d fun i=>(strsD r).map (i :: ·)
noncomputable def bi1 (b:Bi) (x:PyData):Option PyData:=match b with
  | .len=>(match x with | .list xs=>some (.int xs.length) | .str s=>some (.int s.length) | _=>none)
  | .chr=>dInt x chrD
  | .listOf=>dStr x fun s=>some (.list (s.cps.toList.map fun c=>.str ⟨#[c]⟩))
  | _=>none
noncomputable def bi2 (b:Bi) (x y:PyData):Option PyData:=match b with
  | .max2=>dInt x fun a=>dInt y fun b=>some (.int (if b > a then b else a))
  | .min2=>dInt x fun a=>dInt y fun b=>some (.int (if b < a then b else a))
  | _=>none
noncomputable def one2 {α:Type} (ds:List PyData) (f:PyData→Option α) (g:PyData→PyData→Option α):Option α:=match ds with
  | []=>none
  | x :: r=>(match r with | []=>f x | y :: r=>if r.isEmpty then g x y else none)
noncomputable def biD (b:Bi) (ds:List PyData):Option PyData:=one2 ds (bi1 b) (bi2 b)
noncomputable def joinD (sep:Str) (xs:List PyData):Option PyData:=(strsD xs).bind fun l=>if l.foldl (fun n x=>n + x.length + sep.length) 0 ≤ 2 ^ 20 then some (.str (Str.join sep l)) else none
noncomputable def indexD (xs:List PyData) (x:PyData):Option PyData :=
  if eqOk x (.list xs) then
    (let k:=xs.findIdx (fun y=>PyData.eqv y x)
     if k < xs.length && k < 2 ^ 62 then some (.int k) else none) else none
noncomputable def meD (m:Me) (o:PyData) (ds:List PyData):Option PyData:=one2 ds (fun x=>match m with
  | .join=>dStr o fun sep=>dList x (joinD sep)
  | .index=>dList o fun xs=>indexD xs x) fun _ _=>none
noncomputable def placeI (i:Int) (n:Nat):Option Nat :=
  if -(2 ^ 62) < i && i < 2 ^ 62 then
    (if 0 ≤ i then (if i.toNat < n then some i.toNat else none)
     else if 0 ≤ i + n then some (i + n).toNat else none)
  else none
noncomputable def idxD (x y:PyData):Option PyData:=dInt y fun i=>match x with
  | .list xs=>(placeI i xs.length).bind (xs[·]?)
  | .str s=>(placeI i s.length).bind fun k=>(s.cps[k]?).map fun c=>.str ⟨#[c]⟩
  | _=>none
noncomputable def clampI (i:Int) (n:Nat):Nat:=if i < 0 then (i + n).toNat else min i.toNat n
noncomputable def cut {α:Type} (l:List α) (lo hi:Option Int):List α :=
  let a:=match lo with | none=>0 | some i=>clampI i l.length
  let b:=match hi with | none=>l.length | some i=>clampI i l.length
  (l.take b).drop a
noncomputable def slcD (d:PyData) (lo hi:Option Int):Option PyData :=
  match d with
  | .list xs=>some (.list (cut xs lo hi))
  | .str s=>some (.str ⟨(cut s.cps.toList lo hi).toArray⟩)
  | _=>none
noncomputable def revD:PyData→Option PyData
  | .list xs=>some (.list xs.reverse)
  | .str s=>some (.str ⟨s.cps.toList.reverse.toArray⟩)
  | _=>none
noncomputable def partD:PyData→Option Int
  | .int i=>if -(2 ^ 62) < i && i < 2 ^ 62 then some i else none
  | _=>none
noncomputable def upTo (lo hi:Int):List PyData:=(List.range (hi - lo).toNat).map fun (k:Nat)=>PyData.int (lo + (k:Int))
noncomputable def rangeOk (lo hi:Int):Bool:=decide (-(2 ^ 20) ≤ lo) && decide (hi ≤ 2 ^ 20) && decide (lo ≤ 2 ^ 20) && decide (-(2 ^ 20) ≤ hi)
noncomputable def itemsD:PyData→Option (List PyData)
  | .list xs=>some xs
  | _=>none
noncomputable def bindT:Tg→PyData→PEnv→Option PEnv
  | .one x,d,ρ=>some (ρ.set x (some d))
noncomputable def tgVars:Tg→List Nat
  | .one x=>[x]
noncomputable def mapE (f:PyData→Option PyData):List PyData→Option (List PyData)
  | []=>some []
  | d :: ds=>(f d).bind fun a=>(mapE f ds).map fun r=>a :: r
noncomputable def lookV (ρ:PEnv) (x:Nat):Option PyData:=(ρ[x]?).join
section
variable (cl:Nat→List PyData→Option PyData)
mutual
noncomputable def evE:PE→PEnv→Option PyData
  | .lit d,_=>some d
  | .var x,ρ=>lookV ρ x
  | .neg a,ρ=>(evE a ρ).bind fun d=>dInt d fun i=>some (.int (-i))
  | .nt a,ρ=>(evE a ρ).bind fun d=>(truthD d).map fun b=>.bool (!b)
  | .bool q a b,ρ=>(evE a ρ).bind fun d=>(truthD d).bind fun t=>if t == q then evE b ρ else some d
  | .bin op a b,ρ=>(evE a ρ).bind fun x=>(evE b ρ).bind fun y=>binD op x y
  | .cmp op a b,ρ=>(evE a ρ).bind fun x=>(evE b ρ).bind fun y=>cmpD op x y
  | .ite c a b,ρ=>(evE c ρ).bind fun d=>(truthD d).bind fun t=>if t then evE a ρ else evE b ρ
  | .list es,ρ=>(evEs es ρ).map .list
  | .comp elt x i,ρ=>(evI i ρ).bind fun ds=>(mapE (fun d=>evE elt ((ρ.set x none).set x (some d))) ds).map .list
  | .call f es,ρ=>(evEs es ρ).bind fun l=>cl f l
  | .bi b es,ρ=>(evEs es ρ).bind fun l=>biD b l
  | .me m o es,ρ=>(evE o ρ).bind fun d=>(evEs es ρ).bind fun l=>meD m d l
  | .idx a i,ρ=>(evE a ρ).bind fun x=>(evE i ρ).bind fun y=>idxD x y
  | .slc a lo hi,ρ=>(evE a ρ).bind fun x=>(evO lo ρ).bind fun l=>(evO hi ρ).bind fun h=>slcD x l h
  | .rev a,ρ=>(evE a ρ).bind revD
noncomputable def evEs:PEs→PEnv→Option (List PyData)
  | .nil,_=>some []
  | .cons e es,ρ=>(evE e ρ).bind fun d=>(evEs es ρ).map fun l=>d :: l
noncomputable def evO:PO→PEnv→Option (Option Int)
  | .no,_=>some none
  | .yes e,ρ=>(evE e ρ).bind fun d=>(partD d).map some
noncomputable def evI:PI→PEnv→Option (List PyData)
  | .of e,ρ=>(evE e ρ).bind itemsD
  | .range1 a,ρ=>(evE a ρ).bind fun d=>dInt d fun n=>if rangeOk 0 n then some (upTo 0 n) else none
  | .range2 a b,ρ=>(evE a ρ).bind fun x=>(evE b ρ).bind fun y=>dInt x fun m=>dInt y fun n=>if rangeOk m n then some (upTo m n) else none
end
end
mutual
noncomputable def esc:PE→List Nat
  | .lit _=>[]
  | .var x=>[x]
  | .neg a=>esc a
  | .nt a=>esc a
  | .bool _ a b=>esc a ++ esc b
  | .bin _ a b=>esc a ++ esc b
  | .cmp _ a b=>esc a ++ esc b
  | .ite _ a b=>esc a ++ esc b
  | .list es=>escs es
  | .comp elt _ i=>esc elt ++ escPI i
  | .call _ es=>escs es
  | .bi _ es=>escs es
  | .me _ o es=>esc o ++ escs es
  | .idx a _=>esc a
  | .slc a _ _=>esc a
  | .rev a=>esc a
noncomputable def escs:PEs→List Nat
  | .nil=>[]
  | .cons e es=>esc e ++ escs es
noncomputable def escPI:PI→List Nat
  | .of e=>esc e
  | .range1 _=>[]
  | .range2 _ _=>[]
end
noncomputable def flat:PyData→Bool
  | .none | .bool _ | .int _ | .str _=>true
  | _=>false
noncomputable def isNew:PE→Bool
  | .list _ | .comp _ _ _=>true
  | _=>false
structure PSt where
  env:PEnv
  own:List Nat
noncomputable def lose (own xs:List Nat):List Nat:=own.filter fun y=>!xs.contains y
noncomputable def afterE (own:List Nat) (d:PyData) (e:PE):List Nat:=if flat d then own else lose own (esc e)
noncomputable def asg (σ:PSt) (x:Nat) (d:PyData) (own:List Nat) (new:Bool):PSt :=
  { env:=σ.env.set x (some d),own:=let r:=own.filter (· != x); if new then x :: r else r }
inductive Fl where
  | next (σ:PSt)
  | ret (d:PyData)
noncomputable def forLoopP (body:PSt→Option Fl) (bind:PyData→PSt→Option PSt):List PyData→PSt→Option Fl
  | [],σ=>some (.next σ)
  | d :: ds,σ=>(bind d σ).bind fun σ₁=>(body σ₁).bind fun
    | .next σ₂=>forLoopP body bind ds σ₂
    | .ret v=>some (.ret v)
noncomputable def whileLoopP (test:PSt→Option Bool) (body:PSt→Option Fl):Nat→PSt→Option Fl
  | 0,_=>none
  | n + 1,σ=>(test σ).bind fun t=>if t then (body σ).bind fun
      | .next σ₂=>whileLoopP test body n σ₂
      | .ret v=>some (.ret v)
    else some (.next σ)
section
variable (cl:Nat→List PyData→Option PyData) (fuel:Nat)
mutual
noncomputable def exS:PS→PSt→Option Fl
  | .assign x e,σ=>(evE cl e σ.env).map fun d=>.next (asg σ x d (afterE σ.own d e) (isNew e))
  | .assign2 x y a b,σ=>(evE cl a σ.env).bind fun d=>(evE cl b σ.env).map fun d' =>
      .next (asg (asg σ x d (afterE (afterE σ.own d a) d' b) (isNew a)) y d' ((asg σ x d (afterE (afterE σ.own d a) d' b) (isNew a)).own) (isNew b))
  | .aug x op e,σ=>(lookV σ.env x).bind fun a=>(evE cl e σ.env).bind fun b=>if flat a && flat b && (op == .Add || op == .Sub) then (binD op a b).map fun d=>.next (asg σ x d σ.own false) else none
  | .app x e,σ=>if σ.own.contains x then ((lookV σ.env x).bind fun q=>dList q fun xs=>(evE cl e σ.env).bind fun d =>
          if !flat d && (esc e).contains x then none
          else (mkL (xs ++ [d])).map fun l=>.next { env:=σ.env.set x (some l),own:=afterE σ.own d e }) else none
  | .ife c a b,σ=>(evE cl c σ.env).bind fun d=>(truthD d).bind fun t=>if t then exSs a σ else exSs b σ
  | .for_ t i b,σ=>(evI cl i σ.env).bind fun ds =>
      forLoopP (exSs b) (fun d τ=>(bindT t d τ.env).map fun ρ=>{ env:=ρ,own:=lose τ.own (tgVars t) }) ds { σ with own:=lose σ.own (escPI i) }
  | .while_ c b,σ=>whileLoopP (fun τ=>(evE cl c τ.env).bind truthD) (exSs b) fuel σ
  | .ret e,σ=>(evE cl e σ.env).map .ret
noncomputable def exSs:PSs→PSt→Option Fl
  | .nil,σ=>some (.next σ)
  | .cons s ss,σ=>(exS s σ).bind fun
    | .next σ'=>exSs ss σ'
    | .ret d=>some (.ret d)
end
end
structure PF where
  size:Nat
  arity:Nat
  body:PSs
noncomputable def initEnv (n:Nat) (args:List PyData):PEnv:=args.map some ++ List.replicate (n - args.length) none
noncomputable def runF (tab:Nat→Option PF) (prim:Nat→List PyData→Option PyData) (fuel:Nat):Nat→Nat→List PyData→Option PyData
  | 0,_,_=>none
  | lvl + 1,f,args=>match tab f with
    | some pf=>if args.length = pf.arity then
        (match exSs (runF tab prim fuel lvl) fuel pf.body ⟨initEnv pf.size args,[]⟩ with
          | some (.ret d)=>some d
          | some (.next _)=>some .none
          | none=>none) else none
    | none=>prim f args
end Kt
end
section
open PySem PySem.W PyProof.Rows
namespace Kt
noncomputable def InO (o:Option Nat) (es:List Nat):Prop:=∃ y ∈ es,o = some y
structure Zone where
  prog:Program
  w:World
  h₀:Heap
  os:OsState
  TabI:Heap→Prop
  tabK:∀ h h':Heap,TabI h→(∀ b o,b < h₀.objs.size→h.get? b = some o→h'.get? b = some o)→TabI h'
  mg:Str→Option Value
  mb:Str→Option Value
  hg:h₀.Ns mainGlobals mg
  hb:h₀.Ns builtinsNs mb
  fr:List Addr
  lam:Value:=.none
abbrev Zone.n (Z:Zone):Nat:=Z.h₀.objs.size
noncomputable def Sl (h':Heap) (b:Addr) (o:Obj):Prop:=h'.get? b = some o ∨ ((∃ es ep,o.data = .dict es ep) ∧ ∃ sl,h'.get? b = some { o with slots:=sl })
theorem Sl.ex {h':Heap} {b:Addr} {o:Obj} (x:Sl h' b o):∃ o',h'.get? b = some o' ∧ o'.cls = o.cls ∧ o'.data = o.data:=by
  rcases x with e | ⟨_,sl,e⟩
  · exact ⟨o,e,rfl,rfl⟩
  · exact ⟨_,e,rfl,rfl⟩
theorem Sl.lt {h':Heap} {b:Addr} {o:Obj} (x:Sl h' b o):b < h'.objs.size:=let ⟨_,e,_⟩:=x.ex; Heap.lt_size e
theorem Sl.seq {h':Heap} {b:Addr} {o:Obj} {xs:Array Value} {n:Nat} (x:Sl h' b o) (hd:o.data = .seq xs n):h'.get? b = some o:=by
  rcases x with e | ⟨⟨es,ep,e⟩,_⟩
  · exact e
  · rw [hd] at e; cases e
theorem Sl.cell {h':Heap} {b:Addr} {o:Obj} {v:Option Value} (x:Sl h' b o) (hd:o.data = .cell v):h'.get? b = some o:=by
  rcases x with e | ⟨⟨es,ep,e⟩,_⟩
  · exact e
  · rw [hd] at e; cases e
theorem Sl.flds {h':Heap} {b:Addr} {o:Obj} {vs:Array Value} (x:Sl h' b o) (hd:o.data = .fields vs):h'.get? b = some o:=by
  rcases x with e | ⟨⟨es,ep,e⟩,_⟩
  · exact e
  · rw [hd] at e; cases e
theorem Sl.nd {h':Heap} {b:Addr} {o:Obj} (x:Sl h' b o) (hd:∀ es ep,o.data ≠ .dict es ep):h'.get? b = some o:=by
  rcases x with e | ⟨⟨es,ep,e⟩,_⟩
  · exact e
  · exact absurd e (hd es ep)
theorem Sl.next {h₁ h₂:Heap} {b:Addr} {o:Obj} (x:Sl h₁ b o) (y:∀ o',h₁.get? b = some o'→o'.cls = o.cls→Sl h₂ b o'):Sl h₂ b o:=by
  rcases x with e | ⟨hd,sl,e⟩
  · exact y o e rfl
  · rcases y _ e rfl with e' | ⟨_,sl',e'⟩
    · exact .inr ⟨hd,sl,e'⟩
    · exact .inr ⟨hd,sl',e'⟩
theorem Sl.then {h₁ h₂:Heap} {b:Addr} {o:Obj} (x:Sl h₁ b o) (y:∀ o',h₁.get? b = some o'→h₂.get? b = some o'):Sl h₂ b o:=x.next fun o' e _=>.inl (y o' e)
structure Kp (n:Nat) (h h':Heap):Prop where
  k:∀ b o,h.get? b = some o→(o.cls ≠ .none ∨ n ≤ b)→Sl h' b o
theorem Kp.refl (n:Nat) (h:Heap):Kp n h h:=⟨fun _ _ e _=>.inl e⟩
theorem Kp.trans {n:Nat} {h₁ h₂ h₃:Heap} (x:Kp n h₁ h₂) (y:Kp n h₂ h₃):Kp n h₁ h₃:=⟨fun b o e c=>(x.k b o e c).next fun o' e' hc=>y.k b o' e' (by rw [hc]; exact c)⟩
theorem Kp.of {n:Nat} {h h':Heap} (k:∀ b o,h.get? b = some o→h'.get? b = some o):Kp n h h':=⟨fun b o e _=>.inl (k b o e)⟩
theorem Kp.push (n:Nat) (h:Heap) (o:Obj):Kp n h (h.push o):=.of fun _ _ e=>Heap.get?_push_of_some _ e
theorem Kp.ns {n:Nat} {h h':Heap} {a:Addr} {m:Str→Option Value} (k:Kp n h h') (ha:n ≤ a) (x:h.Ns a m):h'.Ns a m :=
  let ⟨_,es,ep,e,hd,r⟩:=x; let ⟨o',e',_,hd'⟩:=(k.k _ _ e (.inr ha)).ex; ⟨o',es,ep,e',hd'.trans hd,r⟩
theorem Kp.cell {n:Nat} {h h':Heap} {a:Addr} {v:Option Value} (k:Kp n h h') (ha:n ≤ a) (x:h.IsCell a v):h'.IsCell a v :=
  let ⟨o,e,r⟩:=x; ⟨o,(k.k _ _ e (.inr ha)).cell r,r⟩
theorem Kp.isList {n:Nat} {h h':Heap} {a:Addr} {its:Array Value} (k:Kp n h h') (x:h.IsList a its):h'.IsList a its :=
  let ⟨o,e,c,n,r⟩:=x; ⟨o,(k.k _ _ e (.inl (by rw [c]; nofun))).seq r,c,n,r⟩
inductive RdV (h:Heap):Bool→List Value→List PyData→List Addr→Prop
  | none:RdV h true [.none] [.none] []
  | bool (b):RdV h true [.bool b] [.bool b] []
  | int (i t):RdV h true [.int i t] [.int i] []
  | str (x t):RdV h true [.str x t] [.str x] []
  | list {a o vs n xs as}:h.get? a = some o→(o.cls = .type "list" ∧ o.dict = none)→o.data = .seq vs n→RdV h false vs.toList xs as→RdV h true [.ref a] [.list xs] (a :: as)
  | nil:RdV h false [] [] []
  | cons {v vs d ds as bs}:RdV h true [v] [d] as→RdV h false vs ds bs→RdV h false (v :: vs) (d :: ds) (as ++ bs)
abbrev Rd (h:Heap) (v:Value) (d:PyData) (as:List Addr):Prop:=RdV h true [v] [d] as
abbrev RdAll (h:Heap) (vs:List Value) (ds:List PyData) (as:List Addr):Prop:=RdV h false vs ds as
theorem RdV.map {h h':Heap} {q:Bool} {vs:List Value} {ds:List PyData} {as:List Addr} (r:RdV h q vs ds as) :
    (∀ a o,a ∈ as→h.get? a = some o→o.cls = .type "list" → h'.get? a = some o)→RdV h' q vs ds as:=by
  induction r with
  | none=>intro _; exact .none
  | bool b=>intro _; exact .bool b
  | int i t=>intro _; exact .int i t
  | str x t=>intro _; exact .str x t
  | list h1 h2 h3 h4 ih=>intro k; exact .list (k _ _ List.mem_cons_self h1 h2.1) h2 h3 (ih fun a o ha=>k a o (List.mem_cons_of_mem _ ha))
  | nil=>intro _; exact .nil
  | cons h1 h2 i1 i2=>intro k; exact .cons (i1 fun a o ha=>k a o (List.mem_append_left _ ha)) (i2 fun a o ha=>k a o (List.mem_append_right _ ha))
theorem RdV.objs {h:Heap} {q:Bool} {vs:List Value} {ds:List PyData} {as:List Addr} (r:RdV h q vs ds as):∀ a ∈ as,∃ o xs n,h.get? a = some o ∧ o.data = .seq xs n ∧ o.cls = .type "list" := by
  induction r with
  | none=>intro _ h; cases h
  | bool=>intro _ h; cases h
  | int=>intro _ h; cases h
  | str=>intro _ h; cases h
  | list h1 h2 h3 h4 ih =>
    intro a ha
    rcases List.mem_cons.mp ha with rfl | ha
    · exact ⟨_,_,_,h1,h3,h2.1⟩
    · exact ih a ha
  | nil=>intro _ h; cases h
  | cons _ _ i1 i2 =>
    intro a ha
    exact (List.mem_append.mp ha).elim (i1 a) (i2 a)
theorem Kp.rd {n:Nat} {h h':Heap} {q:Bool} {vs:List Value} {ds:List PyData} {as:List Addr} (k:Kp n h h') (r:RdV h q vs ds as):RdV h' q vs ds as :=
  r.map fun a o ha e c=>by
    obtain ⟨o',xs,m,e',hd,_⟩:=r.objs a ha
    rw [e] at e'; cases e'
    exact (k.k a o e (.inl (by rw [c]; nofun))).seq hd
theorem RdV.but {h h':Heap} {q:Bool} {vs:List Value} {ds:List PyData} {as:List Addr} (r:RdV h q vs ds as) (X:List Addr) (k:∀ b o,b ∉ X→h.get? b = some o→h'.get? b = some o) (hx:∀ a ∈ as,a ∉ X):RdV h' q vs ds as :=
  r.map fun a o ha e _=>k a o (hx a ha) e
theorem RdV.lt {h:Heap} {q:Bool} {vs:List Value} {ds:List PyData} {as:List Addr} (r:RdV h q vs ds as):∀ a ∈ as,a < h.objs.size:=by
  induction r with
  | none=>intro _ h; cases h
  | bool=>intro _ h; cases h
  | int=>intro _ h; cases h
  | str=>intro _ h; cases h
  | list h1 h2 h3 h4 ih =>
    intro a ha
    rcases List.mem_cons.mp ha with rfl | ha
    · exact Heap.lt_size h1
    · exact ih a ha
  | nil=>intro _ h; cases h
  | cons _ _ i1 i2=>intro a ha; exact (List.mem_append.mp ha).elim (i1 a) (i2 a)
theorem RdV.reads' {h:Heap} {q:Bool} {vs:List Value} {ds:List PyData} {as:List Addr} (r:RdV h q vs ds as):∃ bs,(q = true→∀ v d,vs = [v]→ds = [d]→Reads h v d bs) ∧ (q = false→ReadsAll h vs ds bs):=by
  induction r with
  | none=>exact ⟨[],fun _ v d e1 e2=>by cases e1; cases e2; exact .none,nofun⟩
  | bool b=>exact ⟨[],fun _ v d e1 e2=>by cases e1; cases e2; exact .bool b,nofun⟩
  | int i t=>exact ⟨[],fun _ v d e1 e2=>by cases e1; cases e2; exact .int i t,nofun⟩
  | str x t=>exact ⟨[],fun _ v d e1 e2=>by cases e1; cases e2; exact .str x t,nofun⟩
  | list h1 h2 h3 h4 ih =>
    obtain ⟨bs,_,hb⟩:=ih
    exact ⟨_,fun _ v d e1 e2=>by cases e1; cases e2; exact .list h1 h2.1 h3 (hb rfl),nofun⟩
  | nil=>exact ⟨[],nofun,fun _=>.nil⟩
  | cons h1 h2 i1 i2 =>
    obtain ⟨b1,x1,_⟩:=i1
    obtain ⟨b2,_,x2⟩:=i2
    exact ⟨b1 ++ b2,nofun,fun _=>.cons (x1 rfl _ _ rfl rfl) (x2 rfl)⟩
theorem Rd.reads {h:Heap} {v:Value} {d:PyData} {as:List Addr} (r:Rd h v d as):∃ bs,Reads h v d bs:=let ⟨bs,x,_⟩:=RdV.reads' r; ⟨bs,x rfl _ _ rfl rfl⟩
theorem RdAll.reads {h:Heap} {vs:List Value} {ds:List PyData} {as:List Addr} (r:RdAll h vs ds as):∃ bs,ReadsAll h vs ds bs:=let ⟨bs,_,x⟩:=RdV.reads' r; ⟨bs,x rfl⟩
theorem RdV.same {h:Heap} {q:Bool} {vs:List Value} {ds:List PyData} {as:List Addr} (r:RdV h q vs ds as):∀ {ds':List PyData} {as':List Addr},RdV h q vs ds' as'→ds = ds' ∧ as = as':=by
  induction r with
  | none=>intro ds' as' r'; cases r'; exact ⟨rfl,rfl⟩
  | bool b=>intro ds' as' r'; cases r'; exact ⟨rfl,rfl⟩
  | int i t=>intro ds' as' r'; cases r'; exact ⟨rfl,rfl⟩
  | str x t=>intro ds' as' r'; cases r'; exact ⟨rfl,rfl⟩
  | list h1 h2 h3 h4 ih =>
    intro ds' as' r'
    cases r' with
    | list g1 g2 g3 g4 =>
      rw [h1] at g1; cases g1
      rw [h3] at g3; cases g3
      obtain ⟨e1,e2⟩:=ih g4
      subst e1 e2
      exact ⟨rfl,rfl⟩
  | nil=>intro ds' as' r'; cases r'; exact ⟨rfl,rfl⟩
  | cons h1 h2 i1 i2 =>
    intro ds' as' r'
    cases r' with
    | cons g1 g2 =>
      obtain ⟨e1,e2⟩:=i1 g1
      obtain ⟨e3,e4⟩:=i2 g2
      simp only [List.cons.injEq,and_true] at e1
      subst e1 e2 e3 e4
      exact ⟨rfl,rfl⟩
theorem RdV.inside {h:Heap} {q:Bool} {vs:List Value} {ds:List PyData} {as:List Addr} (r:RdV h q vs ds as):∀ a ∈ as,∃ d' as',Rd h (.ref a) d' as' ∧ as'.length ≤ as.length ∧ ∃ r,as' = a :: r:=by
  induction r with
  | none=>intro _ h; cases h
  | bool=>intro _ h; cases h
  | int=>intro _ h; cases h
  | str=>intro _ h; cases h
  | list h1 h2 h3 h4 ih =>
    intro a ha
    rcases List.mem_cons.mp ha with rfl | ha
    · exact ⟨_,_,.list h1 h2 h3 h4,Nat.le_refl _,_,rfl⟩
    · obtain ⟨d',as',x,y,z⟩:=ih a ha
      exact ⟨d',as',x,Nat.le_succ_of_le y,z⟩
  | nil=>intro _ h; cases h
  | cons _ _ i1 i2 =>
    intro a ha
    rcases List.mem_append.mp ha with ha | ha
    · obtain ⟨d',as',x,y,z⟩:=i1 a ha
      exact ⟨d',as',x,by rw [List.length_append]; exact Nat.le_trans y (Nat.le_add_right _ _),z⟩
    · obtain ⟨d',as',x,y,z⟩:=i2 a ha
      exact ⟨d',as',x,by rw [List.length_append]; exact Nat.le_trans y (Nat.le_add_left _ _),z⟩
theorem Rd.shape {h:Heap} {v:Value} {d:PyData} {as:List Addr} (r:Rd h v d as):(as = [] ∧ ∀ a,v ≠ .ref a) ∨ ∃ a bs vs ds,v = .ref a ∧ as = a :: bs ∧ RdAll h vs ds bs:=by
  cases r with
  | list h1 h2 h3 h4=>exact .inr ⟨_,_,_,_,rfl,rfl,h4⟩
  | _=>exact .inl ⟨rfl,nofun⟩
theorem Rd.apart {h:Heap} {v:Value} {d:PyData} {as:List Addr} {b:Addr} (r:Rd h v d as) (hb:as.head? = some b):b ∉ as.tail:=by
  rcases r.shape with ⟨rfl,_⟩ | ⟨a,bs,vs,ds,rfl,rfl,hin⟩
  · cases hb
  · simp only [List.head?_cons,Option.some.injEq] at hb
    subst hb
    intro hm
    obtain ⟨d',as',r',hlen,r2,rfl⟩:=RdV.inside hin a hm
    have:=(RdV.same r r').2
    rw [← this] at hlen
    simp at hlen
    omega
theorem rdAll_ints {h:Heap} {vs:List Value} {ns:List Int} (hi:IntsAre vs ns):RdAll h vs (ns.map .int) []:=by
  induction hi with
  | nil=>exact .nil
  | cons n t _ ih=>exact RdV.cons (as:=[]) (bs:=[]) (.int n t) ih
structure Inv (Z:Zone) (s:Shared):Prop where
  old:OldK Z.h₀ s.heap
  lim:s.heap.NoLimit
  tab:Z.TabI s.heap
  gens:AllBare s.gens
  os:s.os = Z.os
  frs:∀ L ∈ Z.fr,Z.n ≤ L ∧ ∃ o,s.heap.get? L = some o ∧ ∃ es ep,o.data = .dict es ep
theorem OldK.stepOld {h₀ h h':Heap} (K:OldK h₀ h) (hk:∀ b o,b < h₀.objs.size→h.get? b = some o→h'.get? b = some o):OldK h₀ h':=by
  refine ⟨fun b o e=>?_,fun b o e=>let ⟨o',ho'⟩:=K.there b o e; ⟨o',hk _ _ (Heap.lt_size e) ho'⟩⟩
  have hb:=Heap.lt_size e
  rcases K.old b o e with x | ⟨t,hc,vs,more,hv,x⟩ | ⟨rfl,hc,⟨o',es,n,ho',r⟩,z⟩
  · exact .inl (hk _ _ hb x)
  · exact .inr (.inl ⟨t,hc,vs,more,hv,hk _ _ hb x⟩)
  · exact .inr (.inr ⟨rfl,hc,⟨o',es,n,hk _ _ hb ho',r⟩,fun key=>by rw [OldK.staticOf_congr ((hk _ _ hb ho').trans ho'.symm) key]; exact z key⟩)
theorem Inv.step {Z:Zone} {s:Shared} (I:Inv Z s) {h':Heap} {tk:Nat} (hk:∀ b o,b < Z.n→s.heap.get? b = some o→h'.get? b = some o)
    (hc:cStatics < Z.n) (hf:∀ L ∈ Z.fr,∀ o,s.heap.get? L = some o→(∃ es ep,o.data = .dict es ep)→∃ o',h'.get? L = some o' ∧ ∃ es ep,o'.data = .dict es ep):Inv Z { s with heap:=h',toks:=tk } where
  old:=OldK.stepOld I.old hk
  lim:=let ⟨mc,⟨o,es,ep,e,r⟩,b⟩:=I.lim; ⟨mc,⟨o,es,ep,hk _ _ hc e,r⟩,b⟩
  tab:=Z.tabK _ _ I.tab hk
  gens:=I.gens
  os:=I.os
  frs:=fun L hL=>let ⟨h1,o,e,hd⟩:=I.frs L hL; ⟨h1,hf L hL o e hd⟩
theorem Zone.low (Z:Zone):mainGlobals < Z.n:=Z.hg.lt
theorem Zone.lowC (Z:Zone):cStatics < Z.n:=Nat.lt_trans (by decide) Z.low
theorem Inv.full {Z:Zone} {s:Shared} (I:Inv Z s) {h':Heap} {tk:Nat} (hk:∀ b o,s.heap.get? b = some o→h'.get? b = some o):Inv Z { s with heap:=h',toks:=tk } :=
  I.step (fun b o _ e=>hk b o e) Z.lowC fun L _ o e hd=>⟨o,hk L o e,hd⟩
theorem Inv.tok {Z:Zone} {s:Shared} (I:Inv Z s) (tk:Nat):Inv Z { s with toks:=tk }:=⟨I.old,I.lim,I.tab,I.gens,I.os,I.frs⟩
theorem Inv.push {Z:Zone} {s:Shared} (I:Inv Z s) (o:Obj) (tk:Nat):Inv Z { s with heap:=s.heap.push o,toks:=tk } :=
  I.full fun _ _ e=>Heap.get?_push_of_some _ e
theorem Inv.same {Z:Zone} {s:Shared} (I:Inv Z s) {a:Addr} {h':Heap} (ha:Z.n ≤ a) (hs:Heap.SameBut a s.heap h') (hfa:a ∈ Z.fr→∃ o',h'.get? a = some o' ∧ ∃ es ep,o'.data = .dict es ep) (tk:Nat):Inv Z { s with heap:=h',toks:=tk } :=
  I.step (fun b o hb e=>(hs.2 b (by rintro rfl; exact Nat.lt_irrefl _ (Nat.lt_of_lt_of_le hb ha))).trans e) Z.lowC fun L hL o e hd=>by
    by_cases e':L = a
    · subst e'; exact hfa hL
    · exact ⟨o,(hs.2 L e').trans e,hd⟩
theorem Inv.notFr {Z:Zone} {s:Shared} (I:Inv Z s) {a:Addr} (ha:s.heap.get? a = none):a ∉ Z.fr:=fun h=>by obtain ⟨_,o,e,_⟩:=I.frs a h; rw [ha] at e; cases e
theorem Inv.frNot {Z:Zone} {s:Shared} (I:Inv Z s) {a:Addr} {o:Obj} (ha:s.heap.get? a = some o) (hd:∀ es ep,o.data ≠ .dict es ep):a ∉ Z.fr:=fun h=>by obtain ⟨_,o',e,es,ep,hd'⟩:=I.frs a h; rw [ha] at e; cases e; exact hd es ep hd'
theorem Inv.frLt {Z:Zone} {s:Shared} (I:Inv Z s) {a:Addr} (ha:s.heap.objs.size ≤ a):a ∉ Z.fr:=fun h=>by obtain ⟨_,o,e,_⟩:=I.frs a h; exact absurd (Heap.lt_size e) (Nat.not_lt.mpr ha)
theorem oldK_ns {h₀ h:Heap} (K:OldK h₀ h) {a:Addr} {m:Str→Option Value} (x:h₀.Ns a m) (ha:a ≠ cStatics):h.Ns a m:=by
  obtain ⟨o,es,ep,e,hd,r⟩:=x
  rcases K.old a o e with h1 | ⟨_,_,vs,more,hv,_⟩ | ⟨h1,_⟩
  · exact ⟨o,es,ep,h1,hd,r⟩
  · rw [hd] at hv; cases hv
  · exact absurd h1 ha
theorem Inv.glob {Z:Zone} {s:Shared} (I:Inv Z s):s.heap.Ns mainGlobals Z.mg:=oldK_ns I.old Z.hg (by decide)
theorem Inv.bltn {Z:Zone} {s:Shared} (I:Inv Z s):s.heap.Ns builtinsNs Z.mb:=oldK_ns I.old Z.hb (by decide)
noncomputable def vis (env:Env) (n:Str):Prop:=env.kindOf n = some .local ∨ env.kindOf n = some .cell ∨ env.kindOf n = some .free
noncomputable def Acc (env:Env) (h:Heap) (n:Str) (v:Value):Prop :=
  (env.kindOf n = some .local ∧ ∃ m,h.Ns env.locals m ∧ m n = some v) ∨
  ((env.kindOf n = some .cell ∨ env.kindOf n = some .free) ∧ ∃ c,env.cells.lookup n = some c ∧ h.IsCell c (some v))
structure EnvOk (Z:Zone) (nm:List Str) (env:Env) (ρ:PEnv) (O:List (Option Nat × Addr)) (h:Heap):Prop where
  kind:env.scope.kind = .function
  glob:env.globals = mainGlobals
  blt:env.builtins = builtinsNs
  new:Z.n ≤ env.locals
  ns:∃ m,h.Ns env.locals m
  live:∀ yb ∈ O,∃ o,h.get? yb.2 = some o ∧ o.cls ≠ .none
  apart:∀ yb ∈ O,yb.2 ≠ env.locals ∧ ∀ n c,(env.kindOf n = some .cell ∨ env.kindOf n = some .free)→env.cells.lookup n = some c→yb.2 ≠ c
  cells:∀ n,(env.kindOf n = some .cell ∨ env.kindOf n = some .free)→∃ c v,env.cells.lookup n = some c ∧ Z.n ≤ c ∧ h.IsCell c v
  inj:∀ n m c,(env.kindOf n = some .cell ∨ env.kindOf n = some .free)→(env.kindOf m = some .cell ∨ env.kindOf m = some .free)→env.cells.lookup n = some c→env.cells.lookup m = some c→n = m
  vars:∀ x d n,lookV ρ x = some d→nm[x]? = some n→vis env n→∃ v as,Acc env h n v ∧ Rd h v d as ∧ okD d = true ∧ ∀ yb ∈ O,yb.2 ∈ as→yb.1 = some x ∧ as.head? = some yb.2
theorem Acc.kp {n:Nat} {env:Env} {h h':Heap} {x:Str} {v:Value} (k:Kp n h h') (hl:n ≤ env.locals) (hc:∀ c,env.cells.lookup x = some c→(env.kindOf x = some .cell ∨ env.kindOf x = some .free)→n ≤ c) (a:Acc env h x v):Acc env h' x v:=by
  rcases a with ⟨hk,m,hn,hv⟩ | ⟨hk,c,hcl,hcell⟩
  · exact .inl ⟨hk,m,k.ns hl hn,hv⟩
  · exact .inr ⟨hk,c,hcl,k.cell (hc c hcl hk) hcell⟩
theorem EnvOk.kp {Z:Zone} {nm:List Str} {env:Env} {ρ:PEnv} {O:List (Option Nat × Addr)} {h h':Heap} (x:EnvOk Z nm env ρ O h) (k:Kp Z.n h h'):EnvOk Z nm env ρ O h' where
  kind:=x.kind
  glob:=x.glob
  blt:=x.blt
  new:=x.new
  ns:=let ⟨m,hm⟩:=x.ns; ⟨m,k.ns x.new hm⟩
  live:=fun yb hy=>let ⟨_,e,c⟩:=x.live yb hy; let ⟨o',e',hc,_⟩:=(k.k _ _ e (.inl c)).ex; ⟨o',e',hc ▸ c⟩
  apart:=x.apart
  cells:=fun n hn=>let ⟨c,v,h1,h2,h3⟩:=x.cells n hn; ⟨c,v,h1,h2,k.cell h2 h3⟩
  inj:=x.inj
  vars:=fun y d n h1 h2 h3=>by
    obtain ⟨v,as,a,r,hd,ho⟩:=x.vars y d n h1 h2 h3
    exact ⟨v,as,a.kp k x.new (fun c hc hk=>by obtain ⟨c',_,e,hn,_⟩:=x.cells n hk; rw [hc] at e; cases e; exact hn),k.rd r,hd,ho⟩
theorem EnvOk.lt {Z:Zone} {nm:List Str} {env:Env} {ρ:PEnv} {O:List (Option Nat × Addr)} {h:Heap} (x:EnvOk Z nm env ρ O h):∀ yb ∈ O,yb.2 < h.objs.size :=
  fun yb hy=>let ⟨_,e,_⟩:=x.live yb hy; Heap.lt_size e
theorem EnvOk.size {Z:Zone} {nm:List Str} {env:Env} {ρ:PEnv} {O:List (Option Nat × Addr)} {h:Heap} (x:EnvOk Z nm env ρ O h):Z.n ≤ h.objs.size :=
  let ⟨_,hm⟩:=x.ns; Nat.le_trans x.new (Nat.le_of_lt hm.lt)
structure AOk (Z:Zone) (lvl:Nat) (A:Around):Prop where
  handled:A.handled = none
  depth:A.depth + lvl + 20 < recursionLimit
  units:A.units + 3 * lvl + 200 < cLine
  frames:∃ fs,A.frames = some fs ∧ ∀ env ∈ fs,env.scope.kind ≠ .module ∧ ∃ L,env.frame = some L ∧ L ∈ Z.fr
noncomputable def ScOk (sc:Scope) (env:Env):Prop :=
  (∀ n,sc.names.lookup n = some .local→env.kindOf n = some .local) ∧
  (∀ n,(sc.names.lookup n = some .cell ∨ sc.names.lookup n = some .free)→(env.kindOf n = some .cell ∨ env.kindOf n = some .free)) ∧
  (∀ n,sc.names.lookup n = some .globalImplicit→env.kindOf n = some .globalImplicit)
noncomputable def Got (Z:Zone) (s:Shared) (O:List (Option Nat × Addr)) (es:List Nat) (d:PyData) (Q:Value→Shared→Prop):Prop :=
  ∀ v as s',Inv Z s'→Kp Z.n s.heap s'.heap→Rd s'.heap v d as→okD d = true→(∀ yb ∈ O,yb.2 ∈ as→InO yb.1 es)→Q v s'
structure Cx (Z:Zone) (lvl:Nat) (nm:List Str) (sc:Scope) (A:Around) (env:Env) (ρ:PEnv) (O:List (Option Nat × Addr)) (s:Shared):Prop where
  ha:AOk Z lvl A
  hs:ScOk sc env
  he:EnvOk Z nm env ρ O s.heap
  hi:Inv Z s
theorem Cx.kp {Z:Zone} {lvl:Nat} {nm:List Str} {sc:Scope} {A:Around} {env:Env} {ρ:PEnv} {O:List (Option Nat × Addr)} {s s':Shared} (X:Cx Z lvl nm sc A env ρ O s) (k:Kp Z.n s.heap s'.heap) (I:Inv Z s'):Cx Z lvl nm sc A env ρ O s':=⟨X.ha,X.hs,X.he.kp k,I⟩
section
variable (Z:Zone) (cl:Nat→List PyData→Option PyData) (lvl:Nat) (nm:List Str)
noncomputable def ST (sc:Scope) (e:Expr) (p:PE):Prop :=
  ∀ {A:Around} {env:Env} {ρ:PEnv} {O:List (Option Nat × Addr)} {s:Shared} {d:PyData} {b:Bool} {Q:Bool→Shared→Prop} {E:Value→Shared→Prop},
    Cx Z lvl nm sc A env ρ O s→evE cl p ρ = some d→truthD d = some b→(∀ s',Inv Z s'→Kp Z.n s.heap s'.heap→Q b s')→wpAny (model Z.prog Z.w) A (isTrue e env (eval e env)) Q E s
noncomputable def SE (sc:Scope) (e:Expr) (p:PE):Prop :=
  ∀ {A:Around} {env:Env} {ρ:PEnv} {O:List (Option Nat × Addr)} {s:Shared} {d:PyData} {Q:Value→Shared→Prop} {E:Value→Shared→Prop},
    Cx Z lvl nm sc A env ρ O s→evE cl p ρ = some d→Got Z s O (esc p) d Q→wpAny (model Z.prog Z.w) A (eval e env) Q E s
end
end Kt
end
section
open PySem PySem.W PyProof.Rows
namespace Kt
section
variable {Z:Zone} {A:Around} {E:Value→Shared→Prop} {s:Shared} {O:List (Option Nat × Addr)} {es:List Nat} {Q:Value→Shared→Prop} {lvl:Nat}
theorem got_int {i:Int} (I:Inv Z s) (g:Got Z s O es (.int i) Q) (t tk:Nat):Q (.int i t) { s with toks:=tk } :=
  g _ [] _ (I.tok tk) (Kp.refl _ _) (.int i t) (by simp [okD]) (fun _ _ h=>nomatch h)
theorem got_bool {b:Bool} (I:Inv Z s) (g:Got Z s O es (.bool b) Q):Q (.bool b) s :=
  g _ [] _ I (Kp.refl _ _) (.bool b) (by simp [okD]) (fun _ _ h=>nomatch h)
theorem got_none (I:Inv Z s) (g:Got Z s O es .none Q):Q .none s :=
  g _ [] _ I (Kp.refl _ _) .none (by simp [okD]) (fun _ _ h=>nomatch h)
theorem got_str {x:Str} (I:Inv Z s) (g:Got Z s O es (.str x) Q) (hx:okD (.str x) = true) (t tk:Nat):Q (.str x t) { s with toks:=tk } :=
  g _ [] _ (I.tok tk) (Kp.refl _ _) (.str x t) hx (fun _ _ h=>nomatch h)
theorem got_str' {x:Str} (I:Inv Z s) (g:Got Z s O es (.str x) Q) (hx:okD (.str x) = true) (t:Nat):Q (.str x t) s :=
  g _ [] _ I (Kp.refl _ _) (.str x t) hx (fun _ _ h=>nomatch h)
theorem got_list {ds:List PyData} {vs:List Value} {as:List Addr} (I:Inv Z s) (g:Got Z s O es (.list ds) Q) (r:RdAll s.heap vs ds as) (hd:okD (.list ds) = true)
    (ho:∀ yb ∈ O,yb.2 ∈ as→InO yb.1 es) (hO:∀ yb ∈ O,yb.2 < s.heap.objs.size) (tk n:Nat) :
    Q (.ref s.heap.objs.size) { s with heap:=s.heap.push { cls:=.type "list",data:=.seq vs.toArray n },toks:=tk }:=by
  refine g _ (s.heap.objs.size :: as) _ (I.push _ tk) (Kp.push _ _ _) (.list (Heap.get?_push_size _ rfl) ⟨rfl,rfl⟩ rfl ?_) hd ?_
  · exact (Kp.push Z.n s.heap _).rd (by simpa using r)
  · intro yb hy hm
    rcases List.mem_cons.mp hm with e | hm
    · have:=hO yb hy; rw [e] at this; exact absurd this (Nat.lt_irrefl _)
    · exact ho yb hy hm
theorem rdAll_append {h:Heap}:∀ {vs ws:List Value} {ds es:List PyData} {as bs:List Addr},RdAll h vs ds as→RdAll h ws es bs→RdAll h (vs ++ ws) (ds ++ es) (as ++ bs)
  | [],_,_,_,_,_,.nil,y=>by simpa using y
  | _ :: _,_,_,_,_,_,.cons h1 h2,y=>by
    have:=RdV.cons h1 (rdAll_append h2 y)
    simpa [List.append_assoc] using this
theorem rdAll_length {h:Heap}:∀ {vs:List Value} {ds:List PyData} {as:List Addr},RdAll h vs ds as→vs.length = ds.length
  | [],_,_,.nil=>rfl
  | _ :: _,_,_,.cons _ h2=>by simp [rdAll_length h2]
theorem rdAll_get {h:Heap}:∀ {vs:List Value} {ds:List PyData} {as:List Addr} {k:Nat} {d:PyData},RdAll h vs ds as→ds[k]? = some d→∃ v bs,vs[k]? = some v ∧ Rd h v d bs ∧ ∀ a ∈ bs,a ∈ as
  | [],_,_,k,d,.nil,e=>by simp at e
  | _ :: _,_,_,0,d,.cons (as:=as) (bs:=bs) h1 h2,e=>by
    simp at e; subst e
    exact ⟨_,as,rfl,h1,fun a ha=>List.mem_append_left _ ha⟩
  | _ :: _,_,_,k + 1,d,.cons h1 h2,e=>by
    obtain ⟨v,bs,e1,r,hm⟩:=rdAll_get (k:=k) h2 (by simpa using e)
    exact ⟨v,bs,by simpa using e1,r,fun a ha=>List.mem_append_right _ (hm a ha)⟩
theorem rdAll_sub {h:Heap}:∀ {vs:List Value} {ds:List PyData} {as:List Addr},RdAll h vs ds as→∀ (f:List Nat),(∀ k ∈ f,k < ds.length) →
    ∃ bs,RdAll h (f.filterMap (vs[·]?)) (f.filterMap (ds[·]?)) bs ∧ ∀ a ∈ bs,a ∈ as
  | _,_,_,_,[],_=>⟨[],.nil,fun _ h=>nomatch h⟩
  | vs,ds,as,r,k :: f,hf=>by
    obtain ⟨bs,rb,hb⟩:=rdAll_sub r f fun j hj=>hf j (List.mem_cons_of_mem _ hj)
    have hk:=hf k List.mem_cons_self
    obtain ⟨v,cs,e1,rc,hc⟩:=rdAll_get (k:=k) (d:=ds[k]) r (by simp [hk])
    refine ⟨cs ++ bs,?_,fun a ha=>(List.mem_append.mp ha).elim (hc a) (hb a)⟩
    have e2:ds[k]? = some ds[k]:=by simp [hk]
    rw [List.filterMap_cons,List.filterMap_cons,e1,e2]
    exact .cons rc rb
theorem rd_list_inv {h:Heap} {v:Value} {xs:List PyData} {as:List Addr} (r:Rd h v (.list xs) as) :
    ∃ a vs bs,v = .ref a ∧ h.IsList a vs ∧ RdAll h vs.toList xs bs ∧ as = a :: bs:=by
  cases r with
  | list h1 h2 h3 h4=>exact ⟨_,_,_,rfl,⟨_,h1,h2.1,_,h3⟩,h4,rfl⟩
theorem rd_list_obj {h:Heap} {v:Value} {xs:List PyData} {as:List Addr} (r:Rd h v (.list xs) as) :
    ∃ a vs n sl bs,v = .ref a ∧ h.get? a = some { cls:=.type "list",dict:=none,data:=.seq vs n,slots:=sl } ∧ RdAll h vs.toList xs bs ∧ as = a :: bs:=by
  cases r with
  | list h1 h2 h3 h4 =>
    rename_i a o vs n bs
    obtain ⟨cls,dd,data,sl⟩:=o
    simp only at h2 h3
    obtain ⟨h2,h2'⟩:=h2
    subst h2 h2' h3
    exact ⟨_,_,_,_,_,rfl,h1,h4,rfl⟩
section
variable {h:Heap} {v:Value} {x:PyData} {as:List Addr} {α:Type} {d:α} {m:Value→Prop}
theorem rdI {i:Int} {as:List Addr} (r:Rd h v (.int i) as) (k:∀ t,m (.int i t)):m v:=by cases r; exact k _
theorem rdS {i:Str} {as:List Addr} (r:Rd h v (.str i) as) (k:∀ t,m (.str i t)):m v:=by cases r; exact k _
theorem rdB {i:Bool} {as:List Addr} (r:Rd h v (.bool i) as) (k:m (.bool i)):m v:=by cases r; exact k
theorem rdInt {f:Int→Option α} (r:Rd h v x as) (e:dInt x f = some d) (k:∀ i t,f i = some d→m (.int i t)):m v:=by
  cases x with
  | int i=>exact rdI r fun t=>k i t e
  | _=>cases e
theorem rdStr {f:Str→Option α} (r:Rd h v x as) (e:dStr x f = some d) (k:∀ i t,x = .str i→f i = some d→m (.str i t)):m v:=by
  cases x with
  | str i=>exact rdS r fun t=>k i t rfl e
  | _=>cases e
theorem rdBool {f:Bool→Option α} (r:Rd h v x as) (e:dBool x f = some d) (k:∀ i,f i = some d→m (.bool i)):m v:=by
  cases x with
  | bool i=>exact rdB r (k i e)
  | _=>cases e
theorem rdList {G:Prop} {f:List PyData→Option α} (e:dList x f = some d) (k:∀ xs,x = .list xs→f xs = some d→G):G:=by
  cases x with
  | list i=>exact k i rfl e
  | _=>cases e
theorem dStrK {G:Prop} {f:Str→Option α} (e:dStr x f = some d) (k:∀ i,x = .str i→f i = some d→G):G:=by
  cases x with
  | str i=>exact k i rfl e
  | _=>cases e
theorem rd_str {i:Str} (r:Rd h v (.str i) as):∃ t,v = .str i t:=rdS (m:=fun v=>∃ t,v = .str i t) r fun t=>⟨t,rfl⟩
theorem rd_bool {i:Bool} (r:Rd h v (.bool i) as):v = .bool i:=rdB (m:=fun v=>v = .bool i) r rfl
theorem dIntK {G:Prop} {f:Int→Option α} (e:dInt x f = some d) (k:∀ i,x = .int i→f i = some d→G):G:=by
  cases x with
  | int i=>exact k i rfl e
  | _=>cases e
theorem ifK {G:Prop} {c:Bool} {a:α} (e:(if c = true then some a else none) = some d) (k:c = true→a = d→G):G:=by
  cases c with
  | true=>exact k rfl (Option.some.inj e)
  | false=>cases e
theorem ifP {G c:Prop} [Decidable c] {a:Option α} (e:(if c then a else none) = some d) (k:c→a = some d→G):G:=by
  by_cases hc:c
  · rw [if_pos hc] at e; exact k hc e
  · rw [if_neg hc] at e; cases e
end
theorem okS {x:Str} (h:okD (.str x) = true):PyData.strOk x = true ∧ x.length ≤ sizeLine:=⟨(andT h).1,of_decide_eq_true (andT h).2⟩
theorem okL {xs:List PyData} (h:okD (.list xs) = true):xs.length ≤ sizeLine ∧ okDs xs = true:=⟨of_decide_eq_true (andT h).1,(andT h).2⟩
theorem okL' {xs:List PyData} (h:xs.length ≤ sizeLine) (h':okDs xs = true):okD (.list xs) = true:=by rw [okD,decide_eq_true h,h']; rfl
theorem okS' {x:Str} (h:PyData.strOk x = true) (h':x.length ≤ sizeLine):okD (.str x) = true:=by rw [okD,decide_eq_true h',h]; rfl
theorem intBits_of_fit {a:Int} (h:fitI a = true):Builtin.Int.intBits a ≤ 1024:=PyProof.Rows.intBits_le (of_decide_eq_true h)
theorem mulOk_of_fit {a b:Int} (ha:fitI a = true) (hb:fitI b = true):IntMulOk a b:=by
  have h1:=intBits_of_fit ha
  have h2:=intBits_of_fit hb
  unfold IntMulOk Builtin.Int.intTooBig
  simp only [Bool.and_eq_true,decide_eq_true_eq,not_and]
  intro _ _
  have:bitsLine = 2 ^ 27:=rfl
  omega
theorem noPylong_of_fit {a b:Int} (hb:fitI b = true):Builtin.divisionGoesByPylong a b = false:=by
  refine PyProof.noPylong_of_log2 ?_
  have h:b.natAbs < 2 ^ 1024:=of_decide_eq_true hb
  by_cases h0:b.natAbs = 0
  · rw [h0]; decide
  · have:=(Nat.log2_lt h0).mpr h
    omega
theorem okD_str_append {x y:Str} (hx:okD (.str x) = true) (hy:okD (.str y) = true) (hs:(x ++ y).length ≤ sizeLine):okD (.str (x ++ y)) = true:=by
  refine okS' ?_ hs
  unfold PyData.strOk
  rw [Str.cps_append,Array.all_append]
  exact Bool.and_eq_true_iff.mpr ⟨(okS hx).1,(okS hy).1⟩
theorem str_none {u:Str} (e:u.length = 0):u = Str.empty:=by obtain ⟨c⟩:=u; exact congrArg Str.mk (Array.eq_empty_of_size_eq_zero e)
theorem append_none {u v:Str} (e:v.length = 0):u ++ v = u:=by rw [str_none e]; exact Str.ext' (by rw [Str.cps_append]; exact Array.append_empty)
theorem bin_int {op:Operator} {i j:Int} {t u:Tok} {d:PyData} (I:Inv Z s) (h:binI op i j = some d) (g:Got Z s O es d Q):wpAny (model Z.prog Z.w) A (binaryOp op (.int i t) (.int j u)) Q E s:=by
  cases op with
  | Add=>cases h; exact P.add_int (got_int I g _ _)
  | Sub=>cases h; exact P.sub_int (got_int I g _ _)
  | Mult=>exact ifK h fun hf e=>by subst e; exact P.mul_int (got_int I g _ _) (mulOk_of_fit (andT hf).1 (andT hf).2)
  | FloorDiv=>exact ifK h fun hf e=>by subst e; exact floordiv_int (Int.ne_of_gt (of_decide_eq_true (andT hf).1)) (got_int I g _ _) (.inl (noPylong_of_fit (andT hf).2))
  | Mod=>exact ifP h fun hf e=>by cases e; exact mod_int' (Int.ne_of_gt hf) (got_int I g _ _)
  | Pow =>
    exact ifK h fun hf e=>by
      subst e
      have h0:=of_decide_eq_true (andT (andT hf).1).2
      have h2:=of_decide_eq_true (andT hf).2
      refine pow_int h0 ?_ (got_int I g _ _)
      have h1:=intBits_of_fit (andT (andT hf).1).1
      have h3:=Int.mul_le_mul (show (Builtin.Int.intBits i:Int) ≤ 1024 by omega) h2 h0 (by omega)
      omega
  | _=>cases h
theorem add_strs {u v:Str} {t t':Tok} {d:PyData} (I:Inv Z s) (hx:okD (.str u) = true) (hy:okD (.str v) = true) (h:mkS (u ++ v) = some d) (g:Got Z s O es d Q):wpAny (model Z.prog Z.w) A (binaryOp .Add (.str u t) (.str v t')) Q E s:=by
  refine ifP h fun hs e=>?_
  cases e
  have hok:=okD_str_append hx hy hs
  refine P.add_str ?_
  by_cases e1:(u.length == 0) = true
  · rw [if_pos e1]
    have e2:u ++ v = v:=by rw [str_none (eq_of_beq e1)]; exact Str.empty_append v
    rw [e2] at g hok
    exact got_str' I g hok _
  · rw [if_neg e1]
    by_cases e3:(v.length == 0) = true
    · rw [if_pos e3]
      rw [append_none (eq_of_beq e3)] at g hok
      exact got_str' I g hok _
    · rw [if_neg e3]
      exact ⟨hs,got_str I g hok _ _⟩
theorem add_lists {a b:Value} {xs ys:List PyData} {as bs:List Addr} {d:PyData} (I:Inv Z s) (ra:Rd s.heap a (.list xs) as) (rb:Rd s.heap b (.list ys) bs) (hx:okD (.list xs) = true) (hy:okD (.list ys) = true) (h:mkL (xs ++ ys) = some d)
    (g:Got Z s O es d Q) (hoa:∀ yb ∈ O,yb.2 ∈ as→InO yb.1 es) (hob:∀ yb ∈ O,yb.2 ∈ bs→InO yb.1 es) (hO:∀ yb ∈ O,yb.2 < s.heap.objs.size):wpAny (model Z.prog Z.w) A (binaryOp .Add a b) Q E s:=by
  obtain ⟨la,vs,n,sl,as',rfl,ho,rvs,rfl⟩:=rd_list_obj ra
  obtain ⟨lb,ws,n2,sl2,bs',rfl,ho2,rws,rfl⟩:=rd_list_obj rb
  refine ifP h fun hs e=>?_
  cases e
  have hsz:vs.size + ws.size ≤ sizeLine:=by
    have e1:=rdAll_length rvs
    have e2:=rdAll_length rws
    rw [Array.length_toList] at e1 e2
    rwa [e1,e2,← List.length_append]
  refine concat_meets ⟨_,ho,rfl⟩ ⟨_,ho2,rfl⟩ noFill_list_add seq_list_add PySem.F.slot_list_add PySem.F.entry_list_add (PySem.F.args_list_add_2 _ _) (list_addW la lb vs ws n n2 none none sl sl2 hsz) ⟨ho,ho2,?_⟩
  have e:vs ++ ws = (vs.toList ++ ws.toList).toArray:=by rw [← Array.toList_append]
  rw [e]
  exact got_list I g (rdAll_append rvs rws) (okL' hs (okDs_append.mpr ⟨(okL hx).2,(okL hy).2⟩)) (fun yb hy hm=>(List.mem_append.mp hm).elim (fun m=>hoa yb hy (List.mem_cons_of_mem _ m)) fun m=>hob yb hy (List.mem_cons_of_mem _ m)) hO _ _
theorem sound_bin {op:Operator} {a b:Value} {x y d:PyData} {as bs:List Addr} (I:Inv Z s) (ra:Rd s.heap a x as) (rb:Rd s.heap b y bs) (hx:okD x = true) (hy:okD y = true)
    (h:binD op x y = some d) (g:Got Z s O es d Q) (hoa:∀ yb ∈ O,yb.2 ∈ as→InO yb.1 es) (hob:∀ yb ∈ O,yb.2 ∈ bs→InO yb.1 es) (hO:∀ yb ∈ O,yb.2 < s.heap.objs.size) :
    wpAny (model Z.prog Z.w) A (binaryOp op a b) Q E s:=by
  cases x with
  | int i=>exact rdI (m:=fun a=>wpAny _ A (binaryOp op a b) Q E s) ra fun t=>rdInt (m:=fun b=>wpAny _ A (binaryOp op _ b) Q E s) rb h fun j u h=>bin_int I h g
  | str u =>
    exact rdS (m:=fun a=>wpAny _ A (binaryOp op a b) Q E s) ra fun t=>rdStr (m:=fun b=>wpAny _ A (binaryOp op _ b) Q E s) rb h fun v t' e h=>ifP h fun ho h=>by
      cases eq_of_beq ho
      exact add_strs I hx (e ▸ hy) h g
  | list xs =>
    exact rdList h fun ys e h=>ifP h fun ho h=>by
      cases eq_of_beq ho
      subst e
      exact add_lists I ra rb hx hy h g hoa hob hO
  | _=>cases h
theorem canLayL {xs:List PyData} (h:okD (.list xs) = true):PyData.canLayAll0 xs = true:=canLayAll0_of_ok (okL h).2
theorem sound_in {a b:Value} {x y:PyData} {q:Bool} {as bs:List Addr} (hA:AOk Z lvl A) (I:Inv Z s) (ra:Rd s.heap a x as) (rb:Rd s.heap b y bs) (hx:okD x = true) (hy:okD y = true)
    (h:inD x y = some q):(Q (.bool q) s→wpAny (model Z.prog Z.w) A (compareOp .In a b) Q E s) ∧ (Q (.bool !q) s→wpAny (model Z.prog Z.w) A (compareOp .NotIn a b) Q E s):=by
  have hu:=hA.units
  cases y with
  | list ys =>
    exact ifK h fun he e=>by
      subst e
      obtain ⟨as',ra'⟩:=ra.reads
      obtain ⟨bs',rb'⟩:=rb.reads
      have he':min x.depth (PyData.depthAll ys + 1) ≤ 64:=of_decide_eq_true he
      exact ⟨SeqAt.in_list_reads rb' ra' (canLayL hy) (canLay0_of_ok hx) (by omega),SeqAt.notIn_list_reads rb' ra' (canLayL hy) (canLay0_of_ok hx) (by omega)⟩
  | str v =>
    obtain ⟨t,rfl⟩:=rd_str rb
    exact dStrK h fun u e h=>by
      subst e
      obtain ⟨t',rfl⟩:=rd_str ra
      have h:Txt.contains v u = q:=Option.some.inj h
      subst h
      exact ⟨fun h=>P.in_str h,fun h=>P.notIn_str h⟩
  | _=>cases h
theorem sound_is {a b:Value} {x y:PyData} {q:Bool} {as bs:List Addr} (ra:Rd s.heap a x as) (rb:Rd s.heap b y bs)
    (h:isD x y = some q):(Q (.bool q) s→wpAny (model Z.prog Z.w) A (compareOp .Is a b) Q E s) ∧ (Q (.bool !q) s→wpAny (model Z.prog Z.w) A (compareOp .IsNot a b) Q E s):=by
  cases y with
  | none =>
    cases h
    have e:(a == Value.none) = isNoneD x:=by cases ra <;> rfl
    cases rb
    exact ⟨fun h=>is_none_gen (by rw [e]; exact h),fun h=>isnot_none_gen (by rw [e]; exact h)⟩
  | bool c =>
    cases rd_bool rb
    exact rdBool (m:=fun a=>(Q (.bool q) s→wpAny (model Z.prog Z.w) A (compareOp .Is a _) Q E s) ∧ (Q (.bool !q) s→wpAny (model Z.prog Z.w) A (compareOp .IsNot a _) Q E s)) ra h fun i h=>by
      cases h
      exact ⟨is_bool,isnot_bool⟩
  | _=>cases h
theorem sound_cmp {op:CmpOp} {a b:Value} {x y d:PyData} {as bs:List Addr} (hA:AOk Z lvl A) (I:Inv Z s) (ra:Rd s.heap a x as) (rb:Rd s.heap b y bs) (hx:okD x = true) (hy:okD y = true)
    (h:cmpD op x y = some d) (g:Got Z s O es d Q):wpAny (model Z.prog Z.w) A (compareOp op a b) Q E s:=by
  have hu:=hA.units
  have onI:∀ {op:CmpOp},(∀ i j t u q,cmpI op i j = some q→Q (.bool q) s→wpAny (model Z.prog Z.w) A (compareOp op (.int i t) (.int j u)) Q E s)→(dInt x fun a=>dInt y fun b=>(cmpI op a b).map PyData.bool) = some d→wpAny (model Z.prog Z.w) A (compareOp op a b) Q E s:=fun {op} k h =>
    rdInt (m:=fun a=>wpAny _ A (compareOp op a b) Q E s) ra h fun i t h=>rdInt (m:=fun b=>wpAny _ A (compareOp op _ b) Q E s) rb h fun j u h=>mapK h fun q hq e=>by subst e; exact k i j t u q hq (got_bool I g)
  cases op with
  | Eq =>
    exact ifK h fun he e=>by
      subst e
      obtain ⟨as',ra'⟩:=ra.reads
      obtain ⟨bs',rb'⟩:=rb.reads
      have he':=of_decide_eq_true he
      exact SeqAt.compareEq_reads ra' rb' (canLay0_of_ok hx) (canLay0_of_ok hy) (by omega) (got_bool I g)
  | NotEq =>
    exact ifK h fun he e=>by
      subst e
      obtain ⟨as',ra'⟩:=ra.reads
      obtain ⟨bs',rb'⟩:=rb.reads
      have he':=of_decide_eq_true he
      exact SeqAt.compareNe_reads ra' rb' (canLay0_of_ok hx) (canLay0_of_ok hy) (by omega) (got_bool I g)
  | In=>exact mapK h fun q hq e=>(sound_in hA I ra rb hx hy hq).1 (got_bool I (e ▸ g))
  | NotIn=>exact mapK h fun q hq e=>(sound_in hA I ra rb hx hy hq).2 (got_bool I (e ▸ g))
  | Is=>exact mapK h fun q hq e=>(sound_is ra rb hq).1 (got_bool I (e ▸ g))
  | IsNot=>exact mapK h fun q hq e=>(sound_is ra rb hq).2 (got_bool I (e ▸ g))
  | Lt=>exact onI (fun i j t u q e hq=>by cases e; exact P.lt_int hq) h
  | LtE=>exact onI (fun i j t u q e hq=>by cases e; exact P.le_int hq) h
  | Gt=>exact onI (fun i j t u q e hq=>by cases e; exact P.gt_int hq) h
  | GtE=>exact onI (fun i j t u q e hq=>by cases e; exact P.ge_int hq) h
theorem cmpD_bool {op:CmpOp} {x y d:PyData} (h:cmpD op x y = some d):∃ b,d = .bool b:=by
  have onI:∀ {op:CmpOp},(dInt x fun a=>dInt y fun b=>(cmpI op a b).map PyData.bool) = some d→∃ b,d = .bool b:=fun h=>dIntK h fun _ _ h=>dIntK h fun _ _ h=>mapK h fun q _ e=>⟨q,e.symm⟩
  cases op with
  | Eq=>exact ifK h fun _ e=>⟨_,e.symm⟩
  | NotEq=>exact ifK h fun _ e=>⟨_,e.symm⟩
  | In=>exact mapK h fun q _ e=>⟨_,e.symm⟩
  | NotIn=>exact mapK h fun q _ e=>⟨_,e.symm⟩
  | Is=>exact mapK h fun q _ e=>⟨_,e.symm⟩
  | IsNot=>exact mapK h fun q _ e=>⟨_,e.symm⟩
  | _=>exact onI h
end
end Kt
end
section
open PySem PySem.W PyProof.Rows
namespace Kt
theorem pick_range {α:Type} (l:List α) (a b:Nat) (hb:b ≤ l.length):((List.range (b - a)).map (a + ·)).filterMap (l[·]?) = (l.take b).drop a:=by
  apply List.ext_getElem?
  intro i
  rw [List.filterMap_map]
  have h:∀ (m:Nat),a + m ≤ l.length→(List.range m).filterMap ((l[·]?) ∘ (a + ·)) = (l.drop a).take m:=by
    intro m
    induction m with
    | zero=>intro _; simp
    | succ m ih =>
      intro hm
      rw [List.range_succ,List.filterMap_append,ih (by omega),List.take_add_one]
      congr 1
      simp only [List.filterMap_cons,List.filterMap_nil,Function.comp,List.getElem?_drop]
      have:a + m < l.length:=by omega
      simp [this]
  by_cases hab:a ≤ b
  · rw [h (b - a) (by omega),List.drop_take]
  · have e:b - a = 0:=by omega
    rw [e]
    simp only [List.range_zero,List.filterMap_nil,List.getElem?_nil]
    rw [List.drop_eq_nil_of_le (by rw [List.length_take]; omega)]
    simp
theorem pick_rev {α:Type} (l:List α):((List.range l.length).map fun k=>l.length - 1 - k).filterMap (l[·]?) = l.reverse:=by
  have:∀ m,m ≤ l.length→((List.range m).filterMap ((l[·]?) ∘ fun k=>l.length - 1 - k)) = l.reverse.take m:=by
    intro m
    induction m with
    | zero=>intro _; simp
    | succ m ih =>
      intro hm
      rw [List.range_succ,List.filterMap_append,ih (by omega),List.take_add_one]
      congr 1
      have h3:l.length - 1 - m < l.length:=by omega
      have h4:m < l.reverse.length:=by simp; omega
      simp only [List.filterMap_cons,List.filterMap_nil,Function.comp]
      rw [List.getElem?_eq_getElem h3,List.getElem?_eq_getElem h4]
      simp [List.getElem_reverse]
  rw [List.filterMap_map,this _ (Nat.le_refl _)]
  exact List.take_of_length_le (by simp)
theorem cut_full {α:Type} (l:List α) (lo hi:Option Int) (h:(cut l lo hi).length = l.length):cut l lo hi = l :=
  ((List.drop_sublist _ _).trans (List.take_sublist _ _)).eq_of_length h
theorem picks_length {α:Type} (l:List α):∀ f:List Nat,(∀ k ∈ f,k < l.length)→(f.filterMap (l[·]?)).length = f.length
  | [],_=>rfl
  | k :: f,hf=>by
    have hk:=hf k List.mem_cons_self
    rw [List.filterMap_cons,List.getElem?_eq_getElem hk]
    simp only [List.length_cons]
    rw [picks_length l f fun j hj=>hf j (List.mem_cons_of_mem _ hj)]
theorem clamp_le (i:Int) (n:Nat):clampI i n ≤ n ∨ (i < 0 ∧ clampI i n = (i + n).toNat):=by
  unfold clampI; split
  · exact .inr ⟨by assumption,rfl⟩
  · exact .inl (Nat.min_le_right _ _)
theorem clampI_le (i:Int) (n:Nat):clampI i n ≤ n:=by
  unfold clampI; split <;> omega
noncomputable def cutIdx (n:Nat) (lo hi:Option Int):List Nat :=
  let a:=match lo with | none=>0 | some i=>clampI i n
  let b:=match hi with | none=>n | some i=>clampI i n
  (List.range (b - a)).map (a + ·)
theorem cut_eq {α:Type} (l:List α) (lo hi:Option Int):(cutIdx l.length lo hi).filterMap (l[·]?) = cut l lo hi:=by
  unfold cutIdx cut
  refine pick_range l _ _ ?_
  cases hi with
  | none=>exact Nat.le_refl _
  | some i=>exact clampI_le _ _
theorem bounds_eq (n:Nat) (lo hi:Option Int):sliceRange (sliceBounds lo hi none n).1 (sliceBounds lo hi none n).2.1 (sliceBounds lo hi none n).2.2 = cutIdx n lo hi:=by
  have e1:∀ i:Int,max 0 (min (if i < 0 then i + n else i) (n:Int)) = (clampI i n:Nat):=by
    intro i; unfold clampI; split <;> omega
  unfold cutIdx
  cases lo <;> cases hi <;> simp only [sliceBounds,Option.getD_none,Int.one_pos,gt_iff_lt,if_true,e1]
  · exact sliceRange_one 0 n
  · exact sliceRange_one 0 _
  · exact sliceRange_one _ n
  · exact sliceRange_one _ _
theorem slicePick_cut (items:Array Value) (lo hi:Option Int):slicePick items lo hi none = ((cutIdx items.size lo hi).filterMap (items[·]?)).toArray:=by
  unfold slicePick
  rw [bounds_eq]
theorem picked_cut (n:Nat) (lo hi:Option Int):Builtin.Str.strSliceIndices lo hi 1 n = cutIdx n lo hi:=by
  rw [← bounds_eq]
  cases lo <;> cases hi <;> rfl
theorem cutIdx_lt {n:Nat} {lo hi:Option Int} {k:Nat} (h:k ∈ cutIdx n lo hi):k < n:=by
  unfold cutIdx at h
  simp only [List.mem_map,List.mem_range] at h
  obtain ⟨j,hj,rfl⟩:=h
  cases hi with
  | none=>dsimp only at hj; omega
  | some i=>have:=clampI_le i n; dsimp only at hj; omega
theorem okDs_cut {xs:List PyData} (lo hi:Option Int) (h:okDs xs = true):okDs (cut xs lo hi) = true:=by
  rw [okDs_mem] at *
  intro d hd
  exact h d (List.mem_of_mem_take (List.mem_of_mem_drop hd))
theorem cut_length_le {α:Type} (l:List α) (lo hi:Option Int):(cut l lo hi).length ≤ l.length:=by
  unfold cut; simp only [List.length_drop,List.length_take]; omega
theorem strOk_iff {x:Str}:PyData.strOk x = true ↔ ∀ c ∈ x.cps.toList,c < 0x110000:=by
  unfold PyData.strOk
  rw [← Array.all_toList,List.all_eq_true]
  simp only [decide_eq_true_eq]
section
variable {Z:Zone} {A:Around} {E:Value→Shared→Prop} {s:Shared} {O:List (Option Nat × Addr)} {es:List Nat} {Q:Value→Shared→Prop} {lvl:Nat}
theorem sound_truthy {v:Value} {d:PyData} {as:List Addr} {b:Bool} {R:Bool→Shared→Prop} (I:Inv Z s) (r:Rd s.heap v d as) (hd:okD d = true) (h:truthD d = some b)
    (g:∀ s',Inv Z s'→Kp Z.n s.heap s'.heap→R b s'):wpAny (model Z.prog Z.w) A (truthy v) R E s:=by
  have g0:=g s I (Kp.refl _ _)
  have g1:∀ tk,R b { s with toks:=tk }:=fun tk=>g _ (I.tok tk) (Kp.refl _ _)
  clear g
  cases d with
  | none=>cases h; cases r; exact fun _ _ _=>g0
  | bool b'=>cases h; cases rd_bool r; exact wpAny_truthy_bool g0
  | int i=>cases h; exact rdI (m:=fun v=>wpAny _ A (truthy v) R E s) r fun t=>P.truthy_int g0
  | str x =>
    obtain ⟨t,rfl⟩:=rd_str r
    have hs:x.length ≤ 2 ^ 24:=(okS hd).2
    have h:(x.length != 0) = b:=Option.some.inj h
    subst h
    have e:(((x.length:Nat):Int) != 0) = (x.length != 0):=by cases x.length <;> rfl
    exact P.truthy_str (by omega) (e ▸ g1 _)
  | list xs =>
    obtain ⟨a,vs,bs,rfl,hl,h4,rfl⟩:=rd_list_inv r
    have h:(!xs.isEmpty) = b:=Option.some.inj h
    subst h
    have hs:xs.length ≤ 2 ^ 24:=(okL hd).1
    have hsz:vs.size = xs.length:=(Array.length_toList).symm.trans (rdAll_length h4)
    have e:vs.isEmpty = xs.isEmpty:=by
      unfold Array.isEmpty
      rw [hsz]
      cases xs <;> rfl
    exact wpAny_truthy_list hl (by omega) (e ▸ g1 _)
  | _=>cases h
theorem okDs_get {xs:List PyData} {k:Nat} {d:PyData} (h:okDs xs = true) (e:xs[k]? = some d):okD d = true:=okDs_mem.mp h d (List.mem_of_getElem? e)
theorem place_bounds {i:Int} {n k:Nat} (h:placeI i n = some k):k < n ∧ -(2 ^ 62) < i ∧ i < 2 ^ 62 ∧ ((0 ≤ i ∧ k = i.toNat) ∨ (i < 0 ∧ 0 ≤ i + n ∧ k = (i + n).toNat)):=by
  unfold placeI at h
  split at h
  · rename_i hb
    simp only [Bool.and_eq_true,decide_eq_true_eq] at hb
    split at h
    · split at h
      · cases h; exact ⟨by assumption,hb.1,hb.2,.inl ⟨by assumption,rfl⟩⟩
      · cases h
    · split at h
      · cases h; exact ⟨by omega,hb.1,hb.2,.inr ⟨by omega,by assumption,rfl⟩⟩
      · cases h
  · cases h
theorem seqIndex_of {i:Int} {n k:Nat} (h:placeI i n = some k):seqIndex? i n = some k:=by
  obtain ⟨hk,h1,h2,h3⟩:=place_bounds h
  unfold seqIndex?
  rcases h3 with ⟨h3,rfl⟩ | ⟨h3,h4,rfl⟩
  · have:¬ i < 0:=by omega
    simp only [this,if_false]
    rw [if_pos (by simp; omega)]
  · simp only [h3,if_true]
    rw [if_pos (by simp; omega)]
theorem sound_idx {a b:Value} {x y d:PyData} {as bs:List Addr} (I:Inv Z s) (ra:Rd s.heap a x as) (rb:Rd s.heap b y bs) (hx:okD x = true)
    (h:idxD x y = some d) (g:Got Z s O es d Q) (hoa:∀ yb ∈ O,yb.2 ∈ as.tail→InO yb.1 es):wpAny (model Z.prog Z.w) A (getItem a b) Q E s :=
  rdInt (m:=fun b=>wpAny _ A (getItem a b) Q E s) rb h fun i t h=>by
    cases x with
    | list xs =>
      obtain ⟨la,vs,as',rfl,hl,rvs,rfl⟩:=rd_list_inv ra
      exact bndK h fun k hp h=>by
        obtain ⟨hk,h1,h2,h3⟩:=place_bounds hp
        obtain ⟨v,cs,ev,rv,hcs⟩:=rdAll_get rvs h
        have hsz:vs.size = xs.length:=(Array.length_toList).symm.trans (rdAll_length rvs)
        have hle:=(okL hx).1
        rw [Array.getElem?_toList] at ev
        have hq:Q v s:=g v cs s I (Kp.refl _ _) rv (okDs_get (okL hx).2 h) fun yb hy hm=>hoa yb hy (hcs _ hm)
        rw [← hsz] at h3 hle
        rcases h3 with ⟨h3,rfl⟩ | ⟨h3,h4,rfl⟩
        · exact wpAny_getItem_list hl h3 (by omega) ev hq
        · exact wpAny_getItem_list_neg hl h3 (by omega) (by omega) ev hq
    | str x =>
      obtain ⟨t,rfl⟩:=rd_str ra
      exact bndK h fun k hp h=>mapK h fun c hc e=>by
        subst e
        obtain ⟨hk,h1,h2,h3⟩:=place_bounds hp
        refine P.getItem_str (i:=i) (c:=c) (by simp; omega) (by rw [seqIndex_of hp]; exact hc) (got_str I g (okS' (strOk_iff.mpr fun c' hc'=>?_) (Nat.le_of_ble_eq_true rfl)) _ _)
        cases List.mem_singleton.mp hc'
        exact strOk_iff.mp (okS hx).1 _ (Array.mem_toList_iff.mpr (Array.mem_of_getElem? hc))
    | _=>cases h
theorem isPart_of (o:Option (Int × Tok)):IsPart (partValue o) (o.map (·.1)):=by
  cases o with
  | none=>exact .none
  | some p=>exact .int _ _
theorem okD_cut_str {x:Str} (lo hi:Option Int) (hx:okD (.str x) = true):okD (.str ⟨(cut x.cps.toList lo hi).toArray⟩) = true :=
  okS' (strOk_iff.mpr fun c hc=>strOk_iff.mp (okS hx).1 c (List.mem_of_mem_take (List.mem_of_mem_drop hc))) (Nat.le_trans (cut_length_le x.cps.toList lo hi) (okS hx).2)
theorem sound_slc {a:Value} {x d:PyData} {as:List Addr} {lo hi:Option (Int × Tok)} {sl:Addr} (I:Inv Z s) (ra:Rd s.heap a x as) (hx:okD x = true)
    (hsl:s.heap.IsSlice sl lo hi none)
    (h:slcD x (lo.map (·.1)) (hi.map (·.1)) = some d) (g:Got Z s O es d Q) (hoa:∀ yb ∈ O,yb.2 ∈ as.tail→InO yb.1 es) (hO:∀ yb ∈ O,yb.2 < s.heap.objs.size) :
    wpAny (model Z.prog Z.w) A (getItem a (.ref sl)) Q E s:=by
  cases x with
  | list xs =>
    obtain ⟨la,vs,as',rfl,hl,rvs,rfl⟩:=rd_list_inv ra
    cases h
    have hsz:vs.size = xs.length:=(Array.length_toList).symm.trans (rdAll_length rvs)
    refine wpAny_getItem_list_slice hl (vl:=partValue lo) (vu:=partValue hi) (vs:=partValue none) hsl (isPart_of lo) (isPart_of hi) (isPart_of none) nofun ?_ (by rw [hsz]; exact (okL hx).1)
    obtain ⟨bs,rb,hb⟩:=rdAll_sub rvs (cutIdx xs.length (lo.map (·.1)) (hi.map (·.1))) fun k hk=>cutIdx_lt hk
    rw [cut_eq] at rb
    rw [Option.map_none,slicePick_cut,hsz,show (vs[·]?) = (vs.toList[·]?) from funext fun k=>Array.getElem?_toList.symm]
    exact got_list I g rb (okL' (Nat.le_trans (cut_length_le _ _ _) (okL hx).1) (okDs_cut _ _ (okL hx).2)) (fun yb hy hm=>hoa yb hy (hb _ hm)) hO _ _
  | str x =>
    obtain ⟨t,rfl⟩:=rd_str ra
    cases h
    have hok:=okD_cut_str (lo.map (·.1)) (hi.map (·.1)) hx
    refine wpAny_getItem_str_slice hsl rfl ?_
    have e:(cutIdx x.length (lo.map (·.1)) (hi.map (·.1))).filterMap (x.cps[·]?) = cut x.cps.toList (lo.map (·.1)) (hi.map (·.1)):=by
      rw [← cut_eq,show (x.cps[·]?) = (x.cps.toList[·]?) from funext fun k=>Array.getElem?_toList.symm]; rfl
    unfold sliceMade slicePicked
    rw [show Option.getD (Option.map (·.1) (none:Option (Int × Tok))) 1 = 1 from rfl,picked_cut]
    by_cases hc:((1:Int) == 1 && (cutIdx x.length (lo.map (·.1)) (hi.map (·.1))).length == x.length) = true
    · rw [if_pos hc]
      have e3:cut x.cps.toList (lo.map (·.1)) (hi.map (·.1)) = x.cps.toList:=by
        refine cut_full _ _ _ ?_
        rw [← cut_eq,picks_length _ _ fun k hk=>cutIdx_lt hk]
        exact eq_of_beq (andT hc).2
      rw [e3] at g
      exact got_str' I g hx _
    · rw [if_neg hc,e]
      exact ⟨(okS hok).2,got_str I g hok _ _⟩
  | _=>cases h
theorem okD_rev_str {x:Str} (hx:okD (.str x) = true):okD (.str ⟨x.cps.toList.reverse.toArray⟩) = true :=
  okS' (strOk_iff.mpr fun c hc=>strOk_iff.mp (okS hx).1 c (List.mem_reverse.mp hc)) (Nat.le_trans (Nat.le_of_eq (List.length_reverse)) (okS hx).2)
theorem rev_range (n:Nat):sliceRange (sliceBounds none none (some (-1)) n).1 (sliceBounds none none (some (-1)) n).2.1 (sliceBounds none none (some (-1)) n).2.2 = (List.range n).map fun k=>n - 1 - k:=by
  rw [← picked_rev]; rfl
theorem sound_rev {a:Value} {x d:PyData} {as:List Addr} {t:Tok} {sl:Addr} (I:Inv Z s) (ra:Rd s.heap a x as) (hx:okD x = true)
    (hsl:s.heap.IsSlice sl none none (some (-1,t)))
    (h:revD x = some d) (g:Got Z s O es d Q) (hoa:∀ yb ∈ O,yb.2 ∈ as.tail→InO yb.1 es) (hO:∀ yb ∈ O,yb.2 < s.heap.objs.size) :
    wpAny (model Z.prog Z.w) A (getItem a (.ref sl)) Q E s:=by
  cases x with
  | list xs =>
    obtain ⟨la,vs,as',rfl,hl,rvs,rfl⟩:=rd_list_inv ra
    cases h
    have hsz:vs.size = xs.length:=(Array.length_toList).symm.trans (rdAll_length rvs)
    refine wpAny_getItem_list_slice hl (vl:=partValue none) (vu:=partValue none) (vs:=partValue (some (-1,t))) hsl (isPart_of none) (isPart_of none) (isPart_of (some (-1,t))) (by simp) ?_ (by rw [hsz]; exact (okL hx).1)
    obtain ⟨bs,rb,hb⟩:=rdAll_sub rvs ((List.range xs.length).map fun k=>xs.length - 1 - k) fun k hk=>by
      obtain ⟨j,hj,rfl⟩:=List.mem_map.mp hk
      have:=List.mem_range.mp hj
      omega
    rw [pick_rev] at rb
    have e1:slicePick vs (Option.map (·.1) (none:Option (Int × Tok))) (Option.map (·.1) (none:Option (Int × Tok))) (Option.map (·.1) (some ((-1:Int),t))) = (((List.range xs.length).map fun k=>xs.length - 1 - k).filterMap (vs.toList[·]?)).toArray:=by
      unfold slicePick
      rw [show (vs[·]?) = (vs.toList[·]?) from funext fun k=>Array.getElem?_toList.symm,← hsz]
      exact congrArg (fun l=>(l.filterMap (vs.toList[·]?)).toArray) (rev_range vs.size)
    rw [e1]
    exact got_list I g rb (okL' (Nat.le_trans (Nat.le_of_eq List.length_reverse) (okL hx).1) (okDs_mem.mpr fun d hd=>okDs_mem.mp (okL hx).2 d (List.mem_reverse.mp hd))) (fun yb hy hm=>hoa yb hy (hb _ hm)) hO _ _
  | str x =>
    obtain ⟨t,rfl⟩:=rd_str ra
    cases h
    have hok:=okD_rev_str hx
    refine wpAny_getItem_str_slice hsl rfl ?_
    have e:(Builtin.Str.strSliceIndices none none (-1) x.length).filterMap (x.cps[·]?) = x.cps.toList.reverse:=by
      rw [picked_rev,← pick_rev,show (x.cps[·]?) = (x.cps.toList[·]?) from funext fun k=>Array.getElem?_toList.symm]; rfl
    unfold sliceMade slicePicked
    rw [if_neg (by simp)]
    show (⟨((Builtin.Str.strSliceIndices none none (-1) x.length).filterMap (x.cps[·]?)).toArray⟩:Str).length ≤ sizeLine ∧ Q (.str ⟨((Builtin.Str.strSliceIndices none none (-1) x.length).filterMap (x.cps[·]?)).toArray⟩ _) _
    rw [e]
    exact ⟨(okS hok).2,got_str I g hok _ _⟩
  | _=>cases h
end
end Kt
end
section
open PySem PySem.W PyProof.Rows
namespace Kt
theorem strsD_map:∀ {xs:List PyData} {l:List Str},strsD xs = some l→xs = l.map .str
  | [],l,h=>by cases h; rfl
  | d :: r,l,h=>dStrK (x:=d) h fun i e h=>mapK h fun m hm h=>by subst h; rw [e,List.map_cons,← strsD_map hm]
theorem one2K {α:Type} {ds:List PyData} {f:PyData→Option α} {g:PyData→PyData→Option α} {d:α} {m:List PyData→Prop} (h:one2 ds f g = some d) (k₁:∀ x,f x = some d→m [x]) (k₂:∀ x y,g x y = some d→m [x,y]):m ds:=by
  cases ds with
  | nil=>cases h
  | cons x r =>
    cases r with
    | nil=>exact k₁ x h
    | cons y r =>
      cases r with
      | nil=>exact k₂ x y h
      | cons z r=>cases h
theorem rdAll1 {h:Heap} {vs:List Value} {x:PyData} {as:List Addr} {m:List Value→List Addr→Prop} (r:RdAll h vs [x] as) (k:∀ v as,Rd h v x as→m [v] as):m vs as:=by
  cases r with
  | cons r1 r2=>cases r2; rw [List.append_nil]; exact k _ _ r1
theorem rdAll2 {h:Heap} {vs:List Value} {x y:PyData} {as:List Addr} {m:List Value→Prop} (r:RdAll h vs [x,y] as) (k:∀ v w as bs,Rd h v x as→Rd h w y bs→m [v,w]):m vs:=by
  cases r with
  | cons r1 r2 =>
    cases r2 with
    | cons r2 r3=>cases r3; exact k _ _ _ _ r1 r2
theorem okD_sign {c:Nat} (h:c < 0x110000):okD (.str ⟨#[c]⟩) = true:=okS' (strOk_iff.mpr fun c' hc=>by cases List.mem_singleton.mp hc; exact h) (Nat.le_of_ble_eq_true rfl)
theorem chars_rd {h:Heap}:∀ {l:List Value} {cs:List Nat},l.length = cs.length→(∀ (j:Nat) (v:Value),l[j]? = some v→∃ c u,cs[j]? = some c ∧ v = Value.str ⟨#[c]⟩ u)→RdAll h l (cs.map fun c=>PyData.str ⟨#[c]⟩) []
  | [],[],_,_=>.nil
  | v :: l,c :: cs,hl,hv=>by
    obtain ⟨c',u,e1,rfl⟩:=hv 0 v rfl
    cases e1
    exact RdV.cons (as:=[]) (bs:=[]) (.str _ _) (chars_rd (Nat.succ.inj hl) fun j w hw=>hv (j + 1) w hw)
  | [],_ :: _,hl,_ | _ :: _,[],hl,_=>by cases hl
section
variable {Z:Zone} {A:Around} {E:Value→Shared→Prop} {s:Shared} {O:List (Option Nat × Addr)} {es:List Nat} {Q:Value→Shared→Prop} {lvl:Nat}
theorem got_int' {i:Int} {h':Heap} {tk:Nat} (I:Inv Z s) (g:Got Z s O es (.int i) Q) (hk:∀ b o,s.heap.get? b = some o→h'.get? b = some o) (t:Nat):Q (.int i t) { s with heap:=h',toks:=tk } :=
  g _ [] _ (I.full hk) (.of hk) (.int i t) (by simp [okD]) (fun _ _ h=>nomatch h)
theorem got_list' {ds:List PyData} {vs:Array Value} {as:List Addr} {h':Heap} {tk c:Nat} {a:Addr} {sl:Array (Option Value)} (I:Inv Z s) (g:Got Z s O es (.list ds) Q) (hk:∀ b o,s.heap.get? b = some o→h'.get? b = some o)
    (ha:h'.get? a = some { cls:=.type "list",dict:=none,data:=.seq vs c,slots:=sl }) (r:RdAll h' vs.toList ds as) (hd:okD (.list ds) = true) (ho:∀ yb ∈ O,yb.2 ∈ as→InO yb.1 es) (hO:∀ yb ∈ O,yb.2 ≠ a) :
    Q (.ref a) { s with heap:=h',toks:=tk }:=by
  refine g _ (a :: as) _ (I.full hk) (.of hk) (.list ha ⟨rfl,rfl⟩ rfl r) hd ?_
  intro yb hy hm
  rcases List.mem_cons.mp hm with e | hm
  · exact absurd e (hO yb hy)
  · exact ho yb hy hm
noncomputable def biV:Bi→Value
  | .len=>.builtin "len"
  | .max2=>.builtin "max"
  | .min2=>.builtin "min"
  | .chr=>.builtin "chr"
  | .listOf=>.type "list"
theorem sound_bi {b:Bi} {vs:List Value} {ds:List PyData} {as:List Addr} {d:PyData} (hA:AOk Z lvl A) (I:Inv Z s) (r:RdAll s.heap vs ds as) (hd:okDs ds = true)
    (h:biD b ds = some d) (g:Got Z s O es d Q) (ho:∀ yb ∈ O,yb.2 ∈ as→InO yb.1 es) (hO:∀ yb ∈ O,yb.2 < s.heap.objs.size):wpAny (model Z.prog Z.w) A (call (biV b) vs) Q E s:=by
  have hh:=hA.handled
  revert r hd
  refine one2K (m:=fun ds=>RdAll s.heap vs ds as→okDs ds = true→wpAny (model Z.prog Z.w) A (call (biV b) vs) Q E s) h (fun x h r hd=>?_) fun x y h r _=>?_
  · have hx:okD x = true:=(andT hd).1
    clear ho
    refine rdAll1 (m:=fun vs _=>wpAny _ A (call (biV b) vs) Q E s) r fun v as r=>?_
    cases b with
    | len =>
      cases x with
      | list xs =>
        obtain ⟨la,ws,as',rfl,hl,rvs,rfl⟩:=rd_list_inv r
        have hs:xs.length ≤ 2 ^ 24:=(okL hx).1
        have hsz:ws.size = xs.length:=(Array.length_toList).symm.trans (rdAll_length rvs)
        cases h
        refine Calls.call_len_list hl (by omega) ?_
        rw [hsz]
        exact got_int I g _ _
      | str x =>
        obtain ⟨t,rfl⟩:=rd_str r
        have hs:x.length ≤ 2 ^ 24:=(okS hx).2
        cases h
        exact P.len_str (by omega) (got_int I g _ _)
      | _=>cases h
    | chr =>
      exact rdInt (m:=fun v=>wpAny _ A (call (biV .chr) [v]) Q E s) r h fun i t h=>ifP h fun hc e=>by
        cases e
        have h1:=of_decide_eq_true (andT hc).1
        have h2:=of_decide_eq_true (andT hc).2
        exact P.chr_of_int (by simp; omega) (got_str I g (okD_sign (by omega)) _ _)
    | listOf =>
      exact rdStr (m:=fun v=>wpAny _ A (call (biV .listOf) [v]) Q E s) r h fun x t e h=>by
        subst e
        cases h
        refine call_list_str hh x _ (fun h' tk acc' c' hk hn hit=>?_) (okS hx).2
        obtain ⟨h1,h2⟩:=hit
        refine got_list' I g hk hn (chars_rd (by rw [Array.length_toList]; exact h1) fun j v hv=>?_) (okL' (by rw [List.length_map]; exact (okS hx).2) (okDs_mem.mpr fun d hd'=>?_)) (fun _ _ h=>nomatch h) fun yb hy e=>absurd (hO yb hy) (by rw [e]; exact Nat.lt_irrefl _)
        · obtain ⟨c,u,e1,e2⟩:=h2 j v (by rwa [Array.getElem?_toList] at hv)
          exact ⟨c,u,by rwa [Array.getElem?_toList],e2⟩
        · obtain ⟨c,hc,rfl⟩:=List.mem_map.mp hd'
          exact okD_sign (strOk_iff.mp (okS hx).1 c hc)
    | _=>cases h
  · have fin:∀ {c:Prop} [Decidable c] {i j:Int} {t u:Tok} {h':Heap} {tk:Nat},some (PyData.int (if c then i else j)) = some d→(∀ b o,s.heap.get? b = some o→h'.get? b = some o)→Q (if c then .int i t else .int j u) { s with heap:=h',toks:=tk }:=fun {c} _ {i j t u h' tk} e hk=>by
      cases e
      by_cases hc:c
      · rw [if_pos hc] at g ⊢; exact got_int' I g hk _
      · rw [if_neg hc] at g ⊢; exact got_int' I g hk _
    refine rdAll2 (m:=fun vs=>wpAny _ A (call (biV b) vs) Q E s) r fun v w as bs ra rb=>?_
    cases b with
    | max2=>exact rdInt (m:=fun v=>wpAny _ A (call (biV .max2) [v,w]) Q E s) ra h fun i t h=>rdInt (m:=fun w=>wpAny _ A (call (biV .max2) [_,w]) Q E s) rb h fun j u h=>max_two_ints hh fun h' tk hk=>fin h hk
    | min2=>exact rdInt (m:=fun v=>wpAny _ A (call (biV .min2) [v,w]) Q E s) ra h fun i t h=>rdInt (m:=fun w=>wpAny _ A (call (biV .min2) [_,w]) Q E s) rb h fun j u h=>min_two_ints hh fun h' tk hk=>fin h hk
    | _=>cases h
end
end Kt
end
section
open PySem PySem.W PyProof.Rows
namespace Kt
structure Iter (Z:Zone) (A:Around) (I:Addr) (ds:List PyData) (used:List Addr) (St:Nat→Heap→Prop):Prop where
  new:Z.n ≤ I
  apart:I ∉ used
  frame:∀ k h h',St k h→(∀ b,b = I ∨ b ∈ used→∀ o,h.get? b = some o→h'.get? b = some o)→St k h'
  live:∀ k h,St k h→∃ o,h.get? I = some o ∧ o.cls ≠ .none ∧ ∀ es ep,o.data ≠ .dict es ep
  step:∀ k d (s:Shared) (R:Option Value→Shared→Prop) (E:Value→Shared→Prop),ds[k]? = some d→St k s.heap→Inv Z s →
    (∀ v bs s',Inv Z s'→(∀ b o,b ≠ I→s.heap.get? b = some o→s'.heap.get? b = some o)→Rd s'.heap v d bs→(∀ a ∈ bs,a ∈ used)→St (k + 1) s'.heap→R (some v) s') →
    wpAny (model Z.prog Z.w) A (pyNext (.ref I)) R E s
  done:∀ (s:Shared) (Q:Option Value→Shared→Prop) (E:Value→Shared→Prop),St ds.length s.heap→Inv Z s →
    (∀ s',Inv Z s'→(∀ b o,b ≠ I→s.heap.get? b = some o→s'.heap.get? b = some o)→Q none s')→wpAny (model Z.prog Z.w) A (pyNext (.ref I)) Q E s
  again:∀ k (s:Shared) (Q:Value→Shared→Prop) (E:Value→Shared→Prop),St k s.heap→Q (.ref I) s→wpAny (model Z.prog Z.w) A (pyIter (.ref I)) Q E s
theorem Inv.but {Z:Zone} {s:Shared} (inv:Inv Z s) {I:Addr} {h':Heap} (tk:Nat) (hn:Z.n ≤ I) (hnf:I ∉ Z.fr) (hk:∀ b o,b ≠ I→s.heap.get? b = some o→h'.get? b = some o):Inv Z { s with heap:=h',toks:=tk } :=
  inv.step (fun b o hb e=>hk b o (fun hm=>Nat.lt_irrefl _ (Nat.lt_of_lt_of_le hb (hm ▸ hn))) e) Z.lowC fun L hL o e hd=>⟨o,hk L o (fun hm=>hnf (hm ▸ hL)) e,hd⟩
theorem isList_keep {h h':Heap} {l:Addr} {items:Array Value} (x:h.IsList l items) (hk:∀ o,h.get? l = some o→h'.get? l = some o):h'.IsList l items :=
  let ⟨o,e,r⟩:=x; ⟨o,hk o e,r⟩
theorem isIter_keep {h h':Heap} {I l:Addr} {k:Nat} (x:h.IsListIter I l k) (hk:∀ o,h.get? I = some o→h'.get? I = some o):h'.IsListIter I l k :=
  let ⟨o,e,r⟩:=x; ⟨o,hk o e,r⟩
theorem RdV.keep {h h':Heap} {q:Bool} {vs:List Value} {ds:List PyData} {as:List Addr} (r:RdV h q vs ds as) (k:∀ b ∈ as,∀ o,h.get? b = some o→h'.get? b = some o):RdV h' q vs ds as :=
  r.map fun a o ha e _=>k a ha o e
section
variable {Z:Zone} {A:Around}
theorem Iter.list (hh:A.handled = none) {I l:Addr} {items:Array Value} {ds:List PyData} {as:List Addr} (hI:Z.n ≤ I) (hIf:I ∉ Z.fr) (hap:I ∉ l :: as) :
    Iter Z A I ds (l :: as) (fun k h=>h.IsListIter I l k ∧ h.IsList l items ∧ RdAll h items.toList ds as) where
  new:=hI
  apart:=hap
  frame:=fun k h h' st hk=>⟨isIter_keep st.1 (hk I (.inl rfl)),isList_keep st.2.1 (hk l (.inr List.mem_cons_self)),st.2.2.keep fun b hb=>hk b (.inr (List.mem_cons_of_mem _ hb))⟩
  live:=fun k h st=>let ⟨o,e,c,hf⟩:=st.1; ⟨o,e,by rw [c]; nofun,fun es ep hd=>by rw [hf] at hd; cases hd⟩
  step:=fun k d s R E hd st inv hR=>by
    obtain ⟨v,bs,ev,rv,hbs⟩:=rdAll_get st.2.2 hd
    refine wpAny_pyNext_list_item st.1 st.2.1 (x:=v) (by rwa [Array.getElem?_toList] at ev) fun h' hit hs=>?_
    have hk:∀ b o,b ≠ I→s.heap.get? b = some o→h'.get? b = some o:=fun b o hb e=>hs.extBut b o hb e
    have hk':∀ b,b ∈ l :: as→∀ o,s.heap.get? b = some o→h'.get? b = some o:=fun b hb o e=>hk b o (fun e'=>hap (e' ▸ hb)) e
    exact hR v bs _ (inv.but s.toks hI hIf hk) hk (rv.keep fun b hb=>hk' b (List.mem_cons_of_mem _ (hbs b hb))) (fun a ha=>List.mem_cons_of_mem _ (hbs a ha)) ⟨hit,isList_keep st.2.1 (hk' l List.mem_cons_self),st.2.2.keep fun b hb=>hk' b (List.mem_cons_of_mem _ hb)⟩
  done:=fun s Q E st inv hQ=>by
    refine wpAny_pyNext_list_end hh st.1 st.2.1 (by rw [← rdAll_length st.2.2,Array.length_toList]; exact Array.getElem?_eq_none (Nat.le_refl _)) fun h' hs=>?_
    have hk:∀ b o,b ≠ I→s.heap.get? b = some o→h'.get? b = some o:=fun b o hb e=>hs b o hb e
    exact hQ _ (inv.but s.toks hI hIf hk) hk
  again:=fun k s Q E st hQ=>wpAny_pyIter_listiter st.1 hQ
theorem Iter.range (hh:A.handled = none) {I:Addr} {lo:Int} {n:Nat} (hI:Z.n ≤ I) (hIf:I ∉ Z.fr) :
    Iter Z A I ((List.range n).map fun (k:Nat)=>PyData.int (lo + (k:Int))) [] (fun k h=>IsRangeIter h I (lo + (k:Nat) * 1) ((n:Int) - (k:Nat)) 1) where
  new:=hI
  apart:=nofun
  frame:=fun k h h' st hk=>hk I (.inl rfl) _ st
  live:=fun k h st=>⟨_,st,nofun,nofun⟩
  step:=fun k d s R E hd st inv hR=>by
    rw [List.getElem?_map,Option.map_eq_some_iff] at hd
    obtain ⟨j,hj,rfl⟩:=hd
    obtain ⟨hkn,hj⟩:=List.getElem?_eq_some_iff.mp hj
    rw [List.getElem_range] at hj
    subst hj
    rw [List.length_range] at hkn
    refine wpAny_pyNext_range_item st (by omega) fun h' hit hs=>?_
    have hk:∀ b o,b ≠ I→s.heap.get? b = some o→h'.get? b = some o:=fun b o hb e=>hs.extBut b o hb e
    refine hR _ [] _ (inv.but _ hI hIf hk) hk (by rw [Int.mul_one]; exact .int _ _) (fun _ h=>nomatch h) ?_
    rwa [show lo + ((k + 1:Nat):Int) * 1 = lo + (k:Int) * 1 + 1 by omega,show (n:Int) - ((k + 1:Nat):Int) = (n:Int) - (k:Int) - 1 by omega]
  done:=fun s Q E st inv hQ=>by
    rw [List.length_map,List.length_range] at st
    refine wpAny_pyNext_range_end hh st (by omega) fun h' hs=>?_
    have hk:∀ b o,b ≠ I→s.heap.get? b = some o→h'.get? b = some o:=fun b o hb e=>hs b o hb e
    exact hQ _ (inv.but s.toks hI hIf hk) hk
  again:=fun k s Q E st hQ=>wpAny_pyIter_rangeiter st hQ
end
end Kt
end
section
open PySem PySem.W PyProof.Rows
namespace Kt
noncomputable def visK:Option NameKind→Bool
  | some .local | some .cell | some .free=>true
  | _=>false
noncomputable def litC:PyData→Option Const
  | .none=>some .none
  | .bool a=>some (.bool a)
  | .int a=>some (.int a)
  | .str a=>if okD (.str a) then some (.str a) else none
  | _=>none
noncomputable def biName:Bi→Str
  | .len => "len"
  | .max2 => "max"
  | .min2 => "min"
  | .chr => "chr"
  | .listOf => "list"
noncomputable def meName:Me→Str
  | .join => "join"
  | .index => "index"
noncomputable def isSlice (e:Expr):Bool:=e.ctorIdx == 26
noncomputable def isStarred (e:Expr):Bool:=e.ctorIdx == 22
noncomputable def isComp (e:Expr):Bool:=e.ctorIdx == 8 || e.ctorIdx == 9 || e.ctorIdx == 10 || e.ctorIdx == 11
noncomputable def isBase (e:Expr):Bool:=e.ctorIdx == 19 || e.ctorIdx == 23
noncomputable def isSetE (e:Expr):Bool:=e.ctorIdx == 7
noncomputable def globOk (sc:Scope) (n:Str):Bool:=sc.names.lookup n == some .globalImplicit && n != ("__debug__" : Str)
noncomputable def lcl (sc:Scope) (n:Str):Bool:=sc.names.lookup n == some .local || sc.names.lookup n == some .cell
noncomputable def opOf (q:Bool):BoolOp:=if q then .And else .Or
noncomputable def scopeOk (nm:List Str) (sc:Scope) (scope:Scope) (x:Nat):Bool :=
  scope.kind == .function && (decide ((scope.names.map (·.1)).Nodup) && (decide (nm.Nodup) && (!nm.contains ".0" &&
  scope.names.all fun p=>match p.2 with
    | .free=>sc.names.lookup p.1 == some .cell || sc.names.lookup p.1 == some .free
    | .local=>p.1 == ".0" || nm[x]? == some p.1
    | .globalImplicit=>true
    | _=>false)))
noncomputable def plen:PEs→Nat
  | .nil=>0
  | .cons _ es=>plen es + 1
section
variable (fn:List Str) (nm:List Str)
mutual
noncomputable def chkE (sc:Scope):PE→Expr→Bool
  | .lit d,e=>onConstant e fun c _ _=>litC d == some c
  | .var x,e=>onName e fun n _=>nm[x]? == some n && visK (sc.names.lookup n) && n != ("__debug__" : Str) && n != ("__classdict__" : Str)
  | .neg a,e=>onUnaryOp e fun o x _=>o == .USub && chkE sc a x
  | .nt a,e=>onUnaryOp e fun o x _=>o == .Not && chkE sc a x
  | .bool q a b,e=>onBoolOp e fun op xs pos=>op == opOf q && onC xs fun x r=>chkE sc a x && onC r fun y r=>if r.isEmpty then chkE sc b y else chkE sc b (.BoolOp op (y :: r) pos)
  | .bin op a b,e=>onBinOp e fun l o r _=>o == op && (chkE sc a l && chkE sc b r)
  | .cmp op a b,e=>onCompare e fun l os rs _=>on1 os fun o=>o == op && on1 rs fun r=>!behindInMarks op r && (chkE sc a l && chkE sc b r)
  | .ite c a b,e=>onIfExp e fun t x y _=>chkE sc c t && (chkE sc a x && chkE sc b y)
  | .list es,e=>onList e fun xs _=>decide (plen es ≤ 1000) && chkEs sc es xs
  | .comp elt x i,e=>onListComp e fun el gens scope _=>on1 gens fun c=>onComp c fun target iter ifs az=>az == 0 && (ifs.isEmpty && (!isSetE iter && (scopeOk nm sc scope x && (chkI sc i iter && ((onName target fun n _=>nm[x]? == some n && lcl scope n) && chkE scope elt el)))))
  | .call f es,e=>onCall e fun fe as ks _=>ks.isEmpty && onName fe fun n _=>fn[f]? == some n && (globOk sc n && (decide (plen es ≠ 0) && chkEs sc es as))
  | .bi b es,e=>onCall e fun fe as ks _=>ks.isEmpty && onName fe fun n _=>n == biName b && (globOk sc (biName b) && (decide (plen es ≠ 0) && chkEs sc es as))
  | .me m o es,e=>onCall e fun fe as ks pos=>ks.isEmpty && onAttribute fe fun x name apos=>name == meName m && (isBase x && (apos.endLine == pos.line && (decide (plen es ≠ 0) && (decide (plen es ≤ 5) && (chkE sc o x && chkEs sc es as)))))
  | .idx a i,e=>onSubscript e fun v s _=>!isSlice s && (chkE sc a v && chkE sc i s)
  | .slc a lo hi,e=>onSubscript e fun v s _=>onSlice s fun l u st _=>st.isNone && (chkE sc a v && (chkO sc lo l && chkO sc hi u))
  | .rev a,e=>onSubscript e fun v s _=>onSlice s fun l u st _=>l.isNone && (u.isNone && onS st fun m=>onUnaryOp m fun o c _=>o == .USub && onConstant c fun c _ _=>c == .int 1 && chkE sc a v)
noncomputable def chkEs (sc:Scope):PEs→List Expr→Bool
  | .nil,es=>es.isEmpty
  | .cons p ps,es=>onC es fun e r=>!isStarred e && (chkE sc p e && chkEs sc ps r)
noncomputable def chkO (sc:Scope):PO→Option Expr→Bool
  | .no,o=>o.isNone
  | .yes p,o=>onS o fun e=>chkE sc p e
noncomputable def chkI (sc:Scope):PI→Expr→Bool
  | .of p,e=>chkE sc p e
  | .range1 a,e=>onCall e fun fe as ks _=>ks.isEmpty && onName fe fun n _=>n == ("range" : Str) && on1 as fun x=>!isStarred x && (globOk sc "range" && chkE sc a x)
  | .range2 a b,e=>onCall e fun fe as ks _=>ks.isEmpty && onName fe fun n _=>n == ("range" : Str) && onC as fun x r=>on1 r fun y=>!isStarred x && (!isStarred y && (globOk sc "range" && (chkE sc a x && chkE sc b y)))
end
end
noncomputable def biTab:List (Str × Value) :=
  [("len",.builtin "len"),("max",.builtin "max"),("min",.builtin "min"),("chr",.builtin "chr"),("list",.type "list"),("range",.type "range")]
noncomputable def BiOk (Z:Zone):Prop:=∀ n v,(n,v) ∈ biTab→Z.mg n = none ∧ Z.mb n = some v
noncomputable def CallOk (Z:Zone) (lvl:Nat) (fn:List Str) (cl:Nat→List PyData→Option PyData):Prop :=
  ∀ f n args d,fn[f]? = some n→cl f args = some d→∃ a o fd,Z.mg n = some (.ref a) ∧ Z.h₀.get? a = some o ∧ o.cls ≠ .none ∧ o.data = .func fd ∧
    ∀ (A:Around) (s:Shared) (vs:List Value) (as:List Addr) (Q:Value→Shared→Prop) (E:Value→Shared→Prop),AOk Z lvl A→Inv Z s→Z.n ≤ s.heap.objs.size→RdAll s.heap vs args as→okDs args = true →
      (∀ v bs s',Inv Z s'→Kp Z.n s.heap s'.heap→Rd s'.heap v d bs→okD d = true→(∀ a ∈ bs,a ∈ as ∨ ∀ o,s.heap.get? a = some o→o.cls = .none)→Q v s')→wpAny (model Z.prog Z.w) A (call (.ref a) vs) Q E s
section
variable {M:Model} {A:Around} {E:Value→Shared→Prop} {s:Shared} {env:Env}
theorem Acc.load {n:Str} {v:Value} {Q:Value→Shared→Prop} (hk:env.scope.kind = .function) (a:Acc env s.heap n v) (hcd:n ≠ ("__classdict__" : Str)) (h:Q v s):wpAny M A (loadName env n) Q E s:=by
  rcases a with ⟨hl,m,hn,hv⟩ | ⟨hl,c,hc,hv⟩
  · exact wpAny_loadName_local hk hl hn hv h
  · rcases hl with hl | hl
    · exact wpAny_loadName_cell hk hl hc hv h
    · exact wpAny_loadName_free hk hl hc hv h (beq_eq_false_iff_ne.mpr hcd)
theorem callWith_nonref {pos:Pos} {f:Value} {first:List Value} {args:List (Bool × Sem Value)} {Q:Value→Shared→Prop} (hf:∀ a,f ≠ .ref a) (hplain:args.any (·.1) = false)
    (h:wpAny M A (evalArgs f true args []) (fun a s₁=>wpAny M A (call f (first ++ a.pos) a.kw) Q E s₁) E s) :
    wpAny M A (callWith pos f first args []) Q E s:=by
  have hkeep:keeperOf f = pure .machine:=by
    cases f with
    | ref a=>exact absurd rfl (hf a)
    | _=>rfl
  unfold callWith
  rw [hplain,hkeep]
  exact wpAny_bind (wpAny_holding (wpAny_mono h (fun a s₁ h₁=>wpAny_bind (wpAny_standAt (wpAny_bind (wpAny_pure (wpAny_bind (wpAny_mono h₁ (fun r s₂ hr=>wpAny_bind (wpAny_holding (wpAny_point (wpAny_pure hr)))) fun _ _ x=>x)))))) fun _ _ x=>x))
end
theorem Got.mono {Z:Zone} {s s':Shared} {O:List (Option Nat × Addr)} {es es':List Nat} {d:PyData} {Q:Value→Shared→Prop} (g:Got Z s O es d Q) (k:Kp Z.n s.heap s'.heap) (h:∀ y,y ∈ es'→y ∈ es):Got Z s' O es' d Q :=
  fun v as s'' i k' r hd ho=>g v as s'' i (k.trans k') r hd fun yb hy hm=>let ⟨y,h1,h2⟩:=ho yb hy hm; ⟨y,h y h1,h2⟩
theorem Got.kp {Z:Zone} {s s':Shared} {O:List (Option Nat × Addr)} {es:List Nat} {d:PyData} {Q:Value→Shared→Prop} (g:Got Z s O es d Q) (k:Kp Z.n s.heap s'.heap):Got Z s' O es d Q :=
  fun v as s'' i k' r hd ho=>g v as s'' i (k.trans k') r hd ho
theorem InO.l {o:Option Nat} {es es':List Nat} (h:InO o es):InO o (es ++ es'):=let ⟨y,h1,h2⟩:=h; ⟨y,List.mem_append_left _ h1,h2⟩
theorem InO.r {o:Option Nat} {es es':List Nat} (h:InO o es'):InO o (es ++ es'):=let ⟨y,h1,h2⟩:=h; ⟨y,List.mem_append_right _ h1,h2⟩
end Kt
end
section
open PySem PySem.W PyProof.Rows
namespace Kt
section
variable {Z:Zone} {cl:Nat→List PyData→Option PyData} {lvl:Nat} {nm:List Str} {fn:List Str} {sc:Scope}
theorem vis_of {env:Env} {n:Str} (hs:ScOk sc env) (h:visK (sc.names.lookup n) = true):vis env n:=by
  have g:=hs.2.1 n
  have g1:=hs.1 n
  generalize sc.names.lookup n = k at h g g1
  cases k with
  | none=>cases h
  | some k =>
    cases k with
    | «local»=>exact .inl (g1 rfl)
    | cell=>exact .inr (g (.inl rfl))
    | free=>exact .inr (g (.inr rfl))
    | _=>cases h
theorem st_of_se {e:Expr} {p:PE} (h:SE Z cl lvl nm sc e p) (hw:∀ env,isTrue e env (eval e env) = (do let v ← eval e env; standAt e.pos; holding [v] (truthy v))):ST Z cl lvl nm sc e p:=fun {A env ρ O s d b Q E} X hd hb hQ=>by
  rw [hw]
  exact wpAny_bind (h X hd fun v as s' I' k r hok _=>wpAny_bind (wpAny_standAt (wpAny_holding (sound_truthy I' r hok hb fun s'' I'' k''=>hQ s'' I'' (k.trans k'')))))
theorem se_lit {d:PyData} {c:Const} {k:Nat} {pos:Pos} (h:litC d = some c):SE Z cl lvl nm sc (.Constant c k pos) (.lit d):=fun {A env ρ O s d' Q E} X hd g=>by
  cases hd
  rw [arm_eval_Constant]
  cases d with
  | none=>cases h; exact wpAny_pure (got_none X.hi g)
  | bool a=>cases h; exact wpAny_pure (got_bool X.hi g)
  | int a=>cases h; exact wpAny_mkInt (got_int X.hi g _ _)
  | str a=>exact ifK h fun h2 e=>by subst e; exact wpAny_mkText (got_str X.hi g h2 _ _)
  | _=>cases h
theorem se_var {x:Nat} {n:Str} {pos:Pos} (hn:nm[x]? = some n) (hv:visK (sc.names.lookup n) = true) (hd:n ≠ ("__debug__" : Str)) (hc:n ≠ ("__classdict__" : Str)):SE Z cl lvl nm sc (.Name n pos) (.var x):=fun {A env ρ O s d Q E} X he g=>by
  obtain ⟨v,as,a,r,hok,ho⟩:=X.he.vars x d n he hn (vis_of X.hs hv)
  exact wpAny_Name (a.load X.he.kind hc (g v as s X.hi (Kp.refl _ _) r hok fun yb hy hm=>⟨x,List.mem_singleton.mpr rfl,(ho yb hy hm).1⟩)) (beq_eq_false_iff_ne.mpr hd)
theorem se_neg {a:PE} {e:Expr} {pos:Pos} (h:SE Z cl lvl nm sc e a):SE Z cl lvl nm sc (.UnaryOp .USub e pos) (.neg a):=fun {A env ρ O s d Q E} X hd g=>bndK hd fun x hx hd=>by
  rw [arm_eval_UnaryOp]
  refine wpAny_bind (h X hx fun v as s' I' k r hok ho=>rdInt (m:=fun v=>wpAny _ A (do standAt pos; holding [v] (unaryOp .USub v)) Q E s') r hd fun i t e=>?_)
  cases e
  exact wpAny_bind (wpAny_standAt (wpAny_holding (P.neg_int (got_int I' (g.kp k) _ _))))
theorem se_nt {a:PE} {e:Expr} {pos:Pos} (h:SE Z cl lvl nm sc e a):SE Z cl lvl nm sc (.UnaryOp .Not e pos) (.nt a):=fun {A env ρ O s d Q E} X hd g=>bndK hd fun x hx hd=>mapK hd fun b hb e=>by
  subst e
  rw [arm_eval_UnaryOp]
  refine wpAny_bind (h X hx fun v as s' I' k r hok ho=>wpAny_bind (wpAny_standAt (wpAny_holding ?_)))
  exact wpAny_holding (wpAny_bind (sound_truthy I' r hok hb fun s'' I'' k''=>wpAny_pure (got_bool I'' (g.kp (k.trans k'')))))
theorem st_nt {a:PE} {e:Expr} {pos:Pos} (h:ST Z cl lvl nm sc e a):ST Z cl lvl nm sc (.UnaryOp .Not e pos) (.nt a):=fun {A env ρ O s d b Q E} X hd hb hQ=>bndK hd fun x hx hd=>mapK hd fun t ht e=>by
  subst e
  cases hb
  exact wpAny_isTrue_Not (h X hx ht hQ)
theorem se_bin {op:Operator} {a b:PE} {l r:Expr} {pos:Pos} (ha:SE Z cl lvl nm sc l a) (hb:SE Z cl lvl nm sc r b):SE Z cl lvl nm sc (.BinOp l op r pos) (.bin op a b):=fun {A env ρ O s d Q E} X hd g=>bndK hd fun x hx hd=>bndK hd fun y hy hd =>
  wpAny_BinOp (ha X hx fun va as s₁ I₁ k₁ r₁ ok₁ o₁=>hb (X.kp k₁ I₁) hy fun vb bs s₂ I₂ k₂ r₂ ok₂ o₂ =>
    sound_bin I₂ (k₂.rd r₁) r₂ ok₁ ok₂ hd (g.kp (k₁.trans k₂)) (fun yb hy hm=>(o₁ yb hy hm).l) (fun yb hy hm=>(o₂ yb hy hm).r) (X.he.kp (k₁.trans k₂)).lt)
theorem se_cmp {op:CmpOp} {a b:PE} {l r:Expr} {pos:Pos} (hm:behindInMarks op r = false) (ha:SE Z cl lvl nm sc l a) (hb:SE Z cl lvl nm sc r b):SE Z cl lvl nm sc (.Compare l [op] [r] pos) (.cmp op a b):=fun {A env ρ O s d Q E} X hd g=>bndK hd fun x hx hd=>bndK hd fun y hy hd =>
  wpAny_Compare1 (ha X hx fun va as s₁ I₁ k₁ r₁ ok₁ o₁=>hb (X.kp k₁ I₁) hy fun vb bs s₂ I₂ k₂ r₂ ok₂ o₂=>sound_cmp X.ha I₂ (k₂.rd r₁) r₂ ok₁ ok₂ hd (g.kp (k₁.trans k₂))) hm
theorem st_cmp {op:CmpOp} {a b:PE} {l r:Expr} {pos:Pos} (hm:behindInMarks op r = false) (ha:SE Z cl lvl nm sc l a) (hb:SE Z cl lvl nm sc r b):ST Z cl lvl nm sc (.Compare l [op] [r] pos) (.cmp op a b):=fun {A env ρ O s d t Q E} X hd ht hQ=>bndK hd fun x hx hd=>bndK hd fun y hy hd =>
  wpAny_isTrue_Compare1 (ha X hx fun va as s₁ I₁ k₁ r₁ ok₁ o₁=>hb (X.kp k₁ I₁) hy fun vb bs s₂ I₂ k₂ r₂ ok₂ o₂=>sound_cmp (O:=[]) (es:=[]) X.ha I₂ (k₂.rd r₁) r₂ ok₁ ok₂ hd fun v cs s₃ I₃ k₃ r₃ ok₃ _ =>
    sound_truthy I₃ r₃ ok₃ ht fun s₄ I₄ k₄=>hQ s₄ I₄ ((k₁.trans k₂).trans (k₃.trans k₄))) hm
theorem se_ite {c a b:PE} {t x y:Expr} {pos:Pos} (hc:ST Z cl lvl nm sc t c) (ha:SE Z cl lvl nm sc x a) (hb:SE Z cl lvl nm sc y b):SE Z cl lvl nm sc (.IfExp t x y pos) (.ite c a b):=fun {A env ρ O s d Q E} X hd g=>bndK hd fun q hx hd=>bndK hd fun t ht hd=>by
  rw [arm_eval_IfExp]
  refine wpAny_bind (hc X hx ht fun s₁ I₁ k₁=>?_)
  cases t with
  | true=>exact ha (X.kp k₁ I₁) hd (g.mono k₁ fun _=>List.mem_append_left _)
  | false=>exact hb (X.kp k₁ I₁) hd (g.mono k₁ fun _=>List.mem_append_right _)
theorem st_ite {c a b:PE} {t x y:Expr} {pos:Pos} (hc:ST Z cl lvl nm sc t c) (ha:ST Z cl lvl nm sc x a) (hb:ST Z cl lvl nm sc y b):ST Z cl lvl nm sc (.IfExp t x y pos) (.ite c a b):=fun {A env ρ O s d r Q E} X hd hr hQ=>bndK hd fun q hx hd=>bndK hd fun t ht hd=>by
  rw [arm_isTrue_IfExp]
  refine wpAny_bind (hc X hx ht fun s₁ I₁ k₁=>?_)
  cases t with
  | true=>exact ha (X.kp k₁ I₁) hd hr fun s₂ I₂ k₂=>hQ s₂ I₂ (k₁.trans k₂)
  | false=>exact hb (X.kp k₁ I₁) hd hr fun s₂ I₂ k₂=>hQ s₂ I₂ (k₁.trans k₂)
theorem evE_bool {q:Bool} {a b:PE} {ρ:PEnv} {d:PyData} {G:Prop} (hd:evE cl (.bool q a b) ρ = some d) (k:∀ x t,evE cl a ρ = some x→truthD x = some t→(t = q ∧ evE cl b ρ = some d) ∨ (t = (!q) ∧ x = d)→G):G :=
  bndK hd fun x hx hd=>bndK hd fun t ht hd=>k x t hx ht <| by
    by_cases h:(t == q) = true
    · rw [if_pos h] at hd; exact .inl ⟨eq_of_beq h,hd⟩
    · rw [if_neg h] at hd; exact .inr ⟨by cases t <;> cases q <;> first | rfl | exact absurd rfl h,Option.some.inj hd⟩
theorem se_bool {q:Bool} {a b:PE} {x:Expr} {rest:List Expr} {pos:Pos} (hr:∀ env,∃ y r,evalEach rest env = y :: r) (ha:SE Z cl lvl nm sc x a)
    (hb:∀ {A:Around} {env:Env} {ρ:PEnv} {O:List (Option Nat × Addr)} {s:Shared} {d:PyData} {Q:Value→Shared→Prop} {E:Value→Shared→Prop},
      Cx Z lvl nm sc A env ρ O s→evE cl b ρ = some d→Got Z s O (esc b) d Q→wpAny (model Z.prog Z.w) A (boolOp pos (opOf q) (evalEach rest env)) Q E s) :
    SE Z cl lvl nm sc (.BoolOp (opOf q) (x :: rest) pos) (.bool q a b):=fun {A env ρ O s d Q E} X hd g=>evE_bool hd fun y t hx ht hc=>by
  rw [arm_eval_BoolOp,arm_evalEach_cons]
  have hb':=fun {s₂} (k:Kp Z.n s.heap s₂.heap) (I:Inv Z s₂) h=>hb (Q:=Q) (E:=E) (X.kp k I) h (g.mono k fun _=>List.mem_append_right _)
  obtain ⟨y',r',e⟩:=hr env
  rw [e] at hb' ⊢
  refine wpAny_bind (ha X hx fun v as s₁ I₁ k₁ r₁ ok₁ o₁=>wpAny_bind (wpAny_standAt (wpAny_bind (wpAny_holding (sound_truthy I₁ r₁ ok₁ ht fun s₂ I₂ k₂=>?_)))))
  rcases hc with ⟨rfl,hc⟩ | ⟨rfl,rfl⟩
  · have:=hb' (k₁.trans k₂) I₂ hc
    cases t <;> exact this
  · have:Q v s₂:=g v as s₂ I₂ (k₁.trans k₂) (k₂.rd r₁) ok₁ fun yb hy hm=>(o₁ yb hy hm).l
    cases q <;> exact wpAny_pure this
theorem st_bool {q:Bool} {a b:PE} {x:Expr} {rest:List Expr} {pos:Pos} (ha:ST Z cl lvl nm sc x a)
    (hb:∀ {A:Around} {env:Env} {ρ:PEnv} {O:List (Option Nat × Addr)} {s:Shared} {d:PyData} {t:Bool} {Q:Bool→Shared→Prop} {E:Value→Shared→Prop},
      Cx Z lvl nm sc A env ρ O s→evE cl b ρ = some d→truthD d = some t→(∀ s',Inv Z s'→Kp Z.n s.heap s'.heap→Q t s')→wpAny (model Z.prog Z.w) A (allTrue (opOf q) rest env) Q E s) :
    ST Z cl lvl nm sc (.BoolOp (opOf q) (x :: rest) pos) (.bool q a b):=fun {A env ρ O s d r Q E} X hd hr hQ=>evE_bool hd fun y t hx ht hc=>by
  rw [arm_isTrue_BoolOp,arm_allTrue_cons]
  refine wpAny_bind (ha X hx ht fun s₁ I₁ k₁=>?_)
  rcases hc with ⟨rfl,hc⟩ | ⟨rfl,rfl⟩
  · have:=hb (E:=E) (X.kp k₁ I₁) hc hr fun s₂ I₂ k₂=>hQ s₂ I₂ (k₁.trans k₂)
    cases t <;> exact this
  · cases ht.symm.trans hr
    have:=hQ s₁ I₁ k₁
    cases q <;> exact wpAny_pure this
end
end Kt
end
section
open PySem PySem.W PyProof.Rows
namespace Kt
theorem evEs_length {cl:Nat→List PyData→Option PyData} {ρ:PEnv}:∀ {ps:PEs} {ds:List PyData},evEs cl ps ρ = some ds→ds.length = plen ps
  | .nil,ds,h=>by cases h; rfl
  | .cons p ps,ds,h=>bndK (o:=evE cl p ρ) h fun x hx h=>mapK h fun l hl e=>by subst e; exact congrArg Nat.succ (evEs_length hl)
section
variable {Z:Zone} {cl:Nat→List PyData→Option PyData} {lvl:Nat} {nm:List Str} {fn:List Str} {sc:Scope}
noncomputable def SEs (Z:Zone) (cl:Nat→List PyData→Option PyData) (lvl:Nat) (nm:List Str) (sc:Scope) (es:List Expr) (ps:PEs):Prop :=
  ∀ {A:Around} {env:Env} {ρ:PEnv} {O:List (Option Nat × Addr)} {s:Shared} {ds:List PyData} {R:List Value→Shared→Prop} {E:Value→Shared→Prop} {pos:Pos},
    Cx Z lvl nm sc A env ρ O s→evEs cl ps ρ = some ds →
    (∀ vs as s',Inv Z s'→Kp Z.n s.heap s'.heap→RdAll s'.heap vs ds as→okDs ds = true→(∀ yb ∈ O,yb.2 ∈ as→InO yb.1 (escs ps))→R vs s') →
    wpAny (model Z.prog Z.w) A (spliced (backTo pos (starEach es env))) R E s
theorem ses_nil:SEs Z cl lvl nm sc [] .nil:=fun {A env ρ O s ds R E pos} X hd hR=>by
  cases hd
  exact Calls.spliced_nil (hR [] [] s X.hi (Kp.refl _ _) .nil rfl fun _ _ h=>nomatch h)
theorem ses_cons {e:Expr} {es:List Expr} {p:PE} {ps:PEs} (hstar:∀ env,starEach (e :: es) env = (false,eval e env) :: starEach es env) (h1:SE Z cl lvl nm sc e p) (h2:SEs Z cl lvl nm sc es ps):SEs Z cl lvl nm sc (e :: es) (.cons p ps):=fun {A env ρ O s ds R E pos} X hd hR=>bndK hd fun x hx hd=>mapK hd fun l hl e=>by
  subst e
  rw [hstar]
  exact Calls.spliced_cons (h1 X hx fun v as s₁ I₁ k₁ r₁ ok₁ o₁=>h2 (X.kp k₁ I₁) hl fun vs bs s₂ I₂ k₂ r₂ ok₂ o₂ =>
    hR (v :: vs) (as ++ bs) s₂ I₂ (k₁.trans k₂) (.cons (k₂.rd r₁) r₂) (by rw [okDs,ok₁,ok₂]; rfl) fun yb hy hm=>(List.mem_append.mp hm).elim (fun hm=>(o₁ yb hy hm).l) fun hm=>(o₂ yb hy hm).r)
theorem se_list {es:List Expr} {ps:PEs} {pos:Pos} (hlen:plen ps ≤ 1000) (h:SEs Z cl lvl nm sc es ps):SE Z cl lvl nm sc (.List es pos) (.list ps):=fun {A env ρ O s d Q E} X hd g=>mapK hd fun ds hds e=>by
  subst e
  rw [arm_eval_List]
  exact wpAny_bind (wpAny_standAt (wpAny_bind (h X hds fun vs as s₁ I₁ k₁ r₁ ok₁ o₁=>by
    have hl:ds.length ≤ sizeLine:=Nat.le_trans (evEs_length hds ▸ hlen) (by decide)
    exact wpAny_newList (got_list I₁ (g.kp k₁) r₁ (okL' hl ok₁) o₁ (X.he.kp k₁).lt _ _) (rdAll_length r₁ ▸ hl))))
theorem globOkK {n:Str} (hg:globOk sc n = true):sc.names.lookup n = some .globalImplicit ∧ (n == ("__debug__" : Str)) = false:=⟨eq_of_beq (andT hg).1,notT (andT hg).2⟩
theorem globName {n:Str} {pos:Pos} {env:Env} {v:Value} {A:Around} {s:Shared} {Q:Value→Shared→Prop} {E:Value→Shared→Prop} {ρ:PEnv} {O:List (Option Nat × Addr)} (X:Cx Z lvl nm sc A env ρ O s)
    (hg:globOk sc n = true) (hv:Z.mg n = some v) (h:Q v s):wpAny (model Z.prog Z.w) A (eval (.Name n pos) env) Q E s :=
  Calls.Name_function_global X.he.kind (X.hs.2.2 n (globOkK hg).1) (Calls.loadGlobal_global (mg:=Z.mg) (X.he.glob ▸ X.hi.glob) hv h) (globOkK hg).2
theorem bltName {n:Str} {pos:Pos} {env:Env} {v:Value} {A:Around} {s:Shared} {Q:Value→Shared→Prop} {E:Value→Shared→Prop} {ρ:PEnv} {O:List (Option Nat × Addr)} (hB:BiOk Z) (X:Cx Z lvl nm sc A env ρ O s)
    (hg:globOk sc n = true) (hv:(n,v) ∈ biTab) (h:Q v s):wpAny (model Z.prog Z.w) A (eval (.Name n pos) env) Q E s :=
  Calls.Name_function_global X.he.kind (X.hs.2.2 n (globOkK hg).1) (Calls.loadGlobal_builtin (mg:=Z.mg) (mb:=Z.mb) (X.he.glob ▸ X.hi.glob) (hB n v hv).1 (X.he.blt ▸ X.hi.bltn) (hB n v hv).2 h) (globOkK hg).2
theorem evalArgs_of {f:Value} {es:List Expr} {pos:Pos} {env:Env} {A:Around} {s:Shared} {Q:Args→Shared→Prop} {E:Value→Shared→Prop} (hne:∃ x r,backTo pos (starEach es env) = (false,x) :: r)
    (h:wpAny (model Z.prog Z.w) A (spliced (backTo pos (starEach es env))) (fun vs s'=>Q ⟨vs,[]⟩ s') E s):wpAny (model Z.prog Z.w) A (evalArgs f true (backTo pos (starEach es env)) []) Q E s:=by
  obtain ⟨x,r,e⟩:=hne
  rw [e] at h ⊢
  exact Calls.evalArgs_plain h
noncomputable def PlainArgs (es:List Expr):Prop:=(∀ env pos,(backTo pos (starEach es env)).any (·.1) = false) ∧ (es ≠ []→∀ env pos,∃ x r,backTo pos (starEach es env) = (false,x) :: r) ∧ ∀ env pos,(backTo pos (starEach es env)).length = es.length
theorem eval_Call_Name (n:Str) (p pos:Pos) (args:List Expr) (env:Env):eval (.Call (.Name n p) args [] pos) env = (do callWith pos (← eval (.Name n p) env) [] (backTo pos (starEach args env)) (backToKw pos (keywordEach [] env))):=rfl
theorem se_call {f:Nat} {n:Str} {p pos:Pos} {es:List Expr} {ps:PEs} (hC:CallOk Z lvl fn cl) (hn:fn[f]? = some n) (hg:globOk sc n = true) (hne:es ≠ []) (hpl:PlainArgs es) (h:SEs Z cl lvl nm sc es ps) :
    SE Z cl lvl nm sc (.Call (.Name n p) es [] pos) (.call f ps):=fun {A env ρ O s d Q E} X hd g=>bndK hd fun ds hx hd=>by
  obtain ⟨a,o,fd,hv,ho,hoc,hof,hcall⟩:=hC f n ds d hn hd
  rw [eval_Call_Name]
  exact wpAny_bind (globName X hg hv (Calls.callWith_function (o:=o) (fd:=fd) (evalArgs_of (hpl.2.1 hne env pos) (h X hx fun vs as s₁ I₁ k₁ r₁ ok₁ o₁ =>
    ⟨⟨I₁.old.get_of_cls ho hoc,hof⟩,hcall A s₁ vs as Q E X.ha I₁ (X.he.kp k₁).size r₁ ok₁ fun v bs s₂ I₂ k₂ r₂ ok₂ o₂=>g v bs s₂ I₂ (k₁.trans k₂) r₂ ok₂ fun yb hy hm=>(o₂ _ hm).elim (o₁ yb hy) fun hm=>by
      obtain ⟨oo,e,c⟩:=(X.he.kp k₁).live yb hy
      exact absurd (hm _ e) c⟩))))
theorem biTab_mem (b:Bi):(biName b,biV b) ∈ biTab:=by cases b <;> decide
theorem biV_nonref (b:Bi) (a:Addr):biV b ≠ .ref a:=by cases b <;> nofun
theorem se_bi {b:Bi} {p pos:Pos} {es:List Expr} {ps:PEs} (hB:BiOk Z) (hg:globOk sc (biName b) = true) (hne:es ≠ []) (hpl:PlainArgs es) (h:SEs Z cl lvl nm sc es ps) :
    SE Z cl lvl nm sc (.Call (.Name (biName b) p) es [] pos) (.bi b ps):=fun {A env ρ O s d Q E} X hd g=>bndK hd fun ds hx hd=>by
  rw [eval_Call_Name]
  exact wpAny_bind (bltName hB X hg (biTab_mem b) (callWith_nonref (biV_nonref b) (hpl.1 env pos) (evalArgs_of (hpl.2.1 hne env pos) (h X hx fun vs as s₁ I₁ k₁ r₁ ok₁ o₁=>sound_bi X.ha I₁ r₁ ok₁ hd (g.kp k₁) o₁ (X.he.kp k₁).lt))))
theorem AOk.u {A:Around} (hA:AOk Z lvl A) {q:Nat} (h:q ≤ 64):A.units + 1 + q < cLine:=by have:=hA.units; omega
theorem items_eqAt' {A:Around} {s:Shared} {vs:Array Value} {xs:List PyData} {as bs:List Addr} {x:Value} {d:PyData} (rs:RdAll s.heap vs.toList xs as) (rx:Rd s.heap x d bs) (hxs:okDs xs = true) (hd:okD d = true)
    (hu:A.units + 1 + min (PyData.depthAll xs) d.depth < cLine):∃ e:Value→Bool,(∀ y,y ∈ vs→SeqAt.EqAt A.in1 s y x (e y)) ∧ vs.toList.map e = xs.map fun y=>PyData.eqv y d:=by
  obtain ⟨as',rs'⟩:=rs.reads
  obtain ⟨bs',rx'⟩:=rx.reads
  refine ⟨fun y=>PyData.eqv (SeqAt.readOf s.heap y) d,SeqAt.items_eqAt rs' rx' (canLayAll0_of_ok hxs) (canLay0_of_ok hd) hu,?_⟩
  rw [← SeqAt.readsAll_map xs vs.toList as' (canLayAll0_of_ok hxs) rs',List.map_map]
  rfl
theorem strValues_of {h:Heap}:∀ {l:List Str} {vs:List Value} {as:List Addr},RdAll h vs (l.map .str) as→∃ ps:List (Str × Tok),vs = strValues ps ∧ ps.map (·.1) = l
  | [],vs,as,r=>by cases r; exact ⟨[],rfl,rfl⟩
  | n :: ns,vs,as,r=>by
    cases r with
    | cons h1 h2 =>
      obtain ⟨xs,rfl,e⟩:=strValues_of h2
      obtain ⟨t,rfl⟩:=rd_str h1
      exact ⟨(n,t) :: xs,rfl,congrArg (n :: ·) e⟩
theorem strOk_append {x y:Str} (hx:PyData.strOk x = true) (hy:PyData.strOk y = true):PyData.strOk (x ++ y) = true:=by
  unfold PyData.strOk
  rw [Str.cps_append,Array.all_append]
  exact Bool.and_eq_true_iff.mpr ⟨hx,hy⟩
theorem strOk_join {sep:Str} (hs:PyData.strOk sep = true):∀ l:List Str,(∀ x ∈ l,PyData.strOk x = true)→PyData.strOk (Str.join sep l) = true
  | [],_=>by kernel_rfl
  | [x],h=>h x List.mem_cons_self
  | x :: y :: r,h=>strOk_append (strOk_append (h x List.mem_cons_self) hs) (strOk_join hs (y :: r) fun z hz=>h z (List.mem_cons_of_mem _ hz))
noncomputable def meId:Me→String
  | .join => "str.join"
  | .index => "list.index"
noncomputable def meT:Me→String
  | .join => "str"
  | .index => "list"
section
variable {A:Around} {E:Value→Shared→Prop} {s:Shared} {O:List (Option Nat × Addr)} {es:List Nat} {Q:Value→Shared→Prop}
theorem sound_join {sep:Str} {xs:List PyData} {d:PyData} {t:Tok} {v:Value} {as:List Addr} (I:Inv Z s) (r:Rd s.heap v (.list xs) as) (hsep:okD (.str sep) = true) (hd:okD (.list xs) = true) (h:joinD sep xs = some d) (g:Got Z s O es d Q) :
    wpAny (model Z.prog Z.w) A (call (.builtin "str.join") [.str sep t,v]) Q E s:=bndK h fun l hs h=>ifP h fun hfold e=>by
  cases e
  cases strsD_map hs
  obtain ⟨a,items,as',rfl,hl,ra,-⟩:=rd_list_inv r
  obtain ⟨ps,e1,e2⟩:=strValues_of ra
  rw [show items = (strValues ps).toArray by rw [← e1]] at hl
  have hjo:JoinOk sep l = true:=by
    unfold JoinOk Builtin.Str.tooLong
    rw [← Array.foldl_toList,Bool.not_eq_true',decide_eq_false_iff_not]
    exact Nat.not_lt.mpr (Nat.le_trans hfold (by decide))
  have hlen:(Txt.join sep l).length ≤ sizeLine:=joinFit_length (notT hjo)
  have hj:Txt.join sep l = Str.join sep l:=StrLaws.glued_eq_join sep l
  refine SC.join hl e2 hjo fun t' k=>?_
  rw [hj] at hlen ⊢
  exact got_str I g (okS' (strOk_join (okS hsep).1 l fun x hx=>(okS (okDs_mem.mp (okL hd).2 (.str x) (List.mem_map_of_mem hx))).1) hlen) _ _
theorem sound_index {xs:List PyData} {x d:PyData} {o v:Value} {os as:List Addr} (hA:AOk Z lvl A) (I:Inv Z s) (ro:Rd s.heap o (.list xs) os) (rv:Rd s.heap v x as) (hod:okD (.list xs) = true) (hdx:okD x = true) (h:indexD xs x = some d) (g:Got Z s O es d Q) :
    wpAny (model Z.prog Z.w) A (call (.builtin "list.index") [o,v]) Q E s:=ifP h fun heq h=>ifP h fun hk e=>by
  cases e
  obtain ⟨a,items,n,sl,as'',rfl,ho,ra,-⟩:=rd_list_obj ro
  have hk1:=of_decide_eq_true (andT hk).1
  have hk2:=of_decide_eq_true (andT hk).2
  have hlen:items.size = xs.length:=(Array.length_toList).symm.trans (rdAll_length ra)
  have hm:min x.depth (PyData.depthAll xs + 1) ≤ 64:=of_decide_eq_true heq
  obtain ⟨e,he1,he2⟩:=items_eqAt' (A:=A) ra rv (okL hod).2 hdx (hA.u (Nat.le_trans (Nat.le_min.mpr ⟨Nat.min_le_right _ _,Nat.le_succ_of_le (Nat.min_le_left _ _)⟩) hm))
  have hget:∀ m (hm:m < items.size),e items[m] = PyData.eqv (xs[m]'(hlen ▸ hm)) x:=fun m hm=>by
    have:=congrArg (·[m]?) he2
    simpa [hm,hlen ▸ hm] using this
  exact call_meets F.slot_list_index ⟨_,ho,rfl⟩ F.entry_list_index (F.args_list_index_2 _ _) (SeqAt.list_indexAt a items n none sl v e (xs.findIdx fun y=>PyData.eqv y x) (hlen ▸ hk1) (by omega) ((hget _ _).trans (List.findIdx_getElem (p:=fun y=>PyData.eqv y x) (w:=hk1)))
    fun m hm hlt=>(hget _ _).trans (List.not_of_lt_findIdx hlt)) ⟨ho,he1,got_int I g _ _⟩
end
end
end Kt
end
section
open PySem PySem.W PyProof.Rows
namespace Kt
section
variable {Z:Zone} {cl:Nat→List PyData→Option PyData} {lvl:Nat} {nm:List Str} {fn:List Str} {sc:Scope}
theorem not_starred {e:Expr} (h:isStarred e = false) (es:List Expr) (env:Env):starEach (e :: es) env = (false,eval e env) :: starEach es env:=by
  cases e with
  | Starred=>cases h
  | _=>rfl
theorem plainArgs_cons {e:Expr} {es:List Expr} (h:isStarred e = false) (ih:PlainArgs es):PlainArgs (e :: es):=by
  have hs:=not_starred h es
  refine ⟨fun env pos=>?_,fun _ env pos=>?_,fun env pos=>?_⟩
  · rw [hs]; exact ih.1 env pos
  · rw [hs]; exact ⟨_,_,rfl⟩
  · rw [hs]; exact congrArg Nat.succ (ih.2.2 env pos)
theorem plainArgs_nil:PlainArgs []:=⟨fun _ _=>rfl,fun h=>absurd rfl h,fun _ _=>rfl⟩
theorem plain_one {e:Expr} (h:isStarred e = false):PlainArgs [e]:=plainArgs_cons h plainArgs_nil
theorem plain_two {e f:Expr} (h:isStarred e = false) (h':isStarred f = false):PlainArgs [e,f]:=plainArgs_cons h (plain_one h')
theorem chkEs_plain:∀ {ps:PEs} {es:List Expr},chkEs fn nm sc ps es = true→PlainArgs es ∧ es.length = plen ps
  | .nil,es,h=>nilK (m:=fun es=>PlainArgs es ∧ es.length = 0) h ⟨plainArgs_nil,rfl⟩
  | .cons p ps,es,h=>onCK (m:=fun es=>PlainArgs es ∧ es.length = plen ps + 1) h fun e r h=>let ⟨h1,h2⟩:=andT h; let ⟨i1,i2⟩:=chkEs_plain (andT h2).2; ⟨plainArgs_cons (notT h1) i1,congrArg Nat.succ i2⟩
theorem getitem_of {s:Shared} {a:Value} {x:PyData} {as:List Addr} (ra:Rd s.heap a x as) (h:(x.ctorIdx == 3 || x.ctorIdx == 4) = true) :
    ∃ T id,s.TypeIs a T ∧ typeLookup (.type T) "__getitem__" = pure (some (.builtin id)):=by
  cases x with
  | list xs=>obtain ⟨a,vs,bs,rfl,⟨o,h1,h2,_⟩,_⟩:=rd_list_inv ra; exact ⟨_,_,⟨_,h1,h2⟩,F.slot_list_getitem.lookup⟩
  | str x=>obtain ⟨t,rfl⟩:=rd_str ra; exact ⟨_,_,typeIs_str _ _ _,F.slot_str_getitem.lookup⟩
  | _=>cases h
theorem slc_kind {x d:PyData} {lo hi:Option Int} (h:slcD x lo hi = some d):(x.ctorIdx == 3 || x.ctorIdx == 4) = true:=by cases x <;> first | rfl | cases h
theorem idx_kind {x y d:PyData} (h:idxD x y = some d):(x.ctorIdx == 3 || x.ctorIdx == 4) = true:=dIntK h fun i _ h=>by cases x <;> first | rfl | cases h
theorem rev_kind {x d:PyData} (h:revD x = some d):(x.ctorIdx == 3 || x.ctorIdx == 4) = true:=by cases x <;> first | rfl | cases h
theorem tailG {O:List (Option Nat × Addr)} {es:List Nat} {as:List Addr} (h:∀ yb ∈ O,yb.2 ∈ as→InO yb.1 es):∀ yb ∈ O,yb.2 ∈ as.tail→InO yb.1 es:=fun yb hy hm=>h yb hy (List.mem_of_mem_tail hm)
theorem se_idx {a i:PE} {v sl:Expr} {pos:Pos} (hns:isSlice sl = false) (ha:SE Z cl lvl nm sc v a) (hi:SE Z cl lvl nm sc sl i):SE Z cl lvl nm sc (.Subscript v sl pos) (.idx a i):=fun {A env ρ O s d Q E} X hd g=>bndK hd fun x hx hd=>bndK hd fun y hy hd =>
  Subscript_ (ha X hx fun va as s₁ I₁ k₁ r₁ ok₁ o₁=>hi (X.kp k₁ I₁) hy fun vb bs s₂ I₂ k₂ r₂ ok₂ o₂=>by
    obtain ⟨T,id,hT,hl⟩:=getitem_of (k₂.rd r₁) (idx_kind hd)
    refine tail_any (ops:=[va,vb]) hT hl (sound_idx I₂ (k₂.rd r₁) r₂ ok₁ hd (g.kp (k₁.trans k₂)) (tailG o₁)) ?_
    cases sl with
    | Slice=>cases hns
    | _=>rfl)
noncomputable def SO (Z:Zone) (cl:Nat→List PyData→Option PyData) (lvl:Nat) (nm:List Str) (sc:Scope) (o:Option Expr) (p:PO):Prop :=
  ∀ {A:Around} {env:Env} {ρ:PEnv} {O:List (Option Nat × Addr)} {s:Shared} {d:Option Int} {Q:Value→Shared→Prop} {E:Value→Shared→Prop},
    Cx Z lvl nm sc A env ρ O s→evO cl p ρ = some d →
    (∀ q:Option (Int × Tok),q.map (·.1) = d→∀ s',Inv Z s'→Kp Z.n s.heap s'.heap→Q (partValue q) s')→wpAny (model Z.prog Z.w) A (evalPart o env) Q E s
theorem so_no:SO Z cl lvl nm sc none .no:=fun {A env ρ O s d Q E} X hd hQ=>by
  cases hd
  exact wpAny_pure (hQ none rfl s X.hi (Kp.refl _ _))
theorem partD_int {x:PyData} {i:Int} (h:partD x = some i):x = .int i:=by
  cases x with
  | int j=>exact congrArg _ (ifP h fun _ e=>Option.some.inj e)
  | _=>cases h
theorem so_yes {e:Expr} {p:PE} (h:SE Z cl lvl nm sc e p):SO Z cl lvl nm sc (some e) (.yes p):=fun {A env ρ O s d Q E} X hd hQ=>bndK hd fun x hx hd=>mapK hd fun i hi e=>by
  subst e
  rw [evalPart_some]
  exact h X hx fun v as s' I' k r hok ho=>rdI (m:=fun v=>Q v s') (partD_int hi ▸ r) fun t=>hQ (some (i,t)) rfl s' I' k
theorem se_slc {a:PE} {lo hi:PO} {v:Expr} {l u:Option Expr} {p pos:Pos} (ha:SE Z cl lvl nm sc v a) (hl:SO Z cl lvl nm sc l lo) (hu:SO Z cl lvl nm sc u hi):SE Z cl lvl nm sc (.Subscript v (.Slice l u none p) pos) (.slc a lo hi):=fun {A env ρ O s d Q E} X hd g =>
  bndK hd fun x hx hd=>bndK hd fun y hy hd=>bndK hd fun z hz hd =>
  Subscript_ (ha X hx fun va as s₁ I₁ k₁ r₁ ok₁ o₁=>wpAny_Slice (hl (X.kp k₁ I₁) hy fun q1 e1 s₂ I₂ k₂=>hu (X.kp (k₁.trans k₂) I₂) hz fun q2 e2 s₃ I₃ k₃=>wpAny_pure (by
    have k₄:=(k₂.trans k₃).trans (Kp.push Z.n s₃.heap { cls:=.type "slice",data:=.fields #[partValue q1,partValue q2,.none] })
    have ra:=k₄.rd r₁
    obtain ⟨T,id,hT,hl⟩:=getitem_of (s:={ s₃ with heap:=s₃.heap.push { cls:=.type "slice",data:=.fields #[partValue q1,partValue q2,.none] } }) ra (slc_kind hd)
    exact tail_any (ops:=[.ref s₃.heap.objs.size,va]) hT hl (sound_slc (lo:=q1) (hi:=q2) (I₃.push _ s₃.toks) ra ok₁ ⟨_,Heap.get?_push_size _ rfl,rfl,rfl⟩ (by rw [e1,e2]; exact hd) (g.kp (k₁.trans k₄)) (tailG o₁) (X.he.kp (k₁.trans k₄)).lt) rfl)))
theorem se_rev {a:PE} {v:Expr} {k1:Nat} {p1 p2 p pos:Pos} (ha:SE Z cl lvl nm sc v a):SE Z cl lvl nm sc (.Subscript v (.Slice none none (some (.UnaryOp .USub (.Constant (.int 1) k1 p1) p2)) p) pos) (.rev a):=fun {A env ρ O s d Q E} X hd g=>bndK hd fun x hx hd =>
  Subscript_ (ha X hx fun va as s₁ I₁ k₁ r₁ ok₁ o₁=>wpAny_Slice (wpAny_pure (wpAny_pure (by
    rw [evalPart_some,arm_eval_UnaryOp]
    refine wpAny_bind ?_
    rw [arm_eval_Constant]
    refine wpAny_mkInt (wpAny_bind (wpAny_standAt (wpAny_holding (P.neg_int ?_))))
    have k₄:=Kp.push Z.n s₁.heap { cls:=.type "slice",data:=.fields #[.none,.none,.int (-1) (s₁.toks + 1)] }
    have ra:=k₄.rd r₁
    obtain ⟨T,id,hT,hl⟩:=getitem_of (s:={ s₁ with heap:=s₁.heap.push { cls:=.type "slice",data:=.fields #[.none,.none,.int (-1) (s₁.toks + 1)] },toks:=s₁.toks + 1 + 1 }) ra (rev_kind hd)
    exact tail_any (ops:=[va,.ref s₁.heap.objs.size]) hT hl (sound_rev (t:=s₁.toks + 1) (I₁.push _ _) ra ok₁ ⟨_,Heap.get?_push_size _ rfl,rfl,rfl⟩ hd (g.kp (k₁.trans k₄)) (tailG o₁) (X.he.kp (k₁.trans k₄)).lt) rfl))))
noncomputable def isCall0 (e:Expr):Bool:=onCall e fun f _ _ _=>onName f fun _ _=>true
theorem attributeBase_of {e:Expr} (h:isCall0 e = false) (n:Str) (env:Env) (w:Sem Value):attributeBase e n env w = w:=by
  cases e with
  | Call f=>cases f with
    | Name=>cases h
    | _=>rfl
  | _=>rfl
theorem isBase_of {e:Expr} (h:isBase e = true):isCall0 e = false:=by
  have h2:e.ctorIdx ≠ 16:=fun c=>by
    unfold isBase at h
    rw [c] at h
    cases h
  exact dif_neg h2
theorem few_ok {es:List Expr} {env:Env} {pos:Pos} (hpl:PlainArgs es) (hlen:es.length ≤ 5):methodCallForm (es.length + ([]:List Keyword).length) (backTo pos (starEach es env)) (backToKw pos (keywordEach [] env)) = true:=by
  have h1:=hpl.1 env pos
  rw [List.any_eq_not_all_not,Bool.not_eq_false'] at h1
  show ((backTo pos (starEach es env)).all (fun x=>!x.1) && (backToKw pos (keywordEach [] env)).all (fun x=>x.1.isSome) && decide (es.length + ([]:List Keyword).length + (if ([]:List Keyword).isEmpty then 0 else 1) < 30)) = true
  rw [h1]
  exact decide_eq_true (Nat.lt_of_le_of_lt hlen (by decide))
noncomputable def MeOn (Z:Zone) (A:Around) (s:Shared) (O:List (Option Nat × Addr)) (es:List Nat) (Q E:Value→Shared→Prop) (m:Me) (o:Value) (d:PyData) (ds:List PyData):Prop :=
  ∃ T,PlainAttrs T ∧ Slot T (meName m) (meId m) ∧ typeOf (.builtin (meId m)) = pure (.type "method_descriptor") ∧ s.TypeIs o T ∧ (∀ a,o = .ref a→∃ ob,s.heap.get? a = some ob ∧ ob.dict = none) ∧
    ∀ {vs:List Value} {s':Shared} {as:List Addr},Kp Z.n s.heap s'.heap→Inv Z s'→RdAll s'.heap vs ds as→okDs ds = true→Got Z s' O es d Q→wpAny (model Z.prog Z.w) A (call (.builtin (meId m)) (o :: vs)) Q E s'
theorem sound_me {A:Around} {E:Value→Shared→Prop} {s:Shared} {O:List (Option Nat × Addr)} {es:List Nat} {Q:Value→Shared→Prop} {m:Me} {o:Value} {od:PyData} {os:List Addr} {ds:List PyData} {d:PyData}
    (hA:AOk Z lvl A) (ro:Rd s.heap o od os) (hod:okD od = true) (h:meD m od ds = some d):MeOn Z A s O es Q E m o d ds:=by
  refine one2K (m:=MeOn Z A s O es Q E m o d) h (fun x h=>?_) nofun
  cases m with
  | join =>
    exact dStrK h fun sep e h=>rdList h fun xs e' h=>by
      subst e e'
      obtain ⟨t,rfl⟩:=rd_str ro
      exact ⟨_,F.plainAttrs_str,F.slot_str_join,F.type_str_join,typeIs_str _ _ _,nofun,fun {vs s' as} k I r hd g=>rdAll1 (m:=fun vs _=>wpAny _ A (call (.builtin (meId .join)) (.str sep t :: vs)) Q E s') r fun v as rv=>sound_join I rv hod (andT hd).1 h g⟩
  | index =>
    exact rdList h fun xs e h=>by
      subst e
      obtain ⟨a,items,n,sl,as',rfl,ho,ra,_⟩:=rd_list_obj ro
      exact ⟨_,F.plainAttrs_list,F.slot_list_index,F.type_list_index,⟨_,ho,rfl⟩,fun a e=>by cases e; exact ⟨_,ho,rfl⟩,fun {vs s' as} k I r hd g=>rdAll1 (m:=fun vs _=>wpAny _ A (call (.builtin (meId .index)) (_ :: vs)) Q E s') r fun v as rv=>sound_index hA I (k.rd ro) rv hod (andT hd).1 h g⟩
theorem se_me {m:Me} {o:PE} {es:PEs} {x:Expr} {args:List Expr} {apos pos:Pos} (hc:isCall0 x = false) (hline:(apos.endLine == pos.line) = true) (hne:plen es ≠ 0) (hfew:plen es ≤ 5) (ho:SE Z cl lvl nm sc x o)
    (hpl:PlainArgs args ∧ args.length = plen es) (hes:SEs Z cl lvl nm sc args es):SE Z cl lvl nm sc (.Call (.Attribute x (meName m) apos) args [] pos) (.me m o es):=fun {A env ρ O s d Q E} X hd g=>bndK hd fun od hx hd=>bndK hd fun l hy hd =>
  wpAny_Call_method_lateS (attributeBase_of hc _ _ _) (few_ok hpl.1 (hpl.2 ▸ hfew)) hline (ho X hx fun vo os s₁ I₁ k₁ r₁ ok₁ o₁=>by
    obtain ⟨T,pa,slot,hty,hT,hdict,fin⟩:=sound_me (O:=O) (es:=esc (.me m o es)) (Q:=Q) (E:=E) X.ha r₁ ok₁ hd
    exact ⟨T,meId m,pa,slot,hty,hT,hdict,callWith_nonref nofun (hpl.1.1 env pos) (evalArgs_of (hpl.1.2.1 (fun e=>hne (hpl.2 ▸ e ▸ rfl)) env pos) (hes (X.kp k₁ I₁) hy fun vs as s₂ I₂ k₂ r₂ ok₂ o₂=>fin k₂ I₂ r₂ ok₂ (g.kp (k₁.trans k₂))))⟩)
end
end Kt
end
section
open PySem PySem.W PyProof.Rows
namespace Kt
section
variable {h:Heap} {a:Addr} {m:Str→Option Value} {o:Obj} {xs:Array Value} {n:Nat} {v:Option Value}
theorem ns_not_seq (x:h.Ns a m) (e:h.get? a = some o) (hd:o.data = .seq xs n):False:=let ⟨o',es,ep,e',hd',_⟩:=x; by
  cases e.symm.trans e'
  cases hd.symm.trans hd'
theorem cell_not_seq (x:h.IsCell a v) (e:h.get? a = some o) (hd:o.data = .seq xs n):False:=let ⟨o',e',hd'⟩:=x; by
  cases e.symm.trans e'
  cases hd.symm.trans hd'
theorem ns_not_cell (x:h.Ns a m) (y:h.IsCell a v):False:=let ⟨o',es,ep,e',hd',_⟩:=x; let ⟨o,e,hd⟩:=y; by
  cases e.symm.trans e'
  cases hd.symm.trans hd'
end
noncomputable def cf (env:Env) (n:Str):Prop:=env.kindOf n = some .cell ∨ env.kindOf n = some .free
noncomputable def Wr (nm:List Str) (env:Env) (xs:List Nat) (b:Addr):Prop :=
  b = env.locals ∨ ∃ x ∈ xs,∃ n,nm[x]? = some n ∧ cf env n ∧ env.cells.lookup n = some b
theorem Wr.mono {nm:List Str} {env:Env} {xs ys:List Nat} {b:Addr} (h:∀ x ∈ xs,x ∈ ys) (w:Wr nm env xs b):Wr nm env ys b :=
  w.elim .inl fun ⟨x,hx,r⟩=>.inr ⟨x,h x hx,r⟩
structure Turned (Z:Zone) (nm:List Str) (env:Env) (xs:List Nat) (X:Addr→Prop) (h h':Heap):Prop where
  keep:∀ b o,h.get? b = some o→(o.cls ≠ .none ∨ Z.n ≤ b)→¬ Wr nm env xs b→¬ X b→Sl h' b o
  acc:∀ n v,(∀ x ∈ xs,nm[x]? ≠ some n)→Acc env h n v→Acc env h' n v
  ns:(∃ m,h.Ns env.locals m)→∃ m,h'.Ns env.locals m
  cells:∀ n c v,cf env n→env.cells.lookup n = some c→h.IsCell c v→∃ v',h'.IsCell c v'
theorem name_inj {nm:List Str} (hnd:nm.Nodup) {x y:Nat} {n:Str} (h1:nm[x]? = some n) (h2:nm[y]? = some n):x = y :=
  let ⟨_,e1⟩:=List.getElem?_eq_some_iff.mp h1; let ⟨_,e2⟩:=List.getElem?_eq_some_iff.mp h2; (List.getElem_inj hnd).mp (e1.trans e2.symm)
section
variable {Z:Zone} {nm:List Str} {env:Env} {xs:List Nat} {X:Addr→Prop} {h h' h₁ h₂ h₃:Heap} {ρ:PEnv} {O:List (Option Nat × Addr)}
theorem EnvOk.cellAt (hE:EnvOk Z nm env ρ O h) {n:Str} (hk:cf env n) {c:Addr} (hc:env.cells.lookup n = some c):Z.n ≤ c ∧ ∃ v,h.IsCell c v:=by
  obtain ⟨c',v,e,hn,hv⟩:=hE.cells n hk
  cases hc.symm.trans e
  exact ⟨hn,v,hv⟩
theorem Turned.trans (a:Turned Z nm env xs X h₁ h₂) (b:Turned Z nm env xs X h₂ h₃):Turned Z nm env xs X h₁ h₃ where
  keep:=fun y o e c hw hx=>(a.keep y o e c hw hx).next fun o' e' hc=>b.keep y o' e' (by rw [hc]; exact c) hw hx
  acc:=fun n v hn hv=>b.acc n v hn (a.acc n v hn hv)
  ns:=fun hn=>b.ns (a.ns hn)
  cells:=fun n c v hk hc hv=>let ⟨v',hv'⟩:=a.cells n c v hk hc hv; b.cells n c v' hk hc hv'
theorem Turned.mono {ys:List Nat} {Y:Addr→Prop} (a:Turned Z nm env xs X h h') (hxy:∀ x ∈ xs,x ∈ ys) (hXY:∀ b,X b→Y b):Turned Z nm env ys Y h h' where
  keep:=fun y o e c hw hx=>a.keep y o e c (fun w=>hw (w.mono hxy)) fun q=>hx (hXY _ q)
  acc:=fun n v hn hv=>a.acc n v (fun x hx=>hn x (hxy x hx)) hv
  ns:=a.ns
  cells:=a.cells
theorem Turned.of_kp (hE:EnvOk Z nm env ρ O h) (k:Kp Z.n h h'):Turned Z nm env xs X h h' where
  keep:=fun y o e c _ _=>k.k y o e c
  acc:=fun n v _ hv=>hv.kp k hE.new fun c hc hk=>(hE.cellAt hk hc).1
  ns:=fun ⟨m,hm⟩=>⟨m,k.ns hE.new hm⟩
  cells:=fun n c v hk hc hv=>⟨v,k.cell (hE.cellAt hk hc).1 hv⟩
theorem EnvOk.wr_ge (hE:EnvOk Z nm env ρ O h) {b:Addr} (w:Wr nm env xs b):Z.n ≤ b ∧ b < h.objs.size ∧ ∀ o vs n,h.get? b = some o→o.data ≠ .seq vs n:=by
  rcases w with rfl | ⟨x,hx,n,hn,hk,hc⟩
  · obtain ⟨m,hm⟩:=hE.ns
    exact ⟨hE.new,hm.lt,fun o vs n e hd=>ns_not_seq hm e hd⟩
  · obtain ⟨h2,v,h3⟩:=hE.cellAt hk hc
    exact ⟨h2,h3.lt,fun o vs n e hd=>cell_not_seq h3 e hd⟩
theorem EnvOk.out (hE:EnvOk Z nm env ρ O h) {yb:Option Nat × Addr} (hy:yb ∈ O):¬ Wr nm env xs yb.2:=fun w =>
  w.elim (hE.apart yb hy).1 fun ⟨_,_,n,_,hk,hc⟩=>(hE.apart yb hy).2 n _ hk hc rfl
theorem Turned.rd {q:Bool} {vs:List Value} {ds:List PyData} {as:List Addr} (T:Turned Z nm env xs X h h') (hE:EnvOk Z nm env ρ O h) (r:RdV h q vs ds as) (hX:∀ b ∈ as,¬ X b):RdV h' q vs ds as:=r.map fun b o hb e c=>by
  obtain ⟨o',vs,m,e',hd,_⟩:=r.objs b hb
  cases e.symm.trans e'
  exact (T.keep b o e (.inl (by rw [c]; nofun)) (fun w=>(hE.wr_ge w).2.2 o vs m e hd) (hX b hb)).seq hd
theorem EnvOk.of_turned' {O₂:List (Option Nat × Addr)} (hE:EnvOk Z nm env ρ O h) (hsub:∀ yb ∈ O₂,yb ∈ O) (hnd:nm.Nodup) (T:Turned Z nm env xs X h h') (hρ:∀ x ∈ xs,lookV ρ x = none) (hX:∀ yb ∈ O₂,X yb.2→∃ o,h'.get? yb.2 = some o ∧ o.cls ≠ .none)
    (hR:∀ b,X b→(none,b) ∈ O):EnvOk Z nm env ρ O₂ h' where
  kind:=hE.kind
  glob:=hE.glob
  blt:=hE.blt
  new:=hE.new
  ns:=T.ns hE.ns
  live:=fun yb hy=>by
    by_cases hx:X yb.2
    · exact hX yb hy hx
    · obtain ⟨o,e,c⟩:=hE.live yb (hsub yb hy)
      obtain ⟨o',e',hc,_⟩:=(T.keep _ _ e (.inl c) (hE.out (hsub yb hy)) hx).ex
      exact ⟨o',e',hc ▸ c⟩
  apart:=fun yb hy=>hE.apart yb (hsub yb hy)
  cells:=fun n hk=>let ⟨c,v,e,h2,h3⟩:=hE.cells n hk; let ⟨v',h4⟩:=T.cells n c v hk e h3; ⟨c,v',e,h2,h4⟩
  inj:=hE.inj
  vars:=fun y d n h1 h2 h3=>by
    obtain ⟨v,as,a,r,hok,ho⟩:=hE.vars y d n h1 h2 h3
    refine ⟨v,as,T.acc n v (fun x hx hxn=>?_) a,T.rd hE r fun b hb q=>?_,hok,fun yb hy=>ho yb (hsub yb hy)⟩
    · cases (hρ y (name_inj hnd hxn h2 ▸ hx)).symm.trans h1
    · cases (ho _ (hR b q) hb).1
theorem EnvOk.of_turned (hE:EnvOk Z nm env ρ O h) (hnd:nm.Nodup) (T:Turned Z nm env xs X h h') (hρ:∀ x ∈ xs,lookV ρ x = none) (hX:∀ yb ∈ O,X yb.2→∃ o,h'.get? yb.2 = some o ∧ o.cls ≠ .none)
    (hR:∀ b,X b→(none,b) ∈ O):EnvOk Z nm env ρ O h':=hE.of_turned' (fun _ h=>h) hnd T hρ hX hR
theorem EnvOk.lessO {O':List (Option Nat × Addr)} (hE:EnvOk Z nm env ρ O h) (hs:∀ yb ∈ O',yb ∈ O):EnvOk Z nm env ρ O' h :=
  { hE with live:=fun yb hy=>hE.live yb (hs yb hy),apart:=fun yb hy=>hE.apart yb (hs yb hy),vars:=fun y d n h1 h2 h3=>let ⟨v,as,a,r,hok,ho⟩:=hE.vars y d n h1 h2 h3; ⟨v,as,a,r,hok,fun yb hy=>ho yb (hs yb hy)⟩ }
theorem EnvOk.lessV {ρ':PEnv} (hE:EnvOk Z nm env ρ O h) (hs:∀ x d,lookV ρ' x = some d→lookV ρ x = some d):EnvOk Z nm env ρ' O h :=
  { hE with vars:=fun y d n h1=>hE.vars y d n (hs y d h1) }
theorem ns_uniq {a:Addr} {m m':Str→Option Value} (x:h.Ns a m) (y:h.Ns a m') (n:Str):m n = m' n:=by
  obtain ⟨o,es,ep,e,hd,_,hm⟩:=x
  obtain ⟨o',es',ep',e',hd',_,hm'⟩:=y
  cases e.symm.trans e'
  cases hd.symm.trans hd'
  exact (hm n).symm.trans (hm' n)
theorem Acc.uniq {n:Str} {v w:Value} (a:Acc env h n v) (b:Acc env h n w):v = w:=by
  rcases a with ⟨h1,m,h2,h3⟩ | ⟨h1,c,h2,o,e,hd⟩ <;> rcases b with ⟨g1,m',g2,g3⟩ | ⟨g1,c',g2,o',e',hd'⟩
  · exact Option.some.inj ((h3.symm.trans (ns_uniq h2 g2 n)).trans g3)
  · rw [h1] at g1; exact g1.elim nofun nofun
  · rw [g1] at h1; exact h1.elim nofun nofun
  · cases h2.symm.trans g2
    cases e.symm.trans e'
    cases hd.symm.trans hd'
    rfl
theorem lookV_set {x y:Nat} {d:PyData} {q:Option PyData} (h:lookV (ρ.set x q) y = some d):(y = x ∧ q = some d) ∨ (y ≠ x ∧ lookV ρ y = some d):=by
  unfold lookV at h ⊢
  rw [List.getElem?_set] at h
  by_cases e:x = y
  · rw [if_pos e] at h
    by_cases hx:x < ρ.length
    · rw [if_pos hx] at h; exact .inl ⟨e.symm,h⟩
    · rw [if_neg hx] at h; cases h
  · rw [if_neg e] at h
    exact .inr ⟨fun e'=>e e'.symm,h⟩
theorem lookV_none (ρ:PEnv) (x:Nat):lookV (ρ.set x none) x = none:=by
  cases e:lookV (ρ.set x none) x with
  | none=>rfl
  | some d=>rcases lookV_set e with ⟨_,e⟩ | ⟨e,_⟩ <;> first | cases e | exact absurd rfl e
theorem lookV_ne {x y:Nat} (q:Option PyData) (h:x ≠ y):lookV (ρ.set x q) y = lookV ρ y:=by unfold lookV; rw [List.getElem?_set,if_neg h]
theorem lookV_hid {x y:Nat} {d:PyData} (h:lookV (ρ.set x none) y = some d):lookV ρ y = some d:=(lookV_set h).elim (fun e=>nomatch e.2) fun e=>e.2
theorem store_any {M:Model} {A:Around} {E:Value→Shared→Prop} {s:Shared} {n:Str} {v:Value} {x:Nat} {Q:Unit→Shared→Prop} (hE:EnvOk Z nm env ρ O s.heap) (hI:Inv Z s) (hx:nm[x]? = some n)
    (hk:env.kindOf n = some .local ∨ env.kindOf n = some .cell)
    (hQ:∀ h' tk,Inv Z { s with heap:=h',toks:=tk }→Acc env h' n v→Turned Z nm env [x] (fun _=>False) s.heap h'→Q () { s with heap:=h',toks:=tk }):wpAny M A (storeName env n v) Q E s:=by
  obtain ⟨m,hm⟩:=hE.ns
  have hne:∀ {y},(∀ x' ∈ [x],nm[x']? ≠ some y)→y ≠ n:=fun hy e=>hy x (List.mem_singleton.mpr rfl) (e ▸ hx)
  rcases hk with hk | hk
  · refine wpAny_storeName_local hk hm (fun h' hn hs=>hQ h' _ (hI.same hE.new hs (fun _=>let ⟨o,es,ep,e,hd,_⟩:=hn; ⟨o,e,es,ep,hd⟩) _) (.inl ⟨hk,_,hn,if_pos rfl⟩) ?_) (by simp [hE.kind])
    have cell:∀ {c u},s.heap.IsCell c u→h'.IsCell c u:=fun ⟨o,e,hd⟩=>⟨o,(hs.2 _ fun e'=>ns_not_cell hm ⟨o,e' ▸ e,hd⟩).trans e,hd⟩
    refine ⟨fun b o e _ hw _=>.inl ((hs.2 b fun e'=>hw (.inl e')).trans e),fun y u hy hv=>?_,fun _=>⟨_,hn⟩,fun y c u hyk hc hu=>⟨u,cell hu⟩⟩
    rcases hv with ⟨h1,m',h2,h3⟩ | ⟨h1,c,h2,h3⟩
    · exact .inl ⟨h1,_,hn,(if_neg (hne hy)).trans ((ns_uniq hm h2 y).trans h3)⟩
    · exact .inr ⟨h1,c,h2,cell h3⟩
  · obtain ⟨c,v₀,hc,hcn,hcell⟩:=hE.cells n (.inl hk)
    refine wpAny_storeName_cell hE.kind hk hc hcell fun h' hc' hs=>hQ h' s.toks (hI.same hcn hs (fun h=>absurd h (let ⟨o,e,hd⟩:=hcell; hI.frNot e fun es ep h=>by cases hd.symm.trans h)) _) (.inr ⟨.inl hk,c,hc,hc'⟩) ?_
    have hlc:env.locals ≠ c:=fun e=>ns_not_cell hm (e ▸ hcell)
    refine ⟨fun b o e _ hw _=>.inl ((hs.2 b fun e'=>hw (.inr ⟨x,List.mem_singleton.mpr rfl,n,hx,.inl hk,e' ▸ hc⟩)).trans e),fun y u hy hv=>?_,fun _=>⟨m,hm.sameBut hs hlc⟩,fun y c' u hyk hyc hu=>?_⟩
    · rcases hv with ⟨h1,m',h2,h3⟩ | ⟨h1,c',h2,o,e,hd⟩
      · exact .inl ⟨h1,m',h2.sameBut hs hlc,h3⟩
      · exact .inr ⟨h1,c',h2,o,(hs.2 c' fun e'=>hne hy (hE.inj y n c h1 (.inl hk) (e' ▸ h2) hc)).trans e,hd⟩
    · by_cases e:c' = c
      · exact ⟨_,e ▸ hc'⟩
      · obtain ⟨o,e',hd⟩:=hu
        exact ⟨u,o,(hs.2 c' e).trans e',hd⟩
theorem EnvOk.stored {x:Nat} {n:Str} {v:Value} {d:PyData} {as:List Addr} (hE:EnvOk Z nm env ρ O h) (hnd:nm.Nodup) (hx:nm[x]? = some n) (T:Turned Z nm env [x] (fun _=>False) h h') (a:Acc env h' n v)
    (r:Rd h v d as) (hd:okD d = true) (ho:∀ yb ∈ O,yb.2 ∈ as→yb.1 = some x ∧ as.head? = some yb.2):EnvOk Z nm env (ρ.set x (some d)) O h' :=
  have h0:EnvOk Z nm env (ρ.set x none) O h':=EnvOk.of_turned (hE.lessV (ρ':=ρ.set x none) fun y q hy=>lookV_hid hy) hnd T (fun y hy=>by cases List.mem_singleton.mp hy; exact lookV_none ρ x) (fun _ _ h=>h.elim) fun _ h=>h.elim
  { h0 with
    vars:=fun y q m h1 h2 h3=>by
      rcases lookV_set h1 with ⟨rfl,e⟩ | ⟨hne,e⟩
      · cases e
        cases hx.symm.trans h2
        exact ⟨v,as,a,T.rd hE r fun _ _=>id,hd,ho⟩
      · exact h0.vars y q m ((lookV_ne none fun e=>hne e.symm).trans e) h2 h3 }
theorem kind_of {sc:Scope} (hs:ScOk sc env) {n:Str} (h:lcl sc n = true) (hf:env.kindOf n ≠ some .free):env.kindOf n = some .local ∨ env.kindOf n = some .cell:=by
  rcases Bool.or_eq_true_iff.mp h with h | h
  · exact .inl (hs.1 n (eq_of_beq h))
  · exact (hs.2.1 n (.inl (eq_of_beq h))).elim .inr fun e=>absurd e hf
noncomputable def NoFree (sc:Scope) (env:Env):Prop:=∀ n,lcl sc n = true→env.kindOf n ≠ some .free
end
end Kt
end
section
open PySem PySem.W PyProof.Rows
namespace Kt
section
variable {Z:Zone} {cl:Nat→List PyData→Option PyData} {lvl:Nat} {nm:List Str} {fn:List Str} {sc:Scope}
theorem bind_name {A:Around} {env:Env} {ρ:PEnv} {O:List (Option Nat × Addr)} {s:Shared} {E:Value→Shared→Prop} {x:Nat} {n:Str} {p:Pos} {v:Value} {d:PyData} {as:List Addr} {Q:Unit→Shared→Prop} (hnd:nm.Nodup) (hx:nm[x]? = some n) (hl:lcl sc n = true)
    (hs:ScOk sc env) (hf:NoFree sc env) (hE:EnvOk Z nm env ρ O s.heap) (hI:Inv Z s) (r:Rd s.heap v d as) (hd:okD d = true) (ho:∀ yb ∈ O,yb.2 ∉ as)
    (hQ:∀ s',Inv Z s'→EnvOk Z nm env (ρ.set x (some d)) O s'.heap→Turned Z nm env [x] (fun _=>False) s.heap s'.heap→Q () s'):wpAny (model Z.prog Z.w) A (assign (.Name n p) env v) Q E s :=
  wpAny_assign_Name (store_any hE hI hx (kind_of hs hl (hf n hl)) fun _ _ I' a T=>hQ _ I' (hE.stored hnd hx T a r hd fun yb hy hm=>absurd hm (ho yb hy)) T)
structure Src (Z:Zone) (A:Around) (O:List (Option Nat × Addr)) (p:PI) (s:Shared) (ds:List PyData) (I:Addr) (used:List Addr) (St:Nat→Heap→Prop) (s':Shared):Prop where
  iter:Iter Z A I ds used St
  start:St 0 s'.heap
  ok:okDs ds = true
  len:ds.length ≤ sizeLine
  inv:Inv Z s'
  kp:Kp Z.n s.heap s'.heap
  fresh:s.heap.get? I = none
  seq:∀ a ∈ used,∃ o vs n,s'.heap.get? a = some o ∧ o.data = .seq vs n ∧ o.cls ≠ .none
  own:∀ yb ∈ O,yb.2 ∈ used→InO yb.1 (escPI p)
noncomputable def SI (Z:Zone) (cl:Nat→List PyData→Option PyData) (lvl:Nat) (nm:List Str) (sc:Scope) (e:Expr) (p:PI):Prop :=
  ∀ {A:Around} {env:Env} {ρ:PEnv} {O:List (Option Nat × Addr)} {s:Shared} {ds:List PyData} {Q:Value→Shared→Prop} {E:Value→Shared→Prop},
    Cx Z lvl nm sc A env ρ O s→evI cl p ρ = some ds →
    (∀ I used St s',Src Z A O p s ds I used St s'→Q (.ref I) s')→wpAny (model Z.prog Z.w) A (eval e env) (fun x s₁=>wpAny (model Z.prog Z.w) A (pyIter x) Q E s₁) E s
theorem get?_ge {h:Heap} {a:Addr} (ha:h.objs.size ≤ a):h.get? a = none:=by
  cases e:h.get? a with
  | none=>rfl
  | some o=>exact absurd (Heap.lt_size e) (Nat.not_lt.mpr ha)
theorem Kp.none {h h':Heap} (k:Kp Z.n h h') {a:Addr} (hna:Z.n ≤ a) (ha:h'.get? a = none):h.get? a = none:=by
  cases e:h.get? a with
  | none=>rfl
  | some o=>obtain ⟨_,this,_⟩:=(k.k a o e (.inr hna)).ex; cases ha.symm.trans this
theorem si_of {e:Expr} {p:PE} (h:SE Z cl lvl nm sc e p):SI Z cl lvl nm sc e (.of p):=fun {A env ρ O s ds Q E} X hd hQ=>bndK hd fun x hx hd=>h X hx fun v as s₁ I₁ k₁ r₁ ok₁ o₁=>by
  cases x with
  | list xs =>
    cases hd
    obtain ⟨a,items,as',rfl,hl,ra,rfl⟩:=rd_list_inv r₁
    have hsz:Z.n ≤ s₁.heap.objs.size:=(X.he.kp k₁).size
    have hp:∀ {b o} {ob:Obj},s₁.heap.get? b = some o→(s₁.heap.push ob).get? b = some o:=fun e=>Heap.get?_push_of_some _ e
    exact wpAny_pyIter_list hl (hQ s₁.heap.objs.size (a :: as') (fun k h=>h.IsListIter s₁.heap.objs.size a k ∧ h.IsList a items ∧ RdAll h items.toList ds as') _
      ⟨Iter.list X.ha.handled hsz (I₁.frLt (Nat.le_refl _)) fun hb=>Nat.lt_irrefl _ (r₁.lt _ hb),⟨⟨_,Heap.get?_push_size _ rfl,rfl,rfl⟩,isList_keep hl fun o e=>hp e,ra.map fun _ _ _ e _=>hp e⟩,(okL ok₁).2,(okL ok₁).1,I₁.push _ _,k₁.trans (Kp.push _ _ _),k₁.none hsz (get?_ge (Nat.le_refl _)),
        fun b hb=>let ⟨o,vs,n,e,hd,hc⟩:=r₁.objs b hb; ⟨o,vs,n,hp e,hd,by rw [hc]; nofun⟩,o₁⟩)
  | _=>cases hd
theorem okDs_upTo (lo hi:Int):okDs (upTo lo hi) = true:=okDs_mem.mpr fun d hd=>let ⟨_,_,e⟩:=List.mem_map.mp hd; e ▸ rfl
theorem si_rangeTail {A:Around} {env:Env} {ρ:PEnv} {O:List (Option Nat × Addr)} {s s₁:Shared} {Q:Value→Shared→Prop} {E:Value→Shared→Prop} {p:PI} {lo hi:Int} {t u v:Tok} {r:Addr} (X:Cx Z lvl nm sc A env ρ O s) (hr:rangeOk lo hi = true) (hI:Inv Z s₁)
    (k:Kp Z.n s.heap s₁.heap) (hR:IsRange s₁.heap r lo hi 1 t u v) (hQ:∀ I used St s',Src Z A O p s (upTo lo hi) I used St s'→Q (.ref I) s'):wpAny (model Z.prog Z.w) A (pyIter (.ref r)) Q E s₁:=by
  obtain ⟨hr,r4⟩:=andT hr
  obtain ⟨hr,r3⟩:=andT hr
  obtain ⟨r1,r2⟩:=andT hr
  have r1:=of_decide_eq_true r1
  have r2:=of_decide_eq_true r2
  have r3:=of_decide_eq_true r3
  have r4:=of_decide_eq_true r4
  have hsz:Z.n ≤ s₁.heap.objs.size:=(X.he.kp k).size
  have hn:Builtin.Range.rangeSize lo hi 1 = ((hi - lo).toNat:Int):=by rw [rangeSize_one]; split <;> omega
  refine wpAny_pyIter_range hR (small_one (by omega) (by omega) (by omega) (by omega)) (hQ s₁.heap.objs.size [] (fun k h=>IsRangeIter h s₁.heap.objs.size (lo + (k:Nat) * 1) (((hi - lo).toNat:Int) - (k:Nat)) 1) _
    ⟨Iter.range X.ha.handled hsz (hI.frLt (Nat.le_refl _)),?_,okDs_upTo _ _,?_,hI.push _ _,k.trans (Kp.push _ _ _),k.none hsz (get?_ge (Nat.le_refl _)),nofun,nofun⟩)
  · show IsRangeIter _ _ (lo + ((0:Nat):Int) * 1) (((hi - lo).toNat:Int) - ((0:Nat):Int)) 1
    rw [show lo + ((0:Nat):Int) * 1 = lo by omega,show (((hi - lo).toNat:Int) - ((0:Nat):Int)) = ((hi - lo).toNat:Int) by omega,hn]
    exact Heap.get?_push_size _ rfl
  · have:(sizeLine:Nat) = 2 ^ 24:=rfl
    unfold upTo
    rw [List.length_map,List.length_range]
    omega
theorem call_bltn {n:Str} {p pos:Pos} {es:List Expr} {ps:PEs} {v:Value} {A:Around} {env:Env} {ρ:PEnv} {O:List (Option Nat × Addr)} {s:Shared} {ds:List PyData} {Q:Value→Shared→Prop} {E:Value→Shared→Prop} (hB:BiOk Z) (X:Cx Z lvl nm sc A env ρ O s) (hg:globOk sc n = true) (hv:(n,v) ∈ biTab) (hnr:∀ a,v ≠ .ref a) (hne:es ≠ []) (hpl:PlainArgs es) (h:SEs Z cl lvl nm sc es ps) (hd:evEs cl ps ρ = some ds)
    (hQ:∀ vs as s',Inv Z s'→Kp Z.n s.heap s'.heap→RdAll s'.heap vs ds as→okDs ds = true→(∀ yb ∈ O,yb.2 ∈ as→InO yb.1 (escs ps))→wpAny (model Z.prog Z.w) A (call v vs) Q E s') :
    wpAny (model Z.prog Z.w) A (eval (.Call (.Name n p) es [] pos) env) Q E s:=by
  rw [eval_Call_Name]
  exact wpAny_bind (bltName hB X hg hv (callWith_nonref hnr (hpl.1 env pos) (evalArgs_of (hpl.2.1 hne env pos) (h X hd hQ))))
theorem ses_one {e:Expr} {p:PE} (hst:isStarred e = false) (h:SE Z cl lvl nm sc e p):SEs Z cl lvl nm sc [e] (.cons p .nil):=ses_cons (not_starred hst []) h ses_nil
theorem ses_two {e f:Expr} {p q:PE} (hst:isStarred e = false) (hst':isStarred f = false) (h:SE Z cl lvl nm sc e p) (h':SE Z cl lvl nm sc f q):SEs Z cl lvl nm sc [e,f] (.cons p (.cons q .nil)) :=
  ses_cons (not_starred hst [f]) h (ses_one hst' h')
theorem si_range1 {e:Expr} {p q:Pos} {a:PE} (hB:BiOk Z) (hg:globOk sc "range" = true) (hst:isStarred e = false) (h:SE Z cl lvl nm sc e a):SI Z cl lvl nm sc (.Call (.Name "range" p) [e] [] q) (.range1 a):=fun {A env ρ O s ds Q E} X hd hQ=>bndK hd fun x hx hd=>dIntK hd fun n e hd=>ifK hd fun hr e'=>by
  subst e e'
  exact call_bltn (ps:=.cons a .nil) (ds:=[.int n]) hB X hg (v:=.type "range") (by decide) nofun nofun (plain_one hst) (ses_one hst h) (by rw [evEs,hx]; rfl) fun vs as s₁ I₁ k₁ r₁ ok₁ o₁ =>
    rdAll1 (m:=fun vs _=>wpAny _ A (call (.type "range") vs) _ E s₁) r₁ fun v as r=>rdI (m:=fun v=>wpAny _ A (call (.type "range") [v]) _ E s₁) r fun t=>call_range_1 (si_rangeTail X hr (I₁.push _ _) (k₁.trans (Kp.push _ _ _)) (IsRange.new _ 0 n 1 _ _ _) hQ)
theorem si_range2 {e f:Expr} {p q:Pos} {a b:PE} (hB:BiOk Z) (hg:globOk sc "range" = true) (hst:isStarred e = false) (hst':isStarred f = false) (h:SE Z cl lvl nm sc e a) (h':SE Z cl lvl nm sc f b):SI Z cl lvl nm sc (.Call (.Name "range" p) [e,f] [] q) (.range2 a b):=fun {A env ρ O s ds Q E} X hd hQ=>bndK hd fun x hx hd=>bndK hd fun y hy hd=>dIntK hd fun m e hd=>dIntK hd fun n e' hd=>ifK hd fun hr e''=>by
  subst e e' e''
  exact call_bltn (ps:=.cons a (.cons b .nil)) (ds:=[.int m,.int n]) hB X hg (v:=.type "range") (by decide) nofun nofun (plain_two hst hst') (ses_two hst hst' h h') (by rw [evEs,hx,evEs,hy]; rfl) fun vs as s₁ I₁ k₁ r₁ ok₁ o₁ =>
    rdAll2 (m:=fun vs=>wpAny _ A (call (.type "range") vs) _ E s₁) r₁ fun v w as bs r r'=>rdI (m:=fun v=>wpAny _ A (call (.type "range") [v,w]) _ E s₁) r fun t=>rdI (m:=fun w=>wpAny _ A (call (.type "range") [_,w]) _ E s₁) r' fun u=>call_range_2 (si_rangeTail X hr (I₁.push _ _) (k₁.trans (Kp.push _ _ _)) (IsRange.new _ m n 1 _ _ _) hQ)
theorem folded_of {e:Expr} (h:isSetE e = false) (env:Env) (x:Value):foldedSetIterable e env x = pure x:=by
  cases e with
  | Set=>cases h
  | _=>rfl
noncomputable def hit (es:List Nat):Option Nat→Bool
  | none=>false
  | some y=>es.contains y
theorem hit_iff {es:List Nat} {o:Option Nat}:hit es o = true ↔ InO o es:=by
  cases o with
  | none=>exact ⟨nofun,fun ⟨_,_,h⟩=>nomatch h⟩
  | some y=>exact ⟨fun h=>⟨y,List.contains_iff_mem.mp h,rfl⟩,fun ⟨z,h,e⟩=>by cases e; exact List.contains_iff_mem.mpr h⟩
noncomputable def reserve (I:Addr) (O:List (Option Nat × Addr)) (es:List Nat):List (Option Nat × Addr):=(none,I) :: O.filter fun yb=>!hit es yb.1
theorem mem_reserve {I:Addr} {O:List (Option Nat × Addr)} {es:List Nat} {yb:Option Nat × Addr} (h:yb ∈ reserve I O es):yb = (none,I) ∨ (yb ∈ O ∧ ¬ InO yb.1 es) :=
  (List.mem_cons.mp h).imp id fun h=>⟨(List.mem_filter.mp h).1,fun h'=>by have:=notT (List.mem_filter.mp h).2; rw [hit_iff.mpr h'] at this; cases this⟩
theorem reserve_old {I:Addr} {O:List (Option Nat × Addr)} {es:List Nat} {yb:Option Nat × Addr} (h:yb ∈ O):yb ∈ reserve I O es ∨ InO yb.1 es:=by
  cases hh:hit es yb.1 with
  | true=>exact .inr (hit_iff.mp hh)
  | false=>exact .inl (List.mem_cons_of_mem _ (List.mem_filter.mpr ⟨h,by rw [hh]; rfl⟩))
theorem reserve_none {I:Addr} {O:List (Option Nat × Addr)} {es:List Nat} {a:Addr} (h:(none,a) ∈ O):(none,a) ∈ reserve I O es:=(reserve_old h).elim id fun ⟨_,_,h⟩=>nomatch h
theorem EnvOk.reserve {env:Env} {ρ:PEnv} {O:List (Option Nat × Addr)} {h h':Heap} {I:Addr} {es:List Nat} (hE:EnvOk Z nm env ρ O h) (k:Kp Z.n h h') (hfresh:h.get? I = none) (hlive:∃ o,h'.get? I = some o ∧ o.cls ≠ .none):EnvOk Z nm env ρ (reserve I O es) h' :=
  have hk:=hE.kp k
  { hk with
    live:=fun yb hy=>(mem_reserve hy).elim (fun e=>e ▸ hlive) fun h=>hk.live yb h.1
    apart:=fun yb hy=>(mem_reserve hy).elim (fun e=>by
      subst e
      refine ⟨fun e'=>?_,fun n c hkd hc e'=>?_⟩
      · obtain ⟨m,o,es,ep,e'',_⟩:=hE.ns
        cases hfresh.symm.trans ((show I = env.locals from e') ▸ e'')
      · obtain ⟨_,v,o,e'',_⟩:=hE.cellAt hkd hc
        cases hfresh.symm.trans ((show I = c from e') ▸ e'')) fun h=>hk.apart yb h.1
    vars:=fun x d n h1 h2 h3=>by
      obtain ⟨v,as,a,r,hd,ho⟩:=hE.vars x d n h1 h2 h3
      refine ⟨v,as,a.kp k hE.new (fun c hc hkd=>(hE.cellAt hkd hc).1),k.rd r,hd,fun yb hy hm=>(mem_reserve hy).elim (fun e=>?_) fun h=>ho yb h.1 hm⟩
      obtain ⟨o,_,_,e',_⟩:=r.objs yb.2 hm
      rw [e] at e'
      cases hfresh.symm.trans e' }
end
end Kt
end
section
open PySem PySem.W PyProof.Rows
namespace Kt
section
variable {prog:Program} {w:World} {A:Around} {E:Value→Shared→Prop} {R:Result→Shared→Prop} {s:Shared} {elt iter:Expr} {tn:Str} {tp:Pos} {scope:Scope} {pos:Pos} {it acc:Value} {env:Env}
theorem compTurn_one:compTurn (.ListComp elt [⟨.Name tn tp,iter,[],0⟩] scope pos) 0 it acc env = (do
      standAt iter.pos
      match ← pyNext it with
      | none=>pure (.done .next)
      | some v =>
        assign (.Name tn tp) env v
        (do let _ ← call (.builtin "list.append") [acc,← eval elt env])
        again (.compLoop (.ListComp elt [⟨.Name tn tp,iter,[],0⟩] scope pos) 0 it acc env)):=rfl
theorem codeAny_turns (I:Nat→Shared→Prop)
    (turn:∀ n s,I n s→∀ E,wpAny (model prog w) A (pyNext it) (fun r s₁=>match r with
      | none=>R (.ok .next) s₁
      | some v=>wpAny (model prog w) A (assign (.Name tn tp) env v) (fun _ s₃=>wpAny (model prog w) A (eval elt env) (fun x s₁=>wpAny (model prog w) A (call (.builtin "list.append") [acc,x]) (fun _ s₂=>∃ m,m < n ∧ I m s₂) E s₁) E s₃) E s₁) E s)
    (n:Nat) (h:I n s):codeAny (model prog w) A (.compLoop (.ListComp elt [⟨.Name tn tp,iter,[],0⟩] scope pos) 0 it acc env) R s:=by
  refine codeAny_loop rfl I (fun n s hI=>?_) n h
  show wpAny _ A ((compTurn (.ListComp elt [⟨.Name tn tp,iter,[],0⟩] scope pos) 0 it acc env).onRaise (fun x=>do noteFrame x env; theTreesLotGoes x)) _ _ s
  rw [compTurn_one]
  refine wpAny_noted (wpAny_bind (wpAny_standAt (wpAny_bind (wpAny_mono (turn n s hI _) (fun r s₁ h₁=>?_) fun _ _ h'=>h'))))
  cases r with
  | none=>exact wpAny_pure h₁
  | some v=>exact wpAny_bind (wpAny_mono h₁ (fun _ s₂ h₂=>wpAny_bind (wpAny_bind (wpAny_mono h₂ (fun x s₅ h₅=>wpAny_bind (wpAny_mono h₅ (fun _ s₆ h₆=>wpAny_pure (wpAny_pure ⟨rfl,h₆⟩)) fun _ _ h'=>h')) fun _ _ h'=>h'))) fun _ _ h'=>h')
theorem codeAny_start (h0:codeAny (model prog w) A (.compLoop (.ListComp elt [⟨.Name tn tp,iter,[],0⟩] scope pos) 0 it acc env) R s)
    (h:wpAny (model prog w) A (pyIter it) (fun it' s'=>codeAny (model prog w) A (.compLoop (.ListComp elt [⟨.Name tn tp,iter,[],0⟩] scope pos) 0 it' acc env) R s') (notedBy (model prog w) A env fun x s'=>R (.error x) s') s) :
    codeAny (model prog w) A (.compStart (.ListComp elt [⟨.Name tn tp,iter,[],0⟩] scope pos) 0 it acc env) R s:=by
  refine codeAny_of_tree ?_
  show wpAny _ _ ((compStart (.ListComp elt [⟨.Name tn tp,iter,[],0⟩] scope pos) 0 it acc env).onRaise (fun x=>do noteFrame x env; standAt theWindowsPlace)) _ _ s
  refine wpAny_notedAt ?_
  show wpAny _ _ (ask >>= _) _ _ s
  refine wpAny_bind (wpAny_askSetting (wpAny_ite ?_))
  split
  · first
      | exact wpAny_bind (wpAny_pure (wpAny_pure (And.intro rfl h0)))
      | exact wpAny_pure (And.intro rfl h0)
  · first
      | exact wpAny_bind (wpAny_rule (wpAny_bind (wpAny_standAt (wpAny_bind (wpAny_mono h (fun it' s' h'=>wpAny_pure (And.intro rfl h')) fun _ _ x=>x)))))
      | (refine wpAny_bind (wpAny_rule ?_); show wpAny _ _ (standAt iter.pos >>= _) _ _ s; exact wpAny_bind (wpAny_standAt (wpAny_bind (wpAny_mono h (fun it' s' h'=>wpAny_pure (And.intro rfl h')) fun _ _ x=>x))))
end
section
variable {Z:Zone} {cl:Nat→List PyData→Option PyData} {lvl:Nat} {nm:List Str} {fn:List Str} {sc:Scope}
structure AccOk (acc:Addr) (res:List PyData) (O:List (Option Nat × Addr)) (es:List Nat) (h:Heap):Prop where
  obj:∃ vs n sl as,h.get? acc = some { cls:=.type "list",dict:=none,data:=.seq vs n,slots:=sl } ∧ RdAll h vs.toList res as ∧ ∀ yb ∈ O,yb.2 ∈ as→InO yb.1 es
  ok:okDs res = true
theorem AccOk.keep {acc:Addr} {res:List PyData} {O:List (Option Nat × Addr)} {es:List Nat} {h h':Heap} (x:AccOk acc res O es h) (hk:∀ b o,h.get? b = some o→(∃ xs n,o.data = .seq xs n)→o.cls ≠ .none→(b = acc ∨ (none,b) ∉ O)→h'.get? b = some o):AccOk acc res O es h':=by
  obtain ⟨⟨vs,n,sl,as,e,r,ho⟩,ok⟩:=x
  refine ⟨⟨vs,n,sl,as,hk _ _ e ⟨_,_,rfl⟩ nofun (.inl rfl),r.map fun a o ha' e' c=>?_,ho⟩,ok⟩
  obtain ⟨o',xs,n',e'',hd,hc⟩:=r.objs a ha'
  cases e'.symm.trans e''
  exact hk a o e' ⟨_,_,hd⟩ (by rw [hc]; nofun) (.inr fun hy=>let ⟨_,_,hz⟩:=ho _ hy ha'; nomatch hz)
theorem AccOk.push {acc:Addr} {res:List PyData} {O:List (Option Nat × Addr)} {es:List Nat} {A:Around} {s:Shared} {E:Value→Shared→Prop} {v:Value} {d:PyData} {bs:List Addr} {Q:Value→Shared→Prop} (x:AccOk acc res O es s.heap) (hn:Z.n ≤ acc) (ha:(none,acc) ∈ O) (hI:Inv Z s) (r:Rd s.heap v d bs) (hd:okD d = true)
    (ho:∀ yb ∈ O,yb.2 ∈ bs→InO yb.1 es) (hsz:res.length ≤ sizeLine)
    (hQ:∀ s',Inv Z s'→AccOk acc (res ++ [d]) O es s'.heap→(∀ b o,b ≠ acc→s.heap.get? b = some o→s'.heap.get? b = some o)→Q .none s') :
    wpAny (model Z.prog Z.w) A (call (.builtin "list.append") [.ref acc,v]) Q E s:=by
  obtain ⟨⟨vs,n,sl,as,e,rs,hos⟩,ok⟩:=x
  have hlen:=rdAll_length rs
  rw [Array.length_toList] at hlen
  have noacc:∀ {cs:List Addr},(∀ yb ∈ O,yb.2 ∈ cs→InO yb.1 es)→acc ∉ cs:=fun h hm=>let ⟨_,_,hz⟩:=h _ ha hm; nomatch hz
  refine wpAny_call_entry slot_list_append ⟨_,e,rfl⟩ entry_list_append ?_ (args_list_append _ _)
  show wpAny _ _ (updateSeq acc (·.push v) >>= fun _=>ret .none) _ _ s
  refine wpAny_bind (wpAny_updateSeq e rfl (wpAny_pure ⟨.none,rfl,?_⟩))
  have hs:=Heap.SameBut.update s.heap acc (Obj.mapSeq (·.push v))
  have hk:∀ b o,b ≠ acc→s.heap.get? b = some o→(s.heap.update acc (Obj.mapSeq (·.push v))).get? b = some o:=fun b o hb q=>(hs.2 b hb).trans q
  refine hQ _ (hI.same hn hs (fun h=>absurd h (hI.frNot e nofun)) s.toks) ⟨⟨vs.push v,_,sl,as ++ bs,Heap.get?_update_self _ e rfl,?_,fun yb hy hm=>(List.mem_append.mp hm).elim (hos yb hy) (ho yb hy)⟩,okDs_append.mpr ⟨ok,by rw [okDs,hd]; rfl⟩⟩ hk
  rw [Array.toList_push,← List.append_nil bs]
  exact rdAll_append (rs.map fun a o h1 h2 _=>hk a o (fun e'=>noacc hos (e' ▸ h1)) h2) (.cons (r.map fun a o h1 h2 _=>hk a o (fun e'=>noacc ho (e' ▸ h1)) h2) .nil)
theorem Turned.of_but {env:Env} {xs:List Nat} {X:Addr→Prop} {h h':Heap} (hk:∀ b o,¬ X b→h.get? b = some o→h'.get? b = some o) (h1:¬ X env.locals) (h2:∀ n c,cf env n→env.cells.lookup n = some c→¬ X c):Turned Z nm env xs X h h' where
  keep:=fun b o e _ _ hx=>.inl (hk b o hx e)
  acc:=fun n v _ hv=>hv.imp (fun ⟨h3,m,⟨o,es,ep,e,r⟩,h5⟩=>⟨h3,m,⟨o,es,ep,hk _ _ h1 e,r⟩,h5⟩) fun ⟨h3,c,h4,⟨o,e,r⟩⟩=>⟨h3,c,h4,⟨o,hk _ _ (h2 n c h3 h4) e,r⟩⟩
  ns:=fun ⟨m,⟨o,es,ep,e,r⟩⟩=>⟨m,⟨o,es,ep,hk _ _ h1 e,r⟩⟩
  cells:=fun n c v hkd hc ⟨o,e,r⟩=>⟨v,o,hk _ _ (h2 n c hkd hc) e,r⟩
theorem EnvOk.but {env:Env} {ρ:PEnv} {O:List (Option Nat × Addr)} {xs:List Nat} {I:Addr} {h h':Heap} (hE:EnvOk Z nm env ρ O h) (hI:(none,I) ∈ O) (hk:∀ b o,b ≠ I→h.get? b = some o→h'.get? b = some o):Turned Z nm env xs (· = I) h h' :=
  .of_but hk (fun e=>(hE.apart _ hI).1 e.symm) fun n c hkd hc e=>(hE.apart _ hI).2 n c hkd hc e.symm
theorem mapE_cons {f:PyData→Option PyData} {d:PyData} {ds new:List PyData} {G:Prop} (h:mapE f (d :: ds) = some new) (k:∀ a b,f d = some a→mapE f ds = some b→new = a :: b→G):G :=
  bndK (o:=f d) h fun a ha h=>mapK h fun b hb e=>k a b ha hb e.symm
theorem mapE_length {f:PyData→Option PyData}:∀ {ds new:List PyData},mapE f ds = some new→new.length = ds.length
  | [],new,h=>by cases h; rfl
  | d :: ds,new,h=>mapE_cons h fun a b _ hb e=>e ▸ congrArg Nat.succ (mapE_length hb)
structure SeqAll (used:List Addr) (h:Heap):Prop where
  at_:∀ a ∈ used,∃ o vs n,h.get? a = some o ∧ o.data = .seq vs n ∧ o.cls ≠ .none
theorem SeqAll.turn {env:Env} {ρ:PEnv} {O:List (Option Nat × Addr)} {xs:List Nat} {X:Addr→Prop} {used:List Addr} {h h':Heap} (sq:SeqAll used h) (hE:EnvOk Z nm env ρ O h) (T:Turned Z nm env xs X h h') (hX:∀ b ∈ used,¬ X b):(∀ b ∈ used,∀ o,h.get? b = some o→h'.get? b = some o) ∧ SeqAll used h':=by
  have hu:∀ b ∈ used,∀ o,h.get? b = some o→h'.get? b = some o:=fun b hb o e=>by
    obtain ⟨o',vs,n,e',hd,hc⟩:=sq.at_ b hb
    cases e.symm.trans e'
    exact (T.keep b o e (.inl hc) (fun w=>(hE.wr_ge w).2.2 o vs n e hd) (hX b hb)).seq hd
  exact ⟨hu,⟨fun b hb=>let ⟨o',vs,n,e',r⟩:=sq.at_ b hb; ⟨o',vs,n,hu b hb o' e',r⟩⟩⟩
theorem loop_sound {elt iter:Expr} {tn:Str} {tp pos:Pos} {pe:PE} {x:Nat} (hnd:nm.Nodup) (hx:nm[x]? = some tn) (hl:lcl sc tn = true) (hse:SE Z cl lvl nm sc elt pe)
    {A:Around} {env:Env} {ρ:PEnv} {O:List (Option Nat × Addr)} {s:Shared} {acc:Addr} {new:List PyData} {es:List Nat} {R:Result→Shared→Prop} {I:Addr} {used:List Addr} {St:Nat→Heap→Prop} {ds:List PyData}
    (hA:AOk Z lvl A) (hs:ScOk sc env) (hf:NoFree sc env) (hE:EnvOk Z nm env ρ O s.heap) (hI:Inv Z s) (hna:Z.n ≤ acc) (hacc:(none,acc) ∈ O) (hfp:(none,I) ∈ O) (hit:Iter Z A I ds used St) (hst:St 0 s.heap)
    (hseq:SeqAll used s.heap) (hus:∀ yb ∈ O,yb.2 ∉ used) (haf:acc ≠ I) (hok:AccOk acc [] O es s.heap) (hdsok:okDs ds = true) (hdl:ds.length ≤ sizeLine) (hρ:lookV ρ x = none) (hes:∀ y ∈ esc pe,y ∈ es)
    (hev:mapE (fun d=>evE cl pe (ρ.set x (some d))) ds = some new)
    (hR:∀ s',Inv Z s'→Turned Z nm env [x] (fun b=>b = acc ∨ b = I) s.heap s'.heap→AccOk acc new O es s'.heap→R (.ok .next) s') :
    codeAny (model Z.prog Z.w) A (.compLoop (.ListComp elt [⟨.Name tn tp,iter,[],0⟩] sc pos) 0 (.ref I) (.ref acc) env) R s:=by
  let f:PyData→Option PyData:=fun d=>evE cl pe (ρ.set x (some d))
  let X:Addr→Prop:=fun b=>b = acc ∨ b = I
  have hXu:∀ b ∈ used,¬ X b:=fun b hb hx=>hx.elim (fun e=>hus _ hacc (e ▸ hb)) fun e=>hit.apart (e ▸ hb)
  have hXO:∀ b,X b→(none,b) ∈ O:=fun b hx=>hx.elim (fun e=>e ▸ hacc) fun e=>e ▸ hfp
  have liveX:∀ {h:Heap} {rr:List PyData} {j:Nat},AccOk acc rr O es h→St j h→∀ yb ∈ O,X yb.2→∃ o,h.get? yb.2 = some o ∧ o.cls ≠ .none:=fun ok st yb _ hx=>by
    rcases hx with e | e <;> rw [e]
    · obtain ⟨⟨vs,n,sl,as,e',_⟩,_⟩:=ok; exact ⟨_,e',nofun⟩
    · obtain ⟨o,e',c,_⟩:=hit.live _ _ st; exact ⟨o,e',c⟩
  have hρx:∀ y ∈ [x],lookV ρ y = none:=fun y hy=>List.mem_singleton.mp hy ▸ hρ
  let J:Nat→Shared→Prop:=fun n s'=>∃ k res' new',n = ds.length - k ∧ St k s'.heap ∧ Inv Z s' ∧ Turned Z nm env [x] X s.heap s'.heap ∧ AccOk acc res' O es s'.heap ∧ mapE f (ds.drop k) = some new' ∧ res' ++ new' = new ∧ SeqAll used s'.heap ∧ res'.length = k
  refine codeAny_turns J (fun n s₀ ⟨k,res',new',e0,st₀,I₀,T₀,ok₀,ev₀,hsum,sq₀,hlen⟩ E=>?_) ds.length ⟨0,[],new,rfl,hst,hI,Turned.of_kp hE (Kp.refl _ _),hok,hev,rfl,hseq,rfl⟩
  subst e0
  have E₀:EnvOk Z nm env ρ O s₀.heap:=hE.of_turned hnd T₀ hρx (liveX ok₀ st₀) hXO
  rcases hdr:ds.drop k with _ | ⟨d,r⟩
  ·
    rw [hdr] at ev₀
    cases ev₀
    rw [List.append_nil] at hsum
    subst hsum
    have hk:ds.length ≤ k:=List.drop_eq_nil_iff.mp hdr
    have hke:k = ds.length ∨ ds.length < k:=(Nat.eq_or_lt_of_le hk).imp Eq.symm id
    have hkl:k = ds.length:=hke.resolve_right fun h=>by
      have:=mapE_length (f:=f) (ds:=ds) (new:=res') hev
      omega
    refine hit.done s₀ _ _ (hkl ▸ st₀) I₀ fun s₁ I₁ kp₁=>hR s₁ I₁ (T₀.trans ((E₀.but hfp kp₁).mono (fun _ h=>h) fun _ h=>.inr h)) (ok₀.keep fun b o e _ _ hb=>kp₁ b o (fun e'=>?_) e)
    subst e'
    exact hb.elim (fun e=>haf e.symm) fun h=>h hfp
  ·
    have hlt:k < ds.length:=Nat.lt_of_not_le fun h=>by rw [List.drop_eq_nil_iff.mpr h] at hdr; cases hdr
    have hdk:ds[k]? = some d:=by rw [← Nat.add_zero k,← List.getElem?_drop,hdr]; rfl
    have hdr1:ds.drop (k + 1) = r:=by rw [← List.drop_drop,hdr]; rfl
    rw [hdr] at ev₀
    have hokd:okD d = true:=okDs_get hdsok hdk
    refine mapE_cons ev₀ fun a b hfa hfb e=>hit.step k d s₀ _ E hdk st₀ I₀ fun v bs s₁ I₁ kp₁ r₁ hbs st₁=>?_
    subst e
    have ok₁:AccOk acc res' O es s₁.heap:=ok₀.keep fun b o e _ _ hb=>kp₁ b o (fun e'=>by subst e'; exact hb.elim (fun e=>haf e.symm) fun h=>h hfp) e
    have TI:=(E₀.but (xs:=[x]) hfp kp₁).mono (Y:=X) (fun _ h=>h) fun _ h=>.inr h
    have E₁:EnvOk Z nm env ρ O s₁.heap:=E₀.of_turned hnd TI hρx (liveX ok₁ st₁) hXO
    have sq₁:=(sq₀.turn E₀ TI hXu).2
    refine bind_name hnd hx hl hs hf E₁ I₁ r₁ hokd (fun yb hy hm=>hus yb hy (hbs _ hm)) fun s₂ I₂ E₂ T₂=>hse ⟨hA,hs,E₂,I₂⟩ hfa fun w cs s₃ I₃ k₃ r₃ ok₃' o₃=>?_
    have T₁₃:Turned Z nm env [x] (fun _=>False) s₁.heap s₃.heap:=T₂.trans (.of_kp E₂ k₃)
    have ok₃:AccOk acc res' O es s₃.heap:=ok₁.keep fun b o e ⟨vs,n,hd⟩ hc _=>(T₁₃.keep b o e (.inl hc) (fun w=>(E₁.wr_ge w).2.2 o vs n e hd) id).seq hd
    refine ok₃.push hna hacc I₃ r₃ ok₃' (fun yb hy hm=>let ⟨y,h1,h2⟩:=o₃ yb hy hm; ⟨y,hes y h1,h2⟩) (by omega) fun s₄ I₄ ok₄ hk₄=>?_
    have T₀₄:Turned Z nm env [x] X s₀.heap s₄.heap:=(TI.trans (T₁₃.mono (fun _ h=>h) fun _ h=>h.elim)).trans (((E₂.kp k₃).but hacc hk₄).mono (fun _ h=>h) fun _ h=>.inl h)
    obtain ⟨hu,sq₄⟩:=sq₀.turn E₀ T₀₄ hXu
    obtain ⟨o,eI,cI,dI⟩:=hit.live _ _ st₁
    have hI₄:∀ o,s₁.heap.get? I = some o→s₄.heap.get? I = some o:=fun o e=>hk₄ I o (fun e=>haf e.symm) ((k₃.k I o ((T₂.keep I o e (.inl (by cases eI.symm.trans e; exact cI)) (E₁.out (yb:=(none,I)) hfp) id).nd (by cases eI.symm.trans e; exact dI)) (.inl (by cases eI.symm.trans e; exact cI))).nd (by cases eI.symm.trans e; exact dI))
    have hu₁:=(sq₁.turn E₁ ((T₁₃.mono (Y:=X) (fun _ h=>h) fun _ h=>h.elim).trans (((E₂.kp k₃).but hacc hk₄).mono (fun _ h=>h) fun _ h=>.inl h)) hXu).1
    exact ⟨ds.length - (k + 1),by omega,k + 1,res' ++ [a],b,rfl,hit.frame _ _ _ st₁ fun b hb o e=>hb.elim (fun hb=>by subst hb; exact hI₄ o e) fun hb=>hu₁ b hb o e,I₄,T₀.trans T₀₄,ok₄,by rw [hdr1]; exact hfb,by rw [List.append_assoc]; exact hsum,sq₄,by rw [List.length_append,hlen]; rfl⟩
end
end Kt
end
section
open PySem PySem.W PyProof.Rows
namespace Kt
section
variable {β:Type} {m n:Str} {k b:β} {r l:List (Str × β)}
theorem lk_eq:((m,k) :: r).lookup m = some k:=by rw [List.lookup_cons,beq_self_eq_true]
theorem lk_ne (h:n ≠ m):((m,k) :: r).lookup n = r.lookup n:=by rw [List.lookup_cons,beq_false_of_ne h]
theorem mem_lk:∀ {l:List (Str × β)},l.lookup n = some b→(n,b) ∈ l
  | [],h=>nomatch h
  | (m,k) :: r,h=>by
    by_cases e:n = m
    · subst e; rw [lk_eq] at h; cases h; exact List.mem_cons_self
    · rw [lk_ne e] at h; exact List.mem_cons_of_mem _ (mem_lk h)
theorem lk_mem:∀ {l:List (Str × β)},(l.map (·.1)).Nodup→(n,b) ∈ l→l.lookup n = some b
  | (m,k) :: r,hnd,h=>by
    rw [List.map_cons,List.nodup_cons] at hnd
    rcases List.mem_cons.mp h with e | h
    · cases e; exact lk_eq
    · rw [lk_ne (show n ≠ m from fun e=>hnd.1 (by rw [← e]; exact List.mem_map_of_mem (f:=(·.1)) h))]; exact lk_mem hnd.2 h
end
noncomputable def closFrom (env:Env):List (Str × NameKind)→List (Str × Addr)→List (Str × Addr)
  | [],acc=>acc
  | (n,k) :: r,acc=>if k == .free then closFrom env r ((n,(env.cells.lookup n).getD 0) :: acc) else closFrom env r acc
theorem closure_loop {env:Env} (f:Str × NameKind→List (Str × Addr)→Sem (ForInStep (List (Str × Addr))))
    (hf:∀ n k cs,f (n,k) cs = if (k == .free) = true then (do let a ← cellOf env n; pure (.yield ((n,a) :: cs))) else pure (.yield cs)) :
    ∀ (names:List (Str × NameKind)) (acc:List (Str × Addr)),(∀ n,(n,NameKind.free) ∈ names→∃ c,env.cells.lookup n = some c)→(forIn names acc f:Sem (List (Str × Addr))) = pure (closFrom env names acc)
  | [],acc,_=>by rw [List.forIn_nil]; rfl
  | (n,k) :: r,acc,h=>by
    rw [List.forIn_cons,hf]
    have hr:∀ m,(m,NameKind.free) ∈ r→∃ c,env.cells.lookup m = some c:=fun m hm=>h m (List.mem_cons_of_mem _ hm)
    unfold closFrom
    by_cases hk:(k == .free) = true
    · cases eq_of_beq hk
      obtain ⟨c,hc⟩:=h n List.mem_cons_self
      rw [if_pos hk,if_pos hk]
      unfold cellOf
      rw [hc]
      exact closure_loop f hf r _ hr
    · rw [if_neg hk,if_neg hk]
      exact closure_loop f hf r _ hr
theorem closureFor_eq {env:Env} {scope:Scope} (h:∀ n,(n,NameKind.free) ∈ scope.names→∃ c,env.cells.lookup n = some c):closureFor scope env = pure (closFrom env scope.names []):=by
  simp only [closureFor]
  rw [closure_loop (env:=env) _ (fun n k cs=>by cases k <;> rfl) scope.names [] h]
  rfl
theorem closFrom_lookup {env:Env} {n:Str}:∀ (names:List (Str × NameKind)) (acc:List (Str × Addr)),(names.map (·.1)).Nodup→(∀ n,(n,NameKind.free) ∈ names→∃ c,env.cells.lookup n = some c) →
    (names.lookup n = some .free→(closFrom env names acc).lookup n = env.cells.lookup n) ∧ (names.lookup n ≠ some .free→(closFrom env names acc).lookup n = acc.lookup n)
  | [],acc,_,_=>⟨nofun,fun _=>rfl⟩
  | (m,k) :: r,acc,hnd,h=>by
    rw [List.map_cons,List.nodup_cons] at hnd
    have ih:=fun acc=>closFrom_lookup (n:=n) r acc hnd.2 fun m hm=>h m (List.mem_cons_of_mem _ hm)
    unfold closFrom
    by_cases e:n = m
    · subst e
      have no:r.lookup n ≠ some .free:=fun h=>hnd.1 (List.mem_map_of_mem (f:=(·.1)) (mem_lk h))
      rw [lk_eq]
      by_cases hk:(k == .free) = true
      · cases eq_of_beq hk
        obtain ⟨c,hc⟩:=h n List.mem_cons_self
        rw [if_pos hk,(ih _).2 no,lk_eq,hc]
        exact ⟨fun _=>rfl,fun h=>absurd rfl h⟩
      · rw [if_neg hk,(ih _).2 no]
        exact ⟨fun h=>absurd (by rw [Option.some.inj h]; rfl) hk,fun _=>rfl⟩
    · rw [lk_ne e]
      by_cases hk:(k == .free) = true
      · rw [if_pos hk]
        exact ⟨(ih _).1,fun h=>((ih _).2 h).trans (lk_ne e)⟩
      · rw [if_neg hk]
        exact ih _
theorem noCells:∀ {names:List (Str × NameKind)} (h:Heap) (N:Nat) (acc:List (Str × Addr)),(∀ p ∈ names,p.2 ≠ .cell)→cellsFrom N names acc = acc ∧ pushCells h names = h
  | [],_,_,_,_=>⟨rfl,rfl⟩
  | (n,k) :: r,h,N,acc,hc=>by
    have hk:¬ (k == NameKind.cell) = true:=fun e=>hc _ List.mem_cons_self (eq_of_beq e)
    unfold cellsFrom pushCells
    rw [if_neg hk,if_neg hk]
    exact noCells h N acc fun p hp=>hc p (List.mem_cons_of_mem _ hp)
noncomputable def rk (env:Env) (n:Str) (k:NameKind):NameKind:=if (k == .free && env.scope.kind == .function && env.kindOf n == some .cell) then .cell else k
theorem rk_other {env:Env} {n:Str} {k:NameKind} (h:k ≠ .free):rk env n k = k:=if_neg fun e=>h (eq_of_beq (andT (andT e).1).1)
theorem rk_free (env:Env) (n:Str):rk env n .free = .cell ∨ rk env n .free = .free:=by
  unfold rk
  cases (NameKind.free == .free && env.scope.kind == .function && env.kindOf n == some .cell)
  · exact .inr rfl
  · exact .inl rfl
theorem lookup_relabel (env:Env) (n:Str):∀ (names:List (Str × NameKind)),
    (names.map fun (n,k)=>if (k == NameKind.free && env.scope.kind == .function && env.kindOf n == some .cell) then (n,NameKind.cell) else (n,k)).lookup n = (names.lookup n).map (rk env n)
  | []=>rfl
  | (m,k) :: r=>by
    have e1:(match (m,k) with | (n,k)=>if (k == NameKind.free && env.scope.kind == .function && env.kindOf n == some .cell) = true then (n,NameKind.cell) else (n,k)) = (m,rk env m k):=by
      show (if (k == NameKind.free && env.scope.kind == .function && env.kindOf m == some .cell) = true then (m,NameKind.cell) else (m,k)) = _
      unfold rk
      cases (k == NameKind.free && env.scope.kind == .function && env.kindOf m == some .cell) <;> rfl
    rw [List.map_cons,e1]
    by_cases e:n = m
    · subst e; rw [lk_eq,lk_eq]; rfl
    · rw [lk_ne e,lk_ne e]; exact lookup_relabel env n r
section
variable {Z:Zone} {cl:Nat→List PyData→Option PyData} {lvl:Nat} {nm:List Str} {fn:List Str} {sc:Scope}
structure ScopeFacts (nm:List Str) (sc scope:Scope) (x:Nat):Prop where
  kind:scope.kind = .function
  nodup:(scope.names.map (·.1)).Nodup
  nmnd:nm.Nodup
  dot:(".0" : Str) ∉ nm
  free:∀ n,scope.names.lookup n = some .free→sc.names.lookup n = some .cell ∨ sc.names.lookup n = some .free
  own:∀ n,scope.names.lookup n = some .local→n = ".0" ∨ nm[x]? = some n
  nocell:∀ p ∈ scope.names,p.2 ≠ .cell
theorem scopeFacts {scope:Scope} {x:Nat} (h:scopeOk nm sc scope x = true):ScopeFacts nm sc scope x:=by
  obtain ⟨h1,h⟩:=andT h
  obtain ⟨h2,h⟩:=andT h
  obtain ⟨h3,h⟩:=andT h
  obtain ⟨h4,h⟩:=andT h
  have h6:=List.all_eq_true.mp h
  refine ⟨eq_of_beq h1,of_decide_eq_true h2,of_decide_eq_true h3,fun hm=>?_,fun n hn=>?_,fun n hn=>?_,fun p hp e=>?_⟩
  · rw [List.contains_iff_mem.mpr hm] at h4; cases h4
  · exact (Bool.or_eq_true_iff.mp (h6 _ (mem_lk hn))).imp eq_of_beq eq_of_beq
  · exact (Bool.or_eq_true_iff.mp (h6 _ (mem_lk hn))).imp eq_of_beq eq_of_beq
  · have:=h6 p hp
    obtain ⟨n,k⟩:=p
    cases e
    cases this
theorem frame_new {scope:Scope} {env:Env} {ρ:PEnv} {O:List (Option Nat × Addr)} {s:Shared} {x:Nat} {M:Model} {A:Around} {E:Value→Shared→Prop} {Q:Env→Shared→Prop} (F:ScopeFacts nm sc scope x) (hs:ScOk sc env) (hE:EnvOk Z nm env ρ O s.heap) (hI:Inv Z s)
    (hfc:∀ n,(n,NameKind.free) ∈ scope.names→∃ c,env.cells.lookup n = some c)
    (hQ:∀ (cenv:Env) s',ScOk scope { cenv with scope:=relabel scope env }→NoFree scope { cenv with scope:=relabel scope env }→EnvOk Z nm { cenv with scope:=relabel scope env } (ρ.set x none) O s'.heap→Inv Z s' →
      (∀ b o,s.heap.get? b = some o→s'.heap.get? b = some o)→cenv.locals = s.heap.objs.size→(∀ n,lcl scope n = true→¬ cf { cenv with scope:=relabel scope env } n)→Q cenv s') :
    wpAny M A (newFunctionEnv scope env.globals (closFrom env scope.names []) [] env.qual none .none (some env)) Q E s:=by
  have hfk:∀ n,scope.names.lookup n = some .free→cf env n:=fun n hn=>hs.2.1 n (F.free n hn)
  simp only [newFunctionEnv,Option.isSome_some,if_true]
  refine wpAny_bind (wpAny_alloc ?_)
  refine wpAny_bind (wpAny_layCells _ (fun name kind cells=>by cases kind <;> rfl) _ _ _ _ ?_)
  rw [(noCells s.heap _ _ F.nocell).1,(noCells _ 0 [] F.nocell).2]
  refine wpAny_bind (m:=forIn [] _ _) ?_
  rw [List.forIn_nil]
  refine wpAny_pure (wpAny_pure ?_)
  have hkeep:∀ b o,s.heap.get? b = some o→(s.heap.push { cls:=.type "dict",data:=.dict #[] }).get? b = some o:=fun b o e=>Heap.get?_push_of_some _ e
  generalize hcells:closFrom env scope.names [] = cells
  have hcl:∀ n,scope.names.lookup n = some .free→cells.lookup n = env.cells.lookup n:=fun n hn=>hcells ▸ (closFrom_lookup scope.names [] F.nodup hfc).1 hn
  have hkind:∀ n:Str,Env.kindOf { scope:=relabel scope env,locals:=s.heap.objs.size,globals:=env.globals,cells:=cells,qual:=env.qual,func:=none,code:=env.code,frame:=env.frame,builtins:=env.builtins } n = (scope.names.lookup n).map (rk env n):=fun n=>lookup_relabel env n scope.names
  have nocell:∀ n,scope.names.lookup n ≠ some .cell:=fun n h=>F.nocell _ (mem_lk h) rfl
  have hcf:∀ n:Str,cf { scope:=relabel scope env,locals:=s.heap.objs.size,globals:=env.globals,cells:=cells,qual:=env.qual,func:=none,code:=env.code,frame:=env.frame,builtins:=env.builtins } n→scope.names.lookup n = some .free:=fun n h=>by
    unfold cf at h
    rw [hkind] at h
    have:=nocell n
    generalize scope.names.lookup n = o at h this
    cases o with
    | none=>exact h.elim nofun nofun
    | some k =>
      by_cases hk:k = .free
      · rw [hk]
      · rw [Option.map_some,rk_other hk] at h
        exact h.elim (fun h=>absurd h this) fun h=>h
  have hloc:∀ n,lcl scope n = true→scope.names.lookup n = some .local:=fun n h=>(Bool.or_eq_true_iff.mp h).elim eq_of_beq fun h=>absurd (eq_of_beq h) (nocell n)
  have hfree:∀ n,scope.names.lookup n = some .free→(scope.names.lookup n).map (rk env n) = some .cell ∨ (scope.names.lookup n).map (rk env n) = some .free:=fun n hn=>by rw [hn]; exact (rk_free env n).imp (congrArg some) (congrArg some)
  have hl:∀ n,scope.names.lookup n = some .local→(scope.names.lookup n).map (rk env n) = some .local:=fun n hn=>by rw [hn,Option.map_some,rk_other (k:=.local) nofun]
  refine hQ _ _ ⟨fun n hn=>(hkind n).trans (hl n hn),fun n hn=>hn.elim (fun h=>absurd h (nocell n)) fun h=>by rw [hkind]; exact hfree n h,fun n hn=>by rw [hkind,hn,Option.map_some,rk_other (k:=.globalImplicit) nofun]⟩ (fun n hn=>by rw [hkind,hl n (hloc n hn)]; nofun) ?_ (hI.full (tk:=s.toks) hkeep) hkeep rfl fun n h h'=>by have:=hcf n h'; rw [hloc n h] at this; cases this
  exact {
    kind:=F.kind
    glob:=hE.glob
    blt:=hE.blt
    new:=hE.size
    ns:=⟨_,Heap.Ns.new s.heap (.type "dict")⟩
    live:=fun yb hy=>let ⟨o,e,c⟩:=hE.live yb hy; ⟨o,hkeep _ _ e,c⟩
    apart:=fun yb hy=>⟨fun e=>absurd (hE.lt yb hy) (by rw [show yb.2 = s.heap.objs.size from e]; exact Nat.lt_irrefl _),fun n c hk hc=>(hE.apart yb hy).2 n c (hfk n (hcf n hk)) ((hcl n (hcf n hk)).symm.trans hc)⟩
    cells:=fun n hk=>let ⟨c,v,h5,h6,h7⟩:=hE.cells n (hfk n (hcf n hk)); ⟨c,v,(hcl n (hcf n hk)).trans h5,h6,h7.keeps hkeep⟩
    inj:=fun n m c hn hm cn cm=>hE.inj n m c (hfk n (hcf n hn)) (hfk m (hcf m hm)) ((hcl n (hcf n hn)).symm.trans cn) ((hcl m (hcf m hm)).symm.trans cm)
    vars:=fun y d n h1 h2 h3=>by
      have hnx:scope.names.lookup n = some .free:=by
        rcases h3 with h3 | h3
        · have h3':=(hkind n).symm.trans h3
          have hloc:scope.names.lookup n = some .local:=by
            generalize hg:scope.names.lookup n = o at h3'
            cases o with
            | none=>cases h3'
            | some k =>
              by_cases hk:k = .free
              · subst hk
                exact (rk_free env n).elim (fun e=>by rw [Option.map_some,e] at h3'; cases h3') fun e=>by rw [Option.map_some,e] at h3'; cases h3'
              · rwa [Option.map_some,rk_other hk] at h3'
          rcases F.own n hloc with e | e
          · exact absurd (List.mem_of_getElem? h2) (e ▸ F.dot)
          · cases name_inj F.nmnd e h2
            rw [lookV_none] at h1; cases h1
        · exact hcf n h3
      obtain ⟨v,as,a,r,hd,ho⟩:=hE.vars y d n (lookV_hid h1) h2 (.inr (hfk n hnx))
      refine ⟨v,as,.inr ⟨by rw [hkind]; exact hfree n hnx,?_⟩,r.map fun b o _ e _=>hkeep b o e,hd,ho⟩
      rcases a with ⟨h4,_⟩ | ⟨h4,c,h5,h6⟩
      · exact (hfk n hnx).elim (fun h=>nomatch h4.symm.trans h) fun h=>nomatch h4.symm.trans h
      · exact ⟨c,(hcl n hnx).trans h5,h6.keeps hkeep⟩ }
end
end Kt
end
section
open PySem PySem.W PyProof.Rows
namespace Kt
section
variable {Z:Zone} {cl:Nat→List PyData→Option PyData} {lvl:Nat} {nm:List Str} {fn:List Str} {sc:Scope}
theorem comp_any {elt iter:Expr} {tn:Str} {tp pos:Pos} {scope:Scope} {pe:PE} {x:Nat} {i:PI} (F:ScopeFacts nm sc scope x) (hx:nm[x]? = some tn) (hl:lcl scope tn = true) (hset:isSetE iter = false) (hi:SI Z cl lvl nm sc iter i) (he:SE Z cl lvl nm scope elt pe)
    {A:Around} {env:Env} {ρ:PEnv} {O:List (Option Nat × Addr)} {s:Shared} {d:PyData} {Q:Value→Shared→Prop} {E:Value→Shared→Prop} {use:Option (Value→Sem Unit)} (X:Cx Z lvl nm sc A env ρ O s) (hd:evE cl (.comp pe x i) ρ = some d)
    (gt:∀ acc C s' as,Inv Z s'→Kp Z.n s.heap s'.heap→Rd s'.heap (.ref acc) d (acc :: as)→okD d = true→(∀ yb ∈ O,yb.2 ∈ acc :: as→InO yb.1 (esc (.comp pe x i)))→s.heap.get? C = none→s.heap.get? acc = none→Z.n ≤ C→Z.n ≤ acc→(∃ m,s'.heap.Ns C m) →
      compPost (model Z.prog Z.w) A E use Q (.ref acc) C (.ok .next) s') :
    wpAny (model Z.prog Z.w) A (comprehension (.ListComp elt [⟨.Name tn tp,iter,[],0⟩] scope pos) scope env (firstIterPos [⟨.Name tn tp,iter,[],0⟩] pos) (newList []) (firstAsync [⟨.Name tn tp,iter,[],0⟩]) (firstIter [⟨.Name tn tp,iter,[],0⟩] env) use) Q E s :=
  bndK hd fun ds hds hd=>mapK hd fun new hnew e=>by
  subst e
  have hE:=X.he
  have hfree:∀ n,(n,NameKind.free) ∈ scope.names→∃ c,env.cells.lookup n = some c:=fun n hm=>let ⟨c,_,h1,_⟩:=hE.cells n (X.hs.2.1 n (F.free n (lk_mem F.nodup hm))); ⟨c,h1⟩
  refine wpAny_comprehension_free rfl (folded_of hset env) (closureFor_eq hfree) F.kind (fun p hp hl=>lk_mem F.nodup (by rw [← hl]; exact hp)) (hi X hds fun I used St s₁ S=>wpAny_newList (items:=[]) ?_ (by decide))
  generalize hg:s₁.heap.objs.size = acc
  generalize hh:s₁.heap.push { cls:=.type "list",data:=.seq (List.toArray ([]:List Value)) } = h₂
  have hgacc:h₂.get? acc = some { cls:=.type "list",data:=.seq #[] }:=by rw [← hh,← hg]; exact Heap.get?_push_size _ rfl
  have hpk:∀ b o,s₁.heap.get? b = some o→h₂.get? b = some o:=fun b o e=>by rw [← hh]; exact Heap.get?_push_of_some _ e
  have hna:Z.n ≤ acc:=hg ▸ (hE.kp S.kp).size
  have hone:s₁.heap.get? acc = none:=get?_ge (Nat.le_of_eq hg)
  have E₁:EnvOk Z nm env ρ (reserve I O (escPI i)) s₁.heap:=hE.reserve S.kp S.fresh (let ⟨o,e,c,_⟩:=S.iter.live _ _ S.start; ⟨o,e,c⟩)
  have E₂:EnvOk Z nm env ρ (reserve acc (reserve I O (escPI i)) []) h₂:=E₁.reserve (Kp.of hpk) hone ⟨_,hgacc,nofun⟩
  have haI:acc ≠ I:=fun e=>by obtain ⟨o,e',_⟩:=S.iter.live _ _ S.start; rw [← e,hone] at e'; cases e'
  have hIO:(none,I) ∈ reserve acc (reserve I O (escPI i)) []:=reserve_none List.mem_cons_self
  have usNo:∀ b ∈ used,∀ o,s₁.heap.get? b = some o→b ≠ acc:=fun b _ o e e'=>by rw [e',hone] at e; cases e
  have hus:∀ yb ∈ reserve acc (reserve I O (escPI i)) [],yb.2 ∉ used:=fun yb hy hm=>(mem_reserve hy).elim (fun e=>by
    subst e
    obtain ⟨o,_,_,e',_⟩:=S.seq _ hm
    exact usNo _ hm _ e' rfl) fun h=>(mem_reserve h.1).elim (fun e=>by subst e; exact S.iter.apart hm) fun h=>h.2 (S.own yb h.1 hm)
  refine frame_new F X.hs (s:={ s₁ with heap:=h₂ }) E₂ (S.inv.full (tk:=s₁.toks) hpk) hfree fun cenv s₃ hs₃ hf₃ E₃ I₃ hk₃ hloc hncf=>?_
  have hk₁₃:∀ b o,s₁.heap.get? b = some o→s₃.heap.get? b = some o:=fun b o e=>hk₃ b o (hpk b o e)
  have st₃:St 0 s₃.heap:=S.iter.frame 0 _ _ S.start fun b _ o e=>hk₁₃ b o e
  have sq₃:SeqAll used s₃.heap:=⟨fun a ha=>let ⟨o,vs,n,e,r⟩:=S.seq a ha; ⟨o,vs,n,hk₁₃ _ _ e,r⟩⟩
  have ok₃:AccOk acc [] (reserve acc (reserve I O (escPI i)) []) (esc pe ++ escPI i) s₃.heap:=⟨⟨#[],0,#[],[],hk₃ _ _ hgacc,.nil,nofun⟩,rfl⟩
  have hnl:=mapE_length hnew
  have old:∀ b o,s.heap.get? b = some o→b ≠ acc ∧ b ≠ I ∧ ¬ Wr nm { cenv with scope:=relabel scope env } [x] b:=fun b o e=>by
    have hb:b < acc:=by
      rcases Nat.lt_or_ge b Z.n with h | h
      · exact Nat.lt_of_lt_of_le h hna
      · exact hg ▸ (S.kp.k b o e (.inr h)).lt
    refine ⟨Nat.ne_of_lt hb,(fun e'=>by rw [e',S.fresh] at e; cases e),fun w=>?_⟩
    rcases w with w | ⟨y,hy,n,hn,hk,_⟩
    · have:acc < h₂.objs.size:=Heap.lt_size hgacc
      rw [show b = cenv.locals from w,hloc] at hb
      exact absurd hb (Nat.not_lt.mpr (Nat.le_of_lt this))
    · cases List.mem_singleton.mp hy
      cases hx.symm.trans hn
      exact hncf _ hl hk
  have fin:∀ s',Inv Z s'→Turned Z nm { cenv with scope:=relabel scope env } [x] (fun b=>b = acc ∨ b = I) s₃.heap s'.heap→AccOk acc new (reserve acc (reserve I O (escPI i)) []) (esc pe ++ escPI i) s'.heap →
      compPost (model Z.prog Z.w) A E use Q (.ref acc) cenv.locals (.ok .next) s':=fun s' I' T ok'=>by
    obtain ⟨⟨vs,n,sl,as,e,r,ho⟩,okd⟩:=ok'
    refine gt acc cenv.locals s' as I' ⟨fun b o e c=>?_⟩ (.list e ⟨rfl,rfl⟩ rfl r) (okL' (hnl ▸ S.len) okd) (fun yb hy hm=>?_) ?_ ?_ ?_ hna (T.ns E₃.ns)
    · obtain ⟨g1,g2,g3⟩:=old b o e
      exact (S.kp.k b o e c).next fun o' e' hcc=>T.keep b o' (hk₁₃ b o' e') (by rw [hcc]; exact c) g3 fun h=>h.elim g1 g2
    · rcases List.mem_cons.mp hm with h | hm
      · obtain ⟨o,e,c⟩:=hE.live yb hy
        exact absurd h (old _ _ e).1
      · rcases reserve_old (I:=I) (es:=escPI i) hy with h | h
        · exact (reserve_old (I:=acc) (es:=[]) h).elim (fun h=>ho yb h hm) fun ⟨_,h1,_⟩=>nomatch h1
        · exact h.r
    · cases e':s.heap.get? cenv.locals with
      | none=>rfl
      | some o=>exact absurd (.inl rfl) (old cenv.locals o e').2.2
    · exact S.kp.none hna hone
    · rw [hloc]
      exact Nat.le_trans hna (Nat.le_of_lt (Heap.lt_size hgacc))
  have loop:∀ R:Result→Shared→Prop,(∀ s',compPost (model Z.prog Z.w) A E use Q (.ref acc) cenv.locals (.ok .next) s'→R (.ok .next) s')→codeAny (model Z.prog Z.w) A (.compLoop (.ListComp elt [⟨.Name tn tp,iter,[],0⟩] scope pos) 0 (.ref I) (.ref acc) { cenv with scope:=relabel scope env }) R s₃:=fun R hR =>
    loop_sound F.nmnd hx hl he X.ha hs₃ hf₃ E₃ I₃ hna List.mem_cons_self hIO S.iter st₃ sq₃ hus haI ok₃ S.ok S.len (lookV_none ρ x) (fun y hy=>List.mem_append_left _ hy) hnew fun s' I' T ok'=>hR s' (fin s' I' T ok')
  exact codeAny_start (loop _ fun _ h=>h) (S.iter.again 0 s₃ _ _ st₃ (loop _ fun _ h=>h))
theorem se_comp {elt iter:Expr} {tn:Str} {tp pos:Pos} {scope:Scope} {pe:PE} {x:Nat} {i:PI} (F:ScopeFacts nm sc scope x) (hx:nm[x]? = some tn) (hl:lcl scope tn = true) (hset:isSetE iter = false) (hi:SI Z cl lvl nm sc iter i) (he:SE Z cl lvl nm scope elt pe) :
    SE Z cl lvl nm sc (.ListComp elt [⟨.Name tn tp,iter,[],0⟩] scope pos) (.comp pe x i):=fun {A env ρ O s d Q E} X hd gt=>by
  rw [eval_ListComp]
  refine comp_any F hx hl hset hi he X hd fun acc C s' as I' k r okd ho hC hacc hnC hna ⟨m,hm⟩=>⟨m,hm,fun h' hs'=>gt (.ref acc) (acc :: as) _ (I'.same hnC hs' (fun h=>absurd h (X.hi.notFr hC)) s'.toks) ⟨fun b o e c=>(k.k b o e c).then fun o' e'=>(hs'.2 b fun e''=>by rw [e'',hC] at e; cases e).trans e'⟩ (r.map fun a o ha e _=>?_) okd ho⟩
  obtain ⟨o',xs,n',e',hd',_⟩:=r.objs a ha
  cases e.symm.trans e'
  exact (hs'.2 a fun e''=>ns_not_seq hm (e'' ▸ e) hd').trans e
end
end Kt
end
section
open PySem PySem.W PyProof.Rows
namespace Kt
section
variable {Z:Zone} {cl:Nat→List PyData→Option PyData} {lvl:Nat} {nm:List Str} {fn:List Str}
noncomputable def SB (Z:Zone) (cl:Nat→List PyData→Option PyData) (lvl:Nat) (nm:List Str) (sc:Scope) (p:PE) (e:Expr):Prop:=SE Z cl lvl nm sc e p ∧ ST Z cl lvl nm sc e p
theorem SB.of {e:Expr} {p:PE} {sc:Scope} (h:SE Z cl lvl nm sc e p) (hw:∀ env,isTrue e env (eval e env) = (do let v ← eval e env; standAt e.pos; holding [v] (truthy v))):SB Z cl lvl nm sc p e:=⟨h,st_of_se h hw⟩
theorem st_last {q:Bool} {b:PE} {y:Expr} {sc:Scope} (h:ST Z cl lvl nm sc y b) {A:Around} {env:Env} {ρ:PEnv} {O:List (Option Nat × Addr)} {s:Shared} {d:PyData} {t:Bool} {Q:Bool→Shared→Prop} {E:Value→Shared→Prop}
    (X:Cx Z lvl nm sc A env ρ O s) (hd:evE cl b ρ = some d) (ht:truthD d = some t) (hQ:∀ s',Inv Z s'→Kp Z.n s.heap s'.heap→Q t s'):wpAny (model Z.prog Z.w) A (allTrue (opOf q) [y] env) Q E s:=by
  rw [arm_allTrue_cons]
  refine wpAny_bind (h X hd ht fun s₁ I₁ k₁=>?_)
  have:=hQ s₁ I₁ k₁
  cases q <;> cases t <;> exact wpAny_pure this
theorem sb_bool1 {q:Bool} {a b:PE} {x y:Expr} {pos:Pos} {sc:Scope} (i1:SB Z cl lvl nm sc a x) (i2:SB Z cl lvl nm sc b y):SB Z cl lvl nm sc (.bool q a b) (.BoolOp (opOf q) [x,y] pos) :=
  ⟨se_bool (rest:=[y]) (pos:=pos) (fun _=>⟨_,_,rfl⟩) i1.1 fun {A env ρ O s d Q E} X hd g=>i2.1 (A:=A) (env:=env) (Q:=Q) (E:=E) X hd g,st_bool i1.2 (st_last i2.2)⟩
theorem sb_bool2 {q:Bool} {a b:PE} {x y z:Expr} {r:List Expr} {pos:Pos} {sc:Scope} (i1:SB Z cl lvl nm sc a x) (i2:SB Z cl lvl nm sc b (.BoolOp (opOf q) (y :: z :: r) pos)):SB Z cl lvl nm sc (.bool q a b) (.BoolOp (opOf q) (x :: y :: z :: r) pos) :=
  ⟨se_bool (rest:=y :: z :: r) (pos:=pos) (fun _=>⟨_,_,rfl⟩) i1.1 fun {A env ρ O s d Q E} X hd g=>i2.1 (A:=A) (env:=env) (Q:=Q) (E:=E) X hd g,st_bool i1.2 fun {A env ρ O s d t Q E} X hd ht hQ=>i2.2 (A:=A) (env:=env) (Q:=Q) (E:=E) X hd ht hQ⟩
theorem bool_at {q:Bool} {a b:PE} {sc:Scope} {e:Expr} (ha:∀ e,chkE fn nm sc a e = true→SB Z cl lvl nm sc a e) (hb:∀ e,chkE fn nm sc b e = true→SB Z cl lvl nm sc b e) (h:chkE fn nm sc (.bool q a b) e = true):SB Z cl lvl nm sc (.bool q a b) e:=by
  apply onBoolOpK h; intro op xs pos h
  refine andK h fun hz h=>?_; have hz:=eq_of_beq hz; subst hz
  apply onCK h; intro x r h
  refine andK h fun h1 h=>?_
  apply onCK h; intro y r' h
  cases r' with
  | nil=>exact sb_bool1 (ha _ h1) (hb _ h)
  | cons z r=>exact sb_bool2 (ha _ h1) (hb _ h)
theorem comp_at {elt:PE} {x:Nat} {i:PI} {sc:Scope} {e:Expr} {m:Expr→Prop} (h:chkE fn nm sc (.comp elt x i) e = true) (k:∀ el iter tn tp scope pos,ScopeFacts nm sc scope x→nm[x]? = some tn→lcl scope tn = true→isSetE iter = false→chkI fn nm sc i iter = true→chkE fn nm scope elt el = true→m (.ListComp el [⟨.Name tn tp,iter,[],0⟩] scope pos)):m e:=by
  apply onListCompK h; intro el gens scope pos h
  apply on1K h; intro c h
  apply onCompK h; intro target iter ifs az h
  refine andK h fun z h=>?_; apply beqK z
  refine andK h fun z h=>?_; apply nilK z
  refine andK h fun h1 h=>andK h fun h2 h=>andK h fun h3 h=>andK h fun h4 h5=>?_
  apply onNameK h4; intro tn tp h4
  exact k el iter tn tp scope pos (scopeFacts h2) (eq_of_beq (andT h4).1) (andT h4).2 (notT h1) h3 h5
theorem call_at {es:PEs} {as:List Expr} {sc:Scope} (h:(decide (plen es ≠ 0) && chkEs fn nm sc es as) = true):as ≠ [] ∧ PlainArgs as ∧ chkEs fn nm sc es as = true:=by
  obtain ⟨h1,h2⟩:=andT h
  obtain ⟨h3,h4⟩:=chkEs_plain h2
  exact ⟨fun e=>of_decide_eq_true h1 (by rw [← h4,e]; rfl),h3,h2⟩
mutual
theorem soundE (hB:BiOk Z) (hC:CallOk Z lvl fn cl):∀ (p:PE) (sc:Scope) (e:Expr),chkE fn nm sc p e = true→SB Z cl lvl nm sc p e
  | .lit d,sc,e,h=>by
    apply onConstantK h; intro c k p h
    exact .of (se_lit (eq_of_beq h)) fun _=>rfl
  | .var x,sc,e,h=>by
    apply onNameK h; intro n p h
    exact .of (se_var (eq_of_beq (andT (andT (andT h).1).1).1) (andT (andT (andT h).1).1).2 (bne_iff_ne.mp (andT (andT h).1).2) (bne_iff_ne.mp (andT h).2)) fun _=>rfl
  | .neg a,sc,e,h=>by
    apply onUnaryOpK h; intro o x p h
    refine andK h fun z h=>?_; apply beqK z
    exact .of (se_neg (soundE hB hC a sc _ h).1) fun _=>rfl
  | .nt a,sc,e,h=>by
    apply onUnaryOpK h; intro o x p h
    refine andK h fun z h=>?_; apply beqK z
    have i:=soundE hB hC a sc _ h
    exact ⟨se_nt i.1,st_nt i.2⟩
  | .bool q a b,sc,e,h=>bool_at (fun e h=>soundE hB hC a sc e h) (fun e h=>soundE hB hC b sc e h) h
  | .bin op a b,sc,e,h=>by
    apply onBinOpK h; intro l o r p h
    refine andK h fun z h=>?_; apply beqK z
    exact .of (se_bin (soundE hB hC a sc _ (andT h).1).1 (soundE hB hC b sc _ (andT h).2).1) fun _=>rfl
  | .cmp op a b,sc,e,h=>by
    apply onCompareK h; intro l os rs p h
    apply on1K h; intro o h
    refine andK h fun z h=>?_; apply beqK z
    apply on1K h; intro r h
    refine andK h fun z h=>?_
    have i1:=soundE hB hC a sc _ (andT h).1
    have i2:=soundE hB hC b sc _ (andT h).2
    exact ⟨se_cmp (notT z) i1.1 i2.1,st_cmp (notT z) i1.1 i2.1⟩
  | .ite c a b,sc,e,h=>by
    apply onIfExpK h; intro t x y p h
    refine andK h fun h1 h=>?_
    have i1:=soundE hB hC c sc _ h1
    have i2:=soundE hB hC a sc _ (andT h).1
    have i3:=soundE hB hC b sc _ (andT h).2
    exact ⟨se_ite i1.2 i2.1 i3.1,st_ite i1.2 i2.2 i3.2⟩
  | .list es,sc,e,h=>by
    apply onListK h; intro xs p h
    exact .of (se_list (of_decide_eq_true (andT h).1) (soundEs hB hC es sc _ (andT h).2)) fun _=>rfl
  | .comp elt x i,sc,e,h=>by
    apply comp_at h; intro el iter tn tp scope pos F hx hl hset h1 h2
    exact .of (se_comp F hx hl hset (soundI hB hC i sc _ h1) (soundE hB hC elt scope _ h2).1) fun _=>rfl
  | .call f es,sc,e,h=>by
    apply onCallK h; intro fe as ks p h
    refine andK h fun z h=>?_; apply nilK z
    apply onNameK h; intro n q h
    refine andK h fun h1 h=>andK h fun h2 h=>?_
    obtain ⟨g1,g2,g3⟩:=call_at h
    exact .of (se_call hC (eq_of_beq h1) h2 g1 g2 (soundEs hB hC es sc _ g3)) fun _=>rfl
  | .bi b es,sc,e,h=>by
    apply onCallK h; intro fe as ks p h
    refine andK h fun z h=>?_; apply nilK z
    apply onNameK h; intro n q h
    refine andK h fun z h=>?_; apply beqK z
    refine andK h fun h2 h=>?_
    obtain ⟨g1,g2,g3⟩:=call_at h
    exact .of (se_bi hB h2 g1 g2 (soundEs hB hC es sc _ g3)) fun _=>rfl
  | .me m o es,sc,e,h=>by
    apply onCallK h; intro fe as ks pos h
    refine andK h fun z h=>?_; apply nilK z
    apply onAttributeK h; intro x name apos h
    refine andK h fun z h=>?_; apply beqK z
    refine andK h fun h1 h=>andK h fun h2 h=>andK h fun h3 h=>andK h fun h4 h=>?_
    exact .of (se_me (isBase_of h1) h2 (of_decide_eq_true h3) (of_decide_eq_true h4) (soundE hB hC o sc _ (andT h).1).1 (chkEs_plain (andT h).2) (soundEs hB hC es sc _ (andT h).2)) fun _=>rfl
  | .idx a i,sc,e,h=>by
    apply onSubscriptK h; intro v s p h
    refine andK h fun z h=>?_
    exact .of (se_idx (notT z) (soundE hB hC a sc _ (andT h).1).1 (soundE hB hC i sc _ (andT h).2).1) fun _=>rfl
  | .slc a lo hi,sc,e,h=>by
    apply onSubscriptK h; intro v s p h
    apply onSliceK h; intro l u st q h
    refine andK h fun z h=>?_; apply noneK z
    refine andK h fun h1 h=>?_
    exact .of (se_slc (soundE hB hC a sc _ h1).1 (soundO hB hC lo sc _ (andT h).1) (soundO hB hC hi sc _ (andT h).2)) fun _=>rfl
  | .rev a,sc,e,h=>by
    apply onSubscriptK h; intro v s p h
    apply onSliceK h; intro l u st q h
    refine andK h fun z h=>?_; apply noneK z
    refine andK h fun z h=>?_; apply noneK z
    apply onSK h; intro m h
    apply onUnaryOpK h; intro o c q2 h
    refine andK h fun z h=>?_; apply beqK z
    apply onConstantK h; intro c k q3 h
    refine andK h fun z h=>?_; apply beqK z
    exact .of (se_rev (soundE hB hC a sc _ h).1) fun _=>rfl
theorem soundEs (hB:BiOk Z) (hC:CallOk Z lvl fn cl):∀ (ps:PEs) (sc:Scope) (es:List Expr),chkEs fn nm sc ps es = true→SEs Z cl lvl nm sc es ps
  | .nil,sc,es,h=>by apply nilK h; exact ses_nil
  | .cons p ps,sc,es,h=>by
    apply onCK h; intro e r h
    refine andK h fun z h=>?_
    exact ses_cons (not_starred (notT z) r) (soundE hB hC p sc e (andT h).1).1 (soundEs hB hC ps sc r (andT h).2)
theorem soundO (hB:BiOk Z) (hC:CallOk Z lvl fn cl):∀ (p:PO) (sc:Scope) (o:Option Expr),chkO fn nm sc p o = true→SO Z cl lvl nm sc o p
  | .no,sc,o,h=>by apply noneK h; exact so_no
  | .yes p,sc,o,h=>by
    apply onSK h; intro e h
    exact so_yes (soundE hB hC p sc e h).1
theorem soundI (hB:BiOk Z) (hC:CallOk Z lvl fn cl):∀ (p:PI) (sc:Scope) (e:Expr),chkI fn nm sc p e = true→SI Z cl lvl nm sc e p
  | .of p,sc,e,h=>si_of (soundE hB hC p sc e h).1
  | .range1 a,sc,e,h=>by
    apply onCallK h; intro fe as ks p h
    refine andK h fun z h=>?_; apply nilK z
    apply onNameK h; intro n q h
    refine andK h fun z h=>?_; apply beqK z
    apply on1K h; intro x h
    refine andK h fun z h=>?_
    exact si_range1 hB (andT h).1 (notT z) (soundE hB hC a sc _ (andT h).2).1
  | .range2 a b,sc,e,h=>by
    apply onCallK h; intro fe as ks p h
    refine andK h fun z h=>?_; apply nilK z
    apply onNameK h; intro n q h
    refine andK h fun z h=>?_; apply beqK z
    apply onCK h; intro x r h
    apply on1K h; intro y h
    refine andK h fun z h=>andK h fun z' h=>andK h fun g h=>?_
    exact si_range2 hB g (notT z) (notT z') (soundE hB hC a sc _ (andT h).1).1 (soundE hB hC b sc _ (andT h).2).1
end
end
end Kt
end
section
open PySem PySem.W PyProof.Rows
namespace Kt
noncomputable def WrA (env:Env) (b:Addr):Prop:=b = env.locals ∨ ∃ n,cf env n ∧ env.cells.lookup n = some b
theorem Wr.all {nm:List Str} {env:Env} {xs:List Nat} {b:Addr} (w:Wr nm env xs b):WrA env b:=w.imp id fun ⟨_,_,n,_,hk,hc⟩=>⟨n,hk,hc⟩
structure SOk (Z:Zone) (nm:List Str) (env:Env) (σ:PSt) (O:List (Option Nat × Addr)) (s:Shared):Prop where
  inv:Inv Z s
  eok:EnvOk Z nm env σ.env O s.heap
  own:∀ y ∈ σ.own,∃ n b,nm[y]? = some n ∧ Acc env s.heap n (.ref b) ∧ (some y,b) ∈ O
  high:∀ y b,(some y,b) ∈ O→Z.n ≤ b
structure Step (Z:Zone) (env:Env) (O O':List (Option Nat × Addr)) (h h':Heap):Prop where
  keep:∀ b o,h.get? b = some o→(o.cls ≠ .none ∨ Z.n ≤ b)→¬ WrA env b→(∀ y,(some y,b) ∉ O)→Sl h' b o
  live:∀ b o,h.get? b = some o→Z.n ≤ b→∃ o',h'.get? b = some o'
  newO:∀ y b,(some y,b) ∈ O'→(some y,b) ∈ O ∨ (Z.n ≤ b ∧ h.get? b = none)
  resv:∀ a,(none,a) ∈ O' ↔ (none,a) ∈ O
section
variable {Z:Zone} {nm:List Str} {env:Env} {O O' O'':List (Option Nat × Addr)} {h h' h'':Heap} {ρ:PEnv} {σ:PSt} {s:Shared}
theorem notThere {h:Heap} {b:Addr} (k:∀ o,h.get? b = some o→False):h.get? b = none:=by
  cases e:h.get? b with
  | none=>rfl
  | some o=>exact (k o e).elim
theorem Step.refl:Step Z env O O h h:=⟨fun _ _ e _ _ _=>.inl e,fun b o e _=>⟨o,e⟩,fun _ _ h=>.inl h,fun _=>Iff.rfl⟩
theorem Step.trans (a:Step Z env O O' h h') (b:Step Z env O' O'' h' h''):Step Z env O O'' h h'' where
  keep:=fun x o e c hw ho=>(a.keep x o e c hw ho).next fun o' e' hcc=>b.keep x o' e' (by rw [hcc]; exact c) hw fun y hy=>(a.newO y x hy).elim (ho y) fun h=>nomatch h.2.symm.trans e
  live:=fun x o e hn=>let ⟨o',e'⟩:=a.live x o e hn; b.live x o' e' hn
  newO:=fun y x hy=>(b.newO y x hy).elim (a.newO y x) fun ⟨hn,h1⟩=>.inr ⟨hn,notThere fun o e=>let ⟨_,e'⟩:=a.live x o e hn; nomatch h1.symm.trans e'⟩
  resv:=fun x=>(b.resv x).trans (a.resv x)
theorem Step.kp (k:Kp Z.n h h'):Step Z env O O h h':=⟨fun b o e c _ _=>k.k b o e c,fun b o e hn=>let ⟨o',e',_⟩:=(k.k b o e (.inr hn)).ex; ⟨o',e'⟩,fun _ _ h=>.inl h,fun _=>Iff.rfl⟩
theorem Step.less (hs:∀ y b,(some y,b) ∈ O'→(some y,b) ∈ O) (hr:∀ a,(none,a) ∈ O' ↔ (none,a) ∈ O):Step Z env O O' h h:=⟨fun _ _ e _ _ _=>.inl e,fun b o e _=>⟨o,e⟩,fun y b h=>.inl (hs y b h),hr⟩
theorem Step.turned {xs:List Nat} (hE:EnvOk Z nm env ρ O h) (T:Turned Z nm env xs (fun _=>False) h h'):Step Z env O O h h' where
  keep:=fun b o e c hw _=>T.keep b o e c (fun w=>hw w.all) id
  live:=fun b o e hn=>by
    by_cases hw:Wr nm env xs b
    · rcases hw with rfl | ⟨x,hx,n,_,hk,hc⟩
      · obtain ⟨m,o',_,_,e',_⟩:=T.ns hE.ns
        exact ⟨o',e'⟩
      · obtain ⟨_,v,h3⟩:=hE.cellAt hk hc
        obtain ⟨v',o',e',_⟩:=T.cells n b v hk hc h3
        exact ⟨o',e'⟩
    · obtain ⟨o',e',_⟩:=(T.keep b o e (.inr hn) hw id).ex
      exact ⟨o',e'⟩
  newO:=fun _ _ h=>.inl h
  resv:=fun _=>Iff.rfl
noncomputable def dropO (O:List (Option Nat × Addr)) (es:List Nat):List (Option Nat × Addr):=O.filter fun yb=>!hit es yb.1
theorem mem_dropO {es:List Nat} {yb:Option Nat × Addr}:yb ∈ dropO O es ↔ yb ∈ O ∧ ¬ InO yb.1 es:=by
  unfold dropO
  rw [List.mem_filter,← hit_iff,Bool.not_eq_true',Bool.not_eq_true]
theorem not_inO_none {es:List Nat}:¬ InO none es:=fun ⟨_,_,h⟩=>nomatch h
theorem Step.drop (es:List Nat):Step Z env O (dropO O es) h h:=Step.less (fun _ _ h=>(mem_dropO.mp h).1) fun a=>⟨fun h=>(mem_dropO.mp h).1,fun h=>mem_dropO.mpr ⟨h,not_inO_none⟩⟩
theorem mem_lose {own xs:List Nat} {y:Nat}:y ∈ lose own xs ↔ y ∈ own ∧ y ∉ xs:=by
  unfold lose
  rw [List.mem_filter,Bool.not_eq_true',← Bool.not_eq_true,List.contains_iff_mem]
theorem SOk.kp (S:SOk Z nm env σ O s) {s':Shared} (I:Inv Z s') (k:Kp Z.n s.heap s'.heap):SOk Z nm env σ O s' where
  inv:=I
  eok:=S.eok.kp k
  own:=fun y hy=>let ⟨n,b,h1,h2,h3⟩:=S.own y hy; ⟨n,b,h1,h2.kp k S.eok.new (fun c hc hk=>(S.eok.cellAt hk hc).1),h3⟩
  high:=S.high
theorem SOk.lose (S:SOk Z nm env σ O s) {es:List Nat} {own:List Nat} (ho:∀ y ∈ own,y ∈ σ.own ∧ y ∉ es):SOk Z nm env ⟨σ.env,own⟩ (dropO O es) s where
  inv:=S.inv
  eok:=S.eok.lessO fun yb hy=>(mem_dropO.mp hy).1
  own:=fun y hy=>let ⟨h0,h1⟩:=ho y hy; let ⟨n,b,h2,h3,h4⟩:=S.own y h0; ⟨n,b,h2,h3,mem_dropO.mpr ⟨h4,fun ⟨z,hz,e⟩=>h1 (by cases e; exact hz)⟩⟩
  high:=fun y b h=>S.high y b (mem_dropO.mp h).1
theorem SOk.turn {ρ':PEnv} {xs:List Nat} {X:Addr→Prop} {own:List Nat} {s':Shared} (S:SOk Z nm env σ O s) (hnd:nm.Nodup) (I:Inv Z s') (E:EnvOk Z nm env ρ' O s'.heap) (T:Turned Z nm env xs X s.heap s'.heap) (ho:∀ y ∈ own,y ∈ σ.own ∧ y ∉ xs):SOk Z nm env ⟨ρ',own⟩ O s' :=
  ⟨I,E,fun y hy=>let ⟨h0,h1⟩:=ho y hy; let ⟨n,b,g1,g2,g3⟩:=S.own y h0; ⟨n,b,g1,T.acc n _ (fun x hx hxn=>h1 (name_inj hnd hxn g1 ▸ hx)) g2,g3⟩,S.high⟩
noncomputable def Post (Z:Zone) (nm:List Str) (env:Env) (O:List (Option Nat × Addr)) (s:Shared) (fl:Fl) (R:Flow→Shared→Prop):Prop :=
  match fl with
  | .next σ'=>∀ s' O',SOk Z nm env σ' O' s'→Step Z env O O' s.heap s'.heap→R .next s'
  | .ret d=>∀ v as s' O',Inv Z s'→Rd s'.heap v d as→okD d = true→(∀ a,(none,a) ∈ O→a ∉ as)→Step Z env O O' s.heap s'.heap→R (.ret v) s'
theorem Post.from_ {s₁:Shared} {fl:Fl} {R:Flow→Shared→Prop} (p:Post Z nm env O s fl R) (st:Step Z env O O' s.heap s₁.heap):Post Z nm env O' s₁ fl R:=by
  cases fl with
  | next σ'=>exact fun s' O'' S st'=>p s' O'' S (st.trans st')
  | ret d=>exact fun v as s' O'' I r hd hr st'=>p v as s' O'' I r hd (fun a ha=>hr a ((st.resv a).mpr ha)) (st.trans st')
theorem put {M:Model} {A:Around} {E:Value→Shared→Prop} {Q:Unit→Shared→Prop} {x:Nat} {n:Str} {v:Value} {d:PyData} {as:List Addr} {own':List Nat} (S:SOk Z nm env σ O s) (hnd:nm.Nodup) (hx:nm[x]? = some n) (hk:env.kindOf n = some .local ∨ env.kindOf n = some .cell)
    (r:Rd s.heap v d as) (hd:okD d = true) (ho:∀ yb ∈ O,yb.2 ∈ as→yb.1 = some x ∧ as.head? = some yb.2) (hown:∀ y ∈ own',(y ≠ x ∧ y ∈ σ.own) ∨ (y = x ∧ ∃ b,v = .ref b ∧ (some x,b) ∈ O))
    (hQ:∀ s',SOk Z nm env ⟨σ.env.set x (some d),own'⟩ O s'→Step Z env O O s.heap s'.heap→Turned Z nm env [x] (fun _=>False) s.heap s'.heap→Q () s'):wpAny M A (storeName env n v) Q E s :=
  store_any S.eok S.inv hx hk fun h' tk I' a T=>hQ _ ⟨I',S.eok.stored hnd hx T a r hd ho,fun y hy=>by
    rcases hown y hy with ⟨hne,hy⟩ | ⟨rfl,b,rfl,hb⟩
    · obtain ⟨m,b,h1,h2,h3⟩:=S.own y hy
      exact ⟨m,b,h1,T.acc m _ (fun z hz hzm=>hne ((name_inj hnd hzm h1).symm.trans (List.mem_singleton.mp hz))) h2,h3⟩
    · exact ⟨n,b,hx,a,hb⟩,S.high⟩ (Step.turned S.eok T) T
theorem Turned.other {x:Nat} {n m:Str} {u:Value} (hx:nm[x]? = some n) (T:Turned Z nm env [x] (fun _=>False) h h') (hm:m ≠ n) (a:Acc env h m u):Acc env h' m u:=T.acc m u (fun z hz hzm=>hm (Option.some.inj (hzm.symm.trans (by rw [List.mem_singleton.mp hz]; exact hx)))) a
noncomputable def escI (d:PyData) (e:PE):List Nat:=if flat d then [] else esc e
theorem afterE_eq (own:List Nat) (d:PyData) (e:PE):afterE own d e = lose own (escI d e):=by
  unfold afterE escI
  cases flat d
  · rfl
  · exact (List.filter_eq_self.mpr fun _ _=>rfl).symm
theorem rd_flat {h:Heap} {v:Value} {d:PyData} {as:List Addr} (r:Rd h v d as) (hf:flat d = true):as = []:=by
  cases r with
  | list=>cases hf
  | _=>rfl
theorem escI_of {h:Heap} {v:Value} {d:PyData} {as:List Addr} {e:PE} (r:Rd h v d as) (ho:∀ yb ∈ O,yb.2 ∈ as→InO yb.1 (esc e)):∀ yb ∈ O,yb.2 ∈ as→InO yb.1 (escI d e):=fun yb hy hm=>by
  unfold escI
  cases hf:flat d
  · exact ho yb hy hm
  · rw [rd_flat r hf] at hm; cases hm
theorem EnvOk.add {x:Nat} {b:Addr} (hE:EnvOk Z nm env ρ O h) (k:Kp Z.n h h') (hfresh:h.get? b = none) (hlive:∃ o,h'.get? b = some o ∧ o.cls ≠ .none):EnvOk Z nm env ρ ((some x,b) :: O) h' :=
  have hr:=hE.reserve (es:=[]) k hfresh hlive
  have old:∀ {yb},yb ∈ O→yb ∈ Kt.reserve b O []:=fun hy=>(reserve_old hy).resolve_right fun ⟨_,h,_⟩=>nomatch h
  { hr with
    live:=fun yb hy=>(List.mem_cons.mp hy).elim (fun e=>e ▸ hlive) fun hy=>hr.live yb (old hy)
    apart:=fun yb hy=>(List.mem_cons.mp hy).elim (fun e=>e ▸ hr.apart (none,b) List.mem_cons_self) fun hy=>hr.apart yb (old hy)
    vars:=fun y d n h1 h2 h3=>let ⟨v,as,a,r,hd,ho⟩:=hr.vars y d n h1 h2 h3; ⟨v,as,a,r,hd,fun yb hy hm=>(List.mem_cons.mp hy).elim (fun e=>nomatch (ho (none,b) List.mem_cons_self (by rw [e] at hm; exact hm)).1) fun hy=>ho yb (old hy) hm⟩ }
theorem keptOwn {x:Nat} {es:List Nat} (S:SOk Z nm env σ O s):SOk Z nm env ⟨σ.env,(lose σ.own es).filter (· != x)⟩ (dropO O (x :: es)) s:=S.lose fun y hy=>by
  obtain ⟨h1,h2⟩:=List.mem_filter.mp hy
  obtain ⟨h3,h4⟩:=mem_lose.mp h1
  exact ⟨h3,fun h=>(List.mem_cons.mp h).elim (bne_iff_ne.mp h2) h4⟩
theorem put_old {A:Around} {E:Value→Shared→Prop} {R:Unit→Shared→Prop} {x:Nat} {n:Str} {v:Value} {d:PyData} {as:List Addr} {es:List Nat} (S:SOk Z nm env σ O s) (hnd:nm.Nodup) (hx:nm[x]? = some n)
    (hk:env.kindOf n = some .local ∨ env.kindOf n = some .cell) (r:Rd s.heap v d as) (hd:okD d = true) (ho:∀ yb ∈ O,yb.2 ∈ as→InO yb.1 es)
    (hR:∀ s',SOk Z nm env ⟨σ.env.set x (some d),(lose σ.own es).filter (· != x)⟩ (dropO O (x :: es)) s'→Step Z env O (dropO O (x :: es)) s.heap s'.heap→Turned Z nm env [x] (fun _=>False) s.heap s'.heap→R () s'):wpAny (model Z.prog Z.w) A (storeName env n v) R E s :=
  put (keptOwn S) hnd hx hk r hd (fun yb hy hm=>let ⟨h1,h2⟩:=mem_dropO.mp hy; let ⟨z,hz,e⟩:=ho yb h1 hm; absurd ⟨z,List.mem_cons_of_mem _ hz,e⟩ h2) (own':=(lose σ.own es).filter (· != x)) (fun y hy=>.inl ⟨bne_iff_ne.mp (List.mem_filter.mp hy).2,hy⟩) fun s' S'' st T=>hR s' S'' ((Step.drop _).trans st) T
theorem put_new {A:Around} {E:Value→Shared→Prop} {R:Unit→Shared→Prop} {s₁:Shared} {x:Nat} {n:Str} {b:Addr} {bs:List Addr} {d:PyData} {es:List Nat} (S:SOk Z nm env σ O s) (hnd:nm.Nodup) (hx:nm[x]? = some n)
    (hk:env.kindOf n = some .local ∨ env.kindOf n = some .cell) (I₁:Inv Z s₁) (k₁:Kp Z.n s.heap s₁.heap) (r:Rd s₁.heap (.ref b) d (b :: bs)) (hd:okD d = true) (hb:s.heap.get? b = none) (hbn:Z.n ≤ b) (ho:∀ yb ∈ O,yb.2 ∈ b :: bs→InO yb.1 es)
    (hR:∀ s',SOk Z nm env ⟨σ.env.set x (some d),x :: (lose σ.own es).filter (· != x)⟩ ((some x,b) :: dropO O (x :: es)) s'→Step Z env O ((some x,b) :: dropO O (x :: es)) s.heap s'.heap→Turned Z nm env [x] (fun _=>False) s₁.heap s'.heap→R () s'):wpAny (model Z.prog Z.w) A (storeName env n (.ref b)) R E s₁:=by
  have S':=keptOwn (x:=x) (es:=es) S
  have S₁:=S'.kp I₁ k₁
  have st:=(Step.drop (Z:=Z) (env:=env) (h:=s.heap) (O:=O) (x :: es)).trans (Step.kp k₁)
  have hlive:∃ o,s₁.heap.get? b = some o ∧ o.cls ≠ .none:=let ⟨o,_,_,e,_,c⟩:=r.objs b List.mem_cons_self; ⟨o,e,by rw [c]; nofun⟩
  refine put (own':=x :: (lose σ.own es).filter (· != x)) (σ:=⟨σ.env,(lose σ.own es).filter (· != x)⟩) (O:=(some x,b) :: dropO O (x :: es)) ⟨I₁,S'.eok.add k₁ hb hlive,fun y hy=>let ⟨n,c,h1,h2,h3⟩:=S₁.own y hy; ⟨n,c,h1,h2,List.mem_cons_of_mem _ h3⟩,fun y c hy=>(List.mem_cons.mp hy).elim (fun e=>by cases e; exact hbn) (S'.high y c)⟩ hnd hx hk r hd
    (fun yb hy hm=>(List.mem_cons.mp hy).elim (fun e=>by rw [e]; exact ⟨rfl,rfl⟩) fun hy=>let ⟨h1,h2⟩:=mem_dropO.mp hy; let ⟨z,hz,e⟩:=ho yb h1 hm; absurd ⟨z,List.mem_cons_of_mem _ hz,e⟩ h2)
    (fun y hy=>(List.mem_cons.mp hy).elim (fun e=>.inr ⟨e,b,rfl,List.mem_cons_self⟩) fun hy=>.inl ⟨bne_iff_ne.mp (List.mem_filter.mp hy).2,hy⟩) fun s' S'' st' T=>hR s' S'' (Step.trans ?_ st') T
  exact ⟨st.keep,st.live,fun y c hy=>(List.mem_cons.mp hy).elim (fun e=>by cases e; exact .inr ⟨hbn,hb⟩) (st.newO y c),fun a=>⟨fun h'=>(st.resv a).mp ((List.mem_cons.mp h').resolve_left nofun),fun h'=>List.mem_cons_of_mem _ ((st.resv a).mpr h')⟩⟩
theorem notWrA (hE:EnvOk Z nm env ρ O h) {b:Addr} (hb:h.get? b = none):¬ WrA env b:=by
  rintro (rfl | ⟨n,hk,hc⟩)
  · obtain ⟨m,o,_,_,e,_⟩:=hE.ns
    cases hb.symm.trans e
  · obtain ⟨_,v,o,e,_⟩:=hE.cellAt hk hc
    cases hb.symm.trans e
theorem notWr_seq (hE:EnvOk Z nm env ρ O h) {b:Addr} {o:Obj} {vs:Array Value} {n:Nat} (e:h.get? b = some o) (hd:o.data = .seq vs n):¬ WrA env b:=by
  rintro (rfl | ⟨m,hk,hc⟩)
  · obtain ⟨m,hm⟩:=hE.ns
    exact ns_not_seq hm e hd
  · obtain ⟨_,v,h3⟩:=hE.cellAt hk hc
    exact cell_not_seq h3 e hd
theorem notWr_O (hE:EnvOk Z nm env ρ O h) {yb:Option Nat × Addr} (hy:yb ∈ O):¬ WrA env yb.2:=fun w=>w.elim (hE.apart yb hy).1 fun ⟨m,hk,hc⟩=>(hE.apart yb hy).2 m _ hk hc rfl
end
end Kt
end
section
open PySem PySem.W PyProof.Rows
namespace Kt
structure Sx (Z:Zone) (lvl:Nat) (nm:List Str) (sc:Scope) (A:Around) (env:Env) (σ:PSt) (O:List (Option Nat × Addr)) (s:Shared):Prop where
  ha:AOk Z lvl A
  hs:ScOk sc env
  hf:NoFree sc env
  S:SOk Z nm env σ O s
section
variable {Z:Zone} {cl:Nat→List PyData→Option PyData} {lvl:Nat} {nm:List Str} {fn:List Str} {sc:Scope}
theorem Sx.cx {A:Around} {env:Env} {σ:PSt} {O:List (Option Nat × Addr)} {s:Shared} (X:Sx Z lvl nm sc A env σ O s):Cx Z lvl nm sc A env σ.env O s:=⟨X.ha,X.hs,X.S.eok,X.S.inv⟩
theorem Sx.go {A:Around} {env:Env} {σ σ':PSt} {O O':List (Option Nat × Addr)} {s s':Shared} (X:Sx Z lvl nm sc A env σ O s) (S:SOk Z nm env σ' O' s'):Sx Z lvl nm sc A env σ' O' s':=⟨X.ha,X.hs,X.hf,S⟩
theorem Sx.kind {A:Around} {env:Env} {σ:PSt} {O:List (Option Nat × Addr)} {s:Shared} {n:Str} (X:Sx Z lvl nm sc A env σ O s) (h:lcl sc n = true):env.kindOf n = some .local ∨ env.kindOf n = some .cell:=kind_of X.hs h (X.hf n h)
noncomputable def SX1 (Z:Zone) (cl:Nat→List PyData→Option PyData) (lvl:Nat) (nm:List Str) (sc:Scope) (fuel:Nat) (st:Stmt) (p:PS):Prop :=
  ∀ {A:Around} {env:Env} {σ:PSt} {O:List (Option Nat × Addr)} {s:Shared} {fl:Fl} {R:Flow→Shared→Prop} {E:Value→Shared→Prop},
    Sx Z lvl nm sc A env σ O s→exS cl fuel p σ = some fl→Post Z nm env O s fl R→wpAny (model Z.prog Z.w) A (exec st env) R E s
noncomputable def SX (Z:Zone) (cl:Nat→List PyData→Option PyData) (lvl:Nat) (nm:List Str) (sc:Scope) (fuel:Nat) (ss:List Stmt) (p:PSs):Prop :=
  ∀ {A:Around} {env:Env} {σ:PSt} {O:List (Option Nat × Addr)} {s:Shared} {fl:Fl} {R:Flow→Shared→Prop} {E:Value→Shared→Prop},
    Sx Z lvl nm sc A env σ O s→exSs cl fuel p σ = some fl→Post Z nm env O s fl R→wpAny (model Z.prog Z.w) A (execs ss env) R E s
theorem sx_nil {fuel:Nat}:SX Z cl lvl nm sc fuel [] .nil:=fun {A env σ O s fl R E} X hd hR=>by
  cases hd
  exact wpAny_execs_nil (hR s O X.S Step.refl)
theorem sx_cons {fuel:Nat} {st:Stmt} {ss:List Stmt} {p:PS} {ps:PSs} (h1:SX1 Z cl lvl nm sc fuel st p) (h2:SX Z cl lvl nm sc fuel ss ps):SX Z cl lvl nm sc fuel (st :: ss) (.cons p ps):=fun {A env σ O s fl R E} X hd hR=>bndK hd fun f hx hd=>by
  refine wpAny_execs_cons (h1 X hx ?_)
  cases f with
  | next σ'=>exact fun s' O' S' st=>h2 (X.go S') hd (hR.from_ st)
  | ret d=>cases hd; exact hR
theorem sx_ret {fuel:Nat} {e:Expr} {p:PE} {pos:Pos} (h:SE Z cl lvl nm sc e p):SX1 Z cl lvl nm sc fuel (.Return (some e) pos) (.ret p):=fun {A env σ O s fl R E} X hd hR=>mapK hd fun d hv e=>by
  subst e
  exact wpAny_Return_some (h X.cx hv fun v as s₁ I₁ k₁ r₁ ok₁ o₁=>hR v as s₁ O I₁ r₁ ok₁ (fun a ha hm=>let ⟨y,_,e⟩:=o₁ _ ha hm; nomatch e) (Step.kp k₁))
theorem sx_if {fuel:Nat} {t:Expr} {b1 b2:List Stmt} {c:PE} {p1 p2:PSs} {pos:Pos} (hc:ST Z cl lvl nm sc t c) (h1:SX Z cl lvl nm sc fuel b1 p1) (h2:SX Z cl lvl nm sc fuel b2 p2):SX1 Z cl lvl nm sc fuel (.If t b1 b2 pos) (.ife c p1 p2):=fun {A env σ O s fl R E} X hd hR=>bndK hd fun d hx hd=>bndK hd fun b ht hd =>
  wpAny_If (hc X.cx hx ht fun s₁ I₁ k₁=>by
    cases b with
    | true=>exact h1 (X.go (X.S.kp I₁ k₁)) hd (hR.from_ (Step.kp k₁))
    | false=>exact h2 (X.go (X.S.kp I₁ k₁)) hd (hR.from_ (Step.kp k₁)))
theorem sx_while {fuel:Nat} {t:Expr} {b:List Stmt} {c:PE} {ps:PSs} {pos:Pos} (hc:ST Z cl lvl nm sc t c) (h:SX Z cl lvl nm sc fuel b ps):SX1 Z cl lvl nm sc fuel (.While t b [] pos) (.while_ c ps):=fun {A env σ O s fl R E} X hd hR=>by
  refine wpAny_While (codeAny_whileLoop (fun n s'=>∃ σ' O',SOk Z nm env σ' O' s' ∧ Step Z env O O' s.heap s'.heap ∧ whileLoopP (fun τ=>(evE cl c τ.env).bind truthD) (exSs cl fuel ps) n σ' = some fl) (fun n s₀ ⟨σ',O',S',st,hw⟩=>?_) fuel ⟨σ,O,X.S,Step.refl,hd⟩)
  cases n with
  | zero=>cases hw
  | succ n =>
    refine bndK hw fun tb hx hw=>bndK hx fun d hx ht=>hc (X.go S').cx hx ht fun s₁ I₁ k₁=>?_
    have st₁:=st.trans (Step.kp k₁)
    cases tb with
    | false=>cases hw; exact wpAny_execs_nil (hR s₁ O' (S'.kp I₁ k₁) st₁)
    | true =>
      refine bndK hw fun f hb hw=>h (X.go (S'.kp I₁ k₁)) hb ?_
      cases f with
      | next σ₂=>exact fun s₂ O₂ S₂ st₂=>⟨n,Nat.lt_succ_self n,σ₂,O₂,S₂,st₁.trans st₂,hw⟩
      | ret v=>cases hw; exact fun w as s₂ O₂ I₂ r okd hr st₂=>hR w as s₂ O₂ I₂ r okd (fun a ha=>hr a ((st.resv a).mpr ha)) (st₁.trans st₂)
theorem swaps_none {value:Expr} (h:isComp value = false) (t:Option Expr) (l:Nat) (env:Env):swapsWith value t l env = pure false:=by
  cases value with
  | ListComp | SetComp | DictComp=>cases h
  | _=>rfl
theorem sx_assign_old {fuel:Nat} {x:Nat} {n:Str} {np pos:Pos} {value:Expr} {p:PE} (hnd:nm.Nodup) (hx:nm[x]? = some n) (hk:lcl sc n = true) (hnew:isNew p = false) (hc:isComp value = false) (h:SE Z cl lvl nm sc value p) :
    SX1 Z cl lvl nm sc fuel (.Assign [.Name n np] value pos) (.assign x p):=fun {A env σ O s fl R E} X hd hR=>mapK hd fun d hv e=>by
  subst e
  refine wpAny_Assign_Name (h X.cx hv fun v as s₁ I₁ k₁ r₁ ok₁ o₁=>put_old (X.S.kp I₁ k₁) hnd hx (X.kind hk) r₁ ok₁ (escI_of r₁ o₁) fun s' S' st _=>?_) (swaps_none hc _ _ _)
  rw [hnew,afterE_eq] at hR
  exact hR s' _ S' ((Step.kp k₁).trans st)
theorem sx_assign_list {fuel:Nat} {x:Nat} {n:Str} {np pos lp:Pos} {es:List Expr} {ps:PEs} (hnd:nm.Nodup) (hx:nm[x]? = some n) (hk:lcl sc n = true) (hlen:plen ps ≤ 1000) (h:SEs Z cl lvl nm sc es ps) :
    SX1 Z cl lvl nm sc fuel (.Assign [.Name n np] (.List es lp) pos) (.assign x (.list ps)):=fun {A env σ O s fl R E} X hd hR=>mapK hd fun d hv e=>mapK hv fun ds hds e'=>by
  subst e e'
  refine wpAny_Assign_Name ?_ rfl
  rw [arm_eval_List]
  refine wpAny_bind (wpAny_standAt (wpAny_bind (h X.cx hds fun vs as s₁ I₁ k₁ r₁ ok₁ o₁=>?_)))
  have hl:ds.length ≤ sizeLine:=Nat.le_trans (evEs_length hds ▸ hlen) (by decide)
  have hE:=X.S.eok.kp k₁
  have ho:∀ yb ∈ O,yb.2 ∈ s₁.heap.objs.size :: as→InO yb.1 (escs ps):=fun yb hy hm=>(List.mem_cons.mp hm).elim (fun e=>absurd (hE.lt yb hy) (by rw [e]; exact Nat.lt_irrefl _)) (o₁ yb hy)
  have hp:∀ {b o} {ob:Obj},s₁.heap.get? b = some o→(s₁.heap.push ob).get? b = some o:=fun e=>Heap.get?_push_of_some _ e
  refine wpAny_newList (put_new X.S hnd hx (X.kind hk) (I₁.push _ _) (k₁.trans (Kp.push _ _ _)) (.list (as:=as) (Heap.get?_push_size _ rfl) ⟨rfl,rfl⟩ rfl (by rw [List.toList_toArray]; exact r₁.map fun _ _ _ e _=>hp e)) (okL' hl ok₁) (k₁.none hE.size (get?_ge (Nat.le_refl _))) hE.size ho fun s' S' st _=>?_) (rdAll_length r₁ ▸ hl)
  rw [afterE_eq] at hR
  exact hR s' _ S' st
theorem SOk.letGo {env:Env} {σ:PSt} {O O₀:List (Option Nat × Addr)} {s₀ s:Shared} {C:Addr} {h':Heap} (hnd:nm.Nodup) (S:SOk Z nm env σ O s) (st:Step Z env O₀ O s₀.heap s.heap) (hC:s₀.heap.get? C = none) (hCn:Z.n ≤ C) (hw:¬ WrA env C) (hCf:C ∉ Z.fr) (hCO:∀ yb ∈ O,yb.2 ≠ C) (hs:Heap.SameBut C s.heap h')
    (hv:EnvOk Z nm env σ.env O h'):SOk Z nm env σ O { s with heap:=h' } ∧ Step Z env O₀ O s₀.heap h':=by
  have T:Turned Z nm env [] (fun b=>b = C) s.heap h':=Turned.of_but (fun b o hb e=>(hs.2 b hb).trans e) (fun e=>hw (.inl e.symm)) fun n c hk hc e=>hw (.inr ⟨n,hk,e ▸ hc⟩)
  refine ⟨S.turn hnd (S.inv.same hCn hs (fun h=>absurd h hCf) s.toks) hv T fun y hy=>⟨hy,nofun⟩,?_⟩
  have ne:∀ b o,s₀.heap.get? b = some o→b ≠ C:=fun b o e e'=>by rw [e',hC] at e; cases e
  exact ⟨fun b o e c hw ho=>(st.keep b o e c hw ho).then fun o' e'=>(hs.2 b (ne b o e)).trans e',fun b o e hn=>let ⟨o',e'⟩:=st.live b o e hn; ⟨o',(hs.2 b (ne b o e)).trans e'⟩,st.newO,st.resv⟩
theorem EnvOk.sameBut {env:Env} {ρ:PEnv} {O:List (Option Nat × Addr)} {h h':Heap} {C:Addr} (hE:EnvOk Z nm env ρ O h) (hs:Heap.SameBut C h h') (hw:¬ WrA env C) (hCO:∀ yb ∈ O,yb.2 ≠ C) (hns:∀ o vs n,h.get? C = some o→o.data ≠ .seq vs n):EnvOk Z nm env ρ O h' :=
  have T:Turned Z nm env [] (fun b=>b = C) h h':=Turned.of_but (fun b o hb e=>(hs.2 b hb).trans e) (fun e=>hw (.inl e.symm)) fun n c hk hc e=>hw (.inr ⟨n,hk,e ▸ hc⟩)
  { hE with
    ns:=T.ns hE.ns
    live:=fun yb hy=>let ⟨o,e,c⟩:=hE.live yb hy; ⟨o,(hs.2 _ (hCO yb hy)).trans e,c⟩
    cells:=fun n hk=>let ⟨c,v,e,h2,h3⟩:=hE.cells n hk; let ⟨v',h4⟩:=T.cells n c v hk e h3; ⟨c,v',e,h2,h4⟩
    vars:=fun y d n h1 h2 h3=>by
      obtain ⟨v,as,a,r,hok,ho⟩:=hE.vars y d n h1 h2 h3
      refine ⟨v,as,T.acc n v nofun a,T.rd hE r fun b hb e=>?_,hok,ho⟩
      obtain ⟨o,vs,m,e',hd,_⟩:=r.objs b hb
      exact hns o vs m (e ▸ e') hd }
theorem sx_assign_comp {fuel:Nat} {x y:Nat} {n tn:Str} {np tp pos cpos:Pos} {elt iter:Expr} {scope:Scope} {pe:PE} {i:PI} (hnd:nm.Nodup) (hx:nm[x]? = some n) (hk:lcl sc n = true)
    (F:ScopeFacts nm sc scope y) (hy:nm[y]? = some tn) (hl:lcl scope tn = true) (hset:isSetE iter = false) (hi:SI Z cl lvl nm sc iter i) (he:SE Z cl lvl nm scope elt pe) :
    SX1 Z cl lvl nm sc fuel (.Assign [.Name n np] (.ListComp elt [⟨.Name tn tp,iter,[],0⟩] scope cpos) pos) (.assign x (.comp pe y i)):=fun {A env σ O s fl R E} X hd hR=>mapK hd fun d hv e=>by
  subst e
  have S:=X.S
  have hR':Post Z nm env O s (.next (asg σ x d (lose σ.own (escI d (.comp pe y i))) true)) R:=by rw [← afterE_eq]; exact hR
  obtain ⟨b,hsw⟩:∃ b,swapsWith (.ListComp elt [⟨.Name tn tp,iter,[],0⟩] scope cpos) (some (.Name n np)) pos.line env = pure b:=⟨_,rfl⟩
  cases b with
  | false =>
    refine wpAny_Assign_Name ?_ hsw
    rw [eval_ListComp]
    refine comp_any F hy hl hset hi he X.cx hv fun acc C s₁ as I₁ k₁ r₁ ok₁ o₁ hC hacc hCn haccn ⟨m,hm⟩=>⟨m,hm,fun h' hs'=>?_⟩
    refine put_new S hnd hx (X.kind hk) (I₁.same hCn hs' (fun h=>absurd h (S.inv.notFr hC)) s₁.toks) ⟨fun b o e c=>(k₁.k b o e c).then fun o' e'=>(hs'.2 b fun e''=>by rw [e'',hC] at e; cases e).trans e'⟩ (r₁.map fun a o ha e _=>?_) ok₁ hacc haccn (escI_of r₁ o₁) fun s' S' st _=>hR' s' _ S' st
    obtain ⟨o',xs,n',e',hv',_⟩:=r₁.objs a ha
    cases e.symm.trans e'
    exact (hs'.2 a fun e''=>ns_not_seq hm (e'' ▸ e) hv').trans e
  | true =>
    rw [exec_Assign_Name_used _ _ _ _ hsw]
    refine wpAny_bind (wpAny_standAt (wpAny_bind ?_))
    refine wpAny_bind (comp_any (Q:=fun _ s'=>wpAny (model Z.prog Z.w) A (pure ():Sem Unit) (fun _ s''=>wpAny (model Z.prog Z.w) A (pure Flow.next:Sem Flow) R E s'') E s') (use:=some (assign (.Name n np) env)) F hy hl hset hi he X.cx hv fun acc C s₁ as I₁ k₁ r₁ ok₁ o₁ hC hacc hCn haccn ⟨m,hm⟩=>?_)
    show wpAny (model Z.prog Z.w) A (assign (.Name n np) env (.ref acc)) _ E s₁
    refine wpAny_assign_Name (put_new S hnd hx (X.kind hk) I₁ k₁ r₁ ok₁ hacc haccn (escI_of r₁ o₁) fun s₂ S₂ st₂ T₂=>?_)
    have hw:¬ WrA env C:=notWrA S.eok hC
    have hm₂:s₂.heap.Ns C m:=by
      obtain ⟨o,es,ep,e,hdd,r⟩:=hm
      obtain ⟨o',e',_,hv'⟩:=(T₂.keep C o e (.inr hCn) (fun w=>hw w.all) id).ex
      exact ⟨o',es,ep,e',hv'.trans hdd,r⟩
    refine ⟨m,hm₂,fun h' hs'=>?_⟩
    have hCO:∀ yb ∈ (some x,acc) :: dropO O (x :: escI d (.comp pe y i)),yb.2 ≠ C:=fun yb hy e=>(List.mem_cons.mp hy).elim (fun e'=>by
      obtain ⟨o,vs,k,e'',hv',_⟩:=r₁.objs acc List.mem_cons_self
      exact ns_not_seq hm ((show acc = C by rw [← e,e']) ▸ e'') hv') fun hy=>by
      obtain ⟨o,e',_⟩:=S.eok.live yb (mem_dropO.mp hy).1
      rw [e,hC] at e'; cases e'
    obtain ⟨S₃,st₃⟩:=SOk.letGo hnd S₂ st₂ hC hCn hw (S.inv.notFr hC) hCO hs' (S₂.eok.sameBut hs' hw hCO fun o vs n e hv=>ns_not_seq hm₂ e hv)
    exact wpAny_pure (wpAny_pure (hR' _ _ S₃ st₃))
theorem iadd_strs {u v:Str} {t t':Tok} {d:PyData} {A:Around} {E:Value→Shared→Prop} {s:Shared} {Q:Value→Shared→Prop} (hx:okD (.str u) = true) (hy:okD (.str v) = true) (h:mkS (u ++ v) = some d) (g:∀ t tk,∃ x,d = .str x ∧ (okD d = true→Q (.str x t) { s with toks:=tk })):wpAny (model Z.prog Z.w) A (inplaceOp .Add (.str u t) (.str v t')) Q E s:=by
  refine ifP h fun hs e=>?_
  cases e
  have hok:=okD_str_append hx hy hs
  have g':∀ t tk,Q (.str (u ++ v) t) { s with toks:=tk }:=fun t tk=>by obtain ⟨x,e,h⟩:=g t tk; cases e; exact h hok
  refine P.iadd_str ?_
  by_cases e1:(u.length == 0) = true
  · rw [if_pos e1]
    have:=g' t' s.toks
    rwa [show u ++ v = v by rw [str_none (eq_of_beq e1)]; exact Str.empty_append v] at this
  · rw [if_neg e1]
    by_cases e3:(v.length == 0) = true
    · rw [if_pos e3]
      have:=g' t s.toks
      rwa [append_none (eq_of_beq e3)] at this
    · rw [if_neg e3]
      exact ⟨hs,g' _ _⟩
theorem inplace_flat {op:Operator} {a b d:PyData} {v w:Value} {as bs:List Addr} {A:Around} {E:Value→Shared→Prop} {s:Shared} {Q:Value→Shared→Prop} (ra:Rd s.heap v a as) (rb:Rd s.heap w b bs) (ha:okD a = true) (hb:okD b = true) (hfa:flat a = true) (hop:(op == .Add || op == .Sub) = true) (h:binD op a b = some d)
    (fin:∀ v' tk,(∀ h:Heap,Rd h v' d [])→okD d = true→Q v' { s with toks:=tk }):wpAny (model Z.prog Z.w) A (inplaceOp op v w) Q E s:=by
  have hop':=(Bool.or_eq_true_iff.mp hop).imp eq_of_beq eq_of_beq
  cases a with
  | int i =>
    exact rdI (m:=fun v=>wpAny _ A (inplaceOp op v w) Q E s) ra fun t=>rdInt (m:=fun w=>wpAny _ A (inplaceOp op _ w) Q E s) rb h fun j u h=>by
      rcases hop' with rfl | rfl <;> cases h
      · exact P.iadd_int (fin _ _ (fun _=>.int _ _) rfl)
      · exact P.isub_int (fin _ _ (fun _=>.int _ _) rfl)
  | str u =>
    obtain ⟨t,rfl⟩:=rd_str ra
    exact dStrK h fun v e h=>ifP h fun ho h=>by
      subst e
      obtain ⟨t',rfl⟩:=rd_str rb
      cases eq_of_beq ho
      have hd:∃ x,d = .str x:=ifP h fun _ e=>⟨_,(Option.some.inj e).symm⟩
      obtain ⟨x,rfl⟩:=hd
      exact iadd_strs ha hb h fun t tk=>⟨x,rfl,fun ok=>fin _ _ (fun _=>.str _ _) ok⟩
  | list=>cases hfa
  | _=>cases h
theorem sx_aug {fuel:Nat} {x:Nat} {n:Str} {np pos:Pos} {op:Operator} {value:Expr} {p:PE} (hnd:nm.Nodup) (hx:nm[x]? = some n) (hk:lcl sc n = true) (hcd:n ≠ ("__classdict__" : Str)) (h:SE Z cl lvl nm sc value p) :
    SX1 Z cl lvl nm sc fuel (.AugAssign (.Name n np) op value pos) (.aug x op p):=fun {A env σ O s fl R E} X hd hR=>bndK hd fun a hl hd=>bndK hd fun b hx' hd=>ifP hd fun hc hd=>mapK hd fun d hv e=>by
  subst e
  have S:=X.S
  have hk':=X.kind hk
  obtain ⟨v,as,ac,r,hok,ho⟩:=S.eok.vars x a n hl hx (hk'.elim .inl fun h=>.inr (.inl h))
  refine wpAny_AugAssign_Name (ac.load S.eok.kind hcd (h X.cx hx' fun w bs s₁ I₁ k₁ r₁ ok₁ o₁=>?_))
  refine inplace_flat (k₁.rd r) r₁ hok ok₁ (andT (andT hc).1).1 (andT hc).2 hv fun v' tk r' ok'=>put_old (es:=[]) (S.kp (I₁.tok tk) k₁) hnd hx hk' (r' _) ok' (fun _ _ h=>nomatch h) fun s' S' st _=>?_
  rw [show lose σ.own [] = σ.own from List.filter_eq_self.mpr fun _ _=>rfl] at S'
  exact hR s' _ S' ((Step.kp k₁).trans st)
end
end Kt
end
section
open PySem PySem.W PyProof.Rows
namespace Kt
theorem codeAny_forTurnsE {prog:Program} {w:World} {A:Around} {s:Shared} {R:Result→Shared→Prop} {tn:Str} {tp:Pos} {it:Value} {body:List Stmt} {env:Env} (I:Nat→Shared→Prop)
    (turn:∀ n s,I n s→wpAny (model prog w) A (pyNext it) (fun r s₁=>match r with
      | none=>R (.ok .next) s₁
      | some v=>wpAny (model prog w) A (assign (.Name tn tp) env v) (fun _ s₃=>wpAny (model prog w) A (execs body env) (fun f s₄=>match f with
          | .next | .cont=>∃ m,m < n ∧ I m s₄
          | .brk=>R (.ok .next) s₄
          | .ret v=>R (.ok (.ret v)) s₄) (notedBy (model prog w) A env fun e s'=>R (.error e) s') s₃) (notedBy (model prog w) A env fun e s'=>R (.error e) s') s₁) (notedBy (model prog w) A env fun e s'=>R (.error e) s') s)
    (n:Nat) (h:I n s):codeAny (model prog w) A (.forLoop (.Name tn tp) it body [] env) R s:=by
  refine codeAny_loop' rfl I (fun n s hI=>?_) n h
  show wpAny _ _ ((forTurn (.Name tn tp) it body [] env).onRaise (fun x=>do noteFrame x env; theTreesLotGoes x)) _ _ s
  refine wpAny_noted ?_
  simp only [forTurn]
  refine wpAny_bind (wpAny_standAt (wpAny_bind (wpAny_onRaise (wpAny_mono (turn n s hI) (fun r s₁ h₁=>?_) fun _ _ h'=>wpAny_standAt h'))))
  cases r with
  | none=>exact wpAny_pure (.inr ⟨rfl,codeAny_block (wpAny_execs_nil h₁)⟩)
  | some v =>
    refine wpAny_bind (wpAny_pure (wpAny_bind (wpAny_mono h₁ (fun _ s₃ h₃=>wpAny_bind (wpAny_mono h₃ (fun f s₄ h₄=>?_) fun _ _ h'=>h')) fun _ _ h'=>h')))
    cases f with
    | next=>exact wpAny_pure (.inl ⟨rfl,h₄⟩)
    | cont=>exact wpAny_pure (.inl ⟨rfl,h₄⟩)
    | brk=>exact wpAny_pure h₄
    | ret v=>exact wpAny_pure h₄
section
variable {Z:Zone} {cl:Nat→List PyData→Option PyData} {lvl:Nat} {nm:List Str} {fn:List Str} {sc:Scope}
theorem own_update {env:Env} {σ:PSt} {O:List (Option Nat × Addr)} {s:Shared} {x:Nat} {n:Str} {b:Addr} {items items':Array Value} {c c':Nat} {sl sl':Array (Option Value)} {xs xs':List PyData} {bs bs':List Addr} {h':Heap}
    (S:SOk Z nm env σ O s) (hnd:nm.Nodup) (hx:nm[x]? = some n) (hl:lookV σ.env x = some (.list xs)) (hvis:vis env n) (hacc:Acc env s.heap n (.ref b)) (h3:(some x,b) ∈ O) (hobj:s.heap.get? b = some { cls:=.type "list",dict:=none,data:=.seq items c,slots:=sl })
    (ra:RdAll s.heap items.toList xs bs) (hsb:Heap.SameBut b s.heap h') (hnew:h'.get? b = some { cls:=.type "list",dict:=none,data:=.seq items' c',slots:=sl' }) (ra':RdAll s.heap items'.toList xs' bs') (hnb:b ∉ bs') (hsub:∀ a ∈ bs',a ∈ bs ∨ ∀ yb ∈ O,yb.2 ≠ a) (hok:okD (.list xs') = true) :
    SOk Z nm env ⟨σ.env.set x (some (.list xs')),σ.own⟩ O { s with heap:=h' } ∧ Step Z env O O s.heap h' ∧ Acc env h' n (.ref b) ∧ RdAll h' items'.toList xs' bs':=by
  obtain ⟨hap1,hap2⟩:=S.eok.apart _ h3
  have hrd:Rd s.heap (.ref b) (.list xs) (b :: bs):=.list hobj ⟨rfl,rfl⟩ rfl ra
  have hkeep:∀ c o,c ≠ b→s.heap.get? c = some o→h'.get? c = some o:=fun c o hc e=>(hsb.2 c hc).trans e
  have T:Turned Z nm env [] (fun c=>c = b) s.heap h':=Turned.of_but (fun c o hc e=>hkeep c o hc e) (fun e=>hap1 e.symm) fun m c hkc hc e=>hap2 m c hkc hc e.symm
  have ra2:RdAll h' items'.toList xs' bs':=ra'.map fun a o ha e _=>hkeep a o (fun e'=>hnb (e' ▸ ha)) e
  obtain ⟨v0,as0,ac0,r0,ok0,ho0⟩:=S.eok.vars x _ n hl hx hvis
  cases ac0.uniq hacc
  cases (RdV.same r0 hrd).2
  have hEn:EnvOk Z nm env (σ.env.set x (some (.list xs'))) O h' :=
    { S.eok with
      ns:=T.ns S.eok.ns
      live:=fun yb hy=>by
        by_cases e:yb.2 = b
        · rw [e]; exact ⟨_,hnew,nofun⟩
        · obtain ⟨o,e',c⟩:=S.eok.live yb hy
          exact ⟨o,hkeep _ _ e e',c⟩
      cells:=fun m hm=>let ⟨c,u,h1,h2,h3⟩:=S.eok.cells m hm; let ⟨u',h4⟩:=T.cells m c u hm h1 h3; ⟨c,u',h1,h2,h4⟩
      vars:=fun y q m hy1 hy2 hy3=>by
        rcases lookV_set hy1 with ⟨rfl,e⟩ | ⟨hne,e⟩
        · cases e
          cases hx.symm.trans hy2
          refine ⟨.ref b,b :: bs',T.acc _ _ nofun hacc,.list hnew ⟨rfl,rfl⟩ rfl ra2,hok,fun yb hyb hm=>(List.mem_cons.mp hm).elim (fun hm=>?_) fun hm=>(hsub _ hm).elim (fun hm=>ho0 yb hyb (List.mem_cons_of_mem _ hm)) fun h=>absurd rfl (h yb hyb)⟩
          exact ⟨(ho0 yb hyb (by rw [hm]; exact List.mem_cons_self)).1,by rw [hm]; rfl⟩
        · obtain ⟨v',as',a',r',hd',ho'⟩:=S.eok.vars y q m e hy2 hy3
          exact ⟨v',as',T.acc _ _ nofun a',T.rd S.eok r' fun a ha e=>hne (Option.some.inj (ho' _ h3 (e ▸ ha)).1).symm,hd',ho'⟩ }
  refine ⟨⟨S.inv.same (S.high _ _ h3) hsb (fun h=>absurd h (S.inv.frNot hobj nofun)) s.toks,hEn,fun y hy=>let ⟨m,c,g1,g2,g3⟩:=S.own y hy; ⟨m,c,g1,T.acc _ _ nofun g2,g3⟩,S.high⟩,⟨fun c o e hc hw hoo=>.inl (hkeep c o (fun e'=>hoo x (e' ▸ h3)) e),fun c o e hcn=>?_,fun y c hy=>.inl hy,fun _=>Iff.rfl⟩,T.acc _ _ nofun hacc,ra2⟩
  by_cases e':c = b
  · rw [e']; exact ⟨_,hnew⟩
  · exact ⟨o,hkeep c o e' e⟩
theorem sx_app {fuel:Nat} {x:Nat} {n:Str} {np apos cpos pos:Pos} {value:Expr} {p:PE} (hnd:nm.Nodup) (hx:nm[x]? = some n) (hk:lcl sc n = true) (hdbg:n ≠ ("__debug__" : Str)) (hcd:n ≠ ("__classdict__" : Str)) (hline:(apos.endLine == cpos.line) = true)
    (hst:isStarred value = false) (h:SE Z cl lvl nm sc value p):SX1 Z cl lvl nm sc fuel (.Expr (.Call (.Attribute (.Name n np) "append" apos) [value] [] cpos) pos) (.app x p):=fun {A env σ O s fl R E} X hd hR =>
  ifP hd fun hown hd=>bndK hd fun q hl hd=>rdList hd fun xs e hc=>bndK hc fun d hx' hc=>by
  subst e
  have S:=X.S
  by_cases hesc:(!flat d && (esc p).contains x) = true
  · rw [if_pos hesc] at hc; cases hc
  rw [if_neg hesc] at hc
  refine mapK hc fun l hl' e=>ifP hl' fun hsz e'=>?_
  cases e'
  subst e
  have hvis:vis env n:=(X.kind hk).elim .inl fun h=>.inr (.inl h)
  obtain ⟨v,as,ac,r,hok,ho⟩:=S.eok.vars x _ n hl hx hvis
  obtain ⟨n',b,h1,h2,h3⟩:=S.own x (List.contains_iff_mem.mp hown)
  cases hx.symm.trans h1
  cases ac.uniq h2
  obtain ⟨b',items,k,sl,bs,e,hobj,ra,rfl⟩:=rd_list_obj r
  cases e
  have hint:interactive env = false:=by unfold interactive; rw [S.eok.kind]; rfl
  have hpl:=plain_one hst
  refine wpAny_Expr (wpAny_Call_method_lateS (attributeBase_of rfl _ _ _) (few_ok hpl (Nat.le_of_ble_eq_true rfl)) hline ?_) hint rfl
  refine wpAny_Name (ac.load S.eok.kind hcd ?_) (beq_eq_false_iff_ne.mpr hdbg)
  refine ⟨"list", "list.append",F.plainAttrs_list,slot_list_append,type_list_append,⟨_,hobj,rfl⟩,fun a e=>by cases e; exact ⟨_,hobj,rfl⟩,?_⟩
  refine callWith_nonref nofun (hpl.1 env cpos) (evalArgs_of (hpl.2.1 nofun env cpos) ?_)
  rw [not_starred hst]
  refine Calls.spliced_cons (h X.cx hx' fun w cs s₁ I₁ k₁ r₁ ok₁ o₁=>Calls.spliced_nil ?_)
  have hobj₁:=(k₁.k _ _ hobj (.inl nofun)).seq rfl
  refine wpAny_call_entry slot_list_append ⟨_,hobj₁,rfl⟩ entry_list_append ?_ (args_list_append _ _)
  show wpAny _ _ (updateSeq b (·.push w) >>= fun _=>ret .none) _ _ s₁
  have hlenx:items.size = xs.length:=(Array.length_toList).symm.trans (rdAll_length ra)
  rw [List.length_append] at hsz
  have hsz1:items.size + 1 ≤ sizeLine:=hlenx ▸ hsz
  have hsz2:items.size ≤ sizeLine:=Nat.le_of_succ_le hsz1
  have hsz3:(items.push w).size ≤ sizeLine:=by rw [Array.size_push]; exact hsz1
  refine wpAny_bind (wpAny_updateSeq hobj₁ rfl (wpAny_pure ⟨.none,rfl,?_⟩))
  have S₁:=(S.kp I₁ k₁).lose (es:=escI d p) (own:=lose σ.own (escI d p)) fun y hy=>mem_lose.mp hy
  have hxe:¬ InO (some x) (escI d p):=fun ⟨y,hy,e⟩=>by
    cases e
    unfold escI at hy
    cases hf:flat d
    · rw [hf] at hy hesc; exact hesc (List.contains_iff_mem.mpr hy)
    · rw [hf] at hy; cases hy
  have h3':(some x,b) ∈ dropO O (escI d p):=mem_dropO.mpr ⟨h3,hxe⟩
  have hcs:∀ a ∈ cs,∀ yb ∈ dropO O (escI d p),yb.2 ≠ a:=fun a ha yb hy e=>(mem_dropO.mp hy).2 (escI_of r₁ o₁ yb (mem_dropO.mp hy).1 (e ▸ ha))
  obtain ⟨S₂,st₂,_⟩:=own_update (items':=items.push w) (bs':=bs ++ (cs ++ [])) S₁ hnd hx hl hvis (h2.kp k₁ S.eok.new fun c hc hkc=>(S.eok.cellAt hkc hc).1) h3' hobj₁ (k₁.rd ra) (Heap.SameBut.update s₁.heap b (Obj.mapSeq (·.push w))) (Heap.get?_update_self (Obj.mapSeq (·.push w)) hobj₁ rfl)
    (by rw [Array.toList_push]; exact rdAll_append (k₁.rd ra) (.cons r₁ .nil)) (fun hm=>(List.mem_append.mp hm).elim (r.apart rfl) fun hm=>hcs b (by rwa [List.append_nil] at hm) _ h3' rfl) (fun a ha=>(List.mem_append.mp ha).imp id fun ha=>hcs a (by rwa [List.append_nil] at ha))
    (okL' (by rw [List.length_append]; exact hsz) (okDs_append.mpr ⟨(okL hok).2,by rw [okDs,ok₁]; rfl⟩))
  have hR':Post Z nm env O s (.next ⟨σ.env.set x (some (.list (xs ++ [d]))),lose σ.own (escI d p)⟩) R:=by rw [← afterE_eq]; exact hR
  exact hR' _ _ S₂ (((Step.kp k₁).trans (Step.drop _)).trans st₂)
noncomputable def backO (O₁ O:List (Option Nat × Addr)):List (Option Nat × Addr):=O₁.filter fun yb=>yb.1.isSome || decide (yb ∈ O)
theorem mem_backO {O₁ O:List (Option Nat × Addr)} {yb:Option Nat × Addr}:yb ∈ backO O₁ O ↔ yb ∈ O₁ ∧ (yb.1.isSome = true ∨ yb ∈ O):=by
  unfold backO
  rw [List.mem_filter,Bool.or_eq_true,decide_eq_true_eq]
structure LoopRel (Z:Zone) (env:Env) (O:List (Option Nat × Addr)) (h:Heap) (O₀:List (Option Nat × Addr)) (h₁:Heap) (O':List (Option Nat × Addr)) (h':Heap):Prop where
  keep:∀ b o,h.get? b = some o→(o.cls ≠ .none ∨ Z.n ≤ b)→¬ WrA env b→(∀ y,(some y,b) ∉ O)→Sl h' b o
  live:∀ b o,h.get? b = some o→Z.n ≤ b→∃ o',h'.get? b = some o'
  live1:∀ b o,h₁.get? b = some o→Z.n ≤ b→∃ o',h'.get? b = some o'
  newO:∀ y b,(some y,b) ∈ O'→(some y,b) ∈ O₀ ∨ (Z.n ≤ b ∧ h₁.get? b = none)
  resv:∀ a,(none,a) ∈ O' ↔ (none,a) ∈ O₀
section
variable {env:Env} {O O₀ O' O'':List (Option Nat × Addr)} {h h₁ h' h'':Heap} {I:Addr}
theorem LoopRel.step (k:Kp Z.n h h₁) (hO:∀ y b,(some y,b) ∈ O₀→(some y,b) ∈ O) (L:LoopRel Z env O h O₀ h₁ O' h') (st:Step Z env O' O'' h' h''):LoopRel Z env O h O₀ h₁ O'' h'' where
  keep:=fun b o e c hw ho=>(L.keep b o e c hw ho).next fun o' e' hcc=>st.keep b o' e' (by rw [hcc]; exact c) hw fun y hy=>(L.newO y b hy).elim (fun h1=>ho y (hO y b h1)) fun h1=>let ⟨_,e2,_⟩:=(k.k b o e c).ex; nomatch h1.2.symm.trans e2
  live:=fun b o e hn=>let ⟨o',e'⟩:=L.live b o e hn; st.live b o' e' hn
  live1:=fun b o e hn=>let ⟨o',e'⟩:=L.live1 b o e hn; st.live b o' e' hn
  newO:=fun y b hy=>(st.newO y b hy).elim (L.newO y b) fun ⟨hn,h1⟩=>.inr ⟨hn,notThere fun o e=>let ⟨_,e'⟩:=L.live1 b o e hn; nomatch h1.symm.trans e'⟩
  resv:=fun a=>(st.resv a).trans (L.resv a)
theorem LoopRel.next (L:LoopRel Z env O h O₀ h₁ O' h') (hfresh:h.get? I = none) (kp:∀ b o,b ≠ I→h'.get? b = some o→h''.get? b = some o) (hl:∃ o,h''.get? I = some o):LoopRel Z env O h O₀ h₁ O' h'' where
  keep:=fun b o e c hw ho=>(L.keep b o e c hw ho).then fun o' e'=>kp b o' (fun hm=>by rw [hm,hfresh] at e; cases e) e'
  live:=fun b o e hn=>let ⟨o',e'⟩:=L.live b o e hn; ⟨o',kp b o' (fun hm=>by rw [hm,hfresh] at e; cases e) e'⟩
  live1:=fun b o e hn=>by
    obtain ⟨o',e'⟩:=L.live1 b o e hn
    by_cases hm:b = I
    · rw [hm]; exact hl
    · exact ⟨o',kp b o' hm e'⟩
  newO:=L.newO
  resv:=L.resv
theorem LoopRel.exit (k:Kp Z.n h h₁) (hO:∀ y b,(some y,b) ∈ O₀→(some y,b) ∈ O) (hON:∀ a,(none,a) ∈ O→(none,a) ∈ O₀) (L:LoopRel Z env O h O₀ h₁ O' h') (hfresh:h.get? I = none) (kp:∀ b o,b ≠ I→h'.get? b = some o→h''.get? b = some o) :
    Step Z env O (backO O' O) h h'' where
  keep:=fun b o e c hw ho=>(L.keep b o e c hw ho).then fun o' e'=>kp b o' (fun hm=>by rw [hm,hfresh] at e; cases e) e'
  live:=fun b o e hn=>let ⟨o',e'⟩:=L.live b o e hn; ⟨o',kp b o' (fun hm=>by rw [hm,hfresh] at e; cases e) e'⟩
  newO:=fun y b hy=>(L.newO y b (mem_backO.mp hy).1).imp (hO y b) fun ⟨hn,h1⟩=>⟨hn,k.none hn h1⟩
  resv:=fun a=>mem_backO.trans ⟨fun h=>h.2.resolve_left nofun,fun h=>⟨(L.resv a).mpr (hON a h),.inr h⟩⟩
end
theorem for_any {A:Around} {env:Env} {σ:PSt} {O:List (Option Nat × Addr)} {s:Shared} {tn:Str} {tp pos:Pos} {iter:Expr} {body:List Stmt} {x:Nat} {i:PI} {ds:List PyData} {R:Flow→Shared→Prop} {E:Value→Shared→Prop} (K:Nat→PSt→List (Option Nat × Addr)→Shared→Prop)
    (X:Sx Z lvl nm sc A env σ O s) (hnd:nm.Nodup) (hx:nm[x]? = some tn) (hl:lcl sc tn = true) (hset:isSetE iter = false) (hi:SI Z cl lvl nm sc iter i) (hds:evI cl i σ.env = some ds)
    (K0:∀ I s₁,Inv Z s₁→Kp Z.n s.heap s₁.heap→K 0 ⟨σ.env,lose σ.own (escPI i)⟩ (Kt.reserve I O (escPI i)) s₁)
    (KI:∀ k σ' O' s₀ s₂ I,K k σ' O' s₀→(none,I) ∈ O'→(∀ y b,(some y,b) ∈ O'→b ≠ I)→SOk Z nm env σ' O' s₂→(∀ b o,b ≠ I→s₀.heap.get? b = some o→s₂.heap.get? b = some o)→Turned Z nm env [] (· = I) s₀.heap s₂.heap→K k σ' O' s₂)
    (turn:∀ k d σ' O' s₂ s₃,ds[k]? = some d→okD d = true→K k σ' O' s₂→Sx Z lvl nm sc A env ⟨σ'.env.set x (some d),lose σ'.own [x]⟩ (dropO O' [x]) s₃→EnvOk Z nm env σ'.env O' s₂.heap→Turned Z nm env [x] (fun _=>False) s₂.heap s₃.heap →
      (∀ O₄ h₄,Step Z env (dropO O' [x]) O₄ s₃.heap h₄→Step Z env O (backO O₄ O) s.heap h₄)→(∀ a,(none,a) ∈ O→(none,a) ∈ dropO O' [x]) →
      wpAny (model Z.prog Z.w) A (execs body env) (fun f s₄=>match f with
        | .next | .cont=>∃ σ'' O'',K (k + 1) σ'' O'' s₄ ∧ SOk Z nm env σ'' O'' s₄ ∧ Step Z env (dropO O' [x]) O'' s₃.heap s₄.heap
        | .brk=>R .next s₄
        | .ret v=>R (.ret v) s₄) (notedBy (model Z.prog Z.w) A env fun e s'=>cameBackBy (model Z.prog Z.w) A env E e s') s₃)
    (fin:∀ σ' O' s₀ s',K ds.length σ' O' s₀→SOk Z nm env σ' (backO O' O) s'→Step Z env O (backO O' O) s.heap s'.heap→R .next s') :
    wpAny (model Z.prog Z.w) A (exec (.For (.Name tn tp) iter body [] pos) env) R E s:=by
  have S:=X.S
  refine wpAny_For (hi X.cx hds fun I used St s₁ Sr=>?_) (folded_of hset env)
  generalize hO₀e:Kt.reserve I O (escPI i) = O₀
  have hIl:∃ o,s₁.heap.get? I = some o ∧ o.cls ≠ .none:=let ⟨o,e,c,_⟩:=Sr.iter.live _ _ Sr.start; ⟨o,e,c⟩
  have some₀:∀ y b,(some y,b) ∈ O₀→(some y,b) ∈ O ∧ ¬ InO (some y) (escPI i):=fun y b hy=>(mem_reserve (hO₀e ▸ hy)).resolve_left nofun
  have S₁:SOk Z nm env ⟨σ.env,lose σ.own (escPI i)⟩ O₀ s₁:=⟨Sr.inv,hO₀e ▸ S.eok.reserve Sr.kp Sr.fresh hIl,fun y hy=>by
    obtain ⟨h1,h2⟩:=mem_lose.mp hy
    obtain ⟨n,b,g1,g2,g3⟩:=(S.kp Sr.inv Sr.kp).own y h1
    exact ⟨n,b,g1,g2,hO₀e ▸ (reserve_old g3).resolve_right fun ⟨z,hz,e⟩=>h2 (by cases e; exact hz)⟩,fun y b hy=>S.high y b (some₀ y b hy).1⟩
  have hON:∀ a,(none,a) ∈ O→(none,a) ∈ O₀:=fun a h=>hO₀e ▸ reserve_none h
  have lab₀:∀ y b,(some y,b) ∈ O₀→b ∉ used ∧ b ≠ I:=fun y b hy=>⟨fun hm=>(some₀ y b hy).2 (Sr.own _ (some₀ y b hy).1 hm),fun e=>by obtain ⟨o,e',_⟩:=S.eok.live _ (some₀ y b hy).1; rw [show (some y,b).2 = I from e,Sr.fresh] at e'; cases e'⟩
  let Lp:List (Option Nat × Addr)→Heap→Prop:=LoopRel Z env O s.heap O₀ s₁.heap
  have hIO:∀ {O' h},Lp O' h→(none,I) ∈ O':=fun L=>(L.resv I).mpr (hO₀e ▸ List.mem_cons_self)
  have lab:∀ {O' h},Lp O' h→∀ y b,(some y,b) ∈ O'→b ∉ used ∧ b ≠ I:=fun L y b hy=>by
    rcases L.newO y b hy with h | ⟨_,h⟩
    · exact lab₀ y b h
    · refine ⟨fun hm=>?_,fun e=>?_⟩
      · obtain ⟨o,_,_,e,_⟩:=Sr.seq b hm; cases h.symm.trans e
      · obtain ⟨o,e',_⟩:=hIl; subst e; cases h.symm.trans e'
  have usO:∀ {O' h},Lp O' h→∀ yb ∈ O',yb.2 ∉ used:=fun {O' h} L yb hy hm=>by
    obtain ⟨y,b⟩:=yb
    cases y with
    | some y=>exact (lab L y b hy).1 hm
    | none=>exact (mem_reserve (hO₀e ▸ (L.resv b).mp hy)).elim (fun e=>by cases e; exact Sr.iter.apart hm) fun h=>let ⟨_,_,e⟩:=Sr.own _ h.1 hm; nomatch e
  let J:Nat→Shared→Prop:=fun n s'=>∃ k σ' O',n = ds.length - k ∧ k ≤ ds.length ∧ St k s'.heap ∧ SOk Z nm env σ' O' s' ∧ Lp O' s'.heap ∧ K k σ' O' s' ∧ SeqAll used s'.heap
  have L₀:Lp O₀ s₁.heap:=⟨fun b o e c _ _=>Sr.kp.k b o e c,fun b o e hn=>let ⟨o',e',_⟩:=(Sr.kp.k b o e (.inr hn)).ex; ⟨o',e'⟩,fun b o e _=>⟨o,e⟩,fun _ _ h=>.inl h,fun _=>Iff.rfl⟩
  have hO₀:∀ y b,(some y,b) ∈ O₀→(some y,b) ∈ O:=fun y b h=>(some₀ y b h).1
  refine codeAny_forTurnsE J (fun n s₀ ⟨k,σ',O',e0,hk,st₀,S₀,T₀,K₀,sq₀⟩=>?_) ds.length ⟨0,_,O₀,rfl,Nat.zero_le _,Sr.start,S₁,L₀,hO₀e ▸ K0 I s₁ Sr.inv Sr.kp,⟨Sr.seq⟩⟩
  subst e0
  have hII:=hIO T₀
  have butI:∀ {s₂:Shared},(∀ b o,b ≠ I→s₀.heap.get? b = some o→s₂.heap.get? b = some o)→Turned Z nm env [] (· = I) s₀.heap s₂.heap:=fun kp=>S₀.eok.but hII kp
  rcases Nat.lt_or_ge k ds.length with hlt | hge
  · have hdk:ds[k]? = some ds[k]:=List.getElem?_eq_getElem hlt
    refine Sr.iter.step k ds[k] s₀ _ _ hdk st₀ S₀.inv fun v bs s₂ I₂ kp₂ r₂ hbs st₂=>?_
    have TI:=butI kp₂
    have hIl₂:∃ o,s₂.heap.get? I = some o ∧ o.cls ≠ .none:=let ⟨o,e,c,_⟩:=Sr.iter.live _ _ st₂; ⟨o,e,c⟩
    have E₂:EnvOk Z nm env σ'.env O' s₂.heap:=S₀.eok.of_turned hnd TI nofun (fun yb _ hx=>hx ▸ hIl₂) fun b hb=>hb ▸ hII
    have S₂:SOk Z nm env σ' O' s₂:=S₀.turn hnd I₂ E₂ TI fun y hy=>⟨hy,nofun⟩
    have L₂:Lp O' s₂.heap:=LoopRel.next T₀ Sr.fresh kp₂ (let ⟨o,e,_⟩:=hIl₂; ⟨o,e⟩)
    have K₂:=KI k σ' O' s₀ s₂ I K₀ hII (fun y b h=>(lab T₀ y b h).2) S₂ kp₂ TI
    have hXu:∀ b ∈ used,¬ b = I:=fun b hb e=>Sr.iter.apart (e ▸ hb)
    have sq₂:=(sq₀.turn S₀.eok TI hXu).2
    have S₂':SOk Z nm env ⟨σ'.env,lose σ'.own [x]⟩ (dropO O' [x]) s₂:=S₂.lose fun y hy=>mem_lose.mp hy
    have L₂':Lp (dropO O' [x]) s₂.heap:=LoopRel.step Sr.kp hO₀ L₂ (Step.drop [x])
    refine bind_name hnd hx hl X.hs X.hf S₂'.eok I₂ r₂ (okDs_get Sr.ok hdk) (fun yb hy hm=>usO L₂' yb hy (hbs _ hm)) fun s₃ I₃ E₃ T₃=>?_
    have st₃:Step Z env (dropO O' [x]) (dropO O' [x]) s₂.heap s₃.heap:=Step.turned S₂'.eok T₃
    have S₃:SOk Z nm env ⟨σ'.env.set x (some ds[k]),lose σ'.own [x]⟩ (dropO O' [x]) s₃:=S₂'.turn hnd I₃ E₃ T₃ fun y hy=>⟨hy,(mem_lose.mp hy).2⟩
    have L₃:Lp (dropO O' [x]) s₃.heap:=LoopRel.step Sr.kp hO₀ L₂' st₃
    refine wpAny_mono (turn k ds[k] σ' O' s₂ s₃ hdk (okDs_get Sr.ok hdk) K₂ (X.go S₃) E₂ T₃ (fun O₄ h₄ st₄=>LoopRel.exit Sr.kp hO₀ hON (LoopRel.step Sr.kp hO₀ L₃ st₄) Sr.fresh fun b o _ e=>e) fun a ha=>(L₃.resv a).mpr (hON a ha)) (fun f s₄ h₄=>?_) fun _ _ h=>h
    have next:(∃ σ'' O'',K (k + 1) σ'' O'' s₄ ∧ SOk Z nm env σ'' O'' s₄ ∧ Step Z env (dropO O' [x]) O'' s₃.heap s₄.heap)→∃ m,m < ds.length - k ∧ J m s₄:=fun ⟨σ₄,O₄,K₄,S₄,st₄⟩=>by
      have st₂₄:Step Z env (dropO O' [x]) O₄ s₂.heap s₄.heap:=st₃.trans st₄
      have hu:∀ b ∈ used,∀ o,s₂.heap.get? b = some o→s₄.heap.get? b = some o:=fun b hb o e=>by
        obtain ⟨o',vs,n,e',hd,hc⟩:=sq₂.at_ b hb
        cases e.symm.trans e'
        exact (st₂₄.keep b o e (.inl hc) (notWr_seq S₂'.eok e hd) fun y hy=>(lab L₂' y b hy).1 hb).seq hd
      have hI₄:∀ o,s₂.heap.get? I = some o→s₄.heap.get? I = some o:=fun o e=>by
        obtain ⟨o',e',c,nd⟩:=Sr.iter.live _ _ st₂
        cases e.symm.trans e'
        exact (st₂₄.keep I o e (.inl c) (notWr_O S₂.eok (yb:=(none,I)) hII) fun y hy=>(lab L₂' y I hy).2 rfl).nd nd
      exact ⟨ds.length - (k + 1),by omega,k + 1,σ₄,O₄,rfl,hlt,Sr.iter.frame _ _ _ st₂ fun b hb o e=>hb.elim (fun hb=>by subst hb; exact hI₄ o e) fun hb=>hu b hb o e,S₄,LoopRel.step Sr.kp hO₀ L₃ st₄,K₄,⟨fun b hb=>let ⟨o',vs,n,e',r⟩:=sq₂.at_ b hb; ⟨o',vs,n,hu b hb o' e',r⟩⟩⟩
    cases f with
    | next=>exact next h₄
    | cont=>exact next h₄
    | brk=>exact h₄
    | ret v=>exact h₄
  · cases Nat.le_antisymm hk hge
    refine Sr.iter.done s₀ _ _ st₀ S₀.inv fun s₂ I₂ kp₂=>?_
    have TI:=butI kp₂
    have E₂:EnvOk Z nm env σ'.env (backO O' O) s₂.heap:=S₀.eok.of_turned' (fun yb hy=>(mem_backO.mp hy).1) hnd TI nofun (fun yb hy hx=>by
      exfalso
      obtain ⟨h1,h2⟩:=mem_backO.mp hy
      obtain ⟨y,b⟩:=yb
      rcases h2 with h2 | h2
      · cases y with
        | none=>cases h2
        | some y=>exact (lab T₀ y b h1).2 hx
      · obtain ⟨o,e,_⟩:=S.eok.live _ h2
        rw [show (y,b).2 = I from hx,Sr.fresh] at e; cases e) fun b hb=>hb ▸ hII
    exact fin σ' O' s₀ s₂ K₀ ⟨I₂,E₂,fun y hy=>let ⟨n,b,g1,g2,g3⟩:=S₀.own y hy; ⟨n,b,g1,TI.acc n _ nofun g2,mem_backO.mpr ⟨g3,.inl rfl⟩⟩,fun y b hy=>S₀.high y b (mem_backO.mp hy).1⟩ (LoopRel.exit Sr.kp hO₀ hON T₀ Sr.fresh kp₂)
theorem sx_for {fuel:Nat} {tn:Str} {tp pos:Pos} {iter:Expr} {body:List Stmt} {x:Nat} {i:PI} {ps:PSs} (hnd:nm.Nodup) (hx:nm[x]? = some tn) (hl:lcl sc tn = true) (hset:isSetE iter = false) (hi:SI Z cl lvl nm sc iter i) (hb:SX Z cl lvl nm sc fuel body ps) :
    SX1 Z cl lvl nm sc fuel (.For (.Name tn tp) iter body [] pos) (.for_ (.one x) i ps):=fun {A env σ O s fl R E} X hd hR=>bndK hd fun ds hds hd=>by
  let bindP:PyData→PSt→Option PSt:=fun d τ=>(bindT (.one x) d τ.env).map fun ρ=>{ env:=ρ,own:=lose τ.own (tgVars (.one x)) }
  refine for_any (fun k σ' _ _=>forLoopP (exSs cl fuel ps) bindP (ds.drop k) σ' = some fl) X hnd hx hl hset hi hds (fun _ _ _ _=>hd) (fun k σ' O' s₀ s₂ I h _ _ _ _ _=>h) (fun k d σ' O' s₂ s₃ hdk _ hk X₃ _ _ out rsv=>?_) fun σ' O' s₀ s' hk S' st=>?_
  · obtain ⟨hlt,e⟩:=List.getElem?_eq_some_iff.mp hdk
    rw [List.drop_eq_getElem_cons hlt,e] at hk
    refine bndK (o:=exSs cl fuel ps ⟨σ'.env.set x (some d),lose σ'.own [x]⟩) hk fun f hbody hk=>hb X₃ hbody ?_
    cases f with
    | next σ₄=>exact fun s₄ O₄ S₄ st₄=>⟨σ₄,O₄,hk,S₄,st₄⟩
    | ret v=>cases hk; exact fun w as s₄ O₄ I₄ r₄ ok₄ hr₄ st₄=>hR w as s₄ (backO O₄ O) I₄ r₄ ok₄ (fun a ha=>hr₄ a (rsv a ha)) (out _ _ st₄)
  · rw [List.drop_length] at hk
    cases hk
    exact hR s' _ S' st
end
end Kt
end
section
open PySem PySem.W PyProof.Rows
namespace Kt
theorem exec_AssignT (t value:Expr) (pos:Pos) (env:Env) (hs:swapsWith value (some t) pos.line env = pure false):exec (.Assign [t] value pos) env = (do
    standAt pos
    let v ← eval value env
    assignStores env v (← swappedStores [t] value env) ((assignEach [t] env).map (·.2))):=by
  have e:exec (.Assign [t] value pos) env = (do
    standAt pos
    if ← swapsWith value (some t) pos.line env then do
      evalThenUse value env fun v=>assignAll v ((assignEach [t] env).map (·.2))
      pure .next
    else do
      let v ← eval value env
      assignStores env v (← swappedStores [t] value env) ((assignEach [t] env).map (·.2))):=rfl
  rw [e,hs]; rfl
theorem swapped_two (n m:Str) (p1 p2:Pos) (k:Nat) (tp:Pos) (ea eb:Expr) (k':Nat) (vp:Pos) (env:Env) (hcon:(!([ea,eb].all (foldedForSure 8)) && [ea,eb].all (constantsAlone 8)) = false) :
    ∃ r,swappedStores [.Tuple [.Name n p1,.Name m p2] k tp] (.Tuple [ea,eb] k' vp) env = pure r ∧ (r = none ∨ r = some [n,m]):=by
  have key:∀ (c1 c2:Bool) (names:List Str),(names.length = 2→names = [n,m]) →
      ∃ r,(if c1 = true then (pure none:Sem (Option (List Str))) else if c2 = true then pure none else if (names.length != 2 || names.eraseDups.length != names.length) = true then pure none else
        if ([ea,eb].all (foldedForSure 8)) = true then pure none else if ([ea,eb].all (constantsAlone 8)) = true then unsupported "assign.tuple-of-constant-expressions:order-of-the-stores" else pure (some names)) = pure r ∧ (r = none ∨ r = some [n,m]):=fun c1 c2 names hn=>by
    by_cases h1:c1 = true
    · exact ⟨none,if_pos h1,.inl rfl⟩
    by_cases h2:c2 = true
    · exact ⟨none,by rw [if_neg h1,if_pos h2],.inl rfl⟩
    by_cases h3:(names.length != 2 || names.eraseDups.length != names.length) = true
    · exact ⟨none,by rw [if_neg h1,if_neg h2,if_pos h3],.inl rfl⟩
    by_cases h4:([ea,eb].all (foldedForSure 8)) = true
    · exact ⟨none,by rw [if_neg h1,if_neg h2,if_neg h3,if_pos h4],.inl rfl⟩
    by_cases h5:([ea,eb].all (constantsAlone 8)) = true
    · rw [h5,Bool.eq_false_iff.mpr h4] at hcon; cases hcon
    refine ⟨some names,by rw [if_neg h1,if_neg h2,if_neg h3,if_neg h4,if_neg h5],.inr (congrArg some (hn ?_))⟩
    cases hl:names.length != 2
    · exact bne_eq_false_iff_eq.mp hl
    · rw [hl] at h3; exact absurd rfl h3
  refine key _ _ _ fun h5=>?_
  revert h5
  show (List.filterMap _ [Expr.Name n p1,Expr.Name m p2]).length = 2→List.filterMap _ [Expr.Name n p1,Expr.Name m p2] = [n,m]
  rw [List.filterMap_cons,List.filterMap_cons,List.filterMap_nil]
  dsimp only
  generalize (env.kindOf n == some .local && _) = c
  generalize (env.kindOf m == some .local && _) = d
  cases c <;> cases d <;> first | exact fun _=>rfl | exact fun h=>nomatch h
noncomputable def Two (M:Model) (A:Around) (E:Value→Shared→Prop) (env:Env) (n m:Str) (R:Flow→Shared→Prop) (v1 v2:Value) (s:Shared):Prop:=∀ h':Heap,(∀ c o,s.heap.get? c = some o→h'.get? c = some o) →
  wpAny M A (storeName env n v1) (fun _ s₄=>wpAny M A (storeName env m v2) (fun _ s₅=>R .next s₅) E s₄) E { s with heap:=h' } ∧
  wpAny M A (storeName env m v2) (fun _ s₄=>wpAny M A (storeName env n v1) (fun _ s₅=>R .next s₅) E s₄) E { s with heap:=h' }
theorem assign2_run {prog:Program} {W:World} {A:Around} {E:Value→Shared→Prop} {env:Env} {R:Flow→Shared→Prop} {n m:Str} {p1 p2 tp vp pos:Pos} {k k':Nat} {ea eb:Expr} {s:Shared} (hA:A.handled = none)
    (hsa:isStarred ea = false) (hsb:isStarred eb = false) (hcon:(!([ea,eb].all (foldedForSure 8)) && [ea,eb].all (constantsAlone 8)) = false)
    (h:wpAny (model prog W) A (eval ea env) (fun v1 s₁=>wpAny (model prog W) A (eval eb env) (fun v2 s₂=>Two (model prog W) A E env n m R v1 v2 s₂) E s₁) E s) :
    wpAny (model prog W) A (exec (.Assign [.Tuple [.Name n p1,.Name m p2] k tp] (.Tuple [ea,eb] k' vp) pos) env) R E s:=by
  rw [exec_AssignT _ _ _ _ rfl]
  refine wpAny_bind (wpAny_standAt (wpAny_bind ?_))
  rw [arm_eval_Tuple,not_starred hsa,not_starred hsb]
  refine wpAny_bind (wpAny_standAt (wpAny_bind (Calls.spliced_cons (wpAny_mono h (fun v1 s₁ h=>Calls.spliced_cons (wpAny_mono h (fun v2 s₂ go=>Calls.spliced_nil (wpAny_newObj_type ?_ (Nat.le_of_ble_eq_true rfl))) fun _ _ e=>e)) fun _ _ e=>e))))
  have htup:(s₂.heap.push { cls:=.type "tuple",data:=.seq [v1,v2].toArray }).IsTuple s₂.heap.objs.size #[v1,v2]:=⟨_,Heap.get?_push_size _ rfl,rfl,_,rfl⟩
  have keep:∀ {h':Heap},Heap.ExtBut (s₂.heap.push { cls:=.type "tuple",data:=.seq [v1,v2].toArray }).objs.size (s₂.heap.push { cls:=.type "tuple",data:=.seq [v1,v2].toArray }) h'→∀ c o,s₂.heap.get? c = some o→h'.get? c = some o:=fun he c o e=>let e:=Heap.get?_push_of_some _ e; he c o (fun e'=>Nat.lt_irrefl _ (e' ▸ Heap.lt_size e)) e
  obtain ⟨r,hsw,hr⟩:=swapped_two n m p1 p2 k tp ea eb k' vp env hcon
  rw [hsw]
  refine wpAny_bind (wpAny_pure ?_)
  rcases hr with rfl | rfl
  · show wpAny _ A (do assignAll (.ref s₂.heap.objs.size) [assign (.Tuple [.Name n p1,.Name m p2] k tp) env]; pure .next) R E _
    refine wpAny_bind ?_
    show wpAny _ A (assign (.Tuple [.Name n p1,.Name m p2] k tp) env (.ref s₂.heap.objs.size)) _ E _
    rw [arm_assign_Tuple]
    refine wpAny_bind (wpAny_standAt (wpAny_unpack_tuple hA htup rfl rfl fun h' he=>?_))
    exact wpAny_assignInOrder_more (wpAny_assign_Name (wpAny_mono (go h' (keep he)).1 (fun _ s₄ h4=>wpAny_assignInOrder_more (wpAny_assign_Name (wpAny_mono h4 (fun _ s₅ h5=>wpAny_assignInOrder_none (wpAny_pure h5)) fun _ _ e=>e))) fun _ _ e=>e))
  · show wpAny _ A (do
        rule "assign.swapped-stores"
        let items ← unpackItems (.ref s₂.heap.objs.size) (#[v1,v2]:Array Value).size none
        assignInOrder ([n,m].reverse.map fun n=>bindName env n) items.reverse
        pure .next) R E _
    refine wpAny_bind (wpAny_rule (wpAny_bind (wpAny_unpackItems_tuple hA htup (Q:=fun items s'=>wpAny (model prog W) A (assignInOrder ([n,m].reverse.map fun n=>bindName env n) items.reverse >>= fun _=>pure Flow.next) R E s') fun h' he=>wpAny_bind ?_)))
    show wpAny _ A (assignInOrder [bindName env m,bindName env n] [v2,v1]) _ E _
    exact wpAny_assignInOrder_more (wpAny_bindName (wpAny_mono (go h' (keep he)).2 (fun _ s₄ h4=>wpAny_assignInOrder_more (wpAny_bindName (wpAny_mono h4 (fun _ s₅ h5=>wpAny_assignInOrder_none (wpAny_pure h5)) fun _ _ e=>e))) fun _ _ e=>e))
section
variable {Z:Zone} {cl:Nat→List PyData→Option PyData} {lvl:Nat} {nm:List Str} {fn:List Str} {sc:Scope}
theorem put2 {M:Model} {A:Around} {E:Value→Shared→Prop} {Q:Unit→Shared→Prop} {env:Env} {σ:PSt} {O:List (Option Nat × Addr)} {s:Shared} {x y:Nat} {n m:Str} {v1 v2:Value} {d1 d2:PyData} {as1 as2:List Addr} {own':List Nat} (S:SOk Z nm env σ O s) (hnd:nm.Nodup)
    (hx:nm[x]? = some n) (hy:nm[y]? = some m) (hk1:env.kindOf n = some .local ∨ env.kindOf n = some .cell) (hk2:env.kindOf m = some .local ∨ env.kindOf m = some .cell) (r1:Rd s.heap v1 d1 as1) (r2:Rd s.heap v2 d2 as2) (hd1:okD d1 = true) (hd2:okD d2 = true)
    (ho1:∀ yb ∈ O,yb.2 ∉ as1) (ho2:∀ yb ∈ O,yb.2 ∉ as2) (hown:∀ z ∈ own',z ≠ x ∧ z ≠ y ∧ z ∈ σ.own)
    (hQ:∀ s',SOk Z nm env ⟨(σ.env.set x (some d1)).set y (some d2),own'⟩ O s'→Step Z env O O s.heap s'.heap→Q () s'):wpAny M A (storeName env n v1) (fun _ s₁=>wpAny M A (storeName env m v2) Q E s₁) E s :=
  put S hnd hx hk1 r1 hd1 (fun yb hy hm=>absurd hm (ho1 yb hy)) (own':=own') (fun z hz=>.inl ⟨(hown z hz).1,(hown z hz).2.2⟩) fun s₁ S₁ st₁ T₁ =>
    put S₁ hnd hy hk2 (T₁.rd S.eok r2 fun _ _=>id) hd2 (fun yb hy hm=>absurd hm (ho2 yb hy)) (own':=own') (fun z hz=>.inl ⟨(hown z hz).2.1,hz⟩) fun s₂ S₂ st₂ _=>hQ s₂ S₂ (st₁.trans st₂)
theorem sx_assign2 {fuel:Nat} {x y:Nat} {n m:Str} {p1 p2 tp vp pos:Pos} {k k':Nat} {ea eb:Expr} {a b:PE} (hnd:nm.Nodup) (hxy:x ≠ y) (hx:nm[x]? = some n) (hy:nm[y]? = some m) (hk1:lcl sc n = true)
    (hk2:lcl sc m = true) (hsa:isStarred ea = false) (hsb:isStarred eb = false) (hcon:(!([ea,eb].all (foldedForSure 8)) && [ea,eb].all (constantsAlone 8)) = false) (hna:isNew a = false) (hnb:isNew b = false) (ha:SE Z cl lvl nm sc ea a) (hb:SE Z cl lvl nm sc eb b) :
    SX1 Z cl lvl nm sc fuel (.Assign [.Tuple [.Name n p1,.Name m p2] k tp] (.Tuple [ea,eb] k' vp) pos) (.assign2 x y a b):=fun {A env σ O s fl R E} X hd hR=>bndK hd fun d1 hxa hd=>mapK hd fun d2 hxb e=>by
  subst e
  have S:=X.S
  refine assign2_run X.ha.handled hsa hsb hcon (ha X.cx hxa fun v1 as1 s₁ I₁ k₁ r₁ ok₁ o₁=>hb (X.cx.kp k₁ I₁) hxb fun v2 as2 s₂ I₂ k₂ r₂ ok₂ o₂ h' hk2'=>?_)
  have k₁₂:=k₁.trans k₂
  have kf:Kp Z.n s₂.heap h':=Kp.of hk2'
  have S4:=(S.kp (I₂.full (h':=h') (tk:=s₂.toks) hk2') (k₁₂.trans kf)).lose (es:=x :: y :: (escI d1 a ++ escI d2 b)) (own:=((lose (lose σ.own (escI d1 a)) (escI d2 b)).filter (· != x)).filter (· != y)) fun z hz=>by
    obtain ⟨hz,h1⟩:=List.mem_filter.mp hz
    obtain ⟨hz,h2⟩:=List.mem_filter.mp hz
    obtain ⟨hz,h3⟩:=mem_lose.mp hz
    obtain ⟨hz,h4⟩:=mem_lose.mp hz
    exact ⟨hz,fun h=>(List.mem_cons.mp h).elim (bne_iff_ne.mp h2) fun h=>(List.mem_cons.mp h).elim (bne_iff_ne.mp h1) fun h=>(List.mem_append.mp h).elim h4 h3⟩
  have st4:=(Step.kp (env:=env) (O:=O) (k₁₂.trans kf)).trans (Step.drop (x :: y :: (escI d1 a ++ escI d2 b)))
  have av:∀ {es:List Nat} {as:List Addr},(∀ yb ∈ O,yb.2 ∈ as→InO yb.1 es)→(∀ z ∈ es,z ∈ x :: y :: (escI d1 a ++ escI d2 b))→∀ yb ∈ dropO O (x :: y :: (escI d1 a ++ escI d2 b)),yb.2 ∉ as:=fun ho hs yb hy hm=>let ⟨h1,h2⟩:=mem_dropO.mp hy; let ⟨z,hz,e⟩:=ho yb h1 hm; h2 ⟨z,hs z hz,e⟩
  have a1:=av (escI_of r₁ o₁) fun z hz=>List.mem_cons_of_mem _ (List.mem_cons_of_mem _ (List.mem_append_left _ hz))
  have a2:=av (escI_of r₂ o₂) fun z hz=>List.mem_cons_of_mem _ (List.mem_cons_of_mem _ (List.mem_append_right _ hz))
  have hown:∀ z ∈ ((lose (lose σ.own (escI d1 a)) (escI d2 b)).filter (· != x)).filter (· != y),z ≠ x ∧ z ≠ y ∧ z ∈ ((lose (lose σ.own (escI d1 a)) (escI d2 b)).filter (· != x)).filter (· != y):=fun z hz=>⟨bne_iff_ne.mp (List.mem_filter.mp (List.mem_filter.mp hz).1).2,bne_iff_ne.mp (List.mem_filter.mp hz).2,hz⟩
  have key:∀ s',SOk Z nm env ⟨(σ.env.set x (some d1)).set y (some d2),((lose (lose σ.own (escI d1 a)) (escI d2 b)).filter (· != x)).filter (· != y)⟩ (dropO O (x :: y :: (escI d1 a ++ escI d2 b))) s'→Step Z env O (dropO O (x :: y :: (escI d1 a ++ escI d2 b))) s.heap s'.heap→R .next s':=fun s' S' st=>by
    rw [hna,hnb,afterE_eq,afterE_eq] at hR
    exact hR s' _ S' st
  exact ⟨put2 S4 hnd hx hy (X.kind hk1) (X.kind hk2) (kf.rd (k₂.rd r₁)) (kf.rd r₂) ok₁ ok₂ a1 a2 hown fun s' S' st'=>key s' S' (st4.trans st'),
    put2 S4 hnd hy hx (X.kind hk2) (X.kind hk1) (kf.rd r₂) (kf.rd (k₂.rd r₁)) ok₂ ok₁ a2 a1 (fun z hz=>⟨(hown z hz).2.1,(hown z hz).1,hz⟩) fun s' S' st'=>key s' (List.set_comm _ _ (Ne.symm hxy) ▸ S') (st4.trans st')⟩
end
section
variable (fn:List Str) (nm:List Str)
mutual
noncomputable def chkS (sc:Scope):PS→Stmt→Bool
  | .assign x e,st=>onStAssign st fun ts v _=>on1 ts fun t=>onName t fun n _=>nm[x]? == some n && (lcl sc n && ((!isComp v || isNew e) && chkE fn nm sc e v))
  | .assign2 x y a b,st=>onStAssign st fun ts v _=>on1 ts fun t=>onTuple t fun ns _ _=>onC ns fun t1 r=>on1 r fun t2=>onName t1 fun n _=>onName t2 fun m _=>onTuple v fun es _ _=>onC es fun ea r=>on1 r fun eb =>
      x != y && (nm[x]? == some n && (nm[y]? == some m && (lcl sc n && (lcl sc m && (!isStarred ea && (!isStarred eb && (!(!([ea,eb].all (foldedForSure 8)) && [ea,eb].all (constantsAlone 8)) && (!isNew a && (!isNew b && (chkE fn nm sc a ea && chkE fn nm sc b eb))))))))))
  | .aug x op e,st=>onStAugAssign st fun t o v _=>o == op && onName t fun n _=>nm[x]? == some n && (lcl sc n && (n != ("__classdict__" : Str) && chkE fn nm sc e v))
  | .app x e,st=>onStExpr st fun c _=>onCall c fun f as ks cpos=>ks.isEmpty && onAttribute f fun o an apos=>an == ("append" : Str) && onName o fun n _=>on1 as fun v=>nm[x]? == some n && (lcl sc n && (n != ("__debug__" : Str) && (n != ("__classdict__" : Str) && (apos.endLine == cpos.line && (!isStarred v && chkE fn nm sc e v)))))
  | .ife c a b,st=>onStIf st fun t b1 b2 _=>chkE fn nm sc c t && (chkSs sc a b1 && chkSs sc b b2)
  | .for_ (.one x) i b,st=>onStFor st fun t iter body els _=>els.isEmpty && onName t fun n _=>nm[x]? == some n && (lcl sc n && (!isSetE iter && (chkI fn nm sc i iter && chkSs sc b body)))
  | .while_ c b,st=>onStWhile st fun t body els _=>els.isEmpty && (chkE fn nm sc c t && chkSs sc b body)
  | .ret e,st=>onStReturn st fun o _=>onS o fun v=>chkE fn nm sc e v
noncomputable def chkSs (sc:Scope):PSs→List Stmt→Bool
  | .nil,ss=>ss.isEmpty
  | .cons p ps,ss=>onC ss fun st r=>chkS sc p st && chkSs sc ps r
end
end
section
variable {Z:Zone} {cl:Nat→List PyData→Option PyData} {lvl:Nat} {nm:List Str} {fn:List Str}
theorem sx_assign (hB:BiOk Z) (hC:CallOk Z lvl fn cl) {fuel:Nat} {x:Nat} {n:Str} {np pos:Pos} {value:Expr} {p:PE} {sc:Scope} (hnd:nm.Nodup) (hx:nm[x]? = some n) (hk:lcl sc n = true) (hc:(!isComp value || isNew p) = true) (h:chkE fn nm sc p value = true) :
    SX1 Z cl lvl nm sc fuel (.Assign [.Name n np] value pos) (.assign x p):=by
  cases hn:isNew p with
  | false=>exact sx_assign_old hnd hx hk hn (notT (by rwa [hn,Bool.or_false] at hc)) (soundE hB hC p sc _ h).1
  | true =>
    cases p with
    | list es =>
      apply onListK h; intro xs q h
      exact sx_assign_list hnd hx hk (of_decide_eq_true (andT h).1) (soundEs hB hC es sc _ (andT h).2)
    | comp elt y i =>
      apply comp_at h; intro el iter tn tp scope q F hy hl hset h1 h2
      exact sx_assign_comp hnd hx hk F hy hl hset (soundI hB hC i sc _ h1) (soundE hB hC elt scope _ h2).1
    | _=>cases hn
mutual
theorem soundS (hB:BiOk Z) (hC:CallOk Z lvl fn cl) (hnd:nm.Nodup) (fuel:Nat):∀ (p:PS) (sc:Scope) (st:Stmt),chkS fn nm sc p st = true→SX1 Z cl lvl nm sc fuel st p
  | .assign x e,sc,st,h=>by
    apply onStAssignK h; intro ts v p h
    apply on1K h; intro t h
    apply onNameK h; intro n q h
    refine andK h fun h1 h=>andK h fun h2 h=>andK h fun h3 h4=>?_
    exact sx_assign hB hC hnd (eq_of_beq h1) h2 h3 h4
  | .assign2 x y a b,sc,st,h=>by
    apply onStAssignK h; intro ts v p h
    apply on1K h; intro t h
    apply onTupleK h; intro ns k q h
    apply onCK h; intro t1 r h
    apply on1K h; intro t2 h
    apply onNameK h; intro n q1 h
    apply onNameK h; intro m q2 h
    apply onTupleK h; intro es k' q3 h
    apply onCK h; intro ea r h
    apply on1K h; intro eb h
    refine andK h fun h1 h=>andK h fun h2 h=>andK h fun h3 h=>andK h fun h4 h=>andK h fun h5 h=>andK h fun h6 h=>andK h fun h7 h=>andK h fun h8 h=>andK h fun h9 h=>andK h fun h10 h=>?_
    exact sx_assign2 hnd (bne_iff_ne.mp h1) (eq_of_beq h2) (eq_of_beq h3) h4 h5 (notT h6) (notT h7) (notT h8) (notT h9) (notT h10) (soundE hB hC a sc _ (andT h).1).1 (soundE hB hC b sc _ (andT h).2).1
  | .aug x op e,sc,st,h=>by
    apply onStAugAssignK h; intro t o v p h
    refine andK h fun z h=>?_; apply beqK z
    apply onNameK h; intro n q h
    refine andK h fun h1 h=>andK h fun h2 h=>andK h fun h3 h=>?_
    exact sx_aug hnd (eq_of_beq h1) h2 (bne_iff_ne.mp h3) (soundE hB hC e sc _ h).1
  | .app x e,sc,st,h=>by
    apply onStExprK h; intro c p h
    apply onCallK h; intro f as ks cpos h
    refine andK h fun z h=>?_; apply nilK z
    apply onAttributeK h; intro o an apos h
    refine andK h fun z h=>?_; apply beqK z
    apply onNameK h; intro n q h
    apply on1K h; intro v h
    refine andK h fun h1 h=>andK h fun h2 h=>andK h fun h3 h=>andK h fun h4 h=>andK h fun h5 h=>andK h fun h6 h=>?_
    exact sx_app hnd (eq_of_beq h1) h2 (bne_iff_ne.mp h3) (bne_iff_ne.mp h4) h5 (notT h6) (soundE hB hC e sc _ h).1
  | .ife c a b,sc,st,h=>by
    apply onStIfK h; intro t b1 b2 p h
    refine andK h fun h1 h=>?_
    exact sx_if (soundE hB hC c sc _ h1).2 (soundSs hB hC hnd fuel a sc _ (andT h).1) (soundSs hB hC hnd fuel b sc _ (andT h).2)
  | .for_ (.one x) i b,sc,st,h=>by
    apply onStForK h; intro t iter body els p h
    refine andK h fun z h=>?_; apply nilK z
    apply onNameK h; intro n q h
    refine andK h fun h1 h=>andK h fun h2 h=>andK h fun h3 h=>?_
    exact sx_for hnd (eq_of_beq h1) h2 (notT h3) (soundI hB hC i sc _ (andT h).1) (soundSs hB hC hnd fuel b sc _ (andT h).2)
  | .while_ c b,sc,st,h=>by
    apply onStWhileK h; intro t body els p h
    refine andK h fun z h=>?_; apply nilK z
    exact sx_while (soundE hB hC c sc _ (andT h).1).2 (soundSs hB hC hnd fuel b sc _ (andT h).2)
  | .ret e,sc,st,h=>by
    apply onStReturnK h; intro o p h
    apply onSK h; intro v h
    exact sx_ret (soundE hB hC e sc _ h).1
theorem soundSs (hB:BiOk Z) (hC:CallOk Z lvl fn cl) (hnd:nm.Nodup) (fuel:Nat):∀ (p:PSs) (sc:Scope) (ss:List Stmt),chkSs fn nm sc p ss = true→SX Z cl lvl nm sc fuel ss p
  | .nil,sc,ss,h=>by apply nilK h; exact sx_nil
  | .cons p ps,sc,ss,h=>by
    apply onCK h; intro st r h
    exact sx_cons (soundS hB hC hnd fuel p sc st (andT h).1) (soundSs hB hC hnd fuel ps sc r (andT h).2)
end
end
end Kt
end
section
open PySem PySem.W PyProof.Rows
namespace Kt
structure FnIs (Z:Zone) (n:Str) (a:Addr) (o:Obj) (fd:FuncData) (body:List Stmt) (nm:List Str) (arity:Nat):Prop where
  name:Z.mg n = some (.ref a)
  obj:Z.h₀.get? a = some o
  cls:o.cls ≠ .none
  data:o.data = .func fd
  body:fd.body = .stmts body
  clo:fd.closure = []
  kind:fd.scope.kind = .function
  co:fd.scope.isCoroutine = false
  gen:fd.scope.isGenerator = false
  glob:fd.globals = mainGlobals
  blt:fd.builtins = builtinsNs
  code:∃ c oc vs t,fd.code = .ref c ∧ Z.h₀.get? c = some oc ∧ oc.cls ≠ .none ∧ oc.data = .fields vs ∧ vs[1]? = some (.str fd.qualname t)
  bind:∀ vals:List Value,vals.length = arity→bindArgs fd ⟨vals,[]⟩ = pure ((nm.take arity).zip vals)
  len:arity ≤ nm.length
  nd:nm.Nodup
  snd:(fd.scope.names.map (·.1)).Nodup
  nofree:∀ p ∈ fd.scope.names,p.2 ≠ .free
  params:∀ n ∈ nm.take arity,fd.scope.names.lookup n = some .local ∨ fd.scope.names.lookup n = some .cell
theorem lk_not {β:Type} {n:Str} {l:List (Str × β)} (h:n ∉ l.map (·.1)):l.lookup n = none:=by
  cases e:l.lookup n with
  | none=>rfl
  | some b=>exact absurd (List.mem_map_of_mem (f:=(·.1)) (mem_lk e)) h
theorem cellsFrom_lookup (n:Str):∀ (names:List (Str × NameKind)) (N:Nat) (acc:List (Str × Addr)),(names.map (·.1)).Nodup→names.lookup n = some .cell→∃ c,(cellsFrom N names acc).lookup n = some c ∧ N ≤ c
  | (m,k) :: r,N,acc,hnd,h=>by
    rw [List.map_cons,List.nodup_cons] at hnd
    have other:∀ (r:List (Str × NameKind)) (N:Nat) (acc:List (Str × Addr)),n ∉ r.map (·.1)→(cellsFrom N r acc).lookup n = acc.lookup n:=fun r=>by
      induction r with
      | nil=>exact fun _ _ _=>rfl
      | cons p r ih =>
        intro N acc hn
        obtain ⟨m,k⟩:=p
        rw [List.map_cons,List.mem_cons,not_or] at hn
        unfold cellsFrom
        cases k == NameKind.cell
        · exact ih _ _ hn.2
        · exact (ih _ _ hn.2).trans (lk_ne hn.1)
    unfold cellsFrom
    by_cases e:n = m
    · subst e
      rw [lk_eq] at h
      cases h
      exact ⟨N,(other r _ _ hnd.1).trans lk_eq,Nat.le_refl _⟩
    · rw [lk_ne e] at h
      cases k == NameKind.cell
      · exact cellsFrom_lookup n r N acc hnd.2 h
      · obtain ⟨c,h1,h2⟩:=cellsFrom_lookup n r (N + 1) ((m,N) :: acc) hnd.2 h
        exact ⟨c,h1,Nat.le_of_succ_le h2⟩
theorem bindL_at {kindOf:Str→Option NameKind}:∀ (binds:List (Str × Value)) (m:Str→Option Value) (n:Str),(binds.map (·.1)).Nodup →
    bindL kindOf binds m n = if kindOf n = some .local then (match binds.lookup n with | some v=>some v | none=>m n) else m n
  | [],m,n,_=>by unfold bindL; split <;> rfl
  | (k,v) :: r,m,n,hnd=>by
    rw [List.map_cons,List.nodup_cons] at hnd
    unfold bindL
    rw [bindL_at r _ n hnd.2]
    by_cases e:n = k
    · subst e
      rw [lk_not hnd.1,lk_eq]
      by_cases hl:kindOf n = some .local
      · rw [if_pos hl,if_pos hl,if_pos hl]; exact if_pos rfl
      · rw [if_neg hl,if_neg hl,if_neg hl]
    · rw [lk_ne e]
      have:(if kindOf k = some .local then (fun x=>if x = k then some v else m x) else m) n = m n:=by
        by_cases hl:kindOf k = some .local
        · rw [if_pos hl]; exact if_neg e
        · rw [if_neg hl]
      rw [this]
theorem bindC_at {kindOf:Str→Option NameKind}:∀ (binds:List (Str × Value)) (m:Str→Option Value) (n:Str),(binds.map (·.1)).Nodup →
    bindC kindOf binds m n = if kindOf n = some .local then m n else (match binds.lookup n with | some v=>some v | none=>m n)
  | [],m,n,_=>by unfold bindC; split <;> rfl
  | (k,v) :: r,m,n,hnd=>by
    rw [List.map_cons,List.nodup_cons] at hnd
    unfold bindC
    rw [bindC_at r _ n hnd.2]
    by_cases e:n = k
    · subst e
      rw [lk_not hnd.1,lk_eq]
      by_cases hl:kindOf n = some .local
      · rw [if_pos hl,if_pos hl,if_pos hl]
      · rw [if_neg hl,if_neg hl,if_neg hl]; exact if_pos rfl
    · rw [lk_ne e]
      have:(if kindOf k = some .local then m else (fun x=>if x = k then some v else m x)) n = m n:=by
        by_cases hl:kindOf k = some .local
        · rw [if_pos hl]
        · rw [if_neg hl]; exact if_neg e
      rw [this]
theorem zip_lookup:∀ (ns:List Str) (vs:List Value) (i:Nat) (n:Str),ns.Nodup→ns[i]? = some n→(ns.zip vs).lookup n = vs[i]?
  | m :: ns,[],i,n,_,_=>rfl
  | m :: ns,v :: vs,0,n,_,h=>by cases h; exact lk_eq
  | m :: ns,v :: vs,i + 1,n,hnd,h=>by
    rw [List.nodup_cons] at hnd
    rw [List.zip_cons_cons,lk_ne (show n ≠ m from fun e=>hnd.1 (e ▸ List.mem_of_getElem? h))]
    exact zip_lookup ns vs i n hnd.2 h
abbrev Zone.at (Z:Zone) (fr:List Addr):Zone:={ Z with fr:=fr }
section
variable {Z:Zone} {cl:Nat→List PyData→Option PyData} {lvl:Nat} {fn:List Str}
theorem lookV_init {n:Nat} {args:List PyData} {x:Nat} {d:PyData} (h:lookV (initEnv n args) x = some d):args[x]? = some d:=by
  unfold lookV initEnv at h
  rw [List.getElem?_append] at h
  by_cases hx:x < (args.map some).length
  · rw [if_pos hx,List.getElem?_map] at h
    cases e:args[x]? with
    | none=>rw [e] at h; cases h
    | some q=>rw [e] at h; exact h
  · rw [if_neg hx,List.getElem?_replicate] at h
    by_cases hy:x - (args.map some).length < n - args.length
    · rw [if_pos hy] at h; cases h
    · rw [if_neg hy] at h; cases h
noncomputable def others (h:Heap) (as:List Addr):List (Option Nat × Addr) :=
  ((List.range h.objs.size).filter fun a=>decide (a ∉ as ∧ ∃ o,h.get? a = some o ∧ o.cls ≠ .none)).map fun a=>(none,a)
theorem mem_others {h:Heap} {as:List Addr} {yb:Option Nat × Addr}:yb ∈ others h as ↔ yb.1 = none ∧ yb.2 ∉ as ∧ ∃ o,h.get? yb.2 = some o ∧ o.cls ≠ .none:=by
  unfold others
  rw [List.mem_map]
  constructor
  · rintro ⟨a,h1,rfl⟩
    exact ⟨rfl,of_decide_eq_true (List.mem_filter.mp h1).2⟩
  · obtain ⟨y,b⟩:=yb
    rintro ⟨rfl,h1,o,e,h2⟩
    exact ⟨b,List.mem_filter.mpr ⟨List.mem_range.mpr (Heap.lt_size e),decide_eq_true ⟨h1,o,e,h2⟩⟩,rfl⟩
theorem call_frame {n:Str} {a:Addr} {o:Obj} {fd:FuncData} {body:List Stmt} {nm:List Str} {arity size:Nat} (F:FnIs Z n a o fd body nm arity) {args:List PyData} {d:PyData} (hlen:args.length = arity)
    {A:Around} {s:Shared} {vs:List Value} {as:List Addr} {Q:Value→Shared→Prop} {E:Value→Shared→Prop} (hA:AOk Z (lvl + 1) A) (hI:Inv Z s) (hsz:Z.n ≤ s.heap.objs.size) (r:RdAll s.heap vs args as) (hok:okDs args = true)
    (hQ:∀ v bs s',Inv Z s'→Kp Z.n s.heap s'.heap→Rd s'.heap v d bs→okD d = true→(∀ a ∈ bs,a ∈ as ∨ ∀ o,s.heap.get? a = some o→o.cls = .none)→Q v s')
    (hbody:∀ (env:Env) (s₁:Shared) (R:Flow→Shared→Prop) (E':Value→Shared→Prop) (O:List (Option Nat × Addr)),env = callEnvC fd s.heap.objs.size a→Sx (Z.at (s.heap.objs.size :: Z.fr)) lvl nm fd.scope (A.deeper env) env ⟨initEnv size args,[]⟩ O s₁→Kp Z.n s.heap s₁.heap →
      (∀ v bs s' O',Inv (Z.at (s.heap.objs.size :: Z.fr)) s'→Rd s'.heap v d bs→okD d = true→(∀ a,(none,a) ∈ O→a ∉ bs)→Step (Z.at (s.heap.objs.size :: Z.fr)) env O O' s₁.heap s'.heap→R (.ret v) s' ∧ (bs = []→d = .none→R .next s')) →
      wpAny (model Z.prog Z.w) (A.deeper env) (execs body env) R E' s₁):wpAny (model Z.prog Z.w) A (call (.ref a) vs) Q E s:=by
  have hvl:=rdAll_length r
  obtain ⟨c,oc,cvs,ct,hc1,hc2,hc3,hc4,hc5⟩:=F.code
  have hdep:=hA.depth
  have hun:=hA.units
  have hcellsL:=fun m hm=>cellsFrom_lookup m fd.scope.names (s.heap.objs.size + 1) [] F.snd hm
  have hbn:(((nm.take arity).zip vs).map (·.1)) = nm.take arity:=List.map_fst_zip (by rw [List.length_take,hvl,hlen]; exact Nat.min_le_left _ _)
  have htnd:(nm.take arity).Nodup:=F.nd.sublist (List.take_sublist _ _)
  refine wpAny_call (codeAny_call_cells (R:=wants Q E) (by omega) (hI.old.get_of_cls F.obj F.cls) F.data hI.lim ⟨c,oc,cvs,ct,hc1,hI.old.get_of_cls hc2 hc3,hc4,hc5⟩ F.body (F.bind vs (hvl.trans hlen)) F.clo (fun p hp=>?_) (fun s₁ X=>?_) F.co F.gen F.kind)
  · refine (F.params p.1 (hbn ▸ List.mem_map_of_mem hp)).imp id fun h=>?_
    obtain ⟨c,h1,_⟩:=hcellsL _ h
    exact ⟨h,by rw [h1]; rfl⟩
  · generalize henv:callEnvC fd s.heap.objs.size a = env at X ⊢
    have hkof:∀ m,env.kindOf m = fd.scope.names.lookup m:=fun m=>henv ▸ rfl
    have hcl:env.cells = cellsFrom (s.heap.objs.size + 1) fd.scope.names []:=henv ▸ rfl
    have hloc:env.locals = s.heap.objs.size:=henv ▸ rfl
    have hnofree:∀ m,env.kindOf m ≠ some .free:=fun m h=>F.nofree _ (mem_lk ((hkof m).symm.trans h)) rfl
    have hcell:∀ m,cf env m→fd.scope.names.lookup m = some .cell:=fun m h=>(hkof m).symm.trans (h.resolve_right (hnofree m))
    have hkeep:=X.toInCall.keep
    have hI₀:Inv Z s₁:=by
      obtain ⟨h',tk,rfl⟩:=X.toInCall.same
      exact hI.full hkeep
    have hns:=X.toInCall.ns
    have hcell1:=X.cell
    have habove:=X.above
    have hapart:=X.apart
    have hI₁:Inv (Z.at (s.heap.objs.size :: Z.fr)) s₁:=⟨hI₀.old,hI₀.lim,hI₀.tab,hI₀.gens,hI₀.os,fun L hL=>(List.mem_cons.mp hL).elim (fun e=>by
      obtain ⟨o,es,ep,e',hdd,_⟩:=hns
      exact ⟨e ▸ hsz,o,by rw [e,← hloc]; exact e',es,ep,hdd⟩) (hI₀.frs L)⟩
    have hback:∀ {t:Shared},Inv (Z.at (s.heap.objs.size :: Z.fr)) t→Inv Z t:=fun I=>⟨I.old,I.lim,I.tab,I.gens,I.os,fun L hL=>I.frs L (List.mem_cons_of_mem _ hL)⟩
    have oldLt:∀ {b o},s.heap.get? b = some o→b ≠ env.locals ∧ ∀ m c,env.cells.lookup m = some c→b ≠ c:=fun {b o} e=>⟨fun e'=>Nat.lt_irrefl _ (show s.heap.objs.size < s.heap.objs.size from (e'.trans hloc) ▸ Heap.lt_size e),fun m c hc e'=>by
      have:=habove m c (mem_lk hc)
      exact absurd (Heap.lt_size e) (by rw [e']; exact Nat.not_lt.mpr (Nat.le_of_lt (hloc ▸ this)))⟩
    have hE:EnvOk (Z.at (s.heap.objs.size :: Z.fr)) nm env (initEnv size args) (others s.heap as) s₁.heap:={
      kind:=henv ▸ F.kind
      glob:=henv ▸ F.glob
      blt:=henv ▸ F.blt
      new:=hloc ▸ hsz
      ns:=⟨_,hns⟩
      live:=fun yb hy=>let ⟨_,_,o,e,h⟩:=mem_others.mp hy; ⟨o,hkeep _ _ e,h⟩
      apart:=fun yb hy=>let ⟨_,_,o,e,_⟩:=mem_others.mp hy; ⟨(oldLt e).1,fun m c _ hc=>(oldLt e).2 m c hc⟩
      cells:=fun m hm=>let ⟨c,h1,h2⟩:=hcellsL m (hcell m hm); ⟨c,_,hcl ▸ h1,Nat.le_trans hsz (Nat.le_of_succ_le h2),hcell1 m c (hcl ▸ h1)⟩
      inj:=fun m m' c _ _ cm cm'=>name_of_addr hapart (mem_lk cm) (mem_lk cm')
      vars:=fun x q m h1 h2 h3=>by
        have hax:=lookV_init h1
        obtain ⟨v,bs,hv,rv,hbs⟩:=rdAll_get r hax
        have hxl:x < arity:=hlen ▸ (List.getElem?_eq_some_iff.mp hax).1
        have hxm:(nm.take arity)[x]? = some m:=by rw [List.getElem?_take,if_pos hxl]; exact h2
        have hlk:((nm.take arity).zip vs).lookup m = some v:=(zip_lookup _ _ x m htnd hxm).trans hv
        refine ⟨v,bs,?_,rv.map fun b o _ e _=>hkeep b o e,okDs_mem.mp hok q (List.mem_of_getElem? hax),fun yb hy hm=>absurd (hbs _ hm) (mem_others.mp hy).2.1⟩
        rcases F.params m (List.mem_of_getElem? hxm) with hl | hl
        · refine .inl ⟨(hkof m).trans hl,_,hns,?_⟩
          rw [bindL_at _ _ _ (by rw [hbn]; exact htnd),if_pos ((hkof m).trans hl),hlk]
        · obtain ⟨c,h4,_⟩:=hcellsL m hl
          refine .inr ⟨.inl ((hkof m).trans hl),c,hcl ▸ h4,?_⟩
          have:=hcell1 m c (hcl ▸ h4)
          rwa [bindC_at _ _ _ (by rw [hbn]; exact htnd),if_neg (show ¬ env.kindOf m = some .local from fun e=>nomatch ((hkof m).symm.trans e).symm.trans hl),hlk] at this }
    have hA':AOk (Z.at (s.heap.objs.size :: Z.fr)) lvl (A.deeper env):=⟨hA.handled,by show A.depth + 1 + lvl + 20 < _; omega,by show A.units + 3 + 3 * lvl + 200 < _; omega,by
      obtain ⟨fs,h1,h2⟩:=hA.frames
      refine ⟨env :: fs,by show A.frames.map _ = _; rw [h1]; rfl,fun e he=>(List.mem_cons.mp he).elim (fun e'=>?_) fun he=>let ⟨g1,L,g2,g3⟩:=h2 e he; ⟨g1,L,g2,List.mem_cons_of_mem _ g3⟩⟩
      rw [e',← henv]
      exact ⟨by show fd.scope.kind ≠ .module; rw [F.kind]; nofun,_,rfl,List.mem_cons_self⟩⟩
    have hSc:ScOk fd.scope env:=⟨fun m h=>(hkof m).trans h,fun m h=>by unfold cf at *; rw [hkof]; exact h,fun m h=>(hkof m).trans h⟩
    have noSome:∀ {y b},(some y,b) ∉ others s.heap as:=fun hy=>nomatch (mem_others.mp hy).1
    have kpOf:∀ {O':List (Option Nat × Addr)} {h':Heap},Step (Z.at (s.heap.objs.size :: Z.fr)) env (others s.heap as) O' s₁.heap h'→Kp Z.n s.heap h':=fun st=>⟨fun b o e c=>st.keep b o (hkeep b o e) c (fun w=>w.elim (oldLt e).1 fun ⟨m,_,hc⟩=>(oldLt e).2 m b hc rfl) fun y hy=>noSome hy⟩
    refine hbody env s₁ _ _ (others s.heap as) henv.symm ⟨hA',hSc,fun m _=>hnofree m,hI₁,hE,(fun _ h=>absurd h List.not_mem_nil),fun y b hy=>absurd hy noSome⟩ (Kp.of hkeep) fun v bs s' O' I' r' ok' hr st=>?_
    have fin:Q v s':=hQ v bs s' (hback I') (kpOf st) r' ok' fun b hb=>by
      by_cases hba:b ∈ as
      · exact .inl hba
      · refine .inr fun o e=>?_
        by_cases hc:o.cls = .none
        · exact hc
        · exact absurd hb (hr b (mem_others.mpr ⟨rfl,hba,o,e,hc⟩))
    refine ⟨fin,fun _ hd=>?_⟩
    subst hd
    cases r'
    exact fin
theorem call_fn (hB:BiOk Z) (hC:∀ fr,CallOk (Z.at fr) lvl fn cl) {fuel:Nat} {n:Str} {a:Addr} {o:Obj} {fd:FuncData} {body:List Stmt} {nm:List Str} {pf:PF} (F:FnIs Z n a o fd body nm pf.arity) (hck:chkSs fn nm fd.scope pf.body body = true) {args:List PyData} {d:PyData} (hlen:args.length = pf.arity)
    (hd:(match exSs cl fuel pf.body ⟨initEnv pf.size args,[]⟩ with | some (.ret d)=>some d | some (.next _)=>some .none | none=>none) = some d)
    {A:Around} {s:Shared} {vs:List Value} {as:List Addr} {Q:Value→Shared→Prop} {E:Value→Shared→Prop} (hA:AOk Z (lvl + 1) A) (hI:Inv Z s) (hsz:Z.n ≤ s.heap.objs.size) (r:RdAll s.heap vs args as) (hok:okDs args = true)
    (hQ:∀ v bs s',Inv Z s'→Kp Z.n s.heap s'.heap→Rd s'.heap v d bs→okD d = true→(∀ a ∈ bs,a ∈ as ∨ ∀ o,s.heap.get? a = some o→o.cls = .none)→Q v s'):wpAny (model Z.prog Z.w) A (call (.ref a) vs) Q E s:=by
  refine call_frame (size:=pf.size) F hlen hA hI hsz r hok hQ fun env s₁ R E' O _ X _ hR=>?_
  cases hx:exSs cl fuel pf.body ⟨initEnv pf.size args,[]⟩ with
  | none=>rw [hx] at hd; cases hd
  | some fl =>
    rw [hx] at hd
    refine soundSs (Z:=Z.at (s.heap.objs.size :: Z.fr)) hB (hC (s.heap.objs.size :: Z.fr)) F.nd fuel pf.body fd.scope body hck X hx ?_
    cases fl with
    | next σ'=>cases hd; exact fun s' O' S' st=>(hR .none [] s' O' S'.inv .none rfl (fun _ _ h=>nomatch h) st).2 rfl rfl
    | ret q=>cases hd; exact fun v bs s' O' I' r' ok' hr st=>(hR v bs s' O' I' r' ok' hr st).1
end
theorem AOk.mono {Z:Zone} {l k:Nat} {A:Around} (h:AOk Z l A) (hk:k ≤ l):AOk Z k A:=⟨h.handled,by have:=h.depth; omega,by have:=h.units; omega,h.frames⟩
theorem FnIs.at {Z:Zone} {n:Str} {a:Addr} {o:Obj} {fd:FuncData} {body:List Stmt} {nm:List Str} {k:Nat} (F:FnIs Z n a o fd body nm k) (fr:List Addr):FnIs (Z.at fr) n a o fd body nm k :=
  ⟨F.name,F.obj,F.cls,F.data,F.body,F.clo,F.kind,F.co,F.gen,F.glob,F.blt,F.code,F.bind,F.len,F.nd,F.snd,F.nofree,F.params⟩
noncomputable def PrimAt (Z:Zone) (c:Nat) (n:Str) (args:List PyData) (d:PyData):Prop :=
  ∃ a o fd,Z.mg n = some (.ref a) ∧ Z.h₀.get? a = some o ∧ o.cls ≠ .none ∧ o.data = .func fd ∧
    ∀ (A:Around) (s:Shared) (vs:List Value) (as:List Addr) (Q:Value→Shared→Prop) (E:Value→Shared→Prop),AOk Z c A→Inv Z s→Z.n ≤ s.heap.objs.size→RdAll s.heap vs args as→okDs args = true →
      (∀ v bs s',Inv Z s'→Kp Z.n s.heap s'.heap→Rd s'.heap v d bs→okD d = true→(∀ a ∈ bs,a ∈ as ∨ ∀ o,s.heap.get? a = some o→o.cls = .none)→Q v s')→wpAny (model Z.prog Z.w) A (call (.ref a) vs) Q E s
noncomputable def PrimOk (Z:Zone) (c:Nat) (fn:List Str) (tab:Nat→Option PF) (prim:Nat→List PyData→Option PyData):Prop :=
  ∀ f n args d,fn[f]? = some n→tab f = none→prim f args = some d→PrimAt Z c n args d
noncomputable def TabOk (Z:Zone) (fn:List Str) (tab:Nat→Option PF):Prop :=
  ∀ f n pf,fn[f]? = some n→tab f = some pf→∃ a o fd body nm,FnIs Z n a o fd body nm pf.arity ∧ chkSs fn nm fd.scope pf.body body = true
theorem callOk {Z:Zone} {fn:List Str} {tab:Nat→Option PF} {prim:Nat→List PyData→Option PyData} {fuel c:Nat} (hB:BiOk Z) (hT:TabOk Z fn tab) (hP:∀ fr,PrimOk (Z.at fr) c fn tab prim):∀ lvl fr,CallOk (Z.at fr) (lvl + c) fn (runF tab prim fuel lvl)
  | 0,_=>fun f n args d _ h=>nomatch h
  | lvl + 1,fr=>fun f n args d hn h=>by
    unfold runF at h
    cases ht:tab f with
    | none =>
      rw [ht] at h
      obtain ⟨a,o,fd,h1,h2,h3,h4,h5⟩:=hP fr f n args d hn ht h
      exact ⟨a,o,fd,h1,h2,h3,h4,fun A s vs as Q E hA=>h5 A s vs as Q E (hA.mono (Nat.le_add_left _ _))⟩
    | some pf =>
      rw [ht] at h
      refine ifP h fun hlen h=>?_
      obtain ⟨a,o,fd,body,nm,F,hck⟩:=hT f n pf hn ht
      have F:=F.at fr
      exact ⟨a,o,fd,F.name,F.obj,F.cls,F.data,fun A s vs as Q E hA hI hsz r hok hQ=>call_fn (Z:=Z.at fr) hB (fun fr'=>callOk hB hT hP lvl fr') F hck hlen h (hA.mono (Nat.le_of_eq (Nat.add_right_comm _ _ _))) hI hsz r hok hQ⟩
end Kt
end
section
open PySem PySem.W PyProof.Rows
namespace Kt
noncomputable def onFunc (e:Data) (f:FuncData→Bool):Bool:=if h:e.ctorIdx = 7 then Data.func.elim e h f else false
theorem onFuncK {e:Data} {f:FuncData→Bool} {m:Data→Prop} (h:onFunc e f = true) (k:∀ a,f a = true→m (.func a)):m e:=by
  by_cases c:e.ctorIdx = 7
  · exact Data.func.elim (motive:=fun e=>onFunc e f = true→m e) e c k h
  · rw [onFunc,dif_neg c] at h; cases h
theorem onFuncE {e:Data} {f:FuncData→Bool} (h:onFunc e f = true):∃ a,e = .func a ∧ f a = true:=onFuncK (m:=fun e=>∃ a,e = .func a ∧ f a = true) h fun a h=>⟨a,rfl,h⟩
noncomputable def onFields (e:Data) (f:Array Value→Bool):Bool:=if h:e.ctorIdx = 9 then Data.fields.elim e h f else false
theorem onFieldsK {e:Data} {f:Array Value→Bool} {m:Data→Prop} (h:onFields e f = true) (k:∀ a,f a = true→m (.fields a)):m e:=by
  by_cases c:e.ctorIdx = 9
  · exact Data.fields.elim (motive:=fun e=>onFields e f = true→m e) e c k h
  · rw [onFields,dif_neg c] at h; cases h
theorem onFieldsE {e:Data} {f:Array Value→Bool} (h:onFields e f = true):∃ a,e = .fields a ∧ f a = true:=onFieldsK (m:=fun e=>∃ a,e = .fields a ∧ f a = true) h fun a h=>⟨a,rfl,h⟩
noncomputable def onRef (e:Value) (f:Addr→Bool):Bool:=if h:e.ctorIdx = 10 then Value.ref.elim e h f else false
theorem onRefK {e:Value} {f:Addr→Bool} {m:Value→Prop} (h:onRef e f = true) (k:∀ a,f a = true→m (.ref a)):m e:=by
  by_cases c:e.ctorIdx = 10
  · exact Value.ref.elim (motive:=fun e=>onRef e f = true→m e) e c k h
  · rw [onRef,dif_neg c] at h; cases h
theorem onRefE {e:Value} {f:Addr→Bool} (h:onRef e f = true):∃ a,e = .ref a ∧ f a = true:=onRefK (m:=fun e=>∃ a,e = .ref a ∧ f a = true) h fun a h=>⟨a,rfl,h⟩
noncomputable def onStr (e:Value) (f:Str→Tok→Bool):Bool:=if h:e.ctorIdx = 6 then Value.str.elim e h f else false
theorem onStrK {e:Value} {f:Str→Tok→Bool} {m:Value→Prop} (h:onStr e f = true) (k:∀ a b,f a b = true→m (.str a b)):m e:=by
  by_cases c:e.ctorIdx = 6
  · exact Value.str.elim (motive:=fun e=>onStr e f = true→m e) e c k h
  · rw [onStr,dif_neg c] at h; cases h
theorem onStrE {e:Value} {f:Str→Tok→Bool} (h:onStr e f = true):∃ a b,e = .str a b ∧ f a b = true:=onStrK (m:=fun e=>∃ a b,e = .str a b ∧ f a b = true) h fun a b h=>⟨a,b,rfl,h⟩
noncomputable def onType (e:Value) (f:String→Bool):Bool:=if h:e.ctorIdx = 8 then Value.type.elim e h f else false
theorem onTypeK {e:Value} {f:String→Bool} {m:Value→Prop} (h:onType e f = true) (k:∀ a,f a = true→m (.type a)):m e:=by
  by_cases c:e.ctorIdx = 8
  · exact Value.type.elim (motive:=fun e=>onType e f = true→m e) e c k h
  · rw [onType,dif_neg c] at h; cases h
theorem onTypeE {e:Value} {f:String→Bool} (h:onType e f = true):∃ a,e = .type a ∧ f a = true:=onTypeK (m:=fun e=>∃ a,e = .type a ∧ f a = true) h fun a h=>⟨a,rfl,h⟩
noncomputable def onStmts (e:FuncBody) (f:List Stmt→Bool):Bool:=if h:e.ctorIdx = 0 then FuncBody.stmts.elim e h f else false
theorem onStmtsK {e:FuncBody} {f:List Stmt→Bool} {m:FuncBody→Prop} (h:onStmts e f = true) (k:∀ a,f a = true→m (.stmts a)):m e:=by
  by_cases c:e.ctorIdx = 0
  · exact FuncBody.stmts.elim (motive:=fun e=>onStmts e f = true→m e) e c k h
  · rw [onStmts,dif_neg c] at h; cases h
theorem onStmtsE {e:FuncBody} {f:List Stmt→Bool} (h:onStmts e f = true):∃ a,e = .stmts a ∧ f a = true:=onStmtsK (m:=fun e=>∃ a,e = .stmts a ∧ f a = true) h fun a h=>⟨a,rfl,h⟩
theorem onSE {α:Type} {o:Option α} {f:α→Bool} (h:onS o f = true):∃ a,o = some a ∧ f a = true:=onSK (m:=fun o=>∃ a,o = some a ∧ f a = true) h fun a h=>⟨a,rfl,h⟩
noncomputable def onSP {α:Type} (e:Option α) (f:α→Prop):Prop:=match e with | some a=>f a | none=>False
theorem onSPE {α:Type} {e:Option α} {f:α→Prop} (h:onSP e f):∃ a,e = some a ∧ f a:=by
  cases e with
  | none=>exact h.elim
  | some a=>exact ⟨a,rfl,h⟩
noncomputable def allP {α:Type}:List α→(α→Prop)→Prop
  | [],_=>True
  | x :: l,P=>P x ∧ allP l P
theorem allP_mem {α:Type} {P:α→Prop} {x:α} {l:List α}:allP l P→x ∈ l→P x:=by
  induction l with
  | nil=>exact fun _ h=>nomatch h
  | cons y l ih=>exact fun h hx=>(List.mem_cons.mp hx).elim (fun e=>e ▸ h.1) (ih h.2)
noncomputable def exArgs:Nat→(List Value→Prop)→Prop
  | 0,P=>P []
  | k + 1,P=>∀ v,exArgs k fun l=>P (v :: l)
theorem exArgs_of {l:List Value}:∀ {P:List Value→Prop},exArgs l.length P→P l:=by
  induction l with
  | nil=>exact fun {P} h=>h
  | cons v l ih=>exact fun {P} h=>ih (P:=fun l=>P (v :: l)) (h v)
noncomputable def refV (v:Value):Option Addr:=if h:v.ctorIdx = 10 then Value.ref.elim v h some else none
noncomputable def funcV (d:Data):Option FuncData:=if h:d.ctorIdx = 7 then Data.func.elim d h some else none
noncomputable def fnD (K:Frag) (a:Addr):Option FuncData:=(K.lookup a).bind fun o=>funcV o.data
noncomputable abbrev bindW:FuncData→Args→Sem (List (Str × Value)):=PySem.W.Fast.tw9782568553167038054
theorem bindW_eq (fd:FuncData) (as:Args):bindArgs fd as = bindW fd as:=congrFun (congrFun PySem.W.Fast.te9782568553167038054 fd) as
abbrev FnSpec:=Str × List Str × PF
noncomputable def onO (K:Frag) (a:Addr) (f:Obj→Bool):Bool:=onS (K.lookup a) fun o=>onType o.cls (fun _=>true) && f o
theorem onOK {K:Frag} {a:Addr} {f:Obj→Bool} {G:Prop} (h:onO K a f = true) (k:∀ o,K.lookup a = some o→o.cls ≠ .none→f o = true→G):G :=
  (onSK (m:=fun x=>K.lookup a = x→G) h fun o h e=>andK h fun h1 h2=>k o e (onTypeK (m:=(· ≠ .none)) h1 fun _ _ e=>nomatch e) h2) rfl
noncomputable def globK (K:Frag) (n:Str):Option Value:=(K.lookup mainGlobals).bind fun o=>match o.data with
  | .dict es _=>nsFind es n
  | _=>none
noncomputable def codeCheck (K:Frag) (q:Str) (v:Value):Bool:=onRef v fun c=>onO K c fun o=>onFields o.data fun vs=>onS vs[1]? fun v=>onStr v fun t _=>t == q
noncomputable def fdCheck (K:Frag) (P:Scope→List Stmt→Bool) (nm:List Str) (k:Nat) (fd:FuncData):Bool :=
  ([onStmts fd.body fun body=>P fd.scope body,
    fd.closure.isEmpty,fd.scope.kind == .function,!fd.scope.isCoroutine,!fd.scope.isGenerator,fd.globals == mainGlobals,fd.builtins == builtinsNs,codeCheck K fd.qualname fd.code,
    decide (k ≤ nm.length),decide nm.Nodup,decide ((fd.scope.names.map (·.1)).Nodup),fd.scope.names.all fun p=>p.2 != .free,
    (nm.take k).all fun n=>fd.scope.names.lookup n == some .local || fd.scope.names.lookup n == some .cell]:List Bool).all id
noncomputable def fnCheckP (K:Frag) (P:Scope→List Stmt→Bool) (n:Str) (nm:List Str) (k:Nat):Bool :=
  onS (globK K n) fun v=>onRef v fun a=>onO K a fun o=>onFunc o.data fun fd=>fdCheck K P nm k fd
noncomputable def BindE (K:Frag) (n:Str) (nm:List Str) (k:Nat):Prop:=onSP ((globK K n).bind refV) fun a=>onSP (fnD K a) fun fd=>exArgs k fun vals=>bindW fd ⟨vals,[]⟩ = pure ((nm.take k).zip vals)
noncomputable def fnCheck (K:Frag) (fn:List Str) (S:FnSpec):Bool:=fnCheckP K (fun sc body=>chkSs fn S.2.1 sc S.2.2.body body) S.1 S.2.1 S.2.2.arity
theorem globK_eq {Z:Zone} {K:Frag} (X:K.In Z.h₀) {n:Str} {v:Value} (h:globK K n = some v):Z.mg n = some v :=
  bndK h fun o ho h=>by
    obtain ⟨o',es,ep,e',hd,_,hall⟩:=Z.hg
    cases (X _ _ ho).symm.trans e'
    rw [hd] at h
    exact (hall n).symm.trans h
theorem codeOf {K:Frag} {h₀:Heap} (X:K.In h₀) {q:Str} {v:Value} (h:codeCheck K q v = true):∃ c oc vs t,v = .ref c ∧ h₀.get? c = some oc ∧ oc.cls ≠ .none ∧ oc.data = .fields vs ∧ vs[1]? = some (.str q t) :=
  by
  obtain ⟨c,e,h⟩:=onRefE h
  exact onOK h fun oc e1 e2 h=>by
    obtain ⟨vs,e3,h⟩:=onFieldsE h
    obtain ⟨_,e4,h⟩:=onSE h
    obtain ⟨_,t,e5,h⟩:=onStrE h
    exact ⟨c,oc,vs,t,e,X _ _ e1,e2,e3,e4.trans (congrArg some (e5.trans (by rw [eq_of_beq h])))⟩
theorem fnD_eq {K:Frag} {a:Addr} {o:Obj} {fd:FuncData} (h:K.lookup a = some o) (e:o.data = .func fd):fnD K a = some fd:=by
  unfold fnD
  rw [h]
  show funcV o.data = _
  rw [e]; rfl
theorem fnIs_of_fd {Z:Zone} {K:Frag} {P:Scope→List Stmt→Bool} {n:Str} {nm:List Str} {k:Nat} {a:Addr} {o:Obj} {fd:FuncData} (X:K.In Z.h₀) (hn:Z.mg n = some (.ref a)) (ho:K.lookup a = some o) (hc:o.cls ≠ .none) (hd:o.data = .func fd) (hbi:exArgs k fun vals=>bindW fd ⟨vals,[]⟩ = pure ((nm.take k).zip vals)) (h:fdCheck K P nm k fd = true) :
    ∃ body,FnIs Z n a o fd body nm k ∧ P fd.scope body = true:=by
  obtain ⟨body,hb,hck⟩:=onStmtsE (allAt h 0 rfl)
  refine ⟨body,{
    name:=hn
    obj:=X _ _ ho
    cls:=hc
    data:=hd
    body:=hb
    clo:=List.isEmpty_iff.mp (allAt h 1 rfl)
    kind:=eq_of_beq (allAt h 2 rfl)
    co:=notT (allAt h 3 rfl)
    gen:=notT (allAt h 4 rfl)
    glob:=eq_of_beq (allAt h 5 rfl)
    blt:=eq_of_beq (allAt h 6 rfl)
    code:=codeOf X (allAt h 7 rfl)
    bind:=fun vals hl=>(bindW_eq _ _).trans (exArgs_of (P:=fun vals=>bindW fd ⟨vals,[]⟩ = pure ((nm.take k).zip vals)) (hl ▸ hbi))
    len:=of_decide_eq_true (allAt h 8 rfl)
    nd:=of_decide_eq_true (allAt h 9 rfl)
    snd:=of_decide_eq_true (allAt h 10 rfl)
    nofree:=fun p hp=>bne_iff_ne.mp (List.all_eq_true.mp (allAt h 11 rfl) p hp)
    params:=fun n hn=>(Bool.or_eq_true _ _ ▸ List.all_eq_true.mp (allAt h 12 rfl) n hn).imp eq_of_beq eq_of_beq },hck⟩
theorem fnIs_of_check {Z:Zone} {K:Frag} {P:Scope→List Stmt→Bool} {n:Str} {nm:List Str} {k:Nat} (X:K.In Z.h₀) (hbi:BindE K n nm k) (h:fnCheckP K P n nm k = true) :
    ∃ a o fd body,FnIs Z n a o fd body nm k ∧ P fd.scope body = true :=
  by
  obtain ⟨v,e,h⟩:=onSE h
  obtain ⟨a,rfl,h⟩:=onRefE h
  obtain ⟨a',ea,hbi⟩:=onSPE hbi
  cases (congrArg (Option.bind · refV) e).symm.trans ea
  obtain ⟨fd',ef,hbi⟩:=onSPE hbi
  exact onOK h fun o ho hc h=>by
    obtain ⟨fd,hd,h⟩:=onFuncE h
    cases (fnD_eq ho hd).symm.trans ef
    obtain ⟨body,F⟩:=fnIs_of_fd X (globK_eq X e) ho hc hd hbi h
    exact ⟨a,o,_,body,F⟩
end Kt
end
section
open PySem PySem.W PyProof.Rows
namespace Kt
theorem tabOk_of {Z:Zone} {K:Frag} {fn:List Str} {tab:Nat→Option PF} {specs:List FnSpec} (X:K.In Z.h₀) (hb:allP specs fun S=>BindE K S.1 S.2.1 S.2.2.arity) (hc:specs.all (fnCheck K fn) = true) (ht:∀ f n pf,fn[f]? = some n→tab f = some pf→∃ nm,(n,nm,pf) ∈ specs):TabOk Z fn tab:=by
  intro f n pf hf hp
  obtain ⟨nm,hm⟩:=ht f n pf hf hp
  obtain ⟨a,o,fd,body,F,hk⟩:=fnIs_of_check X (allP_mem (P:=fun S:FnSpec=>BindE K S.1 S.2.1 S.2.2.arity) (x:=(n,nm,pf)) hb hm) (List.all_eq_true.mp hc _ hm)
  exact ⟨a,o,fd,body,nm,F,hk⟩
theorem run_fn {Z:Zone} {fn:List Str} {tab:Nat→Option PF} {prim:Nat→List PyData→Option PyData} {fuel lvl f c:Nat} {n:Str} {a:Addr} {args:List PyData} {d:PyData} {A:Around} {s:Shared} {vs:List Value} {as:List Addr} {E:Value→Shared→Prop}
    (hB:BiOk Z) (hT:TabOk Z fn tab) (hP:∀ fr,PrimOk (Z.at fr) c fn tab prim) (hn:fn[f]? = some n) (hm:Z.mg n = some (.ref a)) (hA:AOk Z (lvl + c) A) (hI:Inv Z s) (hsz:Z.n ≤ s.heap.objs.size) (r:RdAll s.heap vs args as) (hok:okDs args = true)
    (hrun:runF tab prim fuel lvl f args = some d):wpAny (model Z.prog Z.w) A (call (.ref a) vs) (fun v s'=>Inv Z s' ∧ ∃ bs,Rd s'.heap v d bs) E s:=by
  obtain ⟨a',o,fd,h1,_,_,_,h5⟩:=callOk hB hT hP lvl Z.fr f n args d hn hrun
  rw [hm] at h1; cases h1
  exact h5 A s vs as _ E hA hI hsz r hok fun v bs s' I' _ r' _ _=>⟨I',bs,r'⟩
theorem inv_start {Z:Zone} {s:Shared} (h:s.heap = Z.h₀) (hl:s.heap.NoLimit) (ht:Z.TabI s.heap) (hg:AllBare s.gens) (ho:s.os = Z.os) (hf:Z.fr = []):Inv Z s:=⟨h ▸ OldK.refl _,hl,ht,hg,ho,fun L hL=>by rw [hf] at hL; cases hL⟩
theorem rd_list_of {h:Heap} {a:Addr} {items:Array Value} {d:List PyData} {as:List Addr} (o:Obj) (e:h.get? a = some o) (hc:o.cls = .type "list") (hd:o.dict = none) {n:Nat} (hdata:o.data = .seq items n) (r:RdAll h items.toList d as):Rd h (.ref a) (.list d) (a :: as):=.list e ⟨hc,hd⟩ hdata r
end Kt
end
section
open PySem PySem.W PyProof.Rows
open AutoSeq1 (wpAny_loadPart')
open MeetsSeq MeetsSeq2 MeetsSeq3 SeqRoads2
namespace Kt
open SeqAt (EqAt)
theorem remove_loopAt (l:Addr) (items:Array Value) (n:Nat) (sl:Array (Option Value)) (x:Value) (e:Value→Bool) (j:Nat) (hj:j < items.size) (hit:e items[j] = true) (k:Nat) (hs1:items.size ≤ sizeLine) :
    ∀ i:Nat,j - i = k→i ≤ j→(∀ m (hm:m < items.size),i ≤ m→m < j→e items[m] = false)→Meets (Builtin.«list.remove.loop» ⟨[.ref l,x,rawInt i],[]⟩)
      (fun A R s=>s.heap.get? l = some { cls:=.type "list",dict:=none,data:=.seq items n,slots:=sl } ∧ (∀ y,y ∈ items→EqAt A.in1 s y x (e y)) ∧ R (.ok (.ret .none)) { s with heap:=s.heap.update l (Obj.mapSeq fun xs=>xs.eraseIdxIfInBounds j) }):=by
  induction k with
  | zero =>
    intro i hk hij hno prog w A R s h
    obtain ⟨hp,g,d,tk,os⟩:=s; obtain ⟨hl,he,h⟩:=h
    have hij':i = j:=by omega
    subst hij'
    wp_walk using wpAny_loadPart' hl
    have hi:items[((i:Nat):Int).toNat]? = some items[i]:=by simp [hj]
    rw [hi]
    refine wpAny_bind (he _ (Array.getElem_mem hj) prog w _ _ ?_)
    rw [hit]
    have hz':(items.eraseIdxIfInBounds i).size ≤ sizeLine + 1:=Nat.le_trans (size_erased items _) (Nat.le_succ_of_le hs1)
    wp_walk using (wpAny_updateSeq hl rfl (hz:=hs1) (_hz':=hz')),wpAny_loadPart' hl
    simpa using h
  | succ k ih =>
    intro i hk hij hno prog w A R s h
    obtain ⟨hp,g,d,tk,os⟩:=s; obtain ⟨hl,he,h⟩:=h
    have hlt:i < items.size:=by omega
    wp_walk using wpAny_loadPart' hl
    have hi:items[((i:Nat):Int).toNat]? = some items[i]:=by simp [hlt]
    have hc:((i:Int) + 1) = ((i + 1:Nat):Int):=by push_cast; rfl
    rw [hi]
    refine wpAny_bind (he _ (Array.getElem_mem hlt) prog w _ _ ?_)
    rw [hno i hlt (Nat.le_refl _) (by omega)]
    wp_walk
    rw [hc]
    exact ⟨plainId_quiet plain_remove_loop _,codeAny_builtin entry_remove_loop (by
      rw [Around.under_plainId plain_remove_loop _]
      exact ih (i + 1) (by omega) (by omega) (fun m hm h1 h2=>hno m hm (by omega) h2) prog w A R _ ⟨hl,he,h⟩)⟩
theorem list_removeAt (l:Addr) (items:Array Value) (n:Nat) (sl:Array (Option Value)) (x:Value) (e:Value→Bool) (j:Nat) (hj:j < items.size)
    (hit:e items[j] = true) (hno:∀ m (hm:m < items.size),m < j→e items[m] = false) (hs1:items.size ≤ sizeLine) :
    Meets (Builtin.«list.remove» ⟨[.ref l,x],[]⟩)
      (fun A R s=>s.heap.get? l = some { cls:=.type "list",dict:=none,data:=.seq items n,slots:=sl } ∧ (∀ y,y ∈ items→EqAt A.in1 s y x (e y)) ∧ R (.ok (.ret .none)) { s with heap:=s.heap.update l (Obj.mapSeq fun xs=>xs.eraseIdxIfInBounds j) }):=by
  intro prog w A R s h
  obtain ⟨hp,g,d,tk,os⟩:=s; obtain ⟨hl,he,h⟩:=h
  wp_walk using wpAny_loadPart' hl
  exact ⟨plainId_quiet plain_remove_loop _,codeAny_builtin entry_remove_loop (by
    rw [Around.under_plainId plain_remove_loop _]
    exact remove_loopAt l items n sl x e j hj hit _ hs1 0 rfl (Nat.zero_le _) (fun m hm _ h2=>hno m hm h2) prog w A R _ ⟨hl,he,h⟩)⟩
theorem remove_loop_noneAt (l:Addr) (items:Array Value) (n:Nat) (sl:Array (Option Value)) (x:Value) (e:Value→Bool) (hno:∀ m (hm:m < items.size),e items[m] = false) (k:Nat) :
    ∀ i:Nat,items.size - i = k→Meets (Builtin.«list.remove.loop» ⟨[.ref l,x,rawInt i],[]⟩)
      (fun A R s=>s.heap.get? l = some { cls:=.type "list",dict:=none,data:=.seq items n,slots:=sl } ∧ (∀ y,y ∈ items→EqAt A.in1 s y x (e y)) ∧ raisesNew "ValueError" A R s):=by
  induction k with
  | zero =>
    intro i hk prog w A R s h
    obtain ⟨hp,g,d,tk,os⟩:=s; obtain ⟨hl,he,h⟩:=h
    wp_walk using wpAny_loadPart' hl
    have hi:items[((i:Nat):Int).toNat]? = none:=by simp; omega
    rw [hi]
    wp_walk
    exact_raiseError plainExc_ValueError h.1 h.2
  | succ k ih =>
    intro i hk prog w A R s h
    obtain ⟨hp,g,d,tk,os⟩:=s; obtain ⟨hl,he,h⟩:=h
    have hlt:i < items.size:=by omega
    wp_walk using wpAny_loadPart' hl
    have hi:items[((i:Nat):Int).toNat]? = some items[i]:=by simp [hlt]
    have hc:((i:Int) + 1) = ((i + 1:Nat):Int):=by push_cast; rfl
    rw [hi]
    refine wpAny_bind (he _ (Array.getElem_mem hlt) prog w _ _ ?_)
    rw [hno i hlt]
    wp_walk
    rw [hc]
    exact ⟨plainId_quiet plain_remove_loop _,codeAny_builtin entry_remove_loop (by
      rw [Around.under_plainId plain_remove_loop _]
      exact ih (i + 1) (by omega) prog w A R _ ⟨hl,he,h⟩)⟩
theorem list_remove_noneAt (l:Addr) (items:Array Value) (n:Nat) (sl:Array (Option Value)) (x:Value) (e:Value→Bool) (hno:∀ m (hm:m < items.size),e items[m] = false) :
    Meets (Builtin.«list.remove» ⟨[.ref l,x],[]⟩)
      (fun A R s=>s.heap.get? l = some { cls:=.type "list",dict:=none,data:=.seq items n,slots:=sl } ∧ (∀ y,y ∈ items→EqAt A.in1 s y x (e y)) ∧ raisesNew "ValueError" A R s):=by
  intro prog w A R s h
  obtain ⟨hp,g,d,tk,os⟩:=s; obtain ⟨hl,he,h⟩:=h
  wp_walk using wpAny_loadPart' hl
  exact ⟨plainId_quiet plain_remove_loop _,codeAny_builtin entry_remove_loop (by
    rw [Around.under_plainId plain_remove_loop _]
    exact remove_loop_noneAt l items n sl x e hno _ 0 rfl prog w A R _ ⟨hl,he,h⟩)⟩
end Kt
end
section
open PySem PySem.W PyProof.Rows
namespace Kt
noncomputable def hide (h:Heap):List Addr→Heap
  | []=>h
  | a :: r=>hide (h.update a fun o=>{ o with data:=.freed }) r
theorem get?_hide_one (h:Heap) (a b:Addr):(h.update a fun o=>{ o with data:=.freed }).get? b = if b = a then none else h.get? b:=by
  by_cases e:b = a
  · subst e
    rw [if_pos rfl]
    cases hx:(h.update b fun o=>{ o with data:=.freed }).get? b with
    | none=>rfl
    | some o =>
      obtain ⟨e1,e2⟩:=Heap.get?_some_iff.mp hx
      cases h
      simp only [Heap.update,Array.getElem?_modify,if_true,Option.map_eq_some_iff] at e1
      obtain ⟨o',_,rfl⟩:=e1
      simp [Obj.isFreed] at e2
  · rw [if_neg e,Heap.get?_update_other _ _ (Ne.symm e)]
theorem get?_hide:∀ (fr:List Addr) (h:Heap) (b:Addr),(hide h fr).get? b = if b ∈ fr then none else h.get? b
  | [],h,b=>by simp [hide]
  | a :: r,h,b=>by
    unfold hide
    rw [get?_hide r,get?_hide_one]
    by_cases e:b = a
    · subst e; simp
    · by_cases e2:b ∈ r <;> simp [e,e2]
theorem stays_hide (h:Heap) (fr:List Addr):(hide h fr).StaysIn h:=fun b o e=>by
  rw [get?_hide] at e
  split at e
  · cases e
  · exact e
theorem funFrames_of {Z:Zone} {s:Shared} (I:Inv Z s):∀ {fs:List Env},(∀ env ∈ fs,env.scope.kind ≠ .module ∧ ∃ L,env.frame = some L ∧ L ∈ Z.fr)→s.heap.FunFrames (hide s.heap Z.fr) fs
  | [],_=>trivial
  | env :: rest,h=>by
    obtain ⟨h1,L,h2,h3⟩:=h env List.mem_cons_self
    obtain ⟨_,o,e,es,ep,hd⟩:=I.frs L h3
    exact ⟨h1,⟨L,o,h2,by rw [get?_hide,if_pos h3],e,fun vs h=>by rw [hd] at h; cases h⟩,funFrames_of I fun env' he=>h env' (List.mem_cons_of_mem _ he)⟩
theorem kp_of_stays {Z:Zone} {s:Shared} (I:Inv Z s) {h':Heap} (h1:(hide s.heap Z.fr).StaysIn h') (h2:∀ b o,s.heap.get? b = some o→(∀ vs,o.data ≠ .fields vs)→∃ sl,h'.get? b = some { o with slots:=sl }):Kp Z.n s.heap h' where
  k:=fun b o e _=>by
    by_cases hb:b ∈ Z.fr
    · obtain ⟨_,o',e',es,ep,hd⟩:=I.frs b hb
      rw [e] at e'; cases e'
      obtain ⟨sl,h⟩:=h2 b o e fun vs h=>by rw [hd] at h; cases h
      exact .inr ⟨⟨es,ep,hd⟩,sl,h⟩
    · exact .inl (h1 b o (by rw [get?_hide,if_neg hb]; exact e))
theorem inv_of_stays {Z:Zone} {s:Shared} (I:Inv Z s) {h':Heap} {tk:Nat} (h1:(hide s.heap Z.fr).StaysIn h') (h2:∀ b o,s.heap.get? b = some o→(∀ vs,o.data ≠ .fields vs)→∃ sl,h'.get? b = some { o with slots:=sl }):Inv Z { s with heap:=h',toks:=tk }:=by
  refine I.step (fun b o hb e=>h1 b o ?_) Z.lowC fun L hL o e hd=>?_
  · rw [get?_hide,if_neg fun hm=>?_]
    · exact e
    · exact absurd hb (Nat.not_lt.mpr (I.frs b hm).1)
  · obtain ⟨es,ep,hd⟩:=hd
    obtain ⟨sl,h⟩:=h2 L o e fun vs h=>by rw [hd] at h; cases h
    exact ⟨_,h,es,ep,hd⟩
theorem noteFrame_first {M:Model} {A:Around} {E:Value→Shared→Prop} {s:Shared} {base:Heap} {env:Env} {outer:List Env} {L e:Addr} {oe:Obj} {vs:Array Value} {a0:Value} {Q:Unit→Shared→Prop}
    (hfr:A.frames = some (env :: outer)) (hl:s.heap.FunFrames base (env :: outer)) (hf:env.frame = some L) (he:s.heap.get? e = some oe) (hkb:base.StaysIn s.heap) (hen:base.get? e = none) (hd:oe.data = .fields vs) (h0:vs[0]? = some a0) (h1:vs[1]? = some .none)
    (h:∀ h',Heap.NotedW base (env :: outer) e oe.cls a0 (rawInt L) s.heap h'→Q () { s with heap:=h' }):wpAny M A (noteFrame (.ref e) env) Q E s:=by
  unfold noteFrame
  simp only [hf]
  refine wpAny_bind (wpAny_field he hd h1 ?_)
  rw [if_neg (by decide)]
  exact wpAny_entryW hfr hl hf he hkb hen hd (Array.getElem?_eq_some_iff.mp h1).1 h0 h
end Kt
end
section
open PySem PySem.W PyProof.Rows
namespace Kt
abbrev Sc:=List (Nat × Obj)
noncomputable def ldK (K:Frag) (h:Heap) (a:Addr) (f:Obj→Sc→Prop) (sc:Sc):Prop:=match sc with
  | []=>match K.lookup a with | some o=>f o [] | none=>False
  | p :: r=>match p.1 with
    | 0=>h.get? a = some p.2 ∧ f p.2 r
    | n + 1=>match K.lookup a with | some o=>f o ((n,p.2) :: r) | none=>False
noncomputable def vc {α:Type} (cf:Code→(Result→Sc→Shared→Prop)→Sc→Shared→Prop) (K:Frag) (S:Setting) (Q:α→Sc→Shared→Prop) (E:Value→Sc→Shared→Prop) (t:Sem α):Sc→Shared→Prop:=match t with
  | .pure a=>Q a
  | .raise e=>E e
  | .rule _ k=>vc cf K S Q E (k ())
  | .at _ k=>vc cf K S Q E (k ())
  | .point _ k=>vc cf K S Q E (k ())
  | .ask k=>vc cf K S Q E (k S)
  | .load a _ k=>fun sc s=>ldK K s.heap a (fun o sc=>vc cf K S Q E (k o) sc s) sc
  | .alloc o k=>fun sc s=>vc cf K S Q E (k s.heap.objs.size) sc { s with heap:=s.heap.push o }
  | .update a _ f k=>fun sc s=>((s.heap.get? a).isSome = true ∧ K.In (s.heap.update a f)) ∧ vc cf K S Q E (k ()) sc { s with heap:=s.heap.update a f }
  | .fresh k=>fun sc s=>vc cf K S Q E (k s.toks) sc { s with toks:=s.toks + 1 }
  | .handled own k=>bif own then fun _ _=>False else vc cf K S Q E (k none)
  | .call c hd _ _ k=>match hd with | none=>cf c (fun r=>vc cf K S Q E (k r)) | some _=>fun _ _=>False
  | _=>fun _ _=>False
noncomputable def vcC (D:Code→Sem Fin) (K:Frag) (S:Setting):Nat→Code→(Result→Sc→Shared→Prop)→Sc→Shared→Prop
  | 0=>fun _ _ _ _=>False
  | n + 1=>fun c R=>vc (vcC D K S n) K S (fun fin=>match fin with | .done f=>R (.ok f) | .again c'=>fun sc s=>c'.quiet = true ∧ vcC D K S n c' R sc s) (fun e=>R (.error e)) (D c)
section
variable {α:Type} {M:Model} {K:Frag}
theorem ldK_wp {h:Heap} {a:Addr} {f:Obj→Sc→Prop} {sc:Sc} (X:K.In h) (x:ldK K h a f sc) {g:Obj→Prop} (hg:∀ o sc,f o sc→g o):∃ o,h.get? a = some o ∧ g o:=by
  have key:∀ sc',(match K.lookup a with | some o=>f o sc' | none=>False)→∃ o,h.get? a = some o ∧ g o:=fun sc' x=>by
    cases e:K.lookup a with
    | none=>rw [e] at x; exact x.elim
    | some o=>rw [e] at x; exact ⟨o,X _ _ e,hg _ _ x⟩
  cases sc with
  | nil=>exact key _ x
  | cons p r =>
    obtain ⟨n,o⟩:=p
    cases n with
    | zero=>exact ⟨o,x.1,hg _ _ x.2⟩
    | succ n=>exact key _ x
theorem vc_wp {cf:Code→(Result→Sc→Shared→Prop)→Sc→Shared→Prop} {A:Around} (hcf:∀ {c:Code} {R:Result→Sc→Shared→Prop} {sc:Sc} {s:Shared},K.In s.heap→cf c R sc s→codeAny M (A.mark none) c (fun r s'=>∃ sc',K.In s'.heap ∧ R r sc' s') s)
    {Q:α→Sc→Shared→Prop} {E:Value→Sc→Shared→Prop} (hh:A.handled = none) (t:Sem α):∀ {sc:Sc} {s:Shared},K.In s.heap→vc cf K ⟨M.prog,M.w.params⟩ Q E t sc s→wpAny M A t (fun a s'=>∃ sc',K.In s'.heap ∧ Q a sc' s') (fun e s'=>∃ sc',K.In s'.heap ∧ E e sc' s') s:=by
  induction t with
  | pure a=>exact fun X x _ _ _=>⟨_,X,x⟩
  | raise e=>exact fun X x _ _ _=>⟨_,X,x⟩
  | rule _ k ih=>exact fun X x Γ p hΓ=>ih () X x Γ p hΓ
  | «at» p k ih=>exact fun X x Γ _ hΓ=>ih () X x Γ p hΓ
  | point _ k ih=>exact fun X x Γ p hΓ=>ih () X x Γ p hΓ
  | ask k ih=>exact fun X x Γ p hΓ=>ih _ X x Γ p hΓ
  | load a _ k ih=>exact fun {sc s} X x Γ p hΓ=>ldK_wp (f:=fun o sc=>vc cf K ⟨M.prog,M.w.params⟩ Q E (k o) sc s) X x fun o _ x=>ih o X x Γ p hΓ
  | alloc o k ih=>exact fun {sc s} X x Γ p hΓ=>ih _ (X.keeps fun _ _ e=>Heap.get?_push_of_some _ e) x Γ p hΓ
  | update a _ f k ih=>exact fun X x Γ p hΓ=>⟨x.1.1,ih () x.1.2 x.2 Γ p hΓ⟩
  | fresh k ih=>exact fun {sc s} X x Γ p hΓ=>ih s.toks (s:={ s with toks:=s.toks + 1 }) X x Γ p hΓ
  | handled own k ih =>
    intro sc s X x Γ p hΓ
    cases own with
    | true=>exact x.elim
    | false =>
    show Sem.wp M Γ (k Γ.handled) _ _ p _
    rw [hΓ.1,hh]
    exact ih none X x Γ p hΓ
  | call c hd g l k ih =>
    intro sc s X x Γ p hΓ
    cases hd with
    | some e=>exact x.elim
    | none =>
    exact wpCode_mono (fun r s' ⟨_,X',x'⟩=>ih r X' x' Γ p hΓ) (hcf X x (Γ.enter c none p) p rfl (hΓ.enter c none p nofun))
  | _=>exact fun _ x=>x.elim
theorem vcC_code {D:Code→Sem Fin} (hD:M.den = D) (n:Nat):∀ {A:Around} {c:Code} {R:Result→Sc→Shared→Prop} {sc:Sc} {s:Shared},A.handled = none→K.In s.heap→vcC D K ⟨M.prog,M.w.params⟩ n c R sc s→codeAny M A c (fun r s'=>∃ sc',K.In s'.heap ∧ R r sc' s') s:=by
  induction n with
  | zero=>exact fun _ _ x=>x.elim
  | succ n ih =>
    intro A c R sc s hh X x
    refine codeAny_of_tree ?_
    rw [hD]
    refine wpAny_mono (vc_wp (A:=A.under c) (ih (by rw [Around.mark_none]; exact hh)) hh (D c) X x) (fun fin s' h=>?_) fun _ _ e=>e
    obtain ⟨sc',X',h⟩:=h
    cases fin with
    | done f=>exact ⟨sc',X',h⟩
    | again c'=>exact ⟨h.1,ih hh X' h.2⟩
end
end Kt
end
section
open PySem PySem.W PyProof.Rows
namespace Kt
noncomputable abbrev D0:Code→Sem Fin:=PySem.W.Fast.tw11892475500146522536 PySem.W.Fast.tw14364793385576792824
theorem den_eq (prog:Program) (w:World):(model prog w).den = D0:=(congrArg denote table_eq_tree).trans ((congrFun PySem.W.Fast.te11892475500146522536 treeTable).trans (congrArg PySem.W.Fast.tw11892475500146522536 PySem.W.Fast.te14364793385576792824))
theorem kwalk {prog:Program} {w:World} {K:Frag} {A:Around} {c:Code} {R:Result→Shared→Prop} {s:Shared} (n:Nat) (sc:Sc) (P:Prop) (hh:A.handled = none) (X:K.In s.heap) (e:vcC D0 K ⟨prog,w.params⟩ n c (fun r _ s=>R r s) sc s = P) (h:P):codeAny (model prog w) A c R s :=
  codeAny_mono (vcC_code (M:=model prog w) (den_eq prog w) n hh X (e.mpr h)) fun _ _ ⟨_,_,x⟩=>x
theorem swalk {α:Type} {prog:Program} {w:World} {K:Frag} {A:Around} {t t':Sem α} {Q:α→Shared→Prop} {E:Value→Shared→Prop} {s:Shared} (et:t = t') (n:Nat) (sc:Sc) (P:Prop) (hh:A.handled = none) (X:K.In s.heap)
    (e:vc (vcC D0 K ⟨prog,w.params⟩ n) K ⟨prog,w.params⟩ (fun a _ s=>Q a s) (fun e _ s=>E e s) t' sc s = P) (h:P):wpAny (model prog w) A t Q E s:=by
  subst et
  exact wpAny_mono (vc_wp (M:=model prog w) (vcC_code (M:=model prog w) (den_eq prog w) n (by rw [Around.mark_none]; exact hh)) hh t X (e.mpr h)) (fun _ _ ⟨_,_,x⟩=>x) fun _ _ ⟨_,_,x⟩=>x
end Kt
end
section
open PySem PySem.W PyProof.Rows
namespace Kt
noncomputable def finK (R:Result→Shared→Prop) (G:Code→Sc→Shared→Prop) (f:Fin) (sc:Sc) (s:Shared):Prop:=match f with | .done f=>R (.ok f) s | .again c=>G c sc s
abbrev Mk:=Code→Option (Addr→Addr→Value × Sc)
noncomputable def hkC (M:Model) (A:Around) (K:Frag) (mk:Mk) (cf:Code→(Result→Sc→Shared→Prop)→Sc→Shared→Prop) (c:Code) (R:Result→Sc→Shared→Prop) (sc:Sc) (s:Shared):Prop:=match mk c with
  | some g=>codeAny M A c (fun r s'=>∃ x d,r = .ok (.ret (g x d).1) ∧ K.In s'.heap ∧ R (.ok (.ret (g x d).1)) (g x d).2 s') s
  | none=>cf c R sc s
noncomputable def vcH (prog:Program) (w:World) (K:Frag) (n:Nat) (c:Code) (R:Result→Shared→Prop) (G:Code→Sc→Shared→Prop):Sc→Shared→Prop :=
  vc (vcC D0 K ⟨prog,w.params⟩ n) K ⟨prog,w.params⟩ (finK R G) (fun e _ s=>R (.error e) s) (D0 c)
noncomputable def vcK (prog:Program) (w:World) (A:Around) (K:Frag) (mk:Mk) (n:Nat) (c c0:Code) (R:Result→Shared→Prop):Sc→Shared→Prop :=
  vcH prog w K n c R fun c1 sc s=>c1.quiet = true ∧ vcH prog w K n c1 R (fun c' sc s=>(c' = c0 ∧ c'.quiet = true) ∧
    vc (hkC (model prog w) (A.under c0) K mk (vcC D0 K ⟨prog,w.params⟩ n)) K ⟨prog,w.params⟩ (finK R fun _ _ _=>False) (fun e _ s=>R (.error e) s) (D0 c0) sc s) sc s
noncomputable def hkA (M:Model) (K:Frag) (mk:Mk) (cf:Code→(Result→Sc→Shared→Prop)→Sc→Shared→Prop) (c:Code) (R:Result→Sc→Shared→Prop) (sc:Sc) (s:Shared):Prop:=match mk c with
  | some g=>∀ A:Around,A.handled = none→codeAny M A c (fun r s'=>∃ x d,r = .ok (.ret (g x d).1) ∧ K.In s'.heap ∧ R (.ok (.ret (g x d).1)) (g x d).2 s') s
  | none=>cf c R sc s
noncomputable def vcF (prog:Program) (w:World) (K:Frag) (mk:Mk) (n:Nat) (fd:FuncData) (body:List Stmt) (f:Addr) (args:Args) (R:Result→Shared→Prop):Sc→Shared→Prop :=
  vc (vcC D0 K ⟨prog,w.params⟩ n) K ⟨prog,w.params⟩ (fun binds=>vc (vcC D0 K ⟨prog,w.params⟩ n) K ⟨prog,w.params⟩ (fun env sc s=>s.heap.NoLimit ∧ vc (hkA (model prog w) K mk (vcC D0 K ⟨prog,w.params⟩ n)) K ⟨prog,w.params⟩ (finK R fun _ _ _=>False) (fun e _ s=>R (.error e) s) (D0 (.func body env)) sc s) (fun e _ s=>R (.error e) s)
    (PySem.W.Fast.tw11113344188204177931 fd.scope fd.globals fd.closure binds (fd.qualname ++ ".<locals>.") (some f) fd.code none fd.builtins)) (fun e _ s=>R (.error e) s) (PySem.W.Fast.tw9782568553167038054 fd args)
section
variable {prog:Program} {w:World} {K:Frag} {A:Around} {R:Result→Shared→Prop} {s:Shared}
theorem hkC_ok {M:Model} {mk:Mk} {cf:Code→(Result→Sc→Shared→Prop)→Sc→Shared→Prop} (hcf:∀ {c:Code} {R:Result→Sc→Shared→Prop} {sc:Sc} {s:Shared},K.In s.heap→cf c R sc s→codeAny M A c (fun r s'=>∃ sc',K.In s'.heap ∧ R r sc' s') s)
    {c:Code} {R:Result→Sc→Shared→Prop} {sc:Sc} {s:Shared} (X:K.In s.heap) (x:hkC M A K mk cf c R sc s):codeAny M A c (fun r s'=>∃ sc',K.In s'.heap ∧ R r sc' s') s:=by
  unfold hkC at x
  cases e:mk c with
  | none=>rw [e] at x; exact hcf X x
  | some g =>
    rw [e] at x
    refine codeAny_mono x fun r s' h=>?_
    obtain ⟨x,d,e,X',h⟩:=h
    exact ⟨_,X',e ▸ h⟩
theorem last_hop {c:Code} {G:Code→(Result→Sc→Shared→Prop)→Sc→Shared→Prop} {sc:Sc} (hh:A.handled = none) (hG:∀ {c':Code} {R:Result→Sc→Shared→Prop} {sc:Sc} {s:Shared},K.In s.heap→G c' R sc s→codeAny (model prog w) (A.under c) c' (fun r s'=>∃ sc',K.In s'.heap ∧ R r sc' s') s) (X:K.In s.heap)
    (h:vc G K ⟨prog,w.params⟩ (finK R fun _ _ _=>False) (fun e _ s=>R (.error e) s) (D0 c) sc s):codeAny (model prog w) A c R s:=by
  refine codeAny_of_tree ?_
  rw [den_eq]
  refine wpAny_mono (vc_wp (M:=model prog w) (A:=A.under c) (by rw [Around.mark_none]; exact hG) hh (D0 c) X h) (fun fin s' h=>?_) fun _ _ x=>x.elim fun _ x=>x.2
  obtain ⟨_,_,h⟩:=h
  cases fin with
  | done f=>exact h
  | again c'=>exact h.elim
theorem hop {c:Code} {n:Nat} {G:Code→Sc→Shared→Prop} {sc:Sc} (hh:A.handled = none) (hG:∀ c' sc s,K.In s.heap→G c' sc s→c'.quiet = true ∧ codeAny (model prog w) A c' R s) (X:K.In s.heap) (h:vcH prog w K n c R G sc s):codeAny (model prog w) A c R s:=by
  refine codeAny_of_tree ?_
  rw [den_eq]
  refine wpAny_mono (vc_wp (M:=model prog w) (A:=A.under c) (by rw [Around.mark_none]; exact vcC_code (M:=model prog w) (den_eq prog w) n hh) hh (D0 c) X h) (fun fin s' h=>?_) fun _ _ x=>x.elim fun _ x=>x.2
  obtain ⟨sc',X',h⟩:=h
  cases fin with
  | done f=>exact h
  | again c'=>exact hG c' sc' s' X' h
theorem cwalk {mk:Mk} {c c0:Code} (n:Nat) (sc:Sc) (P:Prop) (hh:A.handled = none) (X:K.In s.heap) (e:vcK prog w A K mk n c c0 R sc s = P) (h:P):codeAny (model prog w) A c R s:=by
  refine hop hh (fun c1 sc s X h=>⟨h.1,hop hh (fun c' sc s X h=>⟨h.1.2,?_⟩) X h.2⟩) X (e.mpr h)
  rw [h.1.1]
  exact last_hop hh (hkC_ok (A:=A.under c0) (cf:=vcC D0 K ⟨prog,w.params⟩ n) (vcC_code (A:=A.under c0) (M:=model prog w) (den_eq prog w) n hh)) X h.2
theorem hkA_ok {A:Around} {mk:Mk} {n:Nat} {c:Code} {R:Result→Sc→Shared→Prop} {sc:Sc} {s:Shared} (hh:A.handled = none) (X:K.In s.heap) (x:hkA (model prog w) K mk (vcC D0 K ⟨prog,w.params⟩ n) c R sc s):codeAny (model prog w) A c (fun r s'=>∃ sc',K.In s'.heap ∧ R r sc' s') s:=by
  refine hkC_ok (mk:=mk) (cf:=vcC D0 K ⟨prog,w.params⟩ n) (sc:=sc) (vcC_code (M:=model prog w) (den_eq prog w) n hh) X ?_
  unfold hkA at x
  unfold hkC
  cases e:mk c with
  | none=>rw [e] at x; exact x
  | some g=>rw [e] at x; exact x A hh
theorem fwalk {f:Addr} {args:Args} {o:Obj} {fd:FuncData} {body:List Stmt} {mk:Mk} {n:Nat} {sc:Sc} (hh:A.handled = none) (X:K.In s.heap) (hroom:A.depth < recursionLimit)
    (ho:s.heap.get? f = some o) (hd:o.data = .func fd) (hco:fd.scope.isCoroutine = false) (hgen:fd.scope.isGenerator = false) (hbody:fd.body = .stmts body) (hcd:s.heap.CodeRec fd.code fd.qualname)
    (h:vcF prog w K mk n fd body f args R sc s):codeAny (model prog w) A (.call (.ref f) args) R s:=by
  refine codeAny_call_function hroom ho hd hco hgen hbody hcd ?_
  rw [PySem.W.Fast.te11113344188204177931,congrFun (congrFun PySem.W.Fast.te9782568553167038054 fd) args]
  refine wpAny_mono (vc_wp (M:=model prog w) (A:=A.in1) (by rw [Around.mark_none]; exact vcC_code (M:=model prog w) (den_eq prog w) n hh) hh _ X h) (fun binds s' h=>?_) fun _ _ x=>x.elim fun _ x=>x.2
  obtain ⟨sc',X',h⟩:=h
  refine wpAny_mono (vc_wp (M:=model prog w) (A:=A.in1) (by rw [Around.mark_none]; exact vcC_code (M:=model prog w) (den_eq prog w) n hh) hh _ X' h) (fun env s' h=>?_) fun _ _ x=>x.elim fun _ x=>x.2
  obtain ⟨sc',X',h1,h⟩:=h
  exact ⟨h1,last_hop hh (hkA_ok hh) X' h⟩
end
end Kt
end
section
open PySem PySem.W PyProof.Rows
namespace Kt
noncomputable def removeD:List PyData→PyData→Option (List PyData)
  | [],_=>none
  | y :: ys,x=>if PyData.eqv y x then some ys else (removeD ys x).map (y :: ·)
noncomputable def removesD:List PyData→List PyData→Option (List PyData)
  | [],ts=>some ts
  | x :: xs,ts=>(removeD ts x).bind (removesD xs)
noncomputable def dedupD:List PyData→List PyData→List PyData
  | [],acc=>acc
  | x :: xs,acc=>dedupD xs (if acc.any (fun y=>PyData.eqv y x) then acc else acc ++ [x])
noncomputable def compareD (xs ys:List PyData):Bool:=match removesD (dedupD xs []) (dedupD ys []) with
  | some r=>r.isEmpty
  | none=>false
theorem removeD_some:∀ {ts:List PyData} {d:PyData} {ts':List PyData},removeD ts d = some ts'→∃ j,∃ h:j < ts.length,PyData.eqv ts[j] d = true ∧ (∀ m (hm:m < ts.length),m < j→PyData.eqv ts[m] d = false) ∧ ts' = ts.eraseIdx j
  | y :: ys,d,ts',h=>by
    rw [removeD] at h
    cases hy:PyData.eqv y d with
    | true =>
      rw [hy] at h
      cases h
      exact ⟨0,Nat.zero_lt_succ _,hy,fun m _ hm=>absurd hm (Nat.not_lt_zero m),rfl⟩
    | false =>
      rw [hy] at h
      obtain ⟨r,hr,e⟩:=Option.map_eq_some_iff.mp h
      obtain ⟨j,hj,h1,h2,e'⟩:=removeD_some hr
      exact ⟨j + 1,Nat.succ_lt_succ hj,h1,fun m hm hlt=>match m,hm,hlt with
        | 0,_,_=>hy
        | m + 1,hm,hlt=>h2 m (Nat.lt_of_succ_lt_succ hm) (Nat.lt_of_succ_lt_succ hlt),by rw [← e,e']; rfl⟩
theorem removeD_none:∀ {ts:List PyData} {d:PyData},removeD ts d = none→∀ m (hm:m < ts.length),PyData.eqv ts[m] d = false
  | y :: ys,d,h,m,hm=>by
    rw [removeD] at h
    cases hy:PyData.eqv y d with
    | true=>rw [hy] at h; cases h
    | false =>
      rw [hy] at h
      cases m with
      | zero=>exact hy
      | succ m=>exact removeD_none (Option.map_eq_none_iff.mp h) m (Nat.lt_of_succ_lt_succ hm)
theorem depth_mem:∀ {xs:List PyData} {x:PyData},x ∈ xs→x.depth ≤ PyData.depthAll xs
  | y :: ys,x,h=>by
    rw [PyData.depthAll]
    exact (List.mem_cons.mp h).elim (fun e=>e ▸ Nat.le_max_left _ _) fun h=>Nat.le_trans (depth_mem h) (Nat.le_max_right _ _)
theorem lookV_lt {ρ:PEnv} {x:Nat} {d:PyData} (h:lookV ρ x = some d):x < ρ.length:=by
  unfold lookV at h
  cases e:ρ[x]? with
  | none=>rw [e] at h; cases h
  | some q=>exact (List.getElem?_eq_some_iff.mp e).1
theorem lookV_put {ρ:PEnv} {x:Nat} (q:Option PyData) (h:x < ρ.length):lookV (ρ.set x q) x = q:=by
  unfold lookV
  rw [List.getElem?_set,if_pos rfl,if_pos h]
  cases q <;> rfl
theorem rdAll_erase {h:Heap}:∀ {vs:List Value} {ds:List PyData} {as:List Addr} (j:Nat),RdAll h vs ds as→∃ bs,RdAll h (vs.eraseIdx j) (ds.eraseIdx j) bs ∧ ∀ a ∈ bs,a ∈ as
  | _,_,_,_,.nil=>⟨[],.nil,fun _ h=>h⟩
  | _,_,_,0,.cons _ r2=>⟨_,r2,fun a ha=>List.mem_append_right _ ha⟩
  | _,_,_,j + 1,.cons r1 r2=>let ⟨bs,hb,hs⟩:=rdAll_erase j r2; ⟨_ ++ bs,.cons r1 hb,fun a ha=>(List.mem_append.mp ha).elim (List.mem_append_left _) fun ha=>List.mem_append_right _ (hs a ha)⟩
section
variable {Z:Zone} {cl:Nat→List PyData→Option PyData} {lvl:Nat} {nm:List Str} {sc:Scope}
theorem list_copy {A:Around} {env:Env} {ρ:PEnv} {O:List (Option Nat × Addr)} {s:Shared} {Q:Value→Shared→Prop} {E:Value→Shared→Prop} {x:Expr} {p:PE} {q pos:Pos} {xs:List PyData} (hB:BiOk Z) (hg:globOk sc "list" = true) (hst:isStarred x = false) (h:SE Z cl lvl nm sc x p)
    (X:Cx Z lvl nm sc A env ρ O s) (hx:evE cl p ρ = some (.list xs))
    (hQ:∀ b bs s',Inv Z s'→Kp Z.n s.heap s'.heap→Rd s'.heap (.ref b) (.list xs) (b :: bs)→okD (.list xs) = true→(∀ yb ∈ O,yb.2 ∈ b :: bs→InO yb.1 (esc p))→s.heap.get? b = none→Z.n ≤ b→Q (.ref b) s') :
    wpAny (model Z.prog Z.w) A (eval (.Call (.Name "list" q) [x] [] pos) env) Q E s :=
  call_bltn (ps:=.cons p .nil) (ds:=[.list xs]) hB X hg (v:=.type "list") (by decide) nofun nofun (plain_one hst) (ses_one hst h) (by rw [evEs,hx]; rfl) fun vs as s₁ I₁ k₁ r₁ ok₁ o₁ =>
    rdAll1 (m:=fun vs as=>(∀ yb ∈ O,yb.2 ∈ as→InO yb.1 (escs (.cons p .nil)))→wpAny _ A (call (.type "list") vs) Q E s₁) r₁ (fun v as r1 o₁=>by
      obtain ⟨la,ws,n,sl,as',e,ho,rvs,e'⟩:=rd_list_obj r1
      subst e e'
      have hok:okD (.list xs) = true:=(andT ok₁).1
      have hn:Z.n ≤ s₁.heap.objs.size:=(X.he.kp k₁).size
      have hsz:ws.size = xs.length:=Array.length_toList.symm.trans (rdAll_length rvs)
      refine call_list_seq la (.inl rfl) ho rfl rfl (fun h' c' hk hnew=>?_) (hsz ▸ (okL hok).1)
      refine hQ s₁.heap.objs.size as' _ (I₁.full (tk:=s₁.toks) hk) (k₁.trans (Kp.of hk)) (.list hnew ⟨rfl,rfl⟩ rfl (rvs.map fun _ _ _ e _=>hk _ _ e)) hok (fun yb hy hm=>(List.mem_cons.mp hm).elim (fun e=>?_) fun hm=>?_) (k₁.none hn (get?_ge (Nat.le_refl _))) hn
      · exact absurd ((X.he.kp k₁).lt yb hy) (by rw [e]; exact Nat.lt_irrefl _)
      · obtain ⟨y,h1,h2⟩:=o₁ yb hy (List.mem_cons_of_mem _ hm)
        exact ⟨y,by rw [escs,escs,List.append_nil] at h1; exact h1,h2⟩) o₁
theorem rem_call {A:Around} {E:Value→Shared→Prop} {s:Shared} {Q:Value→Shared→Prop} {b:Addr} {items:Array Value} {c:Nat} {sl:Array (Option Value)} {ts:List PyData} {bs cs:List Addr} {v:Value} {d:PyData} (hA:AOk Z lvl A)
    (ho:s.heap.get? b = some { cls:=.type "list",dict:=none,data:=.seq items c,slots:=sl }) (r:RdAll s.heap items.toList ts bs) (rv:Rd s.heap v d cs) (hts:okD (.list ts) = true) (hd:okD d = true) (hdep:d.depth ≤ 64)
    (hE:removeD ts d = none→∀ h' tk e,Heap.NewExc s.heap h' e "ValueError" → E (.ref e) { s with heap:=h',toks:=tk })
    (hQ':∀ ts' j,removeD ts d = some ts'→j < ts.length→ts' = ts.eraseIdx j→Q .none { s with heap:=s.heap.update b (Obj.mapSeq fun xs=>xs.eraseIdxIfInBounds j) }) :
    wpAny (model Z.prog Z.w) A (call (.builtin "list.remove") [.ref b,v]) Q E s:=by
  have hok:=okL hts
  have hlen:items.size = ts.length:=Array.length_toList.symm.trans (rdAll_length r)
  obtain ⟨e,he1,he2⟩:=items_eqAt' (A:=A) r rv hok.2 hd (hA.u (Nat.le_trans (Nat.min_le_right _ _) hdep))
  have hget:∀ m (hm:m < items.size),e items[m] = PyData.eqv (ts[m]'(hlen ▸ hm)) d:=fun m hm=>by
    have:(items.toList.map e)[m]? = _:=congrArg (·[m]?) he2
    rw [List.getElem?_map,List.getElem?_map,List.getElem?_eq_getElem (by rw [Array.length_toList]; exact hm),List.getElem?_eq_getElem (hlen ▸ hm)] at this
    exact Option.some.inj this
  cases hr:removeD ts d with
  | none=>exact call_meets F.slot_list_remove ⟨_,ho,rfl⟩ F.entry_list_remove (F.args_list_remove_2 _ _) (list_remove_noneAt b items c sl v e fun m hm=>(hget m hm).trans (removeD_none hr m (hlen ▸ hm))) ⟨ho,he1,hA.handled,hE hr⟩
  | some ts' =>
    obtain ⟨j,hj,h1,h2,h3⟩:=removeD_some hr
    exact call_meets F.slot_list_remove ⟨_,ho,rfl⟩ F.entry_list_remove (F.args_list_remove_2 _ _) (list_removeAt b items c sl v e j (hlen ▸ hj) ((hget j _).trans h1) (fun m hm hlt=>(hget m hm).trans (h2 m (hlen ▸ hm) hlt)) (hlen ▸ hok.1)) ⟨ho,he1,hQ' ts' j hr hj h3⟩
theorem rem_stmt {A:Around} {env:Env} {σ:PSt} {O:List (Option Nat × Addr)} {s:Shared} {x4 x5:Nat} {n4 n5:Str} {p4 p5 ap cp sp:Pos} {b:Addr} {ts:List PyData} {d:PyData} {Q:Flow→Shared→Prop} {E:Value→Shared→Prop}
    (X:Sx Z lvl nm sc A env σ O s) (hnd:nm.Nodup) (hx4:nm[x4]? = some n4) (hx5:nm[x5]? = some n5) (hk4:lcl sc n4 = true) (hk5:lcl sc n5 = true) (h4d:n4 ≠ ("__debug__" : Str) ∧ n4 ≠ ("__classdict__" : Str)) (h5d:n5 ≠ ("__debug__" : Str) ∧ n5 ≠ ("__classdict__" : Str)) (hline:(ap.endLine == cp.line) = true)
    (hl4:lookV σ.env x4 = some (.list ts)) (hl5:lookV σ.env x5 = some d) (hacc:Acc env s.heap n4 (.ref b)) (h3:(some x4,b) ∈ O) (hdep:d.depth ≤ 64)
    (hQ:∀ ts' s',removeD ts d = some ts'→SOk Z nm env ⟨σ.env.set x4 (some (.list ts')),σ.own⟩ O s'→Step Z env O O s.heap s'.heap→Acc env s'.heap n4 (.ref b)→Q .next s')
    (hE:removeD ts d = none→∀ h' tk e,Heap.NewExc s.heap h' e "ValueError" → E (.ref e) { s with heap:=h',toks:=tk }) :
    wpAny (model Z.prog Z.w) A (exec (.Expr (.Call (.Attribute (.Name n4 p4) "remove" ap) [.Name n5 p5] [] cp) sp) env) Q E s:=by
  have S:=X.S
  have hint:interactive env = false:=by unfold interactive; rw [S.eok.kind]; rfl
  have hpl:PlainArgs [.Name n5 p5]:=plain_one rfl
  have hv4:vis env n4:=(X.kind hk4).elim .inl fun h=>.inr (.inl h)
  obtain ⟨v4,as4,ac4,r4,ok4,_⟩:=S.eok.vars x4 _ n4 hl4 hx4 hv4
  cases ac4.uniq hacc
  obtain ⟨b',items,c,sl,bs,e,hobj,ra,rfl⟩:=rd_list_obj r4
  cases e
  obtain ⟨v5,as5,ac5,r5,ok5,_⟩:=S.eok.vars x5 _ n5 hl5 hx5 ((X.kind hk5).elim .inl fun h=>.inr (.inl h))
  refine wpAny_Expr (wpAny_Call_method_lateS (attributeBase_of rfl _ _ _) (few_ok hpl (Nat.le_of_ble_eq_true rfl)) hline ?_) hint rfl
  refine wpAny_Name (ac4.load S.eok.kind h4d.2 ?_) (beq_eq_false_iff_ne.mpr h4d.1)
  refine ⟨"list", "list.remove",F.plainAttrs_list,F.slot_list_remove,F.type_list_remove,⟨_,hobj,rfl⟩,fun a e=>by cases e; exact ⟨_,hobj,rfl⟩,?_⟩
  refine callWith_nonref nofun (hpl.1 env cp) (evalArgs_of (hpl.2.1 nofun env cp) ?_)
  refine Calls.spliced_cons (wpAny_Name (ac5.load S.eok.kind h5d.2 (Calls.spliced_nil ?_)) (beq_eq_false_iff_ne.mpr h5d.1))
  refine rem_call X.ha hobj ra r5 ok4 ok5 hdep hE fun ts' j hr hj hts'=>?_
  have hlen:items.size = ts.length:=Array.length_toList.symm.trans (rdAll_length ra)
  have herase:(items.eraseIdxIfInBounds j).toList = items.toList.eraseIdx j:=by
    unfold Array.eraseIdxIfInBounds
    rw [dif_pos (hlen ▸ hj),Array.toList_eraseIdx]
  obtain ⟨bs',rb,hsub⟩:=rdAll_erase j ra
  subst hts'
  obtain ⟨S',st',ac',_⟩:=own_update (items':=items.eraseIdxIfInBounds j) S hnd hx4 hl4 hv4 hacc h3 hobj ra (Heap.SameBut.update s.heap b _) (Heap.get?_update_self (Obj.mapSeq fun xs=>xs.eraseIdxIfInBounds j) hobj rfl) (by rw [herase]; exact rb) (fun h=>r4.apart rfl (hsub _ h)) (fun a ha=>.inl (hsub a ha))
    (okL' (Nat.le_trans (List.length_eraseIdx_le ..) (okL ok4).1) (okDs_mem.mpr fun q hq=>okDs_mem.mp (okL ok4).2 q (List.mem_of_mem_eraseIdx hq)))
  exact hQ _ _ hr S' st' ac'
theorem rem_loop {A:Around} {env:Env} {σ:PSt} {O:List (Option Nat × Addr)} {s:Shared} {x2 x4 x5:Nat} {n4 n5:Str} {p4 p5 p5' ap cp sp fpos:Pos} {iter:Expr} {b:Addr} {xs ts:List PyData} {R:Flow→Shared→Prop} {E:Value→Shared→Prop}
    (X:Sx Z lvl nm sc A env σ O s) (hnd:nm.Nodup) (hi:SI Z cl lvl nm sc iter (.of (.var x2))) (hset:isSetE iter = false) (hxs:evI cl (.of (.var x2)) σ.env = some xs)
    (h24:x2 ≠ x4) (h45:x4 ≠ x5) (hx4:nm[x4]? = some n4) (hx5:nm[x5]? = some n5) (hk4:lcl sc n4 = true) (hk5:lcl sc n5 = true) (h4d:n4 ≠ ("__debug__" : Str) ∧ n4 ≠ ("__classdict__" : Str)) (h5d:n5 ≠ ("__debug__" : Str) ∧ n5 ≠ ("__classdict__" : Str)) (hline:(ap.endLine == cp.line) = true)
    (hl4:lookV σ.env x4 = some (.list ts)) (hacc:Acc env s.heap n4 (.ref b)) (h3:(some x4,b) ∈ O) (hdep:PyData.depthAll xs ≤ 64) (hlen5:x5 < σ.env.length)
    (hQ:∀ r s' σ' O',removesD xs ts = some r→lookV σ'.env x4 = some (.list r)→SOk Z nm env σ' O' s'→Step Z env O O' s.heap s'.heap→R .next s')
    (hE:removesD xs ts = none→∀ s₀ σ₀ O₀ O',SOk Z nm env σ₀ O₀ s₀→Step Z env O O' s.heap s₀.heap→∀ h' tk e,Heap.NewExc s₀.heap h' e "ValueError" → notedBy (model Z.prog Z.w) A env (fun x s'=>cameBackBy (model Z.prog Z.w) A env E x s') (.ref e) { s₀ with heap:=h',toks:=tk }) :
    wpAny (model Z.prog Z.w) A (exec (.For (.Name n5 p5) iter [.Expr (.Call (.Attribute (.Name n4 p4) "remove" ap) [.Name n5 p5'] [] cp) sp] [] fpos) env) R E s:=by
  refine for_any (fun k σ' O' s'=>∃ ts',removesD (xs.drop k) ts' = removesD xs ts ∧ lookV σ'.env x4 = some (.list ts') ∧ x5 < σ'.env.length ∧ (some x4,b) ∈ O' ∧ Acc env s'.heap n4 (.ref b)) X hnd hx5 hk5 hset hi hxs
    (fun I s₁ I₁ k₁=>⟨ts,rfl,hl4,hlen5,(reserve_old h3).resolve_right fun ⟨z,hz,e⟩=>?_,hacc.kp k₁ X.S.eok.new fun c hc hk=>(X.S.eok.cellAt hk hc).1⟩)
    (fun k σ' O' s₀ s₂ I ⟨ts',h1,h2,h3,h4,h5⟩ _ _ _ _ T=>⟨ts',h1,h2,h3,h4,T.acc _ _ nofun h5⟩) (fun k d σ' O' s₂ s₃ hdk okd ⟨ts',h1,h2,h3,h4,h5⟩ X₃ _ T₃ out _=>?_) fun σ' O' s₀ s' ⟨ts',h1,h2,_⟩ S' st=>?_
  · cases e
    exact h24 (List.mem_singleton.mp hz).symm
  · obtain ⟨hlt,e⟩:=List.getElem?_eq_some_iff.mp hdk
    rw [List.drop_eq_getElem_cons hlt,e,removesD] at h1
    have h4':(some x4,b) ∈ dropO O' [x5]:=mem_dropO.mpr ⟨h4,fun ⟨z,hz,e⟩=>by cases e; exact h45 (List.mem_singleton.mp hz)⟩
    have hl4':lookV (σ'.env.set x5 (some d)) x4 = some (.list ts'):=(lookV_ne _ (Ne.symm h45)).trans h2
    refine wpAny_execs_cons (rem_stmt X₃ hnd hx4 hx5 hk4 hk5 h4d h5d hline hl4' (lookV_put _ h3) (T₃.other hx5 (fun e=>h45 (name_inj hnd hx4 (e ▸ hx5))) h5) h4' (Nat.le_trans (depth_mem (List.mem_of_getElem? hdk)) hdep) (fun ts'' s₄ hr S₄ st₄ ac₄=>?_) fun hr h' tk e' hx=>?_)
    · rw [hr] at h1
      exact wpAny_execs_nil ⟨_,_,⟨ts'',h1,lookV_put _ (lookV_lt hl4'),by rw [List.length_set,List.length_set]; exact h3,h4',ac₄⟩,S₄,st₄⟩
    · rw [hr] at h1
      exact hE h1.symm s₃ _ _ _ X₃.S (out _ _ Step.refl) h' tk e' hx
  · rw [List.drop_length] at h1
    exact hQ ts' s' σ' _ h1.symm h2 S' st
theorem setFlight_held {M:Model} {A:Around} {E:Value→Shared→Prop} {s:Shared} {base:Heap} {l:List Env} {e L:Addr} {cls a0:Value} {Q:Unit→Shared→Prop} (hh:Heap.HeldW base l e cls a0 L s.heap)
    (hQ:∀ h',Heap.HeldW base l e cls a0 L h'→s.heap.UpToSlots h'→Q () { s with heap:=h' }):wpAny M A (setFlight (.ref e) (some L)) Q E s:=by
  obtain ⟨hkb,hen,hl,ht⟩:=hh
  obtain ⟨oe,vs,T,oT,ts,he,hcls,hd,h1,hnT,hTe,hT,hdT,h3⟩:=ht
  have hsz3:3 < ts.size:=(Array.getElem?_eq_some_iff.mp h3).1
  have other:∀ b,b ≠ T→(s.heap.update T (Obj.mapFields (·.setIfInBounds 3 (rawInt L)))).get? b = s.heap.get? b:=fun b hb=>Heap.get?_update_other _ _ (Ne.symm hb)
  have noRecord:∀ b o,s.heap.get? b = some o→(∀ vs,o.data ≠ .fields vs)→b ≠ T:=fun b o hb hnf q=>by
    rw [q,hT] at hb; injection hb with hb; subst hb; exact hnf ts hdT
  unfold setFlight
  refine wpAny_bind (wpAny_field he hd h1 ?_)
  rw [if_pos (show (Value.ref T != Value.none) = true from by simp)]
  refine wpAny_setField hT hdT hsz3 (hQ _ ⟨fun b o hbo=>(other b fun q=>by rw [q,hnT] at hbo; cases hbo).trans (hkb b o hbo),hen,
    hl.of_keeps fun b o hb hnf=>⟨o,(other b (noRecord b o hb hnf)).trans hb,rfl⟩,?_⟩ fun b o hb hnf=>⟨o.slots,(other b (noRecord b o hb hnf)).trans hb⟩)
  exact ⟨oe,vs,T,_,_,(other e (Ne.symm hTe)).trans he,hcls,hd,h1,hnT,hTe,Heap.get?_update_self _ hT (Obj.isFreed_of_fields (Obj.data_mapFields hdT _)),Obj.data_mapFields hdT _,by simp [hsz3]⟩
theorem cameBack_held {prog:Program} {w:World} {A:Around} {E:Value→Shared→Prop} {s:Shared} {base:Heap} {l:List Env} {env:Env} {e L:Addr} {cls a0:Value} (hf:env.frame = some L) (hh:Heap.HeldW base l e cls a0 L s.heap)
    (hQ:∀ h',Heap.HeldW base l e cls a0 L h'→s.heap.UpToSlots h'→E (.ref e) { s with heap:=h' }):cameBackBy (model prog w) A env E (.ref e) s:=by
  have hh0:=hh
  obtain ⟨hkb,hen,hl,ht⟩:=hh
  obtain ⟨oe,vs,T,oT,ts,he,hcls,hd,h1,_⟩:=ht
  unfold cameBackBy
  refine wpAny_bind (wpAny_field he hd h1 ?_)
  rw [if_neg (by simp)]
  rw [hf]
  exact setFlight_held hh0 hQ
theorem caught_false {A:Around} {E:Value→Shared→Prop} {R:Flow→Shared→Prop} {env:Env} {outer:List Env} {σ:PSt} {O:List (Option Nat × Addr)} {s:Shared} {e:Addr} {h₁:Heap} {tk:Nat} {p1 p2 p3 p4:Pos} {k:Nat} (X:Sx Z lvl nm sc A env σ O s)
    (hfr:A.frames = some (env :: outer)) (hf:env.frame = some env.locals) (hg:globOk sc "ValueError" = true) (hV:Z.mg "ValueError" = none ∧ Z.mb "ValueError" = some (.type "ValueError")) (hx:Heap.NewExc s.heap h₁ e "ValueError")
    (hR:∀ s',Inv Z s'→Kp Z.n s.heap s'.heap→R (.ret (.bool false)) s') :
    notedBy (model Z.prog Z.w) A env (fun x s'=>cameBackBy (model Z.prog Z.w) A env (fun x s₁=>wpAny (model Z.prog Z.w) A (noteFrame x env) (fun _ s₂=>wpAny (model Z.prog Z.w) A (setFlight x none) (fun _ s₃ =>
      wpAny (model Z.prog Z.w) A (handleBy x env [.ExceptHandler (some (.Name "ValueError" p1)) none [.Return (some (.Constant (.bool false) k p2)) p3] p4]) R E s₃) E s₂) E s₁) x s') (.ref e) { s with heap:=h₁,toks:=tk }:=by
  have hI:=X.S.inv
  obtain ⟨fs,hfs,hfs2⟩:=X.ha.frames
  cases hfr.symm.trans hfs
  have hl1:h₁.FunFrames (hide s.heap Z.fr) (env :: outer):=(funFrames_of hI hfs2).of_keeps fun b o hb _=>⟨o,hx.keeps b o hb,rfl⟩
  have hkb:(hide s.heap Z.fr).StaysIn h₁:=fun b o hb=>hx.keeps b o (stays_hide s.heap Z.fr b o hb)
  have hen:(hide s.heap Z.fr).get? e = none:=by
    rw [get?_hide,hx.new]
    split <;> rfl
  obtain ⟨ob,t,he,hc,hd⟩:=hx.there
  generalize hbe:hide s.heap Z.fr = base at hl1 hkb hen
  have fin:∀ {h':Heap},base.StaysIn h'→s.heap.UpToSlots h'→Inv Z { s with heap:=h',toks:=tk } ∧ Kp Z.n s.heap h':=fun h1 h2=>⟨inv_of_stays hI (hbe ▸ h1) h2,kp_of_stays hI (hbe ▸ h1) h2⟩
  refine noteFrame_first (s:={ s with heap:=h₁,toks:=tk }) hfr hl1 hf he hkb hen hd rfl rfl fun h₂ ⟨k1,k2,k3,k4⟩=>?_
  have up12:s.heap.UpToSlots h₂:=(Heap.UpToSlots.of_keeps hx.keeps).trans k4
  refine cameBack_held (s:={ s with heap:=h₂,toks:=tk }) hf ⟨k1,hen,k2,k3⟩ fun h₃ hh₃ up₃=>?_
  refine wpAny_noteFrame_againW hf hh₃.2.2.2 (wpAny_landsW hh₃ fun h₄ hh₄ up₄=>?_)
  have up14:s.heap.UpToSlots h₄:=(up12.trans up₃).trans up₄
  have I₄:=(fin hh₄.1 up14).1
  refine wpAny_handleBy_builtin (X := "ValueError") (T := "ValueError") (b:=true) F.isExc_ValueError F.notTuple_ValueError F.self_ValueError ?_
  obtain ⟨g1,g2⟩:=globOkK hg
  refine Calls.Name_function_global X.S.eok.kind (X.hs.2.2 _ g1) (Calls.loadGlobal_builtin (mg:=Z.mg) (mb:=Z.mb) (by rw [X.S.eok.glob]; exact I₄.glob) hV.1 (by rw [X.S.eok.blt]; exact I₄.bltn) hV.2 ?_) g2
  obtain ⟨ob',hob',hcls'⟩:=hh₄.2.2.2.at.there
  refine ⟨rfl,⟨ob',hob',hcls'.trans hc⟩,?_⟩
  rw [if_pos rfl]
  refine wpAny_setFlight_noneW hh₄.1 hh₄.2.2.1 hh₄.2.2.2.at fun h₅ g1 g2 g3 g4=>?_
  have f5:=fin g1 (up14.trans fun b o hb hn=>⟨o.slots,g4 b o hb hn⟩)
  refine wpAny_execs_cons (wpAny_Return_some ?_)
  rw [arm_eval_Constant]
  exact wpAny_pure (hR _ f5.1 f5.2)
end
noncomputable def cmpConds (fn nm:List Str) (sc:Scope) (d:Nat) (s1 s2 s5:Stmt) (x3 it:Expr) (l t e t2 e2 rm ve:Str) (ap cp:Pos):List Bool :=
  [nm.length == 6,decide nm.Nodup,chkS fn nm sc (.assign 2 (.call d (.cons (.var 0) .nil))) s1,chkS fn nm sc (.assign 3 (.call d (.cons (.var 1) .nil))) s2,l == ("list" : Str),globOk sc "list",!isStarred x3,chkE fn nm sc (.var 3) x3,
   nm[4]? == some t,nm[5]? == some e,t2 == t,e2 == e,rm == ("remove" : Str),ve == ("ValueError" : Str),globOk sc "ValueError",lcl sc t,lcl sc e,t != ("__debug__" : Str),t != ("__classdict__" : Str),e != ("__debug__" : Str),e != ("__classdict__" : Str),
   ap.endLine == cp.line,!isSetE it,chkE fn nm sc (.var 2) it,chkS fn nm sc (.ret (.nt (.var 4))) s5]
noncomputable def isFalseC (e:Expr):Bool:=onConstant e fun c _ _=>match c with | .bool b=>!b | _=>false
noncomputable def cmpBody (fn:List Str) (nm:List Str) (sc:Scope) (d:Nat) (body:List Stmt):Bool :=
  onC body fun s1 r=>onC r fun s2 r=>onC r fun s3 r=>onC r fun s4 r=>on1 r fun s5=>onStAssign s3 fun ts v _=>on1 ts fun tn=>onName tn fun t _=>onCall v fun lf as ks _=>ks.isEmpty && (onName lf fun l _=>on1 as fun x3 =>
  onStTry s4 fun tb th te tf _=>te.isEmpty && (tf.isEmpty && (on1 tb fun fo=>onStFor fo fun en it fb fe _=>fe.isEmpty && (onName en fun e _=>on1 fb fun fs=>onStExpr fs fun fc _=>onCall fc fun at_ fas fks cp=>fks.isEmpty && (onAttribute at_ fun te rm ap=>onName te fun t2 _=>on1 fas fun ee=>onName ee fun e2 _ =>
  on1 th fun eh=>onEh eh fun ty en hb _=>en.isNone && (onS ty fun ty=>onName ty fun ve _=>on1 hb fun rs=>onStReturn rs fun rv _=>onS rv fun rv=>isFalseC rv && (cmpConds fn nm sc d s1 s2 s5 x3 it l t e t2 e2 rm ve ap cp).all id))))))
inductive CmpIs (fn nm:List Str) (sc:Scope) (d:Nat):List Stmt→Prop
  | mk {s1 s2 s5:Stmt} {x3 it:Expr} {l t e t2 e2 rm ve:Str} {ap cp p1 p2 p3 p4 p5 p6 p7 p8 p9 p10 p11 p12 p13 p14:Pos} {k:Nat} (h:(cmpConds fn nm sc d s1 s2 s5 x3 it l t e t2 e2 rm ve ap cp).all id = true) :
    CmpIs fn nm sc d [s1,s2,.Assign [.Name t p1] (.Call (.Name l p2) [x3] [] p3) p4,
     .Try [.For (.Name e p5) it [.Expr (.Call (.Attribute (.Name t2 p6) rm ap) [.Name e2 p7] [] cp) p8] [] p9] [.ExceptHandler (some (.Name ve p10)) none [.Return (some (.Constant (.bool false) k p11)) p12] p13] [] [] p14,s5]
theorem isFalseK {e:Expr} {m:Expr→Prop} (h:isFalseC e = true) (k:∀ a p,m (.Constant (.bool false) a p)):m e:=onConstantK h fun c a p h=>by
  cases c with
  | bool b=>cases b with
    | false=>exact k a p
    | true=>cases h
  | _=>cases h
theorem cmpIs_of {fn nm:List Str} {sc:Scope} {d:Nat} {body:List Stmt} (h:cmpBody fn nm sc d body = true):CmpIs fn nm sc d body:=by
  apply onCK h; intro _ _ h; apply onCK h; intro _ _ h; apply onCK h; intro _ _ h; apply onCK h; intro _ _ h; apply on1K h; intro _ h; apply onStAssignK h; intro _ _ _ h; apply on1K h; intro _ h; apply onNameK h; intro _ _ h
  apply onCallK h; intro _ _ _ _ h; refine andK h fun z h=>?_; apply nilK z; apply onNameK h; intro _ _ h; apply on1K h; intro _ h
  apply onStTryK h; intro _ _ _ _ _ h; refine andK h fun z h=>?_; apply nilK z; refine andK h fun z h=>?_; apply nilK z; apply on1K h; intro _ h; apply onStForK h; intro _ _ _ _ _ h; refine andK h fun z h=>?_; apply nilK z; apply onNameK h; intro _ _ h; apply on1K h; intro _ h
  apply onStExprK h; intro _ _ h; apply onCallK h; intro _ _ _ _ h; refine andK h fun z h=>?_; apply nilK z; apply onAttributeK h; intro _ _ _ h; apply onNameK h; intro _ _ h; apply on1K h; intro _ h; apply onNameK h; intro _ _ h
  apply on1K h; intro _ h; apply onEhK h; intro _ _ _ _ h; refine andK h fun z h=>?_; apply noneK z; apply onSK h; intro _ h; apply onNameK h; intro _ _ h; apply on1K h; intro _ h; apply onStReturnK h; intro _ _ h; apply onSK h; intro _ h
  refine andK h fun z h=>?_; apply isFalseK z; intro _ _
  exact .mk h
section
variable {Z:Zone} {cl:Nat→List PyData→Option PyData} {lvl:Nat} {fn:List Str}
noncomputable def cmpRes (xs' ys':List PyData):Bool:=match removesD xs' ys' with | some r=>r.isEmpty | none=>false
theorem compare_call (hB:BiOk Z) (hV:Z.mg "ValueError" = none ∧ Z.mb "ValueError" = some (.type "ValueError")) (hC:∀ fr,CallOk (Z.at fr) lvl fn cl) {d:Nat} {n:Str} {a:Addr} {o:Obj} {fd:FuncData} {body:List Stmt} {nm:List Str} (F:FnIs Z n a o fd body nm 2) (hck:cmpBody fn nm fd.scope d body = true) {xs ys xs' ys':List PyData}
    (hx:cl d [.list xs] = some (.list xs')) (hy:cl d [.list ys] = some (.list ys')) (hdep:PyData.depthAll xs' ≤ 64)
    {A:Around} {s:Shared} {vs:List Value} {as:List Addr} {Q:Value→Shared→Prop} {E:Value→Shared→Prop} (hA:AOk Z (lvl + 1) A) (hI:Inv Z s) (hsz:Z.n ≤ s.heap.objs.size) (r:RdAll s.heap vs [.list xs,.list ys] as) (hok:okDs [.list xs,.list ys] = true)
    (hQ:∀ v bs s',Inv Z s'→Kp Z.n s.heap s'.heap→Rd s'.heap v (.bool (cmpRes xs' ys')) bs→okD (.bool (cmpRes xs' ys')) = true→(∀ a ∈ bs,a ∈ as ∨ ∀ o,s.heap.get? a = some o→o.cls = .none)→Q v s') :
    wpAny (model Z.prog Z.w) A (call (.ref a) vs) Q E s:=by
  refine call_frame (size:=6) F (args:=[.list xs,.list ys]) rfl hA hI hsz r hok hQ fun env s₁ R E' O henv X _ hR=>?_
  obtain ⟨outer,hout⟩:∃ outer,(A.deeper env).frames = some (env :: outer):=by
    obtain ⟨fs,h1,_⟩:=hA.frames
    exact ⟨fs,by show A.frames.map _ = _; rw [h1]; rfl⟩
  have hfm:env.frame = some env.locals:=by rw [henv]; rfl
  clear henv
  generalize s.heap.objs.size :: Z.fr = fr at X hR
  have hB':BiOk (Z.at fr):=hB
  have hC':=hC fr
  obtain ⟨hc⟩:=cmpIs_of hck
  rename_i s1 s2 s5 x3 it l t e t2 e2 rm ve ap cp p1 p2 p3 p4 p5 p6 p7 p8 p9 p10 p11 p12 p13 p14 k1
  have c2:nm.Nodup:=of_decide_eq_true (allAt hc 1 rfl)
  cases eq_of_beq (allAt hc 4 rfl)
  cases eq_of_beq (allAt hc 10 rfl)
  cases eq_of_beq (allAt hc 11 rfl)
  cases eq_of_beq (allAt hc 12 rfl)
  cases eq_of_beq (allAt hc 13 rfl)
  have c9:nm[4]? = some t:=eq_of_beq (allAt hc 8 rfl)
  have c10:nm[5]? = some e:=eq_of_beq (allAt hc 9 rfl)
  have c16:lcl fd.scope t = true:=allAt hc 15 rfl
  have c17:lcl fd.scope e = true:=allAt hc 16 rfl
  have hi0:initEnv 6 [.list xs,.list ys] = [some (.list xs),some (.list ys),none,none,none,none]:=rfl
  rw [hi0] at X
  refine wpAny_execs_cons (soundS hB' hC' c2 0 _ _ _ (allAt hc 2 rfl) X (fl:=.next ⟨[some (.list xs),some (.list ys),some (.list xs'),none,none,none],[]⟩) (congrArg (Option.map _) hx) fun s₂ O₂ S₂ st₂=>?_)
  have X₂:=X.go S₂
  refine wpAny_execs_cons (soundS hB' hC' c2 0 _ _ _ (allAt hc 3 rfl) X₂ (fl:=.next ⟨[some (.list xs),some (.list ys),some (.list xs'),some (.list ys'),none,none],[]⟩) (congrArg (Option.map _) hy) fun s₃ O₃ S₃ st₃=>?_)
  have X₃:=X.go S₃
  refine wpAny_execs_cons (wpAny_Assign_Name (list_copy (Z:=Z.at fr) (cl:=cl) (p:=.var 3) (xs:=ys') hB' (allAt hc 5 rfl) (notT (allAt hc 6 rfl)) (soundE hB' hC' _ _ _ (allAt hc 7 rfl)).1 X₃.cx rfl fun b bs s₄ I₄ k₄ r₄ ok₄ ho hbnone hbn=>?_) rfl)
  refine put_new (Z:=Z.at fr) S₃ c2 c9 (X₃.kind c16) I₄ k₄ r₄ ok₄ hbnone hbn ho fun s₅ S₅ st₅ T₅=>?_
  obtain ⟨nb,b',g1,g2,g3⟩:=S₅.own 4 List.mem_cons_self
  cases c9.symm.trans g1
  have stAll:=((st₂.trans st₃).trans st₅)
  refine wpAny_execs_cons (wpAny_Try_except (wpAny_execs_cons (rem_loop (Z:=Z.at fr) (cl:=cl) (x2:=2) (x4:=4) (x5:=5) (X.go S₅) c2 (si_of (soundE hB' hC' _ _ _ (allAt hc 23 rfl)).1) (notT (allAt hc 22 rfl)) (xs:=xs') rfl (by decide) (by decide) c9 c10 c16 c17 ⟨bne_iff_ne.mp (allAt hc 17 rfl),bne_iff_ne.mp (allAt hc 18 rfl)⟩ ⟨bne_iff_ne.mp (allAt hc 19 rfl),bne_iff_ne.mp (allAt hc 20 rfl)⟩ (allAt hc 21 rfl)
    rfl g2 g3 hdep (Nat.le_of_ble_eq_true rfl) (fun rr s₆ σ' O₆ hr hl4 S₆ st₆=>wpAny_execs_nil (wpAny_execs_nil ?_)) fun hr s₀ σ₀ O₀ O' S₀ st h' tk e hx=>?_)))
  · have he:cmpRes xs' ys' = rr.isEmpty:=by unfold cmpRes; rw [hr]
    refine wpAny_execs_cons (soundS hB' hC' c2 0 _ _ _ (allAt hc 24 rfl) (X.go S₆) (fl:=.ret (.bool rr.isEmpty)) ?_ fun v as' s₇ O₇ I₇ r₇ ok₇ hr₇ st₇=>?_)
    · show ((lookV σ'.env 4).bind _).map Fl.ret = _
      rw [hl4]
      cases rr <;> rfl
    · exact (hR v as' s₇ O₇ I₇ (by rw [he]; exact r₇) rfl (fun a ha=>hr₇ a (((stAll.trans st₆).resv a).mpr ha)) ((stAll.trans st₆).trans st₇)).1
  · have he:cmpRes xs' ys' = false:=by unfold cmpRes; rw [hr]
    exact caught_false (Z:=Z.at fr) (X.go S₀) hout hfm (allAt hc 14 rfl) hV hx fun s' I' k'=>(hR _ [] s' _ I' (by rw [he]; exact .bool false) rfl nofun ((stAll.trans st).trans (Step.kp k'))).1
end
end Kt
end
section
open PySem PySem.W PyProof.Rows
namespace Kt
inductive OV where
  | d (x:PyData)
  | o (k:Nat)
  | ty (T:String)
inductive FO where
  | inst (c:Nat)
  | dict (es:List (Str × OV))
  | list (xs:List OV)
  | meth (k:Nat)
  | deq
  | plain
abbrev St:=List FO
abbrev LO:=List (Option OV)
mutual
inductive OE where
  | lit (d:PyData)
  | var (x:Nat)
  | ty (T:String)
  | attr (c:Nat) (e:OE) (a:Str)
  | prop (c:Nat) (e:OE) (a:Str) (f:Nat)
  | nt (e:OE)
  | bool (isAnd:Bool) (a b:OE)
  | cmp (op:CmpOp) (a b:OE)
  | inT (a:OE) (l:List Str)
  | bin (op:Operator) (a b:OE)
  | call (f:Nat) (es:OEs)
  | mcall (c:Nat) (e:OE) (m:Str) (f:Nat) (es:OEs)
  | len (e:OE)
  | typ (e:OE)
  | intc (e:OE)
  | isStr (e:OE)
  | repl (e a b:OE)
  | joinL (e l:OE)
  | idx (e i:OE)
  | slc (e:OE) (lo hi:OO)
  | nil
  | addm (e:OE)
  | app (f e:OE)
  | appL (l e:OE)
  | fstr (a:Str) (e:OE) (b:Str)
  | neg (i:Int)
  | ext (j:Nat)
  | stuck
inductive OEs where
  | nil
  | cons (e:OE) (es:OEs)
inductive OO where
  | no
  | yes (e:OE)
end
mutual
inductive OS where
  | assign (x:Nat) (e:OE)
  | assign2 (x y:Nat) (a b:OE)
  | setA (c:Nat) (o:OE) (a:Str) (e:OE)
  | aug (x:Nat) (op:Operator) (e:OE)
  | augA (c:Nat) (o:OE) (a:Str) (op:Operator) (e:OE)
  | expr (e:OE)
  | ife (c:OE) (a b:OSs)
  | while_ (c:OE) (b:OSs)
  | ret (e:OE)
  | brk
  | cont
  | asrt (e:OE)
  | stuck
inductive OSs where
  | nil
  | cons (s:OS) (ss:OSs)
end
section
variable {α:Type} {G:Prop} {v:OV} {d:α}
noncomputable def oNum (v:OV) (f:Nat→Option α):Option α:=match v with | .o k=>f k | _=>none
noncomputable def oDat (v:OV) (f:PyData→Option α):Option α:=match v with | .d x=>f x | _=>none
theorem oNumK {f:Nat→Option α} (h:oNum v f = some d) (k:∀ n,v = .o n→f n = some d→G):G:=by
  cases v with
  | o n=>exact k n rfl h
  | _=>cases h
theorem oDatK {f:PyData→Option α} (h:oDat v f = some d) (k:∀ x,v = .d x→f x = some d→G):G:=by
  cases v with
  | d x=>exact k x rfl h
  | _=>cases h
noncomputable def fL (o:Option FO) (f:List OV→Option α):Option α:=o.bind fun q=>match q with | .list xs=>f xs | _=>none
noncomputable def fD (o:Option FO) (f:List (Str × OV)→Option α):Option α:=o.bind fun q=>match q with | .dict xs=>f xs | _=>none
noncomputable def fI (o:Option FO) (f:Nat→Option α):Option α:=o.bind fun q=>match q with | .inst xs=>f xs | _=>none
noncomputable def fM (o:Option FO) (f:Nat→Option α):Option α:=o.bind fun q=>match q with | .meth xs=>f xs | _=>none
theorem fLK {o:Option FO} {f:List OV→Option α} (h:fL o f = some d) (k:∀ n,o = some (.list n)→f n = some d→G):G:=bndK h fun q e h=>by
  cases q with
  | list n=>exact k n e h
  | _=>cases h
theorem fDK {o:Option FO} {f:List (Str × OV)→Option α} (h:fD o f = some d) (k:∀ n,o = some (.dict n)→f n = some d→G):G:=bndK h fun q e h=>by
  cases q with
  | dict n=>exact k n e h
  | _=>cases h
theorem fIK {o:Option FO} {f:Nat→Option α} (h:fI o f = some d) (k:∀ n,o = some (.inst n)→f n = some d→G):G:=bndK h fun q e h=>by
  cases q with
  | inst n=>exact k n e h
  | _=>cases h
theorem fMK {o:Option FO} {f:Nat→Option α} (h:fM o f = some d) (k:∀ n,o = some (.meth n)→f n = some d→G):G:=bndK h fun q e h=>by
  cases q with
  | meth n=>exact k n e h
  | _=>cases h
theorem bnd2 {β γ:Type} {o:Option (β × γ)} {f:β × γ→Option α} (h:o.bind f = some d) (k:∀ a b,o = some (a,b)→f (a,b) = some d→G):G:=bndK h fun p e h=>k p.1 p.2 e h
theorem mapP {β:Type} {o:Option α} {st st':β} (h:o.map (fun v=>(v,st)) = some (d,st')) (k:o = some d→st = st'→G):G:=mapK h fun a e h=>k (e.trans (congrArg (fun p=>some p.1) h)) (congrArg Prod.snd h)
end
noncomputable def flatV (v:OV):Option PyData:=oDat v fun x=>if flat x then some x else none
noncomputable def lookA:List (Str × OV)→Str→Option OV
  | [],_=>none
  | p :: r,a=>if p.1 == a then some p.2 else lookA r a
noncomputable def putA:List (Str × OV)→Str→OV→List (Str × OV)
  | [],a,v=>[(a,v)]
  | p :: r,a,v=>if p.1 == a then (p.1,v) :: r else p :: putA r a v
noncomputable def instO (c:Nat) (st:St) (v:OV):Option (Nat × List (Str × OV)):=oNum v fun k=>fI st[k]? fun c'=>fD st[k + 1]? fun es=>if c' = c then some (k,es) else none
noncomputable def listO (st:St) (v:OV):Option (Nat × List OV):=oNum v fun k=>fL st[k]? fun xs=>some (k,xs)
noncomputable def methO (st:St) (v:OV):Option Nat:=oNum v fun k=>fM st[k]? some
noncomputable def fTr (f:FO):Option Bool:=match f with
  | .list xs=>some !xs.isEmpty
  | .deq=>some false
  | _=>none
noncomputable def truthO (st:St) (v:OV):Option Bool:=match v with
  | .d x=>if flat x then truthD x else none
  | .o k=>st[k]?.bind fTr
  | .ty _=>none
noncomputable def flatR (o:Option PyData):Option OV:=o.bind fun d=>if flat d then some (.d d) else none
noncomputable def binO (op:Operator) (a b:OV):Option OV:=(flatV a).bind fun x=>(flatV b).bind fun y=>flatR (binD op x y)
noncomputable def isO (v w:OV):Option Bool:=match v with
  | .d x=>if flat x then (match w with | .d y=>if flat y then isD x y else none | .o _=>some false | .ty _=>none) else none
  | .o j=>(match w with | .o k=>some (j == k) | .d x=>if flat x then some false else none | .ty _=>none)
  | .ty T=>(match w with | .ty U=>some (T == U) | _=>none)
noncomputable def cmpO (op:CmpOp) (a b:OV):Option OV:=match op with
  | .Is=>(isO a b).map fun q=>.d (.bool q)
  | .IsNot=>(isO a b).map fun q=>.d (.bool !q)
  | _=>(flatV a).bind fun x=>(flatV b).bind fun y=>flatR (cmpD op x y)
noncomputable def strV (v:OV):Option Str:=oDat v fun x=>dStr x some
noncomputable def strsV:List OV→Option (List Str)
  | []=>some []
  | v :: r=>(strV v).bind fun s=>(strsV r).map (s :: ·)
noncomputable def strR (s:Str):Option OV:=if s.length ≤ sizeLine then some (.d (.str s)) else none
noncomputable def lenO (st:St) (v:OV):Option OV:=match v with
  | .d x=>dStr x fun s=>some (.d (.int s.length))
  | .o k=>fL st[k]? fun xs=>some (.d (.int xs.length))
  | .ty _=>none
noncomputable def idxO (st:St) (v w:OV):Option OV:=oDat w fun y=>match v with
  | .d x=>dStr x fun s=>flatR (idxD (.str s) y)
  | .o k=>dInt y fun i=>fL st[k]? fun xs=>(placeI i xs.length).bind (xs[·]?)
  | .ty _=>none
noncomputable def slcO (v:OV) (lo hi:Option Int):Option OV:=(strV v).bind fun s=>flatR (slcD (.str s) lo hi)
noncomputable def partO (v:OV):Option Int:=oDat v partD
noncomputable def typO (v:OV):Option OV:=oDat v fun x=>match x with
  | .int _=>some (.ty "int")
  | .str _=>some (.ty "str")
  | _=>none
noncomputable def kwO (f:Nat):List Str:=if f == 18 || f == 19 then ["posix"] else []
noncomputable def argsO (f:Nat) (vs:List Value):Args:=match kwO f with
  | []=>⟨vs,[]⟩
  | ks=>⟨vs.take (vs.length - ks.length),ks.zip (vs.drop (vs.length - ks.length))⟩
theorem argsO_nil {f:Nat} {vs:List Value} (h:kwO f = []):argsO f vs = ⟨vs,[]⟩:=by unfold argsO; rw [h]
noncomputable def replO (e a b:OV):Option OV:=(strV e).bind fun s=>(strV a).bind fun x=>(strV b).bind fun _ =>
  if (Builtin.Str.occurrences s x 0 s.length (s.length + 1)).isEmpty then some (.d (.str s)) else none
noncomputable def joinO (st:St) (e l:OV):Option OV:=(strV e).bind fun sep=>(listO st l).bind fun p=>(strsV p.2).bind fun ss =>
  if ss.foldl (fun n x=>n + x.length + sep.length) 0 ≤ 2 ^ 20 then some (.d (.str (Str.join sep ss))) else none
noncomputable def pushO (st:St) (k:Nat) (v:OV):Option St:=fL st[k]? fun xs=>if xs.length ≤ 1000 then some (st.set k (.list (xs ++ [v]))) else none
section
variable (cl:Nat→List OV→St→Option (OV × St)) (ex:Nat→LO→St→Option (OV × St))
mutual
noncomputable def ovE:OE→LO→St→Option (OV × St)
  | .lit d,_,st=>if flat d then some (.d d,st) else none
  | .var x,ρ,st=>((ρ[x]?).join).map fun v=>(v,st)
  | .ty T,_,st=>some (.ty T,st)
  | .attr c e a,ρ,st=>(ovE e ρ st).bind fun p=>(instO c p.2 p.1).bind fun q=>(lookA q.2 a).map fun v=>(v,p.2)
  | .prop c e a f,ρ,st=>(ovE e ρ st).bind fun p=>(instO c p.2 p.1).bind fun q=>if (lookA q.2 a).isNone then cl f [p.1] p.2 else none
  | .nt e,ρ,st=>(ovE e ρ st).bind fun p=>(truthO p.2 p.1).map fun b=>(.d (.bool !b),p.2)
  | .bool q a b,ρ,st=>(ovE a ρ st).bind fun p=>(truthO p.2 p.1).bind fun t=>if t == q then ovE b ρ p.2 else some p
  | .cmp op a b,ρ,st=>(ovE a ρ st).bind fun p=>(ovE b ρ p.2).bind fun r=>(cmpO op p.1 r.1).map fun v=>(v,r.2)
  | .inT a l,ρ,st=>(ovE a ρ st).bind fun p=>(strV p.1).map fun s=>(.d (.bool (l.any fun x=>x == s)),p.2)
  | .bin op a b,ρ,st=>(ovE a ρ st).bind fun p=>(ovE b ρ p.2).bind fun r=>(binO op p.1 r.1).map fun v=>(v,r.2)
  | .call f es,ρ,st=>(ovEs es ρ st).bind fun p=>cl f p.1 p.2
  | .mcall c e m f es,ρ,st=>(ovE e ρ st).bind fun p=>(instO c p.2 p.1).bind fun q=>if (lookA q.2 m).isNone then (ovEs es ρ p.2).bind fun r=>cl f (p.1 :: r.1) r.2 else none
  | .len e,ρ,st=>(ovE e ρ st).bind fun p=>(lenO p.2 p.1).map fun v=>(v,p.2)
  | .typ e,ρ,st=>(ovE e ρ st).bind fun p=>(typO p.1).map fun v=>(v,p.2)
  | .intc e,ρ,st=>(ovE e ρ st).bind fun p=>oDat p.1 fun x=>dInt x fun i=>some (.d (.int i),p.2)
  | .isStr e,ρ,st=>(ovE e ρ st).bind fun p=>(strV p.1).map fun _=>(.d (.bool true),p.2)
  | .repl e a b,ρ,st=>(ovE e ρ st).bind fun p=>(ovE a ρ p.2).bind fun q=>(ovE b ρ q.2).bind fun r=>(replO p.1 q.1 r.1).map fun v=>(v,r.2)
  | .joinL e l,ρ,st=>(ovE e ρ st).bind fun p=>(ovE l ρ p.2).bind fun q=>(joinO q.2 p.1 q.1).map fun v=>(v,q.2)
  | .idx e i,ρ,st=>(ovE e ρ st).bind fun p=>(ovE i ρ p.2).bind fun r=>(idxO r.2 p.1 r.1).map fun v=>(v,r.2)
  | .slc e lo hi,ρ,st=>(ovE e ρ st).bind fun p=>(ovO lo ρ p.2).bind fun q=>(ovO hi ρ q.2).bind fun r=>(slcO p.1 q.1 r.1).map fun v=>(v,r.2)
  | .nil,_,st=>some (.o st.length,st ++ [.list []])
  | .addm e,ρ,st=>(ovE e ρ st).bind fun p=>(listO p.2 p.1).map fun q=>(.o p.2.length,p.2 ++ [.meth q.1])
  | .app f e,ρ,st=>(ovE f ρ st).bind fun p=>(ovE e ρ p.2).bind fun r=>(methO r.2 p.1).bind fun j=>(pushO r.2 j r.1).map fun st'=>(.d .none,st')
  | .appL l e,ρ,st=>(ovE l ρ st).bind fun p=>(listO p.2 p.1).bind fun q=>(ovE e ρ p.2).bind fun r=>(pushO r.2 q.1 r.1).map fun st'=>(.d .none,st')
  | .fstr a e b,ρ,st=>(ovE e ρ st).bind fun p=>(strV p.1).bind fun s=>(strR (a ++ s ++ b)).map fun v=>(v,p.2)
  | .neg i,_,st=>some (.d (.int (-i)),st)
  | .ext j,ρ,st=>ex j ρ st
  | .stuck,_,_=>none
noncomputable def ovEs:OEs→LO→St→Option (List OV × St)
  | .nil,_,st=>some ([],st)
  | .cons e es,ρ,st=>(ovE e ρ st).bind fun p=>(ovEs es ρ p.2).map fun r=>(p.1 :: r.1,r.2)
noncomputable def ovO:OO→LO→St→Option (Option Int × St)
  | .no,_,st=>some (none,st)
  | .yes e,ρ,st=>(ovE e ρ st).bind fun p=>(partO p.1).map fun i=>(some i,p.2)
end
inductive OFl where
  | next (ρ:LO)
  | brk (ρ:LO)
  | cont (ρ:LO)
  | ret (v:OV)
noncomputable def setAO (c:Nat) (st:St) (o:OV) (a:Str) (v:OV):Option St:=(instO c st o).bind fun q =>
  let es:=putA q.2 a v
  if es.length ≤ 100 then some (st.set (q.1 + 1) (.dict es)) else none
noncomputable def whileO (test:LO→St→Option (Bool × St)) (body:LO→St→Option (OFl × St)):Nat→LO→St→Option (OFl × St)
  | 0,_,_=>none
  | n + 1,ρ,st=>(test ρ st).bind fun t=>if t.1 then (body ρ t.2).bind fun r=>match r.1 with
      | .next ρ' | .cont ρ'=>whileO test body n ρ' r.2
      | .brk ρ'=>some (.next ρ',r.2)
      | .ret v=>some (.ret v,r.2)
    else some (.next ρ,t.2)
variable (fuel:Nat)
noncomputable def ovT (e:OE) (ρ:LO) (st:St):Option (Bool × St):=(ovE cl ex e ρ st).bind fun p=>(truthO p.2 p.1).map fun t=>(t,p.2)
mutual
noncomputable def oxS:OS→LO→St→Option (OFl × St)
  | .assign x e,ρ,st=>(ovE cl ex e ρ st).map fun p=>(.next (ρ.set x (some p.1)),p.2)
  | .assign2 x y a b,ρ,st=>(ovE cl ex a ρ st).bind fun p=>(ovE cl ex b ρ p.2).map fun r=>(.next ((ρ.set x (some p.1)).set y (some r.1)),r.2)
  | .setA c o a e,ρ,st=>(ovE cl ex e ρ st).bind fun p=>(ovE cl ex o ρ p.2).bind fun q=>(setAO c q.2 q.1 a p.1).map fun st'=>(.next ρ,st')
  | .aug x op e,ρ,st=>((ρ[x]?).join).bind fun a=>(ovE cl ex e ρ st).bind fun p=>if op == .Add || op == .Sub then (binO op a p.1).map fun v=>(.next (ρ.set x (some v)),p.2) else none
  | .augA c o a op e,ρ,st=>(ovE cl ex o ρ st).bind fun p=>(instO c p.2 p.1).bind fun q=>(lookA q.2 a).bind fun old=>(ovE cl ex e ρ p.2).bind fun r=>if op == .Add || op == .Sub then
      (binO op old r.1).bind fun v=>(setAO c r.2 p.1 a v).map fun st'=>(.next ρ,st') else none
  | .expr e,ρ,st=>(ovE cl ex e ρ st).bind fun p=>oDat p.1 fun _=>some (.next ρ,p.2)
  | .ife c a b,ρ,st=>(ovT cl ex c ρ st).bind fun t=>if t.1 then oxSs a ρ t.2 else oxSs b ρ t.2
  | .while_ c b,ρ,st=>whileO (ovT cl ex c) (oxSs b) fuel ρ st
  | .ret e,ρ,st=>(ovE cl ex e ρ st).map fun p=>(.ret p.1,p.2)
  | .brk,ρ,st=>some (.brk ρ,st)
  | .cont,ρ,st=>some (.cont ρ,st)
  | .asrt e,ρ,st=>(ovT cl ex e ρ st).bind fun t=>if t.1 then some (.next ρ,t.2) else none
  | .stuck,_,_=>none
noncomputable def oxSs:OSs→LO→St→Option (OFl × St)
  | .nil,ρ,st=>some (.next ρ,st)
  | .cons s ss,ρ,st=>(oxS s ρ st).bind fun r=>match r.1 with
    | .next ρ'=>oxSs ss ρ' r.2
    | f=>some (f,r.2)
end
end
noncomputable def retO:Option (OFl × St)→Option (OV × St)
  | some (.ret v,st)=>some (v,st)
  | some (.next _,st)=>some (.d .none,st)
  | _=>none
structure OF where
  size:Nat
  arity:Nat
  dflt:List PyData
  body:OSs
noncomputable def fillO (pf:OF) (args:List OV):Option LO :=
  if args.length ≤ pf.arity && pf.arity ≤ args.length + pf.dflt.length && pf.arity ≤ pf.size && pf.dflt.length ≤ pf.arity && pf.dflt.all flat then
    some ((args ++ (pf.dflt.drop (pf.dflt.length + args.length - pf.arity)).map OV.d).map some ++ List.replicate (pf.size - pf.arity) none) else none
abbrev OCl:=Nat→List OV→St→Option (OV × St)
noncomputable def runO (tab:Nat→Option OF) (prim:OCl→OCl) (ex:OCl→Nat→LO→St→Option (OV × St)) (fuel:Nat):Nat→OCl
  | 0,_,_,_=>none
  | lvl + 1,f,args,st=>match tab f with
    | some pf=>(fillO pf args).bind fun ρ=>retO (oxSs (runO tab prim ex fuel lvl) (ex (runO tab prim ex fuel lvl)) fuel pf.body ρ st)
    | none=>prim (runO tab prim ex fuel lvl) f args st
end Kt
end
section
open PySem PySem.W PyProof.Rows
namespace Kt
def Fl0 (v:Value) (d:PyData):Prop:=Rd default v d [] ∧ okD d = true
theorem rd_nil {h:Heap} {q:Bool} {vs:List Value} {ds:List PyData} {as:List Addr} (r:RdV h q vs ds as):q = true→as = []→∀ d,ds = [d]→flat d = true:=by
  cases r with
  | list=>exact fun _ e=>nomatch e
  | nil=>exact fun e=>nomatch e
  | cons=>exact fun e=>nomatch e
  | _=>exact fun _ _ _ e=>List.head_eq_of_cons_eq e ▸ rfl
theorem Fl0.rd {v:Value} {d:PyData} (x:Fl0 v d) (h:Heap):Rd h v d [] ∧ okD d = true ∧ flat d = true:=⟨x.1.map (fun _ _ ha=>nomatch ha),x.2,rd_nil x.1 rfl rfl d rfl⟩
theorem fl0_of {h:Heap} {v:Value} {d:PyData} {as:List Addr} (r:Rd h v d as) (ok:okD d = true) (f:flat d = true):Fl0 v d:=by
  cases rd_flat r f
  exact ⟨r.map (fun _ _ ha=>nomatch ha),ok⟩
def VE (μ:List Addr) (v:Value):OV→Prop
  | .d x=>Fl0 v x
  | .o k=>∃ a,μ[k]? = some a ∧ v = .ref a
  | .ty T=>v = .type T
inductive VEs (μ:List Addr):List Value→List OV→Prop
  | nil:VEs μ [] []
  | cons {v vs x xs}:VE μ v x→VEs μ vs xs→VEs μ (v :: vs) (x :: xs)
inductive Ents (μ:List Addr):List DictEntry→List (Str × OV)→Prop
  | nil:Ents μ [] []
  | cons {e es n x xs}:(∃ t,e.key = .str n t)→VE μ e.val x→Ents μ es xs→Ents μ (e :: es) ((n,x) :: xs)
section
variable {μ μ':List Addr}
theorem pre_get (p:μ <+: μ') {k:Nat} {a:Addr} (h:μ[k]? = some a):μ'[k]? = some a:=by
  obtain ⟨t,rfl⟩:=p
  rw [List.getElem?_append_left (List.getElem?_eq_some_iff.mp h).1]; exact h
theorem VE.pre (p:μ <+: μ') {v:Value}:∀ {x:OV},VE μ v x→VE μ' v x
  | .d _,h=>h
  | .o _,⟨a,h,e⟩=>⟨a,pre_get p h,e⟩
  | .ty _,h=>h
theorem VEs.pre (p:μ <+: μ') {vs:List Value} {xs:List OV} (h:VEs μ vs xs):VEs μ' vs xs:=by
  induction h with
  | nil=>exact .nil
  | cons h _ ih=>exact .cons (h.pre p) ih
theorem Ents.pre (p:μ <+: μ') {es:List DictEntry} {xs:List (Str × OV)} (h:Ents μ es xs):Ents μ' es xs:=by
  induction h with
  | nil=>exact .nil
  | cons k h _ ih=>exact .cons k (h.pre p) ih
theorem VEs.length {vs:List Value} {xs:List OV} (h:VEs μ vs xs):vs.length = xs.length:=by
  induction h with
  | nil=>rfl
  | cons _ _ ih=>exact congrArg (· + 1) ih
theorem Ents.length {es:List DictEntry} {xs:List (Str × OV)} (h:Ents μ es xs):es.length = xs.length:=by
  induction h with
  | nil=>rfl
  | cons _ _ _ ih=>exact congrArg (· + 1) ih
theorem VEs.get {vs:List Value} {xs:List OV} (h:VEs μ vs xs):∀ {k:Nat} {x:OV},xs[k]? = some x→∃ v,vs[k]? = some v ∧ VE μ v x:=by
  induction h with
  | nil=>exact fun e=>nomatch e
  | cons h _ ih=>exact fun {k x}=>k.casesOn (fun e=>⟨_,rfl,Option.some.inj e ▸ h⟩) fun k=>ih (k:=k)
theorem VEs.append {vs ws:List Value} {xs ys:List OV} (h:VEs μ vs xs) (g:VEs μ ws ys):VEs μ (vs ++ ws) (xs ++ ys):=by
  induction h with
  | nil=>exact g
  | cons h _ ih=>exact .cons h ih
theorem VEs.drop (k:Nat) {vs:List Value} {xs:List OV} (h:VEs μ vs xs):VEs μ (vs.drop k) (xs.drop k):=by
  induction h generalizing k with
  | nil=>rw [List.drop_nil,List.drop_nil]; exact .nil
  | cons h hs ih=>exact k.casesOn (.cons h hs) fun k=>ih k
theorem vesK {vs:List Value} {x:OV} {xs:List OV} {m:List Value→Prop} (h:VEs μ vs (x :: xs)) (k:∀ w ws,VE μ w x→VEs μ ws xs→m (w :: ws)):m vs:=by
  cases h with | cons h g=>exact k _ _ h g
theorem ves1 {vs:List Value} {x:OV} {m:List Value→Prop} (h:VEs μ vs [x]) (k:∀ w,VE μ w x→m [w]):m vs:=vesK h fun w ws h g=>by cases g; exact k w h
theorem ves2 {vs:List Value} {x y:OV} {m:List Value→Prop} (h:VEs μ vs [x,y]) (k:∀ w u,VE μ w x→VE μ u y→m [w,u]):m vs:=vesK h fun w ws h g=>ves1 (m:=fun ws=>m (w :: ws)) g fun u g=>k w u h g
end
abbrev boundAppend (b:Addr):Obj:={ cls:=.type "builtin_function_or_method",data:=.fields #[.builtin "list.append",.ref b] }
def IsDeq (o:Obj):Prop:=o.cls = .type "collections.deque" ∧ o.dict = none ∧ (∃ a b,o.data = .fields #[a,b])
abbrev dictObj (ents:Array DictEntry) (n:Nat) (sl:Array (Option Value)):Obj:={ cls:=.type "dict",dict:=none,data:=.dict ents n,slots:=sl }
abbrev listObj (items:Array Value) (n:Nat) (sl:Array (Option Value)):Obj:={ cls:=.type "list",dict:=none,data:=.seq items n,slots:=sl }
def FOk (cA:Nat→Option Addr) (μ:List Addr) (h:Heap) (k:Nat) (a:Addr):FO→Prop
  | .inst c=>∃ C dx,cA c = some C ∧ μ[k + 1]? = some dx ∧ h.get? a = some (instObj C dx)
  | .dict es=>∃ ents n sl,h.get? a = some (dictObj ents n sl) ∧ Ents μ ents.toList es ∧ es.length ≤ 100
  | .list xs=>∃ items n sl,h.get? a = some (listObj items n sl) ∧ VEs μ items.toList xs ∧ xs.length ≤ 1001
  | .meth j=>∃ b,μ[j]? = some b ∧ h.get? a = some (boundAppend b)
  | .deq=>∃ o,h.get? a = some o ∧ IsDeq o
  | .plain=>∃ o,h.get? a = some o ∧ o.cls ≠ .type "tuple"
structure Sto (Z:Zone) (cA:Nat→Option Addr) (μ:List Addr) (st:St) (h:Heap):Prop where
  len:μ.length = st.length
  nd:μ.Nodup
  hi:∀ a ∈ μ,Z.n ≤ a ∧ a ∉ Z.fr
  at_:∀ (k:Nat) (a:Addr) (f:FO),μ[k]? = some a→st[k]? = some f→FOk cA μ h k a f
structure OStep (Z:Zone) (L:Addr→Prop) (μ μ':List Addr) (h h':Heap):Prop where
  pre:μ <+: μ'
  keep:∀ b o,h.get? b = some o→(o.cls ≠ .none ∨ Z.n ≤ b)→b ∉ μ→¬ L b→Sl h' b o
  new:∀ a ∈ μ',a ∉ μ→Z.n ≤ a ∧ h.get? a = none ∧ ¬ L a
section
variable {Z:Zone} {L:Addr→Prop} {cA:Nat→Option Addr} {μ μ' μ'':List Addr} {st st':St} {h h' h'':Heap}
theorem FOk.ex {k:Nat} {a:Addr} {f:FO} (x:FOk cA μ h k a f):∃ o,h.get? a = some o ∧ o.cls ≠ .type "tuple" := by
  cases f with
  | inst c=>exact let ⟨_,_,_,_,e⟩:=x; ⟨_,e,nofun⟩
  | dict es=>exact let ⟨_,_,_,e,_⟩:=x; ⟨_,e,by show Value.type "dict" ≠ _; decide⟩
  | list xs=>exact let ⟨_,_,_,e,_⟩:=x; ⟨_,e,by show Value.type "list" ≠ _; decide⟩
  | meth j=>exact let ⟨_,_,e⟩:=x; ⟨_,e,by show Value.type "builtin_function_or_method" ≠ _; decide⟩
  | deq=>exact let ⟨o,e,h1,_⟩:=x; ⟨o,e,by rw [h1]; decide⟩
  | plain=>exact x
theorem FOk.sl {k:Nat} {a:Addr} {f:FO} (x:FOk cA μ h k a f) (p:μ <+: μ') (s:∀ o,h.get? a = some o→Sl h' a o):FOk cA μ' h' k a f:=by
  cases f with
  | inst c=>exact let ⟨C,dx,h1,h2,e⟩:=x; ⟨C,dx,h1,pre_get p h2,(s _ e).nd nofun⟩
  | dict es=>exact let ⟨ents,n,sl,e,h1,h2⟩:=x; (s _ e).elim (fun e'=>⟨ents,n,sl,e',h1.pre p,h2⟩) fun ⟨_,sl',e'⟩=>⟨ents,n,sl',e',h1.pre p,h2⟩
  | list xs=>exact let ⟨items,n,sl,e,h1,h2⟩:=x; ⟨items,n,sl,(s _ e).seq rfl,h1.pre p,h2⟩
  | meth j=>exact let ⟨b,h1,e⟩:=x; ⟨b,pre_get p h1,(s _ e).nd nofun⟩
  | deq=>exact let ⟨o,e,h1,h2,a,b,h3⟩:=x; ⟨o,(s _ e).flds h3,h1,h2,a,b,h3⟩
  | plain=>exact let ⟨_,e,hc⟩:=x; let ⟨o',e',hc',_⟩:=(s _ e).ex; ⟨o',e',hc' ▸ hc⟩
theorem Sto.get (S:Sto Z cA μ st h) {k:Nat} {f:FO} (e:st[k]? = some f):∃ a,μ[k]? = some a ∧ a ∈ μ ∧ FOk cA μ h k a f:=by
  have hk:k < μ.length:=S.len ▸ (List.getElem?_eq_some_iff.mp e).1
  have h1:μ[k]? = some μ[k]:=List.getElem?_eq_getElem hk
  exact ⟨_,h1,List.getElem_mem hk,S.at_ k _ f h1 e⟩
theorem Sto.of (S:Sto Z cA μ st h) {k:Nat} {f:FO} {a:Addr} (e:st[k]? = some f) (h1:μ[k]? = some a):FOk cA μ h k a f:=S.at_ k a f h1 e
theorem Sto.ex (S:Sto Z cA μ st h) {k:Nat} {a:Addr} (h1:μ[k]? = some a):∃ o,h.get? a = some o ∧ o.cls ≠ .type "tuple" :=
  (S.at_ k a _ h1 (List.getElem?_eq_getElem (S.len ▸ (List.getElem?_eq_some_iff.mp h1).1))).ex
theorem Sto.live (S:Sto Z cA μ st h) (a:Addr) (ha:a ∈ μ):∃ o,h.get? a = some o:=let ⟨_,e⟩:=List.mem_iff_getElem?.mp ha; let ⟨o,e,_⟩:=S.ex e; ⟨o,e⟩
theorem Sto.kp (S:Sto Z cA μ st h) (k:Kp Z.n h h'):Sto Z cA μ st h':=⟨S.len,S.nd,S.hi,fun j a f h1 h2=>(S.at_ j a f h1 h2).sl List.prefix_rfl fun o e=>k.k a o e (.inr (S.hi a (List.mem_of_getElem? h1)).1)⟩
theorem OStep.kp (k:Kp Z.n h h'):OStep Z L μ μ h h':=⟨List.prefix_rfl,fun b o e c _ _=>k.k b o e c,fun _ ha hn=>absurd ha hn⟩
theorem OStep.refl:OStep Z L μ μ h h:=.kp (Kp.refl _ _)
theorem OStep.trans (x:OStep Z L μ μ' h h') (y:OStep Z L μ' μ'' h' h''):OStep Z L μ μ'' h h'' where
  pre:=x.pre.trans y.pre
  keep:=fun b o e c hb hl=>(x.keep b o e c hb hl).next fun o' e' hc=>y.keep b o' e' (by rw [hc]; exact c) (fun hm=>nomatch (x.new b hm hb).2.1.symm.trans e) hl
  new:=fun a ha hn=>(Classical.em (a ∈ μ')).elim (fun hm=>x.new a hm hn) fun hm=>let ⟨h1,h2,h3⟩:=y.new a ha hm; ⟨h1,notThere (fun o e=>let ⟨_,e',_⟩:=(x.keep a o e (.inr h1) hn h3).ex; nomatch h2.symm.trans e'),h3⟩
theorem OStep.ns (x:OStep Z L μ μ' h h') {a:Addr} {m:Str→Option Value} (ha:Z.n ≤ a) (hm:a ∉ μ) (hl:¬ L a) (n:h.Ns a m):h'.Ns a m :=
  let ⟨_,es,ep,e,hd,r⟩:=n; let ⟨o',e',_,hd'⟩:=(x.keep _ _ e (.inr ha) hm hl).ex; ⟨o',es,ep,e',hd'.trans hd,r⟩
theorem OStep.kpOf (x:OStep Z (fun _=>False) [] μ' h h'):Kp Z.n h h':=⟨fun b o e c=>x.keep b o e c (fun h=>nomatch h) id⟩
end
structure OEnv (Z:Zone) (nm:List Str) (env:Env) (ρ:LO) (μ:List Addr) (h:Heap):Prop where
  lam:nm.length = 14→env.code = Z.lam
  kind:env.scope.kind = .function
  glob:env.globals = mainGlobals
  blt:env.builtins = builtinsNs
  new:Z.n ≤ env.locals
  out:env.locals ∉ μ
  ns:∃ m,h.Ns env.locals m ∧ ∀ (x:Nat) (v:OV) (n:Str),(ρ[x]?).join = some v→nm[x]? = some n→∃ w,m n = some w ∧ VE μ w v
theorem OEnv.ne {Z:Zone} {nm:List Str} {env:Env} {ρ:LO} {μ:List Addr} {h:Heap} (x:OEnv Z nm env ρ μ h) {a:Addr} (ha:h.get? a = none):a ≠ env.locals:=fun e=>by
  obtain ⟨m,⟨o,_,_,e',_⟩,_⟩:=x.ns
  rw [← e,ha] at e'; cases e'
theorem OEnv.step {Z:Zone} {nm:List Str} {env:Env} {ρ:LO} {μ μ':List Addr} {h h':Heap} (x:OEnv Z nm env ρ μ h) (t:OStep Z (fun _=>False) μ μ' h h'):OEnv Z nm env ρ μ' h' :=
  { x with
    out:=fun hm=>x.ne (t.new _ hm x.out).2.1 rfl
    ns:=let ⟨m,hm,hv⟩:=x.ns; ⟨m,t.ns x.new x.out id hm,fun y v n h1 h2=>let ⟨w,h3,h4⟩:=hv y v n h1 h2; ⟨w,h3,h4.pre t.pre⟩⟩ }
theorem OEnv.size {Z:Zone} {nm:List Str} {env:Env} {ρ:LO} {μ:List Addr} {h:Heap} (x:OEnv Z nm env ρ μ h):Z.n ≤ h.objs.size :=
  let ⟨_,hm,_⟩:=x.ns; Nat.le_trans x.new (Nat.le_of_lt hm.lt)
theorem OStep.inL {Z:Zone} {nm:List Str} {env:Env} {ρ:LO} {μ μ':List Addr} {h h':Heap} (hE:OEnv Z nm env ρ μ h) (x:OStep Z (fun _=>False) μ μ' h h'):OStep Z (· = env.locals) μ μ' h h' :=
  ⟨x.pre,fun b o e c hb _=>x.keep b o e c hb id,fun a ha hn=>let ⟨h1,h2,_⟩:=x.new a ha hn; ⟨h1,h2,hE.ne h2⟩⟩
end Kt
end
section
open PySem PySem.W PyProof.Rows PySem.Calls Builtin Builtin.ObjectAttr
namespace Kt
theorem ents_noRef {μ:List Addr} {es:List DictEntry} {xs:List (Str × OV)} (h:Ents μ es xs):es.any (·.refKey) = false:=by
  induction h with
  | nil=>rfl
  | cons k _ _ ih =>
    obtain ⟨t,hk⟩:=k
    rw [List.any_cons,ih]
    unfold DictEntry.refKey
    rw [hk]
    rfl
theorem isStr_key {e:DictEntry} {n a:Str} (k:∃ t,e.key = .str n t):e.key.isStr a = (n == a):=by obtain ⟨t,hk⟩:=k; rw [hk]; rfl
theorem ents_find {μ:List Addr} {a:Str} {es:List DictEntry} {xs:List (Str × OV)} (h:Ents μ es xs) :
    (∀ v,lookA xs a = some v→∃ e,es.find? (·.key.isStr a) = some e ∧ VE μ e.val v) ∧ (lookA xs a = none→es.find? (·.key.isStr a) = none):=by
  induction h with
  | nil=>exact ⟨nofun,fun _=>rfl⟩
  | cons k hv _ ih =>
    rw [List.find?_cons,isStr_key k,lookA]
    dsimp only
    rename_i n _ _ _
    cases n == a with
    | true=>exact ⟨fun v e=>⟨_,rfl,Option.some.inj e ▸ hv⟩,nofun⟩
    | false=>exact ih
theorem ents_put {μ:List Addr} {a:Str} {hsh:Int} {t:Tok} {w:Value} {v:OV} (hw:VE μ w v) {es:List DictEntry} {xs:List (Str × OV)} (h:Ents μ es xs):Ents μ (putL a hsh (.str a t) w es) (putA xs a v):=by
  induction h with
  | nil=>exact .cons ⟨t,rfl⟩ hw .nil
  | cons k hv hs ih =>
    rw [putL,putA,isStr_key k]
    dsimp only
    rename_i n _ _
    cases n == a with
    | true=>exact .cons k hw hs
    | false=>exact .cons k hv ih
noncomputable def getOk (K:Frag) (C:Addr) (a:Str):Bool:=plainGet K C a && (hasDictIn K C && onS (findIn K (.ref C) a) (noGet K))
noncomputable def setOk (K:Frag) (C:Addr) (a:Str):Bool:=findIn K (.ref C) "__setattr__" == some (some (.builtin "object.__setattr__")) && (plainOver K C && (takerIn K C a == some none && hasDictIn K C))
noncomputable def methOk (K:Frag) (C:Addr) (m:Str) (f:Addr):Bool:=plainGet K C m && (findIn K (.ref C) m == some (some (.ref f)) && (isFn K (.ref f) && (fnIn K f && keepIn K (.ref f))))
noncomputable def onRefV (v:Value) (f:Addr→Bool):Bool:=onRef v f
noncomputable def propOk (K:Frag) (C:Addr) (a:Str) (f:Addr):Bool:=plainGet K C a && (hasDictIn K C && onS (findIn K (.ref C) a) fun x=>onS x fun x=>onRef x fun p =>
  specialIn K (.ref p) "__get__" == some (some (.builtin "property.__get__")) && (takesIn K (.ref p) == some true && onS (recIn K p "property") fun l=>onC l fun g _=>onRef g fun g=>g == f))
structure OAt (Z:Zone) (cA:Nat→Option Addr) (L:Addr→Prop) (μ:List Addr) (h:Heap) (μ':List Addr) (st':St) (s':Shared):Prop where
  i:Inv Z s'
  t:OStep Z L μ μ' h s'.heap
  so:Sto Z cA μ' st' s'.heap
abbrev noL:Addr→Prop:=fun _=>False
section
variable {Z:Zone} {cA:Nat→Option Addr} {L:Addr→Prop} {μ μ' μ'':List Addr} {st st' st'':St} {s s' s'':Shared} {h:Heap} {K:Frag}
theorem OAt.trans (a:OAt Z cA L μ h μ' st' s') (b:OAt Z cA L μ' s'.heap μ'' st'' s''):OAt Z cA L μ h μ'' st'' s'':=⟨b.i,a.t.trans b.t,b.so⟩
theorem OAt.here (I:Inv Z s) (S:Sto Z cA μ st s.heap):OAt Z cA L μ s.heap μ st s:=⟨I,.refl,S⟩
theorem OAt.tok (a:OAt Z cA L μ h μ' st' s') (tk:Nat):OAt Z cA L μ h μ' st' { s' with toks:=tk }:=⟨a.i.tok tk,a.t,a.so⟩
theorem OAt.kp (a:OAt Z cA L μ h μ' st' s') (I:Inv Z s'') (k:Kp Z.n s'.heap s''.heap):OAt Z cA L μ h μ' st' s'':=⟨I,a.t.trans (.kp k),a.so.kp k⟩
theorem getElem?_nodup {α:Type} {l:List α} (nd:l.Nodup) {i j:Nat} {a:α} (h1:l[i]? = some a) (h2:l[j]? = some a):i = j :=
  let ⟨_,e1⟩:=List.getElem?_eq_some_iff.mp h1; let ⟨_,e2⟩:=List.getElem?_eq_some_iff.mp h2; (List.getElem_inj nd).mp (e1.trans e2.symm)
theorem OAt.turn (a:OAt Z cA L μ h μ' st' s') {k:Nat} {b:Addr} {f:FO} {h':Heap} {tk:Nat} (hk:μ'[k]? = some b) (hb:Heap.SameBut b s'.heap h') (hf:FOk cA μ' h' k b f):OAt Z cA L μ h μ' (st'.set k f) { s' with heap:=h',toks:=tk }:=by
  have hm:=List.mem_of_getElem? hk
  have hh:=a.so.hi b hm
  refine ⟨a.i.same hh.1 hb (fun h=>absurd h hh.2) tk,a.t.trans ⟨List.prefix_rfl,fun c o e _ hn _=>.inl ((hb.2 c fun e'=>hn (e' ▸ hm)).trans e),fun _ h hn=>absurd h hn⟩,?_⟩
  refine ⟨a.so.len.trans List.length_set.symm,a.so.nd,a.so.hi,fun j c g h1 h2=>?_⟩
  by_cases e:j = k
  · subst e
    cases hk.symm.trans h1
    rw [List.getElem?_set_self (a.so.len ▸ (List.getElem?_eq_some_iff.mp hk).1)] at h2
    cases h2; exact hf
  · rw [List.getElem?_set_ne (Ne.symm e)] at h2
    exact (a.so.at_ j c g h1 h2).sl List.prefix_rfl fun o e'=>.inl ((hb.2 c fun e'=>e (getElem?_nodup a.so.nd (e' ▸ h1) hk)).trans e')
theorem OAt.mores (a:OAt Z cA L μ h μ' st' s') {bs:List Addr} {fs:List FO} {h':Heap} {tk:Nat} (hlen:bs.length = fs.length) (hnd:bs.Nodup) (hb:∀ b ∈ bs,s'.heap.get? b = none ∧ (Z.n ≤ b ∧ b ∉ Z.fr) ∧ ¬ L b) (hk:∀ c o,s'.heap.get? c = some o→h'.get? c = some o)
    (hf:∀ i b f,bs[i]? = some b→fs[i]? = some f→FOk cA (μ' ++ bs) h' (st'.length + i) b f):OAt Z cA L μ h (μ' ++ bs) (st' ++ fs) { s' with heap:=h',toks:=tk }:=by
  refine ⟨a.i.full hk,a.t.trans ⟨List.prefix_append _ _,fun c o e _ _ _=>.inl (hk c o e),fun c hc hnb=>(List.mem_append.mp hc).elim (fun h=>absurd h hnb) fun h=>⟨(hb c h).2.1.1,(hb c h).1,(hb c h).2.2⟩⟩,?_⟩
  refine ⟨by rw [List.length_append,List.length_append,a.so.len,hlen],List.nodup_append.mpr ⟨a.so.nd,hnd,fun x hx y hy e=>?_⟩,fun c hc=>(List.mem_append.mp hc).elim (a.so.hi c) fun h=>(hb c h).2.1,fun j c g h1 h2=>?_⟩
  · obtain ⟨o,ho⟩:=a.so.live x hx
    rw [e,(hb y hy).1] at ho; cases ho
  · rcases Nat.lt_or_ge j μ'.length with hj | hj
    · rw [List.getElem?_append_left hj] at h1
      rw [List.getElem?_append_left (a.so.len ▸ hj)] at h2
      exact (a.so.at_ j c g h1 h2).sl (List.prefix_append _ _) fun o e=>.inl (hk c o e)
    · rw [List.getElem?_append_right hj] at h1
      rw [List.getElem?_append_right (a.so.len ▸ hj),← a.so.len] at h2
      exact Nat.add_sub_cancel' (a.so.len ▸ hj:st'.length ≤ j) ▸ a.so.len ▸ hf _ c g h1 h2
theorem OAt.more (a:OAt Z cA L μ h μ' st' s') {b:Addr} {f:FO} {h':Heap} {tk:Nat} (hb:s'.heap.get? b = none) (hn:Z.n ≤ b) (hfr:b ∉ Z.fr) (hl:¬ L b) (hk:∀ c o,s'.heap.get? c = some o→h'.get? c = some o) (hf:FOk cA (μ' ++ [b]) h' st'.length b f) :
    OAt Z cA L μ h (μ' ++ [b]) (st' ++ [f]) { s' with heap:=h',toks:=tk } :=
  a.mores rfl (List.nodup_cons.mpr ⟨nofun,.nil⟩) (fun c hc=>List.mem_singleton.mp hc ▸ ⟨hb,⟨hn,hfr⟩,hl⟩) hk fun i=>i.casesOn (fun c g h1 h2=>Option.some.inj h1 ▸ Option.some.inj h2 ▸ hf) fun i c g h1=>nomatch h1
theorem Sto.instK (S:Sto Z cA μ st h) {G:Prop} {c k:Nat} {C:Addr} {es:List (Str × OV)} {o:OV} {w:Value} (hC:cA c = some C) (e:instO c st o = some (k,es)) (hw:VE μ w o)
    (go:∀ x dx ents n sl,w = .ref x→μ[k + 1]? = some dx→InstAt h x (instObj C dx) C (some (dictObj ents n sl))→Ents μ ents.toList es→G):G :=
  oNumK e fun j e1 e=>fIK e fun c' h1 e=>fDK e fun es' h2 e=>ifP e fun hc e=>by
  cases e
  subst hc e1
  obtain ⟨x,g1,rfl⟩:=hw
  obtain ⟨C',dx,g2,g3,g4⟩:=S.of h1 g1
  cases hC.symm.trans g2
  obtain ⟨ents,n,sl,g6,g7,_⟩:=S.of h2 g3
  exact go x dx ents n sl rfl g3 ⟨g4,rfl,rfl,g6⟩ g7
theorem handed_ve {w:Value} {v:OV} (h:VE μ w v):handedIn w = true:=by
  cases v with
  | d y=>obtain ⟨r,_⟩:=h; cases r <;> rfl
  | o k=>obtain ⟨_,_,rfl⟩:=h; rfl
  | ty T=>cases h; rfl
theorem getO {A:Around} {E:Value→Shared→Prop} {Q:Value→Shared→Prop} {c k:Nat} {es:List (Str × OV)} {o:OV} {a:Str} {v:OV} {w:Value} {expr:Bool} {C:Addr} (X:K.In s.heap) (S:Sto Z cA μ st s.heap)
    (hC:cA c = some C) (hok:getOk K C a = true) (e:instO c st o = some (k,es)) (hl:lookA es a = some v) (hw:VE μ w o)
    (hQ:∀ u,VE μ u v→Q u { s with toks:=s.toks + 1 }):wpAny (model Z.prog Z.w) A (getAttr w a expr) Q E s :=
  S.instK hC e hw fun x dx ents n sl ew _ II En=>andK hok fun g1 h=>andK h fun g2 h=>by
  subst ew
  obtain ⟨attr,hattr,g3⟩:=onSE h
  obtain ⟨en,h8,h9⟩:=(ents_find (a:=a) En).1 v hl
  exact get_value X II (plainGet_of g1).1 (findObj_own (v:=en.val) g2 hattr g3 (by show (match ents.toList.find? _ with | some e=>_ | none=>_) = _; rw [h8])) (handed_ve h9) (hQ _ h9)
theorem look_none {ents:Array DictEntry} {n:Nat} {sl:Array (Option Value)} {xs:List (Str × OV)} {a:Str} (h:Ents μ ents.toList xs) (e:lookA xs a = none):lookIn a (dictObj ents n sl) = some none:=by
  unfold lookIn; dsimp only; rw [(ents_find (a:=a) h).2 e,ents_noRef h]; rfl
theorem methG {A:Around} {E:Value→Shared→Prop} {Q:Value × List Value→Shared→Prop} {c k:Nat} {es:List (Str × OV)} {o:OV} {a:Str} {w:Value} {pl:Sem Bool} {C f:Addr} (X:K.In s.heap) (S:Sto Z cA μ st s.heap)
    (hC:cA c = some C) (hok:methOk K C a f = true) (e:instO c st o = some (k,es)) (hl:lookA es a = none) (hw:VE μ w o)
    (hQ:Q (.ref f,[w]) s):wpAny (model Z.prog Z.w) A (getMethod w a pl) Q E s :=
  S.instK hC e hw fun x dx ents n sl ew _ II En=>andK hok fun g1 h=>andK h fun g2 h=>andK h fun g3 h=>andK h fun g4 _=>by
  subst ew
  exact method_fn (od:=some _) X II (plainGet_of g1).1 (plainGet_of g1).2 (eq_of_beq g2) (eq_of_beq g3) (by show (lookIn a _).map _ = _; rw [look_none En hl]; rfl) hQ
theorem propG {A:Around} {E:Value→Shared→Prop} {Q:Value→Shared→Prop} {c k:Nat} {es:List (Str × OV)} {o:OV} {a:Str} {w:Value} {expr:Bool} {C f:Addr} (X:K.In s.heap) (S:Sto Z cA μ st s.heap)
    (hC:cA c = some C) (hok:propOk K C a f = true) (e:instO c st o = some (k,es)) (hw:VE μ w o)
    (h:codeAny (model Z.prog Z.w) A.in1 (.call (.ref f) ⟨[w],[]⟩) (fun r s'=>∃ v,r = .ok (.ret v) ∧ wpAny (model Z.prog Z.w) A (handedOut v) Q E s') { s with toks:=s.toks + 1 }):wpAny (model Z.prog Z.w) A (getAttr w a expr) Q E s :=
  S.instK hC e hw fun x dx ents n sl ew _ II En=>andK hok fun g1 hk=>andK hk fun g2 hk=>by
  subst ew
  obtain ⟨y,e1,hk⟩:=onSE hk
  obtain ⟨z,e2,hk⟩:=onSE hk
  obtain ⟨p,e3,hk⟩:=onRefE hk
  subst e2 e3
  obtain ⟨g3,hk⟩:=andT hk
  obtain ⟨g4,hk⟩:=andT hk
  obtain ⟨l,hrec,hk⟩:=onSE hk
  obtain ⟨rest,rfl⟩:∃ rest,l = .ref f :: rest:=onCK (m:=fun l=>∃ rest,l = Value.ref f :: rest) hk fun g r hk=>onRefK (m:=fun g=>∃ rest,g :: r = Value.ref f :: rest) hk fun g' hk=>⟨r,by rw [eq_of_beq hk]⟩
  have hcls:(clsIn K C).isSome = true:=by
    obtain ⟨cd,hc,_⟩:=any_some g2
    rw [hc]; rfl
  refine get_bind (od:=some _) X II (plainGet_of g1).1 (findObj_data hcls e1 (eq_of_beq g3) (eq_of_beq g4)) (plainGet_of g1).2 (wpAny_call (prop_get (s:={ s with toks:=s.toks + 1 }) X hrec ?_))
  exact codeAny_mono h fun r s' ⟨v,e,hv⟩=>by subst e; exact hv
theorem setO {A:Around} {E:Value→Shared→Prop} {Q:Unit→Shared→Prop} {c:Nat} {o:OV} {a:Str} {v:OV} {w u:Value} {C:Addr} {st'':St} (X:K.In s'.heap) (at_:OAt Z cA L μ h μ' st' s')
    (hC:cA c = some C) (hok:setOk K C a = true) (e:setAO c st' o a v = some st'') (hw:VE μ' w o) (hu:VE μ' u v)
    (hQ:∀ s'',OAt Z cA L μ h μ' st'' s''→Q () s''):wpAny (model Z.prog Z.w) A (setAttr w a u) Q E s' :=
  bnd2 e fun k es hi e=>ifP e fun hsz e=>at_.so.instK hC hi hw fun x dx ents n sl ew h3 II En=>andK hok fun g1 hk=>andK hk fun g2 hk=>andK hk fun g3 g4=>by
  subst ew
  cases e
  have h5:s'.heap.get? dx = some (dictObj ents n sl):=II.dict
  refine set_plain X II (eq_of_beq g1) (osa_open (s:={ s' with toks:=s'.toks + 1 }) X II g2 (eq_of_beq g3) fun b=>?_)
  obtain ⟨cd,hcd,hd'⟩:=any_some g4
  refine wpAny_bind (wpAny_pure (wpAny_bind (wpAny_bind (wpAny_loadPart II.at_ (wpAny_bind (looks_clsIn (M:=model Z.prog Z.w) X hcd _ _ _ _ (fun _ _ e=>e) ?_))))))
  rw [hd']
  refine wpAny_pure (a:=some dx) (wpAny_bind (wpAny_pure (wpAny_bind ?_)))
  unfold nsSet
  refine wpAny_bind (wpAny_bind (wpAny_askSetting (wpAny_pure (wpAny_bind (wpAny_mkText (wpAny_bind (wpAny_loadPart h5 ?_)))))))
  dsimp only
  have hc:(!ents.any (·.key.isStr a) && ents.any (·.refKey)) = false:=by
    rw [show ents.any (fun x=>x.refKey) = false from by rw [← Array.any_toList]; exact ents_noRef En,Bool.and_false]
  rw [aRefKeyMayBeTheName_at,hc]
  have hput:∀ hsh tk,Obj.putName a hsh (.str a tk) u (dictObj ents n sl) = dictObj (putL a hsh (.str a tk) u ents.toList).toArray (putN a ents.toList n) sl:=fun hsh tk=>by
    have:=putName_dict a hsh (.str a tk) u ents.toList n
    rw [Obj.putName_eq] at this ⊢
    unfold Obj.putNameByArray at this ⊢
    dsimp only [dictOf,dictObj] at this ⊢
    split at this <;> rename_i q <;> rw [Array.toArray_toList] at q <;> rw [q] <;> exact congrArg (fun d:Data=>(⟨.type "dict",none,d,sl⟩:Obj)) (congrArg Obj.data this)
  have D':∀ hsh tk,(s'.heap.update dx (Obj.putName a hsh (.str a tk) u)).get? dx = some (dictObj (putL a hsh (.str a tk) u ents.toList).toArray (putN a ents.toList n) sl):=fun hsh tk=>(Heap.get?_update_self _ h5 (by rw [hput]; rfl)).trans (congrArg some (hput hsh tk))
  have E':=fun hsh tk=>ents_put (a:=a) (hsh:=hsh) (t:=tk) hu En
  refine wpAny_updatePart h5 (wpAny_bind (wpAny_lookBehind (D' _ _) (pastItsLine_dict (by rw [List.size_toArray,(E' _ _).length]; exact Nat.le_trans hsz (by decide))) (wpAny_pure (hQ _ ?_))))
  exact at_.turn h3 (Heap.SameBut.update ..) ⟨_,_,_,D' _ _,E' _ _,hsz⟩
end
abbrev qb (id:String) (vs:List Value):Prop:=(Code.builtin id ⟨vs,[]⟩).quiet = true
theorem truthy_deq {prog:Program} {w:World} {A:Around} {E:Value→Shared→Prop} {s:Shared} {l:Addr} {o:Obj} {Q:Bool→Shared→Prop} (hh:A.handled = none) (ho:s.heap.get? l = some o) (hq:IsDeq o) (h:Q false { s with toks:=s.toks + 1 + 1 }):wpAny (model prog w) A (truthy (.ref l)) Q E s:=by
  obtain ⟨hc,hdict,a,b,hd⟩:=hq
  have ho:s.heap.get? l = some ⟨.type "collections.deque",none,.fields #[a,b],o.slots⟩:=by rw [ho,← hc,← hdict,← hd]
  refine swalk (K:=[]) (congrFun PySem.W.Fast.te15245631507167962100 (.ref l)) 9 (List.replicate 5 (0,⟨.type "collections.deque",none,.fields #[a,b],o.slots⟩))
    (s.heap.get? l = some ⟨.type "collections.deque",none,.fields #[a,b],o.slots⟩ ∧ s.heap.get? l = some ⟨.type "collections.deque",none,.fields #[a,b],o.slots⟩ ∧ s.heap.get? l = some ⟨.type "collections.deque",none,.fields #[a,b],o.slots⟩ ∧ s.heap.get? l = some ⟨.type "collections.deque",none,.fields #[a,b],o.slots⟩ ∧
      qb "collections.deque.__len__" [.ref l] ∧ s.heap.get? l = some ⟨.type "collections.deque",none,.fields #[a,b],o.slots⟩ ∧ Q false { s with toks:=s.toks + 1 + 1 }) hh ?_ ?_ ?_
  · exact fun _ _ h=>nomatch h
  · kernel_rfl
  · exact ⟨ho,ho,ho,ho,Code.quiet_builtin _ (by decide +kernel),ho,h⟩
end Kt
end
section
open PySem PySem.W PyProof.Rows PySem.Calls
namespace Kt
structure OD where
  Z:Zone
  cA:Nat→Option Addr
  cl:OCl
  ex:Nat→LO→St→Option (OV × St)
  lvl:Nat
  nm:List Str
noncomputable def OGot (Z:Zone) (cA:Nat→Option Addr) (μ:List Addr) (h:Heap) (st:St) (v:OV) (Q:Value→Shared→Prop):Prop:=∀ w s' μ',OAt Z cA noL μ h μ' st s'→VE μ' w v→Q w s'
structure Oc (D:OD) (sc:Scope) (A:Around) (env:Env) (ρ:LO) (μ:List Addr) (st:St) (s:Shared):Prop where
  ha:AOk D.Z (8 * D.lvl + 7) A
  hs:ScOk sc env
  he:OEnv D.Z D.nm env ρ μ s.heap
  hi:Inv D.Z s
  so:Sto D.Z D.cA μ st s.heap
section
variable (D:OD) (sc:Scope)
noncomputable def OSE (e:Expr) (p:OE):Prop :=
  ∀ {A:Around} {env:Env} {ρ:LO} {μ:List Addr} {st:St} {s:Shared} {v:OV} {st':St} {Q:Value→Shared→Prop} {E:Value→Shared→Prop},
    Oc D sc A env ρ μ st s→ovE D.cl D.ex p ρ st = some (v,st')→OGot D.Z D.cA μ s.heap st' v Q→wpAny (model D.Z.prog D.Z.w) A (eval e env) Q E s
noncomputable def OST (e:Expr) (p:OE):Prop :=
  ∀ {A:Around} {env:Env} {ρ:LO} {μ:List Addr} {st:St} {s:Shared} {t:Bool} {st':St} {Q:Bool→Shared→Prop} {E:Value→Shared→Prop},
    Oc D sc A env ρ μ st s→ovT D.cl D.ex p ρ st = some (t,st')→(∀ s' μ',OAt D.Z D.cA noL μ s.heap μ' st' s'→Q t s')→wpAny (model D.Z.prog D.Z.w) A (isTrue e env (eval e env)) Q E s
noncomputable def OSEs (es:List Expr) (ps:OEs):Prop :=
  ∀ {A:Around} {env:Env} {ρ:LO} {μ:List Addr} {st:St} {s:Shared} {ds:List OV} {st':St} {R:List Value→Shared→Prop} {E:Value→Shared→Prop} {pos:Pos},
    Oc D sc A env ρ μ st s→ovEs D.cl D.ex ps ρ st = some (ds,st')→(∀ vs s' μ',OAt D.Z D.cA noL μ s.heap μ' st' s'→VEs μ' vs ds→R vs s')→wpAny (model D.Z.prog D.Z.w) A (spliced (backTo pos (starEach es env))) R E s
noncomputable def OSO (o:Option Expr) (p:OO):Prop :=
  ∀ {A:Around} {env:Env} {ρ:LO} {μ:List Addr} {st:St} {s:Shared} {d:Option Int} {st':St} {Q:Value→Shared→Prop} {E:Value→Shared→Prop},
    Oc D sc A env ρ μ st s→ovO D.cl D.ex p ρ st = some (d,st')→(∀ q:Option (Int × Tok),q.map (·.1) = d→∀ s' μ',OAt D.Z D.cA noL μ s.heap μ' st' s'→Q (partValue q) s')→wpAny (model D.Z.prog D.Z.w) A (evalPart o env) Q E s
end
noncomputable def OCallOk (Z:Zone) (cA:Nat→Option Addr) (cl:OCl) (lvl:Nat) (fA:Nat→Option Addr):Prop :=
  ∀ {f:Nat} {a:Addr} {args:List OV} {st:St} {v:OV} {st':St},fA f = some a→cl f args st = some (v,st') →
    ∀ {A:Around} {s:Shared} {vs:List Value} {μ:List Addr} {R:Result→Shared→Prop},AOk Z (8 * lvl) A→Inv Z s→Z.n ≤ s.heap.objs.size→Sto Z cA μ st s.heap→VEs μ vs args →
      OGot Z cA μ s.heap st' v (fun w s'=>R (.ok (.ret w)) s')→codeAny (model Z.prog Z.w) A (.call (.ref a) (argsO f vs)) R s
noncomputable def obiTab:List (Str × Value) :=
  [("len",.builtin "len"),("type",.type "type"),("int",.type "int"),("bool",.type "bool"),("str",.type "str"),("isinstance",.builtin "isinstance"),("object",.type "object"),("list",.type "list"),("StopIteration",.type "StopIteration")]
noncomputable def OBiOk (Z:Zone):Prop:=∀ n v,(n,v) ∈ obiTab→Z.mg n = none ∧ Z.mb n = some v
section
variable {Z:Zone} {cA:Nat→Option Addr} {μ μ' μ'':List Addr} {st st' st'':St} {s s' s'':Shared} {h:Heap} {A:Around} {Q:Value→Shared→Prop} {E:Value→Shared→Prop} {w u:Value} {x y v:OV} {lvl:Nat}
theorem OGot.after (g:OGot Z cA μ h st v Q) (a:OAt Z cA noL μ h μ' st' s'):OGot Z cA μ' s'.heap st v Q:=fun w s'' μ'' b hv=>g w s'' μ'' (a.trans b) hv
theorem OGot.flat {d:PyData} (g:OGot Z cA μ h st (.d d) Q) (a:OAt Z cA noL μ h μ' st s') (hf:Kt.flat d = true):Got Z s' [] [] d Q:=fun v _ s'' I k r ok _=>g v s'' μ' (a.kp I k) (fl0_of r ok hf)
theorem flatK {α:Type} {d:α} {G:Prop} {v:OV} {f:PyData→Option α} (h:(flatV v).bind f = some d) (k:∀ x,v = .d x→Kt.flat x = true→f x = some d→G):G :=
  bndK h fun x hx h=>oDatK hx fun y e hy=>ifK hy fun hf e'=>k x (e' ▸ e) (e' ▸ hf) h
theorem flatRK {o:Option PyData} {v:OV} {G:Prop} (h:flatR o = some v) (k:∀ d,o = some d→Kt.flat d = true→v = .d d→G):G:=bndK h fun d e h=>ifK h fun hf e'=>k d e hf e'.symm
theorem strVK {α:Type} {d:α} {G:Prop} {v:OV} {f:Str→Option α} (h:(strV v).bind f = some d) (k:∀ x,v = .d (.str x)→f x = some d→G):G :=
  bndK h fun x hx h=>oDatK hx fun y e hy=>dStrK hy fun s e' hs=>k x (by rw [e,e',Option.some.inj hs]) h
theorem strV_some {v:OV} {x:Str} (h:strV v = some x):v = .d (.str x):=oDatK h fun y e hy=>dStrK hy fun s e' hs=>by rw [e,e',Option.some.inj hs]
theorem veS {x:Str} {m:Value→Prop} (h:VE μ w (.d (.str x))) (k:∀ t,okD (.str x) = true→m (.str x t)):m w:=rdS (m:=m) h.1 fun t=>k t h.2
theorem veI {x:Int} {m:Value→Prop} (h:VE μ w (.d (.int x))) (k:∀ t,m (.int x t)):m w:=rdI (m:=m) h.1 k
theorem ve_int {i:Int} {t:Tok}:VE μ (.int i t) (.d (.int i)):=⟨.int i t,rfl⟩
theorem ve_bool {b:Bool}:VE μ (.bool b) (.d (.bool b)):=⟨.bool b,rfl⟩
theorem ve_none:VE μ .none (.d .none):=⟨.none,rfl⟩
theorem ve_str {x:Str} {t:Tok} (h:okD (.str x) = true):VE μ (.str x t) (.d (.str x)):=⟨.str x t,h⟩
theorem Sto.listAt {k:Nat} {xs:List OV} (S:Sto Z cA μ st h) (hk:st[k]? = some (.list xs)) (hw:VE μ w (.o k)):∃ a items n sl,w = .ref a ∧ μ[k]? = some a ∧ h.get? a = some (listObj items n sl) ∧ VEs μ items.toList xs ∧ items.size = xs.length ∧ xs.length ≤ 1001:=by
  obtain ⟨a,ha,rfl⟩:=hw
  obtain ⟨items,n,sl,h2,h3,h4⟩:=S.of hk ha
  exact ⟨a,items,n,sl,rfl,ha,h2,h3,Array.length_toList.symm.trans h3.length,h4⟩
theorem le_cline {n:Nat} (h:n ≤ 1001):n ≤ sizeLine:=Nat.le_trans h (by decide)
theorem otruthy {b:Bool} {R:Bool→Shared→Prop} (hh:A.handled = none) (a:OAt Z cA noL μ h μ' st' s') (hw:VE μ' w v) (ht:truthO st' v = some b) (g:∀ s'',OAt Z cA noL μ h μ' st' s''→R b s''):wpAny (model Z.prog Z.w) A (truthy w) R E s':=by
  cases v with
  | d x=>exact ifP ht fun _ ht=>let ⟨r,ok,_⟩:=Fl0.rd hw s'.heap; sound_truthy a.i r ok ht fun s'' I k=>g s'' (a.kp I k)
  | o k =>
    exact bndK ht fun f hf ht=>by
      cases f with
      | list xs =>
        cases ht
        obtain ⟨b,items,n,sl,rfl,_,h2,_,h4,h5⟩:=a.so.listAt hf hw
        have e:items.isEmpty = xs.isEmpty:=by
          unfold Array.isEmpty
          rw [h4]
          cases xs <;> rfl
        exact wpAny_truthy_list ⟨_,h2,rfl,n,rfl⟩ (by omega) (e ▸ g _ (a.tok _))
      | deq =>
        cases ht
        obtain ⟨b,ha,rfl⟩:=hw
        obtain ⟨o,h2,h3⟩:=a.so.of hf ha
        exact truthy_deq hh h2 h3 (g _ (a.tok _))
      | _=>cases ht
  | ty T=>cases ht
theorem obin {op:Operator} (a:OAt Z cA noL μ h μ' st' s') (hw:VE μ' w x) (hu:VE μ' u y) (hv:binO op x y = some v) (g:OGot Z cA μ h st' v Q):wpAny (model Z.prog Z.w) A (binaryOp op w u) Q E s' :=
  flatK hv fun x' e1 _ hv=>flatK hv fun y' e2 _ hv=>flatRK hv fun d h3 f3 e=>by
  subst e1 e2 e
  obtain ⟨r1,ok1,_⟩:=Fl0.rd hw s'.heap
  obtain ⟨r2,ok2,_⟩:=Fl0.rd hu s'.heap
  exact sound_bin (O:=[]) (es:=[]) a.i r1 r2 ok1 ok2 h3 (g.flat a f3) nofun nofun nofun
theorem plainRef {w:Value} {x:PyData} (h:Fl0 w x) (a:Addr):(plainIs w (.ref a) = true ∧ (w == .ref a) = false) ∧ plainIs (.ref a) w = true ∧ (Value.ref a == w) = false:=by
  obtain ⟨r,_⟩:=h
  cases r <;> exact ⟨⟨rfl,rfl⟩,rfl,rfl⟩
theorem oIs {b:Bool} (S:Sto Z cA μ st s.heap) (hw:VE μ w x) (hu:VE μ u y) (hb:isO x y = some b):(Q (.bool b) s→wpAny (model Z.prog Z.w) A (compareOp .Is w u) Q E s) ∧ (Q (.bool !b) s→wpAny (model Z.prog Z.w) A (compareOp .IsNot w u) Q E s):=by
  have both:(∀ R:Bool→Shared→Prop,R b s→wpAny (model Z.prog Z.w) A (isSame w u) R E s)→(Q (.bool b) s→wpAny (model Z.prog Z.w) A (compareOp .Is w u) Q E s) ∧ (Q (.bool !b) s→wpAny (model Z.prog Z.w) A (compareOp .IsNot w u) Q E s) :=
    fun h=>⟨fun q=>by show wpAny _ A (do return .bool (← isSame w u)) Q E s; exact wpAny_bind (h _ (wpAny_pure q)),fun q=>by show wpAny _ A (do return .bool (!(← isSame w u))) Q E s; exact wpAny_bind (h _ (wpAny_pure q))⟩
  cases x with
  | d x =>
    refine ifP hb fun fx hb=>?_
    cases y with
    | d y=>exact ifP hb fun fy hb=>sound_is (Fl0.rd hw s.heap).1 (Fl0.rd hu s.heap).1 hb
    | o k=>obtain ⟨a,_,rfl⟩:=hu; cases hb; exact both fun R q=>wpAny_isSame_plain (plainRef hw a).1.1 ((plainRef hw a).1.2 ▸ q)
    | ty T=>cases hb
  | o k =>
    obtain ⟨a,ha,rfl⟩:=hw
    cases y with
    | d y=>refine ifP hb fun fy hb=>?_; cases hb; exact both fun R q=>wpAny_isSame_plain (plainRef hu a).2.1 ((plainRef hu a).2.2 ▸ q)
    | o j =>
      obtain ⟨c,hc,rfl⟩:=hu
      refine both fun R hq=>?_
      cases hb
      by_cases e:k = j
      · subst e
        cases ha.symm.trans hc
        exact wpAny_isSame_ref_self (beq_self_eq_true k ▸ hq)
      · obtain ⟨o1,e1,n1⟩:=S.ex ha
        obtain ⟨o2,e2,_⟩:=S.ex hc
        exact wpAny_isSame_ref_other (fun e'=>e (getElem?_nodup S.nd ha (e' ▸ hc))) e1 e2 n1 (beq_false_of_ne e ▸ hq)
    | ty T=>cases hb
  | ty T =>
    cases y with
    | ty U =>
      cases hw; cases hu; cases hb
      have:(Value.type T == Value.type U) = (T == U):=by
        by_cases e:T = U
        · subst e; rw [beq_self_eq_true,beq_self_eq_true]
        · rw [beq_false_of_ne e,beq_false_of_ne fun h=>e (Value.type.inj h)]
      exact both fun R q=>wpAny_isSame_plain rfl (this ▸ q)
    | _=>cases hb
theorem ocmp {op:CmpOp} (hA:AOk Z lvl A) (a:OAt Z cA noL μ h μ' st' s') (hw:VE μ' w x) (hu:VE μ' u y) (hv:cmpO op x y = some v) (g:OGot Z cA μ h st' v Q):wpAny (model Z.prog Z.w) A (compareOp op w u) Q E s':=by
  have rest:((flatV x).bind fun x=>(flatV y).bind fun y=>flatR (cmpD op x y)) = some v→wpAny (model Z.prog Z.w) A (compareOp op w u) Q E s':=fun hv =>
    flatK hv fun x' e1 _ hv=>flatK hv fun y' e2 _ hv=>flatRK hv fun d h3 f3 e=>by
    subst e1 e2 e
    obtain ⟨r1,ok1,_⟩:=Fl0.rd hw s'.heap
    obtain ⟨r2,ok2,_⟩:=Fl0.rd hu s'.heap
    exact sound_cmp (O:=[]) (es:=[]) hA a.i r1 r2 ok1 ok2 h3 (g.flat a f3)
  cases op with
  | Is=>exact mapK hv fun b hb e=>(oIs a.so hw hu hb).1 (g _ _ _ a (e ▸ ve_bool))
  | IsNot=>exact mapK hv fun b hb e=>(oIs a.so hw hu hb).2 (g _ _ _ a (e ▸ ve_bool))
  | _=>exact rest hv
theorem oidx (a:OAt Z cA noL μ h μ' st' s') (hw:VE μ' w x) (hu:VE μ' u y) (hv:idxO st' x y = some v) (g:OGot Z cA μ h st' v Q) :
    (∃ T id,s'.TypeIs w T ∧ typeLookup (.type T) "__getitem__" = pure (some (.builtin id))) ∧ wpAny (model Z.prog Z.w) A (getItem w u) Q E s':=oDatK hv fun y' ey hv=>by
  subst ey
  cases x with
  | d x =>
    exact dStrK hv fun sx ex hv=>flatRK hv fun d h3 f3 e=>by
      subst ex e
      obtain ⟨r1,ok1,_⟩:=Fl0.rd hw s'.heap
      obtain ⟨r2,ok2,_⟩:=Fl0.rd hu s'.heap
      exact ⟨getitem_of r1 rfl,sound_idx (O:=[]) (es:=[]) a.i r1 r2 ok1 h3 (g.flat a f3) nofun⟩
  | o k =>
    exact dIntK hv fun i ei hv1=>fLK hv1 fun xs hk hv2=>bndK hv2 fun j hp hv3=>by
      subst ei
      obtain ⟨b,items,n,sl,rfl,_,h2,h3,h4,h5⟩:=a.so.listAt hk hw
      refine ⟨⟨"list",_,⟨_,h2,rfl⟩,slot_list_getitem.lookup⟩,veI (m:=fun u=>wpAny _ A (getItem _ u) Q E s') hu fun t=>?_⟩
      obtain ⟨hj,h5,h6,h7⟩:=place_bounds hp
      obtain ⟨z,ev,hz⟩:=h3.get hv3
      have ev':items[j]? = some z:=Array.getElem?_toList ▸ ev
      have hq:Q z s':=g z s' μ' a hz
      have hl:s'.heap.IsList b items:=⟨_,h2,rfl,n,rfl⟩
      rcases h7 with ⟨h7,rfl⟩ | ⟨h7,h8,rfl⟩
      · exact wpAny_getItem_list hl h7 (by omega) ev' hq
      · exact wpAny_getItem_list_neg hl h7 (by omega) (by omega) (by rw [h4]; exact ev') hq
  | ty T=>cases hv
theorem OAt.turnL {b:Addr} {k:Nat} {R:Unit→Shared→Prop} {xs ys:List OV} {f:Array Value→Array Value} (a:OAt Z cA noL μ h μ' st' s') (hk:μ'[k]? = some b) (hx:st'[k]? = some (.list xs)) (hl:ys.length ≤ 1001)
    (hg:∀ {items:Array Value},VEs μ' items.toList xs→VEs μ' (f items).toList ys) (g:∀ s'',OAt Z cA noL μ h μ' (st'.set k (.list ys)) s''→R () s''):(∃ items n sl,s'.heap.get? b = some (listObj items n sl)) ∧ wpAny (model Z.prog Z.w) A (updateSeq b f) R E s':=by
  obtain ⟨items,n,sl,h2,h3,h4⟩:=a.so.of hx hk
  have sz:∀ {vs:Array Value} {xs:List OV},VEs μ' vs.toList xs→xs.length ≤ 1001→vs.size ≤ sizeLine:=fun h hl=>Array.length_toList.symm.trans h.length ▸ le_cline hl
  exact ⟨⟨items,n,sl,h2⟩,wpAny_updateSeq h2 rfl (hz:=sz h3 h4) (_hz':=Nat.le_succ_of_le (sz (hg h3) hl)) (g _ (a.turn hk (Heap.SameBut.update ..) ⟨f items,_,sl,Heap.get?_update_self (Obj.mapSeq f) h2 rfl,hg h3,hl⟩))⟩
theorem opush0 {b:Addr} {k:Nat} {R:Unit→Shared→Prop} (a:OAt Z cA noL μ h μ' st' s') (hp:pushO st' k v = some st'') (hk:μ'[k]? = some b) (hv:VE μ' u v) (g:∀ s'',OAt Z cA noL μ h μ' st'' s''→R () s'') :
    (∃ items n sl,s'.heap.get? b = some (listObj items n sl)) ∧ wpAny (model Z.prog Z.w) A (updateSeq b (·.push u)) R E s':=fLK hp fun xs hx hp=>ifP hp fun hlen e=>by
  cases e
  exact a.turnL hk hx (by rw [List.length_append]; exact Nat.succ_le_succ hlen) (fun h=>by rw [Array.toList_push]; exact h.append (.cons hv .nil)) g
theorem opush {b:Addr} {k:Nat} (a:OAt Z cA noL μ h μ' st' s') (hp:pushO st' k v = some st'') (hk:μ'[k]? = some b) (hv:VE μ' u v) (g:OGot Z cA μ h st'' (.d .none) Q) :
    (∃ items n sl,s'.heap.get? b = some (listObj items n sl)) ∧ wpAny (model Z.prog Z.w) A (updateSeq b (·.push u) >>= fun _=>ret .none) (fun fin s''=>∃ v,fin = PySem.Fin.done (.ret v) ∧ Q v s'') E s' :=
  let ⟨o,w⟩:=opush0 (R:=fun _ s''=>wpAny (model Z.prog Z.w) A (ret .none) (fun fin s''=>∃ v,fin = PySem.Fin.done (.ret v) ∧ Q v s'') E s'') a hp hk hv fun s'' a'=>wpAny_pure ⟨.none,rfl,g _ _ _ a' ve_none⟩; ⟨o,wpAny_bind w⟩
end
end Kt
end
section
open PySem PySem.W PyProof.Rows PySem.Calls Builtin Builtin.ObjectAttr
namespace Kt
section
variable {D:OD} {sc:Scope} {K:Frag} {fA:Nat→Option Addr} {A:Around} {env:Env} {ρ:LO} {μ μ':List Addr} {st st':St} {s s':Shared}
theorem Oc.go (C:Oc D sc A env ρ μ st s) (a:OAt D.Z D.cA noL μ s.heap μ' st' s'):Oc D sc A env ρ μ' st' s':=⟨C.ha,C.hs,C.he.step a.t,a.i,a.so⟩
theorem Oc.at (C:Oc D sc A env ρ μ st s):OAt D.Z D.cA noL μ s.heap μ st s:=.here C.hi C.so
theorem ost_of {e:Expr} {p:OE} (h:OSE D sc e p) (hw:∀ env,isTrue e env (eval e env) = (do let v ← eval e env; standAt e.pos; holding [v] (truthy v))):OSE D sc e p ∧ OST D sc e p :=
  ⟨h,fun {A env ρ μ st s t st' Q E} C hd hQ=>bnd2 hd fun v st₁ hx hd=>mapP hd fun hb e=>by
  subst e
  rw [hw]
  exact wpAny_bind (h C hx fun w s' μ' a hv=>wpAny_bind (wpAny_standAt (wpAny_holding (otruthy C.ha.handled a hv hb fun s'' a'=>hQ s'' μ' a'))))⟩
theorem ose_lit {d:PyData} {c:Const} {k:Nat} {pos:Pos} (h:litC d = some c):OSE D sc (.Constant c k pos) (.lit d):=fun {A env ρ μ st s v st' Q E} C hd g=>ifK hd fun hf e=>by
  cases e
  rw [arm_eval_Constant]
  cases d with
  | none=>cases h; exact wpAny_pure (g _ _ _ C.at ve_none)
  | bool a=>cases h; exact wpAny_pure (g _ _ _ C.at ve_bool)
  | int a=>cases h; exact wpAny_mkInt (g _ _ _ (C.at.tok _) ve_int)
  | str a=>exact ifK h fun h2 e=>by subst e; exact wpAny_mkText (g _ _ _ (C.at.tok _) (ve_str h2))
  | _=>cases h
theorem Oc.load (C:Oc D sc A env ρ μ st s) {x:Nat} {n:Str} {v:OV} {Q:Value→Shared→Prop} {E:Value→Shared→Prop} (hn:D.nm[x]? = some n) (hv:sc.names.lookup n = some .local)
    (hx:(ρ[x]?).join = some v) (hQ:∀ w,VE μ w v→Q w s):wpAny (model D.Z.prog D.Z.w) A (loadName env n) Q E s :=
  let ⟨_,hm,hmv⟩:=C.he.ns; let ⟨w,hw,hwv⟩:=hmv x v n hx hn; wpAny_loadName_local C.he.kind (C.hs.1 n hv) hm hw (hQ w hwv)
theorem ose_var {x:Nat} {n:Str} {pos:Pos} (hn:D.nm[x]? = some n) (hv:sc.names.lookup n = some .local) (hd:n ≠ ("__debug__" : Str)):OSE D sc (.Name n pos) (.var x):=fun {A env ρ μ st s v st' Q E} C he g=>mapK he fun v' hx e=>by
  cases e
  exact wpAny_Name (C.load hn hv hx fun w hw=>g _ _ _ C.at hw) (beq_eq_false_iff_ne.mpr hd)
theorem Oc.glob (C:Oc D sc A env ρ μ st s) {n:Str} {pos:Pos} {v:Value} {Q:Value→Shared→Prop} {E:Value→Shared→Prop} (hg:globOk sc n = true) (hv:D.Z.mg n = some v) (h:Q v s):wpAny (model D.Z.prog D.Z.w) A (eval (.Name n pos) env) Q E s :=
  Calls.Name_function_global C.he.kind (C.hs.2.2 n (globOkK hg).1) (Calls.loadGlobal_global (mg:=D.Z.mg) (C.he.glob ▸ C.hi.glob) hv h) (globOkK hg).2
theorem Oc.blt (C:Oc D sc A env ρ μ st s) (hB:OBiOk D.Z) {n:Str} {pos:Pos} {v:Value} {Q:Value→Shared→Prop} {E:Value→Shared→Prop} (hg:globOk sc n = true) (hv:(n,v) ∈ obiTab) (h:Q v s):wpAny (model D.Z.prog D.Z.w) A (eval (.Name n pos) env) Q E s :=
  Calls.Name_function_global C.he.kind (C.hs.2.2 n (globOkK hg).1) (Calls.loadGlobal_builtin (mg:=D.Z.mg) (mb:=D.Z.mb) (C.he.glob ▸ C.hi.glob) (hB n v hv).1 (C.he.blt ▸ C.hi.bltn) (hB n v hv).2 h) (globOkK hg).2
theorem ose_ty {T:String} {n:Str} {pos:Pos} (hB:OBiOk D.Z) (hg:globOk sc n = true) (hv:(n,.type T) ∈ obiTab):OSE D sc (.Name n pos) (.ty T):=fun {A env ρ μ st s v st' Q E} C he g=>by
  cases he
  exact C.blt hB hg hv (g _ _ _ C.at rfl)
theorem ose_attr {c:Nat} {C:Addr} {x:Expr} {a:Str} {pos:Pos} {p:OE} (hK:∀ h,D.Z.TabI h→K.In h) (hC:D.cA c = some C) (hok:getOk K C a = true) (hc:isCall0 x = false) (h:OSE D sc x p):OSE D sc (.Attribute x a pos) (.attr c p a):=fun {A env ρ μ st s v st' Q E} X he g =>
  bnd2 he fun o st₁ hx he=>bnd2 he fun k es hi he=>mapP he fun hl e=>by
  subst e
  rw [arm_eval_Attribute,attributeBase_of hc]
  exact wpAny_bind (h X hx fun w s₁ μ₁ a₁ hw=>wpAny_bind (wpAny_standAt (wpAny_bind (wpAny_holding (getO (hK _ a₁.i.tab) a₁.so hC hok hi hl hw fun u hu=>wpAny_bind (wpAny_letTemporaryGo (wpAny_pure (g _ _ _ (a₁.tok _) hu))))))))
theorem ose_nt {a:OE} {e:Expr} {pos:Pos} (h:OSE D sc e a):OSE D sc (.UnaryOp .Not e pos) (.nt a):=fun {A env ρ μ st s v st' Q E} C he g=>bnd2 he fun o st₁ hx he=>mapK he fun b hb e=>by
  cases e
  rw [arm_eval_UnaryOp]
  exact wpAny_bind (h C hx fun w s₁ μ₁ a₁ hw=>wpAny_bind (wpAny_standAt (wpAny_holding (wpAny_holding (wpAny_bind (otruthy C.ha.handled a₁ hw hb fun s₂ a₂=>wpAny_pure (g _ _ _ a₂ ve_bool)))))))
theorem ost_nt {a:OE} {e:Expr} {pos:Pos} (h:OST D sc e a):OST D sc (.UnaryOp .Not e pos) (.nt a):=fun {A env ρ μ st s t st' Q E} C he hQ=>bnd2 he fun o st₁ hx he=>bnd2 hx fun y st₂ hy hx=>mapK hx fun b hb e=>by
  cases e
  exact mapP he fun ht e=>by
    subst e
    cases ht
    exact wpAny_isTrue_Not (h (t:=b) C ((congrArg (Option.bind · _) hy).trans (congrArg (Option.map _) hb)) hQ)
theorem ose_bin {op:Operator} {a b:OE} {l r:Expr} {pos:Pos} (ha:OSE D sc l a) (hb:OSE D sc r b):OSE D sc (.BinOp l op r pos) (.bin op a b):=fun {A env ρ μ st s v st' Q E} C he g=>bnd2 he fun x st₁ hx he=>bnd2 he fun y st₂ hy he=>mapP he fun hv e=>by
  subst e
  exact wpAny_BinOp (ha C hx fun w s₁ μ₁ a₁ hw=>hb (C.go a₁) hy fun u s₂ μ₂ a₂ hu=>obin (a₁.trans a₂) (hw.pre a₂.t.pre) hu hv g)
theorem ovE_bool {q:Bool} {a b:OE} {v:OV} {G:Prop} (hd:ovE D.cl D.ex (.bool q a b) ρ st = some (v,st')) (k:∀ x st₁ t,ovE D.cl D.ex a ρ st = some (x,st₁)→truthO st₁ x = some t→(t = q ∧ ovE D.cl D.ex b ρ st₁ = some (v,st')) ∨ (t = (!q) ∧ x = v ∧ st₁ = st')→G):G :=
  bnd2 hd fun x st₁ hx hd=>bndK hd fun t ht hd=>k x st₁ t hx ht <| by
    by_cases h:(t == q) = true
    · rw [if_pos h] at hd; exact .inl ⟨eq_of_beq h,hd⟩
    · rw [if_neg h] at hd; cases hd; exact .inr ⟨by cases t <;> cases q <;> first | rfl | exact absurd rfl h,rfl,rfl⟩
theorem ose_bool {q:Bool} {a b:OE} {x:Expr} {rest:List Expr} {pos:Pos} (hr:∀ env,∃ y r,evalEach rest env = y :: r) (ha:OSE D sc x a)
    (hb:∀ {A:Around} {env:Env} {ρ:LO} {μ:List Addr} {st:St} {s:Shared} {v:OV} {st':St} {Q:Value→Shared→Prop} {E:Value→Shared→Prop},
      Oc D sc A env ρ μ st s→ovE D.cl D.ex b ρ st = some (v,st')→OGot D.Z D.cA μ s.heap st' v Q→wpAny (model D.Z.prog D.Z.w) A (boolOp pos (opOf q) (evalEach rest env)) Q E s) :
    OSE D sc (.BoolOp (opOf q) (x :: rest) pos) (.bool q a b):=fun {A env ρ μ st s v st' Q E} C hd g=>ovE_bool hd fun y st₁ t hx ht hc=>by
  rw [arm_eval_BoolOp,arm_evalEach_cons]
  have hb':=fun {μ₂ st₂ s₂} (a₂:OAt D.Z D.cA noL μ s.heap μ₂ st₂ s₂) h=>hb (Q:=Q) (E:=E) (C.go a₂) h (g.after a₂)
  obtain ⟨y',r',e⟩:=hr env
  rw [e] at hb' ⊢
  refine wpAny_bind (ha C hx fun w s₁ μ₁ a₁ hw=>wpAny_bind (wpAny_standAt (wpAny_bind (wpAny_holding (otruthy C.ha.handled a₁ hw ht fun s₂ a₂=>?_)))))
  rcases hc with ⟨rfl,hc⟩ | ⟨rfl,rfl,rfl⟩
  · have:=hb' a₂ hc
    cases t <;> exact this
  · have:Q w s₂:=g w s₂ μ₁ a₂ hw
    cases q <;> exact wpAny_pure this
theorem ost_bool {q:Bool} {a b:OE} {x:Expr} {rest:List Expr} {pos:Pos} (ha:OST D sc x a)
    (hb:∀ {A:Around} {env:Env} {ρ:LO} {μ:List Addr} {st:St} {s:Shared} {t:Bool} {st':St} {Q:Bool→Shared→Prop} {E:Value→Shared→Prop},
      Oc D sc A env ρ μ st s→ovT D.cl D.ex b ρ st = some (t,st')→(∀ s' μ',OAt D.Z D.cA noL μ s.heap μ' st' s'→Q t s')→wpAny (model D.Z.prog D.Z.w) A (allTrue (opOf q) rest env) Q E s) :
    OST D sc (.BoolOp (opOf q) (x :: rest) pos) (.bool q a b):=fun {A env ρ μ st s r st' Q E} C hd hQ=>bnd2 hd fun v st₂ hv hd=>mapP hd fun hr e=>by
  subst e
  refine ovE_bool hv fun y st₁ t hx ht hc=>?_
  rw [arm_isTrue_BoolOp,arm_allTrue_cons]
  refine wpAny_bind (ha (t:=t) C ((congrArg (Option.bind · _) hx).trans (congrArg (Option.map _) ht)) fun s₁ μ₁ a₁=>?_)
  rcases hc with ⟨rfl,hc⟩ | ⟨rfl,rfl,rfl⟩
  · have:=hb (E:=E) (C.go a₁) (t:=r) ((congrArg (Option.bind · _) hc).trans (congrArg (Option.map _) hr)) fun s₂ μ₂ a₂=>hQ s₂ μ₂ (a₁.trans a₂)
    cases t <;> exact this
  · cases ht.symm.trans hr
    have:=hQ s₁ μ₁ a₁
    cases q <;> exact wpAny_pure this
theorem ose_cmp {op:CmpOp} {a b:OE} {l r:Expr} {pos:Pos} (hm:behindInMarks op r = false) (ha:OSE D sc l a) (hb:OSE D sc r b):OSE D sc (.Compare l [op] [r] pos) (.cmp op a b):=fun {A env ρ μ st s v st' Q E} C he g=>bnd2 he fun x st₁ hx he=>bnd2 he fun y st₂ hy he=>mapP he fun hv e=>by
  subst e
  exact wpAny_Compare1 (ha C hx fun w s₁ μ₁ a₁ hw=>hb (C.go a₁) hy fun u s₂ μ₂ a₂ hu=>ocmp C.ha (a₁.trans a₂) (hw.pre a₂.t.pre) hu hv g) hm
theorem ost_cmp {op:CmpOp} {a b:OE} {l r:Expr} {pos:Pos} (hm:behindInMarks op r = false) (ha:OSE D sc l a) (hb:OSE D sc r b):OST D sc (.Compare l [op] [r] pos) (.cmp op a b):=fun {A env ρ μ st s t st' Q E} C he hQ=>bnd2 he fun v st₃ hv he=>mapP he fun ht e=>by
  subst e
  exact bnd2 hv fun x st₁ hx hv1=>bnd2 hv1 fun y st₂ hy hv2=>mapP hv2 fun hv3 e=>by
    subst e
    exact wpAny_isTrue_Compare1 (ha C hx fun w s₁ μ₁ a₁ hw=>hb (C.go a₁) hy fun u s₂ μ₂ a₂ hu=>ocmp C.ha (a₁.trans a₂) (hw.pre a₂.t.pre) hu hv3 fun z s₃ μ₃ a₃ hz=>otruthy C.ha.handled a₃ hz ht fun s₄ a₄=>hQ s₄ μ₃ a₄) hm
theorem oses_nil:OSEs D sc [] .nil:=fun {A env ρ μ st s ds st' R E pos} C hd hR=>by
  cases hd
  exact Calls.spliced_nil (hR [] s μ C.at .nil)
theorem oses_cons {e:Expr} {es:List Expr} {p:OE} {ps:OEs} (hstar:isStarred e = false) (h1:OSE D sc e p) (h2:OSEs D sc es ps):OSEs D sc (e :: es) (.cons p ps):=fun {A env ρ μ st s ds st' R E pos} C hd hR=>bnd2 hd fun x st₁ hx hd=>mapK hd fun q hr e=>by
  cases e
  rw [not_starred hstar]
  exact Calls.spliced_cons (h1 C hx fun w s₁ μ₁ a₁ hw=>h2 (C.go a₁) hr fun vs s₂ μ₂ a₂ hvs=>hR (w :: vs) s₂ μ₂ (a₁.trans a₂) (.cons (hw.pre a₂.t.pre) hvs))
theorem AOk.in1 {Z:Zone} {l:Nat} {A:Around} (h:AOk Z (8 * l + 7) A):AOk Z (8 * l) A.in1:=⟨h.handled,by have:=h.depth; show A.depth + _ + _ < _; omega,by have:=h.units; show A.units + 1 + _ + _ < _; omega,h.frames⟩
theorem noStars_plain:∀ {es:List Expr},(es.all fun e=>!isStarred e) = true→PlainArgs es
  | [],_=>plainArgs_nil
  | _ :: _,h=>plainArgs_cons (notT (andT h).1) (noStars_plain (andT h).2)
theorem oevalArgs {f:Value} {es:List Expr} {ps:OEs} {pos:Pos} {ds:List OV} {R:Args→Shared→Prop} {E:Value→Shared→Prop} (hpl:PlainArgs es) (h:OSEs D sc es ps) (C:Oc D sc A env ρ μ st s) (hd:ovEs D.cl D.ex ps ρ st = some (ds,st'))
    (hR:∀ vs s' μ',OAt D.Z D.cA noL μ s.heap μ' st' s'→VEs μ' vs ds→R ⟨vs,[]⟩ s'):wpAny (model D.Z.prog D.Z.w) A (evalArgs f true (backTo pos (starEach es env)) []) R E s:=by
  have:=h (R:=fun vs s'=>R ⟨vs,[]⟩ s') (E:=E) (pos:=pos) C hd hR
  cases es with
  | nil =>
    unfold evalArgs
    show wpAny _ A (spliced [] >>= _) R E s
    refine wpAny_bind (wpAny_mono this (fun vs s' h'=>wpAny_bind (wpAny_pure (wpAny_holding ?_))) fun _ _ e=>e)
    exact wpAny_bind (wpAny_pure (wpAny_bind (wpAny_pure (wpAny_pure h'))))
  | cons e es=>exact evalArgs_of (hpl.2.1 nofun env pos) this
theorem ose_call {f:Nat} {a:Addr} {n:Str} {p pos:Pos} {es:List Expr} {ps:OEs} (hkw:kwO f = []) (hK:∀ h,D.Z.TabI h→K.In h) (hC:OCallOk D.Z D.cA D.cl D.lvl fA) (hf:fA f = some a) (hg:globOk sc n = true) (hv:D.Z.mg n = some (.ref a)) (hk:keepIn K (.ref a) = true)
    (hpl:PlainArgs es) (h:OSEs D sc es ps):OSE D sc (.Call (.Name n p) es [] pos) (.call f ps):=fun {A env ρ μ st s v st' Q E} C he g=>bnd2 he fun ds st₁ hx hd=>by
  rw [eval_Call_Name]
  exact wpAny_bind (C.glob hg hv (callWith_of (P:=K.In) (by rw [hpl.1]; rfl) (keeps_K hk) (oevalArgs hpl h C hx fun vs s₁ μ₁ a₁ hvs=>⟨hK _ a₁.i.tab,wpAny_call (argsO_nil hkw ▸ hC hf hd (C.ha.mono (Nat.le_add_right _ _)) a₁.i (C.he.step a₁.t).size a₁.so hvs (g.after a₁))⟩)))
theorem ose_mcall {c f:Nat} {C a:Addr} {o:Expr} {m:Str} {apos pos:Pos} {es:List Expr} {p:OE} {ps:OEs} (hkw:kwO f = []) (hK:∀ h,D.Z.TabI h→K.In h) (hC:OCallOk D.Z D.cA D.cl D.lvl fA) (hcA:D.cA c = some C) (hf:fA f = some a) (hok:methOk K C m a = true) (hc0:isCall0 o = false) (hline:(apos.endLine == pos.line) = true)
    (hlen:es.length ≤ 5) (hpl:PlainArgs es) (ho:OSE D sc o p) (h:OSEs D sc es ps):OSE D sc (.Call (.Attribute o m apos) es [] pos) (.mcall c p m f ps):=fun {A env ρ μ st s v st' Q E} X he g =>
  bnd2 he fun x st₁ hx he=>bnd2 he fun k ats hi he=>ifP he fun hno he=>bnd2 he fun ds st₂ hy hd=>by
  rw [arm_eval_Call,attributeBase_of hc0]
  have hpos:methodCallPos true o env apos pos = pure pos:=by unfold methodCallPos; rw [hline]; rfl
  have hk:keepIn K (.ref a) = true:=(andT (andT (andT (andT hok).2).2).2).2
  refine wpAny_bind (ho X hx fun w s₁ μ₁ a₁ hw=>wpAny_bind (wpAny_standAt ?_))
  unfold methodCall
  rw [few_ok hpl hlen]
  refine wpAny_bind (wpAny_holding (methG (hK _ a₁.i.tab) a₁.so hcA hok hi (Option.isNone_iff_eq_none.mp hno) hw (wpAny_bind (wpAny_of_eq hpos (callWith_of (P:=K.In) (by rw [hpl.1]; rfl) (keeps_K hk) (oevalArgs hpl h (X.go a₁) hy fun vs s₂ μ₂ a₂ hvs=>?_))))))
  have a₁₂:=a₁.trans a₂
  exact ⟨hK _ a₂.i.tab,wpAny_call (argsO_nil hkw ▸ hC (args:=x :: ds) (vs:=w :: vs) hf hd (X.ha.mono (Nat.le_add_right _ _)) a₂.i (X.he.step a₁₂.t).size a₂.so (.cons (hw.pre a₂.t.pre) hvs) (g.after a₁₂))⟩
theorem ose_prop {c f:Nat} {C a:Addr} {x:Expr} {nmA:Str} {pos:Pos} {p:OE} (hkw:kwO f = []) (hK:∀ h,D.Z.TabI h→K.In h) (hC:OCallOk D.Z D.cA D.cl D.lvl fA) (hcA:D.cA c = some C) (hf:fA f = some a) (hok:propOk K C nmA a = true) (hc:isCall0 x = false) (h:OSE D sc x p) :
    OSE D sc (.Attribute x nmA pos) (.prop c p nmA f):=fun {A env ρ μ st s v st' Q E} X he g=>bnd2 he fun o st₁ hx he=>bnd2 he fun k es hi he=>ifP he fun _ hd=>by
  rw [arm_eval_Attribute,attributeBase_of hc]
  refine wpAny_bind (h X hx fun w s₁ μ₁ a₁ hw=>wpAny_bind (wpAny_standAt (wpAny_bind (wpAny_holding (propG (hK _ a₁.i.tab) a₁.so hcA hok hi hw ?_)))))
  refine argsO_nil hkw ▸ hC (args:=[o]) (s:={ s₁ with toks:=s₁.toks + 1 }) (vs:=[w]) hf hd X.ha.in1 (a₁.i.tok _) (X.he.step a₁.t).size a₁.so (.cons hw .nil) fun u s₂ μ₂ a₂ hu=>⟨u,rfl,?_⟩
  rw [handedOut_of (handed_ve hu)]
  exact wpAny_pure (wpAny_bind (wpAny_letTemporaryGo (wpAny_pure (g u s₂ μ₂ ((a₁.tok _).trans a₂) hu))))
theorem ose_bltn {n:Str} {f:Value} {p pos:Pos} {es:List Expr} {ps:OEs} {ds:List OV} {Q:Value→Shared→Prop} {E:Value→Shared→Prop} (hB:OBiOk D.Z) (hg:globOk sc n = true) (hv:(n,f) ∈ obiTab) (hnr:∀ a,f ≠ .ref a)
    (hpl:PlainArgs es) (h:OSEs D sc es ps) (C:Oc D sc A env ρ μ st s) (hd:ovEs D.cl D.ex ps ρ st = some (ds,st'))
    (hR:∀ vs s' μ',OAt D.Z D.cA noL μ s.heap μ' st' s'→VEs μ' vs ds→wpAny (model D.Z.prog D.Z.w) A (call f vs) Q E s') :
    wpAny (model D.Z.prog D.Z.w) A (eval (.Call (.Name n p) es [] pos) env) Q E s:=by
  rw [eval_Call_Name]
  exact wpAny_bind (C.blt hB hg hv (callWith_nonref hnr (hpl.1 env pos) (oevalArgs hpl h C hd hR)))
theorem oes1 {p:OE} {x:OV} (h:ovE D.cl D.ex p ρ st = some (x,st')):ovEs D.cl D.ex (.cons p .nil) ρ st = some ([x],st'):=congrArg (Option.bind · _) h
theorem oes2 {p q:OE} {x y:OV} {st₁:St} (h:ovE D.cl D.ex p ρ st = some (x,st₁)) (h':ovE D.cl D.ex q ρ st₁ = some (y,st')):ovEs D.cl D.ex (.cons p (.cons q .nil)) ρ st = some ([x,y],st'):=(congrArg (Option.bind · _) h).trans (congrArg (Option.map _) (oes1 h'))
theorem ose_len {e:Expr} {p:OE} {q pos:Pos} (hB:OBiOk D.Z) (hg:globOk sc "len" = true) (hst:isStarred e = false) (h:OSE D sc e p):OSE D sc (.Call (.Name "len" q) [e] [] pos) (.len p):=fun {A env ρ μ st s v st' Q E} C he g=>bnd2 he fun x st₁ hx he=>mapP he fun hl e=>by
  subst e
  refine ose_bltn (f:=.builtin "len") hB hg (by decide) nofun (plain_one hst) (oses_cons hst h oses_nil) C (oes1 hx) fun vs s₁ μ₁ a₁ hvs=>ves1 (m:=fun vs=>wpAny _ A (call (.builtin "len") vs) Q E s₁) hvs fun w hw=>?_
  cases x with
  | d x =>
    exact dStrK hl fun y e hl=>by
      cases e; cases hl
      exact veS (m:=fun w=>wpAny _ A (call (.builtin "len") [w]) Q E s₁) hw fun t hok=>P.len_str (by have:=(okS hok).2; have:sizeLine = 2 ^ 24:=rfl; omega) (g _ _ _ (a₁.tok _) ve_int)
  | o k =>
    exact fLK hl fun xs hk e=>by
      cases e
      obtain ⟨b,items,n,sl,rfl,_,h2,_,h4,h5⟩:=a₁.so.listAt hk hw
      exact Calls.call_len_list ⟨_,h2,rfl,n,rfl⟩ (by omega) (h4 ▸ g _ _ _ (a₁.tok _) ve_int)
  | ty T=>cases hl
theorem ose_typ {e:Expr} {p:OE} {q pos:Pos} (hB:OBiOk D.Z) (hg:globOk sc "type" = true) (hst:isStarred e = false) (h:OSE D sc e p):OSE D sc (.Call (.Name "type" q) [e] [] pos) (.typ p):=fun {A env ρ μ st s v st' Q E} C he g=>bnd2 he fun x st₁ hx he=>mapP he fun hl e=>by
  subst e
  exact ose_bltn (f:=.type "type") hB hg (by decide) nofun (plain_one hst) (oses_cons hst h oses_nil) C (oes1 hx) fun vs s₁ μ₁ a₁ hvs=>ves1 (m:=fun vs=>wpAny _ A (call (.type "type") vs) Q E s₁) hvs fun w hw=>oDatK hl fun y e hl=>by
    subst e
    cases y with
    | int i=>cases hl; exact veI (m:=fun w=>wpAny _ A (call (.type "type") [w]) Q E s₁) hw fun t=>call_type_of (typeIs_int _ _ _) (by decide) (g _ _ _ a₁ rfl)
    | str i=>cases hl; exact veS (m:=fun w=>wpAny _ A (call (.type "type") [w]) Q E s₁) hw fun t _=>call_type_of (typeIs_str _ _ _) (by decide) (g _ _ _ a₁ rfl)
    | _=>cases hl
theorem ose_intc {e:Expr} {p:OE} {q pos:Pos} (hB:OBiOk D.Z) (hg:globOk sc "int" = true) (hst:isStarred e = false) (h:OSE D sc e p):OSE D sc (.Call (.Name "int" q) [e] [] pos) (.intc p):=fun {A env ρ μ st s v st' Q E} C he g=>bnd2 he fun x st₁ hx he=>oDatK he fun y e he=>dIntK he fun i e' he=>by
  have e:x = .d y:=e
  subst e e'
  cases he
  exact ose_bltn (f:=.type "int") hB hg (by decide) nofun (plain_one hst) (oses_cons hst h oses_nil) C (oes1 hx) fun vs s₁ μ₁ a₁ hvs=>ves1 (m:=fun vs=>wpAny _ A (call (.type "int") vs) Q E s₁) hvs fun w hw =>
    veI (m:=fun w=>wpAny _ A (call (.type "int") [w]) Q E s₁) hw fun t=>call_int_int (g _ _ _ a₁ ve_int)
theorem ose_isStr {e:Expr} {p:OE} {q q' pos:Pos} (hB:OBiOk D.Z) (hg:globOk sc "isinstance" = true) (hg':globOk sc "str" = true) (hst:isStarred e = false) (h:OSE D sc e p) :
    OSE D sc (.Call (.Name "isinstance" q) [e,.Name "str" q'] [] pos) (.isStr p):=fun {A env ρ μ st s v st' Q E} C he g=>bnd2 he fun x st₁ hx he=>mapK he fun y hy e=>by
  cases strV_some hy
  cases e
  exact ose_bltn (f:=.builtin "isinstance") (ps:=.cons p (.cons (.ty "str") .nil)) hB hg (by decide) nofun (plain_two hst rfl) (oses_cons hst h (oses_cons rfl (ose_ty hB hg' (by decide)) oses_nil)) C (oes2 hx rfl) fun vs s₁ μ₁ a₁ hvs =>
    ves2 (m:=fun vs=>wpAny _ A (call (.builtin "isinstance") vs) Q E s₁) hvs fun w u hw hu=>veS (m:=fun w=>wpAny _ A (call (.builtin "isinstance") [w,u]) Q E s₁) hw fun t _=>by
      cases hu
      exact call_isinstance_yes (typeIs_str _ _ _) F.isi_meta_str (by rw [isSubtype_type]; kernel_rfl) (g _ _ _ a₁ ve_bool)
theorem ose_idx {a i:OE} {v sl:Expr} {pos:Pos} (hns:isSlice sl = false) (ha:OSE D sc v a) (hi:OSE D sc sl i):OSE D sc (.Subscript v sl pos) (.idx a i):=fun {A env ρ μ st s r st' Q E} C he g=>bnd2 he fun x st₁ hx he=>bnd2 he fun y st₂ hy he=>mapP he fun hv e=>by
  subst e
  refine Subscript_ (ha C hx fun w s₁ μ₁ a₁ hw=>hi (C.go a₁) hy fun u s₂ μ₂ a₂ hu=>?_)
  obtain ⟨⟨T,id,hT,hl⟩,hq⟩:=oidx (A:=A) (E:=E) (a₁.trans a₂) (hw.pre a₂.t.pre) hu hv g
  refine tail_any (ops:=[w,u]) hT hl hq ?_
  cases sl with
  | Slice=>cases hns
  | _=>rfl
theorem oso_no:OSO D sc none .no:=fun {A env ρ μ st s d st' Q E} C hd hQ=>by
  cases hd
  exact wpAny_pure (hQ none rfl s μ C.at)
theorem oso_yes {e:Expr} {p:OE} (h:OSE D sc e p):OSO D sc (some e) (.yes p):=fun {A env ρ μ st s d st' Q E} C hd hQ=>bnd2 hd fun x st₁ hx hd=>mapK hd fun i hi e=>by
  cases e
  rw [evalPart_some]
  exact h C hx fun w s' μ' a hw=>oDatK hi fun y e hi'=>veI (μ:=μ') (x:=i) (m:=fun w=>Q w s') (by cases partD_int hi'; cases (show x = OV.d _ from e); exact hw) fun t=>hQ (some (i,t)) rfl s' μ' a
theorem ose_slc {a:OE} {lo hi:OO} {v:Expr} {l u:Option Expr} {p pos:Pos} (ha:OSE D sc v a) (hl:OSO D sc l lo) (hu:OSO D sc u hi):OSE D sc (.Subscript v (.Slice l u none p) pos) (.slc a lo hi):=fun {A env ρ μ st s r st' Q E} C he g =>
  bnd2 he fun x st₁ hx he=>bnd2 he fun y st₂ hy he=>bnd2 he fun z st₃ hz he=>mapP he fun hv e=>strVK hv fun sx ex hv=>flatRK hv fun d h3 f3 ed=>by
  cases ex
  subst e ed
  refine Subscript_ (ha C hx fun w s₁ μ₁ a₁ hw=>wpAny_Slice (hl (C.go a₁) hy fun q1 e1 s₂ μ₂ a₂=>hu ((C.go a₁).go a₂) hz fun q2 e2 s₃ μ₃ a₃=>wpAny_pure ?_))
  have a₄:=((a₁.trans a₂).trans a₃).kp (a₃.i.push { cls:=.type "slice",data:=.fields #[partValue q1,partValue q2,.none] } s₃.toks) (Kp.push _ _ _)
  obtain ⟨r1,ok1,_⟩:=Fl0.rd (show Fl0 w (.str sx) from hw) (s₃.heap.push { cls:=.type "slice",data:=.fields #[partValue q1,partValue q2,.none] })
  obtain ⟨T,id,hT,hl⟩:=getitem_of (s:={ s₃ with heap:=s₃.heap.push { cls:=.type "slice",data:=.fields #[partValue q1,partValue q2,.none] } }) r1 rfl
  exact tail_any (ops:=[.ref s₃.heap.objs.size,w]) hT hl (sound_slc (O:=[]) (es:=[]) (lo:=q1) (hi:=q2) a₄.i r1 ok1 ⟨_,Heap.get?_push_size _ rfl,rfl,rfl⟩ (by rw [e1,e2]; exact h3) (g.flat a₄ f3) nofun nofun) rfl
theorem ometh {id:String} {name:Str} {x:Expr} {args:List Expr} {apos pos:Pos} {p:OE} {ps:OEs} (slot:Slot "str" name id) (hty:typeOf (.builtin id) = pure (.type "method_descriptor")) (hc:isCall0 x = false) (hline:(apos.endLine == pos.line) = true) (hlen:args.length ≤ 5) (hpl:PlainArgs args)
    (ho:OSE D sc x p) (h:OSEs D sc args ps) {st₁ st₂:St} {a:Str} {ds:List OV} {Q:Value→Shared→Prop} {E:Value→Shared→Prop} (C:Oc D sc A env ρ μ st s) (hx:ovE D.cl D.ex p ρ st = some (.d (.str a),st₁)) (hy:ovEs D.cl D.ex ps ρ st₁ = some (ds,st₂))
    (hR:∀ t vs s' μ',okD (.str a) = true→OAt D.Z D.cA noL μ s.heap μ' st₂ s'→VEs μ' vs ds→wpAny (model D.Z.prog D.Z.w) A (call (.builtin id) (.str a t :: vs)) Q E s') :
    wpAny (model D.Z.prog D.Z.w) A (eval (.Call (.Attribute x name apos) args [] pos) env) Q E s :=
  wpAny_Call_method_lateS (attributeBase_of hc _ _ _) (few_ok hpl hlen) hline (ho C hx fun w s₁ μ₁ a₁ hw=>veS (m:=fun w=>MethodOnS D.Z.prog D.Z.w A E name w pos (backTo pos (starEach args env)) Q s₁) hw fun t hok =>
    ⟨"str",id,F.plainAttrs_str,slot,hty,typeIs_str _ _ _,nofun,callWith_nonref nofun (hpl.1 env pos) (oevalArgs hpl h (C.go a₁) hy fun vs s₂ μ₂ a₂ hvs=>hR t vs s₂ μ₂ hok (a₁.trans a₂) hvs)⟩)
theorem ose_repl {x e1 e2:Expr} {apos pos:Pos} {p a b:OE} (hc:isCall0 x = false) (hline:(apos.endLine == pos.line) = true) (h1:isStarred e1 = false) (h2:isStarred e2 = false) (ho:OSE D sc x p) (ha:OSE D sc e1 a) (hb:OSE D sc e2 b) :
    OSE D sc (.Call (.Attribute x "replace" apos) [e1,e2] [] pos) (.repl p a b):=fun {A env ρ μ st s r st' Q E} C he g =>
  bnd2 he fun x' st₁ hx he=>bnd2 he fun y st₂ hy he=>bnd2 he fun z st₃ hz he=>mapP he fun hv e=>strVK hv fun sx ex hv=>strVK hv fun sy ey hv=>strVK hv fun sz ez hv=>ifK hv fun hocc er=>by
  cases ex; cases ey; cases ez
  subst e er
  refine ometh (ps:=.cons a (.cons b .nil)) F.slot_str_replace F.type_str_replace hc hline (Nat.le_of_ble_eq_true rfl) (plain_two h1 h2) ho (oses_cons h1 ha (oses_cons h2 hb oses_nil)) C hx (oes2 hy hz) fun t vs s' μ' hok a' hvs =>
    ves2 (m:=fun vs=>wpAny _ A (call (.builtin "str.replace") (.str sx t :: vs)) Q E s') hvs fun w u hw hu=>veS (m:=fun w=>wpAny _ A (call (.builtin "str.replace") [.str sx t,w,u]) Q E s') hw fun tw _=>veS (m:=fun u=>wpAny _ A (call (.builtin "str.replace") [.str sx t,_,u]) Q E s') hu fun tu _=>?_
  refine call_gives F.slot_str_replace (typeIs_str _ _ _) F.entry_str_replace (F.args_str_replace_3 _ _ _) (gives_str_replace sx sy sz t tw tu fun h=>by rw [hocc] at h; cases h) ?_
  rw [hocc,Bool.true_or,if_pos rfl]
  exact g _ _ _ a' (ve_str hok)
theorem strsV_ves {vs:List Value} {xs:List OV} (h:VEs μ vs xs):∀ {l:List Str},strsV xs = some l→∃ ps:List (Str × Tok),vs = strValues ps ∧ ps.map (·.1) = l ∧ ∀ x ∈ l,okD (.str x) = true:=by
  induction h with
  | nil=>exact fun h=>by cases h; exact ⟨[],rfl,rfl,nofun⟩
  | cons h _ ih =>
    exact fun hl=>strVK hl fun s e hl=>mapK hl fun r hr e'=>by
      subst e e'
      obtain ⟨ps,e1,e2,hall⟩:=ih hr
      subst e1
      exact veS (m:=fun v=>∃ ps:List (Str × Tok),v :: _ = strValues ps ∧ ps.map (·.1) = s :: r ∧ ∀ x ∈ s :: r,okD (.str x) = true) h fun t hok=>⟨(s,t) :: ps,rfl,congrArg (s :: ·) e2,fun y hy=>(List.mem_cons.mp hy).elim (fun e=>e ▸ hok) (hall y)⟩
theorem ose_joinL {x e1:Expr} {apos pos:Pos} {p a:OE} (hc:isCall0 x = false) (hline:(apos.endLine == pos.line) = true) (h1:isStarred e1 = false) (ho:OSE D sc x p) (ha:OSE D sc e1 a) :
    OSE D sc (.Call (.Attribute x "join" apos) [e1] [] pos) (.joinL p a):=fun {A env ρ μ st s r st' Q E} C he g =>
  bnd2 he fun x' st₁ hx he=>bnd2 he fun y st₂ hy he=>mapP he fun hv e=>strVK hv fun sep ex hv=>bnd2 hv fun k xs hl hv=>bndK hv fun ss hss hv=>ifP hv fun hfold er=>oNumK hl fun k' ey hl=>fLK hl fun xs' hk hl=>by
  cases ex; cases er; cases hl
  subst e ey
  refine ometh (ps:=.cons a .nil) F.slot_str_join F.type_str_join hc hline (Nat.le_of_ble_eq_true rfl) (plain_one h1) ho (oses_cons h1 ha oses_nil) C hx (oes1 hy) fun t vs s' μ' hok a' hvs =>
    ves1 (m:=fun vs=>wpAny _ A (call (.builtin "str.join") (.str sep t :: vs)) Q E s') hvs fun w hw=>?_
  obtain ⟨b,items,n,sl,rfl,_,g2,g3,_⟩:=a'.so.listAt hk hw
  obtain ⟨ps,e1,e2,hall⟩:=strsV_ves g3 hss
  have e1':items = (strValues ps).toArray:=by rw [← e1]
  rw [e1'] at g2
  have hjo:JoinOk sep ss = true:=by
    unfold JoinOk Builtin.Str.tooLong
    rw [← Array.foldl_toList,Bool.not_eq_true',decide_eq_false_iff_not]
    exact Nat.not_lt.mpr (Nat.le_trans hfold (by decide))
  have hlen:(Txt.join sep ss).length ≤ sizeLine:=joinFit_length (notT hjo)
  refine SC.join ⟨_,g2,rfl,n,rfl⟩ e2 hjo fun t'' tk=>?_
  rw [show Txt.join sep ss = Str.join sep ss from StrLaws.glued_eq_join sep ss] at hlen ⊢
  exact g _ _ _ (a'.tok _) (ve_str (okS' (strOk_join (okS hok).1 ss fun x hx=>(okS (hall x hx)).1) hlen))
theorem Oc.more (C:Oc D sc A env ρ μ st s) {μ₁:List Addr} {st₁:St} {s₁:Shared} (a:OAt D.Z D.cA noL μ s.heap μ₁ st₁ s₁) {o:Obj} {f:FO} {tk:Nat} {v:OV→Prop} (hf:FOk D.cA (μ₁ ++ [s₁.heap.objs.size]) (s₁.heap.push o) st₁.length s₁.heap.objs.size f) :
    OAt D.Z D.cA noL μ s.heap (μ₁ ++ [s₁.heap.objs.size]) (st₁ ++ [f]) { s₁ with heap:=s₁.heap.push o,toks:=tk } ∧ VE (μ₁ ++ [s₁.heap.objs.size]) (.ref s₁.heap.objs.size) (.o st₁.length) :=
  ⟨a.more (get?_ge (Nat.le_refl _)) (C.he.step a.t).size (a.i.frLt (Nat.le_refl _)) id (fun _ _ e=>Heap.get?_push_of_some _ e) hf,_,by rw [← a.so.len]; exact List.getElem?_concat_length,rfl⟩
theorem ose_nil {pos:Pos}:OSE D sc (.List [] pos) .nil:=fun {A env ρ μ st s r st' Q E} C he g=>by
  cases he
  rw [arm_eval_List]
  refine wpAny_bind (wpAny_standAt (wpAny_bind (Calls.spliced_nil (wpAny_newList ?_ (Nat.le_of_ble_eq_true rfl)))))
  have m:=C.more C.at (tk:=s.toks) (v:=fun _=>True) (f:=.list []) (o:={ cls:=.type "list",data:=.seq (([]:List Value).toArray) }) ⟨#[],_,_,Heap.get?_push_size _ rfl,.nil,Nat.zero_le _⟩
  exact g _ _ _ m.1 m.2
theorem ose_appL {x e1:Expr} {apos pos:Pos} {p a:OE} (hc:isCall0 x = false) (hline:(apos.endLine == pos.line) = true) (h1:isStarred e1 = false) (ho:OSE D sc x p) (ha:OSE D sc e1 a) :
    OSE D sc (.Call (.Attribute x "append" apos) [e1] [] pos) (.appL p a):=fun {A env ρ μ st s r st' Q E} C he g =>
  bnd2 he fun x' st₁ hx he=>bnd2 he fun k xs hl he=>bnd2 he fun y st₂ hy he=>mapK he fun st₃ hp e=>oNumK hl fun k' ex hl=>fLK hl fun xs' hk hl=>by
  cases hl; cases e
  subst ex
  refine wpAny_Call_method_lateS (attributeBase_of hc _ _ _) (few_ok (plain_one h1) (Nat.le_of_ble_eq_true rfl)) hline (ho C hx fun w s₁ μ₁ a₁ hw=>?_)
  obtain ⟨b,items,n,sl,rfl,hb,g2,_⟩:=a₁.so.listAt hk hw
  refine ⟨"list", "list.append",F.plainAttrs_list,slot_list_append,type_list_append,⟨_,g2,rfl⟩,fun a e=>by cases e; exact ⟨_,g2,rfl⟩,?_⟩
  refine callWith_nonref nofun ((plain_one h1).1 env pos) (oevalArgs (plain_one h1) (oses_cons h1 ha oses_nil) (C.go a₁) (oes1 hy) fun vs s₂ μ₂ a₂ hvs=>ves1 (m:=fun vs=>wpAny _ A (call (.builtin "list.append") (.ref b :: vs)) Q E s₂) hvs fun u hu=>?_)
  obtain ⟨⟨_,_,_,o2⟩,body⟩:=opush (A:=A.in1) (E:=E) (a₁.trans a₂) hp (pre_get a₂.t.pre hb) hu g
  exact wpAny_call_entry slot_list_append ⟨_,o2,rfl⟩ entry_list_append body (args_list_append _ _)
theorem ose_neg {i:Int} {k:Nat} {p1 pos:Pos}:OSE D sc (.UnaryOp .USub (.Constant (.int i) k p1) pos) (.neg i):=fun {A env ρ μ st s r st' Q E} C he g=>by
  cases he
  rw [arm_eval_UnaryOp]
  refine wpAny_bind ?_
  rw [arm_eval_Constant]
  exact wpAny_mkInt (wpAny_bind (wpAny_standAt (wpAny_holding (P.neg_int (g _ _ _ (C.at.tok _) ve_int)))))
end
end Kt
end
section
open PySem PySem.W PyProof.Rows PySem.Calls Builtin Builtin.ObjectAttr
namespace Kt
section
variable {D:OD} {sc:Scope} {K:Frag} {fA:Nat→Option Addr} {A:Around} {env:Env} {ρ:LO} {μ μ':List Addr} {st st':St} {s s':Shared}
noncomputable def strConsts:List Str→List Expr→Bool
  | [],es=>es.isEmpty
  | x :: xs,es=>onC es fun e r=>onConstant e fun c _ _=>c == .str x && (okD (.str x) && strConsts xs r)
theorem strConsts_spliced {pos:Pos} {E:Value→Shared→Prop}:∀ {xs:List Str} {es:List Expr} {s:Shared} {R:List Value→Shared→Prop},strConsts xs es = true →
    (∀ vs tk,(∀ h,ReadsAll h vs (xs.map .str) [])→R vs { s with toks:=tk })→wpAny (model D.Z.prog D.Z.w) A (spliced (backTo pos (starEach es env))) R E s
  | [],es,s,R,hc,h=>nilK (m:=fun es=>wpAny _ A (spliced (backTo pos (starEach es env))) R E s) hc (Calls.spliced_nil (h [] s.toks fun _=>.nil))
  | x :: xs,es,s,R,hc,h=>by
    apply onCK hc; intro e r hc
    apply onConstantK hc; intro c k p hc
    refine andK hc fun z hc=>?_; apply beqK z
    refine Calls.spliced_cons ?_
    rw [arm_eval_Constant]
    exact wpAny_mkText (strConsts_spliced (s:={ s with toks:=s.toks + 1 }) (andT hc).2 fun vs tk r=>h (_ :: vs) tk fun g=>ReadsAll.cons (as:=[]) (bs:=[]) (.str x _) (r g))
theorem strs_any (x:Str):∀ l:List Str,(l.map PyData.str).any (fun y=>PyData.eqv y (.str x)) = l.any fun y=>y == x
  | []=>rfl
  | a :: l=>congrArg ((a == x) || ·) (strs_any x l)
theorem strConsts_ok:∀ {l:List Str} {es:List Expr},strConsts l es = true→okDs (l.map .str) = true
  | [],_,_=>rfl
  | x :: xs,es,hc=>onCK (m:=fun _=>okDs ((x :: xs).map .str) = true) hc fun e r hc=>onConstantK (m:=fun _=>okDs ((x :: xs).map .str) = true) hc fun c k p hc=>by
    show (okD (.str x) && okDs (xs.map .str)) = true
    rw [(andT (andT hc).2).1,strConsts_ok (andT (andT hc).2).2]; rfl
theorem oin_tuple {w:Value} {x:Str} {l:List Str} {es:List Expr} {k:Nat} {pos:Pos} {Q:Value→Shared→Prop} {E:Value→Shared→Prop} (C:Oc D sc A env ρ μ st s) (hw:VE μ w (.d (.str x)))
    (hc:strConsts l es = true) (hl:l.length ≤ 50) (g:OGot D.Z D.cA μ s.heap st (.d (.bool (l.any fun y=>y == x))) Q):wpAny (model D.Z.prog D.Z.w) A (eval (.Tuple es k pos) env) (fun u s'=>wpAny (model D.Z.prog D.Z.w) A (compareOp .In w u) Q E s') E s:=by
  rw [arm_eval_Tuple]
  refine wpAny_bind (wpAny_standAt (wpAny_bind (strConsts_spliced hc fun vs tk r=>wpAny_newObj_type ?_ ?_)))
  · have a:=(C.at.tok tk).kp (C.hi.push { cls:=.type "tuple",data:=.seq vs.toArray } tk) (Kp.push _ _ _)
    obtain ⟨rw',okx,_⟩:=Fl0.rd (show Fl0 w (.str x) from hw) (s.heap.push { cls:=.type "tuple",data:=.seq vs.toArray })
    obtain ⟨_,rx⟩:=rw'.reads
    refine SeqAt.in_tuple_reads (xs:=l.map .str) (Reads.tuple (Heap.get?_push_size _ rfl) rfl rfl (r _)) rx (canLayAll0_of_ok (strConsts_ok hc)) (canLay0_of_ok okx) ?_ ?_
    · have:=C.ha.units
      have:min (PyData.depthAll (l.map .str)) (PyData.str x).depth ≤ 0:=Nat.min_le_right _ _
      omega
    · exact (strs_any x l).symm ▸ g _ _ _ a ve_bool
  · show vs.toArray.size ≤ _
    rw [List.size_toArray,SeqAt.ReadsAll.length _ _ _ (r default),List.length_map]
    exact Nat.le_trans hl (by decide)
theorem inT_at {l:List Str} {e:Expr} {es:List Expr} {k:Nat} {p2 pos:Pos} {p:OE} (hc:strConsts l es = true) (hl:l.length ≤ 50) (h:OSE D sc e p):OSE D sc (.Compare e [.In] [.Tuple es k p2] pos) (.inT p l) ∧ OST D sc (.Compare e [.In] [.Tuple es k p2] pos) (.inT p l) :=
  ⟨fun {A env ρ μ st s v st' Q E} C he g=>bnd2 he fun x st₁ hx he=>mapK he fun y hy e=>by
    cases strV_some hy
    cases e
    exact wpAny_Compare1 (h C hx fun w s₁ μ₁ a₁ hw=>oin_tuple (C.go a₁) hw hc hl (g.after a₁)) rfl,
  fun {A env ρ μ st s t st' Q E} C he hQ=>bnd2 he fun v st₂ hv he=>mapP he fun ht e=>by
    subst e
    exact bnd2 hv fun x st₁ hx hv=>mapK hv fun y hy e=>by
      cases strV_some hy
      cases e
      exact wpAny_isTrue_Compare1 (h C hx fun w s₁ μ₁ a₁ hw=>oin_tuple (C.go a₁) hw hc hl fun z s₃ μ₃ a₃ hz=>otruthy C.ha.handled (a₁.trans a₃) hz ht fun s₄ a₄=>hQ s₄ μ₃ a₄) rfl⟩
theorem str_empty_append (x:Str):Str.empty ++ x = x:=congrArg Str.mk (Array.empty_append (xs:=x.cps))
theorem ose_fstr {a b:Str} {k1 k2:Nat} {e:Expr} {p1 p2 p3 pos:Pos} {p:OE} (ha:okD (.str a) = true) (hb:okD (.str b) = true) (h:OSE D sc e p) :
    OSE D sc (.JoinedStr [.Constant (.str a) k1 p1,.FormattedValue e (-1) none p2,.Constant (.str b) k2 p3] pos) (.fstr a p b):=fun {A env ρ μ st s r st' Q E} C he g=>bnd2 he fun x' st₁ hx he=>strVK he fun sx ex he=>mapP he fun hv e=>ifP hv fun hlen er=>by
  have ex:x' = _:=ex
  subst e ex
  cases er
  have hl1:(a ++ sx).length ≤ sizeLine:=Nat.le_trans (by rw [strLen_append (a ++ sx) b]; exact Nat.le_add_right _ _) hlen
  refine wpAny_JoinedStr ?_
  rw [arm_evalEach_cons,arm_evalEach_cons,arm_evalEach_cons]
  show wpAny _ A (eval (.Constant (.str a) k1 p1) env) _ E s
  rw [arm_eval_Constant]
  refine wpAny_mkText ⟨a,_,rfl,by rw [str_empty_append]; exact (okS ha).2,?_⟩
  rw [str_empty_append]
  show wpAny _ A (eval (.FormattedValue e (-1) none p2) env) _ E _
  refine wpAny_FormattedValue_plain (h (C.go (C.at.tok (s.toks + 1))) hx fun w s₁ μ₁ a₁ hw=>?_)
  obtain ⟨t,rfl,hok⟩:∃ t,w = .str sx t ∧ okD (.str sx) = true:=veS (m:=fun w=>∃ t,w = .str sx t ∧ okD (.str sx) = true) hw fun t ok=>⟨t,rfl,ok⟩
  have hok3:okD (.str (a ++ sx ++ b)) = true:=okD_str_append (okD_str_append ha hok hl1) hb hlen
  have rest:∀ tk t',∃ y t,(Value.str sx t') = .str y t ∧ (a ++ y).length ≤ sizeLine ∧ Joins (model D.Z.prog D.Z.w) A E [eval (.Constant (.str b) k2 p3) env] (a ++ y) (fun out s₁=>out.length ≤ sizeLine ∧ Q (.str out s₁.toks) { s₁ with toks:=s₁.toks + 1 }) { s₁ with toks:=tk }:=fun tk t'=>by
    refine ⟨sx,t',rfl,hl1,?_⟩
    show wpAny _ A (eval (.Constant (.str b) k2 p3) env) _ E _
    rw [arm_eval_Constant]
    exact wpAny_mkText ⟨b,_,rfl,hlen,hlen,g _ _ _ ((C.at.tok (s.toks + 1)).trans (a₁.tok _)) (ve_str hok3)⟩
  exact wpAny_formatField_str (rest _ _) (rest _ _) (okS hok).2
end
section
variable {prog:Program} {w:World} {A:Around} {E:Value→Shared→Prop} {s:Shared}
theorem getattr_append {l:Addr} {vs:Array Value} {n:Nat} {sl:Array (Option Value)} {Q:Value→Shared→Prop} (hh:A.handled = none) (ho:s.heap.get? l = some (listObj vs n sl))
    (h:Q (.ref s.heap.objs.size) { s with heap:=s.heap.push (boundAppend l),toks:=s.toks + 1 }):wpAny (model prog w) A (getAttr (.ref l) "append" true) Q E s:=by
  refine swalk (K:=[]) (congrFun (congrFun (congrFun PySem.W.Fast.te4926136581373384958 (.ref l)) "append") true) 9 (List.replicate 6 (0,listObj vs n sl))
    (s.heap.get? l = some (listObj vs n sl) ∧ s.heap.get? l = some (listObj vs n sl) ∧ qb "list.__getattribute__" [.ref l,.str "append" s.toks] ∧ s.heap.get? l = some (listObj vs n sl) ∧ s.heap.get? l = some (listObj vs n sl) ∧ s.heap.get? l = some (listObj vs n sl) ∧
      qb "method_descriptor.__get__" [.builtin "list.append",.ref l,.type "list"] ∧ s.heap.get? l = some (listObj vs n sl) ∧ Q (.ref s.heap.objs.size) { s with heap:=s.heap.push (boundAppend l),toks:=s.toks + 1 }) hh ?_ ?_ ?_
  · exact fun _ _ h=>nomatch h
  · kernel_rfl
  · exact ⟨ho,ho,Code.quiet_builtin _ (by decide +kernel),ho,ho,ho,Code.quiet_builtin _ (by decide +kernel),ho,h⟩
theorem call_bound {u l:Addr} {v:Value} {vs:Array Value} {n:Nat} {sl:Array (Option Value)} {Q:Value→Shared→Prop} (hh:A.handled = none) (hu:s.heap.get? u = some (boundAppend l)) (ho:s.heap.get? l = some (listObj vs n sl))
    (h:wpAny (model prog w) A.in1 (updateSeq l (·.push v) >>= fun _=>ret .none) (fun fin s'=>∃ v,fin = PySem.Fin.done (.ret v) ∧ Q v s') E s):wpAny (model prog w) A (call (.ref u) [v]) Q E s:=by
  refine wpAny_call (codeAny_of_tree (swalk (K:=[]) (congrFun (congrFun PySem.W.Fast.te2956504954644400088 (.ref u)) ⟨[v],[]⟩) 9 [(0,boundAppend l),(0,listObj vs n sl),(0,listObj vs n sl),(0,listObj vs n sl)]
    (s.heap.get? u = some (boundAppend l) ∧ s.heap.get? l = some (listObj vs n sl) ∧ s.heap.get? l = some (listObj vs n sl) ∧ s.heap.get? l = some (listObj vs n sl) ∧ qb "list.append" [.ref l,v] ∧ codeAny (model prog w) A (.builtin "list.append" ⟨[.ref l,v],[]⟩) (wants Q E) s) hh ?_ ?_ ?_))
  · exact fun _ _ h=>nomatch h
  · kernel_rfl
  · refine ⟨hu,ho,ho,ho,Code.quiet_builtin _ (by decide +kernel),codeAny_builtin entry_list_append ?_⟩
    rw [Around.under_plainId (id := "list.append") (by decide +kernel) _]
    refine wpAny_mono h (fun fin s' h'=>?_) fun _ _ e=>e
    obtain ⟨w,rfl,hw⟩:=h'
    exact hw
end
noncomputable def IsBound (o:Obj):Prop:=o.cls = .type "builtin_function_or_method" ∧ ∃ a b,o.data = .fields #[.builtin a,b]
theorem callWith_bound {M:Model} {A:Around} {E:Value→Shared→Prop} {s:Shared} {pos:Pos} {u:Addr} {first:List Value} {args:List (Bool × Sem Value)} {Q:Value→Shared→Prop} (hplain:args.any (·.1) = false)
    (h:wpAny M A (evalArgs (.ref u) true args []) (fun x s₁=>(∃ o,s₁.heap.get? u = some o ∧ IsBound o) ∧ wpAny M A (call (.ref u) (first ++ x.pos) x.kw) Q E s₁) E s):wpAny M A (callWith pos (.ref u) first args []) Q E s:=by
  unfold callWith
  refine wpAny_bind (wpAny_holding (wpAny_mono h (fun x s₁ h₁=>wpAny_bind (wpAny_standAt ?_)) fun _ _ x=>x))
  obtain ⟨⟨⟨oc,od,oda,osl⟩,ho,hc,a,b,hd⟩,hcall⟩:=h₁
  cases hc; cases hd
  rw [hplain]
  refine wpAny_bind (m:=keeperOf (.ref u)) ?_
  unfold keeperOf
  refine wpAny_bind (wpAny_load ho ?_)
  dsimp only
  rw [if_pos (by decide),if_pos (by decide)]
  exact wpAny_pure (wpAny_bind (wpAny_mono hcall (fun r s₂ hr=>wpAny_bind (wpAny_holding (wpAny_point (wpAny_pure hr)))) fun _ _ x=>x))
section
variable {D:OD} {sc:Scope} {A:Around} {env:Env} {ρ:LO} {μ μ':List Addr} {st st':St} {s s':Shared}
theorem ose_addm {x:Expr} {pos:Pos} {p:OE} (hc:isCall0 x = false) (h:OSE D sc x p):OSE D sc (.Attribute x "append" pos) (.addm p):=fun {A env ρ μ st s r st' Q E} C he g =>
  bnd2 he fun x' st₁ hx he=>mapK he fun q hl e=>oNumK hl fun k ex hl=>fLK hl fun xs hk hl=>by
  cases hl; cases e
  subst ex
  rw [arm_eval_Attribute,attributeBase_of hc]
  refine wpAny_bind (h C hx fun w s₁ μ₁ a₁ hw=>?_)
  obtain ⟨b,items,n,sl,rfl,hb,g2,_⟩:=a₁.so.listAt hk hw
  refine wpAny_bind (wpAny_standAt (wpAny_bind (wpAny_holding (getattr_append C.ha.handled g2 (wpAny_bind (wpAny_letTemporaryGo (wpAny_pure ?_)))))))
  have m:=(C.go a₁).more (.here a₁.i a₁.so) (tk:=s₁.toks + 1) (v:=fun _=>True) (f:=.meth k) (o:=boundAppend b) ⟨b,pre_get (List.prefix_append _ _) hb,Heap.get?_push_size _ rfl⟩
  exact g _ _ _ (a₁.trans m.1) m.2
theorem ose_app {x e1:Expr} {n:Str} {p pos:Pos} {f a:OE} (hx':x = .Name n p) (h1:isStarred e1 = false) (ho:OSE D sc x f) (ha:OSE D sc e1 a) :
    OSE D sc (.Call x [e1] [] pos) (.app f a):=fun {A env ρ μ st s r st' Q E} C he g =>
  bnd2 he fun x' st₁ hx he=>bnd2 he fun y st₂ hy he=>bndK he fun j hl he=>mapK he fun st3 hp e=>oNumK hl fun k ex hl=>fMK hl fun j' hk hl=>fLK hp fun xs hk2 hp2=>by
  cases hl; cases e
  subst ex hx'
  rw [eval_Call_Name]
  refine wpAny_bind (ho C hx fun w s₁ μ₁ a₁ hw=>?_)
  obtain ⟨u,hu,rfl⟩:=hw
  refine callWith_bound ((plain_one h1).1 env pos) (oevalArgs (plain_one h1) (oses_cons h1 ha oses_nil) (C.go a₁) (oes1 hy) fun vs s₂ μ₂ a₂ hvs=>ves1 (m:=fun vs=>(∃ o,s₂.heap.get? u = some o ∧ IsBound o) ∧ wpAny _ A (call (.ref u) vs) Q E s₂) hvs fun z hz=>?_)
  obtain ⟨b,g2,g3⟩:=a₂.so.of hk (pre_get a₂.t.pre hu)
  obtain ⟨⟨_,_,_,o2⟩,body⟩:=opush (A:=A.in1) (E:=E) (a₁.trans a₂) hp g2 hz g
  exact ⟨⟨_,g3,rfl,_,_,rfl⟩,call_bound C.ha.handled g3 o2 body⟩
end
end Kt
end
section
open PySem PySem.W PyProof.Rows PySem.Calls
namespace Kt
noncomputable def plainTest (e:Expr):Bool:=!(e.ctorIdx == 3 || e.ctorIdx == 0 || e.ctorIdx == 5 || e.ctorIdx == 15)
theorem isTrue_plainT {e:Expr} (h:plainTest e = true) (env:Env):isTrue e env (eval e env) = (do let v ← eval e env; standAt e.pos; holding [v] (truthy v)):=by
  cases e with
  | UnaryOp=>cases h
  | BoolOp=>cases h
  | IfExp=>cases h
  | Compare=>cases h
  | _=>rfl
section
variable (K:Frag) (cA fA:Nat→Option Addr) (xc:Nat→Scope→Expr→Bool) (nm:List Str)
noncomputable def onMeth (e:Expr) (n:Str) (f:Expr→List Expr→Bool):Bool:=onCall e fun fe as ks pos=>ks.isEmpty && onAttribute fe fun o m apos=>m == n && (!isCall0 o && (apos.endLine == pos.line && f o as))
noncomputable def onFn (e:Expr) (f:Str→List Expr→Bool):Bool:=onCall e fun fe as ks _=>ks.isEmpty && onName fe fun n _=>f n as
noncomputable def onBi (sc:Scope) (e:Expr) (n:Str) (f:Expr→Bool):Bool:=onFn e fun m as=>m == n && (globOk sc n && on1 as fun x=>!isStarred x && f x)
noncomputable def noStars (es:List Expr):Bool:=es.all fun e=>!isStarred e
mutual
noncomputable def chkOE (sc:Scope):OE→Expr→Bool
  | .lit d,e=>onConstant e fun c _ _=>litC d == some c
  | .var x,e=>onName e fun n _=>nm[x]? == some n && (sc.names.lookup n == some .local && n != ("__debug__" : Str))
  | .ty T,e=>onName e fun n _=>globOk sc n && obiTab.any (fun p=>p.1 == n && p.2 == .type T)
  | .attr c p a,e=>onAttribute e fun x n _=>n == a && (!isCall0 x && (onS (cA c) (fun C=>getOk K C a) && chkOE sc p x))
  | .prop c p a f,e=>onAttribute e fun x n _=>(kwO f).isEmpty && (n == a && (!isCall0 x && (onS (cA c) (fun C=>onS (fA f) fun g=>propOk K C a g) && chkOE sc p x)))
  | .nt a,e=>onUnaryOp e fun o x _=>o == .Not && chkOE sc a x
  | .bool q a b,e=>onBoolOp e fun op xs pos=>op == opOf q && onC xs fun x r=>chkOE sc a x && onC r fun y r=>if r.isEmpty then chkOE sc b y else chkOE sc b (.BoolOp op (y :: r) pos)
  | .cmp op a b,e=>onCompare e fun l os rs _=>on1 os fun o=>o == op && on1 rs fun r=>!behindInMarks op r && (chkOE sc a l && chkOE sc b r)
  | .inT a l,e=>onCompare e fun x os rs _=>on1 os fun o=>o == .In && on1 rs fun r=>onTuple r fun es _ _=>strConsts l es && (decide (l.length ≤ 50) && chkOE sc a x)
  | .bin op a b,e=>onBinOp e fun l o r _=>o == op && (chkOE sc a l && chkOE sc b r)
  | .call f ps,e=>onFn e fun n as=>(kwO f).isEmpty && (globOk sc n && (onS (fA f) (fun a=>globK K n == some (.ref a) && keepIn K (.ref a)) && (noStars as && chkOEs sc ps as)))
  | .mcall c p m f ps,e=>onMeth e m fun o as=>(kwO f).isEmpty && (onS (cA c) (fun C=>onS (fA f) fun a=>methOk K C m a) && (decide (as.length ≤ 5) && (noStars as && (chkOE sc p o && chkOEs sc ps as))))
  | .len p,e=>onBi sc e "len" fun x=>chkOE sc p x
  | .typ p,e=>onBi sc e "type" fun x=>chkOE sc p x
  | .intc p,e=>onBi sc e "int" fun x=>chkOE sc p x
  | .isStr p,e=>onFn e fun n as=>n == ("isinstance" : Str) && (globOk sc "isinstance" && (globOk sc "str" && onC as fun x r=>!isStarred x && (chkOE sc p x && on1 r fun y=>onName y fun m _=>m == ("str" : Str))))
  | .repl p a b,e=>onMeth e "replace" fun o as=>onC as fun x r=>on1 r fun y=>!isStarred x && (!isStarred y && (chkOE sc p o && (chkOE sc a x && chkOE sc b y)))
  | .joinL p l,e=>onMeth e "join" fun o as=>on1 as fun x=>!isStarred x && (chkOE sc p o && chkOE sc l x)
  | .idx a i,e=>onSubscript e fun v s _=>!isSlice s && (chkOE sc a v && chkOE sc i s)
  | .slc a lo hi,e=>onSubscript e fun v s _=>onSlice s fun l u st _=>st.isNone && (chkOE sc a v && (chkOO sc lo l && chkOO sc hi u))
  | .nil,e=>onList e fun xs _=>xs.isEmpty
  | .addm p,e=>onAttribute e fun x n _=>n == ("append" : Str) && (!isCall0 x && chkOE sc p x)
  | .app f p,e=>onCall e fun fe as ks _=>ks.isEmpty && (on1 as fun x=>!isStarred x && (chkOE sc p x && (chkOE sc f fe && onName fe fun _ _=>true)))
  | .appL l p,e=>onMeth e "append" fun o as=>on1 as fun x=>!isStarred x && (chkOE sc l o && chkOE sc p x)
  | .fstr a p b,e=>onJoinedStr e fun es _=>onC es fun x r=>onC r fun v r=>on1 r fun y=>onConstant x fun c _ _=>c == .str a && onConstant y fun c _ _=>c == .str b && (okD (.str a) && (okD (.str b) &&
      onFormattedValue v fun v cv sp _=>cv == -1 && (sp.isNone && chkOE sc p v)))
  | .neg i,e=>onUnaryOp e fun o x _=>o == .USub && onConstant x fun c _ _=>c == .int i
  | .ext j,e=>xc j sc e && plainTest e
  | .stuck,_=>true
noncomputable def chkOEs (sc:Scope):OEs→List Expr→Bool
  | .nil,es=>es.isEmpty
  | .cons p ps,es=>onC es fun e r=>!isStarred e && (chkOE sc p e && chkOEs sc ps r)
noncomputable def chkOO (sc:Scope):OO→Option Expr→Bool
  | .no,o=>o.isNone
  | .yes p,o=>onS o fun e=>chkOE sc p e
end
end
theorem onMethK {e:Expr} {n:Str} {f:Expr→List Expr→Bool} {m:Expr→Prop} (h:onMeth e n f = true) (k:∀ o as (apos pos:Pos),isCall0 o = false→(apos.endLine == pos.line) = true→f o as = true→m (.Call (.Attribute o n apos) as [] pos)):m e:=by
  apply onCallK h; intro fe as ks pos h
  refine andK h fun z h=>?_; apply nilK z
  apply onAttributeK h; intro o m' apos h
  refine andK h fun z h=>?_; apply beqK z
  exact k o as apos pos (notT (andT h).1) (andT (andT h).2).1 (andT (andT h).2).2
theorem onFnK {e:Expr} {f:Str→List Expr→Bool} {m:Expr→Prop} (h:onFn e f = true) (k:∀ n as (p pos:Pos),f n as = true→m (.Call (.Name n p) as [] pos)):m e:=by
  apply onCallK h; intro fe as ks pos h
  refine andK h fun z h=>?_; apply nilK z
  apply onNameK h; intro n p h
  exact k n as p pos h
theorem onBiK {sc:Scope} {e:Expr} {n:Str} {f:Expr→Bool} {m:Expr→Prop} (h:onBi sc e n f = true) (k:∀ x (p pos:Pos),globOk sc n = true→isStarred x = false→f x = true→m (.Call (.Name n p) [x] [] pos)):m e:=by
  apply onFnK h; intro n' as p pos h
  refine andK h fun z h=>?_; apply beqK z
  refine andK h fun h1 h=>?_
  apply on1K h; intro x h
  exact k x p pos h1 (notT (andT h).1) (andT h).2
structure OCx (D:OD) (K:Frag) (fA:Nat→Option Addr) (xc:Nat→Scope→Expr→Bool):Prop where
  k:∀ h,D.Z.TabI h→K.In h
  k0:K.In D.Z.h₀
  b:OBiOk D.Z
  c:OCallOk D.Z D.cA D.cl D.lvl fA
  x:∀ j sc e,xc j sc e = true→OSE D sc e (.ext j)
section
variable {D:OD} {K:Frag} {fA:Nat→Option Addr} {xc:Nat→Scope→Expr→Bool} {sc:Scope}
theorem obi_mem {n:Str} {T:String} (h:obiTab.any (fun p=>p.1 == n && p.2 == .type T) = true):(n,Value.type T) ∈ obiTab:=by
  obtain ⟨p,hm,h⟩:=List.any_eq_true.mp h
  have e:p = (n,.type T):=Prod.ext (eq_of_beq (andT h).1) (eq_of_beq (andT h).2)
  exact e ▸ hm
noncomputable def OSB (D:OD) (sc:Scope) (p:OE) (e:Expr):Prop:=OSE D sc e p ∧ OST D sc e p
theorem OSB.of {e:Expr} {p:OE} (h:OSE D sc e p) (hw:plainTest e = true):OSB D sc p e:=ost_of h (isTrue_plainT hw)
theorem ost_last {q:Bool} {y:Expr} {b:OE} (h:OST D sc y b) {A:Around} {env:Env} {ρ:LO} {μ:List Addr} {st:St} {s:Shared} {t:Bool} {st':St} {Q:Bool→Shared→Prop} {E:Value→Shared→Prop} (C:Oc D sc A env ρ μ st s) (hd:ovT D.cl D.ex b ρ st = some (t,st'))
    (hQ:∀ s' μ',OAt D.Z D.cA noL μ s.heap μ' st' s'→Q t s'):wpAny (model D.Z.prog D.Z.w) A (allTrue (opOf q) [y] env) Q E s:=by
  rw [arm_allTrue_cons]
  refine wpAny_bind (h C hd fun s₁ μ₁ a₁=>?_)
  have:=hQ s₁ μ₁ a₁
  cases q <;> cases t <;> exact wpAny_pure this
theorem osb_bool1 {q:Bool} {a b:OE} {x y:Expr} {pos:Pos} (i1:OSB D sc a x) (i2:OSB D sc b y):OSB D sc (.bool q a b) (.BoolOp (opOf q) [x,y] pos) :=
  ⟨ose_bool (rest:=[y]) (fun _=>⟨_,_,rfl⟩) i1.1 fun {A env ρ μ st s v st' Q E} C hd g=>i2.1 (A:=A) (env:=env) (Q:=Q) (E:=E) C hd g,ost_bool i1.2 (ost_last i2.2)⟩
theorem osb_bool2 {q:Bool} {a b:OE} {x y z:Expr} {r:List Expr} {pos:Pos} (i1:OSB D sc a x) (i2:OSB D sc b (.BoolOp (opOf q) (y :: z :: r) pos)):OSB D sc (.bool q a b) (.BoolOp (opOf q) (x :: y :: z :: r) pos) :=
  ⟨ose_bool (rest:=y :: z :: r) (fun _=>⟨_,_,rfl⟩) i1.1 fun {A env ρ μ st s v st' Q E} C hd g=>i2.1 (A:=A) (env:=env) (Q:=Q) (E:=E) C hd g,ost_bool i1.2 fun {A env ρ μ st s t st' Q E} C hd hQ=>i2.2 (A:=A) (env:=env) (Q:=Q) (E:=E) C hd hQ⟩
mutual
theorem soundOE (X:OCx D K fA xc):∀ (p:OE) {sc:Scope} {e:Expr},chkOE K D.cA fA xc D.nm sc p e = true→OSB D sc p e
  | .lit d,sc,e,h=>by
    apply onConstantK h; intro c k p h
    exact .of (ose_lit (eq_of_beq h)) rfl
  | .var x,sc,e,h=>by
    apply onNameK h; intro n p h
    exact .of (ose_var (eq_of_beq (andT h).1) (eq_of_beq (andT (andT h).2).1) (bne_iff_ne.mp (andT (andT h).2).2)) rfl
  | .ty T,sc,e,h=>by
    apply onNameK h; intro n p h
    exact .of (ose_ty X.b (andT h).1 (obi_mem (andT h).2)) rfl
  | .attr c p a,sc,e,h=>by
    apply onAttributeK h; intro x n q h
    refine andK h fun z h=>andK h fun h1 h=>andK h fun h2 h=>?_; apply beqK z
    obtain ⟨C,hC,h2⟩:=onSE h2
    exact .of (ose_attr X.k hC h2 (notT h1) (soundOE X p h).1) rfl
  | .prop c p a f,sc,e,h=>by
    apply onAttributeK h; intro x n q h
    refine andK h fun h0 h=>andK h fun z h=>andK h fun h1 h=>andK h fun h2 h=>?_; apply beqK z
    obtain ⟨C,hC,h2⟩:=onSE h2
    obtain ⟨g,hg,h2⟩:=onSE h2
    exact .of (ose_prop (List.isEmpty_iff.mp h0) X.k X.c hC hg h2 (notT h1) (soundOE X p h).1) rfl
  | .nt a,sc,e,h=>by
    apply onUnaryOpK h; intro o x p h
    refine andK h fun z h=>?_; apply beqK z
    exact ⟨ose_nt (soundOE X a h).1,ost_nt (soundOE X a h).2⟩
  | .bool q a b,sc,e,h=>by
    apply onBoolOpK h; intro op xs pos h
    refine andK h fun hz h=>?_; have hz:=eq_of_beq hz; subst hz
    apply onCK h; intro x r h
    refine andK h fun h1 h=>?_
    apply onCK h; intro y r' h
    cases r' with
    | nil=>exact osb_bool1 (soundOE X a h1) (soundOE X b h)
    | cons z r=>exact osb_bool2 (soundOE X a h1) (soundOE X b h)
  | .cmp op a b,sc,e,h=>by
    apply onCompareK h; intro l os rs p h
    apply on1K h; intro o h
    refine andK h fun z h=>?_; apply beqK z
    apply on1K h; intro r h
    refine andK h fun z h=>?_
    exact ⟨ose_cmp (notT z) (soundOE X a (andT h).1).1 (soundOE X b (andT h).2).1,ost_cmp (notT z) (soundOE X a (andT h).1).1 (soundOE X b (andT h).2).1⟩
  | .inT a l,sc,e,h=>by
    apply onCompareK h; intro x os rs p h
    apply on1K h; intro o h
    refine andK h fun z h=>?_; apply beqK z
    apply on1K h; intro r h
    apply onTupleK h; intro es k q h
    exact inT_at (andT h).1 (of_decide_eq_true (andT (andT h).2).1) (soundOE X a (andT (andT h).2).2).1
  | .bin op a b,sc,e,h=>by
    apply onBinOpK h; intro l o r p h
    refine andK h fun z h=>?_; apply beqK z
    exact .of (ose_bin (soundOE X a (andT h).1).1 (soundOE X b (andT h).2).1) rfl
  | .call f ps,sc,e,h=>by
    apply onFnK h; intro n as p q h
    refine andK h fun h0 h=>andK h fun h1 h=>andK h fun h2 h=>andK h fun h3 h=>?_
    obtain ⟨a,ha,h2⟩:=onSE h2
    exact .of (ose_call (List.isEmpty_iff.mp h0) X.k X.c ha h1 (globK_eq X.k0 (eq_of_beq (andT h2).1)) (andT h2).2 (noStars_plain h3) (soundOEs X ps h)) rfl
  | .mcall c p m f ps,sc,e,h=>by
    apply onMethK h; intro o as apos pos hc hl h
    refine andK h fun h0 h=>andK h fun h1 h=>andK h fun h2 h=>andK h fun h3 h=>?_
    obtain ⟨C,hC,h1⟩:=onSE h1
    obtain ⟨a,ha,h1⟩:=onSE h1
    exact .of (ose_mcall (List.isEmpty_iff.mp h0) X.k X.c hC ha h1 hc hl (of_decide_eq_true h2) (noStars_plain h3) (soundOE X p (andT h).1).1 (soundOEs X ps (andT h).2)) rfl
  | .len p,sc,e,h=>by
    apply onBiK h; intro x q r h1 h2 h
    exact .of (ose_len X.b h1 h2 (soundOE X p h).1) rfl
  | .typ p,sc,e,h=>by
    apply onBiK h; intro x q r h1 h2 h
    exact .of (ose_typ X.b h1 h2 (soundOE X p h).1) rfl
  | .intc p,sc,e,h=>by
    apply onBiK h; intro x q r h1 h2 h
    exact .of (ose_intc X.b h1 h2 (soundOE X p h).1) rfl
  | .isStr p,sc,e,h=>by
    apply onFnK h; intro n as q r h
    refine andK h fun z h=>andK h fun h1 h=>andK h fun h2 h=>?_; apply beqK z
    apply onCK h; intro x l h
    refine andK h fun h3 h=>andK h fun h4 h=>?_
    apply on1K h; intro y h
    apply onNameK h; intro m q' h
    apply beqK h
    exact .of (ose_isStr X.b h1 h2 (notT h3) (soundOE X p h4).1) rfl
  | .repl p a b,sc,e,h=>by
    apply onMethK h; intro o as apos pos hc hl h
    apply onCK h; intro x l h
    apply on1K h; intro y h
    refine andK h fun h1 h=>andK h fun h2 h=>andK h fun h3 h=>?_
    exact .of (ose_repl hc hl (notT h1) (notT h2) (soundOE X p h3).1 (soundOE X a (andT h).1).1 (soundOE X b (andT h).2).1) rfl
  | .joinL p l,sc,e,h=>by
    apply onMethK h; intro o as apos pos hc hl h
    apply on1K h; intro x h
    refine andK h fun h1 h=>?_
    exact .of (ose_joinL hc hl (notT h1) (soundOE X p (andT h).1).1 (soundOE X l (andT h).2).1) rfl
  | .idx a i,sc,e,h=>by
    apply onSubscriptK h; intro v s p h
    refine andK h fun z h=>?_
    exact .of (ose_idx (notT z) (soundOE X a (andT h).1).1 (soundOE X i (andT h).2).1) rfl
  | .slc a lo hi,sc,e,h=>by
    apply onSubscriptK h; intro v s p h
    apply onSliceK h; intro l u st q h
    refine andK h fun z h=>?_; apply noneK z
    exact .of (ose_slc (soundOE X a (andT h).1).1 (soundOO X lo (andT (andT h).2).1) (soundOO X hi (andT (andT h).2).2)) rfl
  | .nil,sc,e,h=>by
    apply onListK h; intro xs p h
    apply nilK h
    exact .of ose_nil rfl
  | .addm p,sc,e,h=>by
    apply onAttributeK h; intro x n q h
    refine andK h fun z h=>?_; apply beqK z
    exact .of (ose_addm (notT (andT h).1) (soundOE X p (andT h).2).1) rfl
  | .app f p,sc,e,h=>by
    apply onCallK h; intro fe as ks q h
    refine andK h fun z h=>?_; apply nilK z
    apply on1K h; intro x h
    refine andK h fun h1 h=>andK h fun h2 h=>andK h fun h3 h4=>?_
    have i:OSB D sc f fe:=soundOE X f h3
    exact .of (onNameK (m:=fun fe=>OSB D sc f fe→OSE D sc (.Call fe [x] [] q) (.app f p)) h4 (fun n np _ i=>ose_app rfl (notT h1) i.1 (soundOE X p h2).1) i) rfl
  | .appL l p,sc,e,h=>by
    apply onMethK h; intro o as apos pos hc hl h
    apply on1K h; intro x h
    refine andK h fun h1 h=>?_
    exact .of (ose_appL hc hl (notT h1) (soundOE X l (andT h).1).1 (soundOE X p (andT h).2).1) rfl
  | .fstr a p b,sc,e,h=>by
    apply onJoinedStrK h; intro es q h
    apply onCK h; intro x r h
    apply onCK h; intro v r h
    apply on1K h; intro y h
    apply onConstantK h; intro c1 k1 p1 h
    refine andK h fun z h=>?_; apply beqK z
    apply onConstantK h; intro c2 k2 p2 h
    refine andK h fun z h=>?_; apply beqK z
    refine andK h fun h1 h=>andK h fun h2 h=>?_
    apply onFormattedValueK h; intro v' cv sp p3 h
    refine andK h fun z h=>?_; apply beqK z
    refine andK h fun z h=>?_; apply noneK z
    exact .of (ose_fstr h1 h2 (soundOE X p h).1) rfl
  | .neg i,sc,e,h=>by
    apply onUnaryOpK h; intro o x p h
    refine andK h fun z h=>?_; apply beqK z
    apply onConstantK h; intro c k q h
    apply beqK h
    exact ost_of ose_neg fun _=>rfl
  | .ext j,sc,e,h=>.of (X.x j sc e (andT h).1) (andT h).2
  | .stuck,sc,e,h=>⟨fun _ hd=>(nomatch hd),fun _ hd=>(nomatch hd)⟩
theorem soundOEs (X:OCx D K fA xc):∀ (ps:OEs) {sc:Scope} {es:List Expr},chkOEs K D.cA fA xc D.nm sc ps es = true→OSEs D sc es ps
  | .nil,sc,es,h=>by apply nilK h; exact oses_nil
  | .cons p ps,sc,es,h=>by
    apply onCK h; intro e r h
    refine andK h fun z h=>?_
    exact oses_cons (notT z) (soundOE X p (andT h).1).1 (soundOEs X ps (andT h).2)
theorem soundOO (X:OCx D K fA xc):∀ (p:OO) {sc:Scope} {o:Option Expr},chkOO K D.cA fA xc D.nm sc p o = true→OSO D sc o p
  | .no,sc,o,h=>by apply noneK h; exact oso_no
  | .yes p,sc,o,h=>by
    apply onSK h; intro e h
    exact oso_yes (soundOE X p h).1
end
end
end Kt
end
section
open PySem PySem.W PyProof.Rows PySem.Calls
namespace Kt
section
variable {D:OD} {sc:Scope} {K:Frag} {fA:Nat→Option Addr} {A:Around} {E:Value→Shared→Prop} {env:Env} {ρ:LO} {μ μ':List Addr} {st so:St} {s s':Shared} {h:Heap} {xc:Nat→Scope→Expr→Bool}
theorem Oc.inL (C:Oc D sc A env ρ μ st s) (a:OAt D.Z D.cA noL μ s.heap μ' so s'):OAt D.Z D.cA (· = env.locals) μ s.heap μ' so s':=⟨a.i,a.t.inL C.he,a.so⟩
theorem lo_set {x y:Nat} {v u:OV} (hh:((ρ.set x (some v))[y]?).join = some u):(y = x ∧ v = u) ∨ (y ≠ x ∧ (ρ[y]?).join = some u):=by
  rw [List.getElem?_set] at hh
  by_cases e:x = y
  · rw [if_pos e] at hh
    by_cases hx:x < ρ.length
    · rw [if_pos hx] at hh; exact .inl ⟨e.symm,Option.some.inj hh⟩
    · rw [if_neg hx] at hh; cases hh
  · rw [if_neg e] at hh
    exact .inr ⟨fun e'=>e e'.symm,hh⟩
theorem Oc.store (C:Oc D sc A env ρ μ st s) {x:Nat} {n:Str} {w:Value} {v:OV} {Q:Unit→Shared→Prop} (hnd:D.nm.Nodup) (hx:D.nm[x]? = some n) (hl:sc.names.lookup n = some .local) (hw:VE μ w v)
    (hQ:∀ s',OAt D.Z D.cA (· = env.locals) μ s.heap μ st s'→OEnv D.Z D.nm env (ρ.set x (some v)) μ s'.heap→Q () s'):wpAny (model D.Z.prog D.Z.w) A (storeName env n w) Q E s:=by
  have hE:=C.he
  obtain ⟨m,hm,hv⟩:=hE.ns
  refine wpAny_storeName_local (C.hs.1 n hl) hm (fun h' hn hsb=>hQ _ ⟨C.hi.same hE.new hsb (fun _=>let ⟨o,es,ep,e,hd,_⟩:=hn; ⟨o,e,es,ep,hd⟩) _,⟨List.prefix_rfl,fun b o e _ _ hb=>.inl ((hsb.2 b hb).trans e),fun _ h hn=>absurd h hn⟩,?_⟩ ?_) (by rw [hE.kind]; rfl)
  · exact ⟨C.so.len,C.so.nd,C.so.hi,fun k a f h1 h2=>(C.so.at_ k a f h1 h2).sl List.prefix_rfl fun o e=>.inl ((hsb.2 a fun e'=>hE.out (e' ▸ List.mem_of_getElem? h1)).trans e)⟩
  · refine { hE with ns:=⟨_,hn,fun y u k h1 h2=>(lo_set h1).elim (fun ⟨e,e'⟩=>?_) fun ⟨hne,h1⟩=>?_⟩ }
    · subst e e'
      cases hx.symm.trans h2
      exact ⟨w,if_pos rfl,hw⟩
    · obtain ⟨w',h3,h4⟩:=hv y u k h1 h2
      exact ⟨w',(if_neg fun e:k = n=>hne (name_inj hnd h2 (e ▸ hx))).trans h3,h4⟩
noncomputable def OFlow (D:OD) (env:Env) (μ:List Addr) (h:Heap):OFl→Flow→Prop
  | .next ρ,fl=>fl = .next ∧ OEnv D.Z D.nm env ρ μ h
  | .brk ρ,fl=>fl = .brk ∧ OEnv D.Z D.nm env ρ μ h
  | .cont ρ,fl=>fl = .cont ∧ OEnv D.Z D.nm env ρ μ h
  | .ret v,fl=>∃ w,fl = .ret w ∧ VE μ w v
noncomputable def OPost (D:OD) (env:Env) (μ:List Addr) (h:Heap) (r:OFl × St) (R:Flow→Shared→Prop):Prop:=∀ fl s' μ',OAt D.Z D.cA (· = env.locals) μ h μ' r.2 s'→OFlow D env μ' s'.heap r.1 fl→R fl s'
theorem OPost.from_ {r:OFl × St} {R:Flow→Shared→Prop} (p:OPost D env μ h r R) (a:OAt D.Z D.cA (· = env.locals) μ h μ' so s'):OPost D env μ' s'.heap r R:=fun fl s'' μ'' b f=>p fl s'' μ'' (a.trans b) f
end
section
variable (D:OD) (sc:Scope) (fuel:Nat)
noncomputable def OSX1 (st:Stmt) (p:OS):Prop :=
  ∀ {A:Around} {env:Env} {ρ:LO} {μ:List Addr} {so:St} {s:Shared} {r:OFl × St} {R:Flow→Shared→Prop} {E:Value→Shared→Prop},
    Oc D sc A env ρ μ so s→oxS D.cl D.ex fuel p ρ so = some r→OPost D env μ s.heap r R→wpAny (model D.Z.prog D.Z.w) A (exec st env) R E s
noncomputable def OSX (ss:List Stmt) (p:OSs):Prop :=
  ∀ {A:Around} {env:Env} {ρ:LO} {μ:List Addr} {so:St} {s:Shared} {r:OFl × St} {R:Flow→Shared→Prop} {E:Value→Shared→Prop},
    Oc D sc A env ρ μ so s→oxSs D.cl D.ex fuel p ρ so = some r→OPost D env μ s.heap r R→wpAny (model D.Z.prog D.Z.w) A (execs ss env) R E s
end
section
variable {D:OD} {sc:Scope} {fuel:Nat} {K:Frag} {fA:Nat→Option Addr} {A:Around} {E:Value→Shared→Prop} {env:Env} {ρ ρ':LO} {μ μ':List Addr} {so st st':St} {s s':Shared} {xc:Nat→Scope→Expr→Bool}
  {np pos apos:Pos} {value o:Expr} {p q:OE}
theorem Oc.to (C:Oc D sc A env ρ μ so s) (a:OAt D.Z D.cA (· = env.locals) μ s.heap μ' st s') (e:OEnv D.Z D.nm env ρ' μ' s'.heap):Oc D sc A env ρ' μ' st s':=⟨C.ha,C.hs,e,a.i,a.so⟩
theorem Oc.next (C:Oc D sc A env ρ μ so s) {R:Flow→Shared→Prop} (hR:OPost D env μ s.heap (.next ρ,st) R) (a:OAt D.Z D.cA noL μ s.heap μ' st s'):R .next s':=hR _ _ _ (C.inL a) ⟨rfl,C.he.step a.t⟩
theorem osx_nil:OSX D sc fuel [] .nil:=fun {A env ρ μ so s r R E} C hd hR=>by
  cases hd
  exact wpAny_execs_nil (C.next hR C.at)
theorem osx_cons {st:Stmt} {ss:List Stmt} {p:OS} {ps:OSs} (h1:OSX1 D sc fuel st p) (h2:OSX D sc fuel ss ps):OSX D sc fuel (st :: ss) (.cons p ps):=fun {A env ρ μ so s r R E} C hd hR=>bnd2 hd fun f so₁ hx hd=>by
  refine wpAny_execs_cons (h1 C hx fun fl s' μ' a g=>?_)
  cases f with
  | next ρ'=>obtain ⟨rfl,e⟩:=g; exact h2 (C.to a e) hd (hR.from_ a)
  | brk ρ'=>obtain ⟨rfl,e⟩:=g; cases hd; exact hR _ _ _ a ⟨rfl,e⟩
  | cont ρ'=>obtain ⟨rfl,e⟩:=g; cases hd; exact hR _ _ _ a ⟨rfl,e⟩
  | ret v=>obtain ⟨w,rfl,e⟩:=g; cases hd; exact hR _ _ _ a ⟨w,rfl,e⟩
theorem osx_assign {x:Nat} {n:Str} (hnd:D.nm.Nodup) (hx:D.nm[x]? = some n) (hl:sc.names.lookup n = some .local) (hc:isComp value = false) (h:OSE D sc value p):OSX1 D sc fuel (.Assign [.Name n np] value pos) (.assign x p):=fun {A env ρ μ so s r R E} C hd hR=>mapK hd fun v hv e=>by
  cases e
  exact wpAny_Assign_Name (h C hv fun w s₁ μ₁ a₁ hw=>(C.go a₁).store hnd hx hl hw fun s₂ a₂ E₂=>hR _ s₂ μ₁ ((C.inL a₁).trans a₂) ⟨rfl,E₂⟩) (swaps_none hc _ _ _)
theorem osx_assign2 {x y:Nat} {n m:Str} {p1 p2 tp vp:Pos} {k k':Nat} {ea eb:Expr} {a b:OE} (hnd:D.nm.Nodup) (hxy:x ≠ y) (hx:D.nm[x]? = some n) (hy:D.nm[y]? = some m) (hk1:sc.names.lookup n = some .local) (hk2:sc.names.lookup m = some .local)
    (hsa:isStarred ea = false) (hsb:isStarred eb = false) (hcon:(!([ea,eb].all (foldedForSure 8)) && [ea,eb].all (constantsAlone 8)) = false) (ha:OSE D sc ea a) (hb:OSE D sc eb b) :
    OSX1 D sc fuel (.Assign [.Tuple [.Name n p1,.Name m p2] k tp] (.Tuple [ea,eb] k' vp) pos) (.assign2 x y a b):=fun {A env ρ μ so s r R E} C hd hR=>bnd2 hd fun d1 so₁ hv1 hd=>mapK hd fun d2 hv2 e=>by
  cases e
  refine assign2_run C.ha.handled hsa hsb hcon (ha C hv1 fun v1 s₁ μ₁ a₁ hw1=>hb (C.go a₁) hv2 fun v2 s₂ μ₂ a₂ hw2 h' hk=>?_)
  have t:=(a₁.trans a₂).kp (a₂.i.full (h':=h') (tk:=s₂.toks) hk) (Kp.of hk)
  have C':=C.go t
  have hw1:=hw1.pre a₂.t.pre
  have fin:∀ {s₅ s₆ σ},OAt D.Z D.cA (· = env.locals) μ₂ h' μ₂ d2.2 s₅→OAt D.Z D.cA (· = env.locals) μ₂ s₅.heap μ₂ d2.2 s₆→OEnv D.Z D.nm env σ μ₂ s₆.heap→σ = (ρ.set x (some d1)).set y (some d2.1)→R .next s₆:=fun a₅ a₆ e he=>hR _ _ μ₂ ((C.inL t).trans (a₅.trans a₆)) ⟨rfl,he ▸ e⟩
  exact ⟨C'.store hnd hx hk1 hw1 fun s₅ a₅ E₅=>(C'.to a₅ E₅).store hnd hy hk2 hw2 fun s₆ a₆ E₆=>fin a₅ a₆ E₆ rfl,
    C'.store hnd hy hk2 hw2 fun s₅ a₅ E₅=>(C'.to a₅ E₅).store hnd hx hk1 hw1 fun s₆ a₆ E₆=>fin a₅ a₆ E₆ (List.set_comm _ _ (Ne.symm hxy))⟩
theorem osx_setA {c:Nat} {C':Addr} {a:Str} (hK:∀ h,D.Z.TabI h→K.In h) (hC:D.cA c = some C') (hok:setOk K C' a = true) (hc:isComp value = false) (ho:OSE D sc o q) (h:OSE D sc value p) :
    OSX1 D sc fuel (.Assign [.Attribute o a apos] value pos) (.setA c q a p):=fun {A env ρ μ so s r R E} C hd hR=>bnd2 hd fun v so₁ hv hd=>bnd2 hd fun u so₂ hu hd=>mapK hd fun so₃ h3 e=>by
  cases e
  exact plainObj_wpAny_Assign_Attribute (h C hv fun w s₁ μ₁ a₁ hw=>ho (C.go a₁) hu fun z s₂ μ₂ a₂ hz=>setO (hK _ a₂.i.tab) (a₁.trans a₂) hC hok h3 hz (hw.pre a₂.t.pre) fun s₃ a₃=>C.next hR a₃) (swaps_none hc _ _ _)
theorem oinplace {h:Heap} {w u:Value} {x y v:OV} {op:Operator} {Q:Value→Shared→Prop} (a:OAt D.Z D.cA noL μ h μ' st' s') (hop:(op == .Add || op == .Sub) = true) (hw:VE μ' w x) (hu:VE μ' u y) (hv:binO op x y = some v) (g:OGot D.Z D.cA μ h st' v Q) :
    wpAny (model D.Z.prog D.Z.w) A (inplaceOp op w u) Q E s':=flatK hv fun x' e1 f1 hv=>flatK hv fun y' e2 f2 hv=>flatRK hv fun d h3 f3 e=>by
  subst e1 e2 e
  obtain ⟨r1,ok1,_⟩:=Fl0.rd hw s'.heap
  obtain ⟨r2,ok2,_⟩:=Fl0.rd hu s'.heap
  exact inplace_flat r1 r2 ok1 ok2 f1 hop h3 fun v' tk r ok=>g _ _ _ (a.tok tk) ⟨r _,ok⟩
theorem osx_aug {x:Nat} {n:Str} {op:Operator} (hnd:D.nm.Nodup) (hx:D.nm[x]? = some n) (hl:sc.names.lookup n = some .local) (h:OSE D sc value p):OSX1 D sc fuel (.AugAssign (.Name n np) op value pos) (.aug x op p):=fun {A env ρ μ so s r R E} C hd hR =>
  bndK hd fun a ha hd=>bnd2 hd fun v so₁ hv hd=>ifP hd fun hop hd=>mapK hd fun v' hv' e=>by
  cases e
  exact wpAny_AugAssign_Name (C.load hx hl ha fun w hw=>h C hv fun u s₁ μ₁ a₁ hu=>oinplace a₁ hop (hw.pre a₁.t.pre) hu hv' fun z s₂ μ₂ a₂ hz=>(C.go a₂).store hnd hx hl hz fun s₃ a₃ E₃=>hR _ s₃ μ₂ ((C.inL a₂).trans a₃) ⟨rfl,E₃⟩)
theorem osx_augA {c:Nat} {C':Addr} {a:Str} {op:Operator} (hK:∀ h,D.Z.TabI h→K.In h) (hC:D.cA c = some C') (hok:setOk K C' a = true) (hgo:getOk K C' a = true) (ho:OSE D sc o q) (h:OSE D sc value p) :
    OSX1 D sc fuel (.AugAssign (.Attribute o a apos) op value pos) (.augA c q a op p):=fun {A env ρ μ so s r R E} C hd hR =>
  bnd2 hd fun u so₁ hu hd=>bnd2 hd fun k es hi hd=>bndK hd fun old hold hd=>bnd2 hd fun v so₂ hv hd=>ifP hd fun hop hd=>bndK hd fun v' hv' hd=>mapK hd fun so₃ h3 e=>by
  cases e
  exact wpAny_AugAssign_AttributeAny (ho C hu fun z s₁ μ₁ a₁ hz=>getO (hK _ a₁.i.tab) a₁.so hC hgo hi hold hz fun w hw=>h (C.go (a₁.tok _)) hv fun y s₂ μ₂ a₂ hy =>
    oinplace (.here a₂.i a₂.so) hop (hw.pre a₂.t.pre) hy hv' fun x s₃ μ₃ a₃ hx=>setO (hK _ a₃.i.tab) (((a₁.tok _).trans a₂).trans a₃) hC hok h3 ((hz.pre a₂.t.pre).pre a₃.t.pre) hx fun s₄ a₄=>C.next hR a₄)
theorem osx_expr {e:Expr} (hc:isComp e = false) (h:OSE D sc e p):OSX1 D sc fuel (.Expr e pos) (.expr p):=fun {A env ρ μ so s r R E} C hd hR=>bnd2 hd fun v so₁ hv hd=>oDatK hd fun x ex hd=>by
  cases hd
  have ex:v = .d x:=ex
  subst ex
  have hint:interactive env = false:=by unfold interactive; rw [C.he.kind]; rfl
  exact wpAny_Expr (h C hv fun w s₁ μ₁ a₁ hw=>have:=C.next hR a₁; by obtain ⟨r,_⟩:=hw; cases r <;> exact this) hint (swaps_none hc _ _ _)
theorem osx_ret {e:Expr} (h:OSE D sc e p):OSX1 D sc fuel (.Return (some e) pos) (.ret p):=fun {A env ρ μ so s r R E} C hd hR=>mapK hd fun v hv e=>by
  cases e
  exact wpAny_Return_some (h C hv fun w s₁ μ₁ a₁ hw=>hR _ _ _ (C.inL a₁) ⟨w,rfl,hw⟩)
theorem osx_if {t:Expr} {b1 b2:List Stmt} {c:OE} {p1 p2:OSs} (hc:OST D sc t c) (h1:OSX D sc fuel b1 p1) (h2:OSX D sc fuel b2 p2):OSX1 D sc fuel (.If t b1 b2 pos) (.ife c p1 p2):=fun {A env ρ μ so s r R E} C hd hR=>bnd2 hd fun b so₁ hv hd =>
  wpAny_If (hc C hv fun s₁ μ₁ a₁=>by
    cases b with
    | true=>exact h1 (C.go a₁) hd (hR.from_ (C.inL a₁))
    | false=>exact h2 (C.go a₁) hd (hR.from_ (C.inL a₁)))
theorem osx_assert {t:Expr} {m:Option Expr} {c:OE} (hc:OST D sc t c):OSX1 D sc fuel (.Assert t m pos) (.asrt c):=fun {A env ρ μ so s r R E} C hd hR=>bnd2 hd fun b so₁ hv hd=>ifP hd fun hb e=>by
  cases e
  exact wpAny_Assert_holds (hc C hv fun s₁ μ₁ a₁=>⟨hb,C.next hR a₁⟩)
theorem osx_brk:OSX1 D sc fuel (.Break pos) .brk:=fun {A env ρ μ so s r R E} C hd hR=>by
  cases hd
  exact wpAny_Break (hR _ _ _ (C.inL C.at) ⟨rfl,C.he⟩)
theorem osx_cont:OSX1 D sc fuel (.Continue pos) .cont:=fun {A env ρ μ so s r R E} C hd hR=>by
  cases hd
  exact wpAny_Continue (hR _ _ _ (C.inL C.at) ⟨rfl,C.he⟩)
theorem osx_while {t:Expr} {b:List Stmt} {c:OE} {ps:OSs} (hc:OST D sc t c) (h:OSX D sc fuel b ps):OSX1 D sc fuel (.While t b [] pos) (.while_ c ps):=fun {A env ρ μ so s r R E} C hd hR=>by
  refine wpAny_While (codeAny_whileLoop (fun n s'=>∃ ρ' μ' so',OAt D.Z D.cA (· = env.locals) μ s.heap μ' so' s' ∧ OEnv D.Z D.nm env ρ' μ' s'.heap ∧ whileO (ovT D.cl D.ex c) (oxSs D.cl D.ex fuel ps) n ρ' so' = some r) ?_ fuel ⟨ρ,μ,so,C.inL C.at,C.he,hd⟩)
  rintro n s₀ ⟨ρ',μ',so',a,E',hw⟩
  cases n with
  | zero=>cases hw
  | succ n =>
    have C':=C.to a E'
    exact bnd2 hw fun tb so₁ hv hw=>hc C' hv fun s₁ μ₁ a₁=>by
      have a₂:=a.trans (C'.inL a₁)
      cases tb with
      | false =>
        cases hw
        exact wpAny_execs_nil (hR _ _ _ a₂ ⟨rfl,E'.step a₁.t⟩)
      | true =>
        exact bnd2 hw fun f so₂ hb hw=>h (C'.go a₁) hb fun fl s₂ μ₂ a₃ g=>by
          cases f with
          | next ρ₂=>obtain ⟨rfl,e⟩:=g; exact ⟨n,Nat.lt_succ_self n,ρ₂,μ₂,so₂,a₂.trans a₃,e,hw⟩
          | cont ρ₂=>obtain ⟨rfl,e⟩:=g; exact ⟨n,Nat.lt_succ_self n,ρ₂,μ₂,so₂,a₂.trans a₃,e,hw⟩
          | brk ρ₂=>obtain ⟨rfl,e⟩:=g; cases hw; exact hR _ _ _ (a₂.trans a₃) ⟨rfl,e⟩
          | ret v=>obtain ⟨w,rfl,e⟩:=g; cases hw; exact hR _ _ _ (a₂.trans a₃) ⟨w,rfl,e⟩
end
section
variable (K:Frag) (cA fA:Nat→Option Addr) (xc:Nat→Scope→Expr→Bool) (nm:List Str)
noncomputable def lclO (sc:Scope) (x:Nat) (n:Str):Bool:=nm[x]? == some n && sc.names.lookup n == some .local
mutual
noncomputable def chkOS (sc:Scope):OS→Stmt→Bool
  | .assign x p,st=>onStAssign st fun ts v _=>on1 ts fun t=>onName t fun n _=>lclO nm sc x n && (!isComp v && chkOE K cA fA xc nm sc p v)
  | .assign2 x y a b,st=>onStAssign st fun ts v _=>on1 ts fun t=>onTuple t fun ns _ _=>onC ns fun t1 r=>on1 r fun t2=>onName t1 fun n _=>onName t2 fun m _=>onTuple v fun es _ _=>onC es fun ea r=>on1 r fun eb =>
      x != y && (lclO nm sc x n && (lclO nm sc y m && (!isStarred ea && (!isStarred eb && (!(!([ea,eb].all (foldedForSure 8)) && [ea,eb].all (constantsAlone 8)) && (chkOE K cA fA xc nm sc a ea && chkOE K cA fA xc nm sc b eb))))))
  | .setA c o a p,st=>onStAssign st fun ts v _=>on1 ts fun t=>onAttribute t fun x n _=>n == a && (onS (cA c) (fun C=>setOk K C a) && (!isComp v && (chkOE K cA fA xc nm sc o x && chkOE K cA fA xc nm sc p v)))
  | .aug x op p,st=>onStAugAssign st fun t o v _=>o == op && onName t fun n _=>lclO nm sc x n && chkOE K cA fA xc nm sc p v
  | .augA c q a op p,st=>onStAugAssign st fun t o v _=>o == op && onAttribute t fun x n _=>n == a && (onS (cA c) (fun C=>setOk K C a && getOk K C a) && (chkOE K cA fA xc nm sc q x && chkOE K cA fA xc nm sc p v))
  | .expr p,st=>onStExpr st fun e _=>!isComp e && chkOE K cA fA xc nm sc p e
  | .ife c a b,st=>onStIf st fun t b1 b2 _=>chkOE K cA fA xc nm sc c t && (chkOSs sc a b1 && chkOSs sc b b2)
  | .while_ c b,st=>onStWhile st fun t b1 b2 _=>b2.isEmpty && (chkOE K cA fA xc nm sc c t && chkOSs sc b b1)
  | .ret p,st=>onStReturn st fun e _=>onS e fun e=>chkOE K cA fA xc nm sc p e
  | .brk,st=>st.ctorIdx == 26
  | .cont,st=>st.ctorIdx == 27
  | .asrt c,st=>onStAssert st fun t _ _=>chkOE K cA fA xc nm sc c t
  | .stuck,_=>true
noncomputable def chkOSs (sc:Scope):OSs→List Stmt→Bool
  | .nil,ss=>ss.isEmpty
  | .cons p ps,ss=>p.ctorIdx == 12 || onC ss fun st r=>chkOS sc p st && chkOSs sc ps r
end
end
section
variable {D:OD} {K:Frag} {fA:Nat→Option Addr} {xc:Nat→Scope→Expr→Bool}
mutual
theorem soundOS (X:OCx D K fA xc) (hnd:D.nm.Nodup) (fuel:Nat):∀ (p:OS) {sc:Scope} {st:Stmt},chkOS K D.cA fA xc D.nm sc p st = true→OSX1 D sc fuel st p
  | .assign x p,sc,st,h=>by
    apply onStAssignK h; intro ts v pos h
    apply on1K h; intro t h
    apply onNameK h; intro n q h
    refine andK h fun h1 h=>andK h fun h2 h=>?_
    exact osx_assign hnd (eq_of_beq (andT h1).1) (eq_of_beq (andT h1).2) (notT h2) (soundOE X p h).1
  | .assign2 x y a b,sc,st,h=>by
    apply onStAssignK h; intro ts v pos h
    apply on1K h; intro t h
    apply onTupleK h; intro ns k q h
    apply onCK h; intro t1 r h
    apply on1K h; intro t2 h
    apply onNameK h; intro n q1 h
    apply onNameK h; intro m q2 h
    apply onTupleK h; intro es k' q' h
    apply onCK h; intro ea r' h
    apply on1K h; intro eb h
    refine andK h fun h1 h=>andK h fun h2 h=>andK h fun h3 h=>andK h fun h4 h=>andK h fun h5 h=>andK h fun h6 h=>?_
    exact osx_assign2 hnd (bne_iff_ne.mp h1) (eq_of_beq (andT h2).1) (eq_of_beq (andT h3).1) (eq_of_beq (andT h2).2) (eq_of_beq (andT h3).2) (notT h4) (notT h5) (notT h6) (soundOE X a (andT h).1).1 (soundOE X b (andT h).2).1
  | .setA c o a p,sc,st,h=>by
    apply onStAssignK h; intro ts v pos h
    apply on1K h; intro t h
    apply onAttributeK h; intro x n q h
    refine andK h fun z h=>andK h fun h1 h=>andK h fun h2 h=>?_; apply beqK z
    obtain ⟨C,hC,h1⟩:=onSE h1
    exact osx_setA X.k hC h1 (notT h2) (soundOE X o (andT h).1).1 (soundOE X p (andT h).2).1
  | .aug x op p,sc,st,h=>by
    apply onStAugAssignK h; intro t o v pos h
    refine andK h fun z h=>?_; apply beqK z
    apply onNameK h; intro n q h
    exact osx_aug hnd (eq_of_beq (andT (andT h).1).1) (eq_of_beq (andT (andT h).1).2) (soundOE X p (andT h).2).1
  | .augA c q a op p,sc,st,h=>by
    apply onStAugAssignK h; intro t o v pos h
    refine andK h fun z h=>?_; apply beqK z
    apply onAttributeK h; intro x n q' h
    refine andK h fun z h=>andK h fun h1 h=>?_; apply beqK z
    obtain ⟨C,hC,h1⟩:=onSE h1
    exact osx_augA X.k hC (andT h1).1 (andT h1).2 (soundOE X q (andT h).1).1 (soundOE X p (andT h).2).1
  | .expr p,sc,st,h=>by
    apply onStExprK h; intro e pos h
    exact osx_expr (notT (andT h).1) (soundOE X p (andT h).2).1
  | .ife c a b,sc,st,h=>by
    apply onStIfK h; intro t b1 b2 pos h
    exact osx_if (soundOE X c (andT h).1).2 (soundOSs X hnd fuel a (andT (andT h).2).1) (soundOSs X hnd fuel b (andT (andT h).2).2)
  | .while_ c b,sc,st,h=>by
    apply onStWhileK h; intro t b1 b2 pos h
    refine andK h fun z h=>?_; apply nilK z
    exact osx_while (soundOE X c (andT h).1).2 (soundOSs X hnd fuel b (andT h).2)
  | .ret p,sc,st,h=>by
    apply onStReturnK h; intro e pos h
    apply onSK h; intro e h
    exact osx_ret (soundOE X p h).1
  | .brk,sc,st,h=>Stmt.Break.elim (motive_2:=fun st=>OSX1 D sc fuel st .brk) st (eq_of_beq h) fun _=>osx_brk
  | .cont,sc,st,h=>Stmt.Continue.elim (motive_2:=fun st=>OSX1 D sc fuel st .cont) st (eq_of_beq h) fun _=>osx_cont
  | .asrt c,sc,st,h=>by
    apply onStAssertK h; intro t m pos h
    exact osx_assert (soundOE X c h).2
  | .stuck,sc,st,h=>fun _ hd=>(nomatch hd)
theorem soundOSs (X:OCx D K fA xc) (hnd:D.nm.Nodup) (fuel:Nat):∀ (p:OSs) {sc:Scope} {ss:List Stmt},chkOSs K D.cA fA xc D.nm sc p ss = true→OSX D sc fuel ss p
  | .nil,sc,ss,h=>by apply nilK h; exact osx_nil
  | .cons p ps,sc,ss,h=>by
    refine (Bool.or_eq_true_iff.mp h).elim (fun h=>?_) fun h=>?_
    · exact OS.stuck.elim (motive_1:=fun p=>OSX D sc fuel ss (.cons p ps)) p (eq_of_beq h) (fun _ hd=>(nomatch hd))
    · apply onCK h; intro st r h
      exact osx_cons (soundOS X hnd fuel p (andT h).1) (soundOSs X hnd fuel ps (andT h).2)
end
end
end Kt
end
section
open PySem PySem.W PyProof.Rows PySem.Calls
namespace Kt
theorem getLe {α:Type} {l:List α} {i:Nat} {a:α} (e:l[i]? = some a):i < l.length:=(List.getElem?_eq_some_iff.mp e).1
theorem sub_dflt {a d n:Nat} (h1:a ≤ n) (h2:n ≤ a + d):a + (d - (d + a - n)) = n:=by
  obtain ⟨j,rfl⟩:=Nat.exists_eq_add_of_le h1
  rw [Nat.add_comm d a,Nat.add_sub_add_left,Nat.sub_sub_self (Nat.le_of_add_le_add_left h2)]
structure OFnAt (Z:Zone) (a:Addr) (fd:FuncData) (body:List Stmt) (nm:List Str) (pf:OF):Prop where
  lam:nm.length = 14→fd.code = Z.lam
  obj:∃ o,Z.h₀.get? a = some o ∧ o.cls ≠ .none ∧ o.data = .func fd
  body:fd.body = .stmts body
  clo:fd.closure = []
  kind:fd.scope.kind = .function
  co:fd.scope.isCoroutine = false
  gen:fd.scope.isGenerator = false
  glob:fd.globals = mainGlobals
  blt:fd.builtins = builtinsNs
  code:∃ c oc vs t,fd.code = .ref c ∧ Z.h₀.get? c = some oc ∧ oc.cls ≠ .none ∧ oc.data = .fields vs ∧ vs[1]? = some (.str fd.qualname t)
  bind:∃ dv:List Value,VEs [] dv (pf.dflt.map .d) ∧ ∀ (s:Shared) (vals:List Value),Z.TabI s.heap→vals.length ≤ pf.arity→pf.arity ≤ vals.length + dv.length→BindsTo s fd ⟨vals,[]⟩ ((nm.take pf.arity).zip (vals ++ dv.drop (dv.length + vals.length - pf.arity)))
  len:pf.arity ≤ nm.length
  nd:nm.Nodup
  nocell:∀ p ∈ fd.scope.names,p.2 ≠ .cell ∧ p.2 ≠ .free
  params:∀ n ∈ nm.take pf.arity,fd.scope.names.lookup n = some .local
section
variable {prog:Program} {w:World} {A:Around} {s:Shared}
theorem codeAny_call_binds {R:Result→Shared→Prop} {a:Addr} {o:Obj} {fd:FuncData} {body:List Stmt} {args:Args} {binds:List (Str × Value)}
    (hroom:A.depth < recursionLimit) (ho:s.heap.get? a = some o) (hdata:o.data = .func fd) (hlim:s.heap.NoLimit) (hcd:s.heap.CodeRec fd.code fd.qualname)
    (hbody:fd.body = .stmts body) (hbind:BindsTo s fd args binds) (hclo:fd.closure = [])
    (hkind:∀ x ∈ binds,fd.scope.names.lookup x.1 = some .local ∨ (fd.scope.names.lookup x.1 = some .cell ∧ ((cellsFrom (s.heap.objs.size + 1) fd.scope.names []).lookup x.1).isSome = true))
    (h:∀ s₁,InCallC s (callEnvC fd s.heap.objs.size a).locals (bindL (callEnvC fd s.heap.objs.size a).kindOf binds fun _=>none) (callEnvC fd s.heap.objs.size a).cells
        (bindC (callEnvC fd s.heap.objs.size a).kindOf binds fun _=>none) s₁ →
      wpAny (model prog w) (A.deeper (callEnvC fd s.heap.objs.size a)) (execs body (callEnvC fd s.heap.objs.size a)) (fun f s'=>R (.ok (.ret (match f with | .ret v=>v | _=>.none))) s')
        (fun e s'=>wpAny (model prog w) (A.deeper (callEnvC fd s.heap.objs.size a)) (leaving (callEnvC fd s.heap.objs.size a) e) (fun _ s''=>R (.error e) s'') (fun e' s''=>R (.error e') s'') s') s₁)
    (hco:fd.scope.isCoroutine = false) (hgen:fd.scope.isGenerator = false) (hk:fd.scope.kind = .function) :
    codeAny (model prog w) A (.call (.ref a) args) R s:=by
  refine codeAny_call_function hroom ho hdata hco hgen hbody hcd (hbind _ _ _ _ ?_)
  rw [hclo]
  refine wpAny_newFunctionEnv_cells hk hkind fun env he s' x=>?_
  subst he
  exact ⟨hlim.keeps x.toInCall.keep,codeAny_func (h s' x)⟩
end
abbrev OD.at (D:OD) (fr:List Addr):OD:={ D with Z:=D.Z.at fr }
section
variable {D:OD} {K:Frag} {fA:Nat→Option Addr} {xc:Nat→Scope→Expr→Bool} {a:Addr} {fd:FuncData} {body:List Stmt} {pf:OF} {nm:List Str} {st st':St} {μ:List Addr} {A:Around} {s:Shared} {R:Result→Shared→Prop} {ρ:LO} {all:List Value} {as:Args}
noncomputable def Vals (μ:List Addr) (all:List Value) (ρ:LO):Prop:=∀ (x:Nat) (v:OV),(ρ[x]?).join = some v→∃ w,all[x]? = some w ∧ VE μ w v
theorem vals_of {vs:List Value} {xs:List OV} {k:Nat} (h:VEs μ vs xs):Vals μ vs (xs.map some ++ List.replicate k none):=fun x v hx=>by
  rw [List.getElem?_append] at hx
  by_cases c:x < (xs.map some).length
  · rw [if_pos c,List.getElem?_map] at hx
    cases e:xs[x]? with
    | none=>rw [e] at hx; cases hx
    | some u =>
      rw [e] at hx
      cases (show some u = some v from hx)
      exact h.get e
  · rw [if_neg c,List.getElem?_replicate] at hx
    by_cases c:x - (xs.map some).length < k
    · rw [if_pos c] at hx; cases hx
    · rw [if_neg c] at hx; cases hx
theorem OFnAt.binds (F:OFnAt D.Z a fd body nm pf) (I:Inv D.Z s) {vs:List Value} {args:List OV} (hvs:VEs μ vs args) (hf:fillO pf args = some ρ) :
    ∃ all,BindsTo s fd ⟨vs,[]⟩ ((nm.take pf.arity).zip all) ∧ all.length = pf.arity ∧ Vals μ all ρ:=ifP hf fun hc e=>by
  cases e
  obtain ⟨hc,h4⟩:=andT (andT hc).1
  obtain ⟨h1,h2⟩:=andT (andT hc).1
  obtain ⟨dv,hdv,hb⟩:=F.bind
  have hvl:=hvs.length
  have hdl:dv.length = pf.dflt.length:=hdv.length.trans (List.length_map _)
  have h1:=hvl ▸ of_decide_eq_true h1
  have h2:pf.arity ≤ vs.length + dv.length:=by rw [hvl,hdl]; exact of_decide_eq_true h2
  refine ⟨_,hb s vs I.tab h1 h2,by rw [List.length_append,List.length_drop]; exact sub_dflt h1 h2,vals_of (hvs.append ?_)⟩
  rw [List.map_drop,hvl,hdl]
  exact (hdv.pre List.nil_prefix).drop _
theorem OFnAt.at (F:OFnAt D.Z a fd body nm pf) (fr:List Addr):OFnAt (D.Z.at fr) a fd body nm pf:={ F with }
theorem oframe (F:OFnAt D.Z a fd body D.nm pf) (hb:BindsTo s fd as ((D.nm.take pf.arity).zip all)) (hall:all.length = pf.arity) (hval:Vals μ all ρ)
    (hA:AOk D.Z (8 * (D.lvl + 1)) A) (hI:Inv D.Z s) (hsz:D.Z.n ≤ s.heap.objs.size) (S:Sto D.Z D.cA μ st s.heap)
    (H:∀ (env:Env) (s₁:Shared),env.frame = some env.locals→Oc (D.at (env.locals :: D.Z.fr)) fd.scope (A.deeper env) env ρ μ st s₁ →
      (∀ {μ':List Addr} {so:St} {s':Shared},OAt (D.Z.at (env.locals :: D.Z.fr)) D.cA (· = env.locals) μ s₁.heap μ' so s'→OAt D.Z D.cA noL μ s.heap μ' so s') →
      (env = callEnvC fd s.heap.objs.size a ∧ (∀ b o,s.heap.get? b = some o→s₁.heap.get? b = some o) ∧ ∃ m,s₁.heap.Ns env.locals m ∧ ∀ (x:Nat) n,(D.nm.take pf.arity)[x]? = some n→m n = all[x]?) →
      wpAny (model D.Z.prog D.Z.w) (A.deeper env) (execs body env) (fun f s'=>R (.ok (.ret (match f with | .ret v=>v | _=>.none))) s')
        (fun e s'=>wpAny (model D.Z.prog D.Z.w) (A.deeper env) (leaving env e) (fun _ s''=>R (.error e) s'') (fun e' s''=>R (.error e') s'') s') s₁):codeAny (model D.Z.prog D.Z.w) A (.call (.ref a) as) R s:=by
  obtain ⟨c,oc,cvs,ct,hc1,hc2,hc3,hc4,hc5⟩:=F.code
  obtain ⟨o,ho1,ho2,ho3⟩:=F.obj
  have hnl:(D.nm.take pf.arity).length = pf.arity:=by rw [List.length_take]; exact Nat.min_eq_left F.len
  have hbn:(((D.nm.take pf.arity).zip all).map (·.1)) = D.nm.take pf.arity:=List.map_fst_zip (by rw [hnl,hall]; exact Nat.le_refl _)
  have htnd:(D.nm.take pf.arity).Nodup:=F.nd.sublist (List.take_sublist _ _)
  refine codeAny_call_binds (by have:=hA.depth; omega) (hI.old.get_of_cls ho1 ho2) ho3 hI.lim ⟨c,oc,cvs,ct,hc1,hI.old.get_of_cls hc2 hc3,hc4,hc5⟩ F.body hb F.clo (fun p hp=>.inl (F.params _ (hbn ▸ List.mem_map_of_mem hp))) (fun s₁ X₁=>?_) F.co F.gen F.kind
  have hkeep:=X₁.toInCall.keep
  have hns:=X₁.toInCall.ns
  have hat:∀ (x:Nat) n,(D.nm.take pf.arity)[x]? = some n→bindL (callEnvC fd s.heap.objs.size a).kindOf ((D.nm.take pf.arity).zip all) (fun _=>none) n = all[x]?:=fun x n hx=>by
    rw [bindL_at _ _ _ (by rw [hbn]; exact htnd),if_pos (show (callEnvC fd s.heap.objs.size a).kindOf n = some .local from F.params n (List.mem_of_getElem? hx)),zip_lookup _ _ x n htnd hx]
    cases all[x]? <;> rfl
  have hI₀:Inv D.Z s₁:=by
    obtain ⟨h',tk,rfl⟩:=X₁.toInCall.same
    exact hI.full hkeep
  have hLnone:s.heap.get? s.heap.objs.size = none:=get?_ge (Nat.le_refl _)
  have hLμ:∀ a ∈ μ,a ≠ s.heap.objs.size:=fun a ha e=>let ⟨o,e'⟩:=S.live a ha; nomatch (e ▸ hLnone).symm.trans e'
  refine H (callEnvC fd s.heap.objs.size a) s₁ rfl ⟨?_,⟨fun m h=>h,fun m h=>h,fun m h=>h⟩,?_,?_,?_⟩ (fun {μ' so s'} b=>⟨?_,?_,?_⟩) ⟨rfl,hkeep,_,hns,hat⟩
  · refine ⟨hA.handled,by have:=hA.depth; show A.depth + 1 + (8 * D.lvl + 7) + 20 < _; omega,by have:=hA.units; show A.units + 3 + 3 * (8 * D.lvl + 7) + 200 < _; omega,?_⟩
    obtain ⟨fs,h1,h2⟩:=hA.frames
    refine ⟨callEnvC fd s.heap.objs.size a :: fs,by show A.frames.map _ = _; rw [h1]; rfl,fun e he=>(List.mem_cons.mp he).elim (fun e'=>?_) fun he=>let ⟨g1,L,g2,g3⟩:=h2 e he; ⟨g1,L,g2,List.mem_cons_of_mem _ g3⟩⟩
    subst e'
    exact ⟨by show fd.scope.kind ≠ .module; rw [F.kind]; nofun,_,rfl,List.mem_cons_self⟩
  · refine ⟨F.lam,F.kind,F.glob,F.blt,hsz,fun h=>hLμ _ h rfl,_,hns,fun x v n h1 h2=>?_⟩
    obtain ⟨w,hw,hwv⟩:=hval x v h1
    exact ⟨w,(hat x n (by rw [List.getElem?_take,if_pos (hall ▸ getLe hw)]; exact h2)).trans hw,hwv⟩
  · refine ⟨hI₀.old,hI₀.lim,hI₀.tab,hI₀.gens,hI₀.os,fun L hL=>(List.mem_cons.mp hL).elim (fun e=>?_) (hI₀.frs L)⟩
    obtain ⟨o,es,ep,e',hdd,_⟩:=hns
    subst e
    exact ⟨hsz,o,e',es,ep,hdd⟩
  · exact ⟨S.len,S.nd,fun a ha=>⟨(S.hi a ha).1,fun hm=>(List.mem_cons.mp hm).elim (hLμ a ha) (S.hi a ha).2⟩,fun k a f h1 h2=>(S.at_ k a f h1 h2).sl List.prefix_rfl fun o e=>.inl (hkeep a o e)⟩
  · exact ⟨b.i.old,b.i.lim,b.i.tab,b.i.gens,b.i.os,fun L hL=>b.i.frs L (List.mem_cons_of_mem _ hL)⟩
  · exact ⟨b.t.pre,fun c o e cl hb _=>b.t.keep c o (hkeep c o e) cl hb (fun e'=>by rw [show c = s.heap.objs.size from e',hLnone] at e; cases e),fun c hc hn=>let ⟨h1,h2,_⟩:=b.t.new c hc hn; ⟨h1,notThere (fun o e=>nomatch h2.symm.trans (hkeep c o e)),id⟩⟩
  · exact ⟨b.so.len,b.so.nd,fun c hc=>⟨(b.so.hi c hc).1,fun hm=>(b.so.hi c hc).2 (List.mem_cons_of_mem _ hm)⟩,b.so.at_⟩
theorem ocall_binds {fuel:Nat} {v:OV} (X:∀ fr,OCx (D.at fr) K fA xc) (F:OFnAt D.Z a fd body D.nm pf) (hck:chkOSs K D.cA fA xc D.nm fd.scope pf.body body = true)
    (hb:BindsTo s fd as ((D.nm.take pf.arity).zip all)) (hall:all.length = pf.arity) (hval:Vals μ all ρ) (hd:retO (oxSs D.cl D.ex fuel pf.body ρ st) = some (v,st'))
    (hA:AOk D.Z (8 * (D.lvl + 1)) A) (hI:Inv D.Z s) (hsz:D.Z.n ≤ s.heap.objs.size) (S:Sto D.Z D.cA μ st s.heap) (hR:OGot D.Z D.cA μ s.heap st' v (fun w s'=>R (.ok (.ret w)) s')):codeAny (model D.Z.prog D.Z.w) A (.call (.ref a) as) R s :=
  oframe F hb hall hval hA hI hsz S fun env s₁ _ C out _=>by
  cases hx:oxSs D.cl D.ex fuel pf.body ρ st with
  | none=>rw [hx] at hd; cases hd
  | some r =>
    rw [hx] at hd
    refine soundOSs (D:=D.at (env.locals :: D.Z.fr)) (X _) F.nd fuel pf.body hck C hx fun fl s' μ' a' g=>?_
    obtain ⟨f,so⟩:=r
    cases f with
    | next ρ'=>cases hd; obtain ⟨rfl,_⟩:=g; exact hR .none s' μ' (out a') ve_none
    | ret u=>cases hd; obtain ⟨w,rfl,hw⟩:=g; exact hR w s' μ' (out a') hw
    | brk ρ'=>cases hd
    | cont ρ'=>cases hd
theorem ocall_fn {fuel:Nat} {v:OV} {args:List OV} {vs:List Value} (X:∀ fr,OCx (D.at fr) K fA xc) (F:OFnAt D.Z a fd body D.nm pf) (hck:chkOSs K D.cA fA xc D.nm fd.scope pf.body body = true)
    (hfill:fillO pf args = some ρ) (hd:retO (oxSs D.cl D.ex fuel pf.body ρ st) = some (v,st'))
    (hA:AOk D.Z (8 * (D.lvl + 1)) A) (hI:Inv D.Z s) (hsz:D.Z.n ≤ s.heap.objs.size) (S:Sto D.Z D.cA μ st s.heap) (hvs:VEs μ vs args) (hR:OGot D.Z D.cA μ s.heap st' v (fun w s'=>R (.ok (.ret w)) s')):codeAny (model D.Z.prog D.Z.w) A (.call (.ref a) ⟨vs,[]⟩) R s :=
  let ⟨_,hb,hall,hval⟩:=F.binds hI hvs hfill; ocall_binds X F hck hb hall hval hd hA hI hsz S hR
end
section
variable {Z:Zone} {cA fA:Nat→Option Addr} {K:Frag} {xc:List Str→Nat→Scope→Expr→Bool} {tab:Nat→Option OF} {prim:OCl→OCl} {ex:OCl→Nat→LO→St→Option (OV × St)} {fuel:Nat}
noncomputable def OTabOk (Z:Zone) (K:Frag) (cA fA:Nat→Option Addr) (xc:List Str→Nat→Scope→Expr→Bool) (tab:Nat→Option OF):Prop :=
  ∀ f pf a,tab f = some pf→fA f = some a→kwO f = [] ∧ ∃ fd body nm,OFnAt Z a fd body nm pf ∧ chkOSs K cA fA (xc nm) nm fd.scope pf.body body = true
noncomputable def OPrimOk (Z:Zone) (cA fA:Nat→Option Addr) (tab:Nat→Option OF) (prim:OCl→OCl):Prop :=
  ∀ (cl:OCl) (lvl:Nat),(∀ fr,OCallOk (Z.at fr) cA cl lvl fA)→∀ {fr:List Addr} {f:Nat} {a:Addr} {args:List OV} {st:St} {v:OV} {st':St},tab f = none→fA f = some a→prim cl f args st = some (v,st') →
    ∀ {A:Around} {s:Shared} {vs:List Value} {μ:List Addr} {R:Result→Shared→Prop},AOk (Z.at fr) (8 * (lvl + 2)) A→Inv (Z.at fr) s→Z.n ≤ s.heap.objs.size→Sto (Z.at fr) cA μ st s.heap→VEs μ vs args →
      OGot (Z.at fr) cA μ s.heap st' v (fun w s'=>R (.ok (.ret w)) s')→codeAny (model Z.prog Z.w) A (.call (.ref a) (argsO f vs)) R s
noncomputable def OExtOk (Z:Zone) (cA fA:Nat→Option Addr) (xc:List Str→Nat→Scope→Expr→Bool) (ex:OCl→Nat→LO→St→Option (OV × St)):Prop :=
  ∀ (cl:OCl) (lvl:Nat),(∀ fr,OCallOk (Z.at fr) cA cl lvl fA)→∀ fr nm j sc e,xc nm j sc e = true→OSE ⟨Z.at fr,cA,cl,ex cl,lvl + 1,nm⟩ sc e (.ext j)
theorem OCallOk.up {cl:OCl} {l l':Nat} (h:OCallOk Z cA cl l fA) (hl:l ≤ l'):OCallOk Z cA cl l' fA :=
  fun {f a args st v st'} h1 h2 {A s vs μ R} hA=>h h1 h2 (hA.mono (Nat.mul_le_mul_left 8 hl))
theorem ocallOk (hK:∀ h,Z.TabI h→K.In h) (hK0:K.In Z.h₀) (hB:OBiOk Z) (hT:OTabOk Z K cA fA xc tab) (hP:OPrimOk Z cA fA tab prim) (hX:OExtOk Z cA fA xc ex)  (lvl:Nat):∀ fr,OCallOk (Z.at fr) cA (runO tab prim ex fuel lvl) (2 * lvl) fA:=by
  induction lvl with
  | zero=>intro fr f a args st v st' _ h; cases h
  | succ lvl ih =>
    intro fr f a args st v st' hf h A s vs μ R hA hI hsz S hvs hR
    have h:(match tab f with
      | some pf=>(fillO pf args).bind fun ρ=>retO (oxSs (runO tab prim ex fuel lvl) (ex (runO tab prim ex fuel lvl)) fuel pf.body ρ st)
      | none=>prim (runO tab prim ex fuel lvl) f args st) = some (v,st'):=h
    cases ht:tab f with
    | none =>
      rw [ht] at h
      exact hP _ (2 * lvl) ih ht hf h hA hI hsz S hvs hR
    | some pf =>
      rw [ht] at h
      exact bndK h fun ρ hfill hd=>by
        obtain ⟨hkw,fd,body,nm,F,hck⟩:=hT f pf a ht hf
        rw [argsO_nil hkw]
        exact ocall_fn (D:=⟨Z.at fr,cA,runO tab prim ex fuel lvl,ex (runO tab prim ex fuel lvl),2 * lvl + 1,nm⟩) (xc:=xc nm) (fun fr'=>⟨hK,hK0,hB,OCallOk.up (ih fr') (Nat.le_succ _),fun j sc e hx=>hX _ (2 * lvl) ih fr' nm j sc e hx⟩)
          (OFnAt.at (D:=⟨Z,cA,runO tab prim ex fuel lvl,ex (runO tab prim ex fuel lvl),2 * lvl + 1,nm⟩) F fr) hck hfill hd hA hI hsz S hvs hR
end
end Kt
end
section
open PySem PySem.W PyProof.Rows
namespace Kt
noncomputable def o_fn0:OF:=⟨2,2,[],(.cons (.ife (.bool true (.cmp .IsNot (.typ (.var 0)) (.ty "int")) (.cmp .IsNot (.typ (.var 0)) (.ty "bool"))) (.cons (.expr .stuck) .nil) .nil) (.cons (.assign 0 (.intc (.var 0))) (.cons (.ife (.bool false (.cmp .Gt (.var 0) (.lit (.int 1099511627776))) (.cmp .Lt (.var 0) (.neg 1099511627776))) (.cons (.expr .stuck) .nil) .nil) (.cons (.ret (.var 0)) .nil))))⟩
noncomputable def o_nm0:List Str:=["n", "what"]
noncomputable def o_fn1:OF:=⟨4,2,[.int (-1)],(.cons (.ife (.cmp .Is (.var 1) (.lit .none)) (.cons (.assign 1 (.neg 1)) .nil) .nil) (.cons (.assign 1 (.call 0 (.cons (.var 1) (.cons (.lit (.str ("StringIO.read of a size that is no exact int" : Str))) .nil)))) (.cons (.expr (.mcall 1 (.var 0) ("_StringIO__check" : Str) 2 .nil)) (.cons (.assign 2 (.attr 1 (.var 0) ("_StringIO__pos" : Str))) (.cons (.assign 3 (.len (.attr 1 (.var 0) ("_StringIO__buf" : Str)))) (.cons (.ife (.cmp .GtE (.var 2) (.var 3)) (.cons (.ret (.lit (.str ("" : Str)))) .nil) .nil) (.cons (.ife (.bool true (.cmp .GtE (.var 1) (.lit (.int 0))) (.cmp .Lt (.bin .Add (.var 2) (.var 1)) (.var 3))) (.cons (.assign 3 (.bin .Add (.var 2) (.var 1))) .nil) .nil) (.cons (.setA 1 (.var 0) ("_StringIO__pos" : Str) (.var 3)) (.cons (.ret (.slc (.bin .Add (.slc (.attr 1 (.var 0) ("_StringIO__buf" : Str)) (.yes (.var 2)) (.yes (.var 3))) (.lit (.str (" " : Str)))) .no (.yes (.neg 1)))) .nil)))))))))⟩
noncomputable def o_nm1:List Str:=["self", "size", "start", "stop"]
noncomputable def o_fn2:OF:=⟨1,1,[],(.cons (.ife (.cmp .Is (.attr 1 (.var 0) ("_StringIO__buf" : Str)) (.lit .none)) (.cons .stuck .nil) .nil) .nil)⟩
noncomputable def o_nm2:List Str:=["self"]
noncomputable def o_fn3:OF:=⟨3,3,[.str ("" : Str),.str ("\n" : Str)],(.cons (.ife (.bool true (.cmp .IsNot (.var 2) (.lit .none)) (.cmp .IsNot (.typ (.var 2)) (.ty "str"))) (.cons (.expr .stuck) .nil) .nil) (.cons (.ife (.bool true (.cmp .IsNot (.var 2) (.lit .none)) (.bool true (.cmp .NotEq (.var 2) (.lit (.str ("" : Str)))) (.bool true (.cmp .NotEq (.var 2) (.lit (.str ("\n" : Str)))) (.bool true (.cmp .NotEq (.var 2) (.lit (.str ("\r" : Str)))) (.cmp .NotEq (.var 2) (.lit (.str ("\r\n" : Str)))))))) (.cons .stuck .nil) .nil) (.cons (.ife (.bool true (.cmp .IsNot (.var 1) (.lit .none)) (.cmp .IsNot (.typ (.var 1)) (.ty "str"))) (.cons (.expr .stuck) .nil) .nil) (.cons (.setA 1 (.var 0) ("_StringIO__newline" : Str) (.var 2)) (.cons (.setA 1 (.var 0) ("_StringIO__buf" : Str) (.lit (.str ("" : Str)))) (.cons (.setA 1 (.var 0) ("_StringIO__pos" : Str) (.lit (.int 0))) (.cons (.ife (.cmp .IsNot (.var 1) (.lit .none)) (.cons (.setA 1 (.var 0) ("_StringIO__buf" : Str) (.mcall 1 (.var 0) ("_StringIO__translated" : Str) 4 (.cons (.var 1) .nil))) .nil) .nil) .nil)))))))⟩
noncomputable def o_nm3:List Str:=["self", "initial_value", "newline"]
noncomputable def o_fn4:OF:=⟨3,2,[],(.cons (.assign 2 (.attr 1 (.var 0) ("_StringIO__newline" : Str))) (.cons (.ife (.cmp .Is (.var 2) (.lit .none)) (.cons (.ret (.repl (.repl (.var 1) (.lit (.str ("\r\n" : Str))) (.lit (.str ("\n" : Str)))) (.lit (.str ("\r" : Str))) (.lit (.str ("\n" : Str))))) .nil) .nil) (.cons (.ife (.bool false (.cmp .Eq (.var 2) (.lit (.str ("\r" : Str)))) (.cmp .Eq (.var 2) (.lit (.str ("\r\n" : Str))))) (.cons (.ret (.repl (.var 1) (.lit (.str ("\n" : Str))) (.var 2))) .nil) .nil) (.cons (.ret (.var 1)) .nil))))⟩
noncomputable def o_nm4:List Str:=["self", "s", "newline"]
noncomputable def o_fn5:OF:=⟨6,5,[.none,.none,.bool false,.bool false],(.cons (.ife (.isStr (.var 1)) (.cons (.assign 1 (.call 9 (.cons (.var 1) .nil))) .nil) .nil) (.cons (.ife (.cmp .IsNot (.var 1) (.lit .none)) (.cons (.setA 0 (.var 0) ("instream" : Str) (.var 1)) (.cons (.setA 0 (.var 0) ("infile" : Str) (.var 2)) .nil)) (.cons (.setA 0 (.var 0) ("instream" : Str) .stuck) (.cons (.setA 0 (.var 0) ("infile" : Str) (.lit .none)) .nil))) (.cons (.setA 0 (.var 0) ("posix" : Str) (.var 3)) (.cons (.ife (.var 3) (.cons (.setA 0 (.var 0) ("eof" : Str) (.lit .none)) .nil) (.cons (.setA 0 (.var 0) ("eof" : Str) (.lit (.str ("" : Str)))) .nil)) (.cons (.setA 0 (.var 0) ("commenters" : Str) (.lit (.str ("#" : Str)))) (.cons (.setA 0 (.var 0) ("wordchars" : Str) (.lit (.str ("abcdfeghijklmnopqrstuvwxyzABCDEFGHIJKLMNOPQRSTUVWXYZ0123456789_" : Str)))) (.cons (.ife (.attr 0 (.var 0) ("posix" : Str)) (.cons (.augA 0 (.var 0) ("wordchars" : Str) .Add (.lit (.str ("ßàáâãäåæçèéêëìíîïðñòóôõöøùúûüýþÿÀÁÂÃÄÅÆÇÈÉÊËÌÍÎÏÐÑÒÓÔÕÖØÙÚÛÜÝÞ" : Str)))) .nil) .nil) (.cons (.setA 0 (.var 0) ("whitespace" : Str) (.lit (.str (" \t\r\n" : Str)))) (.cons (.setA 0 (.var 0) ("whitespace_split" : Str) (.lit (.bool false))) (.cons (.setA 0 (.var 0) ("quotes" : Str) (.lit (.str ("'\"" : Str)))) (.cons (.setA 0 (.var 0) ("escape" : Str) (.lit (.str ("\\" : Str)))) (.cons (.setA 0 (.var 0) ("escapedquotes" : Str) (.lit (.str ("\"" : Str)))) (.cons (.setA 0 (.var 0) ("state" : Str) (.lit (.str (" " : Str)))) (.cons (.setA 0 (.var 0) ("pushback" : Str) (.ext 0)) (.cons (.setA 0 (.var 0) ("lineno" : Str) (.lit (.int 1))) (.cons (.setA 0 (.var 0) ("debug" : Str) (.lit (.int 0))) (.cons (.setA 0 (.var 0) ("token" : Str) (.lit (.str ("" : Str)))) (.cons (.setA 0 (.var 0) ("filestack" : Str) (.ext 0)) (.cons (.setA 0 (.var 0) ("source" : Str) (.lit .none)) (.cons (.ife (.nt (.var 4)) (.cons (.assign 4 (.lit (.str ("" : Str)))) .nil) (.cons (.ife (.cmp .Is (.var 4) (.lit (.bool true))) (.cons (.assign 4 (.lit (.str ("();<>|&" : Str)))) .nil) .nil) .nil)) (.cons (.setA 0 (.var 0) ("_punctuation_chars" : Str) (.var 4)) (.cons (.ife (.var 4) (.cons (.setA 0 (.var 0) ("_pushback_chars" : Str) (.ext 0)) (.cons (.augA 0 (.var 0) ("wordchars" : Str) .Add (.lit (.str ("~-./*?=" : Str)))) (.cons (.assign 5 .stuck) (.cons (.setA 0 (.var 0) ("wordchars" : Str) .stuck) .nil)))) .nil) .nil))))))))))))))))))))))⟩
noncomputable def o_nm5:List Str:=["self", "instream", "infile", "posix", "punctuation_chars", "t"]
noncomputable def o_c6_0:OE:=(.lit (.bool true))
noncomputable def o_w6_0:OSs:=(.cons (.ife (.bool true (.prop 0 (.var 0) ("punctuation_chars" : Str) 8) (.attr 0 (.var 0) ("_pushback_chars" : Str))) (.cons (.assign 4 .stuck) .nil) (.cons (.assign 4 (.mcall 1 (.attr 0 (.var 0) ("instream" : Str)) ("read" : Str) 1 (.cons (.lit (.int 1)) .nil))) .nil)) (.cons (.ife (.cmp .Eq (.var 4) (.lit (.str ("\n" : Str)))) (.cons (.augA 0 (.var 0) ("lineno" : Str) .Add (.lit (.int 1))) .nil) .nil) (.cons (.ife (.cmp .GtE (.attr 0 (.var 0) ("debug" : Str)) (.lit (.int 3))) (.cons (.expr .stuck) .nil) .nil) (.cons (.ife (.cmp .Is (.attr 0 (.var 0) ("state" : Str)) (.lit .none)) (.cons (.setA 0 (.var 0) ("token" : Str) (.lit (.str ("" : Str)))) (.cons .brk .nil)) (.cons (.ife (.cmp .Eq (.attr 0 (.var 0) ("state" : Str)) (.lit (.str (" " : Str)))) (.cons (.ife (.nt (.var 4)) (.cons (.setA 0 (.var 0) ("state" : Str) (.lit .none)) (.cons .brk .nil)) (.cons (.ife (.cmp .In (.var 4) (.attr 0 (.var 0) ("whitespace" : Str))) (.cons (.ife (.cmp .GtE (.attr 0 (.var 0) ("debug" : Str)) (.lit (.int 2))) (.cons (.expr .stuck) .nil) .nil) (.cons (.ife (.bool false (.attr 0 (.var 0) ("token" : Str)) (.bool true (.attr 0 (.var 0) ("posix" : Str)) (.var 1))) (.cons .brk .nil) (.cons .cont .nil)) .nil)) (.cons (.ife (.cmp .In (.var 4) (.attr 0 (.var 0) ("commenters" : Str))) (.cons (.expr .stuck) (.cons (.augA 0 (.var 0) ("lineno" : Str) .Add (.lit (.int 1))) .nil)) (.cons (.ife (.bool true (.attr 0 (.var 0) ("posix" : Str)) (.cmp .In (.var 4) (.attr 0 (.var 0) ("escape" : Str)))) (.cons (.assign 2 (.lit (.str ("a" : Str)))) (.cons (.setA 0 (.var 0) ("state" : Str) (.var 4)) .nil)) (.cons (.ife (.cmp .In (.var 4) (.attr 0 (.var 0) ("wordchars" : Str))) (.cons (.setA 0 (.var 0) ("token" : Str) (.var 4)) (.cons (.setA 0 (.var 0) ("state" : Str) (.lit (.str ("a" : Str)))) .nil)) (.cons (.ife (.cmp .In (.var 4) (.prop 0 (.var 0) ("punctuation_chars" : Str) 8)) (.cons (.setA 0 (.var 0) ("token" : Str) (.var 4)) (.cons (.setA 0 (.var 0) ("state" : Str) (.lit (.str ("c" : Str)))) .nil)) (.cons (.ife (.cmp .In (.var 4) (.attr 0 (.var 0) ("quotes" : Str))) (.cons (.ife (.nt (.attr 0 (.var 0) ("posix" : Str))) (.cons (.setA 0 (.var 0) ("token" : Str) (.var 4)) .nil) .nil) (.cons (.setA 0 (.var 0) ("state" : Str) (.var 4)) .nil)) (.cons (.ife (.attr 0 (.var 0) ("whitespace_split" : Str)) (.cons (.setA 0 (.var 0) ("token" : Str) (.var 4)) (.cons (.setA 0 (.var 0) ("state" : Str) (.lit (.str ("a" : Str)))) .nil)) (.cons (.setA 0 (.var 0) ("token" : Str) (.var 4)) (.cons (.ife (.bool false (.attr 0 (.var 0) ("token" : Str)) (.bool true (.attr 0 (.var 0) ("posix" : Str)) (.var 1))) (.cons .brk .nil) (.cons .cont .nil)) .nil))) .nil)) .nil)) .nil)) .nil)) .nil)) .nil)) .nil)) .nil) (.cons (.ife (.cmp .In (.attr 0 (.var 0) ("state" : Str)) (.attr 0 (.var 0) ("quotes" : Str))) (.cons (.assign 1 (.lit (.bool true))) (.cons (.ife (.nt (.var 4)) (.cons (.ife (.cmp .GtE (.attr 0 (.var 0) ("debug" : Str)) (.lit (.int 2))) (.cons (.expr .stuck) .nil) .nil) (.cons .stuck .nil)) .nil) (.cons (.ife (.cmp .Eq (.var 4) (.attr 0 (.var 0) ("state" : Str))) (.cons (.ife (.nt (.attr 0 (.var 0) ("posix" : Str))) (.cons (.augA 0 (.var 0) ("token" : Str) .Add (.var 4)) (.cons (.setA 0 (.var 0) ("state" : Str) (.lit (.str (" " : Str)))) (.cons .brk .nil))) (.cons (.setA 0 (.var 0) ("state" : Str) (.lit (.str ("a" : Str)))) .nil)) .nil) (.cons (.ife (.bool true (.attr 0 (.var 0) ("posix" : Str)) (.bool true (.cmp .In (.var 4) (.attr 0 (.var 0) ("escape" : Str))) (.cmp .In (.attr 0 (.var 0) ("state" : Str)) (.attr 0 (.var 0) ("escapedquotes" : Str))))) (.cons (.assign 2 (.attr 0 (.var 0) ("state" : Str))) (.cons (.setA 0 (.var 0) ("state" : Str) (.var 4)) .nil)) (.cons (.augA 0 (.var 0) ("token" : Str) .Add (.var 4)) .nil)) .nil)) .nil))) (.cons (.ife (.cmp .In (.attr 0 (.var 0) ("state" : Str)) (.attr 0 (.var 0) ("escape" : Str))) (.cons (.ife (.nt (.var 4)) (.cons (.ife (.cmp .GtE (.attr 0 (.var 0) ("debug" : Str)) (.lit (.int 2))) (.cons (.expr .stuck) .nil) .nil) (.cons .stuck .nil)) .nil) (.cons (.ife (.bool true (.cmp .In (.var 2) (.attr 0 (.var 0) ("quotes" : Str))) (.bool true (.cmp .NotEq (.var 4) (.attr 0 (.var 0) ("state" : Str))) (.cmp .NotEq (.var 4) (.var 2)))) (.cons (.augA 0 (.var 0) ("token" : Str) .Add (.attr 0 (.var 0) ("state" : Str))) .nil) .nil) (.cons (.augA 0 (.var 0) ("token" : Str) .Add (.var 4)) (.cons (.setA 0 (.var 0) ("state" : Str) (.var 2)) .nil)))) (.cons (.ife (.inT (.attr 0 (.var 0) ("state" : Str)) [("a" : Str),("c" : Str)]) (.cons (.ife (.nt (.var 4)) (.cons (.setA 0 (.var 0) ("state" : Str) (.lit .none)) (.cons .brk .nil)) (.cons (.ife (.cmp .In (.var 4) (.attr 0 (.var 0) ("whitespace" : Str))) (.cons (.ife (.cmp .GtE (.attr 0 (.var 0) ("debug" : Str)) (.lit (.int 2))) (.cons (.expr .stuck) .nil) .nil) (.cons (.setA 0 (.var 0) ("state" : Str) (.lit (.str (" " : Str)))) (.cons (.ife (.bool false (.attr 0 (.var 0) ("token" : Str)) (.bool true (.attr 0 (.var 0) ("posix" : Str)) (.var 1))) (.cons .brk .nil) (.cons .cont .nil)) .nil))) (.cons (.ife (.cmp .In (.var 4) (.attr 0 (.var 0) ("commenters" : Str))) (.cons (.expr .stuck) (.cons (.augA 0 (.var 0) ("lineno" : Str) .Add (.lit (.int 1))) (.cons (.ife (.attr 0 (.var 0) ("posix" : Str)) (.cons (.setA 0 (.var 0) ("state" : Str) (.lit (.str (" " : Str)))) (.cons (.ife (.bool false (.attr 0 (.var 0) ("token" : Str)) (.bool true (.attr 0 (.var 0) ("posix" : Str)) (.var 1))) (.cons .brk .nil) (.cons .cont .nil)) .nil)) .nil) .nil))) (.cons (.ife (.cmp .Eq (.attr 0 (.var 0) ("state" : Str)) (.lit (.str ("c" : Str)))) (.cons (.ife (.cmp .In (.var 4) (.prop 0 (.var 0) ("punctuation_chars" : Str) 8)) (.cons (.augA 0 (.var 0) ("token" : Str) .Add (.var 4)) .nil) (.cons (.ife (.cmp .NotIn (.var 4) (.attr 0 (.var 0) ("whitespace" : Str))) (.cons (.expr (.appL (.attr 0 (.var 0) ("_pushback_chars" : Str)) (.var 4))) .nil) .nil) (.cons (.setA 0 (.var 0) ("state" : Str) (.lit (.str (" " : Str)))) (.cons .brk .nil)))) .nil) (.cons (.ife (.bool true (.attr 0 (.var 0) ("posix" : Str)) (.cmp .In (.var 4) (.attr 0 (.var 0) ("quotes" : Str)))) (.cons (.setA 0 (.var 0) ("state" : Str) (.var 4)) .nil) (.cons (.ife (.bool true (.attr 0 (.var 0) ("posix" : Str)) (.cmp .In (.var 4) (.attr 0 (.var 0) ("escape" : Str)))) (.cons (.assign 2 (.lit (.str ("a" : Str)))) (.cons (.setA 0 (.var 0) ("state" : Str) (.var 4)) .nil)) (.cons (.ife (.bool false (.cmp .In (.var 4) (.attr 0 (.var 0) ("wordchars" : Str))) (.bool false (.cmp .In (.var 4) (.attr 0 (.var 0) ("quotes" : Str))) (.bool true (.attr 0 (.var 0) ("whitespace_split" : Str)) (.cmp .NotIn (.var 4) (.prop 0 (.var 0) ("punctuation_chars" : Str) 8))))) (.cons (.augA 0 (.var 0) ("token" : Str) .Add (.var 4)) .nil) (.cons (.ife (.prop 0 (.var 0) ("punctuation_chars" : Str) 8) (.cons (.expr (.appL (.attr 0 (.var 0) ("_pushback_chars" : Str)) (.var 4))) .nil) (.cons (.expr .stuck) .nil)) (.cons (.ife (.cmp .GtE (.attr 0 (.var 0) ("debug" : Str)) (.lit (.int 2))) (.cons (.expr .stuck) .nil) .nil) (.cons (.setA 0 (.var 0) ("state" : Str) (.lit (.str (" " : Str)))) (.cons (.ife (.bool false (.attr 0 (.var 0) ("token" : Str)) (.bool true (.attr 0 (.var 0) ("posix" : Str)) (.var 1))) (.cons .brk .nil) (.cons .cont .nil)) .nil))))) .nil)) .nil)) .nil)) .nil)) .nil)) .nil)) .nil) .nil) .nil)) .nil)) .nil)) .nil)) .nil))))
noncomputable def o_fn6:OF:=⟨5,1,[],(.cons (.assign 1 (.lit (.bool false))) (.cons (.assign 2 (.lit (.str (" " : Str)))) (.cons (.while_ o_c6_0 o_w6_0) (.cons (.assign 3 (.attr 0 (.var 0) ("token" : Str))) (.cons (.setA 0 (.var 0) ("token" : Str) (.lit (.str ("" : Str)))) (.cons (.ife (.bool true (.attr 0 (.var 0) ("posix" : Str)) (.bool true (.nt (.var 1)) (.cmp .Eq (.var 3) (.lit (.str ("" : Str)))))) (.cons (.assign 3 (.lit .none)) .nil) .nil) (.cons (.ife (.cmp .Gt (.attr 0 (.var 0) ("debug" : Str)) (.lit (.int 1))) (.cons (.ife (.var 3) (.cons (.expr .stuck) .nil) (.cons (.expr .stuck) .nil)) .nil) .nil) (.cons (.ret (.var 3)) .nil))))))))⟩
noncomputable def o_nm6:List Str:=["self", "quoted", "escapedstate", "result", "nextchar"]
noncomputable def o_c7_0:OE:=(.cmp .Eq (.var 1) (.attr 0 (.var 0) ("eof" : Str)))
noncomputable def o_w7_0:OSs:=(.cons (.ife (.nt (.attr 0 (.var 0) ("filestack" : Str))) (.cons (.ret (.attr 0 (.var 0) ("eof" : Str))) .nil) (.cons (.expr .stuck) (.cons (.assign 1 (.mcall 0 (.var 0) ("get_token" : Str) 7 .nil)) .nil))) .nil)
noncomputable def o_c7_1:OE:=(.cmp .Eq (.var 1) (.attr 0 (.var 0) ("source" : Str)))
noncomputable def o_w7_1:OSs:=(.cons (.assign 3 .stuck) (.cons (.ife (.var 3) (.cons .stuck .nil) .nil) (.cons (.assign 1 (.mcall 0 (.var 0) ("get_token" : Str) 7 .nil)) .nil)))
noncomputable def o_fn7:OF:=⟨6,1,[],(.cons (.ife (.attr 0 (.var 0) ("pushback" : Str)) (.cons (.assign 2 .stuck) (.cons (.ife (.cmp .GtE (.attr 0 (.var 0) ("debug" : Str)) (.lit (.int 1))) (.cons (.expr .stuck) .nil) .nil) (.cons (.ret (.var 2)) .nil))) .nil) (.cons (.assign 1 (.mcall 0 (.var 0) ("read_token" : Str) 6 .nil)) (.cons (.ife (.cmp .IsNot (.attr 0 (.var 0) ("source" : Str)) (.lit .none)) (.cons (.while_ o_c7_1 o_w7_1) .nil) .nil) (.cons (.while_ o_c7_0 o_w7_0) (.cons (.ife (.cmp .GtE (.attr 0 (.var 0) ("debug" : Str)) (.lit (.int 1))) (.cons (.ife (.cmp .NotEq (.var 1) (.attr 0 (.var 0) ("eof" : Str))) (.cons (.expr .stuck) .nil) (.cons (.expr .stuck) .nil)) .nil) .nil) (.cons (.ret (.var 1)) .nil))))))⟩
noncomputable def o_nm7:List Str:=["self", "raw", "tok", "spec", "newfile", "newstream"]
noncomputable def o_fn8:OF:=⟨1,1,[],(.cons (.ret (.attr 0 (.var 0) ("_punctuation_chars" : Str))) .nil)⟩
noncomputable def o_nm8:List Str:=["self"]
noncomputable def o_fn11:OF:=⟨1,1,[],(.cons (.ife (.isStr (.var 0)) (.cons (.ret (.ext 6)) .nil) (.cons (.assign 0 .stuck) (.cons (.ret .stuck) .nil))) .nil)⟩
noncomputable def o_nm11:List Str:=["pattern"]
noncomputable def o_c12_0:OE:=(.lit (.bool true))
noncomputable def o_w12_0:OSs:=(.cons (.assign 11 .stuck) (.cons (.ife (.cmp .Lt (.var 11) (.lit (.int 0))) (.cons .brk .nil) .nil) (.cons (.expr (.appL (.var 10) (.slc (.var 0) (.yes (.var 5)) (.yes (.var 11))))) (.cons (.assign 5 (.bin .Add (.var 11) (.lit (.int 1)))) (.cons (.assign 11 (.bin .Add (.var 11) (.lit (.int 3)))) .nil)))))
noncomputable def o_c12_1:OE:=(.bool true (.cmp .Lt (.var 8) (.var 6)) (.cmp .NotEq (.idx (.var 0) (.var 8)) (.lit (.str ("]" : Str)))))
noncomputable def o_w12_1:OSs:=(.cons (.assign 8 (.bin .Add (.var 8) (.lit (.int 1)))) .nil)
noncomputable def o_c12_2:OE:=(.cmp .Lt (.var 5) (.var 6))
noncomputable def o_w12_2:OSs:=(.cons (.assign 7 (.idx (.var 0) (.var 5))) (.cons (.assign 5 (.bin .Add (.var 5) (.lit (.int 1)))) (.cons (.ife (.cmp .Eq (.var 7) (.lit (.str ("*" : Str)))) (.cons (.ife (.bool false (.nt (.var 3)) (.cmp .IsNot (.idx (.var 3) (.neg 1)) (.var 1))) (.cons (.expr (.app (.var 4) (.var 1))) .nil) .nil) .nil) (.cons (.ife (.cmp .Eq (.var 7) (.lit (.str ("?" : Str)))) (.cons (.expr (.app (.var 4) (.var 2))) .nil) (.cons (.ife (.cmp .Eq (.var 7) (.lit (.str ("[" : Str)))) (.cons (.assign 8 (.var 5)) (.cons (.ife (.bool true (.cmp .Lt (.var 8) (.var 6)) (.cmp .Eq (.idx (.var 0) (.var 8)) (.lit (.str ("!" : Str))))) (.cons (.assign 8 (.bin .Add (.var 8) (.lit (.int 1)))) .nil) .nil) (.cons (.ife (.bool true (.cmp .Lt (.var 8) (.var 6)) (.cmp .Eq (.idx (.var 0) (.var 8)) (.lit (.str ("]" : Str))))) (.cons (.assign 8 (.bin .Add (.var 8) (.lit (.int 1)))) .nil) .nil) (.cons (.while_ o_c12_1 o_w12_1) (.cons (.ife (.cmp .GtE (.var 8) (.var 6)) (.cons (.expr (.app (.var 4) (.lit (.str ("\\[" : Str))))) .nil) (.cons (.assign 9 (.slc (.var 0) (.yes (.var 5)) (.yes (.var 8)))) (.cons (.ife (.cmp .NotIn (.lit (.str ("-" : Str))) (.var 9)) (.cons (.assign 9 (.repl (.var 9) (.lit (.str ("\\" : Str))) (.lit (.str ("\\\\" : Str))))) .nil) (.cons (.assign 10 .nil) (.cons (.assign 11 .stuck) (.cons (.while_ o_c12_0 o_w12_0) (.cons (.assign 12 (.slc (.var 0) (.yes (.var 5)) (.yes (.var 8)))) (.cons (.ife (.var 12) (.cons (.expr (.appL (.var 10) (.var 12))) .nil) (.cons .stuck .nil)) (.cons .stuck .nil))))))) (.cons (.assign 9 (.ext 5)) (.cons (.assign 5 (.bin .Add (.var 8) (.lit (.int 1)))) (.cons (.ife (.nt (.var 9)) (.cons (.expr (.app (.var 4) (.lit (.str ("(?!)" : Str))))) .nil) (.cons (.ife (.cmp .Eq (.var 9) (.lit (.str ("!" : Str)))) (.cons (.expr (.app (.var 4) (.lit (.str ("." : Str))))) .nil) (.cons (.ife (.cmp .Eq (.idx (.var 9) (.lit (.int 0))) (.lit (.str ("!" : Str)))) (.cons (.assign 9 (.bin .Add (.lit (.str ("^" : Str))) (.slc (.var 9) (.yes (.lit (.int 1))) .no))) .nil) (.cons (.ife (.inT (.idx (.var 9) (.lit (.int 0))) [("^" : Str),("[" : Str)]) (.cons (.assign 9 (.bin .Add (.lit (.str ("\\" : Str))) (.var 9))) .nil) .nil) .nil)) (.cons (.expr (.app (.var 4) (.fstr ("[" : Str) (.var 9) ("]" : Str)))) .nil))) .nil)) .nil)))))) .nil))))) (.cons (.expr (.app (.var 4) (.call 11 (.cons (.var 7) .nil)))) .nil)) .nil)) .nil)) .nil)))
noncomputable def o_fn12:OF:=⟨14,3,[],(.cons (.assign 3 .nil) (.cons (.assign 4 (.addm (.var 3))) (.cons (.assign2 5 6 (.lit (.int 0)) (.len (.var 0))) (.cons (.while_ o_c12_2 o_w12_2) (.cons (.asrt (.cmp .Eq (.var 5) (.var 6))) (.cons (.ret (.var 3)) .nil))))))⟩
noncomputable def o_nm12:List Str:=["pat", "STAR", "QUESTION_MARK", "res", "add", "i", "n", "c", "j", "stuff", "chunks", "k", "chunk", "s"]
noncomputable def o_c13_0:OE:=(.bool true (.cmp .Lt (.var 4) (.var 5)) (.cmp .IsNot (.idx (.var 0) (.var 4)) (.var 1)))
noncomputable def o_w13_0:OSs:=(.cons (.expr (.appL (.var 6) (.idx (.var 0) (.var 4)))) (.cons (.aug 4 .Add (.lit (.int 1))) .nil))
noncomputable def o_c13_1:OE:=(.cmp .Lt (.var 4) (.var 5))
noncomputable def o_w13_1:OSs:=(.cons (.asrt (.cmp .Is (.idx (.var 0) (.var 4)) (.var 1))) (.cons (.aug 4 .Add (.lit (.int 1))) (.cons (.ife (.cmp .Eq (.var 4) (.var 5)) (.cons (.expr (.app (.var 3) (.lit (.str (".*" : Str))))) (.cons .brk .nil)) .nil) (.cons (.asrt (.cmp .IsNot (.idx (.var 0) (.var 4)) (.var 1))) (.cons (.assign 6 .nil) (.cons (.while_ o_c13_0 o_w13_0) (.cons (.assign 6 (.joinL (.lit (.str ("" : Str))) (.var 6))) (.cons (.ife (.cmp .Eq (.var 4) (.var 5)) (.cons (.expr (.app (.var 3) (.lit (.str (".*" : Str))))) (.cons (.expr (.app (.var 3) (.var 6))) .nil)) (.cons (.expr (.app (.var 3) (.fstr ("(?>.*?" : Str) (.var 6) (")" : Str)))) .nil)) .nil))))))))
noncomputable def o_c13_2:OE:=(.bool true (.cmp .Lt (.var 4) (.var 5)) (.cmp .IsNot (.idx (.var 0) (.var 4)) (.var 1)))
noncomputable def o_w13_2:OSs:=(.cons (.expr (.app (.var 3) (.idx (.var 0) (.var 4)))) (.cons (.aug 4 .Add (.lit (.int 1))) .nil))
noncomputable def o_fn13:OF:=⟨7,2,[],(.cons (.assign 2 .nil) (.cons (.assign 3 (.addm (.var 2))) (.cons (.assign2 4 5 (.lit (.int 0)) (.len (.var 0))) (.cons (.while_ o_c13_2 o_w13_2) (.cons (.while_ o_c13_1 o_w13_1) (.cons (.asrt (.cmp .Eq (.var 4) (.var 5))) (.cons (.assign 2 (.joinL (.lit (.str ("" : Str))) (.var 2))) (.cons (.ret (.fstr ("(?s:" : Str) (.var 2) (")\\Z" : Str))) .nil))))))))⟩
noncomputable def o_nm13:List Str:=["inp", "STAR", "res", "add", "i", "n", "fixed"]
noncomputable def o_fn14:OF:=⟨3,1,[],(.cons (.assign 1 (.ext 7)) (.cons (.assign 2 (.call 12 (.cons (.var 0) (.cons (.var 1) (.cons (.lit (.str ("." : Str))) .nil))))) (.cons (.ret (.call 13 (.cons (.var 2) (.cons (.var 1) .nil)))) .nil)))⟩
noncomputable def o_nm14:List Str:=["pat", "STAR", "parts"]
noncomputable def o_fn15:OF:=⟨4,3,[.bool false,.bool true],(.cons (.ife (.cmp .Is (.var 0) (.lit .none)) (.cons .stuck .nil) .nil) (.cons (.assign 3 (.ext 1)) (.cons (.setA 0 (.var 3) ("whitespace_split" : Str) (.lit (.bool true))) (.cons (.ife (.nt (.var 1)) (.cons (.setA 0 (.var 3) ("commenters" : Str) (.lit (.str ("" : Str)))) .nil) .nil) (.cons (.ret (.ext 2)) .nil)))))⟩
noncomputable def o_nm15:List Str:=["s", "comments", "posix", "lex"]
noncomputable def o_tabL:List (Nat × List Str × OF):=[(0,o_nm0,o_fn0),(1,o_nm1,o_fn1),(2,o_nm2,o_fn2),(3,o_nm3,o_fn3),(4,o_nm4,o_fn4),(6,o_nm6,o_fn6),(7,o_nm7,o_fn7),(8,o_nm8,o_fn8),(11,o_nm11,o_fn11),(12,o_nm12,o_fn12),(13,o_nm13,o_fn13),(14,o_nm14,o_fn14),(15,o_nm15,o_fn15)]
noncomputable def o_tab (f:Nat):Option OF:=(o_tabL.find? (·.1 == f)).map (·.2.2)
noncomputable def safeC (c:Nat):Bool:=(97 ≤ c && c ≤ 122) || (65 ≤ c && c ≤ 90) || (48 ≤ c && c ≤ 57) || c == 95 || c == 64 || c == 37 || c == 43 || c == 61 || c == 58 || c == 44 || c == 46 || c == 47 || c == 45
noncomputable def sgnC (c:Nat):Bool:=[97,39,91,32,34,42,92,93,63,35,45,98,33].contains c || decide (256 ≤ c)
noncomputable def specC (c:Nat):Bool:=[40,41,91,93,123,125,63,42,43,45,124,94,36,92,46,38,126,35,32,9,10,13,11,12].contains c
section
variable {α β:Type} {G:Prop} {d:β}
noncomputable def argC (l:List α) (f:α→List α→Option β):Option β:=match l with | []=>none | a :: r=>f a r
noncomputable def argN (l:List α) (x:Option β):Option β:=match l with | []=>x | _ :: _=>none
theorem argCK {l:List α} {f:α→List α→Option β} (h:argC l f = some d) (k:∀ a r,l = a :: r→f a r = some d→G):G:=by
  cases l with
  | nil=>cases h
  | cons a r=>exact k a r rfl h
theorem argNK {l:List α} {x:Option β} (h:argN l x = some d) (k:l = []→x = some d→G):G:=by
  cases l with
  | nil=>exact k rfl h
  | cons a r=>cases h
noncomputable def varO (ρ:LO) (x:Nat) (f:OV→Option β):Option β:=((ρ[x]?).join).bind f
noncomputable def sgnO (v:OV) (f:Nat→Option β):Option β:=(strV v).bind fun x=>argC x.cps.toList fun c r=>argN r (f c)
theorem sgnOK {v:OV} {f:Nat→Option β} (h:sgnO v f = some d) (k:∀ c,v = .d (.str ⟨#[c]⟩)→f c = some d→G):G :=
  bndK h fun x hx h=>oDatK hx fun y ev hy=>dStrK hy fun z ey ez=>argCK h fun c r hc h=>argNK h fun hr h=>k c (by
    cases ez
    have e:x = ⟨#[c]⟩:=congrArg Str.mk (Array.toList_inj.mp (hc.trans (congrArg (c :: ·) hr)))
    rw [ev,ey,e]) h
end
noncomputable def o_nx1:OE:=.mcall 0 (.var 0) ("get_token" : Str) 7 .nil
noncomputable def o_nx2:OE:=.cmp .Eq (.var 1) (.attr 0 (.var 0) ("eof" : Str))
noncomputable def nextO (cl:OCl) (l:OV) (st:St):Option (Option OV × St) :=
  (ovE cl (fun _ _ _=>none) o_nx1 [some l,none] st).bind fun r=>(ovT cl (fun _ _ _=>none) o_nx2 [some l,some r.1] r.2).map fun t=>(if t.1 then none else some r.1,t.2)
noncomputable def tokensO (cl:OCl):Nat→OV→Nat→St→Option (OV × St)
  | 0,_,_,_=>none
  | n + 1,l,k,st=>(nextO cl l st).bind fun r=>r.1.elim (some (.o k,r.2)) fun x=>(pushO r.2 k x).bind fun st'=>tokensO cl n l k st'
noncomputable def exO (fuel:Nat) (cl:OCl) (j:Nat) (ρ:LO) (st:St):Option (OV × St):=([
  some (.o st.length,st ++ [.deq]),
  varO ρ 0 fun s=>varO ρ 2 fun p=>cl 18 [s,p] st,
  varO ρ 3 fun l=>tokensO cl fuel l st.length (st ++ [.list []]),
  none,
  none,
  varO ρ 9 fun s=>sgnO s fun c=>if c == 42 || c == 63 || c == 91 then some (.d (.str ⟨#[c]⟩),st) else none,
  varO ρ 0 fun s=>sgnO s fun c=>some (.d (.str (if specC c then ⟨#[92,c]⟩ else ⟨#[c]⟩)),st),
  some (.o st.length,st ++ [.plain])]:List (Option (OV × St)))[j]?.join
noncomputable def newO (cl:OCl) (c i:Nat) (xs:List OV) (st:St):Option (OV × St):=(cl i (.o st.length :: xs) (st ++ [.inst c,.dict []])).bind fun r=>oDat r.1 fun d=>if d.ctorIdx = 0 then some (.o st.length,r.2) else none
noncomputable def primO (fuel:Nat) (cl:OCl) (f:Nat) (args:List OV) (st:St):Option (OV × St) :=
  if f = 9 then argC args fun x r=>argN r ((strV x).bind fun _=>newO cl 1 3 [x] st)
  else if f = 18 then argC args fun x r=>argC r fun p r=>argN r (newO cl 0 19 [x,p] st)
  else if f = 19 then argC args fun l r=>argC r fun x r=>argC r fun p r=>argN r (retO (oxSs cl (exO fuel cl) fuel o_fn5.body [some l,some x,some (.d .none),some p,some (.d (.bool false)),none] st))
  else none
noncomputable def libO (fuel:Nat):Nat→OCl:=runO o_tab (primO fuel) (exO fuel) fuel
end Kt
end
section
open PySem PySem.W PyProof.Rows PySem.Calls
namespace Kt
inductive FRef where
  | glob (n:Str) | meth (c m:Str) | prop (c m:Str)
theorem refVK {v:Value} {a:Addr} (h:refV v = some a):v = .ref a:=by
  by_cases c:v.ctorIdx = 10
  · exact Value.ref.elim (motive:=fun v=>refV v = some a→v = .ref a) v c (fun b h=>congrArg Value.ref (Option.some.inj h)) h
  · rw [refV,dif_neg c] at h; cases h
noncomputable def faK (K:Frag) (r:FRef):Option Addr:=match r with
  | .glob n=>(globK K n).bind refV
  | .meth c m=>((globK K c).bind refV).bind fun C=>(findIn K (.ref C) m).bind fun v=>v.bind refV
  | .prop c m=>((globK K c).bind refV).bind fun C=>(findIn K (.ref C) m).bind fun p=>(p.bind refV).bind fun a=>(recIn K a "property").bind fun vs=>vs.head?.bind refV
noncomputable def fRefs:List (Option FRef):=[some (.glob "_index"),some (.meth "StringIO" "read"),some (.meth "StringIO" "_StringIO__check"),some (.meth "StringIO" "__init__"),some (.meth "StringIO" "_StringIO__translated"),none,
  some (.meth "shlex" "read_token"),some (.meth "shlex" "get_token"),some (.prop "shlex" "punctuation_chars"),some (.glob "StringIO"),none,some (.glob "escape"),some (.glob "_translate"),
  some (.glob "_join_translated_parts"),some (.glob "translate"),some (.glob "split"),none,none,some (.glob "shlex"),some (.meth "shlex" "__init__")]
noncomputable def fA_ (K:Frag) (f:Nat):Option Addr:=(fRefs[f]?.join).bind (faK K)
noncomputable def cA_ (K:Frag) (c:Nat):Option Addr:=(["shlex", "StringIO"]:List Str)[c]?.bind fun n=>(globK K n).bind refV
noncomputable def onInt (e:Value) (f:Int→Tok→Bool):Bool:=if h:e.ctorIdx = 4 then Value.int.elim e h f else false
theorem onIntK {e:Value} {f:Int→Tok→Bool} {m:Value→Prop} (h:onInt e f = true) (k:∀ a b,f a b = true→m (.int a b)):m e:=by
  by_cases c:e.ctorIdx = 4
  · exact Value.int.elim (motive:=fun e=>onInt e f = true→m e) e c k h
  · rw [onInt,dif_neg c] at h; cases h
noncomputable def litV (v:Value) (d:PyData):Bool:=match d with
  | .none=>v == .none
  | .bool b=>v == .bool b
  | .int i=>onInt v fun j _=>j == i
  | .str x=>onStr v fun y _=>y == x && okD (.str x)
  | _=>false
theorem litV_fl {v:Value} {d:PyData} (h:litV v d = true):Fl0 v d:=by
  cases d with
  | none=>exact eq_of_beq h ▸ ⟨.none,rfl⟩
  | bool b=>exact eq_of_beq h ▸ ⟨.bool b,rfl⟩
  | int i=>exact onIntK (m:=fun v=>Fl0 v (.int i)) h fun j t h=>eq_of_beq h ▸ ⟨.int j t,rfl⟩
  | str x=>exact onStrK (m:=fun v=>Fl0 v (.str x)) h fun y t h=>beqK (m:=fun y=>Fl0 (.str y t) (.str x)) (andT h).1 ⟨.str x t,(andT h).2⟩
  | _=>cases h
noncomputable def litVs:List PyData→List Value→Bool
  | [],vs=>vs.isEmpty
  | d :: ds,vs=>onC vs fun v r=>litV v d && litVs ds r
theorem litVs_ve:∀ {ds:List PyData} {vs:List Value},litVs ds vs = true→VEs [] vs (ds.map .d)
  | [],_,h=>nilK (m:=fun vs=>VEs [] vs []) h .nil
  | _ :: _,_,h=>onCK (m:=fun vs=>VEs [] vs _) h fun _ _ h=>.cons (litV_fl (andT h).1) (litVs_ve (andT h).2)
noncomputable def onSeq (e:Data) (f:Array Value→Bool):Bool:=if h:e.ctorIdx = 2 then Data.seq.elim e h fun a _=>f a else false
theorem onSeqE {e:Data} {f:Array Value→Bool} (h:onSeq e f = true):∃ a n,e = .seq a n ∧ f a = true:=by
  by_cases c:e.ctorIdx = 2
  · exact Data.seq.elim (motive:=fun e=>onSeq e f = true→∃ a n,e = .seq a n ∧ f a = true) e c (fun a n h=>⟨a,n,rfl,h⟩) h
  · rw [onSeq,dif_neg c] at h; cases h
noncomputable def seqV (d:Data):List Value:=if h:d.ctorIdx = 2 then Data.seq.elim d h fun a _=>a.toList else []
noncomputable def dfltV (K:Frag) (fd:FuncData):List Value:=(((refV fd.defaults).bind fun T=>K.lookup T).map fun o=>seqV o.data).getD []
noncomputable def upArgs:Nat→(List Value→Prop)→Prop
  | 0,P=>P []
  | k + 1,P=>P [] ∧ ∀ v,upArgs k fun l=>P (v :: l)
theorem upArgs_of {l:List Value}:∀ {k:Nat} {P:List Value→Prop},upArgs k P→l.length ≤ k→P l:=by
  induction l with
  | nil=>exact fun {k P} h _=>by cases k with | zero=>exact h | succ k=>exact h.1
  | cons v l ih=>exact fun {k P} h e=>by cases k with | zero=>exact absurd e (Nat.not_succ_le_zero _) | succ k=>exact ih (P:=fun l=>P (v :: l)) (h.2 v) (Nat.le_of_succ_le_succ e)
noncomputable def BindO (K:Frag) (a:Addr) (nm:List Str) (pf:OF):Prop:=onSP (fnD K a) fun fd=>upArgs pf.arity fun vals=>if pf.arity ≤ vals.length + (dfltV K fd).length then
  ∀ S,peek K S (bindW fd ⟨vals,[]⟩) = some ((nm.take pf.arity).zip (vals ++ (dfltV K fd).drop ((dfltV K fd).length + vals.length - pf.arity))) else True
noncomputable def lamV (K:Frag):Value:=(((globK K "_translate").bind refV).bind fun a=>(K.lookup a).bind fun o=>match o.data with | .func fd=>some fd.code | _=>none).getD .none
noncomputable def ofdCheck (K:Frag) (nm:List Str) (pf:OF) (fd:FuncData):Bool :=
  ([nm.length != 14 || fd.code == lamV K,fd.closure.isEmpty,fd.scope.kind == .function,!fd.scope.isCoroutine,!fd.scope.isGenerator,fd.globals == mainGlobals,fd.builtins == builtinsNs,codeCheck K fd.qualname fd.code,
    litVs pf.dflt (dfltV K fd),
    decide (pf.arity ≤ nm.length),decide nm.Nodup,fd.scope.names.all fun p=>p.2 != .cell && p.2 != .free,(nm.take pf.arity).all fun n=>fd.scope.names.lookup n == some .local]:List Bool).all id
noncomputable def ofnCheck (K:Frag) (P:Scope→List Stmt→Bool) (a:Addr) (nm:List Str) (pf:OF):Bool:=onO K a fun o=>onFunc o.data fun fd=>ofdCheck K nm pf fd && onStmts fd.body fun body=>P fd.scope body
theorem ofn_of_check {Z:Zone} {K:Frag} {P:Scope→List Stmt→Bool} {a:Addr} {nm:List Str} {pf:OF} (hlam:Z.lam = lamV K) (hK:∀ h,Z.TabI h→K.In h) (X:K.In Z.h₀) (hb:BindO K a nm pf) (h:ofnCheck K P a nm pf = true) :
    ∃ fd body,OFnAt Z a fd body nm pf ∧ P fd.scope body = true:=onOK h fun o ho hc h=>by
  obtain ⟨fd,hd,h⟩:=onFuncE h
  obtain ⟨body,hbd,hP⟩:=onStmtsE (andT h).2
  obtain ⟨fd',ef,hb⟩:=onSPE hb
  cases (fnD_eq ho hd).symm.trans ef
  have h:=(andT h).1
  exact ⟨fd,body,{
    lam:=fun hn=>hlam ▸ (Bool.or_eq_true_iff.mp (allAt h 0 rfl)).elim (fun h=>absurd hn (bne_iff_ne.mp h)) eq_of_beq
    obj:=⟨o,X _ _ ho,hc,hd⟩
    body:=hbd
    clo:=List.isEmpty_iff.mp (allAt h 1 rfl)
    kind:=eq_of_beq (allAt h 2 rfl)
    co:=notT (allAt h 3 rfl)
    gen:=notT (allAt h 4 rfl)
    glob:=eq_of_beq (allAt h 5 rfl)
    blt:=eq_of_beq (allAt h 6 rfl)
    code:=codeOf X (allAt h 7 rfl)
    bind:=⟨_,litVs_ve (allAt h 8 rfl),fun s vals ht h1 h2=>kp_binds (hK _ ht) fun S=>by rw [bindW_eq]; exact Eq.mp (if_pos h2) (upArgs_of hb h1) S⟩
    len:=of_decide_eq_true (allAt h 9 rfl)
    nd:=of_decide_eq_true (allAt h 10 rfl)
    nocell:=fun p hp=>let ⟨h1,h2⟩:=andT (List.all_eq_true.mp (allAt h 11 rfl) p hp); ⟨bne_iff_ne.mp h1,bne_iff_ne.mp h2⟩
    params:=fun n hn=>eq_of_beq (List.all_eq_true.mp (allAt h 12 rfl) n hn) },hP⟩
noncomputable def oTabCheck (K:Frag) (xc:List Str→Nat→Scope→Expr→Bool) (p:Nat × List Str × OF):Bool:=(kwO p.1).isEmpty && onS (fA_ K p.1) fun a=>ofnCheck K (fun sc body=>chkOSs K (cA_ K) (fA_ K) (xc p.2.1) p.2.1 sc p.2.2.body body) a p.2.1 p.2.2
theorem oTabOk {Z:Zone} {K:Frag} {xc:List Str→Nat→Scope→Expr→Bool} (hlam:Z.lam = lamV K) (hK:∀ h,Z.TabI h→K.In h) (X:K.In Z.h₀) (hb:allP o_tabL fun p=>onSP (fA_ K p.1) fun a=>BindO K a p.2.1 p.2.2) (h:o_tabL.all (oTabCheck K xc) = true):OTabOk Z K (cA_ K) (fA_ K) xc o_tab:=fun f pf a ht hf=>mapK ht fun q hq e=>by
  subst e
  obtain ⟨h1,h2⟩:=andT (List.all_eq_true.mp h _ (List.mem_of_find?_eq_some hq))
  have hq:q.1 = f:=eq_of_beq (List.find?_some (p:=fun x:Nat × List Str × OF=>x.1 == f) hq)
  subst hq
  obtain ⟨a',ha,h2⟩:=onSE h2
  cases hf.symm.trans ha
  obtain ⟨_,ea,hb⟩:=onSPE (allP_mem (P:=fun p:Nat × List Str × OF=>onSP (fA_ K p.1) fun a=>BindO K a p.2.1 p.2.2) hb (List.mem_of_find?_eq_some hq))
  cases ha.symm.trans ea
  obtain ⟨fd,body,F,hc⟩:=ofn_of_check hlam hK X hb h2
  exact ⟨List.isEmpty_iff.mp h1,fd,body,_,F,hc⟩
noncomputable def isVar (nm:List Str) (sc:Scope) (x:Nat) (e:Expr):Bool:=onName e fun n _=>nm[x]? == some n && (sc.names.lookup n == some .local && n != ("__debug__" : Str))
theorem isVarK {nm:List Str} {sc:Scope} {x:Nat} {e:Expr} {m:Expr→Prop} (h:isVar nm sc x e = true) (k:∀ n p,nm[x]? = some n→sc.names.lookup n = some .local→n ≠ ("__debug__" : Str)→m (.Name n p)):m e:=onNameK h fun n p h=>k n p (eq_of_beq (andT h).1) (eq_of_beq (andT (andT h).2).1) (bne_iff_ne.mp (andT (andT h).2).2)
noncomputable def isStrC (t:Str) (e:Expr):Bool:=onConstant e fun c _ _=>c == .str t
noncomputable def oneName (sc:Scope):Bool:=on1 sc.names fun p=>p.2 == .local
noncomputable def onKw (k:Keyword) (f:Str→Expr→Bool):Bool:=onS k.arg fun n=>f n k.value
noncomputable def onLambda (e:Expr) (f:Arguments→Expr→Scope→Pos→Bool):Bool:=if h:e.ctorIdx = 4 then Expr.Lambda.elim e h f else false
theorem onLambdaK {e:Expr} {f:Arguments→Expr→Scope→Pos→Bool} {m:Expr→Prop} (h:onLambda e f = true) (k:∀ a b c d,f a b c d = true→m (.Lambda a b c d)):m e:=by
  by_cases c:e.ctorIdx = 4
  · exact Expr.Lambda.elim (motive_1:=fun e=>onLambda e f = true→m e) e c k h
  · rw [onLambda,dif_neg c] at h; cases h
noncomputable def onG (sc:Scope) (e:Expr) (n:Str) (f:List Expr→Bool):Bool:=onFn e fun m as=>m == n && (globOk sc n && f as)
noncomputable def xcO (lp:Nat × Nat) (nm:List Str) (j:Nat) (sc:Scope) (e:Expr):Bool:=onS (([
  fun _=>onG sc e "deque" fun as=>as.isEmpty,
  fun _=>onCall e fun fe as ks _=>onName fe fun n _=>n == ("shlex" : Str) && (globOk sc "shlex" && on1 as fun x=>isVar nm sc 0 x && on1 ks fun k=>onKw k fun n y=>n == ("posix" : Str) && isVar nm sc 2 y),
  fun _=>onG sc e "list" fun as=>on1 as fun x=>isVar nm sc 3 x,
  fun _=>false,
  fun _=>false,
  fun _=>onMeth e "sub" fun x as=>nm.length == 14 && (onName x fun n _=>n == ("twin_re_1_fnmatch" : Str) && (globOk sc "twin_re_1_fnmatch" && onC as fun l r=>(on1 r fun y=>isVar nm sc 9 y) && onLambda l fun a _ lsc q=>a.defaults.isEmpty && (a.kw_defaults.isEmpty && (q.line == lp.1 && (q.col == lp.2 && oneName lsc))))),
  fun _=>onMeth e "translate" fun x as=>isVar nm sc 0 x && on1 as fun y=>onName y fun n _=>n == ("_special_chars_map" : Str) && globOk sc "_special_chars_map",
  fun _=>onG sc e "object" fun as=>as.isEmpty]:List (Unit→Bool))[j]?) fun f=>f ()
end Kt
end
section
open PySem PySem.W PyProof.Rows PySem.Calls Builtin
namespace Kt
abbrev plainObj:Obj:={ cls:=.type "object",data:=.plain }
abbrev deqObj:Obj:={ cls:=.type "collections.deque",data:=.fields #[.none,.int 0 0] }
noncomputable def Makes (T:String) (o:Obj):Prop:=∀ {prog:Program} {w:World} {A:Around} {s:Shared} {Q:Value→Shared→Prop} {E:Value→Shared→Prop},A.handled = none →
  (∀ h',(∀ b o,s.heap.get? b = some o→h'.get? b = some o)→h'.get? s.heap.objs.size = some o→Q (.ref s.heap.objs.size) { s with heap:=h' })→wpAny (model prog w) A (call (.type T) []) Q E s
theorem call_object:Makes "object" plainObj:=fun {prog w A s Q E} hh h=>by
  have L:(s.heap.push plainObj).get? s.heap.objs.size = some plainObj:=Heap.get?_push_size _ rfl
  refine wpAny_call (kwalk (K:=[]) (R:=wants Q E) 9 [(0,plainObj),(0,plainObj),(0,plainObj)]
    (qb "type.__call__" [.type "object"] ∧ qb "object.__new__" [.type "object"] ∧ (s.heap.push plainObj).get? s.heap.objs.size = some plainObj ∧ (s.heap.push plainObj).get? s.heap.objs.size = some plainObj ∧ (s.heap.push plainObj).get? s.heap.objs.size = some plainObj ∧ qb "object.__init__" [.ref s.heap.objs.size] ∧ Q (.ref s.heap.objs.size) { s with heap:=s.heap.push plainObj }) hh ?_ ?_ ?_)
  · exact fun _ _ h=>nomatch h
  · kernel_rfl
  · exact ⟨Code.quiet_builtin _ (by decide +kernel),Code.quiet_builtin _ (by decide +kernel),L,L,L,Code.quiet_builtin _ (by decide +kernel),h _ (fun b o e=>Heap.get?_push_of_some _ e) L⟩
theorem call_deque:Makes "collections.deque" deqObj:=fun {prog w A s Q E} hh h=>by
  have L:(s.heap.push deqObj).get? s.heap.objs.size = some deqObj:=Heap.get?_push_size _ rfl
  have L2:((s.heap.push deqObj).update s.heap.objs.size (Obj.mapFields fun x=>x.setIfInBounds 0 .none)).get? s.heap.objs.size = some deqObj:=Heap.get?_update_self _ L rfl
  refine wpAny_call (kwalk (K:=[]) (R:=wants Q E) 9 [(0,deqObj),(0,deqObj),(0,deqObj),(0,deqObj),(0,deqObj)]
    (qb "type.__call__" [.type "collections.deque"] ∧ qb "collections.deque.__new__" [.type "collections.deque"] ∧ (s.heap.push deqObj).get? s.heap.objs.size = some deqObj ∧ (s.heap.push deqObj).get? s.heap.objs.size = some deqObj ∧ (s.heap.push deqObj).get? s.heap.objs.size = some deqObj ∧ qb "collections.deque.__init__" [.ref s.heap.objs.size] ∧
      (s.heap.push deqObj).get? s.heap.objs.size = some deqObj ∧ (((s.heap.push deqObj).get? s.heap.objs.size).isSome = true ∧ Frag.In [] ((s.heap.push deqObj).update s.heap.objs.size (Obj.mapFields fun x=>x.setIfInBounds 0 .none))) ∧
      ((s.heap.push deqObj).update s.heap.objs.size (Obj.mapFields fun x=>x.setIfInBounds 0 .none)).get? s.heap.objs.size = some deqObj ∧ Q (.ref s.heap.objs.size) { s with heap:=(s.heap.push deqObj).update s.heap.objs.size (Obj.mapFields fun x=>x.setIfInBounds 0 .none) }) hh ?_ ?_ ?_)
  · exact fun _ _ h=>nomatch h
  · kernel_rfl
  · exact ⟨Code.quiet_builtin _ (by decide +kernel),Code.quiet_builtin _ (by decide +kernel),L,L,L,Code.quiet_builtin _ (by decide +kernel),L,⟨by rw [L]; rfl,fun _ _ h=>nomatch h⟩,L2,
      h _ (fun b o e=>(Heap.get?_update_other _ _ fun e'=>by rw [← e',get?_ge (Nat.le_refl _)] at e; cases e).trans (Heap.get?_push_of_some _ e)) L2⟩
section
variable {D:OD} {sc:Scope} {K:Frag} {fA:Nat→Option Addr} {fuel:Nat}
noncomputable def OD.Ex (D:OD) (fuel:Nat):Prop:=D.ex = exO fuel D.cl
theorem osx_new {j:Nat} {n:Str} {p pos:Pos} {T:String} {f:FO} {o:Obj} (hT:Makes T o) (hX:D.Ex fuel) (hex:∀ ρ st,exO fuel D.cl j ρ st = some (.o st.length,st ++ [f])) (hf:∀ {μ h k a},h.get? a = some o→FOk D.cA μ h k a f)
    (hn:∀ {A:Around} {env:Env} {ρ:LO} {μ:List Addr} {st:St} {s:Shared} {Q:Value→Shared→Prop} {E:Value→Shared→Prop},Oc D sc A env ρ μ st s→Q (.type T) s→wpAny (model D.Z.prog D.Z.w) A (eval (.Name n p) env) Q E s) :
    OSE D sc (.Call (.Name n p) [] [] pos) (.ext j):=fun {A env ρ μ st s v st' Q E} C he g=>by
  cases ((congrFun (congrFun (congrFun hX j) ρ) st).trans (hex ρ st)).symm.trans he
  rw [eval_Call_Name]
  refine wpAny_bind (hn C (callWith_nonref nofun rfl (evalArgs_nil3 (hT C.ha.handled fun h' hk ho=>?_))))
  exact g _ _ _ (C.at.more (tk:=s.toks) (get?_ge (Nat.le_refl _)) C.he.size (C.hi.frLt (Nat.le_refl _)) id hk (hf ho)) ⟨_,by rw [← C.so.len]; exact List.getElem?_concat_length,rfl⟩
theorem ext7 {p pos:Pos} (hX:D.Ex fuel) (hB:OBiOk D.Z) (hg:globOk sc "object" = true):OSE D sc (.Call (.Name "object" p) [] [] pos) (.ext 7) :=
  osx_new (f:=.plain) call_object hX (fun _ _=>rfl) (fun h=>⟨_,h,by show Value.type "object" ≠ _; decide⟩) fun C h=>C.blt hB hg (by decide) h
theorem ext0 {p pos:Pos} (hX:D.Ex fuel) (hg:globOk sc "deque" = true) (hv:D.Z.mg "deque" = some (.type "collections.deque")):OSE D sc (.Call (.Name "deque" p) [] [] pos) (.ext 0) :=
  osx_new (f:=.deq) call_deque hX (fun _ _=>rfl) (fun h=>⟨_,h,rfl,rfl,_,_,rfl⟩) fun C h=>C.glob hg hv h
theorem var_of {x:Nat} {e:Expr} (h:isVar D.nm sc x e = true):OSE D sc e (.var x) ∧ isStarred e = false ∧ isCall0 e = false:=isVarK (m:=fun e=>OSE D sc e (.var x) ∧ isStarred e = false ∧ isCall0 e = false) h fun n p h1 h2 h3=>⟨ose_var h1 h2 h3,rfl,rfl⟩
theorem ov_var {cl:OCl} {ex:Nat→LO→St→Option (OV × St)} {ρ:LO} {x:Nat} {v:OV} {st:St} (h:(ρ[x]?).join = some v):ovE cl ex (.var x) ρ st = some (v,st):=congrArg (Option.map _) h
theorem varK {α:Type} {d:α} {G:Prop} {ρ:LO} {x:Nat} {f:OV→Option α} (h:varO ρ x f = some d) (k:∀ v,(ρ[x]?).join = some v→f v = some d→G):G:=bndK h k
theorem ext1 {p pos kp:Pos} {x y:Expr} {a:Addr} (hX:D.Ex fuel) (hK:∀ h,D.Z.TabI h→K.In h) (hC:OCallOk D.Z D.cA D.cl D.lvl fA) (hf:fA 18 = some a) (hg:globOk sc "shlex" = true) (hv:D.Z.mg "shlex" = some (.ref a)) (hk:keepIn K (.ref a) = true)
    (hx:isVar D.nm sc 0 x = true) (hy:isVar D.nm sc 2 y = true):OSE D sc (.Call (.Name "shlex" p) [x] [⟨some "posix",y,kp⟩] pos) (.ext 1):=fun {A env ρ μ st s v st' Q E} C he g =>
  varK ((congrFun (congrFun (congrFun hX 1) ρ) st).symm.trans he) fun xs h1 he=>varK he fun ps h2 he=>by
  obtain ⟨ox,stx,_⟩:=var_of hx
  obtain ⟨oy,sty,_⟩:=var_of hy
  show wpAny _ _ (eval (.Name "shlex" p) env >>= fun f=>callWith pos f [] (backTo pos (starEach [x] env)) (backToKw pos (keywordEach [⟨some "posix",y,kp⟩] env))) _ _ _
  refine wpAny_bind (C.glob hg hv (callWith_of (P:=K.In) (by rw [(plain_one stx).1 env pos]; rfl) (keeps_K hk) (evalArgs_kw2 rfl (oses_cons stx ox oses_nil C (oes1 (ov_var h1)) fun vs s₁ μ₁ a₁ hvs=>kwAll_cons (oy (C.go a₁) (ov_var h2) fun w s₂ μ₂ a₂ hw=>kwAll_nil ⟨hK _ a₂.i.tab,?_⟩)) (not_starred stx [] env))))
  exact ves1 (m:=fun vs=>wpAny _ A (call (.ref a) ([] ++ vs) _) Q E s₂) hvs fun u hu=>wpAny_call (hC hf he (C.ha.mono (Nat.le_add_right _ _)) a₂.i (C.he.step (a₁.trans a₂).t).size a₂.so (.cons (hu.pre a₂.t.pre) (.cons hw .nil)) (g.after (a₁.trans a₂)))
end
end Kt
end
section
open PySem PySem.W PyProof.Rows PySem.Calls Builtin
namespace Kt
noncomputable def o_nmN:List Str:=["self", "token"]
noncomputable def o_fnN:OF:=⟨2,1,[],.nil⟩
noncomputable def noX:Nat→Scope→Expr→Bool:=fun _ _ _=>false
noncomputable def nextIsC (K:Frag) (cA fA:Nat→Option Addr) (sc:Scope) (value:Expr) (test:Expr):List Bool:=[globOk sc "StopIteration",sc.names.lookup ("token" : Str) == some .local,!isComp value,chkOE K cA fA noX o_nmN sc o_nx1 value,chkOE K cA fA noX o_nmN sc o_nx2 test]
noncomputable def nextBody (K:Frag) (cA fA:Nat→Option Addr) (sc:Scope) (body:List Stmt):Bool :=
  onC body fun z8 r9=>onC r9 fun z10 r11=>on1 r11 fun z12=>onStAssign z8 fun z13 value p2=>on1 z13 fun z14=>onName z14 fun z15 p1=>z15 == ("token" : Str) && (onStIf z10 fun test z16 z17 p5=>on1 z16 fun z18=>onStRaise z18 fun z19 z20 p4=>onS z19 fun z21=>onName z21 fun z22 p3=>z22 == ("StopIteration" : Str) && (z20.isNone && (z17.isEmpty && (onStReturn z12 fun z23 p7=>onS z23 fun z24=>onName z24 fun z25 p6=>z25 == ("token" : Str) && ((nextIsC K cA fA sc value test).all id)))))
theorem nextBodyK {K:Frag} {cA fA:Nat→Option Addr} {sc:Scope} {body:List Stmt} {m:List Stmt→Prop} (h:nextBody K cA fA sc body = true) (k:∀ (p1:Pos) (value:Expr) (p2:Pos) (test:Expr) (p3 p4 p5 p6 p7:Pos),(nextIsC K cA fA sc value test).all id = true →
    m [(.Assign [(.Name ("token" : Str) p1)] value p2),(.If test [(.Raise (some (.Name ("StopIteration" : Str) p3)) none p4)] [] p5),(.Return (some (.Name ("token" : Str) p6)) p7)]):m body:=by
  apply onCK h; intro z8 r9 h; apply onCK h; intro z10 r11 h; apply on1K h; intro z12 h; apply onStAssignK h; intro z13 value p2 h; apply on1K h; intro z14 h; apply onNameK h; intro z15 p1 h; refine andK h fun z h=>?_; apply beqK z; apply onStIfK h; intro test z16 z17 p5 h; apply on1K h; intro z18 h; apply onStRaiseK h; intro z19 z20 p4 h; apply onSK h; intro z21 h; apply onNameK h; intro z22 p3 h; refine andK h fun z h=>?_; apply beqK z; refine andK h fun z h=>?_; apply noneK z; refine andK h fun z h=>?_; apply nilK z; apply onStReturnK h; intro z23 p7 h; apply onSK h; intro z24 h; apply onNameK h; intro z25 p6 h; refine andK h fun z h=>?_; apply beqK z; exact k _ _ _ _ _ _ _ _ _ h
abbrev ND (Z:Zone) (cA:Nat→Option Addr) (cl:OCl) (lvl:Nat) (nm:List Str):OD:=⟨Z,cA,cl,fun _ _ _=>none,lvl,nm⟩
section
variable {Z:Zone} {cA fA:Nat→Option Addr} {cl:OCl} {lvl:Nat} {K:Frag} {μ μ':List Addr} {h h':Heap} {S:Addr} {l v:OV} {st st':St} {A:Around} {s:Shared} {x:Addr}
theorem next_call {a:Addr} {fd:FuncData} {body:List Stmt} (X:∀ fr,OCx ((ND Z cA cl lvl o_nmN).at fr) K fA noX) (F:OFnAt Z a fd body o_nmN o_fnN) (hck:nextBody K cA fA fd.scope body = true) {r:Option OV} (hd:nextO cl l st = some (r,st'))
    {w:Value} {Q E:Value→Shared→Prop} (hA:AOk Z (8 * (lvl + 1)) A) (hI:Inv Z s) (hsz:Z.n ≤ s.heap.objs.size) (S:Sto Z cA μ st s.heap) (hw:VE μ w l)
    (hQ:∀ v,r = some v→OGot Z cA μ s.heap st' v Q) (hE:r = none→∀ s' μ' e,OAt Z cA noL μ s.heap μ' st' s'→s'.TypeIs (.ref e) "StopIteration" → E (.ref e) s'):wpAny (model Z.prog Z.w) A (call (.ref a) [w]) Q E s :=
  bnd2 hd fun tk st1 h1 hd=>mapK hd fun bs h2 e=>by
  obtain ⟨b,st2⟩:=bs
  cases e
  obtain ⟨all,hb,hall,hval⟩:=OFnAt.binds (D:=ND Z cA cl lvl o_nmN) (pf:=o_fnN) (ρ:=[some l,none]) F hI (vs:=[w]) (args:=[l]) (.cons hw .nil) rfl
  refine wpAny_call (oframe (D:=ND Z cA cl lvl o_nmN) F hb hall hval hA hI hsz S fun env s₁ hfm C out _=>?_)
  have XX:=X (env.locals :: Z.fr)
  have hnd:o_nmN.Nodup:=F.nd
  apply nextBodyK hck; intro p1 value p2 test p3 p4 p5 p6 p7 hz
  have c5:=eq_of_beq (allAt hz 1 rfl)
  refine wpAny_execs_cons (osx_assign (fuel:=0) (x:=1) (n := "token") (p:=o_nx1) hnd rfl c5 (notT (allAt hz 2 rfl)) (soundOE XX o_nx1 (allAt hz 3 rfl)).1 C (congrArg (Option.map _) h1) fun fl s₂ μ₂ a₂ g=>?_)
  obtain ⟨rfl,e₂⟩:=g
  have C₂:=C.to a₂ e₂
  refine wpAny_execs_cons (wpAny_If ((soundOE XX o_nx2 (allAt hz 4 rfl)).2 C₂ h2 fun s₃ μ₃ a₃=>?_))
  have C₃:=C₂.go a₃
  have a₂₃:=a₂.trans (C₂.inL a₃)
  cases b with
  | false =>
    refine wpAny_execs_nil (wpAny_execs_cons (osx_ret (D:=(ND Z cA cl lvl o_nmN).at (env.locals :: Z.fr)) (fuel:=0) (ose_var (x:=1) (n := "token") rfl c5 (by decide)) C₃ (r:=(.ret tk,st2)) rfl fun fl s₄ μ₄ a₄ g=>?_))
    obtain ⟨u,rfl,hu⟩:=g
    exact hQ tk rfl u s₄ μ₄ (out (a₂₃.trans a₄)) hu
  | true =>
    refine wpAny_execs_cons (owsi_raiseC C₃.ha.handled (C₃.blt XX.b (allAt hz 0 rfl) (by decide) ⟨rfl,rfl⟩) fun h' e hm=>?_)
    obtain ⟨fs,hf1,hf2⟩:=hA.frames
    have hfr:(A.deeper env).frames = some (env :: fs):=by show A.frames.map _ = _; rw [hf1]; rfl
    obtain ⟨fs',hf3,hf4⟩:=C₃.ha.frames
    cases hfr.symm.trans hf3
    refine wpAny_leaves_madeW (base:=hide s₃.heap (env.locals :: Z.fr)) (h:=s₃.heap) hfr hfm (stays_hide _ _) (funFrames_of C₃.hi hf4) hm.of fun h'' t x1 x2 x3 x4=>?_
    have g2:∀ b o,s₃.heap.get? b = some o→(∀ vs,o.data ≠ .fields vs)→∃ sl,h''.get? b = some { o with slots:=sl }:=fun b o e hn=>x4 b o (hm.keeps b o e) hn
    obtain ⟨oe,vs,he,hc,_⟩:=x1.first
    exact hE rfl _ μ₃ e (out (a₂₃.trans (C₃.inL (C₃.at.kp (inv_of_stays (tk:=s₃.toks) C₃.hi x1.1 g2) (kp_of_stays C₃.hi x1.1 g2))))) ⟨oe,he,hc⟩
theorem fr_cut {L:Addr} {m:Str→Option Value} (K0:K.In Z.h₀) (X:K.In h) (hL:Z.n ≤ L) (hn:h.Ns L m):∃ h₀,Fr h₀ L h m ∧ K.In h₀:=by
  have hlt:L < h.objs.size:=hn.lt
  have key:∀ a,a < L→({ h with objs:=h.objs.extract 0 L }:Heap).get? a = h.get? a:=fun a ha=>by
    refine Option.ext fun o=>?_
    rw [Heap.get?_some_iff,Heap.get?_some_iff]
    show (h.objs.extract 0 L)[a]? = _ ∧ _ ↔ _
    rw [Array.getElem?_extract,if_pos (by rw [Nat.sub_zero,Nat.min_eq_left (Nat.le_of_lt hlt)]; exact ha),Nat.zero_add]
  have hsz:(h.objs.extract 0 L).size = L:=by rw [Array.size_extract,Nat.sub_zero,Nat.min_eq_left (Nat.le_of_lt hlt)]
  exact ⟨{ h with objs:=h.objs.extract 0 L },⟨hn,fun b o e=>(key b (hsz ▸ Heap.lt_size e)).symm.trans e,Nat.le_of_eq hsz⟩,fun a o e=>(key a (Nat.lt_of_lt_of_le (Heap.lt_size (K0 a o e)) hL)).trans (X a o e)⟩
noncomputable def iterOk (K:Frag) (C fi fn:Addr):Bool:=findIn K (.ref C) "__iter__" == some (some (.ref fi)) && (isFn K (.ref fi) && (findIn K (.ref C) "__next__" == some (some (.ref fn)) && (isFn K (.ref fn) &&
  (findIn K (.ref C) "__len__" == some none && findIn K (.ref C) "__length_hint__" == some none))))
theorem next_inst {r:Option OV × St} (hd:nextO cl l st = some r):∃ k es,instO 0 st l = some (k,es):=bndK hd fun p h1 _=>bnd2 h1 fun l' st' h2 h3=>mapP h2 fun h4 e=>by
  cases (show some l = some l' from h4)
  subst e
  exact bnd2 h3 fun k es h5 _=>⟨k,es,h5⟩
theorem Sto.instAt {C k:Nat} {o:OV} {es:List (Str × OV)} {c:Nat} (Ss:Sto Z cA μ st h) (e:instO c st o = some (k,es)) (hC:cA c = some C) (hx:VE μ (.ref x) o):∃ dx ox,InstAt h x (instObj C dx) C (some ox) :=
  Ss.instK hC e hx fun y dx ents n sl ew _ II _=>by cases ew; exact ⟨dx,_,II⟩
variable {D:OD} {sc:Scope} {env:Env} {ρ:LO} {A':Around}
theorem Oc.cut (C:Oc D sc A env ρ μ st s) (K0:K.In D.Z.h₀) (hK:∀ h,D.Z.TabI h→K.In h):∃ h₀ m,Fr h₀ env.locals s.heap m ∧ K.In h₀:=let ⟨m,hm,_⟩:=C.he.ns; let ⟨h₀,a,b⟩:=fr_cut K0 (hK _ C.hi.tab) C.he.new hm; ⟨h₀,m,a,b⟩
theorem tok_loop {C' fi fn k:Addr} {fd:FuncData} {body:List Stmt} (X:∀ fr,OCx ((ND D.Z D.cA D.cl lvl o_nmN).at fr) K fA noX) (FN:OFnAt D.Z fn fd body o_nmN o_fnN) (hck:nextBody K D.cA fA fd.scope body = true) (hC:D.cA 0 = some C') (hit:iterOk K C' fi fn = true)
    (hA:AOk D.Z (8 * (lvl + 1)) A'.in1) {R:Result→Shared→Prop} (n:Nat):∀ {st:St} {s:Shared} {μ:List Addr},tokensO D.cl n l k st = some (v,st')→Oc D sc A env ρ μ st s→VE μ (.ref x) l→μ[k]? = some S →
      (∀ s' μ',v = .o k→OAt D.Z D.cA noL μ s.heap μ' st' s'→R (.ok (.ret .none)) s')→codeAny (model D.Z.prog D.Z.w) A' (.builtin "list.extend.loop" ⟨[.ref S,.ref x,.none],[]⟩) R s:=by
  induction n with
  | zero=>exact fun hd=>nomatch hd
  | succ n ih =>
    intro st s μ hd C hx hS hR
    refine bndK hd fun r h1 hd=>?_
    obtain ⟨r,st1⟩:=r
    obtain ⟨k',es,hin⟩:=next_inst h1
    obtain ⟨dx,ox,II⟩:=C.so.instAt hin hC hx
    obtain ⟨h₀,m,FF,XF⟩:=C.cut (X D.Z.fr).k0 (X D.Z.fr).k
    have i:=(andT (andT hit).2).2
    refine codeAny_builtin F.entry_extend_loop ?_
    rw [Around.under_plainId F.plain_extend_loop _]
    show wpAny _ A'.in1 (pyNext (.ref x) >>= _) _ _ s
    refine wpAny_bind (owit_next FF XF II (eq_of_beq (andT i).1) (andT (andT i).2).1 (next_call X FN hck h1 hA C.hi C.he.size C.so hx (fun u hu w s₁ μ₁ a₁ hw=>?_) fun hr s' μ₁ e a₁ hT=>?_))
    · subst hu
      exact bndK hd fun st2 hp hd=>by
        show wpAny _ A'.in1 (updateSeq S (·.push w) >>= _) _ _ _
        refine wpAny_bind (opush0 a₁ hp (pre_get a₁.t.pre hS) hw fun s₂ a₂=>wpAny_pure ⟨plainId_quiet F.plain_extend_loop _,?_⟩).2
        exact ih hd (C.go a₂) (hx.pre a₂.t.pre) (pre_get a₂.t.pre hS) fun s' μ' e a₃=>hR s' μ' e (a₂.trans a₃)
    · subst hr
      cases hd
      unfold OwitStop
      refine wpAny_isInstance (b:=true) hT (by rw [isSubtype_type]; kernel_rfl) ?_
      show (if true = true then _ else _)
      rw [if_pos rfl]
      exact wpAny_pure (hR s' μ₁ rfl a₁)
theorem set_same {α:Type} {a:α}:∀ {l:List α} {k:Nat},l[k]? = some a→l.set k a = l
  | [],_,h=>nomatch h
  | b :: l,0,h=>congrArg (· :: l) (Option.some.inj h).symm
  | b :: l,k + 1,h=>congrArg (b :: ·) (set_same (l:=l) h)
noncomputable def o_nmI:List Str:=["self"]
noncomputable def o_fnI:OF:=⟨1,1,[],.cons (.ret (.var 0)) .nil⟩
noncomputable def ext2Ok (K:Frag) (cA fA:Nat→Option Addr):Bool:=onS (cA 0) fun C=>onS ((findIn K (.ref C) "__iter__").bind fun v=>v.bind refV) fun fi=>onS ((findIn K (.ref C) "__next__").bind fun v=>v.bind refV) fun fn =>
  iterOk K C fi fn && (ofnCheck K (fun sc body=>chkOSs K cA fA noX o_nmI sc o_fnI.body body) fi o_nmI o_fnI && ofnCheck K (nextBody K cA fA) fn o_nmN o_fnN)
noncomputable def ext2B (K:Frag) (cA:Nat→Option Addr):Prop:=onSP (cA 0) fun C=>(onSP ((findIn K (.ref C) "__iter__").bind fun v=>v.bind refV) fun fi=>BindO K fi o_nmI o_fnI) ∧ onSP ((findIn K (.ref C) "__next__").bind fun v=>v.bind refV) fun fn=>BindO K fn o_nmN o_fnN
theorem toks_inst {n k:Nat} (h:tokensO cl n l k st = some (v,st')):∃ k es,instO 0 st l = some (k,es):=by
  cases n with
  | zero=>cases h
  | succ n=>exact bndK h fun r h1 _=>next_inst h1
theorem ext2 {p pos:Pos} {y:Expr} {fuel:Nat} (hX:D.Ex fuel) (hl:D.lvl = lvl + 1) (hK:∀ h,D.Z.TabI h→K.In h) (hK0:K.In D.Z.h₀) (hlam:D.Z.lam = lamV K) (hB:OBiOk D.Z) (hCl:∀ fr,OCallOk (D.Z.at fr) D.cA D.cl lvl fA) (hb2:ext2B K D.cA) (h2:ext2Ok K D.cA fA = true) (hg:globOk sc "list" = true) (hy:isVar D.nm sc 3 y = true) :
    OSE D sc (.Call (.Name "list" p) [y] [] pos) (.ext 2):=fun {A env ρ μ st s v st' Q E} C he g=>varK ((congrFun (congrFun (congrFun hX 2) ρ) st).symm.trans he) fun l h1 he=>by
  obtain ⟨C',hC,h2⟩:=onSE h2
  obtain ⟨fi,hfi,h2⟩:=onSE h2
  obtain ⟨fn,hfn,h2⟩:=onSE h2
  obtain ⟨hit,h2⟩:=andT h2
  obtain ⟨_,e0,b1,b2⟩:=onSPE hb2
  cases hC.symm.trans e0
  obtain ⟨_,e1,b1⟩:=onSPE b1
  cases hfi.symm.trans e1
  obtain ⟨_,e2,b2⟩:=onSPE b2
  cases hfn.symm.trans e2
  obtain ⟨fdI,bodyI,FI,hckI⟩:=ofn_of_check hlam hK hK0 b1 (andT h2).1
  obtain ⟨fd,body,FN,hck⟩:=ofn_of_check hlam hK hK0 b2 (andT h2).2
  have X:∀ fr nm,OCx ((ND D.Z D.cA D.cl lvl nm).at fr) K fA noX:=fun fr nm=>⟨hK,hK0,hB,hCl fr,fun _ _ _ h=>nomatch h⟩
  have hA:AOk D.Z (8 * (lvl + 1)) A.in1.in1:=⟨C.ha.handled,by have:=C.ha.depth; rw [hl] at this; show A.depth + _ + _ < _; omega,by have:=C.ha.units; rw [hl] at this; show A.units + 1 + 1 + _ + _ < _; omega,C.ha.frames⟩
  obtain ⟨oy,sty,_⟩:=var_of hy
  refine ose_bltn (f:=.type "list") hB hg (by decide) nofun (plain_one sty) (oses_cons sty oy oses_nil) C (oes1 (ov_var h1)) fun vs s₁ μ₁ a₁ hvs=>ves1 (m:=fun vs=>wpAny _ A (call (.type "list") vs) Q E s₁) hvs fun w hw=>?_
  obtain ⟨k,es,hin⟩:=toks_inst he
  obtain ⟨j,rfl⟩:∃ j,l = .o j:=oNumK hin fun j e _=>⟨j,e⟩
  obtain ⟨x,hxj,rfl⟩:=hw
  have C₁:=C.go a₁
  refine callType_codes (Q₁:=fun obj s₂=>obj = .ref s₁.heap.objs.size ∧ s₂ = { s₁ with heap:=s₁.heap.push { cls:=.type "list",data:=.seq #[] } }) F.called_list (F.typeCall_list_1 _) F.entry_list_init
    (code_list_new _ ⟨rfl,rfl⟩) fun obj s₂ h₂=>?_
  obtain ⟨rfl,rfl⟩:=h₂
  have hSx:x ≠ s₁.heap.objs.size:=fun e=>by obtain ⟨o,ho⟩:=C₁.so.live x (List.mem_of_getElem? hxj); rw [e,get?_ge (Nat.le_refl _)] at ho; cases ho
  have a₂:=(C₁.more C₁.at (tk:=s₁.toks) (v:=fun _=>True) (f:=.list []) (o:={ cls:=.type "list",data:=.seq #[] }) ⟨#[],_,_,Heap.get?_push_size _ rfl,.nil,Nat.zero_le _⟩).1
  have hSo:(s₁.heap.push { cls:=.type "list",data:=.seq #[] }).get? s₁.heap.objs.size = some { cls:=.type "list",data:=.seq #[] }:=Heap.get?_push_size _ rfl
  have hSk:(μ₁ ++ [s₁.heap.objs.size])[st.length]? = some s₁.heap.objs.size:=by rw [← C₁.so.len]; exact List.getElem?_concat_length
  have hSl:(st ++ [FO.list []])[st.length]? = some (.list []):=List.getElem?_concat_length
  have hxj:=pre_get (List.prefix_append μ₁ [s₁.heap.objs.size]) hxj
  generalize s₁.heap.objs.size = S at *
  generalize s₁.heap.push { cls:=.type "list",data:=.seq #[] } = hS at *
  generalize μ₁ ++ [S] = μ₂ at *
  generalize st ++ [FO.list []] = st₂ at *
  generalize st.length = n at *
  refine ⟨⟨_,hSo,rfl⟩,F.args_list_init_2 _ _,?_⟩
  show wpAny _ A.in1.in1 (do let old ← Builtin.List.listItems (.ref S); Builtin.List.listUpdate (.ref S) (fun _=>#[]); letGo old.toList.reverse; Builtin.List.listExtendWith (.ref S) (.ref x) .none) _ _ _
  refine wpAny_bind ?_
  unfold Builtin.List.listItems
  refine wpAny_bind (wpAny_seqItems hSo rfl (wpAny_pure ?_))
  show wpAny _ A.in1.in1 (updateSeq S (fun _=>#[]) >>= fun _=>letGo (#[]:Array Value).toList.reverse >>= fun _=>Builtin.List.listExtendWith (.ref S) (.ref x) .none) _ _ _
  refine wpAny_bind (a₂.turnL hSk hSl (ys:=[]) (f:=fun _=>#[]) (Nat.zero_le _) (fun _=>.nil) fun s₃ a₃=>wpAny_bind (wpAny_letGo ?_)).2
  rw [set_same hSl] at a₃
  have C₃:=C₁.go a₃
  obtain ⟨dx,ox,II⟩:=C₃.so.instAt hin hC ⟨x,hxj,rfl⟩
  obtain ⟨h₀,m,FF,XF⟩:=C₃.cut hK0 hK
  obtain ⟨i1,i⟩:=andT hit
  obtain ⟨i2,i⟩:=andT i
  obtain ⟨i3,i⟩:=andT i
  obtain ⟨i5,i6⟩:=andT (andT i).2
  unfold Builtin.List.listExtendWith
  refine wpAny_bind (II.type.here ?_)
  rw [if_neg (show ¬ (Builtin.List.listSameRef (.ref S) (.ref x) || Value.ref C' == Value.type "list" || Value.ref C' == Value.type "tuple") = true from by
    rw [show Builtin.List.listSameRef (.ref S) (.ref x) = false from beq_false_of_ne (Ne.symm hSx)]; exact nofun)]
  refine wpAny_bind (owit_iter FF XF II (eq_of_beq i1) i2 (wpAny_call (ocall_fn (D:=ND D.Z D.cA D.cl lvl o_nmI) (fun fr=>X fr o_nmI) FI hckI (fuel:=0) (args:=[.o j]) (ρ:=[some (.o j)]) (v:=.o j) rfl rfl hA C₃.hi C₃.he.size C₃.so (.cons ⟨x,hxj,rfl⟩ .nil) fun w s₄ μ₄ a₄ hw=>?_)))
  have hxj₄:=pre_get a₄.t.pre hxj
  obtain ⟨x',hx',rfl⟩:=hw
  cases hxj₄.symm.trans hx'
  have C₄:=C₃.go a₄
  obtain ⟨dx₄,ox₄,II₄⟩:=C₄.so.instAt hin hC ⟨x,hxj₄,rfl⟩
  obtain ⟨h₄,m₄,FF₄,XF₄⟩:=C₄.cut hK0 hK
  refine owit_it FF₄ XF₄ II₄ (eq_of_beq i3) (wpAny_bind (wpAny_holding ?_))
  unfold Builtin.List.listLengthHint
  refine wpAny_bind (wpAny_bind (II₄.type.here ((looks_findIn (hK _ C₄.hi.tab) (eq_of_beq i5)).here ?_)))
  show wpAny _ _ (specialOf (Value.ref x) (Str.ofString "__length_hint__") >>= _) _ _ _
  refine wpAny_bind (wpAny_bind (II₄.type.here ((looks_findIn (hK _ C₄.hi.tab) (eq_of_beq i6)).here (wpAny_pure ?_))))
  show wpAny _ _ (rule "list.extend.makes-room" >>= fun _=>(updateSeq S (·.push .none) >>= fun _=>updateSeq S (·.pop)) >>= fun _=>again (.builtin "list.extend.loop" ⟨[.ref S,.ref x,.none],[]⟩)) _ _ _
  have hS₄:=pre_get a₄.t.pre hSk
  refine wpAny_bind (wpAny_rule (wpAny_bind (wpAny_bind (C₄.at.turnL hS₄ hSl (ys:=[.d .none]) (f:=(·.push .none)) (Nat.le_of_ble_eq_true rfl) (fun h=>by rw [Array.toList_push]; exact h.append (.cons ve_none .nil)) fun s₅ a₅ =>
    (a₅.turnL hS₄ (List.getElem?_set_self (getLe hSl)) (ys:=[]) (f:=(·.pop)) (Nat.zero_le _) (fun h=>?_) fun s₆ a₆=>wpAny_pure ⟨plainId_quiet F.plain_extend_loop _,?_⟩).2).2)))
  · rw [Array.toList_pop]
    exact ves1 (m:=fun l=>VEs μ₄ l.dropLast []) h fun _ _=>.nil
  · rw [List.set_set,set_same hSl] at a₆
    exact tok_loop (fun fr=>X fr o_nmN) FN hck hC hit hA fuel he (C₄.go a₆) ⟨x,hxj₄,rfl⟩ hS₄ fun s₇ μ₇ e a₇=>⟨rfl,g _ _ _ (a₁.trans (a₃.trans (a₄.trans (a₆.trans a₇)))) (by subst e; exact ⟨S,pre_get a₇.t.pre hS₄,rfl⟩)⟩
end
end Kt
end
section
open PySem PySem.W PyProof.Rows PySem.Calls Builtin
namespace Kt
noncomputable def escS (c:Nat):Str:=if specC c then ⟨#[92,c]⟩ else ⟨#[c]⟩
section
variable {prog:Program} {w:World} {A:Around} {E:Value→Shared→Prop} {s:Shared}
theorem get_miss {d:Addr} {f:Int→Option Value} {k:Int} {t:Tok} {Q:Value→Shared→Prop} (hm:s.heap.IntMap d f) (hf:f k = none) (hh:A.handled = none)
    (h:∀ h' tk e,Heap.NewExc s.heap h' e "KeyError" → E (.ref e) { s with heap:=h',toks:=tk }):wpAny (model prog w) A (getItem (.ref d) (.int k t)) Q E s:=by
  unfold getItem
  refine wpAny_holding ?_
  refine wpAny_bind (wpAny_sequenceKey hm.typeIs (by decide) ?_)
  refine wpAny_bind (wpAny_callSpecial?_slot (name:=Str.ofString "__getitem__") hm.typeIs slot_dict_getitem
    (wpAny_call_entry slot_dict_getitem hm.typeIs entry_dict_getitem ?_ (args_dict_getitem _ _)))
  show wpAny _ _ (dictGet d (.int k t) >>= _) _ _ s
  refine wpAny_bind (wpAny_dictGet_int hm ?_)
  rw [hf]
  show wpAny _ _ (Builtin.Dict.missed d (.int k t) >>= _) _ _ _
  refine wpAny_bind (wpAny_missed_int ?_)
  refine wpAny_bind (wpAny_typeOf (s:={ s with toks:=s.toks + 1 }) hm.typeIs ?_)
  show wpAny _ _ (if (Value.type "dict" != Value.type "dict") = true then _ else _) _ _ _
  rw [if_neg (by decide)]
  exact wpAny_bind (wpAny_rule (wpAny_raise_newExc plainExc_KeyError hh fun h' e hn=>h h' _ e hn))
theorem tl_hit {d:Addr} {f:Int→Option Value} {c:Nat} {x:Str} {tt:Tok} {Q:Builtin.Str.Mapped→Shared→Prop} (hm:s.heap.IntMap d f) (hf:f c = some (.str x tt)) (h:∀ tk,Q (.text x) { s with toks:=tk }):wpAny (model prog w) A (Builtin.Str.tableLookup (.ref d) c) Q E s:=by
  unfold Builtin.Str.tableLookup
  refine wpAny_bind (wpAny_attempt (wpAny_bind (wpAny_mkInt (wpAny_getItem_intMap (s:={ s with toks:=_ }) hm hf ?_))))
  dsimp only
  have L1:∀ h,Looks (model prog w) h (asInt? (.str x tt)) none:=fun _=>Looks.of_pure (by kernel_rfl)
  have L2:∀ h,Looks (model prog w) h (asStr? (.str x tt)) (some x):=fun _=>Looks.of_pure (by kernel_rfl)
  refine wpAny_bind ((L1 _).here ?_)
  refine wpAny_bind ((L2 _).here ?_)
  exact wpAny_pure (h _)
theorem tl_miss {d:Addr} {f:Int→Option Value} {c:Nat} {Q:Builtin.Str.Mapped→Shared→Prop} (hm:s.heap.IntMap d f) (hf:f c = none) (hh:A.handled = none) (h:∀ h' tk,(∀ b o,s.heap.get? b = some o→h'.get? b = some o)→Q .keep { s with heap:=h',toks:=tk }) :
    wpAny (model prog w) A (Builtin.Str.tableLookup (.ref d) c) Q E s:=by
  unfold Builtin.Str.tableLookup
  refine wpAny_bind (wpAny_attempt (wpAny_bind (wpAny_mkInt (get_miss (s:={ s with toks:=_ }) hm hf hh fun h' tk e hn=>?_))))
  dsimp only
  obtain ⟨ob,t0,he,hc,hd⟩:=hn.there
  refine wpAny_bind (wpAny_isInstance (T := "KeyError") ⟨ob,he,hc⟩ (b:=true) (by rw [isSubtype_type]; kernel_rfl) ?_)
  rw [if_pos rfl]
  exact wpAny_bind (wpAny_rule (wpAny_pure (h h' tk hn.keeps)))
theorem call_translate {d:Addr} {f:Int→Option Value} {c:Nat} {t0:Tok} {Q:Value→Shared→Prop} (hm:s.heap.IntMap d f) (hf:f c = if specC c then (f c) else none) (hs:specC c = true→∃ tt,f c = some (.str ⟨#[92,c]⟩ tt)) (hh:A.handled = none)
    (h:∀ h' tk tt,(∀ b o,s.heap.get? b = some o→h'.get? b = some o)→Q (.str (escS c) tt) { s with heap:=h',toks:=tk }):wpAny (model prog w) A (call (.builtin "str.translate") [.str ⟨#[c]⟩ t0,.ref d]) Q E s:=by
  refine wpAny_call_entry F.slot_str_translate (typeIs_str _ _ _) F.entry_str_translate ?_ (F.args_str_translate_2 _ _)
  unfold Builtin.«str.translate»
  obtain ⟨hp,g,dr,tk,os⟩:=s
  have hall:(#[c].all fun x=>decide (x < 128)) = decide (c < 128):=by simp
  repeat lk
  rw [hall]
  have hgc:#[c][#[c].size - 1 - 0] = c:=rfl
  rw [hgc]
  cases hsp:specC c with
  | true =>
    obtain ⟨tt,hfc⟩:=hs hsp
    have hlt:c < 128:=by
      exact (List.all_eq_true.mp (show ([40,41,91,93,123,125,63,42,43,45,124,94,36,92,46,38,126,35,32,9,10,13,11,12].all fun c=>decide (c < 128)) = true from rfl) c (List.contains_iff_mem.mp hsp) |> of_decide_eq_true)
    rw [decide_eq_true hlt]
    repeat (first | with_reducible refine tl_hit hm hfc (fun tk=>?_) | lk)
    have he:escS c = ⟨#[92,c]⟩:=by unfold escS; rw [hsp]; rfl
    rw [he] at h
    exact ⟨_,rfl,h _ _ _ fun _ _ e=>e⟩
  | false =>
    rw [hsp,if_neg (by decide)] at hf
    have he:escS c = ⟨#[c]⟩:=by unfold escS; rw [hsp]; rfl
    rw [he] at h
    by_cases hlt:c < 128
    · rw [decide_eq_true hlt]
      repeat (first | with_reducible refine tl_miss hm hf hh (fun h' tk hk=>?_) | lk)
      exact ⟨_,rfl,h _ _ _ hk⟩
    · rw [decide_eq_false hlt]
      repeat (first | with_reducible refine tl_miss hm hf hh (fun h' tk hk=>?_) | lk)
      exact ⟨_,rfl,h _ _ _ hk⟩
end
noncomputable def entOk (k:Nat) (e:DictEntry):Bool:=onInt e.key fun j _=>j == (k:Int) && (e.hash == hashInt k && onStr e.val fun x _=>x == ⟨#[92,k]⟩)
noncomputable def entsOk:List Nat→List DictEntry→Bool
  | [],es=>es.isEmpty
  | k :: ks,es=>onC es fun e r=>entOk k e && entsOk ks r
noncomputable def onDict (e:Data) (f:Array DictEntry→Nat→Bool):Bool:=if h:e.ctorIdx = 3 then Data.dict.elim e h f else false
theorem onDictE {e:Data} {f:Array DictEntry→Nat→Bool} (h:onDict e f = true):∃ a n,e = .dict a n ∧ f a n = true:=by
  by_cases c:e.ctorIdx = 3
  · exact Data.dict.elim (motive:=fun e=>onDict e f = true→∃ a n,e = .dict a n ∧ f a n = true) e c (fun a n h=>⟨a,n,rfl,h⟩) h
  · rw [onDict,dif_neg c] at h; cases h
noncomputable def specL:List Nat:=[40,41,91,93,123,125,63,42,43,45,124,94,36,92,46,38,126,35,32,9,10,13,11,12]
theorem entOkE {k:Nat} {e:DictEntry} (h:entOk k e = true):∃ t tt,e.key = .int k t ∧ e.val = .str ⟨#[92,k]⟩ tt ∧ e.hash = hashInt k:=by
  obtain ⟨hs,ke,ve⟩:=e
  refine onIntK (e:=ke) (m:=fun ke=>∃ t tt,ke = .int k t ∧ ve = .str ⟨#[92,k]⟩ tt ∧ hs = hashInt k) h fun j t h=>andK h fun h1 h=>onStrK (e:=ve) (m:=fun ve=>∃ t' tt,Value.int j t = .int k t' ∧ ve = .str ⟨#[92,k]⟩ tt ∧ hs = hashInt k) (andT h).2 fun x tt h3=>⟨t,tt,by rw [eq_of_beq h1],by rw [eq_of_beq h3],eq_of_beq (andT h).1⟩
theorem find_ents (c:Nat):∀ {ks:List Nat} {l:List DictEntry},entsOk ks l = true →
    (∀ e ∈ l,∃ k:Nat,∃ t,e.key = .int k t ∧ e.hash = hashInt k) ∧ (ks.contains c = false→(l.find? fun e=>Value.isInt c e.key).map (·.val) = none) ∧ (ks.contains c = true→∃ tt,(l.find? fun e=>Value.isInt c e.key).map (·.val) = some (.str ⟨#[92,c]⟩ tt))
  | [],l,h=>nilK (m:=fun l:List DictEntry=>(∀ e ∈ l,∃ k:Nat,∃ t,e.key = .int k t ∧ e.hash = hashInt k) ∧ (_→(l.find? fun e=>Value.isInt c e.key).map (·.val) = none) ∧ (_→∃ tt,(l.find? fun e=>Value.isInt c e.key).map (·.val) = some (.str ⟨#[92,c]⟩ tt))) h ⟨fun _ h=>(nomatch h),fun _=>rfl,fun h=>(nomatch h)⟩
  | k :: ks,l,h=>by
    apply onCK h; intro e r h
    obtain ⟨t,tt,h1,h2,h3⟩:=entOkE (andT h).1
    obtain ⟨i0,i1,i2⟩:=find_ents c (andT h).2
    have hi:Value.isInt c e.key = (c == k):=by
      rw [h1]
      show ((k:Int) == (c:Int)) = _
      by_cases e:c = k
      · subst e; rw [beq_self_eq_true,beq_self_eq_true]
      · rw [beq_false_of_ne e]; exact beq_false_of_ne fun h=>e (Int.ofNat.inj h).symm
    rw [List.find?_cons,hi,List.contains_cons]
    refine ⟨fun e' he=>(List.mem_cons.mp he).elim (fun e=>e ▸ ⟨k,t,h1,h3⟩) (i0 e'),?_⟩
    by_cases e':c = k
    · subst e'
      rw [beq_self_eq_true]
      exact ⟨fun h=>(nomatch h),fun _=>⟨tt,congrArg some h2⟩⟩
    · rw [beq_false_of_ne e']
      exact ⟨i1,i2⟩
noncomputable def ext6Ok (K:Frag):Bool:=onS (globK K "_special_chars_map") fun v=>onRef v fun d=>onS (K.lookup d) fun o=>o.cls == .type "dict" && onDict o.data fun es _=>entsOk specL es.toList
section
variable {D:OD} {sc:Scope} {K:Frag} {fuel:Nat}
theorem okD_esc {c:Nat} (h:okD (.str ⟨#[c]⟩) = true):okD (.str (escS c)) = true:=by
  have h1:=(okS h).1
  have h92:PyData.strOk ⟨#[92]⟩ = true:=by kernel_rfl
  unfold escS
  by_cases hs:specC c = true
  · rw [if_pos hs]
    exact okD_str_append (x:=⟨#[92]⟩) (y:=⟨#[c]⟩) (okS' h92 (by decide)) h (Nat.le_of_ble_eq_true rfl)
  · rw [if_neg hs]; exact h
theorem ext6 {p apos pos:Pos} {x:Expr} (hX:D.Ex fuel) (hK:∀ h,D.Z.TabI h→K.In h) (hK0:K.In D.Z.h₀) (hok:ext6Ok K = true) (hg:globOk sc "_special_chars_map" = true) (hx:isVar D.nm sc 0 x = true) (hline:(apos.endLine == pos.line) = true) :
    OSE D sc (.Call (.Attribute x "translate" apos) [.Name "_special_chars_map" p] [] pos) (.ext 6):=fun {A env ρ μ st s v st' Q E} C he g =>
  varK ((congrFun (congrFun (congrFun hX 6) ρ) st).symm.trans he) fun xs h1 he=>sgnOK he fun c ec he=>by
  subst ec
  cases he
  obtain ⟨ox,stx,c0⟩:=var_of hx
  obtain ⟨w,hd,hok⟩:=onSE hok
  obtain ⟨d,rfl,hok⟩:=onRefE hok
  obtain ⟨o,hl,hok⟩:=onSE hok
  obtain ⟨es,ep,hdd,hm⟩:=onDictE (andT hok).2
  refine wpAny_Call_method_lateS (attributeBase_of c0 _ _ _) (few_ok (plain_one rfl) (Nat.le_of_ble_eq_true rfl)) hline (ox C (ov_var h1) fun w s₁ μ₁ a₁ hw=>?_)
  obtain ⟨t,rfl,hokc⟩:∃ t,w = .str ⟨#[c]⟩ t ∧ okD (.str ⟨#[c]⟩) = true:=veS (m:=fun w=>∃ t,w = .str ⟨#[c]⟩ t ∧ okD (.str ⟨#[c]⟩) = true) hw fun t ok=>⟨t,rfl,ok⟩
  refine ⟨"str",_,F.plainAttrs_str,F.slot_str_translate,F.type_str_translate,typeIs_str _ _ _,nofun,callWith_nonref nofun ((plain_one rfl).1 env pos) (evalArgs_of ((plain_one rfl).2.1 nofun env pos) ?_)⟩
  rw [not_starred rfl]
  refine Calls.spliced_cons ((C.go a₁).glob hg (globK_eq hK0 hd) (Calls.spliced_nil ?_))
  obtain ⟨f0,f1,f2⟩:=find_ents c hm
  have hfb:findBy Value.isInt es (c:Int) = (es.toList.find? fun e=>Value.isInt c e.key).map (·.val):=by unfold findBy; rw [← Array.find?_toList]
  refine call_translate (f:=fun k=>findBy Value.isInt es k) ⟨o,es,ep,hK _ a₁.i.tab _ _ hl,eq_of_beq (andT hok).1,hdd,fun e he=>?_,fun _=>rfl⟩ ?_ (fun h=>by rw [hfb]; exact f2 h) C.ha.handled fun h' tk tt hk=>g _ _ _ (a₁.kp (a₁.i.full (tk:=tk) hk) (.of hk)) (ve_str (okD_esc hokc))
  · obtain ⟨k,t,h1,h2⟩:=f0 e (Array.mem_toList_iff.mpr he)
    exact ⟨_,_,h1,h2⟩
  · rw [hfb]
    cases hs:specC c with
    | true=>rfl
    | false=>exact (f1 hs)
end
end Kt
end
section
open PySem PySem.W PyProof.Rows PySem.Calls Builtin Builtin.Re
namespace Kt
theorem sgn_cases {m:Nat→Prop} {c:Nat} (h:sgnC c = true) (h1:m 97 ∧ m 39 ∧ m 91 ∧ m 32 ∧ m 34 ∧ m 42 ∧ m 92 ∧ m 93 ∧ m 63 ∧ m 35 ∧ m 45 ∧ m 98 ∧ m 33) (h2:∀ k,m (k + 256)):m c:=by
  refine (Bool.or_eq_true_iff.mp h).elim (fun h=>?_) fun h=>Nat.sub_add_cancel (of_decide_eq_true h) ▸ h2 (c - 256)
  obtain ⟨a1,a2,a3,a4,a5,a6,a7,a8,a9,b1,b2,b3,b4⟩:=h1
  have key:∀ c ∈ [97,39,91,32,34,42,92,93,63,35,45,98,33],m c:=by
    simp only [List.forall_mem_cons]
    exact ⟨a1,a2,a3,a4,a5,a6,a7,a8,a9,b1,b2,b3,b4,fun _ h=>nomatch h⟩
  exact key c (List.contains_iff_mem.mp h)
theorem occ_one {y:Nat} (h:sgnC y = true):Builtin.Str.occurrences ⟨#[y]⟩ "'" 0 1 2 = bif y == 39 then [0] else [] :=
  sgn_cases (m:=fun y=>Builtin.Str.occurrences ⟨#[y]⟩ "'" 0 1 2 = bif y == 39 then [0] else []) h (by refine ⟨?_,?_,?_,?_,?_,?_,?_,?_,?_,?_,?_,?_,?_⟩ <;> kernel_rfl) fun k=>by kernel_rfl
noncomputable def repS (c:Nat):Str:=bif c == 39 then "'\"'\"'" else ⟨#[c]⟩
theorem call_repl {prog:Program} {w:World} {A:Around} {R:Result→Shared→Prop} {s:Shared} {c:Nat} {t t1:Tok} (hsg:sgnC c = true) (h1:(t1 == 0) = false) (h:∀ tk tk',R (.ok (.ret (.str (repS c) tk))) { s with toks:=tk' }):codeAny (model prog w) A (.call (.builtin "str.replace") ⟨[.str ⟨#[c]⟩ t,.str "'" t1,.str "'\"'\"'" (t1 + 1)],[]⟩) R s:=by
  have ho:Builtin.Str.occurrences ⟨#[c]⟩ "'" 0 (Str.length ⟨#[c]⟩) (Str.length ⟨#[c]⟩ + 1) = _:=occ_one hsg
  refine codeAny_call_builtin F.slot_str_replace.plain F.entry_str_replace (F.slot_str_replace.check _ _ _ _ _ _ _ _ (typeIs_str _ _ _) (F.args_str_replace_3 _ _ _) (gives_str_replace ⟨#[c]⟩ "'" "'\"'\"'" t t1 (t1 + 1) (fun h=>?_) _ _ _ _ _ ?_))
  · rw [ho] at h ⊢
    cases hy:c == 39 with
    | true=>exact ⟨by rw [h1]; rfl,beq_false_of_ne (Nat.ne_of_lt (Nat.lt_succ_self _)),by decide,by kernel_rfl⟩
    | false=>rw [hy] at h; cases h
  · rw [ho]
    unfold repS at h
    cases hy:c == 39 with
    | true=>rw [hy] at h; exact ⟨by show 5 ≤ _; decide,h _ _⟩
    | false=>rw [hy] at h; exact h _ _
theorem str_constK {t:Str} {e:Expr} {m:Expr→Prop} (h:isStrC t e = true) (k:∀ a p,m (.Constant (.str t) a p)):m e:=onConstantK h fun c a p h=>beqK (m:=fun c=>m (.Constant c a p)) h (k a p)
noncomputable def code5:List Nat:=[14,14,4,1,1,9,0,64,0,1342177280,0,0,0,0,0,17,0,13,11,9,0,64,0,1342177280,0,0,0,0,0,17,1,1]
noncomputable def itL:List Nat→(Nat→Tok)→List Value
  | [],_=>[]
  | n :: ns,τ=>.int n (τ 0) :: itL ns fun i=>τ (i + 1)
abbrev patObj (a0 a1 a3 a4:Value) (g:Int) (k2 k6:Tok) (t:Addr) (dd:Option Addr) (sl:Array (Option Value)):Obj:={ cls:=.type "re.Pattern",dict:=dd,data:=.fields #[a0,a1,.int g k2,a3,a4,.ref t,.int 0 k6],slots:=sl }
abbrev tupObj (items:Array Value) (n:Nat) (dd:Option Addr) (sl:Array (Option Value)):Obj:={ cls:=.type "tuple",dict:=dd,data:=.seq items n,slots:=sl }
abbrev mTup:Obj:={ cls:=.type "tuple",data:=.seq #[rawInt 0,rawInt 1] }
abbrev mObj (x:Value) (p:Addr) (t:Addr):Obj:={ cls:=.type "re.Match",data:=.fields #[x,.ref p,rawInt 0,rawInt 1,rawInt (-1),.ref t] }
theorem onCE {α:Type} {l:List α} {f:α→List α→Bool} (h:onC l f = true):∃ a r,l = a :: r ∧ f a r = true:=onCK (m:=fun l=>∃ a r,l = a :: r ∧ f a r = true) h fun a r h=>⟨a,r,rfl,h⟩
theorem on1E {α:Type} {l:List α} {f:α→Bool} (h:on1 l f = true):∃ a,l = [a] ∧ f a = true:=on1K (m:=fun l=>∃ a,l = [a] ∧ f a = true) h fun a h=>⟨a,rfl,h⟩
theorem onIntE {e:Value} {f:Int→Tok→Bool} (h:onInt e f = true):∃ a b,e = .int a b ∧ f a b = true:=onIntK (m:=fun e=>∃ a b,e = .int a b ∧ f a b = true) h fun a b h=>⟨a,b,rfl,h⟩
noncomputable def itOk:List Nat→List Value→Bool
  | [],vs=>vs.isEmpty
  | n :: ns,vs=>onC vs fun v r=>onInt v (fun i _=>i == (n:Int)) && itOk ns r
theorem itOk_of:∀ {ns:List Nat} {vs:List Value},itOk ns vs = true→∃ τ,vs = itL ns τ
  | [],_,h=>⟨fun _=>0,List.isEmpty_iff.mp h⟩
  | n :: ns,vs,h=>by
    obtain ⟨v,r,e,h⟩:=onCE h
    obtain ⟨i,t,ev,hi⟩:=onIntE (andT h).1
    obtain ⟨τ,er⟩:=itOk_of (andT h).2
    exact ⟨fun i=>Nat.casesOn i t τ,by rw [e,ev,eq_of_beq hi,er]; rfl⟩
noncomputable def patOk (K:Frag) (p:Addr) (g:Int) (code:List Nat):Bool:=onS (K.lookup p) fun o=>o.cls == .type "re.Pattern" && (o.dict.isNone && onFields o.data fun fs=>onC fs.toList fun _ r=>onC r fun _ r=>onC r fun v r=>onInt v (fun i _=>i == g) && (onC r fun _ r=>onC r fun _ r=>onC r fun t r =>
  (on1 r fun v=>onInt v fun k _=>k == 0) && onRef t fun t=>onS (K.lookup t) fun o=>o.cls == .type "tuple" && onSeq o.data fun items=>itOk code items.toList))
theorem pat_of {K:Frag} {p:Addr} {g:Int} {code:List Nat} (h:patOk K p g code = true) {G:Prop} (go:∀ {a0 a1 a3 a4:Value} {k2 k6:Tok} {t:Addr} {sl:Array (Option Value)} {τ:Nat→Tok} {n:Nat} {dd3:Option Addr} {sl3:Array (Option Value)},K.lookup p = some (patObj a0 a1 a3 a4 g k2 k6 t none sl)→K.lookup t = some (tupObj (itL code τ).toArray n dd3 sl3)→G):G:=by
  obtain ⟨⟨oc,od,oda,osl⟩,e,h⟩:=onSE h
  obtain ⟨h1,h⟩:=andT h
  obtain ⟨h2,h⟩:=andT h
  obtain ⟨⟨fs⟩,h3,h⟩:=onFieldsE h
  obtain ⟨a0,r0,e0,h⟩:=onCE h
  obtain ⟨a1,r1,e1,h⟩:=onCE h
  obtain ⟨v,r2,e2,h⟩:=onCE h
  obtain ⟨h4,h⟩:=andT h
  obtain ⟨i,k2,ei,h4⟩:=onIntE h4
  obtain ⟨a3,r3,e3,h⟩:=onCE h
  obtain ⟨a4,r4,e4,h⟩:=onCE h
  obtain ⟨t,r5,e5,h⟩:=onCE h
  obtain ⟨h5,h⟩:=andT h
  obtain ⟨k,e6,h5⟩:=on1E h5
  obtain ⟨k,k6,ek,h5⟩:=onIntE h5
  obtain ⟨t,et,h⟩:=onRefE h
  obtain ⟨⟨pc,pd,pda,psl⟩,e',h⟩:=onSE h
  obtain ⟨h6,h⟩:=andT h
  obtain ⟨⟨items⟩,n,h7,h⟩:=onSeqE h
  obtain ⟨τ,hτ⟩:=itOk_of h
  refine go (a0:=a0) (a1:=a1) (a3:=a3) (a4:=a4) (k2:=k2) (k6:=k6) (t:=t) (sl:=osl) (τ:=τ) (n:=n) (dd3:=pd) (sl3:=psl) ?_ ?_
  · have h1:oc = _:=eq_of_beq h1
    have h2:od = none:=Option.isNone_iff_eq_none.mp h2
    have h3:oda = _:=h3
    have e0:fs = _:=e0
    rw [e,h1,h2,h3,e0,e1,e2,ei,eq_of_beq h4,e3,e4,e5,et,e6,ek,eq_of_beq h5]
  · have h6:pc = _:=eq_of_beq h6
    have h7:pda = _:=h7
    have hτ:items = _:=hτ
    rw [e',h6,h7,hτ]
end Kt
end
section
open PySem PySem.W PyProof.Rows PySem.Calls Builtin Builtin.Re
namespace Kt
noncomputable def LamTab (P:Addr) (lp:Nat × Nat) (h:Heap):Prop:=∃ ps,h.get? P = some (tabObj ps) ∧ (ps = #[] ∨ ∃ cv,ps = #[rawInt lp.1,rawInt lp.2,cv])
structure LamOk (Z:Zone) (K:Frag) (c P:Addr) (lp:Nat × Nat):Prop where
  hd:CodeHd Z.h₀ c P
  tab₀:Z.h₀.get? P = some (tabObj #[])
  out:K.lookup P = none
  ne:P ≠ mainGlobals ∧ P ≠ cStatics
  bm:Z.h₀.BuiltinsAt Z.mg P
  tab:∀ h,Z.TabI h→LamTab P lp h
  tabI:∀ h h':Heap,Z.TabI h→(∀ b o,b ≠ P→h.get? b = some o→h'.get? b = some o)→LamTab P lp h'→Z.TabI h'
section
variable {D:OD} {sc:Scope} {K:Frag} {c P:Addr} {A:Around} {env:Env} {ρ:LO} {μ:List Addr} {st:St} {s:Shared}
theorem codeHd_mp {h₀ h:Heap} (x:CodeHd h₀ c P) (g:∀ o,c ≠ P→o.cls ≠ .none→h₀.get? c = some o→h.get? c = some o):CodeHd h c P:=by
  obtain ⟨_,vs,file,tf,flags,tg,inF,text,tt,e,hc,r⟩:=x
  exact ⟨_,vs,file,tf,flags,tg,inF,text,tt,g _ r.2.2.2.2.2.2.2 (by rw [hc]; nofun) e,hc,r⟩
theorem bm_old {h₀ h:Heap} {mg:Str→Option Value} (x:h₀.BuiltinsAt mg P) (o:OldK h₀ h):h.BuiltinsAt mg P :=
  by obtain ⟨bm,ob,h1,h2,h3,h4,h5,h6,r⟩:=x; exact ⟨bm,ob,h1,h2,h3,h4,o.get_of_cls h5 (by rw [h6]; nofun),h6,r⟩
theorem LamOk.inv {Z:Zone} {lp:Nat × Nat} (LK:LamOk Z K c P lp) (hI:Inv Z s) {s':Shared} (hk:∀ b o,b ≠ P→s.heap.get? b = some o→s'.heap.get? b = some o) (hold:OldK Z.h₀ s'.heap) (hlt:LamTab P lp s'.heap) (hg:AllBare s'.gens) (hos:s'.os = s.os):Inv Z s':=by
  refine ⟨hold,?_,LK.tabI _ _ hI.tab hk hlt,hg,hos.trans hI.os,fun L hL=>?_⟩
  · obtain ⟨mc,⟨o',es,ep,e,r⟩,b⟩:=hI.lim
    exact ⟨mc,⟨o',es,ep,hk _ _ LK.ne.2.symm e,r⟩,b⟩
  · obtain ⟨h1,o',e,hd'⟩:=hI.frs L hL
    exact ⟨h1,o',hk L o' (fun e'=>Nat.lt_irrefl _ (Nat.lt_of_lt_of_le (Heap.lt_size LK.tab₀) (e' ▸ h1))) e,hd'⟩
theorem LamTab.keeps {lp:Nat × Nat} {h h':Heap} (x:LamTab P lp h) (hk:∀ b o,h.get? b = some o→h'.get? b = some o):LamTab P lp h':=x.imp fun _ x=>x.imp_left (hk _ _)
theorem lam_made {lp:Nat × Nat} (LK:LamOk D.Z K c P lp) (C:Oc D sc A env ρ μ st s) {Q:Value→Shared→Prop} (hQ:∀ f s' o,OAt D.Z D.cA noL μ s.heap μ st s'→s'.heap.get? f = some o→o.cls = .type "function" → f ∉ μ→Q (.ref f) s')
    {h':Heap} {tk:Nat} {o:Obj} (hc:o.cls = .type "function") (hsz:s.heap.objs.size ≤ h'.objs.size) (hfr:o.isFreed = false) (hx:Heap.ExtBut P s.heap h') (hold:OldK D.Z.h₀ h') (hlt:LamTab P lp h'):Q (.ref h'.objs.size) { s with heap:=h'.push o,toks:=tk }:=by
  have hI:=C.hi
  have hPn:P < D.Z.n:=Heap.lt_size LK.tab₀
  have hk:∀ b o',b ≠ P→s.heap.get? b = some o'→(h'.push o).get? b = some o':=fun b o' hb e=>Heap.get?_push_of_some _ (hx b o' hb e)
  have hP:∀ a,D.Z.n ≤ a→a ≠ P:=fun a ha e=>Nat.lt_irrefl _ (Nat.lt_of_lt_of_le (e ▸ hPn) ha)
  have hnew:∀ o',s.heap.get? h'.objs.size ≠ some o':=fun o' e=>Nat.lt_irrefl _ (Nat.lt_of_lt_of_le (Heap.lt_size e) hsz)
  have hkp:∀ b o',h'.get? b = some o'→(h'.push o).get? b = some o':=fun _ _ e=>Heap.get?_push_of_some _ e
  refine hQ _ _ o ⟨LK.inv hI hk (hold.step_keeps hkp) (hlt.keeps hkp) hI.gens rfl,⟨List.prefix_rfl,fun b o' e hb _ _=>.inl (hk b o' (fun e'=>?_) e),fun _ h hn=>absurd h hn⟩,
    ⟨C.so.len,C.so.nd,C.so.hi,fun k a f h1 h2=>(C.so.at_ k a f h1 h2).sl List.prefix_rfl fun o' e=>.inl (hk a o' (hP a (C.so.hi a (List.mem_of_getElem? h1)).1) e)⟩⟩ (Heap.get?_push_size _ hfr) hc fun hm=>let ⟨o',e⟩:=C.so.live _ hm; hnew o' e
  obtain ⟨ps,e2,_⟩:=LK.tab _ hI.tab
  rw [e',e2] at e
  cases e
  exact hb.elim (fun h=>h rfl) fun h=>hP b h e'
theorem ev_lambda {lp:Nat × Nat} {params:Arguments} {body:Expr} {lsc:Scope} {pos:Pos} {n:Str} (LK:LamOk D.Z K c P lp) (hp:pos.line = lp.1 ∧ pos.col = lp.2) (hn:lsc.names = [(n,.local)]) (hd:params.defaults = []) (hd':params.kw_defaults = []) {Q E:Value→Shared→Prop}
    (hl:D.Z.lam = .ref c) (hnm:D.nm.length = 14) (C:Oc D sc A env ρ μ st s) (hQ:∀ f s' o,OAt D.Z D.cA noL μ s.heap μ st s'→s'.heap.get? f = some o→o.cls = .type "function" → f ∉ μ→Q (.ref f) s') :
    wpAny (model D.Z.prog D.Z.w) A (eval (.Lambda params body lsc pos) env) Q E s:=by
  have hI:=C.hi
  have hcode:env.code = .ref c:=(C.he.lam hnm).trans hl
  obtain ⟨ps,hP,hps⟩:=LK.tab _ hI.tab
  have CH:=codeHd_mp LK.hd fun _ _ hc e=>hI.old.get_of_cls e hc
  have hclo:closureFor lsc env = pure []:=by unfold closureFor; rw [hn]; rfl
  refine kla_eval (show defaultsOf params env = ([],[]) from by cases params; cases hd; cases hd'; rfl) ?_
  rcases hps with rfl | ⟨cv,rfl⟩
  · refine kla_makeFunction (mg:=D.Z.mg) hclo C.he.glob hI.glob hcode CH hP (by simp [TriplesOk]) rfl LK.ne.1.symm (bm_old LK.bm hI.old) fun c' ctv h' tk hx hge hlt hrec htb=>?_
    have CX:CodeHd h' c P:=codeHd_mp CH fun _ hn _ e=>hx _ _ hn e
    exact lam_made LK C hQ (tk:=tk) rfl (Nat.le_trans hge (Nat.le_of_lt hlt)) rfl hx (hI.old.step_table (LK.hd.tab LK.tab₀) (CH.tab hP) (CX.tab htb) hx LK.ne.2) ⟨_,htb,.inr ⟨.ref c',by rw [hp.1,hp.2]; rfl⟩⟩
  · refine kla_makeFunctionHit (mg:=D.Z.mg) (cv:=cv) hclo C.he.glob hI.glob hcode CH hP ?_ ?_ (bm_old LK.bm hI.old) fun ctv h' tk hk hsz=>lam_made LK C hQ (tk:=tk) rfl hsz rfl (fun b o _ e=>hk b o e) (hI.old.step_keeps hk) ⟨_,hk _ _ hP,.inr ⟨cv,rfl⟩⟩
    · simp [TriplesOk,rawInt]
    · simp [codeAmong,rawInt,hp.1,hp.2]
end
theorem pat_attrs:PlainAttrs "re.Pattern" :=
  ⟨⟨"object.__getattribute__",by rw [typeLookup_type,builtinLookup_eq_fast]; kernel_rfl,by decide +kernel⟩,by rw [typeLookup_type,builtinLookup_eq_fast]; kernel_rfl⟩
theorem slot_sub:Slot "re.Pattern" "sub" "re.Pattern.sub" :=
  .of (owner := "re.Pattern") (n := "sub") (by rw [typeLookup_type,builtinLookup_eq_fast]; kernel_rfl) (by decide +kernel) (by decide +kernel) (by decide +kernel)
    (by first | exact .inl (by decide +kernel) | exact .inr (by decide +kernel)) (by rw [isSubtype_type]; kernel_rfl)
theorem type_sub:typeOf (.builtin "re.Pattern.sub") = pure (.type "method_descriptor"):=by show builtinType _ = _; rw [builtinType_eq_fast]; kernel_rfl
abbrev lstObj (l:Array Value) (n:Nat):Obj:={ cls:=.type "list",data:=.seq l n }
abbrev fnObj (od:Option Addr) (oda:Data) (osl:Array (Option Value)):Obj:={ cls:=.type "function",dict:=od,data:=oda,slots:=osl }
noncomputable def subH (h:Heap) (v:Value):Heap:=(h.push (lstObj #[] 0)).update h.objs.size (Obj.mapSeq fun x=>PySem.W.Fast.tw2398297429280069960 x v)
noncomputable def SubP (R:Result→Shared→Prop) (s:Shared) (p f t:Addr) (op of ot:Obj) (c:Nat) (tk:Tok):Prop :=
  s.heap.get? p = some op ∧ qb "re.Pattern.sub" [.ref p,.ref f,.str ⟨#[c]⟩ tk] ∧ s.heap.get? f = some of ∧ s.heap.get? p = some op ∧ s.heap.get? t = some ot ∧
    qb "re.Pattern.sub.loop" [.ref p,.str ⟨#[c]⟩ tk,.ref f,rawInt 1,rawInt 0,rawInt 0,rawInt 0,rawInt 0,.bool false,.ref s.heap.objs.size,.bool false] ∧
    (s.heap.push (lstObj #[] 0)).get? p = some op ∧ (s.heap.push (lstObj #[] 0)).get? t = some ot ∧ (s.heap.push (lstObj #[] 0)).get? s.heap.objs.size = some (lstObj #[] 0) ∧
    (((s.heap.push (lstObj #[] 0)).get? s.heap.objs.size).isSome = true ∧ Frag.In [] (subH s.heap (.str ⟨#[c]⟩ s.toks))) ∧
    (subH s.heap (.str ⟨#[c]⟩ s.toks)).get? s.heap.objs.size = some (lstObj #[.str ⟨#[c]⟩ s.toks] 1) ∧ (subH s.heap (.str ⟨#[c]⟩ s.toks)).get? s.heap.objs.size = some (lstObj #[.str ⟨#[c]⟩ s.toks] 1) ∧
    qb "str.join" [.str ⟨#[]⟩ (s.toks + 1),.ref s.heap.objs.size] ∧
    (subH s.heap (.str ⟨#[c]⟩ s.toks)).get? s.heap.objs.size = some (lstObj #[.str ⟨#[c]⟩ s.toks] 1) ∧ (subH s.heap (.str ⟨#[c]⟩ s.toks)).get? s.heap.objs.size = some (lstObj #[.str ⟨#[c]⟩ s.toks] 1) ∧
    R (.ok (.ret (.str ⟨#[c]⟩ s.toks))) { s with heap:=subH s.heap (.str ⟨#[c]⟩ s.toks),toks:=s.toks + 1 + 1 }
theorem sub_nf {S:Setting} {R:Result→Shared→Prop} {s:Shared} {p f t:Addr} {sl2 sl3 osl:Array (Option Value)} {a0 a1 a3 a4:Value} {k2 k6:Tok} {dd3 od:Option Addr} {oda:Data} {τ:Nat→Tok} {n c:Nat} {tk:Tok} (hc:(c == 42 || c == 63 || c == 91) = true) :
    vcC D0 [] S 9 (.call (.builtin "re.Pattern.sub") ⟨[.ref p,.ref f,.str ⟨#[c]⟩ tk],[]⟩) (fun r _ s=>R r s) [(0,patObj a0 a1 a3 a4 1 k2 k6 t none sl2),(0,fnObj od oda osl),(0,patObj a0 a1 a3 a4 1 k2 k6 t none sl2),(0,tupObj (itL code5 τ).toArray n dd3 sl3),(0,patObj a0 a1 a3 a4 1 k2 k6 t none sl2),(0,tupObj (itL code5 τ).toArray n dd3 sl3),
      (0,lstObj #[] 0),(0,lstObj #[.str ⟨#[c]⟩ s.toks] 1),(0,lstObj #[.str ⟨#[c]⟩ s.toks] 1),(0,lstObj #[.str ⟨#[c]⟩ s.toks] 1),(0,lstObj #[.str ⟨#[c]⟩ s.toks] 1)] s = SubP R s p f t (patObj a0 a1 a3 a4 1 k2 k6 t none sl2) (fnObj od oda osl) (tupObj (itL code5 τ).toArray n dd3 sl3) c tk:=by
  rcases Bool.or_eq_true_iff.mp hc with h | h
  · rcases Bool.or_eq_true_iff.mp h with h | h <;> (cases eq_of_beq h; kernel_rfl)
  · cases eq_of_beq h; kernel_rfl
theorem call_sub {prog:Program} {w:World} {A:Around} {E:Value→Shared→Prop} {s:Shared} {p f t:Addr} {sl2 sl3 osl:Array (Option Value)} {a0 a1 a3 a4:Value} {k2 k6:Tok} {dd3 od:Option Addr} {oda:Data} {τ:Nat→Tok} {n c:Nat} {tk:Tok} {Q:Value→Shared→Prop} (hh:A.handled = none)
    (hp:s.heap.get? p = some (patObj a0 a1 a3 a4 1 k2 k6 t none sl2)) (ht:s.heap.get? t = some (tupObj (itL code5 τ).toArray n dd3 sl3)) (hf:s.heap.get? f = some (fnObj od oda osl)) (hc:(c == 42 || c == 63 || c == 91) = true)
    (h:∀ h' tk tk',(∀ b o,s.heap.get? b = some o→h'.get? b = some o)→Q (.str ⟨#[c]⟩ tk) { s with heap:=h',toks:=tk' }) :
    wpAny (model prog w) A (call (.builtin "re.Pattern.sub") [.ref p,.ref f,.str ⟨#[c]⟩ tk]) Q E s:=by
  have hl:(s.heap.push (lstObj #[] 0)).get? s.heap.objs.size = some (lstObj #[] 0):=Heap.get?_push_size _ rfl
  have h2:(subH s.heap (.str ⟨#[c]⟩ s.toks)).get? s.heap.objs.size = some (lstObj #[.str ⟨#[c]⟩ s.toks] 1):=Heap.get?_update_self _ hl rfl
  exact wpAny_call (kwalk (K:=[]) 9 _ _ hh (fun _ _ h=>nomatch h) (sub_nf hc) ⟨hp,Code.quiet_builtin _ (by decide +kernel),hf,hp,ht,Code.quiet_builtin _ (by decide +kernel),Heap.get?_push_of_some _ hp,Heap.get?_push_of_some _ ht,hl,⟨by rw [hl]; rfl,fun _ _ h=>nomatch h⟩,h2,h2,Code.quiet_builtin _ (by decide +kernel),h2,h2,
    h _ _ _ fun b o e=>(Heap.get?_update_other _ _ fun e'=>by rw [← e',get?_ge (Nat.le_refl _)] at e; cases e).trans (Heap.get?_push_of_some _ e)⟩)
noncomputable def ext5Ok (K:Frag):Bool:=onS (globK K "twin_re_1_fnmatch") fun v=>onRef v fun p=>patOk K p 1 code5
section
variable {D:OD} {sc:Scope} {K:Frag} {c P:Addr} {lp:Nat × Nat} {fuel:Nat}
theorem ext5 {p apos pos q:Pos} {x body:Expr} {a:Arguments} {lsc:Scope} {nn:Str} (hX:D.Ex fuel) (hK:∀ h,D.Z.TabI h→K.In h) (hK0:K.In D.Z.h₀) (LK:LamOk D.Z K c P lp) (hl:D.Z.lam = .ref c) (hok:ext5Ok K = true) (hg:globOk sc "twin_re_1_fnmatch" = true) (hx:isVar D.nm sc 9 x = true) (hline:(apos.endLine == pos.line) = true)
    (hnm:D.nm.length = 14) (hd:a.defaults = []) (hd':a.kw_defaults = []) (hq:q.line = lp.1 ∧ q.col = lp.2) (hone:lsc.names = [(nn,.local)]) :
    OSE D sc (.Call (.Attribute (.Name "twin_re_1_fnmatch" p) "sub" apos) [.Lambda a body lsc q,x] [] pos) (.ext 5):=fun {A env ρ μ st s v st' Q E} C he g =>
  varK ((congrFun (congrFun (congrFun hX 5) ρ) st).symm.trans he) fun xs h1 he=>sgnOK he fun d ec he=>ifP (show (if (d == 42 || d == 63 || d == 91) = true then some (OV.d (.str ⟨#[d]⟩),st) else none) = some (v,st') from he) fun hsg he2=>by
  subst ec
  cases he2
  obtain ⟨ox,stx,_⟩:=var_of hx
  obtain ⟨w,hp,hok⟩:=onSE hok
  obtain ⟨pp,rfl,hok⟩:=onRefE hok
  refine pat_of hok fun g1 g2=>?_
  have hpl:PlainArgs [.Lambda a body lsc q,x]:=plain_two rfl stx
  have XK:=hK _ C.hi.tab
  refine wpAny_Call_method_lateS (attributeBase_of rfl _ _ _) (few_ok hpl (Nat.le_of_ble_eq_true rfl)) hline (C.glob hg (globK_eq hK0 hp) ⟨"re.Pattern",_,pat_attrs,slot_sub,type_sub,⟨_,XK _ _ g1,rfl⟩,fun b e=>by cases e; exact ⟨_,XK _ _ g1,rfl⟩,callWith_nonref nofun (hpl.1 env pos) (evalArgs_of (hpl.2.1 nofun env pos) ?_)⟩)
  rw [not_starred rfl]
  show wpAny _ A (spliced ((false,eval (.Lambda a body lsc q) env) :: backTo pos (starEach [x] env))) _ _ _
  refine Calls.spliced_cons (ev_lambda LK hq hone hd hd' hl hnm C fun f s₁ of a₁ hf hfc hfd=>?_)
  refine oses_cons stx ox oses_nil (C.go a₁) (oes1 (ov_var h1)) fun vs s₂ μ₂ a₂ hvs=>ves1 (m:=fun vs=>wpAny _ A (call (.builtin "re.Pattern.sub") (.ref pp :: .ref f :: vs)) Q E s₂) hvs fun w hw=>?_
  obtain ⟨tk,rfl,hok2⟩:∃ t,w = .str ⟨#[d]⟩ t ∧ okD (.str ⟨#[d]⟩) = true:=veS (m:=fun w=>∃ t,w = .str ⟨#[d]⟩ t ∧ okD (.str ⟨#[d]⟩) = true) hw fun t ok=>⟨t,rfl,ok⟩
  have XK2:=hK _ a₂.i.tab
  obtain ⟨⟨oc,od,oda,osl⟩,e',hcl,_⟩:=(a₂.t.keep f of hf (.inl (by rw [hfc]; nofun)) hfd id).ex
  have hcl:oc = _:=hcl.trans hfc
  exact call_sub C.ha.handled (XK2 _ _ g1) (XK2 _ _ g2) (hcl ▸ e') hsg fun h' tk1 tk2 hk=>g _ _ μ₂ ((a₁.trans a₂).kp (a₂.i.full (tk:=tk2) hk) (.of hk)) (ve_str hok2)
end
theorem LamOk.at {Z:Zone} {K:Frag} {c P:Addr} {lp:Nat × Nat} (x:LamOk Z K c P lp) (fr:List Addr):LamOk (Z.at fr) K c P lp:={ x with }
noncomputable def extOk (K:Frag):Bool:=globK K "deque" == some (.type "collections.deque") && ((onS (globK K "shlex") fun v=>onRef v fun a=>keepIn K (.ref a)) && (ext2Ok K (cA_ K) (fA_ K) && (ext5Ok K && ext6Ok K)))
theorem below8 {m:Nat→Prop} (h0:m 0) (h1:m 1) (h2:m 2) (h3:m 3) (h4:m 4) (h5:m 5) (h6:m 6) (h7:m 7) (h:∀ n,m (n + 8)):∀ n,m n
  | 0=>h0 | 1=>h1 | 2=>h2 | 3=>h3 | 4=>h4 | 5=>h5 | 6=>h6 | 7=>h7 | n + 8=>h n
theorem onGK {sc:Scope} {e:Expr} {n:Str} {f:List Expr→Bool} {m:Expr→Prop} (h:onG sc e n f = true) (k:∀ as (p pos:Pos),globOk sc n = true→f as = true→m (.Call (.Name n p) as [] pos)):m e:=by
  apply onFnK h; intro n' as p pos h
  refine andK h fun z h=>?_; apply beqK z
  exact k as p pos (andT h).1 (andT h).2
theorem oExtOk {Z:Zone} {K:Frag} {c P:Addr} {lp:Nat × Nat} {fuel:Nat} (hK:∀ h,Z.TabI h→K.In h) (hK0:K.In Z.h₀) (hlam:Z.lam = lamV K) (hB:OBiOk Z) (hb2:ext2B K (cA_ K)) (LK:LamOk Z K c P lp) (hl0:Z.lam = .ref c) (h:extOk K = true) :
    OExtOk Z (cA_ K) (fA_ K) (xcO lp) (exO fuel):=fun cl lvl hC fr nm j=>andK h fun d0 h=>andK h fun d1 h=>andK h fun d2 h=>andK h fun d5 d6=>by
  have hX:OD.Ex ⟨Z.at fr,cA_ K,cl,exO fuel cl,lvl + 1,nm⟩ fuel:=rfl
  refine below8 (m:=fun j=>∀ sc e,xcO lp nm j sc e = true→OSE ⟨Z.at fr,cA_ K,cl,exO fuel cl,lvl + 1,nm⟩ sc e (.ext j)) (fun sc e h=>?_) (fun sc e h=>?_) (fun sc e h=>?_) (fun sc e h=>?_) (fun sc e h=>?_) (fun sc e h=>?_) (fun sc e h=>?_) (fun sc e h=>?_) (fun n sc e h=>?_) j
  · apply onGK h; intro as p pos hg h
    apply nilK h
    exact ext0 hX hg (globK_eq hK0 (eq_of_beq d0))
  · apply onCallK h; intro fe as ks pos h
    apply onNameK h; intro n p h
    refine andK h fun z h=>andK h fun hg h=>?_; apply beqK z
    apply on1K h; intro x h
    refine andK h fun hx h=>?_
    apply on1K h; intro k h
    obtain ⟨kn,ky,kp⟩:=k
    apply onSK (m:=fun kn=>OSE _ sc (.Call _ [x] [⟨kn,ky,kp⟩] pos) _) h; intro n' h
    refine andK h fun z h=>?_; apply beqK z
    obtain ⟨v,ha,d1⟩:=onSE d1
    obtain ⟨a,rfl,d1⟩:=onRefE d1
    exact ext1 hX hK (OCallOk.up (hC fr) (Nat.le_succ _)) (a:=a) (show (globK K "shlex").bind refV = _ by rw [ha]; rfl) hg (globK_eq hK0 ha) d1 hx h
  · apply onGK h; intro as p pos hg h
    apply on1K h; intro x h
    exact ext2 hX rfl hK hK0 hlam hB hC hb2 d2 hg h
  · cases h
  · cases h
  · apply onMethK h; intro x as apos pos h0 hl h
    refine andK h fun hn h=>?_
    apply onNameK h; intro n p h
    refine andK h fun z h=>andK h fun hg h=>?_; apply beqK z
    apply onCK h; intro l r h
    refine andK h fun h1 h=>?_
    apply on1K h1; intro y h1
    apply onLambdaK h; intro a body lsc q h
    refine andK h fun h2 h=>andK h fun h3 h=>andK h fun h4 h=>andK h fun h5 h=>?_
    obtain ⟨⟨nn,k⟩,e,h6⟩:=on1E h
    exact ext5 hX hK hK0 (LK.at fr) hl0 d5 hg h1 hl (eq_of_beq hn) (List.isEmpty_iff.mp h2) (List.isEmpty_iff.mp h3) ⟨eq_of_beq h4,eq_of_beq h5⟩ (e.trans (by rw [show k = _ from eq_of_beq h6]))
  · apply onMethK h; intro x as apos pos h0 hl h
    refine andK h fun hx h=>?_
    apply on1K h; intro y h
    apply onNameK h; intro n p h
    refine andK h fun z hg=>?_; apply beqK z
    exact ext6 hX hK hK0 d6 hg hx hl
  · apply onGK h; intro as p pos hg h
    apply nilK h
    exact ext7 hX hB hg
  · cases h
end Kt
end
section
open PySem PySem.W PyProof.Rows PySem.Calls Builtin
namespace Kt
noncomputable def newH (h:Heap) (C:Addr):Heap:=(h.push emptyDict).push (instObj C h.objs.size)
noncomputable abbrev tcC (C:Addr) (x:Value) (kw:List (Str × Value)):Code:=.builtin "type.__call__" ⟨[.ref C,x],kw⟩
noncomputable def onRefC (c:Code) (f:Addr→Option (Addr→Addr→Value × Sc)):Option (Addr→Addr→Value × Sc):=match c with
  | .call v _=>(match v with | .ref u=>f u | _=>none)
  | _=>none
noncomputable def mk8 (aI:Addr) (c:Code):Option (Addr→Addr→Value × Sc):=onRefC c fun u=>bif u == aI then some fun _ _=>(.none,[]) else none
noncomputable def mk9 (C f aI:Addr) (c:Code):Option (Addr→Addr→Value × Sc):=onRefC c fun u=>bif u == aI then some fun _ _=>(.none,[]) else bif u == f then some fun x d=>(.ref x,[(0,instObj C d),(1,instObj C d)]) else none
noncomputable abbrev Init (prog:Program) (w:World) (K:Frag) (A:Around) (R:Result→Shared→Prop) (s:Shared) (aI y:Addr) (x:Value) (kw:List (Str × Value)):Prop :=
  codeAny (model prog w) A (.call (.ref aI) ⟨[.ref y,x],kw⟩) (fun r s'=>∃ _ _:Addr,r = .ok (.ret .none) ∧ K.In s'.heap ∧ R (.ok (.ret (.ref y))) s') s
noncomputable def Made8 (prog:Program) (w:World) (K:Frag) (A:Around) (R:Result→Shared→Prop) (s:Shared) (C aI:Addr) (x:Value) (kw:List (Str × Value)):Prop :=
  (Code.call (.builtin "type.__call__") ⟨[.ref C,x],kw⟩).quiet = true ∧ (tcC C x kw = tcC C x kw ∧ (tcC C x kw).quiet = true) ∧ (Code.builtin "object.__new__" ⟨[.ref C,x],kw⟩).quiet = true ∧
    (newH s.heap C).get? (s.heap.push emptyDict).objs.size = some (instObj C s.heap.objs.size) ∧ (newH s.heap C).get? (s.heap.push emptyDict).objs.size = some (instObj C s.heap.objs.size) ∧
    Init prog w K (A.under (tcC C x kw)) R { s with heap:=newH s.heap C } aI (s.heap.push emptyDict).objs.size x kw
noncomputable def Made9 (prog:Program) (w:World) (K:Frag) (A:Around) (R:Result→Shared→Prop) (s:Shared) (C f q aI:Addr) (x:Value):Prop :=
  (Code.call (.builtin "type.__call__") ⟨[.ref C,x],[]⟩).quiet = true ∧ (tcC C x [] = tcC C x [] ∧ (tcC C x []).quiet = true) ∧ qb "type.__getattribute__" [.ref C,.str "__new__" s.toks] ∧ qb "staticmethod.__get__" [.ref q,.none,.ref C] ∧
    codeAny (model prog w) (A.under (tcC C x [])) (.call (.ref f) ⟨[.ref C,x],[]⟩) (fun r s'=>∃ y d:Addr,r = .ok (.ret (.ref y)) ∧ K.In s'.heap ∧ s'.heap.get? y = some (instObj C d) ∧ s'.heap.get? y = some (instObj C d) ∧ Init prog w K (A.under (tcC C x [])) R s' aI y x []) { s with toks:=s.toks + 1 }
noncomputable def nmP (w:World) (n:Str) (tk:Tok) (v:Value):Obj→Obj:=Obj.putName n (if n.cps.isEmpty then 0 else reduceHash (w.params.strHash n.cps)) (.str n tk) v
abbrev fr0:Obj:={ cls:=.type "frame",data:=.dict #[] }
abbrev tup1 (x:Value):Obj:={ cls:=.type "tuple",data:=.seq #[x] }
noncomputable def New9 (K:Frag) (R:Result→Shared→Prop) (s:Shared) (C L:Addr) (h0:Heap) (f1 f2 f3:Obj→Obj):Prop :=
  h0.get? L = some fr0 ∧ ((h0.get? L).isSome = true ∧ K.In (h0.update L f1)) ∧ (h0.update L f1).get? L = some (f1 fr0) ∧ (((h0.update L f1).get? L).isSome = true ∧ K.In ((h0.update L f1).update L f2)) ∧
    ((h0.update L f1).update L f2).get? L = some (f2 (f1 fr0)) ∧ ((((h0.update L f1).update L f2).get? L).isSome = true ∧ K.In (((h0.update L f1).update L f2).update L f3)) ∧ (((h0.update L f1).update L f2).update L f3).NoLimit ∧
    (((h0.update L f1).update L f2).update L f3).get? L = some (f3 (f2 (f1 fr0))) ∧ (((h0.update L f1).update L f2).update L f3).get? L = some (f3 (f2 (f1 fr0))) ∧
    qb "type.__getattribute__" [.type "object",.str "__new__" (s.toks + 1 + 1 + 1)] ∧ (((h0.update L f1).update L f2).update L f3).get? L = some (f3 (f2 (f1 fr0))) ∧ qb "object.__new__" [.ref C] ∧
    R (.ok (.ret (.ref ((((h0.update L f1).update L f2).update L f3).push emptyDict).objs.size))) { s with heap:=newH (((h0.update L f1).update L f2).update L f3) C,toks:=s.toks + 1 + 1 + 1 + 1 }
noncomputable def onFuncP (e:Data) (f:FuncData→Prop):Prop:=if h:e.ctorIdx = 7 then Data.func.elim e h f else False
noncomputable def onStmtsP (e:FuncBody) (f:List Stmt→Prop):Prop:=if h:e.ctorIdx = 0 then FuncBody.stmts.elim e h f else False
noncomputable def fnK (K:Frag) (f:Addr) (P:FuncData→List Stmt→Prop):Prop:=onSP (K.lookup f) fun o=>onFuncP o.data fun fd=>onStmtsP fd.body fun b=>P fd b
noncomputable def Cls8 (K:Frag) (C aI:Addr):Prop:=∀ (prog:Program) (w:World) (A:Around) (R:Result→Shared→Prop) (s:Shared) (x p:Value),vcK prog w A K (mk8 aI) 9 (.call (.ref C) ⟨[x],[("posix",p)]⟩) (tcC C x [("posix",p)]) R [(26,instObj C s.heap.objs.size),(1,instObj C s.heap.objs.size)] s = Made8 prog w K A R s C aI x [("posix",p)]
noncomputable def Cls9 (K:Frag) (C f q aI:Addr):Prop:=∀ (prog:Program) (w:World) (A:Around) (R:Result→Shared→Prop) (s:Shared) (x:Value),vcK prog w A K (mk9 C f aI) 9 (.call (.ref C) ⟨[x],[]⟩) (tcC C x []) R [] s = Made9 prog w K A R s C f q aI x
noncomputable def New9F (w:World) (s:Shared) (C:Addr) (x:Value) (P:(f1 f2 f3:Obj→Obj)→Prop):Prop:=P (nmP w "cls" s.toks (.ref C)) (nmP w "args" (s.toks + 1) (.ref s.heap.objs.size)) (nmP w "kwargs" (s.toks + 1 + 1) (.ref (s.heap.push (tup1 x)).objs.size))
noncomputable def Fun9 (K:Frag) (C f:Addr):Prop:=∀ (prog:Program) (w:World) (R:Result→Shared→Prop) (s:Shared) (x:Value),New9F w s C x fun f1 f2 f3 =>
  fnK K f (fun fd body=>(!fd.scope.isCoroutine && (!fd.scope.isGenerator && codeCheck K fd.qualname fd.code)) = true ∧ vcF prog w K (fun _=>none) 9 fd body f ⟨[.ref C,x],[]⟩ R [(0,fr0),(0,f1 fr0),(0,f2 (f1 fr0)),(0,f3 (f2 (f1 fr0))),(3,f3 (f2 (f1 fr0))),(3,f3 (f2 (f1 fr0)))] s) =
    (true = true ∧ New9 K R s C ((s.heap.push (tup1 x)).push emptyDict).objs.size (((s.heap.push (tup1 x)).push emptyDict).push fr0) f1 f2 f3)
theorem onFuncPE {e:Data} {f:FuncData→Prop} (h:onFuncP e f):∃ a,e = .func a ∧ f a:=by
  by_cases c:e.ctorIdx = 7
  · exact Data.func.elim (motive:=fun e=>onFuncP e f→∃ a,e = .func a ∧ f a) e c (fun a h=>⟨a,rfl,h⟩) h
  · rw [onFuncP,dif_neg c] at h; exact h.elim
theorem onStmtsPE {e:FuncBody} {f:List Stmt→Prop} (h:onStmtsP e f):∃ a,e = .stmts a ∧ f a:=by
  by_cases c:e.ctorIdx = 0
  · exact FuncBody.stmts.elim (motive:=fun e=>onStmtsP e f→∃ a,e = .stmts a ∧ f a) e c (fun a h=>⟨a,rfl,h⟩) h
  · rw [onStmtsP,dif_neg c] at h; exact h.elim
theorem fnK_of {K:Frag} {f:Addr} {P:FuncData→List Stmt→Prop} (x:fnK K f P):∃ o fd body,K.lookup f = some o ∧ o.data = .func fd ∧ fd.body = .stmts body ∧ P fd body :=
  let ⟨o,e,x⟩:=onSPE x; let ⟨fd,e1,x⟩:=onFuncPE x; let ⟨b,e2,x⟩:=onStmtsPE x; ⟨o,fd,b,e,e1,e2,x⟩
theorem codeRec_of {h:Heap} {q:Str} {v:Value} (x:∃ c oc vs t,v = .ref c ∧ h.get? c = some oc ∧ oc.cls ≠ .none ∧ oc.data = .fields vs ∧ vs[1]? = some (.str q t)):h.CodeRec v q:=by
  obtain ⟨c,oc,vs,t,a1,a2,_,r⟩:=x
  exact ⟨c,oc,vs,t,a1,a2,r⟩
theorem ctor0 {d:PyData} (h:d.ctorIdx = 0):d = .none:=by cases d <;> first | rfl | cases h
section
variable {Z:Zone} {cA fA:Nat→Option Addr} {cl:OCl} {lvl c:Nat} {K:Frag} {μ:List Addr} {st st':St} {A:Around} {s:Shared} {C:Addr}
theorem le1 {a b k:Nat} (hk:1 ≤ k):a + 1 + b ≤ a + (b + k):=by rw [Nat.add_assoc,Nat.add_comm 1]; exact Nat.add_le_add_left (Nat.add_le_add_left hk b) a
theorem aok_under {l:Nat} {x:Value} {kw:List (Str × Value)} (h:AOk Z (l + 3) A):AOk Z l (A.under (tcC C x kw)) :=
  ⟨h.handled,Nat.lt_of_le_of_lt (Nat.add_le_add_right (le1 (a:=A.depth) (b:=l) (k:=3) (by decide)) 20) h.depth,Nat.lt_of_le_of_lt (Nat.add_le_add_right (le1 (a:=A.units) (b:=3 * l) (k:=9) (by decide)) 200) h.units,h.frames⟩
theorem newPair {x dx:Addr} {h':Heap} {l:Nat} (hl:μ.length = l) (hC:cA c = some C) (g1:h'.get? x = some (instObj C dx)) (g2:h'.get? dx = some emptyDict) (i:Nat) (b:Addr) (f:FO) (h1:[x,dx][i]? = some b) (h2:[FO.inst c,.dict []][i]? = some f):FOk cA (μ ++ [x,dx]) h' (l + i) b f:=by
  cases i with
  | zero =>
    cases h1; cases h2
    exact ⟨C,dx,hC,by subst hl; exact (List.getElem?_append_right (Nat.le_succ μ.length)).trans (congrArg ([x,dx][·]?) (Nat.add_sub_cancel_left (n:=μ.length) (m:=1))),g1⟩
  | succ i =>
    cases i with
    | zero=>cases h1; cases h2; exact ⟨#[],0,#[],g2,.nil,Nat.zero_le _⟩
    | succ i=>cases h1
theorem newO_of {i:Nat} {xs:List OV} {v:OV} (he:newO cl c i xs st = some (v,st')):v = .o st.length ∧ cl i (.o st.length :: xs) (st ++ [.inst c,.dict []]) = some (.d .none,st'):=bndK he fun r hd he=>oDatK he fun d ed he=>ifP he fun hd0 he =>
  have h:OV.o st.length = v ∧ r.2 = st':=Prod.mk.inj (Option.some.inj he)
  ⟨h.1.symm,hd.trans (congrArg some (Prod.ext (ed.trans (congrArg OV.d (ctor0 hd0))) h.2))⟩
theorem newK {fI:Nat} {aI x dx:Addr} {tk:Tok} {h':Heap} {vs:List Value} {args:List OV} {v:OV} {R:Result→Shared→Prop} (hCl:OCallOk Z cA cl lvl fA) (hK:∀ h,Z.TabI h→K.In h) (hC:cA c = some C) (hfA:fA fI = some aI) (hI:Inv Z s) (hsz:Z.n ≤ s.heap.objs.size) (S:Sto Z cA μ st s.heap) (hA:AOk Z (8 * lvl) A)
    (hb:∀ b ∈ [x,dx],s.heap.objs.size ≤ b) (hne:x ≠ dx) (hk:∀ b o,s.heap.get? b = some o→h'.get? b = some o) (g1:h'.get? x = some (instObj C dx)) (g2:h'.get? dx = some emptyDict) (hvs:VEs μ vs args)
    (he:newO cl c fI args st = some (v,st')) (hR:OGot Z cA μ s.heap st' v (fun w s'=>R (.ok (.ret w)) s')) :
    codeAny (model Z.prog Z.w) A (.call (.ref aI) (argsO fI (.ref x :: vs))) (fun r s'=>∃ _ _:Addr,r = .ok (.ret .none) ∧ K.In s'.heap ∧ R (.ok (.ret (.ref x))) s') { s with heap:=h',toks:=tk }:=by
  obtain ⟨rfl,hd⟩:=newO_of he
  have a:=(OAt.here (L:=noL) hI S).mores (bs:=[x,dx]) (fs:=[.inst c,.dict []]) (tk:=tk) rfl (List.nodup_cons.mpr ⟨fun h=>hne (List.mem_singleton.mp h),List.nodup_cons.mpr ⟨nofun,.nil⟩⟩) (fun b h=>⟨get?_ge (hb b h),⟨Nat.le_trans hsz (hb b h),hI.frLt (hb b h)⟩,id⟩) hk (newPair S.len hC g1 g2)
  have ho:VE (μ ++ [x,dx]) (.ref x) (.o st.length):=⟨x,by rw [← S.len,List.getElem?_append_right (Nat.le_refl _),Nat.sub_self]; rfl,rfl⟩
  refine hCl hfA hd hA a.i (Nat.le_trans hsz (Nat.le_trans (hb x List.mem_cons_self) (Nat.le_of_lt (Heap.lt_size g1)))) a.so (.cons ho (hvs.pre a.t.pre)) fun w s' μ' a' hw=>?_
  have hw:w = .none:=by cases hw.1; rfl
  subst hw
  exact ⟨0,0,rfl,hK _ a'.i.tab,hR _ _ _ (a.trans a') (ho.pre a'.t.pre)⟩
theorem prim18 {aI:Addr} {args:List OV} {v:OV} {vs:List Value} {R:Result→Shared→Prop} (hCl:OCallOk Z cA cl lvl fA) (hK:∀ h,Z.TabI h→K.In h) (hC:cA 0 = some C) (hfA:fA 19 = some aI) (N:Cls8 K C aI)
    (hA:AOk Z (8 * (lvl + 2)) A) (hI:Inv Z s) (hsz:Z.n ≤ s.heap.objs.size) (S:Sto Z cA μ st s.heap) (hvs:VEs μ vs args) (he:argC args (fun x r=>argC r fun p r=>argN r (newO cl 0 19 [x,p] st)) = some (v,st'))
    (hR:OGot Z cA μ s.heap st' v (fun w s'=>R (.ok (.ret w)) s')):codeAny (model Z.prog Z.w) A (.call (.ref C) (argsO 18 vs)) R s :=
  argCK he fun x r e1 he=>argCK he fun p r' e2 he=>argNK he fun e3 he=>by
  subst e3; subst e2; subst e1
  refine ves2 (m:=fun vs=>codeAny (model Z.prog Z.w) A (.call (.ref C) (argsO 18 vs)) R s) hvs fun w u hw hu=>?_
  have hx:(newH s.heap C).get? (s.heap.push emptyDict).objs.size = some (instObj C s.heap.objs.size):=Heap.get?_push_size _ rfl
  have hz:(s.heap.push emptyDict).objs.size = s.heap.objs.size + 1:=Heap.size_push ..
  refine cwalk (mk:=mk8 aI) 9 _ _ hA.handled (hK _ hI.tab) (N Z.prog Z.w A R s w u) ⟨rfl,⟨rfl,Code.quiet_builtin _ (by decide +kernel)⟩,Code.quiet_builtin _ (by decide +kernel),hx,hx,?_⟩
  refine newK (tk:=s.toks) (vs:=[w,u]) hCl hK hC hfA hI hsz S (aok_under (hA.mono (by show 8 * lvl + 3 ≤ 8 * lvl + 8 + 8; exact Nat.add_le_add_left (show 3 ≤ 16 by decide) (8 * lvl)))) (fun b hb=>?_) (fun e=>Nat.succ_ne_self _ (hz.symm.trans e)) (fun b o e=>Heap.get?_push_of_some _ (Heap.get?_push_of_some _ e)) hx (Heap.get?_push_of_some _ (Heap.get?_push_size _ rfl)) (.cons hw (.cons hu .nil)) he hR
  exact (List.mem_cons.mp hb).elim (fun e=>e ▸ hz ▸ Nat.le_succ _) fun hb=>List.mem_singleton.mp hb ▸ Nat.le_refl _
theorem keep_upd {h h':Heap} {L:Addr} {f:Obj→Obj} (hk:∀ b o,h.get? b = some o→h'.get? b = some o) (hn:h.get? L = none) (b:Addr) (o:Obj) (e:h.get? b = some o):(h'.update L f).get? b = some o:=(Heap.get?_update_other _ _ fun e'=>by rw [← e',hn] at e; cases e).trans (hk b o e)
theorem new9_ok {L:Addr} {h0:Heap} {f1 f2 f3:Obj→Obj} {R:Result→Shared→Prop} (hK:∀ h,Z.TabI h→K.In h) (hI:Inv Z s) (hL:h0.get? L = some fr0) (hk:∀ b o,s.heap.get? b = some o→h0.get? b = some o) (hn:s.heap.get? L = none) (hz:s.heap.objs.size ≤ L) (e1:(f1 fr0).isFreed = false) (e2:(f2 (f1 fr0)).isFreed = false) (e3:(f3 (f2 (f1 fr0))).isFreed = false)
    (hR:∀ h' tk y d,(∀ b o,s.heap.get? b = some o→h'.get? b = some o)→(∀ b ∈ [y,d],s.heap.objs.size ≤ b)→y ≠ d→h'.get? y = some (instObj C d)→h'.get? d = some emptyDict→R (.ok (.ret (.ref y))) { s with heap:=h',toks:=tk }):New9 K R s C L h0 f1 f2 f3:=by
  have I:∀ {h:Heap},(∀ b o,s.heap.get? b = some o→h.get? b = some o)→Inv Z { s with heap:=h,toks:=0 }:=fun hk=>hI.full hk
  have k1:=keep_upd (f:=f1) hk hn
  have k2:=keep_upd (f:=f2) k1 hn
  have k3:=keep_upd (f:=f3) k2 hn
  have g1:=Heap.get?_update_self f1 hL e1
  have g2:=Heap.get?_update_self f2 g1 e2
  have g3:=Heap.get?_update_self f3 g2 e3
  refine ⟨hL,⟨by rw [hL]; rfl,hK _ (I k1).tab⟩,g1,⟨by rw [g1]; rfl,hK _ (I k2).tab⟩,g2,⟨by rw [g2]; rfl,hK _ (I k3).tab⟩,(I k3).lim,g3,g3,Code.quiet_builtin _ (by decide +kernel),g3,Code.quiet_builtin _ (by decide +kernel),?_⟩
  have hs:=Nat.le_trans hz (Nat.le_of_lt (Heap.lt_size g3))
  generalize ((h0.update L f1).update L f2).update L f3 = h3 at k3 hs
  have hz:(h3.push emptyDict).objs.size = h3.objs.size + 1:=Heap.size_push ..
  exact hR _ _ _ h3.objs.size (fun b o e=>Heap.get?_push_of_some _ (Heap.get?_push_of_some _ (k3 b o e))) (fun b hb=>(List.mem_cons.mp hb).elim (fun e=>e ▸ hz ▸ Nat.le_succ_of_le hs) fun hb=>List.mem_singleton.mp hb ▸ hs) (fun e=>Nat.succ_ne_self _ (hz.symm.trans e)) (Heap.get?_push_size _ rfl) (Heap.get?_push_of_some _ (Heap.get?_push_size _ rfl))
theorem call_new9 {f:Addr} {x:Value} {R:Result→Shared→Prop} (N:Fun9 K C f) (hh:A.handled = none) (hroom:A.depth < recursionLimit) (hK:∀ h,Z.TabI h→K.In h) (hI:Inv Z s)
    (hR:∀ h' tk y d,(∀ b o,s.heap.get? b = some o→h'.get? b = some o)→(∀ b ∈ [y,d],s.heap.objs.size ≤ b)→y ≠ d→h'.get? y = some (instObj C d)→h'.get? d = some emptyDict→R (.ok (.ret (.ref y))) { s with heap:=h',toks:=tk }) :
    codeAny (model Z.prog Z.w) A (.call (.ref f) ⟨[.ref C,x],[]⟩) R s:=by
  have X:=hK _ hI.tab
  have hk:∀ b o,s.heap.get? b = some o→(((s.heap.push (tup1 x)).push emptyDict).push fr0).get? b = some o:=fun b o e=>Heap.get?_push_of_some _ (Heap.get?_push_of_some _ (Heap.get?_push_of_some _ e))
  have hz:s.heap.objs.size ≤ ((s.heap.push (tup1 x)).push emptyDict).objs.size:=by rw [Heap.size_push,Heap.size_push]; exact Nat.le_add_right _ 2
  have e:=(N Z.prog Z.w R s x).mpr ⟨rfl,new9_ok hK hI (Heap.get?_push_size _ rfl) hk (get?_ge hz) hz rfl rfl rfl hR⟩
  obtain ⟨o,fd,body,h1,h2,h3,h4,e⟩:=fnK_of e
  obtain ⟨h5,h4⟩:=andT h4
  obtain ⟨h6,h7⟩:=andT h4
  exact fwalk hh X hroom (X _ _ h1) h2 (notT h5) (notT h6) h3 (codeRec_of (codeOf X h7)) e
theorem prim9 {f q aI:Addr} {args:List OV} {v:OV} {vs:List Value} {R:Result→Shared→Prop} (hCl:OCallOk Z cA cl lvl fA) (hK:∀ h,Z.TabI h→K.In h) (hC:cA 1 = some C) (hfA:fA 3 = some aI) (N:Cls9 K C f q aI) (N2:Fun9 K C f)
    (hA:AOk Z (8 * (lvl + 2)) A) (hI:Inv Z s) (hsz:Z.n ≤ s.heap.objs.size) (S:Sto Z cA μ st s.heap) (hvs:VEs μ vs args) (he:argC args (fun x r=>argN r ((strV x).bind fun _=>newO cl 1 3 [x] st)) = some (v,st'))
    (hR:OGot Z cA μ s.heap st' v (fun w s'=>R (.ok (.ret w)) s')):codeAny (model Z.prog Z.w) A (.call (.ref C) (argsO 9 vs)) R s :=
  argCK he fun x r e1 h1=>argNK h1 fun e2 h2=>bndK h2 fun _ _ h3=>by
  subst e2; subst e1
  refine ves1 (m:=fun vs=>codeAny (model Z.prog Z.w) A (.call (.ref C) (argsO 9 vs)) R s) hvs fun w hw=>?_
  have hA1:AOk Z (8 * lvl) (A.under (tcC C w [])):=aok_under (hA.mono (Nat.add_le_add_left (show 3 ≤ 16 by decide) (8 * lvl)))
  exact cwalk (mk:=mk9 C f aI) 9 _ _ hA.handled (hK _ hI.tab) (N Z.prog Z.w A R s w) ⟨rfl,⟨rfl,Code.quiet_builtin _ (by decide +kernel)⟩,Code.quiet_builtin _ (by decide +kernel),Code.quiet_builtin _ (by decide +kernel),
    call_new9 (s:={ s with toks:=s.toks + 1 }) N2 hA1.handled (Nat.lt_of_le_of_lt (Nat.le_trans (Nat.le_add_right _ _) (Nat.le_add_right _ _)) hA1.depth) hK (hI.tok _) fun h' tk y d hk hb hne g1 g2=>⟨y,d,rfl,(hK _ hI.tab).keeps hk,g1,g1,
      newK (s:={ s with toks:=s.toks + 1 }) (tk:=tk) (vs:=[w]) hCl hK hC hfA (hI.tok _) hsz S hA1 hb hne hk g1 g2 (.cons hw .nil) h3 hR⟩⟩
end
noncomputable def Fun19 (K:Frag) (a:Addr):Prop:=∀ (S:Setting) (l x p:Value),onSP (K.lookup a) fun o=>onFuncP o.data fun fd=>peek K S (bindW fd ⟨[l,x],[("posix",p)]⟩) = some ((o_nm5.take o_fn5.arity).zip [l,x,.none,p,.bool false])
noncomputable def OClsOk (K:Frag) (C8 a8 C9 f9 q9 a9:Addr):Prop:=(cA_ K 0 = some C8 ∧ fA_ K 19 = some a8 ∧ fA_ K 18 = some C8) ∧ (cA_ K 1 = some C9 ∧ fA_ K 3 = some a9 ∧ fA_ K 9 = some C9) ∧ Cls8 K C8 a8 ∧ (Cls9 K C9 f9 q9 a9 ∧ Fun9 K C9 f9) ∧ Fun19 K a8
section
variable {Z:Zone} {K:Frag} {xc:List Str→Nat→Scope→Expr→Bool} {fuel:Nat}
theorem prim19 {cl:OCl} {lvl:Nat} {a:Addr} {fr:List Addr} {args:List OV} {st st':St} {v:OV} {A:Around} {s:Shared} {vs:List Value} {μ:List Addr} {R:Result→Shared→Prop} (hK:∀ h,Z.TabI h→K.In h) (hK0:K.In Z.h₀) (hlam:Z.lam = lamV K) (hB:OBiOk Z) (hC:∀ fr,OCallOk (Z.at fr) (cA_ K) cl lvl (fA_ K)) (hX:OExtOk Z (cA_ K) (fA_ K) xc (exO fuel))
    (hck:ofnCheck K (fun sc body=>chkOSs K (cA_ K) (fA_ K) (xc o_nm5) o_nm5 sc o_fn5.body body) a o_nm5 o_fn5 = true) (hbo:BindO K a o_nm5 o_fn5) (N:Fun19 K a) (hA:AOk (Z.at fr) (8 * (lvl + 2)) A) (hI:Inv (Z.at fr) s) (hsz:Z.n ≤ s.heap.objs.size) (S:Sto (Z.at fr) (cA_ K) μ st s.heap) (hvs:VEs μ vs args)
    (he:argC args (fun l r=>argC r fun x r=>argC r fun p r=>argN r (retO (oxSs cl (exO fuel cl) fuel o_fn5.body [some l,some x,some (.d .none),some p,some (.d (.bool false)),none] st))) = some (v,st')) (hR:OGot (Z.at fr) (cA_ K) μ s.heap st' v (fun w s'=>R (.ok (.ret w)) s')):codeAny (model Z.prog Z.w) A (.call (.ref a) (argsO 19 vs)) R s :=
  argCK he fun l r e1 he=>argCK he fun x r' e2 he=>argCK he fun p r'' e3 he=>argNK he fun e4 he=>by
  subst e4; subst e3; subst e2; subst e1
  refine vesK (m:=fun vs=>codeAny (model Z.prog Z.w) A (.call (.ref a) (argsO 19 vs)) R s) hvs fun lv ws hl hvs=>ves2 (m:=fun ws=>codeAny (model Z.prog Z.w) A (.call (.ref a) (argsO 19 (lv :: ws))) R s) hvs fun w u hw hu=>?_
  obtain ⟨fd,body,F,hck⟩:=ofn_of_check hlam hK hK0 hbo hck
  have hb:BindsTo s fd ⟨[lv,w],[("posix",u)]⟩ ((o_nm5.take o_fn5.arity).zip [lv,w,.none,u,.bool false]):=kp_binds (hK _ hI.tab) fun S=>by
    obtain ⟨o,e,h⟩:=onSPE (N S lv w u)
    obtain ⟨fd',e',h⟩:=onFuncPE h
    obtain ⟨o',ho,_,hd⟩:=F.obj
    cases (hK0 _ _ e).symm.trans ho
    cases e'.symm.trans hd
    rw [bindW_eq]
    exact h
  exact ocall_binds (D:=⟨Z.at fr,cA_ K,cl,exO fuel cl,lvl + 1,o_nm5⟩) (xc:=xc o_nm5) (fun fr'=>⟨hK,hK0,hB,OCallOk.up (hC fr') (Nat.le_succ _),fun j sc e hx=>hX cl lvl hC fr' o_nm5 j sc e hx⟩) (OFnAt.at (D:=⟨Z,cA_ K,cl,exO fuel cl,lvl + 1,o_nm5⟩) F fr) hck hb rfl
    (vals_of (xs:=[l,x,.d .none,p,.d (.bool false)]) (k:=1) (.cons hl (.cons hw (.cons ve_none (.cons hu (.cons ⟨.bool false,rfl⟩ .nil)))))) he hA hI hsz S hR
theorem oPrimOk {C8 a8 C9 f9 q9 a9:Addr} (hK:∀ h,Z.TabI h→K.In h) (hK0:K.In Z.h₀) (hlam:Z.lam = lamV K) (hB:OBiOk Z) (hO:OClsOk K C8 a8 C9 f9 q9 a9) (hck:ofnCheck K (fun sc body=>chkOSs K (cA_ K) (fA_ K) (xc o_nm5) o_nm5 sc o_fn5.body body) a8 o_nm5 o_fn5 = true) (hbo:BindO K a8 o_nm5 o_fn5) (hX:OExtOk Z (cA_ K) (fA_ K) xc (exO fuel)) :
    OPrimOk Z (cA_ K) (fA_ K) o_tab (primO fuel):=fun cl lvl hC {fr f a args st v st'} _ hf he {A s vs μ R} hA hI hsz S hvs hR=>by
  obtain ⟨⟨k1,k2,k3⟩,⟨k4,k5,k6⟩,n8,⟨n9,m9⟩,n19⟩:=hO
  unfold primO at he
  by_cases c9:f = 9
  · rw [if_pos c9] at he
    subst c9
    cases k6.symm.trans hf
    exact prim9 (Z:=Z.at fr) (hC fr) hK k4 k5 n9 m9 hA hI hsz S hvs he hR
  · rw [if_neg c9] at he
    by_cases c18:f = 18
    · rw [if_pos c18] at he
      subst c18
      cases k3.symm.trans hf
      exact prim18 (Z:=Z.at fr) (hC fr) hK k1 k2 n8 hA hI hsz S hvs he hR
    · rw [if_neg c18] at he
      by_cases c19:f = 19
      · rw [if_pos c19] at he
        subst c19
        cases k2.symm.trans hf
        exact prim19 hK hK0 hlam hB hC hX hck hbo n19 hA hI hsz S hvs he hR
      · rw [if_neg c19] at he; cases he
end
end Kt
end
section
open PySem PySem.W PyProof.Rows PySem.Calls Builtin
namespace Kt
noncomputable def mkQ (c:Nat) (d:Code):Option (Addr→Addr→Value × Sc):=match d with
  | .call v _=>(match v with | .builtin nn=>bif nn == "str.replace" then some (fun x _=>(.str (repS c) x,[])) else none | _=>none)
  | _=>none
noncomputable def QuoteP (prog:Program) (w:World) (K:Frag) (R:Result→Shared→Prop) (s:Shared) (p c:Nat) (tk:Tok) (L:Addr) (o1:Obj) (h1 h2:Heap):Prop :=
  h1.get? L = some fr0 ∧ ((h1.get? L).isSome = true ∧ K.In h2) ∧ h2.NoLimit ∧ h2.get? L = some o1 ∧ qb "str.__len__" [.str ⟨#[c]⟩ tk] ∧ h2.get? L = some o1 ∧ qb "re.Pattern.search" [.ref p,.str ⟨#[c]⟩ tk] ∧
    bif safeC c then h2.get? L = some o1 ∧ R (.ok (.ret (.str ⟨#[c]⟩ tk))) { s with heap:=h2,toks:=s.toks + 1 + 1 + 1 }
    else ((h2.push mTup).push (mObj (.str ⟨#[c]⟩ tk) p h2.objs.size)).get? L = some o1 ∧ ∀ A:Around,A.handled = none→codeAny (model prog w) A (.call (.builtin "str.replace") ⟨[.str ⟨#[c]⟩ tk,.str "'" (s.toks + 4),.str "'\"'\"'" (s.toks + 5)],[]⟩)
      (fun r s'=>∃ x _:Addr,r = .ok (.ret (.str (repS c) x)) ∧ K.In s'.heap ∧ qb "str.__add__" [.str "'" (s.toks + 3),.str (repS c) x] ∧ qb "str.__add__" [.str ("'" ++ repS c) s'.toks,.str "'" (s'.toks + 1)] ∧ R (.ok (.ret (.str ("'" ++ repS c ++ "'") (s'.toks + 2)))) { s' with toks:=s'.toks + 3 })
      { s with heap:=(h2.push mTup).push (mObj (.str ⟨#[c]⟩ tk) p h2.objs.size),toks:=s.toks + 6 }
noncomputable def FunQ1 (K:Frag) (a p c:Nat):Prop:=∀ (prog:Program) (w:World) (R:Result→Shared→Prop) (s:Shared) (tk:Tok),
  fnK K a (fun fd body=>(!fd.scope.isCoroutine && (!fd.scope.isGenerator && codeCheck K fd.qualname fd.code)) = true ∧ vcF prog w K (mkQ c) 9 fd body a ⟨[.str ⟨#[c]⟩ tk],[]⟩ R [(0,fr0),(0,nmP w "s" s.toks (.str ⟨#[c]⟩ tk) fr0),(1,nmP w "s" s.toks (.str ⟨#[c]⟩ tk) fr0),(7,nmP w "s" s.toks (.str ⟨#[c]⟩ tk) fr0)] s) =
    (true = true ∧ QuoteP prog w K R s p c tk s.heap.objs.size (nmP w "s" s.toks (.str ⟨#[c]⟩ tk) fr0) (s.heap.push fr0) ((s.heap.push fr0).update s.heap.objs.size (nmP w "s" s.toks (.str ⟨#[c]⟩ tk))))
noncomputable def FunQ (K:Frag) (a p:Nat):Prop:=∀ c,sgnC c = true→FunQ1 K a p c
noncomputable def qS (c:Nat):Str:=bif safeC c then ⟨#[c]⟩ else "'" ++ repS c ++ "'"
theorem quote_call {prog:Program} {w:World} {K:Frag} {A:Around} {s:Shared} {a p c:Nat} {tk:Tok} (N:FunQ K a p) (hc:sgnC c = true) (hh:A.handled = none) (hroom:A.depth < recursionLimit) (X:K.In s.heap) (hlim:s.heap.NoLimit) :
    codeAny (model prog w) A (.call (.ref a) ⟨[.str ⟨#[c]⟩ tk],[]⟩) (fun r s'=>(∃ u,r = .ok (.ret (.str (qS c) u))) ∧ Keeps s s') s:=by
  have hn:s.heap.get? s.heap.objs.size = none:=get?_ge (Nat.le_refl _)
  have hL:(s.heap.push fr0).get? s.heap.objs.size = some fr0:=Heap.get?_push_size _ rfl
  have k2:=keep_upd (f:=nmP w "s" s.toks (.str ⟨#[c]⟩ tk)) (fun b o e=>Heap.get?_push_of_some fr0 e) hn
  have g2:=Heap.get?_update_self (nmP w "s" s.toks (.str ⟨#[c]⟩ tk)) hL rfl
  have e:=(N c hc prog w (fun r s'=>(∃ u,r = .ok (.ret (.str (qS c) u))) ∧ Keeps s s') s tk).mpr ⟨rfl,hL,⟨by rw [hL]; rfl,X.keeps k2⟩,hlim.keeps k2,g2,Code.quiet_builtin _ (by decide +kernel),g2,Code.quiet_builtin _ (by decide +kernel),?_⟩
  · obtain ⟨o,fd,body,h1,h2,h3,h4,e⟩:=fnK_of e
    obtain ⟨h5,h4⟩:=andT h4
    obtain ⟨h6,h7⟩:=andT h4
    exact fwalk hh X hroom (X _ _ h1) h2 (notT h5) (notT h6) h3 (codeRec_of (codeOf X h7)) e
  · unfold qS
    cases safeC c with
    | true=>exact ⟨g2,⟨_,rfl⟩,_,_,rfl,k2⟩
    | false =>
      refine ⟨Heap.get?_push_of_some _ (Heap.get?_push_of_some _ g2),fun A hh=>call_repl hc rfl fun t t'=>?_⟩
      have k4:=fun b o e=>Heap.get?_push_of_some (mObj (.str ⟨#[c]⟩ tk) p ((s.heap.push fr0).update s.heap.objs.size (nmP w "s" s.toks (.str ⟨#[c]⟩ tk))).objs.size) (Heap.get?_push_of_some mTup (k2 b o e))
      exact ⟨t,0,rfl,X.keeps k4,Code.quiet_builtin _ (by decide +kernel),Code.quiet_builtin _ (by decide +kernel),⟨_,rfl⟩,_,_,rfl,k4⟩
end Kt
end
section
open PySem PySem.W PyProof.Rows PySem.Calls Builtin
namespace Kt
noncomputable def wD (c:Nat):PyData:=.str ⟨#[c]⟩
theorem qS_len (c:Nat):(qS c).length ≤ 7:=by
  unfold qS repS
  cases safeC c with
  | true=>exact (show 1 ≤ 7 by decide)
  | false =>
    cases c == 39 with
    | true=>exact Nat.le_of_ble_eq_true rfl
    | false=>exact (show 3 ≤ 7 by decide)
theorem qS_ok {c:Nat} (h:okD (wD c) = true):PyData.strOk (qS c) = true:=by
  have hc:okD (.str ⟨#[c]⟩) = true:=h
  have h39:okD (.str "'") = true:=by kernel_rfl
  unfold qS repS
  cases safeC c with
  | true=>exact (okS hc).1
  | false =>
    cases c == 39 with
    | true=>kernel_rfl
    | false=>exact (okS (okD_str_append (x:=⟨#[39,c]⟩) (okD_str_append (x:=⟨#[39]⟩) h39 hc (Nat.le_of_ble_eq_true rfl)) h39 (Nat.le_of_ble_eq_true rfl))).1
theorem sum_le (ts:List Str):∀ k:Nat,(∀ t ∈ ts,t.length ≤ 7)→ts.foldl (fun n x=>n + x.length + (" " : Str).length) k ≤ k + 8 * ts.length:=by
  induction ts with
  | nil=>exact fun k _=>Nat.le_refl _
  | cons t ts ih=>exact fun k h=>Nat.le_trans (ih _ fun u hu=>h u (List.mem_cons_of_mem _ hu)) (by
      rw [List.length_cons,Nat.mul_succ,Nat.add_comm (8 * ts.length),← Nat.add_assoc k]
      exact Nat.add_le_add_right (Nat.add_le_add_right (m:=k + 7) (Nat.add_le_add_left (h t List.mem_cons_self) k) 1) _)
theorem join_fits {cs:List Nat} (hlen:cs.length ≤ 900) (hok:okDs (cs.map wD) = true):JoinOk " " (cs.map qS) = true ∧ okD (.str (Str.join " " (cs.map qS))) = true:=by
  have hj:JoinOk " " (cs.map qS) = true:=by
    unfold JoinOk Builtin.Str.tooLong
    rw [← Array.foldl_toList,Bool.not_eq_true',decide_eq_false_iff_not]
    refine Nat.not_lt.mpr (Nat.le_trans (sum_le (cs.map qS) 0 fun t h=>?_) ?_)
    · obtain ⟨x,_,rfl⟩:=List.mem_map.mp h
      exact qS_len x
    · rw [List.length_map,Nat.zero_add]
      exact Nat.le_trans (Nat.mul_le_mul_left 8 hlen) (by decide)
  have hl:(Str.join " " (cs.map qS)).length ≤ sizeLine:=StrLaws.glued_eq_join _ _ ▸ joinFit_length ((Bool.not_eq_true' _).mp hj)
  refine ⟨hj,okS' (strOk_join (by kernel_rfl) _ fun t h=>?_) hl⟩
  obtain ⟨x,hx,rfl⟩:=List.mem_map.mp h
  exact qS_ok (okDs_mem.mp hok (wD x) (List.mem_map_of_mem hx))
theorem rd_words {h:Heap} {vs:List Value} {cs:List Nat} {as:List Addr} (r:RdAll h vs (cs.map wD) as):vs.length = cs.length ∧ ∀ (i:Nat) (v:Value),vs[i]? = some v→∃ c t,cs[i]? = some c ∧ v = .str ⟨#[c]⟩ t:=by
  have hl:vs.length = cs.length:=(rdAll_length r).trans (List.length_map _)
  refine ⟨hl,fun i v e=>?_⟩
  have hc:cs[i]? = some (cs[i]'(hl ▸ (List.getElem?_eq_some_iff.mp e).1)):=List.getElem?_eq_getElem _
  obtain ⟨v',bs,e',r',_⟩:=rdAll_get r ((List.getElem?_map ..).trans (congrArg (Option.map wD) hc))
  cases e.symm.trans e'
  obtain ⟨t,ht⟩:=rd_str r'
  exact ⟨_,t,hc,ht⟩
end Kt
end
section
open PySem PySem.W PyProof.Rows PySem.Calls Builtin
namespace Kt
noncomputable def j_nm:List Str:=["split_command"]
noncomputable def j_fn:OF:=⟨1,1,[],.nil⟩
noncomputable def gNames:List (Str × NameKind):=[((".0" : Str),.local),(("arg" : Str),.local),(("quote" : Str),.globalImplicit)]
noncomputable abbrev genX (p1 p2 p3 p4 p5:Pos) (gsc:Scope) (gpos:Pos):Expr:=.GeneratorExp (.Call (.Name "quote" p1) [.Name "arg" p2] [] p3) [⟨.Name "arg" p4,.Name "split_command" p5,[],0⟩] gsc gpos
noncomputable def JoinBody (gp:Nat × Nat) (body:List Stmt):Prop:=∃ (k0:Nat) (q0 apos p1 p2 p3 p4 p5 gpos pos rpos:Pos) (gsc:Scope),body = [.Return (some (.Call (.Attribute (.Constant (.str " ") k0 q0) "join" apos) [genX p1 p2 p3 p4 p5 gsc gpos] [] pos)) rpos] ∧
  (apos.endLine == pos.line) = true ∧ (gpos.line = gp.1 ∧ gpos.col = gp.2) ∧ gsc.names = gNames ∧ gsc.kind = .function ∧ gsc.isCoroutine = false
noncomputable def FunJ (K:Frag) (a c:Addr) (gp:Nat × Nat):Prop:=fnK K a fun fd body=>fd.code = .ref c ∧ JoinBody gp body
theorem pass_true (n:Nat):passing (fun _=>true) n 0 = List.range n:=by
  unfold passing
  rw [List.drop_zero,List.filter_eq_self]
  exact fun _ _=>rfl
theorem nl_but {h h':Heap} {P:Addr} (x:h.NoLimit) (hP:P ≠ cStatics) (hk:∀ b o,b ≠ P→h.get? b = some o→h'.get? b = some o):h'.NoLimit:=by
  obtain ⟨mc,⟨o',es,ep,e,r⟩,b⟩:=x
  exact ⟨mc,⟨o',es,ep,hk _ _ hP.symm e,r⟩,b⟩
section
variable {Z:Zone} {K:Frag} {c P:Addr} {gp:Nat × Nat} {A:Around} {s:Shared} {E:Value→Shared→Prop}
theorem gen_code (GK:LamOk Z K c P gp) (hI:Inv Z s) {env:Env} {pos:Pos} {q:Str} {sc:Scope} {Q:Value→Shared→Prop} (hcode:env.code = .ref c) (hp:pos.line = gp.1 ∧ pos.col = gp.2)
    (h:∀ code h' tk,Heap.ExtBut P s.heap h'→s.heap.objs.size ≤ h'.objs.size→OldK Z.h₀ h'→LamTab P gp h'→Q code { s with heap:=h',toks:=tk }):wpAny (model Z.prog Z.w) A (genexprCode env pos q sc) Q E s:=by
  obtain ⟨ps,hP,hps⟩:=GK.tab _ hI.tab
  have C:=codeHd_mp GK.hd fun _ _ hc e=>hI.old.get_of_cls e hc
  rcases hps with rfl | ⟨cv,rfl⟩
  · refine wpAny_genexprCodeX hcode (C.code hP (by simp [TriplesOk])) (C.tab hP) rfl fun c' h₃ tk₃ hx hge hlt _ _ htab _=>?_
    exact h _ h₃ tk₃ hx (Nat.le_trans hge (Nat.le_of_lt hlt)) (hI.old.step_table (GK.hd.tab GK.tab₀) (C.tab hP) htab hx GK.ne.2) ⟨_,htab.2,.inr ⟨.ref c',by rw [hp.1,hp.2]; rfl⟩⟩
  · exact wpAny_genexprCode_hit (c':=cv) hcode (C.code hP (by simp [TriplesOk,rawInt])) (by simp [codeAmong,rawInt,hp.1,hp.2]) (h _ _ s.toks (fun _ _ _ e=>e) (Nat.le_refl _) hI.old ⟨_,hP,.inr ⟨cv,rfl⟩⟩)
theorem gen_elt {aq p0:Addr} {x:Nat} {tx:Tok} {m₂:Str→Option Value} {L:Addr} {code:Value} {env:Env} {p1 p2 p3:Pos} {gsc:Scope} (N:FunQ K aq p0) (hqn:Z.mg "quote" = some (.ref aq)) (hqk:keepIn K (.ref aq) = true) (hx:sgnC x = true) (hn:gsc.names = gNames) (hk:gsc.kind = .function) (hgl:env.globals = mainGlobals)
    (hh:A.handled = none) (hroom:A.depth < recursionLimit) (X:K.In s.heap) (hlim:s.heap.NoLimit) (hg:s.heap.Ns mainGlobals Z.mg) (hns:s.heap.Ns L m₂) (hm:m₂ "arg" = some (.str ⟨#[x]⟩ tx)) :
    wpAny (model Z.prog Z.w) A (eval (.Call (.Name "quote" p1) [.Name "arg" p2] [] p3) (genEnv gsc [] L code builtinsNs env)) (fun y s'=>(∃ u,y = .str (qS x) u) ∧ Keeps s s') E s:=by
  have l1:gsc.names.lookup ("quote" : Str) = some .globalImplicit:=by rw [hn]; decide
  have l2:gsc.names.lookup ("arg" : Str) = some .local:=by rw [hn]; decide
  rw [eval_Call_Name]
  refine wpAny_bind (Calls.Name_function_global hk l1 (Calls.loadGlobal_global (mg:=Z.mg) (by show s.heap.Ns env.globals Z.mg; rw [hgl]; exact hg) hqn ?_) (by decide))
  refine callWith_of (P:=K.In) (by rw [(plain_one rfl).1]; rfl) (keeps_K hqk) (evalArgs_of (Z:=Z) ((plain_one rfl).2.1 nofun _ p3) ?_)
  rw [not_starred rfl]
  show wpAny _ _ (spliced ((false,eval (.Name "arg" p2) (genEnv gsc [] L code builtinsNs env)) :: backTo p3 (starEach [] (genEnv gsc [] L code builtinsNs env)))) _ _ _
  refine Calls.spliced_cons (wpAny_Name (wpAny_loadName_local hk l2 hns hm (Calls.spliced_nil ⟨X,wpAny_call (codeAny_mono (quote_call N hx hh hroom X hlim) fun r s' h=>?_)⟩)) (by decide))
  obtain ⟨⟨u,rfl⟩,k⟩:=h
  exact ⟨⟨u,rfl⟩,k⟩
theorem bi_for {h:Heap} {g bi:Addr} {Q:Addr→Shared→Prop} (B:h.BuiltinsAt Z.mg P) (hg:s.heap.Ns g Z.mg) (hk:∀ b o,b ≠ P→h.get? b = some o→s.heap.get? b = some o) (q:Q builtinsNs s):wpAny (model Z.prog Z.w) A (builtinsFor g bi) Q E s:=by
  obtain ⟨bm,ob,hbm,hne0,_,hneP,hbo,hcls,hdict,hdata⟩:=B
  exact wpAny_builtinsFor hg hbm hne0 (hk _ _ hneP hbo) hcls hdict hdata q
abbrev itObj (l:Addr):Obj:={ cls:=.type "list_iterator",data:=.fields #[.ref l,.int 0 0] }
theorem lst_eq {cs:List Nat} {n:Nat} {lst:List (Str × Tok)} (hn:n = cs.length) (h:ItemsOf (fun j y=>∃ i,(passing (fun _=>true) n 0)[j]? = some i ∧ ∃ x u,cs[i]? = some x ∧ y = .str (qS x) u) (strValues lst).toArray (passing (fun _=>true) n 0).length):lst.map (·.1) = cs.map qS:=by
  rw [pass_true,List.length_range,hn] at h
  have hl:lst.length = cs.length:=by simpa [strValues] using h.1
  refine List.ext_getElem? fun j=>?_
  rcases Nat.lt_or_ge j lst.length with hj | hj
  · obtain ⟨i,hi,x,u,hx,he⟩:=h.2 j (.str (lst[j]'hj).1 (lst[j]'hj).2) (by simp [strValues,hj])
    rw [List.getElem?_range (hl ▸ hj)] at hi
    cases hi
    injection he with he1 _
    rw [List.getElem?_map,List.getElem?_map,hx,List.getElem?_eq_getElem hj,Option.map_some,Option.map_some,he1]
  · rw [List.getElem?_eq_none (by rw [List.length_map]; exact hj),List.getElem?_eq_none (by rw [List.length_map,← hl]; exact hj)]
theorem gen_join (GK:LamOk Z K c P gp) (hK:∀ h,Z.TabI h→K.In h) {aq p0:Addr} (N:FunQ K aq p0) (hqn:Z.mg "quote" = some (.ref aq)) (hqk:keepIn K (.ref aq) = true) {cs:List Nat} (hcs:∀ x ∈ cs,sgnC x = true) (hlen:cs.length ≤ 900) (hfit:JoinOk " " (cs.map qS) = true)
    {env:Env} {p1 p2 p3 p4 p5 gpos:Pos} {gsc:Scope} {l:Addr} {items:Array Value} {m:Str→Option Value} {t0:Tok} {Q:Value→Shared→Prop} (hp:gpos.line = gp.1 ∧ gpos.col = gp.2) (hn:gsc.names = gNames) (hk:gsc.kind = .function) (hco:gsc.isCoroutine = false)
    (hkd:env.scope.kind = .function) (hsc:env.kindOf "split_command" = some .local) (hns:s.heap.Ns env.locals m) (hm:m "split_command" = some (.ref l)) (hl:s.heap.IsList l items) (hcode:env.code = .ref c) (hgl:env.globals = mainGlobals)
    (hA:A.handled = none) (hroom:A.depth + 1 < recursionLimit) (hI:Inv Z s) (hsz0:Z.n ≤ s.heap.objs.size) (hPl:l ≠ P) (hil:items.size = cs.length) (hiw:∀ (i:Nat) v,items[i]? = some v→∃ x t,cs[i]? = some x ∧ v = .str ⟨#[x]⟩ t)
    (hQ:∀ s' t,Inv Z s'→(∀ b o,b ≠ P→s.heap.get? b = some o→s'.heap.get? b = some o)→Q (.str (Str.join " " (cs.map qS)) t) s') :
    wpAny (model Z.prog Z.w) A (eval (genX p1 p2 p3 p4 p5 gsc gpos) env) (fun g s'=>wpAny (model Z.prog Z.w) A (call (.builtin "str.join") [.str " " t0,g]) Q E s') E s:=by
  have hclo:closureFor gsc env = pure []:=by unfold closureFor; rw [hn]; rfl
  refine wpAny_GeneratorExp_walksQD (cl:=[]) hA hco hclo (by rw [hn]; decide) (by rw [hn]; decide) (by rw [hn]; decide) hk (Nat.lt_of_succ_lt hroom) ?_ (fun _=>rfl)
  refine wpAny_Name (wpAny_loadName_local hkd hsc hns hm ?_) (by decide)
  have I2:Inv Z { s with heap:=s.heap.push (itObj l) }:=hI.push _ s.toks
  refine wpAny_pyIter_list hl ⟨I2.lim,gen_code GK I2 hcode hp fun code h₃ tk₃ hx hsz hold htab=>?_⟩
  have hit:=Heap.get?_push_size (h:=s.heap) (o:=itObj l) rfl
  have hPs:P < s.heap.objs.size:=let ⟨_,e,_⟩:=GK.tab _ hI.tab; Heap.lt_size e
  have hlt:l < s.heap.objs.size:=let ⟨_,e,_⟩:=hl; Heap.lt_size e
  have hk3:∀ b o,b ≠ P→s.heap.get? b = some o→h₃.get? b = some o:=fun b o hb e=>hx b o hb (Heap.get?_push_of_some _ e)
  have hs3:s.heap.objs.size < h₃.objs.size:=Nat.lt_of_lt_of_le (Heap.size_push s.heap (itObj l) ▸ Nat.lt_succ_self _) hsz
  refine bi_for (bm_old GK.bm hI.old) (by rw [hgl]; exact hI.glob.at' fun o e=>hk3 _ o GK.ne.1.symm e) hk3 ?_
  refine ⟨s.heap.objs.size,[s.heap.objs.size,l],[s.heap.objs.size],items.size,_,_,fun _=>true,fun i y=>∃ x u,cs[i]? = some x ∧ y = .str (qS x) u,rfl,fun A' hA'=>Walks.list hA' _ _ (Nat.ne_of_lt hlt) items,
    ⟨⟨_,hx _ _ (fun e=>Nat.ne_of_lt hPs e.symm) hit,rfl,rfl⟩,let ⟨o',e,r⟩:=hl; ⟨o',hk3 _ _ hPl e,r⟩⟩,fun b hb=>(List.mem_cons.mp hb).elim (fun e=>e ▸ hs3) fun hb=>(List.mem_singleton.mp hb).symm ▸ Nat.lt_trans hlt hs3,nl_but hI.lim GK.ne.2 hk3,fun h=>Nat.ne_of_lt (let ⟨_,hn,_⟩:=hI.lim; hn.lt) (List.mem_singleton.mp h),
    fun href hhref=>⟨fun A' E' i v t m₂ _ _ _ _ _ _ _=>by rw [List.forIn_nil]; exact wpAny_pure ⟨rfl,_,_,rfl,fun _ _ e=>e⟩,fun A' E' i v t m₂ hA' hD _ hPi _ hns' hm' hk'=>?_⟩,fun a h₅ tk gs hgb hag hsz₅ hk₅ W hat=>?_⟩
  · obtain ⟨x,tx,hx',rfl⟩:=hiw i v hPi
    have hk2:∀ b o,b ≠ P→s.heap.get? b = some o→t.heap.get? b = some o:=fun b o hb e=>hk' b (List.mem_range.mpr (Nat.lt_trans (Heap.lt_size e) hs3)) (fun h=>Nat.ne_of_lt (Heap.lt_size e) (List.mem_singleton.mp h)) o (hhref b o (hk3 b o hb e))
    refine wpAny_mono (gen_elt N hqn hqk (hcs x (List.mem_of_getElem? hx')) hn hk hgl hA' (Nat.lt_of_le_of_lt hD hroom) (fun b o e=>hk2 b o (fun e'=>nomatch (e' ▸ GK.out).symm.trans e) (hK _ hI.tab b o e)) (nl_but hI.lim GK.ne.2 hk2) (hI.glob.at' fun o e=>hk2 _ o GK.ne.1.symm e) hns' hm') (fun y s' h=>?_) fun _ _ e=>e
    obtain ⟨⟨u,hu⟩,k⟩:=h
    exact ⟨⟨x,u,hx',hu⟩,k⟩
  · have hn':(passing (fun _=>true) items.size 0).length = cs.length:=by rw [pass_true,List.length_range,hil]
    have hge:∀ b ∈ [h₃.objs.size,s.heap.objs.size],s.heap.objs.size ≤ b:=fun b hb=>(List.mem_cons.mp hb).elim (fun e=>e ▸ Nat.le_of_lt hs3) fun hb=>List.mem_singleton.mp hb ▸ Nat.le_refl _
    refine SC.joinGen W.in4_2 (fun i s' st=>st.1.typeIs) hat (fun b hb=>?_) List.mem_cons_self (fun i v hv=>?_) (fun s'' lst hmo hit=>?_) (by rw [hn']; exact Nat.le_trans hlen (by decide))
    · show b < h₅.objs.size
      rw [hsz₅]
      exact (List.mem_cons.mp hb).elim (fun e=>e ▸ Nat.lt_succ_self _) fun hb=>(List.mem_cons.mp hb).elim (fun e=>e ▸ Nat.lt_succ_of_lt hag) fun hb=>Nat.lt_succ_of_lt (Nat.lt_trans (List.mem_range.mp hb) hag)
    · obtain ⟨_,_,x,u,_,e⟩:=hv
      exact ⟨_,_,e⟩
    · rw [lst_eq hil hit,show Txt.join " " (cs.map qS) = Str.join " " (cs.map qS) from StrLaws.glued_eq_join _ _]
      have hm:∀ b o,b < s.heap.objs.size→h₅.get? b = some o→s''.heap.get? b = some o:=fun b o hb e=>hmo.heap b o (fun hw=>Nat.not_lt.mpr (hge b hw) hb) e
      have hkw:∀ b o,b ≠ P→s.heap.get? b = some o→s''.heap.get? b = some o:=fun b o hb e=>hm b o (Heap.lt_size e) (hk₅ b o (hk3 b o hb e))
      exact ⟨hfit,fun t' k=>hQ _ _ (GK.inv hI hkw (OldK.stepOld (hold.step_keeps hk₅) fun b o hb e=>hm b o (Nat.lt_of_lt_of_le hb hsz0) e) ((htab.keeps hk₅).imp fun _ x=>x.imp_left (hm _ _ hPs)) (hmo.gens.bare (hI.gens.push hgb)) hmo.os) hkw⟩
theorem join_call (hlam:Z.lam = lamV K) (hK:∀ h,Z.TabI h→K.In h) (hK0:K.In Z.h₀) (GK:LamOk Z K c P gp) {a aq p0:Addr} (J:FunJ K a c gp) (hbo:BindO K a j_nm j_fn) (hck:ofnCheck K (fun _ _=>true) a j_nm j_fn = true) (N:FunQ K aq p0) (hqn:Z.mg "quote" = some (.ref aq)) (hqk:keepIn K (.ref aq) = true)
    {cs:List Nat} (hcs:∀ x ∈ cs,sgnC x = true) (hlen:cs.length ≤ 900) {vs:List Value} {as:List Addr} {Q:Value→Shared→Prop} (hA:AOk Z 20 A) (hI:Inv Z s) (hsz:Z.n ≤ s.heap.objs.size) (r:RdAll s.heap vs [.list (cs.map wD)] as) (hok:okDs (cs.map wD) = true)
    (hQ:∀ v s',Inv Z s'→Kp Z.n s.heap s'.heap→Rd s'.heap v (.str (Str.join " " (cs.map qS))) []→okD (.str (Str.join " " (cs.map qS))) = true→Q v s'):wpAny (model Z.prog Z.w) A (call (.ref a) vs) Q E s :=
  rdAll1 (m:=fun vs _=>wpAny (model Z.prog Z.w) A (call (.ref a) vs) Q E s) r fun v bs rv=>by
  obtain ⟨l,items,n,sl,cs',rfl,hl,hr,_⟩:=rd_list_obj rv
  obtain ⟨hil,hiw⟩:=rd_words hr
  obtain ⟨o,fd,body,j1,j2,j3,hcode,hjb⟩:=fnK_of J
  obtain ⟨fd',body',FF,_⟩:=ofn_of_check hlam hK hK0 hbo hck
  obtain ⟨o',f1,_,f3⟩:=FF.obj
  cases (hK0 _ _ j1).symm.trans f1
  cases j2.symm.trans f3
  cases j3.symm.trans FF.body
  obtain ⟨k0,q0,apos,p1,p2,p3,p4,p5,gpos,pos,rpos,gsc,rfl,hline,hp,g3,g4,g5⟩:=hjb
  obtain ⟨dv,hdv,hb⟩:=FF.bind
  cases hdv
  have hb:BindsTo s fd ⟨[.ref l],[]⟩ ((j_nm.take j_fn.arity).zip [.ref l]):=hb s [.ref l] hI.tab (Nat.le_refl _) (Nat.le_refl _)
  refine wpAny_call (oframe (D:=⟨Z,fun _=>none,fun _ _ _=>none,fun _ _ _=>none,1,j_nm⟩) (ρ:=[none]) (μ:=[]) (st:=[]) FF hb rfl (fun x v h=>by cases x with | zero=>cases h | succ x=>cases h) (hA.mono (show 8 * (1 + 1) ≤ 20 by decide)) hI hsz ⟨rfl,.nil,nofun,fun k x f h=>nomatch h⟩ fun env s₁ _ C out hx=>hx.2.2.elim fun m hm=>?_)
  have henv:=hx.1
  have hk1:=hx.2.1
  have hml:m "split_command" = some (.ref l):=hm.2 0 _ rfl
  have hP0:∀ b ob,s₁.heap.get? b = some ob→(ob.cls ≠ .none ∨ Z.n ≤ b)→b ≠ P:=fun b ob e h e'=>by
    obtain ⟨ps,hP,_⟩:=GK.tab _ C.hi.tab
    subst e'
    cases hP.symm.trans e
    exact h.elim (fun h=>h rfl) fun h=>Nat.not_lt.mpr h (Heap.lt_size GK.tab₀)
  have hpl:PlainArgs [genX p1 p2 p3 p4 p5 gsc gpos]:=plain_one rfl
  refine wpAny_execs_cons (wpAny_Return_some (wpAny_Call_method_lateS (attributeBase_of rfl _ _ _) (few_ok hpl (Nat.le_of_ble_eq_true rfl)) hline ?_))
  rw [arm_eval_Constant]
  refine wpAny_mkText ⟨"str",_,F.plainAttrs_str,F.slot_str_join,F.type_str_join,typeIs_str _ _ _,nofun,callWith_nonref nofun (hpl.1 env pos) (evalArgs_of (Z:=Z) (hpl.2.1 nofun env pos) ?_)⟩
  rw [not_starred rfl]
  show wpAny _ _ (spliced ((false,eval (genX p1 p2 p3 p4 p5 gsc gpos) env) :: backTo pos (starEach [] env))) _ _ _
  refine Calls.spliced_cons (wpAny_mono (gen_join (Z:=Z.at (env.locals :: Z.fr)) (GK.at _) hK N hqn hqk hcs hlen (join_fits hlen hok).1 hp g3 g4 g5 (C.he.kind) (henv ▸ FF.params _ (by decide)) hm.1 hml ⟨_,hk1 _ _ hl,rfl,_,rfl⟩ (henv ▸ hcode) C.he.glob C.ha.handled (by have:=C.ha.depth; omega) (C.hi.tok _) C.he.size (hP0 l _ (hk1 _ _ hl) (.inl nofun)) (hil ▸ rfl) (fun i v e=>hiw i v (Array.getElem?_toList ▸ e)) fun s' t I' hk'=>?_) (fun _ _ h=>Calls.spliced_nil h) fun _ _ e=>e)
  have o':=out (so:=[]) (μ':=[]) (s':=s') ⟨I',⟨List.prefix_rfl,fun b ob e h _ _=>.inl (hk' b ob (hP0 b ob e h) e),nofun⟩,⟨rfl,.nil,nofun,fun k x f h=>nomatch h⟩⟩
  exact hQ _ _ o'.i ⟨fun b ob e h=>o'.t.keep b ob e h nofun id⟩ (.str _ _) (join_fits hlen hok).2
end
end Kt
end
section
open PySem PySem.W PyProof.Rows PySem.Calls Builtin
namespace Kt
theorem bm_tab {p:Program} {loose:List Str} {mean:ExcName→Option Value} {mg mb:Str→Option Value} {h₀:Heap} {P:Addr} (T:Top p loose mean mg mb h₀) (hP:h₀.get? P = some (tabObj #[])):(P ≠ mainGlobals ∧ P ≠ cStatics) ∧ h₀.BuiltinsAt mg P:=by
  have hn:∀ {a m},h₀.Ns a m→P ≠ a:=fun x e=>by
    obtain ⟨o,es,ep,e1,e2,_⟩:=x
    rw [← e,hP] at e1; cases e1; cases e2
  obtain ⟨mc,hc,_⟩:=T.nolimit
  refine ⟨⟨hn T.g,hn hc⟩,?_⟩
  obtain ⟨bm,ob,h1,h2,h3,h4,h5,h6⟩:=T.bmain
  refine ⟨bm,ob,h1,h2,fun e=>?_,fun e=>?_,h3,h4,h5,h6⟩
  · obtain ⟨o,es,ep,e1,e2,_⟩:=T.g
    rw [← e,h3] at e1; cases e1; rw [h6] at e2; cases e2
  · rw [e,hP] at h3; cases h3; cases h6
structure ZoneOf (Z:Zone) (K:Frag) (lp gp:Nat × Nat) (c1 P1 c2 P2:Addr):Prop where
  hK:∀ h,Z.TabI h→K.In h
  hK0:K.In Z.h₀
  tab₀:Z.TabI Z.h₀
  lam:Z.lam = .ref c1
  lok:LamOk Z K c1 P1 lp
  gok:LamOk Z K c2 P2 gp
  mb:∀ x:Str,x ≠ "__name__" → Z.mb x = bootBuiltins x
theorem zone_of {prog:Program} {w:World} {p:Program} {loose:List Str} {mean:ExcName→Option Value} {mg mb:Str→Option Value} {s:Shared} {K:Frag} {lp gp:Nat × Nat} {c1 P1 c2 P2:Addr} (T:Top p loose mean mg mb s.heap) (X:K.In s.heap) (e1:s.heap.get? P1 = some (tabObj #[])) (e2:s.heap.get? P2 = some (tabObj #[]))
    (h1:codeHdIn K c1 P1 = true) (h2:codeHdIn K c2 P2 = true) (n1:K.lookup P1 = none) (n2:K.lookup P2 = none) (ne:P1 ≠ P2) :
    ∃ Z:Zone,ZoneOf Z K lp gp c1 P1 c2 P2 ∧ (Z.prog = prog ∧ Z.w = w ∧ Z.h₀ = s.heap ∧ Z.os = s.os) ∧ Z.mg = mg ∧ Z.fr = []:=by
  have l1:=Heap.lt_size e1
  have l2:=Heap.lt_size e2
  refine ⟨{
    prog:=prog,w:=w,h₀:=s.heap,os:=s.os,mg:=mg,mb:=mb,hg:=T.g,hb:=T.b,fr:=[],lam:=.ref c1
    TabI:=fun h=>K.In h ∧ LamTab P1 lp h ∧ LamTab P2 gp h
    tabK:=fun h h' x k=>⟨fun a o e=>k a o (Heap.lt_size (X a o e)) (x.1 a o e),x.2.1.imp fun _ y=>y.imp_left (k _ _ l1),x.2.2.imp fun _ y=>y.imp_left (k _ _ l2)⟩ },?_,⟨rfl,rfl,rfl,rfl⟩,rfl,rfl⟩
  obtain ⟨a1,b1⟩:=bm_tab T e1
  obtain ⟨a2,b2⟩:=bm_tab T e2
  exact {
    hK:=fun h x=>x.1
    hK0:=X
    tab₀:=⟨X,⟨_,e1,.inl rfl⟩,_,e2,.inl rfl⟩
    lam:=rfl
    lok:=⟨codeHd_of_K X h1,e1,n1,a1,b1,fun h x=>x.2.1,fun h h' x k t=>⟨fun a o e=>k a o (fun e'=>by rw [e',n1] at e; cases e) (x.1 a o e),t,x.2.2.imp fun _ y=>y.imp_left (k _ _ ne.symm)⟩⟩
    gok:=⟨codeHd_of_K X h2,e2,n2,a2,b2,fun h x=>x.2.2,fun h h' x k t=>⟨fun a o e=>k a o (fun e'=>by rw [e',n2] at e; cases e) (x.1 a o e),x.2.1.imp fun _ y=>y.imp_left (k _ _ ne),t⟩⟩
    mb:=T.builtins }
noncomputable def absentK (K:Frag) (n:Str):Bool:=onS (K.lookup mainGlobals) fun o=>onDict o.data fun es _=>(nsFind es n).isNone
structure HeadOk (K:Frag) (lp gp:Nat × Nat) (c1 P1 c2 P2:Addr) (C8 a8 C9 f9 q9 a9 aj aq p0:Addr):Prop where
  b:(([codeHdIn K c1 P1,codeHdIn K c2 P2,(K.lookup P1).isNone,(K.lookup P2).isNone,P1 != P2,lamV K == .ref c1,extOk K,o_tabL.all (oTabCheck K (xcO lp)),(obiTab ++ biTab).all fun x=>absentK K x.1,absentK K "ValueError",
    ofnCheck K (fun sc body=>chkOSs K (cA_ K) (fA_ K) (xcO lp o_nm5) o_nm5 sc o_fn5.body body) a8 o_nm5 o_fn5,globK K "join_shlex" == some (.ref aj),ofnCheck K (fun _ _=>true) aj j_nm j_fn,globK K "quote" == some (.ref aq),keepIn K (.ref aq)]:List Bool).all id) = true
  bd:(allP o_tabL fun p=>onSP (fA_ K p.1) fun a=>BindO K a p.2.1 p.2.2) ∧ BindO K a8 o_nm5 o_fn5 ∧ BindO K aj j_nm j_fn ∧ ext2B K (cA_ K)
  cls:OClsOk K C8 a8 C9 f9 q9 a9
  j:FunJ K aj c2 gp
  q:FunQ K aq p0
section
variable {Z:Zone} {K:Frag} {lp gp:Nat × Nat} {c1 P1 c2 P2:Addr} {C8 a8 C9 f9 q9 a9 aj aq p0:Addr}
theorem glob_none (X:K.In Z.h₀) {n:Str} (h:absentK K n = true):Z.mg n = none:=by
  obtain ⟨o,hk,h⟩:=onSE h
  obtain ⟨es,m,hd,h⟩:=onDictE h
  obtain ⟨o',es',ep,e,hd',_,hall⟩:=Z.hg
  cases (X _ _ hk).symm.trans e
  cases hd.symm.trans hd'
  exact (hall n).symm.trans (Option.isNone_iff_eq_none.mp h)
theorem bi_boot:((obiTab ++ biTab).all fun x=>bootBuiltins x.1 == some x.2 && x.1 != ("__name__" : Str)) = true:=by kernel_rfl
theorem zone_bi (ZO:ZoneOf Z K lp gp c1 P1 c2 P2) (H:HeadOk K lp gp c1 P1 c2 P2 C8 a8 C9 f9 q9 a9 aj aq p0) {n:Str} {v:Value} (h:(n,v) ∈ obiTab ++ biTab):Z.mg n = none ∧ Z.mb n = some v :=
  have h2:=andT (List.all_eq_true.mp bi_boot _ h)
  ⟨glob_none ZO.hK0 (List.all_eq_true.mp (allAt H.b 8 rfl) _ h),(ZO.mb _ (bne_iff_ne.mp h2.2)).trans (eq_of_beq h2.1)⟩
theorem libOk (ZO:ZoneOf Z K lp gp c1 P1 c2 P2) (H:HeadOk K lp gp c1 P1 c2 P2 C8 a8 C9 f9 q9 a9 aj aq p0) (F lvl:Nat) (fr:List Addr):OCallOk (Z.at fr) (cA_ K) (libO F lvl) (2 * lvl) (fA_ K):=by
  have hB:OBiOk Z:=fun n v h=>zone_bi ZO H (List.mem_append_left _ h)
  have hl:Z.lam = lamV K:=ZO.lam.trans (eq_of_beq (allAt H.b 5 rfl)).symm
  have hX:OExtOk Z (cA_ K) (fA_ K) (xcO lp) (exO F):=oExtOk ZO.hK ZO.hK0 hl hB H.bd.2.2.2 ZO.lok ZO.lam (allAt H.b 6 rfl)
  exact fun {f a args st v st'} h1 h2 {A s vs μ R}=>ocallOk (fuel:=F) ZO.hK ZO.hK0 hB (oTabOk hl ZO.hK ZO.hK0 H.bd.1 (allAt H.b 7 rfl)) (oPrimOk ZO.hK ZO.hK0 hl hB H.cls (allAt H.b 10 rfl) H.bd.2.1 hX) hX lvl fr h1 h2
end
end Kt
end
section
open PySem PySem.W PyProof.Rows PySem.Calls Builtin
namespace Kt
noncomputable def strsOf:List PyData→Option (List Nat)
  | []=>some []
  | x :: r=>dStr x fun s=>argC s.cps.toList fun c t=>argN t ((strsOf r).map (c :: ·))
theorem strsOf_eq:∀ {xs:List PyData} {cs:List Nat},strsOf xs = some cs→xs = cs.map wD
  | [],_,h=>by cases h; rfl
  | x :: r,cs,h=>dStrK h fun s es h=>argCK h fun c t ec h=>argNK h fun et h=>mapK h fun cs' h1 e=>by
    have e2:s = ⟨#[c]⟩:=congrArg Str.mk (Array.toList_inj.mp (ec.trans (congrArg (c :: ·) et)))
    rw [← e,es,e2,strsOf_eq h1]; rfl
noncomputable def flatsO:List OV→Option (List PyData)
  | []=>some []
  | v :: r=>oDat v fun x=>if flat x && okD x then (flatsO r).map (x :: ·) else none
noncomputable def splitP (F:Nat) (x:Str):Option PyData:=(libO F 6 15 [.d (.str x)] []).bind fun r=>oNum r.1 fun k=>fL r.2[k]? fun vs=>(flatsO vs).map .list
noncomputable def transP (F:Nat) (x:Str):Option PyData:=(libO F 6 14 [.d (.str x)] []).bind fun r=>oDat r.1 fun d=>if flat d && okD d then some d else none
noncomputable def joinP (xs:List PyData):Option PyData:=(strsOf xs).bind fun cs=>if cs.all sgnC && decide (cs.length ≤ 900) then some (.str (Str.join " " (cs.map qS))) else none
noncomputable def cmpP (ded:List PyData→Option PyData) (xs ys:List PyData):Option PyData:=(ded [.list xs]).bind fun a=>(ded [.list ys]).bind fun b=>dList a fun xs'=>dList b fun ys'=>if PyData.depthAll xs' ≤ 64 then some (.bool (cmpRes xs' ys')) else none
noncomputable def primN (F:Nat) (ded:List PyData→Option PyData) (n:Str) (args:List PyData):Option PyData:=argC args fun x r =>
  if n = "split" then argN r (dStr x (splitP F)) else if n = "translate" then argN r (dStr x (transP F)) else if n = "join_shlex" then argN r (dList x joinP)
  else if n = "_compare_args_orderless" then argC r fun y r'=>argN r' (dList x fun xs=>dList y fun ys=>cmpP ded xs ys) else none
theorem flatsO_rd {μ:List Addr} {h:Heap} {vs:List Value} {xs:List OV} (hv:VEs μ vs xs):∀ {ds:List PyData},flatsO xs = some ds→RdAll h vs ds [] ∧ okDs ds = true ∧ ds.length = xs.length:=by
  induction hv with
  | nil=>intro ds hd; cases hd; exact ⟨.nil,rfl,rfl⟩
  | @cons v x vs xs h1 _ ih =>
    exact fun {ds} hd=>oDatK hd fun d e hd=>ifP hd fun hx hd=>mapK hd fun ds' h2 ed=>by
      obtain ⟨g1,g2,g3⟩:=ih h2
      subst e; subst ed
      exact ⟨.cons (as:=[]) (bs:=[]) (Fl0.rd h1 h).1 g1,Bool.and_eq_true_iff.mpr ⟨(andT hx).2,g2⟩,congrArg (· + 1) g3⟩
end Kt
end
section
open PySem PySem.W PyProof.Rows PySem.Calls Builtin
namespace Kt
noncomputable def cmp_nm:List Str:=["first_args", "second_args", "first_unhashable", "second_unhashable", "t", "elem"]
noncomputable def tabD (d:Nat) (pf:PF) (f:Nat):Option PF:=if f = d then some pf else none
noncomputable def dedF (F d:Nat) (pf:PF):Nat→List PyData→Option PyData:=runF (tabD d pf) (fun _ _=>none) F 1
noncomputable def lawOk (K:Frag) (fn:List Str) (d:Nat):Prop:=BindE K "_compare_args_orderless" cmp_nm 2 ∧ ((fA_ K 15).isSome && ((fA_ K 14).isSome && fnCheckP K (fun sc body=>cmpBody fn cmp_nm sc d body) "_compare_args_orderless" cmp_nm 2)) = true
section
variable {Z:Zone} {K:Frag} {lp gp:Nat × Nat} {c1 P1 c2 P2:Addr} {C8 a8 C9 f9 q9 a9 aj aq p0:Addr} {F:Nat} {fn:List Str} {d:Nat}
theorem dedOk (hB:BiOk Z) {tab:Nat→Option PF} {pf:PF} (hT:TabOk Z fn tab) (hd:tab d = some pf) (fr:List Addr):CallOk (Z.at fr) 1 fn (dedF F d pf) :=
  callOk (Z:=Z) (c:=0) hB (fun f n pf' hn h=>ifP h fun e h=>hT f n pf' hn (by rw [e,hd]; exact h)) (fun fr f n args dd _ _ h=>by cases h) 1 fr
theorem lib_call (ZO:ZoneOf Z K lp gp c1 P1 c2 P2) (H:HeadOk K lp gp c1 P1 c2 P2 C8 a8 C9 f9 q9 a9 aj aq p0) {fr:List Addr} {f:Nat} {a:Addr} (hf:fA_ K f = some a) (hk:kwO f = []) {x:Str} {v:OV} {st':St} (h:libO F 6 f [.d (.str x)] [] = some (v,st')) {A:Around} {s:Shared} {vs:List Value} {as:List Addr} {Q E:Value→Shared→Prop}
    (hA:AOk (Z.at fr) 100 A) (hI:Inv (Z.at fr) s) (hsz:Z.n ≤ s.heap.objs.size) (r:RdAll s.heap vs [.str x] as) (hok:okDs [.str x] = true)
    (hQ:∀ w s' μ',OAt (Z.at fr) (cA_ K) noL [] s.heap μ' st' s'→VE μ' w v→Q w s'):wpAny (model Z.prog Z.w) A (call (.ref a) vs) Q E s :=
  rdAll1 (m:=fun vs _=>wpAny (model Z.prog Z.w) A (call (.ref a) vs) Q E s) r fun u bs ru=>rdS (m:=fun u=>wpAny (model Z.prog Z.w) A (call (.ref a) [u]) Q E s) ru fun t=>by
  have:=libOk ZO H F 6 fr hf h (A:=A) (s:=s) (vs:=[.str x t]) (μ:=[]) (R:=wants Q E) (hA.mono (show 8 * (2 * 6) ≤ 100 by decide)) hI hsz ⟨rfl,.nil,nofun,fun k x f h=>nomatch h⟩ (.cons (ve_str (andT hok).1) .nil) fun w s' μ' a g=>hQ w s' μ' a g
  rw [argsO_nil hk] at this
  exact wpAny_call this
theorem kp_of {fr:List Addr} {μ':List Addr} {st':St} {s s':Shared} (a:OAt (Z.at fr) (cA_ K) noL [] s.heap μ' st' s'):Kp Z.n s.heap s'.heap:=⟨fun b o e c=>a.t.keep b o e c nofun id⟩
theorem lawPrimOk (ZO:ZoneOf Z K lp gp c1 P1 c2 P2) (H:HeadOk K lp gp c1 P1 c2 P2 C8 a8 C9 f9 q9 a9 aj aq p0) (L:lawOk K fn d) {tab:Nat→Option PF} {pf:PF} (hT:TabOk Z fn tab) (hd:tab d = some pf) (fr:List Addr) :
    PrimOk (Z.at fr) 100 fn tab (fun f args=>(fn[f]?).bind fun n=>primN F (dedF F d pf d) n args):=by
  intro f n args dd hn _ h
  have h:primN F (dedF F d pf d) n args = some dd:=(congrArg (Option.bind · _) hn).symm.trans h
  obtain ⟨L0,L⟩:=L
  obtain ⟨L1,L⟩:=andT L
  obtain ⟨L2,L3⟩:=andT L
  have hl:Z.lam = lamV K:=ZO.lam.trans (eq_of_beq (allAt H.b 5 rfl)).symm
  have hlib:∀ {f pf},o_tab f = some pf→(fA_ K f).isSome = true→∃ a o fd,fA_ K f = some a ∧ Z.h₀.get? a = some o ∧ o.cls ≠ .none ∧ o.data = .func fd:=fun {f pf} ht hs=>by
    obtain ⟨a,ha⟩:=Option.isSome_iff_exists.mp hs
    obtain ⟨_,fd,_,_,FF,_⟩:=oTabOk hl ZO.hK ZO.hK0 H.bd.1 (allAt H.b 7 rfl) f pf a ht ha
    obtain ⟨o,h1,h2,h3⟩:=FF.obj
    exact ⟨a,o,fd,ha,h1,h2,h3⟩
  have hgl:∀ {n:Str} {a:Addr},(globK K n).bind refV = some a→Z.mg n = some (.ref a):=fun {n a} h=>bndK h fun v hv h=>globK_eq ZO.hK0 (hv.trans (congrArg some (refVK h)))
  show PrimAt (Z.at fr) 100 n args dd
  refine argCK h fun x r er h=>?_
  clear hn
  by_cases n1:n = "split"
  · rw [if_pos n1] at h
    refine argNK h fun e2 h=>dStrK h fun y ey h=>bndK h fun q hq h=>oNumK h fun k ek h=>fLK h fun ws hw h=>mapK h fun ds hds e=>?_
    obtain ⟨a,o,fd,ha,o1⟩:=hlib (f:=15) (pf:=o_fn15) rfl L1
    refine ⟨a,o,fd,n1 ▸ hgl ha,o1.1,o1.2.1,o1.2.2,fun A s vs as Q E hA hI hsz r hok hQ=>?_⟩
    subst er e2 ey e
    refine lib_call ZO H ha rfl (v:=q.1) (st':=q.2) hq hA hI hsz r hok fun w s' μ' a' hv=>?_
    rw [ek] at hv
    obtain ⟨b,items,n,sl,rfl,hb,g1,g2,g3,g4⟩:=a'.so.listAt hw hv
    obtain ⟨r1,r2,r3⟩:=flatsO_rd (h:=s'.heap) g2 hds
    exact hQ _ [b] s' a'.i (kp_of a') (.list g1 ⟨rfl,rfl⟩ rfl r1) (Bool.and_eq_true_iff.mpr ⟨decide_eq_true (r3 ▸ le_cline g4),r2⟩) fun y hy=>.inr fun o e=>by
      rw [List.mem_singleton.mp hy,(a'.t.new b (List.mem_of_getElem? hb) nofun).2.1] at e
      cases e
  rw [if_neg n1] at h
  by_cases n2:n = "translate"
  · rw [if_pos n2] at h
    refine argNK h fun e2 h=>dStrK h fun y ey h=>bndK h fun q hq h=>oDatK h fun z ez h=>ifP h fun hz e=>?_
    obtain ⟨a,o,fd,ha,o1⟩:=hlib (f:=14) (pf:=o_fn14) rfl L2
    refine ⟨a,o,fd,n2 ▸ hgl ha,o1.1,o1.2.1,o1.2.2,fun A s vs as Q E hA hI hsz r hok hQ=>?_⟩
    cases e
    subst er e2 ey
    refine lib_call ZO H ha rfl (v:=q.1) (st':=q.2) hq hA hI hsz r hok fun w s' μ' a' hv=>?_
    rw [ez] at hv
    exact hQ w [] s' a'.i (kp_of a') (Fl0.rd hv s'.heap).1 (andT hz).2 nofun
  rw [if_neg n2] at h
  by_cases n3:n = "join_shlex"
  · rw [if_pos n3] at h
    refine argNK h fun e2 h=>rdList h fun xs ex h=>bndK h fun cs hcs h=>ifP h fun hc e=>?_
    obtain ⟨o,fd,body,j1,j2,_⟩:=fnK_of H.j
    obtain ⟨fd',body',FF,_⟩:=ofn_of_check hl ZO.hK ZO.hK0 H.bd.2.2.1 (allAt H.b 12 rfl)
    obtain ⟨o',o1,o2,o3⟩:=FF.obj
    refine ⟨aj,o',fd',n3 ▸ globK_eq ZO.hK0 (eq_of_beq (allAt H.b 11 rfl)),o1,o2,o3,fun A s vs as Q E hA hI hsz r hok hQ=>?_⟩
    have hx:=strsOf_eq hcs
    cases e
    subst er e2 ex hx
    exact join_call (Z:=Z.at fr) hl ZO.hK ZO.hK0 (ZO.gok.at fr) H.j H.bd.2.2.1 (allAt H.b 12 rfl) H.q (globK_eq ZO.hK0 (eq_of_beq (allAt H.b 13 rfl))) (allAt H.b 14 rfl) (List.all_eq_true.mp (andT hc).1) (of_decide_eq_true (andT hc).2) (hA.mono (by decide)) hI hsz r (andT (andT hok).1).2 fun v s' I k r' ok'=>hQ v [] s' I k r' ok' nofun
  rw [if_neg n3] at h
  by_cases n4:n = "_compare_args_orderless"
  · rw [if_pos n4] at h
    refine argCK h fun y r' er' h=>argNK h fun e2 h=>rdList h fun xs ex h=>rdList h fun ys ey h=>bndK h fun a1 h1 h=>bndK h fun b1 h2 h=>rdList h fun xs' ea h=>rdList h fun ys' eb h=>ifP h fun hdep e=>?_
    obtain ⟨a,o,fd,body,FI,hb⟩:=fnIs_of_check ZO.hK0 L0 L3
    refine ⟨a,o,fd,n4 ▸ FI.name,FI.obj,FI.cls,FI.data,fun A s vs as Q E hA hI hsz r hok hQ=>?_⟩
    cases e
    subst er er' e2 ex ey ea eb
    have hB:BiOk Z:=fun n v h=>zone_bi ZO H (List.mem_append_right _ h)
    have hV:Z.mg "ValueError" = none ∧ Z.mb "ValueError" = some (.type "ValueError"):=⟨glob_none ZO.hK0 (allAt H.b 9 rfl),(ZO.mb _ (by decide)).trans (by kernel_rfl)⟩
    exact compare_call (Z:=Z.at fr) (lvl:=1) hB hV (fun fr'=>dedOk hB hT hd fr') (FI.at fr) hb h1 h2 hdep (hA.mono (by decide)) hI hsz r hok hQ
  · rw [if_neg n4] at h; cases h
end
end Kt
end
section
open PySem PySem.W PyProof.Rows PySem.Calls Builtin
namespace Kt
theorem rd_ints {h:Heap} {a:Addr} {P:Params} {vs:List Value} {ns:List Int} {d:WData} (hw:Well P h (.ref a) d) (hd:∃ xs,d = .list xs) (hl:h.IsList a vs.toArray) (hi:IntsAre vs ns):Rd h (.ref a) (.list (ns.map .int)) [a]:=by
  obtain ⟨xs,rfl⟩:=hd
  cases hw with
  | list e _ =>
    obtain ⟨o,e',_,n,hdt⟩:=hl
    cases e.symm.trans e'
    rw [(Data.seq.inj hdt).1] at e
    exact .list e ⟨rfl,rfl⟩ rfl (rdAll_ints hi)
theorem ok_ints (ns:List Int):okDs (ns.map .int) = true:=okDs_mem.mpr fun d hd=>let ⟨_,_,e⟩:=List.mem_map.mp hd; e ▸ rfl
theorem law_run {prog:Program} {w:World} {p:Program} {loose:List Str} {mean:ExcName→Option Value} {mg mb:Str→Option Value} {K:Frag} {lp gp:Nat × Nat} {c1 P1 c2 P2:Addr} {C8 a8 C9 f9 q9 a9 aj aq p0:Addr} {fn:List Str} {d:Nat} {s₁:Shared} {specs:List FnSpec} {tab:Nat→Option PF} {pfd:PF} {F lvl f:Nat}
    (T:Top p loose mean mg mb s₁.heap) (X:K.In s₁.heap) (e1:s₁.heap.get? P1 = some (tabObj #[])) (e2:s₁.heap.get? P2 = some (tabObj #[])) (H:HeadOk K lp gp c1 P1 c2 P2 C8 a8 C9 f9 q9 a9 aj aq p0) (L:lawOk K fn d) (hsb:allP specs fun S=>BindE K S.1 S.2.1 S.2.2.arity) (hs:specs.all (fnCheck K fn) = true) (ht:∀ f n pf,fn[f]? = some n→tab f = some pf→∃ nm,(n,nm,pf) ∈ specs) (hd:tab d = some pfd) (hgens:AllBare s₁.gens)
    {n:Str} {fa l:Addr} {vs:List Value} {ns:List Int} {E:Value→Shared→Prop} {wd:WData} (hn:fn[f]? = some n) (hm:mg n = some (.ref fa)) (hw:Well w.params s₁.heap (.ref l) wd) (hwd:∃ xs,wd = .list xs) (hl:s₁.heap.IsList l vs.toArray) (hi:IntsAre vs ns) (hns:ns.length ≤ 63)
    (hrun:runF tab (fun f args=>(fn[f]?).bind fun n=>primN F (dedF F d pfd d) n args) F lvl f [.list (ns.map .int)] = some (.bool true)) (hlv:lvl ≤ 100) :
    wpAny (model prog w) callerA (call (.ref fa) [.ref l]) (fun v s'=>v = .bool true ∧ OldK s₁.heap s'.heap ∧ s'.os = s₁.os ∧ AllBare s'.gens) E s₁:=by
  obtain ⟨Z,ZO,⟨rfl,rfl,z3,z4⟩,rfl,z7⟩:=zone_of (prog:=prog) (w:=w) (lp:=lp) (gp:=gp) T X e1 e2 (allAt H.b 0 rfl) (allAt H.b 1 rfl) (Option.isNone_iff_eq_none.mp (allAt H.b 2 rfl)) (Option.isNone_iff_eq_none.mp (allAt H.b 3 rfl)) (bne_iff_ne.mp (allAt H.b 4 rfl))
  have hA:AOk Z (lvl + 100) callerA:=(⟨rfl,by decide,by decide,[],rfl,fun _ h=>absurd h List.not_mem_nil⟩:AOk Z 200 callerA).mono (Nat.add_le_add_right hlv 100)
  have hB:BiOk Z:=fun n v h=>zone_bi ZO H (List.mem_append_right _ h)
  have hI:Inv Z s₁:=inv_start z3.symm T.nolimit (z3 ▸ ZO.tab₀) hgens z4.symm z7
  have hr:RdAll s₁.heap [.ref l] [.list (ns.map .int)] ([l] ++ []):=.cons (rd_ints hw hwd hl hi) .nil
  have hok:okDs [.list (ns.map .int)] = true:=Bool.and_eq_true_iff.mpr ⟨Bool.and_eq_true_iff.mpr ⟨decide_eq_true (by rw [List.length_map]; exact Nat.le_trans hns (by decide)),ok_ints ns⟩,rfl⟩
  have hT:TabOk Z fn tab:=tabOk_of ZO.hK0 hsb hs ht
  refine wpAny_mono (run_fn hB hT (fun fr=>lawPrimOk ZO H L hT hd fr) hn hm hA hI (by rw [← z3]; exact Nat.le_refl _) hr hok hrun) (fun v s' h=>?_) fun _ _ e=>e
  obtain ⟨I,bs,r⟩:=h
  exact ⟨rd_bool r,z3 ▸ I.old,I.os.trans z4,I.gens⟩
end Kt
end
section
open PySem PySem.W PyProof.Rows
namespace Kt
noncomputable def pa0:PF:=⟨3,1,(.cons (.assign 1 (.lit (.str ("a'[ \"*\\]?#-b" : Str)))) (.cons (.ret (.bin .Add (.comp (.idx (.var 1) (.bin .Mod (.bin .Add (.var 0) (.var 2)) (.lit (.int 12)))) 2 (.range1 (.lit (.int 3)))) (.list (.cons (.bi .chr (.cons (.bin .Add (.lit (.int 256)) (.bin .Mod (.bin .FloorDiv (.var 0) (.lit (.int 12))) (.lit (.int 50000)))) .nil)) .nil)))) .nil))⟩
noncomputable def na0:List Str:=["x", "table", "k"]
noncomputable def ia1_0:PI:=(.range2 (.bin .Add (.var 3) (.lit (.int 2))) (.bin .Add (.bi .len (.cons (.var 0) .nil)) (.lit (.int 1))))
noncomputable def ba1_1:PSs:=(.cons (.ife (.bool true (.cmp .In (.idx (.var 0) (.var 3)) (.slc (.var 0) (.yes (.var 2)) (.yes (.var 3)))) (.call 11 (.cons (.slc (.var 0) (.yes (.var 2)) (.yes (.var 3))) (.cons (.slc (.var 0) (.yes (.bin .Add (.var 3) (.lit (.int 1)))) (.yes (.var 5))) .nil)))) (.cons (.app 1 (.bin .Add (.slc (.var 0) .no (.yes (.var 3))) (.slc (.var 0) (.yes (.bin .Add (.var 3) (.lit (.int 1)))) .no))) .nil) .nil) .nil)
noncomputable def ia1_2:PI:=(.range1 (.var 3))
noncomputable def ba1_3:PSs:=(.cons (.for_ (.one 5) ia1_0 ba1_1) .nil)
noncomputable def ia1_4:PI:=(.range2 (.lit (.int 1)) (.bin .Sub (.bi .len (.cons (.var 0) .nil)) (.lit (.int 1))))
noncomputable def ba1_5:PSs:=(.cons (.for_ (.one 2) ia1_2 ba1_3) .nil)
noncomputable def ia1_6:PI:=(.range2 (.lit (.int 1)) (.bin .Add (.bin .FloorDiv (.bin .Sub (.bi .len (.cons (.var 0) .nil)) (.var 2)) (.lit (.int 2))) (.lit (.int 1))))
noncomputable def ba1_7:PSs:=(.cons (.ife (.cmp .Eq (.slc (.var 0) (.yes (.var 2)) (.yes (.bin .Add (.var 2) (.var 4)))) (.slc (.var 0) (.yes (.bin .Add (.var 2) (.var 4))) (.yes (.bin .Add (.var 2) (.bin .Mult (.lit (.int 2)) (.var 4)))))) (.cons (.app 1 (.bin .Add (.slc (.var 0) .no (.yes (.var 2))) (.slc (.var 0) (.yes (.bin .Add (.var 2) (.var 4))) .no))) .nil) .nil) .nil)
noncomputable def ia1_8:PI:=(.range1 (.bi .len (.cons (.var 0) .nil)))
noncomputable def ba1_9:PSs:=(.cons (.for_ (.one 4) ia1_6 ba1_7) .nil)
noncomputable def pa1:PF:=⟨6,1,(.cons (.assign 1 (.list .nil)) (.cons (.for_ (.one 2) ia1_8 ba1_9) (.cons (.for_ (.one 3) ia1_4 ba1_5) (.cons (.ret (.var 1)) .nil))))⟩
noncomputable def na1:List Str:=["row", "ways", "i", "m", "k", "j"]
noncomputable def ca2_0:PE:=(.cmp .NotEq (.var 3) (.list .nil))
noncomputable def ba2_1:PSs:=(.cons (.assign 0 (.idx (.var 3) (.bin .Mod (.idx (.var 1) (.bin .Mod (.var 2) (.bi .len (.cons (.var 1) .nil)))) (.bi .len (.cons (.var 3) .nil))))) (.cons (.assign2 2 3 (.bin .Add (.var 2) (.lit (.int 1))) (.call 1 (.cons (.var 0) .nil))) .nil))
noncomputable def pa2:PF:=⟨4,2,(.cons (.assign2 2 3 (.lit (.int 0)) (.call 1 (.cons (.var 0) .nil))) (.cons (.while_ ca2_0 ba2_1) (.cons (.ret (.var 0)) .nil)))⟩
noncomputable def na2:List Str:=["row", "choices", "turn", "ways"]
noncomputable def ca3_0:PE:=(.cmp .Lt (.var 4) (.bin .Sub (.bi .len (.cons (.var 0) .nil)) (.bi .len (.cons (.var 2) .nil))))
noncomputable def ba3_1:PSs:=(.cons (.assign 5 (.cmp .Eq (.idx (.var 0) (.var 4)) (.lit (.str ("[" : Str))))) (.cons (.ife (.cmp .In (.idx (.var 0) (.var 4)) (.lit (.str ("()*+?{|^$." : Str)))) (.cons (.ret (.lit (.str ("" : Str)))) .nil) .nil) (.cons (.aug 4 .Add (.ite (.var 5) (.lit (.int 1)) (.lit (.int 0)))) (.cons (.aug 4 .Add (.ite (.cmp .Eq (.idx (.var 0) (.var 4)) (.lit (.str ("\\" : Str)))) (.lit (.int 1)) (.lit (.int 0)))) (.cons (.aug 3 .Add (.idx (.var 0) (.var 4))) (.cons (.ife (.bool true (.var 5) (.cmp .NotEq (.idx (.var 0) (.bin .Add (.var 4) (.lit (.int 1)))) (.lit (.str ("]" : Str))))) (.cons (.ret (.lit (.str ("" : Str)))) .nil) .nil) (.cons (.aug 4 .Add (.ite (.var 5) (.lit (.int 2)) (.lit (.int 1)))) .nil)))))))
noncomputable def pa3:PF:=⟨6,3,(.cons (.assign2 3 4 (.lit (.str ("" : Str))) (.bi .len (.cons (.var 1) .nil))) (.cons (.ife (.bool false (.cmp .NotEq (.slc (.var 0) .no (.yes (.var 4))) (.var 1)) (.cmp .NotEq (.slc (.var 0) (.yes (.neg (.bi .len (.cons (.var 2) .nil)))) .no) (.var 2))) (.cons (.ret (.lit (.str ("" : Str)))) .nil) .nil) (.cons (.while_ ca3_0 ba3_1) (.cons (.ret (.var 3)) .nil))))⟩
noncomputable def na3:List Str:=["text", "ahead", "behind", "told", "k", "inside"]
noncomputable def ca4_0:PE:=(.cmp .NotEq (.slc (.var 4) (.yes (.bin .Sub (.bi .len (.cons (.var 4) .nil)) (.var 6))) .no) (.slc (.var 5) .no (.yes (.var 6))))
noncomputable def ba4_1:PSs:=(.cons (.aug 6 .Sub (.lit (.int 1))) .nil)
noncomputable def ia4_2:PI:=(.of (.list (.cons (.var 0) (.cons (.var 1) .nil))))
noncomputable def ba4_3:PSs:=(.cons (.app 2 (.me .join (.lit (.str ("" : Str))) (.cons (.comp (.ite (.cmp .In (.var 7) (.lit (.str ("*?[" : Str)))) (.bin .Add (.bin .Add (.lit (.str ("[" : Str))) (.var 7)) (.lit (.str ("]" : Str)))) (.var 7)) 7 (.of (.var 3))) .nil))) .nil)
noncomputable def pa4:PF:=⟨8,2,(.cons (.assign 2 (.list .nil)) (.cons (.for_ (.one 3) ia4_2 ba4_3) (.cons (.assign 4 (.call 3 (.cons (.call 10 (.cons (.bin .Add (.idx (.var 2) (.lit (.int 0))) (.lit (.str ("*" : Str)))) .nil)) (.cons (.lit (.str ("(?s:" : Str))) (.cons (.lit (.str (".*)\\Z" : Str))) .nil))))) (.cons (.assign 5 (.call 3 (.cons (.call 10 (.cons (.bin .Add (.lit (.str ("*" : Str))) (.idx (.var 2) (.lit (.int 1)))) .nil)) (.cons (.lit (.str ("(?s:.*" : Str))) (.cons (.lit (.str (")\\Z" : Str))) .nil))))) (.cons (.assign 6 (.bi .min2 (.cons (.bi .len (.cons (.var 4) .nil)) (.cons (.bi .len (.cons (.var 5) .nil)) .nil)))) (.cons (.while_ ca4_0 ba4_1) (.cons (.ret (.bi .listOf (.cons (.bin .Add (.var 4) (.slc (.var 5) (.yes (.var 6)) .no)) .nil))) .nil)))))))⟩
noncomputable def na4:List Str:=["front", "end", "barred", "row", "head", "tail", "k", "word"]
noncomputable def pa5:PF:=⟨6,1,(.cons (.assign 1 (.call 7 (.cons (.var 0) .nil))) (.cons (.ife (.cmp .Lt (.bi .len (.cons (.var 1) .nil)) (.lit (.int 2))) (.cons (.ret (.var 1)) .nil) .nil) (.cons (.assign 2 (.rev (.var 0))) (.cons (.assign 3 (.idx (.call 7 (.cons (.var 2) .nil)) (.neg (.lit (.int 1))))) (.cons (.assign 4 (.bin .Add (.call 5 (.cons (.slc (.var 0) .no (.yes (.me .index (.var 0) (.cons (.idx (.var 1) (.neg (.lit (.int 1)))) .nil)))) .nil)) (.slc (.var 1) (.yes (.neg (.lit (.int 1)))) .no))) (.cons (.assign 5 (.bin .Add (.list (.cons (.var 3) .nil)) (.call 5 (.cons (.slc (.var 0) (.yes (.bin .Sub (.bi .len (.cons (.var 0) .nil)) (.me .index (.var 2) (.cons (.var 3) .nil)))) .no) .nil)))) (.cons (.ret (.call 4 (.cons (.var 4) (.cons (.var 5) .nil)))) .nil)))))))⟩
noncomputable def na5:List Str:=["row", "unlike", "back", "last", "front", "end"]
noncomputable def pa6:PF:=⟨7,1,(.cons (.assign 1 (.bin .Add (.slc (.var 0) .no (.yes (.lit (.int 10)))) (.list (.cons (.lit (.int 5)) (.cons (.lit (.int 0)) (.cons (.lit (.int 1)) (.cons (.lit (.int 2)) (.cons (.lit (.int 0)) (.cons (.lit (.int 2)) (.cons (.lit (.int 1)) (.cons (.lit (.int 0)) .nil))))))))))) (.cons (.assign 2 (.comp (.bin .Mod (.var 6) (.bin .Pow (.lit (.int 10)) (.lit (.int 9)))) 6 (.of (.slc (.var 1) .no (.yes (.bi .max2 (.cons (.lit (.int 8)) (.cons (.bin .Sub (.bi .len (.cons (.var 1) .nil)) (.lit (.int 8))) .nil)))))))) (.cons (.assign 3 (.call 0 (.cons (.idx (.var 2) (.lit (.int 0))) .nil))) (.cons (.assign 4 (.comp (.idx (.var 3) (.bin .Mod (.var 6) (.lit (.int 4)))) 6 (.of (.slc (.var 2) (.yes (.lit (.int 1))) .no)))) (.cons (.assign 5 (.call 2 (.cons (.var 4) (.cons (.comp (.bin .FloorDiv (.var 6) (.lit (.int 4))) 6 (.of (.slc (.var 2) (.yes (.lit (.int 1))) .no))) .nil)))) (.cons (.ife (.cmp .IsNot (.call 11 (.cons (.var 4) (.cons (.var 5) .nil))) (.lit (.bool true))) (.cons (.ret (.lit (.bool false))) .nil) .nil) (.cons (.ret (.cmp .Eq (.call 5 (.cons (.call 9 (.cons (.call 8 (.cons (.var 4) .nil)) .nil)) .nil)) (.var 5))) .nil)))))))⟩
noncomputable def na6:List Str:=["script", "drawn", "numbers", "signs", "row", "left", "x"]
noncomputable def ia7_0:PI:=(.of (.var 0))
noncomputable def ba7_1:PSs:=(.cons (.ife (.cmp .NotIn (.var 2) (.var 1)) (.cons (.app 1 (.var 2)) .nil) .nil) .nil)
noncomputable def pa7:PF:=⟨3,1,(.cons (.assign 1 (.list .nil)) (.cons (.for_ (.one 2) ia7_0 ba7_1) (.cons (.ret (.var 1)) .nil)))⟩
noncomputable def na7:List Str:=["unhashable_params", "new_unhashable", "t"]
noncomputable def specs_a:List FnSpec:=[("_law_signs",na0,pa0),("_law_ways",na1,pa1),("_law_left",na2,pa2),("_law_told",na3,pa3),("_law_shortest",na4,pa4),("_law_kernel",na5,pa5),("law",na6,pa6),("_deduplicate_unhashable",na7,pa7)]
noncomputable def fn_a:List Str:=["_law_signs", "_law_ways", "_law_left", "_law_told", "_law_shortest", "_law_kernel", "law", "_deduplicate_unhashable", "join_shlex", "split", "translate", "_compare_args_orderless"]
noncomputable def tab_a (f:Nat):Option PF:=(specs_a[f]?).map (·.2.2)
theorem tab_spec (f:Nat) (n:Str) (pf:PF) (hn:fn_a[f]? = some n) (hf:tab_a f = some pf):∃ nm,(n,nm,pf) ∈ specs_a:=by
  obtain ⟨⟨m,nm,q⟩,h,e⟩:=Option.map_eq_some_iff.mp hf
  have hl:f < (specs_a.map (·.1)).length:=by rw [List.length_map]; exact (List.getElem?_eq_some_iff.mp h).1
  have h2:fn_a[f]? = some m:=(show fn_a[f]? = (specs_a.map (·.1) ++ (["join_shlex", "split", "translate", "_compare_args_orderless"]:List Str))[f]? from rfl).trans ((List.getElem?_append_left hl).trans (by rw [List.getElem?_map,h]; rfl))
  cases hn.symm.trans h2
  cases e
  exact ⟨nm,List.mem_of_getElem? h⟩
end Kt
end
section
open PySem PySem.W PyProof.Rows
namespace Kt
def topRunG (th ok:Thread→Bool) (st:SharedT→Thread→Option (SharedT × Thread)):Nat→SharedT→Thread→Option SharedT
  | 0,_,_=>none
  | n + 1,s,t=>match th t with
    | true=>some s
    | false=>match ok t with
      | false=>none
      | true=>match st s t with
        | some r=>topRunG th ok st n r.1 r.2
        | none=>none
theorem topRunG_of {tb:String→Option Builtin} {p:Program} {w:World} {n₀:Nat} {ann:Option Value}:∀ (n:Nat) (s s':SharedT) (t:Thread),topRunG through (stepOk n₀ ann) (stepT (denote tb) p w) n s t = some s'→topRun tb p w n₀ ann n s.abs t = some s'.abs
  | 0,_,_,_,h=>nomatch h
  | n + 1,s,s',t,h=>by
    rw [topRunG] at h
    rw [topRun]
    cases ht:through t with
    | true=>rw [ht] at h; exact congrArg some (congrArg SharedT.abs (Option.some.inj h))
    | false =>
      rw [ht] at h
      cases hk:stepOk n₀ ann t with
      | false=>rw [hk] at h; cases h
      | true =>
        rw [hk] at h
        cases hs:stepT (denote tb) p w s t with
        | none=>rw [hs] at h; cases h
        | some r=>rw [hs] at h; dsimp only; rw [stepT_spec hs]; exact topRunG_of n _ _ _ h
def impRunG (st:SharedT→Thread→Option (SharedT × Thread)):Nat→SharedT→Thread→Option SharedT
  | 0,_,_=>none
  | n + 1,s,t=>match t.atExitBegin with
    | some []=>some s
    | some (_ :: _)=>none
    | none=>match st s t with
      | some r=>impRunG st n r.1 r.2
      | none=>none
theorem impRunG_of {tb:String→Option Builtin} {p:Program} {w:World}:∀ (n:Nat) (s s':SharedT) (t:Thread),impRunG (stepT (denote tb) p w) n s t = some s'→importEnds tb p w n s.abs t = some s'.abs
  | 0,_,_,_,h=>nomatch h
  | n + 1,s,s',t,h=>by
    rw [impRunG] at h
    rw [importEnds]
    cases ht:t.atExitBegin with
    | some l =>
      rw [ht] at h
      cases l with
      | nil=>exact congrArg some (congrArg SharedT.abs (Option.some.inj h))
      | cons=>cases h
    | none =>
      rw [ht] at h
      cases hs:stepT (denote tb) p w s t with
      | none=>rw [hs] at h; cases h
      | some r=>rw [hs] at h; dsimp only; rw [stepT_spec hs]; exact impRunG_of n _ _ _ h
def toT:List Obj→BT→Nat→Option BT
  | [],t,_=>some t
  | o :: r,t,n=>match ((t.ins n o).get n).isSome with
    | true=>toT r (t.ins n o) (n + 1)
    | false=>none
theorem toT_abs {life:Life}:∀ (os:List Obj) (t t':BT) (n:Nat),toT os t n = some t'→absHeap t' (n + os.length) life = ⟨(absHeap t n life).objs ++ os.toArray,life⟩
  | [],t,t',n,h=>by cases h; rw [List.length_nil,Nat.add_zero]; exact congrArg (Heap.mk · life) (Array.append_empty (xs:=(absHeap t n life).objs)).symm
  | o :: r,t,t',n,h=>by
    rw [toT] at h
    cases g:((t.ins n o).get n).isSome with
    | false=>rw [g] at h; cases h
    | true =>
      rw [g] at h
      have:=toT_abs (life:=life) r _ _ _ h
      rw [List.length_cons,Nat.add_comm r.length,← Nat.add_assoc,this,absHeap_ins g]
      exact congrArg (Heap.mk · life) (by show (absHeap t n life).objs.push o ++ r.toArray = _; simp)
def treeOf (s:Shared):Option SharedT:=(toT s.heap.objs.toList .nil 0).map fun T=>⟨T,s.heap.objs.size,s.heap.life,s.gens,s.drawn,s.toks,s.os⟩
theorem treeOf_abs {s:Shared} {t:SharedT} (h:treeOf s = some t):t.abs = s:=by
  obtain ⟨T,h',rfl⟩:=Option.map_eq_some_iff.mp h
  have:=toT_abs (life:=s.heap.life) _ _ _ _ h'
  rw [Nat.zero_add,Array.length_toList] at this
  show Shared.mk (absHeap T s.heap.objs.size s.heap.life) _ _ _ _ = s
  rw [this]
  exact congrArg (fun h=>Shared.mk h s.gens s.drawn s.toks s.os) (congrArg (Heap.mk · s.heap.life) (show #[] ++ s.heap.objs.toList.toArray = s.heap.objs by simp))
def headG (stI:SharedT→Thread→Option (SharedT × Thread)) (fence:Shared→Option Shared) (ok:Thread→Bool) (st:SharedT→Thread→Option (SharedT × Thread)) (p:Program) (N:Nat):Option (Shared × SharedT) :=
  (treeOf (start (opening p)).1).bind fun a=>(impRunG stI N a (start (opening p)).2).bind fun b=>(fence b.abs).bind fun s₀=>(treeOf s₀).bind fun c=>(topRunG through ok st N c (topStub p)).map fun d=>(s₀,d)
theorem leftO {p q:Program} {loose:List Str} {Xt:Shared→Bool} {Y:Shared→Prop} {N m₀:Nat} {ann:Option Value}
    (run:∀ w:World,∃ s₀ s,headG (stepT (denote treeTable) (opening p) w) (fenceModules? p) (stepOk m₀ ann) (stepT (denote treeTable) p w) p N = some (s₀,s) ∧
      ((s₀.heap.isNs mainGlobals && s₀.gens.size == 0) = true ∧ s₀.heap.objs.size = m₀ ∧ s₀.heap.nsMap mainGlobals "__annotations__" = ann) ∧
      (staticsOk (importedModules p.main.body) s₀.heap s.abs.heap && namesBound p s.abs.heap && gensDone s.abs && laidKept s₀.heap s.abs.heap) = true ∧ openSeen q loose (importedModules p.main.body) Xt true s.abs = openGood q loose ∧ Y s.abs) :
    LeftO p q loose Xt Y (fun _=>True) N:=fun w=>by
  obtain ⟨s₀,s,h,⟨z1,z2,z3⟩,l1,l2,y⟩:=run w
  obtain ⟨a,h1,h⟩:=Option.bind_eq_some_iff.mp h
  obtain ⟨b,h2,h⟩:=Option.bind_eq_some_iff.mp h
  obtain ⟨s₁,h3,h⟩:=Option.bind_eq_some_iff.mp h
  obtain ⟨c,h4,h⟩:=Option.bind_eq_some_iff.mp h
  obtain ⟨d,h5,h⟩:=Option.map_eq_some_iff.mp h
  cases h
  have r1:=impRunG_of _ _ _ _ h2
  rw [treeOf_abs h1] at r1
  have r2:=topRunG_of _ _ _ _ h5
  rw [treeOf_abs h4] at r2
  have t:topFrom treeTable p w N s₀ = some s.abs:=by
    unfold topFrom
    rw [z1,z2,z3,r2]
    show (match staticsOk (importedModules p.main.body) s₀.heap s.abs.heap && namesBound p s.abs.heap && gensDone s.abs && laidKept s₀.heap s.abs.heap with | true=>some s.abs | false=>none) = some s.abs
    rw [l1]
  unfold openEnds fencedOpening
  rw [r1,Option.bind_some,h3,Option.bind_some,t]
  exact congrArg some (Prod.ext l2 (eq_true y))
end Kt
end
section
open PySem PySem.W PyProof.Rows PySem.Calls Builtin
namespace Kt
noncomputable def BindO' (K:Frag) (a:Addr) (nm:List Str) (pf:OF):Prop:=onSP (fnD K a) fun fd=>upArgs pf.arity fun vals=>if pf.arity ≤ vals.length + (dfltV K fd).length then
  ∀ _:Setting,some ((nm.take pf.arity).zip (vals ++ (dfltV K fd).drop ((dfltV K fd).length + vals.length - pf.arity))) = some ((nm.take pf.arity).zip (vals ++ (dfltV K fd).drop ((dfltV K fd).length + vals.length - pf.arity))) else True
theorem onSP_of {α:Type} {o:Option α} {f:α→Prop} (h:o.isSome = true) (g:∀ x,f x):onSP o f:=by
  cases o with
  | none=>cases h
  | some x=>exact g x
theorem upArgs_all (k:Nat):∀ {P:List Value→Prop},(∀ l,P l)→upArgs k P:=by
  induction k with
  | zero=>exact fun g=>g []
  | succ k ih=>exact fun g=>⟨g [],fun v=>ih fun l=>g (v :: l)⟩
theorem exArgs_all (k:Nat):∀ {P:List Value→Prop},(∀ l,P l)→exArgs k P:=by
  induction k with
  | zero=>exact fun g=>g []
  | succ k ih=>exact fun g v=>ih fun l=>g (v :: l)
theorem bindO' {K:Frag} {a:Addr} {nm:List Str} {pf:OF} (h:(fnD K a).isSome = true):BindO' K a nm pf:=onSP_of h fun fd=>upArgs_all _ fun vals=>by
  split
  · exact fun _=>rfl
  · trivial
theorem bindO_of {K:Frag} {a:Addr} {nm:List Str} {pf:OF} (e:BindO K a nm pf = BindO' K a nm pf) (h:(fnD K a).isSome = true):BindO K a nm pf:=e.mpr (bindO' h)
theorem allP_of {α:Type} {P:α→Prop} {b:α→Bool} {l:List α} (h:l.all b = true) (g:∀ x,b x = true→P x):allP l P:=by
  induction l with
  | nil=>trivial
  | cons x l ih =>
    obtain ⟨h1,h2⟩:=Bool.and_eq_true_iff.mp h
    exact ⟨g x h1,ih h2⟩
theorem bindOs_of {K:Frag} {l:List (Nat × List Str × OF)} (e:(allP l fun p=>onSP (fA_ K p.1) fun a=>BindO K a p.2.1 p.2.2) = (allP l fun p=>onSP (fA_ K p.1) fun a=>BindO' K a p.2.1 p.2.2)) (h:(l.all fun p=>onS (fA_ K p.1) fun a=>(fnD K a).isSome) = true):allP l fun p=>onSP (fA_ K p.1) fun a=>BindO K a p.2.1 p.2.2 :=
  e.mpr (allP_of h fun p hp=>by
    obtain ⟨a,e,h⟩:=onSE hp
    rw [e]
    exact bindO' h)
noncomputable def ext2B' (K:Frag) (cA:Nat→Option Addr):Prop:=onSP (cA 0) fun C=>(onSP ((findIn K (.ref C) "__iter__").bind fun v=>v.bind refV) fun fi=>BindO' K fi o_nmI o_fnI) ∧ onSP ((findIn K (.ref C) "__next__").bind fun v=>v.bind refV) fun fn=>BindO' K fn o_nmN o_fnN
theorem ext2B_of {K:Frag} {cA:Nat→Option Addr} (e:ext2B K cA = ext2B' K cA) (h:(onS (cA 0) fun C=>(onS ((findIn K (.ref C) "__iter__").bind fun v=>v.bind refV) fun fi=>(fnD K fi).isSome) && onS ((findIn K (.ref C) "__next__").bind fun v=>v.bind refV) fun fn=>(fnD K fn).isSome) = true):ext2B K cA:=by
  obtain ⟨C,e1,h⟩:=onSE h
  obtain ⟨h1,h2⟩:=Bool.and_eq_true_iff.mp h
  obtain ⟨a,e2,h1⟩:=onSE h1
  obtain ⟨b,e3,h2⟩:=onSE h2
  rw [e,ext2B',e1]
  show onSP _ _ ∧ onSP _ _
  rw [e2,e3]
  exact ⟨bindO' h1,bindO' h2⟩
noncomputable def BindE' (K:Frag) (n:Str) (nm:List Str) (k:Nat):Prop:=onSP ((globK K n).bind refV) fun a=>onSP (fnD K a) fun _=>exArgs k fun vals=>(pure ((nm.take k).zip vals):Sem (List (Str × Value))) = pure ((nm.take k).zip vals)
noncomputable def isFn (K:Frag) (n:Str):Bool:=onS ((globK K n).bind refV) fun a=>(fnD K a).isSome
theorem bindE' {K:Frag} {n:Str} {nm:List Str} {k:Nat} (h:isFn K n = true):BindE' K n nm k:=by
  obtain ⟨a,e,h⟩:=onSE h
  have g:onSP (fnD K a) fun _=>exArgs k fun vals=>(pure ((nm.take k).zip vals):Sem (List (Str × Value))) = pure ((nm.take k).zip vals):=onSP_of h fun _=>exArgs_all _ fun _=>rfl
  rw [BindE',e]
  exact g
theorem bindE_of {K:Frag} {n:Str} {nm:List Str} {k:Nat} (e:BindE K n nm k = BindE' K n nm k) (h:isFn K n = true):BindE K n nm k:=e.mpr (bindE' h)
theorem bindEs_of {K:Frag} {l:List FnSpec} (e:(allP l fun S=>BindE K S.1 S.2.1 S.2.2.arity) = allP l fun S=>BindE' K S.1 S.2.1 S.2.2.arity) (h:(l.all fun S=>isFn K S.1) = true):allP l fun S=>BindE K S.1 S.2.1 S.2.2.arity:=e.mpr (allP_of h fun S hS=>bindE' hS)
theorem funQ_of {K:Frag} {a p:Addr} (h:∀ k,FunQ1 K a p (k + 256)) (h1:allP [97,39,91,32,34,42,92,93,63,35,45,98,33] (FunQ1 K a p)):FunQ K a p:=fun c h0=>by
  rcases Bool.or_eq_true_iff.mp h0 with h0 | h0
  · exact allP_mem h1 (List.contains_iff_mem.mp h0)
  · obtain ⟨k,e⟩:=Nat.exists_eq_add_of_le' (of_decide_eq_true h0)
    rw [e]
    exact h k
noncomputable def joinB:List Stmt:=[.Return (some (.Call (.Attribute (.Constant (.str " ") 0 ⟨855,11,855,14⟩) "join" ⟨855,11,855,19⟩) [genX ⟨855,21,855,26⟩ ⟨855,27,855,30⟩ ⟨855,21,855,31⟩ ⟨855,36,855,39⟩ ⟨855,43,855,56⟩ ⟨.function,gNames,true,false,[]⟩ ⟨855,20,855,57⟩] [] ⟨855,11,855,58⟩)) ⟨855,4,855,58⟩]
theorem funJ_of {K:Frag} {a c:Addr} (e:FunJ K a c (855,20) = (Value.ref c = Value.ref c ∧ JoinBody (855,20) joinB)):FunJ K a c (855,20):=e.mpr ⟨rfl,0,_,_,_,_,_,_,_,_,_,_,_,rfl,rfl,⟨rfl,rfl⟩,rfl,rfl,rfl⟩
noncomputable def kT (t:SharedT):Frag:=(List.range t.n).filterMap fun a=>if a == 84 || a == 798 then none else ((t.tree.get a).bind alive).map fun o=>(a,o)
theorem look_mem {a:Addr} {o:Obj} {l:Frag} (h:l.lookup a = some o):(a,o) ∈ l:=by
  induction l with
  | nil=>cases h
  | cons x l ih =>
    rw [List.lookup_cons] at h
    cases e:a == x.1 with
    | true =>
      rw [e] at h
      cases h
      rw [eq_of_beq e]
      exact List.mem_cons_self
    | false =>
      rw [e] at h
      exact List.mem_cons_of_mem _ (ih h)
theorem t_get {t:SharedT} {a:Addr} {o:Obj} (hn:a < t.n) (h:(t.tree.get a).bind alive = some o):t.abs.heap.get? a = some o:=by
  obtain ⟨o',h1,h2⟩:=Option.bind_eq_some_iff.mp h
  exact (abs_get hn h1).trans h2
theorem kT_in (t:SharedT):(kT t).In t.abs.heap:=fun a o h=>by
  obtain ⟨b,hb,e⟩:=List.mem_filterMap.mp (look_mem h)
  split at e
  · cases e
  · obtain ⟨o',h1,h2⟩:=Option.map_eq_some_iff.mp e
    cases h2
    exact t_get (List.mem_range.mp hb) h1
noncomputable abbrev HdOk (K:Frag):Prop:=HeadOk K (84,46) (855,20) 88 84 802 798 784 708 649 142 146 419 803 811 101 ∧ lawOk K fn_a 7 ∧ (allP specs_a fun S=>BindE K S.1 S.2.1 S.2.2.arity) ∧ specs_a.all (fnCheck K fn_a) = true
noncomputable def Y6 (s:Shared):Prop:=∃ K:Frag,K.In s.heap ∧ HdOk K ∧ s.heap.get? 84 = some (tabObj #[]) ∧ s.heap.get? 798 = some (tabObj #[])
noncomputable abbrev pw6:=PySem.Challenge.pw_kt0084_06
noncomputable abbrev r6:OpenRow:=PySem.Challenge.rw_kt0084_06.row
@[irreducible] noncomputable def v6:Program:=view pw6 [0,1,2,4,5,7,8,10,11,13,14,15,17,18,19,20,21,22,23,24,26,27,28,29,31,32,34,36,37,38,39,41,42,43,44,45,46,47]
noncomputable def loose6:List Str:=["twin_re_1_fnmatch", "_special_chars_map", "twin_re_1_shlex", "UnsupportedOperation", "IOBase", "BufferedIOBase", "TextIOBase", "BytesIO", "StringIO", "join_path", "shlex", "split", "join_shlex", "_find_unsafe"]
noncomputable abbrev X6:Shared→Bool:=fun s=>xlAt v6 [] s && recOk (RowW.records r6.toRowW) s
noncomputable abbrev stQ (p:Program) (w:World):=PySem.W.Fast.tw10156331382660048174 (PySem.W.Fast.tw11892475500146522536 PySem.W.Fast.tw14364793385576792824) p w
@[irreducible] noncomputable def go6 (w:World):Option (Shared × SharedT):=headG (stQ (opening pw6) w) (PySem.W.Fast.tw14289696077712309145 pw6) (PySem.W.Fast.tw6613529449190102663 34 (some (.ref 6))) (stQ pw6 w) pw6 6800
noncomputable abbrev Seen6 (x:Shared × SharedT):Prop :=
  (x.1.heap.isNs mainGlobals && x.1.gens.size == 0) = true ∧ x.1.heap.objs.size = 34 ∧ x.1.heap.nsMap mainGlobals "__annotations__" = some (.ref 6) ∧
  (staticsOk (importedModules pw6.main.body) x.1.heap x.2.abs.heap && namesBound pw6 x.2.abs.heap && gensDone x.2.abs && laidKept x.1.heap x.2.abs.heap) = true ∧
  PySem.W.Fast.tw4187177175401517315 v6 loose6 (PySem.W.Fast.tw5923862056798008813 pw6.main.body) X6 true x.2.abs = openGood v6 loose6 ∧
  Nat.blt 798 x.2.n = true ∧ (x.2.tree.get 84).bind alive = some (tabObj #[]) ∧ (x.2.tree.get 798).bind alive = some (tabObj #[])
@[irreducible] noncomputable def x6 (w:World) (h:(go6 w).isSome = true):Shared × SharedT:=(go6 w).get h
@[irreducible] noncomputable def K6 (w:World) (h:(go6 w).isSome = true):Frag:=kT (x6 w h).2
noncomputable abbrev P6 (w:World):Prop:=∃ h:(go6 w).isSome = true,Seen6 (x6 w h) ∧ HdOk (K6 w h)
end Kt
end
section
open PySem PySem.W PyProof.Rows PySem.Calls Builtin
namespace Kt
theorem hs_ff (w:World):∃ h:(go6 ((w.withFollow "comprehension-iter-twice" false).withFollow "special-get-raises" false)).isSome = true,Seen6 (x6 ((w.withFollow "comprehension-iter-twice" false).withFollow "special-get-raises" false) h):=by
  have h:(go6 ((w.withFollow "comprehension-iter-twice" false).withFollow "special-get-raises" false)).isSome = true:=by kernel_rfl
  exact ⟨h,by kernel_rfl,by kernel_rfl,by kernel_rfl,by kernel_rfl,by kernel_rfl,by kernel_rfl,by kernel_rfl,by kernel_rfl⟩
theorem hk_ff (w:World) (h:(go6 ((w.withFollow "comprehension-iter-twice" false).withFollow "special-get-raises" false)).isSome = true):HdOk (K6 ((w.withFollow "comprehension-iter-twice" false).withFollow "special-get-raises" false) h) :=
  ⟨⟨by kernel_rfl,⟨bindOs_of (by kernel_rfl) (by kernel_rfl),bindO_of (by kernel_rfl) (by kernel_rfl),bindO_of (by kernel_rfl) (by kernel_rfl),ext2B_of (by kernel_rfl) (by kernel_rfl)⟩,
    ⟨⟨by kernel_rfl,by kernel_rfl,by kernel_rfl⟩,⟨by kernel_rfl,by kernel_rfl,by kernel_rfl⟩,fun prog w A R s x p=>by kernel_rfl,⟨fun prog w A R s x=>by kernel_rfl,fun prog w R s x=>by unfold New9F; kernel_rfl⟩,fun S l x p=>(by kernel_rfl:_ = (some ((o_nm5.take o_fn5.arity).zip [l,x,.none,p,.bool false]) = some ((o_nm5.take o_fn5.arity).zip [l,x,.none,p,.bool false]))).mpr rfl⟩,
    funJ_of (by kernel_rfl),funQ_of (fun k prog w R s tk=>by kernel_rfl) ⟨fun prog w R s tk=>by kernel_rfl,fun prog w R s tk=>by kernel_rfl,fun prog w R s tk=>by kernel_rfl,fun prog w R s tk=>by kernel_rfl,fun prog w R s tk=>by kernel_rfl,fun prog w R s tk=>by kernel_rfl,fun prog w R s tk=>by kernel_rfl,fun prog w R s tk=>by kernel_rfl,fun prog w R s tk=>by kernel_rfl,fun prog w R s tk=>by kernel_rfl,fun prog w R s tk=>by kernel_rfl,fun prog w R s tk=>by kernel_rfl,fun prog w R s tk=>by kernel_rfl,trivial⟩⟩,⟨bindE_of (by kernel_rfl) (by kernel_rfl),by kernel_rfl⟩,bindEs_of (by kernel_rfl) (by kernel_rfl),by kernel_rfl⟩
theorem hs_ft (w:World):∃ h:(go6 ((w.withFollow "comprehension-iter-twice" false).withFollow "special-get-raises" true)).isSome = true,Seen6 (x6 ((w.withFollow "comprehension-iter-twice" false).withFollow "special-get-raises" true) h):=by
  have h:(go6 ((w.withFollow "comprehension-iter-twice" false).withFollow "special-get-raises" true)).isSome = true:=by kernel_rfl
  exact ⟨h,by kernel_rfl,by kernel_rfl,by kernel_rfl,by kernel_rfl,by kernel_rfl,by kernel_rfl,by kernel_rfl,by kernel_rfl⟩
theorem hk_ft (w:World) (h:(go6 ((w.withFollow "comprehension-iter-twice" false).withFollow "special-get-raises" true)).isSome = true):HdOk (K6 ((w.withFollow "comprehension-iter-twice" false).withFollow "special-get-raises" true) h) :=
  ⟨⟨by kernel_rfl,⟨bindOs_of (by kernel_rfl) (by kernel_rfl),bindO_of (by kernel_rfl) (by kernel_rfl),bindO_of (by kernel_rfl) (by kernel_rfl),ext2B_of (by kernel_rfl) (by kernel_rfl)⟩,
    ⟨⟨by kernel_rfl,by kernel_rfl,by kernel_rfl⟩,⟨by kernel_rfl,by kernel_rfl,by kernel_rfl⟩,fun prog w A R s x p=>by kernel_rfl,⟨fun prog w A R s x=>by kernel_rfl,fun prog w R s x=>by unfold New9F; kernel_rfl⟩,fun S l x p=>(by kernel_rfl:_ = (some ((o_nm5.take o_fn5.arity).zip [l,x,.none,p,.bool false]) = some ((o_nm5.take o_fn5.arity).zip [l,x,.none,p,.bool false]))).mpr rfl⟩,
    funJ_of (by kernel_rfl),funQ_of (fun k prog w R s tk=>by kernel_rfl) ⟨fun prog w R s tk=>by kernel_rfl,fun prog w R s tk=>by kernel_rfl,fun prog w R s tk=>by kernel_rfl,fun prog w R s tk=>by kernel_rfl,fun prog w R s tk=>by kernel_rfl,fun prog w R s tk=>by kernel_rfl,fun prog w R s tk=>by kernel_rfl,fun prog w R s tk=>by kernel_rfl,fun prog w R s tk=>by kernel_rfl,fun prog w R s tk=>by kernel_rfl,fun prog w R s tk=>by kernel_rfl,fun prog w R s tk=>by kernel_rfl,fun prog w R s tk=>by kernel_rfl,trivial⟩⟩,⟨bindE_of (by kernel_rfl) (by kernel_rfl),by kernel_rfl⟩,bindEs_of (by kernel_rfl) (by kernel_rfl),by kernel_rfl⟩
theorem hs_tf (w:World):∃ h:(go6 ((w.withFollow "comprehension-iter-twice" true).withFollow "special-get-raises" false)).isSome = true,Seen6 (x6 ((w.withFollow "comprehension-iter-twice" true).withFollow "special-get-raises" false) h):=by
  have h:(go6 ((w.withFollow "comprehension-iter-twice" true).withFollow "special-get-raises" false)).isSome = true:=by kernel_rfl
  exact ⟨h,by kernel_rfl,by kernel_rfl,by kernel_rfl,by kernel_rfl,by kernel_rfl,by kernel_rfl,by kernel_rfl,by kernel_rfl⟩
theorem hk_tf (w:World) (h:(go6 ((w.withFollow "comprehension-iter-twice" true).withFollow "special-get-raises" false)).isSome = true):HdOk (K6 ((w.withFollow "comprehension-iter-twice" true).withFollow "special-get-raises" false) h) :=
  ⟨⟨by kernel_rfl,⟨bindOs_of (by kernel_rfl) (by kernel_rfl),bindO_of (by kernel_rfl) (by kernel_rfl),bindO_of (by kernel_rfl) (by kernel_rfl),ext2B_of (by kernel_rfl) (by kernel_rfl)⟩,
    ⟨⟨by kernel_rfl,by kernel_rfl,by kernel_rfl⟩,⟨by kernel_rfl,by kernel_rfl,by kernel_rfl⟩,fun prog w A R s x p=>by kernel_rfl,⟨fun prog w A R s x=>by kernel_rfl,fun prog w R s x=>by unfold New9F; kernel_rfl⟩,fun S l x p=>(by kernel_rfl:_ = (some ((o_nm5.take o_fn5.arity).zip [l,x,.none,p,.bool false]) = some ((o_nm5.take o_fn5.arity).zip [l,x,.none,p,.bool false]))).mpr rfl⟩,
    funJ_of (by kernel_rfl),funQ_of (fun k prog w R s tk=>by kernel_rfl) ⟨fun prog w R s tk=>by kernel_rfl,fun prog w R s tk=>by kernel_rfl,fun prog w R s tk=>by kernel_rfl,fun prog w R s tk=>by kernel_rfl,fun prog w R s tk=>by kernel_rfl,fun prog w R s tk=>by kernel_rfl,fun prog w R s tk=>by kernel_rfl,fun prog w R s tk=>by kernel_rfl,fun prog w R s tk=>by kernel_rfl,fun prog w R s tk=>by kernel_rfl,fun prog w R s tk=>by kernel_rfl,fun prog w R s tk=>by kernel_rfl,fun prog w R s tk=>by kernel_rfl,trivial⟩⟩,⟨bindE_of (by kernel_rfl) (by kernel_rfl),by kernel_rfl⟩,bindEs_of (by kernel_rfl) (by kernel_rfl),by kernel_rfl⟩
theorem hs_tt (w:World):∃ h:(go6 ((w.withFollow "comprehension-iter-twice" true).withFollow "special-get-raises" true)).isSome = true,Seen6 (x6 ((w.withFollow "comprehension-iter-twice" true).withFollow "special-get-raises" true) h):=by
  have h:(go6 ((w.withFollow "comprehension-iter-twice" true).withFollow "special-get-raises" true)).isSome = true:=by kernel_rfl
  exact ⟨h,by kernel_rfl,by kernel_rfl,by kernel_rfl,by kernel_rfl,by kernel_rfl,by kernel_rfl,by kernel_rfl,by kernel_rfl⟩
theorem hk_tt (w:World) (h:(go6 ((w.withFollow "comprehension-iter-twice" true).withFollow "special-get-raises" true)).isSome = true):HdOk (K6 ((w.withFollow "comprehension-iter-twice" true).withFollow "special-get-raises" true) h) :=
  ⟨⟨by kernel_rfl,⟨bindOs_of (by kernel_rfl) (by kernel_rfl),bindO_of (by kernel_rfl) (by kernel_rfl),bindO_of (by kernel_rfl) (by kernel_rfl),ext2B_of (by kernel_rfl) (by kernel_rfl)⟩,
    ⟨⟨by kernel_rfl,by kernel_rfl,by kernel_rfl⟩,⟨by kernel_rfl,by kernel_rfl,by kernel_rfl⟩,fun prog w A R s x p=>by kernel_rfl,⟨fun prog w A R s x=>by kernel_rfl,fun prog w R s x=>by unfold New9F; kernel_rfl⟩,fun S l x p=>(by kernel_rfl:_ = (some ((o_nm5.take o_fn5.arity).zip [l,x,.none,p,.bool false]) = some ((o_nm5.take o_fn5.arity).zip [l,x,.none,p,.bool false]))).mpr rfl⟩,
    funJ_of (by kernel_rfl),funQ_of (fun k prog w R s tk=>by kernel_rfl) ⟨fun prog w R s tk=>by kernel_rfl,fun prog w R s tk=>by kernel_rfl,fun prog w R s tk=>by kernel_rfl,fun prog w R s tk=>by kernel_rfl,fun prog w R s tk=>by kernel_rfl,fun prog w R s tk=>by kernel_rfl,fun prog w R s tk=>by kernel_rfl,fun prog w R s tk=>by kernel_rfl,fun prog w R s tk=>by kernel_rfl,fun prog w R s tk=>by kernel_rfl,fun prog w R s tk=>by kernel_rfl,fun prog w R s tk=>by kernel_rfl,fun prog w R s tk=>by kernel_rfl,trivial⟩⟩,⟨bindE_of (by kernel_rfl) (by kernel_rfl),by kernel_rfl⟩,bindEs_of (by kernel_rfl) (by kernel_rfl),by kernel_rfl⟩
theorem all6:∀ w:World,P6 w:=by
  have g:∀ {w:World},(∃ h:(go6 w).isSome = true,Seen6 (x6 w h))→(∀ h:(go6 w).isSome = true,HdOk (K6 w h))→P6 w:=fun a b=>let ⟨h,s⟩:=a; ⟨h,s,b h⟩
  refine byRow2 "special-get-raises" (P:=P6) (fun w=>?_) fun w=>?_
  · exact byRow2 "comprehension-iter-twice" (P:=fun w=>P6 (w.withFollow "special-get-raises" false)) (fun w=>g (hs_ff w) (hk_ff w)) (fun w=>g (hs_tf w) (hk_tf w)) w
  · exact byRow2 "comprehension-iter-twice" (P:=fun w=>P6 (w.withFollow "special-get-raises" true)) (fun w=>g (hs_ft w) (hk_ft w)) (fun w=>g (hs_tt w) (hk_tt w)) w
end Kt
end
section
open PySem PySem.W PyProof.Rows PySem.Calls Builtin
namespace Kt
theorem go6_eq (w:World):headG (stepT (denote treeTable) (opening pw6) w) (fenceModules? pw6) (stepOk 34 (some (.ref 6))) (stepT (denote treeTable) pw6 w) pw6 6800 = go6 w:=by
  unfold go6
  rw [PySem.W.Fast.te14364793385576792824,PySem.W.Fast.te11892475500146522536,PySem.W.Fast.te10156331382660048174,PySem.W.Fast.te6613529449190102663,PySem.W.Fast.te14289696077712309145]
theorem y6 (w:World) (s:Shared × SharedT) (F:Seen6 s) (H:HdOk (kT s.2)):Y6 s.2.abs :=
  have hn:798 < s.2.n:=Nat.le_of_ble_eq_true F.2.2.2.2.2.1
  ⟨kT s.2,kT_in s.2,H,t_get (Nat.lt_trans (by decide) hn) F.2.2.2.2.2.2.1,t_get hn F.2.2.2.2.2.2.2⟩
theorem left6:LeftO r6.prog v6 loose6 X6 Y6 (fun _=>True) 6800:=leftO (p:=pw6) fun w=>by
  obtain ⟨h,F,H⟩:=all6 w
  refine ⟨(x6 w h).1,(x6 w h).2,?_,⟨F.1,F.2.1,F.2.2.1⟩,F.2.2.2.1,?_,y6 w _ F (by unfold K6 at H; exact H)⟩
  · rw [go6_eq]; unfold x6; exact (Option.some_get h).symm
  · rw [PySem.W.Fast.te4187177175401517315,PySem.W.Fast.te5923862056798008813]; exact F.2.2.2.2.1
end Kt
end
section
open PySem PySem.W PyProof.Rows
namespace Kt
section
variable {cl:OCl} {ex:Nat→LO→St→Option (OV × St)} {f n:Nat} {ρ ρ':LO} {st st' st'':St} {s:OS} {ss A:OSs} {a b e:OE} {u v w:OV} {r:Option (OFl × St)}
theorem oxSs_next (h:oxS cl ex f s ρ st = some (.next ρ',st')) (g:oxSs cl ex f ss ρ' st' = r):oxSs cl ex f (.cons s ss) ρ st = r:=(congrArg (Option.bind · _) h).trans g
theorem oxSs_ifT {c:OE} {B:OSs} (h:ovT cl ex c ρ st = some (true,st')) (g:oxSs cl ex f A ρ st' = some (.next ρ',st'')) (k:oxSs cl ex f ss ρ' st'' = r):oxSs cl ex f (.cons (.ife c A B) ss) ρ st = r :=
  oxSs_next ((congrArg (Option.bind · _) h).trans g) k
theorem oxSs_ifF {c:OE} {B:OSs} (h:ovT cl ex c ρ st = some (false,st')) (g:oxSs cl ex f B ρ st' = some (.next ρ',st'')) (k:oxSs cl ex f ss ρ' st'' = r):oxSs cl ex f (.cons (.ife c A B) ss) ρ st = r :=
  oxSs_next ((congrArg (Option.bind · _) h).trans g) k
theorem oxSs_ifRet {c:OE} {B:OSs} (h:ovT cl ex c ρ st = some (true,st')) (g:oxSs cl ex f A ρ st' = some (.ret v,st'')):oxSs cl ex f (.cons (.ife c A B) ss) ρ st = some (.ret v,st'') :=
  have e:oxS cl ex f (.ife c A B) ρ st = some (.ret v,st''):=(congrArg (Option.bind · _) h).trans g
  congrArg (Option.bind · _) e
theorem oxS_asg {x:Nat} (h:ovE cl ex e ρ st = some (v,st')):oxS cl ex f (.assign x e) ρ st = some (.next (ρ.set x (some v)),st'):=congrArg (Option.map _) h
theorem oxS_ret (h:ovE cl ex e ρ st = some (v,st')):oxSs cl ex f (.cons (.ret e) ss) ρ st = some (.ret v,st'):=congrArg (fun o=>Option.bind (Option.map (fun p:OV × St=>(OFl.ret p.1,p.2)) o) _) h
theorem ov_slc {lo hi:OO} {x y:Option Int} (ha:ovE cl ex a ρ st = some (v,st)) (h1:ovO cl ex lo ρ st = some (x,st)) (h2:ovO cl ex hi ρ st = some (y,st)) (hs:slcO v x y = some u):ovE cl ex (.slc a lo hi) ρ st = some (u,st) :=
  (congrArg (Option.bind · _) ha).trans ((congrArg (Option.bind · _) h1).trans ((congrArg (Option.bind · _) h2).trans (congrArg (Option.map _) hs)))
theorem ov_bin {op:Operator} (ha:ovE cl ex a ρ st = some (v,st)) (hb:ovE cl ex b ρ st = some (w,st)) (hs:binO op v w = some u):ovE cl ex (.bin op a b) ρ st = some (u,st) :=
  (congrArg (Option.bind · _) ha).trans ((congrArg (Option.bind · _) hb).trans (congrArg (Option.map _) hs))
theorem ov_idx (ha:ovE cl ex a ρ st = some (v,st)) (hb:ovE cl ex b ρ st = some (w,st)) (hs:idxO st v w = some u):ovE cl ex (.idx a b) ρ st = some (u,st) :=
  (congrArg (Option.bind · _) ha).trans ((congrArg (Option.bind · _) hb).trans (congrArg (Option.map _) hs))
theorem ov_cmp {op:CmpOp} (ha:ovE cl ex a ρ st = some (v,st)) (hb:ovE cl ex b ρ st = some (w,st)) (hs:cmpO op v w = some u):ovE cl ex (.cmp op a b) ρ st = some (u,st) :=
  (congrArg (Option.bind · _) ha).trans ((congrArg (Option.bind · _) hb).trans (congrArg (Option.map _) hs))
theorem ovT_of {t:Bool} (h:ovE cl ex e ρ st = some (.d (.bool t),st)):ovT cl ex e ρ st = some (t,st):=congrArg (Option.bind · _) h
end
noncomputable def goOn (test:LO→St→Option (Bool × St)) (body:LO→St→Option (OFl × St)) (n:Nat) (r:OFl × St):Option (OFl × St):=match r.1 with
  | .next ρ | .cont ρ=>whileO test body n ρ r.2
  | .brk ρ=>some (.next ρ,r.2)
  | .ret v=>some (.ret v,r.2)
theorem whileO_t {test:LO→St→Option (Bool × St)} {body:LO→St→Option (OFl × St)} {n:Nat} {ρ:LO} {st:St} {r:OFl × St} (ht:test ρ st = some (true,st)) (hb:body ρ st = some r):whileO test body (n + 1) ρ st = goOn test body n r :=
  (congrArg (Option.bind · _) ht).trans (congrArg (Option.bind · _) hb)
theorem whileO_f {test:LO→St→Option (Bool × St)} {body:LO→St→Option (OFl × St)} {n:Nat} {ρ:LO} {st:St} (ht:test ρ st = some (false,st)):whileO test body (n + 1) ρ st = some (.next ρ,st):=congrArg (Option.bind · _) ht
noncomputable def dropS:Nat→OSs→OSs
  | 0,ss=>ss
  | n + 1,ss=>match ss with | .nil=>.nil | .cons _ r=>dropS n r
theorem cut_at {A R:List Nat} {x:Nat}:cut (A ++ x :: R) (some (A.length:Int)) (some ((A.length:Int) + 1)) = [x]:=by
  have h1:clampI (A.length:Int) (A ++ x :: R).length = A.length:=by
    unfold clampI
    rw [if_neg (Int.not_lt.mpr (Int.natCast_nonneg _)),Int.toNat_natCast,List.length_append]
    exact Nat.min_eq_left (Nat.le_add_right _ _)
  have h2:clampI ((A.length:Int) + 1) (A ++ x :: R).length = A.length + 1:=by
    show clampI ((A.length + 1:Nat):Int) _ = _
    unfold clampI
    rw [if_neg (Int.not_lt.mpr (Int.natCast_nonneg (A.length + 1))),Int.toNat_natCast,List.length_append,List.length_cons]
    exact Nat.min_eq_left (Nat.add_le_add_left (Nat.le_add_left _ _) _)
  show ((A ++ x :: R).take (clampI ((A.length:Int) + 1) _)).drop (clampI (A.length:Int) _) = _
  rw [h1,h2,List.take_length_add_append,List.drop_left]
  rfl
theorem part_int {q:Int} (h0:0 ≤ q) (h:q < 100000):partO (.d (.int q)) = some q:=by
  have h1:decide ((-(2 ^ 62):Int) < q) = true:=decide_eq_true (Int.lt_of_lt_of_le (by decide +kernel) h0)
  have h2:decide (q < (2 ^ 62:Int)) = true:=decide_eq_true (Int.lt_trans h (by decide +kernel))
  unfold partO oDat partD
  dsimp only
  rw [h1,h2]; rfl
theorem part_nat {n:Nat} (h:n < 100000):partO (.d (.int (n:Int))) = some (n:Int):=part_int (Int.natCast_nonneg n) (Int.ofNat_lt.mpr h)
end Kt
end
section
open PySem PySem.W PyProof.Rows
namespace Kt
noncomputable def wordC:Str := "abcdfeghijklmnopqrstuvwxyzABCDEFGHIJKLMNOPQRSTUVWXYZ0123456789_ßàáâãäåæçèéêëìíîïðñòóôõöøùúûüýþÿÀÁÂÃÄÅÆÇÈÉÊËÌÍÎÏÐÑÒÓÔÕÖØÙÚÛÜÝÞ"
noncomputable def shD (s t:OV):List (Str × OV):=[("instream",.o 2),("infile",.d .none),("posix",.d (.bool true)),("eof",.d .none),("commenters",.d (.str "")),("wordchars",.d (.str wordC)),("whitespace",.d (.str " \t\r\n")),("whitespace_split",.d (.bool true)),("quotes",.d (.str "'\"")),("escape",.d (.str "\\")),
  ("escapedquotes",.d (.str "\"")),("state",s),("pushback",.o 4),("lineno",.d (.int 1)),("debug",.d (.int 0)),("token",t),("filestack",.o 5),("source",.d .none),("_punctuation_chars",.d (.str ""))]
noncomputable def ioD (buf:Str) (p:Int):List (Str × OV):=[("_StringIO__newline",.d (.str "\n")),("_StringIO__buf",.d (.str buf)),("_StringIO__pos",.d (.int p))]
noncomputable def rS (s t:OV) (buf:Str) (p:Int) (z:St):St:=.inst 0 :: .dict (shD s t) :: .inst 1 :: .dict (ioD buf p) :: .deq :: .deq :: z
section
variable {F L:Nat} {s t:OV} {buf:Str} {p q:Int} {z:St}
theorem r1_head:libO F (L + 2) 1 [.o 2,.d (.int 1)] (rS s t buf p z) = retO (oxSs (libO F (L + 1)) (exO F (libO F (L + 1))) F (dropS 5 o_fn1.body) [some (.o 2),some (.d (.int 1)),some (.d (.int p)),some (.d (.int buf.length))] (rS s t buf p z)):=by kernel_rfl
theorem r1_test:ovT (libO F (L + 1)) (exO F (libO F (L + 1))) (.cmp .GtE (.var 2) (.var 3)) [some (.o 2),some (.d (.int 1)),some (.d (.int p)),some (.d (.int q))] (rS s t buf p z) = some (decide (p ≥ q),rS s t buf p z):=by kernel_rfl
theorem r1_test2:ovT (libO F (L + 1)) (exO F (libO F (L + 1))) (.bool true (.cmp .GtE (.var 1) (.lit (.int 0))) (.cmp .Lt (.bin .Add (.var 2) (.var 1)) (.var 3))) [some (.o 2),some (.d (.int 1)),some (.d (.int p)),some (.d (.int q))] (rS s t buf p z) = some (decide (p + 1 < q),rS s t buf p z):=by kernel_rfl
theorem r1_stop:oxSs (libO F (L + 1)) (exO F (libO F (L + 1))) F (.cons (.assign 3 (.bin .Add (.var 2) (.var 1))) .nil) [some (.o 2),some (.d (.int 1)),some (.d (.int p)),some (.d (.int q))] (rS s t buf p z) = some (.next [some (.o 2),some (.d (.int 1)),some (.d (.int p)),some (.d (.int (p + 1)))],rS s t buf p z):=by kernel_rfl
theorem r1_set:oxS (libO F (L + 1)) (exO F (libO F (L + 1))) F (.setA 1 (.var 0) ("_StringIO__pos" : Str) (.var 3)) [some (.o 2),some (.d (.int 1)),some (.d (.int p)),some (.d (.int q))] (rS s t buf p z) = some (.next [some (.o 2),some (.d (.int 1)),some (.d (.int p)),some (.d (.int q))],rS s t buf q z):=by kernel_rfl
theorem lib1_end (h:(buf.length:Int) ≤ p):libO F (L + 2) 1 [.o 2,.d (.int 1)] (rS s t buf p z) = some (.d (.str ""),rS s t buf p z) :=
  r1_head.trans (congrArg retO (oxSs_ifRet (r1_test.trans (congrArg (fun b=>some (b,rS s t buf p z)) (decide_eq_true h))) (v:=.d (.str "")) (st'':=rS s t buf p z) (by kernel_rfl)))
theorem r1_last {c:Nat} (h0:0 ≤ p) (h1:p + 1 < 100000) (hs:slcO (.d (.str buf)) (some p) (some (p + 1)) = some (.d (.str ⟨#[c]⟩))):oxSs (libO F (L + 1)) (exO F (libO F (L + 1))) F (dropS 7 o_fn1.body) [some (.o 2),some (.d (.int 1)),some (.d (.int p)),some (.d (.int (p + 1)))] (rS s t buf p z) = some (.ret (.d (.str ⟨#[c]⟩)),rS s t buf (p + 1) z) :=
  oxSs_next r1_set (oxS_ret (ov_slc (ov_bin (ov_slc (v:=.d (.str buf)) (x:=some p) (y:=some (p + 1)) (by kernel_rfl) (congrArg (Option.map fun i=>(some i,rS s t buf (p + 1) z)) (part_int h0 (Int.lt_trans (Int.lt_add_one_of_le (Int.le_refl p)) h1))) (congrArg (Option.map fun i=>(some i,rS s t buf (p + 1) z)) (part_int (Int.le_add_one h0) h1)) hs) (w:=.d (.str " ")) (u:=.d (.str ⟨#[c,32]⟩)) (by kernel_rfl) (by kernel_rfl)) (x:=none) (y:=some (-1)) rfl (by kernel_rfl) (by kernel_rfl)))
theorem lib1_at {A R:List Nat} {c:Nat} (hb:A.length < 90000):libO F (L + 2) 1 [.o 2,.d (.int 1)] (rS s t ⟨(A ++ c :: R).toArray⟩ A.length z) = some (.d (.str ⟨#[c]⟩),rS s t ⟨(A ++ c :: R).toArray⟩ ((A.length:Int) + 1) z):=by
  have hl:((⟨(A ++ c :: R).toArray⟩:Str).length:Int) = (A.length:Int) + 1 + (R.length:Int):=by
    show (((A ++ c :: R).length:Nat):Int) = _
    rw [List.length_append,List.length_cons]; omega
  have hs:slcO (.d (.str ⟨(A ++ c :: R).toArray⟩)) (some (A.length:Int)) (some ((A.length:Int) + 1)) = some (.d (.str ⟨#[c]⟩)):=congrArg (fun l:List Nat=>some (OV.d (.str ⟨l.toArray⟩))) cut_at
  have h0:=Int.natCast_nonneg A.length
  have h1:(A.length:Int) + 1 < 100000:=by omega
  have hr:=Int.natCast_nonneg R.length
  generalize (⟨(A ++ c :: R).toArray⟩:Str) = buf at hl hs ⊢
  generalize (A.length:Int) = p at hl hs h0 h1 ⊢
  have l1:=r1_last (F:=F) (L:=L) (s:=s) (t:=t) (z:=z) h0 h1 hs
  refine r1_head.trans (congrArg retO (a₂:=some (.ret (.d (.str ⟨#[c]⟩)),rS s t buf (p + 1) z)) (oxSs_ifF (r1_test.trans (congrArg (fun b=>some (b,rS s t buf p z)) (decide_eq_false ?_))) rfl ?_))
  · omega
  rw [hl]
  by_cases hlt:p + 1 < p + 1 + (R.length:Int)
  · exact oxSs_ifT (r1_test2.trans (congrArg (fun b=>some (b,rS s t buf p z)) (decide_eq_true hlt))) r1_stop l1
  · refine oxSs_ifF (r1_test2.trans (congrArg (fun b=>some (b,rS s t buf p z)) (decide_eq_false hlt))) rfl ?_
    rw [show p + 1 + (R.length:Int) = p + 1 by omega]
    exact l1
end
end Kt
end
section
open PySem PySem.W PyProof.Rows
namespace Kt
noncomputable def rdRest:OSs:=dropS 1 o_w6_0
noncomputable abbrev rL (q:Bool) (c:Option OV):LO:=[some (.o 0),some (.d (.bool q)),some (.d (.str " ")),none,c]
structure RS where
  q:Bool
  s:OV
  t:OV
noncomputable def sg (c:Nat):OV:=.d (.str ⟨#[c]⟩)
section
variable {F L f n:Nat} {ex:Nat→LO→St→Option (OV × St)} {cl:OCl} {s t:OV} {p:Int} {buf:Str} {z:St} {q:Bool} {c:Option OV}
theorem rd_call:ovE cl ex (.mcall 1 (.attr 0 (.var 0) ("instream" : Str)) ("read" : Str) 1 (.cons (.lit (.int 1)) .nil)) (rL q c) (rS s t buf p z) = cl 1 [.o 2,.d (.int 1)] (rS s t buf p z):=by kernel_rfl
theorem rd_read {v:OV} {st':St} {r:Option (OFl × St)} (h:libO F (L + 2) 1 [.o 2,.d (.int 1)] (rS s t buf p z) = some (v,st')) (g:oxSs (libO F (L + 2)) ex f rdRest (rL q (some v)) st' = r):oxSs (libO F (L + 2)) ex f o_w6_0 (rL q c) (rS s t buf p z) = r :=
  oxSs_ifF (st':=rS s t buf p z) (by kernel_rfl) (oxSs_next (oxS_asg (rd_call.trans h)) rfl) g
noncomputable def Tr (F L f:Nat) (ex:Nat→LO→St→Option (OV × St)) (fl:LO→OFl) (a:RS) (v:OV) (b:RS):Prop:=∀ (buf:Str) (p:Int) (z:St),oxSs (libO F (L + 2)) ex f rdRest (rL a.q (some v)) (rS a.s a.t buf p z) = some (fl (rL b.q (some v)),rS b.s b.t buf p z)
theorem tr_word {c:Nat} (h:c = 97 ∨ c = 98 ∨ c = 45):Tr F L f ex .next ⟨false,sg 32,.d (.str "")⟩ (sg c) ⟨false,sg 97,sg c⟩:=fun buf p z=>by
  rcases h with rfl | rfl | rfl <;> kernel_rfl
theorem tr_q1:Tr F L f ex .next ⟨q,sg 32,t⟩ (sg 39) ⟨q,sg 39,t⟩:=fun buf p z=>by kernel_rfl
theorem tr_q2:Tr F L f ex .next ⟨q,sg 39,t⟩ (sg 39) ⟨true,sg 97,t⟩:=fun buf p z=>by kernel_rfl
theorem tr_q3:Tr F L f ex .next ⟨q,sg 97,t⟩ (sg 34) ⟨q,sg 34,t⟩:=fun buf p z=>by kernel_rfl
theorem tr_q4:Tr F L f ex .next ⟨q,sg 34,.d (.str "")⟩ (sg 39) ⟨true,sg 34,sg 39⟩:=fun buf p z=>by kernel_rfl
theorem tr_q5:Tr F L f ex .next ⟨q,sg 34,t⟩ (sg 34) ⟨true,sg 97,t⟩:=fun buf p z=>by kernel_rfl
theorem tr_q6:Tr F L f ex .next ⟨q,sg 97,t⟩ (sg 39) ⟨q,sg 39,t⟩:=fun buf p z=>by kernel_rfl
theorem tr_in {c:Nat} (hs:sgnC c = true) (hc:safeC c = false) (h39:c ≠ 39):Tr F L f ex .next ⟨q,sg 39,.d (.str "")⟩ (sg c) ⟨true,sg 39,sg c⟩:=by
  revert hc h39
  refine sgn_cases (m:=fun c=>safeC c = false→c ≠ 39→Tr F L f ex .next ⟨q,sg 39,.d (.str "")⟩ (sg c) ⟨true,sg 39,sg c⟩) hs ⟨?_,?_,?_,?_,?_,?_,?_,?_,?_,?_,?_,?_,?_⟩ fun k _ _ buf p z=>by kernel_rfl
  · exact fun h=>nomatch h
  · exact fun _ h=>absurd rfl h
  all_goals first | exact (fun _ _ buf p z=>by kernel_rfl) | exact fun h=>nomatch h
theorem tr_out {c:Nat}:Tr F L f ex .brk ⟨q,sg 97,sg c⟩ (sg 32) ⟨q,sg 32,sg c⟩:=fun buf p z=>by kernel_rfl
theorem tr_end:Tr F L f ex .brk ⟨q,sg 97,t⟩ (.d (.str "")) ⟨q,.d .none,t⟩:=fun buf p z=>by kernel_rfl
theorem tr_over:Tr F L f ex .brk ⟨q,.d .none,t⟩ (.d (.str "")) ⟨q,.d .none,.d (.str "")⟩:=fun buf p z=>by kernel_rfl
end
noncomputable def qw (c:Nat):List Nat:=bif safeC c then [c] else bif c == 39 then [39,39,34,39,34,39,39] else [39,c,39]
section
variable {F L f n:Nat} {ex:Nat→LO→St→Option (OV × St)} {z:St}
noncomputable abbrev rW (F L f:Nat) (ex:Nat→LO→St→Option (OV × St)) (n:Nat) (c:Option OV) (a:RS) (l:List Nat) (p:Nat) (z:St):Option (OFl × St) :=
  whileO (ovT (libO F (L + 2)) ex o_c6_0) (oxSs (libO F (L + 2)) ex f o_w6_0) n (rL a.q c) (rS a.s a.t ⟨l.toArray⟩ p z)
theorem rw_test {ρ:LO} {st:St}:ovT (libO F (L + 2)) ex o_c6_0 ρ st = some (true,st):=rfl
theorem rw_ch {fl:LO→OFl} {a b:RS} {A R l:List Nat} {x:Nat} {c:Option OV} (T:Tr F L f ex fl a (sg x) b) (hb:A.length < 90000) (hl:l = A ++ x :: R) :
    rW F L f ex (n + 1) c a l A.length z = goOn (ovT (libO F (L + 2)) ex o_c6_0) (oxSs (libO F (L + 2)) ex f o_w6_0) n (fl (rL b.q (some (sg x))),rS b.s b.t ⟨l.toArray⟩ (A ++ [x]).length z):=by
  subst hl
  refine whileO_t rw_test (rd_read (lib1_at hb) ?_)
  rw [List.length_append]
  exact T _ _ z
theorem rw_end {a b:RS} {l:List Nat} {c:Option OV} (T:Tr F L f ex .brk a (.d (.str "")) b):rW F L f ex (n + 1) c a l l.length z = some (.next (rL b.q (some (.d (.str "")))),rS b.s b.t ⟨l.toArray⟩ l.length z) :=
  whileO_t rw_test (rd_read (lib1_end (Int.le_refl _)) (T _ _ z))
noncomputable def Trs (F L f:Nat) (ex:Nat→LO→St→Option (OV × St)):RS→List Nat→RS→Prop
  | a,[],b=>a = b
  | a,x :: xs,b=>∃ m,Tr F L f ex .next a (sg x) m ∧ Trs F L f ex m xs b
theorem rw_trs {b:RS} {l R:List Nat} {xs:List Nat}:∀ {a:RS} {A:List Nat} {c:Option OV},Trs F L f ex a xs b→l = A ++ (xs ++ R)→(A ++ xs).length < 90000→∃ c',rW F L f ex (n + xs.length) c a l A.length z = rW F L f ex n c' b l (A ++ xs).length z:=by
  induction xs with
  | nil=>exact fun {a A c} h _ _=>by cases h; exact ⟨c,by rw [List.append_nil]; rfl⟩
  | cons x xs ih =>
    intro a A c h hl hb
    obtain ⟨m,h1,h2⟩:=h
    have e:A ++ x :: xs = A ++ [x] ++ xs:=(List.append_assoc A [x] xs).symm
    have hl2:l = A ++ [x] ++ (xs ++ R):=hl.trans (List.append_assoc A [x] (xs ++ R)).symm
    obtain ⟨c',g⟩:=ih (A:=A ++ [x]) (c:=some (sg x)) h2 hl2 (e ▸ hb)
    exact ⟨c',(rw_ch h1 (Nat.lt_of_le_of_lt (List.length_append ▸ Nat.le_add_right _ _) hb) hl).trans (g.trans (by rw [e]))⟩
theorem trs_word {x:Nat} (hx:sgnC x = true):Trs F L f ex ⟨false,sg 32,.d (.str "")⟩ (qw x) ⟨!safeC x,sg 97,sg x⟩:=by
  have h0:(!safeC x || (x == 97 || (x == 98 || x == 45))) = true:=sgn_cases (m:=fun x=>(!safeC x || (x == 97 || (x == 98 || x == 45))) = true) hx (by refine ⟨?_,?_,?_,?_,?_,?_,?_,?_,?_,?_,?_,?_,?_⟩ <;> kernel_rfl) fun k=>by kernel_rfl
  unfold qw
  cases hs:safeC x with
  | true =>
    rw [hs] at h0
    have h0:(x == 97 || (x == 98 || x == 45)) = true:=h0
    exact ⟨_,tr_word ((Bool.or_eq_true_iff.mp h0).imp eq_of_beq fun h=>(Bool.or_eq_true_iff.mp h).imp eq_of_beq eq_of_beq),rfl⟩
  | false =>
    cases h:x == 39 with
    | true=>rw [eq_of_beq h]; exact ⟨_,tr_q1,_,tr_q2,_,tr_q3,_,tr_q4,_,tr_q5,_,tr_q6,_,tr_q2,rfl⟩
    | false=>exact ⟨_,tr_q1,_,tr_in hx hs (ne_of_beq_false h),_,tr_q2,rfl⟩
end
end Kt
end
section
open PySem PySem.W PyProof.Rows
namespace Kt
noncomputable def lnC:List Nat→List Nat
  | []=>[]
  | c :: r=>match r with | []=>qw c | _ :: _=>qw c ++ 32 :: lnC r
section
variable {F L n:Nat} {z:St}
theorem rw_last {f x:Nat} {ex:Nat→LO→St→Option (OV × St)} {A:List Nat} {c:Option OV} (hx:sgnC x = true) (hb:(A ++ qw x).length < 90000) :
    ∃ c',rW F L f ex (n + 1 + (qw x).length) c ⟨false,sg 32,.d (.str "")⟩ (A ++ qw x) A.length z = some (.next (rL (!safeC x) c'),rS (.d .none) (sg x) ⟨(A ++ qw x).toArray⟩ (A ++ qw x).length z):=by
  obtain ⟨c',h⟩:=rw_trs (F:=F) (L:=L) (f:=f) (ex:=ex) (n:=n + 1) (z:=z) (R:=[]) (A:=A) (c:=c) (trs_word hx) (by rw [List.append_nil]) hb
  exact ⟨_,h.trans (rw_end tr_end)⟩
theorem rw_more {f x:Nat} {ex:Nat→LO→St→Option (OV × St)} {A R:List Nat} {c:Option OV} (hx:sgnC x = true) (hb:(A ++ qw x).length < 90000) :
    ∃ c',rW F L f ex (n + 1 + (qw x).length) c ⟨false,sg 32,.d (.str "")⟩ (A ++ (qw x ++ 32 :: R)) A.length z = some (.next (rL (!safeC x) c'),rS (sg 32) (sg x) ⟨(A ++ (qw x ++ 32 :: R)).toArray⟩ (A ++ qw x ++ [32]).length z):=by
  obtain ⟨c',h⟩:=rw_trs (F:=F) (L:=L) (f:=f) (ex:=ex) (n:=n + 1) (z:=z) (R:=32 :: R) (A:=A) (c:=c) (trs_word hx) rfl hb
  exact ⟨_,h.trans (rw_ch tr_out hb (List.append_assoc ..).symm)⟩
noncomputable def rtK (F L:Nat) (r:OFl × St):Option (OFl × St):=match r.1 with
  | .next ρ'=>oxSs (libO F (L + 2)) (exO F (libO F (L + 2))) F (dropS 3 o_fn6.body) ρ' r.2
  | g=>some (g,r.2)
noncomputable abbrev rtW (F L:Nat) (st:St):Option (OFl × St):=whileO (ovT (libO F (L + 2)) (exO F (libO F (L + 2))) o_c6_0) (oxSs (libO F (L + 2)) (exO F (libO F (L + 2))) F o_w6_0) F (rL false none) st
theorem rt_head {s t:OV} {buf:Str} {p:Int}:libO F (L + 3) 6 [.o 0] (rS s t buf p z) = retO (Option.bind (rtW F L (rS s t buf p z)) (rtK F L)):=by kernel_rfl
theorem rt_some {s s' t:OV} {buf:Str} {p p':Int} {x:Nat} {b:Bool} {c:Option OV} (h:rtW F L (rS s t buf p z) = some (.next (rL b c),rS s' (sg x) buf p' z)):libO F (L + 3) 6 [.o 0] (rS s t buf p z) = some (sg x,rS s' (.d (.str "")) buf p' z) :=
  rt_head.trans ((congrArg (fun o=>retO (Option.bind o (rtK F L))) h).trans (by cases b <;> kernel_rfl))
theorem rt_none {s s' t:OV} {buf:Str} {p p':Int} {c:Option OV} (h:rtW F L (rS s t buf p z) = some (.next (rL false c),rS s' (.d (.str "")) buf p' z)):libO F (L + 3) 6 [.o 0] (rS s t buf p z) = some (.d .none,rS s' (.d (.str "")) buf p' z) :=
  rt_head.trans ((congrArg (fun o=>retO (Option.bind o (rtK F L))) h).trans (by kernel_rfl))
theorem gt_call {cl:OCl} {ex:Nat→LO→St→Option (OV × St)} {ρ:LO} {s t:OV} {buf:Str} {p:Int}:ovE cl ex (.mcall 0 (.var 0) ("read_token" : Str) 6 .nil) (some (.o 0) :: ρ) (rS s t buf p z) = cl 6 [.o 0] (rS s t buf p z):=by kernel_rfl
theorem gt_some {s s':OV} {buf:Str} {p p':Int} {x:Nat} (h:libO (F + 1) (L + 3) 6 [.o 0] (rS s (.d (.str "")) buf p z) = some (sg x,rS s' (.d (.str "")) buf p' z)):libO (F + 1) (L + 4) 7 [.o 0] (rS s (.d (.str "")) buf p z) = some (sg x,rS s' (.d (.str "")) buf p' z) :=
  (show libO (F + 1) (L + 4) 7 [.o 0] (rS s (.d (.str "")) buf p z) = retO (oxSs (libO (F + 1) (L + 3)) (exO (F + 1) (libO (F + 1) (L + 3))) (F + 1) o_fn7.body [some (.o 0),none,none,none,none,none] (rS s (.d (.str "")) buf p z)) by kernel_rfl).trans
    ((congrArg retO (oxSs_ifF (st':=rS s (.d (.str "")) buf p z) (by kernel_rfl) rfl (oxSs_next (oxS_asg (gt_call.trans h)) rfl))).trans (by kernel_rfl))
theorem gt_none {s s':OV} {buf:Str} {p p':Int} (h:libO (F + 1) (L + 3) 6 [.o 0] (rS s (.d (.str "")) buf p z) = some (.d .none,rS s' (.d (.str "")) buf p' z)):libO (F + 1) (L + 4) 7 [.o 0] (rS s (.d (.str "")) buf p z) = some (.d .none,rS s' (.d (.str "")) buf p' z) :=
  (show libO (F + 1) (L + 4) 7 [.o 0] (rS s (.d (.str "")) buf p z) = retO (oxSs (libO (F + 1) (L + 3)) (exO (F + 1) (libO (F + 1) (L + 3))) (F + 1) o_fn7.body [some (.o 0),none,none,none,none,none] (rS s (.d (.str "")) buf p z)) by kernel_rfl).trans
    ((congrArg retO (oxSs_ifF (st':=rS s (.d (.str "")) buf p z) (by kernel_rfl) rfl (oxSs_next (oxS_asg (gt_call.trans h)) rfl))).trans (by kernel_rfl))
theorem nx_some {cl:OCl} {s s':OV} {buf:Str} {p p':Int} {x:Nat} (h:cl 7 [.o 0] (rS s (.d (.str "")) buf p z) = some (sg x,rS s' (.d (.str "")) buf p' z)):nextO cl (.o 0) (rS s (.d (.str "")) buf p z) = some (some (sg x),rS s' (.d (.str "")) buf p' z) :=
  (congrArg (Option.bind · _) ((show ovE cl (fun _ _ _=>none) o_nx1 [some (.o 0),none] (rS s (.d (.str "")) buf p z) = cl 7 [.o 0] (rS s (.d (.str "")) buf p z) by kernel_rfl).trans h)).trans (by kernel_rfl)
theorem nx_none {cl:OCl} {s s':OV} {buf:Str} {p p':Int} (h:cl 7 [.o 0] (rS s (.d (.str "")) buf p z) = some (.d .none,rS s' (.d (.str "")) buf p' z)):nextO cl (.o 0) (rS s (.d (.str "")) buf p z) = some (none,rS s' (.d (.str "")) buf p' z) :=
  (congrArg (Option.bind · _) ((show ovE cl (fun _ _ _=>none) o_nx1 [some (.o 0),none] (rS s (.d (.str "")) buf p z) = cl 7 [.o 0] (rS s (.d (.str "")) buf p z) by kernel_rfl).trans h)).trans (by kernel_rfl)
end
noncomputable def Ps (ws l:List Nat) (s:OV) (p:Int):Prop:=match ws with
  | []=>s = .d .none ∧ p = l.length
  | _ :: _=>s = sg 32 ∧ ∃ A,l = A ++ lnC ws ∧ p = A.length
theorem qw_len (x:Nat):(qw x).length ≤ 7:=by
  unfold qw
  cases safeC x with
  | true=>exact (show 1 ≤ 7 by decide)
  | false=>cases x == 39 with | true=>exact Nat.le_refl 7 | false=>exact (show 3 ≤ 7 by decide)
section
variable {F L n:Nat} {ws l:List Nat} {x:Nat} {s:OV} {p:Int}
theorem nx_word (hx:sgnC x = true) (hb:l.length < 90000) (hF:8 ≤ F) (h:Ps (x :: ws) l s p):∃ s' p',Ps ws l s' p' ∧ ∀ z,nextO (libO (F + 1) (L + 4)) (.o 0) (rS s (.d (.str "")) ⟨l.toArray⟩ p z) = some (some (sg x),rS s' (.d (.str "")) ⟨l.toArray⟩ p' z):=by
  obtain ⟨rfl,A,hl,rfl⟩:=h
  obtain ⟨n,hn⟩:∃ n,F + 1 = n + 1 + (qw x).length:=⟨F - (qw x).length,by rw [Nat.add_right_comm,Nat.sub_add_cancel (Nat.le_trans (qw_len x) (Nat.le_of_succ_le hF))]⟩
  cases ws with
  | nil =>
    have hl:l = A ++ qw x:=hl
    subst hl
    refine ⟨_,_,⟨rfl,rfl⟩,fun z=>?_⟩
    obtain ⟨c',h⟩:=rw_last (F:=F + 1) (L:=L + 0) (f:=F + 1) (ex:=exO (F + 1) (libO (F + 1) (L + 2))) (n:=n) (z:=z) (A:=A) (c:=none) hx hb
    exact nx_some (gt_some (rt_some (congrArg (fun k=>whileO _ _ k _ _) hn |>.trans h)))
  | cons y ws =>
    have hl:l = A ++ (qw x ++ 32 :: lnC (y :: ws)):=hl
    subst hl
    refine ⟨_,_,⟨rfl,A ++ qw x ++ [32],by rw [List.append_assoc,List.append_assoc]; rfl,rfl⟩,fun z=>?_⟩
    obtain ⟨c',h⟩:=rw_more (F:=F + 1) (L:=L + 0) (f:=F + 1) (ex:=exO (F + 1) (libO (F + 1) (L + 2))) (n:=n) (z:=z) (A:=A) (R:=lnC (y :: ws)) (c:=none) hx (Nat.lt_of_le_of_lt (by rw [List.length_append,List.length_append,List.length_append]; exact Nat.add_le_add_left (Nat.le_add_right _ _) _) hb)
    exact nx_some (gt_some (rt_some (congrArg (fun k=>whileO _ _ k _ _) hn |>.trans h)))
theorem nx_over {z:St} (h:Ps [] l s p):nextO (libO (F + 1) (L + 4)) (.o 0) (rS s (.d (.str "")) ⟨l.toArray⟩ p z) = some (none,rS (.d .none) (.d (.str "")) ⟨l.toArray⟩ l.length z):=by
  obtain ⟨rfl,rfl⟩:=h
  have h:=rw_end (F:=F + 1) (L:=L) (f:=F + 1) (ex:=exO (F + 1) (libO (F + 1) (L + 2))) (n:=F) (z:=z) (a:=⟨false,.d .none,.d (.str "")⟩) (l:=l) (c:=none) tr_over
  exact nx_none (gt_none (rt_none h))
theorem tokens_all (hb:l.length < 90000) (hF:8 ≤ F):∀ {ws:List Nat} {n:Nat} {s:OV} {p:Int} {acc:List OV},(∀ c ∈ ws,sgnC c = true)→Ps ws l s p→ws.length < n→acc.length + ws.length ≤ 1000 →
    tokensO (libO (F + 1) (L + 4)) n (.o 0) 6 (rS s (.d (.str "")) ⟨l.toArray⟩ p [.list acc]) = some (.o 6,rS (.d .none) (.d (.str "")) ⟨l.toArray⟩ l.length [.list (acc ++ ws.map sg)]):=by
  intro ws
  induction ws with
  | nil =>
    intro n s p acc _ h hn _
    obtain ⟨n,rfl⟩:=Nat.exists_eq_add_of_lt hn
    rw [List.map_nil,List.append_nil,show ([]:List Nat).length + n + 1 = n + 1 from congrArg (· + 1) (Nat.zero_add n)]
    exact congrArg (Option.bind · _) (nx_over h)
  | cons x ws ih =>
    intro n s p acc hc h hn ha
    obtain ⟨n,rfl⟩:=Nat.exists_eq_succ_of_ne_zero (Nat.ne_of_gt (Nat.lt_of_le_of_lt (Nat.zero_le _) hn))
    obtain ⟨s',p',h',hnx⟩:=nx_word (L:=L) (hc x List.mem_cons_self) hb hF h
    have ha':(acc ++ [sg x]).length + ws.length ≤ 1000:=by rw [List.length_append,Nat.add_assoc,Nat.add_comm [sg x].length]; exact ha
    have hpush:pushO (rS s' (.d (.str "")) ⟨l.toArray⟩ p' [.list acc]) 6 (sg x) = some (rS s' (.d (.str "")) ⟨l.toArray⟩ p' [.list (acc ++ [sg x])]):=if_pos (Nat.le_trans (Nat.le_add_right _ _) ha)
    have e:acc ++ (x :: ws).map sg = acc ++ [sg x] ++ ws.map sg:=(List.append_assoc acc [sg x] (ws.map sg)).symm
    rw [e]
    exact (congrArg (Option.bind · _) (hnx [.list acc])).trans ((congrArg (Option.bind · _) hpush).trans (ih (fun c h=>hc c (List.mem_cons_of_mem _ h)) h' (Nat.lt_of_succ_lt_succ hn) ha'))
end
theorem qS_eq (x:Nat):qS x = ⟨(qw x).toArray⟩:=by
  unfold qS qw repS
  cases safeC x with
  | true=>rfl
  | false =>
    cases h:x == 39 with
    | true=>kernel_rfl
    | false=>kernel_rfl
theorem str_app (a b:List Nat):(⟨a.toArray⟩:Str) ++ ⟨b.toArray⟩ = ⟨(a ++ b).toArray⟩:=congrArg Str.mk (List.append_toArray a b)
theorem join_ln (cs:List Nat):Str.join " " (cs.map qS) = ⟨(lnC cs).toArray⟩:=by
  induction cs with
  | nil=>rfl
  | cons x cs ih =>
    cases cs with
    | nil=>exact qS_eq x
    | cons y cs =>
      show qS x ++ " " ++ Str.join " " ((y :: cs).map qS) = ⟨(qw x ++ 32 :: lnC (y :: cs)).toArray⟩
      rw [ih,qS_eq x,show (" " : Str) = ⟨[32].toArray⟩ from rfl,str_app,str_app,List.append_assoc]; rfl
theorem ln_len (cs:List Nat):(lnC cs).length ≤ 8 * cs.length:=by
  induction cs with
  | nil=>exact Nat.le_refl _
  | cons x cs ih =>
    cases cs with
    | nil=>exact Nat.le_trans (qw_len x) (show 7 ≤ 8 by decide)
    | cons y cs =>
      show (qw x ++ 32 :: lnC (y :: cs)).length ≤ _
      rw [List.length_append,List.length_cons,List.length_cons,Nat.mul_succ,Nat.add_comm]
      exact Nat.le_trans (Nat.add_le_add (Nat.succ_le_succ ih) (qw_len x)) (Nat.le_of_eq (Nat.succ_add_eq_add_succ _ 7))
theorem flats_ws {cs:List Nat} (h:∀ c ∈ cs,okD (wD c) = true):flatsO (cs.map sg) = some (cs.map wD):=by
  induction cs with
  | nil=>rfl
  | cons x cs ih =>
    show (if (flat (wD x) && okD (wD x)) = true then (flatsO (cs.map sg)).map (wD x :: ·) else none) = _
    rw [h x List.mem_cons_self,ih fun c hc=>h c (List.mem_cons_of_mem _ hc)]; rfl
theorem split_head {F:Nat} {x:Str}:libO F 6 15 [.d (.str x)] [] = retO (Option.bind (Option.map (fun p:OV × St=>(OFl.ret p.1,p.2)) (tokensO (libO F 5) F (.o 0) 6 (rS (sg 32) (.d (.str "")) x 0 [.list []]))) fun r=>match r.1 with
  | .next ρ'=>oxSs (libO F 5) (exO F (libO F 5)) F .nil ρ' r.2
  | g=>some (g,r.2)):=by kernel_rfl
theorem split_join {F:Nat} {cs:List Nat} (hc:∀ c ∈ cs,sgnC c = true) (hok:∀ c ∈ cs,okD (wD c) = true) (hne:cs ≠ []) (hl:cs.length ≤ 900) (hF:900 ≤ F):splitP (F + 1) (Str.join " " (cs.map qS)) = some (.list (cs.map wD)):=by
  have hb:(lnC cs).length < 90000:=Nat.lt_of_le_of_lt (Nat.le_trans (ln_len cs) (Nat.mul_le_mul_left 8 hl)) (by decide)
  have hP:Ps cs (lnC cs) (sg 32) (0:Int):=by
    cases cs with
    | nil=>exact absurd rfl hne
    | cons y cs=>exact ⟨rfl,[],rfl,rfl⟩
  have h:=tokens_all (L:=1) (n:=F + 1) (acc:=[]) hb (Nat.le_trans (by decide) hF) hc hP (Nat.lt_succ_of_le (Nat.le_trans hl hF)) (by rw [List.length_nil,Nat.zero_add]; exact Nat.le_trans hl (by decide))
  rw [join_ln]
  unfold splitP
  rw [split_head,h]
  exact congrArg (Option.map PyData.list) (flats_ws hok)
end Kt
end
section
open PySem PySem.W PyProof.Rows
namespace Kt
section
variable {cl:OCl} {ex:Nat→LO→St→Option (OV × St)} {f n:Nat} {ρ:LO} {st st':St} {a b e:OE} {v:OV} {t:Bool}
theorem oxS_app {m j:Nat} (hf:ovE cl ex a ρ st = some (.o m,st)) (he:ovE cl ex e ρ st = some (v,st)) (hm:methO st (.o m) = some j) (hp:pushO st j v = some st'):oxS cl ex f (.expr (.app a e)) ρ st = some (.next ρ,st'):=by
  have h:ovE cl ex (.app a e) ρ st = some (.d .none,st'):=(congrArg (Option.bind · _) hf).trans ((congrArg (Option.bind · _) he).trans ((congrArg (Option.bind · _) hm).trans (congrArg (Option.map _) hp)))
  exact congrArg (Option.bind · _) h
theorem ovT_and (ha:ovE cl ex a ρ st = some (.d (.bool true),st)) (hb:ovE cl ex b ρ st = some (.d (.bool t),st)):ovT cl ex (.bool true a b) ρ st = some (t,st):=by
  have h:ovE cl ex (.bool true a b) ρ st = some (.d (.bool t),st):=(congrArg (Option.bind · _) ha).trans hb
  exact congrArg (Option.bind · _) h
theorem idx_int {s:Str} {q:Int} {c:Nat} (h0:0 ≤ q) (h1:q < 100000) (hlt:q.toNat < s.length) (hg:s.cps[q.toNat]? = some c):idxO st (.d (.str s)) (.d (.int q)) = some (sg c):=by
  have hp:placeI q s.length = some q.toNat:=by
    have h3:decide ((-(2 ^ 62):Int) < q) = true:=decide_eq_true (Int.lt_of_lt_of_le (by decide +kernel) h0)
    have h4:decide (q < (2 ^ 62:Int)) = true:=decide_eq_true (Int.lt_trans h1 (by decide +kernel))
    unfold placeI
    rw [h3,h4,if_pos h0,if_pos hlt]; rfl
  have e:idxO st (.d (.str s)) (.d (.int q)) = flatR ((placeI q s.length).bind fun k=>(s.cps[k]?).map fun c=>PyData.str ⟨#[c]⟩):=rfl
  rw [e,hp]
  show flatR ((s.cps[q.toNat]?).map fun c=>PyData.str ⟨#[c]⟩) = _
  rw [hg]; rfl
theorem idx_at {A R:List Nat} {c:Nat} (hb:A.length < 90000):idxO st (.d (.str ⟨(A ++ c :: R).toArray⟩)) (.d (.int A.length)) = some (sg c) :=
  idx_int (Int.natCast_nonneg _) (Int.lt_trans (Int.ofNat_lt.mpr hb) (by decide)) (by rw [Int.toNat_natCast]; show A.length < (A ++ c :: R).length; rw [List.length_append]; exact Nat.lt_add_of_pos_right (Nat.succ_pos _))
    (by rw [Int.toNat_natCast,List.getElem?_toArray,List.getElem?_append_right (Nat.le_refl _),Nat.sub_self]; rfl)
end
noncomputable abbrev trL (s:Str) (i n:Int) (c j u:Option OV):LO:=[some (.d (.str s)),some (.o 0),some (.d (.str ".")),some (.o 1),some (.o 2),some (.d (.int i)),some (.d (.int n)),c,j,u,none,none,none,none]
noncomputable abbrev trS (ps:List OV):St:=[.plain,.list ps,.meth 1]
noncomputable def badC (c:Nat):Bool:=c == 42 || (c == 63 || c == 91)
theorem sgn_beq (a b:Nat):((⟨#[a]⟩:Str) == ⟨#[b]⟩) = (a == b):=by
  by_cases e:a = b
  · subst e; rw [beq_self_eq_true,beq_self_eq_true]
  · rw [beq_false_of_ne e,beq_false_of_ne fun h=>e (List.cons.inj (congrArg (fun s:Str=>s.cps.toList) h)).1]
theorem cmp_eq {c d:Nat}:cmpO .Eq (sg c) (sg d) = some (.d (.bool (c == d))):=(show _ = some (OV.d (.bool ((⟨#[c]⟩:Str) == ⟨#[d]⟩))) by kernel_rfl).trans (by rw [sgn_beq])
theorem cmp_ne {c d:Nat}:cmpO .NotEq (sg c) (sg d) = some (.d (.bool (!(c == d)))):=(show _ = some (OV.d (.bool (!((⟨#[c]⟩:Str) == ⟨#[d]⟩)))) by kernel_rfl).trans (by rw [sgn_beq])
section
variable {F L:Nat} {s:Str} {i n:Int} {ps:List OV} {c j u:Option OV} {x:Nat}
theorem tr_push {v:OV} (hp:ps.length ≤ 1000):pushO (trS ps) 1 v = some (trS (ps ++ [v])):=if_pos hp
theorem tr_c {d:Nat} {b:Bool} {cl:OCl} {ex:Nat→LO→St→Option (OV × St)} (h:(x == d) = b):ovT cl ex (.cmp .Eq (.var 7) (.lit (.str ⟨#[d]⟩))) (trL s i n (some (sg x)) j u) (trS ps) = some (b,trS ps):=ovT_of (ov_cmp (v:=sg x) (w:=sg d) rfl rfl (h ▸ cmp_eq))
theorem tr_read {f:Nat} {cl:OCl} {ex:Nat→LO→St→Option (OV × St)} {r:Option (OFl × St)} (hx:idxO (trS ps) (.d (.str s)) (.d (.int i)) = some (sg x)) (g:oxSs cl ex f (dropS 2 o_w12_2) (trL s (i + 1) n (some (sg x)) j u) (trS ps) = r):oxSs cl ex f o_w12_2 (trL s i n c j u) (trS ps) = r :=
  oxSs_next (oxS_asg (ov_idx (v:=.d (.str s)) (w:=.d (.int i)) rfl rfl hx)) (oxSs_next (ρ':=trL s (i + 1) n (some (sg x)) j u) (st':=trS ps) (by kernel_rfl) g)
theorem tt_plain (hb:badC x = false) (hp:ps.length ≤ 1000) (hx:idxO (trS ps) (.d (.str s)) (.d (.int i)) = some (sg x)) :
    oxSs (libO F (L + 1)) (exO F (libO F (L + 1))) F o_w12_2 (trL s i n c j u) (trS ps) = some (.next (trL s (i + 1) n (some (sg x)) j u),trS (ps ++ [.d (.str (escS x))])):=by
  obtain ⟨h1,hb⟩:=Bool.or_eq_false_iff.mp hb
  obtain ⟨h2,h3⟩:=Bool.or_eq_false_iff.mp hb
  refine tr_read hx (oxSs_ifF (tr_c (d:=42) h1) (oxSs_ifF (tr_c (d:=63) h2) (oxSs_ifF (tr_c (d:=91) h3) (oxSs_next (oxS_app (m:=2) (j:=1) (v:=.d (.str (escS x))) rfl ?_ rfl (tr_push hp)) rfl) rfl) rfl) rfl)
  kernel_rfl
theorem tt_star (ht:ps = [] ∨ ∃ e,truthO (trS ps) (.o 1) = some true ∧ idxO (trS ps) (.o 1) (.d (.int (-1))) = some (.d (.str e))) (hp:ps.length ≤ 1000) (hx:idxO (trS ps) (.d (.str s)) (.d (.int i)) = some (sg 42)) :
    oxSs (libO F (L + 1)) (exO F (libO F (L + 1))) F o_w12_2 (trL s i n c j u) (trS ps) = some (.next (trL s (i + 1) n (some (sg 42)) j u),trS (ps ++ [.o 0])):=by
  refine tr_read hx (oxSs_ifT (tr_c (d:=42) rfl) (oxSs_ifT (st':=trS ps) ?_ (oxSs_next (oxS_app (m:=2) (j:=1) (v:=.o 0) rfl rfl rfl (tr_push hp)) rfl) rfl) rfl)
  rcases ht with rfl | ⟨e,h1,h2⟩
  · kernel_rfl
  · have e1:ovE (libO F (L + 1)) (exO F (libO F (L + 1))) (.nt (.var 3)) (trL s (i + 1) n (some (sg 42)) j u) (trS ps) = some (.d (.bool false),trS ps):=congrArg (Option.map fun b=>(OV.d (.bool !b),trS ps)) h1
    have e2:ovE (libO F (L + 1)) (exO F (libO F (L + 1))) (.cmp .IsNot (.idx (.var 3) (.neg 1)) (.var 1)) (trL s (i + 1) n (some (sg 42)) j u) (trS ps) = some (.d (.bool true),trS ps):=ov_cmp (v:=.d (.str e)) (w:=.o 0) (ov_idx (v:=.o 1) (w:=.d (.int (-1))) rfl rfl h2) rfl rfl
    exact ovT_of ((congrArg (Option.bind · _) e1).trans e2)
noncomputable def headS:OSs→OS
  | .nil=>.stuck
  | .cons s _=>s
noncomputable def onThen (ss:OSs):OSs:=match headS ss with | .ife _ a _=>a | _=>.nil
noncomputable def onElse (ss:OSs):OSs:=match headS ss with | .ife _ _ b=>b | _=>.nil
noncomputable def brU (x:Nat):Str:=bif x == 91 then ⟨#[92,91]⟩ else ⟨#[x]⟩
theorem bad_cases {m:Nat→Prop} {x:Nat} (h:badC x = true) (h1:m 42) (h2:m 63) (h3:m 91):m x :=
  (Bool.or_eq_true_iff.mp h).elim (fun h=>eq_of_beq h ▸ h1) fun h=>(Bool.or_eq_true_iff.mp h).elim (fun h=>eq_of_beq h ▸ h2) fun h=>eq_of_beq h ▸ h3
section
variable {cl:OCl} {f:Nat}
theorem tb_lt {k:Int} (h:k < n):ovE cl (exO F cl) (.cmp .Lt (.var 8) (.var 6)) (trL s i n c (some (.d (.int k))) u) (trS ps) = some (.d (.bool true),trS ps) :=
  (show _ = some (OV.d (.bool (decide (k < n))),trS ps) by kernel_rfl).trans (by rw [decide_eq_true h])
theorem tb_idx {k:Int} {y:Nat} (h:idxO (trS ps) (.d (.str s)) (.d (.int k)) = some (sg y)):ovE cl (exO F cl) (.idx (.var 0) (.var 8)) (trL s i n c (some (.d (.int k))) u) (trS ps) = some (sg y,trS ps):=ov_idx (v:=.d (.str s)) (w:=.d (.int k)) rfl rfl h
theorem tb_eq {k:Int} {y d:Nat} {b:Bool} (hk:k < n) (h:idxO (trS ps) (.d (.str s)) (.d (.int k)) = some (sg y)) (hb:(y == d) = b):ovT cl (exO F cl) (.bool true (.cmp .Lt (.var 8) (.var 6)) (.cmp .Eq (.idx (.var 0) (.var 8)) (.lit (.str ⟨#[d]⟩)))) (trL s i n c (some (.d (.int k))) u) (trS ps) = some (b,trS ps) :=
  ovT_and (tb_lt hk) (ov_cmp (w:=sg d) (tb_idx h) rfl (hb ▸ cmp_eq))
theorem tb_ne {k:Int} {y d:Nat} {b:Bool} (hk:k < n) (h:idxO (trS ps) (.d (.str s)) (.d (.int k)) = some (sg y)) (hb:(!(y == d)) = b):ovT cl (exO F cl) (.bool true (.cmp .Lt (.var 8) (.var 6)) (.cmp .NotEq (.idx (.var 0) (.var 8)) (.lit (.str ⟨#[d]⟩)))) (trL s i n c (some (.d (.int k))) u) (trS ps) = some (b,trS ps) :=
  ovT_and (tb_lt hk) (ov_cmp (w:=sg d) (tb_idx h) rfl (hb ▸ cmp_ne))
theorem tb_while {k:Int} {n':Nat} (hx:badC x = true) (hk:k < n) (hk2:k + 1 < n) (h1:idxO (trS ps) (.d (.str s)) (.d (.int k)) = some (sg x)) (h2:idxO (trS ps) (.d (.str s)) (.d (.int (k + 1))) = some (sg 93)) :
    whileO (ovT cl (exO F cl) o_c12_1) (oxSs cl (exO F cl) f o_w12_1) (n' + 2) (trL s i n c (some (.d (.int k))) u) (trS ps) = some (.next (trL s i n c (some (.d (.int (k + 1)))) u),trS ps) :=
  (whileO_t (r:=(.next (trL s i n c (some (.d (.int (k + 1)))) u),trS ps)) (tb_ne (d:=93) hk h1 (bad_cases (m:=fun x=>(!(x == 93)) = true) hx rfl rfl rfl)) (by kernel_rfl)).trans (whileO_f (tb_ne (d:=93) hk2 h2 rfl))
noncomputable def tailS:OSs:=dropS 1 (onElse (dropS 4 (onThen (onElse (onElse (dropS 2 o_w12_2))))))
noncomputable def tailB:OSs:=onElse (onElse (dropS 3 tailS))
theorem tb_s0 {k:Int} (hx:badC x = true):oxS cl (exO F cl) f (headS tailS) (trL s i n c (some (.d (.int k))) (some (sg x))) (trS ps) = some (.next (trL s i n c (some (.d (.int k))) (some (sg x))),trS ps):=bad_cases (m:=fun x=>oxS cl (exO F cl) f (headS tailS) (trL s i n c (some (.d (.int k))) (some (sg x))) (trS ps) = some (.next (trL s i n c (some (.d (.int k))) (some (sg x))),trS ps)) hx (by kernel_rfl) (by kernel_rfl) (by kernel_rfl)
theorem tb_s1 {k:Int} (hx:badC x = true):oxS cl (exO F cl) f (headS (dropS 1 tailS)) (trL s i n c (some (.d (.int k))) (some (sg x))) (trS ps) = some (.next (trL s i n c (some (.d (.int k))) (some (sg x))),trS ps):=bad_cases (m:=fun x=>oxS cl (exO F cl) f (headS (dropS 1 tailS)) (trL s i n c (some (.d (.int k))) (some (sg x))) (trS ps) = some (.next (trL s i n c (some (.d (.int k))) (some (sg x))),trS ps)) hx (by kernel_rfl) (by kernel_rfl) (by kernel_rfl)
theorem tb_s3 {k:Int} (hx:badC x = true):oxS cl (exO F cl) f (headS tailB) (trL s i n c (some (.d (.int k))) (some (sg x))) (trS ps) = some (.next (trL s i n c (some (.d (.int k))) (some (.d (.str (brU x))))),trS ps):=bad_cases (m:=fun x=>oxS cl (exO F cl) f (headS tailB) (trL s i n c (some (.d (.int k))) (some (sg x))) (trS ps) = some (.next (trL s i n c (some (.d (.int k))) (some (.d (.str (brU x))))),trS ps)) hx (by kernel_rfl) (by kernel_rfl) (by kernel_rfl)
theorem tb_s4 (hx:badC x = true):strR ("[" ++ brU x ++ "]") = some (.d (.str ("[" ++ brU x ++ "]"))):=bad_cases (m:=fun x=>strR ("[" ++ brU x ++ "]") = some (.d (.str ("[" ++ brU x ++ "]")))) hx (by kernel_rfl) (by kernel_rfl) (by kernel_rfl)
theorem tb_tail {k:Int} (hx:badC x = true) (hp:ps.length ≤ 1000):oxSs cl (exO F cl) f tailS (trL s i n c (some (.d (.int k))) (some (sg x))) (trS ps) =
    some (.next (trL s (k + 1) n c (some (.d (.int k))) (some (.d (.str (brU x))))),trS (ps ++ [.d (.str ("[" ++ brU x ++ "]"))])) :=
  oxSs_next (tb_s0 hx) (oxSs_next (tb_s1 hx) (oxSs_next (ρ':=trL s (k + 1) n c (some (.d (.int k))) (some (sg x))) (st':=trS ps) (by kernel_rfl) (oxSs_ifF (st':=trS ps) (by kernel_rfl)
    (oxSs_ifF (st':=trS ps) (ovT_of (ov_cmp (v:=sg x) (w:=sg 33) rfl rfl (bad_cases (m:=fun x=>cmpO .Eq (sg x) (sg 33) = some (.d (.bool false))) hx (by kernel_rfl) (by kernel_rfl) (by kernel_rfl))))
      (oxSs_next (tb_s3 hx) (oxSs_next (oxS_app (m:=2) (j:=1) (v:=.d (.str ("[" ++ brU x ++ "]"))) rfl (congrArg (Option.map fun v=>(v,trS ps)) (tb_s4 hx)) rfl (tr_push hp)) rfl)) rfl) rfl)))
theorem tt_brk {F':Nat} (hx:badC x = true) (hp:ps.length ≤ 1000) (h0:idxO (trS ps) (.d (.str s)) (.d (.int i)) = some (sg 91)) (h1:idxO (trS ps) (.d (.str s)) (.d (.int (i + 1))) = some (sg x)) (h2:idxO (trS ps) (.d (.str s)) (.d (.int (i + 1 + 1))) = some (sg 93))
    (hk:i + 1 + 1 < n) (hs:slcO (.d (.str s)) (some (i + 1)) (some (i + 1 + 1)) = some (sg x)) (hq:partO (.d (.int (i + 1))) = some (i + 1)) (hq2:partO (.d (.int (i + 1 + 1))) = some (i + 1 + 1)) :
    oxSs cl (exO (F' + 2) cl) (F' + 2) o_w12_2 (trL s i n c j u) (trS ps) = some (.next (trL s (i + 1 + 1 + 1) n (some (sg 91)) (some (.d (.int (i + 1 + 1)))) (some (.d (.str (brU x))))),trS (ps ++ [.d (.str ("[" ++ brU x ++ "]"))])):=by
  have hk1:i + 1 < n:=Int.lt_trans (Int.lt_succ _) hk
  refine tr_read h0 (oxSs_ifF (tr_c (d:=42) rfl) (oxSs_ifF (tr_c (d:=63) rfl) (oxSs_ifT (tr_c (d:=91) rfl) ?_ rfl) rfl) rfl)
  refine oxSs_next (ρ':=trL s (i + 1) n (some (sg 91)) (some (.d (.int (i + 1)))) u) (st':=trS ps) (by kernel_rfl) ?_
  refine oxSs_ifF (tb_eq (d:=33) hk1 h1 (bad_cases (m:=fun x=>(x == 33) = false) hx rfl rfl rfl)) rfl ?_
  refine oxSs_ifF (tb_eq (d:=93) hk1 h1 (bad_cases (m:=fun x=>(x == 93) = false) hx rfl rfl rfl)) rfl ?_
  refine oxSs_next (tb_while hx hk1 hk h1 h2) ?_
  refine oxSs_ifF (st':=trS ps) ((show ovT cl (exO (F' + 2) cl) (.cmp .GtE (.var 8) (.var 6)) (trL s (i + 1) n (some (sg 91)) (some (.d (.int (i + 1 + 1)))) u) (trS ps) = some (decide (i + 1 + 1 ≥ n),trS ps) by kernel_rfl).trans (by rw [decide_eq_false (Int.not_le.mpr hk)])) ?_ rfl
  exact oxSs_next (oxS_asg (ov_slc (v:=.d (.str s)) (x:=some (i + 1)) (y:=some (i + 1 + 1)) rfl (congrArg (Option.map fun i=>(some i,trS ps)) hq) (congrArg (Option.map fun i=>(some i,trS ps)) hq2) hs)) (tb_tail hx hp)
end
end
end Kt
end
section
open PySem PySem.W PyProof.Rows
namespace Kt
noncomputable def pc (c:Nat):List Nat:=bif badC c then [91,c,93] else [c]
noncomputable def pcS (c:Nat):Str:=bif badC c then "[" ++ brU c ++ "]" else escS c
noncomputable def pcV (c:Nat):OV:=.d (.str (pcS c))
section
variable {F L m:Nat} {c j u:Option OV} {l:List Nat} {ps:List OV}
noncomputable abbrev tW (F L m:Nat) (c j u:Option OV) (l:List Nat) (p:Int) (ps:List OV):Option (OFl × St) :=
  whileO (ovT (libO (F + 2) (L + 1)) (exO (F + 2) (libO (F + 2) (L + 1))) o_c12_2) (oxSs (libO (F + 2) (L + 1)) (exO (F + 2) (libO (F + 2) (L + 1))) (F + 2) o_w12_2) m (trL ⟨l.toArray⟩ p l.length c j u) (trS ps)
theorem t_test {s:Str} {i n:Int} {b:Bool} {cl:OCl} {ex:Nat→LO→St→Option (OV × St)} (h:decide (i < n) = b):ovT cl ex o_c12_2 (trL s i n c j u) (trS ps) = some (b,trS ps):=(show _ = some (decide (i < n),trS ps) by kernel_rfl).trans (by rw [h])
theorem len_one {A:List Nat} {x:Nat}:(((A ++ [x]).length:Nat):Int) = (A.length:Int) + 1:=by rw [List.length_append]; rfl
theorem tw_one {A R:List Nat} {x:Nat} (hl:l = A ++ (pc x ++ R)) (hb:l.length < 80000) (hp:ps.length ≤ 1000):∃ c' j' u',tW F L (m + 1) c j u l A.length ps = tW F L m c' j' u' l (A ++ pc x).length (ps ++ [pcV x]):=by
  have hlen:A.length + ((pc x).length + R.length) = l.length:=by rw [hl,List.length_append,List.length_append]
  have hb':∀ {k},k ≤ l.length→k < 90000:=fun h=>Nat.lt_of_le_of_lt h (Nat.lt_trans hb (by decide))
  have hpos:0 < (pc x).length:=by unfold pc; cases badC x <;> exact Nat.succ_pos _
  have ht:decide ((A.length:Int) < (l.length:Int)) = true:=decide_eq_true (Int.ofNat_lt.mpr (hlen ▸ Nat.lt_add_of_pos_right (Nat.add_pos_left hpos _)))
  have hA:A.length < 90000:=hb' (hlen ▸ Nat.le_add_right _ _)
  unfold pc at hl hlen ⊢
  unfold pcV pcS
  cases hx:badC x with
  | false =>
    rw [hx] at hl
    have h:=tt_plain (F:=F + 2) (L:=L) (s:=⟨l.toArray⟩) (i:=A.length) (n:=l.length) (c:=c) (j:=j) (u:=u) hx hp (by rw [hl]; exact idx_at hA)
    refine ⟨some (sg x),j,u,(whileO_t (t_test ht) h).trans ?_⟩
    exact congrArg (fun q=>tW F L m (some (sg x)) j u l q (ps ++ [.d (.str (escS x))])) len_one.symm
  | true =>
    rw [hx] at hl hlen
    have e1:=len_one (A:=A) (x:=91)
    have e2:(((A ++ [91] ++ [x]).length:Nat):Int) = (A.length:Int) + 1 + 1:=by rw [len_one,e1]
    have l1:l = A ++ [91] ++ x :: (93 :: R):=by rw [hl,List.append_assoc]; rfl
    have l2:l = A ++ [91] ++ [x] ++ 93 :: R:=by rw [hl,List.append_assoc,List.append_assoc]; rfl
    have s1:(A ++ [91]).length < 80000:=by rw [l1] at hb; rw [List.length_append] at hb; exact Nat.lt_of_le_of_lt (Nat.le_add_right _ _) hb
    have s2:(A ++ [91] ++ [x]).length < 80000:=by rw [l2] at hb; rw [List.length_append] at hb; exact Nat.lt_of_le_of_lt (Nat.le_add_right _ _) hb
    have h:=tt_brk (cl:=libO (F + 2) (L + 1)) (F':=F) (s:=⟨l.toArray⟩) (i:=A.length) (n:=l.length) (c:=c) (j:=j) (u:=u) hx hp (by rw [hl]; exact idx_at hA)
      (by rw [← e1,l1]; exact idx_at (Nat.lt_trans s1 (by decide))) (by rw [← e2,l2]; exact idx_at (Nat.lt_trans s2 (by decide)))
      (by rw [← e2]; exact Int.ofNat_lt.mpr (by rw [l2,List.length_append (bs:=93 :: R)]; exact Nat.lt_add_of_pos_right (Nat.succ_pos _)))
      (by rw [← e1,l1]; exact congrArg (fun l:List Nat=>some (OV.d (.str ⟨l.toArray⟩))) cut_at) (by rw [← e1]; exact part_nat (Nat.lt_trans s1 (by decide))) (by rw [← e2]; exact part_nat (Nat.lt_trans s2 (by decide)))
    refine ⟨some (sg 91),some (.d (.int ((A.length:Int) + 1 + 1))),some (.d (.str (brU x))),(whileO_t (t_test ht) h).trans ?_⟩
    have e3:(A.length:Int) + 1 + 1 + 1 = (((A ++ [91,x,93]).length:Nat):Int):=by rw [← e2,← len_one (x:=93),List.append_assoc,List.append_assoc]; rfl
    exact congrArg (fun q=>tW F L m (some (sg 91)) (some (.d (.int ((A.length:Int) + 1 + 1)))) (some (.d (.str (brU x)))) l q (ps ++ [.d (.str ("[" ++ brU x ++ "]"))])) e3
theorem tw_all {R:List Nat} {cs:List Nat}:∀ {A:List Nat} {ps:List OV} {c j u:Option OV},l = A ++ (cs.flatMap pc ++ R)→l.length < 80000→ps.length + cs.length ≤ 1000→∃ c' j' u',tW F L (m + cs.length) c j u l A.length ps = tW F L m c' j' u' l (A ++ cs.flatMap pc).length (ps ++ cs.map pcV):=by
  induction cs with
  | nil=>exact fun {A ps c j u} _ _ _=>⟨c,j,u,by rw [List.flatMap_nil,List.map_nil,List.append_nil,List.append_nil]; rfl⟩
  | cons x cs ih =>
    intro A ps c j u hl hb hp
    rw [List.flatMap_cons,List.append_assoc] at hl
    obtain ⟨c1,j1,u1,g1⟩:=tw_one (F:=F) (L:=L) (m:=m + cs.length) (c:=c) (j:=j) (u:=u) hl hb (Nat.le_trans (Nat.le_add_right _ _) hp)
    obtain ⟨c2,j2,u2,g2⟩:=ih (A:=A ++ pc x) (ps:=ps ++ [pcV x]) (c:=c1) (j:=j1) (u:=u1) (hl.trans (List.append_assoc ..).symm) hb (by rw [List.length_append,Nat.add_assoc,Nat.add_comm [pcV x].length]; exact hp)
    exact ⟨c2,j2,u2,g1.trans (g2.trans (by rw [List.flatMap_cons,List.append_assoc,List.append_assoc]; rfl))⟩
end
end Kt
end
section
open PySem PySem.W PyProof.Rows
namespace Kt
section
variable {cl:OCl} {ex:Nat→LO→St→Option (OV × St)} {f:Nat} {ρ ρ':LO} {st st' st'':St} {ss A:OSs}
theorem oxSs_ifBrk {c:OE} {B:OSs} (h:ovT cl ex c ρ st = some (true,st')) (g:oxSs cl ex f A ρ st' = some (.brk ρ',st'')):oxSs cl ex f (.cons (.ife c A B) ss) ρ st = some (.brk ρ',st''):=by
  have e:oxS cl ex f (.ife c A B) ρ st = some (.brk ρ',st''):=(congrArg (Option.bind · _) h).trans g
  exact congrArg (Option.bind · _) e
theorem oxS_asrt {c:OE} (h:ovT cl ex c ρ st = some (true,st')):oxS cl ex f (.asrt c) ρ st = some (.next ρ,st'):=congrArg (Option.bind · _) h
theorem eq_int (a b:Int):cmpO .Eq (.d (.int a)) (.d (.int b)) = some (.d (.bool (a == b))):=by kernel_rfl
theorem idxL_int {xs:List OV} {q:Int} {k:Nat} {v:OV} (hk:st[k]? = some (.list xs)) (h0:0 ≤ q) (h1:q < 100000) (hg:xs[q.toNat]? = some v):idxO st (.o k) (.d (.int q)) = some v:=by
  have hp:placeI q xs.length = some q.toNat:=by
    have h3:decide ((-(2 ^ 62):Int) < q) = true:=decide_eq_true (Int.lt_of_lt_of_le (by decide +kernel) h0)
    have h4:decide (q < (2 ^ 62:Int)) = true:=decide_eq_true (Int.lt_trans h1 (by decide +kernel))
    unfold placeI
    rw [h3,h4,if_pos h0,if_pos (getLe hg)]; rfl
  have e:idxO st (.o k) (.d (.int q)) = fL st[k]? fun xs=>(placeI q xs.length).bind (xs[·]?):=rfl
  rw [e,hk]
  show (placeI q xs.length).bind (xs[·]?) = _
  rw [hp]; exact hg
theorem idxL_at {P R:List OV} {k:Nat} {v:OV} (hk:st[k]? = some (.list (P ++ v :: R))) (hb:P.length < 90000):idxO st (.o k) (.d (.int P.length)) = some v :=
  idxL_int hk (Int.natCast_nonneg _) (Int.lt_trans (Int.ofNat_lt.mpr hb) (by decide)) (by rw [Int.toNat_natCast,List.getElem?_append_right (Nat.le_refl _),Nat.sub_self]; rfl)
end
theorem idxL_last {st:St} {r:List OV} {k:Nat} {v:OV} (hk:st[k]? = some (.list (r ++ [v]))):idxO st (.o k) (.d (.int (-1))) = some v:=by
  have hp:placeI (-1) (r ++ [v]).length = some r.length:=by
    have h:placeI (-1) (r ++ [v]).length = (if 0 ≤ (-1:Int) + ((r ++ [v]).length:Int) then some ((-1:Int) + ((r ++ [v]).length:Int)).toNat else none):=by kernel_rfl
    have e:(-1:Int) + (((r ++ [v]).length:Nat):Int) = (r.length:Int):=by rw [List.length_append,List.length_singleton]; omega
    rw [h,e,if_pos (Int.natCast_nonneg _),Int.toNat_natCast]
  have e:idxO st (.o k) (.d (.int (-1))) = fL st[k]? fun xs=>(placeI (-1) xs.length).bind (xs[·]?):=rfl
  rw [e,hk]
  show (placeI (-1) (r ++ [v]).length).bind ((r ++ [v])[·]?) = _
  rw [hp]
  exact List.getElem?_concat_length
noncomputable def t12K (F L:Nat) (r:OFl × St):Option (OFl × St):=match r.1 with
  | .next ρ'=>oxSs (libO F (L + 1)) (exO F (libO F (L + 1))) F (dropS 4 o_fn12.body) ρ' r.2
  | g=>some (g,r.2)
section
variable {F L:Nat} {c j u:Option OV} {s:Str} {ps:List OV} {cs:List Nat}
theorem t12_head:libO F (L + 2) 12 [.d (.str s),.o 0,.d (.str ".")] [.plain] = retO (Option.bind (whileO (ovT (libO F (L + 1)) (exO F (libO F (L + 1))) o_c12_2) (oxSs (libO F (L + 1)) (exO F (libO F (L + 1))) F o_w12_2) F (trL s 0 s.length none none none) (trS [])) (t12K F L)):=by kernel_rfl
theorem t12_tail {n:Int}:retO (t12K F L (.next (trL s n n c j u),trS ps)) = some (.o 1,trS ps) :=
  congrArg retO (oxSs_next (oxS_asrt (st':=trS ps) ((show ovT _ _ (.cmp .Eq (.var 5) (.var 6)) (trL s n n c j u) (trS ps) = some (n == n,trS ps) by kernel_rfl).trans (by rw [beq_self_eq_true]))) (oxS_ret (v:=.o 1) rfl))
theorem t12_front (hne:cs ≠ []) (hl:cs.length ≤ 900) (hb:(cs.flatMap pc ++ [42]).length < 80000) (hF:1000 ≤ F):libO (F + 2) (L + 2) 12 [.d (.str ⟨(cs.flatMap pc ++ [42]).toArray⟩),.o 0,.d (.str ".")] [.plain] = some (.o 1,trS (cs.map pcV ++ [.o 0])):=by
  obtain ⟨m,hm⟩:∃ m,F + 2 = m + 2 + cs.length:=⟨F - cs.length,by rw [Nat.add_right_comm,Nat.sub_add_cancel (Nat.le_trans hl (Nat.le_trans (by decide) hF))]⟩
  obtain ⟨c,j,u,h⟩:=tw_all (F:=F) (L:=L) (m:=m + 2) (l:=cs.flatMap pc ++ [42]) (A:=[]) (R:=[42]) (ps:=[]) (cs:=cs) (c:=none) (j:=none) (u:=none) rfl hb (by rw [List.length_nil,Nat.zero_add]; exact Nat.le_trans hl (by decide))
  have hlen:(cs.flatMap pc ++ [42]).length = (cs.flatMap pc).length + 1:=List.length_append
  have hA:(cs.flatMap pc).length < 90000:=Nat.lt_trans (Nat.lt_of_succ_lt (hlen ▸ hb)) (by decide)
  have hlast:∃ r e,cs.map pcV = r ++ [.d (.str e)]:=by
    rcases List.eq_nil_or_concat cs with h | ⟨r,x,h⟩
    · exact absurd h hne
    · exact ⟨r.map pcV,pcS x,by rw [h,List.concat_eq_append,List.map_append]; rfl⟩
  obtain ⟨r,e,hr⟩:=hlast
  have h1:truthO (trS (cs.map pcV)) (.o 1) = some true:=by rw [hr]; cases r <;> rfl
  have h2:idxO (trS (cs.map pcV)) (.o 1) (.d (.int (-1))) = some (.d (.str e)):=idxL_last (r:=r) (congrArg (fun l=>some (FO.list l)) hr)
  have h3:idxO (trS (cs.map pcV)) (.d (.str ⟨(cs.flatMap pc ++ [42]).toArray⟩)) (.d (.int (cs.flatMap pc).length)) = some (sg 42):=idx_at hA
  have hst:=tt_star (F:=F + 2) (L:=L) (n:=(cs.flatMap pc ++ [42]).length) (c:=c) (j:=j) (u:=u) (.inr ⟨e,h1,h2⟩) (by rw [List.length_map]; exact Nat.le_trans hl (by decide)) h3
  have hq:((cs.flatMap pc).length:Int) + 1 = ((cs.flatMap pc ++ [42]).length:Nat):=by rw [hlen]; rfl
  rw [hq] at hst
  have hend:tW F L (m + 2) c j u (cs.flatMap pc ++ [42]) (cs.flatMap pc).length (cs.map pcV) = some (.next (trL ⟨(cs.flatMap pc ++ [42]).toArray⟩ ((cs.flatMap pc ++ [42]).length:Nat) ((cs.flatMap pc ++ [42]).length:Nat) (some (sg 42)) j u),trS (cs.map pcV ++ [.o 0])) :=
    (whileO_t (t_test (decide_eq_true (Int.ofNat_lt.mpr (hlen ▸ Nat.lt_succ_self _)))) hst).trans (whileO_f (t_test (decide_eq_false (Int.lt_irrefl _))))
  exact t12_head.trans ((congrArg (fun o=>retO (Option.bind o (t12K (F + 2) L))) ((congrArg (fun k=>tW F L k none none none (cs.flatMap pc ++ [42]) ((0:Nat):Int) []) hm).trans (h.trans hend))).trans t12_tail)
theorem t12_back (hl:cs.length ≤ 900) (hb:(42 :: cs.flatMap pc).length < 80000) (hF:1000 ≤ F):libO (F + 2) (L + 2) 12 [.d (.str ⟨(42 :: cs.flatMap pc).toArray⟩),.o 0,.d (.str ".")] [.plain] = some (.o 1,trS (.o 0 :: cs.map pcV)):=by
  obtain ⟨m,hm⟩:∃ m,F + 2 = m + 1 + cs.length + 1:=⟨F - cs.length,by rw [Nat.add_right_comm _ 1 cs.length,Nat.sub_add_cancel (Nat.le_trans hl (Nat.le_trans (by decide) hF))]⟩
  have h3:idxO (trS []) (.d (.str ⟨(42 :: cs.flatMap pc).toArray⟩)) (.d (.int (([]:List Nat).length:Nat))) = some (sg 42):=idx_at (A:=[]) (by decide)
  have hst:=tt_star (F:=F + 2) (L:=L) (n:=(42 :: cs.flatMap pc).length) (c:=none) (j:=none) (u:=none) (.inl rfl) (Nat.zero_le _) h3
  obtain ⟨c,j,u,h⟩:=tw_all (F:=F) (L:=L) (m:=m + 1) (l:=42 :: cs.flatMap pc) (A:=[42]) (R:=[]) (ps:=[.o 0]) (cs:=cs) (c:=some (sg 42)) (j:=none) (u:=none) (by rw [List.append_nil]; rfl) hb (by rw [Nat.add_comm]; exact Nat.succ_le_succ (Nat.le_trans hl (by decide)))
  have hend:tW F L (m + 1) c j u (42 :: cs.flatMap pc) ([42] ++ cs.flatMap pc).length ([.o 0] ++ cs.map pcV) = some (.next (trL ⟨(42 :: cs.flatMap pc).toArray⟩ ((42 :: cs.flatMap pc).length:Nat) ((42 :: cs.flatMap pc).length:Nat) c j u),trS (.o 0 :: cs.map pcV)):=whileO_f (t_test (decide_eq_false (Int.lt_irrefl _)))
  have hbeg:tW F L (m + 1 + cs.length + 1) none none none (42 :: cs.flatMap pc) ((0:Nat):Int) [] = tW F L (m + 1 + cs.length) (some (sg 42)) none none (42 :: cs.flatMap pc) (([42]:List Nat).length:Nat) [.o 0] :=
    whileO_t (t_test (decide_eq_true (Int.ofNat_lt.mpr (Nat.succ_pos _)))) hst
  exact t12_head.trans ((congrArg (fun o=>retO (Option.bind o (t12K (F + 2) L))) ((congrArg (fun k=>tW F L k none none none (42 :: cs.flatMap pc) ((0:Nat):Int) []) hm).trans (hbeg.trans (h.trans hend)))).trans t12_tail)
end
end Kt
end
section
open PySem PySem.W PyProof.Rows
namespace Kt
noncomputable abbrev jL (i n:Int) (x:Option OV):LO:=[some (.o 1),some (.o 0),some (.o 3),some (.o 4),some (.d (.int i)),some (.d (.int n)),x]
noncomputable abbrev jS (ps qs:List OV) (z:St):St:=.plain :: .list ps :: .meth 1 :: .list qs :: .meth 3 :: z
noncomputable def isSt (v:OV):Prop:=∃ s,v = .d (.str s)
theorem loop_all {test:LO→St→Option (Bool × St)} {body:LO→St→Option (OFl × St)} {P:Int→LO} {S:List OV→St} {ps R:List OV} {m:Nat}
    (ht:∀ A v R qs,ps = A ++ v :: R→isSt v→test (P A.length) (S qs) = some (true,S qs)) (hb:∀ A v R qs,ps = A ++ v :: R→isSt v→qs.length ≤ 1000→body (P A.length) (S qs) = some (.next (P ((A.length:Int) + 1)),S (qs ++ [v]))) {vs:List OV} :
    ∀ {A qs:List OV},ps = A ++ (vs ++ R)→(∀ v ∈ vs,isSt v)→qs.length + vs.length ≤ 1000→whileO test body (m + vs.length) (P A.length) (S qs) = whileO test body m (P (A ++ vs).length) (S (qs ++ vs)):=by
  induction vs with
  | nil=>exact fun {A qs} _ _ _=>by rw [List.append_nil,List.append_nil]; rfl
  | cons v vs ih =>
    intro A qs hp hv hq
    have e:A ++ v :: vs = A ++ [v] ++ vs:=(List.append_assoc A [v] vs).symm
    have e2:qs ++ v :: vs = qs ++ [v] ++ vs:=(List.append_assoc qs [v] vs).symm
    have hs:=hv v List.mem_cons_self
    have hl:(((A ++ [v]).length:Nat):Int) = (A.length:Int) + 1:=by rw [List.length_append]; rfl
    have g:=ih (A:=A ++ [v]) (qs:=qs ++ [v]) (hp.trans (List.append_assoc A [v] (vs ++ R)).symm) (fun w h=>hv w (List.mem_cons_of_mem _ h)) (by rw [List.length_append,Nat.add_assoc,Nat.add_comm [v].length]; exact hq)
    rw [hl] at g
    rw [e,e2]
    exact (whileO_t (ht A v (vs ++ R) qs hp hs) (hb A v (vs ++ R) qs hp hs (Nat.le_trans (Nat.le_add_right _ _) hq))).trans g
section
variable {cl:OCl} {ex:Nat→LO→St→Option (OV × St)} {f:Nat} {ps qs:List OV} {z:St} {i n:Int} {x:Option OV} {v:OV}
theorem j_lt (h:i < n):ovE cl ex (.cmp .Lt (.var 4) (.var 5)) (jL i n x) (jS ps qs z) = some (.d (.bool true),jS ps qs z):=(show _ = some (OV.d (.bool (decide (i < n))),jS ps qs z) by kernel_rfl).trans (by rw [decide_eq_true h])
theorem j_idx (hi:idxO (jS ps qs z) (.o 1) (.d (.int i)) = some v):ovE cl ex (.idx (.var 0) (.var 4)) (jL i n x) (jS ps qs z) = some (v,jS ps qs z):=ov_idx (v:=.o 1) (w:=.d (.int i)) rfl rfl hi
theorem j_t (h:i < n) (hi:idxO (jS ps qs z) (.o 1) (.d (.int i)) = some v) (hv:isSt v):ovT cl ex o_c13_2 (jL i n x) (jS ps qs z) = some (true,jS ps qs z):=by
  obtain ⟨s,rfl⟩:=hv
  exact ovT_and (j_lt h) (ov_cmp (w:=.o 0) (j_idx hi) rfl rfl)
theorem j_f (h:i < n) (hi:idxO (jS ps qs z) (.o 1) (.d (.int i)) = some (.o 0)):ovT cl ex o_c13_2 (jL i n x) (jS ps qs z) = some (false,jS ps qs z):=ovT_and (j_lt h) (ov_cmp (w:=.o 0) (j_idx hi) rfl rfl)
theorem j_over {k:Int}:ovT cl ex o_c13_2 (jL k k x) (jS ps qs z) = some (false,jS ps qs z):=by
  have e:ovE cl ex (.cmp .Lt (.var 4) (.var 5)) (jL k k x) (jS ps qs z) = some (.d (.bool false),jS ps qs z):=(show _ = some (OV.d (.bool (decide (k < k))),jS ps qs z) by kernel_rfl).trans (by rw [decide_eq_false (Int.lt_irrefl _)])
  have e2:ovE cl ex o_c13_2 (jL k k x) (jS ps qs z) = some (.d (.bool false),jS ps qs z):=congrArg (Option.bind · _) e
  exact ovT_of e2
theorem j_push (hq:qs.length ≤ 1000):pushO (jS ps qs z) 3 v = some (jS ps (qs ++ [v]) z):=if_pos hq
theorem j_b1 (hi:idxO (jS ps qs z) (.o 1) (.d (.int i)) = some v) (hq:qs.length ≤ 1000):oxSs cl ex f o_w13_2 (jL i n x) (jS ps qs z) = some (.next (jL (i + 1) n x),jS ps (qs ++ [v]) z) :=
  oxSs_next (oxS_app (m:=4) (j:=3) rfl (j_idx hi) rfl (j_push hq)) (oxSs_next (ρ':=jL (i + 1) n x) (st':=jS ps (qs ++ [v]) z) (by kernel_rfl) rfl)
theorem j_b2 {fs:List OV} (hi:idxO (jS ps qs [.list fs]) (.o 1) (.d (.int i)) = some v) (hf:fs.length ≤ 1000):oxSs cl ex f o_w13_0 (jL i n (some (.o 5))) (jS ps qs [.list fs]) = some (.next (jL (i + 1) n (some (.o 5))),jS ps qs [.list (fs ++ [v])]):=by
  have e:ovE cl ex (.appL (.var 6) (.idx (.var 0) (.var 4))) (jL i n (some (.o 5))) (jS ps qs [.list fs]) = some (.d .none,jS ps qs [.list (fs ++ [v])]) :=
    (show _ = Option.bind (ovE cl ex (.idx (.var 0) (.var 4)) (jL i n (some (.o 5))) (jS ps qs [.list fs])) fun r=>(pushO r.2 5 r.1).map fun st'=>(OV.d .none,st') by kernel_rfl).trans ((congrArg (Option.bind · _) (j_idx hi)).trans (congrArg (Option.map _) (if_pos hf)))
  have e2:oxS cl ex f (.expr (.appL (.var 6) (.idx (.var 0) (.var 4)))) (jL i n (some (.o 5))) (jS ps qs [.list fs]) = some (.next (jL i n (some (.o 5))),jS ps qs [.list (fs ++ [v])]):=congrArg (Option.bind · _) e
  exact oxSs_next e2 (oxSs_next (ρ':=jL (i + 1) n (some (.o 5))) (st':=jS ps qs [.list (fs ++ [v])]) (by kernel_rfl) rfl)
theorem j_eq {k:Int} {b:Bool} (h:(i == k) = b):ovT cl ex (.cmp .Eq (.var 4) (.var 5)) (jL i k x) (jS ps qs z) = some (b,jS ps qs z):=(show _ = some (i == k,jS ps qs z) by kernel_rfl).trans (by rw [h])
end
noncomputable def lV (l:List Nat):OV:=.d (.str ⟨l.toArray⟩)
noncomputable def pl (c:Nat):List Nat:=bif badC c then 91 :: ((bif c == 91 then [92,91] else [c]) ++ [93]) else if specC c then [92,c] else [c]
theorem pcV_eq (c:Nat):pcV c = lV (pl c):=by
  unfold pcV pcS pl brU escS lV
  cases badC c with
  | true=>cases c == 91 <;> rfl
  | false =>
    by_cases h:specC c = true
    · rw [if_pos h,cond_false,cond_false,if_pos h]
    · rw [if_neg h,cond_false,cond_false,if_neg h]
theorem join_flat (ls:List (List Nat)):Str.join "" (ls.map fun l=>(⟨l.toArray⟩:Str)) = ⟨ls.flatten.toArray⟩:=by
  induction ls with
  | nil=>rfl
  | cons l ls ih =>
    cases ls with
    | nil=>exact congrArg (fun l:List Nat=>(⟨l.toArray⟩:Str)) (List.append_nil l).symm
    | cons k ls =>
      show (⟨l.toArray⟩:Str) ++ "" ++ Str.join "" ((k :: ls).map fun l=>(⟨l.toArray⟩:Str)) = ⟨(l ++ (k :: ls).flatten).toArray⟩
      rw [ih,show ("" : Str) = ⟨([]:List Nat).toArray⟩ from rfl,str_app,str_app,List.append_nil]
theorem strs_flat (ls:List (List Nat)):strsV (ls.map lV) = some (ls.map fun l=>(⟨l.toArray⟩:Str)):=by
  induction ls with
  | nil=>rfl
  | cons l ls ih=>exact congrArg (Option.map _) ih
theorem sum_flat (ls:List (List Nat)):∀ k:Nat,(ls.map fun l=>(⟨l.toArray⟩:Str)).foldl (fun n x=>n + x.length + ("" : Str).length) k = k + ls.flatten.length:=by
  induction ls with
  | nil=>exact fun k=>rfl
  | cons l ls ih=>exact fun k=>(ih _).trans (by rw [List.flatten_cons,List.length_append,← Nat.add_assoc]; rfl)
theorem joinO_flat {st:St} {k:Nat} {ls:List (List Nat)} (hk:st[k]? = some (.list (ls.map lV))) (hb:ls.flatten.length ≤ 90000):joinO st (.d (.str "")) (.o k) = some (lV ls.flatten):=by
  have e:joinO st (.d (.str "")) (.o k) = Option.bind (fL st[k]? fun xs=>some (k,xs)) fun p=>(strsV p.2).bind fun ss=>if ss.foldl (fun n x=>n + x.length + ("" : Str).length) 0 ≤ 2 ^ 20 then some (.d (.str (Str.join "" ss))) else none:=rfl
  rw [e,hk]
  show Option.bind (strsV (ls.map lV)) _ = _
  rw [strs_flat]
  show (if _ then _ else _) = _
  rw [sum_flat,Nat.zero_add,if_pos (Nat.le_trans hb (show 90000 ≤ 2 ^ 20 by decide)),join_flat]; rfl
theorem strR_flat {l:List Nat} (a b:List Nat) (hb:(a ++ l ++ b).length ≤ 90000):strR (⟨a.toArray⟩ ++ ⟨l.toArray⟩ ++ ⟨b.toArray⟩) = some (lV (a ++ l ++ b)):=by
  rw [str_app,str_app]
  exact if_pos (Nat.le_trans hb (by decide))
section
variable {cl:OCl} {ex:Nat→LO→St→Option (OV × St)} {f m:Nat} {ps vs R A qs fs:List OV} {z:St} {x:Option OV}
theorem j_in {B:List OV} {v:OV} {R':List OV} (h:ps = B ++ v :: R') (hb:ps.length ≤ 2000):((B.length:Int) < (ps.length:Nat)) ∧ ∀ qs z,idxO (jS ps qs z) (.o 1) (.d (.int B.length)) = some v:=by
  have hl:B.length < ps.length:=by rw [h,List.length_append]; exact Nat.lt_add_of_pos_right (Nat.succ_pos _)
  exact ⟨Int.ofNat_lt.mpr hl,fun qs z=>idxL_at (congrArg (fun l=>some (FO.list l)) h) (Nat.lt_of_lt_of_le hl (Nat.le_trans hb (by decide)))⟩
theorem j_w1 (hb:ps.length ≤ 2000) (hp:ps = A ++ (vs ++ R)) (hv:∀ v ∈ vs,isSt v) (hq:qs.length + vs.length ≤ 1000) :
    whileO (ovT cl ex o_c13_2) (oxSs cl ex f o_w13_2) (m + vs.length) (jL A.length (ps.length:Nat) x) (jS ps qs z) = whileO (ovT cl ex o_c13_2) (oxSs cl ex f o_w13_2) m (jL (A ++ vs).length (ps.length:Nat) x) (jS ps (qs ++ vs) z) :=
  loop_all (P:=fun q=>jL q (ps.length:Nat) x) (S:=fun qs=>jS ps qs z) (fun B v R' qs h hs=>j_t (j_in h hb).1 ((j_in h hb).2 qs z) hs) (fun B v R' qs h hs hq=>j_b1 ((j_in h hb).2 qs z) hq) hp hv hq
theorem j_w2 (hb:ps.length ≤ 2000) (hp:ps = A ++ (vs ++ R)) (hv:∀ v ∈ vs,isSt v) (hq:fs.length + vs.length ≤ 1000) :
    whileO (ovT cl ex o_c13_0) (oxSs cl ex f o_w13_0) (m + vs.length) (jL A.length (ps.length:Nat) (some (.o 5))) (jS ps qs [.list fs]) = whileO (ovT cl ex o_c13_0) (oxSs cl ex f o_w13_0) m (jL (A ++ vs).length (ps.length:Nat) (some (.o 5))) (jS ps qs [.list (fs ++ vs)]) :=
  loop_all (P:=fun q=>jL q (ps.length:Nat) (some (.o 5))) (S:=fun fs=>jS ps qs [.list fs]) (fun B v R' fs h hs=>j_t (j_in h hb).1 ((j_in h hb).2 qs [.list fs]) hs) (fun B v R' fs h hs hq=>j_b2 ((j_in h hb).2 qs [.list fs]) hq) hp hv hq
end
noncomputable def t13K (F L:Nat) (r:OFl × St):Option (OFl × St):=match r.1 with
  | .next ρ'=>oxSs (libO F (L + 1)) (exO F (libO F (L + 1))) F (dropS 4 o_fn13.body) ρ' r.2
  | g=>some (g,r.2)
section
variable {F L:Nat} {ps:List OV} {z:St} {x:Option OV} {ls:List (List Nat)}
theorem t13_head:libO F (L + 2) 13 [.o 1,.o 0] (trS ps) = retO (Option.bind (whileO (ovT (libO F (L + 1)) (exO F (libO F (L + 1))) o_c13_2) (oxSs (libO F (L + 1)) (exO F (libO F (L + 1))) F o_w13_2) F (jL 0 (ps.length:Nat) none) (jS ps [] [])) (t13K F L)):=by kernel_rfl
theorem t13_tail {n:Int} (hb:ls.flatten.length ≤ 80000):retO (oxSs (libO F (L + 1)) (exO F (libO F (L + 1))) F (dropS 5 o_fn13.body) (jL n n x) (jS ps (ls.map lV) z)) = some (lV ([40,63,115,58] ++ ls.flatten ++ [41,92,90]),jS ps (ls.map lV) z):=by
  refine congrArg retO (oxSs_next (oxS_asrt (j_eq (beq_self_eq_true n))) (oxSs_next (ρ':=[some (.o 1),some (.o 0),some (lV ls.flatten),some (.o 4),some (.d (.int n)),some (.d (.int n)),x]) (st':=jS ps (ls.map lV) z) ?_ (oxS_ret (v:=lV ([40,63,115,58] ++ ls.flatten ++ [41,92,90])) (st':=jS ps (ls.map lV) z) ?_)))
  · exact oxS_asg (v:=lV ls.flatten) (congrArg (Option.map fun v=>(v,jS ps (ls.map lV) z)) (joinO_flat (st:=jS ps (ls.map lV) z) (k:=3) rfl (Nat.le_trans hb (by decide))))
  · exact congrArg (Option.map fun v=>(v,jS ps (ls.map lV) z)) (strR_flat [40,63,115,58] [41,92,90] (by rw [List.length_append,List.length_append]; exact Nat.le_trans (Nat.add_le_add_right (Nat.add_le_add_left hb 4) 3) (by decide)))
theorem st_all {ls:List (List Nat)}:∀ v ∈ ls.map lV,isSt v:=fun v h=>let ⟨_,_,e⟩:=List.mem_map.mp h; ⟨_,e.symm⟩
theorem t13_front (hl:ls.length ≤ 900) (hb:ls.flatten.length ≤ 70000) (hF:1000 ≤ F):(libO (F + 1) (L + 2) 13 [.o 1,.o 0] (trS (ls.map lV ++ [.o 0]))).map (·.1) = some (lV ([40,63,115,58] ++ (ls.flatten ++ [46,42]) ++ [41,92,90])):=by
  obtain ⟨m,hm⟩:∃ m,F + 1 = m + 1 + (ls.map lV).length:=⟨F - ls.length,by rw [List.length_map,Nat.add_right_comm,Nat.sub_add_cancel (Nat.le_trans hl (Nat.le_trans (by decide) hF))]⟩
  have hps:(ls.map lV ++ [OV.o 0]).length ≤ 2000:=by rw [List.length_append,List.length_map]; exact Nat.le_trans (Nat.add_le_add_right hl 1) (by decide)
  have hin:=j_in (ps:=ls.map lV ++ [OV.o 0]) (B:=ls.map lV) (R':=[]) rfl hps
  have w1:=j_w1 (cl:=libO (F + 1) (L + 1)) (ex:=exO (F + 1) (libO (F + 1) (L + 1))) (f:=F + 1) (m:=m + 1) (A:=[]) (qs:=[]) (z:=[]) (x:=none) hps (rfl:ls.map lV ++ [OV.o 0] = [] ++ (ls.map lV ++ [OV.o 0])) st_all (by rw [List.length_map,List.length_nil,Nat.zero_add]; exact Nat.le_trans hl (by decide))
  have w2:=w1.trans (whileO_f (j_f hin.1 (hin.2 _ _)))
  have hq:((ls.map lV).length:Int) + 1 = ((ls.map lV ++ [OV.o 0]).length:Nat):=by rw [List.length_append]; rfl
  have hqs:(ls.map lV).length ≤ 1000:=by rw [List.length_map]; exact Nat.le_trans hl (by decide)
  have haug:oxS (libO (F + 1) (L + 1)) (exO (F + 1) (libO (F + 1) (L + 1))) (F + 1) (.aug 4 .Add (.lit (.int 1))) (jL (ls.map lV).length ((ls.map lV ++ [OV.o 0]).length:Nat) none) (jS (ls.map lV ++ [OV.o 0]) (ls.map lV) []) = some (.next (jL ((ls.map lV ++ [OV.o 0]).length:Nat) ((ls.map lV ++ [OV.o 0]).length:Nat) none),jS (ls.map lV ++ [OV.o 0]) (ls.map lV) []):=by
    rw [← hq]
    generalize ((ls.map lV).length:Int) = p
    kernel_rfl
  have hbody:oxSs (libO (F + 1) (L + 1)) (exO (F + 1) (libO (F + 1) (L + 1))) (F + 1) o_w13_1 (jL (ls.map lV).length ((ls.map lV ++ [OV.o 0]).length:Nat) none) (jS (ls.map lV ++ [OV.o 0]) (ls.map lV) []) = some (.brk (jL ((ls.map lV ++ [OV.o 0]).length:Nat) ((ls.map lV ++ [OV.o 0]).length:Nat) none),jS (ls.map lV ++ [OV.o 0]) ((ls ++ [[46,42]]).map lV) []):=by
    rw [List.map_append]
    exact oxSs_next (oxS_asrt (ovT_of (ov_cmp (v:=.o 0) (w:=.o 0) (j_idx (hin.2 _ _)) rfl rfl))) (oxSs_next haug (oxSs_ifBrk (j_eq (beq_self_eq_true _)) (oxSs_next (oxS_app (m:=4) (j:=3) (v:=lV [46,42]) rfl rfl rfl (j_push hqs)) rfl)))
  have htl:=t13_tail (F:=F + 1) (L:=L) (ps:=ls.map lV ++ [OV.o 0]) (z:=[]) (x:=none) (ls:=ls ++ [[46,42]]) (n:=((ls.map lV ++ [OV.o 0]).length:Nat)) (by rw [List.flatten_append,List.length_append]; exact Nat.le_trans (Nat.add_le_add_right hb 2) (by decide))
  have hw:oxS (libO (F + 1) (L + 1)) (exO (F + 1) (libO (F + 1) (L + 1))) (F + 1) (.while_ o_c13_1 o_w13_1) (jL (ls.map lV).length ((ls.map lV ++ [OV.o 0]).length:Nat) none) (jS (ls.map lV ++ [OV.o 0]) (ls.map lV) []) = some (.next (jL ((ls.map lV ++ [OV.o 0]).length:Nat) ((ls.map lV ++ [OV.o 0]).length:Nat) none),jS (ls.map lV ++ [OV.o 0]) ((ls ++ [[46,42]]).map lV) []):=whileO_t (n:=F) (ovT_of (j_lt hin.1)) hbody
  have hK:retO (t13K (F + 1) L (.next (jL (ls.map lV).length ((ls.map lV ++ [OV.o 0]).length:Nat) none),jS (ls.map lV ++ [OV.o 0]) (ls.map lV) [])) = some (lV ([40,63,115,58] ++ (ls ++ [[46,42]]).flatten ++ [41,92,90]),jS (ls.map lV ++ [OV.o 0]) ((ls ++ [[46,42]]).map lV) []) :=
    (congrArg retO (oxSs_next hw rfl)).trans htl
  have hall:=t13_head.trans ((congrArg (fun o=>retO (Option.bind o (t13K (F + 1) L))) ((congrArg (fun k=>whileO (ovT (libO (F + 1) (L + 1)) (exO (F + 1) (libO (F + 1) (L + 1))) o_c13_2) (oxSs (libO (F + 1) (L + 1)) (exO (F + 1) (libO (F + 1) (L + 1))) (F + 1) o_w13_2) k (jL 0 ((ls.map lV ++ [OV.o 0]).length:Nat) none) (jS (ls.map lV ++ [OV.o 0]) [] [])) hm).trans w2)).trans hK)
  rw [hall,List.flatten_append]; rfl
theorem j_end {cl:OCl} {ex:Nat→LO→St→Option (OV × St)} {k:Int} {qs:List OV}:ovT cl ex o_c13_1 (jL k k x) (jS ps qs z) = some (false,jS ps qs z):=(show _ = some (decide (k < k),jS ps qs z) by kernel_rfl).trans (by rw [decide_eq_false (Int.lt_irrefl _)])
theorem j_aug {cl:OCl} {ex:Nat→LO→St→Option (OV × St)} {f:Nat} {i k n:Int} {qs:List OV} (h:i + 1 = k):oxS cl ex f (.aug 4 .Add (.lit (.int 1))) (jL i n x) (jS ps qs z) = some (.next (jL k n x),jS ps qs z):=by
  subst h; kernel_rfl
theorem t13_back {l0:List Nat} (hl:ls.length ≤ 900) (hb:(l0 :: ls).flatten.length ≤ 70000) (hF:1000 ≤ F):(libO (F + 1) (L + 2) 13 [.o 1,.o 0] (trS (.o 0 :: (l0 :: ls).map lV))).map (·.1) = some (lV ([40,63,115,58] ++ ([46,42] ++ (l0 :: ls).flatten) ++ [41,92,90])):=by
  obtain ⟨m,hm⟩:∃ m,F + 1 = m + 1 + ((l0 :: ls).map lV).length:=⟨F - (ls.length + 1),by rw [List.length_map,List.length_cons,Nat.add_right_comm,Nat.sub_add_cancel (Nat.le_trans (Nat.succ_le_succ hl) (Nat.le_trans (by decide) hF))]⟩
  have hps:(OV.o 0 :: (l0 :: ls).map lV).length ≤ 2000:=by rw [List.length_cons,List.length_map,List.length_cons]; exact Nat.le_trans (Nat.add_le_add_right hl 2) (by decide)
  have hqs:((l0 :: ls).map lV).length ≤ 1000:=by rw [List.length_map,List.length_cons]; exact Nat.le_trans (Nat.succ_le_succ hl) (by decide)
  have in0:=j_in (ps:=OV.o 0 :: (l0 :: ls).map lV) (B:=[]) (R':=(l0 :: ls).map lV) rfl hps
  have in1:=j_in (ps:=OV.o 0 :: (l0 :: ls).map lV) (B:=[.o 0]) (v:=lV l0) (R':=ls.map lV) rfl hps
  have w2:=(j_w2 (cl:=libO (F + 1) (L + 1)) (ex:=exO (F + 1) (libO (F + 1) (L + 1))) (f:=F + 1) (m:=m + 1) (A:=[.o 0]) (R:=[]) (qs:=[]) (fs:=[]) hps (by rw [List.append_nil]; rfl) (st_all (ls:=l0 :: ls)) (by rw [List.length_nil,Nat.zero_add]; exact hqs)).trans (whileO_f j_over)
  have hn:((([OV.o 0]:List OV).length:Nat):Int) ≠ ((OV.o 0 :: (l0 :: ls).map lV).length:Nat):=fun h=>by have:=Int.ofNat.inj h; rw [List.length_cons (as:=(l0 :: ls).map lV),List.map_cons,List.length_cons] at this; exact Nat.succ_ne_zero _ (Nat.succ.inj this).symm
  have hbody:oxSs (libO (F + 1) (L + 1)) (exO (F + 1) (libO (F + 1) (L + 1))) (F + 1) o_w13_1 (jL 0 ((OV.o 0 :: (l0 :: ls).map lV).length:Nat) none) (jS (.o 0 :: (l0 :: ls).map lV) [] []) = some (.next (jL ((OV.o 0 :: (l0 :: ls).map lV).length:Nat) ((OV.o 0 :: (l0 :: ls).map lV).length:Nat) (some (lV (l0 :: ls).flatten))),jS (.o 0 :: (l0 :: ls).map lV) ([[46,42],(l0 :: ls).flatten].map lV) [.list ((l0 :: ls).map lV)]):=by
    refine oxSs_next (oxS_asrt (ovT_of (ov_cmp (v:=.o 0) (w:=.o 0) (j_idx (in0.2 _ _)) rfl rfl))) (oxSs_next (j_aug (k:=((([OV.o 0]:List OV).length:Nat):Int)) rfl) (oxSs_ifF (j_eq (beq_false_of_ne hn)) rfl ?_))
    refine oxSs_next (oxS_asrt (ovT_of (ov_cmp (v:=lV l0) (w:=.o 0) (j_idx (in1.2 _ _)) rfl rfl))) (oxSs_next (ρ':=jL ((([OV.o 0]:List OV).length:Nat):Int) ((OV.o 0 :: (l0 :: ls).map lV).length:Nat) (some (.o 5))) (st':=jS (.o 0 :: (l0 :: ls).map lV) [] [.list []]) rfl ?_)
    refine oxSs_next (show oxS (libO (F + 1) (L + 1)) (exO (F + 1) (libO (F + 1) (L + 1))) (F + 1) (.while_ o_c13_0 o_w13_0) (jL ((([OV.o 0]:List OV).length:Nat):Int) ((OV.o 0 :: (l0 :: ls).map lV).length:Nat) (some (.o 5))) (jS (.o 0 :: (l0 :: ls).map lV) [] [.list []]) = some (.next (jL ((OV.o 0 :: (l0 :: ls).map lV).length:Nat) ((OV.o 0 :: (l0 :: ls).map lV).length:Nat) (some (.o 5))),jS (.o 0 :: (l0 :: ls).map lV) [] [.list ((l0 :: ls).map lV)]) from (congrArg (fun k=>whileO (ovT (libO (F + 1) (L + 1)) (exO (F + 1) (libO (F + 1) (L + 1))) o_c13_0) (oxSs (libO (F + 1) (L + 1)) (exO (F + 1) (libO (F + 1) (L + 1))) (F + 1) o_w13_0) k (jL ((([OV.o 0]:List OV).length:Nat):Int) ((OV.o 0 :: (l0 :: ls).map lV).length:Nat) (some (.o 5))) (jS (.o 0 :: (l0 :: ls).map lV) [] [.list []])) hm).trans w2) ?_
    refine oxSs_next (oxS_asg (v:=lV (l0 :: ls).flatten) (st':=jS (.o 0 :: (l0 :: ls).map lV) [] [.list ((l0 :: ls).map lV)]) (congrArg (Option.map fun v=>(v,jS (.o 0 :: (l0 :: ls).map lV) [] [.list ((l0 :: ls).map lV)])) (joinO_flat (st:=jS (.o 0 :: (l0 :: ls).map lV) [] [.list ((l0 :: ls).map lV)]) (k:=5) rfl (Nat.le_trans hb (by decide))))) ?_
    exact oxSs_ifT (j_eq (x:=some (lV (l0 :: ls).flatten)) (beq_self_eq_true _)) (oxSs_next (oxS_app (m:=4) (j:=3) (v:=lV [46,42]) rfl rfl rfl (j_push (Nat.zero_le _))) (oxSs_next (oxS_app (m:=4) (j:=3) (v:=lV (l0 :: ls).flatten) rfl rfl rfl (j_push (Nat.le_of_ble_eq_true rfl))) rfl)) rfl
  have htl:=t13_tail (F:=F + 1) (L:=L) (ps:=.o 0 :: (l0 :: ls).map lV) (z:=[.list ((l0 :: ls).map lV)]) (x:=some (lV (l0 :: ls).flatten)) (ls:=[[46,42],(l0 :: ls).flatten]) (n:=((OV.o 0 :: (l0 :: ls).map lV).length:Nat)) (by rw [List.flatten_cons,List.flatten_singleton,List.length_append]; exact Nat.le_trans (Nat.add_le_add_left hb 2) (by decide))
  obtain ⟨F',rfl⟩:∃ F',F = F' + 1:=⟨F - 1,(Nat.sub_add_cancel (Nat.le_trans (by decide) hF)).symm⟩
  have hw:oxS (libO (F' + 1 + 1) (L + 1)) (exO (F' + 1 + 1) (libO (F' + 1 + 1) (L + 1))) (F' + 1 + 1) (.while_ o_c13_1 o_w13_1) (jL 0 ((OV.o 0 :: (l0 :: ls).map lV).length:Nat) none) (jS (.o 0 :: (l0 :: ls).map lV) [] []) = some (.next (jL ((OV.o 0 :: (l0 :: ls).map lV).length:Nat) ((OV.o 0 :: (l0 :: ls).map lV).length:Nat) (some (lV (l0 :: ls).flatten))),jS (.o 0 :: (l0 :: ls).map lV) ([[46,42],(l0 :: ls).flatten].map lV) [.list ((l0 :: ls).map lV)]) :=
    (whileO_t (n:=F' + 1) (ovT_of (j_lt in0.1)) hbody).trans (whileO_f j_end)
  have hK:retO (t13K (F' + 1 + 1) L (.next (jL 0 ((OV.o 0 :: (l0 :: ls).map lV).length:Nat) none),jS (.o 0 :: (l0 :: ls).map lV) [] [])) = some (lV ([40,63,115,58] ++ [[46,42],(l0 :: ls).flatten].flatten ++ [41,92,90]),jS (.o 0 :: (l0 :: ls).map lV) ([[46,42],(l0 :: ls).flatten].map lV) [.list ((l0 :: ls).map lV)]) :=
    (congrArg retO (oxSs_next hw rfl)).trans htl
  have hall:=t13_head.trans ((congrArg (fun o=>retO (Option.bind o (t13K (F' + 1 + 1) L))) (whileO_f (j_f in0.1 (in0.2 _ _)))).trans hK)
  rw [hall,List.flatten_cons,List.flatten_singleton]; rfl
theorem t14 {d:PyData} {s:Str} (h12:libO F (L + 2) 12 [.d (.str s),.o 0,.d (.str ".")] [.plain] = some (.o 1,trS ps)) (h13:(libO F (L + 2) 13 [.o 1,.o 0] (trS ps)).map (·.1) = some (.d d)):∃ st,libO F (L + 3) 14 [.d (.str s)] [] = some (.d d,st):=by
  obtain ⟨⟨v,st⟩,h,e⟩:=Option.map_eq_some_iff.mp h13
  have e:v = .d d:=e
  subst e
  refine ⟨st,(show _ = retO (oxSs (libO F (L + 2)) (exO F (libO F (L + 2))) F o_fn14.body [some (.d (.str s)),none,none] []) by kernel_rfl).trans (congrArg retO (oxSs_next (ρ':=[some (.d (.str s)),some (.o 0),none]) (st':=[.plain]) (by kernel_rfl) (oxSs_next (oxS_asg (v:=.o 1) (st':=trS ps) ?_) (oxS_ret (v:=.d d) (st':=st) ?_))))⟩
  · exact (show _ = libO F (L + 2) 12 [.d (.str s),.o 0,.d (.str ".")] [.plain] by kernel_rfl).trans h12
  · exact (show _ = libO F (L + 2) 13 [.o 1,.o 0] (trS ps) by kernel_rfl).trans h
theorem pcV_map {cs:List Nat}:cs.map pcV = (cs.map pl).map lV:=by rw [List.map_map]; exact List.map_congr_left fun c _=>pcV_eq c
theorem pl_len (cs:List Nat):(cs.map pl).flatten.length ≤ 5 * cs.length:=by
  induction cs with
  | nil=>exact Nat.le_refl _
  | cons c cs ih =>
    rw [List.map_cons,List.flatten_cons,List.length_append,List.length_cons,Nat.mul_succ,Nat.add_comm]
    refine Nat.add_le_add ih ?_
    unfold pl
    cases badC c <;> cases c == 91 <;> cases specC c <;> exact Nat.le_of_ble_eq_true rfl
noncomputable def reT (l:List Nat):PyData:=.str ⟨([40,63,115,58] ++ l ++ [41,92,90]).toArray⟩
theorem trans_of {s:Str} {l:List Nat} (hok:okD (reT l) = true) (h:∃ st,libO F 6 14 [.d (.str s)] [] = some (.d (reT l),st)):transP F s = some (reT l):=by
  obtain ⟨st,h⟩:=h
  unfold transP
  rw [h]
  exact if_pos (congrArg _ hok)
theorem trans_front {cs:List Nat} (hne:cs ≠ []) (hl:cs.length ≤ 900) (hb:(cs.flatMap pc ++ [42]).length < 80000) (hF:1000 ≤ F) (hok:okD (reT ((cs.map pl).flatten ++ [46,42])) = true):transP (F + 2) ⟨(cs.flatMap pc ++ [42]).toArray⟩ = some (reT ((cs.map pl).flatten ++ [46,42])) :=
  trans_of hok (t14 (L:=3) (pcV_map ▸ t12_front hne hl hb hF) (t13_front (F:=F + 1) (L:=3) (ls:=cs.map pl) (by rw [List.length_map]; exact hl) (Nat.le_trans (pl_len cs) (Nat.le_trans (Nat.mul_le_mul_left 5 hl) (by decide))) (Nat.le_succ_of_le hF)))
theorem trans_back {c:Nat} {cs:List Nat} (hl:(c :: cs).length ≤ 900) (hb:(42 :: (c :: cs).flatMap pc).length < 80000) (hF:1000 ≤ F) (hok:okD (reT ([46,42] ++ ((c :: cs).map pl).flatten)) = true):transP (F + 2) ⟨(42 :: (c :: cs).flatMap pc).toArray⟩ = some (reT ([46,42] ++ ((c :: cs).map pl).flatten)) :=
  trans_of hok (t14 (L:=3) ((t12_back hl hb hF).trans (congrArg (fun l=>some (OV.o 1,trS (.o 0 :: l))) pcV_map)) (t13_back (F:=F + 1) (L:=3) (l0:=pl c) (ls:=cs.map pl) (by rw [List.length_map]; exact Nat.le_of_succ_le hl) (Nat.le_trans (pl_len (c :: cs)) (Nat.le_trans (Nat.mul_le_mul_left 5 hl) (by decide))) (Nat.le_succ_of_le hF)))
end
end Kt
end
section
open PySem PySem.W PyProof.Rows
namespace Kt
noncomputable abbrev rowD (cs:List Nat):PyData:=.list (cs.map wD)
theorem eqv_wD (a b:Nat):PyData.eqv (wD a) (wD b) = (a == b):=by
  show ((⟨#[a]⟩:Str) == ⟨#[b]⟩) = _
  by_cases h:a = b
  · subst h; simp
  · rw [beq_eq_false_iff_ne.mpr h,beq_eq_false_iff_ne.mpr]
    intro e; injection e with e; injection e with e; injection e with e _; exact h e
theorem eqvAll_words:∀ (a b:List Nat),PyData.eqvAll (a.map wD) (b.map wD) = (a == b)
  | [],[]=>by simp [PyData.eqvAll]
  | [],_ :: _=>by simp [PyData.eqvAll]
  | _ :: _,[]=>by simp [PyData.eqvAll]
  | a :: as,b :: bs=>by
    rw [List.map_cons,List.map_cons,PyData.eqvAll,eqv_wD,eqvAll_words]
    simp
theorem eqv_rows (a b:List Nat):PyData.eqv (rowD a) (rowD b) = (a == b):=by rw [rowD,rowD,PyData.eqv,eqvAll_words]
theorem depth_words:∀ (a:List Nat),PyData.depthAll (a.map wD) = 0
  | []=>by simp [PyData.depthAll]
  | a :: as=>by rw [List.map_cons,PyData.depthAll,depth_words]; simp [wD,PyData.depth]
theorem depth_row (a:List Nat):(rowD a).depth = 1:=by rw [rowD,PyData.depth,depth_words]
theorem eqOk_row (a:List Nat) (d:PyData):eqOk (rowD a) d = true:=by unfold eqOk; rw [depth_row]; simp; omega
theorem eqOk_wD (a:Nat) (d:PyData):eqOk (wD a) d = true:=by unfold eqOk; simp [wD,PyData.depth]
theorem eq_rows (a b:List Nat):cmpD .Eq (rowD a) (rowD b) = some (.bool (a == b)):=by
  show (if eqOk (rowD a) (rowD b) = true then some (PyData.bool (PyData.eqv (rowD a) (rowD b))) else none) = _
  rw [eqOk_row,eqv_rows]; rfl
theorem ne_rows (a b:List Nat):cmpD .NotEq (rowD a) (rowD b) = some (.bool (!(a == b))):=by
  show (if eqOk (rowD a) (rowD b) = true then some (PyData.bool (!PyData.eqv (rowD a) (rowD b))) else none) = _
  rw [eqOk_row,eqv_rows]; rfl
theorem any_words (x:Nat):∀ (a:List Nat),((a.map wD).any fun y=>PyData.eqv y (wD x)) = a.contains x
  | []=>rfl
  | a :: as=>by
    rw [List.map_cons,List.any_cons,any_words,eqv_wD,List.contains_cons]
    rw [show (a == x) = (x == a) from by rw [Bool.eq_iff_iff,beq_iff_eq,beq_iff_eq,eq_comm]]
theorem in_row (x:Nat) (a:List Nat):cmpD .In (wD x) (rowD a) = some (.bool (a.contains x)):=by
  show (if eqOk (wD x) (rowD a) = true then some (PyData.bool ((a.map wD).any fun y=>PyData.eqv y (wD x))) else none) = _
  rw [eqOk_wD,any_words]; rfl
theorem notIn_row (x:Nat) (a:List Nat):cmpD .NotIn (wD x) (rowD a) = some (.bool (!a.contains x)):=by
  show (if eqOk (wD x) (rowD a) = true then some (PyData.bool (!(a.map wD).any fun y=>PyData.eqv y (wD x))) else none) = _
  rw [eqOk_wD,any_words]; rfl
theorem cut_map {α β:Type} (f:α→β) (l:List α) (lo hi:Option Int):cut (l.map f) lo hi = (cut l lo hi).map f:=by
  unfold cut
  simp only [List.length_map,List.map_drop,List.map_take]
theorem take_min {α:Type} (l:List α) (n:Nat):l.take (min n l.length) = l.take n:=by
  rcases Nat.le_total n l.length with h | h
  · rw [Nat.min_eq_left h]
  · rw [Nat.min_eq_right h,List.take_length,List.take_of_length_le h]
theorem drop_min {α:Type} (l:List α) (k n:Nat) (h:l.length ≤ n):l.drop (min k n) = l.drop k:=by
  rcases Nat.le_total k n with h' | h'
  · rw [Nat.min_eq_left h']
  · rw [Nat.min_eq_right h',List.drop_of_length_le h,List.drop_of_length_le (Nat.le_trans h h')]
theorem clamp_nat (k n:Nat):clampI (k:Int) n = min k n:=by
  unfold clampI
  rw [if_neg (by omega)]
  simp
theorem cut_nn {α:Type} (l:List α) (a b:Nat):cut l (some (a:Int)) (some (b:Int)) = (l.take b).drop a:=by
  unfold cut
  dsimp only
  rw [clamp_nat,clamp_nat,take_min,drop_min _ _ _ (by simp only [List.length_take]; omega)]
theorem cut_xn {α:Type} (l:List α) (b:Nat):cut l none (some (b:Int)) = l.take b:=by
  unfold cut
  dsimp only
  rw [clamp_nat,take_min,List.drop_zero]
theorem cut_nx {α:Type} (l:List α) (a:Nat):cut l (some (a:Int)) none = l.drop a:=by
  unfold cut
  dsimp only
  rw [clamp_nat,List.take_length,drop_min _ _ _ (Nat.le_refl _)]
theorem cut_last {α:Type} (l:List α) (h:1 ≤ l.length):cut l (some (-1)) none = l.drop (l.length - 1):=by
  unfold cut
  dsimp only
  rw [List.take_length]
  unfold clampI
  rw [if_pos (by decide)]
  congr 1
  omega
noncomputable def ddN:List Nat→List Nat→List Nat
  | [],acc=>acc
  | x :: xs,acc=>ddN xs (if acc.contains x then acc else acc ++ [x])
theorem dedupD_words:∀ (xs acc:List Nat),dedupD (xs.map wD) (acc.map wD) = (ddN xs acc).map wD
  | [],_=>rfl
  | x :: xs,acc=>by
    rw [List.map_cons,dedupD,any_words,ddN]
    split
    · exact dedupD_words xs acc
    · rw [← dedupD_words xs (acc ++ [x]),List.map_append]; rfl
theorem dd_nodup:∀ (xs acc:List Nat),acc.Nodup→(ddN xs acc).Nodup
  | [],_,h=>h
  | x :: xs,acc,h=>by
    rw [ddN]
    split
    · exact dd_nodup xs acc h
    · rename_i hc
      refine dd_nodup xs _ ?_
      rw [List.nodup_append]
      exact ⟨h,by simp,fun a ha b hb e=>hc (by rw [List.mem_singleton] at hb; subst hb; subst e; simpa using ha)⟩
theorem dd_mem:∀ (xs acc:List Nat) (y:Nat),y ∈ ddN xs acc ↔ y ∈ acc ∨ y ∈ xs
  | [],acc,y=>by simp [ddN]
  | x :: xs,acc,y=>by
    rw [ddN]
    split
    · rename_i hc
      rw [dd_mem xs acc y,List.mem_cons]
      have hx:x ∈ acc:=by simpa using hc
      constructor
      · rintro (h | h)
        · exact .inl h
        · exact .inr (.inr h)
      · rintro (h | rfl | h)
        · exact .inl h
        · exact .inl hx
        · exact .inr h
    · rw [dd_mem xs _ y,List.mem_append,List.mem_singleton,List.mem_cons,or_assoc]
theorem dd_len:∀ (xs acc:List Nat),(ddN xs acc).length ≤ acc.length + xs.length
  | [],acc=>by simp [ddN]
  | x :: xs,acc=>by
    rw [ddN]
    split
    · have:=dd_len xs acc; simp; omega
    · have:=dd_len xs (acc ++ [x]); simp at this ⊢; omega
theorem removeD_word (x:Nat):∀ (l:List Nat),removeD (l.map wD) (wD x) = if l.contains x then some ((l.erase x).map wD) else none
  | []=>rfl
  | y :: l=>by
    rw [List.map_cons,removeD,eqv_wD,removeD_word x l]
    by_cases h:y = x
    · subst h; simp
    · rw [beq_eq_false_iff_ne.mpr h]
      have h':(x == y) = false:=beq_eq_false_iff_ne.mpr (Ne.symm h)
      rw [List.contains_cons,h',Bool.false_or,List.erase_cons,beq_eq_false_iff_ne.mpr h]
      simp only [Bool.false_eq_true,if_false]
      split <;> rfl
theorem removesD_words:∀ (xs ts:List Nat),xs.Nodup→ts.Nodup→removesD (xs.map wD) (ts.map wD) = if xs.all ts.contains then some ((ts.filter fun t=>!xs.contains t).map wD) else none
  | [],ts,_,_=>by
    have:ts.filter (fun _=>true) = ts:=List.filter_eq_self.mpr fun _ _=>rfl
    simp [removesD,this]
  | x :: xs,ts,hx,ht=>by
    rw [List.map_cons,removesD,removeD_word]
    rw [List.nodup_cons] at hx
    by_cases h:ts.contains x = true
    · rw [if_pos h,Option.bind_some,removesD_words xs _ hx.2 (ht.erase x),List.all_cons,h,Bool.true_and]
      have e1:xs.all (ts.erase x).contains = xs.all ts.contains:=by
        rw [Bool.eq_iff_iff,List.all_eq_true,List.all_eq_true]
        refine forall_congr' fun y=>forall_congr' fun hy=>?_
        have hne:y ≠ x:=fun e=>hx.1 (e ▸ hy)
        simp [ht.mem_erase_iff,hne]
      have e2:(ts.erase x).filter (fun t=>!xs.contains t) = ts.filter fun t=>!(x :: xs).contains t:=by
        rw [ht.erase_eq_filter,List.filter_filter]
        congr 1
        funext t
        rw [List.contains_cons]
        by_cases e:t = x
        · subst e; simp
        · simp [bne,Bool.and_comm]
      rw [e1,e2]
    · rw [if_neg h,Option.bind_none,List.all_cons,Bool.eq_false_iff.mpr h,Bool.false_and,if_neg (by decide)]
noncomputable def sameN (xs ys:List Nat):Bool:=xs.all ys.contains && ys.all xs.contains
theorem cmpRes_words {xs ys:List Nat} (hx:xs.Nodup) (hy:ys.Nodup):cmpRes (xs.map wD) (ys.map wD) = sameN xs ys:=by
  unfold cmpRes sameN
  rw [removesD_words xs ys hx hy]
  by_cases h:xs.all ys.contains = true
  · rw [if_pos h,h,Bool.true_and]
    dsimp only
    rw [Bool.eq_iff_iff,List.isEmpty_iff,List.map_eq_nil_iff,List.filter_eq_nil_iff,List.all_eq_true]
    simp
  · rw [if_neg h,Bool.eq_false_iff.mpr h,Bool.false_and]
theorem sameN_dd (xs ys:List Nat):sameN (ddN xs []) (ddN ys []) = sameN xs ys:=by
  unfold sameN
  rw [Bool.eq_iff_iff]
  simp [dd_mem]
end Kt
end
section
open PySem PySem.W PyProof.Rows
namespace Kt
theorem wD_flat (c:Nat):flat (wD c) = true:=rfl
theorem some_join {α:Type} (a:Option α):(some a).join = a:=rfl
theorem mkL_ok {xs:List PyData} (h:xs.length ≤ 1000000):mkL xs = some (.list xs):=by
  unfold mkL
  rw [if_pos (Nat.le_trans h (by decide))]
section
variable {tab:Nat→Option PF} {prim:Nat→List PyData→Option PyData} {F l:Nat} {cl:Nat→List PyData→Option PyData}
theorem xs_next {s:PS} {ss:PSs} {σ σ':PSt} (h:exS cl F s σ = some (.next σ')):exSs cl F (.cons s ss) σ = exSs cl F ss σ':=congrArg (Option.bind · _) h
theorem xs_ret {s:PS} {ss:PSs} {σ:PSt} {d:PyData} (h:exS cl F s σ = some (.ret d)):exSs cl F (.cons s ss) σ = some (.ret d):=congrArg (Option.bind · _) h
theorem xs_one {s:PS} {σ σ':PSt} (h:exS cl F s σ = some (.next σ')):exSs cl F (.cons s .nil) σ = some (.next σ'):=congrArg (Option.bind · _) h
theorem xs_if {c:PE} {a b:PSs} {σ:PSt} {d:PyData} {t:Bool} (h:evE cl c σ.env = some d) (ht:truthD d = some t):exS cl F (.ife c a b) σ = if t then exSs cl F a σ else exSs cl F b σ:=(congrArg (Option.bind · _) h).trans (congrArg (Option.bind · _) ht)
theorem xs_yes {c:PE} {a b:PSs} {σ:PSt} {d:PyData} (h:evE cl c σ.env = some d) (ht:truthD d = some true):exS cl F (.ife c a b) σ = exSs cl F a σ:=xs_if h ht
theorem xs_no {c:PE} {a b:PSs} {σ:PSt} {d:PyData} (h:evE cl c σ.env = some d) (ht:truthD d = some false):exS cl F (.ife c a b) σ = exSs cl F b σ:=xs_if h ht
theorem xs_asg {x:Nat} {e:PE} {σ:PSt} {d:PyData} (h:evE cl e σ.env = some d):exS cl F (.assign x e) σ = some (.next (asg σ x d (afterE σ.own d e) (isNew e))):=congrArg (Option.map _) h
theorem xs_asg2 {x y:Nat} {a b:PE} {σ:PSt} {d d':PyData} (h1:evE cl a σ.env = some d) (h2:evE cl b σ.env = some d'):exS cl F (.assign2 x y a b) σ = some (.next (asg (asg σ x d (afterE (afterE σ.own d a) d' b) (isNew a)) y d' (asg σ x d (afterE (afterE σ.own d a) d' b) (isNew a)).own (isNew b))) :=
  (show _ = Option.bind (evE cl a σ.env) fun d=>(evE cl b σ.env).map fun d'=>Fl.next (asg (asg σ x d (afterE (afterE σ.own d a) d' b) (isNew a)) y d' (asg σ x d (afterE (afterE σ.own d a) d' b) (isNew a)).own (isNew b)) from rfl).trans (by rw [h1,h2]; rfl)
theorem xs_rt {e:PE} {ss:PSs} {σ:PSt} {d:PyData} (h:evE cl e σ.env = some d):exSs cl F (.cons (.ret e) ss) σ = some (.ret d):=xs_ret (congrArg (Option.map _) h)
theorem xs_app {x:Nat} {e:PE} {σ:PSt} {xs:List PyData} {d:PyData} (ho:σ.own.contains x = true) (hx:lookV σ.env x = some (.list xs)) (h:evE cl e σ.env = some d) (hg:(!flat d && (esc e).contains x) = false) (hl:xs.length + 1 ≤ 1000000) :
    exS cl F (.app x e) σ = some (.next { env:=σ.env.set x (some (.list (xs ++ [d]))),own:=afterE σ.own d e }):=by
  have h0:exS cl F (.app x e) σ = if σ.own.contains x then (Option.bind (lookV σ.env x) fun q=>dList q fun xs=>(evE cl e σ.env).bind fun d=>if !flat d && (esc e).contains x then none else (mkL (xs ++ [d])).map fun l=>.next { env:=σ.env.set x (some l),own:=afterE σ.own d e }) else none:=rfl
  rw [h0,if_pos ho,hx]
  show Option.bind (evE cl e σ.env) _ = _
  rw [h]
  show (if (!flat d && (esc e).contains x) = true then _ else _) = _
  rw [hg,mkL_ok (by rw [List.length_append]; exact hl)]
  rfl
theorem xs_for {t:Tg} {i:PI} {b:PSs} {σ:PSt} {ds:List PyData} (h:evI cl i σ.env = some ds):exS cl F (.for_ t i b) σ = forLoopP (exSs cl F b) (fun d τ=>(bindT t d τ.env).map fun ρ=>{ env:=ρ,own:=lose τ.own (tgVars t) }) ds { σ with own:=lose σ.own (escPI i) }:=congrArg (Option.bind · _) h
theorem fl_cons {body:PSt→Option Fl} {bind:PyData→PSt→Option PSt} {d:PyData} {ds:List PyData} {σ σ₁ σ₂:PSt} (h1:bind d σ = some σ₁) (h2:body σ₁ = some (.next σ₂)):forLoopP body bind (d :: ds) σ = forLoopP body bind ds σ₂:=(congrArg (Option.bind · _) h1).trans (congrArg (Option.bind · _) h2)
theorem wl_step {test:PSt→Option Bool} {body:PSt→Option Fl} {n:Nat} {σ σ':PSt} (h1:test σ = some true) (h2:body σ = some (.next σ')):whileLoopP test body (n + 1) σ = whileLoopP test body n σ':=(congrArg (Option.bind · _) h1).trans (congrArg (Option.bind · _) h2)
theorem wl_end {test:PSt→Option Bool} {body:PSt→Option Fl} {n:Nat} {σ:PSt} (h1:test σ = some false):whileLoopP test body (n + 1) σ = some (.next σ):=congrArg (Option.bind · _) h1
theorem run_of {f:Nat} {pf:PF} {args:List PyData} {d:PyData} (ht:tab f = some pf) (ha:args.length = pf.arity) (h:exSs (runF tab prim F l) F pf.body ⟨initEnv pf.size args,[]⟩ = some (.ret d)):runF tab prim F (l + 1) f args = some d:=by
  rw [runF,ht]
  dsimp only
  rw [if_pos ha,h]
theorem run_prim {f:Nat} {args:List PyData} (ht:tab f = none):runF tab prim F (l + 1) f args = prim f args:=by rw [runF,ht]
theorem ded_loop {a:Option PyData}:∀ (xs acc:List Nat) (t:Option PyData),acc.length + xs.length ≤ 1000 →
    ∃ t',forLoopP (exSs cl F (.cons (.ife (.cmp .NotIn (.var 2) (.var 1)) (.cons (.app 1 (.var 2)) .nil) .nil) .nil)) (fun d τ=>(bindT (.one 2) d τ.env).map fun ρ=>{ env:=ρ,own:=lose τ.own (tgVars (.one 2)) }) (xs.map wD) ⟨[a,some (rowD acc),t],[1]⟩ =
      some (.next ⟨[a,some (rowD (ddN xs acc)),t'],[1]⟩)
  | [],acc,t,_=>⟨t,rfl⟩
  | x :: xs,acc,t,h=>by
    rw [List.length_cons] at h
    have e:evE cl (.cmp .NotIn (.var 2) (.var 1)) [a,some (rowD acc),some (wD x)] = some (.bool (!acc.contains x)):=notIn_row x acc
    have step:exSs cl F (.cons (.ife (.cmp .NotIn (.var 2) (.var 1)) (.cons (.app 1 (.var 2)) .nil) .nil) .nil) ⟨[a,some (rowD acc),some (wD x)],[1]⟩ = some (.next ⟨[a,some (rowD (if acc.contains x then acc else acc ++ [x])),some (wD x)],[1]⟩):=by
      refine xs_one ?_
      rw [xs_if (F:=F) (a:=.cons (.app 1 (.var 2)) .nil) (b:=.nil) (σ:=⟨[a,some (rowD acc),some (wD x)],[1]⟩) e rfl]
      by_cases hc:acc.contains x = true
      · rw [hc]; rfl
      · rw [Bool.eq_false_iff.mpr hc]
        refine xs_one ?_
        rw [xs_app (xs:=acc.map wD) (d:=wD x) (by rfl) (by rfl) (by rfl) (by rfl) (by simp; omega)]
        simp [rowD,wD,afterE,flat]
    obtain ⟨t',ih⟩:=ded_loop (a:=a) xs (if acc.contains x then acc else acc ++ [x]) (some (wD x)) (by split <;> (try rw [List.length_append,List.length_singleton]) <;> omega)
    refine ⟨t',?_⟩
    rw [List.map_cons,fl_cons (σ₁:=⟨[a,some (rowD acc),some (wD x)],[1]⟩) (by rfl) step]
    exact ih
theorem ded_run {d:Nat} (ht:tab d = some pa7) (xs:List Nat) (hl:xs.length ≤ 1000):runF tab prim F (l + 1) d [rowD xs] = some (rowD (ddN xs [])):=by
  obtain ⟨t',h⟩:=ded_loop (cl:=runF tab prim F l) (F:=F) (a:=some (rowD xs)) xs [] none (by simpa using hl)
  refine run_of ht rfl ?_
  refine (xs_next (xs_asg (d:=rowD []) rfl)).trans ?_
  exact (xs_next ((xs_for (i:=ia7_0) (ds:=xs.map wD) rfl).trans h)).trans (xs_rt rfl)
end
theorem okD_cps {l:List Nat} (h:l.all (fun c=>decide (c < 0x110000)) = true) (hl:l.length ≤ 1000000):okD (.str ⟨l.toArray⟩) = true :=
  Bool.and_eq_true_iff.mpr ⟨(List.all_toArray (p:=fun c=>decide (c < 0x110000))).trans h,decide_eq_true (Nat.le_trans hl (by decide))⟩
noncomputable def sgL (c:Nat):Bool:=sgnC c && decide (c < 55296)
theorem sgL_ok {c:Nat} (h:sgL c = true):sgnC c = true ∧ c < 0x110000:=⟨(andT h).1,Nat.lt_trans (of_decide_eq_true (andT h).2) (by decide)⟩
theorem wD_ok {c:Nat} (h:sgL c = true):okD (wD c) = true:=okD_cps (l:=[c]) ((Bool.and_true _).trans (decide_eq_true (sgL_ok h).2)) (Nat.le_of_ble_eq_true rfl)
theorem strsOf_words (cs:List Nat):strsOf (cs.map wD) = some cs:=by
  induction cs with
  | nil=>rfl
  | cons c cs ih=>exact congrArg (Option.map _) ih
theorem joinP_of {cs:List Nat} (h:∀ c ∈ cs,sgL c = true) (hl:cs.length ≤ 900):joinP (cs.map wD) = some (.str (Str.join " " (cs.map qS))):=by
  unfold joinP
  rw [strsOf_words]
  exact if_pos (Bool.and_eq_true_iff.mpr ⟨List.all_eq_true.mpr fun c hc=>(sgL_ok (h c hc)).1,decide_eq_true hl⟩)
theorem split_row {cs:List Nat} (h:∀ c ∈ cs,sgL c = true) (hne:cs ≠ []) (hl:cs.length ≤ 900):splitP 1002 (Str.join " " (cs.map qS)) = some (rowD cs) :=
  split_join (F:=1001) (fun c hc=>(sgL_ok (h c hc)).1) (fun c hc=>wD_ok (h c hc)) hne hl (by decide)
theorem cmpP_of {d:Nat} (xs ys:List Nat) (hx:xs.length ≤ 1000) (hy:ys.length ≤ 1000):cmpP (dedF 1002 d pa7 d) (xs.map wD) (ys.map wD) = some (.bool (sameN xs ys)):=by
  have ht:tabD d pa7 d = some pa7:=if_pos rfl
  unfold cmpP dedF
  rw [ded_run ht xs hx,ded_run ht ys hy]
  show (if PyData.depthAll ((ddN xs []).map wD) ≤ 64 then some (PyData.bool (cmpRes ((ddN xs []).map wD) ((ddN ys []).map wD))) else none) = _
  rw [depth_words,if_pos (by decide),cmpRes_words (dd_nodup _ _ List.nodup_nil) (dd_nodup _ _ List.nodup_nil),sameN_dd]
theorem partI {q:Int} (h0:-1000001 < q) (h:q < 1000001):partD (.int q) = some q :=
  if_pos (Bool.and_eq_true_iff.mpr ⟨decide_eq_true (Int.lt_trans (by decide +kernel) h0),decide_eq_true (Int.lt_trans h (by decide +kernel))⟩)
theorem place_int {q:Int} {n:Nat} (h0:0 ≤ q) (h:q < 1000001) (hn:q.toNat < n):placeI q n = some q.toNat :=
  (if_pos (Bool.and_eq_true_iff.mpr ⟨decide_eq_true (Int.lt_of_lt_of_le (by decide +kernel) h0),decide_eq_true (Int.lt_trans h (by decide +kernel))⟩)).trans ((if_pos h0).trans (if_pos hn))
section
variable {cl:Nat→List PyData→Option PyData} {ρ:PEnv} {a b lo hi:PE}
theorem nat_lt {p:Nat} (h:p ≤ 1000000):(p:Int) < 1000001:=Int.ofNat_lt.mpr (Nat.lt_succ_of_le h)
theorem partD_nat {p:Nat} (h:p ≤ 1000000):partD (.int (p:Int)) = some (p:Int):=partI (Int.lt_of_lt_of_le (by decide) (Int.natCast_nonneg p)) (nat_lt h)
theorem place_nat {p n:Nat} (hp:p ≤ 1000000) (h:p < n):placeI (p:Int) n = some p:=place_int (Int.natCast_nonneg p) (nat_lt hp) h
theorem fit_nat {p:Nat} (h:p ≤ 1000000):fitI (p:Int) = true:=decide_eq_true (Nat.lt_of_le_of_lt h (Nat.lt_of_lt_of_le (show 1000000 < 2 ^ 20 by decide) (Nat.pow_le_pow_right (by decide) (by decide))))
theorem evO_yes {e:PE} {d:PyData} {i:Int} (h:evE cl e ρ = some d) (hp:partD d = some i):evO cl (.yes e) ρ = some (some i):=(congrArg (Option.bind · _) h).trans (congrArg (Option.map _) hp)
theorem ev_slcO {x:PyData} {u v:PO} {i j:Option Int} (h1:evE cl a ρ = some x) (h2:evO cl u ρ = some i) (h3:evO cl v ρ = some j):evE cl (.slc a u v) ρ = slcD x i j :=
  (congrArg (Option.bind · _) h1).trans ((congrArg (Option.bind · _) h2).trans (congrArg (Option.bind · _) h3))
theorem ev_slc {l:List PyData} {p q:Nat} (h1:evE cl a ρ = some (.list l)) (h2:evE cl lo ρ = some (.int (p:Int))) (h3:evE cl hi ρ = some (.int (q:Int))) (hp:p ≤ 1000000) (hq:q ≤ 1000000):evE cl (.slc a (.yes lo) (.yes hi)) ρ = some (.list ((l.take q).drop p)) :=
  (ev_slcO h1 (evO_yes h2 (partD_nat hp)) (evO_yes h3 (partD_nat hq))).trans (congrArg (fun l=>some (PyData.list l)) (cut_nn ..))
theorem ev_slx {l:List PyData} {p:Nat} (h1:evE cl a ρ = some (.list l)) (h2:evE cl lo ρ = some (.int (p:Int))) (hp:p ≤ 1000000):evE cl (.slc a (.yes lo) .no) ρ = some (.list (l.drop p)) :=
  (ev_slcO h1 (evO_yes h2 (partD_nat hp)) rfl).trans (congrArg (fun l=>some (PyData.list l)) (cut_nx ..))
theorem ev_sxl {l:List PyData} {q:Nat} (h1:evE cl a ρ = some (.list l)) (h3:evE cl hi ρ = some (.int (q:Int))) (hq:q ≤ 1000000):evE cl (.slc a .no (.yes hi)) ρ = some (.list (l.take q)) :=
  (ev_slcO h1 rfl (evO_yes h3 (partD_nat hq))).trans (congrArg (fun l=>some (PyData.list l)) (cut_xn ..))
theorem ev_bin {op:Operator} {x y z:PyData} (h1:evE cl a ρ = some x) (h2:evE cl b ρ = some y) (h:binD op x y = some z):evE cl (.bin op a b) ρ = some z:=(congrArg (Option.bind · _) h1).trans ((congrArg (Option.bind · _) h2).trans h)
theorem ev_cmp {op:CmpOp} {x y z:PyData} (h1:evE cl a ρ = some x) (h2:evE cl b ρ = some y) (h:cmpD op x y = some z):evE cl (.cmp op a b) ρ = some z:=(congrArg (Option.bind · _) h1).trans ((congrArg (Option.bind · _) h2).trans h)
theorem ev_addN {p q:Nat} (h1:evE cl a ρ = some (.int (p:Int))) (h2:evE cl b ρ = some (.int (q:Int))):evE cl (.bin .Add a b) ρ = some (.int ((p + q:Nat):Int)):=ev_bin h1 h2 rfl
theorem ev_1 {x:PyData} (h1:evE cl a ρ = some x):evEs cl (.cons a .nil) ρ = some [x]:=congrArg (Option.bind · _) h1
theorem ev_2 {x y:PyData} (h1:evE cl a ρ = some x) (h2:evE cl b ρ = some y):evEs cl (.cons a (.cons b .nil)) ρ = some [x,y]:=(congrArg (Option.bind · _) h1).trans (congrArg (Option.map _) (ev_1 h2))
theorem ev_2' {c:PE} {x y z:PyData} (h1:evE cl a ρ = some x) (h2:evE cl b ρ = some y) (h3:evE cl c ρ = some z):evEs cl (.cons a (.cons b (.cons c .nil))) ρ = some [x,y,z]:=(congrArg (Option.bind · _) h1).trans (congrArg (Option.map _) (ev_2 h2 h3))
theorem ev_bi {f:Bi} {es:PEs} {l:List PyData} {d:PyData} (h:evEs cl es ρ = some l) (hd:biD f l = some d):evE cl (.bi f es) ρ = some d:=(congrArg (Option.bind · _) h).trans hd
theorem ev_call {f:Nat} {es:PEs} {l:List PyData} {d:PyData} (h:evEs cl es ρ = some l) (hd:cl f l = some d):evE cl (.call f es) ρ = some d:=(congrArg (Option.bind · _) h).trans hd
theorem ev_len {l:List PyData} (h1:evE cl a ρ = some (.list l)):evE cl (.bi .len (.cons a .nil)) ρ = some (.int (l.length:Int)):=ev_bi (ev_1 h1) rfl
theorem idxD_list {l:List PyData} {i:Int}:idxD (.list l) (.int i) = (placeI i l.length).bind (l[·]?):=rfl
theorem ev_idxD {x y d:PyData} {i:PE} (h1:evE cl a ρ = some x) (h2:evE cl i ρ = some y) (h:idxD x y = some d):evE cl (.idx a i) ρ = some d:=(congrArg (Option.bind · _) h1).trans ((congrArg (Option.bind · _) h2).trans h)
theorem ev_idx {l:List PyData} {x:PyData} {i:PE} {p:Nat} (h1:evE cl a ρ = some (.list l)) (h2:evE cl i ρ = some (.int (p:Int))) (hp:p ≤ 1000000) (hx:l[p]? = some x):evE cl (.idx a i) ρ = some x :=
  ev_idxD h1 h2 (by rw [idxD_list,place_nat hp (List.getElem?_eq_some_iff.mp hx).1]; exact hx)
theorem ev_in {x:Nat} {w:List Nat} (h1:evE cl a ρ = some (wD x)) (h2:evE cl b ρ = some (rowD w)):evE cl (.cmp .In a b) ρ = some (.bool (w.contains x)):=ev_cmp h1 h2 (in_row x w)
theorem ev_eqr {v w:List Nat} (h1:evE cl a ρ = some (rowD v)) (h2:evE cl b ρ = some (rowD w)):evE cl (.cmp .Eq a b) ρ = some (.bool (v == w)):=ev_cmp h1 h2 (eq_rows v w)
theorem ev_catr {v w:List Nat} (h1:evE cl a ρ = some (rowD v)) (h2:evE cl b ρ = some (rowD w)) (hl:v.length + w.length ≤ 1000000):evE cl (.bin .Add a b) ρ = some (rowD (v ++ w)) :=
  ev_bin h1 h2 ((mkL_ok (by rw [← List.map_append,List.length_map,List.length_append]; exact hl)).trans (by rw [rowD,List.map_append]))
theorem ev_and {x:Bool} {y:PyData} (h1:evE cl a ρ = some (.bool x)) (h2:x = true→evE cl b ρ = some y):evE cl (.bool true a b) ρ = some (if x then y else .bool false) :=
  (congrArg (Option.bind · _) h1).trans (match x,h2 with | true,h2=>h2 rfl | false,_=>rfl)
theorem ev_call1 {f:Nat} {x d:PyData} (h1:evE cl a ρ = some x) (h:cl f [x] = some d):evE cl (.call f (.cons a .nil)) ρ = some d:=ev_call (ev_1 h1) h
theorem ev_call2 {f:Nat} {x y d:PyData} (h1:evE cl a ρ = some x) (h2:evE cl b ρ = some y) (h:cl f [x,y] = some d):evE cl (.call f (.cons a (.cons b .nil))) ρ = some d:=ev_call (ev_2 h1 h2) h
theorem upTo_nat (p q:Nat):upTo (p:Int) (q:Int) = (List.range (q - p)).map fun (k:Nat)=>PyData.int ((p + k:Nat):Int):=by
  unfold upTo
  rw [Int.toNat_sub]
  rfl
theorem rangeOk_nat {p q:Nat} (hp:p ≤ 1000000) (hq:q ≤ 1000000):rangeOk (p:Int) (q:Int) = true:=by
  have e:(2:Int) ^ 20 = 1048576:=by decide
  have h0:∀ {k:Nat},k ≤ 1000000→decide (-(2 ^ 20:Int) ≤ (k:Int)) = true ∧ decide ((k:Int) ≤ 2 ^ 20) = true:=fun h=>by
    rw [e]; exact ⟨decide_eq_true (Int.le_trans (by decide) (Int.natCast_nonneg _)),decide_eq_true (Int.ofNat_le.mpr (Nat.le_trans h (by decide)))⟩
  unfold rangeOk
  rw [(h0 hp).1,(h0 hq).1,(h0 hp).2,(h0 hq).2]; rfl
theorem ev_rg2 {p q:Nat} (h1:evE cl a ρ = some (.int (p:Int))) (h2:evE cl b ρ = some (.int (q:Int))) (hp:p ≤ 1000000) (hq:q ≤ 1000000):evI cl (.range2 a b) ρ = some ((List.range (q - p)).map fun (k:Nat)=>PyData.int ((p + k:Nat):Int)) :=
  (congrArg (Option.bind · _) h1).trans ((congrArg (Option.bind · _) h2).trans ((if_pos (rangeOk_nat hp hq)).trans (congrArg some (upTo_nat p q))))
theorem ev_rg1 {q:Nat} (h:evE cl a ρ = some (.int (q:Int))) (hq:q ≤ 1000000):evI cl (.range1 a) ρ = some ((List.range q).map fun (k:Nat)=>PyData.int ((0 + k:Nat):Int)) :=
  (congrArg (Option.bind · _) h).trans ((if_pos (rangeOk_nat (Nat.zero_le _) hq)).trans (congrArg some (upTo_nat 0 q)))
theorem fdivN {p q:Nat} (h0:0 < q) (hq:q ≤ 1000000):binD .FloorDiv (.int (p:Int)) (.int (q:Int)) = some (.int ((p / q:Nat):Int)):=by
  show (if (decide (0 < ((q:Nat):Int)) && fitI (q:Int)) = true then some (PyData.int ((p:Int).fdiv (q:Int))) else none) = _
  rw [fit_nat hq,decide_eq_true (Int.natCast_pos.mpr h0),Int.fdiv_eq_ediv_of_nonneg _ (Int.natCast_nonneg q)]; rfl
theorem modN {p q:Nat} (h0:0 < q):binD .Mod (.int (p:Int)) (.int (q:Int)) = some (.int ((p % q:Nat):Int)):=by
  show (if 0 < ((q:Nat):Int) then some (PyData.int ((p:Int).fmod (q:Int))) else none) = _
  rw [if_pos (Int.natCast_pos.mpr h0),Int.fmod_eq_emod_of_nonneg _ (Int.natCast_nonneg q)]; rfl
theorem ev_slcR {w:List Nat} {p q k:Nat} (h1:evE cl a ρ = some (rowD w)) (h2:evE cl lo ρ = some (.int (p:Int))) (h3:evE cl hi ρ = some (.int (q:Int))) (e:q = p + k) (hq:q ≤ 1000000):evE cl (.slc a (.yes lo) (.yes hi)) ρ = some (rowD ((w.drop p).take k)) :=
  (ev_slc h1 h2 h3 (Nat.le_trans (e ▸ Nat.le_add_right p k) hq) hq).trans (by rw [e,← List.take_drop,rowD,List.map_take,List.map_drop])
theorem ev_slxR {w:List Nat} {p:Nat} (h1:evE cl a ρ = some (rowD w)) (h2:evE cl lo ρ = some (.int (p:Int))) (hp:p ≤ 1000000):evE cl (.slc a (.yes lo) .no) ρ = some (rowD (w.drop p)):=(ev_slx h1 h2 hp).trans (by rw [rowD,List.map_drop])
theorem ev_sxlR {w:List Nat} {q:Nat} (h1:evE cl a ρ = some (rowD w)) (h2:evE cl hi ρ = some (.int (q:Int))) (hq:q ≤ 1000000):evE cl (.slc a .no (.yes hi)) ρ = some (rowD (w.take q)):=(ev_sxl h1 h2 hq).trans (by rw [rowD,List.map_take])
theorem ev_lenR {w:List Nat} (h1:evE cl a ρ = some (rowD w)):evE cl (.bi .len (.cons a .nil)) ρ = some (.int (w.length:Int)):=(ev_len h1).trans (by rw [List.length_map])
theorem ev_andB {x y:Bool} (h1:evE cl a ρ = some (.bool x)) (h2:evE cl b ρ = some (.bool y)):evE cl (.bool true a b) ρ = some (.bool (x && y)):=(congrArg (Option.bind · _) h1).trans (by cases x with | true=>exact h2 | false=>rfl)
end
theorem fm_len {α β:Type} {g:α→List β} {c:Nat} {ds:List α} (h:∀ d ∈ ds,(g d).length ≤ c):(ds.flatMap g).length ≤ ds.length * c:=by
  induction ds with
  | nil=>exact Nat.zero_le _
  | cons d ds ih =>
    rw [List.flatMap_cons,List.length_append,List.length_cons,Nat.succ_mul,Nat.add_comm]
    exact Nat.add_le_add (ih fun x hx=>h x (List.mem_cons_of_mem _ hx)) (h d List.mem_cons_self)
theorem fm_rg {β:Type} {g:Nat→List β} {n c:Nat} (h:∀ k,k < n→(g k).length ≤ c):((List.range n).flatMap g).length ≤ n * c :=
  Nat.le_trans (fm_len fun k hk=>h k (List.mem_range.mp hk)) (Nat.le_of_eq (by rw [List.length_range]))
theorem fl_flat {body:PSt→Option Fl} {x c p:Nat} {S:List (List Nat)→PSt→Prop} {g:Nat→List (List Nat)} {ds:List Nat} (hg:∀ k ∈ ds,(g k).length ≤ c) (hb:∀ k ∈ ds,∀ ws σ,ws.length + c ≤ 100000→S ws σ→∃ σ₂,body { env:=σ.env.set x (some (.int ((p + k:Nat):Int))),own:=lose σ.own [x] } = some (.next σ₂) ∧ S (ws ++ g k) σ₂) :
    ∀ {ws:List (List Nat)} {σ:PSt},ws.length + ds.length * c ≤ 100000→S ws σ→∃ σ',forLoopP body (fun d τ=>(bindT (.one x) d τ.env).map fun ρ=>{ env:=ρ,own:=lose τ.own (tgVars (.one x)) }) (ds.map fun k=>.int ((p + k:Nat):Int)) σ = some (.next σ') ∧ S (ws ++ ds.flatMap g) σ':=by
  induction ds with
  | nil=>exact fun {ws σ} _ h=>⟨σ,rfl,by rw [List.flatMap_nil,List.append_nil]; exact h⟩
  | cons k ds ih =>
    intro ws σ hl h
    rw [List.length_cons,Nat.succ_mul,Nat.add_comm _ c,← Nat.add_assoc] at hl
    obtain ⟨σ₂,h1,h2⟩:=hb k List.mem_cons_self ws σ (Nat.le_trans (Nat.le_add_right _ _) hl) h
    obtain ⟨σ',h3,h4⟩:=ih (fun k hk=>hg k (List.mem_cons_of_mem _ hk)) (fun k hk=>hb k (List.mem_cons_of_mem _ hk)) (ws:=ws ++ g k) (Nat.le_trans (Nat.add_le_add_right (by rw [List.length_append]; exact Nat.add_le_add_left (hg k List.mem_cons_self) _) _) hl) h2
    exact ⟨σ',(fl_cons rfl h1).trans h3,by rw [List.flatMap_cons,← List.append_assoc]; exact h4⟩
theorem for_flat {cl:Nat→List PyData→Option PyData} {F:Nat} {x c p n:Nat} {i:PI} {b:PSs} {S:List (List Nat)→PSt→Prop} {g:Nat→List (List Nat)} {ws:List (List Nat)} {σ:PSt} (hi:evI cl i σ.env = some ((List.range n).map fun k=>.int ((p + k:Nat):Int))) (ho:escPI i = []) (h:S ws σ) (hl:ws.length + n * c ≤ 100000) (hg:∀ k,k < n→(g k).length ≤ c)
    (hb:∀ k,k < n→∀ ws σ,ws.length + c ≤ 100000→S ws σ→∃ σ₂,exSs cl F b { env:=σ.env.set x (some (.int ((p + k:Nat):Int))),own:=lose σ.own [x] } = some (.next σ₂) ∧ S (ws ++ g k) σ₂):∃ σ',exS cl F (.for_ (.one x) i b) σ = some (.next σ') ∧ S (ws ++ (List.range n).flatMap g) σ':=by
  obtain ⟨σ',h1,h2⟩:=fl_flat (fun k hk=>hg k (List.mem_range.mp hk)) (fun k hk=>hb k (List.mem_range.mp hk)) (by rw [List.length_range]; exact hl) h
  have e:lose σ.own (escPI i) = σ.own:=by rw [ho]; exact List.filter_eq_self.mpr fun _ _=>rfl
  refine ⟨σ',(xs_for hi).trans ?_,h2⟩
  rw [e]
  exact h1
end Kt
end
section
open PySem PySem.W PyProof.Rows
namespace Kt
noncomputable abbrev sD (l:List Nat):PyData:=.str ⟨l.toArray⟩
section
variable {cl:Nat→List PyData→Option PyData} {ρ:PEnv} {a b lo hi:PE} {F:Nat}
theorem eqv_sD (a b:List Nat):PyData.eqv (sD a) (sD b) = (a == b):=by
  show ((⟨a.toArray⟩:Str) == ⟨b.toArray⟩) = _
  by_cases h:a = b
  · subst h; rw [beq_self_eq_true,beq_self_eq_true]
  · rw [beq_false_of_ne h,beq_false_of_ne fun e=>h (congrArg (fun s:Str=>s.cps.toList) e)]
theorem eqOk_sD (l:List Nat) (d:PyData):eqOk (sD l) d = true:=decide_eq_true (Nat.le_trans (Nat.min_le_left _ _) (show (sD l).depth ≤ _ from Nat.zero_le _))
theorem eqSD (x y:List Nat) (t:PyData):(if eqOk (sD x) (sD y) = true then some t else none) = some t:=if_pos (eqOk_sD x (sD y))
theorem ev_eqS {x y:List Nat} (h1:evE cl a ρ = some (sD x)) (h2:evE cl b ρ = some (sD y)):evE cl (.cmp .Eq a b) ρ = some (.bool (x == y)):=ev_cmp h1 h2 ((eqSD x y _).trans (by rw [eqv_sD]))
theorem ev_neS {x y:List Nat} (h1:evE cl a ρ = some (sD x)) (h2:evE cl b ρ = some (sD y)):evE cl (.cmp .NotEq a b) ρ = some (.bool (!(x == y))):=ev_cmp h1 h2 ((eqSD x y _).trans (by rw [eqv_sD]))
theorem ev_lenS {l:List Nat} (h1:evE cl a ρ = some (sD l)):evE cl (.bi .len (.cons a .nil)) ρ = some (.int (l.length:Int)):=ev_bi (ev_1 h1) rfl
theorem add_sD (a b:List Nat) (h:a.length + b.length ≤ 1000000):binD .Add (sD a) (sD b) = some (sD (a ++ b)):=by
  show mkS ((⟨a.toArray⟩:Str) ++ ⟨b.toArray⟩) = _
  rw [str_app]
  exact if_pos (Nat.le_trans (Nat.le_of_eq (show (a ++ b).length = _ from List.length_append)) (Nat.le_trans h (by decide)))
theorem ev_addS {x y:List Nat} (h1:evE cl a ρ = some (sD x)) (h2:evE cl b ρ = some (sD y)) (h:x.length + y.length ≤ 1000000):evE cl (.bin .Add a b) ρ = some (sD (x ++ y)):=ev_bin h1 h2 (add_sD x y h)
theorem idxD_str {s:Str} {i:Int}:idxD (.str s) (.int i) = (placeI i s.length).bind fun k=>(s.cps[k]?).map fun c=>PyData.str ⟨#[c]⟩:=rfl
theorem ev_idxS {l:List Nat} {c:Nat} {i:PE} {p:Nat} (h1:evE cl a ρ = some (sD l)) (h2:evE cl i ρ = some (.int (p:Int))) (hp:p ≤ 1000000) (hx:l[p]? = some c):evE cl (.idx a i) ρ = some (wD c):=by
  have h3:l.toArray[p]? = some c:=List.getElem?_toArray.trans hx
  refine ev_idxD h1 h2 ?_
  rw [idxD_str,place_nat hp (show p < (⟨l.toArray⟩:Str).length from (List.getElem?_eq_some_iff.mp hx).1)]
  show (l.toArray[p]?).map _ = _
  rw [h3]; rfl
theorem ev_slxS {l:List Nat} {p:Nat} (h1:evE cl a ρ = some (sD l)) (h2:evE cl lo ρ = some (.int (p:Int))) (hp:p ≤ 1000000):evE cl (.slc a (.yes lo) .no) ρ = some (sD (l.drop p)) :=
  (ev_slcO h1 (evO_yes h2 (partD_nat hp)) rfl).trans (congrArg (fun l=>some (sD l)) (cut_nx ..))
theorem ev_sxlS {l:List Nat} {q:Nat} (h1:evE cl a ρ = some (sD l)) (h3:evE cl hi ρ = some (.int (q:Int))) (hq:q ≤ 1000000):evE cl (.slc a .no (.yes hi)) ρ = some (sD (l.take q)) :=
  (ev_slcO h1 rfl (evO_yes h3 (partD_nat hq))).trans (congrArg (fun l=>some (sD l)) (cut_xn ..))
theorem partD_neg {p:Nat} (h:p ≤ 1000000):partD (.int (-(p:Int))) = some (-(p:Int)):=partI (by omega) (by omega)
theorem cut_neg {α:Type} (l:List α) {p:Nat} (hp:0 < p):cut l (some (-(p:Int))) none = l.drop (l.length - p):=by
  have h:clampI (-(p:Int)) l.length = l.length - p:=(if_pos (by omega)).trans (by omega)
  show (l.take l.length).drop (clampI (-(p:Int)) l.length) = _
  rw [h,List.take_length]
theorem ev_sneg {l:List Nat} {p:Nat} (h1:evE cl a ρ = some (sD l)) (h2:evE cl lo ρ = some (.int (-(p:Int)))) (h0:0 < p) (hp:p ≤ 1000000):evE cl (.slc a (.yes lo) .no) ρ = some (sD (l.drop (l.length - p))) :=
  (ev_slcO h1 (evO_yes h2 (partD_neg hp)) rfl).trans (congrArg (fun l=>some (sD l)) (cut_neg _ h0))
theorem ev_neg {i:Int} (h:evE cl a ρ = some (.int i)):evE cl (.neg a) ρ = some (.int (-i)):=congrArg (Option.bind · _) h
theorem ev_subN {p q:Nat} (h1:evE cl a ρ = some (.int (p:Int))) (h2:evE cl b ρ = some (.int (q:Int))) (h:q ≤ p):evE cl (.bin .Sub a b) ρ = some (.int ((p - q:Nat):Int)):=ev_bin h1 h2 (congrArg (fun i=>some (PyData.int i)) (Int.ofNat_sub h).symm)
theorem ev_ltN {p q:Nat} {t:Bool} (h1:evE cl a ρ = some (.int (p:Int))) (h2:evE cl b ρ = some (.int (q:Int))) (h:decide (p < q) = t):evE cl (.cmp .Lt a b) ρ = some (.bool t):=ev_cmp h1 h2 (congrArg (fun i=>some (PyData.bool i)) ((decide_eq_decide.mpr Int.ofNat_lt).trans h))
theorem ev_ite {c:PE} {t:Bool} {x y:PyData} (h:evE cl c ρ = some (.bool t)) (h1:t = true→evE cl a ρ = some x) (h2:t = false→evE cl b ρ = some y):evE cl (.ite c a b) ρ = some (bif t then x else y) :=
  (congrArg (Option.bind · _) h).trans (by cases t with | true=>exact h1 rfl | false=>exact h2 rfl)
theorem ev_iteN {c:PE} {t:Bool} {p q:Nat} (h:evE cl c ρ = some (.bool t)):evE cl (.ite c (.lit (.int (p:Int))) (.lit (.int (q:Int)))) ρ = some (.int ((bif t then p else q:Nat):Int)) :=
  (congrArg (Option.bind · _) h).trans (by cases t <;> rfl)
theorem ev_or {y:PyData} (h1:evE cl a ρ = some (.bool false)) (h2:evE cl b ρ = some y):evE cl (.bool false a b) ρ = some y:=(congrArg (Option.bind · _) h1).trans h2
theorem xs_aug {x:Nat} {op:Operator} {e:PE} {σ:PSt} {u v d:PyData} (hx:lookV σ.env x = some u) (h:evE cl e σ.env = some v) (hf:(flat u && flat v && (op == .Add || op == .Sub)) = true) (hd:binD op u v = some d):exS cl F (.aug x op e) σ = some (.next (asg σ x d σ.own false)) :=
  (congrArg (Option.bind · _) hx).trans ((congrArg (Option.bind · _) h).trans ((if_pos hf).trans (congrArg (Option.map _) hd)))
theorem xs_augN {x:Nat} {e:PE} {σ:PSt} {p q:Nat} (hx:lookV σ.env x = some (.int (p:Int))) (h:evE cl e σ.env = some (.int (q:Int))):exS cl F (.aug x .Add e) σ = some (.next (asg σ x (.int ((p + q:Nat):Int)) σ.own false)):=xs_aug hx h rfl rfl
theorem xs_augS {x:Nat} {e:PE} {σ:PSt} {p q:List Nat} (hx:lookV σ.env x = some (sD p)) (h:evE cl e σ.env = some (sD q)) (hl:p.length + q.length ≤ 1000000):exS cl F (.aug x .Add e) σ = some (.next (asg σ x (sD (p ++ q)) σ.own false)):=xs_aug hx h rfl (add_sD p q hl)
theorem ev_inS {x y:List Nat} {t:Bool} (h1:evE cl a ρ = some (sD y)) (h2:evE cl b ρ = some (sD x)) (h:Txt.contains ⟨x.toArray⟩ ⟨y.toArray⟩ = t):evE cl (.cmp .In a b) ρ = some (.bool t):=ev_cmp h1 h2 (congrArg (fun i=>some (PyData.bool i)) h)
end
end Kt
end
section
namespace Kt
theorem ddN_app (a b:List Nat):∀ acc:List Nat,ddN (a ++ b) acc = ddN b (ddN a acc):=by
  induction a with
  | nil=>exact fun _=>rfl
  | cons x a ih=>exact fun acc=>ih _
theorem dd_in {w:List Nat} {z:Nat}:z ∈ ddN w [] ↔ z ∈ w:=(dd_mem w [] z).trans ⟨fun h=>h.resolve_left List.not_mem_nil,.inr⟩
theorem ddN_sub (r:List Nat):∀ {acc:List Nat},(∀ x ∈ r,x ∈ acc)→ddN r acc = acc:=by
  induction r with
  | nil=>exact fun _=>rfl
  | cons x r ih =>
    intro acc h
    rw [ddN,if_pos (List.contains_iff_mem.mpr (h x List.mem_cons_self))]
    exact ih fun y hy=>h y (List.mem_cons_of_mem _ hy)
theorem ddN_one {w:List Nat} {a:Nat} (h:a ∉ w):ddN (w ++ [a]) [] = ddN w [] ++ [a]:=by
  rw [ddN_app]
  exact if_neg fun e=>h (dd_in.mp (List.contains_iff_mem.mp e))
noncomputable def tw (x:Nat) (l:List Nat):List Nat:=l.takeWhile (· != x)
theorem tw_cons (x y:Nat) (l:List Nat):tw x (y :: l) = bif y != x then y :: tw x l else []:=by
  unfold tw
  rw [List.takeWhile_cons]
  cases y != x <;> rfl
theorem tw_out {x:Nat} {t:List Nat} (s:List Nat) (h:x ∉ t):tw x (t ++ s) = t ++ tw x s:=by
  induction t with
  | nil=>rfl
  | cons y t ih =>
    rw [List.cons_append,tw_cons,bne_iff_ne.mpr (fun e:y = x=>h (e ▸ List.mem_cons_self)),ih fun e=>h (List.mem_cons_of_mem _ e)]; rfl
theorem tw_in {x:Nat} {t:List Nat} (s:List Nat) (h:x ∈ t):tw x (t ++ s) = tw x t:=by
  induction t with
  | nil=>cases h
  | cons y t ih =>
    rw [List.cons_append,tw_cons,tw_cons]
    by_cases e:y = x
    · rw [e,bne_self_eq_false]; rfl
    · rw [ih ((List.mem_cons.mp h).resolve_left (Ne.symm e))]
theorem tw_at {x:Nat} {t B:List Nat} (h:x ∉ t):tw x (t ++ x :: B) = t:=by
  rw [tw_out _ h,tw_cons,bne_self_eq_false]; exact List.append_nil t
theorem tw_sub {x c:Nat} {v:List Nat} (h:c ∈ tw x v):c ∈ v:=(List.takeWhile_sublist _).subset h
def Rx (m m':List Nat):Prop:=(∃ u,m = u ++ u ∧ m' = u) ∨ ∃ u y v,m = u ++ y :: v ∧ m' = u ++ v ∧ y ∈ u ∧ ∀ z,z ∈ u ↔ z ∈ v
def Red (a b:List Nat):Prop:=∃ p m m' s,a = p ++ (m ++ s) ∧ b = p ++ (m' ++ s) ∧ Rx m m'
theorem Rx.left {m m':List Nat} (h:Rx m m'):∃ u r r',m = u ++ r ∧ m' = u ++ r' ∧ (∀ x ∈ r,x ∈ u) ∧ ∀ x ∈ r',x ∈ u:=by
  rcases h with ⟨u,h,h'⟩ | ⟨u,y,v,h,h',hy,hz⟩
  · exact ⟨u,u,[],h,h'.trans (List.append_nil u).symm,fun _ h=>h,nofun⟩
  · refine ⟨u,y :: v,v,h,h',fun x hx=>?_,fun x hx=>(hz x).mpr hx⟩
    rcases List.mem_cons.mp hx with rfl | hx
    · exact hy
    · exact (hz x).mpr hx
theorem rev3 (p m s:List Nat):(p ++ (m ++ s)).reverse = s.reverse ++ (m.reverse ++ p.reverse):=by rw [List.reverse_append,List.reverse_append,List.append_assoc]
theorem Rx.rev {m m':List Nat} (h:Rx m m'):Rx m.reverse m'.reverse:=by
  rcases h with ⟨u,h,h'⟩ | ⟨u,y,v,h,h',hy,hz⟩
  · exact .inl ⟨u.reverse,by rw [h,List.reverse_append],by rw [h']⟩
  · refine .inr ⟨v.reverse,y,u.reverse,by rw [h,List.reverse_append,List.reverse_cons,List.append_assoc]; rfl,by rw [h',List.reverse_append],List.mem_reverse.mpr ((hz y).mp hy),fun z=>?_⟩
    rw [List.mem_reverse,List.mem_reverse,hz z]
theorem Red.rev {a b:List Nat} (h:Red a b):Red a.reverse b.reverse :=
  let ⟨p,m,m',s,e,e',h⟩:=h
  ⟨s.reverse,m.reverse,m'.reverse,p.reverse,e ▸ rev3 p m s,e' ▸ rev3 p m' s,h.rev⟩
theorem Red.dd {a b:List Nat} (h:Red a b):ddN a [] = ddN b []:=by
  obtain ⟨p,m,m',s,e,e',h⟩:=h
  obtain ⟨u,r,r',f,f',h1,h2⟩:=h.left
  have hs:∀ r,(∀ x ∈ r,x ∈ u)→ddN (p ++ ((u ++ r) ++ s)) [] = ddN s (ddN u (ddN p [])):=fun r hr=>by
    rw [ddN_app,ddN_app,ddN_app,ddN_sub r fun x hx=>(dd_mem _ _ _).mpr (.inr (hr x hx))]
  rw [e,e',f,f',hs r h1,hs r' h2]
theorem Red.tw {a b:List Nat} (h:Red a b) (x:Nat):tw x a = tw x b ∨ Red (tw x a) (tw x b):=by
  obtain ⟨p,m,m',s,e,e',h⟩:=h
  obtain ⟨u,r,r',f,f',h1,h2⟩:=h.left
  by_cases hp:x ∈ p
  · exact .inl (by rw [e,e',tw_in _ hp,tw_in _ hp])
  by_cases hx:x ∈ u
  · exact .inl (by rw [e,e',f,f',tw_out _ hp,tw_out _ hp,List.append_assoc,List.append_assoc,tw_in _ hx,tw_in _ hx])
  have n1:x ∉ m:=fun h=>(List.mem_append.mp (f ▸ h)).elim hx fun h=>hx (h1 x h)
  have n2:x ∉ m':=fun h=>(List.mem_append.mp (f' ▸ h)).elim hx fun h=>hx (h2 x h)
  exact .inr ⟨p,m,m',Kt.tw x s,by rw [e,tw_out _ hp,tw_out _ n1],by rw [e',tw_out _ hp,tw_out _ n2],h⟩
noncomputable def ovN (f e:List Nat):Nat→Nat
  | 0=>0
  | k + 1=>bif f.drop (f.length - (k + 1)) == e.take (k + 1) then k + 1 else ovN f e k
noncomputable def mrg (f e:List Nat):List Nat:=f ++ e.drop (ovN f e (min f.length e.length))
noncomputable def lastN (l:List Nat):Nat:=l.getLast?.getD 0
noncomputable def kerN:Nat→List Nat→List Nat
  | 0,w=>ddN w []
  | k + 1,w=>if (ddN w []).length < 2 then ddN w [] else
      mrg (kerN k (tw (lastN (ddN w [])) w) ++ [lastN (ddN w [])]) (lastN (ddN w.reverse []) :: kerN k (tw (lastN (ddN w.reverse [])) w.reverse).reverse)
theorem ker_red (k:Nat):∀ {a b:List Nat},Red a b→kerN k a = kerN k b:=by
  induction k with
  | zero=>exact fun h=>h.dd
  | succ k ih =>
    intro a b h
    have e1:kerN k (tw (lastN (ddN b [])) a) = kerN k (tw (lastN (ddN b [])) b):=(h.tw _).elim (fun e=>by rw [e]) ih
    have e2:kerN k (tw (lastN (ddN b.reverse [])) a.reverse).reverse = kerN k (tw (lastN (ddN b.reverse [])) b.reverse).reverse:=(h.rev.tw _).elim (fun e=>by rw [e]) fun r=>ih r.rev
    rw [kerN,kerN,h.dd,h.rev.dd,e1,e2]
def IrrF (w:List Nat):Prop:=∀ p m m' s,Rx m m'→m ≠ []→w ≠ p ++ (m ++ s)
theorem IrrF.pre {a b:List Nat} (h:IrrF (a ++ b)):IrrF a:=fun p m m' s r hm e=>h p m m' (s ++ b) r hm (by rw [e,List.append_assoc,List.append_assoc])
theorem IrrF.rev {w:List Nat} (h:IrrF w):IrrF w.reverse:=fun p m m' s r hm e=>h s.reverse m.reverse m'.reverse p.reverse r.rev (fun e=>hm (List.reverse_eq_nil_iff.mp e)) (by rw [← rev3,← e,List.reverse_reverse])
theorem front_of (n:Nat):∀ {w:List Nat},w.length = n + 1→∃ p x B,w = p ++ x :: B ∧ x ∉ p ∧ ddN w [] = ddN p [] ++ [x] ∧ ∀ z ∈ w,z ∈ p ∨ z = x:=by
  induction n with
  | zero =>
    intro w h
    obtain ⟨x,rfl⟩:=List.length_eq_one_iff.mp h
    exact ⟨[],x,[],rfl,nofun,rfl,fun z h=>.inr (List.mem_singleton.mp h)⟩
  | succ n ih =>
    intro w h
    rcases List.eq_nil_or_concat w with e | ⟨v,a,e⟩
    · rw [e] at h; cases h
    have e:=e.trans List.concat_eq_append
    by_cases ha:a ∈ v
    · obtain ⟨p,x,B,e1,e2,e3,e4⟩:=ih (w:=v) (by rw [e,List.length_append] at h; exact Nat.succ.inj h)
      refine ⟨p,x,B ++ [a],by rw [e,e1,List.append_assoc]; rfl,e2,?_,fun z hz=>(List.mem_append.mp (e ▸ hz)).elim (e4 z) fun hz=>e4 z (List.mem_singleton.mp hz ▸ ha)⟩
      rw [e,ddN_app,← e3]
      exact if_pos (List.contains_iff_mem.mpr (dd_in.mpr ha))
    · exact ⟨v,a,[],e,ha,e ▸ ddN_one ha,fun z hz=>(List.mem_append.mp (e ▸ hz)).imp_right List.mem_singleton.mp⟩
theorem front {w:List Nat} (h:w ≠ []):∃ p x B,w = p ++ x :: B ∧ lastN (ddN w []) = x ∧ tw x w = p ∧ x ∉ p ∧ ddN w [] = ddN p [] ++ [x] ∧ ∀ z ∈ w,z ∈ p ∨ z = x:=by
  obtain ⟨n,hn⟩:=Nat.exists_eq_add_one.mpr (List.length_pos_iff.mpr h)
  obtain ⟨p,x,B,e1,e2,e3,e4⟩:=front_of n hn
  exact ⟨p,x,B,e1,by unfold lastN; rw [e3,List.getLast?_concat]; rfl,e1 ▸ tw_at e2,e2,e3,e4⟩
theorem ovN_le (f e:List Nat) (n:Nat):ovN f e n ≤ n:=by
  induction n with
  | zero=>exact Nat.le_refl _
  | succ n ih =>
    rw [ovN]
    cases f.drop (f.length - (n + 1)) == e.take (n + 1)
    · exact Nat.le_succ_of_le ih
    · exact Nat.le_refl _
theorem ovN_at {f e:List Nat} {k n:Nat} (h0:f.drop (f.length - k) = e.take k) (hn:k ≤ n) (hk:∀ j,j ≤ n→f.drop (f.length - j) = e.take j→j ≤ k):ovN f e n = k:=by
  induction n with
  | zero=>exact (Nat.le_zero.mp hn).symm
  | succ n ih =>
    rw [ovN]
    rcases Nat.lt_or_eq_of_le hn with h | h
    · rw [beq_false_of_ne fun e=>Nat.not_le.mpr h (hk _ (Nat.le_refl _) e)]
      exact ih (Nat.le_of_lt_succ h) fun j hj=>hk j (Nat.le_succ_of_le hj)
    · rw [← h,h0,beq_self_eq_true]; rfl
theorem mrg_irr {w f e B D:List Nat} (h:IrrF w) (h1:w = f ++ B) (h2:w = D ++ e) (h3:∀ z ∈ w,z ∈ f) (h4:∀ z ∈ w,z ∈ e):mrg f e = w:=by
  have key:∃ c,f = D ++ c ∧ e = c ++ B:=by
    rcases List.append_eq_append_iff.mp (h1.symm.trans h2) with ⟨a,e1,e2⟩ | ⟨c,e1,e2⟩
    · cases a with
      | nil=>exact ⟨[],by rw [e1,List.append_nil,List.append_nil],e2.symm⟩
      | cons z g =>
        have hz:z ∈ w:=h1 ▸ List.mem_append_right _ (e2 ▸ List.mem_cons_self)
        refine absurd (h1.trans ?_) (h [] (f ++ z :: (g ++ e)) _ [] (.inr ⟨f,z,g ++ e,rfl,rfl,h3 z hz,fun t=>⟨fun ht=>List.mem_append_right _ (h4 t (h1 ▸ List.mem_append_left _ ht)),fun ht=>h3 t (h1 ▸ List.mem_append_right _ (e2 ▸ List.mem_cons_of_mem _ ht))⟩⟩) (List.append_ne_nil_of_right_ne_nil _ (List.cons_ne_nil _ _)))
        rw [List.append_nil,e2]; rfl
    · exact ⟨c,e1,e2⟩
  obtain ⟨c,ef,ee⟩:=key
  have hc:∀ t:List Nat,(D ++ t).length - t.length = D.length:=fun t=>by rw [List.length_append,Nat.add_sub_cancel]
  have hov:ovN f e (min f.length e.length) = c.length:=by
    refine ovN_at (by rw [ef,ee,hc,List.drop_left,List.take_left]) (Nat.le_min.mpr ⟨by rw [ef,List.length_append]; exact Nat.le_add_left _ _,by rw [ee,List.length_append]; exact Nat.le_add_right _ _⟩) fun j hj e1=>Nat.not_lt.mp fun hlt=>?_
    have eg:(e.take j).length = j:=List.length_take_of_le (Nat.le_trans hj (Nat.min_le_right _ _))
    have ep:f.take (f.length - j) ++ e.take j = D ++ c:=by rw [← e1,List.take_append_drop,ef]
    have eq:e.take j ++ e.drop j = c ++ B:=by rw [List.take_append_drop,ee]
    generalize f.take (f.length - j) = P at ep
    generalize e.take j = g at eg ep eq
    generalize e.drop j = Q at eq
    rcases List.append_eq_append_iff.mp ep with ⟨d,e2,e3⟩ | ⟨d,e2,e3⟩
    · refine h P (d ++ d) d (c ++ Q) (.inl ⟨d,rfl,rfl⟩) (fun e=>?_) ?_
      · rw [(List.append_eq_nil_iff.mp e).1] at e3
        rw [e3] at eg
        exact Nat.lt_irrefl _ (eg ▸ hlt)
      · rw [h2,ee,e2,← eq,e3]
        simp only [List.append_assoc]
    · have:g.length ≤ c.length:=by rw [e3,List.length_append]; exact Nat.le_add_left _ _
      exact Nat.lt_irrefl _ (Nat.lt_of_lt_of_le hlt (eg ▸ this))
  unfold mrg
  rw [hov,ee,List.drop_left,h1]
theorem dd_short {w:List Nat} (h:IrrF w) (hl:(ddN w []).length < 2):ddN w [] = w:=by
  by_cases hw:w = []
  · rw [hw]; rfl
  obtain ⟨p,x,B,e1,_,_,_,e3,e4⟩:=front hw
  have hp:p = []:=by
    cases p with
    | nil=>rfl
    | cons a p =>
      rw [e3,List.length_append] at hl
      exact absurd (List.length_pos_of_mem (dd_in.mpr (List.mem_cons_self (a:=a) (l:=p)))) (Nat.not_lt.mpr (Nat.le_of_lt_succ (Nat.lt_of_succ_lt_succ hl)))
  subst hp
  cases B with
  | nil=>rw [e1]; rfl
  | cons b B =>
    have hb:b = x:=(e4 b (e1 ▸ List.mem_cons_of_mem _ List.mem_cons_self)).resolve_left List.not_mem_nil
    exact absurd (e1.trans (by rw [hb]; rfl)) (h [] ([x] ++ [x]) _ B (.inl ⟨[x],rfl,rfl⟩) (List.cons_ne_nil _ _))
theorem ker_irr (k:Nat):∀ {w S:List Nat},IrrF w→S.length ≤ k→(∀ z ∈ w,z ∈ S)→kerN k w = w:=by
  induction k with
  | zero =>
    intro w S h hS hw
    cases w with
    | nil=>rfl
    | cons z w=>exact absurd (List.length_pos_of_mem (hw z List.mem_cons_self)) (Nat.not_lt.mpr hS)
  | succ k ih =>
    intro w S h hS hw
    rw [kerN]
    by_cases hl:(ddN w []).length < 2
    · rw [if_pos hl]; exact dd_short h hl
    rw [if_neg hl]
    have hne:w ≠ []:=fun e=>hl (by rw [e]; decide)
    have side:∀ {v p B:List Nat} {x:Nat},(∀ z ∈ v,z ∈ S)→v = p ++ x :: B→x ∉ p→(S.erase x).length ≤ k ∧ ∀ z ∈ p,z ∈ S.erase x:=fun {v p B x} hv e hx=>by
      have hxS:=hv x (e ▸ List.mem_append_right _ List.mem_cons_self)
      refine ⟨by rw [List.length_erase_of_mem hxS]; exact Nat.sub_le_of_le_add hS,fun z hz=>(List.mem_erase_of_ne fun e:z = x=>hx (e ▸ hz)).mpr (hv z (e ▸ List.mem_append_left _ hz))⟩
    obtain ⟨p,x,B,e1,e2,e3,e4,_,e6⟩:=front hne
    obtain ⟨q,y,C,g1,g2,g3,g4,_,g6⟩:=front (w:=w.reverse) fun e=>hne (List.reverse_eq_nil_iff.mp e)
    have s1:=side hw e1 e4
    have s2:=side (fun z hz=>hw z (List.mem_reverse.mp hz)) g1 g4
    have hr:w = C.reverse ++ y :: q.reverse:=by rw [← List.reverse_reverse w,g1,List.reverse_append,List.reverse_cons,List.append_assoc]; rfl
    rw [e2,g2,e3,g3,ih (IrrF.pre (e1 ▸ h)) s1.1 s1.2,ih (IrrF.pre (g1 ▸ h.rev)).rev s2.1 fun z hz=>s2.2 z (List.mem_reverse.mp hz)]
    refine mrg_irr (B:=B) (D:=C.reverse) h (by rw [List.append_assoc]; exact e1) hr (fun z hz=>?_) fun z hz=>?_
    · exact (e6 z hz).elim (List.mem_append_left _) fun e=>List.mem_append_right _ (e ▸ List.mem_cons_self)
    · exact (g6 z (List.mem_reverse.mpr hz)).elim (fun h=>List.mem_cons_of_mem _ (List.mem_reverse.mpr h)) fun e=>e ▸ List.mem_cons_self
end Kt
end
section
namespace Kt
noncomputable def wA (w:List Nat) (i k:Nat):List (List Nat):=bif (w.drop i).take k == ((w.drop i).drop k).take k then [w.take i ++ (w.drop i).drop k] else []
noncomputable def wB (w:List Nat) (m i j:Nat):List (List Nat):=bif ((w.take m).drop i).contains (w.getD m 0) && sameN ((w.take m).drop i) ((w.drop (m + 1)).take j) then [w.take m ++ w.drop (m + 1)] else []
noncomputable def ways1 (w:List Nat):List (List Nat):=(List.range w.length).flatMap fun i=>(List.range ((w.length - i) / 2)).flatMap fun k=>wA w i (k + 1)
noncomputable def ways2 (w:List Nat):List (List Nat):=(List.range (w.length - 2)).flatMap fun m=>(List.range (m + 1)).flatMap fun i=>(List.range (w.length - (m + 2))).flatMap fun j=>wB w (m + 1) i (j + 1)
noncomputable def waysN (w:List Nat):List (List Nat):=ways1 w ++ ways2 w
theorem mem_if {α:Type} {c:Bool} {x y:α} (h:x ∈ (bif c then [y] else [])):c = true ∧ x = y:=by
  cases c with
  | true=>exact ⟨rfl,List.mem_singleton.mp h⟩
  | false=>cases h
theorem same_iff {a b:List Nat}:sameN a b = true ↔ ∀ z,z ∈ a ↔ z ∈ b:=by
  unfold sameN
  rw [Bool.and_eq_true,List.all_eq_true,List.all_eq_true]
  exact ⟨fun h z=>⟨fun hz=>List.contains_iff_mem.mp (h.1 z hz),fun hz=>List.contains_iff_mem.mp (h.2 z hz)⟩,fun h=>⟨fun z hz=>List.contains_iff_mem.mpr ((h z).mp hz),fun z hz=>List.contains_iff_mem.mpr ((h z).mpr hz)⟩⟩
theorem at_cons {w:List Nat} {m:Nat} (h:m < w.length):w.drop m = w.getD m 0 :: w.drop (m + 1):=by
  rw [List.drop_eq_getElem_cons h,List.getD_eq_getElem?_getD,List.getElem?_eq_getElem h]; rfl
theorem lt_pre {a b:List Nat} (p s:List Nat) (h:a.length < b.length):(p ++ (a ++ s)).length < (p ++ (b ++ s)).length:=by
  rw [List.length_append,List.length_append,List.length_append,List.length_append]
  exact Nat.add_lt_add_left (Nat.add_lt_add_right h _) _
theorem ways_red {w w':List Nat} (h:w' ∈ waysN w):Red w w' ∧ w'.length < w.length:=by
  rcases List.mem_append.mp h with h | h
  · obtain ⟨i,hi,h⟩:=List.mem_flatMap.mp h
    obtain ⟨k,hk,h⟩:=List.mem_flatMap.mp h
    obtain ⟨hc,e⟩:=mem_if h
    have hc:=eq_of_beq hc
    have hw:w = w.take i ++ w.drop i:=(List.take_append_drop i w).symm
    have hpos:0 < ((w.drop i).take (k + 1)).length:=by
      rw [List.length_take,List.length_drop]
      exact Nat.lt_min.mpr ⟨Nat.succ_pos k,Nat.sub_pos_of_lt (List.mem_range.mp hi)⟩
    generalize w.drop i = r at hc e hw hpos
    generalize w.take i = p at e hw
    have e1:r = r.take (k + 1) ++ r.drop (k + 1):=(List.take_append_drop _ r).symm
    have e2:r.drop (k + 1) = r.take (k + 1) ++ (r.drop (k + 1)).drop (k + 1):=hc ▸ (List.take_append_drop (k + 1) (r.drop (k + 1))).symm
    generalize (r.drop (k + 1)).drop (k + 1) = s at e2
    generalize r.take (k + 1) = u at e1 e2 hpos
    have hw:w = p ++ ((u ++ u) ++ s):=by rw [hw,e1,e2,List.append_assoc]
    rw [e2] at e
    rw [hw,e]
    exact ⟨⟨p,u ++ u,u,s,rfl,rfl,.inl ⟨u,rfl,rfl⟩⟩,lt_pre p s (by rw [List.length_append]; exact Nat.lt_add_of_pos_left hpos)⟩
  · obtain ⟨m,hm,h⟩:=List.mem_flatMap.mp h
    obtain ⟨i,hi,h⟩:=List.mem_flatMap.mp h
    obtain ⟨j,hj,h⟩:=List.mem_flatMap.mp h
    obtain ⟨hc,e⟩:=mem_if h
    obtain ⟨h1,h2⟩:=Bool.and_eq_true_iff.mp hc
    have hw:w = w.take (m + 1) ++ w.drop (m + 1):=(List.take_append_drop (m + 1) w).symm
    rw [at_cons (Nat.lt_of_succ_lt (Nat.add_lt_of_lt_sub (b:=2) (List.mem_range.mp hm)))] at hw
    generalize w.getD (m + 1) 0 = y at hw h1
    generalize w.take (m + 1) = a at hw h1 h2 e
    generalize w.drop (m + 1 + 1) = b at hw h2 e
    have ea:a = a.take i ++ a.drop i:=(List.take_append_drop i a).symm
    have eb:b = b.take (j + 1) ++ b.drop (j + 1):=(List.take_append_drop _ b).symm
    generalize a.drop i = u at ea h1 h2
    generalize a.take i = p at ea
    generalize b.take (j + 1) = v at eb h2
    generalize b.drop (j + 1) = s at eb
    have hw:w = p ++ ((u ++ y :: v) ++ s):=by rw [hw,ea,eb,List.append_assoc,List.append_assoc]; rfl
    have e:w' = p ++ ((u ++ v) ++ s):=by rw [e,ea,eb,List.append_assoc,List.append_assoc]
    rw [hw,e]
    exact ⟨⟨p,_,_,s,rfl,rfl,.inr ⟨u,y,v,rfl,rfl,List.contains_iff_mem.mp h1,same_iff.mp h2⟩⟩,lt_pre p s (by rw [List.length_append,List.length_append]; exact Nat.lt_succ_self _)⟩
theorem ways_irr {w:List Nat} (h:waysN w = []):IrrF w:=by
  obtain ⟨ha,hb⟩:=List.append_eq_nil_iff.mp h
  intro p m m' s hr hm e
  rcases hr with ⟨u,e1,_⟩ | ⟨u,y,v,e1,_,hy,hz⟩
  · cases u with
    | nil=>exact hm e1
    | cons x u =>
      have hd:w.drop p.length = x :: u ++ (x :: u ++ s):=by rw [e,List.drop_left,e1,List.append_assoc]
      have hw:w.length = p.length + ((u.length + 1) * 2 + s.length):=by rw [e,e1,List.length_append,List.length_append,List.length_append,Nat.mul_two]; rfl
      have h1:=List.flatMap_eq_nil_iff.mp ha p.length (List.mem_range.mpr (by omega))
      have h2:=List.flatMap_eq_nil_iff.mp h1 u.length (List.mem_range.mpr (by omega))
      unfold wA at h2
      rw [hd,show u.length + 1 = (x :: u).length from rfl,List.take_left,List.drop_left,List.take_left,beq_self_eq_true] at h2
      cases h2
  · have hu:0 < u.length:=List.length_pos_of_mem hy
    have hv:0 < v.length:=List.length_pos_of_mem ((hz y).mp hy)
    obtain ⟨n,hn⟩:∃ n,(p ++ u).length = n + 1:=Nat.exists_eq_add_one.mpr (by rw [List.length_append]; exact Nat.add_pos_right _ hu)
    obtain ⟨j,hj⟩:=Nat.exists_eq_add_one.mpr hv
    have e:w = (p ++ u) ++ y :: (v ++ s):=by rw [e,e1,List.append_assoc,List.append_assoc]; rfl
    have hw:w.length = (n + 1) + (j + 1 + s.length + 1):=by rw [e,List.length_append,hn,List.length_cons,List.length_append,hj]
    have hp:p.length < n + 1:=by rw [← hn,List.length_append]; exact Nat.lt_add_of_pos_right hu
    have h1:=List.flatMap_eq_nil_iff.mp hb n (List.mem_range.mpr (by omega))
    have h2:=List.flatMap_eq_nil_iff.mp h1 p.length (List.mem_range.mpr hp)
    have h3:=List.flatMap_eq_nil_iff.mp h2 j (List.mem_range.mpr (by omega))
    have hd:w.drop (n + 1) = y :: (v ++ s):=by rw [e,← hn,List.drop_left]
    have hc:=at_cons (w:=w) (m:=n + 1) (by omega)
    rw [hd] at hc
    injection hc with e2 e3
    unfold wB at h3
    rw [← e2,← e3,← hj,List.take_left,show w.take (n + 1) = p ++ u by rw [e,← hn,List.take_left],List.drop_left,List.contains_iff_mem.mpr hy,same_iff.mpr hz] at h3
    cases h3
end Kt
end
section
open PySem PySem.W PyProof.Rows
namespace Kt
noncomputable abbrev rowsD (ws:List (List Nat)):PyData:=.list (ws.map rowD)
section
variable {cl:Nat→List PyData→Option PyData} {F:Nat} {w:List Nat} {ws:List (List Nat)}
noncomputable abbrev wS (w:List Nat) (i m k j:Option PyData) (ws:List (List Nat)):PSt:=⟨[some (rowD w),some (rowsD ws),i,m,k,j],[1]⟩
theorem app_if {i m k j:Option PyData} {c e:PE} {v:List Nat} {t:Bool} (h:evE cl c (wS w i m k j ws).env = some (.bool t)) (he:evE cl e (wS w i m k j ws).env = some (rowD v)) (hn:(esc e).contains 1 = false) (hl:ws.length + 1 ≤ 100000) :
    exSs cl F (.cons (.ife c (.cons (.app 1 e) .nil) .nil) .nil) (wS w i m k j ws) = some (.next (wS w i m k j (ws ++ bif t then [v] else []))):=by
  refine xs_one ((xs_if h rfl).trans ?_)
  cases t with
  | false=>rw [cond_false,List.append_nil]; rfl
  | true =>
    refine xs_one ((xs_app (xs:=ws.map rowD) (d:=rowD v) rfl rfl he hn (by rw [List.length_map]; exact Nat.le_trans hl (by decide))).trans ?_)
    have e1:afterE [1] (rowD v) e = [1]:=(show afterE [1] (rowD v) e = bif !(esc e).contains 1 then [1] else [] from by unfold afterE lose; rw [if_neg (by exact Bool.false_ne_true)]; show List.filter _ [1] = _; rw [List.filter_cons]; cases (esc e).contains 1 <;> rfl).trans (by rw [hn]; rfl)
    have e2:ws.map rowD ++ [rowD v] = (ws ++ [v]).map rowD:=(List.map_append (f:=rowD) (l₁:=ws) (l₂:=[v])).symm
    rw [show (wS w i m k j ws).own = [1] from rfl,e1,e2]; rfl
theorem cat_le {a b:List Nat} (hw:w.length ≤ 1000) (ha:a.Sublist w) (hb:b.Sublist w):a.length + b.length ≤ 1000000:=Nat.le_trans (Nat.add_le_add ha.length_le hb.length_le) (Nat.le_trans (Nat.add_le_add hw hw) (by decide))
theorem stepA {i k:Nat} {m j:Option PyData} (hi:i ≤ 1000) (hk:k ≤ 1000) (hw:w.length ≤ 1000) (hl:ws.length + 1 ≤ 100000) :
    exSs cl F ba1_7 (wS w (some (.int (i:Int))) m (some (.int (k:Int))) j ws) = some (.next (wS w (some (.int (i:Int))) m (some (.int (k:Int))) j (ws ++ wA w i k))):=by
  have v0:evE cl (.var 0) (wS w (some (.int (i:Int))) m (some (.int (k:Int))) j ws).env = some (rowD w):=rfl
  have v2:evE cl (.var 2) (wS w (some (.int (i:Int))) m (some (.int (k:Int))) j ws).env = some (.int (i:Int)):=rfl
  have v4:evE cl (.var 4) (wS w (some (.int (i:Int))) m (some (.int (k:Int))) j ws).env = some (.int (k:Int)):=rfl
  have a1:=ev_addN v2 v4
  have m1:evE cl (.bin .Mult (.lit (.int 2)) (.var 4)) (wS w (some (.int (i:Int))) m (some (.int (k:Int))) j ws).env = some (.int ((2 * k:Nat):Int)):=ev_bin (x:=.int ((2:Nat):Int)) rfl v4 (if_pos (Bool.and_eq_true_iff.mpr ⟨fit_nat (by decide),fit_nat (Nat.le_trans hk (by decide))⟩))
  have a2:=ev_addN v2 m1
  have hik:i + k ≤ 2000:=Nat.add_le_add hi hk
  have e:i + 2 * k = i + k + k:=by rw [Nat.two_mul,Nat.add_assoc]
  have s1:=ev_slcR v0 v2 a1 rfl (Nat.le_trans hik (by decide))
  have s2:=ev_slcR v0 a1 a2 e (e ▸ Nat.le_trans (Nat.add_le_add hik hk) (by decide))
  have s3:=ev_sxlR v0 v2 (Nat.le_trans hi (by decide))
  have s4:=ev_slxR v0 a1 (Nat.le_trans hik (by decide))
  rw [← List.drop_drop] at s2 s4
  exact app_if (ev_eqr s1 s2) (ev_catr s3 s4 (cat_le hw (List.take_sublist _ _) ((List.drop_sublist _ _).trans (List.drop_sublist _ _)))) rfl hl
theorem stepB {i m j:Nat} {k:Option PyData} (hcl:∀ a b:List Nat,a.length ≤ 1000→b.length ≤ 1000→cl 11 [rowD a,rowD b] = some (.bool (sameN a b))) (hi:i ≤ m) (hm:m < w.length) (hj:j ≤ 1000) (hw:w.length ≤ 1000) (hl:ws.length + 1 ≤ 100000) :
    exSs cl F ba1_1 (wS w (some (.int (i:Int))) (some (.int (m:Int))) k (some (.int ((m + 2 + j:Nat):Int))) ws) = some (.next (wS w (some (.int (i:Int))) (some (.int (m:Int))) k (some (.int ((m + 2 + j:Nat):Int))) (ws ++ wB w m i (j + 1)))):=by
  have hm':m ≤ 1000:=Nat.le_trans (Nat.le_of_lt hm) hw
  have v0:evE cl (.var 0) (wS w (some (.int (i:Int))) (some (.int (m:Int))) k (some (.int ((m + 2 + j:Nat):Int))) ws).env = some (rowD w):=rfl
  have v2:evE cl (.var 2) (wS w (some (.int (i:Int))) (some (.int (m:Int))) k (some (.int ((m + 2 + j:Nat):Int))) ws).env = some (.int (i:Int)):=rfl
  have v3:evE cl (.var 3) (wS w (some (.int (i:Int))) (some (.int (m:Int))) k (some (.int ((m + 2 + j:Nat):Int))) ws).env = some (.int (m:Int)):=rfl
  have v5:evE cl (.var 5) (wS w (some (.int (i:Int))) (some (.int (m:Int))) k (some (.int ((m + 2 + j:Nat):Int))) ws).env = some (.int ((m + 2 + j:Nat):Int)):=rfl
  have a1:=ev_addN (b:=.lit (.int 1)) (q:=1) v3 rfl
  have x1:evE cl (.idx (.var 0) (.var 3)) (wS w (some (.int (i:Int))) (some (.int (m:Int))) k (some (.int ((m + 2 + j:Nat):Int))) ws).env = some (wD (w.getD m 0)):=ev_idx v0 v3 (Nat.le_trans hm' (by decide)) (by rw [List.getElem?_map,List.getD_eq_getElem?_getD,List.getElem?_eq_getElem hm]; rfl)
  have s1:=ev_slcR v0 v2 v3 (Nat.add_sub_cancel' hi).symm (Nat.le_trans hm' (by decide))
  rw [← List.drop_take] at s1
  have s2:=ev_slcR (k:=j + 1) v0 a1 v5 (Nat.add_right_comm (m + 1) 1 j) (Nat.le_trans (Nat.add_le_add (Nat.add_le_add_right hm' 2) hj) (by decide))
  have s3:=ev_sxlR v0 v3 (Nat.le_trans hm' (by decide))
  have s4:=ev_slxR v0 a1 (Nat.le_trans (Nat.add_le_add_right hm' 1) (by decide))
  have c2:=ev_call2 s1 s2 (hcl _ _ (Nat.le_trans ((List.drop_sublist _ _).trans (List.take_sublist _ _)).length_le hw) (Nat.le_trans ((List.take_sublist _ _).trans (List.drop_sublist _ _)).length_le hw))
  exact app_if (ev_andB (ev_in x1 s1) c2) (ev_catr s3 s4 (cat_le hw (List.take_sublist _ _) (List.drop_sublist _ _))) rfl hl
theorem if_le {c:Bool} {v:List Nat}:(bif c then [v] else []).length ≤ 1:=by cases c <;> exact Nat.le_of_ble_eq_true rfl
theorem loopA {i:Nat} {m k j:Option PyData} (hi:i ≤ w.length) (hw:w.length ≤ 20) (hl:ws.length + 20 ≤ 100000) :
    ∃ k',exSs cl F ba1_9 (wS w (some (.int (i:Int))) m k j ws) = some (.next (wS w (some (.int (i:Int))) m k' j (ws ++ (List.range ((w.length - i) / 2)).flatMap fun k=>wA w i (k + 1)))):=by
  have v2:evE cl (.var 2) (wS w (some (.int (i:Int))) m k j ws).env = some (.int (i:Int)):=rfl
  have d1:=ev_subN (ev_lenR (a:=.var 0) (ρ:=(wS w (some (.int (i:Int))) m k j ws).env) (cl:=cl) (w:=w) rfl) v2 hi
  have d2:=ev_bin (op:=.FloorDiv) (b:=.lit (.int 2)) d1 rfl (fdivN (q:=2) (by decide) (by decide))
  have hq:(w.length - i) / 2 ≤ 20:=Nat.le_trans (Nat.div_le_self _ _) (Nat.le_trans (Nat.sub_le _ _) hw)
  have rg:=ev_rg2 (a:=.lit (.int 1)) (p:=1) rfl (ev_addN (b:=.lit (.int 1)) (q:=1) d2 rfl) (by decide) (Nat.le_trans (Nat.add_le_add_right hq 1) (by decide))
  obtain ⟨σ',h1,k',h2⟩:=for_flat (cl:=cl) (F:=F) (x:=4) (c:=1) (p:=1) (n:=(w.length - i) / 2) (i:=ia1_6) (b:=ba1_7) (S:=fun ws σ=>∃ k,σ = wS w (some (.int (i:Int))) m k j ws) (g:=fun k=>wA w i (k + 1)) rg rfl ⟨k,rfl⟩ (by rw [Nat.mul_one]; exact Nat.le_trans (Nat.add_le_add_left hq _) hl) (fun k _=>if_le) fun k hk ws σ hl h=>by
    obtain ⟨k',rfl⟩:=h
    rw [Nat.add_comm 1 k]
    exact ⟨_,stepA (Nat.le_trans hi (Nat.le_trans hw (by decide))) (Nat.le_trans hk (Nat.le_trans hq (by decide))) (Nat.le_trans hw (by decide)) hl,_,rfl⟩
  exact ⟨k',xs_one (h2 ▸ h1)⟩
theorem ways1_len (hw:w.length ≤ 20):(ways1 w).length ≤ 400 :=
  Nat.le_trans (fm_rg (c:=20) fun i _=>Nat.le_trans (fm_rg (c:=1) fun _ _=>if_le) (by rw [Nat.mul_one]; exact Nat.le_trans (Nat.div_le_self _ _) (Nat.le_trans (Nat.sub_le _ _) hw))) (Nat.mul_le_mul_right 20 hw)
theorem loopA1 {i m k j:Option PyData} (hw:w.length ≤ 20) (hl:ws.length + 400 ≤ 100000) :
    ∃ i' k',exS cl F (.for_ (.one 2) ia1_8 ba1_9) (wS w i m k j ws) = some (.next (wS w i' m k' j (ws ++ ways1 w))):=by
  have rg:=ev_rg1 (ev_lenR (a:=.var 0) (ρ:=(wS w i m k j ws).env) (cl:=cl) (w:=w) rfl) (Nat.le_trans hw (by decide))
  obtain ⟨σ',h1,i',k',h2⟩:=for_flat (cl:=cl) (F:=F) (x:=2) (c:=20) (i:=ia1_8) (b:=ba1_9) (S:=fun ws σ=>∃ i k,σ = wS w i m k j ws) (g:=fun i=>(List.range ((w.length - i) / 2)).flatMap fun k=>wA w i (k + 1)) rg rfl ⟨i,k,rfl⟩ (Nat.le_trans (Nat.add_le_add_left (Nat.mul_le_mul_right 20 hw) _) hl) (fun i _=>Nat.le_trans (fm_rg (c:=1) fun _ _=>if_le) (by rw [Nat.mul_one]; exact Nat.le_trans (Nat.div_le_self _ _) (Nat.le_trans (Nat.sub_le _ _) hw))) fun q hq ws σ hl h=>by
    obtain ⟨i',k',rfl⟩:=h
    rw [Nat.zero_add]
    obtain ⟨k'',g⟩:=loopA (cl:=cl) (F:=F) (m:=m) (k:=k') (j:=j) (Nat.le_of_lt hq) hw hl
    exact ⟨_,g,_,k'',rfl⟩
  exact ⟨i',k',h2 ▸ h1⟩
theorem loopB {i m:Nat} {k j:Option PyData} (hcl:∀ a b:List Nat,a.length ≤ 1000→b.length ≤ 1000→cl 11 [rowD a,rowD b] = some (.bool (sameN a b))) (hi:i ≤ m + 1) (hm:m + 1 < w.length) (hw:w.length ≤ 20) (hl:ws.length + 20 ≤ 100000) :
    ∃ j',exSs cl F ba1_3 (wS w (some (.int (i:Int))) (some (.int ((m + 1:Nat):Int))) k j ws) = some (.next (wS w (some (.int (i:Int))) (some (.int ((m + 1:Nat):Int))) k j' (ws ++ (List.range (w.length - (m + 2))).flatMap fun j=>wB w (m + 1) i (j + 1)))):=by
  have v3:evE cl (.var 3) (wS w (some (.int (i:Int))) (some (.int ((m + 1:Nat):Int))) k j ws).env = some (.int ((m + 1:Nat):Int)):=rfl
  have rg:=ev_rg2 (ev_addN (b:=.lit (.int 2)) (q:=2) v3 rfl) (ev_addN (b:=.lit (.int 1)) (q:=1) (ev_lenR (a:=.var 0) (ρ:=(wS w (some (.int (i:Int))) (some (.int ((m + 1:Nat):Int))) k j ws).env) (cl:=cl) (w:=w) rfl) rfl) (Nat.le_trans (Nat.succ_le_succ hm) (Nat.le_trans (Nat.succ_le_succ hw) (by decide))) (Nat.le_trans (Nat.succ_le_succ hw) (by decide))
  rw [show w.length + 1 - (m + 1 + 2) = w.length - (m + 2) from Nat.add_sub_add_right _ 1 _] at rg
  obtain ⟨σ',h1,j',h2⟩:=for_flat (cl:=cl) (F:=F) (x:=5) (c:=1) (i:=ia1_0) (b:=ba1_1) (S:=fun ws σ=>∃ j,σ = wS w (some (.int (i:Int))) (some (.int ((m + 1:Nat):Int))) k j ws) (g:=fun j=>wB w (m + 1) i (j + 1)) rg rfl ⟨j,rfl⟩ (by rw [Nat.mul_one]; exact Nat.le_trans (Nat.add_le_add_left (Nat.le_trans (Nat.sub_le _ _) hw) _) hl) (fun _ _=>if_le) fun q hq ws σ hl h=>by
    obtain ⟨j',rfl⟩:=h
    exact ⟨_,stepB hcl hi hm (Nat.le_trans (Nat.le_of_lt hq) (Nat.le_trans (Nat.sub_le _ _) (Nat.le_trans hw (by decide)))) (Nat.le_trans hw (by decide)) hl,_,rfl⟩
  exact ⟨j',xs_one (h2 ▸ h1)⟩
theorem wB_len {m i:Nat} (hw:w.length ≤ 20):((List.range (w.length - (m + 2))).flatMap fun j=>wB w (m + 1) i (j + 1)).length ≤ 20:=Nat.le_trans (fm_rg (c:=1) fun _ _=>if_le) (by rw [Nat.mul_one]; exact Nat.le_trans (Nat.sub_le _ _) hw)
theorem wB1_len {m:Nat} (hm:m < 20) (hw:w.length ≤ 20):((List.range (m + 1)).flatMap fun i=>(List.range (w.length - (m + 2))).flatMap fun j=>wB w (m + 1) i (j + 1)).length ≤ 400:=Nat.le_trans (fm_rg (c:=20) fun _ _=>wB_len hw) (Nat.mul_le_mul_right 20 hm)
theorem loopB1 {m:Nat} {i k j:Option PyData} (hcl:∀ a b:List Nat,a.length ≤ 1000→b.length ≤ 1000→cl 11 [rowD a,rowD b] = some (.bool (sameN a b))) (hm:m + 1 < w.length) (hw:w.length ≤ 20) (hl:ws.length + 400 ≤ 100000) :
    ∃ i' j',exSs cl F ba1_5 (wS w i (some (.int ((m + 1:Nat):Int))) k j ws) = some (.next (wS w i' (some (.int ((m + 1:Nat):Int))) k j' (ws ++ (List.range (m + 1)).flatMap fun i=>(List.range (w.length - (m + 2))).flatMap fun j=>wB w (m + 1) i (j + 1)))):=by
  have hm20:m + 1 ≤ 20:=Nat.le_trans (Nat.le_of_lt hm) hw
  have rg:=ev_rg1 (cl:=cl) (a:=.var 3) (ρ:=(wS w i (some (.int ((m + 1:Nat):Int))) k j ws).env) (q:=m + 1) rfl (Nat.le_trans hm20 (by decide))
  obtain ⟨σ',h1,i',j',h2⟩:=for_flat (cl:=cl) (F:=F) (x:=2) (c:=20) (i:=ia1_2) (b:=ba1_3) (S:=fun ws σ=>∃ i j,σ = wS w i (some (.int ((m + 1:Nat):Int))) k j ws) (g:=fun i=>(List.range (w.length - (m + 2))).flatMap fun j=>wB w (m + 1) i (j + 1)) rg rfl ⟨i,j,rfl⟩ (Nat.le_trans (Nat.add_le_add_left (Nat.mul_le_mul_right 20 hm20) _) hl) (fun _ _=>wB_len hw) fun q hq ws σ hl h=>by
    obtain ⟨i',j',rfl⟩:=h
    rw [Nat.zero_add]
    obtain ⟨j'',g⟩:=loopB (cl:=cl) (F:=F) (k:=k) (j:=j') hcl (Nat.le_of_lt hq) hm hw hl
    exact ⟨_,g,_,j'',rfl⟩
  exact ⟨i',j',xs_one (h2 ▸ h1)⟩
theorem ways2_len (hw:w.length ≤ 20):(ways2 w).length ≤ 8000 :=
  Nat.le_trans (fm_rg (c:=400) fun m hm=>wB1_len (Nat.lt_of_lt_of_le hm (Nat.le_trans (Nat.sub_le _ _) hw)) hw) (Nat.mul_le_mul_right 400 (Nat.le_trans (Nat.sub_le _ _) hw))
theorem loopB2 {i m k j:Option PyData} (hcl:∀ a b:List Nat,a.length ≤ 1000→b.length ≤ 1000→cl 11 [rowD a,rowD b] = some (.bool (sameN a b))) (h1w:1 ≤ w.length) (hw:w.length ≤ 20) (hl:ws.length + 8000 ≤ 100000) :
    ∃ i' m' j',exS cl F (.for_ (.one 3) ia1_4 ba1_5) (wS w i m k j ws) = some (.next (wS w i' m' k j' (ws ++ ways2 w))):=by
  have rg:=ev_rg2 (a:=.lit (.int 1)) (p:=1) rfl (ev_subN (b:=.lit (.int 1)) (q:=1) (ev_lenR (a:=.var 0) (ρ:=(wS w i m k j ws).env) (cl:=cl) (w:=w) rfl) rfl h1w) (by decide) (Nat.le_trans (Nat.sub_le _ _) (Nat.le_trans hw (by decide)))
  obtain ⟨σ',h1,i',m',j',h2⟩:=for_flat (cl:=cl) (F:=F) (x:=3) (c:=400) (n:=w.length - 2) (i:=ia1_4) (b:=ba1_5) (S:=fun ws σ=>∃ i m j,σ = wS w i m k j ws) (g:=fun m=>(List.range (m + 1)).flatMap fun i=>(List.range (w.length - (m + 2))).flatMap fun j=>wB w (m + 1) i (j + 1)) rg rfl ⟨i,m,j,rfl⟩ (Nat.le_trans (Nat.add_le_add_left (Nat.mul_le_mul_right 400 (Nat.le_trans (Nat.sub_le _ _) hw)) _) hl) (fun m hm=>wB1_len (Nat.lt_of_lt_of_le hm (Nat.le_trans (Nat.sub_le _ _) hw)) hw) fun q hq ws σ hl h=>by
    obtain ⟨i',m',j',rfl⟩:=h
    rw [Nat.add_comm 1 q]
    obtain ⟨i'',j'',g⟩:=loopB1 (cl:=cl) (F:=F) (i:=i') (k:=k) (j:=j') hcl (Nat.lt_of_succ_lt (Nat.add_lt_of_lt_sub (b:=2) hq)) hw hl
    exact ⟨_,g,i'',_,j'',rfl⟩
  exact ⟨i',m',j',h2 ▸ h1⟩
end
theorem ways_run {prim:Nat→List PyData→Option PyData} {F l:Nat} {w:List Nat} (hcl:∀ a b:List Nat,a.length ≤ 1000→b.length ≤ 1000→runF tab_a prim F l 11 [rowD a,rowD b] = some (.bool (sameN a b))) (h1:1 ≤ w.length) (hw:w.length ≤ 20) :
    runF tab_a prim F (l + 1) 1 [rowD w] = some (rowsD (waysN w)):=by
  obtain ⟨i',k',e1⟩:=loopA1 (cl:=runF tab_a prim F l) (F:=F) (w:=w) (i:=none) (m:=none) (k:=none) (j:=none) (ws:=[]) hw (by decide)
  obtain ⟨i'',m'',j'',e2⟩:=loopB2 (F:=F) (i:=i') (m:=none) (k:=k') (j:=none) (ws:=ways1 w) hcl h1 hw (Nat.le_trans (Nat.add_le_add_right (ways1_len hw) _) (by decide))
  exact run_of (pf:=pa1) rfl rfl ((xs_next (xs_asg (d:=rowsD []) rfl)).trans ((xs_next e1).trans ((xs_next e2).trans (xs_rt rfl))))
theorem ways_len {w:List Nat} (hw:w.length ≤ 20):(waysN w).length ≤ 1000000:=by
  unfold waysN
  rw [List.length_append]
  exact Nat.le_trans (Nat.add_le_add (ways1_len hw) (ways2_len hw)) (by decide)
end Kt
end
section
open PySem PySem.W PyProof.Rows
namespace Kt
theorem modI {i:Int} {q:Nat} (h:0 < q):∃ p:Nat,p < q ∧ i.fmod q = (p:Int) ∧ binD .Mod (.int i) (.int (q:Int)) = some (.int (p:Int)):=by
  have hb:(0:Int) < (q:Int):=Int.natCast_pos.mpr h
  obtain ⟨p,hp⟩:=Int.eq_ofNat_of_zero_le (Int.fmod_nonneg_of_pos i hb)
  refine ⟨p,Int.ofNat_lt.mp (hp ▸ Int.fmod_lt_of_pos i hb),hp,?_⟩
  show (if 0 < (q:Int) then some (PyData.int (i.fmod (q:Int))) else none) = _
  rw [if_pos hb,hp]
section
variable {cl:Nat→List PyData→Option PyData} {F:Nat} {cs:List Int} {w:List Nat} {t:Nat} {ws:List (List Nat)}
noncomputable abbrev lS (w:List Nat) (cs:List Int) (t:Nat) (ws:List (List Nat)):PSt:=⟨[some (rowD w),some (.list (cs.map .int)),some (.int (t:Int)),some (rowsD ws)],[]⟩
theorem lTest_of {b:Bool} (h:ws.isEmpty = !b):(evE cl ca2_0 (lS w cs t ws).env).bind truthD = some b:=by
  have e:cmpD .NotEq (rowsD ws) (.list []) = some (.bool b):=(if_pos (show eqOk (rowsD ws) (.list []) = true from decide_eq_true (Nat.le_trans (Nat.min_le_right _ _) (by decide +kernel)))).trans (congrArg (fun b=>some (PyData.bool b)) (by cases ws <;> cases b <;> first | rfl | cases h))
  exact congrArg (Option.bind · truthD) (ev_cmp (cl:=cl) (ρ:=(lS w cs t ws).env) (a:=.var 3) (b:=.list .nil) rfl rfl e)
theorem lStep (hc:0 < cs.length) (hcl:cs.length ≤ 1000) (hw:0 < ws.length) (hwl:ws.length ≤ 1000000) (hcall:∀ v ∈ ws,cl 1 [rowD v] = some (rowsD (waysN v))) :
    ∃ v ∈ ws,exSs cl F ba2_1 (lS w cs t ws) = some (.next (lS v cs (t + 1) (waysN v))):=by
  have v1:evE cl (.var 1) (lS w cs t ws).env = some (.list (cs.map .int)):=rfl
  have v2:evE cl (.var 2) (lS w cs t ws).env = some (.int (t:Int)):=rfl
  have v3:evE cl (.var 3) (lS w cs t ws).env = some (.list (ws.map rowD)):=rfl
  have l1:=ev_len v1
  have l3:=ev_len v3
  rw [List.length_map] at l1 l3
  obtain ⟨p,hp,_,e1⟩:=modI (i:=t) hc
  have e2:=ev_idx (x:=.int (cs[p]'hp)) v1 (ev_bin v2 l1 e1) (Nat.le_trans (Nat.le_of_lt hp) (Nat.le_trans hcl (by decide))) (by rw [List.getElem?_map,List.getElem?_eq_getElem hp]; rfl)
  obtain ⟨q,hq,_,e3⟩:=modI (i:=cs[p]'hp) hw
  have e4:=ev_idx (x:=rowD (ws[q]'hq)) v3 (ev_bin e2 l3 e3) (Nat.le_trans (Nat.le_of_lt hq) hwl) (by rw [List.getElem?_map,List.getElem?_eq_getElem hq]; rfl)
  have hm:ws[q]'hq ∈ ws:=List.getElem_mem hq
  generalize ws[q]'hq = v at e4 hm
  have f1:evE cl (.bin .Add (.var 2) (.lit (.int 1))) (lS v cs t ws).env = some (.int ((t + 1:Nat):Int)):=ev_addN (b:=.lit (.int 1)) (q:=1) rfl rfl
  have a2:exS cl F (.assign2 2 3 (.bin .Add (.var 2) (.lit (.int 1))) (.call 1 (.cons (.var 0) .nil))) (lS v cs t ws) = some (.next (lS v cs (t + 1) (waysN v))) :=
    xs_asg2 f1 (ev_call1 (x:=rowD v) rfl (hcall v hm))
  exact ⟨v,hm,(xs_next (xs_asg e4)).trans (xs_one a2)⟩
theorem dd_pos {w v:List Nat} (hd:ddN w [] = ddN v []) (h:1 ≤ w.length):1 ≤ v.length:=by
  cases v with
  | nil =>
    cases w with
    | nil=>cases h
    | cons a w=>exact absurd (hd ▸ dd_in.mpr (List.mem_cons_self (a:=a) (l:=w))) List.not_mem_nil
  | cons a v=>exact Nat.succ_pos _
theorem lLoop (hc:0 < cs.length) (hcl:cs.length ≤ 1000) (hcall:∀ v:List Nat,1 ≤ v.length→v.length ≤ 20→cl 1 [rowD v] = some (rowsD (waysN v))) (n:Nat):∀ {w:List Nat} {t m:Nat},w.length ≤ n→1 ≤ w.length→w.length ≤ 20 →
    ∃ w' t',whileLoopP (fun τ=>(evE cl ca2_0 τ.env).bind truthD) (exSs cl F ba2_1) (m + 1 + n) (lS w cs t (waysN w)) = some (.next (lS w' cs t' [])) ∧ waysN w' = [] ∧ (∀ k,kerN k w = kerN k w') ∧ ddN w [] = ddN w' [] ∧ w'.length ≤ 20:=by
  induction n with
  | zero=>exact fun h1 h2=>absurd (Nat.le_trans h2 h1) (by decide)
  | succ n ih =>
    intro w t m h1 h2 h3
    cases hw:waysN w with
    | nil=>exact ⟨w,t,wl_end (n:=m + 1 + n) (lTest_of rfl),hw,fun _=>rfl,rfl,h3⟩
    | cons u us =>
      have hs:∀ v ∈ u :: us,Red w v ∧ v.length < w.length:=fun v hv=>ways_red (hw ▸ hv)
      have hb:∀ v ∈ u :: us,1 ≤ v.length ∧ v.length ≤ 20:=fun v hv=>⟨dd_pos (hs v hv).1.dd h2,Nat.le_trans (Nat.le_of_lt (hs v hv).2) h3⟩
      obtain ⟨v,hv,e1⟩:=lStep (F:=F) (w:=w) (t:=t) (ws:=u :: us) hc hcl (Nat.succ_pos _) (hw ▸ ways_len h3) fun v hv=>hcall v (hb v hv).1 (hb v hv).2
      obtain ⟨r,hl⟩:=hs v hv
      obtain ⟨w',t',g1,g2,g3,g4,g5⟩:=ih (w:=v) (t:=t + 1) (m:=m) (Nat.le_of_lt_succ (Nat.lt_of_lt_of_le hl h1)) (hb v hv).1 (hb v hv).2
      exact ⟨w',t',(wl_step (n:=m + 1 + n) (lTest_of rfl) e1).trans g1,g2,fun k=>(ker_red k r).trans (g3 k),r.dd.trans g4,g5⟩
end
theorem left_run {prim:Nat→List PyData→Option PyData} {F l:Nat} {w:List Nat} {cs:List Int} (hc:0 < cs.length) (hcl:cs.length ≤ 1000) (hcall:∀ v:List Nat,1 ≤ v.length→v.length ≤ 20→runF tab_a prim (F + 21) l 1 [rowD v] = some (rowsD (waysN v))) (h1:1 ≤ w.length) (hw:w.length ≤ 20) :
    ∃ w',runF tab_a prim (F + 21) (l + 1) 2 [rowD w,.list (cs.map .int)] = some (rowD w') ∧ waysN w' = [] ∧ (∀ k,kerN k w = kerN k w') ∧ ddN w [] = ddN w' [] ∧ w'.length ≤ 20:=by
  obtain ⟨w',t',g1,g⟩:=lLoop (cl:=runF tab_a prim (F + 21) l) (F:=F + 21) hc hcl hcall 20 (w:=w) (t:=0) (m:=F) hw h1 hw
  have a1:exS (runF tab_a prim (F + 21) l) (F + 21) (.assign2 2 3 (.lit (.int 0)) (.call 1 (.cons (.var 0) .nil))) ⟨initEnv 4 [rowD w,.list (cs.map .int)],[]⟩ = some (.next (lS w cs 0 (waysN w))):=xs_asg2 (d:=.int 0) rfl (ev_call1 (x:=rowD w) rfl (hcall w h1 hw))
  exact ⟨w',run_of (pf:=pa2) rfl rfl ((xs_next a1).trans ((xs_next (show exS (runF tab_a prim (F + 21) l) (F + 21) (.while_ ca2_0 ba2_1) (lS w cs 0 (waysN w)) = some (.next (lS w' cs t' [])) from g1)).trans (xs_rt rfl))),g⟩
end Kt
end
section
open PySem PySem.W PyProof.Rows
namespace Kt
noncomputable def bsC (c:Nat):Bool:=c == 91 || (!badC c && specC c)
noncomputable def pcC (i b:Bool) (c:Nat):List Nat:=(bif i then [91] else []) ++ ((bif b then [92] else []) ++ c :: (bif i then [93] else []))
noncomputable def hdC (i b:Bool) (c:Nat):Nat:=bif i then 91 else bif b then 92 else c
noncomputable def okSg (c:Nat):Bool:=pl c == pcC (badC c) (bsC c) c && (!Txt.contains "()*+?{|^$." ⟨#[hdC (badC c) (bsC c) c]⟩ && (((hdC (badC c) (bsC c) c == 91) == badC c) && (((bif bsC c then 92 else c) == 92) == bsC c && (Txt.contains "*?[" ⟨#[c]⟩ == badC c))))
theorem sg_ok {c:Nat} (h:sgnC c = true):okSg c = true:=by
  rcases Bool.or_eq_true_iff.mp h with h | h
  · exact List.all_eq_true.mp (show ([97,39,91,32,34,42,92,93,63,35,45,98,33]:List Nat).all okSg = true by kernel_rfl) c (List.contains_iff_mem.mp h)
  · obtain ⟨k,rfl⟩:=Nat.exists_eq_add_of_le (of_decide_eq_true h)
    rw [Nat.add_comm]
    have e:pl (k + 256) = [k + 256]:=by kernel_rfl
    have e2:pcC (badC (k + 256)) (bsC (k + 256)) (k + 256) = [k + 256]:=by kernel_rfl
    have e3:hdC (badC (k + 256)) (bsC (k + 256)) (k + 256) = k + 256:=by kernel_rfl
    unfold okSg
    rw [e,e2,e3,beq_self_eq_true,Bool.true_and]
    kernel_rfl
theorem one_beq (a b:Nat):([a] == [b]) = (a == b):=by
  by_cases h:a = b
  · rw [h,beq_self_eq_true,beq_self_eq_true]
  · rw [beq_false_of_ne h,beq_false_of_ne fun e=>h (List.cons.inj e).1]
section
variable {cl:Nat→List PyData→Option PyData} {F:Nat} {T A B t X Y:List Nat} {c k:Nat} {i b:Bool} {v:Option PyData}
noncomputable abbrev tS (T A B t:List Nat) (k:Nat) (i:Option PyData):PSt:=⟨[some (sD T),some (sD A),some (sD B),some (sD t),some (.int (k:Int)),i],[]⟩
theorem at_add (l:List Nat) (q:Nat):(X ++ l)[X.length + q]? = l[q]?:=by rw [List.getElem?_append_right (Nat.le_add_right _ _),Nat.add_sub_cancel_left]
theorem le_one (b:Bool):(bif b then 1 else 0) ≤ 1:=by cases b <;> exact Nat.le_of_ble_eq_true rfl
theorem told_step (hT:T = X ++ (pcC i b c ++ Y)) (o1:Txt.contains "()*+?{|^$." ⟨#[hdC i b c]⟩ = false) (o2:(hdC i b c == 91) = i) (o3:((bif b then 92 else c) == 92) = b) (hl:T.length ≤ 10000) (ht:t.length ≤ 10000) :
    exSs cl F ba3_1 (tS T A B t X.length v) = some (.next (tS T A B (t ++ [c]) (X.length + (pcC i b c).length) (some (.bool i)))):=by
  have hk:X.length ≤ 10000:=by rw [hT,List.length_append] at hl; exact Nat.le_trans (Nat.le_add_right _ _) hl
  have h1:X.length + (bif i then 1 else 0) ≤ 10001:=Nat.add_le_add hk (le_one i)
  have h2:X.length + (bif i then 1 else 0) + (bif b then 1 else 0) ≤ 10002:=Nat.add_le_add h1 (le_one b)
  have g0:T[X.length]? = some (hdC i b c):=by rw [hT,show X.length = X.length + 0 from rfl,at_add]; cases i <;> cases b <;> rfl
  have g1:T[X.length + (bif i then 1 else 0)]? = some (bif b then 92 else c):=by rw [hT,at_add]; cases i <;> cases b <;> rfl
  have g2:T[X.length + (bif i then 1 else 0) + (bif b then 1 else 0)]? = some c:=by rw [hT,Nat.add_assoc,at_add]; cases i <;> cases b <;> rfl
  have g3:i = true→T[X.length + (bif i then 1 else 0) + (bif b then 1 else 0) + 1]? = some 93:=fun hi=>by rw [hT,Nat.add_assoc,Nat.add_assoc,at_add,hi]; cases b <;> rfl
  have e1:=ev_eqS (cl:=cl) (ρ:=(tS T A B t X.length v).env) (a:=.idx (.var 0) (.var 4)) (b:=.lit (.str ("[" : Str))) (x:=[hdC i b c]) (y:=[91]) (ev_idxS (l:=T) rfl rfl (Nat.le_trans hk (by decide)) g0) rfl
  rw [one_beq,o2] at e1
  have e2:=ev_inS (cl:=cl) (ρ:=(tS T A B t X.length (some (.bool i))).env) (a:=.idx (.var 0) (.var 4)) (b:=.lit (.str ("()*+?{|^$." : Str))) (x:=("()*+?{|^$." : Str).cps.toList) (y:=[hdC i b c]) (t:=false) (ev_idxS (l:=T) rfl rfl (Nat.le_trans hk (by decide)) g0) rfl o1
  have s3:=xs_augN (cl:=cl) (F:=F) (x:=4) (e:=.ite (.var 5) (.lit (.int 1)) (.lit (.int 0))) (σ:=tS T A B t X.length (some (.bool i))) (p:=X.length) rfl (ev_iteN (c:=.var 5) (p:=1) (q:=0) rfl)
  have e4:=ev_eqS (cl:=cl) (ρ:=(tS T A B t (X.length + (bif i then 1 else 0)) (some (.bool i))).env) (a:=.idx (.var 0) (.var 4)) (b:=.lit (.str ("\\" : Str))) (x:=[bif b then 92 else c]) (y:=[92]) (ev_idxS (l:=T) rfl rfl (Nat.le_trans h1 (by decide)) g1) rfl
  rw [one_beq,o3] at e4
  have s4:=xs_augN (cl:=cl) (F:=F) (x:=4) (σ:=tS T A B t (X.length + (bif i then 1 else 0)) (some (.bool i))) (p:=X.length + (bif i then 1 else 0)) rfl (ev_iteN (p:=1) (q:=0) e4)
  have x2:evE cl (.idx (.var 0) (.var 4)) (tS T A B t (X.length + (bif i then 1 else 0) + (bif b then 1 else 0)) (some (.bool i))).env = some (sD [c]):=ev_idxS (l:=T) rfl rfl (Nat.le_trans h2 (by decide)) g2
  have s5:=xs_augS (cl:=cl) (F:=F) (x:=3) (σ:=tS T A B t (X.length + (bif i then 1 else 0) + (bif b then 1 else 0)) (some (.bool i))) (p:=t) rfl x2 (Nat.le_trans (Nat.add_le_add_right ht 1) (by decide))
  have e6:=ev_and (cl:=cl) (ρ:=(tS T A B (t ++ [c]) (X.length + (bif i then 1 else 0) + (bif b then 1 else 0)) (some (.bool i))).env) (a:=.var 5) (b:=.cmp .NotEq (.idx (.var 0) (.bin .Add (.var 4) (.lit (.int 1)))) (.lit (.str ("]" : Str)))) (x:=i) (y:=.bool false) rfl fun hi =>
    ev_neS (x:=[93]) (y:=[93]) (ev_idxS (l:=T) (p:=X.length + (bif i then 1 else 0) + (bif b then 1 else 0) + 1) rfl (ev_addN (b:=.lit (.int 1)) (q:=1) rfl rfl) (Nat.le_trans (Nat.succ_le_succ h2) (by decide)) (g3 hi)) rfl
  have e6':=e6.trans (show _ = some (PyData.bool false) by cases i <;> rfl)
  have s7:=xs_augN (cl:=cl) (F:=F) (x:=4) (σ:=tS T A B (t ++ [c]) (X.length + (bif i then 1 else 0) + (bif b then 1 else 0)) (some (.bool i))) (p:=X.length + (bif i then 1 else 0) + (bif b then 1 else 0)) rfl (ev_iteN (c:=.var 5) (p:=2) (q:=1) rfl)
  have hlen:X.length + (bif i then 1 else 0) + (bif b then 1 else 0) + (bif i then 2 else 1) = X.length + (pcC i b c).length:=by rw [Nat.add_assoc,Nat.add_assoc]; cases i <;> cases b <;> rfl
  rw [hlen] at s7
  exact (xs_next (xs_asg e1)).trans ((xs_next (xs_no e2 rfl)).trans ((xs_next s3).trans ((xs_next s4).trans ((xs_next s5).trans ((xs_next (xs_no e6' rfl)).trans (xs_one s7))))))
end
end Kt
end
section
open PySem PySem.W PyProof.Rows
namespace Kt
theorem pc_all {i b:Bool} {c:Nat} {p:Nat→Bool} (h1:p 91 = true) (h2:p 92 = true) (h3:p 93 = true) (h:p c = true):(pcC i b c).all p = true:=by
  have e:(pcC i b c).all p = ((bif i then [91] else []).all p && ((bif b then [92] else []).all p && (p c && (bif i then [93] else []).all p))):=by unfold pcC; rw [List.all_append,List.all_append]; rfl
  have g:∀ (t:Bool) {a:Nat},p a = true→(bif t then [a] else []).all p = true:=fun t a ha=>by
    cases t with
    | false=>rfl
    | true=>exact (Bool.and_true _).trans ha
  rw [e,h,g i h1,g b h2,g i h3]; rfl
theorem pl_all {c:Nat} (h:sgL c = true):(pl c).all (fun c=>decide (c < 0x110000)) = true:=by
  rw [eq_of_beq (andT (sg_ok (sgL_ok h).1)).1]
  exact pc_all rfl rfl rfl (decide_eq_true (sgL_ok h).2)
theorem pls_all {cs:List Nat} (h:∀ c ∈ cs,sgL c = true):(cs.map pl).flatten.all (fun c=>decide (c < 0x110000)) = true:=by
  rw [List.all_flatten,List.all_map]
  exact List.all_eq_true.mpr fun c hc=>pl_all (h c hc)
theorem re_ok {l:List Nat} (h:l.all (fun c=>decide (c < 0x110000)) = true) (hl:l.length ≤ 5000):okD (reT l) = true:=by
  refine okD_cps ?_ ?_
  · rw [List.all_append,List.all_append,h]; rfl
  · rw [List.length_append,List.length_append]; exact Nat.le_trans (Nat.add_le_add_right (Nat.add_le_add_left hl 4) 3) (by decide)
section
variable {cl:Nat→List PyData→Option PyData} {F:Nat} {T A B P:List Nat} {cs:List Nat}
theorem tTest_of {t:List Nat} {k:Nat} {v:Option PyData} {b:Bool} (hT:T = P ++ B) (h:decide (k < P.length) = b):(evE cl ca3_0 (tS T A B t k v).env).bind truthD = some b:=by
  have hs:T.length - B.length = P.length:=by rw [hT,List.length_append,Nat.add_sub_cancel]
  have e1:=ev_subN (cl:=cl) (ρ:=(tS T A B t k v).env) (ev_lenS (a:=.var 0) (l:=T) rfl) (ev_lenS (a:=.var 2) (l:=B) rfl) (by rw [hT,List.length_append]; exact Nat.le_add_left _ _)
  rw [hs] at e1
  exact congrArg (Option.bind · truthD) (ev_ltN (a:=.var 4) (p:=k) rfl e1 h)
theorem told_loop {m:Nat} (hT:T = P ++ B) (hl:T.length ≤ 10000):∀ {t X:List Nat} {v:Option PyData},(∀ c ∈ cs,sgL c = true)→P = X ++ (cs.map pl).flatten→t.length + cs.length ≤ 10000 →
    ∃ v',whileLoopP (fun τ=>(evE cl ca3_0 τ.env).bind truthD) (exSs cl F ba3_1) (m + 1 + cs.length) (tS T A B t X.length v) = some (.next (tS T A B (t ++ cs) P.length v')):=by
  induction cs with
  | nil =>
    intro t X v _ hP _
    have hP:=hP.trans (List.append_nil X)
    refine ⟨v,?_⟩
    rw [List.append_nil,hP]
    exact wl_end (n:=m) (tTest_of (hT.trans (by rw [hP])) (decide_eq_false (Nat.lt_irrefl _)))
  | cons c cs ih =>
    intro t X v hc hP ht
    obtain ⟨o0,o⟩:=andT (sg_ok (sgL_ok (hc c List.mem_cons_self)).1)
    obtain ⟨o1,o⟩:=andT o
    obtain ⟨o2,o⟩:=andT o
    have o3:=(andT o).1
    have o0:=eq_of_beq o0
    have hP2:P = X ++ (pl c ++ (cs.map pl).flatten):=hP
    rw [List.length_cons,Nat.add_comm cs.length,← Nat.add_assoc] at ht
    have hlt:X.length < P.length:=by
      rw [hP2,List.length_append,List.length_append,o0]
      exact Nat.lt_add_of_pos_right (Nat.add_pos_left (by cases badC c <;> cases bsC c <;> exact Nat.succ_pos _) _)
    have st:=told_step (cl:=cl) (F:=F) (A:=A) (B:=B) (v:=v) (X:=X) (Y:=(cs.map pl).flatten ++ B) (hT.trans (by rw [hP2,o0,List.append_assoc,List.append_assoc])) (Bool.not_eq_true' _ ▸ o1) (eq_of_beq o2) (eq_of_beq o3) hl (Nat.le_trans (Nat.le_add_right _ 1) (Nat.le_trans (Nat.le_add_right _ _) ht))
    rw [← o0,← List.length_append] at st
    obtain ⟨v',g⟩:=ih (t:=t ++ [c]) (X:=X ++ pl c) (v:=some (.bool (badC c))) (fun x hx=>hc x (List.mem_cons_of_mem _ hx)) (hP2.trans (List.append_assoc _ _ _).symm) (by rw [List.length_append]; exact ht)
    exact ⟨v',(wl_step (n:=m + 1 + cs.length) (tTest_of hT (decide_eq_true hlt)) st).trans (g.trans (by rw [List.append_assoc]; rfl))⟩
end
theorem told_run {prim:Nat→List PyData→Option PyData} {F l:Nat} {A B cs:List Nat} {t:PyData} (ht:t = sD (A ++ ((cs.map pl).flatten ++ B))) (hc:∀ c ∈ cs,sgL c = true) (hA:A.length ≤ 100) (hB:B.length ≤ 100) (hB0:0 < B.length) (hl:cs.length ≤ 1000) :
    runF tab_a prim (F + 1001) (l + 1) 3 [t,sD A,sD B] = some (sD cs):=by
  subst ht
  have hp:(cs.map pl).flatten.length ≤ 5000:=Nat.le_trans (pl_len cs) (Nat.mul_le_mul_left 5 hl)
  have hTl:(A ++ ((cs.map pl).flatten ++ B)).length ≤ 10000:=by rw [List.length_append,List.length_append]; exact Nat.le_trans (Nat.add_le_add hA (Nat.add_le_add hp hB)) (by decide)
  obtain ⟨m,hm⟩:∃ m,F + 1001 = m + 1 + cs.length:=⟨F + (1000 - cs.length),by rw [Nat.add_right_comm,Nat.add_assoc F,Nat.sub_add_cancel hl]⟩
  obtain ⟨v,h⟩:=told_loop (cl:=runF tab_a prim (F + 1001) l) (F:=F + 1001) (m:=m) (A:=A) (T:=A ++ ((cs.map pl).flatten ++ B)) (P:=A ++ (cs.map pl).flatten) (B:=B) (t:=[]) (X:=A) (v:=none) (List.append_assoc _ _ _).symm hTl hc rfl (by rw [List.length_nil,Nat.zero_add]; exact Nat.le_trans hl (by decide))
  rw [← hm] at h
  have ht:(A ++ ((cs.map pl).flatten ++ B)).take A.length = A:=List.take_left
  have hd:(A ++ ((cs.map pl).flatten ++ B)).drop ((A ++ ((cs.map pl).flatten ++ B)).length - B.length) = B:=by
    rw [← List.append_assoc,List.length_append (bs:=B),Nat.add_sub_cancel,List.drop_left]
  generalize A ++ ((cs.map pl).flatten ++ B) = T at hTl h ht hd
  have s1:exS (runF tab_a prim (F + 1001) l) (F + 1001) (.assign2 3 4 (.lit (.str ("" : Str))) (.bi .len (.cons (.var 1) .nil))) ⟨initEnv 6 [sD T,sD A,sD B],[]⟩ = some (.next (tS T A B [] A.length none)):=xs_asg2 rfl (ev_lenS (l:=A) rfl)
  have v0:evE (runF tab_a prim (F + 1001) l) (.var 0) (tS T A B [] A.length none).env = some (sD T):=rfl
  have e1:=ev_neS (ev_sxlS v0 (hi:=.var 4) (q:=A.length) rfl (Nat.le_trans hA (by decide))) (b:=.var 1) (y:=A) rfl
  have e2:=ev_neS (ev_sneg v0 (lo:=.neg (.bi .len (.cons (.var 2) .nil))) (p:=B.length) (ev_neg (ev_lenS (l:=B) rfl)) hB0 (Nat.le_trans hB (by decide))) (b:=.var 2) (y:=B) rfl
  rw [ht,beq_self_eq_true] at e1
  rw [hd,beq_self_eq_true] at e2
  exact run_of (pf:=pa3) rfl rfl ((xs_next s1).trans ((xs_next (xs_no (ev_or e1 e2) rfl)).trans ((xs_next (show exS (runF tab_a prim (F + 1001) l) (F + 1001) (.while_ ca3_0 ba3_1) (tS T A B [] A.length none) = _ from h)).trans (xs_rt rfl))))
end Kt
end
section
open PySem PySem.W PyProof.Rows
namespace Kt
section
variable {cl:Nat→List PyData→Option PyData} {F:Nat}
theorem mapE_of {α:Type} {f:PyData→Option PyData} {k g:α→PyData} {as:List α} (h:∀ a ∈ as,f (k a) = some (g a)):mapE f (as.map k) = some (as.map g):=by
  induction as with
  | nil=>rfl
  | cons a as ih=>exact (congrArg (Option.bind · _) (h a List.mem_cons_self)).trans (congrArg (Option.map _) (ih fun a ha=>h a (List.mem_cons_of_mem _ ha)))
theorem ev_comp {α:Type} {ρ:PEnv} {elt:PE} {i:PI} {x:Nat} {k g:α→PyData} {as:List α} (hi:evI cl i ρ = some (as.map k)) (h:∀ a ∈ as,evE cl elt ((ρ.set x none).set x (some (k a))) = some (g a)):evE cl (.comp elt x i) ρ = some (.list (as.map g)) :=
  (congrArg (Option.bind · _) hi).trans (congrArg (Option.map _) (mapE_of h))
theorem bar_of {ρ:PEnv} {c:Nat} (hv:evE cl (.var 7) ρ = some (wD c)) (hc:sgnC c = true):evE cl (.ite (.cmp .In (.var 7) (.lit (.str ("*?[" : Str)))) (.bin .Add (.bin .Add (.lit (.str ("[" : Str))) (.var 7)) (.lit (.str ("]" : Str)))) (.var 7)) ρ = some (sD (pc c)):=by
  have e1:=ev_inS (cl:=cl) (ρ:=ρ) (a:=.var 7) (b:=.lit (.str ("*?[" : Str))) (x:=("*?[" : Str).cps.toList) (y:=[c]) hv rfl (eq_of_beq (andT (andT (andT (andT (sg_ok hc)).2).2).2).2)
  have e2:evE cl (.bin .Add (.bin .Add (.lit (.str ("[" : Str))) (.var 7)) (.lit (.str ("]" : Str)))) ρ = some (sD [91,c,93]) :=
    ev_addS (x:=[91,c]) (y:=[93]) (ev_addS (x:=[91]) (y:=[c]) rfl hv (Nat.le_of_ble_eq_true rfl)) rfl (Nat.le_of_ble_eq_true rfl)
  refine (ev_ite e1 (fun _=>e2) (fun _=>hv)).trans ?_
  unfold pc
  cases badC c <;> rfl
theorem strsD_flat (ls:List (List Nat)):strsD (ls.map sD) = some (ls.map fun l=>(⟨l.toArray⟩:Str)):=by
  induction ls with
  | nil=>rfl
  | cons l ls ih=>exact congrArg (Option.map _) ih
theorem joinD_flat {ls:List (List Nat)} (hb:ls.flatten.length ≤ 90000):joinD "" (ls.map sD) = some (sD ls.flatten):=by
  unfold joinD
  rw [strsD_flat]
  show (if _ then _ else _) = _
  rw [sum_flat,Nat.zero_add,if_pos (Nat.le_trans hb (by decide)),join_flat]
theorem pcs_len (cs:List Nat):(cs.map pc).flatten.length ≤ 3 * cs.length:=by
  induction cs with
  | nil=>exact Nat.le_refl _
  | cons c cs ih =>
    rw [List.map_cons,List.flatten_cons,List.length_append,List.length_cons,Nat.mul_succ,Nat.add_comm]
    refine Nat.add_le_add ih ?_
    unfold pc
    cases badC c <;> exact Nat.le_of_ble_eq_true rfl
noncomputable abbrev hS (f e:List Nat) (bs:List PyData) (row hd tl k:Option PyData):PSt:=⟨[some (rowD f),some (rowD e),some (.list bs),row,hd,tl,k,none],[2]⟩
noncomputable abbrev pT (r:List Nat):PyData:=sD (r.map pc).flatten
theorem bar_step {f e r:List Nat} {bs:List PyData} (hr:∀ c ∈ r,sgL c = true) (hl:r.length ≤ 100) (hb:bs.length ≤ 10):exSs cl F ba4_3 (hS f e bs (some (rowD r)) none none none) = some (.next (hS f e (bs ++ [pT r]) (some (rowD r)) none none none)):=by
  have e1:evE cl (.comp (.ite (.cmp .In (.var 7) (.lit (.str ("*?[" : Str)))) (.bin .Add (.bin .Add (.lit (.str ("[" : Str))) (.var 7)) (.lit (.str ("]" : Str)))) (.var 7)) 7 (.of (.var 3))) (hS f e bs (some (rowD r)) none none none).env = some (.list (r.map fun c=>sD (pc c))) :=
    ev_comp (k:=wD) rfl fun c hc=>bar_of rfl (sgL_ok (hr c hc)).1
  rw [show (r.map fun c=>sD (pc c)) = (r.map pc).map sD from (List.map_map (g:=sD) (f:=pc) (l:=r)).symm] at e1
  have e2:evE cl (.me .join (.lit (.str ("" : Str))) (.cons (.comp (.ite (.cmp .In (.var 7) (.lit (.str ("*?[" : Str)))) (.bin .Add (.bin .Add (.lit (.str ("[" : Str))) (.var 7)) (.lit (.str ("]" : Str)))) (.var 7)) 7 (.of (.var 3))) .nil)) (hS f e bs (some (rowD r)) none none none).env = some (pT r) :=
    (congrArg (Option.bind · _) (ev_1 e1)).trans (joinD_flat (Nat.le_trans (pcs_len r) (Nat.le_trans (Nat.mul_le_mul_left 3 hl) (by decide))))
  exact xs_one (xs_app (xs:=bs) rfl rfl e2 rfl (Nat.le_trans (Nat.succ_le_succ hb) (by decide)))
theorem kT_of {f e:List Nat} {bs:List PyData} {row:Option PyData} {k:Nat} {b:Bool} (hk:k ≤ f.length) (hf:f.length ≤ 1000) (h:(f.drop (f.length - k) == e.take k) = !b):(evE cl ca4_0 (hS f e bs row (some (sD f)) (some (sD e)) (some (.int (k:Int)))).env).bind truthD = some b:=by
  have v4:evE cl (.var 4) (hS f e bs row (some (sD f)) (some (sD e)) (some (.int (k:Int)))).env = some (sD f):=rfl
  have v5:evE cl (.var 5) (hS f e bs row (some (sD f)) (some (sD e)) (some (.int (k:Int)))).env = some (sD e):=rfl
  have v6:evE cl (.var 6) (hS f e bs row (some (sD f)) (some (sD e)) (some (.int (k:Int)))).env = some (.int (k:Int)):=rfl
  have e1:=ev_neS (ev_slxS v4 (ev_subN (ev_lenS v4) v6 hk) (Nat.le_trans (Nat.sub_le _ _) (Nat.le_trans hf (by decide)))) (ev_sxlS v5 v6 (Nat.le_trans hk (Nat.le_trans hf (by decide))))
  rw [h,Bool.not_not] at e1
  exact congrArg (Option.bind · truthD) e1
theorem k_loop {f e:List Nat} {bs:List PyData} {row:Option PyData} {m:Nat} (hf:f.length ≤ 1000) (k:Nat):k ≤ f.length →
    whileLoopP (fun τ=>(evE cl ca4_0 τ.env).bind truthD) (exSs cl F ba4_1) (m + 1 + k) (hS f e bs row (some (sD f)) (some (sD e)) (some (.int (k:Int)))) = some (.next (hS f e bs row (some (sD f)) (some (sD e)) (some (.int ((ovN f e k:Nat):Int))))):=by
  induction k with
  | zero=>exact fun hk=>wl_end (n:=m) (kT_of hk hf (by rw [Nat.sub_zero,List.drop_length]; rfl))
  | succ k ih =>
    intro hk
    rw [ovN]
    cases h:f.drop (f.length - (k + 1)) == e.take (k + 1) with
    | true=>exact wl_end (n:=m + 1 + k) (kT_of hk hf h)
    | false =>
      have st:exSs cl F ba4_1 (hS f e bs row (some (sD f)) (some (sD e)) (some (.int ((k + 1:Nat):Int)))) = some (.next (hS f e bs row (some (sD f)) (some (sD e)) (some (.int (k:Int))))) :=
        xs_one (xs_aug (u:=.int ((k + 1:Nat):Int)) (v:=.int 1) (d:=.int (k:Int)) rfl rfl rfl (congrArg (fun i=>some (PyData.int i)) (show ((k + 1:Nat):Int) - 1 = (k:Int) from Int.add_sub_cancel (k:Int) 1)))
      exact (wl_step (n:=m + 1 + k) (kT_of hk hf h) st).trans (ih (Nat.le_of_succ_le hk))
end
theorem pcs_pos {cs:List Nat} (l:List Nat):(cs.map pc).flatten ++ l = cs.flatMap pc ++ l:=by rw [List.flatMap_def]
theorem shortest_run {prim:Nat→List PyData→Option PyData} {l:Nat} {f e:List Nat} {x y:Nat} (hp:∀ s:Str,runF tab_a prim 1002 (l + 1) 10 [.str s] = transP 1002 s) (hf:∀ c ∈ f ++ [x],sgL c = true) (he:∀ c ∈ y :: e,sgL c = true) (hfl:(f ++ [x]).length ≤ 100) (hel:(y :: e).length ≤ 100) :
    runF tab_a prim 1002 (l + 2) 4 [rowD (f ++ [x]),rowD (y :: e)] = some (rowD (mrg (f ++ [x]) (y :: e))):=by
  have t1:runF tab_a prim 1002 (l + 1) 10 [sD (((f ++ [x]).map pc).flatten ++ [42])] = some (reT (((f ++ [x]).map pl).flatten ++ [46,42])):=by
    have hb:=Nat.le_trans (pcs_len (f ++ [x])) (Nat.mul_le_mul_left 3 hfl)
    have hb2:=Nat.le_trans (pl_len (f ++ [x])) (Nat.mul_le_mul_left 5 hfl)
    rw [hp,pcs_pos]
    exact trans_front (F:=1000) (List.append_ne_nil_of_right_ne_nil _ (List.cons_ne_nil _ _)) (Nat.le_trans hfl (by decide)) (by rw [List.length_append,List.flatMap_def]; exact Nat.lt_of_le_of_lt (Nat.add_le_add_right hb 1) (by decide)) (Nat.le_refl _) (re_ok (by rw [List.all_append,pls_all hf]; rfl) (by rw [List.length_append]; exact Nat.le_trans (Nat.add_le_add_right hb2 2) (by decide)))
  have t2:runF tab_a prim 1002 (l + 1) 10 [sD ([42] ++ ((y :: e).map pc).flatten)] = some (reT ([46,42] ++ ((y :: e).map pl).flatten)):=by
    have hb:=Nat.le_trans (pcs_len (y :: e)) (Nat.mul_le_mul_left 3 hel)
    have hb2:=Nat.le_trans (pl_len (y :: e)) (Nat.mul_le_mul_left 5 hel)
    rw [hp,← List.flatMap_def]
    exact trans_back (F:=1000) (Nat.le_trans hel (by decide)) (by rw [List.length_cons,List.flatMap_def]; exact Nat.lt_of_le_of_lt (Nat.add_le_add_right hb 1) (by decide)) (Nat.le_refl _) (re_ok (by rw [List.all_append,pls_all he]; rfl) (by rw [List.length_append]; exact Nat.le_trans (Nat.add_le_add_left hb2 2) (by decide)))
  have t3:runF tab_a prim 1002 (l + 1) 3 [reT (((f ++ [x]).map pl).flatten ++ [46,42]),sD [40,63,115,58],sD [46,42,41,92,90]] = some (sD (f ++ [x])):=told_run (F:=1) (congrArg sD (by rw [List.append_assoc,List.append_assoc]; rfl)) hf (by decide) (by decide) (by decide) (Nat.le_trans hfl (by decide))
  have t4:runF tab_a prim 1002 (l + 1) 3 [reT ([46,42] ++ ((y :: e).map pl).flatten),sD [40,63,115,58,46,42],sD [41,92,90]] = some (sD (y :: e)):=told_run (F:=1) (congrArg sD (by rw [← List.append_assoc,List.append_assoc]; rfl)) he (by decide) (by decide) (by decide) (Nat.le_trans hel (by decide))
  generalize f ++ [x] = f at *
  generalize y :: e = e at *
  have s1:exS (runF tab_a prim 1002 (l + 1)) 1002 (.for_ (.one 3) ia4_2 ba4_3) (hS f e [] none none none none) = some (.next (hS f e [pT f,pT e] (some (rowD e)) none none none)) :=
    (xs_for (ds:=[rowD f,rowD e]) rfl).trans ((fl_cons rfl (bar_step hf hfl (by decide))).trans (fl_cons rfl (bar_step he hel (Nat.le_of_ble_eq_true rfl))))
  have lf:(f.map pc).flatten.length ≤ 300:=Nat.le_trans (pcs_len f) (Nat.mul_le_mul_left 3 hfl)
  have le:(e.map pc).flatten.length ≤ 300:=Nat.le_trans (pcs_len e) (Nat.mul_le_mul_left 3 hel)
  have x1:evE (runF tab_a prim 1002 (l + 1)) (.idx (.var 2) (.lit (.int 0))) (hS f e [pT f,pT e] (some (rowD e)) none none none).env = some (pT f):=rfl
  have s2:=xs_asg (F:=1002) (x:=4) (ev_call (f:=3) (ev_2' (ev_call1 (f:=10) (ev_addS x1 (b:=.lit (.str ("*" : Str))) (y:=[42]) rfl (Nat.le_trans (Nat.add_le_add_right lf 1) (by decide))) t1) (b:=.lit (.str ("(?s:" : Str))) (c:=.lit (.str (".*)\\Z" : Str))) rfl rfl) t3)
  have x2:evE (runF tab_a prim 1002 (l + 1)) (.idx (.var 2) (.lit (.int 1))) (hS f e [pT f,pT e] (some (rowD e)) (some (sD f)) none none).env = some (pT e):=rfl
  have s3:=xs_asg (F:=1002) (x:=5) (ev_call (f:=3) (ev_2' (ev_call1 (f:=10) (ev_addS (a:=.lit (.str ("*" : Str))) (x:=[42]) rfl x2 (Nat.le_trans (Nat.add_le_add_left le 1) (by decide))) t2) (b:=.lit (.str ("(?s:.*" : Str))) (c:=.lit (.str (")\\Z" : Str))) rfl rfl) t4)
  have hmin:(if (e.length:Int) < (f.length:Int) then (e.length:Int) else (f.length:Int)) = ((min f.length e.length:Nat):Int):=by split <;> omega
  have s4:exS (runF tab_a prim 1002 (l + 1)) 1002 (.assign 6 (.bi .min2 (.cons (.bi .len (.cons (.var 4) .nil)) (.cons (.bi .len (.cons (.var 5) .nil)) .nil)))) (hS f e [pT f,pT e] (some (rowD e)) (some (sD f)) (some (sD e)) none) = some (.next (hS f e [pT f,pT e] (some (rowD e)) (some (sD f)) (some (sD e)) (some (.int ((min f.length e.length:Nat):Int))))) :=
    xs_asg (ev_bi (ev_2 (ev_lenS (l:=f) rfl) (ev_lenS (l:=e) rfl)) (congrArg (fun i=>some (PyData.int i)) hmin))
  obtain ⟨m,hm⟩:∃ m,1002 = m + 1 + min f.length e.length:=⟨1001 - min f.length e.length,by rw [Nat.add_right_comm,Nat.sub_add_cancel (Nat.le_trans (Nat.min_le_left _ _) (Nat.le_trans hfl (by decide)))]⟩
  have s5:exS (runF tab_a prim 1002 (l + 1)) 1002 (.while_ ca4_0 ba4_1) (hS f e [pT f,pT e] (some (rowD e)) (some (sD f)) (some (sD e)) (some (.int ((min f.length e.length:Nat):Int)))) = some (.next (hS f e [pT f,pT e] (some (rowD e)) (some (sD f)) (some (sD e)) (some (.int ((ovN f e (min f.length e.length):Nat):Int))))) :=
    (congrArg (fun n=>whileLoopP (fun τ=>(evE (runF tab_a prim 1002 (l + 1)) ca4_0 τ.env).bind truthD) (exSs (runF tab_a prim 1002 (l + 1)) 1002 ba4_1) n (hS f e [pT f,pT e] (some (rowD e)) (some (sD f)) (some (sD e)) (some (.int ((min f.length e.length:Nat):Int))))) hm).trans (k_loop (Nat.le_trans hfl (by decide)) _ (Nat.min_le_left _ _))
  have ho:=Nat.le_trans (ovN_le f e (min f.length e.length)) (Nat.le_trans (Nat.min_le_left _ _) hfl)
  have x6:evE (runF tab_a prim 1002 (l + 1)) (.bin .Add (.var 4) (.slc (.var 5) (.yes (.var 6)) .no)) (hS f e [pT f,pT e] (some (rowD e)) (some (sD f)) (some (sD e)) (some (.int ((ovN f e (min f.length e.length):Nat):Int)))).env = some (sD (mrg f e)) :=
    ev_addS (x:=f) rfl (ev_slxS (l:=e) (p:=ovN f e (min f.length e.length)) rfl rfl (Nat.le_trans ho (by decide))) (Nat.le_trans (Nat.add_le_add hfl (Nat.le_trans (List.drop_sublist _ _).length_le hel)) (by decide))
  exact run_of (pf:=pa4) rfl rfl ((xs_next (xs_asg (d:=.list []) rfl)).trans ((xs_next s1).trans ((xs_next s2).trans ((xs_next s3).trans ((xs_next s4).trans ((xs_next s5).trans (xs_rt (ev_bi (ev_1 x6) rfl))))))))
end Kt
end
section
open PySem PySem.W PyProof.Rows
namespace Kt
theorem find_at {p B:List Nat} {x:Nat} (hx:x ∉ p):((p ++ x :: B).map wD).findIdx (fun y=>PyData.eqv y (wD x)) = p.length:=by
  induction p with
  | nil =>
    show ((wD x :: B.map wD).findIdx fun y=>PyData.eqv y (wD x)) = 0
    rw [List.findIdx_cons,eqv_wD,beq_self_eq_true]; rfl
  | cons y p ih =>
    show ((wD y :: (p ++ x :: B).map wD).findIdx fun y=>PyData.eqv y (wD x)) = p.length + 1
    rw [List.findIdx_cons,eqv_wD,beq_false_of_ne fun e:y = x=>hx (e ▸ List.mem_cons_self),ih fun h=>hx (List.mem_cons_of_mem _ h)]; rfl
theorem place_last (n:Nat):placeI (-1) (n + 1) = some n:=by
  have h:placeI (-1) (n + 1) = (if 0 ≤ (-1:Int) + ((n + 1:Nat):Int) then some ((-1:Int) + ((n + 1:Nat):Int)).toNat else none):=by kernel_rfl
  have e:(-1:Int) + ((n + 1:Nat):Int) = (n:Int):=by rw [Int.add_comm]; exact Int.add_sub_cancel (n:Int) 1
  rw [h,e]
  exact if_pos (Int.natCast_nonneg n)
section
variable {cl:Nat→List PyData→Option PyData} {ρ:PEnv} {a b i:PE} {F:Nat} {w p B d:List Nat} {x:Nat}
theorem ev_index (hw:w = p ++ x :: B) (hx:x ∉ p) (hl:w.length ≤ 1000) (h1:evE cl a ρ = some (rowD w)) (h2:evE cl b ρ = some (wD x)):evE cl (.me .index a (.cons b .nil)) ρ = some (.int (p.length:Int)):=by
  refine (congrArg (Option.bind · _) h1).trans ((congrArg (Option.bind · _) (ev_1 h2)).trans ?_)
  show (if eqOk (wD x) (.list (w.map wD)) then (if (decide ((w.map wD).findIdx (fun y=>PyData.eqv y (wD x)) < (w.map wD).length) && decide ((w.map wD).findIdx (fun y=>PyData.eqv y (wD x)) < 2 ^ 62)) = true then some (PyData.int (((w.map wD).findIdx (fun y=>PyData.eqv y (wD x)):Nat):Int)) else none) else none) = _
  have hp:p.length < w.length:=by rw [hw,List.length_append]; exact Nat.lt_add_of_pos_right (Nat.succ_pos _)
  rw [eqOk_wD,List.length_map,show (w.map wD).findIdx (fun y=>PyData.eqv y (wD x)) = p.length by rw [hw,find_at hx]]
  exact (if_pos rfl).trans (if_pos (Bool.and_eq_true_iff.mpr ⟨decide_eq_true hp,decide_eq_true (Nat.lt_trans (Nat.lt_of_lt_of_le hp hl) (by decide))⟩))
theorem ev_lastW (h1:evE cl a ρ = some (rowD (d ++ [x]))) (h2:evE cl i ρ = some (.int (-1))):evE cl (.idx a i) ρ = some (wD x):=by
  refine ev_idxD h1 h2 ?_
  rw [idxD_list,List.map_append,List.length_append]
  show (placeI (-1) ((d.map wD).length + 1)).bind ((d.map wD ++ [wD x])[·]?) = _
  rw [place_last]
  exact List.getElem?_concat_length
theorem ev_endW (h1:evE cl a ρ = some (rowD (d ++ [x]))) (h2:evE cl i ρ = some (.int (-1))):evE cl (.slc a (.yes i) .no) ρ = some (rowD [x]):=by
  refine (ev_slcO h1 (evO_yes h2 (partI (by decide) (by decide))) rfl).trans ?_
  have e:cut ((d ++ [x]).map wD) (some (-1)) none = [wD x]:=by
    refine (cut_neg (p:=1) ((d ++ [x]).map wD) (by decide)).trans ?_
    rw [List.map_append,List.length_append]
    exact List.drop_left
  exact congrArg (fun l=>some (PyData.list l)) e
theorem ev_revW (h1:evE cl a ρ = some (rowD w)):evE cl (.rev a) ρ = some (rowD w.reverse):=(congrArg (Option.bind · _) h1).trans (congrArg (fun l=>some (PyData.list l)) List.map_reverse.symm)
end
theorem ker_mem (k:Nat):∀ {w:List Nat} {c:Nat},c ∈ kerN k w→c ∈ w:=by
  induction k with
  | zero=>exact fun h=>dd_in.mp h
  | succ k ih =>
    intro w c h
    rw [kerN] at h
    by_cases hl:(ddN w []).length < 2
    · rw [if_pos hl] at h; exact dd_in.mp h
    rw [if_neg hl] at h
    have hne:w ≠ []:=fun e=>hl (by rw [e]; decide)
    obtain ⟨p,x,B,e1,e2,_⟩:=front hne
    obtain ⟨q,y,C,g1,g2,_⟩:=front (w:=w.reverse) fun e=>hne (List.reverse_eq_nil_iff.mp e)
    rw [e2,g2] at h
    rcases List.mem_append.mp h with h | h
    · rcases List.mem_append.mp h with h | h
      · exact tw_sub (ih h)
      · rw [List.mem_singleton.mp h,e1]; exact List.mem_append_right _ List.mem_cons_self
    · rcases List.mem_cons.mp (List.mem_of_mem_drop h) with h | h
      · rw [h]; exact List.mem_reverse.mp (g1 ▸ List.mem_append_right _ List.mem_cons_self)
      · exact List.mem_reverse.mp (tw_sub (List.mem_reverse.mp (ih h)))
theorem erase_of {v S p B:List Nat} {x k:Nat} (hS:S.length ≤ k + 1) (hv:∀ z ∈ v,z ∈ S) (e:v = p ++ x :: B) (hx:x ∉ p):(S.erase x).length ≤ k ∧ ∀ z ∈ p,z ∈ S.erase x :=
  ⟨by rw [List.length_erase_of_mem (hv x (e ▸ List.mem_append_right _ List.mem_cons_self))]; exact Nat.sub_le_of_le_add hS,fun z hz=>(List.mem_erase_of_ne fun e:z = x=>hx (e ▸ hz)).mpr (hv z (e ▸ List.mem_append_left _ hz))⟩
theorem ker_len (k:Nat):∀ {w S:List Nat},S.length ≤ k→(∀ z ∈ w,z ∈ S)→(kerN k w).length + 2 ≤ 2 ^ (k + 1):=by
  induction k with
  | zero =>
    intro w S hS hw
    cases w with
    | nil=>exact Nat.le_refl _
    | cons z w=>exact absurd (List.length_pos_of_mem (hw z List.mem_cons_self)) (Nat.not_lt.mpr hS)
  | succ k ih =>
    intro w S hS hw
    rw [kerN,Nat.pow_succ,Nat.mul_two]
    have h2:∀ k:Nat,2 ≤ 2 ^ (k + 1):=fun k=>by rw [Nat.pow_succ]; exact Nat.le_mul_of_pos_left 2 (Nat.two_pow_pos k)
    by_cases hl:(ddN w []).length < 2
    · rw [if_pos hl]; exact Nat.le_trans (Nat.add_le_add_right (Nat.le_of_lt hl) 2) (Nat.add_le_add (h2 k) (h2 k))
    rw [if_neg hl]
    have hne:w ≠ []:=fun e=>hl (by rw [e]; decide)
    obtain ⟨p,x,B,e1,e2,e3,e4,_⟩:=front hne
    obtain ⟨q,y,C,g1,g2,g3,g4,_⟩:=front (w:=w.reverse) fun e=>hne (List.reverse_eq_nil_iff.mp e)
    obtain ⟨s1,s2⟩:=erase_of hS hw e1 e4
    obtain ⟨t1,t2⟩:=erase_of hS (fun z hz=>hw z (List.mem_reverse.mp hz)) g1 g4
    rw [e2,g2,e3,g3]
    have i1:=ih s1 s2
    have i2:=ih (w:=q.reverse) t1 fun z hz=>t2 z (List.mem_reverse.mp hz)
    unfold mrg
    rw [List.length_append,List.length_append (as:=kerN k p)]
    refine Nat.le_trans (Nat.add_le_add_right (Nat.add_le_add_left (List.drop_sublist _ _).length_le _) 2) (Nat.le_trans (Nat.le_of_eq ?_) (Nat.add_le_add i1 i2))
    show (kerN k p).length + 1 + ((kerN k q.reverse).length + 1) + 2 = _
    omega
noncomputable abbrev nS (a b c d e f:Option PyData):PSt:=⟨[a,b,c,d,e,f],[]⟩
theorem kernel_run {prim:Nat→List PyData→Option PyData} (hp:∀ (l:Nat) (s:Str),runF tab_a prim 1002 (l + 1) 10 [.str s] = transP 1002 s) (k:Nat):∀ {l:Nat} {w S:List Nat},(∀ c ∈ w,sgL c = true)→w.length ≤ 20→S.length ≤ k→(∀ z ∈ w,z ∈ S)→k ≤ 4→runF tab_a prim 1002 (l + k + 5) 5 [rowD w] = some (rowD (kerN k w)):=by
  have start:∀ {l:Nat} {w:List Nat},w.length ≤ 20→exS (runF tab_a prim 1002 (l + 1)) 1002 (.assign 1 (.call 7 (.cons (.var 0) .nil))) ⟨initEnv 6 [rowD w],[]⟩ = some (.next (nS (some (rowD w)) (some (rowD (ddN w []))) none none none none)):=fun {l w} hw =>
    xs_asg (ev_call1 (x:=rowD w) rfl (ded_run (tab:=tab_a) rfl w (Nat.le_trans hw (by decide))))
  have test:∀ {cl:Nat→List PyData→Option PyData} {w d:List Nat} {b:Bool},decide (d.length < 2) = b→evE cl (.cmp .Lt (.bi .len (.cons (.var 1) .nil)) (.lit (.int 2))) (nS (some (rowD w)) (some (rowD d)) none none none none).env = some (.bool b):=fun {cl w d b} h =>
    ev_ltN (b:=.lit (.int 2)) (q:=2) (ev_lenR (w:=d) rfl) rfl h
  have short:∀ {l:Nat} {w:List Nat},w.length ≤ 20→(ddN w []).length < 2→runF tab_a prim 1002 (l + 2) 5 [rowD w] = some (rowD (ddN w [])):=fun {l w} hw hd =>
    run_of (pf:=pa5) rfl rfl ((xs_next (start hw)).trans (xs_ret ((xs_yes (test (decide_eq_true hd)) rfl).trans (xs_rt rfl))))
  induction k with
  | zero =>
    intro l w S hc hw hS hz _
    refine short (l:=l + 3) hw ?_
    cases w with
    | nil=>exact Nat.zero_lt_two
    | cons z w=>exact absurd (List.length_pos_of_mem (hz z List.mem_cons_self)) (Nat.not_lt.mpr hS)
  | succ k ih =>
    intro l w S hc hw hS hz hk
    rw [kerN]
    by_cases hl:(ddN w []).length < 2
    · rw [if_pos hl]; exact short (l:=l + (k + 1) + 3) hw hl
    rw [if_neg hl]
    have hne:w ≠ []:=fun e=>hl (by rw [e]; decide)
    have hk4:k ≤ 4:=Nat.le_of_succ_le hk
    have hpow:2 ^ (k + 1) ≤ 2 ^ 5:=Nat.pow_le_pow_right (by decide) (Nat.succ_le_succ hk4)
    have st:=start (l:=l + k + 4) hw
    have rv:=ded_run (prim:=prim) (F:=1002) (l:=l + k + 4) (tab:=tab_a) (d:=7) rfl w.reverse (by rw [List.length_reverse]; exact Nat.le_trans hw (by decide))
    obtain ⟨p,x,B,e1,e2,e3,e4,e5,_⟩:=front hne
    obtain ⟨q,y,C,g1,g2,g3,g4,g5,_⟩:=front (w:=w.reverse) fun e=>hne (List.reverse_eq_nil_iff.mp e)
    have ts:=test (cl:=runF tab_a prim 1002 (l + k + 5)) (w:=w) (d:=ddN w []) (decide_eq_false hl)
    obtain ⟨s1,s2⟩:=erase_of hS hz e1 e4
    obtain ⟨t1,t2⟩:=erase_of hS (fun z h=>hz z (List.mem_reverse.mp h)) g1 g4
    have t2':∀ z ∈ q.reverse,z ∈ S.erase y:=fun z h=>t2 z (List.mem_reverse.mp h)
    rw [e2,e3,g2,g3]
    rw [e5] at st ts
    rw [g5] at rv
    have pw:∀ {c},c ∈ p→c ∈ w:=fun h=>e1 ▸ List.mem_append_left _ h
    have qw:∀ {c},c ∈ q.reverse→c ∈ w:=fun h=>List.mem_reverse.mp (g1 ▸ List.mem_append_left _ (List.mem_reverse.mp h))
    have xw:x ∈ w:=e1 ▸ List.mem_append_right _ List.mem_cons_self
    have yw:y ∈ w:=List.mem_reverse.mp (g1 ▸ List.mem_append_right _ List.mem_cons_self)
    have hpl:p.length ≤ w.length:=by rw [e1,List.length_append]; exact Nat.le_add_right _ _
    have hql:q.length ≤ w.length:=by rw [← List.length_reverse (as:=w),g1,List.length_append]; exact Nat.le_add_right _ _
    have i1:=ih (l:=l) (fun c h=>hc c (pw h)) (Nat.le_trans hpl hw) s1 s2 hk4
    have i2:=ih (l:=l) (fun c h=>hc c (qw h)) (by rw [List.length_reverse]; exact Nat.le_trans hql hw) t1 t2' hk4
    have k1:=Nat.le_trans (ker_len k s1 s2) hpow
    have k2:=Nat.le_trans (ker_len k t1 t2') hpow
    have hs4:=shortest_run (prim:=prim) (l:=l + k + 3) (f:=kerN k p) (x:=x) (y:=y) (e:=kerN k q.reverse) (hp _) (fun c h=>(List.mem_append.mp h).elim (fun h=>hc c (pw (ker_mem k h))) fun h=>hc c (List.mem_singleton.mp h ▸ xw)) (fun c h=>(List.mem_cons.mp h).elim (fun h=>hc c (h ▸ yw)) fun h=>hc c (qw (ker_mem k h))) (by rw [List.length_append]; exact Nat.le_trans (Nat.le_succ _) (Nat.le_trans k1 (by decide))) (Nat.le_trans (Nat.le_succ _) (Nat.le_trans k2 (by decide)))
    have hd:w.drop (w.length - q.length) = q.reverse:=by
      have hr:w = (C.reverse ++ [y]) ++ q.reverse:=by rw [← List.reverse_reverse w,g1,List.reverse_append,List.reverse_cons]
      rw [← List.length_reverse (as:=q)]
      generalize q.reverse = r at hr
      rw [hr,List.length_append,Nat.add_sub_cancel,List.drop_left]
    have ht:w.take p.length = p:=by
      generalize hw':p.length = n
      rw [e1,← hw',List.take_left]
    generalize ddN p [] = d at *
    generalize ddN q [] = r at *
    have hw':w.length ≤ 1000:=Nat.le_trans hw (by decide)
    have s2':exS (runF tab_a prim 1002 (l + k + 5)) 1002 (.assign 2 (.rev (.var 0))) (nS (some (rowD w)) (some (rowD (d ++ [x]))) none none none none) = some (.next (nS (some (rowD w)) (some (rowD (d ++ [x]))) (some (rowD w.reverse)) none none none)):=xs_asg (ev_revW rfl)
    have s3:=xs_asg (F:=1002) (x:=3) (σ:=nS (some (rowD w)) (some (rowD (d ++ [x]))) (some (rowD w.reverse)) none none none) (ev_lastW (i:=.neg (.lit (.int 1))) (ev_call1 (a:=.var 2) rfl rv) rfl)
    have v0:evE (runF tab_a prim 1002 (l + k + 5)) (.var 0) (nS (some (rowD w)) (some (rowD (d ++ [x]))) (some (rowD w.reverse)) (some (wD y)) none none).env = some (rowD w):=rfl
    have v1:evE (runF tab_a prim 1002 (l + k + 5)) (.var 1) (nS (some (rowD w)) (some (rowD (d ++ [x]))) (some (rowD w.reverse)) (some (wD y)) none none).env = some (rowD (d ++ [x])):=rfl
    have f2:=ev_sxlR v0 (ev_index e1 e4 hw' v0 (ev_lastW (i:=.neg (.lit (.int 1))) v1 rfl)) (Nat.le_trans hpl (Nat.le_trans hw (by decide)))
    rw [ht] at f2
    have s4:=xs_asg (F:=1002) (x:=4) (ev_catr (ev_call1 (f:=5) f2 i1) (ev_endW (i:=.neg (.lit (.int 1))) v1 rfl) (Nat.le_trans (Nat.le_succ _) (Nat.le_trans k1 (by decide))))
    have u0:evE (runF tab_a prim 1002 (l + k + 5)) (.var 0) (nS (some (rowD w)) (some (rowD (d ++ [x]))) (some (rowD w.reverse)) (some (wD y)) (some (rowD (kerN k p ++ [x]))) none).env = some (rowD w):=rfl
    have f3:=ev_slxR u0 (ev_subN (ev_lenR u0) (ev_index (a:=.var 2) (b:=.var 3) g1 g4 (by rw [List.length_reverse]; exact hw') rfl rfl) hql) (Nat.le_trans (Nat.sub_le _ _) (Nat.le_trans hw (by decide)))
    rw [hd] at f3
    have s5:=xs_asg (F:=1002) (x:=5) (ev_catr (v:=[y]) (a:=.list (.cons (.var 3) .nil)) rfl (ev_call1 (f:=5) f3 i2) (Nat.le_trans (Nat.add_le_add_left (Nat.le_trans (Nat.le_add_right _ 2) k2) _) (show 1 + 2 ^ 5 ≤ 1000000 by decide)))
    exact run_of (pf:=pa5) rfl rfl ((xs_next st).trans ((xs_next (xs_no ts rfl)).trans ((xs_next s2').trans ((xs_next s3).trans ((xs_next s4).trans ((xs_next s5).trans (xs_rt (ev_call2 (x:=rowD (kerN k p ++ [x])) (y:=rowD (y :: kerN k q.reverse)) rfl rfl hs4))))))))
end Kt
end
section
open PySem PySem.W PyProof.Rows
namespace Kt
theorem modZ (i:Int) {q:Nat} (h:0 < q):binD .Mod (.int i) (.int (q:Int)) = some (.int ((i.fmod q).toNat:Nat)) ∧ (i.fmod q).toNat < q:=by
  obtain ⟨p,h1,h2,h3⟩:=modI (i:=i) h
  have e:(i.fmod q).toNat = p:=h2 ▸ Int.toNat_natCast p
  exact ⟨e.symm ▸ h3,e.symm ▸ h1⟩
noncomputable def tabL:List Nat:=("a'[ \"*\\]?#-b" : Str).cps.toList
theorem tabL_ok:tabL.length = 12 ∧ tabL.all sgL = true:=⟨by kernel_rfl,by kernel_rfl⟩
theorem tab_at (q:Nat):tabL[q % 12]? = some (tabL.getD (q % 12) 0) ∧ sgL (tabL.getD (q % 12) 0) = true:=by
  have h:q % 12 < tabL.length:=tabL_ok.1.symm ▸ Nat.mod_lt _ (by decide)
  rw [List.getD_eq_getElem?_getD,List.getElem?_eq_getElem h]
  exact ⟨rfl,List.all_eq_true.mp tabL_ok.2 _ (List.getElem_mem h)⟩
theorem ev_of {cl:Nat→List PyData→Option PyData} {ρ:PEnv} {e:PE} {ds:List PyData} (h:evE cl e ρ = some (.list ds)):evI cl (.of e) ρ = some ds:=congrArg (Option.bind · itemsD) h
theorem bi_chr (i:Int):biD .chr [.int i] = chrD i:=rfl
theorem signs_run {prim:Nat→List PyData→Option PyData} {F l p:Nat} (hp:p < 1000000000):∃ sg:List Nat,sg.length = 4 ∧ (∀ c ∈ sg,sgL c = true) ∧ runF tab_a prim F (l + 1) 0 [.int (p:Int)] = some (rowD sg):=by
  have hc:p / 12 % 50000 < 50000:=Nat.mod_lt _ (by decide)
  have h4:sgL (256 + p / 12 % 50000) = true:=Bool.and_eq_true_iff.mpr ⟨Bool.or_eq_true_iff.mpr (.inr (decide_eq_true (Nat.le_add_right _ _))),decide_eq_true (Nat.lt_trans (Nat.add_lt_add_left hc 256) (by decide))⟩
  have v0:evE (runF tab_a prim F l) (.var 0) [some (.int (p:Int)),some (sD tabL),none] = some (.int (p:Int)):=rfl
  have e1:=ev_comp (cl:=runF tab_a prim F l) (ρ:=[some (.int (p:Int)),some (sD tabL),none]) (elt:=.idx (.var 1) (.bin .Mod (.bin .Add (.var 0) (.var 2)) (.lit (.int 12)))) (x:=2) (g:=fun k=>wD (tabL.getD ((p + (0 + k)) % 12) 0)) (ev_rg1 (a:=.lit (.int 3)) (q:=3) rfl (by decide)) fun k _ =>
    ev_idxS (l:=tabL) rfl (ev_bin (y:=.int ((12:Nat):Int)) (ev_addN (p:=p) rfl rfl) rfl (modN (by decide))) (Nat.le_trans (Nat.le_of_lt (Nat.mod_lt _ (by decide))) (by decide)) (tab_at _).1
  rw [show ((List.range 3).map fun k=>wD (tabL.getD ((p + (0 + k)) % 12) 0)) = ((List.range 3).map fun k=>tabL.getD ((p + (0 + k)) % 12) 0).map wD from (List.map_map (g:=wD) (f:=fun k=>tabL.getD ((p + (0 + k)) % 12) 0) (l:=List.range 3)).symm] at e1
  have d3:=ev_addN (a:=.lit (.int 256)) (p:=256) rfl (ev_bin (op:=.Mod) (b:=.lit (.int 50000)) (ev_bin (op:=.FloorDiv) (b:=.lit (.int 12)) v0 rfl (fdivN (q:=12) (by decide) (by decide))) rfl (modN (q:=50000) (by decide)))
  have d4:biD .chr [.int ((256 + p / 12 % 50000:Nat):Int)] = some (wD (256 + p / 12 % 50000)):=by
    have hlt:((256 + p / 12 % 50000:Nat):Int) < 0xD800:=Int.ofNat_lt.mpr (of_decide_eq_true (andT h4).2)
    generalize 256 + p / 12 % 50000 = c at hlt
    rw [bi_chr,chrD,decide_eq_true (Int.natCast_nonneg c),decide_eq_true hlt,Int.toNat_natCast]; rfl
  have d5:evE (runF tab_a prim F l) (.list (.cons (.bi .chr (.cons (.bin .Add (.lit (.int 256)) (.bin .Mod (.bin .FloorDiv (.var 0) (.lit (.int 12))) (.lit (.int 50000)))) .nil)) .nil)) [some (.int (p:Int)),some (sD tabL),none] = some (rowD [256 + p / 12 % 50000]):=congrArg (Option.map _) (ev_1 (ev_bi (ev_1 d3) d4))
  refine ⟨((List.range 3).map fun k=>tabL.getD ((p + (0 + k)) % 12) 0) ++ [256 + p / 12 % 50000],rfl,fun c hc=>?_,run_of (pf:=pa0) rfl rfl ((xs_next (xs_asg (d:=sD tabL) rfl)).trans (xs_rt (ev_catr e1 d5 (Nat.le_of_ble_eq_true rfl))))⟩
  rcases List.mem_append.mp hc with h | h
  · obtain ⟨k,_,e⟩:=List.mem_map.mp h
    exact e ▸ (tab_at _).2
  · exact List.mem_singleton.mp h ▸ h4
noncomputable def prA (f:Nat) (args:List PyData):Option PyData:=(fn_a[f]?).bind fun n=>primN 1002 (dedF 1002 7 pa7 7) n args
theorem cmp_run {l:Nat} (a b:List Nat) (ha:a.length ≤ 1000) (hb:b.length ≤ 1000):runF tab_a prA 1002 (l + 1) 11 [rowD a,rowD b] = some (.bool (sameN a b)) :=
  (run_prim rfl).trans ((show prA 11 [rowD a,rowD b] = cmpP (dedF 1002 7 pa7 7) (a.map wD) (b.map wD) by kernel_rfl).trans (cmpP_of a b ha hb))
theorem law_tail {w sg:List Nat} {cs:List Int} {a b c d:Option PyData} {own:List Nat} (hs:∀ x ∈ w,x ∈ sg) (hsg:∀ x ∈ sg,sgL x = true) (hl:sg.length = 4) (h1:1 ≤ w.length) (hw:w.length ≤ 20) (hc:0 < cs.length) (hcl:cs.length ≤ 100)
    {e:PE} (he:evE (runF tab_a prA 1002 19) e [a,b,c,d,some (rowD w),none,none] = some (.list (cs.map .int))) :
    exSs (runF tab_a prA 1002 19) 1002 (.cons (.assign 5 (.call 2 (.cons (.var 4) (.cons e .nil)))) (.cons
 (.ife (.cmp .IsNot (.call 11 (.cons (.var 4) (.cons (.var 5) .nil))) (.lit (.bool true))) (.cons (.ret (.lit (.bool false))) .nil) .nil)
 (.cons (.ret (.cmp .Eq (.call 5 (.cons (.call 9 (.cons (.call 8 (.cons (.var 4) .nil)) .nil)) .nil)) (.var 5))) .nil))) ⟨[a,b,c,d,some (rowD w),none,none],own⟩ = some (.ret (.bool true)):=by
  have hwg:∀ x ∈ w,sgL x = true:=fun x hx=>hsg x (hs x hx)
  have hne:w ≠ []:=fun e=>by rw [e] at h1; exact absurd h1 (by decide)
  obtain ⟨w',g1,g2,g3,g4,g5⟩:=left_run (prim:=prA) (F:=981) (l:=18) (w:=w) (cs:=cs) hc (Nat.le_trans hcl (by decide)) (fun v hv1 hv2=>ways_run (l:=17) (fun a b ha hb=>cmp_run a b ha hb) hv1 hv2) h1 hw
  have hmem:∀ z,z ∈ w ↔ z ∈ w':=fun z=>by rw [← dd_in,g4]; exact dd_in
  have hk:=kernel_run (prim:=prA) (fun l s=>(run_prim rfl).trans (show prA 10 [.str s] = transP 1002 s by kernel_rfl)) 4 (l:=10) hwg hw (Nat.le_of_eq hl) hs (by decide)
  rw [(g3 4).trans (ker_irr 4 (ways_irr g2) (Nat.le_of_eq hl) fun z hz=>hs z ((hmem z).mpr hz))] at hk
  have c2:=cmp_run (l:=18) w w' (Nat.le_trans hw (by decide)) (Nat.le_trans g5 (by decide))
  rw [same_iff.mpr hmem] at c2
  have c4:runF tab_a prA 1002 19 8 [rowD w] = some (.str (Str.join " " (w.map qS))):=(run_prim rfl).trans ((show prA 8 [rowD w] = joinP (w.map wD) by kernel_rfl).trans (joinP_of hwg (Nat.le_trans hw (by decide))))
  have c5:runF tab_a prA 1002 19 9 [.str (Str.join " " (w.map qS))] = some (rowD w):=(run_prim rfl).trans ((show prA 9 [.str (Str.join " " (w.map qS))] = splitP 1002 (Str.join " " (w.map qS)) by kernel_rfl).trans (split_row hwg hne (Nat.le_trans hw (by decide))))
  refine (xs_next (xs_asg (ev_call2 (x:=rowD w) rfl he g1))).trans ((xs_next (xs_no (ev_cmp (op:=.IsNot) (b:=.lit (.bool true)) (z:=.bool false) (ev_call2 (x:=rowD w) (y:=rowD w') rfl rfl c2) rfl rfl) rfl)).trans (xs_rt ?_))
  exact (ev_eqr (ev_call1 (ev_call1 (ev_call1 (x:=rowD w) rfl c4) c5) hk) (w:=w') rfl).trans (by rw [beq_self_eq_true])
end Kt
end
section
open PySem PySem.W PyProof.Rows
namespace Kt
noncomputable def defs:List Int:=[5,0,1,2,0,2,1,0]
theorem law06 (ns:List Int):runF tab_a prA 1002 20 6 [.list (ns.map .int)] = some (.bool true):=by
  have e1:evE (runF tab_a prA 1002 19) (.bin .Add (.slc (.var 0) .no (.yes (.lit (.int 10)))) (.list (.cons (.lit (.int 5)) (.cons (.lit (.int 0)) (.cons (.lit (.int 1)) (.cons (.lit (.int 2)) (.cons (.lit (.int 0)) (.cons (.lit (.int 2)) (.cons (.lit (.int 1)) (.cons (.lit (.int 0)) .nil)))))))))) (initEnv 7 [.list (ns.map .int)]) = some (.list ((ns.take 10 ++ defs).map .int)):=by
    refine ev_bin (ev_sxl (l:=ns.map .int) (q:=10) rfl rfl (by decide)) (y:=.list (defs.map .int)) rfl ?_
    rw [← List.map_take,List.map_append]
    exact mkL_ok (by rw [List.length_append,List.length_map]; exact Nat.le_trans (Nat.add_le_add_right (List.length_take_le 10 ns) 8) (by decide))
  have hDl:8 ≤ (ns.take 10 ++ defs).length ∧ (ns.take 10 ++ defs).length ≤ 18:=by
    rw [List.length_append]; exact ⟨Nat.le_add_left 8 _,Nat.add_le_add_right (List.length_take_le 10 ns) 8⟩
  refine run_of (pf:=pa6) (l:=19) rfl rfl ((xs_next (xs_asg e1)).trans ?_)
  generalize ns.take 10 ++ defs = D at hDl
  have v1:evE (runF tab_a prA 1002 19) (.var 1) [some (.list (ns.map .int)),some (.list (D.map .int)),none,none,none,none,none] = some (.list (D.map .int)):=rfl
  have l1:=ev_len v1
  rw [List.length_map] at l1
  have hmax:(if ((D.length - 8:Nat):Int) > (8:Int) then ((D.length - 8:Nat):Int) else (8:Int)) = ((max 8 (D.length - 8):Nat):Int):=by split <;> omega
  have hm:max 8 (D.length - 8) ≤ D.length ∧ 8 ≤ max 8 (D.length - 8) ∧ max 8 (D.length - 8) ≤ 10:=⟨Nat.max_le.mpr ⟨hDl.1,Nat.sub_le _ _⟩,Nat.le_max_left _ _,Nat.max_le.mpr ⟨by decide,Nat.sub_le_sub_right hDl.2 8⟩⟩
  have b3:=ev_sxl v1 (ev_bi (f:=.max2) (ev_2 (a:=.lit (.int 8)) rfl (ev_subN (b:=.lit (.int 8)) (q:=8) l1 rfl hDl.1)) (congrArg (fun i=>some (PyData.int i)) hmax)) (Nat.le_trans hm.2.2 (by decide))
  rw [← List.map_take] at b3
  have e2:=ev_comp (elt:=.bin .Mod (.var 6) (.bin .Pow (.lit (.int 10)) (.lit (.int 9)))) (x:=6) (g:=fun x=>.int ((x.fmod ((1000000000:Nat):Int)).toNat:Nat)) (ev_of b3) fun x _=>ev_bin (x:=.int x) (y:=.int ((1000000000:Nat):Int)) rfl (by kernel_rfl) (modZ x (by decide)).1
  have hN:∃ p rest,(D.take (max 8 (D.length - 8))).map (fun x=>(x.fmod ((1000000000:Nat):Int)).toNat) = p :: rest ∧ p < 1000000000 ∧ 7 ≤ rest.length ∧ rest.length ≤ 9:=by
    have hl:(D.take (max 8 (D.length - 8))).length = max 8 (D.length - 8):=List.length_take_of_le hm.1
    have h8:=hm.2
    generalize max 8 (D.length - 8) = m at hl h8
    cases hD:D.take m with
    | nil=>rw [hD] at hl; rw [← hl] at h8; exact absurd h8.1 (by decide)
    | cons x r =>
      rw [hD] at hl
      rw [← hl] at h8
      exact ⟨_,_,rfl,(modZ x (by decide)).2,by rw [List.length_map]; exact Nat.le_of_succ_le_succ h8.1,by rw [List.length_map]; exact Nat.le_of_succ_le_succ h8.2⟩
  rw [show ((D.take (max 8 (D.length - 8))).map fun x=>PyData.int ((x.fmod ((1000000000:Nat):Int)).toNat:Nat)) = ((D.take (max 8 (D.length - 8))).map fun x=>(x.fmod ((1000000000:Nat):Int)).toNat).map (fun (p:Nat)=>.int (p:Int)) from (List.map_map (g:=fun (p:Nat)=>PyData.int (p:Int)) (f:=fun x:Int=>(x.fmod ((1000000000:Nat):Int)).toNat)).symm] at e2
  obtain ⟨p,rest,hN,hp,hr⟩:=hN
  rw [hN] at e2
  refine (xs_next (xs_asg e2)).trans ?_
  clear e1 e2 v1 l1 b3 hmax hm hN hDl
  obtain ⟨sg,g1,g2,g3⟩:=signs_run (prim:=prA) (F:=1002) (l:=18) hp
  refine (xs_next (xs_asg (ev_call1 (x:=.int (p:Int)) rfl g3))).trans ?_
  have hi:∀ {ρ:PEnv},evE (runF tab_a prA 1002 19) (.var 2) ρ = some (.list ((p :: rest).map fun (p:Nat)=>.int (p:Int)))→evI (runF tab_a prA 1002 19) (.of (.slc (.var 2) (.yes (.lit (.int 1))) .no)) ρ = some (rest.map fun (p:Nat)=>.int (p:Int)):=fun v2 =>
    ev_of (ev_slx (lo:=.lit (.int 1)) (p:=1) v2 rfl (by decide))
  have hq:∀ x:Nat,sg[x % 4]? = some (sg.getD (x % 4) 0):=fun x=>by rw [List.getD_eq_getElem?_getD,List.getElem?_eq_getElem (g1.symm ▸ Nat.mod_lt x (show 0 < 4 by decide))]; rfl
  have e4:=ev_comp (cl:=runF tab_a prA 1002 19) (ρ:=[some (.list (ns.map .int)),some (.list (D.map .int)),some (.list ((p :: rest).map fun (p:Nat)=>.int (p:Int))),some (rowD sg),none,none,none]) (elt:=.idx (.var 3) (.bin .Mod (.var 6) (.lit (.int 4)))) (x:=6) (g:=fun x=>wD (sg.getD (x % 4) 0)) (hi rfl) fun x _ =>
    ev_idx (l:=sg.map wD) rfl (ev_bin (x:=.int (x:Int)) (y:=.int ((4:Nat):Int)) rfl rfl (modN (by decide))) (Nat.le_trans (Nat.le_of_lt (Nat.mod_lt x (by decide))) (by decide)) (by rw [List.getElem?_map,hq]; rfl)
  rw [show (rest.map fun x=>wD (sg.getD (x % 4) 0)) = (rest.map fun x=>sg.getD (x % 4) 0).map wD from (List.map_map (g:=wD) (f:=fun x:Nat=>sg.getD (x % 4) 0)).symm] at e4
  refine (xs_next (xs_asg e4)).trans ?_
  have e5:=ev_comp (cl:=runF tab_a prA 1002 19) (ρ:=[some (.list (ns.map .int)),some (.list (D.map .int)),some (.list ((p :: rest).map fun (p:Nat)=>.int (p:Int))),some (rowD sg),some (rowD (rest.map fun x=>sg.getD (x % 4) 0)),none,none]) (elt:=.bin .FloorDiv (.var 6) (.lit (.int 4))) (x:=6) (g:=fun x=>.int ((x / 4:Nat):Int)) (hi rfl) fun x _=>ev_bin (x:=.int (x:Int)) (y:=.int ((4:Nat):Int)) rfl rfl (fdivN (by decide) (by decide))
  rw [show (rest.map fun x=>PyData.int ((x / 4:Nat):Int)) = (rest.map fun x=>((x / 4:Nat):Int)).map .int from (List.map_map (g:=PyData.int) (f:=fun x:Nat=>((x / 4:Nat):Int))).symm] at e5
  refine law_tail (sg:=sg) (w:=rest.map fun x=>sg.getD (x % 4) 0) (fun z hz=>?_) g2 g1 ?_ ?_ ?_ ?_ e5
  · obtain ⟨x,_,e⟩:=List.mem_map.mp hz
    exact e ▸ List.mem_of_getElem? (hq x)
  all_goals rw [List.length_map]
  · exact Nat.le_trans (by decide) hr.1
  · exact Nat.le_trans hr.2 (by decide)
  · exact Nat.lt_of_lt_of_le (by decide) hr.1
  · exact Nat.le_trans hr.2 (by decide)
end Kt
end
section
open PySem PySem.W PyProof.Rows PySem.Calls Builtin
namespace Kt
theorem nr6:Fast.tw8326940854005059898 { strict:=!R.allR (Fast.tw5923862056798008813 PySem.Challenge.rw_kt0084_06.prog.main.body) (Fast.tw3471404346716756564 Fast.tw17691160309236699985),foot:=none,bare:=R.filterR (Fast.tw13343964577679436407 PySem.Challenge.rw_kt0084_06.prog PySem.Challenge.rw_kt0084_06.prog.main.body) [⟨⟨[118,97,114,115]⟩⟩,⟨⟨[100,105,114]⟩⟩,⟨⟨[108,111,99,97,108,115]⟩⟩] } PySem.Challenge.rw_kt0084_06.prog.main.body = true:=by kernel_rfl
theorem looks6:Fast.tw12908688711261696721 PySem.Challenge.rw_kt0084_06.prog = true:=by
  delta PySem.W.Fast.tw12908688711261696721
  refine look_both (look_both ?_ nr6) (by kernel_rfl)
  kernel_rfl
theorem said6:PySem.Challenge.rw_kt0084_06.wellSaid = true:=by
  refine (congrFun PySem.W.Fast.te9446332074065402090 _).trans ?_
  delta PySem.W.Fast.tw9446332074065402090
  iterate 18 (refine look_both ?_ (by kernel_rfl))
  delta PySem.W.Fast.tw17960256430627541270
  refine look_both (look_both ?_ (by kernel_rfl)) (by kernel_rfl)
  delta PySem.W.Fast.tw2436336058641802641
  iterate 13 (refine look_both ?_ (by kernel_rfl))
  exact looks6
theorem df6:(defOf v6 r6.name).isSome = true:=by kernel_rfl
noncomputable def D6:=(defOf v6 r6.name).get df6
theorem d6n:D6.1.name = "law" := by kernel_rfl
end Kt
theorem PySem.Challenge.cw_kt0084_06_holds : PySem.Challenge.rw_kt0084_06.Holds := by
  refine holds_law Kt.said6 fun said=>?_
  refine PySem.W.holds_open (d:=Kt.D6.1) (kwd:=Kt.D6.2) (q:=Kt.v6) (loose:=Kt.loose6) (Xt:=Kt.X6) (XP:=XL Kt.v6 []) (Yf:=Kt.Y6) (Ya:=fun _=>True) (YP:=fun _ h=>∃ K:Frag,K.In h ∧ Kt.HdOk K ∧ h.get? 84 = some (tabObj #[]) ∧ h.get? 798 = some (tabObj #[])) (N:=6800) Kt.left6 (fun w s e=>of_eq_true e) (fun w h h' Y k=>?_) (fun s e=>xl_of s (Bool.and_eq_true_iff.mp e).1) XL.keeps (by kernel_rfl) (by kernel_rfl) (by kernel_rfl) (fun s e=>recFacts_of (Bool.and_eq_true_iff.mp e).2) rfl said (by decide +kernel) ⟨rfl,rfl,rfl,rfl,rfl,by decide +kernel⟩ ?hw ?hc
  · obtain ⟨K,X,H,e1,e2⟩:=Y
    exact ⟨K,fun a o e=>k _ _ (X a o e),H,k _ _ e1,k _ _ e2⟩
  · w_witness2
  intro w s₀ s₁ mg mb G Y fa o pm cd doc dV kV ho hd hcd hD hmg hg args vals as hpre hlay hrd hwl hlo
  obtain ⟨K,KX,⟨H,L,HB,HS⟩,t1,t2⟩:=Y
  refine Ground.open G ?_
  intro T B D TE TW
  wrow_args hpre hlay hrd hwl hlo
  rename_i ns hs0 _ _ _ _ as3 as2 l vs as1 hL ra hwell hrd0 hints hr0 hcond ht
  refine wpAny_mono (Kt.law_run (prog:=_) (w:=w) (fn:=Kt.fn_a) (f:=6) (tab:=Kt.tab_a) (d:=7) (pfd:=Kt.pa7) (F:=1002) (lvl:=20) (specs:=Kt.specs_a) T KX t1 t2 H L HB HS Kt.tab_spec rfl (.of_eq hg) rfl ((congrArg mg Kt.d6n).symm.trans hmg) hwell ⟨_,rfl⟩ hL hints ?_ (Kt.law06 ns) (by decide)) (fun v s' h=>?_) fun _ _ e=>e
  · omega
  obtain ⟨rfl,hold,hos,hb⟩:=h
  exact ⟨.inl ⟨_,_,[],rfl,fun _=>rfl,ReadsW.bool true,(by first | rfl | wrow_post | kernel_rfl),fun _=>⟨List.nodup_nil,fun _ hm=>(nomatch hm)⟩⟩,hold,hos,hb⟩
end
