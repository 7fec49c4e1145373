import PyProof.Rows.All
import Wide.All
import OpenK.AllK
import Wide.FinOn
import PyProof.TupleIter
import PyProof.FactsAll.subtypes_1
import PyProof.FString
import PyProof.CompFree
import PyProof.EqAt
import PyProof.EqKinds
import PyProof.ExcClass
import PyProof.StationsW
import PyProof.RangeIter
import PyProof.WalksMore
import PyProof.ListNew
import PyProof.WalkInts
import PyProof.Truth
import PyProof.Rows.Catch
import PyProof.Rows.RuleB_rshift
import PyProof.Rows.RuleB_and
import PyProof.Rows.RaiseClass
import PyProof.SetRoads
import KE.KxBytes
import KE.BytesMake
import KE.KBytesCut
import KE.LcTurns
import KE.KNest
import KE.KEqSeq
import KE.KFromBytes
import KE.KPar
import Lean
import PySem.Challenge.RW_fc0002_02
/- Hd_fc0002_02 -/
section
open PySem PySem.W PySem.Calls PyProof.Rows
set_option Elab.async false
set_option maxRecDepth 100000
set_option maxHeartbeats 4000000
set_option linter.unusedVariables false
namespace Px
noncomputable section
abbrev pw : Program := PySem.Challenge.pw_fc0002_02
def fdOf : Stmt → Arguments × List Stmt × Scope
  | .FunctionDef _ a b _ _ _ sc .. => (a, b, sc)
  | _ => (default, [], default)
def topSt (i : Nat) : Stmt := (pw.main.body[i]?).getD (.Pass default)
def clsSt : Stmt → Nat → Stmt
  | .ClassDef _ _ _ b .., i => (b[i]?).getD (.Pass default)
  | _, _ => .Pass default
def t0 : Str := Str.mk (Array.mk [nat_lit 60, nat_lit 109, nat_lit 111, nat_lit 100, nat_lit 117, nat_lit 108, nat_lit 101, nat_lit 62])
def t1 : Str := Str.mk (Array.mk [nat_lit 47, nat_lit 99, nat_lit 108, nat_lit 97, nat_lit 105, nat_lit 109, nat_lit 47, nat_lit 99, nat_lit 117, nat_lit 116, nat_lit 46, nat_lit 112, nat_lit 121])
def t2 : Str := Str.mk (Array.mk [nat_lit 95, nat_lit 95, nat_lit 109, nat_lit 97, nat_lit 105, nat_lit 110, nat_lit 95, nat_lit 95])
def t3 : Str := Str.mk (Array.mk [nat_lit 95, nat_lit 95, nat_lit 110, nat_lit 97, nat_lit 109, nat_lit 101, nat_lit 95, nat_lit 95])
def t4 : Str := Str.mk (Array.mk [nat_lit 97, nat_lit 105, nat_lit 111, nat_lit 115, nat_lit 109, nat_lit 116, nat_lit 112, nat_lit 100, nat_lit 46, nat_lit 112, nat_lit 108, nat_lit 97, nat_lit 105, nat_lit 110])
def t5 : Str := Str.mk (Array.mk [nat_lit 95, nat_lit 95, nat_lit 100, nat_lit 111, nat_lit 99, nat_lit 95, nat_lit 95])
def t6 : Str := Str.mk (Array.mk [nat_lit 95, nat_lit 95, nat_lit 112, nat_lit 97, nat_lit 99, nat_lit 107, nat_lit 97, nat_lit 103, nat_lit 101, nat_lit 95, nat_lit 95])
def t7 : Str := Str.mk (Array.mk [nat_lit 95, nat_lit 95, nat_lit 108, nat_lit 111, nat_lit 97, nat_lit 100, nat_lit 101, nat_lit 114, nat_lit 95, nat_lit 95])
def t8 : Str := Str.mk (Array.mk [nat_lit 95, nat_lit 95, nat_lit 115, nat_lit 112, nat_lit 101, nat_lit 99, nat_lit 95, nat_lit 95])
def t9 : Str := Str.mk (Array.mk [nat_lit 95, nat_lit 95, nat_lit 97, nat_lit 110, nat_lit 110, nat_lit 111, nat_lit 116, nat_lit 97, nat_lit 116, nat_lit 105, nat_lit 111, nat_lit 110, nat_lit 115, nat_lit 95, nat_lit 95])
def t10 : Str := Str.mk (Array.mk [nat_lit 95, nat_lit 95, nat_lit 98, nat_lit 117, nat_lit 105, nat_lit 108, nat_lit 116, nat_lit 105, nat_lit 110, nat_lit 115, nat_lit 95, nat_lit 95])
def t11 : Str := Str.mk (Array.mk [nat_lit 95, nat_lit 95, nat_lit 102, nat_lit 105, nat_lit 108, nat_lit 101, nat_lit 95, nat_lit 95])
def t12 : Str := Str.mk (Array.mk [nat_lit 95, nat_lit 95, nat_lit 99, nat_lit 97, nat_lit 99, nat_lit 104, nat_lit 101, nat_lit 100, nat_lit 95, nat_lit 95])
def t13 : Str := Str.mk (Array.mk [nat_lit 95, nat_lit 119, nat_lit 97, nat_lit 108, nat_lit 108])
def t14 : Str := Str.mk (Array.mk [nat_lit 65, nat_lit 108, nat_lit 108, nat_lit 111, nat_lit 119, nat_lit 101, nat_lit 100])
def t15 : Str := Str.mk (Array.mk [nat_lit 107])
def t16 : Str := Str.mk (Array.mk [nat_lit 95, nat_lit 95, nat_lit 109, nat_lit 111, nat_lit 100, nat_lit 117, nat_lit 108, nat_lit 101, nat_lit 95, nat_lit 95])
def t17 : Str := Str.mk (Array.mk [nat_lit 95, nat_lit 95, nat_lit 113, nat_lit 117, nat_lit 97, nat_lit 108, nat_lit 110, nat_lit 97, nat_lit 109, nat_lit 101, nat_lit 95, nat_lit 95])
def t18 : Str := Str.mk (Array.mk [nat_lit 95, nat_lit 95, nat_lit 102, nat_lit 105, nat_lit 114, nat_lit 115, nat_lit 116, nat_lit 108, nat_lit 105, nat_lit 110, nat_lit 101, nat_lit 110, nat_lit 111, nat_lit 95, nat_lit 95])
def t19 : Str := Str.mk (Array.mk [nat_lit 95, nat_lit 95, nat_lit 105, nat_lit 110, nat_lit 105, nat_lit 116, nat_lit 95, nat_lit 95])
def t20 : Str := Str.mk (Array.mk [nat_lit 109, nat_lit 97, nat_lit 116, nat_lit 99, nat_lit 104])
def t21 : Str := Str.mk (Array.mk [nat_lit 95, nat_lit 95, nat_lit 115, nat_lit 116, nat_lit 97, nat_lit 116, nat_lit 105, nat_lit 99, nat_lit 95, nat_lit 97, nat_lit 116, nat_lit 116, nat_lit 114, nat_lit 105, nat_lit 98, nat_lit 117, nat_lit 116, nat_lit 101, nat_lit 115, nat_lit 95, nat_lit 95])
def t22 : Str := Str.mk (Array.mk [nat_lit 115, nat_lit 101, nat_lit 108, nat_lit 102])
def t23 : Str := Str.mk (Array.mk [nat_lit 115, nat_lit 105, nat_lit 103, nat_lit 110, nat_lit 115])
def t24 : Str := Str.mk (Array.mk [nat_lit 102, nat_lit 105, nat_lit 114, nat_lit 115, nat_lit 116, nat_lit 115])
def t25 : Str := Str.mk (Array.mk [nat_lit 65, nat_lit 108, nat_lit 108, nat_lit 111, nat_lit 119, nat_lit 101, nat_lit 100, nat_lit 46, nat_lit 95, nat_lit 95, nat_lit 105, nat_lit 110, nat_lit 105, nat_lit 116, nat_lit 95, nat_lit 95])
def t26 : Str := Str.mk (Array.mk [nat_lit 116, nat_lit 101, nat_lit 120, nat_lit 116])
def t27 : Str := Str.mk (Array.mk [nat_lit 65, nat_lit 108, nat_lit 108, nat_lit 111, nat_lit 119, nat_lit 101, nat_lit 100, nat_lit 46, nat_lit 109, nat_lit 97, nat_lit 116, nat_lit 99, nat_lit 104])
def t28 : Str := Str.mk (Array.mk [nat_lit 95, nat_lit 95, nat_lit 100, nat_lit 105, nat_lit 99, nat_lit 116, nat_lit 95, nat_lit 95])
def t29 : Str := Str.mk (Array.mk [nat_lit 95, nat_lit 95, nat_lit 119, nat_lit 101, nat_lit 97, nat_lit 107, nat_lit 114, nat_lit 101, nat_lit 102, nat_lit 95, nat_lit 95])
def t30 : Str := Str.mk (Array.mk [nat_lit 65, nat_lit 100, nat_lit 100, nat_lit 114, nat_lit 101, nat_lit 115, nat_lit 115])
def t31 : Str := Str.mk (Array.mk [nat_lit 73, nat_lit 80, nat_lit 118, nat_lit 52, nat_lit 65, nat_lit 100, nat_lit 100, nat_lit 114, nat_lit 101, nat_lit 115, nat_lit 115])
def t32 : Str := Str.mk (Array.mk [nat_lit 73, nat_lit 80, nat_lit 118, nat_lit 54, nat_lit 65, nat_lit 100, nat_lit 100, nat_lit 114, nat_lit 101, nat_lit 115, nat_lit 115])
def t33 : Str := Str.mk (Array.mk [nat_lit 111, nat_lit 99, nat_lit 116, nat_lit 101, nat_lit 116, nat_lit 115, nat_lit 95, nat_lit 111, nat_lit 102, nat_lit 95, nat_lit 102, nat_lit 111, nat_lit 117, nat_lit 114])
def t34 : Str := Str.mk (Array.mk [nat_lit 111, nat_lit 99, nat_lit 116, nat_lit 101, nat_lit 116, nat_lit 115, nat_lit 95, nat_lit 111, nat_lit 102, nat_lit 95, nat_lit 115, nat_lit 105, nat_lit 120])
def t35 : Str := Str.mk (Array.mk [nat_lit 105, nat_lit 112, nat_lit 95, nat_lit 97, nat_lit 100, nat_lit 100, nat_lit 114, nat_lit 101, nat_lit 115, nat_lit 115])
def t36 : Str := Str.mk (Array.mk [nat_lit 118, nat_lit 101, nat_lit 114, nat_lit 115, nat_lit 105, nat_lit 111, nat_lit 110])
def t37 : Str := Str.mk (Array.mk [nat_lit 112, nat_lit 97, nat_lit 99, nat_lit 107, nat_lit 101, nat_lit 100])
def t38 : Str := Str.mk (Array.mk [nat_lit 65, nat_lit 100, nat_lit 100, nat_lit 114, nat_lit 101, nat_lit 115, nat_lit 115, nat_lit 46, nat_lit 95, nat_lit 95, nat_lit 105, nat_lit 110, nat_lit 105, nat_lit 116, nat_lit 95, nat_lit 95])
def t39 : Str := Str.mk (Array.mk [nat_lit 112, nat_lit 97, nat_lit 114, nat_lit 116, nat_lit 115])
def t40 : Str := Str.mk (Array.mk [nat_lit 111, nat_lit 99, nat_lit 116, nat_lit 101, nat_lit 116, nat_lit 115])
def t41 : Str := Str.mk (Array.mk [nat_lit 112, nat_lit 97, nat_lit 114, nat_lit 116])
def t42 : Str := Str.mk (Array.mk [nat_lit 116, nat_lit 121, nat_lit 112, nat_lit 101, nat_lit 46, nat_lit 95, nat_lit 95, nat_lit 115, nat_lit 117, nat_lit 98, nat_lit 99, nat_lit 108, nat_lit 97, nat_lit 115, nat_lit 115, nat_lit 101, nat_lit 115, nat_lit 95, nat_lit 95, nat_lit 46, nat_lit 69, nat_lit 79, nat_lit 70, nat_lit 69, nat_lit 114, nat_lit 114, nat_lit 111, nat_lit 114, nat_lit 46, nat_lit 48])
def t43 : Str := Str.mk (Array.mk [nat_lit 116, nat_lit 121, nat_lit 112, nat_lit 101, nat_lit 46, nat_lit 95, nat_lit 95, nat_lit 115, nat_lit 117, nat_lit 98, nat_lit 99, nat_lit 108, nat_lit 97, nat_lit 115, nat_lit 115, nat_lit 101, nat_lit 115, nat_lit 95, nat_lit 95, nat_lit 46, nat_lit 69, nat_lit 79, nat_lit 70, nat_lit 69, nat_lit 114, nat_lit 114, nat_lit 111, nat_lit 114, nat_lit 46, nat_lit 110])
def t44 : Str := Str.mk (Array.mk [nat_lit 73, nat_lit 110, nat_lit 99, nat_lit 111, nat_lit 109, nat_lit 112, nat_lit 108, nat_lit 101, nat_lit 116, nat_lit 101, nat_lit 82, nat_lit 101, nat_lit 97, nat_lit 100, nat_lit 69, nat_lit 114, nat_lit 114, nat_lit 111, nat_lit 114])
def t45 : Str := Str.mk (Array.mk [nat_lit 97, nat_lit 105, nat_lit 111, nat_lit 115, nat_lit 109, nat_lit 116, nat_lit 112, nat_lit 100, nat_lit 46, nat_lit 112, nat_lit 114, nat_lit 111, nat_lit 120, nat_lit 121, nat_lit 95, nat_lit 112, nat_lit 114, nat_lit 111, nat_lit 116, nat_lit 111, nat_lit 99, nat_lit 111, nat_lit 108])
def t46 : Str := Str.mk (Array.mk [nat_lit 80, nat_lit 108, nat_lit 97, nat_lit 105, nat_lit 110, nat_lit 82, nat_lit 101, nat_lit 97, nat_lit 100, nat_lit 101, nat_lit 114])
def t47 : Str := Str.mk (Array.mk [nat_lit 86, nat_lit 50, nat_lit 95, nat_lit 83, nat_lit 73, nat_lit 71, nat_lit 78, nat_lit 65, nat_lit 84, nat_lit 85, nat_lit 82, nat_lit 69])
def t48 : Str := Str.mk (Array.mk [nat_lit 114, nat_lit 101, nat_lit 97, nat_lit 100])
def t49 : Str := Str.mk (Array.mk [nat_lit 114, nat_lit 101, nat_lit 97, nat_lit 100, nat_lit 101, nat_lit 120, nat_lit 97, nat_lit 99, nat_lit 116, nat_lit 108, nat_lit 121])
def t50 : Str := Str.mk (Array.mk [nat_lit 114, nat_lit 101, nat_lit 97, nat_lit 100, nat_lit 117, nat_lit 110, nat_lit 116, nat_lit 105, nat_lit 108])
def t51 : Str := Str.mk (Array.mk [nat_lit 100, nat_lit 97, nat_lit 116, nat_lit 97])
def t52 : Str := Str.mk (Array.mk [nat_lit 112, nat_lit 105, nat_lit 101, nat_lit 99, nat_lit 101, nat_lit 115])
def t53 : Str := Str.mk (Array.mk [nat_lit 80, nat_lit 108, nat_lit 97, nat_lit 105, nat_lit 110, nat_lit 82, nat_lit 101, nat_lit 97, nat_lit 100, nat_lit 101, nat_lit 114, nat_lit 46, nat_lit 95, nat_lit 95, nat_lit 105, nat_lit 110, nat_lit 105, nat_lit 116, nat_lit 95, nat_lit 95])
def t54 : Str := Str.mk (Array.mk [nat_lit 110])
def t55 : Str := Str.mk (Array.mk [nat_lit 115, nat_lit 105, nat_lit 122, nat_lit 101])
def t56 : Str := Str.mk (Array.mk [nat_lit 112, nat_lit 105, nat_lit 101, nat_lit 99, nat_lit 101])
def t57 : Str := Str.mk (Array.mk [nat_lit 80, nat_lit 108, nat_lit 97, nat_lit 105, nat_lit 110, nat_lit 82, nat_lit 101, nat_lit 97, nat_lit 100, nat_lit 101, nat_lit 114, nat_lit 46, nat_lit 114, nat_lit 101, nat_lit 97, nat_lit 100])
def t58 : Str := Str.mk (Array.mk [nat_lit 80, nat_lit 108, nat_lit 97, nat_lit 105, nat_lit 110, nat_lit 82, nat_lit 101, nat_lit 97, nat_lit 100, nat_lit 101, nat_lit 114, nat_lit 46, nat_lit 114, nat_lit 101, nat_lit 97, nat_lit 100, nat_lit 101, nat_lit 120, nat_lit 97, nat_lit 99, nat_lit 116, nat_lit 108, nat_lit 121])
def t59 : Str := Str.mk (Array.mk [nat_lit 112, nat_lit 108, nat_lit 97, nat_lit 99, nat_lit 101])
def t60 : Str := Str.mk (Array.mk [nat_lit 80, nat_lit 108, nat_lit 97, nat_lit 105, nat_lit 110, nat_lit 82, nat_lit 101, nat_lit 97, nat_lit 100, nat_lit 101, nat_lit 114, nat_lit 46, nat_lit 114, nat_lit 101, nat_lit 97, nat_lit 100, nat_lit 117, nat_lit 110, nat_lit 116, nat_lit 105, nat_lit 108])
def t61 : Str := Str.mk (Array.mk [nat_lit 65, nat_lit 70])
def t62 : Str := Str.mk (Array.mk [nat_lit 85, nat_lit 78, nat_lit 83, nat_lit 80, nat_lit 69, nat_lit 67])
def t63 : Str := Str.mk (Array.mk [nat_lit 73, nat_lit 78, nat_lit 69, nat_lit 84])
def t64 : Str := Str.mk (Array.mk [nat_lit 73, nat_lit 78, nat_lit 69, nat_lit 84, nat_lit 54])
def t65 : Str := Str.mk (Array.mk [nat_lit 85, nat_lit 78, nat_lit 73, nat_lit 88])
def t66 : Str := Str.mk (Array.mk [nat_lit 80, nat_lit 82, nat_lit 79, nat_lit 84, nat_lit 79])
def t67 : Str := Str.mk (Array.mk [nat_lit 86, nat_lit 50, nat_lit 95, nat_lit 86, nat_lit 65, nat_lit 76, nat_lit 73, nat_lit 68, nat_lit 95, nat_lit 67, nat_lit 77, nat_lit 68, nat_lit 83])
def t68 : Str := Str.mk (Array.mk [nat_lit 86, nat_lit 50, nat_lit 95, nat_lit 86, nat_lit 65, nat_lit 76, nat_lit 73, nat_lit 68, nat_lit 95, nat_lit 70, nat_lit 65, nat_lit 77, nat_lit 83])
def t69 : Str := Str.mk (Array.mk [nat_lit 86, nat_lit 50, nat_lit 95, nat_lit 86, nat_lit 65, nat_lit 76, nat_lit 73, nat_lit 68, nat_lit 95, nat_lit 80, nat_lit 82, nat_lit 79, nat_lit 83])
def t70 : Str := Str.mk (Array.mk [nat_lit 83, nat_lit 84, nat_lit 82, nat_lit 69, nat_lit 65, nat_lit 77])
def t71 : Str := Str.mk (Array.mk [nat_lit 68, nat_lit 71, nat_lit 82, nat_lit 65, nat_lit 77])
def t72 : Str := Str.mk (Array.mk [nat_lit 86, nat_lit 50, nat_lit 95, nat_lit 80, nat_lit 65, nat_lit 82, nat_lit 83, nat_lit 69, nat_lit 95, nat_lit 65, nat_lit 68, nat_lit 68, nat_lit 82, nat_lit 95, nat_lit 70, nat_lit 65, nat_lit 77, nat_lit 80, nat_lit 82, nat_lit 79])
def t73 : Str := Str.mk (Array.mk [nat_lit 80, nat_lit 114, nat_lit 111, nat_lit 120, nat_lit 121, nat_lit 68, nat_lit 97, nat_lit 116, nat_lit 97])
def t74 : Str := Str.mk (Array.mk [nat_lit 118, nat_lit 97, nat_lit 108, nat_lit 105, nat_lit 100])
def t75 : Str := Str.mk (Array.mk [nat_lit 116, nat_lit 108, nat_lit 118])
def t76 : Str := Str.mk (Array.mk [nat_lit 119, nat_lit 105, nat_lit 116, nat_lit 104, nat_lit 95, nat_lit 101, nat_lit 114, nat_lit 114, nat_lit 111, nat_lit 114])
def t77 : Str := Str.mk (Array.mk [nat_lit 95, nat_lit 95, nat_lit 98, nat_lit 111, nat_lit 111, nat_lit 108, nat_lit 95, nat_lit 95])
def t78 : Str := Str.mk (Array.mk [nat_lit 80, nat_lit 114, nat_lit 111, nat_lit 120, nat_lit 121, nat_lit 68, nat_lit 97, nat_lit 116, nat_lit 97, nat_lit 46, nat_lit 95, nat_lit 95, nat_lit 105, nat_lit 110, nat_lit 105, nat_lit 116, nat_lit 95, nat_lit 95])
def t79 : Str := Str.mk (Array.mk [nat_lit 80, nat_lit 114, nat_lit 111, nat_lit 120, nat_lit 121, nat_lit 68, nat_lit 97, nat_lit 116, nat_lit 97, nat_lit 46, nat_lit 118, nat_lit 97, nat_lit 108, nat_lit 105, nat_lit 100])
def t80 : Str := Str.mk (Array.mk [nat_lit 80, nat_lit 114, nat_lit 111, nat_lit 120, nat_lit 121, nat_lit 68, nat_lit 97, nat_lit 116, nat_lit 97, nat_lit 46, nat_lit 116, nat_lit 108, nat_lit 118])
def t81 : Str := Str.mk (Array.mk [nat_lit 101, nat_lit 114, nat_lit 114, nat_lit 111, nat_lit 114, nat_lit 95, nat_lit 109, nat_lit 115, nat_lit 103])
def t82 : Str := Str.mk (Array.mk [nat_lit 108, nat_lit 111, nat_lit 103, nat_lit 95, nat_lit 112, nat_lit 114, nat_lit 101, nat_lit 102, nat_lit 105, nat_lit 120])
def t83 : Str := Str.mk (Array.mk [nat_lit 80, nat_lit 114, nat_lit 111, nat_lit 120, nat_lit 121, nat_lit 68, nat_lit 97, nat_lit 116, nat_lit 97, nat_lit 46, nat_lit 119, nat_lit 105, nat_lit 116, nat_lit 104, nat_lit 95, nat_lit 101, nat_lit 114, nat_lit 114, nat_lit 111, nat_lit 114])
def t84 : Str := Str.mk (Array.mk [nat_lit 80, nat_lit 114, nat_lit 111, nat_lit 120, nat_lit 121, nat_lit 68, nat_lit 97, nat_lit 116, nat_lit 97, nat_lit 46, nat_lit 95, nat_lit 95, nat_lit 98, nat_lit 111, nat_lit 111, nat_lit 108, nat_lit 95, nat_lit 95])
def t85 : Str := Str.mk (Array.mk [nat_lit 95, nat_lit 116, nat_lit 108, nat_lit 118])
def t86 : Str := Str.mk (Array.mk [nat_lit 99, nat_lit 111, nat_lit 109, nat_lit 109, nat_lit 97, nat_lit 110, nat_lit 100])
def t87 : Str := Str.mk (Array.mk [nat_lit 100, nat_lit 115, nat_lit 116, nat_lit 95, nat_lit 97, nat_lit 100, nat_lit 100, nat_lit 114])
def t88 : Str := Str.mk (Array.mk [nat_lit 100, nat_lit 115, nat_lit 116, nat_lit 95, nat_lit 112, nat_lit 111, nat_lit 114, nat_lit 116])
def t89 : Str := Str.mk (Array.mk [nat_lit 101, nat_lit 114, nat_lit 114, nat_lit 111, nat_lit 114])
def t90 : Str := Str.mk (Array.mk [nat_lit 102, nat_lit 97, nat_lit 109, nat_lit 105, nat_lit 108, nat_lit 121])
def t91 : Str := Str.mk (Array.mk [nat_lit 112, nat_lit 114, nat_lit 111, nat_lit 116, nat_lit 111, nat_lit 99, nat_lit 111, nat_lit 108])
def t92 : Str := Str.mk (Array.mk [nat_lit 114, nat_lit 101, nat_lit 115, nat_lit 116])
def t93 : Str := Str.mk (Array.mk [nat_lit 115, nat_lit 114, nat_lit 99, nat_lit 95, nat_lit 97, nat_lit 100, nat_lit 100, nat_lit 114])
def t94 : Str := Str.mk (Array.mk [nat_lit 115, nat_lit 114, nat_lit 99, nat_lit 95, nat_lit 112, nat_lit 111, nat_lit 114, nat_lit 116])
def t95 : Str := Str.mk (Array.mk [nat_lit 116, nat_lit 108, nat_lit 118, nat_lit 95, nat_lit 115, nat_lit 116, nat_lit 97, nat_lit 114, nat_lit 116])
def t96 : Str := Str.mk (Array.mk [nat_lit 119, nat_lit 104, nat_lit 111, nat_lit 108, nat_lit 101, nat_lit 95, nat_lit 114, nat_lit 97, nat_lit 119])
def t97 : Str := Str.mk (Array.mk [nat_lit 82, nat_lit 69, nat_lit 95, nat_lit 65, nat_lit 68, nat_lit 68, nat_lit 82, nat_lit 95, nat_lit 65, nat_lit 76, nat_lit 76, nat_lit 79, nat_lit 87, nat_lit 67, nat_lit 72, nat_lit 65, nat_lit 82, nat_lit 83])
def t98 : Str := Str.mk (Array.mk [nat_lit 82, nat_lit 69, nat_lit 95, nat_lit 80, nat_lit 79, nat_lit 82, nat_lit 84, nat_lit 95, nat_lit 78, nat_lit 79, nat_lit 76, nat_lit 69, nat_lit 65, nat_lit 68, nat_lit 90, nat_lit 69, nat_lit 82, nat_lit 79])
def t99 : Str := Str.mk (Array.mk [nat_lit 95, nat_lit 103, nat_lit 101, nat_lit 116, nat_lit 95, nat_lit 118, nat_lit 49])
def t100 : Str := Str.mk (Array.mk [nat_lit 95, nat_lit 103, nat_lit 101, nat_lit 116, nat_lit 95, nat_lit 118, nat_lit 50])
def t101 : Str := Str.mk (Array.mk [nat_lit 103, nat_lit 101, nat_lit 116, nat_lit 95, nat_lit 112, nat_lit 114, nat_lit 111, nat_lit 120, nat_lit 121])
def t102 : Str := Str.mk (Array.mk [nat_lit 48, nat_lit 49, nat_lit 50, nat_lit 51, nat_lit 52, nat_lit 53, nat_lit 54, nat_lit 55, nat_lit 56, nat_lit 57, nat_lit 97, nat_lit 98, nat_lit 99, nat_lit 100, nat_lit 101, nat_lit 102, nat_lit 65, nat_lit 66, nat_lit 67, nat_lit 68, nat_lit 69, nat_lit 70, nat_lit 46, nat_lit 58])
def t103 : Str := Str.mk (Array.mk [])
def t104 : Str := Str.mk (Array.mk [nat_lit 49, nat_lit 50, nat_lit 51, nat_lit 52, nat_lit 53, nat_lit 54, nat_lit 55, nat_lit 56, nat_lit 57])
def t105 : Str := Str.mk (Array.mk [nat_lit 114, nat_lit 101, nat_lit 97, nat_lit 100, nat_lit 101, nat_lit 114])
def t106 : Str := Str.mk (Array.mk [nat_lit 105, nat_lit 110, nat_lit 105, nat_lit 116, nat_lit 105, nat_lit 97, nat_lit 108])
def t107 : Str := Str.mk (Array.mk [nat_lit 112, nat_lit 114, nat_lit 111, nat_lit 120, nat_lit 121, nat_lit 95, nat_lit 100, nat_lit 97, nat_lit 116, nat_lit 97])
def t108 : Str := Str.mk (Array.mk [nat_lit 112, nat_lit 114, nat_lit 111, nat_lit 116, nat_lit 111])
def t109 : Str := Str.mk (Array.mk [nat_lit 97, nat_lit 102])
def t110 : Str := Str.mk (Array.mk [nat_lit 103, nat_lit 101, nat_lit 116, nat_lit 95, nat_lit 97, nat_lit 112])
def t111 : Str := Str.mk (Array.mk [nat_lit 97, nat_lit 100, nat_lit 100, nat_lit 114])
def t112 : Str := Str.mk (Array.mk [nat_lit 112, nat_lit 111, nat_lit 114, nat_lit 116])
def t113 : Str := Str.mk (Array.mk [nat_lit 100, nat_lit 97, nat_lit 116, nat_lit 97, nat_lit 95, nat_lit 112, nat_lit 97, nat_lit 114, nat_lit 116, nat_lit 115])
def t114 : Str := Str.mk (Array.mk [nat_lit 114, nat_lit 101, nat_lit 97, nat_lit 100, nat_lit 95, nat_lit 114, nat_lit 101, nat_lit 115, nat_lit 116])
def t115 : Str := Str.mk (Array.mk [nat_lit 115, nat_lit 105, nat_lit 103, nat_lit 110, nat_lit 97, nat_lit 116, nat_lit 117, nat_lit 114, nat_lit 101])
def t116 : Str := Str.mk (Array.mk [nat_lit 104, nat_lit 101, nat_lit 97, nat_lit 100, nat_lit 101, nat_lit 114])
def t117 : Str := Str.mk (Array.mk [nat_lit 116, nat_lit 97, nat_lit 105, nat_lit 108, nat_lit 95, nat_lit 112, nat_lit 97, nat_lit 114, nat_lit 116])
def t118 : Str := Str.mk (Array.mk [nat_lit 118, nat_lit 101, nat_lit 114, nat_lit 95, nat_lit 99, nat_lit 109, nat_lit 100])
def t119 : Str := Str.mk (Array.mk [nat_lit 102, nat_lit 97, nat_lit 109, nat_lit 95, nat_lit 112, nat_lit 114, nat_lit 111, nat_lit 116, nat_lit 111])
def t120 : Str := Str.mk (Array.mk [nat_lit 108, nat_lit 101, nat_lit 110, nat_lit 95, nat_lit 116, nat_lit 97, nat_lit 105, nat_lit 108])
def t121 : Str := Str.mk (Array.mk [nat_lit 95])
def t122 : Str := Str.mk (Array.mk [nat_lit 112, nat_lit 111, nat_lit 114, nat_lit 116, nat_lit 115])
def t123 : Str := Str.mk (Array.mk [nat_lit 97, nat_lit 100, nat_lit 100, nat_lit 114, nat_lit 95, nat_lit 108, nat_lit 101, nat_lit 110])
def t124 : Str := Str.mk (Array.mk [nat_lit 97, nat_lit 100, nat_lit 100, nat_lit 114, nat_lit 95, nat_lit 115, nat_lit 116, nat_lit 114, nat_lit 117, nat_lit 99, nat_lit 116])
def t125 : Str := Str.mk (Array.mk [nat_lit 115, nat_lit 95, nat_lit 97, nat_lit 100, nat_lit 100, nat_lit 114])
def t126 : Str := Str.mk (Array.mk [nat_lit 100, nat_lit 95, nat_lit 97, nat_lit 100, nat_lit 100, nat_lit 114])
def t127 : Str := Str.mk (Array.mk [nat_lit 115, nat_lit 95, nat_lit 112, nat_lit 111, nat_lit 114, nat_lit 116])
def t128 : Str := Str.mk (Array.mk [nat_lit 100, nat_lit 95, nat_lit 112, nat_lit 111, nat_lit 114, nat_lit 116])
def t129 : Str := Str.mk (Array.mk [nat_lit 114, nat_lit 101, nat_lit 97, nat_lit 100, nat_lit 101, nat_lit 114, nat_lit 95, nat_lit 102, nat_lit 117, nat_lit 110, nat_lit 99])
def t130 : Str := Str.mk (Array.mk [nat_lit 108, nat_lit 97, nat_lit 119, nat_lit 95, nat_lit 102, nat_lit 99, nat_lit 48, nat_lit 48, nat_lit 48, nat_lit 50, nat_lit 95, nat_lit 48, nat_lit 50])
def t131 : Str := Str.mk (Array.mk [nat_lit 95, nat_lit 108, nat_lit 97, nat_lit 119, nat_lit 95, nat_lit 112, nat_lit 108, nat_lit 97, nat_lit 99, nat_lit 101, nat_lit 115])
def t132 : Str := Str.mk (Array.mk [nat_lit 95, nat_lit 108, nat_lit 97, nat_lit 119, nat_lit 95, nat_lit 104, nat_lit 101, nat_lit 97, nat_lit 100, nat_lit 101, nat_lit 114])
def t133 : Str := Str.mk (Array.mk [nat_lit 95, nat_lit 108, nat_lit 97, nat_lit 119, nat_lit 95, nat_lit 116, nat_lit 111, nat_lit 108, nat_lit 100])
def t134 : Str := Str.mk (Array.mk [nat_lit 95, nat_lit 108, nat_lit 97, nat_lit 119, nat_lit 95, nat_lit 115, nat_lit 97, nat_lit 109, nat_lit 101])
def t135 : Str := Str.mk (Array.mk [nat_lit 108, nat_lit 97, nat_lit 119])
def t136 : Str := Str.mk (Array.mk [nat_lit 101, nat_lit 110, nat_lit 100])
def t137 : Str := Str.mk (Array.mk [nat_lit 99, nat_lit 111, nat_lit 117, nat_lit 110, nat_lit 116])
def t138 : Str := Str.mk (Array.mk [nat_lit 115, nat_lit 99, nat_lit 114, nat_lit 105, nat_lit 112, nat_lit 116])
def t139 : Str := Str.mk (Array.mk [nat_lit 114, nat_lit 105, nat_lit 103, nat_lit 104, nat_lit 116])
def t140 : Str := Str.mk (Array.mk [nat_lit 100, nat_lit 114, nat_lit 97, nat_lit 119, nat_lit 110])
def t141 : Str := Str.mk (Array.mk [nat_lit 116, nat_lit 117, nat_lit 114, nat_lit 110])
def t142 : Str := Str.mk (Array.mk [nat_lit 115, nat_lit 105, nat_lit 122, nat_lit 101, nat_lit 115])
def t143 : Str := Str.mk (Array.mk [nat_lit 116, nat_lit 111, nat_lit 108, nat_lit 100])
def t144 : Str := Str.mk (Array.mk [nat_lit 112, nat_lit 114, nat_lit 111, nat_lit 120, nat_lit 121])
def o11_0 (P : Params) : Obj := ⟨(.type "tuple"), none, (.seq (Array.mk []) 0), Array.mk []⟩
def o12_0 (P : Params) : Obj := ⟨.none, none, (.fields (Array.mk [])), Array.mk []⟩
def o13_0 (P : Params) : Obj := ⟨(.type "code"), none, (.fields (Array.mk [(.str t0 182), (.str t0 183), (.str t1 184), (.int 1 0), (.int 0 0), (.int 0 0), (.int 0 0), (.int 0 0), (.ref 11), (.bool false), (.int 181 0), (.ref 12), .none, .none, .none, .none, (.int 185 0), (.int 1 0), (.str t1 186)])), Array.mk []⟩
def o14_0 (P : Params) : Obj := ⟨(.type "frame"), none, .plain, Array.mk [(some (.ref 13)), (some (.ref 3)), (some (.ref 3)), none, (some (.str t2 164)), none, (some (.ref 0))]⟩
def tr0 (P : Params) : BT := (.node (boot_o_0 P) (.node (boot_o_1 P) (.node (boot_o_3 P) (.node (boot_o_7 P) .nil .nil) (.node (o11_0 P) .nil .nil)) (.node (boot_o_5 P) (.node (boot_o_9 P) .nil .nil) (.node (o13_0 P) .nil .nil))) (.node (boot_o_2 P) (.node (boot_o_4 P) (.node (boot_o_8 P) .nil .nil) (.node (o12_0 P) .nil .nil)) (.node (boot_o_6 P) (.node (boot_o_10 P) .nil .nil) (.node (o14_0 P) .nil .nil))))
def hp0 (P : Params) : Heap := ⟨Array.mk [boot_o_0 P, boot_o_1 P, boot_o_2 P, boot_o_3 P, boot_o_4 P, boot_o_5 P, boot_o_6 P, boot_o_7 P, boot_o_8 P, boot_o_9 P, boot_o_10 P, o11_0 P, o12_0 P, o13_0 P, o14_0 P], {}⟩
def tr1 (P : Params) : BT := (.node (boot_o_0 P) (.node (boot_o_1 P) (.node (boot_o_3 P) (.node (boot_o_7 P) .nil .nil) (.node (o11_0 P) .nil .nil)) (.node (boot_o_5 P) (.node (boot_o_9 P) .nil .nil) (.node (o13_0 P) .nil .nil))) (.node (boot_o_2 P) (.node (boot_o_4 P) (.node (boot_o_8 P) .nil .nil) (.node (o12_0 P) .nil .nil)) (.node (boot_o_6 P) (.node (boot_o_10 P) .nil .nil) (.node (o14_0 P) .nil .nil))))
def o3_2 (P : Params) : Obj := ⟨(.type "dict"), none, (.dict (Array.mk [⟨(PyData.keyHash P t3), (.str t3 165), (.str t4 194)⟩, ⟨(PyData.keyHash P t5), (.str t5 166), .none⟩, ⟨(PyData.keyHash P t6), (.str t6 167), .none⟩, ⟨(PyData.keyHash P t7), (.str t7 168), (.builtin "__main__.__loader__#opaque")⟩, ⟨(PyData.keyHash P t8), (.str t8 169), .none⟩, ⟨(PyData.keyHash P t9), (.str t9 170), (.ref 6)⟩, ⟨(PyData.keyHash P t10), (.str t10 171), (.ref 4)⟩, ⟨(PyData.keyHash P t11), (.str t11 173), (.str t1 172)⟩, ⟨(PyData.keyHash P t12), (.str t12 174), .none⟩, ⟨(PyData.keyHash P t13), (.str t13 193), (.ref 21)⟩, ⟨(PyData.keyHash P t14), (.str t14 235), (.ref 45)⟩]) 11), Array.mk []⟩
def o12_2 (P : Params) : Obj := ⟨.none, none, (.fields (Array.mk [(.int 1 0), (.int 0 0), (.ref 20), (.int 5 0), (.int 0 0), (.ref 27)])), Array.mk []⟩
def o15_2 (P : Params) : Obj := ⟨(.type "tuple"), none, (.seq (Array.mk []) 0), Array.mk []⟩
def o16_2 (P : Params) : Obj := ⟨.none, none, (.fields (Array.mk [])), Array.mk []⟩
def o17_2 (P : Params) : Obj := ⟨(.type "tuple"), none, (.seq (Array.mk [(.str t15 190)]) 0), Array.mk []⟩
def o18_2 (P : Params) : Obj := ⟨(.type "tuple"), none, (.seq (Array.mk []) 0), Array.mk []⟩
def o19_2 (P : Params) : Obj := ⟨.none, none, (.func (⟨t13, t13, (fdOf (topSt 0)).1, .stmts (fdOf (topSt 0)).2.1, (fdOf (topSt 0)).2.2, 0, [], .none, .none, .none, .none, none, .none, .none, 0⟩ : FuncData)), Array.mk []⟩
def o20_2 (P : Params) : Obj := ⟨(.type "code"), none, (.fields (Array.mk [(.str t13 187), (.str t13 188), (.str t1 189), (.int 1 0), (.int 1 0), (.int 0 0), (.int 0 0), (.int 3 0), (.ref 15), (.bool true), (.int 181 0), (.ref 16), .none, (.ref 17), (.ref 18), (.ref 19), (.int 191 0), (.int 1 0), (.str t1 192)])), Array.mk []⟩
def o21_2 (P : Params) : Obj := ⟨(.type "function"), none, (.func (⟨t13, t13, (fdOf (topSt 0)).1, .stmts (fdOf (topSt 0)).2.1, (fdOf (topSt 0)).2.2, 3, [], .none, .none, .none, (.str t2 164), none, (.ref 20), .none, 0⟩ : FuncData)), Array.mk []⟩
def o22_2 (P : Params) : Obj := ⟨(.type "tuple"), none, (.seq (Array.mk []) 0), Array.mk []⟩
def o23_2 (P : Params) : Obj := ⟨(.type "builtin_function_or_method"), none, (.fields (Array.mk [(.builtin "type.__prepare__"), (.type "type")])), Array.mk []⟩
def o24_2 (P : Params) : Obj := ⟨(.type "dict"), none, (.dict (Array.mk [⟨(PyData.keyHash P t16), (.str t16 203), (.str t4 194)⟩, ⟨(PyData.keyHash P t17), (.str t17 205), (.str t14 204)⟩, ⟨(PyData.keyHash P t18), (.str t18 207), (.int 5 206)⟩, ⟨(PyData.keyHash P t19), (.str t19 216), (.ref 35)⟩, ⟨(PyData.keyHash P t20), (.str t20 225), (.ref 42)⟩, ⟨(PyData.keyHash P t21), (.str t21 228), (.ref 43)⟩]) 6), Array.mk []⟩
def o25_2 (P : Params) : Obj := ⟨(.type "tuple"), none, (.seq (Array.mk []) 0), Array.mk []⟩
def o26_2 (P : Params) : Obj := ⟨.none, none, (.fields (Array.mk [(.int 7 0), (.int 4 0), (.ref 34), (.int 11 0), (.int 4 0), (.ref 41)])), Array.mk []⟩
def o27_2 (P : Params) : Obj := ⟨(.type "code"), none, (.fields (Array.mk [(.str t14 198), (.str t14 199), (.str t1 200), (.int 5 0), (.int 0 0), (.int 0 0), (.int 0 0), (.int 0 0), (.ref 25), (.bool false), (.int 181 0), (.ref 26), .none, .none, .none, .none, (.int 201 0), (.int 5 0), (.str t1 202)])), Array.mk []⟩
def o28_2 (P : Params) : Obj := ⟨(.type "frame"), none, .plain, Array.mk [(some (.ref 27)), (some (.ref 3)), (some (.ref 24)), none, (some (.str t4 194)), none, (some (.ref 0))]⟩
def o29_2 (P : Params) : Obj := ⟨(.type "tuple"), none, (.seq (Array.mk []) 0), Array.mk []⟩
def o30_2 (P : Params) : Obj := ⟨.none, none, (.fields (Array.mk [])), Array.mk []⟩
def o31_2 (P : Params) : Obj := ⟨(.type "tuple"), none, (.seq (Array.mk [(.str t22 211), (.str t23 212), (.str t24 213)]) 0), Array.mk []⟩
def o32_2 (P : Params) : Obj := ⟨(.type "tuple"), none, (.seq (Array.mk []) 0), Array.mk []⟩
def o33_2 (P : Params) : Obj := ⟨.none, none, (.func (⟨t19, t25, (fdOf (clsSt (topSt 2) 0)).1, .stmts (fdOf (clsSt (topSt 2) 0)).2.1, (fdOf (clsSt (topSt 2) 0)).2.2, 0, [], .none, .none, .none, .none, none, .none, .none, 0⟩ : FuncData)), Array.mk []⟩
def o34_2 (P : Params) : Obj := ⟨(.type "code"), none, (.fields (Array.mk [(.str t19 208), (.str t25 209), (.str t1 210), (.int 7 0), (.int 3 0), (.int 0 0), (.int 0 0), (.int 3 0), (.ref 29), (.bool true), (.int 181 0), (.ref 30), .none, (.ref 31), (.ref 32), (.ref 33), (.int 214 0), (.int 7 0), (.str t1 215)])), Array.mk []⟩
def o35_2 (P : Params) : Obj := ⟨(.type "function"), none, (.func (⟨t19, t25, (fdOf (clsSt (topSt 2) 0)).1, .stmts (fdOf (clsSt (topSt 2) 0)).2.1, (fdOf (clsSt (topSt 2) 0)).2.2, 3, [], .none, .none, .none, (.str t4 194), none, (.ref 34), .none, 0⟩ : FuncData)), Array.mk []⟩
def o36_2 (P : Params) : Obj := ⟨(.type "tuple"), none, (.seq (Array.mk []) 0), Array.mk []⟩
def o37_2 (P : Params) : Obj := ⟨.none, none, (.fields (Array.mk [])), Array.mk []⟩
def o38_2 (P : Params) : Obj := ⟨(.type "tuple"), none, (.seq (Array.mk [(.str t22 220), (.str t26 221)]) 0), Array.mk []⟩
def o39_2 (P : Params) : Obj := ⟨(.type "tuple"), none, (.seq (Array.mk [(.str t22 222)]) 0), Array.mk []⟩
def o40_2 (P : Params) : Obj := ⟨.none, none, (.func (⟨t20, t27, (fdOf (clsSt (topSt 2) 1)).1, .stmts (fdOf (clsSt (topSt 2) 1)).2.1, (fdOf (clsSt (topSt 2) 1)).2.2, 0, [], .none, .none, .none, .none, none, .none, .none, 0⟩ : FuncData)), Array.mk []⟩
def o41_2 (P : Params) : Obj := ⟨(.type "code"), none, (.fields (Array.mk [(.str t20 217), (.str t27 218), (.str t1 219), (.int 11 0), (.int 2 0), (.int 0 0), (.int 0 0), (.int 3 0), (.ref 36), (.bool true), (.int 181 0), (.ref 37), .none, (.ref 38), (.ref 39), (.ref 40), (.int 223 0), (.int 11 0), (.str t1 224)])), Array.mk []⟩
def o42_2 (P : Params) : Obj := ⟨(.type "function"), none, (.func (⟨t20, t27, (fdOf (clsSt (topSt 2) 1)).1, .stmts (fdOf (clsSt (topSt 2) 1)).2.1, (fdOf (clsSt (topSt 2) 1)).2.2, 3, [], .none, .none, .none, (.str t4 194), none, (.ref 41), .none, 0⟩ : FuncData)), Array.mk []⟩
def o43_2 (P : Params) : Obj := ⟨(.type "tuple"), none, (.seq (Array.mk [(.str t24 226), (.str t23 227)]) 0), Array.mk []⟩
def o44_2 (P : Params) : Obj := ⟨(.type "dict"), none, (.dict (Array.mk [⟨(PyData.keyHash P t16), (.str t16 203), (.str t4 194)⟩, ⟨(PyData.keyHash P t18), (.str t18 207), (.int 5 206)⟩, ⟨(PyData.keyHash P t19), (.str t19 216), (.ref 35)⟩, ⟨(PyData.keyHash P t20), (.str t20 225), (.ref 42)⟩, ⟨(PyData.keyHash P t21), (.str t21 228), (.ref 43)⟩, ⟨(PyData.keyHash P t28), (.str t28 230), (.ref 46)⟩, ⟨(PyData.keyHash P t29), (.str t29 232), (.ref 47)⟩, ⟨(PyData.keyHash P t5), (.str t5 233), .none⟩]) 4), Array.mk []⟩
def o45_2 (P : Params) : Obj := ⟨(.type "type"), none, (.cls (⟨t14, [(.type "object")], [(.ref 45), (.type "object")], 44, t14, true, [], [], false, none, false⟩ : ClassData)), Array.mk [none, none, (some (.str t14 196)), (some (.str t14 204)), (some (.builtin "object.__new__")), (some (.bool true))]⟩
def o46_2 (P : Params) : Obj := ⟨(.type "getset_descriptor"), none, (.fields (Array.mk [(.str t28 229), (.ref 45), (.builtin "function.__dict__"), (.builtin "function.__dict__#set")])), Array.mk []⟩
def o47_2 (P : Params) : Obj := ⟨(.type "getset_descriptor"), none, (.fields (Array.mk [(.str t29 231), (.ref 45), (.builtin "ExceptionGroup.__weakref__"), .none])), Array.mk []⟩
def o48_2 (P : Params) : Obj := ⟨(.type "super"), none, (.fields (Array.mk [(.ref 45), (.ref 45), (.ref 45)])), Array.mk []⟩
def o49_2 (P : Params) : Obj := ⟨(.type "builtin_function_or_method"), none, (.fields (Array.mk [(.builtin "object.__init_subclass__"), (.ref 45)])), Array.mk []⟩
def tr2 (P : Params) : BT := (.node (boot_o_0 P) (.node (boot_o_1 P) (.node (o3_2 P) (.node (boot_o_7 P) (.node (o15_2 P) (.node (o31_2 P) .nil .nil) (.node (o47_2 P) .nil .nil)) (.node (o23_2 P) (.node (o39_2 P) .nil .nil) .nil)) (.node (o11_0 P) (.node (o19_2 P) (.node (o35_2 P) .nil .nil) .nil) (.node (o27_2 P) (.node (o43_2 P) .nil .nil) .nil))) (.node (boot_o_5 P) (.node (boot_o_9 P) (.node (o17_2 P) (.node (o33_2 P) .nil .nil) (.node (o49_2 P) .nil .nil)) (.node (o25_2 P) (.node (o41_2 P) .nil .nil) .nil)) (.node (o13_0 P) (.node (o21_2 P) (.node (o37_2 P) .nil .nil) .nil) (.node (o29_2 P) (.node (o45_2 P) .nil .nil) .nil)))) (.node (boot_o_2 P) (.node (boot_o_4 P) (.node (boot_o_8 P) (.node (o16_2 P) (.node (o32_2 P) .nil .nil) (.node (o48_2 P) .nil .nil)) (.node (o24_2 P) (.node (o40_2 P) .nil .nil) .nil)) (.node (o12_2 P) (.node (o20_2 P) (.node (o36_2 P) .nil .nil) .nil) (.node (o28_2 P) (.node (o44_2 P) .nil .nil) .nil))) (.node (boot_o_6 P) (.node (boot_o_10 P) (.node (o18_2 P) (.node (o34_2 P) .nil .nil) .nil) (.node (o26_2 P) (.node (o42_2 P) .nil .nil) .nil)) (.node (o14_0 P) (.node (o22_2 P) (.node (o38_2 P) .nil .nil) .nil) (.node (o30_2 P) (.node (o46_2 P) .nil .nil) .nil)))))
def o3_3 (P : Params) : Obj := ⟨(.type "dict"), none, (.dict (Array.mk [⟨(PyData.keyHash P t3), (.str t3 165), (.str t4 194)⟩, ⟨(PyData.keyHash P t5), (.str t5 166), .none⟩, ⟨(PyData.keyHash P t6), (.str t6 167), .none⟩, ⟨(PyData.keyHash P t7), (.str t7 168), (.builtin "__main__.__loader__#opaque")⟩, ⟨(PyData.keyHash P t8), (.str t8 169), .none⟩, ⟨(PyData.keyHash P t9), (.str t9 170), (.ref 6)⟩, ⟨(PyData.keyHash P t10), (.str t10 171), (.ref 4)⟩, ⟨(PyData.keyHash P t11), (.str t11 173), (.str t1 172)⟩, ⟨(PyData.keyHash P t12), (.str t12 174), .none⟩, ⟨(PyData.keyHash P t13), (.str t13 193), (.ref 21)⟩, ⟨(PyData.keyHash P t14), (.str t14 235), (.ref 45)⟩, ⟨(PyData.keyHash P t30), (.str t30 266), (.ref 66)⟩, ⟨(PyData.keyHash P t31), (.str t31 273), (.ref 77)⟩, ⟨(PyData.keyHash P t32), (.str t32 280), (.ref 84)⟩, ⟨(PyData.keyHash P t33), (.str t33 290), (.ref 91)⟩, ⟨(PyData.keyHash P t34), (.str t34 296), (.ref 96)⟩, ⟨(PyData.keyHash P t35), (.str t35 303), (.ref 103)⟩]) 17), Array.mk []⟩
def o12_3 (P : Params) : Obj := ⟨.none, none, (.fields (Array.mk [(.int 1 0), (.int 0 0), (.ref 20), (.int 5 0), (.int 0 0), (.ref 27), (.int 15 0), (.int 0 0), (.ref 55), (.int 20 0), (.int 0 0), (.ref 76), (.int 22 0), (.int 0 0), (.ref 83), (.int 24 0), (.int 0 0), (.ref 90), (.int 36 0), (.int 0 0), (.ref 95), (.int 70 0), (.int 0 0), (.ref 102)])), Array.mk []⟩
def o50_3 (P : Params) : Obj := ⟨(.type "tuple"), none, (.seq (Array.mk []) 0), Array.mk []⟩
def o51_3 (P : Params) : Obj := ⟨(.type "builtin_function_or_method"), none, (.fields (Array.mk [(.builtin "type.__prepare__"), (.type "type")])), Array.mk []⟩
def o52_3 (P : Params) : Obj := ⟨(.type "dict"), none, (.dict (Array.mk [⟨(PyData.keyHash P t16), (.str t16 243), (.str t4 194)⟩, ⟨(PyData.keyHash P t17), (.str t17 245), (.str t30 244)⟩, ⟨(PyData.keyHash P t18), (.str t18 247), (.int 15 246)⟩, ⟨(PyData.keyHash P t19), (.str t19 256), (.ref 63)⟩, ⟨(PyData.keyHash P t21), (.str t21 259), (.ref 64)⟩]) 5), Array.mk []⟩
def o53_3 (P : Params) : Obj := ⟨(.type "tuple"), none, (.seq (Array.mk []) 0), Array.mk []⟩
def o54_3 (P : Params) : Obj := ⟨.none, none, (.fields (Array.mk [(.int 17 0), (.int 4 0), (.ref 62)])), Array.mk []⟩
def o55_3 (P : Params) : Obj := ⟨(.type "code"), none, (.fields (Array.mk [(.str t30 238), (.str t30 239), (.str t1 240), (.int 15 0), (.int 0 0), (.int 0 0), (.int 0 0), (.int 0 0), (.ref 53), (.bool false), (.int 181 0), (.ref 54), .none, .none, .none, .none, (.int 241 0), (.int 15 0), (.str t1 242)])), Array.mk []⟩
def o56_3 (P : Params) : Obj := ⟨(.type "frame"), none, .plain, Array.mk [(some (.ref 55)), (some (.ref 3)), (some (.ref 52)), none, (some (.str t4 194)), none, (some (.ref 0))]⟩
def o57_3 (P : Params) : Obj := ⟨(.type "tuple"), none, (.seq (Array.mk []) 0), Array.mk []⟩
def o58_3 (P : Params) : Obj := ⟨.none, none, (.fields (Array.mk [])), Array.mk []⟩
def o59_3 (P : Params) : Obj := ⟨(.type "tuple"), none, (.seq (Array.mk [(.str t22 251), (.str t36 252), (.str t37 253)]) 0), Array.mk []⟩
def o60_3 (P : Params) : Obj := ⟨(.type "tuple"), none, (.seq (Array.mk []) 0), Array.mk []⟩
def o61_3 (P : Params) : Obj := ⟨.none, none, (.func (⟨t19, t38, (fdOf (clsSt (topSt 3) 0)).1, .stmts (fdOf (clsSt (topSt 3) 0)).2.1, (fdOf (clsSt (topSt 3) 0)).2.2, 0, [], .none, .none, .none, .none, none, .none, .none, 0⟩ : FuncData)), Array.mk []⟩
def o62_3 (P : Params) : Obj := ⟨(.type "code"), none, (.fields (Array.mk [(.str t19 248), (.str t38 249), (.str t1 250), (.int 17 0), (.int 3 0), (.int 0 0), (.int 0 0), (.int 3 0), (.ref 57), (.bool true), (.int 181 0), (.ref 58), .none, (.ref 59), (.ref 60), (.ref 61), (.int 254 0), (.int 17 0), (.str t1 255)])), Array.mk []⟩
def o63_3 (P : Params) : Obj := ⟨(.type "function"), none, (.func (⟨t19, t38, (fdOf (clsSt (topSt 3) 0)).1, .stmts (fdOf (clsSt (topSt 3) 0)).2.1, (fdOf (clsSt (topSt 3) 0)).2.2, 3, [], .none, .none, .none, (.str t4 194), none, (.ref 62), .none, 0⟩ : FuncData)), Array.mk []⟩
def o64_3 (P : Params) : Obj := ⟨(.type "tuple"), none, (.seq (Array.mk [(.str t37 257), (.str t36 258)]) 0), Array.mk []⟩
def o65_3 (P : Params) : Obj := ⟨(.type "dict"), none, (.dict (Array.mk [⟨(PyData.keyHash P t16), (.str t16 243), (.str t4 194)⟩, ⟨(PyData.keyHash P t18), (.str t18 247), (.int 15 246)⟩, ⟨(PyData.keyHash P t19), (.str t19 256), (.ref 63)⟩, ⟨(PyData.keyHash P t21), (.str t21 259), (.ref 64)⟩, ⟨(PyData.keyHash P t28), (.str t28 261), (.ref 67)⟩, ⟨(PyData.keyHash P t29), (.str t29 263), (.ref 68)⟩, ⟨(PyData.keyHash P t5), (.str t5 264), .none⟩]) 4), Array.mk []⟩
def o66_3 (P : Params) : Obj := ⟨(.type "type"), none, (.cls (⟨t30, [(.type "object")], [(.ref 66), (.type "object")], 65, t30, true, [], [], false, none, false⟩ : ClassData)), Array.mk [none, none, (some (.str t30 236)), (some (.str t30 244)), (some (.builtin "object.__new__")), (some (.bool true))]⟩
def o67_3 (P : Params) : Obj := ⟨(.type "getset_descriptor"), none, (.fields (Array.mk [(.str t28 260), (.ref 66), (.builtin "function.__dict__"), (.builtin "function.__dict__#set")])), Array.mk []⟩
def o68_3 (P : Params) : Obj := ⟨(.type "getset_descriptor"), none, (.fields (Array.mk [(.str t29 262), (.ref 66), (.builtin "ExceptionGroup.__weakref__"), .none])), Array.mk []⟩
def o69_3 (P : Params) : Obj := ⟨(.type "super"), none, (.fields (Array.mk [(.ref 66), (.ref 66), (.ref 66)])), Array.mk []⟩
def o70_3 (P : Params) : Obj := ⟨(.type "builtin_function_or_method"), none, (.fields (Array.mk [(.builtin "object.__init_subclass__"), (.ref 66)])), Array.mk []⟩
def o71_3 (P : Params) : Obj := ⟨(.type "tuple"), none, (.seq (Array.mk []) 0), Array.mk []⟩
def o72_3 (P : Params) : Obj := ⟨.none, none, (.fields (Array.mk [])), Array.mk []⟩
def o73_3 (P : Params) : Obj := ⟨(.type "tuple"), none, (.seq (Array.mk [(.str t37 270)]) 0), Array.mk []⟩
def o74_3 (P : Params) : Obj := ⟨(.type "tuple"), none, (.seq (Array.mk []) 0), Array.mk []⟩
def o75_3 (P : Params) : Obj := ⟨.none, none, (.func (⟨t31, t31, (fdOf (topSt 4)).1, .stmts (fdOf (topSt 4)).2.1, (fdOf (topSt 4)).2.2, 0, [], .none, .none, .none, .none, none, .none, .none, 0⟩ : FuncData)), Array.mk []⟩
def o76_3 (P : Params) : Obj := ⟨(.type "code"), none, (.fields (Array.mk [(.str t31 267), (.str t31 268), (.str t1 269), (.int 20 0), (.int 1 0), (.int 0 0), (.int 0 0), (.int 3 0), (.ref 71), (.bool true), (.int 181 0), (.ref 72), .none, (.ref 73), (.ref 74), (.ref 75), (.int 271 0), (.int 20 0), (.str t1 272)])), Array.mk []⟩
def o77_3 (P : Params) : Obj := ⟨(.type "function"), none, (.func (⟨t31, t31, (fdOf (topSt 4)).1, .stmts (fdOf (topSt 4)).2.1, (fdOf (topSt 4)).2.2, 3, [], .none, .none, .none, (.str t4 194), none, (.ref 76), .none, 0⟩ : FuncData)), Array.mk []⟩
def o78_3 (P : Params) : Obj := ⟨(.type "tuple"), none, (.seq (Array.mk []) 0), Array.mk []⟩
def o79_3 (P : Params) : Obj := ⟨.none, none, (.fields (Array.mk [])), Array.mk []⟩
def o80_3 (P : Params) : Obj := ⟨(.type "tuple"), none, (.seq (Array.mk [(.str t37 277)]) 0), Array.mk []⟩
def o81_3 (P : Params) : Obj := ⟨(.type "tuple"), none, (.seq (Array.mk []) 0), Array.mk []⟩
def o82_3 (P : Params) : Obj := ⟨.none, none, (.func (⟨t32, t32, (fdOf (topSt 5)).1, .stmts (fdOf (topSt 5)).2.1, (fdOf (topSt 5)).2.2, 0, [], .none, .none, .none, .none, none, .none, .none, 0⟩ : FuncData)), Array.mk []⟩
def o83_3 (P : Params) : Obj := ⟨(.type "code"), none, (.fields (Array.mk [(.str t32 274), (.str t32 275), (.str t1 276), (.int 22 0), (.int 1 0), (.int 0 0), (.int 0 0), (.int 3 0), (.ref 78), (.bool true), (.int 181 0), (.ref 79), .none, (.ref 80), (.ref 81), (.ref 82), (.int 278 0), (.int 22 0), (.str t1 279)])), Array.mk []⟩
def o84_3 (P : Params) : Obj := ⟨(.type "function"), none, (.func (⟨t32, t32, (fdOf (topSt 5)).1, .stmts (fdOf (topSt 5)).2.1, (fdOf (topSt 5)).2.2, 3, [], .none, .none, .none, (.str t4 194), none, (.ref 83), .none, 0⟩ : FuncData)), Array.mk []⟩
def o85_3 (P : Params) : Obj := ⟨(.type "tuple"), none, (.seq (Array.mk []) 0), Array.mk []⟩
def o86_3 (P : Params) : Obj := ⟨.none, none, (.fields (Array.mk [])), Array.mk []⟩
def o87_3 (P : Params) : Obj := ⟨(.type "tuple"), none, (.seq (Array.mk [(.str t26 284), (.str t39 285), (.str t40 286), (.str t41 287)]) 0), Array.mk []⟩
def o88_3 (P : Params) : Obj := ⟨(.type "tuple"), none, (.seq (Array.mk []) 0), Array.mk []⟩
def o89_3 (P : Params) : Obj := ⟨.none, none, (.func (⟨t33, t33, (fdOf (topSt 6)).1, .stmts (fdOf (topSt 6)).2.1, (fdOf (topSt 6)).2.2, 0, [], .none, .none, .none, .none, none, .none, .none, 0⟩ : FuncData)), Array.mk []⟩
def o90_3 (P : Params) : Obj := ⟨(.type "code"), none, (.fields (Array.mk [(.str t33 281), (.str t33 282), (.str t1 283), (.int 24 0), (.int 1 0), (.int 0 0), (.int 0 0), (.int 3 0), (.ref 85), (.bool true), (.int 181 0), (.ref 86), .none, (.ref 87), (.ref 88), (.ref 89), (.int 288 0), (.int 24 0), (.str t1 289)])), Array.mk []⟩
def o91_3 (P : Params) : Obj := ⟨(.type "function"), none, (.func (⟨t33, t33, (fdOf (topSt 6)).1, .stmts (fdOf (topSt 6)).2.1, (fdOf (topSt 6)).2.2, 3, [], .none, .none, .none, (.str t4 194), none, (.ref 90), .none, 0⟩ : FuncData)), Array.mk []⟩
def o92_3 (P : Params) : Obj := ⟨(.type "tuple"), none, (.seq (Array.mk []) 0), Array.mk []⟩
def o93_3 (P : Params) : Obj := ⟨.none, none, (.fields (Array.mk [])), Array.mk []⟩
def o94_3 (P : Params) : Obj := ⟨.none, none, (.func (⟨t34, t34, (fdOf (topSt 7)).1, .stmts (fdOf (topSt 7)).2.1, (fdOf (topSt 7)).2.2, 0, [], .none, .none, .none, .none, none, .none, .none, 0⟩ : FuncData)), Array.mk []⟩
def o95_3 (P : Params) : Obj := ⟨(.type "code"), none, (.fields (Array.mk [(.str t34 291), (.str t34 292), (.str t1 293), (.int 36 0), (.int 1 0), (.int 0 0), (.int 0 0), (.int 3 0), (.ref 92), (.bool true), (.int 181 0), (.ref 93), .none, .none, .none, (.ref 94), (.int 294 0), (.int 36 0), (.str t1 295)])), Array.mk []⟩
def o96_3 (P : Params) : Obj := ⟨(.type "function"), none, (.func (⟨t34, t34, (fdOf (topSt 7)).1, .stmts (fdOf (topSt 7)).2.1, (fdOf (topSt 7)).2.2, 3, [], .none, .none, .none, (.str t4 194), none, (.ref 95), .none, 0⟩ : FuncData)), Array.mk []⟩
def o97_3 (P : Params) : Obj := ⟨(.type "tuple"), none, (.seq (Array.mk []) 0), Array.mk []⟩
def o98_3 (P : Params) : Obj := ⟨.none, none, (.fields (Array.mk [])), Array.mk []⟩
def o99_3 (P : Params) : Obj := ⟨(.type "tuple"), none, (.seq (Array.mk [(.str t26 300)]) 0), Array.mk []⟩
def o100_3 (P : Params) : Obj := ⟨(.type "tuple"), none, (.seq (Array.mk []) 0), Array.mk []⟩
def o101_3 (P : Params) : Obj := ⟨.none, none, (.func (⟨t35, t35, (fdOf (topSt 8)).1, .stmts (fdOf (topSt 8)).2.1, (fdOf (topSt 8)).2.2, 0, [], .none, .none, .none, .none, none, .none, .none, 0⟩ : FuncData)), Array.mk []⟩
def o102_3 (P : Params) : Obj := ⟨(.type "code"), none, (.fields (Array.mk [(.str t35 297), (.str t35 298), (.str t1 299), (.int 70 0), (.int 1 0), (.int 0 0), (.int 0 0), (.int 3 0), (.ref 97), (.bool true), (.int 181 0), (.ref 98), .none, (.ref 99), (.ref 100), (.ref 101), (.int 301 0), (.int 70 0), (.str t1 302)])), Array.mk []⟩
def o103_3 (P : Params) : Obj := ⟨(.type "function"), none, (.func (⟨t35, t35, (fdOf (topSt 8)).1, .stmts (fdOf (topSt 8)).2.1, (fdOf (topSt 8)).2.2, 3, [], .none, .none, .none, (.str t4 194), none, (.ref 102), .none, 0⟩ : FuncData)), Array.mk []⟩
def tr3 (P : Params) : BT := (.node (boot_o_0 P) (.node (boot_o_1 P) (.node (o3_3 P) (.node (boot_o_7 P) (.node (o15_2 P) (.node (o31_2 P) (.node (o63_3 P) .nil .nil) (.node (o95_3 P) .nil .nil)) (.node (o47_2 P) (.node (o79_3 P) .nil .nil) .nil)) (.node (o23_2 P) (.node (o39_2 P) (.node (o71_3 P) .nil .nil) (.node (o103_3 P) .nil .nil)) (.node (o55_3 P) (.node (o87_3 P) .nil .nil) .nil))) (.node (o11_0 P) (.node (o19_2 P) (.node (o35_2 P) (.node (o67_3 P) .nil .nil) (.node (o99_3 P) .nil .nil)) (.node (o51_3 P) (.node (o83_3 P) .nil .nil) .nil)) (.node (o27_2 P) (.node (o43_2 P) (.node (o75_3 P) .nil .nil) .nil) (.node (o59_3 P) (.node (o91_3 P) .nil .nil) .nil)))) (.node (boot_o_5 P) (.node (boot_o_9 P) (.node (o17_2 P) (.node (o33_2 P) (.node (o65_3 P) .nil .nil) (.node (o97_3 P) .nil .nil)) (.node (o49_2 P) (.node (o81_3 P) .nil .nil) .nil)) (.node (o25_2 P) (.node (o41_2 P) (.node (o73_3 P) .nil .nil) .nil) (.node (o57_3 P) (.node (o89_3 P) .nil .nil) .nil))) (.node (o13_0 P) (.node (o21_2 P) (.node (o37_2 P) (.node (o69_3 P) .nil .nil) (.node (o101_3 P) .nil .nil)) (.node (o53_3 P) (.node (o85_3 P) .nil .nil) .nil)) (.node (o29_2 P) (.node (o45_2 P) (.node (o77_3 P) .nil .nil) .nil) (.node (o61_3 P) (.node (o93_3 P) .nil .nil) .nil))))) (.node (boot_o_2 P) (.node (boot_o_4 P) (.node (boot_o_8 P) (.node (o16_2 P) (.node (o32_2 P) (.node (o64_3 P) .nil .nil) (.node (o96_3 P) .nil .nil)) (.node (o48_2 P) (.node (o80_3 P) .nil .nil) .nil)) (.node (o24_2 P) (.node (o40_2 P) (.node (o72_3 P) .nil .nil) .nil) (.node (o56_3 P) (.node (o88_3 P) .nil .nil) .nil))) (.node (o12_3 P) (.node (o20_2 P) (.node (o36_2 P) (.node (o68_3 P) .nil .nil) (.node (o100_3 P) .nil .nil)) (.node (o52_3 P) (.node (o84_3 P) .nil .nil) .nil)) (.node (o28_2 P) (.node (o44_2 P) (.node (o76_3 P) .nil .nil) .nil) (.node (o60_3 P) (.node (o92_3 P) .nil .nil) .nil)))) (.node (boot_o_6 P) (.node (boot_o_10 P) (.node (o18_2 P) (.node (o34_2 P) (.node (o66_3 P) .nil .nil) (.node (o98_3 P) .nil .nil)) (.node (o50_3 P) (.node (o82_3 P) .nil .nil) .nil)) (.node (o26_2 P) (.node (o42_2 P) (.node (o74_3 P) .nil .nil) .nil) (.node (o58_3 P) (.node (o90_3 P) .nil .nil) .nil))) (.node (o14_0 P) (.node (o22_2 P) (.node (o38_2 P) (.node (o70_3 P) .nil .nil) (.node (o102_3 P) .nil .nil)) (.node (o54_3 P) (.node (o86_3 P) .nil .nil) .nil)) (.node (o30_2 P) (.node (o46_2 P) (.node (o78_3 P) .nil .nil) .nil) (.node (o62_3 P) (.node (o94_3 P) .nil .nil) .nil))))))
def o2_4 (P : Params) : Obj := ⟨.none, none, (.dict (Array.mk [⟨(PyData.keyHash P t42), (.str t42 320), (.int 113 0)⟩, ⟨(PyData.keyHash P t43), (.str t43 321), (.int 1 0)⟩]) 2), Array.mk []⟩
def o3_4 (P : Params) : Obj := ⟨(.type "dict"), none, (.dict (Array.mk [⟨(PyData.keyHash P t3), (.str t3 165), (.str t4 194)⟩, ⟨(PyData.keyHash P t5), (.str t5 166), .none⟩, ⟨(PyData.keyHash P t6), (.str t6 167), .none⟩, ⟨(PyData.keyHash P t7), (.str t7 168), (.builtin "__main__.__loader__#opaque")⟩, ⟨(PyData.keyHash P t8), (.str t8 169), .none⟩, ⟨(PyData.keyHash P t9), (.str t9 170), (.ref 6)⟩, ⟨(PyData.keyHash P t10), (.str t10 171), (.ref 4)⟩, ⟨(PyData.keyHash P t11), (.str t11 173), (.str t1 172)⟩, ⟨(PyData.keyHash P t12), (.str t12 174), .none⟩, ⟨(PyData.keyHash P t13), (.str t13 193), (.ref 21)⟩, ⟨(PyData.keyHash P t14), (.str t14 235), (.ref 45)⟩, ⟨(PyData.keyHash P t30), (.str t30 266), (.ref 66)⟩, ⟨(PyData.keyHash P t31), (.str t31 273), (.ref 77)⟩, ⟨(PyData.keyHash P t32), (.str t32 280), (.ref 84)⟩, ⟨(PyData.keyHash P t33), (.str t33 290), (.ref 91)⟩, ⟨(PyData.keyHash P t34), (.str t34 296), (.ref 96)⟩, ⟨(PyData.keyHash P t35), (.str t35 303), (.ref 103)⟩, ⟨(PyData.keyHash P t44), (.str t44 323), (.ref 113)⟩]) 18), Array.mk []⟩
def o12_4 (P : Params) : Obj := ⟨.none, none, (.fields (Array.mk [(.int 1 0), (.int 0 0), (.ref 20), (.int 5 0), (.int 0 0), (.ref 27), (.int 15 0), (.int 0 0), (.ref 55), (.int 20 0), (.int 0 0), (.ref 76), (.int 22 0), (.int 0 0), (.ref 83), (.int 24 0), (.int 0 0), (.ref 90), (.int 36 0), (.int 0 0), (.ref 95), (.int 70 0), (.int 0 0), (.ref 102), (.int 74 0), (.int 0 0), (.ref 109)])), Array.mk []⟩
def o104_4 (P : Params) : Obj := ⟨(.type "tuple"), none, (.seq (Array.mk [(.type "EOFError")]) 0), Array.mk []⟩
def o105_4 (P : Params) : Obj := ⟨(.type "builtin_function_or_method"), none, (.fields (Array.mk [(.builtin "type.__prepare__"), (.type "type")])), Array.mk []⟩
def o106_4 (P : Params) : Obj := ⟨(.type "dict"), none, (.dict (Array.mk [⟨(PyData.keyHash P t16), (.str t16 311), (.str t4 194)⟩, ⟨(PyData.keyHash P t17), (.str t17 313), (.str t44 312)⟩, ⟨(PyData.keyHash P t18), (.str t18 315), (.int 74 314)⟩, ⟨(PyData.keyHash P t21), (.str t21 316), (.ref 111)⟩]) 4), Array.mk []⟩
def o107_4 (P : Params) : Obj := ⟨(.type "tuple"), none, (.seq (Array.mk []) 0), Array.mk []⟩
def o108_4 (P : Params) : Obj := ⟨.none, none, (.fields (Array.mk [])), Array.mk []⟩
def o109_4 (P : Params) : Obj := ⟨(.type "code"), none, (.fields (Array.mk [(.str t44 306), (.str t44 307), (.str t1 308), (.int 74 0), (.int 0 0), (.int 0 0), (.int 0 0), (.int 0 0), (.ref 107), (.bool false), (.int 181 0), (.ref 108), .none, .none, .none, .none, (.int 309 0), (.int 74 0), (.str t1 310)])), Array.mk []⟩
def o110_4 (P : Params) : Obj := ⟨(.type "frame"), none, .plain, Array.mk [(some (.ref 109)), (some (.ref 3)), (some (.ref 106)), none, (some (.str t4 194)), none, (some (.ref 0))]⟩
def o111_4 (P : Params) : Obj := ⟨(.type "tuple"), none, (.seq (Array.mk []) 0), Array.mk []⟩
def o112_4 (P : Params) : Obj := ⟨(.type "dict"), none, (.dict (Array.mk [⟨(PyData.keyHash P t16), (.str t16 311), (.str t4 194)⟩, ⟨(PyData.keyHash P t18), (.str t18 315), (.int 74 314)⟩, ⟨(PyData.keyHash P t21), (.str t21 316), (.ref 111)⟩, ⟨(PyData.keyHash P t29), (.str t29 318), (.ref 114)⟩, ⟨(PyData.keyHash P t5), (.str t5 319), .none⟩]) 3), Array.mk []⟩
def o113_4 (P : Params) : Obj := ⟨(.type "type"), none, (.cls (⟨t44, [(.type "EOFError")], [(.ref 113), (.type "EOFError"), (.type "Exception"), (.type "BaseException"), (.type "object")], 112, t44, true, [], [], false, none, false⟩ : ClassData)), Array.mk [(some (.ref 104)), none, (some (.str t44 304)), (some (.str t44 312)), (some (.builtin "EOFError.__new__")), (some (.bool true))]⟩
def o114_4 (P : Params) : Obj := ⟨(.type "getset_descriptor"), none, (.fields (Array.mk [(.str t29 317), (.ref 113), (.builtin "ExceptionGroup.__weakref__"), .none])), Array.mk []⟩
def o115_4 (P : Params) : Obj := ⟨(.type "super"), none, (.fields (Array.mk [(.ref 113), (.ref 113), (.ref 113)])), Array.mk []⟩
def o116_4 (P : Params) : Obj := ⟨(.type "builtin_function_or_method"), none, (.fields (Array.mk [(.builtin "object.__init_subclass__"), (.ref 113)])), Array.mk []⟩
def tr4 (P : Params) : BT := (.node (boot_o_0 P) (.node (boot_o_1 P) (.node (o3_4 P) (.node (boot_o_7 P) (.node (o15_2 P) (.node (o31_2 P) (.node (o63_3 P) .nil .nil) (.node (o95_3 P) .nil .nil)) (.node (o47_2 P) (.node (o79_3 P) .nil .nil) (.node (o111_4 P) .nil .nil))) (.node (o23_2 P) (.node (o39_2 P) (.node (o71_3 P) .nil .nil) (.node (o103_3 P) .nil .nil)) (.node (o55_3 P) (.node (o87_3 P) .nil .nil) .nil))) (.node (o11_0 P) (.node (o19_2 P) (.node (o35_2 P) (.node (o67_3 P) .nil .nil) (.node (o99_3 P) .nil .nil)) (.node (o51_3 P) (.node (o83_3 P) .nil .nil) (.node (o115_4 P) .nil .nil))) (.node (o27_2 P) (.node (o43_2 P) (.node (o75_3 P) .nil .nil) (.node (o107_4 P) .nil .nil)) (.node (o59_3 P) (.node (o91_3 P) .nil .nil) .nil)))) (.node (boot_o_5 P) (.node (boot_o_9 P) (.node (o17_2 P) (.node (o33_2 P) (.node (o65_3 P) .nil .nil) (.node (o97_3 P) .nil .nil)) (.node (o49_2 P) (.node (o81_3 P) .nil .nil) (.node (o113_4 P) .nil .nil))) (.node (o25_2 P) (.node (o41_2 P) (.node (o73_3 P) .nil .nil) (.node (o105_4 P) .nil .nil)) (.node (o57_3 P) (.node (o89_3 P) .nil .nil) .nil))) (.node (o13_0 P) (.node (o21_2 P) (.node (o37_2 P) (.node (o69_3 P) .nil .nil) (.node (o101_3 P) .nil .nil)) (.node (o53_3 P) (.node (o85_3 P) .nil .nil) .nil)) (.node (o29_2 P) (.node (o45_2 P) (.node (o77_3 P) .nil .nil) (.node (o109_4 P) .nil .nil)) (.node (o61_3 P) (.node (o93_3 P) .nil .nil) .nil))))) (.node (o2_4 P) (.node (boot_o_4 P) (.node (boot_o_8 P) (.node (o16_2 P) (.node (o32_2 P) (.node (o64_3 P) .nil .nil) (.node (o96_3 P) .nil .nil)) (.node (o48_2 P) (.node (o80_3 P) .nil .nil) (.node (o112_4 P) .nil .nil))) (.node (o24_2 P) (.node (o40_2 P) (.node (o72_3 P) .nil .nil) (.node (o104_4 P) .nil .nil)) (.node (o56_3 P) (.node (o88_3 P) .nil .nil) .nil))) (.node (o12_4 P) (.node (o20_2 P) (.node (o36_2 P) (.node (o68_3 P) .nil .nil) (.node (o100_3 P) .nil .nil)) (.node (o52_3 P) (.node (o84_3 P) .nil .nil) (.node (o116_4 P) .nil .nil))) (.node (o28_2 P) (.node (o44_2 P) (.node (o76_3 P) .nil .nil) (.node (o108_4 P) .nil .nil)) (.node (o60_3 P) (.node (o92_3 P) .nil .nil) .nil)))) (.node (boot_o_6 P) (.node (boot_o_10 P) (.node (o18_2 P) (.node (o34_2 P) (.node (o66_3 P) .nil .nil) (.node (o98_3 P) .nil .nil)) (.node (o50_3 P) (.node (o82_3 P) .nil .nil) (.node (o114_4 P) .nil .nil))) (.node (o26_2 P) (.node (o42_2 P) (.node (o74_3 P) .nil .nil) (.node (o106_4 P) .nil .nil)) (.node (o58_3 P) (.node (o90_3 P) .nil .nil) .nil))) (.node (o14_0 P) (.node (o22_2 P) (.node (o38_2 P) (.node (o70_3 P) .nil .nil) (.node (o102_3 P) .nil .nil)) (.node (o54_3 P) (.node (o86_3 P) .nil .nil) .nil)) (.node (o30_2 P) (.node (o46_2 P) (.node (o78_3 P) .nil .nil) (.node (o110_4 P) .nil .nil)) (.node (o62_3 P) (.node (o94_3 P) .nil .nil) .nil))))))
def o3_5 (P : Params) : Obj := ⟨(.type "dict"), none, (.dict (Array.mk [⟨(PyData.keyHash P t3), (.str t3 165), (.str t45 382)⟩, ⟨(PyData.keyHash P t5), (.str t5 166), .none⟩, ⟨(PyData.keyHash P t6), (.str t6 167), .none⟩, ⟨(PyData.keyHash P t7), (.str t7 168), (.builtin "__main__.__loader__#opaque")⟩, ⟨(PyData.keyHash P t8), (.str t8 169), .none⟩, ⟨(PyData.keyHash P t9), (.str t9 170), (.ref 6)⟩, ⟨(PyData.keyHash P t10), (.str t10 171), (.ref 4)⟩, ⟨(PyData.keyHash P t11), (.str t11 173), (.str t1 172)⟩, ⟨(PyData.keyHash P t12), (.str t12 174), .none⟩, ⟨(PyData.keyHash P t13), (.str t13 193), (.ref 21)⟩, ⟨(PyData.keyHash P t14), (.str t14 235), (.ref 45)⟩, ⟨(PyData.keyHash P t30), (.str t30 266), (.ref 66)⟩, ⟨(PyData.keyHash P t31), (.str t31 273), (.ref 77)⟩, ⟨(PyData.keyHash P t32), (.str t32 280), (.ref 84)⟩, ⟨(PyData.keyHash P t33), (.str t33 290), (.ref 91)⟩, ⟨(PyData.keyHash P t34), (.str t34 296), (.ref 96)⟩, ⟨(PyData.keyHash P t35), (.str t35 303), (.ref 103)⟩, ⟨(PyData.keyHash P t44), (.str t44 323), (.ref 113)⟩, ⟨(PyData.keyHash P t46), (.str t46 381), (.ref 154)⟩, ⟨(PyData.keyHash P t47), (.str t47 385), (.bytes #[13, 10, 13, 10, 0, 13, 10, 81, 85, 73, 84, 10] 384)⟩]) 20), Array.mk []⟩
def o12_5 (P : Params) : Obj := ⟨.none, none, (.fields (Array.mk [(.int 1 0), (.int 0 0), (.ref 20), (.int 5 0), (.int 0 0), (.ref 27), (.int 15 0), (.int 0 0), (.ref 55), (.int 20 0), (.int 0 0), (.ref 76), (.int 22 0), (.int 0 0), (.ref 83), (.int 24 0), (.int 0 0), (.ref 90), (.int 36 0), (.int 0 0), (.ref 95), (.int 70 0), (.int 0 0), (.ref 102), (.int 74 0), (.int 0 0), (.ref 109), (.int 76 0), (.int 0 0), (.ref 122)])), Array.mk []⟩
def o117_5 (P : Params) : Obj := ⟨(.type "tuple"), none, (.seq (Array.mk []) 0), Array.mk []⟩
def o118_5 (P : Params) : Obj := ⟨(.type "builtin_function_or_method"), none, (.fields (Array.mk [(.builtin "type.__prepare__"), (.type "type")])), Array.mk []⟩
def o119_5 (P : Params) : Obj := ⟨(.type "dict"), none, (.dict (Array.mk [⟨(PyData.keyHash P t16), (.str t16 331), (.str t4 194)⟩, ⟨(PyData.keyHash P t17), (.str t17 333), (.str t46 332)⟩, ⟨(PyData.keyHash P t18), (.str t18 335), (.int 76 334)⟩, ⟨(PyData.keyHash P t19), (.str t19 344), (.ref 130)⟩, ⟨(PyData.keyHash P t48), (.str t48 354), (.ref 137)⟩, ⟨(PyData.keyHash P t49), (.str t49 363), (.ref 144)⟩, ⟨(PyData.keyHash P t50), (.str t50 371), (.ref 151)⟩, ⟨(PyData.keyHash P t21), (.str t21 374), (.ref 152)⟩]) 8), Array.mk []⟩
def o120_5 (P : Params) : Obj := ⟨(.type "tuple"), none, (.seq (Array.mk []) 0), Array.mk []⟩
def o121_5 (P : Params) : Obj := ⟨.none, none, (.fields (Array.mk [(.int 78 0), (.int 4 0), (.ref 129), (.int 82 0), (.int 4 0), (.ref 136), (.int 91 0), (.int 4 0), (.ref 143), (.int 98 0), (.int 4 0), (.ref 150)])), Array.mk []⟩
def o122_5 (P : Params) : Obj := ⟨(.type "code"), none, (.fields (Array.mk [(.str t46 326), (.str t46 327), (.str t1 328), (.int 76 0), (.int 0 0), (.int 0 0), (.int 0 0), (.int 0 0), (.ref 120), (.bool false), (.int 181 0), (.ref 121), .none, .none, .none, .none, (.int 329 0), (.int 76 0), (.str t1 330)])), Array.mk []⟩
def o123_5 (P : Params) : Obj := ⟨(.type "frame"), none, .plain, Array.mk [(some (.ref 122)), (some (.ref 3)), (some (.ref 119)), none, (some (.str t4 194)), none, (some (.ref 0))]⟩
def o124_5 (P : Params) : Obj := ⟨(.type "tuple"), none, (.seq (Array.mk []) 0), Array.mk []⟩
def o125_5 (P : Params) : Obj := ⟨.none, none, (.fields (Array.mk [])), Array.mk []⟩
def o126_5 (P : Params) : Obj := ⟨(.type "tuple"), none, (.seq (Array.mk [(.str t22 339), (.str t51 340), (.str t52 341)]) 0), Array.mk []⟩
def o127_5 (P : Params) : Obj := ⟨(.type "tuple"), none, (.seq (Array.mk []) 0), Array.mk []⟩
def o128_5 (P : Params) : Obj := ⟨.none, none, (.func (⟨t19, t53, (fdOf (clsSt (topSt 10) 0)).1, .stmts (fdOf (clsSt (topSt 10) 0)).2.1, (fdOf (clsSt (topSt 10) 0)).2.2, 0, [], .none, .none, .none, .none, none, .none, .none, 0⟩ : FuncData)), Array.mk []⟩
def o129_5 (P : Params) : Obj := ⟨(.type "code"), none, (.fields (Array.mk [(.str t19 336), (.str t53 337), (.str t1 338), (.int 78 0), (.int 3 0), (.int 0 0), (.int 0 0), (.int 3 0), (.ref 124), (.bool true), (.int 181 0), (.ref 125), .none, (.ref 126), (.ref 127), (.ref 128), (.int 342 0), (.int 78 0), (.str t1 343)])), Array.mk []⟩
def o130_5 (P : Params) : Obj := ⟨(.type "function"), none, (.func (⟨t19, t53, (fdOf (clsSt (topSt 10) 0)).1, .stmts (fdOf (clsSt (topSt 10) 0)).2.1, (fdOf (clsSt (topSt 10) 0)).2.2, 3, [], .none, .none, .none, (.str t4 194), none, (.ref 129), .none, 0⟩ : FuncData)), Array.mk []⟩
def o131_5 (P : Params) : Obj := ⟨(.type "tuple"), none, (.seq (Array.mk []) 0), Array.mk []⟩
def o132_5 (P : Params) : Obj := ⟨.none, none, (.fields (Array.mk [])), Array.mk []⟩
def o133_5 (P : Params) : Obj := ⟨(.type "tuple"), none, (.seq (Array.mk [(.str t22 348), (.str t54 349), (.str t55 350), (.str t56 351)]) 0), Array.mk []⟩
def o134_5 (P : Params) : Obj := ⟨(.type "tuple"), none, (.seq (Array.mk []) 0), Array.mk []⟩
def o135_5 (P : Params) : Obj := ⟨.none, none, (.func (⟨t48, t57, (fdOf (clsSt (topSt 10) 1)).1, .stmts (fdOf (clsSt (topSt 10) 1)).2.1, (fdOf (clsSt (topSt 10) 1)).2.2, 0, [], .none, .none, .none, .none, none, .none, .none, 0⟩ : FuncData)), Array.mk []⟩
def o136_5 (P : Params) : Obj := ⟨(.type "code"), none, (.fields (Array.mk [(.str t48 345), (.str t57 346), (.str t1 347), (.int 82 0), (.int 2 0), (.int 0 0), (.int 0 0), (.int 3 0), (.ref 131), (.bool true), (.int 181 0), (.ref 132), .none, (.ref 133), (.ref 134), (.ref 135), (.int 352 0), (.int 82 0), (.str t1 353)])), Array.mk []⟩
def o137_5 (P : Params) : Obj := ⟨(.type "function"), none, (.func (⟨t48, t57, (fdOf (clsSt (topSt 10) 1)).1, .stmts (fdOf (clsSt (topSt 10) 1)).2.1, (fdOf (clsSt (topSt 10) 1)).2.2, 3, [], .none, .none, .none, (.str t4 194), none, (.ref 136), .none, 0⟩ : FuncData)), Array.mk []⟩
def o138_5 (P : Params) : Obj := ⟨(.type "tuple"), none, (.seq (Array.mk []) 0), Array.mk []⟩
def o139_5 (P : Params) : Obj := ⟨.none, none, (.fields (Array.mk [])), Array.mk []⟩
def o140_5 (P : Params) : Obj := ⟨(.type "tuple"), none, (.seq (Array.mk [(.str t22 358), (.str t54 359), (.str t56 360)]) 0), Array.mk []⟩
def o141_5 (P : Params) : Obj := ⟨(.type "tuple"), none, (.seq (Array.mk []) 0), Array.mk []⟩
def o142_5 (P : Params) : Obj := ⟨.none, none, (.func (⟨t49, t58, (fdOf (clsSt (topSt 10) 2)).1, .stmts (fdOf (clsSt (topSt 10) 2)).2.1, (fdOf (clsSt (topSt 10) 2)).2.2, 0, [], .none, .none, .none, .none, none, .none, .none, 0⟩ : FuncData)), Array.mk []⟩
def o143_5 (P : Params) : Obj := ⟨(.type "code"), none, (.fields (Array.mk [(.str t49 355), (.str t58 356), (.str t1 357), (.int 91 0), (.int 2 0), (.int 0 0), (.int 0 0), (.int 3 0), (.ref 138), (.bool true), (.int 181 0), (.ref 139), .none, (.ref 140), (.ref 141), (.ref 142), (.int 361 0), (.int 91 0), (.str t1 362)])), Array.mk []⟩
def o144_5 (P : Params) : Obj := ⟨(.type "function"), none, (.func (⟨t49, t58, (fdOf (clsSt (topSt 10) 2)).1, .stmts (fdOf (clsSt (topSt 10) 2)).2.1, (fdOf (clsSt (topSt 10) 2)).2.2, 3, [], .none, .none, .none, (.str t4 194), none, (.ref 143), .none, 0⟩ : FuncData)), Array.mk []⟩
def o145_5 (P : Params) : Obj := ⟨(.type "tuple"), none, (.seq (Array.mk []) 0), Array.mk []⟩
def o146_5 (P : Params) : Obj := ⟨.none, none, (.fields (Array.mk [])), Array.mk []⟩
def o147_5 (P : Params) : Obj := ⟨(.type "tuple"), none, (.seq (Array.mk [(.str t22 367), (.str t59 368)]) 0), Array.mk []⟩
def o148_5 (P : Params) : Obj := ⟨(.type "tuple"), none, (.seq (Array.mk []) 0), Array.mk []⟩
def o149_5 (P : Params) : Obj := ⟨.none, none, (.func (⟨t50, t60, (fdOf (clsSt (topSt 10) 3)).1, .stmts (fdOf (clsSt (topSt 10) 3)).2.1, (fdOf (clsSt (topSt 10) 3)).2.2, 0, [], .none, .none, .none, .none, none, .none, .none, 0⟩ : FuncData)), Array.mk []⟩
def o150_5 (P : Params) : Obj := ⟨(.type "code"), none, (.fields (Array.mk [(.str t50 364), (.str t60 365), (.str t1 366), (.int 98 0), (.int 1 0), (.int 0 0), (.int 0 0), (.int 3 0), (.ref 145), (.bool true), (.int 181 0), (.ref 146), .none, (.ref 147), (.ref 148), (.ref 149), (.int 369 0), (.int 98 0), (.str t1 370)])), Array.mk []⟩
def o151_5 (P : Params) : Obj := ⟨(.type "function"), none, (.func (⟨t50, t60, (fdOf (clsSt (topSt 10) 3)).1, .stmts (fdOf (clsSt (topSt 10) 3)).2.1, (fdOf (clsSt (topSt 10) 3)).2.2, 3, [], .none, .none, .none, (.str t4 194), none, (.ref 150), .none, 0⟩ : FuncData)), Array.mk []⟩
def o152_5 (P : Params) : Obj := ⟨(.type "tuple"), none, (.seq (Array.mk [(.str t51 372), (.str t52 373)]) 0), Array.mk []⟩
def o153_5 (P : Params) : Obj := ⟨(.type "dict"), none, (.dict (Array.mk [⟨(PyData.keyHash P t16), (.str t16 331), (.str t4 194)⟩, ⟨(PyData.keyHash P t18), (.str t18 335), (.int 76 334)⟩, ⟨(PyData.keyHash P t19), (.str t19 344), (.ref 130)⟩, ⟨(PyData.keyHash P t48), (.str t48 354), (.ref 137)⟩, ⟨(PyData.keyHash P t49), (.str t49 363), (.ref 144)⟩, ⟨(PyData.keyHash P t50), (.str t50 371), (.ref 151)⟩, ⟨(PyData.keyHash P t21), (.str t21 374), (.ref 152)⟩, ⟨(PyData.keyHash P t28), (.str t28 376), (.ref 155)⟩, ⟨(PyData.keyHash P t29), (.str t29 378), (.ref 156)⟩, ⟨(PyData.keyHash P t5), (.str t5 379), .none⟩]) 4), Array.mk []⟩
def o154_5 (P : Params) : Obj := ⟨(.type "type"), none, (.cls (⟨t46, [(.type "object")], [(.ref 154), (.type "object")], 153, t46, true, [], [], false, none, false⟩ : ClassData)), Array.mk [none, none, (some (.str t46 324)), (some (.str t46 332)), (some (.builtin "object.__new__")), (some (.bool true))]⟩
def o155_5 (P : Params) : Obj := ⟨(.type "getset_descriptor"), none, (.fields (Array.mk [(.str t28 375), (.ref 154), (.builtin "function.__dict__"), (.builtin "function.__dict__#set")])), Array.mk []⟩
def o156_5 (P : Params) : Obj := ⟨(.type "getset_descriptor"), none, (.fields (Array.mk [(.str t29 377), (.ref 154), (.builtin "ExceptionGroup.__weakref__"), .none])), Array.mk []⟩
def o157_5 (P : Params) : Obj := ⟨(.type "super"), none, (.fields (Array.mk [(.ref 154), (.ref 154), (.ref 154)])), Array.mk []⟩
def o158_5 (P : Params) : Obj := ⟨(.type "builtin_function_or_method"), none, (.fields (Array.mk [(.builtin "object.__init_subclass__"), (.ref 154)])), Array.mk []⟩
def tr5 (P : Params) : BT := (.node (boot_o_0 P) (.node (boot_o_1 P) (.node (o3_5 P) (.node (boot_o_7 P) (.node (o15_2 P) (.node (o31_2 P) (.node (o63_3 P) (.node (o127_5 P) .nil .nil) .nil) (.node (o95_3 P) .nil .nil)) (.node (o47_2 P) (.node (o79_3 P) (.node (o143_5 P) .nil .nil) .nil) (.node (o111_4 P) .nil .nil))) (.node (o23_2 P) (.node (o39_2 P) (.node (o71_3 P) (.node (o135_5 P) .nil .nil) .nil) (.node (o103_3 P) .nil .nil)) (.node (o55_3 P) (.node (o87_3 P) (.node (o151_5 P) .nil .nil) .nil) (.node (o119_5 P) .nil .nil)))) (.node (o11_0 P) (.node (o19_2 P) (.node (o35_2 P) (.node (o67_3 P) (.node (o131_5 P) .nil .nil) .nil) (.node (o99_3 P) .nil .nil)) (.node (o51_3 P) (.node (o83_3 P) (.node (o147_5 P) .nil .nil) .nil) (.node (o115_4 P) .nil .nil))) (.node (o27_2 P) (.node (o43_2 P) (.node (o75_3 P) (.node (o139_5 P) .nil .nil) .nil) (.node (o107_4 P) .nil .nil)) (.node (o59_3 P) (.node (o91_3 P) (.node (o155_5 P) .nil .nil) .nil) (.node (o123_5 P) .nil .nil))))) (.node (boot_o_5 P) (.node (boot_o_9 P) (.node (o17_2 P) (.node (o33_2 P) (.node (o65_3 P) (.node (o129_5 P) .nil .nil) .nil) (.node (o97_3 P) .nil .nil)) (.node (o49_2 P) (.node (o81_3 P) (.node (o145_5 P) .nil .nil) .nil) (.node (o113_4 P) .nil .nil))) (.node (o25_2 P) (.node (o41_2 P) (.node (o73_3 P) (.node (o137_5 P) .nil .nil) .nil) (.node (o105_4 P) .nil .nil)) (.node (o57_3 P) (.node (o89_3 P) (.node (o153_5 P) .nil .nil) .nil) (.node (o121_5 P) .nil .nil)))) (.node (o13_0 P) (.node (o21_2 P) (.node (o37_2 P) (.node (o69_3 P) (.node (o133_5 P) .nil .nil) .nil) (.node (o101_3 P) .nil .nil)) (.node (o53_3 P) (.node (o85_3 P) (.node (o149_5 P) .nil .nil) .nil) (.node (o117_5 P) .nil .nil))) (.node (o29_2 P) (.node (o45_2 P) (.node (o77_3 P) (.node (o141_5 P) .nil .nil) .nil) (.node (o109_4 P) .nil .nil)) (.node (o61_3 P) (.node (o93_3 P) (.node (o157_5 P) .nil .nil) .nil) (.node (o125_5 P) .nil .nil)))))) (.node (o2_4 P) (.node (boot_o_4 P) (.node (boot_o_8 P) (.node (o16_2 P) (.node (o32_2 P) (.node (o64_3 P) (.node (o128_5 P) .nil .nil) .nil) (.node (o96_3 P) .nil .nil)) (.node (o48_2 P) (.node (o80_3 P) (.node (o144_5 P) .nil .nil) .nil) (.node (o112_4 P) .nil .nil))) (.node (o24_2 P) (.node (o40_2 P) (.node (o72_3 P) (.node (o136_5 P) .nil .nil) .nil) (.node (o104_4 P) .nil .nil)) (.node (o56_3 P) (.node (o88_3 P) (.node (o152_5 P) .nil .nil) .nil) (.node (o120_5 P) .nil .nil)))) (.node (o12_5 P) (.node (o20_2 P) (.node (o36_2 P) (.node (o68_3 P) (.node (o132_5 P) .nil .nil) .nil) (.node (o100_3 P) .nil .nil)) (.node (o52_3 P) (.node (o84_3 P) (.node (o148_5 P) .nil .nil) .nil) (.node (o116_4 P) .nil .nil))) (.node (o28_2 P) (.node (o44_2 P) (.node (o76_3 P) (.node (o140_5 P) .nil .nil) .nil) (.node (o108_4 P) .nil .nil)) (.node (o60_3 P) (.node (o92_3 P) (.node (o156_5 P) .nil .nil) .nil) (.node (o124_5 P) .nil .nil))))) (.node (boot_o_6 P) (.node (boot_o_10 P) (.node (o18_2 P) (.node (o34_2 P) (.node (o66_3 P) (.node (o130_5 P) .nil .nil) .nil) (.node (o98_3 P) .nil .nil)) (.node (o50_3 P) (.node (o82_3 P) (.node (o146_5 P) .nil .nil) .nil) (.node (o114_4 P) .nil .nil))) (.node (o26_2 P) (.node (o42_2 P) (.node (o74_3 P) (.node (o138_5 P) .nil .nil) .nil) (.node (o106_4 P) .nil .nil)) (.node (o58_3 P) (.node (o90_3 P) (.node (o154_5 P) .nil .nil) .nil) (.node (o122_5 P) .nil .nil)))) (.node (o14_0 P) (.node (o22_2 P) (.node (o38_2 P) (.node (o70_3 P) (.node (o134_5 P) .nil .nil) .nil) (.node (o102_3 P) .nil .nil)) (.node (o54_3 P) (.node (o86_3 P) (.node (o150_5 P) .nil .nil) .nil) (.node (o118_5 P) .nil .nil))) (.node (o30_2 P) (.node (o46_2 P) (.node (o78_3 P) (.node (o142_5 P) .nil .nil) .nil) (.node (o110_4 P) .nil .nil)) (.node (o62_3 P) (.node (o94_3 P) (.node (o158_5 P) .nil .nil) .nil) (.node (o126_5 P) .nil .nil)))))))
def o3_6 (P : Params) : Obj := ⟨(.type "dict"), none, (.dict (Array.mk [⟨(PyData.keyHash P t3), (.str t3 165), (.str t45 382)⟩, ⟨(PyData.keyHash P t5), (.str t5 166), .none⟩, ⟨(PyData.keyHash P t6), (.str t6 167), .none⟩, ⟨(PyData.keyHash P t7), (.str t7 168), (.builtin "__main__.__loader__#opaque")⟩, ⟨(PyData.keyHash P t8), (.str t8 169), .none⟩, ⟨(PyData.keyHash P t9), (.str t9 170), (.ref 6)⟩, ⟨(PyData.keyHash P t10), (.str t10 171), (.ref 4)⟩, ⟨(PyData.keyHash P t11), (.str t11 173), (.str t1 172)⟩, ⟨(PyData.keyHash P t12), (.str t12 174), .none⟩, ⟨(PyData.keyHash P t13), (.str t13 193), (.ref 21)⟩, ⟨(PyData.keyHash P t14), (.str t14 235), (.ref 45)⟩, ⟨(PyData.keyHash P t30), (.str t30 266), (.ref 66)⟩, ⟨(PyData.keyHash P t31), (.str t31 273), (.ref 77)⟩, ⟨(PyData.keyHash P t32), (.str t32 280), (.ref 84)⟩, ⟨(PyData.keyHash P t33), (.str t33 290), (.ref 91)⟩, ⟨(PyData.keyHash P t34), (.str t34 296), (.ref 96)⟩, ⟨(PyData.keyHash P t35), (.str t35 303), (.ref 103)⟩, ⟨(PyData.keyHash P t44), (.str t44 323), (.ref 113)⟩, ⟨(PyData.keyHash P t46), (.str t46 381), (.ref 154)⟩, ⟨(PyData.keyHash P t47), (.str t47 385), (.bytes #[13, 10, 13, 10, 0, 13, 10, 81, 85, 73, 84, 10] 384)⟩, ⟨(PyData.keyHash P t61), (.str t61 417), (.ref 168)⟩]) 21), Array.mk []⟩
def o12_6 (P : Params) : Obj := ⟨.none, none, (.fields (Array.mk [(.int 1 0), (.int 0 0), (.ref 20), (.int 5 0), (.int 0 0), (.ref 27), (.int 15 0), (.int 0 0), (.ref 55), (.int 20 0), (.int 0 0), (.ref 76), (.int 22 0), (.int 0 0), (.ref 83), (.int 24 0), (.int 0 0), (.ref 90), (.int 36 0), (.int 0 0), (.ref 95), (.int 70 0), (.int 0 0), (.ref 102), (.int 74 0), (.int 0 0), (.ref 109), (.int 76 0), (.int 0 0), (.ref 122), (.int 105 0), (.int 0 0), (.ref 164)])), Array.mk []⟩
def o159_6 (P : Params) : Obj := ⟨(.type "tuple"), none, (.seq (Array.mk []) 0), Array.mk []⟩
def o160_6 (P : Params) : Obj := ⟨(.type "builtin_function_or_method"), none, (.fields (Array.mk [(.builtin "type.__prepare__"), (.type "type")])), Array.mk []⟩
def o161_6 (P : Params) : Obj := ⟨(.type "dict"), none, (.dict (Array.mk [⟨(PyData.keyHash P t16), (.str t16 393), (.str t45 382)⟩, ⟨(PyData.keyHash P t17), (.str t17 395), (.str t61 394)⟩, ⟨(PyData.keyHash P t18), (.str t18 397), (.int 105 396)⟩, ⟨(PyData.keyHash P t62), (.str t62 399), (.int 0 398)⟩, ⟨(PyData.keyHash P t63), (.str t63 402), (.int 1 401)⟩, ⟨(PyData.keyHash P t64), (.str t64 405), (.int 2 404)⟩, ⟨(PyData.keyHash P t65), (.str t65 408), (.int 3 407)⟩, ⟨(PyData.keyHash P t21), (.str t21 410), (.ref 166)⟩]) 8), Array.mk []⟩
def o162_6 (P : Params) : Obj := ⟨(.type "tuple"), none, (.seq (Array.mk []) 0), Array.mk []⟩
def o163_6 (P : Params) : Obj := ⟨.none, none, (.fields (Array.mk [])), Array.mk []⟩
def o164_6 (P : Params) : Obj := ⟨(.type "code"), none, (.fields (Array.mk [(.str t61 388), (.str t61 389), (.str t1 390), (.int 105 0), (.int 0 0), (.int 0 0), (.int 0 0), (.int 0 0), (.ref 162), (.bool false), (.int 181 0), (.ref 163), .none, .none, .none, .none, (.int 391 0), (.int 105 0), (.str t1 392)])), Array.mk []⟩
def o165_6 (P : Params) : Obj := ⟨(.type "frame"), none, .plain, Array.mk [(some (.ref 164)), (some (.ref 3)), (some (.ref 161)), none, (some (.str t45 382)), none, (some (.ref 0))]⟩
def o166_6 (P : Params) : Obj := ⟨(.type "tuple"), none, (.seq (Array.mk []) 0), Array.mk []⟩
def o167_6 (P : Params) : Obj := ⟨(.type "dict"), none, (.dict (Array.mk [⟨(PyData.keyHash P t16), (.str t16 393), (.str t45 382)⟩, ⟨(PyData.keyHash P t18), (.str t18 397), (.int 105 396)⟩, ⟨(PyData.keyHash P t62), (.str t62 399), (.int 0 398)⟩, ⟨(PyData.keyHash P t63), (.str t63 402), (.int 1 401)⟩, ⟨(PyData.keyHash P t64), (.str t64 405), (.int 2 404)⟩, ⟨(PyData.keyHash P t65), (.str t65 408), (.int 3 407)⟩, ⟨(PyData.keyHash P t21), (.str t21 410), (.ref 166)⟩, ⟨(PyData.keyHash P t28), (.str t28 412), (.ref 169)⟩, ⟨(PyData.keyHash P t29), (.str t29 414), (.ref 170)⟩, ⟨(PyData.keyHash P t5), (.str t5 415), .none⟩]) 4), Array.mk []⟩
def o168_6 (P : Params) : Obj := ⟨(.type "type"), none, (.cls (⟨t61, [(.type "object")], [(.ref 168), (.type "object")], 167, t61, true, [], [], false, none, false⟩ : ClassData)), Array.mk [none, none, (some (.str t61 386)), (some (.str t61 394)), (some (.builtin "object.__new__")), (some (.bool true))]⟩
def o169_6 (P : Params) : Obj := ⟨(.type "getset_descriptor"), none, (.fields (Array.mk [(.str t28 411), (.ref 168), (.builtin "function.__dict__"), (.builtin "function.__dict__#set")])), Array.mk []⟩
def o170_6 (P : Params) : Obj := ⟨(.type "getset_descriptor"), none, (.fields (Array.mk [(.str t29 413), (.ref 168), (.builtin "ExceptionGroup.__weakref__"), .none])), Array.mk []⟩
def o171_6 (P : Params) : Obj := ⟨(.type "super"), none, (.fields (Array.mk [(.ref 168), (.ref 168), (.ref 168)])), Array.mk []⟩
def o172_6 (P : Params) : Obj := ⟨(.type "builtin_function_or_method"), none, (.fields (Array.mk [(.builtin "object.__init_subclass__"), (.ref 168)])), Array.mk []⟩
def tr6 (P : Params) : BT := (.node (boot_o_0 P) (.node (boot_o_1 P) (.node (o3_6 P) (.node (boot_o_7 P) (.node (o15_2 P) (.node (o31_2 P) (.node (o63_3 P) (.node (o127_5 P) .nil .nil) .nil) (.node (o95_3 P) (.node (o159_6 P) .nil .nil) .nil)) (.node (o47_2 P) (.node (o79_3 P) (.node (o143_5 P) .nil .nil) .nil) (.node (o111_4 P) .nil .nil))) (.node (o23_2 P) (.node (o39_2 P) (.node (o71_3 P) (.node (o135_5 P) .nil .nil) .nil) (.node (o103_3 P) (.node (o167_6 P) .nil .nil) .nil)) (.node (o55_3 P) (.node (o87_3 P) (.node (o151_5 P) .nil .nil) .nil) (.node (o119_5 P) .nil .nil)))) (.node (o11_0 P) (.node (o19_2 P) (.node (o35_2 P) (.node (o67_3 P) (.node (o131_5 P) .nil .nil) .nil) (.node (o99_3 P) (.node (o163_6 P) .nil .nil) .nil)) (.node (o51_3 P) (.node (o83_3 P) (.node (o147_5 P) .nil .nil) .nil) (.node (o115_4 P) .nil .nil))) (.node (o27_2 P) (.node (o43_2 P) (.node (o75_3 P) (.node (o139_5 P) .nil .nil) .nil) (.node (o107_4 P) (.node (o171_6 P) .nil .nil) .nil)) (.node (o59_3 P) (.node (o91_3 P) (.node (o155_5 P) .nil .nil) .nil) (.node (o123_5 P) .nil .nil))))) (.node (boot_o_5 P) (.node (boot_o_9 P) (.node (o17_2 P) (.node (o33_2 P) (.node (o65_3 P) (.node (o129_5 P) .nil .nil) .nil) (.node (o97_3 P) (.node (o161_6 P) .nil .nil) .nil)) (.node (o49_2 P) (.node (o81_3 P) (.node (o145_5 P) .nil .nil) .nil) (.node (o113_4 P) .nil .nil))) (.node (o25_2 P) (.node (o41_2 P) (.node (o73_3 P) (.node (o137_5 P) .nil .nil) .nil) (.node (o105_4 P) (.node (o169_6 P) .nil .nil) .nil)) (.node (o57_3 P) (.node (o89_3 P) (.node (o153_5 P) .nil .nil) .nil) (.node (o121_5 P) .nil .nil)))) (.node (o13_0 P) (.node (o21_2 P) (.node (o37_2 P) (.node (o69_3 P) (.node (o133_5 P) .nil .nil) .nil) (.node (o101_3 P) (.node (o165_6 P) .nil .nil) .nil)) (.node (o53_3 P) (.node (o85_3 P) (.node (o149_5 P) .nil .nil) .nil) (.node (o117_5 P) .nil .nil))) (.node (o29_2 P) (.node (o45_2 P) (.node (o77_3 P) (.node (o141_5 P) .nil .nil) .nil) (.node (o109_4 P) .nil .nil)) (.node (o61_3 P) (.node (o93_3 P) (.node (o157_5 P) .nil .nil) .nil) (.node (o125_5 P) .nil .nil)))))) (.node (o2_4 P) (.node (boot_o_4 P) (.node (boot_o_8 P) (.node (o16_2 P) (.node (o32_2 P) (.node (o64_3 P) (.node (o128_5 P) .nil .nil) .nil) (.node (o96_3 P) (.node (o160_6 P) .nil .nil) .nil)) (.node (o48_2 P) (.node (o80_3 P) (.node (o144_5 P) .nil .nil) .nil) (.node (o112_4 P) .nil .nil))) (.node (o24_2 P) (.node (o40_2 P) (.node (o72_3 P) (.node (o136_5 P) .nil .nil) .nil) (.node (o104_4 P) (.node (o168_6 P) .nil .nil) .nil)) (.node (o56_3 P) (.node (o88_3 P) (.node (o152_5 P) .nil .nil) .nil) (.node (o120_5 P) .nil .nil)))) (.node (o12_6 P) (.node (o20_2 P) (.node (o36_2 P) (.node (o68_3 P) (.node (o132_5 P) .nil .nil) .nil) (.node (o100_3 P) (.node (o164_6 P) .nil .nil) .nil)) (.node (o52_3 P) (.node (o84_3 P) (.node (o148_5 P) .nil .nil) .nil) (.node (o116_4 P) .nil .nil))) (.node (o28_2 P) (.node (o44_2 P) (.node (o76_3 P) (.node (o140_5 P) .nil .nil) .nil) (.node (o108_4 P) (.node (o172_6 P) .nil .nil) .nil)) (.node (o60_3 P) (.node (o92_3 P) (.node (o156_5 P) .nil .nil) .nil) (.node (o124_5 P) .nil .nil))))) (.node (boot_o_6 P) (.node (boot_o_10 P) (.node (o18_2 P) (.node (o34_2 P) (.node (o66_3 P) (.node (o130_5 P) .nil .nil) .nil) (.node (o98_3 P) (.node (o162_6 P) .nil .nil) .nil)) (.node (o50_3 P) (.node (o82_3 P) (.node (o146_5 P) .nil .nil) .nil) (.node (o114_4 P) .nil .nil))) (.node (o26_2 P) (.node (o42_2 P) (.node (o74_3 P) (.node (o138_5 P) .nil .nil) .nil) (.node (o106_4 P) (.node (o170_6 P) .nil .nil) .nil)) (.node (o58_3 P) (.node (o90_3 P) (.node (o154_5 P) .nil .nil) .nil) (.node (o122_5 P) .nil .nil)))) (.node (o14_0 P) (.node (o22_2 P) (.node (o38_2 P) (.node (o70_3 P) (.node (o134_5 P) .nil .nil) .nil) (.node (o102_3 P) (.node (o166_6 P) .nil .nil) .nil)) (.node (o54_3 P) (.node (o86_3 P) (.node (o150_5 P) .nil .nil) .nil) (.node (o118_5 P) .nil .nil))) (.node (o30_2 P) (.node (o46_2 P) (.node (o78_3 P) (.node (o142_5 P) .nil .nil) .nil) (.node (o110_4 P) .nil .nil)) (.node (o62_3 P) (.node (o94_3 P) (.node (o158_5 P) .nil .nil) .nil) (.node (o126_5 P) .nil .nil)))))))
def o3_7 (P : Params) : Obj := ⟨(.type "dict"), none, (.dict (Array.mk [⟨(PyData.keyHash P t3), (.str t3 165), (.str t45 382)⟩, ⟨(PyData.keyHash P t5), (.str t5 166), .none⟩, ⟨(PyData.keyHash P t6), (.str t6 167), .none⟩, ⟨(PyData.keyHash P t7), (.str t7 168), (.builtin "__main__.__loader__#opaque")⟩, ⟨(PyData.keyHash P t8), (.str t8 169), .none⟩, ⟨(PyData.keyHash P t9), (.str t9 170), (.ref 6)⟩, ⟨(PyData.keyHash P t10), (.str t10 171), (.ref 4)⟩, ⟨(PyData.keyHash P t11), (.str t11 173), (.str t1 172)⟩, ⟨(PyData.keyHash P t12), (.str t12 174), .none⟩, ⟨(PyData.keyHash P t13), (.str t13 193), (.ref 21)⟩, ⟨(PyData.keyHash P t14), (.str t14 235), (.ref 45)⟩, ⟨(PyData.keyHash P t30), (.str t30 266), (.ref 66)⟩, ⟨(PyData.keyHash P t31), (.str t31 273), (.ref 77)⟩, ⟨(PyData.keyHash P t32), (.str t32 280), (.ref 84)⟩, ⟨(PyData.keyHash P t33), (.str t33 290), (.ref 91)⟩, ⟨(PyData.keyHash P t34), (.str t34 296), (.ref 96)⟩, ⟨(PyData.keyHash P t35), (.str t35 303), (.ref 103)⟩, ⟨(PyData.keyHash P t44), (.str t44 323), (.ref 113)⟩, ⟨(PyData.keyHash P t46), (.str t46 381), (.ref 154)⟩, ⟨(PyData.keyHash P t47), (.str t47 385), (.bytes #[13, 10, 13, 10, 0, 13, 10, 81, 85, 73, 84, 10] 384)⟩, ⟨(PyData.keyHash P t61), (.str t61 417), (.ref 168)⟩, ⟨(PyData.keyHash P t66), (.str t66 446), (.ref 182)⟩, ⟨(PyData.keyHash P t67), (.str t67 451), (.ref 187)⟩, ⟨(PyData.keyHash P t68), (.str t68 460), (.ref 188)⟩, ⟨(PyData.keyHash P t69), (.str t69 467), (.ref 189)⟩]) 25), Array.mk []⟩
def o12_7 (P : Params) : Obj := ⟨.none, none, (.fields (Array.mk [(.int 1 0), (.int 0 0), (.ref 20), (.int 5 0), (.int 0 0), (.ref 27), (.int 15 0), (.int 0 0), (.ref 55), (.int 20 0), (.int 0 0), (.ref 76), (.int 22 0), (.int 0 0), (.ref 83), (.int 24 0), (.int 0 0), (.ref 90), (.int 36 0), (.int 0 0), (.ref 95), (.int 70 0), (.int 0 0), (.ref 102), (.int 74 0), (.int 0 0), (.ref 109), (.int 76 0), (.int 0 0), (.ref 122), (.int 105 0), (.int 0 0), (.ref 164), (.int 114 0), (.int 0 0), (.ref 178)])), Array.mk []⟩
def o173_7 (P : Params) : Obj := ⟨(.type "tuple"), none, (.seq (Array.mk []) 0), Array.mk []⟩
def o174_7 (P : Params) : Obj := ⟨(.type "builtin_function_or_method"), none, (.fields (Array.mk [(.builtin "type.__prepare__"), (.type "type")])), Array.mk []⟩
def o175_7 (P : Params) : Obj := ⟨(.type "dict"), none, (.dict (Array.mk [⟨(PyData.keyHash P t16), (.str t16 425), (.str t45 382)⟩, ⟨(PyData.keyHash P t17), (.str t17 427), (.str t66 426)⟩, ⟨(PyData.keyHash P t18), (.str t18 429), (.int 114 428)⟩, ⟨(PyData.keyHash P t62), (.str t62 431), (.int 0 430)⟩, ⟨(PyData.keyHash P t70), (.str t70 434), (.int 1 433)⟩, ⟨(PyData.keyHash P t71), (.str t71 437), (.int 2 436)⟩, ⟨(PyData.keyHash P t21), (.str t21 439), (.ref 180)⟩]) 7), Array.mk []⟩
def o176_7 (P : Params) : Obj := ⟨(.type "tuple"), none, (.seq (Array.mk []) 0), Array.mk []⟩
def o177_7 (P : Params) : Obj := ⟨.none, none, (.fields (Array.mk [])), Array.mk []⟩
def o178_7 (P : Params) : Obj := ⟨(.type "code"), none, (.fields (Array.mk [(.str t66 420), (.str t66 421), (.str t1 422), (.int 114 0), (.int 0 0), (.int 0 0), (.int 0 0), (.int 0 0), (.ref 176), (.bool false), (.int 181 0), (.ref 177), .none, .none, .none, .none, (.int 423 0), (.int 114 0), (.str t1 424)])), Array.mk []⟩
def o179_7 (P : Params) : Obj := ⟨(.type "frame"), none, .plain, Array.mk [(some (.ref 178)), (some (.ref 3)), (some (.ref 175)), none, (some (.str t45 382)), none, (some (.ref 0))]⟩
def o180_7 (P : Params) : Obj := ⟨(.type "tuple"), none, (.seq (Array.mk []) 0), Array.mk []⟩
def o181_7 (P : Params) : Obj := ⟨(.type "dict"), none, (.dict (Array.mk [⟨(PyData.keyHash P t16), (.str t16 425), (.str t45 382)⟩, ⟨(PyData.keyHash P t18), (.str t18 429), (.int 114 428)⟩, ⟨(PyData.keyHash P t62), (.str t62 431), (.int 0 430)⟩, ⟨(PyData.keyHash P t70), (.str t70 434), (.int 1 433)⟩, ⟨(PyData.keyHash P t71), (.str t71 437), (.int 2 436)⟩, ⟨(PyData.keyHash P t21), (.str t21 439), (.ref 180)⟩, ⟨(PyData.keyHash P t28), (.str t28 441), (.ref 183)⟩, ⟨(PyData.keyHash P t29), (.str t29 443), (.ref 184)⟩, ⟨(PyData.keyHash P t5), (.str t5 444), .none⟩]) 4), Array.mk []⟩
def o182_7 (P : Params) : Obj := ⟨(.type "type"), none, (.cls (⟨t66, [(.type "object")], [(.ref 182), (.type "object")], 181, t66, true, [], [], false, none, false⟩ : ClassData)), Array.mk [none, none, (some (.str t66 418)), (some (.str t66 426)), (some (.builtin "object.__new__")), (some (.bool true))]⟩
def o183_7 (P : Params) : Obj := ⟨(.type "getset_descriptor"), none, (.fields (Array.mk [(.str t28 440), (.ref 182), (.builtin "function.__dict__"), (.builtin "function.__dict__#set")])), Array.mk []⟩
def o184_7 (P : Params) : Obj := ⟨(.type "getset_descriptor"), none, (.fields (Array.mk [(.str t29 442), (.ref 182), (.builtin "ExceptionGroup.__weakref__"), .none])), Array.mk []⟩
def o185_7 (P : Params) : Obj := ⟨(.type "super"), none, (.fields (Array.mk [(.ref 182), (.ref 182), (.ref 182)])), Array.mk []⟩
def o186_7 (P : Params) : Obj := ⟨(.type "builtin_function_or_method"), none, (.fields (Array.mk [(.builtin "object.__init_subclass__"), (.ref 182)])), Array.mk []⟩
def o187_7 (P : Params) : Obj := ⟨(.type "set"), none, (.set (Array.mk [(0, (.int 0 447)), (1, (.int 1 448))]) 2 ⟨7, #[0, 1], #[], 0, (!P.followText "set-order"), 0, true⟩), Array.mk []⟩
def o188_7 (P : Params) : Obj := ⟨(.type "set"), none, (.set (Array.mk [(0, (.int 0 452)), (1, (.int 1 453)), (2, (.int 2 454)), (3, (.int 3 455))]) 5 ⟨7, #[0, 1, 2, 3], #[], 0, false, 0, true⟩), Array.mk []⟩
def o189_7 (P : Params) : Obj := ⟨(.type "set"), none, (.set (Array.mk [(0, (.int 0 461)), (1, (.int 1 462)), (2, (.int 2 463))]) 4 ⟨7, #[0, 1, 2], #[], 0, false, 0, true⟩), Array.mk []⟩
def tr7 (P : Params) : BT := (.node (boot_o_0 P) (.node (boot_o_1 P) (.node (o3_7 P) (.node (boot_o_7 P) (.node (o15_2 P) (.node (o31_2 P) (.node (o63_3 P) (.node (o127_5 P) .nil .nil) .nil) (.node (o95_3 P) (.node (o159_6 P) .nil .nil) .nil)) (.node (o47_2 P) (.node (o79_3 P) (.node (o143_5 P) .nil .nil) .nil) (.node (o111_4 P) (.node (o175_7 P) .nil .nil) .nil))) (.node (o23_2 P) (.node (o39_2 P) (.node (o71_3 P) (.node (o135_5 P) .nil .nil) .nil) (.node (o103_3 P) (.node (o167_6 P) .nil .nil) .nil)) (.node (o55_3 P) (.node (o87_3 P) (.node (o151_5 P) .nil .nil) .nil) (.node (o119_5 P) (.node (o183_7 P) .nil .nil) .nil)))) (.node (o11_0 P) (.node (o19_2 P) (.node (o35_2 P) (.node (o67_3 P) (.node (o131_5 P) .nil .nil) .nil) (.node (o99_3 P) (.node (o163_6 P) .nil .nil) .nil)) (.node (o51_3 P) (.node (o83_3 P) (.node (o147_5 P) .nil .nil) .nil) (.node (o115_4 P) (.node (o179_7 P) .nil .nil) .nil))) (.node (o27_2 P) (.node (o43_2 P) (.node (o75_3 P) (.node (o139_5 P) .nil .nil) .nil) (.node (o107_4 P) (.node (o171_6 P) .nil .nil) .nil)) (.node (o59_3 P) (.node (o91_3 P) (.node (o155_5 P) .nil .nil) .nil) (.node (o123_5 P) (.node (o187_7 P) .nil .nil) .nil))))) (.node (boot_o_5 P) (.node (boot_o_9 P) (.node (o17_2 P) (.node (o33_2 P) (.node (o65_3 P) (.node (o129_5 P) .nil .nil) .nil) (.node (o97_3 P) (.node (o161_6 P) .nil .nil) .nil)) (.node (o49_2 P) (.node (o81_3 P) (.node (o145_5 P) .nil .nil) .nil) (.node (o113_4 P) (.node (o177_7 P) .nil .nil) .nil))) (.node (o25_2 P) (.node (o41_2 P) (.node (o73_3 P) (.node (o137_5 P) .nil .nil) .nil) (.node (o105_4 P) (.node (o169_6 P) .nil .nil) .nil)) (.node (o57_3 P) (.node (o89_3 P) (.node (o153_5 P) .nil .nil) .nil) (.node (o121_5 P) (.node (o185_7 P) .nil .nil) .nil)))) (.node (o13_0 P) (.node (o21_2 P) (.node (o37_2 P) (.node (o69_3 P) (.node (o133_5 P) .nil .nil) .nil) (.node (o101_3 P) (.node (o165_6 P) .nil .nil) .nil)) (.node (o53_3 P) (.node (o85_3 P) (.node (o149_5 P) .nil .nil) .nil) (.node (o117_5 P) (.node (o181_7 P) .nil .nil) .nil))) (.node (o29_2 P) (.node (o45_2 P) (.node (o77_3 P) (.node (o141_5 P) .nil .nil) .nil) (.node (o109_4 P) (.node (o173_7 P) .nil .nil) .nil)) (.node (o61_3 P) (.node (o93_3 P) (.node (o157_5 P) .nil .nil) .nil) (.node (o125_5 P) (.node (o189_7 P) .nil .nil) .nil)))))) (.node (o2_4 P) (.node (boot_o_4 P) (.node (boot_o_8 P) (.node (o16_2 P) (.node (o32_2 P) (.node (o64_3 P) (.node (o128_5 P) .nil .nil) .nil) (.node (o96_3 P) (.node (o160_6 P) .nil .nil) .nil)) (.node (o48_2 P) (.node (o80_3 P) (.node (o144_5 P) .nil .nil) .nil) (.node (o112_4 P) (.node (o176_7 P) .nil .nil) .nil))) (.node (o24_2 P) (.node (o40_2 P) (.node (o72_3 P) (.node (o136_5 P) .nil .nil) .nil) (.node (o104_4 P) (.node (o168_6 P) .nil .nil) .nil)) (.node (o56_3 P) (.node (o88_3 P) (.node (o152_5 P) .nil .nil) .nil) (.node (o120_5 P) (.node (o184_7 P) .nil .nil) .nil)))) (.node (o12_7 P) (.node (o20_2 P) (.node (o36_2 P) (.node (o68_3 P) (.node (o132_5 P) .nil .nil) .nil) (.node (o100_3 P) (.node (o164_6 P) .nil .nil) .nil)) (.node (o52_3 P) (.node (o84_3 P) (.node (o148_5 P) .nil .nil) .nil) (.node (o116_4 P) (.node (o180_7 P) .nil .nil) .nil))) (.node (o28_2 P) (.node (o44_2 P) (.node (o76_3 P) (.node (o140_5 P) .nil .nil) .nil) (.node (o108_4 P) (.node (o172_6 P) .nil .nil) .nil)) (.node (o60_3 P) (.node (o92_3 P) (.node (o156_5 P) .nil .nil) .nil) (.node (o124_5 P) (.node (o188_7 P) .nil .nil) .nil))))) (.node (boot_o_6 P) (.node (boot_o_10 P) (.node (o18_2 P) (.node (o34_2 P) (.node (o66_3 P) (.node (o130_5 P) .nil .nil) .nil) (.node (o98_3 P) (.node (o162_6 P) .nil .nil) .nil)) (.node (o50_3 P) (.node (o82_3 P) (.node (o146_5 P) .nil .nil) .nil) (.node (o114_4 P) (.node (o178_7 P) .nil .nil) .nil))) (.node (o26_2 P) (.node (o42_2 P) (.node (o74_3 P) (.node (o138_5 P) .nil .nil) .nil) (.node (o106_4 P) (.node (o170_6 P) .nil .nil) .nil)) (.node (o58_3 P) (.node (o90_3 P) (.node (o154_5 P) .nil .nil) .nil) (.node (o122_5 P) (.node (o186_7 P) .nil .nil) .nil)))) (.node (o14_0 P) (.node (o22_2 P) (.node (o38_2 P) (.node (o70_3 P) (.node (o134_5 P) .nil .nil) .nil) (.node (o102_3 P) (.node (o166_6 P) .nil .nil) .nil)) (.node (o54_3 P) (.node (o86_3 P) (.node (o150_5 P) .nil .nil) .nil) (.node (o118_5 P) (.node (o182_7 P) .nil .nil) .nil))) (.node (o30_2 P) (.node (o46_2 P) (.node (o78_3 P) (.node (o142_5 P) .nil .nil) .nil) (.node (o110_4 P) (.node (o174_7 P) .nil .nil) .nil)) (.node (o62_3 P) (.node (o94_3 P) (.node (o158_5 P) .nil .nil) .nil) (.node (o126_5 P) .nil .nil)))))))
def o3_8 (P : Params) : Obj := ⟨(.type "dict"), none, (.dict (Array.mk [⟨(PyData.keyHash P t3), (.str t3 165), (.str t45 382)⟩, ⟨(PyData.keyHash P t5), (.str t5 166), .none⟩, ⟨(PyData.keyHash P t6), (.str t6 167), .none⟩, ⟨(PyData.keyHash P t7), (.str t7 168), (.builtin "__main__.__loader__#opaque")⟩, ⟨(PyData.keyHash P t8), (.str t8 169), .none⟩, ⟨(PyData.keyHash P t9), (.str t9 170), (.ref 6)⟩, ⟨(PyData.keyHash P t10), (.str t10 171), (.ref 4)⟩, ⟨(PyData.keyHash P t11), (.str t11 173), (.str t1 172)⟩, ⟨(PyData.keyHash P t12), (.str t12 174), .none⟩, ⟨(PyData.keyHash P t13), (.str t13 193), (.ref 21)⟩, ⟨(PyData.keyHash P t14), (.str t14 235), (.ref 45)⟩, ⟨(PyData.keyHash P t30), (.str t30 266), (.ref 66)⟩, ⟨(PyData.keyHash P t31), (.str t31 273), (.ref 77)⟩, ⟨(PyData.keyHash P t32), (.str t32 280), (.ref 84)⟩, ⟨(PyData.keyHash P t33), (.str t33 290), (.ref 91)⟩, ⟨(PyData.keyHash P t34), (.str t34 296), (.ref 96)⟩, ⟨(PyData.keyHash P t35), (.str t35 303), (.ref 103)⟩, ⟨(PyData.keyHash P t44), (.str t44 323), (.ref 113)⟩, ⟨(PyData.keyHash P t46), (.str t46 381), (.ref 154)⟩, ⟨(PyData.keyHash P t47), (.str t47 385), (.bytes #[13, 10, 13, 10, 0, 13, 10, 81, 85, 73, 84, 10] 384)⟩, ⟨(PyData.keyHash P t61), (.str t61 417), (.ref 168)⟩, ⟨(PyData.keyHash P t66), (.str t66 446), (.ref 182)⟩, ⟨(PyData.keyHash P t67), (.str t67 451), (.ref 187)⟩, ⟨(PyData.keyHash P t68), (.str t68 460), (.ref 188)⟩, ⟨(PyData.keyHash P t69), (.str t69 467), (.ref 189)⟩, ⟨(PyData.keyHash P t72), (.str t72 480), (.ref 190)⟩]) 26), Array.mk []⟩
def o190_8 (P : Params) : Obj := ⟨(.type "set"), none, (.set (Array.mk [(33, (.int 33 470)), (34, (.int 34 471)), (17, (.int 17 468)), (18, (.int 18 469)), (49, (.int 49 472)), (50, (.int 50 473))]) 8 ⟨31, #[1, 2, 17, 18, 19, 20], #[], 0, false, 1, true⟩), Array.mk []⟩
def tr8 (P : Params) : BT := (.node (boot_o_0 P) (.node (boot_o_1 P) (.node (o3_8 P) (.node (boot_o_7 P) (.node (o15_2 P) (.node (o31_2 P) (.node (o63_3 P) (.node (o127_5 P) .nil .nil) .nil) (.node (o95_3 P) (.node (o159_6 P) .nil .nil) .nil)) (.node (o47_2 P) (.node (o79_3 P) (.node (o143_5 P) .nil .nil) .nil) (.node (o111_4 P) (.node (o175_7 P) .nil .nil) .nil))) (.node (o23_2 P) (.node (o39_2 P) (.node (o71_3 P) (.node (o135_5 P) .nil .nil) .nil) (.node (o103_3 P) (.node (o167_6 P) .nil .nil) .nil)) (.node (o55_3 P) (.node (o87_3 P) (.node (o151_5 P) .nil .nil) .nil) (.node (o119_5 P) (.node (o183_7 P) .nil .nil) .nil)))) (.node (o11_0 P) (.node (o19_2 P) (.node (o35_2 P) (.node (o67_3 P) (.node (o131_5 P) .nil .nil) .nil) (.node (o99_3 P) (.node (o163_6 P) .nil .nil) .nil)) (.node (o51_3 P) (.node (o83_3 P) (.node (o147_5 P) .nil .nil) .nil) (.node (o115_4 P) (.node (o179_7 P) .nil .nil) .nil))) (.node (o27_2 P) (.node (o43_2 P) (.node (o75_3 P) (.node (o139_5 P) .nil .nil) .nil) (.node (o107_4 P) (.node (o171_6 P) .nil .nil) .nil)) (.node (o59_3 P) (.node (o91_3 P) (.node (o155_5 P) .nil .nil) .nil) (.node (o123_5 P) (.node (o187_7 P) .nil .nil) .nil))))) (.node (boot_o_5 P) (.node (boot_o_9 P) (.node (o17_2 P) (.node (o33_2 P) (.node (o65_3 P) (.node (o129_5 P) .nil .nil) .nil) (.node (o97_3 P) (.node (o161_6 P) .nil .nil) .nil)) (.node (o49_2 P) (.node (o81_3 P) (.node (o145_5 P) .nil .nil) .nil) (.node (o113_4 P) (.node (o177_7 P) .nil .nil) .nil))) (.node (o25_2 P) (.node (o41_2 P) (.node (o73_3 P) (.node (o137_5 P) .nil .nil) .nil) (.node (o105_4 P) (.node (o169_6 P) .nil .nil) .nil)) (.node (o57_3 P) (.node (o89_3 P) (.node (o153_5 P) .nil .nil) .nil) (.node (o121_5 P) (.node (o185_7 P) .nil .nil) .nil)))) (.node (o13_0 P) (.node (o21_2 P) (.node (o37_2 P) (.node (o69_3 P) (.node (o133_5 P) .nil .nil) .nil) (.node (o101_3 P) (.node (o165_6 P) .nil .nil) .nil)) (.node (o53_3 P) (.node (o85_3 P) (.node (o149_5 P) .nil .nil) .nil) (.node (o117_5 P) (.node (o181_7 P) .nil .nil) .nil))) (.node (o29_2 P) (.node (o45_2 P) (.node (o77_3 P) (.node (o141_5 P) .nil .nil) .nil) (.node (o109_4 P) (.node (o173_7 P) .nil .nil) .nil)) (.node (o61_3 P) (.node (o93_3 P) (.node (o157_5 P) .nil .nil) .nil) (.node (o125_5 P) (.node (o189_7 P) .nil .nil) .nil)))))) (.node (o2_4 P) (.node (boot_o_4 P) (.node (boot_o_8 P) (.node (o16_2 P) (.node (o32_2 P) (.node (o64_3 P) (.node (o128_5 P) .nil .nil) .nil) (.node (o96_3 P) (.node (o160_6 P) .nil .nil) .nil)) (.node (o48_2 P) (.node (o80_3 P) (.node (o144_5 P) .nil .nil) .nil) (.node (o112_4 P) (.node (o176_7 P) .nil .nil) .nil))) (.node (o24_2 P) (.node (o40_2 P) (.node (o72_3 P) (.node (o136_5 P) .nil .nil) .nil) (.node (o104_4 P) (.node (o168_6 P) .nil .nil) .nil)) (.node (o56_3 P) (.node (o88_3 P) (.node (o152_5 P) .nil .nil) .nil) (.node (o120_5 P) (.node (o184_7 P) .nil .nil) .nil)))) (.node (o12_7 P) (.node (o20_2 P) (.node (o36_2 P) (.node (o68_3 P) (.node (o132_5 P) .nil .nil) .nil) (.node (o100_3 P) (.node (o164_6 P) .nil .nil) .nil)) (.node (o52_3 P) (.node (o84_3 P) (.node (o148_5 P) .nil .nil) .nil) (.node (o116_4 P) (.node (o180_7 P) .nil .nil) .nil))) (.node (o28_2 P) (.node (o44_2 P) (.node (o76_3 P) (.node (o140_5 P) .nil .nil) .nil) (.node (o108_4 P) (.node (o172_6 P) .nil .nil) .nil)) (.node (o60_3 P) (.node (o92_3 P) (.node (o156_5 P) .nil .nil) .nil) (.node (o124_5 P) (.node (o188_7 P) .nil .nil) .nil))))) (.node (boot_o_6 P) (.node (boot_o_10 P) (.node (o18_2 P) (.node (o34_2 P) (.node (o66_3 P) (.node (o130_5 P) .nil .nil) .nil) (.node (o98_3 P) (.node (o162_6 P) .nil .nil) .nil)) (.node (o50_3 P) (.node (o82_3 P) (.node (o146_5 P) .nil .nil) .nil) (.node (o114_4 P) (.node (o178_7 P) .nil .nil) .nil))) (.node (o26_2 P) (.node (o42_2 P) (.node (o74_3 P) (.node (o138_5 P) .nil .nil) .nil) (.node (o106_4 P) (.node (o170_6 P) .nil .nil) .nil)) (.node (o58_3 P) (.node (o90_3 P) (.node (o154_5 P) .nil .nil) .nil) (.node (o122_5 P) (.node (o186_7 P) .nil .nil) .nil)))) (.node (o14_0 P) (.node (o22_2 P) (.node (o38_2 P) (.node (o70_3 P) (.node (o134_5 P) .nil .nil) .nil) (.node (o102_3 P) (.node (o166_6 P) .nil .nil) .nil)) (.node (o54_3 P) (.node (o86_3 P) (.node (o150_5 P) .nil .nil) .nil) (.node (o118_5 P) (.node (o182_7 P) .nil .nil) .nil))) (.node (o30_2 P) (.node (o46_2 P) (.node (o78_3 P) (.node (o142_5 P) .nil .nil) .nil) (.node (o110_4 P) (.node (o174_7 P) .nil .nil) .nil)) (.node (o62_3 P) (.node (o94_3 P) (.node (o158_5 P) .nil .nil) .nil) (.node (o126_5 P) (.node (o190_8 P) .nil .nil) .nil)))))))
def o3_9 (P : Params) : Obj := ⟨(.type "dict"), none, (.dict (Array.mk [⟨(PyData.keyHash P t3), (.str t3 165), (.str t45 382)⟩, ⟨(PyData.keyHash P t5), (.str t5 166), .none⟩, ⟨(PyData.keyHash P t6), (.str t6 167), .none⟩, ⟨(PyData.keyHash P t7), (.str t7 168), (.builtin "__main__.__loader__#opaque")⟩, ⟨(PyData.keyHash P t8), (.str t8 169), .none⟩, ⟨(PyData.keyHash P t9), (.str t9 170), (.ref 6)⟩, ⟨(PyData.keyHash P t10), (.str t10 171), (.ref 4)⟩, ⟨(PyData.keyHash P t11), (.str t11 173), (.str t1 172)⟩, ⟨(PyData.keyHash P t12), (.str t12 174), .none⟩, ⟨(PyData.keyHash P t13), (.str t13 193), (.ref 21)⟩, ⟨(PyData.keyHash P t14), (.str t14 235), (.ref 45)⟩, ⟨(PyData.keyHash P t30), (.str t30 266), (.ref 66)⟩, ⟨(PyData.keyHash P t31), (.str t31 273), (.ref 77)⟩, ⟨(PyData.keyHash P t32), (.str t32 280), (.ref 84)⟩, ⟨(PyData.keyHash P t33), (.str t33 290), (.ref 91)⟩, ⟨(PyData.keyHash P t34), (.str t34 296), (.ref 96)⟩, ⟨(PyData.keyHash P t35), (.str t35 303), (.ref 103)⟩, ⟨(PyData.keyHash P t44), (.str t44 323), (.ref 113)⟩, ⟨(PyData.keyHash P t46), (.str t46 381), (.ref 154)⟩, ⟨(PyData.keyHash P t47), (.str t47 385), (.bytes #[13, 10, 13, 10, 0, 13, 10, 81, 85, 73, 84, 10] 384)⟩, ⟨(PyData.keyHash P t61), (.str t61 417), (.ref 168)⟩, ⟨(PyData.keyHash P t66), (.str t66 446), (.ref 182)⟩, ⟨(PyData.keyHash P t67), (.str t67 451), (.ref 187)⟩, ⟨(PyData.keyHash P t68), (.str t68 460), (.ref 188)⟩, ⟨(PyData.keyHash P t69), (.str t69 467), (.ref 189)⟩, ⟨(PyData.keyHash P t72), (.str t72 480), (.ref 190)⟩, ⟨(PyData.keyHash P t73), (.str t73 553), (.ref 238)⟩]) 27), Array.mk []⟩
def o12_9 (P : Params) : Obj := ⟨.none, none, (.fields (Array.mk [(.int 1 0), (.int 0 0), (.ref 20), (.int 5 0), (.int 0 0), (.ref 27), (.int 15 0), (.int 0 0), (.ref 55), (.int 20 0), (.int 0 0), (.ref 76), (.int 22 0), (.int 0 0), (.ref 83), (.int 24 0), (.int 0 0), (.ref 90), (.int 36 0), (.int 0 0), (.ref 95), (.int 70 0), (.int 0 0), (.ref 102), (.int 74 0), (.int 0 0), (.ref 109), (.int 76 0), (.int 0 0), (.ref 122), (.int 105 0), (.int 0 0), (.ref 164), (.int 114 0), (.int 0 0), (.ref 178), (.int 125 0), (.int 0 0), (.ref 196)])), Array.mk []⟩
def o191_9 (P : Params) : Obj := ⟨(.type "tuple"), none, (.seq (Array.mk []) 0), Array.mk []⟩
def o192_9 (P : Params) : Obj := ⟨(.type "builtin_function_or_method"), none, (.fields (Array.mk [(.builtin "type.__prepare__"), (.type "type")])), Array.mk []⟩
def o193_9 (P : Params) : Obj := ⟨(.type "dict"), none, (.dict (Array.mk [⟨(PyData.keyHash P t16), (.str t16 488), (.str t45 382)⟩, ⟨(PyData.keyHash P t17), (.str t17 490), (.str t73 489)⟩, ⟨(PyData.keyHash P t18), (.str t18 492), (.int 125 491)⟩, ⟨(PyData.keyHash P t19), (.str t19 500), (.ref 204)⟩, ⟨(PyData.keyHash P t74), (.str t74 508), (.ref 212)⟩, ⟨(PyData.keyHash P t75), (.str t75 516), (.ref 220)⟩, ⟨(PyData.keyHash P t76), (.str t76 525), (.ref 228)⟩, ⟨(PyData.keyHash P t77), (.str t77 532), (.ref 235)⟩, ⟨(PyData.keyHash P t21), (.str t21 546), (.ref 236)⟩]) 9), Array.mk []⟩
def o194_9 (P : Params) : Obj := ⟨(.type "tuple"), none, (.seq (Array.mk []) 0), Array.mk []⟩
def o195_9 (P : Params) : Obj := ⟨.none, none, (.fields (Array.mk [(.int 127 0), (.int 4 0), (.ref 203), (.int 143 0), (.int 4 0), (.ref 210), (.int 147 0), (.int 4 0), (.ref 218), (.int 150 0), (.int 4 0), (.ref 227), (.int 154 0), (.int 4 0), (.ref 234)])), Array.mk []⟩
def o196_9 (P : Params) : Obj := ⟨(.type "code"), none, (.fields (Array.mk [(.str t73 483), (.str t73 484), (.str t1 485), (.int 125 0), (.int 0 0), (.int 0 0), (.int 0 0), (.int 0 0), (.ref 194), (.bool false), (.int 181 0), (.ref 195), .none, .none, .none, .none, (.int 486 0), (.int 125 0), (.str t1 487)])), Array.mk []⟩
def o197_9 (P : Params) : Obj := ⟨(.type "frame"), none, .plain, Array.mk [(some (.ref 196)), (some (.ref 3)), (some (.ref 193)), none, (some (.str t45 382)), none, (some (.ref 0))]⟩
def o198_9 (P : Params) : Obj := ⟨(.type "tuple"), none, (.seq (Array.mk []) 0), Array.mk []⟩
def o199_9 (P : Params) : Obj := ⟨.none, none, (.fields (Array.mk [])), Array.mk []⟩
def o200_9 (P : Params) : Obj := ⟨(.type "tuple"), none, (.seq (Array.mk [(.str t22 496), (.str t36 497)]) 0), Array.mk []⟩
def o201_9 (P : Params) : Obj := ⟨(.type "tuple"), none, (.seq (Array.mk []) 0), Array.mk []⟩
def o202_9 (P : Params) : Obj := ⟨.none, none, (.func (⟨t19, t78, (fdOf (clsSt (topSt 19) 0)).1, .stmts (fdOf (clsSt (topSt 19) 0)).2.1, (fdOf (clsSt (topSt 19) 0)).2.2, 0, [], .none, .none, .none, .none, none, .none, .none, 0⟩ : FuncData)), Array.mk []⟩
def o203_9 (P : Params) : Obj := ⟨(.type "code"), none, (.fields (Array.mk [(.str t19 493), (.str t78 494), (.str t1 495), (.int 127 0), (.int 1 0), (.int 0 0), (.int 1 0), (.int 3 0), (.ref 198), (.bool true), (.int 181 0), (.ref 199), .none, (.ref 200), (.ref 201), (.ref 202), (.int 498 0), (.int 127 0), (.str t1 499)])), Array.mk []⟩
def o204_9 (P : Params) : Obj := ⟨(.type "function"), none, (.func (⟨t19, t78, (fdOf (clsSt (topSt 19) 0)).1, .stmts (fdOf (clsSt (topSt 19) 0)).2.1, (fdOf (clsSt (topSt 19) 0)).2.2, 3, [], .none, .none, .none, (.str t45 382), none, (.ref 203), .none, 0⟩ : FuncData)), Array.mk []⟩
def o205_9 (P : Params) : Obj := ⟨(.type "tuple"), none, (.seq (Array.mk []) 0), Array.mk []⟩
def o206_9 (P : Params) : Obj := ⟨.none, none, (.fields (Array.mk [])), Array.mk []⟩
def o207_9 (P : Params) : Obj := ⟨(.type "tuple"), none, (.seq (Array.mk [(.str t22 504)]) 0), Array.mk []⟩
def o208_9 (P : Params) : Obj := ⟨(.type "tuple"), none, (.seq (Array.mk []) 0), Array.mk []⟩
def o209_9 (P : Params) : Obj := ⟨.none, none, (.func (⟨t74, t79, (fdOf (clsSt (topSt 19) 1)).1, .stmts (fdOf (clsSt (topSt 19) 1)).2.1, (fdOf (clsSt (topSt 19) 1)).2.2, 0, [], .none, .none, .none, .none, none, .none, .none, 0⟩ : FuncData)), Array.mk []⟩
def o210_9 (P : Params) : Obj := ⟨(.type "code"), none, (.fields (Array.mk [(.str t74 501), (.str t79 502), (.str t1 503), (.int 142 0), (.int 1 0), (.int 0 0), (.int 0 0), (.int 3 0), (.ref 205), (.bool true), (.int 181 0), (.ref 206), .none, (.ref 207), (.ref 208), (.ref 209), (.int 505 0), (.int 142 0), (.str t1 506)])), Array.mk []⟩
def o211_9 (P : Params) : Obj := ⟨(.type "function"), none, (.func (⟨t74, t79, (fdOf (clsSt (topSt 19) 1)).1, .stmts (fdOf (clsSt (topSt 19) 1)).2.1, (fdOf (clsSt (topSt 19) 1)).2.2, 3, [], .none, .none, .none, (.str t45 382), none, (.ref 210), .none, 0⟩ : FuncData)), Array.mk []⟩
def o212_9 (P : Params) : Obj := ⟨(.type "property"), none, (.fields (Array.mk [(.ref 211), .none, .none, .none, (.str t74 508), (.bool false)])), Array.mk []⟩
def o213_9 (P : Params) : Obj := ⟨(.type "tuple"), none, (.seq (Array.mk []) 0), Array.mk []⟩
def o214_9 (P : Params) : Obj := ⟨.none, none, (.fields (Array.mk [])), Array.mk []⟩
def o215_9 (P : Params) : Obj := ⟨(.type "tuple"), none, (.seq (Array.mk [(.str t22 512)]) 0), Array.mk []⟩
def o216_9 (P : Params) : Obj := ⟨(.type "tuple"), none, (.seq (Array.mk []) 0), Array.mk []⟩
def o217_9 (P : Params) : Obj := ⟨.none, none, (.func (⟨t75, t80, (fdOf (clsSt (topSt 19) 2)).1, .stmts (fdOf (clsSt (topSt 19) 2)).2.1, (fdOf (clsSt (topSt 19) 2)).2.2, 0, [], .none, .none, .none, .none, none, .none, .none, 0⟩ : FuncData)), Array.mk []⟩
def o218_9 (P : Params) : Obj := ⟨(.type "code"), none, (.fields (Array.mk [(.str t75 509), (.str t80 510), (.str t1 511), (.int 146 0), (.int 1 0), (.int 0 0), (.int 0 0), (.int 3 0), (.ref 213), (.bool true), (.int 181 0), (.ref 214), .none, (.ref 215), (.ref 216), (.ref 217), (.int 513 0), (.int 146 0), (.str t1 514)])), Array.mk []⟩
def o219_9 (P : Params) : Obj := ⟨(.type "function"), none, (.func (⟨t75, t80, (fdOf (clsSt (topSt 19) 2)).1, .stmts (fdOf (clsSt (topSt 19) 2)).2.1, (fdOf (clsSt (topSt 19) 2)).2.2, 3, [], .none, .none, .none, (.str t45 382), none, (.ref 218), .none, 0⟩ : FuncData)), Array.mk []⟩
def o220_9 (P : Params) : Obj := ⟨(.type "property"), none, (.fields (Array.mk [(.ref 219), .none, .none, .none, (.str t75 516), (.bool false)])), Array.mk []⟩
def o221_9 (P : Params) : Obj := ⟨(.type "tuple"), none, (.seq (Array.mk [(.bool true)]) 0), Array.mk []⟩
def o222_9 (P : Params) : Obj := ⟨(.type "tuple"), none, (.seq (Array.mk []) 0), Array.mk []⟩
def o223_9 (P : Params) : Obj := ⟨.none, none, (.fields (Array.mk [])), Array.mk []⟩
def o224_9 (P : Params) : Obj := ⟨(.type "tuple"), none, (.seq (Array.mk [(.str t22 520), (.str t81 521), (.str t82 522)]) 0), Array.mk []⟩
def o225_9 (P : Params) : Obj := ⟨(.type "tuple"), none, (.seq (Array.mk []) 0), Array.mk []⟩
def o226_9 (P : Params) : Obj := ⟨.none, none, (.func (⟨t76, t83, (fdOf (clsSt (topSt 19) 3)).1, .stmts (fdOf (clsSt (topSt 19) 3)).2.1, (fdOf (clsSt (topSt 19) 3)).2.2, 0, [], .none, .none, .none, .none, none, .none, .none, 0⟩ : FuncData)), Array.mk []⟩
def o227_9 (P : Params) : Obj := ⟨(.type "code"), none, (.fields (Array.mk [(.str t76 517), (.str t83 518), (.str t1 519), (.int 150 0), (.int 3 0), (.int 0 0), (.int 0 0), (.int 3 0), (.ref 222), (.bool true), (.int 181 0), (.ref 223), .none, (.ref 224), (.ref 225), (.ref 226), (.int 523 0), (.int 150 0), (.str t1 524)])), Array.mk []⟩
def o228_9 (P : Params) : Obj := ⟨(.type "function"), none, (.func (⟨t76, t83, (fdOf (clsSt (topSt 19) 3)).1, .stmts (fdOf (clsSt (topSt 19) 3)).2.1, (fdOf (clsSt (topSt 19) 3)).2.2, 3, [], (.ref 221), .none, .none, (.str t45 382), none, (.ref 227), .none, 0⟩ : FuncData)), Array.mk []⟩
def o229_9 (P : Params) : Obj := ⟨(.type "tuple"), none, (.seq (Array.mk []) 0), Array.mk []⟩
def o230_9 (P : Params) : Obj := ⟨.none, none, (.fields (Array.mk [])), Array.mk []⟩
def o231_9 (P : Params) : Obj := ⟨(.type "tuple"), none, (.seq (Array.mk [(.str t22 529)]) 0), Array.mk []⟩
def o232_9 (P : Params) : Obj := ⟨(.type "tuple"), none, (.seq (Array.mk []) 0), Array.mk []⟩
def o233_9 (P : Params) : Obj := ⟨.none, none, (.func (⟨t77, t84, (fdOf (clsSt (topSt 19) 4)).1, .stmts (fdOf (clsSt (topSt 19) 4)).2.1, (fdOf (clsSt (topSt 19) 4)).2.2, 0, [], .none, .none, .none, .none, none, .none, .none, 0⟩ : FuncData)), Array.mk []⟩
def o234_9 (P : Params) : Obj := ⟨(.type "code"), none, (.fields (Array.mk [(.str t77 526), (.str t84 527), (.str t1 528), (.int 154 0), (.int 1 0), (.int 0 0), (.int 0 0), (.int 3 0), (.ref 229), (.bool true), (.int 181 0), (.ref 230), .none, (.ref 231), (.ref 232), (.ref 233), (.int 530 0), (.int 154 0), (.str t1 531)])), Array.mk []⟩
def o235_9 (P : Params) : Obj := ⟨(.type "function"), none, (.func (⟨t77, t84, (fdOf (clsSt (topSt 19) 4)).1, .stmts (fdOf (clsSt (topSt 19) 4)).2.1, (fdOf (clsSt (topSt 19) 4)).2.2, 3, [], .none, .none, .none, (.str t45 382), none, (.ref 234), .none, 0⟩ : FuncData)), Array.mk []⟩
def o236_9 (P : Params) : Obj := ⟨(.type "tuple"), none, (.seq (Array.mk [(.str t85 533), (.str t86 534), (.str t87 535), (.str t88 536), (.str t89 537), (.str t90 538), (.str t91 539), (.str t92 540), (.str t93 541), (.str t94 542), (.str t95 543), (.str t36 544), (.str t96 545)]) 0), Array.mk []⟩
def o237_9 (P : Params) : Obj := ⟨(.type "dict"), none, (.dict (Array.mk [⟨(PyData.keyHash P t16), (.str t16 488), (.str t45 382)⟩, ⟨(PyData.keyHash P t18), (.str t18 492), (.int 125 491)⟩, ⟨(PyData.keyHash P t19), (.str t19 500), (.ref 204)⟩, ⟨(PyData.keyHash P t74), (.str t74 508), (.ref 212)⟩, ⟨(PyData.keyHash P t75), (.str t75 516), (.ref 220)⟩, ⟨(PyData.keyHash P t76), (.str t76 525), (.ref 228)⟩, ⟨(PyData.keyHash P t77), (.str t77 532), (.ref 235)⟩, ⟨(PyData.keyHash P t21), (.str t21 546), (.ref 236)⟩, ⟨(PyData.keyHash P t28), (.str t28 548), (.ref 239)⟩, ⟨(PyData.keyHash P t29), (.str t29 550), (.ref 240)⟩, ⟨(PyData.keyHash P t5), (.str t5 551), .none⟩]) 4), Array.mk []⟩
def o238_9 (P : Params) : Obj := ⟨(.type "type"), none, (.cls (⟨t73, [(.type "object")], [(.ref 238), (.type "object")], 237, t73, true, [], [], false, none, false⟩ : ClassData)), Array.mk [none, none, (some (.str t73 481)), (some (.str t73 489)), (some (.builtin "object.__new__")), (some (.bool true))]⟩
def o239_9 (P : Params) : Obj := ⟨(.type "getset_descriptor"), none, (.fields (Array.mk [(.str t28 547), (.ref 238), (.builtin "function.__dict__"), (.builtin "function.__dict__#set")])), Array.mk []⟩
def o240_9 (P : Params) : Obj := ⟨(.type "getset_descriptor"), none, (.fields (Array.mk [(.str t29 549), (.ref 238), (.builtin "ExceptionGroup.__weakref__"), .none])), Array.mk []⟩
def o241_9 (P : Params) : Obj := ⟨(.type "super"), none, (.fields (Array.mk [(.ref 238), (.ref 238), (.ref 238)])), Array.mk []⟩
def o242_9 (P : Params) : Obj := ⟨(.type "builtin_function_or_method"), none, (.fields (Array.mk [(.builtin "object.__init_subclass__"), (.ref 238)])), Array.mk []⟩
def tr9 (P : Params) : BT := (.node (boot_o_0 P) (.node (boot_o_1 P) (.node (o3_9 P) (.node (boot_o_7 P) (.node (o15_2 P) (.node (o31_2 P) (.node (o63_3 P) (.node (o127_5 P) .nil .nil) (.node (o191_9 P) .nil .nil)) (.node (o95_3 P) (.node (o159_6 P) .nil .nil) (.node (o223_9 P) .nil .nil))) (.node (o47_2 P) (.node (o79_3 P) (.node (o143_5 P) .nil .nil) (.node (o207_9 P) .nil .nil)) (.node (o111_4 P) (.node (o175_7 P) .nil .nil) (.node (o239_9 P) .nil .nil)))) (.node (o23_2 P) (.node (o39_2 P) (.node (o71_3 P) (.node (o135_5 P) .nil .nil) (.node (o199_9 P) .nil .nil)) (.node (o103_3 P) (.node (o167_6 P) .nil .nil) (.node (o231_9 P) .nil .nil))) (.node (o55_3 P) (.node (o87_3 P) (.node (o151_5 P) .nil .nil) (.node (o215_9 P) .nil .nil)) (.node (o119_5 P) (.node (o183_7 P) .nil .nil) .nil)))) (.node (o11_0 P) (.node (o19_2 P) (.node (o35_2 P) (.node (o67_3 P) (.node (o131_5 P) .nil .nil) (.node (o195_9 P) .nil .nil)) (.node (o99_3 P) (.node (o163_6 P) .nil .nil) (.node (o227_9 P) .nil .nil))) (.node (o51_3 P) (.node (o83_3 P) (.node (o147_5 P) .nil .nil) (.node (o211_9 P) .nil .nil)) (.node (o115_4 P) (.node (o179_7 P) .nil .nil) .nil))) (.node (o27_2 P) (.node (o43_2 P) (.node (o75_3 P) (.node (o139_5 P) .nil .nil) (.node (o203_9 P) .nil .nil)) (.node (o107_4 P) (.node (o171_6 P) .nil .nil) (.node (o235_9 P) .nil .nil))) (.node (o59_3 P) (.node (o91_3 P) (.node (o155_5 P) .nil .nil) (.node (o219_9 P) .nil .nil)) (.node (o123_5 P) (.node (o187_7 P) .nil .nil) .nil))))) (.node (boot_o_5 P) (.node (boot_o_9 P) (.node (o17_2 P) (.node (o33_2 P) (.node (o65_3 P) (.node (o129_5 P) .nil .nil) (.node (o193_9 P) .nil .nil)) (.node (o97_3 P) (.node (o161_6 P) .nil .nil) (.node (o225_9 P) .nil .nil))) (.node (o49_2 P) (.node (o81_3 P) (.node (o145_5 P) .nil .nil) (.node (o209_9 P) .nil .nil)) (.node (o113_4 P) (.node (o177_7 P) .nil .nil) (.node (o241_9 P) .nil .nil)))) (.node (o25_2 P) (.node (o41_2 P) (.node (o73_3 P) (.node (o137_5 P) .nil .nil) (.node (o201_9 P) .nil .nil)) (.node (o105_4 P) (.node (o169_6 P) .nil .nil) (.node (o233_9 P) .nil .nil))) (.node (o57_3 P) (.node (o89_3 P) (.node (o153_5 P) .nil .nil) (.node (o217_9 P) .nil .nil)) (.node (o121_5 P) (.node (o185_7 P) .nil .nil) .nil)))) (.node (o13_0 P) (.node (o21_2 P) (.node (o37_2 P) (.node (o69_3 P) (.node (o133_5 P) .nil .nil) (.node (o197_9 P) .nil .nil)) (.node (o101_3 P) (.node (o165_6 P) .nil .nil) (.node (o229_9 P) .nil .nil))) (.node (o53_3 P) (.node (o85_3 P) (.node (o149_5 P) .nil .nil) (.node (o213_9 P) .nil .nil)) (.node (o117_5 P) (.node (o181_7 P) .nil .nil) .nil))) (.node (o29_2 P) (.node (o45_2 P) (.node (o77_3 P) (.node (o141_5 P) .nil .nil) (.node (o205_9 P) .nil .nil)) (.node (o109_4 P) (.node (o173_7 P) .nil .nil) (.node (o237_9 P) .nil .nil))) (.node (o61_3 P) (.node (o93_3 P) (.node (o157_5 P) .nil .nil) (.node (o221_9 P) .nil .nil)) (.node (o125_5 P) (.node (o189_7 P) .nil .nil) .nil)))))) (.node (o2_4 P) (.node (boot_o_4 P) (.node (boot_o_8 P) (.node (o16_2 P) (.node (o32_2 P) (.node (o64_3 P) (.node (o128_5 P) .nil .nil) (.node (o192_9 P) .nil .nil)) (.node (o96_3 P) (.node (o160_6 P) .nil .nil) (.node (o224_9 P) .nil .nil))) (.node (o48_2 P) (.node (o80_3 P) (.node (o144_5 P) .nil .nil) (.node (o208_9 P) .nil .nil)) (.node (o112_4 P) (.node (o176_7 P) .nil .nil) (.node (o240_9 P) .nil .nil)))) (.node (o24_2 P) (.node (o40_2 P) (.node (o72_3 P) (.node (o136_5 P) .nil .nil) (.node (o200_9 P) .nil .nil)) (.node (o104_4 P) (.node (o168_6 P) .nil .nil) (.node (o232_9 P) .nil .nil))) (.node (o56_3 P) (.node (o88_3 P) (.node (o152_5 P) .nil .nil) (.node (o216_9 P) .nil .nil)) (.node (o120_5 P) (.node (o184_7 P) .nil .nil) .nil)))) (.node (o12_9 P) (.node (o20_2 P) (.node (o36_2 P) (.node (o68_3 P) (.node (o132_5 P) .nil .nil) (.node (o196_9 P) .nil .nil)) (.node (o100_3 P) (.node (o164_6 P) .nil .nil) (.node (o228_9 P) .nil .nil))) (.node (o52_3 P) (.node (o84_3 P) (.node (o148_5 P) .nil .nil) (.node (o212_9 P) .nil .nil)) (.node (o116_4 P) (.node (o180_7 P) .nil .nil) .nil))) (.node (o28_2 P) (.node (o44_2 P) (.node (o76_3 P) (.node (o140_5 P) .nil .nil) (.node (o204_9 P) .nil .nil)) (.node (o108_4 P) (.node (o172_6 P) .nil .nil) (.node (o236_9 P) .nil .nil))) (.node (o60_3 P) (.node (o92_3 P) (.node (o156_5 P) .nil .nil) (.node (o220_9 P) .nil .nil)) (.node (o124_5 P) (.node (o188_7 P) .nil .nil) .nil))))) (.node (boot_o_6 P) (.node (boot_o_10 P) (.node (o18_2 P) (.node (o34_2 P) (.node (o66_3 P) (.node (o130_5 P) .nil .nil) (.node (o194_9 P) .nil .nil)) (.node (o98_3 P) (.node (o162_6 P) .nil .nil) (.node (o226_9 P) .nil .nil))) (.node (o50_3 P) (.node (o82_3 P) (.node (o146_5 P) .nil .nil) (.node (o210_9 P) .nil .nil)) (.node (o114_4 P) (.node (o178_7 P) .nil .nil) (.node (o242_9 P) .nil .nil)))) (.node (o26_2 P) (.node (o42_2 P) (.node (o74_3 P) (.node (o138_5 P) .nil .nil) (.node (o202_9 P) .nil .nil)) (.node (o106_4 P) (.node (o170_6 P) .nil .nil) (.node (o234_9 P) .nil .nil))) (.node (o58_3 P) (.node (o90_3 P) (.node (o154_5 P) .nil .nil) (.node (o218_9 P) .nil .nil)) (.node (o122_5 P) (.node (o186_7 P) .nil .nil) .nil)))) (.node (o14_0 P) (.node (o22_2 P) (.node (o38_2 P) (.node (o70_3 P) (.node (o134_5 P) .nil .nil) (.node (o198_9 P) .nil .nil)) (.node (o102_3 P) (.node (o166_6 P) .nil .nil) (.node (o230_9 P) .nil .nil))) (.node (o54_3 P) (.node (o86_3 P) (.node (o150_5 P) .nil .nil) (.node (o214_9 P) .nil .nil)) (.node (o118_5 P) (.node (o182_7 P) .nil .nil) .nil))) (.node (o30_2 P) (.node (o46_2 P) (.node (o78_3 P) (.node (o142_5 P) .nil .nil) (.node (o206_9 P) .nil .nil)) (.node (o110_4 P) (.node (o174_7 P) .nil .nil) (.node (o238_9 P) .nil .nil))) (.node (o62_3 P) (.node (o94_3 P) (.node (o158_5 P) .nil .nil) (.node (o222_9 P) .nil .nil)) (.node (o126_5 P) (.node (o190_8 P) .nil .nil) .nil)))))))
def o3_10 (P : Params) : Obj := ⟨(.type "dict"), none, (.dict (Array.mk [⟨(PyData.keyHash P t3), (.str t3 165), (.str t45 382)⟩, ⟨(PyData.keyHash P t5), (.str t5 166), .none⟩, ⟨(PyData.keyHash P t6), (.str t6 167), .none⟩, ⟨(PyData.keyHash P t7), (.str t7 168), (.builtin "__main__.__loader__#opaque")⟩, ⟨(PyData.keyHash P t8), (.str t8 169), .none⟩, ⟨(PyData.keyHash P t9), (.str t9 170), (.ref 6)⟩, ⟨(PyData.keyHash P t10), (.str t10 171), (.ref 4)⟩, ⟨(PyData.keyHash P t11), (.str t11 173), (.str t1 172)⟩, ⟨(PyData.keyHash P t12), (.str t12 174), .none⟩, ⟨(PyData.keyHash P t13), (.str t13 193), (.ref 21)⟩, ⟨(PyData.keyHash P t14), (.str t14 235), (.ref 45)⟩, ⟨(PyData.keyHash P t30), (.str t30 266), (.ref 66)⟩, ⟨(PyData.keyHash P t31), (.str t31 273), (.ref 77)⟩, ⟨(PyData.keyHash P t32), (.str t32 280), (.ref 84)⟩, ⟨(PyData.keyHash P t33), (.str t33 290), (.ref 91)⟩, ⟨(PyData.keyHash P t34), (.str t34 296), (.ref 96)⟩, ⟨(PyData.keyHash P t35), (.str t35 303), (.ref 103)⟩, ⟨(PyData.keyHash P t44), (.str t44 323), (.ref 113)⟩, ⟨(PyData.keyHash P t46), (.str t46 381), (.ref 154)⟩, ⟨(PyData.keyHash P t47), (.str t47 385), (.bytes #[13, 10, 13, 10, 0, 13, 10, 81, 85, 73, 84, 10] 384)⟩, ⟨(PyData.keyHash P t61), (.str t61 417), (.ref 168)⟩, ⟨(PyData.keyHash P t66), (.str t66 446), (.ref 182)⟩, ⟨(PyData.keyHash P t67), (.str t67 451), (.ref 187)⟩, ⟨(PyData.keyHash P t68), (.str t68 460), (.ref 188)⟩, ⟨(PyData.keyHash P t69), (.str t69 467), (.ref 189)⟩, ⟨(PyData.keyHash P t72), (.str t72 480), (.ref 190)⟩, ⟨(PyData.keyHash P t73), (.str t73 553), (.ref 238)⟩, ⟨(PyData.keyHash P t97), (.str t97 563), (.ref 244)⟩, ⟨(PyData.keyHash P t98), (.str t98 573), (.ref 247)⟩, ⟨(PyData.keyHash P t99), (.str t99 592), (.ref 256)⟩, ⟨(PyData.keyHash P t100), (.str t100 620), (.ref 264)⟩, ⟨(PyData.keyHash P t101), (.str t101 628), (.ref 271)⟩]) 32), Array.mk []⟩
def o12_10 (P : Params) : Obj := ⟨.none, none, (.fields (Array.mk [(.int 1 0), (.int 0 0), (.ref 20), (.int 5 0), (.int 0 0), (.ref 27), (.int 15 0), (.int 0 0), (.ref 55), (.int 20 0), (.int 0 0), (.ref 76), (.int 22 0), (.int 0 0), (.ref 83), (.int 24 0), (.int 0 0), (.ref 90), (.int 36 0), (.int 0 0), (.ref 95), (.int 70 0), (.int 0 0), (.ref 102), (.int 74 0), (.int 0 0), (.ref 109), (.int 76 0), (.int 0 0), (.ref 122), (.int 105 0), (.int 0 0), (.ref 164), (.int 114 0), (.int 0 0), (.ref 178), (.int 125 0), (.int 0 0), (.ref 196), (.int 158 0), (.int 0 0), (.ref 255), (.int 219 0), (.int 0 0), (.ref 263), (.int 290 0), (.int 0 0), (.ref 270)])), Array.mk []⟩
def o243_10 (P : Params) : Obj := ⟨(.type "dict"), none, (.dict (Array.mk [⟨(PyData.keyHash P t23), (.str t23 560), (.str t102 554)⟩, ⟨(PyData.keyHash P t24), (.str t24 562), (.str t103 555)⟩]) 2), Array.mk []⟩
def o244_10 (P : Params) : Obj := ⟨(.ref 45), (some 243), .plain, Array.mk []⟩
def o245_10 (P : Params) : Obj := ⟨(.type "frame"), none, (.dict (Array.mk [⟨(PyData.keyHash P t22), (.str t22 556), (.ref 244)⟩, ⟨(PyData.keyHash P t23), (.str t23 557), (.str t102 554)⟩, ⟨(PyData.keyHash P t24), (.str t24 558), (.str t103 555)⟩]) 3), Array.mk []⟩
def o246_10 (P : Params) : Obj := ⟨(.type "dict"), none, (.dict (Array.mk [⟨(PyData.keyHash P t23), (.str t23 570), (.str t103 564)⟩, ⟨(PyData.keyHash P t24), (.str t24 572), (.str t104 565)⟩]) 2), Array.mk []⟩
def o247_10 (P : Params) : Obj := ⟨(.ref 45), (some 246), .plain, Array.mk []⟩
def o248_10 (P : Params) : Obj := ⟨(.type "frame"), none, (.dict (Array.mk [⟨(PyData.keyHash P t22), (.str t22 566), (.ref 247)⟩, ⟨(PyData.keyHash P t23), (.str t23 567), (.str t103 564)⟩, ⟨(PyData.keyHash P t24), (.str t24 568), (.str t104 565)⟩]) 3), Array.mk []⟩
def o249_10 (P : Params) : Obj := ⟨(.type "tuple"), none, (.seq (Array.mk [(.bytes #[] 574)]) 0), Array.mk []⟩
def o250_10 (P : Params) : Obj := ⟨(.type "tuple"), none, (.seq (Array.mk []) 0), Array.mk []⟩
def o251_10 (P : Params) : Obj := ⟨.none, none, (.fields (Array.mk [])), Array.mk []⟩
def o252_10 (P : Params) : Obj := ⟨(.type "tuple"), none, (.seq (Array.mk [(.str t105 578), (.str t106 579), (.str t107 580), (.str t51 581), (.str t108 582), (.str t109 583), (.str t110 584), (.str t111 585), (.str t93 586), (.str t87 587), (.str t112 588)]) 0), Array.mk []⟩
def o253_10 (P : Params) : Obj := ⟨(.type "tuple"), none, (.seq (Array.mk [(.str t113 589)]) 0), Array.mk []⟩
def o254_10 (P : Params) : Obj := ⟨.none, none, (.func (⟨t99, t99, (fdOf (topSt 22)).1, .stmts (fdOf (topSt 22)).2.1, (fdOf (topSt 22)).2.2, 0, [], .none, .none, .none, .none, none, .none, .none, 0⟩ : FuncData)), Array.mk []⟩
def o255_10 (P : Params) : Obj := ⟨(.type "code"), none, (.fields (Array.mk [(.str t99 575), (.str t99 576), (.str t1 577), (.int 158 0), (.int 2 0), (.int 0 0), (.int 0 0), (.int 3 0), (.ref 250), (.bool true), (.int 181 0), (.ref 251), .none, (.ref 252), (.ref 253), (.ref 254), (.int 590 0), (.int 158 0), (.str t1 591)])), Array.mk []⟩
def o256_10 (P : Params) : Obj := ⟨(.type "function"), none, (.func (⟨t99, t99, (fdOf (topSt 22)).1, .stmts (fdOf (topSt 22)).2.1, (fdOf (topSt 22)).2.2, 3, [], (.ref 249), .none, .none, (.str t45 382), none, (.ref 255), .none, 0⟩ : FuncData)), Array.mk []⟩
def o257_10 (P : Params) : Obj := ⟨(.type "tuple"), none, (.seq (Array.mk [(.bytes #[] 593)]) 0), Array.mk []⟩
def o258_10 (P : Params) : Obj := ⟨(.type "tuple"), none, (.seq (Array.mk []) 0), Array.mk []⟩
def o259_10 (P : Params) : Obj := ⟨.none, none, (.fields (Array.mk [])), Array.mk []⟩
def o260_10 (P : Params) : Obj := ⟨(.type "tuple"), none, (.seq (Array.mk [(.str t105 597), (.str t106 598), (.str t107 599), (.str t96 600), (.str t114 601), (.str t115 602), (.str t116 603), (.str t117 604), (.str t118 605), (.str t119 606), (.str t120 607), (.str t121 608), (.str t55 609), (.str t122 610), (.str t123 611), (.str t124 612), (.str t125 613), (.str t126 614), (.str t127 615), (.str t128 616)]) 0), Array.mk []⟩
def o261_10 (P : Params) : Obj := ⟨(.type "tuple"), none, (.seq (Array.mk [(.str t105 617)]) 0), Array.mk []⟩
def o262_10 (P : Params) : Obj := ⟨.none, none, (.func (⟨t100, t100, (fdOf (topSt 23)).1, .stmts (fdOf (topSt 23)).2.1, (fdOf (topSt 23)).2.2, 0, [], .none, .none, .none, .none, none, .none, .none, 0⟩ : FuncData)), Array.mk []⟩
def o263_10 (P : Params) : Obj := ⟨(.type "code"), none, (.fields (Array.mk [(.str t100 594), (.str t100 595), (.str t1 596), (.int 219 0), (.int 2 0), (.int 0 0), (.int 0 0), (.int 3 0), (.ref 258), (.bool true), (.int 181 0), (.ref 259), .none, (.ref 260), (.ref 261), (.ref 262), (.int 618 0), (.int 219 0), (.str t1 619)])), Array.mk []⟩
def o264_10 (P : Params) : Obj := ⟨(.type "function"), none, (.func (⟨t100, t100, (fdOf (topSt 23)).1, .stmts (fdOf (topSt 23)).2.1, (fdOf (topSt 23)).2.2, 3, [], (.ref 257), .none, .none, (.str t45 382), none, (.ref 263), .none, 0⟩ : FuncData)), Array.mk []⟩
def o265_10 (P : Params) : Obj := ⟨(.type "tuple"), none, (.seq (Array.mk []) 0), Array.mk []⟩
def o266_10 (P : Params) : Obj := ⟨.none, none, (.fields (Array.mk [])), Array.mk []⟩
def o267_10 (P : Params) : Obj := ⟨(.type "tuple"), none, (.seq (Array.mk [(.str t129 624), (.str t115 625)]) 0), Array.mk []⟩
def o268_10 (P : Params) : Obj := ⟨(.type "tuple"), none, (.seq (Array.mk []) 0), Array.mk []⟩
def o269_10 (P : Params) : Obj := ⟨.none, none, (.func (⟨t101, t101, (fdOf (topSt 24)).1, .stmts (fdOf (topSt 24)).2.1, (fdOf (topSt 24)).2.2, 0, [], .none, .none, .none, .none, none, .none, .none, 0⟩ : FuncData)), Array.mk []⟩
def o270_10 (P : Params) : Obj := ⟨(.type "code"), none, (.fields (Array.mk [(.str t101 621), (.str t101 622), (.str t1 623), (.int 290 0), (.int 1 0), (.int 0 0), (.int 0 0), (.int 3 0), (.ref 265), (.bool true), (.int 181 0), (.ref 266), .none, (.ref 267), (.ref 268), (.ref 269), (.int 626 0), (.int 290 0), (.str t1 627)])), Array.mk []⟩
def o271_10 (P : Params) : Obj := ⟨(.type "function"), none, (.func (⟨t101, t101, (fdOf (topSt 24)).1, .stmts (fdOf (topSt 24)).2.1, (fdOf (topSt 24)).2.2, 3, [], .none, .none, .none, (.str t45 382), none, (.ref 270), .none, 0⟩ : FuncData)), Array.mk []⟩
def tr10 (P : Params) : BT := (.node (boot_o_0 P) (.node (boot_o_1 P) (.node (o3_10 P) (.node (boot_o_7 P) (.node (o15_2 P) (.node (o31_2 P) (.node (o63_3 P) (.node (o127_5 P) (.node (o255_10 P) .nil .nil) .nil) (.node (o191_9 P) .nil .nil)) (.node (o95_3 P) (.node (o159_6 P) .nil .nil) (.node (o223_9 P) .nil .nil))) (.node (o47_2 P) (.node (o79_3 P) (.node (o143_5 P) (.node (o271_10 P) .nil .nil) .nil) (.node (o207_9 P) .nil .nil)) (.node (o111_4 P) (.node (o175_7 P) .nil .nil) (.node (o239_9 P) .nil .nil)))) (.node (o23_2 P) (.node (o39_2 P) (.node (o71_3 P) (.node (o135_5 P) (.node (o263_10 P) .nil .nil) .nil) (.node (o199_9 P) .nil .nil)) (.node (o103_3 P) (.node (o167_6 P) .nil .nil) (.node (o231_9 P) .nil .nil))) (.node (o55_3 P) (.node (o87_3 P) (.node (o151_5 P) .nil .nil) (.node (o215_9 P) .nil .nil)) (.node (o119_5 P) (.node (o183_7 P) .nil .nil) (.node (o247_10 P) .nil .nil))))) (.node (o11_0 P) (.node (o19_2 P) (.node (o35_2 P) (.node (o67_3 P) (.node (o131_5 P) (.node (o259_10 P) .nil .nil) .nil) (.node (o195_9 P) .nil .nil)) (.node (o99_3 P) (.node (o163_6 P) .nil .nil) (.node (o227_9 P) .nil .nil))) (.node (o51_3 P) (.node (o83_3 P) (.node (o147_5 P) .nil .nil) (.node (o211_9 P) .nil .nil)) (.node (o115_4 P) (.node (o179_7 P) .nil .nil) (.node (o243_10 P) .nil .nil)))) (.node (o27_2 P) (.node (o43_2 P) (.node (o75_3 P) (.node (o139_5 P) (.node (o267_10 P) .nil .nil) .nil) (.node (o203_9 P) .nil .nil)) (.node (o107_4 P) (.node (o171_6 P) .nil .nil) (.node (o235_9 P) .nil .nil))) (.node (o59_3 P) (.node (o91_3 P) (.node (o155_5 P) .nil .nil) (.node (o219_9 P) .nil .nil)) (.node (o123_5 P) (.node (o187_7 P) .nil .nil) (.node (o251_10 P) .nil .nil)))))) (.node (boot_o_5 P) (.node (boot_o_9 P) (.node (o17_2 P) (.node (o33_2 P) (.node (o65_3 P) (.node (o129_5 P) (.node (o257_10 P) .nil .nil) .nil) (.node (o193_9 P) .nil .nil)) (.node (o97_3 P) (.node (o161_6 P) .nil .nil) (.node (o225_9 P) .nil .nil))) (.node (o49_2 P) (.node (o81_3 P) (.node (o145_5 P) .nil .nil) (.node (o209_9 P) .nil .nil)) (.node (o113_4 P) (.node (o177_7 P) .nil .nil) (.node (o241_9 P) .nil .nil)))) (.node (o25_2 P) (.node (o41_2 P) (.node (o73_3 P) (.node (o137_5 P) (.node (o265_10 P) .nil .nil) .nil) (.node (o201_9 P) .nil .nil)) (.node (o105_4 P) (.node (o169_6 P) .nil .nil) (.node (o233_9 P) .nil .nil))) (.node (o57_3 P) (.node (o89_3 P) (.node (o153_5 P) .nil .nil) (.node (o217_9 P) .nil .nil)) (.node (o121_5 P) (.node (o185_7 P) .nil .nil) (.node (o249_10 P) .nil .nil))))) (.node (o13_0 P) (.node (o21_2 P) (.node (o37_2 P) (.node (o69_3 P) (.node (o133_5 P) (.node (o261_10 P) .nil .nil) .nil) (.node (o197_9 P) .nil .nil)) (.node (o101_3 P) (.node (o165_6 P) .nil .nil) (.node (o229_9 P) .nil .nil))) (.node (o53_3 P) (.node (o85_3 P) (.node (o149_5 P) .nil .nil) (.node (o213_9 P) .nil .nil)) (.node (o117_5 P) (.node (o181_7 P) .nil .nil) (.node (o245_10 P) .nil .nil)))) (.node (o29_2 P) (.node (o45_2 P) (.node (o77_3 P) (.node (o141_5 P) (.node (o269_10 P) .nil .nil) .nil) (.node (o205_9 P) .nil .nil)) (.node (o109_4 P) (.node (o173_7 P) .nil .nil) (.node (o237_9 P) .nil .nil))) (.node (o61_3 P) (.node (o93_3 P) (.node (o157_5 P) .nil .nil) (.node (o221_9 P) .nil .nil)) (.node (o125_5 P) (.node (o189_7 P) .nil .nil) (.node (o253_10 P) .nil .nil))))))) (.node (o2_4 P) (.node (boot_o_4 P) (.node (boot_o_8 P) (.node (o16_2 P) (.node (o32_2 P) (.node (o64_3 P) (.node (o128_5 P) (.node (o256_10 P) .nil .nil) .nil) (.node (o192_9 P) .nil .nil)) (.node (o96_3 P) (.node (o160_6 P) .nil .nil) (.node (o224_9 P) .nil .nil))) (.node (o48_2 P) (.node (o80_3 P) (.node (o144_5 P) .nil .nil) (.node (o208_9 P) .nil .nil)) (.node (o112_4 P) (.node (o176_7 P) .nil .nil) (.node (o240_9 P) .nil .nil)))) (.node (o24_2 P) (.node (o40_2 P) (.node (o72_3 P) (.node (o136_5 P) (.node (o264_10 P) .nil .nil) .nil) (.node (o200_9 P) .nil .nil)) (.node (o104_4 P) (.node (o168_6 P) .nil .nil) (.node (o232_9 P) .nil .nil))) (.node (o56_3 P) (.node (o88_3 P) (.node (o152_5 P) .nil .nil) (.node (o216_9 P) .nil .nil)) (.node (o120_5 P) (.node (o184_7 P) .nil .nil) (.node (o248_10 P) .nil .nil))))) (.node (o12_10 P) (.node (o20_2 P) (.node (o36_2 P) (.node (o68_3 P) (.node (o132_5 P) (.node (o260_10 P) .nil .nil) .nil) (.node (o196_9 P) .nil .nil)) (.node (o100_3 P) (.node (o164_6 P) .nil .nil) (.node (o228_9 P) .nil .nil))) (.node (o52_3 P) (.node (o84_3 P) (.node (o148_5 P) .nil .nil) (.node (o212_9 P) .nil .nil)) (.node (o116_4 P) (.node (o180_7 P) .nil .nil) (.node (o244_10 P) .nil .nil)))) (.node (o28_2 P) (.node (o44_2 P) (.node (o76_3 P) (.node (o140_5 P) (.node (o268_10 P) .nil .nil) .nil) (.node (o204_9 P) .nil .nil)) (.node (o108_4 P) (.node (o172_6 P) .nil .nil) (.node (o236_9 P) .nil .nil))) (.node (o60_3 P) (.node (o92_3 P) (.node (o156_5 P) .nil .nil) (.node (o220_9 P) .nil .nil)) (.node (o124_5 P) (.node (o188_7 P) .nil .nil) (.node (o252_10 P) .nil .nil)))))) (.node (boot_o_6 P) (.node (boot_o_10 P) (.node (o18_2 P) (.node (o34_2 P) (.node (o66_3 P) (.node (o130_5 P) (.node (o258_10 P) .nil .nil) .nil) (.node (o194_9 P) .nil .nil)) (.node (o98_3 P) (.node (o162_6 P) .nil .nil) (.node (o226_9 P) .nil .nil))) (.node (o50_3 P) (.node (o82_3 P) (.node (o146_5 P) .nil .nil) (.node (o210_9 P) .nil .nil)) (.node (o114_4 P) (.node (o178_7 P) .nil .nil) (.node (o242_9 P) .nil .nil)))) (.node (o26_2 P) (.node (o42_2 P) (.node (o74_3 P) (.node (o138_5 P) (.node (o266_10 P) .nil .nil) .nil) (.node (o202_9 P) .nil .nil)) (.node (o106_4 P) (.node (o170_6 P) .nil .nil) (.node (o234_9 P) .nil .nil))) (.node (o58_3 P) (.node (o90_3 P) (.node (o154_5 P) .nil .nil) (.node (o218_9 P) .nil .nil)) (.node (o122_5 P) (.node (o186_7 P) .nil .nil) (.node (o250_10 P) .nil .nil))))) (.node (o14_0 P) (.node (o22_2 P) (.node (o38_2 P) (.node (o70_3 P) (.node (o134_5 P) (.node (o262_10 P) .nil .nil) .nil) (.node (o198_9 P) .nil .nil)) (.node (o102_3 P) (.node (o166_6 P) .nil .nil) (.node (o230_9 P) .nil .nil))) (.node (o54_3 P) (.node (o86_3 P) (.node (o150_5 P) .nil .nil) (.node (o214_9 P) .nil .nil)) (.node (o118_5 P) (.node (o182_7 P) .nil .nil) (.node (o246_10 P) .nil .nil)))) (.node (o30_2 P) (.node (o46_2 P) (.node (o78_3 P) (.node (o142_5 P) (.node (o270_10 P) .nil .nil) .nil) (.node (o206_9 P) .nil .nil)) (.node (o110_4 P) (.node (o174_7 P) .nil .nil) (.node (o238_9 P) .nil .nil))) (.node (o62_3 P) (.node (o94_3 P) (.node (o158_5 P) .nil .nil) (.node (o222_9 P) .nil .nil)) (.node (o126_5 P) (.node (o190_8 P) .nil .nil) (.node (o254_10 P) .nil .nil))))))))
def o3_11 (P : Params) : Obj := ⟨(.type "dict"), none, (.dict (Array.mk [⟨(PyData.keyHash P t3), (.str t3 165), (.str t130 629)⟩, ⟨(PyData.keyHash P t5), (.str t5 166), .none⟩, ⟨(PyData.keyHash P t6), (.str t6 167), .none⟩, ⟨(PyData.keyHash P t7), (.str t7 168), (.builtin "__main__.__loader__#opaque")⟩, ⟨(PyData.keyHash P t8), (.str t8 169), .none⟩, ⟨(PyData.keyHash P t9), (.str t9 170), (.ref 6)⟩, ⟨(PyData.keyHash P t10), (.str t10 171), (.ref 4)⟩, ⟨(PyData.keyHash P t11), (.str t11 173), (.str t1 172)⟩, ⟨(PyData.keyHash P t12), (.str t12 174), .none⟩, ⟨(PyData.keyHash P t13), (.str t13 193), (.ref 21)⟩, ⟨(PyData.keyHash P t14), (.str t14 235), (.ref 45)⟩, ⟨(PyData.keyHash P t30), (.str t30 266), (.ref 66)⟩, ⟨(PyData.keyHash P t31), (.str t31 273), (.ref 77)⟩, ⟨(PyData.keyHash P t32), (.str t32 280), (.ref 84)⟩, ⟨(PyData.keyHash P t33), (.str t33 290), (.ref 91)⟩, ⟨(PyData.keyHash P t34), (.str t34 296), (.ref 96)⟩, ⟨(PyData.keyHash P t35), (.str t35 303), (.ref 103)⟩, ⟨(PyData.keyHash P t44), (.str t44 323), (.ref 113)⟩, ⟨(PyData.keyHash P t46), (.str t46 381), (.ref 154)⟩, ⟨(PyData.keyHash P t47), (.str t47 385), (.bytes #[13, 10, 13, 10, 0, 13, 10, 81, 85, 73, 84, 10] 384)⟩, ⟨(PyData.keyHash P t61), (.str t61 417), (.ref 168)⟩, ⟨(PyData.keyHash P t66), (.str t66 446), (.ref 182)⟩, ⟨(PyData.keyHash P t67), (.str t67 451), (.ref 187)⟩, ⟨(PyData.keyHash P t68), (.str t68 460), (.ref 188)⟩, ⟨(PyData.keyHash P t69), (.str t69 467), (.ref 189)⟩, ⟨(PyData.keyHash P t72), (.str t72 480), (.ref 190)⟩, ⟨(PyData.keyHash P t73), (.str t73 553), (.ref 238)⟩, ⟨(PyData.keyHash P t97), (.str t97 563), (.ref 244)⟩, ⟨(PyData.keyHash P t98), (.str t98 573), (.ref 247)⟩, ⟨(PyData.keyHash P t99), (.str t99 592), (.ref 256)⟩, ⟨(PyData.keyHash P t100), (.str t100 620), (.ref 264)⟩, ⟨(PyData.keyHash P t101), (.str t101 628), (.ref 271)⟩, ⟨(PyData.keyHash P t131), (.str t131 635), (.ref 272)⟩, ⟨(PyData.keyHash P t132), (.str t132 641), (.ref 277)⟩, ⟨(PyData.keyHash P t133), (.str t133 653), (.ref 284)⟩, ⟨(PyData.keyHash P t134), (.str t134 659), (.ref 289)⟩, ⟨(PyData.keyHash P t135), (.str t135 674), (.ref 296)⟩]) 37), Array.mk []⟩
def o12_11 (P : Params) : Obj := ⟨.none, none, (.fields (Array.mk [(.int 1 0), (.int 0 0), (.ref 20), (.int 5 0), (.int 0 0), (.ref 27), (.int 15 0), (.int 0 0), (.ref 55), (.int 20 0), (.int 0 0), (.ref 76), (.int 22 0), (.int 0 0), (.ref 83), (.int 24 0), (.int 0 0), (.ref 90), (.int 36 0), (.int 0 0), (.ref 95), (.int 70 0), (.int 0 0), (.ref 102), (.int 74 0), (.int 0 0), (.ref 109), (.int 76 0), (.int 0 0), (.ref 122), (.int 105 0), (.int 0 0), (.ref 164), (.int 114 0), (.int 0 0), (.ref 178), (.int 125 0), (.int 0 0), (.ref 196), (.int 158 0), (.int 0 0), (.ref 255), (.int 219 0), (.int 0 0), (.ref 263), (.int 290 0), (.int 0 0), (.ref 270), (.int 303 0), (.int 0 0), (.ref 276), (.int 318 0), (.int 0 0), (.ref 283), (.int 331 0), (.int 0 0), (.ref 288), (.int 346 0), (.int 0 0), (.ref 295)])), Array.mk []⟩
def o272_11 (P : Params) : Obj := ⟨(.type "tuple"), none, (.seq (Array.mk [(.int 0 631), (.int 12 632), (.int 36 633), (.int 216 634)]) 0), Array.mk []⟩
def o273_11 (P : Params) : Obj := ⟨(.type "tuple"), none, (.seq (Array.mk []) 0), Array.mk []⟩
def o274_11 (P : Params) : Obj := ⟨.none, none, (.fields (Array.mk [])), Array.mk []⟩
def o275_11 (P : Params) : Obj := ⟨.none, none, (.func (⟨t132, t132, (fdOf (topSt 27)).1, .stmts (fdOf (topSt 27)).2.1, (fdOf (topSt 27)).2.2, 0, [], .none, .none, .none, .none, none, .none, .none, 0⟩ : FuncData)), Array.mk []⟩
def o276_11 (P : Params) : Obj := ⟨(.type "code"), none, (.fields (Array.mk [(.str t132 636), (.str t132 637), (.str t1 638), (.int 303 0), (.int 2 0), (.int 0 0), (.int 0 0), (.int 3 0), (.ref 273), (.bool true), (.int 181 0), (.ref 274), .none, .none, .none, (.ref 275), (.int 639 0), (.int 303 0), (.str t1 640)])), Array.mk []⟩
def o277_11 (P : Params) : Obj := ⟨(.type "function"), none, (.func (⟨t132, t132, (fdOf (topSt 27)).1, .stmts (fdOf (topSt 27)).2.1, (fdOf (topSt 27)).2.2, 3, [], .none, .none, .none, (.str t130 629), none, (.ref 276), .none, 0⟩ : FuncData)), Array.mk []⟩
def o278_11 (P : Params) : Obj := ⟨(.type "tuple"), none, (.seq (Array.mk []) 0), Array.mk []⟩
def o279_11 (P : Params) : Obj := ⟨.none, none, (.fields (Array.mk [])), Array.mk []⟩
def o280_11 (P : Params) : Obj := ⟨(.type "tuple"), none, (.seq (Array.mk [(.str t40 645), (.str t86 646), (.str t90 647), (.str t91 648), (.str t136 649), (.str t137 650)]) 0), Array.mk []⟩
def o281_11 (P : Params) : Obj := ⟨(.type "tuple"), none, (.seq (Array.mk []) 0), Array.mk []⟩
def o282_11 (P : Params) : Obj := ⟨.none, none, (.func (⟨t133, t133, (fdOf (topSt 28)).1, .stmts (fdOf (topSt 28)).2.1, (fdOf (topSt 28)).2.2, 0, [], .none, .none, .none, .none, none, .none, .none, 0⟩ : FuncData)), Array.mk []⟩
def o283_11 (P : Params) : Obj := ⟨(.type "code"), none, (.fields (Array.mk [(.str t133 642), (.str t133 643), (.str t1 644), (.int 318 0), (.int 1 0), (.int 0 0), (.int 0 0), (.int 3 0), (.ref 278), (.bool true), (.int 181 0), (.ref 279), .none, (.ref 280), (.ref 281), (.ref 282), (.int 651 0), (.int 318 0), (.str t1 652)])), Array.mk []⟩
def o284_11 (P : Params) : Obj := ⟨(.type "function"), none, (.func (⟨t133, t133, (fdOf (topSt 28)).1, .stmts (fdOf (topSt 28)).2.1, (fdOf (topSt 28)).2.2, 3, [], .none, .none, .none, (.str t130 629), none, (.ref 283), .none, 0⟩ : FuncData)), Array.mk []⟩
def o285_11 (P : Params) : Obj := ⟨(.type "tuple"), none, (.seq (Array.mk []) 0), Array.mk []⟩
def o286_11 (P : Params) : Obj := ⟨.none, none, (.fields (Array.mk [])), Array.mk []⟩
def o287_11 (P : Params) : Obj := ⟨.none, none, (.func (⟨t134, t134, (fdOf (topSt 29)).1, .stmts (fdOf (topSt 29)).2.1, (fdOf (topSt 29)).2.2, 0, [], .none, .none, .none, .none, none, .none, .none, 0⟩ : FuncData)), Array.mk []⟩
def o288_11 (P : Params) : Obj := ⟨(.type "code"), none, (.fields (Array.mk [(.str t134 654), (.str t134 655), (.str t1 656), (.int 331 0), (.int 4 0), (.int 0 0), (.int 0 0), (.int 3 0), (.ref 285), (.bool true), (.int 181 0), (.ref 286), .none, .none, .none, (.ref 287), (.int 657 0), (.int 331 0), (.str t1 658)])), Array.mk []⟩
def o289_11 (P : Params) : Obj := ⟨(.type "function"), none, (.func (⟨t134, t134, (fdOf (topSt 29)).1, .stmts (fdOf (topSt 29)).2.1, (fdOf (topSt 29)).2.2, 3, [], .none, .none, .none, (.str t130 629), none, (.ref 288), .none, 0⟩ : FuncData)), Array.mk []⟩
def o290_11 (P : Params) : Obj := ⟨(.type "tuple"), none, (.seq (Array.mk []) 0), Array.mk []⟩
def o291_11 (P : Params) : Obj := ⟨.none, none, (.fields (Array.mk [])), Array.mk []⟩
def o292_11 (P : Params) : Obj := ⟨(.type "tuple"), none, (.seq (Array.mk [(.str t138 663), (.str t139 664), (.str t140 665), (.str t141 666), (.str t40 667), (.str t142 668), (.str t105 669), (.str t143 670), (.str t144 671)]) 0), Array.mk []⟩
def o293_11 (P : Params) : Obj := ⟨(.type "tuple"), none, (.seq (Array.mk []) 0), Array.mk []⟩
def o294_11 (P : Params) : Obj := ⟨.none, none, (.func (⟨t135, t135, (fdOf (topSt 30)).1, .stmts (fdOf (topSt 30)).2.1, (fdOf (topSt 30)).2.2, 0, [], .none, .none, .none, .none, none, .none, .none, 0⟩ : FuncData)), Array.mk []⟩
def o295_11 (P : Params) : Obj := ⟨(.type "code"), none, (.fields (Array.mk [(.str t135 660), (.str t135 661), (.str t1 662), (.int 346 0), (.int 1 0), (.int 0 0), (.int 0 0), (.int 3 0), (.ref 290), (.bool true), (.int 181 0), (.ref 291), .none, (.ref 292), (.ref 293), (.ref 294), (.int 672 0), (.int 346 0), (.str t1 673)])), Array.mk []⟩
def o296_11 (P : Params) : Obj := ⟨(.type "function"), none, (.func (⟨t135, t135, (fdOf (topSt 30)).1, .stmts (fdOf (topSt 30)).2.1, (fdOf (topSt 30)).2.2, 3, [], .none, .none, .none, (.str t130 629), none, (.ref 295), .none, 0⟩ : FuncData)), Array.mk []⟩
def tr11 (P : Params) : BT := (.node (boot_o_0 P) (.node (boot_o_1 P) (.node (o3_11 P) (.node (boot_o_7 P) (.node (o15_2 P) (.node (o31_2 P) (.node (o63_3 P) (.node (o127_5 P) (.node (o255_10 P) .nil .nil) .nil) (.node (o191_9 P) .nil .nil)) (.node (o95_3 P) (.node (o159_6 P) (.node (o287_11 P) .nil .nil) .nil) (.node (o223_9 P) .nil .nil))) (.node (o47_2 P) (.node (o79_3 P) (.node (o143_5 P) (.node (o271_10 P) .nil .nil) .nil) (.node (o207_9 P) .nil .nil)) (.node (o111_4 P) (.node (o175_7 P) .nil .nil) (.node (o239_9 P) .nil .nil)))) (.node (o23_2 P) (.node (o39_2 P) (.node (o71_3 P) (.node (o135_5 P) (.node (o263_10 P) .nil .nil) .nil) (.node (o199_9 P) .nil .nil)) (.node (o103_3 P) (.node (o167_6 P) (.node (o295_11 P) .nil .nil) .nil) (.node (o231_9 P) .nil .nil))) (.node (o55_3 P) (.node (o87_3 P) (.node (o151_5 P) (.node (o279_11 P) .nil .nil) .nil) (.node (o215_9 P) .nil .nil)) (.node (o119_5 P) (.node (o183_7 P) .nil .nil) (.node (o247_10 P) .nil .nil))))) (.node (o11_0 P) (.node (o19_2 P) (.node (o35_2 P) (.node (o67_3 P) (.node (o131_5 P) (.node (o259_10 P) .nil .nil) .nil) (.node (o195_9 P) .nil .nil)) (.node (o99_3 P) (.node (o163_6 P) (.node (o291_11 P) .nil .nil) .nil) (.node (o227_9 P) .nil .nil))) (.node (o51_3 P) (.node (o83_3 P) (.node (o147_5 P) (.node (o275_11 P) .nil .nil) .nil) (.node (o211_9 P) .nil .nil)) (.node (o115_4 P) (.node (o179_7 P) .nil .nil) (.node (o243_10 P) .nil .nil)))) (.node (o27_2 P) (.node (o43_2 P) (.node (o75_3 P) (.node (o139_5 P) (.node (o267_10 P) .nil .nil) .nil) (.node (o203_9 P) .nil .nil)) (.node (o107_4 P) (.node (o171_6 P) .nil .nil) (.node (o235_9 P) .nil .nil))) (.node (o59_3 P) (.node (o91_3 P) (.node (o155_5 P) (.node (o283_11 P) .nil .nil) .nil) (.node (o219_9 P) .nil .nil)) (.node (o123_5 P) (.node (o187_7 P) .nil .nil) (.node (o251_10 P) .nil .nil)))))) (.node (boot_o_5 P) (.node (boot_o_9 P) (.node (o17_2 P) (.node (o33_2 P) (.node (o65_3 P) (.node (o129_5 P) (.node (o257_10 P) .nil .nil) .nil) (.node (o193_9 P) .nil .nil)) (.node (o97_3 P) (.node (o161_6 P) (.node (o289_11 P) .nil .nil) .nil) (.node (o225_9 P) .nil .nil))) (.node (o49_2 P) (.node (o81_3 P) (.node (o145_5 P) (.node (o273_11 P) .nil .nil) .nil) (.node (o209_9 P) .nil .nil)) (.node (o113_4 P) (.node (o177_7 P) .nil .nil) (.node (o241_9 P) .nil .nil)))) (.node (o25_2 P) (.node (o41_2 P) (.node (o73_3 P) (.node (o137_5 P) (.node (o265_10 P) .nil .nil) .nil) (.node (o201_9 P) .nil .nil)) (.node (o105_4 P) (.node (o169_6 P) .nil .nil) (.node (o233_9 P) .nil .nil))) (.node (o57_3 P) (.node (o89_3 P) (.node (o153_5 P) (.node (o281_11 P) .nil .nil) .nil) (.node (o217_9 P) .nil .nil)) (.node (o121_5 P) (.node (o185_7 P) .nil .nil) (.node (o249_10 P) .nil .nil))))) (.node (o13_0 P) (.node (o21_2 P) (.node (o37_2 P) (.node (o69_3 P) (.node (o133_5 P) (.node (o261_10 P) .nil .nil) .nil) (.node (o197_9 P) .nil .nil)) (.node (o101_3 P) (.node (o165_6 P) (.node (o293_11 P) .nil .nil) .nil) (.node (o229_9 P) .nil .nil))) (.node (o53_3 P) (.node (o85_3 P) (.node (o149_5 P) (.node (o277_11 P) .nil .nil) .nil) (.node (o213_9 P) .nil .nil)) (.node (o117_5 P) (.node (o181_7 P) .nil .nil) (.node (o245_10 P) .nil .nil)))) (.node (o29_2 P) (.node (o45_2 P) (.node (o77_3 P) (.node (o141_5 P) (.node (o269_10 P) .nil .nil) .nil) (.node (o205_9 P) .nil .nil)) (.node (o109_4 P) (.node (o173_7 P) .nil .nil) (.node (o237_9 P) .nil .nil))) (.node (o61_3 P) (.node (o93_3 P) (.node (o157_5 P) (.node (o285_11 P) .nil .nil) .nil) (.node (o221_9 P) .nil .nil)) (.node (o125_5 P) (.node (o189_7 P) .nil .nil) (.node (o253_10 P) .nil .nil))))))) (.node (o2_4 P) (.node (boot_o_4 P) (.node (boot_o_8 P) (.node (o16_2 P) (.node (o32_2 P) (.node (o64_3 P) (.node (o128_5 P) (.node (o256_10 P) .nil .nil) .nil) (.node (o192_9 P) .nil .nil)) (.node (o96_3 P) (.node (o160_6 P) (.node (o288_11 P) .nil .nil) .nil) (.node (o224_9 P) .nil .nil))) (.node (o48_2 P) (.node (o80_3 P) (.node (o144_5 P) (.node (o272_11 P) .nil .nil) .nil) (.node (o208_9 P) .nil .nil)) (.node (o112_4 P) (.node (o176_7 P) .nil .nil) (.node (o240_9 P) .nil .nil)))) (.node (o24_2 P) (.node (o40_2 P) (.node (o72_3 P) (.node (o136_5 P) (.node (o264_10 P) .nil .nil) .nil) (.node (o200_9 P) .nil .nil)) (.node (o104_4 P) (.node (o168_6 P) (.node (o296_11 P) .nil .nil) .nil) (.node (o232_9 P) .nil .nil))) (.node (o56_3 P) (.node (o88_3 P) (.node (o152_5 P) (.node (o280_11 P) .nil .nil) .nil) (.node (o216_9 P) .nil .nil)) (.node (o120_5 P) (.node (o184_7 P) .nil .nil) (.node (o248_10 P) .nil .nil))))) (.node (o12_11 P) (.node (o20_2 P) (.node (o36_2 P) (.node (o68_3 P) (.node (o132_5 P) (.node (o260_10 P) .nil .nil) .nil) (.node (o196_9 P) .nil .nil)) (.node (o100_3 P) (.node (o164_6 P) (.node (o292_11 P) .nil .nil) .nil) (.node (o228_9 P) .nil .nil))) (.node (o52_3 P) (.node (o84_3 P) (.node (o148_5 P) (.node (o276_11 P) .nil .nil) .nil) (.node (o212_9 P) .nil .nil)) (.node (o116_4 P) (.node (o180_7 P) .nil .nil) (.node (o244_10 P) .nil .nil)))) (.node (o28_2 P) (.node (o44_2 P) (.node (o76_3 P) (.node (o140_5 P) (.node (o268_10 P) .nil .nil) .nil) (.node (o204_9 P) .nil .nil)) (.node (o108_4 P) (.node (o172_6 P) .nil .nil) (.node (o236_9 P) .nil .nil))) (.node (o60_3 P) (.node (o92_3 P) (.node (o156_5 P) (.node (o284_11 P) .nil .nil) .nil) (.node (o220_9 P) .nil .nil)) (.node (o124_5 P) (.node (o188_7 P) .nil .nil) (.node (o252_10 P) .nil .nil)))))) (.node (boot_o_6 P) (.node (boot_o_10 P) (.node (o18_2 P) (.node (o34_2 P) (.node (o66_3 P) (.node (o130_5 P) (.node (o258_10 P) .nil .nil) .nil) (.node (o194_9 P) .nil .nil)) (.node (o98_3 P) (.node (o162_6 P) (.node (o290_11 P) .nil .nil) .nil) (.node (o226_9 P) .nil .nil))) (.node (o50_3 P) (.node (o82_3 P) (.node (o146_5 P) (.node (o274_11 P) .nil .nil) .nil) (.node (o210_9 P) .nil .nil)) (.node (o114_4 P) (.node (o178_7 P) .nil .nil) (.node (o242_9 P) .nil .nil)))) (.node (o26_2 P) (.node (o42_2 P) (.node (o74_3 P) (.node (o138_5 P) (.node (o266_10 P) .nil .nil) .nil) (.node (o202_9 P) .nil .nil)) (.node (o106_4 P) (.node (o170_6 P) .nil .nil) (.node (o234_9 P) .nil .nil))) (.node (o58_3 P) (.node (o90_3 P) (.node (o154_5 P) (.node (o282_11 P) .nil .nil) .nil) (.node (o218_9 P) .nil .nil)) (.node (o122_5 P) (.node (o186_7 P) .nil .nil) (.node (o250_10 P) .nil .nil))))) (.node (o14_0 P) (.node (o22_2 P) (.node (o38_2 P) (.node (o70_3 P) (.node (o134_5 P) (.node (o262_10 P) .nil .nil) .nil) (.node (o198_9 P) .nil .nil)) (.node (o102_3 P) (.node (o166_6 P) (.node (o294_11 P) .nil .nil) .nil) (.node (o230_9 P) .nil .nil))) (.node (o54_3 P) (.node (o86_3 P) (.node (o150_5 P) (.node (o278_11 P) .nil .nil) .nil) (.node (o214_9 P) .nil .nil)) (.node (o118_5 P) (.node (o182_7 P) .nil .nil) (.node (o246_10 P) .nil .nil)))) (.node (o30_2 P) (.node (o46_2 P) (.node (o78_3 P) (.node (o142_5 P) (.node (o270_10 P) .nil .nil) .nil) (.node (o206_9 P) .nil .nil)) (.node (o110_4 P) (.node (o174_7 P) .nil .nil) (.node (o238_9 P) .nil .nil))) (.node (o62_3 P) (.node (o94_3 P) (.node (o158_5 P) (.node (o286_11 P) .nil .nil) .nil) (.node (o222_9 P) .nil .nil)) (.node (o126_5 P) (.node (o190_8 P) .nil .nil) (.node (o254_10 P) .nil .nil))))))))
def tr12 (P : Params) : BT := (.node (boot_o_0 P) (.node (boot_o_1 P) (.node (o3_11 P) (.node (boot_o_7 P) (.node (o15_2 P) (.node (o31_2 P) (.node (o63_3 P) (.node (o127_5 P) (.node (o255_10 P) .nil .nil) .nil) (.node (o191_9 P) .nil .nil)) (.node (o95_3 P) (.node (o159_6 P) (.node (o287_11 P) .nil .nil) .nil) (.node (o223_9 P) .nil .nil))) (.node (o47_2 P) (.node (o79_3 P) (.node (o143_5 P) (.node (o271_10 P) .nil .nil) .nil) (.node (o207_9 P) .nil .nil)) (.node (o111_4 P) (.node (o175_7 P) .nil .nil) (.node (o239_9 P) .nil .nil)))) (.node (o23_2 P) (.node (o39_2 P) (.node (o71_3 P) (.node (o135_5 P) (.node (o263_10 P) .nil .nil) .nil) (.node (o199_9 P) .nil .nil)) (.node (o103_3 P) (.node (o167_6 P) (.node (o295_11 P) .nil .nil) .nil) (.node (o231_9 P) .nil .nil))) (.node (o55_3 P) (.node (o87_3 P) (.node (o151_5 P) (.node (o279_11 P) .nil .nil) .nil) (.node (o215_9 P) .nil .nil)) (.node (o119_5 P) (.node (o183_7 P) .nil .nil) (.node (o247_10 P) .nil .nil))))) (.node (o11_0 P) (.node (o19_2 P) (.node (o35_2 P) (.node (o67_3 P) (.node (o131_5 P) (.node (o259_10 P) .nil .nil) .nil) (.node (o195_9 P) .nil .nil)) (.node (o99_3 P) (.node (o163_6 P) (.node (o291_11 P) .nil .nil) .nil) (.node (o227_9 P) .nil .nil))) (.node (o51_3 P) (.node (o83_3 P) (.node (o147_5 P) (.node (o275_11 P) .nil .nil) .nil) (.node (o211_9 P) .nil .nil)) (.node (o115_4 P) (.node (o179_7 P) .nil .nil) (.node (o243_10 P) .nil .nil)))) (.node (o27_2 P) (.node (o43_2 P) (.node (o75_3 P) (.node (o139_5 P) (.node (o267_10 P) .nil .nil) .nil) (.node (o203_9 P) .nil .nil)) (.node (o107_4 P) (.node (o171_6 P) .nil .nil) (.node (o235_9 P) .nil .nil))) (.node (o59_3 P) (.node (o91_3 P) (.node (o155_5 P) (.node (o283_11 P) .nil .nil) .nil) (.node (o219_9 P) .nil .nil)) (.node (o123_5 P) (.node (o187_7 P) .nil .nil) (.node (o251_10 P) .nil .nil)))))) (.node (boot_o_5 P) (.node (boot_o_9 P) (.node (o17_2 P) (.node (o33_2 P) (.node (o65_3 P) (.node (o129_5 P) (.node (o257_10 P) .nil .nil) .nil) (.node (o193_9 P) .nil .nil)) (.node (o97_3 P) (.node (o161_6 P) (.node (o289_11 P) .nil .nil) .nil) (.node (o225_9 P) .nil .nil))) (.node (o49_2 P) (.node (o81_3 P) (.node (o145_5 P) (.node (o273_11 P) .nil .nil) .nil) (.node (o209_9 P) .nil .nil)) (.node (o113_4 P) (.node (o177_7 P) .nil .nil) (.node (o241_9 P) .nil .nil)))) (.node (o25_2 P) (.node (o41_2 P) (.node (o73_3 P) (.node (o137_5 P) (.node (o265_10 P) .nil .nil) .nil) (.node (o201_9 P) .nil .nil)) (.node (o105_4 P) (.node (o169_6 P) .nil .nil) (.node (o233_9 P) .nil .nil))) (.node (o57_3 P) (.node (o89_3 P) (.node (o153_5 P) (.node (o281_11 P) .nil .nil) .nil) (.node (o217_9 P) .nil .nil)) (.node (o121_5 P) (.node (o185_7 P) .nil .nil) (.node (o249_10 P) .nil .nil))))) (.node (o13_0 P) (.node (o21_2 P) (.node (o37_2 P) (.node (o69_3 P) (.node (o133_5 P) (.node (o261_10 P) .nil .nil) .nil) (.node (o197_9 P) .nil .nil)) (.node (o101_3 P) (.node (o165_6 P) (.node (o293_11 P) .nil .nil) .nil) (.node (o229_9 P) .nil .nil))) (.node (o53_3 P) (.node (o85_3 P) (.node (o149_5 P) (.node (o277_11 P) .nil .nil) .nil) (.node (o213_9 P) .nil .nil)) (.node (o117_5 P) (.node (o181_7 P) .nil .nil) (.node (o245_10 P) .nil .nil)))) (.node (o29_2 P) (.node (o45_2 P) (.node (o77_3 P) (.node (o141_5 P) (.node (o269_10 P) .nil .nil) .nil) (.node (o205_9 P) .nil .nil)) (.node (o109_4 P) (.node (o173_7 P) .nil .nil) (.node (o237_9 P) .nil .nil))) (.node (o61_3 P) (.node (o93_3 P) (.node (o157_5 P) (.node (o285_11 P) .nil .nil) .nil) (.node (o221_9 P) .nil .nil)) (.node (o125_5 P) (.node (o189_7 P) .nil .nil) (.node (o253_10 P) .nil .nil))))))) (.node (o2_4 P) (.node (boot_o_4 P) (.node (boot_o_8 P) (.node (o16_2 P) (.node (o32_2 P) (.node (o64_3 P) (.node (o128_5 P) (.node (o256_10 P) .nil .nil) .nil) (.node (o192_9 P) .nil .nil)) (.node (o96_3 P) (.node (o160_6 P) (.node (o288_11 P) .nil .nil) .nil) (.node (o224_9 P) .nil .nil))) (.node (o48_2 P) (.node (o80_3 P) (.node (o144_5 P) (.node (o272_11 P) .nil .nil) .nil) (.node (o208_9 P) .nil .nil)) (.node (o112_4 P) (.node (o176_7 P) .nil .nil) (.node (o240_9 P) .nil .nil)))) (.node (o24_2 P) (.node (o40_2 P) (.node (o72_3 P) (.node (o136_5 P) (.node (o264_10 P) .nil .nil) .nil) (.node (o200_9 P) .nil .nil)) (.node (o104_4 P) (.node (o168_6 P) (.node (o296_11 P) .nil .nil) .nil) (.node (o232_9 P) .nil .nil))) (.node (o56_3 P) (.node (o88_3 P) (.node (o152_5 P) (.node (o280_11 P) .nil .nil) .nil) (.node (o216_9 P) .nil .nil)) (.node (o120_5 P) (.node (o184_7 P) .nil .nil) (.node (o248_10 P) .nil .nil))))) (.node (o12_11 P) (.node (o20_2 P) (.node (o36_2 P) (.node (o68_3 P) (.node (o132_5 P) (.node (o260_10 P) .nil .nil) .nil) (.node (o196_9 P) .nil .nil)) (.node (o100_3 P) (.node (o164_6 P) (.node (o292_11 P) .nil .nil) .nil) (.node (o228_9 P) .nil .nil))) (.node (o52_3 P) (.node (o84_3 P) (.node (o148_5 P) (.node (o276_11 P) .nil .nil) .nil) (.node (o212_9 P) .nil .nil)) (.node (o116_4 P) (.node (o180_7 P) .nil .nil) (.node (o244_10 P) .nil .nil)))) (.node (o28_2 P) (.node (o44_2 P) (.node (o76_3 P) (.node (o140_5 P) (.node (o268_10 P) .nil .nil) .nil) (.node (o204_9 P) .nil .nil)) (.node (o108_4 P) (.node (o172_6 P) .nil .nil) (.node (o236_9 P) .nil .nil))) (.node (o60_3 P) (.node (o92_3 P) (.node (o156_5 P) (.node (o284_11 P) .nil .nil) .nil) (.node (o220_9 P) .nil .nil)) (.node (o124_5 P) (.node (o188_7 P) .nil .nil) (.node (o252_10 P) .nil .nil)))))) (.node (boot_o_6 P) (.node (boot_o_10 P) (.node (o18_2 P) (.node (o34_2 P) (.node (o66_3 P) (.node (o130_5 P) (.node (o258_10 P) .nil .nil) .nil) (.node (o194_9 P) .nil .nil)) (.node (o98_3 P) (.node (o162_6 P) (.node (o290_11 P) .nil .nil) .nil) (.node (o226_9 P) .nil .nil))) (.node (o50_3 P) (.node (o82_3 P) (.node (o146_5 P) (.node (o274_11 P) .nil .nil) .nil) (.node (o210_9 P) .nil .nil)) (.node (o114_4 P) (.node (o178_7 P) .nil .nil) (.node (o242_9 P) .nil .nil)))) (.node (o26_2 P) (.node (o42_2 P) (.node (o74_3 P) (.node (o138_5 P) (.node (o266_10 P) .nil .nil) .nil) (.node (o202_9 P) .nil .nil)) (.node (o106_4 P) (.node (o170_6 P) .nil .nil) (.node (o234_9 P) .nil .nil))) (.node (o58_3 P) (.node (o90_3 P) (.node (o154_5 P) (.node (o282_11 P) .nil .nil) .nil) (.node (o218_9 P) .nil .nil)) (.node (o122_5 P) (.node (o186_7 P) .nil .nil) (.node (o250_10 P) .nil .nil))))) (.node (o14_0 P) (.node (o22_2 P) (.node (o38_2 P) (.node (o70_3 P) (.node (o134_5 P) (.node (o262_10 P) .nil .nil) .nil) (.node (o198_9 P) .nil .nil)) (.node (o102_3 P) (.node (o166_6 P) (.node (o294_11 P) .nil .nil) .nil) (.node (o230_9 P) .nil .nil))) (.node (o54_3 P) (.node (o86_3 P) (.node (o150_5 P) (.node (o278_11 P) .nil .nil) .nil) (.node (o214_9 P) .nil .nil)) (.node (o118_5 P) (.node (o182_7 P) .nil .nil) (.node (o246_10 P) .nil .nil)))) (.node (o30_2 P) (.node (o46_2 P) (.node (o78_3 P) (.node (o142_5 P) (.node (o270_10 P) .nil .nil) .nil) (.node (o206_9 P) .nil .nil)) (.node (o110_4 P) (.node (o174_7 P) .nil .nil) (.node (o238_9 P) .nil .nil))) (.node (o62_3 P) (.node (o94_3 P) (.node (o158_5 P) (.node (o286_11 P) .nil .nil) .nil) (.node (o222_9 P) .nil .nil)) (.node (o126_5 P) (.node (o190_8 P) .nil .nil) (.node (o254_10 P) .nil .nil))))))))
def hp12 (P : Params) : Heap := ⟨Array.mk [boot_o_0 P, boot_o_1 P, o2_4 P, o3_11 P, boot_o_4 P, boot_o_5 P, boot_o_6 P, boot_o_7 P, boot_o_8 P, boot_o_9 P, boot_o_10 P, o11_0 P, o12_11 P, o13_0 P, o14_0 P, o15_2 P, o16_2 P, o17_2 P, o18_2 P, o19_2 P, o20_2 P, o21_2 P, o22_2 P, o23_2 P, o24_2 P, o25_2 P, o26_2 P, o27_2 P, o28_2 P, o29_2 P, o30_2 P, o31_2 P, o32_2 P, o33_2 P, o34_2 P, o35_2 P, o36_2 P, o37_2 P, o38_2 P, o39_2 P, o40_2 P, o41_2 P, o42_2 P, o43_2 P, o44_2 P, o45_2 P, o46_2 P, o47_2 P, o48_2 P, o49_2 P, o50_3 P, o51_3 P, o52_3 P, o53_3 P, o54_3 P, o55_3 P, o56_3 P, o57_3 P, o58_3 P, o59_3 P, o60_3 P, o61_3 P, o62_3 P, o63_3 P, o64_3 P, o65_3 P, o66_3 P, o67_3 P, o68_3 P, o69_3 P, o70_3 P, o71_3 P, o72_3 P, o73_3 P, o74_3 P, o75_3 P, o76_3 P, o77_3 P, o78_3 P, o79_3 P, o80_3 P, o81_3 P, o82_3 P, o83_3 P, o84_3 P, o85_3 P, o86_3 P, o87_3 P, o88_3 P, o89_3 P, o90_3 P, o91_3 P, o92_3 P, o93_3 P, o94_3 P, o95_3 P, o96_3 P, o97_3 P, o98_3 P, o99_3 P, o100_3 P, o101_3 P, o102_3 P, o103_3 P, o104_4 P, o105_4 P, o106_4 P, o107_4 P, o108_4 P, o109_4 P, o110_4 P, o111_4 P, o112_4 P, o113_4 P, o114_4 P, o115_4 P, o116_4 P, o117_5 P, o118_5 P, o119_5 P, o120_5 P, o121_5 P, o122_5 P, o123_5 P, o124_5 P, o125_5 P, o126_5 P, o127_5 P, o128_5 P, o129_5 P, o130_5 P, o131_5 P, o132_5 P, o133_5 P, o134_5 P, o135_5 P, o136_5 P, o137_5 P, o138_5 P, o139_5 P, o140_5 P, o141_5 P, o142_5 P, o143_5 P, o144_5 P, o145_5 P, o146_5 P, o147_5 P, o148_5 P, o149_5 P, o150_5 P, o151_5 P, o152_5 P, o153_5 P, o154_5 P, o155_5 P, o156_5 P, o157_5 P, o158_5 P, o159_6 P, o160_6 P, o161_6 P, o162_6 P, o163_6 P, o164_6 P, o165_6 P, o166_6 P, o167_6 P, o168_6 P, o169_6 P, o170_6 P, o171_6 P, o172_6 P, o173_7 P, o174_7 P, o175_7 P, o176_7 P, o177_7 P, o178_7 P, o179_7 P, o180_7 P, o181_7 P, o182_7 P, o183_7 P, o184_7 P, o185_7 P, o186_7 P, o187_7 P, o188_7 P, o189_7 P, o190_8 P, o191_9 P, o192_9 P, o193_9 P, o194_9 P, o195_9 P, o196_9 P, o197_9 P, o198_9 P, o199_9 P, o200_9 P, o201_9 P, o202_9 P, o203_9 P, o204_9 P, o205_9 P, o206_9 P, o207_9 P, o208_9 P, o209_9 P, o210_9 P, o211_9 P, o212_9 P, o213_9 P, o214_9 P, o215_9 P, o216_9 P, o217_9 P, o218_9 P, o219_9 P, o220_9 P, o221_9 P, o222_9 P, o223_9 P, o224_9 P, o225_9 P, o226_9 P, o227_9 P, o228_9 P, o229_9 P, o230_9 P, o231_9 P, o232_9 P, o233_9 P, o234_9 P, o235_9 P, o236_9 P, o237_9 P, o238_9 P, o239_9 P, o240_9 P, o241_9 P, o242_9 P, o243_10 P, o244_10 P, o245_10 P, o246_10 P, o247_10 P, o248_10 P, o249_10 P, o250_10 P, o251_10 P, o252_10 P, o253_10 P, o254_10 P, o255_10 P, o256_10 P, o257_10 P, o258_10 P, o259_10 P, o260_10 P, o261_10 P, o262_10 P, o263_10 P, o264_10 P, o265_10 P, o266_10 P, o267_10 P, o268_10 P, o269_10 P, o270_10 P, o271_10 P, o272_11 P, o273_11 P, o274_11 P, o275_11 P, o276_11 P, o277_11 P, o278_11 P, o279_11 P, o280_11 P, o281_11 P, o282_11 P, o283_11 P, o284_11 P, o285_11 P, o286_11 P, o287_11 P, o288_11 P, o289_11 P, o290_11 P, o291_11 P, o292_11 P, o293_11 P, o294_11 P, o295_11 P, o296_11 P], {}⟩
def envT : Env := { scope := pw.main.scope, locals := mainNs, globals := mainNs, cells := [], code := (.ref 13), frame := some 14 }
abbrev cdT : Code := .body (behindTheImports pw) envT
abbrev frT : List Frame := [topFrame ⟨0, 0, 0, 0⟩]
abbrev annT : Option Value := (some (.ref 6))
abbrev sh0 (w : World) (os : OsState) : Shared := ⟨hp0 w.params, #[], {}, 187, os⟩
abbrev sT1 (w : World) (os : OsState) : SharedT := ⟨tr1 w.params, 15, {}, #[], {}, 187, os⟩
abbrev sT2 (w : World) (os : OsState) : SharedT := ⟨tr2 w.params, 50, {}, #[], {}, 236, os⟩
abbrev sT3 (w : World) (os : OsState) : SharedT := ⟨tr3 w.params, 104, {}, #[], {}, 304, os⟩
abbrev sT4 (w : World) (os : OsState) : SharedT := ⟨tr4 w.params, 117, {}, #[], {}, 324, os⟩
abbrev sT5 (w : World) (os : OsState) : SharedT := ⟨tr5 w.params, 159, {}, #[], {}, 386, os⟩
abbrev sT6 (w : World) (os : OsState) : SharedT := ⟨tr6 w.params, 173, {}, #[], {}, 418, os⟩
abbrev sT7 (w : World) (os : OsState) : SharedT := ⟨tr7 w.params, 190, {}, #[], {}, 468, os⟩
abbrev sT8 (w : World) (os : OsState) : SharedT := ⟨tr8 w.params, 191, {}, #[], {}, 481, os⟩
abbrev sT9 (w : World) (os : OsState) : SharedT := ⟨tr9 w.params, 243, {}, #[], {}, 554, os⟩
abbrev sT10 (w : World) (os : OsState) : SharedT := ⟨tr10 w.params, 272, {}, #[], {}, 629, os⟩
abbrev sT11 (w : World) (os : OsState) : SharedT := ⟨tr11 w.params, 297, {}, #[], {}, 675, os⟩
abbrev sh12 (w : World) (os : OsState) : Shared := ⟨hp12 w.params, #[], {}, 675, os⟩
abbrev shB (w : World) (os : OsState) : Shared := ⟨boot_heap w.params, Array.mk [], boot_drawn, boot_toks, os⟩
abbrev pcPreP (w : World) : Prop := (fun os => topGo treeTable pw w 11 annT 12 (shB w os) (topStub pw)) = fun os => some (sh0 w os, ⟨denote treeTable cdT, cdT, ⟨0, 0, 0, 0⟩, frT⟩)
theorem pcPre : ∀ w, pcPreP w := (fun w => by kernel_rfl)
abbrev pcBlkP (w : World) : Prop := (fun os => segRun treeTable pw w 11 annT 1 1 (sh0 w os) (blockOf (behindTheImports pw) envT cdT ⟨0, 0, 0, 0⟩ frT)) = fun os => some (.next, (sT1 w os).abs, cdT, ⟨0, 0, 0, 0⟩)
theorem pcBlk : ∀ w, pcBlkP w := (fun w => by kernel_rfl)
def sts1 : List Stmt := [topSt 0, topSt 1, topSt 2]
abbrev pc1P (w : World) : Prop := (fun os => segRunT treeTable pw w 11 annT 1 296 (sT1 w os) (piecesOf sts1 envT cdT ⟨0, 0, 0, 0⟩ frT)) = fun os => some (Flow.next, sT2 w os, cdT, ⟨5, 0, 14, 72⟩)
theorem pc1 : ∀ w, pc1P w := (fun w => by kernel_rfl)
def sts2 : List Stmt := [topSt 3, topSt 4, topSt 5, topSt 6, topSt 7, topSt 8]
abbrev pc2P (w : World) : Prop := (fun os => segRunT treeTable pw w 11 annT 1 370 (sT2 w os) (piecesOf sts2 envT cdT ⟨5, 0, 14, 72⟩ frT)) = fun os => some (Flow.next, sT3 w os, cdT, ⟨70, 0, 73, 43⟩)
theorem pc2 : ∀ w, pc2P w := (fun w => by kernel_rfl)
def sts3 : List Stmt := [topSt 9]
abbrev pc3P (w : World) : Prop := (fun os => segRunT treeTable pw w 11 annT 1 197 (sT3 w os) (piecesOf sts3 envT cdT ⟨70, 0, 73, 43⟩ frT)) = fun os => some (Flow.next, sT4 w os, cdT, ⟨74, 0, 75, 8⟩)
theorem pc3 : ∀ w, pc3P w := (fun w => by kernel_rfl)
def sts4 : List Stmt := [topSt 10, topSt 11, topSt 12]
abbrev pc4P (w : World) : Prop := (fun os => segRunT treeTable pw w 11 annT 1 342 (sT4 w os) (piecesOf sts4 envT cdT ⟨74, 0, 75, 8⟩ frT)) = fun os => some (Flow.next, sT5 w os, cdT, ⟨104, 0, 104, 12⟩)
theorem pc4 : ∀ w, pc4P w := (fun w => by kernel_rfl)
def sts5 : List Stmt := [topSt 13]
abbrev pc5P (w : World) : Prop := (fun os => segRunT treeTable pw w 11 annT 1 238 (sT5 w os) (piecesOf sts5 envT cdT ⟨104, 0, 104, 12⟩ frT)) = fun os => some (Flow.next, sT6 w os, cdT, ⟨105, 0, 113, 40⟩)
theorem pc5 : ∀ w, pc5P w := (fun w => by kernel_rfl)
def sts6 : List Stmt := [topSt 14, topSt 15, topSt 16, topSt 17]
abbrev pc6P (w : World) : Prop := (fun os => segRunT treeTable pw w 11 annT 1 372 (sT6 w os) (piecesOf sts6 envT cdT ⟨105, 0, 113, 40⟩ frT)) = fun os => some (Flow.next, sT7 w os, cdT, ⟨123, 0, 123, 13⟩)
theorem pc6 : ∀ w, pc6P w := (byRow2 "set-order" (P := fun w => pc6P w) (byRow2 "special-get-raises" (P := fun w => pc6P (w.withFollow "set-order" false)) (fun w => by kernel_rfl) (fun w => by kernel_rfl)) (byRow2 "special-get-raises" (P := fun w => pc6P (w.withFollow "set-order" true)) (fun w => by kernel_rfl) (fun w => by kernel_rfl)))
def sts7 : List Stmt := [topSt 18]
abbrev pc7P (w : World) : Prop := (fun os => segRunT treeTable pw w 11 annT 1 86 (sT7 w os) (piecesOf sts7 envT cdT ⟨123, 0, 123, 13⟩ frT)) = fun os => some (Flow.next, sT8 w os, cdT, ⟨124, 0, 124, 20⟩)
theorem pc7 : ∀ w, pc7P w := (byRow2 "set-order" (P := fun w => pc7P w) (byRow2 "special-get-raises" (P := fun w => pc7P (w.withFollow "set-order" false)) (fun w => by kernel_rfl) (fun w => by kernel_rfl)) (byRow2 "special-get-raises" (P := fun w => pc7P (w.withFollow "set-order" true)) (fun w => by kernel_rfl) (fun w => by kernel_rfl)))
def sts8 : List Stmt := [topSt 19]
abbrev pc8P (w : World) : Prop := (fun os => segRunT treeTable pw w 11 annT 1 478 (sT8 w os) (piecesOf sts8 envT cdT ⟨124, 0, 124, 20⟩ frT)) = fun os => some (Flow.next, sT9 w os, cdT, ⟨125, 0, 155, 25⟩)
theorem pc8 : ∀ w, pc8P w := (fun w => by kernel_rfl)
def sts9 : List Stmt := [topSt 20, topSt 21, topSt 22, topSt 23, topSt 24]
abbrev pc9P (w : World) : Prop := (fun os => segRunT treeTable pw w 11 annT 1 398 (sT9 w os) (piecesOf sts9 envT cdT ⟨125, 0, 155, 25⟩ frT)) = fun os => some (Flow.next, sT10 w os, cdT, ⟨290, 0, 300, 75⟩)
theorem pc9 : ∀ w, pc9P w := (fun w => by kernel_rfl)
def sts10 : List Stmt := [topSt 25, topSt 26, topSt 27, topSt 28, topSt 29, topSt 30]
abbrev pc10P (w : World) : Prop := (fun os => segRunT treeTable pw w 11 annT 1 147 (sT10 w os) (piecesOf sts10 envT cdT ⟨290, 0, 300, 75⟩ frT)) = fun os => some (Flow.next, sT11 w os, cdT, ⟨346, 0, 365, 16⟩)
theorem pc10 : ∀ w, pc10P w := (fun w => by kernel_rfl)
abbrev pcFinP (w : World) : Prop := (fun os => topRun treeTable pw w 11 annT 2 (sT11 w os).abs ⟨doneF Flow.next, cdT, ⟨346, 0, 365, 16⟩, frT⟩) = fun os => some (sh12 w os)
theorem pcFin : ∀ w, pcFinP w := (fun w => by kernel_rfl)
theorem bodyT : behindTheImports pw = sts1 ++ (sts2 ++ (sts3 ++ (sts4 ++ (sts5 ++ (sts6 ++ (sts7 ++ (sts8 ++ (sts9 ++ (sts10 ++ ([])))))))))) := by kernel_rfl
theorem restT (w : World) (os : OsState) : topRun treeTable pw w 11 annT (296 + (370 + (197 + (342 + (238 + (372 + (86 + (478 + (398 + (147 + 2)))))))))) (sT1 w os).abs (restOf (sts1 ++ (sts2 ++ (sts3 ++ (sts4 ++ (sts5 ++ (sts6 ++ (sts7 ++ (sts8 ++ (sts9 ++ (sts10 ++ ([]))))))))))) envT cdT ⟨0, 0, 0, 0⟩ frT) = some (sh12 w os) := (piece_app (segRun_of (congrFun (pc1 w) os)) (piece_app (segRun_of (congrFun (pc2 w) os)) (piece_app (segRun_of (congrFun (pc3 w) os)) (piece_app (segRun_of (congrFun (pc4 w) os)) (piece_app (segRun_of (congrFun (pc5 w) os)) (piece_app (segRun_of (congrFun (pc6 w) os)) (piece_app (segRun_of (congrFun (pc7 w) os)) (piece_app (segRun_of (congrFun (pc8 w) os)) (piece_app (segRun_of (congrFun (pc9 w) os)) (piece_app (segRun_of (congrFun (pc10 w) os)) (piece_nil (congrFun (pcFin w) os))))))))))))
theorem runT (w : World) (os : OsState) : topRun treeTable pw w 11 annT (12 + (1 + (296 + (370 + (197 + (342 + (238 + (372 + (86 + (478 + (398 + (147 + 2)))))))))))) (shB w os) (topStub pw) = some (sh12 w os) := by
  refine go_top (congrFun (pcPre w) os) (piece_block (congrFun (pcBlk w) os) ?_)
  have h := restT w os
  rw [← bodyT] at h
  exact h
def qT : Program := { pw with main := { pw.main with body := [topSt 0, topSt 2, topSt 3, topSt 4, topSt 5, topSt 6, topSt 7, topSt 8, topSt 9, topSt 10, topSt 12, topSt 13, topSt 14, topSt 15, topSt 16, topSt 17, topSt 18, topSt 19, topSt 20, topSt 21, topSt 24, topSt 26, topSt 27, topSt 28, topSt 29, topSt 30] } }
def looseT : List Str := [Str.ofString "AF", Str.ofString "PROTO", Str.ofString "V2_VALID_CMDS", Str.ofString "V2_VALID_FAMS", Str.ofString "V2_VALID_PROS", Str.ofString "V2_PARSE_ADDR_FAMPRO", Str.ofString "ProxyData", Str.ofString "RE_ADDR_ALLOWCHARS", Str.ofString "RE_PORT_NOLEADZERO", Str.ofString "_get_v1", Str.ofString "_get_v2"]
abbrev NT : Nat := 5954
abbrev hpT (P : Params) : Heap := hp12 P
abbrev tkT : Nat := 675
abbrev szT : Nat := 297
/- the tables of code: #[(41, (37, Allowed.match)), (90, (86, octets_of_four)), (95, (93, octets_of_six)), (255, (251, _get_v1)), (263, (259, _get_v2))] -/
def KT (P : Params) : Frag := [(0, boot_o_0 P), (1, boot_o_1 P), (2, o2_4 P), (3, o3_11 P), (4, boot_o_4 P), (5, boot_o_5 P), (6, boot_o_6 P), (7, boot_o_7 P), (8, boot_o_8 P), (9, boot_o_9 P), (10, boot_o_10 P), (11, o11_0 P), (12, o12_11 P), (13, o13_0 P), (14, o14_0 P), (15, o15_2 P), (16, o16_2 P), (17, o17_2 P), (18, o18_2 P), (19, o19_2 P), (20, o20_2 P), (21, o21_2 P), (22, o22_2 P), (23, o23_2 P), (24, o24_2 P), (25, o25_2 P), (26, o26_2 P), (27, o27_2 P), (28, o28_2 P), (29, o29_2 P), (30, o30_2 P), (31, o31_2 P), (32, o32_2 P), (33, o33_2 P), (34, o34_2 P), (35, o35_2 P), (36, o36_2 P), (38, o38_2 P), (39, o39_2 P), (40, o40_2 P), (41, o41_2 P), (42, o42_2 P), (43, o43_2 P), (44, o44_2 P), (45, o45_2 P), (46, o46_2 P), (47, o47_2 P), (48, o48_2 P), (49, o49_2 P), (50, o50_3 P), (51, o51_3 P), (52, o52_3 P), (53, o53_3 P), (54, o54_3 P), (55, o55_3 P), (56, o56_3 P), (57, o57_3 P), (58, o58_3 P), (59, o59_3 P), (60, o60_3 P), (61, o61_3 P), (62, o62_3 P), (63, o63_3 P), (64, o64_3 P), (65, o65_3 P), (66, o66_3 P), (67, o67_3 P), (68, o68_3 P), (69, o69_3 P), (70, o70_3 P), (71, o71_3 P), (72, o72_3 P), (73, o73_3 P), (74, o74_3 P), (75, o75_3 P), (76, o76_3 P), (77, o77_3 P), (78, o78_3 P), (79, o79_3 P), (80, o80_3 P), (81, o81_3 P), (82, o82_3 P), (83, o83_3 P), (84, o84_3 P), (85, o85_3 P), (87, o87_3 P), (88, o88_3 P), (89, o89_3 P), (90, o90_3 P), (91, o91_3 P), (92, o92_3 P), (94, o94_3 P), (95, o95_3 P), (96, o96_3 P), (97, o97_3 P), (98, o98_3 P), (99, o99_3 P), (100, o100_3 P), (101, o101_3 P), (102, o102_3 P), (103, o103_3 P), (104, o104_4 P), (105, o105_4 P), (106, o106_4 P), (107, o107_4 P), (108, o108_4 P), (109, o109_4 P), (110, o110_4 P), (111, o111_4 P), (112, o112_4 P), (113, o113_4 P), (114, o114_4 P), (115, o115_4 P), (116, o116_4 P), (117, o117_5 P), (118, o118_5 P), (119, o119_5 P), (120, o120_5 P), (121, o121_5 P), (122, o122_5 P), (123, o123_5 P), (124, o124_5 P), (125, o125_5 P), (126, o126_5 P), (127, o127_5 P), (128, o128_5 P), (129, o129_5 P), (130, o130_5 P), (131, o131_5 P), (132, o132_5 P), (133, o133_5 P), (134, o134_5 P), (135, o135_5 P), (136, o136_5 P), (137, o137_5 P), (138, o138_5 P), (139, o139_5 P), (140, o140_5 P), (141, o141_5 P), (142, o142_5 P), (143, o143_5 P), (144, o144_5 P), (145, o145_5 P), (146, o146_5 P), (147, o147_5 P), (148, o148_5 P), (149, o149_5 P), (150, o150_5 P), (151, o151_5 P), (152, o152_5 P), (153, o153_5 P), (154, o154_5 P), (155, o155_5 P), (156, o156_5 P), (157, o157_5 P), (158, o158_5 P), (159, o159_6 P), (160, o160_6 P), (161, o161_6 P), (162, o162_6 P), (163, o163_6 P), (164, o164_6 P), (165, o165_6 P), (166, o166_6 P), (167, o167_6 P), (168, o168_6 P), (169, o169_6 P), (170, o170_6 P), (171, o171_6 P), (172, o172_6 P), (173, o173_7 P), (174, o174_7 P), (175, o175_7 P), (176, o176_7 P), (177, o177_7 P), (178, o178_7 P), (179, o179_7 P), (180, o180_7 P), (181, o181_7 P), (182, o182_7 P), (183, o183_7 P), (184, o184_7 P), (185, o185_7 P), (186, o186_7 P), (187, o187_7 P), (188, o188_7 P), (189, o189_7 P), (190, o190_8 P), (191, o191_9 P), (192, o192_9 P), (193, o193_9 P), (194, o194_9 P), (195, o195_9 P), (196, o196_9 P), (197, o197_9 P), (198, o198_9 P), (199, o199_9 P), (200, o200_9 P), (201, o201_9 P), (202, o202_9 P), (203, o203_9 P), (204, o204_9 P), (205, o205_9 P), (206, o206_9 P), (207, o207_9 P), (208, o208_9 P), (209, o209_9 P), (210, o210_9 P), (211, o211_9 P), (212, o212_9 P), (213, o213_9 P), (214, o214_9 P), (215, o215_9 P), (216, o216_9 P), (217, o217_9 P), (218, o218_9 P), (219, o219_9 P), (220, o220_9 P), (221, o221_9 P), (222, o222_9 P), (223, o223_9 P), (224, o224_9 P), (225, o225_9 P), (226, o226_9 P), (227, o227_9 P), (228, o228_9 P), (229, o229_9 P), (230, o230_9 P), (231, o231_9 P), (232, o232_9 P), (233, o233_9 P), (234, o234_9 P), (235, o235_9 P), (236, o236_9 P), (237, o237_9 P), (238, o238_9 P), (239, o239_9 P), (240, o240_9 P), (241, o241_9 P), (242, o242_9 P), (243, o243_10 P), (244, o244_10 P), (245, o245_10 P), (246, o246_10 P), (247, o247_10 P), (248, o248_10 P), (249, o249_10 P), (250, o250_10 P), (252, o252_10 P), (253, o253_10 P), (254, o254_10 P), (255, o255_10 P), (256, o256_10 P), (257, o257_10 P), (258, o258_10 P), (260, o260_10 P), (261, o261_10 P), (262, o262_10 P), (263, o263_10 P), (264, o264_10 P), (265, o265_10 P), (266, o266_10 P), (267, o267_10 P), (268, o268_10 P), (269, o269_10 P), (270, o270_10 P), (271, o271_10 P), (272, o272_11 P), (273, o273_11 P), (274, o274_11 P), (275, o275_11 P), (276, o276_11 P), (277, o277_11 P), (278, o278_11 P), (279, o279_11 P), (280, o280_11 P), (281, o281_11 P), (282, o282_11 P), (283, o283_11 P), (284, o284_11 P), (285, o285_11 P), (286, o286_11 P), (287, o287_11 P), (288, o288_11 P), (289, o289_11 P), (290, o290_11 P), (291, o291_11 P), (292, o292_11 P), (293, o293_11 P), (294, o294_11 P), (295, o295_11 P), (296, o296_11 P)]
end
end Px
end

/- PxCore -/
section
open PySem PySem.W PySem.Calls PyProof.Rows
set_option Elab.async false
namespace Px

abbrev Fct := List (Addr × Obj)

/-- a frame of a def's call: its environment, its place, its names with their values -/
structure Sc where
  scope : Scope
  nm : List Str
  gn : List Str
  cn : List Str
  fn : List Str
def Sc.good (c : Sc) : Bool :=
  c.scope.kind == .function && c.nm.all (fun x => c.scope.names.lookup x == some .local && !(x == ("__debug__" : Str))) &&
  c.gn.all (fun x => c.scope.names.lookup x == some .globalImplicit && !(x == ("__debug__" : Str))) &&
  c.cn.all (fun x => c.scope.names.lookup x == some .cell && !(x == ("__debug__" : Str))) &&
  c.fn.all (fun x => c.scope.names.lookup x == some .free && !(x == ("__debug__" : Str)) && !(x == ("__classdict__" : Str))) && decide c.nm.Nodup
structure Fm where
  sc : Sc
  env : Env
  L : Addr
  vs : List (Option Value)

structure Fm.ok (h : Heap) (f : Fm) : Prop where
  fr : f.env.frame = some f.L
  lo : f.env.locals = f.L
  scp : f.env.scope = f.sc.scope
  good : f.sc.good = true
  gl : f.env.globals = mainGlobals
  bl : f.env.builtins = builtinsNs
  ns : ∃ m, h.Ns f.L m ∧ ∀ (i : Nat) (x : Str) (v : Option Value), f.sc.nm[i]? = some x → f.vs[i]? = some v → m x = v
theorem Sc.parts {c : Sc} (h : c.good = true) : c.scope.kind = .function ∧ (∀ x ∈ c.nm, c.scope.names.lookup x = some .local ∧ (x == ("__debug__" : Str)) = false) ∧
    (∀ x ∈ c.gn, c.scope.names.lookup x = some .globalImplicit ∧ (x == ("__debug__" : Str)) = false) ∧ (∀ x ∈ c.cn, c.scope.names.lookup x = some .cell ∧ (x == ("__debug__" : Str)) = false) ∧
    (∀ x ∈ c.fn, c.scope.names.lookup x = some .free ∧ (x == ("__debug__" : Str)) = false ∧ (x == ("__classdict__" : Str)) = false) ∧ c.nm.Nodup := by
  unfold Sc.good at h
  simp only [Bool.and_eq_true, List.all_eq_true, beq_iff_eq, Bool.not_eq_true', decide_eq_true_eq] at h
  obtain ⟨⟨⟨⟨⟨h1, h2⟩, h3⟩, h4⟩, h5⟩, h6⟩ := h
  exact ⟨h1, h2, h3, h4, fun x hx => ⟨(h5 x hx).1.1, (h5 x hx).1.2, (h5 x hx).2⟩, h6⟩
theorem Fm.ok.kind {h : Heap} {f : Fm} (x : f.ok h) : f.env.scope.kind = .function := by rw [x.scp]; exact (Sc.parts x.good).1

/-- a code object's own table of nested code -/
structure TabSpec where
  c : Addr
  P : Addr
  line : Nat
  col : Nat
  qual : Str
  known : Option Addr := none

def TabOk (keys : List Addr) (h : Heap) (t : TabSpec) : Prop :=
  ∃ ps, h.get? t.P = some (tabObj ps) ∧ ((ps = #[] ∧ t.known = none) ∨ ∃ cd, (ps = #[rawInt t.line, rawInt t.col, .ref cd] ∧ (t.known = none ∨ t.known = some cd)) ∧ cd ∉ keys ∧ h.CodeRec (.ref cd) t.qual)

def keysOf (fr : List Fm) (fs : Fct) : List Addr := fr.map (·.L) ++ fs.map (·.1)

/-- what stands: H the heap at the call's start, TB its tables of code, os the outside -/
structure Cx (H : Heap) (TB : List TabSpec) (os : OsState) (fr : List Fm) (fs : Fct) (s : Shared) : Prop where
  fact : ∀ p ∈ fs, s.heap.get? p.1 = some p.2
  nd : (keysOf fr fs).Nodup
  low : ∀ a ∈ keysOf fr fs, H.objs.size ≤ a
  old : ∀ b o, H.get? b = some o → b ∉ TB.map (·.P) → s.heap.get? b = some o
  size : H.objs.size ≤ s.heap.objs.size
  frames : ∀ f ∈ fr, f.ok s.heap
  tabs : ∀ t ∈ TB, TabOk (keysOf fr fs) s.heap t
  tlow : ∀ t ∈ TB, t.P < H.objs.size
  gens : AllBare s.gens
  os : s.os = os

variable {H : Heap} {TB : List TabSpec} {os : OsState} {fr R : List Fm} {fs fs' F : Fct} {s : Shared}

theorem Cx.lt (C : Cx H TB os fr fs s) {a : Addr} (ha : a ∈ keysOf fr fs) : a < s.heap.objs.size := by
  rcases List.mem_append.mp ha with h | h
  · obtain ⟨f, hf, rfl⟩ := List.mem_map.mp h
    obtain ⟨m, hn, _⟩ := (C.frames f hf).ns
    exact hn.lt
  · obtain ⟨p, hp, rfl⟩ := List.mem_map.mp h
    exact Heap.lt_size (C.fact p hp)

theorem Cx.tok (C : Cx H TB os fr fs s) (t : Nat) : Cx H TB os fr fs { s with toks := t } :=
  ⟨C.fact, C.nd, C.low, C.old, C.size, C.frames, C.tabs, C.tlow, C.gens, C.os⟩

theorem Fm.ok.keeps {h h' : Heap} {f : Fm} (x : f.ok h) (k : ∀ b o, h.get? b = some o → h'.get? b = some o) : f.ok h' :=
  ⟨x.fr, x.lo, x.scp, x.good, x.gl, x.bl, let ⟨m, hn, r⟩ := x.ns; ⟨m, hn.keeps k, r⟩⟩
theorem TabOk.keeps {keys : List Addr} {h h' : Heap} {t : TabSpec} (x : TabOk keys h t) (k : ∀ b o, h.get? b = some o → h'.get? b = some o) : TabOk keys h' t := by
  obtain ⟨ps, e, r⟩ := x
  refine ⟨ps, k _ _ e, r.imp id fun ⟨cd, a, b, c⟩ => ⟨cd, a, b, c.keeps k⟩⟩
theorem size_of_keeps {h h' : Heap} (hs : h.objs.size ≤ h'.objs.size) {n : Nat} (x : n ≤ h.objs.size) : n ≤ h'.objs.size := Nat.le_trans x hs

/-- more objects, nothing else turned -/
theorem Cx.keeps (C : Cx H TB os fr fs s) {h' : Heap} {g' : Array GenState} (k : ∀ b o, s.heap.get? b = some o → h'.get? b = some o) (hs : s.heap.objs.size ≤ h'.objs.size) (t : Nat) (hg : AllBare g') :
    Cx H TB os fr fs { s with heap := h', toks := t, gens := g' } :=
  ⟨fun p hp => k _ _ (C.fact p hp), C.nd, C.low, fun b o e hb => k _ _ (C.old b o e hb), Nat.le_trans C.size hs, fun f hf => (C.frames f hf).keeps k, fun t ht => (C.tabs t ht).keeps k, C.tlow, hg, C.os⟩

/-- a new object under a fact -/
theorem Cx.more (C : Cx H TB os fr fs s) {h' : Heap} {g' : Array GenState} {a : Addr} {o : Obj} (k : ∀ b o, s.heap.get? b = some o → h'.get? b = some o) (hs : s.heap.objs.size ≤ h'.objs.size) (t : Nat) (hg : AllBare g')
    (ha : s.heap.objs.size ≤ a) (ho : h'.get? a = some o) :
    Cx H TB os fr ((a, o) :: fs) { s with heap := h', toks := t, gens := g' } := by
  have C' := C.keeps k hs t hg
  have hn : a ∉ keysOf fr fs := fun h => absurd (C.lt h) (Nat.not_lt.mpr ha)
  have hp : (keysOf fr ((a, o) :: fs)).Perm (a :: keysOf fr fs) := by
    unfold keysOf; rw [List.map_cons]; exact List.perm_middle
  refine ⟨fun p hp => ?_, hp.nodup_iff.mpr (List.nodup_cons.mpr ⟨hn, C.nd⟩), fun b hb => ?_, C'.old, C'.size, C'.frames, fun t ht => ?_, C.tlow, hg, C.os⟩
  · rcases List.mem_cons.mp hp with rfl | hp
    · exact ho
    · exact C'.fact p hp
  · rcases List.mem_cons.mp (hp.mem_iff.mp hb) with rfl | hb
    · exact Nat.le_trans C.size ha
    · exact C.low b hb
  · obtain ⟨ps, e, r⟩ := C.tabs t ht
    refine ⟨ps, k _ _ e, r.imp id fun ⟨cd, a1, a2, a3⟩ => ⟨cd, a1, fun hm => ?_, a3.keeps k⟩⟩
    rcases List.mem_cons.mp (hp.mem_iff.mp hm) with h | h
    · obtain ⟨c, oc, vs, tk, hcd, hget, _⟩ := a3
      cases hcd
      subst h
      exact absurd (Heap.lt_size hget) (Nat.not_lt.mpr ha)
    · exact a2 h

/-- a fact's object turned -/
inductive Upd (a : Addr) (o o' : Obj) : Fct → Fct → Prop
  | head {r : Fct} : Upd a o o' ((a, o) :: r) ((a, o') :: r)
  | tail {p : Addr × Obj} {r r' : Fct} (h : Upd a o o' r r') : Upd a o o' (p :: r) (p :: r')
theorem Upd.keys {a : Addr} {o o' : Obj} {r r' : Fct} (U : Upd a o o' r r') : r'.map (·.1) = r.map (·.1) := by
  induction U with
  | head => rfl
  | tail _ ih => simp only [List.map_cons, ih]
theorem Upd.mem {a : Addr} {o o' : Obj} {r r' : Fct} (U : Upd a o o' r r') : (a, o) ∈ r := by
  induction U with
  | head => exact .head _
  | tail _ ih => exact .tail _ ih
theorem Upd.mem' {a : Addr} {o o' : Obj} {r r' : Fct} (U : Upd a o o' r r') : ∀ p ∈ r', p = (a, o') ∨ (p ∈ r ∧ ((r.map (·.1)).Nodup → p.1 ≠ a)) := by
  induction U with
  | @head r => exact fun p hp => (List.mem_cons.mp hp).elim .inl fun h => .inr ⟨.tail _ h, fun n e => by
      rw [List.map_cons, List.nodup_cons] at n
      exact n.1 (by rw [← e]; exact List.mem_map_of_mem (f := (·.1)) h)⟩
  | @tail q r r' U ih => exact fun p hp => (List.mem_cons.mp hp).elim (fun h => .inr ⟨h ▸ .head _, fun n e => by
      rw [List.map_cons, List.nodup_cons] at n
      exact n.1 (by rw [← h, e]; exact List.mem_map_of_mem (f := (·.1)) U.mem)⟩) fun h => (ih p h).imp id fun ⟨a1, a2⟩ => ⟨.tail _ a1, fun n => a2 (by rw [List.map_cons, List.nodup_cons] at n; exact n.2)⟩

theorem Cx.upd (C : Cx H TB os fr fs s) {h' : Heap} {a : Addr} {o o' : Obj} (U : Upd a o o' fs fs') (hs : Heap.SameBut a s.heap h') (ho : h'.get? a = some o') (t : Nat) :
    Cx H TB os fr fs' { s with heap := h', toks := t } := by
  have hk : keysOf fr fs' = keysOf fr fs := by unfold keysOf; rw [U.keys]
  have ha : a ∈ keysOf fr fs := List.mem_append_right _ (List.mem_map_of_mem (f := (·.1)) U.mem)
  have nf : (fs.map (·.1)).Nodup := (List.nodup_append.mp C.nd).2.1
  have hl := C.low a ha
  refine ⟨fun p hp => ?_, hk ▸ C.nd, hk ▸ C.low, fun b o e hb => ?_, hs.1 ▸ C.size, fun f hf => ?_, fun t ht => ?_, C.tlow, C.gens, C.os⟩
  · rcases U.mem' p hp with rfl | ⟨h1, h2⟩
    · exact ho
    · exact (hs.2 p.1 (h2 nf)).trans (C.fact p h1)
  · exact (hs.2 b (Nat.ne_of_lt (Nat.lt_of_lt_of_le (Heap.lt_size e) hl))).trans (C.old b o e hb)
  · have x := C.frames f hf
    obtain ⟨m, hn, r⟩ := x.ns
    refine ⟨x.fr, x.lo, x.scp, x.good, x.gl, x.bl, m, hn.sameBut hs fun e => ?_, r⟩
    have := (List.nodup_append.mp C.nd).2.2 f.L (List.mem_map_of_mem hf) a (List.mem_map_of_mem (f := (·.1)) U.mem)
    exact this e
  · obtain ⟨ps, e, r⟩ := C.tabs t ht
    refine ⟨ps, (hs.2 _ (Nat.ne_of_lt (Nat.lt_of_lt_of_le (C.tlow t ht) hl))).trans e, r.imp id fun ⟨cd, a1, a2, a3⟩ => ⟨cd, a1, hk ▸ a2, ?_⟩⟩
    obtain ⟨c, oc, vs, tk, hcd, hget, q⟩ := a3
    cases hcd
    exact ⟨cd, oc, vs, tk, rfl, (hs.2 cd fun e => a2 (by rw [e]; exact ha)).trans hget, q⟩

/-- a name stored in the frame that runs -/
theorem Cx.store {env : Env} {L : Addr} {sc : Sc} {vs : List (Option Value)} (C : Cx H TB os (⟨sc, env, L, vs⟩ :: R) fs s) {h' : Heap} {m : Str → Option Value} {i : Nat} {x : Str} {v : Value}
    (hm : ∀ (i : Nat) (x : Str) (v : Option Value), sc.nm[i]? = some x → vs[i]? = some v → m x = v)
    (hn : h'.Ns L fun y => if y = x then some v else m y) (hs : Heap.SameBut L s.heap h') (hi : sc.nm[i]? = some x) (hl : i < vs.length) (t : Nat) :
    Cx H TB os (⟨sc, env, L, vs.set i (some v)⟩ :: R) fs { s with heap := h', toks := t } := by
  have hnd := (Sc.parts (C.frames _ (.head _)).good).2.2.2.2.2
  dsimp only at hnd
  have hk : keysOf (⟨sc, env, L, vs.set i (some v)⟩ :: R) fs = keysOf (⟨sc, env, L, vs⟩ :: R) fs := rfl
  have hL : L ∈ keysOf (⟨sc, env, L, vs⟩ :: R) fs := .head _
  have nd := C.nd
  have hlow := C.low L hL
  have nd' : L ∉ keysOf R fs ∧ (keysOf R fs).Nodup := List.nodup_cons.mp nd
  refine ⟨fun p hp => ?_, nd, C.low, fun b o e hb => ?_, hs.1 ▸ C.size, fun f hf => ?_, fun t ht => ?_, C.tlow, C.gens, C.os⟩
  · exact (hs.2 p.1 fun e => nd'.1 (e ▸ List.mem_append_right _ (List.mem_map_of_mem (f := (·.1)) hp))).trans (C.fact p hp)
  · exact (hs.2 b (Nat.ne_of_lt (Nat.lt_of_lt_of_le (Heap.lt_size e) hlow))).trans (C.old b o e hb)
  · rcases List.mem_cons.mp hf with rfl | hf
    · have x0 := C.frames _ (.head _)
      refine ⟨x0.fr, x0.lo, x0.scp, x0.good, x0.gl, x0.bl, _, hn, fun j y u hj hu => ?_⟩
      by_cases e : i = j
      · subst e
        rw [hi] at hj; cases hj
        rw [if_pos rfl]
        dsimp only at hu
        rw [List.getElem?_set_self hl] at hu
        exact Option.some.inj hu
      · dsimp only at hu
        rw [List.getElem?_set_ne e] at hu
        have ne : y ≠ x := fun q => by
          subst q
          obtain ⟨h1, e1⟩ := List.getElem?_eq_some_iff.mp hi
          obtain ⟨h2, e2⟩ := List.getElem?_eq_some_iff.mp hj
          exact e ((List.getElem_inj hnd).mp (e1.trans e2.symm))
        rw [if_neg ne]
        exact hm j y u hj hu
    · have x := C.frames f (.tail _ hf)
      obtain ⟨m, hn, r⟩ := x.ns
      exact ⟨x.fr, x.lo, x.scp, x.good, x.gl, x.bl, m, hn.sameBut hs fun e => nd'.1 (e ▸ List.mem_append_left _ (List.mem_map_of_mem hf)), r⟩
  · obtain ⟨ps, e, r⟩ := C.tabs t ht
    refine ⟨ps, (hs.2 _ (Nat.ne_of_lt (Nat.lt_of_lt_of_le (C.tlow t ht) hlow))).trans e, r.imp id fun ⟨cd, a1, a2, a3⟩ => ⟨cd, a1, a2, ?_⟩⟩
    obtain ⟨c, oc, vs, tk, hcd, hget, q⟩ := a3
    cases hcd
    exact ⟨cd, oc, vs, tk, rfl, (hs.2 cd fun e => a2 (by rw [e]; exact hL)).trans hget, q⟩

/-- fewer facts -/
theorem Cx.drop (C : Cx H TB os fr fs s) (hs : fs'.Sublist fs) : Cx H TB os fr fs' s := by
  have hk : (keysOf fr fs').Sublist (keysOf fr fs) := List.Sublist.append (List.Sublist.refl _) (hs.map _)
  exact ⟨fun p hp => C.fact p (hs.mem hp), C.nd.sublist hk, fun a ha => C.low a (hk.mem ha), C.old, C.size, C.frames,
    fun t ht => let ⟨ps, e, r⟩ := C.tabs t ht; ⟨ps, e, r.imp id fun ⟨cd, a1, a2, a3⟩ => ⟨cd, a1, fun h => a2 (hk.mem h), a3⟩⟩, C.tlow, C.gens, C.os⟩
/-- the frame is left -/
theorem Cx.pop {f : Fm} (C : Cx H TB os (f :: R) fs s) : Cx H TB os R fs s := by
  have hk : (keysOf R fs).Sublist (keysOf (f :: R) fs) := List.sublist_cons_self _ _
  exact ⟨C.fact, C.nd.sublist hk, fun a ha => C.low a (hk.mem ha), C.old, C.size, fun g hg => C.frames g (.tail _ hg),
    fun t ht => let ⟨ps, e, r⟩ := C.tabs t ht; ⟨ps, e, r.imp id fun ⟨cd, a1, a2, a3⟩ => ⟨cd, a1, fun h => a2 (hk.mem h), a3⟩⟩, C.tlow, C.gens, C.os⟩
/-- the facts in another order -/
theorem Cx.perm (C : Cx H TB os fr fs s) (hs : fs'.Perm fs) : Cx H TB os fr fs' s := by
  have hk : (keysOf fr fs').Perm (keysOf fr fs) := (hs.map _).append_left _
  exact ⟨fun p hp => C.fact p (hs.mem_iff.mp hp), hk.nodup_iff.mpr C.nd, fun a ha => C.low a (hk.mem_iff.mp ha), C.old, C.size, C.frames,
    fun t ht => let ⟨ps, e, r⟩ := C.tabs t ht; ⟨ps, e, r.imp id fun ⟨cd, a1, a2, a3⟩ => ⟨cd, a1, fun h => a2 (hk.mem_iff.mp h), a3⟩⟩, C.tlow, C.gens, C.os⟩
end Px
end

/- PxRules -/
section
open PySem PySem.W PySem.Calls PyProof.Rows
set_option Elab.async false
set_option linter.unusedVariables false
namespace Px

structure Gd (K : Frag) (H : Heap) (TB : List TabSpec) (mg mb : Str → Option Value) : Prop where
  kin : K.In H
  kt : ∀ t ∈ TB, K.lookup t.P = none
  g : H.Ns mainGlobals mg
  b : H.Ns builtinsNs mb
  st : ∃ ms, H.Ns cStatics ms ∧ ms "sys.recursionlimit" = none ∧ ms "sys.int_max_str_digits" = none
  bi : ∀ x : Str, x ≠ "__name__" → mb x = bootBuiltins x
  tn : ∀ t ∈ TB, t.P ≠ mainGlobals ∧ t.P ≠ builtinsNs ∧ t.P ≠ cStatics
  hd : ∀ t ∈ TB, CodeHd H t.c t.P

section
variable {prog : Program} {w : World} {K : Frag} {H : Heap} {TB : List TabSpec} {os : OsState} {mg mb : Str → Option Value}
variable {A : Around} {E : Value → Shared → Prop} {fr R : List Fm} {fs fs' F : Fct} {s : Shared} {sc : Sc} {env : Env} {L : Addr} {vs : List (Option Value)}

theorem Cx.kin (C : Cx H TB os fr fs s) (G : Gd K H TB mg mb) : K.In s.heap := fun a o e => C.old a o (G.kin a o e) fun h => by
  obtain ⟨t, ht, rfl⟩ := List.mem_map.mp h
  rw [G.kt t ht] at e; cases e
theorem Cx.nsOf (C : Cx H TB os fr fs s) {a : Addr} {m : Str → Option Value} (hn : H.Ns a m) (h : ∀ t ∈ TB, t.P ≠ a) : s.heap.Ns a m :=
  let ⟨o, es, ep, e, r⟩ := hn; ⟨o, es, ep, C.old a o e fun h' => by obtain ⟨t, ht, q⟩ := List.mem_map.mp h'; exact h t ht q, r⟩
theorem Cx.nsG (C : Cx H TB os fr fs s) (G : Gd K H TB mg mb) : s.heap.Ns mainGlobals mg := C.nsOf G.g fun t ht => (G.tn t ht).1
theorem Cx.nsB (C : Cx H TB os fr fs s) (G : Gd K H TB mg mb) : s.heap.Ns builtinsNs mb := C.nsOf G.b fun t ht => (G.tn t ht).2.1
theorem Cx.lim (C : Cx H TB os fr fs s) (G : Gd K H TB mg mb) : s.heap.NoLimit := let ⟨ms, a, b, _⟩ := G.st; ⟨ms, C.nsOf a fun t ht => (G.tn t ht).2.2, b⟩

/-- a name of the frame -/
theorem r_local {x : Str} {pos : Pos} {v : Value} {Q : Value → Shared → Prop} (C : Cx H TB os (⟨sc, env, L, vs⟩ :: R) fs s) (i : Nat) (hi : sc.nm[i]? = some x) (hv : vs[i]? = some (some v)) (k : Q v s) :
    wpAny (model prog w) A (eval (.Name x pos) env) Q E s := by
  have f := C.frames _ (.head _)
  obtain ⟨m, hn, hm⟩ := f.ns
  have hk := (Sc.parts f.good).2.1 x (List.mem_of_getElem? hi)
  have lo := f.lo
  have sp := f.scp
  dsimp only at hn hm hk lo sp
  refine wpAny_Name (wpAny_loadName_local f.kind (by unfold Env.kindOf; rw [sp]; exact hk.1) (by rw [lo]; exact hn) (hm i x _ hi hv) k) hk.2
theorem r_localN {x : Str} {v : Value} {Q : Value → Shared → Prop} (C : Cx H TB os (⟨sc, env, L, vs⟩ :: R) fs s) (i : Nat) (hi : sc.nm[i]? = some x) (hv : vs[i]? = some (some v)) (k : Q v s) :
    wpAny (model prog w) A (loadName env x) Q E s := by
  have f := C.frames _ (.head _)
  obtain ⟨m, hn, hm⟩ := f.ns
  have hk := (Sc.parts f.good).2.1 x (List.mem_of_getElem? hi)
  have lo := f.lo
  have sp := f.scp
  dsimp only at hn hm hk lo sp
  exact wpAny_loadName_local f.kind (by unfold Env.kindOf; rw [sp]; exact hk.1) (by rw [lo]; exact hn) (hm i x _ hi hv) k
theorem r_glob {x : Str} {pos : Pos} {v : Value} {Q : Value → Shared → Prop} (G : Gd K H TB mg mb) (C : Cx H TB os (⟨sc, env, L, vs⟩ :: R) fs s) (hx : nsIn K mainGlobals x = some (some v)) (i : Nat) (hi : sc.gn[i]? = some x) (k : Q v s) :
    wpAny (model prog w) A (eval (.Name x pos) env) Q E s := by
  have f := C.frames _ (.head _)
  have hk := (Sc.parts f.good).2.2.1 x (List.mem_of_getElem? hi)
  have sp := f.scp
  have gl := f.gl
  dsimp only at hk sp gl
  exact Name_function_global f.kind (by unfold Env.kindOf; rw [sp]; exact hk.1) (loadGlobal_global (by rw [gl]; exact C.nsG G) (mg_of G.kin G.g hx) k) hk.2
theorem r_blt {x : Str} {pos : Pos} {v : Value} {Q : Value → Shared → Prop} (G : Gd K H TB mg mb) (C : Cx H TB os (⟨sc, env, L, vs⟩ :: R) fs s) (hx : nsIn K mainGlobals x = some none) (hb : bootBuiltins x = some v) (hn : x ≠ "__name__") (i : Nat) (hi : sc.gn[i]? = some x) (k : Q v s) :
    wpAny (model prog w) A (eval (.Name x pos) env) Q E s := by
  have f := C.frames _ (.head _)
  have hk := (Sc.parts f.good).2.2.1 x (List.mem_of_getElem? hi)
  have sp := f.scp
  have gl := f.gl
  have bl := f.bl
  dsimp only at hk sp gl bl
  exact Name_function_global f.kind (by unfold Env.kindOf; rw [sp]; exact hk.1) (loadGlobal_builtin (by rw [gl]; exact C.nsG G) (mg_none_of G.kin G.g hx) (by rw [bl]; exact C.nsB G) ((G.bi x hn).trans hb) k) hk.2
theorem r_cell {x : Str} {pos : Pos} {v : Value} {c : Addr} {o : Obj} {Q : Value → Shared → Prop} (C : Cx H TB os (⟨sc, env, L, vs⟩ :: R) fs s) (i : Nat) (hi : sc.cn[i]? = some x) (hc : env.cells.lookup x = some c) (hm : (c, o) ∈ fs) (hd : o.data = .cell (some v)) (k : Q v s) :
    wpAny (model prog w) A (eval (.Name x pos) env) Q E s := by
  have f := C.frames _ (.head _)
  have hk := (Sc.parts f.good).2.2.2.1 x (List.mem_of_getElem? hi)
  have sp := f.scp
  dsimp only at hk sp
  exact wpAny_Name (wpAny_loadName_cell f.kind (by unfold Env.kindOf; rw [sp]; exact hk.1) hc ⟨o, C.fact _ hm, hd⟩ k) hk.2
theorem r_free {x : Str} {pos : Pos} {v : Value} {c : Addr} {o : Obj} {Q : Value → Shared → Prop} (C : Cx H TB os (⟨sc, env, L, vs⟩ :: R) fs s) (i : Nat) (hi : sc.fn[i]? = some x) (hc : env.cells.lookup x = some c) (hm : (c, o) ∈ fs) (hd : o.data = .cell (some v)) (k : Q v s) :
    wpAny (model prog w) A (eval (.Name x pos) env) Q E s := by
  have f := C.frames _ (.head _)
  have hk := (Sc.parts f.good).2.2.2.2.1 x (List.mem_of_getElem? hi)
  have sp := f.scp
  dsimp only at hk sp
  exact wpAny_Name (wpAny_loadName_free f.kind (by unfold Env.kindOf; rw [sp]; exact hk.1) hc ⟨o, C.fact _ hm, hd⟩ k hk.2.2) hk.2.1
/-- a name is stored -/
theorem r_store {x : Str} {v : Value} {Q : Unit → Shared → Prop} (C : Cx H TB os (⟨sc, env, L, vs⟩ :: R) fs s) (i : Nat) (hi : sc.nm[i]? = some x) (hl : i < vs.length)
    (k : ∀ s', Cx H TB os (⟨sc, env, L, vs.set i (some v)⟩ :: R) fs s' → Q () s') : wpAny (model prog w) A (storeName env x v) Q E s := by
  have f := C.frames _ (.head _)
  obtain ⟨m, hn, hm⟩ := f.ns
  have hk := (Sc.parts f.good).2.1 x (List.mem_of_getElem? hi)
  have lo := f.lo
  have sp := f.scp
  have kd := f.kind
  dsimp only at hn hm hk lo sp kd
  refine wpAny_storeName_local (by unfold Env.kindOf; rw [sp]; exact hk.1) (by rw [lo]; exact hn) (fun h' hn' hs' => k _ ?_) (by rw [kd]; rfl)
  rw [lo] at hn' hs'
  exact C.store hm hn' hs' hi hl _
theorem r_bind {x : Str} {v : Value} {Q : Unit → Shared → Prop} (C : Cx H TB os (⟨sc, env, L, vs⟩ :: R) fs s) (i : Nat) (hi : sc.nm[i]? = some x) (hl : i < vs.length)
    (k : ∀ s', Cx H TB os (⟨sc, env, L, vs.set i (some v)⟩ :: R) fs s' → Q () s') : wpAny (model prog w) A (bindName env x v) Q E s := wpAny_bindName (r_store C i hi hl k)

theorem r_int {i : Int} {k' : Nat} {pos : Pos} {Q : Value → Shared → Prop} (C : Cx H TB os fr fs s) (k : ∀ t s', Cx H TB os fr fs s' → Q (.int i t) s') : wpAny (model prog w) A (eval (.Constant (.int i) k' pos) env) Q E s :=
  wpAny_Constant_int (k _ _ (C.tok _))
theorem r_str {x : Str} {k' : Nat} {pos : Pos} {Q : Value → Shared → Prop} (C : Cx H TB os fr fs s) (k : ∀ t s', Cx H TB os fr fs s' → Q (.str x t) s') : wpAny (model prog w) A (eval (.Constant (.str x) k' pos) env) Q E s :=
  Constant_str (k _ _ (C.tok _))

theorem CodeRec_keep {h h' : Heap} {cd : Value} {q : Str} (x : h.CodeRec cd q) (k : ∀ b o, h.get? b = some o → h'.get? b = some o) : h'.CodeRec cd q := x.keeps k

theorem args_vs {nm : List Str} {binds : List (Str × Value)} {rest : List Str} (hnm : nm = binds.map (·.1) ++ rest) (nd : nm.Nodup) :
    ∀ (i : Nat) (x : Str) (v : Option Value), nm[i]? = some x → (binds.map (fun b => some b.2) ++ List.replicate rest.length none)[i]? = some v → binds.reverse.lookup x = v := by
  intro i x v hi hv
  subst hnm
  have key : ∀ (l : List (Str × Value)), (l.map (·.1)).Nodup → ∀ p ∈ l, l.lookup p.1 = some p.2 := by
    intro l
    induction l with
    | nil => intro _ p hp; cases hp
    | cons q r ih =>
      intro nd p hp
      rw [List.map_cons, List.nodup_cons] at nd
      rcases List.mem_cons.mp hp with rfl | hp
      · rw [List.lookup_cons, beq_self_eq_true]
      · rw [List.lookup_cons]
        have : (p.1 == q.1) = false := beq_eq_false_iff_ne.mpr fun e => nd.1 (e ▸ List.mem_map_of_mem hp)
        rw [this]; exact ih nd.2 p hp
  have no : ∀ (l : List (Str × Value)) (x : Str), x ∉ l.map (·.1) → l.lookup x = none := by
    intro l x
    induction l with
    | nil => intro _; rfl
    | cons q r ih =>
      intro h
      rw [List.map_cons, List.mem_cons, not_or] at h
      rw [List.lookup_cons, beq_eq_false_iff_ne.mpr h.1]; exact ih h.2
  have nb := (List.nodup_append.mp nd).1
  have nr : (binds.reverse.map (·.1)).Nodup := by rw [List.map_reverse]; exact (List.reverse_perm _).nodup_iff.mpr nb
  by_cases hlt : i < binds.length
  · rw [List.getElem?_append_left (by rw [List.length_map]; exact hlt)] at hi hv
    rw [List.getElem?_map] at hi hv
    obtain ⟨p, hp, rfl⟩ := Option.map_eq_some_iff.mp hi
    rw [hp] at hv
    cases hv
    exact key _ nr p (List.mem_reverse.mpr (List.mem_of_getElem? hp))
  · rw [List.getElem?_append_right (by rw [List.length_map]; omega)] at hi hv
    have hx := List.mem_of_getElem? hi
    have hv' := List.mem_of_getElem? hv
    rw [(List.mem_replicate.mp hv').2]
    refine no _ x fun h => ?_
    rw [List.map_reverse, List.mem_reverse] at h
    exact (List.nodup_append.mp nd).2.2 x h x hx rfl

/-- a frame is entered: no cells -/
theorem Cx.enter (C : Cx H TB os fr fs s) {h' : Heap} {binds : List (Str × Value)} {rest : List Str} {env : Env} (hn : h'.Ns s.heap.objs.size (fun x => binds.reverse.lookup x)) (k : ∀ b o, s.heap.get? b = some o → h'.get? b = some o)
    (hnm : sc.nm = binds.map (·.1) ++ rest) (good : sc.good = true) (fr' : env.frame = some s.heap.objs.size) (lo : env.locals = s.heap.objs.size) (scp : env.scope = sc.scope) (gl : env.globals = mainGlobals) (bl : env.builtins = builtinsNs) (t : Nat) :
    Cx H TB os (⟨sc, env, s.heap.objs.size, binds.map (fun b => some b.2) ++ List.replicate rest.length none⟩ :: fr) fs { s with heap := h', toks := t } := by
  have hs : s.heap.objs.size < h'.objs.size := hn.lt
  have C' := C.keeps k (Nat.le_of_lt hs) t C.gens
  have hL : s.heap.objs.size ∉ keysOf fr fs := fun h => absurd (C.lt h) (Nat.lt_irrefl _)
  have nd := (Sc.parts good).2.2.2.2.2
  refine ⟨C'.fact, List.nodup_cons.mpr ⟨hL, C.nd⟩, fun a ha => ?_, C'.old, C'.size, fun f hf => ?_, fun t ht => ?_, C.tlow, C.gens, C.os⟩
  · rcases List.mem_cons.mp ha with rfl | ha
    · exact C.size
    · exact C.low a ha
  · rcases List.mem_cons.mp hf with rfl | hf
    · exact ⟨fr', lo, scp, good, gl, bl, _, hn, args_vs hnm nd⟩
    · exact C'.frames f hf
  · obtain ⟨ps, e, r⟩ := C.tabs t ht
    refine ⟨ps, k _ _ e, r.imp id fun ⟨cd, a1, a2, a3⟩ => ⟨cd, a1, fun hm => ?_, a3.keeps k⟩⟩
    rcases List.mem_cons.mp hm with h | h
    · obtain ⟨c, oc, vs, tk, hcd, hget, _⟩ := a3
      cases hcd
      subst h
      exact absurd (Heap.lt_size hget) (Nat.lt_irrefl _)
    · exact a2 h

theorem r_code {R' : Result → Shared → Prop} {f : Addr} {o : Obj} {fd : FuncData} {body : List Stmt} {args : Args} {binds : List (Str × Value)} {rest : List Str} (G : Gd K H TB mg mb) (C : Cx H TB os fr fs s) (hroom : A.depth < recursionLimit)
    (sc : Sc) (good : sc.good = true)
    (ho : s.heap.get? f = some o) (hd : o.data = .func fd) (hcd : s.heap.CodeRec fd.code fd.qualname) (hbody : fd.body = .stmts body) (hbind : BindsTo s fd args binds)
    (scp : fd.scope = sc.scope) (gl : fd.globals = mainGlobals) (bl : fd.builtins = builtinsNs) (hnc : sc.cn = []) (hall : sc.scope.names.all (fun x => x.2 != .cell) = true) (hgen : sc.scope.isGenerator = false) (hco : sc.scope.isCoroutine = false)
    (hnm : sc.nm = binds.map (·.1) ++ rest)
    (k : ∀ L s', Cx H TB os (⟨sc, callEnv fd L f, L, binds.map (fun b => some b.2) ++ List.replicate rest.length none⟩ :: fr) fs s' →
      wpAny (model prog w) (A.deeper (callEnv fd L f)) (execs body (callEnv fd L f)) (fun fl s' => R' (.ok (.ret (match fl with | .ret v => v | _ => .none))) s')
        (fun e s' => wpAny (model prog w) (A.deeper (callEnv fd L f)) (leaving (callEnv fd L f) e) (fun _ s'' => R' (.error e) s'') (fun e' s'' => R' (.error e') s'') s') s') :
    codeAny (model prog w) A (.call (.ref f) args) R' s := by
  have hp := Sc.parts good
  refine codeAny_call_def hroom ho hd (C.lim G) hcd hbody hbind (fun x hx => ?_) (fun x hx => ?_) (fun h₀ hn hk => k _ _ ?_) (scp ▸ hco) (scp ▸ hgen) (scp ▸ hp.1)
  · rw [scp] at hx
    have := List.all_eq_true.mp hall x hx
    simpa using this
  · rw [scp]; exact (hp.2.1 x.1 (by rw [hnm]; exact List.mem_append_left _ (List.mem_map_of_mem (f := (·.1)) hx))).1
  · exact C.enter hn hk hnm good rfl rfl scp gl bl _
end
end Px
end

/- PxObj -/
section
open PySem PySem.W PySem.Calls PyProof.Rows
set_option Elab.async false
set_option linter.unusedVariables false
namespace Px

/-- an object's own names, in the order of their coming -/
structure AttrsAre (nm : List Str) (es : List DictEntry) (vs : List Value) : Prop where
  len : es.length = vs.length
  le : vs.length ≤ nm.length
  at_ : ∀ (i : Nat) (e : DictEntry) (v : Value) (x : Str), es[i]? = some e → vs[i]? = some v → nm[i]? = some x → (∃ t, e.key = .str x t) ∧ e.val = v

theorem AttrsAre.nil (nm : List Str) : AttrsAre nm [] [] := ⟨rfl, Nat.zero_le _, fun i e v x h => by cases h⟩
theorem AttrsAre.strKey {nm : List Str} {es : List DictEntry} {vs : List Value} (a : AttrsAre nm es vs) {i : Nat} {e : DictEntry} (h : es[i]? = some e) : ∃ x t v, nm[i]? = some x ∧ e.key = .str x t ∧ vs[i]? = some v ∧ e.val = v := by
  obtain ⟨hl, _⟩ := List.getElem?_eq_some_iff.mp h
  have h1 : i < vs.length := a.len ▸ hl
  have h2 : i < nm.length := Nat.lt_of_lt_of_le h1 a.le
  obtain ⟨⟨t, q⟩, r⟩ := a.at_ i e _ _ h (List.getElem?_eq_getElem h1) (List.getElem?_eq_getElem h2)
  exact ⟨_, t, _, List.getElem?_eq_getElem h2, q, List.getElem?_eq_getElem h1, r⟩
theorem AttrsAre.noRef {nm : List Str} {es : List DictEntry} {vs : List Value} (a : AttrsAre nm es vs) : es.any (·.refKey) = false := by
  rw [List.any_eq_false]
  intro e he
  obtain ⟨i, hi⟩ := List.mem_iff_getElem?.mp he
  obtain ⟨x, t, v, _, q, _⟩ := a.strKey hi
  unfold DictEntry.refKey
  rw [q]; simp
theorem isStr_of {k : Value} {x y : Str} {t : Tok} (h : k = .str x t) : k.isStr y = decide (x = y) := by
  subst h
  show (x == y) = _
  by_cases e : x = y
  · subst e; simp
  · rw [beq_eq_false_iff_ne.mpr e, decide_eq_false e]
theorem nodup_get {nm : List Str} (nd : nm.Nodup) {i j : Nat} {x : Str} (hi : nm[i]? = some x) (hj : nm[j]? = some x) : i = j := by
  obtain ⟨h1, e1⟩ := List.getElem?_eq_some_iff.mp hi
  obtain ⟨h2, e2⟩ := List.getElem?_eq_some_iff.mp hj
  exact (List.getElem_inj nd).mp (e1.trans e2.symm)
theorem find_at {es : List DictEntry} {p : DictEntry → Bool} {i : Nat} {e : DictEntry} (hi : es[i]? = some e) (hp : p e = true) (hu : ∀ j e', es[j]? = some e' → p e' = true → j = i) : es.find? p = some e := by
  induction es generalizing i with
  | nil => cases hi
  | cons a r ih =>
    rw [List.find?_cons]
    cases ha : p a with
    | true =>
      have := hu 0 a rfl ha
      subst this
      cases hi; rfl
    | false =>
      cases i with
      | zero => cases hi; rw [hp] at ha; cases ha
      | succ i => exact ih (i := i) (by simpa using hi) fun j e' h1 h2 => by have := hu (j + 1) e' (by simpa using h1) h2; omega
theorem AttrsAre.get {nm : List Str} {es : List DictEntry} {vs : List Value} (a : AttrsAre nm es vs) (nd : nm.Nodup) {i : Nat} {x : Str} {v : Value} (hi : nm[i]? = some x) (hv : vs[i]? = some v) : getL x es = some (some v) := by
  obtain ⟨hl, _⟩ := List.getElem?_eq_some_iff.mp hv
  have he := List.getElem?_eq_getElem (l := es) (i := i) (by rw [a.len]; exact hl)
  obtain ⟨⟨t, q⟩, r⟩ := a.at_ i _ v x he hv hi
  unfold getL
  rw [find_at he (by rw [isStr_of q]; simp) fun j e' h1 h2 => ?_]
  · show some (some _) = _
    rw [r]
  · obtain ⟨y, t', _, hy, q', _⟩ := a.strKey h1
    rw [isStr_of q', decide_eq_true_eq] at h2
    subst h2
    exact nodup_get nd hy hi
theorem AttrsAre.miss {nm : List Str} {es : List DictEntry} {vs : List Value} (a : AttrsAre nm es vs) {x : Str} (hx : ∀ i, i < vs.length → nm[i]? ≠ some x) : getL x es = some none := by
  unfold getL
  have : es.find? (·.key.isStr x) = none := List.find?_eq_none.mpr fun e he => by
    obtain ⟨i, hi⟩ := List.mem_iff_getElem?.mp he
    obtain ⟨y, t, v, hy, q, hv, _⟩ := a.strKey hi
    rw [isStr_of q, decide_eq_true_eq]
    rintro rfl
    exact hx i (List.getElem?_eq_some_iff.mp hv).1 hy
  rw [this, a.noRef]; rfl
theorem putL_at {x : Str} {h : Int} {k v : Value} : ∀ {es : List DictEntry} {i : Nat} {e : DictEntry}, es[i]? = some e → e.key.isStr x = true → (∀ j e', es[j]? = some e' → e'.key.isStr x = true → j = i) → putL x h k v es = es.set i ⟨e.hash, e.key, v⟩
  | [], _, _, hi, _, _ => by cases hi
  | a :: r, i, e, hi, hp, hu => by
    unfold putL
    cases ha : a.key.isStr x with
    | true =>
      have := hu 0 a rfl ha
      subst this
      cases hi; rw [if_pos rfl]; rfl
    | false =>
      rw [if_neg Bool.false_ne_true]
      cases i with
      | zero => cases hi; rw [hp] at ha; cases ha
      | succ i => rw [putL_at (i := i) (by simpa using hi) hp fun j e' h1 h2 => by have := hu (j + 1) e' (by simpa using h1) h2; omega]; rfl
theorem putL_new {x : Str} {h : Int} {k v : Value} : ∀ {es : List DictEntry}, (∀ e ∈ es, e.key.isStr x = false) → putL x h k v es = es ++ [⟨h, k, v⟩]
  | [], _ => rfl
  | a :: r, hx => by
    unfold putL
    rw [if_neg (by rw [hx a (.head _)]; exact Bool.false_ne_true), putL_new fun e he => hx e (.tail _ he)]; rfl
theorem AttrsAre.set {nm : List Str} {es : List DictEntry} {vs : List Value} (a : AttrsAre nm es vs) (nd : nm.Nodup) {i : Nat} {x : Str} {v : Value} {h : Int} {t : Tok} (hi : nm[i]? = some x) (hl : i < vs.length) :
    AttrsAre nm (putL x h (.str x t) v es) (vs.set i v) := by
  have he := List.getElem?_eq_getElem (l := es) (i := i) (by rw [a.len]; exact hl)
  obtain ⟨⟨t', q⟩, r⟩ := a.at_ i _ _ x he (List.getElem?_eq_getElem hl) hi
  rw [putL_at he (by rw [isStr_of q]; simp) fun j e' h1 h2 => by
    obtain ⟨y, t', _, hy, q', _⟩ := a.strKey h1
    rw [isStr_of q', decide_eq_true_eq] at h2
    subst h2
    exact nodup_get nd hy hi]
  refine ⟨by rw [List.length_set, List.length_set, a.len], by rw [List.length_set]; exact a.le, fun j e' v' y h1 h2 h3 => ?_⟩
  by_cases e : i = j
  · subst e
    rw [List.getElem?_set_self (by rw [a.len]; exact hl)] at h1
    rw [List.getElem?_set_self hl] at h2
    cases h1; cases h2
    rw [hi] at h3; cases h3
    exact ⟨⟨_, q⟩, rfl⟩
  · rw [List.getElem?_set_ne e] at h1 h2
    exact a.at_ j e' v' y h1 h2 h3
theorem AttrsAre.add {nm : List Str} {es : List DictEntry} {vs : List Value} (a : AttrsAre nm es vs) (nd : nm.Nodup) {x : Str} {v : Value} {h : Int} {t : Tok} (hi : nm[vs.length]? = some x) :
    AttrsAre nm (putL x h (.str x t) v es) (vs ++ [v]) := by
  rw [putL_new fun e he => by
    obtain ⟨j, hj⟩ := List.mem_iff_getElem?.mp he
    obtain ⟨y, t', v', hy, q', hv, _⟩ := a.strKey hj
    rw [isStr_of q', decide_eq_false_iff_not]
    rintro rfl
    have := nodup_get nd hy hi
    have := (List.getElem?_eq_some_iff.mp hv).1
    omega]
  refine ⟨by rw [List.length_append, List.length_append, a.len]; rfl, ?_, fun j e' v' y h1 h2 h3 => ?_⟩
  · rw [List.length_append]
    exact (List.getElem?_eq_some_iff.mp hi).1
  · by_cases e : j < vs.length
    · rw [List.getElem?_append_left (by rw [a.len]; exact e)] at h1
      rw [List.getElem?_append_left e] at h2
      exact a.at_ j e' v' y h1 h2 h3
    · have hj : j = vs.length := by
        have := (List.getElem?_eq_some_iff.mp h2).1
        rw [List.length_append, List.length_singleton] at this
        omega
      subst hj
      rw [List.getElem?_append_right (Nat.le_refl _), Nat.sub_self] at h2
      rw [List.getElem?_append_right (by rw [a.len]; exact Nat.le_refl _), a.len, Nat.sub_self] at h1
      cases h1; cases h2
      rw [hi] at h3; cases h3
      exact ⟨⟨_, rfl⟩, rfl⟩

/-- a class of the text whose instances keep plain names -/
def clsOk (K : Frag) (C : Addr) (nm : List Str) : Bool :=
  plainGet K C "" && hasDictIn K C && (findIn K (.ref C) "__setattr__" == some (some (.builtin "object.__setattr__"))) && plainOver K C && decide nm.Nodup &&
  nm.all fun x => (match findIn K (.ref C) x with | some a => noGet K a | none => false) && takerIn K C x == some none

section
variable {prog : Program} {w : World} {K : Frag} {H : Heap} {TB : List TabSpec} {os : OsState} {mg mb : Str → Option Value}
variable {A : Around} {E : Value → Shared → Prop} {fr R : List Fm} {fs fs' F : Fct} {s : Shared}

structure ClsOk (K : Frag) (C : Addr) (nm : List Str) : Prop where
  get : plainGet K C "" = true
  dict : hasDictIn K C = true
  sa : findIn K (.ref C) "__setattr__" = some (some (.builtin "object.__setattr__"))
  over : plainOver K C = true
  nd : nm.Nodup
  each : ∀ x ∈ nm, (∃ a, findIn K (.ref C) x = some a ∧ noGet K a = true) ∧ takerIn K C x = some none
theorem ClsOk.of {C : Addr} {nm : List Str} (h : clsOk K C nm = true) : ClsOk K C nm := by
  unfold clsOk at h
  simp only [Bool.and_eq_true, List.all_eq_true, decide_eq_true_eq, beq_iff_eq] at h
  obtain ⟨⟨⟨⟨⟨h1, h2⟩, h3⟩, h4⟩, h5⟩, h6⟩ := h
  refine ⟨h1, h2, h3, h4, h5, fun x hx => ⟨?_, (h6 x hx).2⟩⟩
  have := (h6 x hx).1
  split at this
  · rename_i a e; exact ⟨a, e, this⟩
  · cases this

theorem Cx.inst (C : Cx H TB os fr fs s) {x C_ dx : Addr} {es : List DictEntry} {n : Nat} (h1 : (x, instObj C_ dx) ∈ fs) (h2 : (dx, dictOf es n) ∈ fs) : W.InstAt s.heap x (instObj C_ dx) C_ (some (dictOf es n)) :=
  ⟨C.fact _ h1, rfl, rfl, C.fact _ h2⟩

theorem r_get {x C_ dx : Addr} {nm : List Str} {es : List DictEntry} {n : Nat} {vs : List Value} {name : Str} {v : Value} {expr : Bool} {Q : Value → Shared → Prop} (G : Gd K H TB mg mb) (C : Cx H TB os fr fs s) (h1 : (x, instObj C_ dx) ∈ fs) (h2 : (dx, dictOf es n) ∈ fs)
    (a : AttrsAre nm es vs) (c : ClsOk K C_ nm) (i : Nat) (hi : nm[i]? = some name) (hv : vs[i]? = some v) (hh : handedIn v = true) (k : ∀ s', Cx H TB os fr fs s' → Q v s') : wpAny (model prog w) A (getAttr (.ref x) name expr) Q E s := by
  obtain ⟨⟨at', ha, hg⟩, _⟩ := c.each name (List.mem_of_getElem? hi)
  exact get_value (C.kin G) (C.inst h1 h2) (plainGet_of c.get).1 (findObj_own c.dict ha hg (a.get c.nd hi hv)) hh (k _ (C.tok _))

theorem r_osa {g : Obj → Fct} {x C_ dx : Addr} {nm : List Str} {es es' : List DictEntry} {n : Nat} {name : Str} {tk : Tok} {v : Value} {R' : Result → Shared → Prop} (G : Gd K H TB mg mb) (C : Cx H TB os fr fs s) (h1 : (x, instObj C_ dx) ∈ fs)
    (h2 : (dx, dictOf es n) ∈ fs) (c : ClsOk K C_ nm) (hx : name ∈ nm) (hl : (getL name es).isSome = true) (hz : es.length < 1000)
    (hput : (putL name (PyData.keyHash w.params name) (.str name s.toks) v es) = es')
    (U : ∀ o', Upd dx (dictOf es n) o' fs (g o'))
    (k : ∀ s' n', Cx H TB os fr (g (dictOf es' n')) s' → R' (.ok (.ret .none)) s') :
    codeAny (model prog w) A (.call (.builtin "object.__setattr__") ⟨[.ref x, .str name tk, v], []⟩) R' s := by
  have I := C.inst h1 h2
  have X := C.kin G
  refine osa_open X I c.over (c.each name hx).2 fun b => ?_
  obtain ⟨cd, hc, hd'⟩ := any_some c.dict
  have D := C.fact _ h2
  have hxx := C.fact _ h1
  refine wpAny_bind (wpAny_pure (wpAny_bind (wpAny_bind (wpAny_loadPart hxx (wpAny_bind ((looks_clsIn X hc).here ?_))))))
  rw [hd']
  refine wpAny_pure (a := some dx) (wpAny_bind (wpAny_pure (wpAny_bind ?_)))
  unfold nsSet
  refine wpAny_bind (wpAny_bind (wpAny_askSetting (wpAny_pure (wpAny_bind (wpAny_mkText (wpAny_bind (wpAny_loadPart D ?_)))))))
  dsimp only
  have cc : (!es.toArray.any (·.key.isStr name) && es.toArray.any (·.refKey)) = false := by
    rw [← Array.any_toList, ← Array.any_toList]
    unfold getL at hl
    split at hl
    · rename_i en he
      rw [List.any_eq_true.mpr ⟨en, List.mem_of_find?_eq_some he, List.find?_some he⟩]; rfl
    · split at hl
      · cases hl
      · rename_i z; rw [Bool.not_eq_true] at z; rw [z, Bool.and_false]
  rw [aRefKeyMayBeTheName_at, cc]
  have hput' : Obj.putName name (PyData.keyHash w.params name) (.str name s.toks) v (dictOf es n) = dictOf es' (putN name es n) := by rw [putName_dict, hput]
  refine wpAny_updatePart D ?_
  have hu : (s.heap.update dx (Obj.putName name (PyData.keyHash w.params name) (.str name s.toks) v)).get? dx = some (dictOf es' (putN name es n)) := by
    rw [Heap.get?_update_self _ D (by rw [hput']; rfl), hput']
  have hz' : es'.length ≤ 1000 := by
    rw [← hput]
    have : ∀ (l : List DictEntry), (putL name (PyData.keyHash w.params name) (.str name s.toks) v l).length ≤ l.length + 1 := by
      intro l
      induction l with
      | nil => exact Nat.le_refl _
      | cons e r ih => unfold putL; split <;> simp only [List.length_cons] <;> omega
    have := this es
    omega
  refine wpAny_bind (wpAny_lookBehind hu (pastItsLine_dict (by rw [List.size_toArray, sizeLine_eq]; omega)) ?_)
  exact wpAny_pure (k _ _ (C.upd (U _) (Heap.SameBut.update ..) hu _))

/-- an own name is stored anew -/
theorem r_setattr {x C_ dx : Addr} {nm : List Str} {es : List DictEntry} {n : Nat} {vs : List Value} {name : Str} {v : Value} {Q : Unit → Shared → Prop} {g : Obj → Fct} (G : Gd K H TB mg mb) (C : Cx H TB os fr fs s) (h1 : (x, instObj C_ dx) ∈ fs)
    (h2 : (dx, dictOf es n) ∈ fs) (a : AttrsAre nm es vs) (c : ClsOk K C_ nm) (i : Nat) (hi : nm[i]? = some name) (hl : i < vs.length) (hz : nm.length < 1000) (U : ∀ o', Upd dx (dictOf es n) o' fs (g o'))
    (k : ∀ s' es' n', AttrsAre nm es' (vs.set i v) → Cx H TB os fr (g (dictOf es' n')) s' → Q () s') : wpAny (model prog w) A (setAttr (.ref x) name v) Q E s := by
  have X := C.kin G
  refine set_plain X (C.inst h1 h2) c.sa ?_
  have he : es.length < 1000 := by rw [a.len]; exact Nat.lt_of_le_of_lt a.le hz
  refine r_osa G (C.tok _) h1 h2 c (List.mem_of_getElem? hi) ?_ he rfl U fun s' n' C' => ?_
  · rw [a.get c.nd hi (List.getElem?_eq_getElem hl)]; rfl
  · exact k s' _ n' (a.set c.nd hi hl) C'
/-- a new own name -/
theorem r_setnew {x C_ dx : Addr} {nm : List Str} {es : List DictEntry} {n : Nat} {vs : List Value} {name : Str} {v : Value} {Q : Unit → Shared → Prop} {g : Obj → Fct} (G : Gd K H TB mg mb) (C : Cx H TB os fr fs s) (h1 : (x, instObj C_ dx) ∈ fs)
    (h2 : (dx, dictOf es n) ∈ fs) (a : AttrsAre nm es vs) (c : ClsOk K C_ nm) (hi : nm[vs.length]? = some name) (hz : nm.length < 1000) (U : ∀ o', Upd dx (dictOf es n) o' fs (g o'))
    (k : ∀ s' es' n', AttrsAre nm es' (vs ++ [v]) → Cx H TB os fr (g (dictOf es' n')) s' → Q () s') : wpAny (model prog w) A (setAttr (.ref x) name v) Q E s := by
  have X := C.kin G
  refine set_plain X (C.inst h1 h2) c.sa ?_
  have he : es.length < 1000 := by rw [a.len]; exact Nat.lt_of_le_of_lt a.le hz
  refine r_osa G (C.tok _) h1 h2 c (List.mem_of_getElem? hi) ?_ he rfl U fun s' n' C' => ?_
  · rw [a.miss fun j hj hj' => ?_]
    · rfl
    · have := nodup_get c.nd hj' hi; omega
  · exact k s' _ n' (a.add c.nd hi) C'
/-- a method of an object -/
theorem r_method {x C_ dx : Addr} {nm : List Str} {es : List DictEntry} {n : Nat} {vs : List Value} {name : Str} {f : Addr} {pl : Sem Bool} {Q : Value × List Value → Shared → Prop} (G : Gd K H TB mg mb) (C : Cx H TB os fr fs s) (h1 : (x, instObj C_ dx) ∈ fs)
    (h2 : (dx, dictOf es n) ∈ fs) (a : AttrsAre nm es vs) (c : ClsOk K C_ nm) (hf : findIn K (.ref C_) name = some (some (.ref f))) (ht : isFn K (.ref f) = true) (hx : nm.contains name = false) (k : Q (.ref f, [.ref x]) s) :
    wpAny (model prog w) A (getMethod (.ref x) name pl) Q E s :=
  method_fn (C.kin G) (C.inst h1 h2) (plainGet_of c.get).1 (plainGet_of c.get).2 hf (beq_iff_eq.mp ht) (by
    show (lookIn name (dictOf es n)).map _ = _
    rw [lookIn_dict, a.miss fun j hj hj' => ?_]
    · rfl
    · rw [List.contains_iff_mem.mpr (List.mem_of_getElem? hj')] at hx; cases hx) k

/-- a def of the text, as the written part has it -/
structure Fn (K : Frag) (f : Addr) (sc : Sc) (fd : FuncData) (body : List Stmt) : Prop where
  at_ : ∃ o, K.lookup f = some o ∧ o.data = .func fd
  body : fd.body = .stmts body
  code : codeIn K fd.code fd.qualname = true
  scp : fd.scope = sc.scope
  gl : fd.globals = mainGlobals
  bl : fd.builtins = builtinsNs
  good : (sc.good && !sc.scope.isGenerator && !sc.scope.isCoroutine) = true
  clo : fd.closure = []

theorem r_codeF {R' : Result → Shared → Prop} {f : Addr} {sc : Sc} {fd : FuncData} {body : List Stmt} {args : Args} {rest : List Str} (G : Gd K H TB mg mb) (C : Cx H TB os fr fs s) (X : Fn K f sc fd body) (hroom : A.depth < recursionLimit)
    (binds : List (Str × Value)) (hbind : BindsTo s fd args binds) (hnc : sc.cn = []) (hall : sc.scope.names.all (fun x => x.2 != .cell) = true) (hnm : sc.nm = binds.map (·.1) ++ rest)
    (k : ∀ L s', Cx H TB os (⟨sc, callEnv fd L f, L, binds.map (fun b => some b.2) ++ List.replicate rest.length none⟩ :: fr) fs s' →
      wpAny (model prog w) (A.deeper (callEnv fd L f)) (execs body (callEnv fd L f)) (fun fl s' => R' (.ok (.ret (match fl with | .ret v => v | _ => .none))) s')
        (fun e s' => wpAny (model prog w) (A.deeper (callEnv fd L f)) (leaving (callEnv fd L f) e) (fun _ s'' => R' (.error e) s'') (fun e' s'' => R' (.error e') s'') s') s') :
    codeAny (model prog w) A (.call (.ref f) args) R' s := by
  obtain ⟨o, ho, hd⟩ := X.at_
  have g := X.good
  simp only [Bool.and_eq_true, Bool.not_eq_true'] at g
  exact r_code G C hroom sc g.1.1 (C.kin G _ _ ho) hd (codeRec_of (C.kin G) X.code) X.body hbind X.scp X.gl X.bl hnc hall g.1.2 g.2 hnm k

/-- a call of a def, what it gives back | what flies out of it -/
theorem r_call {Q : Value → Shared → Prop} {f : Addr} {sc : Sc} {fd : FuncData} {body : List Stmt} {vals : List Value} {kw : List (Str × Value)} {rest : List Str} (G : Gd K H TB mg mb) (C : Cx H TB os fr fs s) (X : Fn K f sc fd body) (hroom : A.depth < recursionLimit)
    (binds : List (Str × Value)) (hbind : BindsTo s fd ⟨vals, kw⟩ binds) (hnc : sc.cn = []) (hall : sc.scope.names.all (fun x => x.2 != .cell) = true) (hnm : sc.nm = binds.map (·.1) ++ rest)
    (k : ∀ L s', Cx H TB os (⟨sc, callEnv fd L f, L, binds.map (fun b => some b.2) ++ List.replicate rest.length none⟩ :: fr) fs s' →
      wpAny (model prog w) (A.deeper (callEnv fd L f)) (execs body (callEnv fd L f)) (fun fl s' => Q (match fl with | .ret v => v | _ => .none) s')
        (fun e s' => wpAny (model prog w) (A.deeper (callEnv fd L f)) (leaving (callEnv fd L f) e) (fun _ s'' => E e s'') (fun e' s'' => E e' s'') s') s') :
    wpAny (model prog w) A (PySem.call (.ref f) vals kw) Q E s := wpAny_call (r_codeF G C X hroom binds hbind hnc hall hnm k)

/-- an object of a class of the text is made: its __init__ is next -/
theorem r_make {R' : Result → Shared → Prop} {C_ fI : Addr} {rest : List Value} {kw : List (Str × Value)} (G : Gd K H TB mg mb) (C : Cx H TB os fr fs s) (hm : makesIn K C_ = true)
    (hi : findIn K (.ref C_) "__init__" = some (some (.ref fI))) (hf : typeIn K (.ref fI) = some (.type "function"))
    (k : ∀ x dx s', Cx H TB os fr ((x, instObj C_ dx) :: (dx, dictOf [] 0) :: fs) s' →
      codeAny (model prog w) (A.under (.builtin "type.__call__" ⟨.ref C_ :: rest, kw⟩)) (.call (.ref fI) ⟨.ref x :: rest, kw⟩) (InitBack x R') s') :
    codeAny (model prog w) A (.call (.ref C_) ⟨rest, kw⟩) R' s := by
  obtain ⟨hh, g, d, t, os'⟩ := s
  have X := C.kin G
  refine make_core (makes_of X hm) (looks_findIn X hi) (fun self => bind_fn X self hf) (.inl rfl) (k _ hh.objs.size _ ?_)
  have C1 := C.more (h' := hh.push emptyDict) (a := hh.objs.size) (o := emptyDict) (fun b o e => Heap.get?_push_of_some _ e) (by rw [Heap.size_push]; exact Nat.le_succ _) t C.gens (Nat.le_refl _) (Heap.get?_push_size _ rfl)
  have C2 := C1.more (h' := (hh.push emptyDict).push (instObj C_ hh.objs.size)) (a := hh.objs.size + 1) (o := instObj C_ hh.objs.size) (fun b o e => Heap.get?_push_of_some _ e) (by show (hh.push emptyDict).objs.size ≤ _; rw [Heap.size_push (hh.push emptyDict)]; exact Nat.le_succ _) t C.gens
    (by show (hh.push emptyDict).objs.size ≤ _; rw [Heap.size_push]; exact Nat.le_refl _) (by have := Heap.get?_push_size (hh.push emptyDict) (o := instObj C_ hh.objs.size) rfl; rwa [Heap.size_push] at this)
  exact C2
end
end Px
end

/- PxC -/
section
open PySem PySem.W PySem.Calls PyProof.Rows
set_option Elab.async false
set_option linter.unusedVariables false
namespace Px

/-- a code that lends a bytearray's octets out: none of these lies on a stack of ours -/
def lends (c : Code) : Bool := match c with | .builtin id _ => Builtin.Bytes.decodersThatHold.contains id | _ => false
def Clean (l : List (Code × Pos)) : Prop := ∀ x ∈ l, lends x.1 = false
theorem Clean.cons {c : Code} {p : Pos} {l : List (Code × Pos)} (h : lends c = false) (k : Clean l) : Clean ((c, p) :: l) := fun x hx => by
  rcases List.mem_cons.mp hx with rfl | hx
  · exact h
  · exact k x hx

/-- the claim's caller lies at the bottom -/
def HasCaller (l : List (Code × Pos)) : Prop := l.any (fun x => x.1.isCaller) = true
structure CleanC (l : List (Code × Pos)) : Prop where
  clean : Clean l
  caller : HasCaller l
structure CleanW (Γ : Ctx) : Prop where
  clean : Clean Γ.below
  caller : Γ.code.isCaller = true ∨ HasCaller Γ.below
theorem CleanW.push {Γ : Ctx} {p : Pos} (b : CleanW Γ) (a : lends Γ.code = false) : CleanC ((Γ.code, p) :: Γ.below) :=
  ⟨.cons a b.clean, by unfold HasCaller; rw [List.any_cons, Bool.or_eq_true]; exact b.caller⟩
theorem CleanC.at {Γ : Ctx} (b : CleanC Γ.below) : CleanW Γ := ⟨b.clean, .inr b.caller⟩

def wpC {α : Type} (M : Model) (A : Around) (t : Sem α) (Q : α → Shared → Prop) (E : Value → Shared → Prop) (s : Shared) : Prop :=
  ∀ Γ p, Γ.In A → lends Γ.code = false → CleanW Γ → Sem.wp M Γ t (fun a _ s' => Q a s') (fun e _ s' => E e s') p s
def codeC (M : Model) (A : Around) (c : Code) (R : Result → Shared → Prop) (s : Shared) : Prop :=
  ∀ Γ p, Γ.code = c → Γ.Below A → CleanC Γ.below → wpCode M Γ R p s

section
variable {α β : Type} {M : Model} {A : Around} {E : Value → Shared → Prop} {s : Shared}

theorem wpC_any {t : Sem α} {Q : α → Shared → Prop} (h : wpAny M A t Q E s) : wpC M A t Q E s := fun Γ p i _ _ => h Γ p i
theorem codeC_any {c : Code} {R : Result → Shared → Prop} (h : codeAny M A c R s) : codeC M A c R s := fun Γ p e b _ => h Γ p e b
theorem wpC_mono {t : Sem α} {Q Q' : α → Shared → Prop} {E' : Value → Shared → Prop} (h : wpC M A t Q E s) (hQ : ∀ a s, Q a s → Q' a s) (hE : ∀ e s, E e s → E' e s) : wpC M A t Q' E' s :=
  fun Γ p i a b => Sem.wp_mono M Γ t (fun x _ s => hQ x s) (fun e _ s => hE e s) p s (h Γ p i a b)
/-- a plain rule, used here -/
theorem wpC_of {t : Sem α} {Q Q' : α → Shared → Prop} (h : wpAny M A t Q' E s) (k : ∀ a s', Q' a s' → Q a s') : wpC M A t Q E s := wpC_mono (wpC_any h) k fun _ _ x => x
theorem wpC_pure {a : α} {Q : α → Shared → Prop} (h : Q a s) : wpC M A (pure a) Q E s := fun _ _ _ _ _ => h
theorem wpC_bind {m : Sem α} {f : α → Sem β} {Q : β → Shared → Prop} (h : wpC M A m (fun a s' => wpC M A (f a) Q E s') E s) : wpC M A (m >>= f) Q E s := fun Γ p i a b => by
  rw [Sem.wp_bind']
  exact Sem.wp_mono M Γ m (fun x p' s' h' => h' Γ p' i a b) (fun _ _ _ h' => h') p s (h Γ p i a b)
/-- a reading, then the rest -/
theorem wpC_seq {m : Sem α} {f : α → Sem β} {Q : β → Shared → Prop} (h : wpAny M A m (fun a s' => wpC M A (f a) Q E s') E s) : wpC M A (m >>= f) Q E s := wpC_bind (wpC_any h)
theorem wpC_tryCatch {m : Sem α} {k : Value → Sem α} {Q : α → Shared → Prop} (h : wpC M A m Q (fun e s' => wpC M A (k e) Q E s') s) : wpC M A (tryCatch m k) Q E s := fun Γ p i a b => by
  rw [Sem.wp_tryCatch']
  exact Sem.wp_mono M Γ m (fun _ _ _ h' => h') (fun e p' s' h' => h' Γ p' i a b) p s (h Γ p i a b)
theorem wpC_onRaise {m : Sem α} {k : Value → Sem Unit} {Q : α → Shared → Prop} (h : wpC M A m Q (fun e s' => wpC M A (k e) (fun _ s'' => E e s'') E s') s) : wpC M A (m.onRaise k) Q E s := fun Γ p i a b => by
  rw [Sem.wp_onRaise]
  exact Sem.wp_mono M Γ m (fun _ _ _ h' => h') (fun e p' s' h' => h' Γ p' i a b) p s (h Γ p i a b)
theorem wpC_holding {vs : List Value} {m : Sem α} {Q : α → Shared → Prop} (h : wpC M A m Q E s) : wpC M A (holding vs m) Q E s := fun Γ p i a b => by rw [Sem.wp_holding]; exact h Γ p i a b
theorem wpC_attempt {m : Sem α} {Q : Except Value α → Shared → Prop} (h : wpC M A m (fun a => Q (.ok a)) (fun e => Q (.error e)) s) : wpC M A m.attempt Q E s := fun Γ p i a b => by rw [Sem.wp_attempt]; exact h Γ p i a b
theorem wpC_standAt {pos : Pos} {Q : Unit → Shared → Prop} (h : Q () s) : wpC M A (standAt pos) Q E s := fun _ _ _ _ _ => h
theorem wpC_point {Q : Unit → Shared → Prop} (h : Q () s) : wpC M A point Q E s := fun _ _ _ _ _ => h
theorem wpC_ite {c : Prop} [Decidable c] {a b : Sem α} {Q : α → Shared → Prop} (h : if c then wpC M A a Q E s else wpC M A b Q E s) : wpC M A (if c then a else b) Q E s := by split <;> simp_all
theorem wpC_run {c : Code} {h : Option Value} {Q : Flow → Shared → Prop} (hc : codeC M (A.mark h) c (fun r s' => match r with | .ok f => Q f s' | .error e => E e s') s) (hnb : h ≠ some byPass := by intro x; cases x) :
    wpC M A (run c h) Q E s := fun Γ p i a b => by rw [Sem.wp_run]; exact hc _ p rfl (i.enter c h p hnb) (b.push a)
theorem wpC_runValue {c : Code} {Q : Value → Shared → Prop} (hc : codeC M A c (fun r s' => match r with | .ok (.ret v) => Q v s' | .ok _ => False | .error e => E e s') s) :
    wpC M A (runValue c) Q E s := fun Γ p i a b => by rw [Sem.wp_runValue]; exact hc _ p rfl (i.enter c none p (by intro x; cases x)) (b.push a)
theorem wpC_call {f : Value} {pos : List Value} {kw : List (Str × Value)} {Q : Value → Shared → Prop} (hc : codeC M A (.call f ⟨pos, kw⟩) (fun r s' => match r with | .ok (.ret v) => Q v s' | .ok _ => False | .error e => E e s') s) :
    wpC M A (call f pos kw) Q E s := wpC_runValue hc
/-- a code's own tree, nothing of the kind that lends -/
theorem codeC_of_tree {c : Code} {R : Result → Shared → Prop}
    (h : wpC M (A.under c) (M.den c) (fun fin s' => match fin with | .done f => R (.ok f) s' | .again c' => c'.quiet = true ∧ codeC M A c' R s') (fun e s' => R (.error e) s') s) (hl : lends c = false := by rfl) : codeC M A c R s := fun Γ p hc i b => by
  rw [wpCode_iff_wp, hc]
  refine Sem.wp_mono M Γ _ (fun fin p' s' h' => ?_) (fun _ _ _ h' => h') p s (h Γ p (hc ▸ i.in) (by rw [hc]; exact hl) b.at)
  cases fin with
  | done f => exact h'
  | again c' => exact ⟨h'.1, h'.2 (Γ.goto c') p' rfl (i.goto c') b⟩
theorem codeC_mono {c : Code} {R R' : Result → Shared → Prop} (h : codeC M A c R s) (hR : ∀ r s, R r s → R' r s) : codeC M A c R' s := fun Γ p hc i b => wpCode_mono hR (h Γ p hc i b)
theorem codeC_loop {c : Code} {R : Result → Shared → Prop} (hq : c.quiet = true) (hl : lends c = false) (I : Nat → Shared → Prop)
    (turn : ∀ n s, I n s → wpC M (A.under c) (M.den c)
      (fun fin s' => match fin with | .done f => R (.ok f) s' | .again c' => (c' = c ∧ ∃ m, m < n ∧ I m s') ∨ (c'.quiet = true ∧ codeC M A c' R s')) (fun e s' => R (.error e) s') s)
    (n : Nat) (h : I n s) : codeC M A c R s := by
  induction n using Nat.strongRecOn generalizing s with
  | ind n ih =>
    refine codeC_of_tree (wpC_mono (turn n s h) (fun fin s' hf => ?_) fun _ _ x => x) hl
    cases fin with
    | done f => exact hf
    | again c' =>
      rcases hf with ⟨rfl, m, hm, hI⟩ | hf
      · exact ⟨hq, ih m hm hI⟩
      · exact hf
theorem wpC_runOwn {env : Env} {c : Code} {h : Option Value} {Q : Flow → Shared → Prop}
    (hc : codeC M (A.mark h) c (fun r s' => match r with | .ok f => Q f s' | .error e => cameBackBy M A env E e s') s) (hnb : h ≠ some byPass := by intro x; cases x) : wpC M A (runOwn c env h) Q E s := by
  unfold runOwn
  exact wpC_onRaise (wpC_mono (wpC_run (E := cameBackBy M A env E) hc hnb) (fun _ _ x => x) fun _ _ x => wpC_any x)
theorem wpC_noted {env : Env} {m : Sem α} {Q : α → Shared → Prop} (h : wpC M A m Q (notedBy M A env E) s) : wpC M A (m.onRaise fun x => do noteFrame x env; theTreesLotGoes x) Q E s :=
  wpC_onRaise (wpC_mono h (fun _ _ q => q) fun _ _ hx => wpC_any (wpAny_bind (wpAny_mono hx (fun _ _ e => wpAny_theTreesLotGoes e) fun _ _ e => e)))
end

section
variable {prog : Program} {w : World} {A : Around} {E : Value → Shared → Prop} {R : Result → Shared → Prop} {s : Shared} {env : Env}

theorem codeC_func {body} (h : wpC (model prog w) (A.deeper env) (execs body env) (fun f s' => R (.ok (.ret (match f with | .ret v => v | _ => .none))) s')
      (fun e s' => wpAny (model prog w) (A.deeper env) (leaving env e) (fun _ s'' => R (.error e) s'') (fun e' s'' => R (.error e') s'') s') s) : codeC (model prog w) A (.func body env) R s := by
  refine codeC_of_tree ?_
  show wpC _ (A.deeper env) (do point; match ← (execs body env).onRaise (leaving env) with | .ret v => ret v | _ => ret .none) _ _ s
  refine wpC_bind (wpC_point (wpC_bind (wpC_onRaise (wpC_mono h (fun f s' h' => ?_) fun _ _ x => wpC_any x))))
  cases f <;> exact wpC_pure h'
theorem codeC_block {stmts : List Stmt} (h : wpC (model prog w) A (execs stmts env) (fun f s' => R (.ok f) s') (notedBy (model prog w) A env fun e s' => R (.error e) s') s) : codeC (model prog w) A (.block stmts env) R s := by
  refine codeC_of_tree ?_
  show wpC _ A (do return Fin.done (← (execs stmts env).onRaise (fun x => do noteFrame x env; theTreesLotGoes x))) _ _ s
  exact wpC_bind (wpC_noted (wpC_mono h (fun f s' h' => wpC_pure h') fun _ _ x => x))
theorem codeC_call_function {a : Addr} {args : Args} {o : Obj} {fd : FuncData} {body : List Stmt} (hroom : A.depth < recursionLimit) (ho : s.heap.get? a = some o)
    (hd' : o.data = .func fd) (hco : fd.scope.isCoroutine = false) (hgen : fd.scope.isGenerator = false) (hbody : fd.body = .stmts body) (hcd : s.heap.CodeRec fd.code fd.qualname)
    (h : wpAny (model prog w) A.in1 (bindArgs fd args) (fun binds s₁ =>
      wpAny (model prog w) A.in1 (newFunctionEnv fd.scope fd.globals fd.closure binds (fd.qualname ++ ".<locals>.") (some a) fd.code none fd.builtins)
        (fun env s₂ => s₂.heap.NoLimit ∧ codeC (model prog w) A (.func body env) R s₂) (fun e s' => R (.error e) s') s₁) (fun e s' => R (.error e) s') s) :
    codeC (model prog w) A (.call (.ref a) args) R s := by
  refine codeC_of_tree ?_
  show wpC _ A.in1 (callAny (.ref a) args) _ _ s
  refine wpC_any ?_
  simp only [callAny]
  refine wpAny_bind (wpAny_load ho ?_)
  obtain ⟨c, oc, vs, tq, hc, hoc, hdc, hq⟩ := hcd
  simp only [hd', callFunction, hco, hgen, hbody, hc]
  rw [hc] at h
  refine wpAny_bind (m := field (.ref c) 1) (wpAny_field hoc hdc hq (wpAny_bind (wpAny_pure ?_)))
  exact wpAny_bind (wpAny_mono h (fun binds s₁ h₁ => wpAny_bind (wpAny_mono h₁ (fun env s₂ h₂ => wpAny_bind (wpAny_enterFrame h₂.1 hroom (wpAny_pure (And.intro rfl h₂.2)))) fun _ _ x => x)) fun _ _ x => x)

theorem codeC_for {target it body orelse} (I : Nat → Shared → Prop)
    (turn : ∀ n s, I n s → wpAny (model prog w) A (pyNext it) (fun r s₁ => match r with
      | none => wpC (model prog w) A (execs orelse env) (fun f s₃ => R (.ok f) s₃) (notedBy (model prog w) A env fun e s' => R (.error e) s') s₁
      | some v => wpAny (model prog w) A (letOwnedTupleGo target it v) (fun _ s₁' => wpC (model prog w) A (assign target env v) (fun _ s₂ => wpC (model prog w) A (execs body env) (fun f s₃ => match f with
            | .next | .cont => ∃ m, m < n ∧ I m s₃
            | .brk => R (.ok .next) s₃
            | .ret v => R (.ok (.ret v)) s₃) (notedBy (model prog w) A env fun e s' => R (.error e) s') s₂) (notedBy (model prog w) A env fun e s' => R (.error e) s') s₁')
          (notedBy (model prog w) A env fun e s' => R (.error e) s') s₁) (notedBy (model prog w) A env fun e s' => R (.error e) s') s)
    (n : Nat) (h : I n s) : codeC (model prog w) A (.forLoop target it body orelse env) R s := by
  refine codeC_loop rfl rfl I (fun n s hI => ?_) n h
  show wpC _ A ((forTurn target it body orelse env).onRaise (fun x => do noteFrame x env; theTreesLotGoes x)) _ _ s
  refine wpC_noted ?_
  simp only [forTurn]
  refine wpC_bind (wpC_standAt (wpC_bind (wpC_any (wpAny_onRaise (wpAny_mono (turn n s hI) (fun r s₁ h₁ => ?_) fun _ _ x => wpAny_standAt x)))))
  cases r with
  | none => exact wpC_pure (.inr ⟨rfl, codeC_block h₁⟩)
  | some v =>
    refine wpC_bind (wpC_mono (wpC_any h₁) (fun _ s₁' h₁' => ?_) fun _ _ x => x)
    refine wpC_bind (wpC_mono h₁' (fun _ s₂ h₂ => wpC_bind (wpC_mono h₂ (fun f s₃ h₃ => ?_) fun _ _ x => x)) fun _ _ x => x)
    cases f with
    | next => exact wpC_pure (.inl ⟨rfl, h₃⟩)
    | cont => exact wpC_pure (.inl ⟨rfl, h₃⟩)
    | brk => exact wpC_pure h₃
    | ret v => exact wpC_pure h₃
theorem codeC_while {test body orelse} (I : Nat → Shared → Prop)
    (turn : ∀ n s, I n s → wpC (model prog w) A (isTrue test env (eval test env)) (fun b s₂ =>
        if b then wpC (model prog w) A (execs body env) (fun f s₃ => match f with
            | .next | .cont => ∃ m, m < n ∧ I m s₃
            | .brk => R (.ok .next) s₃
            | .ret v => R (.ok (.ret v)) s₃) (notedBy (model prog w) A env fun e s' => R (.error e) s') s₂
        else wpC (model prog w) A (execs orelse env) (fun f s₃ => R (.ok f) s₃) (notedBy (model prog w) A env fun e s' => R (.error e) s') s₂) (notedBy (model prog w) A env fun e s' => R (.error e) s') s)
    (n : Nat) (h : I n s) : codeC (model prog w) A (.whileLoop test body orelse env) R s := by
  refine codeC_loop rfl rfl I (fun n s hI => ?_) n h
  show wpC _ A ((whileTurn test body orelse env).onRaise (fun x => do noteFrame x env; theTreesLotGoes x)) _ _ s
  refine wpC_noted ?_
  simp only [whileTurn]
  refine wpC_bind (wpC_mono (turn n s hI) (fun b s₂ h₂ => ?_) fun _ _ x => x)
  cases b with
  | false =>
    simp only [Bool.false_eq_true, if_false] at h₂ ⊢
    exact wpC_bind (wpC_mono h₂ (fun f s₃ h₃ => wpC_pure h₃) fun _ _ x => x)
  | true =>
    simp only [if_true] at h₂ ⊢
    refine wpC_bind (wpC_mono h₂ (fun f s₃ h₃ => ?_) fun _ _ x => x)
    cases f with
    | next => exact wpC_pure (.inl ⟨rfl, h₃⟩)
    | cont => exact wpC_pure (.inl ⟨rfl, h₃⟩)
    | brk => exact wpC_pure h₃
    | ret v => exact wpC_pure h₃
end
end Px
end

/- PxTop -/
section
open PySem PySem.Spec PySem.W PySem.Calls PyProof.Rows
set_option Elab.async false
set_option linter.unusedVariables false
set_option maxRecDepth 100000
namespace Px

theorem threadC {prog : Program} {w : World} {t : Sem Fin} {s : Shared} {R : Result → Shared → Prop} (hreg : s.asleep)
    (h : wpC (model prog w) callerA t (fun fin s' => ∃ f, fin = .done f ∧ (R (.ok f) s' ∧ leftWithCleanup s'.gens = false)) (fun e s' => R (.error e) s' ∧ leftWithCleanup s'.gens = false) s) :
    ∃ n r s' s'', runN (denote table) prog w n s ⟨t, .builtin "claim.caller" {}, default, []⟩ = .halted (outcomeOf r) s' ∧
      schedN (denote table) prog w n (.single s ⟨t, .builtin "claim.caller" {}, default, []⟩) = .halted (outcomeOf r) s' ∧ s'.forget = s''.forget ∧ R r s'' := by
  have z : Sem.wp (model prog w) ⟨.builtin "claim.caller" {}, none, none, [], none⟩ t (Sem.finPost (model prog w) ⟨.builtin "claim.caller" {}, none, none, [], none⟩ fun r s' => R r s' ∧ leftWithCleanup s'.gens = false)
      (fun e _ s' => R (.error e) s' ∧ leftWithCleanup s'.gens = false) default s := by
    refine Sem.wp_mono _ _ t (fun fin p' s' h' => ?_) (fun _ _ _ h' => h') default s (h _ default caller_in (by decide) ⟨(fun x hx => by cases hx), .inl (by decide)⟩)
    obtain ⟨f, rfl, hf⟩ := h'
    exact hf
  obtain ⟨n, r, s₁, s₂, hs, hn, hfo, hR⟩ := wp_halts_full (M := model prog w) (R := R) hreg z
  exact ⟨n, r, s₂, s₁, hn, hs, hfo, hR⟩

theorem callFromC {c : ClaimW} {tree : List Value → Sem Fin} {w : World} {s : Shared} {free : Addr → Prop} {gens : Prop} {kept : Heap → Prop} (hz : s.asleep) (hgens : s.gens = #[])
    (hspec : ∀ args, c.pre args = true → WData.layableAll args = true → ∀ ord : List DictEntry → List DictEntry, (∀ l, (ord l).Perm l) →
      ∃ vs s₁, layAllW c.records (classAt s.heap) w.params ord args s = some (vs, s₁) ∧
        wpC (model c.prog w) callerA (tree vs) (fun fin s' => ∃ f, fin = .done f ∧ (c.Ends s args vs s₁ (.ok f) s' ∧ s'.os = s.os ∧ AllBare s'.gens ∧ kept s'.heap))
          (fun e s' => c.Ends s args vs s₁ (.error e) s' ∧ s'.os = s.os ∧ AllBare s'.gens ∧ kept s'.heap) s₁) :
    c.CallFrom (fun vs => ⟨tree vs, .builtin "claim.caller" {}, default, []⟩) w free gens kept s := by
  intro args hpre hlay ord hord
  obtain ⟨vs, s₁, hlaid, hcode⟩ := hspec args hpre hlay ord hord
  have hal := layAllW_rest _ _ _ hlaid
  obtain ⟨k, r, s', s'', hrun, hsched, hfo, hcase, hos, hkp⟩ := threadC (prog := c.prog) (w := w) (t := tree vs) (s := s₁)
    (R := fun r s' => c.Ends s args vs s₁ r s' ∧ s'.os = s.os ∧ kept s'.heap) (Shared.asleep_of_life hal.2.2.2 hz)
    (wpC_mono hcode (fun fin s' ⟨f, e, h1, h2, h3, h4⟩ => ⟨f, e, ⟨h1, h2, h4⟩, leftWithCleanup_false_of_bare h3⟩)
      fun e s' ⟨h1, h2, h3, h4⟩ => ⟨⟨h1, h2, h4⟩, leftWithCleanup_false_of_bare h3⟩)
  obtain ⟨eh, _, _, eo, _⟩ := Shared.forget_eq hfo
  have hcase := hcase.congr eh
  rw [← eh] at hkp
  rw [← eo] at hos
  have hlife : s'.heap.life = s.heap.life := (runN_life _ _ _ hrun).trans hal.2.2.2
  refine ⟨vs, s₁, hlaid, k, _, s', hsched, ?_, (fun _ i x hx => by rw [hgens] at hx; simp at hx), hkp, by rw [hlife], Shared.rest_eq hos⟩
  rcases hcase with ⟨v, rfl, d1, d2, d3, d4, d5⟩ | ⟨e, ob, cls, rfl, d1, d2, d3, d4, d5⟩
  · exact .inl ⟨v, rfl, d1, d2, d3, fun b o y _ => d4 b o y, d5⟩
  · exact .inr ⟨e, ob, cls, rfl, d1, d2, d3, d4, fun b o y _ => d5 b o y⟩

abbrev WalkC (q : Program) (loose : List Str) (XP : (Str → Option Value) → Heap → Prop) {α : Type} (Yf : Shared → α) (Ya : World → α) (r : RowW) (d : DefRec) (kwd : List (Str × Expr)) : Prop :=
  ∀ (w : World) (s₀ s₁ : Shared) (mg mb : Str → Option Value), Ground q loose r.records XP w s₀ mg mb s₁.heap → Yf s₀ = Ya w → ∀ (a : Addr) (o : Obj) (pm cd doc dV kV : Value), s₁.heap.get? a = some o →
    o.data = .func { docDef d.name d.params d.body d.scope pm cd doc with defaults := dV, kwdefaults := kV } → s₁.heap.CodeRec cd d.name → Dflts mg s₁.heap d.params kwd dV kV → mg d.name = some (.ref a) → s₁.gens = #[] →
    ∀ (args : List WData) (vals : List Value) (as : List Addr), Laid r.records w s₀ s₁ args vals as → r.claim.pre args = true → WData.layableAll args = true → ReadsAllW r.records (classAt s₀.heap) s₁.heap vals args as → WellAll w.params s₁.heap vals args → (∀ a ∈ as, (a == sysModules) = false) →
      wpC (model r.prog w) callerA (PySem.call (.ref a) vals) (fun v s' => GoodWG r.claim (classAt s₀.heap) (ExcName.means s₀.heap) args s₁ (.ok (.ret v)) s')
        (fun e s' => GoodWG r.claim (classAt s₀.heap) (ExcName.means s₀.heap) args s₁ (.error e) s') s₁

theorem holdsC {r : OpenRow} {q : Program} {loose : List Str} {Xt : Shared → Bool} {XP : (Str → Option Value) → Heap → Prop} {α : Type} {Yf : Shared → α} {Ya : World → α} {d : DefRec} {kwd : List (Str × Expr)} {N : Nat}
    (left : LeftO r.prog q loose Xt Yf Ya N)
    (hX : ∀ s, Xt s = true → XP (s.heap.nsMap mainGlobals) s.heap) (hXk : ∀ mg h h', XP mg h → (∀ b o, h.get? b = some o → h'.get? b = some o) → XP mg h')
    (hdef : defOf q r.name = some (d, kwd)) (hp : r.prog.theDef r.name = some (d.params, d.body, d.scope)) (hk : kwWritten? d.params.kwonlyargs d.params.kw_defaults = some kwd) (hRf : ∀ s, Xt s = true → RecFacts r.records s.heap) (hwr : (!r.writes || r.records.isEmpty) = true)
    (k1 : r.wellSaid = true) (ok : (chainsOk q && opensWell r.prog && (frees r.toRowW && r.within.isEmpty)) = true) (hb : r.prog.bare) (hw : r.toRowW.promised)
    (call : WalkC q loose XP Yf Ya r.toRowW d kwd) : r.Holds := by
  obtain ⟨ok, k5⟩ := Bool.and_eq_true_iff.mp ok
  obtain ⟨hch, o1⟩ := Bool.and_eq_true_iff.mp ok
  obtain ⟨k5, k6⟩ := Bool.and_eq_true_iff.mp k5
  obtain ⟨hsame, hu, ha, hap, hm⟩ := frees_parts k5
  refine ⟨k1, hw, ⟨hb, o1, by show r.toRowW.makers.map _ = []; rw [hm]; rfl⟩, RowW.promised.witness hw, fun w => ⟨(left.behind hX hch w).1, fun s' hs' => ?_⟩⟩
  obtain ⟨s₀, hf, hg0, s, hT, hz, hgens, hg, G00, y⟩ := (left.behind (XP := fun mg h => XP mg h ∧ RecFacts r.records h) (fun s hs => ⟨hX s hs, hRf s hs⟩) hch w).2 s' hs'
  have G0 : Ground q loose [] XP w s (s.heap.nsMap mainGlobals) (s.heap.nsMap builtinsNs) s.heap := ⟨G00.T, G00.B, G00.D, G00.TE, G00.TD, G00.W, G00.X.1, G00.cls, G00.has, G00.apart, G00.once, G00.K⟩
  have RF := G00.X.2
  refine ⟨s₀, hf, hg0, s, hT, (fun n hn => ?_), RF.1, RF.2.1, ?_⟩
  · obtain rfl : n = r.name := by split at hn <;> simp_all
    exact pinned_of_view hg G0 hdef hp hk
  have hgens : s.gens = #[] := Array.eq_empty_of_size_eq_zero (beq_iff_eq.mp hgens)
  have G : Ground q loose r.records XP w s _ _ s.heap := RF.ground G0
  refine callFromC (c := r.toRowW.claim) hz hgens fun args hpre hlay ord hord => ?_
  obtain ⟨⟨vs, s₁⟩, hlaid⟩ := Option.isSome_iff_exists.mp (layAllW_isSome (P := w.params) (ord := ord) G.has args r.args s (pre_splitW hpre).1)
  have keeps := layAllW_keeps _ _ _ hlaid
  have hal := layAllW_rest _ _ _ hlaid
  obtain ⟨as, hrd, hin, hold⟩ := reads_layAllW hord _ _ _ hlaid hlay s₁.heap (fun _ _ e => e)
  have L : Laid r.records w s s₁ args vs as := ⟨⟨ord, hord, hlaid⟩, hrd, hin, hold, keeps, hal.1.trans hgens, hal.2.2.1⟩
  have G₁ := G.keeps hXk keeps
  obtain ⟨a, o, pm, cd, doc, dV, kV, h1, h2, h3, h4, h5⟩ := G₁.fn hdef
  have h := call w s s₁ _ _ G₁ y a o pm cd doc dV kV h2 h3 h4 h5 (defOf_name hdef ▸ h1) L.gens args vs as L hpre hlay L.reads L.well (L.low G.low)
  have hi := ident_freeW hu ha hap
  have hwi : r.toRowW.claim.within = [] := List.isEmpty_iff.mp k6
  refine ⟨vs, s₁, hlaid, wpC_seq (wpAny_nsGet G₁.T.g ?_)⟩
  rw [h1]
  refine wpC_bind (wpC_mono h (fun v s' g => wpC_pure ⟨_, rfl, ?_⟩) fun e s' g => ?_)
  · have z := g.laid (c := r.toRowW.claim) hsame hwi hi L
    exact ⟨z.1, z.2.1, z.2.2, fun q => ⟨namesKept_of hT hg _ keeps g.2.1.old, noTable hwr q⟩⟩
  · have z := g.laid (c := r.toRowW.claim) hsame hwi hi L
    exact ⟨z.1, z.2.1, z.2.2, fun q => ⟨namesKept_of hT hg _ keeps g.2.1.old, noTable hwr q⟩⟩
end Px
end

/- PxE -/
section
open PySem PySem.W PySem.Calls PyProof.Rows
set_option Elab.async false
set_option linter.unusedVariables false
namespace Px
section
variable {M : Model} {A : Around} {E : Value → Shared → Prop} {s : Shared} {env : Env}

theorem c_release {vs keep : List Value} {Q : Unit → Shared → Prop} (h : Q () s) : wpC M A (release vs keep) Q E s := wpC_any (wpAny_release' h)
theorem c_operate {vs : List Value} {m : Sem Value} {Q : Value → Shared → Prop} (h : wpC M A m Q E s) : wpC M A (operate vs m) Q E s := by
  unfold operate
  refine wpC_bind (wpC_holding (wpC_mono h (fun r s₁ h₁ => ?_) fun _ _ x => x))
  exact wpC_bind (c_release (wpC_pure h₁))
theorem c_nil {Q : Flow → Shared → Prop} (h : Q .next s) : wpC M A (execs [] env) Q E s := fun _ _ _ _ _ => h
theorem c_cons {st rest} {Q : Flow → Shared → Prop} (h : wpC M A (exec st env) (fun f s' => match f with | .next => wpC M A (execs rest env) Q E s' | f => Q f s') E s) : wpC M A (execs (st :: rest) env) Q E s := by
  rw [execs_cons]
  refine wpC_bind (wpC_mono h (fun f s' h' => ?_) fun _ _ x => x)
  cases f <;> first | exact h' | exact wpC_pure h'
theorem c_Assign {x pos' value pos} {Q : Flow → Shared → Prop} (h : wpC M A (eval value env) (fun v s₁ => wpC M A (storeName env x v) (fun _ => Q .next) E s₁) E s)
    (hs : swapsWith value (some (.Name x pos')) pos.line env = pure false := by rfl) : wpC M A (exec (.Assign [.Name x pos'] value pos) env) Q E s := by
  rw [exec_Assign_Name env x pos' value pos hs]
  refine wpC_bind (wpC_standAt (wpC_bind (wpC_mono h (fun v s₁ h₁ => wpC_bind (wpC_standAt (wpC_bind ?_))) fun _ _ x => x)))
  exact fun Γ p i a b => by rw [Sem.wp_bindName]; exact wpC_mono h₁ (fun _ _ q => wpC_pure q) (fun _ _ x => x) Γ p i a b
theorem c_AssignAttr {o attr pos' value pos} {Q : Flow → Shared → Prop} (h : wpC M A (eval value env) (fun v s₁ => wpC M A (eval o env) (fun ov s₂ => wpC M A (setAttr ov attr v) (fun _ => Q .next) E s₂) E s₁) E s)
    (hs : swapsWith value (some (.Attribute o attr pos')) pos.line env = pure false := by rfl) : wpC M A (exec (.Assign [.Attribute o attr pos'] value pos) env) Q E s := by
  rw [plainObj_exec_Assign_Attribute o attr pos' value pos hs]
  refine wpC_bind (wpC_standAt (wpC_bind (wpC_mono h (fun v s₁ h₁ => wpC_bind ?_) fun _ _ x => x)))
  rw [assign_Attribute]
  exact wpC_bind (wpC_holding (wpC_mono h₁ (fun ov s₂ h₂ => wpC_bind (wpC_standAt (wpC_bind (wpC_holding (wpC_mono h₂ (fun _ _ q => c_release (wpC_pure q)) fun _ _ x => x))))) fun _ _ x => x))
theorem c_AssignTuple {elts k tpos value pos} {Q : Flow → Shared → Prop} (h : wpC M A (eval value env) (fun v s₁ => wpC M A (assign (.Tuple elts k tpos) env v) (fun _ => Q .next) E s₁) E s)
    (hs : swapsWithSole [.Tuple elts k tpos] value pos.line env = pure false := by rfl) (hw : swappedStores [.Tuple elts k tpos] value env = pure none := by rfl) :
    wpC M A (exec (.Assign [.Tuple elts k tpos] value pos) env) Q E s := by
  rw [PyProof.Rows.exec_Assign]
  refine wpC_bind (wpC_standAt ?_)
  rw [hs]
  refine wpC_bind (wpC_pure ?_)
  rw [if_neg (by decide)]
  refine wpC_bind (wpC_mono h (fun v s₁ h₁ => ?_) fun _ _ x => x)
  rw [hw]
  refine wpC_bind (wpC_pure ?_)
  show wpC M A (do assignAll v [assign (.Tuple elts k tpos) env]; pure .next) Q E s₁
  exact wpC_bind (wpC_mono h₁ (fun _ _ x => wpC_pure x) fun _ _ x => x)
theorem c_AssignSwap {elts k tpos value pos} {names : List Str} {Q : Flow → Shared → Prop}
    (h : wpC M A (eval value env) (fun v s₁ => wpAny M A (unpackItems v names.length none) (fun items s₂ => wpAny M A (assignInOrder (names.reverse.map fun n => bindName env n) items.reverse) (fun _ => Q .next) E s₂) E s₁) E s)
    (hs : swapsWithSole [.Tuple elts k tpos] value pos.line env = pure false := by rfl) (hw : swappedStores [.Tuple elts k tpos] value env = pure (some names) := by rfl) :
    wpC M A (exec (.Assign [.Tuple elts k tpos] value pos) env) Q E s := by
  rw [PyProof.Rows.exec_Assign]
  refine wpC_bind (wpC_standAt ?_)
  rw [hs]
  refine wpC_bind (wpC_pure ?_)
  rw [if_neg (by decide)]
  refine wpC_bind (wpC_mono h (fun v s₁ h₁ => ?_) fun _ _ x => x)
  rw [hw]
  refine wpC_bind (wpC_pure ?_)
  refine wpC_any (wpAny_bind (wpAny_rule (wpAny_bind (wpAny_mono h₁ (fun items s₂ h₂ => wpAny_bind (wpAny_mono h₂ (fun _ _ q => wpAny_pure q) fun _ _ x => x)) fun _ _ x => x))))
theorem c_AssignSub {o i pos' value pos} {Q : Flow → Shared → Prop}
    (h : wpC M A (eval value env) (fun v s₁ => wpC M A (eval o env) (fun ov s₂ => wpC M A (eval i env) (fun iv s₃ => wpC M A (setItem ov iv v) (fun _ => Q .next) E s₃) E s₂) E s₁) E s)
    (hs : swapsWith value (some (.Subscript o i pos')) pos.line env = pure false := by rfl) : wpC M A (exec (.Assign [.Subscript o i pos'] value pos) env) Q E s := by
  rw [exec_Assign_Subscript o i pos' value pos hs]
  refine wpC_bind (wpC_standAt (wpC_bind (wpC_mono h (fun v s₁ h₁ => wpC_bind ?_) fun _ _ x => x)))
  rw [assign_Subscript]
  exact wpC_bind (wpC_holding (wpC_mono h₁ (fun ov s₂ h₂ => wpC_bind (wpC_holding (wpC_mono h₂ (fun iv s₃ h₃ => wpC_bind (wpC_standAt (wpC_bind (wpC_holding (wpC_mono h₃ (fun _ _ q => c_release (wpC_pure q)) fun _ _ x => x))))) fun _ _ x => x))) fun _ _ x => x))
theorem c_Aug {x pos' op value pos} {Q : Flow → Shared → Prop}
    (h : wpC M A (loadName env x) (fun old s₁ => wpC M A (eval value env) (fun v s₂ => wpC M A (inplaceOp op old v) (fun r s₃ => wpC M A (storeName env x r) (fun _ => Q .next) E s₃) E s₂) E s₁) E s) :
    wpC M A (exec (.AugAssign (.Name x pos') op value pos) env) Q E s := by
  rw [exec_AugAssign_Name]
  refine wpC_bind (wpC_standAt (wpC_bind (wpC_mono h (fun old s₁ h₁ => ?_) fun _ _ x => x)))
  refine wpC_bind (wpC_holding (wpC_mono h₁ (fun v s₂ h₂ => ?_) fun _ _ x => x))
  refine wpC_bind (wpC_standAt (wpC_bind (wpC_mono (c_operate h₂) (fun r s₃ h₃ => ?_) fun _ _ x => x)))
  refine wpC_bind (wpC_standAt (wpC_bind ?_))
  exact fun Γ p i a b => by rw [Sem.wp_bindName]; exact wpC_mono h₃ (fun _ _ q => wpC_pure q) (fun _ _ x => x) Γ p i a b
theorem c_AugAttr {o attr tpos op value pos} {Q : Flow → Shared → Prop}
    (h : wpC M A (eval o env) (fun ov s₀ => wpC M A (getAttr ov attr true) (fun old s₁ => wpC M A (eval value env) (fun v s₂ => wpC M A (inplaceOp op old v) (fun r s₃ => wpC M A (setAttr ov attr r) (fun _ => Q .next) E s₃) E s₂) E s₁) E s₀) E s) :
    wpC M A (exec (.AugAssign (.Attribute o attr tpos) op value pos) env) Q E s := by
  show wpC M A (do
    standAt pos
    let ov ← eval o env
    let new ← holding [ov] do
      standAt tpos.atName
      let old ← getAttr ov attr true
      let v ← holding [old] (eval value env)
      standAt pos
      operate [old, v] (inplaceOp op old v)
    standAt tpos.atName
    holding [new, ov] (setAttr ov attr new)
    release [new, ov] []
    pure .next) Q E s
  refine wpC_bind (wpC_standAt (wpC_bind (wpC_mono h (fun ov s₀ h₀ => ?_) fun _ _ x => x)))
  refine wpC_bind (wpC_holding (wpC_bind (wpC_standAt (wpC_bind (wpC_mono h₀ (fun old s₁ h₁ => ?_) fun _ _ x => x)))))
  refine wpC_bind (wpC_holding (wpC_mono h₁ (fun v s₂ h₂ => ?_) fun _ _ x => x))
  refine wpC_bind (wpC_standAt (wpC_mono (c_operate h₂) (fun r s₃ h₃ => ?_) fun _ _ x => x))
  refine wpC_bind (wpC_standAt (wpC_bind (wpC_holding (wpC_mono h₃ (fun _ _ q => ?_) fun _ _ x => x))))
  exact wpC_bind (c_release (wpC_pure q))
theorem c_If {test body orelse pos} {Q : Flow → Shared → Prop} (h : wpC M A (isTrue test env (eval test env)) (fun b s₂ => if b then wpC M A (execs body env) Q E s₂ else wpC M A (execs orelse env) Q E s₂) E s) :
    wpC M A (exec (.If test body orelse pos) env) Q E s := by
  rw [exec_If]
  refine wpC_bind (wpC_standAt (wpC_bind (wpC_mono h (fun b s₂ h₂ => ?_) fun _ _ x => x)))
  cases b <;> exact h₂
theorem c_While {test body orelse pos} {Q : Flow → Shared → Prop} (h : codeC M A (.whileLoop test body orelse env) (fun r s' => match r with | .ok f => Q f s' | .error e => cameBackBy M A env E e s') s) : wpC M A (exec (.While test body orelse pos) env) Q E s := by
  rw [exec_While]; exact wpC_bind (wpC_standAt (wpC_runOwn h))
theorem c_For {target iter body orelse pos} {Q : Flow → Shared → Prop}
    (h : wpC M A (eval iter env) (fun x s₁ => wpAny M A (pyIter x) (fun it s₂ => codeC M A (.forLoop target it body orelse env) (fun r s' => match r with | .ok f => Q f s' | .error e => cameBackBy M A env E e s') s₂) E s₁) E s)
    (hf : ∀ x, foldedSetIterable iter env x = pure x := by intro _; rfl) : wpC M A (exec (.For target iter body orelse pos) env) Q E s := by
  rw [exec_For]
  refine wpC_bind (wpC_standAt (wpC_bind (wpC_mono h (fun x s₁ h₁ => ?_) fun _ _ x => x)))
  rw [hf x]
  exact wpC_bind (wpC_pure (wpC_bind (wpC_standAt (wpC_bind (wpC_holding (wpC_mono (wpC_any h₁) (fun it s₂ h₂ => wpC_runOwn h₂) fun _ _ x => x))))))
theorem c_Return {e pos} {Q : Flow → Shared → Prop} (h : wpC M A (eval e env) (fun v => Q (.ret v)) E s) : wpC M A (exec (.Return (some e) pos) env) Q E s := by
  rw [exec_Return_some]
  exact wpC_bind (wpC_standAt (wpC_bind (wpC_mono h (fun _ _ q => wpC_pure q) fun _ _ x => x)))
theorem c_Continue {pos} {Q : Flow → Shared → Prop} (h : Q .cont s) : wpC M A (exec (.Continue pos) env) Q E s := fun _ _ _ _ _ => h
theorem c_Pass {pos} {Q : Flow → Shared → Prop} (h : Q .next s) : wpC M A (exec (.Pass pos) env) Q E s := fun _ _ _ _ _ => h
end
section
variable {prog : Program} {w : World} {A : Around} {E : Value → Shared → Prop} {s : Shared} {env : Env}

theorem c_letGo {Q : Unit → Shared → Prop} (h : Q () s) : wpAny (model prog w) A (runValue (.builtin "proto.let_go" {})) (fun _ s' => Q () s') E s := by
  have t := wpAny_letTemporaryGo (prog := prog) (w := w) (A := A) (E := E) (s := s) (base := .Constant .none 0 default) (o := .ref 0) (r := .none) (Q := Q) h
  unfold letTemporaryGo at t
  intro Γ p hΓ
  have t := t Γ p hΓ
  rw [Sem.wp_bind', Sem.wp_holding] at t
  exact t
theorem c_Expr {e pos} {Q : Flow → Shared → Prop} (h : wpC (model prog w) A (eval e env) (fun _ s' => Q .next s') E s) (hi : interactive env = false := by rfl) (hs : swapsWith e none pos.line env = pure false := by rfl) :
    wpC (model prog w) A (exec (.Expr e pos) env) Q E s := by
  have e1 := exec_Expr env e pos hi hs
  rw [e1]
  refine wpC_bind (wpC_standAt (wpC_bind (wpC_mono h (fun v s' h' => wpC_any ?_) fun _ _ x => x)))
  unfold dropValue
  split
  · exact wpAny_pure h'
  · exact wpAny_bind (wpAny_standAt (wpAny_bind (c_letGo (Q := fun _ s => wpAny (model prog w) A (pure Flow.next) Q E s) (wpAny_pure h'))))
  · exact wpAny_pure h'
theorem c_Try {body orelse : List Stmt} {h₀ : ExceptHandler} {hs : List ExceptHandler} {pos : Pos} {Q : Flow → Shared → Prop}
    (h : wpC (model prog w) A (execs body env) (fun f s₁ => match f with | .next => wpC (model prog w) A (execs orelse env) Q E s₁ | f => Q f s₁)
      (fun e s₁ => wpAny (model prog w) A (noteFrame e env) (fun _ s₂ => wpAny (model prog w) A (setFlight e none) (fun _ s₃ => wpC (model prog w) A (handleBy e env (h₀ :: hs)) Q E s₃) E s₂) E s₁) s) :
    wpC (model prog w) A (exec (.Try body (h₀ :: hs) orelse [] pos) env) Q E s := by
  rw [arm_exec_Try]
  refine wpC_bind (wpC_standAt ?_)
  unfold tryStmt
  show wpC _ A (do
    match ← (execs body env).attempt with
    | .ok .next => execs orelse env
    | .ok f => pure f
    | .error e =>
      noteFrame e env
      if (h₀ :: hs).isEmpty then throw e
      setFlight e none
      if false && (h₀ :: hs).any (fun | .ExceptHandler none .. => true | _ => false) then unsupported "internal:except-star-without-type"
      if false then runOwn (.starHandlers e e (← newList []) (h₀ :: hs) env) env (some e) else handleBy e env (h₀ :: hs)) _ _ _
  refine wpC_bind (wpC_attempt (wpC_mono h (fun f s₁ h₁ => ?_) fun e s₁ h₁ => ?_))
  · cases f <;> first | exact h₁ | exact wpC_pure h₁
  · exact wpC_bind (wpC_mono (wpC_any h₁) (fun _ s₂ h₂ => wpC_bind (wpC_mono (wpC_any h₂) (fun _ s₃ h₃ => h₃) fun _ _ x => x)) fun _ _ x => x)
end
section
variable {M : Model} {A : Around} {E : Value → Shared → Prop} {s : Shared} {env : Env} {Q : Value → Shared → Prop}
theorem c_Compare {l op r pos} (h : wpC M A (eval l env) (fun a s₁ => wpC M A (eval r env) (fun b s₂ => wpC M A (compareOp op a b) Q E s₂) E s₁) E s) (hm : behindInMarks op r = false := by with_unfolding_all rfl) :
    wpC M A (eval (.Compare l [op] [r] pos) env) Q E s := by
  rw [eval_Compare1, markedBehindIn_of_false hm]
  exact wpC_bind (wpC_mono h (fun a s₁ h₁ => wpC_bind (wpC_holding (wpC_mono h₁ (fun b s₂ h₂ => wpC_bind (wpC_standAt (c_operate h₂))) fun _ _ x => x))) fun _ _ x => x)
theorem c_BinOp {l op r pos} (h : wpC M A (eval l env) (fun a s₁ => wpC M A (eval r env) (fun b s₂ => wpC M A (binaryOp op a b) Q E s₂) E s₁) E s) : wpC M A (eval (.BinOp l op r pos) env) Q E s := by
  rw [eval_BinOp]
  exact wpC_bind (wpC_mono h (fun a s₁ h₁ => wpC_bind (wpC_holding (wpC_mono h₁ (fun b s₂ h₂ => wpC_bind (wpC_standAt (c_operate h₂))) fun _ _ x => x))) fun _ _ x => x)
theorem c_IfExp {test body orelse : Expr} {pos : Pos} (h : wpC M A (isTrue test env (eval test env)) (fun b s₁ => if b then wpC M A (eval body env) Q E s₁ else wpC M A (eval orelse env) Q E s₁) E s) : wpC M A (eval (.IfExp test body orelse pos) env) Q E s := by
  show wpC M A (do if ← isTrue test env (eval test env) then eval body env else eval orelse env) Q E s
  refine wpC_bind (wpC_mono h (fun b s₁ h₁ => ?_) fun _ _ x => x)
  cases b <;> exact h₁
theorem c_Tuple {elts : List Expr} {k : Nat} {pos : Pos} (h : wpC M A (spliced (backTo pos (starEach elts env))) (fun vs s₁ => wpC M A (newTuple vs) Q E s₁) E s) : wpC M A (eval (.Tuple elts k pos) env) Q E s := by
  show wpC M A (do standAt pos; newTuple (← spliced (backTo pos (starEach elts env)))) Q E s
  exact wpC_bind (wpC_standAt (wpC_bind h))
theorem c_List {elts : List Expr} {pos : Pos} (h : wpC M A (spliced (backTo pos (starEach elts env))) (fun vs s₁ => wpC M A (newList vs) Q E s₁) E s) : wpC M A (eval (.List elts pos) env) Q E s := by
  show wpC M A (do standAt pos; newList (← spliced (backTo pos (starEach elts env)))) Q E s
  exact wpC_bind (wpC_standAt (wpC_bind h))
theorem c_spNil {pos : Pos} {Q : List Value → Shared → Prop} (h : Q [] s) : wpC M A (spliced (backTo pos (starEach [] env))) Q E s := wpC_pure h
theorem c_spCons {pos : Pos} {e : Expr} {rest : List Expr} {Q : List Value → Shared → Prop} (h : wpC M A (eval e env) (fun v s₁ => wpC M A (spliced (backTo pos (starEach rest env))) (fun vs s₂ => Q (v :: vs) s₂) E s₁) E s)
    (he : starEach (e :: rest) env = (false, eval e env) :: starEach rest env := by rfl) : wpC M A (spliced (backTo pos (starEach (e :: rest) env))) Q E s := by
  rw [he]
  show wpC M A (spliced ((false, eval e env) :: backTo pos (starEach rest env))) Q E s
  rw [spliced]
  refine wpC_bind (wpC_mono h (fun v s₁ h₁ => ?_) fun _ _ x => x)
  simp only [Bool.false_eq_true, if_false]
  exact wpC_bind (wpC_pure (wpC_bind (wpC_holding (wpC_mono h₁ (fun vs s₂ h₂ => wpC_pure h₂) fun _ _ x => x))))
theorem c_evNil {Q : List Value → Shared → Prop} (h : Q [] s) : wpC M A (evalAll []) Q E s := wpC_pure h
theorem c_evCons {x : Sem Value} {rest : List (Sem Value)} {Q : List Value → Shared → Prop} (h : wpC M A x (fun v s₁ => wpC M A (evalAll rest) (fun vs s₂ => Q (v :: vs) s₂) E s₁) E s) : wpC M A (evalAll (x :: rest)) Q E s := by
  rw [evalAll]
  exact wpC_bind (wpC_mono h (fun v s₁ h₁ => wpC_bind (wpC_holding (wpC_mono h₁ (fun vs s₂ h₂ => wpC_pure h₂) fun _ _ x => x))) fun _ _ x => x)
theorem c_kw {pos : Pos} {n : Option Str} {e : Expr} {ps} {rest : List Keyword} {Q : List Value → Shared → Prop} (h : wpC M A (eval e env) (fun v s₁ => wpC M A (evalAll ((backToKw pos (keywordEach rest env)).map (·.2))) (fun vs s₂ => Q (v :: vs) s₂) E s₁) E s) :
    wpC M A (evalAll ((backToKw pos (keywordEach (⟨n, e, ps⟩ :: rest) env)).map (·.2))) Q E s := by
  show wpC M A (evalAll ((do let v ← eval e env; standAt pos; pure v) :: (backToKw pos (keywordEach rest env)).map (·.2))) Q E s
  exact c_evCons (wpC_bind (wpC_mono h (fun v s₁ h₁ => wpC_bind (wpC_standAt (wpC_pure h₁))) fun _ _ x => x))
theorem c_evalArgs {f : Value} {args : List (Bool × Sem Value)} {keywords : List (Option Str × Sem Value)} {Q : Args → Shared → Prop} (hp : args.all (!·.1) = true) (hall : keywords.all (·.1.isSome) = true)
    (h : wpC M A (spliced args) (fun vs s₁ => wpC M A (evalAll (keywords.map (·.2))) (fun ks s₂ => Q ⟨vs, (keywords.filterMap (·.1)).zip ks⟩ s₂) E s₁) E s) : wpC M A (evalArgs f true args keywords) Q E s := by
  unfold evalArgs
  have go : wpC M A (spliced args >>= fun vs => holding vs (if keywords.all (·.1.isSome) then do
      let kw := (keywords.filterMap (·.1)).zip (← evalAll (keywords.map (·.2)))
      return ⟨vs, kw⟩
    else do
      let d ← mergedKeywords f keywords
      let pos ← (pure vs : Sem (List Value))
      return ⟨pos, ← holding (.ref d :: pos) (keywordsIn f d)⟩)) Q E s := by
    refine wpC_bind (wpC_mono h (fun vs s₁ h₁ => wpC_holding ?_) fun _ _ x => x)
    rw [if_pos hall]
    exact wpC_bind (wpC_mono h₁ (fun ks s₂ h₂ => wpC_pure h₂) fun _ _ x => x)
  have fin : ∀ vs : List Value, (holding (vs ++ (none : Option Value).toList) (do
      if keywords.all (·.1.isSome) then
        let kw := (keywords.filterMap (·.1)).zip (← evalAll (keywords.map (·.2)))
        return ⟨← (pure vs : Sem (List Value)), kw⟩
      let d ← mergedKeywords f keywords
      let pos ← (pure vs : Sem (List Value))
      return ⟨pos, ← holding (.ref d :: pos) (keywordsIn f d)⟩) : Sem Args) = holding vs (if keywords.all (·.1.isSome) then do
      let kw := (keywords.filterMap (·.1)).zip (← evalAll (keywords.map (·.2)))
      return ⟨vs, kw⟩
    else do
      let d ← mergedKeywords f keywords
      let pos ← (pure vs : Sem (List Value))
      return ⟨pos, ← holding (.ref d :: pos) (keywordsIn f d)⟩) := fun vs => by
    rw [show vs ++ (none : Option Value).toList = vs from List.append_nil vs]; rfl
  cases args with
  | nil => exact go
  | cons x rest =>
    obtain ⟨b, t⟩ := x
    cases b with
    | true => simp at hp
    | false =>
      show wpC M A (spliced ((false, t) :: rest) >>= fun vs => _) Q E s
      refine wpC_bind (wpC_mono h (fun vs s₁ h₁ => ?_) fun _ _ x => x)
      show wpC M A (holding (vs ++ []) _) Q E s₁
      refine wpC_holding ?_
      rw [if_pos hall]
      exact wpC_bind (wpC_mono h₁ (fun ks s₂ h₂ => wpC_bind (wpC_pure (wpC_pure h₂))) fun _ _ x => x)
theorem c_callWith {P : Heap → Prop} {pos : Pos} {f : Value} {first : List Value} {args : List (Bool × Sem Value)} {keywords : List (Option Str × Sem Value)} (hp : args.all (!·.1) = true) (hall : keywords.all (·.1.isSome) = true)
    (hk : ∀ h, P h → ∃ k, (k = Keeper.frame ∨ k = Keeper.machine ∨ k = Keeper.boundFrame) ∧ Looks M h (keeperOf f) k)
    (h : wpC M A (spliced args) (fun vs s₁ => wpC M A (evalAll (keywords.map (·.2))) (fun ks s₂ => P s₂.heap ∧ wpC M A (call f (first ++ vs) ((keywords.filterMap (·.1)).zip ks)) Q E s₂) E s₁) E s) : wpC M A (callWith pos f first args keywords) Q E s := by
  unfold callWith
  refine wpC_bind (wpC_holding (wpC_mono (c_evalArgs (Q := fun a s₂ => P s₂.heap ∧ wpC M A (call f (first ++ a.pos) a.kw) Q E s₂) hp hall h) (fun a s₁ h₁ => wpC_bind (wpC_standAt ?_)) fun _ _ x => x))
  obtain ⟨k, hk', L⟩ := hk _ h₁.1
  have hplain : (args.any (·.1) || keywords.any (·.1.isNone)) = false := by
    rw [Bool.or_eq_false_iff, List.any_eq_false, List.any_eq_false]
    refine ⟨fun x hx => ?_, fun x hx => ?_⟩
    · have := List.all_eq_true.mp hp x hx; simpa using this
    · have := List.all_eq_true.mp hall x hx
      cases h : x.1 <;> simp_all
  simp only [hplain]
  refine wpC_seq (L.here ?_)
  have tail : ∀ {t : Sem Value}, wpC M A t Q E s₁ → wpC M A (t >>= fun r => holding [r] point >>= fun _ => pure r) Q E s₁ :=
    fun ht => wpC_bind (wpC_mono ht (fun r s₂ hr => wpC_bind (wpC_holding (wpC_point (wpC_pure hr)))) fun _ _ x => x)
  have marked (mk : Value) : wpC M A (callMarked mk f (first ++ a.pos) a.kw) Q E s₁ := by
    unfold callMarked
    intro Γ p i x y
    have := h₁.2 Γ p i x y
    rw [Sem.wp_keep]
    exact this
  rcases hk' with rfl | rfl | rfl <;> dsimp only <;> first | exact tail h₁.2 | (split <;> first | exact tail h₁.2 | exact tail (marked _))
end
end Px
end

/- PxF -/
section
open PySem PySem.W PySem.Calls PyProof.Rows
set_option Elab.async false
set_option linter.unusedVariables false
set_option maxRecDepth 100000
namespace Px
section
variable {prog : Program} {w : World} {A : Around} {C : Addr} {R : Result → Shared → Prop} {h : Heap} {g : Array GenState} {d : Drawn} {t : Nat} {os : OsState}
theorem codeC_call_builtin {s : Shared} {id : String} {args : Args} {b : Builtin} (hq : (Code.builtin id args).quiet = true) (hl : lends (.builtin id args) = false) (hb : entryFor table id = some b)
    (h : wpAny (model prog w) A.in1 (checkBuiltinCall id args) (fun _ s₁ => wpC (model prog w) (A.under (.builtin id args)) (b args)
      (fun fin s' => match fin with | .done f => R (.ok f) s' | .again c' => c'.quiet = true ∧ codeC (model prog w) A c' R s') (fun e s' => R (.error e) s') s₁)
      (fun e s' => R (.error e) s') s) : codeC (model prog w) A (.call (.builtin id) args) R s := by
  refine codeC_of_tree ?_
  show wpC _ A.in1 (do checkBuiltinCall id args; again (.builtin id args)) _ _ s
  refine wpC_bind (wpC_mono (wpC_any h) (fun _ s₁ h₁ => wpC_pure (And.intro hq (codeC_of_tree ?_ hl))) fun _ _ h' => h')
  show wpC _ _ (match entryFor table id with | some b => b args | none => unsupported ((withoutEnding? id "#data").getD id)) _ _ s₁
  rw [hb]; exact h₁
theorem codeC_builtin {s : Shared} {id : String} {args : Args} {b : Builtin} (hl : lends (.builtin id args) = false) (hb : entryFor table id = some b)
    (h : wpC (model prog w) (A.under (.builtin id args)) (b args)
      (fun fin s' => match fin with | .done f => R (.ok f) s' | .again c' => c'.quiet = true ∧ codeC (model prog w) A c' R s') (fun e s' => R (.error e) s') s) : codeC (model prog w) A (.builtin id args) R s := by
  refine codeC_of_tree ?_ hl
  show wpC _ _ (match entryFor table id with | some b => b args | none => unsupported ((withoutEnding? id "#data").getD id)) _ _ s
  rw [hb]; exact h
theorem lends_of {id : String} {args : Args} (h : Builtin.Bytes.decodersThatHold.contains id = false) : lends (.builtin id args) = false := h
theorem c_if0 {α : Type} {M : Model} {A : Around} {E : Value → Shared → Prop} {s : Shared} {c : Bool} {a b : Sem α} {Q : α → Shared → Prop} (hc : c = false) (h : wpC M A b Q E s) : wpC M A (if c = true then a else b) Q E s := by subst hc; exact h
theorem c_if1 {α : Type} {M : Model} {A : Around} {E : Value → Shared → Prop} {s : Shared} {c : Bool} {a b : Sem α} {Q : α → Shared → Prop} (hc : c = true) (h : wpC M A a Q E s) : wpC M A (if c = true then a else b) Q E s := by subst hc; exact h
theorem codeC_make {rest : List Value} {kw : List (Str × Value)} {init : Value} (Y : Makes (model prog w) h C) (hi : Looks (model prog w) h (typeLookup (.ref C) "__init__") (some init))
    (hb : ∀ self, Looks (model prog w) h (bindSpecial init self) (init, [self])) (hne : (some init != some (Value.builtin "object.__init__")) = true)
    (hq : codeC (model prog w) (A.under (.builtin "type.__call__" ⟨.ref C :: rest, kw⟩)) (.call init ⟨.ref (h.objs.size + 1) :: rest, kw⟩) (InitBack (h.objs.size + 1) R) ⟨(h.push emptyDict).push (instObj C h.objs.size), g, d, t, os⟩) :
    codeC (model prog w) A (.call (.ref C) ⟨rest, kw⟩) R ⟨h, g, d, t, os⟩ := by
  have Y' := Y
  obtain ⟨⟨oc, od, cd, sl, hC, e1, e2, e4⟩, made, base, self, top, call, typ⟩ := Y
  refine codeC_of_tree ?_
  show wpC _ _ (callAny (.ref C) _) _ _ _
  refine wpC_any ?_
  refine nd_load hC ?_
  show wpAny _ _ (callAny.viaDunder (.ref C) _) _ _ _
  unfold callAny.viaDunder
  refine wpAny_bind (call.at ?_)
  dsimp only
  rw [tc_bind]
  refine wpAny_bind (wpAny_pure (wpAny_bind (wpAny_pure ?_)))
  refine wpAny_pure (a := Fin.again (.call (.builtin "type.__call__") ⟨.ref C :: rest, kw⟩)) (And.intro rfl ?_)
  refine codeC_call_builtin (Code.quiet_builtin _ (by decide +kernel)) (lends_of (by decide +kernel)) entry_typeCall (check_slot tc_kind tc_split typ (tc_args _ _ _) ?_)
  unfold Builtin.«type.__call__»
  have hm : Looks (model prog w) h (mroOf (.ref C)) cd.mro := ((Looks.ld (part := none) hC).andThen .now).andThen .now
  dsimp only
  refine c_if0 rfl ?_
  refine wpC_seq (hm.at ?_)
  refine c_if0 e4 ?_
  refine wpC_seq (made.at ?_)
  dsimp only
  refine wpC_bind (wpC_pure (wpC_bind (wpC_holding (wpC_any (wpAny_call (new_K Y' hi (.inl hne) ?_))))))
  dsimp only
  have k : ∀ b o, h.get? b = some o → ((h.push emptyDict).push (instObj C h.objs.size)).get? b = some o := fun b o e => Heap.get?_push_of_some _ (Heap.get?_push_of_some _ e)
  have hx : ((h.push emptyDict).push (instObj C h.objs.size)).get? (h.objs.size + 1) = some (instObj C h.objs.size) := by heap_get
  have t1 : Looks (model prog w) ((h.push emptyDict).push (instObj C h.objs.size)) (typeOf (.ref (h.objs.size + 1))) (.ref C) := (Looks.ld hx).andThen .now
  have s1 := self.keeps k
  have i1 := hi.keeps k
  have b1 := (hb (.ref (h.objs.size + 1))).keeps k
  have in1 : Looks (model prog w) ((h.push emptyDict).push (instObj C h.objs.size)) (isInstance (.ref (h.objs.size + 1)) (.ref C)) true := t1.andThen s1
  have sp1 : Looks (model prog w) ((h.push emptyDict).push (instObj C h.objs.size)) (specialOf (.ref (h.objs.size + 1)) "__init__") (some init) := t1.andThen i1
  refine wpC_seq (in1.at ?_)
  refine c_if0 rfl ?_
  refine wpC_bind (wpC_holding ?_)
  unfold callSpecial?
  refine wpC_seq (sp1.at ?_)
  dsimp only
  refine wpC_holding (wpC_seq (b1.at ?_))
  dsimp only
  refine wpC_bind (wpC_call (codeC_mono hq fun r s' z => ?_))
  rcases r with e | (v | _ | _ | _) <;> first | exact z | exact z.elim | skip
  obtain ⟨rfl, z⟩ := z
  exact wpC_pure (wpC_pure z)
end
end Px
end

/- PxG -/
section
open PySem PySem.W PySem.Calls PyProof.Rows
set_option Elab.async false
set_option linter.unusedVariables false
set_option maxRecDepth 100000
namespace Px
section
variable {M : Model} {A : Around} {E : Value → Shared → Prop} {s : Shared} {env : Env} {α : Type}
theorem up1 {t : Sem α} {v : α} {Q : α → Shared → Prop} (h : wpAny M A t (fun a b => a = v ∧ b = s) E s) (k : Q v s) : wpC M A t Q E s := wpC_of h (by rintro _ _ ⟨rfl, rfl⟩; exact k)
theorem up2 {t : Sem α} {v : α} {P : Shared → Prop} {Q : α → Shared → Prop} (h : wpAny M A t (fun a b => a = v ∧ P b) E s) (k : ∀ s', P s' → Q v s') : wpC M A t Q E s := wpC_of h (by rintro _ _ ⟨rfl, q⟩; exact k _ q)
theorem up3 {t : Sem α} {P : α → Shared → Prop} {Q : α → Shared → Prop} (h : wpAny M A t P E s) (k : ∀ a s', P a s' → Q a s') : wpC M A t Q E s := wpC_of h k

/- tests -/
theorem c_tNot {e pos whole} {Q : Bool → Shared → Prop} (h : wpC M A (isTrue e env (eval e env)) (fun b => Q (!b)) E s) : wpC M A (isTrue (.UnaryOp .Not e pos) env whole) Q E s := by
  show wpC M A (do return !(← isTrue e env (eval e env))) Q E s
  exact wpC_bind (wpC_mono h (fun _ _ q => wpC_pure q) fun _ _ x => x)
theorem c_tCompare {l op r pos whole} {Q : Bool → Shared → Prop}
    (h : wpC M A (eval l env) (fun a s₁ => wpC M A (eval r env) (fun b s₂ => wpC M A (compareOp op a b) (fun c s₃ => wpC M A (truthy c) Q E s₃) E s₂) E s₁) E s) (hm : behindInMarks op r = false := by with_unfolding_all rfl) :
    wpC M A (isTrue (.Compare l [op] [r] pos) env whole) Q E s := by
  rw [isTrue_Compare1, markedBehindIn_of_false hm]
  refine wpC_bind (wpC_mono h (fun a s₁ h₁ => ?_) fun _ _ x => x)
  refine wpC_bind (wpC_holding (wpC_mono h₁ (fun b s₂ h₂ => ?_) fun _ _ x => x))
  exact wpC_bind (wpC_standAt (wpC_bind (wpC_mono (c_operate h₂) (fun c s₃ h₃ => wpC_holding h₃) fun _ _ x => x)))
theorem c_tAnd {x rest pos whole} {Q : Bool → Shared → Prop} (h : wpC M A (isTrue x env (eval x env)) (fun b s₁ => if b then wpC M A (allTrue .And rest env) Q E s₁ else Q false s₁) E s) : wpC M A (isTrue (.BoolOp .And (x :: rest) pos) env whole) Q E s := by
  show wpC M A (allTrue .And (x :: rest) env) Q E s
  unfold allTrue
  refine wpC_bind (wpC_mono h (fun b s₁ h₁ => ?_) fun _ _ x => x)
  cases b
  · exact wpC_pure h₁
  · exact h₁
theorem c_tOr {x rest pos whole} {Q : Bool → Shared → Prop} (h : wpC M A (isTrue x env (eval x env)) (fun b s₁ => if b then Q true s₁ else wpC M A (allTrue .Or rest env) Q E s₁) E s) : wpC M A (isTrue (.BoolOp .Or (x :: rest) pos) env whole) Q E s := by
  show wpC M A (allTrue .Or (x :: rest) env) Q E s
  unfold allTrue
  refine wpC_bind (wpC_mono h (fun b s₁ h₁ => ?_) fun _ _ x => x)
  cases b
  · exact h₁
  · exact wpC_pure h₁
theorem c_aAnd {x rest} {Q : Bool → Shared → Prop} (h : wpC M A (isTrue x env (eval x env)) (fun b s₁ => if b then wpC M A (allTrue .And rest env) Q E s₁ else Q false s₁) E s) : wpC M A (allTrue .And (x :: rest) env) Q E s := c_tAnd (pos := default) (whole := pure .none) h
theorem c_aOr {x rest} {Q : Bool → Shared → Prop} (h : wpC M A (isTrue x env (eval x env)) (fun b s₁ => if b then Q true s₁ else wpC M A (allTrue .Or rest env) Q E s₁) E s) : wpC M A (allTrue .Or (x :: rest) env) Q E s := c_tOr (pos := default) (whole := pure .none) h
theorem c_aAnd0 {Q : Bool → Shared → Prop} (h : Q true s) : wpC M A (allTrue .And [] env) Q E s := wpC_pure h
theorem c_aOr0 {Q : Bool → Shared → Prop} (h : Q false s) : wpC M A (allTrue .Or [] env) Q E s := wpC_pure h
/-- a test that is a value of any kind -/
theorem c_tVal {e} {Q : Bool → Shared → Prop} (h : wpC M A (eval e env) (fun v s₁ => wpC M A (truthy v) Q E s₁) E s) (he : isTrue e env (eval e env) = (do let v ← eval e env; standAt e.pos; holding [v] (truthy v)) := by rfl) :
    wpC M A (isTrue e env (eval e env)) Q E s := by
  rw [he]
  exact wpC_bind (wpC_mono h (fun v s₁ h₁ => wpC_bind (wpC_standAt (wpC_holding h₁))) fun _ _ x => x)
/- and, or as values -/
theorem c_bLast {x pos op} {Q : Value → Shared → Prop} (h : wpC M A (eval x env) Q E s) : wpC M A (boolOp pos op (evalEach [x] env)) Q E s := h
theorem c_bAnd {x y rest pos} {Q : Value → Shared → Prop} (h : wpC M A (eval x env) (fun v s₁ => wpC M A (truthy v) (fun b s₂ => if b then wpC M A (boolOp pos .And (evalEach (y :: rest) env)) Q E s₂ else Q v s₂) E s₁) E s) :
    wpC M A (boolOp pos .And (evalEach (x :: y :: rest) env)) Q E s := by
  show wpC M A (boolOp pos .And (eval x env :: eval y env :: evalEach rest env)) Q E s
  unfold boolOp
  refine wpC_bind (wpC_mono h (fun v s₁ h₁ => wpC_bind (wpC_standAt (wpC_bind (wpC_holding (wpC_mono h₁ (fun b s₂ h₂ => ?_) fun _ _ x => x))))) fun _ _ x => x)
  cases b
  · exact wpC_pure h₂
  · exact h₂
theorem c_bOr {x y rest pos} {Q : Value → Shared → Prop} (h : wpC M A (eval x env) (fun v s₁ => wpC M A (truthy v) (fun b s₂ => if b then Q v s₂ else wpC M A (boolOp pos .Or (evalEach (y :: rest) env)) Q E s₂) E s₁) E s) :
    wpC M A (boolOp pos .Or (evalEach (x :: y :: rest) env)) Q E s := by
  show wpC M A (boolOp pos .Or (eval x env :: eval y env :: evalEach rest env)) Q E s
  unfold boolOp
  refine wpC_bind (wpC_mono h (fun v s₁ h₁ => wpC_bind (wpC_standAt (wpC_bind (wpC_holding (wpC_mono h₁ (fun b s₂ h₂ => ?_) fun _ _ x => x))))) fun _ _ x => x)
  cases b
  · exact h₂
  · exact wpC_pure h₂
theorem c_BoolOp {op xs pos} {Q : Value → Shared → Prop} (h : wpC M A (boolOp pos op (evalEach xs env)) Q E s) : wpC M A (eval (.BoolOp op xs pos) env) Q E s := h
theorem c_Not {e pos} {Q : Value → Shared → Prop} (h : wpC M A (eval e env) (fun v s₁ => wpC M A (unaryOp .Not v) Q E s₁) E s) : wpC M A (eval (.UnaryOp .Not e pos) env) Q E s := by
  show wpC M A (do let v ← eval e env; standAt pos; holding [v] (unaryOp .Not v)) Q E s
  exact wpC_bind (wpC_mono h (fun v s₁ h₁ => wpC_bind (wpC_standAt (wpC_holding h₁))) fun _ _ x => x)
/- attributes, items, calls -/
theorem c_Attr {prog : Program} {w : World} {value : Expr} {attr : Str} {pos : Pos} {Q : Value → Shared → Prop} (h : wpC (model prog w) A (eval value env) (fun o s₁ => wpC (model prog w) A (getAttr o attr true) Q E s₁) E s)
    (he : eval (.Attribute value attr pos) env = (do
      let o ← eval value env
      standAt pos.atName
      let r ← holding [o] (getAttr o attr true)
      letTemporaryGo value o r
      pure r) := by with_unfolding_all rfl) : wpC (model prog w) A (eval (.Attribute value attr pos) env) Q E s := by
  rw [he]
  refine wpC_bind (wpC_mono h (fun o s₁ h₁ => ?_) fun _ _ x => x)
  refine wpC_bind (wpC_standAt (wpC_bind (wpC_holding (wpC_mono h₁ (fun r s₂ h₂ => ?_) fun _ _ x => x))))
  exact wpC_seq (wpAny_letTemporaryGo (wpC_pure h₂))
theorem c_Sub {value slice pos} {Q : Value → Shared → Prop} (h : wpC M A (eval value env) (fun o s₁ => wpC M A (eval slice env) (fun i s₂ => wpC M A (subscriptTail value slice o i) Q E s₂) E s₁) E s) : wpC M A (eval (.Subscript value slice pos) env) Q E s := by
  rw [eval_Subscript]
  refine wpC_bind (wpC_mono h (fun o s₁ h₁ => ?_) fun _ _ x => x)
  exact wpC_bind (wpC_holding (wpC_mono h₁ (fun i s₂ h₂ => wpC_bind (wpC_standAt h₂)) fun _ _ x => x))
theorem c_Slice {lower upper : Option Expr} {pos : Pos} {Q : Value → Shared → Prop}
    (h : wpC M A (valueOrNone (evalOpt lower env)) (fun l s₁ => wpC M A (valueOrNone (evalOpt upper env)) (fun u s₂ => wpC M A (newFields "slice" [l, u, .none]) Q E s₂) E s₁) E s) : wpC M A (eval (.Slice lower upper none pos) env) Q E s := by
  show wpC M A (do
    let l ← valueOrNone (evalOpt lower env)
    let u ← holding [l] (valueOrNone (evalOpt upper env))
    let s ← holding [l, u] (valueOrNone none)
    newFields "slice" [l, u, s]) Q E s
  refine wpC_bind (wpC_mono h (fun l s₁ h₁ => ?_) fun _ _ x => x)
  exact wpC_bind (wpC_holding (wpC_mono h₁ (fun u s₂ h₂ => wpC_bind (wpC_holding (wpC_pure h₂))) fun _ _ x => x))
theorem c_Call {func : Expr} {args : List Expr} {kws : List Keyword} {pos : Pos} {Q : Value → Shared → Prop}
    (h : wpC M A (eval func env) (fun f s₁ => wpC M A (callWith pos f [] (backTo pos (starEach args env)) (backToKw pos (keywordEach kws env))) Q E s₁) E s)
    (he : eval (.Call func args kws pos) env = (do callWith pos (← eval func env) [] (backTo pos (starEach args env)) (backToKw pos (keywordEach kws env))) := by rfl) : wpC M A (eval (.Call func args kws pos) env) Q E s := by
  rw [he]; exact wpC_bind h
theorem c_Meth {o : Expr} {name : Str} {apos pos : Pos} {args : List Expr} {kws : List Keyword} {pl : Sem Bool} {Q : Value → Shared → Prop}
    (h : wpC M A (eval o env) (fun ov s₁ => wpC M A (getMethod ov name pl) (fun fx s₂ => wpC M A (callWith pos fx.1 fx.2 (backTo pos (starEach args env)) (backToKw pos (keywordEach kws env))) Q E s₂) E s₁) E s)
    (he : eval (.Call (.Attribute o name apos) args kws pos) env = (do
      let ov ← eval o env
      standAt apos.atName
      let (f, first) ← holding [ov] (getMethod ov name pl)
      callWith pos f first (backTo pos (starEach args env)) (backToKw pos (keywordEach kws env))) := by rfl) : wpC M A (eval (.Call (.Attribute o name apos) args kws pos) env) Q E s := by
  rw [he]
  refine wpC_bind (wpC_mono h (fun ov s₁ h₁ => ?_) fun _ _ x => x)
  refine wpC_bind (wpC_standAt (wpC_bind (wpC_holding (wpC_mono h₁ (fun fx s₂ h₂ => ?_) fun _ _ x => x))))
  exact h₂
end

section
variable {prog : Program} {w : World} {K : Frag} {H : Heap} {TB : List TabSpec} {os : OsState} {mg mb : Str → Option Value}
variable {A : Around} {E : Value → Shared → Prop} {fr R : List Fm} {fs fs' F : Fct} {s : Shared} {sc : Sc} {env : Env} {L : Addr} {vs : List (Option Value)}

theorem k_local {x : Str} {pos : Pos} {v : Value} {Q : Value → Shared → Prop} (C : Cx H TB os (⟨sc, env, L, vs⟩ :: R) fs s) (i : Nat) (hi : sc.nm[i]? = some x) (hv : vs[i]? = some (some v)) (k : Q v s) : wpC (model prog w) A (eval (.Name x pos) env) Q E s :=
  up1 (r_local C i hi hv ⟨rfl, rfl⟩) k
theorem k_localN {x : Str} {v : Value} {Q : Value → Shared → Prop} (C : Cx H TB os (⟨sc, env, L, vs⟩ :: R) fs s) (i : Nat) (hi : sc.nm[i]? = some x) (hv : vs[i]? = some (some v)) (k : Q v s) : wpC (model prog w) A (loadName env x) Q E s :=
  up1 (r_localN C i hi hv ⟨rfl, rfl⟩) k
theorem k_glob {x : Str} {pos : Pos} {v : Value} {Q : Value → Shared → Prop} (G : Gd K H TB mg mb) (C : Cx H TB os (⟨sc, env, L, vs⟩ :: R) fs s) (i : Nat) (hi : sc.gn[i]? = some x) (hx : nsIn K mainGlobals x = some (some v)) (k : Q v s) : wpC (model prog w) A (eval (.Name x pos) env) Q E s :=
  up1 (r_glob G C hx i hi ⟨rfl, rfl⟩) k
theorem k_blt {x : Str} {pos : Pos} {v : Value} {Q : Value → Shared → Prop} (G : Gd K H TB mg mb) (C : Cx H TB os (⟨sc, env, L, vs⟩ :: R) fs s) (i : Nat) (hi : sc.gn[i]? = some x) (hx : nsIn K mainGlobals x = some none) (hb : bootBuiltins x = some v) (hn : x ≠ "__name__") (k : Q v s) : wpC (model prog w) A (eval (.Name x pos) env) Q E s :=
  up1 (r_blt G C hx hb hn i hi ⟨rfl, rfl⟩) k
theorem k_cell {x : Str} {pos : Pos} {v : Value} {c : Addr} {o : Obj} {Q : Value → Shared → Prop} (C : Cx H TB os (⟨sc, env, L, vs⟩ :: R) fs s) (i : Nat) (hi : sc.cn[i]? = some x) (hc : env.cells.lookup x = some c) (hm : (c, o) ∈ fs) (hd : o.data = .cell (some v)) (k : Q v s) : wpC (model prog w) A (eval (.Name x pos) env) Q E s :=
  up1 (r_cell C i hi hc hm hd ⟨rfl, rfl⟩) k
theorem k_free {x : Str} {pos : Pos} {v : Value} {c : Addr} {o : Obj} {Q : Value → Shared → Prop} (C : Cx H TB os (⟨sc, env, L, vs⟩ :: R) fs s) (i : Nat) (hi : sc.fn[i]? = some x) (hc : env.cells.lookup x = some c) (hm : (c, o) ∈ fs) (hd : o.data = .cell (some v)) (k : Q v s) : wpC (model prog w) A (eval (.Name x pos) env) Q E s :=
  up1 (r_free C i hi hc hm hd ⟨rfl, rfl⟩) k
/-- the i-th of a list turned -/
inductive SetAt (v : Option Value) : Nat → List (Option Value) → List (Option Value) → Prop
  | head {x r} : SetAt v 0 (x :: r) (v :: r)
  | tail {i x r r'} (h : SetAt v i r r') : SetAt v (i + 1) (x :: r) (x :: r')
theorem SetAt.eq {v : Option Value} {i : Nat} {r r' : List (Option Value)} (h : SetAt v i r r') : r' = r.set i v ∧ i < r.length := by
  induction h with
  | head => exact ⟨rfl, Nat.succ_pos _⟩
  | tail _ ih => exact ⟨by rw [List.set_cons_succ, ← ih.1], Nat.succ_lt_succ ih.2⟩
theorem k_store {x : Str} {v : Value} {vs' : List (Option Value)} {Q : Unit → Shared → Prop} (C : Cx H TB os (⟨sc, env, L, vs⟩ :: R) fs s) (i : Nat) (hi : sc.nm[i]? = some x) (hl : SetAt (some v) i vs vs')
    (k : ∀ s', Cx H TB os (⟨sc, env, L, vs'⟩ :: R) fs s' → Q () s') : wpC (model prog w) A (storeName env x v) Q E s := by
  obtain ⟨rfl, h2⟩ := hl.eq
  exact up2 (v := ()) (r_store C i hi h2 fun s' C' => ⟨rfl, C'⟩) k
theorem k_int {i : Int} {k' : Nat} {pos : Pos} {Q : Value → Shared → Prop} (C : Cx H TB os fr fs s) (k : ∀ t s', Cx H TB os fr fs s' → Q (.int i t) s') : wpC (model prog w) A (eval (.Constant (.int i) k' pos) env) Q E s :=
  up3 (P := fun a b => ∃ t, a = .int i t ∧ Cx H TB os fr fs b) (r_int C fun t s' C' => ⟨t, rfl, C'⟩) (by rintro _ _ ⟨t, rfl, C'⟩; exact k t _ C')
theorem k_str {x : Str} {k' : Nat} {pos : Pos} {Q : Value → Shared → Prop} (C : Cx H TB os fr fs s) (k : ∀ t s', Cx H TB os fr fs s' → Q (.str x t) s') : wpC (model prog w) A (eval (.Constant (.str x) k' pos) env) Q E s :=
  up3 (P := fun a b => ∃ t, a = .str x t ∧ Cx H TB os fr fs b) (r_str C fun t s' C' => ⟨t, rfl, C'⟩) (by rintro _ _ ⟨t, rfl, C'⟩; exact k t _ C')
theorem k_bytes {x : List UInt8} {k' : Nat} {pos : Pos} {Q : Value → Shared → Prop} (C : Cx H TB os fr fs s) (k : ∀ t s', Cx H TB os fr fs s' → Q (.bytes x.toArray t) s') : wpC (model prog w) A (eval (.Constant (.bytes x) k' pos) env) Q E s :=
  fun _ _ _ _ _ => k _ _ (C.tok _)
theorem k_none {k' : Nat} {pos : Pos} {Q : Value → Shared → Prop} (k : Q .none s) : wpC (model prog w) A (eval (.Constant .none k' pos) env) Q E s := fun _ _ _ _ _ => k
theorem k_bool {b : Bool} {k' : Nat} {pos : Pos} {Q : Value → Shared → Prop} (k : Q (.bool b) s) : wpC (model prog w) A (eval (.Constant (.bool b) k' pos) env) Q E s := fun _ _ _ _ _ => k

theorem k_get {x C_ dx : Addr} {nm : List Str} {es : List DictEntry} {n : Nat} {us : List Value} {name : Str} {v : Value} {expr : Bool} {Q : Value → Shared → Prop} (G : Gd K H TB mg mb) (C : Cx H TB os fr fs s) (h1 : (x, instObj C_ dx) ∈ fs) (h2 : (dx, dictOf es n) ∈ fs)
    (a : AttrsAre nm es us) (c : ClsOk K C_ nm) (i : Nat) (hi : nm[i]? = some name) (hv : us[i]? = some v) (hh : handedIn v = true) (k : ∀ s', Cx H TB os fr fs s' → Q v s') : wpC (model prog w) A (getAttr (.ref x) name expr) Q E s :=
  up2 (r_get G C h1 h2 a c i hi hv hh fun s' C' => ⟨rfl, C'⟩) k
theorem k_setattr {x C_ dx : Addr} {nm : List Str} {es : List DictEntry} {n : Nat} {us : List Value} {name : Str} {v : Value} {Q : Unit → Shared → Prop} {g : Obj → Fct} (G : Gd K H TB mg mb) (C : Cx H TB os fr fs s) (h1 : (x, instObj C_ dx) ∈ fs)
    (h2 : (dx, dictOf es n) ∈ fs) (a : AttrsAre nm es us) (c : ClsOk K C_ nm) (i : Nat) (hi : nm[i]? = some name) (hl : i < us.length) (hz : nm.length < 1000) (U : ∀ o', Upd dx (dictOf es n) o' fs (g o'))
    (k : ∀ s' es' n', AttrsAre nm es' (us.set i v) → Cx H TB os fr (g (dictOf es' n')) s' → Q () s') : wpC (model prog w) A (setAttr (.ref x) name v) Q E s :=
  up3 (P := fun _ b => ∃ es' n', AttrsAre nm es' (us.set i v) ∧ Cx H TB os fr (g (dictOf es' n')) b) (r_setattr G C h1 h2 a c i hi hl hz U fun s' es' n' q C' => ⟨es', n', q, C'⟩) (by rintro ⟨⟩ b ⟨es', n', q, C'⟩; exact k b es' n' q C')
theorem k_setnew {x C_ dx : Addr} {nm : List Str} {es : List DictEntry} {n : Nat} {us : List Value} {name : Str} {v : Value} {Q : Unit → Shared → Prop} {g : Obj → Fct} (G : Gd K H TB mg mb) (C : Cx H TB os fr fs s) (h1 : (x, instObj C_ dx) ∈ fs)
    (h2 : (dx, dictOf es n) ∈ fs) (a : AttrsAre nm es us) (c : ClsOk K C_ nm) (hi : nm[us.length]? = some name) (hz : nm.length < 1000) (U : ∀ o', Upd dx (dictOf es n) o' fs (g o'))
    (k : ∀ s' es' n', AttrsAre nm es' (us ++ [v]) → Cx H TB os fr (g (dictOf es' n')) s' → Q () s') : wpC (model prog w) A (setAttr (.ref x) name v) Q E s :=
  up3 (P := fun _ b => ∃ es' n', AttrsAre nm es' (us ++ [v]) ∧ Cx H TB os fr (g (dictOf es' n')) b) (r_setnew G C h1 h2 a c hi hz U fun s' es' n' q C' => ⟨es', n', q, C'⟩) (by rintro ⟨⟩ b ⟨es', n', q, C'⟩; exact k b es' n' q C')
theorem k_method {x C_ dx : Addr} {nm : List Str} {es : List DictEntry} {n : Nat} {us : List Value} {name : Str} {f : Addr} {pl : Sem Bool} {Q : Value × List Value → Shared → Prop} (G : Gd K H TB mg mb) (C : Cx H TB os fr fs s) (h1 : (x, instObj C_ dx) ∈ fs)
    (h2 : (dx, dictOf es n) ∈ fs) (a : AttrsAre nm es us) (c : ClsOk K C_ nm) (hf : findIn K (.ref C_) name = some (some (.ref f))) (ht : isFn K (.ref f) = true) (hx : nm.contains name = false) (k : Q (.ref f, [.ref x]) s) :
    wpC (model prog w) A (getMethod (.ref x) name pl) Q E s := up1 (r_method G C h1 h2 a c hf ht hx ⟨rfl, rfl⟩) k

/-- a def of the text is entered: plain names alone -/
theorem k_code {R' : Result → Shared → Prop} {f : Addr} {sc : Sc} {fd : FuncData} {body : List Stmt} {args : Args} (G : Gd K H TB mg mb) (C : Cx H TB os fr fs s) (X : Fn K f sc fd body) (hroom : A.depth < recursionLimit)
    (binds : List (Str × Value)) (vs : List (Option Value)) (hbind : BindsTo s fd args binds) (hnc : sc.cn = []) (hall : sc.scope.names.all (fun x => x.2 != .cell) = true) (rest : List Str) (hnm : sc.nm = binds.map (·.1) ++ rest) (hvs : binds.map (fun b => some b.2) ++ List.replicate rest.length none = vs)
    (k : ∀ L s', Cx H TB os (⟨sc, callEnv fd L f, L, vs⟩ :: fr) fs s' →
      wpC (model prog w) (A.deeper (callEnv fd L f)) (execs body (callEnv fd L f)) (fun fl s' => R' (.ok (.ret (match fl with | .ret v => v | _ => .none))) s')
        (fun e s' => wpAny (model prog w) (A.deeper (callEnv fd L f)) (leaving (callEnv fd L f) e) (fun _ s'' => R' (.error e) s'') (fun e' s'' => R' (.error e') s'') s') s') :
    codeC (model prog w) A (.call (.ref f) args) R' s := by
  subst hvs
  obtain ⟨o, ho, hd⟩ := X.at_
  have g := X.good
  simp only [Bool.and_eq_true, Bool.not_eq_true'] at g
  have hp := Sc.parts g.1.1
  refine codeC_call_function hroom (C.kin G _ _ ho) hd (X.scp ▸ g.2) (X.scp ▸ g.1.2) X.body (codeRec_of (C.kin G) X.code) (hbind _ _ _ _ ?_)
  refine wpAny_newFunctionEnv (fun x hx => ?_) (fun x hx => ?_) (fun h₀ hn hs => ?_) (X.scp ▸ hp.1)
  · rw [X.scp] at hx
    have := List.all_eq_true.mp hall x hx
    simpa using this
  · rw [X.scp]; exact (hp.2.1 x.1 (by rw [hnm]; exact List.mem_append_left _ (List.mem_map_of_mem (f := (·.1)) hx))).1
  · refine ⟨(C.lim G).fresh _ hs, codeC_func (k _ _ ?_)⟩
    exact C.enter hn (fun b o e => hs.extBut b o (Nat.ne_of_lt (Heap.lt_size e)) (Heap.get?_push_of_some _ e)) hnm g.1.1 rfl rfl X.scp X.gl X.bl _

/-- a def of the text with one cell of its own -/
theorem k_codeCell {R' : Result → Shared → Prop} {f : Addr} {sc : Sc} {fd : FuncData} {body : List Stmt} {args : Args} {y : Str} (G : Gd K H TB mg mb) (C : Cx H TB os fr fs s) (X : Fn K f sc fd body) (hroom : A.depth < recursionLimit)
    (binds : List (Str × Value)) (vs : List (Option Value)) (cv : Option Value) (hbind : BindsTo s fd args binds) (hcells : ∀ n, cellsFrom n sc.scope.names [] = [(y, n)])
    (hkind : binds.all (fun x => sc.scope.names.lookup x.1 == some .local || (sc.scope.names.lookup x.1 == some .cell && x.1 == y)) = true)
    (hvs : sc.nm.map (bindL (fun z => sc.scope.names.lookup z) binds fun _ => none) = vs) (hcv : bindC (fun z => sc.scope.names.lookup z) binds (fun _ => none) y = cv)
    (k : ∀ L co s', co.data = .cell cv → Cx H TB os (⟨sc, callEnvC fd L f, L, vs⟩ :: fr) ((L + 1, co) :: fs) s' → (callEnvC fd L f).cells = [(y, L + 1)] →
      wpC (model prog w) (A.deeper (callEnvC fd L f)) (execs body (callEnvC fd L f)) (fun fl s' => R' (.ok (.ret (match fl with | .ret v => v | _ => .none))) s')
        (fun e s' => wpAny (model prog w) (A.deeper (callEnvC fd L f)) (leaving (callEnvC fd L f) e) (fun _ s'' => R' (.error e) s'') (fun e' s'' => R' (.error e') s'') s') s') :
    codeC (model prog w) A (.call (.ref f) args) R' s := by
  subst hvs hcv
  obtain ⟨o, ho, hd⟩ := X.at_
  have g := X.good
  simp only [Bool.and_eq_true, Bool.not_eq_true'] at g
  have hp := Sc.parts g.1.1
  refine codeC_call_function hroom (C.kin G _ _ ho) hd (X.scp ▸ g.2) (X.scp ▸ g.1.2) X.body (codeRec_of (C.kin G) X.code) (hbind _ _ _ _ ?_)
  rw [X.clo]
  have hcl : cellsFrom (s.heap.objs.size + 1) fd.scope.names [] = [(y, s.heap.objs.size + 1)] := by rw [X.scp]; exact hcells _
  refine wpAny_newFunctionEnv_cells (X.scp ▸ hp.1) (fun x hx => ?_) (fun env he s' I => ?_)
  · have := List.all_eq_true.mp hkind x hx
    simp only [Bool.or_eq_true, Bool.and_eq_true, beq_iff_eq] at this
    rw [X.scp]
    refine this.imp id fun q => ⟨q.1, ?_⟩
    rw [hcells, q.2, List.lookup_cons, beq_self_eq_true]; rfl
  · subst he
    have ec : (callEnvC fd s.heap.objs.size f).cells = [(y, s.heap.objs.size + 1)] := hcl
    obtain ⟨h', tk, rfl, hk⟩ := I.done
    obtain ⟨co, hco, hcd⟩ := I.cell y (s.heap.objs.size + 1) (by show (cellsFrom (s.heap.objs.size + 1) fd.scope.names []).lookup y = _; rw [hcl, List.lookup_cons, beq_self_eq_true])
    have hn : h'.Ns s.heap.objs.size (bindL (fun z => fd.scope.names.lookup z) binds fun _ => none) := I.toInCall.ns
    have hL : s.heap.objs.size ∉ keysOf fr fs := fun h => absurd (C.lt h) (Nat.lt_irrefl _)
    have hL1 : s.heap.objs.size + 1 ∉ keysOf fr fs := fun h => absurd (C.lt h) (Nat.not_lt.mpr (Nat.le_succ _))
    have C' := C.keeps (h' := h') (g' := s.gens) hk (Nat.le_of_lt hn.lt) tk C.gens
    have kp : (keysOf (⟨sc, callEnvC fd s.heap.objs.size f, s.heap.objs.size, sc.nm.map (bindL (fun z => sc.scope.names.lookup z) binds fun _ => none)⟩ :: fr) ((s.heap.objs.size + 1, co) :: fs)).Perm
        (s.heap.objs.size :: (s.heap.objs.size + 1) :: keysOf fr fs) := by
      unfold keysOf; rw [List.map_cons, List.map_cons]; exact List.Perm.cons _ List.perm_middle
    have C'' : Cx H TB os (⟨sc, callEnvC fd s.heap.objs.size f, s.heap.objs.size, sc.nm.map (bindL (fun z => sc.scope.names.lookup z) binds fun _ => none)⟩ :: fr) ((s.heap.objs.size + 1, co) :: fs) { s with heap := h', toks := tk } := by
      refine ⟨fun p hp => ?_, kp.nodup_iff.mpr ?_, fun a ha => ?_, C'.old, C'.size, fun f' hf' => ?_, fun t ht => ?_, C.tlow, C.gens, C.os⟩
      · rcases List.mem_cons.mp hp with rfl | hp
        · exact hco
        · exact C'.fact p hp
      · refine List.nodup_cons.mpr ⟨fun h => ?_, List.nodup_cons.mpr ⟨hL1, C.nd⟩⟩
        rcases List.mem_cons.mp h with h | h
        · exact absurd h (Nat.ne_of_lt (Nat.lt_succ_self _))
        · exact hL h
      · rcases List.mem_cons.mp (kp.mem_iff.mp ha) with rfl | ha
        · exact C.size
        · rcases List.mem_cons.mp ha with rfl | ha
          · exact Nat.le_succ_of_le C.size
          · exact C.low a ha
      · rcases List.mem_cons.mp hf' with rfl | hf'
        · refine ⟨rfl, rfl, X.scp, g.1.1, X.gl, X.bl, _, hn, fun i x v hi hv => ?_⟩
          dsimp only at hi hv
          rw [List.getElem?_map, hi] at hv
          rw [X.scp]
          exact Option.some.inj hv
        · exact C'.frames f' hf'
      · obtain ⟨ps, e, r⟩ := C.tabs t ht
        refine ⟨ps, hk _ _ e, r.imp id fun ⟨cd, a1, a2, a3⟩ => ⟨cd, a1, fun hm => ?_, a3.keeps hk⟩⟩
        have hlt : cd < s.heap.objs.size := by
          obtain ⟨c, oc, vs, tk, hcd, hget, _⟩ := a3
          cases hcd
          exact Heap.lt_size hget
        rcases List.mem_cons.mp (kp.mem_iff.mp hm) with h | h
        · exact absurd h (Nat.ne_of_lt hlt)
        · rcases List.mem_cons.mp h with h | h
          · exact absurd h (Nat.ne_of_lt (Nat.lt_succ_of_lt hlt))
          · exact a2 h
    refine ⟨(C.lim G).keeps hk, codeC_func (k _ co _ ?_ C'' ec)⟩
    rw [hcd]
    show Data.cell (bindC (fun z => fd.scope.names.lookup z) binds (fun _ => none) y) = _
    rw [X.scp]

theorem k_make {R' : Result → Shared → Prop} {C_ fI : Addr} {rest : List Value} {kw : List (Str × Value)} (G : Gd K H TB mg mb) (C : Cx H TB os fr fs s) (hm : makesIn K C_ = true)
    (hi : findIn K (.ref C_) "__init__" = some (some (.ref fI))) (hf : typeIn K (.ref fI) = some (.type "function"))
    (k : ∀ x dx s', Cx H TB os fr ((x, instObj C_ dx) :: (dx, dictOf [] 0) :: fs) s' →
      codeC (model prog w) (A.under (.builtin "type.__call__" ⟨.ref C_ :: rest, kw⟩)) (.call (.ref fI) ⟨.ref x :: rest, kw⟩) (InitBack x R') s') :
    codeC (model prog w) A (.call (.ref C_) ⟨rest, kw⟩) R' s := by
  obtain ⟨hh, g, d, t, os'⟩ := s
  have X := C.kin G
  refine codeC_make (makes_of X hm) (looks_findIn X hi) (fun self => bind_fn X self hf) rfl (k _ hh.objs.size _ ?_)
  have C1 := C.more (h' := hh.push emptyDict) (a := hh.objs.size) (o := emptyDict) (fun b o e => Heap.get?_push_of_some _ e) (by rw [Heap.size_push]; exact Nat.le_succ _) t C.gens (Nat.le_refl _) (Heap.get?_push_size _ rfl)
  exact C1.more (h' := (hh.push emptyDict).push (instObj C_ hh.objs.size)) (a := hh.objs.size + 1) (o := instObj C_ hh.objs.size) (fun b o e => Heap.get?_push_of_some _ e) (by show (hh.push emptyDict).objs.size ≤ _; rw [Heap.size_push (hh.push emptyDict)]; exact Nat.le_succ _) t C.gens
    (by show (hh.push emptyDict).objs.size ≤ _; rw [Heap.size_push]; exact Nat.le_refl _) (by have := Heap.get?_push_size (hh.push emptyDict) (o := instObj C_ hh.objs.size) rfl; rwa [Heap.size_push] at this)
end
end Px
end

/- PxV1 -/
section
open PySem PySem.W PySem.Calls PyProof.Rows
set_option Elab.async false
set_option linter.unusedVariables false
set_option maxRecDepth 100000
namespace Px
abbrev lstO (vs : List Value) (n : Nat := 0) : Obj := { cls := .type "list", data := .seq vs.toArray n }
abbrev tupO (vs : List Value) : Obj := { cls := .type "tuple", data := .seq vs.toArray 0 }
abbrev baO (x : List UInt8) : Obj := { cls := .type "bytearray", data := .bytearray x.toArray 0 }
def cut {α : Type} (x : List α) (lo hi : Option Int) : List α := (x.drop (lo.elim 0 (clipAt x.length))).take (hi.elim x.length (clipAt x.length) - lo.elim 0 (clipAt x.length))
theorem cut_le {α : Type} (x : List α) (lo hi : Option Int) : (cut x lo hi).length ≤ x.length := by
  unfold cut; rw [List.length_take, List.length_drop]; omega
theorem cut_to {α : Type} (x : List α) (n : Nat) : cut x none (some (n : Int)) = x.take n := by
  unfold cut
  simp only [Option.elim_none, Option.elim_some, List.drop_zero, Nat.sub_zero, clipAt_nat]
  rw [List.take_eq_take_iff]; omega
theorem cut_from {α : Type} (x : List α) (n : Nat) : cut x (some (n : Int)) none = x.drop n := by
  unfold cut
  simp only [Option.elim_none, Option.elim_some, clipAt_nat]
  rw [List.take_of_length_le (by rw [List.length_drop]; omega)]
  by_cases h : n ≤ x.length
  · rw [Nat.min_eq_left h]
  · rw [List.drop_eq_nil_of_le (by omega), List.drop_eq_nil_of_le (by omega)]
theorem cut_both {α : Type} (x : List α) (n m : Nat) : cut x (some (n : Int)) (some (m : Int)) = (x.drop n).take (m - n) := by
  unfold cut
  simp only [Option.elim_some, clipAt_nat]
  by_cases h : n ≤ x.length
  · rw [Nat.min_eq_left h, List.take_eq_take_iff, List.length_drop]; omega
  · rw [List.drop_eq_nil_of_le (by omega), List.drop_eq_nil_of_le (by omega)]; simp

section
variable {prog : Program} {w : World} {K : Frag} {H : Heap} {TB : List TabSpec} {os : OsState} {mg mb : Str → Option Value}
variable {A : Around} {E : Value → Shared → Prop} {fr R : List Fm} {fs fs' F : Fct} {s : Shared} {env : Env}

theorem Cx.push (C : Cx H TB os fr fs s) (o : Obj) (ho : o.isFreed = false) (t : Nat) : Cx H TB os fr ((s.heap.objs.size, o) :: fs) { s with heap := s.heap.push o, toks := t } :=
  C.more (fun b o e => Heap.get?_push_of_some _ e) (by rw [Heap.size_push]; exact Nat.le_succ _) t C.gens (Nat.le_refl _) (Heap.get?_push_size _ ho)
theorem Cx.pushK (C : Cx H TB os fr fs s) (o : Obj) (t : Nat) : Cx H TB os fr fs { s with heap := s.heap.push o, toks := t } :=
  C.keeps (fun b o e => Heap.get?_push_of_some _ e) (by rw [Heap.size_push]; exact Nat.le_succ _) t C.gens
theorem Cx.list {l : Addr} {vs : List Value} {n : Nat} (C : Cx H TB os fr fs s) (h : (l, lstO vs n) ∈ fs) : s.heap.IsList l vs.toArray := ⟨_, C.fact _ h, rfl, _, rfl⟩

theorem subscriptTail_any {value slice : Expr} {o i : Value} {T id : String} {Q : Value → Shared → Prop} (hT : s.TypeIs o T) (hl : typeLookup (.type T) "__getitem__" = pure (some (.builtin id))) (h : wpAny (model prog w) A (getItem o i) Q E s)
    {ops : List Value} (hs : subscripted slice false o i = operate ops (getItem o i)) : wpAny (model prog w) A (subscriptTail value slice o i) Q E s := by
  unfold subscriptTail
  refine wpAny_bind ?_
  rw [getitemInPython_of_ne hT.not_modules]
  refine wpAny_bind (wpAny_specialOf hT hl ?_)
  have fin : wpAny (model prog w) A (subscripted slice false o i) (fun r s₃ => wpAny (model prog w) A (letTemporaryGo value o r >>= fun _ => pure r) Q E s₃) E s := by
    rw [hs]
    exact wpAny_operating (wpAny_mono h (fun r s₃ h₃ => wpAny_bind (wpAny_letTemporaryGo (wpAny_pure h₃))) fun _ _ x => x)
  first
    | exact wpAny_pure (wpAny_bind fin)
    | exact wpAny_bind (wpAny_pure (wpAny_bind fin))
    | exact wpAny_bind fin
theorem k_newList {vs : List Value} {Q : Value → Shared → Prop} (C : Cx H TB os fr fs s) (hz : vs.length ≤ 16777216) (k : ∀ l s', Cx H TB os fr ((l, lstO vs) :: fs) s' → Q (.ref l) s') : wpC (model prog w) A (newList vs) Q E s :=
  wpC_any (wpAny_newList (k _ _ (C.push _ rfl _)) (by rw [sizeLine_eq]; exact hz))
theorem k_newTuple {vs : List Value} {Q : Value → Shared → Prop} (C : Cx H TB os fr fs s) (hz : vs.length ≤ 16777216) (k : ∀ l s', Cx H TB os fr ((l, tupO vs) :: fs) s' → Q (.ref l) s') : wpC (model prog w) A (newTuple vs) Q E s :=
  wpC_any (wpAny_newTuple (k _ _ (C.push _ rfl _)) (by rw [sizeLine_eq]; exact hz))
theorem k_truthyList {l : Addr} {vs : List Value} {n : Nat} {Q : Bool → Shared → Prop} (C : Cx H TB os fr fs s) (h : (l, lstO vs n) ∈ fs) (hz : vs.length ≤ 16777216) (k : ∀ s', Cx H TB os fr fs s' → Q (!vs.isEmpty) s') : wpC (model prog w) A (truthy (.ref l)) Q E s :=
  wpC_any (wpAny_truthy_list (C.list h) (by rw [List.size_toArray]; omega) (by
    have e : vs.toArray.isEmpty = vs.isEmpty := by cases vs <;> rfl
    rw [e]; exact k _ (C.tok _)))
theorem k_truthyBool {b : Bool} {Q : Bool → Shared → Prop} (k : Q b s) : wpC (model prog w) A (truthy (.bool b)) Q E s := fun _ _ _ _ _ => k
theorem k_truthyNone {Q : Bool → Shared → Prop} (k : Q false s) : wpC (model prog w) A (truthy .none) Q E s := fun _ _ _ _ _ => k
theorem k_truthyInt {i : Int} {t : Tok} {Q : Bool → Shared → Prop} (k : Q (i != 0) s) : wpC (model prog w) A (truthy (.int i t)) Q E s := wpC_any (PySem.P.truthy_int k)
theorem k_truthyBytes {x : List UInt8} {t : Tok} {Q : Bool → Shared → Prop} (C : Cx H TB os fr fs s) (hz : x.length ≤ 16777216) (k : ∀ s', Cx H TB os fr fs s' → Q (!x.isEmpty) s') : wpC (model prog w) A (truthy (.bytes x.toArray t)) Q E s :=
  wpC_any (truthy_bytes (by rw [List.size_toArray]; omega) (by
    have e : (((x.toArray.size : Nat) : Int) != 0) = !x.isEmpty := by cases x <;> simp; omega
    rw [e]; exact k _ (C.tok _)))
theorem k_lenBytes {x : List UInt8} {t : Tok} {Q : Value → Shared → Prop} (C : Cx H TB os fr fs s) (hz : x.length ≤ 16777216) (k : ∀ u s', Cx H TB os fr fs s' → Q (.int x.length u) s') : wpC (model prog w) A (call (.builtin "len") [.bytes x.toArray t]) Q E s :=
  wpC_any (len_bytes (by rw [List.size_toArray]; omega) (by rw [List.size_toArray]; exact k _ _ (C.tok _)))
theorem k_lenList {l : Addr} {vs : List Value} {n : Nat} {Q : Value → Shared → Prop} (C : Cx H TB os fr fs s) (h : (l, lstO vs n) ∈ fs) (hz : vs.length ≤ 16777216) (k : ∀ u s', Cx H TB os fr fs s' → Q (.int vs.length u) s') : wpC (model prog w) A (call (.builtin "len") [.ref l]) Q E s :=
  wpC_any (call_len_list (C.list h) (by rw [List.size_toArray]; omega) (by rw [List.size_toArray]; exact k _ _ (C.tok _)))
theorem Cx.keepF {f : Fm} (C : Cx H TB os (f :: R) fs s) {h' : Heap} (k : ∀ b o, s.heap.get? b = some o → h'.get? b = some o) (t : Nat) : Cx H TB os (f :: R) fs { s with heap := h', toks := t } := by
  obtain ⟨m, hn, _⟩ := (C.frames f (.head _)).ns
  have hl := C.low f.L (.head _)
  have hs : H.objs.size ≤ h'.objs.size := Nat.le_of_lt (Nat.lt_of_le_of_lt hl (hn.keeps k).lt)
  exact ⟨fun p hp => k _ _ (C.fact p hp), C.nd, C.low, fun b o e hb => k _ _ (C.old b o e hb), hs, fun f hf => (C.frames f hf).keeps k, fun t ht => (C.tabs t ht).keeps k, C.tlow, C.gens, C.os⟩
theorem k_min {f : Fm} {a b : Int} {t u : Tok} {Q : Value → Shared → Prop} (C : Cx H TB os (f :: R) fs s) (hh : A.handled = none) (k : ∀ t' s', Cx H TB os (f :: R) fs s' → Q (.int (min a b) t') s') : wpC (model prog w) A (call (.builtin "min") [.int a t, .int b u]) Q E s :=
  wpC_any (min_two_ints hh fun h' tk hk => by
    have C' := C.keepF hk tk
    by_cases e : b < a
    · have := k u _ C'
      rw [if_pos e]; rwa [Int.min_eq_right (Int.le_of_lt e)] at this
    · have := k t _ C'
      rw [if_neg e]; rwa [Int.min_eq_left (Int.not_lt.mp e)] at this)
theorem k_itemBytes {value slice : Expr} {x : List UInt8} {t u : Tok} {i : Nat} {Q : Value → Shared → Prop} (C : Cx H TB os fr fs s) (hz : x.length ≤ 16777216) (h1 : i < x.length) (k : ∀ v s', Cx H TB os fr fs s' → Q (.int (x.getD i 0).toNat v) s')
    (hs : subscripted slice false (.bytes x.toArray t) (.int i u) = operate [.bytes x.toArray t, .int i u] (getItem (.bytes x.toArray t) (.int i u)) := by with_unfolding_all rfl)
    (ht : ∀ r, letTemporaryGo value (.bytes x.toArray t) r = pure () := by intro _; with_unfolding_all rfl) : wpC (model prog w) A (subscriptTail value slice (.bytes x.toArray t) (.int i u)) Q E s :=
  wpC_any (KBy.item_N (by omega) (Int.natCast_nonneg i) (by omega) (k _ _ (C.tok _)) hs ht)
theorem k_itemList {value slice : Expr} {l : Addr} {vs : List Value} {n : Nat} {u : Tok} {i : Nat} {v : Value} {Q : Value → Shared → Prop} (C : Cx H TB os fr fs s) (h : (l, lstO vs n) ∈ fs) (hi : vs[i]? = some v) (hz : vs.length ≤ 16777216) (k : Q v s)
    (hs : subscripted slice false (.ref l) (.int i u) = operate [.ref l, .int i u] (getItem (.ref l) (.int i u)) := by with_unfolding_all rfl) : wpC (model prog w) A (subscriptTail value slice (.ref l) (.int i u)) Q E s := by
  have hi' := (List.getElem?_eq_some_iff.mp hi).1
  exact wpC_any (subscriptTail_any (C.list h).typeIs (slot_list_getitem.lookup) (wpAny_getItem_list (C.list h) (Int.natCast_nonneg i) (by omega) (by rw [Int.toNat_natCast]; simpa using hi) k) hs)
end
end Px
end

/- PxV2 -/
section
open PySem PySem.W PySem.Calls PyProof.Rows
set_option Elab.async false
set_option linter.unusedVariables false
set_option maxRecDepth 100000
namespace Px
abbrev slO (l u : Value) : Obj := { cls := .type "slice", data := .fields #[l, u, .none] }
section
variable {prog : Program} {w : World} {K : Frag} {H : Heap} {TB : List TabSpec} {os : OsState} {mg mb : Str → Option Value}
variable {A : Around} {E : Value → Shared → Prop} {fr R : List Fm} {fs fs' F : Fct} {s : Shared} {env : Env}

theorem k_newSlice {l u : Value} {Q : Value → Shared → Prop} (C : Cx H TB os fr fs s) (k : ∀ sl s', Cx H TB os fr ((sl, slO l u) :: fs) s' → Q (.ref sl) s') : wpC (model prog w) A (newFields "slice" [l, u, .none]) Q E s :=
  wpC_any (wpAny_newObj_type (k _ _ (C.push _ rfl _)))
theorem Cx.slice {sl : Addr} {l u : Value} (C : Cx H TB os fr ((sl, slO l u) :: fs) s) : s.heap.IsSliceOf sl l u .none := ⟨_, C.fact _ (.head _), rfl, rfl⟩
theorem Cx.tail {p : Addr × Obj} (C : Cx H TB os fr (p :: fs) s) : Cx H TB os fr fs s := C.drop (List.sublist_cons_self _ _)
theorem k_sliceBytes {value slice : Expr} {x : List UInt8} {t : Tok} {sl : Addr} {l u : Value} {lo hi : Option Int} {Q : Value → Shared → Prop} (C : Cx H TB os fr ((sl, slO l u) :: fs) s) (hl : IsPart l lo) (hu : IsPart u hi) (hz : x.length ≤ 16777216)
    (k : ∀ t' s', Cx H TB os fr fs s' → Q (.bytes (cut x lo hi).toArray t') s')
    (hs : subscripted slice false (.bytes x.toArray t) (.ref sl) = operate [.ref sl, .bytes x.toArray t] (getItem (.bytes x.toArray t) (.ref sl)) := by with_unfolding_all rfl) :
    wpC (model prog w) A (subscriptTail value slice (.bytes x.toArray t) (.ref sl)) Q E s := by
  have e : KBy.picked x.toArray lo hi = (cut x lo hi).toArray := by rw [KBc.picked_eq]; unfold cut; rw [List.size_toArray]
  refine wpC_any (subscriptTail_any (typeIs_bytes _ _ _) FB.slot_bytes_getitem.lookup (getItem_meets (typeIs_bytes _ _ _) (by decide) FB.slot_bytes_getitem FB.entry_bytes_getitem (FB.args_bytes_getitem_2 _ _) (KBc.meets_slice2 x.toArray t _ hl hu) ⟨C.slice, ?_, fun t' k' => ?_⟩) hs)
  · exact Nat.le_trans (KBc.size_picked_le _ _ _) (by rw [List.size_toArray, sizeLine_eq]; exact hz)
  · rw [e]; exact k _ _ ((C.tok _).tail)
theorem k_sliceList {value slice : Expr} {a : Addr} {xs : List Value} {n : Nat} {sl : Addr} {l u : Value} {lo hi : Option Int} {Q : Value → Shared → Prop} (C : Cx H TB os fr ((sl, slO l u) :: fs) s) (ha : (a, lstO xs n) ∈ fs) (hl : IsPart l lo) (hu : IsPart u hi) (hz : xs.length ≤ 16777216)
    (k : ∀ b s', Cx H TB os fr ((b, lstO (cut xs lo hi)) :: fs) s' → Q (.ref b) s')
    (hs : subscripted slice false (.ref a) (.ref sl) = operate [.ref sl, .ref a] (getItem (.ref a) (.ref sl)) := by with_unfolding_all rfl) :
    wpC (model prog w) A (subscriptTail value slice (.ref a) (.ref sl)) Q E s := by
  have e : slicePick xs.toArray lo hi none = (cut xs lo hi).toArray := by rw [slicePick_plain]; unfold cut; rw [List.size_toArray]
  have hL := C.list (.tail _ ha)
  refine wpC_any (subscriptTail_any hL.typeIs slot_list_getitem.lookup (wpAny_getItem_list_slice hL C.slice hl hu .none (by simp) ?_ (by rw [List.size_toArray, sizeLine_eq]; exact hz)) hs)
  rw [e]
  exact k _ _ ((C.push _ rfl _).drop (.cons₂ _ (List.sublist_cons_self _ _)))
theorem k_eqBytes {x y : List UInt8} {t u : Tok} {Q : Value → Shared → Prop} (k : Q (.bool (x == y)) s) : wpC (model prog w) A (compareOp .Eq (.bytes x.toArray t) (.bytes y.toArray u)) Q E s := wpC_any (eq_bytes k)
theorem k_neBytes {x y : List UInt8} {t u : Tok} {Q : Value → Shared → Prop} (k : Q (.bool (x != y)) s) : wpC (model prog w) A (compareOp .NotEq (.bytes x.toArray t) (.bytes y.toArray u)) Q E s := wpC_any (ne_bytes k)
theorem k_addBytes {x y : List UInt8} {t u : Tok} {Q : Value → Shared → Prop} (C : Cx H TB os fr fs s) (hz : x.length + y.length ≤ 16777216) (k : ∀ t' s', Cx H TB os fr fs s' → Q (.bytes (x ++ y).toArray t') s') : wpC (model prog w) A (binaryOp .Add (.bytes x.toArray t) (.bytes y.toArray u)) Q E s :=
  wpC_any (KBy.add_bytes (by rw [List.size_toArray, List.size_toArray]; exact hz) fun t' k' => by rw [List.append_toArray]; exact k _ _ (C.tok _))
/- ints -/
theorem k_add {a b : Int} {t u : Tok} {Q : Value → Shared → Prop} (C : Cx H TB os fr fs s) (k : ∀ t' s', Cx H TB os fr fs s' → Q (.int (a + b) t') s') : wpC (model prog w) A (binaryOp .Add (.int a t) (.int b u)) Q E s := wpC_any (PySem.P.add_int (k _ _ (C.tok _)))
theorem k_sub {a b : Int} {t u : Tok} {Q : Value → Shared → Prop} (C : Cx H TB os fr fs s) (k : ∀ t' s', Cx H TB os fr fs s' → Q (.int (a - b) t') s') : wpC (model prog w) A (binaryOp .Sub (.int a t) (.int b u)) Q E s := wpC_any (PySem.P.sub_int (k _ _ (C.tok _)))
theorem k_isub {a b : Int} {t u : Tok} {Q : Value → Shared → Prop} (C : Cx H TB os fr fs s) (k : ∀ t' s', Cx H TB os fr fs s' → Q (.int (a - b) t') s') : wpC (model prog w) A (inplaceOp .Sub (.int a t) (.int b u)) Q E s := wpC_any (PySem.P.isub_int (k _ _ (C.tok _)))
theorem k_mul {a b : Int} {t u : Tok} {Q : Value → Shared → Prop} (C : Cx H TB os fr fs s) (hm : IntMulOk a b) (k : ∀ t' s', Cx H TB os fr fs s' → Q (.int (a * b) t') s') : wpC (model prog w) A (binaryOp .Mult (.int a t) (.int b u)) Q E s := wpC_any (PySem.P.mul_int (k _ _ (C.tok _)) hm)
theorem k_mod {a b : Int} {t u : Tok} {Q : Value → Shared → Prop} (C : Cx H TB os fr fs s) (hb : b ≠ 0) (k : ∀ t' s', Cx H TB os fr fs s' → Q (.int (a.fmod b) t') s') : wpC (model prog w) A (binaryOp .Mod (.int a t) (.int b u)) Q E s := wpC_any (PyProof.Rows.mod_int hb (k _ _ (C.tok _)))
theorem k_lt {a b : Int} {t u : Tok} {Q : Value → Shared → Prop} (k : Q (.bool (decide (a < b))) s) : wpC (model prog w) A (compareOp .Lt (.int a t) (.int b u)) Q E s := wpC_any (PySem.P.lt_int k)
theorem k_le {a b : Int} {t u : Tok} {Q : Value → Shared → Prop} (k : Q (.bool (decide (a ≤ b))) s) : wpC (model prog w) A (compareOp .LtE (.int a t) (.int b u)) Q E s := wpC_any (PySem.P.le_int k)
theorem k_gt {a b : Int} {t u : Tok} {Q : Value → Shared → Prop} (k : Q (.bool (decide (a > b))) s) : wpC (model prog w) A (compareOp .Gt (.int a t) (.int b u)) Q E s := wpC_any (PySem.P.gt_int k)
theorem k_eq {a b : Int} {t u : Tok} {Q : Value → Shared → Prop} (k : Q (.bool (a == b)) s) : wpC (model prog w) A (compareOp .Eq (.int a t) (.int b u)) Q E s := wpC_any (PySem.P.eq_int k)
theorem k_ne {a b : Int} {t u : Tok} {Q : Value → Shared → Prop} (k : Q (.bool (a != b)) s) : wpC (model prog w) A (compareOp .NotEq (.int a t) (.int b u)) Q E s := wpC_any (PySem.P.ne_int k)
theorem k_isNone {v : Value} {Q : Value → Shared → Prop} (k : Q (.bool (v == .none)) s) : wpC (model prog w) A (compareOp .Is v .none) Q E s := wpC_any (is_none_gen k)
/- calls of what is no object of the text -/
theorem k_callB {pos : Pos} {id : String} {first : List Value} {args : List Expr} {Q : Value → Shared → Prop} (h : wpC (model prog w) A (spliced (backTo pos (starEach args env))) (fun vs s₁ => wpC (model prog w) A (call (.builtin id) (first ++ vs) []) Q E s₁) E s)
    (hp : (backTo pos (starEach args env)).all (!·.1) = true := by rfl) : wpC (model prog w) A (callWith pos (.builtin id) first (backTo pos (starEach args env)) (backToKw pos (keywordEach [] env))) Q E s :=
  c_callWith (P := fun _ => True) hp rfl (fun h _ => ⟨.machine, .inr (.inl rfl), Looks.of_pure rfl⟩) (wpC_mono h (fun vs s₁ h₁ => c_evNil ⟨trivial, h₁⟩) fun _ _ x => x)
theorem k_callT {pos : Pos} {T : String} {first : List Value} {args : List Expr} {Q : Value → Shared → Prop} (h : wpC (model prog w) A (spliced (backTo pos (starEach args env))) (fun vs s₁ => wpC (model prog w) A (call (.type T) (first ++ vs) []) Q E s₁) E s)
    (hp : (backTo pos (starEach args env)).all (!·.1) = true := by rfl) : wpC (model prog w) A (callWith pos (.type T) first (backTo pos (starEach args env)) (backToKw pos (keywordEach [] env))) Q E s :=
  c_callWith (P := fun _ => True) hp rfl (fun h _ => ⟨.machine, .inr (.inl rfl), Looks.of_pure rfl⟩) (wpC_mono h (fun vs s₁ h₁ => c_evNil ⟨trivial, h₁⟩) fun _ _ x => x)
/-- a call of the text's own def or class -/
theorem k_callF {pos : Pos} {f : Addr} {first : List Value} {args : List Expr} {kws : List Keyword} {Q : Value → Shared → Prop} (hk : keepIn K (.ref f) = true)
    (h : wpC (model prog w) A (spliced (backTo pos (starEach args env))) (fun vs s₁ => wpC (model prog w) A (evalAll ((backToKw pos (keywordEach kws env)).map (·.2))) (fun ks s₂ => K.In s₂.heap ∧ wpC (model prog w) A (call (.ref f) (first ++ vs) (((backToKw pos (keywordEach kws env)).filterMap (·.1)).zip ks)) Q E s₂) E s₁) E s)
    (hp : (backTo pos (starEach args env)).all (!·.1) = true := by rfl) (hall : (backToKw pos (keywordEach kws env)).all (·.1.isSome) = true := by rfl) : wpC (model prog w) A (callWith pos (.ref f) first (backTo pos (starEach args env)) (backToKw pos (keywordEach kws env))) Q E s :=
  c_callWith (P := fun h => K.In h) hp hall (fun h X => keeps_K hk h X) h
end
end Px
end

/- PxM -/
section
open PySem PySem.W PySem.Calls PyProof.Rows
set_option Elab.async false
set_option linter.unusedVariables false
set_option maxRecDepth 100000
namespace Px
/-- where a name stands, and what it holds -/
inductive LAt : List Str → List (Option Value) → Str → Value → Prop
  | head {x nm v vs} : LAt (x :: nm) (some v :: vs) x v
  | tail {y u nm vs x v} (h : LAt nm vs x v) : LAt (y :: nm) (u :: vs) x v
theorem LAt.get {nm : List Str} {vs : List (Option Value)} {x : Str} {v : Value} (h : LAt nm vs x v) : ∃ i : Nat, nm[i]? = some x ∧ vs[i]? = some (some v) := by
  induction h with
  | head => exact ⟨0, rfl, rfl⟩
  | tail _ ih => obtain ⟨i, a, b⟩ := ih; exact ⟨i + 1, by simpa using a, by simpa using b⟩
inductive SAt (v : Value) : List Str → List (Option Value) → Str → List (Option Value) → Prop
  | head {x nm u vs} : SAt v (x :: nm) (u :: vs) x (some v :: vs)
  | tail {y u nm vs x vs'} (h : SAt v nm vs x vs') : SAt v (y :: nm) (u :: vs) x (u :: vs')
theorem SAt.get {v : Value} {nm : List Str} {vs : List (Option Value)} {x : Str} {vs' : List (Option Value)} (h : SAt v nm vs x vs') : ∃ i : Nat, nm[i]? = some x ∧ SetAt (some v) i vs vs' := by
  induction h with
  | head => exact ⟨0, rfl, .head⟩
  | tail _ ih => obtain ⟨i, a, b⟩ := ih; exact ⟨i + 1, by simpa using a, .tail b⟩
section
variable {prog : Program} {w : World} {K : Frag} {H : Heap} {TB : List TabSpec} {os : OsState} {mg mb : Str → Option Value}
variable {A : Around} {E : Value → Shared → Prop} {fr R : List Fm} {fs fs' F : Fct} {s : Shared} {sc : Sc} {env : Env} {L : Addr} {vs vs' : List (Option Value)} {nm : List Str}
theorem m_local {x : Str} {pos : Pos} {v : Value} {Q : Value → Shared → Prop} (C : Cx H TB os (⟨sc, env, L, vs⟩ :: R) fs s) (hN : sc.nm = nm) (h : LAt nm vs x v) (k : Q v s) : wpC (model prog w) A (eval (.Name x pos) env) Q E s := by
  obtain ⟨i, a, b⟩ := h.get; exact k_local C i (by rw [hN]; exact a) b k
theorem m_localN {x : Str} {v : Value} {Q : Value → Shared → Prop} (C : Cx H TB os (⟨sc, env, L, vs⟩ :: R) fs s) (hN : sc.nm = nm) (h : LAt nm vs x v) (k : Q v s) : wpC (model prog w) A (loadName env x) Q E s := by
  obtain ⟨i, a, b⟩ := h.get; exact k_localN C i (by rw [hN]; exact a) b k
theorem m_store {x : Str} {v : Value} {Q : Unit → Shared → Prop} (C : Cx H TB os (⟨sc, env, L, vs⟩ :: R) fs s) (hN : sc.nm = nm) (h : SAt v nm vs x vs') (k : ∀ s', Cx H TB os (⟨sc, env, L, vs'⟩ :: R) fs s' → Q () s') : wpC (model prog w) A (storeName env x v) Q E s := by
  obtain ⟨i, a, b⟩ := h.get; exact k_store C i (by rw [hN]; exact a) b k
theorem m_glob {x : Str} {pos : Pos} {v : Value} {Q : Value → Shared → Prop} (G : Gd K H TB mg mb) (C : Cx H TB os (⟨sc, env, L, vs⟩ :: R) fs s) (hx : nsIn K mainGlobals x = some (some v)) (hi : sc.gn.contains x = true) (k : Q v s) : wpC (model prog w) A (eval (.Name x pos) env) Q E s := by
  obtain ⟨i, e⟩ := List.mem_iff_getElem?.mp (List.contains_iff_mem.mp hi); exact k_glob G C i e hx k
theorem m_blt {x : Str} {pos : Pos} {v : Value} {Q : Value → Shared → Prop} (G : Gd K H TB mg mb) (C : Cx H TB os (⟨sc, env, L, vs⟩ :: R) fs s) (hx : nsIn K mainGlobals x = some none ∧ bootBuiltins x = some v ∧ x ≠ "__name__") (hi : sc.gn.contains x = true) (k : Q v s) : wpC (model prog w) A (eval (.Name x pos) env) Q E s := by
  obtain ⟨i, e⟩ := List.mem_iff_getElem?.mp (List.contains_iff_mem.mp hi); exact k_blt G C i e hx.1 hx.2.1 hx.2.2 k
end
inductive GAt : List Str → List Value → Str → Value → Prop
  | head {x nm v us} : GAt (x :: nm) (v :: us) x v
  | tail {y u nm us x v} (h : GAt nm us x v) : GAt (y :: nm) (u :: us) x v
theorem GAt.get {nm : List Str} {us : List Value} {x : Str} {v : Value} (h : GAt nm us x v) : ∃ i : Nat, nm[i]? = some x ∧ us[i]? = some v := by
  induction h with
  | head => exact ⟨0, rfl, rfl⟩
  | tail _ ih => obtain ⟨i, a, b⟩ := ih; exact ⟨i + 1, by simpa using a, by simpa using b⟩
inductive UAt (v : Value) : List Str → List Value → Str → List Value → Prop
  | head {x nm u us} : UAt v (x :: nm) (u :: us) x (v :: us)
  | tail {y u nm us x us'} (h : UAt v nm us x us') : UAt v (y :: nm) (u :: us) x (u :: us')
theorem UAt.get {v : Value} {nm : List Str} {us : List Value} {x : Str} {us' : List Value} (h : UAt v nm us x us') : ∃ i : Nat, nm[i]? = some x ∧ i < us.length ∧ us' = us.set i v := by
  induction h with
  | head => exact ⟨0, rfl, Nat.succ_pos _, rfl⟩
  | tail _ ih => obtain ⟨i, a, b, rfl⟩ := ih; exact ⟨i + 1, by simpa using a, Nat.succ_lt_succ b, rfl⟩
inductive NAt (v : Value) : List Str → List Value → Str → List Value → Prop
  | head {x nm} : NAt v (x :: nm) [] x [v]
  | tail {y u nm us x us'} (h : NAt v nm us x us') : NAt v (y :: nm) (u :: us) x (u :: us')
theorem NAt.get {v : Value} {nm : List Str} {us : List Value} {x : Str} {us' : List Value} (h : NAt v nm us x us') : nm[us.length]? = some x ∧ us' = us ++ [v] := by
  induction h with
  | head => exact ⟨rfl, rfl⟩
  | tail _ ih => exact ⟨by simpa using ih.1, by rw [ih.2]; rfl⟩
section
variable {prog : Program} {w : World} {K : Frag} {H : Heap} {TB : List TabSpec} {os : OsState} {mg mb : Str → Option Value}
variable {A : Around} {E : Value → Shared → Prop} {fr R : List Fm} {fs fs' F : Fct} {s : Shared}
theorem m_get {x C_ dx : Addr} {nm : List Str} {es : List DictEntry} {n : Nat} {us : List Value} {name : Str} {v : Value} {expr : Bool} {Q : Value → Shared → Prop} (G : Gd K H TB mg mb) (C : Cx H TB os fr fs s) (h1 : (x, instObj C_ dx) ∈ fs) (h2 : (dx, dictOf es n) ∈ fs)
    (a : AttrsAre nm es us) (c : ClsOk K C_ nm) (g : GAt nm us name v) (hh : handedIn v = true) (k : ∀ s', Cx H TB os fr fs s' → Q v s') : wpC (model prog w) A (getAttr (.ref x) name expr) Q E s := by
  obtain ⟨i, e1, e2⟩ := g.get; exact k_get G C h1 h2 a c i e1 e2 hh k
theorem m_set {x C_ dx : Addr} {nm : List Str} {es : List DictEntry} {n : Nat} {us us' : List Value} {name : Str} {v : Value} {Q : Unit → Shared → Prop} {g : Obj → Fct} (G : Gd K H TB mg mb) (C : Cx H TB os fr fs s) (h1 : (x, instObj C_ dx) ∈ fs)
    (h2 : (dx, dictOf es n) ∈ fs) (a : AttrsAre nm es us) (c : ClsOk K C_ nm) (u : UAt v nm us name us') (hz : nm.length < 1000) (U : ∀ o', Upd dx (dictOf es n) o' fs (g o'))
    (k : ∀ s' es' n', AttrsAre nm es' us' → Cx H TB os fr (g (dictOf es' n')) s' → Q () s') : wpC (model prog w) A (setAttr (.ref x) name v) Q E s := by
  obtain ⟨i, e1, e2, rfl⟩ := u.get; exact k_setattr G C h1 h2 a c i e1 e2 hz U k
theorem m_new {x C_ dx : Addr} {nm : List Str} {es : List DictEntry} {n : Nat} {us us' : List Value} {name : Str} {v : Value} {Q : Unit → Shared → Prop} {g : Obj → Fct} (G : Gd K H TB mg mb) (C : Cx H TB os fr fs s) (h1 : (x, instObj C_ dx) ∈ fs)
    (h2 : (dx, dictOf es n) ∈ fs) (a : AttrsAre nm es us) (c : ClsOk K C_ nm) (u : NAt v nm us name us') (hz : nm.length < 1000) (U : ∀ o', Upd dx (dictOf es n) o' fs (g o'))
    (k : ∀ s' es' n', AttrsAre nm es' us' → Cx H TB os fr (g (dictOf es' n')) s' → Q () s') : wpC (model prog w) A (setAttr (.ref x) name v) Q E s := by
  obtain ⟨e1, rfl⟩ := u.get; exact k_setnew G C h1 h2 a c e1 hz U k
end
/-- facts chosen out of facts -/
inductive Out (p : Addr × Obj) : Fct → Fct → Prop
  | head {r} : Out p (p :: r) r
  | tail {q r r'} (h : Out p r r') : Out p (q :: r) (q :: r')
theorem Out.perm {p : Addr × Obj} {r r' : Fct} (h : Out p r r') : r.Perm (p :: r') := by
  induction h with
  | head => exact .refl _
  | tail _ ih => exact (ih.cons _).trans (.swap _ _ _)
inductive Sel : Fct → Fct → Prop
  | refl {F} : Sel F F
  | nil {F} : Sel F []
  | take {p r F F'} (h : Out p F r) (k : Sel r F') : Sel F (p :: F')
  | drop {p r F} (k : Sel r F) : Sel (p :: r) F
theorem Sel.sub {F F' : Fct} (h : Sel F F') : ∃ l : Fct, l.Perm F ∧ F'.Sublist l := by
  induction h with
  | refl => exact ⟨_, .refl _, .refl _⟩
  | nil => exact ⟨_, .refl _, List.nil_sublist _⟩
  | take h _ ih => obtain ⟨l, a, b⟩ := ih; exact ⟨_, (a.cons _).trans h.perm.symm, b.cons_cons _⟩
  | drop _ ih => obtain ⟨l, a, b⟩ := ih; exact ⟨_, a.cons _, b.cons _⟩
theorem Cx.sel {H : Heap} {TB : List TabSpec} {os : OsState} {fr : List Fm} {fs fs' : Fct} {s : Shared} (C : Cx H TB os fr fs s) (h : Sel fs fs') : Cx H TB os fr fs' s := by
  obtain ⟨l, a, b⟩ := h.sub; exact (C.perm a).drop b
end Px
end

/- PxB -/
section
open PySem PySem.W PySem.Calls PyProof.Rows
set_option Elab.async false
set_option linter.unusedVariables false
set_option maxRecDepth 100000
set_option maxHeartbeats 4000000
namespace Px
namespace Ba
theorem mro : mroOf (.type "bytearray") = pure [.type "bytearray", .type "object"] := by rw [mroOf_type]; kernel_rfl
theorem look_new : typeLookup (.type "bytearray") "__new__" = pure (some (.builtin "bytearray.__new__")) := by rw [typeLookup_type, builtinLookup_eq_fast]; kernel_rfl
theorem slot_init : Slot "bytearray" "__init__" "bytearray.__init__" :=
  .of (owner := "bytearray") (n := "__init__") (by rw [typeLookup_type, builtinLookup_eq_fast]; kernel_rfl) (by decide +kernel) (by decide +kernel) (by decide +kernel) (by first | exact .inl (by decide +kernel) | exact .inr (by decide +kernel)) (by rw [isSubtype_type]; kernel_rfl)
theorem called : TypeCalled "bytearray" "bytearray.__new__" "bytearray.__init__" :=
  ⟨by decide +kernel, by decide +kernel, ⟨_, _, mro⟩, madeBy_type mro look_new (by decide +kernel), by decide +kernel, by rw [isSubtype_type]; kernel_rfl, slot_init⟩
theorem plain_new : plainId "bytearray.__new__" = true := by decide +kernel
theorem entry_new : entryFor table "bytearray.__new__" = some Builtin.«list.__new__» := entryFor_alias (id' := "list.__new__") (by kernel_rfl) rfl (by decide +kernel) (by kernel_rfl)
theorem owner_new : ("bytearray.__new__".splitOn ".__new__").headD "" = "bytearray" := by simp +decide [String.splitOn, String.splitOnAux]
theorem sub_self : isSubtype (.type "bytearray") (.type "bytearray") = pure true := by rw [isSubtype_type]; kernel_rfl
theorem entry_init : entryFor table "bytearray.__init__" = some Builtin.«bytearray.__init__» := entryFor_of_tree (by kernel_rfl)
theorem new0 : checkBuiltinCall "bytearray.__new__" ⟨[.type "bytearray"], []⟩ = pure () := by kernel_rfl
theorem new1 (a : Value) : checkBuiltinCall "bytearray.__new__" ⟨[.type "bytearray", a], []⟩ = pure () := by kernel_rfl
theorem type0 : checkTypeCall "bytearray" ⟨[], []⟩ = pure () := by kernel_rfl
theorem type1 (a : Value) : checkTypeCall "bytearray" ⟨[a], []⟩ = pure () := by kernel_rfl
theorem init0 (a : Value) : argsOk "bytearray.__init__" ⟨[a], []⟩ := by unfold argsOk; kernel_rfl
theorem init1 (a b : Value) : argsOk "bytearray.__init__" ⟨[a, b], []⟩ := by unfold argsOk; kernel_rfl
end Ba
section
variable {prog : Program} {w : World} {A : Around} {E : Value → Shared → Prop} {s : Shared}
theorem ba_code_new {as : List Value} (hc : checkBuiltinCall "bytearray.__new__" ⟨.type "bytearray" :: as, []⟩ = pure ()) {Q₁ : Value → Shared → Prop}
    (h : Q₁ (.ref s.heap.objs.size) { s with heap := s.heap.push (baO []) }) :
    codeAny (model prog w) A (.call (.builtin "bytearray.__new__") ⟨.type "bytearray" :: as, []⟩) (wants Q₁ E) s := by
  refine codeAny_of_tree ?_
  show wpAny _ A.in1 (do checkBuiltinCall "bytearray.__new__" ⟨.type "bytearray" :: as, []⟩; again (.builtin "bytearray.__new__" ⟨.type "bytearray" :: as, []⟩)) _ _ s
  refine wpAny_bind (wpAny_of_eq hc (wpAny_pure ⟨plainId_quiet Ba.plain_new _, codeAny_builtin_stack Ba.entry_new rfl fun p st => ?_⟩))
  rw [Around.under_plainId Ba.plain_new _]
  have hsub := Ba.sub_self
  have hown := Ba.owner_new
  obtain ⟨hp, g, d, tk, os⟩ := s
  simp only [hown]
  wp_walk
  exact h

theorem codeC_typeCall {R : Result → Shared → Prop} {T newId initId : String} {Bi : Builtin} {as : List Value} {Q₁ : Value → Shared → Prop} (ft : TypeCalled T newId initId) (hl : ∀ a, lends (.builtin initId a) = false)
    (hct : checkTypeCall T ⟨as, []⟩ = pure ()) (entryI : entryFor table initId = some Bi)
    (hnew : codeAny (model prog w) A.in1 (.call (.builtin newId) ⟨.type T :: as, []⟩) (wants Q₁ E) s)
    (hnext : ∀ obj s₁, Q₁ obj s₁ → s₁.TypeIs obj T ∧ argsOk initId ⟨obj :: as, []⟩ ∧
      wpC (model prog w) A.in1.in1 (Bi ⟨obj :: as, []⟩)
        (fun fin s' => match fin with | .done f => wants (fun r s₂ => r = .none ∧ R (.ok (.ret obj)) s₂) E (.ok f) s' | .again c' => c'.quiet = true ∧ codeC (model prog w) A.in1 c' (wants (fun r s₂ => r = .none ∧ R (.ok (.ret obj)) s₂) E) s')
        (fun e s' => wants (fun r s₂ => r = .none ∧ R (.ok (.ret obj)) s₂) E (.error e) s') s₁) (hE : ∀ e s', E e s' → R (.error e) s') :
    codeC (model prog w) A (.call (.type T) ⟨as, []⟩) R s := by
  obtain ⟨c, tl, hmro⟩ := ft.mro
  refine codeC_of_tree ?_
  show wpC _ _ (callAny (.type T) _) _ _ _
  refine wpC_pure ⟨Code.quiet_builtin _ (by decide +kernel), codeC_builtin (lends_of (by decide +kernel)) F.entry_type_call ?_⟩
  rw [Around.under_plain (weight_type_call_type T as []) rfl]
  unfold Builtin.«type.__call__»
  dsimp only
  refine c_if0 ft.notType ?_
  refine c_if0 ft.canCreate ?_
  refine wpC_seq (wpAny_of_eq hct ?_)
  refine wpC_seq (wpAny_of_eq hmro ?_)
  refine c_if0 rfl ?_
  refine wpC_seq (wpAny_of_eq ft.made ?_)
  dsimp only
  refine wpC_bind (wpC_pure (wpC_bind (wpC_holding (wpC_any (wpAny_call (codeAny_mono hnew fun r s₁ hr => ?_))))))
  cases r with
  | error e => exact hE _ _ hr
  | ok fl =>
    cases fl with
    | ret obj =>
      obtain ⟨hT, hok, hi⟩ := hnext _ _ hr
      dsimp only
      refine wpC_seq (wpAny_isInstance hT ft.sub ?_)
      refine c_if0 rfl ?_
      refine wpC_bind (wpC_holding ?_)
      unfold callSpecial?
      refine wpC_seq (wpAny_specialOf hT ft.init.lookup ?_)
      dsimp only
      refine wpC_holding (wpC_seq (wpAny_of_eq (ft.init.bind obj) ?_))
      dsimp only
      refine wpC_bind (wpC_call (codeC_mono (R := wants (fun r s₂ => r = .none ∧ R (.ok (.ret obj)) s₂) E) (codeC_call_builtin (plainId_quiet ft.init.plain _) (hl _) entryI (ft.init.check _ _ _ _ _ _ _ _ hT hok ?_)) fun r₂ s₂ hr₂ => ?_))
      · rw [Around.under_plainId ft.init.plain]; exact hi
      · cases r₂ with
        | error e => exact hE _ _ hr₂
        | ok fl₂ =>
          cases fl₂ with
          | ret r => obtain ⟨rfl, hq⟩ := hr₂; exact wpC_pure (wpC_pure hq)
          | _ => exact hr₂.elim
    | _ => exact hr.elim
end
section
variable {M : Model} {A : Around} {E : Value → Shared → Prop} {s : Shared}
theorem c_exported {v : Value} {Q : Bool → Shared → Prop} (hg : A.guards = some []) (h : Q false s) : wpC M A (Builtin.Bytes.exported v) Q E s := fun Γ p i hd hc => by
  unfold Builtin.Bytes.exported
  have key : ∀ x ∈ (Γ.code, p) :: Γ.below, x.1.isGuard = false ∧ lends x.1 = false := by
    have hgl := i.2.2.2.1 _ hg
    rw [← guardsOf_cons Γ.code p] at hgl
    intro x hx
    refine ⟨?_, ?_⟩
    · cases hb : x.1.isGuard with
      | false => rfl
      | true =>
        have : x.1 ∈ guardsOf ((Γ.code, p) :: Γ.below) := List.mem_filter.mpr ⟨List.mem_map_of_mem (f := (·.1)) hx, hb⟩
        rw [hgl] at this; cases this
    · rcases List.mem_cons.mp hx with rfl | hx
      · exact hd
      · exact hc.clean x hx
  have no : ∀ (l : List (Code × Pos)), (∀ x ∈ l, x.1.isGuard = false ∧ lends x.1 = false) → l.any (fun
    | (.builtin "bytearray.__contains__" ⟨v' :: _, _⟩, _) | (.builtin "bytearray.__mod__" ⟨v' :: _, _⟩, _)
    | (.builtin "bytearray.__rmod__" ⟨_ :: v' :: _, _⟩, _) | (.builtin "_struct.pack_into.held" ⟨v' :: _, _⟩, _) => Builtin.Bytes.sameRef v' v
    | (.builtin "bytearray.find.held" ⟨_ :: _ :: held, _⟩, _) => held.any (Builtin.Bytes.sameRef v)
    | (.builtin id ⟨v' :: _, _⟩, _) => Builtin.Bytes.sameRef v' v && Builtin.Bytes.decodersThatHold.contains id
    | _ => false) = false := by
    intro l hl
    rw [List.any_eq_false]
    intro x hx
    obtain ⟨h1, h2⟩ := hl x hx
    split
    · exact absurd h1 (by show ¬ (guardIds.contains "bytearray.__contains__" = false); decide +kernel)
    · exact absurd h1 (by show ¬ (guardIds.contains "bytearray.__mod__" = false); decide +kernel)
    · exact absurd h1 (by show ¬ (guardIds.contains "bytearray.__rmod__" = false); decide +kernel)
    · exact absurd h1 (by show ¬ (guardIds.contains "_struct.pack_into.held" = false); decide +kernel)
    · exact absurd h1 (by show ¬ (guardIds.contains "bytearray.find.held" = false); decide +kernel)
    · rw [show Builtin.Bytes.decodersThatHold.contains _ = false from h2, Bool.and_false]; exact Bool.false_ne_true
    · exact Bool.false_ne_true
  exact (congrArg (fun b => Q b s) (no _ key)).mpr h
end
end Px
end

/- PxB2 -/
section
open PySem PySem.W PySem.Calls PyProof.Rows
set_option Elab.async false
set_option linter.unusedVariables false
set_option maxRecDepth 100000
set_option maxHeartbeats 4000000
namespace Px
namespace Ba
theorem look_buffer : typeLookup (.type "bytearray") "__buffer__" = pure (some (.builtin "bytearray.__buffer__")) := by rw [typeLookup_type, builtinLookup_eq_fast]; kernel_rfl
theorem look_release : typeLookup (.type "bytearray") "__release_buffer__" = pure (some (.builtin "bytearray.__release_buffer__")) := by rw [typeLookup_type, builtinLookup_eq_fast]; kernel_rfl
end Ba
section
variable {M : Model} {A : Around} {E : Value → Shared → Prop} {s : Shared} {v : Value}
theorem ba_own {name : String} {id : String} {Q : Bool → Shared → Prop} (hT : s.TypeIs v "bytearray") (hl : typeLookup (.type "bytearray") (name : Str) = pure (some (.builtin id))) (he : id.endsWith ("." ++ name) = true) (hd : id.dropRight (name.length + 1) = "bytearray") (h : Q true s) :
    wpAny M A (Builtin.Bytes.slotIsOwn v name) Q E s := by
  unfold Builtin.Bytes.slotIsOwn
  refine wpAny_bind (wpAny_specialOf hT hl ?_)
  dsimp only
  rw [he, hd]
  show wpAny M A (isInstance v (.type "bytearray")) Q E s
  exact wpAny_isInstance hT Ba.sub_self h
theorem ba_release {Q : Bool → Shared → Prop} (hT : s.TypeIs v "bytearray") (h : Q false s) : wpAny M A (Builtin.Bytes.ownRelease v) Q E s := by
  unfold Builtin.Bytes.ownRelease
  exact wpAny_bind (ba_own hT Ba.look_release (by decide +kernel) (by decide +kernel) (wpAny_pure h))
theorem ba_payload {a : Addr} {x : Array UInt8} {n : Nat} {o : Obj} {Q : Array UInt8 → Shared → Prop} (ho : s.heap.get? a = some o) (hd : o.data = .bytearray x n) (h : Q x s) : wpAny M A (Builtin.Bytes.payload (.ref a)) Q E s := by
  unfold Builtin.Bytes.payload Builtin.Bytes.payload?
  refine wpAny_bind (wpAny_bind (wpAny_load ho ?_))
  rw [hd]
  exact wpAny_pure (wpAny_pure h)
theorem ba_buffer {id : String} {full : Bool} {a : Addr} {x : Array UInt8} {n : Nat} {o : Obj} {Q : Option (Array UInt8) → Shared → Prop} (ho : s.heap.get? a = some o) (hc : o.cls = .type "bytearray") (hd : o.data = .bytearray x n) (h : Q (some x) s) :
    wpAny M A (Builtin.Bytes.buffer? id (.ref a) full) Q E s := by
  have hT : s.TypeIs (.ref a) "bytearray" := ⟨o, ho, hc⟩
  unfold Builtin.Bytes.buffer?
  refine wpAny_bind (wpAny_specialOf hT Ba.look_buffer ?_)
  dsimp only
  refine wpAny_bind (ba_own hT Ba.look_buffer (by decide +kernel) (by decide +kernel) ?_)
  refine wpAny_ite ?_
  rw [if_neg (by decide)]
  refine wpAny_bind (wpAny_specialOf hT Ba.look_buffer ?_)
  refine wpAny_bind (m := Builtin.Bytes.ownRelease (.ref a)) (ba_release hT ?_)
  refine wpAny_ite ?_
  rw [if_neg (by decide)]
  exact wpAny_bind (ba_payload ho hd (wpAny_pure h))
end
end Px
end

/- PxB3 -/
section
open PySem PySem.W PySem.Calls PyProof.Rows
set_option Elab.async false
set_option linter.unusedVariables false
set_option maxRecDepth 100000
set_option maxHeartbeats 4000000
namespace Px
namespace Ba
theorem look_iadd : typeLookup (.type "bytearray") (dunderI "add") = pure (some (.builtin "bytearray.__iadd__")) := by rw [typeLookup_type, builtinLookup_eq_fast]; kernel_rfl
theorem slot_iadd : Slot "bytearray" (dunderI "add") "bytearray.__iadd__" :=
  .of (owner := "bytearray") (n := "__iadd__") look_iadd (by decide +kernel) (by decide +kernel) (by decide +kernel) (by first | exact .inl (by decide +kernel) | exact .inr (by decide +kernel)) sub_self
theorem seq_iadd : seqSlot? (.type "bytearray") (dunderI "add") = pure (some (.builtin "bytearray.__iadd__")) := PySem.seqSlot_of look_iadd (by decide +kernel)
theorem fillsI : fillsInplaceSlot (.type "bytearray") "add" (Operator.Add == .Add) = pure false := by
  unfold fillsInplaceSlot
  show (typeLookup (.type "bytearray") (dunderI "add") >>= fun fi => pure (fi.isSome && !isSeqSlot fi)) = pure false
  rw [look_iadd]; kernel_rfl
theorem look_add : typeLookup (.type "bytearray") (dunder "add") = pure (some (.builtin "bytearray.__add__")) := by rw [typeLookup_type, builtinLookup_eq_fast]; kernel_rfl
theorem look_radd : typeLookup (.type "bytearray") (dunderR "add") = pure none := by rw [typeLookup_type, builtinLookup_eq_fast]; kernel_rfl
theorem fills : fillsNumberSlot (.type "bytearray") "add" = pure false := PySem.fillsNumberSlot_seq (id := "bytearray.__add__") (r := none) look_add (by decide +kernel) look_radd rfl
theorem entry_iadd : entryFor table "bytearray.__iadd__" = some Builtin.«bytearray.__iadd__» := entryFor_of_tree (by kernel_rfl)
theorem args_iadd (a b : Value) : argsOk "bytearray.__iadd__" ⟨[a, b], []⟩ := by unfold argsOk; kernel_rfl
theorem bind0 : Builtin.Bytes.bindOptional "bytearray.__init__" "bytearray" ["source", "encoding", "errors"] [] [] = pure [none, none, none] := by kernel_rfl
theorem bind1 (v : Value) : Builtin.Bytes.bindOptional "bytearray.__init__" "bytearray" ["source", "encoding", "errors"] [v] [] = pure [some v, none, none] := by kernel_rfl
theorem noIndex_bytes : typeLookup (.type "bytes") "__index__" = pure none := by rw [typeLookup_type, builtinLookup_eq_fast]; kernel_rfl
end Ba
section
variable {prog : Program} {w : World} {H : Heap} {TB : List TabSpec} {os : OsState}
variable {A : Around} {E : Value → Shared → Prop} {fr : List Fm} {fs : Fct} {s : Shared}
theorem tooLong_no {n : Nat} (h : n ≤ 16777216) : Builtin.Bytes.tooLong n = false := KBy.tooLong_not h
theorem ba_write {M : Model} {b : Addr} {y z : List UInt8} {f : Array UInt8 → Array UInt8} {g : Obj → Fct} {Q : Unit → Shared → Prop} (C : Cx H TB os fr fs s) (U : ∀ o', Upd b (baO y) o' fs (g o')) (hz : z.length ≤ 16777216) (hf : f y.toArray = z.toArray)
    (k : ∀ s', Cx H TB os fr (g (baO z)) s' → Q () s') : wpAny M A (Builtin.Bytes.write (.ref b) f) Q E s := by
  have ho := C.fact _ (U default).mem
  show wpAny M A (load b >>= fun o => match o.data with
    | .bytearray .. => (do update b (Obj.mapBytearray f); lookBehind b)
    | _ => unsupported "internal:write-to-non-bytearray") Q E s
  refine wpAny_bind (wpAny_load ho ?_)
  show wpAny M A (do update b (Obj.mapBytearray f); lookBehind b) Q E s
  have e : Obj.mapBytearray f (baO y) = baO z := by show (⟨_, _, .bytearray (f y.toArray) 0, _⟩ : Obj) = _; rw [hf]
  have hu : (s.heap.update b (Obj.mapBytearray f)).get? b = some (baO z) := by rw [Heap.get?_update_self _ ho (by rw [e]; rfl), e]
  refine wpAny_bind (wpAny_update ho (wpAny_lookBehind hu ?_ (k _ (C.upd (U _) (Heap.SameBut.update ..) hu _))))
  show (if z.toArray.size > sizeLine then some "bytearray:memory" else none) = none
  rw [if_neg (by rw [List.size_toArray, sizeLine_eq]; omega)]
theorem Cx.ba {b : Addr} {y : List UInt8} (C : Cx H TB os fr fs s) (h : (b, baO y) ∈ fs) : s.TypeIs (.ref b) "bytearray" := ⟨_, C.fact _ h, rfl⟩
theorem ba_exports {M : Model} {b : Addr} {y : List UInt8} {Q : Nat → Shared → Prop} (C : Cx H TB os fr fs s) (h : (b, baO y) ∈ fs) (k : Q 0 s) : wpAny M A (Builtin.Bytes.exportsOf (.ref b)) Q E s := by
  unfold Builtin.Bytes.exportsOf
  exact wpAny_bind (wpAny_load (C.fact _ h) (wpAny_pure k))
theorem ba_free {M : Model} {b : Addr} {y : List UInt8} {Q : Bool → Shared → Prop} (C : Cx H TB os fr fs s) (hg : A.guards = some []) (h : (b, baO y) ∈ fs) (k : Q false s) : wpC M A (Builtin.Bytes.exported (.ref b) <||> (do return (← Builtin.Bytes.exportsOf (.ref b)) > 0)) Q E s := by
  unfold orM
  refine wpC_bind (c_exported hg ?_)
  exact wpC_seq (ba_exports C h (wpC_pure k))
theorem ba_init0 {b : Addr} {y : List UInt8} {g : Obj → Fct} {Q : Fin → Shared → Prop} (C : Cx H TB os fr fs s) (hg : A.guards = some []) (U : ∀ o', Upd b (baO y) o' fs (g o')) (k : ∀ s', Cx H TB os fr (g (baO [])) s' → Q (.done (.ret .none)) s') :
    wpC (model prog w) A (Builtin.«bytearray.__init__» ⟨[.ref b], []⟩) Q E s := by
  unfold Builtin.«bytearray.__init__»
  dsimp only
  refine wpC_seq (ba_release (C.ba (U default).mem) ?_)
  refine c_if0 rfl ?_
  refine wpC_seq (wpAny_of_eq Ba.bind0 ?_)
  dsimp only
  refine wpC_bind (wpC_pure ?_)
  refine wpC_bind (wpC_pure ?_)
  refine wpC_bind (ba_free C hg (U default).mem ?_)
  refine c_if0 rfl ?_
  refine wpC_seq (ba_write C U (Nat.zero_le _) rfl fun s' C' => ?_)
  exact wpC_pure (k _ C')
theorem ba_init1 {b : Addr} {y x : List UInt8} {t : Tok} {g : Obj → Fct} {Q : Fin → Shared → Prop} (C : Cx H TB os fr fs s) (hg : A.guards = some []) (hx : x.length ≤ 16777216) (U : ∀ o', Upd b (baO y) o' fs (g o')) (U2 : ∀ o', Upd b (baO []) o' (g (baO [])) (g o')) (k : ∀ s', Cx H TB os fr (g (baO x)) s' → Q (.done (.ret .none)) s') :
    wpC (model prog w) A (Builtin.«bytearray.__init__» ⟨[.ref b, .bytes x.toArray t], []⟩) Q E s := by
  unfold Builtin.«bytearray.__init__»
  dsimp only
  refine wpC_seq (ba_release (C.ba (U default).mem) ?_)
  refine c_if0 rfl ?_
  refine wpC_seq (wpAny_of_eq (Ba.bind1 _) ?_)
  dsimp only
  refine wpC_bind (wpC_pure ?_)
  refine wpC_bind (wpC_pure ?_)
  refine wpC_bind (ba_free C hg (U default).mem ?_)
  refine c_if0 rfl ?_
  refine wpC_seq (ba_write C U (Nat.zero_le _) rfl fun s' C' => ?_)
  refine wpC_seq (wpAny_of_eq (a := none) rfl ?_)
  refine c_if0 rfl ?_
  refine wpC_bind (c_if0 rfl (c_if0 rfl (wpC_pure ?_)))
  refine wpC_seq (wpAny_specialOf (typeIs_bytes _ _ _) Ba.noIndex_bytes ?_)
  refine c_if0 rfl ?_
  refine wpC_seq (wpAny_of_eq KBy.buffer_eq ?_)
  dsimp only
  refine wpC_seq (wpAny_rule ?_)
  refine wpC_seq (ba_write C' U2 hx rfl fun s' C' => ?_)
  exact wpC_pure (k _ C')

theorem ba_checkResize {M : Model} {b : Addr} {y : List UInt8} {Q : Unit → Shared → Prop} (C : Cx H TB os fr fs s) (hg : A.guards = some []) (h : (b, baO y) ∈ fs) (k : Q () s) : wpC M A (Builtin.Bytes.checkResize (.ref b)) Q E s := by
  unfold Builtin.Bytes.checkResize
  refine wpC_bind (ba_free C hg h ?_)
  exact c_if0 rfl (wpC_pure k)
/-- the octets behind are added -/
theorem ba_iadd {b : Addr} {y x : List UInt8} {v : Value} {g : Obj → Fct} {Q : Fin → Shared → Prop} (C : Cx H TB os fr fs s) (hg : A.guards = some []) (hz : y.length + x.length ≤ 16777216) (U : ∀ o', Upd b (baO y) o' fs (g o'))
    (hv : wpAny (model prog w) A (Builtin.Bytes.takeBufferQuiet? "bytearray.__iadd__" v 0) (fun r s' => r = some (x.toArray, none) ∧ s' = s) (fun _ _ => False) s) (hne : Builtin.Bytes.sameRef (.ref b) v = false)
    (k : ∀ s', Cx H TB os fr (g (baO (y ++ x))) s' → Q (.done (.ret (.ref b))) s') : wpC (model prog w) A (Builtin.«bytearray.__iadd__» ⟨[.ref b, v], []⟩) Q E s := by
  unfold Builtin.«bytearray.__iadd__»
  refine wpC_bind (wpC_pure ?_)
  dsimp only
  refine wpC_seq (wpAny_mono hv (fun r s' hr => ?_) fun _ _ x => x.elim)
  obtain ⟨rfl, rfl⟩ := hr
  dsimp only
  unfold Builtin.Bytes.thenGiveBack
  dsimp only
  have fin : wpC (model prog w) A (do
      if Builtin.Bytes.tooLong ((← Builtin.Bytes.payload (.ref b)).size + x.toArray.size) then unsupported "bytearray.__iadd__:memory"
      Builtin.Bytes.write (.ref b) (· ++ x.toArray)
      ret (.ref b)) Q E s' := by
    refine wpC_seq (ba_payload (C.fact _ (U default).mem) rfl ?_)
    refine c_if0 (tooLong_no (by rw [List.size_toArray, List.size_toArray]; exact hz)) ?_
    refine wpC_seq (ba_write C U (by rw [List.length_append]; exact hz) (by rw [List.append_toArray]) fun s' C' => ?_)
    exact wpC_pure (k _ C')
  cases x with
  | nil => exact fin
  | cons c r =>
    refine c_if1 rfl ?_
    refine c_if0 hne ?_
    refine wpC_bind (ba_checkResize C hg (U default).mem ?_)
    exact fin
theorem ba_quietBytes {x : List UInt8} {t : Tok} : wpAny (model prog w) A (Builtin.Bytes.takeBufferQuiet? "bytearray.__iadd__" (.bytes x.toArray t) 0) (fun r s' => r = some (x.toArray, none) ∧ s' = s) (fun _ _ => False) s := by
  unfold Builtin.Bytes.takeBufferQuiet? Builtin.Bytes.takeBuffer?
  refine wpAny_bind (wpAny_attempt ?_)
  refine wpAny_bind (wpAny_specialOf (typeIs_bytes _ _ _) KBy.look_buffer ?_)
  dsimp only
  refine wpAny_bind (wpAny_of_eq KBy.own_buffer ?_)
  refine wpAny_ite ?_
  rw [if_neg (by decide)]
  refine wpAny_bind (wpAny_specialOf (typeIs_bytes _ _ _) KBy.look_buffer ?_)
  refine wpAny_bind (m := Builtin.Bytes.buffer? "bytearray.__iadd__" (.bytes x.toArray t) (full := (0 : Int) == Builtin.Bytes.fullReadOnly)) (wpAny_of_eq KBy.buffer_eq ?_)
  exact wpAny_pure (wpAny_pure ⟨rfl, rfl⟩)
theorem ba_quietBa {c : Addr} {x : List UInt8} (C : Cx H TB os fr fs s) (h : (c, baO x) ∈ fs) : wpAny (model prog w) A (Builtin.Bytes.takeBufferQuiet? "bytearray.__iadd__" (.ref c) 0) (fun r s' => r = some (x.toArray, none) ∧ s' = s) (fun _ _ => False) s := by
  unfold Builtin.Bytes.takeBufferQuiet? Builtin.Bytes.takeBuffer?
  refine wpAny_bind (wpAny_attempt ?_)
  refine wpAny_bind (wpAny_specialOf (C.ba h) Ba.look_buffer ?_)
  dsimp only
  refine wpAny_bind (ba_own (C.ba h) Ba.look_buffer (by decide +kernel) (by decide +kernel) ?_)
  refine wpAny_ite ?_
  rw [if_neg (by decide)]
  refine wpAny_bind (wpAny_specialOf (C.ba h) Ba.look_buffer ?_)
  refine wpAny_bind (m := Builtin.Bytes.buffer? "bytearray.__iadd__" (.ref c) (full := (0 : Int) == Builtin.Bytes.fullReadOnly)) (ba_buffer (C.fact _ h) rfl rfl ?_)
  exact wpAny_pure (wpAny_pure ⟨rfl, rfl⟩)
theorem ba_op1 {M : Model} {v : Value} {b : Addr} {y : List UInt8} {U : String} {Q : Option Value → Shared → Prop} (C : Cx H TB os fr fs s) (h : (b, baO y) ∈ fs) (hv : s.TypeIs v U) (hU : fillsNumberSlot (.type U) "add" = pure false) (k : Q none s) : wpAny M A (binaryOp1 "add" (.ref b) v) Q E s := by
  simp only [binaryOp1]
  refine wpAny_bind (wpAny_typeOf (C.ba h) (wpAny_bind (wpAny_typeOf hv (wpAny_bind (wpAny_of_eq Ba.fills ?_)))))
  by_cases e : (Value.type "bytearray" == Value.type U) = true
  · rw [if_pos e]
    simp only [pure_bind, Bool.false_and, Bool.and_false, Bool.false_eq_true, if_false]
    exact wpAny_pure k
  · rw [if_neg e]
    refine wpAny_bind (wpAny_of_eq hU ?_)
    simp only [pure_bind, Bool.false_and, Bool.and_false, Bool.false_eq_true, if_false]
    exact wpAny_pure k
theorem k_iaddAny {b : Addr} {y x : List UInt8} {v : Value} {U : String} {g : Obj → Fct} {Q : Value → Shared → Prop} (C : Cx H TB os fr fs s) (hg : A.guards = some []) (hz : y.length + x.length ≤ 16777216) (Up : ∀ o', Upd b (baO y) o' fs (g o')) (hT : s.TypeIs v U) (hU : fillsNumberSlot (.type U) "add" = pure false)
    (hv : ∀ A', wpAny (model prog w) A' (Builtin.Bytes.takeBufferQuiet? "bytearray.__iadd__" v 0) (fun r s' => r = some (x.toArray, none) ∧ s' = s) (fun _ _ => False) s) (hne : Builtin.Bytes.sameRef (.ref b) v = false)
    (k : ∀ s', Cx H TB os fr (g (baO (y ++ x))) s' → Q (.ref b) s') : wpC (model prog w) A (inplaceOp .Add (.ref b) v) Q E s := by
  have hm := (Up default).mem
  unfold inplaceOp
  refine wpC_holding (wpC_seq (wpAny_typeOf (C.ba hm) (wpC_seq (wpAny_of_eq Ba.fillsI ?_))))
  refine c_if0 rfl ?_
  refine wpC_seq (ba_op1 C hm hT hU ?_)
  dsimp only
  refine wpC_seq (wpAny_of_eq Ba.seq_iadd ?_)
  dsimp only
  refine wpC_seq (wpAny_rule (wpC_call (codeC_call_builtin (plainId_quiet Ba.slot_iadd.plain _) (lends_of (by decide +kernel)) Ba.entry_iadd (Ba.slot_iadd.check _ _ _ _ _ _ _ _ (C.ba hm) (Ba.args_iadd _ _) ?_))))
  rw [Around.under_plainId Ba.slot_iadd.plain]
  exact ba_iadd C hg hz Up (hv _) hne k
theorem k_iaddBytes {b : Addr} {y x : List UInt8} {t : Tok} {g : Obj → Fct} {Q : Value → Shared → Prop} (C : Cx H TB os fr fs s) (hg : A.guards = some []) (hz : y.length + x.length ≤ 16777216) (Up : ∀ o', Upd b (baO y) o' fs (g o'))
    (k : ∀ s', Cx H TB os fr (g (baO (y ++ x))) s' → Q (.ref b) s') : wpC (model prog w) A (inplaceOp .Add (.ref b) (.bytes x.toArray t)) Q E s :=
  k_iaddAny C hg hz Up (typeIs_bytes _ _ _) KBy.noFill_bytes_add (fun _ => ba_quietBytes) rfl k
theorem k_iaddBa {b c : Addr} {y x : List UInt8} {g : Obj → Fct} {Q : Value → Shared → Prop} (C : Cx H TB os fr fs s) (hg : A.guards = some []) (hz : y.length + x.length ≤ 16777216) (Up : ∀ o', Upd b (baO y) o' fs (g o')) (hc : (c, baO x) ∈ fs) (hne : b ≠ c)
    (k : ∀ s', Cx H TB os fr (g (baO (y ++ x))) s' → Q (.ref b) s') : wpC (model prog w) A (inplaceOp .Add (.ref b) (.ref c)) Q E s :=
  k_iaddAny C hg hz Up (C.ba hc) Ba.fills (fun _ => ba_quietBa C hc) (by show (b == c) = false; exact beq_eq_false_iff_ne.mpr hne) k
/-- bytearray() and bytearray(octets) -/
theorem k_newBa0 {R : Result → Shared → Prop} (C : Cx H TB os fr fs s) (hg : A.guards = some []) (k : ∀ b s', Cx H TB os fr ((b, baO []) :: fs) s' → R (.ok (.ret (.ref b))) s') : codeC (model prog w) A (.call (.type "bytearray") ⟨[], []⟩) R s :=
  codeC_typeCall (E := fun _ _ => False) (Q₁ := fun obj s' => obj = .ref s.heap.objs.size ∧ s' = { s with heap := s.heap.push (baO []) }) Ba.called (fun _ => lends_of (by decide +kernel)) Ba.type0 Ba.entry_init (ba_code_new Ba.new0 ⟨rfl, rfl⟩)
    (by
      rintro _ _ ⟨rfl, rfl⟩
      have C' := C.push (baO []) rfl s.toks
      exact ⟨C'.ba (.head _), Ba.init0 _, ba_init0 C' hg (g := fun o => (s.heap.objs.size, o) :: fs) (fun _ => .head) fun s' C' => ⟨rfl, k _ _ C'⟩⟩) (fun _ _ x => x.elim)
theorem k_newBa1 {R : Result → Shared → Prop} {x : List UInt8} {t : Tok} (C : Cx H TB os fr fs s) (hg : A.guards = some []) (hx : x.length ≤ 16777216) (k : ∀ b s', Cx H TB os fr ((b, baO x) :: fs) s' → R (.ok (.ret (.ref b))) s') : codeC (model prog w) A (.call (.type "bytearray") ⟨[.bytes x.toArray t], []⟩) R s :=
  codeC_typeCall (E := fun _ _ => False) (Q₁ := fun obj s' => obj = .ref s.heap.objs.size ∧ s' = { s with heap := s.heap.push (baO []) }) Ba.called (fun _ => lends_of (by decide +kernel)) (Ba.type1 _) Ba.entry_init (ba_code_new (Ba.new1 _) ⟨rfl, rfl⟩)
    (by
      rintro _ _ ⟨rfl, rfl⟩
      have C' := C.push (baO []) rfl s.toks
      exact ⟨C'.ba (.head _), Ba.init1 _ _, ba_init1 C' hg hx (g := fun o => (s.heap.objs.size, o) :: fs) (fun _ => .head) (fun _ => .head) fun s' C' => ⟨rfl, k _ _ C'⟩⟩) (fun _ _ x => x.elim)
end
end Px
end

/- PxB4 -/
section
open PySem PySem.W PySem.Calls PyProof.Rows
set_option Elab.async false
set_option linter.unusedVariables false
set_option maxRecDepth 100000
set_option maxHeartbeats 4000000
namespace Px
namespace Ba
theorem slot_len : Slot "bytearray" "__len__" "bytearray.__len__" :=
  .of (owner := "bytearray") (n := "__len__") (by rw [typeLookup_type, builtinLookup_eq_fast]; kernel_rfl) (by decide +kernel) (by decide +kernel) (by decide +kernel) (by first | exact .inl (by decide +kernel) | exact .inr (by decide +kernel)) sub_self
theorem entry_len : entryFor table "bytearray.__len__" = some Builtin.«bytearray.__len__» := entryFor_of_tree (by kernel_rfl)
theorem args_len (a : Value) : argsOk "bytearray.__len__" ⟨[a], []⟩ := by unfold argsOk; kernel_rfl
theorem noBool : typeLookup (.type "bytearray") "__bool__" = pure none := by rw [typeLookup_type, builtinLookup_eq_fast]; kernel_rfl
theorem slot_item : Slot "bytearray" "__getitem__" "bytearray.__getitem__" :=
  .of (owner := "bytearray") (n := "__getitem__") (by rw [typeLookup_type, builtinLookup_eq_fast]; kernel_rfl) (by decide +kernel) (by decide +kernel) (by decide +kernel) (by first | exact .inl (by decide +kernel) | exact .inr (by decide +kernel)) sub_self
theorem entry_item : entryFor table "bytearray.__getitem__" = some Builtin.«bytearray.__getitem__» := entryFor_of_tree (by kernel_rfl)
theorem args_item (a b : Value) : argsOk "bytearray.__getitem__" ⟨[a, b], []⟩ := by unfold argsOk; kernel_rfl
theorem slot_ne : Slot "bytearray" (cmpInfo .NotEq).2.1 "bytearray.__ne__" :=
  .of (owner := "bytearray") (n := "__ne__") (by rw [typeLookup_type, builtinLookup_eq_fast]; kernel_rfl) (by decide +kernel) (by decide +kernel) (by decide +kernel) (by first | exact .inl (by decide +kernel) | exact .inr (by decide +kernel)) sub_self
theorem entry_ne : entryFor table "bytearray.__ne__" = some Builtin.«bytearray.__ne__» := entryFor_of_tree (by kernel_rfl)
theorem args_ne (a b : Value) : argsOk "bytearray.__ne__" ⟨[a, b], []⟩ := by unfold argsOk; kernel_rfl
theorem sub_bytes : isSubtype (.type "bytes") (.type "bytearray") = pure false := by rw [isSubtype_type]; kernel_rfl
end Ba
section
variable {prog : Program} {w : World} {H : Heap} {TB : List TabSpec} {os : OsState}
variable {A : Around} {E : Value → Shared → Prop} {fr : List Fm} {fs : Fct} {s : Shared}
theorem ba_lenBody {b : Addr} {y : List UInt8} {Q : Value → Shared → Prop} (C : Cx H TB os fr fs s) (h : (b, baO y) ∈ fs) (hz : y.length ≤ 16777216) (k : ∀ u s', Cx H TB os fr fs s' → Q (.int y.length u) s') :
    wpAny (model prog w) A (Builtin.«len» ⟨[.ref b], []⟩) (fun fin s' => ∃ r, fin = .done (.ret r) ∧ Q r s') E s := by
  unfold Builtin.«len»
  refine wpAny_bind (m := oneArg "len" _) (wpAny_pure ?_)
  refine wpAny_bind (m := callSpecial? (.ref b) (Str.ofString "__len__")) (wpAny_callSpecial?_slot (name := Str.ofString "__len__") (C.ba h) Ba.slot_len (wpAny_call_entry Ba.slot_len (C.ba h) Ba.entry_len ?_ (Ba.args_len _)))
  show wpAny _ _ (do retInt (← Builtin.Bytes.payload (.ref b)).size) _ _ s
  refine wpAny_bind (ba_payload (C.fact _ h) rfl ?_)
  refine wpAny_bind (wpAny_mkInt (wpAny_pure ⟨_, rfl, ?_⟩))
  refine wpAny_bind (wpAny_holding (wpAny_pure ?_))
  refine wpAny_bind (wpAny_letGo ?_)
  show wpAny _ _ (if ((y.toArray.size : Nat) : Int) < 0 then _ else _) _ _ _
  rw [if_neg (by omega)]
  show wpAny _ _ (if ((y.toArray.size : Nat) : Int) ≥ 2 ^ 63 then _ else _) _ _ _
  rw [if_neg (by rw [List.size_toArray]; omega)]
  exact wpAny_bind (wpAny_mkInt (wpAny_pure ⟨_, rfl, by rw [List.size_toArray]; exact k _ _ (C.tok _)⟩))
theorem k_lenBa {b : Addr} {y : List UInt8} {Q : Value → Shared → Prop} (C : Cx H TB os fr fs s) (h : (b, baO y) ∈ fs) (hz : y.length ≤ 16777216) (k : ∀ u s', Cx H TB os fr fs s' → Q (.int y.length u) s') : wpC (model prog w) A (call (.builtin "len") [.ref b]) Q E s :=
  wpC_any (call_function_entry kind_len plain_len entry_len (args_len1 _) (ba_lenBody C h hz k))
theorem k_truthyBa {b : Addr} {y : List UInt8} {Q : Bool → Shared → Prop} (C : Cx H TB os fr fs s) (h : (b, baO y) ∈ fs) (hz : y.length ≤ 16777216) (k : ∀ s', Cx H TB os fr fs s' → Q (!y.isEmpty) s') : wpC (model prog w) A (truthy (.ref b)) Q E s := by
  have e : (((y.length : Nat) : Int) != 0) = !y.isEmpty := by cases y <;> simp; omega
  have key : wpAny (model prog w) A (runValue (.builtin "len" ⟨[.ref b], []⟩)) (fun r s' => ∃ u, r = .int y.length u ∧ Q (!y.isEmpty) s') E s := by
    refine wpAny_runValue (codeAny_builtin entry_len ?_)
    rw [Around.under_plainId plain_len _]
    exact wpAny_mono (ba_lenBody (Q := fun r s' => ∃ u, r = .int y.length u ∧ Q (!y.isEmpty) s') C h hz fun u s' C' => ⟨u, rfl, k _ C'⟩) (fun fin s' h' => by obtain ⟨r, rfl, hq⟩ := h'; exact hq) fun _ _ e => e
  refine wpC_any ?_
  unfold truthy
  refine wpAny_bind (wpAny_callSpecial?_none (name := Str.ofString "__bool__") (C.ba h) Ba.noBool ?_)
  refine wpAny_bind (wpAny_specialOf (name := Str.ofString "__len__") (C.ba h) Ba.slot_len.lookup ?_)
  exact wpAny_bind (wpAny_mono key (fun r s' h' => by obtain ⟨u, rfl, hq⟩ := h'; exact wpAny_pure (e ▸ hq)) fun _ _ e => e)
theorem ba_item {b : Addr} {y : List UInt8} {z : Int} {c : UInt8} {u : Tok} {Q : Value → Shared → Prop} (C : Cx H TB os fr fs s) (h : (b, baO y) ∈ fs) (fits : Builtin.Bytes.fitsIndex z = true) (e : (seqIndex? z y.toArray.size).bind (y.toArray[·]?) = some c)
    (k : ∀ t s', Cx H TB os fr fs s' → Q (.int c.toNat t) s') : wpAny (model prog w) A (Builtin.«bytearray.__getitem__» ⟨[.ref b, .int z u], []⟩) (fun fin s' => ∃ v, fin = .done (.ret v) ∧ Q v s') E s := by
  show wpAny _ _ (Builtin.Bytes.subscript? (.int z u) >>= fun r => _) _ _ _
  refine wpAny_bind ?_
  unfold Builtin.Bytes.subscript?
  refine wpAny_bind (wpAny_specialOf (typeIs_int _ _ _) F.slot_int_index.lookup ?_)
  show wpAny _ _ (if (!Builtin.Bytes.fitsIndex z) = true then _ else pure (some z)) _ _ _
  rw [fits]
  refine wpAny_pure ?_
  dsimp only
  refine wpAny_bind (ba_payload (C.fact _ h) rfl ?_)
  rw [e]
  exact wpAny_bind (wpAny_mkInt (wpAny_pure ⟨_, rfl, k _ _ (C.tok _)⟩))
theorem k_itemBa {value slice : Expr} {b : Addr} {y : List UInt8} {i : Nat} {u : Tok} {Q : Value → Shared → Prop} (C : Cx H TB os fr fs s) (h : (b, baO y) ∈ fs) (hz : y.length ≤ 16777216) (hi : i < y.length) (k : ∀ t s', Cx H TB os fr fs s' → Q (.int (y.getD i 0).toNat t) s')
    (hs : subscripted slice false (.ref b) (.int i u) = operate [.ref b, .int i u] (getItem (.ref b) (.int i u)) := by with_unfolding_all rfl) : wpC (model prog w) A (subscriptTail value slice (.ref b) (.int i u)) Q E s := by
  have go : ∀ {A' : Around}, wpAny (model prog w) A' (Builtin.«bytearray.__getitem__» ⟨[.ref b, .int (i : Int) u], []⟩) (fun fin s' => ∃ v, fin = .done (.ret v) ∧ Q v s') E s := by
    intro A'
    generalize hzi : (i : Int) = z
    refine ba_item (c := y.getD i 0) C h ?_ ?_ k
    · simp only [Builtin.Bytes.fitsIndex, Bool.and_eq_true, decide_eq_true_eq]; omega
    · subst hzi
      have h1 : seqIndex? (i : Int) y.toArray.size = some i := by
        unfold seqIndex?
        rw [List.size_toArray]
        have h2 : ¬ ((i : Int) < 0) := by omega
        have h3 : (decide ((0 : Int) ≤ i) && decide ((i : Int) < y.length)) = true := by rw [Bool.and_eq_true, decide_eq_true_eq, decide_eq_true_eq]; omega
        simp only [h2, if_false]
        rw [if_pos h3, Int.toNat_natCast]
      rw [h1]
      show y.toArray[i]? = _
      simp [hi, List.getD_eq_getElem?_getD]
  refine wpC_any (subscriptTail_any (C.ba h) Ba.slot_item.lookup (wpAny_getItem_slot (C.ba h) (by decide) Ba.slot_item (wpAny_call_entry Ba.slot_item (C.ba h) Ba.entry_item ?_ (Ba.args_item _ _))) hs)
  have g2 := @go A.in1
  with_reducible exact g2
theorem k_sliceBa {value slice : Expr} {b : Addr} {y : List UInt8} {sl : Addr} {l u : Value} {lo hi : Option Int} {Q : Value → Shared → Prop} (C : Cx H TB os fr ((sl, slO l u) :: fs) s) (h : (b, baO y) ∈ fs) (hl : IsPart l lo) (hu : IsPart u hi) (hz : y.length ≤ 16777216)
    (k : ∀ c s', Cx H TB os fr ((c, baO (cut y lo hi)) :: fs) s' → Q (.ref c) s')
    (hs : subscripted slice false (.ref b) (.ref sl) = operate [.ref sl, .ref b] (getItem (.ref b) (.ref sl)) := by with_unfolding_all rfl) : wpC (model prog w) A (subscriptTail value slice (.ref b) (.ref sl)) Q E s := by
  have h' : (b, baO y) ∈ (sl, slO l u) :: fs := .tail _ h
  obtain ⟨o, ho, hc, hd⟩ := C.slice
  have hT : s.TypeIs (.ref sl) "slice" := ⟨o, ho, hc⟩
  refine wpC_any (subscriptTail_any (C.ba h') Ba.slot_item.lookup (wpAny_getItem_slot (C.ba h') (by decide) Ba.slot_item (wpAny_call_entry Ba.slot_item (C.ba h') Ba.entry_item ?_ (Ba.args_item _ _))) hs)
  show wpAny _ _ (Builtin.Bytes.subscript? (.ref sl) >>= fun r => _) _ _ _
  refine wpAny_bind ?_
  unfold Builtin.Bytes.subscript?
  refine wpAny_bind (wpAny_specialOf hT slice_no_index (wpAny_pure ?_))
  refine wpAny_bind (wpAny_typeOf hT ?_)
  show wpAny _ _ (Builtin.Bytes.sliceParts (.ref sl) >>= fun r => _) _ _ _
  have parts : ∀ {Q' : Value × Value × Value → Shared → Prop} {E' : Value → Shared → Prop} {A' : Around}, Q' (rawPart lo, rawPart hi, rawPart none) s → wpAny (model prog w) A' (Builtin.Bytes.sliceParts (.ref sl)) Q' E' s := by
    intro Q' E' A' hq
    unfold Builtin.Bytes.sliceParts
    refine wpAny_bind (wpAny_field (x := .none) ho hd rfl ?_)
    kby_none
    refine wpAny_ite (KBy.ite_no (show ¬ ((Value.none == rawInt 0) = true) from Bool.false_ne_true) ?_)
    refine wpAny_bind (wpAny_field (x := l) ho hd rfl ?_)
    cases hl <;> cases hu <;> (first
      | (kby_none; (refine wpAny_bind (wpAny_field (x := .none) ho hd rfl ?_)); kby_none)
      | (kby_none; (refine wpAny_bind (wpAny_field (x := .int _ _) ho hd rfl ?_)); kby_int)
      | (kby_int; (refine wpAny_bind (wpAny_field (x := .none) ho hd rfl ?_)); kby_none)
      | (kby_int; (refine wpAny_bind (wpAny_field (x := .int _ _) ho hd rfl ?_)); kby_int)) <;> exact wpAny_pure hq
  refine wpAny_bind (parts ?_)
  refine wpAny_bind (ba_payload (C.fact _ h') rfl ?_)
  refine wpAny_bind (wpAny_of_eq (sliceIndices_raw lo hi none _ (fun e => nomatch e)) ?_)
  have e : Builtin.Bytes.sliced y.toArray (sliceBounds lo hi none y.toArray.size).1 (sliceBounds lo hi none y.toArray.size).2.1 (sliceBounds lo hi none y.toArray.size).2.2 = (cut y lo hi).toArray := by
    have := KBc.picked_eq y.toArray lo hi
    unfold KBy.picked at this
    rw [this]; unfold cut; rw [List.size_toArray]
  show wpAny _ _ (do ret (← Builtin.Bytes.newBytearray (Builtin.Bytes.sliced y.toArray (sliceBounds lo hi none y.toArray.size).1 (sliceBounds lo hi none y.toArray.size).2.1 (sliceBounds lo hi none y.toArray.size).2.2))) _ _ _
  rw [e]
  unfold Builtin.Bytes.newBytearray
  refine wpAny_bind (wpAny_newObj_type (wpAny_pure ⟨_, rfl, k _ _ ((C.push _ rfl _).sel ?_)⟩) ?_)
  · exact .take .head (.drop .refl)
  · show (cut y lo hi).toArray.size ≤ sizeLine
    rw [List.size_toArray, sizeLine_eq]
    exact Nat.le_trans (cut_le y lo hi) hz
end
end Px
end

/- PxB5 -/
section
open PySem PySem.W PySem.Calls PyProof.Rows
set_option Elab.async false
set_option linter.unusedVariables false
set_option maxRecDepth 100000
set_option maxHeartbeats 4000000
namespace Px
namespace Ba
theorem noBytes : typeLookup (.type "bytearray") "__bytes__" = pure none := by rw [typeLookup_type, builtinLookup_eq_fast]; kernel_rfl
theorem noIndex : typeLookup (.type "bytearray") "__index__" = pure none := by rw [typeLookup_type, builtinLookup_eq_fast]; kernel_rfl
end Ba
section
variable {prog : Program} {w : World} {H : Heap} {TB : List TabSpec} {os : OsState}
variable {A : Around} {E : Value → Shared → Prop} {fr : List Fm} {fs : Fct} {s : Shared}
theorem order_ne (a b : List UInt8) : Builtin.Bytes.holds "__ne__" (Builtin.Bytes.order a b) = (a != b) := by
  have := PySem.W.order_eq a b
  show (Builtin.Bytes.order a b != .eq) = _
  unfold bne
  rw [this]
theorem k_neBa {b : Addr} {y x : List UInt8} {t : Tok} {Q : Value → Shared → Prop} (C : Cx H TB os fr fs s) (h : (b, baO y) ∈ fs) (hu : A.units < cLine) (k : Q (.bool (y != x)) s) : wpC (model prog w) A (compareOp .NotEq (.ref b) (.bytes x.toArray t)) Q E s := by
  refine wpC_any ?_
  show wpAny _ _ (richCompare .NotEq (.ref b) (.bytes x.toArray t)) _ _ _
  unfold richCompare
  refine wpAny_holding (wpAny_bind (wpAny_cRoomFor hu ?_))
  show wpAny _ _ (typeOf (.ref b) >>= fun ta => _) _ _ _
  refine wpAny_bind (wpAny_typeOf (C.ba h) (wpAny_bind (wpAny_typeOf (typeIs_bytes _ _ _) ?_)))
  show wpAny _ _ (isSubtype (.type "bytes") (.type "bytearray") >>= fun r => _) _ _ _
  refine wpAny_bind (wpAny_of_eq Ba.sub_bytes ?_)
  refine wpAny_ite ?_
  rw [if_neg (by decide)]
  refine wpAny_bind (wpAny_tryCompare_slot (C.ba h) Ba.slot_ne (wpAny_call_entry Ba.slot_ne (C.ba h) Ba.entry_ne ?_ (Ba.args_ne _ _)))
  show wpAny _ _ (Builtin.Bytes.buffer? (toString "bytearray." ++ toString "__ne__" ++ toString "") (.ref b) >>= fun r => _) _ _ _
  refine wpAny_bind (ba_buffer (C.fact _ h) rfl rfl ?_)
  show wpAny _ _ (Builtin.Bytes.bufferQuiet? _ (.bytes x.toArray t) >>= fun r => _) _ _ _
  refine wpAny_bind (wpAny_of_eq KBy.quiet_eq ?_)
  show wpAny _ _ (ret (.bool (Builtin.Bytes.holds "__ne__" (Builtin.Bytes.order y x)))) _ _ _
  rw [order_ne]
  exact wpAny_pure ⟨_, rfl, (by intro e; cases e), wpAny_pure k⟩
theorem k_bytesBa {b : Addr} {y : List UInt8} {Q : Value → Shared → Prop} (C : Cx H TB os fr fs s) (h : (b, baO y) ∈ fs) (hz : y.length ≤ 16777216) (k : ∀ t s', Cx H TB os fr fs s' → Q (.bytes y.toArray t) s') : wpC (model prog w) A (call (.type "bytes") [.ref b]) Q E s := by
  refine wpC_any (callType_codes (Q₁ := fun obj s₁ => s₁.TypeIs obj "bytes" ∧ Q obj s₁) F.bm_called (F.bm_typeCall _) F.entry_object_init ?_ fun obj s₁ h₁ =>
    ⟨h₁.1, F.args_object_init_2 obj _, object_init_meets F.bm_called.init.lookup F.bm_called.made (by decide) prog w A.in1 _ s₁ ⟨h₁.1, rfl, h₁.2⟩⟩)
  refine codeAny_of_tree ?_
  show wpAny _ A.in1.in1 (do checkBuiltinCall "bytes.__new__" ⟨[.type "bytes", .ref b], []⟩; again (.builtin "bytes.__new__" ⟨[.type "bytes", .ref b], []⟩)) _ _ s
  refine wpAny_bind (wpAny_of_eq (F.bm_newCall _) (wpAny_pure ⟨plainId_quiet F.bm_plain _, codeAny_builtin F.bm_entry ?_⟩))
  rw [Around.under_plainId F.bm_plain _]
  unfold Builtin.«bytes.__new__»
  refine wpAny_bind (wpAny_of_eq (a := true) rfl ?_)
  refine bm_if_false rfl ?_
  refine wpAny_bind (wpAny_of_eq F.bm_sub ?_)
  refine bm_if_false rfl ?_
  refine wpAny_bind (wpAny_of_eq (F.bm_bind _) ?_)
  refine wpAny_bind (wpAny_of_eq (a := ()) rfl ?_)
  refine wpAny_bind (wpAny_of_eq (a := ()) rfl ?_)
  refine bm_if_false rfl ?_
  refine wpAny_bind (wpAny_specialOf (C.ba h) Ba.noBytes ?_)
  refine wpAny_bind (wpAny_bind ?_)
  show wpAny _ _ (load b >>= _) _ _ _
  refine wpAny_bind (wpAny_load (C.fact _ h) ?_)
  refine wpAny_pure (wpAny_pure ?_)
  refine bm_if_false rfl ?_
  refine wpAny_bind (wpAny_specialOf (C.ba h) Ba.noIndex ?_)
  refine bm_if_true rfl ?_
  first
    | show wpAny _ _ (Builtin.Bytes.buffer? "bytes.__new__" (.ref b) true >>= _) _ _ _
    | (refine wpAny_bind ?_; show wpAny _ _ (Builtin.Bytes.buffer? "bytes.__new__" (.ref b) true >>= _) _ _ _)
  refine wpAny_bind (ba_buffer (C.fact _ h) rfl rfl ?_)
  dsimp only
  refine wpAny_bind (wpAny_rule ?_)
  refine wpAny_bind (wpAny_mkBytes ?_ (by rw [List.size_toArray, sizeLine_eq]; exact hz))
  show wpAny _ _ (pure (Fin.done (Flow.ret (.bytes y.toArray s.toks)))) _ _ _
  exact wpAny_pure ⟨typeIs_bytes _ _ _, k _ _ (C.tok _)⟩
def big (y : List UInt8) : Nat := y.foldl (fun a c => a * 256 + c.toNat) 0
theorem ba_from {b : Addr} {y : List UInt8} {u : Tok} {P : Fin → Shared → Prop} (C : Cx H TB os fr fs s) (h : (b, baO y) ∈ fs) (hl : y.length ≤ 8) (k : ∀ t s', Cx H TB os fr fs s' → P (.done (.ret (.int (big y) t))) s') :
    wpAny (model prog w) A (Builtin.«int.from_bytes» ⟨[.type "int", .ref b, .str (PySem.Str.ofString "big") u], []⟩) P E s := by
  have hn : y.foldl (fun (acc : Nat) (b : UInt8) => acc * 256 + b.toNat) 0 < 2 ^ 64 := by
    have h1 := KFB.fold_lt y 0
    rw [Nat.zero_add, Nat.one_mul] at h1
    have h2 : 256 ^ y.length ≤ 256 ^ 8 := Nat.pow_le_pow_right (by decide) hl
    omega
  unfold Builtin.«int.from_bytes»
  refine wpAny_bind (wpAny_of_eq (a := true) KFB.type_int ?_)
  refine KFB.if_not rfl ?_
  refine wpAny_bind (wpAny_of_eq (a := true) F.conv_sub_int ?_)
  refine KFB.if_not rfl ?_
  refine wpAny_bind (wpAny_of_eq (a := [some (.ref b), some (.str (PySem.Str.ofString "big") u), none]) (by kernel_rfl) ?_)
  refine wpAny_bind (wpAny_of_eq (a := PySem.Str.ofString "big") (by kernel_rfl) ?_)
  refine wpAny_bind (wpAny_of_eq (a := false) rfl ?_)
  refine wpAny_bind (wpAny_of_eq (a := false) (by kernel_rfl) ?_)
  refine wpAny_bind ?_
  show wpAny _ _ (specialOf (.ref b) "__bytes__" >>= fun r => _) _ _ _
  refine wpAny_bind (wpAny_specialOf (C.ba h) Ba.noBytes ?_)
  dsimp only
  refine wpAny_bind ?_
  show wpAny _ _ (load b >>= fun o => _) _ _ _
  refine wpAny_bind (wpAny_load (C.fact _ h) ?_)
  refine wpAny_pure ?_
  refine KFB.if_so rfl ?_
  refine wpAny_bind (wpAny_specialOf (C.ba h) Ba.look_buffer ?_)
  refine wpAny_bind (wpAny_specialOf (C.ba h) Ba.look_release ?_)
  refine wpAny_bind (m := isInstance (.ref b) (.type "bytearray")) (wpAny_isInstance (C.ba h) Ba.sub_self ?_)
  refine KFB.if_not rfl ?_
  refine wpAny_bind ?_
  show wpAny _ _ (load b >>= fun o => _) _ _ _
  refine wpAny_bind (wpAny_load (C.fact _ h) ?_)
  refine wpAny_pure ?_
  refine wpAny_pure ?_
  show wpAny _ _ (mkIntGrown (y.foldl (fun (acc : Int) (b : UInt8) => acc * 256 + (b.toNat : Int)) ((0 : Nat) : Int)) >>= fun v => _) _ _ _
  rw [KFB.foldI_eq]
  refine wpAny_bind (KFB.grown hn ?_)
  refine KFB.if_so (by decide +kernel) ?_
  exact wpAny_bind (wpAny_pure (wpAny_pure (k _ _ (C.tok _))))
theorem ba_check {b : Addr} {u : Tok} {o : PySem.Str} : checkBoundCall "int.from_bytes" ⟨[.type "int", .ref b, .str o u], []⟩ = pure () := by first | kernel_rfl | rfl
abbrev fbO : Obj := KFB.bound
theorem k_fromCall {b x : Addr} {y : List UInt8} {u : Tok} {Q : Value → Shared → Prop} (C : Cx H TB os fr fs s) (h : (b, baO y) ∈ fs) (hx : (x, fbO) ∈ fs) (hl : y.length ≤ 8) (k : ∀ t s', Cx H TB os fr fs s' → Q (.int (big y) t) s') :
    wpC (model prog w) A (call (.ref x) [.ref b, .str (PySem.Str.ofString "big") u]) Q E s := by
  refine wpC_any (wpAny_call (codeAny_of_tree ?_))
  show wpAny _ A.in1 (callAny (.ref x) ⟨[.ref b, .str (PySem.Str.ofString "big") u], []⟩) _ _ s
  simp only [callAny]
  refine wpAny_bind (wpAny_load (C.fact _ hx) ?_)
  simp only [fbO, KFB.bound, show (Value.type "builtin_function_or_method" == Value.type "method" || Value.type "builtin_function_or_method" == Value.type "builtin_function_or_method" || Value.type "builtin_function_or_method" == Value.type "method-wrapper") = true by decide, if_true]
  refine KFB.if_so (by decide) ?_
  refine wpAny_bind (wpAny_of_eq (a := ()) ba_check ?_)
  refine wpAny_bind (wpAny_pure (wpAny_pure ?_))
  exact ⟨KFB.quiet_fb, codeAny_builtin KFB.entry_fb (ba_from C h hl k)⟩
end
end Px
end

/- PxN -/
section
open PySem PySem.W PySem.Calls PyProof.Rows
set_option Elab.async false
set_option linter.unusedVariables false
set_option maxRecDepth 100000
set_option maxHeartbeats 4000000
namespace Px
section
variable {prog : Program} {w : World} {K : Frag} {H : Heap} {TB : List TabSpec} {os : OsState} {mg mb : Str → Option Value}
variable {A : Around} {E : Value → Shared → Prop} {fr R : List Fm} {fs fs' F : Fct} {s : Shared} {env : Env}
theorem k_callB0 {pos : Pos} {id : String} {args : List Expr} {Q : Value → Shared → Prop} (h : wpC (model prog w) A (spliced (backTo pos (starEach args env))) (fun vs s₁ => wpC (model prog w) A (call (.builtin id) vs []) Q E s₁) E s)
    (hp : (backTo pos (starEach args env)).all (!·.1) = true := by rfl) : wpC (model prog w) A (callWith pos (.builtin id) [] (backTo pos (starEach args env)) (backToKw pos (keywordEach [] env))) Q E s := k_callB (first := []) h hp
theorem k_callT0 {pos : Pos} {T : String} {args : List Expr} {Q : Value → Shared → Prop} (h : wpC (model prog w) A (spliced (backTo pos (starEach args env))) (fun vs s₁ => wpC (model prog w) A (call (.type T) vs []) Q E s₁) E s)
    (hp : (backTo pos (starEach args env)).all (!·.1) = true := by rfl) : wpC (model prog w) A (callWith pos (.type T) [] (backTo pos (starEach args env)) (backToKw pos (keywordEach [] env))) Q E s := k_callT (first := []) h hp
/-- a def of the text is called: its arguments, then itself -/
theorem k_callF0 {pos : Pos} {f : Addr} {args : List Expr} {Q : Value → Shared → Prop} (hk : keepIn K (.ref f) = true)
    (h : wpC (model prog w) A (spliced (backTo pos (starEach args env))) (fun vs s₁ => K.In s₁.heap ∧ codeC (model prog w) A (.call (.ref f) ⟨vs, []⟩) (fun r s' => match r with | .ok (.ret v) => Q v s' | .ok _ => False | .error e => E e s') s₁) E s)
    (hp : (backTo pos (starEach args env)).all (!·.1) = true := by rfl) : wpC (model prog w) A (callWith pos (.ref f) [] (backTo pos (starEach args env)) (backToKw pos (keywordEach [] env))) Q E s :=
  k_callF hk (wpC_mono h (fun vs s₁ h₁ => c_evNil ⟨h₁.1, wpC_call h₁.2⟩) fun _ _ x => x) hp rfl
theorem k_callF1 {pos : Pos} {f : Addr} {u : Value} {args : List Expr} {Q : Value → Shared → Prop} (hk : keepIn K (.ref f) = true)
    (h : wpC (model prog w) A (spliced (backTo pos (starEach args env))) (fun vs s₁ => K.In s₁.heap ∧ codeC (model prog w) A (.call (.ref f) ⟨u :: vs, []⟩) (fun r s' => match r with | .ok (.ret v) => Q v s' | .ok _ => False | .error e => E e s') s₁) E s)
    (hp : (backTo pos (starEach args env)).all (!·.1) = true := by rfl) : wpC (model prog w) A (callWith pos (.ref f) [u] (backTo pos (starEach args env)) (backToKw pos (keywordEach [] env))) Q E s :=
  k_callF hk (wpC_mono h (fun vs s₁ h₁ => c_evNil ⟨h₁.1, wpC_call h₁.2⟩) fun _ _ x => x) hp rfl
/-- one argument by its name -/
theorem k_callK {pos : Pos} {f : Addr} {n : Str} {e : Expr} {ps : Pos} {Q : Value → Shared → Prop} (hk : keepIn K (.ref f) = true)
    (h : wpC (model prog w) A (eval e env) (fun v s₁ => K.In s₁.heap ∧ codeC (model prog w) A (.call (.ref f) ⟨[], [(n, v)]⟩) (fun r s' => match r with | .ok (.ret v) => Q v s' | .ok _ => False | .error e => E e s') s₁) E s) :
    wpC (model prog w) A (callWith pos (.ref f) [] (backTo pos (starEach [] env)) (backToKw pos (keywordEach [⟨some n, e, ps⟩] env))) Q E s :=
  k_callF hk (c_spNil (c_kw (wpC_mono h (fun v s₁ h₁ => c_evNil ⟨h₁.1, wpC_call h₁.2⟩) fun _ _ x => x))) rfl rfl
end
end Px
end

/- PxD -/
section
open PySem PySem.W PySem.Calls PyProof.Rows
set_option Elab.async false
set_option linter.unusedVariables false
set_option maxRecDepth 100000
set_option maxHeartbeats 4000000
namespace Px
section
variable {prog : Program} {w : World} {K : Frag} {H : Heap} {TB : List TabSpec} {os : OsState} {mg mb : Str → Option Value} {t : TabSpec}
variable {A : Around} {E : Value → Shared → Prop} {fr R : List Fm} {fs fs' F : Fct} {s : Shared} {env : Env}
theorem Gd.known {c' : Option Addr} (G : Gd K H (t :: TB) mg mb) : Gd K H ({ t with known := c' } :: TB) mg mb := by
  refine ⟨G.kin, fun t' h => ?_, G.g, G.b, G.st, G.bi, fun t' h => ?_, fun t' h => ?_⟩
  · rcases List.mem_cons.mp h with rfl | h
    · exact G.kt t (.head _)
    · exact G.kt t' (.tail _ h)
  · rcases List.mem_cons.mp h with rfl | h
    · exact G.tn t (.head _)
    · exact G.tn t' (.tail _ h)
  · rcases List.mem_cons.mp h with rfl | h
    · exact G.hd t (.head _)
    · exact G.hd t' (.tail _ h)
theorem Cx.forget {c' : Option Addr} (C : Cx H ({ t with known := c' } :: TB) os fr fs s) (ht : t.known = none) : Cx H (t :: TB) os fr fs s := by
  refine ⟨C.fact, C.nd, C.low, C.old, C.size, C.frames, fun t' h => ?_, fun t' h => ?_, C.gens, C.os⟩
  · rcases List.mem_cons.mp h with rfl | h
    · obtain ⟨ps, e, r⟩ := C.tabs _ (.head _)
      exact ⟨ps, e, r.imp (fun ⟨a, _⟩ => ⟨a, ht⟩) fun ⟨cd, a1, a2, a3⟩ => ⟨cd, ⟨a1.1, .inl ht⟩, a2, a3⟩⟩
    · exact C.tabs t' (.tail _ h)
  · rcases List.mem_cons.mp h with rfl | h
    · exact C.tlow { t' with known := c' } (.head _)
    · exact C.tlow t' (.tail _ h)
theorem Cx.codeRec {c' : Addr} (C : Cx H ({ t with known := some c' } :: TB) os fr fs s) : s.heap.CodeRec (.ref c') t.qual := by
  obtain ⟨ps, e, r⟩ := C.tabs _ (.head _)
  rcases r with ⟨_, h⟩ | ⟨cd, a1, a2, a3⟩
  · cases h
  · rcases a1.2 with h | h
    · cases h
    · cases h; exact a3
/-- a code of the text's own, met again or made now -/
theorem Cx.tab (C : Cx H (t :: TB) os fr fs s) {h' : Heap} {c' : Addr} (hx : Heap.ExtBut t.P s.heap h') (hs : s.heap.objs.size ≤ h'.objs.size) (hd : ∀ t' ∈ TB, t'.P ≠ t.P) (hP : h'.get? t.P = some (tabObj #[rawInt t.line, rawInt t.col, .ref c'])) (hc : c' ∉ keysOf fr fs) (hr : h'.CodeRec (.ref c') t.qual) (tk : Nat) :
    Cx H ({ t with known := some c' } :: TB) os fr fs { s with heap := h', toks := tk } := by
  have hlt := C.tlow t (.head _)
  have ne : ∀ a ∈ keysOf fr fs, a ≠ t.P := fun a ha e => absurd (C.low a ha) (Nat.not_le.mpr (e ▸ hlt))
  refine ⟨fun p hp => hx _ _ (ne _ (List.mem_append_right _ (List.mem_map_of_mem (f := (·.1)) hp))) (C.fact p hp), C.nd, C.low, fun b o e hb => ?_, Nat.le_trans C.size hs, fun f hf => ?_, fun t' h => ?_, fun t' h => ?_, C.gens, C.os⟩
  · exact hx _ _ (fun q => hb (by rw [q]; exact .head _)) (C.old b o e hb)
  · have x := C.frames f hf
    obtain ⟨m, hn, r⟩ := x.ns
    exact ⟨x.fr, x.lo, x.scp, x.good, x.gl, x.bl, m, hn.extBut hx (ne _ (List.mem_append_left _ (List.mem_map_of_mem hf))), r⟩
  · rcases List.mem_cons.mp h with rfl | h
    · exact ⟨_, hP, .inr ⟨c', ⟨rfl, .inr rfl⟩, hc, hr⟩⟩
    · obtain ⟨ps, e, r⟩ := C.tabs t' (.tail _ h)
      have hne := hd t' h
      refine ⟨ps, hx _ _ hne e, r.imp id fun ⟨cd, a1, a2, a3⟩ => ⟨cd, a1, a2, ?_⟩⟩
      obtain ⟨c, oc, vs, tk, hcd, hget, hdat, hq⟩ := a3
      refine ⟨c, oc, vs, tk, hcd, hx _ _ (fun q => ?_) hget, hdat, hq⟩
      obtain ⟨ps0, e0, r0⟩ := C.tabs t (.head _)
      rw [q, e0] at hget
      cases hget
      cases hdat
      rcases r0 with ⟨rfl, _⟩ | ⟨_, ⟨rfl, _⟩, _⟩
      · cases hq
      · cases hq
  · rcases List.mem_cons.mp h with rfl | h
    · exact hlt
    · exact C.tlow t' (.tail _ h)
/-- a def within a def -/
theorem k_nestDef {name : Str} {args : Arguments} {body : List Stmt} {scope : Scope} {pos : Pos} {clos : List (Str × Addr)} {Q : Flow → Shared → Prop} (G : Gd K H (t :: TB) mg mb) (C : Cx H (t :: TB) os fr fs s) (ht : t.known = none) (hBM : H.BuiltinsAt mg t.P) (hbm : ∀ bm, mg "__builtins__" = some (.ref bm) → ∀ t' ∈ t :: TB, bm ≠ t'.P) (hdt : ∀ t' ∈ TB, t'.P ≠ t.P) (hcP : ∀ t' ∈ t :: TB, t.c ≠ t'.P)
    (hge : env.globals = mainGlobals) (hcode : env.code = .ref t.c) (hpos : pos.line = t.line ∧ pos.col = t.col) (hq : qualnameIn env name name = t.qual) (hcl : closureFor scope env = pure clos) (hd : defaultsOf args env = ([], [])) (hann : annTrees args none env = [])
    (k : ∀ f c' ctv doc s', Cx H ({ t with known := some c' } :: TB) os fr ((f, fnMade name t.qual args body scope clos doc ((mg "__name__").getD .none) c' ctv) :: fs) s' → wpC (model prog w) A (storeName env name (.ref f)) (fun _ => Q .next) E s') :
    wpC (model prog w) A (exec (.FunctionDef name args body [] none [] scope none name pos) env) Q E s := by
  rw [exec_def, hd, hq]
  refine wpC_bind (wpC_standAt (wpC_seq (wpAny_holding ?_)))
  refine wpAny_bind (wpAny_pure (a := []) ?_)
  refine wpAny_bind (wpAny_holding (wpAny_pure (a := []) ?_))
  refine wpAny_holding ?_
  rw [hann]
  refine wpAny_bind (wpAny_pure (a := []) ?_)
  have hG := C.nsG G
  have hlt := C.tlow t (.head _)
  have hh : s.heap.BuiltinsAt mg t.P := by
    obtain ⟨bm, o, h1, h2, h3, h4, h5, r⟩ := hBM
    refine ⟨bm, o, h1, h2, h3, h4, C.old bm o h5 fun h => ?_, r⟩
    obtain ⟨t', ht', e⟩ := List.mem_map.mp h
    exact hbm bm h1 t' ht' e.symm
  have hCd : CodeHd s.heap t.c t.P := by
    obtain ⟨o, vs, file, tf, flags, tg, inF, text, tt, e1, r1, r2⟩ := G.hd t (.head _)
    refine ⟨o, vs, file, tf, flags, tg, inF, text, tt, C.old _ _ e1 fun h => ?_, r1, r2⟩
    obtain ⟨t', ht', e⟩ := List.mem_map.mp h
    exact hcP t' ht' e.symm
  have fin : ∀ {f : Addr} {c' : Addr} {ctv doc : Value} {h' : Heap} {tk : Tok}, Heap.ExtBut t.P s.heap h' → s.heap.objs.size ≤ h'.objs.size → h'.get? t.P = some (tabObj #[rawInt t.line, rawInt t.col, .ref c']) → c' ∉ keysOf fr fs → h'.CodeRec (.ref c') t.qual →
      wpC (model prog w) A (do standAt pos; bindName env name (.ref h'.objs.size); pure .next) Q E { s with heap := h'.push (fnMade name t.qual args body scope clos doc ((mg "__name__").getD .none) c' ctv), toks := tk } := by
    intro f c' ctv doc h' tk hx hs hP hc hr
    have C' := (C.tab hx hs hdt hP hc hr tk).push (fnMade name t.qual args body scope clos doc ((mg "__name__").getD .none) c' ctv) rfl tk
    refine wpC_bind (wpC_standAt (wpC_bind ?_))
    exact fun Γ p i a b => by rw [Sem.wp_bindName]; exact wpC_mono (k _ _ _ _ _ C') (fun _ _ q => wpC_pure q) (fun _ _ x => x) Γ p i a b
  obtain ⟨ps, e, r⟩ := C.tabs t (.head _)
  rcases r with ⟨rfl, _⟩ | ⟨cd, ⟨rfl, _⟩, a2, a3⟩
  · refine makeFunction_K hcl hge hG hcode hCd e trivial rfl (fun q => absurd (G.tn t (.head _)).1 (fun h => h q.symm)) hh fun c' ctv doc h' tk hx h1 h2 hr hP => ?_
    refine fin (f := 0) hx (Nat.le_of_lt (Nat.lt_of_le_of_lt h1 h2)) ?_ (fun hm => absurd (C.lt hm) (Nat.not_lt.mpr h1)) hr
    rw [hP, hpos.1, hpos.2]; rfl
  · have hf : codeAmong pos [rawInt t.line, rawInt t.col, .ref cd] = some (.ref cd) := by
      show (if ((t.line : Int) == (pos.line : Int) && (t.col : Int) == (pos.col : Int)) = true then some (Value.ref cd) else _) = _
      rw [hpos.1, hpos.2, beq_self_eq_true, beq_self_eq_true]; rfl
    refine makeFunction_hit hcl hge hG hcode hCd e (by trivial) hf hh fun ctv doc h' tk hk hs => ?_
    exact fin (f := 0) (fun b o _ q => hk b o q) hs (hk _ _ e) a2 (a3.keeps hk)
/-- a def object is called: plain names, perhaps names of the def around it -/
theorem k_codeO {R' : Result → Shared → Prop} {f : Addr} {o : Obj} {sc : Sc} {fd : FuncData} {body : List Stmt} {args : Args} (G : Gd K H TB mg mb) (C : Cx H TB os fr fs s) (hroom : A.depth < recursionLimit)
    (ho : s.heap.get? f = some o) (hdat : o.data = .func fd) (hcd : s.heap.CodeRec fd.code fd.qualname) (hbody : fd.body = .stmts body) (scp : fd.scope = sc.scope) (gl : fd.globals = mainGlobals) (bl : fd.builtins = builtinsNs)
    (good : (sc.good && !sc.scope.isGenerator && !sc.scope.isCoroutine) = true)
    (binds : List (Str × Value)) (vs : List (Option Value)) (hbind : BindsTo s fd args binds) (hall : sc.scope.names.all (fun x => x.2 != .cell) = true) (rest : List Str) (hnm : sc.nm = binds.map (·.1) ++ rest) (hvs : binds.map (fun b => some b.2) ++ List.replicate rest.length none = vs)
    (k : ∀ L s', Cx H TB os (⟨sc, callEnv fd L f, L, vs⟩ :: fr) fs s' →
      wpC (model prog w) (A.deeper (callEnv fd L f)) (execs body (callEnv fd L f)) (fun fl s' => R' (.ok (.ret (match fl with | .ret v => v | _ => .none))) s')
        (fun e s' => wpAny (model prog w) (A.deeper (callEnv fd L f)) (leaving (callEnv fd L f) e) (fun _ s'' => R' (.error e) s'') (fun e' s'' => R' (.error e') s'') s') s') :
    codeC (model prog w) A (.call (.ref f) args) R' s := by
  subst hvs
  simp only [Bool.and_eq_true, Bool.not_eq_true'] at good
  have hp := Sc.parts good.1.1
  refine codeC_call_function hroom ho hdat (scp ▸ good.2) (scp ▸ good.1.2) hbody hcd (hbind _ _ _ _ ?_)
  refine wpAny_newFunctionEnv (fun x hx => ?_) (fun x hx => ?_) (fun h₀ hn hs => ?_) (scp ▸ hp.1)
  · rw [scp] at hx
    have := List.all_eq_true.mp hall x hx
    simpa using this
  · rw [scp]; exact (hp.2.1 x.1 (by rw [hnm]; exact List.mem_append_left _ (List.mem_map_of_mem (f := (·.1)) hx))).1
  · refine ⟨(C.lim G).fresh _ hs, codeC_func (k _ _ ?_)⟩
    exact C.enter hn (fun b o e => hs.extBut b o (Nat.ne_of_lt (Heap.lt_size e)) (Heap.get?_push_of_some _ e)) hnm good.1.1 rfl rfl scp gl bl _
end
end Px
end

/- PxX -/
section
open PySem PySem.W PySem.Calls PyProof.Rows
set_option Elab.async false
set_option linter.unusedVariables false
set_option maxRecDepth 100000
set_option maxHeartbeats 4000000
namespace Px
/-- the heap without the frames' own names: what a flight leaves as it is -/
abbrev base0 (h : Heap) (fr : List Fm) : Heap := hideAll h (fr.map (·.L))
structure BaseOk (H : Heap) (TB : List TabSpec) (fr : List Fm) (fs : Fct) (base : Heap) : Prop where
  fact : ∀ p ∈ fs, base.get? p.1 = some p.2
  old : ∀ b o, H.get? b = some o → b ∉ TB.map (·.P) → base.get? b = some o
  tabs : ∀ t ∈ TB, TabOk (keysOf fr fs) base t
/-- a fresh exception, not yet traced -/
structure NewX (h h' : Heap) (e : Addr) (cls a0 : Value) : Prop where
  keeps : ∀ b o, h.get? b = some o → h'.get? b = some o
  new : h.get? e = none
  there : ∃ vs, h'.get? e = some { cls := cls, data := .fields vs } ∧ vs[0]? = some a0 ∧ vs[1]? = some .none
section
variable {M : Model} {H : Heap} {TB : List TabSpec} {os : OsState} {A : Around} {E : Value → Shared → Prop} {fr R : List Fm} {fs fs' F : Fct} {s s₀ : Shared} {f : Fm} {e : Addr} {cls : Value}
theorem Cx.base (C : Cx H TB os fr fs s) : BaseOk H TB fr fs (base0 s.heap fr) ∧ (base0 s.heap fr).StaysIn s.heap ∧ s.heap.FunFrames (base0 s.heap fr) (fr.map (·.env)) := by
  have nd := List.nodup_append.mp C.nd
  refine ⟨⟨fun p hp => hideAll_get _ (C.fact p hp) fun h => ?_, fun b o e hb => hideAll_get _ (C.old b o e hb) fun h => ?_, fun t ht => ?_⟩, fun b o e => of_hideAll _ e, ?_⟩
  · exact nd.2.2 _ h _ (List.mem_map_of_mem (f := (·.1)) hp) rfl
  · exact absurd (C.low b (List.mem_append_left _ h)) (Nat.not_le.mpr (Heap.lt_size e))
  · obtain ⟨ps, e, r⟩ := C.tabs t ht
    refine ⟨ps, hideAll_get _ e fun h => absurd (C.low _ (List.mem_append_left _ h)) (Nat.not_le.mpr (C.tlow t ht)), r.imp id fun ⟨cd, a1, a2, a3⟩ => ⟨cd, a1, a2, ?_⟩⟩
    obtain ⟨c, oc, vs, tk, hcd, hget, q⟩ := a3
    cases hcd
    exact ⟨cd, oc, vs, tk, rfl, hideAll_get _ hget fun h => a2 (List.mem_append_left _ h), q⟩
  · have key : ∀ l : List Fm, (∀ g ∈ l, g ∈ fr) → s.heap.FunFrames (base0 s.heap fr) (l.map (·.env)) := by
      intro l
      induction l with
      | nil => intro _; trivial
      | cons g l ih =>
        intro hl
        have x := C.frames g (hl g (.head _))
        obtain ⟨m, hn, _⟩ := x.ns
        exact Heap.FunFrames.cons (by rw [x.kind]; decide) x.fr hn (hideAll_none _ (List.mem_map_of_mem (hl g (.head _)))) (ih fun g' hg' => hl g' (.tail _ hg'))
    exact key fr fun _ h => h
theorem Cx.stays (C : Cx H TB os (f :: R) fs s) {base h' : Heap} (B : BaseOk H TB (f :: R) fs base) (st : base.StaysIn h') (up : s.heap.UpToSlots h') : Cx H TB os (f :: R) fs { s with heap := h' } := by
  have nsOf : ∀ g ∈ f :: R, ∀ m, s.heap.Ns g.L m → h'.Ns g.L m := fun g _ m hn => up.ns hn
  obtain ⟨m, hn, _⟩ := (C.frames f (.head _)).ns
  have hl := C.low f.L (.head _)
  refine ⟨fun p hp => st _ _ (B.fact p hp), C.nd, C.low, fun b o e hb => st _ _ (B.old b o e hb), Nat.le_of_lt (Nat.lt_of_le_of_lt hl (up.ns hn).lt), fun g hg => ?_, fun t ht => (B.tabs t ht).keeps st, C.tlow, C.gens, C.os⟩
  have x := C.frames g hg
  obtain ⟨m, hn, r⟩ := x.ns
  exact ⟨x.fr, x.lo, x.scp, x.good, x.gl, x.bl, m, up.ns hn, r⟩
theorem BaseOk.pop {base : Heap} (B : BaseOk H TB (f :: R) fs base) : BaseOk H TB R fs base := by
  refine ⟨B.fact, B.old, fun t ht => ?_⟩
  obtain ⟨ps, e, r⟩ := B.tabs t ht
  exact ⟨ps, e, r.imp id fun ⟨cd, a1, a2, a3⟩ => ⟨cd, a1, fun h => a2 (List.mem_cons_of_mem _ h), a3⟩⟩
theorem BaseOk.sel {base : Heap} (B : BaseOk H TB fr fs base) (h : Sel fs fs') : BaseOk H TB fr fs' base := by
  obtain ⟨l, a, b⟩ := h.sub
  refine ⟨fun p hp => B.fact p (a.mem_iff.mp (b.mem hp)), B.old, fun t ht => ?_⟩
  obtain ⟨ps, e, r⟩ := B.tabs t ht
  refine ⟨ps, e, r.imp id fun ⟨cd, a1, a2, a3⟩ => ⟨cd, a1, fun h => a2 ?_, a3⟩⟩
  rcases List.mem_append.mp h with h | h
  · exact List.mem_append_left _ h
  · exact List.mem_append_right _ ((a.map _).mem_iff.mp ((b.map _).mem h))
/-- an exception that flies, traced up to here -/
def Fly (H : Heap) (TB : List TabSpec) (os : OsState) (fr : List Fm) (fs : Fct) (cls : Value) (e : Addr) (s : Shared) : Prop :=
  ∃ base a0, Cx H TB os fr fs s ∧ BaseOk H TB fr fs base ∧ Heap.FlyingW base (fr.map (·.env)) e cls a0 s.heap
/-- an exception that its frame has noted -/
def Held (H : Heap) (TB : List TabSpec) (os : OsState) (fr : List Fm) (fs : Fct) (cls : Value) (e L : Addr) (s : Shared) : Prop :=
  ∃ base a0, Cx H TB os fr fs s ∧ BaseOk H TB fr fs base ∧ Heap.HeldW base (fr.map (·.env)) e cls a0 L s.heap
theorem Fly.cx (F : Fly H TB os fr fs cls e s) : Cx H TB os fr fs s := let ⟨_, _, C, _⟩ := F; C
theorem Fly.sel (F : Fly H TB os fr fs cls e s) (h : Sel fs fs') : Fly H TB os fr fs' cls e s := let ⟨b, a, C, B, z⟩ := F; ⟨b, a, C.sel h, B.sel h, z⟩
theorem Fly.there (F : Fly H TB os fr fs cls e s) : ∃ ob, s.heap.get? e = some ob ∧ ob.cls = cls := let ⟨_, _, _, _, z⟩ := F; z.there
theorem fly_leave {a0 : Value} {Q : Unit → Shared → Prop} (C : Cx H TB os (f :: R) fs s₀) (hfr : A.frames = some (f.env :: R.map (·.env))) {h₁ : Heap} {t : Nat} (N : NewX s₀.heap h₁ e cls a0)
    (k : ∀ s', Fly H TB os R fs cls e s' → Q () s') : wpAny M A (leaving f.env (.ref e)) Q E { s₀ with heap := h₁, toks := t } := by
  obtain ⟨B, st, ff⟩ := C.base
  obtain ⟨vs, he, h0, h1⟩ := N.there
  have hd : ({ cls := cls, data := .fields vs } : Obj).data = .fields vs := rfl
  have C1 := C.keepF N.keeps t
  have st1 : (base0 s₀.heap (f :: R)).StaysIn h₁ := fun b o x => N.keeps b o (st b o x)
  refine wpAny_leaving_firstW hfr (ff.of_keeps fun b o x _ => ⟨o, N.keeps b o x, rfl⟩) (C.frames f (.head _)).fr he st1 ?_ hd h1 h0 fun h' hL => ?_
  · cases q : (base0 s₀.heap (f :: R)).get? e with
    | none => rfl
    | some o => have := st e o q; rw [N.new] at this; cases this
  · obtain ⟨k1, ⟨_, _, k2⟩, k3, k4⟩ := hL
    refine k _ ⟨_, a0, (C1.stays B k1 k4).pop, B.pop, k1, ?_, k2, k3⟩
    cases q : (base0 s₀.heap (f :: R)).get? e with
    | none => rfl
    | some o => have := st e o q; rw [N.new] at this; cases this
theorem fly_on {Q : Unit → Shared → Prop} (F : Fly H TB os (f :: R) fs cls e s) (hfr : A.frames = some (f.env :: R.map (·.env))) (k : ∀ s', Fly H TB os R fs cls e s' → Q () s') : wpAny M A (leaving f.env (.ref e)) Q E s := by
  obtain ⟨base, a0, C, B, z⟩ := F
  exact wpAny_leaves_onW hfr (C.frames f (.head _)).fr z fun h' z' up => k _ ⟨base, a0, (C.stays B z'.1 up).pop, B.pop, z'⟩
theorem fly_note {a0 : Value} {Q : Unit → Shared → Prop} (C : Cx H TB os (f :: R) fs s₀) (hfr : A.frames = some (f.env :: R.map (·.env))) {h₁ : Heap} {t : Nat} (N : NewX s₀.heap h₁ e cls a0)
    (k : ∀ s', Held H TB os (f :: R) fs cls e f.L s' → Q () s') : wpAny M A (noteFrame (.ref e) f.env) Q E { s₀ with heap := h₁, toks := t } := by
  obtain ⟨B, st, ff⟩ := C.base
  obtain ⟨vs, he, h0, h1⟩ := N.there
  have hd : ({ cls := cls, data := .fields vs } : Obj).data = .fields vs := rfl
  have C1 := C.keepF N.keeps t
  have st1 : (base0 s₀.heap (f :: R)).StaysIn h₁ := fun b o x => N.keeps b o (st b o x)
  have hen : (base0 s₀.heap (f :: R)).get? e = none := by
    cases q : (base0 s₀.heap (f :: R)).get? e with
    | none => rfl
    | some o => have := st e o q; rw [N.new] at this; cases this
  unfold noteFrame
  simp only [(C.frames f (.head _)).fr]
  refine wpAny_bind (wpAny_field he hd h1 ?_)
  rw [if_neg (by decide)]
  refine wpAny_entryW hfr (ff.of_keeps fun b o x _ => ⟨o, N.keeps b o x, rfl⟩) (C.frames f (.head _)).fr he st1 hen hd (Array.getElem?_eq_some_iff.mp h1).1 h0 fun h' hL => ?_
  obtain ⟨k1, k2, k3, k4⟩ := hL
  exact k _ ⟨_, a0, C1.stays B k1 k4, B, k1, hen, k2, k3⟩
theorem fly_noteOn {Q : Unit → Shared → Prop} (F : Fly H TB os (f :: R) fs cls e s) (hfr : A.frames = some (f.env :: R.map (·.env))) (k : ∀ s', Held H TB os (f :: R) fs cls e f.L s' → Q () s') : wpAny M A (noteFrame (.ref e) f.env) Q E s := by
  obtain ⟨base, a0, C, B, z⟩ := F
  exact wpAny_looks_onW hfr (C.frames f (.head _)).fr z fun h' z' up => k _ ⟨base, a0, C.stays B z'.1 up, B, z'⟩
theorem fly_land {L : Addr} {Q : Unit → Shared → Prop} (F : Held H TB os (f :: R) fs cls e L s) (k : ∀ s', Fly H TB os (f :: R) fs cls e s' → Q () s') : wpAny M A (setFlight (.ref e) none) Q E s := by
  obtain ⟨base, a0, C, B, z⟩ := F
  exact wpAny_landsW z fun h' z' up => k _ ⟨base, a0, C.stays B z'.1 up, B, z'⟩
theorem fly_landAgain {Q : Unit → Shared → Prop} (F : Fly H TB os (f :: R) fs cls e s) (k : ∀ s', Fly H TB os (f :: R) fs cls e s' → Q () s') : wpAny M A (setFlight (.ref e) none) Q E s := by
  obtain ⟨base, a0, C, B, z⟩ := F
  exact lands_againW z fun h' z' up => k _ ⟨base, a0, C.stays B z'.1 up, B, z'⟩
theorem fly_heldLeave {Q : Unit → Shared → Prop} (F : Held H TB os (f :: R) fs cls e f.L s) (k : ∀ s', Fly H TB os R fs cls e s' → Q () s') : wpAny M A (leaving f.env (.ref e)) Q E s := by
  obtain ⟨base, a0, C, B, z⟩ := F
  unfold leaving
  refine wpAny_bind (wpAny_noteFrame_againW (C.frames f (.head _)).fr z.2.2.2 ?_)
  refine wpAny_landsW z fun h' hfl up => ?_
  obtain ⟨k1, k2, ⟨_, _, k3⟩, k4⟩ := hfl
  exact k _ ⟨base, a0, (C.stays B k1 up).pop, B.pop, k1, k2, k3, k4⟩
end
end Px
end

/- PxOs -/
section
open PySem PySem.W PySem.Calls PyProof.Rows
set_option Elab.async false
set_option linter.unusedVariables false
set_option maxRecDepth 100000
set_option maxHeartbeats 4000000
namespace Px
namespace Ce
theorem mro : mroOf (.type "ConnectionError") = pure [.type "ConnectionError", .type "OSError", .type "Exception", .type "BaseException", .type "object"] := by rw [mroOf_type]; kernel_rfl
theorem look_new : typeLookup (.type "ConnectionError") "__new__" = pure (some (.builtin "OSError.__new__")) := by rw [typeLookup_type, builtinLookup_eq_fast]; kernel_rfl
theorem look_init : typeLookup (.type "ConnectionError") "__init__" = pure (some (.builtin "ConnectionError.__init__")) := by rw [typeLookup_type, builtinLookup_eq_fast]; kernel_rfl
theorem sub_self : isSubtype (.type "ConnectionError") (.type "ConnectionError") = pure true := by rw [isSubtype_type]; kernel_rfl
theorem sub_os : isSubtype (.type "ConnectionError") (.type "OSError") = pure true := by rw [isSubtype_type]; kernel_rfl
theorem slot_init : Slot "ConnectionError" "__init__" "ConnectionError.__init__" :=
  .of (owner := "ConnectionError") (n := "__init__") look_init (by decide +kernel) (by decide +kernel) (by decide +kernel) (by first | exact .inl (by decide +kernel) | exact .inr (by decide +kernel)) sub_self
theorem called : TypeCalled "ConnectionError" "OSError.__new__" "ConnectionError.__init__" :=
  ⟨by decide +kernel, by decide +kernel, ⟨_, _, mro⟩, madeBy_type mro look_new (by decide +kernel), by decide +kernel, sub_self, slot_init⟩
theorem entry_new : entryFor table "OSError.__new__" = some Builtin.«OSError.__new__» := entryFor_of_tree (by kernel_rfl)
theorem entry_init : entryFor table "ConnectionError.__init__" = some Builtin.«OSError.__init__» := entryFor_alias (id' := "OSError.__init__") (by kernel_rfl) rfl (by decide +kernel) (by kernel_rfl)
theorem type1 (a : Value) : checkTypeCall "ConnectionError" ⟨[a], []⟩ = pure () := by kernel_rfl
theorem new1 (a : Value) : checkBuiltinCall "OSError.__new__" ⟨[.type "ConnectionError", a], []⟩ = pure () := by kernel_rfl
theorem init1 (a b : Value) : argsOk "ConnectionError.__init__" ⟨[a, b], []⟩ := by unfold argsOk; kernel_rfl
theorem reads : Builtin.OSError.osReadsInInit (.type "ConnectionError") = pure false := by
  unfold Builtin.OSError.osReadsInInit
  have e : "ConnectionError.__init__".dropRight ".__init__".length = "ConnectionError" := by decide +kernel
  rw [look_init, pure_bind]
  dsimp only
  rw [if_pos (by decide +kernel), e, sub_self]
  rfl
theorem plain_new : plainId "OSError.__new__" = true := by decide +kernel
end Ce
section
variable {prog : Program} {w : World} {A : Around} {E : Value → Shared → Prop} {s : Shared}
theorem os_put {M : Model} {a : Addr} {o : Obj} {vs : Array Value} {i : Nat} {v : Value} {Q : Unit → Shared → Prop} (ho : s.heap.get? a = some o) (hd : o.data = .fields vs) (hi : i < vs.size) (h : Q () { s with heap := s.heap.update a (Obj.mapFields (·.setIfInBounds i v)) }) :
    wpAny M A (Builtin.OSError.osPut (.ref a) i v) Q E s := by
  unfold Builtin.OSError.osPut
  refine wpAny_bind (wpAny_field ho hd (Array.getElem?_eq_getElem hi) (wpAny_bind (wpAny_setField ho hd hi ?_)))
  exact wpAny_letGo h
theorem ce_code_new {x : Str} {t : Tok} {Q₁ : Value → Shared → Prop} (h : ∀ e h' a0, NewX s.heap h' e (.type "ConnectionError") a0 → Q₁ (.ref e) { s with heap := h' }) :
    codeAny (model prog w) A (.call (.builtin "OSError.__new__") ⟨[.type "ConnectionError", .str x t], []⟩) (wants Q₁ E) s := by
  refine codeAny_of_tree ?_
  show wpAny _ A.in1 (do checkBuiltinCall "OSError.__new__" ⟨[.type "ConnectionError", .str x t], []⟩; again (.builtin "OSError.__new__" ⟨[.type "ConnectionError", .str x t], []⟩)) _ _ s
  refine wpAny_bind (wpAny_of_eq (Ce.new1 _) (wpAny_pure ⟨plainId_quiet Ce.plain_new _, codeAny_builtin Ce.entry_new ?_⟩))
  rw [Around.under_plainId Ce.plain_new _]
  unfold Builtin.«OSError.__new__»
  refine wpAny_bind (wpAny_of_eq (a := true) (by first | rfl | kernel_rfl) ?_)
  refine bm_if_false rfl ?_
  refine wpAny_bind (wpAny_of_eq Ce.sub_os ?_)
  refine bm_if_false rfl ?_
  refine wpAny_bind (wpAny_of_eq Ce.reads ?_)
  refine bm_if_false rfl ?_
  show wpAny _ _ (do
    let self ← (do newObj (.type "ConnectionError") (.fields (#[← newTuple [], Value.none, Value.none, Value.none, Value.bool false, Value.none] ++ Builtin.OSError.osNothingGiven)))
    Builtin.OSError.osGiveMeaning self [.str x t]
    ret self) _ _ _
  refine wpAny_bind (wpAny_bind (wpAny_newTuple ?_ (Nat.zero_le _)))
  refine wpAny_newObj_type ?_ (by show (11 : Nat) ≤ sizeLine + 2; rw [sizeLine_eq]; decide)
  have put : ∀ {a : Addr} {o : Obj} {vs : Array Value} {i : Nat} {v : Value} {h₁ : Heap}, h₁.get? a = some o → o.data = .fields vs → (h₁.update a (Obj.mapFields (·.setIfInBounds i v))).get? a = some (Obj.mapFields (·.setIfInBounds i v) o) := fun ho hd =>
    Heap.get?_update_self _ ho (Obj.isFreed_of_fields (Obj.data_mapFields hd _))
  generalize he : ({ s with heap := s.heap.push { cls := .type "tuple", data := .seq ([] : List Value).toArray } } : Shared).heap.objs.size = e
  have hle : s.heap.objs.size < e := by rw [← he]; show _ < (s.heap.push _).objs.size; rw [Heap.size_push]; exact Nat.lt_succ_self _
  generalize hO : ({ cls := .type "ConnectionError", data := .fields (#[.ref s.heap.objs.size, Value.none, Value.none, Value.none, Value.bool false, Value.none] ++ Builtin.OSError.osNothingGiven) } : Obj) = oe
  have hod : oe.data = .fields (#[.ref s.heap.objs.size, Value.none, Value.none, Value.none, Value.bool false, Value.none] ++ Builtin.OSError.osNothingGiven) := by rw [← hO]
  have hoc : oe.cls = .type "ConnectionError" := by rw [← hO]
  have g2 : ((s.heap.push { cls := .type "tuple", data := .seq ([] : List Value).toArray }).push oe).get? e = some oe := by rw [← he]; exact Heap.get?_push_size _ (by rw [← hO]; rfl)
  show wpAny _ _ (do
    Builtin.OSError.osGiveMeaning (.ref e) [.str x t]
    ret (.ref e)) _ _ { s with heap := (s.heap.push { cls := .type "tuple", data := .seq ([] : List Value).toArray }).push oe }
  generalize hH : (s.heap.push { cls := .type "tuple", data := .seq ([] : List Value).toArray }).push oe = H2 at g2 ⊢
  have keep2 : ∀ b o, s.heap.get? b = some o → H2.get? b = some o := fun b o q => by rw [← hH]; exact Heap.get?_push_of_some _ (Heap.get?_push_of_some _ q)
  refine wpAny_bind ?_
  show wpAny _ _ (do
    Builtin.OSError.osPut (.ref e) 6 Builtin.OSError.osUnset
    Builtin.OSError.osPut (.ref e) 7 Builtin.OSError.osUnset
    Builtin.OSError.osPut (.ref e) 0 (← newTuple [.str x t])) _ _ _
  refine wpAny_bind (os_put g2 hod (by show 6 < 11; decide) ?_)
  have g3 := put (i := 6) (v := Builtin.OSError.osUnset) g2 hod
  have d3 := Obj.data_mapFields hod (·.setIfInBounds 6 Builtin.OSError.osUnset)
  refine wpAny_bind (os_put g3 d3 (by show 7 < 11; decide) ?_)
  have g4 := put (i := 7) (v := Builtin.OSError.osUnset) g3 d3
  have d4 := Obj.data_mapFields d3 (·.setIfInBounds 7 Builtin.OSError.osUnset)
  refine wpAny_bind (wpAny_newTuple ?_ (by rw [sizeLine_eq]; exact Nat.le_of_ble_eq_true rfl))
  have g5 := Heap.get?_push_of_some { cls := .type "tuple", data := .seq ([.str x t] : List Value).toArray } g4
  refine os_put g5 d4 (by show 0 < 11; decide) ?_
  have g6 := put (i := 0) (v := .ref ((H2.update e (Obj.mapFields (·.setIfInBounds 6 Builtin.OSError.osUnset))).update e (Obj.mapFields (·.setIfInBounds 7 Builtin.OSError.osUnset))).objs.size) g5 d4
  have N : NewX s.heap ((((H2.update e (Obj.mapFields (·.setIfInBounds 6 Builtin.OSError.osUnset))).update e (Obj.mapFields (·.setIfInBounds 7 Builtin.OSError.osUnset))).push { cls := .type "tuple", data := .seq ([.str x t] : List Value).toArray }).update e
      (Obj.mapFields (·.setIfInBounds 0 (.ref ((H2.update e (Obj.mapFields (·.setIfInBounds 6 Builtin.OSError.osUnset))).update e (Obj.mapFields (·.setIfInBounds 7 Builtin.OSError.osUnset))).objs.size)))) e (.type "ConnectionError")
      (.ref ((H2.update e (Obj.mapFields (·.setIfInBounds 6 Builtin.OSError.osUnset))).update e (Obj.mapFields (·.setIfInBounds 7 Builtin.OSError.osUnset))).objs.size) := by
    refine ⟨fun b o q => ?_, ?_, ⟨(((#[.ref s.heap.objs.size, Value.none, Value.none, Value.none, Value.bool false, Value.none] ++ Builtin.OSError.osNothingGiven).setIfInBounds 6 Builtin.OSError.osUnset).setIfInBounds 7 Builtin.OSError.osUnset).setIfInBounds 0
      (.ref ((H2.update e (Obj.mapFields (·.setIfInBounds 6 Builtin.OSError.osUnset))).update e (Obj.mapFields (·.setIfInBounds 7 Builtin.OSError.osUnset))).objs.size), g6.trans (congrArg some ?_), rfl, rfl⟩⟩
    · have hb : e ≠ b := fun z => absurd (Heap.lt_size q) (Nat.not_lt.mpr (z ▸ Nat.le_of_lt hle))
      rw [Heap.get?_update_other _ _ hb]
      exact Heap.get?_push_of_some _ (by rw [Heap.get?_update_other _ _ hb, Heap.get?_update_other _ _ hb]; exact keep2 b o q)
    · cases q : s.heap.get? e with
      | none => rfl
      | some o => exact absurd (Heap.lt_size q) (Nat.not_lt.mpr (Nat.le_of_lt hle))
    · rw [← hO]; rfl
  exact wpAny_pure (h e _ _ N)
theorem k_connErr {x : Str} {t : Tok} {Q : Value → Shared → Prop} (h : ∀ e h' a0, NewX s.heap h' e (.type "ConnectionError") a0 → Q (.ref e) { s with heap := h' }) : wpAny (model prog w) A (call (.type "ConnectionError") [.str x t]) Q E s := by
  refine callType_codes (Q₁ := fun obj s₁ => ∃ e h' a0, obj = .ref e ∧ s₁ = { s with heap := h' } ∧ NewX s.heap h' e (.type "ConnectionError") a0) Ce.called (Ce.type1 _) Ce.entry_init (ce_code_new fun e h' a0 N => ⟨e, h', a0, rfl, rfl, N⟩) ?_
  rintro _ _ ⟨e, h', a0, rfl, rfl, N⟩
  obtain ⟨vs, he, _⟩ := N.there
  have hT : ({ s with heap := h' } : Shared).TypeIs (.ref e) "ConnectionError" := ⟨_, he, rfl⟩
  refine ⟨hT, Ce.init1 _ _, ?_⟩
  unfold Builtin.«OSError.__init__»
  dsimp only
  refine wpAny_bind (wpAny_typeOf hT (wpAny_bind (wpAny_of_eq Ce.reads ?_)))
  refine bm_if_true rfl ?_
  exact wpAny_bind (wpAny_rule (wpAny_pure ⟨rfl, h e h' a0 N⟩))
theorem ce_facts : ExcRaiseFacts "ConnectionError" := ⟨by rw [isSubtype_type]; kernel_rfl, by decide +kernel⟩
theorem ce_raise {env : Env} {x : Sem Value} {Q : Flow → Shared → Prop} (hh : A.handled = none)
    (h : wpAny (model prog w) A x (fun v s₁ => ∃ e vs, v = .ref e ∧ s₁.heap.get? e = some { cls := .type "ConnectionError", data := .fields vs } ∧ vs[1]? = some .none ∧ E (.ref e) s₁) E s) :
    wpAny (model prog w) A (raiseStmt env (some x) none) Q E s := by
  unfold raiseStmt
  refine wpAny_bind (wpAny_mono h (fun v s₁ h₁ => ?_) fun _ _ x => x)
  obtain ⟨e, vs, rfl, he, h1, hE⟩ := h₁
  obtain ⟨hp, g, d, tk, os⟩ := s₁
  have hsub := ce_facts.isExc
  have hmeta := ce_facts.plainMeta
  repeat (first | refine wpAny_loadPart he ?_ | wp_step)
  rw [h1]
  refine wpAny_pure (wpAny_ite ?_)
  rw [if_neg (by decide)]
  refine wpAny_pure ?_
  unfold raiseNew
  refine wpAny_bind (wpAny_handled ?_)
  rw [hh]
  first
    | exact wpAny_throw hE
    | exact wpAny_bind (wpAny_pure (wpAny_throw hE))
end
end Px
end

/- PxY -/
section
open PySem PySem.W PySem.Calls PyProof.Rows
set_option Elab.async false
set_option linter.unusedVariables false
set_option maxRecDepth 100000
set_option maxHeartbeats 4000000
namespace Px
section
variable {prog : Program} {w : World} {H : Heap} {TB : List TabSpec} {os : OsState} {A : Around} {E : Value → Shared → Prop} {fr R : List Fm} {fs fs' F : Fct} {s : Shared} {f : Fm} {e : Addr} {cls : Value} {env : Env} {sc : Sc} {L : Addr} {vs : List (Option Value)} {nm : List Str}
theorem c_raiseCE {x : Expr} {pos : Pos} {Q : Flow → Shared → Prop} (hh : A.handled = none)
    (h : wpC (model prog w) A (eval x env) (fun v s₁ => ∃ e vs, v = .ref e ∧ s₁.heap.get? e = some { cls := .type "ConnectionError", data := .fields vs } ∧ vs[1]? = some .none ∧ E (.ref e) s₁) E s) : wpC (model prog w) A (exec (.Raise (some x) none pos) env) Q E s := by
  show wpC _ A (do standAt pos; raiseStmt env (some (do let v ← eval x env; standAt pos; pure v)) none) Q E s
  refine wpC_bind (wpC_standAt ?_)
  have go : ∀ v s₁, (∃ e vs, v = .ref e ∧ s₁.heap.get? e = some { cls := .type "ConnectionError", data := .fields vs } ∧ vs[1]? = some .none ∧ E (.ref e) s₁) → wpC (model prog w) A (raiseStmt env (some (pure v)) none) Q E s₁ :=
    fun v s₁ h₁ => wpC_any (ce_raise hh (wpAny_pure h₁))
  unfold raiseStmt at go ⊢
  refine wpC_bind (wpC_bind (wpC_mono h (fun v s₁ h₁ => wpC_bind (wpC_standAt (wpC_pure ?_))) fun _ _ x => x))
  intro Γ p i a b
  have := go v s₁ h₁ Γ p i a b
  rw [Sem.wp_bind'] at this
  exact this
theorem m_joined {a y : Str} {x : Str} {t : Tok} {k' : Nat} {p np fp pos : Pos} {Q : Value → Shared → Prop} (C : Cx H TB os (⟨sc, env, L, vs⟩ :: R) fs s) (hN : sc.nm = nm) (h : LAt nm vs x (.str y t)) (hz : a.length + y.length ≤ 1000) (k : ∀ z u s', Cx H TB os (⟨sc, env, L, vs⟩ :: R) fs s' → Q (.str z u) s') :
    wpC (model prog w) A (eval (.JoinedStr [.Constant (.str a) k' p, .FormattedValue (.Name x np) (-1) none fp] pos) env) Q E s := by
  obtain ⟨i, e1, e2⟩ := h.get
  have hx : y.length ≤ sizeLine := by rw [sizeLine_eq]; omega
  have l0 : Str.empty.length = 0 := rfl
  have l1 : (Str.empty ++ a).length ≤ 1000 := by rw [strLen_append, l0]; omega
  have l2 : ((Str.empty ++ a) ++ y).length ≤ 1000 := by rw [strLen_append, strLen_append, l0]; omega
  refine wpC_any (wpAny_JoinedStr ?_)
  show wpAny _ _ (eval (.Constant (.str a) k' p) env) _ _ _
  refine Constant_str ⟨a, _, rfl, by rw [sizeLine_eq]; omega, ?_⟩
  show wpAny _ _ (eval (.FormattedValue (.Name x np) (-1) none fp) env) _ _ _
  refine wpAny_FormattedValue_plain (r_local (C.tok _) i (by rw [hN]; exact e1) e2 (wpAny_formatField_str ⟨y, _, rfl, by rw [sizeLine_eq]; omega, ?_⟩ ⟨y, _, rfl, by rw [sizeLine_eq]; omega, ?_⟩ hx))
  · exact ⟨by rw [sizeLine_eq]; omega, k _ _ _ ((C.tok _).tok _)⟩
  · exact ⟨by rw [sizeLine_eq]; omega, k _ _ _ (((C.tok _).tok _).tok _)⟩
theorem fly_back {M : Model} (F : Held H TB os (f :: R) fs cls e f.L s) {E' : Value → Shared → Prop} (k : ∀ s', Held H TB os (f :: R) fs cls e f.L s' → E' (.ref e) s') : cameBackBy M A f.env E' (.ref e) s := by
  obtain ⟨base, a0, C, B, z1, z2, z3, z4⟩ := F
  obtain ⟨oe, vs, T, oT, ts, he, hcls, hd, h1, hnT, hTe, hT, hdT, h3⟩ := z4
  have hsz3 : 3 < ts.size := (Array.getElem?_eq_some_iff.mp h3).1
  have hf := (C.frames f (.head _)).fr
  have other : ∀ b, b ≠ T → (s.heap.update T (Obj.mapFields (·.setIfInBounds 3 (rawInt f.L)))).get? b = s.heap.get? b := fun b hb => Heap.get?_update_other _ _ (Ne.symm hb)
  have noRecord : ∀ b o, s.heap.get? b = some o → (∀ vs, o.data ≠ .fields vs) → b ≠ T := fun b o hb hnf q => by
    rw [q, hT] at hb; injection hb with hb; subst hb; exact hnf ts hdT
  unfold cameBackBy
  refine wpAny_bind (wpAny_field he hd h1 ?_)
  refine wpAny_ite ?_
  rw [if_neg (show ¬ ((Value.ref T == Value.none) = true) from by simp)]
  rw [hf]
  unfold setFlight
  refine wpAny_bind (wpAny_field he hd h1 ?_)
  rw [if_pos (show (Value.ref T != Value.none) = true from by simp)]
  refine wpAny_setField hT hdT hsz3 (k _ ?_)
  have st : base.StaysIn (s.heap.update T (Obj.mapFields (·.setIfInBounds 3 (rawInt f.L)))) := fun b o hbo => (other b fun q => by rw [q, hnT] at hbo; cases hbo).trans (z1 b o hbo)
  have up : s.heap.UpToSlots (s.heap.update T (Obj.mapFields (·.setIfInBounds 3 (rawInt f.L)))) := fun b o hb hn => ⟨o.slots, (other b (noRecord b o hb hn)).trans hb⟩
  exact ⟨base, a0, C.stays B st up, B, st, z2, z3.of_keeps fun b o hb hnf => ⟨o, (other b (noRecord b o hb hnf)).trans hb, rfl⟩,
    ⟨oe, vs, T, _, _, (other e (Ne.symm hTe)).trans he, hcls, hd, h1, hnT, hTe, Heap.get?_update_self _ hT (Obj.isFreed_of_fields (Obj.data_mapFields hdT _)), Obj.data_mapFields hdT _, by simp [hsz3]⟩⟩
end
end Px
end

/- PxU -/
section
open PySem PySem.W PySem.Calls PyProof.Rows
set_option Elab.async false
set_option linter.unusedVariables false
set_option maxRecDepth 100000
set_option maxHeartbeats 4000000
namespace Px
section
variable {prog : Program} {w : World} {K : Frag} {H : Heap} {TB : List TabSpec} {os : OsState} {mg mb : Str → Option Value} {A : Around} {E : Value → Shared → Prop} {fr R : List Fm} {fs fs' F : Fct} {s : Shared} {f : Fm} {env : Env}
theorem c_ordNil {xs : List Value} {Q : Unit → Shared → Prop} (h : Q () s) : wpC (model prog w) A (assignInOrder [] xs) Q E s := by cases xs <;> exact wpC_pure h
theorem c_ordEachNil {xs : List Value} {Q : Unit → Shared → Prop} (h : Q () s) : wpC (model prog w) A (assignInOrder ((assignEach [] env).map (·.2)) xs) Q E s := c_ordNil h
theorem c_bind {n : Str} {x : Value} {Q : Unit → Shared → Prop} (h : wpC (model prog w) A (storeName env n x) Q E s) : wpC (model prog w) A (bindName env n x) Q E s := fun Γ p i a b => by rw [Sem.wp_bindName]; exact h Γ p i a b
theorem c_ordBind {n : Str} {ts : List (Value → Sem Unit)} {x : Value} {xs : List Value} {Q : Unit → Shared → Prop} (h : wpC (model prog w) A (storeName env n x) (fun _ s' => wpC (model prog w) A (assignInOrder ts xs) Q E s') E s) :
    wpC (model prog w) A (assignInOrder ((fun v => bindName env n v) :: ts) (x :: xs)) Q E s := by
  unfold assignInOrder
  exact wpC_bind (wpC_holding (c_bind h))
theorem c_ordEach {n : Str} {p : Pos} {rest : List Expr} {x : Value} {xs : List Value} {Q : Unit → Shared → Prop} (h : wpC (model prog w) A (storeName env n x) (fun _ s' => wpC (model prog w) A (assignInOrder ((assignEach rest env).map (·.2)) xs) Q E s') E s) :
    wpC (model prog w) A (assignInOrder ((assignEach (.Name n p :: rest) env).map (·.2)) (x :: xs)) Q E s := by
  show wpC (model prog w) A (assignInOrder ((assign (.Name n p) env) :: (assignEach rest env).map (·.2)) (x :: xs)) Q E s
  unfold assignInOrder
  refine wpC_bind (wpC_holding ?_)
  show wpC (model prog w) A (do standAt p; bindName env n x) _ E s
  exact wpC_bind (wpC_standAt (c_bind h))
theorem k_unpack {t : Addr} {items : List Value} {elts : List Expr} {k' : Nat} {pos : Pos} {Q : Unit → Shared → Prop} (C : Cx H TB os (f :: R) fs s) (hm : (t, tupO items) ∈ fs) (hh : A.handled = none) (hn : (assignEach elts env).length = items.length) (hstar : (assignEach elts env).findIdx? (·.1) = none)
    (k : ∀ s', Cx H TB os (f :: R) fs s' → wpC (model prog w) A (assignInOrder ((assignEach elts env).map (·.2)) items) Q E s') : wpC (model prog w) A (assign (.Tuple elts k' pos) env (.ref t)) Q E s := by
  rw [arm_assign_Tuple]
  refine wpC_bind (wpC_standAt ?_)
  unfold unpack
  have ht : s.heap.IsTuple t items.toArray := ⟨_, C.fact _ hm, rfl, _, rfl⟩
  have hn' : (assignEach elts env).length = items.toArray.size := by rw [hn, List.size_toArray]
  rw [hn', hstar]
  exact wpC_seq (wpAny_holding (wpAny_unpackItems_tuple hh ht fun h' he => k _ (C.keepF (fun b o e => he b o (Nat.ne_of_lt (Heap.lt_size e)) e) _)))
theorem c_Swap {elts k tpos value pos} {names : List Str} {Q : Flow → Shared → Prop}
    (h : wpC (model prog w) A (eval value env) (fun v s₁ => wpC (model prog w) A (unpackItems v names.length none) (fun items s₂ => wpC (model prog w) A (assignInOrder (names.reverse.map fun n => bindName env n) items.reverse) (fun _ => Q .next) E s₂) E s₁) E s)
    (hs : swapsWithSole [.Tuple elts k tpos] value pos.line env = pure false := by rfl) (hw : swappedStores [.Tuple elts k tpos] value env = pure (some names) := by rfl) :
    wpC (model prog w) A (exec (.Assign [.Tuple elts k tpos] value pos) env) Q E s := by
  rw [PyProof.Rows.exec_Assign]
  refine wpC_bind (wpC_standAt ?_)
  rw [hs]
  refine wpC_bind (wpC_pure ?_)
  rw [if_neg (by decide)]
  refine wpC_bind (wpC_mono h (fun v s₁ h₁ => ?_) fun _ _ x => x)
  rw [hw]
  refine wpC_bind (wpC_pure ?_)
  exact wpC_bind (wpC_any (wpAny_rule (wpC_bind (wpC_mono h₁ (fun items s₂ h₂ => wpC_bind (wpC_mono h₂ (fun _ _ q => wpC_pure q) fun _ _ x => x)) fun _ _ x => x))))
theorem k_items {t : Addr} {items : List Value} {n : Nat} {Q : List Value → Shared → Prop} (C : Cx H TB os (f :: R) fs s) (hm : (t, tupO items) ∈ fs) (hh : A.handled = none) (hn : n = items.length) (k : ∀ s', Cx H TB os (f :: R) fs s' → Q items s') : wpC (model prog w) A (unpackItems (.ref t) n none) Q E s := by
  have ht : s.heap.IsTuple t items.toArray := ⟨_, C.fact _ hm, rfl, _, rfl⟩
  rw [hn, ← List.size_toArray]
  exact wpC_any (wpAny_unpackItems_tuple hh ht fun h' he => k _ (C.keepF (fun b o e => he b o (Nat.ne_of_lt (Heap.lt_size e)) e) _))
theorem k_and {a b : Int} {t u : Tok} {Q : Value → Shared → Prop} (C : Cx H TB os fr fs s) (k : ∀ t' s', Cx H TB os fr fs s' → Q (.int (Builtin.bitAnd a b) t') s') : wpC (model prog w) A (binaryOp .BitAnd (.int a t) (.int b u)) Q E s := wpC_any (PyProof.Rows.and_int (k _ _ (C.tok _)))
theorem k_rshift {a n : Int} {t u : Tok} {Q : Value → Shared → Prop} (C : Cx H TB os fr fs s) (hn : 0 ≤ n) (k : ∀ t' s', Cx H TB os fr fs s' → Q (.int (a.fdiv (2 ^ n.toNat)) t') s') : wpC (model prog w) A (binaryOp .RShift (.int a t) (.int n u)) Q E s := wpC_any (PyProof.Rows.rshift_int hn (k _ _ (C.tok _)))
/-- a class's own value -/
theorem k_clsVal {Cc : Addr} {mc v : Value} {name : Str} {expr : Bool} {Q : Value → Shared → Prop} (G : Gd K H TB mg mb) (C : Cx H TB os fr fs s) (hr : readsIn K Cc mc = true) (e : findCls K (.ref Cc) mc name = some (.val v)) (hh : handedIn v = true) (k : ∀ s', Cx H TB os fr fs s' → Q v s') :
    wpC (model prog w) A (getAttr (.ref Cc) name expr) Q E s := wpC_any (cls_value (C.kin G) hr e hh (k _ (C.tok _)))
end
end Px
end

/- PxW -/
section
open PySem PySem.W PySem.Calls PyProof.Rows
set_option Elab.async false
set_option linter.unusedVariables false
set_option maxRecDepth 100000
set_option maxHeartbeats 4000000
namespace Px
section
variable {prog : Program} {w : World} {K : Frag} {H : Heap} {TB : List TabSpec} {os : OsState} {mg mb : Str → Option Value} {A : Around} {E : Value → Shared → Prop} {fr R : List Fm} {fs fs' F : Fct} {s : Shared} {f : Fm} {env : Env}
abbrev setO (zs : List (Int × Tok)) (ep : Nat) (t : SetTable) : Obj := ⟨.type "set", none, .set (zs.map fun z => (hashInt z.1, Value.int z.1 z.2)).toArray ep t, #[]⟩
theorem setOf_ints {h : Heap} {a : Addr} {zs : List (Int × Tok)} {ep : Nat} {t : SetTable} (ho : h.get? a = some (setO zs ep t)) (hf : t.fits zs.length = true) (hz : zs.length < scanBound) :
    h.SetOf (intKind prog w) a (fun k => (zs.map (·.1)).contains k) zs.length := by
  have e0 : (zs.map fun z => (hashInt z.1, Value.int z.1 z.2)).toArray.size = zs.length := by rw [List.size_toArray, List.length_map]
  refine ⟨_, _, ep, t, ho, ⟨rfl, rfl, rfl⟩, rfl, fun e he => ?_, fun k => ?_, by rw [e0]; exact hz, by rw [e0]; exact hf, e0⟩
  · obtain ⟨z, hz, rfl⟩ := List.mem_map.mp he
    exact ⟨⟨z.1, by simp [intKind, Value.isInt], rfl⟩, rfl⟩
  · rw [List.contains_iff_mem, List.mem_map]
    constructor
    · rintro ⟨z, hz, rfl⟩
      exact ⟨_, List.mem_map_of_mem hz, by simp [intKind, Value.isInt]⟩
    · rintro ⟨e, he, h⟩
      obtain ⟨z, hz, rfl⟩ := List.mem_map.mp he
      refine ⟨z, hz, ?_⟩
      simpa [intKind, Value.isInt] using h
theorem k_notIn {a : Addr} {zs : List (Int × Tok)} {ep : Nat} {t : SetTable} {z : Int} {u : Tok} {Q : Value → Shared → Prop} (G : Gd K H TB mg mb) (C : Cx H TB os fr fs s) (ho : K.lookup a = some (setO zs ep t)) (hf : t.fits zs.length = true) (hz : zs.length < scanBound)
    (k : ∀ s', Cx H TB os fr fs s' → Q (.bool (!(zs.map (·.1)).contains z)) s') : wpC (model prog w) A (compareOp .NotIn (.int z u) (.ref a)) Q E s :=
  wpC_any (wpAny_notInSet_of (knd := intKind prog w) (k := z) (by simp [intKind, Value.isInt]) rfl (setOf_ints (C.kin G _ _ ho) hf hz) (k _ (C.tok _)))
/-- int.from_bytes, bound -/
theorem k_getFB {pl : Sem Bool} {Q : Value × List Value → Shared → Prop} (G : Gd K H TB mg mb) (C : Cx H TB os fr fs s)
    (e : findCls K (.type "int") (.type "type") (PySem.Str.ofString "from_bytes") = some (.get (.builtin "classmethod_descriptor.__get__") (.builtin "int.from_bytes") .none (.type "int")))
    (k : ∀ x s', Cx H TB os fr ((x, fbO) :: fs) s' → Q (.ref x, []) s') : wpC (model prog w) A (getMethod (.type "int") (PySem.Str.ofString "from_bytes") pl) Q E s := by
  have X := C.kin G
  have hstub : opaqueClassAbove (.type "int") = pure none := by unfold opaqueClassAbove; dsimp only; rw [show Manifest.isStub "int" = false by decide +kernel]; rfl
  have ht : typeOf (.type "int") = pure (.type "type") := by first | rfl | kernel_rfl
  have L0 : Looks (model prog w) s.heap (typeOf (.type "int")) (.type "type") := Looks.of_pure ht
  have hg : findIn K (.type "type") "__getattribute__" = some (some (.builtin "type.__getattribute__")) := type_tga
  refine wpC_any ?_
  unfold getMethod specialOf
  refine wpAny_bind (wpAny_bind (L0.here ((looks_findIn X hg).here ?_)))
  dsimp only
  rw [if_pos canon_tga]
  refine wpAny_bind (wpAny_mono (Q := fun v => Q (v, [])) (E := E) ?_ (fun _ _ z => wpAny_pure z) fun _ _ z => z)
  have LO : Looks (model prog w) s.heap (opaqueClassAbove (.type "int")) none := Looks.of_pure hstub
  refine cls_open X LO L0 hg (looks_hook X (r := none) (by rfl)) (by show subIn K _ _ = _; rfl) e ?_
  show wpAny _ _ (holding [.builtin "int.from_bytes"] (call (.builtin "classmethod_descriptor.__get__") [.builtin "int.from_bytes", .none, .type "int"]) >>= fun v => ret v) _ _ _
  exact wpAny_bind (wpAny_holding (wpAny_call_entry KFB.slot_get KFB.type_fb KFB.entry_get (KFB.run_get ⟨_, rfl, wpAny_pure (wpAny_pure (k _ _ (C.push _ rfl _)))⟩) (KFB.args_get _ _ _)))
theorem keeps_B {x : Addr} (h : Heap) (X : h.get? x = some fbO) : ∃ k, (k = Keeper.frame ∨ k = Keeper.machine ∨ k = Keeper.boundFrame) ∧ Looks (model prog w) h (keeperOf (.ref x)) k := by
  refine ⟨.machine, .inr (.inl rfl), fun A Q E s hk q => ?_⟩
  unfold keeperOf
  refine wpAny_bind (wpAny_load (hk _ _ X) ?_)
  exact wpAny_pure q
theorem k_callB1 {pos : Pos} {x : Addr} {args : List Expr} {Q : Value → Shared → Prop}
    (h : wpC (model prog w) A (spliced (backTo pos (starEach args env))) (fun vs s₁ => s₁.heap.get? x = some fbO ∧ wpC (model prog w) A (call (.ref x) vs []) Q E s₁) E s)
    (hp : (backTo pos (starEach args env)).all (!·.1) = true := by rfl) : wpC (model prog w) A (callWith pos (.ref x) [] (backTo pos (starEach args env)) (backToKw pos (keywordEach [] env))) Q E s :=
  c_callWith (P := fun h => h.get? x = some fbO) hp rfl (fun h X => keeps_B h X) (wpC_mono h (fun vs s₁ h₁ => c_evNil h₁) fun _ _ x => x)
/-- a def object that was made on the way -/
theorem k_callO {pos : Pos} {f : Addr} {args : List Expr} {Q : Value → Shared → Prop}
    (h : wpC (model prog w) A (spliced (backTo pos (starEach args env))) (fun vs s₁ => FnAt f s₁.heap ∧ codeC (model prog w) A (.call (.ref f) ⟨vs, []⟩) (fun r s' => match r with | .ok (.ret v) => Q v s' | .ok _ => False | .error e => E e s') s₁) E s)
    (hp : (backTo pos (starEach args env)).all (!·.1) = true := by rfl) : wpC (model prog w) A (callWith pos (.ref f) [] (backTo pos (starEach args env)) (backToKw pos (keywordEach [] env))) Q E s :=
  c_callWith (P := FnAt f) hp rfl (fun h X => keeps_F h X) (wpC_mono h (fun vs s₁ h₁ => c_evNil ⟨h₁.1, wpC_call h₁.2⟩) fun _ _ x => x)
theorem k_truthyStr {x : Str} {t : Tok} {Q : Bool → Shared → Prop} (C : Cx H TB os fr fs s) (hz : x.length ≤ 16777216) (k : ∀ s', Cx H TB os fr fs s' → Q ((x.length : Int) != 0) s') : wpC (model prog w) A (truthy (.str x t)) Q E s :=
  wpC_any (PySem.P.truthy_str (by omega) (k _ (C.tok _)))
theorem Fly.forget {c' : Option Addr} {t : TabSpec} {cls : Value} {e : Addr} (F : Fly H ({ t with known := c' } :: TB) os fr fs cls e s) (ht : t.known = none) : Fly H (t :: TB) os fr fs cls e s := by
  obtain ⟨b, a, C, B, z⟩ := F
  refine ⟨b, a, C.forget ht, ⟨B.fact, B.old, fun t' h => ?_⟩, z⟩
  rcases List.mem_cons.mp h with rfl | h
  · obtain ⟨ps, e, r⟩ := B.tabs _ (.head _)
    exact ⟨ps, e, r.imp (fun ⟨a, _⟩ => ⟨a, ht⟩) fun ⟨cd, a1, a2, a3⟩ => ⟨cd, ⟨a1.1, .inl ht⟩, a2, a3⟩⟩
  · exact B.tabs t' (.tail _ h)
theorem nodup_getI {l : List Addr} (nd : l.Nodup) {i j : Nat} {x : Addr} (hi : l[i]? = some x) (hj : l[j]? = some x) : i = j := by
  obtain ⟨h1, e1⟩ := List.getElem?_eq_some_iff.mp hi
  obtain ⟨h2, e2⟩ := List.getElem?_eq_some_iff.mp hj
  exact (List.getElem_inj nd).mp (e1.trans e2.symm)
theorem Cx.ne {i j : Nat} {b c : Addr} {o o' : Obj} (C : Cx H TB os fr fs s) (hi : fs[i]? = some (b, o)) (hj : fs[j]? = some (c, o')) (hij : i ≠ j) : b ≠ c := by
  have nd := (List.nodup_append.mp C.nd).2.1
  intro e
  exact hij (nodup_getI nd (x := b) (by rw [List.getElem?_map, hi]; rfl) (by rw [List.getElem?_map, hj, e]; rfl))
/-- a property -/
theorem k_prop {x C_ dx p fget : Addr} {nm : List Str} {es : List DictEntry} {n : Nat} {us : List Value} {name : Str} {expr : Bool} {rest : List Value} {Q : Value → Shared → Prop} (G : Gd K H TB mg mb) (C : Cx H TB os fr fs s) (h1 : (x, instObj C_ dx) ∈ fs) (h2 : (dx, dictOf es n) ∈ fs)
    (c : ClsOk K C_ nm) (ha : findIn K (.ref C_) name = some (some (.ref p))) (hn : specialIn K (.ref p) "__get__" = some (some (.builtin "property.__get__"))) (ht : takesIn K (.ref p) = some true) (hp : recIn K p "property" = some (.ref fget :: rest))
    (h : ∀ s', Cx H TB os fr fs s' → codeAny (model prog w) A.in1 (.call (.ref fget) ⟨[.ref x], []⟩) (fun r s'' => ∃ v, r = .ok (.ret v) ∧ handedIn v = true ∧ Q v s'') s') : wpC (model prog w) A (getAttr (.ref x) name expr) Q E s := by
  refine wpC_any (get_bind (C.kin G) (C.inst h1 h2) (plainGet_of c.get).1 (findObj_data (by obtain ⟨cd, hc, _⟩ := any_some c.dict; rw [hc]; rfl) ha hn ht) (plainGet_of c.get).2 (wpAny_call (prop_get (s := { s with toks := s.toks + 1 }) (C.kin G) hp (codeAny_mono (h _ (C.tok _)) fun r s'' h' => ?_))))
  obtain ⟨v, rfl, h1, h2⟩ := h'
  exact wpAny_of_eq (handedOut_of h1) (h2)
end
end Px
end

/- PxZ -/
section
open PySem PySem.W PySem.Calls PyProof.Rows
set_option Elab.async false
set_option linter.unusedVariables false
set_option maxRecDepth 100000
set_option maxHeartbeats 4000000
namespace Px
section
variable {M : Model} {A : Around} {E : Value → Shared → Prop} {s : Shared} {env : Env}
theorem c_Assert {test : Expr} {pos : Pos} {Q : Flow → Shared → Prop} (h : wpC M A (isTrue test env (eval test env)) (fun b s₂ => b = true ∧ Q .next s₂) E s) :
    wpC M A (exec (.Assert test none pos) env) Q E s := by
  show wpC M A (do
    standAt pos
    if ← isTrue test env (eval test env) then pure .next else assertFails test.pos (evalOpt none env)) Q E s
  refine wpC_bind (wpC_standAt (wpC_bind (wpC_mono h (fun b s₂ h₂ => ?_) fun _ _ x => x)))
  obtain ⟨rfl, q⟩ := h₂
  exact wpC_pure q
end
end Px
end

/- PxI -/
section
open PySem PySem.W PySem.Calls PyProof.Rows
set_option Elab.async false
set_option linter.unusedVariables false
set_option maxRecDepth 100000
set_option maxHeartbeats 4000000
namespace Px
namespace Eof
theorem call : ExcCallFacts "EOFError" "EOFError.__new__" "EOFError.__init__" where
  ends := by decide +kernel
  owner := by decide +kernel
  entry := entryFor_alias (id' := "BaseException.__new__") (by rw [fastTable_eq_tree]; kernel_rfl) (by first | rfl | decide +kernel) (by decide +kernel) (by rw [fastTable_eq_tree]; kernel_rfl)
  sub := by rw [isSubtype_type]; kernel_rfl
  notAttr := by rw [isSubtype_type]; kernel_rfl
  notName := by rw [isSubtype_type]; kernel_rfl
  made := by kernel_rfl
  notType := by decide +kernel
  canMake := by kernel_rfl
  noVector := fun args => by kernel_rfl
  mro := ⟨[.type "EOFError", .type "Exception", .type "BaseException", .type "object"], by rw [mroOf_type]; kernel_rfl, rfl⟩
  madeBy := by kernel_rfl
  quiet := by decide +kernel
  newOk := fun rest => by kernel_rfl
  init := .of (owner := "EOFError") (n := "__init__") (by rw [typeLookup_type, builtinLookup_eq_fast]; kernel_rfl) (by decide +kernel) (by decide +kernel) (by decide +kernel)
    (by first | exact .inl (by decide +kernel) | exact .inr (by decide +kernel)) (by rw [isSubtype_type]; kernel_rfl)
  initEntry := entryFor_alias (id' := "BaseException.__init__") (by rw [fastTable_eq_tree]; kernel_rfl) (by first | rfl | decide +kernel) (by decide +kernel) (by rw [fastTable_eq_tree]; kernel_rfl)
  initSplit := by kernel_rfl
  initKind := by kernel_rfl
  initRow := by kernel_rfl
  noStar := by decide +kernel
theorem base : ExcBaseFacts "EOFError" "EOFError.__new__" "EOFError.__init__" [.type "EOFError", .type "Exception", .type "BaseException", .type "object"] where
  toExcCallFacts := call
  newSplit := by kernel_rfl
  newKind := by kernel_rfl
  newRow := by kernel_rfl
  mroIs := by rw [mroOf_type]; kernel_rfl
  hasB := by decide +kernel
  hasBase := by decide +kernel
  noAttr := by decide +kernel
  noName := by decide +kernel
  canon := by decide +kernel
end Eof
section
variable {prog : Program} {w : World} {A : Around} {E : Value → Shared → Prop} {env : Env} {h : Heap} {g : Array GenState} {d : Drawn} {t : Nat} {os : OsState}
variable {nm q : Str} {C N : Addr} {bs bm : List Value} {hdct : Bool} {sn : List Str} {sub : List Value} {ab : Bool} {col : Option Bool} {dd : Option Addr} {k0 k1 k2 k3 k5 : Option Value} {B newId initId : String}
theorem issub_own (hC : h.get? C = some (excClassObj nm q C N bs bm hdct sn sub ab col dd k0 k1 k2 k3 k5 newId)) {Q : Value → Shared → Prop} (hq : Q (.bool true) ⟨h, g, d, t, os⟩) :
    wpAny (model prog w) A (PySem.call (.builtin "issubclass") [.ref C, .ref C]) Q E ⟨h, g, d, t, os⟩ := by
  have hcC : (Value.ref C :: bm).contains (.ref C) = true := by simp
  refine call_issubclass (S := fun _ R s => s = ⟨h, g, d, t, os⟩ ∧ R (.ok (.ret (.bool true))) s) ?_ ⟨rfl, hq⟩
  rintro prog w A R s ⟨rfl, hs⟩
  refine issubclass_outer ?_
  have hT : (⟨h, g, d, t, os⟩ : Shared).TypeIs (.ref C) "type" := ⟨_, hC, rfl⟩
  repeat (any_goals (first | assumption | with_reducible refine wpAny_loadPart_at hC ?_ | (with_reducible refine wpAny_isSubtype_exc hC ?_; rw [hcC]) | wp_step))
theorem raise_own (Fb : ExcBaseFacts B newId initId bm) {mN : Str → Option Value} {s : Shared} {x : Str} {np pos : Pos} {Q : Flow → Shared → Prop} (hh : A.handled = none) (hni : mN "__init__" = none)
    (hx : wpC (model prog w) A (eval (.Name x np) env) (fun v s₁ => v = .ref C ∧ s₁.heap.get? C = some (excClassObj nm q C N bs bm hdct sn sub ab col dd k0 k1 k2 k3 k5 newId) ∧ s₁.heap.Ns N mN ∧ ∀ h' e, Heap.MadeExcOf s₁.heap h' e (.ref C) [] → E (.ref e) { s₁ with heap := h' }) E s) :
    wpC (model prog w) A (exec (.Raise (some (.Name x np)) none pos) env) Q E s := by
  have hcB : (Value.ref C :: bm).contains (.type "BaseException") = true := by rw [List.contains_cons, Fb.hasBase, Bool.or_true]
  show wpC (model prog w) A (do standAt pos; raiseStmt env (some (do let v ← eval (.Name x np) env; standAt pos; pure v)) none) Q E s
  refine wpC_bind (wpC_standAt ?_)
  unfold raiseStmt
  dsimp only
  refine wpC_bind (wpC_bind (wpC_mono hx (fun v s₁ h₁ => wpC_bind (wpC_standAt (wpC_pure (wpC_any ?_)))) fun _ _ e => e))
  obtain ⟨rfl, hC, hn, hE⟩ := h₁
  obtain ⟨hp, g, d, tk, os⟩ := s₁
  refine wpAny_bind (wpAny_pure ?_)
  dsimp only
  refine wpAny_bind (wpAny_holding ?_)
  unfold excFromValue isExcClass
  have ht : ∀ {hp' : Heap} {Q' : Bool → Shared → Prop}, hp'.get? C = some (excClassObj nm q C N bs bm hdct sn sub ab col dd k0 k1 k2 k3 k5 newId) → Q' true ⟨hp', g, d, tk, os⟩ → wpAny (model prog w) A (isType (.ref C)) Q' E ⟨hp', g, d, tk, os⟩ := by
    intro hp' Q' hC hq
    simp only [isType, loadHead]
    exact wpAny_bind (wpAny_loadPart_at hC (wpAny_pure hq))
  refine wpAny_bind (wpAny_bind (ht hC ?_))
  simp only [if_true]
  refine wpAny_isSubtype_exc hC ?_
  rw [hcB]
  simp only [if_true]
  refine wpAny_bind (wpAny_call_exc_sub Fb hC hn hni fun h' e hm => ?_)
  obtain ⟨t, he, _, _⟩ := hm.there
  have hC' := hm.keeps _ _ hC
  refine wpAny_bind ?_
  have hi : ∀ {Q' : Bool → Shared → Prop}, Q' true ⟨h', g, d, tk, os⟩ → wpAny (model prog w) A (isInstance (.ref e) (.type "BaseException")) Q' E ⟨h', g, d, tk, os⟩ := by
    intro Q' hq
    unfold isInstance
    repeat (first | exact hq | with_reducible refine wpAny_loadPart_at he ?_ | (with_reducible refine wpAny_isSubtype_exc hC' ?_; rw [hcB]) | wp_step)
  refine hi ?_
  simp only [Bool.not_true, Bool.false_eq_true, if_false]
  refine wpAny_pure ?_
  refine wpAny_bind (ht hC' ?_)
  simp only [if_true]
  refine wpAny_bind (wpAny_holding ?_)
  have hty : ∀ {Q' : Value → Shared → Prop}, Q' (.ref C) ⟨h', g, d, tk, os⟩ → wpAny (model prog w) A (typeOf (.ref e)) Q' E ⟨h', g, d, tk, os⟩ := by
    intro Q' hq
    repeat (first | exact hq | with_reducible refine wpAny_loadPart_at he ?_ | wp_step)
  unfold raisedFor
  rw [if_neg (by decide)]
  refine wpAny_bind (hty (wpAny_bind (issub_own hC' ?_)))
  refine wpAny_bind (wpAny_truthy_bool ?_)
  dsimp only
  rw [if_pos rfl]
  refine wpAny_pure ?_
  unfold setFlight raiseNew
  refine wpAny_bind (wpAny_bind (wpAny_field (i := 1) (x := Value.none) he rfl rfl ?_))
  rw [if_neg (by decide)]
  refine wpAny_pure (wpAny_bind (wpAny_handled ?_))
  rw [hh]
  first
    | exact wpAny_throw (hE h' e hm)
    | exact wpAny_bind (wpAny_pure (wpAny_throw (hE h' e hm)))
end
section
variable {M : Model} {prog : Program} {w : World} {H : Heap} {TB : List TabSpec} {os : OsState} {A : Around} {E : Value → Shared → Prop} {fr R : List Fm} {fs fs' F : Fct} {s : Shared} {f : Fm} {e : Addr} {cls : Value} {env : Env}
theorem madeOf_newX {h h' : Heap} {cls : Value} {args : List Value} (m : Heap.MadeExcOf h h' e cls args) : ∃ a0, NewX h h' e cls a0 := by
  obtain ⟨t, he, _, _⟩ := m.there
  exact ⟨.ref t, m.keeps, m.new, _, he, rfl, rfl⟩
theorem c_handleBy {e : Value} {t : Expr} {b₀ : Stmt} {suite : List Stmt} {pos : Pos} {rest : List ExceptHandler} {Q : Flow → Shared → Prop} (hnb : e ≠ byPass)
    (h : wpC (model prog w) (A.mark (some e)) (eval t env) (fun c s₁ => wpAny (model prog w) (A.mark (some e)) (excMatches e c) (fun b s₂ => b = true ∧
        wpAny (model prog w) (A.mark (some e)) (setFlight e none) (fun _ s₃ => wpC (model prog w) (A.mark (some e)) (execs (b₀ :: suite) env) Q (notedBy (model prog w) (A.mark (some e)) env (cameBackBy (model prog w) A env E)) s₃)
          (notedBy (model prog w) (A.mark (some e)) env (cameBackBy (model prog w) A env E)) s₂) (notedBy (model prog w) (A.mark (some e)) env (cameBackBy (model prog w) A env E)) s₁)
      (notedBy (model prog w) (A.mark (some e)) env (cameBackBy (model prog w) A env E)) s) :
    wpC (model prog w) A (handleBy e env (.ExceptHandler (some t) none (b₀ :: suite) pos :: rest)) Q E s := by
  rw [handleBy]
  have hnb' : (some e : Option Value) ≠ some byPass := fun x => hnb (Option.some.inj x)
  have h1 : codeC (model prog w) (A.mark (some e)) (.handlers e [.ExceptHandler (some t) none [] pos] env) (fun r s₁ => match r with
      | .ok .brk => codeC (model prog w) (A.mark (some e)) (.handlers e [.ExceptHandler none none (b₀ :: suite) pos] env) (fun r s₂ => match r with
          | .ok f => Q f s₂
          | .error x => cameBackBy (model prog w) A env E x s₂) s₁
      | .ok _ => False
      | .error x => cameBackBy (model prog w) A env E x s₁) s := by
    refine codeC_of_tree ?_
    show wpC _ (A.mark (some e)) (do return Fin.done (← (handleWith e env [.ExceptHandler (some t) none [] pos]).onRaise (fun x => do noteFrame x env; theTreesLotGoes x))) _ _ s
    refine wpC_bind (wpC_noted ?_)
    unfold handleWith
    refine wpC_bind (wpC_standAt (wpC_bind (wpC_mono h (fun c s₁ h₁ => wpC_bind (wpC_standAt (wpC_bind (wpC_mono (wpC_any h₁) (fun b s₂ h₂ => wpC_pure (wpC_pure ?_)) fun _ _ x => x)))) fun _ _ x => x)))
    obtain ⟨rfl, h₂⟩ := h₂
    refine codeC_of_tree ?_
    show wpC _ (A.mark (some e)) (do return Fin.done (← (handleWith e env [.ExceptHandler none none (b₀ :: suite) pos]).onRaise (fun x => do noteFrame x env; theTreesLotGoes x))) _ _ s₂
    refine wpC_bind (wpC_noted ?_)
    unfold handleWith
    exact wpC_bind (wpC_standAt (wpC_bind (wpC_mono (wpC_any h₂) (fun _ s₁ h₁ => wpC_mono h₁ (fun f s₂ h₂ => wpC_pure h₂) fun _ _ x => x) fun _ _ x => x)))
  refine wpC_bind (wpC_holding (wpC_runOwn (codeC_mono h1 (fun r s₁ h₁ => ?_)) hnb'))
  cases r with
  | error x => exact h₁
  | ok f =>
    cases f with
    | brk =>
      refine wpC_bind (wpC_pure ?_)
      simp only [Bool.not_true, Bool.false_eq_true, if_false]
      refine wpC_bind (wpC_holding (wpC_runOwn (codeC_mono h₁ (fun r s₂ h₂ => ?_)) hnb'))
      cases r with
      | error x => exact h₂
      | ok f => exact wpC_pure h₂
    | _ => exact h₁.elim
/-- an exception that lands in the frame's own clause -/
theorem c_caught {c : Value} {t : Expr} {b₀ : Stmt} {suite : List Stmt} {pos : Pos} {rest : List ExceptHandler} {Q : Flow → Shared → Prop} (F : Fly H TB os (f :: R) fs cls e s) (hfr : A.frames = some (f.env :: R.map (·.env)))
    (hm : ∀ s, Fly H TB os (f :: R) fs cls e s → ∀ (E' : Value → Shared → Prop) (Q : Bool → Shared → Prop), Q true s → wpAny (model prog w) (A.mark (some (.ref e))) (excMatches (.ref e) c) Q E' s)
    (hname : ∀ (E' : Value → Shared → Prop) s (Q' : Value → Shared → Prop), Cx H TB os (f :: R) fs s → Q' c s → wpC (model prog w) (A.mark (some (.ref e))) (eval t f.env) Q' E' s)
    (k : ∀ (E' : Value → Shared → Prop) s', Cx H TB os (f :: R) fs s' → wpC (model prog w) (A.mark (some (.ref e))) (execs (b₀ :: suite) f.env) Q E' s') :
    wpAny (model prog w) A (noteFrame (.ref e) f.env) (fun _ s₂ => wpAny (model prog w) A (setFlight (.ref e) none) (fun _ s₃ => wpC (model prog w) A (handleBy (.ref e) f.env (.ExceptHandler (some t) none (b₀ :: suite) pos :: rest)) Q E s₃) E s₂) E s := by
  refine fly_noteOn F hfr fun s1 F1 => fly_land F1 fun s2 F2 => ?_
  refine c_handleBy (by intro q; cases q) (hname _ _ _ F2.cx ?_)
  exact hm _ F2 _ _ ⟨rfl, fly_landAgain F2 fun s3 F3 => k _ _ F3.cx⟩
end
end Px
end

/- PxJ -/
section
open PySem PySem.W PySem.Calls PyProof.Rows
set_option Elab.async false
set_option linter.unusedVariables false
set_option maxRecDepth 100000
set_option maxHeartbeats 4000000
namespace Px
section
variable {M : Model} {A : Around} {E : Value → Shared → Prop} {s : Shared} {env : Env}
theorem a_one {st} {Q : Flow → Shared → Prop} (h : wpAny M A (exec st env) (fun f s' => Q f s') E s) : wpAny M A (execs [st] env) Q E s := by
  rw [execs_cons]
  refine wpAny_bind (wpAny_mono h (fun f s' h' => ?_) fun _ _ x => x)
  cases f <;> first | exact wpAny_pure h' | exact h'
theorem a_Return {e pos} {Q : Flow → Shared → Prop} (h : wpAny M A (eval e env) (fun v => Q (.ret v)) E s) : wpAny M A (exec (.Return (some e) pos) env) Q E s := by
  rw [exec_Return_some]
  exact wpAny_bind (wpAny_standAt (wpAny_bind (wpAny_mono h (fun _ _ q => wpAny_pure q) fun _ _ x => x)))
theorem a_bLast {x pos op} {Q : Value → Shared → Prop} (h : wpAny M A (eval x env) Q E s) : wpAny M A (boolOp pos op (evalEach [x] env)) Q E s := h
theorem a_bOr {x y rest pos} {Q : Value → Shared → Prop} (h : wpAny M A (eval x env) (fun v s₁ => wpAny M A (truthy v) (fun b s₂ => if b then Q v s₂ else wpAny M A (boolOp pos .Or (evalEach (y :: rest) env)) Q E s₂) E s₁) E s) :
    wpAny M A (boolOp pos .Or (evalEach (x :: y :: rest) env)) Q E s := by
  show wpAny M A (boolOp pos .Or (eval x env :: eval y env :: evalEach rest env)) Q E s
  unfold boolOp
  refine wpAny_bind (wpAny_mono h (fun v s₁ h₁ => wpAny_bind (wpAny_standAt (wpAny_bind (wpAny_holding (wpAny_mono h₁ (fun b s₂ h₂ => ?_) fun _ _ x => x))))) fun _ _ x => x)
  cases b
  · exact h₂
  · exact wpAny_pure h₂
theorem a_BoolOp {op xs pos} {Q : Value → Shared → Prop} (h : wpAny M A (boolOp pos op (evalEach xs env)) Q E s) : wpAny M A (eval (.BoolOp op xs pos) env) Q E s := h
theorem a_Not {e pos} {Q : Value → Shared → Prop} (h : wpAny M A (eval e env) (fun v s₁ => wpAny M A (truthy v) (fun b s₂ => Q (.bool (!b)) s₂) E s₁) E s) : wpAny M A (eval (.UnaryOp .Not e pos) env) Q E s := by
  show wpAny M A (do let v ← eval e env; standAt pos; holding [v] (unaryOp .Not v)) Q E s
  refine wpAny_bind (wpAny_mono h (fun v s₁ h₁ => wpAny_bind (wpAny_standAt (wpAny_holding ?_))) fun _ _ x => x)
  unfold unaryOp
  refine wpAny_holding ?_
  dsimp only
  rw [if_pos (by decide)]
  exact wpAny_bind (wpAny_mono h₁ (fun b s₂ h₂ => wpAny_pure h₂) fun _ _ x => x)
theorem k_unNot {v : Value} {Q : Value → Shared → Prop} (h : wpC M A (truthy v) (fun b s₂ => Q (.bool (!b)) s₂) E s) : wpC M A (unaryOp .Not v) Q E s := by
  unfold unaryOp
  refine wpC_holding ?_
  dsimp only
  rw [if_pos (by decide)]
  exact wpC_bind (wpC_mono h (fun b s₂ h₂ => wpC_pure h₂) fun _ _ x => x)
theorem a_Attr {prog : Program} {w : World} {value : Expr} {attr : Str} {pos : Pos} {Q : Value → Shared → Prop} (h : wpAny (model prog w) A (eval value env) (fun o s₁ => wpAny (model prog w) A (getAttr o attr true) Q E s₁) E s)
    (he : eval (.Attribute value attr pos) env = (do
      let o ← eval value env
      standAt pos.atName
      let r ← holding [o] (getAttr o attr true)
      letTemporaryGo value o r
      pure r) := by with_unfolding_all rfl) : wpAny (model prog w) A (eval (.Attribute value attr pos) env) Q E s := by
  rw [he]
  refine wpAny_bind (wpAny_mono h (fun o s₁ h₁ => ?_) fun _ _ x => x)
  refine wpAny_bind (wpAny_standAt (wpAny_bind (wpAny_holding (wpAny_mono h₁ (fun r s₂ h₂ => ?_) fun _ _ x => x))))
  exact wpAny_bind (wpAny_letTemporaryGo (wpAny_pure h₂))
theorem a_operate {vs : List Value} {m : Sem Value} {Q : Value → Shared → Prop} (h : wpAny M A m Q E s) : wpAny M A (operate vs m) Q E s := by
  unfold operate
  refine wpAny_bind (wpAny_holding (wpAny_mono h (fun r s₁ h₁ => ?_) fun _ _ x => x))
  exact wpAny_bind (wpAny_release' (wpAny_pure h₁))
theorem a_isNone {l : Expr} {k' : Nat} {p pos : Pos} {Q : Value → Shared → Prop} (h : wpAny M A (eval l env) (fun a s₁ => Q (.bool (a == .none)) s₁) E s) (hm : behindInMarks .Is (.Constant .none k' p) = false := by with_unfolding_all rfl) :
    wpAny M A (eval (.Compare l [.Is] [.Constant .none k' p] pos) env) Q E s := by
  rw [eval_Compare1, markedBehindIn_of_false hm]
  exact wpAny_bind (wpAny_mono h (fun a s₁ h₁ => wpAny_bind (wpAny_holding (wpAny_pure (wpAny_bind (wpAny_standAt (a_operate (is_none_gen h₁))))))) fun _ _ x => x)
end
end Px
end

/- PxK -/
section
open PySem PySem.W PySem.Calls PyProof.Rows
set_option Elab.async false
set_option linter.unusedVariables false
set_option maxRecDepth 100000
set_option maxHeartbeats 4000000
namespace Px
section
variable {prog : Program} {w : World} {K : Frag} {H : Heap} {TB : List TabSpec} {os : OsState} {mg mb : Str → Option Value} {A : Around} {E : Value → Shared → Prop} {fr R : List Fm} {fs fs' F : Fct} {s : Shared} {f : Fm} {env : Env}
/-- a fact's object turned in any way, and forgotten -/
theorem Cx.but {a : Addr} {o : Obj} (C : Cx H TB os fr ((a, o) :: fs) s) {h' : Heap} (hs : Heap.SameBut a s.heap h') : Cx H TB os fr fs { s with heap := h' } := by
  have kp : (keysOf fr ((a, o) :: fs)).Perm (a :: keysOf fr fs) := by unfold keysOf; rw [List.map_cons]; exact List.perm_middle
  have nd := kp.nodup_iff.mp C.nd
  have na : a ∉ keysOf fr fs := (List.nodup_cons.mp nd).1
  have hl := C.low a (kp.mem_iff.mpr (.head _))
  refine ⟨fun p hp => ?_, (List.nodup_cons.mp nd).2, fun b hb => C.low b (kp.mem_iff.mpr (.tail _ hb)), fun b o e hb => ?_, hs.1 ▸ C.size, fun f hf => ?_, fun t ht => ?_, C.tlow, C.gens, C.os⟩
  · exact (hs.2 p.1 fun e => na (e ▸ List.mem_append_right _ (List.mem_map_of_mem (f := (·.1)) hp))).trans (C.fact p (.tail _ hp))
  · exact (hs.2 b (Nat.ne_of_lt (Nat.lt_of_lt_of_le (Heap.lt_size e) hl))).trans (C.old b o e hb)
  · have x := C.frames f hf
    obtain ⟨m, hn, r⟩ := x.ns
    exact ⟨x.fr, x.lo, x.scp, x.good, x.gl, x.bl, m, hn.sameBut hs fun e => na (e ▸ List.mem_append_left _ (List.mem_map_of_mem hf)), r⟩
  · obtain ⟨ps, e, r⟩ := C.tabs t ht
    refine ⟨ps, (hs.2 _ (Nat.ne_of_lt (Nat.lt_of_lt_of_le (C.tlow t ht) hl))).trans e, r.imp id fun ⟨cd, a1, a2, a3⟩ => ⟨cd, a1, fun h => a2 (kp.mem_iff.mpr (.tail _ h)), ?_⟩⟩
    obtain ⟨c, oc, vs, tk, hcd, hget, q⟩ := a3
    cases hcd
    exact ⟨cd, oc, vs, tk, rfl, (hs.2 cd fun e => a2 (kp.mem_iff.mpr (e ▸ .head _))).trans hget, q⟩
abbrev rngO (n : Int) (t u v : Tok) : Obj := { cls := .type "range", data := .fields #[.int 0 t, .int n u, .int 1 v] }
theorem k_range1 {n : Int} {t : Tok} {Q : Value → Shared → Prop} (C : Cx H TB os fr fs s) (k : ∀ r t u v s', Cx H TB os fr ((r, rngO n t u v) :: fs) s' → Q (.ref r) s') : wpC (model prog w) A (call (.type "range") [.int n t]) Q E s :=
  wpC_any (call_range_1 (k _ _ _ _ _ (C.push _ rfl _)))
/-- what one turn of a comprehension gives -/
def Leaf (prog : Program) (w : World) (A : Around) (env : Env) (scope : Scope) (cl : List (Str × Addr)) (x : Str) (elt : Expr) (Pv : Nat → Value → Prop) (Fl : Value → Value → Prop) (fs : Fct) : Prop :=
  ∀ Cc i v s m (E' : Value → Shared → Prop), Pv i v → s.heap.Ns Cc m → m x = some v → (∀ p ∈ fs, s.heap.get? p.1 = some p.2) → wpAny (model prog w) A (eval elt (compEnvC scope cl Cc env)) (fun y s' => Fl v y ∧ Keeps s s') E' s
theorem paired_at {α β : Type} {F : α → β → Prop} {l₁ : List α} {l₂ : List β} (h : Paired F l₁ l₂) : ∀ (j : Nat) (y : β), l₂[j]? = some y → ∃ v, l₁[j]? = some v ∧ F v y := by
  induction h with
  | nil => intro j y e; cases e
  | @cons a b l₁ l₂ h _ ih =>
    intro j y e
    cases j with
    | zero => exact ⟨a, rfl, by simp at e; exact e ▸ h⟩
    | succ j => exact ih j y (by simpa using e)
theorem comp_block {elt iter : Expr} {x : Str} {px : Pos} {scope : Scope} {cl : List (Str × Addr)} {pos : Pos} {oI : Obj} {fp : List Addr} {n : Nat} {Pv : Nat → Value → Prop} {Fl : Value → Value → Prop} {St : Nat → Heap → Prop} {RR : Value → Addr → Result → Shared → Prop} {xv : Value} (C : Cx H TB os fr fs s)
    (W : Walks prog w A s.heap.objs.size fp [s.heap.objs.size] n Pv St) (hsz : n ≤ sizeLine) (hst : St 0 (s.heap.push oI)) (hfp : ∀ b ∈ fp, b ≤ s.heap.objs.size)
    (hiter : ∀ {Q E}, Q (.ref s.heap.objs.size) { s with heap := s.heap.push oI } → wpAny (model prog w) A (pyIter xv) Q E s)
    (hcell : ∀ y ∈ scope.names, y.2 ≠ .cell) (hkind : scope.kind = .function) (hx : scope.names.lookup x = some .local) (hleaf : Leaf prog w A env scope cl x elt Pv Fl fs)
    (k : ∀ D ys n' Cc oC s' m, ys.length = n → (∀ (j : Nat) y, ys[j]? = some y → ∃ v, Pv j v ∧ Fl v y) → s'.heap.Ns Cc m → Cx H TB os fr ((Cc, oC) :: (D, lstO ys n') :: fs) s' → RR (.ref D) Cc (.ok .next) s') :
    wpAny (model prog w) A (pyIter xv) (fun it s₂ => wpAny (model prog w) A (newList []) (fun acc s₃ => wpAny (model prog w) A (newFunctionEnv scope env.globals cl [] env.qual none .none (some env)) (fun cenv s₄ =>
      codeAny (model prog w) A (.compStart (.ListComp elt [⟨.Name x px, iter, [], 0⟩] scope pos) 0 it acc { cenv with scope := relabel scope env }) (RR acc cenv.locals) s₄) E s₃) E s₂) E s := by
  refine hiter ?_
  generalize hH0 : s.heap.push oI = H0 at hst ⊢
  have z0 : H0.objs.size = s.heap.objs.size + 1 := by rw [← hH0, Heap.size_push]
  have up0 : ∀ b o, s.heap.get? b = some o → H0.get? b = some o := fun b o e => hH0 ▸ Heap.get?_push_of_some _ e
  refine wpAny_newObj_type (wpAny_newFunctionEnv hcell (by intro y hy; simp at hy) (fun h₁ hns₁ hsb₁ => ?_) hkind)
  dsimp only at hns₁ hsb₁ ⊢
  generalize hH2 : H0.push { cls := .type "list", dict := none, data := .seq ([] : List Value).toArray } = H2 at hns₁ hsb₁ ⊢
  have z2 : H2.objs.size = s.heap.objs.size + 2 := by rw [← hH2, Heap.size_push, z0]
  have up2 : ∀ b o, H0.get? b = some o → h₁.get? b = some o := fun b o e => hsb₁.extBut b o (by rw [z2]; have := Heap.lt_size e; rw [z0] at this; exact Nat.ne_of_lt (Nat.lt_of_lt_of_le this (Nat.le_succ _))) (Heap.get?_push_of_some _ (hH2 ▸ Heap.get?_push_of_some _ e))
  have hD : h₁.get? H0.objs.size = some { cls := .type "list", dict := none, data := .seq ([] : List Value).toArray } := hsb₁.extBut _ _ (by rw [z0, z2]; exact Nat.ne_of_lt (Nat.lt_succ_self _)) (Heap.get?_push_of_some _ (hH2 ▸ Heap.get?_push_size _ rfl))
  have hst1 : St 0 h₁ := W.frame _ _ _ hst fun b _ o e => up2 b o e
  have hDf : H0.objs.size ∉ fp := fun h => by have := hfp _ h; rw [z0] at this; exact absurd this (Nat.not_succ_le_self _)
  have hCf : H2.objs.size ∉ fp := fun h => by have := hfp _ h; rw [z2] at this; exact absurd (Nat.le_of_succ_le this) (Nat.not_succ_le_self _)
  have below : ∀ b o, s.heap.get? b = some o → b ≠ H2.objs.size ∧ b ∉ [s.heap.objs.size] ∧ b ≠ H0.objs.size := fun b o e => by
    have := Heap.lt_size e
    refine ⟨?_, fun h => ?_, ?_⟩
    · rw [z2]; exact Nat.ne_of_lt (Nat.lt_of_lt_of_le this (by omega))
    · rw [List.mem_singleton.mp h] at this; exact Nat.lt_irrefl _ this
    · rw [z0]; exact Nat.ne_of_lt (Nat.lt_succ_of_lt this)
  have loop : codeAny (model prog w) A (.compLoop (.ListComp elt [⟨.Name x px, iter, [], 0⟩] scope pos) 0 (.ref s.heap.objs.size) (.ref H0.objs.size) (compEnvC scope cl H2.objs.size env)) (RR (.ref H0.objs.size) H2.objs.size) { s with heap := h₁, toks := s.toks + ([] : List (Str × Value)).length } := by
    refine codeAny_compLoop_walk (hsz := hsz) (cenv := compEnvC scope cl H2.objs.size env) W (fun _ => true) Fl (lookup_relabel_local hx) (by simp [compEnvC, relabel, hkind]) (show H0.objs.size ≠ H2.objs.size by rw [z0, z2]; exact Nat.ne_of_lt (Nat.lt_succ_self _)) hDf hCf hst1 ⟨_, hD⟩ hns₁
      (fun i v s₂ m₂ _ _ _ _ _ => wpAny_pure ⟨rfl, _, _, rfl, fun _ _ e => e⟩) (fun i v s₂ m₂ hv _ hn hm hk _ => hleaf _ i v s₂ m₂ _ hv hn hm fun p hp => ?_) fun h' tk m' ys vs hn hl hpl hlen hP hF hk => ?_
    · obtain ⟨a1, a2, a3⟩ := below _ _ (C.fact p hp)
      exact hk _ _ a1 a2 a3 (up2 _ _ (up0 _ _ (C.fact p hp)))
    · have keep : ∀ b o, s.heap.get? b = some o → h'.get? b = some o := fun b o e => by
        obtain ⟨a1, a2, a3⟩ := below b o e
        exact hk b o a1 a2 a3 (up2 b o (up0 b o e))
      obtain ⟨oC, hoC, _⟩ := LCg.ns_obj hn
      obtain ⟨n', hD'⟩ := hpl
      have hsC := Heap.lt_size hoC
      change H2.objs.size < h'.objs.size at hsC
      have c1 := C.more (g' := s.gens) keep (by rw [z2] at hsC; omega) tk C.gens (a := H0.objs.size) (by rw [z0]; exact Nat.le_succ _) hD'
      have key : H2.objs.size ∉ keysOf fr ((H0.objs.size, { cls := .type "list", data := .seq ys n' }) :: fs) := fun h => by
        unfold keysOf at h
        rw [List.map_cons] at h
        rcases List.mem_cons.mp (List.perm_middle.mem_iff.mp h) with h | h
        · dsimp only at h; rw [z0, z2] at h; exact absurd (show (s.heap.objs.size + 2 : Nat) = s.heap.objs.size + 1 from h) (by omega)
        · have := C.lt h; rw [z2] at this; exact absurd (show (s.heap.objs.size + 2 : Nat) < s.heap.objs.size from this) (by omega)
      have c2 : Cx H TB os fr ((H2.objs.size, oC) :: (H0.objs.size, { cls := .type "list", data := .seq ys n' }) :: fs) { s with heap := h', toks := tk } := by
        have kp : (keysOf fr ((H2.objs.size, oC) :: (H0.objs.size, { cls := .type "list", data := .seq ys n' }) :: fs)).Perm (H2.objs.size :: keysOf fr ((H0.objs.size, { cls := .type "list", data := .seq ys n' }) :: fs)) := by unfold keysOf; rw [List.map_cons]; exact List.perm_middle
        refine ⟨fun p hp => ?_, kp.nodup_iff.mpr (List.nodup_cons.mpr ⟨key, c1.nd⟩), fun b hb => ?_, c1.old, c1.size, c1.frames, fun t ht => ?_, C.tlow, C.gens, C.os⟩
        · rcases List.mem_cons.mp hp with rfl | hp
          · exact hoC
          · exact c1.fact p hp
        · rcases List.mem_cons.mp (kp.mem_iff.mp hb) with rfl | hb
          · have := C.size; rw [z2]; exact Nat.le_trans this (by omega)
          · exact c1.low b hb
        · obtain ⟨ps, e, r⟩ := C.tabs t ht
          obtain ⟨ps2, e2, r2⟩ := c1.tabs t ht
          refine ⟨ps, keep _ _ e, r.imp id fun ⟨cd, a1, a2, a3⟩ => ⟨cd, a1, fun hm => ?_, a3.keeps keep⟩⟩
          have hlt : (cd : Nat) < s.heap.objs.size := by
            obtain ⟨c, oc, vs, tk, hcd, hget, _⟩ := a3
            cases hcd
            exact Heap.lt_size hget
          rcases List.mem_cons.mp (kp.mem_iff.mp hm) with h | h
          · rw [z2] at h; rw [h] at hlt; exact absurd hlt (Nat.not_lt.mpr (Nat.le_add_right _ _))
          · unfold keysOf at h
            rw [List.map_cons] at h
            rcases List.mem_cons.mp (List.perm_middle.mem_iff.mp h) with h | h
            · dsimp only at h; rw [z0] at h; rw [h] at hlt; exact absurd hlt (Nat.not_lt.mpr (Nat.le_add_right _ _))
            · exact a2 h
      have hz : (vs.filter fun _ => true) = vs := by simp
      rw [hz] at hF
      have hl2 := hF.length
      have hlen2 : ys.toList.length = n := hl2.symm.trans hlen
      have hall : ∀ (j : Nat) y, ys.toList[j]? = some y → ∃ v, Pv j v ∧ Fl v y := fun j y e => by
        obtain ⟨v, e1, e2⟩ := paired_at hF j y e
        exact ⟨v, hP j v e1, e2⟩
      have ey : ys = ys.toList.toArray := by simp
      rw [ey] at c2
      exact k _ _ n' _ oC _ m' hlen2 hall hn c2
  exact codeAny_compStart_list loop (W.self 0 _ _ _ hst1 loop)
theorem c_ListComp {elt iter target : Expr} {scope : Scope} {cl : List (Str × Addr)} {pos : Pos} {Q : Value → Shared → Prop} (hclos : closureFor scope env = pure cl) (hkind : scope.kind = .function) (hnames : ∀ y ∈ scope.names, y.2 = .local → scope.names.lookup y.1 = some .local)
    (h : wpC (model prog w) A (eval iter env) (fun xv s₁ => wpAny (model prog w) A (pyIter xv) (fun it s₂ => wpAny (model prog w) A (newList []) (fun acc s₃ => wpAny (model prog w) A (newFunctionEnv scope env.globals cl [] env.qual none .none (some env)) (fun cenv s₄ =>
      codeAny (model prog w) A (.compStart (.ListComp elt [⟨target, iter, [], 0⟩] scope pos) 0 it acc { cenv with scope := relabel scope env }) (compPost (model prog w) A E none Q acc cenv.locals) s₄) E s₃) E s₂) E s₁) E s)
    (hs : ∀ x, foldedSetIterable iter env x = pure x := by intro _; rfl) : wpC (model prog w) A (eval (.ListComp elt [⟨target, iter, [], 0⟩] scope pos) env) Q E s := by
  rw [eval_ListComp]
  have e : comprehension (.ListComp elt [⟨target, iter, [], 0⟩] scope pos) scope env (firstIterPos [⟨target, iter, [], 0⟩] pos) (newList []) (firstAsync [⟨target, iter, [], 0⟩]) (firstIter [⟨target, iter, [], 0⟩] env) =
      eval iter env >>= fun xv => comprehension (.ListComp elt [⟨target, iter, [], 0⟩] scope pos) scope env (firstIterPos [⟨target, iter, [], 0⟩] pos) (newList []) false (pure xv) := by
    unfold comprehension
    simp only [pure_bind]
    rfl
  rw [e]
  exact wpC_bind (wpC_mono h (fun xv s₁ h₁ => wpC_any (wpAny_comprehension_free (use := none) rfl hs hclos hkind hnames (wpAny_pure h₁))) fun _ _ x => x)
theorem c_AssignComp {elt iter target : Expr} {y : Str} {py : Pos} {scope : Scope} {cl : List (Str × Addr)} {pos spos : Pos} {Q : Flow → Shared → Prop} (hsw : swapsWith (.ListComp elt [⟨target, iter, [], 0⟩] scope pos) (some (.Name y py)) spos.line env = pure true)
    (hclos : closureFor scope env = pure cl) (hkind : scope.kind = .function) (hnames : ∀ y ∈ scope.names, y.2 = .local → scope.names.lookup y.1 = some .local)
    (h : wpC (model prog w) A (eval iter env) (fun xv s₁ => wpAny (model prog w) A (pyIter xv) (fun it s₂ => wpAny (model prog w) A (newList []) (fun acc s₃ => wpAny (model prog w) A (newFunctionEnv scope env.globals cl [] env.qual none .none (some env)) (fun cenv s₄ =>
      codeAny (model prog w) A (.compStart (.ListComp elt [⟨target, iter, [], 0⟩] scope pos) 0 it acc { cenv with scope := relabel scope env }) (compPost (model prog w) A E (some (assign (.Name y py) env)) (fun _ => Q .next) acc cenv.locals) s₄) E s₃) E s₂) E s₁) E s)
    (hs : ∀ x, foldedSetIterable iter env x = pure x := by intro _; rfl) : wpC (model prog w) A (exec (.Assign [.Name y py] (.ListComp elt [⟨target, iter, [], 0⟩] scope pos) spos) env) Q E s := by
  rw [exec_Assign_Name_used _ _ _ _ hsw]
  have e : evalThenUse (.ListComp elt [⟨target, iter, [], 0⟩] scope pos) env (assign (.Name y py) env) =
      eval iter env >>= fun xv => (do let _ ← comprehension (.ListComp elt [⟨target, iter, [], 0⟩] scope pos) scope env (firstIterPos [⟨target, iter, [], 0⟩] pos) (newList []) false (pure xv) (some (assign (.Name y py) env))) := by
    show (do let _ ← comprehension (.ListComp elt [⟨target, iter, [], 0⟩] scope pos) scope env (firstIterPos [⟨target, iter, [], 0⟩] pos) (newList []) false (eval iter env) (some (assign (.Name y py) env))) = _
    unfold comprehension
    simp only [pure_bind, bind_assoc]
  rw [e]
  exact wpC_bind (wpC_standAt (wpC_bind (wpC_bind (wpC_mono h (fun xv s₁ h₁ => wpC_bind (wpC_any (wpAny_mono (wpAny_comprehension_free (use := some (assign (.Name y py) env)) (Q := fun _ => Q .next) rfl hs hclos hkind hnames (wpAny_pure h₁)) (fun _ _ q => wpC_pure (wpC_pure q)) fun _ _ x => x))) fun _ _ x => x))))
/-- over a range -/
theorem k_lcRange {elt iter : Expr} {x : Str} {px : Pos} {scope : Scope} {cl : List (Str × Addr)} {pos : Pos} {n : Nat} {t u v : Tok} {r : Addr} {Fl : Value → Value → Prop} {RR : Value → Addr → Result → Shared → Prop} (C : Cx H TB os fr fs s) (hm : (r, rngO n t u v) ∈ fs) (hh : A.handled = none) (hz : n ≤ 100000)
    (hcell : ∀ y ∈ scope.names, y.2 ≠ .cell) (hkind : scope.kind = .function) (hx : scope.names.lookup x = some .local) (hleaf : Leaf prog w A env scope cl x elt (fun i v => i < n ∧ ∃ t, v = .int (i : Int) t) Fl fs)
    (k : ∀ D ys n' Cc oC s' m, ys.length = n → (∀ (j : Nat) y, ys[j]? = some y → ∃ t, Fl (.int j t) y) → s'.heap.Ns Cc m → Cx H TB os fr ((Cc, oC) :: (D, lstO ys n') :: fs) s' → RR (.ref D) Cc (.ok .next) s') :
    wpAny (model prog w) A (pyIter (.ref r)) (fun it s₂ => wpAny (model prog w) A (newList []) (fun acc s₃ => wpAny (model prog w) A (newFunctionEnv scope env.globals cl [] env.qual none .none (some env)) (fun cenv s₄ =>
      codeAny (model prog w) A (.compStart (.ListComp elt [⟨.Name x px, iter, [], 0⟩] scope pos) 0 it acc { cenv with scope := relabel scope env }) (RR acc cenv.locals) s₄) E s₃) E s₂) E s := by
  have hr : IsRange s.heap r 0 (n : Int) 1 t u v := C.fact _ hm
  have e0 : Builtin.Range.rangeSize 0 (n : Int) 1 = n := by rw [rangeSize_one]; split <;> omega
  refine comp_block (oI := { cls := .type "range_iterator", data := .fields #[rawInt 0, rawInt n, rawInt 1] }) C (Walks.range hh s.heap.objs.size 0 1 n).bound (by rw [sizeLine_eq]; omega) ?_ (fun b hb => Nat.le_of_eq (List.mem_singleton.mp hb)) (fun {Q E} q => wpAny_pyIter_range hr (small_one (by decide) (by decide) (by omega) (by omega)) (by rw [e0]; exact q))
    hcell hkind hx (Fl := Fl) (fun Cc i v s m E' hP => hleaf Cc i v s m E' ?_) fun D ys n' Cc oC s' m hl hy hn C => k D ys n' Cc oC s' m hl (fun j y e => ?_) hn C
  · show IsRangeIter _ _ _ _ _
    simpa using Heap.get?_push_size _ rfl
  · obtain ⟨hi, t, e⟩ := hP; exact ⟨hi, t, by rw [e, Int.zero_add, Int.mul_one]⟩
  · obtain ⟨v, ⟨_, t, rfl⟩, q⟩ := hy j y e
    rw [Int.zero_add, Int.mul_one] at q
    exact ⟨t, q⟩
/-- over a tuple -/
theorem k_lcTup {elt iter : Expr} {x : Str} {px : Pos} {scope : Scope} {cl : List (Str × Addr)} {pos : Pos} {items : List Value} {r : Addr} {Fl : Value → Value → Prop} {RR : Value → Addr → Result → Shared → Prop} (C : Cx H TB os fr fs s) (hm : (r, tupO items) ∈ fs) (hh : A.handled = none) (hz : items.length ≤ 100000)
    (hcell : ∀ y ∈ scope.names, y.2 ≠ .cell) (hkind : scope.kind = .function) (hx : scope.names.lookup x = some .local) (hleaf : Leaf prog w A env scope cl x elt (fun i v => items[i]? = some v) Fl fs)
    (k : ∀ D ys n' Cc oC s' m, ys.length = items.length → (∀ (j : Nat) y, ys[j]? = some y → ∃ v, items[j]? = some v ∧ Fl v y) → s'.heap.Ns Cc m → Cx H TB os fr ((Cc, oC) :: (D, lstO ys n') :: fs) s' → RR (.ref D) Cc (.ok .next) s') :
    wpAny (model prog w) A (pyIter (.ref r)) (fun it s₂ => wpAny (model prog w) A (newList []) (fun acc s₃ => wpAny (model prog w) A (newFunctionEnv scope env.globals cl [] env.qual none .none (some env)) (fun cenv s₄ =>
      codeAny (model prog w) A (.compStart (.ListComp elt [⟨.Name x px, iter, [], 0⟩] scope pos) 0 it acc { cenv with scope := relabel scope env }) (RR acc cenv.locals) s₄) E s₃) E s₂) E s := by
  have ht : s.heap.IsTuple r items.toArray := ⟨_, C.fact _ hm, rfl, _, rfl⟩
  have hlt := Heap.lt_size (C.fact _ hm)
  dsimp only at hlt
  have W := Walks.tuple (prog := prog) (w := w) (A := A) hh s.heap.objs.size r (Nat.ne_of_lt hlt) items.toArray
  refine comp_block (oI := { cls := .type "tuple_iterator", data := .fields #[.ref r, .int 0 0] }) C W (by rw [sizeLine_eq, List.size_toArray]; omega) ⟨⟨_, Heap.get?_push_size _ rfl, rfl, rfl⟩, ht.push _⟩ (fun b hb => ?_) (fun {Q E} q => wpAny_pyIter_tuple ht q)
    hcell hkind hx (Fl := Fl) (fun Cc i v s m E' hP => hleaf Cc i v s m E' (by simpa using hP)) fun D ys n' Cc oC s' m hl hy hn C => k D ys n' Cc oC s' m (by simpa using hl) (fun j y e => ?_) hn C
  · rcases List.mem_cons.mp hb with rfl | hb
    · exact Nat.le_refl _
    · rw [List.mem_singleton.mp hb]; exact Nat.le_of_lt hlt
  · obtain ⟨v, q1, q2⟩ := hy j y e
    exact ⟨v, by simpa using q1, q2⟩
theorem lc_value {D Cc : Addr} {ys : List Value} {n' : Nat} {oC : Obj} {m : Str → Option Value} {Q : Value → Shared → Prop} (C : Cx H TB os fr ((Cc, oC) :: (D, lstO ys n') :: fs) s) (hn : s.heap.Ns Cc m) (k : ∀ s', Cx H TB os fr ((D, lstO ys n') :: fs) s' → Q (.ref D) s') :
    compPost (model prog w) A E none Q (.ref D) Cc (.ok .next) s := ⟨m, hn, fun h' hs => k _ (C.but hs)⟩
theorem lc_stored {D Cc L : Addr} {sc : Sc} {vs vs' : List (Option Value)} {nm : List Str} {ys : List Value} {n' : Nat} {oC : Obj} {m : Str → Option Value} {y : Str} {py : Pos} {Q : Shared → Prop} (C : Cx H TB os (⟨sc, env, L, vs⟩ :: R) ((Cc, oC) :: (D, lstO ys n') :: fs) s) (hN : sc.nm = nm) (hs : SAt (.ref D) nm vs y vs') (hn : s.heap.Ns Cc m)
    (k : ∀ s', Cx H TB os (⟨sc, env, L, vs'⟩ :: R) ((D, lstO ys n') :: fs) s' → Q s') : compPost (model prog w) A E (some (assign (.Name y py) env)) (fun _ => Q) (.ref D) Cc (.ok .next) s := by
  show wpAny _ _ _ _ _ _
  obtain ⟨i, e1, e2⟩ := hs.get
  obtain ⟨rfl, e3⟩ := e2.eq
  have h0 := C.fact _ (.head _)
  refine wpAny_assign_Name (r_store C i (by rw [hN]; exact e1) e3 fun s' C' => ⟨m, hn.at' fun o e => ?_, fun h' hs => k _ (C'.but hs)⟩)
  rw [h0] at e
  cases e
  exact C'.fact _ (.head _)
end
end Px
end

/- PxL -/
section
open PySem PySem.W PySem.Calls PyProof.Rows
set_option Elab.async false
set_option linter.unusedVariables false
set_option maxRecDepth 100000
set_option maxHeartbeats 4000000
namespace Px
theorem bits_small {b : Int} (h : b.natAbs < 2 ^ 63) : Builtin.Int.intBits b ≤ 64 := by
  unfold Builtin.Int.intBits
  split
  · exact Nat.zero_le _
  · rename_i hb
    have hb : b.natAbs ≠ 0 := by intro e; apply hb; have := Int.natAbs_eq_zero.mp e; rw [this]; rfl
    have := (Nat.log2_lt hb).mpr h
    omega
theorem seqIdx {j n : Nat} (h : j < n) : seqIndex? (j : Int) n = some j := by
  unfold seqIndex?
  simp; omega
theorem ints_of {m : Nat} : ∀ {ys : List Value}, (∀ (j : Nat) y, ys[j]? = some y → ∃ (z : Nat) (t : Tok), y = .int z t ∧ z < m) → ∃ ns : List Int, IntsAre ys ns ∧ ns.length = ys.length ∧ ∀ n ∈ ns, 0 ≤ n ∧ n < m
  | [], _ => ⟨[], .nil, rfl, fun _ h => nomatch h⟩
  | y :: ys, h => by
    obtain ⟨z, t, rfl, hz⟩ := h 0 y rfl
    obtain ⟨ns, h1, h2, h3⟩ := ints_of (m := m) (ys := ys) fun j y' e => h (j + 1) y' e
    refine ⟨(z : Int) :: ns, .cons _ _ h1, by rw [List.length_cons, List.length_cons, h2], fun n hn => ?_⟩
    rcases List.mem_cons.mp hn with rfl | hn
    · exact ⟨Int.natCast_nonneg z, by omega⟩
    · exact h3 n hn
theorem ints_at : ∀ {vs : List Value} {ns : List Int} {i : Nat}, IntsAre vs ns → i < vs.length → ∃ z t, vs[i]? = some (.int z t)
  | _, _, 0, .cons n t h, _ => ⟨n, t, rfl⟩
  | _ :: _, _ :: _, i + 1, .cons n t h, hi => ints_at (i := i) h (Nat.lt_of_succ_lt_succ hi)
theorem ints_set : ∀ {vs : List Value} {ns : List Int} {i : Nat} {z : Int} {t : Tok}, IntsAre vs ns → IntsAre (vs.set i (.int z t)) (ns.set i z)
  | _, _, _, _, _, .nil => .nil
  | _, _, 0, _, _, .cons n t h => .cons _ _ h
  | _, _, i + 1, _, _, .cons n t h => .cons _ _ (ints_set h)
section
variable {prog : Program} {w : World} {K : Frag} {H : Heap} {TB : List TabSpec} {os : OsState} {mg mb : Str → Option Value} {A : Around} {E : Value → Shared → Prop} {fr R : List Fm} {fs fs' F : Fct} {s : Shared} {f : Fm} {env : Env}
theorem k_fdiv {a b : Int} {t u : Tok} {Q : Value → Shared → Prop} (C : Cx H TB os fr fs s) (hb : b ≠ 0) (hl : b.natAbs < 1073741824) (k : ∀ t' s', Cx H TB os fr fs s' → Q (.int (a.fdiv b) t') s') : wpC (model prog w) A (binaryOp .FloorDiv (.int a t) (.int b u)) Q E s :=
  wpC_any (PyProof.Rows.floordiv_int hb (k _ _ (C.tok _)) (.inl (PyProof.noPylong_small hl)))
theorem k_mulL {a b : Int} {t u : Tok} {Q : Value → Shared → Prop} (C : Cx H TB os fr fs s) (hm : a.natAbs < 2 ^ 63) (k : ∀ t' s', Cx H TB os fr fs s' → Q (.int (a * b) t') s') : wpC (model prog w) A (binaryOp .Mult (.int a t) (.int b u)) Q E s :=
  k_mul C (.of_left (bits_small hm)) k
theorem k_itemTup {value slice : Expr} {l : Addr} {vs : List Value} {u : Tok} {i : Nat} {v : Value} {Q : Value → Shared → Prop} (hg : s.heap.get? l = some (tupO vs)) (hi : vs[i]? = some v) (hz : vs.length ≤ 16777216) (k : Q v s)
    (hs : subscripted slice false (.ref l) (.int i u) = operate [.ref l, .int i u] (getItem (.ref l) (.int i u)) := by with_unfolding_all rfl) : wpC (model prog w) A (subscriptTail value slice (.ref l) (.int i u)) Q E s := by
  have hi' := (List.getElem?_eq_some_iff.mp hi).1
  have ht : IsTup s.heap l vs.toArray := ⟨_, hg, rfl, _, rfl⟩
  exact wpC_any (subscriptTail_any ht.typeIs slot_tuple_getitem.lookup (getItem_tuple ht (by omega) (by omega) (by rw [List.size_toArray]; exact seqIdx hi') (by simpa using hi) k) hs)
theorem k_setItem {l : Addr} {vs : List Value} {o : Obj} {u : Tok} {i : Nat} {v : Value} {g : Obj → Fct} {Q : Unit → Shared → Prop} (C : Cx H TB os fr fs s) (U : ∀ o', Upd l o o' fs (g o')) (ho : o.cls = .type "list" ∧ ∃ n, o.data = .seq vs.toArray n) (hi : i < vs.length) (hz : vs.length ≤ 16777216)
    (k : ∀ o' s', (o'.cls = .type "list" ∧ ∃ n, o'.data = .seq (vs.set i v).toArray n) → Cx H TB os fr (g o') s' → Q () s') : wpC (model prog w) A (setItem (.ref l) (.int i u) v) Q E s := by
  have hl : s.heap.IsList l vs.toArray := ⟨_, C.fact _ (U o).mem, ho⟩
  refine wpC_any (wpAny_setItem_list hl (Int.natCast_nonneg i) (by omega) (by rw [List.size_toArray]; omega) fun h' hl' hs => ?_)
  obtain ⟨o', e, hc, n, hd⟩ := hl'
  have hd' : o'.data = .seq (vs.set i v).toArray n := by rw [hd]; simp
  exact k o' _ ⟨hc, n, hd'⟩ (C.upd (U o') hs e s.toks)
theorem k_bytesList {l : Addr} {vs : List Value} {ns : List Int} {o : Obj} {Q : Value → Shared → Prop} (C : Cx H TB os (f :: R) fs s) (hm : (l, o) ∈ fs) (ho : o.cls = .type "list" ∧ ∃ n, o.data = .seq vs.toArray n) (hi : IntsAre vs ns) (hr : ∀ n ∈ ns, 0 ≤ n ∧ n < 256) (hz : vs.length ≤ 16777216) (hh : A.handled = none)
    (k : ∀ t s', Cx H TB os (f :: R) fs s' → Q (.bytes (ns.map fun n => n.toNat.toUInt8).toArray t) s') : wpC (model prog w) A (call (.type "bytes") [.ref l]) Q E s :=
  wpC_any (call_bytes_ints ⟨_, C.fact _ hm, ho⟩ hi hr (by rw [sizeLine_eq]; omega) hh fun h' t k' hk => k _ _ (C.keepF hk _))
theorem k_cellStore {sc : Sc} {L c : Addr} {vs : List (Option Value)} {x : Str} {co : Obj} {v₀ : Option Value} {v : Value} {g : Obj → Fct} {Q : Unit → Shared → Prop} (C : Cx H TB os (⟨sc, env, L, vs⟩ :: R) fs s) (i : Nat) (hi : sc.cn[i]? = some x) (hc : env.cells.lookup x = some c) (U : ∀ o', Upd c co o' fs (g o')) (hd : co.data = .cell v₀)
    (k : ∀ co' s', co'.data = .cell (some v) → Cx H TB os (⟨sc, env, L, vs⟩ :: R) (g co') s' → Q () s') : wpC (model prog w) A (storeName env x v) Q E s := by
  have f := C.frames _ (.head _)
  have hk := (Sc.parts f.good).2.2.2.1 x (List.mem_of_getElem? hi)
  have sp := f.scp
  dsimp only at hk sp
  refine wpC_any (wpAny_storeName_cell f.kind (by unfold Env.kindOf; rw [sp]; exact hk.1) hc ⟨_, C.fact _ (U co).mem, hd⟩ fun h' hv hs => ?_)
  obtain ⟨o', e, hd'⟩ := hv
  exact k o' _ hd' (C.upd (U o') hs e s.toks)
/-- two roads that meet at a small int -/
theorem k_joinInt {m : Nat} {x : Sem Value} {Q : Value → Shared → Prop} (C : Cx H TB os fr fs s) (h : wpC (model prog w) A x (fun v s' => ∃ (z : Nat) (t : Tok), v = .int z t ∧ z ≤ m ∧ Cx H TB os fr fs s') E s) (k : ∀ (z : Nat) (t : Tok) s', z ≤ m → Cx H TB os fr fs s' → Q (.int z t) s') : wpC (model prog w) A x Q E s :=
  wpC_mono h (fun v s' ⟨z, t, e, hz, C⟩ => e ▸ k z t s' hz C) fun _ _ x => x
theorem k_joinP {P : Nat → Prop} {x : Sem Value} {Q : Value → Shared → Prop} (C : Cx H TB os fr fs s) (h : wpC (model prog w) A x (fun v s' => ∃ (z : Nat) (t : Tok), v = .int z t ∧ P z ∧ Cx H TB os fr fs s') E s) (k : ∀ (z : Nat) (t : Tok) s', P z → Cx H TB os fr fs s' → Q (.int z t) s') : wpC (model prog w) A x Q E s :=
  wpC_mono h (fun v s' ⟨z, t, e, hz, C⟩ => e ▸ k z t s' hz C) fun _ _ x => x
/-- two roads that meet at a bool -/
theorem k_joinB {P : Bool → Prop} {x : Sem Value} {Q : Value → Shared → Prop} (C : Cx H TB os fr fs s) (h : wpC (model prog w) A x (fun v s' => ∃ b, v = .bool b ∧ P b ∧ Cx H TB os fr fs s') E s) (k : ∀ b s', P b → Cx H TB os fr fs s' → Q (.bool b) s') : wpC (model prog w) A x Q E s :=
  wpC_mono h (fun v s' ⟨b, e, hz, C⟩ => e ▸ k b s' hz C) fun _ _ x => x
/- leaves of a comprehension -/
theorem a_own {scope : Scope} {cl : List (Str × Addr)} {Cc : Addr} {m : Str → Option Value} {x : Str} {pos : Pos} {v : Value} {Q : Value → Shared → Prop} (hn : s.heap.Ns Cc m) (hm : m x = some v) (k : Q v s)
    (hk : (compEnvC scope cl Cc env).scope.kind = .function := by rfl) (hl : (compEnvC scope cl Cc env).kindOf x = some .local := by rfl) (hd : (x == ("__debug__" : Str)) = false := by decide) :
    wpAny (model prog w) A (eval (.Name x pos) (compEnvC scope cl Cc env)) Q E s := ldVarK hn hm k hk hl hd
theorem a_cell {scope : Scope} {cl : List (Str × Addr)} {Cc c : Addr} {x : Str} {pos : Pos} {o : Obj} {v : Value} {Q : Value → Shared → Prop} (hc : cl.lookup x = some c) (ho : s.heap.get? c = some o) (hd : o.data = .cell (some v)) (k : Q v s)
    (hk : (compEnvC scope cl Cc env).scope.kind = .function := by rfl) (hl : (compEnvC scope cl Cc env).kindOf x = some .cell := by rfl) (hb : (x == ("__debug__" : Str)) = false := by decide) :
    wpAny (model prog w) A (eval (.Name x pos) (compEnvC scope cl Cc env)) Q E s := wpAny_Name (wpAny_loadName_cell hk hl hc ⟨o, ho, hd⟩ k) hb
end
end Px
end

/- PxQ -/
section
open PySem PySem.W PySem.Calls PyProof.Rows
set_option Elab.async false
set_option linter.unusedVariables false
set_option maxRecDepth 100000
set_option maxHeartbeats 4000000
namespace Px
section
variable {prog : Program} {w : World} {K : Frag} {H : Heap} {TB : List TabSpec} {os : OsState} {mg mb : Str → Option Value} {A : Around} {E : Value → Shared → Prop} {fr R : List Fm} {fs fs' F : Fct} {s : Shared} {f : Fm} {env : Env}
theorem eqa_none : SeqAt.EqAt A s .none .none true := SeqAt.EqAt.same _
theorem eqa_int {a b : Int} {t u : Tok} (h : a = b) : SeqAt.EqAt A s (.int a t) (.int b u) true := by
  have := SeqAt.EqAt.int_int (A := A) (s := s) a t b u
  rw [h, beq_self_eq_true] at this
  rw [h]; exact this
theorem eqa_bytes {x y : List UInt8} {t u : Tok} (h : x = y) : SeqAt.EqAt A s (.bytes x.toArray t) (.bytes y.toArray u) true := fun prog w E Q q => by
  subst h
  unfold eqBool
  refine wpAny_holding ?_
  show wpAny _ _ (if (Value.bytes x.toArray t == Value.bytes x.toArray u) = true then _ else _) Q E s
  by_cases hab : (Value.bytes x.toArray t == Value.bytes x.toArray u) = true
  · rw [if_pos hab]
    exact wpAny_bind (wpAny_rule (wpAny_pure q))
  · rw [if_neg hab]
    refine wpAny_bind ?_
    show wpAny _ _ (compareOp .Eq (.bytes x.toArray t) (.bytes x.toArray u)) _ _ _
    exact eq_bytes (wpAny_truthy_bool (by rw [beq_self_eq_true]; exact q))
inductive EqAll (A : Around) (s : Shared) : List Value → List Value → Prop
  | nil : EqAll A s [] []
  | cons {x y xs ys} (h : SeqAt.EqAt A s x y true) (t : EqAll A s xs ys) : EqAll A s (x :: xs) (y :: ys)
theorem EqAll.at {A : Around} {s : Shared} : ∀ {xs ys : List Value}, EqAll A s xs ys → xs.length = ys.length ∧ ∀ (j : Nat) (h1 : j < xs.length) (h2 : j < ys.length), SeqAt.EqAt A s xs[j] ys[j] true
  | _, _, .nil => ⟨rfl, fun j h => absurd h (Nat.not_lt_zero j)⟩
  | _, _, .cons h t => by
    obtain ⟨e, r⟩ := EqAll.at t
    refine ⟨by rw [List.length_cons, List.length_cons, e], fun j h1 h2 => ?_⟩
    cases j with
    | zero => exact h
    | succ j => exact r j (Nat.lt_of_succ_lt_succ h1) (Nat.lt_of_succ_lt_succ h2)
theorem k_eqTup {a b : Addr} {xs ys : List Value} {Q : Value → Shared → Prop} (C : Cx H TB os fr fs s) (h1 : (a, tupO xs) ∈ fs) (h2 : (b, tupO ys) ∈ fs) (hu : A.units < cLine) (he : EqAll A.in1 s xs ys) (k : Q (.bool true) s) : wpC (model prog w) A (compareOp .Eq (.ref a) (.ref b)) Q E s := by
  obtain ⟨el, ea⟩ := he.at
  refine wpC_any (SeqAt.eq_tupleAt (e := fun _ => true) (items := xs.toArray) (items2 := ys.toArray) ⟨_, C.fact _ h1, rfl, _, rfl⟩ ⟨_, C.fact _ h2, rfl, _, rfl⟩ hu (fun j g1 g2 => by simpa using ea j (by simpa using g1) (by simpa using g2)) ?_)
  have e1 : ((List.range (min xs.toArray.size ys.toArray.size)).all (fun _ => true) && xs.toArray.size == ys.toArray.size) = true := by simp [el]
  rw [e1]; exact k
theorem k_eqInts {a b : Addr} {xs ys : List Value} {ns : List Int} {n m : Nat} {Q : Value → Shared → Prop} (C : Cx H TB os fr fs s) (h1 : (a, lstO xs n) ∈ fs) (h2 : (b, lstO ys m) ∈ fs) (hu : A.units + 64 < cLine) (hi : IntsAre xs ns) (hj : IntsAre ys ns) (k : Q (.bool true) s) : wpC (model prog w) A (compareOp .Eq (.ref a) (.ref b)) Q E s :=
  wpC_any (ke_eq_ints (C.list h1) (C.list h2) hi hj hu (by simpa using k))
theorem k_eqNone {Q : Value → Shared → Prop} (k : Q (.bool true) s) : wpC (model prog w) A (compareOp .Eq .none .none) Q E s := by
  exact wpC_any (SeqAt.RcAt.none_none prog w E Q k)
theorem k_eqStr {a b : Str} {t u : Tok} {Q : Value → Shared → Prop} (k : Q (.bool (a == b)) s) : wpC (model prog w) A (compareOp .Eq (.str a t) (.str b u)) Q E s := wpC_any (SeqAt.RcAt.str_str a t b u prog w E Q k)
theorem a_Sub {M : Model} {value slice pos} {Q : Value → Shared → Prop} (h : wpAny M A (eval value env) (fun o s₁ => wpAny M A (eval slice env) (fun i s₂ => wpAny M A (subscriptTail value slice o i) Q E s₂) E s₁) E s) : wpAny M A (eval (.Subscript value slice pos) env) Q E s := by
  rw [eval_Subscript]
  refine wpAny_bind (wpAny_mono h (fun o s₁ h₁ => ?_) fun _ _ x => x)
  exact wpAny_bind (wpAny_holding (wpAny_mono h₁ (fun i s₂ h₂ => wpAny_bind (wpAny_standAt h₂)) fun _ _ x => x))
theorem a_itemBytes {value slice : Expr} {x : List UInt8} {t u : Tok} {i : Nat} {Q : Value → Shared → Prop} (hz : x.length ≤ 16777216) (h1 : i < x.length) (k : Q (.int (x.getD i 0).toNat s.toks) { s with toks := s.toks + 1 })
    (hs : subscripted slice false (.bytes x.toArray t) (.int i u) = operate [.bytes x.toArray t, .int i u] (getItem (.bytes x.toArray t) (.int i u)) := by with_unfolding_all rfl)
    (ht : ∀ r, letTemporaryGo value (.bytes x.toArray t) r = pure () := by intro _; with_unfolding_all rfl) : wpAny (model prog w) A (subscriptTail value slice (.bytes x.toArray t) (.int i u)) Q E s :=
  KBy.item_N (by omega) (Int.natCast_nonneg i) (by omega) k hs ht
end
end Px
end

/- PxR -/
section
open PySem PySem.W PySem.Calls PyProof.Rows
set_option Elab.async false
set_option linter.unusedVariables false
set_option maxRecDepth 100000
set_option maxHeartbeats 4000000
namespace Px
section
variable {prog : Program} {w : World} {K : Frag} {H : Heap} {TB : List TabSpec} {os : OsState} {mg mb : Str → Option Value} {A : Around} {E : Value → Shared → Prop} {fr R : List Fm} {fs fs' F : Fct} {s : Shared} {f : Fm} {env : Env}
/-- more objects, and one fact's object turned and forgotten -/
theorem Cx.ext {a : Addr} {o : Obj} (C : Cx H TB os (f :: R) ((a, o) :: fs) s) {h' : Heap} (hk : ∀ b o, b ≠ a → s.heap.get? b = some o → h'.get? b = some o) : Cx H TB os (f :: R) fs { s with heap := h' } := by
  have kp : (keysOf (f :: R) ((a, o) :: fs)).Perm (a :: keysOf (f :: R) fs) := by
    unfold keysOf; rw [List.map_cons (f := fun p : Addr × Obj => p.1)]; exact List.perm_middle
  have nd := kp.nodup_iff.mp C.nd
  have na : a ∉ keysOf (f :: R) fs := (List.nodup_cons.mp nd).1
  have hl := C.low a (kp.mem_iff.mpr (.head _))
  have fok : ∀ g ∈ f :: R, g.ok h' := fun g hg => by
    have x := C.frames g hg
    obtain ⟨m, hn, r⟩ := x.ns
    have ne : g.L ≠ a := fun e => na (e ▸ List.mem_append_left _ (List.mem_map_of_mem hg))
    exact ⟨x.fr, x.lo, x.scp, x.good, x.gl, x.bl, m, hn.at' fun o e => hk _ o ne e, r⟩
  refine ⟨fun p hp => hk _ _ (fun e => na (e ▸ List.mem_append_right _ (List.mem_map_of_mem (f := (·.1)) hp))) (C.fact p (.tail _ hp)), (List.nodup_cons.mp nd).2, fun b hb => C.low b (kp.mem_iff.mpr (.tail _ hb)), fun b o e hb => ?_, ?_, fok, fun t ht => ?_, C.tlow, C.gens, C.os⟩
  · exact hk _ _ (Nat.ne_of_lt (Nat.lt_of_lt_of_le (Heap.lt_size e) hl)) (C.old b o e hb)
  · obtain ⟨m, hn, _⟩ := (fok f (.head _)).ns
    exact Nat.le_of_lt (Nat.lt_of_le_of_lt (C.low f.L (kp.mem_iff.mpr (.tail _ (.head _)))) hn.lt)
  · obtain ⟨ps, e, r⟩ := C.tabs t ht
    refine ⟨ps, hk _ _ (Nat.ne_of_lt (Nat.lt_of_lt_of_le (C.tlow t ht) hl)) e, r.imp id fun ⟨cd, a1, a2, a3⟩ => ⟨cd, a1, fun h => a2 (kp.mem_iff.mpr (.tail _ h)), ?_⟩⟩
    obtain ⟨c, oc, vs, tk, hcd, hget, q⟩ := a3
    cases hcd
    exact ⟨cd, oc, vs, tk, rfl, hk _ _ (fun e => a2 (kp.mem_iff.mpr (e ▸ .head _))) hget, q⟩
abbrev ritO (x left : Int) : Obj := { cls := .type "range_iterator", data := .fields #[rawInt x, rawInt left, rawInt 1] }
theorem k_rangeIter {r : Addr} {n : Nat} {t u v : Tok} {Q : Value → Shared → Prop} (C : Cx H TB os fr fs s) (hm : (r, rngO n t u v) ∈ fs) (hz : n ≤ 100000) (k : ∀ it s', Cx H TB os fr ((it, ritO 0 n) :: fs) s' → Q (.ref it) s') : wpAny (model prog w) A (pyIter (.ref r)) Q E s := by
  have hr : IsRange s.heap r 0 (n : Int) 1 t u v := C.fact _ hm
  have e0 : Builtin.Range.rangeSize 0 (n : Int) 1 = n := by rw [rangeSize_one]; split <;> omega
  refine wpAny_pyIter_range hr (small_one (by decide) (by decide) (by omega) (by omega)) ?_
  rw [e0]
  exact k _ _ (C.push _ rfl _)
theorem k_rangeNext {it : Addr} {x left : Int} {g : Obj → Fct} {Q : Option Value → Shared → Prop} (C : Cx H TB os fr fs s) (U : ∀ o', Upd it (ritO x left) o' fs (g o')) (hl : 0 < left) (k : ∀ t s', Cx H TB os fr (g (ritO (x + 1) (left - 1))) s' → Q (some (.int x t)) s') : wpAny (model prog w) A (pyNext (.ref it)) Q E s :=
  wpAny_pyNext_range_item (C.fact _ (U (ritO x left)).mem) hl fun h' e hs => k _ _ (C.upd (U _) hs e _)
theorem k_rangeEnd {it : Addr} {x left : Int} {Q : Option Value → Shared → Prop} (C : Cx H TB os (f :: R) ((it, ritO x left) :: fs) s) (hh : A.handled = none) (hl : left ≤ 0) (k : ∀ s', Cx H TB os (f :: R) fs s' → Q none s') : wpAny (model prog w) A (pyNext (.ref it)) Q E s :=
  wpAny_pyNext_range_end hh (C.fact _ (.head _)) hl fun h' hs => k _ (C.ext fun b o hb e => hs b o hb e)
/- a list of the caller's -/
theorem k_sliceListH {value slice : Expr} {a : Addr} {xs : List Value} {sl : Addr} {l u : Value} {lo hi : Option Int} {Q : Value → Shared → Prop} (C : Cx H TB os fr ((sl, slO l u) :: fs) s) (hL : s.heap.IsList a xs.toArray) (hl : IsPart l lo) (hu : IsPart u hi) (hz : xs.length ≤ 16777216)
    (k : ∀ b s', Cx H TB os fr ((b, lstO (cut xs lo hi)) :: fs) s' → Q (.ref b) s')
    (hs : subscripted slice false (.ref a) (.ref sl) = operate [.ref sl, .ref a] (getItem (.ref a) (.ref sl)) := by with_unfolding_all rfl) :
    wpC (model prog w) A (subscriptTail value slice (.ref a) (.ref sl)) Q E s := by
  have e : slicePick xs.toArray lo hi none = (cut xs lo hi).toArray := by rw [slicePick_plain]; unfold cut; rw [List.size_toArray]
  refine wpC_any (subscriptTail_any hL.typeIs slot_list_getitem.lookup (wpAny_getItem_list_slice hL C.slice hl hu .none (by simp) ?_ (by rw [List.size_toArray, sizeLine_eq]; exact hz)) hs)
  rw [e]
  exact k _ _ ((C.push _ rfl _).drop (.cons₂ _ (List.sublist_cons_self _ _)))
theorem k_truthyListH {l : Addr} {vs : List Value} {Q : Bool → Shared → Prop} (C : Cx H TB os fr fs s) (h : s.heap.IsList l vs.toArray) (hz : vs.length ≤ 16777216) (k : ∀ s', Cx H TB os fr fs s' → Q (!vs.isEmpty) s') : wpC (model prog w) A (truthy (.ref l)) Q E s :=
  wpC_any (wpAny_truthy_list h (by rw [List.size_toArray]; omega) (by
    have e : vs.toArray.isEmpty = vs.isEmpty := by cases vs <;> rfl
    rw [e]; exact k _ (C.tok _)))
theorem k_eqTupLen {a b : Addr} {xs : List Value} {Q : Value → Shared → Prop} (C : Cx H TB os fr fs s) (h1 : (a, tupO xs) ∈ fs) (h2 : (b, tupO []) ∈ fs) (hu : A.units < cLine) (k : Q (.bool xs.isEmpty) s) : wpC (model prog w) A (compareOp .Eq (.ref a) (.ref b)) Q E s := by
  refine wpC_any (SeqAt.eq_tupleAt (e := fun _ => true) (items := xs.toArray) (items2 := ([] : List Value).toArray) ⟨_, C.fact _ h1, rfl, _, rfl⟩ ⟨_, C.fact _ h2, rfl, _, rfl⟩ hu (fun j g1 g2 => absurd g2 (Nat.not_lt_zero j)) ?_)
  have e1 : ((List.range (min xs.toArray.size ([] : List Value).toArray.size)).all (fun _ => true) && xs.toArray.size == ([] : List Value).toArray.size) = xs.isEmpty := by cases xs <;> simp
  rw [e1]; exact k
theorem k_neStr {a b : Str} {t u : Tok} {Q : Value → Shared → Prop} (k : Q (.bool (a != b)) s) : wpC (model prog w) A (compareOp .NotEq (.str a t) (.str b u)) Q E s := wpC_any (PyProof.Rows.ne_str k)
/-- two roads that meet at a list -/
theorem k_joinL {P : List Value → Prop} {x : Sem Value} {Q : Value → Shared → Prop} (C : Cx H TB os fr fs s) (h : wpC (model prog w) A x (fun v s' => ∃ d ds n, v = .ref d ∧ P ds ∧ Cx H TB os fr ((d, lstO ds n) :: fs) s') E s) (k : ∀ d ds n s', P ds → Cx H TB os fr ((d, lstO ds n) :: fs) s' → Q (.ref d) s') : wpC (model prog w) A x Q E s :=
  wpC_mono h (fun v s' ⟨d, ds, n, e, hz, C⟩ => e ▸ k d ds n s' hz C) fun _ _ x => x
theorem ints_take : ∀ {vs : List Value} {ns : List Int} (k : Nat), IntsAre vs ns → IntsAre (vs.take k) (ns.take k)
  | _, _, 0, _ => by rw [List.take_zero, List.take_zero]; exact .nil
  | _, _, k + 1, .nil => .nil
  | _, _, k + 1, .cons n t h => .cons n t (ints_take k h)
theorem k_assign {sc : Sc} {L : Addr} {vs vs' : List (Option Value)} {nm : List Str} {y : Str} {py : Pos} {v : Value} {Q : Unit → Shared → Prop} (C : Cx H TB os (⟨sc, env, L, vs⟩ :: R) fs s) (hN : sc.nm = nm) (hs : SAt v nm vs y vs') (k : ∀ s', Cx H TB os (⟨sc, env, L, vs'⟩ :: R) fs s' → Q () s') : wpC (model prog w) A (assign (.Name y py) env v) Q E s := by
  obtain ⟨i, e1, e2⟩ := hs.get
  obtain ⟨rfl, e3⟩ := e2.eq
  exact wpC_any (wpAny_assign_Name (r_store C i (by rw [hN]; exact e1) e3 fun s' C' => k _ C'))
end
end Px
end

section
open PySem PySem.W PySem.Calls PyProof.Rows
set_option hygiene false in
local macro_rules | `(tactic| row_room_at px_glob) => `(tactic| first
  | ((with_reducible show wpC _ _ (eval (Expr.Name (Str.ofString "_wall") _) _) _ _ _); with_reducible refine m_glob G C (gl__wall _) (by kernel_rfl) ?_)
  | ((with_reducible show wpC _ _ (eval (Expr.Name (Str.ofString "Allowed") _) _) _ _ _); with_reducible refine m_glob G C (gl_Allowed _) (by kernel_rfl) ?_)
  | ((with_reducible show wpC _ _ (eval (Expr.Name (Str.ofString "Address") _) _) _ _ _); with_reducible refine m_glob G C (gl_Address _) (by kernel_rfl) ?_)
  | ((with_reducible show wpC _ _ (eval (Expr.Name (Str.ofString "IPv4Address") _) _) _ _ _); with_reducible refine m_glob G C (gl_IPv4Address _) (by kernel_rfl) ?_)
  | ((with_reducible show wpC _ _ (eval (Expr.Name (Str.ofString "IPv6Address") _) _) _ _ _); with_reducible refine m_glob G C (gl_IPv6Address _) (by kernel_rfl) ?_)
  | ((with_reducible show wpC _ _ (eval (Expr.Name (Str.ofString "octets_of_four") _) _) _ _ _); with_reducible refine m_glob G C (gl_octets_of_four _) (by kernel_rfl) ?_)
  | ((with_reducible show wpC _ _ (eval (Expr.Name (Str.ofString "octets_of_six") _) _) _ _ _); with_reducible refine m_glob G C (gl_octets_of_six _) (by kernel_rfl) ?_)
  | ((with_reducible show wpC _ _ (eval (Expr.Name (Str.ofString "ip_address") _) _) _ _ _); with_reducible refine m_glob G C (gl_ip_address _) (by kernel_rfl) ?_)
  | ((with_reducible show wpC _ _ (eval (Expr.Name (Str.ofString "IncompleteReadError") _) _) _ _ _); with_reducible refine m_glob G C (gl_IncompleteReadError _) (by kernel_rfl) ?_)
  | ((with_reducible show wpC _ _ (eval (Expr.Name (Str.ofString "PlainReader") _) _) _ _ _); with_reducible refine m_glob G C (gl_PlainReader _) (by kernel_rfl) ?_)
  | ((with_reducible show wpC _ _ (eval (Expr.Name (Str.ofString "V2_SIGNATURE") _) _) _ _ _); with_reducible refine m_glob G C (gl_V2_SIGNATURE _) (by kernel_rfl) ?_)
  | ((with_reducible show wpC _ _ (eval (Expr.Name (Str.ofString "AF") _) _) _ _ _); with_reducible refine m_glob G C (gl_AF _) (by kernel_rfl) ?_)
  | ((with_reducible show wpC _ _ (eval (Expr.Name (Str.ofString "PROTO") _) _) _ _ _); with_reducible refine m_glob G C (gl_PROTO _) (by kernel_rfl) ?_)
  | ((with_reducible show wpC _ _ (eval (Expr.Name (Str.ofString "V2_VALID_CMDS") _) _) _ _ _); with_reducible refine m_glob G C (gl_V2_VALID_CMDS _) (by kernel_rfl) ?_)
  | ((with_reducible show wpC _ _ (eval (Expr.Name (Str.ofString "V2_VALID_FAMS") _) _) _ _ _); with_reducible refine m_glob G C (gl_V2_VALID_FAMS _) (by kernel_rfl) ?_)
  | ((with_reducible show wpC _ _ (eval (Expr.Name (Str.ofString "V2_VALID_PROS") _) _) _ _ _); with_reducible refine m_glob G C (gl_V2_VALID_PROS _) (by kernel_rfl) ?_)
  | ((with_reducible show wpC _ _ (eval (Expr.Name (Str.ofString "V2_PARSE_ADDR_FAMPRO") _) _) _ _ _); with_reducible refine m_glob G C (gl_V2_PARSE_ADDR_FAMPRO _) (by kernel_rfl) ?_)
  | ((with_reducible show wpC _ _ (eval (Expr.Name (Str.ofString "ProxyData") _) _) _ _ _); with_reducible refine m_glob G C (gl_ProxyData _) (by kernel_rfl) ?_)
  | ((with_reducible show wpC _ _ (eval (Expr.Name (Str.ofString "RE_ADDR_ALLOWCHARS") _) _) _ _ _); with_reducible refine m_glob G C (gl_RE_ADDR_ALLOWCHARS _) (by kernel_rfl) ?_)
  | ((with_reducible show wpC _ _ (eval (Expr.Name (Str.ofString "RE_PORT_NOLEADZERO") _) _) _ _ _); with_reducible refine m_glob G C (gl_RE_PORT_NOLEADZERO _) (by kernel_rfl) ?_)
  | ((with_reducible show wpC _ _ (eval (Expr.Name (Str.ofString "_get_v1") _) _) _ _ _); with_reducible refine m_glob G C (gl__get_v1 _) (by kernel_rfl) ?_)
  | ((with_reducible show wpC _ _ (eval (Expr.Name (Str.ofString "_get_v2") _) _) _ _ _); with_reducible refine m_glob G C (gl__get_v2 _) (by kernel_rfl) ?_)
  | ((with_reducible show wpC _ _ (eval (Expr.Name (Str.ofString "get_proxy") _) _) _ _ _); with_reducible refine m_glob G C (gl_get_proxy _) (by kernel_rfl) ?_)
  | ((with_reducible show wpC _ _ (eval (Expr.Name (Str.ofString "_law_places") _) _) _ _ _); with_reducible refine m_glob G C (gl__law_places _) (by kernel_rfl) ?_)
  | ((with_reducible show wpC _ _ (eval (Expr.Name (Str.ofString "_law_header") _) _) _ _ _); with_reducible refine m_glob G C (gl__law_header _) (by kernel_rfl) ?_)
  | ((with_reducible show wpC _ _ (eval (Expr.Name (Str.ofString "_law_told") _) _) _ _ _); with_reducible refine m_glob G C (gl__law_told _) (by kernel_rfl) ?_)
  | ((with_reducible show wpC _ _ (eval (Expr.Name (Str.ofString "_law_same") _) _) _ _ _); with_reducible refine m_glob G C (gl__law_same _) (by kernel_rfl) ?_)
  | ((with_reducible show wpC _ _ (eval (Expr.Name (Str.ofString "law") _) _) _ _ _); with_reducible refine m_glob G C (gl_law _) (by kernel_rfl) ?_))
set_option hygiene false in
local macro_rules | `(tactic| row_room_at px_blt) => `(tactic| first
  | ((with_reducible show wpC _ _ (eval (Expr.Name (Str.ofString "len") _) _) _ _ _); with_reducible refine m_blt G C (bl_len _) (by kernel_rfl) ?_)
  | ((with_reducible show wpC _ _ (eval (Expr.Name (Str.ofString "min") _) _) _ _ _); with_reducible refine m_blt G C (bl_min _) (by kernel_rfl) ?_)
  | ((with_reducible show wpC _ _ (eval (Expr.Name (Str.ofString "max") _) _) _ _ _); with_reducible refine m_blt G C (bl_max _) (by kernel_rfl) ?_)
  | ((with_reducible show wpC _ _ (eval (Expr.Name (Str.ofString "any") _) _) _ _ _); with_reducible refine m_blt G C (bl_any _) (by kernel_rfl) ?_)
  | ((with_reducible show wpC _ _ (eval (Expr.Name (Str.ofString "all") _) _) _ _ _); with_reducible refine m_blt G C (bl_all _) (by kernel_rfl) ?_)
  | ((with_reducible show wpC _ _ (eval (Expr.Name (Str.ofString "bytes") _) _) _ _ _); with_reducible refine m_blt G C (bl_bytes _) (by kernel_rfl) ?_)
  | ((with_reducible show wpC _ _ (eval (Expr.Name (Str.ofString "bytearray") _) _) _ _ _); with_reducible refine m_blt G C (bl_bytearray _) (by kernel_rfl) ?_)
  | ((with_reducible show wpC _ _ (eval (Expr.Name (Str.ofString "range") _) _) _ _ _); with_reducible refine m_blt G C (bl_range _) (by kernel_rfl) ?_)
  | ((with_reducible show wpC _ _ (eval (Expr.Name (Str.ofString "int") _) _) _ _ _); with_reducible refine m_blt G C (bl_int _) (by kernel_rfl) ?_)
  | ((with_reducible show wpC _ _ (eval (Expr.Name (Str.ofString "Exception") _) _) _ _ _); with_reducible refine m_blt G C (bl_Exception _) (by kernel_rfl) ?_)
  | ((with_reducible show wpC _ _ (eval (Expr.Name (Str.ofString "ValueError") _) _) _ _ _); with_reducible refine m_blt G C (bl_ValueError _) (by kernel_rfl) ?_)
  | ((with_reducible show wpC _ _ (eval (Expr.Name (Str.ofString "ConnectionError") _) _) _ _ _); with_reducible refine m_blt G C (bl_ConnectionError _) (by kernel_rfl) ?_)
  | ((with_reducible show wpC _ _ (eval (Expr.Name (Str.ofString "str") _) _) _ _ _); with_reducible refine m_blt G C (bl_str _) (by kernel_rfl) ?_)
  | ((with_reducible show wpC _ _ (eval (Expr.Name (Str.ofString "sorted") _) _) _ _ _); with_reducible refine m_blt G C (bl_sorted _) (by kernel_rfl) ?_))
set_option hygiene false in
local macro_rules | `(tactic| row_room_at px_out) => `(tactic| with_reducible (first | apply Out.head | (apply Out.tail; row_room_at px_out)))
set_option hygiene false in
local macro_rules | `(tactic| row_room_at px_sel) => `(tactic| first | with_reducible exact Sel.refl | with_reducible exact Sel.nil | (with_reducible refine Sel.take (by row_room_at px_out) ?_; row_room_at px_sel) | (with_reducible refine Sel.drop ?_; row_room_at px_sel))
set_option hygiene false in
local macro_rules | `(tactic| row_room_at px_outx) => `(tactic| with_reducible (first | exact Out.head | (apply Out.tail; row_room_at px_outx)))
set_option hygiene false in
local macro_rules | `(tactic| row_room_at px_selx) => `(tactic| first | with_reducible exact Sel.refl | with_reducible exact Sel.nil | (with_reducible refine Sel.take (by row_room_at px_outx) ?_; row_room_at px_selx) | (with_reducible refine Sel.drop ?_; row_room_at px_selx))
set_option hygiene false in
local macro_rules | `(tactic| row_room_at px_mem) => `(tactic| with_reducible (first | apply List.mem_cons_self | (apply List.mem_cons_of_mem; row_room_at px_mem)))
set_option hygiene false in
local macro_rules | `(tactic| row_room_at px_lat) => `(tactic| with_reducible (first | apply LAt.head | (apply LAt.tail; row_room_at px_lat)))
set_option hygiene false in
local macro_rules | `(tactic| row_room_at px_sat) => `(tactic| with_reducible (first | apply SAt.head | (apply SAt.tail; row_room_at px_sat)))
set_option hygiene false in
local macro_rules | `(tactic| row_room_at px_gat) => `(tactic| with_reducible (first | apply GAt.head | (apply GAt.tail; row_room_at px_gat)))
set_option hygiene false in
local macro_rules | `(tactic| row_room_at px_uat) => `(tactic| with_reducible (first | apply UAt.head | (apply UAt.tail; row_room_at px_uat)))
set_option hygiene false in
local macro_rules | `(tactic| row_room_at px_nat) => `(tactic| with_reducible (first | apply NAt.head | (apply NAt.tail; row_room_at px_nat)))
set_option hygiene false in
local macro_rules | `(tactic| row_room_at px_cls) => `(tactic| with_reducible (first | exact cls_Reader _ | exact cls_Proxy _ | exact cls_Address _))
set_option hygiene false in
local macro_rules | `(tactic| row_room_at px_up) => `(tactic| with_reducible (first | apply Upd.head | (apply Upd.tail; row_room_at px_up)))
set_option hygiene false in
local macro_rules | `(tactic| row_room_at px_upd) => `(tactic| (intro _; row_room_at px_up))
set_option hygiene false in
local macro_rules | `(tactic| row_room_at px_exec) => `(tactic| first
  | ((with_reducible show wpC _ _ (exec (Stmt.Assign [Expr.Name _ _] _ _) _) _ _ _); (refine c_Assign ?_))
  | ((with_reducible show wpC _ _ (exec (Stmt.If _ _ _ _) _) _ _ _); (refine c_If ?_))
  | ((with_reducible show wpC _ _ (exec (Stmt.Return _ _) _) _ _ _); (refine c_Return ?_))
  | ((with_reducible show wpC _ _ (exec (Stmt.Assign [Expr.Attribute _ _ _] _ _) _) _ _ _); (refine c_AssignAttr ?_))
  | ((with_reducible show wpC _ _ (exec (Stmt.Assign [Expr.Tuple _ _ _] _ _) _) _ _ _); first | refine c_AssignTuple ?_ | refine c_Swap ?_)
  | ((with_reducible show wpC _ _ (exec (Stmt.Assign [Expr.Subscript _ _ _] _ _) _) _ _ _); (refine c_AssignSub ?_))
  | ((with_reducible show wpC _ _ (exec (Stmt.AugAssign (Expr.Name _ _) _ _ _) _) _ _ _); (refine c_Aug ?_))
  | ((with_reducible show wpC _ _ (exec (Stmt.AugAssign (Expr.Attribute _ _ _) _ _ _) _) _ _ _); (refine c_AugAttr ?_))
  | ((with_reducible show wpC _ _ (exec (Stmt.While _ _ _ _) _) _ _ _); (refine c_While ?_))
  | ((with_reducible show wpC _ _ (exec (Stmt.For _ _ _ _ _) _) _ _ _); (refine c_For ?_))
  | ((with_reducible show wpC _ _ (exec (Stmt.Expr _ _) _) _ _ _); (refine c_Expr ?_))
  | (with_reducible refine c_Continue ?_)
  | (with_reducible refine c_Pass ?_))
set_option hygiene false in
local macro_rules | `(tactic| row_room_at px_eval) => `(tactic| first
  | ((with_reducible show wpC _ _ (eval (Expr.Name _ _) _) _ _ _); first | (with_reducible refine m_local C hN (by row_room_at px_lat) ?_) | row_room_at px_glob | row_room_at px_blt | row_room_at px_more)
  | ((with_reducible show wpC _ _ (eval (Expr.Constant _ _ _) _) _ _ _); first | (with_reducible refine k_int C (fun _ _ C => ?_)) | row_room_at px_cst | (with_reducible refine k_str C (fun _ _ C => ?_)) | (with_reducible refine k_none ?_) | (with_reducible refine k_bytes C (fun _ _ C => ?_)) | (with_reducible refine k_bool ?_))
  | ((with_reducible show wpC _ _ (eval (Expr.Attribute _ _ _) _) _ _ _); (refine c_Attr ?_))
  | ((with_reducible show wpC _ _ (eval (Expr.Call (Expr.Attribute _ _ _) _ _ _) _) _ _ _); (refine c_Meth ?_))
  | ((with_reducible show wpC _ _ (eval (Expr.Call _ _ _ _) _) _ _ _); (refine c_Call ?_))
  | ((with_reducible show wpC _ _ (eval (Expr.BinOp _ _ _ _) _) _ _ _); (refine c_BinOp ?_))
  | ((with_reducible show wpC _ _ (eval (Expr.Subscript _ _ _) _) _ _ _); (refine c_Sub ?_))
  | ((with_reducible show wpC _ _ (eval (Expr.Slice _ _ _ _) _) _ _ _); (refine c_Slice ?_))
  | ((with_reducible show wpC _ _ (eval (Expr.Compare _ [_] [_] _) _) _ _ _); (refine c_Compare ?_))
  | ((with_reducible show wpC _ _ (eval (Expr.Tuple _ _ _) _) _ _ _); (refine c_Tuple ?_))
  | ((with_reducible show wpC _ _ (eval (Expr.List _ _) _) _ _ _); (refine c_List ?_))
  | ((with_reducible show wpC _ _ (eval (Expr.IfExp _ _ _ _) _) _ _ _); (refine c_IfExp ?_))
  | ((with_reducible show wpC _ _ (eval (Expr.BoolOp _ _ _) _) _ _ _); (refine c_BoolOp ?_))
  | ((with_reducible show wpC _ _ (eval (Expr.UnaryOp _ _ _) _) _ _ _); (refine c_Not ?_)))
set_option hygiene false in
local macro_rules | `(tactic| row_room_at px_test) => `(tactic| first
  | (with_reducible refine c_tNot ?_)
  | (with_reducible refine c_tAnd ?_)
  | (with_reducible refine c_tOr ?_)
  | ((with_reducible show wpC _ _ (isTrue (Expr.Compare _ [_] [_] _) _ _) _ _ _); (refine c_tCompare ?_))
  | ((with_reducible show wpC _ _ (isTrue (Expr.Name _ _) _ _) _ _ _); (refine c_tVal ?_))
  | ((with_reducible show wpC _ _ (isTrue (Expr.Attribute _ _ _) _ _) _ _ _); (refine c_tVal ?_))
  | ((with_reducible show wpC _ _ (isTrue (Expr.Call _ _ _ _) _ _) _ _ _); (refine c_tVal ?_)))
set_option hygiene false in
local macro_rules | `(tactic| row_room_at px_rest) => `(tactic| first
  | ((with_reducible show wpC _ _ (storeName _ _ _) _ _ _); ((with_reducible refine m_store C hN (by row_room_at px_sat) (fun _ C => ?_)); (try (with_reducible show wpC _ _ _ _ _ _))))
  | ((with_reducible show wpC _ _ (spliced _) _ _ _); first | (with_reducible refine c_spNil ?_) | (refine c_spCons ?_))
  | ((with_reducible show wpC _ _ (callWith _ _ _ _ _) _ _ _); first | ((with_reducible show wpC _ _ (callWith _ (Value.builtin _) [] _ _) _ _ _); (refine k_callB0 ?_)) | ((with_reducible show wpC _ _ (callWith _ (Value.type _) [] _ _) _ _ _); (refine k_callT0 ?_)) | row_room_at px_more)
  | ((with_reducible show wpC _ _ (call _ _ _) _ _ _); first | ((with_reducible show wpC _ _ (call (Value.type "bytearray") _ _) _ _ _); first | (refine wpC_call (k_newBa0 C (by exact hg) (fun _ _ C => ?_))) | (refine wpC_call (k_newBa1 C (by exact hg) (by first | assumption | (simp only [List.length_take, List.length_drop, List.length_append]; omega) | decide) (fun _ _ C => ?_)))) | ((with_reducible show wpC _ _ (call (Value.builtin "len") [Value.bytes _ _] _) _ _ _); (refine k_lenBytes C (by first | assumption | (simp only [List.length_take, List.length_drop, List.length_append]; omega) | decide) (fun _ _ C => ?_))) | ((with_reducible show wpC _ _ (call (Value.builtin "len") [Value.ref _] _) _ _ _); (refine k_lenBa C (by row_room_at px_mem) (by first | assumption | (simp only [List.length_take, List.length_drop, List.length_append]; omega) | decide) (fun _ _ C => ?_))) | row_room_at px_more)
  | ((with_reducible show wpC _ _ (getAttr _ _ _) _ _ _); first | (with_reducible refine m_get G C (by row_room_at px_mem) (by row_room_at px_mem) (by assumption) (by row_room_at px_cls) (by row_room_at px_gat) (by first | with_unfolding_all rfl | assumption) (fun _ C => ?_)) | row_room_at px_more)
  | ((with_reducible show wpC _ _ (setAttr _ _ _) _ _ _); first | ((with_reducible refine m_set G C (by row_room_at px_mem) (by row_room_at px_mem) (by assumption) (by row_room_at px_cls) (by row_room_at px_uat) (by decide) (by row_room_at px_upd) (fun _ _ _ a C => ?_)); (try (with_reducible show wpC _ _ _ _ _ _))) | ((with_reducible refine m_new G C (by row_room_at px_mem) (by row_room_at px_mem) (by assumption) (by row_room_at px_cls) (by row_room_at px_nat) (by decide) (by row_room_at px_upd) (fun _ _ _ a C => ?_)); (try (with_reducible show wpC _ _ _ _ _ _))) | row_room_at px_more)
  | ((with_reducible show wpC _ _ (compareOp _ _ _) _ _ _); first | (with_reducible refine k_lt ?_) | (with_reducible refine k_le ?_) | (with_reducible refine k_gt ?_) | (with_reducible refine k_eq ?_) | (with_reducible refine k_ne ?_) | (with_reducible refine k_isNone ?_) | (with_reducible refine k_eqBytes ?_) | (with_reducible refine k_neBytes ?_) | row_room_at px_more)
  | ((with_reducible show wpC _ _ (truthy _) _ _ _); first | (with_reducible refine k_truthyBool ?_) | (with_reducible refine k_truthyInt ?_) | (with_reducible refine k_truthyNone ?_) | ((with_reducible show wpC _ _ (truthy (Value.bytes _ _)) _ _ _); (refine k_truthyBytes C (by first | assumption | (simp only [List.length_take, List.length_drop, List.length_append]; omega) | decide) (fun _ C => ?_))) | row_room_at px_more)
  | ((with_reducible show wpC _ _ (binaryOp _ _ _) _ _ _); first | (with_reducible refine k_add C (fun _ _ C => ?_)) | (with_reducible refine k_sub C (fun _ _ C => ?_)) | row_room_at px_more)
  | ((with_reducible show wpC _ _ (inplaceOp _ _ _) _ _ _); first | (with_reducible refine k_isub C (fun _ _ C => ?_)) | row_room_at px_more)
  | ((with_reducible show wpC _ _ (valueOrNone _) _ _ _); first | ((with_reducible show wpC _ _ (valueOrNone (evalOpt (some _) _)) _ _ _); show wpC _ _ (eval _ _) _ _ _) | ((with_reducible show wpC _ _ (valueOrNone (evalOpt none _)) _ _ _); refine wpC_pure ?_))
  | ((with_reducible show wpC _ _ (newFields _ _) _ _ _); (with_reducible refine k_newSlice C (fun _ _ C => ?_)))
  | ((with_reducible show wpC _ _ (subscriptTail _ _ _ _) _ _ _); first | ((with_reducible show wpC _ _ (subscriptTail _ _ (Value.bytes _ _) (Value.ref _)) _ _ _); (refine k_sliceBytes C (by first | exact IsPart.none | exact IsPart.int _ _) (by first | exact IsPart.none | exact IsPart.int _ _) (by first | assumption | (simp only [List.length_take, List.length_drop, List.length_append]; omega) | decide) (fun _ _ C => ?_))) | ((with_reducible show wpC _ _ (subscriptTail _ _ (Value.ref _) (Value.ref _)) _ _ _); (refine k_sliceBa C (by row_room_at px_mem) (by first | exact IsPart.none | exact IsPart.int _ _) (by first | exact IsPart.none | exact IsPart.int _ _) (by first | assumption | (simp only [List.length_take, List.length_drop, List.length_append]; omega) | decide) (fun _ _ C => ?_))) | row_room_at px_more)
  | ((with_reducible show wpC _ _ (loadName _ _) _ _ _); (with_reducible refine m_localN C hN (by row_room_at px_lat) ?_))
  | ((with_reducible show wpC _ _ (evalAll _) _ _ _); first | (with_reducible refine c_evNil ?_) | (with_reducible refine c_kw ?_))
  | ((with_reducible show wpC _ _ (newTuple _) _ _ _); (with_reducible refine k_newTuple C (by with_unfolding_all exact Nat.le_of_ble_eq_true rfl) (fun _ _ C => ?_)))
  | ((with_reducible show wpC _ _ (allTrue _ _ _) _ _ _); first | (with_reducible refine c_aAnd ?_) | (with_reducible refine c_aOr ?_) | (with_reducible refine c_aAnd0 ?_) | (with_reducible refine c_aOr0 ?_))
  | ((with_reducible show wpC _ _ (boolOp _ _ _) _ _ _); first | (with_reducible refine c_bAnd ?_) | (with_reducible refine c_bOr ?_) | (with_reducible refine c_bLast ?_))
  | row_room_at px_more)
set_option hygiene false in
local macro_rules | `(tactic| row_room_at px) => `(tactic| first
  | ((with_reducible show wpC _ _ (exec _ _) _ _ _); row_room_at px_exec)
  | ((with_reducible show wpC _ _ (eval _ _) _ _ _); row_room_at px_eval)
  | ((with_reducible show wpC _ _ (execs (_ :: _) _) _ _ _); (refine c_cons ?_))
  | (with_reducible refine c_nil ?_; (try (with_reducible show wpC _ _ _ _ _ _)))
  | ((with_reducible show wpC _ _ (isTrue _ _ _) _ _ _); row_room_at px_test)
  | row_room_at px_rest)
set_option hygiene false in
local macro_rules | `(tactic| row_room_at pxs) => `(tactic| repeat (row_room_at px))

/- Wka -/
section
open PySem PySem.W PySem.Calls PyProof.Rows
set_option Elab.async false
set_option maxRecDepth 100000
set_option maxHeartbeats 4000000
set_option linter.unusedVariables false
namespace Px
noncomputable section
def bd_wall : List Stmt := (fdOf (topSt 0)).2.1
def sc_wall : Sc := ⟨(fdOf (topSt 0)).2.2, [Str.ofString "k"], [], [], []⟩
def fd_wall (P : Params) : FuncData := (match (o21_2 P).data with | .func f => f | _ => default)
theorem fn_wall (P : Params) : Fn (KT P) 21 sc_wall (fd_wall P) bd_wall := ⟨⟨o21_2 P, by kernel_rfl, rfl⟩, rfl, by kernel_rfl, rfl, rfl, rfl, by decide +kernel, rfl⟩
def bd_Allowed_init : List Stmt := (fdOf (clsSt (topSt 2) 0)).2.1
def sc_Allowed_init : Sc := ⟨(fdOf (clsSt (topSt 2) 0)).2.2, [Str.ofString "self", Str.ofString "signs", Str.ofString "firsts"], [], [], []⟩
def fd_Allowed_init (P : Params) : FuncData := (match (o35_2 P).data with | .func f => f | _ => default)
theorem fn_Allowed_init (P : Params) : Fn (KT P) 35 sc_Allowed_init (fd_Allowed_init P) bd_Allowed_init := ⟨⟨o35_2 P, by kernel_rfl, rfl⟩, rfl, by kernel_rfl, rfl, rfl, rfl, by decide +kernel, rfl⟩
def bd_Allowed_match : List Stmt := (fdOf (clsSt (topSt 2) 1)).2.1
def sc_Allowed_match : Sc := ⟨(fdOf (clsSt (topSt 2) 1)).2.2, [Str.ofString "text"], [Str.ofString "all"], [Str.ofString "self"], []⟩
def fd_Allowed_match (P : Params) : FuncData := (match (o42_2 P).data with | .func f => f | _ => default)
theorem fn_Allowed_match (P : Params) : Fn (KT P) 42 sc_Allowed_match (fd_Allowed_match P) bd_Allowed_match := ⟨⟨o42_2 P, by kernel_rfl, rfl⟩, rfl, by kernel_rfl, rfl, rfl, rfl, by decide +kernel, rfl⟩
def bd_Address_init : List Stmt := (fdOf (clsSt (topSt 3) 0)).2.1
def sc_Address_init : Sc := ⟨(fdOf (clsSt (topSt 3) 0)).2.2, [Str.ofString "self", Str.ofString "version", Str.ofString "packed"], [], [], []⟩
def fd_Address_init (P : Params) : FuncData := (match (o63_3 P).data with | .func f => f | _ => default)
theorem fn_Address_init (P : Params) : Fn (KT P) 63 sc_Address_init (fd_Address_init P) bd_Address_init := ⟨⟨o63_3 P, by kernel_rfl, rfl⟩, rfl, by kernel_rfl, rfl, rfl, rfl, by decide +kernel, rfl⟩
def bd_IPv4Address : List Stmt := (fdOf (topSt 4)).2.1
def sc_IPv4Address : Sc := ⟨(fdOf (topSt 4)).2.2, [Str.ofString "packed"], [Str.ofString "Address"], [], []⟩
def fd_IPv4Address (P : Params) : FuncData := (match (o77_3 P).data with | .func f => f | _ => default)
theorem fn_IPv4Address (P : Params) : Fn (KT P) 77 sc_IPv4Address (fd_IPv4Address P) bd_IPv4Address := ⟨⟨o77_3 P, by kernel_rfl, rfl⟩, rfl, by kernel_rfl, rfl, rfl, rfl, by decide +kernel, rfl⟩
def bd_IPv6Address : List Stmt := (fdOf (topSt 5)).2.1
def sc_IPv6Address : Sc := ⟨(fdOf (topSt 5)).2.2, [Str.ofString "packed"], [Str.ofString "Address"], [], []⟩
def fd_IPv6Address (P : Params) : FuncData := (match (o84_3 P).data with | .func f => f | _ => default)
theorem fn_IPv6Address (P : Params) : Fn (KT P) 84 sc_IPv6Address (fd_IPv6Address P) bd_IPv6Address := ⟨⟨o84_3 P, by kernel_rfl, rfl⟩, rfl, by kernel_rfl, rfl, rfl, rfl, by decide +kernel, rfl⟩
def bd_octets_of_four : List Stmt := (fdOf (topSt 6)).2.1
def sc_octets_of_four : Sc := ⟨(fdOf (topSt 6)).2.2, [Str.ofString "text", Str.ofString "parts", Str.ofString "octets", Str.ofString "part"], [Str.ofString "len", Str.ofString "ValueError", Str.ofString "any", Str.ofString "int", Str.ofString "bytes"], [], []⟩
def fd_octets_of_four (P : Params) : FuncData := (match (o91_3 P).data with | .func f => f | _ => default)
theorem fn_octets_of_four (P : Params) : Fn (KT P) 91 sc_octets_of_four (fd_octets_of_four P) bd_octets_of_four := ⟨⟨o91_3 P, by kernel_rfl, rfl⟩, rfl, by kernel_rfl, rfl, rfl, rfl, by decide +kernel, rfl⟩
def bd_octets_of_six : List Stmt := (fdOf (topSt 7)).2.1
def sc_octets_of_six : Sc := ⟨(fdOf (topSt 7)).2.2, [Str.ofString "text", Str.ofString "four", Str.ofString "gaps", Str.ofString "ahead", Str.ofString "behind", Str.ofString "octets", Str.ofString "part"], [Str.ofString "len", Str.ofString "ValueError", Str.ofString "octets_of_four", Str.ofString "range", Str.ofString "any", Str.ofString "int", Str.ofString "bytes"], [Str.ofString "parts"], []⟩
def fd_octets_of_six (P : Params) : FuncData := (match (o96_3 P).data with | .func f => f | _ => default)
theorem fn_octets_of_six (P : Params) : Fn (KT P) 96 sc_octets_of_six (fd_octets_of_six P) bd_octets_of_six := ⟨⟨o96_3 P, by kernel_rfl, rfl⟩, rfl, by kernel_rfl, rfl, rfl, rfl, by decide +kernel, rfl⟩
def bd_ip_address : List Stmt := (fdOf (topSt 8)).2.1
def sc_ip_address : Sc := ⟨(fdOf (topSt 8)).2.2, [Str.ofString "text"], [Str.ofString "Address", Str.ofString "octets_of_six", Str.ofString "octets_of_four"], [], []⟩
def fd_ip_address (P : Params) : FuncData := (match (o103_3 P).data with | .func f => f | _ => default)
theorem fn_ip_address (P : Params) : Fn (KT P) 103 sc_ip_address (fd_ip_address P) bd_ip_address := ⟨⟨o103_3 P, by kernel_rfl, rfl⟩, rfl, by kernel_rfl, rfl, rfl, rfl, by decide +kernel, rfl⟩
def bd_PlainReader_init : List Stmt := (fdOf (clsSt (topSt 10) 0)).2.1
def sc_PlainReader_init : Sc := ⟨(fdOf (clsSt (topSt 10) 0)).2.2, [Str.ofString "self", Str.ofString "data", Str.ofString "pieces"], [], [], []⟩
def fd_PlainReader_init (P : Params) : FuncData := (match (o130_5 P).data with | .func f => f | _ => default)
theorem fn_PlainReader_init (P : Params) : Fn (KT P) 130 sc_PlainReader_init (fd_PlainReader_init P) bd_PlainReader_init := ⟨⟨o130_5 P, by kernel_rfl, rfl⟩, rfl, by kernel_rfl, rfl, rfl, rfl, by decide +kernel, rfl⟩
def bd_PlainReader_read : List Stmt := (fdOf (clsSt (topSt 10) 1)).2.1
def sc_PlainReader_read : Sc := ⟨(fdOf (clsSt (topSt 10) 1)).2.2, [Str.ofString "self", Str.ofString "n", Str.ofString "size", Str.ofString "piece"], [Str.ofString "min"], [], []⟩
def fd_PlainReader_read (P : Params) : FuncData := (match (o137_5 P).data with | .func f => f | _ => default)
theorem fn_PlainReader_read (P : Params) : Fn (KT P) 137 sc_PlainReader_read (fd_PlainReader_read P) bd_PlainReader_read := ⟨⟨o137_5 P, by kernel_rfl, rfl⟩, rfl, by kernel_rfl, rfl, rfl, rfl, by decide +kernel, rfl⟩
def bd_PlainReader_readexactly : List Stmt := (fdOf (clsSt (topSt 10) 2)).2.1
def sc_PlainReader_readexactly : Sc := ⟨(fdOf (clsSt (topSt 10) 2)).2.2, [Str.ofString "self", Str.ofString "n", Str.ofString "piece"], [Str.ofString "len", Str.ofString "IncompleteReadError"], [], []⟩
def fd_PlainReader_readexactly (P : Params) : FuncData := (match (o144_5 P).data with | .func f => f | _ => default)
theorem fn_PlainReader_readexactly (P : Params) : Fn (KT P) 144 sc_PlainReader_readexactly (fd_PlainReader_readexactly P) bd_PlainReader_readexactly := ⟨⟨o144_5 P, by kernel_rfl, rfl⟩, rfl, by kernel_rfl, rfl, rfl, rfl, by decide +kernel, rfl⟩
def bd_PlainReader_readuntil : List Stmt := (fdOf (clsSt (topSt 10) 3)).2.1
def sc_PlainReader_readuntil : Sc := ⟨(fdOf (clsSt (topSt 10) 3)).2.2, [Str.ofString "self", Str.ofString "place"], [Str.ofString "IncompleteReadError"], [], []⟩
def fd_PlainReader_readuntil (P : Params) : FuncData := (match (o151_5 P).data with | .func f => f | _ => default)
theorem fn_PlainReader_readuntil (P : Params) : Fn (KT P) 151 sc_PlainReader_readuntil (fd_PlainReader_readuntil P) bd_PlainReader_readuntil := ⟨⟨o151_5 P, by kernel_rfl, rfl⟩, rfl, by kernel_rfl, rfl, rfl, rfl, by decide +kernel, rfl⟩
def bd_ProxyData_init : List Stmt := (fdOf (clsSt (topSt 19) 0)).2.1
def sc_ProxyData_init : Sc := ⟨(fdOf (clsSt (topSt 19) 0)).2.2, [Str.ofString "self", Str.ofString "version"], [Str.ofString "bytearray"], [], []⟩
def fd_ProxyData_init (P : Params) : FuncData := (match (o204_9 P).data with | .func f => f | _ => default)
theorem fn_ProxyData_init (P : Params) : Fn (KT P) 204 sc_ProxyData_init (fd_ProxyData_init P) bd_ProxyData_init := ⟨⟨o204_9 P, by kernel_rfl, rfl⟩, rfl, by kernel_rfl, rfl, rfl, rfl, by decide +kernel, rfl⟩
def bd_ProxyData_valid : List Stmt := (fdOf (clsSt (topSt 19) 1)).2.1
def sc_ProxyData_valid : Sc := ⟨(fdOf (clsSt (topSt 19) 1)).2.2, [Str.ofString "self"], [], [], []⟩
def fd_ProxyData_valid (P : Params) : FuncData := (match (o211_9 P).data with | .func f => f | _ => default)
theorem fn_ProxyData_valid (P : Params) : Fn (KT P) 211 sc_ProxyData_valid (fd_ProxyData_valid P) bd_ProxyData_valid := ⟨⟨o211_9 P, by kernel_rfl, rfl⟩, rfl, by kernel_rfl, rfl, rfl, rfl, by decide +kernel, rfl⟩
def bd_ProxyData_tlv : List Stmt := (fdOf (clsSt (topSt 19) 2)).2.1
def sc_ProxyData_tlv : Sc := ⟨(fdOf (clsSt (topSt 19) 2)).2.2, [Str.ofString "self"], [Str.ofString "_wall"], [], []⟩
def fd_ProxyData_tlv (P : Params) : FuncData := (match (o219_9 P).data with | .func f => f | _ => default)
theorem fn_ProxyData_tlv (P : Params) : Fn (KT P) 219 sc_ProxyData_tlv (fd_ProxyData_tlv P) bd_ProxyData_tlv := ⟨⟨o219_9 P, by kernel_rfl, rfl⟩, rfl, by kernel_rfl, rfl, rfl, rfl, by decide +kernel, rfl⟩
def bd_ProxyData_with_error : List Stmt := (fdOf (clsSt (topSt 19) 3)).2.1
def sc_ProxyData_with_error : Sc := ⟨(fdOf (clsSt (topSt 19) 3)).2.2, [Str.ofString "self", Str.ofString "error_msg", Str.ofString "log_prefix"], [], [], []⟩
def fd_ProxyData_with_error (P : Params) : FuncData := (match (o228_9 P).data with | .func f => f | _ => default)
theorem fn_ProxyData_with_error (P : Params) : Fn (KT P) 228 sc_ProxyData_with_error (fd_ProxyData_with_error P) bd_ProxyData_with_error := ⟨⟨o228_9 P, by kernel_rfl, rfl⟩, rfl, by kernel_rfl, rfl, rfl, rfl, by decide +kernel, rfl⟩
def bd_ProxyData_bool : List Stmt := (fdOf (clsSt (topSt 19) 4)).2.1
def sc_ProxyData_bool : Sc := ⟨(fdOf (clsSt (topSt 19) 4)).2.2, [Str.ofString "self"], [], [], []⟩
def fd_ProxyData_bool (P : Params) : FuncData := (match (o235_9 P).data with | .func f => f | _ => default)
theorem fn_ProxyData_bool (P : Params) : Fn (KT P) 235 sc_ProxyData_bool (fd_ProxyData_bool P) bd_ProxyData_bool := ⟨⟨o235_9 P, by kernel_rfl, rfl⟩, rfl, by kernel_rfl, rfl, rfl, rfl, by decide +kernel, rfl⟩
def bd_get_v1 : List Stmt := (fdOf (topSt 22)).2.1
def sc_get_v1 : Sc := ⟨(fdOf (topSt 22)).2.2, [Str.ofString "reader", Str.ofString "initial", Str.ofString "proxy_data", Str.ofString "data", Str.ofString "proto", Str.ofString "af", Str.ofString "get_ap", Str.ofString "addr", Str.ofString "src_addr", Str.ofString "dst_addr", Str.ofString "port"], [Str.ofString "ProxyData", Str.ofString "bytearray", Str.ofString "len", Str.ofString "PROTO", Str.ofString "AF", Str.ofString "RE_ADDR_ALLOWCHARS", Str.ofString "ip_address", Str.ofString "ValueError", Str.ofString "RE_PORT_NOLEADZERO", Str.ofString "int"], [Str.ofString "data_parts"], []⟩
def fd_get_v1 (P : Params) : FuncData := (match (o256_10 P).data with | .func f => f | _ => default)
theorem fn_get_v1 (P : Params) : Fn (KT P) 256 sc_get_v1 (fd_get_v1 P) bd_get_v1 := ⟨⟨o256_10 P, by kernel_rfl, rfl⟩, rfl, by kernel_rfl, rfl, rfl, rfl, by decide +kernel, rfl⟩
def bd_get_v2 : List Stmt := (fdOf (topSt 23)).2.1
def sc_get_v2 : Sc := ⟨(fdOf (topSt 23)).2.2, [Str.ofString "initial", Str.ofString "proxy_data", Str.ofString "whole_raw", Str.ofString "read_rest", Str.ofString "signature", Str.ofString "header", Str.ofString "tail_part", Str.ofString "ver_cmd", Str.ofString "fam_proto", Str.ofString "len_tail", Str.ofString "_", Str.ofString "size", Str.ofString "ports", Str.ofString "addr_len", Str.ofString "addr_struct", Str.ofString "s_addr", Str.ofString "d_addr", Str.ofString "s_port", Str.ofString "d_port"], [Str.ofString "ProxyData", Str.ofString "bytearray", Str.ofString "V2_SIGNATURE", Str.ofString "int", Str.ofString "V2_VALID_CMDS", Str.ofString "V2_VALID_FAMS", Str.ofString "V2_VALID_PROS", Str.ofString "V2_PARSE_ADDR_FAMPRO", Str.ofString "AF", Str.ofString "len", Str.ofString "bytes", Str.ofString "IPv4Address", Str.ofString "IPv6Address"], [Str.ofString "reader"], []⟩
def fd_get_v2 (P : Params) : FuncData := (match (o264_10 P).data with | .func f => f | _ => default)
theorem fn_get_v2 (P : Params) : Fn (KT P) 264 sc_get_v2 (fd_get_v2 P) bd_get_v2 := ⟨⟨o264_10 P, by kernel_rfl, rfl⟩, rfl, by kernel_rfl, rfl, rfl, rfl, by decide +kernel, rfl⟩
def bd_get_proxy : List Stmt := (fdOf (topSt 24)).2.1
def sc_get_proxy : Sc := ⟨(fdOf (topSt 24)).2.2, [Str.ofString "reader_func", Str.ofString "signature"], [Str.ofString "_get_v1", Str.ofString "V2_SIGNATURE", Str.ofString "_get_v2", Str.ofString "ProxyData", Str.ofString "Exception"], [], []⟩
def fd_get_proxy (P : Params) : FuncData := (match (o271_10 P).data with | .func f => f | _ => default)
theorem fn_get_proxy (P : Params) : Fn (KT P) 271 sc_get_proxy (fd_get_proxy P) bd_get_proxy := ⟨⟨o271_10 P, by kernel_rfl, rfl⟩, rfl, by kernel_rfl, rfl, rfl, rfl, by decide +kernel, rfl⟩
def bd_law_header : List Stmt := (fdOf (topSt 27)).2.1
def sc_law_header : Sc := ⟨(fdOf (topSt 27)).2.2, [Str.ofString "number", Str.ofString "turn", Str.ofString "command", Str.ofString "family", Str.ofString "protocol", Str.ofString "count", Str.ofString "place", Str.ofString "tail", Str.ofString "head", Str.ofString "octets"], [Str.ofString "_law_places", Str.ofString "bytes", Str.ofString "range", Str.ofString "len"], [Str.ofString "seed"], []⟩
def fd_law_header (P : Params) : FuncData := (match (o277_11 P).data with | .func f => f | _ => default)
theorem fn_law_header (P : Params) : Fn (KT P) 277 sc_law_header (fd_law_header P) bd_law_header := ⟨⟨o277_11 P, by kernel_rfl, rfl⟩, rfl, by kernel_rfl, rfl, rfl, rfl, by decide +kernel, rfl⟩
def bd_law_told : List Stmt := (fdOf (topSt 28)).2.1
def sc_law_told : Sc := ⟨(fdOf (topSt 28)).2.2, [Str.ofString "octets", Str.ofString "command", Str.ofString "family", Str.ofString "protocol", Str.ofString "end", Str.ofString "count"], [Str.ofString "len", Str.ofString "_law_places"], [], []⟩
def fd_law_told (P : Params) : FuncData := (match (o284_11 P).data with | .func f => f | _ => default)
theorem fn_law_told (P : Params) : Fn (KT P) 284 sc_law_told (fd_law_told P) bd_law_told := ⟨⟨o284_11 P, by kernel_rfl, rfl⟩, rfl, by kernel_rfl, rfl, rfl, rfl, by decide +kernel, rfl⟩
def bd_law_same : List Stmt := (fdOf (topSt 29)).2.1
def sc_law_same : Sc := ⟨(fdOf (topSt 29)).2.2, [Str.ofString "proxy", Str.ofString "octets", Str.ofString "told", Str.ofString "reader", Str.ofString "command", Str.ofString "family", Str.ofString "protocol", Str.ofString "rest", Str.ofString "behind", Str.ofString "right", Str.ofString "width", Str.ofString "ports"], [Str.ofString "bytes", Str.ofString "len"], [Str.ofString "address"], []⟩
def fd_law_same (P : Params) : FuncData := (match (o289_11 P).data with | .func f => f | _ => default)
theorem fn_law_same (P : Params) : Fn (KT P) 289 sc_law_same (fd_law_same P) bd_law_same := ⟨⟨o289_11 P, by kernel_rfl, rfl⟩, rfl, by kernel_rfl, rfl, rfl, rfl, by decide +kernel, rfl⟩
def bd_law : List Stmt := (fdOf (topSt 30)).2.1
def sc_law : Sc := ⟨(fdOf (topSt 30)).2.2, [Str.ofString "script", Str.ofString "right", Str.ofString "drawn", Str.ofString "turn", Str.ofString "octets", Str.ofString "sizes", Str.ofString "reader", Str.ofString "told", Str.ofString "proxy"], [Str.ofString "range", Str.ofString "len", Str.ofString "_law_header", Str.ofString "PlainReader", Str.ofString "get_proxy", Str.ofString "IncompleteReadError", Str.ofString "_law_told", Str.ofString "_law_same"], [], []⟩
def fd_law (P : Params) : FuncData := (match (o296_11 P).data with | .func f => f | _ => default)
theorem fn_law (P : Params) : Fn (KT P) 296 sc_law (fd_law P) bd_law := ⟨⟨o296_11 P, by kernel_rfl, rfl⟩, rfl, by kernel_rfl, rfl, rfl, rfl, by decide +kernel, rfl⟩
theorem gl__wall (P : Params) : nsIn (KT P) mainGlobals "_wall" = some (some (.ref 21)) := by kernel_rfl
theorem gl_Allowed (P : Params) : nsIn (KT P) mainGlobals "Allowed" = some (some (.ref 45)) := by kernel_rfl
theorem gl_Address (P : Params) : nsIn (KT P) mainGlobals "Address" = some (some (.ref 66)) := by kernel_rfl
theorem gl_IPv4Address (P : Params) : nsIn (KT P) mainGlobals "IPv4Address" = some (some (.ref 77)) := by kernel_rfl
theorem gl_IPv6Address (P : Params) : nsIn (KT P) mainGlobals "IPv6Address" = some (some (.ref 84)) := by kernel_rfl
theorem gl_octets_of_four (P : Params) : nsIn (KT P) mainGlobals "octets_of_four" = some (some (.ref 91)) := by kernel_rfl
theorem gl_octets_of_six (P : Params) : nsIn (KT P) mainGlobals "octets_of_six" = some (some (.ref 96)) := by kernel_rfl
theorem gl_ip_address (P : Params) : nsIn (KT P) mainGlobals "ip_address" = some (some (.ref 103)) := by kernel_rfl
theorem gl_IncompleteReadError (P : Params) : nsIn (KT P) mainGlobals "IncompleteReadError" = some (some (.ref 113)) := by kernel_rfl
theorem gl_PlainReader (P : Params) : nsIn (KT P) mainGlobals "PlainReader" = some (some (.ref 154)) := by kernel_rfl
theorem gl_V2_SIGNATURE (P : Params) : nsIn (KT P) mainGlobals "V2_SIGNATURE" = some (some (.bytes ([13, 10, 13, 10, 0, 13, 10, 81, 85, 73, 84, 10] : List UInt8).toArray 384)) := by kernel_rfl
theorem gl_AF (P : Params) : nsIn (KT P) mainGlobals "AF" = some (some (.ref 168)) := by kernel_rfl
theorem gl_PROTO (P : Params) : nsIn (KT P) mainGlobals "PROTO" = some (some (.ref 182)) := by kernel_rfl
theorem gl_V2_VALID_CMDS (P : Params) : nsIn (KT P) mainGlobals "V2_VALID_CMDS" = some (some (.ref 187)) := by kernel_rfl
theorem gl_V2_VALID_FAMS (P : Params) : nsIn (KT P) mainGlobals "V2_VALID_FAMS" = some (some (.ref 188)) := by kernel_rfl
theorem gl_V2_VALID_PROS (P : Params) : nsIn (KT P) mainGlobals "V2_VALID_PROS" = some (some (.ref 189)) := by kernel_rfl
theorem gl_V2_PARSE_ADDR_FAMPRO (P : Params) : nsIn (KT P) mainGlobals "V2_PARSE_ADDR_FAMPRO" = some (some (.ref 190)) := by kernel_rfl
theorem gl_ProxyData (P : Params) : nsIn (KT P) mainGlobals "ProxyData" = some (some (.ref 238)) := by kernel_rfl
theorem gl_RE_ADDR_ALLOWCHARS (P : Params) : nsIn (KT P) mainGlobals "RE_ADDR_ALLOWCHARS" = some (some (.ref 244)) := by kernel_rfl
theorem gl_RE_PORT_NOLEADZERO (P : Params) : nsIn (KT P) mainGlobals "RE_PORT_NOLEADZERO" = some (some (.ref 247)) := by kernel_rfl
theorem gl__get_v1 (P : Params) : nsIn (KT P) mainGlobals "_get_v1" = some (some (.ref 256)) := by kernel_rfl
theorem gl__get_v2 (P : Params) : nsIn (KT P) mainGlobals "_get_v2" = some (some (.ref 264)) := by kernel_rfl
theorem gl_get_proxy (P : Params) : nsIn (KT P) mainGlobals "get_proxy" = some (some (.ref 271)) := by kernel_rfl
theorem gl__law_places (P : Params) : nsIn (KT P) mainGlobals "_law_places" = some (some (.ref 272)) := by kernel_rfl
theorem gl__law_header (P : Params) : nsIn (KT P) mainGlobals "_law_header" = some (some (.ref 277)) := by kernel_rfl
theorem gl__law_told (P : Params) : nsIn (KT P) mainGlobals "_law_told" = some (some (.ref 284)) := by kernel_rfl
theorem gl__law_same (P : Params) : nsIn (KT P) mainGlobals "_law_same" = some (some (.ref 289)) := by kernel_rfl
theorem gl_law (P : Params) : nsIn (KT P) mainGlobals "law" = some (some (.ref 296)) := by kernel_rfl
theorem bl_len (P : Params) : nsIn (KT P) mainGlobals "len" = some none ∧ bootBuiltins "len" = some (.builtin "len") ∧ ("len" : Str) ≠ "__name__" := ⟨by kernel_rfl, by decide +kernel, by decide +kernel⟩
theorem bl_min (P : Params) : nsIn (KT P) mainGlobals "min" = some none ∧ bootBuiltins "min" = some (.builtin "min") ∧ ("min" : Str) ≠ "__name__" := ⟨by kernel_rfl, by decide +kernel, by decide +kernel⟩
theorem bl_max (P : Params) : nsIn (KT P) mainGlobals "max" = some none ∧ bootBuiltins "max" = some (.builtin "max") ∧ ("max" : Str) ≠ "__name__" := ⟨by kernel_rfl, by decide +kernel, by decide +kernel⟩
theorem bl_any (P : Params) : nsIn (KT P) mainGlobals "any" = some none ∧ bootBuiltins "any" = some (.builtin "any") ∧ ("any" : Str) ≠ "__name__" := ⟨by kernel_rfl, by decide +kernel, by decide +kernel⟩
theorem bl_all (P : Params) : nsIn (KT P) mainGlobals "all" = some none ∧ bootBuiltins "all" = some (.builtin "all") ∧ ("all" : Str) ≠ "__name__" := ⟨by kernel_rfl, by decide +kernel, by decide +kernel⟩
theorem bl_bytes (P : Params) : nsIn (KT P) mainGlobals "bytes" = some none ∧ bootBuiltins "bytes" = some (.type "bytes") ∧ ("bytes" : Str) ≠ "__name__" := ⟨by kernel_rfl, by decide +kernel, by decide +kernel⟩
theorem bl_bytearray (P : Params) : nsIn (KT P) mainGlobals "bytearray" = some none ∧ bootBuiltins "bytearray" = some (.type "bytearray") ∧ ("bytearray" : Str) ≠ "__name__" := ⟨by kernel_rfl, by decide +kernel, by decide +kernel⟩
theorem bl_range (P : Params) : nsIn (KT P) mainGlobals "range" = some none ∧ bootBuiltins "range" = some (.type "range") ∧ ("range" : Str) ≠ "__name__" := ⟨by kernel_rfl, by decide +kernel, by decide +kernel⟩
theorem bl_int (P : Params) : nsIn (KT P) mainGlobals "int" = some none ∧ bootBuiltins "int" = some (.type "int") ∧ ("int" : Str) ≠ "__name__" := ⟨by kernel_rfl, by decide +kernel, by decide +kernel⟩
theorem bl_Exception (P : Params) : nsIn (KT P) mainGlobals "Exception" = some none ∧ bootBuiltins "Exception" = some (.type "Exception") ∧ ("Exception" : Str) ≠ "__name__" := ⟨by kernel_rfl, by decide +kernel, by decide +kernel⟩
theorem bl_ValueError (P : Params) : nsIn (KT P) mainGlobals "ValueError" = some none ∧ bootBuiltins "ValueError" = some (.type "ValueError") ∧ ("ValueError" : Str) ≠ "__name__" := ⟨by kernel_rfl, by decide +kernel, by decide +kernel⟩
theorem bl_ConnectionError (P : Params) : nsIn (KT P) mainGlobals "ConnectionError" = some none ∧ bootBuiltins "ConnectionError" = some (.type "ConnectionError") ∧ ("ConnectionError" : Str) ≠ "__name__" := ⟨by kernel_rfl, by decide +kernel, by decide +kernel⟩
theorem bl_str (P : Params) : nsIn (KT P) mainGlobals "str" = some none ∧ bootBuiltins "str" = some (.type "str") ∧ ("str" : Str) ≠ "__name__" := ⟨by kernel_rfl, by decide +kernel, by decide +kernel⟩
theorem bl_sorted (P : Params) : nsIn (KT P) mainGlobals "sorted" = some none ∧ bootBuiltins "sorted" = some (.builtin "sorted") ∧ ("sorted" : Str) ≠ "__name__" := ⟨by kernel_rfl, by decide +kernel, by decide +kernel⟩
theorem cls_Reader (P : Params) : ClsOk (KT P) 154 ["data", "pieces"] := ClsOk.of (by kernel_rfl)
abbrev pxNames : List Str := ["version", "command", "family", "protocol", "src_addr", "dst_addr", "src_port", "dst_port", "rest", "whole_raw", "tlv_start", "error", "_tlv"]
theorem cls_Proxy (P : Params) : ClsOk (KT P) 238 pxNames := ClsOk.of (by kernel_rfl)
theorem cls_Address (P : Params) : ClsOk (KT P) 66 ["version", "packed"] := ClsOk.of (by kernel_rfl)

end
end Px
end

/- Wkb -/
section
open PySem PySem.W PySem.Calls PyProof.Rows
set_option Elab.async false
set_option maxRecDepth 100000
set_option maxHeartbeats 4000000
set_option linter.unusedVariables false
namespace Px
noncomputable section
structure Pieces (ps : List Value) : Prop where
  le : ps.length ≤ 1000
  at_ : ∀ v ∈ ps, ∃ (q : Nat) (t : Tok), 1 ≤ q ∧ v = .int q t
abbrev rdNames : List Str := ["data", "pieces"]
section
variable {prog : Program} {w : World} {H : Heap} {TB : List TabSpec} {os : OsState} {mg mb : Str → Option Value}
variable {A : Around} {fr R : List Fm} {F : Fct} {s : Shared} {R' : Result → Shared → Prop}

theorem ct_read {x dx pl : Addr} {D : List UInt8} {td t : Tok} {ps : List Value} {pn n0 N : Nat} {es : List DictEntry} (G : Gd (KT w.params) H TB mg mb) (hroom : A.depth < 900) (hh : A.handled = none) (hu : A.units < 9000)
    (C : Cx H TB os fr ((x, instObj 154 dx) :: (dx, dictOf es n0) :: (pl, lstO ps pn) :: F) s) (a : AttrsAre rdNames es [.bytes D.toArray td, .ref pl]) (hD : D.length ≤ 16777216) (hp : Pieces ps) (hN0 : 1 ≤ N)
    (k : ∀ q es' n0' pl' ps' pn' td' t' s', 1 ≤ q → q ≤ N → AttrsAre rdNames es' [.bytes (D.drop q).toArray td', .ref pl'] → Pieces ps' → Cx H TB os fr ((x, instObj 154 dx) :: (dx, dictOf es' n0') :: (pl', lstO ps' pn') :: F) s' →
      R' (.ok (.ret (.bytes (D.take q).toArray t'))) s') :
    codeC (model prog w) A (.call (.ref 137) ⟨[.ref x, .int N t], []⟩) R' s := by
  refine k_code G C (fn_PlainReader_read _) (Nat.lt_of_lt_of_le hroom (by decide)) [("self", .ref x), ("n", .int N t)] [some (.ref x), some (.int N t), none, none] (BindsTo.of_eq (by kernel_rfl)) rfl (by kernel_rfl) ["size", "piece"] rfl rfl (fun L s C => ?_)
  have hN : sc_PlainReader_read.nm = (["self", "n", "size", "piece"] : List Str) := rfl
  conv in (execs _ _) => arg 1; whnf
  row_room_at pxs
  refine k_truthyList C (by row_room_at px_mem) (Nat.le_trans hp.le (by decide)) (fun _ C => ?_)
  cases ps with
  | nil =>
    rw [if_neg (by decide)]
    row_room_at pxs
    rw [cut_from] at a
    rw [cut_to]
    exact k N _ _ _ _ _ _ _ _ hN0 (Nat.le_refl _) a hp C.pop
  | cons v ps' =>
    obtain ⟨q, tq, hq, rfl⟩ := hp.at_ v (.head _)
    have hz : (Value.int q tq :: ps').length ≤ 16777216 := Nat.le_trans hp.le (by decide)
    rw [if_pos (by rfl)]
    row_room_at pxs
    refine k_itemList (i := 0) C (by row_room_at px_mem) rfl hz ?_
    row_room_at pxs
    refine k_min C hh (fun _ _ C => ?_)
    have e : min (N : Int) q = ((min N q : Nat) : Int) := by omega
    rw [e]
    row_room_at pxs
    refine k_sliceList C (by row_room_at px_mem) (.int _ _) .none hz (fun pl' _ C => ?_)
    have e1 : cut (Value.int q tq :: ps') (some 1) none = ps' := cut_from _ 1
    rw [e1] at C
    row_room_at pxs
    rw [cut_from] at a
    rw [cut_to]
    exact k (min N q) _ _ _ _ _ _ _ _ (by omega) (by omega) a ⟨Nat.le_of_succ_le hp.le, fun v hv => hp.at_ v (.tail _ hv)⟩ (C.pop.sel (by row_room_at px_sel))
end

end
end Px
end

/- Wkc -/
section
open PySem PySem.W PySem.Calls PyProof.Rows
set_option Elab.async false
set_option maxRecDepth 100000
set_option maxHeartbeats 4000000
set_option linter.unusedVariables false
namespace Px
noncomputable section
section
variable {prog : Program} {w : World} {H : Heap} {TB : List TabSpec} {os : OsState} {mg mb : Str → Option Value}
variable {A : Around} {fr R : List Fm} {F : Fct} {s : Shared} {R' : Result → Shared → Prop}
abbrev pxNew (v : Value) (t te : Tok) (b : Addr) : List Value := [v, .none, .none, .none, .none, .none, .none, .none, .bytes ([] : List UInt8).toArray t, .ref b, .none, .str (Str.ofString "") te, .none]
theorem ct_pxInit {x dx : Addr} {v : Value} (G : Gd (KT w.params) H TB mg mb) (hroom : A.depth < 990) (hg : A.guards = some [])
    (C : Cx H TB os fr ((x, instObj 238 dx) :: (dx, dictOf [] 0) :: F) s)
    (k : ∀ t te b es n s', AttrsAre pxNames es (pxNew v t te b) → Cx H TB os fr ((b, baO []) :: (x, instObj 238 dx) :: (dx, dictOf es n) :: F) s' → R' (.ok (.ret .none)) s') :
    codeC (model prog w) A (.call (.ref 204) ⟨[.ref x], [("version", v)]⟩) R' s := by
  refine k_code G C (fn_ProxyData_init _) (Nat.lt_of_lt_of_le hroom (by decide)) [("self", .ref x), ("version", v)] [some (.ref x), some v] (BindsTo.of_eq (by kernel_rfl)) rfl (by kernel_rfl) [] rfl rfl (fun L s C => ?_)
  have hN : sc_ProxyData_init.nm = (["self", "version"] : List Str) := rfl
  have a := AttrsAre.nil pxNames
  conv in (execs _ _) => arg 1; whnf
  row_room_at pxs
  exact k _ _ _ _ _ _ a C.pop
theorem under_make {c : Addr} {rest : List Value} {kw : List (Str × Value)} (hg : A.guards = some []) (hroom : A.depth < 900) : (A.under (.builtin "type.__call__" ⟨.ref c :: rest, kw⟩)).depth < 990 ∧ (A.under (.builtin "type.__call__" ⟨.ref c :: rest, kw⟩)).guards = some [] := by
  have hw : (Code.builtin "type.__call__" ⟨.ref c :: rest, kw⟩).weight = 1 := by rfl
  refine ⟨?_, ?_⟩
  · show A.depth + (Code.builtin "type.__call__" ⟨.ref c :: rest, kw⟩).weight < 990
    rw [hw]; omega
  · show pushGuards (Code.builtin "type.__call__" ⟨.ref c :: rest, kw⟩).guards A.guards = some []
    rw [hg]
    have : (Code.builtin "type.__call__" ⟨.ref c :: rest, kw⟩).guards = [] := by
      unfold Code.guards
      rw [if_neg]
      show ¬ (guardIds.contains "type.__call__" = true)
      decide +kernel
    rw [this]; rfl
theorem ct_pxMake {v : Value} {fs : Fct} (G : Gd (KT w.params) H TB mg mb) (hroom : A.depth < 900) (hg : A.guards = some []) (C : Cx H TB os fr fs s)
    (k : ∀ x dx t te b es n s', AttrsAre pxNames es (pxNew v t te b) → Cx H TB os fr ((b, baO []) :: (x, instObj 238 dx) :: (dx, dictOf es n) :: fs) s' → R' (.ok (.ret (.ref x))) s') :
    codeC (model prog w) A (.call (.ref 238) ⟨[], [("version", v)]⟩) R' s := by
  obtain ⟨h1, h2⟩ := under_make (c := 238) (rest := []) (kw := [("version", v)]) hg hroom
  exact k_make G C (by kernel_rfl) (by kernel_rfl) (by kernel_rfl) fun x dx s C => ct_pxInit G h1 h2 C fun t te b es n s' a C => ⟨rfl, k _ _ _ _ _ _ _ _ a C⟩
/-- with_error: the words are kept, the object comes back -/
theorem ct_error {x dx : Addr} {es : List DictEntry} {n : Nat} {us us' : List Value} {args : List Value} {msg lp : Value} (G : Gd (KT w.params) H TB mg mb) (hroom : A.depth < 990)
    (C : Cx H TB os fr ((x, instObj 238 dx) :: (dx, dictOf es n) :: F) s) (a : AttrsAre pxNames es us) (hu : UAt msg pxNames us "error" us') (hb : BindsTo s (fd_ProxyData_with_error w.params) ⟨.ref x :: msg :: args, []⟩ [("self", .ref x), ("error_msg", msg), ("log_prefix", lp)])
    (k : ∀ es' n' s', AttrsAre pxNames es' us' → Cx H TB os fr ((x, instObj 238 dx) :: (dx, dictOf es' n') :: F) s' → R' (.ok (.ret (.ref x))) s') :
    codeC (model prog w) A (.call (.ref 228) ⟨.ref x :: msg :: args, []⟩) R' s := by
  refine k_code G C (fn_ProxyData_with_error _) (Nat.lt_of_lt_of_le hroom (by decide)) [("self", .ref x), ("error_msg", msg), ("log_prefix", lp)] [some (.ref x), some msg, some lp] hb rfl (by kernel_rfl) [] rfl rfl (fun L s C => ?_)
  have hN : sc_ProxyData_with_error.nm = (["self", "error_msg", "log_prefix"] : List Str) := rfl
  conv in (execs _ _) => arg 1; whnf
  row_room_at px
  row_room_at px
  row_room_at px
  row_room_at px
  refine m_set G C (by row_room_at px_mem) (by row_room_at px_mem) a (cls_Proxy _) hu (by decide) (by row_room_at px_upd) (fun _ _ _ a C => ?_)
  dsimp only
  row_room_at pxs
  exact k _ _ _ a C.pop
/-- the reader is made -/
theorem ct_rdInit {x dx pl : Addr} {D : List UInt8} {td : Tok} (G : Gd (KT w.params) H TB mg mb) (hroom : A.depth < 990)
    (C : Cx H TB os fr ((x, instObj 154 dx) :: (dx, dictOf [] 0) :: F) s)
    (k : ∀ es n s', AttrsAre rdNames es [.bytes D.toArray td, .ref pl] → Cx H TB os fr ((x, instObj 154 dx) :: (dx, dictOf es n) :: F) s' → R' (.ok (.ret .none)) s') :
    codeC (model prog w) A (.call (.ref 130) ⟨[.ref x, .bytes D.toArray td, .ref pl], []⟩) R' s := by
  refine k_code G C (fn_PlainReader_init _) (Nat.lt_of_lt_of_le hroom (by decide)) [("self", .ref x), ("data", .bytes D.toArray td), ("pieces", .ref pl)] [some (.ref x), some (.bytes D.toArray td), some (.ref pl)] (BindsTo.of_eq (by kernel_rfl)) rfl (by kernel_rfl) [] rfl rfl (fun L s C => ?_)
  have hN : sc_PlainReader_init.nm = (["self", "data", "pieces"] : List Str) := rfl
  have a := AttrsAre.nil rdNames
  conv in (execs _ _) => arg 1; whnf
  row_room_at pxs
  exact k _ _ _ a C.pop
theorem ct_rdMake {pl : Addr} {D : List UInt8} {td : Tok} {fs : Fct} (G : Gd (KT w.params) H TB mg mb) (hroom : A.depth < 900) (hg : A.guards = some []) (C : Cx H TB os fr fs s)
    (k : ∀ x dx es n s', AttrsAre rdNames es [.bytes D.toArray td, .ref pl] → Cx H TB os fr ((x, instObj 154 dx) :: (dx, dictOf es n) :: fs) s' → R' (.ok (.ret (.ref x))) s') :
    codeC (model prog w) A (.call (.ref 154) ⟨[.bytes D.toArray td, .ref pl], []⟩) R' s := by
  obtain ⟨h1, h2⟩ := under_make (c := 154) (rest := [.bytes D.toArray td, .ref pl]) (kw := []) hg hroom
  exact k_make G C (by kernel_rfl) (by kernel_rfl) (by kernel_rfl) fun x dx s C => ct_rdInit G h1 C fun es n s' a C => ⟨rfl, k _ _ _ _ _ a C⟩
/-- just so many octets -/
theorem ct_exactly {x dx : Addr} {D : List UInt8} {td t : Tok} {n0 N : Nat} {es : List DictEntry} {pv : Value} (G : Gd (KT w.params) H TB mg mb) (hroom : A.depth < 990)
    (C : Cx H TB os fr ((x, instObj 154 dx) :: (dx, dictOf es n0) :: F) s) (a : AttrsAre rdNames es [.bytes D.toArray td, pv]) (hD : D.length ≤ 16777216) (hN0 : N ≤ D.length)
    (k : ∀ es' n0' td' t' s', AttrsAre rdNames es' [.bytes (D.drop N).toArray td', pv] → Cx H TB os fr ((x, instObj 154 dx) :: (dx, dictOf es' n0') :: F) s' → R' (.ok (.ret (.bytes (D.take N).toArray t'))) s') :
    codeC (model prog w) A (.call (.ref 144) ⟨[.ref x, .int N t], []⟩) R' s := by
  refine k_code G C (fn_PlainReader_readexactly _) (Nat.lt_of_lt_of_le hroom (by decide)) [("self", .ref x), ("n", .int N t)] [some (.ref x), some (.int N t), none] (BindsTo.of_eq (by kernel_rfl)) rfl (by kernel_rfl) ["piece"] rfl rfl (fun L s C => ?_)
  have hN : sc_PlainReader_readexactly.nm = (["self", "n", "piece"] : List Str) := rfl
  conv in (execs _ _) => arg 1; whnf
  row_room_at pxs
  have e : decide ((D.length : Int) < N) = false := by rw [decide_eq_false_iff_not]; omega
  rw [e, if_neg Bool.false_ne_true]
  row_room_at pxs
  rw [cut_from] at a
  rw [cut_to]
  exact k _ _ _ _ _ a C.pop
end

end
end Px
end

/- Wkd -/
section
open PySem PySem.W PySem.Calls PyProof.Rows
set_option Elab.async false
set_option maxRecDepth 100000
set_option maxHeartbeats 4000000
set_option linter.unusedVariables false
namespace Px
noncomputable section
def st_rr : Stmt := (bd_get_v2[2]?).getD (.Pass default)
def bd_rr : List Stmt := (fdOf st_rr).2.1
def ag_rr : Arguments := (fdOf st_rr).1
def sp_rr : Scope := (fdOf st_rr).2.2
def sc_rr : Sc := ⟨sp_rr, ["field_name", "field_buf", "field_len", "left", "piece"], ["len", "ConnectionError"], [], ["reader"]⟩
theorem good_rr : (sc_rr.good && !sc_rr.scope.isGenerator && !sc_rr.scope.isCoroutine) = true := by decide +kernel
theorem all_rr : sc_rr.scope.names.all (fun x => x.2 != .cell) = true := by kernel_rfl
def wtest : Stmt → Expr
  | .While t _ _ _ => t
  | _ => default
def wbody : Stmt → List Stmt
  | .While _ b _ _ => b
  | _ => default
abbrev fdRR (q : Str) (clos : List (Str × Addr)) (doc pm ctv : Value) (c' : Addr) : FuncData := fnX "read_rest" q ag_rr bd_rr sp_rr clos .none .none doc pm none (.ref c') ctv
section
variable {prog : Program} {w : World} {H : Heap} {TB : List TabSpec} {tb : TabSpec} {os : OsState} {mg mb : Str → Option Value}
variable {A : Around} {fr R : List Fm} {F : Fct} {s : Shared} {R' : Result → Shared → Prop}
theorem ct_rest {f lc x dx pl b c' : Addr} {co : Obj} {y D : List UInt8} {td tn t : Tok} {nameS : Str} {ps : List Value} {pn n0 N : Nat} {es : List DictEntry} {doc pm ctv : Value} (ht : tb.known = some c') (G : Gd (KT w.params) H (tb :: TB) mg mb) (hroom : A.depth < 800) (hh : A.handled = none) (hu : A.units < 8000) (hg : A.guards = some [])
    (hA : A.frames = some (fr.map (·.env))) (hf : (f, ({ cls := .type "function", data := .func (fdRR tb.qual [("reader", lc)] doc pm ctv c') } : Obj)) ∈ F) (hrec : s.heap.CodeRec (.ref c') tb.qual)
    (C : Cx H (tb :: TB) os fr ((b, baO y) :: (x, instObj 154 dx) :: (dx, dictOf es n0) :: (pl, lstO ps pn) :: (lc, co) :: F) s) (hco : co.data = .cell (some (.ref x))) (a : AttrsAre rdNames es [.bytes D.toArray td, .ref pl]) (hD : D.length ≤ 100000) (hy : y.length ≤ 100000) (hp : Pieces ps) (hyN : y.length ≤ N) (hNz : N ≤ 100000) (hns : nameS.length ≤ 500)
    (kOk : N - y.length ≤ D.length → ∀ r c1 c2 es' n0' pl' ps' pn' td' s', AttrsAre rdNames es' [.bytes (D.drop (N - y.length)).toArray td', .ref pl'] → Pieces ps' →
      Cx H (tb :: TB) os fr ((r, tupO [.ref c1, .ref c2]) :: (c2, baO []) :: (c1, baO (y ++ D.take (N - y.length))) :: (x, instObj 154 dx) :: (dx, dictOf es' n0') :: (pl', lstO ps' pn') :: (lc, co) :: F) s' → R' (.ok (.ret (.ref r))) s')
    (kErr : D.length < N - y.length → ∀ e s', Fly H (tb :: TB) os fr F (.type "ConnectionError") e s' → R' (.error (.ref e)) s') :
    codeC (model prog w) A (.call (.ref f) ⟨[.str nameS tn, .ref b, .int N t], []⟩) R' s := by
  refine k_codeO G C (Nat.lt_of_lt_of_le hroom (by decide)) (C.fact _ (by simp only [List.mem_cons]; exact .inr (.inr (.inr (.inr (.inr hf)))))) rfl hrec rfl (sc := sc_rr) rfl rfl rfl good_rr [("field_name", .str nameS tn), ("field_buf", .ref b), ("field_len", .int N t)]
    [some (.str nameS tn), some (.ref b), some (.int N t), none, none] (BindsTo.of_eq (by kernel_rfl)) all_rr ["left", "piece"] rfl rfl (fun L s C => ?_)
  have hN : sc_rr.nm = (["field_name", "field_buf", "field_len", "left", "piece"] : List Str) := rfl
  have hz : y.length ≤ 16777216 := by omega
  conv in (execs _ _) => arg 1; whnf
  row_room_at pxs
  have e0 : (N : Int) - (y.length : Int) = ((N - y.length : Nat) : Int) := by omega
  rw [e0] at C
  refine codeC_while (fun n s' => ∃ j pv es1 n1 pl1 ps1 pn1 td1 tl, j + n = N - y.length ∧ j ≤ D.length ∧ AttrsAre rdNames es1 [.bytes (D.drop j).toArray td1, .ref pl1] ∧ Pieces ps1 ∧
    Cx H (tb :: TB) os (⟨sc_rr, callEnv (fdRR tb.qual [("reader", lc)] doc pm ctv c') L f, L, [some (.str nameS tn), some (.ref b), some (.int N t), some (.int (n : Nat) tl), pv]⟩ :: fr)
      ((b, baO (y ++ D.take j)) :: (x, instObj 154 dx) :: (dx, dictOf es1 n1) :: (pl1, lstO ps1 pn1) :: (lc, co) :: F) s') ?_ (N - y.length) ?_
  rotate_left
  · exact ⟨0, none, es, n0, pl, ps, pn, td, _, by omega, Nat.zero_le _, by rw [List.drop_zero]; exact a, hp, by rw [List.take_zero, List.append_nil]; exact C⟩
  rintro n s' ⟨j, pv, es1, n1, pl1, ps1, pn1, td1, tl, hj, hjD, a1, hp1, C⟩
  have hzj : (y ++ D.take j).length ≤ 16777216 := by simp only [List.length_append, List.length_take]; omega
  row_room_at pxs
  by_cases hn : n = 0
  · subst hn
    rw [if_neg (by decide)]
    row_room_at pxs
    have e1 : cut (y ++ D.take j) (some 0) (some (N : Int)) = y ++ D.take j := by
      have := cut_both (y ++ D.take j) 0 N
      rw [List.drop_zero, Nat.sub_zero] at this
      exact this.trans (List.take_of_length_le (by simp only [List.length_append, List.length_take]; omega))
    have e2 : cut (y ++ D.take j) (some (N : Int)) none = [] := by rw [cut_from, List.drop_eq_nil_of_le (by simp only [List.length_append, List.length_take]; omega)]
    rw [e1, e2] at C
    have ej : j = N - y.length := by omega
    subst ej
    exact kOk hjD _ _ _ _ _ _ _ _ _ _ a1 hp1 (C.pop.sel (by row_room_at px_sel))
  · have hn1 : decide ((n : Int) > 0) = true := by rw [decide_eq_true_eq]; omega
    rw [hn1, if_pos rfl]
    row_room_at pxs
    refine k_free C 0 rfl (by rfl) (by row_room_at px_mem) hco ?_
    refine k_method (f := 137) G C (by row_room_at px_mem) (by row_room_at px_mem) a1 (cls_Reader _) (by kernel_rfl) (by kernel_rfl) (by decide +kernel) ?_
    dsimp only
    refine k_callF1 (K := KT w.params) (by kernel_rfl) ?_
    row_room_at pxs
    refine ⟨C.kin G, ?_⟩
    refine ct_read (N := n) G (by show A.depth + 1 < 900; omega) hh (by show A.units + 3 < 9000; omega) (C.sel (fs' := (x, instObj 154 dx) :: (dx, dictOf es1 n1) :: (pl1, lstO ps1 pn1) :: (b, baO (y ++ D.take j)) :: (lc, co) :: F) (by row_room_at px_sel)) a1 (by rw [List.length_drop]; omega) hp1 (by omega) ?_
    intro q es2 n2 pl2 ps2 pn2 td2 t2 s2 hq1 hq2 a2 hp2 C
    dsimp only
    have hzq : ((D.drop j).take q).length ≤ 16777216 := by rw [List.length_take, List.length_drop]; omega
    row_room_at pxs
    have hm : ((D.drop j).take q).length = min q (D.length - j) := by rw [List.length_take, List.length_drop]
    by_cases he : (D.drop j).take q = []
    · have hl0 : min q (D.length - j) = 0 := by rw [← hm, he]; rfl
      rw [he, if_pos rfl, if_pos (show (!!([] : List UInt8).isEmpty) = true from rfl)]
      row_room_at px
      refine c_raiseCE hh ?_
      row_room_at pxs
      have hlen : (Str.ofString "Connection lost while waiting for ").length = 34 := by decide +kernel
      refine m_joined C hN (by row_room_at px_lat) (by omega) (fun z u s3 C => ?_)
      row_room_at pxs
      refine wpC_any (k_connErr fun e h' a0 Nx => ?_)
      obtain ⟨vs1, hv1, hv2, hv3⟩ := Nx.there
      refine ⟨e, vs1, rfl, hv1, hv3, ?_⟩
      have hfr := Around.frames_deeper (env := callEnv (fdRR tb.qual [("reader", lc)] doc pm ctv c') L f) hA
      exact fly_note (t := s3.toks) C hfr Nx fun s4 Hd => fly_back Hd fun s5 Hd => fly_heldLeave Hd fun s6 Fl => kErr (by omega) _ _ (Fl.sel (by row_room_at px_sel))
    · have hl1 : 1 ≤ min q (D.length - j) := by
        rw [← hm]
        exact List.length_pos_iff.mpr he
      have hie : ((D.drop j).take q).isEmpty = false := by rw [List.isEmpty_eq_false_iff]; exact he
      rw [hie, if_neg (by decide)]
      row_room_at pxs
      have hlt : decide ((n : Int) - (((D.drop j).take q).length : Int) < 0) = false := by rw [decide_eq_false_iff_not, hm]; omega
      rw [hlt, if_neg (by decide)]
      row_room_at pxs
      rw [if_neg (by decide)]
      row_room_at pxs
      refine k_iaddBytes (y := y ++ D.take j) C (by exact hg) (by simp only [List.length_append, List.length_take, List.length_drop]; omega) (by row_room_at px_upd) (fun _ C => ?_)
      row_room_at pxs
      have hmn : (n : Int) - (((D.drop j).take q).length : Int) = ((n - min q (D.length - j) : Nat) : Int) := by rw [hm]; omega
      rw [hmn] at C
      have ey : y ++ D.take j ++ (D.drop j).take q = y ++ D.take (j + min q (D.length - j)) := by
        rw [List.append_assoc, List.take_add]
        congr 2
        rw [List.take_eq_take_iff, List.length_drop]; omega
      have ed : (D.drop j).drop q = D.drop (j + min q (D.length - j)) := by
        rw [List.drop_drop]
        by_cases hq : q ≤ D.length - j
        · rw [Nat.min_eq_left hq]
        · rw [List.drop_eq_nil_of_le (by omega), List.drop_eq_nil_of_le (by omega)]
      rw [ey] at C
      rw [ed] at a2
      exact ⟨n - min q (D.length - j), by omega, j + min q (D.length - j), _, es2, n2, pl2, ps2, pn2, td2, _, by omega, by omega, a2, hp2, C.sel (by row_room_at px_sel)⟩
end

end
end Px
end

/- Wke -/
section
open PySem PySem.W PySem.Calls PyProof.Rows
set_option Elab.async false
set_option maxRecDepth 100000
set_option maxHeartbeats 4000000
set_option linter.unusedVariables false
namespace Px
noncomputable section
theorem set_cmds (P : Params) : (KT P).lookup 187 = some (setO [(0, 447), (1, 448)] 2 ⟨7, #[0, 1], #[], 0, (!P.followText "set-order"), 0, true⟩) := by kernel_rfl
theorem set_fams (P : Params) : (KT P).lookup 188 = some (setO [(0, 452), (1, 453), (2, 454), (3, 455)] 5 ⟨7, #[0, 1, 2, 3], #[], 0, false, 0, true⟩) := by kernel_rfl
theorem set_pros (P : Params) : (KT P).lookup 189 = some (setO [(0, 461), (1, 462), (2, 463)] 4 ⟨7, #[0, 1, 2], #[], 0, false, 0, true⟩) := by kernel_rfl
theorem set_both (P : Params) : (KT P).lookup 190 = some (setO [(33, 470), (34, 471), (17, 468), (18, 469), (49, 472), (50, 473)] 8 ⟨31, #[1, 2, 17, 18, 19, 20], #[], 0, false, 1, true⟩) := by kernel_rfl
section
variable {prog : Program} {w : World} {H : Heap} {TB : List TabSpec} {os : OsState} {mg mb : Str → Option Value}
variable {A : Around} {fr R : List Fm} {F : Fct} {s : Shared} {R' : Result → Shared → Prop}
abbrev adNames : List Str := ["version", "packed"]
theorem ct_adInit {x dx : Addr} {v p : Value} (G : Gd (KT w.params) H TB mg mb) (hroom : A.depth < 990)
    (C : Cx H TB os fr ((x, instObj 66 dx) :: (dx, dictOf [] 0) :: F) s)
    (k : ∀ es n s', AttrsAre adNames es [v, p] → Cx H TB os fr ((x, instObj 66 dx) :: (dx, dictOf es n) :: F) s' → R' (.ok (.ret .none)) s') :
    codeC (model prog w) A (.call (.ref 63) ⟨[.ref x, v, p], []⟩) R' s := by
  refine k_code G C (fn_Address_init _) (Nat.lt_of_lt_of_le hroom (by decide)) [("self", .ref x), ("version", v), ("packed", p)] [some (.ref x), some v, some p] (BindsTo.of_eq (by kernel_rfl)) rfl (by kernel_rfl) [] rfl rfl (fun L s C => ?_)
  have hN : sc_Address_init.nm = (["self", "version", "packed"] : List Str) := rfl
  have a := AttrsAre.nil adNames
  conv in (execs _ _) => arg 1; whnf
  row_room_at pxs
  exact k _ _ _ a C.pop
theorem ct_adMake {v p : Value} {fs : Fct} (G : Gd (KT w.params) H TB mg mb) (hroom : A.depth < 900) (hg : A.guards = some []) (C : Cx H TB os fr fs s)
    (k : ∀ x dx es n s', AttrsAre adNames es [v, p] → Cx H TB os fr ((x, instObj 66 dx) :: (dx, dictOf es n) :: fs) s' → R' (.ok (.ret (.ref x))) s') :
    codeC (model prog w) A (.call (.ref 66) ⟨[v, p], []⟩) R' s := by
  obtain ⟨h1, h2⟩ := under_make (c := 66) (rest := [v, p]) (kw := []) hg hroom
  exact k_make G C (by kernel_rfl) (by kernel_rfl) (by kernel_rfl) fun x dx s C => ct_adInit G h1 C fun es n s' a C => ⟨rfl, k _ _ _ _ _ a C⟩
theorem ct_ip4 {p : Value} {fs : Fct} (G : Gd (KT w.params) H TB mg mb) (hroom : A.depth < 890) (hg : A.guards = some []) (C : Cx H TB os fr fs s)
    (k : ∀ x dx es n t s', AttrsAre adNames es [.int 4 t, p] → Cx H TB os fr ((x, instObj 66 dx) :: (dx, dictOf es n) :: fs) s' → R' (.ok (.ret (.ref x))) s') :
    codeC (model prog w) A (.call (.ref 77) ⟨[p], []⟩) R' s := by
  refine k_code G C (fn_IPv4Address _) (Nat.lt_of_lt_of_le hroom (by decide)) [("packed", p)] [some p] (BindsTo.of_eq (by kernel_rfl)) rfl (by kernel_rfl) [] rfl rfl (fun L s C => ?_)
  have hN : sc_IPv4Address.nm = (["packed"] : List Str) := rfl
  conv in (execs _ _) => arg 1; whnf
  row_room_at pxs
  refine k_callF0 (K := KT w.params) (by kernel_rfl) ?_
  row_room_at pxs
  refine ⟨C.kin G, ?_⟩
  refine ct_adMake G (by show A.depth + 1 < 900; omega) (by exact hg) C fun x dx es n s' a C => ?_
  row_room_at pxs
  exact k _ _ _ _ _ _ a C.pop
theorem ct_ip6 {p : Value} {fs : Fct} (G : Gd (KT w.params) H TB mg mb) (hroom : A.depth < 890) (hg : A.guards = some []) (C : Cx H TB os fr fs s)
    (k : ∀ x dx es n t s', AttrsAre adNames es [.int 6 t, p] → Cx H TB os fr ((x, instObj 66 dx) :: (dx, dictOf es n) :: fs) s' → R' (.ok (.ret (.ref x))) s') :
    codeC (model prog w) A (.call (.ref 84) ⟨[p], []⟩) R' s := by
  refine k_code G C (fn_IPv6Address _) (Nat.lt_of_lt_of_le hroom (by decide)) [("packed", p)] [some p] (BindsTo.of_eq (by kernel_rfl)) rfl (by kernel_rfl) [] rfl rfl (fun L s C => ?_)
  have hN : sc_IPv6Address.nm = (["packed"] : List Str) := rfl
  conv in (execs _ _) => arg 1; whnf
  row_room_at pxs
  refine k_callF0 (K := KT w.params) (by kernel_rfl) ?_
  row_room_at pxs
  refine ⟨C.kin G, ?_⟩
  refine ct_adMake G (by show A.depth + 1 < 900; omega) (by exact hg) C fun x dx es n s' a C => ?_
  row_room_at pxs
  exact k _ _ _ _ _ _ a C.pop
/-- with_error, the facts in any order -/
theorem ct_errorAt {x dx : Addr} {es : List DictEntry} {n : Nat} {us us' : List Value} {args : List Value} {msg lp : Value} {fs : Fct} {g : Obj → Fct} (G : Gd (KT w.params) H TB mg mb) (hroom : A.depth < 990)
    (C : Cx H TB os fr fs s) (h1 : (x, instObj 238 dx) ∈ fs) (h2 : (dx, dictOf es n) ∈ fs) (U : ∀ o', Upd dx (dictOf es n) o' fs (g o')) (a : AttrsAre pxNames es us) (hu : UAt msg pxNames us "error" us')
    (hb : BindsTo s (fd_ProxyData_with_error w.params) ⟨.ref x :: msg :: args, []⟩ [("self", .ref x), ("error_msg", msg), ("log_prefix", lp)])
    (k : ∀ es' n' s', AttrsAre pxNames es' us' → Cx H TB os fr (g (dictOf es' n')) s' → R' (.ok (.ret (.ref x))) s') :
    codeC (model prog w) A (.call (.ref 228) ⟨.ref x :: msg :: args, []⟩) R' s := by
  refine k_code G C (fn_ProxyData_with_error _) (Nat.lt_of_lt_of_le hroom (by decide)) [("self", .ref x), ("error_msg", msg), ("log_prefix", lp)] [some (.ref x), some msg, some lp] hb rfl (by kernel_rfl) [] rfl rfl (fun L s C => ?_)
  have hN : sc_ProxyData_with_error.nm = (["self", "error_msg", "log_prefix"] : List Str) := rfl
  conv in (execs _ _) => arg 1; whnf
  row_room_at px
  row_room_at px
  row_room_at px
  row_room_at px
  refine m_set G C h1 h2 a (cls_Proxy _) hu (by decide) U (fun _ _ _ a C => ?_)
  dsimp only
  row_room_at pxs
  exact k _ _ _ a C.pop
/-- return proxy_data.with_error('..') -/
theorem c_withErr {sc : Sc} {env : Env} {L : Addr} {vs : List (Option Value)} {nm : List Str} {px pdx : Addr} {es : List DictEntry} {n : Nat} {us : List Value} {us' : Tok → List Value} {fs : Fct} {g : Obj → Fct} {m : Str} {k' : Nat} {p1 p2 p3 p4 p5 : Pos} {pl : Sem Bool} {E : Value → Shared → Prop} {Q : Flow → Shared → Prop}
    (G : Gd (KT w.params) H TB mg mb) (hroom : A.depth < 900) (C : Cx H TB os (⟨sc, env, L, vs⟩ :: R) fs s) (hN : sc.nm = nm) (hl : LAt nm vs "proxy_data" (.ref px)) (h1 : (px, instObj 238 pdx) ∈ fs) (h2 : (pdx, dictOf es n) ∈ fs)
    (U : ∀ o', Upd pdx (dictOf es n) o' fs (g o')) (pa : AttrsAre pxNames es us) (hu : ∀ t, UAt (.str m t) pxNames us "error" (us' t))
    (k : ∀ t es' n' s', AttrsAre pxNames es' (us' t) → Cx H TB os (⟨sc, env, L, vs⟩ :: R) (g (dictOf es' n')) s' → Q (.ret (.ref px)) s')
    (he : eval (.Call (.Attribute (.Name "proxy_data" p1) "with_error" p2) [.Constant (.str m) k' p3] [] p4) env = (do
      let ov ← eval (.Name "proxy_data" p1) env
      standAt p2.atName
      let (f, first) ← holding [ov] (getMethod ov "with_error" pl)
      callWith p4 f first (backTo p4 (starEach [.Constant (.str m) k' p3] env)) (backToKw p4 (keywordEach [] env))) := by rfl) :
    wpC (model prog w) A (exec (.Return (some (.Call (.Attribute (.Name "proxy_data" p1) "with_error" p2) [.Constant (.str m) k' p3] [] p4)) p5) env) Q E s := by
  row_room_at pxs
  refine c_Meth (he := he) ?_
  refine m_local C hN hl ?_
  refine k_method (f := 228) G C h1 h2 pa (cls_Proxy _) (by kernel_rfl) (by kernel_rfl) (by decide +kernel) ?_
  dsimp only
  refine k_callF1 (K := KT w.params) (by kernel_rfl) ?_
  row_room_at pxs
  refine ⟨C.kin G, ?_⟩
  refine ct_errorAt G (by omega) C h1 h2 U pa (hu _) (lp := .bool true) ?_ fun es' n' s' a C => ?_
  · exact kp_binds (C.kin G) (fun S => by kernel_rfl)
  exact k _ _ _ _ a C
end

end
end Px
end

/- Wv0 -/
section
open PySem PySem.W PySem.Calls PyProof.Rows
set_option Elab.async false
set_option maxRecDepth 100000
set_option maxHeartbeats 4000000
set_option linter.unusedVariables false
namespace Px
noncomputable section
abbrev tbV2 : TabSpec := ⟨263, 259, 223, 4, "_get_v2.<locals>.read_rest", none⟩
abbrev tbW (c' : Addr) : TabSpec := ⟨263, 259, 223, 4, "_get_v2.<locals>.read_rest", some c'⟩
abbrev sigV2 : List UInt8 := [13, 10, 13, 10, 0, 13, 10, 81, 85, 73, 84, 10]
abbrev rrO (L : Addr) (doc pm : Value) (c' : Addr) (ctv : Value) : Obj := fnMade "read_rest" tbV2.qual ag_rr bd_rr sp_rr [("reader", L + 1)] doc pm c' ctv
abbrev pxOk (t2 ta tb tc te : Tok) (cm fm pr : Nat) (src dst sp dp rest whole tlv : Value) : List Value := [.int 2 t2, .int cm ta, .int fm tb, .int pr tc, src, dst, sp, dp, rest, whole, tlv, .str (Str.ofString "") te, .none]
/-- the octets that the addresses take -/
def need (fm pr : Nat) : Nat := if 1 ≤ pr then (if fm = 1 then 12 else if fm = 2 then 36 else if fm = 3 then 216 else 0) else 0
/-- a header that is told -/
abbrev GoodH (c d : UInt8) (n len : Nat) : Prop := c.toNat / 16 = 2 ∧ c.toNat % 16 ≤ 1 ∧ d.toNat / 16 ≤ 3 ∧ d.toNat % 16 ≤ 2 ∧ n ≤ len ∧ need (d.toNat / 16) (d.toNat % 16) ≤ n
/-- what the addresses' octets are told to be -/
inductive AddrIs (fm pr : Nat) (tail : List UInt8) : Value → Value → Value → Value → Value → List UInt8 → Fct → Prop
  | none (h : ¬ (1 ≤ fm ∧ 1 ≤ pr)) : AddrIs fm pr tail .none .none .none .none .none tail []
  | ip {v size sa sdx da ddx sn dn : Nat} {ses des : List DictEntry} {t1 t2 t3 t4 t5 t6 tt : Tok} {tlv : Value} (h : 1 ≤ pr) (hv : (fm = 1 ∧ v = 4 ∧ size = 4) ∨ (fm = 2 ∧ v = 6 ∧ size = 16)) (hl : 2 * size + 4 ≤ tail.length)
      (a1 : AttrsAre adNames ses [.int v t1, .bytes (tail.take size).toArray t2]) (a2 : AttrsAre adNames des [.int v t3, .bytes ((tail.drop size).take size).toArray t4]) (ht : tlv = if (tail.drop (2 * size + 4)).isEmpty then .none else .int ((16 + (2 * size + 4) : Nat) : Int) tt) :
      AddrIs fm pr tail (.ref sa) (.ref da) (.int (big ((tail.drop (2 * size)).take 2)) t5) (.int (big ((tail.drop (2 * size + 2)).take 2)) t6) tlv (tail.drop (2 * size + 4)) [(sa, instObj 66 sdx), (sdx, dictOf ses sn), (da, instObj 66 ddx), (ddx, dictOf des dn)]
  | unix {t1 t2 tt : Tok} {tlv : Value} (h : 1 ≤ pr) (hf : fm = 3) (hl : 216 ≤ tail.length) (ht : tlv = if (tail.drop 216).isEmpty then .none else .int ((232 : Nat) : Int) tt) :
      AddrIs fm pr tail (.bytes (tail.take 108).toArray t1) (.bytes ((tail.drop 108).take 108).toArray t2) .none .none tlv (tail.drop 216) []
theorem rd_AF (P : Params) : readsIn (KT P) 168 (.type "type") = true := by kernel_rfl
theorem fc_INET (P : Params) : findCls (KT P) (.ref 168) (.type "type") "INET" = some (.val (.int 1 401)) := by kernel_rfl
theorem fc_INET6 (P : Params) : findCls (KT P) (.ref 168) (.type "type") "INET6" = some (.val (.int 2 404)) := by kernel_rfl
theorem fc_UNIX (P : Params) : findCls (KT P) (.ref 168) (.type "type") "UNIX" = some (.val (.int 3 407)) := by kernel_rfl

end
end Px
end

/- Wve -/
section
open PySem PySem.W PySem.Calls PyProof.Rows
set_option Elab.async false
set_option maxRecDepth 100000
set_option maxHeartbeats 4000000
set_option linter.unusedVariables false
namespace Px
noncomputable section
set_option hygiene false in
local macro_rules | `(tactic| row_room_at px_more) => `(tactic| first
  | ((with_reducible show wpC _ _ (assign (Expr.Tuple _ _ _) _ (Value.ref _)) _ _ _); refine k_unpack C (by row_room_at px_mem) (by exact hh) rfl rfl (fun _ C => ?_))
  | ((with_reducible show wpC _ _ (getAttr (Value.ref 168) _ _) _ _ _); first | ((with_reducible show wpC _ _ (getAttr _ (Str.ofString "INET") _) _ _ _); (with_reducible refine k_clsVal G C (rd_AF _) (fc_INET _) rfl (fun _ C => ?_))) | ((with_reducible show wpC _ _ (getAttr _ (Str.ofString "INET6") _) _ _ _); (with_reducible refine k_clsVal G C (rd_AF _) (fc_INET6 _) rfl (fun _ C => ?_))) | ((with_reducible show wpC _ _ (getAttr _ (Str.ofString "UNIX") _) _ _ _); (with_reducible refine k_clsVal G C (rd_AF _) (fc_UNIX _) rfl (fun _ C => ?_))))
  | with_reducible refine c_ordEach ?_
  | with_reducible refine c_ordEachNil ?_
  | ((with_reducible show wpC _ _ (compareOp .NotEq (Value.ref _) (Value.bytes _ _)) _ _ _); refine k_neBa C (by row_room_at px_mem) (by show A.units + _ < cLine; have e : cLine = 9900 := rfl; omega) ?_)
  | with_reducible refine k_and C (fun _ _ C => ?_)
  | with_reducible refine k_rshift C (by decide) (fun _ _ C => ?_)
  | ((with_reducible show wpC _ _ (getMethod (Value.type "int") _ _) _ _ _); refine k_getFB G C (by kernel_rfl) (fun _ _ C => ?_); dsimp only; refine k_callB1 ?_)
  | ((with_reducible show Heap.get? _ _ = some fbO ∧ _); refine And.intro (C.fact (_, fbO) (by row_room_at px_mem)) ?_))
set_option hygiene false in
local macro_rules | `(tactic| row_room_at px_bad) => `(tactic| (row_room_at px; refine c_withErr G (by show A.depth + 1 < 900; omega) C hN (by row_room_at px_lat) (by row_room_at px_mem) (by row_room_at px_mem) (by row_room_at px_upd) (by assumption) (fun t => by row_room_at px_uat) (fun t es' n' s' pa C => ?_); exact kBad hno px pdx es' n' _ _ _ s' pa (by row_room_at px_gat) (by decide +kernel) ((Cx.forget (t := tbV2) C.pop rfl).sel (by row_room_at px_sel))))
section
variable {prog : Program} {w : World} {H : Heap} {TB : List TabSpec} {os : OsState} {mg mb : Str → Option Value}
variable {A : Around} {fr R : List Fm} {F : Fct} {s : Shared} {R' : Result → Shared → Prop}
/-- the statements that keep the addresses -/
theorem v2_e {rb wr px pdx c' L : Addr} {fm pr nx size ports al : Nat} {T W : List UInt8} {ta tb tc te t2 t6 t7 t8 t9 t10 t11 t12 tr : Tok} {pes : List DictEntry} {cm : Nat} {v0 v3 v4 v5 v7 v8 v9 v10 v14 : Value} (G : Gd (KT w.params) H [tbW c'] mg mb)
    (hroom : A.depth < 700) (hh : A.handled = none) (hu : A.units < 7000) (hg : A.guards = some []) (hA : A.frames = some (fr.map (·.env)))
    (C : Cx H [tbW c'] os (⟨sc_get_v2, callEnvC (fd_get_v2 w.params) L 264, L, [some v0, some (.ref px), some (.ref wr), some v3, some v4, some v5, some (.ref rb), some v7, some v8, some v9, some v10, some (.int (size : Nat) t6), some (.int (ports : Nat) t7), some (.int (al : Nat) t8), some v14, some (.bytes (T.take size).toArray t9), some (.bytes ((T.drop size).take size).toArray t10), some (.int (big ((T.drop (2 * size)).take ports)) t11), some (.int (big ((T.drop (2 * size + ports)).take ports)) t12)]⟩ :: fr)
      ((rb, baO (T.drop al)) :: (wr, baO W) :: (px, instObj 238 pdx) :: (pdx, dictOf pes nx) :: F) s)
    (a : AttrsAre pxNames pes [.int 2 t2, .int cm ta, .int fm tb, .int pr tc, .none, .none, .none, .none, .bytes ([] : List UInt8).toArray tr, .ref wr, .none, .str (Str.ofString "") te, .none]) (hT : T.length ≤ 90000) (hf : (fm = 1 ∧ size = 4 ∧ ports = 2) ∨ (fm = 2 ∧ size = 16 ∧ ports = 2) ∨ (fm = 3 ∧ size = 108 ∧ ports = 0)) (hal : al = 2 * size + 2 * ports) (hlen : al ≤ T.length) (hpr : 1 ≤ pr)
    (kOk : ∀ pes nx rb src dst sp dp tlv rest ex t2 ta tb tc te s', AddrIs fm pr T src dst sp dp tlv rest ex → AttrsAre pxNames pes (pxOk t2 ta tb tc te cm fm pr src dst sp dp (.ref rb) (.ref wr) tlv) →
      Cx H [tbV2] os fr ((px, instObj 238 pdx) :: (pdx, dictOf pes nx) :: (rb, baO rest) :: (wr, baO W) :: (ex ++ F)) s' → R' (.ok (.ret (.ref px))) s') :
    wpC (model prog w) (A.deeper (callEnvC (fd_get_v2 w.params) L 264)) (execs (bd_get_v2.drop 29) (callEnvC (fd_get_v2 w.params) L 264)) (fun fl s' => R' (.ok (.ret (match fl with | .ret v => v | _ => .none))) s')
        (fun e s' => wpAny (model prog w) (A.deeper (callEnvC (fd_get_v2 w.params) L 264)) (leaving (callEnvC (fd_get_v2 w.params) L 264) e) (fun _ s'' => R' (.error e) s'') (fun e' s'' => R' (.error e') s'') s') s := by
  have hN : sc_get_v2.nm = (["initial", "proxy_data", "whole_raw", "read_rest", "signature", "header", "tail_part", "ver_cmd", "fam_proto", "len_tail", "_", "size", "ports", "addr_len", "addr_struct", "s_addr", "d_addr", "s_port", "d_port"] : List Str) := rfl
  have hTz : (T.drop al).length ≤ 16777216 := by rw [List.length_drop]; omega
  have hd9 : (A.deeper (callEnvC (fd_get_v2 w.params) L 264)).depth < 890 := by show A.depth + 1 < 890; omega
  have hg9 : (A.deeper (callEnvC (fd_get_v2 w.params) L 264)).guards = some [] := hg
  conv in (execs _ _) => arg 1; whnf
  row_room_at pxs
  rcases hf with ⟨h1, rfl, rfl⟩ | ⟨h1, rfl, rfl⟩ | ⟨h1, rfl, rfl⟩
  · subst h1
    have hal' : al = 2 * 4 + 4 := hal
    clear hal
    subst hal'
    rw [if_pos (by rfl)]
    row_room_at pxs
    refine k_callF0 (K := KT w.params) (by kernel_rfl) ?_
    row_room_at pxs
    refine ⟨C.kin G, ?_⟩
    refine ct_ip4 G hd9 hg9 C fun sa sdx ses sn u1 s' b1 C => ?_
    row_room_at pxs
    refine k_callF0 (K := KT w.params) (by kernel_rfl) ?_
    row_room_at pxs
    refine ⟨C.kin G, ?_⟩
    refine ct_ip4 G hd9 hg9 C fun da ddx des dn u2 s' b2 C => ?_
    row_room_at pxs
    refine k_truthyBa C (by row_room_at px_mem) hTz (fun _ C => ?_)
    cases hemp : (T.drop (2 * 4 + 4)).isEmpty
    · rw [if_pos (show (!false) = true from rfl)]
      row_room_at pxs
      rename_i s9 e9 n9
      show R' (.ok (.ret (.ref px))) _
      refine kOk e9 n9 rb _ _ _ _ _ _ _ _ _ _ _ _ _ (.ip (size := 4) (v := 4) (sa := sa) (sdx := sdx) (sn := sn) (da := da) (ddx := ddx) (dn := dn) (t1 := u1) (t2 := t9) (t3 := u2) (t4 := t10) hpr (.inl ⟨rfl, rfl, rfl⟩) hlen b1 b2 (by rw [hemp]; rfl)) a ?cx
      case cx =>
        simp only [List.cons_append, List.nil_append]
        exact (Cx.forget (t := tbV2) C.pop rfl).sel (by row_room_at px_sel)
    · rw [if_neg (by decide)]
      row_room_at pxs
      rename_i s9 e9 n9 C9 s10
      show R' (.ok (.ret (.ref px))) _
      refine kOk e9 n9 rb _ _ _ _ _ _ _ _ _ _ _ _ _ (.ip (size := 4) (v := 4) (sa := sa) (sdx := sdx) (sn := sn) (da := da) (ddx := ddx) (dn := dn) (t1 := u1) (t2 := t9) (t3 := u2) (t4 := t10) (tt := u1) hpr (.inl ⟨rfl, rfl, rfl⟩) hlen b1 b2 (by rw [hemp]; rfl)) a ?cx
      case cx =>
        simp only [List.cons_append, List.nil_append]
        exact (Cx.forget (t := tbV2) C.pop rfl).sel (by row_room_at px_sel)
  · subst h1
    have hal' : al = 2 * 16 + 4 := hal
    clear hal
    subst hal'
    rw [if_neg (by decide)]
    row_room_at pxs
    rw [if_pos (by rfl)]
    row_room_at pxs
    refine k_callF0 (K := KT w.params) (by kernel_rfl) ?_
    row_room_at pxs
    refine ⟨C.kin G, ?_⟩
    refine ct_ip6 G hd9 hg9 C fun sa sdx ses sn u1 s' b1 C => ?_
    row_room_at pxs
    refine k_callF0 (K := KT w.params) (by kernel_rfl) ?_
    row_room_at pxs
    refine ⟨C.kin G, ?_⟩
    refine ct_ip6 G hd9 hg9 C fun da ddx des dn u2 s' b2 C => ?_
    row_room_at pxs
    refine k_truthyBa C (by row_room_at px_mem) hTz (fun _ C => ?_)
    cases hemp : (T.drop (2 * 16 + 4)).isEmpty
    · rw [if_pos (show (!false) = true from rfl)]
      row_room_at pxs
      rename_i s9 e9 n9
      show R' (.ok (.ret (.ref px))) _
      refine kOk e9 n9 rb _ _ _ _ _ _ _ _ _ _ _ _ _ (.ip (size := 16) (v := 6) (sa := sa) (sdx := sdx) (sn := sn) (da := da) (ddx := ddx) (dn := dn) (t1 := u1) (t2 := t9) (t3 := u2) (t4 := t10) hpr (.inr ⟨rfl, rfl, rfl⟩) hlen b1 b2 (by rw [hemp]; rfl)) a ?cx
      case cx =>
        simp only [List.cons_append, List.nil_append]
        exact (Cx.forget (t := tbV2) C.pop rfl).sel (by row_room_at px_sel)
    · rw [if_neg (by decide)]
      row_room_at pxs
      rename_i s9 e9 n9 C9 s10
      show R' (.ok (.ret (.ref px))) _
      refine kOk e9 n9 rb _ _ _ _ _ _ _ _ _ _ _ _ _ (.ip (size := 16) (v := 6) (sa := sa) (sdx := sdx) (sn := sn) (da := da) (ddx := ddx) (dn := dn) (t1 := u1) (t2 := t9) (t3 := u2) (t4 := t10) (tt := u1) hpr (.inr ⟨rfl, rfl, rfl⟩) hlen b1 b2 (by rw [hemp]; rfl)) a ?cx
      case cx =>
        simp only [List.cons_append, List.nil_append]
        exact (Cx.forget (t := tbV2) C.pop rfl).sel (by row_room_at px_sel)
  · subst h1
    have hal' : al = 216 := hal
    clear hal
    subst hal'
    rw [if_neg (by decide)]
    row_room_at pxs
    rw [if_neg (by decide)]
    row_room_at pxs
    refine c_Assert ?_
    row_room_at pxs
    refine ⟨by rfl, ?_⟩
    row_room_at pxs
    refine k_truthyBa C (by row_room_at px_mem) hTz (fun _ C => ?_)
    cases hemp : (T.drop 216).isEmpty
    · rw [if_pos (show (!false) = true from rfl)]
      row_room_at pxs
      rename_i s9 e9 n9
      show R' (.ok (.ret (.ref px))) _
      refine kOk e9 n9 rb _ _ _ _ _ _ _ _ _ _ _ _ _ (.unix (t1 := t9) (t2 := t10) hpr rfl hlen (by rw [hemp]; rfl)) a ?cx
      case cx =>
        simp only [List.nil_append]
        exact (Cx.forget (t := tbV2) C.pop rfl).sel (by row_room_at px_sel)
    · rw [if_neg (by decide)]
      row_room_at pxs
      rename_i s9 e9 n9 C9 s10
      show R' (.ok (.ret (.ref px))) _
      refine kOk e9 n9 rb _ _ _ _ _ _ _ _ _ _ _ _ _ (.unix (t1 := t9) (t2 := t10) (tt := t2) hpr rfl hlen (by rw [hemp]; rfl)) a ?cx
      case cx =>
        simp only [List.nil_append]
        exact (Cx.forget (t := tbV2) C.pop rfl).sel (by row_room_at px_sel)
end

end
end Px
end

/- Wvd -/
section
open PySem PySem.W PySem.Calls PyProof.Rows
set_option Elab.async false
set_option maxRecDepth 100000
set_option maxHeartbeats 4000000
set_option linter.unusedVariables false
namespace Px
noncomputable section
set_option hygiene false in
local macro_rules | `(tactic| row_room_at px_more) => `(tactic| first
  | ((with_reducible show wpC _ _ (assign (Expr.Tuple _ _ _) _ (Value.ref _)) _ _ _); refine k_unpack C (by row_room_at px_mem) (by exact hh) rfl rfl (fun _ C => ?_))
  | ((with_reducible show wpC _ _ (getAttr (Value.ref 168) _ _) _ _ _); first | ((with_reducible show wpC _ _ (getAttr _ (Str.ofString "INET") _) _ _ _); (with_reducible refine k_clsVal G C (rd_AF _) (fc_INET _) rfl (fun _ C => ?_))) | ((with_reducible show wpC _ _ (getAttr _ (Str.ofString "INET6") _) _ _ _); (with_reducible refine k_clsVal G C (rd_AF _) (fc_INET6 _) rfl (fun _ C => ?_))) | ((with_reducible show wpC _ _ (getAttr _ (Str.ofString "UNIX") _) _ _ _); (with_reducible refine k_clsVal G C (rd_AF _) (fc_UNIX _) rfl (fun _ C => ?_))))
  | with_reducible refine c_ordEach ?_
  | with_reducible refine c_ordEachNil ?_
  | ((with_reducible show wpC _ _ (compareOp .NotEq (Value.ref _) (Value.bytes _ _)) _ _ _); refine k_neBa C (by row_room_at px_mem) (by show A.units + _ < cLine; have e : cLine = 9900 := rfl; omega) ?_)
  | with_reducible refine k_and C (fun _ _ C => ?_)
  | with_reducible refine k_rshift C (by decide) (fun _ _ C => ?_)
  | ((with_reducible show wpC _ _ (getMethod (Value.type "int") _ _) _ _ _); refine k_getFB G C (by kernel_rfl) (fun _ _ C => ?_); dsimp only; refine k_callB1 ?_)
  | ((with_reducible show Heap.get? _ _ = some fbO ∧ _); refine And.intro (C.fact (_, fbO) (by row_room_at px_mem)) ?_))
set_option hygiene false in
local macro_rules | `(tactic| row_room_at px_bad) => `(tactic| (row_room_at px; refine c_withErr G (by show A.depth + 1 < 900; omega) C hN (by row_room_at px_lat) (by row_room_at px_mem) (by row_room_at px_mem) (by row_room_at px_upd) (by assumption) (fun t => by row_room_at px_uat) (fun t es' n' s' pa C => ?_); exact kBad hno px pdx es' n' _ _ _ s' pa (by row_room_at px_gat) (by decide +kernel) ((Cx.forget (t := tbV2) C.pop rfl).sel (by row_room_at px_sel))))
section
variable {prog : Program} {w : World} {H : Heap} {TB : List TabSpec} {os : OsState} {mg mb : Str → Option Value}
variable {A : Around} {fr R : List Fm} {F : Fct} {s : Shared} {R' : Result → Shared → Prop}
/-- the statements behind the sizes -/
theorem v2_d {f c1 c3 c5 c6 wr px pdx c' L : Addr} {N : Prop} {fm pr dn tl nx size ports : Nat} {I T W : List UInt8} {ti ta tb tc te t2 t3 t4 t6 t7 tr : Tok} {pes : List DictEntry} {vc : Value} {cm : Nat} (G : Gd (KT w.params) H [tbW c'] mg mb)
    (hroom : A.depth < 700) (hh : A.handled = none) (hu : A.units < 7000) (hg : A.guards = some []) (hA : A.frames = some (fr.map (·.env)))
    (C : Cx H [tbW c'] os (⟨sc_get_v2, callEnvC (fd_get_v2 w.params) L 264, L, [some (.bytes I.toArray ti), some (.ref px), some (.ref wr), some (.ref f), some (.ref c1), some (.ref c3), some (.ref c5), some vc, some (.int (dn : Nat) t3), some (.int (tl : Nat) t4), some (.ref c6), some (.int (size : Nat) t6), some (.int (ports : Nat) t7), none, none, none, none, none, none]⟩ :: fr)
      ((c5, baO T) :: (wr, baO W) :: (px, instObj 238 pdx) :: (pdx, dictOf pes nx) :: F) s)
    (a : AttrsAre pxNames pes [.int 2 t2, .int cm ta, .int fm tb, .int pr tc, .none, .none, .none, .none, .bytes ([] : List UInt8).toArray tr, .ref wr, .none, .str (Str.ofString "") te, .none]) (hT : T.length ≤ 90000) (hf : (fm = 1 ∧ size = 4 ∧ ports = 2) ∨ (fm = 2 ∧ size = 16 ∧ ports = 2) ∨ (fm = 3 ∧ size = 108 ∧ ports = 0)) (hpr : 1 ≤ pr) (hbad : ¬ 2 * size + 2 * ports ≤ T.length → N)
    (kBad : N → ∀ x dx es n us m tm s', AttrsAre pxNames es us → GAt pxNames us "error" (.str m tm) → (0 < m.length ∧ m.length ≤ 1000) → Cx H [tbV2] os fr ((x, instObj 238 dx) :: (dx, dictOf es n) :: F) s' → R' (.ok (.ret (.ref x))) s')
    (kOk : ∀ pes nx rb src dst sp dp tlv rest ex t2 ta tb tc te s', AddrIs fm pr T src dst sp dp tlv rest ex → AttrsAre pxNames pes (pxOk t2 ta tb tc te cm fm pr src dst sp dp (.ref rb) (.ref wr) tlv) →
      Cx H [tbV2] os fr ((px, instObj 238 pdx) :: (pdx, dictOf pes nx) :: (rb, baO rest) :: (wr, baO W) :: (ex ++ F)) s' → R' (.ok (.ret (.ref px))) s') :
    wpC (model prog w) (A.deeper (callEnvC (fd_get_v2 w.params) L 264)) (execs (bd_get_v2.drop 22) (callEnvC (fd_get_v2 w.params) L 264)) (fun fl s' => R' (.ok (.ret (match fl with | .ret v => v | _ => .none))) s')
        (fun e s' => wpAny (model prog w) (A.deeper (callEnvC (fd_get_v2 w.params) L 264)) (leaving (callEnvC (fd_get_v2 w.params) L 264) e) (fun _ s'' => R' (.error e) s'') (fun e' s'' => R' (.error e') s'') s') s := by
  have hN : sc_get_v2.nm = (["initial", "proxy_data", "whole_raw", "read_rest", "signature", "header", "tail_part", "ver_cmd", "fam_proto", "len_tail", "_", "size", "ports", "addr_len", "addr_struct", "s_addr", "d_addr", "s_port", "d_port"] : List Str) := rfl
  conv in (execs _ _) => arg 1; whnf
  row_room_at pxs
  refine k_mul C (.of_left (by decide)) (fun _ _ C => ?_)
  row_room_at pxs
  refine k_mul C (.of_left (by decide)) (fun _ _ C => ?_)
  have hTz : T.length ≤ 16777216 := by omega
  obtain ⟨al, hal⟩ : ∃ al, al = 2 * size + 2 * ports := ⟨_, rfl⟩
  have eal : 2 * (size : Int) + 2 * (ports : Int) = (al : Int) := by omega
  have e1 : cut T (some 0) (some (al : Int)) = T.take al := by
    have := cut_both T 0 al
    rwa [List.drop_zero, Nat.sub_zero] at this
  row_room_at px
  rw [eal]
  row_room_at pxs
  rw [e1] at C
  have hTa : (T.take al).length = min al T.length := List.length_take
  have hTaz : (T.take al).length ≤ 16777216 := by omega
  row_room_at pxs
  by_cases hlen : al ≤ T.length
  rotate_left
  · rw [if_pos (by rw [decide_eq_true_eq]; omega)]
    have hno : N := hbad (by omega)
    row_room_at px_bad
  rw [if_neg (by rw [decide_eq_true_eq]; omega)]
  have hTl : (T.take al).length = al := by omega
  have hsz : size ≤ al := by omega
  have e2 : cut (T.take al) none (some (size : Int)) = T.take size := by rw [cut_to, List.take_take, Nat.min_eq_left hsz]
  have e3 : cut T (some (al : Int)) none = T.drop al := cut_from _ _
  row_room_at pxs
  rw [e2, e3] at C
  have hTsz : (T.take size).length ≤ 16777216 := by rw [List.length_take]; omega
  refine k_bytesBa C (by row_room_at px_mem) hTsz (fun _ _ C => ?_)
  row_room_at pxs
  refine k_mul C (.of_left (by decide)) (fun _ _ C => ?_)
  have e4 : 2 * (size : Int) = ((2 * size : Nat) : Int) := by omega
  rw [e4]
  row_room_at pxs
  have e5 : cut (T.take al) (some (size : Int)) (some ((2 * size : Nat) : Int)) = (T.drop size).take size := by
    rw [cut_both, List.drop_take, List.take_take, Nat.min_eq_left (by omega)]
    congr 1; omega
  rw [e5] at C
  have hTdz : ((T.drop size).take size).length ≤ 16777216 := by rw [List.length_take, List.length_drop]; omega
  refine k_bytesBa C (by row_room_at px_mem) hTdz (fun _ _ C => ?_)
  row_room_at pxs
  refine k_items C (by row_room_at px_mem) (by exact hh) rfl (fun _ C => ?_)
  refine c_ordBind ?_
  row_room_at px
  refine c_ordBind ?_
  row_room_at px
  refine c_ordNil ?_
  row_room_at pxs
  refine k_mul C (.of_left (by decide)) (fun _ _ C => ?_)
  rw [e4]
  row_room_at pxs
  refine k_mul C (.of_left (by decide)) (fun _ _ C => ?_)
  rw [e4]
  row_room_at px
  row_room_at px
  have e6 : ((2 * size : Nat) : Int) + (ports : Int) = ((2 * size + ports : Nat) : Int) := by omega
  rw [e6]
  row_room_at pxs
  have hpo : ports ≤ 2 := by omega
  have e7 : cut (T.take al) (some ((2 * size : Nat) : Int)) (some ((2 * size + ports : Nat) : Int)) = (T.drop (2 * size)).take ports := by
    rw [cut_both, List.drop_take, List.take_take]
    congr 1; omega
  rw [e7] at C
  refine k_fromCall C (by row_room_at px_mem) (by row_room_at px_mem) (by rw [List.length_take]; omega) (fun _ _ C => ?_)
  row_room_at pxs
  refine k_mul C (.of_left (by decide)) (fun _ _ C => ?_)
  rw [e4]
  row_room_at px
  row_room_at px
  rw [e6]
  row_room_at pxs
  have e8 : cut (T.take al) (some ((2 * size + ports : Nat) : Int)) none = (T.drop (2 * size + ports)).take ports := by
    rw [cut_from, List.drop_take]
    congr 1; omega
  rw [e8] at C
  refine k_fromCall C (by row_room_at px_mem) (by row_room_at px_mem) (by rw [List.length_take]; omega) (fun _ _ C => ?_)
  row_room_at px
  exact v2_e (T := T) (al := al) G hroom hh hu hg hA (C.sel (by row_room_at px_sel)) a hT hf hal hlen hpr kOk
end

end
end Px
end

/- Wvc -/
section
open PySem PySem.W PySem.Calls PyProof.Rows
set_option Elab.async false
set_option maxRecDepth 100000
set_option maxHeartbeats 4000000
set_option linter.unusedVariables false
namespace Px
noncomputable section
set_option hygiene false in
local macro_rules | `(tactic| row_room_at px_more) => `(tactic| first
  | ((with_reducible show wpC _ _ (assign (Expr.Tuple _ _ _) _ (Value.ref _)) _ _ _); refine k_unpack C (by row_room_at px_mem) (by exact hh) rfl rfl (fun _ C => ?_))
  | ((with_reducible show wpC _ _ (getAttr (Value.ref 168) _ _) _ _ _); first | ((with_reducible show wpC _ _ (getAttr _ (Str.ofString "INET") _) _ _ _); (with_reducible refine k_clsVal G C (rd_AF _) (fc_INET _) rfl (fun _ C => ?_))) | ((with_reducible show wpC _ _ (getAttr _ (Str.ofString "INET6") _) _ _ _); (with_reducible refine k_clsVal G C (rd_AF _) (fc_INET6 _) rfl (fun _ C => ?_))) | ((with_reducible show wpC _ _ (getAttr _ (Str.ofString "UNIX") _) _ _ _); (with_reducible refine k_clsVal G C (rd_AF _) (fc_UNIX _) rfl (fun _ C => ?_))))
  | with_reducible refine c_ordEach ?_
  | with_reducible refine c_ordEachNil ?_
  | ((with_reducible show wpC _ _ (compareOp .NotEq (Value.ref _) (Value.bytes _ _)) _ _ _); refine k_neBa C (by row_room_at px_mem) (by show A.units + _ < cLine; have e : cLine = 9900 := rfl; omega) ?_)
  | with_reducible refine k_and C (fun _ _ C => ?_)
  | with_reducible refine k_rshift C (by decide) (fun _ _ C => ?_)
  | ((with_reducible show wpC _ _ (getMethod (Value.type "int") _ _) _ _ _); refine k_getFB G C (by kernel_rfl) (fun _ _ C => ?_); dsimp only; refine k_callB1 ?_)
  | ((with_reducible show Heap.get? _ _ = some fbO ∧ _); refine And.intro (C.fact (_, fbO) (by row_room_at px_mem)) ?_))
set_option hygiene false in
local macro_rules | `(tactic| row_room_at px_bad) => `(tactic| (row_room_at px; refine c_withErr G (by show A.depth + 1 < 900; omega) C hN (by row_room_at px_lat) (by row_room_at px_mem) (by row_room_at px_mem) (by row_room_at px_upd) (by assumption) (fun t => by row_room_at px_uat) (fun t es' n' s' pa C => ?_); exact kBad hno px pdx es' n' _ _ _ s' pa (by row_room_at px_gat) (by decide +kernel) ((Cx.forget (t := tbV2) C.pop rfl).sel (by row_room_at px_sel))))
section
variable {prog : Program} {w : World} {H : Heap} {TB : List TabSpec} {os : OsState} {mg mb : Str → Option Value}
variable {A : Around} {fr R : List Fm} {F : Fct} {s : Shared} {R' : Result → Shared → Prop}
/-- the statements that read the addresses -/
theorem v2_c {f c1 c3 c5 c6 wr px pdx c' L : Addr} {N : Prop} {fm pr dn tl nx : Nat} {I T W : List UInt8} {ti ta tb tc td te t2 t3 t4 t5 tr : Tok} {pes : List DictEntry} {vc : Value} {cm : Nat} {b0 : Value} (G : Gd (KT w.params) H [tbW c'] mg mb)
    (hroom : A.depth < 700) (hh : A.handled = none) (hu : A.units < 7000) (hg : A.guards = some []) (hA : A.frames = some (fr.map (·.env)))
    (C : Cx H [tbW c'] os (⟨sc_get_v2, callEnvC (fd_get_v2 w.params) L 264, L, [some (.bytes I.toArray ti), some (.ref px), some (.ref wr), some (.ref f), some (.ref c1), some (.ref c3), some (.ref c5), some vc, some (.int (dn : Nat) t3), some (.int (tl : Nat) t4), some (.ref c6), none, none, none, none, none, none, none, none]⟩ :: fr)
      ((c5, baO T) :: (wr, baO W) :: (px, instObj 238 pdx) :: (pdx, dictOf pes nx) :: F) s)
    (a : AttrsAre pxNames pes [.int 2 t2, .int cm ta, .int fm tb, .int pr tc, .none, .none, .none, .none, .bytes ([] : List UInt8).toArray tr, .ref wr, .none, .str (Str.ofString "") te, .none]) (hT : T.length ≤ 90000) (hf : 1 ≤ fm ∧ fm ≤ 3) (hpr : 1 ≤ pr) (hbad : ¬ need fm pr ≤ T.length → N)
    (kBad : N → ∀ x dx es n us m tm s', AttrsAre pxNames es us → GAt pxNames us "error" (.str m tm) → (0 < m.length ∧ m.length ≤ 1000) → Cx H [tbV2] os fr ((x, instObj 238 dx) :: (dx, dictOf es n) :: F) s' → R' (.ok (.ret (.ref x))) s')
    (kOk : ∀ pes nx rb src dst sp dp tlv rest ex t2 ta tb tc te s', AddrIs fm pr T src dst sp dp tlv rest ex → AttrsAre pxNames pes (pxOk t2 ta tb tc te cm fm pr src dst sp dp (.ref rb) (.ref wr) tlv) →
      Cx H [tbV2] os fr ((px, instObj 238 pdx) :: (pdx, dictOf pes nx) :: (rb, baO rest) :: (wr, baO W) :: (ex ++ F)) s' → R' (.ok (.ret (.ref px))) s') :
    wpC (model prog w) (A.deeper (callEnvC (fd_get_v2 w.params) L 264)) (execs (bd_get_v2.drop 21) (callEnvC (fd_get_v2 w.params) L 264)) (fun fl s' => R' (.ok (.ret (match fl with | .ret v => v | _ => .none))) s')
        (fun e s' => wpAny (model prog w) (A.deeper (callEnvC (fd_get_v2 w.params) L 264)) (leaving (callEnvC (fd_get_v2 w.params) L 264) e) (fun _ s'' => R' (.error e) s'') (fun e' s'' => R' (.error e') s'') s') s := by
  have hN : sc_get_v2.nm = (["initial", "proxy_data", "whole_raw", "read_rest", "signature", "header", "tail_part", "ver_cmd", "fam_proto", "len_tail", "_", "size", "ports", "addr_len", "addr_struct", "s_addr", "d_addr", "s_port", "d_port"] : List Str) := rfl
  conv in (execs _ _) => arg 1; whnf
  row_room_at pxs
  by_cases h1 : fm = 1
  · rw [if_pos (by rw [beq_iff_eq]; omega)]
    iterate 16 row_room_at px
    exact v2_d (fm := fm) (size := 4) (ports := 2) G hroom hh hu hg hA (C.sel (by row_room_at px_sel)) a hT (.inl ⟨h1, rfl, rfl⟩) hpr (fun h => hbad (by rw [need, if_pos hpr, if_pos h1]; omega)) kBad kOk
  rw [if_neg (by rw [beq_iff_eq]; omega)]
  row_room_at pxs
  by_cases h2 : fm = 2
  · rw [if_pos (by rw [beq_iff_eq]; omega)]
    iterate 17 row_room_at px
    exact v2_d (fm := fm) (size := 16) (ports := 2) G hroom hh hu hg hA (C.sel (by row_room_at px_sel)) a hT (.inr (.inl ⟨h2, rfl, rfl⟩)) hpr (fun h => hbad (by rw [need, if_pos hpr, if_neg h1, if_pos h2]; omega)) kBad kOk
  have h3 : fm = 3 := by omega
  rw [if_neg (by rw [beq_iff_eq]; omega)]
  row_room_at px
  refine c_Assert ?_
  row_room_at pxs
  refine ⟨by rw [beq_iff_eq]; omega, ?_⟩
  show wpC _ _ (execs _ _) _ _ _
  iterate 17 row_room_at px
  exact v2_d (fm := fm) (size := 108) (ports := 0) G hroom hh hu hg hA (C.sel (by row_room_at px_sel)) a hT (.inr (.inr ⟨h3, rfl, rfl⟩)) hpr (fun h => hbad (by rw [need, if_pos hpr, if_neg h1, if_neg h2, if_pos h3]; omega)) kBad kOk
end

end
end Px
end

/- Wvb -/
section
open PySem PySem.W PySem.Calls PyProof.Rows
set_option Elab.async false
set_option maxRecDepth 100000
set_option maxHeartbeats 4000000
set_option linter.unusedVariables false
namespace Px
noncomputable section
set_option hygiene false in
local macro_rules | `(tactic| row_room_at px_more) => `(tactic| first
  | ((with_reducible show wpC _ _ (assign (Expr.Tuple _ _ _) _ (Value.ref _)) _ _ _); refine k_unpack C (by row_room_at px_mem) (by exact hh) rfl rfl (fun _ C => ?_))
  | ((with_reducible show wpC _ _ (getAttr (Value.ref 168) _ _) _ _ _); first | ((with_reducible show wpC _ _ (getAttr _ (Str.ofString "INET") _) _ _ _); (with_reducible refine k_clsVal G C (rd_AF _) (fc_INET _) rfl (fun _ C => ?_))) | ((with_reducible show wpC _ _ (getAttr _ (Str.ofString "INET6") _) _ _ _); (with_reducible refine k_clsVal G C (rd_AF _) (fc_INET6 _) rfl (fun _ C => ?_))) | ((with_reducible show wpC _ _ (getAttr _ (Str.ofString "UNIX") _) _ _ _); (with_reducible refine k_clsVal G C (rd_AF _) (fc_UNIX _) rfl (fun _ C => ?_))))
  | with_reducible refine c_ordEach ?_
  | with_reducible refine c_ordEachNil ?_
  | ((with_reducible show wpC _ _ (compareOp .NotEq (Value.ref _) (Value.bytes _ _)) _ _ _); refine k_neBa C (by row_room_at px_mem) (by show A.units + _ < cLine; have e : cLine = 9900 := rfl; omega) ?_)
  | with_reducible refine k_and C (fun _ _ C => ?_)
  | with_reducible refine k_rshift C (by decide) (fun _ _ C => ?_)
  | ((with_reducible show wpC _ _ (getMethod (Value.type "int") _ _) _ _ _); refine k_getFB G C (by kernel_rfl) (fun _ _ C => ?_); dsimp only; refine k_callB1 ?_)
  | ((with_reducible show Heap.get? _ _ = some fbO ∧ _); refine And.intro (C.fact (_, fbO) (by row_room_at px_mem)) ?_))
set_option hygiene false in
local macro_rules | `(tactic| row_room_at px_bad) => `(tactic| (row_room_at px; refine c_withErr G (by show A.depth + 1 < 900; omega) C hN (by row_room_at px_lat) (by row_room_at px_mem) (by row_room_at px_mem) (by row_room_at px_upd) (by assumption) (fun t => by row_room_at px_uat) (fun t es' n' s' pa C => ?_); exact kBad hno px pdx es' n' _ _ _ s' pa (by row_room_at px_gat) (by decide +kernel) ((Cx.forget (t := tbV2) C.pop rfl).sel (by row_room_at px_sel))))
section
variable {prog : Program} {w : World} {H : Heap} {TB : List TabSpec} {os : OsState} {mg mb : Str → Option Value}
variable {A : Around} {fr R : List Fm} {F : Fct} {s : Shared} {R' : Result → Shared → Prop}
theorem and240 : ∀ n : Fin 256, Builtin.bitAnd (n.val : Int) 240 = ((16 * (n.val / 16) : Nat) : Int) := by decide +kernel
theorem and15 : ∀ n : Fin 256, Builtin.bitAnd (n.val : Int) 15 = ((n.val % 16 : Nat) : Int) := by decide +kernel
theorem shr4 (n : Nat) : ((16 * n : Nat) : Int).fdiv (2 ^ (4 : Int).toNat) = (n : Int) := by
  show ((16 * n : Nat) : Int).fdiv 16 = _
  rw [Int.fdiv_eq_ediv_of_nonneg _ (by decide)]; omega
theorem in2 : ∀ n : Fin 16, (([(0, 447), (1, 448)] : List (Int × Tok)).map (·.1)).contains (n.val : Int) = decide (n.val ≤ 1) := by decide +kernel
theorem in4 : ∀ n : Fin 16, (([(0, 452), (1, 453), (2, 454), (3, 455)] : List (Int × Tok)).map (·.1)).contains (n.val : Int) = decide (n.val ≤ 3) := by decide +kernel
theorem in3 : ∀ n : Fin 16, (([(0, 461), (1, 462), (2, 463)] : List (Int × Tok)).map (·.1)).contains (n.val : Int) = decide (n.val ≤ 2) := by decide +kernel
theorem in6 : ∀ n : Fin 256, n.val / 16 ≤ 3 → n.val % 16 ≤ 2 → (([(33, 470), (34, 471), (17, 468), (18, 469), (49, 472), (50, 473)] : List (Int × Tok)).map (·.1)).contains (n.val : Int) = decide (1 ≤ n.val / 16 ∧ 1 ≤ n.val % 16) := by decide +kernel
theorem u8lt (c : UInt8) : c.toNat < 256 := UInt8.toNat_lt c
/-- the statements behind the header -/
theorem v2_b {x dx pl f c1 c3 c4 wr px pdx c' L : Addr} {co : Obj} {I D hd : List UInt8} {ti td : Tok} {N : Prop} {ps : List Value} {pn n0 nx : Nat} {es pes : List DictEntry} {doc pmv ctv : Value} {t2 te tr : Tok} {b0 : Addr} (G : Gd (KT w.params) H [tbW c'] mg mb)
    (hroom : A.depth < 700) (hh : A.handled = none) (hu : A.units < 7000) (hg : A.guards = some []) (hA : A.frames = some (fr.map (·.env))) (hco : co.data = .cell (some (.ref x)))
    (C : Cx H [tbW c'] os (⟨sc_get_v2, callEnvC (fd_get_v2 w.params) L 264, L, [some (.bytes I.toArray ti), some (.ref px), some (.ref wr), some (.ref f), some (.ref c1), some (.ref c3), some (.ref c4), none, none, none, none, none, none, none, none, none, none, none, none]⟩ :: fr)
      ((c3, baO hd) :: (c4, baO []) :: (x, instObj 154 dx) :: (dx, dictOf es n0) :: (pl, lstO ps pn) :: (L + 1, co) :: (f, rrO L doc pmv c' ctv) :: (wr, baO (sigV2 ++ hd)) :: (px, instObj 238 pdx) :: (pdx, dictOf pes nx) :: F) s)
    (a : AttrsAre rdNames es [.bytes D.toArray td, .ref pl]) (pa : AttrsAre pxNames pes (pxNew (.int 2 t2) tr te b0)) (hD : D.length ≤ 90000) (hp : Pieces ps) (hdl : hd.length = 4) (hbad : ∀ c d l1 l2, hd = [c, d, l1, l2] → ¬ GoodH c d (big [l1, l2]) D.length → N)
    (kErr : N → ∀ e s', Fly H [tbV2] os fr F (.type "ConnectionError") e s' → R' (.error (.ref e)) s')
    (kBad : N → ∀ x dx es n us m tm s', AttrsAre pxNames es us → GAt pxNames us "error" (.str m tm) → (0 < m.length ∧ m.length ≤ 1000) → Cx H [tbV2] os fr ((x, instObj 238 dx) :: (dx, dictOf es n) :: F) s' → R' (.ok (.ret (.ref x))) s')
    (kOk : ∀ (c d l1 l2 : UInt8) px pdx pes nx wr rb src dst sp dp tlv rest ex t2 ta tb tc te es n td' pl' s', hd = [c, d, l1, l2] → c.toNat / 16 = 2 → c.toNat % 16 ≤ 1 → d.toNat / 16 ≤ 3 → d.toNat % 16 ≤ 2 → big [l1, l2] ≤ D.length →
      AddrIs (d.toNat / 16) (d.toNat % 16) (D.take (big [l1, l2])) src dst sp dp tlv rest ex → AttrsAre pxNames pes (pxOk t2 ta tb tc te (c.toNat % 16) (d.toNat / 16) (d.toNat % 16) src dst sp dp (.ref rb) (.ref wr) tlv) → AttrsAre rdNames es [.bytes (D.drop (big [l1, l2])).toArray td', pl'] →
      Cx H [tbV2] os fr ((px, instObj 238 pdx) :: (pdx, dictOf pes nx) :: (rb, baO rest) :: (wr, baO (sigV2 ++ hd ++ D.take (big [l1, l2]))) :: (x, instObj 154 dx) :: (dx, dictOf es n) :: (ex ++ F)) s' → R' (.ok (.ret (.ref px))) s') :
    wpC (model prog w) (A.deeper (callEnvC (fd_get_v2 w.params) L 264)) (execs (bd_get_v2.drop 9) (callEnvC (fd_get_v2 w.params) L 264)) (fun fl s' => R' (.ok (.ret (match fl with | .ret v => v | _ => .none))) s')
        (fun e s' => wpAny (model prog w) (A.deeper (callEnvC (fd_get_v2 w.params) L 264)) (leaving (callEnvC (fd_get_v2 w.params) L 264) e) (fun _ s'' => R' (.error e) s'') (fun e' s'' => R' (.error e') s'') s') s := by
  have hN : sc_get_v2.nm = (["initial", "proxy_data", "whole_raw", "read_rest", "signature", "header", "tail_part", "ver_cmd", "fam_proto", "len_tail", "_", "size", "ports", "addr_len", "addr_struct", "s_addr", "d_addr", "s_port", "d_port"] : List Str) := rfl
  obtain ⟨c, d, l1, l2, rfl⟩ : ∃ c d l1 l2, hd = [c, d, l1, l2] := by
    match hd, hdl with
    | [c, d, l1, l2], _ => exact ⟨c, d, l1, l2, rfl⟩
  have ra := a
  have hbad := hbad c d l1 l2 rfl
  have hz4 : ([c, d, l1, l2] : List UInt8).length ≤ 16777216 := by show 4 ≤ _; decide
  conv in (execs _ _) => arg 1; whnf
  row_room_at pxs
  refine k_itemBa (i := 0) (y := [c, d, l1, l2]) C (by row_room_at px_mem) hz4 (by show 0 < 4; decide) (fun _ _ C => ?_)
  row_room_at pxs
  refine k_itemBa (i := 1) (y := [c, d, l1, l2]) C (by row_room_at px_mem) hz4 (by show 1 < 4; decide) (fun _ _ C => ?_)
  row_room_at pxs
  have ecut : cut [c, d, l1, l2] (some 2) (some 4) = [l1, l2] := cut_both _ 2 4
  rw [ecut] at C
  refine k_fromCall C (by row_room_at px_mem) (by row_room_at px_mem) (by show 2 ≤ 8; decide) (fun _ _ C => ?_)
  row_room_at pxs
  refine k_items C (by row_room_at px_mem) (by exact hh) rfl (fun _ C => ?_)
  refine c_ordBind ?_
  row_room_at px
  refine c_ordBind ?_
  row_room_at px
  refine c_ordBind ?_
  row_room_at px
  refine c_ordNil ?_
  row_room_at pxs
  have g0 : ([c, d, l1, l2] : List UInt8).getD 0 0 = c := rfl
  have g1 : ([c, d, l1, l2] : List UInt8).getD 1 0 = d := rfl
  rw [g0, g1] at C
  rw [g0]
  have hcn := u8lt c
  have hdn := u8lt d
  have e1 := and240 ⟨c.toNat, hcn⟩
  have e2 := and15 ⟨c.toNat, hcn⟩
  have e3 := and240 ⟨d.toNat, hdn⟩
  have e4 := and15 ⟨d.toNat, hdn⟩
  dsimp only at e1 e2 e3 e4
  rw [e1]
  by_cases hv : c.toNat / 16 = 2
  rotate_left
  · rw [if_pos (by rw [bne_iff_ne]; omega)]
    have hno : N := hbad (by rintro ⟨g1, g2, g3, g4, g5, g6⟩; omega)
    row_room_at px_bad
  rw [if_neg (by rw [bne_iff_ne]; omega)]
  row_room_at pxs
  rw [e2] at a ⊢
  have i1 := in2 ⟨c.toNat % 16, Nat.mod_lt _ (by decide)⟩
  refine k_notIn G C (set_cmds _) rfl (by decide) (fun _ C => ?_)
  dsimp only at i1
  rw [i1]
  row_room_at pxs
  by_cases hc1 : c.toNat % 16 ≤ 1
  rotate_left
  · rw [decide_eq_false hc1, if_pos (show (!false) = true from rfl)]
    have hno : N := hbad (by rintro ⟨g1, g2, g3, g4, g5, g6⟩; omega)
    row_room_at px_bad
  rw [decide_eq_true hc1, if_neg (by decide)]
  row_room_at pxs
  rw [e3, shr4] at a ⊢
  have i2 := in4 ⟨d.toNat / 16, by omega⟩
  refine k_notIn G C (set_fams _) rfl (by decide) (fun _ C => ?_)
  dsimp only at i2
  rw [i2]
  row_room_at pxs
  by_cases hd1 : d.toNat / 16 ≤ 3
  rotate_left
  · rw [decide_eq_false hd1, if_pos (show (!false) = true from rfl)]
    have hno : N := hbad (by rintro ⟨g1, g2, g3, g4, g5, g6⟩; omega)
    row_room_at px_bad
  rw [decide_eq_true hd1, if_neg (by decide)]
  row_room_at pxs
  rw [e4] at a ⊢
  have i3 := in3 ⟨d.toNat % 16, Nat.mod_lt _ (by decide)⟩
  refine k_notIn G C (set_pros _) rfl (by decide) (fun _ C => ?_)
  dsimp only at i3
  rw [i3]
  row_room_at pxs
  by_cases hd2 : d.toNat % 16 ≤ 2
  rotate_left
  · rw [decide_eq_false hd2, if_pos (show (!false) = true from rfl)]
    have hno : N := hbad (by rintro ⟨g1, g2, g3, g4, g5, g6⟩; omega)
    row_room_at px_bad
  rw [decide_eq_true hd2, if_neg (by decide)]
  row_room_at pxs
  have hbl : big [l1, l2] ≤ 65535 := by
    show (0 * 256 + l1.toNat) * 256 + l2.toNat ≤ _
    have := u8lt l1
    have := u8lt l2
    omega
  have kOk := kOk c d l1 l2
  generalize big [l1, l2] = tl at C hbl kOk hbad ⊢
  have pa := a
  have hA1 := Around.frames_deeper (env := callEnvC (fd_get_v2 w.params) L 264) hA
  refine k_callO ?_
  row_room_at pxs
  refine ⟨⟨_, _, _, _, C.fact (f, rrO L doc pmv c' ctv) (by row_room_at px_mem)⟩, ?_⟩
  refine ct_rest (N := tl) (tb := tbW c') rfl G (by show A.depth + 1 < 800; omega) hh (by show A.units + 3 < 8000; omega) (by exact hg) (by exact hA1)
    (F := (f, rrO L doc pmv c' ctv) :: (wr, baO (sigV2 ++ [c, d, l1, l2])) :: (px, instObj 238 pdx) :: (pdx, dictOf _ _) :: F) (by row_room_at px_mem) C.codeRec
    (C.sel (by row_room_at px_sel)) hco ra (by omega) (by decide) hp (Nat.zero_le _) (by omega) (by decide +kernel) (fun hlen r c5 c6 es2 n2 pl2 ps2 pn2 td2 s' ra2 hp2 C => ?_) (fun hlen e s' Fl => ?_)
  rotate_left
  · have e0 : tl - ([] : List UInt8).length = tl := rfl
    rw [e0] at hlen
    exact fly_on Fl (by exact hA1) fun _ Fl => kErr (hbad (by rintro ⟨g1, g2, g3, g4, g5, g6⟩; omega)) _ _ ((Fly.forget (t := tbV2) Fl rfl).sel (by row_room_at px_sel))
  dsimp only
  rw [List.nil_append] at C
  have e0 : tl - ([] : List UInt8).length = tl := rfl
  rw [e0] at C ra2 hlen
  have hz5 : (D.take tl).length ≤ 16777216 := by rw [List.length_take]; omega
  row_room_at pxs
  refine k_iaddBa (y := sigV2 ++ [c, d, l1, l2]) (x := D.take tl) C (by exact hg) (by show 16 + (D.take tl).length ≤ _; rw [List.length_take]; omega) (by row_room_at px_upd) (by row_room_at px_mem) (C.ne (i := 8) (j := 2) rfl rfl (by decide)) (fun _ C => ?_)
  row_room_at pxs
  have i4 := in6 ⟨d.toNat, hdn⟩ hd1 hd2
  refine k_notIn G C (set_both _) rfl (by decide) (fun _ C => ?_)
  dsimp only at i4
  rw [i4]
  row_room_at pxs
  by_cases hin : 1 ≤ d.toNat / 16 ∧ 1 ≤ d.toNat % 16
  rotate_left
  · rw [decide_eq_false hin, if_pos (show (!false) = true from rfl)]
    row_room_at pxs
    refine kOk px pdx _ ?_ wr c5 _ _ _ _ _ _ _ _ _ _ _ _ _ ?_ _ _ _ rfl hv hc1 hd1 hd2 (by omega) (.none hin) a ra2 ((Cx.forget (t := tbV2) C.pop rfl).sel ?_)
    rotate_right
    rw [List.nil_append]
    row_room_at px_selx
  rw [decide_eq_true hin, if_neg (by decide)]
  row_room_at px
  refine v2_c (b0 := .none) (t5 := t2) (td := t2) (T := D.take tl) (F := (x, instObj 154 dx) :: (dx, dictOf es2 n2) :: F) G hroom hh hu hg hA (C.sel (by row_room_at px_sel)) a (by rw [List.length_take]; omega) ⟨hin.1, by omega⟩ hin.2 (N := N) (fun h => hbad (by rintro ⟨g1, g2, g3, g4, g5, g6⟩; rw [List.length_take] at h; omega)) (fun hno x2 dx2 es3 n3 us m tm s' a3 ge hm C => kBad hno x2 dx2 es3 n3 us m tm s' a3 ge hm (C.sel (by row_room_at px_sel))) (fun pes3 nx3 rb src dst sp dp tlv rest ex t2' ta tb tc te' s' had a3 C => ?_)
  exact kOk px pdx pes3 nx3 wr rb src dst sp dp tlv rest ex _ _ _ _ _ es2 n2 _ _ s' rfl hv hc1 hd1 hd2 (by omega) had a3 ra2 (C.perm (((((List.perm_append_comm_assoc [_, _] ex F).cons _).cons _).cons _).cons _))
end

end
end Px
end

/- Wva -/
section
open PySem PySem.W PySem.Calls PyProof.Rows
set_option Elab.async false
set_option maxRecDepth 100000
set_option maxHeartbeats 4000000
set_option linter.unusedVariables false
namespace Px
noncomputable section
set_option hygiene false in
local macro_rules | `(tactic| row_room_at px_more) => `(tactic| first
  | ((with_reducible show wpC _ _ (assign (Expr.Tuple _ _ _) _ (Value.ref _)) _ _ _); refine k_unpack C (by row_room_at px_mem) (by exact hh) rfl rfl (fun _ C => ?_))
  | ((with_reducible show wpC _ _ (getAttr (Value.ref 168) _ _) _ _ _); first | ((with_reducible show wpC _ _ (getAttr _ (Str.ofString "INET") _) _ _ _); (with_reducible refine k_clsVal G C (rd_AF _) (fc_INET _) rfl (fun _ C => ?_))) | ((with_reducible show wpC _ _ (getAttr _ (Str.ofString "INET6") _) _ _ _); (with_reducible refine k_clsVal G C (rd_AF _) (fc_INET6 _) rfl (fun _ C => ?_))) | ((with_reducible show wpC _ _ (getAttr _ (Str.ofString "UNIX") _) _ _ _); (with_reducible refine k_clsVal G C (rd_AF _) (fc_UNIX _) rfl (fun _ C => ?_))))
  | with_reducible refine c_ordEach ?_
  | with_reducible refine c_ordEachNil ?_
  | ((with_reducible show wpC _ _ (compareOp .NotEq (Value.ref _) (Value.bytes _ _)) _ _ _); refine k_neBa C (by row_room_at px_mem) (by show A.units + _ < cLine; have e : cLine = 9900 := rfl; omega) ?_)
  | with_reducible refine k_and C (fun _ _ C => ?_)
  | with_reducible refine k_rshift C (by decide) (fun _ _ C => ?_)
  | ((with_reducible show wpC _ _ (getMethod (Value.type "int") _ _) _ _ _); refine k_getFB G C (by kernel_rfl) (fun _ _ C => ?_); dsimp only; refine k_callB1 ?_)
  | ((with_reducible show Heap.get? _ _ = some fbO ∧ _); refine And.intro (C.fact (_, fbO) (by row_room_at px_mem)) ?_))
set_option hygiene false in
local macro_rules | `(tactic| row_room_at px_bad) => `(tactic| (row_room_at px; refine c_withErr G (by show A.depth + 1 < 900; omega) C hN (by row_room_at px_lat) (by row_room_at px_mem) (by row_room_at px_mem) (by row_room_at px_upd) (by assumption) (fun t => by row_room_at px_uat) (fun t es' n' s' pa C => ?_); exact kBad hno px pdx es' n' _ _ _ s' pa (by row_room_at px_gat) (by decide +kernel) ((Cx.forget (t := tbV2) C.pop rfl).sel (by row_room_at px_sel))))
section
variable {prog : Program} {w : World} {H : Heap} {TB : List TabSpec} {os : OsState} {mg mb : Str → Option Value}
variable {A : Around} {fr R : List Fm} {F : Fct} {s : Shared} {R' : Result → Shared → Prop}
theorem ct_v2 {x dx pl : Addr} {I D : List UInt8} {ti td : Tok} {N : Prop} {ps : List Value} {pn n0 : Nat} {es : List DictEntry} (G : Gd (KT w.params) H [tbV2] mg mb) (hBM : H.BuiltinsAt mg 259) (hbm : ∀ bm, mg "__builtins__" = some (.ref bm) → bm ≠ 259)
    (hroom : A.depth < 700) (hh : A.handled = none) (hu : A.units < 7000) (hg : A.guards = some []) (hA : A.frames = some (fr.map (·.env)))
    (C : Cx H [tbV2] os fr ((x, instObj 154 dx) :: (dx, dictOf es n0) :: (pl, lstO ps pn) :: F) s) (a : AttrsAre rdNames es [.bytes D.toArray td, .ref pl]) (hD : D.length ≤ 90000) (hp : Pieces ps) (hI : I.length = 5)
    (hbad : ¬ (∃ c d l1 l2, I ++ D.take 7 = sigV2 ∧ (D.drop 7).take 4 = [c, d, l1, l2] ∧ GoodH c d (big [l1, l2]) (D.drop 11).length) → N)
    (kErr : N → ∀ e s', Fly H [tbV2] os fr F (.type "ConnectionError") e s' → R' (.error (.ref e)) s')
    (kBad : N → ∀ x dx es n us m tm s', AttrsAre pxNames es us → GAt pxNames us "error" (.str m tm) → (0 < m.length ∧ m.length ≤ 1000) → Cx H [tbV2] os fr ((x, instObj 238 dx) :: (dx, dictOf es n) :: F) s' → R' (.ok (.ret (.ref x))) s')
    (kOk : ∀ (c d l1 l2 : UInt8) px pdx pes nx wr rb src dst sp dp tlv rest ex t2 ta tb tc te es n td' pl' s', I ++ D.take 7 = sigV2 → (D.drop 7).take 4 = [c, d, l1, l2] → c.toNat / 16 = 2 → c.toNat % 16 ≤ 1 → d.toNat / 16 ≤ 3 → d.toNat % 16 ≤ 2 → big [l1, l2] ≤ (D.drop 11).length →
      AddrIs (d.toNat / 16) (d.toNat % 16) ((D.drop 11).take (big [l1, l2])) src dst sp dp tlv rest ex → AttrsAre pxNames pes (pxOk t2 ta tb tc te (c.toNat % 16) (d.toNat / 16) (d.toNat % 16) src dst sp dp (.ref rb) (.ref wr) tlv) → AttrsAre rdNames es [.bytes ((D.drop 11).drop (big [l1, l2])).toArray td', pl'] →
      Cx H [tbV2] os fr ((px, instObj 238 pdx) :: (pdx, dictOf pes nx) :: (rb, baO rest) :: (wr, baO (sigV2 ++ [c, d, l1, l2] ++ (D.drop 11).take (big [l1, l2]))) :: (x, instObj 154 dx) :: (dx, dictOf es n) :: (ex ++ F)) s' → R' (.ok (.ret (.ref px))) s') :
    codeC (model prog w) A (.call (.ref 264) ⟨[.ref x, .bytes I.toArray ti], []⟩) R' s := by
  refine k_codeCell (y := "reader") G C (fn_get_v2 _) (Nat.lt_of_lt_of_le hroom (by decide)) [("reader", .ref x), ("initial", .bytes I.toArray ti)]
    [some (.bytes I.toArray ti), none, none, none, none, none, none, none, none, none, none, none, none, none, none, none, none, none, none] (some (.ref x)) (kp_binds (C.kin G) (fun S => by kernel_rfl)) (fun n => by kernel_rfl) (by kernel_rfl) (by kernel_rfl) (by kernel_rfl) (fun L co s hco C hcl => ?_)
  have hN : sc_get_v2.nm = (["initial", "proxy_data", "whole_raw", "read_rest", "signature", "header", "tail_part", "ver_cmd", "fam_proto", "len_tail", "_", "size", "ports", "addr_len", "addr_struct", "s_addr", "d_addr", "s_port", "d_port"] : List Str) := rfl
  conv in (execs _ _) => arg 1; whnf
  row_room_at pxs
  refine k_callK (K := KT w.params) (by kernel_rfl) ?_
  row_room_at pxs
  refine ⟨C.kin G, ?_⟩
  refine ct_pxMake G (by show A.depth + 1 < 900; omega) (by exact hg) C fun px pdx t te b0 pes pn s' pa C => ?_
  row_room_at pxs
  rename_i wr _ _ _
  refine k_nestDef (t := tbV2) (name := "read_rest") (args := ag_rr) (body := bd_rr) (scope := sp_rr) G C rfl hBM (fun bm e t' ht => by rw [List.mem_singleton.mp ht]; exact hbm bm e) (fun t' ht => by cases ht) (fun t' ht => by rw [List.mem_singleton.mp ht]; decide) rfl rfl ⟨rfl, rfl⟩ (by kernel_rfl) (clos := [("reader", L + 1)]) (by kernel_rfl) (by kernel_rfl) (by kernel_rfl) (fun f c' ctv doc s' C => ?_)
  have G : Gd (KT w.params) H [tbW c'] mg mb := Gd.known (c' := some c') G
  generalize ((mg "__name__").getD .none) = pmv at C
  have C : Cx H [tbW c'] os _ ((f, rrO L doc pmv c' ctv) :: _) s' := C
  have hIz : I.length ≤ 16777216 := by omega
  row_room_at pxs
  rename_i b _ _ _
  refine k_callO ?_
  row_room_at pxs
  refine ⟨⟨_, _, _, _, C.fact (f, rrO L doc pmv c' ctv) (by row_room_at px_mem)⟩, ?_⟩
  have hA1 := Around.frames_deeper (env := callEnvC (fd_get_v2 w.params) L 264) hA
  refine ct_rest (N := 12) (tb := tbW c') rfl G (by show A.depth + 1 < 800; omega) hh (by show A.units + 3 < 8000; omega) (by exact hg) (by exact hA1)
    (F := (f, rrO L doc pmv c' ctv) :: (wr, baO []) :: (b0, baO []) :: (px, instObj 238 pdx) :: (pdx, dictOf pes pn) :: F) (by row_room_at px_mem) C.codeRec
    (C.sel (by row_room_at px_sel)) hco a (by omega) (by omega) hp (by omega) (by omega) (by decide +kernel) (fun hlen r c1 c2 es1 n1 pl1 ps1 pn1 td1 s' a1 hp1 C => ?_) (fun hlen e s' Fl => ?_)
  rotate_left
  · have hno : N := hbad (by rintro ⟨c, d, l1, l2, g1, g2, _⟩; have := congrArg List.length g2; rw [List.length_take, List.length_drop] at this; have e4 : [c, d, l1, l2].length = 4 := rfl; omega)
    exact fly_on Fl (by exact hA1) fun _ Fl => kErr hno _ _ ((Fly.forget (t := tbV2) Fl rfl).sel (by row_room_at px_sel))
  dsimp only
  row_room_at pxs
  have e12 : 12 - I.length = 7 := by omega
  rw [e12] at C a1 ⊢
  by_cases hsig : I ++ D.take 7 = sigV2
  rotate_left
  · rw [if_pos (by rw [bne_iff_ne]; exact hsig)]
    have hno : N := hbad (by rintro ⟨c, d, l1, l2, g1, g2, _⟩; exact hsig g1)
    row_room_at px_bad
  rw [hsig] at C ⊢
  rw [if_neg (by decide)]
  row_room_at pxs
  refine k_iaddBa (y := []) (x := sigV2) C (by exact hg) (by decide) (by row_room_at px_upd) (by row_room_at px_mem) (C.ne (i := 8) (j := 2) rfl rfl (by decide)) (fun _ C => ?_)
  rw [List.nil_append] at C
  row_room_at pxs
  refine k_callO ?_
  row_room_at pxs
  refine ⟨⟨_, _, _, _, C.fact (f, rrO L doc pmv c' ctv) (by row_room_at px_mem)⟩, ?_⟩
  refine ct_rest (N := 4) (tb := tbW c') rfl G (by show A.depth + 1 < 800; omega) hh (by show A.units + 3 < 8000; omega) (by exact hg) (by exact hA1)
    (F := (f, rrO L doc pmv c' ctv) :: (wr, baO sigV2) :: (px, instObj 238 pdx) :: (pdx, dictOf pes pn) :: F) (by row_room_at px_mem) C.codeRec
    (C.sel (by row_room_at px_sel)) hco a1 (by rw [List.length_drop]; omega) (by decide) hp1 (by decide) (by omega) (by decide +kernel) (fun hlen2 r2 c3 c4 es2 n2 pl2 ps2 pn2 td2 s' a2 hp2 C => ?_) (fun hlen2 e s' Fl => ?_)
  rotate_left
  · have hno : N := hbad (by rintro ⟨c, d, l1, l2, g1, g2, _⟩; have := congrArg List.length g2; rw [List.length_take, List.length_drop] at this; have e4 : [c, d, l1, l2].length = 4 := rfl; have e5 : 4 - ([] : List UInt8).length = 4 := rfl; rw [e5, List.length_drop] at hlen2; omega)
    exact fly_on Fl (by exact hA1) fun _ Fl => kErr hno _ _ ((Fly.forget (t := tbV2) Fl rfl).sel (by row_room_at px_sel))
  dsimp only
  rw [List.drop_drop] at a2
  rw [List.nil_append] at C
  rw [List.length_drop] at hlen2
  have e4 : 4 - ([] : List UInt8).length = 4 := rfl
  rw [e4] at C a2 hlen2
  generalize hHd : List.take 4 (List.drop 7 D) = hd at C
  have hdl : hd.length = 4 := by rw [← hHd, List.length_take, List.length_drop]; omega
  row_room_at pxs
  refine k_iaddBa (y := sigV2) (x := hd) C (by exact hg) (by rw [hdl]; decide) (by row_room_at px_upd) (by row_room_at px_mem) (C.ne (i := 8) (j := 2) rfl rfl (by decide)) (fun _ C => ?_)
  row_room_at px
  have a3 : AttrsAre rdNames es2 [.bytes (D.drop 11).toArray td2, .ref pl2] := a2
  refine v2_b (D := D.drop 11) (N := N) G hroom hh hu hg hA hco (C.sel (by row_room_at px_sel)) a3 pa (by rw [List.length_drop]; omega) hp2 hdl (fun c d l1 l2 e ng => hbad (by
    rintro ⟨c2, d2, m1, m2, g1, g2, g3⟩
    obtain ⟨rfl, rfl, rfl, rfl⟩ : c = c2 ∧ d = d2 ∧ l1 = m1 ∧ l2 = m2 := by simpa using (hHd.trans e).symm.trans g2
    exact ng g3)) kErr kBad (fun c d l1 l2 px pdx pes nx wr rb src dst sp dp tlv rest ex t2 ta tb tc te es n td' pl' s' e v1 v2 v3 v4 v5 ai pa ra C => ?_)
  rw [e] at C
  exact kOk c d l1 l2 px pdx pes nx wr rb src dst sp dp tlv rest ex t2 ta tb tc te es n td' pl' s' hsig (hHd.trans e) v1 v2 v3 v4 v5 ai pa ra C
end

end
end Px
end

/- Wki -/
section
open PySem PySem.W PySem.Calls PyProof.Rows
set_option Elab.async false
set_option maxRecDepth 100000
set_option maxHeartbeats 4000000
set_option linter.unusedVariables false
namespace Px
noncomputable section
set_option hygiene false in
local macro_rules | `(tactic| row_room_at px_more) => `(tactic| first
  | ((with_reducible show wpC _ _ (assign (Expr.Tuple _ _ _) _ (Value.ref _)) _ _ _); refine k_unpack C (by row_room_at px_mem) (by exact hh) rfl rfl (fun _ C => ?_))
  | ((with_reducible show wpC _ _ (getAttr (Value.ref 168) _ _) _ _ _); first | ((with_reducible show wpC _ _ (getAttr _ (Str.ofString "INET") _) _ _ _); (with_reducible refine k_clsVal G C (rd_AF _) (fc_INET _) rfl (fun _ C => ?_))) | ((with_reducible show wpC _ _ (getAttr _ (Str.ofString "INET6") _) _ _ _); (with_reducible refine k_clsVal G C (rd_AF _) (fc_INET6 _) rfl (fun _ C => ?_))) | ((with_reducible show wpC _ _ (getAttr _ (Str.ofString "UNIX") _) _ _ _); (with_reducible refine k_clsVal G C (rd_AF _) (fc_UNIX _) rfl (fun _ C => ?_))))
  | with_reducible refine c_ordEach ?_
  | with_reducible refine c_ordEachNil ?_
  | ((with_reducible show wpC _ _ (compareOp .NotEq (Value.ref _) (Value.bytes _ _)) _ _ _); refine k_neBa C (by row_room_at px_mem) (by show A.units + _ < cLine; have e : cLine = 9900 := rfl; omega) ?_)
  | with_reducible refine k_and C (fun _ _ C => ?_)
  | with_reducible refine k_rshift C (by decide) (fun _ _ C => ?_)
  | ((with_reducible show wpC _ _ (getMethod (Value.type "int") _ _) _ _ _); refine k_getFB G C (by kernel_rfl) (fun _ _ C => ?_); dsimp only; refine k_callB1 ?_)
  | ((with_reducible show Heap.get? _ _ = some fbO ∧ _); refine And.intro (C.fact (_, fbO) (by row_room_at px_mem)) ?_))
set_option hygiene false in
local macro_rules | `(tactic| row_room_at px_bad) => `(tactic| (row_room_at px; refine c_withErr G (by show A.depth + 1 < 900; omega) C hN (by row_room_at px_lat) (by row_room_at px_mem) (by row_room_at px_mem) (by row_room_at px_upd) (by assumption) (fun t => by row_room_at px_uat) (fun t es' n' s' pa C => ?_); exact kBad hno px pdx es' n' _ _ _ s' pa (by row_room_at px_gat) (by decide +kernel) ((Cx.forget (t := tbV2) C.pop rfl).sel (by row_room_at px_sel))))
section
variable {prog : Program} {w : World} {H : Heap} {TB : List TabSpec} {os : OsState} {mg mb : Str → Option Value}
variable {A : Around} {fr R : List Fm} {F : Fct} {s : Shared} {R' : Result → Shared → Prop}
theorem ire_ns (P : Params) : nsOkIn (KT P) 112 = true := by kernel_rfl
theorem ire_init (P : Params) : nsIn (KT P) 112 "__init__" = some none := by kernel_rfl
theorem ire_cls (P : Params) : (KT P).lookup 113 = some (excClassObj t44 t44 113 112 [.type "EOFError"] [.type "EOFError", .type "Exception", .type "BaseException", .type "object"] true [] [] false none none (some (.ref 104)) none (some (.str t44 304)) (some (.str t44 312)) (some (.bool true)) "EOFError.__new__") := by kernel_rfl
/-- too few octets: IncompleteReadError flies -/
theorem ct_exactlyErr {x dx : Addr} {D : List UInt8} {td t : Tok} {n0 N : Nat} {es : List DictEntry} {pv : Value} (G : Gd (KT w.params) H TB mg mb) (hroom : A.depth < 990) (hh : A.handled = none) (hA : A.frames = some (fr.map (·.env)))
    (C : Cx H TB os fr ((x, instObj 154 dx) :: (dx, dictOf es n0) :: F) s) (a : AttrsAre rdNames es [.bytes D.toArray td, pv]) (hD : D.length ≤ 16777216) (hN0 : D.length < N)
    (k : ∀ e s', Fly H TB os fr ((x, instObj 154 dx) :: (dx, dictOf es n0) :: F) (.ref 113) e s' → R' (.error (.ref e)) s') :
    codeC (model prog w) A (.call (.ref 144) ⟨[.ref x, .int N t], []⟩) R' s := by
  refine k_code G C (fn_PlainReader_readexactly _) (Nat.lt_of_lt_of_le hroom (by decide)) [("self", .ref x), ("n", .int N t)] [some (.ref x), some (.int N t), none] (BindsTo.of_eq (by kernel_rfl)) rfl (by kernel_rfl) ["piece"] rfl rfl (fun L s C => ?_)
  have hN : sc_PlainReader_readexactly.nm = (["self", "n", "piece"] : List Str) := rfl
  conv in (execs _ _) => arg 1; whnf
  row_room_at pxs
  have e : decide ((D.length : Int) < N) = true := by rw [decide_eq_true_eq]; omega
  rw [e, if_pos rfl]
  row_room_at pxs
  refine raise_own (C := 113) (N := 112) (nm := t44) (q := t44) (bs := [.type "EOFError"]) (hdct := true) (sn := []) (sub := []) (ab := false) (col := none) (dd := none) (k0 := some (.ref 104)) (k1 := none) (k2 := some (.str t44 304)) (k3 := some (.str t44 312)) (k5 := some (.bool true)) Eof.base hh (nsMap_none_of_in (C.kin G) (ire_ns _) (ire_init _)) ?_
  row_room_at px
  refine ⟨rfl, C.kin G _ _ (ire_cls _), .of_isNs (isNs_of_in (C.kin G) (ire_ns _)), fun h' e m => ?_⟩
  obtain ⟨a0, N⟩ := madeOf_newX m
  exact fly_leave C (Around.frames_deeper hA) N fun s' Fl => k e s' Fl
theorem take_drop_take (D : List UInt8) : D.take 5 ++ (D.drop 5).take 7 = D.take 12 := by
  rw [← List.take_append_drop 5 (D.take 12), List.take_take, List.drop_take]; rfl
theorem exc_sub : isSubtype (.type "Exception") (.type "BaseException") = pure true := by rw [isSubtype_type]; kernel_rfl
theorem exc_meta : isSubtype (.type ((Manifest.find? "Exception").elim "type" fun x => x.metatype)) (.type "tuple") = pure false := by
  rw [show (Manifest.find? "Exception").elim "type" (fun x => x.metatype) = "type" by decide +kernel, isSubtype_type]; kernel_rfl
theorem ce_sub : isSubtype (.type "ConnectionError") (.type "Exception") = pure true := by rw [isSubtype_type]; kernel_rfl
/-- a header that is told, of the whole octets -/
abbrev GoodAll (D : List UInt8) : Prop := ∃ c d l1 l2, D.take 12 = sigV2 ∧ (D.drop 12).take 4 = [c, d, l1, l2] ∧ GoodH c d (big [l1, l2]) (D.drop 16).length
theorem ct_get {x dx pl : Addr} {D : List UInt8} {td : Tok} {N : Prop} {ps : List Value} {pn n0 : Nat} {es : List DictEntry} (G : Gd (KT w.params) H [tbV2] mg mb) (hBM : H.BuiltinsAt mg 259) (hbm : ∀ bm, mg "__builtins__" = some (.ref bm) → bm ≠ 259)
    (hroom : A.depth < 600) (hh : A.handled = none) (hu : A.units < 6000) (hg : A.guards = some []) (hA : A.frames = some (fr.map (·.env)))
    (C : Cx H [tbV2] os fr ((x, instObj 154 dx) :: (dx, dictOf es n0) :: (pl, lstO ps pn) :: F) s) (a : AttrsAre rdNames es [.bytes D.toArray td, .ref pl]) (hD : D.length ≤ 90000) (hp : Pieces ps) (h5 : 5 ≤ D.length) (hP : D.take 5 ≠ [80, 82, 79, 88, 89])
    (hbad : ¬ GoodAll D → N)
    (kBad : N → ∀ x dx es n us m tm s', AttrsAre pxNames es us → GAt pxNames us "error" (.str m tm) → (0 < m.length ∧ m.length ≤ 1000) → Cx H [tbV2] os fr ((x, instObj 238 dx) :: (dx, dictOf es n) :: F) s' → R' (.ok (.ret (.ref x))) s')
    (kOk : ∀ (c d l1 l2 : UInt8) px pdx pes nx wr rb src dst sp dp tlv rest ex t2 ta tb tc te es n td' pl' s', D.take 12 = sigV2 → (D.drop 12).take 4 = [c, d, l1, l2] → c.toNat / 16 = 2 → c.toNat % 16 ≤ 1 → d.toNat / 16 ≤ 3 → d.toNat % 16 ≤ 2 → big [l1, l2] ≤ (D.drop 16).length →
      AddrIs (d.toNat / 16) (d.toNat % 16) ((D.drop 16).take (big [l1, l2])) src dst sp dp tlv rest ex → AttrsAre pxNames pes (pxOk t2 ta tb tc te (c.toNat % 16) (d.toNat / 16) (d.toNat % 16) src dst sp dp (.ref rb) (.ref wr) tlv) → AttrsAre rdNames es [.bytes ((D.drop 16).drop (big [l1, l2])).toArray td', pl'] →
      Cx H [tbV2] os fr ((px, instObj 238 pdx) :: (pdx, dictOf pes nx) :: (rb, baO rest) :: (wr, baO (sigV2 ++ [c, d, l1, l2] ++ (D.drop 16).take (big [l1, l2]))) :: (x, instObj 154 dx) :: (dx, dictOf es n) :: (ex ++ F)) s' → R' (.ok (.ret (.ref px))) s') :
    codeC (model prog w) A (.call (.ref 271) ⟨[.ref x], []⟩) R' s := by
  refine k_code G C (fn_get_proxy _) (Nat.lt_of_lt_of_le hroom (by decide)) [("reader_func", .ref x)] [some (.ref x), none] (BindsTo.of_eq (by kernel_rfl)) rfl (by kernel_rfl) ["signature"] rfl rfl (fun L s C => ?_)
  have hN : sc_get_proxy.nm = (["reader_func", "signature"] : List Str) := rfl
  conv in (execs _ _) => arg 1; whnf
  row_room_at pxs
  have hDz : D.length ≤ 16777216 := by omega
  have hA1 := Around.frames_deeper (env := callEnv (fd_get_proxy w.params) L 271) hA
  refine k_method (f := 144) G C (by row_room_at px_mem) (by row_room_at px_mem) a (cls_Reader _) (by kernel_rfl) (by kernel_rfl) (by decide +kernel) ?_
  dsimp only
  refine k_callF1 (K := KT w.params) (by kernel_rfl) ?_
  row_room_at pxs
  refine ⟨C.kin G, ?_⟩
  refine ct_exactly (N := 5) G (by show A.depth + 1 < 990; omega) (C.sel (by row_room_at px_sel)) a hDz h5 (F := (pl, lstO ps pn) :: F) (fun es1 n1 td1 t1 s' a1 C => ?_)
  row_room_at pxs
  have eP : (D.take 5 == [80, 82, 79, 88, 89]) = false := by rw [beq_eq_false_iff_ne]; exact hP
  have hx1 : (D.take 5).length = 5 := by rw [List.length_take]; omega
  refine c_Try ?_
  row_room_at pxs
  rw [eP, if_neg (by decide)]
  row_room_at pxs
  have eS : cut [13, 10, 13, 10, 0, 13, 10, 81, 85, 73, 84, 10] (some 0) (some 5) = ([13, 10, 13, 10, 0] : List UInt8) := cut_both _ 0 5
  rw [eS]
  by_cases hv2 : D.take 5 = [13, 10, 13, 10, 0]
  · rw [if_pos (by rw [beq_iff_eq]; exact hv2)]
    row_room_at pxs
    refine k_callF0 (K := KT w.params) (by kernel_rfl) ?_
    row_room_at pxs
    refine ⟨C.kin G, ?_⟩
    refine ct_v2 (I := D.take 5) (D := D.drop 5) (N := N) (F := F) G hBM hbm (by show A.depth + 1 < 700; omega) hh (by show A.units + 3 < 7000; omega) (by exact hg) (by exact hA1) (C.sel (by row_room_at px_sel)) a1 (by rw [List.length_drop]; omega) hp hx1 ?bad ?err ?kb ?ko
    case bad =>
      intro ng
      exact hbad fun ⟨c, d, l1, l2, g1, g2, g3⟩ => ng ⟨c, d, l1, l2, by rw [← g1, take_drop_take], by rw [List.drop_drop]; exact g2, by rw [List.drop_drop]; exact g3⟩
    case ko =>
      intro c d l1 l2 px pdx pes nx wr rb src dst sp dp tlv rest ex t2 ta tb tc te es n td' pl' s' g1 g2 v1 v2 v3 v4 v5 ai pa ra C
      rw [take_drop_take] at g1
      have e16 : (D.drop 5).drop 11 = D.drop 16 := List.drop_drop ..
      rw [List.drop_drop] at g2
      rw [e16] at v5 ai ra C
      exact kOk c d l1 l2 px pdx pes nx wr rb src dst sp dp tlv rest ex t2 ta tb tc te es n td' pl' s' g1 g2 v1 v2 v3 v4 v5 ai pa ra C.pop
    case kb =>
      intro hno x2 dx2 es2 n2 us m tm s' pa ge hm C
      exact kBad hno x2 dx2 es2 n2 us m tm s' pa ge hm C.pop
    intro hno e s' Fl
    refine c_caught (c := .type "Exception") Fl hA1 (fun s Fl E' Q q => ?_) (fun E' s Q' C q => ?_) (fun E' s C => ?_)
    · obtain ⟨ob, ho, hc⟩ := Fl.there
      exact wpAny_excMatches_type (X := "ConnectionError") (T := "Exception") ⟨ob, ho, hc⟩ exc_sub exc_meta ce_sub q
    · row_room_at px
      exact q
    row_room_at pxs
    refine k_callK (K := KT w.params) (by kernel_rfl) ?_
    row_room_at pxs
    refine ⟨C.kin G, ?_⟩
    refine ct_pxMake G (by show A.depth + 1 < 900; omega) (by exact hg) C fun px pdx t te b0 pes pn s' pa C => ?_
    row_room_at pxs
    refine k_method (f := 228) G C (by row_room_at px_mem) (by row_room_at px_mem) pa (cls_Proxy _) (by kernel_rfl) (by kernel_rfl) (by decide +kernel) ?_
    dsimp only
    refine k_callF1 (K := KT w.params) (by kernel_rfl) ?_
    row_room_at pxs
    refine ⟨C.kin G, ?_⟩
    refine ct_errorAt (lp := .bool false) G (by show A.depth + 1 < 990; omega) C (by row_room_at px_mem) (by row_room_at px_mem) (by row_room_at px_upd) pa (by row_room_at px_uat) ?_ fun es' n' s' pa C => ?_
    · exact kp_binds (C.kin G) (fun S => by kernel_rfl)
    exact kBad hno _ _ _ _ _ _ _ s' pa (by row_room_at px_gat) (by decide +kernel) (C.pop.sel (by row_room_at px_sel))
  · rw [if_neg (by rw [beq_iff_eq]; exact hv2)]
    have hno : N := hbad (by rintro ⟨c, d, l1, l2, g1, _⟩; apply hv2; rw [show D.take 5 = (D.take 12).take 5 by rw [List.take_take]; rfl, g1]; rfl)
    row_room_at pxs
    refine k_callK (K := KT w.params) (by kernel_rfl) ?_
    row_room_at pxs
    refine ⟨C.kin G, ?_⟩
    refine ct_pxMake G (by show A.depth + 1 < 900; omega) (by exact hg) C fun px pdx t te b0 pes pn s' pa C => ?_
    row_room_at pxs
    refine k_method (f := 228) G C (by row_room_at px_mem) (by row_room_at px_mem) pa (cls_Proxy _) (by kernel_rfl) (by kernel_rfl) (by decide +kernel) ?_
    dsimp only
    refine k_callF1 (K := KT w.params) (by kernel_rfl) ?_
    row_room_at pxs
    refine ⟨C.kin G, ?_⟩
    refine ct_errorAt (lp := .bool true) G (by show A.depth + 1 < 990; omega) C (by row_room_at px_mem) (by row_room_at px_mem) (by row_room_at px_upd) pa (by row_room_at px_uat) ?_ fun es' n' s' pa C => ?_
    · exact kp_binds (C.kin G) (fun S => by kernel_rfl)
    exact kBad hno _ _ _ _ _ _ _ s' pa (by row_room_at px_gat) (by decide +kernel) (C.pop.sel (by row_room_at px_sel))
end

end
end Px
end

/- Wkj -/
section
open PySem PySem.W PySem.Calls PyProof.Rows
set_option Elab.async false
set_option maxRecDepth 100000
set_option maxHeartbeats 4000000
set_option linter.unusedVariables false
namespace Px
noncomputable section
section
variable {prog : Program} {w : World} {H : Heap} {TB : List TabSpec} {os : OsState} {mg mb : Str → Option Value}
variable {A : Around} {fr R : List Fm} {F fs : Fct} {s : Shared} {R' : Result → Shared → Prop} {E : Value → Shared → Prop}
theorem ct_validBad {x dx : Addr} {es : List DictEntry} {n : Nat} {us : List Value} {m : Str} {tm : Tok} {Q : Value → Shared → Prop} (G : Gd (KT w.params) H TB mg mb) (hroom : A.depth < 980)
    (C : Cx H TB os fr fs s) (h1 : (x, instObj 238 dx) ∈ fs) (h2 : (dx, dictOf es n) ∈ fs) (a : AttrsAre pxNames es us) (ge : GAt pxNames us "error" (.str m tm)) (hm : 0 < m.length ∧ m.length ≤ 1000)
    (k : ∀ s', Cx H TB os fr fs s' → Q (.bool false) s') : wpC (model prog w) A (getAttr (.ref x) "valid" true) Q E s := by
  refine k_prop (us := us) (rest := [.none, .none, .none, .str t74 508, .bool false]) (p := 212) (fget := 211) G C h1 h2 (cls_Proxy _) (by kernel_rfl) (by kernel_rfl) (by kernel_rfl) (by kernel_rfl) (fun s C => ?_)
  refine r_codeF G C (fn_ProxyData_valid _) (Nat.lt_of_lt_of_le (show A.in1.depth < 980 from hroom) (by decide)) [("self", .ref x)] (BindsTo.of_eq (by kernel_rfl)) rfl (by kernel_rfl) (rest := []) rfl (fun L s C => ?_)
  conv in (execs _ _) => arg 1; whnf
  obtain ⟨i, e1, e2⟩ := ge.get
  refine a_one (a_Return (a_Not (a_BoolOp (a_bOr (a_Attr (r_local C 0 rfl rfl (r_get G C h1 h2 a (cls_Proxy _) i e1 e2 rfl fun s C => ?_)))))))
  refine PySem.P.truthy_str (by omega) ?_
  have e : ((m.length : Int) != 0) = true := by rw [bne_iff_ne]; omega
  have C := (C.tok (s.toks + 1)).tok (s.toks + 1 + 1)
  rw [e, if_pos rfl]
  refine PySem.P.truthy_str (by omega) ?_
  rw [e]
  exact ⟨_, rfl, rfl, k _ ((C.tok (s.toks + 1 + 1 + 1)).tok (s.toks + 1 + 1 + 1 + 1)).pop⟩
theorem ct_validOk {x dx : Addr} {es : List DictEntry} {n : Nat} {us : List Value} {tm : Tok} {v p : Value} {Q : Value → Shared → Prop} (G : Gd (KT w.params) H TB mg mb) (hroom : A.depth < 980)
    (C : Cx H TB os fr fs s) (h1 : (x, instObj 238 dx) ∈ fs) (h2 : (dx, dictOf es n) ∈ fs) (a : AttrsAre pxNames es us) (ge : GAt pxNames us "error" (.str (Str.ofString "") tm)) (gv : GAt pxNames us "version" v) (gp : GAt pxNames us "protocol" p) (hv : handedIn v = true) (hp : handedIn p = true) (nv : (v == .none) = false) (np : (p == .none) = false)
    (k : ∀ s', Cx H TB os fr fs s' → Q (.bool true) s') : wpC (model prog w) A (getAttr (.ref x) "valid" true) Q E s := by
  refine k_prop (us := us) (rest := [.none, .none, .none, .str t74 508, .bool false]) (p := 212) (fget := 211) G C h1 h2 (cls_Proxy _) (by kernel_rfl) (by kernel_rfl) (by kernel_rfl) (by kernel_rfl) (fun s C => ?_)
  refine r_codeF G C (fn_ProxyData_valid _) (Nat.lt_of_lt_of_le (show A.in1.depth < 980 from hroom) (by decide)) [("self", .ref x)] (BindsTo.of_eq (by kernel_rfl)) rfl (by kernel_rfl) (rest := []) rfl (fun L s C => ?_)
  conv in (execs _ _) => arg 1; whnf
  obtain ⟨i, e1, e2⟩ := ge.get
  obtain ⟨i2, f1, f2⟩ := gv.get
  obtain ⟨i3, g1, g2⟩ := gp.get
  refine a_one (a_Return (a_Not (a_BoolOp (a_bOr (a_Attr (r_local C 0 rfl rfl (r_get G C h1 h2 a (cls_Proxy _) i e1 e2 rfl fun s C => ?_)))))))
  refine PySem.P.truthy_str (by decide +kernel) ?_
  have e : (((Str.ofString "").length : Int) != 0) = false := by decide +kernel
  have C := (C.tok (s.toks + 1)).tok (s.toks + 1 + 1)
  rw [e, if_neg (by decide)]
  refine a_bOr (a_isNone (a_Attr (r_local C 0 rfl rfl (r_get G C h1 h2 a (cls_Proxy _) i2 f1 f2 hv fun s C => ?_))))
  rw [nv]
  refine wpAny_truthy_bool ?_
  rw [if_neg (by decide)]
  refine a_bLast (a_isNone (a_Attr (r_local C 0 rfl rfl (r_get G C h1 h2 a (cls_Proxy _) i3 g1 g2 hp fun s C => ?_))))
  rw [np]
  refine wpAny_truthy_bool ?_
  exact ⟨_, rfl, rfl, k _ C.pop⟩
end

end
end Px
end

/- Wkk -/
section
open PySem PySem.W PySem.Calls PyProof.Rows
set_option Elab.async false
set_option maxRecDepth 100000
set_option maxHeartbeats 4000000
set_option linter.unusedVariables false
namespace Px
noncomputable section
set_option hygiene false in
local macro_rules | `(tactic| row_room_at px_more) => `(tactic| first
  | ((with_reducible show wpC _ _ (assign (Expr.Tuple _ _ _) _ (Value.ref _)) _ _ _); refine k_unpack C (by row_room_at px_mem) (by exact hh) rfl rfl (fun _ C => ?_))
  | with_reducible refine c_ordEach ?_
  | with_reducible refine c_ordEachNil ?_
  | ((with_reducible show wpC _ _ (binaryOp Operator.Mod _ _) _ _ _); refine k_mod C (by decide) (fun _ _ C => ?_))
  | ((with_reducible show wpC _ _ (binaryOp Operator.FloorDiv _ _) _ _ _); refine k_fdiv C (by decide) (by decide) (fun _ _ C => ?_))
  | ((with_reducible show wpC _ _ (unaryOp UnaryOp.Not _) _ _ _); refine k_unNot ?_)
  | ((with_reducible show wpC _ _ (eval (Expr.Name (Str.ofString "seed") _) _) _ _ _); refine k_cell C 0 rfl (by rw [hcl]; rfl) (by row_room_at px_mem) hcd ?_)
  | ((with_reducible show wpC _ _ (call (Value.type "range") _ _) _ _ _); refine k_range1 C (fun _ _ _ _ _ C => ?_))
  | ((with_reducible show wpC _ _ (newList _) _ _ _); refine k_newList C (by with_unfolding_all exact Nat.le_of_ble_eq_true rfl) (fun _ _ C => ?_))
  | ((with_reducible show wpC _ _ (binaryOp Operator.Mult _ _) _ _ _); refine k_mulL C (by decide) (fun _ _ C => ?_)))
set_option hygiene false in
local macro_rules | `(tactic| row_room_at px_leaf) => `(tactic| repeat (first
  | with_reducible refine wpAny_BinOp ?_
  | with_reducible refine wpAny_Constant_int ?_
  | refine a_own hn hm ?_
  | refine a_cell (c := L + 1) rfl hcell hcd ?_
  | with_reducible refine PySem.P.add_int ?_
  | with_reducible refine PySem.P.mul_int ?_ (.of_right (bits_small (by omega)))
  | with_reducible refine PyProof.Rows.mod_int (by decide) ?_))
section
variable {prog : Program} {w : World} {H : Heap} {TB : List TabSpec} {os : OsState} {mg mb : Str → Option Value}
variable {A : Around} {fr R : List Fm} {F : Fct} {s : Shared} {R' : Result → Shared → Prop}
theorem fmodNat (a : Int) {m : Nat} (hm : 0 < m) : ∃ i : Nat, i < m ∧ a.fmod m = i := by
  have e := Int.fmod_eq_emod_of_nonneg a (Int.natCast_nonneg m)
  have h1 := Int.emod_nonneg a (b := (m : Int)) (by omega)
  have h2 := Int.emod_lt_of_pos a (b := (m : Int)) (by omega)
  exact ⟨(a.fmod m).toNat, by omega, by omega⟩
theorem ofAll {α : Type} {l : List α} {P : α → Prop} (h : ∀ v ∈ l, P v) {i : Nat} (hi : i < l.length) : ∃ v, l[i]? = some v ∧ P v := ⟨l[i], List.getElem?_eq_getElem hi, h _ (List.getElem_mem hi)⟩
theorem law_places (P : Params) : (KT P).lookup 272 = some (tupO [.int 0 631, .int 12 632, .int 36 633, .int 216 634]) := by kernel_rfl
theorem placesAt : ∀ v ∈ [Value.int 0 631, .int 12 632, .int 36 633, .int 216 634], ∃ (z : Nat) (t : Tok), v = .int z t ∧ z ≤ 216 := by
  intro v hv
  simp only [List.mem_cons, List.not_mem_nil, or_false] at hv
  rcases hv with rfl | rfl | rfl | rfl
  · exact ⟨0, _, rfl, by decide⟩
  · exact ⟨12, _, rfl, by decide⟩
  · exact ⟨36, _, rfl, by decide⟩
  · exact ⟨216, _, rfl, by decide⟩
/-- the law's header: the way back -/
theorem hd_c {L : Addr} {co' : Obj} {O : List UInt8} {tO : Tok} {v0 v1 v2 v3 v4 v5 v6 v7 v8 : Value} {sd : Int} {ts : Tok} (G : Gd (KT w.params) H TB mg mb) (hroom : A.depth < 900) (hh : A.handled = none) (hg : A.guards = some []) (hcl : (callEnvC (fd_law_header w.params) L 277).cells = [(Str.ofString "seed", L + 1)]) (hcd : co'.data = .cell (some (.int sd ts)))
    (C : Cx H TB os (⟨sc_law_header, callEnvC (fd_law_header w.params) L 277, L, [some v0, some v1, some v2, some v3, some v4, some v5, some v6, some v7, some v8, some (.bytes O.toArray tO)]⟩ :: fr) ((L + 1, co') :: F) s) (hO : O.length ≤ 300) (hP : O.take 5 ≠ [80, 82, 79, 88, 89])
    (k : ∀ (r sz : Addr) (O : List UInt8) t ps n' s', O.length ≤ 300 → O.take 5 ≠ [80, 82, 79, 88, 89] → Pieces ps → Cx H TB os fr ((r, tupO [.bytes O.toArray t, .ref sz]) :: (sz, lstO ps n') :: F) s' → R' (.ok (.ret (.ref r))) s') :
    wpC (model prog w) (A.deeper (callEnvC (fd_law_header w.params) L 277)) (execs (bd_law_header.drop 11) (callEnvC (fd_law_header w.params) L 277)) (fun fl s' => R' (.ok (.ret (match fl with | .ret v => v | _ => .none))) s')
        (fun e s' => wpAny (model prog w) (A.deeper (callEnvC (fd_law_header w.params) L 277)) (leaving (callEnvC (fd_law_header w.params) L 277) e) (fun _ s'' => R' (.error e) s'') (fun e' s'' => R' (.error e') s'') s') s := by
  have hN : sc_law_header.nm = (["number", "turn", "command", "family", "protocol", "count", "place", "tail", "head", "octets"] : List Str) := rfl
  conv in (execs _ _) => arg 1; whnf
  row_room_at pxs
  refine c_ListComp (cl := [("seed", L + 1)]) (by with_unfolding_all rfl) rfl (by decide) ?_
  row_room_at pxs
  refine k_lcRange (n := 12) (Fl := fun v y => ∃ (z : Nat) (t : Tok), y = .int z t ∧ 1 ≤ z) C (.head _) hh (by decide) (by decide) rfl rfl ?leaf (fun D ys n' Cc oC s m hl hy hn C => lc_value C hn fun s C => ?_)
  case leaf =>
    rintro Cc i v s m E' ⟨hi, t, rfl⟩ hn hm hk
    have hcell : s.heap.get? (L + 1) = some co' := hk (L + 1, co') (.tail _ (.head _))
    row_room_at px_leaf
    obtain ⟨z, hz, ez⟩ := fmodNat (sd + 5 * (i : Int)) (m := 9) (by decide)
    rw [show ((9 : Nat) : Int) = 9 from rfl] at ez
    exact ⟨⟨1 + z, _, by rw [ez]; rfl, by omega⟩, _, _, rfl, fun _ _ e => e⟩
  row_room_at pxs
  refine k _ D O tO ys n' _ hO hP ⟨by rw [hl]; decide, fun v hv => ?_⟩ (C.pop.sel (by row_room_at px_sel))
  obtain ⟨j, hj⟩ := List.mem_iff_getElem?.mp hv
  obtain ⟨_, z, t, e, hz⟩ := hy j v hj
  exact ⟨z, t, hz, e⟩
theorem notProxy {X : List UInt8} {n : Nat} (h : X[0]? = some 13 ∨ X[1]? = some 10) : (X.take n).take 5 ≠ [80, 82, 79, 88, 89] := by
  intro e
  rw [List.take_take] at e
  have e0 : ([80, 82, 79, 88, 89] : List UInt8)[0]? = some 80 := rfl
  have e1 : ([80, 82, 79, 88, 89] : List UInt8)[1]? = some 82 := rfl
  rw [← e, List.getElem?_take] at e0 e1
  rcases h with h | h
  · split at e0
    · rw [h] at e0; cases e0
    · cases e0
  · split at e1
    · rw [h] at e1; cases e1
    · cases e1
/-- the law's header: the octets joined -/
theorem hd_b {L hd : Addr} {co' o : Obj} {T : List UInt8} {tT : Tok} {hv : List Value} {hns : List Int} {v0 v1 v2 v3 v4 v5 v6 : Value} {sd : Int} {ts : Tok} (G : Gd (KT w.params) H TB mg mb) (hroom : A.depth < 900) (hh : A.handled = none) (hg : A.guards = some []) (hcl : (callEnvC (fd_law_header w.params) L 277).cells = [(Str.ofString "seed", L + 1)]) (hcd : co'.data = .cell (some (.int sd ts)))
    (C : Cx H TB os (⟨sc_law_header, callEnvC (fd_law_header w.params) L 277, L, [some v0, some v1, some v2, some v3, some v4, some v5, some v6, some (.bytes T.toArray tT), some (.ref hd), none]⟩ :: fr) ((hd, o) :: (L + 1, co') :: F) s) (hTl : T.length ≤ 238)
    (ho : o.cls = .type "list" ∧ ∃ n, o.data = .seq hv.toArray n) (hi : IntsAre hv hns) (hl : hv.length = 16) (hr : ∀ n ∈ hns, 0 ≤ n ∧ n < 256) (hP : hns[0]? = some 13 ∨ hns[1]? = some 10)
    (k : ∀ (r sz : Addr) (O : List UInt8) t ps n' s', O.length ≤ 300 → O.take 5 ≠ [80, 82, 79, 88, 89] → Pieces ps → Cx H TB os fr ((r, tupO [.bytes O.toArray t, .ref sz]) :: (sz, lstO ps n') :: F) s' → R' (.ok (.ret (.ref r))) s') :
    wpC (model prog w) (A.deeper (callEnvC (fd_law_header w.params) L 277)) (execs (bd_law_header.drop 9) (callEnvC (fd_law_header w.params) L 277)) (fun fl s' => R' (.ok (.ret (match fl with | .ret v => v | _ => .none))) s')
        (fun e s' => wpAny (model prog w) (A.deeper (callEnvC (fd_law_header w.params) L 277)) (leaving (callEnvC (fd_law_header w.params) L 277) e) (fun _ s'' => R' (.error e) s'') (fun e' s'' => R' (.error e') s'') s') s := by
  have hN : sc_law_header.nm = (["number", "turn", "command", "family", "protocol", "count", "place", "tail", "head", "octets"] : List Str) := rfl
  conv in (execs _ _) => arg 1; whnf
  have hTz : T.length ≤ 16777216 := by omega
  have hnl : hns.length = 16 := hi.length.symm.trans hl
  row_room_at pxs
  refine k_bytesList C (.head _) ho hi hr (by rw [hl]; decide) hh (fun tB s C => ?_)
  obtain ⟨B, hB⟩ : ∃ B, B = hns.map fun n => n.toNat.toUInt8 := ⟨_, rfl⟩
  rw [← hB]
  have hBl : B.length = 16 := by rw [hB, List.length_map, hnl]
  have hBP : B[0]? = some 13 ∨ B[1]? = some 10 := by
    rw [hB, List.getElem?_map, List.getElem?_map]
    exact hP.imp (fun e => by rw [e]; rfl) fun e => by rw [e]; rfl
  row_room_at pxs
  refine k_addBytes C (by omega) (fun _ _ C => ?_)
  row_room_at pxs
  refine k_addBytes C (by rw [List.length_append]; show _ + 17 ≤ _; omega) (fun _ _ C => ?_)
  obtain ⟨X, hX⟩ : ∃ X, X = B ++ T ++ [69, 72, 76, 79, 32, 109, 101, 46, 101, 120, 97, 109, 112, 108, 101, 13, 10] := ⟨_, rfl⟩
  rw [← hX]
  have hXl : X.length = 16 + T.length + 17 := by rw [hX, List.length_append, List.length_append, hBl]; rfl
  have hXz : X.length ≤ 16777216 := by omega
  have hXP : X[0]? = some 13 ∨ X[1]? = some 10 := by
    rw [hX, List.append_assoc, List.getElem?_append_left (by omega), List.getElem?_append_left (by omega)]
    exact hBP
  row_room_at pxs
  cases hc7 : (sd.fmod 7 == 5)
  · rw [if_neg (by decide)]
    row_room_at px
    exact hd_c (O := X) G hroom hh hg hcl hcd (C.sel (by row_room_at px_sel)) (by omega) (by rw [← List.take_length (l := X)]; exact notProxy hXP) k
  · rw [if_pos rfl]
    obtain ⟨i, hi5, e5⟩ := fmodNat (sd.fdiv 7) (m := X.length) (by omega)
    row_room_at pxs
    refine k_mod C (by omega) (fun _ _ C => ?_)
    rw [e5]
    iterate 4 row_room_at px
    rw [cut_to] at C
    exact hd_c (O := X.take i) G hroom hh hg hcl hcd (C.sel (by row_room_at px_sel)) (by rw [List.length_take]; omega) (notProxy hXP) k
/-- the law's header: one octet turned -/
theorem hd_a {L hd : Addr} {plc : Nat} {tp : Tok} {co' : Obj} {T : List UInt8} {tT : Tok} {hv : List Value} {hns : List Int} {v0 v1 v2 v3 v4 v5 : Value} {sd : Int} {ts : Tok} (G : Gd (KT w.params) H TB mg mb) (hroom : A.depth < 900) (hh : A.handled = none) (hg : A.guards = some []) (hcl : (callEnvC (fd_law_header w.params) L 277).cells = [(Str.ofString "seed", L + 1)]) (hcd : co'.data = .cell (some (.int sd ts)))
    (C : Cx H TB os (⟨sc_law_header, callEnvC (fd_law_header w.params) L 277, L, [some v0, some v1, some v2, some v3, some v4, some v5, some (.int plc tp), some (.bytes T.toArray tT), some (.ref hd), none]⟩ :: fr) ((hd, lstO hv) :: (L + 1, co') :: F) s) (hTl : T.length ≤ 238)
    (hplc : plc < 16) (hi : IntsAre hv hns) (hl : hv.length = 16) (hr : ∀ n ∈ hns, 0 ≤ n ∧ n < 256) (h0 : hns[0]? = some 13) (h1 : hns[1]? = some 10)
    (k : ∀ (r sz : Addr) (O : List UInt8) t ps n' s', O.length ≤ 300 → O.take 5 ≠ [80, 82, 79, 88, 89] → Pieces ps → Cx H TB os fr ((r, tupO [.bytes O.toArray t, .ref sz]) :: (sz, lstO ps n') :: F) s' → R' (.ok (.ret (.ref r))) s') :
    wpC (model prog w) (A.deeper (callEnvC (fd_law_header w.params) L 277)) (execs (bd_law_header.drop 8) (callEnvC (fd_law_header w.params) L 277)) (fun fl s' => R' (.ok (.ret (match fl with | .ret v => v | _ => .none))) s')
        (fun e s' => wpAny (model prog w) (A.deeper (callEnvC (fd_law_header w.params) L 277)) (leaving (callEnvC (fd_law_header w.params) L 277) e) (fun _ s'' => R' (.error e) s'') (fun e' s'' => R' (.error e') s'') s') s := by
  have hN : sc_law_header.nm = (["number", "turn", "command", "family", "protocol", "count", "place", "tail", "head", "octets"] : List Str) := rfl
  conv in (execs _ _) => arg 1; whnf
  have hvz : hv.length ≤ 16777216 := by rw [hl]; decide
  have oth : ∀ a b c d e : Tok, ∀ v ∈ [Value.int 1 a, .int 255 b, .int 16 c, .int 240 d, .int 4 e], ∃ (z : Int) (t : Tok), v = .int z t ∧ True := by
    intro a b c d e v hv
    simp only [List.mem_cons, List.not_mem_nil, or_false] at hv
    rcases hv with rfl | rfl | rfl | rfl | rfl <;> exact ⟨_, _, rfl, trivial⟩
  row_room_at pxs
  cases hs2 : (sd.fmod 2 == 1)
  · rw [if_neg (by decide)]
    row_room_at px
    exact hd_b G hroom hh hg hcl hcd C hTl ⟨rfl, _, rfl⟩ hi hl hr (.inl h0) k
  · rw [if_pos rfl]
    row_room_at pxs
    obtain ⟨x1, x2, hx⟩ := ints_at hi (i := plc) (by omega)
    refine k_itemList C (.head _) hx hvz ?_
    row_room_at pxs
    obtain ⟨i4, hi4, e4⟩ := fmodNat (sd.fdiv 14) (m := 5) (by decide)
    rw [show ((5 : Nat) : Int) = 5 from rfl] at e4
    rw [e4]
    obtain ⟨_, g4, x3, x4, rfl, _⟩ := ofAll (oth _ _ _ _ _) (i := i4) hi4
    refine k_itemTup (C.fact (_, tupO _) (.head _)) g4 (by show 5 ≤ _; decide) ?_
    row_room_at pxs
    obtain ⟨z, hz, ez⟩ := fmodNat (x1 + x3) (m := 256) (by decide)
    rw [show ((256 : Nat) : Int) = 256 from rfl] at ez
    rw [ez]
    refine k_setItem (o := lstO hv) C (by row_room_at px_upd) ⟨rfl, _, rfl⟩ (by omega) hvz (fun o' s' ho' C => ?_)
    dsimp only
    row_room_at px
    refine hd_b G hroom hh hg hcl hcd (C.sel (by row_room_at px_sel)) hTl ho' (ints_set hi) (by rw [List.length_set]; exact hl) (fun n hn => ?_) ?_ k
    · rcases List.mem_or_eq_of_mem_set hn with h | rfl
      · exact hr n h
      · exact ⟨Int.natCast_nonneg z, by omega⟩
    · by_cases hp : plc = 0
      · right; rw [List.getElem?_set_ne (by omega)]; exact h1
      · left; rw [List.getElem?_set_ne hp]; exact h0
end

end
end Px
end

/- Wkl -/
section
open PySem PySem.W PySem.Calls PyProof.Rows
set_option Elab.async false
set_option maxRecDepth 100000
set_option maxHeartbeats 4000000
set_option linter.unusedVariables false
namespace Px
noncomputable section
set_option hygiene false in
local macro_rules | `(tactic| row_room_at px_more) => `(tactic| first
  | ((with_reducible show wpC _ _ (assign (Expr.Tuple _ _ _) _ (Value.ref _)) _ _ _); refine k_unpack C (by row_room_at px_mem) (by exact hh) rfl rfl (fun _ C => ?_))
  | with_reducible refine c_ordEach ?_
  | with_reducible refine c_ordEachNil ?_
  | ((with_reducible show wpC _ _ (binaryOp Operator.Mod _ _) _ _ _); refine k_mod C (by decide) (fun _ _ C => ?_))
  | ((with_reducible show wpC _ _ (binaryOp Operator.FloorDiv _ _) _ _ _); refine k_fdiv C (by decide) (by decide) (fun _ _ C => ?_))
  | ((with_reducible show wpC _ _ (unaryOp UnaryOp.Not _) _ _ _); refine k_unNot ?_)
  | ((with_reducible show wpC _ _ (eval (Expr.Name (Str.ofString "seed") _) _) _ _ _); refine k_cell C 0 rfl (by rw [hcl]; rfl) (by row_room_at px_mem) hcd ?_)
  | ((with_reducible show wpC _ _ (call (Value.type "range") _ _) _ _ _); refine k_range1 C (fun _ _ _ _ _ C => ?_))
  | ((with_reducible show wpC _ _ (newList _) _ _ _); refine k_newList C (by with_unfolding_all exact Nat.le_of_ble_eq_true rfl) (fun _ _ C => ?_))
  | ((with_reducible show wpC _ _ (binaryOp Operator.Mult _ _) _ _ _); refine k_mulL C (by decide) (fun _ _ C => ?_)))
set_option hygiene false in
local macro_rules | `(tactic| row_room_at px_leaf) => `(tactic| repeat (first
  | with_reducible refine wpAny_BinOp ?_
  | with_reducible refine wpAny_Constant_int ?_
  | refine a_own hn hm ?_
  | refine a_cell (c := L + 1) rfl hcell hcd ?_
  | with_reducible refine PySem.P.add_int ?_
  | with_reducible refine PySem.P.mul_int ?_ (.of_right (bits_small (by omega)))
  | with_reducible refine PyProof.Rows.mod_int (by decide) ?_))
section
variable {prog : Program} {w : World} {H : Heap} {TB : List TabSpec} {os : OsState} {mg mb : Str → Option Value}
variable {A : Around} {fr R : List Fm} {F : Fct} {s : Shared} {R' : Result → Shared → Prop}
theorem ct_header {number : Int} {turn : Nat} {tn tt : Tok} (G : Gd (KT w.params) H TB mg mb) (hroom : A.depth < 900) (hh : A.handled = none) (hg : A.guards = some [])
    (C : Cx H TB os fr F s) (hturn : turn < 100)
    (k : ∀ (r sz : Addr) (O : List UInt8) t ps n' s', O.length ≤ 300 → O.take 5 ≠ [80, 82, 79, 88, 89] → Pieces ps → Cx H TB os fr ((r, tupO [.bytes O.toArray t, .ref sz]) :: (sz, lstO ps n') :: F) s' → R' (.ok (.ret (.ref r))) s') :
    codeC (model prog w) A (.call (.ref 277) ⟨[.int number tn, .int turn tt], []⟩) R' s := by
  refine k_codeCell (y := "seed") G C (fn_law_header _) (Nat.lt_of_lt_of_le hroom (by decide)) [("number", .int number tn), ("turn", .int turn tt)]
    [some (.int number tn), some (.int turn tt), none, none, none, none, none, none, none, none] none (kp_binds (C.kin G) (fun S => by kernel_rfl)) (fun n => by kernel_rfl) (by kernel_rfl) (by kernel_rfl) (by kernel_rfl) (fun L co s hco C hcl => ?_)
  have hN : sc_law_header.nm = (["number", "turn", "command", "family", "protocol", "count", "place", "tail", "head", "octets"] : List Str) := rfl
  conv in (execs _ _) => arg 1; whnf
  row_room_at pxs
  have fam4 : ∀ a b c d e f g : Tok, ∀ v ∈ [Value.int 0 a, .int 1 b, .int 2 c, .int 1 d, .int 3 e, .int 2 f, .int 1 g], ∃ (z : Nat) (t : Tok), v = .int z t ∧ z ≤ 3 := by
    intro a b c d e f g v hv
    simp only [List.mem_cons, List.not_mem_nil, or_false] at hv
    rcases hv with rfl | rfl | rfl | rfl | rfl | rfl | rfl <;> first | exact ⟨0, _, rfl, by decide⟩ | exact ⟨1, _, rfl, by decide⟩ | exact ⟨2, _, rfl, by decide⟩ | exact ⟨3, _, rfl, by decide⟩
  have pro4 : ∀ a b c d e : Tok, ∀ v ∈ [Value.int 1 a, .int 2 b, .int 1 c, .int 0 d, .int 2 e], ∃ (z : Nat) (t : Tok), v = .int z t ∧ z ≤ 2 := by
    intro a b c d e v hv
    simp only [List.mem_cons, List.not_mem_nil, or_false] at hv
    rcases hv with rfl | rfl | rfl | rfl | rfl <;> first | exact ⟨0, _, rfl, by decide⟩ | exact ⟨1, _, rfl, by decide⟩ | exact ⟨2, _, rfl, by decide⟩
  obtain ⟨i1, hi1, e1⟩ := fmodNat (number.fdiv 2) (m := 7) (by decide)
  rw [show ((7 : Nat) : Int) = 7 from rfl] at e1
  rw [e1]
  obtain ⟨_, g1, fam, ft, rfl, hfam⟩ := ofAll (fam4 _ _ _ _ _ _ _) (i := i1) hi1
  refine k_itemTup (C.fact (_, tupO _) (.head _)) g1 (by show 7 ≤ _; decide) ?_
  row_room_at pxs
  obtain ⟨i2, hi2, e2⟩ := fmodNat (number.fdiv 14) (m := 5) (by decide)
  rw [show ((5 : Nat) : Int) = 5 from rfl] at e2
  rw [e2]
  obtain ⟨_, g2, pro, pt, rfl, hpro⟩ := ofAll (pro4 _ _ _ _ _) (i := i2) hi2
  refine k_itemTup (C.fact (_, tupO _) (.head _)) g2 (by show 5 ≤ _; decide) ?_
  row_room_at pxs
  generalize number.fdiv 70 + 5 * (turn : Int) + number.fdiv 3 = sd
  refine k_cellStore (x := "seed") C 0 rfl (by rw [hcl]; rfl) (by row_room_at px_upd) hco (fun co' _ hcd C => ?_)
  iterate 2 row_room_at px
  have C := C.sel (fs' := (L + 1, co') :: F) (by row_room_at px_sel)
  refine k_joinInt (m := 216) C ?_ (fun cnt ct s hcnt C => ?_)
  · row_room_at pxs
    by_cases hp : (pro : Int) > 0
    · rw [decide_eq_true hp, if_pos rfl]
      row_room_at pxs
      obtain ⟨_, g3, z, zt, rfl, hz⟩ := ofAll placesAt (i := fam) (by show fam < 4; omega)
      refine k_itemTup (C.kin G _ _ (law_places _)) g3 (by show 4 ≤ _; decide) ?_
      exact ⟨z, zt, rfl, hz, C⟩
    · rw [decide_eq_false hp, if_neg (by decide)]
      row_room_at pxs
      exact ⟨0, _, rfl, by decide, C⟩
  row_room_at pxs
  obtain ⟨i3, hi3, e3⟩ := fmodNat (sd.fdiv 5) (m := 23) (by decide)
  rw [show ((23 : Nat) : Int) = 23 from rfl] at e3
  refine c_ListComp (cl := [("seed", L + 1)]) (by with_unfolding_all rfl) rfl (by decide) ?_
  row_room_at pxs
  rw [e3, show (cnt : Int) + (i3 : Int) = ((cnt + i3 : Nat) : Int) by omega] at C
  refine k_lcRange (n := cnt + i3) (Fl := fun v y => ∃ (z : Nat) (t : Tok), y = .int z t ∧ z < 256) C (.head _) hh (by omega) (by decide) rfl rfl ?leaf (fun D ys n' Cc oC s m hl hy hn C => lc_value C hn fun s C => ?_)
  case leaf =>
    rintro Cc i v s m E' ⟨hi, t, rfl⟩ hn hm hk
    have hcell : s.heap.get? (L + 1) = some co' := hk (L + 1, co') (.tail _ (.head _))
    row_room_at px_leaf
    obtain ⟨z, hz, ez⟩ := fmodNat (sd * ((i : Int) + 3) + 7 * (i : Int) + 1) (m := 256) (by decide)
    rw [show ((256 : Nat) : Int) = 256 from rfl] at ez
    exact ⟨⟨z, _, by rw [ez], hz⟩, _, _, rfl, fun _ _ e => e⟩
  row_room_at pxs
  obtain ⟨ns, hi, hnl, hr⟩ := ints_of (m := 256) (ys := ys) fun j y e => let ⟨_, q⟩ := hy j y e; q
  refine k_bytesList C (.head _) ⟨rfl, _, rfl⟩ hi hr (by omega) hh (fun tT s C => ?_)
  have C := C.sel (fs' := (L + 1, co') :: F) (by row_room_at px_sel)
  obtain ⟨T, hT⟩ : ∃ T, T = ns.map fun n => n.toNat.toUInt8 := ⟨_, rfl⟩
  rw [← hT]
  have hTl : T.length ≤ 238 := by rw [hT, List.length_map]; omega
  have hTz : T.length ≤ 16777216 := by omega
  obtain ⟨i0, hi0, e0⟩ := fmodNat number (m := 2) (by decide)
  rw [show ((2 : Nat) : Int) = 2 from rfl] at e0
  rw [e0] at C
  row_room_at pxs
  have plc : ∀ (z : Nat), z < 16 → ∀ a b c d e f g : Tok, ∀ v ∈ [Value.int 15 a, .int 13 b, .int 15 c, .int 12 d, .int 13 e, .int 15 f, .int z g], ∃ (z : Nat) (t : Tok), v = .int z t ∧ z < 16 := by
    intro z hz a b c d e f g v hv
    simp only [List.mem_cons, List.not_mem_nil, or_false] at hv
    rcases hv with rfl | rfl | rfl | rfl | rfl | rfl | rfl <;> first | exact ⟨15, _, rfl, by decide⟩ | exact ⟨13, _, rfl, by decide⟩ | exact ⟨12, _, rfl, by decide⟩ | exact ⟨z, _, rfl, hz⟩
  obtain ⟨i4, hi4, e4⟩ := fmodNat (sd.fdiv 2) (m := 7) (by decide)
  rw [show ((7 : Nat) : Int) = 7 from rfl] at e4
  rw [e4]
  obtain ⟨i5, hi5, e5⟩ := fmodNat (sd.fdiv 16) (m := 16) (by decide)
  rw [show ((16 : Nat) : Int) = 16 from rfl] at e5
  rw [e5] at C
  obtain ⟨_, g4, plc, plt, rfl, hplc⟩ := ofAll (plc i5 hi5 _ _ _ _ _ _ _) (i := i4) hi4
  refine k_itemTup (C.fact (_, tupO _) (.head _)) g4 (by show 7 ≤ _; decide) ?_
  iterate 1 row_room_at px
  have hT2 : T.length < 65536 := by omega
  obtain ⟨i6, hi6, e6⟩ := fmodNat (T.length : Int) (m := 256) (by decide)
  rw [show ((256 : Nat) : Int) = 256 from rfl] at e6
  have e7 : (T.length : Int).fdiv 256 = 0 := by rw [Int.fdiv_eq_ediv_of_nonneg _ (by decide)]; omega
  rw [e6, e7] at C
  refine hd_a (hns := [13, 10, 13, 10, 0, 13, 10, 81, 85, 73, 84, 10, 32 + (i0 : Int), 16 * (fam : Int) + (pro : Int), 0, (i6 : Int)]) G hroom hh hg hcl hcd (C.sel (by row_room_at px_sel)) hTl hplc ?hin rfl ?hrg rfl rfl k
  case hin => repeat (first | exact IntsAre.nil | refine IntsAre.cons _ _ ?_)
  case hrg => intro n hn; simp only [List.mem_cons, List.not_mem_nil, or_false] at hn; omega
end

end
end Px
end

/- Wkm -/
section
open PySem PySem.W PySem.Calls PyProof.Rows
set_option Elab.async false
set_option maxRecDepth 100000
set_option maxHeartbeats 4000000
set_option linter.unusedVariables false
namespace Px
noncomputable section
set_option hygiene false in
local macro_rules | `(tactic| row_room_at px_more) => `(tactic| first
  | ((with_reducible show wpC _ _ (assign (Expr.Tuple _ _ _) _ (Value.ref _)) _ _ _); refine k_unpack C (by row_room_at px_mem) (by exact hh) rfl rfl (fun _ C => ?_))
  | with_reducible refine c_ordEach ?_
  | with_reducible refine c_ordEachNil ?_
  | ((with_reducible show wpC _ _ (binaryOp Operator.Mod _ _) _ _ _); refine k_mod C (by decide) (fun _ _ C => ?_))
  | ((with_reducible show wpC _ _ (binaryOp Operator.FloorDiv _ _) _ _ _); refine k_fdiv C (by decide) (by decide) (fun _ _ C => ?_))
  | ((with_reducible show wpC _ _ (unaryOp UnaryOp.Not _) _ _ _); refine k_unNot ?_)
  | ((with_reducible show wpC _ _ (eval (Expr.Name (Str.ofString "seed") _) _) _ _ _); refine k_cell C 0 rfl (by rw [hcl]; rfl) (by row_room_at px_mem) hcd ?_)
  | ((with_reducible show wpC _ _ (call (Value.type "range") _ _) _ _ _); refine k_range1 C (fun _ _ _ _ _ C => ?_))
  | ((with_reducible show wpC _ _ (newList _) _ _ _); refine k_newList C (by with_unfolding_all exact Nat.le_of_ble_eq_true rfl) (fun _ _ C => ?_))
  | ((with_reducible show wpC _ _ (binaryOp Operator.Mult _ _) _ _ _); refine k_mulL C (by decide) (fun _ _ C => ?_)))
set_option hygiene false in
local macro_rules | `(tactic| row_room_at px_leaf) => `(tactic| repeat (first
  | with_reducible refine wpAny_BinOp ?_
  | with_reducible refine wpAny_Constant_int ?_
  | refine a_own hn hm ?_
  | refine a_cell (c := L + 1) rfl hcell hcd ?_
  | with_reducible refine PySem.P.add_int ?_
  | with_reducible refine PySem.P.mul_int ?_ (.of_right (bits_small (by omega)))
  | with_reducible refine PyProof.Rows.mod_int (by decide) ?_))
section
variable {prog : Program} {w : World} {H : Heap} {TB : List TabSpec} {os : OsState} {mg mb : Str → Option Value}
variable {A : Around} {fr R : List Fm} {F : Fct} {s : Shared} {R' : Result → Shared → Prop}
theorem four {O : List UInt8} (h : 16 ≤ O.length) : (O.drop 12).take 4 = [O.getD 12 0, O.getD 13 0, O.getD 14 0, O.getD 15 0] := by
  have e : ∀ i, i < O.length → O.drop i = O.getD i 0 :: O.drop (i + 1) := fun i hi => by
    rw [List.drop_eq_getElem_cons hi, List.getD_eq_getElem?_getD, List.getElem?_eq_getElem hi]; rfl
  rw [e 12 (by omega), e 13 (by omega), e 14 (by omega), e 15 (by omega)]
  rfl
theorem placesNeed {fam pr : Nat} (hf : fam ≤ 3) (hp : 1 ≤ pr) : ∃ t, ([.int 0 631, .int 12 632, .int 36 633, .int 216 634] : List Value)[fam]? = some (.int (need fam pr : Nat) t) := by
  obtain rfl | rfl | rfl | rfl : fam = 0 ∨ fam = 1 ∨ fam = 2 ∨ fam = 3 := by omega
  all_goals exact ⟨_, by rw [need, if_pos hp]; rfl⟩
theorem need_le (fam pr : Nat) : need fam pr ≤ 216 := by
  unfold need; split <;> (try split) <;> (try split) <;> (try split) <;> omega
abbrev toldT (O : List UInt8) (c d : UInt8) (n : Nat) (t1 t2 t3 t4 t5 t6 : Tok) : List Value :=
  [.int (c.toNat % 16 : Nat) t1, .int (d.toNat / 16 : Nat) t2, .int (d.toNat % 16 : Nat) t3, .bytes ((O.drop 16).take (need (d.toNat / 16) (d.toNat % 16))).toArray t4, .bytes ((O.drop (16 + need (d.toNat / 16) (d.toNat % 16))).take (n - need (d.toNat / 16) (d.toNat % 16))).toArray t5, .bytes (O.drop (16 + n)).toArray t6]
theorem ct_told {O : List UInt8} {tO : Tok} (G : Gd (KT w.params) H TB mg mb) (hroom : A.depth < 900) (hh : A.handled = none) (hg : A.guards = some [])
    (C : Cx H TB os fr F s) (hO : O.length ≤ 90000)
    (kNo : ¬ GoodAll O → ∀ r s', Cx H TB os fr ((r, tupO []) :: F) s' → R' (.ok (.ret (.ref r))) s')
    (kYes : ∀ c d l1 l2, O.take 12 = sigV2 → (O.drop 12).take 4 = [c, d, l1, l2] → GoodH c d (big [l1, l2]) (O.drop 16).length → ∀ r t1 t2 t3 t4 t5 t6 s', Cx H TB os fr ((r, tupO (toldT O c d (big [l1, l2]) t1 t2 t3 t4 t5 t6)) :: F) s' → R' (.ok (.ret (.ref r))) s') :
    codeC (model prog w) A (.call (.ref 284) ⟨[.bytes O.toArray tO], []⟩) R' s := by
  refine k_code G C (fn_law_told _) (Nat.lt_of_lt_of_le hroom (by decide)) [("octets", .bytes O.toArray tO)] [some (.bytes O.toArray tO), none, none, none, none, none] (BindsTo.of_eq (by kernel_rfl)) rfl (by kernel_rfl) ["command", "family", "protocol", "end", "count"] rfl rfl (fun L s C => ?_)
  have hN : sc_law_told.nm = (["octets", "command", "family", "protocol", "end", "count"] : List Str) := rfl
  have hOz : O.length ≤ 16777216 := by omega
  conv in (execs _ _) => arg 1; whnf
  row_room_at pxs
  have c12 : cut O none (some 12) = O.take 12 := cut_to _ 12
  by_cases h16 : 16 ≤ O.length
  rotate_left
  · have e : decide ((O.length : Int) < 16) = true := by rw [decide_eq_true_eq]; omega
    rw [e, if_pos rfl, if_pos rfl]
    row_room_at pxs
    exact kNo (by rintro ⟨c, d, l1, l2, g1, g2, _⟩; have := congrArg List.length g2; rw [List.length_take, List.length_drop] at this; have e4 : [c, d, l1, l2].length = 4 := rfl; omega) _ _ (C.pop.sel (by row_room_at px_sel))
  have e : decide ((O.length : Int) < 16) = false := by rw [decide_eq_false_iff_not]; omega
  rw [e, if_neg (by decide)]
  row_room_at pxs
  rw [c12]
  by_cases hsig : O.take 12 = sigV2
  rotate_left
  · rw [if_pos (by rw [bne_iff_ne]; exact hsig), if_pos rfl]
    row_room_at pxs
    exact kNo (by rintro ⟨c, d, l1, l2, g1, _⟩; exact hsig g1) _ _ (C.pop.sel (by row_room_at px_sel))
  rw [if_neg (by rw [hsig]; decide)]
  row_room_at px
  rw [if_neg (by decide)]
  have h4 := four h16
  generalize hc : O.getD 12 0 = c at h4
  generalize hd : O.getD 13 0 = d at h4
  generalize hl1 : O.getD 14 0 = l1 at h4
  generalize hl2 : O.getD 15 0 = l2 at h4
  row_room_at pxs
  refine k_itemBytes (i := 12) C hOz (by omega) (fun _ _ C => ?_)
  rw [hc]
  row_room_at pxs
  refine k_itemBytes (i := 13) C hOz (by omega) (fun _ _ C => ?_)
  rw [hd]
  row_room_at pxs
  refine k_itemBytes (i := 13) C hOz (by omega) (fun _ _ C => ?_)
  rw [hd]
  row_room_at pxs
  refine k_itemBytes (i := 14) C hOz (by omega) (fun _ _ C => ?_)
  rw [hl1]
  row_room_at pxs
  refine k_itemBytes (i := 15) C hOz (by omega) (fun _ _ C => ?_)
  rw [hl2]
  row_room_at pxs
  have gh : GoodAll O → GoodH c d (big [l1, l2]) (O.drop 16).length := by
    rintro ⟨c', d', m1, m2, g1, g2, g3⟩
    rw [h4] at g2
    simp only [List.cons.injEq, and_true] at g2
    obtain ⟨rfl, rfl, rfl, rfl⟩ := g2
    exact g3
  have hcn := u8lt c
  have hdn := u8lt d
  have eF : (d.toNat : Int).fdiv 16 = ((d.toNat / 16 : Nat) : Int) := by rw [Int.fdiv_eq_ediv_of_nonneg _ (by decide)]; omega
  have eM : (d.toNat : Int).fmod 16 = ((d.toNat % 16 : Nat) : Int) := by rw [Int.fmod_eq_emod_of_nonneg _ (by decide)]; omega
  have hbd : big [l1, l2] = l1.toNat * 256 + l2.toNat := by show (0 * 256 + l1.toNat) * 256 + l2.toNat = _; omega
  have eE : 16 + 256 * (l1.toNat : Int) + (l2.toNat : Int) = ((16 + big [l1, l2] : Nat) : Int) := by rw [hbd]; omega
  rw [eF, eM, eE] at C
  have hdl : (O.drop 16).length = O.length - 16 := List.length_drop ..
  refine wpC_any (notin_tuple_ints (ns := [0, 1]) ⟨_, C.fact (_, tupO _) (.head _), rfl, _, rfl⟩ (.cons 0 _ (.cons 1 _ .nil)) ?_)
  row_room_at pxs
  cases hany : ([0, 1] : List Int).any (· == ((c.toNat : Int) - 32))
  · rw [if_pos (show (!false) = true from rfl), if_pos rfl]
    row_room_at pxs
    have hn : ¬ (c.toNat / 16 = 2 ∧ c.toNat % 16 ≤ 1) := by
      intro ⟨a1, a2⟩
      simp only [List.any_cons, List.any_nil, Bool.or_false, Bool.or_eq_false_iff, beq_eq_false_iff_ne] at hany
      omega
    exact kNo (fun g => hn ⟨(gh g).1, (gh g).2.1⟩) _ _ (C.pop.sel (by row_room_at px_sel))
  have hcmd : c.toNat / 16 = 2 ∧ c.toNat % 16 ≤ 1 ∧ (c.toNat : Int) - 32 = ((c.toNat % 16 : Nat) : Int) := by
    simp only [List.any_cons, List.any_nil, Bool.or_false, Bool.or_eq_true, beq_iff_eq] at hany
    omega
  rw [if_neg (by decide)]
  rw [hcmd.2.2] at C
  row_room_at pxs
  by_cases hf3 : d.toNat / 16 ≤ 3
  rotate_left
  · rw [if_pos (by rw [decide_eq_true_eq]; omega), if_pos rfl]
    row_room_at pxs
    exact kNo (fun g => hf3 (gh g).2.2.1) _ _ (C.pop.sel (by row_room_at px_sel))
  rw [if_neg (by rw [decide_eq_true_eq]; omega)]
  row_room_at pxs
  by_cases hp2 : d.toNat % 16 ≤ 2
  rotate_left
  · rw [if_pos (by rw [decide_eq_true_eq]; omega), if_pos rfl]
    row_room_at pxs
    exact kNo (fun g => hp2 (gh g).2.2.2.1) _ _ (C.pop.sel (by row_room_at px_sel))
  rw [if_neg (by rw [decide_eq_true_eq]; omega)]
  row_room_at pxs
  by_cases hen : big [l1, l2] ≤ (O.drop 16).length
  rotate_left
  · rw [if_pos (by rw [decide_eq_true_eq]; omega), if_pos rfl]
    row_room_at pxs
    exact kNo (fun g => hen (gh g).2.2.2.2.1) _ _ (C.pop.sel (by row_room_at px_sel))
  rw [if_neg (by rw [decide_eq_true_eq]; omega)]
  row_room_at px
  rw [if_neg (by decide)]
  iterate 3 row_room_at px
  have C := C.sel (fs' := F) (by row_room_at px_sel)
  obtain ⟨nd, hnd⟩ : ∃ nd, nd = need (d.toNat / 16) (d.toNat % 16) := ⟨_, rfl⟩
  have hnl := need_le (d.toNat / 16) (d.toNat % 16)
  rw [← hnd] at hnl
  refine k_joinP (P := (· = nd)) C ?_ (fun cnt ct s hcnt C => ?_)
  · row_room_at pxs
    by_cases hp : ((d.toNat % 16 : Nat) : Int) > 0
    · rw [decide_eq_true hp, if_pos rfl]
      row_room_at pxs
      obtain ⟨zt, g3⟩ := placesNeed hf3 (pr := d.toNat % 16) (by omega)
      refine k_itemTup (C.kin G _ _ (law_places _)) g3 (by show 4 ≤ _; decide) ?_
      exact ⟨_, zt, rfl, hnd.symm, C⟩
    · rw [decide_eq_false hp, if_neg (by decide)]
      row_room_at pxs
      exact ⟨0, _, rfl, by rw [hnd, need, if_neg (by omega)], C⟩
  subst hcnt
  row_room_at pxs
  by_cases hfit : cnt ≤ big [l1, l2]
  rotate_left
  · rw [if_pos (by rw [decide_eq_true_eq]; omega)]
    row_room_at pxs
    exact kNo (fun g => hfit (hnd ▸ (gh g).2.2.2.2.2)) _ _ (C.pop.sel (by row_room_at px_sel))
  rw [if_neg (by rw [decide_eq_true_eq]; omega)]
  row_room_at pxs
  have e1 : cut O (some 16) (some (16 + (cnt : Int))) = (O.drop 16).take cnt := by
    rw [show (16 + (cnt : Int)) = ((16 + cnt : Nat) : Int) by omega]
    have := cut_both O 16 (16 + cnt)
    rw [Nat.add_sub_cancel_left] at this
    exact this
  have e2 : cut O (some (16 + (cnt : Int))) (some ((16 + big [l1, l2] : Nat) : Int)) = (O.drop (16 + cnt)).take (big [l1, l2] - cnt) := by
    rw [show (16 + (cnt : Int)) = ((16 + cnt : Nat) : Int) by omega, cut_both, Nat.add_sub_add_left]
  have e3 : cut O (some ((16 + big [l1, l2] : Nat) : Int)) none = O.drop (16 + big [l1, l2]) := cut_from _ _
  rw [e1, e2, e3] at C
  refine kYes c d l1 l2 hsig h4 ⟨hcmd.1, hcmd.2.1, hf3, hp2, hen, by rw [← hnd]; exact hfit⟩ _ ?_ ?_ ?_ ?_ ?_ ?_ _ ?_
  rotate_right
  unfold toldT
  rw [← hnd]
  exact C.pop.sel (by row_room_at px_sel)
end

end
end Px
end

/- Wko -/
section
open PySem PySem.W PySem.Calls PyProof.Rows
set_option Elab.async false
set_option maxRecDepth 100000
set_option maxHeartbeats 4000000
set_option linter.unusedVariables false
namespace Px
noncomputable section
set_option hygiene false in
local macro_rules | `(tactic| row_room_at px_more) => `(tactic| first
  | ((with_reducible show wpC _ _ (assign (Expr.Tuple _ _ _) _ (Value.ref _)) _ _ _); refine k_unpack C (by row_room_at px_mem) (by exact hh) rfl rfl (fun _ C => ?_))
  | with_reducible refine c_ordEach ?_
  | with_reducible refine c_ordEachNil ?_
  | ((with_reducible show wpC _ _ (binaryOp Operator.Mod _ _) _ _ _); refine k_mod C (by decide) (fun _ _ C => ?_))
  | ((with_reducible show wpC _ _ (binaryOp Operator.FloorDiv _ _) _ _ _); refine k_fdiv C (by decide) (by decide) (fun _ _ C => ?_))
  | ((with_reducible show wpC _ _ (unaryOp UnaryOp.Not _) _ _ _); refine k_unNot ?_)
  | ((with_reducible show wpC _ _ (eval (Expr.Name (Str.ofString "seed") _) _) _ _ _); refine k_cell C 0 rfl (by rw [hcl]; rfl) (by row_room_at px_mem) hcd ?_)
  | ((with_reducible show wpC _ _ (call (Value.type "range") _ _) _ _ _); refine k_range1 C (fun _ _ _ _ _ C => ?_))
  | ((with_reducible show wpC _ _ (eval (Expr.Name (Str.ofString "address") _) _) _ _ _); refine k_cell C 0 rfl (by rw [hcl]; rfl) (by row_room_at px_mem) hcd ?_)
  | ((with_reducible show wpC _ _ (getAttr _ (Str.ofString "valid") _) _ _ _); refine ct_validOk G (by show A.depth + 1 < 980; omega) C (by row_room_at px_mem) (by row_room_at px_mem) (by assumption) (by row_room_at px_gat) (by row_room_at px_gat) (by row_room_at px_gat) rfl rfl rfl rfl (fun _ C => ?_))
  | ((with_reducible show wpC _ _ (compareOp CmpOp.Eq (Value.str _ _) _) _ _ _); refine k_eqStr ?_)
  | ((with_reducible show wpC _ _ (compareOp CmpOp.Eq Value.none Value.none) _ _ _); refine k_eqNone ?_)
  | ((with_reducible show wpC _ _ (newList _) _ _ _); refine k_newList C (by with_unfolding_all exact Nat.le_of_ble_eq_true rfl) (fun _ _ C => ?_))
  | ((with_reducible show wpC _ _ (binaryOp Operator.Mult _ _) _ _ _); refine k_mulL C (by decide) (fun _ _ C => ?_))
  | ((with_reducible show (if true = true then _ else _)); rw [if_pos (rfl : true = true)]))
set_option hygiene false in
local macro_rules | `(tactic| row_room_at px_leaf) => `(tactic| repeat (first
  | with_reducible refine wpAny_BinOp ?_
  | with_reducible refine wpAny_Constant_int ?_
  | refine a_own hn hm ?_
  | refine a_cell (c := L + 1) rfl hcell hcd ?_
  | with_reducible refine PySem.P.add_int ?_
  | with_reducible refine a_Sub ?_
  | with_reducible refine PySem.P.mul_int ?_ (.of_left (bits_small (by decide)))
  | with_reducible refine PyProof.Rows.mod_int (by decide) ?_))
section
variable {prog : Program} {w : World} {H : Heap} {TB : List TabSpec} {os : OsState} {mg mb : Str → Option Value}
variable {A : Around} {fr R : List Fm} {F : Fct} {s : Shared} {R' : Result → Shared → Prop}
theorem big_two {T : List UInt8} {k : Nat} (h : k + 2 ≤ T.length) : ((big ((T.drop k).take 2) : Nat) : Int) = 256 * ((T.getD k 0).toNat : Int) + ((T.getD (k + 1) 0).toNat : Int) := by
  have e : ∀ i, i < T.length → T.drop i = T.getD i 0 :: T.drop (i + 1) := fun i hi => by
    rw [List.drop_eq_getElem_cons hi, List.getD_eq_getElem?_getD, List.getElem?_eq_getElem hi]; rfl
  rw [e k (by omega), e (k + 1) (by omega)]
  show (((0 * 256 + (T.getD k 0).toNat) * 256 + (T.getD (k + 1) 0).toNat : Nat) : Int) = _
  omega
theorem getD_take {T : List UInt8} {k n : Nat} (h : k < n) : (T.take n).getD k 0 = T.getD k 0 := by
  rw [List.getD_eq_getElem?_getD, List.getD_eq_getElem?_getD, List.getElem?_take, if_pos h]
/-- _law_same: addresses of the net -/
theorem same_ip {px pdx sa sdx da ddx L : Addr} {co' : Obj} {T : List UInt8} {fm pr cm nd v size sn dn : Nat} {pes ses des : List DictEntry} {nx : Nat} {tlv v1 v2 v3 v4 v6 v8 rbv wrv restv : Value} {t1 t3 t5 t6 s2 s4 t2 ta tb tc te tf t7 u4 : Tok} (G : Gd (KT w.params) H TB mg mb) (hroom : A.depth < 900) (hh : A.handled = none) (hg : A.guards = some []) (hu : A.units < 5000)
    (hcl : (callEnvC (fd_law_same w.params) L 289).cells = [(Str.ofString "address", L + 1)]) (hcd : co'.data = .cell (some (.bytes (T.take nd).toArray u4))) (hT : T.length ≤ 90000) (hnd : nd = 2 * size + 4) (hle : nd ≤ T.length)
    (hv : (fm = 1 ∧ v = 4 ∧ size = 4) ∨ (fm = 2 ∧ v = 6 ∧ size = 16)) (a1 : AttrsAre adNames ses [.int v t1, .bytes (T.take size).toArray s2]) (a2 : AttrsAre adNames des [.int v t3, .bytes ((T.drop size).take size).toArray s4])
    (pa : AttrsAre pxNames pes (pxOk t2 ta tb tc te cm fm pr (.ref sa) (.ref da) (.int (big ((T.drop (2 * size)).take 2)) t5) (.int (big ((T.drop (2 * size + 2)).take 2)) t6) restv wrv tlv))
    (C : Cx H TB os (⟨sc_law_same, callEnvC (fd_law_same w.params) L 289, L, [some (.ref px), some v1, some v2, some v3, some v4, some (.int (fm : Nat) tf), some v6, some (.bytes (T.drop nd).toArray t7), some v8, some (.bool true), none, none]⟩ :: fr) ((L + 1, co') :: (px, instObj 238 pdx) :: (pdx, dictOf pes nx) :: (sa, instObj 66 sdx) :: (sdx, dictOf ses sn) :: (da, instObj 66 ddx) :: (ddx, dictOf des dn) :: F) s)
    (k : ∀ s', Cx H TB os fr F s' → R' (.ok (.ret (.bool true))) s') :
    wpC (model prog w) (A.deeper (callEnvC (fd_law_same w.params) L 289)) (execs (bd_law_same.drop 7) (callEnvC (fd_law_same w.params) L 289)) (fun fl s' => R' (.ok (.ret (match fl with | .ret v => v | _ => .none))) s')
        (fun e s' => wpAny (model prog w) (A.deeper (callEnvC (fd_law_same w.params) L 289)) (leaving (callEnvC (fd_law_same w.params) L 289) e) (fun _ s'' => R' (.error e) s'') (fun e' s'' => R' (.error e') s'') s') s := by
  have hN : sc_law_same.nm = (["proxy", "octets", "told", "reader", "command", "family", "protocol", "rest", "behind", "right", "width", "ports"] : List Str) := rfl
  have hcl9 : cLine = 9900 := rfl
  have hTdz : (T.drop nd).length ≤ 16777216 := by rw [List.length_drop]; omega
  have hTtz : (T.take nd).length ≤ 16777216 := by rw [List.length_take]; omega
  have hTl : (T.take nd).length = nd := by rw [List.length_take]; omega
  conv in (execs _ _) => arg 1; whnf
  iterate 2 row_room_at px
  refine k_joinP (P := (· = size)) C ?_ (fun wd wt s hwd C => ?_)
  · row_room_at pxs
    rcases hv with ⟨h1, _, rfl⟩ | ⟨h1, _, rfl⟩
    · rw [if_pos (by rw [beq_iff_eq]; omega)]
      row_room_at pxs
      exact ⟨4, _, rfl, rfl, C⟩
    · rw [if_neg (by rw [beq_iff_eq]; omega)]
      row_room_at pxs
      exact ⟨16, _, rfl, rfl, C⟩
  subst hwd
  row_room_at pxs
  refine c_AssignComp (cl := [(Str.ofString "address", L + 1)]) (by rfl) (by with_unfolding_all rfl) rfl (by decide) ?_
  row_room_at pxs
  have ec1 : 2 * (wd : Int) = ((2 * wd : Nat) : Int) := by omega
  have ec2 : ((2 * wd : Nat) : Int) + 2 = ((2 * wd + 2 : Nat) : Int) := by omega
  rw [ec1, ec2] at C
  refine k_lcTup (Fl := fun v y => ∀ (q : Nat) (t : Tok), v = .int (q : Int) t → ∃ t', y = .int (256 * ((T.getD q 0).toNat : Int) + ((T.getD (q + 1) 0).toNat : Int)) t') C (.head _) hh (by show 2 ≤ _; decide) (by decide) rfl rfl ?leaf (fun D ys n' Cc oC s m hl hy hn C => ?_)
  case leaf =>
    intro Cc i v s m E' hP hn hm hk
    have hcell : s.heap.get? (L + 1) = some co' := hk (L + 1, co') (.tail _ (.head _))
    obtain ⟨q, t, rfl, hq⟩ : ∃ (q : Nat) (t : Tok), v = .int (q : Int) t ∧ q + 1 < nd := by
      match i, hP with
      | 0, hP => exact ⟨2 * wd, _, (Option.some.inj hP).symm, by omega⟩
      | 1, hP => exact ⟨2 * wd + 2, _, (Option.some.inj hP).symm, by omega⟩
      | i + 2, hP => cases hP
    row_room_at px_leaf
    refine a_itemBytes (x := T.take nd) hTtz (by rw [hTl]; omega) ?_
    row_room_at px_leaf
    rw [show (q : Int) + 1 = ((q + 1 : Nat) : Int) by omega]
    refine a_itemBytes (x := T.take nd) hTtz (by rw [hTl]; omega) ?_
    row_room_at px_leaf
    rw [getD_take (by omega), getD_take hq]
    refine ⟨fun q' t' e => ?_, _, _, rfl, fun _ _ e => e⟩
    injection e with e1 e2
    rw [show q = q' by omega]
    exact ⟨_, rfl⟩
  refine lc_stored (y := "ports") C hN (by row_room_at px_sat) hn (fun s C => ?_)
  obtain ⟨y0, y1, rfl⟩ : ∃ y0 y1, ys = [y0, y1] := by
    match ys, hl with
    | [y0, y1], _ => exact ⟨y0, y1, rfl⟩
  obtain ⟨_, f0, g0⟩ := hy 0 y0 rfl
  obtain ⟨p0, rfl⟩ := g0 _ _ (Option.some.inj f0).symm
  obtain ⟨_, f1, g1⟩ := hy 1 y1 rfl
  obtain ⟨p1, rfl⟩ := g1 _ _ (Option.some.inj f1).symm
  show wpC _ _ (execs _ _) _ _ _
  iterate 2 row_room_at px
  refine k_joinB (P := (· = true)) C ?_ (fun b s hb C => ?_)
  · row_room_at pxs
    rcases hv with ⟨h1, hv4, _⟩ | ⟨h1, hv4, _⟩
    · rw [if_pos (by rw [beq_iff_eq]; omega)]
      row_room_at pxs
      refine k_eqTup C (by row_room_at px_mem) (by row_room_at px_mem) (by show A.units + _ < cLine; omega) (.cons (eqa_int (by omega)) (.cons (eqa_int (by omega)) .nil)) ?_
      exact ⟨_, rfl, rfl, C.sel (by row_room_at px_sel)⟩
    · rw [if_neg (by rw [beq_iff_eq]; omega)]
      row_room_at pxs
      refine k_eqTup C (by row_room_at px_mem) (by row_room_at px_mem) (by show A.units + _ < cLine; omega) (.cons (eqa_int (by omega)) (.cons (eqa_int (by omega)) .nil)) ?_
      exact ⟨_, rfl, rfl, C.sel (by row_room_at px_sel)⟩
  subst hb
  row_room_at pxs
  have e1 : cut (T.take nd) none (some (wd : Int)) = T.take wd := by rw [cut_to, List.take_take, Nat.min_eq_left (by omega)]
  have e2 : cut (T.take nd) (some (wd : Int)) (some (2 * (wd : Int))) = (T.drop wd).take wd := by
    rw [ec1, cut_both, List.drop_take, List.take_take, Nat.min_eq_left (by omega)]
    congr 1; omega
  refine k_eqTup C (by row_room_at px_mem) (by row_room_at px_mem) (by show A.units + _ < cLine; omega) (.cons (eqa_bytes e1.symm) (.cons (eqa_bytes e2.symm) .nil)) ?_
  row_room_at pxs
  have b1 := big_two (T := T) (k := 2 * wd) (by omega)
  have b2 := big_two (T := T) (k := 2 * wd + 2) (by omega)
  refine k_eqInts (ns := [256 * ((T.getD (2 * wd) 0).toNat : Int) + ((T.getD (2 * wd + 1) 0).toNat : Int), 256 * ((T.getD (2 * wd + 2) 0).toNat : Int) + ((T.getD (2 * wd + 2 + 1) 0).toNat : Int)]) C (by row_room_at px_mem) (by row_room_at px_mem) (by show A.units + _ + 64 < cLine; omega) ?_ (.cons _ _ (.cons _ _ .nil)) ?_
  · rw [← b1, ← b2]; exact .cons _ _ (.cons _ _ .nil)
  row_room_at pxs
  exact k _ (C.pop.sel (by row_room_at px_sel))
end

end
end Px
end

/- Wkn -/
section
open PySem PySem.W PySem.Calls PyProof.Rows
set_option Elab.async false
set_option maxRecDepth 100000
set_option maxHeartbeats 4000000
set_option linter.unusedVariables false
namespace Px
noncomputable section
set_option hygiene false in
local macro_rules | `(tactic| row_room_at px_more) => `(tactic| first
  | ((with_reducible show wpC _ _ (assign (Expr.Tuple _ _ _) _ (Value.ref _)) _ _ _); refine k_unpack C (by row_room_at px_mem) (by exact hh) rfl rfl (fun _ C => ?_))
  | with_reducible refine c_ordEach ?_
  | with_reducible refine c_ordEachNil ?_
  | ((with_reducible show wpC _ _ (binaryOp Operator.Mod _ _) _ _ _); refine k_mod C (by decide) (fun _ _ C => ?_))
  | ((with_reducible show wpC _ _ (binaryOp Operator.FloorDiv _ _) _ _ _); refine k_fdiv C (by decide) (by decide) (fun _ _ C => ?_))
  | ((with_reducible show wpC _ _ (unaryOp UnaryOp.Not _) _ _ _); refine k_unNot ?_)
  | ((with_reducible show wpC _ _ (eval (Expr.Name (Str.ofString "seed") _) _) _ _ _); refine k_cell C 0 rfl (by rw [hcl]; rfl) (by row_room_at px_mem) hcd ?_)
  | ((with_reducible show wpC _ _ (call (Value.type "range") _ _) _ _ _); refine k_range1 C (fun _ _ _ _ _ C => ?_))
  | ((with_reducible show wpC _ _ (eval (Expr.Name (Str.ofString "address") _) _) _ _ _); refine k_cell C 0 rfl (by rw [hcl]; rfl) (by row_room_at px_mem) hcd ?_)
  | ((with_reducible show wpC _ _ (getAttr _ (Str.ofString "valid") _) _ _ _); refine ct_validOk G (by show A.depth + 1 < 980; omega) C (by row_room_at px_mem) (by row_room_at px_mem) (by assumption) (by row_room_at px_gat) (by row_room_at px_gat) (by row_room_at px_gat) rfl rfl rfl rfl (fun _ C => ?_))
  | ((with_reducible show wpC _ _ (compareOp CmpOp.Eq (Value.str _ _) _) _ _ _); refine k_eqStr ?_)
  | ((with_reducible show wpC _ _ (compareOp CmpOp.Eq Value.none Value.none) _ _ _); refine k_eqNone ?_)
  | ((with_reducible show wpC _ _ (newList _) _ _ _); refine k_newList C (by with_unfolding_all exact Nat.le_of_ble_eq_true rfl) (fun _ _ C => ?_))
  | ((with_reducible show wpC _ _ (binaryOp Operator.Mult _ _) _ _ _); refine k_mulL C (by decide) (fun _ _ C => ?_))
  | ((with_reducible show (if true = true then _ else _)); rw [if_pos (rfl : true = true)]))
set_option hygiene false in
local macro_rules | `(tactic| row_room_at px_leaf) => `(tactic| repeat (first
  | with_reducible refine wpAny_BinOp ?_
  | with_reducible refine wpAny_Constant_int ?_
  | refine a_own hn hm ?_
  | refine a_cell (c := L + 1) rfl hcell hcd ?_
  | with_reducible refine PySem.P.add_int ?_
  | with_reducible refine a_Sub ?_
  | with_reducible refine PySem.P.mul_int ?_ (.of_left (bits_small (by decide)))
  | with_reducible refine PyProof.Rows.mod_int (by decide) ?_))
section
variable {prog : Program} {w : World} {H : Heap} {TB : List TabSpec} {os : OsState} {mg mb : Str → Option Value}
variable {A : Around} {fr R : List Fm} {F : Fct} {s : Shared} {R' : Result → Shared → Prop}
/-- _law_same behind the count of the rest -/
theorem same_c {px pdx L : Addr} {co' : Obj} {T rest : List UInt8} {fm pr cm nd : Nat} {pes : List DictEntry} {nx : Nat} {src dst sp dp tlv v1 v2 v3 v4 v6 v8 rbv wrv : Value} {ex : Fct} {t2 ta tb tc te tf t7 u4 : Tok} (G : Gd (KT w.params) H TB mg mb) (hroom : A.depth < 900) (hh : A.handled = none) (hg : A.guards = some []) (hu : A.units < 5000)
    (hcl : (callEnvC (fd_law_same w.params) L 289).cells = [(Str.ofString "address", L + 1)]) (hcd : co'.data = .cell (some (.bytes (T.take nd).toArray u4))) (hT : T.length ≤ 90000) (hnd : nd = need fm pr) (hle : nd ≤ T.length) (hpos : 0 < nd)
    (ai : AddrIs fm pr T src dst sp dp tlv rest ex) (pa : AttrsAre pxNames pes (pxOk t2 ta tb tc te cm fm pr src dst sp dp rbv wrv tlv))
    (C : Cx H TB os (⟨sc_law_same, callEnvC (fd_law_same w.params) L 289, L, [some (.ref px), some v1, some v2, some v3, some v4, some (.int (fm : Nat) tf), some v6, some (.bytes (T.drop nd).toArray t7), some v8, some (.bool true), none, none]⟩ :: fr) ((L + 1, co') :: (px, instObj 238 pdx) :: (pdx, dictOf pes nx) :: (ex ++ F)) s)
    (k : ∀ s', Cx H TB os fr F s' → R' (.ok (.ret (.bool true))) s') :
    wpC (model prog w) (A.deeper (callEnvC (fd_law_same w.params) L 289)) (execs (bd_law_same.drop 6) (callEnvC (fd_law_same w.params) L 289)) (fun fl s' => R' (.ok (.ret (match fl with | .ret v => v | _ => .none))) s')
        (fun e s' => wpAny (model prog w) (A.deeper (callEnvC (fd_law_same w.params) L 289)) (leaving (callEnvC (fd_law_same w.params) L 289) e) (fun _ s'' => R' (.error e) s'') (fun e' s'' => R' (.error e') s'') s') s := by
  have hN : sc_law_same.nm = (["proxy", "octets", "told", "reader", "command", "family", "protocol", "rest", "behind", "right", "width", "ports"] : List Str) := rfl
  have hcl9 : cLine = 9900 := rfl
  have hTdz : (T.drop nd).length ≤ 16777216 := by rw [List.length_drop]; omega
  have hTtz : (T.take nd).length ≤ 16777216 := by rw [List.length_take]; omega
  have hTl : (T.take nd).length = nd := by rw [List.length_take]; omega
  conv in (execs _ _) => arg 1; whnf
  row_room_at pxs
  cases ai with
  | none h =>
    exfalso
    apply Nat.ne_of_gt hpos
    rw [hnd, need]
    by_cases hp : 1 ≤ pr
    · rw [if_pos hp, if_neg (by omega), if_neg (by omega), if_neg (by omega)]
    · rw [if_neg hp]
  | @ip v size sa sdx da ddx sn dn ses des t1 t2' t3 t4 t5 t6 tt tlv h hv hl a1 a2 ht =>
    have hf3 : ¬ fm = 3 := by omega
    have e : nd = 2 * size + 4 := by
      rw [hnd, need, if_pos h]
      rcases hv with ⟨rfl, _, rfl⟩ | ⟨rfl, _, rfl⟩ <;> rfl
    rw [if_neg (by rw [beq_iff_eq]; omega)]
    simp only [List.cons_append, List.nil_append] at C
    row_room_at px
    exact same_ip (rbv := rbv) G hroom hh hg hu hcl hcd hT e hle hv a1 a2 pa C k
  | unix h hf hl ht =>
    have hz : nd = 216 := by rw [hnd, need, if_pos h, if_neg (by omega), if_neg (by omega), if_pos hf]
    rw [List.nil_append] at C
    rw [if_pos (by rw [beq_iff_eq]; omega)]
    row_room_at pxs
    have e1 : cut (T.take nd) none (some 108) = T.take 108 := by rw [show (108 : Int) = ((108 : Nat) : Int) from rfl, cut_to, List.take_take, Nat.min_eq_left (by omega)]
    have e2 : cut (T.take nd) (some 108) none = (T.drop 108).take 108 := by
      rw [show (108 : Int) = ((108 : Nat) : Int) from rfl, cut_from, List.drop_take, hz]
    refine k_eqTup C (by row_room_at px_mem) (by row_room_at px_mem) (by show A.units + _ < cLine; omega) (.cons (eqa_bytes e1.symm) (.cons (eqa_bytes e2.symm) (.cons eqa_none (.cons eqa_none .nil)))) ?_
    row_room_at pxs
    exact k _ (C.pop.sel (by row_room_at px_sel))
/-- _law_same behind the octets -/
theorem same_b {px pdx L : Addr} {co' : Obj} {T rest : List UInt8} {fm pr cm nd : Nat} {pes : List DictEntry} {nx : Nat} {src dst sp dp tlv v1 v2 v3 v4 v6 v8 rbv wrv : Value} {ex : Fct} {t2 ta tb tc te tf t7 u4 : Tok} (G : Gd (KT w.params) H TB mg mb) (hroom : A.depth < 900) (hh : A.handled = none) (hg : A.guards = some []) (hu : A.units < 5000)
    (hcl : (callEnvC (fd_law_same w.params) L 289).cells = [(Str.ofString "address", L + 1)]) (hcd : co'.data = .cell (some (.bytes (T.take nd).toArray u4))) (hT : T.length ≤ 90000) (hnd : nd = need fm pr) (hle : nd ≤ T.length)
    (ai : AddrIs fm pr T src dst sp dp tlv rest ex) (pa : AttrsAre pxNames pes (pxOk t2 ta tb tc te cm fm pr src dst sp dp rbv wrv tlv))
    (C : Cx H TB os (⟨sc_law_same, callEnvC (fd_law_same w.params) L 289, L, [some (.ref px), some v1, some v2, some v3, some v4, some (.int (fm : Nat) tf), some v6, some (.bytes (T.drop nd).toArray t7), some v8, some (.bool true), none, none]⟩ :: fr) ((L + 1, co') :: (px, instObj 238 pdx) :: (pdx, dictOf pes nx) :: (ex ++ F)) s)
    (k : ∀ s', Cx H TB os fr F s' → R' (.ok (.ret (.bool true))) s') :
    wpC (model prog w) (A.deeper (callEnvC (fd_law_same w.params) L 289)) (execs (bd_law_same.drop 4) (callEnvC (fd_law_same w.params) L 289)) (fun fl s' => R' (.ok (.ret (match fl with | .ret v => v | _ => .none))) s')
        (fun e s' => wpAny (model prog w) (A.deeper (callEnvC (fd_law_same w.params) L 289)) (leaving (callEnvC (fd_law_same w.params) L 289) e) (fun _ s'' => R' (.error e) s'') (fun e' s'' => R' (.error e') s'') s') s := by
  have hN : sc_law_same.nm = (["proxy", "octets", "told", "reader", "command", "family", "protocol", "rest", "behind", "right", "width", "ports"] : List Str) := rfl
  have hcl9 : cLine = 9900 := rfl
  have hTdz : (T.drop nd).length ≤ 16777216 := by rw [List.length_drop]; omega
  have hTtz : (T.take nd).length ≤ 16777216 := by rw [List.length_take]; omega
  have hTl : (T.take nd).length = nd := by rw [List.length_take]; omega
  conv in (execs _ _) => arg 1; whnf
  row_room_at pxs
  by_cases hpos : 0 < nd
  rotate_left
  · cases ai with
    | none h =>
      have hz : nd = 0 := by
        rw [hnd, need]
        by_cases hp : 1 ≤ pr
        · rw [if_pos hp, if_neg (by omega), if_neg (by omega), if_neg (by omega)]
        · rw [if_neg hp]
      rw [List.nil_append] at C
      rw [if_pos (by rw [beq_iff_eq]; exact List.eq_nil_of_length_eq_zero (hTl.trans hz))]
      row_room_at pxs
      refine k_eqTup C (by row_room_at px_mem) (by row_room_at px_mem) (by show A.units + _ < cLine; omega) (.cons eqa_none (.cons eqa_none (.cons eqa_none (.cons eqa_none (.cons eqa_none .nil))))) ?_
      row_room_at pxs
      exact k _ (C.pop.sel (by row_room_at px_sel))
    | ip h hv hl a1 a2 ht => exact (hpos (by rw [hnd, need, if_pos h]; rcases hv with ⟨e, _, _⟩ | ⟨e, _, _⟩ <;> rw [e] <;> decide)).elim
    | unix h hf hl ht => exact (hpos (by rw [hnd, need, if_pos h, hf]; decide)).elim
  have ht : ∃ tt, tlv = if (T.drop nd).isEmpty then .none else .int ((16 + nd : Nat) : Int) tt := by
    cases ai with
    | none h =>
      exfalso
      apply Nat.ne_of_gt hpos
      rw [hnd, need]
      by_cases hp : 1 ≤ pr
      · rw [if_pos hp, if_neg (by omega), if_neg (by omega), if_neg (by omega)]
      · rw [if_neg hp]
    | @ip v size sa sdx da ddx sn dn ses des t1 t2 t3 t4 t5 t6 tt tlv h hv hl a1 a2 ht =>
      have e : nd = 2 * size + 4 := by
        rw [hnd, need, if_pos h]
        rcases hv with ⟨rfl, _, rfl⟩ | ⟨rfl, _, rfl⟩ <;> rfl
      rw [e]; exact ⟨_, ht⟩
    | @unix t1 t2 tt tlv h hf hl ht =>
      have e : nd = 216 := by rw [hnd, need, if_pos h, hf]; rfl
      rw [e]; exact ⟨_, ht⟩
  obtain ⟨tt, ht⟩ := ht
  rw [if_neg (by rw [beq_iff_eq]; intro e; rw [e] at hTl; have : ([] : List UInt8).length = 0 := rfl; omega)]
  iterate 3 row_room_at px
  refine k_joinB (P := (· = true)) C ?_ (fun b s hb C => ?_)
  · cases hemp : (T.drop nd).isEmpty
    · rw [hemp, if_neg (by decide)] at ht
      subst ht
      row_room_at pxs
      rw [hemp, if_pos (show (!false) = true from rfl)]
      row_room_at pxs
      exact ⟨_, rfl, by rw [hTl, beq_iff_eq]; omega, C⟩
    · rw [hemp, if_pos rfl] at ht
      subst ht
      row_room_at pxs
      rw [hemp, if_neg (by decide)]
      row_room_at pxs
      exact ⟨_, rfl, rfl, C⟩
  subst hb
  row_room_at px
  exact same_c G hroom hh hg hu hcl hcd hT hnd hle hpos ai pa C k
end

end
end Px
end

/- Wkp -/
section
open PySem PySem.W PySem.Calls PyProof.Rows
set_option Elab.async false
set_option maxRecDepth 100000
set_option maxHeartbeats 4000000
set_option linter.unusedVariables false
namespace Px
noncomputable section
set_option hygiene false in
local macro_rules | `(tactic| row_room_at px_more) => `(tactic| first
  | ((with_reducible show wpC _ _ (assign (Expr.Tuple _ _ _) _ (Value.ref _)) _ _ _); refine k_unpack C (by row_room_at px_mem) (by exact hh) rfl rfl (fun _ C => ?_))
  | with_reducible refine c_ordEach ?_
  | with_reducible refine c_ordEachNil ?_
  | ((with_reducible show wpC _ _ (binaryOp Operator.Mod _ _) _ _ _); refine k_mod C (by decide) (fun _ _ C => ?_))
  | ((with_reducible show wpC _ _ (binaryOp Operator.FloorDiv _ _) _ _ _); refine k_fdiv C (by decide) (by decide) (fun _ _ C => ?_))
  | ((with_reducible show wpC _ _ (unaryOp UnaryOp.Not _) _ _ _); refine k_unNot ?_)
  | ((with_reducible show wpC _ _ (eval (Expr.Name (Str.ofString "seed") _) _) _ _ _); refine k_cell C 0 rfl (by rw [hcl]; rfl) (by row_room_at px_mem) hcd ?_)
  | ((with_reducible show wpC _ _ (call (Value.type "range") _ _) _ _ _); refine k_range1 C (fun _ _ _ _ _ C => ?_))
  | ((with_reducible show wpC _ _ (eval (Expr.Name (Str.ofString "address") _) _) _ _ _); refine k_cell C 0 rfl (by rw [hcl]; rfl) (by row_room_at px_mem) hcd ?_)
  | ((with_reducible show wpC _ _ (getAttr _ (Str.ofString "valid") _) _ _ _); refine ct_validOk G (by show A.depth + 1 < 980; omega) C (by row_room_at px_mem) (by row_room_at px_mem) (by assumption) (by row_room_at px_gat) (by row_room_at px_gat) (by row_room_at px_gat) rfl rfl rfl rfl (fun _ C => ?_))
  | ((with_reducible show wpC _ _ (compareOp CmpOp.Eq (Value.str _ _) _) _ _ _); refine k_eqStr ?_)
  | ((with_reducible show wpC _ _ (compareOp CmpOp.Eq Value.none Value.none) _ _ _); refine k_eqNone ?_)
  | ((with_reducible show wpC _ _ (newList _) _ _ _); refine k_newList C (by with_unfolding_all exact Nat.le_of_ble_eq_true rfl) (fun _ _ C => ?_))
  | ((with_reducible show wpC _ _ (binaryOp Operator.Mult _ _) _ _ _); refine k_mulL C (by decide) (fun _ _ C => ?_))
  | ((with_reducible show (if true = true then _ else _)); rw [if_pos (rfl : true = true)]))
set_option hygiene false in
local macro_rules | `(tactic| row_room_at px_leaf) => `(tactic| repeat (first
  | with_reducible refine wpAny_BinOp ?_
  | with_reducible refine wpAny_Constant_int ?_
  | refine a_own hn hm ?_
  | refine a_cell (c := L + 1) rfl hcell hcd ?_
  | with_reducible refine PySem.P.add_int ?_
  | with_reducible refine a_Sub ?_
  | with_reducible refine PySem.P.mul_int ?_ (.of_left (bits_small (by decide)))
  | with_reducible refine PyProof.Rows.mod_int (by decide) ?_))
section
variable {prog : Program} {w : World} {H : Heap} {TB : List TabSpec} {os : OsState} {mg mb : Str → Option Value}
variable {A : Around} {fr R : List Fm} {F : Fct} {s : Shared} {R' : Result → Shared → Prop}
theorem AddrIs.restIs {fm pr : Nat} {tail : List UInt8} {src dst sp dp tlv : Value} {rest : List UInt8} {ex : Fct} (h : AddrIs fm pr tail src dst sp dp tlv rest ex) (h3 : fm ≤ 3) : rest = tail.drop (need fm pr) := by
  cases h with
  | none h =>
    have e : need fm pr = 0 := by
      unfold need
      by_cases hp : 1 ≤ pr
      · rw [if_pos hp, if_neg (by omega), if_neg (by omega), if_neg (by omega)]
      · rw [if_neg hp]
    rw [e]; rfl
  | ip h hv hl a1 a2 ht =>
    rcases hv with ⟨rfl, _, rfl⟩ | ⟨rfl, _, rfl⟩
    · rw [need, if_pos h]; rfl
    · rw [need, if_pos h]; rfl
  | unix h hf hl ht => subst hf; rw [need, if_pos h]; rfl
theorem ct_same {px pdx rb wr x dx r : Addr} {O rest : List UInt8} {c d l1 l2 : UInt8} {pes es : List DictEntry} {nx ndx : Nat} {src dst sp dp tlv pl' : Value} {ex : Fct} {t2 ta tb tc te tO u1 u2 u3 u4 u5 u6 td : Tok} (G : Gd (KT w.params) H TB mg mb) (hroom : A.depth < 900) (hh : A.handled = none) (hg : A.guards = some []) (hu : A.units < 5000)
    (hO : O.length ≤ 90000) (hsig : O.take 12 = sigV2) (h4 : (O.drop 12).take 4 = [c, d, l1, l2]) (gh : GoodH c d (big [l1, l2]) (O.drop 16).length)
    (ai : AddrIs (d.toNat / 16) (d.toNat % 16) ((O.drop 16).take (big [l1, l2])) src dst sp dp tlv rest ex)
    (pa : AttrsAre pxNames pes (pxOk t2 ta tb tc te (c.toNat % 16) (d.toNat / 16) (d.toNat % 16) src dst sp dp (.ref rb) (.ref wr) tlv)) (ra : AttrsAre rdNames es [.bytes ((O.drop 16).drop (big [l1, l2])).toArray td, pl'])
    (C : Cx H TB os fr ((r, tupO (toldT O c d (big [l1, l2]) u1 u2 u3 u4 u5 u6)) :: (px, instObj 238 pdx) :: (pdx, dictOf pes nx) :: (rb, baO rest) :: (wr, baO (sigV2 ++ [c, d, l1, l2] ++ (O.drop 16).take (big [l1, l2]))) :: (x, instObj 154 dx) :: (dx, dictOf es ndx) :: (ex ++ F)) s)
    (k : ∀ s', Cx H TB os fr F s' → R' (.ok (.ret (.bool true))) s') :
    codeC (model prog w) A (.call (.ref 289) ⟨[.ref px, .bytes O.toArray tO, .ref r, .ref x], []⟩) R' s := by
  refine k_codeCell (y := "address") G C (fn_law_same _) (Nat.lt_of_lt_of_le hroom (by decide)) [("proxy", .ref px), ("octets", .bytes O.toArray tO), ("told", .ref r), ("reader", .ref x)]
    [some (.ref px), some (.bytes O.toArray tO), some (.ref r), some (.ref x), none, none, none, none, none, none, none, none] none (kp_binds (C.kin G) (fun S => by kernel_rfl)) (fun n => by kernel_rfl) (by kernel_rfl) (by kernel_rfl) (by kernel_rfl) (fun L co s hco C hcl => ?_)
  have hN : sc_law_same.nm = (["proxy", "octets", "told", "reader", "command", "family", "protocol", "rest", "behind", "right", "width", "ports"] : List Str) := rfl
  conv in (execs _ _) => arg 1; whnf
  row_room_at pxs
  refine k_cellStore (x := "address") C 0 rfl (by rw [hcl]; rfl) (by row_room_at px_upd) hco (fun co' _ hcd C => ?_)
  row_room_at pxs
  rw [if_pos (by decide +kernel)]
  row_room_at pxs
  rw [if_pos (by rfl)]
  row_room_at pxs
  refine k_eqTup C (by row_room_at px_mem) (by row_room_at px_mem) (by show A.units + _ < cLine; have e : cLine = 9900 := rfl; omega) (.cons (eqa_int rfl) (.cons (eqa_int rfl) (.cons (eqa_int rfl) .nil))) ?_
  obtain ⟨n, hn⟩ : ∃ n, n = big [l1, l2] := ⟨_, rfl⟩
  rw [← hn] at C ai ra gh
  obtain ⟨nd, hnd⟩ : ∃ nd, nd = need (d.toNat / 16) (d.toNat % 16) := ⟨_, rfl⟩
  obtain ⟨g1, g2, g3, g4, g5, g6⟩ := gh
  have hrest := ai.restIs g3
  rw [← hnd] at C hrest g6
  have hdl : (O.drop 16).length = O.length - 16 := List.length_drop ..
  have hO16 : 16 ≤ O.length := by
    have := congrArg List.length h4
    rw [List.length_take, List.length_drop] at this
    have e4 : [c, d, l1, l2].length = 4 := rfl
    omega
  have hW : (sigV2 ++ [c, d, l1, l2] ++ (O.drop 16).take n) ++ O.drop (16 + n) = O := by
    rw [← hsig, ← h4, ← List.drop_drop, List.append_assoc, List.take_append_drop, List.append_assoc]
    rw [show O.drop 16 = (O.drop 12).drop 4 by rw [List.drop_drop], List.take_append_drop, List.take_append_drop]
  have hWl : (sigV2 ++ [c, d, l1, l2] ++ (O.drop 16).take n).length ≤ 16777216 := by
    have := congrArg List.length hW
    rw [List.length_append] at this; omega
  have hRl : rest.length ≤ 16777216 := by rw [hrest, List.length_drop, List.length_take]; omega
  row_room_at pxs
  refine k_bytesBa C (by row_room_at px_mem) hWl (fun _ _ C => ?_)
  row_room_at pxs
  refine k_addBytes C (by rw [← List.length_append, hW]; omega) (fun _ _ C => ?_)
  rw [hW]
  row_room_at pxs
  rw [beq_self_eq_true]
  row_room_at pxs
  refine k_bytesBa C (by row_room_at px_mem) hRl (fun _ _ C => ?_)
  have hr2 : rest = (O.drop (16 + nd)).take (n - nd) := by rw [hrest, List.drop_take, List.drop_drop]
  row_room_at pxs
  rw [beq_iff_eq.mpr hr2]
  iterate 8 row_room_at px
  have hb2 : (O.drop 16).drop n = O.drop (16 + n) := List.drop_drop ..
  rw [hb2, beq_self_eq_true]
  row_room_at px
  rw [← hr2, hrest] at C
  have hTk : ((O.drop 16).take n).take nd = (O.drop 16).take nd := by rw [List.take_take, Nat.min_eq_left g6]
  rw [← hnd, ← hTk] at hcd
  have hTl : ((O.drop 16).take n).length = n := by rw [List.length_take]; omega
  exact same_b (T := (O.drop 16).take n) (nd := nd) G hroom hh hg hu hcl hcd (by omega) hnd (by omega) ai pa (C.sel (by row_room_at px_sel)) k
end

end
end Px
end

/- Wkq -/
section
open PySem PySem.W PySem.Calls PyProof.Rows
set_option Elab.async false
set_option maxRecDepth 100000
set_option maxHeartbeats 4000000
set_option linter.unusedVariables false
namespace Px
noncomputable section
set_option hygiene false in
local macro_rules | `(tactic| row_room_at px_more) => `(tactic| first
  | ((with_reducible show wpC _ _ (assign (Expr.Tuple _ _ _) _ (Value.ref _)) _ _ _); refine k_unpack C (by row_room_at px_mem) (by exact hh) rfl rfl (fun _ C => ?_))
  | with_reducible refine c_ordEach ?_
  | with_reducible refine c_ordEachNil ?_
  | ((with_reducible show wpC _ _ (binaryOp Operator.Mod _ _) _ _ _); refine k_mod C (by decide) (fun _ _ C => ?_))
  | ((with_reducible show wpC _ _ (binaryOp Operator.FloorDiv _ _) _ _ _); refine k_fdiv C (by decide) (by decide) (fun _ _ C => ?_))
  | ((with_reducible show wpC _ _ (unaryOp UnaryOp.Not _) _ _ _); refine k_unNot ?_)
  | ((with_reducible show wpC _ _ (eval (Expr.Name (Str.ofString "seed") _) _) _ _ _); refine k_cell C 0 rfl (by rw [hcl]; rfl) (by row_room_at px_mem) hcd ?_)
  | ((with_reducible show wpC _ _ (call (Value.type "range") _ _) _ _ _); refine k_range1 C (fun _ _ _ _ _ C => ?_))
  | ((with_reducible show wpC _ _ (compareOp CmpOp.NotEq (Value.str _ _) _) _ _ _); refine k_neStr ?_)
  | ((with_reducible show wpC _ _ (newList _) _ _ _); refine k_newList C (by with_unfolding_all exact Nat.le_of_ble_eq_true rfl) (fun _ _ C => ?_))
  | ((with_reducible show wpC _ _ (binaryOp Operator.Mult _ _) _ _ _); refine k_mulL C (by decide) (fun _ _ C => ?_))
  | ((with_reducible show (if true = true then _ else _)); rw [if_pos (rfl : true = true)]))
set_option hygiene false in
local macro_rules | `(tactic| row_room_at px_leaf) => `(tactic| repeat (first
  | with_reducible refine wpAny_BinOp ?_
  | with_reducible refine wpAny_Constant_int ?_
  | refine a_own hn hm ?_
  | refine a_cell (c := L + 1) rfl hcell hcd ?_
  | with_reducible refine PySem.P.add_int ?_
  | with_reducible refine PySem.P.mul_int ?_ (.of_right (bits_small (by omega)))
  | with_reducible refine PyProof.Rows.mod_int (by decide) ?_))
section
variable {prog : Program} {w : World} {H : Heap} {TB : List TabSpec} {os : OsState} {mg mb : Str → Option Value}
variable {A : Around} {fr R : List Fm} {F : Fct} {s : Shared} {R' : Result → Shared → Prop}
theorem AddrIs.needLe {fm pr : Nat} {tail : List UInt8} {src dst sp dp tlv : Value} {rest : List UInt8} {ex : Fct} (h : AddrIs fm pr tail src dst sp dp tlv rest ex) (h3 : fm ≤ 3) : need fm pr ≤ tail.length := by
  cases h with
  | none h =>
    have e : need fm pr = 0 := by
      unfold need
      by_cases hp : 1 ≤ pr
      · rw [if_pos hp, if_neg (by omega), if_neg (by omega), if_neg (by omega)]
      · rw [if_neg hp]
    rw [e]; exact Nat.zero_le _
  | ip h hv hl a1 a2 ht =>
    rcases hv with ⟨rfl, _, rfl⟩ | ⟨rfl, _, rfl⟩
    · rw [need, if_pos h]; exact hl
    · rw [need, if_pos h]; exact hl
  | unix h hf hl ht => subst hf; rw [need, if_pos h]; exact hl
/-- get_proxy of too few octets: IncompleteReadError flies out -/
theorem ct_getErr {x dx : Addr} {D : List UInt8} {td : Tok} {n0 : Nat} {es : List DictEntry} {pv : Value} (G : Gd (KT w.params) H TB mg mb) (hroom : A.depth < 600) (hh : A.handled = none) (hA : A.frames = some (fr.map (·.env)))
    (C : Cx H TB os fr ((x, instObj 154 dx) :: (dx, dictOf es n0) :: F) s) (a : AttrsAre rdNames es [.bytes D.toArray td, pv]) (h5 : D.length < 5)
    (k : ∀ e s', Fly H TB os fr F (.ref 113) e s' → R' (.error (.ref e)) s') :
    codeC (model prog w) A (.call (.ref 271) ⟨[.ref x], []⟩) R' s := by
  refine k_code G C (fn_get_proxy _) (Nat.lt_of_lt_of_le hroom (by decide)) [("reader_func", .ref x)] [some (.ref x), none] (BindsTo.of_eq (by kernel_rfl)) rfl (by kernel_rfl) ["signature"] rfl rfl (fun L s C => ?_)
  have hN : sc_get_proxy.nm = (["reader_func", "signature"] : List Str) := rfl
  have hA1 := Around.frames_deeper (env := callEnv (fd_get_proxy w.params) L 271) hA
  conv in (execs _ _) => arg 1; whnf
  row_room_at pxs
  refine k_method (f := 144) G C (by row_room_at px_mem) (by row_room_at px_mem) a (cls_Reader _) (by kernel_rfl) (by kernel_rfl) (by decide +kernel) ?_
  dsimp only
  refine k_callF1 (K := KT w.params) (by kernel_rfl) ?_
  row_room_at pxs
  refine ⟨C.kin G, ?_⟩
  refine ct_exactlyErr (N := 5) G (by show A.depth + 1 < 990; omega) hh (by exact hA1) C a (by omega) h5 (fun e s' Fl => ?_)
  exact fly_on Fl (by exact hA1) fun _ Fl => k _ _ (Fl.sel (by row_room_at px_sel))
theorem ire_match {e : Addr} {os : OsState} (G : Gd (KT w.params) H TB mg mb) (C : Cx H TB os fr F s) (he : ∃ ob, s.heap.get? e = some ob ∧ ob.cls = .ref 113) (E' : Value → Shared → Prop) (Q : Bool → Shared → Prop) (q : Q true s) : wpAny (model prog w) A (excMatches (.ref e) (.ref 113)) Q E' s := by
  obtain ⟨ob, ho, hc⟩ := he
  obtain ⟨hp, g, d, t, os⟩ := s
  exact wpAny_excMatches_sub_self (C.kin G _ _ (ire_cls _)) ho hc (by decide +kernel) q
theorem ct_law {a : Addr} {vs : List Value} {ns : List Int} {oL : Obj} (G : Gd (KT w.params) H [tbV2] mg mb) (hBM : H.BuiltinsAt mg 259) (hbm : ∀ bm, mg "__builtins__" = some (.ref bm) → bm ≠ 259)
    (hroom : A.depth < 500) (hh : A.handled = none) (hu : A.units < 4000) (hg : A.guards = some []) (hA : A.frames = some (fr.map (·.env)))
    (C : Cx H [tbV2] os fr [] s) (hl : H.get? a = some oL) (hlc : oL.cls = .type "list" ∧ ∃ n, oL.data = .seq vs.toArray n) (hi : IntsAre vs ns) (hz : vs.length ≤ 1000) (hne : a ≠ 259)
    (k : ∀ s', Cx H [tbV2] os fr [] s' → R' (.ok (.ret (.bool true))) s') :
    codeC (model prog w) A (.call (.ref 296) ⟨[.ref a], []⟩) R' s := by
  refine k_code G C (fn_law _) (Nat.lt_of_lt_of_le hroom (by decide)) [("script", .ref a)] [some (.ref a), none, none, none, none, none, none, none, none] (BindsTo.of_eq (by kernel_rfl)) rfl (by kernel_rfl) ["right", "drawn", "turn", "octets", "sizes", "reader", "told", "proxy"] rfl rfl (fun L s C => ?_)
  have hN : sc_law.nm = (["script", "right", "drawn", "turn", "octets", "sizes", "reader", "told", "proxy"] : List Str) := rfl
  have hList : ∀ {fr' fs s'}, Cx H [tbV2] os fr' fs s' → s'.heap.IsList a vs.toArray := fun C => ⟨_, C.old _ _ hl (by simpa using hne), hlc⟩
  conv in (execs _ _) => arg 1; whnf
  iterate 6 row_room_at px
  refine k_joinL (P := fun ds => ds.length ≤ 6 ∧ ∃ nds, IntsAre ds nds) C ?_ (fun dd ds dn s hds C => ?_)
  · row_room_at pxs
    refine k_truthyListH C (hList C) (by omega) (fun _ C => ?_)
    cases hemp : vs.isEmpty
    · rw [if_pos (show (!false) = true from rfl)]
      row_room_at pxs
      refine k_sliceListH C (hList C) .none (.int _ _) (by omega) (fun b s C => ?_)
      have e6 : cut vs none (some 6) = vs.take 6 := cut_to _ 6
      exact ⟨b, _, 0, rfl, ⟨by rw [e6, List.length_take]; omega, _, by rw [e6]; exact ints_take 6 hi⟩, C⟩
    · rw [if_neg (by decide)]
      row_room_at pxs
      exact ⟨_, _, _, rfl, ⟨by show 1 ≤ 6; decide, _, .cons _ _ .nil⟩, C⟩
  obtain ⟨hd6, nds, hdi⟩ := hds
  row_room_at pxs
  refine k_lenList C (.head _) (by omega) (fun _ _ C => ?_)
  row_room_at pxs
  refine k_rangeIter (n := ds.length) C (.head _) (by omega) (fun it s C => ?_)
  refine codeC_for (fun n s => n ≤ ds.length ∧ ∃ o3 o4 o5 o6 o7 o8, Cx H [tbV2] os (⟨sc_law, callEnv (fd_law w.params) L 296, L, [some (.ref a), some (.bool true), some (.ref dd), o3, o4, o5, o6, o7, o8]⟩ :: fr) [(it, ritO ((ds.length - n : Nat) : Int) (n : Int)), (dd, lstO ds dn)] s) ?_ ds.length ⟨Nat.le_refl _, none, none, none, none, none, none, by
    rw [show ((ds.length - ds.length : Nat) : Int) = 0 by omega]; exact C.sel (by row_room_at px_sel)⟩
  rintro n s ⟨hn, o3, o4, o5, o6, o7, o8, C⟩
  by_cases hn0 : n = 0
  · subst hn0
    refine k_rangeEnd C hh (by decide) (fun s C => ?_)
    dsimp only
    row_room_at pxs
    exact k _ (C.pop.sel (by row_room_at px_sel))
  · refine k_rangeNext C (by row_room_at px_upd) (by omega) (fun t s C => ?_)
    dsimp only
    refine wpAny_pure ?_
    refine k_assign C hN (by row_room_at px_sat) (fun s C => ?_)
    rw [show ((ds.length - n : Nat) : Int) + 1 = ((ds.length - (n - 1) : Nat) : Int) by omega, show (n : Int) - 1 = ((n - 1 : Nat) : Int) by omega] at C
    have hlt : ds.length - n < 100 := by omega
    obtain ⟨z, zt, hz2⟩ := ints_at hdi (i := ds.length - n) (by omega)
    row_room_at pxs
    refine k_callF0 (K := KT w.params) (by kernel_rfl) ?_
    row_room_at pxs
    refine k_itemList C (.tail _ (.head _)) hz2 (by omega) ?_
    row_room_at pxs
    refine ⟨C.kin G, ?_⟩
    refine ct_header (turn := ds.length - n) G (by show A.depth + 1 < 900; omega) hh (by exact hg) C hlt (fun r sz O t ps n' s hO hP hps C => ?_)
    have hOz : O.length ≤ 16777216 := by omega
    row_room_at pxs
    refine k_callF0 (K := KT w.params) (by kernel_rfl) ?_
    row_room_at pxs
    refine ⟨C.kin G, ?_⟩
    refine ct_rdMake G (by show A.depth + 1 < 900; omega) (by exact hg) C (fun x dx es n2 s ra C => ?_)
    row_room_at pxs
    have hA1 := Around.frames_deeper (env := callEnv (fd_law w.params) L 296) hA
    by_cases h5 : O.length < 5
    · rw [if_pos (by rw [decide_eq_true_eq]; omega)]
      row_room_at pxs
      refine c_Try ?_
      row_room_at pxs
      refine k_callF0 (K := KT w.params) (by kernel_rfl) ?_
      row_room_at pxs
      refine ⟨C.kin G, ?_⟩
      refine ct_getErr G (by show A.depth + 1 < 600; omega) hh (by exact hA1) C ra h5 (fun e s Fl => ?_)
      dsimp only
      refine c_caught (c := .ref 113) Fl hA1 (fun s Fl E' Q q => ire_match G Fl.cx Fl.there E' Q q) (fun E' s Q' C q => ?_) (fun E' s C => ?_)
      · row_room_at px
        exact q
      row_room_at pxs
      exact ⟨n - 1, by omega, by omega, _, _, _, _, _, _, C.sel (by row_room_at px_sel)⟩
    · rw [if_neg (by rw [decide_eq_true_eq]; omega)]
      row_room_at pxs
      refine k_callF0 (K := KT w.params) (by kernel_rfl) ?_
      row_room_at pxs
      refine ⟨C.kin G, ?_⟩
      refine ct_told G (by show A.depth + 1 < 900; omega) hh (by exact hg) C (by omega) (fun hno r2 s C => ?_) (fun c d l1 l2 g1 g2 g3 r2 u1 u2 u3 u4 u5 u6 s C => ?_)
      · row_room_at pxs
        refine k_callF0 (K := KT w.params) (by kernel_rfl) ?_
        row_room_at pxs
        refine ⟨C.kin G, ?_⟩
        refine ct_get (N := True) (F := (r2, tupO []) :: (it, ritO ((ds.length - (n - 1) : Nat) : Int) ((n - 1 : Nat) : Int)) :: (dd, lstO ds dn) :: []) G hBM hbm (by show A.depth + 1 < 600; omega) hh (by show A.units + 3 < 6000; omega) (by exact hg) (by exact hA1)
          (C.sel (fs' := (x, instObj 154 dx) :: (dx, dictOf es n2) :: (sz, lstO ps n') :: _) (by row_room_at px_sel)) ra (by omega) hps (by omega) hP (fun _ => trivial) (fun _ x2 dx2 es2 n3 us m tm s pa ge hm C => ?_) ?ko
        case ko =>
          intro c d l1 l2 px pdx pes nx wr rb src dst sp dp tlv rest ex t2 ta tb tc te es n td' pl' s' g1 g2 v1 v2 v3 v4 v5 ai pa ra C
          refine absurd ⟨c, d, l1, l2, g1, g2, v1, v2, v3, v4, v5, ?_⟩ hno
          have := ai.needLe v3
          rw [List.length_take] at this
          omega
        row_room_at pxs
        refine k_eqTupLen C (by row_room_at px_mem) (by row_room_at px_mem) (by show A.units + _ < cLine; have e : cLine = 9900 := rfl; omega) ?_
        rw [show ([] : List Value).isEmpty = true from rfl]
        row_room_at pxs
        refine ct_validBad G (by show A.depth + 1 < 980; omega) C (by row_room_at px_mem) (by row_room_at px_mem) pa ge hm (fun s C => ?_)
        row_room_at pxs
        rw [show (!false) = true from rfl]
        row_room_at pxs
        refine m_get G C (by row_room_at px_mem) (by row_room_at px_mem) pa (cls_Proxy _) ge rfl (fun s C => ?_)
        row_room_at pxs
        have hme : (m != Str.ofString "") = true := by
          rw [bne_iff_ne]
          rintro rfl
          exact absurd hm.1 (by decide +kernel)
        rw [hme] at C
        exact ⟨n - 1, by omega, by omega, _, _, _, _, _, _, C.sel (by row_room_at px_sel)⟩
      · row_room_at pxs
        refine k_callF0 (K := KT w.params) (by kernel_rfl) ?_
        row_room_at pxs
        refine ⟨C.kin G, ?_⟩
        refine ct_get (N := False) (F := (r2, tupO (toldT O c d (big [l1, l2]) u1 u2 u3 u4 u5 u6)) :: (it, ritO ((ds.length - (n - 1) : Nat) : Int) ((n - 1 : Nat) : Int)) :: (dd, lstO ds dn) :: []) G hBM hbm (by show A.depth + 1 < 600; omega) hh (by show A.units + 3 < 6000; omega) (by exact hg) (by exact hA1)
          (C.sel (fs' := (x, instObj 154 dx) :: (dx, dictOf es n2) :: (sz, lstO ps n') :: _) (by row_room_at px_sel)) ra (by omega) hps (by omega) hP (fun ng => ng ⟨c, d, l1, l2, g1, g2, g3⟩) (fun h => h.elim) ?ko
        intro c' d' m1 m2 px pdx pes nx wr rb src dst sp dp tlv rest ex t2 ta tb tc te es3 n3 td' pl' s f1 f2 v1 v2 v3 v4 v5 ai pa ra C
        have q := g2.symm.trans f2
        simp only [List.cons.injEq, and_true] at q
        obtain ⟨rfl, rfl, rfl, rfl⟩ := q
        replace C := C.perm (List.perm_middle (l₁ := _ :: _ :: _ :: _ :: _ :: _ :: ex)).symm
        have C : Cx H [tbV2] os _ ((r2, _) :: (px, _) :: (pdx, _) :: (rb, _) :: (wr, _) :: (x, _) :: (dx, _) :: (ex ++ _)) s := C
        row_room_at pxs
        refine k_eqTupLen C (by row_room_at px_mem) (by row_room_at px_mem) (by show A.units + _ < cLine; have e : cLine = 9900 := rfl; omega) ?_
        rw [show (toldT O c d (big [l1, l2]) u1 u2 u3 u4 u5 u6).isEmpty = false from rfl]
        row_room_at pxs
        rw [if_neg (by decide)]
        row_room_at pxs
        refine k_callF0 (K := KT w.params) (by kernel_rfl) ?_
        row_room_at pxs
        refine ⟨C.kin G, ?_⟩
        refine ct_same (F := (it, ritO ((ds.length - (n - 1) : Nat) : Int) ((n - 1 : Nat) : Int)) :: (dd, lstO ds dn) :: []) G (by show A.depth + 1 < 900; omega) hh (by exact hg) (by show A.units + 3 < 5000; omega) (by omega) g1 g2 g3 ai pa ra (C.sel (by row_room_at px_sel)) (fun s C => ?_)
        row_room_at pxs
        exact ⟨n - 1, by omega, by omega, _, _, _, _, _, _, C⟩
end

end
end Px
end

/- Wtop -/
section
open PySem PySem.W PySem.Calls PyProof.Rows
set_option Elab.async false
set_option maxRecDepth 100000
set_option maxHeartbeats 4000000
set_option linter.unusedVariables false
namespace Px
noncomputable section
abbrev rowT : OpenRow := PySem.Challenge.rw_fc0002_02.row
abbrev XtT (s : Shared) : Bool := xlAt qT [] s && recOk ([] : WRecords) s
abbrev YfT (s : Shared) : Heap × Nat := (s.heap, s.toks)
abbrev YaT (w : World) : Heap × Nat := (hpT w.params, tkT)
theorem openT : ∀ w : World, (fencedOpening treeTable pw w NT).map (fun s => (s.heap, s.gens, s.drawn, s.toks)) = some (boot_heap w.params, Array.mk [], boot_drawn, boot_toks) :=
  boot_open (by kernel_rfl) (by decide +kernel) (fun s => rfl)
theorem sizeT : ∀ w : World, ((boot_heap w.params).isNs mainGlobals && (Array.mk [] : Array GenState).size == 0, (boot_heap w.params).objs.size, (boot_heap w.params).nsMap mainGlobals "__annotations__") = (true, 11, annT) := fun w => by kernel_rfl
theorem lookA (w : World) : (fun os => (staticsOk (importedModules pw.main.body) (boot_heap w.params) (hpT w.params) && namesBound pw (hpT w.params) && gensDone ⟨hpT w.params, #[], {}, tkT, os⟩ && laidKept (boot_heap w.params) (hpT w.params))) = fun _ => true := by kernel_rfl

theorem lookB (w : World) : (fun os => openSeen qT looseT (importedModules pw.main.body) XtT true ⟨hpT w.params, #[], {}, tkT, os⟩) = fun _ => openGood qT looseT := by kernel_rfl
theorem leftT : LeftO pw qT looseT XtT YfT YaT NT :=
  LeftO.of_pieces (H₀ := boot_heap) (H₁ := hpT) (gs₀ := Array.mk []) (gs₁ := #[]) (d₀ := boot_drawn) (d₁ := {}) (k₀ := boot_toks) (k₁ := tkT) (m₀ := 11) (ann := annT) (M := (12 + (1 + (296 + (370 + (197 + (342 + (238 + (372 + (86 + (478 + (398 + (147 + 2))))))))))))) openT sizeT (fun w os => runT w os) (by decide +kernel)
    (fun w => funext fun os => by
      have a := congrFun (lookA w) os
      have b := congrFun (lookB w) os
      rw [Prod.mk.injEq, Prod.mk.injEq]
      exact ⟨a, b, rfl⟩)
theorem kinT (P : Params) : (KT P).In (hpT P) := Frag.in_of rfl (by kernel_rfl)
theorem tabT (P : Params) : (hpT P).get? 259 = some (tabObj #[]) := by kernel_rfl
theorem ktT (P : Params) : (KT P).lookup 259 = none := by kernel_rfl
theorem sizT (P : Params) : (hpT P).objs.size = 297 := by kernel_rfl
theorem bltT (P : Params) : nsIn (KT P) mainGlobals "__builtins__" = some (some (.ref 4)) := by kernel_rfl
theorem lawT (P : Params) : nsIn (KT P) mainGlobals "law" = some (some (.ref 296)) := by kernel_rfl
theorem codT (P : Params) : codeHdIn (KT P) 263 259 = true := by kernel_rfl
theorem bmT (P : Params) : ∃ o, (KT P).lookup 4 = some o ∧ o.cls = .type "module" ∧ o.dict = some builtinsNs ∧ o.data = .plain := ⟨boot_o_4 P, by kernel_rfl, rfl, rfl, rfl⟩
theorem tabCode (P : Params) : ∃ o vs, (KT P).lookup 263 = some o ∧ o.cls = .type "code" ∧ o.data = .fields vs ∧ vs[11]? = some (.ref 259) := ⟨o263_10 P, _, by kernel_rfl, rfl, rfl, by kernel_rfl⟩
theorem ns_one {h : Heap} {a : Addr} {m m' : Str → Option Value} (x : h.Ns a m) (y : h.Ns a m') : m = m' := by
  obtain ⟨o, es, ep, e, d, _, f⟩ := x
  obtain ⟨o', es', ep', e', d', _, f'⟩ := y
  rw [e] at e'; cases e'
  rw [d] at d'; cases d'
  exact funext fun n => (f n).symm.trans (f' n)
theorem walkT (d : DefRec) (kwd : List (Str × Expr)) (hdef : defOf qT rowT.name = some (d, kwd)) : WalkC qT looseT (XL qT []) YfT YaT rowT.toRowW d kwd := by
  intro w s₀ s₁ mg mb G Y fa o pm cd doc dV kV ho hd hcd hD hmg hgens args vals as L hpre hlay hrd hwl hlo
  have e0 : s₀.heap = hpT w.params := congrArg (·.1) Y
  have keep : ∀ b o, (hpT w.params).get? b = some o → s₁.heap.get? b = some o := by rw [← e0]; exact L.keeps
  have X : (KT w.params).In s₁.heap := (kinT w.params).keeps keep
  have T := G.T
  have hT := keep _ _ (tabT w.params)
  have hfa : fa = 296 := by
    have := mg_of X T.g (lawT w.params)
    rw [defOf_name hdef] at hmg
    have q := hmg.symm.trans this
    injection q with q
    injection q
  subst hfa
  have hCd : CodeHd s₁.heap 263 259 := codeHd_of_K X (codT w.params)
  have Gd1 : Gd (KT w.params) s₁.heap [tbV2] mg mb := by
    refine ⟨X, fun t ht => ?_, T.g, T.b, ?_, T.builtins, fun t ht => ?_, fun t ht => ?_⟩
    · rw [List.mem_singleton.mp ht]; exact ktT _
    · obtain ⟨ms, h1, h2⟩ := T.nolimit
      obtain ⟨mc, h3, h4⟩ := T.nodigits
      have e := ns_one h1 h3
      subst e
      exact ⟨ms, h1, h2, h4⟩
    · rw [List.mem_singleton.mp ht]; decide
    · rw [List.mem_singleton.mp ht]; exact hCd
  have hbm := mg_of X T.g (bltT w.params)
  obtain ⟨ob, ob1, ob2, ob3, ob4⟩ := bmT w.params
  have hBM : s₁.heap.BuiltinsAt mg 259 := ⟨4, ob, hbm, by decide, by decide, by decide, X _ _ ob1, ob2, ob3, ob4⟩
  wrow_args hpre hlay hrd hwl hlo
  rename_i ns _ _ _ _ _ as1 as2 al vs as3 hList _ _ _ hInts _ hlen _
  obtain ⟨oL, hl, hlc⟩ := hList
  have hne : al ≠ 259 := by
    rintro rfl
    rw [hT] at hl
    cases hl
    cases hlc.1
  have hvl : vs.length ≤ 63 := by
    have := hInts.length
    omega
  have C : Cx s₁.heap [tbV2] s₁.os [] [] s₁ := by
    refine ⟨(fun p hp => nomatch hp), List.nodup_nil, (fun a ha => nomatch ha), fun b o e _ => e, Nat.le_refl _, (fun f hf => nomatch hf), fun t ht => ?_, fun t ht => ?_, by rw [hgens]; exact AllBare.empty, rfl⟩
    · rw [List.mem_singleton.mp ht]
      exact ⟨#[], hT, .inl ⟨rfl, rfl⟩⟩
    · rw [List.mem_singleton.mp ht]
      exact Heap.lt_size hT
  refine wpC_call (ct_law (fr := []) Gd1 hBM (fun bm e => ?_) (by decide) rfl (by decide) rfl rfl C hl hlc hInts (by omega) hne (fun s' C => ?_))
  · rw [hbm] at e
    injection e with e
    injection e with e
    rw [← e]; decide
  · refine ⟨.inl ⟨_, _, [], rfl, fun _ => rfl, ReadsW.bool true, by wrow_post, fun _ => ⟨List.nodup_nil, fun _ hm => nomatch hm⟩⟩, ⟨fun b o e => ?_, fun b o e => ?_⟩, C.os, C.gens⟩
    · by_cases hb : b = 259
      · subst hb
        rw [hT] at e
        cases e
        obtain ⟨ps, e', _⟩ := C.tabs tbV2 (.head _)
        obtain ⟨oc, vc, c1, c2, c3, c4⟩ := tabCode w.params
        exact .inr (.inl ⟨⟨263, oc, vc, X _ _ c1, c2, c3, c4⟩, rfl, #[], ps, rfl, by simpa using e'⟩)
      · exact .inl (C.old b o e (by simpa using hb))
    · by_cases hb : b = 259
      · subst hb
        obtain ⟨ps, e', _⟩ := C.tabs tbV2 (.head _)
        exact ⟨_, e'⟩
      · exact ⟨o, C.old b o e (by simpa using hb)⟩
theorem rowHolds (said : rowT.wellSaid = true) : rowT.Holds := by
  refine holdsC (q := qT) (loose := looseT) (Xt := XtT) (XP := XL qT []) (Yf := YfT) (Ya := YaT) (N := NT) leftT (fun s e => xl_of s (Bool.and_eq_true_iff.mp e).1) XL.keeps (by rfl) (by rfl) (by rfl) (fun s e => recFacts_of (Bool.and_eq_true_iff.mp e).2) (by rfl) said (by decide +kernel) ⟨rfl, rfl, rfl, rfl, rfl, by decide +kernel⟩ ?hw (walkT _ _ (by rfl))
  case hw => w_witness2
end
end Px
end

end
open PySem PySem.W PyProof.Rows
set_option maxRecDepth 100000 in
set_option maxHeartbeats 8000000 in
theorem PySem.Challenge.cw_fc0002_02_holds : PySem.Challenge.rw_fc0002_02.Holds := by
  o_law
  exact Px.rowHolds (by assumption)
