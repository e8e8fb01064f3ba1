import PyProof.Rows.All
import Wide.All
import OpenK.AllK
import Wide.FinOn
import OpenK.ZLast
import Lean
import PySem.Challenge.RW_in0006_01
set_option Elab.async false
set_option maxRecDepth 100000
set_option linter.all false
set_option bootstrap.genMatcherCode false
set_option genSizeOf false
set_option genInjectivity false

namespace Mine
inductive X15_9 (A B C D E F H I J : α -> β -> γ -> δ -> ε -> ζ -> η -> θ -> ι -> κ -> μ -> ν -> ξ -> ο -> π -> Prop) : Prop | mk (x y z u v w p q s t x1 y1 z1 u1 v1) (_ : A x y z u v w p q s t x1 y1 z1 u1 v1) (_ : B x y z u v w p q s t x1 y1 z1 u1 v1) (_ : C x y z u v w p q s t x1 y1 z1 u1 v1) (_ : D x y z u v w p q s t x1 y1 z1 u1 v1) (_ : E x y z u v w p q s t x1 y1 z1 u1 v1) (_ : F x y z u v w p q s t x1 y1 z1 u1 v1) (_ : H x y z u v w p q s t x1 y1 z1 u1 v1) (_ : I x y z u v w p q s t x1 y1 z1 u1 v1) (_ : J x y z u v w p q s t x1 y1 z1 u1 v1)
inductive X1_3 (A B C : α -> Prop) : Prop | mk (x) (_ : A x) (_ : B x) (_ : C x)
inductive X1_4 (A B C D : α -> Prop) : Prop | mk (x) (_ : A x) (_ : B x) (_ : C x) (_ : D x)
inductive X2_2 (A B : α -> β -> Prop) : Prop | mk (x y) (_ : A x y) (_ : B x y)
inductive X2_3 (A B C : α -> β -> Prop) : Prop | mk (x y) (_ : A x y) (_ : B x y) (_ : C x y)
inductive X2_4 (A B C D : α -> β -> Prop) : Prop | mk (x y) (_ : A x y) (_ : B x y) (_ : C x y) (_ : D x y)
inductive X2_5 (A B C D E : α -> β -> Prop) : Prop | mk (x y) (_ : A x y) (_ : B x y) (_ : C x y) (_ : D x y) (_ : E x y)
inductive X2_6 (A B C D E F : α -> β -> Prop) : Prop | mk (x y) (_ : A x y) (_ : B x y) (_ : C x y) (_ : D x y) (_ : E x y) (_ : F x y)
inductive X3_11 (A B C D E F H I J K L : α -> β -> γ -> Prop) : Prop | mk (x y z) (_ : A x y z) (_ : B x y z) (_ : C x y z) (_ : D x y z) (_ : E x y z) (_ : F x y z) (_ : H x y z) (_ : I x y z) (_ : J x y z) (_ : K x y z) (_ : L x y z)
inductive X3_3 (A B C : α -> β -> γ -> Prop) : Prop | mk (x y z) (_ : A x y z) (_ : B x y z) (_ : C x y z)
inductive X3_4 (A B C D : α -> β -> γ -> Prop) : Prop | mk (x y z) (_ : A x y z) (_ : B x y z) (_ : C x y z) (_ : D x y z)
inductive X3_5 (A B C D E : α -> β -> γ -> Prop) : Prop | mk (x y z) (_ : A x y z) (_ : B x y z) (_ : C x y z) (_ : D x y z) (_ : E x y z)
inductive X3_6 (A B C D E F : α -> β -> γ -> Prop) : Prop | mk (x y z) (_ : A x y z) (_ : B x y z) (_ : C x y z) (_ : D x y z) (_ : E x y z) (_ : F x y z)
inductive X3_7 (A B C D E F H : α -> β -> γ -> Prop) : Prop | mk (x y z) (_ : A x y z) (_ : B x y z) (_ : C x y z) (_ : D x y z) (_ : E x y z) (_ : F x y z) (_ : H x y z)
inductive X3_8 (A B C D E F H I : α -> β -> γ -> Prop) : Prop | mk (x y z) (_ : A x y z) (_ : B x y z) (_ : C x y z) (_ : D x y z) (_ : E x y z) (_ : F x y z) (_ : H x y z) (_ : I x y z)
inductive X4_3 (A B C : α -> β -> γ -> δ -> Prop) : Prop | mk (x y z u) (_ : A x y z u) (_ : B x y z u) (_ : C x y z u)
inductive X4_4 (A B C D : α -> β -> γ -> δ -> Prop) : Prop | mk (x y z u) (_ : A x y z u) (_ : B x y z u) (_ : C x y z u) (_ : D x y z u)
inductive X4_5 (A B C D E : α -> β -> γ -> δ -> Prop) : Prop | mk (x y z u) (_ : A x y z u) (_ : B x y z u) (_ : C x y z u) (_ : D x y z u) (_ : E x y z u)
inductive X4_6 (A B C D E F : α -> β -> γ -> δ -> Prop) : Prop | mk (x y z u) (_ : A x y z u) (_ : B x y z u) (_ : C x y z u) (_ : D x y z u) (_ : E x y z u) (_ : F x y z u)
inductive X4_8 (A B C D E F H I : α -> β -> γ -> δ -> Prop) : Prop | mk (x y z u) (_ : A x y z u) (_ : B x y z u) (_ : C x y z u) (_ : D x y z u) (_ : E x y z u) (_ : F x y z u) (_ : H x y z u) (_ : I x y z u)
inductive X5_3 (A B C : α -> β -> γ -> δ -> ε -> Prop) : Prop | mk (x y z u v) (_ : A x y z u v) (_ : B x y z u v) (_ : C x y z u v)
inductive X5_6 (A B C D E F : α -> β -> γ -> δ -> ε -> Prop) : Prop | mk (x y z u v) (_ : A x y z u v) (_ : B x y z u v) (_ : C x y z u v) (_ : D x y z u v) (_ : E x y z u v) (_ : F x y z u v)
inductive X5_7 (A B C D E F H : α -> β -> γ -> δ -> ε -> Prop) : Prop | mk (x y z u v) (_ : A x y z u v) (_ : B x y z u v) (_ : C x y z u v) (_ : D x y z u v) (_ : E x y z u v) (_ : F x y z u v) (_ : H x y z u v)
inductive X5_9 (A B C D E F H I J : α -> β -> γ -> δ -> ε -> Prop) : Prop | mk (x y z u v) (_ : A x y z u v) (_ : B x y z u v) (_ : C x y z u v) (_ : D x y z u v) (_ : E x y z u v) (_ : F x y z u v) (_ : H x y z u v) (_ : I x y z u v) (_ : J x y z u v)
inductive X6_4 (A B C D : α -> β -> γ -> δ -> ε -> ζ -> Prop) : Prop | mk (x y z u v w) (_ : A x y z u v w) (_ : B x y z u v w) (_ : C x y z u v w) (_ : D x y z u v w)
inductive X6_5 (A B C D E : α -> β -> γ -> δ -> ε -> ζ -> Prop) : Prop | mk (x y z u v w) (_ : A x y z u v w) (_ : B x y z u v w) (_ : C x y z u v w) (_ : D x y z u v w) (_ : E x y z u v w)
inductive X6_6 (A B C D E F : α -> β -> γ -> δ -> ε -> ζ -> Prop) : Prop | mk (x y z u v w) (_ : A x y z u v w) (_ : B x y z u v w) (_ : C x y z u v w) (_ : D x y z u v w) (_ : E x y z u v w) (_ : F x y z u v w)
inductive X6_7 (A B C D E F H : α -> β -> γ -> δ -> ε -> ζ -> Prop) : Prop | mk (x y z u v w) (_ : A x y z u v w) (_ : B x y z u v w) (_ : C x y z u v w) (_ : D x y z u v w) (_ : E x y z u v w) (_ : F x y z u v w) (_ : H x y z u v w)
inductive X7_5 (A B C D E : α -> β -> γ -> δ -> ε -> ζ -> η -> Prop) : Prop | mk (x y z u v w p) (_ : A x y z u v w p) (_ : B x y z u v w p) (_ : C x y z u v w p) (_ : D x y z u v w p) (_ : E x y z u v w p)
inductive X8_10 (A B C D E F H I J K : α -> β -> γ -> δ -> ε -> ζ -> η -> θ -> Prop) : Prop | mk (x y z u v w p q) (_ : A x y z u v w p q) (_ : B x y z u v w p q) (_ : C x y z u v w p q) (_ : D x y z u v w p q) (_ : E x y z u v w p q) (_ : F x y z u v w p q) (_ : H x y z u v w p q) (_ : I x y z u v w p q) (_ : J x y z u v w p q) (_ : K x y z u v w p q)
inductive X8_4 (A B C D : α -> β -> γ -> δ -> ε -> ζ -> η -> θ -> Prop) : Prop | mk (x y z u v w p q) (_ : A x y z u v w p q) (_ : B x y z u v w p q) (_ : C x y z u v w p q) (_ : D x y z u v w p q)
inductive X8_6 (A B C D E F : α -> β -> γ -> δ -> ε -> ζ -> η -> θ -> Prop) : Prop | mk (x y z u v w p q) (_ : A x y z u v w p q) (_ : B x y z u v w p q) (_ : C x y z u v w p q) (_ : D x y z u v w p q) (_ : E x y z u v w p q) (_ : F x y z u v w p q)
inductive X8_7 (A B C D E F H : α -> β -> γ -> δ -> ε -> ζ -> η -> θ -> Prop) : Prop | mk (x y z u v w p q) (_ : A x y z u v w p q) (_ : B x y z u v w p q) (_ : C x y z u v w p q) (_ : D x y z u v w p q) (_ : E x y z u v w p q) (_ : F x y z u v w p q) (_ : H x y z u v w p q)
inductive X9_4 (A B C D : α -> β -> γ -> δ -> ε -> ζ -> η -> θ -> ι -> Prop) : Prop | mk (x y z u v w p q s) (_ : A x y z u v w p q s) (_ : B x y z u v w p q s) (_ : C x y z u v w p q s) (_ : D x y z u v w p q s)
def byRfl : Lean.Syntax := .node .none `Lean.Parser.Tactic.tacticSeq #[.node .none `Lean.Parser.Tactic.tacticSeq1Indented #[.node .none `null #[.node .none `Lean.Parser.Tactic.intros #[Lean.mkAtom "intros", .node .none `null #[]], Lean.mkAtom ";", .node .none `Lean.Parser.Tactic.tacticRfl #[Lean.mkAtom "rfl"]]]]
theorem mS {a b : α} : a ∈ [b] -> a = b := by simp
theorem mC {a b : α} {l : List α} : a ∈ b :: l -> a = b \/ a ∈ l := by simp
theorem mm2 {a b c : α} : a ∈ [b, c] -> a = b \/ a = c := by simp
theorem mm3 {a b c d : α} : a ∈ [b, c, d] -> a = b \/ a = c \/ a = d := by simp
theorem mm4 {a b c d e : α} : a ∈ [b, c, d, e] -> a = b \/ a = c \/ a = d \/ a = e := by simp
theorem mm5 {a b c d e f : α} : a ∈ [b, c, d, e, f] -> a = b \/ a = c \/ a = d \/ a = e \/ a = f := by simp
theorem mm6 {a b c d e f g : α} : a ∈ [b, c, d, e, f, g] -> a = b \/ a = c \/ a = d \/ a = e \/ a = f \/ a = g := by simp
theorem mm7 {a b c d e f g h : α} : a ∈ [b, c, d, e, f, g, h] -> a = b \/ a = c \/ a = d \/ a = e \/ a = f \/ a = g \/ a = h := by simp
theorem mD {a b : α} {l : List α} (h : a ∈ b :: l) : b = a \/ a ∈ l := (mC h).imp Eq.symm id
theorem mr2 {a b c : α} (h : a ∈ [b, c]) : b = a \/ c = a := by rcases mm2 h with h | h <;> simp [h]
theorem mr3 {a b c d : α} (h : a ∈ [b, c, d]) : b = a \/ c = a \/ d = a := by rcases mm3 h with h | h | h <;> simp [h]
theorem mr4 {a b c d e : α} (h : a ∈ [b, c, d, e]) : b = a \/ c = a \/ d = a \/ e = a := by rcases mm4 h with h | h | h | h <;> simp [h]
theorem mr5 {a b c d e f : α} (h : a ∈ [b, c, d, e, f]) : b = a \/ c = a \/ d = a \/ e = a \/ f = a := by rcases mm5 h with h | h | h | h | h <;> simp [h]
theorem mr6 {a b c d e f g : α} (h : a ∈ [b, c, d, e, f, g]) : b = a \/ c = a \/ d = a \/ e = a \/ f = a \/ g = a := by rcases mm6 h with h | h | h | h | h | h <;> simp [h]
theorem mr7 {a b c d e f g i : α} (h : a ∈ [b, c, d, e, f, g, i]) : b = a \/ c = a \/ d = a \/ e = a \/ f = a \/ g = a \/ i = a := by rcases mm7 h with h | h | h | h | h | h | h <;> simp [h]
end Mine
section
namespace Mine
open PySem PySem.W PySem.W.X PyProof.Rows
noncomputable def e0 (P : Params) (l : List Nat) (t : Tok) (v : Value) : DictEntry := ⟨reduceHash (P.strHash ⟨l⟩), .str ⟨⟨l⟩⟩ t, v⟩
noncomputable def stDef (n : Str) : Stmt -> Bool
 | .FunctionDef m .. => m == n
 | .ClassDef m .. => m == n
 | _ => false
noncomputable def topDef (n : Str) : Stmt := ((PySem.Challenge.pw_in0006_01.main.body.filter (stDef n)).head?).getD (.Pass default)
noncomputable def classBody : Stmt -> List Stmt
 | .ClassDef _ _ _ b .. => b
 | _ => []
noncomputable def inClass (c n : Str) : Stmt := ((((PySem.Challenge.pw_in0006_01.main.body.filter (stDef c)).flatMap classBody).filter (stDef n)).head?).getD (.Pass default)
noncomputable def fdOf (st : Stmt) (name qual : Str) (cl : List (Str × Addr)) (dflt doc md code ct : Value) (ann : Option Addr) : FuncData := match st with
 | .FunctionDef _ a b _ _ _ sc _ _ _ => { name := name, qualname := qual, params := a, body := .stmts b, scope := sc, globals := 3, closure := cl, defaults := dflt, kwdefaults := .none, doc := doc, pyModule := md, annotations := ann, code := code, closureTuple := ct, builtins := 0 }
 | _ => default
/- THE OBJECTS OF THE TOP that the law comes on (printed by a program of mine, wip/Dev9.lean) -/
noncomputable def o0 (P : Params) : Obj := { cls := (.type "dict"), dict := none, data := .dict #[e0 P [95, 95, 110, 97, 109, 101, 95, 95] 1 (.str ⟨#[98, 117, 105, 108, 116, 105, 110, 115]⟩ 160), e0 P [95, 95, 100, 111, 99, 95, 95] 2 (.builtin "builtins.__doc__:str#opaque"), e0 P [95, 95, 112, 97, 99, 107, 97, 103, 101, 95, 95] 3 (.builtin "builtins.__package__:str#opaque"), e0 P [95, 95, 108, 111, 97, 100, 101, 114, 95, 95] 4 (.builtin "builtins.__loader__:shared#opaque"), e0 P [95, 95, 115, 112, 101, 99, 95, 95] 5 (.builtin "builtins.__spec__#opaque"), e0 P [95, 95, 98, 117, 105, 108, 100, 95, 99, 108, 97, 115, 115, 95, 95] 6 (.builtin "__build_class__"), e0 P [95, 95, 105, 109, 112, 111, 114, 116, 95, 95] 7 (.builtin "__import__"), e0 P [97, 98, 115] 8 (.builtin "abs"), e0 P [97, 108, 108] 9 (.builtin "all"), e0 P [97, 110, 121] 10 (.builtin "any"), e0 P [97, 115, 99, 105, 105] 11 (.builtin "ascii"), e0 P [98, 105, 110] 12 (.builtin "bin"), e0 P [98, 114, 101, 97, 107, 112, 111, 105, 110, 116] 13 (.builtin "breakpoint"), e0 P [99, 97, 108, 108, 97, 98, 108, 101] 14 (.builtin "callable"), e0 P [99, 104, 114] 15 (.builtin "chr"), e0 P [99, 111, 109, 112, 105, 108, 101] 16 (.builtin "compile"), e0 P [100, 101, 108, 97, 116, 116, 114] 17 (.builtin "delattr"), e0 P [100, 105, 114] 18 (.builtin "dir"), e0 P [100, 105, 118, 109, 111, 100] 19 (.builtin "divmod"), e0 P [101, 118, 97, 108] 20 (.builtin "eval"), e0 P [101, 120, 101, 99] 21 (.builtin "exec"), e0 P [102, 111, 114, 109, 97, 116] 22 (.builtin "format"), e0 P [103, 101, 116, 97, 116, 116, 114] 23 (.builtin "getattr"), e0 P [103, 108, 111, 98, 97, 108, 115] 24 (.builtin "globals"), e0 P [104, 97, 115, 97, 116, 116, 114] 25 (.builtin "hasattr"), e0 P [104, 97, 115, 104] 26 (.builtin "hash"), e0 P [104, 101, 120] 27 (.builtin "hex"), e0 P [105, 100] 28 (.builtin "id"), e0 P [105, 110, 112, 117, 116] 29 (.builtin "input"), e0 P [105, 115, 105, 110, 115, 116, 97, 110, 99, 101] 30 (.builtin "isinstance"), e0 P [105, 115, 115, 117, 98, 99, 108, 97, 115, 115] 31 (.builtin "issubclass"), e0 P [105, 116, 101, 114] 32 (.builtin "iter"), e0 P [97, 105, 116, 101, 114] 33 (.builtin "aiter"), e0 P [108, 101, 110] 34 (.builtin "len"), e0 P [108, 111, 99, 97, 108, 115] 35 (.builtin "locals"), e0 P [109, 97, 120] 36 (.builtin "max"), e0 P [109, 105, 110] 37 (.builtin "min"), e0 P [110, 101, 120, 116] 38 (.builtin "next"), e0 P [97, 110, 101, 120, 116] 39 (.builtin "anext"), e0 P [111, 99, 116] 40 (.builtin "oct"), e0 P [111, 114, 100] 41 (.builtin "ord"), e0 P [112, 111, 119] 42 (.builtin "pow"), e0 P [112, 114, 105, 110, 116] 43 (.builtin "print"), e0 P [114, 101, 112, 114] 44 (.builtin "repr"), e0 P [114, 111, 117, 110, 100] 45 (.builtin "round"), e0 P [115, 101, 116, 97, 116, 116, 114] 46 (.builtin "setattr"), e0 P [115, 111, 114, 116, 101, 100] 47 (.builtin "sorted"), e0 P [115, 117, 109] 48 (.builtin "sum"), e0 P [118, 97, 114, 115] 49 (.builtin "vars"), e0 P [78, 111, 110, 101] 50 .none, e0 P [69, 108, 108, 105, 112, 115, 105, 115] 51 .ellipsis, e0 P [78, 111, 116, 73, 109, 112, 108, 101, 109, 101, 110, 116, 101, 100] 52 .notImplemented, e0 P [70, 97, 108, 115, 101] 53 (.bool false), e0 P [84, 114, 117, 101] 54 (.bool true), e0 P [98, 111, 111, 108] 55 (.type "bool"), e0 P [109, 101, 109, 111, 114, 121, 118, 105, 101, 119] 56 (.type "memoryview"), e0 P [98, 121, 116, 101, 97, 114, 114, 97, 121] 57 (.type "bytearray"), e0 P [98, 121, 116, 101, 115] 58 (.type "bytes"), e0 P [99, 108, 97, 115, 115, 109, 101, 116, 104, 111, 100] 59 (.type "classmethod"), e0 P [99, 111, 109, 112, 108, 101, 120] 60 (.type "complex"), e0 P [100, 105, 99, 116] 61 (.type "dict"), e0 P [101, 110, 117, 109, 101, 114, 97, 116, 101] 62 (.type "enumerate"), e0 P [102, 105, 108, 116, 101, 114] 63 (.type "filter"), e0 P [102, 108, 111, 97, 116] 64 (.type "float"), e0 P [102, 114, 111, 122, 101, 110, 115, 101, 116] 65 (.type "frozenset"), e0 P [112, 114, 111, 112, 101, 114, 116, 121] 66 (.type "property"), e0 P [105, 110, 116] 67 (.type "int"), e0 P [108, 105, 115, 116] 68 (.type "list"), e0 P [109, 97, 112] 69 (.type "map"), e0 P [111, 98, 106, 101, 99, 116] 70 (.type "object"), e0 P [114, 97, 110, 103, 101] 71 (.type "range"), e0 P [114, 101, 118, 101, 114, 115, 101, 100] 72 (.type "reversed"), e0 P [115, 101, 116] 73 (.type "set"), e0 P [115, 108, 105, 99, 101] 74 (.type "slice"), e0 P [115, 116, 97, 116, 105, 99, 109, 101, 116, 104, 111, 100] 75 (.type "staticmethod"), e0 P [115, 116, 114] 76 (.type "str"), e0 P [115, 117, 112, 101, 114] 77 (.type "super"), e0 P [116, 117, 112, 108, 101] 78 (.type "tuple"), e0 P [116, 121, 112, 101] 79 (.type "type"), e0 P [122, 105, 112] 80 (.type "zip"), e0 P [95, 95, 100, 101, 98, 117, 103, 95, 95] 81 (.bool true), e0 P [66, 97, 115, 101, 69, 120, 99, 101, 112, 116, 105, 111, 110] 82 (.type "BaseException"), e0 P [66, 97, 115, 101, 69, 120, 99, 101, 112, 116, 105, 111, 110, 71, 114, 111, 117, 112] 83 (.type "BaseExceptionGroup"), e0 P [69, 120, 99, 101, 112, 116, 105, 111, 110] 84 (.type "Exception"), e0 P [71, 101, 110, 101, 114, 97, 116, 111, 114, 69, 120, 105, 116] 85 (.type "GeneratorExit"), e0 P [75, 101, 121, 98, 111, 97, 114, 100, 73, 110, 116, 101, 114, 114, 117, 112, 116] 86 (.type "KeyboardInterrupt"), e0 P [83, 121, 115, 116, 101, 109, 69, 120, 105, 116] 87 (.type "SystemExit"), e0 P [65, 114, 105, 116, 104, 109, 101, 116, 105, 99, 69, 114, 114, 111, 114] 88 (.type "ArithmeticError"), e0 P [65, 115, 115, 101, 114, 116, 105, 111, 110, 69, 114, 114, 111, 114] 89 (.type "AssertionError"), e0 P [65, 116, 116, 114, 105, 98, 117, 116, 101, 69, 114, 114, 111, 114] 90 (.type "AttributeError"), e0 P [66, 117, 102, 102, 101, 114, 69, 114, 114, 111, 114] 91 (.type "BufferError"), e0 P [69, 79, 70, 69, 114, 114, 111, 114] 92 (.type "EOFError"), e0 P [73, 109, 112, 111, 114, 116, 69, 114, 114, 111, 114] 93 (.type "ImportError"), e0 P [76, 111, 111, 107, 117, 112, 69, 114, 114, 111, 114] 94 (.type "LookupError"), e0 P [77, 101, 109, 111, 114, 121, 69, 114, 114, 111, 114] 95 (.type "MemoryError"), e0 P [78, 97, 109, 101, 69, 114, 114, 111, 114] 96 (.type "NameError"), e0 P [79, 83, 69, 114, 114, 111, 114] 97 (.type "OSError"), e0 P [82, 101, 102, 101, 114, 101, 110, 99, 101, 69, 114, 114, 111, 114] 98 (.type "ReferenceError"), e0 P [82, 117, 110, 116, 105, 109, 101, 69, 114, 114, 111, 114] 99 (.type "RuntimeError"), e0 P [83, 116, 111, 112, 65, 115, 121, 110, 99, 73, 116, 101, 114, 97, 116, 105, 111, 110] 100 (.type "StopAsyncIteration"), e0 P [83, 116, 111, 112, 73, 116, 101, 114, 97, 116, 105, 111, 110] 101 (.type "StopIteration"), e0 P [83, 121, 110, 116, 97, 120, 69, 114, 114, 111, 114] 102 (.type "SyntaxError"), e0 P [83, 121, 115, 116, 101, 109, 69, 114, 114, 111, 114] 103 (.type "SystemError"), e0 P [84, 121, 112, 101, 69, 114, 114, 111, 114] 104 (.type "TypeError"), e0 P [86, 97, 108, 117, 101, 69, 114, 114, 111, 114] 105 (.type "ValueError"), e0 P [87, 97, 114, 110, 105, 110, 103] 106 (.type "Warning"), e0 P [70, 108, 111, 97, 116, 105, 110, 103, 80, 111, 105, 110, 116, 69, 114, 114, 111, 114] 107 (.type "FloatingPointError"), e0 P [79, 118, 101, 114, 102, 108, 111, 119, 69, 114, 114, 111, 114] 108 (.type "OverflowError"), e0 P [90, 101, 114, 111, 68, 105, 118, 105, 115, 105, 111, 110, 69, 114, 114, 111, 114] 109 (.type "ZeroDivisionError"), e0 P [66, 121, 116, 101, 115, 87, 97, 114, 110, 105, 110, 103] 110 (.type "BytesWarning"), e0 P [68, 101, 112, 114, 101, 99, 97, 116, 105, 111, 110, 87, 97, 114, 110, 105, 110, 103] 111 (.type "DeprecationWarning"), e0 P [69, 110, 99, 111, 100, 105, 110, 103, 87, 97, 114, 110, 105, 110, 103] 112 (.type "EncodingWarning"), e0 P [70, 117, 116, 117, 114, 101, 87, 97, 114, 110, 105, 110, 103] 113 (.type "FutureWarning"), e0 P [73, 109, 112, 111, 114, 116, 87, 97, 114, 110, 105, 110, 103] 114 (.type "ImportWarning"), e0 P [80, 101, 110, 100, 105, 110, 103, 68, 101, 112, 114, 101, 99, 97, 116, 105, 111, 110, 87, 97, 114, 110, 105, 110, 103] 115 (.type "PendingDeprecationWarning"), e0 P [82, 101, 115, 111, 117, 114, 99, 101, 87, 97, 114, 110, 105, 110, 103] 116 (.type "ResourceWarning"), e0 P [82, 117, 110, 116, 105, 109, 101, 87, 97, 114, 110, 105, 110, 103] 117 (.type "RuntimeWarning"), e0 P [83, 121, 110, 116, 97, 120, 87, 97, 114, 110, 105, 110, 103] 118 (.type "SyntaxWarning"), e0 P [85, 110, 105, 99, 111, 100, 101, 87, 97, 114, 110, 105, 110, 103] 119 (.type "UnicodeWarning"), e0 P [85, 115, 101, 114, 87, 97, 114, 110, 105, 110, 103] 120 (.type "UserWarning"), e0 P [66, 108, 111, 99, 107, 105, 110, 103, 73, 79, 69, 114, 114, 111, 114] 121 (.type "BlockingIOError"), e0 P [67, 104, 105, 108, 100, 80, 114, 111, 99, 101, 115, 115, 69, 114, 114, 111, 114] 122 (.type "ChildProcessError"), e0 P [67, 111, 110, 110, 101, 99, 116, 105, 111, 110, 69, 114, 114, 111, 114] 123 (.type "ConnectionError"), e0 P [70, 105, 108, 101, 69, 120, 105, 115, 116, 115, 69, 114, 114, 111, 114] 124 (.type "FileExistsError"), e0 P [70, 105, 108, 101, 78, 111, 116, 70, 111, 117, 110, 100, 69, 114, 114, 111, 114] 125 (.type "FileNotFoundError"), e0 P [73, 110, 116, 101, 114, 114, 117, 112, 116, 101, 100, 69, 114, 114, 111, 114] 126 (.type "InterruptedError"), e0 P [73, 115, 65, 68, 105, 114, 101, 99, 116, 111, 114, 121, 69, 114, 114, 111, 114] 127 (.type "IsADirectoryError"), e0 P [78, 111, 116, 65, 68, 105, 114, 101, 99, 116, 111, 114, 121, 69, 114, 114, 111, 114] 128 (.type "NotADirectoryError"), e0 P [80, 101, 114, 109, 105, 115, 115, 105, 111, 110, 69, 114, 114, 111, 114] 129 (.type "PermissionError"), e0 P [80, 114, 111, 99, 101, 115, 115, 76, 111, 111, 107, 117, 112, 69, 114, 114, 111, 114] 130 (.type "ProcessLookupError"), e0 P [84, 105, 109, 101, 111, 117, 116, 69, 114, 114, 111, 114] 131 (.type "TimeoutError"), e0 P [73, 110, 100, 101, 110, 116, 97, 116, 105, 111, 110, 69, 114, 114, 111, 114] 132 (.type "IndentationError"), e0 P [95, 73, 110, 99, 111, 109, 112, 108, 101, 116, 101, 73, 110, 112, 117, 116, 69, 114, 114, 111, 114] 133 (.type "_IncompleteInputError"), e0 P [73, 110, 100, 101, 120, 69, 114, 114, 111, 114] 134 (.type "IndexError"), e0 P [75, 101, 121, 69, 114, 114, 111, 114] 135 (.type "KeyError"), e0 P [77, 111, 100, 117, 108, 101, 78, 111, 116, 70, 111, 117, 110, 100, 69, 114, 114, 111, 114] 136 (.type "ModuleNotFoundError"), e0 P [78, 111, 116, 73, 109, 112, 108, 101, 109, 101, 110, 116, 101, 100, 69, 114, 114, 111, 114] 137 (.type "NotImplementedError"), e0 P [80, 121, 116, 104, 111, 110, 70, 105, 110, 97, 108, 105, 122, 97, 116, 105, 111, 110, 69, 114, 114, 111, 114] 138 (.type "PythonFinalizationError"), e0 P [82, 101, 99, 117, 114, 115, 105, 111, 110, 69, 114, 114, 111, 114] 139 (.type "RecursionError"), e0 P [85, 110, 98, 111, 117, 110, 100, 76, 111, 99, 97, 108, 69, 114, 114, 111, 114] 140 (.type "UnboundLocalError"), e0 P [85, 110, 105, 99, 111, 100, 101, 69, 114, 114, 111, 114] 141 (.type "UnicodeError"), e0 P [66, 114, 111, 107, 101, 110, 80, 105, 112, 101, 69, 114, 114, 111, 114] 142 (.type "BrokenPipeError"), e0 P [67, 111, 110, 110, 101, 99, 116, 105, 111, 110, 65, 98, 111, 114, 116, 101, 100, 69, 114, 114, 111, 114] 143 (.type "ConnectionAbortedError"), e0 P [67, 111, 110, 110, 101, 99, 116, 105, 111, 110, 82, 101, 102, 117, 115, 101, 100, 69, 114, 114, 111, 114] 144 (.type "ConnectionRefusedError"), e0 P [67, 111, 110, 110, 101, 99, 116, 105, 111, 110, 82, 101, 115, 101, 116, 69, 114, 114, 111, 114] 145 (.type "ConnectionResetError"), e0 P [84, 97, 98, 69, 114, 114, 111, 114] 146 (.type "TabError"), e0 P [85, 110, 105, 99, 111, 100, 101, 68, 101, 99, 111, 100, 101, 69, 114, 114, 111, 114] 147 (.type "UnicodeDecodeError"), e0 P [85, 110, 105, 99, 111, 100, 101, 69, 110, 99, 111, 100, 101, 69, 114, 114, 111, 114] 148 (.type "UnicodeEncodeError"), e0 P [85, 110, 105, 99, 111, 100, 101, 84, 114, 97, 110, 115, 108, 97, 116, 101, 69, 114, 114, 111, 114] 149 (.type "UnicodeTranslateError"), e0 P [69, 120, 99, 101, 112, 116, 105, 111, 110, 71, 114, 111, 117, 112] 150 (.type "ExceptionGroup"), e0 P [69, 110, 118, 105, 114, 111, 110, 109, 101, 110, 116, 69, 114, 114, 111, 114] 151 (.type "OSError"), e0 P [73, 79, 69, 114, 114, 111, 114] 152 (.type "OSError"), e0 P [111, 112, 101, 110] 153 (.builtin "open"), e0 P [113, 117, 105, 116] 154 (.builtin "builtins.quit#opaque"), e0 P [101, 120, 105, 116] 155 (.builtin "builtins.exit#opaque"), e0 P [99, 111, 112, 121, 114, 105, 103, 104, 116] 156 (.builtin "builtins.copyright#opaque"), e0 P [99, 114, 101, 100, 105, 116, 115] 157 (.builtin "builtins.credits#opaque"), e0 P [108, 105, 99, 101, 110, 115, 101] 158 (.builtin "builtins.license#opaque"), e0 P [104, 101, 108, 112] 159 (.builtin "builtins.help#opaque")] 159, slots := #[] }
noncomputable def o2 (P : Params) : Obj := { cls := .none, dict := none, data := .dict #[e0 P [105, 109, 112, 111, 114, 116, 46, 108, 111, 97, 100, 101, 100, 46, 95, 99, 111, 108, 108, 101, 99, 116, 105, 111, 110, 115] 185 (.bool true), e0 P [99, 108, 97, 115, 115, 46, 95, 102, 114, 111, 122, 101, 110, 95, 105, 109, 112, 111, 114, 116, 108, 105, 98, 46, 66, 117, 105, 108, 116, 105, 110, 73, 109, 112, 111, 114, 116, 101, 114] 187 (.ref 15), e0 P [119, 97, 116, 99, 104, 101, 100, 46, 105, 109, 112, 111, 114, 116] 208 (.ref 19), e0 P [99, 108, 97, 115, 115, 46, 95, 102, 114, 111, 122, 101, 110, 95, 105, 109, 112, 111, 114, 116, 108, 105, 98, 46, 77, 111, 100, 117, 108, 101, 83, 112, 101, 99] 218 (.ref 23), e0 P [115, 121, 115, 46, 109, 111, 100, 117, 108, 101, 115, 46, 98, 111, 111, 107, 101, 100, 45, 101, 112, 111, 99, 104] 247 (.int (3) 0), e0 P [115, 121, 115, 46, 109, 111, 100, 117, 108, 101, 115, 46, 108, 97, 110, 100, 101, 100, 46, 95, 99, 111, 108, 108, 101, 99, 116, 105, 111, 110, 115] 248 (.bool true), e0 P [105, 109, 112, 111, 114, 116, 46, 108, 97, 116, 101, 114, 45, 108, 97, 105, 100, 46, 95, 99, 111, 108, 108, 101, 99, 116, 105, 111, 110, 115] 263 (.bool true), e0 P [119, 97, 116, 99, 104, 101, 100, 46, 108, 105, 98, 114, 97, 114, 121] 265 (.ref 28), e0 P [119, 97, 116, 99, 104, 101, 100, 46, 108, 105, 98, 114, 97, 114, 121, 45, 111, 98, 106, 101, 99, 116, 115] 0 (.str ⟨#[13]⟩ 0), e0 P [119, 97, 116, 99, 104, 101, 100, 46, 108, 105, 98, 114, 97, 114, 121, 45, 100, 101, 101, 112, 46, 95, 99, 111, 108, 108, 101, 99, 116, 105, 111, 110, 115] 266 (.str ⟨#[4, 0, 0, 12, 4, 0, 0, 12, 4, 0, 0, 3, 4, 0, 0, 12, 8, 4, 100, 105, 99, 116, 2]⟩ 0), e0 P [116, 121, 112, 101, 46, 95, 95, 115, 117, 98, 99, 108, 97, 115, 115, 101, 115, 95, 95, 46, 99, 111, 108, 108, 101, 99, 116, 105, 111, 110, 115, 46, 100, 101, 102, 97, 117, 108, 116, 100, 105, 99, 116, 46, 48] 417 (.int (122) 0), e0 P [116, 121, 112, 101, 46, 95, 95, 115, 117, 98, 99, 108, 97, 115, 115, 101, 115, 95, 95, 46, 99, 111, 108, 108, 101, 99, 116, 105, 111, 110, 115, 46, 100, 101, 102, 97, 117, 108, 116, 100, 105, 99, 116, 46, 110] 418 (.int (1) 0)] 12, slots := #[] }
noncomputable def o3 (P : Params) : Obj := { cls := (.type "dict"), dict := none, data := .dict #[e0 P [95, 95, 110, 97, 109, 101, 95, 95] 165 (.str ⟨#[108, 97, 119, 95, 105, 110, 48, 48, 48, 54, 95, 48, 49]⟩ 574), e0 P [95, 95, 100, 111, 99, 95, 95] 166 .none, e0 P [95, 95, 112, 97, 99, 107, 97, 103, 101, 95, 95] 167 .none, e0 P [95, 95, 108, 111, 97, 100, 101, 114, 95, 95] 168 (.builtin "__main__.__loader__#opaque"), e0 P [95, 95, 115, 112, 101, 99, 95, 95] 169 .none, e0 P [95, 95, 97, 110, 110, 111, 116, 97, 116, 105, 111, 110, 115, 95, 95] 170 (.ref 6), e0 P [95, 95, 98, 117, 105, 108, 116, 105, 110, 115, 95, 95] 171 (.ref 4), e0 P [95, 95, 102, 105, 108, 101, 95, 95] 173 (.str ⟨#[47, 99, 108, 97, 105, 109, 47, 99, 117, 116, 46, 112, 121]⟩ 172), e0 P [95, 95, 99, 97, 99, 104, 101, 100, 95, 95] 174 .none, e0 P [100, 101, 102, 97, 117, 108, 116, 100, 105, 99, 116] 272 (.type "collections.defaultdict"), e0 P [95, 119, 97, 108, 108] 285 (.ref 39), e0 P [97, 100, 100, 95, 102, 117, 110, 99, 95, 115, 116, 97, 116, 115] 306 (.ref 46), e0 P [97, 100, 100, 95, 99, 97, 108, 108, 101, 114, 115] 318 (.ref 53), e0 P [95, 116, 117, 112, 108, 101, 103, 101, 116, 116, 101, 114] 377 (.ref 92), e0 P [70, 114, 101, 101, 122, 97, 98, 108, 101, 68, 101, 102, 97, 117, 108, 116, 68, 105, 99, 116] 420 (.ref 122), e0 P [80, 97, 105, 114] 535 (.ref 217), e0 P [95, 108, 97, 119, 95, 110, 111, 116, 104, 105, 110, 103] 581 (.ref 227), e0 P [95, 108, 97, 119, 95, 114, 101, 99, 111, 114, 100] 593 (.ref 234), e0 P [95, 108, 97, 119, 95, 98, 111, 111, 107] 599 (.ref 239), e0 P [95, 108, 97, 119, 95, 114, 111, 119, 115] 605 (.ref 244), e0 P [95, 108, 97, 119, 95, 116, 111, 108, 100] 611 (.ref 249), e0 P [108, 97, 119] 617 (.ref 254)] 22, slots := #[] }
noncomputable def o4 (P : Params) : Obj := { cls := (.type "module"), dict := (some 0), data := .plain, slots := #[] }
noncomputable def o45 (P : Params) : Obj := { cls := (.type "code"), dict := none, data := .fields #[(.str ⟨#[97, 100, 100, 95, 102, 117, 110, 99, 95, 115, 116, 97, 116, 115]⟩ 288), (.str ⟨#[97, 100, 100, 95, 102, 117, 110, 99, 95, 115, 116, 97, 116, 115]⟩ 289), (.str ⟨#[47, 99, 108, 97, 105, 109, 47, 99, 117, 116, 46, 112, 121]⟩ 290), (.int (6) 0), (.int (2) 0), (.int (0) 0), (.int (0) 0), (.int (3) 0), (.ref 40), (.bool true), (.int (273) 0), (.ref 41), .none, (.ref 42), (.ref 43), (.ref 44), (.int (303) 0), (.int (6) 0), (.str ⟨#[47, 99, 108, 97, 105, 109, 47, 99, 117, 116, 46, 112, 121]⟩ 304)], slots := #[] }
noncomputable def o46 (P : Params) : Obj := { cls := (.type "function"), dict := none, data := .func (fdOf (topDef ⟨#[97, 100, 100, 95, 102, 117, 110, 99, 95, 115, 116, 97, 116, 115]⟩) ⟨#[97, 100, 100, 95, 102, 117, 110, 99, 95, 115, 116, 97, 116, 115]⟩ ⟨#[97, 100, 100, 95, 102, 117, 110, 99, 95, 115, 116, 97, 116, 115]⟩ [] .none (.str ⟨#[65, 100, 100, 32, 116, 111, 103, 101, 116, 104, 101, 114, 32, 97, 108, 108, 32, 116, 104, 101, 32, 115, 116, 97, 116, 115, 32, 102, 111, 114, 32, 116, 119, 111, 32, 112, 114, 111, 102, 105, 108, 101, 32, 101, 110, 116, 114, 105, 101, 115, 46]⟩ 305) (.str ⟨#[99, 112, 121, 51, 49, 51, 46, 112, 115, 116, 97, 116, 115]⟩ 286) (.ref 45) .none none), slots := #[] }
noncomputable def o52 (P : Params) : Obj := { cls := (.type "code"), dict := none, data := .fields #[(.str ⟨#[97, 100, 100, 95, 99, 97, 108, 108, 101, 114, 115]⟩ 307), (.str ⟨#[97, 100, 100, 95, 99, 97, 108, 108, 101, 114, 115]⟩ 308), (.str ⟨#[47, 99, 108, 97, 105, 109, 47, 99, 117, 116, 46, 112, 121]⟩ 309), (.int (11) 0), (.int (2) 0), (.int (0) 0), (.int (0) 0), (.int (3) 0), (.ref 47), (.bool true), (.int (273) 0), (.ref 48), .none, (.ref 49), (.ref 50), (.ref 51), (.int (315) 0), (.int (11) 0), (.str ⟨#[47, 99, 108, 97, 105, 109, 47, 99, 117, 116, 46, 112, 121]⟩ 316)], slots := #[] }
noncomputable def o53 (P : Params) : Obj := { cls := (.type "function"), dict := none, data := .func (fdOf (topDef ⟨#[97, 100, 100, 95, 99, 97, 108, 108, 101, 114, 115]⟩) ⟨#[97, 100, 100, 95, 99, 97, 108, 108, 101, 114, 115]⟩ ⟨#[97, 100, 100, 95, 99, 97, 108, 108, 101, 114, 115]⟩ [] .none (.str ⟨#[67, 111, 109, 98, 105, 110, 101, 32, 116, 119, 111, 32, 99, 97, 108, 108, 101, 114, 32, 108, 105, 115, 116, 115, 32, 105, 110, 32, 97, 32, 115, 105, 110, 103, 108, 101, 32, 108, 105, 115, 116, 46]⟩ 317) (.str ⟨#[99, 112, 121, 51, 49, 51, 46, 112, 115, 116, 97, 116, 115]⟩ 286) (.ref 52) .none none), slots := #[] }
noncomputable def o68 (P : Params) : Obj := { cls := (.type "tuple"), dict := none, data := .seq #[.none] 0, slots := #[] }
noncomputable def o74 (P : Params) : Obj := { cls := (.type "code"), dict := none, data := .fields #[(.str ⟨#[95, 95, 103, 101, 116, 95, 95]⟩ 342), (.str ⟨#[95, 116, 117, 112, 108, 101, 103, 101, 116, 116, 101, 114, 46, 95, 95, 103, 101, 116, 95, 95]⟩ 343), (.str ⟨#[47, 99, 108, 97, 105, 109, 47, 99, 117, 116, 46, 112, 121]⟩ 344), (.int (32) 0), (.int (3) 0), (.int (0) 0), (.int (0) 0), (.int (3) 0), (.ref 69), (.bool true), (.int (273) 0), (.ref 70), .none, (.ref 71), (.ref 72), (.ref 73), (.int (348) 0), (.int (32) 0), (.str ⟨#[47, 99, 108, 97, 105, 109, 47, 99, 117, 116, 46, 112, 121]⟩ 349)], slots := #[] }
noncomputable def o75 (P : Params) : Obj := { cls := (.type "function"), dict := none, data := .func (fdOf (inClass ⟨#[95, 116, 117, 112, 108, 101, 103, 101, 116, 116, 101, 114]⟩ ⟨#[95, 95, 103, 101, 116, 95, 95]⟩) ⟨#[95, 95, 103, 101, 116, 95, 95]⟩ ⟨#[95, 116, 117, 112, 108, 101, 103, 101, 116, 116, 101, 114, 46, 95, 95, 103, 101, 116, 95, 95]⟩ [] (.ref 68) .none (.str ⟨#[99, 112, 121, 51, 49, 51, 46, 105, 109, 112, 111, 114, 116, 108, 105, 98, 46, 109, 101, 116, 97, 100, 97, 116, 97, 46, 95, 99, 111, 108, 108, 101, 99, 116, 105, 111, 110, 115]⟩ 319) (.ref 74) .none none), slots := #[] }
noncomputable def o91 (P : Params) : Obj := { cls := (.type "dict"), dict := none, data := .dict #[e0 P [95, 95, 109, 111, 100, 117, 108, 101, 95, 95] 328 (.str ⟨#[99, 112, 121, 51, 49, 51, 46, 105, 109, 112, 111, 114, 116, 108, 105, 98, 46, 109, 101, 116, 97, 100, 97, 116, 97, 46, 95, 99, 111, 108, 108, 101, 99, 116, 105, 111, 110, 115]⟩ 319), e0 P [95, 95, 102, 105, 114, 115, 116, 108, 105, 110, 101, 110, 111, 95, 95] 332 (.int (26) 331), e0 P [95, 95, 105, 110, 105, 116, 95, 95] 341 (.ref 67), e0 P [95, 95, 103, 101, 116, 95, 95] 350 (.ref 75), e0 P [95, 95, 115, 101, 116, 95, 95] 359 (.ref 82), e0 P [95, 95, 100, 101, 108, 101, 116, 101, 95, 95] 367 (.ref 89), e0 P [95, 95, 115, 116, 97, 116, 105, 99, 95, 97, 116, 116, 114, 105, 98, 117, 116, 101, 115, 95, 95] 370 (.ref 90), e0 P [95, 95, 100, 105, 99, 116, 95, 95] 372 (.ref 93), e0 P [95, 95, 119, 101, 97, 107, 114, 101, 102, 95, 95] 374 (.ref 94), e0 P [95, 95, 100, 111, 99, 95, 95] 375 .none] 4, slots := #[] }
noncomputable def o92 (P : Params) : Obj := { cls := (.type "type"), dict := none, data := .cls { name := ⟨#[95, 116, 117, 112, 108, 101, 103, 101, 116, 116, 101, 114]⟩, bases := [(.type "object")], mro := [(.ref 92), (.type "object")], ns := 91, qualname := ⟨#[95, 116, 117, 112, 108, 101, 103, 101, 116, 116, 101, 114]⟩, hasDict := true, slotNames := [], subclasses := [], abstract := false, collection := none, hasDel := false }, slots := #[none, none, some (.str ⟨#[95, 116, 117, 112, 108, 101, 103, 101, 116, 116, 101, 114]⟩ 321), some (.str ⟨#[95, 116, 117, 112, 108, 101, 103, 101, 116, 116, 101, 114]⟩ 329), some (.builtin "object.__new__"), some (.bool true)] }
noncomputable def o100 (P : Params) : Obj := { cls := (.type "cell"), dict := none, data := .cell (some (.ref 122)), slots := #[] }
noncomputable def o111 (P : Params) : Obj := { cls := (.type "code"), dict := none, data := .fields #[(.str ⟨#[95, 95, 109, 105, 115, 115, 105, 110, 103, 95, 95]⟩ 393), (.str ⟨#[70, 114, 101, 101, 122, 97, 98, 108, 101, 68, 101, 102, 97, 117, 108, 116, 68, 105, 99, 116, 46, 95, 95, 109, 105, 115, 115, 105, 110, 103, 95, 95]⟩ 394), (.str ⟨#[47, 99, 108, 97, 105, 109, 47, 99, 117, 116, 46, 112, 121]⟩ 395), (.int (59) 0), (.int (2) 0), (.int (0) 0), (.int (0) 0), (.int (3) 0), (.ref 106), (.bool true), (.int (273) 0), (.ref 107), .none, (.ref 108), (.ref 109), (.ref 110), (.int (399) 0), (.int (59) 0), (.str ⟨#[47, 99, 108, 97, 105, 109, 47, 99, 117, 116, 46, 112, 121]⟩ 400)], slots := #[] }
noncomputable def o112 (P : Params) : Obj := { cls := (.type "function"), dict := none, data := .func (fdOf (inClass ⟨#[70, 114, 101, 101, 122, 97, 98, 108, 101, 68, 101, 102, 97, 117, 108, 116, 68, 105, 99, 116]⟩ ⟨#[95, 95, 109, 105, 115, 115, 105, 110, 103, 95, 95]⟩) ⟨#[95, 95, 109, 105, 115, 115, 105, 110, 103, 95, 95]⟩ ⟨#[70, 114, 101, 101, 122, 97, 98, 108, 101, 68, 101, 102, 97, 117, 108, 116, 68, 105, 99, 116, 46, 95, 95, 109, 105, 115, 115, 105, 110, 103, 95, 95]⟩ [(⟨#[95, 95, 99, 108, 97, 115, 115, 95, 95]⟩, 100)] .none .none (.str ⟨#[99, 112, 121, 51, 49, 51, 46, 105, 109, 112, 111, 114, 116, 108, 105, 98, 46, 109, 101, 116, 97, 100, 97, 116, 97, 46, 95, 99, 111, 108, 108, 101, 99, 116, 105, 111, 110, 115]⟩ 319) (.ref 111) (.ref 105) none), slots := #[] }
noncomputable def o118 (P : Params) : Obj := { cls := (.type "code"), dict := none, data := .fields #[(.str ⟨#[102, 114, 101, 101, 122, 101]⟩ 402), (.str ⟨#[70, 114, 101, 101, 122, 97, 98, 108, 101, 68, 101, 102, 97, 117, 108, 116, 68, 105, 99, 116, 46, 102, 114, 101, 101, 122, 101]⟩ 403), (.str ⟨#[47, 99, 108, 97, 105, 109, 47, 99, 117, 116, 46, 112, 121]⟩ 404), (.int (62) 0), (.int (1) 0), (.int (0) 0), (.int (0) 0), (.int (3) 0), (.ref 113), (.bool true), (.int (273) 0), (.ref 114), .none, (.ref 115), (.ref 116), (.ref 117), (.int (407) 0), (.int (62) 0), (.str ⟨#[47, 99, 108, 97, 105, 109, 47, 99, 117, 116, 46, 112, 121]⟩ 408)], slots := #[] }
noncomputable def o119 (P : Params) : Obj := { cls := (.type "function"), dict := none, data := .func (fdOf (inClass ⟨#[70, 114, 101, 101, 122, 97, 98, 108, 101, 68, 101, 102, 97, 117, 108, 116, 68, 105, 99, 116]⟩ ⟨#[102, 114, 101, 101, 122, 101]⟩) ⟨#[102, 114, 101, 101, 122, 101]⟩ ⟨#[70, 114, 101, 101, 122, 97, 98, 108, 101, 68, 101, 102, 97, 117, 108, 116, 68, 105, 99, 116, 46, 102, 114, 101, 101, 122, 101]⟩ [] .none .none (.str ⟨#[99, 112, 121, 51, 49, 51, 46, 105, 109, 112, 111, 114, 116, 108, 105, 98, 46, 109, 101, 116, 97, 100, 97, 116, 97, 46, 95, 99, 111, 108, 108, 101, 99, 116, 105, 111, 110, 115]⟩ 319) (.ref 118) .none none), slots := #[] }
noncomputable def o121 (P : Params) : Obj := { cls := (.type "dict"), dict := none, data := .dict #[e0 P [95, 95, 109, 111, 100, 117, 108, 101, 95, 95] 385 (.str ⟨#[99, 112, 121, 51, 49, 51, 46, 105, 109, 112, 111, 114, 116, 108, 105, 98, 46, 109, 101, 116, 97, 100, 97, 116, 97, 46, 95, 99, 111, 108, 108, 101, 99, 116, 105, 111, 110, 115]⟩ 319), e0 P [95, 95, 102, 105, 114, 115, 116, 108, 105, 110, 101, 110, 111, 95, 95] 389 (.int (44) 388), e0 P [95, 95, 100, 111, 99, 95, 95] 391 (.str ⟨#[10, 79, 102, 116, 101, 110, 32, 105, 116, 32, 105, 115, 32, 100, 101, 115, 105, 114, 97, 98, 108, 101, 32, 116, 111, 32, 112, 114, 101, 118, 101, 110, 116, 32, 116, 104, 101, 32, 109, 117, 116, 97, 116, 105, 111, 110, 32, 111, 102, 10, 97, 32, 100, 101, 102, 97, 117, 108, 116, 32, 100, 105, 99, 116, 32, 97, 102, 116, 101, 114, 32, 105, 116, 115, 32, 105, 110, 105, 116, 105, 97, 108, 32, 99, 111, 110, 115, 116, 114, 117, 99, 116, 105, 111, 110, 44, 32, 115, 117, 99, 104, 10, 97, 115, 32, 116, 111, 32, 112, 114, 101, 118, 101, 110, 116, 32, 109, 117, 116, 97, 116, 105, 111, 110, 32, 100, 117, 114, 105, 110, 103, 32, 105, 116, 101, 114, 97, 116, 105, 111, 110, 46, 10, 10, 62, 62, 62, 32, 100, 100, 32, 61, 32, 70, 114, 101, 101, 122, 97, 98, 108, 101, 68, 101, 102, 97, 117, 108, 116, 68, 105, 99, 116, 40, 108, 105, 115, 116, 41, 10, 62, 62, 62, 32, 100, 100, 91, 48, 93, 46, 97, 112, 112, 101, 110, 100, 40, 39, 49, 39, 41, 10, 62, 62, 62, 32, 100, 100, 46, 102, 114, 101, 101, 122, 101, 40, 41, 10, 62, 62, 62, 32, 100, 100, 91, 49, 93, 10, 91, 93, 10, 62, 62, 62, 32, 108, 101, 110, 40, 100, 100, 41, 10, 49, 10]⟩ 390), e0 P [95, 95, 109, 105, 115, 115, 105, 110, 103, 95, 95] 401 (.ref 112), e0 P [102, 114, 101, 101, 122, 101] 409 (.ref 119), e0 P [95, 95, 115, 116, 97, 116, 105, 99, 95, 97, 116, 116, 114, 105, 98, 117, 116, 101, 115, 95, 95] 411 (.ref 120), e0 P [95, 95, 100, 105, 99, 116, 95, 95] 414 (.ref 123), e0 P [95, 95, 119, 101, 97, 107, 114, 101, 102, 95, 95] 416 (.ref 124)] 4, slots := #[] }
noncomputable def o122 (P : Params) : Obj := { cls := (.type "type"), dict := none, data := .cls { name := ⟨#[70, 114, 101, 101, 122, 97, 98, 108, 101, 68, 101, 102, 97, 117, 108, 116, 68, 105, 99, 116]⟩, bases := [(.type "collections.defaultdict")], mro := [(.ref 122), (.type "collections.defaultdict"), (.type "dict"), (.type "object")], ns := 121, qualname := ⟨#[70, 114, 101, 101, 122, 97, 98, 108, 101, 68, 101, 102, 97, 117, 108, 116, 68, 105, 99, 116]⟩, hasDict := true, slotNames := [⟨#[]⟩], subclasses := [], abstract := false, collection := none, hasDel := false }, slots := #[some (.ref 97), none, some (.str ⟨#[70, 114, 101, 101, 122, 97, 98, 108, 101, 68, 101, 102, 97, 117, 108, 116, 68, 105, 99, 116]⟩ 378), some (.str ⟨#[70, 114, 101, 101, 122, 97, 98, 108, 101, 68, 101, 102, 97, 117, 108, 116, 68, 105, 99, 116]⟩ 386), some (.builtin "dict.__new__"), some (.bool true)] }
noncomputable def o143 (P : Params) : Obj := { cls := (.type "code"), dict := none, data := .fields #[(.str ⟨#[95, 95, 110, 101, 119, 95, 95]⟩ 441), (.str ⟨#[80, 97, 105, 114, 46, 95, 95, 110, 101, 119, 95, 95]⟩ 442), (.str ⟨#[47, 99, 108, 97, 105, 109, 47, 99, 117, 116, 46, 112, 121]⟩ 443), (.int (70) 0), (.int (3) 0), (.int (0) 0), (.int (0) 0), (.int (3) 0), (.ref 138), (.bool true), (.int (273) 0), (.ref 139), .none, (.ref 140), (.ref 141), (.ref 142), (.int (447) 0), (.int (70) 0), (.str ⟨#[47, 99, 108, 97, 105, 109, 47, 99, 117, 116, 46, 112, 121]⟩ 448)], slots := #[] }
noncomputable def o144 (P : Params) : Obj := { cls := (.type "function"), dict := none, data := .func (fdOf (inClass ⟨#[80, 97, 105, 114]⟩ ⟨#[95, 95, 110, 101, 119, 95, 95]⟩) ⟨#[95, 95, 110, 101, 119, 95, 95]⟩ ⟨#[80, 97, 105, 114, 46, 95, 95, 110, 101, 119, 95, 95]⟩ [] .none (.str ⟨#[67, 114, 101, 97, 116, 101, 32, 110, 101, 119, 32, 105, 110, 115, 116, 97, 110, 99, 101, 32, 111, 102, 32, 80, 97, 105, 114, 40, 110, 97, 109, 101, 44, 32, 118, 97, 108, 117, 101, 41]⟩ 449) (.str ⟨#[99, 112, 121, 51, 49, 51, 46, 105, 109, 112, 111, 114, 116, 108, 105, 98, 46, 109, 101, 116, 97, 100, 97, 116, 97, 46, 95, 99, 111, 108, 108, 101, 99, 116, 105, 111, 110, 115]⟩ 319) (.ref 143) .none none), slots := #[] }
noncomputable def o185 (P : Params) : Obj := { cls := (.type "dict"), dict := none, data := .dict #[e0 P [105, 110, 100, 101, 120] 517 (.int (0) 511), e0 P [95, 95, 100, 111, 99, 95, 95] 519 (.str ⟨#[65, 108, 105, 97, 115, 32, 102, 111, 114, 32, 102, 105, 101, 108, 100, 32, 110, 117, 109, 98, 101, 114, 32, 48]⟩ 512)] 2, slots := #[] }
noncomputable def o186 (P : Params) : Obj := { cls := (.ref 92), dict := (some 185), data := .plain, slots := #[] }
noncomputable def o188 (P : Params) : Obj := { cls := (.type "dict"), dict := none, data := .dict #[e0 P [105, 110, 100, 101, 120] 527 (.int (1) 521), e0 P [95, 95, 100, 111, 99, 95, 95] 529 (.str ⟨#[65, 108, 105, 97, 115, 32, 102, 111, 114, 32, 102, 105, 101, 108, 100, 32, 110, 117, 109, 98, 101, 114, 32, 49]⟩ 522)] 2, slots := #[] }
noncomputable def o189 (P : Params) : Obj := { cls := (.ref 92), dict := (some 188), data := .plain, slots := #[] }
noncomputable def o193 (P : Params) : Obj := { cls := (.type "dict"), dict := none, data := .dict #[e0 P [95, 95, 109, 111, 100, 117, 108, 101, 95, 95] 428 (.str ⟨#[99, 112, 121, 51, 49, 51, 46, 105, 109, 112, 111, 114, 116, 108, 105, 98, 46, 109, 101, 116, 97, 100, 97, 116, 97, 46, 95, 99, 111, 108, 108, 101, 99, 116, 105, 111, 110, 115]⟩ 319), e0 P [95, 95, 102, 105, 114, 115, 116, 108, 105, 110, 101, 110, 111, 95, 95] 432 (.int (64) 431), e0 P [95, 95, 100, 111, 99, 95, 95] 434 (.str ⟨#[80, 97, 105, 114, 40, 110, 97, 109, 101, 44, 32, 118, 97, 108, 117, 101, 41]⟩ 433), e0 P [95, 95, 115, 108, 111, 116, 115, 95, 95] 436 (.ref 135), e0 P [95, 102, 105, 101, 108, 100, 115] 439 (.ref 136), e0 P [95, 102, 105, 101, 108, 100, 95, 100, 101, 102, 97, 117, 108, 116, 115] 440 (.ref 137), e0 P [95, 95, 110, 101, 119, 95, 95] 450 (.ref 195), e0 P [95, 109, 97, 107, 101] 472 (.ref 153), e0 P [95, 114, 101, 112, 108, 97, 99, 101] 483 (.ref 162), e0 P [95, 95, 114, 101, 112, 108, 97, 99, 101, 95, 95] 484 (.ref 162), e0 P [95, 95, 114, 101, 112, 114, 95, 95] 492 (.ref 169), e0 P [95, 97, 115, 100, 105, 99, 116] 499 (.ref 176), e0 P [95, 95, 103, 101, 116, 110, 101, 119, 97, 114, 103, 115, 95, 95] 507 (.ref 183), e0 P [95, 95, 109, 97, 116, 99, 104, 95, 97, 114, 103, 115, 95, 95] 510 (.ref 184), e0 P [110, 97, 109, 101] 520 (.ref 186), e0 P [118, 97, 108, 117, 101] 530 (.ref 189), e0 P [95, 95, 115, 116, 97, 116, 105, 99, 95, 97, 116, 116, 114, 105, 98, 117, 116, 101, 115, 95, 95] 531 (.ref 191)] 2, slots := #[] }
noncomputable def o194 (P : Params) : Obj := { cls := (.type "type"), dict := none, data := .cls { name := ⟨#[80, 97, 105, 114]⟩, bases := [(.type "tuple")], mro := [(.ref 194), (.type "tuple"), (.type "object")], ns := 193, qualname := ⟨#[80, 97, 105, 114]⟩, hasDict := false, slotNames := [], subclasses := [(.ref 217)], abstract := false, collection := none, hasDel := false }, slots := #[some (.ref 127), none, some (.str ⟨#[80, 97, 105, 114]⟩ 421), some (.str ⟨#[80, 97, 105, 114]⟩ 429), some .none, some (.bool false)] }
noncomputable def o195 (P : Params) : Obj := { cls := (.type "staticmethod"), dict := none, data := .fields #[(.ref 144)], slots := #[] }
noncomputable def o210 (P : Params) : Obj := { cls := (.type "code"), dict := none, data := .fields #[(.str ⟨#[112, 97, 114, 115, 101]⟩ 548), (.str ⟨#[80, 97, 105, 114, 46, 112, 97, 114, 115, 101]⟩ 549), (.str ⟨#[47, 99, 108, 97, 105, 109, 47, 99, 117, 116, 46, 112, 121]⟩ 550), (.int (108) 0), (.int (2) 0), (.int (0) 0), (.int (0) 0), (.int (3) 0), (.ref 205), (.bool true), (.int (273) 0), (.ref 206), .none, (.ref 207), (.ref 208), (.ref 209), (.int (553) 0), (.int (108) 0), (.str ⟨#[47, 99, 108, 97, 105, 109, 47, 99, 117, 116, 46, 112, 121]⟩ 554)], slots := #[] }
noncomputable def o211 (P : Params) : Obj := { cls := (.type "function"), dict := none, data := .func (fdOf (inClass ⟨#[80, 97, 105, 114]⟩ ⟨#[112, 97, 114, 115, 101]⟩) ⟨#[112, 97, 114, 115, 101]⟩ ⟨#[80, 97, 105, 114, 46, 112, 97, 114, 115, 101]⟩ [] .none .none (.str ⟨#[99, 112, 121, 51, 49, 51, 46, 105, 109, 112, 111, 114, 116, 108, 105, 98, 46, 109, 101, 116, 97, 100, 97, 116, 97, 46, 95, 99, 111, 108, 108, 101, 99, 116, 105, 111, 110, 115]⟩ 319) (.ref 210) .none (some 214)), slots := #[] }
noncomputable def o213 (P : Params) : Obj := { cls := (.type "classmethod"), dict := (some 212), data := .fields #[(.ref 211), (.bool false)], slots := #[] }
noncomputable def o216 (P : Params) : Obj := { cls := (.type "dict"), dict := none, data := .dict #[e0 P [95, 95, 109, 111, 100, 117, 108, 101, 95, 95] 543 (.str ⟨#[99, 112, 121, 51, 49, 51, 46, 105, 109, 112, 111, 114, 116, 108, 105, 98, 46, 109, 101, 116, 97, 100, 97, 116, 97, 46, 95, 99, 111, 108, 108, 101, 99, 116, 105, 111, 110, 115]⟩ 319), e0 P [95, 95, 102, 105, 114, 115, 116, 108, 105, 110, 101, 110, 111, 95, 95] 547 (.int (106) 546), e0 P [112, 97, 114, 115, 101] 567 (.ref 213), e0 P [95, 95, 115, 116, 97, 116, 105, 99, 95, 97, 116, 116, 114, 105, 98, 117, 116, 101, 115, 95, 95] 568 (.ref 215), e0 P [95, 95, 100, 105, 99, 116, 95, 95] 570 (.ref 218), e0 P [95, 95, 100, 111, 99, 95, 95] 571 .none] 3, slots := #[] }
noncomputable def o217 (P : Params) : Obj := { cls := (.type "type"), dict := none, data := .cls { name := ⟨#[80, 97, 105, 114]⟩, bases := [(.ref 194)], mro := [(.ref 217), (.ref 194), (.type "tuple"), (.type "object")], ns := 216, qualname := ⟨#[80, 97, 105, 114]⟩, hasDict := true, slotNames := [], subclasses := [], abstract := false, collection := none, hasDel := false }, slots := #[some (.ref 198), none, some (.str ⟨#[80, 97, 105, 114]⟩ 536), some (.str ⟨#[80, 97, 105, 114]⟩ 544), some .none, some (.bool false)] }
noncomputable def o226 (P : Params) : Obj := { cls := (.type "code"), dict := none, data := .fields #[(.str ⟨#[95, 108, 97, 119, 95, 110, 111, 116, 104, 105, 110, 103]⟩ 576), (.str ⟨#[95, 108, 97, 119, 95, 110, 111, 116, 104, 105, 110, 103]⟩ 577), (.str ⟨#[47, 99, 108, 97, 105, 109, 47, 99, 117, 116, 46, 112, 121]⟩ 578), (.int (112) 0), (.int (0) 0), (.int (0) 0), (.int (0) 0), (.int (3) 0), (.ref 221), (.bool true), (.int (273) 0), (.ref 222), .none, (.ref 223), (.ref 224), (.ref 225), (.int (579) 0), (.int (112) 0), (.str ⟨#[47, 99, 108, 97, 105, 109, 47, 99, 117, 116, 46, 112, 121]⟩ 580)], slots := #[] }
noncomputable def o227 (P : Params) : Obj := { cls := (.type "function"), dict := none, data := .func (fdOf (topDef ⟨#[95, 108, 97, 119, 95, 110, 111, 116, 104, 105, 110, 103]⟩) ⟨#[95, 108, 97, 119, 95, 110, 111, 116, 104, 105, 110, 103]⟩ ⟨#[95, 108, 97, 119, 95, 110, 111, 116, 104, 105, 110, 103]⟩ [] .none .none (.str ⟨#[108, 97, 119, 95, 105, 110, 48, 48, 48, 54, 95, 48, 49]⟩ 574) (.ref 226) .none none), slots := #[] }
noncomputable def o233 (P : Params) : Obj := { cls := (.type "code"), dict := none, data := .fields #[(.str ⟨#[95, 108, 97, 119, 95, 114, 101, 99, 111, 114, 100]⟩ 582), (.str ⟨#[95, 108, 97, 119, 95, 114, 101, 99, 111, 114, 100]⟩ 583), (.str ⟨#[47, 99, 108, 97, 105, 109, 47, 99, 117, 116, 46, 112, 121]⟩ 584), (.int (114) 0), (.int (2) 0), (.int (0) 0), (.int (0) 0), (.int (3) 0), (.ref 228), (.bool true), (.int (273) 0), (.ref 229), .none, (.ref 230), (.ref 231), (.ref 232), (.int (591) 0), (.int (114) 0), (.str ⟨#[47, 99, 108, 97, 105, 109, 47, 99, 117, 116, 46, 112, 121]⟩ 592)], slots := #[] }
noncomputable def o234 (P : Params) : Obj := { cls := (.type "function"), dict := none, data := .func (fdOf (topDef ⟨#[95, 108, 97, 119, 95, 114, 101, 99, 111, 114, 100]⟩) ⟨#[95, 108, 97, 119, 95, 114, 101, 99, 111, 114, 100]⟩ ⟨#[95, 108, 97, 119, 95, 114, 101, 99, 111, 114, 100]⟩ [] .none .none (.str ⟨#[108, 97, 119, 95, 105, 110, 48, 48, 48, 54, 95, 48, 49]⟩ 574) (.ref 233) .none none), slots := #[] }
noncomputable def o238 (P : Params) : Obj := { cls := (.type "code"), dict := none, data := .fields #[(.str ⟨#[95, 108, 97, 119, 95, 98, 111, 111, 107]⟩ 594), (.str ⟨#[95, 108, 97, 119, 95, 98, 111, 111, 107]⟩ 595), (.str ⟨#[47, 99, 108, 97, 105, 109, 47, 99, 117, 116, 46, 112, 121]⟩ 596), (.int (122) 0), (.int (1) 0), (.int (0) 0), (.int (0) 0), (.int (3) 0), (.ref 235), (.bool true), (.int (273) 0), (.ref 236), .none, .none, .none, (.ref 237), (.int (597) 0), (.int (122) 0), (.str ⟨#[47, 99, 108, 97, 105, 109, 47, 99, 117, 116, 46, 112, 121]⟩ 598)], slots := #[] }
noncomputable def o239 (P : Params) : Obj := { cls := (.type "function"), dict := none, data := .func (fdOf (topDef ⟨#[95, 108, 97, 119, 95, 98, 111, 111, 107]⟩) ⟨#[95, 108, 97, 119, 95, 98, 111, 111, 107]⟩ ⟨#[95, 108, 97, 119, 95, 98, 111, 111, 107]⟩ [] .none .none (.str ⟨#[108, 97, 119, 95, 105, 110, 48, 48, 48, 54, 95, 48, 49]⟩ 574) (.ref 238) .none none), slots := #[] }
noncomputable def o243 (P : Params) : Obj := { cls := (.type "code"), dict := none, data := .fields #[(.str ⟨#[95, 108, 97, 119, 95, 114, 111, 119, 115]⟩ 600), (.str ⟨#[95, 108, 97, 119, 95, 114, 111, 119, 115]⟩ 601), (.str ⟨#[47, 99, 108, 97, 105, 109, 47, 99, 117, 116, 46, 112, 121]⟩ 602), (.int (134) 0), (.int (1) 0), (.int (0) 0), (.int (0) 0), (.int (3) 0), (.ref 240), (.bool true), (.int (273) 0), (.ref 241), .none, .none, .none, (.ref 242), (.int (603) 0), (.int (134) 0), (.str ⟨#[47, 99, 108, 97, 105, 109, 47, 99, 117, 116, 46, 112, 121]⟩ 604)], slots := #[] }
noncomputable def o244 (P : Params) : Obj := { cls := (.type "function"), dict := none, data := .func (fdOf (topDef ⟨#[95, 108, 97, 119, 95, 114, 111, 119, 115]⟩) ⟨#[95, 108, 97, 119, 95, 114, 111, 119, 115]⟩ ⟨#[95, 108, 97, 119, 95, 114, 111, 119, 115]⟩ [] .none .none (.str ⟨#[108, 97, 119, 95, 105, 110, 48, 48, 48, 54, 95, 48, 49]⟩ 574) (.ref 243) .none none), slots := #[] }
noncomputable def o248 (P : Params) : Obj := { cls := (.type "code"), dict := none, data := .fields #[(.str ⟨#[95, 108, 97, 119, 95, 116, 111, 108, 100]⟩ 606), (.str ⟨#[95, 108, 97, 119, 95, 116, 111, 108, 100]⟩ 607), (.str ⟨#[47, 99, 108, 97, 105, 109, 47, 99, 117, 116, 46, 112, 121]⟩ 608), (.int (140) 0), (.int (1) 0), (.int (0) 0), (.int (0) 0), (.int (3) 0), (.ref 245), (.bool true), (.int (273) 0), (.ref 246), .none, .none, .none, (.ref 247), (.int (609) 0), (.int (140) 0), (.str ⟨#[47, 99, 108, 97, 105, 109, 47, 99, 117, 116, 46, 112, 121]⟩ 610)], slots := #[] }
noncomputable def o249 (P : Params) : Obj := { cls := (.type "function"), dict := none, data := .func (fdOf (topDef ⟨#[95, 108, 97, 119, 95, 116, 111, 108, 100]⟩) ⟨#[95, 108, 97, 119, 95, 116, 111, 108, 100]⟩ ⟨#[95, 108, 97, 119, 95, 116, 111, 108, 100]⟩ [] .none .none (.str ⟨#[108, 97, 119, 95, 105, 110, 48, 48, 48, 54, 95, 48, 49]⟩ 574) (.ref 248) .none none), slots := #[] }
noncomputable def o253 (P : Params) : Obj := { cls := (.type "code"), dict := none, data := .fields #[(.str ⟨#[108, 97, 119]⟩ 612), (.str ⟨#[108, 97, 119]⟩ 613), (.str ⟨#[47, 99, 108, 97, 105, 109, 47, 99, 117, 116, 46, 112, 121]⟩ 614), (.int (160) 0), (.int (1) 0), (.int (0) 0), (.int (0) 0), (.int (3) 0), (.ref 250), (.bool true), (.int (273) 0), (.ref 251), .none, .none, .none, (.ref 252), (.int (615) 0), (.int (160) 0), (.str ⟨#[47, 99, 108, 97, 105, 109, 47, 99, 117, 116, 46, 112, 121]⟩ 616)], slots := #[] }
noncomputable def o254 (P : Params) : Obj := { cls := (.type "function"), dict := none, data := .func (fdOf (topDef ⟨#[108, 97, 119]⟩) ⟨#[108, 97, 119]⟩ ⟨#[108, 97, 119]⟩ [] .none .none (.str ⟨#[108, 97, 119, 95, 105, 110, 48, 48, 48, 54, 95, 48, 49]⟩ 574) (.ref 253) .none none), slots := #[] }
noncomputable def myK (P : Params) : Frag := [(0, o0 P), (2, o2 P), (3, o3 P), (4, o4 P), (45, o45 P), (46, o46 P), (52, o52 P), (53, o53 P), (68, o68 P), (74, o74 P), (75, o75 P), (91, o91 P), (92, o92 P), (100, o100 P), (111, o111 P), (112, o112 P), (118, o118 P), (119, o119 P), (121, o121 P), (122, o122 P), (143, o143 P), (144, o144 P), (185, o185 P), (186, o186 P), (188, o188 P), (189, o189 P), (193, o193 P), (194, o194 P), (195, o195 P), (210, o210 P), (211, o211 P), (213, o213 P), (216, o216 P), (217, o217 P), (226, o226 P), (227, o227 P), (233, o233 P), (234, o234 P), (238, o238 P), (239, o239 P), (243, o243 P), (244, o244 P), (248, o248 P), (249, o249 P), (253, o253 P), (254, o254 P)]
noncomputable def myAs : List Addr := [0, 2, 3, 4, 45, 46, 52, 53, 68, 74, 75, 91, 92, 100, 111, 112, 118, 119, 121, 122, 143, 144, 185, 186, 188, 189, 193, 194, 195, 210, 211, 213, 216, 217, 226, 227, 233, 234, 238, 239, 243, 244, 248, 249, 253, 254]
noncomputable def ktop (P : Params) : KT := (.node (some (o0 P)) (.node none (.node (some (o3 P)) (.node none (.node none .nil (.node none (.node none (.node (some (o143 P)) .nil .nil) .nil) (.node (some (o111 P)) .nil (.node (some (o239 P)) .nil .nil)))) (.node none .nil (.node none .nil (.node (some (o119 P)) .nil .nil)))) (.node none (.node none (.node none (.node none .nil (.node (some (o195 P)) .nil .nil)) (.node none .nil (.node (some (o227 P)) .nil .nil))) (.node none (.node none .nil (.node (some (o211 P)) .nil .nil)) (.node none .nil (.node (some (o243 P)) .nil .nil)))) (.node none (.node none (.node (some (o75 P)) .nil .nil) .nil) (.node none (.node (some (o91 P)) .nil .nil) .nil)))) (.node none (.node none (.node none (.node none (.node none .nil (.node (some (o193 P)) .nil .nil)) .nil) .nil) (.node none (.node none .nil (.node none .nil (.node (some (o233 P)) .nil .nil))) (.node none (.node none .nil (.node (some (o217 P)) .nil .nil)) (.node (some (o121 P)) (.node (some (o185 P)) .nil .nil) (.node (some (o249 P)) .nil .nil))))) (.node none (.node none .nil (.node (some (o53 P)) (.node none .nil (.node (some (o213 P)) .nil .nil)) .nil)) (.node none (.node (some (o45 P)) .nil .nil) (.node none .nil (.node none (.node (some (o189 P)) .nil .nil) (.node (some (o253 P)) .nil .nil))))))) (.node (some (o2 P)) (.node (some (o4 P)) (.node none (.node none .nil (.node none (.node none (.node (some (o144 P)) .nil .nil) .nil) (.node (some (o112 P)) .nil .nil))) (.node none .nil (.node none (.node none .nil (.node (some (o216 P)) .nil .nil)) (.node none .nil (.node (some (o248 P)) .nil .nil))))) (.node none (.node none (.node none (.node (some (o68 P)) .nil .nil) (.node (some (o100 P)) .nil .nil)) (.node (some (o52 P)) .nil (.node none .nil (.node (some (o244 P)) .nil .nil)))) (.node none .nil (.node none (.node (some (o92 P)) .nil .nil) (.node none (.node (some (o188 P)) .nil .nil) .nil))))) (.node none (.node none (.node none (.node none (.node none .nil (.node (some (o194 P)) .nil .nil)) (.node none .nil (.node (some (o226 P)) .nil .nil))) (.node none (.node none .nil (.node (some (o210 P)) .nil .nil)) .nil)) (.node none (.node none (.node (some (o74 P)) .nil .nil) (.node none .nil (.node (some (o234 P)) .nil .nil))) (.node none .nil (.node (some (o122 P)) (.node (some (o186 P)) .nil .nil) .nil)))) (.node none (.node none .nil (.node none .nil (.node (some (o118 P)) .nil .nil))) (.node none (.node (some (o46 P)) .nil (.node none .nil (.node (some (o238 P)) .nil .nil))) (.node none .nil (.node none .nil (.node (some (o254 P)) .nil .nil))))))))
theorem kEq (P : Params) : myAs = (myK P).map (·.1) := rfl
end Mine
end
section
namespace Mine
open PySem PySem.W PySem.W.X
noncomputable abbrev den : Code -> Sem Fin := PySem.W.Fast.tw11892475500146522536 PySem.W.Fast.tw14364793385576792824
theorem den_eq : denote table = den := by
 show denote table = PySem.W.Fast.tw11892475500146522536 PySem.W.Fast.tw14364793385576792824
 rw [table_eq_tree, PySem.W.Fast.te11892475500146522536, PySem.W.Fast.te14364793385576792824]
noncomputable abbrev enterT : Sem Unit := PySem.W.Fast.tw15066281185411960212 0
noncomputable abbrev roomT (what : String) : Sem Unit := PySem.W.Fast.tw10648789137845014744 what
theorem enter_eq : enterFrame 0 = enterT := by
 show enterFrame 0 = PySem.W.Fast.tw15066281185411960212 0
 rw [PySem.W.Fast.te15066281185411960212]
theorem room_eq (what : String) : cRoom what = roomT what := by
 show cRoom what = PySem.W.Fast.tw10648789137845014744 what
 rw [PySem.W.Fast.te10648789137845014744]
structure FrY where
 k : Result -> Sem Fin
 hd : Option Value
 g : Bool
 l : List Value
 c : Code
inductive GY where
 | fresh (c : Code)
 | susp (k : Resume -> Sem Fin) (l : List Value) (c : Code) (fs : List FrY)
 | running
 | finished
noncomputable def GY.status : GY -> GenStatus
 | .fresh _ => .fresh
 | .susp .. => .suspended
 | .running => .running
 | .finished => .finished
inductive KY where
 | base
 | ret (c : Code) (hd : Option Value) (k : Result -> Sem Fin) (κ : KY)
 | gen (j : Nat) (c : Code) (k : GenResult -> Sem Fin) (κ : KY)
set_option genInjectivity true in
inductive Sg where
 | a (x : Addr)
 | t (x : Sem Fin)
 | n (x : Nat)
 | o (x : Option Obj)
 | c (x : Code)
 | h (x : Option Value)
noncomputable abbrev Ob := Sg × Sg
structure Unk where
 n : Nat -> Nat
 v : Nat -> Value
 s : Nat -> Str
 d : Nat -> Array DictEntry
 a : Nat -> Array Value
structure Ext where
 c : Code
 need : List (Nat × Nat × Obj)
 r : Unk -> Result
 sets : Unk -> List (Nat × Nat × Obj)
 news : Unk -> List (Nat × Obj)
 P : Unk -> Prop
 g : Unk -> Nat
structure YV where
 prog : Program
 w : World
 kt : KT
 A₀ : Around
 γ : Nat
 whats : List String
structure St where
 c : Code
 md : Option (List FrY)
 κ : KY
 t : Sem Fin
 T : BT
 m : Nat
 sg : Nat -> Nat
 nb : Nat
 nc : Nat
 tb : Nat
 tc : Nat
 gl : List GY
inductive Out where
 | fin (obs : List Ob) (st : St) (n : Nat)
 | ask (obs : List Ob) (P : Unk -> Prop) (f : Unk -> Out)
noncomputable def insK {α : Type} : BT -> Nat -> Obj -> (BT -> α) -> α
 | .nil, _, o, k => k (.node o .nil .nil)
 | .node v l r, i, o, k => match Nat.beq i 0 with
  | true => k (.node o l r)
  | false => match Nat.beq (i % 2) 1 with
   | true => insK l (i / 2) o fun l' => k (.node v l' r)
   | false => insK r (i / 2 - 1) o fun r' => k (.node v l r')
noncomputable def setK {α : Type} : BT -> Nat -> (Obj -> Obj) -> (BT -> α) -> α
 | .nil, _, _, k => k .nil
 | .node v l r, i, f, k => match Nat.beq i 0 with
  | true => k (.node (f v) l r)
  | false => match Nat.beq (i % 2) 1 with
   | true => setK l (i / 2) f fun l' => k (.node v l' r)
   | false => setK r (i / 2 - 1) f fun r' => k (.node v l r')
theorem insK_eq {α : Type} (o : Obj) : ∀ (t : BT) (i : Nat) (k : BT -> α), insK t i o k = k (t.ins i o)
 | .nil, _, _ => rfl
 | .node v l r, i, k => by
  unfold insK BT.ins
  cases Nat.beq i 0 with
  | true => rfl
  | false => cases Nat.beq (i % 2) 1 with
   | true => exact insK_eq o l _ _
   | false => exact insK_eq o r _ _
theorem setK_eq {α : Type} (f : Obj -> Obj) : ∀ (t : BT) (i : Nat) (k : BT -> α), setK t i f k = k (t.set i f)
 | .nil, _, _ => rfl
 | .node v l r, i, k => by
  unfold setK BT.set
  cases Nat.beq i 0 with
  | true => rfl
  | false => cases Nat.beq (i % 2) 1 with
   | true => exact setK_eq f l _ _
   | false => exact setK_eq f r _ _
noncomputable abbrev Go := List Nat -> Code -> Option (List FrY) -> KY -> Sem Fin -> BT -> Nat -> (Nat -> Nat) -> Nat -> Nat -> Nat -> Nat -> List GY -> List Ob -> Out
noncomputable def stop (w : Nat) : Go := fun _ c md κ t T m sg nb nc tb tc gl obs => .fin obs ⟨c, md, κ, t, T, m, sg, nb, nc, tb, tc, gl⟩ w
noncomputable def upd (sg : Nat -> Nat) (m a : Nat) : Nat -> Nat := fun j => match Nat.beq j m with
 | true => a
 | false => sg j
noncomputable def aroundY (V : YV) : KY -> Around
 | .base => V.A₀
 | .ret c hd _ κ => ((aroundY V κ).under c).mark hd
 | .gen _ c _ κ => (aroundY V κ).under c
noncomputable def wB : Code -> Nat
 | .builtin id _ => match ((heavyIds ++ guardIds).map PySem.code).any (Nat.beq (PySem.code id)) with
  | true => match Nat.beq (PySem.code id) (PySem.code "claim.caller") with
   | true => 305
   | false => 5
  | false => 0
 | .call .. => 0
 | _ => 1
noncomputable def depK : KY -> Nat
 | .base => 0
 | .ret c _ _ κ => depK κ + wB c
 | .gen _ c _ κ => depK κ + wB c
noncomputable def lenK : KY -> Nat
 | .base => 0
 | .ret _ _ _ κ => lenK κ + 1
 | .gen _ _ _ κ => lenK κ + 1
noncomputable def handledG : List FrY -> Option Value -> Option Value
 | [], x => x
 | f :: fs, x => f.hd.or (handledG fs x)
noncomputable def retY (ih : Go) (r : Result) : Go := fun o c md κ t T m sg nb nc tb tc gl obs => match md with
 | none => match κ with
  | .base => stop 1 o c md κ t T m sg nb nc tb tc gl obs
  | .ret c _ k κ => ih o c none κ (k r) T m sg nb nc tb tc gl obs
  | .gen .. => stop 2 o c md κ t T m sg nb nc tb tc gl obs
 | some fs => match fs with
  | [] => match κ with
   | .gen j c k κ => ih o c none κ (k (End.result (.ret r))) T m sg nb nc tb tc (gl.set j .finished) obs
   | _ => stop 3 o c md κ t T m sg nb nc tb tc gl obs
  | f :: fs => ih o f.c (some fs) κ (f.k r) T m sg nb nc tb tc gl obs
noncomputable def stepY (V : YV) (ih : Go) : Go := fun o c md κ t T m sg nb nc tb tc gl obs => match t with
 | .pure fin => match fin with
  | .done f => retY ih (.ok f) o c md κ t T m sg nb nc tb tc gl obs
  | .again c' => match c'.quiet with
   | true => ih o c' md κ (den c') T m sg nb nc tb tc gl obs
   | false => stop 5 o c md κ t T m sg nb nc tb tc gl obs
 | .raise e => retY ih (.error e) o c md κ t T m sg nb nc tb tc gl obs
 | .rule _ k => ih o c md κ (k ()) T m sg nb nc tb tc gl obs
 | .at _ k => ih o c md κ (k ()) T m sg nb nc tb tc gl obs
 | .point _ k => ih o c md κ (k ()) T m sg nb nc tb tc gl obs
 | .ask k => ih o c md κ (k ⟨V.prog, V.w.params⟩) T m sg nb nc tb tc gl obs
 | .load a _ k => match o with
  | [] => stop 6 o c md κ t T m sg nb nc tb tc gl obs
  | x :: o => match x with
   | 0 => match V.kt.get a with
    | some ob => ih o c md κ (k ob) T m sg nb nc tb tc gl obs
    | none => stop 7 o c md κ t T m sg nb nc tb tc gl obs
   | j + 1 => match T.get j with
    | some ob => ih o c md κ (k ob) T m sg nb nc tb tc gl ((.a a, .a (sg j)) :: obs)
    | none => stop 8 o c md κ t T m sg nb nc tb tc gl obs
 | .loadIfAlive a k => match o with
  | [] => stop 6 o c md κ t T m sg nb nc tb tc gl obs
  | x :: o => match x with
   | 0 => match V.kt.get a with
    | some ob => ih o c md κ (k (some ob)) T m sg nb nc tb tc gl obs
    | none => stop 7 o c md κ t T m sg nb nc tb tc gl obs
   | j + 1 => match T.get j with
    | some ob => ih o c md κ (k (some ob)) T m sg nb nc tb tc gl ((.a a, .a (sg j)) :: obs)
    | none => stop 8 o c md κ t T m sg nb nc tb tc gl obs
 | .alloc ob k => match ob.isFreed with
  | true => stop 9 o c md κ t T m sg nb nc tb tc gl obs
  | false => insK T m ob fun T' => match T'.get m with
   | some _ => ih o c md κ (k (nb + nc)) T' (m + 1) (upd sg m (nb + nc)) nb (nc + 1) tb tc gl obs
   | none => stop 15 o c md κ t T m sg nb nc tb tc gl obs
 | .update a _ f k => match o with
  | [] => stop 6 o c md κ t T m sg nb nc tb tc gl obs
  | x :: o => match x with
   | 0 => stop 10 o c md κ t T m sg nb nc tb tc gl obs
   | j + 1 => match T.get j with
    | some ob => match (f ob).isFreed with
     | true => stop 9 o c md κ t T m sg nb nc tb tc gl obs
     | false => setK T j f fun T' => ih o c md κ (k ()) T' m sg nb nc tb tc gl ((.a a, .a (sg j)) :: obs)
    | none => stop 8 o c md κ t T m sg nb nc tb tc gl obs
 | .fresh k => ih o c md κ (k (tb + tc)) T m sg nb nc tb (tc + 1) gl obs
 | .handled own k => match own with
  | false => match md with
   | none => ih o c md κ (k (aroundY V κ).handled) T m sg nb nc tb tc gl obs
   | some fs => ih o c md κ (k (handledG fs (aroundY V κ).handled)) T m sg nb nc tb tc gl obs
  | true => stop 11 o c md κ t T m sg nb nc tb tc gl obs
 | .stack k => match o with
  | [] => stop 6 o c md κ t T m sg nb nc tb tc gl obs
  | x :: o => match md with
   | none => match x with
    | 0 => match Nat.blt (depK κ + wB c) 60 with
     | true => match k [] with
      | .load a _ k' => match V.kt.get a with
       | some ob => ih o c md κ (k' ob) T m sg nb nc tb tc gl ((.t t, .t (PySem.W.R.bindR enterT fun _ => k' ob)) :: obs)
       | none => stop 7 o c md κ t T m sg nb nc tb tc gl obs
      | _ => stop 12 o c md κ t T m sg nb nc tb tc gl obs
     | false => stop 25 o c md κ t T m sg nb nc tb tc gl obs
    | j + 1 => match Nat.blt (lenK κ) 90 with
     | true => ih o c md κ (k []) T m sg nb nc tb tc gl ((.t t, .t (PySem.W.R.bindR (roomT (V.whats.getD j "")) fun _ => k [])) :: obs)
     | false => stop 25 o c md κ t T m sg nb nc tb tc gl obs
   | some _ => stop 16 o c md κ t T m sg nb nc tb tc gl obs
 | .call c' hd g l k => match okMark hd with
  | true => match md with
   | none => ih o c' none (.ret c hd k κ) (den c') T m sg nb nc tb tc gl obs
   | some fs => ih o c' (some (⟨k, hd, g, l, c⟩ :: fs)) κ (den c') T m sg nb nc tb tc gl obs
  | false => stop 13 o c md κ t T m sg nb nc tb tc gl obs
 | .newGen c' k => match md with
  | none => ih o c md κ (k (V.γ + gl.length)) T m sg nb nc tb tc (gl ++ [.fresh c']) obs
  | some _ => stop 16 o c md κ t T m sg nb nc tb tc gl obs
 | .genState g k => match o with
  | [] => stop 6 o c md κ t T m sg nb nc tb tc gl obs
  | j :: o => match md with
   | none => match gl[j]? with
    | some gs => ih o c md κ (k (gs.status, none)) T m sg nb nc tb tc gl ((.n g, .n (V.γ + j)) :: (.t t, .t (.genState g fun x => k (x.1, none))) :: obs)
    | none => stop 17 o c md κ t T m sg nb nc tb tc gl obs
   | some _ => stop 16 o c md κ t T m sg nb nc tb tc gl obs
 | .resume g r _ k => match o with
  | [] => stop 6 o c md κ t T m sg nb nc tb tc gl obs
  | j :: o => match md with
   | none => match gl[j]? with
    | some gs => match gs with
     | .fresh c₀ => match r with
      | .send v => match v with
       | .none => ih o c₀ (some []) (.gen j c k κ) (den c₀) T m sg nb nc tb tc (gl.set j .running) ((.n g, .n (V.γ + j)) :: obs)
       | _ => stop 18 o c md κ t T m sg nb nc tb tc gl obs
      | _ => stop 18 o c md κ t T m sg nb nc tb tc gl obs
     | .susp k₀ _ c₀ fs₀ => ih o c₀ (some fs₀) (.gen j c k κ) (k₀ r) T m sg nb nc tb tc (gl.set j .running) ((.n g, .n (V.γ + j)) :: obs)
     | _ => stop 18 o c md κ t T m sg nb nc tb tc gl obs
    | none => stop 17 o c md κ t T m sg nb nc tb tc gl obs
   | some _ => stop 16 o c md κ t T m sg nb nc tb tc gl obs
 | .yield v gd l k => match md with
  | none => stop 19 o c md κ t T m sg nb nc tb tc gl obs
  | some fs => match gd with
   | true => stop 19 o c md κ t T m sg nb nc tb tc gl obs
   | false => match fs.any (·.g) with
    | true => stop 19 o c md κ t T m sg nb nc tb tc gl obs
    | false => match κ with
     | .gen j c' k' κ' => ih o c' none κ' (k' (.yielded v)) T m sg nb nc tb tc (gl.set j (.susp k l c fs)) obs
     | _ => stop 3 o c md κ t T m sg nb nc tb tc gl obs
 | _ => stop 14 o c md κ t T m sg nb nc tb tc gl obs
noncomputable def runY (V : YV) (K : Go) : Nat -> Go
 | 0 => K
 | n + 1 => stepY V (runY V K n)
noncomputable def setsT : List (Nat × Nat × Obj) -> BT -> BT
 | [], T => T
 | (j, _, o) :: r, T => setsT r (T.set j fun _ => o)
noncomputable def newsT : List (Nat × Obj) -> BT -> Nat -> BT
 | [], T, _ => T
 | (_, o) :: r, T, m => newsT r (T.ins m o) (m + 1)
noncomputable def newsG : List (Nat × Obj) -> (Nat -> Nat) -> Nat -> (Nat -> Nat)
 | [], sg, _ => sg
 | (a, _) :: r, sg, m => newsG r (upd sg m a) (m + 1)
noncomputable def needObs (T : BT) (sg : Nat -> Nat) : List (Nat × Nat × Obj) -> List Ob -> List Ob
 | [], obs => obs
 | (j, a, o) :: r, obs => needObs T sg r ((.a (sg j), .a a) :: (.o (T.get j), .o (some o)) :: obs)
noncomputable def setObs (sg : Nat -> Nat) : List (Nat × Nat × Obj) -> List Ob -> List Ob
 | [], obs => obs
 | (j, a, _) :: r, obs => setObs sg r ((.a (sg j), .a a) :: obs)
noncomputable def hasAll : List (Nat × Nat × Obj) -> BT -> Bool
 | [], _ => true
 | (j, _, _) :: r, T => match T.get j with
  | some _ => hasAll r T
  | none => false
noncomputable def newsOk : List (Nat × Obj) -> BT -> Nat -> Bool
 | [], _, _ => true
 | (_, o) :: r, T, m => match (T.ins m o).get m with
  | some _ => newsOk r (T.ins m o) (m + 1)
  | none => false
noncomputable def depG : List FrY -> Nat
 | [] => 0
 | f :: fs => depG fs + wB f.c
noncomputable def extY (V : YV) (e : Ext) (K : Unk -> Go) : Go := fun o c md κ t T m sg nb nc tb tc gl obs => match t with
 | .call c' hd _ _ k => match okMark hd with
  | true => match md with
   | none => match Nat.blt (depK κ + wB c) 60 with
    | true => match Nat.blt (lenK κ) 90 with
     | true => .ask ((.c c', .c e.c) :: (.h (hd.or (aroundY V κ).handled), .h none) :: needObs T sg e.need obs) e.P fun x => match hasAll (e.sets x) T with
      | true => match newsOk (e.news x) (setsT (e.sets x) T) m with
       | true => K x o c md κ (k (e.r x)) (newsT (e.news x) (setsT (e.sets x) T) m) (m + (e.news x).length) (newsG (e.news x) sg m) (x.n 0 + 255) 0 (x.n 1) 0 (gl ++ List.replicate (e.g x) .finished) (setObs sg (e.sets x) [])
       | false => stop 21 o c md κ t T m sg nb nc tb tc gl []
      | false => stop 22 o c md κ t T m sg nb nc tb tc gl []
     | false => stop 25 o c md κ t T m sg nb nc tb tc gl obs
    | false => stop 25 o c md κ t T m sg nb nc tb tc gl obs
   | some fs => match hd with
    | none => match Nat.blt (depK κ + depG fs + wB c) 60 with
     | true => match Nat.blt (lenK κ + fs.length) 90 with
      | true => .ask ((.c c', .c e.c) :: (.h (handledG fs (aroundY V κ).handled), .h none) :: needObs T sg e.need obs) e.P fun x => match hasAll (e.sets x) T with
       | true => match newsOk (e.news x) (setsT (e.sets x) T) m with
        | true => K x o c md κ (k (e.r x)) (newsT (e.news x) (setsT (e.sets x) T) m) (m + (e.news x).length) (newsG (e.news x) sg m) (x.n 0 + 255) 0 (x.n 1) 0 (gl ++ List.replicate (e.g x) .finished) (setObs sg (e.sets x) [])
        | false => stop 21 o c md κ t T m sg nb nc tb tc gl []
       | false => stop 22 o c md κ t T m sg nb nc tb tc gl []
      | false => stop 25 o c md κ t T m sg nb nc tb tc gl obs
     | false => stop 25 o c md κ t T m sg nb nc tb tc gl obs
    | some _ => stop 20 o c md κ t T m sg nb nc tb tc gl obs
  | false => stop 23 o c md κ t T m sg nb nc tb tc gl obs
 | _ => stop 24 o c md κ t T m sg nb nc tb tc gl obs
noncomputable abbrev ownT : Expr -> Value -> Value -> Sem Unit := PySem.W.Fast.tw1578499551869305889
theorem own_eq : letOwnedTupleGo = ownT := PySem.W.Fast.te1578499551869305889
noncomputable abbrev compsT : Sem (List Env) := PySem.W.Fast.tw15119167023480647312
theorem comps_eq : comprehensionsAround = compsT := PySem.W.Fast.te15119167023480647312
noncomputable def owners : List String := ["enumerate", "zip", "dict_itemiterator"]
noncomputable def targetOf : Code -> Option Expr
 | .forLoop target _ _ _ _ => some target
 | .compLoop e d _ _ _ => match (clausesOf e)[d]? with
  | some g => some g.target
  | none => none
 | _ => none
noncomputable abbrev own0 : Obj -> Obj := Obj.mapFields (·.setIfInBounds 0 .none)
noncomputable def ownY (j i : Nat) (K : Go) : Go := fun o c md κ t T m sg nb nc tb tc gl obs => match t with
 | .load _ _ k => match T.get j with
  | some ob => match targetOf c with
   | some tg => match tg with
    | .Tuple _ _ _ => match ob.data with
     | .fields vs => match vs.toList with
      | v :: rest => match v with
       | .int w _ => match w with
        | .ofNat a => match (own0 ob).isFreed with
         | true => stop 30 o c md κ t T m sg nb nc tb tc gl obs
         | false => setK T j own0 fun T' => K o c md κ (k (own0 ob)) T' m sg nb nc tb tc gl ((.t t, .t (PySem.W.R.bindR (ownT tg (.ref (sg j)) (.ref a)) fun _ => k (own0 ob))) :: (.o (some ob), .o (some ⟨.type (owners.getD i "zip"), ob.dict, .fields ⟨.int (.ofNat a) 0 :: rest⟩, ob.slots⟩)) :: obs)
        | _ => stop 31 o c md κ t T m sg nb nc tb tc gl obs
       | _ => stop 32 o c md κ t T m sg nb nc tb tc gl obs
      | [] => stop 33 o c md κ t T m sg nb nc tb tc gl obs
     | _ => stop 34 o c md κ t T m sg nb nc tb tc gl obs
    | _ => stop 35 o c md κ t T m sg nb nc tb tc gl obs
   | none => stop 36 o c md κ t T m sg nb nc tb tc gl obs
  | none => stop 37 o c md κ t T m sg nb nc tb tc gl obs
 | _ => stop 38 o c md κ t T m sg nb nc tb tc gl obs
noncomputable def lookY (F : List Env -> Sem Fin) (K : Go) : Go := fun o c md κ t T m sg nb nc tb tc gl obs => match md with
 | none => match c with
  | .func _ _ => K o c md κ (F []) T m sg nb nc tb tc gl ((.t t, .t (PySem.W.R.bindR compsT F)) :: obs)
  | _ => stop 39 o c md κ t T m sg nb nc tb tc gl obs
 | some _ => stop 40 o c md κ t T m sg nb nc tb tc gl obs
inductive Acts where
 | done
 | go (n : Nat) (o : List Nat) (r : Acts)
 | ext (e : Ext) (r : Unk -> Acts)
 | own (j i : Nat) (r : Acts)
 | look (F : List Env -> Sem Fin) (r : Acts)
noncomputable def exec (V : YV) : Acts -> Go
 | .done => stop 0
 | .go n o r => fun _ => runY V (fun _ => exec V r []) n o
 | .ext e r => extY V e fun x => exec V (r x)
 | .own j i r => ownY j i (exec V r)
 | .look F r => lookY F (exec V r)
noncomputable def Out.flat : Out -> (Nat -> Unk) -> List Ob × St × Nat
 | .fin obs st n, _ => (obs, st, n)
 | .ask obs _ f, xs => match (f (xs 0)).flat fun k => xs (k + 1) with
  | (o, r) => (obs ++ o, r)
noncomputable def Out.met : Out -> (Nat -> Unk) -> Prop
 | .fin .., _ => True
 | .ask _ P f, xs => P (xs 0) /\ (f (xs 0)).met fun k => xs (k + 1)
noncomputable def Out.lefts (o : Out) (xs : Nat -> Unk) : List Sg := (o.flat xs).1.map (·.1)
noncomputable def Out.rights (o : Out) (xs : Nat -> Unk) : List Sg := (o.flat xs).1.map (·.2)
end Mine
end
section
namespace Mine
open PySem PySem.W PySem.W.X PySem.Spec PySem.Calls PyProof.Rows
noncomputable def FrY.at (f : FrY) (p : Pos) : Frame := .ret f.k f.hd f.g f.l f.c p []
noncomputable def frs : List FrY -> List Pos -> List Frame
 | [], _ => []
 | f :: fs, [] => f.at default :: frs fs []
 | f :: fs, p :: ps => f.at p :: frs fs ps
theorem frs_split : ∀ (fs : List FrY) (ps : List Pos), splitAtGen (frs fs ps) = none
 | [], _ => rfl
 | f :: fs, [] => by simp only [frs, FrY.at, splitAtGen, frs_split fs [], Option.map_none]
 | f :: fs, p :: ps => by simp only [frs, FrY.at, splitAtGen, frs_split fs ps, Option.map_none]
theorem frs_guarded : ∀ (fs : List FrY) (ps : List Pos), (frs fs ps).any Frame.guarded = fs.any (·.g)
 | [], _ => rfl
 | f :: fs, [] => by simp only [frs, FrY.at, List.any_cons, Frame.guarded, frs_guarded fs []]
 | f :: fs, p :: ps => by simp only [frs, FrY.at, List.any_cons, Frame.guarded, frs_guarded fs ps]
theorem frs_marks (x : Option Value) : ∀ (fs : List FrY) (ps : List Pos), (∀ f ∈ fs, f.hd ≠ some byPass) -> (marksOver (frs fs ps) (x, x)) = (handledG fs x, x)
 | [], _, _ => rfl
 | f :: fs, [], h => by
  have z := frs_marks x fs [] fun g hg => h g (.tail _ hg)
  show Frame.marks (f.at default) (marksOver (frs fs []) (x, x)) = _
  rw [z]
  show (markOver f.hd (handledG fs x) x, x) = _
  rw [markOver_of_ne (h f (.head _))]; rfl
 | f :: fs, p :: ps, h => by
  have z := frs_marks x fs ps fun g hg => h g (.tail _ hg)
  show Frame.marks (f.at p) (marksOver (frs fs ps) (x, x)) = _
  rw [z]
  show (markOver f.hd (handledG fs x) x, x) = _
  rw [markOver_of_ne (h f (.head _))]; rfl
noncomputable def okFs (fs : List FrY) : Prop := ∀ f ∈ fs, f.hd ≠ some byPass
inductive GR : GY -> GenState -> Prop
 | fresh (c : Code) : GR (.fresh c) (.fresh c)
 | susp (k : Resume -> Sem Fin) (l : List Value) (c : Code) (fs : List FrY) (p : Pos) (ps : List Pos) : okFs fs -> GR (.susp k l c fs) (.suspended k l c p (frs fs ps) false)
 | running : GR .running .running
 | finished : GR .finished .finished
inductive GRs : List GY -> List GenState -> Prop
 | nil : GRs [] []
 | cons {y : GY} {ys : List GY} {g : GenState} {gs : List GenState} : GR y g -> GRs ys gs -> GRs (y :: ys) (g :: gs)
theorem GR.status {y : GY} {g : GenState} (h : GR y g) : g.status = y.status := by cases h <;> rfl
theorem GRs.get : ∀ {ys : List GY} {gs : List GenState} {j : Nat} {y : GY}, GRs ys gs -> ys[j]? = some y -> ∃ g, gs[j]? = some g /\ GR y g
 | _, _, _, _, .nil, e => by simp at e
 | _, _, 0, _, .cons h _, e => by
  simp at e; subst e
  exact ⟨_, rfl, h⟩
 | _, _, j + 1, _, .cons _ r, e => by
  simp at e
  obtain ⟨g, h1, h2⟩ := r.get e
  exact ⟨g, by simpa using h1, h2⟩
theorem GRs.set : ∀ {ys : List GY} {gs : List GenState} {j : Nat} {y : GY} {g : GenState}, GRs ys gs -> GR y g -> GRs (ys.set j y) (gs.set j g)
 | _, _, _, _, _, .nil, _ => .nil
 | _, _, 0, _, _, .cons _ r, h => .cons h r
 | _, _, j + 1, _, _, .cons h' r, h => .cons h' (r.set h)
theorem GRs.push : ∀ {ys : List GY} {gs : List GenState} {y : GY} {g : GenState}, GRs ys gs -> GR y g -> GRs (ys ++ [y]) (gs ++ [g])
 | _, _, _, _, .nil, h => .cons h .nil
 | _, _, _, _, .cons h' r, h => .cons h' (r.push h)
theorem GRs.pushes {ys : List GY} {gs : List GenState} (h : GRs ys gs) : ∀ n, GRs (ys ++ List.replicate n .finished) (gs ++ List.replicate n .finished)
 | 0 => by simpa using h
 | n + 1 => by
  have e1 : ys ++ List.replicate (n + 1) GY.finished = (ys ++ List.replicate n GY.finished) ++ [GY.finished] := by rw [List.replicate_succ', List.append_assoc]
  have e2 : gs ++ List.replicate (n + 1) GenState.finished = (gs ++ List.replicate n GenState.finished) ++ [GenState.finished] := by rw [List.replicate_succ', List.append_assoc]
  rw [e1, e2]
  exact (h.pushes n).push .finished
theorem GRs.length {ys : List GY} {gs : List GenState} (h : GRs ys gs) : gs.length = ys.length := by
 induction h with
 | nil => rfl
 | cons _ _ ih => simp [ih]
theorem cUnits_le (c : Code) : c.cUnits <= 10 := by
 have hf : c.frames <= 3 := by
  unfold Code.frames
  split <;> first | decide | (split <;> decide)
 unfold Code.cUnits
 split <;> lia
theorem weight_le (c : Code) : c.weight <= wB c := by
 have hf : c.frames <= 3 := by
  unfold Code.frames
  split <;> first | decide | (split <;> decide)
 cases c with
 | builtin id args =>
  show Code.weight (.builtin id args) <= (match ((heavyIds ++ guardIds).map PySem.code).any (Nat.beq (PySem.code id)) with | true => (match Nat.beq (PySem.code id) (PySem.code "claim.caller") with | true => 305 | false => 5) | false => 0)
  cases q : ((heavyIds ++ guardIds).map PySem.code).any (Nat.beq (PySem.code id)) with
  | true =>
   show Code.weight (.builtin id args) <= (match Nat.beq (PySem.code id) (PySem.code "claim.caller") with | true => 305 | false => 5)
   cases q2 : Nat.beq (PySem.code id) (PySem.code "claim.caller") with
   | true =>
    show Code.weight (.builtin id args) <= 305
    unfold Code.weight claimMargin
    repeat' split
    all_goals lia
   | false =>
    have ne : id ≠ "claim.caller" := by
     rintro rfl
     rw [Nat.beq_refl] at q2
     cases q2
    have hk : (Code.builtin id args).isCaller = false := by
     unfold Code.isCaller
     split <;> first | rfl | simp_all
    show Code.weight (.builtin id args) <= 5
    unfold Code.weight
    rw [hk]
    repeat' split
    all_goals simp_all
    all_goals lia
  | false =>
   have no : ∀ x ∈ heavyIds ++ guardIds, id ≠ x := by
    rintro x hx rfl
    rw [List.any_eq_false] at q
    exact q _ (List.mem_map_of_mem hx) (Nat.beq_refl _)
   have h1 : heavyIds.contains id = false := by
    cases z : heavyIds.contains id with
    | false => rfl
    | true => exact absurd rfl (no id (List.mem_append.mpr (.inl (by simpa using z))))
   have h2 : guardIds.contains id = false := by
    cases z : guardIds.contains id with
    | false => rfl
    | true => exact absurd rfl (no id (List.mem_append.mpr (.inr (by simpa using z))))
   show Code.weight (.builtin id args) <= 0
   have hg : (Code.builtin id args).isGuard = false := h2
   simp only [heavyIds, List.contains_cons, List.contains_nil, Bool.or_false, Bool.or_eq_false_iff, beq_eq_false_iff_ne, ne_eq] at h1
   have hf : (Code.builtin id args).frames = 0 := by
    unfold Code.frames
    split <;> first | rfl | simp_all [Code.isFrame]
   have hc : (Code.builtin id args).isCreation = false := by
    unfold Code.isCreation
    split <;> first | rfl | simp_all
   have hk : (Code.builtin id args).isCaller = false := by
    unfold Code.isCaller
    split <;> first | rfl | simp_all
   simp [Code.weight, hf, hc, hg, hk]
 | call f a => show Code.weight _ <= 0; simp [Code.weight, Code.frames, Code.isFrame, Code.isCreation, Code.isGuard, Code.isCaller]
 | _ =>
  show Code.weight _ <= 1
  simp only [Code.weight, Code.frames, Code.isCreation, Code.isGuard, Code.isCaller]
  first | lia | (split <;> simp)
theorem depth_le (V : YV) : ∀ κ : KY, (aroundY V κ).depth <= V.A₀.depth + depK κ
 | .base => Nat.le_refl _
 | .ret c hd k κ => by
  have := depth_le V κ; have := weight_le c
  show (aroundY V κ).depth + c.weight <= V.A₀.depth + (depK κ + wB c)
  lia
 | .gen j c k κ => by
  have := depth_le V κ; have := weight_le c
  show (aroundY V κ).depth + c.weight <= V.A₀.depth + (depK κ + wB c)
  lia
theorem units_le (V : YV) : ∀ κ : KY, (aroundY V κ).units <= V.A₀.units + 10 * lenK κ
 | .base => Nat.le_refl _
 | .ret c hd k κ => by
  have := units_le V κ; have := cUnits_le c
  show (aroundY V κ).units + c.cUnits <= V.A₀.units + 10 * (lenK κ + 1)
  lia
 | .gen j c k κ => by
  have := units_le V κ; have := cUnits_le c
  show (aroundY V κ).units + c.cUnits <= V.A₀.units + 10 * (lenK κ + 1)
  lia
structure YX where
 h₀ : Heap
 own : List Nat
 k₀ : Nat
 d : Drawn
 os : OsState
 G₀ : List GenState
 R₀ : Result -> Shared -> Prop
structure YOk (V : YV) (X : YX) : Prop where
 gens : X.G₀.length = V.γ
 limit : ∀ h, V.kt.Holds h 1 0 -> h.NoLimit
 depth : V.A₀.depth + 60 < recursionLimit
 units : V.A₀.units + 1000 < cLine
 big : 255 <= X.h₀.objs.size
structure RepY (V : YV) (X : YX) (T : BT) (m : Nat) (sg : Nat -> Nat) (nb nc tb tc : Nat) (gl : List GY) (s : Shared) : Prop where
 size : s.heap.objs.size = nb + nc
 grown : X.h₀.objs.size <= s.heap.objs.size
 own : ∀ j o, T.get j = some o -> j < m /\ s.heap.get? (sg j) = some o
 inj : ∀ i j, i < m -> j < m -> sg i = sg j -> i = j
 lt : ∀ j, j < m -> sg j < s.heap.objs.size
 apart : ∀ j o, j < m -> V.kt.get (sg j) ≠ some o
 mine : ∀ j, j < m -> sg j ∈ X.own \/ X.h₀.objs.size <= sg j
 newer : ∀ j, X.k₀ <= j -> j < m -> X.h₀.objs.size <= sg j
 keep : ∀ b o, X.h₀.get? b = some o -> b ∉ X.own -> s.heap.get? b = some o
 stat : V.kt.Holds s.heap 1 0
 toks : s.toks = tb + tc
 gens : ∃ l, s.gens = ⟨X.G₀ ++ l⟩ /\ GRs gl l
 drawn : s.drawn = X.d
 os : s.os = X.os
section
variable {V : YV} {X : YX} {T : BT} {m nb nc tb tc : Nat} {sg : Nat -> Nat} {gl : List GY} {s : Shared}
theorem upd_self (sg : Nat -> Nat) (m a : Nat) : upd sg m a m = a := by unfold upd; rw [Nat.beq_refl]
theorem upd_ne {sg : Nat -> Nat} {m a j : Nat} (h : j ≠ m) : upd sg m a j = sg j := by
 unfold upd
 rw [BT.beq_eq, decide_eq_false h]
theorem holds_iff {h : Heap} {t : KT} : KT.Holds h 1 0 t ↔ ∀ a o, t.get a = some o -> h.get? a = some o := by
 have gen : ∀ (t : KT) (st b : Nat), KT.Holds h st b t ↔ ∀ j o, t.get j = some o -> h.get? (st * j + b) = some o := by
  intro t
  induction t with
  | nil => intro st b; exact ⟨fun _ j o e => (nomatch e), fun _ => trivial⟩
  | node v l r ihl ihr =>
   intro st b
   refine ⟨fun H j o e => KT.Holds.get H e, fun K => ?_⟩
   refine ⟨fun o e => ?_, (ihl _ _).mpr fun j o e => ?_, (ihr _ _).mpr fun j o e => ?_⟩
   ·have := K 0 o (by rw [KT.get_node, if_pos rfl]; exact e)
    rwa [Nat.mul_zero, Nat.zero_add] at this
   ·have := K (2 * j + 1) o (by rw [KT.get_node, if_neg (by lia), if_pos (by lia), show (2 * j + 1) / 2 = j by lia]; exact e)
    rw [show st * (2 * j + 1) + b = 2 * st * j + (st + b) by rw [Nat.mul_add, Nat.mul_one, <- Nat.mul_assoc, Nat.mul_comm st 2]; lia] at this
    exact this
   ·have := K (2 * j + 2) o (by rw [KT.get_node, if_neg (by lia), if_neg (by lia), show (2 * j + 2) / 2 - 1 = j by lia]; exact e)
    rw [show st * (2 * j + 2) + b = 2 * st * j + (2 * st + b) by rw [Nat.mul_add, <- Nat.mul_assoc, Nat.mul_comm st 2]; lia] at this
    exact this
 rw [gen]
 constructor
 ·intro K a o e
  have := K a o e
  rwa [Nat.one_mul, Nat.add_zero] at this
 ·intro K a o e
  rw [Nat.one_mul, Nat.add_zero]
  exact K a o e
theorem RepY.static (R : RepY V X T m sg nb nc tb tc gl s) {a : Addr} {o : Obj} (e : V.kt.get a = some o) : s.heap.get? a = some o := holds_iff.mp R.stat a o e
theorem RepY.shared (R : RepY V X T m sg nb nc tb tc gl s) : ∃ l, GRs gl l /\ s = ⟨s.heap, ⟨X.G₀ ++ l⟩, X.d, tb + tc, X.os⟩ := by
 obtain ⟨l, e, g⟩ := R.gens
 refine ⟨l, g, ?_⟩
 have := R.toks; have := R.drawn; have := R.os
 obtain ⟨h, gs, d, t, os⟩ := s
 simp_all
theorem RepY.alloc (R : RepY V X T m sg nb nc tb tc gl s) {o : Obj} (hf : o.isFreed = false) (hg : ((T.ins m o).get m).isSome = true) :
  RepY V X (T.ins m o) (m + 1) (upd sg m (nb + nc)) nb (nc + 1) tb tc gl { s with heap := s.heap.push o } /\ s.heap.objs.size = nb + nc := by
 have hs := R.size
 have hk : ∀ a o, V.kt.get a = some o -> a < nb + nc := fun a o e => by rw [<- hs]; exact Heap.lt_size (R.static e)
 refine ⟨⟨?_, ?_, fun j o' e => ?_, fun i j hi hj e => ?_, fun j hj => ?_, fun j o' hj e => ?_, fun j hj => ?_, fun j hk hj => ?_, fun b o' e q => Heap.get?_push_of_some _ (R.keep b o' e q), ?_, R.toks, R.gens, R.drawn, R.os⟩, hs⟩
 ·show (s.heap.push o).objs.size = _
  rw [Heap.size_push, hs]; lia
 ·show _ <= (s.heap.push o).objs.size
  rw [Heap.size_push]; have := R.grown; lia
 ·rw [BT.get_ins o T m hg] at e
  by_cases hj : j = m
  ·subst hj
   rw [if_pos rfl] at e
   cases e
   refine ⟨Nat.lt_succ_self _, ?_⟩
   rw [upd_self, <- hs]; exact Heap.get?_push_size _ hf
  ·rw [if_neg hj] at e
   have z := R.own j o' e
   rw [upd_ne hj]
   exact ⟨Nat.lt_succ_of_lt z.1, Heap.get?_push_of_some _ z.2⟩
 ·by_cases h1 : i = m <;> by_cases h2 : j = m
  ·rw [h1, h2]
  ·subst h1
   have := R.lt j (by lia)
   rw [upd_self, upd_ne h2] at e
   lia
  ·subst h2
   have := R.lt i (by lia)
   rw [upd_self, upd_ne h1] at e
   lia
  ·rw [upd_ne h1, upd_ne h2] at e
   exact R.inj i j (by lia) (by lia) e
 ·show _ < (s.heap.push o).objs.size
  rw [Heap.size_push]
  by_cases h1 : j = m
  ·subst h1; rw [upd_self, hs]; lia
  ·rw [upd_ne h1]; have := R.lt j (by lia); lia
 ·by_cases h1 : j = m
  ·subst h1
   rw [upd_self] at e
   have := hk _ _ e
   lia
  ·rw [upd_ne h1] at e
   exact R.apart j o' (by lia) e
 ·by_cases h1 : j = m
  ·subst h1
   rw [upd_self]
   exact .inr (by rw [<- hs]; exact R.grown)
  ·rw [upd_ne h1]; exact R.mine j (by lia)
 ·by_cases h1 : j = m
  ·subst h1
   rw [upd_self, <- hs]; exact R.grown
  ·rw [upd_ne h1]; exact R.newer j hk (by lia)
 ·exact holds_iff.mpr fun a o' e => Heap.get?_push_of_some _ (R.static e)
theorem RepY.update (R : RepY V X T m sg nb nc tb tc gl s) {j : Nat} {o : Obj} {f : Obj -> Obj} (e : T.get j = some o) (hf : (f o).isFreed = false) :
  RepY V X (T.set j f) m sg nb nc tb tc gl { s with heap := s.heap.update (sg j) f } := by
 have z := R.own _ _ e
 have hs : Heap.SameBut (sg j) s.heap (s.heap.update (sg j) f) := Heap.SameBut.update ..
 refine ⟨by show (s.heap.update (sg j) f).objs.size = _; rw [hs.1, R.size], by show _ <= (s.heap.update (sg j) f).objs.size; rw [hs.1]; exact R.grown, fun k o' e' => ?_, R.inj, fun k hk => by show _ < (s.heap.update (sg j) f).objs.size; rw [hs.1]; exact R.lt k hk, R.apart, R.mine, R.newer, fun b o' e' q => ?_, ?_, R.toks, R.gens, R.drawn, R.os⟩
 ·rw [BT.get_set] at e'
  by_cases hk : k = j
  ·subst hk
   rw [if_pos rfl, e] at e'
   cases e'
   refine ⟨z.1, ?_⟩
   first | exact Heap.get?_update_self f z.2 hf | exact Heap.get?_update_self _ z.2 hf
  ·rw [if_neg hk] at e'
   have y := R.own k o' e'
   exact ⟨y.1, (hs.2 _ fun q => hk (R.inj _ _ y.1 z.1 q)).trans y.2⟩
 ·refine (hs.2 b fun q' => ?_).trans (R.keep b o' e' q)
  rcases R.mine j z.1 with h | h
  ·exact q (q' ▸ h)
  ·have h2 : sg j < X.h₀.objs.size := by rw [<- q']; exact Heap.lt_size e'
   lia
 ·exact holds_iff.mpr fun a o' e' => (hs.2 a fun q => R.apart j o' z.1 (q ▸ e')).trans (R.static e')
end
noncomputable def endY (V : YV) (X : YX) : KY -> Result -> Shared -> Prop
 | .base => X.R₀
 | .ret c _ k κ => postR V.prog V.w (aroundY V κ) c (postC V.prog V.w (aroundY V κ) (endY V X κ)) (postE (endY V X κ)) k
 | .gen .. => fun _ _ => False
noncomputable def wakeY (V : YV) (X : YX) : KY -> End -> Shared -> Prop
 | .gen j c k κ => postG V.prog V.w (aroundY V κ) c (postC V.prog V.w (aroundY V κ) (endY V X κ)) (postE (endY V X κ)) k (V.γ + j)
 | .base => fun _ _ => False
 | .ret .. => fun _ _ => False
noncomputable def MeansY (V : YV) (X : YX) (c : Code) (md : Option (List FrY)) (κ : KY) (t : Sem Fin) (s : Shared) : Prop := match md with
 | none => wpOwn (model V.prog V.w) (aroundY V κ) c t (postC V.prog V.w (aroundY V κ) (endY V X κ)) (postE (endY V X κ)) s
 | some fs => okFs fs -> ∀ ps, SegX (model V.prog V.w) (aroundY V κ) c t (frs fs ps) s (wakeY V X κ)
noncomputable def GoodY (V : YV) (X : YX) (st : St) : Prop := ∀ s, RepY V X st.T st.m st.sg st.nb st.nc st.tb st.tc st.gl s -> MeansY V X st.c st.md st.κ st.t s
noncomputable def FinY (V : YV) (X : YX) : Out -> Prop
 | .fin obs st _ => (∀ ob ∈ obs, ob.1 = ob.2) /\ GoodY V X st
 | .ask obs P f => (∀ ob ∈ obs, ob.1 = ob.2) /\ ∀ x, P x -> FinY V X (f x)
noncomputable def SoundGo (V : YV) (X : YX) (g : Go) : Prop := ∀ o c md κ t T m sg nb nc tb tc gl obs, FinY V X (g o c md κ t T m sg nb nc tb tc gl obs) -> (∀ ob ∈ obs, ob.1 = ob.2) /\ GoodY V X ⟨c, md, κ, t, T, m, sg, nb, nc, tb, tc, gl⟩
section
variable {V : YV} {X : YX}
theorem stop_sound (w : Nat) : SoundGo V X (stop w) := fun _ _ _ _ _ _ _ _ _ _ _ _ _ _ h => h
theorem setGen_local {h : Heap} {G₀ l : List GenState} {d : Drawn} {t : Nat} {os : OsState} {γ j : Nat} {x : GenState} (hγ : G₀.length = γ) : (⟨h, ⟨G₀ ++ l⟩, d, t, os⟩ : Shared).setGen (γ + j) x = ⟨h, ⟨G₀ ++ l.set j x⟩, d, t, os⟩ := by
 unfold Shared.setGen
 have : (⟨G₀ ++ l⟩ : Array GenState).setIfInBounds (γ + j) x = ⟨G₀ ++ l.set j x⟩ := by
  apply Array.ext'
  simp only [Array.toList_setIfInBounds, <- hγ]
  rw [List.set_append_right _ _ (Nat.le_add_right _ _), Nat.add_sub_cancel_left]
 rw [this]
theorem get_local {G₀ l : List GenState} {γ j : Nat} (hγ : G₀.length = γ) : (⟨G₀ ++ l⟩ : Array GenState)[γ + j]? = l[j]? := by
 show (G₀ ++ l).toArray[γ + j]? = _
 rw [List.getElem?_toArray, <- hγ, List.getElem?_append_right (Nat.le_add_right _ _), Nat.add_sub_cancel_left]
theorem RepY.setG {T : BT} {m nb nc tb tc : Nat} {sg : Nat -> Nat} {gl : List GY} {s : Shared} (O : YOk V X) (R : RepY V X T m sg nb nc tb tc gl s) {j : Nat} {y : GY} {g : GenState} (h : GR y g) : RepY V X T m sg nb nc tb tc (gl.set j y) (s.setGen (V.γ + j) g) := by
 obtain ⟨l, hl, e⟩ := R.shared
 rw [e, setGen_local O.gens]
 have hh : s.heap = s.heap := rfl
 exact ⟨R.size, R.grown, R.own, R.inj, R.lt, R.apart, R.mine, R.newer, R.keep, R.stat, rfl, ⟨_, rfl, hl.set h⟩, rfl, rfl⟩
theorem codeIn {A : Around} {c : Code} {R : Result -> Shared -> Prop} {s : Shared} (x : wpOwn (model V.prog V.w) A c (den c) (postC V.prog V.w A R) (postE R) s) : codeAny (model V.prog V.w) A c R s :=
 y_code _ _ _ _ _ _ (by rw [den_eq]; exact x)
theorem ret_sound {ih : Go} (IH : SoundGo V X ih) (O : YOk V X) (r : Result) : ∀ o c md κ t T m sg nb nc tb tc gl obs, t = leafOf r -> FinY V X (retY ih r o c md κ t T m sg nb nc tb tc gl obs) -> (∀ ob ∈ obs, ob.1 = ob.2) /\ GoodY V X ⟨c, md, κ, t, T, m, sg, nb, nc, tb, tc, gl⟩ := by
 intro o c md κ t T m sg nb nc tb tc gl obs ht H
 rcases md with _ | _
 case none =>
  rcases κ with _ | _ | _
  case base => exact H
  case gen => exact H
  case ret c₁ hd k κ =>
   obtain ⟨h1, h2⟩ := IH _ _ _ _ _ _ _ _ _ _ _ _ _ _ H
   refine ⟨h1, fun s R => ?_⟩
   have key : endY V X (.ret c₁ hd k κ) r s := h2 s R
   show wpOwn _ _ _ _ _ _ _
   rcases r with _ | _
   case ok f => subst ht; exact y_pure _ _ _ _ _ _ _ _ _ (y_done _ _ _ _ _ _ key)
   case error e => subst ht; exact y_raise _ _ _ _ _ _ _ _ _ (y_err _ _ _ key)
 case some fs =>
  rcases fs with _ | _
  case nil =>
   rcases κ with _ | _ | _
   case base => exact H
   case ret => exact H
   case gen j c₁ k κ =>
    obtain ⟨h1, h2⟩ := IH _ _ _ _ _ _ _ _ _ _ _ _ _ _ H
    refine ⟨h1, fun s R _ ps => ?_⟩
    have e : frs [] ps = [] := by cases ps <;> rfl
    show SegX _ _ _ _ (frs [] ps) _ _
    rw [e]
    refine s_end _ _ _ _ _ _ r t ht ?_
    show postG _ _ _ _ _ _ _ _ _ _
    exact h2 _ (R.setG O (g := .finished) .finished)
  case cons f fs =>
   obtain ⟨h1, h2⟩ := IH _ _ _ _ _ _ _ _ _ _ _ _ _ _ H
   refine ⟨h1, fun s R ok ps => ?_⟩
   have ok' : okFs fs := fun g hg => ok g (.tail _ hg)
   rcases ps with _ | _
   case nil => exact s_pop _ _ _ _ _ _ _ r t ht _ _ _ _ _ _ _ (h2 s R ok' [])
   case cons p ps => exact s_pop _ _ _ _ _ _ _ r t ht _ _ _ _ _ _ _ (h2 s R ok' ps)
theorem bt {a b : Nat} (h : Nat.blt a b = true) : a < b := Nat.le_of_ble_eq_true h
theorem okMark_ne {hd : Option Value} (q : okMark hd = true) : hd ≠ some byPass := by
 intro e
 subst e
 simp [okMark] at q
theorem RepY.tok {T : BT} {m nb nc tb tc : Nat} {sg : Nat -> Nat} {gl : List GY} {s : Shared} (R : RepY V X T m sg nb nc tb tc gl s) : RepY V X T m sg nb nc tb (tc + 1) gl { s with toks := s.toks + 1 } :=
 ⟨R.size, R.grown, R.own, R.inj, R.lt, R.apart, R.mine, R.newer, R.keep, R.stat, by show s.toks + 1 = _; rw [R.toks]; lia, R.gens, R.drawn, R.os⟩
theorem step_sound {ih : Go} (IH : SoundGo V X ih) (O : YOk V X) : SoundGo V X (stepY V ih) := by
 intro o c md κ t T m sg nb nc tb tc gl obs H
 cases t with
 | pure fin =>
  rcases fin with _ | _
  case done f => exact ret_sound IH O (.ok f) _ _ _ _ _ _ _ _ _ _ _ _ _ _ rfl H
  case again c' =>
   simp only [stepY] at H
   split at H
   ·rename_i q
    obtain ⟨h1, h2⟩ := IH _ _ _ _ _ _ _ _ _ _ _ _ _ _ H
    refine ⟨h1, fun s R => ?_⟩
    clear H h1
    rcases md with _ | _
    case none => exact y_pure _ _ _ _ _ _ _ _ _ (y_again _ _ _ _ _ _ q (codeIn (h2 s R)))
    case some fs =>
     intro ok ps
     exact s_again _ _ _ _ _ _ _ _ q (by rw [den_eq]; exact h2 s R ok ps)
   ·exact H
 | raise e => exact ret_sound IH O (.error e) _ _ _ _ _ _ _ _ _ _ _ _ _ _ rfl H
 | rule tag k =>
  obtain ⟨h1, h2⟩ := IH _ _ _ _ _ _ _ _ _ _ _ _ _ _ H
  refine ⟨h1, fun s R => ?_⟩
  clear H h1
  rcases md with _ | _
  case none => exact y_skim _ _ _ _ _ _ _ _ _ 1 (h2 s R)
  case some fs => intro ok ps; exact s_skim _ _ _ _ _ _ _ _ 1 (h2 s R ok ps)
 | «at» q k =>
  obtain ⟨h1, h2⟩ := IH _ _ _ _ _ _ _ _ _ _ _ _ _ _ H
  refine ⟨h1, fun s R => ?_⟩
  clear H h1
  rcases md with _ | _
  case none => exact y_skim _ _ _ _ _ _ _ _ _ 1 (h2 s R)
  case some fs => intro ok ps; exact s_skim _ _ _ _ _ _ _ _ 1 (h2 s R ok ps)
 | point l k =>
  obtain ⟨h1, h2⟩ := IH _ _ _ _ _ _ _ _ _ _ _ _ _ _ H
  refine ⟨h1, fun s R => ?_⟩
  clear H h1
  rcases md with _ | _
  case none => exact y_skim _ _ _ _ _ _ _ _ _ 1 (h2 s R)
  case some fs => intro ok ps; exact s_skim _ _ _ _ _ _ _ _ 1 (h2 s R ok ps)
 | ask k =>
  obtain ⟨h1, h2⟩ := IH _ _ _ _ _ _ _ _ _ _ _ _ _ _ H
  refine ⟨h1, fun s R => ?_⟩
  clear H h1
  rcases md with _ | _
  case none => exact y_skim _ _ _ _ _ _ _ _ _ 1 (h2 s R)
  case some fs => intro ok ps; exact s_skim _ _ _ _ _ _ _ _ 1 (h2 s R ok ps)
 | load a q k =>
  have go : ∀ ob (x : ∀ s, RepY V X T m sg nb nc tb tc gl s -> s.heap.get? a = some ob), GoodY V X ⟨c, md, κ, k ob, T, m, sg, nb, nc, tb, tc, gl⟩ -> GoodY V X ⟨c, md, κ, .load a q k, T, m, sg, nb, nc, tb, tc, gl⟩ := by
   intro ob x h2 s R
   have e := x s R
   have z := h2 s R
   obtain ⟨hh, g, d, tk, os⟩ := s
   clear H h2
   rcases md with _ | _
   case none => exact y_load _ _ _ _ _ _ _ _ _ _ _ _ _ _ _ _ e z
   case some fs => intro ok ps; exact s_load _ _ _ _ _ _ _ _ _ _ _ _ _ _ _ e (z ok ps)
  simp only [stepY] at H
  split at H
  ·exact H
  ·split at H
   ·split at H
    ·rename_i ob e
     obtain ⟨h1, h2⟩ := IH _ _ _ _ _ _ _ _ _ _ _ _ _ _ H
     exact ⟨h1, go ob (fun s R => R.static e) h2⟩
    ·exact H
   ·split at H
    ·rename_i j _ ob e
     obtain ⟨h1, h2⟩ := IH _ _ _ _ _ _ _ _ _ _ _ _ _ _ H
     have ea : a = sg j := Sg.a.inj (h1 _ (.head _))
     exact ⟨fun x hx => h1 x (.tail _ hx), go ob (fun s R => by rw [ea]; exact (R.own j ob e).2) h2⟩
    ·exact H
 | loadIfAlive a k =>
  have go : ∀ ob (x : ∀ s, RepY V X T m sg nb nc tb tc gl s -> s.heap.get? a = some ob), GoodY V X ⟨c, md, κ, k (some ob), T, m, sg, nb, nc, tb, tc, gl⟩ -> GoodY V X ⟨c, md, κ, .loadIfAlive a k, T, m, sg, nb, nc, tb, tc, gl⟩ := by
   intro ob x h2 s R
   have e := x s R
   have z := h2 s R
   obtain ⟨hh, g, d, tk, os⟩ := s
   clear H h2
   rcases md with _ | _
   case none => exact y_alive _ _ _ _ _ _ _ _ _ _ _ _ _ _ _ e z
   case some fs => intro ok ps; exact s_alive _ _ _ _ _ _ _ _ _ _ _ _ _ _ e (z ok ps)
  simp only [stepY] at H
  split at H
  ·exact H
  ·split at H
   ·split at H
    ·rename_i ob e
     obtain ⟨h1, h2⟩ := IH _ _ _ _ _ _ _ _ _ _ _ _ _ _ H
     exact ⟨h1, go ob (fun s R => R.static e) h2⟩
    ·exact H
   ·split at H
    ·rename_i j _ ob e
     obtain ⟨h1, h2⟩ := IH _ _ _ _ _ _ _ _ _ _ _ _ _ _ H
     have ea : a = sg j := Sg.a.inj (h1 _ (.head _))
     exact ⟨fun x hx => h1 x (.tail _ hx), go ob (fun s R => by rw [ea]; exact (R.own j ob e).2) h2⟩
    ·exact H
 | alloc ob k =>
  simp only [stepY] at H
  split at H
  ·exact H
  ·rename_i hf
   rw [insK_eq] at H
   split at H
   ·rename_i o' e
    obtain ⟨h1, h2⟩ := IH _ _ _ _ _ _ _ _ _ _ _ _ _ _ H
    refine ⟨h1, fun s R => ?_⟩
    obtain ⟨R', ea⟩ := R.alloc hf (by rw [e]; rfl)
    have z := h2 _ R'
    clear H h1 h2
    rcases md with _ | _
    case none => exact wpOwn_bind (m := alloc ob) (f := k) (wpOwn_of_wpAny (wpAny_alloc (by rw [ea]; exact z)))
    case some fs => intro ok ps; exact s_cmd _ _ _ _ _ _ (m := PySem.alloc ob) (k := k) (wpAny_alloc (by rw [ea]; exact z ok ps))
   ·exact H
 | update a q f k =>
  simp only [stepY] at H
  split at H
  ·exact H
  ·split at H
   ·exact H
   ·split at H
    ·rename_i j _ ob e
     split at H
     ·exact H
     ·rename_i hf
      rw [setK_eq] at H
      obtain ⟨h1, h2⟩ := IH _ _ _ _ _ _ _ _ _ _ _ _ _ _ H
      have ea : a = sg j := Sg.a.inj (h1 _ (.head _))
      refine ⟨fun x hx => h1 x (.tail _ hx), fun s R => ?_⟩
      have R' := R.update e hf
      have z := h2 _ R'
      have ho : s.heap.get? (sg j) = some ob := (R.own j ob e).2
      clear H h1 h2
      subst ea
      rcases md with _ | _
      case none => exact wpOwn_bind (m := updatePart (sg j) q f) (f := k) (wpOwn_of_wpAny (wpAny_updatePart ho z))
      case some fs => intro ok ps; exact s_cmd _ _ _ _ _ _ (m := updatePart (sg j) q f) (k := k) (wpAny_updatePart ho (z ok ps))
    ·exact H
 | fresh k =>
  obtain ⟨h1, h2⟩ := IH _ _ _ _ _ _ _ _ _ _ _ _ _ _ H
  refine ⟨h1, fun s R => ?_⟩
  have z := h2 _ R.tok
  have et := R.toks
  obtain ⟨hh, g, d, tk, os⟩ := s
  dsimp only at et
  clear H h1 h2
  subst et
  rcases md with _ | _
  case none => exact y_fresh _ _ _ _ _ _ _ _ _ _ _ _ _ z
  case some fs => intro ok ps; exact s_fresh _ _ _ _ _ _ _ _ _ _ _ _ (z ok ps)
 | handled own k =>
  simp only [stepY] at H
  split at H
  ·rcases md with _ | _
   case none =>
    obtain ⟨h1, h2⟩ := IH _ _ _ _ _ _ _ _ _ _ _ _ _ _ H
    exact ⟨h1, fun s R => y_handled _ _ _ _ _ _ _ _ _ (h2 s R)⟩
   case some fs =>
    obtain ⟨h1, h2⟩ := IH _ _ _ _ _ _ _ _ _ _ _ _ _ _ H
    refine ⟨h1, fun s R ok ps => s_handled _ _ _ _ _ _ _ _ ?_⟩
    have e : ((aroundY V κ).over c (frs fs ps)).handled = handledG fs (aroundY V κ).handled := by
     show (marksOver (frs fs ps) ((aroundY V κ).handled, (aroundY V κ).handled)).1 = _
     rw [frs_marks _ fs ps ok]
    rw [e]
    exact h2 s R ok ps
  ·exact H
 | stack k =>
  simp only [stepY] at H
  split at H
  ·exact H
  ·rcases md with _ | _
   case some fs => exact H
   case none =>
    dsimp only at H
    split at H
    ·split at H
     ·rename_i hb
      split at H
      ·rename_i a q k' ek
       split at H
       ·rename_i ob e
        obtain ⟨h1, h2⟩ := IH _ _ _ _ _ _ _ _ _ _ _ _ _ _ H
        have et := Sg.t.inj (h1 _ (.head _))
        refine ⟨fun x hx => h1 x (.tail _ hx), fun s R => ?_⟩
        show wpOwn _ _ _ _ _ _ _
        rw [et, <- PySem.W.R.bindR_eq]
        refine wpOwn_bind (m := enterT) (wpOwn_of_wpAny ?_)
        rw [<- enter_eq]
        refine wpAny_enterFrame (O.limit _ R.stat) ?_ (h2 s R)
        have h3 := depth_le V κ
        have h4 := weight_le c
        have h5 := bt hb
        have h6 := O.depth
        show (aroundY V κ).depth + c.weight < _
        lia
       ·exact H
      ·exact H
     ·exact H
    ·split at H
     ·rename_i j hb
      obtain ⟨h1, h2⟩ := IH _ _ _ _ _ _ _ _ _ _ _ _ _ _ H
      have et := Sg.t.inj (h1 _ (.head _))
      refine ⟨fun x hx => h1 x (.tail _ hx), fun s R => ?_⟩
      show wpOwn _ _ _ _ _ _ _
      rw [et, <- PySem.W.R.bindR_eq]
      refine wpOwn_bind (m := roomT _) (wpOwn_of_wpAny ?_)
      rw [<- room_eq]
      refine wpAny_cRoom ?_ (h2 s R)
      have h3 := units_le V κ
      have h4 := cUnits_le c
      have h5 := bt hb
      have h6 := O.units
      show (aroundY V κ).units + c.cUnits < _
      lia
     ·exact H
 | call c' hd g l k =>
  simp only [stepY] at H
  split at H
  ·rename_i q
   have hnb := okMark_ne q
   rcases md with _ | _
   case none =>
    obtain ⟨h1, h2⟩ := IH _ _ _ _ _ _ _ _ _ _ _ _ _ _ H
    refine ⟨h1, fun s R => ?_⟩
    exact y_call _ _ _ _ _ _ _ _ _ _ _ _ _ hnb (codeIn (h2 s R))
   case some fs =>
    obtain ⟨h1, h2⟩ := IH _ _ _ _ _ _ _ _ _ _ _ _ _ _ H
    refine ⟨h1, fun s R ok ps => ?_⟩
    refine s_call _ _ _ _ _ _ _ _ _ _ _ _ fun p => ?_
    rw [den_eq]
    exact h2 s R (fun f hf => by rcases mD hf with rfl | hf; exact hnb; exact ok f hf) (p :: ps)
  ·exact H
 | newGen c' k =>
  simp only [stepY] at H
  rcases md with _ | _
  case some fs => exact H
  case none =>
   obtain ⟨h1, h2⟩ := IH _ _ _ _ _ _ _ _ _ _ _ _ _ _ H
   refine ⟨h1, fun s R => ?_⟩
   obtain ⟨l, hl, e⟩ := R.shared
   have hsz : (⟨X.G₀ ++ l⟩ : Array GenState).size = V.γ + gl.length := by
    show (X.G₀ ++ l).length = _
    rw [List.length_append, O.gens, hl.length]
   have z := h2 ⟨s.heap, (⟨X.G₀ ++ l⟩ : Array GenState).push (.fresh c'), X.d, tb + tc, X.os⟩ ⟨R.size, R.grown, R.own, R.inj, R.lt, R.apart, R.mine, R.newer, R.keep, R.stat, rfl, ⟨l ++ [.fresh c'], by simp, hl.push (.fresh c')⟩, rfl, rfl⟩
   rw [e]
   exact y_newGen _ _ _ _ _ _ _ _ _ _ _ _ _ _ (by rw [hsz]; exact z)
 | genState g k =>
  simp only [stepY] at H
  split at H
  ·exact H
  ·rcases md with _ | _
   case some fs => exact H
   case none =>
    dsimp only at H
    split at H
    ·rename_i j o _ gs e
     obtain ⟨h1, h2⟩ := IH _ _ _ _ _ _ _ _ _ _ _ _ _ _ H
     have eg : g = V.γ + j := Sg.n.inj (h1 _ (.head _))
     have et := Sg.t.inj (h1 _ (.tail _ (.head _)))
     refine ⟨fun x hx => h1 x (.tail _ (.tail _ hx)), fun s R => ?_⟩
     have z := h2 s R
     show wpOwn _ _ _ _ _ _ _
     rw [et]
     obtain ⟨l, hl, es⟩ := R.shared
     obtain ⟨gg, hg, hr⟩ := hl.get e
     refine y_genState _ _ _ _ _ _ _ _ g _ gg ?_ ?_
     ·rw [es, eg]; exact (get_local O.gens).trans hg
     ·show wpOwn _ _ _ (k (gg.seen.1, none)) _ _ _
      rw [GenState.seen_fst, hr.status]
      exact z
    ·exact H
 | resume g r l k =>
  simp only [stepY] at H
  split at H
  ·exact H
  ·rcases md with _ | _
   case some fs => exact H
   case none =>
    dsimp only at H
    split at H
    ·rename_i j o _ gs e
     rcases gs with _ | _ | _ | _
     case fresh c₀ =>
      rcases r with _ | _
      case throw => exact H
      case send v =>
       cases v with
       | none =>
        obtain ⟨h1, h2⟩ := IH _ _ _ _ _ _ _ _ _ _ _ _ _ _ H
        have eg : g = V.γ + j := Sg.n.inj (h1 _ (.head _))
        refine ⟨fun x hx => h1 x (.tail _ hx), fun s R => ?_⟩
        obtain ⟨ll, hl, es⟩ := R.shared
        obtain ⟨gg, hg, hr⟩ := hl.get e
        cases hr with
        | fresh =>
         refine y_resume_f _ _ _ _ _ _ _ _ g _ _ _ (by rw [es, eg]; exact (get_local O.gens).trans hg) ?_
         rw [den_eq, eg]
         exact h2 _ (R.setG O .running) (fun _ h => nomatch h) []
       | _ => exact H
     case susp k₀ l₀ c₀ fs₀ =>
      obtain ⟨h1, h2⟩ := IH _ _ _ _ _ _ _ _ _ _ _ _ _ _ H
      have eg : g = V.γ + j := Sg.n.inj (h1 _ (.head _))
      refine ⟨fun x hx => h1 x (.tail _ hx), fun s R => ?_⟩
      obtain ⟨ll, hl, es⟩ := R.shared
      obtain ⟨gg, hg, hr⟩ := hl.get e
      cases hr with
      | susp _ _ _ _ p ps okf =>
       refine y_resume_s _ _ _ _ _ _ _ _ g r _ _ _ _ _ _ _ _ (by rw [es, eg]; exact (get_local O.gens).trans hg) ?_
       rw [eg]
       exact h2 _ (R.setG O .running) okf ps
     case running => exact H
     case finished => exact H
    ·exact H
 | yield v gd l k =>
  simp only [stepY] at H
  rcases md with _ | _
  case none => exact H
  case some fs =>
   rcases gd with _ | _
   case true => exact H
   case false =>
    dsimp only at H
    split at H
    ·exact H
    ·rename_i hfg
     rcases κ with _ | _ | _
     case base => exact H
     case ret => exact H
     case gen j c' k' κ' =>
      obtain ⟨h1, h2⟩ := IH _ _ _ _ _ _ _ _ _ _ _ _ _ _ H
      refine ⟨h1, fun s R ok ps => ?_⟩
      refine s_yield _ _ _ _ _ _ _ _ _ _ (frs_split fs ps) (by rw [frs_guarded]; exact hfg) fun p => ?_
      have hg : (End.susp v false l k c p (frs fs ps)).genState = .suspended k l c p (frs fs ps) false := by
       show GenState.suspended k l c p (frs fs ps) (false || _) = _
       rw [frs_guarded, hfg]; rfl
      show postG _ _ _ _ _ _ _ _ _ _
      unfold postG
      rw [hg]
      exact h2 _ (R.setG O (.susp k l c fs p ps ok))
 | unsupported => exact H
 | finish => exact H
 | register => exact H
 | choose => exact H
 | os => exact H
 | fork => exact H
 | thread => exact H
 | await => exact H
theorem run_sound (O : YOk V X) {K : Go} (hK : SoundGo V X K) : ∀ n, SoundGo V X (runY V K n)
 | 0 => hK
 | n + 1 => step_sound (run_sound O hK n) O
end
structure EffY (e : Ext) (x : Unk) (s s' : Shared) : Prop where
 gens : s'.gens = ⟨s.gens.toList ++ List.replicate (e.g x) .finished⟩
 drawn : s'.drawn = s.drawn
 os : s'.os = s.os
 size : s'.heap.objs.size = x.n 0 + 255
 toks : s'.toks = x.n 1
 grown : s.heap.objs.size <= s'.heap.objs.size
 set : ∀ p ∈ e.sets x, s'.heap.get? p.2.1 = some p.2.2
 new : ∀ p ∈ e.news x, s'.heap.get? p.1 = some p.2 /\ s.heap.objs.size <= p.1
 apart : ((e.news x).map (·.1)).Nodup
 keep : ∀ b o, s.heap.get? b = some o -> (∀ p ∈ e.sets x, p.2.1 ≠ b) -> s'.heap.get? b = some o
noncomputable def ExtOk (V : YV) (e : Ext) : Prop :=
 ∀ (A : Around) (s : Shared), A.handled = none -> A.depth <= V.A₀.depth + 60 -> A.units <= V.A₀.units + 1000 -> V.kt.Holds s.heap 1 0 -> 255 <= s.heap.objs.size -> (∀ p ∈ e.need, s.heap.get? p.2.1 = some p.2.2) ->
  codeAny (model V.prog V.w) A e.c (fun r s' => X1_3 (fun x => e.P x) (fun x => r = e.r x) (fun x => EffY e x s s')) s
section
variable {V : YV} {X : YX}
theorem setsT_val {P : Nat -> Obj -> Prop} : ∀ (l : List (Nat × Nat × Obj)) (T : BT), (∀ j o, T.get j = some o -> (∀ p ∈ l, p.1 ≠ j) -> P j o) -> (∀ p ∈ l, P p.1 p.2.2) -> ∀ j o, (setsT l T).get j = some o -> P j o
 | [], T, h1, _, j, o, e => h1 j o e (fun _ hp => nomatch hp)
 | (k, a, x) :: l, T, h1, h2, j, o, e => by
  refine setsT_val l (T.set k fun _ => x) (fun j o e' hn => ?_) (fun p hp => h2 p (.tail _ hp)) j o e
  rw [BT.get_set] at e'
  by_cases hj : j = k
  ·subst hj
   rw [if_pos rfl] at e'
   cases q : T.get j with
   | none => rw [q] at e'; cases e'
   | some y =>
    rw [q] at e'
    have : x = o := Option.some.inj e'
    subst this
    exact h2 (j, a, x) (.head _)
  ·rw [if_neg hj] at e'
   refine h1 j o e' fun p hp => ?_
   rcases mD hp with rfl | hp
   ·exact Ne.symm hj
   ·exact hn p hp
theorem hasAll_get : ∀ (l : List (Nat × Nat × Obj)) (T : BT), hasAll l T = true -> ∀ p ∈ l, ∃ o, T.get p.1 = some o
 | [], _, _, _, hp => nomatch hp
 | (j, a, x) :: l, T, h, p, hp => by
  unfold hasAll at h
  split at h
  ·rename_i o e
   rcases mD hp with rfl | hp
   ·exact ⟨o, e⟩
   ·exact hasAll_get l T h p hp
  ·cases h
theorem needObs_mem {T : BT} {sg : Nat -> Nat} : ∀ (l : List (Nat × Nat × Obj)) (obs : List Ob), (∀ ob ∈ needObs T sg l obs, ob.1 = ob.2) -> (∀ ob ∈ obs, ob.1 = ob.2) /\ ∀ p ∈ l, T.get p.1 = some p.2.2 /\ sg p.1 = p.2.1
 | [], _, h => ⟨h, fun _ hp => nomatch hp⟩
 | (j, a, o) :: l, obs, h => by
  obtain ⟨h1, h2⟩ := needObs_mem l _ h
  refine ⟨fun x hx => h1 x (.tail _ (.tail _ hx)), fun p hp => ?_⟩
  rcases mD hp with rfl | hp
  ·exact ⟨Sg.o.inj (h1 _ (.tail _ (.head _))), Sg.a.inj (h1 _ (.head _))⟩
  ·exact h2 p hp
theorem setObs_mem {sg : Nat -> Nat} : ∀ (l : List (Nat × Nat × Obj)) (obs : List Ob), (∀ ob ∈ setObs sg l obs, ob.1 = ob.2) -> (∀ ob ∈ obs, ob.1 = ob.2) /\ ∀ p ∈ l, sg p.1 = p.2.1
 | [], _, h => ⟨h, fun _ hp => nomatch hp⟩
 | (j, a, o) :: l, obs, h => by
  obtain ⟨h1, h2⟩ := setObs_mem l _ h
  refine ⟨fun x hx => h1 x (.tail _ hx), fun p hp => ?_⟩
  rcases mD hp with rfl | hp
  ·exact Sg.a.inj (h1 _ (.head _))
  ·exact h2 p hp
structure PreY (V : YV) (X : YX) (T : BT) (m : Nat) (sg : Nat -> Nat) (h : Heap) : Prop where
 own : ∀ j o, T.get j = some o -> j < m /\ h.get? (sg j) = some o
 inj : ∀ i j, i < m -> j < m -> sg i = sg j -> i = j
 lt : ∀ j, j < m -> sg j < h.objs.size
 apart : ∀ j o, j < m -> V.kt.get (sg j) ≠ some o
 mine : ∀ j, j < m -> sg j ∈ X.own \/ X.h₀.objs.size <= sg j
 newer : ∀ j, X.k₀ <= j -> j < m -> X.h₀.objs.size <= sg j
theorem PreY.news {h : Heap} : ∀ (l : List (Nat × Obj)) (T : BT) (m : Nat) (sg : Nat -> Nat), PreY V X T m sg h -> (∀ j, j < m -> ∀ p ∈ l, sg j ≠ p.1) ->
  newsOk l T m = true -> (∀ p ∈ l, h.get? p.1 = some p.2) -> (∀ p ∈ l, ∀ o, V.kt.get p.1 ≠ some o) -> (∀ p ∈ l, p.1 ∈ X.own \/ X.h₀.objs.size <= p.1) -> ((∀ p ∈ l, X.h₀.objs.size <= p.1) \/ m + l.length <= X.k₀) -> (l.map (·.1)).Nodup -> PreY V X (newsT l T m) (m + l.length) (newsG l sg m) h
 | [], _, _, _, R, _, _, _, _, _, _, _ => R
 | (a, o) :: l, T, m, sg, R, hd, ok, hn, hap, hmi, hne, nd => by
  unfold newsOk at ok
  split at ok
  ·rename_i y e
   rw [List.map_cons, List.nodup_cons] at nd
   have ha := hn (a, o) (.head _)
   have R' : PreY V X (T.ins m o) (m + 1) (upd sg m a) h := by
    refine ⟨fun j o' e' => ?_, fun i j hi hj q => ?_, fun j hj => ?_, fun j o' hj q => ?_, fun j hj => ?_, fun j hk hj => ?_⟩
    ·rw [BT.get_ins o T m (by rw [e]; rfl)] at e'
     by_cases hj : j = m
     ·subst hj
      rw [if_pos rfl] at e'
      cases e'
      rw [upd_self]
      exact ⟨Nat.lt_succ_self _, ha⟩
     ·rw [if_neg hj] at e'
      have z := R.own j o' e'
      rw [upd_ne hj]
      exact ⟨Nat.lt_succ_of_lt z.1, z.2⟩
    ·by_cases h1 : i = m <;> by_cases h2 : j = m
     ·rw [h1, h2]
     ·subst h1
      rw [upd_self, upd_ne h2] at q
      exact absurd q.symm (hd j (by lia) _ (.head _))
     ·subst h2
      rw [upd_self, upd_ne h1] at q
      exact absurd q (hd i (by lia) _ (.head _))
     ·rw [upd_ne h1, upd_ne h2] at q
      exact R.inj i j (by lia) (by lia) q
    ·by_cases h1 : j = m
     ·subst h1; rw [upd_self]; exact Heap.lt_size ha
     ·rw [upd_ne h1]; exact R.lt j (by lia)
    ·by_cases h1 : j = m
     ·subst h1
      rw [upd_self] at q
      exact hap (a, o) (.head _) _ q
     ·rw [upd_ne h1] at q
      exact R.apart j o' (by lia) q
    ·by_cases h1 : j = m
     ·subst h1
      rw [upd_self]
      exact hmi (a, o) (.head _)
     ·rw [upd_ne h1]; exact R.mine j (by lia)
    ·by_cases h1 : j = m
     ·subst h1
      rw [upd_self]
      rcases hne with h | h
      ·exact h (a, o) (.head _)
      ·rw [List.length_cons] at h; lia
     ·rw [upd_ne h1]; exact R.newer j hk (by lia)
   have := PreY.news l (T.ins m o) (m + 1) (upd sg m a) R' (fun j hj p hp q => ?_) ok (fun p hp => hn p (.tail _ hp)) (fun p hp => hap p (.tail _ hp)) (fun p hp => hmi p (.tail _ hp)) (hne.imp (fun h p hp => h p (.tail _ hp)) (fun h => by rw [List.length_cons] at h; lia)) nd.2
   ·rw [show m + 1 + l.length = m + (l.length + 1) by lia] at this
    exact this
   ·by_cases h1 : j = m
    ·subst h1
     rw [upd_self] at q
     exact nd.1 (by rw [q]; exact List.mem_map.mpr ⟨p, hp, rfl⟩)
    ·rw [upd_ne h1] at q
     exact hd j (by lia) p (.tail _ hp) q
  ·cases ok
theorem RepY.ext {T : BT} {m nb nc tb tc : Nat} {sg : Nat -> Nat} {gl : List GY} {s s' : Shared} (R : RepY V X T m sg nb nc tb tc gl s) {e : Ext} {x : Unk} (F : EffY e x s s') (h1 : hasAll (e.sets x) T = true) (h2 : newsOk (e.news x) (setsT (e.sets x) T) m = true)
  (hs : ∀ p ∈ e.sets x, sg p.1 = p.2.1) : RepY V X (newsT (e.news x) (setsT (e.sets x) T) m) (m + (e.news x).length) (newsG (e.news x) sg m) (x.n 0 + 255) 0 (x.n 1) 0 (gl ++ List.replicate (e.g x) .finished) s' := by
 have P0 : PreY V X (setsT (e.sets x) T) m sg s'.heap := by
  refine ⟨?_, R.inj, fun j hj => Nat.lt_of_lt_of_le (R.lt j hj) F.grown, R.apart, R.mine, R.newer⟩
  refine setsT_val (P := fun j o => j < m /\ s'.heap.get? (sg j) = some o) _ _ (fun j o e' hn => ?_) (fun p hp => ?_)
  ·have z := R.own j o e'
   refine ⟨z.1, F.keep _ _ z.2 fun p hp q => ?_⟩
   obtain ⟨o', e''⟩ := hasAll_get _ _ h1 p hp
   exact hn p hp (R.inj _ _ (R.own _ _ e'').1 z.1 ((hs p hp).trans q))
  ·obtain ⟨o', e''⟩ := hasAll_get _ _ h1 p hp
   refine ⟨(R.own _ _ e'').1, ?_⟩
   rw [hs p hp]; exact F.set p hp
 have P1 := P0.news (e.news x) _ _ _ (fun j hj p hp q => by have := R.lt j hj; have := (F.new p hp).2; rw [q] at *; lia) h2 (fun p hp => (F.new p hp).1)
  (fun p hp o q => absurd (Heap.lt_size (R.static q)) (Nat.not_lt.mpr (F.new p hp).2)) (fun p hp => .inr (Nat.le_trans R.grown (F.new p hp).2)) (.inl fun p hp => Nat.le_trans R.grown (F.new p hp).2) F.apart
 have gensExt : ∃ l, s'.gens = ⟨X.G₀ ++ l⟩ /\ GRs (gl ++ List.replicate (e.g x) .finished) l := by
  obtain ⟨l, e1, e2⟩ := R.gens
  exact ⟨l ++ List.replicate (e.g x) .finished, by rw [F.gens, e1, <- List.append_assoc], e2.pushes _⟩
 refine ⟨by rw [F.size], Nat.le_trans R.grown F.grown, P1.own, P1.inj, P1.lt, P1.apart, P1.mine, P1.newer, fun b o e' q => F.keep b o (R.keep b o e' q) fun p hp hq => ?_, ?_, by rw [F.toks]; rfl, gensExt, F.drawn.trans R.drawn, F.os.trans R.os⟩
 ·obtain ⟨o', e''⟩ := hasAll_get _ _ h1 p hp
  rcases R.mine p.1 (R.own _ _ e'').1 with h | h
  ·rw [hs p hp, hq] at h; exact q h
  ·rw [hs p hp, hq] at h
   exact absurd (Heap.lt_size e') (Nat.not_lt.mpr h)
 ·refine holds_iff.mpr fun a o e' => F.keep a o (R.static e') fun p hp hq => ?_
  obtain ⟨o', e''⟩ := hasAll_get _ _ h1 p hp
  exact R.apart p.1 o (R.own _ _ e'').1 (by rw [hs p hp, hq]; exact e')
theorem frs_frames (fs : List FrY) : ∀ ps, frameCount ((frs fs ps).map Frame.where_) <= depG fs := by
 induction fs with
 | nil => intro ps; cases ps <;> exact Nat.le_refl _
 | cons f fs ih =>
  intro ps
  have := weight_le f.c
  rcases ps with _ | _
  case nil =>
   have := ih []
   show frameCount ((f.c, default) :: (frs fs []).map Frame.where_) <= depG fs + wB f.c
   rw [frameCount_cons]; lia
  case cons p ps =>
   have := ih ps
   show frameCount ((f.c, p) :: (frs fs ps).map Frame.where_) <= depG fs + wB f.c
   rw [frameCount_cons]; lia
theorem frs_units (fs : List FrY) : ∀ ps, unitsOf ((frs fs ps).map Frame.where_) <= 10 * fs.length := by
 induction fs with
 | nil => intro ps; cases ps <;> exact Nat.le_refl _
 | cons f fs ih =>
  intro ps
  have := cUnits_le f.c
  rcases ps with _ | _
  case nil =>
   have := ih []
   show unitsOf ((f.c, default) :: (frs fs []).map Frame.where_) <= 10 * (fs.length + 1)
   rw [unitsOf_cons]; lia
  case cons p ps =>
   have := ih ps
   show unitsOf ((f.c, p) :: (frs fs ps).map Frame.where_) <= 10 * (fs.length + 1)
   rw [unitsOf_cons]; lia
theorem ext_sound (O : YOk V X) {e : Ext} {K : Unk -> Go} (hK : ∀ x, e.P x -> SoundGo V X (K x)) (E : ExtOk V e) : SoundGo V X (extY V e K) := by
 intro o c md κ t T m sg nb nc tb tc gl obs H
 by_cases good : GoodY V X ⟨c, md, κ, t, T, m, sg, nb, nc, tb, tc, gl⟩
 ·refine ⟨?_, good⟩
  cases t with
  | call c' hd g l k =>
   simp only [extY] at H
   (repeat' split at H)
   all_goals first
    | exact H.1
    | exact (needObs_mem _ _ fun x hx => H.1 x (.tail _ (.tail _ hx))).1
  | _ => exact H.1
 have inner : ∀ (k : Result -> Sem Fin) (t' : Sem Fin) (x : Unk), t' = t -> e.P x -> FinY V X (match hasAll (e.sets x) T with
      | true => match newsOk (e.news x) (setsT (e.sets x) T) m with
       | true => K x o c md κ (k (e.r x)) (newsT (e.news x) (setsT (e.sets x) T) m) (m + (e.news x).length) (newsG (e.news x) sg m) (x.n 0 + 255) 0 (x.n 1) 0 (gl ++ List.replicate (e.g x) .finished) (setObs sg (e.sets x) [])
       | false => stop 21 o c md κ t' T m sg nb nc tb tc gl []
      | false => stop 22 o c md κ t' T m sg nb nc tb tc gl []) -> ∀ s s', RepY V X T m sg nb nc tb tc gl s -> EffY e x s s' -> MeansY V X c md κ (k (e.r x)) s' := by
  clear H
  intro k t' x et px H s s' R F
  subst et
  split at H
  ·rename_i q1
   split at H
   ·rename_i q2
    obtain ⟨h1, h2⟩ := hK x px _ _ _ _ _ _ _ _ _ _ _ _ _ _ H
    obtain ⟨_, hn1⟩ := setObs_mem _ _ h1
    exact h2 s' (R.ext F q1 q2 hn1)
   ·exact absurd H.2 good
  ·exact absurd H.2 good
 cases t with
 | call c' hd g l k =>
  simp only [extY] at H
  split at H
  ·rename_i q
   have hnb := okMark_ne q
   rcases md with _ | _
   case none =>
    dsimp only at H
    split at H
    ·rename_i hb
     split at H
     ·rename_i hl
      have h1 := H.1
      have ec : c' = e.c := Sg.c.inj (h1 _ (.head _))
      have eh : hd.or (aroundY V κ).handled = none := Sg.h.inj (h1 _ (.tail _ (.head _)))
      obtain ⟨h4, hn2⟩ := needObs_mem _ _ fun x hx => h1 x (.tail _ (.tail _ hx))
      refine ⟨h4, fun s R => ?_⟩
      refine y_call _ _ _ _ _ _ _ _ _ _ _ _ _ hnb ?_
      rw [ec]
      refine codeAny_mono (E (((aroundY V κ).under c).mark hd) s eh ?_ ?_ R.stat (Nat.le_trans O.big R.grown) fun p hp => ?_) ?_
      ·have h3 := depth_le V κ
       have h4 := weight_le c
       have h5 := bt hb
       show (aroundY V κ).depth + c.weight <= _
       lia
      ·have h3 := units_le V κ
       have h4 := cUnits_le c
       have h5 := bt hl
       show (aroundY V κ).units + c.cUnits <= _
       lia
      ·have z := hn2 p hp
       rw [<- z.2]; exact (R.own _ _ z.1).2
      ·rintro r s' ⟨x, px, rfl, F⟩
       exact inner k _ x rfl px (H.2 x px) s s' R F
     ·exact absurd H.2 good
    ·exact absurd H.2 good
   case some fs =>
    rcases hd with _ | _
    case some _ => exact absurd H.2 good
    case none =>
     dsimp only at H
     split at H
     ·rename_i hb
      split at H
      ·rename_i hl
       have h1 := H.1
       have ec : c' = e.c := Sg.c.inj (h1 _ (.head _))
       have eh : handledG fs (aroundY V κ).handled = none := Sg.h.inj (h1 _ (.tail _ (.head _)))
       obtain ⟨h4, hn2⟩ := needObs_mem _ _ fun x hx => h1 x (.tail _ (.tail _ hx))
       refine ⟨h4, fun s R ok ps => ?_⟩
       have hh : ((aroundY V κ).over c (frs fs ps)).handled = none := by
        show (marksOver (frs fs ps) ((aroundY V κ).handled, (aroundY V κ).handled)).1 = _
        rw [frs_marks _ fs ps ok]; exact eh
       have key : codeAny (model V.prog V.w) (((aroundY V κ).over c (frs fs ps)).mark none) e.c (fun r s' => X1_3 (fun x => e.P x) (fun x => r = e.r x) (fun x => EffY e x s s')) s := by
        refine E _ s hh ?_ ?_ R.stat (Nat.le_trans O.big R.grown) fun p hp => ?_
        ·have h3 := depth_le V κ
         have h4 := weight_le c
         have h5 := bt hb
         have h6 := frs_frames fs ps
         show (aroundY V κ).depth + frameCount ((frs fs ps).map Frame.where_) + c.weight <= _
         lia
        ·have h3 := units_le V κ
         have h4 := cUnits_le c
         have h5 := bt hl
         have h6 := frs_units fs ps
         show (aroundY V κ).units + unitsOf ((frs fs ps).map Frame.where_) + c.cUnits <= _
         lia
        ·have z := hn2 p hp
         rw [<- z.2]; exact (R.own _ _ z.1).2
       rw [ec]
       refine s_cmd _ _ _ _ _ _ (m := Sem.call e.c none g l .pure) (k := k) (x_call ?_ (by intro x; cases x))
       refine codeAny_mono key ?_
       rintro r s' ⟨x, px, rfl, F⟩
       exact wpAny_pure (inner k _ x rfl px (H.2 x px) s s' R F ok ps)
      ·exact absurd H.2 good
     ·exact absurd H.2 good
  ·exact absurd H.2 good
 | _ => exact absurd H.2 good
theorem wpAny_own {M : Model} {A : Around} {elts : List Expr} {x1} {pos : Pos} {r a i : Nat} {ob : Obj} {rest : List Value} {Q : Unit -> Shared -> Prop} {E : Value -> Shared -> Prop} {s : Shared}
  (ho : s.heap.get? r = some ob) (hb : ob = ⟨.type (owners.getD i "zip"), ob.dict, .fields ⟨.int (.ofNat a) 0 :: rest⟩, ob.slots⟩)
  (hQ : Q () { s with heap := s.heap.update r own0 }) : wpAny M A (ownT (.Tuple elts x1 pos) (.ref r) (.ref a)) Q E s := by
 rw [<- own_eq]
 unfold letOwnedTupleGo
 refine wpAny_bind (wpAny_load ho ?_)
 have hc : ob.cls = .type (owners.getD i "zip") := by rw [hb]
 have hd : ob.data = .fields ⟨.int (.ofNat a) 0 :: rest⟩ := by rw [hb]
 rw [hc, hd]
 have hn : ["enumerate", "zip", "dict_itemiterator", "dict_reverseitemiterator", "odict_iterator", "itertools.zip_longest", "itertools.pairwise"].contains (owners.getD i "zip") = true := by
  rcases i with _ | _ | _ | i
  ·decide
  ·decide
  ·decide
  ·show _ = true
   rw [show owners.getD (i + 3) "zip" = "zip" from rfl]; decide
 show wpAny _ A (if (["enumerate", "zip", "dict_itemiterator", "dict_reverseitemiterator", "odict_iterator", "itertools.zip_longest", "itertools.pairwise"].contains (owners.getD i "zip") &&
   (⟨.int (.ofNat a) 0 :: rest⟩ : Array Value)[0]? == some (rawInt a)) = true then _ else _) Q E s
 rw [if_pos (by rw [hn]; simp [rawInt])]
 refine wpAny_bind (wpAny_rule ?_)
 unfold updateField
 refine wpAny_bind (wpAny_load ho ?_)
 rw [hd]
 dsimp only
 rw [if_pos (by show 0 < (Value.int (.ofNat a) 0 :: rest).length; simp)]
 exact wpAny_update ho hQ
theorem own_sound {j i : Nat} {K : Go} (hK : SoundGo V X K) : SoundGo V X (ownY j i K) := by
 intro o c md κ t T m sg nb nc tb tc gl obs H
 cases t with
 | load a q k =>
  simp only [ownY] at H
  split at H
  ·rename_i ob e
   split at H
   ·rename_i tg etg
    split at H
    ·rename_i tel tkk tps
     split at H
     ·rename_i vs hvs
      split at H
      ·rename_i v rest hl
       split at H
       ·split at H
        ·rename_i w _ av
         split at H
         ·exact H
         ·rename_i hf
          rw [setK_eq] at H
          obtain ⟨h1, h2⟩ := hK _ _ _ _ _ _ _ _ _ _ _ _ _ _ H
          have et := Sg.t.inj (h1 _ (.head _))
          have eo := Option.some.inj (Sg.o.inj (h1 _ (.tail _ (.head _))))
          refine ⟨fun x hx => h1 x (.tail _ (.tail _ hx)), fun s R => ?_⟩
          have R' := R.update e hf
          have z := h2 _ R'
          have ho : s.heap.get? (sg j) = some ob := (R.own j ob e).2
          show MeansY V X c md κ _ s
          rw [et, <- PySem.W.R.bindR_eq]
          rcases md with _ | _
          case none => exact wpOwn_bind (wpOwn_of_wpAny (wpAny_own (i := i) ho eo z))
          case some fs =>
           intro ok ps
           have y := s_cmd V.prog V.w (aroundY V κ) c (frs fs ps) (wakeY V X κ) (m := ownT (.Tuple tel tkk tps) (.ref (sg j)) (.ref av)) (k := fun _ => k (own0 ob)) (wpAny_own (i := i) ho eo (z ok ps))
           rw [<- Sem.bind_eq_wrap] at y
           exact y
        ·exact H
       ·exact H
      ·exact H
     ·exact H
    ·exact H
   ·exact H
  ·exact H
 | _ => exact H
theorem wpOwn_noComps {M : Model} {A : Around} {body : List Stmt} {env' : Env} {Q : List Env -> Shared -> Prop} {E : Value -> Shared -> Prop} {s : Shared} (h : Q [] s) : wpOwn M A (.func body env') comprehensionsAround Q E s := by
 unfold comprehensionsAround callersCodes
 refine wpOwn_bind (wpOwn_bind (wpOwn_stack fun p below _ _ _ => ?_))
 try dsimp only
 split
 ·rename_i hc
  exact absurd (show (some env'.frame != some env'.frame) = true from hc) (by simp)
 ·first
   | refine wpOwn_of_wpAny (wpAny_pure (wpOwn_of_wpAny (wpAny_pure ?_)))
   | refine wpOwn_bind (wpOwn_of_wpAny (wpAny_pure (wpOwn_of_wpAny (wpAny_pure (wpOwn_of_wpAny (wpAny_pure ?_))))))
  have e : pastTheWaiting ((.func body env', p) :: below) = (.func body env', p) :: pastTheWaiting.go false (some (.func body env')) below := rfl
  rw [e]
  exact h
theorem look_sound {F : List Env -> Sem Fin} {K : Go} (hK : SoundGo V X K) : SoundGo V X (lookY F K) := by
 intro o c md κ t T m sg nb nc tb tc gl obs H
 rcases md with _ | _
 case some fs => exact H
 case none =>
  cases c with
  | func body env =>
   obtain ⟨h1, h2⟩ := hK _ _ _ _ _ _ _ _ _ _ _ _ _ _ H
   have et := Sg.t.inj (h1 _ (.head _))
   refine ⟨fun x hx => h1 x (.tail _ hx), fun s R => ?_⟩
   show wpOwn _ _ _ _ _ _ _
   rw [et, <- PySem.W.R.bindR_eq, <- comps_eq]
   exact wpOwn_bind (wpOwn_noComps (h2 s R))
  | _ => exact H
noncomputable def OkAll (V : YV) : Acts -> Prop
 | .done => True
 | .go _ _ r => OkAll V r
 | .own _ _ r => OkAll V r
 | .look _ r => OkAll V r
 | .ext e r => ExtOk V e /\ ∀ x, e.P x -> OkAll V (r x)
theorem exec_sound (O : YOk V X) : ∀ as, OkAll V as -> SoundGo V X (exec V as)
 | .done, _ => stop_sound 0
 | .go n o r, h => fun _ c md κ t T m sg nb nc tb tc gl obs H => run_sound O (fun _ c md κ t T m sg nb nc tb tc gl obs H => exec_sound O r h [] c md κ t T m sg nb nc tb tc gl obs H) n o c md κ t T m sg nb nc tb tc gl obs H
 | .own j i r, h => own_sound (exec_sound O r h)
 | .look F r, h => look_sound (exec_sound O r h)
 | .ext e r, h => ext_sound O (fun x px => exec_sound O (r x) (h.2 x px)) h.1
theorem fin_of_flat : ∀ (o : Out), (∀ xs, o.lefts xs = o.rights xs) -> (∀ xs, o.met xs -> GoodY V X (o.flat xs).2.1) -> FinY V X o := by
 have pairs : ∀ l : List Ob, l.map (·.1) = l.map (·.2) -> ∀ ob ∈ l, ob.1 = ob.2 := by
  intro l
  induction l with
  | nil => intro _ _ h; cases h
  | cons x l ih =>
   intro e ob h
   rw [List.map_cons, List.map_cons] at e
   injection e with e1 e2
   rcases mD h with rfl | h
   ·exact e1
   ·exact ih e2 ob h
 intro o
 induction o with
 | fin obs st n =>
  intro h1 h2
  exact ⟨pairs _ (h1 fun _ => ⟨fun _ => 0, fun _ => .none, fun _ => Str.empty, fun _ => #[], fun _ => #[]⟩), h2 (fun _ => ⟨fun _ => 0, fun _ => .none, fun _ => Str.empty, fun _ => #[], fun _ => #[]⟩) trivial⟩
 | ask obs P f ih =>
  intro h1 h2
  have sh : ∀ x (xs : Nat -> Unk), ∃ ys : Nat -> Unk, ys 0 = x /\ (fun k => ys (k + 1)) = xs := fun x xs => ⟨fun | 0 => x | k + 1 => xs k, rfl, rfl⟩
  have e : ∀ ys, (Out.ask obs P f).flat ys = (obs ++ ((f (ys 0)).flat fun k => ys (k + 1)).1, ((f (ys 0)).flat fun k => ys (k + 1)).2) := fun ys => rfl
  refine ⟨fun ob h => ?_, fun x px => ih x (fun xs => ?_) (fun xs hm => ?_)⟩
  ·have z := pairs _ (h1 fun _ => ⟨fun _ => 0, fun _ => .none, fun _ => Str.empty, fun _ => #[], fun _ => #[]⟩)
   rw [e] at z
   exact z ob (List.mem_append.mpr (.inl h))
  ·obtain ⟨ys, rfl, rfl⟩ := sh x xs
   have z := pairs _ (h1 ys)
   rw [e] at z
   show List.map _ _ = List.map _ _
   exact List.map_congr_left fun ob h => z ob (List.mem_append.mpr (.inr h))
  ·obtain ⟨ys, rfl, rfl⟩ := sh x xs
   have z := h2 ys ⟨px, hm⟩
   rw [e] at z
   exact z
theorem good_by (O : YOk V X) (as : Acts) (h : OkAll V as) {c : Code} {md : Option (List FrY)} {κ : KY} {t : Sem Fin} {T : BT} {m : Nat} {sg : Nat -> Nat} {nb nc tb tc : Nat} {gl : List GY}
  (he : ∀ xs, (exec V as [] c md κ t T m sg nb nc tb tc gl []).lefts xs = (exec V as [] c md κ t T m sg nb nc tb tc gl []).rights xs)
  (hg : ∀ xs, (exec V as [] c md κ t T m sg nb nc tb tc gl []).met xs -> GoodY V X ((exec V as [] c md κ t T m sg nb nc tb tc gl []).flat xs).2.1) : GoodY V X ⟨c, md, κ, t, T, m, sg, nb, nc, tb, tc, gl⟩ :=
 (exec_sound O as h _ _ _ _ _ _ _ _ _ _ _ _ _ _ (fin_of_flat _ he hg)).2
end
structure Still (s s' : Shared) : Prop where
 heap : s'.heap = s.heap
 gens : s'.gens = s.gens
 drawn : s'.drawn = s.drawn
 os : s'.os = s.os
theorem Still.refl (s : Shared) : Still s s := ⟨rfl, rfl, rfl, rfl⟩
noncomputable def uk (l : List Nat) (v : List Value := []) (st : List Str := []) (d : List (Array DictEntry) := []) (a : List (Array Value) := []) : Unk :=
 ⟨fun i => l.getD i 0, fun i => v.getD i .none, fun i => st.getD i Str.empty, fun i => d.getD i #[], fun i => a.getD i #[]⟩
structure Eff (own : List Nat) (n : Nat) (s s' : Shared) : Prop where
 gens : s'.gens = ⟨s.gens.toList ++ List.replicate n .finished⟩
 drawn : s'.drawn = s.drawn
 os : s'.os = s.os
 grown : s.heap.objs.size <= s'.heap.objs.size
 keep : ∀ b o, s.heap.get? b = some o -> b ∉ own -> s'.heap.get? b = some o
theorem Still.eff {s s' : Shared} (S : Still s s') : Eff [] 0 s s' := ⟨by rw [S.gens]; simp, S.drawn, S.os, by rw [S.heap]; exact Nat.le_refl _, fun b o e _ => by rw [S.heap]; exact e⟩
theorem Eff.trans {l l' : List Nat} {n n' : Nat} {s s' s'' : Shared} (E : Eff l n s s') (F : Eff l' n' s' s'') (h : ∀ b ∈ l', b ∈ l \/ s.heap.objs.size <= b) : Eff l (n + n') s s'' := by
 refine ⟨?_, F.drawn.trans E.drawn, F.os.trans E.os, Nat.le_trans E.grown F.grown, fun b o e q => F.keep b o (E.keep b o e q) fun hb => ?_⟩
 ·rw [F.gens, E.gens]; simp [List.replicate_append_replicate]
 ·rcases h b hb with h | h
  ·exact q h
  ·exact absurd (Heap.lt_size e) (Nat.not_lt.mpr h)
theorem Eff.effY {own : List Nat} {n : Nat} {s s' : Shared} (E : Eff own n s s') {e : Ext} {x : Unk} (hg : e.g x = n) (hb : 255 <= s.heap.objs.size) (h0 : x.n 0 = s'.heap.objs.size - 255) (h1 : x.n 1 = s'.toks)
  (hs : ∀ p ∈ e.sets x, s'.heap.get? p.2.1 = some p.2.2) (hn : ∀ p ∈ e.news x, s'.heap.get? p.1 = some p.2 /\ s.heap.objs.size <= p.1) (nd : ((e.news x).map (·.1)).Nodup) (ho : ∀ a ∈ own, ∃ p ∈ e.sets x, p.2.1 = a) : EffY e x s s' := by
 refine ⟨by rw [hg]; exact E.gens, E.drawn, E.os, ?_, h1.symm, E.grown, hs, hn, nd, fun b o e q => E.keep b o e fun hm => ?_⟩
 ·have := E.grown; lia
 ·obtain ⟨p, hp, e⟩ := ho b hm
  exact q p hp e
noncomputable def g0 : Unk -> Nat := fun _ => 0
noncomputable def xPure (c : Code) (v : Tok -> Value) : Ext := ⟨c, [], fun x => .ok (.ret (v (x.n 2))), fun _ => [], fun _ => [], fun _ => True, g0⟩
theorem okPure {V : YV} {c : Code} {v : Tok -> Value} (h : ∀ (A : Around) (R : Result -> Shared -> Prop) (s : Shared), (∀ tk s', Still s s' -> R (.ok (.ret (v tk))) s') -> codeAny (model V.prog V.w) A c R s) : ExtOk V (xPure c v) := by
 intro A s _ _ _ _ hb _
 refine h A _ s fun tk s' S => ⟨uk [s'.heap.objs.size - 255, s'.toks, tk], trivial, rfl, ?_⟩
 exact S.eff.effY rfl hb rfl rfl (fun _ h => nomatch h) (fun _ h => nomatch h) List.nodup_nil (fun _ h => nomatch h)
noncomputable def MadeIs (m : Made) (v : Tok -> Value) : Prop := ∀ (Q : Value -> Shared -> Prop) (s : Shared), (∀ tk s', Still s s' -> Q (v tk) s') -> m.post Q s
theorem madeVal (u : Value) : MadeIs (.val u) fun _ => u := fun Q s h => h 0 s (.refl s)
theorem madeInt (i : Int) : MadeIs (.int i) fun t => .int i t := fun Q s h => h _ _ ⟨rfl, rfl, rfl, rfl⟩
theorem madeStr {x : Str} (hx : x.length <= sizeLine) : MadeIs (.str x) fun t => .str x t := fun Q s h => ⟨hx, h _ _ ⟨rfl, rfl, rfl, rfl⟩⟩
theorem madeValStr (x : Str) (u : Tok) : MadeIs (.val (.str x u)) fun t => .str x t := fun Q s h => h u s (.refl s)
theorem okSlot {V : YV} {T : String} {name : Str} {id : String} {B : Builtin} {self : Value} {rest : List Value} {m : Made} {v : Tok -> Value} (slot : Slot T name id) (hT : ∀ s : Shared, s.TypeIs self T) (entry : entryFor table id = some B)
  (args : argsOk id ⟨self :: rest, []⟩) (g : Gives (B ⟨self :: rest, []⟩) m) (hm : MadeIs m v) : ExtOk V (xPure (.call (.builtin id) ⟨self :: rest, []⟩) v) :=
 okPure fun A R s h => codeAny_call_builtin slot.plain entry (slot.check _ _ _ _ _ _ _ _ (hT s) args (g V.prog V.w A R s (hm _ s h)))
theorem okFn {V : YV} {id : String} {B : Builtin} {as : List Value} {m : Made} {v : Tok -> Value} (kind : builtinKind id = none) (plain : plainId id = true) (entry : entryFor table id = some B) (ok : argsOk id ⟨as, []⟩)
  (g : Gives (B ⟨as, []⟩) m) (hm : MadeIs m v) : ExtOk V (xPure (.call (.builtin id) ⟨as, []⟩) v) := by
 refine okPure fun A R s h => codeAny_call_builtin plain entry ?_
 have hfin := g V.prog V.w A R s (hm _ s h)
 simp only [checkBuiltinCall, kind]
 cases hsig : Manifest.signature? id with
 | none => exact wpAny_pure hfin
 | some sig =>
  simp only [argsOk, hsig] at ok
  have h2 : Bind.checkArgs id sig ⟨as, []⟩ = pure () := ok
  show wpAny _ _ (Bind.checkArgs id sig ⟨as, []⟩) _ _ s
  rw [h2]; exact wpAny_pure hfin
theorem one_fits (c : Nat) : (⟨#[c]⟩ : Str).length <= sizeLine := by show 1 <= 2 ^ 24; decide
noncomputable def xPureN (c : Code) (need : List (Nat × Nat × Obj)) (v : Tok -> Value) : Ext := ⟨c, need, fun x => .ok (.ret (v (x.n 2))), fun _ => [], fun _ => [], fun _ => True, g0⟩
theorem okPureN {V : YV} {c : Code} {need : List (Nat × Nat × Obj)} {v : Tok -> Value} (h : ∀ (A : Around) (R : Result -> Shared -> Prop) (s : Shared), A.handled = none -> A.depth <= V.A₀.depth + 60 -> A.units <= V.A₀.units + 1000 -> V.kt.Holds s.heap 1 0 -> (∀ p ∈ need, s.heap.get? p.2.1 = some p.2.2) ->
  (∀ tk s', Still s s' -> R (.ok (.ret (v tk))) s') -> codeAny (model V.prog V.w) A c R s) : ExtOk V (xPureN c need v) := by
 intro A s hA hd hu hk hb hn
 refine h A _ s hA hd hu hk hn fun tk s' S => ⟨uk [s'.heap.objs.size - 255, s'.toks, tk], trivial, rfl, ?_⟩
 exact S.eff.effY rfl hb rfl rfl (fun _ h => nomatch h) (fun _ h => nomatch h) List.nodup_nil (fun _ h => nomatch h)
noncomputable abbrev tup (vs : Array Value) : Obj := { cls := .type "tuple", data := .seq vs 0 }
noncomputable abbrev listObj (items : Array Value) (n : Nat) : Obj := { cls := .type "list", data := .seq items n }
noncomputable abbrev xLIdx (j l : Nat) (items : Array Value) (n : Nat) (k : Int) (t : Tok) (v : Value) : Ext := xPureN (.call (.builtin "list.__getitem__") ⟨[.ref l, .int k t], []⟩) [(j, l, listObj items n)] fun _ => v
theorem ok_xLIdx {V : YV} (j l : Nat) (items : Array Value) (n : Nat) (k : Int) (t : Tok) (v : Value) (h0 : 0 <= k) (hfit : k < 2 ^ 63) (hx : items[k.toNat]? = some v) : ExtOk V (xLIdx j l items n k t v) := by
 refine okPureN fun A R s hA hd hu hk hn h => ?_
 have ho : s.heap.get? l = some (listObj items n) := hn _ (.head _)
 refine codeAny_call_builtin slot_list_getitem.plain entry_list_getitem (slot_list_getitem.check _ _ _ _ _ _ _ _ (Heap.IsList.typeIs ⟨_, ho, rfl, n, rfl⟩) (args_list_getitem _ _) ?_)
 show wpAny _ _ (Builtin.List.listSubscript? (.int k t) >>= _) _ _ s
 refine wpAny_bind (wpAny_listSubscript_int (fitsIndex_of h0 hfit) ?_)
 obtain ⟨i, rfl⟩ := Int.eq_ofNat_of_zero_le h0
 have hx' : items[i]? = some v := hx
 show wpAny _ _ ((seqItemAt l i >>= fun r => pure (r.map (i, ·))) >>= _) _ _ s
 refine wpAny_bind (wpAny_bind (wpAny_seqItemAt ho rfl (wpAny_pure ?_)))
 rw [hx']
 first
  | exact wpAny_bind (wpAny_pure (wpAny_pure (h 0 s (.refl s))))
  | exact wpAny_pure (wpAny_pure (h 0 s (.refl s)))
  | exact wpAny_pure (h 0 s (.refl s))
noncomputable abbrev xFdiv (a : Int) (t : Tok) (b : Int) (u : Tok) : Ext := xPure (.call (.builtin "int.__floordiv__") ⟨[.int a t, .int b u], []⟩) fun k => .int (a.fdiv b) k
noncomputable abbrev xMod (a : Int) (t : Tok) (b : Int) (u : Tok) : Ext := xPure (.call (.builtin "int.__mod__") ⟨[.int a t, .int b u], []⟩) fun k => .int (a.fmod b) k
noncomputable abbrev xAdd (a : Int) (t : Tok) (b : Int) (u : Tok) : Ext := xPure (.call (.builtin "int.__add__") ⟨[.int a t, .int b u], []⟩) fun k => .int (a + b) k
noncomputable abbrev xEqI (a : Int) (t : Tok) (b : Int) (u : Tok) (r : Bool) : Ext := xPure (.call (.builtin "int.__eq__") ⟨[.int a t, .int b u], []⟩) fun _ => .bool r
noncomputable abbrev xChr (a : Int) (t : Tok) : Ext := xPure (.call (.builtin "chr") ⟨[.int a t], []⟩) fun k => .str ⟨#[a.toNat]⟩ k
noncomputable abbrev xSIdx (x : Str) (t : Tok) (i : Int) (u : Tok) (c : Nat) : Ext := xPure (.call (.builtin "str.__getitem__") ⟨[.str x t, .int i u], []⟩) fun k => .str ⟨#[c]⟩ k
noncomputable abbrev xSAdd (x : Str) (t : Tok) (y : Str) (u : Tok) : Ext := xPure (.call (.builtin "str.__add__") ⟨[.str x t, .str y u], []⟩) fun k => .str (x ++ y) k
noncomputable abbrev xSMul (x : Str) (t : Tok) (n : Int) (u : Tok) (y : Str) : Ext := xPure (.call (.builtin "str.__mul__") ⟨[.str x t, .int n u], []⟩) fun k => .str y k
section
variable {V : YV}
theorem ok_xAdd (a : Int) (t : Tok) (b : Int) (u : Tok) : ExtOk V (xAdd a t b u) := okSlot F.slot_int_add (fun s => typeIs_int s a t) F.entry_int_add (F.args_int_add_2 _ _) (gives_int_add a b t u) (madeInt _)
theorem ok_xEqI (a : Int) (t : Tok) (b : Int) (u : Tok) {r : Bool} (h : (a == b) = r) : ExtOk V (xEqI a t b u r) := okSlot F.slot_int_eq (fun s => typeIs_int s a t) F.entry_int_eq (F.args_int_eq_2 _ _) (gives_int_eq a b t u) (by rw [h]; exact madeVal _)
theorem ok_xSAdd (x : Str) (t : Tok) (y : Str) (u : Tok) (h : (x ++ y).length <= sizeLine) : ExtOk V (xSAdd x t y u) := by
 refine okSlot F.slot_str_add (fun s => typeIs_str s x t) F.entry_str_add (F.args_str_add_2 _ _) (gives_str_add x y t u) ?_
 split
 ·rename_i e
  have : x ++ y = y := by
   have e := eq_of_beq e
   obtain ⟨⟨l⟩⟩ := x
   rcases l with _ | _
   case nil => exact Str.empty_append y
   case cons a l => simp [Str.length] at e
  rw [this]; exact madeValStr _ _
 ·split
  ·rename_i e
   have : x ++ y = x := by
    have e := eq_of_beq e
    obtain ⟨⟨l⟩⟩ := y
    rcases l with _ | _
    case nil => exact Str.append_empty x
    case cons a l => simp [Str.length] at e
   rw [this]; exact madeValStr _ _
  ·exact madeStr h
theorem ok_xSIdx (x : Str) (t : Tok) (i : Int) (u : Tok) (c : Nat) (hr : (decide (i < -(2 ^ 63 : Int)) || decide (i ≥ 2 ^ 63)) = false) (h : (seqIndex? i x.length).bind (x.cps[·]?) = some c) : ExtOk V (xSIdx x t i u c) := by
 refine okSlot F.slot_str_getitem (fun s => typeIs_str s x t) F.entry_str_getitem (F.args_str_getitem_2 _ _) (gives_str_getitem x i t u c hr h) ?_
 exact madeStr (one_fits _)
theorem ok_xChr (a : Int) (t : Tok) (h : (decide (a < 0) || decide (a > 0x10FFFF)) = false) : ExtOk V (xChr a t) :=
 okFn F.kind_chr F.plain_chr F.entry_chr (F.args_chr1 _) (gives_chr a t h) (madeStr (one_fits _))
theorem ok_xFdiv (a : Int) (t : Tok) (b : Int) (u : Tok) (h : b ≠ 0) (hp : b.natAbs < 1073741824) : ExtOk V (xFdiv a t b u) := by
 refine okSlot F.slot_int_floordiv (fun s => typeIs_int s a t) F.entry_int_floordiv (F.args_int_floordiv_2 _ _) (m := .int (a.fdiv b)) ?_ (madeInt _)
 refine .of_wp fun M A E s Q h' => ?_
 have hb' : (b == 0) = false := by simpa using h
 show wpAny _ _ (do
  if b == 0 then rule "int.floordiv.zero"; raiseError "ZeroDivisionError" "integer division or modulo by zero"
  Builtin.roomForPylong a b
  ret (<- mkInt (a.fdiv b))) _ _ s
 simp only [hb', Bool.false_eq_true, if_false]
 exact wpAny_bind (wpAny_roomForPylong (.inl (PyProof.noPylong_small hp)) (wpAny_ret_mkInt h'))
theorem ok_xMod (a : Int) (t : Tok) (b : Int) (u : Tok) (h : b ≠ 0) : ExtOk V (xMod a t b u) := by
 refine okSlot F.slot_int_mod (fun s => typeIs_int s a t) F.entry_int_mod (F.args_int_mod_2 _ _) (m := .int (a.fmod b)) ?_ (madeInt _)
 refine .of_wp fun M A E s Q h' => ?_
 have hb' : (b == 0) = false := by simpa using h
 show wpAny _ _ (do
  if b == 0 then rule "int.mod.zero"; raiseError "ZeroDivisionError" "integer modulo by zero"
  ret (<- mkInt (a.fmod b))) _ _ s
 simp only [hb', Bool.false_eq_true, if_false]
 exact wpAny_ret_mkInt h'
theorem ok_xSMul (x : Str) (t : Tok) (n : Int) (u : Tok) (y : Str) (h0 : 0 <= n) (h1 : n < 4) (hx : x.length = 1) (hy : y = ⟨(List.replicate n.toNat x.cps).foldl (· ++ ·) #[]⟩) : ExtOk V (xSMul x t n u y) := by
 refine okSlot F.slot_str_mul (fun s => typeIs_str s x t) F.entry_str_mul (F.args_str_mul_2 _ _) (gives_str_mul x n t u ?_ ?_ ?_) ?_
 ·rcases (show n = 0 \/ n = 1 \/ n = 2 \/ n = 3 by lia) with rfl | rfl | rfl | rfl <;> decide
 ·intro h2 _
  rw [hx]
  rcases (show n = 0 \/ n = 1 \/ n = 2 \/ n = 3 by lia) with rfl | rfl | rfl | rfl <;> first | exact absurd (by decide) h2 | decide
 ·intro _ _
  rw [hx]
  rcases (show n = 0 \/ n = 1 \/ n = 2 \/ n = 3 by lia) with rfl | rfl | rfl | rfl <;> decide +kernel
 ·have hc : ∃ c, x = ⟨#[c]⟩ := by
   obtain ⟨⟨l⟩⟩ := x
   rcases l with _ | _
   case nil => simp [Str.length] at hx
   case cons c l => cases l with
    | nil => exact ⟨c, rfl⟩
    | cons d l => simp [Str.length] at hx
  obtain ⟨c, rfl⟩ := hc
  subst hy
  rcases (show n = 0 \/ n = 1 \/ n = 2 \/ n = 3 by lia) with rfl | rfl | rfl | rfl
  ·exact madeStr (by decide)
  ·exact madeValStr _ _
  ·exact madeStr (by show 2 <= 2 ^ 24; decide)
  ·exact madeStr (by show 3 <= 2 ^ 24; decide)
end
noncomputable def wW (b1 b2 : Bool) (w : World) : World := (w.withFollow "special-get-raises" b1).withFollow "comprehension-iter-twice" b2
noncomputable abbrev theProg : Program := PySem.Challenge.pw_in0006_01
noncomputable def whats : List String := ["comparison", "enumerate", "list", "call"]
noncomputable def VV (b1 b2 : Bool) (w : World) (dep un : Nat) (fr : Option (List Env)) (gs : Option (List Code)) (γ : Nat) : YV :=
 ⟨theProg, wW b1 b2 w, ktop (wW b1 b2 w).params, ⟨none, dep, fr, gs, un⟩, γ, whats⟩
noncomputable def Stat (b1 b2 : Bool) (w : World) (h : Heap) : Prop := (ktop (wW b1 b2 w).params).Holds h 1 0
noncomputable def KT.dep : KT -> Nat
 | .nil => 0
 | .node _ l r => max (KT.dep l) (KT.dep r) + 1
theorem KT.get_none : ∀ (t : KT) (a : Nat), 2 ^ KT.dep t <= a + 1 -> t.get a = none
 | .nil, _, _ => rfl
 | .node v l r, a, h => by
  have e : 2 ^ KT.dep (.node v l r) = 2 * 2 ^ max (KT.dep l) (KT.dep r) := by rw [KT.dep, Nat.pow_succ, Nat.mul_comm]
  rw [e] at h
  have hl : 2 ^ KT.dep l <= 2 ^ max (KT.dep l) (KT.dep r) := Nat.pow_le_pow_right (by lia) (Nat.le_max_left _ _)
  have hr : 2 ^ KT.dep r <= 2 ^ max (KT.dep l) (KT.dep r) := Nat.pow_le_pow_right (by lia) (Nat.le_max_right _ _)
  have hp : 0 < 2 ^ max (KT.dep l) (KT.dep r) := Nat.pow_pos (by lia)
  rw [KT.get_node, if_neg (by lia)]
  split
  ·exact KT.get_none l _ (by lia)
  ·exact KT.get_none r _ (by lia)
theorem ktop_dep (P : Params) : KT.dep (ktop P) = 8 := by kernel_rfl
theorem ktop_none {P : Params} {a : Nat} (h : 255 <= a) : (ktop P).get a = none := KT.get_none _ _ (by rw [ktop_dep]; lia)
theorem ktop_48 (P : Params) : (ktop P).get 48 = none := by kernel_rfl
theorem ktop_114 (P : Params) : (ktop P).get 114 = none := by kernel_rfl
theorem ktop_2 (P : Params) : (ktop P).get 2 = some (o2 P) := by kernel_rfl
theorem o2_data (P : Params) : X2_3 (fun es n => (o2 P).data = .dict es n) (fun es n => (es.toList.all fun e => match e.key with | .str .. => true | _ => false) = true) (fun es n => nsFind es "sys.recursionlimit" = none) := ⟨_, _, rfl, by kernel_rfl, by kernel_rfl⟩
theorem limitOf {P : Params} {h : Heap} (H : (ktop P).Holds h 1 0) : h.NoLimit := by
 have z := holds_iff.mp H 2 _ (ktop_2 P)
 obtain ⟨es, n, hd, hk, hn⟩ := o2_data P
 refine ⟨_, ⟨_, es, n, z, hd, ?_, fun _ => rfl⟩, hn⟩
 intro e he
 have := List.all_eq_true.mp hk e (by simpa using he)
 cases hq : e.key with
 | str a t => exact ⟨a, t, rfl⟩
 | _ => rw [hq] at this; cases this
theorem okV {b1 b2 : Bool} {w : World} {dep un : Nat} {fr : Option (List Env)} {gs : Option (List Code)} {h₀ : Heap} {own : List Nat} {k₀ : Nat} {d : Drawn} {os : OsState} {G₀ : List GenState} {R : Result -> Shared -> Prop}
  (hd : dep + 60 < recursionLimit) (hu : un + 1000 < cLine) (hb : 255 <= h₀.objs.size) : YOk (VV b1 b2 w dep un fr gs G₀.length) ⟨h₀, own, k₀, d, os, G₀, R⟩ := ⟨rfl, fun h H => limitOf H, hd, hu, hb⟩
theorem ktop_254 (P : Params) : ((ktop P).get 254).isSome = true := by kernel_rfl
theorem Stat.big {b1 b2 : Bool} {w : World} {h : Heap} (H : Stat b1 b2 w h) : 255 <= h.objs.size := by
 have z := ktop_254 (wW b1 b2 w).params
 cases e : (ktop (wW b1 b2 w).params).get 254 with
 | none => rw [e] at z; cases z
 | some o => exact Heap.lt_size (holds_iff.mp H 254 o e)
noncomputable def Dyn (a : Nat) : Prop := 255 <= a \/ a = 48 \/ a = 114
theorem Dyn.none {P : Params} {a : Nat} (h : Dyn a) : (ktop P).get a = none := by
 rcases h with h | rfl | rfl
 ·exact ktop_none h
 ·exact ktop_48 P
 ·exact ktop_114 P
theorem start {b1 b2 : Bool} {w : World} {dep un : Nat} {fr : Option (List Env)} {gs : Option (List Code)} {s : Shared} {R : Result -> Shared -> Prop} (l : List (Nat × Obj)) (hs : Stat b1 b2 w s.heap)
  (hl : ∀ p ∈ l, s.heap.get? p.1 = some p.2 /\ Dyn p.1) (nd : (l.map (·.1)).Nodup) (ok : newsOk l .nil 0 = true) :
  RepY (VV b1 b2 w dep un fr gs s.gens.toList.length) ⟨s.heap, l.map (·.1), l.length, s.drawn, s.os, s.gens.toList, R⟩ (newsT l .nil 0) l.length (newsG l (fun _ => 0) 0) s.heap.objs.size 0 s.toks 0 [] s := by
 have P := PreY.news (V := VV b1 b2 w dep un fr gs s.gens.toList.length) (X := ⟨s.heap, l.map (·.1), l.length, s.drawn, s.os, s.gens.toList, R⟩) (h := s.heap) l .nil 0 (fun _ => 0)
  ⟨fun _ _ e => (nomatch e), fun _ _ h => absurd h (Nat.not_lt_zero _), fun _ h => absurd h (Nat.not_lt_zero _), fun _ _ h => absurd h (Nat.not_lt_zero _), fun _ h => absurd h (Nat.not_lt_zero _), fun _ _ h => absurd h (Nat.not_lt_zero _)⟩
  (fun _ h => absurd h (Nat.not_lt_zero _)) ok (fun p hp => (hl p hp).1) (fun p hp o e => by rw [show (VV b1 b2 w dep un fr gs s.gens.toList.length).kt = ktop (wW b1 b2 w).params from rfl, (hl p hp).2.none] at e; cases e) (fun p hp => .inl (List.mem_map_of_mem hp)) (.inr (by rw [Nat.zero_add]; exact Nat.le_refl _)) nd
 rw [Nat.zero_add] at P
 exact ⟨rfl, Nat.le_refl _, P.own, P.inj, P.lt, P.apart, P.mine, P.newer, fun b o e _ => e, hs, rfl, ⟨[], by simp, .nil⟩, rfl, rfl⟩
set_option genInjectivity true in
structure See where
 md : Option (List FrY)
 κ : KY
 t : Sem Fin
 gl : List GY
 objs : List (Option Obj × Nat)
noncomputable def St.see (st : St) (js : List Nat) : See := ⟨st.md, st.κ, st.t, st.gl, js.map fun j => (st.T.get j, st.sg j)⟩
noncomputable def Out.check (o : Out) (xs : Nat -> Unk) (js : List Nat) : List Sg × See := ((o.flat xs).1.map (·.1), (o.flat xs).2.1.see js)
noncomputable def Out.wants (o : Out) (xs : Nat -> Unk) (e : See) : List Sg × See := ((o.flat xs).1.map (·.2), e)
theorem codeBy {b1 b2 : Bool} {w : World} {dep un : Nat} {fr : Option (List Env)} {gs : Option (List Code)} {s : Shared} {R : Result -> Shared -> Prop} {c : Code} (l : List (Nat × Obj)) (as : Nat -> Acts) (js : List Nat) (see : Nat -> (Nat -> Unk) -> See) (hs : Stat b1 b2 w s.heap)
  (hl : ∀ p ∈ l, s.heap.get? p.1 = some p.2 /\ Dyn p.1) (nd : (l.map (·.1)).Nodup) (ok : newsOk l .nil 0 = true) (hd : dep + 60 < recursionLimit) (hu : un + 1000 < cLine)
  (ha : ∀ nb, OkAll (VV b1 b2 w dep un fr gs s.gens.toList.length) (as nb))
  (he : ∀ nb xs, ((exec (VV b1 b2 w dep un fr gs s.gens.toList.length) (as nb) [] c none .base (den c) (newsT l .nil 0) l.length (newsG l (fun _ => 0) 0) (nb + 255) 0 s.toks 0 [] []).check xs js) =
   (exec (VV b1 b2 w dep un fr gs s.gens.toList.length) (as nb) [] c none .base (den c) (newsT l .nil 0) l.length (newsG l (fun _ => 0) 0) (nb + 255) 0 s.toks 0 [] []).wants xs (see nb xs))
  (hg : ∀ nb xs st, nb + 255 = s.heap.objs.size -> (exec (VV b1 b2 w dep un fr gs s.gens.toList.length) (as nb) [] c none .base (den c) (newsT l .nil 0) l.length (newsG l (fun _ => 0) 0) (nb + 255) 0 s.toks 0 [] []).met xs -> st.see js = see nb xs ->
   GoodY (VV b1 b2 w dep un fr gs s.gens.toList.length) ⟨s.heap, l.map (·.1), l.length, s.drawn, s.os, s.gens.toList, R⟩ st) :
  codeAny (model theProg (wW b1 b2 w)) ⟨none, dep, fr, gs, un⟩ c R s := by
 obtain ⟨nb, hnb⟩ : ∃ nb, nb + 255 = s.heap.objs.size := ⟨s.heap.objs.size - 255, by have := hs.big; lia⟩
 have g := good_by (X := ⟨s.heap, l.map (·.1), l.length, s.drawn, s.os, s.gens.toList, R⟩) (okV hd hu hs.big) (as nb) (ha nb) (fun xs => congrArg Prod.fst (he nb xs)) (fun xs hm => hg nb xs _ hnb hm (congrArg Prod.snd (he nb xs)))
 refine codeIn (V := VV b1 b2 w dep un fr gs s.gens.toList.length) (g s ?_)
 rw [hnb]
 exact start l hs hl nd ok
theorem treeBy {b1 b2 : Bool} {w : World} {dep un : Nat} {fr : Option (List Env)} {gs : Option (List Code)} {s : Shared} {R : Result -> Shared -> Prop} {c : Code} {t : Sem Fin} (l : List (Nat × Obj)) (as : Nat -> Acts) (js : List Nat) (see : Nat -> (Nat -> Unk) -> See) (hs : Stat b1 b2 w s.heap)
  (hl : ∀ p ∈ l, s.heap.get? p.1 = some p.2 /\ Dyn p.1) (nd : (l.map (·.1)).Nodup) (ok : newsOk l .nil 0 = true) (hd : dep + 60 < recursionLimit) (hu : un + 1000 < cLine)
  (ha : ∀ nb, OkAll (VV b1 b2 w dep un fr gs s.gens.toList.length) (as nb))
  (he : ∀ nb xs, ((exec (VV b1 b2 w dep un fr gs s.gens.toList.length) (as nb) [] c none .base t (newsT l .nil 0) l.length (newsG l (fun _ => 0) 0) (nb + 255) 0 s.toks 0 [] []).check xs js) =
   (exec (VV b1 b2 w dep un fr gs s.gens.toList.length) (as nb) [] c none .base t (newsT l .nil 0) l.length (newsG l (fun _ => 0) 0) (nb + 255) 0 s.toks 0 [] []).wants xs (see nb xs))
  (hg : ∀ nb xs st, nb + 255 = s.heap.objs.size -> (exec (VV b1 b2 w dep un fr gs s.gens.toList.length) (as nb) [] c none .base t (newsT l .nil 0) l.length (newsG l (fun _ => 0) 0) (nb + 255) 0 s.toks 0 [] []).met xs -> st.see js = see nb xs ->
   GoodY (VV b1 b2 w dep un fr gs s.gens.toList.length) ⟨s.heap, l.map (·.1), l.length, s.drawn, s.os, s.gens.toList, R⟩ st) :
  wpOwn (model theProg (wW b1 b2 w)) ⟨none, dep, fr, gs, un⟩ c t (postC theProg (wW b1 b2 w) ⟨none, dep, fr, gs, un⟩ R) (postE R) s := by
 obtain ⟨nb, hnb⟩ : ∃ nb, nb + 255 = s.heap.objs.size := ⟨s.heap.objs.size - 255, by have := hs.big; lia⟩
 have g := good_by (X := ⟨s.heap, l.map (·.1), l.length, s.drawn, s.os, s.gens.toList, R⟩) (okV hd hu hs.big) (as nb) (ha nb) (fun xs => congrArg Prod.fst (he nb xs)) (fun xs hm => hg nb xs _ hnb hm (congrArg Prod.snd (he nb xs)))
 refine g s ?_
 rw [hnb]
 exact start l hs hl nd ok
theorem codeOwn {prog : Program} {w : World} {A : Around} {id : String} {args : Args} {b : Builtin} {R : Result -> Shared -> Prop} {s : Shared} (hb : entryFor table id = some b) (x : wpOwn (model prog w) A (.builtin id args) (b args) (postC prog w A R) (postE R) s) : codeAny (model prog w) A (.builtin id args) R s := by
 refine y_code _ _ _ _ _ _ ?_
 show wpOwn _ _ _ (match entryFor table id with | some b => b args | none => unsupported ((withoutEnding? id "#data").getD id)) _ _ s
 rw [hb]; exact x
theorem endRet {V : YV} {X : YX} {st : St} {f : Flow} (h1 : st.md = none) (h2 : st.κ = .base) (h3 : st.t = .pure (.done f)) (h : ∀ s, RepY V X st.T st.m st.sg st.nb st.nc st.tb st.tc st.gl s -> X.R₀ (.ok f) s) : GoodY V X st := by
 obtain ⟨c, md, κ, t, T, m, sg, nb, nc, tb, tc, gl⟩ := st
 dsimp only at h1 h2 h3
 subst h1 h2 h3
 exact fun s R => y_pure _ _ _ _ _ _ _ _ _ (y_done _ _ _ _ _ _ (h s R))
theorem endAgain {V : YV} {X : YX} {st : St} {c' : Code} (h1 : st.md = none) (h2 : st.κ = .base) (h3 : st.t = .pure (.again c')) (hq : c'.quiet = true) (h : ∀ s, RepY V X st.T st.m st.sg st.nb st.nc st.tb st.tc st.gl s -> codeAny (model V.prog V.w) V.A₀ c' X.R₀ s) : GoodY V X st := by
 obtain ⟨c, md, κ, t, T, m, sg, nb, nc, tb, tc, gl⟩ := st
 dsimp only at h1 h2 h3
 subst h1 h2 h3
 exact fun s R => y_pure _ _ _ _ _ _ _ _ _ (y_again _ _ _ _ _ _ hq (h s R))
theorem RepY.eff {V : YV} {s s' : Shared} {own : List Nat} {k₀ n : Nat} {R₀ : Result -> Shared -> Prop} {T : BT} {m : Nat} {sg : Nat -> Nat} {nb nc tb tc : Nat} {gl : List GY}
  (R : RepY V ⟨s.heap, own, k₀, s.drawn, s.os, s.gens.toList, R₀⟩ T m sg nb nc tb tc gl s') (hgl : gl = List.replicate n .finished) : Eff own n s s' := by
 subst hgl
 refine ⟨?_, R.drawn, R.os, R.grown, fun b o e q => R.keep b o e q⟩
 obtain ⟨l, e, hl⟩ := R.gens
 have : ∀ n l, GRs (List.replicate n .finished) l -> l = List.replicate n .finished := by
  intro n
  induction n with
  | zero => intro l h; cases h; rfl
  | succ n ih =>
   intro l h
   rw [List.replicate_succ] at h
   cases h with
   | cons h1 h2 => cases h1; rw [ih _ h2]; rfl
 rw [e, this n l hl]
theorem effBy {V : YV} {s s' : Shared} {own : List Nat} {k₀ : Nat} {R₀ : Result -> Shared -> Prop} {T : BT} {m : Nat} {sg : Nat -> Nat} {nb nc tb tc : Nat} {e : Ext} {x : Unk}
  {gl : List GY} (R : RepY V ⟨s.heap, own, k₀, s.drawn, s.os, s.gens.toList, R₀⟩ T m sg nb nc tb tc gl s') (hgl : gl = List.replicate (e.g x) .finished) (hb : 255 <= s.heap.objs.size) (h0 : x.n 0 = s'.heap.objs.size - 255) (h1 : x.n 1 = s'.toks) (hset : ∀ p ∈ e.sets x, ∃ j, T.get j = some p.2.2 /\ sg j = p.2.1)
  (hown : ∀ a ∈ own, ∃ p ∈ e.sets x, p.2.1 = a) (hnew : ∀ p ∈ e.news x, X1_3 (fun j => T.get j = some p.2) (fun j => sg j = p.1) (fun j => k₀ <= j)) (nd : ((e.news x).map (·.1)).Nodup) : EffY e x s s' := by
 refine (R.eff hgl).effY rfl hb h0 h1 (fun p hp => ?_) (fun p hp => ?_) nd hown
 ·obtain ⟨j, h2, h3⟩ := hset p hp
  rw [<- h3]; exact (R.own j _ h2).2
 ·obtain ⟨j, h2, h3, h4⟩ := hnew p hp
  rw [<- h3]
  exact ⟨(R.own j _ h2).2, R.newer j h4 (R.own j _ h2).1⟩
theorem Eff.refl (s : Shared) : Eff [] 0 s s := (Still.refl s).eff
theorem Eff.push (s : Shared) (o : Obj) : Eff [] 0 s { s with heap := s.heap.push o } :=
 ⟨by simp, rfl, rfl, by show _ <= (s.heap.push o).objs.size; rw [Heap.size_push]; lia, fun b o e _ => Heap.get?_push_of_some _ e⟩
theorem Eff.update (s : Shared) (a : Nat) (f : Obj -> Obj) : Eff [a] 0 s { s with heap := s.heap.update a f } := by
 have hs : Heap.SameBut a s.heap (s.heap.update a f) := Heap.SameBut.update ..
 exact ⟨by simp, rfl, rfl, by show _ <= (s.heap.update a f).objs.size; rw [hs.1]; exact Nat.le_refl _, fun b o e q => (hs.2 b (by simpa using q)).trans e⟩
theorem Eff.toks {own : List Nat} {n : Nat} {s s' : Shared} (E : Eff own n s s') (t : Nat) : Eff own n s { s' with toks := t } := ⟨E.gens, E.drawn, E.os, E.grown, E.keep⟩
theorem Eff.widen {own own' : List Nat} {n : Nat} {s s' : Shared} (E : Eff own n s s') (h : ∀ a ∈ own, a ∈ own') : Eff own' n s s' := ⟨E.gens, E.drawn, E.os, E.grown, fun b o e q => E.keep b o e fun hb => q (h b hb)⟩
theorem Eff.shrink {own own' : List Nat} {n : Nat} {s s' : Shared} (E : Eff own n s s') (h : ∀ a ∈ own, a ∈ own' \/ ∃ o, s.heap.get? a = some o /\ s'.heap.get? a = some o) : Eff own' n s s' := by
 refine ⟨E.gens, E.drawn, E.os, E.grown, fun b o e q => ?_⟩
 by_cases hb : b ∈ own
 ·rcases h b hb with h | ⟨o', h1, h2⟩
  ·exact absurd h q
  ·rw [e] at h1; cases h1; exact h2
 ·exact E.keep b o e hb
theorem EffY.after {e : Ext} {x : Unk} {s s₁ s' : Shared} (F : EffY e x s₁ s') (E : Eff [] 0 s s₁) (hb : 255 <= s.heap.objs.size) : EffY e x s s' := by
 have g : s₁.gens = s.gens := by rw [E.gens]; simp
 refine ⟨by rw [F.gens, g], F.drawn.trans E.drawn, F.os.trans E.os, F.size, F.toks, Nat.le_trans E.grown F.grown, F.set, fun p hp => ⟨(F.new p hp).1, Nat.le_trans E.grown (F.new p hp).2⟩, F.apart, fun b o e q => F.keep b o (E.keep b o e (fun h => nomatch h)) q⟩
noncomputable abbrev itObj (l : Nat) (i : Nat) : Obj := { cls := .type "list_iterator", data := .fields #[.ref l, .int i 0] }
noncomputable abbrev itEnd (i : Nat) : Obj := { cls := .type "list_iterator", data := .fields #[.none, .int i 0] }
section
variable {V : YV}
theorem big255 {a : Nat} (h : 255 <= a) : a - 255 + 255 = a := by lia
noncomputable def stripOk (x y : Str) : Bool := if stripSame Unicode.isSpace true true x then decide (x = y) else decide (PySem.stripped Unicode.isSpace true true x = y) && decide (y.length <= sizeLine)
noncomputable abbrev xStrip (x : Str) (t : Tok) (y : Str) : Ext := xPure (.call (.builtin "str.strip") ⟨[.str x t], []⟩) fun k => .str y k
theorem ok_xStrip (x : Str) (t : Tok) (y : Str) (h : stripOk x y = true) : ExtOk V (xStrip x t y) := by
 refine okSlot F.slot_str_strip (fun s => typeIs_str s x t) F.entry_str_strip (F.args_str_strip_1 _) (gives_str_strip x t) ?_
 unfold stripOk at h
 split at h
 ·rename_i q
  rw [if_pos q, of_decide_eq_true h]; exact madeValStr _ _
 ·rename_i q
  rw [Bool.and_eq_true] at h
  rw [if_neg q, of_decide_eq_true h.1]; exact madeStr (of_decide_eq_true h.2)
theorem okMeets {e : Ext} {T : String} {name : Str} {id : String} {B : Builtin} {self : Value} {rest : List Value} {S : PySem.Spec} (slot : Slot T name id) (hc : e.c = .call (.builtin id) ⟨self :: rest, []⟩) (hT : ∀ s : Shared, (∀ p ∈ e.need, s.heap.get? p.2.1 = some p.2.2) -> s.TypeIs self T)
  (entry : entryFor table id = some B) (args : argsOk id ⟨self :: rest, []⟩) (g : Meets (B ⟨self :: rest, []⟩) S)
  (h : ∀ (A : Around) s, A.handled = none -> A.depth <= V.A₀.depth + 60 -> A.units <= V.A₀.units + 1000 -> 255 <= s.heap.objs.size -> (∀ p ∈ e.need, s.heap.get? p.2.1 = some p.2.2) -> S A (fun r s' => X1_3 (fun x => e.P x) (fun x => r = e.r x) (fun x => EffY e x s s')) s) : ExtOk V e := by
 intro A s hA hd hu hk hb hn
 rw [hc]
 exact codeAny_call_builtin slot.plain entry (slot.check _ _ _ _ _ _ _ _ (hT s hn) args (g V.prog V.w A _ s (h A s hA hd hu hb hn)))
noncomputable def splitOk (x y : Str) (k : Int) (a b : Str) : Bool :=
 (!(decide (x.length < y.length) || decide (Builtin.Str.strKind x < Builtin.Str.strKind y))) && (!(y.length == 0)) && (!(Builtin.Str.occurrences x y 0 x.length (PySem.limitOf x k)).isEmpty) && decide (x.length <= sizeLine) && decide (Builtin.Str.partsBetween x (Builtin.Str.occurrences x y 0 x.length (PySem.limitOf x k)) y.length = [a, b])
noncomputable def xSplit (x : Str) (t : Tok) (y : Str) (u : Tok) (k : Int) (v : Tok) (a b : Str) : Ext :=
 ⟨.call (.builtin "str.split") ⟨[.str x t, .str y u, .int k v], []⟩, [], fun x => .ok (.ret (.ref (x.n 3 + 255))), fun _ => [], fun x => [(x.n 3 + 255, listObj #[.str a (x.n 4), .str b (x.n 5)] 0)], fun _ => True, g0⟩
theorem ok_xSplit (x : Str) (t : Tok) (y : Str) (u : Tok) (k : Int) (v : Tok) (a b : Str) (hk : (decide (k < -(2 ^ 63 : Int)) || decide (k ≥ 2 ^ 63)) = false) (h : splitOk x y k a b = true) : ExtOk V (xSplit x t y u k v a b) := by
 unfold splitOk at h
 simp only [Bool.and_eq_true, Bool.not_eq_true'] at h
 obtain ⟨⟨⟨⟨h1, h2⟩, h3⟩, h4⟩, h5⟩ := h
 have h5 := of_decide_eq_true h5
 have h4 := of_decide_eq_true h4
 refine okMeets F.slot_str_split rfl (fun s _ => typeIs_str s x t) F.entry_str_split (F.args_str_split_3 _ _ _) (meets_str_split_sep_max x y k t u v hk h1 h2 h3 h4 (by rw [h5]; show 2 <= sizeLine; rw [sizeLine_eq]; decide)) fun A s hA hd hu hb hn => ?_
 rw [h5]
 refine ⟨uk [s.heap.objs.size + 1 - 255, s.toks + 2, 0, s.heap.objs.size - 255, s.toks, s.toks + 1], trivial, ?_, ?_⟩
 ·show _ = Except.ok (Flow.ret (.ref (s.heap.objs.size - 255 + 255)))
  rw [big255 hb]
 refine ((Eff.push s _).toks _).effY rfl hb ?_ rfl (fun _ h => nomatch h) (fun p hp => ?_) ?_ (fun _ h => nomatch h)
 ·show _ = (s.heap.push _).objs.size - 255
  rw [Heap.size_push]; rfl
 ·rw [mS hp]
  refine ⟨?_, by show _ <= s.heap.objs.size - 255 + 255; lia⟩
  show Heap.get? (s.heap.push _) (s.heap.objs.size - 255 + 255) = _
  rw [big255 hb]
  exact Heap.get?_push_size _ rfl
 ·show [_].Nodup
  simp
end
structure Rc where
 owner : Str
 c1 : Str
 c2 : Str
 c3 : Str
 c4 : Str
 cs : List Str
noncomputable def ch (c : Nat) : Str := ⟨#[c]⟩
noncomputable def menuOf : Nat -> List Str
 | 0 => []
 | 1 => ["p"]
 | 2 => ["q", "p"]
 | 3 => ["r"]
 | 4 => ["p", "r"]
 | _ => ["r", "q"]
noncomputable def ownerC (x : Int) : Nat := 102 + ((x.fdiv 4).fmod 3).toNat
noncomputable def smallOf (x : Int) (p : Nat) : Str := ⟨(List.replicate (x.fmod 4).toNat (ch (97 + p)).cps).foldl (· ++ ·) #[]⟩
noncomputable def recOf (x : Int) (p : Nat) : Rc :=
 if x.fmod 4 = 3 then ⟨ch (ownerC x), "", "", "", "", []⟩
 else ⟨ch (ownerC x), smallOf x p, ch (65 + p), "." ++ smallOf x p, ch (65 + p) ++ "=", menuOf ((x.fdiv 12).fmod 6).toNat⟩
inductive StrsAre : List Value -> List Str -> Prop
 | nil : StrsAre [] []
 | cons {s : Str} {t : Tok} {vs : List Value} {ss : List Str} : StrsAre vs ss -> StrsAre (.str s t :: vs) (s :: ss)
theorem fmod3 (a : Int) : a.fmod 3 = 0 \/ a.fmod 3 = 1 \/ a.fmod 3 = 2 := by rw [Int.fmod_eq_emod_of_nonneg _ (by decide)]; lia
theorem fmod4 (a : Int) : a.fmod 4 = 0 \/ a.fmod 4 = 1 \/ a.fmod 4 = 2 \/ a.fmod 4 = 3 := by rw [Int.fmod_eq_emod_of_nonneg _ (by decide)]; lia
theorem fmod6 (a : Int) : a.fmod 6 = 0 \/ a.fmod 6 = 1 \/ a.fmod 6 = 2 \/ a.fmod 6 = 3 \/ a.fmod 6 = 4 \/ a.fmod 6 = 5 := by rw [Int.fmod_eq_emod_of_nonneg _ (by decide)]; lia
theorem ok_owner {V : YV} (x : Int) (t u : Tok) : ExtOk V (xSIdx "fgh" t ((x.fdiv 4).fmod 3) u (ownerC x)) := by
 unfold ownerC
 rcases fmod3 (x.fdiv 4) with h | h | h <;> rw [h] <;> exact ok_xSIdx _ _ _ _ _ (by decide +kernel) (by kernel_rfl)
noncomputable abbrev recCode (x : Int) (t1 : Tok) (p : Nat) (t2 : Tok) : Code := .call (.ref 234) ⟨[.int x t1, .int (p : Int) t2], []⟩
noncomputable def xRec (x : Int) (t1 : Tok) (p : Nat) (t2 : Tok) : Ext := ⟨recCode x t1 p t2, [], fun u => .ok (.ret (.ref (u.n 3 + 255))), fun _ => [],
 fun u => [(u.n 4 + 255, tup (u.a 0)), (u.n 3 + 255, tup #[.str (recOf x p).owner (u.n 5), .str (recOf x p).c1 (u.n 6), .str (recOf x p).c2 (u.n 7), .str (recOf x p).c3 (u.n 8), .str (recOf x p).c4 (u.n 9), .ref (u.n 4 + 255)])], fun u => StrsAre (u.a 0).toList (recOf x p).cs, g0⟩
noncomputable def actsR3 (x : Int) (t1 : Tok) (tb : Nat) : Acts :=
 .go 20 [0, 0, 1, 1, 1, 1, 0, 1] <| .ext (xFdiv x t1 4 (tb + 3)) fun x0 =>
 .go 2 [] <| .ext (xMod (x.fdiv 4) (x0.n 2) 3 (x0.n 1 + 0)) fun x1 =>
 .go 1 [] <| .ext (xSIdx "fgh" (tb + 2) ((x.fdiv 4).fmod 3) (x1.n 2) (ownerC x)) fun x2 =>
 .go 12 [1, 1, 1] <| .ext (xMod x t1 4 (x2.n 1 + 1)) fun x3 =>
 .go 3 [] <| .ext (xEqI (x.fmod 4) (x3.n 2) 3 (x3.n 1 + 0) true) fun x4 =>
 .go 11 [1] .done
noncomputable def seeR3 (x : Int) (xs : Nat -> Unk) : See :=
 ⟨none, .base, .pure (.done (.ret (.ref ((xs 4).n 0 + 255 + 1)))), [], [(some (tup #[]), (xs 4).n 0 + 255 + 0),
  (some (tup #[.str (ch (ownerC x)) ((xs 2).n 2), .str "" ((xs 4).n 1 + 0), .str "" ((xs 4).n 1 + 1), .str "" ((xs 4).n 1 + 2), .str "" ((xs 4).n 1 + 3), .ref ((xs 4).n 0 + 255 + 0)]), (xs 4).n 0 + 255 + 1)]⟩
set_option maxHeartbeats 4000000 in
theorem rec3_check (b1 b2 : Bool) (w : World) (dep un : Nat) (fr : Option (List Env)) (gs : Option (List Code)) (γ nb tb : Nat) (x : Int) (p : Nat) (t1 t2 : Tok) (xs : Nat -> Unk) :
  ((exec (VV b1 b2 w dep un fr gs γ) (actsR3 x t1 tb) [] (recCode x t1 p t2) none .base (den (recCode x t1 p t2)) .nil 0 (fun _ => 0) (nb + 255) 0 tb 0 [] []).check xs [1, 2]) =
   (exec (VV b1 b2 w dep un fr gs γ) (actsR3 x t1 tb) [] (recCode x t1 p t2) none .base (den (recCode x t1 p t2)) .nil 0 (fun _ => 0) (nb + 255) 0 tb 0 [] []).wants xs (seeR3 x xs) := by
 cases b1 <;> cases b2 <;> kernel_rfl
noncomputable def actsRN (x : Int) (t1 : Tok) (p : Nat) (t2 : Tok) (tb : Nat) : Acts :=
 .go 20 [0, 0, 1, 1, 1, 1, 0, 1] <| .ext (xFdiv x t1 4 (tb + 3)) fun x0 =>
 .go 2 [] <| .ext (xMod (x.fdiv 4) (x0.n 2) 3 (x0.n 1 + 0)) fun x1 =>
 .go 1 [] <| .ext (xSIdx "fgh" (tb + 2) ((x.fdiv 4).fmod 3) (x1.n 2) (ownerC x)) fun x2 =>
 .go 12 [1, 1, 1] <| .ext (xMod x t1 4 (x2.n 1 + 1)) fun x3 =>
 .go 3 [] <| .ext (xEqI (x.fmod 4) (x3.n 2) 3 (x3.n 1 + 0) false) fun x4 =>
 .go 8 [0, 0, 1] <| .ext (xAdd 97 (x4.n 1 + 0) p t2) fun x5 =>
 .go 1 [] <| .ext (xChr (97 + p) (x5.n 2)) fun x6 =>
 .go 5 [1] <| .ext (xMod x t1 4 (x6.n 1 + 0)) fun x7 =>
 .go 6 [] <| .ext (xSMul ⟨#[((97 : Int) + p).toNat]⟩ (x6.n 2) (x.fmod 4) (x7.n 2) (smallOf x p)) fun x8 =>
 .go 15 [1, 1, 0, 0, 1] <| .ext (xAdd 65 (x8.n 1 + 1) p t2) fun x9 =>
 .go 1 [] <| .ext (xChr (65 + p) (x9.n 2)) fun x10 =>
 .go 35 [1, 1, 1] <| .ext (xFdiv x t1 12 (x10.n 1 + 9)) fun x11 =>
 .go 2 [] <| .ext (xMod (x.fdiv 12) (x11.n 2) 6 (x11.n 1 + 0)) fun x12 =>
 .go 4 [8, 8, 8] <| .ext (xLIdx 7 (x10.n 0 + 255 + 6) #[.ref (x10.n 0 + 255 + 0), .ref (x10.n 0 + 255 + 1), .ref (x10.n 0 + 255 + 2), .ref (x10.n 0 + 255 + 3), .ref (x10.n 0 + 255 + 4), .ref (x10.n 0 + 255 + 5)] 0 ((x.fdiv 12).fmod 6) (x12.n 2) (.ref (x10.n 0 + 255 + ((x.fdiv 12).fmod 6).toNat))) fun x13 =>
 .go 22 [1, 1, 1, 1, 1, 1] <| .ext (xSAdd "." (x13.n 1 + 1) (smallOf x p) (x8.n 2)) fun x14 =>
 .go 5 [1] <| .ext (xSAdd ⟨#[((65 : Int) + p).toNat]⟩ (x10.n 2) "=" (x14.n 1 + 0)) fun x15 =>
 .go 3 [1] .done
noncomputable def seeRN (x : Int) (p : Nat) (xs : Nat -> Unk) : See :=
 ⟨none, .base, .pure (.done (.ret (.ref ((xs 15).n 0 + 255 + 0)))), [], [(some (tup #[]), (xs 10).n 0 + 255 + 0), (some (tup #[.str "p" ((xs 10).n 1 + 1)]), (xs 10).n 0 + 255 + 1), (some (tup #[.str "q" ((xs 10).n 1 + 2), .str "p" ((xs 10).n 1 + 3)]), (xs 10).n 0 + 255 + 2),
  (some (tup #[.str "r" ((xs 10).n 1 + 4)]), (xs 10).n 0 + 255 + 3), (some (tup #[.str "p" ((xs 10).n 1 + 5), .str "r" ((xs 10).n 1 + 6)]), (xs 10).n 0 + 255 + 4), (some (tup #[.str "r" ((xs 10).n 1 + 7), .str "q" ((xs 10).n 1 + 8)]), (xs 10).n 0 + 255 + 5),
  (some (tup #[.str (ch (ownerC x)) ((xs 2).n 2), .str (smallOf x p) ((xs 8).n 2), .str ⟨#[((65 : Int) + p).toNat]⟩ ((xs 10).n 2), .str ("." ++ smallOf x p) ((xs 14).n 2), .str ((⟨#[((65 : Int) + p).toNat]⟩ : Str) ++ "=") ((xs 15).n 2), .ref ((xs 10).n 0 + 255 + ((x.fdiv 12).fmod 6).toNat)]), (xs 15).n 0 + 255 + 0)]⟩
set_option maxHeartbeats 4000000 in
theorem recN_check (b1 b2 : Bool) (w : World) (dep un : Nat) (fr : Option (List Env)) (gs : Option (List Code)) (γ nb tb : Nat) (x : Int) (p : Nat) (t1 t2 : Tok) (xs : Nat -> Unk) :
  ((exec (VV b1 b2 w dep un fr gs γ) (actsRN x t1 p t2 tb) [] (recCode x t1 p t2) none .base (den (recCode x t1 p t2)) .nil 0 (fun _ => 0) (nb + 255) 0 tb 0 [] []).check xs [1, 2, 3, 4, 5, 6, 8]) =
   (exec (VV b1 b2 w dep un fr gs γ) (actsRN x t1 p t2 tb) [] (recCode x t1 p t2) none .base (den (recCode x t1 p t2)) .nil 0 (fun _ => 0) (nb + 255) 0 tb 0 [] []).wants xs (seeRN x p xs) := by
 cases b1 <;> cases b2 <;> kernel_rfl
structure Room (A : Around) : Prop where
 handled : A.handled = none
 depth : A.depth + 60 < recursionLimit
 units : A.units + 1000 < cLine
theorem rec_ok {b1 b2 : Bool} {w : World} {A : Around} {s : Shared} (hA : Room A) (hs : Stat b1 b2 w s.heap) (x : Int) (t1 : Tok) (p : Nat) (t2 : Tok) (hp : p < 100) :
  codeAny (model theProg (wW b1 b2 w)) A (recCode x t1 p t2) (fun r s' => X1_3 (fun u => (xRec x t1 p t2).P u) (fun u => r = (xRec x t1 p t2).r u) (fun u => EffY (xRec x t1 p t2) u s s')) s := by
 obtain ⟨hh, dep, fr, gs, un⟩ := A
 obtain ⟨rfl, hd, hu⟩ := hA
 have e65 : ((65 : Int) + p).toNat = 65 + p := by lia
 by_cases h3 : x.fmod 4 = 3
 ·refine codeBy [] (fun _ => actsR3 x t1 s.toks) [1, 2] (fun _ => seeR3 x) hs (fun _ h => nomatch h) List.nodup_nil rfl hd hu (fun _ => ?_) (fun nb xs => rec3_check ..) ?_
  ·exact ⟨ok_xFdiv _ _ _ _ (by decide) (by decide), fun x0 _ => ⟨ok_xMod _ _ _ _ (by decide), fun x1 _ => ⟨ok_owner _ _ _, fun x2 _ => ⟨ok_xMod _ _ _ _ (by decide), fun x3 _ => ⟨ok_xEqI _ _ _ _ (by rw [h3]; rfl), fun x4 _ => trivial⟩⟩⟩⟩⟩
  ·intro nb xs st hnb _ hsee
   have e := See.mk.inj hsee
   refine endRet e.1 e.2.1 e.2.2.1 fun s' R => ?_
   have ho := e.2.2.2.2
   simp only [List.map_cons, List.map_nil, List.cons.injEq, Prod.mk.injEq, and_true] at ho
   have hr : recOf x p = ⟨ch (ownerC x), "", "", "", "", []⟩ := if_pos h3
   refine ⟨uk [s'.heap.objs.size - 255, s'.toks, 0, (xs 4).n 0 + 1, (xs 4).n 0, (xs 2).n 2, (xs 4).n 1 + 0, (xs 4).n 1 + 1, (xs 4).n 1 + 2, (xs 4).n 1 + 3], ?_, rfl, effBy R e.2.2.2.1 hs.big rfl rfl (fun _ h => nomatch h) (fun _ h => nomatch h) (fun q hq => ?_) ?_⟩
   ·show StrsAre [] (recOf x p).cs
    rw [hr]; exact .nil
   ·simp only [xRec, hr, List.mem_cons, List.not_mem_nil, or_false] at hq
    rcases hq with rfl | rfl
    ·exact ⟨1, ho.1.1, ho.1.2, Nat.zero_le _⟩
    ·exact ⟨2, ho.2.1, ho.2.2, Nat.zero_le _⟩
   ·show [(xs 4).n 0 + 255, (xs 4).n 0 + 1 + 255].Nodup
    simp
 ·have hr : recOf x p = ⟨ch (ownerC x), smallOf x p, ch (65 + p), "." ++ smallOf x p, ch (65 + p) ++ "=", menuOf ((x.fdiv 12).fmod 6).toNat⟩ := if_neg h3
  have hsm : (smallOf x p).length <= 3 := by
   unfold smallOf
   rcases fmod4 x with h | h | h | h <;> rw [h] <;> first | exact absurd h h3 | (show _ <= 3; decide) | exact Nat.le_refl _ | exact (by show 1 <= 3; decide) | exact (by show 2 <= 3; decide) | exact (by show 0 <= 3; decide)
  refine codeBy [] (fun _ => actsRN x t1 p t2 s.toks) [1, 2, 3, 4, 5, 6, 8] (fun _ => seeRN x p) hs (fun _ h => nomatch h) List.nodup_nil rfl hd hu (fun _ => ?_) (fun nb xs => recN_check ..) ?_
  ·refine ⟨ok_xFdiv _ _ _ _ (by decide) (by decide), fun x0 _ => ⟨ok_xMod _ _ _ _ (by decide), fun x1 _ => ⟨ok_owner _ _ _, fun x2 _ => ⟨ok_xMod _ _ _ _ (by decide), fun x3 _ => ⟨ok_xEqI _ _ _ _ (by simpa using h3), fun x4 _ => ⟨ok_xAdd _ _ _ _, fun x5 _ => ⟨ok_xChr _ _ ?_, fun x6 _ =>
    ⟨ok_xMod _ _ _ _ (by decide), fun x7 _ => ⟨ok_xSMul _ _ _ _ _ ?_ ?_ rfl ?_, fun x8 _ => ⟨ok_xAdd _ _ _ _, fun x9 _ => ⟨ok_xChr _ _ ?_, fun x10 _ => ⟨ok_xFdiv _ _ _ _ (by decide) (by decide), fun x11 _ => ⟨ok_xMod _ _ _ _ (by decide), fun x12 _ => ⟨ok_xLIdx _ _ _ _ _ _ _ ?_ ?_ ?_, fun x13 _ =>
    ⟨ok_xSAdd _ _ _ _ ?_, fun x14 _ => ⟨ok_xSAdd _ _ _ _ ?_, fun x15 _ => trivial⟩⟩⟩⟩⟩⟩⟩⟩⟩⟩⟩⟩⟩⟩⟩⟩
   ·rw [decide_eq_false (by lia), decide_eq_false (by lia)]; rfl
   ·rcases fmod4 x with h | h | h | h <;> lia
   ·rcases fmod4 x with h | h | h | h <;> lia
   ·rw [show ((97 : Int) + p).toNat = 97 + p by lia]; rfl
   ·rw [decide_eq_false (by lia), decide_eq_false (by lia)]; rfl
   ·rcases fmod6 (x.fdiv 12) with h | h | h | h | h | h <;> lia
   ·rcases fmod6 (x.fdiv 12) with h | h | h | h | h | h <;> lia
   ·rcases fmod6 (x.fdiv 12) with h | h | h | h | h | h <;> rw [h] <;> rfl
   ·have : ("." ++ smallOf x p : Str).length = 1 + (smallOf x p).length := by rw [Str.length_append]; rfl
    rw [this, sizeLine_eq]; lia
   ·rw [Str.length_append, sizeLine_eq]
    show 1 + 1 <= _
    decide
  ·intro nb xs st hnb _ hsee
   have e := See.mk.inj hsee
   refine endRet e.1 e.2.1 e.2.2.1 fun s' R => ?_
   have ho := e.2.2.2.2
   simp only [List.map_cons, List.map_nil, List.cons.injEq, Prod.mk.injEq, and_true] at ho
   obtain ⟨⟨o1, g1⟩, ⟨o2, g2⟩, ⟨o3, g3⟩, ⟨o4, g4⟩, ⟨o5, g5⟩, ⟨o6, g6⟩, o8, g8⟩ := ho
   rw [e65] at o8
   have key : X2_4 (fun j vs => st.T.get j = some (tup vs)) (fun j vs => st.sg j = (xs 10).n 0 + 255 + ((x.fdiv 12).fmod 6).toNat) (fun j vs => StrsAre vs.toList (menuOf ((x.fdiv 12).fmod 6).toNat)) (fun j vs => j ≠ 8) := by
    rcases fmod6 (x.fdiv 12) with h | h | h | h | h | h <;> rw [h]
    ·exact ⟨1, _, o1, g1, .nil, by decide⟩
    ·exact ⟨2, _, o2, g2, .cons .nil, by decide⟩
    ·exact ⟨3, _, o3, g3, .cons (.cons .nil), by decide⟩
    ·exact ⟨4, _, o4, g4, .cons .nil, by decide⟩
    ·exact ⟨5, _, o5, g5, .cons (.cons .nil), by decide⟩
    ·exact ⟨6, _, o6, g6, .cons (.cons .nil), by decide⟩
   obtain ⟨j, vs, oj, gj, hvs, hj⟩ := key
   have gj' : st.sg j = (xs 10).n 0 + ((x.fdiv 12).fmod 6).toNat + 255 := by rw [gj]; lia
   rw [<- gj] at o8
   refine ⟨uk [s'.heap.objs.size - 255, s'.toks, 0, (xs 15).n 0, (xs 10).n 0 + ((x.fdiv 12).fmod 6).toNat, (xs 2).n 2, (xs 8).n 2, (xs 10).n 2, (xs 14).n 2, (xs 15).n 2] [] [] [] [vs], ?_, rfl, effBy R e.2.2.2.1 hs.big rfl rfl (fun _ h => nomatch h) (fun _ h => nomatch h) (fun q hq => ?_) ?_⟩
   ·show StrsAre vs.toList (recOf x p).cs
    rw [hr]; exact hvs
   ·simp only [xRec, hr, List.mem_cons, List.not_mem_nil, or_false] at hq
    rcases hq with rfl | rfl
    ·exact ⟨j, oj, gj', Nat.zero_le _⟩
    ·rw [gj'] at o8; exact ⟨8, o8, g8, Nat.zero_le _⟩
   ·show [(xs 10).n 0 + ((x.fdiv 12).fmod 6).toNat + 255, (xs 15).n 0 + 255].Nodup
    have g8' : st.sg 8 = (xs 15).n 0 + 255 := g8
    rw [<- gj', <- g8']
    simp only [List.nodup_cons, List.mem_cons, List.not_mem_nil, or_false, not_false_eq_true, List.nodup_nil, and_true]
    exact fun q => hj (R.inj _ _ (R.own _ _ oj).1 (R.own _ _ o8).1 q)
theorem a255 (n k : Nat) : n + 255 + k = n + k + 255 := by lia
noncomputable abbrev pairObj (d : Nat) (a : Str) (t : Tok) (b : Str) (u : Tok) : Obj := { cls := .ref 217, dict := some d, data := .seq #[.str a t, .str b u] 0 }
noncomputable abbrev dict0 : Obj := { cls := .type "dict", data := .dict #[] 0 }
noncomputable abbrev mapObj (tp : Nat) (f : Value) : Obj := { cls := .type "map", data := .fields #[.ref tp, f] }
theorem ne_get {h : Heap} {a b : Nat} {o o' : Obj} (h1 : h.get? a = some o) (h2 : h.get? b = some o') (hc : o ≠ o') : a ≠ b := by
 rintro rfl
 rw [h1] at h2
 exact hc (Option.some.inj h2)
theorem ne_cls {o o' : Obj} (h : o.cls ≠ o'.cls) : o ≠ o' := fun e => h (congrArg Obj.cls e)
noncomputable def actsIM (pa : Str) (t : Tok) (pb : Str) (u : Tok) (a b : Str) : Acts :=
 .go 35 [4, 4, 4, 4, 4, 4, 5, 5, 5, 5, 5, 5, 4, 4, 4, 3, 2, 2, 2, 2, 1, 2, 2, 4] <|
 .ext (xStrip pa t a) fun x0 =>
 .go 23 [5, 5, 5, 4, 4, 4, 3, 2, 2, 2, 2, 1, 2, 2, 4] <|
 .ext (xStrip pb u b) fun x1 =>
 .go 28 [5, 5, 5, 4, 4, 4, 3, 2, 2, 2, 2, 1, 2, 2, 7] .done
theorem iadd_map {b1 b2 : Bool} {w : World} {dep un : Nat} {fr : Option (List Env)} {gs : Option (List Code)} {s : Shared} {R : Result -> Shared -> Prop} (hs : Stat b1 b2 w s.heap) (hd : dep + 60 < recursionLimit) (hu : un + 1000 < cLine)
  {l it tp mp ac : Nat} {pa : Str} {t : Tok} {pb : Str} {u : Tok} {a b : Str} (h1 : stripOk pa a = true) (h2 : stripOk pb b = true)
  (o1 : s.heap.get? (l + 255) = some (listObj #[.str pa t, .str pb u] 0)) (o2 : s.heap.get? (it + 255) = some (itObj (l + 255) 0)) (o3 : s.heap.get? (tp + 255) = some (tup #[.ref (it + 255)])) (o4 : s.heap.get? (mp + 255) = some (mapObj (tp + 255) (.builtin "str.strip")))
  (o5 : s.heap.get? (ac + 255) = some (listObj #[] 0)) (nd : [l + 255, it + 255, tp + 255, mp + 255, ac + 255].Nodup)
  (hR : ∀ s' v1 v2, Eff [it + 255, ac + 255] 0 s s' -> s'.heap.get? (it + 255) = some (itEnd 2) -> s'.heap.get? (ac + 255) = some (listObj #[.str a v1, .str b v2] 4) -> R (.ok (.ret (.ref (ac + 255)))) s') :
  codeAny (model theProg (wW b1 b2 w)) ⟨none, dep, fr, gs, un⟩ (.builtin "list.__iadd__" ⟨[.ref (ac + 255), .ref (mp + 255)], []⟩) R s := by
 refine codeOwn F.entry_list_iadd ?_
 show wpOwn _ _ _ (Builtin.List.listExtendWith (.ref (ac + 255)) (.ref (mp + 255)) (.ref (ac + 255))) _ _ _
 unfold Builtin.List.listExtendWith
 refine wpOwn_bind (wpOwn_of_wpAny (wpAny_typeOf (T := "map") ⟨_, o4, rfl⟩ ?_))
 have ne : ac + 255 ≠ mp + 255 := ne_get o5 o4 (ne_cls (by simp))
 rw [if_neg (by rw [show Builtin.List.listSameRef (.ref (ac + 255)) (.ref (mp + 255)) = false by simpa [Builtin.List.listSameRef] using ne]; decide)]
 refine treeBy [(l + 255, listObj #[.str pa t, .str pb u] 0), (it + 255, itObj (l + 255) 0), (tp + 255, tup #[.ref (it + 255)]), (mp + 255, mapObj (tp + 255) (.builtin "str.strip")), (ac + 255, listObj #[] 0)] (fun _ => actsIM pa t pb u a b) [0, 1, 2, 3, 4]
  (fun nb xs => ⟨none, .base, .pure (.done (.ret (.ref (ac + 255)))), [], [(some (listObj #[.str pa t, .str pb u] 0), l + 255), (some (itEnd 2), it + 255), (some (tup #[.ref (it + 255)]), tp + 255), (some (mapObj (tp + 255) (.builtin "str.strip")), mp + 255), (some (listObj #[.str a ((xs 0).n 2), .str b ((xs 1).n 2)] 4), ac + 255)]⟩)
  hs ?_ nd rfl hd hu ?_ ?_ ?_
 ·intro p hp
  replace hp := mr5 hp
  rcases hp with rfl | rfl | rfl | rfl | rfl
  ·exact ⟨o1, .inl (Nat.le_add_left ..)⟩
  ·exact ⟨o2, .inl (Nat.le_add_left ..)⟩
  ·exact ⟨o3, .inl (Nat.le_add_left ..)⟩
  ·exact ⟨o4, .inl (Nat.le_add_left ..)⟩
  ·exact ⟨o5, .inl (Nat.le_add_left ..)⟩
 ·exact fun _ => ⟨ok_xStrip _ _ _ h1, fun x0 _ => ⟨ok_xStrip _ _ _ h2, fun x1 _ => trivial⟩⟩
 ·intro nb xs
  cases b1 <;> cases b2 <;> kernel_rfl
 ·intro nb xs st hnb _ hsee
  have e := See.mk.inj hsee
  refine endRet e.1 e.2.1 e.2.2.1 fun s' R' => ?_
  have ho := e.2.2.2.2
  simp only [List.map_cons, List.map_nil, List.cons.injEq, Prod.mk.injEq, and_true] at ho
  obtain ⟨⟨q1, g1⟩, ⟨q2, g2⟩, ⟨q3, g3⟩, ⟨q4, g4⟩, q5, g5⟩ := ho
  have f1 := (R'.own _ _ q1).2; have f2 := (R'.own _ _ q2).2; have f3 := (R'.own _ _ q3).2; have f4 := (R'.own _ _ q4).2; have f5 := (R'.own _ _ q5).2
  rw [g1] at f1; rw [g2] at f2; rw [g3] at f3; rw [g4] at f4; rw [g5] at f5
  refine hR s' _ _ ((R'.eff (n := 0) e.2.2.2.1).shrink fun x hx => ?_) f2 f5
  simp only [List.map_cons, List.map_nil, List.mem_cons, List.not_mem_nil, or_false] at hx
  rcases hx with rfl | rfl | rfl | rfl | rfl
  ·exact .inr ⟨_, o1, f1⟩
  ·exact .inl (.head _)
  ·exact .inr ⟨_, o3, f3⟩
  ·exact .inr ⟨_, o4, f4⟩
  ·exact .inl (.tail _ (.head _))
structure Deep (n : Nat) (A : Around) : Prop where
 handled : A.handled = none
 depth : A.depth + 60 * n < recursionLimit
 units : A.units + 1000 * n < cLine
noncomputable def Meet (e : Ext) (s : Shared) : Result -> Shared -> Prop := fun r s' => X1_3 (fun u => e.P u) (fun u => r = e.r u) (fun u => EffY e u s s')
theorem ext_of {b1 b2 : Bool} {w : World} {dep un : Nat} {fr : Option (List Env)} {gs : Option (List Code)} {γ : Nat} {e : Ext} (n : Nat) (hV : Deep (n + 1) ⟨none, dep, fr, gs, un⟩)
  (h : ∀ (A : Around) (s : Shared), Deep n A -> Stat b1 b2 w s.heap -> (∀ p ∈ e.need, s.heap.get? p.2.1 = some p.2.2) -> codeAny (model theProg (wW b1 b2 w)) A e.c (Meet e s) s) : ExtOk (VV b1 b2 w dep un fr gs γ) e := by
 intro A s hA hd hu hk hb hn
 refine h A s ⟨hA, ?_, ?_⟩ hk hn
 ·have h1 := hV.depth
  have h2 : A.depth <= dep + 60 := hd
  have h3 : dep + 60 * (n + 1) < recursionLimit := h1
  lia
 ·have h1 : un + 1000 * (n + 1) < cLine := hV.units
  have h2 : A.units <= un + 1000 := hu
  lia
theorem Deep.room {A : Around} (h : Deep 1 A) : Room A := ⟨h.handled, h.depth, h.units⟩
theorem Deep.le {n m : Nat} {A : Around} (h : Deep n A) (hm : m <= n) : Deep m A := ⟨h.handled, by have := h.depth; have := Nat.mul_le_mul_left 60 hm; lia, by have := h.units; have := Nat.mul_le_mul_left 1000 hm; lia⟩
noncomputable def xColMap (jl l ji it jt tp jm mp : Nat) (pa : Str) (t : Tok) (pb : Str) (u : Tok) (a b : Str) : Ext :=
 ⟨.builtin "proto.collect" ⟨[.ref (mp + 255)], []⟩, [(jl, l + 255, listObj #[.str pa t, .str pb u] 0), (ji, it + 255, itObj (l + 255) 0), (jt, tp + 255, tup #[.ref (it + 255)]), (jm, mp + 255, mapObj (tp + 255) (.builtin "str.strip"))],
  fun x => .ok (.ret (.ref (x.n 3 + 255))), fun _ => [(ji, it + 255, itEnd 2)], fun x => [(x.n 3 + 255, listObj #[.str a (x.n 4), .str b (x.n 5)] 4)], fun _ => True, g0⟩
theorem colMap_ok {b1 b2 : Bool} {w : World} {jl l ji it jt tp jm mp : Nat} {pa : Str} {t : Tok} {pb : Str} {u : Tok} {a b : Str} (h1 : stripOk pa a = true) (h2 : stripOk pb b = true)
  (A : Around) (s : Shared) (hA : Deep 1 A) (hs : Stat b1 b2 w s.heap) (hn : ∀ p ∈ (xColMap jl l ji it jt tp jm mp pa t pb u a b).need, s.heap.get? p.2.1 = some p.2.2) : codeAny (model theProg (wW b1 b2 w)) A (xColMap jl l ji it jt tp jm mp pa t pb u a b).c (Meet (xColMap jl l ji it jt tp jm mp pa t pb u a b) s) s := by
 obtain ⟨hh, dep, fr, gs, un⟩ := A
 obtain ⟨rfl, hd, hu⟩ := hA
 have o1 : s.heap.get? (l + 255) = _ := hn _ (.head _)
 have o2 : s.heap.get? (it + 255) = _ := hn _ (.tail _ (.head _))
 have o3 : s.heap.get? (tp + 255) = _ := hn _ (.tail _ (.tail _ (.head _)))
 have o4 : s.heap.get? (mp + 255) = _ := hn _ (.tail _ (.tail _ (.tail _ (.head _))))
 have hb := hs.big
 obtain ⟨ac, hac⟩ : ∃ ac, ac + 255 = s.heap.objs.size := ⟨s.heap.objs.size - 255, by lia⟩
 refine codeOwn F.entry_proto_collect ?_
 show wpOwn _ _ _ (newList [] >>= fun l => again (.builtin "list.__iadd__" ⟨[l, .ref (mp + 255)], []⟩)) _ _ _
 refine wpOwn_bind (wpOwn_of_wpAny (wpAny_newObj_type ?_))
 rw [<- hac]
 refine y_pure _ _ _ _ _ _ _ _ _ (y_again _ _ _ _ _ _ (plainId_quiet F.plain_list_iadd _) ?_)
 have keep : ∀ b o, s.heap.get? b = some o -> (s.heap.push (listObj #[] 0)).get? b = some o := fun b o e => Heap.get?_push_of_some _ e
 have lt := fun (b : Nat) o (e : s.heap.get? b = some o) => Heap.lt_size e
 refine iadd_map (s := { s with heap := s.heap.push (listObj #[] 0) }) (l := l) (it := it) (tp := tp) (mp := mp) (ac := ac) (pa := pa) (t := t) (pb := pb) (u := u) (a := a) (b := b) ?_ hd hu h1 h2 (keep _ _ o1) (keep _ _ o2) (keep _ _ o3) (keep _ _ o4) ?_ ?_ ?_
 ·exact holds_iff.mpr fun x o e => keep _ _ (holds_iff.mp hs x o e)
 ·show (s.heap.push (listObj #[] 0)).get? (ac + 255) = _
  rw [hac]; exact Heap.get?_push_size _ rfl
 ·have q1 := lt _ _ o1; have q2 := lt _ _ o2; have q3 := lt _ _ o3; have q4 := lt _ _ o4
  have n1 : l + 255 ≠ it + 255 := ne_get o1 o2 (ne_cls (by simp))
  have n2 : l + 255 ≠ tp + 255 := ne_get o1 o3 (ne_cls (by simp))
  have n3 : l + 255 ≠ mp + 255 := ne_get o1 o4 (ne_cls (by simp))
  have n4 : it + 255 ≠ tp + 255 := ne_get o2 o3 (ne_cls (by simp))
  have n5 : it + 255 ≠ mp + 255 := ne_get o2 o4 (ne_cls (by simp))
  have n6 : tp + 255 ≠ mp + 255 := ne_get o3 o4 (ne_cls (by simp))
  have nd : [l, it, tp, mp].Nodup := by
   simp only [List.nodup_cons, List.mem_cons, List.not_mem_nil, or_false, not_or, List.nodup_nil, and_true, not_false_eq_true]
   lia
  have nd' : ([l, it, tp, mp].map (· + 255) ++ [ac + 255]).Nodup := by
   refine List.nodup_append.mpr ⟨(List.pairwise_map.mpr (nd.imp fun h e => h (Nat.add_right_cancel e))), by simp, ?_⟩
   intro x hx y hy e
   rw [mS hy] at e
   simp only [List.map_cons, List.map_nil, List.mem_cons, List.not_mem_nil, or_false] at hx
   rw [hac] at e
   rcases hx with rfl | rfl | rfl | rfl
   ·exact absurd e (Nat.ne_of_lt q1)
   ·exact absurd e (Nat.ne_of_lt q2)
   ·exact absurd e (Nat.ne_of_lt q3)
   ·exact absurd e (Nat.ne_of_lt q4)
  exact nd'
 ·intro s' v1 v2 E f2 f5
  have E' : Eff [it + 255] 0 s s' := ((((Eff.push s (listObj #[] 0)).widen (own' := [it + 255]) (fun _ h => nomatch h)).trans E (fun x hx => by
   rcases mD hx with rfl | hx
   ·exact .inl (.head _)
   ·rw [mS hx]; exact .inr (by lia))))
  refine ⟨uk [s'.heap.objs.size - 255, s'.toks, 0, ac, v1, v2], trivial, rfl, E'.effY rfl hb rfl rfl (fun p hp => ?_) (fun p hp => ?_) (by show [_].Nodup; simp) (fun x hx => ⟨_, .head _, (mS hx).symm⟩)⟩
  ·rw [mS hp]; exact f2
  ·rw [mS hp]; exact ⟨f5, by show _ <= ac + 255; lia⟩
noncomputable def xColTup (jt tp : Nat) (v1 v2 : Value) : Ext :=
 ⟨.builtin "proto.collect" ⟨[.ref (tp + 255)], []⟩, [(jt, tp + 255, tup #[v1, v2])], fun x => .ok (.ret (.ref (x.n 3 + 255))), fun _ => [], fun x => [(x.n 3 + 255, listObj #[v1, v2] 1)], fun _ => True, g0⟩
theorem colTup_ok {b1 b2 : Bool} {w : World} {jt tp : Nat} {v1 v2 : Value}
  (A : Around) (s : Shared) (hA : Deep 1 A) (hs : Stat b1 b2 w s.heap) (hn : ∀ p ∈ (xColTup jt tp v1 v2).need, s.heap.get? p.2.1 = some p.2.2) : codeAny (model theProg (wW b1 b2 w)) A (xColTup jt tp v1 v2).c (Meet (xColTup jt tp v1 v2) s) s := by
 obtain ⟨hh, dep, fr, gs, un⟩ := A
 obtain ⟨rfl, hd, hu⟩ := hA
 have o3 : s.heap.get? (tp + 255) = some (tup #[v1, v2]) := hn _ (.head _)
 have hb := hs.big
 obtain ⟨ac, hac⟩ : ∃ ac, ac + 255 = s.heap.objs.size := ⟨s.heap.objs.size - 255, by lia⟩
 refine codeOwn F.entry_proto_collect ?_
 show wpOwn _ _ _ (newList [] >>= fun l => again (.builtin "list.__iadd__" ⟨[l, .ref (tp + 255)], []⟩)) _ _ _
 refine wpOwn_bind (wpOwn_of_wpAny (wpAny_newObj_type ?_))
 rw [<- hac]
 refine y_pure _ _ _ _ _ _ _ _ _ (y_again _ _ _ _ _ _ (plainId_quiet F.plain_list_iadd _) ?_)
 have k3 : (s.heap.push (listObj #[] 0)).get? (tp + 255) = some (tup #[v1, v2]) := Heap.get?_push_of_some _ o3
 have k5 : (s.heap.push (listObj #[] 0)).get? (ac + 255) = some (listObj #[] 0) := by rw [hac]; exact Heap.get?_push_size _ rfl
 have ne : ac + 255 ≠ tp + 255 := ne_get k5 k3 (ne_cls (by simp))
 refine codeOwn F.entry_list_iadd ?_
 show wpOwn _ _ _ (Builtin.List.listExtendWith (.ref (ac + 255)) (.ref (tp + 255)) (.ref (ac + 255))) _ _ _
 unfold Builtin.List.listExtendWith
 refine wpOwn_bind (wpOwn_of_wpAny (wpAny_typeOf (T := "tuple") ⟨_, k3, rfl⟩ ?_))
 rw [if_pos (by rw [show Builtin.List.listSameRef (.ref (ac + 255)) (.ref (tp + 255)) = false by simpa [Builtin.List.listSameRef] using ne]; decide)]
 refine treeBy (s := { s with heap := s.heap.push (listObj #[] 0) }) [(tp + 255, tup #[v1, v2]), (ac + 255, listObj #[] 0)] (fun _ => .go 5 [1, 2, 2, 2, 2] .done) [0, 1]
  (fun nb xs => ⟨none, .base, .pure (.done (.ret (.ref (ac + 255)))), [], [(some (tup #[v1, v2]), tp + 255), (some (listObj #[v1, v2] 1), ac + 255)]⟩)
  (holds_iff.mpr fun x o e => Heap.get?_push_of_some _ (holds_iff.mp hs x o e)) ?_ (List.nodup_cons.mpr ⟨fun h => ne (mS h).symm, List.nodup_cons.mpr ⟨fun h => (nomatch h), List.nodup_nil⟩⟩) rfl hd hu (fun _ => trivial) ?_ ?_
 ·intro p hp
  replace hp := mr2 hp
  rcases hp with rfl | rfl
  ·exact ⟨k3, .inl (Nat.le_add_left ..)⟩
  ·exact ⟨k5, .inl (Nat.le_add_left ..)⟩
 ·intro nb xs
  cases b1 <;> cases b2 <;> kernel_rfl
 ·intro nb xs st hnb _ hsee
  have e := See.mk.inj hsee
  refine endRet e.1 e.2.1 e.2.2.1 fun s' R' => ?_
  have ho := e.2.2.2.2
  simp only [List.map_cons, List.map_nil, List.cons.injEq, Prod.mk.injEq, and_true] at ho
  obtain ⟨⟨q1, g1⟩, q2, g2⟩ := ho
  have f1 := (R'.own _ _ q1).2; have f2 := (R'.own _ _ q2).2
  rw [g1] at f1; rw [g2] at f2
  have E := (R'.eff (n := 0) e.2.2.2.1).shrink (own' := [ac + 255]) fun x hx => by
   simp only [List.map_cons, List.map_nil, List.mem_cons, List.not_mem_nil, or_false] at hx
   rcases hx with rfl | rfl
   ·exact .inr ⟨_, k3, f1⟩
   ·exact .inl (.head _)
  have E' := (Eff.push s (listObj #[] 0)).trans E (fun x hx => by rw [mS hx]; exact .inr (by lia))
  refine ⟨uk [s'.heap.objs.size - 255, s'.toks, 0, ac], trivial, rfl, E'.effY rfl hb rfl rfl (fun _ h => nomatch h) (fun p hp => ?_) (by show [_].Nodup; simp) (fun _ h => nomatch h)⟩
  rw [mS hp]; exact ⟨f2, by show _ <= ac + 255; lia⟩
noncomputable abbrev parseCode (x : Str) (t : Tok) : Code := .call (.ref 211) ⟨[.ref 217, .str x t], []⟩
noncomputable def xParse (x : Str) (t : Tok) (a b : Str) : Ext := ⟨parseCode x t, [], fun u => .ok (.ret (.ref (u.n 3 + 255))), fun _ => [], fun u => [(u.n 3 + 255, pairObj (u.n 4 + 255) a (u.n 5) b (u.n 6)), (u.n 4 + 255, dict0)], fun _ => True, g0⟩
noncomputable def actsParse (x : Str) (t : Tok) (pa pb a b : Str) (tb : Nat) : Acts :=
 .go 35 [0, 0, 1, 1, 1, 1, 0, 1, 0, 0, 0, 0, 1] <|
 .ext (xSplit x t "=" (tb + 3) 1 (tb + 4) pa pb) fun x0 =>
 .go 29 [2, 2, 2, 3, 5, 5, 5, 5, 5] <|
 .ext (xColMap 1 (x0.n 3) 2 (x0.n 0 + 0) 3 (x0.n 0 + 1) 4 (x0.n 0 + 2) pa (x0.n 4) pb (x0.n 5) a b) fun x1 =>
 .go 101 [6, 0, 0, 0, 0, 0, 0, 0, 0, 0, 0, 0, 0, 0, 0, 0, 0, 0, 0, 0, 0, 0, 0, 0, 7, 7, 7, 7, 7, 7, 0, 0, 0, 7, 7, 7, 0, 0, 0, 0, 0, 0, 0, 0, 0, 0, 0, 0, 0, 0, 0, 0, 0, 0, 0, 0, 0, 0, 0, 0, 0, 0, 0] <|
 .ext (xColTup 7 (x1.n 0 + 1) (.str a (x1.n 4)) (.str b (x1.n 5))) fun x2 =>
 .go 30 [9, 0, 11, 0, 11, 0, 0, 0, 0, 0, 11, 0, 11, 0, 0, 0, 0, 0, 0, 0] .done
noncomputable def seeParse (a b : Str) (xs : Nat -> Unk) : See :=
 ⟨none, .base, .pure (.done (.ret (.ref ((xs 2).n 0 + 255 + 1)))), [], [(some dict0, (xs 2).n 0 + 255 + 0), (some (pairObj ((xs 2).n 0 + 255 + 0) a ((xs 1).n 4) b ((xs 1).n 5)), (xs 2).n 0 + 255 + 1)]⟩
set_option maxHeartbeats 4000000 in
theorem parse_check (b1 b2 : Bool) (w : World) (dep un : Nat) (fr : Option (List Env)) (gs : Option (List Code)) (γ nb tb : Nat) (x : Str) (t : Tok) (pa pb a b : Str) (xs : Nat -> Unk) :
  ((exec (VV b1 b2 w dep un fr gs γ) (actsParse x t pa pb a b tb) [] (parseCode x t) none .base (den (parseCode x t)) .nil 0 (fun _ => 0) (nb + 255) 0 tb 0 [] []).check xs [9, 10]) =
   (exec (VV b1 b2 w dep un fr gs γ) (actsParse x t pa pb a b tb) [] (parseCode x t) none .base (den (parseCode x t)) .nil 0 (fun _ => 0) (nb + 255) 0 tb 0 [] []).wants xs (seeParse a b xs) := by
 cases b1 <;> cases b2 <;> kernel_rfl
theorem parse_ok {b1 b2 : Bool} {w : World} {x : Str} {t : Tok} {pa pb a b : Str} (h1 : splitOk x "=" 1 pa pb = true) (h2 : stripOk pa a = true) (h3 : stripOk pb b = true)
  (A : Around) (s : Shared) (hA : Deep 2 A) (hs : Stat b1 b2 w s.heap) : codeAny (model theProg (wW b1 b2 w)) A (parseCode x t) (Meet (xParse x t a b) s) s := by
 obtain ⟨hh, dep, fr, gs, un⟩ := A
 have hA1 := (hA.le (m := 1) (by decide)).room
 obtain ⟨rfl, hd, hu⟩ := hA1
 refine codeBy [] (fun _ => actsParse x t pa pb a b s.toks) [9, 10] (fun _ => seeParse a b) hs (fun _ h => nomatch h) List.nodup_nil rfl hd hu (fun _ => ?_) (fun nb xs => parse_check ..) ?_
 ·exact ⟨ok_xSplit _ _ _ _ _ _ _ _ (by decide) h1, fun x0 _ => ⟨ext_of 1 hA (colMap_ok h2 h3), fun x1 _ => ⟨ext_of 1 hA colTup_ok, fun x2 _ => trivial⟩⟩⟩
 ·intro nb xs st hnb _ hsee
  have e := See.mk.inj hsee
  refine endRet e.1 e.2.1 e.2.2.1 fun s' R => ?_
  have ho := e.2.2.2.2
  simp only [List.map_cons, List.map_nil, List.cons.injEq, Prod.mk.injEq, and_true, a255] at ho
  refine ⟨uk [s'.heap.objs.size - 255, s'.toks, 0, (xs 2).n 0 + 1, (xs 2).n 0 + 0, (xs 1).n 4, (xs 1).n 5], trivial, ?_, effBy R e.2.2.2.1 hs.big rfl rfl (fun _ h => nomatch h) (fun _ h => nomatch h) (fun q hq => ?_) ?_⟩
  ·rw [a255]; rfl
  ·rcases mD hq with rfl | hq
   ·exact ⟨10, ho.2.1, ho.2.2, Nat.zero_le _⟩
   ·rw [mS hq]
    exact ⟨9, ho.1.1, ho.1.2, Nat.zero_le _⟩
  ·show [(xs 2).n 0 + 1 + 255, (xs 2).n 0 + 0 + 255].Nodup
   simp
noncomputable abbrev DL := List (Str × Tok × Value)
noncomputable def ent (w : World) (p : Str × Tok × Value) : DictEntry := ⟨hashStr w p.1, .str p.1 p.2.1, p.2.2⟩
noncomputable def ents (w : World) (L : DL) : Array DictEntry := (L.map (ent w)).toArray
noncomputable def getL (L : DL) (k : Str) : Option Value := (L.find? (fun p => p.1 = k)).map (·.2.2)
noncomputable def setL : DL -> Str -> Tok -> Value -> DL
 | [], k, t, v => [(k, t, v)]
 | p :: L, k, t, v => if p.1 = k then (p.1, p.2.1, v) :: L else p :: setL L k t v
noncomputable def hasL (L : DL) (k : Str) : Bool := L.any fun p => decide (p.1 = k)
theorem keysOf_ents (prog : Program) (w : World) (L : DL) : PySem.KeysOf (PySem.strKind prog w) (ents w L) := by
 intro e he
 simp only [ents, List.mem_toArray, List.mem_map] at he
 obtain ⟨p, hp, rfl⟩ := he
 exact ⟨p.1, by show (p.1 == p.1) = true; simp, rfl⟩
theorem find_ents (w : World) (L : DL) (k : Str) : (ents w L).findIdx? (fun e => Value.isStrOf k e.key) = L.findIdx? fun p => decide (p.1 = k) := by
 unfold ents
 rw [List.findIdx?_toArray, List.findIdx?_map]
 congr 1
theorem get_of_idx {L : DL} {k : Str} {i : Nat} (h : L.findIdx? (fun p => decide (p.1 = k)) = some i) : X1_3 (fun p => L[i]? = some p) (fun p => p.1 = k) (fun p => getL L k = some p.2.2) := by
 induction L generalizing i with
 | nil => simp at h
 | cons p L ih =>
  rw [List.findIdx?_cons] at h
  by_cases hp : p.1 = k
  ·rw [if_pos (by simpa using hp)] at h
   cases h
   exact ⟨p, rfl, hp, by simp [getL, hp]⟩
  ·rw [if_neg (by simpa using hp)] at h
   cases h' : L.findIdx? (fun p => decide (p.1 = k)) with
   | none => rw [h'] at h; simp at h
   | some j =>
    rw [h'] at h
    simp only [Option.map_some, Option.some.injEq] at h
    subst h
    obtain ⟨q, h1, h2, h3⟩ := ih h'
    refine ⟨q, by simpa using h1, h2, ?_⟩
    rw [<- h3]
    simp [getL, hp]
theorem get_none {L : DL} {k : Str} (h : L.findIdx? (fun p => decide (p.1 = k)) = none) : getL L k = none := by
 rw [List.findIdx?_eq_none_iff] at h
 unfold getL
 rw [List.find?_eq_none.mpr (fun p hp => by simpa using h p hp)]
 rfl
theorem set_hit {w : World} {L : DL} {k : Str} {t : Tok} {v : Value} {i : Nat} (h : L.findIdx? (fun p => decide (p.1 = k)) = some i) : (ents w L).modify i (fun e => { e with val := v }) = ents w (setL L k t v) := by
 induction L generalizing i with
 | nil => simp at h
 | cons p L ih =>
  rw [List.findIdx?_cons] at h
  by_cases hp : p.1 = k
  ·rw [if_pos (by simpa using hp)] at h
   cases h
   have e : setL (p :: L) k t v = (p.1, p.2.1, v) :: L := if_pos hp
   rw [e]
   simp [ents, ent]
  ·rw [if_neg (by simpa using hp)] at h
   cases h' : L.findIdx? (fun p => decide (p.1 = k)) with
   | none => rw [h'] at h; simp at h
   | some j =>
    rw [h'] at h
    simp only [Option.map_some, Option.some.injEq] at h
    subst h
    have e : setL (p :: L) k t v = p :: setL L k t v := if_neg hp
    rw [e]
    have := ih h'
    simp only [ents, List.modify_toArray, List.map_cons, List.modify_succ_cons] at this ⊢
    rw [Array.mk.injEq] at this ⊢
    rw [this]
theorem set_new {w : World} {L : DL} {k : Str} {t : Tok} {v : Value} (h : L.findIdx? (fun p => decide (p.1 = k)) = none) : (ents w L).push ⟨hashStr w k, .str k t, v⟩ = ents w (setL L k t v) := by
 induction L with
 | nil => rfl
 | cons p L ih =>
  rw [List.findIdx?_eq_none_iff] at h
  have hp : ¬ p.1 = k := by simpa using h p (.head _)
  have e : setL (p :: L) k t v = p :: setL L k t v := if_neg hp
  rw [e]
  have := ih (List.findIdx?_eq_none_iff.mpr fun x hx => h x (.tail _ hx))
  simp only [ents, List.push_toArray, List.map_cons, List.cons_append] at this ⊢
  rw [Array.mk.injEq] at this ⊢
  rw [this]
theorem setL_len (L : DL) (k : Str) (t : Tok) (v : Value) : (setL L k t v).length <= L.length + 1 := by
 induction L with
 | nil => exact Nat.le_refl _
 | cons p L ih =>
  unfold setL
  split
  ·simp
  ·simp only [List.length_cons]; lia
section
variable {prog : Program} {w : World} {A : Around} {E : Value -> Shared -> Prop} {s : Shared}
theorem wpAny_getL {d : Nat} {o : Obj} {L : DL} {ep : Nat} {k : Str} {t : Tok} {Q : Option Value -> Shared -> Prop} (ho : s.heap.get? d = some o) (hd : o.data = .dict (ents w L) ep) (h : Q (getL L k) { s with toks := s.toks + 1 }) :
  wpAny (model prog w) A (dictGet d (.str k t)) Q E s := by
 have hkey : (PySem.strKind prog w).is k (.str k t) = true := by show (k == k) = true; simp
 unfold dictGet
 try with_reducible refine wpAny_holding ?_
 refine wpAny_bind ((PySem.strKind prog w).pyHash hkey (wpAny_bind (wpAny_dictFind_of (s := { s with toks := s.toks + 1 }) hkey ho hd (keysOf_ents prog w L) ?_)))
 show wpAny _ _ (match (ents w L).findIdx? (fun e => Value.isStrOf k e.key) with | some i => _ | none => _) _ _ _
 rw [find_ents]
 cases hi : L.findIdx? fun p => decide (p.1 = k) with
 | none => rw [get_none hi] at h; exact wpAny_pure h
 | some i =>
  obtain ⟨p, h1, h2, h3⟩ := get_of_idx hi
  rw [h3] at h
  refine wpAny_bind (wpAny_dictEntries (s := { s with toks := s.toks + 1 }) ho hd (wpAny_pure ?_))
  have : ((ents w L)[i]?).map (·.val) = some p.2.2 := by
   unfold ents
   rw [List.getElem?_toArray, List.getElem?_map, h1]; rfl
  rw [this]; exact h
noncomputable def setObj (w : World) (o : Obj) (L : DL) (ep : Nat) (k : Str) (t : Tok) (v : Value) : Obj := { o with data := .dict (ents w (setL L k t v)) (if hasL L k then ep else ep + 1) }
theorem hasL_idx (L : DL) (k : Str) : hasL L k = (L.findIdx? fun p => decide (p.1 = k)).isSome := by
 unfold hasL
 rw [List.findIdx?_isSome]
theorem wpAny_setL {d : Nat} {o : Obj} {L : DL} {ep : Nat} {k : Str} {t : Tok} {v : Value} {Q : Unit -> Shared -> Prop} (ho : s.heap.get? d = some o) (hd : o.data = .dict (ents w L) ep) (hsz : L.length <= sizeLine)
  (h : ∀ h', h'.get? d = some (setObj w o L ep k t v) -> Heap.SameBut d s.heap h' -> Eff [d] 0 s { s with heap := h' } -> Q () { s with heap := h', toks := s.toks + 1 }) :
  wpAny (model prog w) A (dictSet d (.str k t) v) Q E s := by
 have hkey : (PySem.strKind prog w).is k (.str k t) = true := by show (k == k) = true; simp
 have hes : (ents w L).size <= sizeLine := by simpa [ents] using hsz
 unfold dictSet
 try with_reducible refine wpAny_holding ?_
 refine wpAny_bind ((PySem.strKind prog w).pyHash hkey ?_)
 unfold dictSetHashed
 try with_reducible refine wpAny_holding ?_
 refine wpAny_bind (wpAny_dictFind_of (s := { s with toks := s.toks + 1 }) hkey ho hd (keysOf_ents prog w L) ?_)
 show wpAny _ _ (match (ents w L).findIdx? (fun e => Value.isStrOf k e.key) with | some i => _ | none => _) _ _ _
 rw [find_ents]
 have hh := hasL_idx L k
 obtain ⟨c, dd, dt, sl⟩ := o
 dsimp only at hd
 subst hd
 cases hi : L.findIdx? fun p => decide (p.1 = k) with
 | none =>
  rw [hi] at hh
  refine wpAny_bind (wpAny_rule (wpAny_updateDictKeys (hz := hes) (s := { s with toks := s.toks + 1 }) ho rfl (h _ ?_ (Heap.SameBut.update ..) (Eff.update s d _))))
  rw [Heap.get?_update_self _ ho rfl]
  show some (Obj.mk _ _ (.dict ((ents w L).push ⟨hashStr w k, .str k t, v⟩) (ep + 1)) _) = _
  rw [set_new hi]
  show _ = some (Obj.mk _ _ (.dict _ (if hasL L k = true then ep else ep + 1)) _)
  rw [hh]; rfl
 | some i =>
  rw [hi] at hh
  refine wpAny_bind (wpAny_rule (wpAny_bind (wpAny_updateDict (s := { s with toks := s.toks + 1 }) ho rfl (wpAny_point (h _ ?_ (Heap.SameBut.update ..) (Eff.update s d _))))))
  rw [Heap.get?_update_self _ ho rfl]
  show some (Obj.mk _ _ (.dict ((ents w L).modify i fun e => { e with val := v }) ep) _) = _
  rw [set_hit (t := t) hi]
  show _ = some (Obj.mk _ _ (.dict _ (if hasL L k = true then ep else ep + 1)) _)
  rw [hh]; rfl
end
noncomputable def Rel {α : Type} (c : Code) (t t' : Sem α) : Prop := ∀ (M : Model) (Γ : PySem.Ctx) (Q : α -> Pos -> Shared -> Prop) (E : Value -> Pos -> Shared -> Prop) (p : Pos) (s : Shared), Γ.code = c -> Sem.wp M Γ t' Q E p s -> Sem.wp M Γ t Q E p s
theorem Rel.refl {α : Type} {c : Code} (t : Sem α) : Rel c t t := fun _ _ _ _ _ _ _ h => h
theorem Rel.bind {α β : Type} {c : Code} {m m' : Sem α} {f f' : α -> Sem β} (h1 : Rel c m m') (h2 : ∀ a, Rel c (f a) (f' a)) : Rel c (m >>= f) (m' >>= f') := by
 intro M Γ Q E p s hc h
 rw [Sem.wp_bind'] at h ⊢
 exact h1 _ _ _ _ _ _ hc (Sem.wp_mono M Γ m' (fun a p' s' x => h2 a _ _ _ _ _ _ hc x) (fun _ _ _ x => x) p s h)
theorem Rel.onRaise {α : Type} {c : Code} {m m' : Sem α} {k : Value -> Sem Unit} (h1 : Rel c m m') : Rel c (m.onRaise k) (m'.onRaise k) := by
 intro M Γ Q E p s hc h
 rw [Sem.wp_onRaise] at h ⊢
 exact h1 _ _ _ _ _ _ hc h
theorem Rel.holding {α : Type} {c : Code} {vs : List Value} {m m' : Sem α} (h1 : Rel c m m') : Rel c (holding vs m) (holding vs m') := by
 intro M Γ Q E p s hc h
 rw [Sem.wp_holding] at h ⊢
 exact h1 _ _ _ _ _ _ hc h
theorem Rel.own {α : Type} {c : Code} {t t' : Sem α} (h : Rel c t t') {prog : Program} {w : World} {A : Around} {Q : α -> Shared -> Prop} {E : Value -> Shared -> Prop} {s : Shared} (x : wpOwn (model prog w) A c t' Q E s) : wpOwn (model prog w) A c t Q E s :=
 fun Γ p hc hΓ => h _ _ _ _ _ _ hc (x Γ p hc hΓ)
theorem Rel.comps {body : List Stmt} {env : Env} : Rel (.func body env) comprehensionsAround (pure []) := by
 intro M Γ Q E p s hc h
 unfold comprehensionsAround callersCodes
 rw [Sem.wp_bind', Sem.wp_bind']
 have hst : ∀ (Q : List (Code × Pos) -> Pos -> Shared -> Prop), Sem.wp M Γ stack Q E p s = Q ((Γ.code, p) :: Γ.below) p s := fun _ => rfl
 rw [hst, hc]
 dsimp only
 split
 ·rename_i hx
  exact absurd (show (some env.frame != some env.frame) = true from hx) (by simp)
 ·have e : ∀ below, pastTheWaiting ((.func body env, p) :: below) = (.func body env, p) :: pastTheWaiting.go false (some (.func body env)) below := fun _ => rfl
  rw [e]
  exact h
noncomputable def abF (o : Expr) (attr : Str) (env : Env) (whole : Sem Value) : { F : Sem (List Env) -> Sem Value // F comprehensionsAround = attributeBase o attr env whole } := by
 apply Subtype.mk
 unfold attributeBase
 generalize comprehensionsAround = cm
 exact rfl
theorem abF_rel {body : List Stmt} {env' : Env} (p0 p1 : Pos) (id attr : Str) (env : Env) (whole : Sem Value) : Rel (.func body env') (attributeBase (.Call (.Name id p0) [] [] p1) attr env whole) ((abF (.Call (.Name id p0) [] [] p1) attr env whole).1 (pure [])) := by
 suffices h : Rel (.func body env') ((abF (.Call (.Name id p0) [] [] p1) attr env whole).1 comprehensionsAround) ((abF (.Call (.Name id p0) [] [] p1) attr env whole).1 (pure [])) by
  rw [(abF (.Call (.Name id p0) [] [] p1) attr env whole).2] at h
  exact h
 unfold abF
 dsimp only
 repeat' (first | with_reducible exact Rel.refl _ | with_reducible exact Rel.comps | with_reducible refine Rel.bind ?_ (fun _ => ?_) | split)
noncomputable def attrT (o : Expr) (attr : Str) (pos : Pos) (ab : Sem Value) : Sem Value := do
 let v <- ab
 standAt pos.atName
 let r <- holding [v] (getAttr v attr true)
 letTemporaryGo o v r
 pure r
theorem Rel.attrT {c : Code} {o : Expr} {attr : Str} {pos : Pos} {m m' : Sem Value} (h : Rel c m m') : Rel c (attrT o attr pos m) (Mine.attrT o attr pos m') := Rel.bind h fun _ => Rel.refl _
noncomputable def call3 (pos : Pos) (f : Value) (a b m : Sem Value) : Sem Value := callWith pos f [] [(false, a), (false, b), (false, m)] []
theorem Rel.spliced3 {c : Code} {a b m m' : Sem Value} (h : Rel c m m') : Rel c (spliced [(false, a), (false, b), (false, m)]) (spliced [(false, a), (false, b), (false, m')]) := by
 simp only [spliced]
 refine Rel.bind (Rel.refl _) fun _ => Rel.bind (Rel.refl _) fun _ => Rel.bind (Rel.holding ?_) fun _ => Rel.refl _
 refine Rel.bind (Rel.refl _) fun _ => Rel.bind (Rel.refl _) fun _ => Rel.bind (Rel.holding ?_) fun _ => Rel.refl _
 exact Rel.bind h fun _ => Rel.refl _
theorem Rel.call3 {c : Code} {pos : Pos} {f : Value} {a b m m' : Sem Value} (h : Rel c m m') : Rel c (call3 pos f a b m) (Mine.call3 pos f a b m') := by
 unfold Mine.call3 callWith
 refine Rel.bind (Rel.holding ?_) fun _ => Rel.refl _
 unfold evalArgs
 exact Rel.bind (Rel.spliced3 h) fun _ => Rel.refl _
noncomputable def missI (p2 : Pos) (g e1 e2 : Expr) (env : Env) (m : Sem Value) : Sem Value := do call3 p2 (<- eval g env) (eval e1 env) (eval e2 env) m
noncomputable def missE (p3 p2 : Pos) (g e1 e2 e3 : Expr) (env : Env) (m : Sem Value) : Sem Value := do callWith p3 (<- missI p2 g e1 e2 env m) [] (backTo p3 [(false, eval e3 env)]) (backToKw p3 [])
noncomputable def missX (pR p3 p2 : Pos) (g e1 e2 e3 : Expr) (env : Env) (m : Sem Value) : Sem Flow := do
 standAt pR
 return Flow.ret (<- missE p3 p2 g e1 e2 e3 env m)
noncomputable def missS (pR p3 p2 : Pos) (g e1 e2 e3 : Expr) (env : Env) (m : Sem Value) : Sem Flow := do
 match <- missX pR p3 p2 g e1 e2 e3 env m with
  | .next => execs [] env
  | f => pure f
noncomputable def missN (pR p3 p2 : Pos) (g e1 e2 e3 : Expr) (env : Env) (m : Sem Value) : Sem PySem.Fin := do
 point
 match <- (missS pR p3 p2 g e1 e2 e3 env m).onRaise (leaving env) with
 | .ret v => ret v
 | _ => ret .none
theorem Rel.missN {c : Code} {pR p3 p2 : Pos} {g e1 e2 e3 : Expr} {env : Env} {m m' : Sem Value} (h : Rel c m m') : Rel c (missN pR p3 p2 g e1 e2 e3 env m) (Mine.missN pR p3 p2 g e1 e2 e3 env m') :=
 Rel.bind (Rel.refl _) fun _ => Rel.bind (Rel.onRaise (Rel.bind (Rel.bind (Rel.refl _) fun _ => Rel.bind (Rel.bind (Rel.bind (Rel.refl _) fun _ => Rel.call3 h) fun _ => Rel.refl _) fun _ => Rel.refl _) fun _ => Rel.refl _)) fun _ => Rel.refl _
theorem miss_tree (pR p3 p2 p1 p0 pA pg q1 q2 q3 : Pos) (n2 : Nat) (k2 : Const) (g x1 x3 sup attr : Str) (env : Env) :
  denote table (.func [.Return (some (.Call (.Call (.Name g pg) [.Name x1 q1, .Constant k2 n2 q2, .Attribute (.Call (.Name sup p0) [] [] p1) attr pA] [] p2) [.Name x3 q3] [] p3)) pR] env) =
   missN pR p3 p2 (.Name g pg) (.Name x1 q1) (.Constant k2 n2 q2) (.Name x3 q3) env (attrT (.Call (.Name sup p0) [] [] p1) attr pA (attributeBase (.Call (.Name sup p0) [] [] p1) attr env (eval (.Call (.Name sup p0) [] [] p1) env))) := rfl
theorem miss_rel {body : List Stmt} {env' : Env} (pR p3 p2 p1 p0 pA : Pos) (g e1 e2 e3 : Expr) (sup attr : Str) (env : Env) : Rel (.func body env')
  (missN pR p3 p2 g e1 e2 e3 env (attrT (.Call (.Name sup p0) [] [] p1) attr pA (attributeBase (.Call (.Name sup p0) [] [] p1) attr env (eval (.Call (.Name sup p0) [] [] p1) env))))
  (missN pR p3 p2 g e1 e2 e3 env (attrT (.Call (.Name sup p0) [] [] p1) attr pA ((abF (.Call (.Name sup p0) [] [] p1) attr env (eval (.Call (.Name sup p0) [] [] p1) env)).1 (pure [])))) :=
 Rel.missN (Rel.attrT (abF_rel p0 p1 sup attr env _))
noncomputable abbrev bkObj (w : World) (dd : Nat) (L : DL) (ep : Nat) : Obj := { cls := .ref 122, dict := some dd, data := .dict (ents w L) ep, slots := #[some (.ref 227)] }
noncomputable abbrev frObj (w : World) (L : DL) (ep : Nat) : Obj := { cls := .type "frame", data := .dict (ents w L) ep }
noncomputable abbrev nothCode : Code := .call (.ref 227) ⟨[], []⟩
noncomputable abbrev entry0 (t0 t1 t2 t3 tb : Nat) : Obj := tup #[.str "" t0, .str "" t1, .str "" t2, .str "" t3, .ref tb]
noncomputable def xNoth : Ext := ⟨nothCode, [], fun u => .ok (.ret (.ref (u.n 3 + 255))), fun _ => [], fun u => [(u.n 3 + 255, entry0 (u.n 5) (u.n 6) (u.n 7) (u.n 8) (u.n 4 + 255)), (u.n 4 + 255, dict0)], fun _ => True, g0⟩
set_option maxHeartbeats 4000000 in
theorem noth_check (b1 b2 : Bool) (w : World) (dep un : Nat) (fr : Option (List Env)) (gs : Option (List Code)) (γ nb tb : Nat) (xs : Nat -> Unk) :
  ((exec (VV b1 b2 w dep un fr gs γ) (.go 15 [0, 0, 0] .done) [] nothCode none .base (den nothCode) .nil 0 (fun _ => 0) (nb + 255) 0 tb 0 [] []).check xs [1, 2]) =
   (exec (VV b1 b2 w dep un fr gs γ) (.go 15 [0, 0, 0] .done) [] nothCode none .base (den nothCode) .nil 0 (fun _ => 0) (nb + 255) 0 tb 0 [] []).wants xs
    ⟨none, .base, .pure (.done (.ret (.ref (nb + 255 + 2)))), [], [(some dict0, nb + 255 + 1), (some (entry0 (tb + 0) (tb + 1) (tb + 2) (tb + 3) (nb + 255 + 1)), nb + 255 + 2)]⟩ := by
 cases b1 <;> cases b2 <;> kernel_rfl
theorem noth_ok {b1 b2 : Bool} {w : World} (A : Around) (s : Shared) (hA : Deep 1 A) (hs : Stat b1 b2 w s.heap) : codeAny (model theProg (wW b1 b2 w)) A nothCode (Meet xNoth s) s := by
 obtain ⟨hh, dep, fr, gs, un⟩ := A
 obtain ⟨rfl, hd, hu⟩ := hA
 refine codeBy [] (fun _ => .go 15 [0, 0, 0] .done) [1, 2] _ hs (fun _ h => nomatch h) List.nodup_nil rfl hd hu (fun _ => trivial) (fun nb xs => noth_check ..) ?_
 intro nb xs st hnb _ hsee
 have e := See.mk.inj hsee
 refine endRet e.1 e.2.1 e.2.2.1 fun s' R => ?_
 have ho := e.2.2.2.2
 simp only [List.map_cons, List.map_nil, List.cons.injEq, Prod.mk.injEq, and_true, a255] at ho
 refine ⟨uk [s'.heap.objs.size - 255, s'.toks, 0, nb + 2, nb + 1, s.toks, s.toks + 1, s.toks + 2, s.toks + 3], trivial, ?_, effBy R e.2.2.2.1 hs.big rfl rfl (fun _ h => nomatch h) (fun _ h => nomatch h) (fun q hq => ?_) ?_⟩
 ·rw [a255]; rfl
 ·rcases mD hq with rfl | hq
  ·exact ⟨2, ho.2.1, ho.2.2, Nat.zero_le _⟩
  ·rw [mS hq]
   exact ⟨1, ho.1.1, ho.1.2, Nat.zero_le _⟩
 ·show [nb + 2 + 255, nb + 1 + 255].Nodup
  simp
theorem getL_none_idx {L : DL} {k : Str} (h : getL L k = none) : L.findIdx? (fun p => decide (p.1 = k)) = none := by
 cases hi : L.findIdx? (fun p => decide (p.1 = k)) with
 | none => rfl
 | some i =>
  obtain ⟨p, _, _, h3⟩ := get_of_idx hi
  rw [h3] at h; cases h
theorem hasL_get (L : DL) (k : Str) : hasL L k = (getL L k).isSome := by
 rw [hasL_idx]
 cases hi : L.findIdx? (fun p => decide (p.1 = k)) with
 | none => rw [get_none hi]; rfl
 | some i => obtain ⟨p, _, _, h3⟩ := get_of_idx hi; rw [h3]; rfl
theorem wpAny_setDefL {prog : Program} {w : World} {A : Around} {E : Value -> Shared -> Prop} {s : Shared} {d : Nat} {o : Obj} {L : DL} {ep : Nat} {k : Str} {t : Tok} {v : Value} {Q : Value -> Shared -> Prop} (ho : s.heap.get? d = some o) (hd : o.data = .dict (ents w L) ep) (hsz : L.length <= sizeLine) (hk : getL L k = none)
  (h : ∀ h', h'.get? d = some (setObj w o L ep k t v) -> h'.objs.size = s.heap.objs.size -> Eff [d] 0 s { s with heap := h' } -> Q v { s with heap := h', toks := s.toks + 1 }) :
  wpAny (model prog w) A (dictSetDefault d (.str k t) v) Q E s := by
 have hkey : (PySem.strKind prog w).is k (.str k t) = true := by show (k == k) = true; simp
 have hes : (ents w L).size <= sizeLine := by simpa [ents] using hsz
 unfold dictSetDefault
 try with_reducible refine wpAny_holding ?_
 refine wpAny_bind ((PySem.strKind prog w).pyHash hkey ?_)
 refine wpAny_bind (wpAny_dictFind_of (s := { s with toks := s.toks + 1 }) hkey ho hd (keysOf_ents prog w L) ?_)
 show wpAny _ _ (match (ents w L).findIdx? (fun e => Value.isStrOf k e.key) with | some i => _ | none => _) _ _ _
 rw [find_ents, getL_none_idx hk]
 have hh : hasL L k = false := by rw [hasL_get, hk]; rfl
 obtain ⟨c, dd, dt, sl⟩ := o
 dsimp only at hd
 subst hd
 have hs : Heap.SameBut d s.heap (s.heap.update d (Obj.mapDictKeys (·.push ⟨hashStr w k, .str k t, v⟩))) := Heap.SameBut.update ..
 refine wpAny_bind (wpAny_rule (wpAny_bind (wpAny_updateDictKeys (f := (·.push ⟨hashStr w k, .str k t, v⟩)) (hz := hes) (s := { s with toks := s.toks + 1 }) ho rfl (wpAny_pure (h _ ?_ hs.1 (Eff.update s d _))))))
 rw [Heap.get?_update_self _ ho rfl]
 show some (Obj.mk _ _ (.dict ((ents w L).push ⟨hashStr w k, .str k t, v⟩) (ep + 1)) _) = _
 rw [set_new (getL_none_idx hk)]
 show _ = some (Obj.mk _ _ (.dict _ (if hasL L k = true then ep else ep + 1)) _)
 rw [hh]; rfl
noncomputable def xMissG (c : Code) (need : List (Nat × Nat × Obj)) (w : World) (jb dd bk : Nat) (L : DL) (ep : Nat) (k : Str) (t : Tok) : Ext :=
 ⟨c, need, fun x => .ok (.ret (.ref (x.n 3 + 255))), fun x => [(jb, bk + 255, bkObj w (dd + 255) (setL L k t (.ref (x.n 3 + 255))) (ep + 1))],
  fun x => [(x.n 3 + 255, entry0 (x.n 5) (x.n 6) (x.n 7) (x.n 8) (x.n 4 + 255)), (x.n 4 + 255, dict0)], fun _ => True, g0⟩
set_option maxHeartbeats 4000000 in
theorem sdef_check (b1 b2 : Bool) (w : World) (dep un : Nat) (fr : Option (List Env)) (gs : Option (List Code)) (γ nb tb bk dd ep t : Nat) (L : DL) (k : Str) (v : Value) (xs : Nat -> Unk) :
  ((exec (VV b1 b2 w dep un fr gs γ) (.go 3 [1, 1, 0] .done) [] (.builtin "dict.setdefault" ⟨[.ref (bk + 255), .str k t, v], []⟩) none .base (Builtin.«dict.setdefault» ⟨[.ref (bk + 255), .str k t, v], []⟩) (newsT [(bk + 255, bkObj (wW b1 b2 w) (dd + 255) L ep)] .nil 0) 1 (newsG [(bk + 255, bkObj (wW b1 b2 w) (dd + 255) L ep)] (fun _ => 0) 0) (nb + 255) 0 tb 0 [] []).check xs [0]) =
   (exec (VV b1 b2 w dep un fr gs γ) (.go 3 [1, 1, 0] .done) [] (.builtin "dict.setdefault" ⟨[.ref (bk + 255), .str k t, v], []⟩) none .base (Builtin.«dict.setdefault» ⟨[.ref (bk + 255), .str k t, v], []⟩) (newsT [(bk + 255, bkObj (wW b1 b2 w) (dd + 255) L ep)] .nil 0) 1 (newsG [(bk + 255, bkObj (wW b1 b2 w) (dd + 255) L ep)] (fun _ => 0) 0) (nb + 255) 0 tb 0 [] []).wants xs
    ⟨none, .base, (dictSetDefault (bk + 255) (.str k t) v >>= fun x => ret x), [], [(some (bkObj (wW b1 b2 w) (dd + 255) L ep), bk + 255)]⟩ := by
 cases b1 <;> cases b2 <;> kernel_rfl
theorem plain_setdefault : plainId "dict.setdefault" = true := by decide +kernel
theorem plain_dmissing : plainId "collections.defaultdict.__missing__" = true := by decide +kernel
theorem endTree {V : YV} {X : YX} {st : St} {t0 : Sem PySem.Fin} (h1 : st.md = none) (h2 : st.κ = .base) (h3 : st.t = t0) (h : ∀ s, RepY V X st.T st.m st.sg st.nb st.nc st.tb st.tc st.gl s -> wpOwn (model V.prog V.w) V.A₀ st.c t0 (postC V.prog V.w V.A₀ X.R₀) (postE X.R₀) s) : GoodY V X st := by
 obtain ⟨c, md, κ, t, T, m, sg, nb, nc, tb, tc, gl⟩ := st
 dsimp only at h1 h2 h3
 subst h1 h2 h3
 exact fun s R => h s R
theorem sdef_ok {b1 b2 : Bool} {w : World} {dep un : Nat} {fr : Option (List Env)} {gs : Option (List Code)} {s : Shared} {R : Result -> Shared -> Prop} (hs : Stat b1 b2 w s.heap) (hd : dep + 60 < recursionLimit) (hu : un + 1000 < cLine)
  {bk dd ep : Nat} {L : DL} {k : Str} {t : Tok} {v : Value} (o1 : s.heap.get? (bk + 255) = some (bkObj (wW b1 b2 w) (dd + 255) L ep)) (hk : getL L k = none) (hsz : L.length <= sizeLine)
  (hR : ∀ s', s'.heap.get? (bk + 255) = some (bkObj (wW b1 b2 w) (dd + 255) (setL L k t v) (ep + 1)) -> Eff [bk + 255] 0 s s' -> R (.ok (.ret v)) s') :
  codeAny (model theProg (wW b1 b2 w)) ⟨none, dep, fr, gs, un⟩ (.builtin "dict.setdefault" ⟨[.ref (bk + 255), .str k t, v], []⟩) R s := by
 refine codeOwn F.entry_dict_setdefault ?_
 refine treeBy [(bk + 255, bkObj (wW b1 b2 w) (dd + 255) L ep)] (fun _ => .go 3 [1, 1, 0] .done) [0] _ hs (fun p hp => by rw [mS hp]; exact ⟨o1, .inl (Nat.le_add_left ..)⟩) (by simp) rfl hd hu (fun _ => trivial) (fun nb xs => sdef_check ..) ?_
 intro nb xs st hnb _ hsee
 have e := See.mk.inj hsee
 refine endTree e.1 e.2.1 e.2.2.1 fun s₁ R₁ => ?_
 have e5 := e.2.2.2.2
 simp only [List.map_cons, List.map_nil, List.cons.injEq, Prod.mk.injEq, and_true] at e5
 have f1 := (R₁.own _ _ e5.1).2
 rw [e5.2] at f1
 have E₀ : Eff [bk + 255] 0 s s₁ := R₁.eff (n := 0) e.2.2.2.1
 refine wpOwn_bind (wpOwn_of_wpAny (wpAny_setDefL f1 rfl hsz hk fun h' g1 g2 E₂ => ?_))
 refine y_pure _ _ _ _ _ _ _ _ _ (y_done _ _ _ _ _ _ (hR _ ?_ ?_))
 ·show h'.get? _ = _
  rw [g1]
  show some (Obj.mk _ _ (.dict _ (if hasL L k = true then ep else ep + 1)) _) = _
  rw [show hasL L k = false by rw [hasL_get, hk]; rfl]; rfl
 ·exact ((E₀.trans E₂ (fun b hb => .inl hb)).toks _)
set_option maxHeartbeats 4000000 in
theorem dmiss_check (b1 b2 : Bool) (w : World) (dep un : Nat) (fr : Option (List Env)) (gs : Option (List Code)) (γ nb tb bk dd ep t : Nat) (L : DL) (k : Str) (xs : Nat -> Unk) :
  ((exec (VV b1 b2 w dep un fr gs γ) (.go 2 [1, 0] <| .ext xNoth fun _ => .go 0 [] .done) [] (.builtin "collections.defaultdict.__missing__" ⟨[.ref (bk + 255), .str k t], []⟩) none .base (den (.builtin "collections.defaultdict.__missing__" ⟨[.ref (bk + 255), .str k t], []⟩)) (newsT [(bk + 255, bkObj (wW b1 b2 w) (dd + 255) L ep)] .nil 0) 1 (newsG [(bk + 255, bkObj (wW b1 b2 w) (dd + 255) L ep)] (fun _ => 0) 0) (nb + 255) 0 tb 0 [] []).check xs [0, 1, 2]) =
   (exec (VV b1 b2 w dep un fr gs γ) (.go 2 [1, 0] <| .ext xNoth fun _ => .go 0 [] .done) [] (.builtin "collections.defaultdict.__missing__" ⟨[.ref (bk + 255), .str k t], []⟩) none .base (den (.builtin "collections.defaultdict.__missing__" ⟨[.ref (bk + 255), .str k t], []⟩)) (newsT [(bk + 255, bkObj (wW b1 b2 w) (dd + 255) L ep)] .nil 0) 1 (newsG [(bk + 255, bkObj (wW b1 b2 w) (dd + 255) L ep)] (fun _ => 0) 0) (nb + 255) 0 tb 0 [] []).wants xs
    ⟨none, .base, .pure (.again (.builtin "dict.setdefault" ⟨[.ref (bk + 255), .str k t, .ref ((xs 0).n 3 + 255)], []⟩)), [], [(some (bkObj (wW b1 b2 w) (dd + 255) L ep), bk + 255), (some (entry0 ((xs 0).n 5) ((xs 0).n 6) ((xs 0).n 7) ((xs 0).n 8) ((xs 0).n 4 + 255)), (xs 0).n 3 + 255), (some dict0, (xs 0).n 4 + 255)]⟩ := by
 cases b1 <;> cases b2 <;> kernel_rfl
set_option maxHeartbeats 4000000 in
theorem meth_check (b1 b2 : Bool) (w : World) (dep un : Nat) (fr : Option (List Env)) (gs : Option (List Code)) (γ nb tb me bk dd ep t : Nat) (L : DL) (k : Str) (xs : Nat -> Unk) :
  ((exec (VV b1 b2 w dep un fr gs γ) (.go 7 [1, 2, 0, 2, 2, 0, 0] .done) [] (.call (.ref (me + 255)) ⟨[.str k t], []⟩) none .base (den (.call (.ref (me + 255)) ⟨[.str k t], []⟩)) (newsT [(me + 255, { cls := .type "builtin_function_or_method", data := .fields #[.builtin "collections.defaultdict.__missing__", .ref (bk + 255)] }), (bk + 255, bkObj (wW b1 b2 w) (dd + 255) L ep)] .nil 0) 2 (newsG [(me + 255, { cls := .type "builtin_function_or_method", data := .fields #[.builtin "collections.defaultdict.__missing__", .ref (bk + 255)] }), (bk + 255, bkObj (wW b1 b2 w) (dd + 255) L ep)] (fun _ => 0) 0) (nb + 255) 0 tb 0 [] []).check xs [0, 1]) =
   (exec (VV b1 b2 w dep un fr gs γ) (.go 7 [1, 2, 0, 2, 2, 0, 0] .done) [] (.call (.ref (me + 255)) ⟨[.str k t], []⟩) none .base (den (.call (.ref (me + 255)) ⟨[.str k t], []⟩)) (newsT [(me + 255, { cls := .type "builtin_function_or_method", data := .fields #[.builtin "collections.defaultdict.__missing__", .ref (bk + 255)] }), (bk + 255, bkObj (wW b1 b2 w) (dd + 255) L ep)] .nil 0) 2 (newsG [(me + 255, { cls := .type "builtin_function_or_method", data := .fields #[.builtin "collections.defaultdict.__missing__", .ref (bk + 255)] }), (bk + 255, bkObj (wW b1 b2 w) (dd + 255) L ep)] (fun _ => 0) 0) (nb + 255) 0 tb 0 [] []).wants xs
    ⟨none, .base, .pure (.again (.builtin "collections.defaultdict.__missing__" ⟨[.ref (bk + 255), .str k t], []⟩)), [], [(some { cls := .type "builtin_function_or_method", data := .fields #[.builtin "collections.defaultdict.__missing__", .ref (bk + 255)] }, me + 255), (some (bkObj (wW b1 b2 w) (dd + 255) L ep), bk + 255)]⟩ := by
 cases b1 <;> cases b2 <;> kernel_rfl
noncomputable def Chk (V : YV) (c : Code) (t : Sem PySem.Fin) (l : List (Nat × Obj)) (tb : Nat) (as : Nat -> Acts) (js : List Nat) (see : Nat -> (Nat -> Unk) -> See) : Prop :=
 ∀ nb xs, ((exec V (as nb) [] c none .base t (newsT l .nil 0) l.length (newsG l (fun _ => 0) 0) (nb + 255) 0 tb 0 [] []).check xs js) = (exec V (as nb) [] c none .base t (newsT l .nil 0) l.length (newsG l (fun _ => 0) 0) (nb + 255) 0 tb 0 [] []).wants xs (see nb xs)
theorem dyn255 (a : Nat) : Dyn (a + 255) := .inl (Nat.le_add_left ..)
noncomputable abbrev methObj (bk : Nat) : Obj := { cls := .type "builtin_function_or_method", data := .fields #[.builtin "collections.defaultdict.__missing__", .ref (bk + 255)] }
theorem dmiss_ok {b1 b2 : Bool} {w : World} {dep un : Nat} {fr : Option (List Env)} {gs : Option (List Code)} {s : Shared} (hA : Deep 2 ⟨none, dep, fr, gs, un⟩) (hs : Stat b1 b2 w s.heap)
  {c : Code} {need : List (Nat × Nat × Obj)} {jb bk dd ep : Nat} {L : DL} {k : Str} {t : Tok} (o1 : s.heap.get? (bk + 255) = some (bkObj (wW b1 b2 w) (dd + 255) L ep)) (hk : getL L k = none) (hsz : L.length <= sizeLine) :
  codeAny (model theProg (wW b1 b2 w)) ⟨none, dep, fr, gs, un⟩ (.builtin "collections.defaultdict.__missing__" ⟨[.ref (bk + 255), .str k t], []⟩) (Meet (xMissG c need (wW b1 b2 w) jb dd bk L ep k t) s) s := by
 have hd := (hA.le (m := 1) (by decide)).depth
 have hu := (hA.le (m := 1) (by decide)).units
 refine codeBy [(bk + 255, bkObj (wW b1 b2 w) (dd + 255) L ep)] (fun _ => .go 2 [1, 0] <| .ext xNoth fun _ => .go 0 [] .done) [0, 1, 2] _ hs (fun p hp => by rw [mS hp]; exact ⟨o1, dyn255 _⟩) (by simp) rfl hd hu (fun _ => ⟨ext_of 1 hA (fun A s h1 h2 _ => noth_ok A s h1 h2), fun _ _ => trivial⟩) (fun nb xs => dmiss_check ..) ?_
 intro nb xs st hnb _ hsee
 have e := See.mk.inj hsee
 refine endAgain e.1 e.2.1 e.2.2.1 (plainId_quiet plain_setdefault _) fun s₁ R₁ => ?_
 have e5 := e.2.2.2.2
 simp only [List.map_cons, List.map_nil, List.cons.injEq, Prod.mk.injEq, and_true] at e5
 obtain ⟨⟨q1, g1⟩, ⟨q2, g2⟩, q3, g3⟩ := e5
 have f1 := (R₁.own _ _ q1).2; have f2 := (R₁.own _ _ q2).2; have f3 := (R₁.own _ _ q3).2
 have n2 := R₁.newer 1 (Nat.le_refl _) (R₁.own _ _ q2).1; have n3 := R₁.newer 2 (by show 1 <= 2; decide) (R₁.own _ _ q3).1
 rw [g1] at f1; rw [g2] at f2 n2; rw [g3] at f3 n3
 have E₀ : Eff [bk + 255] 0 s s₁ := R₁.eff (n := 0) e.2.2.2.1
 refine sdef_ok R₁.stat hd hu f1 hk hsz fun s' h1 E => ?_
 have lt1 := Heap.lt_size o1
 have k2 := E.keep _ _ f2 (by simp only [List.mem_singleton]; exact fun h => absurd n2 (by rw [h]; exact Nat.not_le.mpr lt1))
 have k3 := E.keep _ _ f3 (by simp only [List.mem_singleton]; exact fun h => absurd n3 (by rw [h]; exact Nat.not_le.mpr lt1))
 have E' := E₀.trans E (fun b hb => .inl hb)
 refine ⟨uk [s'.heap.objs.size - 255, s'.toks, 0, (xs 0).n 3, (xs 0).n 4, (xs 0).n 5, (xs 0).n 6, (xs 0).n 7, (xs 0).n 8], trivial, rfl, E'.effY rfl hs.big rfl rfl (fun p hp => ?_) (fun p hp => ?_) ?_ (fun a ha => ⟨_, .head _, (mS ha).symm⟩)⟩
 ·rw [mS hp]; exact h1
 ·rcases mD hp with rfl | hp
  ·exact ⟨k2, n2⟩
  ·rw [mS hp]; exact ⟨k3, n3⟩
 ·have ne : (xs 0).n 3 + 255 ≠ (xs 0).n 4 + 255 := ne_get k2 k3 (ne_cls (by simp))
  show [(xs 0).n 3 + 255, (xs 0).n 4 + 255].Nodup
  simpa using ne
theorem meth_ok {b1 b2 : Bool} {w : World} (need : List (Nat × Nat × Obj)) {me jb bk dd ep : Nat} {L : DL} {k : Str} {t : Tok} (hk : getL L k = none) (hsz : L.length <= sizeLine)
  (A : Around) (s : Shared) (hA : Deep 2 A) (hs : Stat b1 b2 w s.heap) (o0 : s.heap.get? (me + 255) = some (methObj bk)) (o1 : s.heap.get? (bk + 255) = some (bkObj (wW b1 b2 w) (dd + 255) L ep)) :
  codeAny (model theProg (wW b1 b2 w)) A (.call (.ref (me + 255)) ⟨[.str k t], []⟩) (Meet (xMissG (.call (.ref (me + 255)) ⟨[.str k t], []⟩) need (wW b1 b2 w) jb dd bk L ep k t) s) s := by
 obtain ⟨hh, dep, fr, gs, un⟩ := A
 have hh0 := hA.handled
 dsimp only at hh0
 subst hh0
 have hd := (hA.le (m := 1) (by decide)).depth
 have hu := (hA.le (m := 1) (by decide)).units
 have ne : me + 255 ≠ bk + 255 := ne_get o0 o1 (ne_cls (by simp))
 refine codeBy [(me + 255, methObj bk), (bk + 255, bkObj (wW b1 b2 w) (dd + 255) L ep)] (fun _ => .go 7 [1, 2, 0, 2, 2, 0, 0] .done) [0, 1] _ hs (fun p hp => ?_) (by simpa using ne) rfl hd hu (fun _ => trivial) (fun nb xs => meth_check ..) ?_
 ·rcases mD hp with rfl | hp
  ·exact ⟨o0, dyn255 _⟩
  ·rw [mS hp]; exact ⟨o1, dyn255 _⟩
 intro nb xs st hnb _ hsee
 have e := See.mk.inj hsee
 refine endAgain e.1 e.2.1 e.2.2.1 (plainId_quiet plain_dmissing _) fun s₁ R₁ => ?_
 have e5 := e.2.2.2.2
 simp only [List.map_cons, List.map_nil, List.cons.injEq, Prod.mk.injEq, and_true] at e5
 obtain ⟨⟨q0, g0'⟩, q1, g1⟩ := e5
 have f0 := (R₁.own _ _ q0).2; have f1 := (R₁.own _ _ q1).2
 rw [g0'] at f0; rw [g1] at f1
 have E₀ : Eff [] 0 s s₁ := (R₁.eff (n := 0) e.2.2.2.1).shrink fun x hx => by
  simp only [List.map_cons, List.map_nil, List.mem_cons, List.not_mem_nil, or_false] at hx
  rcases hx with rfl | rfl
  ·exact .inr ⟨_, o0, f0⟩
  ·exact .inr ⟨_, o1, f1⟩
 refine codeAny_mono (dmiss_ok (c := .call (.ref (me + 255)) ⟨[.str k t], []⟩) (need := need) (jb := jb) hA R₁.stat f1 hk hsz) ?_
 rintro r s' ⟨u, pu, rfl, F⟩
 exact ⟨u, pu, rfl, F.after E₀ hs.big⟩
noncomputable def bodyOf : Stmt -> List Stmt
 | .FunctionDef _ _ b .. => b
 | _ => []
noncomputable def scopeOf : Stmt -> Scope
 | .FunctionDef _ _ _ _ _ _ sc _ _ _ => sc
 | _ => default
noncomputable def retE : List Stmt -> Expr
 | .Return (some e) _ :: _ => e
 | _ => .Name "" default
noncomputable def retP : List Stmt -> Pos
 | .Return _ p :: _ => p
 | _ => default
noncomputable def calF : Expr -> Expr
 | .Call f _ _ _ => f
 | e => e
noncomputable def calA : Expr -> List Expr
 | .Call _ a _ _ => a
 | _ => []
noncomputable def calP : Expr -> Pos
 | .Call _ _ _ p => p
 | _ => default
noncomputable def namI : Expr -> Str
 | .Name i _ => i
 | _ => ""
noncomputable def namP : Expr -> Pos
 | .Name _ p => p
 | _ => default
noncomputable def conV : Expr -> Const
 | .Constant v _ _ => v
 | _ => default
noncomputable def conN : Expr -> Nat
 | .Constant _ n _ => n
 | _ => 0
noncomputable def conP : Expr -> Pos
 | .Constant _ _ p => p
 | _ => default
noncomputable def attO : Expr -> Expr
 | .Attribute o _ _ => o
 | e => e
noncomputable def attI : Expr -> Str
 | .Attribute _ a _ => a
 | _ => ""
noncomputable def attP : Expr -> Pos
 | .Attribute _ _ p => p
 | _ => default
noncomputable def nthE (l : List Expr) (i : Nat) : Expr := (l[i]?).getD (.Name "" default)
noncomputable def mSt : Stmt := inClass "FreezableDefaultDict" "__missing__"
noncomputable def mE : Expr := retE (bodyOf mSt)
noncomputable def mI : Expr := calF mE
noncomputable def mAt : Expr := nthE (calA mI) 2
noncomputable def mSup : Expr := attO mAt
noncomputable def mBody : List Stmt := [.Return (some (.Call (.Call (.Name (namI (calF mI)) (namP (calF mI))) [.Name (namI (nthE (calA mI) 0)) (namP (nthE (calA mI) 0)), .Constant (conV (nthE (calA mI) 1)) (conN (nthE (calA mI) 1)) (conP (nthE (calA mI) 1)),
 .Attribute (.Call (.Name (namI (calF mSup)) (namP (calF mSup))) [] [] (calP mSup)) (attI mAt) (attP mAt)] [] (calP mI)) [.Name (namI (nthE (calA mE) 0)) (namP (nthE (calA mE) 0))] [] (calP mE))) (retP (bodyOf mSt))]
noncomputable def mEnv (L : Nat) : Env := { scope := scopeOf mSt, locals := L, globals := 3, cells := [("__class__", 100)], qual := "FreezableDefaultDict.__missing__.<locals>.", func := some 112, code := .ref 111, frame := some L, builtins := 0 }
noncomputable abbrev mCode (L : Nat) : Code := .func mBody (mEnv L)
noncomputable def mTree (L : Nat) : Sem PySem.Fin :=
 missN (retP (bodyOf mSt)) (calP mE) (calP mI) (.Name (namI (calF mI)) (namP (calF mI))) (.Name (namI (nthE (calA mI) 0)) (namP (nthE (calA mI) 0))) (.Constant (conV (nthE (calA mI) 1)) (conN (nthE (calA mI) 1)) (conP (nthE (calA mI) 1))) (.Name (namI (nthE (calA mE) 0)) (namP (nthE (calA mE) 0))) (mEnv L)
  (attrT (.Call (.Name (namI (calF mSup)) (namP (calF mSup))) [] [] (calP mSup)) (attI mAt) (attP mAt) ((abF (.Call (.Name (namI (calF mSup)) (namP (calF mSup))) [] [] (calP mSup)) (attI mAt) (mEnv L) (eval (.Call (.Name (namI (calF mSup)) (namP (calF mSup))) [] [] (calP mSup)) (mEnv L))).1 (pure [])))
theorem mRel (L : Nat) : Rel (mCode L) (denote table (mCode L)) (mTree L) := by
 have e := miss_tree (retP (bodyOf mSt)) (calP mE) (calP mI) (calP mSup) (namP (calF mSup)) (attP mAt) (namP (calF mI)) (namP (nthE (calA mI) 0)) (conP (nthE (calA mI) 1)) (namP (nthE (calA mE) 0)) (conN (nthE (calA mI) 1)) (conV (nthE (calA mI) 1)) (namI (calF mI)) (namI (nthE (calA mI) 0)) (namI (nthE (calA mE) 0)) (namI (calF mSup)) (attI mAt) (mEnv L)
 show Rel (mCode L) (denote table (.func mBody (mEnv L))) _
 unfold mBody
 rw [e]
 exact miss_rel _ _ _ _ _ _ _ _ _ _ _ _ _
noncomputable abbrev missCode (bk : Nat) (k : Str) (t : Tok) : Code := .call (.ref 112) ⟨[.ref (bk + 255), .str k t], []⟩
noncomputable def mLoc (bk : Nat) (k : Str) (t : Tok) (tb : Nat) : DL := [("self", tb + 0, .ref (bk + 255)), ("key", tb + 1, .str k t)]
set_option maxHeartbeats 4000000 in
theorem miss1_check (b1 b2 : Bool) (w : World) (dep un : Nat) (fr : Option (List Env)) (gs : Option (List Code)) (γ tb bk dd ep t : Nat) (L : DL) (k : Str) :
  Chk (VV b1 b2 w dep un fr gs γ) (missCode bk k t) (den (missCode bk k t)) [(bk + 255, bkObj (wW b1 b2 w) (dd + 255) L ep)] tb (fun _ => .go 12 [0, 0, 2, 2, 2, 2, 0] .done) [0, 1]
   (fun nb _ => ⟨none, .base, .pure (.again (mCode (nb + 255 + 0))), [], [(some (bkObj (wW b1 b2 w) (dd + 255) L ep), bk + 255), (some (frObj (wW b1 b2 w) (mLoc bk k t tb) 2), nb + 255 + 0)]⟩) := by
 intro nb xs
 cases b1 <;> cases b2 <;> kernel_rfl
noncomputable abbrev mExt (w : World) (dd bk : Nat) (L : DL) (ep : Nat) (k : Str) (t : Tok) (nb : Nat) : Ext :=
 xMissG (.call (.ref (nb + 1 + 255)) ⟨[.str k t], []⟩) [(4, nb + 1 + 255, methObj bk), (2, bk + 255, bkObj w (dd + 255) L ep)] w 2 dd bk L ep k t
noncomputable def actsMs (w : World) (dd bk : Nat) (L : DL) (ep : Nat) (k : Str) (t : Tok) (nb : Nat) : Acts :=
 .go 109 [0, 0, 1, 0, 0, 0, 0, 0, 1, 0, 0, 4, 4, 4, 0, 3, 3, 0, 4, 4, 4, 4, 4, 4, 4, 4, 4, 4, 4, 0, 0, 3, 0, 3, 0, 3, 0, 0, 0, 0, 0, 0, 3, 0, 3, 0, 0, 0, 3, 3, 0, 2, 3, 0, 7, 7, 7, 7, 7, 7, 7, 1, 5] <|
 .ext (mExt w dd bk L ep k t nb) fun x0 => .go 1 [] .done
set_option maxHeartbeats 4000000 in
theorem miss2_check (b1 b2 : Bool) (w : World) (dep un : Nat) (fr : Option (List Env)) (gs : Option (List Code)) (γ tb fl tl bk dd ep t : Nat) (L : DL) (k : Str) :
  Chk (VV b1 b2 w dep un fr gs γ) (mCode (fl + 255)) (mTree (fl + 255)) [(fl + 255, frObj (wW b1 b2 w) (mLoc bk k t tl) 2), (dd + 255, dict0), (bk + 255, bkObj (wW b1 b2 w) (dd + 255) L ep)] tb (actsMs (wW b1 b2 w) dd bk L ep k t) [0, 1, 2, 7, 8]
   (fun nb xs => ⟨none, .base, .pure (.done (.ret (.ref ((xs 0).n 3 + 255)))), [], [(some (frObj (wW b1 b2 w) (mLoc bk k t tl) 2), fl + 255), (some dict0, dd + 255), (some (bkObj (wW b1 b2 w) (dd + 255) (setL L k t (.ref ((xs 0).n 3 + 255))) (ep + 1)), bk + 255), (some (entry0 ((xs 0).n 5) ((xs 0).n 6) ((xs 0).n 7) ((xs 0).n 8) ((xs 0).n 4 + 255)), (xs 0).n 3 + 255), (some dict0, (xs 0).n 4 + 255)]⟩) := by
 intro nb xs
 cases b1 <;> cases b2 <;> kernel_rfl
theorem miss_ok {b1 b2 : Bool} {w : World} (need : List (Nat × Nat × Obj)) {jb bk dd ep : Nat} {L : DL} {k : Str} {t : Tok} (hk : getL L k = none) (hsz : L.length <= sizeLine)
  (A : Around) (s : Shared) (hA : Deep 3 A) (hs : Stat b1 b2 w s.heap) (o0 : s.heap.get? (dd + 255) = some dict0) (o1 : s.heap.get? (bk + 255) = some (bkObj (wW b1 b2 w) (dd + 255) L ep)) :
  codeAny (model theProg (wW b1 b2 w)) A (missCode bk k t) (Meet (xMissG (missCode bk k t) need (wW b1 b2 w) jb dd bk L ep k t) s) s := by
 obtain ⟨hh, dep, fr, gs, un⟩ := A
 have hh0 := hA.handled
 dsimp only at hh0
 subst hh0
 have hd := (hA.le (m := 1) (by decide)).depth
 have hu := (hA.le (m := 1) (by decide)).units
 have ne : dd + 255 ≠ bk + 255 := ne_get o0 o1 (ne_cls (by simp))
 refine codeBy [(bk + 255, bkObj (wW b1 b2 w) (dd + 255) L ep)] (fun _ => .go 12 [0, 0, 2, 2, 2, 2, 0] .done) [0, 1] _ hs (fun p hp => by rw [mS hp]; exact ⟨o1, dyn255 _⟩) (by simp) rfl hd hu (fun _ => trivial) (fun nb xs => miss1_check ..) ?_
 intro nb xs st hnb _ hsee
 have e := See.mk.inj hsee
 refine endAgain e.1 e.2.1 e.2.2.1 rfl fun s₁ R₁ => ?_
 have e5 := e.2.2.2.2
 simp only [List.map_cons, List.map_nil, List.cons.injEq, Prod.mk.injEq, and_true] at e5
 obtain ⟨⟨q1, g1⟩, q2, g2⟩ := e5
 have f1 := (R₁.own _ _ q1).2; have f2 := (R₁.own _ _ q2).2
 have n2 := R₁.newer 1 (Nat.le_refl _) (R₁.own _ _ q2).1
 rw [g1] at f1; rw [g2] at f2 n2
 have E₀ : Eff [] 0 s s₁ := (R₁.eff (n := 0) e.2.2.2.1).shrink fun x hx => by
  rw [mS hx]
  exact .inr ⟨_, o1, f1⟩
 have f0 := E₀.keep _ _ o0 (fun h => nomatch h)
 have ne2 : nb + 255 + 0 ≠ dd + 255 := ne_get f2 f0 (ne_cls (by simp))
 have ne3 : nb + 255 + 0 ≠ bk + 255 := ne_get f2 f1 (ne_cls (by simp))
 refine y_code _ _ _ _ _ _ ((mRel _).own ?_)
 refine treeBy [(nb + 255, frObj (wW b1 b2 w) (mLoc bk k t s.toks) 2), (dd + 255, dict0), (bk + 255, bkObj (wW b1 b2 w) (dd + 255) L ep)] (actsMs (wW b1 b2 w) dd bk L ep k t) [0, 1, 2, 7, 8] _ R₁.stat (fun p hp => ?_) ?_ rfl hd hu (fun nb => ?_) (fun nb xs => miss2_check ..) ?_
 ·replace hp := mr3 hp
  rcases hp with rfl | rfl | rfl
  ·exact ⟨f2, dyn255 _⟩
  ·exact ⟨f0, dyn255 _⟩
  ·exact ⟨f1, dyn255 _⟩
 ·refine List.nodup_cons.mpr ⟨?_, List.nodup_cons.mpr ⟨?_, List.nodup_cons.mpr ⟨(fun h => nomatch h), List.nodup_nil⟩⟩⟩
  ·intro h
   simp only [List.map_cons, List.map_nil, List.mem_cons, List.not_mem_nil, or_false] at h
   rcases h with h | h
   ·exact ne2 h
   ·exact ne3 h
  ·intro h
   simp only [List.map_cons, List.map_nil, List.mem_cons, List.not_mem_nil, or_false] at h
   exact ne h
 ·exact ⟨ext_of 2 hA (fun A s h1 h2 hn => meth_ok _ hk hsz A s h1 h2 (hn _ (.head _)) (hn _ (.tail _ (.head _)))), fun _ _ => trivial⟩
 intro nb2 xs2 st2 hnb2 _ hsee2
 have e' := See.mk.inj hsee2
 refine endRet e'.1 e'.2.1 e'.2.2.1 fun s₂ R₂ => ?_
 have e6 := e'.2.2.2.2
 simp only [List.map_cons, List.map_nil, List.cons.injEq, Prod.mk.injEq, and_true] at e6
 obtain ⟨⟨p0, d0⟩, ⟨p1, d1⟩, ⟨p2, d2⟩, ⟨p7, d7⟩, p8, d8⟩ := e6
 have E₁ := (R₂.eff (n := 0) e'.2.2.2.1)
 have k0 := (R₂.own _ _ p0).2; have k1 := (R₂.own _ _ p1).2; have k2 := (R₂.own _ _ p2).2; have k7 := (R₂.own _ _ p7).2; have k8 := (R₂.own _ _ p8).2
 have n7 := R₂.newer 7 (by show 3 <= 7; decide) (R₂.own _ _ p7).1; have n8 := R₂.newer 8 (by show 3 <= 8; decide) (R₂.own _ _ p8).1
 rw [d0] at k0; rw [d1] at k1; rw [d2] at k2; rw [d7] at k7 n7; rw [d8] at k8 n8
 have E₂ : Eff [bk + 255] 0 s₁ s₂ := E₁.shrink fun x hx => by
  simp only [List.map_cons, List.map_nil, List.mem_cons, List.not_mem_nil, or_false] at hx
  rcases hx with rfl | rfl | rfl
  ·exact .inr ⟨_, f2, k0⟩
  ·exact .inr ⟨_, f0, k1⟩
  ·exact .inl (.head _)
 have E := (E₀.widen (own' := [bk + 255]) (fun _ h => nomatch h)).trans E₂ (fun b hb => .inl hb)
 refine ⟨uk [s₂.heap.objs.size - 255, s₂.toks, 0, (xs2 0).n 3, (xs2 0).n 4, (xs2 0).n 5, (xs2 0).n 6, (xs2 0).n 7, (xs2 0).n 8], trivial, rfl, E.effY rfl hs.big rfl rfl (fun p hp => ?_) (fun p hp => ?_) ?_ (fun a ha => ⟨_, .head _, (mS ha).symm⟩)⟩
 ·rw [mS hp]; exact k2
 ·rcases mD hp with rfl | hp
  ·exact ⟨k7, Nat.le_trans E₀.grown n7⟩
  ·rw [mS hp]; exact ⟨k8, Nat.le_trans E₀.grown n8⟩
 ·have ne : (xs2 0).n 3 + 255 ≠ (xs2 0).n 4 + 255 := ne_get k7 k8 (ne_cls (by simp))
  show [(xs2 0).n 3 + 255, (xs2 0).n 4 + 255].Nodup
  simpa using ne
noncomputable abbrev gitCode (bk : Nat) (k : Str) (t : Tok) : Code := .call (.builtin "dict.__getitem__") ⟨[.ref (bk + 255), .str k t], []⟩
theorem plain_getitem : plainId "dict.__getitem__" = true := by decide +kernel
set_option maxHeartbeats 4000000 in
theorem git_check (b1 b2 : Bool) (w : World) (dep un : Nat) (fr : Option (List Env)) (gs : Option (List Code)) (γ tb bk dd ep t : Nat) (L : DL) (k : Str) :
  Chk (VV b1 b2 w dep un fr gs γ) (gitCode bk k t) (den (gitCode bk k t)) [(bk + 255, bkObj (wW b1 b2 w) (dd + 255) L ep)] tb (fun _ => .go 2 [1, 0] .done) [0]
   (fun _ _ => ⟨none, .base, .pure (.again (.builtin "dict.__getitem__" ⟨[.ref (bk + 255), .str k t], []⟩)), [], [(some (bkObj (wW b1 b2 w) (dd + 255) L ep), bk + 255)]⟩) := by
 intro nb xs
 cases b1 <;> cases b2 <;> kernel_rfl
theorem git_to {b1 b2 : Bool} {w : World} {dep un : Nat} {fr : Option (List Env)} {gs : Option (List Code)} {s : Shared} {R : Result -> Shared -> Prop} (hd : dep + 60 < recursionLimit) (hu : un + 1000 < cLine) (hs : Stat b1 b2 w s.heap)
  {bk dd ep : Nat} {L : DL} {k : Str} {t : Tok} (o1 : s.heap.get? (bk + 255) = some (bkObj (wW b1 b2 w) (dd + 255) L ep))
  (h : ∀ s₁, Stat b1 b2 w s₁.heap -> Eff [] 0 s s₁ -> s₁.heap.get? (bk + 255) = some (bkObj (wW b1 b2 w) (dd + 255) L ep) ->
   codeAny (model theProg (wW b1 b2 w)) ⟨none, dep, fr, gs, un⟩ (.builtin "dict.__getitem__" ⟨[.ref (bk + 255), .str k t], []⟩) R s₁) :
  codeAny (model theProg (wW b1 b2 w)) ⟨none, dep, fr, gs, un⟩ (gitCode bk k t) R s := by
 refine codeBy [(bk + 255, bkObj (wW b1 b2 w) (dd + 255) L ep)] (fun _ => .go 2 [1, 0] .done) [0] _ hs (fun p hp => by rw [mS hp]; exact ⟨o1, dyn255 _⟩) (by simp) rfl hd hu (fun _ => trivial) (fun nb xs => git_check ..) ?_
 intro nb xs st hnb _ hsee
 have e := See.mk.inj hsee
 refine endAgain e.1 e.2.1 e.2.2.1 (plainId_quiet plain_getitem _) fun s₁ R₁ => ?_
 have e5 := e.2.2.2.2
 simp only [List.map_cons, List.map_nil, List.cons.injEq, Prod.mk.injEq, and_true] at e5
 have f1 := (R₁.own _ _ e5.1).2
 rw [e5.2] at f1
 exact h s₁ R₁.stat ((R₁.eff (n := 0) e.2.2.2.1).shrink fun x hx => by rw [mS hx]; exact .inr ⟨_, o1, f1⟩) f1
noncomputable def xHit (jb bk dd : Nat) (w : World) (L : DL) (ep : Nat) (k : Str) (t : Tok) (v : Value) : Ext := xPureN (gitCode bk k t) [(jb, bk + 255, bkObj w (dd + 255) L ep)] fun _ => v
theorem hit_ok {b1 b2 : Bool} {w : World} {jb bk dd ep : Nat} {L : DL} {k : Str} {t : Tok} {v : Value} (hk : getL L k = some v)
  (A : Around) (s : Shared) (hA : Deep 1 A) (hs : Stat b1 b2 w s.heap) (hn : ∀ p ∈ (xHit jb bk dd (wW b1 b2 w) L ep k t v).need, s.heap.get? p.2.1 = some p.2.2) :
  codeAny (model theProg (wW b1 b2 w)) A (gitCode bk k t) (Meet (xHit jb bk dd (wW b1 b2 w) L ep k t v) s) s := by
 obtain ⟨hh, dep, fr, gs, un⟩ := A
 obtain ⟨rfl, hd, hu⟩ := hA
 have o1 : s.heap.get? (bk + 255) = some (bkObj (wW b1 b2 w) (dd + 255) L ep) := hn _ (.head _)
 refine git_to hd hu hs o1 fun s₁ hs₁ E f1 => ?_
 refine codeOwn entry_dict_getitem ?_
 show wpOwn _ _ _ (dictGet (bk + 255) (.str k t) >>= _) _ _ s₁
 refine wpOwn_bind (wpOwn_of_wpAny (wpAny_getL f1 rfl ?_))
 rw [hk]
 refine y_pure _ _ _ _ _ _ _ _ _ (y_done _ _ _ _ _ _ ?_)
 exact ⟨uk [s₁.heap.objs.size - 255, s₁.toks + 1], trivial, rfl, (E.toks (s₁.toks + 1)).effY rfl hs.big rfl rfl (fun _ h => nomatch h) (fun _ h => nomatch h) List.nodup_nil (fun _ h => nomatch h)⟩
noncomputable abbrev xMissB (jd jb : Nat) (w : World) (dd bk : Nat) (L : DL) (ep : Nat) (k : Str) (t : Tok) : Ext := xMissG (gitCode bk k t) [(jd, dd + 255, dict0), (jb, bk + 255, bkObj w (dd + 255) L ep)] w jb dd bk L ep k t
theorem missB_ok {b1 b2 : Bool} {w : World} {jd jb bk dd ep : Nat} {L : DL} {k : Str} {t : Tok} (hk : getL L k = none) (hsz : L.length <= sizeLine)
  (A : Around) (s : Shared) (hA : Deep 4 A) (hs : Stat b1 b2 w s.heap) (hn : ∀ p ∈ (xMissB jd jb (wW b1 b2 w) dd bk L ep k t).need, s.heap.get? p.2.1 = some p.2.2) :
  codeAny (model theProg (wW b1 b2 w)) A (gitCode bk k t) (Meet (xMissB jd jb (wW b1 b2 w) dd bk L ep k t) s) s := by
 obtain ⟨hh, dep, fr, gs, un⟩ := A
 have hh0 := hA.handled
 dsimp only at hh0
 subst hh0
 have hd := (hA.le (m := 1) (by decide)).depth
 have hu := (hA.le (m := 1) (by decide)).units
 have o0 : s.heap.get? (dd + 255) = some dict0 := hn _ (.head _)
 have o1 : s.heap.get? (bk + 255) = some (bkObj (wW b1 b2 w) (dd + 255) L ep) := hn _ (.tail _ (.head _))
 refine git_to hd hu hs o1 fun s₁ hs₁ E f1 => ?_
 have f0 := E.keep _ _ o0 (fun h => nomatch h)
 have ne : dd + 255 ≠ bk + 255 := ne_get f0 f1 (ne_cls (by simp))
 refine codeOwn entry_dict_getitem ?_
 show wpOwn _ _ _ (dictGet (bk + 255) (.str k t) >>= _) _ _ s₁
 refine wpOwn_bind (wpOwn_of_wpAny (wpAny_getL f1 rfl ?_))
 rw [hk]
 dsimp only
 refine treeBy (s := { s₁ with toks := s₁.toks + 1 }) [(dd + 255, dict0), (bk + 255, bkObj (wW b1 b2 w) (dd + 255) L ep)]
  (fun _ => .go 6 [2, 2, 0, 0, 0, 0] <| .ext (xMissG (missCode bk k t) [(0, dd + 255, dict0), (1, bk + 255, bkObj (wW b1 b2 w) (dd + 255) L ep)] (wW b1 b2 w) 1 dd bk L ep k t) fun _ => .go 1 [] .done) [0, 1, 2, 3]
  (fun nb xs => ⟨none, .base, .pure (.done (.ret (.ref ((xs 0).n 3 + 255)))), [], [(some dict0, dd + 255), (some (bkObj (wW b1 b2 w) (dd + 255) (setL L k t (.ref ((xs 0).n 3 + 255))) (ep + 1)), bk + 255), (some (entry0 ((xs 0).n 5) ((xs 0).n 6) ((xs 0).n 7) ((xs 0).n 8) ((xs 0).n 4 + 255)), (xs 0).n 3 + 255), (some dict0, (xs 0).n 4 + 255)]⟩)
  hs₁ (fun p hp => ?_) ?_ rfl hd hu (fun nb => ?_) (fun nb xs => ?_) ?_
 ·replace hp := mr2 hp
  rcases hp with rfl | rfl
  ·exact ⟨f0, dyn255 _⟩
  ·exact ⟨f1, dyn255 _⟩
 ·exact List.nodup_cons.mpr ⟨fun h => ne (mS h), List.nodup_cons.mpr ⟨(fun h => nomatch h), List.nodup_nil⟩⟩
 ·exact ⟨ext_of 3 hA (fun A s h1 h2 hn => miss_ok _ hk hsz A s h1 h2 (hn _ (.head _)) (hn _ (.tail _ (.head _)))), fun _ _ => trivial⟩
 ·cases b1 <;> cases b2 <;> kernel_rfl
 intro nb2 xs2 st2 hnb2 _ hsee2
 have e' := See.mk.inj hsee2
 refine endRet e'.1 e'.2.1 e'.2.2.1 fun s₂ R₂ => ?_
 have e6 := e'.2.2.2.2
 simp only [List.map_cons, List.map_nil, List.cons.injEq, Prod.mk.injEq, and_true] at e6
 obtain ⟨⟨p1, d1⟩, ⟨p2, d2⟩, ⟨p7, d7⟩, p8, d8⟩ := e6
 have E₁ := (R₂.eff (n := 0) e'.2.2.2.1)
 have k1 := (R₂.own _ _ p1).2; have k2 := (R₂.own _ _ p2).2; have k7 := (R₂.own _ _ p7).2; have k8 := (R₂.own _ _ p8).2
 have n7 := R₂.newer 2 (by show 2 <= 2; decide) (R₂.own _ _ p7).1; have n8 := R₂.newer 3 (by show 2 <= 3; decide) (R₂.own _ _ p8).1
 rw [d1] at k1; rw [d2] at k2; rw [d7] at k7 n7; rw [d8] at k8 n8
 have E₂ : Eff [bk + 255] 0 { s₁ with toks := s₁.toks + 1 } s₂ := E₁.shrink fun x hx => by
  simp only [List.map_cons, List.map_nil, List.mem_cons, List.not_mem_nil, or_false] at hx
  rcases hx with rfl | rfl
  ·exact .inr ⟨_, f0, k1⟩
  ·exact .inl (.head _)
 have E3 := ((E.toks (s₁.toks + 1)).widen (own' := [bk + 255]) (fun _ h => nomatch h)).trans E₂ (fun b hb => .inl hb)
 refine ⟨uk [s₂.heap.objs.size - 255, s₂.toks, 0, (xs2 0).n 3, (xs2 0).n 4, (xs2 0).n 5, (xs2 0).n 6, (xs2 0).n 7, (xs2 0).n 8], trivial, rfl, E3.effY rfl hs.big rfl rfl (fun p hp => ?_) (fun p hp => ?_) ?_ (fun a ha => ⟨_, .head _, (mS ha).symm⟩)⟩
 ·rw [mS hp]; exact k2
 ·rcases mD hp with rfl | hp
  ·exact ⟨k7, Nat.le_trans E.grown n7⟩
  ·rw [mS hp]; exact ⟨k8, Nat.le_trans E.grown n8⟩
 ·have ne : (xs2 0).n 3 + 255 ≠ (xs2 0).n 4 + 255 := ne_get k7 k8 (ne_cls (by simp))
  show [(xs2 0).n 3 + 255, (xs2 0).n 4 + 255].Nodup
  simpa using ne
noncomputable abbrev dictO (w : World) (L : DL) (ep : Nat) : Obj := { cls := .type "dict", data := .dict (ents w L) ep }
section
variable {V : YV}
noncomputable abbrev hasCode (d : Nat) (k : Str) (t : Tok) : Code := .call (.builtin "dict.__contains__") ⟨[.ref (d + 255), .str k t], []⟩
theorem sys255 (d : Nat) : (d + 255 == sysModules) = false := by
 show decide (d + 255 = 1) = false
 exact decide_eq_false (by lia)
noncomputable abbrev setCode (d : Nat) (k : Str) (t : Tok) (v : Value) : Code := .call (.builtin "dict.__setitem__") ⟨[.ref (d + 255), .str k t, v], []⟩
noncomputable def epOf (L : DL) (k : Str) (ep : Nat) : Nat := if hasL L k then ep else ep + 1
end
theorem plain_setitem : plainId "dict.__setitem__" = true := by decide +kernel
set_option maxHeartbeats 4000000 in
theorem sit_check (b1 b2 : Bool) (w : World) (dep un : Nat) (fr : Option (List Env)) (gs : Option (List Code)) (γ tb bk dd ep t : Nat) (L : DL) (k : Str) (v : Value) :
  Chk (VV b1 b2 w dep un fr gs γ) (setCode bk k t v) (den (setCode bk k t v)) [(bk + 255, bkObj (wW b1 b2 w) (dd + 255) L ep)] tb (fun _ => .go 2 [1, 0] .done) [0]
   (fun _ _ => ⟨none, .base, .pure (.again (.builtin "dict.__setitem__" ⟨[.ref (bk + 255), .str k t, v], []⟩)), [], [(some (bkObj (wW b1 b2 w) (dd + 255) L ep), bk + 255)]⟩) := by
 intro nb xs
 cases b1 <;> cases b2 <;> kernel_rfl
set_option maxHeartbeats 4000000 in
theorem sit2_check (b1 b2 : Bool) (w : World) (dep un : Nat) (fr : Option (List Env)) (gs : Option (List Code)) (γ tb bk dd ep t : Nat) (L : DL) (k : Str) (v : Value) :
  Chk (VV b1 b2 w dep un fr gs γ) (.builtin "dict.__setitem__" ⟨[.ref (bk + 255), .str k t, v], []⟩) (Builtin.«dict.__setitem__» ⟨[.ref (bk + 255), .str k t, v], []⟩) [(bk + 255, bkObj (wW b1 b2 w) (dd + 255) L ep)] tb (fun _ => .go 3 [1, 1, 0] .done) [0]
   (fun _ _ => ⟨none, .base, (dictSet (bk + 255) (.str k t) v >>= fun _ => ret .none), [], [(some (bkObj (wW b1 b2 w) (dd + 255) L ep), bk + 255)]⟩) := by
 intro nb xs
 cases b1 <;> cases b2 <;> kernel_rfl
noncomputable def xBSet (jb bk dd : Nat) (w : World) (L : DL) (ep : Nat) (k : Str) (t : Tok) (v : Value) : Ext :=
 ⟨setCode bk k t v, [(jb, bk + 255, bkObj w (dd + 255) L ep)], fun _ => .ok (.ret .none), fun _ => [(jb, bk + 255, bkObj w (dd + 255) (setL L k t v) (epOf L k ep))], fun _ => [], fun _ => True, g0⟩
theorem bset_ok {b1 b2 : Bool} {w : World} {jb bk dd ep : Nat} {L : DL} {k : Str} {t : Tok} {v : Value} (hsz : L.length <= sizeLine)
  (A : Around) (s : Shared) (hA : Deep 1 A) (hs : Stat b1 b2 w s.heap) (hn : ∀ p ∈ (xBSet jb bk dd (wW b1 b2 w) L ep k t v).need, s.heap.get? p.2.1 = some p.2.2) :
  codeAny (model theProg (wW b1 b2 w)) A (setCode bk k t v) (Meet (xBSet jb bk dd (wW b1 b2 w) L ep k t v) s) s := by
 obtain ⟨hh, dep, fr, gs, un⟩ := A
 obtain ⟨rfl, hd, hu⟩ := hA
 have o1 : s.heap.get? (bk + 255) = some (bkObj (wW b1 b2 w) (dd + 255) L ep) := hn _ (.head _)
 refine codeBy [(bk + 255, bkObj (wW b1 b2 w) (dd + 255) L ep)] (fun _ => .go 2 [1, 0] .done) [0] _ hs (fun p hp => by rw [mS hp]; exact ⟨o1, dyn255 _⟩) (by simp) rfl hd hu (fun _ => trivial) (fun nb xs => sit_check ..) ?_
 intro nb xs st hnb _ hsee
 have e := See.mk.inj hsee
 refine endAgain e.1 e.2.1 e.2.2.1 (plainId_quiet plain_setitem _) fun s₁ R₁ => ?_
 have e5 := e.2.2.2.2
 simp only [List.map_cons, List.map_nil, List.cons.injEq, Prod.mk.injEq, and_true] at e5
 have f1 := (R₁.own _ _ e5.1).2
 rw [e5.2] at f1
 have E₁ : Eff [bk + 255] 0 s s₁ := R₁.eff (n := 0) e.2.2.2.1
 refine codeOwn entry_dict_setitem ?_
 refine treeBy [(bk + 255, bkObj (wW b1 b2 w) (dd + 255) L ep)] (fun _ => .go 3 [1, 1, 0] .done) [0] _ R₁.stat (fun p hp => by rw [mS hp]; exact ⟨f1, dyn255 _⟩) (by simp) rfl hd hu (fun _ => trivial) (fun nb xs => sit2_check ..) ?_
 intro nb2 xs2 st2 hnb2 _ hsee2
 have e' := See.mk.inj hsee2
 refine endTree e'.1 e'.2.1 e'.2.2.1 fun s₂ R₂ => ?_
 have e6 := e'.2.2.2.2
 simp only [List.map_cons, List.map_nil, List.cons.injEq, Prod.mk.injEq, and_true] at e6
 have f2 := (R₂.own _ _ e6.1).2
 rw [e6.2] at f2
 have E₂ : Eff [bk + 255] 0 s₁ s₂ := R₂.eff (n := 0) e'.2.2.2.1
 refine wpOwn_bind (wpOwn_of_wpAny (wpAny_setL f2 rfl hsz fun h' q1 q2 E₃ => ?_))
 refine y_pure _ _ _ _ _ _ _ _ _ (y_done _ _ _ _ _ _ ?_)
 have E := ((E₁.trans E₂ (fun b hb => .inl hb)).trans E₃ (fun b hb => .inl hb)).toks (s₂.toks + 1)
 refine ⟨uk [h'.objs.size - 255, s₂.toks + 1], trivial, rfl, E.effY rfl hs.big rfl rfl (fun p hp => ?_) (fun _ h => nomatch h) List.nodup_nil (fun a ha => ⟨_, .head _, (mS ha).symm⟩)⟩
 rw [mS hp]; exact q1
noncomputable abbrev fddCode : Code := .call (.ref 122) ⟨[.ref 227], []⟩
noncomputable def xFDD (w : World) : Ext := ⟨fddCode, [], fun u => .ok (.ret (.ref (u.n 3 + 255))), fun _ => [], fun u => [(u.n 3 + 255, bkObj w (u.n 4 + 255) [] 0), (u.n 4 + 255, dict0)], fun _ => True, g0⟩
noncomputable def orcFDD : List Nat := [0, 0, 0, 0, 0, 0, 0, 0, 0, 0, 0, 0, 0, 0, 0, 0, 0, 2, 0, 2, 0, 0, 0, 2, 0, 0, 2, 2, 2, 2, 2, 0]
set_option maxHeartbeats 4000000 in
theorem fdd_check (b1 b2 : Bool) (w : World) (dep un : Nat) (fr : Option (List Env)) (gs : Option (List Code)) (γ tb : Nat) :
  Chk (VV b1 b2 w dep un fr gs γ) fddCode (den fddCode) [] tb (fun _ => .go 44 orcFDD .done) [0, 1]
   (fun nb _ => ⟨none, .base, .pure (.done (.ret (.ref (nb + 255 + 1)))), [], [(some dict0, nb + 255 + 0), (some (bkObj (wW b1 b2 w) (nb + 255 + 0) [] 0), nb + 255 + 1)]⟩) := by
 intro nb xs
 cases b1 <;> cases b2 <;> kernel_rfl
theorem fdd_ok {b1 b2 : Bool} {w : World} (A : Around) (s : Shared) (hA : Deep 1 A) (hs : Stat b1 b2 w s.heap) : codeAny (model theProg (wW b1 b2 w)) A fddCode (Meet (xFDD (wW b1 b2 w)) s) s := by
 obtain ⟨hh, dep, fr, gs, un⟩ := A
 obtain ⟨rfl, hd, hu⟩ := hA
 refine codeBy [] (fun _ => .go 44 orcFDD .done) [0, 1] _ hs (fun _ h => nomatch h) List.nodup_nil rfl hd hu (fun _ => trivial) (fun nb xs => fdd_check ..) ?_
 intro nb xs st hnb _ hsee
 have e := See.mk.inj hsee
 refine endRet e.1 e.2.1 e.2.2.1 fun s' R => ?_
 have ho := e.2.2.2.2
 simp only [List.map_cons, List.map_nil, List.cons.injEq, Prod.mk.injEq, and_true, a255] at ho
 refine ⟨uk [s'.heap.objs.size - 255, s'.toks, 0, nb + 1, nb + 0], trivial, ?_, effBy R e.2.2.2.1 hs.big rfl rfl (fun _ h => nomatch h) (fun _ h => nomatch h) (fun q hq => ?_) ?_⟩
 ·rw [a255]; rfl
 ·rcases mD hq with rfl | hq
  ·exact ⟨1, ho.2.1, ho.2.2, Nat.zero_le _⟩
  ·rw [mS hq]
   exact ⟨0, ho.1.1, ho.1.2, Nat.zero_le _⟩
 ·show [nb + 1 + 255, nb + 0 + 255].Nodup
  simp
noncomputable def frSt : Stmt := inClass "FreezableDefaultDict" "freeze"
noncomputable def lamE : Expr := match bodyOf frSt with
 | .Assign _ v _ :: _ => v
 | _ => .Name "" default
noncomputable def lamFd (ce ct co : Nat) : FuncData := match lamE with
 | .Lambda a b sc _ => { name := "<lambda>", qualname := "FreezableDefaultDict.freeze.<locals>.<lambda>", params := a, body := .expr b, scope := sc, globals := 3, closure := [("self", ce)], defaults := .none, kwdefaults := .none, doc := .none, pyModule := .str "law_in0006_01" 574, annotations := none, code := .ref co, closureTuple := .ref ct, builtins := 0 }
 | _ => default
noncomputable def lamObj (ce ct co : Nat) : Obj := { cls := .type "function", data := .func (lamFd ce ct co) }
noncomputable def coObj (c : Nat -> Nat) : Obj := { cls := .type "code", data := .fields #[.str "<lambda>" (c 0), .str "FreezableDefaultDict.freeze.<locals>.<lambda>" (c 1), .str "/claim/cut.py" (c 2), .int 63 0, .int 1 0, .int 0 0, .int 0 0, .int 19 0, .ref (c 3), .bool true, .int 273 0, .ref (c 4), .none, .ref (c 5), .ref (c 6), .ref (c 7), .int (Int.ofNat (c 9)) 0, .int 63 0, .str "/claim/cut.py" (c 8)] }
noncomputable def cellObj (bk : Nat) : Obj := { cls := .type "cell", data := .cell (some (.ref (bk + 255))) }
noncomputable abbrev fzDict (w : World) (tk fn : Nat) : Obj := dictO w [("_frozen", tk, .ref (fn + 255))] 1
noncomputable def fzL (w : World) (dd bk fn ce co ct tk : Nat) (c : Nat -> Nat) (L : DL) (ep : Nat) : List (Nat × Obj) :=
 [(dd + 255, fzDict w tk fn), (bk + 255, bkObj w (dd + 255) L ep), (fn + 255, lamObj (ce + 255) ct (co + 255)), (ce + 255, cellObj bk), (co + 255, coObj c)]
noncomputable abbrev lamCode (fn : Nat) (k : Str) (t : Tok) : Code := .call (.ref (fn + 255)) ⟨[.str k t], []⟩
noncomputable def actsLam : Acts := .go 52 [3, 5, 6, 6, 0, 4, 2, 0, 0, 0, 2, 0, 0, 0, 2, 0, 0, 0, 2, 0, 0, 0, 0, 0, 0, 2, 0, 2, 0, 0, 0, 2, 0, 2, 0] <| .ext xNoth fun _ => .go 1 [] .done
set_option maxHeartbeats 4000000 in
theorem lam_check (b1 b2 : Bool) (w : World) (dep un : Nat) (fr : Option (List Env)) (gs : Option (List Code)) (γ tb dd bk fn ce co ct tk ep t : Nat) (c : Nat -> Nat) (L : DL) (k : Str) :
  Chk (VV b1 b2 w dep un fr gs γ) (lamCode fn k t) (den (lamCode fn k t)) (fzL (wW b1 b2 w) dd bk fn ce co ct tk c L ep) tb
   (fun _ => actsLam) [0, 1, 2, 3, 4, 6, 7]
   (fun nb xs => ⟨none, .base, .pure (.done (.ret (.ref ((xs 0).n 3 + 255)))), [], (fzL (wW b1 b2 w) dd bk fn ce co ct tk c L ep).map (fun p => (some p.2, p.1)) ++ [(some (entry0 ((xs 0).n 5) ((xs 0).n 6) ((xs 0).n 7) ((xs 0).n 8) ((xs 0).n 4 + 255)), (xs 0).n 3 + 255), (some dict0, (xs 0).n 4 + 255)]⟩) := by
 intro nb xs
 cases b1 <;> cases b2 <;> kernel_rfl
noncomputable def Has (h : Heap) (l : List (Nat × Obj)) : Prop := ∀ p ∈ l, h.get? p.1 = some p.2
theorem Has.nodup {h : Heap} {l : List (Nat × Obj)} (H : Has h l) (hc : (l.map (fun p => p.2.cls)).Nodup) : (l.map (·.1)).Nodup := by
 unfold List.Nodup at hc ⊢
 rw [List.pairwise_map] at hc ⊢
 refine List.Pairwise.imp_of_mem (fun {p q} hp hq hne e => ?_) hc
 have h1 := H p hp; have h2 := H q hq
 rw [e, h2] at h1
 exact hne (congrArg Obj.cls (Option.some.inj h1).symm)
theorem Has.keep {h h' : Heap} {l : List (Nat × Obj)} (H : Has h l) (k : ∀ b o, h.get? b = some o -> h'.get? b = some o) : Has h' l := fun p hp => k _ _ (H p hp)
noncomputable def objsOf (l : List (Nat × Obj)) : List (Option Obj × Nat) := l.map fun p => (some p.2, p.1)
theorem seeHas {V : YV} {X : YX} {T : BT} {m : Nat} {sg : Nat -> Nat} {nb nc tb tc : Nat} {gl : List GY} {s : Shared} (R : RepY V X T m sg nb nc tb tc gl s) :
  ∀ (js : List Nat) (l : List (Nat × Obj)), (js.map fun j => (T.get j, sg j)) = objsOf l -> Has s.heap l /\ ((∀ j ∈ js, X.k₀ <= j) -> ∀ p ∈ l, X.h₀.objs.size <= p.1)
 | [], [], _ => ⟨fun _ h => (nomatch h), fun _ _ h => (nomatch h)⟩
 | j :: js, p :: l, e => by
  have e' : (T.get j, sg j) = (some p.2, p.1) /\ (js.map fun j => (T.get j, sg j)) = objsOf l := by
   simpa [objsOf] using e
  obtain ⟨h1, h2⟩ := seeHas R js l e'.2
  have a := congrArg Prod.fst e'.1; have b := congrArg Prod.snd e'.1
  dsimp only at a b
  refine ⟨fun q hq => ?_, fun hj q hq => ?_⟩
  ·rcases mD hq with rfl | hq
   ·rw [<- b]; exact (R.own _ _ a).2
   ·exact h1 q hq
  ·rcases mD hq with rfl | hq
   ·rw [<- b]; exact R.newer j (hj j (.head _)) (R.own _ _ a).1
   ·exact h2 (fun k hk => hj k (.tail _ hk)) q hq
 | [], _ :: _, e => by simp [objsOf] at e
 | _ :: _, [], e => by simp [objsOf] at e
theorem seeSplit {f : Nat -> Option Obj × Nat} {js1 js2 : List Nat} {l1 l2 : List (Option Obj × Nat)} (e : (js1 ++ js2).map f = l1 ++ l2) (hl : js1.length = l1.length) : js1.map f = l1 /\ js2.map f = l2 := by
 rw [List.map_append] at e
 exact List.append_inj e (by simpa using hl)
theorem Eff.forget {own : List Nat} {l : List (Nat × Obj)} {n : Nat} {s s' : Shared} (E : Eff own n s s') (ho : own = l.map (·.1)) (h1 : Has s.heap l) (h2 : Has s'.heap l) : Eff [] n s s' := by
 subst ho
 refine E.shrink fun x hx => ?_
 obtain ⟨p, hp, rfl⟩ := List.mem_map.mp hx
 exact .inr ⟨_, h1 p hp, h2 p hp⟩
theorem fz_cls (w : World) (dd bk fn ce co ct tk : Nat) (c : Nat -> Nat) (L : DL) (ep : Nat) : ((fzL w dd bk fn ce co ct tk c L ep).map (fun p => p.2.cls)).Nodup := by
 show [Value.type "dict", Value.ref 122, Value.type "function", Value.type "cell", Value.type "code"].Nodup
 simp
theorem fz_dyn (w : World) (dd bk fn ce co ct tk : Nat) (c : Nat -> Nat) (L : DL) (ep : Nat) : ∀ p ∈ fzL w dd bk fn ce co ct tk c L ep, Dyn p.1 := by
 intro p hp
 simp only [fzL, List.mem_cons, List.not_mem_nil, or_false] at hp
 rcases hp with rfl | rfl | rfl | rfl | rfl <;> exact dyn255 _
noncomputable def xNew (c : Code) (need : List (Nat × Nat × Obj)) : Ext := ⟨c, need, fun u => .ok (.ret (.ref (u.n 3 + 255))), fun _ => [], fun u => [(u.n 3 + 255, entry0 (u.n 5) (u.n 6) (u.n 7) (u.n 8) (u.n 4 + 255)), (u.n 4 + 255, dict0)], fun _ => True, g0⟩
theorem xNew_meet {c : Code} {need : List (Nat × Nat × Obj)} {s s' : Shared} {u : Unk} (hb : 255 <= s.heap.objs.size) (E : Eff [] 0 s s') (H : Has s'.heap [(u.n 3 + 255, entry0 (u.n 5) (u.n 6) (u.n 7) (u.n 8) (u.n 4 + 255)), (u.n 4 + 255, dict0)])
  (hn : s.heap.objs.size <= u.n 3 + 255 /\ s.heap.objs.size <= u.n 4 + 255) : Meet (xNew c need) s (.ok (.ret (.ref (u.n 3 + 255)))) s' := by
 refine ⟨uk [s'.heap.objs.size - 255, s'.toks, 0, u.n 3, u.n 4, u.n 5, u.n 6, u.n 7, u.n 8], trivial, rfl, E.effY rfl hb rfl rfl (fun _ h => nomatch h) (fun p hp => ⟨H p hp, ?_⟩) (H.nodup (by show [Value.type "tuple", Value.type "dict"].Nodup; simp)) (fun _ h => nomatch h)⟩
 rcases mD hp with rfl | hp
 ·exact hn.1
 ·rw [mS hp]; exact hn.2
theorem lam_ok {b1 b2 : Bool} {w : World} (need : List (Nat × Nat × Obj)) {dd bk fn ce co ct tk ep : Nat} {c : Nat -> Nat} {L : DL} {k : Str} {t : Tok}
  (A : Around) (s : Shared) (hA : Deep 2 A) (hs : Stat b1 b2 w s.heap) (H : Has s.heap (fzL (wW b1 b2 w) dd bk fn ce co ct tk c L ep)) :
  codeAny (model theProg (wW b1 b2 w)) A (lamCode fn k t) (Meet (xNew (lamCode fn k t) need) s) s := by
 obtain ⟨hh, dep, fr, gs, un⟩ := A
 have hh0 := hA.handled
 dsimp only at hh0
 subst hh0
 have hd := (hA.le (m := 1) (by decide)).depth
 have hu := (hA.le (m := 1) (by decide)).units
 refine codeBy (fzL (wW b1 b2 w) dd bk fn ce co ct tk c L ep) (fun _ => actsLam) [0, 1, 2, 3, 4, 6, 7] _ hs (fun p hp => ⟨H p hp, fz_dyn _ _ _ _ _ _ _ _ _ _ _ p hp⟩) (H.nodup (fz_cls ..)) rfl hd hu (fun _ => ⟨ext_of 1 hA (fun A s h1 h2 _ => noth_ok A s h1 h2), fun _ _ => trivial⟩) (fun nb xs => lam_check b1 b2 w dep un fr gs _ s.toks dd bk fn ce co ct tk ep t c L k nb xs) ?_
 intro nb xs st hnb _ hsee
 have e := See.mk.inj hsee
 refine endRet e.1 e.2.1 e.2.2.1 fun s' R => ?_
 obtain ⟨e1, e2⟩ := seeSplit (js1 := [0, 1, 2, 3, 4]) (js2 := [6, 7]) e.2.2.2.2 rfl
 have h1 := (seeHas R _ _ e1).1
 obtain ⟨h2, h3⟩ := seeHas R [6, 7] [((xs 0).n 3 + 255, entry0 ((xs 0).n 5) ((xs 0).n 6) ((xs 0).n 7) ((xs 0).n 8) ((xs 0).n 4 + 255)), ((xs 0).n 4 + 255, dict0)] e2
 have h4 := h3 (fun j hj => by
  replace hj := mr2 hj
  rcases hj with rfl | rfl
  ·show 5 <= 6; decide
  ·show 5 <= 7; decide)
 exact xNew_meet (u := xs 0) hs.big ((R.eff (n := 0) e.2.2.2.1).forget rfl H h1) h2 ⟨h4 _ (.head _), h4 _ (.tail _ (.head _))⟩
set_option maxHeartbeats 4000000 in
theorem fmiss1_check (b1 b2 : Bool) (w : World) (dep un : Nat) (fr : Option (List Env)) (gs : Option (List Code)) (γ tb dd bk fn ce co ct tk ep t : Nat) (c : Nat -> Nat) (L : DL) (k : Str) :
  Chk (VV b1 b2 w dep un fr gs γ) (missCode bk k t) (den (missCode bk k t)) (fzL (wW b1 b2 w) dd bk fn ce co ct tk c L ep) tb (fun _ => .go 12 [0, 0, 6, 6, 6, 6, 0] .done) [0, 1, 2, 3, 4, 5]
   (fun nb _ => ⟨none, .base, .pure (.again (mCode (nb + 255 + 0))), [], objsOf (fzL (wW b1 b2 w) dd bk fn ce co ct tk c L ep) ++ objsOf [(nb + 255 + 0, frObj (wW b1 b2 w) (mLoc bk k t tb) 2)]⟩) := by
 intro nb xs
 cases b1 <;> cases b2 <;> kernel_rfl
noncomputable def fzM (w : World) (dd bk fn ce co ct tk : Nat) (c : Nat -> Nat) (L : DL) (ep fl tl : Nat) (k : Str) (t : Tok) : List (Nat × Obj) := fzL w dd bk fn ce co ct tk c L ep ++ [(fl + 255, frObj w (mLoc bk k t tl) 2)]
noncomputable def fzNeed (w : World) (dd bk fn ce co ct tk : Nat) (c : Nat -> Nat) (L : DL) (ep : Nat) : List (Nat × Nat × Obj) := [(0, dd + 255, fzDict w tk fn), (1, bk + 255, bkObj w (dd + 255) L ep), (2, fn + 255, lamObj (ce + 255) ct (co + 255)), (3, ce + 255, cellObj bk), (4, co + 255, coObj c)]
theorem fzNeed_has {w : World} {dd bk fn ce co ct tk : Nat} {c : Nat -> Nat} {L : DL} {ep : Nat} {h : Heap} (H : ∀ p ∈ fzNeed w dd bk fn ce co ct tk c L ep, h.get? p.2.1 = some p.2.2) : Has h (fzL w dd bk fn ce co ct tk c L ep) := by
 intro p hp
 simp only [fzL, List.mem_cons, List.not_mem_nil, or_false] at hp
 rcases hp with rfl | rfl | rfl | rfl | rfl
 ·exact H _ (.head _)
 ·exact H _ (.tail _ (.head _))
 ·exact H _ (.tail _ (.tail _ (.head _)))
 ·exact H _ (.tail _ (.tail _ (.tail _ (.head _))))
 ·exact H _ (.tail _ (.tail _ (.tail _ (.tail _ (.head _)))))
noncomputable def actsFM (w : World) (dd bk fn ce co ct tk : Nat) (c : Nat -> Nat) (L : DL) (ep : Nat) (k : Str) (t : Tok) : Acts :=
 .go 94 [0, 0, 6, 0, 0, 0, 0, 0, 6, 0, 0, 7, 7, 7, 0, 2, 2, 0, 7, 7, 7, 7, 7, 7, 7, 7, 7, 7, 7, 0, 0, 2, 0, 2, 0, 2, 0, 0, 0, 0, 0, 0, 2, 0, 2, 0, 0, 0, 2, 2, 0, 1, 6, 3] <|
 .ext (xNew (lamCode fn k t) (fzNeed w dd bk fn ce co ct tk c L ep)) fun _ => .go 1 [] .done
set_option maxHeartbeats 4000000 in
theorem fmiss2_check (b1 b2 : Bool) (w : World) (dep un : Nat) (fr : Option (List Env)) (gs : Option (List Code)) (γ tb dd bk fn ce co ct tk ep t fl tl : Nat) (c : Nat -> Nat) (L : DL) (k : Str) :
  Chk (VV b1 b2 w dep un fr gs γ) (mCode (fl + 255)) (mTree (fl + 255)) (fzM (wW b1 b2 w) dd bk fn ce co ct tk c L ep fl tl k t) tb (fun _ => actsFM (wW b1 b2 w) dd bk fn ce co ct tk c L ep k t) [0, 1, 2, 3, 4, 5, 8, 9]
   (fun nb xs => ⟨none, .base, .pure (.done (.ret (.ref ((xs 0).n 3 + 255)))), [], objsOf (fzM (wW b1 b2 w) dd bk fn ce co ct tk c L ep fl tl k t) ++ objsOf [((xs 0).n 3 + 255, entry0 ((xs 0).n 5) ((xs 0).n 6) ((xs 0).n 7) ((xs 0).n 8) ((xs 0).n 4 + 255)), ((xs 0).n 4 + 255, dict0)]⟩) := by
 intro nb xs
 cases b1 <;> cases b2 <;> kernel_rfl
theorem fmiss_ok {b1 b2 : Bool} {w : World} (need : List (Nat × Nat × Obj)) {dd bk fn ce co ct tk ep : Nat} {c : Nat -> Nat} {L : DL} {k : Str} {t : Tok}
  (A : Around) (s : Shared) (hA : Deep 3 A) (hs : Stat b1 b2 w s.heap) (H : Has s.heap (fzL (wW b1 b2 w) dd bk fn ce co ct tk c L ep)) :
  codeAny (model theProg (wW b1 b2 w)) A (missCode bk k t) (Meet (xNew (missCode bk k t) need) s) s := by
 obtain ⟨hh, dep, fr, gs, un⟩ := A
 have hh0 := hA.handled
 dsimp only at hh0
 subst hh0
 have hd := (hA.le (m := 1) (by decide)).depth
 have hu := (hA.le (m := 1) (by decide)).units
 refine codeBy (fzL (wW b1 b2 w) dd bk fn ce co ct tk c L ep) (fun _ => .go 12 [0, 0, 6, 6, 6, 6, 0] .done) [0, 1, 2, 3, 4, 5] _ hs (fun p hp => ⟨H p hp, fz_dyn _ _ _ _ _ _ _ _ _ _ _ p hp⟩) (H.nodup (fz_cls ..)) rfl hd hu (fun _ => trivial) (fun nb xs => fmiss1_check b1 b2 w dep un fr gs _ s.toks dd bk fn ce co ct tk ep t c L k nb xs) ?_
 intro nb xs st hnb _ hsee
 have e := See.mk.inj hsee
 refine endAgain e.1 e.2.1 e.2.2.1 rfl fun s₁ R₁ => ?_
 obtain ⟨e1, e2⟩ := seeSplit (js1 := [0, 1, 2, 3, 4]) (js2 := [5]) e.2.2.2.2 rfl
 have h1 := (seeHas R₁ _ _ e1).1
 have h2 := (seeHas R₁ _ _ e2).1
 have E₀ : Eff [] 0 s s₁ := (R₁.eff (n := 0) e.2.2.2.1).forget rfl H h1
 have hM : Has s₁.heap (fzM (wW b1 b2 w) dd bk fn ce co ct tk c L ep nb s.toks k t) := fun p hp => by
  rcases List.mem_append.mp hp with hp | hp
  ·exact h1 p hp
  ·exact h2 p hp
 refine y_code _ _ _ _ _ _ ((mRel _).own ?_)
 refine treeBy (fzM (wW b1 b2 w) dd bk fn ce co ct tk c L ep nb s.toks k t) (fun _ => actsFM (wW b1 b2 w) dd bk fn ce co ct tk c L ep k t) [0, 1, 2, 3, 4, 5, 8, 9] _ R₁.stat (fun p hp => ⟨hM p hp, ?_⟩) (hM.nodup ?_) rfl hd hu (fun _ => ⟨ext_of 2 hA (fun A s h1 h2 hn => lam_ok _ A s h1 h2 (fzNeed_has hn)), fun _ _ => trivial⟩) (fun nb2 xs2 => fmiss2_check b1 b2 w dep un fr gs _ s₁.toks dd bk fn ce co ct tk ep t nb s.toks c L k nb2 xs2) ?_
 ·rcases List.mem_append.mp hp with hp | hp
  ·exact fz_dyn _ _ _ _ _ _ _ _ _ _ _ p hp
  ·rw [mS hp]; exact dyn255 _
 ·show [Value.type "dict", Value.ref 122, Value.type "function", Value.type "cell", Value.type "code", Value.type "frame"].Nodup
  simp
 intro nb2 xs2 st2 hnb2 _ hsee2
 have e' := See.mk.inj hsee2
 refine endRet e'.1 e'.2.1 e'.2.2.1 fun s' R => ?_
 obtain ⟨e3, e4⟩ := seeSplit (js1 := [0, 1, 2, 3, 4, 5]) (js2 := [8, 9]) e'.2.2.2.2 rfl
 have h5 := (seeHas R _ _ e3).1
 obtain ⟨h6, h7⟩ := seeHas R _ _ e4
 have h8 := h7 (fun j hj => by
  replace hj := mr2 hj
  rcases hj with rfl | rfl
  ·show 6 <= 8; decide
  ·show 6 <= 9; decide)
 have E₁ := (R.eff (n := 0) e'.2.2.2.1).forget rfl hM h5
 exact xNew_meet (u := xs2 0) hs.big (E₀.trans E₁ (fun _ h => nomatch h)) h6 ⟨Nat.le_trans E₀.grown (h8 _ (.head _)), Nat.le_trans E₀.grown (h8 _ (.tail _ (.head _)))⟩
theorem missF_ok {b1 b2 : Bool} {w : World} (need : List (Nat × Nat × Obj)) {dd bk fn ce co ct tk ep : Nat} {c : Nat -> Nat} {L : DL} {k : Str} {t : Tok} (hk : getL L k = none)
  (A : Around) (s : Shared) (hA : Deep 4 A) (hs : Stat b1 b2 w s.heap) (H : Has s.heap (fzL (wW b1 b2 w) dd bk fn ce co ct tk c L ep)) :
  codeAny (model theProg (wW b1 b2 w)) A (gitCode bk k t) (Meet (xNew (gitCode bk k t) need) s) s := by
 obtain ⟨hh, dep, fr, gs, un⟩ := A
 have hh0 := hA.handled
 dsimp only at hh0
 subst hh0
 have hd := (hA.le (m := 1) (by decide)).depth
 have hu := (hA.le (m := 1) (by decide)).units
 have o1 : s.heap.get? (bk + 255) = some (bkObj (wW b1 b2 w) (dd + 255) L ep) := H _ (.tail _ (.head _))
 refine git_to hd hu hs o1 fun s₁ hs₁ E f1 => ?_
 have H₁ : Has s₁.heap (fzL (wW b1 b2 w) dd bk fn ce co ct tk c L ep) := H.keep fun b o e => E.keep b o e (fun h => nomatch h)
 refine codeOwn entry_dict_getitem ?_
 show wpOwn _ _ _ (dictGet (bk + 255) (.str k t) >>= _) _ _ s₁
 refine wpOwn_bind (wpOwn_of_wpAny (wpAny_getL f1 rfl ?_))
 rw [hk]
 dsimp only
 refine treeBy (s := { s₁ with toks := s₁.toks + 1 }) (fzL (wW b1 b2 w) dd bk fn ce co ct tk c L ep)
  (fun _ => .go 6 [2, 2, 0, 0, 0, 0] <| .ext (xNew (missCode bk k t) (fzNeed (wW b1 b2 w) dd bk fn ce co ct tk c L ep)) fun _ => .go 1 [] .done) [0, 1, 2, 3, 4, 5, 6]
  (fun nb xs => ⟨none, .base, .pure (.done (.ret (.ref ((xs 0).n 3 + 255)))), [], objsOf (fzL (wW b1 b2 w) dd bk fn ce co ct tk c L ep) ++ objsOf [((xs 0).n 3 + 255, entry0 ((xs 0).n 5) ((xs 0).n 6) ((xs 0).n 7) ((xs 0).n 8) ((xs 0).n 4 + 255)), ((xs 0).n 4 + 255, dict0)]⟩)
  hs₁ (fun p hp => ⟨H₁ p hp, fz_dyn _ _ _ _ _ _ _ _ _ _ _ p hp⟩) (H₁.nodup (fz_cls ..)) rfl hd hu (fun nb => ⟨ext_of 3 hA (fun A s h1 h2 hn => fmiss_ok _ A s h1 h2 (fzNeed_has hn)), fun _ _ => trivial⟩) (fun nb xs => ?_) ?_
 ·cases b1 <;> cases b2 <;> kernel_rfl
 intro nb2 xs2 st2 hnb2 _ hsee2
 have e' := See.mk.inj hsee2
 refine endRet e'.1 e'.2.1 e'.2.2.1 fun s' R => ?_
 obtain ⟨e3, e4⟩ := seeSplit (js1 := [0, 1, 2, 3, 4]) (js2 := [5, 6]) e'.2.2.2.2 rfl
 have h5 := (seeHas R _ _ e3).1
 obtain ⟨h6, h7⟩ := seeHas R _ _ e4
 have h8 := h7 (fun j hj => by
  replace hj := mr2 hj
  rcases hj with rfl | rfl
  ·show 5 <= 5; decide
  ·show 5 <= 6; decide)
 have E₁ := (R.eff (n := 0) e'.2.2.2.1).forget rfl H₁ h5
 exact xNew_meet (u := xs2 0) hs.big ((E.toks (s₁.toks + 1)).trans E₁ (fun _ h => nomatch h)) h6 ⟨Nat.le_trans E.grown (h8 _ (.head _)), Nat.le_trans E.grown (h8 _ (.tail _ (.head _)))⟩
noncomputable abbrev frzCode (bk : Nat) : Code := .call (.ref 119) ⟨[.ref (bk + 255)], []⟩
noncomputable abbrev tab0 : Obj := { cls := .none, data := .fields #[] }
noncomputable abbrev tab1 (co : Nat) : Obj := { cls := .none, data := .fields #[.int 63 0, .int 23 0, .ref co] }
noncomputable def coAt (tb nb : Nat) : Nat -> Nat
 | 0 => tb + 0 | 1 => tb + 1 | 2 => tb + 2 | 3 => nb + 255 + 3 | 4 => nb + 255 + 4 | 5 => nb + 255 + 5 | 6 => nb + 255 + 6 | 7 => nb + 255 + 7 | 8 => tb + 6 | _ => tb + 5
set_option maxHeartbeats 4000000 in
theorem frz0_check (b1 b2 : Bool) (w : World) (dep un : Nat) (fr : Option (List Env)) (gs : Option (List Code)) (γ tb dd bk ep : Nat) (L : DL) :
  Chk (VV b1 b2 w dep un fr gs γ) (frzCode bk) (den (frzCode bk)) [(114, tab0), (dd + 255, dict0), (bk + 255, bkObj (wW b1 b2 w) (dd + 255) L ep)] tb
   (fun _ => .go 60 [0, 0, 5, 5, 0, 0, 1, 1, 1, 1, 0, 0, 0, 5, 3, 0, 0, 0, 3, 0, 3, 0, 3, 0, 0, 0, 3, 0, 2, 2, 2] .done) [0, 1, 2, 12, 4, 11]
   (fun nb _ => ⟨none, .base, .pure (.done (.ret .none)), [], objsOf [(114, tab1 (nb + 255 + 8)), (dd + 255, dictO (wW b1 b2 w) [("_frozen", tb + 8, .ref (nb + 255 + 9))] 1), (bk + 255, bkObj (wW b1 b2 w) (dd + 255) L ep)] ++
    objsOf [(nb + 255 + 9, lamObj (nb + 255 + 1) (nb + 255 + 2) (nb + 255 + 8)), (nb + 255 + 1, cellObj bk), (nb + 255 + 8, coObj (coAt tb nb))]⟩) := by
 intro nb xs
 cases b1 <;> cases b2 <;> kernel_rfl
set_option maxHeartbeats 4000000 in
theorem frz1_check (b1 b2 : Bool) (w : World) (dep un : Nat) (fr : Option (List Env)) (gs : Option (List Code)) (γ tb dd bk ep co : Nat) (L : DL) :
  Chk (VV b1 b2 w dep un fr gs γ) (frzCode bk) (den (frzCode bk)) [(114, tab1 (co + 255)), (dd + 255, dict0), (bk + 255, bkObj (wW b1 b2 w) (dd + 255) L ep)] tb
   (fun _ => .go 44 [0, 0, 5, 5, 0, 0, 1, 0, 0, 0, 5, 3, 0, 0, 0, 3, 0, 3, 0, 3, 0, 0, 0, 3, 0, 2, 2, 2] .done) [0, 1, 2, 6, 4]
   (fun nb _ => ⟨none, .base, .pure (.done (.ret .none)), [], objsOf [(114, tab1 (co + 255)), (dd + 255, dictO (wW b1 b2 w) [("_frozen", tb + 1, .ref (nb + 255 + 3))] 1), (bk + 255, bkObj (wW b1 b2 w) (dd + 255) L ep)] ++
    objsOf [(nb + 255 + 3, lamObj (nb + 255 + 1) (nb + 255 + 2) (co + 255)), (nb + 255 + 1, cellObj bk)]⟩) := by
 intro nb xs
 cases b1 <;> cases b2 <;> kernel_rfl
noncomputable def xFrz0 (j0 j1 j2 : Nat) (w : World) (dd bk : Nat) (L : DL) (ep : Nat) : Ext :=
 ⟨frzCode bk, [(j0, 114, tab0), (j1, dd + 255, dict0), (j2, bk + 255, bkObj w (dd + 255) L ep)], fun _ => .ok (.ret .none), fun u => [(j0, 114, tab1 (u.n 5 + 255)), (j1, dd + 255, fzDict w (u.n 6) (u.n 3))],
  fun u => [(u.n 3 + 255, lamObj (u.n 4 + 255) (u.n 7) (u.n 5 + 255)), (u.n 4 + 255, cellObj bk), (u.n 5 + 255, coObj fun i => u.n (8 + i))], fun _ => True, g0⟩
noncomputable def xFrz1 (j0 j1 j2 : Nat) (w : World) (dd bk co : Nat) (L : DL) (ep : Nat) : Ext :=
 ⟨frzCode bk, [(j0, 114, tab1 (co + 255)), (j1, dd + 255, dict0), (j2, bk + 255, bkObj w (dd + 255) L ep)], fun _ => .ok (.ret .none), fun u => [(j1, dd + 255, fzDict w (u.n 6) (u.n 3))],
  fun u => [(u.n 3 + 255, lamObj (u.n 4 + 255) (u.n 7) (co + 255)), (u.n 4 + 255, cellObj bk)], fun _ => True, g0⟩
theorem frz0_ok {b1 b2 : Bool} {w : World} {j0 j1 j2 dd bk ep : Nat} {L : DL} (A : Around) (s : Shared) (hA : Deep 1 A) (hs : Stat b1 b2 w s.heap) (hn : ∀ p ∈ (xFrz0 j0 j1 j2 (wW b1 b2 w) dd bk L ep).need, s.heap.get? p.2.1 = some p.2.2) :
  codeAny (model theProg (wW b1 b2 w)) A (frzCode bk) (Meet (xFrz0 j0 j1 j2 (wW b1 b2 w) dd bk L ep) s) s := by
 obtain ⟨hh, dep, fr, gs, un⟩ := A
 obtain ⟨rfl, hd, hu⟩ := hA
 have H : Has s.heap [(114, tab0), (dd + 255, dict0), (bk + 255, bkObj (wW b1 b2 w) (dd + 255) L ep)] := by
  intro p hp
  replace hp := mr3 hp
  rcases hp with rfl | rfl | rfl
  ·exact hn _ (.head _)
  ·exact hn _ (.tail _ (.head _))
  ·exact hn _ (.tail _ (.tail _ (.head _)))
 refine codeBy [(114, tab0), (dd + 255, dict0), (bk + 255, bkObj (wW b1 b2 w) (dd + 255) L ep)] _ [0, 1, 2, 12, 4, 11] _ hs (fun p hp => ⟨H p hp, ?_⟩) (H.nodup ?_) rfl hd hu ?_ (frz0_check b1 b2 w dep un fr gs _ s.toks dd bk ep L) ?_
 ·replace hp := mr3 hp
  rcases hp with rfl | rfl | rfl
  ·exact .inr (.inr rfl)
  ·exact dyn255 _
  ·exact dyn255 _
 ·show [Value.none, Value.type "dict", Value.ref 122].Nodup
  simp
 ·exact fun _ => trivial
 intro nb xs st hnb _ hsee
 have e := See.mk.inj hsee
 refine endRet e.1 e.2.1 e.2.2.1 fun s' R => ?_
 obtain ⟨e1, e2⟩ := seeSplit (js1 := [0, 1, 2]) (js2 := [12, 4, 11]) e.2.2.2.2 rfl
 have h1 := (seeHas R _ _ e1).1
 obtain ⟨h2, h3⟩ := seeHas R _ _ e2
 have h4 := h3 (fun j hj => by
  replace hj := mr3 hj
  rcases hj with rfl | rfl | rfl
  ·show 3 <= 12; decide
  ·show 3 <= 4; decide
  ·show 3 <= 11; decide)
 have E : Eff [114, dd + 255] 0 s s' := (R.eff (n := 0) e.2.2.2.1).shrink fun x hx => by
  simp only [List.map_cons, List.map_nil, List.mem_cons, List.not_mem_nil, or_false] at hx
  rcases hx with rfl | rfl | rfl
  ·exact .inl (.head _)
  ·exact .inl (.tail _ (.head _))
  ·exact .inr ⟨_, H _ (.tail _ (.tail _ (.head _))), h1 _ (.tail _ (.tail _ (.head _)))⟩
 have q9 : nb + 255 + 9 = nb + 9 + 255 := by lia
 have q1 : nb + 255 + 1 = nb + 1 + 255 := by lia
 have q8 : nb + 255 + 8 = nb + 8 + 255 := by lia
 rw [q9, q1, q8] at h2 h4
 rw [q9, q8] at h1
 refine ⟨uk [s'.heap.objs.size - 255, s'.toks, 0, nb + 9, nb + 1, nb + 8, s.toks + 8, nb + 255 + 2, s.toks + 0, s.toks + 1, s.toks + 2, nb + 255 + 3, nb + 255 + 4, nb + 255 + 5, nb + 255 + 6, nb + 255 + 7, s.toks + 6, s.toks + 5], trivial, rfl,
  E.effY rfl hs.big rfl rfl (fun p hp => ?_) (fun p hp => ?_) ?_ (fun a ha => ?_)⟩
 ·simp only [xFrz0, List.mem_cons, List.not_mem_nil, or_false] at hp
  rcases hp with rfl | rfl
  ·exact h1 _ (.head _)
  ·exact h1 _ (.tail _ (.head _))
 ·simp only [xFrz0, List.mem_cons, List.not_mem_nil, or_false] at hp
  rcases hp with rfl | rfl | rfl
  ·exact ⟨h2 _ (.head _), h4 _ (.head _)⟩
  ·exact ⟨h2 _ (.tail _ (.head _)), h4 _ (.tail _ (.head _))⟩
  ·exact ⟨h2 _ (.tail _ (.tail _ (.head _))), h4 _ (.tail _ (.tail _ (.head _)))⟩
 ·show [nb + 9 + 255, nb + 1 + 255, nb + 8 + 255].Nodup
  simp
 ·replace ha := mr2 ha
  rcases ha with rfl | rfl
  ·exact ⟨_, .head _, rfl⟩
  ·exact ⟨_, .tail _ (.head _), rfl⟩
theorem frz1_ok {b1 b2 : Bool} {w : World} {j0 j1 j2 dd bk co ep : Nat} {L : DL} (A : Around) (s : Shared) (hA : Deep 1 A) (hs : Stat b1 b2 w s.heap) (hn : ∀ p ∈ (xFrz1 j0 j1 j2 (wW b1 b2 w) dd bk co L ep).need, s.heap.get? p.2.1 = some p.2.2) :
  codeAny (model theProg (wW b1 b2 w)) A (frzCode bk) (Meet (xFrz1 j0 j1 j2 (wW b1 b2 w) dd bk co L ep) s) s := by
 obtain ⟨hh, dep, fr, gs, un⟩ := A
 obtain ⟨rfl, hd, hu⟩ := hA
 have H : Has s.heap [(114, tab1 (co + 255)), (dd + 255, dict0), (bk + 255, bkObj (wW b1 b2 w) (dd + 255) L ep)] := by
  intro p hp
  replace hp := mr3 hp
  rcases hp with rfl | rfl | rfl
  ·exact hn _ (.head _)
  ·exact hn _ (.tail _ (.head _))
  ·exact hn _ (.tail _ (.tail _ (.head _)))
 refine codeBy [(114, tab1 (co + 255)), (dd + 255, dict0), (bk + 255, bkObj (wW b1 b2 w) (dd + 255) L ep)] _ [0, 1, 2, 6, 4] _ hs (fun p hp => ⟨H p hp, ?_⟩) (H.nodup ?_) rfl hd hu ?_ (frz1_check b1 b2 w dep un fr gs _ s.toks dd bk ep co L) ?_
 ·replace hp := mr3 hp
  rcases hp with rfl | rfl | rfl
  ·exact .inr (.inr rfl)
  ·exact dyn255 _
  ·exact dyn255 _
 ·show [Value.none, Value.type "dict", Value.ref 122].Nodup
  simp
 ·exact fun _ => trivial
 intro nb xs st hnb _ hsee
 have e := See.mk.inj hsee
 refine endRet e.1 e.2.1 e.2.2.1 fun s' R => ?_
 obtain ⟨e1, e2⟩ := seeSplit (js1 := [0, 1, 2]) (js2 := [6, 4]) e.2.2.2.2 rfl
 have h1 := (seeHas R _ _ e1).1
 obtain ⟨h2, h3⟩ := seeHas R _ _ e2
 have h4 := h3 (fun j hj => by
  replace hj := mr2 hj
  rcases hj with rfl | rfl
  ·show 3 <= 6; decide
  ·show 3 <= 4; decide)
 have E : Eff [dd + 255] 0 s s' := (R.eff (n := 0) e.2.2.2.1).shrink fun x hx => by
  simp only [List.map_cons, List.map_nil, List.mem_cons, List.not_mem_nil, or_false] at hx
  rcases hx with rfl | rfl | rfl
  ·exact .inr ⟨_, H _ (.head _), h1 _ (.head _)⟩
  ·exact .inl (.head _)
  ·exact .inr ⟨_, H _ (.tail _ (.tail _ (.head _))), h1 _ (.tail _ (.tail _ (.head _)))⟩
 have q9 : nb + 255 + 3 = nb + 3 + 255 := by lia
 have q1 : nb + 255 + 1 = nb + 1 + 255 := by lia
 rw [q9, q1] at h2 h4
 rw [q9] at h1
 refine ⟨uk [s'.heap.objs.size - 255, s'.toks, 0, nb + 3, nb + 1, 0, s.toks + 1, nb + 255 + 2], trivial, rfl,
  E.effY rfl hs.big rfl rfl (fun p hp => ?_) (fun p hp => ?_) ?_ (fun a ha => ?_)⟩
 ·rw [mS hp]
  exact h1 _ (.tail _ (.head _))
 ·simp only [xFrz1, List.mem_cons, List.not_mem_nil, or_false] at hp
  rcases hp with rfl | rfl
  ·exact ⟨h2 _ (.head _), h4 _ (.head _)⟩
  ·exact ⟨h2 _ (.tail _ (.head _)), h4 _ (.tail _ (.head _))⟩
 ·show [nb + 3 + 255, nb + 1 + 255].Nodup
  simp
 ·exact ⟨_, .head _, (mS ha).symm⟩
structure Gr (own : List Nat) (s s' : Shared) : Prop where
 keep : ∀ b o, b ∉ own -> s.heap.get? b = some o -> s'.heap.get? b = some o
 gens : ∃ l : List GenState, s'.gens = ⟨s.gens.toList ++ l⟩ /\ ∀ x ∈ l, x.bare = true
 os : s'.os = s.os
section
variable {own : List Nat} {s s' s₁ s₂ s₃ : Shared}
theorem Gr.refl (s : Shared) : Gr own s s := ⟨fun _ _ _ e => e, ⟨[], by simp, fun _ h => nomatch h⟩, rfl⟩
theorem Gr.trans (G : Gr own s s₁) (H : Gr own s₁ s₂) : Gr own s s₂ := by
 obtain ⟨l, e1, h1⟩ := G.gens
 obtain ⟨l', e2, h2⟩ := H.gens
 refine ⟨fun b o hb e => H.keep b o hb (G.keep b o hb e), ⟨l ++ l', by rw [e2, e1]; simp, fun x hx => ?_⟩, H.os.trans G.os⟩
 rcases List.mem_append.mp hx with hx | hx
 ·exact h1 x hx
 ·exact h2 x hx
theorem fin_bare {n : Nat} : ∀ x ∈ List.replicate n GenState.finished, x.bare = true := fun x hx => by rw [(List.mem_replicate.mp hx).2]; rfl
theorem Gr.widen {own' : List Nat} (G : Gr own s s') (h : ∀ a ∈ own, a ∈ own') : Gr own' s s' := ⟨fun b o hb e => G.keep b o (fun q => hb (h b q)) e, G.gens, G.os⟩
theorem Gr.shrink {own' : List Nat} (G : Gr own s s') (h : ∀ a ∈ own, a ∈ own' \/ s.heap.get? a = none) : Gr own' s s' := by
 refine ⟨fun b o hb e => ?_, G.gens, G.os⟩
 by_cases hm : b ∈ own
 ·rcases h b hm with h | h
  ·exact absurd h hb
  ·rw [h] at e; cases e
 ·exact G.keep b o hm e
theorem Gr.new (G : Gr own s s') (h : ∀ a ∈ own, s.heap.get? a = none) : Gr [] s s' := G.shrink fun a ha => .inr (h a ha)
theorem Gr.nil (G : Gr [] s s') : Gr own s s' := G.widen (fun _ h => nomatch h)
theorem Gr.k (G : Gr [] s s') (b : Nat) (o : Obj) (e : s.heap.get? b = some o) : s'.heap.get? b = some o := G.keep b o (fun h => nomatch h) e
theorem Gr.tok (G : Gr own s s') (t : Nat) : Gr own s { s' with toks := t } := ⟨G.keep, G.gens, G.os⟩
theorem Gr.dead (G : Gr own s s') {b : Nat} (hb : b ∉ own) (e : s'.heap.get? b = none) : s.heap.get? b = none := by
 cases q : s.heap.get? b with
 | none => rfl
 | some o => rw [G.keep b o hb q] at e; cases e
theorem gr_out {h' : Heap} {tk : Nat} (k : ∀ b o, b ∉ own -> s.heap.get? b = some o -> h'.get? b = some o) : Gr own s { s with heap := h', toks := tk } := ⟨k, ⟨[], by simp, fun _ h => nomatch h⟩, rfl⟩
theorem gr_keep {h' : Heap} {tk : Nat} (k : ∀ b o, s.heap.get? b = some o -> h'.get? b = some o) : Gr own s { s with heap := h', toks := tk } := gr_out fun b o _ e => k b o e
theorem gr_tok {tk : Nat} : Gr own s { s with toks := tk } := gr_keep fun _ _ e => e
theorem gr_push {o : Obj} {tk : Nat} : Gr own s { s with heap := s.heap.push o, toks := tk } := gr_keep fun _ _ e => Heap.get?_push_of_some _ e
theorem gr_same {a : Nat} {h' : Heap} {tk : Nat} (k : Heap.SameBut a s.heap h') : Gr [a] s { s with heap := h', toks := tk } :=
 gr_out fun b o hb e => (k.2 b fun q => hb (by rw [q]; exact .head _)).trans e
theorem gr_ext {a : Nat} {h' : Heap} {tk : Nat} (k : ∀ b o, b ≠ a -> s.heap.get? b = some o -> h'.get? b = some o) : Gr [a] s { s with heap := h', toks := tk } :=
 gr_out fun b o hb e => k b o (fun q => hb (by rw [q]; exact .head _)) e
theorem Eff.gr {n : Nat} (E : Eff own n s s') : Gr own s s' := ⟨fun b o hb e => E.keep b o e hb, ⟨_, E.gens, fin_bare⟩, E.os⟩
theorem EffY.gr {e : Ext} {x : Unk} (E : EffY e x s s') (h : e.sets x = []) : Gr [] s s' :=
 ⟨fun b o _ q => E.keep b o q (by rw [h]; exact fun _ hp => nomatch hp), ⟨_, E.gens, fin_bare⟩, E.os⟩
theorem EffY.gr' {e : Ext} {x : Unk} (E : EffY e x s s') (h : ∀ p ∈ e.sets x, p.2.1 ∈ own) : Gr own s s' :=
 ⟨fun b o hb q => E.keep b o q (fun p hp e' => hb (e' ▸ h p hp)), ⟨_, E.gens, fin_bare⟩, E.os⟩
theorem not_mem_of_new {D : Nat} (hl : ∀ a ∈ own, ∃ o, s.heap.get? a = some o) (e : s.heap.get? D = none) : D ∉ own := fun hm => by
 obtain ⟨o, ho⟩ := hl D hm; rw [ho] at e; cases e
theorem new_at {h : Heap} {a : Nat} (q : h.objs.size <= a) : h.get? a = none := by
 cases e : h.get? a with
 | none => rfl
 | some o => exact absurd (Heap.lt_size e) (Nat.not_lt.mpr q)
theorem Gr.stat {b1 b2 : Bool} {w : World} (G : Gr own s s') (hs : Stat b1 b2 w s.heap) (ho : ∀ a ∈ own, Dyn a) : Stat b1 b2 w s'.heap :=
 holds_iff.mpr fun a o e => G.keep a o (fun hm => by rw [(ho a hm).none] at e; cases e) (holds_iff.mp hs a o e)
theorem Gr.stat0 {b1 b2 : Bool} {w : World} (G : Gr [] s s') (hs : Stat b1 b2 w s.heap) : Stat b1 b2 w s'.heap := G.stat hs (fun _ h => nomatch h)
end
noncomputable def atB : List Stmt -> Nat -> Stmt
 | [], _ => .Pass default
 | s :: _, 0 => s
 | _ :: r, n + 1 => atB r n
noncomputable def prgB : List Stmt := PySem.Challenge.pw_in0006_01.main.body
noncomputable def globOf (P : Params) : Str -> Option Value := match (o3 P).data with
 | .dict es _ => nsFind es
 | _ => fun _ => none
noncomputable def builOf (P : Params) : Str -> Option Value := match (o0 P).data with
 | .dict es _ => nsFind es
 | _ => fun _ => none
noncomputable def strKeysB (es : Array DictEntry) : Bool := es.toList.all fun e => match e.key with | .str .. => true | _ => false
theorem strKeys_of {es : Array DictEntry} (h : strKeysB es = true) : StrKeys es := by
 intro e he
 have := List.all_eq_true.mp h e (by simpa using he)
 cases hq : e.key with
 | str a t => exact ⟨a, t, rfl⟩
 | _ => rw [hq] at this; cases this
theorem ktop_3 (P : Params) : (ktop P).get 3 = some (o3 P) := by kernel_rfl
theorem ktop_0 (P : Params) : (ktop P).get 0 = some (o0 P) := by kernel_rfl
theorem o3_data (P : Params) : X2_3 (fun es n => (o3 P).data = .dict es n) (fun es n => strKeysB es = true) (fun es n => nsFind es = globOf P) := ⟨_, _, rfl, by kernel_rfl, rfl⟩
theorem o0_data (P : Params) : X2_3 (fun es n => (o0 P).data = .dict es n) (fun es n => strKeysB es = true) (fun es n => nsFind es = builOf P) := ⟨_, _, rfl, by kernel_rfl, rfl⟩
section
variable {b1 b2 : Bool} {w : World} {h : Heap}
theorem Stat.glob (hs : Stat b1 b2 w h) : h.Ns 3 (globOf (wW b1 b2 w).params) := by
 obtain ⟨es, n, e1, e2, e3⟩ := o3_data (wW b1 b2 w).params
 exact ⟨_, es, n, holds_iff.mp hs 3 _ (ktop_3 _), e1, strKeys_of e2, fun x => congrFun e3 x⟩
theorem Stat.buil (hs : Stat b1 b2 w h) : h.Ns 0 (builOf (wW b1 b2 w).params) := by
 obtain ⟨es, n, e1, e2, e3⟩ := o0_data (wW b1 b2 w).params
 exact ⟨_, es, n, holds_iff.mp hs 0 _ (ktop_0 _), e1, strKeys_of e2, fun x => congrFun e3 x⟩
theorem Stat.limit (hs : Stat b1 b2 w h) : h.NoLimit := limitOf hs
end
theorem gl_rows (P : Params) : globOf P "_law_rows" = some (.ref 244) := by kernel_rfl
theorem gl_told (P : Params) : globOf P "_law_told" = some (.ref 249) := by kernel_rfl
theorem gl_book (P : Params) : globOf P "_law_book" = some (.ref 239) := by kernel_rfl
theorem gl_rec (P : Params) : globOf P "_law_record" = some (.ref 234) := by kernel_rfl
theorem gl_noth (P : Params) : globOf P "_law_nothing" = some (.ref 227) := by kernel_rfl
theorem gl_pair (P : Params) : globOf P "Pair" = some (.ref 217) := by kernel_rfl
theorem gl_fdd (P : Params) : globOf P "FreezableDefaultDict" = some (.ref 122) := by kernel_rfl
theorem gl_afs (P : Params) : globOf P "add_func_stats" = some (.ref 46) := by kernel_rfl
theorem gl_ac (P : Params) : globOf P "add_callers" = some (.ref 53) := by kernel_rfl
theorem bu_tuple (P : Params) : globOf P "tuple" = none /\ builOf P "tuple" = some (.type "tuple") := by constructor <;> kernel_rfl
theorem bu_isin (P : Params) : globOf P "isinstance" = none /\ builOf P "isinstance" = some (.builtin "isinstance") := by constructor <;> kernel_rfl
theorem bu_len (P : Params) : globOf P "len" = none /\ builOf P "len" = some (.builtin "len") := by constructor <;> kernel_rfl
theorem bu_sum (P : Params) : globOf P "sum" = none /\ builOf P "sum" = some (.builtin "sum") := by constructor <;> kernel_rfl
theorem bu_list (P : Params) : globOf P "list" = none /\ builOf P "list" = some (.type "list") := by constructor <;> kernel_rfl
theorem bu_enum (P : Params) : globOf P "enumerate" = none /\ builOf P "enumerate" = some (.type "enumerate") := by constructor <;> kernel_rfl
theorem bu_zip (P : Params) : globOf P "zip" = none /\ builOf P "zip" = some (.type "zip") := by constructor <;> kernel_rfl
noncomputable def argsOf : Stmt -> Arguments
 | .FunctionDef _ a _ _ _ _ _ _ _ _ => a
 | _ => default
noncomputable abbrev mkFd (st : Stmt) (name : Str) (doc pm : Value) (code : Nat) : FuncData :=
 { name := name, qualname := name, params := argsOf st, body := .stmts (bodyOf st), scope := scopeOf st, globals := 3, closure := [], defaults := .none, kwdefaults := .none, doc := doc, pyModule := pm, annotations := none, code := .ref code, closureTuple := .none, builtins := 0 }
noncomputable abbrev pmL : Value := .str "law_in0006_01" 574
noncomputable abbrev fdTold : FuncData := mkFd (atB prgB 15) "_law_told" .none pmL 248
noncomputable abbrev fdRows : FuncData := mkFd (atB prgB 14) "_law_rows" .none pmL 243
noncomputable abbrev fdBook : FuncData := mkFd (atB prgB 13) "_law_book" .none pmL 238
noncomputable abbrev fdLaw : FuncData := mkFd (atB prgB 16) "law" .none pmL 253
noncomputable abbrev fdAfs : FuncData := mkFd (atB prgB 3) "add_func_stats" (.str "Add together all the stats for two profile entries." 305) (.str "cpy313.pstats" 286) 45
noncomputable abbrev fdAc : FuncData := mkFd (atB prgB 4) "add_callers" (.str "Combine two caller lists in a single list." 317) (.str "cpy313.pstats" 286) 52
theorem told_fd (P : Params) : (ktop P).get 249 = some (o249 P) /\ (o249 P).data = .func fdTold := by constructor <;> kernel_rfl
theorem rows_fd (P : Params) : (ktop P).get 244 = some (o244 P) /\ (o244 P).data = .func fdRows := by constructor <;> kernel_rfl
theorem book_fd (P : Params) : (ktop P).get 239 = some (o239 P) /\ (o239 P).data = .func fdBook := by constructor <;> kernel_rfl
theorem law_fd (P : Params) : (ktop P).get 254 = some (o254 P) /\ (o254 P).data = .func fdLaw := by constructor <;> kernel_rfl
theorem afs_fd (P : Params) : (ktop P).get 46 = some (o46 P) /\ (o46 P).data = .func fdAfs := by constructor <;> kernel_rfl
theorem ac_fd (P : Params) : (ktop P).get 53 = some (o53 P) /\ (o53 P).data = .func fdAc := by constructor <;> kernel_rfl
theorem told_cd (P : Params) : (ktop P).get 248 = some (o248 P) /\ X2_2 (fun vs tq => (o248 P).data = .fields vs) (fun vs tq => vs[1]? = some (.str "_law_told" tq)) := ⟨by kernel_rfl, _, 607, rfl, by kernel_rfl⟩
theorem rows_cd (P : Params) : (ktop P).get 243 = some (o243 P) /\ X2_2 (fun vs tq => (o243 P).data = .fields vs) (fun vs tq => vs[1]? = some (.str "_law_rows" tq)) := ⟨by kernel_rfl, _, 601, rfl, by kernel_rfl⟩
theorem book_cd (P : Params) : (ktop P).get 238 = some (o238 P) /\ X2_2 (fun vs tq => (o238 P).data = .fields vs) (fun vs tq => vs[1]? = some (.str "_law_book" tq)) := ⟨by kernel_rfl, _, 595, rfl, by kernel_rfl⟩
theorem law_cd (P : Params) : (ktop P).get 253 = some (o253 P) /\ X2_2 (fun vs tq => (o253 P).data = .fields vs) (fun vs tq => vs[1]? = some (.str "law" tq)) := ⟨by kernel_rfl, _, 613, rfl, by kernel_rfl⟩
theorem afs_cd (P : Params) : (ktop P).get 45 = some (o45 P) /\ X2_2 (fun vs tq => (o45 P).data = .fields vs) (fun vs tq => vs[1]? = some (.str "add_func_stats" tq)) := ⟨by kernel_rfl, _, 289, rfl, by kernel_rfl⟩
theorem ac_cd (P : Params) : (ktop P).get 52 = some (o52 P) /\ X2_2 (fun vs tq => (o52 P).data = .fields vs) (fun vs tq => vs[1]? = some (.str "add_callers" tq)) := ⟨by kernel_rfl, _, 308, rfl, by kernel_rfl⟩
section
variable {b1 b2 : Bool} {w : World} {h : Heap}
theorem Stat.codeRec (hs : Stat b1 b2 w h) {c : Nat} {o : Obj} {q : Str} (h1 : (ktop (wW b1 b2 w).params).get c = some o /\ X2_2 (fun vs tq => o.data = .fields vs) (fun vs tq => vs[1]? = some (.str q tq))) : h.CodeRec (.ref c) q := by
 obtain ⟨e, vs, tq, e1, e2⟩ := h1
 exact ⟨c, o, vs, tq, rfl, holds_iff.mp hs c o e, e1, e2⟩
theorem Stat.at (hs : Stat b1 b2 w h) {c : Nat} {o : Obj} (h1 : (ktop (wW b1 b2 w).params).get c = some o) : h.get? c = some o := holds_iff.mp hs c o h1
end
theorem enter {b1 b2 : Bool} {w : World} {A : Around} {s : Shared} {R : Result -> Shared -> Prop} {a : Nat} {o : Obj} {st : Stmt} {name : Str} {doc pm : Value} {code : Nat} {vals : List Value} {binds : List (Str × Value)}
  (hA : A.depth < recursionLimit) (hs : Stat b1 b2 w s.heap) (ho : (ktop (wW b1 b2 w).params).get a = some o /\ o.data = .func (mkFd st name doc pm code)) {oc : Obj}
  (hc : (ktop (wW b1 b2 w).params).get code = some oc /\ X2_2 (fun vs tq => oc.data = .fields vs) (fun vs tq => vs[1]? = some (.str name tq)))
  (hbind : bindArgs (mkFd st name doc pm code) ⟨vals, []⟩ = pure binds)
  (hkind : ∀ x ∈ binds, (scopeOf st).names.lookup x.1 = some .local \/ ((scopeOf st).names.lookup x.1 = some .cell /\ ((cellsFrom (s.heap.objs.size + 1) (scopeOf st).names []).lookup x.1).isSome = true))
  (hco : (scopeOf st).isCoroutine = false) (hgen : (scopeOf st).isGenerator = false) (hk : (scopeOf st).kind = .function)
  (h : ∀ s₁, InCallC s (callEnvC (mkFd st name doc pm code) s.heap.objs.size a).locals (bindL (callEnvC (mkFd st name doc pm code) s.heap.objs.size a).kindOf binds fun _ => none) (callEnvC (mkFd st name doc pm code) s.heap.objs.size a).cells
    (bindC (callEnvC (mkFd st name doc pm code) s.heap.objs.size a).kindOf binds fun _ => none) s₁ ->
   wpAny (model theProg (wW b1 b2 w)) (A.deeper (callEnvC (mkFd st name doc pm code) s.heap.objs.size a)) (execs (bodyOf st) (callEnvC (mkFd st name doc pm code) s.heap.objs.size a)) (fun f s' => R (.ok (.ret (match f with | .ret v => v | _ => .none))) s')
    (fun e s' => wpAny (model theProg (wW b1 b2 w)) (A.deeper (callEnvC (mkFd st name doc pm code) s.heap.objs.size a)) (leaving (callEnvC (mkFd st name doc pm code) s.heap.objs.size a) e) (fun _ s'' => R (.error e) s'') (fun e' s'' => R (.error e') s'') s') s₁) :
  codeAny (model theProg (wW b1 b2 w)) A (.call (.ref a) ⟨vals, []⟩) R s :=
 codeAny_call_cells (fd := mkFd st name doc pm code) (body := bodyOf st) hA (hs.at ho.1) ho.2 hs.limit (hs.codeRec hc) rfl hbind rfl hkind h hco hgen hk
structure Src (prog : Program) (w : World) (A : Around) (tg : Expr) (it : Value) (fp wr : List Nat) (n : Nat) (St : Nat -> Heap -> Prop) (P : Nat -> Value -> Heap -> Prop) : Prop where
 sub : ∀ b ∈ wr, b ∈ fp
 frame : ∀ i h h', St i h -> (∀ b ∈ fp, ∀ o, h.get? b = some o -> h'.get? b = some o) -> St i h'
 alive : ∀ i h, St i h -> ∀ b ∈ fp, ∃ o, h.get? b = some o
 item : ∀ i (s : Shared) (Q : Value -> Shared -> Prop) (E : Value -> Shared -> Prop), i < n -> St i s.heap -> (∀ v s', Gr wr s s' -> St (i + 1) s'.heap -> P i v s'.heap -> Q v s') ->
  wpAny (model prog w) A (pyNext it) (fun r s₁ => ∃ v, r = some v /\ wpAny (model prog w) A (letOwnedTupleGo tg it v) (fun _ s₂ => Q v s₂) E s₁) E s
 done : ∀ (s : Shared) (Q : Shared -> Prop) (E : Value -> Shared -> Prop), St n s.heap -> (∀ s', Gr wr s s' -> Q s') -> wpAny (model prog w) A (pyNext it) (fun r s₁ => r = none /\ Q s₁) E s
 self : ∀ i (s : Shared) (Q : Value -> Shared -> Prop) (E : Value -> Shared -> Prop), St i s.heap -> Q it s -> wpAny (model prog w) A (pyIter it) Q E s
section
variable {prog : Program} {w : World} {A : Around} {E : Value -> Shared -> Prop} {s : Shared}
theorem go_owner {tg : Expr} {I : Nat} {v : Value} {o : Obj} {n : String} {Q : Unit -> Shared -> Prop} (ho : s.heap.get? I = some o) (hc : o.cls = .type n)
  (hn : (["enumerate", "zip", "dict_itemiterator", "dict_reverseitemiterator", "odict_iterator", "itertools.zip_longest", "itertools.pairwise"].contains n) = false) (hQ : Q () s) :
  wpAny (model prog w) A (letOwnedTupleGo tg (.ref I) v) Q E s := by
 have key : ∀ a, wpAny (model prog w) A (do
   let o <- load I
   match o.cls, o.data with
   | .type n, .fields vs =>
    if ["enumerate", "zip", "dict_itemiterator", "dict_reverseitemiterator", "odict_iterator", "itertools.zip_longest", "itertools.pairwise"].contains n && vs[0]? == some (rawInt a) then
     rule "for.unpacks-the-owned-tuple"
     updateField I 0 .none
   | _, _ => pure ()) Q E s := by
  intro a
  refine wpAny_bind (wpAny_load ho ?_)
  rw [hc]
  cases o.data with
  | fields vs =>
   dsimp only
   rw [hn, Bool.false_and]
   exact wpAny_pure hQ
  | _ => exact wpAny_pure hQ
 unfold letOwnedTupleGo
 cases tg with
 | Tuple => cases v with
  | ref a => exact key a
  | _ => exact wpAny_pure hQ
 | List => cases v with
  | ref a => exact key a
  | _ => exact wpAny_pure hQ
 | _ => exact wpAny_pure hQ
theorem srcList (hh : A.handled = none) (tg : Expr) (I ax : Nat) (hne : ax ≠ I) (items : Array Value) :
  Src prog w A tg (.ref I) [I, ax] [I] items.size (fun i h => h.IsListIter I ax i /\ h.IsList ax items) (fun i v _ => items[i]? = some v) where
 sub := fun b hb => by simp at hb; simp [hb]
 frame := fun _ _ _ st hk => ⟨st.1.at fun o e => hk I (by simp) o e, st.2.at fun o e => hk ax (by simp) o e⟩
 alive := fun i h st b hb => by
  replace hb := mr2 hb
  rcases hb with rfl | rfl
  ·obtain ⟨o, e, _⟩ := st.1; exact ⟨o, e⟩
  ·obtain ⟨o, e, _⟩ := st.2; exact ⟨o, e⟩
 item := fun i s Q E hi st hQ => by
  refine wpAny_pyNext_list_item st.1 st.2 (x := items[i]) (by simp [hi]) fun h' hit' hs' => ⟨_, rfl, ?_⟩
  obtain ⟨o, e, hc, _⟩ := id hit'
  exact go_owner (s := { s with heap := h' }) e hc (by decide) (hQ _ _ (gr_same (tk := s.toks) hs') ⟨hit', st.2.extBut hs'.extBut hne⟩ (by simp [hi]))
 done := fun s Q E st hQ => wpAny_pyNext_list_end hh st.1 st.2 (by simp) fun h' he' => ⟨rfl, hQ _ (gr_ext (tk := s.toks) fun b o hb e => he' b o hb e)⟩
 self := fun _ _ _ _ st hQ => wpAny_pyIter_listiter st.1 hQ
theorem srcTuple (hh : A.handled = none) (tg : Expr) (I ax : Nat) (hne : ax ≠ I) (items : Array Value) :
  Src prog w A tg (.ref I) [I, ax] [I] items.size (fun i h => h.IsTupleIter I ax i /\ h.IsTuple ax items) (fun i v _ => items[i]? = some v) where
 sub := fun b hb => by simp at hb; simp [hb]
 frame := fun _ _ _ st hk => ⟨st.1.at fun o e => hk I (by simp) o e, st.2.at fun o e => hk ax (by simp) o e⟩
 alive := fun i h st b hb => by
  replace hb := mr2 hb
  rcases hb with rfl | rfl
  ·obtain ⟨o, e, _⟩ := st.1; exact ⟨o, e⟩
  ·obtain ⟨o, e, _⟩ := st.2; exact ⟨o, e⟩
 item := fun i s Q E hi st hQ => by
  refine wpAny_pyNext_tuple_item st.1 st.2 (x := items[i]) (by simp [hi]) fun h' hit' hs' => ⟨_, rfl, ?_⟩
  obtain ⟨o, e, hc, _⟩ := id hit'
  exact go_owner (s := { s with heap := h' }) e hc (by decide) (hQ _ _ (gr_same (tk := s.toks) hs') ⟨hit', st.2.extBut hs'.extBut hne⟩ (by simp [hi]))
 done := fun s Q E st hQ => wpAny_pyNext_tuple_end hh st.1 st.2 (by simp) fun h' he' => ⟨rfl, hQ _ (gr_ext (tk := s.toks) fun b o hb e => he' b o hb e)⟩
 self := fun _ _ _ _ st hQ => wpAny_pyIter_tupleiter st.1 hQ
structure Fram (L : Nat) (cs : List (Str × Nat)) (m cm : Str -> Option Value) (s : Shared) : Prop where
 ns : s.heap.Ns L m
 cell : ∀ n c, cs.lookup n = some c -> s.heap.IsCell c (cm n)
 apart : cs.Pairwise fun x y => x.2 ≠ y.2
 above : ∀ n c, (n, c) ∈ cs -> L < c
noncomputable def frL (L : Nat) (cs : List (Str × Nat)) : List Nat := L :: cs.map (·.2)
theorem Fram.gr {L : Nat} {cs : List (Str × Nat)} {m cm : Str -> Option Value} {s s' : Shared} {own : List Nat} (F : Fram L cs m cm s) (G : Gr own s s') (h : ∀ a ∈ frL L cs, a ∉ own) : Fram L cs m cm s' :=
 ⟨F.ns.at' fun o e => G.keep _ o (h _ (.head _)) e, fun n c hc => by
  obtain ⟨o, e, d⟩ := F.cell n c hc
  exact ⟨o, G.keep _ o (h c (.tail _ (List.mem_map.mpr ⟨(n, c), PySem.mem_of_lookup hc, rfl⟩))) e, d⟩, F.apart, F.above⟩
theorem Fram.gr0 {L : Nat} {cs : List (Str × Nat)} {m cm : Str -> Option Value} {s s' : Shared} (F : Fram L cs m cm s) (G : Gr [] s s') : Fram L cs m cm s' := F.gr G fun _ _ h => nomatch h
theorem Fram.set {env : Env} {cs : List (Str × Nat)} {m cm : Str -> Option Value} {n : Str} {v : Value} {Q : Unit -> Shared -> Prop} (F : Fram env.locals cs m cm s) (hk : env.scope.kind = .function) (hl : env.kindOf n = some .local)
  (h : ∀ s', Gr [env.locals] s s' -> Fram env.locals cs (fun y => if y = n then some v else m y) cm s' -> Q () s') : wpAny (model prog w) A (storeName env n v) Q E s := by
 refine wpAny_storeName_local hl F.ns (fun h' hn' hs' => h _ (gr_same hs') ⟨hn', fun k c hc => (F.cell k c hc).sameBut hs' (Nat.ne_of_gt (F.above k c (PySem.mem_of_lookup hc))), F.apart, F.above⟩) (by rw [hk]; rfl)
theorem Fram.setC {env : Env} {cs : List (Str × Nat)} {m cm : Str -> Option Value} {n : Str} {c : Nat} {v : Value} {Q : Unit -> Shared -> Prop} (F : Fram env.locals cs m cm s) (hk : env.scope.kind = .function) (hl : env.kindOf n = some .cell)
  (hc : env.cells.lookup n = some c) (hc' : cs.lookup n = some c)
  (h : ∀ s', Gr [c] s s' -> Fram env.locals cs m (fun y => if y = n then some v else cm y) s' -> Q () s') : wpAny (model prog w) A (storeName env n v) Q E s := by
 have hLc := F.above n c (PySem.mem_of_lookup hc')
 refine wpAny_storeName_cell hk hl hc (F.cell n c hc') fun h' hx hs' => h _ (gr_same (tk := s.toks) hs') ⟨F.ns.sameBut hs' (Nat.ne_of_lt hLc), fun k c' hk' => ?_, F.apart, F.above⟩
 by_cases hkn : k = n
 ·subst hkn
  rw [hc'] at hk'; cases hk'
  simpa using hx
 ·rw [if_neg hkn]
  exact (F.cell k c' hk').sameBut hs' fun e => hkn (name_of_addr F.apart (PySem.mem_of_lookup hk') (e ▸ PySem.mem_of_lookup hc'))
theorem cellsFrom_app : ∀ (names : List (Str × NameKind)) (n : Nat) (cl acc : List (Str × Nat)), cellsFrom n names (acc ++ cl) = cellsFrom n names acc ++ cl
 | [], _, _, _ => rfl
 | (name, kind) :: r, n, cl, acc => by
  unfold cellsFrom
  split
  ·exact cellsFrom_app r (n + 1) cl ((name, n) :: acc)
  ·exact cellsFrom_app r n cl acc
theorem cellsFrom_cl (names : List (Str × NameKind)) (n : Nat) (cl : List (Str × Nat)) : cellsFrom n names cl = cellsFrom n names [] ++ cl := cellsFrom_app names n cl []
noncomputable def cEnv (scope : Scope) (cl : List (Str × Nat)) (C : Nat) (env : Env) : Env :=
 { scope := relabel scope env, locals := C, globals := env.globals, cells := cellsFrom (C + 1) scope.names [] ++ cl, qual := env.qual, func := none, code := env.code, frame := env.frame, builtins := env.builtins }
theorem ev_cenv {scope : Scope} {cl : List (Str × Nat)} {env : Env} {Q : Env -> Shared -> Prop}
  (h : ∀ s', Gr [] s s' -> Fram s.heap.objs.size (cellsFrom (s.heap.objs.size + 1) scope.names []) (fun _ => none) (fun _ => none) s' ->
   Q (newEnv scope s.heap.objs.size env.globals (cellsFrom (s.heap.objs.size + 1) scope.names [] ++ cl) env.qual none .none (some env) builtinsNs) s') :
  wpAny (model prog w) A (newFunctionEnv scope env.globals cl [] env.qual none .none (some env)) Q E s := by
 simp only [newFunctionEnv, Option.isSome_some, if_true]
 refine wpAny_bind (wpAny_alloc ?_)
 refine wpAny_bind (wpAny_layCells _ (fun name kind cells => by cases hkc : kind == NameKind.cell <;> simp [hkc]) _ _ _ _ ?_)
 have ok := cellsFrom_ok scope.names (s.heap.push { cls := .type "dict", data := .dict #[] }) (s.heap.objs.size + 1) [] ⟨fun _ _ hm => (nomatch hm), List.Pairwise.nil⟩ (by rw [Heap.size_push]; exact Nat.le_refl _)
 rw [Heap.size_push] at ok
 rw [show ({ s with heap := s.heap.push { cls := .type "dict", data := .dict #[] } } : Shared).heap.objs.size = s.heap.objs.size + 1 from Heap.size_push .., cellsFrom_cl]
 rw [List.forIn_nil]
 refine wpAny_bind (wpAny_pure (wpAny_pure (h _ (gr_keep (tk := s.toks) fun b o e => pushCells_keeps _ _ b o (Heap.get?_push_of_some _ e)) ⟨(Heap.Ns.new s.heap (.type "dict")).keeps (pushCells_keeps _ _), fun n c hc => (ok.empty n c (PySem.mem_of_lookup hc)).1, ok.apart, fun n c hm => (ok.empty n c hm).2⟩)))
theorem compLoop_any {elt tg iter : Expr} {ifs : List Expr} {scope : Scope} {pos : Pos} {it acc : Value} {env : Env} {R : Result -> Shared -> Prop} (I : Nat -> Shared -> Prop)
  (turn : ∀ n s, I n s -> wpAny (model prog w) A (pyNext it) (fun r s₁ => match r with
   | none => R (.ok .next) s₁
   | some v => wpAny (model prog w) A (letOwnedTupleGo tg it v) (fun _ s₁' => wpAny (model prog w) A (assign tg env v) (fun _ s₂ =>
     wpAny (model prog w) A (forIn ifs true fun c r => if r = true then do let ok <- isTrue c env (eval c env); pure (ForInStep.yield ok) else pure (ForInStep.yield r)) (fun ok s₃ =>
      if ok = true then wpAny (model prog w) A (eval elt env) (fun x s₄ =>
       wpAny (model prog w) A (call (.builtin "list.append") [acc, x]) (fun _ s₅ => ∃ m, m < n /\ I m s₅) (notedBy (model prog w) A env fun e s' => R (.error e) s') s₄) (notedBy (model prog w) A env fun e s' => R (.error e) s') s₃
      else ∃ m, m < n /\ I m s₃) (notedBy (model prog w) A env fun e s' => R (.error e) s') s₂) (notedBy (model prog w) A env fun e s' => R (.error e) s') s₁')
     (notedBy (model prog w) A env fun e s' => R (.error e) s') s₁) (notedBy (model prog w) A env fun e s' => R (.error e) s') s)
  (n : Nat) (h : I n s) : codeAny (model prog w) A (.compLoop (.ListComp elt [⟨tg, iter, ifs, 0⟩] scope pos) 0 it acc env) R s := by
 refine codeAny_loop rfl I (fun n s hI => ?_) n h
 show wpAny _ A ((compTurn (.ListComp elt [⟨tg, iter, ifs, 0⟩] scope pos) 0 it acc env).onRaise (fun x => do noteFrame x env; theTreesLotGoes x)) _ _ s
 refine wpAny_noted ?_
 rw [compTurn_list]
 refine wpAny_bind (wpAny_standAt (wpAny_bind (wpAny_mono (turn n s hI) (fun r s₁ h₁ => ?_) fun _ _ h' => h')))
 rcases r with _ | _
 case none => exact wpAny_pure h₁
 case some v =>
  refine wpAny_bind (wpAny_mono h₁ (fun _ s₁' h₁' => ?_) fun _ _ h' => h')
  refine wpAny_bind (wpAny_mono h₁' (fun _ s₂ h₂ => wpAny_bind (wpAny_mono h₂ (fun ok s₃ h₃ => ?_) fun _ _ h' => h')) fun _ _ h' => h')
  rcases ok with _ | _
  case false => exact wpAny_pure ⟨rfl, h₃⟩
  case true =>
   exact wpAny_bind (wpAny_bind (wpAny_mono h₃ (fun x s₄ h₄ => wpAny_bind (wpAny_mono h₄ (fun _ s₅ h₅ => wpAny_pure (wpAny_pure ⟨rfl, h₅⟩)) fun _ _ h' => h')) fun _ _ h' => h'))
end
section
variable {prog : Program} {w : World} {A : Around} {E : Value -> Shared -> Prop} {s : Shared}
noncomputable abbrev testsOf (ifs : List Expr) (env : Env) : Sem Bool := forIn ifs true fun c r => if r = true then do let ok <- isTrue c env (eval c env); pure (ForInStep.yield ok) else pure (ForInStep.yield r)
theorem frL_above {L : Nat} {cs : List (Str × Nat)} {m cm : Str -> Option Value} (F : Fram L cs m cm s) : ∀ a ∈ frL L cs, L <= a := by
 intro a ha
 rcases mD ha with rfl | ha
 ·exact Nat.le_refl _
 ·obtain ⟨⟨n, c⟩, hm, rfl⟩ := List.mem_map.mp ha
  exact Nat.le_of_lt (F.above n c hm)
noncomputable def CompTurnX (tx : List Nat) (prog : Program) (w : World) (A : Around) (env : Env) (scope : Scope) (cl : List (Str × Nat)) (tg elt : Expr) (ifs : List Expr) (wr ex : List Nat) (n : Nat) (P : Nat -> Value -> Heap -> Prop)
  (J : List Nat -> Nat -> List Value -> Shared -> Prop) (s₂ : Shared) : Prop :=
 ∀ own i ys v C s₃ m cm, i < n -> s₂.heap.objs.size <= C -> (∀ a ∈ own, ∃ o, s₃.heap.get? a = some o) -> (∀ a ∈ own, a ∈ ex \/ a ∈ wr \/ s₂.heap.get? a = none) -> (∀ a ∈ frL C (cellsFrom (C + 1) scope.names []), a ∈ own) -> J own i ys s₃ ->
  (∀ b o, b ∉ tx ++ wr -> s₂.heap.get? b = some o -> s₃.heap.get? b = some o) -> Fram C (cellsFrom (C + 1) scope.names []) m cm s₃ -> P i v s₃.heap -> ∀ E',
  wpAny (model prog w) A (assign tg (cEnv scope cl C env) v) (fun _ s₄ => wpAny (model prog w) A (testsOf ifs (cEnv scope cl C env)) (fun ok s₅ =>
   if ok = true then wpAny (model prog w) A (eval elt (cEnv scope cl C env)) (fun y s₆ => Gr (tx ++ frL C (cellsFrom (C + 1) scope.names [])) s₃ s₆ /\ J own (i + 1) (ys ++ [y]) s₆ /\ ∃ m' cm', Fram C (cellsFrom (C + 1) scope.names []) m' cm' s₆) E' s₅
   else Gr (tx ++ frL C (cellsFrom (C + 1) scope.names [])) s₃ s₅ /\ J own (i + 1) ys s₅ /\ ∃ m' cm', Fram C (cellsFrom (C + 1) scope.names []) m' cm' s₅) E' s₄) E' s₃
noncomputable abbrev CompTurn := CompTurnX []
theorem comp_coreX {tx : List Nat} {env : Env} {elt tg iter : Expr} {ifs : List Expr} {scope : Scope} {pos : Pos} {cl : List (Str × Nat)} {it : Value} {s₂ : Shared} {fp wr ex : List Nat} {n : Nat} {St : Nat -> Heap -> Prop} {P : Nat -> Value -> Heap -> Prop} {RR : Value -> Nat -> Result -> Shared -> Prop}
  (hcs : ∀ L, (cellsFrom (L + 1) scope.names []).all (fun p => (cellsFrom (L + 1) scope.names []).lookup p.1 == some p.2) = true)
  (J : List Nat -> Nat -> List Value -> Shared -> Prop) (hJ : ∀ own own' i ys s s', J own i ys s -> (∀ a ∈ own', a ∈ own /\ a ∉ tx) -> Gr own' s s' -> J own i ys s')
  (S : Src prog w A tg it fp wr n St P) (hsz : n <= sizeLine) (hst : St 0 s₂.heap) (hJ0 : ∀ own, (∀ a ∈ own, a ∈ ex \/ a ∈ wr \/ s₂.heap.get? a = none) -> J own 0 [] s₂) (hex : ∀ a ∈ ex, ∃ o, s₂.heap.get? a = some o)
  (htx : ∀ a ∈ tx, a ∈ ex /\ a ∉ fp) (hJtx : ∀ own i ys s, J own i ys s -> ∀ a ∈ tx, ∃ o, s.heap.get? a = some o) (hturn : CompTurnX tx prog w A env scope cl tg elt ifs wr ex n P J s₂)
  (hend : ∀ own D C m ys s', (∀ a ∈ ex, a ∈ own) -> D ∈ own -> C ∈ own -> C ∉ tx -> J own n ys s' -> s₂.heap.get? D = none -> s₂.heap.get? C = none -> D ≠ C -> s'.heap.Ns C m -> s'.heap.PlainList D ys.toArray -> ys.length <= n -> Gr (tx ++ wr) s₂ s' -> RR (.ref D) C (.ok .next) s') :
  wpAny (model prog w) A (newList []) (fun acc s₃ => wpAny (model prog w) A (newFunctionEnv scope env.globals cl [] env.qual none .none (some env)) (fun cenv s₄ =>
   codeAny (model prog w) A (.compStart (.ListComp elt [⟨tg, iter, ifs, 0⟩] scope pos) 0 it acc { cenv with scope := relabel scope env }) (RR acc cenv.locals) s₄) E s₃) E s₂ := by
 refine wpAny_newObj_type ?_
 generalize hs3 : ({ s₂ with heap := s₂.heap.push { cls := .type "list", data := .seq ([] : List Value).toArray } } : Shared) = s₃
 have hC : s₃.heap.objs.size = s₂.heap.objs.size + 1 := by rw [<- hs3]; exact Heap.size_push ..
 have hD3 : s₃.heap.PlainList s₂.heap.objs.size #[] := by rw [<- hs3]; exact ⟨0, Heap.get?_push_size _ rfl⟩
 have G3 : Gr [] s₂ s₃ := by rw [<- hs3]; exact gr_push (tk := s₂.toks)
 refine ev_cenv fun s₄ G4 F4 => ?_
 generalize hCe : s₃.heap.objs.size = C at F4 ⊢
 generalize hcse : cellsFrom (C + 1) scope.names [] = cs at F4 ⊢
 generalize hDe : s₂.heap.objs.size = D at hD3 hC ⊢
 show codeAny _ A (.compStart (.ListComp elt [⟨tg, iter, ifs, 0⟩] scope pos) 0 it (.ref D) { cEnv scope cl C env with cells := cs ++ cl }) (RR (.ref D) C) s₄
 have hce : ({ cEnv scope cl C env with cells := cs ++ cl } : Env) = cEnv scope cl C env := by rw [<- hcse]; rfl
 rw [hce]
 have hDC : D < C := by lia
 have hnew : ∀ a, D <= a -> s₂.heap.get? a = none := fun a ha => new_at (by lia)
 have hfr : ∀ a ∈ frL C cs, s₂.heap.get? a = none /\ D ≠ a := fun a ha => by have := frL_above F4 a ha; exact ⟨hnew a (by lia), by lia⟩
 have hfp : ∀ a ∈ fp, s₂.heap.get? a ≠ none := fun a ha e => by obtain ⟨o, ho⟩ := S.alive 0 _ hst a ha; rw [ho] at e; cases e
 have hDfp : D ∉ fp := fun hm => hfp D hm (hnew D (Nat.le_refl _))
 have hfrfp : ∀ a ∈ frL C cs, a ∉ fp := fun a ha hm => hfp a hm (hfr a ha).1
 have hDfr : D ∉ frL C cs := fun hm => (hfr D hm).2 rfl
 have hDwr : D ∉ wr := fun hm => hDfp (S.sub _ hm)
 have hfrwr : ∀ a ∈ frL C cs, a ∉ wr := fun a ha hm => hfrfp a ha (S.sub _ hm)
 have G24 : Gr [] s₂ s₄ := G3.trans G4
 have hcs' : ∀ p ∈ cs, cs.lookup p.1 = some p.2 := fun p hp => by
  have := hcs C
  rw [hcse] at this
  exact eq_of_beq (List.all_eq_true.mp this p hp)
 have hDtx : D ∉ tx := fun hm => by obtain ⟨o, e⟩ := hex D (htx D hm).1; rw [hnew D (Nat.le_refl _)] at e; cases e
 let core : List Nat := D :: (frL C cs ++ (tx ++ wr))
 let own : List Nat := core ++ ex
 have inD : D ∈ core := .head _
 have inF : ∀ a ∈ frL C cs, a ∈ core := fun a ha => List.mem_cons_of_mem _ (List.mem_append_left _ ha)
 have inW : ∀ a ∈ wr, a ∈ core := fun a ha => List.mem_cons_of_mem _ (List.mem_append_right _ (List.mem_append_right _ ha))
 have inT : ∀ a ∈ tx, a ∈ core := fun a ha => List.mem_cons_of_mem _ (List.mem_append_right _ (List.mem_append_left _ ha))
 have inO : ∀ a ∈ core, a ∈ own := fun a ha => List.mem_append_left _ ha
 have hox : ∀ a ∈ own, a ∈ ex \/ a ∈ wr \/ s₂.heap.get? a = none := by
  intro a ha
  rcases List.mem_append.mp ha with ha | hx
  ·rcases mC ha with e | ha
   ·rw [e]; exact .inr (.inr (hnew _ (Nat.le_refl _)))
   rcases List.mem_append.mp ha with ha | ha
   ·exact .inr (.inr (hfr a ha).1)
   ·rcases List.mem_append.mp ha with ha | ha
    ·exact .inl (htx a ha).1
    ·exact .inr (.inl ha)
  ·exact .inl hx
 have wO : ∀ a ∈ wr, a ∈ own /\ a ∉ tx := fun a ha => ⟨inO a (inW a ha), fun h => (htx a h).2 (S.sub a ha)⟩
 have dO : ∀ a ∈ [D], a ∈ own /\ a ∉ tx := fun a ha => by rw [mS ha]; exact ⟨inO _ inD, hDtx⟩
 have loop : codeAny (model prog w) A (.compLoop (.ListComp elt [⟨tg, iter, ifs, 0⟩] scope pos) 0 it (.ref D) (cEnv scope cl C env)) (RR (.ref D) C) s₄ := by
  refine compLoop_any (fun k s' => X4_8 (fun i ys m cm => St i s'.heap) (fun i ys m cm => s'.heap.PlainList D ys.toArray) (fun i ys m cm => Fram C cs m cm s') (fun i ys m cm => J own i ys s') (fun i ys m cm => i <= n) (fun i ys m cm => ys.length <= i) (fun i ys m cm => k = n + 1 - i) (fun i ys m cm => Gr core s₂ s')) ?_ (n + 1)
   ⟨0, [], _, _, S.frame 0 _ _ hst (fun b _ o e => G24.k b o e), hD3.at fun o e => G4.k D o e, F4, hJ _ [] _ _ _ _ (hJ0 own hox) (fun _ h => nomatch h) G24, Nat.zero_le _, Nat.zero_le _, rfl, G24.nil⟩
  rintro k s' ⟨i, ys, m, cm, hSt, hpl, hF, hJi, hi, hlen, rfl, hG⟩
  by_cases hlt : i < n
  ·refine wpAny_mono (S.item i s' (fun v s₅ => Gr wr s' s₅ /\ St (i + 1) s₅.heap /\ P i v s₅.heap) _ hlt hSt fun v s₅ g st p => ⟨g, st, p⟩) (fun r s₁ h₁ => ?_) fun _ _ e => e
   obtain ⟨v, rfl, h₁⟩ := h₁
   refine wpAny_mono h₁ (fun _ s₅ h₅ => ?_) fun _ _ e => e
   obtain ⟨g5, st5, p5⟩ := h₅
   have F5 : Fram C cs m cm s₅ := hF.gr g5 hfrwr
   have pl5 : s₅.heap.PlainList D ys.toArray := hpl.at fun o e => g5.keep D o hDwr e
   have hG5 : Gr core s₂ s₅ := hG.trans (g5.widen inW)
   have keep5 : ∀ b o, b ∉ tx ++ wr -> s₂.heap.get? b = some o -> s₅.heap.get? b = some o := fun b o hb e => hG5.keep b o (fun hm => by
    rcases mD hm with rfl | hm
    ·rw [hnew _ (Nat.le_refl _)] at e; cases e
    rcases List.mem_append.mp hm with hm | hm
    ·rw [(hfr b hm).1] at e; cases e
    ·exact hb hm) e
   have j5 := hJ _ _ _ _ _ _ hJi wO g5
   have htx5 := hJtx _ _ _ _ j5
   have hown5 : ∀ a ∈ own, ∃ o, s₅.heap.get? a = some o := by
    intro a ha
    rcases List.mem_append.mp ha with ha | hx
    ·rcases mD ha with rfl | ha
     ·obtain ⟨_, e⟩ := pl5; exact ⟨_, e⟩
     rcases List.mem_append.mp ha with ha | ha
     ·rcases mD ha with rfl | ha
      ·obtain ⟨o, _, _, e, _⟩ := F5.ns; exact ⟨o, e⟩
      ·obtain ⟨p, hp, rfl⟩ := List.mem_map.mp ha
       obtain ⟨o, e, _⟩ := F5.cell p.1 p.2 (hcs' p hp); exact ⟨o, e⟩
     ·rcases List.mem_append.mp ha with ha | ha
      ·exact htx5 a ha
      ·exact S.alive _ _ st5 a (S.sub _ ha)
    ·by_cases hw : a ∈ wr
     ·exact S.alive _ _ st5 a (S.sub _ hw)
     ·by_cases ht : a ∈ tx
      ·exact htx5 a ht
      ·obtain ⟨o, e⟩ := hex a hx
       exact ⟨o, keep5 a o (fun hm => (List.mem_append.mp hm).elim ht hw) e⟩
   subst hcse
   have next : ∀ s₆, Gr (tx ++ frL C (cellsFrom (C + 1) scope.names [])) s₅ s₆ -> St (i + 1) s₆.heap /\ s₆.heap.PlainList D ys.toArray /\ Gr core s₂ s₆ := fun s₆ g6 =>
    ⟨S.frame _ _ _ st5 fun b hb o e => g6.keep b o (fun hm => (List.mem_append.mp hm).elim (fun h => (htx b h).2 hb) fun h => hfrfp b h hb) e, pl5.at fun o e => g6.keep D o (fun hm => (List.mem_append.mp hm).elim hDtx hDfr) e, hG5.trans (g6.widen fun a ha => (List.mem_append.mp ha).elim (inT a) (inF a))⟩
   refine wpAny_mono (hturn own i ys v C s₅ m cm hlt (by lia) hown5 hox (fun a ha => inO a (inF a ha)) j5 keep5 F5 p5 _) (fun _ s₄' h4 => ?_) fun _ _ e => e
   refine wpAny_mono h4 (fun ok s₆ h6 => ?_) fun _ _ e => e
   rcases ok with _ | _
   case false =>
    simp only [Bool.false_eq_true, if_false] at h6 ⊢
    obtain ⟨g6, j6, m', cm', f6⟩ := h6
    obtain ⟨a1, a2, a3⟩ := next s₆ g6
    exact ⟨n + 1 - (i + 1), by lia, i + 1, ys, m', cm', a1, a2, f6, j6, hlt, by lia, rfl, a3⟩
   case true =>
    simp only [if_true] at h6 ⊢
    refine wpAny_mono h6 (fun y s₇ h7 => ?_) fun _ _ e => e
    obtain ⟨g6, j6, m', cm', f6⟩ := h7
    obtain ⟨a1, a2, a3⟩ := next s₇ g6
    refine wpAny_list_append_plain (hsz := by rw [List.size_toArray]; lia) a2 fun h₈ hl₈ hs₈ => ?_
    have g8 : Gr [D] s₇ { s₇ with heap := h₈ } := gr_same (tk := s₇.toks) hs₈
    refine ⟨n + 1 - (i + 1), by lia, i + 1, ys ++ [y], m', cm', S.frame _ _ _ a1 fun b hb o e => hs₈.extBut b o (fun q => hDfp (q ▸ hb)) e, by simpa using hl₈, f6.gr g8 fun a ha hm => ?_, hJ _ _ _ _ _ _ j6 dO g8, hlt, by simp; lia, rfl,
     a3.trans (g8.widen fun a ha => by rw [mS ha]; exact inD)⟩
    rw [mS hm] at ha
    exact hDfr ha
  ·have hin : i = n := by lia
   subst hin
   refine wpAny_mono (S.done s' (fun s₅ => Gr wr s' s₅) _ hSt fun s₅ g => g) (fun r s₅ h₅ => ?_) fun _ _ e => e
   obtain ⟨rfl, g5⟩ := h₅
   have F5 : Fram C cs m cm s₅ := hF.gr g5 hfrwr
   refine hend own D C m ys s₅ (fun a ha => List.mem_append_right _ ha) (inO _ inD) (inO _ (inF _ (.head _))) (fun hm => by obtain ⟨o, e⟩ := hex C (htx C hm).1; rw [(hfr C (.head _)).1] at e; cases e) (hJ _ _ _ _ _ _ hJi wO g5) (hnew D (Nat.le_refl _)) (hfr C (.head _)).1 (Nat.ne_of_lt hDC) F5.ns (hpl.at fun o e => g5.keep D o hDwr e) hlen
    ((hG.trans (g5.widen inW)).shrink fun a ha => ?_)
   rcases mD ha with rfl | ha
   ·exact .inr (hnew _ (Nat.le_refl _))
   rcases List.mem_append.mp ha with ha | ha
   ·exact .inr (hfr a ha).1
   ·exact .inl ha
 exact codeAny_compStart_list loop (S.self 0 _ _ _ (S.frame 0 _ _ hst (fun b _ o e => G24.k b o e)) loop)
noncomputable def CompAtX (tx : List Nat) (prog : Program) (w : World) (A : Around) (env : Env) (scope : Scope) (cl : List (Str × Nat)) (tg elt : Expr) (ifs : List Expr) (ex : List Nat) (K : List Nat -> Shared -> List Nat -> Nat -> List Value -> Shared -> Prop) (it : Value) (s₂ : Shared) : Prop :=
 ∃ J : List Nat -> Nat -> List Value -> Shared -> Prop, (∀ own own' i ys s s', J own i ys s -> (∀ a ∈ own', a ∈ own /\ a ∉ tx) -> Gr own' s s' -> J own i ys s') /\ X5_9 (fun fp wr n St P => Src prog w A tg it fp wr n St P) (fun fp wr n St P => n <= sizeLine) (fun fp wr n St P => St 0 s₂.heap) (fun fp wr n St P => (∀ own, (∀ a ∈ own, a ∈ ex \/ a ∈ wr \/ s₂.heap.get? a = none) -> J own 0 [] s₂)) (fun fp wr n St P => (∀ a ∈ ex, ∃ o, s₂.heap.get? a = some o)) (fun fp wr n St P => (∀ a ∈ tx, a ∈ ex /\ a ∉ fp)) (fun fp wr n St P => (∀ own i ys s, J own i ys s -> ∀ a ∈ tx, ∃ o, s.heap.get? a = some o)) (fun fp wr n St P => CompTurnX tx prog w A env scope cl tg elt ifs wr ex n P J s₂) (fun fp wr n St P => ∀ own D ys s', (∀ a ∈ ex, a ∈ own) -> D ∈ own -> J own n ys s' -> s₂.heap.get? D = none -> s'.heap.PlainList D ys.toArray -> ys.length <= n -> K wr s₂ own D ys s')
noncomputable def CompAt (prog : Program) (w : World) (A : Around) (env : Env) (scope : Scope) (cl : List (Str × Nat)) (tg elt : Expr) (ifs : List Expr) (ex : List Nat) (K : List Nat -> Shared -> List Nat -> Nat -> List Value -> Shared -> Prop) (it : Value) (s₂ : Shared) : Prop :=
 ∃ J : List Nat -> Nat -> List Value -> Shared -> Prop, (∀ own i ys s s', J own i ys s -> Gr own s s' -> J own i ys s') /\ X5_7 (fun fp wr n St P => Src prog w A tg it fp wr n St P) (fun fp wr n St P => n <= sizeLine) (fun fp wr n St P => St 0 s₂.heap) (fun fp wr n St P => (∀ own, J own 0 [] s₂)) (fun fp wr n St P => (∀ a ∈ ex, ∃ o, s₂.heap.get? a = some o)) (fun fp wr n St P => CompTurn prog w A env scope cl tg elt ifs wr ex n P J s₂) (fun fp wr n St P => ∀ own D ys s', (∀ a ∈ ex, a ∈ own) -> D ∈ own -> J own n ys s' -> s₂.heap.get? D = none -> s'.heap.PlainList D ys.toArray -> ys.length <= n -> K wr s₂ own D ys s')
theorem CompAt.x {env : Env} {scope : Scope} {cl : List (Str × Nat)} {tg elt : Expr} {ifs : List Expr} {ex : List Nat} {K : List Nat -> Shared -> List Nat -> Nat -> List Value -> Shared -> Prop} {it : Value} {s₂ : Shared} (h : CompAt prog w A env scope cl tg elt ifs ex K it s₂) : CompAtX [] prog w A env scope cl tg elt ifs ex K it s₂ := by
 obtain ⟨J, hJ, fp, wr, n, St, P, S, hsz, hst, hJ0, hex, hturn, hend⟩ := h
 exact ⟨J, fun own own' i ys s s' h h1 G => hJ own i ys s s' h (G.widen fun a ha => (h1 a ha).1), fp, wr, n, St, P, S, hsz, hst, fun own _ => hJ0 own, hex, (fun _ h => nomatch h), (fun _ _ _ _ _ _ h => nomatch h), hturn, hend⟩
theorem ev_comp {env : Env} {elt tg iter : Expr} {ifs : List Expr} {scope : Scope} {pos : Pos} {Q : Value -> Shared -> Prop} {cl : List (Str × Nat)} (ex : List Nat)
  (hclos : closureFor scope env = pure cl) (hkind : scope.kind = .function) (hnames : ∀ x ∈ scope.names, x.2 = .local -> scope.names.lookup x.1 = some .local)
  (hcs : ∀ L, (cellsFrom (L + 1) scope.names []).all (fun p => (cellsFrom (L + 1) scope.names []).lookup p.1 == some p.2) = true)
  (h : wpAny (model prog w) A (eval iter env) (fun x s₁ => wpAny (model prog w) A (pyIter x) (CompAt prog w A env scope cl tg elt ifs ex (fun wr s₂ own D ys s' => Gr wr s₂ s' -> Q (.ref D) s')) E s₁) E s)
  (hs : autoParam (∀ x, foldedSetIterable iter env x = pure x) byRfl) :
  wpAny (model prog w) A (eval (.ListComp elt [⟨tg, iter, ifs, 0⟩] scope pos) env) Q E s := by
 rw [eval_ListComp]
 refine wpAny_comprehension_free (use := none) rfl hs hclos hkind hnames (wpAny_mono h (fun x s₁ h₁ => wpAny_mono h₁ (fun it s₂ h₂ => ?_) fun _ _ e => e) fun _ _ e => e)
 obtain ⟨J, hJ, fp, wr, n, St, P, S, hsz, hst, hJ0, hex, hturn, hend⟩ := h₂
 refine comp_coreX (tx := []) (ex := ex) (RR := fun acc C => compPost (model prog w) A E none Q acc C) hcs J (fun own own' i ys s s' h h1 G => hJ own i ys s s' h (G.widen fun a ha => (h1 a ha).1)) S hsz hst (fun own _ => hJ0 own) hex (fun _ h => nomatch h) (fun _ _ _ _ _ _ h => nomatch h) hturn fun own D C m ys s' hxo hD hC _ hJn hD0 hC0 hDC hns hpl hlen hG => ?_
 refine ⟨m, hns, fun h' hs' => ?_⟩
 have g6 : Gr [C] s' { s' with heap := h' } := gr_same (tk := s'.toks) hs'
 exact hend own D ys _ hxo hD (hJ _ _ _ _ _ hJn (g6.widen fun a ha => by rw [mS ha]; exact hC)) hD0 (hpl.at fun o e => hs'.extBut D o hDC e) hlen
  (((hG.widen fun a ha => List.mem_cons_of_mem C ha).trans (g6.widen fun a ha => by rw [mS ha]; exact .head _)).shrink fun a ha => by
   rcases mD ha with rfl | ha
   ·exact .inr hC0
   ·exact .inl ha)
theorem asg_compX (tx : List Nat) {m cm : Str -> Option Value} {env : Env} {elt tg iter : Expr} {ifs : List Expr} {scope : Scope} {pos spos py : Pos} {y : Str} {Q : Flow -> Shared -> Prop} {cl : List (Str × Nat)} {cs : List (Str × Nat)} (ex : List Nat)
  (hsw : swapsWith (.ListComp elt [⟨tg, iter, ifs, 0⟩] scope pos) (some (.Name y py)) spos.line env = pure true) (hy : env.kindOf y = some .local) (hek : env.scope.kind = .function)
  (hclos : closureFor scope env = pure cl) (hkind : scope.kind = .function) (hnames : ∀ x ∈ scope.names, x.2 = .local -> scope.names.lookup x.1 = some .local)
  (hcs : ∀ L, (cellsFrom (L + 1) scope.names []).all (fun p => (cellsFrom (L + 1) scope.names []).lookup p.1 == some p.2) = true)
  (hL : env.locals ∈ ex) (hLtx : env.locals ∉ tx) (hcsO : ∀ p ∈ cs, cs.lookup p.1 = some p.2)
  (h : wpAny (model prog w) A (eval iter env) (fun x s₁ => wpAny (model prog w) A (pyIter x) (CompAtX tx prog w A env scope cl tg elt ifs ex (fun wr s₂ own D ys s' => Fram env.locals cs m cm s₂ /\ (∀ a ∈ frL env.locals cs, a ∉ tx ++ wr) /\
   (Gr (env.locals :: (tx ++ wr)) s₂ s' -> Fram env.locals cs (fun z => if z = y then some (.ref D) else m z) cm s' -> Q .next s'))) E s₁) E s)
  (hs : autoParam (∀ x, foldedSetIterable iter env x = pure x) byRfl) :
  wpAny (model prog w) A (PySem.exec (.Assign [.Name y py] (.ListComp elt [⟨tg, iter, ifs, 0⟩] scope pos) spos) env) Q E s := by
 rw [exec_Assign_Name_used _ _ _ _ hsw]
 refine wpAny_bind (wpAny_standAt (wpAny_bind ?_))
 show wpAny _ A (do let _ <- comprehension (.ListComp elt [⟨tg, iter, ifs, 0⟩] scope pos) scope env _ (newList []) false (eval iter env) (some (assign (.Name y py) env))) _ _ s
 refine wpAny_bind (wpAny_mono (wpAny_comprehension_free (use := some (assign (.Name y py) env)) (Q := fun _ s' => Q .next s') rfl hs hclos hkind hnames
  (wpAny_mono h (fun x s₁ h₁ => wpAny_mono h₁ (fun it s₂ h₂ => ?_) fun _ _ e => e) fun _ _ e => e)) (fun _ s' h' => wpAny_pure (wpAny_pure h')) fun _ _ e => e)
 obtain ⟨J, hJ, fp, wr, n, St, P, S, hsz, hst, hJ0, hex, htx, hJtx, hturn, hend⟩ := h₂
 refine comp_coreX (tx := tx) (ex := ex) (RR := fun acc C => compPost (model prog w) A E (some (assign (.Name y py) env)) (fun _ s' => Q .next s') acc C) hcs J hJ S hsz hst hJ0 hex htx hJtx hturn fun own D C m' ys s' hxo hD hC hCtx hJn hD0 hC0 hDC hns hpl hlen hG => ?_
 show wpAny _ A (assign (.Name y py) env (.ref D)) _ _ s'
 have key : ∀ s₆, Gr [env.locals, C] s' s₆ -> Gr (env.locals :: (tx ++ wr)) s₂ s₆ := fun s₆ g => ((hG.widen fun a ha => List.mem_cons_of_mem C (List.mem_cons_of_mem _ ha)).trans (g.widen fun a ha => by
   rcases mD ha with rfl | ha
   ·exact List.mem_cons_of_mem _ (.head _)
   ·rw [mS ha]; exact .head _)).shrink fun a ha => by
   rcases mD ha with rfl | ha
   ·exact .inr hC0
   ·exact .inl ha
 have hLC : env.locals ≠ C := fun e => by obtain ⟨o, ho⟩ := hex _ hL; rw [e, hC0] at ho; cases ho
 have hLD : D ≠ env.locals := fun e => by obtain ⟨o, ho⟩ := hex _ hL; rw [<- e, hD0] at ho; cases ho
 have fin := fun s₆ (g : Gr [env.locals, C] s' s₆) => hend own D ys s₆ hxo hD (hJ _ _ _ _ _ _ hJn (fun a ha => by
   rcases mD ha with rfl | ha
   ·exact ⟨hxo _ hL, hLtx⟩
   ·rw [mS ha]; exact ⟨hC, hCtx⟩) g) hD0 (hpl.at fun o e => g.keep D o (fun hm => by
   rcases mC hm with e' | hm
   ·exact hLD e'
   ·exact hDC (mS hm)) e) hlen
 obtain ⟨F, hFw, _⟩ := fin s' (.refl _)
 have F' : Fram env.locals cs m cm s' := F.gr hG hFw
 have hCn : ∀ a ∈ frL env.locals cs, a ≠ C := fun a ha e => by
  subst e
  rcases mC ha with e | ha
  ·exact hLC e.symm
  ·obtain ⟨p, hp, e⟩ := List.mem_map.mp ha
   obtain ⟨o, ho, _⟩ := F.cell p.1 p.2 (hcsO p hp)
   rw [e, hC0] at ho; cases ho
 refine wpAny_assign_Name (F'.set hek hy fun s₅ g5 F5 => ?_)
 refine ⟨m', hns.at' fun o e => g5.keep C o (fun hm => hLC (mS hm).symm) e, fun h₆ hs₆ => ?_⟩
 have g6 : Gr [C] s₅ { s₅ with heap := h₆ } := gr_same (tk := s₅.toks) hs₆
 have F6 : Fram env.locals cs (fun z => if z = y then some (.ref D) else m z) cm { s₅ with heap := h₆ } := F5.gr g6 fun a ha hm => hCn a ha (mS hm)
 have g7 := (g5.widen (own' := [env.locals, C]) fun a ha => by rw [mS ha]; exact .head _).trans (g6.widen fun a ha => by rw [mS ha]; exact .tail _ (.head _))
 exact (fin _ g7).2.2 (key _ g7) F6
theorem asg_comp {m cm : Str -> Option Value} {env : Env} {elt tg iter : Expr} {ifs : List Expr} {scope : Scope} {pos spos py : Pos} {y : Str} {Q : Flow -> Shared -> Prop} {cl : List (Str × Nat)} {cs : List (Str × Nat)} (ex : List Nat)
  (hsw : swapsWith (.ListComp elt [⟨tg, iter, ifs, 0⟩] scope pos) (some (.Name y py)) spos.line env = pure true) (hy : env.kindOf y = some .local) (hek : env.scope.kind = .function)
  (hclos : closureFor scope env = pure cl) (hkind : scope.kind = .function) (hnames : ∀ x ∈ scope.names, x.2 = .local -> scope.names.lookup x.1 = some .local)
  (hcs : ∀ L, (cellsFrom (L + 1) scope.names []).all (fun p => (cellsFrom (L + 1) scope.names []).lookup p.1 == some p.2) = true)
  (hL : env.locals ∈ ex) (hcsO : ∀ p ∈ cs, cs.lookup p.1 = some p.2)
  (h : wpAny (model prog w) A (eval iter env) (fun x s₁ => wpAny (model prog w) A (pyIter x) (CompAt prog w A env scope cl tg elt ifs ex (fun wr s₂ own D ys s' => Fram env.locals cs m cm s₂ /\ (∀ a ∈ frL env.locals cs, a ∉ wr) /\
   (Gr (env.locals :: wr) s₂ s' -> Fram env.locals cs (fun z => if z = y then some (.ref D) else m z) cm s' -> Q .next s'))) E s₁) E s)
  (hs : autoParam (∀ x, foldedSetIterable iter env x = pure x) byRfl) :
  wpAny (model prog w) A (PySem.exec (.Assign [.Name y py] (.ListComp elt [⟨tg, iter, ifs, 0⟩] scope pos) spos) env) Q E s :=
 asg_compX [] ex hsw hy hek hclos hkind hnames hcs hL (fun h => nomatch h) hcsO (wpAny_mono h (fun x s₁ h₁ => wpAny_mono h₁ (fun it s₂ h₂ => h₂.x) fun _ _ e => e) fun _ _ e => e) hs
end
section
variable {prog : Program} {w : World} {A : Around} {E : Value -> Shared -> Prop} {s : Shared} {env : Env}
theorem ev_local {cs : List (Str × Nat)} {m cm : Str -> Option Value} {x : Str} {pos : Pos} {v : Value} {Q : Value -> Shared -> Prop} (F : Fram env.locals cs m cm s) (hv : m x = some v) (h : Q v s)
  (hk : autoParam (env.scope.kind = .function) byRfl) (hl : autoParam (env.kindOf x = some .local) byRfl) (hd : (x == ("__debug__" : Str)) = false := by decide) : wpAny (model prog w) A (eval (.Name x pos) env) Q E s :=
 wpAny_Name (wpAny_loadName_local hk hl F.ns hv h) hd
theorem ev_cell {x : Str} {pos : Pos} {c : Nat} {v : Value} {Q : Value -> Shared -> Prop} (hc : env.cells.lookup x = some c) (hi : s.heap.IsCell c (some v)) (h : Q v s)
  (hk : autoParam (env.scope.kind = .function) byRfl) (hl : autoParam (env.kindOf x = some .cell) byRfl) (hd : (x == ("__debug__" : Str)) = false := by decide) : wpAny (model prog w) A (eval (.Name x pos) env) Q E s :=
 wpAny_Name (wpAny_loadName_cell hk hl hc hi h) hd
theorem ev_subC {value : Expr} {k : Nat} {kd : Nat} {p pos : Pos} {Q : Value -> Shared -> Prop} (hk : k < 2 ^ 62)
  (h : wpAny (model prog w) A (eval value env) (fun o s₁ => X3_4 (fun t vs v => o = .ref t) (fun t vs v => s₁.heap.IsTuple t vs) (fun t vs v => vs[k]? = some v) (fun t vs v => ∀ tk, Q v { s₁ with toks := tk })) E s)
  (ht : autoParam (∀ o r, letTemporaryGo value o r = pure ()) byRfl) : wpAny (model prog w) A (eval (.Subscript value (.Constant (.int (k : Int)) kd p) pos) env) Q E s := by
 refine wpAny_Subscript_Constant_late (wpAny_mono h (fun o s₁ h₁ => ?_) fun _ _ e => e) ht
 obtain ⟨t, vs, v, rfl, hT, hv, hQ⟩ := h₁
 have hlt : k < vs.size := by
  rcases Nat.lt_or_ge k vs.size with q | q
  ·exact q
  ·rw [Array.getElem?_eq_none q] at hv; cases hv
 refine wpAny_Constant_int ⟨"tuple", _, PyProof.Rows.slot_tuple_getitem.lookup, ?_, PyProof.Rows.getItem_tuple (j := k) hT ?_ ?_ ?_ hv (hQ _)⟩
 ·obtain ⟨o, e, hc, _⟩ := hT
  exact ⟨o, e, hc⟩
 ·lia
 ·lia
 ·unfold seqIndex?
  have h0 : ¬ ((k : Int) < 0) := by lia
  simp [h0, hlt]
end
section
variable {b1 b2 : Bool} {w : World} {A : Around} {E : Value -> Shared -> Prop} {s : Shared} {env : Env}
theorem ev_glob {x : Str} {pos : Pos} {v : Value} {Q : Value -> Shared -> Prop} (hs : Stat b1 b2 w s.heap) (hg : globOf (wW b1 b2 w).params x = some v) (h : Q v s)
  (hk : autoParam (env.scope.kind = .function) byRfl) (hx : autoParam (env.kindOf x = some .globalImplicit) byRfl) (h3 : autoParam (env.globals = 3) byRfl) (hd : (x == ("__debug__" : Str)) = false := by decide) : wpAny (model theProg (wW b1 b2 w)) A (eval (.Name x pos) env) Q E s :=
 Name_function_global hk hx (loadGlobal_global (by rw [h3]; exact hs.glob) hg h) hd
theorem ev_buil {x : Str} {pos : Pos} {v : Value} {Q : Value -> Shared -> Prop} (hs : Stat b1 b2 w s.heap) (hg : globOf (wW b1 b2 w).params x = none /\ builOf (wW b1 b2 w).params x = some v) (h : Q v s)
  (hk : autoParam (env.scope.kind = .function) byRfl) (hx : autoParam (env.kindOf x = some .globalImplicit) byRfl) (h3 : autoParam (env.globals = 3) byRfl) (h0 : autoParam (env.builtins = 0) byRfl) (hd : (x == ("__debug__" : Str)) = false := by decide) : wpAny (model theProg (wW b1 b2 w)) A (eval (.Name x pos) env) Q E s :=
 Name_function_global hk hx (loadGlobal_builtin (by rw [h3]; exact hs.glob) hg.1 (by rw [h0]; exact hs.buil) hg.2 h) hd
end
theorem str_beq (a b : Str) : (a.cps.toList == b.cps.toList) = decide (a = b) := by
 cases a; cases b
 rename_i x y
 by_cases h : x = y
 ·subst h; simp
 ·rw [decide_eq_false (by simpa using h)]
  simpa using fun e => h (Array.ext' e)
theorem StrsAre.lib {vs : List Value} {ss : List Str} (h : StrsAre vs ss) : PyProof.Rows.StrsAre vs ss := by
 induction h with
 | nil => exact .nil
 | cons _ ih => exact .cons _ _ ih
theorem StrsAre.any {vs : List Value} {ss : List Str} (h : StrsAre vs ss) (k : Str) : (vs.any fun v => Value.isStrOf k v) = ss.any fun x => decide (x = k) := by
 induction h with
 | nil => rfl
 | cons hr ih => rename_i y t vs ss; simp only [List.any_cons, ih]; congr 1
theorem StrsAre.mem {vs : List Value} {ss : List Str} (h : StrsAre vs ss) {v : Value} (hv : v ∈ vs) : ∃ x t, v = .str x t := by
 induction h with
 | nil => cases hv
 | cons hr ih =>
  rcases mD hv with rfl | hv
  ·exact ⟨_, _, rfl⟩
  ·exact ih hv
theorem StrsAre.snoc {vs : List Value} {ss : List Str} {x : Str} {t : Tok} (h : StrsAre vs ss) : StrsAre (vs ++ [.str x t]) (ss ++ [x]) := by
 induction h with
 | nil => exact .cons .nil
 | cons hr ih => exact .cons ih
theorem StrsAre.len {vs : List Value} {ss : List Str} (h : StrsAre vs ss) : vs.length = ss.length := by
 induction h with
 | nil => rfl
 | cons hr ih => simp [ih]
noncomputable def cat : List Str -> Str
 | [] => ""
 | x :: r => x ++ cat r
theorem join_cat : ∀ l : List Str, PySem.Str.join "" l = cat l
 | [] => rfl
 | [x] => by show x = x ++ ""; exact (PySem.Str.append_empty x).symm
 | x :: y :: r => by
  show x ++ "" ++ PySem.Str.join "" (y :: r) = x ++ cat (y :: r)
  rw [join_cat (y :: r)]
  congr 1
theorem glued_empty (l : List Str) : PySem.Txt.join "" l = cat l := by
 unfold PySem.Txt.join
 rw [StrLaws.glued_eq_join, join_cat l]
section
variable {prog : Program} {w : World} {A : Around} {E : Value -> Shared -> Prop} {s : Shared} {env : Env}
theorem cmpEq {a b : Str} {t u : Tok} {Q : Value -> Shared -> Prop} (h : Q (.bool (decide (a = b))) s) : wpAny (model prog w) A (compareOp .Eq (.str a t) (.str b u)) Q E s :=
 PySem.P.eq_str (by rw [str_beq]; exact h)
theorem cmpNe {a b : Str} {t u : Tok} {Q : Value -> Shared -> Prop} (h : Q (.bool (!decide (a = b))) s) : wpAny (model prog w) A (compareOp .NotEq (.str a t) (.str b u)) Q E s :=
 PySem.P.ne_str (by show Q (.bool (!(a.cps.toList == b.cps.toList))) s; rw [str_beq]; exact h)
theorem cmpInL {l : Nat} {items : Array Value} {ss : List Str} {k : Str} {t : Tok} {Q : Value -> Shared -> Prop} (hl : s.heap.IsList l items) (hi : StrsAre items.toList ss) (h : Q (.bool (ss.any fun x => decide (x = k))) s) :
  wpAny (model prog w) A (compareOp .In (.str k t) (.ref l)) Q E s := by
 refine PySem.SeqAt.in_listAt (Value.isStrOf k) hl (fun y hy => ?_) ?_
 ·obtain ⟨x, u, rfl⟩ := hi.mem (Array.mem_toList_iff.mpr hy)
  exact PySem.SeqAt.EqAt.str_str x u k t
 ·rw [<- Array.any_toList, hi.any]; exact h
theorem cmpInT {l : Nat} {items : Array Value} {ss : List Str} {k : Str} {t : Tok} {Q : Value -> Shared -> Prop} (hl : s.heap.IsTuple l items) (hi : StrsAre items.toList ss) (h : Q (.bool (ss.any fun x => decide (x = k))) s) :
  wpAny (model prog w) A (compareOp .In (.str k t) (.ref l)) Q E s := by
 refine PySem.SeqAt.in_tupleAt (Value.isStrOf k) hl (fun y hy => ?_) ?_
 ·obtain ⟨x, u, rfl⟩ := hi.mem (Array.mem_toList_iff.mpr hy)
  exact PySem.SeqAt.EqAt.str_str x u k t
 ·rw [<- Array.any_toList, hi.any]; exact h
theorem ev_join {arg : Expr} {kd : Nat} {p1 apos pos : Pos} {Q : Value -> Shared -> Prop} (hst : starEach [arg] env = [(false, eval arg env)]) (hline : (apos.endLine == pos.line) = true)
  (h : wpAny (model prog w) A (eval arg env) (fun v s₁ => X3_5 (fun D items ys => v = .ref D) (fun D items ys => s₁.heap.IsList D items) (fun D items ys => StrsAre items.toList ys) (fun D items ys => (ys.map (·.length)).sum + ys.length <= 1048576) (fun D items ys => ∀ t' k, Q (.str (cat ys) t') { s₁ with toks := k })) E { s with toks := s.toks + 1 }) :
  wpAny (model prog w) A (eval (.Call (.Attribute (.Constant (.str "") kd p1) "join" apos) [arg] [] pos) env) Q E s := by
 refine wpAny_Call_method (T := "str") rfl (by rw [hst]; rfl) hline F.plainAttrs_str F.slot_str_join F.type_str_join (wpAny_Constant_str ⟨typeIs_str _ _ _, (fun a e => by cases e), ?_⟩)
 rw [hst]
 refine callWith_builtin rfl (evalArgs_plain (spliced_cons (wpAny_mono h (fun v s₁ h₁ => spliced_nil ?_) fun _ _ e => e)))
 obtain ⟨D, items, ys, rfl, hl, hi, hw, hQ⟩ := h₁
 refine join_listW hl hi.lib (by decide) hw fun t' k => ?_
 rw [glued_empty]; exact hQ t' k
theorem ev_tupleOf {b1 b2 : Bool} {w : World} {arg : Expr} {np pos : Pos} {Q : Value -> Shared -> Prop} (hs : Stat b1 b2 w s.heap) (hst : starEach [arg] env = [(false, eval arg env)])
  (h : wpAny (model theProg (wW b1 b2 w)) A (eval arg env) (fun v s₁ => X2_4 (fun D items => v = .ref D) (fun D items => s₁.heap.IsList D items) (fun D items => items.size <= sizeLine) (fun D items => ∀ T s', Gr [] s₁ s' -> s₁.heap.get? T = none -> s'.heap.get? T = some (tup items) -> Q (.ref T) s')) E s)
  (hk : autoParam (env.scope.kind = .function) byRfl) (hx : autoParam (env.kindOf "tuple" = some .globalImplicit) byRfl) (h3 : autoParam (env.globals = 3) byRfl) (h0 : autoParam (env.builtins = 0) byRfl) :
  wpAny (model theProg (wW b1 b2 w)) A (eval (.Call (.Name "tuple" np) [arg] [] pos) env) Q E s := by
 refine wpAny_Call_ofName (ev_buil hs (bu_tuple _) ?_ hk hx h3 h0)
 rw [hst]
 refine PyProof.Rows.callWith_type rfl (evalArgs_plain (spliced_cons (wpAny_mono h (fun v s₁ h₁ => spliced_nil ?_) fun _ _ e => e)))
 obtain ⟨D, items, rfl, hl, hsz, hQ⟩ := h₁
 refine call_tuple_list (hsz := hsz) hl fun h' hk => ?_
 refine hQ _ _ (gr_keep (tk := s₁.toks) fun b o e => Heap.get?_push_of_some _ (hk b o e)) ?_ (Heap.get?_push_size _ rfl)
 cases q : s₁.heap.get? h'.objs.size with
 | none => rfl
 | some o => exact absurd (Heap.lt_size (hk _ _ q)) (Nat.lt_irrefl _)
theorem ev_rev {value : Expr} {p1 p2 p3 p4 : Pos} {kd : Nat} {Q : Value -> Shared -> Prop}
  (h : wpAny (model prog w) A (eval value env) (fun o s₁ => X2_4 (fun l vs => o = .ref l) (fun l vs => s₁.heap.IsList l vs) (fun l vs => vs.size <= sizeLine) (fun l vs => ∀ D s', Gr [] s₁ s' -> s₁.heap.get? D = none -> s'.heap.PlainList D vs.toList.reverse.toArray -> Q (.ref D) s')) E s)
  (ht : autoParam (∀ o r, letTemporaryGo value o r = pure ()) byRfl) :
  wpAny (model prog w) A (eval (.Subscript value (.Slice none none (some (.UnaryOp .USub (.Constant (.int 1) kd p1) p2)) p3) p4) env) Q E s := by
 refine wpAny_Subscript_Slice_step (T := "list") list_getitem_lookup (wpAny_mono h (fun o s₁ h₁ => ?_) fun _ _ e => e) ht
 obtain ⟨l, vs, rfl, hl, hsz, hQ⟩ := h₁
 refine wpAny_Slice ?_
 refine wpAny_evalPart_none (wpAny_evalPart_none (wpAny_evalPart_some (wpAny_UnaryOp (wpAny_Constant_int (PySem.P.neg_int ?_)))))
 have hl' : (s₁.heap.push { cls := .type "slice", data := .fields #[.none, .none, .int (-1) (s₁.toks + 1)] }).IsList l vs := hl.push _
 refine ⟨?_, ?_⟩
 ·obtain ⟨o, e, hc, _⟩ := hl'
  exact ⟨o, e, hc⟩
 ·refine wpAny_getItem_list_slice (hsz := hsz) (st := some (-1)) hl' (Heap.IsSliceOf.new ..) .none .none (.int _ _) (by decide) ?_
  rw [PySem.W.krv_pick]
  refine hQ _ _ (gr_keep (tk := s₁.toks + 1 + 1) fun b o e => Heap.get?_push_of_some _ (Heap.get?_push_of_some _ e)) (new_at ?_) ⟨0, Heap.get?_push_size _ rfl⟩
  rw [Heap.size_push]; exact Nat.le_succ _
end
section
variable {prog : Program} {w : World} {A : Around} {E : Value -> Shared -> Prop} {s : Shared} {env : Env}
noncomputable def ForAt (prog : Program) (w : World) (A : Around) (env : Env) (tg : Expr) (body : List Stmt) (Q : Flow -> Shared -> Prop) (it : Value) (s₂ : Shared) : Prop :=
 X5_3 (fun fp wr n St P => Src prog w A tg it fp wr n St P) (fun fp wr n St P => St 0 s₂.heap) (fun fp wr n St P => X1_4 (fun (I : Nat -> Shared -> Prop) => I 0 s₂) (fun (I : Nat -> Shared -> Prop) => (∀ i s s', I i s -> Gr wr s s' -> I i s')) (fun (I : Nat -> Shared -> Prop) => (∀ i v s₃, i < n -> I i s₃ -> (∀ b ∈ fp, ∃ o, s₃.heap.get? b = some o) -> P i v s₃.heap -> ∀ E', wpAny (model prog w) A (assign tg env v) (fun _ s₄ => wpAny (model prog w) A (execs body env) (fun f s₅ => (f = .next \/ f = .cont) /\ I (i + 1) s₅ /\ ∃ own, Gr own s₃ s₅ /\ ∀ b ∈ fp, b ∉ own) E' s₄) E' s₃)) (fun (I : Nat -> Shared -> Prop) => (∀ s', I n s' -> Q .next s')))
theorem ev_for {tg iter : Expr} {body : List Stmt} {pos : Pos} {Q : Flow -> Shared -> Prop}
  (h : wpAny (model prog w) A (eval iter env) (fun x s₁ => wpAny (model prog w) A (pyIter x) (ForAt prog w A env tg body Q) E s₁) E s)
  (hs : autoParam (∀ x, foldedSetIterable iter env x = pure x) byRfl) :
  wpAny (model prog w) A (PySem.exec (.For tg iter body [] pos) env) Q E s := by
 refine wpAny_For (wpAny_mono h (fun x s₁ h₁ => wpAny_mono h₁ (fun it s₂ h₂ => ?_) fun _ _ e => e) fun _ _ e => e) hs
 obtain ⟨fp, wr, n, St, P, S, hst, I, h0, hI, hturn, hend⟩ := h₂
 refine codeAny_forLoop_any (fun k s' => X1_4 (fun i => St i s'.heap) (fun i => I i s') (fun i => i <= n) (fun i => k = n + 1 - i)) ?_ (n + 1) ⟨0, hst, h0, Nat.zero_le _, rfl⟩
 rintro k s' ⟨i, hSt, hIi, hi, rfl⟩
 by_cases hlt : i < n
 ·refine wpAny_mono (S.item i s' (fun v s₅ => Gr wr s' s₅ /\ St (i + 1) s₅.heap /\ P i v s₅.heap) _ hlt hSt fun v s₅ g st p => ⟨g, st, p⟩) (fun r s₁ h₁ => ?_) fun _ _ e => e
  obtain ⟨v, rfl, h₁⟩ := h₁
  refine wpAny_mono h₁ (fun _ s₅ h₅ => ?_) fun _ _ e => e
  obtain ⟨g5, st5, p5⟩ := h₅
  refine wpAny_mono (hturn i v s₅ hlt (hI _ _ _ hIi g5) (S.alive _ _ st5) p5 _) (fun _ s₆ h₆ => wpAny_mono h₆ (fun f s₇ h₇ => ?_) fun _ _ e => e) fun _ _ e => e
  obtain ⟨hf, i7, own, g7, ho⟩ := h₇
  have r : ∃ m, m < n + 1 - i /\ X1_4 (fun i_1 => St i_1 s₇.heap) (fun i_1 => I i_1 s₇) (fun i_1 => i_1 <= n) (fun i_1 => m = n + 1 - i_1) := ⟨n + 1 - (i + 1), by lia, i + 1, S.frame _ _ _ st5 fun b hb o e => g7.keep b o (ho b hb) e, i7, hlt, rfl⟩
  rcases hf with rfl | rfl <;> exact r
 ·have hin : i = n := by lia
  subst hin
  refine wpAny_mono (S.done s' (fun s₅ => Gr wr s' s₅) _ hSt fun s₅ g => g) (fun r s₅ h₅ => ?_) fun _ _ e => e
  obtain ⟨rfl, g5⟩ := h₅
  exact wpAny_execs_nil (hend _ (hI _ _ _ hIi g5))
end
inductive T where
 | s (x : Str)
 | b (x : Bool)
 | t (l : List T)
 | l (l : List T)
 | p (x y : Str)
mutual
noncomputable def VT (N : Nat -> Prop) (h : Heap) : T -> Value -> Prop
 | .s x, v => ∃ t, v = .str x t
 | .b x, v => v = .bool x
 | .p x y, v => X4_3 (fun a d t u => v = .ref a) (fun a d t u => (255 <= a /\ N a)) (fun a d t u => h.get? a = some (pairObj d x t y u))
 | .t l, v => X2_4 (fun a vs => v = .ref a) (fun a vs => N a) (fun a vs => h.get? a = some (tup vs)) (fun a vs => VTs N h l vs.toList)
 | .l l, v => X3_4 (fun a vs n => v = .ref a) (fun a vs n => N a) (fun a vs n => h.get? a = some (listObj vs n)) (fun a vs n => VTs N h l vs.toList)
noncomputable def VTs (N : Nat -> Prop) (h : Heap) : List T -> List Value -> Prop
 | [], vs => vs = []
 | t :: ts, vs => X2_3 (fun v r => vs = v :: r) (fun v r => VT N h t v) (fun v r => VTs N h ts r)
end
mutual
theorem VT.mono {N N' : Nat -> Prop} {h h' : Heap} (hk : ∀ a o, N a -> h.get? a = some o -> h'.get? a = some o) (hN : ∀ a, N a -> N' a) : ∀ (t : T) (v : Value), VT N h t v -> VT N' h' t v
 | .s x, v, e => by unfold VT at e ⊢; exact e
 | .b x, v, e => by unfold VT at e ⊢; exact e
 | .p x y, v, e => by
  unfold VT at e ⊢
  obtain ⟨a, d, t, u, h1, h2, h3⟩ := e
  exact ⟨a, d, t, u, h1, ⟨h2.1, hN a h2.2⟩, hk a _ h2.2 h3⟩
 | .t l, v, e => by
  unfold VT at e ⊢
  obtain ⟨a, vs, h1, h2, h3, h6⟩ := e
  exact ⟨a, vs, h1, hN a h2, hk a _ h2 h3, VTs.mono hk hN l _ h6⟩
 | .l l, v, e => by
  unfold VT at e ⊢
  obtain ⟨a, vs, n, h1, h2, h3, h6⟩ := e
  exact ⟨a, vs, n, h1, hN a h2, hk a _ h2 h3, VTs.mono hk hN l _ h6⟩
theorem VTs.mono {N N' : Nat -> Prop} {h h' : Heap} (hk : ∀ a o, N a -> h.get? a = some o -> h'.get? a = some o) (hN : ∀ a, N a -> N' a) : ∀ (ts : List T) (vs : List Value), VTs N h ts vs -> VTs N' h' ts vs
 | [], vs, e => by unfold VTs at e ⊢; exact e
 | t :: ts, vs, e => by
  unfold VTs at e ⊢
  obtain ⟨v, r, h1, h2, h3⟩ := e
  exact ⟨v, r, h1, VT.mono hk hN t v h2, VTs.mono hk hN ts r h3⟩
end
theorem VTs.snoc {N : Nat -> Prop} {h : Heap} {t : T} {v : Value} : ∀ {ts : List T} {vs : List Value}, VTs N h ts vs -> VT N h t v -> VTs N h (ts ++ [t]) (vs ++ [v])
 | [], vs, e, f => by
  unfold VTs at e; subst e
  show VTs N h [t] [v]
  unfold VTs
  exact ⟨v, [], rfl, f, by unfold VTs; rfl⟩
 | t' :: ts, vs, e, f => by
  unfold VTs at e
  obtain ⟨v', r, rfl, h2, h3⟩ := e
  show VTs N h (t' :: (ts ++ [t])) (v' :: (r ++ [v]))
  unfold VTs
  exact ⟨v', _, rfl, h2, h3.snoc f⟩
theorem VTs.len {N : Nat -> Prop} {h : Heap} : ∀ {ts : List T} {vs : List Value}, VTs N h ts vs -> vs.length = ts.length
 | [], vs, e => by unfold VTs at e; subst e; rfl
 | t :: ts, vs, e => by
  unfold VTs at e
  obtain ⟨v, r, rfl, _, h3⟩ := e
  simp [h3.len]
theorem VTs.at {N : Nat -> Prop} {h : Heap} : ∀ {ts : List T} {vs : List Value}, VTs N h ts vs -> ∀ {i : Nat} {v : Value}, vs[i]? = some v -> ∃ t, ts[i]? = some t /\ VT N h t v
 | [], vs, e, i, v, hv => by unfold VTs at e; subst e; simp at hv
 | t :: ts, vs, e, i, v, hv => by
  unfold VTs at e
  obtain ⟨v', r, rfl, h2, h3⟩ := e
  rcases i with _ | _
  case zero => simp at hv; subst hv; exact ⟨t, rfl, h2⟩
  case succ i =>
   obtain ⟨t', e1, e2⟩ := h3.at (i := i) (by simpa using hv)
   exact ⟨t', by simpa using e1, e2⟩
theorem StrsAre.at {vs : List Value} {ss : List Str} (h : StrsAre vs ss) : ∀ {i : Nat} {v : Value}, vs[i]? = some v -> ∃ x, ss[i]? = some x /\ ∃ t, v = .str x t := by
 induction h with
 | nil => intro i v h; simp at h
 | cons hr ih =>
  intro i v h
  rcases i with _ | _
  case zero => simp at h; subst h; exact ⟨_, rfl, _, rfl⟩
  case succ i =>
   obtain ⟨x, e1, e2⟩ := ih (i := i) (by simpa using h)
   exact ⟨x, by simpa using e1, e2⟩
theorem VT.str {N : Nat -> Prop} {h : Heap} {x : Str} {t : Tok} : VT N h (.s x) (.str x t) := by unfold VT; exact ⟨t, rfl⟩
theorem VT.bool {N : Nat -> Prop} {h : Heap} {x : Bool} : VT N h (.b x) (.bool x) := by unfold VT; rfl
theorem VT.tup {N : Nat -> Prop} {h : Heap} {a : Nat} {vs : Array Value} {l : List T} (hn : N a) (ho : h.get? a = some (tup vs)) (hl : VTs N h l vs.toList) : VT N h (.t l) (.ref a) := by
 unfold VT; exact ⟨a, vs, rfl, hn, ho, hl⟩
theorem VT.lst {N : Nat -> Prop} {h : Heap} {a : Nat} {vs : Array Value} {l : List T} (hn : N a) (ho : h.PlainList a vs) (hl : VTs N h l vs.toList) : VT N h (.l l) (.ref a) := by
 obtain ⟨n, ho⟩ := ho
 unfold VT; exact ⟨a, vs, n, rfl, hn, ho, hl⟩
theorem VTs.nil {N : Nat -> Prop} {h : Heap} : VTs N h [] [] := by unfold VTs; rfl
theorem VTs.cons {N : Nat -> Prop} {h : Heap} {t : T} {v : Value} {ts : List T} {vs : List Value} (a : VT N h t v) (b : VTs N h ts vs) : VTs N h (t :: ts) (v :: vs) := by unfold VTs; exact ⟨v, vs, rfl, a, b⟩
theorem StrsAre.vts {N : Nat -> Prop} {h : Heap} {vs : List Value} {ss : List Str} (e : StrsAre vs ss) : VTs N h (ss.map .s) vs := by
 induction e with
 | nil => exact .nil
 | cons _ ih => exact .cons .str ih
theorem VT.gr {own : List Nat} {s s' : Shared} {t : T} {v : Value} (e : VT (· ∉ own) s.heap t v) (G : Gr own s s') : VT (· ∉ own) s'.heap t v := VT.mono (fun a o h1 h2 => G.keep a o h1 h2) (fun _ h => h) t v e
theorem VTs.gr {own : List Nat} {s s' : Shared} {t : List T} {v : List Value} (e : VTs (· ∉ own) s.heap t v) (G : Gr own s s') : VTs (· ∉ own) s'.heap t v := VTs.mono (fun a o h1 h2 => G.keep a o h1 h2) (fun _ h => h) t v e
theorem Paired.get {α β : Type} {F : α -> β -> Prop} : ∀ {l : List α} {r : List β}, Paired F l r -> ∀ {i : Nat} {a : α}, l[i]? = some a -> ∃ b, r[i]? = some b /\ F a b
 | _, _, .nil, i, a, h => by simp at h
 | _, _, .cons h1 h2, 0, a, h => by simp at h; subst h; exact ⟨_, rfl, h1⟩
 | _, _, .cons h1 h2, i + 1, a, h => by
  obtain ⟨b, e, f⟩ := Paired.get h2 (i := i) (a := a) (by simpa using h)
  exact ⟨b, by simpa using e, f⟩
theorem Paired.imp {α β : Type} {F G : α -> β -> Prop} (h : ∀ a b, F a b -> G a b) : ∀ {l : List α} {r : List β}, Paired F l r -> Paired G l r
 | _, _, .nil => .nil
 | _, _, .cons h1 h2 => .cons (h _ _ h1) (Paired.imp h h2)
theorem Paired.app {α β : Type} {F : α -> β -> Prop} : ∀ {l l' : List α} {r r' : List β}, Paired F l r -> Paired F l' r' -> Paired F (l ++ l') (r ++ r')
 | _, _, _, _, .nil, h => h
 | _, _, _, _, .cons h1 h2, h => .cons h1 (Paired.app h2 h)
theorem Paired.rev {α β : Type} {F : α -> β -> Prop} : ∀ {l : List α} {r : List β}, Paired F l r -> Paired F l.reverse r.reverse
 | _, _, .nil => .nil
 | _, _, .cons h1 h2 => by
  rw [List.reverse_cons, List.reverse_cons]
  exact Paired.app (Paired.rev h2) (.cons h1 .nil)
theorem Paired.take {α β : Type} {F : α -> β -> Prop} : ∀ {l : List α} {r : List β} (n : Nat), Paired F l r -> Paired F (l.take n) (r.take n)
 | _, _, 0, _ => by simpa using Paired.nil
 | _, _, n + 1, .nil => by simpa using Paired.nil
 | _, _, n + 1, .cons h1 h2 => by simpa using Paired.cons h1 (Paired.take n h2)
theorem Paired.drop {α β : Type} {F : α -> β -> Prop} : ∀ {l : List α} {r : List β} (n : Nat), Paired F l r -> Paired F (l.drop n) (r.drop n)
 | _, _, 0, h => by simpa using h
 | _, _, n + 1, .nil => by simpa using Paired.nil
 | _, _, n + 1, .cons h1 h2 => by simpa using Paired.drop n h2
theorem take_succ {α : Type} {l : List α} {i : Nat} {a : α} (h : l[i]? = some a) : l.take (i + 1) = l.take i ++ [a] := by
 rw [List.take_add_one, h]; rfl
theorem Gr.statF {b1 b2 : Bool} {w : World} {own : List Nat} {s s' : Shared} (G : Gr own s s') (hs : Stat b1 b2 w s.heap) (ho : ∀ a ∈ own, (ktop (wW b1 b2 w).params).get a = none) : Stat b1 b2 w s'.heap :=
 holds_iff.mpr fun a o e => G.keep a o (fun hm => by rw [ho a hm] at e; cases e) (holds_iff.mp hs a o e)
theorem Stat.free {b1 b2 : Bool} {w : World} {h : Heap} {a : Nat} (hs : Stat b1 b2 w h) (e : h.get? a = none) : (ktop (wW b1 b2 w).params).get a = none := by
 cases q : (ktop (wW b1 b2 w).params).get a with
 | none => rfl
 | some o => rw [holds_iff.mp hs a o q] at e; cases e
noncomputable def RecAt (h : Heap) (v : Value) (r : Rc) : Prop := X8_4 (fun a b t0 t1 t2 t3 t4 cs => v = .ref a) (fun a b t0 t1 t2 t3 t4 cs => h.IsTuple a #[.str r.owner t0, .str r.c1 t1, .str r.c2 t2, .str r.c3 t3, .str r.c4 t4, .ref b]) (fun a b t0 t1 t2 t3 t4 cs => h.IsTuple b cs) (fun a b t0 t1 t2 t3 t4 cs => StrsAre cs.toList r.cs)
theorem RecAt.keep {h h' : Heap} {v : Value} {r : Rc} (e : RecAt h v r) (k : ∀ a o, h.get? a = some o -> o.cls = .type "tuple" /\ (∃ vs n, o.data = .seq vs n) -> h'.get? a = some o) : RecAt h' v r := by
 obtain ⟨a, b, t0, t1, t2, t3, t4, cs, rfl, ⟨o, e1, c1, n1, d1⟩, ⟨p, e2, c2, n2, d2⟩, e3⟩ := e
 exact ⟨a, b, t0, t1, t2, t3, t4, cs, rfl, ⟨o, k a o e1 ⟨c1, _, _, d1⟩, c1, n1, d1⟩, ⟨p, k b p e2 ⟨c2, _, _, d2⟩, c2, n2, d2⟩, e3⟩
noncomputable def NoTup (s : Shared) (a : Nat) : Prop := ∃ o, s.heap.get? a = some o /\ ¬ (o.cls = .type "tuple" /\ ∃ vs n, o.data = .seq vs n)
theorem RecAt.gr {s s' : Shared} {own : List Nat} {v : Value} {r : Rc} (e : RecAt s.heap v r) (G : Gr own s s') (h : ∀ a ∈ own, NoTup s a) : RecAt s'.heap v r :=
 e.keep fun a o q hq => G.keep a o (fun hm => by
  obtain ⟨o', e', hn⟩ := h a hm
  rw [q] at e'; cases e'
  exact hn hq) q
theorem NoTup.ns {s : Shared} {a : Nat} {m : Str -> Option Value} (h : s.heap.Ns a m) : NoTup s a := by
 obtain ⟨o, es, ep, e, d, _⟩ := h
 exact ⟨o, e, fun ⟨_, vs, n, d'⟩ => by rw [d] at d'; cases d'⟩
theorem NoTup.cell {s : Shared} {a : Nat} {v : Option Value} (h : s.heap.IsCell a v) : NoTup s a := by
 obtain ⟨o, e, d⟩ := h
 exact ⟨o, e, fun ⟨_, vs, n, d'⟩ => by rw [d] at d'; cases d'⟩
theorem NoTup.list {s : Shared} {a : Nat} {vs : Array Value} (h : s.heap.IsList a vs) : NoTup s a := by
 obtain ⟨o, e, c, _⟩ := h
 exact ⟨o, e, fun ⟨c', _⟩ => by rw [c] at c'; exact absurd c' (by decide)⟩
theorem NoTup.iter {s : Shared} {a l i : Nat} (h : s.heap.IsListIter a l i) : NoTup s a := by
 obtain ⟨o, e, c, _⟩ := h
 exact ⟨o, e, fun ⟨c', _⟩ => by rw [c] at c'; exact absurd c' (by decide)⟩
theorem Fram.noTup {L : Nat} {cs : List (Str × Nat)} {m cm : Str -> Option Value} {s : Shared} (F : Fram L cs m cm s) (hcs : ∀ p ∈ cs, cs.lookup p.1 = some p.2) : ∀ a ∈ frL L cs, NoTup s a := by
 intro a ha
 rcases mD ha with rfl | ha
 ·exact .ns F.ns
 ·obtain ⟨p, hp, rfl⟩ := List.mem_map.mp ha
  exact .cell (F.cell p.1 p.2 (hcs p hp))
theorem NoTup.alive {s : Shared} {a : Nat} (h : NoTup s a) : ∃ o, s.heap.get? a = some o := let ⟨o, e, _⟩ := h; ⟨o, e⟩
noncomputable abbrev RecsAt (h : Heap) (vs : List Value) (rs : List Rc) : Prop := Paired (RecAt h) vs rs
theorem RecsAt.gr {s s' : Shared} {own : List Nat} {vs : List Value} {rs : List Rc} (e : RecsAt s.heap vs rs) (G : Gr own s s') (h : ∀ a ∈ own, NoTup s a) : RecsAt s'.heap vs rs := Paired.imp (fun _ _ x => x.gr G h) e
theorem RecsAt.gr0 {s s' : Shared} {vs : List Value} {rs : List Rc} (e : RecsAt s.heap vs rs) (G : Gr [] s s') : RecsAt s'.heap vs rs := e.gr G fun _ h => nomatch h
noncomputable def ColAt (h : Heap) (k : Nat) (v : Value) (x : Str) : Prop := X3_3 (fun a vs t => v = .ref a) (fun a vs t => h.IsTuple a vs) (fun a vs t => vs[k]? = some (.str x t))
noncomputable def colN : Nat -> Rc -> Str
 | 0, r => r.owner
 | 1, r => r.c1
 | 2, r => r.c2
 | 3, r => r.c3
 | _, r => r.c4
theorem RecAt.col {h : Heap} {v : Value} {r : Rc} (e : RecAt h v r) {k : Nat} (hk : k < 5) : ColAt h k v (colN k r) := by
 obtain ⟨a, b, t0, t1, t2, t3, t4, cs, rfl, e1, _⟩ := e
 rcases (show k = 0 \/ k = 1 \/ k = 2 \/ k = 3 \/ k = 4 by lia) with rfl | rfl | rfl | rfl | rfl <;> exact ⟨a, _, _, rfl, e1, rfl⟩
theorem RecsAt.col {h : Heap} {vs : List Value} {rs : List Rc} (e : RecsAt h vs rs) {k : Nat} (hk : k < 5) : Paired (ColAt h k) vs (rs.map (colN k)) := by
 induction e with
 | nil => exact .nil
 | cons h1 _ ih => exact .cons (h1.col hk) ih
theorem ColAt.keep {h h' : Heap} {k : Nat} {v : Value} {x : Str} (e : ColAt h k v x) (kp : ∀ a o, h.get? a = some o -> h'.get? a = some o) : ColAt h' k v x := by
 obtain ⟨a, vs, t, rfl, e1, e2⟩ := e
 exact ⟨a, vs, t, rfl, e1.at fun o e => kp a o e, e2⟩
structure CompS (scope : Scope) (env : Env) (cl : List (Str × Nat)) : Prop where
 clos : closureFor scope env = pure cl
 kind : scope.kind = .function
 names : ∀ x ∈ scope.names, x.2 = .local -> scope.names.lookup x.1 = some .local
 cells : ∀ L, (cellsFrom (L + 1) scope.names []).all (fun p => (cellsFrom (L + 1) scope.names []).lookup p.1 == some p.2) = true
section
variable {prog : Program} {w : World} {A : Around} {E : Value -> Shared -> Prop} {s : Shared} {env : Env}
theorem turn_name {scope : Scope} {cl : List (Str × Nat)} {C : Nat} {x : Str} {px : Pos} {v : Value} {cs : List (Str × Nat)} {m cm : Str -> Option Value} {Q : Unit -> Shared -> Prop} (hx : (relabel scope env).names.lookup x = some .local) (hkind : scope.kind = .function) (F : Fram C cs m cm s)
  (k : ∀ s₄, Gr [C] s s₄ -> Fram C cs (fun y => if y = x then some v else m y) cm s₄ -> Q () s₄) : wpAny (model prog w) A (assign (.Name x px) (cEnv scope cl C env) v) Q E s :=
 wpAny_assign_Name (F.set (env := cEnv scope cl C env) hkind hx k)
theorem c_local {scope : Scope} {cl : List (Str × Nat)} {C : Nat} {x : Str} {px : Pos} {v : Value} {cs : List (Str × Nat)} {m cm : Str -> Option Value} {Q : Value -> Shared -> Prop} (hx : (relabel scope env).names.lookup x = some .local) (hkind : scope.kind = .function) (F : Fram C cs m cm s)
  (hv : m x = some v) (h : Q v s) (hd : (x == ("__debug__" : Str)) = false := by decide) : wpAny (model prog w) A (eval (.Name x px) (cEnv scope cl C env)) Q E s :=
 ev_local (env := cEnv scope cl C env) F hv h hkind hx hd
theorem c_free {scope : Scope} {cl : List (Str × Nat)} {C c : Nat} {x : Str} {px : Pos} {v : Value} {Q : Value -> Shared -> Prop} (hx : (relabel scope env).names.lookup x = some .cell) (hkind : scope.kind = .function)
  (hc : (cellsFrom (C + 1) scope.names [] ++ cl).lookup x = some c) (hi : s.heap.IsCell c (some v)) (h : Q v s) (hd : (x == ("__debug__" : Str)) = false := by decide) : wpAny (model prog w) A (eval (.Name x px) (cEnv scope cl C env)) Q E s :=
 ev_cell (env := cEnv scope cl C env) hc hi h hkind hx hd
theorem g_new {s s' : Shared} {a : Nat} {own : List Nat} (G : Gr [a] s s') (h : a ∈ own) : Gr own s s' := G.widen fun b hb => by rw [mS hb]; exact h
theorem over_list {l : Nat} {vs : Array Value} {Q : Value -> Shared -> Prop} (hl : s.heap.IsList l vs)
  (h : ∀ I s₁, Gr [] s s₁ -> s.heap.get? I = none -> s₁.heap.IsListIter I l 0 -> s₁.heap.IsList l vs -> l ≠ I -> (∀ b, s₁.heap.get? b = none -> s.heap.get? b = none) -> Q (.ref I) s₁) : wpAny (model prog w) A (pyIter (.ref l)) Q E s := by
 have hne : l ≠ s.heap.objs.size := by obtain ⟨o, ho, _⟩ := hl; exact Nat.ne_of_lt (Heap.lt_size ho)
 refine wpAny_pyIter_list hl (h _ _ (gr_push (tk := s.toks)) (new_at (Nat.le_refl _)) ⟨_, Heap.get?_push_size _ rfl, rfl, rfl⟩ (hl.push _) hne fun b e => ?_)
 cases q : s.heap.get? b with
 | none => rfl
 | some o => have : (s.heap.push _).get? b = some o := Heap.get?_push_of_some { cls := .type "list_iterator", data := .fields #[.ref l, .int 0 0] } q; rw [this] at e; cases e
theorem ev_col {x : Str} {px p1 p2 p3 pos : Pos} {k kd : Nat} {iter : Expr} {scope : Scope} {cl : List (Str × Nat)} {Q : Value -> Shared -> Prop} (S : CompS scope env cl) (hx : (relabel scope env).names.lookup x = some .local) (hk : k < 2 ^ 62) (hh : A.handled = none)
  (h : wpAny (model prog w) A (eval iter env) (fun v s₁ => X3_5 (fun l vs ss => v = .ref l) (fun l vs ss => s₁.heap.IsList l vs) (fun l vs ss => vs.size <= sizeLine) (fun l vs ss => Paired (ColAt s₁.heap k) vs.toList ss) (fun l vs ss => ∀ D ys s', Gr [] s₁ s' -> s₁.heap.get? D = none -> s'.heap.PlainList D ys.toArray -> StrsAre ys ss -> Q (.ref D) s')) E s)
  (hs : autoParam (∀ x, foldedSetIterable iter env x = pure x) byRfl) (hd : (x == ("__debug__" : Str)) = false := by decide) :
  wpAny (model prog w) A (eval (.ListComp (.Subscript (.Name x p1) (.Constant (.int (k : Int)) kd p2) p3) [⟨.Name x px, iter, [], 0⟩] scope pos) env) Q E s := by
 refine ev_comp [] S.clos S.kind S.names S.cells (wpAny_mono h (fun v s₁ h₁ => ?_) fun _ _ e => e) hs
 obtain ⟨l, vs, ss, rfl, hl, hsz, hp, hQ⟩ := h₁
 refine over_list hl fun I s₂ G2 hI hit hl2 hne _ => ?_
 refine ⟨fun _ i ys _ => StrsAre ys (ss.take i), fun _ _ _ _ _ h _ => h, _, _, _, _, _, srcList hh _ I l hne vs, hsz, ⟨hit, hl2⟩, fun _ => .nil, (fun _ h => nomatch h), ?_, ?_⟩
 ·intro own i ys v C s₃ m cm hi hC hown hox hfr hJ keep F hv E'
  obtain ⟨y, hy, a, tv, tk, rfl, ha, hk'⟩ := Paired.get hp (i := i) (a := v) (by simpa using hv)
  have ha3 : s₃.heap.IsTuple a tv := ha.at fun o e => keep a o (fun hm => by rw [mS hm] at e; rw [hI] at e; cases e) (G2.k a o e)
  refine turn_name hx S.kind F fun s₄ G4 F4 => wpAny_tests_nil ?_
  simp only [if_true]
  have ha4 : s₄.heap.IsTuple a tv := ha3.at fun o e => G4.keep a o (fun hm => by
   rw [mS hm] at ha
   obtain ⟨o', e', _⟩ := ha
   have lt := Heap.lt_size (G2.k C o' e')
   exact absurd lt (Nat.not_lt.mpr hC)) e
  refine ev_subC hk (c_local hx S.kind F4 (by simp) ⟨a, tv, _, rfl, ha4, hk', fun tk' => ⟨(G4.widen fun b hb => by rw [mS hb]; exact .head _).trans gr_tok, ?_, _, _, F4.gr0 gr_tok⟩⟩ hd)
  rw [take_succ hy]
  exact hJ.snoc
 ·intro own D ys s' _ hD hJ hD0 hpl hlen G
  have e : ss.take vs.size = ss := by
   have := hp.length
   apply List.take_of_length_le
   simp at this; lia
  rw [e] at hJ
  exact hQ D ys s' ((G2.nil.trans G).new fun a ha => by rw [mS ha]; exact hI) (G2.dead (fun h => nomatch h) hD0) hpl hJ
theorem ev_strs {x : Str} {px pos : Pos} {elt iter : Expr} {scope : Scope} {cl : List (Str × Nat)} {Q : Value -> Shared -> Prop} (S : CompS scope env cl) (hx : (relabel scope env).names.lookup x = some .local) (hh : A.handled = none)
  (h : wpAny (model prog w) A (eval iter env) (fun v s₁ => X3_6 (fun (l : Nat) (vs : Array Value) (ss : List Str) => v = .ref l) (fun (l : Nat) (vs : Array Value) (ss : List Str) => s₁.heap.IsList l vs) (fun (l : Nat) (vs : Array Value) (ss : List Str) => vs.size <= sizeLine) (fun (l : Nat) (vs : Array Value) (ss : List Str) => ss.length = vs.size) (fun (l : Nat) (vs : Array Value) (ss : List Str) => (∀ (i : Nat) (v : Value) (y : Str) (C : Nat) (s₄ : Shared) (m cm : Str -> Option Value), vs[i]? = some v -> ss[i]? = some y -> s₁.heap.get? C = none -> (∀ b o, s₁.heap.get? b = some o -> s₄.heap.get? b = some o) -> Fram C (cellsFrom (C + 1) scope.names []) m cm s₄ -> m x = some v -> ∀ E',
    wpAny (model prog w) A (eval elt (cEnv scope cl C env)) (fun u s₅ => (∃ tk, u = .str y tk) /\ Gr [] s₄ s₅) E' s₄)) (fun (l : Nat) (vs : Array Value) (ss : List Str) => ∀ D ys s', Gr [] s₁ s' -> s₁.heap.get? D = none -> s'.heap.PlainList D ys.toArray -> StrsAre ys ss -> Q (.ref D) s')) E s)
  (hs : autoParam (∀ x, foldedSetIterable iter env x = pure x) byRfl) :
  wpAny (model prog w) A (eval (.ListComp elt [⟨.Name x px, iter, [], 0⟩] scope pos) env) Q E s := by
 refine ev_comp [] S.clos S.kind S.names S.cells (wpAny_mono h (fun v s₁ h₁ => ?_) fun _ _ e => e) hs
 obtain ⟨l, vs, ss, rfl, hl, hsz, hlen, helt, hQ⟩ := h₁
 refine over_list hl fun I s₂ G2 hI hit hl2 hne _ => ?_
 refine ⟨fun _ i ys _ => StrsAre ys (ss.take i), fun _ _ _ _ _ h _ => h, _, _, _, _, _, srcList hh _ I l hne vs, hsz, ⟨hit, hl2⟩, fun _ => .nil, (fun _ h => nomatch h), ?_, ?_⟩
 ·intro own i ys v C s₃ m cm hi hC hown hox hfr hJ keep F hv E'
  obtain ⟨y, hy⟩ : ∃ y, ss[i]? = some y := ⟨ss[i], by rw [List.getElem?_eq_getElem (by lia)]⟩
  have k3 : ∀ b o, s₁.heap.get? b = some o -> s₃.heap.get? b = some o := fun b o e => keep b o (fun hm => by rw [mS hm] at e; rw [hI] at e; cases e) (G2.k b o e)
  have hC1 : s₁.heap.get? C = none := G2.dead (fun h => nomatch h) (new_at hC)
  refine turn_name hx S.kind F fun s₄ G4 F4 => wpAny_tests_nil ?_
  simp only [if_true]
  refine wpAny_mono (helt i v y C s₄ _ _ (by simpa using hv) hy hC1 (fun b o e => G4.keep b o (fun hm => by
   rw [mS hm] at e
   exact absurd (Heap.lt_size (G2.k C o e)) (Nat.not_lt.mpr hC)) (k3 b o e)) F4 (by simp) E') (fun u s₅ h5 => ?_) fun _ _ e => e
  obtain ⟨⟨tk, rfl⟩, G5⟩ := h5
  refine ⟨(G4.widen fun b hb => by rw [mS hb]; exact .head _).trans G5.nil, ?_, _, _, F4.gr0 G5⟩
  rw [take_succ hy]
  exact hJ.snoc
 ·intro own D ys s' _ hD hJ hD0 hpl hlen' G
  rw [List.take_of_length_le (by lia)] at hJ
  exact hQ D ys s' ((G2.nil.trans G).new fun a ha => by rw [mS ha]; exact hI) (G2.dead (fun h => nomatch h) hD0) hpl hJ
theorem ev_sel {x : Str} {px p1 pos : Pos} {cond iter : Expr} {scope : Scope} {cl : List (Str × Nat)} {Q : Value -> Shared -> Prop} (p : Rc -> Bool) (S : CompS scope env cl) (hx : (relabel scope env).names.lookup x = some .local) (hh : A.handled = none)
  (h : wpAny (model prog w) A (eval iter env) (fun v s₁ => X3_6 (fun (l : Nat) (vs : Array Value) (rs : List Rc) => v = .ref l) (fun (l : Nat) (vs : Array Value) (rs : List Rc) => s₁.heap.IsList l vs) (fun (l : Nat) (vs : Array Value) (rs : List Rc) => vs.size <= sizeLine) (fun (l : Nat) (vs : Array Value) (rs : List Rc) => RecsAt s₁.heap vs.toList rs) (fun (l : Nat) (vs : Array Value) (rs : List Rc) => (∀ (v : Value) (r : Rc) (C : Nat) (s₄ : Shared) (m cm : Str -> Option Value), r ∈ rs -> RecAt s₄.heap v r -> s₁.heap.get? C = none -> (∀ b o, s₁.heap.get? b = some o -> s₄.heap.get? b = some o) -> Fram C (cellsFrom (C + 1) scope.names []) m cm s₄ -> m x = some v -> ∀ E',
    wpAny (model prog w) A (isTrue cond (cEnv scope cl C env) (eval cond (cEnv scope cl C env))) (fun ok s₅ => ok = p r /\ Gr [] s₄ s₅) E' s₄)) (fun (l : Nat) (vs : Array Value) (rs : List Rc) => ∀ D ys s', Gr [] s₁ s' -> s₁.heap.get? D = none -> s'.heap.PlainList D ys.toArray -> ys.length <= vs.size -> RecsAt s'.heap ys (rs.filter p) -> Q (.ref D) s')) E s)
  (hs : autoParam (∀ x, foldedSetIterable iter env x = pure x) byRfl) (hd : (x == ("__debug__" : Str)) = false := by decide) :
  wpAny (model prog w) A (eval (.ListComp (.Name x p1) [⟨.Name x px, iter, [cond], 0⟩] scope pos) env) Q E s := by
 refine ev_comp [] S.clos S.kind S.names S.cells (wpAny_mono h (fun v s₁ h₁ => ?_) fun _ _ e => e) hs
 obtain ⟨l, vs, rs, rfl, hl, hsz, hrs, helt, hQ⟩ := h₁
 refine over_list hl fun I s₂ G2 hI hit hl2 hne _ => ?_
 refine ⟨fun _ i ys _ => Paired (RecAt s₁.heap) ys ((rs.take i).filter p), fun _ _ _ _ _ h _ => h, _, _, _, _, _, srcList hh _ I l hne vs, hsz, ⟨hit, hl2⟩, fun _ => .nil, (fun _ h => nomatch h), ?_, ?_⟩
 ·intro own i ys v C s₃ m cm hi hC hown hox hfr hJ keep F hv E'
  obtain ⟨r, hr, hvr⟩ := Paired.get hrs (i := i) (a := v) (by simpa using hv)
  have k3 : ∀ b o, s₁.heap.get? b = some o -> s₃.heap.get? b = some o := fun b o e => keep b o (fun hm => by rw [mS hm] at e; rw [hI] at e; cases e) (G2.k b o e)
  have hC1 : s₁.heap.get? C = none := G2.dead (fun h => nomatch h) (new_at hC)
  refine turn_name hx S.kind F fun s₄ G4 F4 => wpAny_tests_one ?_
  have k4 : ∀ b o, s₁.heap.get? b = some o -> s₄.heap.get? b = some o := fun b o e => G4.keep b o (fun hm => by
   rw [mS hm] at e
   rw [hC1] at e; cases e) (k3 b o e)
  have ht : rs.take (i + 1) = rs.take i ++ [r] := take_succ hr
  refine wpAny_mono (helt v r C s₄ _ _ (List.mem_of_getElem? hr) (hvr.keep fun a o e _ => k4 a o e) hC1 k4 F4 (by simp) E') (fun ok s₅ h5 => ?_) fun _ _ e => e
  obtain ⟨rfl, G5⟩ := h5
  have G35 : Gr (frL C (cellsFrom (C + 1) scope.names [])) s₃ s₅ := (G4.widen fun b hb => by rw [mS hb]; exact .head _).trans G5.nil
  have hf : (rs.take (i + 1)).filter p = (rs.take i).filter p ++ [r].filter p := by rw [ht, List.filter_append]
  cases hp : p r with
  | false =>
   simp only [Bool.false_eq_true, if_false]
   refine ⟨G35, ?_, _, _, F4.gr0 G5⟩
   show Paired _ _ ((rs.take (i + 1)).filter p)
   rw [hf]
   simpa [hp] using hJ
  | true =>
   simp only [if_true]
   refine c_local (v := v) hx S.kind (F4.gr0 G5) (by simp) ⟨G35, ?_, _, _, F4.gr0 G5⟩ hd
   show Paired _ _ ((rs.take (i + 1)).filter p)
   rw [hf]
   simpa [hp] using hJ.snoc hvr
 ·intro own D ys s' _ hD hJ hD0 hpl hlen' G
  have e : rs.take vs.size = rs := List.take_of_length_le (by have := hrs.length; simp at this; lia)
  rw [e] at hJ
  have G' : Gr [] s₁ s' := (G2.nil.trans G).new fun a ha => by rw [mS ha]; exact hI
  exact hQ D ys s' G' (G2.dead (fun h => nomatch h) hD0) hpl hlen' (Paired.imp (fun a b e => e.keep fun a o q _ => G'.k a o q) hJ)
theorem over_tuple {l : Nat} {vs : Array Value} {Q : Value -> Shared -> Prop} (hl : s.heap.IsTuple l vs)
  (h : ∀ I s₁, Gr [] s s₁ -> s.heap.get? I = none -> s₁.heap.IsTupleIter I l 0 -> s₁.heap.IsTuple l vs -> l ≠ I -> Q (.ref I) s₁) : wpAny (model prog w) A (pyIter (.ref l)) Q E s := by
 have hne : l ≠ s.heap.objs.size := by obtain ⟨o, ho, _⟩ := hl; exact Nat.ne_of_lt (Heap.lt_size ho)
 refine wpAny_pyIter_tuple hl (h _ _ (gr_push (tk := s.toks)) (new_at (Nat.le_refl _)) ⟨_, Heap.get?_push_size _ rfl, rfl, rfl⟩ ?_ hne)
 exact hl.at fun o e => Heap.get?_push_of_some _ e
theorem at_strsT {x : Str} {px : Pos} {elt : Expr} {scope : Scope} {cl : List (Str × Nat)} {ex : List Nat} {K : List Nat -> Shared -> List Nat -> Nat -> List Value -> Shared -> Prop} (S : CompS scope env cl) (hx : (relabel scope env).names.lookup x = some .cell) (hh : A.handled = none)
  (hc : ∀ C, cellsFrom (C + 1) scope.names [] = [(x, C + 1)]) {l : Nat} {vs : Array Value} {ss : List Str} (hl : s.heap.IsTuple l vs) (hsz : vs.size <= sizeLine) (hlen : ss.length = vs.size) (hex : ∀ a ∈ ex, ∃ o, s.heap.get? a = some o)
  (helt : ∀ (i : Nat) (v : Value) (y : Str) (C : Nat) (s₄ : Shared), vs[i]? = some v -> ss[i]? = some y -> s.heap.get? C = none -> s.heap.get? (C + 1) = none -> (∀ b o, s.heap.get? b = some o -> s₄.heap.get? b = some o) -> s₄.heap.IsCell (C + 1) (some v) -> ∀ E',
    wpAny (model prog w) A (eval elt (cEnv scope cl C env)) (fun u s₅ => (∃ tk, u = .str y tk) /\ Gr [] s₄ s₅) E' s₄)
  (hK : ∀ wr s₂ own D ys s', (∀ a ∈ wr, s.heap.get? a = none) -> Gr [] s s₂ -> s.heap.get? D = none -> s'.heap.PlainList D ys.toArray -> StrsAre ys ss -> K wr s₂ own D ys s') :
  wpAny (model prog w) A (pyIter (.ref l)) (CompAt prog w A env scope cl (.Name x px) elt [] ex K) E s := by
 refine over_tuple hl fun I s₂ G2 hI hit hl2 hne => ?_
 refine ⟨fun _ i ys _ => StrsAre ys (ss.take i), fun _ _ _ _ _ h _ => h, _, _, _, _, _, srcTuple hh _ I l hne vs, hsz, ⟨hit, hl2⟩, fun _ => .nil, fun a ha => by obtain ⟨o, e⟩ := hex a ha; exact ⟨o, G2.k a o e⟩, ?_, ?_⟩
 ·intro own i ys v C s₃ m cm hi hC hown hox hfr hJ keep F hv E'
  rw [hc C] at F ⊢
  obtain ⟨y, hy⟩ : ∃ y, ss[i]? = some y := ⟨ss[i], by rw [List.getElem?_eq_getElem (by lia)]⟩
  have k3 : ∀ b o, s.heap.get? b = some o -> s₃.heap.get? b = some o := fun b o e => keep b o (fun hm => by rw [mS hm] at e; rw [hI] at e; cases e) (G2.k b o e)
  have hC1 : s.heap.get? C = none := G2.dead (fun h => nomatch h) (new_at hC)
  have hC2 : s.heap.get? (C + 1) = none := G2.dead (fun h => nomatch h) (new_at (Nat.le_succ_of_le hC))
  have hlc : (cEnv scope cl C env).cells.lookup x = some (C + 1) := by
   show (cellsFrom (C + 1) scope.names [] ++ cl).lookup x = _
   rw [hc C]; simp
  refine wpAny_assign_Name (Fram.setC (env := cEnv scope cl C env) (cs := [(x, C + 1)]) F S.kind hx hlc (by simp) fun s₄ G4 F4 => wpAny_tests_nil ?_)
  simp only [if_true]
  refine wpAny_mono (helt i v y C s₄ (by simpa using hv) hy hC1 hC2 (fun b o e => G4.keep b o (fun hm => by
   rw [mS hm] at e
   rw [hC2] at e; cases e) (k3 b o e)) (by have := F4.cell x (C + 1) (by simp); simpa using this) E') (fun u s₅ h5 => ?_) fun _ _ e => e
  obtain ⟨⟨tk, rfl⟩, G5⟩ := h5
  refine ⟨(G4.widen fun b hb => by rw [mS hb]; exact .tail _ (.head _)).trans G5.nil, ?_, _, _, F4.gr0 G5⟩
  rw [take_succ hy]
  exact hJ.snoc
 ·intro own D ys s' _ hD hJ hD0 hpl hlen'
  rw [List.take_of_length_le (by lia)] at hJ
  exact hK _ s₂ own D ys s' (fun a ha => by rw [mS ha]; exact hI) G2 (G2.dead (fun h => nomatch h) hD0) hpl hJ
theorem ev_strsT {x : Str} {px pos : Pos} {elt iter : Expr} {scope : Scope} {cl : List (Str × Nat)} {Q : Value -> Shared -> Prop} (S : CompS scope env cl) (hx : (relabel scope env).names.lookup x = some .cell) (hh : A.handled = none)
  (hc : ∀ C, cellsFrom (C + 1) scope.names [] = [(x, C + 1)])
  (h : wpAny (model prog w) A (eval iter env) (fun v s₁ => X3_6 (fun (l : Nat) (vs : Array Value) (ss : List Str) => v = .ref l) (fun (l : Nat) (vs : Array Value) (ss : List Str) => s₁.heap.IsTuple l vs) (fun (l : Nat) (vs : Array Value) (ss : List Str) => vs.size <= sizeLine) (fun (l : Nat) (vs : Array Value) (ss : List Str) => ss.length = vs.size) (fun (l : Nat) (vs : Array Value) (ss : List Str) => (∀ (i : Nat) (v : Value) (y : Str) (C : Nat) (s₄ : Shared), vs[i]? = some v -> ss[i]? = some y -> s₁.heap.get? C = none -> s₁.heap.get? (C + 1) = none -> (∀ b o, s₁.heap.get? b = some o -> s₄.heap.get? b = some o) -> s₄.heap.IsCell (C + 1) (some v) -> ∀ E',
    wpAny (model prog w) A (eval elt (cEnv scope cl C env)) (fun u s₅ => (∃ tk, u = .str y tk) /\ Gr [] s₄ s₅) E' s₄)) (fun (l : Nat) (vs : Array Value) (ss : List Str) => ∀ D ys s', Gr [] s₁ s' -> s₁.heap.get? D = none -> s'.heap.PlainList D ys.toArray -> StrsAre ys ss -> Q (.ref D) s')) E s)
  (hs : autoParam (∀ x, foldedSetIterable iter env x = pure x) byRfl) :
  wpAny (model prog w) A (eval (.ListComp elt [⟨.Name x px, iter, [], 0⟩] scope pos) env) Q E s := by
 refine ev_comp [] S.clos S.kind S.names S.cells (wpAny_mono h (fun v s₁ h₁ => ?_) fun _ _ e => e) hs
 obtain ⟨l, vs, ss, rfl, hl, hsz, hlen, helt, hQ⟩ := h₁
 exact at_strsT S hx hh hc hl hsz hlen (fun _ h => nomatch h) helt fun wr s₂ own D ys s' hwr G2 hD hpl hys G => hQ D ys s' ((G2.nil.trans G).new hwr) hD hpl hys
end
theorem turn_two0 (elt tg0 iter0 tg1 iter1 : Expr) (scope : Scope) (pos : Pos) (it acc : Value) (env : Env) :
  compTurn (.ListComp elt [⟨tg0, iter0, [], 0⟩, ⟨tg1, iter1, [], 0⟩] scope pos) 0 it acc env = (standAt iter0.pos >>= fun _ => pyNext it >>= fun r => match r with
   | none => pure (.done .next)
   | some v => letOwnedTupleGo tg0 it v >>= fun _ => assign tg0 env v >>= fun _ => eval iter1 env >>= fun x => standAt iter1.pos >>= fun _ => foldedSetIterable iter1 env x >>= fun x => holding [x] (pyIter x) >>= fun it1 =>
    runOwn (.compStart (.ListComp elt [⟨tg0, iter0, [], 0⟩, ⟨tg1, iter1, [], 0⟩] scope pos) 1 it1 acc env) env >>= fun _ =>
     again (.compLoop (.ListComp elt [⟨tg0, iter0, [], 0⟩, ⟨tg1, iter1, [], 0⟩] scope pos) 0 it acc env)) := by rfl
theorem turn_two1 (elt tg0 iter0 tg1 iter1 : Expr) (scope : Scope) (pos : Pos) (it acc : Value) (env : Env) :
  compTurn (.ListComp elt [⟨tg0, iter0, [], 0⟩, ⟨tg1, iter1, [], 0⟩] scope pos) 1 it acc env = (standAt iter1.pos >>= fun _ => pyNext it >>= fun r => match r with
   | none => pure (.done .next)
   | some v => letOwnedTupleGo tg1 it v >>= fun _ => assign tg1 env v >>= fun _ =>
    (eval elt env >>= fun x => call (.builtin "list.append") [acc, x] >>= fun _ => pure ()) >>= fun _ =>
     again (.compLoop (.ListComp elt [⟨tg0, iter0, [], 0⟩, ⟨tg1, iter1, [], 0⟩] scope pos) 1 it acc env)) := by rfl
section
variable {prog : Program} {w : World} {A : Around} {E : Value -> Shared -> Prop} {R : Result -> Shared -> Prop} {s : Shared} {env : Env}
theorem start_two1 {elt tg0 iter0 tg1 iter1 : Expr} {scope : Scope} {pos : Pos} {it acc : Value} {env : Env}
  (h0 : codeAny (model prog w) A (.compLoop (.ListComp elt [⟨tg0, iter0, [], 0⟩, ⟨tg1, iter1, [], 0⟩] scope pos) 1 it acc env) R s)
  (h : wpAny (model prog w) A (pyIter it) (fun it' s' => codeAny (model prog w) A (.compLoop (.ListComp elt [⟨tg0, iter0, [], 0⟩, ⟨tg1, iter1, [], 0⟩] scope pos) 1 it' acc env) R s')
   (notedBy (model prog w) A env fun x s' => R (.error x) s') s) :
  codeAny (model prog w) A (.compStart (.ListComp elt [⟨tg0, iter0, [], 0⟩, ⟨tg1, iter1, [], 0⟩] scope pos) 1 it acc env) R s := by
 refine codeAny_of_tree ?_
 show wpAny _ _ ((compStart (.ListComp elt [⟨tg0, iter0, [], 0⟩, ⟨tg1, iter1, [], 0⟩] scope pos) 1 it acc env).onRaise (fun x => do noteFrame x env; standAt theWindowsPlace)) _ _ s
 refine wpAny_notedAt ?_
 unfold compStart
 show wpAny _ _ (ask >>= _) _ _ s
 refine wpAny_bind (wpAny_askSetting (wpAny_ite ?_))
 split
 ·first
   | exact wpAny_bind (wpAny_pure (wpAny_pure (And.intro rfl h0)))
   | exact wpAny_pure (And.intro rfl h0)
 ·first
   | exact wpAny_bind (wpAny_rule (wpAny_bind (wpAny_standAt (wpAny_bind (wpAny_mono h (fun it' s' h' => wpAny_pure (And.intro rfl h')) fun _ _ x => x)))))
   | (refine wpAny_bind (wpAny_rule ?_); show wpAny _ _ (standAt iter1.pos >>= _) _ _ s; exact wpAny_bind (wpAny_standAt (wpAny_bind (wpAny_mono h (fun it' s' h' => wpAny_pure (And.intro rfl h')) fun _ _ x => x))))
theorem inner_names {tg0 iter0 iter1 : Expr} {y : Str} {py p1 : Pos} {scope : Scope} {pos : Pos} {cl : List (Str × Nat)} {C D J b : Nat} {cs : Array Value} {ss : List Str} {m cm : Str -> Option Value} {ys : List Value} {ws : List Str}
  (hh : A.handled = none) (hkind : scope.kind = .function) (hy : (relabel scope env).names.lookup y = some .local) (hd : (y == ("__debug__" : Str)) = false)
  (hbJ : b ≠ J) (hCJ : C ≠ J) (hCb : C ≠ b) (hDJ : D ≠ J) (hDb : D ≠ b) (hDC : D ≠ C) (hss : StrsAre cs.toList ss) (hws : StrsAre ys ws) (hlen : ys.length + cs.size <= sizeLine)
  (hit : s.heap.IsTupleIter J b 0) (hb : s.heap.IsTuple b cs) (hpl : s.heap.PlainList D ys.toArray) (F : Fram C [] m cm s)
  (hR : ∀ s' ys' m', Gr [J, C, D] s s' -> s'.heap.PlainList D ys'.toArray -> ys'.length = ys.length + cs.size -> StrsAre ys' (ws ++ ss) -> Fram C [] m' cm s' -> R (.ok .next) s') :
  codeAny (model prog w) A (.compLoop (.ListComp (.Name y p1) [⟨tg0, iter0, [], 0⟩, ⟨.Name y py, iter1, [], 0⟩] scope pos) 1 (.ref J) (.ref D) (cEnv scope cl C env)) R s := by
 have S := srcTuple (prog := prog) (w := w) (A := A) hh (.Name y py) J b hbJ cs
 have hsl : ss.length = cs.size := by have := hss.len; simpa using this.symm
 refine codeAny_loop rfl (fun k s' => X3_8 (fun i ys' m' => (s'.heap.IsTupleIter J b i /\ s'.heap.IsTuple b cs)) (fun i ys' m' => i <= cs.size) (fun i ys' m' => k = cs.size + 1 - i) (fun i ys' m' => Gr [J, C, D] s s') (fun i ys' m' => s'.heap.PlainList D ys'.toArray) (fun i ys' m' => ys'.length = ys.length + i) (fun i ys' m' => StrsAre ys' (ws ++ ss.take i)) (fun i ys' m' => Fram C [] m' cm s')) ?_ (cs.size + 1)
  ⟨0, ys, m, ⟨hit, hb⟩, Nat.zero_le _, rfl, .refl _, hpl, rfl, by simpa using hws, F⟩
 rintro k s' ⟨i, ys', m', hSt, hi, rfl, hG, hpl', hl', hws', F'⟩
 show wpAny _ A ((compTurn (.ListComp (.Name y p1) [⟨tg0, iter0, [], 0⟩, ⟨.Name y py, iter1, [], 0⟩] scope pos) 1 (.ref J) (.ref D) (cEnv scope cl C env)).onRaise (fun x => do noteFrame x (cEnv scope cl C env); theTreesLotGoes x)) _ _ s'
 refine wpAny_noted ?_
 rw [turn_two1]
 refine wpAny_bind (wpAny_standAt (wpAny_bind ?_))
 by_cases hlt : i < cs.size
 ·refine wpAny_mono (S.item i s' (fun v s₅ => Gr [J] s' s₅ /\ (s₅.heap.IsTupleIter J b (i + 1) /\ s₅.heap.IsTuple b cs) /\ cs[i]? = some v) _ hlt hSt fun v s₅ g st p => ⟨g, st, p⟩) (fun r s₁ h₁ => ?_) fun _ _ e => e
  obtain ⟨v, rfl, h₁⟩ := h₁
  refine wpAny_bind (wpAny_mono h₁ (fun _ s₅ h₅ => ?_) fun _ _ e => e)
  obtain ⟨g5, st5, hv⟩ := h₅
  have F5 : Fram C [] m' cm s₅ := F'.gr g5 fun a ha hm => by
   rw [mS hm] at ha
   rcases mC ha with e | e
   ·exact hCJ e.symm
   ·cases e
  refine wpAny_bind (turn_name hy hkind F5 fun s₆ g6 F6 => wpAny_bind (wpAny_bind (c_local (v := v) hy hkind F6 (by simp) ?_ hd)))
  have pl6 : s₆.heap.PlainList D ys'.toArray := (hpl'.at fun o e => g5.keep D o (fun hm => hDJ (mS hm)) e).at fun o e => g6.keep D o (fun hm => hDC (mS hm)) e
  refine wpAny_bind (wpAny_list_append_plain (hsz := by rw [List.size_toArray]; lia) pl6 fun h₇ hl₇ hs₇ => wpAny_pure (wpAny_pure ⟨rfl, ?_⟩))
  have g7 : Gr [D] s₆ { s₆ with heap := h₇ } := gr_same (tk := s₆.toks) hs₇
  have hv' : cs.toList[i]? = some v := by simpa using hv
  obtain ⟨x, hx, t, rfl⟩ : ∃ x, ss[i]? = some x /\ ∃ t, v = .str x t := by
   have : ∀ {vs : List Value} {ss : List Str}, StrsAre vs ss -> ∀ {i : Nat} {v : Value}, vs[i]? = some v -> ∃ x, ss[i]? = some x /\ ∃ t, v = .str x t := by
    intro vs ss h
    induction h with
    | nil => intro i v h; simp at h
    | cons hr ih =>
     intro i v h
     rcases i with _ | _
     case zero => simp at h; subst h; exact ⟨_, rfl, _, rfl⟩
     case succ i =>
      obtain ⟨x, e1, e2⟩ := ih (i := i) (by simpa using h)
      exact ⟨x, by simpa using e1, e2⟩
   exact this hss hv'
  refine ⟨cs.size + 1 - (i + 1), by lia, i + 1, ys' ++ [.str x t], _, ?_, hlt, rfl, ?_, by simpa using hl₇, by simp; lia, ?_, F6.gr g7 fun a ha hm => ?_⟩
  ·exact ⟨(st5.1.at fun o e => g6.keep J o (fun hm => hCJ (mS hm).symm) e).at fun o e => g7.keep J o (fun hm => hDJ (mS hm).symm) e,
    (st5.2.at fun o e => g6.keep b o (fun hm => hCb (mS hm).symm) e).at fun o e => g7.keep b o (fun hm => hDb (mS hm).symm) e⟩
  ·exact ((hG.trans (g_new g5 (.head _))).trans (g_new g6 (.tail _ (.head _)))).trans (g_new g7 (.tail _ (.tail _ (.head _))))
  ·rw [take_succ hx, <- List.append_assoc]; exact hws'.snoc
  ·rw [mS hm] at ha
   rcases mC ha with e | e
   ·exact hDC e
   ·cases e
 ·have hin : i = cs.size := by lia
  subst hin
  refine wpAny_mono (S.done s' (fun s₅ => Gr [J] s' s₅) _ hSt fun s₅ g => g) (fun r s₅ h₅ => ?_) fun _ _ e => e
  obtain ⟨rfl, g5⟩ := h₅
  refine wpAny_pure (hR s₅ ys' m' (hG.trans (g_new g5 (.head _))) (hpl'.at fun o e => g5.keep D o (fun hm => hDJ (mS hm)) e) hl' ?_ (F'.gr g5 fun a ha hm => ?_))
  ·rw [List.take_of_length_le (by lia)] at hws'; exact hws'
  ·rw [mS hm] at ha
   rcases mC ha with e | e
   ·exact hCJ e.symm
   ·cases e
theorem RecAt.cs {h : Heap} {v : Value} {r : Rc} (e : RecAt h v r) : X4_5 (fun a vs b cs => v = .ref a) (fun a vs b cs => h.IsTuple a vs) (fun a vs b cs => vs[5]? = some (.ref b)) (fun a vs b cs => h.IsTuple b cs) (fun a vs b cs => StrsAre cs.toList r.cs) := by
 obtain ⟨a, b, t0, t1, t2, t3, t4, cs, rfl, e1, e2, e3⟩ := e
 exact ⟨a, _, b, cs, rfl, e1, rfl, e2, e3⟩
theorem ev_names {x y : Str} {px p1 p2 p3 py p4 pos : Pos} {kd : Nat} {iter : Expr} {scope : Scope} {Q : Value -> Shared -> Prop} (S : CompS scope env []) (hx : (relabel scope env).names.lookup x = some .local) (hy : (relabel scope env).names.lookup y = some .local)
  (hc : ∀ C, cellsFrom (C + 1) scope.names [] = []) (hh : A.handled = none) (hdx : (x == ("__debug__" : Str)) = false) (hdy : (y == ("__debug__" : Str)) = false)
  (h : wpAny (model prog w) A (eval iter env) (fun v s₁ => X3_6 (fun (l : Nat) (vs : Array Value) (rs : List Rc) => v = .ref l) (fun (l : Nat) (vs : Array Value) (rs : List Rc) => s₁.heap.IsList l vs) (fun (l : Nat) (vs : Array Value) (rs : List Rc) => vs.size <= 1000) (fun (l : Nat) (vs : Array Value) (rs : List Rc) => RecsAt s₁.heap vs.toList rs) (fun (l : Nat) (vs : Array Value) (rs : List Rc) => (∀ r ∈ rs, r.cs.length <= 3)) (fun (l : Nat) (vs : Array Value) (rs : List Rc) => ∀ D ys s', Gr [] s₁ s' -> s₁.heap.get? D = none -> s'.heap.PlainList D ys.toArray -> StrsAre ys (rs.flatMap (·.cs)) -> Q (.ref D) s')) E s)
  (hs : autoParam (∀ x, foldedSetIterable iter env x = pure x) byRfl) :
  wpAny (model prog w) A (eval (.ListComp (.Name y p1) [⟨.Name x px, iter, [], 0⟩, ⟨.Name y py, .Subscript (.Name x p2) (.Constant (.int ((5 : Nat) : Int)) kd p3) p4, [], 0⟩] scope pos) env) Q E s := by
 rw [eval_ListComp]
 refine wpAny_comprehension_free (use := none) rfl hs S.clos S.kind S.names (wpAny_mono h (fun v s₁ h₁ => ?_) fun _ _ e => e)
 obtain ⟨l, vs, rs, rfl, hl, hsz, hrs, hcs3, hQ⟩ := h₁
 refine over_list hl fun I s₂ G2 hI hit hl2 hne _ => ?_
 refine wpAny_newObj_type ?_
 generalize hs3 : ({ s₂ with heap := s₂.heap.push { cls := .type "list", data := .seq ([] : List Value).toArray } } : Shared) = s₃
 have hC : s₃.heap.objs.size = s₂.heap.objs.size + 1 := by rw [<- hs3]; exact Heap.size_push ..
 have hD3 : s₃.heap.PlainList s₂.heap.objs.size #[] := by rw [<- hs3]; exact ⟨0, Heap.get?_push_size _ rfl⟩
 have G3 : Gr [] s₂ s₃ := by rw [<- hs3]; exact gr_push (tk := s₂.toks)
 refine ev_cenv fun s₄ G4 F4 => ?_
 rw [hc] at F4
 generalize hCe : s₃.heap.objs.size = C at F4 ⊢
 generalize hDe : s₂.heap.objs.size = D at hD3 hC ⊢
 have hce : ({ newEnv scope C env.globals (cellsFrom (C + 1) scope.names [] ++ []) env.qual none .none (some env) builtinsNs with scope := relabel scope env } : Env) = cEnv scope [] C env := rfl
 rw [hce]
 have hDC : D ≠ C := by lia
 have hD0 : s₂.heap.get? D = none := new_at (by lia)
 have hC0 : s₂.heap.get? C = none := new_at (by lia)
 have hI2 : ∃ o, s₂.heap.get? I = some o := by obtain ⟨o, e, _⟩ := hit; exact ⟨o, e⟩
 have hl20 : ∃ o, s₂.heap.get? l = some o := by obtain ⟨o, e, _⟩ := hl2; exact ⟨o, e⟩
 have nn : ∀ {a b : Nat}, (∃ o, s₂.heap.get? a = some o) -> s₂.heap.get? b = none -> a ≠ b := fun h1 h2 e => by obtain ⟨o, ho⟩ := h1; rw [e, h2] at ho; cases ho
 have Sl := srcList (prog := prog) (w := w) (A := A) hh (.Name x px) I l hne vs
 have G24 : Gr [] s₂ s₄ := G3.trans G4
 have hrl : rs.length = vs.size := by have := hrs.length; simpa using this.symm
 have lens : ∀ i, i <= rs.length -> ((rs.take i).flatMap (·.cs)).length <= 3 * i := by
  intro i hi
  induction i with
  | zero => simp
  | succ i ih =>
   have e : rs[i]? = some rs[i] := List.getElem?_eq_getElem (by lia)
   rw [take_succ e, List.flatMap_append]
   simp only [List.length_append, List.flatMap_cons, List.flatMap_nil, List.append_nil]
   have := ih (by lia)
   have := hcs3 rs[i] (List.getElem_mem ..)
   lia
 have loop : codeAny (model prog w) A (.compLoop (.ListComp (.Name y p1) [⟨.Name x px, iter, [], 0⟩, ⟨.Name y py, .Subscript (.Name x p2) (.Constant (.int ((5 : Nat) : Int)) kd p3) p4, [], 0⟩] scope pos) 0 (.ref I) (.ref D) (cEnv scope [] C env)) (compPost (model prog w) A E none Q (.ref D) C) s₄ := by
  refine codeAny_loop rfl (fun k s' => X3_7 (fun i ys m => (s'.heap.IsListIter I l i /\ s'.heap.IsList l vs)) (fun i ys m => s'.heap.PlainList D ys.toArray) (fun i ys m => Fram C [] m (fun _ => none) s') (fun i ys m => StrsAre ys ((rs.take i).flatMap (·.cs))) (fun i ys m => i <= vs.size) (fun i ys m => k = vs.size + 1 - i) (fun i ys m => Gr [D, C, I] s₂ s')) ?_ (vs.size + 1)
   ⟨0, [], _, ⟨hit.at fun o e => G24.k I o e, hl2.at fun o e => G24.k l o e⟩, hD3.at fun o e => G4.k D o e, F4, .nil, Nat.zero_le _, rfl, G24.nil⟩
  rintro k s' ⟨i, ys, m, hSt, hpl, hF, hys, hi, rfl, hG⟩
  show wpAny _ A ((compTurn (.ListComp (.Name y p1) [⟨.Name x px, iter, [], 0⟩, ⟨.Name y py, .Subscript (.Name x p2) (.Constant (.int ((5 : Nat) : Int)) kd p3) p4, [], 0⟩] scope pos) 0 (.ref I) (.ref D) (cEnv scope [] C env)).onRaise (fun x => do noteFrame x (cEnv scope [] C env); theTreesLotGoes x)) _ _ s'
  refine wpAny_noted ?_
  rw [turn_two0]
  refine wpAny_bind (wpAny_standAt (wpAny_bind ?_))
  have hCI : C ≠ I := fun e => nn hI2 hC0 e.symm
  have hDI : D ≠ I := fun e => nn hI2 hD0 e.symm
  by_cases hlt : i < vs.size
  ·refine wpAny_mono (Sl.item i s' (fun v s₅ => Gr [I] s' s₅ /\ (s₅.heap.IsListIter I l (i + 1) /\ s₅.heap.IsList l vs) /\ vs[i]? = some v) _ hlt hSt fun v s₅ g st p => ⟨g, st, p⟩) (fun r s₁ h₁ => ?_) fun _ _ e => e
   obtain ⟨v, rfl, h₁⟩ := h₁
   refine wpAny_bind (wpAny_mono h₁ (fun _ s₅ h₅ => ?_) fun _ _ e => e)
   obtain ⟨g5, st5, hv⟩ := h₅
   have F5 : Fram C [] m (fun _ => none) s₅ := hF.gr g5 fun a ha hm => by
    rw [mS hm] at ha
    rcases mC ha with e | e
    ·exact hCI e.symm
    ·cases e
   refine wpAny_bind (turn_name hx S.kind F5 fun s₆ g6 F6 => wpAny_bind ?_)
   obtain ⟨r, hr, hvr⟩ := Paired.get hrs (i := i) (a := v) (by simpa using hv)
   have G6 : Gr [D, C, I] s₂ s₆ := (hG.trans (g_new g5 (.tail _ (.tail _ (.head _))))).trans (g_new g6 (.tail _ (.head _)))
   have old6 : ∀ b o, s₁.heap.get? b = some o -> True := fun _ _ _ => trivial
   have hvr6 : RecAt s₆.heap v r := hvr.keep fun a o e _ => G6.keep a o (fun hm => by
    have h2 := G2.k a o e
    replace hm := mr3 hm
    rcases hm with rfl | rfl | rfl
    ·rw [hD0] at h2; cases h2
    ·rw [hC0] at h2; cases h2
    ·rw [hI] at e; cases e) (G2.k a o e)
   obtain ⟨a, tv, b, cs, rfl, ha, h5, hb, hss⟩ := hvr6.cs
   refine ev_subC (by decide) (c_local (v := .ref a) hx S.kind F6 (by simp) ⟨a, tv, _, rfl, ha, h5, fun tk => ?_⟩ hdx)
   refine wpAny_bind (wpAny_standAt (wpAny_bind (wpAny_pure (wpAny_bind (wpAny_holding ?_)))))
   refine over_tuple (s := { s₆ with toks := tk }) hb fun J s₇ G7 hJ hit7 hb7 hbJ => wpAny_bind (wpAny_runOwn ?_)
   have G7' : Gr [] s₆ s₇ := gr_tok.trans G7
   have F7 : Fram C [] (fun z => if z = x then some (.ref a) else m z) (fun _ => none) s₇ := F6.gr0 G7'
   have pl6 : s₆.heap.PlainList D ys.toArray := (hpl.at fun o e => g5.keep D o (fun hm => hDI (mS hm)) e).at fun o e => g6.keep D o (fun hm => hDC (mS hm)) e
   have pl7 : s₇.heap.PlainList D ys.toArray := pl6.at fun o e => G7'.k D o e
   have a6 : ∀ c, (∃ o, s₆.heap.get? c = some o) -> c ≠ J := fun c h1 e => by obtain ⟨o, ho⟩ := h1; rw [e] at ho; have hJ' : s₆.heap.get? J = none := hJ; rw [hJ'] at ho; cases ho
   have hCJ : C ≠ J := a6 C (by obtain ⟨o, _, _, e, _⟩ := F6.ns; exact ⟨o, e⟩)
   have hDJ : D ≠ J := a6 D (by obtain ⟨_, e⟩ := pl6; exact ⟨_, e⟩)
   have hbs : ∃ o, s₆.heap.get? b = some o := by obtain ⟨o, e, _⟩ := hb; exact ⟨o, e⟩
   have hb2 : ∃ o, s₂.heap.get? b = some o := by
    obtain ⟨a', tv', b', cs', e1, e2, e3, e4, _⟩ := hvr.cs
    cases e1
    have e6 : s₆.heap.IsTuple a tv' := e2.at fun o e => G6.keep a o (fun hm => by
     have h2 := G2.k a o e
     replace hm := mr3 hm
     rcases hm with rfl | rfl | rfl
     ·rw [hD0] at h2; cases h2
     ·rw [hC0] at h2; cases h2
     ·rw [hI] at e; cases e) (G2.k a o e)
    have : tv' = tv := by
     obtain ⟨o, q1, _, n, q2⟩ := e6
     obtain ⟨o', q3, _, n', q4⟩ := ha
     rw [q1] at q3; cases q3; rw [q2] at q4; cases q4; rfl
    subst this
    rw [e3] at h5; cases h5
    obtain ⟨o, q, _⟩ := e4
    exact ⟨o, G2.k _ o q⟩
   have hDb : D ≠ b := fun e => nn hb2 hD0 e.symm
   have hCb : C ≠ b := fun e => nn hb2 hC0 e.symm
   have hcl : cs.size <= 3 := by have := hss.len; have h3 := hcs3 r (List.mem_of_getElem? hr); simp at this; lia
   have hysl : ys.length <= 3 * i := by rw [hys.len]; exact lens i (by lia)
   have e9 : sizeLine = 16777216 := rfl
   have fin : ∀ s' ys' m', Gr [J, C, D] s₇ s' -> s'.heap.PlainList D ys'.toArray -> ys'.length = ys.length + cs.size -> StrsAre ys' ((rs.take i).flatMap (·.cs) ++ r.cs) -> Fram C [] m' (fun _ => none) s' ->
     ∃ m, m < vs.size + 1 - i /\ X3_7 (fun i' ys m₁ => (s'.heap.IsListIter I l i' /\ s'.heap.IsList l vs)) (fun i' ys m₁ => s'.heap.PlainList D ys.toArray) (fun i' ys m₁ => Fram C [] m₁ (fun _ => none) s') (fun i' ys m₁ => StrsAre ys ((rs.take i').flatMap (·.cs))) (fun i' ys m₁ => i' <= vs.size) (fun i' ys m₁ => m = vs.size + 1 - i') (fun i' ys m₁ => Gr [D, C, I] s₂ s') := by
    intro s' ys' m' g8 pl8 hl8 hs8 F8
    have G8 : Gr [J, D, C, I] s₂ s' := ((G6.widen fun c hc => List.mem_cons_of_mem _ hc).trans G7'.nil).trans (g8.widen fun c hc => by
     simp only [List.mem_cons, List.not_mem_nil, or_false] at hc ⊢
     rcases hc with h | h | h <;> simp [h])
    have k8 : ∀ c o, (∃ o, s₂.heap.get? c = some o) -> s₆.heap.get? c = some o -> s'.heap.get? c = some o := fun c o hc e => g8.keep c o (fun hm => by
     replace hm := mr3 hm
     rcases hm with rfl | rfl | rfl
     ·exact a6 _ ⟨o, e⟩ rfl
     ·exact nn hc hC0 rfl
     ·exact nn hc hD0 rfl) (G7'.k c o e)
    have st6 : s₆.heap.IsListIter I l (i + 1) /\ s₆.heap.IsList l vs := ⟨st5.1.at fun o e => g6.keep I o (fun hm => hCI (mS hm).symm) e, st5.2.at fun o e => g6.keep l o (fun hm => nn hl20 hC0 (mS hm)) e⟩
    refine ⟨vs.size + 1 - (i + 1), by lia, i + 1, ys', m', ⟨st6.1.at fun o e => k8 I o hI2 e, st6.2.at fun o e => k8 l o hl20 e⟩, pl8, F8, ?_, hlt, rfl, G8.shrink fun c hc => ?_⟩
    ·rw [take_succ hr, List.flatMap_append]
     simpa using hs8
    ·rcases mD hc with rfl | hc
     ·right
      cases q : s₂.heap.get? J with
      | none => rfl
      | some o =>
       by_cases hm : J ∈ [D, C, I]
       ·replace hm := mr3 hm
        rcases hm with rfl | rfl | rfl
        ·exact absurd rfl hDJ
        ·exact absurd rfl hCJ
        ·exfalso
         obtain ⟨o', e', _⟩ := st6.1
         exact a6 _ ⟨o', e'⟩ rfl
       ·exact absurd rfl (a6 J ⟨o, G6.keep J o hm q⟩)
     ·exact .inl hc
   have il : ∀ R' : Result -> Shared -> Prop, (∀ s' ys' m', Gr [J, C, D] s₇ s' -> s'.heap.PlainList D ys'.toArray -> ys'.length = ys.length + cs.size -> StrsAre ys' ((rs.take i).flatMap (·.cs) ++ r.cs) -> Fram C [] m' (fun _ => none) s' -> R' (.ok .next) s') ->
     codeAny (model prog w) A (.compLoop (.ListComp (.Name y p1) [⟨.Name x px, iter, [], 0⟩, ⟨.Name y py, .Subscript (.Name x p2) (.Constant (.int ((5 : Nat) : Int)) kd p3) p4, [], 0⟩] scope pos) 1 (.ref J) (.ref D) (cEnv scope [] C env)) R' s₇ :=
    fun R' hR' => inner_names (cm := fun _ => none) hh S.kind hy hdy hbJ hCJ hCb hDJ hDb hDC hss hys (by lia) hit7 hb7 pl7 F7 hR'
   refine start_two1 (il _ fun s' ys' m' a b c d e => ?_) (wpAny_pyIter_tupleiter hit7 (il _ fun s' ys' m' a b c d e => ?_))
   all_goals exact wpAny_pure ⟨rfl, fin s' ys' m' a b c d e⟩
  ·have hin : i = vs.size := by lia
   subst hin
   refine wpAny_mono (Sl.done s' (fun s₅ => Gr [I] s' s₅) _ hSt fun s₅ g => g) (fun r s₅ h₅ => ?_) fun _ _ e => e
   obtain ⟨rfl, g5⟩ := h₅
   refine wpAny_pure ?_
   have F5 : Fram C [] m (fun _ => none) s₅ := hF.gr g5 fun a ha hm => by
    rw [mS hm] at ha
    rcases mC ha with e | e
    ·exact hCI e.symm
    ·cases e
   refine ⟨m, F5.ns, fun h' hs' => ?_⟩
   have g6 : Gr [C] s₅ { s₅ with heap := h' } := gr_same (tk := s₅.toks) hs'
   rw [List.take_of_length_le (by lia)] at hys
   have G6 : Gr [D, C, I] s₂ { s₅ with heap := h' } := (hG.trans (g_new g5 (.tail _ (.tail _ (.head _))))).trans (g_new g6 (.tail _ (.head _)))
   refine hQ D ys _ ((G2.nil.trans G6).new fun a ha => ?_) (G2.dead (fun h => nomatch h) hD0) ((hpl.at fun o e => g5.keep D o (fun hm => hDI (mS hm)) e).at fun o e => hs'.extBut D o hDC e) hys
   replace ha := mr3 ha
   rcases ha with rfl | rfl | rfl
   ·exact G2.dead (fun h => nomatch h) hD0
   ·exact G2.dead (fun h => nomatch h) hC0
   ·exact hI
 exact codeAny_compStart_list loop (Sl.self 0 _ _ _ ⟨hit.at fun o e => G24.k I o e, hl2.at fun o e => G24.k l o e⟩ loop)
end
noncomputable def selO (o : Str) (rs : List Rc) : List Rc := rs.reverse.filter fun r => decide (r.owner = o)
noncomputable def theirsOf (c : Str) (back : List Rc) : List Rc := back.filter fun r => r.cs.any fun x => decide (x = c)
noncomputable def wordsT (back : List Rc) (c : Str) : T :=
 if c = "r" then .s (cat ((theirsOf c back).reverse.map (colN 2)))
 else if c = "p" then .t [.s (cat ((theirsOf c back).map (colN 1))), .s (cat ((theirsOf c back).map (colN 2)))]
 else .t [.s (cat ((theirsOf c back).map (colN 3))), .s (cat ((theirsOf c back).map (colN 4)))]
noncomputable def lineT (back : List Rc) (c : Str) : T := .t [.s c, wordsT back c, .b (!decide (c = "r") && decide ((theirsOf c back).length = 1))]
noncomputable def uniq : List Str -> List Str -> List Str
 | seen, [] => seen
 | seen, c :: r => if (seen.any fun x => decide (x = c)) then uniq seen r else uniq (seen ++ [c]) r
theorem uniq_snoc : ∀ (l : List Str) (seen : List Str) (c : Str), uniq seen (l ++ [c]) = if ((uniq seen l).any fun x => decide (x = c)) then uniq seen l else uniq seen l ++ [c]
 | [], seen, c => rfl
 | d :: l, seen, c => by
  show uniq seen (d :: (l ++ [c])) = _
  unfold uniq
  split
  ·exact uniq_snoc l seen c
  ·exact uniq_snoc l _ c
noncomputable def rowT (rs : List Rc) (o : Str) : T :=
 .t [.s o, .t [.s (cat ((selO o rs).map (colN 1))), .s (cat ((selO o rs).map (colN 2))), .s (cat ((selO o rs).map (colN 3))), .s (cat ((selO o rs).map (colN 4)))],
  .l ((uniq [] ((selO o rs).reverse.flatMap (·.cs))).map (lineT (selO o rs)))]
noncomputable def toldT (rs : List Rc) : T := .l ((uniq [] (rs.map (colN 0))).map (rowT rs))
structure Tame (rs : List Rc) : Prop where
 len : rs.length <= 100
 cs : ∀ r ∈ rs, r.cs.length <= 3
 pq : ∀ r ∈ rs, ∀ c ∈ r.cs, c = "p" \/ c = "q" \/ c = "r"
 col : ∀ r ∈ rs, ∀ k, (colN k r).length <= 100
theorem sum_le {l : List Str} (h : ∀ x ∈ l, x.length <= 100) : (l.map (·.length)).sum <= 100 * l.length := by
 induction l with
 | nil => simp
 | cons a l ih =>
  have := h a (.head _)
  have := ih fun x hx => h x (.tail _ hx)
  simp only [List.map_cons, List.sum_cons, List.length_cons]
  lia
theorem col_sum {l : List Rc} {k : Nat} (h : ∀ r ∈ l, (colN k r).length <= 100) (hl : l.length <= 100) : ((l.map (colN k)).map (·.length)).sum + (l.map (colN k)).length <= 1048576 := by
 have := sum_le (l := l.map (colN k)) fun x hx => by
  obtain ⟨r, hr, rfl⟩ := List.mem_map.mp hx
  exact h r hr
 simp only [List.length_map] at this ⊢
 lia
noncomputable abbrev ltB : List Stmt := bodyOf (atB prgB 15)
noncomputable abbrev tEnv (L : Nat) : Env := callEnvC fdTold L 249
noncomputable abbrev tCs (L : Nat) : List (Str × Nat) := [("theirs", L + 4), ("caller", L + 3), ("back", L + 2), ("owner", L + 1)]
theorem tEnv_cells (L : Nat) : (tEnv L).cells = tCs L := by kernel_rfl
section
variable {prog : Program} {w : World} {A : Around} {E : Value -> Shared -> Prop} {s : Shared} {env : Env}
theorem ev_subN_any {value : Expr} {x : Str} {p : Pos} {pos : Pos} {Q : Value -> Shared -> Prop}
  (h : wpAny (model prog w) A (eval value env) (fun o s₁ => wpAny (model prog w) A (eval (.Name x p) env) (fun i s₂ => SubscriptOn (model prog w) A o i Q E s₂) E s₁) E s) :
  wpAny (model prog w) A (eval (.Subscript value (.Name x p) pos) env) Q E s := by
 rw [eval_Subscript]
 refine wpAny_bind (wpAny_mono h (fun o s₁ h₁ => wpAny_bind (wpAny_holding (wpAny_mono h₁ (fun i s₂ h₂ => wpAny_bind (wpAny_standAt ?_)) fun _ _ x => x)))
  fun _ _ x => x)
 obtain ⟨T, id, hl, hT, hg⟩ := h₂
 refine wpAny_bind ?_
 rw [getitemInPython_of_ne hT.not_modules]
 refine wpAny_bind (wpAny_specialOf hT hl ?_)
 have fin : wpAny (model prog w) A (operate [o, i] (getItem o i)) (fun r s₃ => wpAny (model prog w) A (letTemporaryGo value o r >>= fun _ => pure r) Q E s₃) E s₂ :=
  wpAny_operating (wpAny_mono hg (fun r s₃ h₃ => wpAny_bind (wpAny_letTemporaryGo (wpAny_pure h₃))) fun _ _ x => x)
 first
  | exact wpAny_pure (wpAny_bind fin)
  | exact wpAny_bind (wpAny_pure (wpAny_bind fin))
  | exact wpAny_bind fin
theorem ev_subC_any {value : Expr} {c : Const} {kd : Nat} {p : Pos} {pos : Pos} {Q : Value -> Shared -> Prop}
  (h : wpAny (model prog w) A (eval value env) (fun o s₁ => wpAny (model prog w) A (eval (.Constant c kd p) env) (fun i s₂ => SubscriptOn (model prog w) A o i Q E s₂) E s₁) E s) :
  wpAny (model prog w) A (eval (.Subscript value (.Constant c kd p) pos) env) Q E s := by
 rw [eval_Subscript]
 refine wpAny_bind (wpAny_mono h (fun o s₁ h₁ => wpAny_bind (wpAny_holding (wpAny_mono h₁ (fun i s₂ h₂ => wpAny_bind (wpAny_standAt ?_)) fun _ _ x => x)))
  fun _ _ x => x)
 obtain ⟨T, id, hl, hT, hg⟩ := h₂
 refine wpAny_bind ?_
 rw [getitemInPython_of_ne hT.not_modules]
 refine wpAny_bind (wpAny_specialOf hT hl ?_)
 have fin : wpAny (model prog w) A (operate [o, i] (getItem o i)) (fun r s₃ => wpAny (model prog w) A (letTemporaryGo value o r >>= fun _ => pure r) Q E s₃) E s₂ :=
  wpAny_operating (wpAny_mono hg (fun r s₃ h₃ => wpAny_bind (wpAny_letTemporaryGo (wpAny_pure h₃))) fun _ _ x => x)
 first
  | exact wpAny_pure (wpAny_bind fin)
  | exact wpAny_bind (wpAny_pure (wpAny_bind fin))
  | exact wpAny_bind fin
theorem intTup {t : Nat} {vs : Array Value} {k : Nat} {u : Tok} {v : Value} {Q : Value -> Shared -> Prop} (hT : s.heap.IsTuple t vs) (hk : k < 2 ^ 62) (hv : vs[k]? = some v) (hQ : Q v s) : SubscriptOn (model prog w) A (.ref t) (.int (k : Int) u) Q E s := by
 have hlt : k < vs.size := by
  rcases Nat.lt_or_ge k vs.size with q | q
  ·exact q
  ·rw [Array.getElem?_eq_none q] at hv; cases hv
 refine ⟨"tuple", _, PyProof.Rows.slot_tuple_getitem.lookup, ?_, PyProof.Rows.getItem_tuple (j := k) hT ?_ ?_ ?_ hv hQ⟩
 ·obtain ⟨o, e, hc, _⟩ := hT
  exact ⟨o, e, hc⟩
 ·lia
 ·lia
 ·unfold seqIndex?
  have h0 : ¬ ((k : Int) < 0) := by lia
  simp [h0, hlt]
theorem ev_first {x : Str} {p pos p1 p2 p3 p4 p5 : Pos} {k1 k2 k3 k4 : Nat} {c : Str} {Q : Value -> Shared -> Prop} (hcp : c = "p" \/ c = "q")
  (hn : ∀ s₁ Q', Gr [] s s₁ -> (∀ tc, Q' (.str c tc) s₁) -> wpAny (model prog w) A (eval (.Name x p) env) Q' E s₁)
  (hQ : ∀ t s', Gr [] s s' -> Q (.int ((if c = "p" then 1 else 3 : Nat) : Int) t) s') :
  wpAny (model prog w) A (eval (.Subscript (.Dict [some (.Constant (.str "p") k1 p1), some (.Constant (.str "q") k2 p2)] [.Constant (.int 1) k3 p3, .Constant (.int 3) k4 p4] p5) (.Name x p) pos) env) Q E s := by
 refine ev_subN_any ?_
 refine wpAny_Dict_walk (knd := PySem.strKind prog w) (by rfl) (by rfl) (by simp) (by show 2 <= 15; decide) ?_
 refine pairTrees_cons_walk (wpAny_Constant_str (wpAny_Constant_int (pairTrees_cons_walk (wpAny_Constant_str (wpAny_Constant_int (pairTrees_nil_walk ?_))))))
 refine display_done_str (by rfl) (by simp [strPairs]; decide) (by exact Heap.DictOf.new s.heap) fun h' hd hs => ?_
 have G : Gr [] s { s with heap := h', toks := s.toks + 1 + 1 + 1 + 1 + 2 } := gr_keep fun b o e => hs.extBut b o (Nat.ne_of_lt (Heap.lt_size e)) (Heap.get?_push_of_some _ e)
 refine hn _ _ G fun tc => ?_
 have hd' : h'.MapOf (PySem.strKind prog w) s.heap.objs.size (valueAt [("p", .int 1 (s.toks + 1)), ("q", .int 3 (s.toks + 1 + 1 + 1))]) := hd.mapOf
 refine ⟨"dict", _, slot_dict_getitem.lookup, hd.typeIs (s := { s with heap := h', toks := s.toks + 1 + 1 + 1 + 1 + 2 }), ?_⟩
 have hkey : (PySem.strKind prog w).is c (.str c tc) = true := by show (c == c) = true; simp
 rcases hcp with rfl | rfl
 ·exact wpAny_getItem_of hkey hd' (v := .int 1 (s.toks + 1)) rfl (hQ _ _ (G.tok _))
 ·exact wpAny_getItem_of hkey hd' (v := .int 3 (s.toks + 1 + 1 + 1)) (by kernel_rfl) (hQ _ _ (G.tok _))
theorem evI {i : Int} {k : Nat} {pos : Pos} {Q : Value -> Shared -> Prop} (h : ∀ t s', Gr [] s s' -> Q (.int i t) s') : wpAny (model prog w) A (eval (.Constant (.int i) k pos) env) Q E s := wpAny_Constant_int (h _ _ gr_tok)
theorem evS {x : Str} {k : Nat} {pos : Pos} {Q : Value -> Shared -> Prop} (h : ∀ t s', Gr [] s s' -> Q (.str x t) s') : wpAny (model prog w) A (eval (.Constant (.str x) k pos) env) Q E s := wpAny_Constant_str (h _ _ gr_tok)
theorem addI {a b : Int} {t u : Tok} {Q : Value -> Shared -> Prop} (h : ∀ t s', Gr [] s s' -> Q (.int (a + b) t) s') : wpAny (model prog w) A (binaryOp .Add (.int a t) (.int b u)) Q E s := PySem.P.add_int (h _ _ gr_tok)
noncomputable def evalsAll (prog : Program) (w : World) (A : Around) (E : Value -> Shared -> Prop) (env : Env) : List Expr -> (List Value -> Shared -> Prop) -> Shared -> Prop
 | [], Q, s => Q [] s
 | e :: r, Q, s => wpAny (model prog w) A (eval e env) (fun v s₁ => evalsAll prog w A E env r (fun vs => Q (v :: vs)) s₁) E s
theorem evalsAll_spliced {pos : Pos} : ∀ (elts : List Expr) (Q : List Value -> Shared -> Prop) (s : Shared), evalsAll prog w A E env elts Q s -> wpAny (model prog w) A (spliced (backTo pos (elts.map fun e => (false, eval e env)))) Q E s
 | [], Q, s, h => spliced_nil h
 | e :: r, Q, s, h => spliced_cons (wpAny_mono (show wpAny (model prog w) A (eval e env) (fun v s₁ => evalsAll prog w A E env r (fun vs => Q (v :: vs)) s₁) E s from h) (fun v s₁ h₁ => evalsAll_spliced r _ s₁ h₁) fun _ _ e => e)
theorem evT {elts : List Expr} {k : Nat} {pos : Pos} {Q : Value -> Shared -> Prop}
  (h : evalsAll prog w A E env elts (fun vs s₁ => vs.length <= sizeLine /\ ∀ T s', Gr [] s₁ s' -> s₁.heap.get? T = none -> s'.heap.get? T = some (tup vs.toArray) -> Q (.ref T) s') s) (hst : autoParam (starEach elts env = elts.map fun e => (false, eval e env)) byRfl) : wpAny (model prog w) A (eval (.Tuple elts k pos) env) Q E s :=
 wpAny_Tuple (by rw [hst]; exact wpAny_mono (evalsAll_spliced _ _ _ h) (fun vs s₁ h₁ => ⟨h₁.1, h₁.2 _ _ (gr_push (tk := s₁.toks)) (new_at (Nat.le_refl _)) (Heap.get?_push_size _ rfl)⟩) fun _ _ e => e)
theorem evL {elts : List Expr} {pos : Pos} {Q : Value -> Shared -> Prop}
  (h : evalsAll prog w A E env elts (fun vs s₁ => vs.length <= sizeLine /\ ∀ T s', Gr [] s₁ s' -> s₁.heap.get? T = none -> s'.heap.PlainList T vs.toArray -> Q (.ref T) s') s) (hst : autoParam (starEach elts env = elts.map fun e => (false, eval e env)) byRfl) : wpAny (model prog w) A (eval (.List elts pos) env) Q E s :=
 wpAny_List (by rw [hst]; exact wpAny_mono (evalsAll_spliced _ _ _ h) (fun vs s₁ h₁ => ⟨h₁.1, h₁.2 _ _ (gr_push (tk := s₁.toks)) (new_at (Nat.le_refl _)) ⟨0, Heap.get?_push_size _ rfl⟩⟩) fun _ _ e => e)
theorem isTup {h : Heap} {a : Nat} {vs : Array Value} (e : h.get? a = some (tup vs)) : h.IsTuple a vs := ⟨_, e, rfl, _, rfl⟩
theorem ev_and {e1 e2 : Expr} {pos : Pos} {Q : Value -> Shared -> Prop} (h : wpAny (model prog w) A (eval e1 env) (fun v s₁ => ∃ b, v = .bool b /\ (if b = true then wpAny (model prog w) A (eval e2 env) Q E s₁ else Q (.bool false) s₁)) E s) :
  wpAny (model prog w) A (eval (.BoolOp .And [e1, e2] pos) env) Q E s := by
 rw [arm_eval_BoolOp]
 show wpAny _ _ (eval e1 env >>= fun v => standAt pos >>= fun _ => holding [v] (truthy v) >>= fun t => match BoolOp.And, t with
  | .And, false | .Or, true => pure v
  | _, _ => boolOp pos .And [eval e2 env]) Q E s
 refine wpAny_bind (wpAny_mono h (fun v s₁ h₁ => ?_) fun _ _ e => e)
 obtain ⟨b, rfl, h₁⟩ := h₁
 refine wpAny_bind (wpAny_standAt (wpAny_bind (wpAny_holding (wpAny_truthy_bool ?_))))
 rcases b with _ | _
 case false => exact wpAny_pure h₁
 case true => exact h₁
theorem ev_append {o elt : Expr} {apos pos : Pos} {Q : Value -> Shared -> Prop} (hbase : attributeBase o "append" env (eval o env) = eval o env) (hst : starEach [elt] env = [(false, eval elt env)]) (hline : (apos.endLine == pos.line) = true)
  (h : wpAny (model prog w) A (eval o env) (fun ov s₁ => X2_4 (fun D its => ov = .ref D) (fun D its => s₁.heap.PlainList D its) (fun D its => its.size <= sizeLine) (fun D its => wpAny (model prog w) A (eval elt env) (fun y s₂ => s₂.heap.PlainList D its /\ ∀ s', Gr [D] s₂ s' -> s'.heap.PlainList D (its.push y) -> Q .none s') E s₁)) E s) :
  wpAny (model prog w) A (eval (.Call (.Attribute o "append" apos) [elt] [] pos) env) Q E s := by
 refine wpAny_Call_append hbase (by rw [hst]; rfl) hline (by rw [hst]; rfl) (wpAny_mono h (fun ov s₁ h₁ => ?_) fun _ _ e => e)
 obtain ⟨D, its, rfl, hpl, hsz, hy⟩ := h₁
 obtain ⟨n, ho⟩ := id hpl
 refine ⟨D, its, rfl, ⟨_, n, ho, rfl, rfl, rfl⟩, wpAny_mono hy (fun y s₂ h₂ => ?_) fun _ _ e => e⟩
 exact wpAny_list_append_plain (hsz := hsz) h₂.1 fun h' hl hs => h₂.2 _ (gr_same (tk := s₂.toks) hs) hl
theorem ev_len {b1 b2 : Bool} {w : World} {arg : Expr} {np pos : Pos} {Q : Value -> Shared -> Prop} (hs : Stat b1 b2 w s.heap) (hst : starEach [arg] env = [(false, eval arg env)])
  (h : wpAny (model theProg (wW b1 b2 w)) A (eval arg env) (fun v s₁ => X2_4 (fun D items => v = .ref D) (fun D items => s₁.heap.IsList D items) (fun D items => items.size <= sizeLine) (fun D items => ∀ t s', Gr [] s₁ s' -> Q (.int (items.size : Int) t) s')) E s)
  (hk : autoParam (env.scope.kind = .function) byRfl) (hx : autoParam (env.kindOf "len" = some .globalImplicit) byRfl) (h3 : autoParam (env.globals = 3) byRfl) (h0 : autoParam (env.builtins = 0) byRfl) :
  wpAny (model theProg (wW b1 b2 w)) A (eval (.Call (.Name "len" np) [arg] [] pos) env) Q E s := by
 refine wpAny_Call_ofName (ev_buil hs (bu_len _) ?_ hk hx h3 h0)
 rw [hst]
 refine callWith_builtin rfl (evalArgs_plain (spliced_cons (wpAny_mono h (fun v s₁ h₁ => spliced_nil ?_) fun _ _ e => e)))
 obtain ⟨D, items, rfl, hl, hsz, hQ⟩ := h₁
 refine call_len_list hl ?_ (hQ _ _ gr_tok)
 have e9 : sizeLine = 16777216 := rfl
 lia
theorem ev_colName {x c : Str} {px p1 p2 p3 pos : Pos} {iter : Expr} {scope : Scope} {cl : List (Str × Nat)} {k : Nat} {Q : Value -> Shared -> Prop} (S : CompS scope env cl) (hx : (relabel scope env).names.lookup x = some .local) (hh : A.handled = none)
  (hc : (relabel scope env).names.lookup c = some .cell) {cc : Nat} (hcl : ∀ C, (cellsFrom (C + 1) scope.names [] ++ cl).lookup c = some cc) (hk : k < 5) (hdx : (x == ("__debug__" : Str)) = false) (hdc : (c == ("__debug__" : Str)) = false)
  (h : wpAny (model prog w) A (eval iter env) (fun v s₁ => X4_6 (fun (l : Nat) (vs : Array Value) (rs : List Rc) (tk : Tok) => v = .ref l) (fun (l : Nat) (vs : Array Value) (rs : List Rc) (tk : Tok) => s₁.heap.IsList l vs) (fun (l : Nat) (vs : Array Value) (rs : List Rc) (tk : Tok) => vs.size <= sizeLine) (fun (l : Nat) (vs : Array Value) (rs : List Rc) (tk : Tok) => RecsAt s₁.heap vs.toList rs) (fun (l : Nat) (vs : Array Value) (rs : List Rc) (tk : Tok) => s₁.heap.IsCell cc (some (.int (k : Int) tk))) (fun (l : Nat) (vs : Array Value) (rs : List Rc) (tk : Tok) => ∀ D ys s', Gr [] s₁ s' -> s₁.heap.get? D = none -> s'.heap.PlainList D ys.toArray -> StrsAre ys (rs.map (colN k)) -> Q (.ref D) s')) E s)
  (hs : autoParam (∀ x, foldedSetIterable iter env x = pure x) byRfl) :
  wpAny (model prog w) A (eval (.ListComp (.Subscript (.Name x p1) (.Name c p2) p3) [⟨.Name x px, iter, [], 0⟩] scope pos) env) Q E s := by
 refine ev_strs S hx hh (wpAny_mono h (fun v s₁ h₁ => ?_) fun _ _ e => e) hs
 obtain ⟨l, vs, rs, tk, rfl, hl, hsz, hrs, hcell, hQ⟩ := h₁
 refine ⟨l, vs, rs.map (colN k), rfl, hl, hsz, by have := hrs.length; simp at this ⊢; lia, fun i v y C s₄ m cm hv hy hC keep F hm E' => ?_, hQ⟩
 obtain ⟨y', hy', a, tv, tk', rfl, ha, hk'⟩ := Paired.get (hrs.col hk) (i := i) (a := v) (by simpa using hv)
 rw [hy] at hy'; cases hy'
 have hcell4 : s₄.heap.IsCell cc (some (.int (k : Int) tk)) := hcell.keeps keep
 exact wpAny_Subscript_Name_late (c_local hx S.kind F hm (c_free hc S.kind (hcl C) hcell4 (intTup (ha.at fun o e => keep a o e) (by lia) hk' ⟨⟨_, rfl⟩, .refl _⟩) hdc) hdx)
end
noncomputable def forB : Stmt -> List Stmt
 | .For _ _ b _ _ => b
 | _ => []
noncomputable abbrev ltIn : List Stmt := forB (atB (forB (atB ltB 1)) 4)
theorem VTs.col0 {N : Nat -> Prop} {h : Heap} {f : Str -> T} (hf : ∀ c, ∃ r, f c = .t (.s c :: r)) : ∀ {ss : List Str} {vs : List Value}, VTs N h (ss.map f) vs -> Paired (ColAt h 0) vs ss
 | [], vs, e => by unfold List.map VTs at e; subst e; exact .nil
 | c :: ss, vs, e => by
  rw [List.map_cons] at e
  unfold VTs at e
  obtain ⟨v, r, rfl, e1, e2⟩ := e
  obtain ⟨q, hq⟩ := hf c
  rw [hq] at e1
  unfold VT at e1
  obtain ⟨a, vs, rfl, _, ho, hl⟩ := e1
  unfold VTs at hl
  obtain ⟨v0, r0, e3, e4, _⟩ := hl
  unfold VT at e4
  obtain ⟨t, rfl⟩ := e4
  refine .cons ⟨a, vs, t, rfl, isTup ho, ?_⟩ (VTs.col0 hf e2)
  have : vs.toList[0]? = some (.str c t) := by rw [e3]; rfl
  simpa using this
section
variable {b1 b2 : Bool} {w : World} {A : Around} {E : Value -> Shared -> Prop} {s : Shared}
set_option maxHeartbeats 4000000 in
theorem told_in {L tb bk : Nat} {back : List Rc} {vb : Array Value} {zs : List Value} {seen : List Str} {m cm : Str -> Option Value} {c : Str} {tc : Tok} {own : List Nat} {Q : Flow -> Shared -> Prop} (hh : A.handled = none) (hs : Stat b1 b2 w s.heap)
  (F : Fram L (tCs L) m cm s) (hm : m "table" = some (.ref tb)) (hb : cm "back" = some (.ref bk)) (hc : cm "caller" = some (.str c tc)) (hbk : s.heap.IsList bk vb) (hbr : RecsAt s.heap vb.toList back) (ht : Tame back) (hcp : c = "p" \/ c = "q" \/ c = "r")
  (hpl : s.heap.PlainList tb zs.toArray) (hzs : VTs (· ∉ own) s.heap (seen.map (lineT back)) zs) (hzl : zs.length <= 1000) (htb : tb ∈ own) (hfr : ∀ a ∈ frL L (tCs L), a ∈ own) (halive : ∀ a ∈ own, ∃ o, s.heap.get? a = some o) (hL : 255 <= L) (htf : tb ∉ frL L (tCs L))
  (hQ : ∀ f s' m' cm' zs', (f = .next \/ f = .cont) -> Gr (tb :: frL L (tCs L)) s s' -> Fram L (tCs L) m' cm' s' -> (∀ x : Str, x ≠ "words" -> x ≠ "first" -> m' x = m x) -> (∀ x : Str, x ≠ "theirs" -> cm' x = cm x) -> s'.heap.PlainList tb zs'.toArray ->
   VTs (· ∉ own) s'.heap ((if (seen.any fun x => decide (x = c)) then seen else seen ++ [c]).map (lineT back)) zs' -> zs'.length <= zs.length + 1 -> Q f s') :
  wpAny (model theProg (wW b1 b2 w)) A (execs ltIn (tEnv L)) Q E s := by
 have hvl : vb.size = back.length := by simpa using hbr.length
 have hv100 : vb.size <= 100 := by rw [hvl]; exact ht.len
 have cellAt : ∀ {s' : Shared} {m' cm' : Str -> Option Value} (n : Str) (c : Nat) (v : Value), Fram L (tCs L) m' cm' s' -> (tCs L).lookup n = some c -> cm' n = some v -> s'.heap.IsCell c (some v) := fun n c v F h1 h2 => h2 ▸ F.cell n c h1
 refine wpAny_execs_cons (wpAny_If (wpAny_isTrue_Compare1 ?_))
 refine ev_cell (c := L + 3) (by rw [tEnv_cells]; rfl) (cellAt "caller" _ _ F rfl hc) ?_
 refine ev_col (cl := []) ⟨rfl, rfl, by decide, fun _ => rfl⟩ rfl (by decide) hh ?_
 refine ev_local F hm ⟨tb, zs.toArray, seen, rfl, hpl.isList, ?_, VTs.col0 (fun c => ⟨_, rfl⟩) hzs, fun D ys s₁ G1 hD hplD hys => ?_⟩
 ·rw [List.size_toArray]; exact Nat.le_trans hzl (by decide)
 refine cmpInL hplD.isList (by simpa using hys) (wpAny_truthy_bool ?_)
 have F1 := F.gr0 G1
 cases hseen : seen.any fun x => decide (x = c) with
 | true =>
  simp only [if_true]
  refine wpAny_execs_cons (wpAny_Continue ?_)
  refine hQ .cont s₁ m cm zs (.inr rfl) G1.nil F1 (fun _ _ _ => rfl) (fun _ _ => rfl) (hpl.at fun o e => G1.k _ o e) ?_ (Nat.le_succ _)
  rw [hseen, if_pos rfl]
  exact hzs.gr G1.nil
 | false =>
 simp only [Bool.false_eq_true, if_false]
 refine wpAny_execs_nil ?_
 dsimp only
 refine wpAny_execs_cons (wpAny_Assign_Name ?_)
 refine ev_sel (cl := [("caller", L + 3)]) (fun r => r.cs.any fun x => decide (x = c)) ⟨rfl, rfl, by decide, fun _ => rfl⟩ rfl hh ?_
 refine ev_cell (c := L + 2) (by rw [tEnv_cells]; rfl) (cellAt "back" _ _ F1 rfl hb) ⟨bk, vb, back, rfl, hbk.at fun o e => G1.k _ o e, ?_, hbr.gr0 G1, fun v r C s₄ m₄ cm₄ hr hvr hC keep F4 hm4 E' => ?_, fun D₂ ys₂ s₂ G2 hD2 hpl2 hlen2 hrs2 => ?_⟩
 ·exact Nat.le_trans hv100 (by decide)
 ·obtain ⟨a, tv, b, cs, rfl, ha, h5, hb', hss⟩ := hvr.cs
  refine wpAny_isTrue_Compare1 (c_free (c := L + 3) rfl rfl rfl ((cellAt "caller" _ _ F1 rfl hc).keeps keep) (ev_subC (by decide) (c_local rfl rfl F4 hm4 ⟨a, tv, _, rfl, ha, h5, fun tk => ?_⟩)))
  exact cmpInT (s := { s₄ with toks := tk }) hb' hss (wpAny_truthy_bool ⟨rfl, gr_tok⟩)
 have F2 := F1.gr0 G2
 have G02 : Gr [] s s₂ := G1.trans G2
 refine Fram.setC (cs := tCs L) (c := L + 4) F2 rfl rfl (by rw [tEnv_cells]; rfl) rfl fun s₃ G3 F3 => ?_
 dsimp only
 have htm : ∀ r ∈ theirsOf c back, r ∈ back := fun r hr => (List.mem_filter.mp hr).1
 have hys2 : ys₂.toArray.size <= sizeLine := by rw [List.size_toArray]; exact Nat.le_trans (Nat.le_trans hlen2 hv100) (by decide)
 have htl : (theirsOf c back).length <= 100 := Nat.le_trans (List.length_filter_le ..) ht.len
 have n3 : ∀ a, a ≠ L + 4 -> ∀ o, s₂.heap.get? a = some o -> s₃.heap.get? a = some o := fun a h o e => G3.keep a o (fun hm => h (mS hm)) e
 have inO : ∀ n x, (tCs L).lookup n = some x -> x ∈ frL L (tCs L) := fun n x h => List.mem_cons_of_mem _ (List.mem_map.mpr ⟨(n, x), PySem.mem_of_lookup h, rfl⟩)
 have h4O : L + 4 ∈ own := hfr _ (inO "theirs" _ rfl)
 have hD2L : D₂ ≠ L + 4 := fun e => by
  obtain ⟨o, ho⟩ := halive _ h4O
  have := G1.k _ o ho
  rw [e, this] at hD2; cases hD2
 have hpl3 : s₃.heap.PlainList D₂ ys₂.toArray := hpl2.at fun o e => n3 D₂ hD2L o e
 have htcs : ∀ p ∈ tCs L, (tCs L).lookup p.1 = some p.2 := by
  intro p hp
  replace hp := mr4 hp
  rcases hp with rfl | rfl | rfl | rfl <;> rfl
 have hrs3 : RecsAt s₃.heap ys₂ (theirsOf c back) := hrs2.gr G3 fun a ha => by rw [mS ha]; exact F2.noTup htcs _ (inO "theirs" _ rfl)
 have hs3 : Stat b1 b2 w s₃.heap := G3.stat (G02.stat0 hs) fun a ha => by rw [mS ha]; exact .inl (Nat.le_trans hL (Nat.le_add_right ..))
 have aliveAt : ∀ {s' : Shared} {m' cm' : Str -> Option Value}, Gr (frL L (tCs L)) s s' -> Fram L (tCs L) m' cm' s' -> ∀ a ∈ own, ∃ o, s'.heap.get? a = some o := fun {s' m' cm'} G F a ha => by
  by_cases hm : a ∈ frL L (tCs L)
  ·exact (F.noTup htcs a hm).alive
  ·obtain ⟨o, e⟩ := halive a ha
   exact ⟨o, G.keep a o hm e⟩
 have G03 : Gr (frL L (tCs L)) s s₃ := G02.nil.trans (g_new G3 (inO "theirs" _ rfl))
 have hD2own : D₂ ∉ own := not_mem_of_new (aliveAt G1.nil F1) hD2
 have hfrD : ∀ a ∈ frL L (tCs L), Dyn a := fun a ha => .inl (Nat.le_trans hL (frL_above F a ha))
 have hc3 := cellAt (s' := s₃) "caller" _ _ F3 rfl (by rw [if_neg (by decide)]; exact hc)
 have ht3 := cellAt (s' := s₃) "theirs" _ _ F3 rfl (by rw [if_pos rfl])
 have words : ∀ Q' : Flow -> Shared -> Prop, (∀ s₄ v m₄, Gr (frL L (tCs L)) s₃ s₄ -> Fram L (tCs L) m₄ (fun y => if y = "theirs" then some (.ref D₂) else cm y) s₄ -> (∀ x : Str, x ≠ "words" -> x ≠ "first" -> m₄ x = m x) -> m₄ "words" = some v -> VT (· ∉ own) s₄.heap (wordsT back c) v -> Q' .next s₄) ->
   wpAny (model theProg (wW b1 b2 w)) A (PySem.exec (atB ltIn 2) (tEnv L)) Q' E s₃ := by
  intro Q' hQ'
  refine wpAny_If (wpAny_isTrue_Compare1 (ev_cell (c := L + 3) (by rw [tEnv_cells]; rfl) hc3 (wpAny_Constant_str (cmpEq (wpAny_truthy_bool ?_)))))
  by_cases hr : c = "r"
  ·rw [decide_eq_true hr]
   have Gt : Gr [] s₃ { s₃ with toks := s₃.toks + 1 + 1 } := gr_tok
   simp only [if_true]
   refine wpAny_execs_cons (wpAny_Assign_Name ?_)
   refine ev_join rfl rfl (ev_col (cl := []) ⟨rfl, rfl, by decide, fun _ => rfl⟩ rfl (by decide) hh (ev_rev (ev_cell (c := L + 4) (by rw [tEnv_cells]; rfl) (ht3.keeps fun b o e => e) ?_)))
   refine ⟨D₂, ys₂.toArray, rfl, (hpl3.at fun o e => e).isList, hys2, fun D s₅ G5 hD5 hpl5 => ?_⟩
   have hrs5 : RecsAt s₅.heap ys₂.reverse (theirsOf c back).reverse := Paired.rev (hrs3.gr0 (Gt.trans G5))
   refine ⟨D, _, ((theirsOf c back).reverse.map (colN 2)), rfl, hpl5.isList, ?_, ?_, fun D' ys' s₆ G6 hD6 hpl6 hys6 => ?_⟩
   ·simpa using hys2
   ·simpa using hrs5.col (k := 2) (by decide)
   refine ⟨D', ys'.toArray, _, rfl, hpl6.isList, by simpa using hys6, col_sum (fun r hr => ht.col r (htm r (List.mem_reverse.mp hr)) 2) (by rw [List.length_reverse]; exact htl), fun t' k => ?_⟩
   have G36 : Gr [] s₃ { s₆ with toks := k } := (Gt.trans G5).trans (G6.tok k)
   refine (F3.gr0 G36).set (env := tEnv L) rfl rfl fun s₇ G7 F7 => wpAny_execs_nil ?_
   refine hQ' s₇ (.str _ t') _ (G36.nil.trans (g_new G7 (.head _))) F7 (fun x h1 h2 => if_neg h1) (if_pos rfl) ?_
   unfold wordsT; rw [if_pos hr]; exact .str
  ·rw [decide_eq_false hr]
   simp only [Bool.false_eq_true, if_false]
   have hcp' : c = "p" \/ c = "q" := hcp.elim .inl fun h => h.elim .inr fun h => absurd h hr
   refine wpAny_execs_cons (wpAny_Assign_Name (ev_first hcp' (fun s₄ Q'' G4 hQ'' => ev_cell (c := L + 3) (by rw [tEnv_cells]; rfl) (hc3.keeps fun b o e => G4.k b o e) (hQ'' _)) fun t s₄ G4' => ?_))
   have G4 : Gr [] s₃ s₄ := (show Gr [] s₃ { s₃ with toks := s₃.toks + 1 } from gr_tok).trans G4'
   refine (F3.gr0 G4).set (env := tEnv L) rfl rfl fun s₅ G5 F5 => ?_
   dsimp only
   have G35 : Gr (frL L (tCs L)) s₃ s₅ := G4.nil.trans (g_new G5 (.head _))
   have hs5 : Stat b1 b2 w s₅.heap := G35.stat hs3 hfrD
   refine wpAny_execs_cons (wpAny_Assign_Name (ev_tupleOf hs5 rfl (ev_strsT (cl := [("theirs", L + 4)]) ⟨rfl, rfl, by decide, fun _ => by simp +decide [cellsFrom]⟩ rfl hh (fun _ => rfl) (evT ?_))))
   have hf5 : (fun y => if y = ("first" : Str) then some (Value.int ((if c = "p" then 1 else 3 : Nat) : Int) t) else m y) ("first" : Str) = some (.int ((if c = "p" then 1 else 3 : Nat) : Int) t) := if_pos rfl
   refine ev_local F5 hf5 (wpAny_BinOp (ev_local F5 hf5 (evI fun t₁ s₆ G6 => addI fun t₂ s₇ G7 => ⟨by show 2 <= sizeLine; decide, fun T s₈ G8 hT0 hT8 => ?_⟩)))
   have G58 : Gr [] s₅ s₈ := (G6.trans G7).trans G8
   have hD5 : s₅.heap.PlainList D₂ ys₂.toArray := hpl3.at fun o e => G5.keep D₂ o (fun hm => hD2own (by rw [mS hm]; exact hfr _ (.head _))) (G4.k D₂ o e)
   have hrs5 : RecsAt s₅.heap ys₂ (theirsOf c back) := (hrs3.gr0 G4).gr G5 fun a ha => by rw [mS ha]; exact (F3.gr0 G4).noTup htcs _ (.head _)
   have hc5 : s₅.heap.IsCell (L + 4) (some (.ref D₂)) := cellAt "theirs" _ _ F5 rfl (if_pos rfl)
   have k12 : (c = "p" /\ (if c = "p" then 1 else 3 : Nat) = 1) \/ (c = "q" /\ (if c = "p" then 1 else 3 : Nat) = 3) := by
    rcases hcp' with h | h
    ·exact .inl ⟨h, if_pos h⟩
    ·exact .inr ⟨h, if_neg (by rw [h]; decide)⟩
   generalize hk : (if c = "p" then 1 else 3 : Nat) = k at k12 hT8 ⊢
   have hk5 : k + 1 < 5 := by rcases k12 with h | h <;> lia
   refine ⟨T, _, [cat ((theirsOf c back).map (colN k)), cat ((theirsOf c back).map (colN (k + 1)))], rfl, isTup hT8, by show 2 <= sizeLine; decide, rfl, fun i v y C s₉ hv hy hC0 hC1 keep hcell E' => ?_, fun D ys s₉ G9 hD hpl9 hys9 => ?_⟩
   ·obtain ⟨j, tk, hj5, rfl, rfl⟩ : X2_3 (fun (j : Nat) (tk : Tok) => j < 5) (fun (j : Nat) (tk : Tok) => v = .int (j : Int) tk) (fun (j : Nat) (tk : Tok) => y = cat ((theirsOf c back).map (colN j))) := by
     match i, hv, hy with
     | 0, hv, hy => exact ⟨k, t, by lia, by simpa using hv.symm, by simpa using hy.symm⟩
     | 1, hv, hy => exact ⟨k + 1, t₂, hk5, by simpa using hv.symm, by simpa using hy.symm⟩
     | i + 2, hv, hy => simp at hy
    refine ev_join rfl rfl (ev_colName (cl := [("c", C + 1)]) (cc := C + 1) (k := j) ⟨rfl, rfl, by decide, fun _ => rfl⟩ rfl hh rfl (fun _ => rfl) hj5 rfl rfl ?_)
    have keep' : ∀ b o, s₅.heap.get? b = some o -> s₉.heap.get? b = some o := fun b o e => keep b o (G58.k b o e)
    refine c_free (c := L + 4) rfl rfl rfl (hc5.keeps keep') ⟨D₂, ys₂.toArray, _, tk, rfl, (hD5.at fun o e => keep' _ o e).isList, hys2, Paired.imp (fun _ _ e => e.keep fun a o q _ => keep' a o q) hrs5, hcell, fun D ys s' G hD hpl hys => ?_⟩
    exact ⟨D, ys.toArray, _, rfl, hpl.isList, by simpa using hys, col_sum (fun r hr => ht.col r (htm r hr) j) htl, fun t' k' => ⟨⟨t', rfl⟩, (show Gr [] s₉ { s₉ with toks := s₉.toks + 1 } from gr_tok).trans (G.tok k')⟩⟩
   ·refine ⟨D, ys.toArray, rfl, hpl9.isList, ?_, fun T' sA GA hT' hTA => ?_⟩
    ·have := hys9.len
     rw [List.size_toArray, this]; show 2 <= sizeLine; decide
    have G3A : Gr (frL L (tCs L)) s₃ sA := G35.trans ((G58.trans G9).trans GA).nil
    refine (F5.gr0 ((G58.trans G9).trans GA)).set (env := tEnv L) rfl rfl fun sB GB FB => wpAny_execs_nil ?_
    refine hQ' sB (.ref T') _ (G3A.trans (g_new GB (.head _))) FB (fun x h1 h2 => by show (if x = "words" then _ else if x = "first" then _ else _) = _; rw [if_neg h1, if_neg h2]) (if_pos rfl) ?_
    have hTn : T' ∉ own := not_mem_of_new (aliveAt (G03.trans (G35.trans (G58.trans G9).nil)) (F5.gr0 (G58.trans G9))) hT'
    have hw : wordsT back c = .t [.s (cat ((theirsOf c back).map (colN k))), .s (cat ((theirsOf c back).map (colN (k + 1))))] := by
     unfold wordsT
     rw [if_neg hr]
     rcases k12 with ⟨h1, h2⟩ | ⟨h1, h2⟩
     ·rw [if_pos h1, h2]
     ·rw [if_neg (by rw [h1]; decide), h2]
    rw [hw]
    exact .tup (vs := ys.toArray) hTn (GB.keep T' _ (fun hm => hTn (hfr _ (by rw [mS hm]; exact .head _))) hTA) (by simpa using hys9.vts)
 refine wpAny_execs_cons (words _ fun s₄ v m₄ G4 F4 hm4 hw4 hv4 => ?_)
 have hs4 : Stat b1 b2 w s₄.heap := G4.stat hs3 hfrD
 have G04 : Gr (frL L (tCs L)) s s₄ := G03.trans G4
 have hpl4 : s₄.heap.PlainList tb zs.toArray := hpl.at fun o e => G04.keep tb o htf e
 have hc4 := cellAt (s' := s₄) "caller" _ _ F4 rfl (by rw [if_neg (by decide)]; exact hc)
 have ht4 := cellAt (s' := s₄) "theirs" _ _ F4 rfl (by rw [if_pos rfl])
 have hzl' : zs.toArray.size <= sizeLine := by rw [List.size_toArray]; exact Nat.le_trans hzl (by decide)
 have hD2L' : s₄.heap.IsList D₂ ys₂.toArray := (hpl3.at fun o e => G4.keep D₂ o (fun hm => hD2own (hfr _ hm)) e).isList
 have hys2l : ys₂.length = (theirsOf c back).length := hrs2.length
 refine wpAny_execs_cons (wpAny_Expr_any (ev_append rfl rfl rfl (ev_local F4 (by rw [hm4 "table" (by decide) (by decide)]; exact hm) ⟨tb, zs.toArray, rfl, hpl4, hzl', evT ?_⟩)))
 refine ev_cell (c := L + 3) (by rw [tEnv_cells]; rfl) hc4 (ev_local F4 hw4 (ev_and (wpAny_Compare1 (ev_cell (c := L + 3) (by rw [tEnv_cells]; rfl) hc4 (evS fun t₁ s₅ G5 => cmpNe ⟨_, rfl, ?_⟩)))))
 have fin : ∀ (b : Bool) (s₆ : Shared), Gr [] s₄ s₆ -> b = (!decide (c = "r") && decide ((theirsOf c back).length = 1)) -> [Value.str c tc, v, .bool b].length <= sizeLine /\ ∀ T s', Gr [] s₆ s' -> s₆.heap.get? T = none -> s'.heap.get? T = some (tup [Value.str c tc, v, .bool b].toArray) -> s'.heap.PlainList tb zs.toArray /\ ∀ s'', Gr [tb] s' s'' -> s''.heap.PlainList tb (zs.toArray.push (.ref T)) ->
   wpAny (model theProg (wW b1 b2 w)) A (execs [] (tEnv L)) Q E s'' := by
  intro b s₆ G6 hb
  refine ⟨by show 3 <= sizeLine; decide, fun T s₇ G7 hT0 hT7 => ⟨hpl4.at fun o e => (G6.trans G7).k _ o e, fun s₈ G8 hpl8 => wpAny_execs_nil ?_⟩⟩
  have hTo : T ∉ own := not_mem_of_new (aliveAt (G04.trans G6.nil) (F4.gr0 G6)) hT0
  have G07 : Gr (tb :: frL L (tCs L)) s s₇ := (G04.widen fun a ha => List.mem_cons_of_mem _ ha).trans (G6.trans G7).nil
  have G08 : Gr (tb :: frL L (tCs L)) s s₈ := G07.trans (g_new G8 (.head _))
  have hall : ∀ a ∈ tb :: frL L (tCs L), a ∈ own := fun a ha => by
   rcases mD ha with rfl | ha
   ·exact htb
   ·exact hfr a ha
  refine hQ .next s₈ m₄ _ (zs ++ [.ref T]) (.inl rfl) G08 ((F4.gr0 (G6.trans G7)).gr G8 fun a ha hm => ?_) hm4 (fun x hx => if_neg hx) (by simpa using hpl8) ?_ (by simp)
  ·rw [mS hm] at ha; exact htf ha
  ·rw [hseen, if_neg (by simp), List.map_append]
   refine (hzs.gr (G08.widen hall)).snoc ?_
   show VT _ _ (lineT back c) _
   unfold lineT
   have hv8 : VT (· ∉ own) s₈.heap (wordsT back c) v := ((hv4.gr (G6.trans G7).nil).gr (G8.widen fun a ha => by rw [mS ha]; exact htb))
   refine .tup (vs := #[.str c tc, v, .bool b]) hTo (G8.keep T _ (fun hm => hTo (by rw [mS hm]; exact htb)) hT7) (.cons .str (.cons hv8 (.cons ?_ .nil)))
   rw [hb]; exact .bool
 by_cases hr : c = "r"
 ·rw [decide_eq_true hr]
  simp only [Bool.not_true, Bool.false_eq_true, if_false]
  exact fin false s₅ G5 (by rw [decide_eq_true hr]; rfl)
 ·rw [decide_eq_false hr]
  simp only [Bool.not_false, if_true]
  refine wpAny_Compare1 (ev_len (hs4 |> fun h => G5.stat0 h) rfl (ev_cell (c := L + 4) (by rw [tEnv_cells]; rfl) (ht4.keeps fun b o e => G5.k b o e) ⟨D₂, ys₂.toArray, rfl, hD2L'.at fun o e => G5.k _ o e, hys2, fun t s₆ G6 => evI fun t₂ s₇ G7 => PySem.P.eq_int ?_⟩))
  have e : (((ys₂.toArray.size : Nat) : Int) == 1) = (!decide (c = "r") && decide ((theirsOf c back).length = 1)) := by
   rw [decide_eq_false hr, List.size_toArray, hys2l]
   by_cases h1 : (theirsOf c back).length = 1
   ·rw [h1]; rfl
   ·rw [decide_eq_false h1]
    simp only [Bool.not_false, Bool.and_false, beq_eq_false_iff_ne]
    lia
  exact fin _ s₇ ((G5.trans G6).trans G7) e
end
noncomputable abbrev ltOut : List Stmt := forB (atB ltB 1)
theorem tCs_ok (L : Nat) : ∀ p ∈ tCs L, (tCs L).lookup p.1 = some p.2 := by
 intro p hp
 replace hp := mr4 hp
 rcases hp with rfl | rfl | rfl | rfl <;> rfl
theorem selO_sub {o : Str} {rs : List Rc} : ∀ r ∈ selO o rs, r ∈ rs := fun r hr => List.mem_reverse.mp (List.mem_filter.mp hr).1
theorem Tame.selO {o : Str} {rs : List Rc} (h : Tame rs) : Tame (selO o rs) :=
 ⟨Nat.le_trans (List.length_filter_le ..) (by rw [List.length_reverse]; exact h.len), fun r hr => h.cs r (selO_sub r hr), fun r hr => h.pq r (selO_sub r hr), fun r hr => h.col r (selO_sub r hr)⟩
section
variable {b1 b2 : Bool} {w : World} {A : Around} {E : Value -> Shared -> Prop} {s : Shared}
set_option maxHeartbeats 4000000 in
theorem told_out {L rw l : Nat} {rs : List Rc} {vs : Array Value} {zs : List Value} {seen : List Str} {m cm : Str -> Option Value} {o : Str} {to : Tok} {own : List Nat} {Q : Flow -> Shared -> Prop} (hh : A.handled = none) (hs : Stat b1 b2 w s.heap)
  (F : Fram L (tCs L) m cm s) (hmw : m "rows" = some (.ref rw)) (hmr : m "records" = some (.ref l)) (hco : cm "owner" = some (.str o to)) (hl : s.heap.IsList l vs) (hrs : RecsAt s.heap vs.toList rs) (ht : Tame rs)
  (hpl : s.heap.PlainList rw zs.toArray) (hzs : VTs (· ∉ own) s.heap (seen.map (rowT rs)) zs) (hzl : zs.length <= 1000) (hrw : rw ∈ own) (hfr : ∀ a ∈ frL L (tCs L), a ∈ own) (halive : ∀ a ∈ own, ∃ o, s.heap.get? a = some o) (hL : 255 <= L) (hrf : rw ∉ frL L (tCs L))
  (hQ : ∀ f s' m' cm' zs', (f = .next \/ f = .cont) -> Gr (rw :: frL L (tCs L)) s s' -> Fram L (tCs L) m' cm' s' -> m' "rows" = some (.ref rw) -> m' "records" = some (.ref l) -> s'.heap.PlainList rw zs'.toArray ->
   VTs (· ∉ own) s'.heap ((if (seen.any fun x => decide (x = o)) then seen else seen ++ [o]).map (rowT rs)) zs' -> zs'.length <= zs.length + 1 -> Q f s') :
  wpAny (model theProg (wW b1 b2 w)) A (execs ltOut (tEnv L)) Q E s := by
 have hvl : vs.size = rs.length := by simpa using hrs.length
 have hv100 : vs.size <= 100 := by rw [hvl]; exact ht.len
 have inO : ∀ n x, (tCs L).lookup n = some x -> x ∈ frL L (tCs L) := fun n x h => List.mem_cons_of_mem _ (List.mem_map.mpr ⟨(n, x), PySem.mem_of_lookup h, rfl⟩)
 have cellAt : ∀ {s' : Shared} {m' cm' : Str -> Option Value} (n : Str) (c : Nat) (v : Value), Fram L (tCs L) m' cm' s' -> (tCs L).lookup n = some c -> cm' n = some v -> s'.heap.IsCell c (some v) := fun n c v F h1 h2 => h2 ▸ F.cell n c h1
 have hfrD : ∀ a ∈ frL L (tCs L), Dyn a := fun a ha => .inl (Nat.le_trans hL (frL_above F a ha))
 have aliveAt : ∀ {s' : Shared} {m' cm' : Str -> Option Value}, Gr (frL L (tCs L)) s s' -> Fram L (tCs L) m' cm' s' -> ∀ a ∈ own, ∃ o, s'.heap.get? a = some o := fun {s' m' cm'} G F a ha => by
  by_cases hm : a ∈ frL L (tCs L)
  ·exact (F.noTup (tCs_ok L) a hm).alive
  ·obtain ⟨o, e⟩ := halive a ha
   exact ⟨o, G.keep a o hm e⟩
 refine wpAny_execs_cons (wpAny_If (wpAny_isTrue_Compare1 ?_))
 refine ev_cell (c := L + 1) (by rw [tEnv_cells]; rfl) (cellAt "owner" _ _ F rfl hco) ?_
 refine ev_col (cl := []) ⟨rfl, rfl, by decide, fun _ => rfl⟩ rfl (by decide) hh ?_
 refine ev_local F hmw ⟨rw, zs.toArray, seen, rfl, hpl.isList, ?_, VTs.col0 (fun c => ⟨_, rfl⟩) hzs, fun D ys s₁ G1 hD hplD hys => ?_⟩
 ·rw [List.size_toArray]; exact Nat.le_trans hzl (by decide)
 refine cmpInL hplD.isList (by simpa using hys) (wpAny_truthy_bool ?_)
 have F1 := F.gr0 G1
 cases hseen : seen.any fun x => decide (x = o) with
 | true =>
  simp only [if_true]
  refine wpAny_execs_cons (wpAny_Continue ?_)
  refine hQ .cont s₁ m cm zs (.inr rfl) G1.nil F1 hmw hmr (hpl.at fun o e => G1.k _ o e) ?_ (Nat.le_succ _)
  rw [hseen, if_pos rfl]
  exact hzs.gr G1.nil
 | false =>
 simp only [Bool.false_eq_true, if_false]
 refine wpAny_execs_nil ?_
 dsimp only
 refine wpAny_execs_cons (wpAny_Assign_Name ?_)
 refine ev_sel (cl := [("owner", L + 1)]) (fun r => decide (r.owner = o)) ⟨rfl, rfl, by decide, fun _ => rfl⟩ rfl hh ?_
 refine ev_rev (ev_local F1 hmr ⟨l, vs, rfl, hl.at fun o e => G1.k _ o e, Nat.le_trans hv100 (by decide), fun D₂ s₂ G2 hD2 hpl2 => ?_⟩)
 have hrs2 : RecsAt s₂.heap vs.toList.reverse rs.reverse := Paired.rev ((hrs.gr0 G1).gr0 G2)
 refine ⟨D₂, _, rs.reverse, rfl, hpl2.isList, by simpa using Nat.le_trans hv100 (by decide), by simpa using hrs2, fun v r C s₄ m₄ cm₄ hr hvr hC keep F4 hm4 E' => ?_, fun bk bs s₃ G3 hbk0 hplb hblen hbrs => ?_⟩
 ·obtain ⟨a, tv, tk, rfl, ha, h0⟩ := hvr.col (k := 0) (by decide)
  refine wpAny_isTrue_Compare1 (ev_subC (k := 0) (by decide) (c_local rfl rfl F4 hm4 ⟨a, tv, _, rfl, ha, h0, fun tk' => ?_⟩))
  refine c_free (c := L + 1) rfl rfl rfl (((cellAt "owner" _ _ F1 rfl hco).keeps fun b o e => G2.k b o e).keeps keep) (cmpEq (wpAny_truthy_bool ⟨rfl, gr_tok⟩))
 have G03 : Gr [] s s₃ := (G1.trans G2).trans G3
 have F3 := F.gr0 G03
 have hbko : bk ∉ own := not_mem_of_new (aliveAt (G1.trans G2).nil (F.gr0 (G1.trans G2))) hbk0
 refine Fram.setC (cs := tCs L) (c := L + 2) F3 rfl rfl (by rw [tEnv_cells]; rfl) rfl fun s₄ G4 F4 => ?_
 dsimp only
 have G04 : Gr (frL L (tCs L)) s s₄ := G03.nil.trans (g_new G4 (inO "back" _ rfl))
 have hs4 : Stat b1 b2 w s₄.heap := G04.stat hs hfrD
 have hplb4 : s₄.heap.PlainList bk bs.toArray := hplb.at fun o e => G4.keep bk o (fun hm => hbko (hfr _ (by rw [mS hm]; exact inO "back" _ rfl))) e
 have hbrs4 : RecsAt s₄.heap bs (selO o rs) := hbrs.gr G4 fun a ha => by rw [mS ha]; exact F3.noTup (tCs_ok L) _ (inO "back" _ rfl)
 have htb : Tame (selO o rs) := ht.selO
 have hbs : bs.toArray.size <= 100 := by rw [List.size_toArray, hbrs4.length]; exact htb.len
 refine wpAny_execs_cons ?_
 refine asg_comp (m := m) (cm := fun y => if y = "back" then some (.ref bk) else cm y) (cs := tCs L) (cl := [("back", L + 2)]) own rfl rfl rfl rfl rfl (by decide) (fun _ => by simp +decide [cellsFrom]) (hfr _ (.head _)) (tCs_ok L) (evT ?_)
 refine evI fun u1 s₅ G5 => evI fun u2 s₆ G6 => evI fun u3 s₇ G7 => evI fun u4 s₈ G8 => ⟨by show 4 <= sizeLine; decide, fun T s₉ G9 hT0 hT => ?_⟩
 have G49 : Gr [] s₄ s₉ := (((G5.trans G6).trans G7).trans G8).trans G9
 have F9 := F4.gr0 G49
 have G09 : Gr (frL L (tCs L)) s s₉ := G04.trans G49.nil
 have hcb9 := cellAt (s' := s₉) "back" _ _ F9 rfl (if_pos rfl)
 refine at_strsT (cl := [("back", L + 2)]) (ex := own) (ss := [cat ((selO o rs).map (colN 1)), cat ((selO o rs).map (colN 2)), cat ((selO o rs).map (colN 3)), cat ((selO o rs).map (colN 4))]) ⟨rfl, rfl, by decide, fun _ => by simp +decide [cellsFrom]⟩ rfl hh (fun _ => rfl) (isTup hT) (by show 4 <= sizeLine; decide) rfl (aliveAt G09 F9) (fun i v y C sA hv hy hC0 hC1 keep hcell E' => ?_) fun wr sB own2 col ys sC hwr GB hcol0 hplc hys => ⟨F9.gr0 GB, fun a ha hm => ?_, fun GC FC => ?_⟩
 ·obtain ⟨j, tk, hj5, rfl, rfl⟩ : X2_3 (fun (j : Nat) (tk : Tok) => j < 5) (fun (j : Nat) (tk : Tok) => v = .int (j : Int) tk) (fun (j : Nat) (tk : Tok) => y = cat ((selO o rs).map (colN j))) := by
   match i, hv, hy with
   | 0, hv, hy => exact ⟨1, u1, by lia, by simpa using hv.symm, by simpa using hy.symm⟩
   | 1, hv, hy => exact ⟨2, u2, by lia, by simpa using hv.symm, by simpa using hy.symm⟩
   | 2, hv, hy => exact ⟨3, u3, by lia, by simpa using hv.symm, by simpa using hy.symm⟩
   | 3, hv, hy => exact ⟨4, u4, by lia, by simpa using hv.symm, by simpa using hy.symm⟩
   | i + 4, hv, hy => simp at hy
  have keep' : ∀ b o, s₄.heap.get? b = some o -> sA.heap.get? b = some o := fun b o e => keep b o (G49.k b o e)
  refine ev_join rfl rfl (ev_colName (cl := [("c", C + 1)]) (cc := C + 1) (k := j) ⟨rfl, rfl, by decide, fun _ => rfl⟩ rfl hh rfl (fun _ => rfl) hj5 rfl rfl ?_)
  refine c_free (c := L + 2) rfl rfl rfl ((hcb9.keeps keep)) ⟨bk, bs.toArray, _, tk, rfl, (hplb4.at fun o e => keep' _ o e).isList, Nat.le_trans hbs (by decide), Paired.imp (fun _ _ e => e.keep fun a o q _ => keep' a o q) hbrs4, hcell, fun D ys s' G hD hpl hys => ?_⟩
  exact ⟨D, ys.toArray, _, rfl, hpl.isList, by simpa using hys, col_sum (fun r hr => htb.col r hr j) htb.len, fun t' k' => ⟨⟨t', rfl⟩, (show Gr [] sA { sA with toks := sA.toks + 1 } from gr_tok).trans (G.tok k')⟩⟩
 ·obtain ⟨o', e⟩ := aliveAt G09 F9 a (hfr a ha)
  rw [hwr a hm] at e; cases e
 dsimp only
 have G9C : Gr (frL L (tCs L)) s₉ sC := ((GB.nil.trans GC).shrink (own' := [L]) fun a ha => by
  rcases mD ha with rfl | ha
  ·exact .inl (.head _)
  ·exact .inr (hwr a ha)).widen fun a ha => by rw [mS ha]; exact .head _
 have G0C : Gr (frL L (tCs L)) s sC := G09.trans G9C
 refine wpAny_execs_cons (wpAny_Assign_Name (evL ⟨Nat.zero_le _, fun tb sD GD htb0 hpltb => ?_⟩))
 refine (FC.gr0 GD).set (env := tEnv L) rfl rfl fun sE GE FE => ?_
 dsimp only
 have G0D : Gr (frL L (tCs L)) s sD := G0C.trans GD.nil
 have G0E : Gr (frL L (tCs L)) s sE := G0D.trans (g_new GE (.head _))
 have hs_E : Stat b1 b2 w sE.heap := G0E.stat hs hfrD
 have htbo : tb ∉ own := not_mem_of_new (aliveAt G0C FC) htb0
 have hpltbE : sE.heap.PlainList tb #[] := hpltb.at fun o e => GE.keep tb o (fun hm => htbo (hfr _ (by rw [mS hm]; exact .head _))) e
 have hcolo : col ∉ own := not_mem_of_new (aliveAt G09 F9) hcol0
 have hplcE : sE.heap.PlainList col ys.toArray := (hplc.at fun o e => GD.k col o e).at fun o e => GE.keep col o (fun hm => hcolo (hfr _ (by rw [mS hm]; exact .head _))) e
 have G4E : Gr (frL L (tCs L)) s₄ sE := ((G49.nil.trans G9C).trans GD.nil).trans (g_new GE (.head _))
 have hplbE : sE.heap.PlainList bk bs.toArray := hplb4.at fun o e => G4E.keep bk o (fun hm => hbko (hfr _ hm)) e
 have hbrsE : RecsAt sE.heap bs (selO o rs) := hbrs4.gr G4E (F4.noTup (tCs_ok L))
 have hrwE : sE.heap.PlainList rw zs.toArray := hpl.at fun o e => G0E.keep rw o hrf e
 have aliveE := aliveAt G0E FE
 have htbE : ∃ o, sE.heap.get? tb = some o := by obtain ⟨_, e⟩ := hpltbE; exact ⟨_, e⟩
 have htbf : tb ∉ frL L (tCs L) := fun hm => htbo (hfr _ hm)
 refine wpAny_execs_cons (ev_for (ev_names ⟨rfl, rfl, by decide, fun _ => rfl⟩ rfl rfl (fun _ => rfl) hh rfl rfl (ev_rev (ev_cell (c := L + 2) (by rw [tEnv_cells]; rfl) (cellAt "back" _ _ FE rfl (if_pos rfl)) ⟨bk, bs.toArray, rfl, hplbE.isList, Nat.le_trans hbs (by decide), fun D₃ sF GF hD3 hplD3 => ?_⟩))))
 have hrsF : RecsAt sF.heap bs.reverse (selO o rs).reverse := Paired.rev (hbrsE.gr0 GF)
 refine ⟨D₃, _, (selO o rs).reverse, rfl, hplD3.isList, by simp; simp at hbs; lia, by simpa using hrsF, fun r hr => htb.cs r (List.mem_reverse.mp hr), fun nm ns sG GG hnm0 hplnm hns => ?_⟩
 have GEG : Gr [] sE sG := GF.trans GG
 refine over_list hplnm.isList fun I sH GH hI hit hlH hne _ => ?_
 have GEH : Gr [] sE sH := GEG.trans GH
 have alG : ∀ a, (∃ o, sE.heap.get? a = some o) -> a ≠ I := fun a h e => by
  obtain ⟨o, ho⟩ := h
  have := GEG.k a o ho
  rw [e, hI] at this; cases this
 have hIf : I ∉ frL L (tCs L) := fun hm => alG I (aliveE I (hfr I hm)) rfl
 have htI : tb ≠ I := alG tb htbE
 have hIo : I ∉ own := fun hm => alG I (aliveE I hm) rfl
 have hnmE : sE.heap.get? nm = none := GF.dead (fun h => nomatch h) hnm0
 have hnmt : nm ≠ tb := fun e => by obtain ⟨o, ho⟩ := htbE; rw [<- e, hnmE] at ho; cases ho
 have hnmf : nm ∉ frL L (tCs L) := fun hm => by obtain ⟨o, ho⟩ := aliveE nm (hfr nm hm); rw [hnmE] at ho; cases ho
 have hbkt : bk ≠ tb := fun e => by
  have : ∃ o, sC.heap.get? bk = some o := by
   obtain ⟨n, e'⟩ := hplb4
   exact ⟨_, G9C.keep bk _ (fun hm => hbko (hfr _ hm)) (G49.k bk _ e')⟩
  obtain ⟨o', ho⟩ := this
  rw [e, htb0] at ho; cases ho
 have hcolt : col ≠ tb := fun e => by
  obtain ⟨_, ho⟩ := hplc
  rw [e, htb0] at ho; cases ho
 have hbkI : bk ≠ I := alG bk (by obtain ⟨_, e⟩ := hplbE; exact ⟨_, e⟩)
 have hcolI : col ≠ I := alG col (by obtain ⟨_, e⟩ := hplcE; exact ⟨_, e⟩)
 have hrwI : rw ≠ I := alG rw (aliveE rw hrw)
 have hrwt : rw ≠ tb := fun e => htbo (e ▸ hrw)
 have notH : ∀ a ∈ I :: tb :: frL L (tCs L), NoTup sH a := fun a ha => by
  rcases mD ha with rfl | ha
  ·exact .iter hit
  rcases mD ha with rfl | ha
  ·exact .list (hpltbE.at fun o e => GEH.k _ o e).isList
  ·exact (FE.gr0 GEH).noTup (tCs_ok L) a ha
 have hnl : ns.length = ((selO o rs).reverse.flatMap (·.cs)).length := hns.len
 generalize hnle : (selO o rs).reverse.flatMap (·.cs) = nl at hns hnl
 have hnlp : ∀ c ∈ nl, c = "p" \/ c = "q" \/ c = "r" := fun c hc => by
  rw [<- hnle] at hc
  obtain ⟨r, hr, hcr⟩ := List.mem_flatMap.mp hc
  exact htb.pq r (List.mem_reverse.mp hr) c hcr
 have hnl3 : nl.length <= 300 := by
  rw [<- hnle]
  have : ∀ l : List Rc, (∀ r ∈ l, r.cs.length <= 3) -> (l.flatMap (·.cs)).length <= 3 * l.length := by
   intro l
   induction l with
   | nil => intro _; simp
   | cons r l ih =>
    intro h
    have h1 := h r (.head _)
    have h2 := ih fun x hx => h x (.tail _ hx)
    simp only [List.flatMap_cons, List.length_append, List.length_cons]
    lia
  have h1 := this (selO o rs).reverse fun r hr => htb.cs r (List.mem_reverse.mp hr)
  have h2 := htb.len
  rw [List.length_reverse] at h1
  lia
 have FH := FE.gr0 GEH
 refine ⟨_, _, _, _, _, srcList hh _ I nm hne ns.toArray, ⟨hit, hlH⟩,
  fun i s' => X3_11 (fun m' cm' zt => Fram L (tCs L) m' cm' s') (fun m' cm' zt => m' "table" = some (.ref tb)) (fun m' cm' zt => m' "rows" = some (.ref rw)) (fun m' cm' zt => m' "records" = some (.ref l)) (fun m' cm' zt => m' "columns" = some (.ref col)) (fun m' cm' zt => cm' "back" = some (.ref bk)) (fun m' cm' zt => cm' "owner" = some (.str o to)) (fun m' cm' zt => s'.heap.PlainList tb (List.toArray zt)) (fun m' cm' zt => VTs (· ∉ I :: tb :: own) s'.heap ((uniq [] (nl.take i)).map (lineT (selO o rs))) zt) (fun m' cm' zt => zt.length <= i) (fun m' cm' zt => Gr (I :: tb :: frL L (tCs L)) sH s'), ?_, ?_, ?_, ?_⟩
 ·refine ⟨_, _, [], FH, if_pos rfl, ?_, ?_, ?_, if_pos rfl, ?_, hpltbE.at fun o e => GEH.k _ o e, .nil, Nat.zero_le _, .refl _⟩
  ·show (if ("rows" : Str) = "table" then _ else if ("rows" : Str) = "columns" then _ else _) = _
   rw [if_neg (by decide), if_neg (by decide)]; exact hmw
  ·show (if ("records" : Str) = "table" then _ else if ("records" : Str) = "columns" then _ else _) = _
   rw [if_neg (by decide), if_neg (by decide)]; exact hmr
  ·show (if ("columns" : Str) = "table" then _ else if ("columns" : Str) = "columns" then _ else _) = _
   rw [if_neg (by decide), if_pos rfl]
  ·show (if ("owner" : Str) = "back" then _ else _) = _
   rw [if_neg (by decide)]; exact hco
 ·rintro i s' s'' ⟨m', cm', zt, f1, f2, f3, f4, f5, f6, f7, f8, f9, f10, f11⟩ G
  refine ⟨m', cm', zt, f1.gr G fun a ha hm => hIf (by rw [mS hm] at ha; exact ha), f2, f3, f4, f5, f6, f7, f8.at fun o e => G.keep tb o (fun hm => htI (mS hm)) e, f9.gr (g_new G (.head _)), f10, f11.trans (g_new G (.head _))⟩
 ·rintro i v s₅ hi ⟨m', cm', zt, f1, f2, f3, f4, f5, f6, f7, f8, f9, f10, f11⟩ hfp hv E'
  obtain ⟨c, hc, tc, rfl⟩ := hns.at (i := i) (v := v) (by simpa using hv)
  have hin : i < nl.length := by rw [List.size_toArray] at hi; lia
  refine wpAny_assign_Name (Fram.setC (env := tEnv L) (cs := tCs L) (c := L + 3) f1 rfl rfl (by rw [tEnv_cells]; rfl) rfl fun s₆ G6 F6 => ?_)
  have G6' : Gr (tb :: frL L (tCs L)) s₅ s₆ := g_new G6 (.tail _ (inO "caller" _ rfl))
  have GH6 : Gr (I :: tb :: frL L (tCs L)) sH s₆ := f11.trans (G6'.widen fun a ha => .tail _ ha)
  have hs6 : Stat b1 b2 w s₆.heap := GH6.statF (GEH.stat0 hs_E) fun a ha => by
   rcases mC ha with e | ha
   ·rw [e]; exact (GEG.stat0 hs_E).free hI
   rcases mC ha with e | ha
   ·rw [e]; exact (G0C.stat hs hfrD).free htb0
   ·exact (hfrD a ha).none
  have hL3 : ∀ a, a ≠ L + 3 -> ∀ o, s₅.heap.get? a = some o -> s₆.heap.get? a = some o := fun a h o e => G6.keep a o (fun hm => h (mS hm)) e
  have h3f : L + 3 ∈ frL L (tCs L) := inO "caller" _ rfl
  refine told_in (own := I :: tb :: own) (tb := tb) (bk := bk) (back := selO o rs) (vb := bs.toArray) (zs := zt) (seen := uniq [] (nl.take i)) (c := c) (tc := tc) hh hs6 F6 f2 (by rw [if_neg (by decide)]; exact f6) (if_pos rfl) ?_ ?_ htb (hnlp c (List.mem_of_getElem? hc)) (f8.at fun o e => hL3 tb (fun e' => htbf (e' ▸ h3f)) o e)
   (f9.gr (g_new G6 (.tail _ (.tail _ (hfr _ h3f))))) (by lia) (.tail _ (.head _)) (fun a ha => .tail _ (.tail _ (hfr a ha))) ?_ hL htbf fun f s' m₂ cm₂ zs' hf G' F' hm2 hcm2 hpl' hzs' hlen' => ?_
  ·exact ((hplbE.at fun o e => GEH.k bk o e).at fun o e => GH6.keep bk o (fun hm => by
    rcases mC hm with e | hm
    ·exact hbkI e
    rcases mC hm with e | hm
    ·exact hbkt e
    ·exact hbko (hfr _ hm)) e).isList
  ·simpa using (hbrsE.gr0 GEH).gr GH6 notH
  ·intro a ha
   rcases mD ha with rfl | ha
   ·obtain ⟨o', e⟩ := hfp _ (.head _)
    exact ⟨o', hL3 _ (fun e' => hIf (by rw [e']; exact h3f)) o' e⟩
   rcases mD ha with rfl | ha
   ·obtain ⟨_, e⟩ := f8
    exact ⟨_, hL3 _ (fun e' => htbf (by rw [e']; exact h3f)) _ e⟩
   ·by_cases hm : a ∈ frL L (tCs L)
    ·exact (F6.noTup (tCs_ok L) a hm).alive
    ·obtain ⟨o', e⟩ := aliveE a ha
     refine ⟨o', GH6.keep a o' (fun hm' => ?_) (GEH.k a o' e)⟩
     rcases mC hm' with e' | hm'
     ·exact hIo (e' ▸ ha)
     rcases mC hm' with e' | hm'
     ·exact htbo (e' ▸ ha)
     ·exact hm hm'
  ·refine ⟨hf, ⟨m₂, cm₂, zs', F', ?_, ?_, ?_, ?_, ?_, ?_, hpl', ?_, by lia, GH6.trans (G'.widen fun a ha => .tail _ ha)⟩, _, G6'.trans G', fun b hb hm => ?_⟩
   ·rw [hm2 _ (by decide) (by decide)]; exact f2
   ·rw [hm2 _ (by decide) (by decide)]; exact f3
   ·rw [hm2 _ (by decide) (by decide)]; exact f4
   ·rw [hm2 _ (by decide) (by decide)]; exact f5
   ·rw [hcm2 _ (by decide), if_neg (by decide)]; exact f6
   ·rw [hcm2 _ (by decide), if_neg (by decide)]; exact f7
   ·rw [take_succ hc, uniq_snoc]; exact hzs'
   ·replace hb := mr2 hb
    rcases hb with rfl | rfl
    ·rcases mC hm with e | hm
     ·exact htI e.symm
     ·exact hIf hm
    ·rcases mC hm with e | hm
     ·exact hnmt e
     ·exact hnmf hm
 ·rintro s' ⟨m', cm', zt, f1, f2, f3, f4, f5, f6, f7, f8, f9, f10, f11⟩
  dsimp only
  have hnt : nl.take ns.toArray.size = nl := List.take_of_length_le (by rw [List.size_toArray]; lia)
  rw [hnt] at f9
  have frees : ∀ a ∈ I :: tb :: frL L (tCs L), (ktop (wW b1 b2 w).params).get a = none := fun a ha => by
   rcases mC ha with e | ha
   ·rw [e]; exact (GEG.stat0 hs_E).free hI
   rcases mC ha with e | ha
   ·rw [e]; exact (G0C.stat hs hfrD).free htb0
   ·exact (hfrD a ha).none
  have hs' : Stat b1 b2 w s'.heap := f11.statF (GEH.stat0 hs_E) frees
  have GEs : Gr (I :: tb :: frL L (tCs L)) sE s' := GEH.nil.trans f11
  have hrw' : s'.heap.PlainList rw zs.toArray := hrwE.at fun o e => GEs.keep rw o (fun hm => by
   rcases mC hm with e | hm
   ·exact hrwI e
   rcases mC hm with e | hm
   ·exact hrwt e
   ·exact hrf hm) e
  have hcol' : s'.heap.PlainList col ys.toArray := hplcE.at fun o e => GEs.keep col o (fun hm => by
   rcases mC hm with e | hm
   ·exact hcolI e
   rcases mC hm with e | hm
   ·exact hcolt e
   ·exact hcolo (hfr _ hm)) e
  have alive' : ∀ a ∈ own, ∃ o, s'.heap.get? a = some o := fun a ha => by
   by_cases hm : a ∈ frL L (tCs L)
   ·exact (f1.noTup (tCs_ok L) a hm).alive
   ·obtain ⟨o', e⟩ := aliveE a ha
    refine ⟨o', GEs.keep a o' (fun hm' => ?_) e⟩
    rcases mC hm' with e' | hm'
    ·exact hIo (e' ▸ ha)
    rcases mC hm' with e' | hm'
    ·exact htbo (e' ▸ ha)
    ·exact hm hm'
  have hysl : ys.length = 4 := hys.len
  refine wpAny_execs_cons (wpAny_Expr_any (ev_append rfl rfl rfl (ev_local f1 f3 ⟨rw, zs.toArray, rfl, hrw', by rw [List.size_toArray]; exact Nat.le_trans hzl (by decide), evT ?_⟩)))
  refine ev_cell (c := L + 1) (by rw [tEnv_cells]; rfl) (cellAt "owner" _ _ f1 rfl f7) (ev_tupleOf hs' rfl (ev_local f1 f5 ⟨col, ys.toArray, rfl, hcol'.isList, by rw [List.size_toArray, hysl]; decide, fun T sJ GJ hT0' hT' => ?_⟩))
  refine ev_local (f1.gr0 GJ) f2 ⟨by show 3 <= sizeLine; decide, fun T2 sK GK hT20 hT2 => ⟨hrw'.at fun o e => (GJ.trans GK).k _ o e, fun sM GM hplM => wpAny_execs_nil ?_⟩⟩
  have hTo : T ∉ own := not_mem_of_new alive' hT0'
  have hT2o : T2 ∉ own := not_mem_of_new (fun a ha => by obtain ⟨o', e⟩ := alive' a ha; exact ⟨o', GJ.k a o' e⟩) hT20
  have GK' : Gr [] s' sK := GJ.trans GK
  have Gall : Gr (rw :: frL L (tCs L)) s sM := by
   have G1' : Gr (I :: tb :: rw :: frL L (tCs L)) s sM := (((G0E.widen fun a ha => .tail _ (.tail _ (.tail _ ha))).trans (GEs.widen fun a ha => by
    rcases mD ha with rfl | ha
    ·exact .head _
    rcases mD ha with rfl | ha
    ·exact .tail _ (.head _)
    ·exact .tail _ (.tail _ (.tail _ ha)))).trans GK'.nil).trans (g_new GM (.tail _ (.tail _ (.head _))))
   refine G1'.shrink fun a ha => ?_
   rcases mC ha with e | ha
   ·rw [e]; exact .inr (G0E.dead hIf (GEG.dead (fun h => nomatch h) hI))
   rcases mC ha with e | ha
   ·rw [e]; exact .inr (G0C.dead htbf htb0)
   ·exact .inl ha
  have hallo : ∀ a ∈ rw :: frL L (tCs L), a ∈ own := fun a ha => by
   rcases mD ha with rfl | ha
   ·exact hrw
   ·exact hfr a ha
  refine hQ .next sM m' cm' (zs ++ [.ref T2]) (.inl rfl) Gall ((f1.gr0 GK').gr GM fun a ha hm => hrf (by rw [mS hm] at ha; exact ha)) f3 f4 (by simpa using hplM) ?_ (by simp)
  rw [hseen, if_neg (by simp), List.map_append]
  refine (hzs.gr (Gall.widen hallo)).snoc ?_
  show VT _ _ (rowT rs o) _
  unfold rowT
  have kM : ∀ a ob, a ≠ rw -> sK.heap.get? a = some ob -> sM.heap.get? a = some ob := fun a ob h e => GM.keep a ob (fun hm => h (mS hm)) e
  have hTM : sM.heap.get? T = some (tup ys.toArray) := kM T _ (fun e => hTo (e ▸ hrw)) (GK.k T _ hT')
  have hT2M : sM.heap.get? T2 = some (tup [.str o to, .ref T, .ref tb].toArray) := kM T2 _ (fun e => hT2o (e ▸ hrw)) hT2
  have htbM : sM.heap.PlainList tb zt.toArray := (f8.at fun ob e => GK'.k tb ob e).at fun ob e => kM tb ob (fun e' => htbo (e' ▸ hrw)) e
  have hlines : VTs (· ∉ own) sM.heap ((uniq [] nl).map (lineT (selO o rs))) zt := by
   have h1 := (f9.gr GK'.nil).gr (g_new (own := I :: tb :: own) GM (.tail _ (.tail _ hrw)))
   exact VTs.mono (fun _ _ _ e => e) (fun a h hm => h (.tail _ (.tail _ hm))) _ _ h1
  rw [hnle]
  refine .tup hT2o hT2M (.cons .str (.cons (.tup hTo hTM ?_) (.cons (.lst htbo htbM (by simpa using hlines)) .nil)))
  simpa using hys.vts
end
theorem InCallC.fram {s s₁ : Shared} {L : Nat} {m cm : Str -> Option Value} {cs : List (Str × Nat)} (I : InCallC s L m cs cm s₁) : Fram L cs m cm s₁ := ⟨I.toInCall.ns, I.cell, I.apart, I.above⟩
theorem InCallC.gr {s s₁ : Shared} {L : Nat} {m cm : Str -> Option Value} {cs : List (Str × Nat)} (I : InCallC s L m cs cm s₁) : Gr [] s s₁ := by
 obtain ⟨h, tk, e⟩ := I.toInCall.same
 have k := I.toInCall.keep
 subst e
 exact gr_keep k
section
variable {b1 b2 : Bool} {w : World} {A : Around} {s : Shared}
set_option maxHeartbeats 4000000 in
theorem told_ok {l : Nat} {vs : Array Value} {rs : List Rc} {R : Result -> Shared -> Prop} (hA : A.depth < recursionLimit) (hh : A.handled = none) (hs : Stat b1 b2 w s.heap) (hl : s.heap.IsList l vs) (hrs : RecsAt s.heap vs.toList rs) (ht : Tame rs)
  (hR : ∀ v s', Gr [] s s' -> VT (fun _ => True) s'.heap (toldT rs) v -> R (.ok (.ret v)) s') :
  codeAny (model theProg (wW b1 b2 w)) A (.call (.ref 249) ⟨[.ref l], []⟩) R s := by
 refine enter hA hs (told_fd _) (told_cd _) (binds := [("records", .ref l)]) rfl (fun x hx => by rw [mS hx]; exact .inl rfl) rfl rfl rfl fun s₀ I => ?_
 generalize hLe : s.heap.objs.size = L at I ⊢
 have hL : 255 <= L := by rw [<- hLe]; exact hs.big
 have F0 := InCallC.fram I
 have hcells : (callEnvC (mkFd (atB prgB 15) "_law_told" .none pmL 248) L 249).cells = tCs L := tEnv_cells L
 rw [hcells] at F0
 replace F0 : Fram L (tCs L) _ _ s₀ := F0
 have G0 : Gr [] s s₀ := InCallC.gr I
 have hLnew : ∀ a, L <= a -> s.heap.get? a = none := fun a ha => new_at (by lia)
 have hfrn : ∀ a ∈ frL L (tCs L), s.heap.get? a = none := fun a ha => hLnew a (frL_above F0 a ha)
 have hfrD : ∀ a ∈ frL L (tCs L), Dyn a := fun a ha => .inl (Nat.le_trans hL (frL_above F0 a ha))
 have hhD : (A.deeper (tEnv L)).handled = none := hh
 have hmr0 : (bindL (callEnvC fdTold L 249).kindOf [("records", .ref l)] fun _ => none) "records" = some (.ref l) := by kernel_rfl
 generalize (bindL (callEnvC fdTold L 249).kindOf [("records", .ref l)] fun _ => none) = m0 at F0 hmr0
 generalize (bindC (callEnvC fdTold L 249).kindOf [("records", .ref l)] fun _ => none) = cm0 at F0
 generalize A.deeper (tEnv L) = A' at hhD ⊢
 generalize hE : (fun (e : Value) (s' : Shared) => wpAny (model theProg (wW b1 b2 w)) _ (leaving _ e) (fun x s'' => R (Except.error e) s'') (fun e' s'' => R (Except.error e') s'') s') = E'
 refine wpAny_execs_cons (wpAny_Assign_Name (evL ⟨Nat.zero_le _, fun rw s₁ G1 hrw0 hplr => ?_⟩))
 refine (F0.gr0 G1).set (env := tEnv L) rfl rfl fun s₂ G2 F2 => ?_
 dsimp only
 have G02 : Gr (frL L (tCs L)) s s₂ := (G0.trans G1).nil.trans (g_new G2 (.head _))
 have hs2 : Stat b1 b2 w s₂.heap := G02.stat hs hfrD
 have hrwf : rw ∉ frL L (tCs L) := fun hm => by
  obtain ⟨o, e⟩ := (F0.noTup (tCs_ok L) rw hm).alive
  rw [hrw0] at e; cases e
 have hplr2 : s₂.heap.PlainList rw #[] := hplr.at fun o e => G2.keep rw o (fun hm => hrwf (by rw [mS hm]; exact .head _)) e
 have hl2 : s₂.heap.IsList l vs := hl.at fun o e => G02.keep l o (fun hm => by rw [hfrn l hm] at e; cases e) e
 have hrs0 : RecsAt s₀.heap vs.toList rs := hrs.gr0 G0
 have hrs2 : RecsAt s₂.heap vs.toList rs := (hrs0.gr0 G1).gr G2 fun a ha => by rw [mS ha]; exact (F0.gr0 G1).noTup (tCs_ok L) _ (.head _)
 have hv100 : vs.size <= 100 := by have := hrs.length; have h2 := ht.len; simp at this; lia
 have hm2 : (fun y => if y = ("rows" : Str) then some (Value.ref rw) else m0 y) "records" = some (.ref l) := by
  show (if ("records" : Str) = "rows" then _ else _) = _
  rw [if_neg (by decide)]; exact hmr0
 refine wpAny_execs_cons (ev_for (ev_col (cl := []) ⟨rfl, rfl, by decide, fun _ => rfl⟩ rfl (by decide) hhD (ev_local F2 hm2 ⟨l, vs, rs.map (colN 0), rfl, hl2, Nat.le_trans hv100 (by decide), hrs2.col (by decide), fun nm ns s₃ G3 hnm0 hplnm hns => ?_⟩)))
 have F3 := F2.gr0 G3
 refine over_list hplnm.isList fun I sH GH hI hit hlH hne _ => ?_
 have G2H : Gr [] s₂ sH := G3.trans GH
 have FH := F2.gr0 G2H
 have hrw2 : ∃ o, s₂.heap.get? rw = some o := by obtain ⟨_, e⟩ := hplr2; exact ⟨_, e⟩
 have al2 : ∀ a, (∃ o, s₂.heap.get? a = some o) -> a ≠ I /\ a ≠ nm := fun a h => by
  obtain ⟨o, ho⟩ := h
  refine ⟨fun e => ?_, fun e => ?_⟩
  ·have := G3.k a o ho
   rw [e, hI] at this; cases this
  ·rw [e, hnm0] at ho; cases ho
 have hfr2 : ∀ a ∈ frL L (tCs L), a ≠ I /\ a ≠ nm := fun a ha => al2 a (F2.noTup (tCs_ok L) a ha).alive
 have hrwI := (al2 rw hrw2).1
 have hrwn := (al2 rw hrw2).2
 generalize hole : rs.map (colN 0) = ol at hns
 have hol : ol.length <= 100 := by rw [<- hole, List.length_map]; exact ht.len
 have hnsl : ns.length = ol.length := hns.len
 have notH : ∀ a ∈ I :: rw :: frL L (tCs L), NoTup sH a := fun a ha => by
  rcases mD ha with rfl | ha
  ·exact .iter hit
  rcases mD ha with rfl | ha
  ·exact .list (hplr2.at fun o e => G2H.k _ o e).isList
  ·exact FH.noTup (tCs_ok L) a ha
 have hIs : s.heap.get? I = none := G02.dead (fun hm => (hfr2 I hm).1 rfl) (G3.dead (fun h => nomatch h) hI)
 have hrws : s.heap.get? rw = none := G0.dead (fun h => nomatch h) hrw0
 have newO : ∀ a ∈ I :: rw :: frL L (tCs L), s.heap.get? a = none := fun a ha => by
  rcases mC ha with e | ha
  ·rw [e]; exact hIs
  rcases mC ha with e | ha
  ·rw [e]; exact hrws
  ·exact hfrn a ha
 have frees : ∀ a ∈ I :: rw :: frL L (tCs L), (ktop (wW b1 b2 w).params).get a = none := fun a ha => hs.free (newO a ha)
 refine ⟨_, _, _, _, _, srcList hhD _ I nm hne ns.toArray, ⟨hit, hlH⟩,
  fun i s' => X3_7 (fun m' cm' zt => Fram L (tCs L) m' cm' s') (fun m' cm' zt => m' "rows" = some (.ref rw)) (fun m' cm' zt => m' "records" = some (.ref l)) (fun m' cm' zt => s'.heap.PlainList rw (List.toArray zt)) (fun m' cm' zt => VTs (· ∉ I :: rw :: frL L (tCs L)) s'.heap ((uniq [] (ol.take i)).map (rowT rs)) zt) (fun m' cm' zt => zt.length <= i) (fun m' cm' zt => Gr (I :: rw :: frL L (tCs L)) sH s'), ?_, ?_, ?_, ?_⟩
 ·exact ⟨_, _, [], FH, if_pos rfl, hm2, hplr2.at fun o e => G2H.k _ o e, .nil, Nat.zero_le _, .refl _⟩
 ·rintro i s' s'' ⟨m', cm', zt, f1, f3, f4, f8, f9, f10, f11⟩ G
  exact ⟨m', cm', zt, f1.gr G fun a ha hm => (hfr2 a ha).1 (mS hm), f3, f4, f8.at fun o e => G.keep rw o (fun hm => hrwI (mS hm)) e, f9.gr (g_new G (.head _)), f10, f11.trans (g_new G (.head _))⟩
 ·rintro i v s₅ hi ⟨m', cm', zt, f1, f3, f4, f8, f9, f10, f11⟩ hfp hv E''
  obtain ⟨c, hc, tc, rfl⟩ := hns.at (i := i) (v := v) (by simpa using hv)
  have hin : i < ol.length := by rw [List.size_toArray] at hi; lia
  have h1f : L + 1 ∈ frL L (tCs L) := .tail _ (.tail _ (.tail _ (.tail _ (.head _))))
  refine wpAny_assign_Name (Fram.setC (env := tEnv L) (cs := tCs L) (c := L + 1) f1 rfl rfl (by rw [tEnv_cells]; rfl) rfl fun s₆ G6 F6 => ?_)
  have G6' : Gr (rw :: frL L (tCs L)) s₅ s₆ := g_new G6 (.tail _ h1f)
  have GH6 : Gr (I :: rw :: frL L (tCs L)) sH s₆ := f11.trans (G6'.widen fun a ha => .tail _ ha)
  have hs6 : Stat b1 b2 w s₆.heap := GH6.statF (G2H.stat0 hs2) frees
  have hL1 : ∀ a, a ≠ L + 1 -> ∀ o, s₅.heap.get? a = some o -> s₆.heap.get? a = some o := fun a h o e => G6.keep a o (fun hm => h (mS hm)) e
  refine told_out (own := I :: rw :: frL L (tCs L)) (rw := rw) (l := l) (rs := rs) (vs := vs) (zs := zt) (seen := uniq [] (ol.take i)) (o := c) (to := tc) hhD hs6 F6 f3 f4 (if_pos rfl) ?_ ?_ ht (f8.at fun o e => hL1 rw (fun e' => hrwf (by rw [e']; exact h1f)) o e)
   (f9.gr (g_new G6 (.tail _ (.tail _ h1f)))) (by lia) (.tail _ (.head _)) (fun a ha => .tail _ (.tail _ ha)) ?_ hL hrwf fun f s' m₂ cm₂ zs' hf G' F' hm2' hm3' hpl' hzs' hlen' => ?_
  ·exact (hl2.at fun o e => G2H.k l o e).at fun o e => GH6.keep l o (fun hm => by
    obtain ⟨o', e', _⟩ := hl
    rw [newO l hm] at e'; cases e') e
  ·exact (hrs2.gr0 G2H).gr GH6 notH
  ·intro a ha
   rcases mD ha with rfl | ha
   ·obtain ⟨o', e⟩ := hfp _ (.head _)
    exact ⟨o', hL1 _ (fun e' => (hfr2 _ h1f).1 e'.symm) o' e⟩
   rcases mD ha with rfl | ha
   ·obtain ⟨_, e⟩ := f8
    exact ⟨_, hL1 _ (fun e' => hrwf (by rw [e']; exact h1f)) _ e⟩
   ·exact (F6.noTup (tCs_ok L) a ha).alive
  ·refine ⟨hf, ⟨m₂, cm₂, zs', F', hm2', hm3', hpl', ?_, by lia, GH6.trans (G'.widen fun a ha => .tail _ ha)⟩, _, G6'.trans G', fun b hb hm => ?_⟩
   ·rw [take_succ hc, uniq_snoc]; exact hzs'
   ·replace hb := mr2 hb
    rcases hb with rfl | rfl
    ·rcases mC hm with e | hm
     ·exact hrwI e.symm
     ·exact (hfr2 _ hm).1 rfl
    ·rcases mC hm with e | hm
     ·exact hrwn e.symm
     ·exact (hfr2 _ hm).2 rfl
 ·rintro s' ⟨m', cm', zt, f1, f3, f4, f8, f9, f10, f11⟩
  dsimp only
  have hnt : ol.take ns.toArray.size = ol := List.take_of_length_le (by rw [List.size_toArray]; lia)
  rw [hnt] at f9
  refine wpAny_execs_cons (wpAny_Return_some (ev_local f1 f3 ?_))
  have Gs : Gr [] s s' := (((G02.widen (own' := I :: rw :: frL L (tCs L)) fun a ha => .tail _ (.tail _ ha)).trans G2H.nil).trans f11).new newO
  refine hR _ s' Gs ?_
  unfold toldT
  rw [hole]
  exact .lst trivial f8 (by simpa using VTs.mono (fun _ _ _ e => e) (fun _ _ => trivial) _ _ f9)
end
noncomputable def HasD (w : World) (h : Heap) (d : Nat) (L : DL) (ep : Nat) : Prop := ∃ o, h.get? d = some o /\ o.data = .dict (ents w L) ep
theorem HasD.at {w : World} {h h' : Heap} {d ep : Nat} {L : DL} (x : HasD w h d L ep) (k : ∀ o, h.get? d = some o -> h'.get? d = some o) : HasD w h' d L ep := let ⟨o, e, r⟩ := x; ⟨o, k o e, r⟩
theorem ents_size (w : World) (L : DL) : (ents w L).size = L.length := by simp [ents]
section
variable {prog : Program} {w : World} {A : Around} {E : Value -> Shared -> Prop} {s : Shared}
theorem iter_items {v d ep : Nat} {L : DL} {Q : Value -> Shared -> Prop} (hv : s.heap.IsItemsView v d) (hm : HasD w s.heap d L ep)
  (hQ : ∀ I s₁, Gr [] s s₁ -> s.heap.get? I = none -> IsItemIter s₁.heap I d 0 L.length ep .none .none -> HasD w s₁.heap d L ep -> d ≠ I -> Q (.ref I) s₁) : wpAny (model prog w) A (pyIter (.ref v)) Q E s := by
 obtain ⟨ov, hov, hcv, hdv⟩ := id hv
 obtain ⟨o, ho, hdat⟩ := id hm
 refine wpAny_pyIter_slot hv.typeIs F.slot_dict_items_iter (wpAny_call_entry F.slot_dict_items_iter hv.typeIs F.entry_dict_items_iter ?_ (F.args_dict_items_iter_1 _))
 unfold Builtin.«dict_items.__iter__»
 refine wpAny_bind (wpAny_pure (wpAny_bind ?_))
 unfold Builtin.Dict_items.dictOf
 refine wpAny_bind (wpAny_field hov hdv (x := .ref d) rfl (wpAny_pure (wpAny_bind ?_)))
 unfold Builtin.Dict_items.newIterator
 refine wpAny_bind (wpAny_dictEntries ho hdat (wpAny_bind (wpAny_dictEpoch ho hdat ?_)))
 have hown : Builtin.Dict_items.ownsTuple "dict_itemiterator" = true := by decide
 simp only [hown, if_true]
 refine wpAny_newObj_type (wpAny_pure ⟨_, rfl, "dict_itemiterator", _, ⟨_, Heap.get?_push_size _ rfl, rfl⟩, F.slot_dict_itemiterator_next.lookup, ?_⟩)
  (by simp only [sizeOk, Builtin.Dict_items.ownedTupleFields, List.size_toArray, List.length_append, List.length_cons, List.length_nil, sizeLine_eq]; lia)
 refine hQ _ _ (gr_push (tk := s.toks)) (new_at (Nat.le_refl _)) ?_ (hm.at fun o e => Heap.get?_push_of_some _ e) (Nat.ne_of_lt (Heap.lt_size ho))
 show (s.heap.push _).get? _ = _
 rw [Heap.get?_push_size _ rfl]
 simp [rawInt, ents_size, Builtin.Dict_items.ownedTupleFields]
theorem items_next {tg : Expr} {elts : List Expr} {x1 : Nat} {tp : Pos} (htg : tg = .Tuple elts x1 tp) {it d i ep : Nat} {L : DL} {ok ov : Value} {p : Str × Tok × Value} {Q : Value -> Shared -> Prop} (hit : IsItemIter s.heap it d i L.length ep ok ov) (hm : HasD w s.heap d L ep) (hne : d ≠ it) (hx : L[i]? = some p)
  (hQ : ∀ T s', Gr [it] s s' -> IsItemIter s'.heap it d (i + 1) L.length ep (.str p.1 p.2.1) p.2.2 -> HasD w s'.heap d L ep -> s'.heap.get? T = some (tup #[.str p.1 p.2.1, p.2.2]) -> s.heap.get? T = none -> T ≠ it -> Q (.ref T) s') :
  wpAny (model prog w) A (pyNext (.ref it)) (fun r s₁ => ∃ v, r = some v /\ wpAny (model prog w) A (letOwnedTupleGo tg (.ref it) v) (fun _ s₂ => Q v s₂) E s₁) E s := by
 obtain ⟨od, hod, hdd⟩ := id hm
 obtain ⟨hp, g, dr, tk, os⟩ := s
 have hT : Shared.TypeIs ⟨hp, g, dr, tk, os⟩ (.ref it) "dict_itemiterator" := ⟨_, hit, rfl⟩
 unfold pyNext
 refine wpAny_bind (wpAny_attempt (wpAny_callSpecial?_slot (name := Str.ofString "__next__") hT F.slot_dict_itemiterator_next (wpAny_call_entry F.slot_dict_itemiterator_next hT F.entry_dict_itemiterator_next ?_ (F.args_dict_itemiterator_next_1 _))))
 refine wpAny_bind (wpAny_pure (wpAny_bind (wpAny_bind ?_)))
 first | refine wpAny_bind (wpAny_typeNameOfWhole_itemiter hT (wpAny_pure ?_)) | refine wpAny_bind (wpAny_typeNameOf_itemiter hT (wpAny_pure ?_))
 refine wpAny_bind (wpAny_fieldsOf hit rfl ?_)
 have hown : Builtin.Dict_items.ownsTuple "dict_itemiterator" = true := by decide
 simp only [hown, if_true]
 show wpAny _ _ (if (Value.ref d == Value.none) = true then _ else _) _ _ _
 rw [if_neg (show ¬ ((Value.ref d == Value.none) = true) from Bool.false_ne_true)]
 refine wpAny_bind (wpAny_pure (wpAny_bind (wpAny_dictEntries hod hdd ?_)))
 rw [if_neg (by rw [ents_size]; simp)]
 refine wpAny_bind (wpAny_pure (wpAny_bind (wpAny_dictEpoch hod hdd ?_)))
 rw [if_neg (by simp)]
 refine wpAny_pure ?_
 have he : (ents w L)[i]? = some (ent w p) := by
  unfold ents
  rw [List.getElem?_toArray, List.getElem?_map, hx]; rfl
 simp only [show ¬ ((i : Int) < 0) from by lia, if_false, Int.toNat_natCast, he]
 refine wpAny_bind ?_
 first | refine wpAny_bind (wpAny_typeNameOfWhole_itemiter hT (wpAny_pure ?_)) | refine wpAny_bind (wpAny_typeNameOf_itemiter hT (wpAny_pure ?_))
 refine wpAny_bind (wpAny_isOneOf_itemiter hT ?_)
 show wpAny _ _ (setField (.ref it) 3 (rawInt ((i : Int) + 1)) >>= _) _ _ ⟨hp, g, dr, tk, os⟩
 refine wpAny_bind (wpAny_setField_rec hit (by simp) fun h₁ he₁ hs₁ => ?_)
 replace hs₁ : Heap.SameBut it hp h₁ := hs₁
 replace he₁ : IsItemIter h₁ it d (i + 1) L.length ep ok ov := by
  have e : ((i + 1 : Nat) : Int) = (i : Int) + 1 := by lia
  unfold IsItemIter; rw [e]; simpa [rawInt] using he₁
 have hT₁ : Shared.TypeIs ⟨h₁, g, dr, tk, os⟩ (.ref it) "dict_itemiterator" := ⟨_, he₁, rfl⟩
 refine wpAny_bind (wpAny_holding (wpAny_bind (wpAny_isOneOf_itemiter hT₁ (wpAny_bind (wpAny_isOneOf_itemiter hT₁ ?_)))))
 show wpAny _ _ (Builtin.Dict_items.pairFromOwner (.ref it) 6 (.str p.1 p.2.1) p.2.2) _ _ ⟨h₁, g, dr, tk, os⟩
 unfold Builtin.Dict_items.pairFromOwner
 refine wpAny_bind (wpAny_newTuple ?_)
 have he₂ : IsItemIter (h₁.push (tup #[.str p.1 p.2.1, p.2.2])) it d (i + 1) L.length ep ok ov := Heap.get?_push_of_some _ he₁
 generalize hh₂ : h₁.push { cls := .type "tuple", data := .seq #[.str p.1 p.2.1, p.2.2] } = h₂ at he₂
 have hz₁ : h₁.objs.size = hp.objs.size := hs₁.1
 have hil : it < hp.objs.size := Heap.lt_size hit
 have ht₂ : h₂.get? hp.objs.size = some (tup #[.str p.1 p.2.1, p.2.2]) := by rw [<- hh₂, <- hz₁]; exact Heap.get?_push_size _ rfl
 have hk₂ : ∀ b o, b ≠ it -> hp.get? b = some o -> h₂.get? b = some o := fun b o hb e => by rw [<- hh₂]; exact Heap.get?_push_of_some _ (hs₁.extBut b o hb e)
 show wpAny _ _ (Builtin.Dict_items.ownedTupleIsFree (.ref it) >>= _) _ _ ⟨h₂, g, dr, tk, os⟩
 rw [hz₁]
 clear hh₂ he₁ hs₁ hT₁ hz₁ h₁
 refine wpAny_bind ?_
 unfold Builtin.Dict_items.ownedTupleIsFree
 refine wpAny_bind (wpAny_field he₂ rfl (x := .none) rfl (wpAny_pure ?_))
 simp only [if_true]
 refine wpAny_bind (wpAny_field he₂ rfl (x := ok) rfl (wpAny_bind (wpAny_field he₂ rfl (x := ov) rfl (wpAny_bind (wpAny_setField_rec he₂ (by simp) fun h₃ he₃ hs₃ => ?_)))))
 replace hs₃ : Heap.SameBut it h₂ h₃ := hs₃
 replace he₃ : IsItemIter h₃ it d (i + 1) L.length ep (.str p.1 p.2.1) ov := he₃
 refine wpAny_bind (wpAny_setField_rec he₃ (by simp) fun h₄ he₄ hs₄ => ?_)
 replace hs₄ : Heap.SameBut it h₃ h₄ := hs₄
 replace he₄ : IsItemIter h₄ it d (i + 1) L.length ep (.str p.1 p.2.1) p.2.2 := he₄
 refine wpAny_bind (wpAny_setField_rec he₄ (by simp) fun h₅ he₅ hs₅ => ?_)
 replace hs₅ : Heap.SameBut it h₄ h₅ := hs₅
 replace he₅ : IsItemIterOut h₅ it d (i + 1) L.length ep (.str p.1 p.2.1) p.2.2 hp.objs.size := he₅
 refine wpAny_bind (wpAny_setField_rec he₅ (by simp) fun h₆ he₆ hs₆ => ?_)
 replace hs₆ : Heap.SameBut it h₅ h₆ := hs₆
 replace he₆ : IsItemIterOut h₆ it d (i + 1) L.length ep (.str p.1 p.2.1) p.2.2 hp.objs.size := he₆
 have up : ∀ b o, b ≠ it -> h₂.get? b = some o -> h₆.get? b = some o := fun b o hb e => hs₆.extBut b o hb (hs₅.extBut b o hb (hs₄.extBut b o hb (hs₃.extBut b o hb e)))
 refine wpAny_bind (wpAny_letGo (wpAny_pure (wpAny_pure ⟨_, rfl, wpAny_pure ⟨_, rfl, ?_⟩⟩)))
 subst htg
 refine wpAny_letOwnedTupleGo_items he₆ fun h₇ he₇ hs₇ => ?_
 replace hs₇ : Heap.SameBut it h₆ h₇ := hs₇
 have keep : ∀ b o, b ≠ it -> hp.get? b = some o -> h₇.get? b = some o := fun b o hb e => hs₇.extBut b o hb (up b o hb (hk₂ b o hb e))
 exact hQ _ ⟨h₇, g, dr, tk, os⟩ (gr_ext (s := ⟨hp, g, dr, tk, os⟩) (tk := tk) keep) he₇ (hm.at fun o e => keep d o hne e) (hs₇.extBut _ _ (Nat.ne_of_gt hil) (up _ _ (Nat.ne_of_gt hil) ht₂)) (new_at (Nat.le_refl _)) (Nat.ne_of_gt hil)
theorem items_end {it d i ep : Nat} {L : DL} {ok ov : Value} {Q : Shared -> Prop} (hh : A.handled = none) (hit : IsItemIter s.heap it d i L.length ep ok ov) (hm : HasD w s.heap d L ep) (hx : L[i]? = none)
  (hQ : ∀ s', Gr [it] s s' -> Q s') : wpAny (model prog w) A (pyNext (.ref it)) (fun r s₁ => r = none /\ Q s₁) E s := by
 obtain ⟨od, hod, hdd⟩ := id hm
 have hT : s.TypeIs (.ref it) "dict_itemiterator" := ⟨_, hit, rfl⟩
 unfold pyNext
 refine wpAny_bind (wpAny_attempt (wpAny_callSpecial?_slot (name := Str.ofString "__next__") hT F.slot_dict_itemiterator_next (wpAny_call_entry F.slot_dict_itemiterator_next hT F.entry_dict_itemiterator_next ?_ (F.args_dict_itemiterator_next_1 _))))
 refine wpAny_bind (wpAny_pure (wpAny_bind (wpAny_bind ?_)))
 first | refine wpAny_bind (wpAny_typeNameOfWhole_itemiter hT (wpAny_pure ?_)) | refine wpAny_bind (wpAny_typeNameOf_itemiter hT (wpAny_pure ?_))
 refine wpAny_bind (wpAny_fieldsOf hit rfl ?_)
 have hown : Builtin.Dict_items.ownsTuple "dict_itemiterator" = true := by decide
 simp only [hown, if_true]
 show wpAny _ _ (if (Value.ref d == Value.none) = true then _ else _) _ _ s
 rw [if_neg (show ¬ ((Value.ref d == Value.none) = true) from Bool.false_ne_true)]
 refine wpAny_bind (wpAny_pure (wpAny_bind (wpAny_dictEntries hod hdd ?_)))
 rw [if_neg (by rw [ents_size]; simp)]
 refine wpAny_bind (wpAny_pure (wpAny_bind (wpAny_dictEpoch hod hdd ?_)))
 rw [if_neg (by simp)]
 refine wpAny_pure ?_
 have hge : (ents w L).size <= i := by rw [ents_size]; simpa using hx
 simp only [show ¬ ((i : Int) < 0) from by lia, if_false, Int.toNat_natCast, Array.getElem?_eq_none hge]
 refine wpAny_bind ?_
 first | refine wpAny_bind (wpAny_typeNameOfWhole_itemiter hT (wpAny_pure ?_)) | refine wpAny_bind (wpAny_typeNameOf_itemiter hT (wpAny_pure ?_))
 show wpAny _ _ (setField (.ref it) 2 .none >>= _) _ _ s
 refine wpAny_bind (wpAny_setField hit rfl (by simp) ?_)
 show wpAny _ _ (newExc (.type "StopIteration") [] >>= _) _ _ _
 refine wpAny_bind ?_
 simp only [newExc, newTuple]
 refine wpAny_bind (wpAny_newObj_type ?_ (by size_fits))
 refine wpAny_bind (m := firstArgMember _ _) (wpAny_of_eq (a := Value.none) (by first | rfl | (simp only [firstArgMember]; rfl)) ?_)
 refine wpAny_newObj_type ?_ (by size_fits)
 simp only [raiseNew]
 refine wpAny_bind (wpAny_handled ?_)
 rw [show A.in1.handled = none from hh]
 refine wpAny_bind (wpAny_pure (wpAny_throw ?_))
 refine wpAny_bind (wpAny_isInstance (T := "StopIteration") (b := true) ⟨_, Heap.get?_push_size _ rfl, rfl⟩ isSubtype_stop ?_)
 exact wpAny_pure ⟨rfl, hQ _ (gr_ext (tk := s.toks) fun b o hb e => (((Heap.SameBut.update ..).extBut.push _).push _) b o hb e)⟩
theorem srcItems (hh : A.handled = none) {elts : List Expr} {x1 : Nat} {tp : Pos} (I d : Nat) (hne : d ≠ I) (L : DL) (ep : Nat) :
  Src prog w A (.Tuple elts x1 tp) (.ref I) [I, d] [I] L.length (fun i h => (∃ ok ov, IsItemIter h I d i L.length ep ok ov) /\ HasD w h d L ep) (fun i v h => X2_4 (fun T p => v = .ref T) (fun T p => L[i]? = some p) (fun T p => h.get? T = some (tup #[.str p.1 p.2.1, p.2.2])) (fun T p => T ≠ I)) where
 sub := fun b hb => by simp at hb; simp [hb]
 frame := fun _ _ _ st hk => ⟨let ⟨ok, ov, e⟩ := st.1; ⟨ok, ov, hk I (by simp) _ e⟩, st.2.at fun o e => hk d (by simp) o e⟩
 alive := fun i h st b hb => by
  replace hb := mr2 hb
  rcases hb with rfl | rfl
  ·obtain ⟨ok, ov, e⟩ := st.1; exact ⟨_, e⟩
  ·obtain ⟨o, e, _⟩ := st.2; exact ⟨o, e⟩
 item := fun i s Q E hi st hQ => by
  obtain ⟨⟨ok, ov, hit⟩, hm⟩ := st
  exact items_next rfl hit hm hne (List.getElem?_eq_getElem hi) fun T s' G hit' hm' hT hT0 hTI => hQ _ s' G ⟨⟨_, _, hit'⟩, hm'⟩ ⟨T, _, rfl, List.getElem?_eq_getElem hi, hT, hTI⟩
 done := fun s Q E st hQ => by
  obtain ⟨⟨ok, ov, hit⟩, hm⟩ := st
  exact items_end hh hit hm (by simp) hQ
 self := fun _ _ _ _ st hQ => by
  obtain ⟨⟨ok, ov, hit⟩, hm⟩ := st
  exact PySem.W.kcp_self hit hQ
noncomputable def updL (m : Str -> Option Value) : List Str -> List Value -> Str -> Option Value
 | n :: ns, v :: vs => updL (fun y => if y = n then some v else m y) ns vs
 | _, _ => m
theorem each_nil (env : Env) : assignEach [] env = [] := by simp [assignEach]
theorem each_name (env : Env) (a : Str) (p : Pos) (r : List Expr) : assignEach (.Name a p :: r) env = (false, assign (.Name a p) env) :: assignEach r env := by simp [assignEach]
theorem as_names {env : Env} {cs : List (Str × Nat)} {cm : Str -> Option Value} {Q : Unit -> Shared -> Prop} (hk : env.scope.kind = .function) (names : List (Str × Pos)) : ∀ (vs : List Value) (m : Str -> Option Value) (s : Shared), names.length = vs.length -> (∀ n ∈ names, env.kindOf n.1 = some .local) ->
  Fram env.locals cs m cm s -> (∀ s', Gr [env.locals] s s' -> Fram env.locals cs (updL m (names.map (·.1)) vs) cm s' -> Q () s') ->
  wpAny (model prog w) A (assignInOrder ((assignEach (names.map fun n => Expr.Name n.1 n.2) env).map (·.2)) vs) Q E s := by
 induction names with
 | nil =>
  intro vs m s hl hn F k
  cases vs with
  | cons => simp at hl
  | nil =>
   rw [List.map_nil, each_nil, List.map_nil]
   exact wpAny_assignInOrder_none (k s (.refl s) F)
 | cons n ns ih =>
  intro vs m s hl hn F k
  cases vs with
  | nil => simp at hl
  | cons v vs =>
   rw [List.map_cons, each_name, List.map_cons]
   refine wpAny_assignInOrder_more (wpAny_assign_Name (F.set hk (hn n (.head _)) fun s₁ G1 F1 => ?_))
   exact ih vs _ s₁ (by simpa using hl) (fun x hx => hn x (.tail _ hx)) F1 fun s' G F => k s' (G1.trans G) F
theorem as_tuple {env : Env} {cs : List (Str × Nat)} {m cm : Str -> Option Value} {x1 : Nat} {pos : Pos} {T : Nat} {items : Array Value} {Q : Unit -> Shared -> Prop} (hh : A.handled = none) (hk : env.scope.kind = .function) (names : List (Str × Pos)) (hn : names.length = items.size) (hl : ∀ n ∈ names, env.kindOf n.1 = some .local)
  (hT : s.heap.IsTuple T items) (F : Fram env.locals cs m cm s) (k : ∀ s', Gr [env.locals] s s' -> Fram env.locals cs (updL m (names.map (·.1)) items.toList) cm s' -> Q () s') :
  wpAny (model prog w) A (assign (.Tuple (names.map fun n => Expr.Name n.1 n.2) x1 pos) env (.ref T)) Q E s := by
 have he : ∀ ns : List (Str × Pos), (assignEach (ns.map fun n => Expr.Name n.1 n.2) env).length = ns.length /\ (assignEach (ns.map fun n => Expr.Name n.1 n.2) env).findIdx? (·.1) = none := by
  intro ns
  induction ns with
  | nil => rw [List.map_nil, each_nil]; exact ⟨rfl, rfl⟩
  | cons n ns ih =>
   have e : assignEach ((n :: ns).map fun n => Expr.Name n.1 n.2) env = (false, assign (.Name n.1 n.2) env) :: assignEach (ns.map fun n => Expr.Name n.1 n.2) env := by rw [List.map_cons, each_name]
   rw [e]
   refine ⟨by simp [ih.1], ?_⟩
   rw [List.findIdx?_cons]
   simp [ih.2]
 refine wpAny_assign_Tuple hh hT (by rw [(he names).1, hn]) (he names).2 fun h' hx => ?_
 have G : Gr [] s { s with heap := h' } := gr_keep (tk := s.toks) fun b o e => hx b o (Nat.ne_of_lt (Heap.lt_size e)) e
 exact as_names hk names items.toList m _ (by simpa using hn) hl (F.gr0 G) fun s' G' F' => k s' (G.nil.trans G') F'
end
theorem still_ok {b1 b2 : Bool} {w : World} {A : Around} {s : Shared} {R : Result -> Shared -> Prop} {c : Code} (l : List (Nat × Obj)) (n : Nat) (o : List Nat) (js : List Nat) (v : Value)
  (chk : ∀ dep un fr gs γ tb, Chk (VV b1 b2 w dep un fr gs γ) c (den c) l tb (fun _ => .go n o .done) js (fun _ _ => ⟨none, .base, .pure (.done (.ret v)), [], objsOf l⟩))
  (hA : Deep 1 A) (hs : Stat b1 b2 w s.heap) (hl : Has s.heap l) (hd : ∀ p ∈ l, Dyn p.1) (nd : (l.map (·.1)).Nodup) (ok : newsOk l .nil 0 = true) (hR : ∀ s', Gr [] s s' -> R (.ok (.ret v)) s') : codeAny (model theProg (wW b1 b2 w)) A c R s := by
 obtain ⟨hh, dep, fr, gs, un⟩ := A
 obtain ⟨rfl, hdp, hu⟩ := hA
 refine codeBy l (fun _ => .go n o .done) js _ hs (fun p hp => ⟨hl p hp, hd p hp⟩) nd ok hdp hu (fun _ => trivial) (chk dep un fr gs _ s.toks) ?_
 intro nb xs st hnb _ hsee
 have e := See.mk.inj hsee
 refine endRet e.1 e.2.1 e.2.2.1 fun s' R' => ?_
 have h1 := (seeHas R' _ _ e.2.2.2.2).1
 exact hR s' ((R'.eff (n := 0) e.2.2.2.1).forget rfl hl h1).gr
noncomputable def isP : T -> Bool
 | .p .. => true
 | _ => false
noncomputable def isTp : T -> Bool
 | .p .. => true
 | .t .. => true
 | _ => false
noncomputable def Wd (t : T) : Prop := (∃ x, t = .s x) \/ (∃ x y, t = .p x y) \/ ∃ x y, t = .t [.s x, .s y]
noncomputable abbrev isiCode (v c : Value) : Code := .call (.builtin "isinstance") ⟨[v, c], []⟩
section
variable {b1 b2 : Bool} {w : World}
theorem isi1_check (b1 b2 : Bool) (w : World) (dep un : Nat) (fr : Option (List Env)) (gs : Option (List Code)) (γ tb a d t u : Nat) (x y : Str) :
  Chk (VV b1 b2 w dep un fr gs γ) (isiCode (.ref (a + 255)) (.ref 217)) (den (isiCode (.ref (a + 255)) (.ref 217))) [(a + 255, pairObj d x t y u)] tb (fun _ => .go 4 [1] .done) [0] (fun _ _ => ⟨none, .base, .pure (.done (.ret (.bool true))), [], objsOf [(a + 255, pairObj d x t y u)]⟩) := by
 intro nb xs
 cases b1 <;> cases b2 <;> kernel_rfl
theorem isi2_check (b1 b2 : Bool) (w : World) (dep un : Nat) (fr : Option (List Env)) (gs : Option (List Code)) (γ tb a d t u : Nat) (x y : Str) :
  Chk (VV b1 b2 w dep un fr gs γ) (isiCode (.ref (a + 255)) (.type "tuple")) (den (isiCode (.ref (a + 255)) (.type "tuple"))) [(a + 255, pairObj d x t y u)] tb (fun _ => .go 5 [1, 1, 0] .done) [0] (fun _ _ => ⟨none, .base, .pure (.done (.ret (.bool true))), [], objsOf [(a + 255, pairObj d x t y u)]⟩) := by
 intro nb xs
 cases b1 <;> cases b2 <;> kernel_rfl
theorem isi3_check (b1 b2 : Bool) (w : World) (dep un : Nat) (fr : Option (List Env)) (gs : Option (List Code)) (γ tb a : Nat) (vs : Array Value) :
  Chk (VV b1 b2 w dep un fr gs γ) (isiCode (.ref (a + 255)) (.ref 217)) (den (isiCode (.ref (a + 255)) (.ref 217))) [(a + 255, tup vs)] tb (fun _ => .go 21 [1, 0, 0, 1, 1, 1, 1, 1, 1] .done) [0] (fun _ _ => ⟨none, .base, .pure (.done (.ret (.bool false))), [], objsOf [(a + 255, tup vs)]⟩) := by
 intro nb xs
 cases b1 <;> cases b2 <;> kernel_rfl
theorem isi4_check (b1 b2 : Bool) (w : World) (dep un : Nat) (fr : Option (List Env)) (gs : Option (List Code)) (γ tb t : Nat) (x : Str) :
  Chk (VV b1 b2 w dep un fr gs γ) (isiCode (.str x t) (.ref 217)) (den (isiCode (.str x t) (.ref 217))) [] tb (fun _ => .go 14 [0, 0] .done) [] (fun _ _ => ⟨none, .base, .pure (.done (.ret (.bool false))), [], objsOf []⟩) := by
 intro nb xs
 cases b1 <;> cases b2 <;> kernel_rfl
theorem isi5_check (b1 b2 : Bool) (w : World) (dep un : Nat) (fr : Option (List Env)) (gs : Option (List Code)) (γ tb a : Nat) (vs : Array Value) :
  Chk (VV b1 b2 w dep un fr gs γ) (isiCode (.ref (a + 255)) (.type "tuple")) (den (isiCode (.ref (a + 255)) (.type "tuple"))) [(a + 255, tup vs)] tb (fun _ => .go 4 [1] .done) [0] (fun _ _ => ⟨none, .base, .pure (.done (.ret (.bool true))), [], objsOf [(a + 255, tup vs)]⟩) := by
 intro nb xs
 cases b1 <;> cases b2 <;> kernel_rfl
theorem ge255 {a : Nat} (h : 255 <= a) : ∃ c, a = c + 255 := ⟨a - 255, by lia⟩
theorem isi_pair {A : Around} {s : Shared} {R : Result -> Shared -> Prop} {t : T} {v : Value} (hA : Deep 1 A) (hs : Stat b1 b2 w s.heap) (ht : Wd t) (hv : VT (255 <= ·) s.heap t v) (hR : ∀ s', Gr [] s s' -> R (.ok (.ret (.bool (isP t)))) s') :
  codeAny (model theProg (wW b1 b2 w)) A (isiCode v (.ref 217)) R s := by
 rcases ht with ⟨x, rfl⟩ | ⟨x, y, rfl⟩ | ⟨x, y, rfl⟩
 ·unfold VT at hv; obtain ⟨tk, rfl⟩ := hv
  exact still_ok [] _ _ _ _ (fun dep un fr gs γ tb => isi4_check b1 b2 w dep un fr gs γ tb tk x) hA hs (fun _ h => nomatch h) (fun _ h => nomatch h) .nil rfl hR
 ·unfold VT at hv; obtain ⟨a, d, t, u, rfl, h1, h2⟩ := hv
  obtain ⟨c, rfl⟩ := ge255 h1.1
  exact still_ok [(c + 255, pairObj d x t y u)] _ _ _ _ (fun dep un fr gs γ tb => isi1_check b1 b2 w dep un fr gs γ tb c d t u x y) hA hs (fun p hp => by rw [mS hp]; exact h2) (fun p hp => by rw [mS hp]; exact dyn255 _) (by simp) rfl hR
 ·unfold VT at hv; obtain ⟨a, vs, rfl, h1, h2, _⟩ := hv
  obtain ⟨c, rfl⟩ := ge255 h1
  exact still_ok [(c + 255, tup vs)] _ _ _ _ (fun dep un fr gs γ tb => isi3_check b1 b2 w dep un fr gs γ tb c vs) hA hs (fun p hp => by rw [mS hp]; exact h2) (fun p hp => by rw [mS hp]; exact dyn255 _) (by simp) rfl hR
end
section
variable {b1 b2 : Bool} {w : World} {A : Around} {E : Value -> Shared -> Prop} {s : Shared} {env : Env}
noncomputable abbrev wants2 (Q E : Value -> Shared -> Prop) : Result -> Shared -> Prop := fun r s' => match r with | .ok (.ret v) => Q v s' | .ok _ => False | .error e => E e s'
theorem ev_callB {x : Str} {id : String} {np pos : Pos} {e : Expr} {r : List Expr} {Q : Value -> Shared -> Prop} (hs : Stat b1 b2 w s.heap) (hb : globOf (wW b1 b2 w).params x = none /\ builOf (wW b1 b2 w).params x = some (.builtin id))
  (h : evalsAll theProg (wW b1 b2 w) A E env (e :: r) (fun vs s₁ => codeAny (model theProg (wW b1 b2 w)) A (.call (.builtin id) ⟨vs, []⟩) (wants2 Q E) s₁) s) (hst : autoParam (starEach (e :: r) env = (e :: r).map fun e => (false, eval e env)) byRfl)
  (hk : autoParam (env.scope.kind = .function) byRfl) (hx : autoParam (env.kindOf x = some .globalImplicit) byRfl) (h3 : autoParam (env.globals = 3) byRfl) (h0 : autoParam (env.builtins = 0) byRfl) (hd : (x == ("__debug__" : Str)) = false := by decide) :
  wpAny (model theProg (wW b1 b2 w)) A (eval (.Call (.Name x np) (e :: r) [] pos) env) Q E s := by
 refine wpAny_Call_ofName (ev_buil hs hb ?_ hk hx h3 h0 hd)
 rw [hst]
 have hp : ∀ l : List Expr, (backTo pos (l.map fun e => (false, eval e env))).any (·.1) = false := by
  intro l
  induction l with
  | nil => rfl
  | cons a l ih => exact ih
 refine callWith_builtin (hp (e :: r)) (evalArgs_plain ?_)
 exact wpAny_mono (evalsAll_spliced _ _ _ h) (fun vs s₁ h₁ => wpAny_call h₁) fun _ _ e => e
theorem ev_callF {x : Str} {f : Nat} {o : Obj} {fd : FuncData} {np pos : Pos} {e : Expr} {r : List Expr} {Q : Value -> Shared -> Prop} (hs : Stat b1 b2 w s.heap) (hb : globOf (wW b1 b2 w).params x = some (.ref f)) (ho : (ktop (wW b1 b2 w).params).get f = some o /\ o.data = .func fd)
  (h : evalsAll theProg (wW b1 b2 w) A E env (e :: r) (fun vs s₁ => Stat b1 b2 w s₁.heap /\ codeAny (model theProg (wW b1 b2 w)) A (.call (.ref f) ⟨vs, []⟩) (wants2 Q E) s₁) s) (hst : autoParam (starEach (e :: r) env = (e :: r).map fun e => (false, eval e env)) byRfl)
  (hk : autoParam (env.scope.kind = .function) byRfl) (hx : autoParam (env.kindOf x = some .globalImplicit) byRfl) (h3 : autoParam (env.globals = 3) byRfl) (hd : (x == ("__debug__" : Str)) = false := by decide) :
  wpAny (model theProg (wW b1 b2 w)) A (eval (.Call (.Name x np) (e :: r) [] pos) env) Q E s := by
 refine wpAny_Call_ofName (ev_glob hs hb ?_ hk hx h3 hd)
 rw [hst]
 refine callWith_function (o := o) (fd := fd) (evalArgs_plain ?_)
 exact wpAny_mono (evalsAll_spliced _ _ _ h) (fun vs s₁ h₁ => ⟨⟨h₁.1.at ho.1, ho.2⟩, wpAny_call h₁.2⟩) fun _ _ e => e
end
section
variable {prog : Program} {w : World} {A : Around} {E : Value -> Shared -> Prop} {s : Shared} {env : Env}
theorem ev_items {o : Expr} {apos pos : Pos} {Q : Value -> Shared -> Prop} (hbase : attributeBase o "items" env (eval o env) = eval o env) (hline : (apos.endLine == pos.line) = true)
  (h : wpAny (model prog w) A (eval o env) (fun v s₁ => X3_4 (fun d L ep => v = .ref d) (fun d L ep => (d == sysModules) = false) (fun d L ep => s₁.heap.get? d = some (dictO w L ep)) (fun d L ep => ∀ V s', Gr [] s₁ s' -> s₁.heap.get? V = none -> s'.heap.IsItemsView V d -> Q (.ref V) s')) E s) :
  wpAny (model prog w) A (eval (.Call (.Attribute o "items" apos) [] [] pos) env) Q E s := by
 refine wpAny_Call_method (T := "dict") (id := "dict.items") hbase rfl hline F.plainAttrs_dict F.slot_dict_items F.type_dict_items (wpAny_mono h (fun v s₁ h₁ => ?_) fun _ _ e => e)
 obtain ⟨d, L, ep, rfl, hd, ho, hQ⟩ := h₁
 have hT : s₁.TypeIs (.ref d) "dict" := ⟨_, ho, rfl⟩
 refine ⟨hT, fun a e => by cases e; exact ⟨_, ho, rfl⟩, ?_⟩
 show wpAny _ _ (callWith pos (.builtin "dict.items") [.ref d] [] []) Q E s₁
 refine callWith_builtin rfl (PySem.evalArgs_none ?_)
 refine wpAny_call_entry F.slot_dict_items hT F.entry_dict_items ?_ (F.args_dict_items_1 _)
 unfold Builtin.«dict.items»
 refine wpAny_bind ?_
 unfold Builtin.Dict.noArgs
 refine wpAny_bind (wpAny_notOrdered_dict hT ?_)
 show wpAny _ _ (pure d) _ _ s₁
 refine wpAny_pure ?_
 show wpAny _ _ (Builtin.Dict.showsAll d >>= _) _ _ s₁
 unfold Builtin.Dict.showsAll
 rw [if_neg (by rw [hd]; exact Bool.false_ne_true)]
 refine wpAny_bind (wpAny_pure ?_)
 exact wpAny_bind (wpAny_newObj_type (wpAny_pure ⟨_, rfl, hQ _ _ (gr_push (tk := s₁.toks)) (new_at (Nat.le_refl _)) ⟨_, Heap.get?_push_size _ rfl, rfl, rfl⟩⟩))
theorem adjust_upto (k n : Nat) (hk : k <= n) : Builtin.Slice.sliceAdjust none (some (k : Int)) 1 (n : Int) = (0, (k : Int)) := by
 unfold Builtin.Slice.sliceAdjust
 have h1 : ¬ ((1 : Int) < 0) := by lia
 have h2 : ¬ ((k : Int) < 0) := by lia
 simp only [h1, h2, if_false]
 congr 1
 lia
theorem places_upto (k : Nat) : Builtin.Slice.slicePlaces 0 (k : Int) 1 = k := by
 unfold Builtin.Slice.slicePlaces
 have h1 : (1 : Int) > 0 := by lia
 simp only [h1, if_true, Int.ediv_one]
 split <;> lia
theorem pick_upto (xs : Array Value) (k : Nat) (hk : k <= xs.size) : ((List.range k).filterMap fun (j : Nat) => xs[((0 : Int) + (j : Int) * 1).toNat]?).toArray = (xs.toList.take k).toArray := by
 have e : (fun (j : Nat) => xs[((0 : Int) + (j : Int) * 1).toNat]?) = fun j => xs[0 + j]? := by
  funext j
  have : ((0 : Int) + (j : Int) * 1).toNat = 0 + j := by lia
  rw [this]
 rw [e]
 have := pick_run xs 0 k
 rw [List.filterMap_map] at this
 have e2 : ((fun x => xs[x]?) ∘ fun x => 0 + x) = fun j => xs[0 + j]? := rfl
 rw [e2] at this
 rw [this, List.drop_zero]
theorem sliceApplied_upto {sl : Nat} {k n : Nat} {u : Tok} {Q : Int × Int × Nat -> Shared -> Prop} (hs : s.heap.IsSliceOf sl .none (.int (k : Int) u) .none) (hk : k <= n) (h : Q (0, 1, k) s) :
  wpAny (model prog w) A (Builtin.Slice.sliceApplied (.ref sl) (pure (n : Int))) Q E s := by
 obtain ⟨os, hos, hcs, hds⟩ := id hs
 unfold Builtin.Slice.sliceApplied Builtin.Slice.sliceFields
 refine wpAny_bind (wpAny_bind (wpAny_field hos hds (x := .none) rfl (wpAny_bind (wpAny_field hos hds (x := .int (k : Int) u) rfl (wpAny_bind (wpAny_field hos hds (x := .none) rfl (wpAny_pure ?_)))))))
 refine wpAny_bind (PyProof.Rows.slicePart_none ?_)
 show wpAny _ _ (if ((1 : Int) == 0) = true then _ else _) _ _ s
 rw [if_neg (by decide)]
 refine wpAny_bind (PyProof.Rows.slicePart_none (wpAny_bind (PyProof.Rows.slicePart_int (wpAny_bind (wpAny_pure ?_)))))
 show wpAny _ _ (match Builtin.Slice.sliceAdjust none (some (k : Int)) 1 (n : Int) with | (lo, hi) => pure (lo, (1 : Int), Builtin.Slice.slicePlaces lo hi 1)) _ _ s
 rw [adjust_upto k n hk]
 show wpAny _ _ (pure ((0 : Int), (1 : Int), Builtin.Slice.slicePlaces 0 (k : Int) 1)) _ _ s
 rw [places_upto k]
 exact wpAny_pure h
theorem ev_upto {value : Expr} {k : Nat} {kd : Nat} {p1 p2 p3 : Pos} {Q : Value -> Shared -> Prop}
  (h : wpAny (model prog w) A (eval value env) (fun v s₁ => X2_5 (fun t vs => v = .ref t) (fun t vs => s₁.heap.IsTuple t vs) (fun t vs => vs.size <= sizeLine) (fun t vs => k < vs.size) (fun t vs => ∀ T s', Gr [] s₁ s' -> s₁.heap.get? T = none -> s'.heap.get? T = some (tup (vs.toList.take k).toArray) -> Q (.ref T) s')) E s)
  (ht : autoParam (∀ o r, letTemporaryGo value o r = pure ()) byRfl) :
  wpAny (model prog w) A (eval (.Subscript value (.Slice none (some (.Constant (.int (k : Int)) kd p1)) none p2) p3) env) Q E s := by
 refine wpAny_Subscript_Slice (T := "tuple") PyProof.Rows.slot_tuple_getitem.lookup (wpAny_mono h (fun o s₁ h₁ => ?_) fun _ _ e => e) ht
 obtain ⟨t, vs, rfl, hT, hsz, hk, hQ⟩ := h₁
 refine wpAny_Slice (wpAny_evalPart_none (wpAny_evalPart_some (wpAny_Constant_int (wpAny_evalPart_none ?_))))
 have hT' : (s₁.heap.push { cls := .type "slice", data := .fields #[.none, .int (k : Int) s₁.toks, .none] }).IsTuple t vs := hT.at fun o e => Heap.get?_push_of_some _ e
 generalize hH : s₁.heap.push { cls := .type "slice", data := .fields #[.none, .int (k : Int) s₁.toks, .none] } = H at hT' ⊢
 have hs : H.IsSliceOf s₁.heap.objs.size .none (.int (k : Int) s₁.toks) .none := by rw [<- hH]; exact Heap.IsSliceOf.new ..
 have keepH : ∀ b o, s₁.heap.get? b = some o -> H.get? b = some o := fun b o e => by rw [<- hH]; exact Heap.get?_push_of_some _ e
 have hTT : Shared.TypeIs ⟨H, s₁.gens, s₁.drawn, s₁.toks + 1, s₁.os⟩ (.ref t) "tuple" := by obtain ⟨o, e, hc, _⟩ := hT'; exact ⟨o, e, hc⟩
 refine ⟨hTT, ?_⟩
 obtain ⟨os, hos, hcs, hds⟩ := id hs
 have hTs : Shared.TypeIs ⟨H, s₁.gens, s₁.drawn, s₁.toks + 1, s₁.os⟩ (.ref s₁.heap.objs.size) "slice" := ⟨os, hos, hcs⟩
 unfold getItem
 try with_reducible refine wpAny_holding ?_
 first | refine wpAny_bind (wpAny_pure ?_) | skip
 refine wpAny_bind (wpAny_sequenceKey hTT (by decide) ?_)
 refine wpAny_bind (wpAny_callSpecial?_slot (name := Str.ofString "__getitem__") hTT PyProof.Rows.slot_tuple_getitem (wpAny_call_entry PyProof.Rows.slot_tuple_getitem hTT PyProof.Rows.entry_tuple_getitem ?_ (PyProof.Rows.args_tuple_getitem _ _)))
 show wpAny _ _ (Builtin.Tuple.tupleItemsOf (.ref t) >>= _) _ _ _
 refine wpAny_bind (PyProof.Rows.tupleItemsOf_ hT' ?_)
 refine wpAny_bind (wpAny_typeOf hTs ?_)
 rw [if_pos (by decide)]
 refine wpAny_bind (sliceApplied_upto hs (Nat.le_of_lt hk) ?_)
 have hno : ¬ (((0 : Int) == 0 && (1 : Int) == 1 && k == vs.size) = true) := by
  have : (k == vs.size) = false := by rw [beq_eq_false_iff_ne]; lia
  rw [this]; simp
 show wpAny _ _ (if ((0 : Int) == 0 && (1 : Int) == 1 && k == vs.size) = true then _ else _) _ _ _
 rw [if_neg hno, pick_upto vs k (Nat.le_of_lt hk)]
 have hok : sizeOk (.seq (vs.toList.take k).toArray) := by
  show (vs.toList.take k).toArray.size <= sizeLine
  rw [List.size_toArray, List.length_take]
  lia
 have fin : Q (.ref H.objs.size) { (⟨H, s₁.gens, s₁.drawn, s₁.toks + 1, s₁.os⟩ : Shared) with heap := H.push (tup (vs.toList.take k).toArray) } :=
  hQ _ _ (gr_keep (s := s₁) (tk := s₁.toks + 1) fun b o e => Heap.get?_push_of_some _ (keepH b o e)) (by
   cases q : s₁.heap.get? H.objs.size with
   | none => rfl
   | some o => exact absurd (Heap.lt_size (keepH _ _ q)) (Nat.lt_irrefl _)) (Heap.get?_push_size _ rfl)
 first
  | exact wpAny_bind (m := Builtin.Tuple.tupleExact _) (wpAny_newObj_type (wpAny_pure ⟨_, rfl, wpAny_pure fin⟩) hok)
  | exact wpAny_bind (m := Builtin.Tuple.tupleExact _) (wpAny_newObj_type (wpAny_bind (wpAny_pure (wpAny_pure ⟨_, rfl, wpAny_pure fin⟩))) hok)
  | exact wpAny_bind (wpAny_bind (m := Builtin.Tuple.tupleExact _) (wpAny_newObj_type (wpAny_pure (wpAny_pure ⟨_, rfl, wpAny_pure fin⟩)) hok))
  | exact wpAny_bind (wpAny_bind (m := Builtin.Tuple.tupleExact _) (wpAny_newObj_type (wpAny_pure ⟨_, rfl, wpAny_pure fin⟩) hok))
end
noncomputable abbrev Tab := List (Str × T)
structure Ent where
 c1 : Str
 c2 : Str
 c3 : Str
 c4 : Str
 tab : Tab
noncomputable def TabAt (w : World) (h : Heap) (d : Nat) (tab : Tab) : Prop := X2_2 (fun L ep => h.get? d = some (dictO w L ep)) (fun L ep => Paired (fun (p : Str × Tok × Value) (q : Str × T) => p.1 = q.1 /\ VT (255 <= ·) h q.2 p.2.2) L tab)
noncomputable def EntAt (w : World) (h : Heap) (v : Value) (e : Ent) : Prop := X6_4 (fun a d t1 t2 t3 t4 => v = .ref a) (fun a d t1 t2 t3 t4 => 255 <= d) (fun a d t1 t2 t3 t4 => h.get? a = some (tup #[.str e.c1 t1, .str e.c2 t2, .str e.c3 t3, .str e.c4 t4, .ref d])) (fun a d t1 t2 t3 t4 => TabAt w h d e.tab)
theorem TabAt.keep {w : World} {h h' : Heap} {d : Nat} {tab : Tab} (k : ∀ a o, h.get? a = some o -> h'.get? a = some o) (x : TabAt w h d tab) : TabAt w h' d tab := by
 obtain ⟨L, ep, e, p⟩ := x
 exact ⟨L, ep, k _ _ e, Paired.imp (fun a b h => ⟨h.1, VT.mono (fun a o _ e => k a o e) (fun _ h => h) _ _ h.2⟩) p⟩
theorem EntAt.keep {w : World} {h h' : Heap} {v : Value} {e : Ent} (k : ∀ a o, h.get? a = some o -> h'.get? a = some o) (x : EntAt w h v e) : EntAt w h' v e := by
 obtain ⟨a, d, t1, t2, t3, t4, rfl, hd, e1, e2⟩ := x
 exact ⟨a, d, t1, t2, t3, t4, rfl, hd, k _ _ e1, e2.keep k⟩
theorem VT.off {N : Nat -> Prop} {h : Heap} {own : List Nat} (hn : ∀ a ∈ own, h.get? a = none) : ∀ (t : T) (v : Value), Wd t -> VT N h t v -> VT (· ∉ own) h t v := by
 intro t v hw e
 have no : ∀ a o, h.get? a = some o -> a ∉ own := fun a o e hm => by rw [hn a hm] at e; cases e
 rcases hw with ⟨x, rfl⟩ | ⟨x, y, rfl⟩ | ⟨x, y, rfl⟩
 ·unfold VT at e ⊢; exact e
 ·unfold VT at e ⊢
  obtain ⟨a, d, t, u, h1, h2, h3⟩ := e
  exact ⟨a, d, t, u, h1, ⟨h2.1, no _ _ h3⟩, h3⟩
 ·unfold VT at e ⊢
  obtain ⟨a, vs, h1, h2, h3, h4⟩ := e
  refine ⟨a, vs, h1, no _ _ h3, h3, ?_⟩
  unfold VTs at h4 ⊢
  obtain ⟨v1, r, e1, e2, e3⟩ := h4
  refine ⟨v1, r, e1, by unfold VT at e2 ⊢; exact e2, ?_⟩
  unfold VTs at e3 ⊢
  obtain ⟨v2, r2, e4, e5, e6⟩ := e3
  exact ⟨v2, r2, e4, by unfold VT at e5 ⊢; exact e5, by unfold VTs at e6 ⊢; exact e6⟩
noncomputable def cellT (p : Str × T) : T := .t [.s p.1, p.2, .b (isP p.2)]
noncomputable def rowE (p : Str × Ent) : T := .t [.s p.1, .t [.s p.2.c1, .s p.2.c2, .s p.2.c3, .s p.2.c4], .l (p.2.tab.map cellT)]
noncomputable def rowsT (ps : List (Str × Ent)) : T := .l (ps.map rowE)
noncomputable abbrev lrB : List Stmt := bodyOf (atB prgB 14)
noncomputable abbrev lrIn : List Stmt := forB (atB lrB 1)
noncomputable abbrev rEnv (L : Nat) : Env := callEnvC fdRows L 244
theorem rEnv_cells (L : Nat) : (rEnv L).cells = [] := by kernel_rfl
section
variable {b1 b2 : Bool} {w : World} {A : Around} {E : Value -> Shared -> Prop} {s : Shared}
set_option maxHeartbeats 4000000 in
theorem rows_in {L rw : Nat} {m cm : Str -> Option Value} {own : List Nat} {h₀ : Heap} {zs : List Value} {ts : List T} {o : Str} {tk : Tok} {ev : Value} {e : Ent} {Q : Flow -> Shared -> Prop} (hA : Deep 1 A) (hs : Stat b1 b2 w s.heap)
  (F : Fram L [] m cm s) (hmw : m "rows" = some (.ref rw)) (hmo : m "owner" = some (.str o tk)) (hme : m "entry" = some ev) (h0 : ∀ a o, h₀.get? a = some o -> s.heap.get? a = some o) (hev : EntAt (wW b1 b2 w) h₀ ev e) (hwd : ∀ p ∈ e.tab, Wd p.2) (htl : e.tab.length <= 1000)
  (hpl : s.heap.PlainList rw zs.toArray) (hzs : VTs (· ∉ own) s.heap ts zs) (hzl : zs.length <= 1000) (hrw : rw ∈ own) (hL : L ∈ own) (halive : ∀ a ∈ own, ∃ o, s.heap.get? a = some o) (hnew : ∀ a ∈ own, h₀.get? a = none) (hrL : rw ≠ L)
  (hQ : ∀ s' m' zs', Gr [rw, L] s s' -> Fram L [] m' cm s' -> m' "rows" = some (.ref rw) -> s'.heap.PlainList rw zs'.toArray -> VTs (· ∉ own) s'.heap (ts ++ [rowE (o, e)]) zs' -> zs'.length = zs.length + 1 -> Q .next s') :
  wpAny (model theProg (wW b1 b2 w)) A (execs lrIn (rEnv L)) Q E s := by
 have hh := hA.handled
 obtain ⟨a, d, t1, t2, t3, t4, rfl, hd, hea, htab⟩ := hev
 obtain ⟨LD, ep, hdo, hpr⟩ := htab
 have hd1 : (d == sysModules) = false := by
  show decide (d = 1) = false
  exact decide_eq_false (fun e => by rw [e] at hd; exact absurd hd (by decide))
 refine wpAny_execs_cons ?_
 refine asg_comp (m := m) (cm := cm) (cs := []) (cl := []) own rfl rfl rfl rfl rfl (by decide) (fun _ => rfl) hL (fun _ h => nomatch h) (ev_items rfl rfl (ev_subC (k := 4) (by decide) (ev_local F hme ⟨a, _, _, rfl, isTup (h0 _ _ hea), rfl, fun tk1 => ?_⟩)))
 refine ⟨d, LD, ep, rfl, hd1, h0 _ _ hdo, fun V s₁ G1' hV0 hV => ?_⟩
 have G1 : Gr [] s s₁ := (show Gr [] s { s with toks := tk1 } from gr_tok).trans G1'
 have k1 : ∀ a o, h₀.get? a = some o -> s₁.heap.get? a = some o := fun a o e => G1.k a o (h0 a o e)
 have F1 := F.gr0 G1
 have hm1 : HasD (wW b1 b2 w) s₁.heap d LD ep := ⟨_, k1 _ _ hdo, rfl⟩
 refine iter_items hV hm1 fun I s₂ G2 hI hit hm2 hdI => ?_
 have k2 : ∀ a o, h₀.get? a = some o -> s₂.heap.get? a = some o := fun a o e => G2.k a o (k1 a o e)
 have hI0 : h₀.get? I = none := by
  cases q : h₀.get? I with
  | none => rfl
  | some o => rw [k1 _ _ q] at hI; cases hI
 have alive2 : ∀ a ∈ own, ∃ o, s₂.heap.get? a = some o := fun a ha => by obtain ⟨o, e⟩ := halive a ha; exact ⟨o, (G1.trans G2).k a o e⟩
 have hIo : I ∉ own := fun hm => by obtain ⟨o, ho⟩ := halive I hm; rw [G1.k _ _ ho] at hI; cases hI
 have F2 := F1.gr0 G2
 have hLl : LD.length = e.tab.length := hpr.length
 refine ⟨fun own' i ys s' => VTs (· ∉ own') s'.heap ((e.tab.take i).map cellT) ys, fun _ _ _ _ _ h G => h.gr G, _, _, _, _, _, srcItems hh I d hdI LD ep, by rw [hLl]; exact Nat.le_trans htl (by decide), ⟨⟨_, _, hit⟩, hm2⟩, fun _ => .nil, alive2, ?_, ?_⟩
 ·intro own' i ys v C s₃ m3 cm3 hi hC hown hox hfr hJ keep F3 hv E'
  obtain ⟨T, p, rfl, hp, hT, hTI⟩ := hv
  obtain ⟨q, hq, hpq, hval⟩ := Paired.get hpr hp
  have hC2 : s₂.heap.get? C = none := new_at hC
  have keep3 : ∀ b o, h₀.get? b = some o -> s₃.heap.get? b = some o := fun b o e => keep b o (fun hm => by rw [mS hm, hI0] at e; cases e) (k2 b o e)
  have hs3 : Stat b1 b2 w s₃.heap := holds_iff.mpr fun b o e => keep b o (fun hm => by
   rw [mS hm] at e
   rw [(G1.stat0 hs).free hI] at e; cases e) ((G2.k b o) ((holds_iff.mp (G1.stat0 hs)) b o e))
  have off : ∀ b ∈ own', h₀.get? b = none := fun b hb => by
   rcases hox b hb with hb | hb | hb
   ·exact hnew b hb
   ·rw [mS hb]; exact hI0
   ·cases q : h₀.get? b with
    | none => rfl
    | some o => rw [k2 _ _ q] at hb; cases hb
  refine as_tuple (env := cEnv _ [] C (rEnv L)) hh rfl [("caller", _), ("value", _)] rfl (fun n hn => by
   replace hn := mr2 hn
   rcases hn with rfl | rfl <;> rfl) (isTup hT) F3 fun s₄ G4 F4 => wpAny_tests_nil ?_
  simp only [if_true]
  have hs4 : Stat b1 b2 w s₄.heap := G4.statF hs3 fun b hb => by
   rw [mS hb]
   exact ((G1.trans G2).stat0 hs).free hC2
  have keep4 : ∀ b o, h₀.get? b = some o -> s₄.heap.get? b = some o := fun b o e => G4.keep b o (fun hm => by
   have h2 := k2 b o e
   rw [mS hm] at h2
   have h3 : s₂.heap.get? C = some o := h2
   rw [hC2] at h3; cases h3) (keep3 b o e)
  have hw := hwd q (List.mem_of_getElem? hq)
  refine evT (c_local (v := .str p.1 p.2.1) rfl rfl F4 (by kernel_rfl) (c_local (v := p.2.2) rfl rfl F4 (by kernel_rfl) (ev_callB hs4 (bu_isin _) (c_local (v := p.2.2) rfl rfl F4 (by kernel_rfl) (ev_glob hs4 (gl_pair _) (isi_pair hA hs4 hw (VT.mono (fun a o _ e => keep4 a o e) (fun _ h => h) _ _ hval) fun s₅ G5 => ?_))))))
  refine ⟨by show 3 <= sizeLine; decide, fun T2 s₆ G6 hT20 hT2 => ⟨(g_new G4 (.head _)).trans (G5.trans G6).nil, ?_, _, _, (F4.gr0 G5).gr0 G6⟩⟩
  have G36 : Gr own' s₃ s₆ := ((g_new G4 (hfr C (.head _))).trans (G5.trans G6).nil)
  have alive5 : ∀ b ∈ own', ∃ o, s₅.heap.get? b = some o := fun b hb => by
   by_cases hbC : b = C
   ·obtain ⟨o, _, _, e, _⟩ := (F4.gr0 G5).ns
    exact ⟨o, by rw [hbC]; exact e⟩
   ·obtain ⟨o, e⟩ := hown b hb
    exact ⟨o, G5.k b o (G4.keep b o (fun hm => hbC (mS hm)) e)⟩
  have hT2o : T2 ∉ own' := not_mem_of_new alive5 hT20
  show VTs _ _ ((e.tab.take (i + 1)).map cellT) _
  rw [take_succ hq, List.map_append]
  refine (hJ.gr G36).snoc (.tup hT2o hT2 ?_)
  refine .cons ?_ (.cons ?_ (.cons .bool .nil))
  ·rw [hpq]; exact .str
  ·exact VT.mono (fun a o _ e => (G5.trans G6).k a o (keep4 a o e)) (fun _ h => h) _ _ (VT.off off _ _ hw hval)
 ·intro own' tbl ys s' hex hD hJ hD0 hpl' hlen'
  refine ⟨F2, fun a ha hm => ?_, fun G' F' => ?_⟩
  ·rw [mS hm] at ha
   rcases mC ha with e | e
   ·exact hIo (by rw [e]; exact hL)
   ·cases e
  dsimp only
  replace hJ : VTs (· ∉ own') s'.heap ((e.tab.take LD.length).map cellT) ys := hJ
  rw [List.take_of_length_le (by lia)] at hJ
  have G2s : Gr [L, I] s s' := (G1.trans G2).nil.trans G'
  have ne : ∀ a ∈ own, a ≠ L -> ∀ o, s.heap.get? a = some o -> s'.heap.get? a = some o := fun a ha h o e => G2s.keep a o (fun hm => by
   rcases mC hm with e' | hm
   ·exact h e'
   ·exact hIo (by rw [<- mS hm]; exact ha)) e
  have hrw' : s'.heap.PlainList rw zs.toArray := hpl.at fun o e => ne rw hrw hrL o e
  have alive' : ∀ a ∈ own, ∃ o, s'.heap.get? a = some o := fun a ha => by
   by_cases h : a = L
   ·obtain ⟨o, _, _, e, _⟩ := F'.ns
    exact ⟨o, by rw [h]; exact e⟩
   ·obtain ⟨o, e⟩ := halive a ha
    exact ⟨o, ne a ha h o e⟩
  have k' : ∀ b o, h₀.get? b = some o -> s'.heap.get? b = some o := fun b o e => G2s.keep b o (fun hm => by
   rcases mC hm with e' | hm
   ·rw [e', hnew L hL] at e; cases e
   ·rw [mS hm, hI0] at e; cases e) (h0 b o e)
  have hlook : ∀ x : Str, x ≠ "table" -> (if x = ("table" : Str) then some (Value.ref tbl) else m x) = m x := fun x h => if_neg h
  refine wpAny_execs_cons (wpAny_Expr_any (ev_append rfl rfl rfl (ev_local F' (by show (if ("rows" : Str) = "table" then _ else _) = _; rw [if_neg (by decide)]; exact hmw) ⟨rw, zs.toArray, rfl, hrw', by rw [List.size_toArray]; exact Nat.le_trans hzl (by decide), evT ?_⟩)))
  refine ev_local F' (v := .str o tk) (by show (if ("owner" : Str) = "table" then _ else _) = _; rw [if_neg (by decide)]; exact hmo) (ev_upto (k := 4) (ev_local F' (by show (if ("entry" : Str) = "table" then _ else _) = _; rw [if_neg (by decide)]; exact hme) ⟨a, _, rfl, isTup (k' _ _ hea), by show 5 <= sizeLine; decide, by show 4 < 5; decide, fun T s₃ G3 hT0 hT => ?_⟩))
  refine ev_local (F'.gr0 G3) (v := .ref tbl) (if_pos rfl) ⟨by show 3 <= sizeLine; decide, fun T2 s₄ G4 hT20 hT2 => ⟨hrw'.at fun o e => (G3.trans G4).k _ o e, fun s₅ G5 hpl5 => wpAny_execs_nil ?_⟩⟩
  have hTo : T ∉ own := not_mem_of_new alive' hT0
  have hT2o : T2 ∉ own := not_mem_of_new (fun a ha => by obtain ⟨o, e⟩ := alive' a ha; exact ⟨o, G3.k a o e⟩) hT20
  have htblo : tbl ∉ own := not_mem_of_new alive2 hD0
  have G25 : Gr [rw, L] s s₅ := (((G2s.widen (own' := [I, rw, L]) fun b hb => by
   rcases mD hb with rfl | hb
   ·exact .tail _ (.tail _ (.head _))
   ·rw [mS hb]; exact .head _).trans (G3.trans G4).nil).trans (g_new G5 (.tail _ (.head _)))).shrink fun b hb => by
    rcases mC hb with e | hb
    ·rw [e]; exact .inr (G1.dead (fun h => nomatch h) hI)
    ·exact .inl hb
  have kM : ∀ b ob, b ≠ rw -> s'.heap.get? b = some ob -> s₅.heap.get? b = some ob := fun b ob h e => G5.keep b ob (fun hm => h (mS hm)) ((G3.trans G4).k b ob e)
  refine hQ s₅ _ (zs ++ [.ref T2]) G25 ((F'.gr0 (G3.trans G4)).gr G5 fun b hb hm => ?_) (by show (if ("rows" : Str) = "table" then _ else _) = _; rw [if_neg (by decide)]; exact hmw) (by simpa using hpl5) ?_ (by simp)
  ·rw [mS hm] at hb
   rcases mC hb with e | e
   ·exact hrL e
   ·cases e
  refine (hzs.gr (G25.widen fun b hb => by
   rcases mD hb with rfl | hb
   ·exact hrw
   ·rw [mS hb]; exact hL)).snoc ?_
  have hcells : VTs (· ∉ own) s₅.heap (e.tab.map cellT) ys := by
   have h1 := (hJ.gr (G3.trans G4).nil).gr (g_new (own := own') G5 (hex _ hrw))
   exact VTs.mono (fun _ _ _ e => e) (fun b h hm => h (hex b hm)) _ _ h1
  show VT _ _ (rowE (o, e)) _
  unfold rowE
  refine .tup hT2o (G5.keep T2 _ (fun hm => hT2o (by rw [mS hm]; exact hrw)) hT2) (.cons .str (.cons (.tup hTo (G5.keep T _ (fun hm => hTo (by rw [mS hm]; exact hrw)) (G4.k _ _ hT)) ?_) (.cons (.lst htblo (hpl'.at fun ob e => kM tbl ob (fun e' => htblo (e' ▸ hrw)) e) (by simpa using hcells)) .nil)))
  exact .cons .str (.cons .str (.cons .str (.cons .str .nil)))
end
theorem Src.mono {prog : Program} {w : World} {A : Around} {tg : Expr} {it : Value} {fp wr : List Nat} {n : Nat} {St : Nat -> Heap -> Prop} {P P' : Nat -> Value -> Heap -> Prop} (S : Src prog w A tg it fp wr n St P) (h : ∀ i v hp, P i v hp -> P' i v hp) : Src prog w A tg it fp wr n St P' :=
 ⟨S.sub, S.frame, S.alive, fun i s Q E hi st hQ => S.item i s Q E hi st fun v s' G st' p => hQ v s' G st' (h i v _ p), S.done, S.self⟩
theorem Deep.deeper {n : Nat} {A : Around} {env : Env} (h : Deep (n + 1) A) : Deep n (A.deeper env) := by
 refine ⟨h.handled, ?_, ?_⟩
 ·have := h.depth
  show A.depth + 1 + 60 * n < recursionLimit
  lia
 ·have := h.units
  show A.units + 3 + 1000 * n < cLine
  lia
theorem Deep.lt {n : Nat} {A : Around} (h : Deep n A) : A.depth < recursionLimit := by have := h.depth; lia
noncomputable def PairsP (w : World) (h₀ : Heap) (ps : List (Str × Ent)) (i : Nat) (v : Value) (h : Heap) : Prop :=
 X4_4 (fun T tk ev oe => ps[i]? = some oe) (fun T tk ev oe => v = .ref T) (fun T tk ev oe => (h.IsTuple T #[.str oe.1 tk, ev] \/ h₀.IsTuple T #[.str oe.1 tk, ev])) (fun T tk ev oe => EntAt w h₀ ev oe.2)
noncomputable def lrT : Expr := match atB lrB 1 with
 | .For t _ _ _ _ => t
 | _ => .Name "" default
noncomputable def PairsSrc (b1 b2 : Bool) (w : World) (s : Shared) (av : Value) (ps : List (Str × Ent)) : Prop :=
 ∀ (A : Around), A.handled = none -> ∀ (s' : Shared) (Q E : Value -> Shared -> Prop), Gr [] s s' ->
  (∀ it s₂ fp wr St, Src theProg (wW b1 b2 w) A lrT it fp wr ps.length St (PairsP (wW b1 b2 w) s.heap ps) -> St 0 s₂.heap -> Gr [] s' s₂ -> (∀ b ∈ wr, s'.heap.get? b = none) -> (∀ b ∈ fp, b ∈ wr \/ ∃ o, s.heap.get? b = some o) -> Q it s₂) ->
  wpAny (model theProg (wW b1 b2 w)) A (pyIter av) Q E s'
section
variable {b1 b2 : Bool} {w : World} {A : Around} {s : Shared}
theorem pairs_list {l : Nat} {vs : Array Value} {ps : List (Str × Ent)} (hl : s.heap.IsList l vs) (hp : Paired (fun v (p : Str × Ent) => X3_3 (fun T tk ev => v = .ref T) (fun T tk ev => s.heap.IsTuple T #[.str p.1 tk, ev]) (fun T tk ev => EntAt (wW b1 b2 w) s.heap ev p.2)) vs.toList ps) : PairsSrc b1 b2 w s (.ref l) ps := by
 intro A hh s' Q E G h
 refine over_list (hl.at fun o e => G.k _ o e) fun I s₂ G2 hI hit hl2 hne _ => ?_
 have hn : vs.size = ps.length := by simpa using hp.length
 rw [<- hn] at h
 refine h _ s₂ [I, l] [I] _ ((srcList hh _ I l hne vs).mono fun i v hp' e => ?_) ⟨hit, hl2⟩ G2 (fun b hb => by rw [mS hb]; exact hI) fun b hb => ?_
 ·obtain ⟨p, h1, T, tk, ev, h2, h3, h4⟩ := Paired.get hp (i := i) (a := v) (by simpa using e)
  exact ⟨T, tk, ev, p, h1, h2, .inr h3, h4⟩
 ·rcases mD hb with rfl | hb
  ·exact .inl (.head _)
  ·rw [mS hb]
   obtain ⟨o, e, _⟩ := hl
   exact .inr ⟨o, e⟩
theorem pairs_items {V d ep : Nat} {L : DL} {ps : List (Str × Ent)} (hv : s.heap.IsItemsView V d) (hd : HasD (wW b1 b2 w) s.heap d L ep) (hp : Paired (fun (p : Str × Tok × Value) (q : Str × Ent) => p.1 = q.1 /\ EntAt (wW b1 b2 w) s.heap p.2.2 q.2) L ps) : PairsSrc b1 b2 w s (.ref V) ps := by
 intro A hh s' Q E G h
 have hv' : s'.heap.IsItemsView V d := by obtain ⟨o, e, r⟩ := hv; exact ⟨o, G.k _ o e, r⟩
 refine iter_items hv' (hd.at fun o e => G.k _ o e) fun I s₂ G2 hI hit hm2 hdI => ?_
 have hn : L.length = ps.length := hp.length
 rw [<- hn] at h
 refine h _ s₂ [I, d] [I] _ ((srcItems hh I d hdI L ep).mono fun i v hp' e => ?_) ⟨⟨_, _, hit⟩, hm2⟩ G2 (fun b hb => by rw [mS hb]; exact hI) fun b hb => ?_
 ·obtain ⟨T, p, rfl, h1, h2, _⟩ := e
  obtain ⟨q, h3, h4, h5⟩ := Paired.get hp h1
  exact ⟨T, p.2.1, p.2.2, q, h3, rfl, .inl (by rw [<- h4]; exact isTup h2), h5⟩
 ·rcases mD hb with rfl | hb
  ·exact .inl (.head _)
  ·rw [mS hb]
   obtain ⟨o, e, _⟩ := hd
   exact .inr ⟨o, e⟩
set_option maxHeartbeats 4000000 in
theorem rows_ok {av : Value} {ps : List (Str × Ent)} {R : Result -> Shared -> Prop} (hA : Deep 2 A) (hs : Stat b1 b2 w s.heap) (hsrc : PairsSrc b1 b2 w s av ps) (hwd : ∀ q ∈ ps, ∀ p ∈ q.2.tab, Wd p.2) (htl : ∀ q ∈ ps, q.2.tab.length <= 1000) (hpl : ps.length <= 1000)
  (hR : ∀ v s', Gr [] s s' -> VT (fun _ => True) s'.heap (rowsT ps) v -> R (.ok (.ret v)) s') :
  codeAny (model theProg (wW b1 b2 w)) A (.call (.ref 244) ⟨[av], []⟩) R s := by
 refine enter hA.lt hs (rows_fd _) (rows_cd _) (binds := [("pairs", av)]) rfl (fun x hx => by rw [mS hx]; exact .inl rfl) rfl rfl rfl fun s₀ I => ?_
 generalize hLe : s.heap.objs.size = L at I ⊢
 have F0 := InCallC.fram I
 have hcells : (callEnvC (mkFd (atB prgB 14) "_law_rows" .none pmL 243) L 244).cells = [] := rEnv_cells L
 rw [hcells] at F0
 replace F0 : Fram L [] _ _ s₀ := F0
 have G0 : Gr [] s s₀ := InCallC.gr I
 have hL0 : s.heap.get? L = none := new_at (by lia)
 have hA' : Deep 1 (A.deeper (rEnv L)) := hA.deeper
 have hm0 : (bindL (callEnvC fdRows L 244).kindOf [("pairs", av)] fun _ => none) "pairs" = some av := by kernel_rfl
 generalize (bindL (callEnvC fdRows L 244).kindOf [("pairs", av)] fun _ => none) = m0 at F0 hm0
 generalize (bindC (callEnvC fdRows L 244).kindOf [("pairs", av)] fun _ => none) = cm0 at F0
 generalize A.deeper (rEnv L) = A' at hA' ⊢
 have hhA := hA'.handled
 refine wpAny_execs_cons (wpAny_Assign_Name (evL ⟨Nat.zero_le _, fun rw s₁ G1 hrw0 hplr => ?_⟩))
 refine (F0.gr0 G1).set (env := rEnv L) rfl rfl fun s₂ G2 F2 => ?_
 dsimp only
 have hrwL : rw ≠ L := fun e => by
  obtain ⟨o, _, _, h, _⟩ := F0.ns
  rw [<- e, hrw0] at h; cases h
 have hrws : s.heap.get? rw = none := G0.dead (fun h => nomatch h) hrw0
 have G02 : Gr [] s s₂ := ((G0.trans G1).nil.trans G2).new fun a ha => by rw [mS ha]; exact hL0
 have hs2 : Stat b1 b2 w s₂.heap := G02.stat0 hs
 have hplr2 : s₂.heap.PlainList rw #[] := hplr.at fun o e => G2.keep rw o (fun hm => hrwL (mS hm)) e
 refine wpAny_execs_cons (ev_for (ev_local F2 (v := av) (by show (if ("pairs" : Str) = "rows" then _ else _) = _; rw [if_neg (by decide)]; exact hm0) ?_))
 refine hsrc A' hhA s₂ _ _ G02 fun it sH fp wr St S hSt G2H hwr hfp => ?_
 have FH := F2.gr0 G2H
 have newO : ∀ a ∈ wr ++ [rw, L], s.heap.get? a = none := fun a ha => by
  rcases List.mem_append.mp ha with ha | ha
  ·exact G02.dead (fun h => nomatch h) (hwr a ha)
  rcases mC ha with e | ha
  ·rw [e]; exact hrws
  ·rw [mS ha]; exact hL0
 have frees : ∀ a ∈ wr ++ [rw, L], (ktop (wW b1 b2 w).params).get a = none := fun a ha => hs.free (newO a ha)
 have hrwin : rw ∈ wr ++ [rw, L] := List.mem_append_right _ (.head _)
 have hLin : L ∈ wr ++ [rw, L] := List.mem_append_right _ (.tail _ (.head _))
 have hrww : rw ∉ wr := fun hm => by obtain ⟨_, e⟩ := hplr2; rw [hwr rw hm] at e; cases e
 have hLw : L ∉ wr := fun hm => by
  obtain ⟨o, _, _, h, _⟩ := F2.ns
  have h' : s₂.heap.get? L = some o := h
  rw [hwr L hm] at h'; cases h'
 refine ⟨fp, wr, ps.length, St, _, S, hSt, fun i s' => X2_6 (fun m' zt => Fram L [] m' cm0 s') (fun m' zt => m' "rows" = some (.ref rw)) (fun m' zt => s'.heap.PlainList rw (List.toArray zt)) (fun m' zt => VTs (· ∉ wr ++ [rw, L]) s'.heap ((ps.take i).map rowE) zt) (fun m' zt => zt.length = i) (fun m' zt => Gr (wr ++ [rw, L]) sH s'), ?_, ?_, ?_, ?_⟩
 ·exact ⟨_, [], FH, if_pos rfl, hplr2.at fun o e => G2H.k _ o e, .nil, rfl, .refl _⟩
 ·rintro i s' s'' ⟨m', zt, f1, f3, f8, f9, f10, f11⟩ G
  exact ⟨m', zt, f1.gr G (fun a ha hm => by
   rcases mC ha with e | e
   ·exact hLw (e ▸ hm)
   ·cases e), f3, f8.at fun o e => G.keep rw o hrww e, f9.gr (G.widen fun a ha => List.mem_append_left _ ha), f10, f11.trans (G.widen fun a ha => List.mem_append_left _ ha)⟩
 ·rintro i v s₅ hi ⟨m', zt, f1, f3, f8, f9, f10, f11⟩ hfpa ⟨T, tk, ev, oe, hoe, rfl, hT, hent⟩ E'
  have Gs5 : Gr [] s s₅ := (((G02.trans G2H).nil).trans f11).new newO
  have hT5 : s₅.heap.IsTuple T #[.str oe.1 tk, ev] := by
   rcases hT with h | h
   ·exact h
   ·exact h.at fun o e => Gs5.k T o e
  refine as_tuple (env := rEnv L) hhA rfl [("owner", _), ("entry", _)] rfl (fun n hn => by
   replace hn := mr2 hn
   rcases hn with rfl | rfl <;> rfl) hT5 f1 fun s₆ G6 F6 => ?_
  have hGL : ∀ a, a ≠ L -> ∀ o, s₅.heap.get? a = some o -> s₆.heap.get? a = some o := fun a h o e => G6.keep a o (fun hm => h (mS hm)) e
  have G56 : Gr (wr ++ [rw, L]) s₅ s₆ := g_new G6 hLin
  have hs6 : Stat b1 b2 w s₆.heap := (f11.trans G56).statF (G2H.stat0 hs2) frees
  refine rows_in (own := wr ++ [rw, L]) (h₀ := s.heap) (zs := zt) (ts := (ps.take i).map rowE) (o := oe.1) (tk := tk) (ev := ev) (e := oe.2) hA' hs6 F6 ?_ ?_ ?_ (fun a o e => (Gs5.nil.trans G56).keep a o (fun hm => by rw [newO a hm] at e; cases e) e) hent (hwd oe (List.mem_of_getElem? hoe)) (htl oe (List.mem_of_getElem? hoe))
   (f8.at fun o e => hGL rw hrwL o e) (f9.gr G56) (by lia) hrwin hLin ?_ newO hrwL fun s' m₂ zs' G' F' h1 h2 h3 h4 => ?_
  ·show (if ("rows" : Str) = "entry" then some ev else if ("rows" : Str) = "owner" then some (Value.str oe.1 tk) else m' "rows") = _
   rw [if_neg (by decide), if_neg (by decide)]; exact f3
  ·kernel_rfl
  ·kernel_rfl
  ·intro a ha
   rcases List.mem_append.mp ha with hm | hm
   ·obtain ⟨o, e⟩ := hfpa a (S.sub a hm)
    exact ⟨o, hGL a (fun e' => hLw (e' ▸ hm)) o e⟩
   rcases mC hm with e | hm
   ·obtain ⟨_, h⟩ := f8
    exact ⟨_, hGL a (by rw [e]; exact hrwL) _ (by rw [e]; exact h)⟩
   ·obtain ⟨o, _, _, h, _⟩ := F6.ns
    exact ⟨o, by rw [mS hm]; exact h⟩
  ·refine ⟨.inl rfl, ⟨m₂, zs', F', h1, h2, ?_, by lia, (f11.trans G56).trans (G'.widen fun a ha => List.mem_append_right _ ha)⟩, [rw, L], (g_new G6 (.tail _ (.head _))).trans G', fun b hb hm => ?_⟩
   ·rw [take_succ hoe, List.map_append]; exact h3
   ·rcases hfp b hb with hbw | ⟨o, e⟩
    ·rcases mC hm with e' | hm
     ·exact hrww (e' ▸ hbw)
     ·rw [mS hm] at hbw; exact hLw hbw
    ·rw [newO b (List.mem_append_right _ hm)] at e; cases e
 ·rintro s' ⟨m', zt, f1, f3, f8, f9, f10, f11⟩
  dsimp only
  rw [List.take_of_length_le (Nat.le_refl _)] at f9
  refine wpAny_execs_cons (wpAny_Return_some (ev_local f1 f3 ?_))
  have Gs : Gr [] s s' := (((G02.trans G2H).nil).trans f11).new newO
  exact hR _ s' Gs (.lst trivial f8 (by simpa using VTs.mono (fun _ _ _ e => e) (fun _ _ => trivial) _ _ f9))
end
theorem make_ok {b1 b2 : Bool} {w : World} {A : Around} {s : Shared} {R : Result -> Shared -> Prop} {c : Code} (l : List (Nat × Obj)) (n : Nat) (o : List Nat) (js1 js2 : List Nat) (v : Nat -> Value) (news : Nat -> List (Nat × Obj))
  (chk : ∀ dep un fr gs γ tb, Chk (VV b1 b2 w dep un fr gs γ) c (den c) l tb (fun _ => .go n o .done) (js1 ++ js2) (fun nb _ => ⟨none, .base, .pure (.done (.ret (v nb))), [], objsOf l ++ objsOf (news nb)⟩)) (hj : js1.length = l.length)
  (hA : Deep 1 A) (hs : Stat b1 b2 w s.heap) (hl : Has s.heap l) (hd : ∀ p ∈ l, Dyn p.1) (nd : (l.map (·.1)).Nodup) (ok : newsOk l .nil 0 = true) (hR : ∀ s' nb, nb + 255 = s.heap.objs.size -> Gr [] s s' -> Has s'.heap (news nb) -> R (.ok (.ret (v nb))) s') : codeAny (model theProg (wW b1 b2 w)) A c R s := by
 obtain ⟨hh, dep, fr, gs, un⟩ := A
 obtain ⟨rfl, hdp, hu⟩ := hA
 refine codeBy l (fun _ => .go n o .done) (js1 ++ js2) _ hs (fun p hp => ⟨hl p hp, hd p hp⟩) nd ok hdp hu (fun _ => trivial) (chk dep un fr gs _ s.toks) ?_
 intro nb xs st hnb _ hsee
 have e := See.mk.inj hsee
 refine endRet e.1 e.2.1 e.2.2.1 fun s' R' => ?_
 obtain ⟨e1, e2⟩ := seeSplit e.2.2.2.2 (by rw [hj]; simp [objsOf])
 have h1 := (seeHas R' _ _ e1).1
 exact hR s' nb hnb ((R'.eff (n := 0) e.2.2.2.1).forget rfl hl h1).gr (seeHas R' _ _ e2).1
noncomputable def Two (h : Heap) (a : Nat) (x y : Str) (t u : Tok) : Prop := h.get? a = some (tup #[.str x t, .str y u]) \/ ∃ d, h.get? a = some (pairObj d x t y u)
noncomputable abbrev zipCode (a b : Nat) : Code := .call (.type "zip") ⟨[.ref a, .ref b], []⟩
noncomputable def zipNews (a b nb : Nat) : List (Nat × Obj) := [(nb + 255 + 0, { cls := .type "tuple_iterator", data := .fields #[.ref a, .int 0 0] }), (nb + 255 + 1, { cls := .type "tuple_iterator", data := .fields #[.ref b, .int 0 0] }),
 (nb + 255 + 2, tup #[.ref (nb + 255 + 0), .ref (nb + 255 + 1)]), (nb + 255 + 3, tup #[.none, .none]), (nb + 255 + 4, { cls := .type "zip", data := .fields #[.none, .bool false, .bool false, .ref (nb + 255 + 2), .ref (nb + 255 + 3)] })]
section
variable (b1 b2 : Bool) (w : World) (dep un : Nat) (fr : Option (List Env)) (gs : Option (List Code)) (γ tb a b : Nat)
theorem zip1_check (d d' t u t' u' : Nat) (x y x' y' : Str) :
  Chk (VV b1 b2 w dep un fr gs γ) (zipCode (a + 255) (b + 255)) (den (zipCode (a + 255) (b + 255))) [(a + 255, pairObj d x t y u), (b + 255, pairObj d' x' t' y' u')] tb (fun _ => .go 54 [1, 0, 0, 0, 0, 0, 1, 0, 0, 0, 0, 0, 1, 0, 3, 2, 0, 0, 0, 0, 0, 2, 0, 0, 0, 0, 0, 2, 0, 4, 7, 7, 7, 7] .done) ([0, 1] ++ [2, 3, 4, 5, 6])
   (fun nb _ => ⟨none, .base, .pure (.done (.ret (.ref (nb + 255 + 4)))), [], objsOf [(a + 255, pairObj d x t y u), (b + 255, pairObj d' x' t' y' u')] ++ objsOf (zipNews (a + 255) (b + 255) nb)⟩) := by
 intro nb xs
 cases b1 <;> cases b2 <;> kernel_rfl
theorem zip2_check (d t u : Nat) (x y : Str) (vs : Array Value) :
  Chk (VV b1 b2 w dep un fr gs γ) (zipCode (a + 255) (b + 255)) (den (zipCode (a + 255) (b + 255))) [(a + 255, pairObj d x t y u), (b + 255, tup vs)] tb (fun _ => .go 43 [1, 0, 0, 0, 0, 0, 1, 0, 0, 0, 0, 0, 1, 0, 3, 2, 2, 2, 4, 7, 7, 7, 7] .done) ([0, 1] ++ [2, 3, 4, 5, 6])
   (fun nb _ => ⟨none, .base, .pure (.done (.ret (.ref (nb + 255 + 4)))), [], objsOf [(a + 255, pairObj d x t y u), (b + 255, tup vs)] ++ objsOf (zipNews (a + 255) (b + 255) nb)⟩) := by
 intro nb xs
 cases b1 <;> cases b2 <;> kernel_rfl
theorem zip3_check (d t u : Nat) (x y : Str) (vs : Array Value) :
  Chk (VV b1 b2 w dep un fr gs γ) (zipCode (a + 255) (b + 255)) (den (zipCode (a + 255) (b + 255))) [(a + 255, tup vs), (b + 255, pairObj d x t y u)] tb (fun _ => .go 43 [1, 1, 1, 3, 2, 0, 0, 0, 0, 0, 2, 0, 0, 0, 0, 0, 2, 0, 4, 7, 7, 7, 7] .done) ([0, 1] ++ [2, 3, 4, 5, 6])
   (fun nb _ => ⟨none, .base, .pure (.done (.ret (.ref (nb + 255 + 4)))), [], objsOf [(a + 255, tup vs), (b + 255, pairObj d x t y u)] ++ objsOf (zipNews (a + 255) (b + 255) nb)⟩) := by
 intro nb xs
 cases b1 <;> cases b2 <;> kernel_rfl
theorem zip4_check (vs vs' : Array Value) :
  Chk (VV b1 b2 w dep un fr gs γ) (zipCode (a + 255) (b + 255)) (den (zipCode (a + 255) (b + 255))) [(a + 255, tup vs), (b + 255, tup vs')] tb (fun _ => .go 32 [1, 1, 1, 3, 2, 2, 2, 4, 7, 7, 7, 7] .done) ([0, 1] ++ [2, 3, 4, 5, 6])
   (fun nb _ => ⟨none, .base, .pure (.done (.ret (.ref (nb + 255 + 4)))), [], objsOf [(a + 255, tup vs), (b + 255, tup vs')] ++ objsOf (zipNews (a + 255) (b + 255) nb)⟩) := by
 intro nb xs
 cases b1 <;> cases b2 <;> kernel_rfl
theorem zip5_check (d t u : Nat) (x y : Str) :
  Chk (VV b1 b2 w dep un fr gs γ) (zipCode (a + 255) (a + 255)) (den (zipCode (a + 255) (a + 255))) [(a + 255, pairObj d x t y u)] tb (fun _ => .go 54 [1, 0, 0, 0, 0, 0, 1, 0, 0, 0, 0, 0, 1, 0, 2, 1, 0, 0, 0, 0, 0, 1, 0, 0, 0, 0, 0, 1, 0, 3, 6, 6, 6, 6] .done) ([0] ++ [1, 2, 3, 4, 5])
   (fun nb _ => ⟨none, .base, .pure (.done (.ret (.ref (nb + 255 + 4)))), [], objsOf [(a + 255, pairObj d x t y u)] ++ objsOf (zipNews (a + 255) (a + 255) nb)⟩) := by
 intro nb xs
 cases b1 <;> cases b2 <;> kernel_rfl
theorem zip6_check (vs : Array Value) :
  Chk (VV b1 b2 w dep un fr gs γ) (zipCode (a + 255) (a + 255)) (den (zipCode (a + 255) (a + 255))) [(a + 255, tup vs)] tb (fun _ => .go 32 [1, 1, 1, 2, 1, 1, 1, 3, 6, 6, 6, 6] .done) ([0] ++ [1, 2, 3, 4, 5])
   (fun nb _ => ⟨none, .base, .pure (.done (.ret (.ref (nb + 255 + 4)))), [], objsOf [(a + 255, tup vs)] ++ objsOf (zipNews (a + 255) (a + 255) nb)⟩) := by
 intro nb xs
 cases b1 <;> cases b2 <;> kernel_rfl
end
theorem zip_ok {b1 b2 : Bool} {w : World} {A : Around} {s : Shared} {R : Result -> Shared -> Prop} {a b : Nat} {x y x' y' : Str} {t u t' u' : Tok} (ha : 255 <= a) (hb : 255 <= b) (h1 : Two s.heap a x y t u) (h2 : Two s.heap b x' y' t' u') (hA : Deep 1 A) (hs : Stat b1 b2 w s.heap)
  (hR : ∀ s' nb, nb + 255 = s.heap.objs.size -> Gr [] s s' -> Has s'.heap (zipNews a b nb) -> R (.ok (.ret (.ref (nb + 255 + 4)))) s') : codeAny (model theProg (wW b1 b2 w)) A (zipCode a b) R s := by
 obtain ⟨a, rfl⟩ := ge255 ha
 obtain ⟨b, rfl⟩ := ge255 hb
 have two : ∀ {p q : Nat × Obj}, s.heap.get? p.1 = some p.2 -> s.heap.get? q.1 = some q.2 -> Has s.heap [p, q] := fun h1 h2 r hr => by
  rcases mD hr with rfl | hr
  ·exact h1
  ·rw [mS hr]; exact h2
 have dyn2 : ∀ {o o' : Obj}, ∀ p ∈ [(a + 255, o), (b + 255, o')], Dyn p.1 := fun p hp => by
  rcases mD hp with rfl | hp
  ·exact dyn255 _
  ·rw [mS hp]; exact dyn255 _
 have dyn1 : ∀ {o : Obj}, ∀ p ∈ [(a + 255, o)], Dyn p.1 := fun p hp => by rw [mS hp]; exact dyn255 _
 by_cases e : a = b
 ·subst e
  rcases h1 with h1 | ⟨d, h1⟩
  ·exact make_ok [(a + 255, tup #[.str x t, .str y u])] _ _ [0] [1, 2, 3, 4, 5] (fun nb => .ref (nb + 255 + 4)) (zipNews (a + 255) (a + 255)) (fun dep un fr gs γ tb => zip6_check b1 b2 w dep un fr gs γ tb a _) rfl hA hs (fun p hp => by rw [mS hp]; exact h1) dyn1 (by simp) rfl hR
  ·exact make_ok [(a + 255, pairObj d x t y u)] _ _ [0] [1, 2, 3, 4, 5] (fun nb => .ref (nb + 255 + 4)) (zipNews (a + 255) (a + 255)) (fun dep un fr gs γ tb => zip5_check b1 b2 w dep un fr gs γ tb a d t u x y) rfl hA hs (fun p hp => by rw [mS hp]; exact h1) dyn1 (by simp) rfl hR
 ·have hne : ∀ {o o' : Obj}, ([(a + 255, o), (b + 255, o')].map (·.1)).Nodup := by
   intro o o'
   simpa using e
  rcases h1 with h1 | ⟨d, h1⟩ <;> rcases h2 with h2 | ⟨d', h2⟩
  ·exact make_ok [(a + 255, tup #[.str x t, .str y u]), (b + 255, tup #[.str x' t', .str y' u'])] _ _ [0, 1] [2, 3, 4, 5, 6] (fun nb => .ref (nb + 255 + 4)) (zipNews (a + 255) (b + 255)) (fun dep un fr gs γ tb => zip4_check b1 b2 w dep un fr gs γ tb a b _ _) rfl hA hs (two h1 h2) dyn2 hne rfl hR
  ·exact make_ok [(a + 255, tup #[.str x t, .str y u]), (b + 255, pairObj d' x' t' y' u')] _ _ [0, 1] [2, 3, 4, 5, 6] (fun nb => .ref (nb + 255 + 4)) (zipNews (a + 255) (b + 255)) (fun dep un fr gs γ tb => zip3_check b1 b2 w dep un fr gs γ tb a b d' t' u' x' y' _) rfl hA hs (two h1 h2) dyn2 hne rfl hR
  ·exact make_ok [(a + 255, pairObj d x t y u), (b + 255, tup #[.str x' t', .str y' u'])] _ _ [0, 1] [2, 3, 4, 5, 6] (fun nb => .ref (nb + 255 + 4)) (zipNews (a + 255) (b + 255)) (fun dep un fr gs γ tb => zip2_check b1 b2 w dep un fr gs γ tb a b d t u x y _) rfl hA hs (two h1 h2) dyn2 hne rfl hR
  ·exact make_ok [(a + 255, pairObj d x t y u), (b + 255, pairObj d' x' t' y' u')] _ _ [0, 1] [2, 3, 4, 5, 6] (fun nb => .ref (nb + 255 + 4)) (zipNews (a + 255) (b + 255)) (fun dep un fr gs γ tb => zip1_check b1 b2 w dep un fr gs γ tb a b d d' t u t' u' x y x' y') rfl hA hs (two h1 h2) dyn2 hne rfl hR
noncomputable def TupL (h : Heap) (l : Nat) (items : Array Value) : Prop := X2_2 (fun o n => h.get? l = some o) (fun o n => o.data = .seq items n)
theorem TupL.at {h h' : Heap} {l : Nat} {items : Array Value} (x : TupL h l items) (k : ∀ o, h.get? l = some o -> h'.get? l = some o) : TupL h' l items := let ⟨o, n, e, r⟩ := x; ⟨o, n, k o e, r⟩
theorem Two.tupL {h : Heap} {a : Nat} {x y : Str} {t u : Tok} (k : Two h a x y t u) : TupL h a #[.str x t, .str y u] := by
 rcases k with e | ⟨d, e⟩
 ·exact ⟨_, _, e, rfl⟩
 ·exact ⟨_, _, e, rfl⟩
structure ZipSt (z TI TO i1 i2 l1 l2 : Nat) (xs ys : Array Value) (f0 : Value) (i : Nat) (h : Heap) : Prop where
 z : IsZip h z TI TO f0
 ti : IsPair h TI (.ref i1) (.ref i2)
 to : ∃ a b, IsPair h TO a b
 i1 : h.IsTupleIter i1 l1 i
 i2 : h.IsTupleIter i2 l2 i
 l1 : TupL h l1 xs
 l2 : TupL h l2 ys
section
variable {prog : Program} {w : World} {A : Around} {E : Value -> Shared -> Prop} {s : Shared}
theorem nextOf_item {it l i : Nat} {items : Array Value} {x : Value} {Q : Value -> Shared -> Prop} (hit : s.heap.IsTupleIter it l i) (hl : TupL s.heap l items) (hx : items[i]? = some x)
  (hQ : ∀ h', h'.IsTupleIter it l (i + 1) -> Heap.SameBut it s.heap h' -> Q x { s with heap := h' }) : wpAny (model prog w) A (Builtin.SmallTypes.nextOf (.ref it)) Q E s := by
 obtain ⟨o, ho, hc, hd⟩ := id hit
 obtain ⟨ol, n, hol, hdl⟩ := hl
 unfold Builtin.SmallTypes.nextOf
 refine wpAny_bind (wpAny_callSpecial?_slot (name := Str.ofString "__next__") hit.typeIs F.slot_tuple_iterator_next (wpAny_call_entry F.slot_tuple_iterator_next hit.typeIs F.entry_tuple_iterator_next ?_ (F.args_tuple_iterator_next_1 _)))
 show wpAny _ _ (field (.ref it) 0 >>= _) _ _ s
 refine wpAny_bind (wpAny_field ho hd (x := .ref l) rfl ?_)
 rw [if_neg (show ¬ ((Value.ref l == Value.none) = true) from Bool.false_ne_true)]
 show wpAny _ _ (field (.ref it) 1 >>= _) _ _ s
 refine wpAny_bind (wpAny_field ho hd (x := .int i 0) rfl ?_)
 show wpAny _ _ (seqItems? (.ref l) >>= _) _ _ s
 refine wpAny_bind (wpAny_seqItems hol hdl ?_)
 simp only [Int.toNat_natCast, hx]
 refine wpAny_bind (wpAny_setField ho hd (by simp) (wpAny_pure ⟨x, rfl, wpAny_pure (hQ _ ⟨_, Heap.get?_update_self _ ho (Obj.isFreed_of_fields (Obj.data_mapFields hd _)), (Obj.cls_mapFields ..).trans hc, ?_⟩ (Heap.SameBut.update ..))⟩))
 rw [Obj.data_mapFields hd]; simp [rawInt]
theorem nextOf_end {it l i : Nat} {items : Array Value} {Q : Value -> Shared -> Prop} (hh : A.handled = none) (hit : s.heap.IsTupleIter it l i) (hl : TupL s.heap l items) (hx : items[i]? = none)
  (hE : ∀ h' e, Heap.ExtBut it s.heap h' -> (∃ o, h'.get? e = some o /\ o.cls = .type "StopIteration") -> E (.ref e) { s with heap := h' }) : wpAny (model prog w) A (Builtin.SmallTypes.nextOf (.ref it)) Q E s := by
 obtain ⟨o, ho, hc, hd⟩ := id hit
 obtain ⟨ol, n, hol, hdl⟩ := hl
 unfold Builtin.SmallTypes.nextOf
 refine wpAny_bind (wpAny_callSpecial?_slot (name := Str.ofString "__next__") hit.typeIs F.slot_tuple_iterator_next (wpAny_call_entry F.slot_tuple_iterator_next hit.typeIs F.entry_tuple_iterator_next ?_ (F.args_tuple_iterator_next_1 _)))
 show wpAny _ _ (field (.ref it) 0 >>= _) _ _ s
 refine wpAny_bind (wpAny_field ho hd (x := .ref l) rfl ?_)
 rw [if_neg (show ¬ ((Value.ref l == Value.none) = true) from Bool.false_ne_true)]
 show wpAny _ _ (field (.ref it) 1 >>= _) _ _ s
 refine wpAny_bind (wpAny_field ho hd (x := .int i 0) rfl ?_)
 show wpAny _ _ (seqItems? (.ref l) >>= _) _ _ s
 refine wpAny_bind (wpAny_seqItems hol hdl ?_)
 simp only [Int.toNat_natCast, hx]
 refine wpAny_bind (wpAny_rule (wpAny_bind (wpAny_setField ho hd (by simp) ?_)))
 show wpAny _ _ (newExc (.type "StopIteration") [] >>= _) _ _ _
 refine wpAny_bind ?_
 simp only [newExc, newTuple]
 refine wpAny_bind (wpAny_newObj_type ?_ (by size_fits))
 refine wpAny_bind (m := firstArgMember _ _) (wpAny_of_eq (a := Value.none) (by first | rfl | (simp only [firstArgMember]; rfl)) ?_)
 refine wpAny_newObj_type ?_ (by size_fits)
 simp only [raiseNew]
 refine wpAny_bind (wpAny_handled ?_)
 first | rw [show A.in1.handled = none from hh] | rw [hh]
 refine wpAny_bind (wpAny_pure (wpAny_throw ?_))
 exact hE _ _ (((Heap.SameBut.update ..).extBut.push _).push _) ⟨_, Heap.get?_push_size _ rfl, rfl⟩
theorem zipItem {z TI TO i1 i2 l1 l2 i : Nat} {xs ys : Array Value} {x y : Value} {Q : Value -> Shared -> Prop} (D : ZipApart z TI TO i1 i2 l1 l2) (S : ZipSt z TI TO i1 i2 l1 l2 xs ys .none i s.heap) (hx : xs[i]? = some x) (hy : ys[i]? = some y)
  (hQ : ∀ h', ZipSt z TI TO i1 i2 l1 l2 xs ys (rawInt s.heap.objs.size) (i + 1) h' -> IsPair h' s.heap.objs.size x y -> (∀ c o, c ≠ z -> c ≠ TO -> c ≠ i1 -> c ≠ i2 -> s.heap.get? c = some o -> h'.get? c = some o) -> Q (.ref s.heap.objs.size) { s with heap := h' }) :
  wpAny (model prog w) A (Builtin.«zip.__next__» ⟨[.ref z], []⟩) (fun fin s' => ∃ v, fin = .done (.ret v) /\ Q v s') E s := by
 obtain ⟨hz, hTI, ⟨a, b, hTO⟩, h1, h2, hl1, hl2⟩ := S
 show wpAny _ _ (field (.ref z) 2 >>= _) _ _ _
 refine wpAny_bind (wpAny_field hz rfl (x := .bool false) rfl ?_)
 show wpAny _ _ (field (.ref z) 3 >>= _) _ _ _
 refine wpAny_bind (wpAny_field hz rfl (x := .ref TI) rfl (wpAny_bind (wpAny_seqItems hTI rfl ?_)))
 show wpAny _ _ (Builtin.SmallTypes.ownedTupleIsFree (.ref z) >>= _) _ _ _
 unfold Builtin.SmallTypes.ownedTupleIsFree
 refine wpAny_bind (wpAny_bind (wpAny_field hz rfl (x := .none) rfl (wpAny_pure ?_)))
 simp only [if_true]
 refine wpAny_bind (wpAny_rule (wpAny_bind (wpAny_field hz rfl (x := .ref TO) rfl (wpAny_bind (wpAny_setField_rec hz (by simp) fun g₁ hz₁ hs₁ => ?_)))))
 replace hz₁ : IsZip g₁ z TI TO .ellipsis := hz₁
 replace hs₁ : Heap.SameBut z s.heap g₁ := hs₁
 refine wpAny_bind ?_
 simp only [List.zipIdx_cons, List.zipIdx_nil, List.forIn_cons, List.forIn_nil]
 refine wpAny_bind (wpAny_bind (wpAny_onRaise ?_))
 show wpAny _ _ (Builtin.SmallTypes.nextOf (.ref i1) >>= _) _ _ _
 refine wpAny_bind (nextOf_item (h1.extBut hs₁.extBut D.i1z) (hl1.at fun o e => hs₁.extBut l1 o D.l1z e) hx fun g₂ h1₂ hs₂ => wpAny_pure ?_)
 replace hs₂ : Heap.SameBut i1 g₁ g₂ := hs₂
 have hTO₂ : IsPair g₂ TO a b := hs₂.extBut _ _ D.TOi1 (hs₁.extBut _ _ D.TOz hTO)
 refine wpAny_bind (wpAny_seqItems hTO₂ rfl (wpAny_bind (wpAny_updateSeq_pair hTO₂ fun g₃ hTO₃ hs₃ => wpAny_bind (wpAny_letGo (wpAny_pure ?_)))))
 replace hTO₃ : IsPair g₃ TO x b := hTO₃
 replace hs₃ : Heap.SameBut TO g₂ g₃ := hs₃
 refine wpAny_bind (wpAny_bind (wpAny_onRaise ?_))
 show wpAny _ _ (Builtin.SmallTypes.nextOf (.ref i2) >>= _) _ _ _
 have k₃ : ∀ c o, c ≠ z -> c ≠ TO -> c ≠ i1 -> s.heap.get? c = some o -> g₃.get? c = some o := fun c o c1 c2 c3 e => hs₃.extBut _ _ c2 (hs₂.extBut _ _ c3 (hs₁.extBut _ _ c1 e))
 refine wpAny_bind (nextOf_item (h2.at fun o e => k₃ i2 o D.i2z (Ne.symm D.TOi2) (Ne.symm D.i12) e) (hl2.at fun o e => k₃ l2 o D.l2z D.l2TO D.l2i1 e) hy fun g₄ h2₄ hs₄ => wpAny_pure ?_)
 replace hs₄ : Heap.SameBut i2 g₃ g₄ := hs₄
 have hTO₄ : IsPair g₄ TO x b := hs₄.extBut _ _ D.TOi2 hTO₃
 refine wpAny_bind (wpAny_seqItems hTO₄ rfl (wpAny_bind (wpAny_updateSeq_pair hTO₄ fun g₅ hTO₅ hs₅ => wpAny_bind (wpAny_letGo (wpAny_pure (wpAny_pure ?_))))))
 replace hTO₅ : IsPair g₅ TO x y := hTO₅
 replace hs₅ : Heap.SameBut TO g₄ g₅ := hs₅
 refine wpAny_bind (wpAny_seqItems hTO₅ rfl (wpAny_bind (wpAny_newTuple ?_)))
 have hsz : g₅.objs.size = s.heap.objs.size := by rw [hs₅.1, hs₄.1, hs₃.1, hs₂.1, hs₁.1]
 have hz₅ : IsZip g₅ z TI TO .ellipsis := hs₅.extBut _ _ (Ne.symm D.TOz) (hs₄.extBut _ _ (Ne.symm D.i2z) (hs₃.extBut _ _ (Ne.symm D.TOz) (hs₂.extBut _ _ (Ne.symm D.i1z) hz₁)))
 have k₅ : ∀ c o, c ≠ z -> c ≠ TO -> c ≠ i1 -> c ≠ i2 -> s.heap.get? c = some o -> g₅.get? c = some o := fun c o c1 c2 c3 c4 e => hs₅.extBut _ _ c2 (hs₄.extBut _ _ c4 (k₃ c o c1 c2 c3 e))
 have h1₅ : g₅.IsTupleIter i1 l1 (i + 1) := ((h1₂.extBut hs₃.extBut (Ne.symm D.TOi1)).extBut hs₄.extBut D.i12).extBut hs₅.extBut (Ne.symm D.TOi1)
 have h2₅ : g₅.IsTupleIter i2 l2 (i + 1) := h2₄.extBut hs₅.extBut (Ne.symm D.TOi2)
 have hzlt : z < g₅.objs.size := Heap.lt_size hz₅
 show wpAny _ _ (Builtin.SmallTypes.ownedTupleHandOut (.ref z) (.ref g₅.objs.size) >>= _) _ _ _
 unfold Builtin.SmallTypes.ownedTupleHandOut
 have hz₆ : IsZip (g₅.push (tup #[x, y])) z TI TO .ellipsis := Heap.get?_push_of_some _ hz₅
 refine wpAny_bind (wpAny_bind (wpAny_setField_rec hz₆ (by simp) fun g₇ hz₇ hs₇ => ?_))
 replace hz₇ : IsZip g₇ z TI TO (rawInt g₅.objs.size) := hz₇
 replace hs₇ : Heap.SameBut z (g₅.push (tup #[x, y])) g₇ := hs₇
 refine wpAny_setField_rec hz₇ (by simp) fun g₈ hz₈ hs₈ => ?_
 replace hz₈ : IsZip g₈ z TI TO (rawInt g₅.objs.size) := hz₈
 replace hs₈ : Heap.SameBut z g₇ g₈ := hs₈
 have up : ∀ c o, c ≠ z -> g₅.get? c = some o -> g₈.get? c = some o := fun c o c1 e => hs₈.extBut _ _ c1 (hs₇.extBut _ _ c1 (Heap.get?_push_of_some _ e))
 have hT₈ : IsPair g₈ g₅.objs.size x y := hs₈.extBut _ _ (Nat.ne_of_gt hzlt) (hs₇.extBut _ _ (Nat.ne_of_gt hzlt) (Heap.get?_push_size _ rfl))
 refine wpAny_pure ⟨_, rfl, ?_⟩
 show Q (.ref g₅.objs.size) _
 rw [hsz] at hz₈ hT₈ ⊢
 have all : ∀ c o, c ≠ z -> c ≠ TO -> c ≠ i1 -> c ≠ i2 -> s.heap.get? c = some o -> g₈.get? c = some o := fun c o c1 c2 c3 c4 e => up c o c1 (k₅ c o c1 c2 c3 c4 e)
 exact hQ g₈ ⟨hz₈, all _ _ D.TIz D.TITO D.TIi1 D.TIi2 hTI, ⟨_, _, up _ _ D.TOz hTO₅⟩, h1₅.at fun o e => up _ o D.i1z e, h2₅.at fun o e => up _ o D.i2z e, hl1.at fun o e => all _ o D.l1z D.l1TO D.l1i1 D.l1i2 e, hl2.at fun o e => all _ o D.l2z D.l2TO D.l2i1 D.l2i2 e⟩ hT₈ all
theorem zipEnd {z TI TO i1 i2 l1 l2 i : Nat} {xs ys : Array Value} {Q : Fin -> Shared -> Prop} (hh : A.handled = none) (D : ZipApart z TI TO i1 i2 l1 l2) (S : ZipSt z TI TO i1 i2 l1 l2 xs ys .none i s.heap) (hx : xs[i]? = none)
  (hE : ∀ h' e, (∀ c o, c ≠ z -> c ≠ TO -> c ≠ i1 -> c ≠ i2 -> s.heap.get? c = some o -> h'.get? c = some o) -> (∃ o, h'.get? e = some o /\ o.cls = .type "StopIteration") -> E (.ref e) { s with heap := h' }) :
  wpAny (model prog w) A (Builtin.«zip.__next__» ⟨[.ref z], []⟩) Q E s := by
 obtain ⟨hz, hTI, ⟨a, b, hTO⟩, h1, h2, hl1, hl2⟩ := S
 show wpAny _ _ (field (.ref z) 2 >>= _) _ _ _
 refine wpAny_bind (wpAny_field hz rfl (x := .bool false) rfl ?_)
 show wpAny _ _ (field (.ref z) 3 >>= _) _ _ _
 refine wpAny_bind (wpAny_field hz rfl (x := .ref TI) rfl (wpAny_bind (wpAny_seqItems hTI rfl ?_)))
 show wpAny _ _ (Builtin.SmallTypes.ownedTupleIsFree (.ref z) >>= _) _ _ _
 unfold Builtin.SmallTypes.ownedTupleIsFree
 refine wpAny_bind (wpAny_bind (wpAny_field hz rfl (x := .none) rfl (wpAny_pure ?_)))
 simp only [if_true]
 refine wpAny_bind (wpAny_rule (wpAny_bind (wpAny_field hz rfl (x := .ref TO) rfl (wpAny_bind (wpAny_setField_rec hz (by simp) fun g₁ hz₁ hs₁ => ?_)))))
 replace hz₁ : IsZip g₁ z TI TO .ellipsis := hz₁
 replace hs₁ : Heap.SameBut z s.heap g₁ := hs₁
 refine wpAny_bind ?_
 simp only [List.zipIdx_cons, List.zipIdx_nil, List.forIn_cons, List.forIn_nil]
 refine wpAny_bind (wpAny_bind (wpAny_onRaise ?_))
 show wpAny _ _ (Builtin.SmallTypes.nextOf (.ref i1) >>= _) _ _ _
 refine wpAny_bind (nextOf_end hh (h1.extBut hs₁.extBut D.i1z) (hl1.at fun o e => hs₁.extBut l1 o D.l1z e) hx fun g₂ e hs₂ he => ?_)
 replace hs₂ : Heap.ExtBut i1 g₁ g₂ := hs₂
 obtain ⟨oe, hoe, hce⟩ := he
 have hz₂ : IsZip g₂ z TI TO .ellipsis := hs₂ _ _ (Ne.symm D.i1z) hz₁
 have hez : e ≠ z := fun q => by
  rw [q] at hoe
  have hoe' : g₂.get? z = some oe := hoe
  rw [hz₂] at hoe'; cases hoe'; simp at hce
 exact wpAny_setField_rec hz₂ (by simp) fun g₃ _ hs₃ => hE g₃ e (fun c o c1 _ c3 _ q => hs₃.extBut _ _ c1 (hs₂ _ _ c3 (hs₁.extBut _ _ c1 q))) ⟨oe, hs₃.extBut _ _ hez hoe, hce⟩
theorem srcZip (hh : A.handled = none) (z TI TO i1 i2 l1 l2 : Nat) (D : ZipApart z TI TO i1 i2 l1 l2) (xs ys : Array Value) (hsz : xs.size = ys.size) :
  WalksU prog w A z [z, TI, TO, i1, i2, l1, l2] [z, TO, i1, i2] xs.size (fun i vals => X2_3 (fun x y => xs[i]? = some x) (fun x y => ys[i]? = some y) (fun x y => vals = #[x, y])) (fun i h => ZipSt z TI TO i1 i2 l1 l2 xs ys .none i h)
   (fun i T h => ZipSt z TI TO i1 i2 l1 l2 xs ys (rawInt T) (i + 1) h /\ T ≠ z /\ T ≠ TO /\ T ≠ i1 /\ T ≠ i2) where
 sub := fun c hc => by simp at hc ⊢; rcases hc with rfl | rfl | rfl | rfl <;> simp
 frame := fun i h h' S hk => ⟨hk z (by simp) _ S.z, hk TI (by simp) _ S.ti, (let ⟨a, b, e⟩ := S.to; ⟨a, b, hk TO (by simp) _ e⟩), S.i1.at fun o e => hk i1 (by simp) o e, S.i2.at fun o e => hk i2 (by simp) o e, S.l1.at fun o e => hk l1 (by simp) o e, S.l2.at fun o e => hk l2 (by simp) o e⟩
 item := fun i s Q E hi S hQ => by
  have hT : s.TypeIs (.ref z) "zip" := ⟨_, S.z, rfl⟩
  have hiy : i < ys.size := hsz ▸ hi
  have lt : ∀ {c o}, s.heap.get? c = some o -> s.heap.objs.size ≠ c := fun e => Nat.ne_of_gt (Heap.lt_size e)
  unfold pyNext
  refine wpAny_bind (wpAny_attempt (wpAny_callSpecial?_slot (name := Str.ofString "__next__") hT F.slot_zip_next (wpAny_call_entry F.slot_zip_next hT F.entry_zip_next
   (zipItem D S (Array.getElem?_eq_getElem hi) (Array.getElem?_eq_getElem hiy) fun h' S' hp k => wpAny_pure ?_) (F.args_zip_next_1 _))))
  exact hQ _ #[xs[i], ys[i]] h' s.toks ⟨_, _, Array.getElem?_eq_getElem hi, Array.getElem?_eq_getElem hiy, rfl⟩ ⟨_, hp, rfl, _, rfl⟩
   ⟨S', lt S.z, (let ⟨_, _, e⟩ := S.to; lt e), (let ⟨_, e, _⟩ := S.i1; lt e), (let ⟨_, e, _⟩ := S.i2; lt e)⟩ fun c o hc e => k c o (fun q => hc (by simp [q])) (fun q => hc (by simp [q])) (fun q => hc (by simp [q])) (fun q => hc (by simp [q])) e
 go := fun elts k pos i T s Q E hm hQ => by
  obtain ⟨S, _⟩ := hm
  refine wpAny_letOwnedTupleGo_zip S.z fun h' hz' hs' => hQ h' ⟨hz', hs'.extBut _ _ D.TIz S.ti, (let ⟨a, b, e⟩ := S.to; ⟨a, b, hs'.extBut _ _ D.TOz e⟩), S.i1.extBut hs'.extBut D.i1z, S.i2.extBut hs'.extBut D.i2z, S.l1.at fun o e => hs'.extBut _ o D.l1z e, S.l2.at fun o e => hs'.extBut _ o D.l2z e⟩
   fun c o hc e => hs'.extBut _ _ (fun q => hc (by simp [q])) e
 apart := fun i T h hm hT => by
  obtain ⟨_, t1, t2, t3, t4⟩ := hm
  simp at hT
  rcases hT with q | q | q | q
  ·exact t1 q
  ·exact t2 q
  ·exact t3 q
  ·exact t4 q
 done := fun s Q E S hQ => by
  have hT : s.TypeIs (.ref z) "zip" := ⟨_, S.z, rfl⟩
  unfold pyNext
  refine wpAny_bind (wpAny_attempt (wpAny_callSpecial?_slot (name := Str.ofString "__next__") hT F.slot_zip_next (wpAny_call_entry F.slot_zip_next hT F.entry_zip_next (zipEnd hh D S (by simp) fun h' e hk he => ?_) (F.args_zip_next_1 _))))
  obtain ⟨o, ho, hc⟩ := he
  refine wpAny_bind (wpAny_isInstance (T := "StopIteration") (b := true) ⟨o, ho, hc⟩ isSubtype_stop ?_)
  exact wpAny_pure (hQ _ s.toks fun c o hc e => hk c o (fun q => hc (by simp [q])) (fun q => hc (by simp [q])) (fun q => hc (by simp [q])) (fun q => hc (by simp [q])) e)
 self := fun i s Q E S hQ => wpAny_pyIter_zip S.z hQ
end
noncomputable def AcT (h : Heap) : Prop := ∃ ps, h.TableAt 52 48 ps /\ h.IsCode 52 48 ps
theorem AcT.at {h h' : Heap} (x : AcT h) (k : ∀ b o, (b = 52 \/ b = 48) -> h.get? b = some o -> h'.get? b = some o) : AcT h' := by
 obtain ⟨ps, tb, o, vs, file, tf, flags, tg, inF, text, tt, op, a, r1, r2, r3, r4, r5, r6, b, r⟩ := x
 exact ⟨ps, tb.at2 (fun o e => k _ o (.inl rfl) e) (fun o e => k _ o (.inr rfl) e), o, vs, file, tf, flags, tg, inF, text, tt, op, k _ _ (.inl rfl) a, r1, r2, r3, r4, r5, r6, k _ _ (.inr rfl) b, r⟩
theorem gen_code {M : Model} {A : Around} {E : Value -> Shared -> Prop} {s : Shared} {env : Env} {c P : Addr} {ps : Array Value} {pos : Pos} {qualname : Str} {scope : Scope} {Q : Value -> Shared -> Prop} (hc : env.code = .ref c) (hok : s.heap.IsCode c P ps) (htab : s.heap.TableAt c P ps)
  (hQ : ∀ code h' tk ps', Heap.ExtBut P s.heap h' -> h'.IsCode c P ps' -> h'.TableAt c P ps' -> Q code { s with heap := h', toks := tk }) : wpAny M A (genexprCode env pos qualname scope) Q E s := by
 cases hf : codeAmong pos ps.toList with
 | some cv => exact wpAny_genexprCode_hit hc hok hf (hQ cv s.heap s.toks ps (Heap.ExtBut.refl _ _) hok htab)
 | none => exact wpAny_genexprCodeX hc hok htab hf fun c' h' tk q1 _ _ q4 _ q6 _ => hQ _ h' tk _ q1 q4 q6
theorem gl_bi (P : Params) : globOf P "__builtins__" = some (.ref 4) := by kernel_rfl
theorem bi_mod (P : Params) : (ktop P).get 4 = some (o4 P) /\ (o4 P).cls = .type "module" /\ (o4 P).dict = some builtinsNs /\ (o4 P).data = .plain := ⟨by kernel_rfl, by kernel_rfl, by kernel_rfl, by kernel_rfl⟩
section
variable {b1 b2 : Bool} {w : World} {A : Around} {E : Value -> Shared -> Prop} {s : Shared} {env : Env}
theorem ev_sums {iter : Expr} {np pi pj pt pe gpos pos qi qj : Pos} {kt : Nat} {scope : Scope} {Q : Value -> Shared -> Prop} (hA : Deep 1 A) (hs : Stat b1 b2 w s.heap) (hac : AcT s.heap)
  (h : wpAny (model theProg (wW b1 b2 w)) A (eval iter env) (fun xv s₁ => X15_9 (fun z TI TO i1 i2 l1 l2 a b c d ta tb tc td => xv = .ref z) (fun z TI TO i1 i2 l1 l2 a b c d ta tb tc td => ZipApart z TI TO i1 i2 l1 l2) (fun z TI TO i1 i2 l1 l2 a b c d ta tb tc td => ZipSt z TI TO i1 i2 l1 l2 #[.str a ta, .str b tb] #[.str c tc, .str d td] .none 0 s₁.heap) (fun z TI TO i1 i2 l1 l2 a b c d ta tb tc td => Stat b1 b2 w s₁.heap) (fun z TI TO i1 i2 l1 l2 a b c d ta tb tc td => AcT s₁.heap) (fun z TI TO i1 i2 l1 l2 a b c d ta tb tc td => (∀ x ∈ [z, TI, TO, i1, i2, l1, l2], 255 <= x)) (fun z TI TO i1 i2 l1 l2 a b c d ta tb tc td => a.length + c.length <= sizeLine) (fun z TI TO i1 i2 l1 l2 a b c d ta tb tc td => b.length + d.length <= sizeLine) (fun z TI TO i1 i2 l1 l2 a b c d ta tb tc td => ∀ T s' t1 t2, Gr [48, z, TO, i1, i2] s₁ s' -> AcT s'.heap -> s₁.heap.get? T = none -> 255 <= T -> s'.heap.get? T = some (tup #[.str (a ++ c) t1, .str (b ++ d) t2]) -> Q (.ref T) s')) E s)
  (hcode : autoParam (env.code = .ref 52) byRfl) (hco : autoParam (scope.isCoroutine = false) byRfl) (hclos : autoParam (closureFor scope env = pure []) byRfl) (hcell : ∀ y ∈ scope.names, y.2 ≠ .cell := by decide) (h0 : autoParam (scope.names.lookup (".0" : Str) = some NameKind.local) byRfl)
  (hi : autoParam (scope.names.lookup ("i" : Str) = some .local) byRfl) (hj : autoParam (scope.names.lookup ("j" : Str) = some .local) byRfl) (hkind : autoParam (scope.kind = .function) byRfl)
  (hk : autoParam (env.scope.kind = .function) byRfl) (hx : autoParam (env.kindOf "tuple" = some .globalImplicit) byRfl) (h3 : autoParam (env.globals = 3) byRfl) (h0' : autoParam (env.builtins = 0) byRfl)
  (hst : autoParam (starEach [.GeneratorExp (.BinOp (.Name "i" qi) .Add (.Name "j" qj) pe) [⟨.Tuple [.Name "i" pi, .Name "j" pj] kt pt, iter, [], 0⟩] scope gpos] env = [(false, eval (.GeneratorExp (.BinOp (.Name "i" qi) .Add (.Name "j" qj) pe) [⟨.Tuple [.Name "i" pi, .Name "j" pj] kt pt, iter, [], 0⟩] scope gpos) env)]) byRfl)
  (hsx : autoParam (∀ x, genFold iter env x = pure x) byRfl) :
  wpAny (model theProg (wW b1 b2 w)) A (eval (.Call (.Name "tuple" np) [.GeneratorExp (.BinOp (.Name "i" qi) .Add (.Name "j" qj) pe) [⟨.Tuple [.Name "i" pi, .Name "j" pj] kt pt, iter, [], 0⟩] scope gpos] [] pos) env) Q E s := by
 have hh := hA.handled
 refine wpAny_Call_ofName (ev_buil hs (bu_tuple _) ?_ hk hx h3 h0')
 rw [hst]
 refine PyProof.Rows.callWith_type rfl (evalArgs_plain (spliced_cons ?_))
 refine wpAny_GeneratorExp_walksQT hh hco hclos hcell h0 hi hj (by decide) hkind hA.lt (wpAny_mono h (fun xv s₁ h₁ => ?_) fun _ _ e => e) hsx
 obtain ⟨z, TI, TO, i1, i2, l1, l2, a, b, c, d, ta, tb, tc, td, rfl, D, S, hs1, ⟨ps, htb1, hc1⟩, hge, hl1, hl2, hQ⟩ := h₁
 have W := fun (A' : Around) (hA' : A'.handled = none) => srcZip (prog := theProg) (w := wW b1 b2 w) hA' z TI TO i1 i2 l1 l2 D #[.str a ta, .str b tb] #[.str c tc, .str d td] rfl
 refine (W A hh).self 0 _ _ _ S ⟨hs1.limit, gen_code hcode hc1 htb1 fun code h₃ tk₃ ps₃ hx₃ hc₃ htb₃ => ?_⟩
 have hs3 : Stat b1 b2 w h₃ := (gr_ext (s := s₁) (tk := tk₃) (a := 48) hx₃).stat hs1 fun x hx => by rw [mS hx]; exact .inr (.inl rfl)
 obtain ⟨hm, hcl, hdi, hda⟩ := bi_mod (wW b1 b2 w).params
 refine wpAny_builtinsFor (bm := 4) (by rw [h3]; exact hs3.glob) (gl_bi _) (by decide) (hs3.at hm) hcl hdi hda ?_
 have n48 : ∀ x, 255 <= x -> x ≠ 48 := fun x hx e => by rw [e] at hx; exact absurd hx (by decide)
 have S3 : ZipSt z TI TO i1 i2 l1 l2 #[.str a ta, .str b tb] #[.str c tc, .str d td] .none 0 h₃ := (W A hh).frame 0 _ _ S fun x hx o e => hx₃ x o (n48 x (hge x hx)) e
 have hal : ∀ x ∈ [z, TI, TO, i1, i2, l1, l2], ∃ o, h₃.get? x = some o := by
  intro x hx
  replace hx := mr7 hx
  rcases hx with rfl | rfl | rfl | rfl | rfl | rfl | rfl
  ·exact ⟨_, S3.z⟩
  ·exact ⟨_, S3.ti⟩
  ·obtain ⟨_, _, e⟩ := S3.to; exact ⟨_, e⟩
  ·obtain ⟨o, e, _⟩ := S3.i1; exact ⟨o, e⟩
  ·obtain ⟨o, e, _⟩ := S3.i2; exact ⟨o, e⟩
  ·obtain ⟨o, _, e, _⟩ := S3.l1; exact ⟨o, e⟩
  ·obtain ⟨o, _, e, _⟩ := S3.l2; exact ⟨o, e⟩
 have hword : ∀ i (va vb : Value), (X2_3 (fun x y => (#[.str a ta, .str b tb] : Array Value)[i]? = some x) (fun x y => (#[.str c tc, .str d td] : Array Value)[i]? = some y) (fun x y => (#[va, vb] : Array Value) = #[x, y])) -> X4_4 (fun x y t u => va = .str x t) (fun x y t u => vb = .str y u) (fun x y t u => x.length + y.length <= sizeLine) (fun x y t u => ((i = 0 /\ x ++ y = a ++ c) \/ (i = 1 /\ x ++ y = b ++ d))) := by
  rintro i va vb ⟨x, y, e1, e2, e3⟩
  obtain ⟨rfl, rfl⟩ : va = x /\ vb = y := by simpa using congrArg Array.toList e3
  rcases i with _ | _ | i
  ·simp at e1 e2; subst e1 e2; exact ⟨a, c, ta, tc, rfl, rfl, hl1, .inl ⟨rfl, rfl⟩⟩
  ·simp at e1 e2; subst e1 e2; exact ⟨b, d, tb, td, rfl, rfl, hl2, .inr ⟨rfl, rfl⟩⟩
  ·simp at e1
 refine ⟨z, _, _, _, _, _, _, fun _ => true, fun i y => X2_2 (fun x t => y = .str x t) (fun x t => ((i = 0 /\ x = a ++ c) \/ (i = 1 /\ x = b ++ d))), rfl, W, fun i vals ⟨x, y, _, _, e⟩ => ⟨x, y, e⟩, S3, fun x hx => by obtain ⟨o, e⟩ := hal x hx; exact Heap.lt_size e, hs3.limit, ?_, ?_, ?_⟩
 ·intro hm
  have : 255 <= cStatics := hge _ ((W A hh).sub _ hm)
  exact absurd this (by decide)
 ·intro href hhref
  refine ⟨fun A' E' i va vb s₂ m₂ hA' hP hns ha hb hk' => ?_, fun A' E' i va vb s₂ m₂ hA' hP _ hns ha hb hk' => ?_⟩
  ·exact wpAny_tests_nil ⟨rfl, _, _, rfl, fun _ _ e => e⟩
  ·obtain ⟨x, y, t, u, rfl, rfl, hlen, hv⟩ := hword i va vb hP
   refine wpAny_BinOp (ldG hns ha (ldG hns hb (PyProof.Rows.add_str (fun t' tk => ⟨⟨_, t', rfl, ?_⟩, ⟨_, _, rfl, fun _ _ e => e⟩⟩) hlen) (by exact hkind) (by exact hj)) (by exact hkind) (by exact hi))
   exact hv
 ·intro g h₅ tk gs hgb hag hsz₅ hk₅ Wg hat
  refine spliced_nil ?_
  refine call_tuple_gen (hsz := by show 2 <= sizeLine; decide) Wg.in4_3 (fun i s' st => st.1.typeIs) hat ?_ (.head _) fun s' acc hm hacc => ?_
  ·have hag' : h₃.objs.size < g := hag
   have hsz' : h₅.objs.size = g + 1 := hsz₅
   have key : ∀ x : Nat, x = g \/ x = h₃.objs.size \/ x < h₃.objs.size -> x < h₅.objs.size := fun x hx => by lia
   intro x hx
   refine key x ?_
   rcases mC hx with e | hx
   ·exact .inl e
   rcases mC hx with e | hx
   ·exact .inr (.inl e)
   ·exact .inr (.inr (List.mem_range.mp hx))
  have hsz : acc.size = 2 := hacc.1
  obtain ⟨acc⟩ := acc
  obtain ⟨v1, v2, rfl⟩ : ∃ v1 v2, acc = [v1, v2] := by
   match acc, hsz with
   | [v1, v2], _ => exact ⟨v1, v2, rfl⟩
  have it : ∀ j v, ([v1, v2] : List Value)[j]? = some v -> X2_2 (fun x t => v = .str x t) (fun x t => ((j = 0 /\ x = a ++ c) \/ (j = 1 /\ x = b ++ d))) := by
   intro j v e
   obtain ⟨i, hi, hv⟩ := hacc.2 j v (by simpa using e)
   have : passing (fun _ => true) (#[Value.str a ta, .str b tb] : Array Value).size 0 = [0, 1] := by show passing (fun _ => true) 2 0 = [0, 1]; decide
   rw [this] at hi
   rcases j with _ | _ | j
   ·simp at hi; subst hi; exact hv
   ·simp at hi; subst hi; exact hv
   ·simp at hi
  obtain ⟨x1, t1, rfl, q1⟩ := it 0 v1 rfl
  obtain ⟨x2, t2, rfl, q2⟩ := it 1 v2 rfl
  have e1 : x1 = a ++ c := by rcases q1 with q | q; exact q.2; exact absurd q.1 (by decide)
  have e2 : x2 = b ++ d := by rcases q2 with q | q; exact absurd q.1 (by decide); exact q.2
  subst e1 e2
  have k₃ : ∀ x o, x ≠ 48 -> s₁.heap.get? x = some o -> h₃.get? x = some o := hx₃
  have k₅ : ∀ x o, h₃.get? x = some o -> h₅.get? x = some o := hk₅
  have hag' : h₃.objs.size < g := hag
  have hlt : ∀ x o, s₁.heap.get? x = some o -> x < h₃.objs.size := fun x o e => by
   by_cases h48 : x = 48
   ·have := hs3.big
    have h255 : 255 <= h₃.objs.size := this
    exact h48 ▸ Nat.lt_of_lt_of_le (by decide : 48 < 255) h255
   ·exact Heap.lt_size (k₃ x o h48 e)
  have hwr : ∀ x o, h₃.get? x = some o -> (∀ y ∈ [z, TO, i1, i2], x ≠ y) -> s'.heap.get? x = some o := fun x o e hy => hm.heap x o (fun hm' => by
   rcases mC hm' with e' | hm'
   ·have e'' : x = h₃.objs.size := e'
    exact Nat.lt_irrefl _ (e'' ▸ Heap.lt_size e)
   ·exact hy x hm' rfl) (k₅ x o e)
  have hg' : g < s'.heap.objs.size := by
   obtain ⟨o, nm, qn, ho, _⟩ := hat.1
   refine Heap.lt_size (hm.heap g o (fun hm' => ?_) ho)
   rcases mC hm' with e' | hm'
   ·have e'' : g = h₃.objs.size := e'
    exact Nat.ne_of_gt hag' e''
   ·obtain ⟨o', e⟩ := hal g ((W A hh).sub g hm')
    exact Nat.lt_asymm hag' (Heap.lt_size e)
  have hn : s₁.heap.get? s'.heap.objs.size = none := by
   cases q : s₁.heap.get? s'.heap.objs.size with
   | none => rfl
   | some o => exact absurd (hlt _ _ q) (Nat.lt_asymm (Nat.lt_trans hag' hg'))
  have h52 : ∀ x, x = 52 \/ x = 48 -> ∀ y ∈ [z, TO, i1, i2], x ≠ y := fun x hx y hy e => by
   have := hge y ((W A hh).sub y hy)
   rw [<- e] at this
   rcases hx with rfl | rfl <;> exact absurd this (by decide)
  refine hQ _ _ t1 t2 ⟨fun x o hx e => ?_, ?_, hm.os⟩ (AcT.at ⟨ps₃, htb₃, hc₃⟩ fun x o hx e => Heap.get?_push_of_some _ (hwr x o e (h52 x hx))) hn (Nat.le_trans (show 255 <= h₃.objs.size from hs3.big) (Nat.le_of_lt (Nat.lt_trans hag' hg'))) (Heap.get?_push_size _ rfl)
  ·exact Heap.get?_push_of_some _ (hwr x o (k₃ x o (fun e' => hx (by rw [e']; exact .head _)) e) fun y hy e' => hx (List.mem_cons_of_mem _ (e' ▸ hy)))
  ·rcases hm.gens with e | ⟨⟨e1, e2⟩, e3⟩
   ·exact ⟨[gs], (show s'.gens = s₁.gens.push gs from e).trans (Array.toList_inj.mp (by simp)), fun x hx => by rw [mS hx]; exact hgb⟩
   ·have e1' : s'.gens.size = s₁.gens.size + 1 := by rw [e1]; simp
    have hlt' : s₁.gens.size < s'.gens.size := by lia
    refine ⟨[s'.gens[s₁.gens.size]], ?_, fun x hx => by rw [mS hx]; exact e3 _ (Array.getElem?_eq_getElem hlt')⟩
    show s'.gens = _
    refine Array.ext (by simp [e1']) fun k hk1 hk2 => ?_
    have hk3 : k < s₁.gens.size + 1 := e1' ▸ hk1
    by_cases hk : k = s₁.gens.size
    ·subst hk; simp
    ·have h2 := e2 k hk
     have hk' : k < s₁.gens.size := by lia
     rw [Array.getElem?_eq_getElem hk1] at h2
     have h3 : (s₁.gens.push gs)[k]? = some s₁.gens[k] := by simp [Array.getElem?_push, hk, hk']
     have h4 := h2.trans h3
     simp only [Option.some.injEq] at h4
     simp [h4, hk']
end
noncomputable def getT (t : Tab) (k : Str) : Option T := (t.find? (fun p => decide (p.1 = k))).map (·.2)
noncomputable def setT : Tab -> Str -> T -> Tab
 | [], k, v => [(k, v)]
 | p :: L, k, v => if p.1 = k then (p.1, v) :: L else p :: setT L k v
noncomputable abbrev RowR (N : Nat -> Prop) (h : Heap) (p : Str × Tok × Value) (q : Str × T) : Prop := p.1 = q.1 /\ VT N h q.2 p.2.2
theorem get_row {N : Nat -> Prop} {h : Heap} {k : Str} : ∀ {L : DL} {tab : Tab}, Paired (RowR N h) L tab -> (getL L k = none /\ getT tab k = none) \/ X2_3 (fun v t => getL L k = some v) (fun v t => getT tab k = some t) (fun v t => VT N h t v)
 | _, _, .nil => .inl ⟨rfl, rfl⟩
 | _, _, .cons (a := a) (b := b) (l₁ := l) (l₂ := r) hr hs => by
  have hd : (a.1 = k) = (b.1 = k) := by rw [hr.1]
  by_cases h1 : a.1 = k
  ·have h2 : b.1 = k := hr.1 ▸ h1
   refine .inr ⟨a.2.2, b.2, ?_, ?_, hr.2⟩
   ·unfold getL; rw [List.find?_cons_of_pos (by simpa using h1)]; rfl
   ·unfold getT; rw [List.find?_cons_of_pos (by simpa using h2)]; rfl
  ·have h2 : ¬ b.1 = k := fun e => h1 (hr.1.trans e)
   have e1 : getL (a :: l) k = getL l k := by unfold getL; rw [List.find?_cons_of_neg (by simpa using h1)]
   have e2 : getT (b :: r) k = getT r k := by unfold getT; rw [List.find?_cons_of_neg (by simpa using h2)]
   rw [e1, e2]; exact get_row hs
theorem set_row {N : Nat -> Prop} {h : Heap} {k : Str} {tk : Tok} {v : Value} {t : T} (hv : VT N h t v) : ∀ {L : DL} {tab : Tab}, Paired (RowR N h) L tab -> Paired (RowR N h) (setL L k tk v) (setT tab k t)
 | _, _, .nil => .cons ⟨rfl, hv⟩ .nil
 | _, _, .cons (a := a) (b := b) (l₁ := l) (l₂ := r) hr hs => by
  by_cases h1 : a.1 = k
  ·have h2 : b.1 = k := hr.1 ▸ h1
   rw [show setL (a :: l) k tk v = (a.1, a.2.1, v) :: l by simp [setL, h1], show setT (b :: r) k t = (b.1, t) :: r by simp [setT, h2]]
   exact .cons ⟨hr.1, hv⟩ hs
  ·have h2 : ¬ b.1 = k := fun e => h1 (hr.1.trans e)
   rw [show setL (a :: l) k tk v = a :: setL l k tk v by simp [setL, h1], show setT (b :: r) k t = b :: setT r k t by simp [setT, h2]]
   exact .cons hr (set_row hv hs)
section
variable {prog : Program} {w : World} {A : Around} {E : Value -> Shared -> Prop} {s : Shared}
theorem dget {d : Nat} {L : DL} {ep : Nat} {k : Str} {t : Tok} {v : Value} {Q : Value -> Shared -> Prop} (ho : s.heap.get? d = some (dictO w L ep)) (hv : getL L k = some v) (h : ∀ s', Gr [] s s' -> s'.heap = s.heap -> Q v s') : wpAny (model prog w) A (getItem (.ref d) (.str k t)) Q E s := by
 have hT : s.TypeIs (.ref d) "dict" := ⟨_, ho, rfl⟩
 unfold getItem
 try with_reducible refine wpAny_holding ?_
 first | refine wpAny_bind (wpAny_pure ?_) | skip
 refine wpAny_bind (wpAny_sequenceKey hT (by decide) ?_)
 refine wpAny_bind (wpAny_callSpecial?_slot (name := Str.ofString "__getitem__") hT slot_dict_getitem (wpAny_call_entry slot_dict_getitem hT entry_dict_getitem ?_ (args_dict_getitem _ _)))
 show wpAny _ _ (dictGet d (.str k t) >>= _) _ _ s
 refine wpAny_bind (wpAny_getL ho rfl ?_)
 rw [hv]
 exact wpAny_pure ⟨v, rfl, wpAny_pure (h _ gr_tok rfl)⟩
theorem dset {d : Nat} {L : DL} {ep : Nat} {k : Str} {t : Tok} {v : Value} {Q : Unit -> Shared -> Prop} (ho : s.heap.get? d = some (dictO w L ep)) (hsz : L.length <= sizeLine)
  (h : ∀ s', Gr [d] s s' -> s'.heap.get? d = some (dictO w (setL L k t v) (epOf L k ep)) -> Q () s') : wpAny (model prog w) A (setItem (.ref d) (.str k t) v) Q E s := by
 have hT : s.TypeIs (.ref d) "dict" := ⟨_, ho, rfl⟩
 unfold setItem
 try with_reducible refine wpAny_holding ?_
 first | refine wpAny_bind (wpAny_pure ?_) | skip
 refine wpAny_bind (wpAny_sequenceKey hT (by decide) ?_)
 refine wpAny_bind (wpAny_callSpecial?_slot (name := Str.ofString "__setitem__") hT slot_dict_setitem (wpAny_call_entry slot_dict_setitem hT entry_dict_setitem ?_ (args_dict_setitem _ _ _)))
 show wpAny _ _ (Builtin.Dict.notOrdered "__setitem__" ⟨[.ref d, .str k t, v], []⟩ >>= _) _ _ s
 refine wpAny_bind (wpAny_notOrdered_dict hT ?_)
 show wpAny _ _ (dictSet d (.str k t) v >>= _) _ _ s
 exact wpAny_bind (wpAny_setL ho rfl hsz fun h' g1 g2 _ => wpAny_pure ⟨.none, rfl, wpAny_pure (h _ (gr_same g2) g1)⟩)
theorem dhas {d : Nat} {L : DL} {ep : Nat} {k : Str} {t : Tok} {Q : Value -> Shared -> Prop} (ho : s.heap.get? d = some (dictO w L ep)) (hd : (d == sysModules) = false) (h : ∀ s', Gr [] s s' -> s'.heap = s.heap -> Q (.bool (getL L k).isSome) s') : wpAny (model prog w) A (compareOp .In (.str k t) (.ref d)) Q E s := by
 have hT : s.TypeIs (.ref d) "dict" := ⟨_, ho, rfl⟩
 show wpAny _ _ (do return .bool (<- contains (.ref d) (.str k t))) Q E s
 refine wpAny_bind ?_
 unfold contains
 try with_reducible refine wpAny_holding ?_
 refine wpAny_bind (wpAny_specialOf hT slot_dict_contains.lookup ?_)
 show wpAny _ _ (if (some (Value.builtin "dict.__contains__") == some Value.none) = true then _ else _) _ E s
 rw [if_neg (by rw [beq_builtin_none]; exact Bool.false_ne_true)]
 refine wpAny_bind (wpAny_callSpecialUnlessNone?_slot (name := Str.ofString "__contains__") hT slot_dict_contains (wpAny_call_entry slot_dict_contains hT entry_dict_contains ?_ (args_dict_contains _ _)))
 show wpAny _ _ (dictGet d (.str k t) >>= _) _ _ s
 refine wpAny_bind (wpAny_getL ho rfl ?_)
 cases hg : getL L k with
 | some v =>
  rw [hg] at h
  show wpAny _ _ (ret (.bool true)) _ _ _
  exact wpAny_pure ⟨_, rfl, wpAny_truthy_bool (wpAny_pure (h _ gr_tok rfl))⟩
 | none =>
  rw [hg] at h
  show wpAny _ _ (Builtin.Dict.pendingKey? d (.str k t) >>= _) _ _ _
  exact wpAny_bind (wpAny_pendingKey_other hd (wpAny_pure ⟨_, rfl, wpAny_truthy_bool (wpAny_pure (h _ gr_tok rfl))⟩))
end
noncomputable def w2 : T -> Str × Str
 | .p x y => (x, y)
 | .t [.s x, .s y] => (x, y)
 | _ => ("", "")
noncomputable def mixT (v old : T) : T := match v with
 | .s x => (match old with
  | .s y => .s (y ++ x)
  | o => o)
 | v => .t [.s ((w2 v).1 ++ (w2 old).1), .s ((w2 v).2 ++ (w2 old).2)]
noncomputable def Mixes (v old : T) : Prop := (X2_3 (fun x y => v = .s x) (fun x y => old = .s y) (fun x y => y.length + x.length <= sizeLine)) \/
 (isTp v = true /\ isTp old = true /\ Wd old /\ (w2 v).1.length + (w2 old).1.length <= sizeLine /\ (w2 v).2.length + (w2 old).2.length <= sizeLine)
noncomputable def addOne (acc : Tab) (q : Str × T) : Tab := match getT acc q.1 with
 | none => setT acc q.1 q.2
 | some old => setT acc q.1 (mixT q.2 old)
theorem VT.two {N : Nat -> Prop} {h : Heap} {t : T} {v : Value} (hw : Wd t) (hp : isTp t = true) (e : VT N h t v) : X3_3 (fun a tx ty => v = .ref a) (fun a tx ty => N a) (fun a tx ty => Two h a (w2 t).1 (w2 t).2 tx ty) := by
 rcases hw with ⟨x, rfl⟩ | ⟨x, y, rfl⟩ | ⟨x, y, rfl⟩
 ·cases hp
 ·unfold VT at e
  obtain ⟨a, d, t, u, h1, h2, h3⟩ := e
  exact ⟨a, t, u, h1, h2.2, .inr ⟨d, h3⟩⟩
 ·unfold VT at e
  obtain ⟨a, vs, h1, h2, h3, h4⟩ := e
  unfold VTs at h4
  obtain ⟨v1, r, e1, e2, e3⟩ := h4
  unfold VTs at e3
  obtain ⟨v2, r2, e4, e5, e6⟩ := e3
  unfold VTs at e6
  unfold VT at e2 e5
  obtain ⟨t1, rfl⟩ := e2
  obtain ⟨t2, rfl⟩ := e5
  refine ⟨a, t1, t2, h1, h2, .inl ?_⟩
  rw [h3]
  congr 2
  obtain ⟨vs⟩ := vs
  dsimp only at e1
  rw [e1, e4, e6]; rfl
theorem isi6_check (b1 b2 : Bool) (w : World) (dep un : Nat) (fr : Option (List Env)) (gs : Option (List Code)) (γ tb t : Nat) (x : Str) :
  Chk (VV b1 b2 w dep un fr gs γ) (isiCode (.str x t) (.type "tuple")) (den (isiCode (.str x t) (.type "tuple"))) [] tb (fun _ => .go 12 [] .done) [] (fun _ _ => ⟨none, .base, .pure (.done (.ret (.bool false))), [], objsOf []⟩) := by
 intro nb xs
 cases b1 <;> cases b2 <;> kernel_rfl
section
variable {b1 b2 : Bool} {w : World}
theorem isi_tup {A : Around} {s : Shared} {R : Result -> Shared -> Prop} {t : T} {v : Value} (hA : Deep 1 A) (hs : Stat b1 b2 w s.heap) (ht : Wd t) (hv : VT (255 <= ·) s.heap t v) (hR : ∀ s', Gr [] s s' -> R (.ok (.ret (.bool (isTp t)))) s') :
  codeAny (model theProg (wW b1 b2 w)) A (isiCode v (.type "tuple")) R s := by
 rcases ht with ⟨x, rfl⟩ | ⟨x, y, rfl⟩ | ⟨x, y, rfl⟩
 ·unfold VT at hv; obtain ⟨tk, rfl⟩ := hv
  exact still_ok [] _ _ _ _ (fun dep un fr gs γ tb => isi6_check b1 b2 w dep un fr gs γ tb tk x) hA hs (fun _ h => nomatch h) (fun _ h => nomatch h) .nil rfl hR
 ·unfold VT at hv; obtain ⟨a, d, t, u, rfl, h1, h2⟩ := hv
  obtain ⟨c, rfl⟩ := ge255 h1.1
  exact still_ok [(c + 255, pairObj d x t y u)] _ _ _ _ (fun dep un fr gs γ tb => isi2_check b1 b2 w dep un fr gs γ tb c d t u x y) hA hs (fun p hp => by rw [mS hp]; exact h2) (fun p hp => by rw [mS hp]; exact dyn255 _) (by simp) rfl hR
 ·unfold VT at hv; obtain ⟨a, vs, rfl, h1, h2, _⟩ := hv
  obtain ⟨c, rfl⟩ := ge255 h1
  exact still_ok [(c + 255, tup vs)] _ _ _ _ (fun dep un fr gs γ tb => isi5_check b1 b2 w dep un fr gs γ tb c vs) hA hs (fun p hp => by rw [mS hp]; exact h2) (fun p hp => by rw [mS hp]; exact dyn255 _) (by simp) rfl hR
end
section
variable {b1 b2 : Bool} {w : World} {A : Around} {E : Value -> Shared -> Prop} {s : Shared} {env : Env}
theorem ev_callT {x : Str} {id : String} {np pos : Pos} {e : Expr} {r : List Expr} {Q : Value -> Shared -> Prop} (hs : Stat b1 b2 w s.heap) (hb : globOf (wW b1 b2 w).params x = none /\ builOf (wW b1 b2 w).params x = some (.type id))
  (h : evalsAll theProg (wW b1 b2 w) A E env (e :: r) (fun vs s₁ => codeAny (model theProg (wW b1 b2 w)) A (.call (.type id) ⟨vs, []⟩) (wants2 Q E) s₁) s) (hst : starEach (e :: r) env = (e :: r).map fun e => (false, eval e env))
  (hk : autoParam (env.scope.kind = .function) byRfl) (hx : autoParam (env.kindOf x = some .globalImplicit) byRfl) (h3 : autoParam (env.globals = 3) byRfl) (h0 : autoParam (env.builtins = 0) byRfl) (hd : (x == ("__debug__" : Str)) = false := by decide) :
  wpAny (model theProg (wW b1 b2 w)) A (eval (.Call (.Name x np) (e :: r) [] pos) env) Q E s := by
 refine wpAny_Call_ofName (ev_buil hs hb ?_ hk hx h3 h0 hd)
 rw [hst]
 have hp : ∀ l : List Expr, (backTo pos (l.map fun e => (false, eval e env))).any (·.1) = false := by
  intro l
  induction l with
  | nil => rfl
  | cons a l ih => exact ih
 refine PyProof.Rows.callWith_type (hp (e :: r)) (evalArgs_plain ?_)
 exact wpAny_mono (evalsAll_spliced _ _ _ h) (fun vs s₁ h₁ => wpAny_call h₁) fun _ _ e => e
end
noncomputable abbrev acB : List Stmt := bodyOf (atB prgB 4)
noncomputable abbrev acIn1 : List Stmt := forB (atB acB 2)
noncomputable abbrev acIn2 : List Stmt := forB (atB acB 3)
noncomputable abbrev acEnv (L : Nat) : Env := callEnvC fdAc L 53
theorem acEnv_cells (L : Nat) : (acEnv L).cells = [] := by kernel_rfl
section
variable {b1 b2 : Bool} {w : World} {A : Around} {E : Value -> Shared -> Prop} {s : Shared}
noncomputable abbrev Apt (own : List Nat) : Nat -> Prop := fun a => 255 <= a /\ a ∉ own
theorem Apt.gr {own : List Nat} {s s' : Shared} {l : DL} {tab : Tab} (G : Gr own s s') (p : Paired (RowR (Apt own) s.heap) l tab) : Paired (RowR (Apt own) s'.heap) l tab :=
 Paired.imp (fun a b h => ⟨h.1, VT.mono (fun a o hn e => G.keep a o hn.2 e) (fun _ h => h) _ _ h.2⟩) p
theorem ac_turn1 {L nd : Nat} {m cm : Str -> Option Value} {own : List Nat} {k : Str} {tk : Tok} {v : Value} {t : T} {La : DL} {ep : Nat} {acc : Tab} {Q : Flow -> Shared -> Prop} (hh : A.handled = none)
  (F : Fram L [] m cm s) (hmn : m "new_callers" = some (.ref nd)) (hmf : m "func" = some (.str k tk)) (hmc : m "caller" = some v) (hnd : nd ∈ own) (hd : s.heap.get? nd = some (dictO w La ep)) (hl : La.length <= 1000)
  (hp : Paired (RowR (Apt own) s.heap) La acc) (hv : VT (Apt own) s.heap t v)
  (hQ : ∀ s' La' ep', Gr [nd] s s' -> s'.heap.get? nd = some (dictO w La' ep') -> Paired (RowR (Apt own) s'.heap) La' (setT acc k t) -> La'.length <= La.length + 1 -> Q .next s') :
  wpAny (model theProg w) A (execs acIn1 (acEnv L)) Q E s := by
 refine wpAny_execs_cons (wpAny_Assign_Subscript (ev_local F hmc (ev_local F hmn (ev_local F hmf (dset hd (Nat.le_trans hl (by decide)) fun s' G h' => wpAny_execs_nil ?_)))))
 have G' : Gr own s s' := g_new G hnd
 exact hQ s' _ _ G h' (Apt.gr G' (set_row hv hp)) (setL_len ..)
theorem ac_turn2 {L nd : Nat} {m cm : Str -> Option Value} {own : List Nat} {k : Str} {tk : Tok} {v : Value} {t : T} {La : DL} {ep : Nat} {acc : Tab} {Q : Flow -> Shared -> Prop} (hA : Deep 1 A) (hs : Stat b1 b2 w s.heap) (hac : AcT s.heap)
  (F : Fram L [] m cm s) (hmn : m "new_callers" = some (.ref nd)) (hmf : m "func" = some (.str k tk)) (hmc : m "caller" = some v) (hnd : nd ∈ own) (h48 : 48 ∈ own) (hnd1 : 255 <= nd) (hL1 : 255 <= L) (hd : s.heap.get? nd = some (dictO (wW b1 b2 w) La ep)) (hl : La.length <= 1000)
  (hp : Paired (RowR (Apt own) s.heap) La acc) (hv : VT (Apt own) s.heap t v) (hw : Wd t) (hmix : ∀ old, getT acc k = some old -> Mixes t old) (halive : ∀ a ∈ own, ∃ o, s.heap.get? a = some o)
  (hQ : ∀ s' La' ep', Gr [nd, 48] s s' -> AcT s'.heap -> s'.heap.get? nd = some (dictO (wW b1 b2 w) La' ep') -> Paired (RowR (Apt own) s'.heap) La' (addOne acc (k, t)) -> La'.length <= La.length + 1 -> Q .next s') :
  wpAny (model theProg (wW b1 b2 w)) A (execs acIn2 (acEnv L)) Q E s := by
 have hsys : (nd == sysModules) = false := by
  show decide (nd = 1) = false
  exact decide_eq_false (fun e => by rw [e] at hnd1; exact absurd hnd1 (by decide))
 have nd48 : nd ≠ 52 /\ nd ≠ 48 := ⟨fun e => by rw [e] at hnd1; exact absurd hnd1 (by decide), fun e => by rw [e] at hnd1; exact absurd hnd1 (by decide)⟩
 have hv255 : ∀ s₁, Gr [] s s₁ -> VT (255 <= ·) s₁.heap t v := fun s₁ G => VT.mono (fun a o _ e => G.k a o e) (fun a h => h.1) _ _ hv
 have ac' : ∀ s₁ s₂, AcT s₁.heap -> Gr [nd] s₁ s₂ -> AcT s₂.heap := fun s₁ s₂ x G => x.at fun b o hb e => G.keep b o (fun hm => by
  rw [mS hm] at hb
  rcases hb with hb | hb
  ·exact nd48.1 hb
  ·exact nd48.2 hb) e
 refine wpAny_execs_cons (wpAny_If (wpAny_isTrue_Compare1 (ev_local F hmf (ev_local F hmn (dhas hd hsys fun s₁ G1 e1 => wpAny_truthy_bool ?_)))))
 have hd1 : s₁.heap.get? nd = some (dictO (wW b1 b2 w) La ep) := by rw [e1]; exact hd
 have hp1 : Paired (RowR (Apt own) s₁.heap) La acc := by rw [e1]; exact hp
 have hs1 : Stat b1 b2 w s₁.heap := by rw [e1]; exact hs
 have hac1 : AcT s₁.heap := by rw [e1]; exact hac
 have F1 := F.gr0 G1
 rcases get_row (k := k) hp with ⟨hg1, hg2⟩ | ⟨ov, ot, hg1, hg2, hov⟩
 ·-- new
  rw [hg1]
  simp only [Option.isSome_none, Bool.false_eq_true, if_false]
  refine wpAny_execs_cons (wpAny_Assign_Subscript (ev_local F1 hmc (ev_local F1 hmn (ev_local F1 hmf (dset hd1 (Nat.le_trans hl (by decide)) fun s' G h' => wpAny_execs_nil (wpAny_execs_nil ?_))))))
  have hadd : addOne acc (k, t) = setT acc k t := by unfold addOne; rw [hg2]
  refine hQ s' _ _ (G1.nil.trans (g_new G (.head _))) (ac' _ _ hac1 G) h' ?_ (setL_len ..)
  rw [hadd]
  exact Apt.gr (g_new G hnd) (set_row (VT.mono (fun a o _ e => G1.k a o e) (fun _ h => h) _ _ hv) hp1)
 ·rw [hg1]
  simp only [Option.isSome_some, if_true]
  have hadd : addOne acc (k, t) = setT acc k (mixT t ot) := by unfold addOne; rw [hg2]
  refine wpAny_execs_cons (wpAny_If (isTrue_plain (ev_callB hs1 (bu_isin _) (ev_local F1 hmc (ev_buil hs1 (bu_tuple _) (isi_tup hA hs1 hw (hv255 _ G1) fun s₂ G2 => wpAny_truthy_bool ?_))))))
  have G02 := G1.trans G2
  have hs2 := G2.stat0 hs1
  have hac2 : AcT s₂.heap := hac1.at fun b o _ e => G2.k b o e
  have F2 := F1.gr0 G2
  have hd2 : s₂.heap.get? nd = some (dictO (wW b1 b2 w) La ep) := G2.k _ _ hd1
  have hp2 : Paired (RowR (Apt own) s₂.heap) La acc := Apt.gr G2.nil hp1
  have hov2 : VT (Apt own) s₂.heap ot ov := VT.mono (fun a o _ e => G02.k a o e) (fun _ h => h) _ _ hov
  have hv2 : VT (Apt own) s₂.heap t v := VT.mono (fun a o _ e => G02.k a o e) (fun _ h => h) _ _ hv
  rcases hmix ot hg2 with ⟨x, y, rfl, rfl, hlen⟩ | ⟨hi1, hi2, hwo, hl1, hl2⟩
  ·-- texts
   have hf : isTp (.s x) = false := rfl
   rw [hf]
   simp only [Bool.false_eq_true, if_false]
   unfold VT at hv2 hov2
   obtain ⟨tv, rfl⟩ := hv2
   obtain ⟨to, rfl⟩ := hov2
   refine wpAny_execs_cons (wpAny_AugAssign_Subscript (ev_local F2 hmn (ev_local F2 hmf (dget hd2 hg1 fun s₃ G3 e3 => ev_local (F2.gr0 G3) hmc (PyProof.Rows.iadd_str (fun t' tk' => ?_) hlen)))))
   refine dset (by rw [e3]; exact hd2) (Nat.le_trans hl (by decide)) fun s' G h' => wpAny_execs_nil (wpAny_execs_nil (wpAny_execs_nil ?_))
   have G3' : Gr [] s₃ { s₃ with toks := tk' } := gr_tok
   refine hQ s' _ _ ((G02.trans (G3.trans G3')).nil.trans (g_new G (.head _))) (ac' { s₃ with toks := tk' } s' (show AcT s₃.heap by rw [e3]; exact hac2) G) h' ?_ (setL_len ..)
   rw [hadd]
   refine Apt.gr (g_new G hnd) (set_row (by unfold mixT; exact .str) ?_)
   show Paired (RowR (Apt own) s₃.heap) La acc
   rw [e3]; exact hp2
  ·-- tuples
   rw [hi1]
   simp only [if_true]
   obtain ⟨a, tx, ty, rfl, hNa, hta⟩ := VT.two hw hi1 hv2
   obtain ⟨b, ux, uy, rfl, hNb, htb⟩ := VT.two hwo hi2 hov2
   refine wpAny_execs_cons (wpAny_Assign_Subscript (ev_sums hA hs2 hac2 ?_))
   refine ev_callT hs2 (bu_zip _) (ev_local F2 hmc (ev_subN_any (ev_local F2 hmn (ev_local F2 hmf ⟨"dict", _, slot_dict_getitem.lookup, ⟨_, hd2, rfl⟩, dget hd2 hg1 fun s₃ G3 e3 => ?_⟩)))) rfl
   refine zip_ok hNa.1 hNb.1 (by rw [e3]; exact hta) (by rw [e3]; exact htb) hA (by rw [e3]; exact hs2) fun s₄ nb hnb G4 hn4 => ?_
   have Gs4 : Gr [] s s₄ := (G02.trans G3).trans G4
   have old : ∀ x : Nat, (∃ o, s₃.heap.get? x = some o) -> x < nb + 255 := fun x ⟨o, e⟩ => hnb ▸ Heap.lt_size e
   have fresh : ∀ x : Nat, nb + 255 <= x -> s₃.heap.get? x = none := fun x hx => new_at (hnb ▸ hx)
   have hnew : ∀ x ∈ [nb + 255 + 4, nb + 255 + 3, nb + 255 + 0, nb + 255 + 1], nb + 255 <= x := fun x hx => by
    simp only [List.mem_cons, List.not_mem_nil, or_false] at hx
    lia
   have ha3 : ∃ o, s₃.heap.get? a = some o := by rw [e3]; obtain ⟨o, _, e, _⟩ := hta.tupL; exact ⟨o, e⟩
   have hb3 : ∃ o, s₃.heap.get? b = some o := by rw [e3]; obtain ⟨o, _, e, _⟩ := htb.tupL; exact ⟨o, e⟩
   have hn3 : s₃.heap.get? nd = some (dictO (wW b1 b2 w) La ep) := by rw [e3]; exact hd2
   have hL3 : ∃ o, s₃.heap.get? L = some o := by obtain ⟨o, _, _, e, _⟩ := (F2.gr0 G3).ns; exact ⟨o, e⟩
   refine ⟨nb + 255 + 4, nb + 255 + 2, nb + 255 + 3, nb + 255 + 0, nb + 255 + 1, a, b, _, _, _, _, tx, ty, ux, uy, rfl, zipApart_new (old a ha3) (old b hb3), ⟨hn4 _ (.tail _ (.tail _ (.tail _ (.tail _ (.head _))))), hn4 _ (.tail _ (.tail _ (.head _))), ⟨_, _, hn4 _ (.tail _ (.tail _ (.tail _ (.head _))))⟩, ⟨_, hn4 _ (.head _), rfl, rfl⟩, ⟨_, hn4 _ (.tail _ (.head _)), rfl, rfl⟩,
    hta.tupL.at fun o e => G4.k _ o (by rw [e3]; exact e), htb.tupL.at fun o e => G4.k _ o (by rw [e3]; exact e)⟩, (G3.trans G4).stat0 hs2, hac2.at fun x o _ e => (G3.trans G4).k x o e, ?_, hl1, hl2, fun T s₅ t1 t2 G5 hac5 hT0 hT255 hT5 => ?_⟩
   ·intro x hx
    simp only [List.mem_cons, List.not_mem_nil, or_false] at hx
    have h1 := hNa.1
    have h2 := hNb.1
    rcases hx with rfl | rfl | rfl | rfl | rfl | rfl | rfl
    ·exact Nat.le_trans (Nat.le_add_left 255 nb) (Nat.le_add_right _ 4)
    ·exact Nat.le_trans (Nat.le_add_left 255 nb) (Nat.le_add_right _ 2)
    ·exact Nat.le_trans (Nat.le_add_left 255 nb) (Nat.le_add_right _ 3)
    ·exact Nat.le_add_left 255 nb
    ·exact Nat.le_trans (Nat.le_add_left 255 nb) (Nat.le_add_right _ 1)
    ·exact h1
    ·exact h2
   have out5 : ∀ x : Nat, 255 <= x -> (∃ o, s₃.heap.get? x = some o) -> x ∉ [48, nb + 255 + 4, nb + 255 + 3, nb + 255 + 0, nb + 255 + 1] := fun x hx h hm => by
    rcases mC hm with e | hm
    ·rw [e] at hx; exact absurd hx (by decide)
    ·exact Nat.lt_irrefl _ (Nat.lt_of_lt_of_le (old x h) (hnew x hm))
   have F5 : Fram L [] m cm s₅ := ((F2.gr0 G3).gr0 G4).gr G5 fun x hx => by
    rcases mC hx with e | e
    ·rw [e]; exact out5 L hL1 hL3
    ·cases e
   refine ev_local F5 hmn (ev_local F5 hmf (dset (G5.keep nd _ (out5 nd hnd1 ⟨_, hn3⟩) (G4.k _ _ hn3)) (Nat.le_trans hl (by decide)) fun s' G h' => wpAny_execs_nil (wpAny_execs_nil (wpAny_execs_nil ?_))))
   have hs0 : ∀ x : Nat, nb + 255 <= x -> s.heap.get? x = none := fun x hx => (G02.trans G3).dead (fun h => nomatch h) (fresh x hx)
   have Gall : Gr [nd, 48] s s' := ((Gs4.nil.trans (G5.widen (own' := [nd, 48, nb + 255 + 4, nb + 255 + 3, nb + 255 + 0, nb + 255 + 1]) fun x hx => .tail _ hx)).trans (g_new G (.head _))).shrink fun x hx => by
    rcases mC hx with e | hx
    ·rw [e]; exact .inl (.head _)
    rcases mC hx with e | hx
    ·rw [e]; exact .inl (.tail _ (.head _))
    ·exact .inr (hs0 x (hnew x hx))
   have hTo : T ∉ own := not_mem_of_new (s := s₄) (fun x hx => by
    obtain ⟨o, e⟩ := halive x hx
    exact ⟨o, Gs4.k x o e⟩) hT0
   refine hQ s' _ _ Gall (ac' _ _ hac5 G) h' ?_ (setL_len ..)
   rw [hadd]
   have hm : mixT t ot = .t [.s ((w2 t).1 ++ (w2 ot).1), .s ((w2 t).2 ++ (w2 ot).2)] := by
    cases t with
    | s x => cases hi1
    | _ => rfl
   refine Apt.gr (g_new G hnd) (set_row (by rw [hm]; exact .tup ⟨hT255, hTo⟩ hT5 (.cons .str (.cons .str .nil))) ?_)
   refine Paired.imp (fun p q h => ⟨h.1, VT.mono (fun x o hn e => ?_) (fun _ h => h) _ _ h.2⟩) hp
   exact G5.keep x o (fun hm' => by
    rcases mC hm' with e' | hm'
    ·exact hn.2 (e' ▸ h48)
    ·rw [hs0 x (hnew x hm')] at e; cases e) (Gs4.k x o e)
end
mutual
theorem VT.mono2 {N N' : Nat -> Prop} {h h' : Heap} (hk : ∀ a o, N a -> h.get? a = some o -> h'.get? a = some o) (hN : ∀ a o, N a -> h.get? a = some o -> N' a) : ∀ (t : T) (v : Value), VT N h t v -> VT N' h' t v
 | .s x, v, e => by unfold VT at e ⊢; exact e
 | .b x, v, e => by unfold VT at e ⊢; exact e
 | .p x y, v, e => by
  unfold VT at e ⊢
  obtain ⟨a, d, t, u, h1, h2, h3⟩ := e
  exact ⟨a, d, t, u, h1, ⟨h2.1, hN a _ h2.2 h3⟩, hk a _ h2.2 h3⟩
 | .t l, v, e => by
  unfold VT at e ⊢
  obtain ⟨a, vs, h1, h2, h3, h4⟩ := e
  exact ⟨a, vs, h1, hN a _ h2 h3, hk a _ h2 h3, VTs.mono2 hk hN l _ h4⟩
 | .l l, v, e => by
  unfold VT at e ⊢
  obtain ⟨a, vs, n, h1, h2, h3, h4⟩ := e
  exact ⟨a, vs, n, h1, hN a _ h2 h3, hk a _ h2 h3, VTs.mono2 hk hN l _ h4⟩
theorem VTs.mono2 {N N' : Nat -> Prop} {h h' : Heap} (hk : ∀ a o, N a -> h.get? a = some o -> h'.get? a = some o) (hN : ∀ a o, N a -> h.get? a = some o -> N' a) : ∀ (ts : List T) (vs : List Value), VTs N h ts vs -> VTs N' h' ts vs
 | [], vs, e => by unfold VTs at e ⊢; exact e
 | t :: ts, vs, e => by
  unfold VTs at e ⊢
  obtain ⟨v, r, h1, h2, h3⟩ := e
  exact ⟨v, r, h1, VT.mono2 hk hN t v h2, VTs.mono2 hk hN ts r h3⟩
end
noncomputable def cpT (t : Tab) : Tab := t.foldl (fun acc q => setT acc q.1 q.2) []
noncomputable def addT (tgt src : Tab) : Tab := src.foldl addOne (cpT tgt)
theorem fold_take {α β : Type} (f : β -> α -> β) {l : List α} {i : Nat} {a : α} (h : l[i]? = some a) (b : β) : (l.take (i + 1)).foldl f b = f ((l.take i).foldl f b) a := by
 rw [take_succ h, List.foldl_append]; rfl
theorem ac_48 {h : Heap} (x : AcT h) : (∃ o, h.get? 48 = some o) /\ ∃ o, h.get? 52 = some o := by
 obtain ⟨ps, _, o, vs, file, tf, flags, tg, inF, text, tt, op, a, r1, r2, r3, r4, r5, r6, b, r⟩ := x
 exact ⟨⟨_, b⟩, ⟨_, a⟩⟩
noncomputable def TabAv (av : List Nat) (w : World) (h : Heap) (d : Nat) (tab : Tab) : Prop := X2_2 (fun L ep => h.get? d = some (dictO w L ep)) (fun L ep => Paired (RowR (Apt av) h) L tab)
noncomputable def EntAv (av : List Nat) (w : World) (h : Heap) (v : Value) (e : Ent) : Prop := X6_7 (fun a d t1 t2 t3 t4 => v = .ref a) (fun a d t1 t2 t3 t4 => 255 <= a) (fun a d t1 t2 t3 t4 => a ∉ av) (fun a d t1 t2 t3 t4 => 255 <= d) (fun a d t1 t2 t3 t4 => d ∉ av) (fun a d t1 t2 t3 t4 => h.get? a = some (tup #[.str e.c1 t1, .str e.c2 t2, .str e.c3 t3, .str e.c4 t4, .ref d])) (fun a d t1 t2 t3 t4 => TabAv av w h d e.tab)
theorem TabAv.keep {av : List Nat} {w : World} {h h' : Heap} {d : Nat} {tab : Tab} (hd : 255 <= d) (hd' : d ∉ av) (k : ∀ a o, 255 <= a -> a ∉ av -> h.get? a = some o -> h'.get? a = some o) (x : TabAv av w h d tab) : TabAv av w h' d tab := by
 obtain ⟨L, ep, e, p⟩ := x
 exact ⟨L, ep, k _ _ hd hd' e, Paired.imp (fun a b h => ⟨h.1, VT.mono (fun a o hn e => k a o hn.1 hn.2 e) (fun _ h => h) _ _ h.2⟩) p⟩
theorem EntAv.keep {av : List Nat} {w : World} {h h' : Heap} {v : Value} {e : Ent} (k : ∀ a o, 255 <= a -> a ∉ av -> h.get? a = some o -> h'.get? a = some o) (x : EntAv av w h v e) : EntAv av w h' v e := by
 obtain ⟨a, d, t1, t2, t3, t4, rfl, ha, ha', hd, hd', e1, e2⟩ := x
 exact ⟨a, d, t1, t2, t3, t4, rfl, ha, ha', hd, hd', k _ _ ha ha' e1, e2.keep hd hd' k⟩
theorem TabAv.tab {av : List Nat} {w : World} {h : Heap} {d : Nat} {tab : Tab} (x : TabAv av w h d tab) : TabAt w h d tab := by
 obtain ⟨L, ep, e, p⟩ := x
 exact ⟨L, ep, e, Paired.imp (fun a b h => ⟨h.1, VT.mono (fun _ _ _ e => e) (fun _ h => h.1) _ _ h.2⟩) p⟩
theorem EntAv.ent {av : List Nat} {w : World} {h : Heap} {v : Value} {e : Ent} (x : EntAv av w h v e) : EntAt w h v e := by
 obtain ⟨a, d, t1, t2, t3, t4, rfl, ha, ha', hd, hd', e1, e2⟩ := x
 exact ⟨a, d, t1, t2, t3, t4, rfl, hd, e1, e2.tab⟩
section
variable {b1 b2 : Bool} {w : World} {A : Around} {s : Shared}
set_option maxHeartbeats 4000000 in
theorem ac_ok {d1 d2 : Nat} {tgt src : Tab} {av : List Nat} {R : Result -> Shared -> Prop} (hA : Deep 2 A) (hs : Stat b1 b2 w s.heap) (hac : AcT s.heap) (hd1 : 255 <= d1) (hd2 : 255 <= d2) (hav : ∀ a ∈ av, ∃ o, s.heap.get? a = some o) (h1 : TabAv av (wW b1 b2 w) s.heap d1 tgt) (h2 : TabAv av (wW b1 b2 w) s.heap d2 src)
  (hw : ∀ q ∈ src, Wd q.2) (hmix : ∀ i q, src[i]? = some q -> ∀ old, getT ((src.take i).foldl addOne (cpT tgt)) q.1 = some old -> Mixes q.2 old) (hl : tgt.length + src.length <= 1000)
  (hR : ∀ nd s', Gr [48] s s' -> AcT s'.heap -> s.heap.get? nd = none -> 255 <= nd -> TabAv av (wW b1 b2 w) s'.heap nd (addT tgt src) -> R (.ok (.ret (.ref nd))) s') :
  codeAny (model theProg (wW b1 b2 w)) A (.call (.ref 53) ⟨[.ref d1, .ref d2], []⟩) R s := by
 obtain ⟨LD1, ep1, ho1, hp1⟩ := h1
 obtain ⟨LD2, ep2, ho2, hp2⟩ := h2
 have sys : ∀ d : Nat, 255 <= d -> (d == sysModules) = false := fun d h => by
  show decide (d = 1) = false
  exact decide_eq_false (fun e => by rw [e] at h; exact absurd h (by decide))
 refine enter hA.lt hs (ac_fd _) (ac_cd _) (binds := [("target", .ref d1), ("source", .ref d2)]) rfl (fun x hx => by
  replace hx := mr2 hx
  rcases hx with rfl | rfl <;> exact .inl rfl) rfl rfl rfl fun s₀ I => ?_
 have hLbig : 255 <= s.heap.objs.size := hs.big
 generalize hLe : s.heap.objs.size = L at I hLbig ⊢
 have F0 := InCallC.fram I
 have hcells : (callEnvC (mkFd (atB prgB 4) "add_callers" (.str "Combine two caller lists in a single list." 317) (.str "cpy313.pstats" 286) 52) L 53).cells = [] := acEnv_cells L
 rw [hcells] at F0
 replace F0 : Fram L [] _ _ s₀ := F0
 have G0 : Gr [] s s₀ := InCallC.gr I
 have hL0 : s.heap.get? L = none := new_at (by lia)
 have hA' : Deep 1 (A.deeper (acEnv L)) := hA.deeper
 have hm1 : (bindL (callEnvC fdAc L 53).kindOf [("target", .ref d1), ("source", .ref d2)] fun _ => none) "target" = some (.ref d1) := by kernel_rfl
 have hm2 : (bindL (callEnvC fdAc L 53).kindOf [("target", .ref d1), ("source", .ref d2)] fun _ => none) "source" = some (.ref d2) := by kernel_rfl
 generalize (bindL (callEnvC fdAc L 53).kindOf [("target", .ref d1), ("source", .ref d2)] fun _ => none) = m0 at F0 hm1 hm2
 generalize (bindC (callEnvC fdAc L 53).kindOf [("target", .ref d1), ("source", .ref d2)] fun _ => none) = cm0 at F0
 generalize A.deeper (acEnv L) = A' at hA' ⊢
 have hhA := hA'.handled
 refine wpAny_execs_cons (wpAny_Expr_any (evS fun t0 s₁ G1 => ?_))
 have F1 := F0.gr0 G1
 have hs1 : Stat b1 b2 w s₁.heap := (G0.trans G1).stat0 hs
 refine wpAny_execs_cons (wpAny_Assign_Name (wpAny_Dict_empty ?_))
 have hnd1 : 255 <= s₁.heap.objs.size := hs1.big
 have hnd0 : s₁.heap.get? s₁.heap.objs.size = none := new_at (Nat.le_refl _)
 have hndo : ({ s₁ with heap := s₁.heap.push { cls := .type "dict", data := .dict #[] } } : Shared).heap.get? s₁.heap.objs.size = some (dictO (wW b1 b2 w) [] 0) := Heap.get?_push_size _ rfl
 have G2 : Gr [] s₁ { s₁ with heap := s₁.heap.push { cls := .type "dict", data := .dict #[] } } := gr_push (tk := s₁.toks)
 generalize ({ s₁ with heap := s₁.heap.push { cls := .type "dict", data := .dict #[] } } : Shared) = s₂ at hndo G2 ⊢
 generalize s₁.heap.objs.size = nd at hnd1 hnd0 hndo ⊢
 have hnds : s.heap.get? nd = none := (G0.trans G1).dead (fun h => nomatch h) hnd0
 have F2 := F1.gr0 G2
 have hndL : nd ≠ L := fun e => by
  obtain ⟨o, _, _, h, _⟩ := F1.ns
  have h' : s₁.heap.get? L = some o := h
  rw [<- e, hnd0] at h'; cases h'
 refine F2.set (env := acEnv L) rfl rfl fun s₃ G3 F3 => ?_
 dsimp only
 have hnd3 : s₃.heap.get? nd = some (dictO (wW b1 b2 w) [] 0) := G3.keep nd _ (fun hm => hndL (mS hm)) hndo
 have G03 : Gr [] s s₃ := (((G0.trans G1).trans G2).nil.trans G3).new fun a ha => by rw [mS ha]; exact hL0
 have hs3 : Stat b1 b2 w s₃.heap := G03.stat0 hs
 obtain ⟨⟨o48, h48⟩, o52, h52⟩ := ac_48 hac
 have ne48 : ∀ a : Nat, s.heap.get? a = none -> a ≠ 48 /\ a ≠ 52 := fun a h => ⟨fun e => (by rw [e, h48] at h; cases h), fun e => (by rw [e, h52] at h; cases h)⟩
 have ac' : ∀ (own : List Nat) s', (∀ a ∈ own, s.heap.get? a = none) -> Gr own s s' -> AcT s'.heap := fun own s' hn G => hac.at fun b o hb e => G.keep b o (fun hm => by
  have := ne48 b (hn b hm)
  rcases hb with hb | hb
  ·exact this.2 hb
  ·exact this.1 hb) e
 refine wpAny_execs_cons (ev_for (ev_items rfl rfl (ev_local F3 (v := .ref d1) (by show (if ("target" : Str) = "new_callers" then _ else _) = _; rw [if_neg (by decide)]; exact hm1) ⟨d1, LD1, ep1, rfl, sys d1 hd1, G03.k _ _ ho1, fun V s₄ G4 hV0 hV => ?_⟩)))
 have G04 := G03.trans G4
 refine iter_items hV ⟨_, G04.k _ _ ho1, rfl⟩ fun I1 sH G5 hI hit hmd hdI => ?_
 have G0H := G04.trans G5
 have hIs : s.heap.get? I1 = none := G04.dead (fun h => nomatch h) hI
 have FH := (F3.gr0 G4).gr0 G5
 have hIL : I1 ≠ L := fun e => by
  obtain ⟨o, _, _, h, _⟩ := (F3.gr0 G4).ns
  have h' : s₄.heap.get? L = some o := h
  rw [<- e, hI] at h'; cases h'
 have hIn : I1 ≠ nd := fun e => by
  have h' := G4.k _ _ hnd3
  rw [<- e, hI] at h'; cases h'
 have hlen1 : LD1.length = tgt.length := hp1.length
 have hlen2 : LD2.length = src.length := hp2.length
 have new1 : ∀ a ∈ [I1, nd, L], s.heap.get? a = none := fun a ha => by
  replace ha := mr3 ha
  rcases ha with rfl | rfl | rfl
  ·exact hIs
  ·exact hnds
  ·exact hL0
 have apart : ∀ (own : List Nat) s' (t : T) (v : Value), (∀ a ∈ own, s.heap.get? a = none \/ a = 48) -> Gr own s s' -> VT (Apt av) s.heap t v -> VT (Apt (own ++ av)) s'.heap t v := fun own s' t v hn G e =>
  VT.mono2 (fun a o h255 e => G.keep a o (fun hm => by
   rcases hn a hm with h | h
   ·rw [h] at e; cases e
   ·have h255' : 255 <= a := h255.1
    rw [h] at h255'; exact absurd h255' (by decide)) e) (fun a o h255 e => ⟨h255.1, fun hm => by
   rcases List.mem_append.mp hm with hm | hm
   ·rcases hn a hm with h | h
    ·rw [h] at e; cases e
    ·have h255' : 255 <= a := h255.1
     rw [h] at h255'; exact absurd h255' (by decide)
   ·exact h255.2 hm⟩) t v e
 refine ⟨_, _, _, _, _, srcItems hhA I1 d1 hdI LD1 ep1, ⟨⟨_, _, hit⟩, hmd⟩, fun i s' => X3_7 (fun m' La ep' => Fram L [] m' cm0 s') (fun m' La ep' => m' "new_callers" = some (.ref nd)) (fun m' La ep' => m' "source" = some (.ref d2)) (fun m' La ep' => s'.heap.get? nd = some (dictO (wW b1 b2 w) La ep')) (fun m' La ep' => Paired (RowR (Apt (I1 :: nd :: L :: 48 :: av)) s'.heap) La (cpT (tgt.take i))) (fun m' La ep' => La.length <= i) (fun m' La ep' => Gr [I1, nd, L] s s'), ?_, ?_, ?_, ?_⟩
 ·exact ⟨_, [], 0, FH, if_pos rfl, by show (if ("source" : Str) = "new_callers" then _ else _) = _; rw [if_neg (by decide)]; exact hm2, G5.k _ _ (G4.k _ _ hnd3), .nil, Nat.le_refl _, G0H.nil⟩
 ·rintro i s' s'' ⟨m', La, ep', f1, f2, f3, f4, f5, f6, f7⟩ G
  refine ⟨m', La, ep', f1.gr G (fun a ha hm => ?_), f2, f3, G.keep nd _ (fun hm => hIn (mS hm).symm) f4, Apt.gr (g_new G (.head _)) f5, f6, f7.trans (g_new G (.head _))⟩
  rcases mC ha with e | e
  ·rw [mS hm] at e; exact hIL e
  ·cases e
 ·rintro i v s₅ hi ⟨m', La, ep', f1, f2, f3, f4, f5, f6, f7⟩ hfpa ⟨T, p, rfl, hp, hT, hTI⟩ E'
  obtain ⟨q, hq, hpq, hval⟩ := Paired.get hp1 hp
  refine as_tuple (env := acEnv L) hhA rfl [("func", _), ("caller", _)] rfl (fun n hn => by
   replace hn := mr2 hn
   rcases hn with rfl | rfl <;> rfl) (isTup hT) f1 fun s₆ G6 F6 => ?_
  have G56 : Gr [I1, nd, L] s₅ s₆ := g_new G6 (.tail _ (.tail _ (.head _)))
  have look : ∀ x : Str, x ≠ "caller" -> x ≠ "func" -> updL m' ["func", "caller"] [.str p.1 p.2.1, p.2.2] x = m' x := fun x h1 h2 => by
   show (if x = ("caller" : Str) then some p.2.2 else if x = ("func" : Str) then some (Value.str p.1 p.2.1) else m' x) = _
   rw [if_neg h1, if_neg h2]
  refine ac_turn1 (own := I1 :: nd :: L :: 48 :: av) (k := p.1) (tk := p.2.1) (v := p.2.2) (t := q.2) (acc := cpT (tgt.take i)) hhA F6 ((look _ (by decide) (by decide)).trans f2) (by kernel_rfl) (by kernel_rfl) (.tail _ (.head _)) (G6.keep nd _ (fun hm => hndL (mS hm)) f4) (by lia)
   (Apt.gr (g_new G6 (.tail _ (.tail _ (.head _)))) f5) (apart [I1, nd, L, 48] _ _ _ (fun a ha => by
    replace ha := mr4 ha
    rcases ha with rfl | rfl | rfl | rfl
    ·exact .inl hIs
    ·exact .inl hnds
    ·exact .inl hL0
    ·exact .inr rfl) ((f7.trans G56).widen fun a ha => by
    replace ha := mr3 ha
    rcases ha with rfl | rfl | rfl <;> simp) hval) fun s' La' ep2' G' h' hp' hl' => ?_
  have G6' : Gr [I1, nd, L] s₆ s' := g_new G' (.tail _ (.head _))
  refine ⟨.inl rfl, ⟨_, La', ep2', F6.gr G' (fun a ha hm => ?_), (look _ (by decide) (by decide)).trans f2, (look _ (by decide) (by decide)).trans f3, h', ?_, by lia, (f7.trans G56).trans G6'⟩, [nd, L], (g_new G6 (.tail _ (.head _))).trans (g_new G' (.head _)), fun b hb hm => ?_⟩
  ·rw [mS hm] at ha
   rcases mC ha with e | e
   ·exact hndL e
   ·cases e
  ·unfold cpT at hp' ⊢
   rw [fold_take _ hq, <- hpq]; exact hp'
  ·rcases mC hb with e | hb
   ·rw [e] at hm
    rcases mC hm with e | hm
    ·exact hIn e
    ·exact hIL (mS hm)
   ·rw [mS hb] at hm
    rcases mC hm with e | hm
    ·rw [e, hnds] at ho1; cases ho1
    ·rw [mS hm, hL0] at ho1; cases ho1
 ·rintro s₅ ⟨m', La, ep', f1, f2, f3, f4, f5, f6, f7⟩
  dsimp only
  rw [hlen1, List.take_of_length_le (Nat.le_refl _)] at f5
  have hs5 : Stat b1 b2 w s₅.heap := (f7.new new1).stat0 hs
  have G05 : Gr [] s s₅ := f7.new new1
  refine wpAny_execs_cons (ev_for (ev_items rfl rfl (ev_local f1 f3 ⟨d2, LD2, ep2, rfl, sys d2 hd2, G05.k _ _ ho2, fun V2 s₆ G6 hV0 hV => ?_⟩)))
  have G06 := G05.trans G6
  refine iter_items hV ⟨_, G06.k _ _ ho2, rfl⟩ fun I2 s₇ G7 hI2 hit2 hmd2 hdI2 => ?_
  have G07 := G06.trans G7
  have F7 := (f1.gr0 G6).gr0 G7
  have hI2s : s.heap.get? I2 = none := G06.dead (fun h => nomatch h) hI2
  have hI2L : I2 ≠ L := fun e => by
   obtain ⟨o, _, _, h, _⟩ := (f1.gr0 G6).ns
   have h' : s₆.heap.get? L = some o := h
   rw [<- e, hI2] at h'; cases h'
  have hI2n : I2 ≠ nd := fun e => by
   have h' := G6.k _ _ f4
   rw [<- e, hI2] at h'; cases h'
  have new2 : ∀ a ∈ [I2, nd, L], s.heap.get? a = none := fun a ha => by
   replace ha := mr3 ha
   rcases ha with rfl | rfl | rfl
   ·exact hI2s
   ·exact hnds
   ·exact hL0
  have own2 : ∀ a ∈ [I2, nd, L, 48], s.heap.get? a = none \/ a = 48 := fun a ha => by
   replace ha := mr4 ha
   rcases ha with rfl | rfl | rfl | rfl
   ·exact .inl hI2s
   ·exact .inl hnds
   ·exact .inl hL0
   ·exact .inr rfl
  have dyn2 : ∀ a ∈ [I2, nd, L, 48], (ktop (wW b1 b2 w).params).get a = none := fun a ha => by
   rcases own2 a ha with h | h
   ·exact hs.free h
   ·rw [h]; exact ktop_48 _
  have p7 : Paired (RowR (Apt (I2 :: nd :: L :: 48 :: av)) s₇.heap) La (cpT tgt) := Paired.imp (fun p q h => ⟨h.1, VT.mono2 (fun a o _ e => (G6.trans G7).k a o e) (fun a o hn e => ⟨hn.1, fun hm => by
   rcases mC hm with e' | hm
   ·have h' := G6.k _ _ e
    rw [e', hI2] at h'; cases h'
   ·exact hn.2 (.tail _ hm)⟩) _ _ h.2⟩) f5
  refine ⟨_, _, _, _, _, srcItems hhA I2 d2 hdI2 LD2 ep2, ⟨⟨_, _, hit2⟩, hmd2⟩, fun i s' => X3_7 (fun m' La ep' => Fram L [] m' cm0 s') (fun m' La ep' => m' "new_callers" = some (.ref nd)) (fun m' La ep' => s'.heap.get? nd = some (dictO (wW b1 b2 w) La ep')) (fun m' La ep' => Paired (RowR (Apt (I2 :: nd :: L :: 48 :: av)) s'.heap) La ((src.take i).foldl addOne (cpT tgt))) (fun m' La ep' => La.length <= tgt.length + i) (fun m' La ep' => AcT s'.heap) (fun m' La ep' => Gr [I2, nd, L, 48] s s'), ?_, ?_, ?_, ?_⟩
  ·exact ⟨_, La, ep', F7, f2, G7.k _ _ (G6.k _ _ f4), p7, by lia, ac' [] _ (fun _ h => nomatch h) G07, G07.nil⟩
  ·rintro i s' s'' ⟨m', La, ep', g1, g2, g4, g5, g6, g7, g8⟩ G
   refine ⟨m', La, ep', g1.gr G (fun a ha hm => ?_), g2, G.keep nd _ (fun hm => hI2n (mS hm).symm) g4, Apt.gr (g_new G (.head _)) g5, g6, g7.at fun b o hb e => G.keep b o (fun hm => ?_) e, g8.trans (g_new G (.head _))⟩
   ·rcases mC ha with e | e
    ·rw [mS hm] at e; exact hI2L e
    ·cases e
   ·have := ne48 I2 hI2s
    rw [mS hm] at hb
    rcases hb with hb | hb
    ·exact this.2 hb
    ·exact this.1 hb
  ·rintro i v s₈ hi ⟨m', La, ep', g1, g2, g4, g5, g6, g7, g8⟩ hfpa ⟨T, p, rfl, hp, hT, hTI⟩ E'
   obtain ⟨q, hq, hpq, hval⟩ := Paired.get hp2 hp
   refine as_tuple (env := acEnv L) hhA rfl [("func", _), ("caller", _)] rfl (fun n hn => by
    replace hn := mr2 hn
    rcases hn with rfl | rfl <;> rfl) (isTup hT) g1 fun s₉ G9 F9 => ?_
   have G89 : Gr [I2, nd, L, 48] s₈ s₉ := g_new G9 (.tail _ (.tail _ (.head _)))
   have look : ∀ x : Str, x ≠ "caller" -> x ≠ "func" -> updL m' ["func", "caller"] [.str p.1 p.2.1, p.2.2] x = m' x := fun x h1 h2 => by
    show (if x = ("caller" : Str) then some p.2.2 else if x = ("func" : Str) then some (Value.str p.1 p.2.1) else m' x) = _
    rw [if_neg h1, if_neg h2]
   have hs9 : Stat b1 b2 w s₉.heap := (g8.trans G89).statF hs dyn2
   have hil : i < src.length := hlen2 ▸ hi
   have ac9 : AcT s₉.heap := g7.at fun b o hb e => G9.keep b o (fun hm => by
    have := ne48 L hL0
    rw [mS hm] at hb
    rcases hb with hb | hb
    ·exact this.2 hb
    ·exact this.1 hb) e
   refine ac_turn2 (own := I2 :: nd :: L :: 48 :: av) (k := p.1) (tk := p.2.1) (v := p.2.2) (t := q.2) (acc := (src.take i).foldl addOne (cpT tgt)) hA' hs9 ac9 F9 ((look _ (by decide) (by decide)).trans g2) (by kernel_rfl) (by kernel_rfl) (.tail _ (.head _)) (by simp) hnd1 hLbig (G9.keep nd _ (fun hm => hndL (mS hm)) g4) (by lia)
    (Apt.gr (g_new G9 (.tail _ (.tail _ (.head _)))) g5) (apart [I2, nd, L, 48] _ _ _ own2 (g8.trans G89) hval) (hw q (List.mem_of_getElem? hq)) (fun old e => hmix i q hq old (by rw [<- hpq]; exact e)) (fun a ha => ?_) fun s' La' ep2' G' ac2 h' hp' hl' => ?_
   ·have four : a ∈ [I2, nd, L, 48] -> ∃ o, s₉.heap.get? a = some o := fun ha => by
     replace ha := mr4 ha
     rcases ha with rfl | rfl | rfl | rfl
     ·obtain ⟨o, e⟩ := hfpa _ (.head _)
      exact ⟨o, G9.keep _ o (fun hm => hI2L (mS hm)) e⟩
     ·exact ⟨_, G9.keep _ _ (fun hm => hndL (mS hm)) g4⟩
     ·obtain ⟨o, _, _, e, _⟩ := F9.ns; exact ⟨o, e⟩
     ·exact (ac_48 ac9).1
    by_cases h4 : a ∈ [I2, nd, L, 48]
    ·exact four h4
    ·rcases List.mem_append.mp (show a ∈ [I2, nd, L, 48] ++ av from ha) with h | h
     ·exact absurd h h4
     ·obtain ⟨o, e⟩ := hav a h
      exact ⟨o, (g8.trans G89).keep a o h4 e⟩
   have G9' : Gr [I2, nd, L, 48] s₉ s' := G'.widen fun a ha => by
    replace ha := mr2 ha
    rcases ha with rfl | rfl <;> simp
   refine ⟨.inl rfl, ⟨_, La', ep2', F9.gr G' (fun a ha hm => ?_), (look _ (by decide) (by decide)).trans g2, h', ?_, by lia, ac2, (g8.trans G89).trans G9'⟩, [nd, L, 48], (g_new G9 (.tail _ (.head _))).trans (G'.widen fun a ha => by
     replace ha := mr2 ha
     rcases ha with rfl | rfl <;> simp), fun b hb hm => ?_⟩
   ·rcases mC ha with e | e
    ·rw [e] at hm
     rcases mC hm with e | hm
     ·exact hndL e.symm
     ·have e' : L = 48 := mS hm
      rw [e'] at hLbig; exact absurd hLbig (by decide)
    ·cases e
   ·rw [fold_take _ hq, show q = (p.1, q.2) from by rw [hpq]]; exact hp'
   ·simp only [List.mem_cons, List.not_mem_nil, or_false] at hm
    rcases mC hb with e | hb
    ·rw [e] at hm
     rcases hm with e | e | e
     ·exact hI2n e
     ·exact hI2L e
     ·exact (ne48 I2 hI2s).1 e
    ·rw [mS hb] at hm
     rcases hm with e | e | e
     ·rw [e, hnds] at ho2; cases ho2
     ·rw [e, hL0] at ho2; cases ho2
     ·rw [e] at hd2; exact absurd hd2 (by decide)
  ·rintro s' ⟨m', La, ep', g1, g2, g4, g5, g6, g7, g8⟩
   dsimp only
   rw [hlen2, List.take_of_length_le (Nat.le_refl _)] at g5
   refine wpAny_execs_cons (wpAny_Return_some (ev_local g1 g2 ?_))
   refine hR nd s' (g8.shrink fun a ha => ?_) g7 hnds hnd1 ⟨La, ep', g4, Paired.imp (fun p q h => ⟨h.1, VT.mono (fun _ _ _ e => e) (fun a h => ⟨h.1, fun hm => h.2 (.tail _ (.tail _ (.tail _ (.tail _ hm))))⟩) _ _ h.2⟩) g5⟩
   rcases own2 a ha with h | h
   ·exact .inr h
   ·exact .inl (by rw [h]; exact .head _)
end
section
variable {prog : Program} {w : World} {A : Around} {E : Value -> Shared -> Prop} {s : Shared} {env : Env}
theorem evT2 {elts : List Expr} {k : Nat} {pos : Pos} {Q : Value -> Shared -> Prop}
  (h : evalsAll prog w A E env elts (fun vs s₁ => vs.length <= sizeLine /\ ∀ s', Gr [] s₁ s' -> s'.heap.get? s₁.heap.objs.size = some (tup vs.toArray) -> Q (.ref s₁.heap.objs.size) s') s) (hst : autoParam (starEach elts env = elts.map fun e => (false, eval e env)) byRfl) : wpAny (model prog w) A (eval (.Tuple elts k pos) env) Q E s :=
 wpAny_Tuple (by rw [hst]; exact wpAny_mono (evalsAll_spliced _ _ _ h) (fun vs s₁ h₁ => ⟨h₁.1, h₁.2 _ (gr_push (tk := s₁.toks)) (Heap.get?_push_size _ rfl)⟩) fun _ _ e => e)
end
noncomputable def addE (tgt src : Ent) : Ent := ⟨src.c1 ++ tgt.c1, src.c2 ++ tgt.c2, src.c3 ++ tgt.c3, src.c4 ++ tgt.c4, addT tgt.tab src.tab⟩
structure AddsE (tgt src : Ent) : Prop where
 l1 : src.c1.length + tgt.c1.length <= sizeLine
 l2 : src.c2.length + tgt.c2.length <= sizeLine
 l3 : src.c3.length + tgt.c3.length <= sizeLine
 l4 : src.c4.length + tgt.c4.length <= sizeLine
 hw : ∀ q ∈ src.tab, Wd q.2
 hmix : ∀ i q, src.tab[i]? = some q -> ∀ old, getT ((src.tab.take i).foldl addOne (cpT tgt.tab)) q.1 = some old -> Mixes q.2 old
 hl : tgt.tab.length + src.tab.length <= 1000
noncomputable abbrev afsEnv (L : Nat) : Env := callEnvC fdAfs L 46
theorem afsEnv_cells (L : Nat) : (afsEnv L).cells = [] := by kernel_rfl
section
variable {b1 b2 : Bool} {w : World} {A : Around} {s : Shared}
set_option maxHeartbeats 4000000 in
theorem afs_ok {va vb : Value} {ea eb : Ent} {av : List Nat} {R : Result -> Shared -> Prop} (hA : Deep 3 A) (hs : Stat b1 b2 w s.heap) (hac : AcT s.heap) (hav : ∀ a ∈ av, ∃ o, s.heap.get? a = some o) (h1 : EntAv av (wW b1 b2 w) s.heap va ea) (h2 : EntAv av (wW b1 b2 w) s.heap vb eb) (h : AddsE ea eb)
  (hR : ∀ T s', Gr [48] s s' -> AcT s'.heap -> s.heap.get? T = none -> EntAv av (wW b1 b2 w) s'.heap (.ref T) (addE ea eb) -> R (.ok (.ret (.ref T))) s') :
  codeAny (model theProg (wW b1 b2 w)) A (.call (.ref 46) ⟨[va, vb], []⟩) R s := by
 obtain ⟨a, d, t1, t2, t3, t4, rfl, _, _, hd, hd', hea, hta⟩ := h1
 obtain ⟨b, e, u1, u2, u3, u4, rfl, _, _, he, he', heb, htb⟩ := h2
 refine enter hA.lt hs (afs_fd _) (afs_cd _) (binds := [("target", .ref a), ("source", .ref b)]) rfl (fun x hx => by
  replace hx := mr2 hx
  rcases hx with rfl | rfl <;> exact .inl rfl) rfl rfl rfl fun s₀ I => ?_
 have hLbig : 255 <= s.heap.objs.size := hs.big
 generalize hLe : s.heap.objs.size = L at I hLbig ⊢
 have F0 := InCallC.fram I
 have hcells : (callEnvC (mkFd (atB prgB 3) "add_func_stats" (.str "Add together all the stats for two profile entries." 305) (.str "cpy313.pstats" 286) 45) L 46).cells = [] := afsEnv_cells L
 rw [hcells] at F0
 replace F0 : Fram L [] _ _ s₀ := F0
 have G0 : Gr [] s s₀ := InCallC.gr I
 have hL0 : s.heap.get? L = none := new_at (by lia)
 have hA' : Deep 2 (A.deeper (afsEnv L)) := hA.deeper
 have hm1 : (bindL (callEnvC fdAfs L 46).kindOf [("target", .ref a), ("source", .ref b)] fun _ => none) "target" = some (.ref a) := by kernel_rfl
 have hm2 : (bindL (callEnvC fdAfs L 46).kindOf [("target", .ref a), ("source", .ref b)] fun _ => none) "source" = some (.ref b) := by kernel_rfl
 generalize (bindL (callEnvC fdAfs L 46).kindOf [("target", .ref a), ("source", .ref b)] fun _ => none) = m0 at F0 hm1 hm2
 generalize (bindC (callEnvC fdAfs L 46).kindOf [("target", .ref a), ("source", .ref b)] fun _ => none) = cm0 at F0
 generalize A.deeper (afsEnv L) = A' at hA' ⊢
 have hhA := hA'.handled
 refine wpAny_execs_cons (wpAny_Expr_any (evS fun t0 s₁ G1 => ?_))
 have F1 := F0.gr0 G1
 have G01 := G0.trans G1
 refine wpAny_execs_cons (wpAny_Assign_stores (ev_local F1 hm2 ?_) rfl rfl)
 refine as_tuple (x1 := 0) (env := afsEnv L) hhA rfl [("cc", _), ("nc", _), ("tt", _), ("ct", _), ("callers", _)] rfl (fun n hn => by
  replace hn := mr5 hn
  rcases hn with rfl | rfl | rfl | rfl | rfl <;> rfl) (isTup (G01.k _ _ heb)) F1 fun s₂ G2 F2 => ?_
 have G02 : Gr [] s s₂ := (G01.nil.trans G2).new fun x hx => by rw [mS hx]; exact hL0
 refine wpAny_execs_cons (wpAny_Assign_stores (ev_local F2 (v := .ref a) (by
  have : updL m0 ["cc", "nc", "tt", "ct", "callers"] [.str eb.c1 u1, .str eb.c2 u2, .str eb.c3 u3, .str eb.c4 u4, .ref e] "target" = m0 "target" := by kernel_rfl
  exact this.trans hm1) ?_) rfl rfl)
 refine as_tuple (x1 := 0) (env := afsEnv L) hhA rfl [("t_cc", _), ("t_nc", _), ("t_tt", _), ("t_ct", _), ("t_callers", _)] rfl (fun n hn => by
  replace hn := mr5 hn
  rcases hn with rfl | rfl | rfl | rfl | rfl <;> rfl) (isTup (G02.k _ _ hea)) F2 fun s₃ G3 F3 => ?_
 have G03 : Gr [] s s₃ := (G02.nil.trans G3).new fun x hx => by rw [mS hx]; exact hL0
 refine wpAny_execs_cons (wpAny_Return_some (evT2 ?_))
 refine wpAny_BinOp (ev_local F3 (v := .str eb.c1 u1) (by kernel_rfl) (ev_local F3 (v := .str ea.c1 t1) (by kernel_rfl) (PyProof.Rows.add_str (fun q1 k1 => ?_) h.l1)))
 have H1 : Gr [] s₃ { s₃ with toks := k1 } := gr_tok
 generalize ({ s₃ with toks := k1 } : Shared) = s₄ at H1 ⊢
 have F4 := F3.gr0 H1
 refine wpAny_BinOp (ev_local F4 (v := .str eb.c2 u2) (by kernel_rfl) (ev_local F4 (v := .str ea.c2 t2) (by kernel_rfl) (PyProof.Rows.add_str (fun q2 k2 => ?_) h.l2)))
 have H2 : Gr [] s₄ { s₄ with toks := k2 } := gr_tok
 generalize ({ s₄ with toks := k2 } : Shared) = s₅ at H2 ⊢
 have F5 := F4.gr0 H2
 refine wpAny_BinOp (ev_local F5 (v := .str eb.c3 u3) (by kernel_rfl) (ev_local F5 (v := .str ea.c3 t3) (by kernel_rfl) (PyProof.Rows.add_str (fun q3 k3 => ?_) h.l3)))
 have H3 : Gr [] s₅ { s₅ with toks := k3 } := gr_tok
 generalize ({ s₅ with toks := k3 } : Shared) = s₆ at H3 ⊢
 have F6 := F5.gr0 H3
 refine wpAny_BinOp (ev_local F6 (v := .str eb.c4 u4) (by kernel_rfl) (ev_local F6 (v := .str ea.c4 t4) (by kernel_rfl) (PyProof.Rows.add_str (fun q4 k4 => ?_) h.l4)))
 have H4 : Gr [] s₆ { s₆ with toks := k4 } := gr_tok
 generalize ({ s₆ with toks := k4 } : Shared) = s₇ at H4 ⊢
 have F7 := F6.gr0 H4
 have G07 : Gr [] s s₇ := G03.trans (((H1.trans H2).trans H3).trans H4)
 refine ev_callF (G07.stat0 hs) (gl_ac _) (ac_fd _) (ev_local F7 (v := .ref d) (by kernel_rfl) (ev_local F7 (v := .ref e) (by kernel_rfl) ⟨G07.stat0 hs, ?_⟩))
 have hav7 : ∀ x ∈ av, ∃ o, s₇.heap.get? x = some o := fun x hx => by obtain ⟨o, e⟩ := hav x hx; exact ⟨o, G07.k x o e⟩
 refine ac_ok hA' (G07.stat0 hs) (hac.at fun x o _ e => G07.k x o e) hd he hav7 (hta.keep hd hd' fun x o _ _ e => G07.k x o e) (htb.keep he he' fun x o _ _ e => G07.k x o e) h.hw h.hmix h.hl fun nd s₈ G8 hac8 hnd0 hnd1 ht8 => ?_
 refine ⟨by show 5 <= sizeLine; decide, fun s₉ G9 hT => ?_⟩
 have Gall : Gr [48] s s₉ := (G07.nil.trans G8).trans G9.nil
 have hT0 : s₈.heap.get? s₈.heap.objs.size = none := new_at (Nat.le_refl _)
 have hT255 : 255 <= s₈.heap.objs.size := ((G07.nil.trans G8).stat hs fun x hx => by rw [mS hx]; exact .inr (.inl rfl)).big
 generalize s₈.heap.objs.size = T at hT hT0 hT255 ⊢
 have h48 : T ≠ 48 := fun e => by
  obtain ⟨⟨o, q⟩, _⟩ := ac_48 hac8
  rw [e, q] at hT0; cases hT0
 have hT8 : s₈.heap.get? T = none := hT0
 have hTv : T ∉ av := fun hm => by
  obtain ⟨o, e⟩ := hav7 T hm
  rw [G8.keep T o (fun hm' => h48 (mS hm')) e] at hT8; cases hT8
 refine hR T s₉ Gall (hac8.at fun x o _ e => G9.k x o e) ((G07.nil.trans G8).dead (fun hm => h48 (mS hm)) hT0) ⟨T, nd, q1, q2, q3, q4, rfl, hT255, hTv, hnd1, not_mem_of_new hav7 hnd0, hT, ht8.keep hnd1 (not_mem_of_new hav7 hnd0) fun x o _ _ e => G9.k x o e⟩
end
noncomputable abbrev bareA (A : Around) : Around := ⟨A.handled, A.depth, none, none, A.units⟩
theorem Deep.bare {n : Nat} {A : Around} (h : Deep n A) : Deep n (bareA A) := ⟨h.handled, h.depth, h.units⟩
open Classical in
theorem anyTree {α : Type} {prog : Program} {w : World} {A : Around} {s : Shared} {t : Sem α} {Q : α -> Shared -> Prop} {E : Value -> Shared -> Prop} (a₀ : α) (Post : Shared -> Prop)
  (h : ∀ c (k : α -> Sem PySem.Fin) (R : Result -> Shared -> Prop), (∀ s', Post s' -> ∀ c', wpOwn (model prog w) (bareA A) c' (k a₀) (postC prog w (bareA A) R) (postE R) s') -> wpOwn (model prog w) (bareA A) c (t >>= k) (postC prog w (bareA A) R) (postE R) s)
  (hQ : ∀ s', Post s' -> Q a₀ s') : wpAny (model prog w) A t Q E s := by
 intro Γ p hΓ
 have h1 := h Γ.code (fun a => if a = a₀ then Sem.pure (.done (.ret .none)) else Sem.raise .none) (fun r s' => match r with | .ok _ => Post s' | .error _ => False)
  (fun s' hp c' => by
   have e : (if a₀ = a₀ then Sem.pure (.done (.ret .none)) else Sem.raise .none : Sem PySem.Fin) = Sem.pure (.done (.ret .none)) := if_pos rfl
   show wpOwn _ _ _ (if a₀ = a₀ then Sem.pure (.done (.ret .none)) else Sem.raise .none : Sem PySem.Fin) _ _ _
   rw [e]
   exact y_pure _ _ _ _ _ _ _ _ _ hp) Γ p rfl ⟨hΓ.1, Nat.le_trans (Nat.le_add_right _ _) hΓ.2.1, (fun _ e => nomatch e), (fun _ e => nomatch e), Nat.le_trans (Nat.le_add_left _ _) hΓ.2.2.2.2⟩
 rw [Sem.wp_bind'] at h1
 refine Sem.wp_mono _ Γ t (fun a p' s' h' => ?_) (fun _ _ _ h' => h'.elim) p s h1
 by_cases e : a = a₀
 ·subst e
  rw [if_pos rfl] at h'
  exact hQ s' h'
 ·rw [if_neg e] at h'
  exact False.elim h'
theorem tree_ok {α : Type} {b1 b2 : Bool} {w : World} {A : Around} {s : Shared} {t : Sem α} {Q : α -> Shared -> Prop} {E : Value -> Shared -> Prop} (l : List (Nat × Obj)) (n : Nat) (o : List Nat) (js1 js2 : List Nat) (a₀ : Nat -> α) (news : Nat -> List (Nat × Obj))
  (chk : ∀ dep un γ tb c (k : α -> Sem PySem.Fin), Chk (VV b1 b2 w dep un none none γ) c (t >>= k) l tb (fun _ => .go n o .done) (js1 ++ js2) (fun nb _ => ⟨none, .base, k (a₀ nb), [], objsOf l ++ objsOf (news nb)⟩)) (hj : js1.length = l.length)
  (hA : Deep 1 A) (hs : Stat b1 b2 w s.heap) (hl : Has s.heap l) (hd : ∀ p ∈ l, Dyn p.1) (nd : (l.map (·.1)).Nodup) (ok : newsOk l .nil 0 = true) (hQ : ∀ s' nb, nb + 255 = s.heap.objs.size -> Gr [] s s' -> Has s'.heap (news nb) -> Q (a₀ nb) s') : wpAny (model theProg (wW b1 b2 w)) A t Q E s := by
 obtain ⟨nb₀, hnb₀⟩ : ∃ nb, nb + 255 = s.heap.objs.size := ⟨s.heap.objs.size - 255, by have := hs.big; lia⟩
 refine anyTree (a₀ nb₀) (fun s' => Gr [] s s' /\ Has s'.heap (news nb₀)) (fun c k R hk => ?_) fun s' h => hQ s' nb₀ hnb₀ h.1 h.2
 obtain ⟨hh, dep, fr, gs, un⟩ := A
 obtain ⟨rfl, hdp, hu⟩ := hA
 refine treeBy l (fun _ => .go n o .done) (js1 ++ js2) _ hs (fun p hp => ⟨hl p hp, hd p hp⟩) nd ok hdp hu (fun _ => trivial) (chk dep un _ s.toks c k) ?_
 intro nb xs st hnb _ hsee
 obtain rfl : nb = nb₀ := Nat.add_right_cancel (hnb.trans hnb₀.symm)
 have e := See.mk.inj hsee
 refine endTree e.1 e.2.1 e.2.2.1 fun s' R' => ?_
 obtain ⟨e1, e2⟩ := seeSplit e.2.2.2.2 (by rw [hj]; simp [objsOf])
 have h1 := (seeHas R' _ _ e1).1
 exact hk s' ⟨((R'.eff (n := 0) e.2.2.2.1).forget rfl hl h1).gr, (seeHas R' _ _ e2).1⟩ _
section
variable {b1 b2 : Bool} {w : World} {A : Around} {s : Shared} {E : Value -> Shared -> Prop} {bk dd ep : Nat} {L : DL}
theorem one_has {h : Heap} {a : Nat} {o : Obj} (e : h.get? a = some o) : Has h [(a, o)] := fun p hp => by rw [mS hp]; exact e
theorem one_dyn {a : Nat} {o : Obj} : ∀ p ∈ [(a + 255, o)], Dyn p.1 := fun p hp => by rw [mS hp]; exact dyn255 _
theorem bk_inpy {Q : Bool -> Shared -> Prop} (hA : Deep 1 A) (hs : Stat b1 b2 w s.heap) (hb : s.heap.get? (bk + 255) = some (bkObj (wW b1 b2 w) dd L ep)) (hQ : ∀ s', Gr [] s s' -> Q false s') : wpAny (model theProg (wW b1 b2 w)) A (getitemInPython (.ref (bk + 255))) Q E s :=
 tree_ok [(bk + 255, bkObj (wW b1 b2 w) dd L ep)] 4 [1, 0, 0, 0] [0] [] (fun _ => false) (fun _ => []) (fun dep un γ tb c k => by intro nb xs; cases b1 <;> cases b2 <;> kernel_rfl) rfl hA hs (one_has hb) one_dyn (by simp) rfl fun s' nb _ G _ => hQ s' G
theorem bk_seqg {k : Str} {t : Tok} {Q : Value -> Shared -> Prop} (hA : Deep 1 A) (hs : Stat b1 b2 w s.heap) (hb : s.heap.get? (bk + 255) = some (bkObj (wW b1 b2 w) dd L ep)) (hQ : ∀ s', Gr [] s s' -> Q (.str k t) s') : wpAny (model theProg (wW b1 b2 w)) A (sequenceKey (.ref (bk + 255)) (.str k t) "__getitem__") Q E s :=
 tree_ok [(bk + 255, bkObj (wW b1 b2 w) dd L ep)] 2 [1, 0] [0] [] (fun _ => .str k t) (fun _ => []) (fun dep un γ tb c kk => by intro nb xs; cases b1 <;> cases b2 <;> kernel_rfl) rfl hA hs (one_has hb) one_dyn (by simp) rfl fun s' nb _ G _ => hQ s' G
theorem bk_seqs {k : Str} {t : Tok} {Q : Value -> Shared -> Prop} (hA : Deep 1 A) (hs : Stat b1 b2 w s.heap) (hb : s.heap.get? (bk + 255) = some (bkObj (wW b1 b2 w) dd L ep)) (hQ : ∀ s', Gr [] s s' -> Q (.str k t) s') : wpAny (model theProg (wW b1 b2 w)) A (sequenceKey (.ref (bk + 255)) (.str k t) "__setitem__") Q E s :=
 tree_ok [(bk + 255, bkObj (wW b1 b2 w) dd L ep)] 2 [1, 0] [0] [] (fun _ => .str k t) (fun _ => []) (fun dep un γ tb c kk => by intro nb xs; cases b1 <;> cases b2 <;> kernel_rfl) rfl hA hs (one_has hb) one_dyn (by simp) rfl fun s' nb _ G _ => hQ s' G
theorem bk_spg {Q : Option Value -> Shared -> Prop} (hA : Deep 1 A) (hs : Stat b1 b2 w s.heap) (hb : s.heap.get? (bk + 255) = some (bkObj (wW b1 b2 w) dd L ep)) (hQ : ∀ s', Gr [] s s' -> Q (some (.builtin "dict.__getitem__")) s') : wpAny (model theProg (wW b1 b2 w)) A (specialOf (.ref (bk + 255)) "__getitem__") Q E s :=
 tree_ok [(bk + 255, bkObj (wW b1 b2 w) dd L ep)] 4 [1, 0, 0, 0] [0] [] (fun _ => some (.builtin "dict.__getitem__")) (fun _ => []) (fun dep un γ tb c k => by intro nb xs; cases b1 <;> cases b2 <;> kernel_rfl) rfl hA hs (one_has hb) one_dyn (by simp) rfl fun s' nb _ G _ => hQ s' G
theorem bk_sps {Q : Option Value -> Shared -> Prop} (hA : Deep 1 A) (hs : Stat b1 b2 w s.heap) (hb : s.heap.get? (bk + 255) = some (bkObj (wW b1 b2 w) dd L ep)) (hQ : ∀ s', Gr [] s s' -> Q (some (.builtin "dict.__setitem__")) s') : wpAny (model theProg (wW b1 b2 w)) A (specialOf (.ref (bk + 255)) "__setitem__") Q E s :=
 tree_ok [(bk + 255, bkObj (wW b1 b2 w) dd L ep)] 4 [1, 0, 0, 0] [0] [] (fun _ => some (.builtin "dict.__setitem__")) (fun _ => []) (fun dep un γ tb c k => by intro nb xs; cases b1 <;> cases b2 <;> kernel_rfl) rfl hA hs (one_has hb) one_dyn (by simp) rfl fun s' nb _ G _ => hQ s' G
theorem bk_sph {Q : Option Value -> Shared -> Prop} (hA : Deep 1 A) (hs : Stat b1 b2 w s.heap) (hb : s.heap.get? (bk + 255) = some (bkObj (wW b1 b2 w) dd L ep)) (hQ : ∀ s', Gr [] s s' -> Q (some (.builtin "dict.__contains__")) s') : wpAny (model theProg (wW b1 b2 w)) A (specialOf (.ref (bk + 255)) "__contains__") Q E s :=
 tree_ok [(bk + 255, bkObj (wW b1 b2 w) dd L ep)] 4 [1, 0, 0, 0] [0] [] (fun _ => some (.builtin "dict.__contains__")) (fun _ => []) (fun dep un γ tb c k => by intro nb xs; cases b1 <;> cases b2 <;> kernel_rfl) rfl hA hs (one_has hb) one_dyn (by simp) rfl fun s' nb _ G _ => hQ s' G
theorem bk_iter {Q : Value -> Shared -> Prop} (hA : Deep 1 A) (hs : Stat b1 b2 w s.heap) (hb : s.heap.get? (bk + 255) = some (bkObj (wW b1 b2 w) dd L ep))
  (hQ : ∀ I s', Gr [] s s' -> s.heap.get? I = none -> s'.heap.get? I = some { cls := .type "dict_keyiterator", data := .fields #[.ref (bk + 255), .int 0 0, .int L.length 0, .int ep 0] } -> Q (.ref I) s') : wpAny (model theProg (wW b1 b2 w)) A (pyIter (.ref (bk + 255))) Q E s :=
 tree_ok [(bk + 255, bkObj (wW b1 b2 w) dd L ep)] 21 [1, 0, 0, 0, 1, 0, 0, 0, 1, 0, 1, 1, 0, 1, 1, 2] [0] [1] (fun nb => .ref (nb + 255 + 0)) (fun nb => [(nb + 255 + 0, { cls := .type "dict_keyiterator", data := .fields #[.ref (bk + 255), .int 0 0, .int (ents (wW b1 b2 w) L).size 0, .int ep 0] })])
  (fun dep un γ tb c k => by intro nb xs; cases b1 <;> cases b2 <;> kernel_rfl) rfl hA hs (one_has hb) one_dyn (by simp) rfl fun s' nb hnb G hn => hQ _ s' G (new_at (by lia)) (by rw [<- ents_size (wW b1 b2 w) L]; exact hn _ (.head _))
theorem key122 {Q : Keeper -> Shared -> Prop} (hA : Deep 1 A) (hs : Stat b1 b2 w s.heap) (hQ : ∀ s', Gr [] s s' -> Q .machine s') : wpAny (model theProg (wW b1 b2 w)) A (keeperOf (.ref 122)) Q E s :=
 tree_ok [] 2 [0, 0] [] [] (fun _ => .machine) (fun _ => []) (fun dep un γ tb c k => by intro nb xs; cases b1 <;> cases b2 <;> kernel_rfl) rfl hA hs (fun _ h => nomatch h) (fun _ h => nomatch h) .nil rfl fun s' nb _ G _ => hQ s' G
noncomputable abbrev gaCode (a : Nat) (n : Str) (v : Tok) : Code := .call (.builtin "tuple.__getattribute__") ⟨[.ref (a + 255), .str n v], []⟩
noncomputable abbrev orcGa : List Nat := [1, 0, 1, 0, 0, 0, 0, 0, 0, 0, 0, 0, 0, 0, 0, 0, 0, 0, 0, 2, 2, 2, 2, 2, 2, 0, 2, 0, 0, 0, 0, 2, 1, 0, 0, 0, 0, 0, 0, 2, 2, 0, 0, 0, 0, 0, 0, 0, 0, 0, 0, 0, 0, 1, 0, 1]
set_option maxHeartbeats 4000000 in
theorem ga1_check (b1 b2 : Bool) (w : World) (dep un : Nat) (fr : Option (List Env)) (gs : Option (List Code)) (γ tb a d t u v : Nat) (x y : Str) :
  Chk (VV b1 b2 w dep un fr gs γ) (gaCode a "name" v) (den (gaCode a "name" v)) [(a + 255, pairObj d x t y u)] tb (fun _ => .go 108 orcGa .done) [0] (fun _ _ => ⟨none, .base, .pure (.done (.ret (.str x t))), [], objsOf [(a + 255, pairObj d x t y u)]⟩) := by
 intro nb xs
 cases b1 <;> cases b2 <;> kernel_rfl
set_option maxHeartbeats 4000000 in
theorem ga2_check (b1 b2 : Bool) (w : World) (dep un : Nat) (fr : Option (List Env)) (gs : Option (List Code)) (γ tb a d t u v : Nat) (x y : Str) :
  Chk (VV b1 b2 w dep un fr gs γ) (gaCode a "value" v) (den (gaCode a "value" v)) [(a + 255, pairObj d x t y u)] tb (fun _ => .go 108 orcGa .done) [0] (fun _ _ => ⟨none, .base, .pure (.done (.ret (.str y u))), [], objsOf [(a + 255, pairObj d x t y u)]⟩) := by
 intro nb xs
 cases b1 <;> cases b2 <;> kernel_rfl
theorem tga_bind (self : Value) : bindSpecial (.builtin "tuple.__getattribute__") self = pure (.builtin "tuple.__getattribute__", [self]) := by rfl
theorem pair_attr {a d : Nat} {x y n : Str} {t u : Tok} {r : Value} {Q : Value -> Shared -> Prop} (hn : (n = "name" /\ r = .str x t) \/ (n = "value" /\ r = .str y u)) (hA : Deep 1 A) (hs : Stat b1 b2 w s.heap) (ha : s.heap.get? (a + 255) = some (pairObj d x t y u)) (hQ : ∀ s', Gr [] s s' -> Q r s') : wpAny (model theProg (wW b1 b2 w)) A (getAttr (.ref (a + 255)) n true) Q E s := by
 unfold getAttr
 refine wpAny_bind (wpAny_mkText ?_)
 have G1 : Gr [] s { s with toks := s.toks + 1 } := gr_tok
 have hs1 : Stat b1 b2 w ({ s with toks := s.toks + 1 } : Shared).heap := hs
 have ha1 : ({ s with toks := s.toks + 1 } : Shared).heap.get? (a + 255) = some (pairObj d x t y u) := ha
 generalize ({ s with toks := s.toks + 1 } : Shared) = s₁ at G1 hs1 ha1 ⊢
 generalize s.toks = tk
 unfold getAttrBy
 refine wpAny_holding ?_
 show wpAny _ _ (typeOf (.ref (a + 255)) >>= _) _ _ _
 refine wpAny_bind (tree_ok [(a + 255, pairObj d x t y u)] 1 [1] [0] [] (fun _ => .ref 217) (fun _ => []) (fun dep un γ tb c k => by intro nb xs; cases b1 <;> cases b2 <;> kernel_rfl) rfl hA hs1 (one_has ha1) one_dyn (by simp) rfl fun s₂ _ _ G2 _ => ?_)
 refine wpAny_bind (tree_ok [] 5 [0, 0, 0, 0, 0] [] [] (fun _ => some (.builtin "tuple.__getattribute__")) (fun _ => []) (fun dep un γ tb c k => by intro nb xs; cases b1 <;> cases b2 <;> kernel_rfl) rfl hA (G2.stat0 hs1) (fun _ h => nomatch h) (fun _ h => nomatch h) .nil rfl fun s₃ _ _ G3 _ => ?_)
 show wpAny _ _ (getAttrByItsOwn (.ref (a + 255)) (.str n tk) (.ref 217) (.builtin "tuple.__getattribute__") true true) _ _ _
 unfold getAttrByItsOwn
 show wpAny _ _ (typeLookup (.ref 217) "__getattr__" >>= _) _ _ _
 refine wpAny_bind (tree_ok [] 5 [0, 0, 0, 0, 0] [] [] (fun _ => none) (fun _ => []) (fun dep un γ tb c k => by intro nb xs; cases b1 <;> cases b2 <;> kernel_rfl) rfl hA (G3.stat0 (G2.stat0 hs1)) (fun _ h => nomatch h) (fun _ h => nomatch h) .nil rfl fun s₄ _ _ G4 _ => ?_)
 refine wpAny_bind (wpAny_attempt (wpAny_holding ?_))
 show wpAny _ _ (boundAndCalled (.builtin "tuple.__getattribute__") (.ref (a + 255)) (.str n tk)) _ _ _
 unfold boundAndCalled
 rw [tga_bind]
 refine wpAny_bind (wpAny_pure (wpAny_call ?_))
 have G14 := (G2.trans G3).trans G4
 have fin : ∀ s', Gr [] s₄ s' -> wpAny (model theProg (wW b1 b2 w)) A (handedOut r) Q E s' := fun s' G => by
  have : handedOut r = pure r := by rcases hn with ⟨_, rfl⟩ | ⟨_, rfl⟩ <;> rfl
  rw [this]
  exact wpAny_pure (hQ s' ((G1.trans G14).trans G))
 rcases hn with ⟨rfl, rfl⟩ | ⟨rfl, rfl⟩
 ·exact still_ok [(a + 255, pairObj d x t y u)] _ _ [0] _ (fun dep un fr gs γ tb => ga1_check b1 b2 w dep un fr gs γ tb a d t u tk x y) hA (G14.stat0 hs1) (one_has (G14.k _ _ ha1)) one_dyn (by simp) rfl fin
 ·exact still_ok [(a + 255, pairObj d x t y u)] _ _ [0] _ (fun dep un fr gs γ tb => ga2_check b1 b2 w dep un fr gs γ tb a d t u tk x y) hA (G14.stat0 hs1) (one_has (G14.k _ _ ha1)) one_dyn (by simp) rfl fin
end
section
variable {b1 b2 : Bool} {w : World} {A : Around} {s : Shared} {E : Value -> Shared -> Prop} {bk dd ep : Nat} {L : DL} {env : Env}
theorem bk_getItem {k : Str} {t : Tok} {Q : Value -> Shared -> Prop} (hA : Deep 1 A) (hs : Stat b1 b2 w s.heap) (hb : s.heap.get? (bk + 255) = some (bkObj (wW b1 b2 w) dd L ep))
  (h : ∀ s', Gr [] s s' -> codeAny (model theProg (wW b1 b2 w)) A (gitCode bk k t) (wants2 Q E) s') : wpAny (model theProg (wW b1 b2 w)) A (getItem (.ref (bk + 255)) (.str k t)) Q E s := by
 unfold getItem
 try with_reducible refine wpAny_holding ?_
 refine wpAny_bind (bk_seqg hA hs hb fun s₁ G1 => wpAny_bind ?_)
 unfold callSpecial?
 refine wpAny_bind (bk_spg hA (G1.stat0 hs) (G1.k _ _ hb) fun s₂ G2 => ?_)
 simp only [slot_dict_getitem.bind]
 exact wpAny_holding (wpAny_bind (wpAny_pure (wpAny_bind (wpAny_mono (wpAny_call (h s₂ (G1.trans G2))) (fun v s' h' => wpAny_pure (wpAny_pure h')) fun _ _ e => e))))
theorem bk_setItem {k : Str} {t : Tok} {v : Value} {Q : Unit -> Shared -> Prop} (hA : Deep 1 A) (hs : Stat b1 b2 w s.heap) (hb : s.heap.get? (bk + 255) = some (bkObj (wW b1 b2 w) dd L ep))
  (h : ∀ s', Gr [] s s' -> codeAny (model theProg (wW b1 b2 w)) A (setCode bk k t v) (wants2 (fun _ s' => Q () s') E) s') : wpAny (model theProg (wW b1 b2 w)) A (setItem (.ref (bk + 255)) (.str k t) v) Q E s := by
 unfold setItem
 try with_reducible refine wpAny_holding ?_
 refine wpAny_bind (bk_seqs hA hs hb fun s₁ G1 => wpAny_bind ?_)
 unfold callSpecial?
 refine wpAny_bind (bk_sps hA (G1.stat0 hs) (G1.k _ _ hb) fun s₂ G2 => ?_)
 simp only [slot_dict_setitem.bind]
 exact wpAny_holding (wpAny_bind (wpAny_pure (wpAny_bind (wpAny_mono (wpAny_call (h s₂ (G1.trans G2))) (fun v s' h' => wpAny_pure (wpAny_pure h')) fun _ _ e => e))))
theorem ev_subBook {value slice : Expr} {pos : Pos} {Q : Value -> Shared -> Prop} (hA : Deep 1 A) (hsl : ∀ o i, subscripted slice false o i = operate [o, i] (getItem o i))
  (h : wpAny (model theProg (wW b1 b2 w)) A (eval value env) (fun o s₁ => wpAny (model theProg (wW b1 b2 w)) A (eval slice env) (fun i s₂ => X6_5 (fun bk dd L ep k t => o = .ref (bk + 255)) (fun bk dd L ep k t => i = .str k t) (fun bk dd L ep k t => Stat b1 b2 w s₂.heap) (fun bk dd L ep k t => s₂.heap.get? (bk + 255) = some (bkObj (wW b1 b2 w) dd L ep)) (fun bk dd L ep k t => ∀ s', Gr [] s₂ s' -> codeAny (model theProg (wW b1 b2 w)) A (gitCode bk k t) (wants2 Q E) s')) E s₁) E s) :
  wpAny (model theProg (wW b1 b2 w)) A (eval (.Subscript value slice pos) env) Q E s := by
 rw [eval_Subscript]
 refine wpAny_bind (wpAny_mono h (fun o s₁ h₁ => wpAny_bind (wpAny_holding (wpAny_mono h₁ (fun i s₂ h₂ => wpAny_bind (wpAny_standAt ?_)) fun _ _ x => x))) fun _ _ x => x)
 obtain ⟨bk, dd, L, ep, k, t, rfl, rfl, hs, hb, hc⟩ := h₂
 refine wpAny_bind (bk_inpy hA hs hb fun s₃ G3 => ?_)
 rw [hsl]
 exact wpAny_bind (wpAny_operating (wpAny_mono (bk_getItem hA (G3.stat0 hs) (G3.k _ _ hb) fun s' G => hc s' (G3.trans G)) (fun r s₃ h₃ => wpAny_bind (wpAny_letTemporaryGo (wpAny_pure h₃))) fun _ _ x => x))
theorem ev_pattr {value : Expr} {n : Str} {pos : Pos} {Q : Value -> Shared -> Prop} (hA : Deep 1 A) (hbase : attributeBase value n env (eval value env) = eval value env)
  (h : wpAny (model theProg (wW b1 b2 w)) A (eval value env) (fun o s₁ => X7_5 (fun a d x y t u r => o = .ref (a + 255)) (fun a d x y t u r => Stat b1 b2 w s₁.heap) (fun a d x y t u r => s₁.heap.get? (a + 255) = some (pairObj d x t y u)) (fun a d x y t u r => ((n = "name" /\ r = .str x t) \/ (n = "value" /\ r = .str y u))) (fun a d x y t u r => ∀ s', Gr [] s₁ s' -> Q r s')) E s) :
  wpAny (model theProg (wW b1 b2 w)) A (eval (.Attribute value n pos) env) Q E s := by
 rw [arm_eval_Attribute, hbase]
 refine wpAny_bind (wpAny_mono h (fun o s₁ h₁ => wpAny_bind (wpAny_standAt ?_)) fun _ _ x => x)
 obtain ⟨a, d, x, y, t, u, r, rfl, hs, ha, hn, hQ⟩ := h₁
 exact wpAny_bind (wpAny_holding (pair_attr hn hA hs ha fun s' G => wpAny_bind (wpAny_letTemporaryGo (wpAny_pure (hQ s' G)))))
theorem ev_meth {o : Expr} {name : Str} {args : List Expr} {apos pos : Pos} {Q : Value -> Shared -> Prop} (hbase : attributeBase o name env (eval o env) = eval o env) (hline : (apos.endLine == pos.line) = true) (hform : methodCallForm (args.length + 0) (backTo pos (starEach args env)) [] = true)
  (h : wpAny (model theProg (wW b1 b2 w)) A (eval o env) (fun ov s₁ => wpAny (model theProg (wW b1 b2 w)) A (calleeOf true o env ov name) (fun p s₂ => wpAny (model theProg (wW b1 b2 w)) A (callWith pos p.1 p.2 (backTo pos (starEach args env)) []) Q E s₂) E s₁) E s) :
  wpAny (model theProg (wW b1 b2 w)) A (eval (.Call (.Attribute o name apos) args [] pos) env) Q E s := by
 show wpAny _ _ (do
  let ov <- attributeBase o name env (eval o env)
  standAt apos.atName
  methodCall o name apos pos env ov (args.length + 0) (backTo pos (starEach args env)) []) _ _ _
 rw [hbase]
 refine wpAny_bind (wpAny_mono h (fun ov s₁ h₁ => wpAny_bind (wpAny_standAt ?_)) fun _ _ x => x)
 unfold methodCall methodCallPos
 rw [hform]
 refine wpAny_bind (wpAny_holding (wpAny_mono h₁ (fun p s₂ h₂ => ?_) fun _ _ x => x))
 rw [if_pos (by rw [hline]; rfl)]
 exact wpAny_bind (wpAny_pure h₂)
end
section
variable {M : Model} {A : Around} {s : Shared} {E : Value -> Shared -> Prop}
theorem callWith_any {pos : Pos} {f : Value} {first : List Value} {args : List (Bool × Sem Value)} {Q : Value -> Shared -> Prop} (hplain : args.any (·.1) = false)
  (h : wpAny M A (evalArgs f true args []) (fun a s₁ => wpAny M A (keeperOf f) (fun _ s₂ => wpAny M A (call f (first ++ a.pos) a.kw) Q E s₂) E s₁) E s) : wpAny M A (callWith pos f first args []) Q E s := by
 unfold callWith
 refine wpAny_bind (wpAny_holding (wpAny_mono h (fun x s₁ h₁ => wpAny_bind (wpAny_standAt ?_)) fun _ _ x => x))
 simp only [hplain, List.any_nil, Bool.or_false]
 refine wpAny_bind (m := keeperOf f) (wpAny_mono h₁ (fun k s₂ h₂ => ?_) fun _ _ x => x)
 have tail : ∀ {t : Sem Value}, wpAny M A t Q E s₂ -> wpAny M A (t >>= fun r => holding [r] point >>= fun _ => pure r) Q E s₂ :=
  fun ht => wpAny_bind (wpAny_mono ht (fun r s₂ hr => wpAny_bind (wpAny_holding (wpAny_point (wpAny_pure hr)))) fun _ _ x => x)
 cases k with
 | frame =>
  dsimp only
  split
  ·exact tail h₂
  ·exact tail (by unfold callMarked; exact Calls.wpAny_keep h₂)
 | boundFrame =>
  dsimp only
  split
  ·exact tail h₂
  ·exact tail (by unfold callMarked; exact Calls.wpAny_keep h₂)
 | machine => exact tail h₂
 | caller => exact tail (wpAny_operating h₂)
end
noncomputable abbrev lbB : List Stmt := bodyOf (atB prgB 13)
noncomputable abbrev lbIn : List Stmt := forB (atB lbB 1)
noncomputable abbrev lbEnv (L : Nat) : Env := callEnvC fdBook L 239
noncomputable def lbCs (L : Nat) : List (Str × Nat) := [("given", L + 1)]
theorem lbEnv_cells (L : Nat) : (lbEnv L).cells = lbCs L := by kernel_rfl
noncomputable abbrev methPair : Obj := { cls := .type "method", data := .fields #[.ref 211, .ref 217] }
section
variable {b1 b2 : Bool} {w : World} {A : Around} {s : Shared} {E : Value -> Shared -> Prop}
theorem pp_callee {L : Nat} {p : Pos} {Q : Value × List Value -> Shared -> Prop} (hA : Deep 1 A) (hs : Stat b1 b2 w s.heap) (hQ : ∀ m s', Gr [] s s' -> s'.heap.get? (m + 255) = some methPair -> Q (.ref (m + 255), []) s') : wpAny (model theProg (wW b1 b2 w)) A (calleeOf true (.Name "Pair" p) (lbEnv L) (.ref 217) "parse") Q E s :=
 tree_ok [] 20 [0, 0, 0, 0, 0, 0, 0, 0, 0, 0, 0, 0] [] [0] (fun nb => (.ref (nb + 255 + 0), [])) (fun nb => [(nb + 255 + 0, methPair)]) (fun dep un γ tb c k => by intro nb xs; cases b1 <;> cases b2 <;> kernel_rfl) rfl hA hs (fun _ h => nomatch h) (fun _ h => nomatch h) .nil rfl fun s' nb _ G hn => hQ nb s' G (hn _ (.head _))
theorem pp_keeper {m : Nat} {Q : Keeper -> Shared -> Prop} (hA : Deep 1 A) (hs : Stat b1 b2 w s.heap) (hm : s.heap.get? (m + 255) = some methPair) (hQ : ∀ s', Gr [] s s' -> Q .boundFrame s') : wpAny (model theProg (wW b1 b2 w)) A (keeperOf (.ref (m + 255))) Q E s :=
 tree_ok [(m + 255, methPair)] 2 [1, 0] [0] [] (fun _ => .boundFrame) (fun _ => []) (fun dep un γ tb c k => by intro nb xs; cases b1 <;> cases b2 <;> kernel_rfl) rfl hA hs (one_has hm) one_dyn (by simp) rfl fun s' nb _ G _ => hQ s' G
noncomputable abbrev mpCode (m : Nat) (x : Str) (t : Tok) : Code := .call (.ref (m + 255)) ⟨[.str x t], []⟩
theorem mp_check (b1 b2 : Bool) (w : World) (dep un : Nat) (fr : Option (List Env)) (gs : Option (List Code)) (γ tb m t : Nat) (x : Str) :
  Chk (VV b1 b2 w dep un fr gs γ) (mpCode m x t) (den (mpCode m x t)) [(m + 255, methPair)] tb (fun _ => .go 1 [1] .done) [0] (fun _ _ => ⟨none, .base, .pure (.again (parseCode x t)), [], objsOf [(m + 255, methPair)]⟩) := by
 intro nb xs
 cases b1 <;> cases b2 <;> kernel_rfl
theorem mp_ok {m : Nat} {x : Str} {t : Tok} {pa pb a b : Str} {R : Result -> Shared -> Prop} (h1 : splitOk x "=" 1 pa pb = true) (h2 : stripOk pa a = true) (h3 : stripOk pb b = true) (hA : Deep 2 A) (hs : Stat b1 b2 w s.heap) (hm : s.heap.get? (m + 255) = some methPair)
  (hR : ∀ q d t u s', Gr [] s s' -> s.heap.get? (q + 255) = none -> s'.heap.get? (q + 255) = some (pairObj d a t b u) -> R (.ok (.ret (.ref (q + 255)))) s') : codeAny (model theProg (wW b1 b2 w)) A (mpCode m x t) R s := by
 have hA1 := hA.le (m := 1) (by decide)
 have hA0 := hA
 obtain ⟨hh, dep, fr, gs, un⟩ := A
 obtain ⟨hh0, hdp, hu⟩ := hA1
 dsimp only at hh0
 subst hh0
 refine codeBy [(m + 255, methPair)] (fun _ => .go 1 [1] .done) [0] _ hs (fun p hp => by rw [mS hp]; exact ⟨hm, dyn255 _⟩) (by simp) rfl hdp hu (fun _ => trivial) (mp_check b1 b2 w dep un fr gs _ s.toks m t x) ?_
 intro nb xs st hnb _ hsee
 have e := See.mk.inj hsee
 refine endAgain e.1 e.2.1 e.2.2.1 rfl fun s₁ R₁ => ?_
 have h1' := (seeHas R₁ _ _ e.2.2.2.2).1
 have G1 : Gr [] s s₁ := ((R₁.eff (n := 0) e.2.2.2.1).forget rfl (one_has hm) h1').gr
 have key := parse_ok (t := t) h1 h2 h3 _ s₁ hA0 R₁.stat
 refine codeAny_mono key fun r s' h => ?_
 obtain ⟨u, _, rfl, ef⟩ := h
 have hn := ef.new _ (.head _)
 exact hR (u.n 3) (u.n 4 + 255) (u.n 5) (u.n 6) s' (G1.trans (ef.gr rfl)) (G1.dead (fun h => nomatch h) (new_at hn.2)) hn.1
end
noncomputable def IsDL (h : Heap) (w : World) (D : Nat) (L : DL) : Prop := ∃ ep, h.get? D = some (dictO w L ep)
theorem IsDL.at {w : World} {h h' : Heap} {D : Nat} {L : DL} (x : IsDL h w D L) (k : ∀ o, h.get? D = some o -> h'.get? D = some o) : IsDL h' w D L := let ⟨ep, e⟩ := x; ⟨ep, k _ e⟩
section
variable {prog : Program} {w : World} {A : Around} {E : Value -> Shared -> Prop} {s : Shared}
theorem compLoopD_any {kx vx tg iter : Expr} {ifs : List Expr} {scope : Scope} {pos : Pos} {it : Value} {D : Nat} {env : Env} {R : Result -> Shared -> Prop} (I : Nat -> Shared -> Prop)
  (turn : ∀ n s, I n s -> wpAny (model prog w) A (pyNext it) (fun r s₁ => match r with
   | none => R (.ok .next) s₁
   | some v => wpAny (model prog w) A (letOwnedTupleGo tg it v) (fun _ s₁' => wpAny (model prog w) A (assign tg env v) (fun _ s₂ =>
     wpAny (model prog w) A (forIn ifs true fun c r => if r = true then do let ok <- isTrue c env (eval c env); pure (ForInStep.yield ok) else pure (ForInStep.yield r)) (fun ok s₃ =>
      if ok = true then wpAny (model prog w) A (eval kx env) (fun kv s₄ => wpAny (model prog w) A (eval vx env) (fun vv s₅ =>
       wpAny (model prog w) A (dictSet D kv vv) (fun _ s₆ => ∃ m, m < n /\ I m s₆) (notedBy (model prog w) A env fun e s' => R (.error e) s') s₅) (notedBy (model prog w) A env fun e s' => R (.error e) s') s₄) (notedBy (model prog w) A env fun e s' => R (.error e) s') s₃
      else ∃ m, m < n /\ I m s₃) (notedBy (model prog w) A env fun e s' => R (.error e) s') s₂) (notedBy (model prog w) A env fun e s' => R (.error e) s') s₁')
     (notedBy (model prog w) A env fun e s' => R (.error e) s') s₁) (notedBy (model prog w) A env fun e s' => R (.error e) s') s)
  (n : Nat) (h : I n s) : codeAny (model prog w) A (.compLoop (.DictComp kx vx [⟨tg, iter, ifs, 0⟩] scope pos) 0 it (.ref D) env) R s := by
 refine codeAny_loop rfl I (fun n s hI => ?_) n h
 show wpAny _ A ((compTurn (.DictComp kx vx [⟨tg, iter, ifs, 0⟩] scope pos) 0 it (.ref D) env).onRaise (fun x => do noteFrame x env; theTreesLotGoes x)) _ _ s
 refine wpAny_noted ?_
 rw [compTurn_dict]
 refine wpAny_bind (wpAny_standAt (wpAny_bind (wpAny_mono (turn n s hI) (fun r s₁ h₁ => ?_) fun _ _ h' => h')))
 cases r with
 | none => exact wpAny_pure h₁
 | some v =>
  refine wpAny_bind (wpAny_mono h₁ (fun _ s₁' h₁' => ?_) fun _ _ h' => h')
  refine wpAny_bind (wpAny_mono h₁' (fun _ s₂ h₂ => wpAny_bind (wpAny_mono h₂ (fun ok s₃ h₃ => ?_) fun _ _ h' => h')) fun _ _ h' => h')
  cases ok with
  | false => exact wpAny_pure ⟨rfl, h₃⟩
  | true =>
   exact wpAny_bind (wpAny_bind (wpAny_mono h₃ (fun kv s₄ h₄ => wpAny_bind (wpAny_holding (wpAny_mono h₄ (fun vv s₅ h₅ => wpAny_bind (wpAny_standAt (wpAny_holding (wpAny_mono h₅ (fun _ s₆ h₆ => wpAny_pure ⟨rfl, h₆⟩) fun _ _ h' => h')))) fun _ _ h' => h'))) fun _ _ h' => h'))
noncomputable def CompTurnD (prog : Program) (w : World) (A : Around) (env : Env) (scope : Scope) (cl : List (Str × Nat)) (tg kx vx : Expr) (ifs : List Expr) (wr ex : List Nat) (n : Nat) (P : Nat -> Value -> Heap -> Prop)
  (J : List Nat -> Nat -> DL -> Shared -> Prop) (s₂ : Shared) : Prop :=
 ∀ own i ys v C s₃ m cm, i < n -> s₂.heap.objs.size <= C -> (∀ a ∈ own, ∃ o, s₃.heap.get? a = some o) -> (∀ a ∈ own, a ∈ ex \/ a ∈ wr \/ s₂.heap.get? a = none) -> (∀ a ∈ frL C (cellsFrom (C + 1) scope.names []), a ∈ own) -> J own i ys s₃ ->
  (∀ b o, b ∉ wr -> s₂.heap.get? b = some o -> s₃.heap.get? b = some o) -> Fram C (cellsFrom (C + 1) scope.names []) m cm s₃ -> P i v s₃.heap -> ∀ E',
  wpAny (model prog w) A (assign tg (cEnv scope cl C env) v) (fun _ s₄ => wpAny (model prog w) A (testsOf ifs (cEnv scope cl C env)) (fun ok s₅ =>
   if ok = true then wpAny (model prog w) A (eval kx (cEnv scope cl C env)) (fun kv s₆ => wpAny (model prog w) A (eval vx (cEnv scope cl C env)) (fun y s₇ => X2_4 (fun k tk => kv = .str k tk) (fun k tk => Gr (frL C (cellsFrom (C + 1) scope.names [])) s₃ s₇) (fun k tk => J own (i + 1) (setL ys k tk y) s₇) (fun k tk => ∃ m' cm', Fram C (cellsFrom (C + 1) scope.names []) m' cm' s₇)) E' s₆) E' s₅
   else Gr (frL C (cellsFrom (C + 1) scope.names [])) s₃ s₅ /\ J own (i + 1) ys s₅ /\ ∃ m' cm', Fram C (cellsFrom (C + 1) scope.names []) m' cm' s₅) E' s₄) E' s₃
theorem comp_coreD {env : Env} {kx vx tg iter : Expr} {ifs : List Expr} {scope : Scope} {pos : Pos} {cl : List (Str × Nat)} {it : Value} {s₂ : Shared} {fp wr ex : List Nat} {n : Nat} {St : Nat -> Heap -> Prop} {P : Nat -> Value -> Heap -> Prop} {RR : Value -> Nat -> Result -> Shared -> Prop}
  (hcs : ∀ L, (cellsFrom (L + 1) scope.names []).all (fun p => (cellsFrom (L + 1) scope.names []).lookup p.1 == some p.2) = true)
  (J : List Nat -> Nat -> DL -> Shared -> Prop) (hJ : ∀ own i ys s s', J own i ys s -> Gr own s s' -> J own i ys s')
  (S : Src prog w A tg it fp wr n St P) (hsz : n <= sizeLine) (hst : St 0 s₂.heap) (hJ0 : ∀ own, J own 0 [] s₂) (hex : ∀ a ∈ ex, ∃ o, s₂.heap.get? a = some o)
  (hturn : CompTurnD prog w A env scope cl tg kx vx ifs wr ex n P J s₂)
  (hend : ∀ own D C m ys s', (∀ a ∈ ex, a ∈ own) -> D ∈ own -> C ∈ own -> J own n ys s' -> s₂.heap.objs.size <= D -> s₂.heap.get? D = none -> s₂.heap.get? C = none -> D ≠ C -> s'.heap.Ns C m -> IsDL s'.heap w D ys -> ys.length <= n -> Gr wr s₂ s' -> RR (.ref D) C (.ok .next) s') :
  wpAny (model prog w) A newDict (fun acc s₃ => wpAny (model prog w) A (newFunctionEnv scope env.globals cl [] env.qual none .none (some env)) (fun cenv s₄ =>
   codeAny (model prog w) A (.compStart (.DictComp kx vx [⟨tg, iter, ifs, 0⟩] scope pos) 0 it acc { cenv with scope := relabel scope env }) (RR acc cenv.locals) s₄) E s₃) E s₂ := by
 refine wpAny_newObj_type ?_
 generalize hs3 : ({ s₂ with heap := s₂.heap.push { cls := .type "dict", data := .dict #[] } } : Shared) = s₃
 have hC : s₃.heap.objs.size = s₂.heap.objs.size + 1 := by rw [<- hs3]; exact Heap.size_push ..
 have hD3 : IsDL s₃.heap w s₂.heap.objs.size [] := by rw [<- hs3]; exact ⟨0, Heap.get?_push_size _ rfl⟩
 have G3 : Gr [] s₂ s₃ := by rw [<- hs3]; exact gr_push (tk := s₂.toks)
 refine ev_cenv fun s₄ G4 F4 => ?_
 generalize hCe : s₃.heap.objs.size = C at F4 ⊢
 generalize hcse : cellsFrom (C + 1) scope.names [] = cs at F4 ⊢
 generalize hDe : s₂.heap.objs.size = D at hD3 hC ⊢
 show codeAny _ A (.compStart (.DictComp kx vx [⟨tg, iter, ifs, 0⟩] scope pos) 0 it (.ref D) { cEnv scope cl C env with cells := cs ++ cl }) (RR (.ref D) C) s₄
 have hce : ({ cEnv scope cl C env with cells := cs ++ cl } : Env) = cEnv scope cl C env := by rw [<- hcse]; rfl
 rw [hce]
 have hDC : D < C := by lia
 have hnew : ∀ a, D <= a -> s₂.heap.get? a = none := fun a ha => new_at (by lia)
 have hfr : ∀ a ∈ frL C cs, s₂.heap.get? a = none /\ D ≠ a := fun a ha => by have := frL_above F4 a ha; exact ⟨hnew a (by lia), by lia⟩
 have hfp : ∀ a ∈ fp, s₂.heap.get? a ≠ none := fun a ha e => by obtain ⟨o, ho⟩ := S.alive 0 _ hst a ha; rw [ho] at e; cases e
 have hDfp : D ∉ fp := fun hm => hfp D hm (hnew D (Nat.le_refl _))
 have hfrfp : ∀ a ∈ frL C cs, a ∉ fp := fun a ha hm => hfp a hm (hfr a ha).1
 have hDfr : D ∉ frL C cs := fun hm => (hfr D hm).2 rfl
 have hDwr : D ∉ wr := fun hm => hDfp (S.sub _ hm)
 have hfrwr : ∀ a ∈ frL C cs, a ∉ wr := fun a ha hm => hfrfp a ha (S.sub _ hm)
 have G24 : Gr [] s₂ s₄ := G3.trans G4
 have hcs' : ∀ p ∈ cs, cs.lookup p.1 = some p.2 := fun p hp => by
  have := hcs C
  rw [hcse] at this
  exact eq_of_beq (List.all_eq_true.mp this p hp)
 let core : List Nat := D :: (frL C cs ++ wr)
 let own : List Nat := core ++ ex
 have inD : D ∈ core := .head _
 have inF : ∀ a ∈ frL C cs, a ∈ core := fun a ha => List.mem_cons_of_mem _ (List.mem_append_left _ ha)
 have inW : ∀ a ∈ wr, a ∈ core := fun a ha => List.mem_cons_of_mem _ (List.mem_append_right _ ha)
 have inO : ∀ a ∈ core, a ∈ own := fun a ha => List.mem_append_left _ ha
 have loop : codeAny (model prog w) A (.compLoop (.DictComp kx vx [⟨tg, iter, ifs, 0⟩] scope pos) 0 it (.ref D) (cEnv scope cl C env)) (RR (.ref D) C) s₄ := by
  refine compLoopD_any (fun k s' => X4_8 (fun i ys m cm => St i s'.heap) (fun i ys m cm => IsDL s'.heap w D ys) (fun i ys m cm => Fram C cs m cm s') (fun i ys m cm => J own i ys s') (fun i ys m cm => i <= n) (fun i ys m cm => ys.length <= i) (fun i ys m cm => k = n + 1 - i) (fun i ys m cm => Gr core s₂ s')) ?_ (n + 1)
   ⟨0, [], _, _, S.frame 0 _ _ hst (fun b _ o e => G24.k b o e), hD3.at fun o e => G4.k D o e, F4, hJ _ _ _ _ _ (hJ0 own) G24.nil, Nat.zero_le _, Nat.zero_le _, rfl, G24.nil⟩
  rintro k s' ⟨i, ys, m, cm, hSt, hpl, hF, hJi, hi, hlen, rfl, hG⟩
  by_cases hlt : i < n
  ·refine wpAny_mono (S.item i s' (fun v s₅ => Gr wr s' s₅ /\ St (i + 1) s₅.heap /\ P i v s₅.heap) _ hlt hSt fun v s₅ g st p => ⟨g, st, p⟩) (fun r s₁ h₁ => ?_) fun _ _ e => e
   obtain ⟨v, rfl, h₁⟩ := h₁
   refine wpAny_mono h₁ (fun _ s₅ h₅ => ?_) fun _ _ e => e
   obtain ⟨g5, st5, p5⟩ := h₅
   have F5 : Fram C cs m cm s₅ := hF.gr g5 hfrwr
   have pl5 : IsDL s₅.heap w D ys := hpl.at fun o e => g5.keep D o hDwr e
   have hG5 : Gr core s₂ s₅ := hG.trans (g5.widen inW)
   have keep5 : ∀ b o, b ∉ wr -> s₂.heap.get? b = some o -> s₅.heap.get? b = some o := fun b o hb e => hG5.keep b o (fun hm => by
    rcases mD hm with rfl | hm
    ·rw [hnew _ (Nat.le_refl _)] at e; cases e
    rcases List.mem_append.mp hm with hm | hm
    ·rw [(hfr b hm).1] at e; cases e
    ·exact hb hm) e
   have hown5 : ∀ a ∈ own, ∃ o, s₅.heap.get? a = some o := by
    intro a ha
    rcases List.mem_append.mp ha with ha | hx
    ·rcases mD ha with rfl | ha
     ·obtain ⟨_, e⟩ := pl5; exact ⟨_, e⟩
     rcases List.mem_append.mp ha with ha | ha
     ·rcases mD ha with rfl | ha
      ·obtain ⟨o, _, _, e, _⟩ := F5.ns; exact ⟨o, e⟩
      ·obtain ⟨p, hp, rfl⟩ := List.mem_map.mp ha
       obtain ⟨o, e, _⟩ := F5.cell p.1 p.2 (hcs' p hp); exact ⟨o, e⟩
     ·exact S.alive _ _ st5 a (S.sub _ ha)
    ·by_cases hw : a ∈ wr
     ·exact S.alive _ _ st5 a (S.sub _ hw)
     ·obtain ⟨o, e⟩ := hex a hx
      exact ⟨o, keep5 a o hw e⟩
   have hox : ∀ a ∈ own, a ∈ ex \/ a ∈ wr \/ s₂.heap.get? a = none := by
    intro a ha
    rcases List.mem_append.mp ha with ha | hx
    ·rcases mC ha with e | ha
     ·rw [e]; exact .inr (.inr (hnew _ (Nat.le_refl _)))
     rcases List.mem_append.mp ha with ha | ha
     ·exact .inr (.inr (hfr a ha).1)
     ·exact .inr (.inl ha)
    ·exact .inl hx
   subst hcse
   have next : ∀ s₆, Gr (frL C (cellsFrom (C + 1) scope.names [])) s₅ s₆ -> St (i + 1) s₆.heap /\ IsDL s₆.heap w D ys /\ Gr core s₂ s₆ := fun s₆ g6 =>
    ⟨S.frame _ _ _ st5 fun b hb o e => g6.keep b o (fun hm => hfrfp b hm hb) e, pl5.at fun o e => g6.keep D o hDfr e, hG5.trans (g6.widen inF)⟩
   refine wpAny_mono (hturn own i ys v C s₅ m cm hlt (by lia) hown5 hox (fun a ha => inO a (inF a ha)) (hJ _ _ _ _ _ hJi (g5.widen fun a ha => inO a (inW a ha))) keep5 F5 p5 _) (fun _ s₄' h4 => ?_) fun _ _ e => e
   refine wpAny_mono h4 (fun ok s₆ h6 => ?_) fun _ _ e => e
   cases ok with
   | false =>
    simp only [Bool.false_eq_true, if_false] at h6 ⊢
    obtain ⟨g6, j6, m', cm', f6⟩ := h6
    obtain ⟨a1, a2, a3⟩ := next s₆ g6
    exact ⟨n + 1 - (i + 1), by lia, i + 1, ys, m', cm', a1, a2, f6, j6, hlt, by lia, rfl, a3⟩
   | true =>
    simp only [if_true] at h6 ⊢
    refine wpAny_mono h6 (fun kv s₆' h6' => wpAny_mono h6' (fun y s₇ h7 => ?_) fun _ _ e => e) fun _ _ e => e
    obtain ⟨k, tk, rfl, g6, j6, m', cm', f6⟩ := h7
    obtain ⟨a1, ⟨ep, a2⟩, a3⟩ := next s₇ g6
    refine wpAny_setL a2 rfl (by lia) fun h₈ hl₈ hs₈ _ => ?_
    have g8 : Gr [D] s₇ { s₇ with heap := h₈, toks := s₇.toks + 1 } := gr_same (tk := s₇.toks + 1) hs₈
    have hlen' := setL_len ys k tk y
    refine ⟨n + 1 - (i + 1), by lia, i + 1, setL ys k tk y, m', cm', S.frame _ _ _ a1 fun b hb o e => hs₈.extBut b o (fun q => hDfp (q ▸ hb)) e, ⟨_, hl₈⟩, f6.gr g8 fun a ha hm => ?_, hJ _ _ _ _ _ j6 (g8.widen fun a ha => by rw [mS ha]; exact inO _ inD), hlt, by lia, rfl,
     a3.trans (g8.widen fun a ha => by rw [mS ha]; exact inD)⟩
    rw [mS hm] at ha
    exact hDfr ha
  ·have hin : i = n := by lia
   subst hin
   refine wpAny_mono (S.done s' (fun s₅ => Gr wr s' s₅) _ hSt fun s₅ g => g) (fun r s₅ h₅ => ?_) fun _ _ e => e
   obtain ⟨rfl, g5⟩ := h₅
   have F5 : Fram C cs m cm s₅ := hF.gr g5 hfrwr
   refine hend own D C m ys s₅ (fun a ha => List.mem_append_right _ ha) (inO _ inD) (inO _ (inF _ (.head _))) (hJ _ _ _ _ _ hJi (g5.widen fun a ha => inO a (inW a ha))) (Nat.le_of_eq hDe) (hnew D (Nat.le_refl _)) (hfr C (.head _)).1 (Nat.ne_of_lt hDC) F5.ns (hpl.at fun o e => g5.keep D o hDwr e) hlen
    ((hG.trans (g5.widen inW)).shrink fun a ha => ?_)
   rcases mD ha with rfl | ha
   ·exact .inr (hnew _ (Nat.le_refl _))
   rcases List.mem_append.mp ha with ha | ha
   ·exact .inr (hfr a ha).1
   ·exact .inl ha
 exact codeAny_compStart_dict loop (S.self 0 _ _ _ (S.frame 0 _ _ hst (fun b _ o e => G24.k b o e)) loop)
noncomputable def CompAtD (prog : Program) (w : World) (A : Around) (env : Env) (scope : Scope) (cl : List (Str × Nat)) (tg kx vx : Expr) (ifs : List Expr) (ex : List Nat) (K : List Nat -> Shared -> List Nat -> Nat -> DL -> Shared -> Prop) (it : Value) (s₂ : Shared) : Prop :=
 ∃ J : List Nat -> Nat -> DL -> Shared -> Prop, (∀ own i ys s s', J own i ys s -> Gr own s s' -> J own i ys s') /\ X5_7 (fun fp wr n St P => Src prog w A tg it fp wr n St P) (fun fp wr n St P => n <= sizeLine) (fun fp wr n St P => St 0 s₂.heap) (fun fp wr n St P => (∀ own, J own 0 [] s₂)) (fun fp wr n St P => (∀ a ∈ ex, ∃ o, s₂.heap.get? a = some o)) (fun fp wr n St P => CompTurnD prog w A env scope cl tg kx vx ifs wr ex n P J s₂) (fun fp wr n St P => ∀ own D ys s', (∀ a ∈ ex, a ∈ own) -> D ∈ own -> J own n ys s' -> s₂.heap.objs.size <= D -> s₂.heap.get? D = none -> IsDL s'.heap w D ys -> ys.length <= n -> K wr s₂ own D ys s')
theorem asg_compD {m cm : Str -> Option Value} {env : Env} {kx vx tg iter : Expr} {ifs : List Expr} {scope : Scope} {pos spos py : Pos} {y : Str} {Q : Flow -> Shared -> Prop} {cl : List (Str × Nat)} {cs : List (Str × Nat)} (ex : List Nat)
  (hsw : swapsWith (.DictComp kx vx [⟨tg, iter, ifs, 0⟩] scope pos) (some (.Name y py)) spos.line env = pure true) (hy : env.kindOf y = some .local) (hek : env.scope.kind = .function)
  (hclos : closureFor scope env = pure cl) (hkind : scope.kind = .function) (hnames : ∀ x ∈ scope.names, x.2 = .local -> scope.names.lookup x.1 = some .local)
  (hcs : ∀ L, (cellsFrom (L + 1) scope.names []).all (fun p => (cellsFrom (L + 1) scope.names []).lookup p.1 == some p.2) = true)
  (hL : env.locals ∈ ex) (hcsO : ∀ p ∈ cs, cs.lookup p.1 = some p.2)
  (h : wpAny (model prog w) A (eval iter env) (fun x s₁ => wpAny (model prog w) A (pyIter x) (CompAtD prog w A env scope cl tg kx vx ifs ex (fun wr s₂ own D ys s' => Fram env.locals cs m cm s₂ /\ (∀ a ∈ frL env.locals cs, a ∉ wr) /\
   (Gr (env.locals :: wr) s₂ s' -> Fram env.locals cs (fun z => if z = y then some (.ref D) else m z) cm s' -> Q .next s'))) E s₁) E s)
  (hs : autoParam (∀ x, foldedSetIterable iter env x = pure x) byRfl) :
  wpAny (model prog w) A (PySem.exec (.Assign [.Name y py] (.DictComp kx vx [⟨tg, iter, ifs, 0⟩] scope pos) spos) env) Q E s := by
 rw [exec_Assign_Name_used _ _ _ _ hsw]
 refine wpAny_bind (wpAny_standAt (wpAny_bind ?_))
 show wpAny _ A (do let _ <- comprehension (.DictComp kx vx [⟨tg, iter, ifs, 0⟩] scope pos) scope env _ newDict false (eval iter env) (some (assign (.Name y py) env))) _ _ s
 refine wpAny_bind (wpAny_mono (wpAny_comprehension_free (use := some (assign (.Name y py) env)) (Q := fun _ s' => Q .next s') rfl hs hclos hkind hnames
  (wpAny_mono h (fun x s₁ h₁ => wpAny_mono h₁ (fun it s₂ h₂ => ?_) fun _ _ e => e) fun _ _ e => e)) (fun _ s' h' => wpAny_pure (wpAny_pure h')) fun _ _ e => e)
 obtain ⟨J, hJ, fp, wr, n, St, P, S, hsz, hst, hJ0, hex, hturn, hend⟩ := h₂
 refine comp_coreD (ex := ex) (RR := fun acc C => compPost (model prog w) A E (some (assign (.Name y py) env)) (fun _ s' => Q .next s') acc C) hcs J hJ S hsz hst hJ0 hex hturn fun own D C m' ys s' hxo hD hC hJn hDs hD0 hC0 hDC hns hpl hlen hG => ?_
 show wpAny _ A (assign (.Name y py) env (.ref D)) _ _ s'
 have key : ∀ s₆, Gr [env.locals, C] s' s₆ -> Gr (env.locals :: wr) s₂ s₆ := fun s₆ g => ((hG.widen fun a ha => List.mem_cons_of_mem C (List.mem_cons_of_mem _ ha)).trans (g.widen fun a ha => by
   rcases mD ha with rfl | ha
   ·exact List.mem_cons_of_mem _ (.head _)
   ·rw [mS ha]; exact .head _)).shrink fun a ha => by
   rcases mD ha with rfl | ha
   ·exact .inr hC0
   ·exact .inl ha
 have hLC : env.locals ≠ C := fun e => by obtain ⟨o, ho⟩ := hex _ hL; rw [e, hC0] at ho; cases ho
 have hLD : D ≠ env.locals := fun e => by obtain ⟨o, ho⟩ := hex _ hL; rw [<- e, hD0] at ho; cases ho
 have fin := fun s₆ (g : Gr [env.locals, C] s' s₆) => hend own D ys s₆ hxo hD (hJ _ _ _ _ _ hJn (g.widen fun a ha => by
   rcases mD ha with rfl | ha
   ·exact hxo _ hL
   ·rw [mS ha]; exact hC)) hDs hD0 (hpl.at fun o e => g.keep D o (fun hm => by
   rcases mC hm with e' | hm
   ·exact hLD e'
   ·exact hDC (mS hm)) e) hlen
 obtain ⟨F, hFw, _⟩ := fin s' (.refl _)
 have F' : Fram env.locals cs m cm s' := F.gr hG hFw
 have hCn : ∀ a ∈ frL env.locals cs, a ≠ C := fun a ha e => by
  subst e
  rcases mC ha with e | ha
  ·exact hLC e.symm
  ·obtain ⟨p, hp, e⟩ := List.mem_map.mp ha
   obtain ⟨o, ho, _⟩ := F.cell p.1 p.2 (hcsO p hp)
   rw [e, hC0] at ho; cases ho
 refine wpAny_assign_Name (F'.set hek hy fun s₅ g5 F5 => ?_)
 refine ⟨m', hns.at' fun o e => g5.keep C o (fun hm => hLC (mS hm).symm) e, fun h₆ hs₆ => ?_⟩
 have g6 : Gr [C] s₅ { s₅ with heap := h₆ } := gr_same (tk := s₅.toks) hs₆
 have F6 : Fram env.locals cs (fun z => if z = y then some (.ref D) else m z) cm { s₅ with heap := h₆ } := F5.gr g6 fun a ha hm => hCn a ha (mS hm)
 have g7 := (g5.widen (own' := [env.locals, C]) fun a ha => by rw [mS ha]; exact .head _).trans (g6.widen fun a ha => by rw [mS ha]; exact .tail _ (.head _))
 exact (fin _ g7).2.2 (key _ g7) F6
end
section
variable {b1 b2 : Bool} {w : World} {A : Around} {s : Shared} {E : Value -> Shared -> Prop}
theorem ev_parse {L : Nat} {arg : Expr} {np apos pos : Pos} {Q : Value -> Shared -> Prop} (hA : Deep 2 A) (hs : Stat b1 b2 w s.heap) (hline : (apos.endLine == pos.line) = true) (hst : starEach [arg] (lbEnv L) = [(false, eval arg (lbEnv L))])
  (h : ∀ s₁, Gr [] s s₁ -> wpAny (model theProg (wW b1 b2 w)) A (eval arg (lbEnv L)) (fun v s₂ => X6_6 (fun x t pa pb a b => v = .str x t) (fun x t pa pb a b => splitOk x "=" 1 pa pb = true) (fun x t pa pb a b => stripOk pa a = true) (fun x t pa pb a b => stripOk pb b = true) (fun x t pa pb a b => Gr [] s₁ s₂) (fun x t pa pb a b => ∀ q d t u s', Gr [] s₂ s' -> s₂.heap.get? (q + 255) = none -> s'.heap.get? (q + 255) = some (pairObj d a t b u) -> Q (.ref (q + 255)) s')) E s₁) :
  wpAny (model theProg (wW b1 b2 w)) A (eval (.Call (.Attribute (.Name "Pair" np) "parse" apos) [arg] [] pos) (lbEnv L)) Q E s := by
 have hA1 : Deep 1 A := hA.le (by decide)
 refine ev_meth rfl hline (by rw [hst]; rfl) (ev_glob hs (gl_pair _) (pp_callee hA1 hs fun m s₁ G1 hm => ?_))
 rw [hst]
 refine callWith_any rfl (evalArgs_plain (spliced_cons (wpAny_mono (h s₁ G1) (fun v s₂ h₂ => spliced_nil ?_) fun _ _ e => e)))
 obtain ⟨x, t, pa, pb, a, b, rfl, q1, q2, q3, G2, hQ⟩ := h₂
 have hs2 := G2.stat0 (G1.stat0 hs)
 refine pp_keeper hA1 hs2 (G2.k _ _ hm) fun s₃ G3 => wpAny_call (mp_ok q1 q2 q3 hA (G3.stat0 hs2) (G3.k _ _ (G2.k _ _ hm)) fun q d t u s' G hn hp => ?_)
 exact hQ q d t u s' (G3.trans G) (G3.dead (fun h => nomatch h) hn) hp
theorem plusS {a b : Str} {t u : Tok} {Q : Value -> Shared -> Prop} (hl : a.length + b.length <= sizeLine) (h : ∀ t' s', Gr [] s s' -> Q (.str (a ++ b) t') s') : wpAny (model theProg w) A (binaryOp .Add (.str a t) (.str b u)) Q E s :=
 PyProof.Rows.add_str (fun t' tk => h t' _ gr_tok) hl
end
noncomputable abbrev BookT := List (Str × Ent)
noncomputable def getE (B : BookT) (k : Str) : Option Ent := (B.find? (fun p => decide (p.1 = k))).map (·.2)
noncomputable def setE : BookT -> Str -> Ent -> BookT
 | [], k, v => [(k, v)]
 | p :: L, k, v => if p.1 = k then (p.1, v) :: L else p :: setE L k v
noncomputable abbrev RowB (av : List Nat) (w : World) (h : Heap) (p : Str × Tok × Value) (q : Str × Ent) : Prop := p.1 = q.1 /\ EntAv av w h p.2.2 q.2
theorem get_rowB {av : List Nat} {w : World} {h : Heap} {k : Str} : ∀ {L : DL} {B : BookT}, Paired (RowB av w h) L B -> (getL L k = none /\ getE B k = none) \/ X2_3 (fun v e => getL L k = some v) (fun v e => getE B k = some e) (fun v e => EntAv av w h v e)
 | _, _, .nil => .inl ⟨rfl, rfl⟩
 | _, _, .cons (a := a) (b := b) (l₁ := l) (l₂ := r) hr hs => by
  by_cases h1 : a.1 = k
  ·have h2 : b.1 = k := hr.1 ▸ h1
   refine .inr ⟨a.2.2, b.2, ?_, ?_, hr.2⟩
   ·unfold getL; rw [List.find?_cons_of_pos (by simpa using h1)]; rfl
   ·unfold getE; rw [List.find?_cons_of_pos (by simpa using h2)]; rfl
  ·have h2 : ¬ b.1 = k := fun e => h1 (hr.1.trans e)
   have e1 : getL (a :: l) k = getL l k := by unfold getL; rw [List.find?_cons_of_neg (by simpa using h1)]
   have e2 : getE (b :: r) k = getE r k := by unfold getE; rw [List.find?_cons_of_neg (by simpa using h2)]
   rw [e1, e2]; exact get_rowB hs
theorem set_rowB {av : List Nat} {w : World} {h : Heap} {k : Str} {tk : Tok} {v : Value} {e : Ent} (hv : EntAv av w h v e) : ∀ {L : DL} {B : BookT}, Paired (RowB av w h) L B -> Paired (RowB av w h) (setL L k tk v) (setE B k e)
 | _, _, .nil => .cons ⟨rfl, hv⟩ .nil
 | _, _, .cons (a := a) (b := b) (l₁ := l) (l₂ := r) hr hs => by
  by_cases h1 : a.1 = k
  ·have h2 : b.1 = k := hr.1 ▸ h1
   rw [show setL (a :: l) k tk v = (a.1, a.2.1, v) :: l by simp [setL, h1], show setE (b :: r) k e = (b.1, e) :: r by simp [setE, h2]]
   exact .cons ⟨hr.1, hv⟩ hs
  ·have h2 : ¬ b.1 = k := fun e => h1 (hr.1.trans e)
   rw [show setL (a :: l) k tk v = a :: setL l k tk v by simp [setL, h1], show setE (b :: r) k e = b :: setE r k e by simp [setE, h2]]
   exact .cons hr (set_rowB hv hs)
theorem RowB.keep {av : List Nat} {w : World} {h h' : Heap} {L : DL} {B : BookT} (k : ∀ a o, 255 <= a -> a ∉ av -> h.get? a = some o -> h'.get? a = some o) (p : Paired (RowB av w h) L B) : Paired (RowB av w h') L B :=
 Paired.imp (fun _ _ x => ⟨x.1, x.2.keep k⟩) p
noncomputable def ent0 : Ent := ⟨"", "", "", "", []⟩
noncomputable def giv (r : Rc) (c : Str) : T := if c = "p" then .p r.c1 r.c2 else if c = "q" then .p r.c3 r.c4 else .s r.c2
noncomputable def tabOf (r : Rc) : Tab := r.cs.foldl (fun acc c => setT acc c (giv r c)) []
noncomputable def srcE (r : Rc) : Ent := ⟨r.c1, r.c2, r.c3, r.c4, tabOf r⟩
noncomputable def lookE (B : BookT) (k : Str) : BookT := match getE B k with
 | some _ => B
 | none => setE B k ent0
noncomputable def stepB (B : BookT) (r : Rc) : BookT := if r.c2 = "" then lookE B r.owner else setE (lookE B r.owner) r.owner (addE ((getE B r.owner).getD ent0) (srcE r))
noncomputable def bookOf (rs : List Rc) : BookT := rs.foldl stepB []
section
variable {b1 b2 : Bool} {w : World} {A : Around} {s : Shared} {E : Value -> Shared -> Prop}
theorem ev_look {value slice : Expr} {env : Env} {pos : Pos} {Q : Value -> Shared -> Prop} (hA : Deep 4 A) (hsl : ∀ o i, subscripted slice false o i = operate [o, i] (getItem o i))
  (h : wpAny (model theProg (wW b1 b2 w)) A (eval value env) (fun o s₁ => wpAny (model theProg (wW b1 b2 w)) A (eval slice env) (fun i s₂ => X8_10 (fun bk dd L ep k t av B => o = .ref (bk + 255)) (fun bk dd L ep k t av B => i = .str k t) (fun bk dd L ep k t av B => Stat b1 b2 w s₂.heap) (fun bk dd L ep k t av B => s₂.heap.get? (bk + 255) = some (bkObj (wW b1 b2 w) (dd + 255) L ep)) (fun bk dd L ep k t av B => s₂.heap.get? (dd + 255) = some dict0) (fun bk dd L ep k t av B => L.length <= sizeLine) (fun bk dd L ep k t av B => (∀ a ∈ av, ∃ o, s₂.heap.get? a = some o)) (fun bk dd L ep k t av B => bk + 255 ∈ av) (fun bk dd L ep k t av B => Paired (RowB av (wW b1 b2 w) s₂.heap) L B) (fun bk dd L ep k t av B => ∀ v L' ep' s', Gr [bk + 255] s₂ s' -> s'.heap.get? (bk + 255) = some (bkObj (wW b1 b2 w) (dd + 255) L' ep') -> L'.length <= L.length + 1 -> Paired (RowB av (wW b1 b2 w) s'.heap) L' (lookE B k) -> EntAv av (wW b1 b2 w) s'.heap v ((getE B k).getD ent0) -> Q v s')) E s₁) E s) :
  wpAny (model theProg (wW b1 b2 w)) A (eval (.Subscript value slice pos) env) Q E s := by
 refine ev_subBook (hA.le (by decide)) hsl (wpAny_mono h (fun o s₁ h₁ => wpAny_mono h₁ (fun i s₂ h₂ => ?_) fun _ _ e => e) fun _ _ e => e)
 obtain ⟨bk, dd, L, ep, k, t, av, B, rfl, rfl, hs, hb, hdd, hsz, hav, hbk, hp, hQ⟩ := h₂
 refine ⟨bk, dd + 255, L, ep, k, t, rfl, rfl, hs, hb, fun s₃ G3 => ?_⟩
 have hs3 := G3.stat0 hs
 rcases get_rowB (k := k) hp with ⟨h1, h2⟩ | ⟨v, e, h1, h2, h3⟩
 ·refine codeAny_mono (missB_ok (jd := 0) (jb := 1) h1 hsz A s₃ hA hs3 (fun p hp => by
   simp only [xMissG, List.mem_cons, List.not_mem_nil, or_false] at hp
   rcases hp with rfl | rfl
   ·exact G3.k _ _ hdd
   ·exact G3.k _ _ hb)) fun r s' h => ?_
  obtain ⟨u, _, rfl, ef⟩ := h
  have hset := ef.set _ (.head _)
  have hn1 := ef.new _ (.head _)
  have hn2 := ef.new _ (.tail _ (.head _))
  have Gm : Gr [bk + 255] s₃ s' := ef.gr' fun p hp => by
   simp only [xMissG, List.mem_cons, List.not_mem_nil, or_false] at hp
   rw [hp]; exact .head _
  have G' : Gr [bk + 255] s₂ s' := G3.nil.trans Gm
  have hav3 : ∀ a ∈ av, ∃ o, s₃.heap.get? a = some o := fun a ha => by obtain ⟨o, e⟩ := hav a ha; exact ⟨o, G3.k a o e⟩
  have hl : lookE B k = setE B k ent0 := by unfold lookE; rw [h2]
  have he : EntAv av (wW b1 b2 w) s'.heap (.ref (u.n 3 + 255)) ent0 := ⟨_, _, _, _, _, _, rfl, Nat.le_add_left _ _, not_mem_of_new hav3 (new_at hn1.2), Nat.le_add_left _ _, not_mem_of_new hav3 (new_at hn2.2), hn1.1, ⟨[], 0, hn2.1, .nil⟩⟩
  refine hQ _ _ _ s' G' hset (setL_len ..) ?_ (by rw [h2]; exact he)
  rw [hl]
  exact set_rowB he (RowB.keep (fun a o _ ha e => G'.keep a o (fun hm => ha (by rw [mS hm]; exact hbk)) e) hp)
 ·refine codeAny_mono (hit_ok (jb := 0) (dd := dd) h1 A s₃ (hA.le (by decide)) hs3 (fun p hp => by
   have hp' : p = (0, bk + 255, bkObj (wW b1 b2 w) (dd + 255) L ep) := by simpa [xHit, xPureN] using hp
   rw [hp']; exact G3.k _ _ hb)) fun r s' h => ?_
  obtain ⟨u, _, rfl, ef⟩ := h
  have G' : Gr [] s₂ s' := G3.trans (ef.gr rfl)
  have hl : lookE B k = B := by unfold lookE; rw [h2]
  refine hQ v L ep s' G'.nil (G'.k _ _ hb) (by lia) ?_ (by rw [h2]; exact h3.keep fun a o _ _ e => G'.k a o e)
  rw [hl]
  exact RowB.keep (fun a o _ _ e => G'.k a o e) hp
end
section
variable {b1 b2 : Bool} {w : World} {A : Around} {s : Shared} {E : Value -> Shared -> Prop}
theorem ev_given {L q1 d1 q2 : Nat} {m cm : Str -> Option Value} {a b : Str} {t u : Tok} {k1 k2 k3 : Nat} {p1 p2 p3 p4 p5 p6 p7 pos : Pos} {Q : Value -> Shared -> Prop} (hA : Deep 1 A) (hs : Stat b1 b2 w s.heap) (F : Fram L (lbCs L) m cm s) (h1 : m "one" = some (.ref (q1 + 255))) (h2 : m "two" = some (.ref (q2 + 255)))
  (hp : s.heap.get? (q1 + 255) = some (pairObj d1 a t b u))
  (hQ : ∀ D s', Gr [] s s' -> s.heap.get? D = none -> s'.heap.DictOf (PySem.strKind theProg (wW b1 b2 w)) D [("p", .ref (q1 + 255)), ("q", .ref (q2 + 255)), ("r", .str b u)] -> Q (.ref D) s') :
  wpAny (model theProg (wW b1 b2 w)) A (eval (.Dict [some (.Constant (.str "p") k1 p1), some (.Constant (.str "q") k2 p2), some (.Constant (.str "r") k3 p3)] [.Name "one" p4, .Name "two" p5, .Attribute (.Name "one" p6) "value" p7] pos) (lbEnv L)) Q E s := by
 refine wpAny_Dict_walk (knd := PySem.strKind theProg (wW b1 b2 w)) (by rfl) (by rfl) (by simp) (by show 3 <= 15; decide) ?_
 have G1 : Gr [] s { s with heap := s.heap.push { cls := .type "dict", data := .dict #[] } } := gr_push (tk := s.toks)
 have hD1 : ({ s with heap := s.heap.push { cls := .type "dict", data := .dict #[] } } : Shared).heap.DictOf (PySem.strKind theProg (wW b1 b2 w)) s.heap.objs.size [] := Heap.DictOf.new s.heap
 have hD0 : s.heap.get? s.heap.objs.size = none := new_at (Nat.le_refl _)
 generalize ({ s with heap := s.heap.push { cls := .type "dict", data := .dict #[] } } : Shared) = s₁ at G1 hD1 ⊢
 generalize s.heap.objs.size = D at hD1 hD0 ⊢
 have F1 := F.gr0 G1
 refine pairTrees_cons_walk (evS fun t1 s₂ G2 => ?_)
 have F2 := F1.gr0 G2
 refine ev_local F2 h1 (pairTrees_cons_walk (evS fun t2 s₃ G3 => ?_))
 have F3 := F2.gr0 G3
 refine ev_local F3 h2 (pairTrees_cons_walk (evS fun t3 s₄ G4 => ?_))
 have F4 := F3.gr0 G4
 have G04 := ((G1.trans G2).trans G3).trans G4
 refine ev_pattr hA rfl (ev_local F4 h1 ⟨q1, d1, a, b, t, u, _, rfl, G04.stat0 hs, G04.k _ _ hp, .inr ⟨rfl, rfl⟩, fun s₅ G5 => pairTrees_nil_walk ?_⟩)
 have G15 : Gr [] s₁ s₅ := ((G2.trans G3).trans G4).trans G5
 refine display_done_str (by rfl) (by simp [strPairs]; decide) (hD1.at fun o e => G15.k D o e) fun h' hd hs' => ?_
 have Gd : Gr [D] s₅ { s₅ with heap := h', toks := s₅.toks + 3 } := gr_same (tk := s₅.toks + 3) hs'
 exact hQ D _ (((G04.trans G5).nil.trans Gd).new fun x hx => by rw [mS hx]; exact hD0) hD0 hd
end
noncomputable def ifB : Stmt -> List Stmt
 | .If _ b _ _ => b
 | _ => []
noncomputable abbrev lbIf : List Stmt := ifB (atB lbIn 1)
section
variable {b1 b2 : Bool} {w : World} {A : Around} {s : Shared} {E : Value -> Shared -> Prop}
set_option maxHeartbeats 4000000 in
theorem table_in {L D q1 d1 q2 d2 cb : Nat} {m cm : Str -> Option Value} {r : Rc} {t u t' u' tg : Tok} {av : List Nat} {cs : Array Value} {Q : Flow -> Shared -> Prop} (hA : Deep 1 A) (hs : Stat b1 b2 w s.heap) (F : Fram L (lbCs L) m cm s) (hg : cm "given" = some (.ref D)) (hc : m "callers" = some (.ref cb))
  (hcb : s.heap.IsTuple cb cs) (hcs : StrsAre cs.toList r.cs) (hpq : ∀ c ∈ r.cs, c = "p" \/ c = "q" \/ c = "r") (hn : r.cs.length <= 3) (hD : s.heap.DictOf (PySem.strKind theProg (wW b1 b2 w)) D [("p", .ref (q1 + 255)), ("q", .ref (q2 + 255)), ("r", .str r.c2 tg)])
  (h1 : s.heap.get? (q1 + 255) = some (pairObj d1 r.c1 t r.c2 u)) (h2 : s.heap.get? (q2 + 255) = some (pairObj d2 r.c3 t' r.c4 u')) (hav : ∀ a ∈ av, ∃ o, s.heap.get? a = some o) (hq1 : q1 + 255 ∉ av) (hq2 : q2 + 255 ∉ av) (hL : L ∈ av)
  (hQ : ∀ T s', Gr [L] s s' -> Fram L (lbCs L) (fun z => if z = "table" then some (.ref T) else m z) cm s' -> 255 <= T -> T ∉ av -> TabAv av (wW b1 b2 w) s'.heap T (tabOf r) -> Q .next s') :
  wpAny (model theProg (wW b1 b2 w)) A (PySem.exec (atB lbIf 3) (lbEnv L)) Q E s := by
 have hh := hA.handled
 have hLo : ∃ o, s.heap.get? L = some o := hav L hL
 refine asg_compD (m := m) (cm := cm) (cs := lbCs L) (cl := [("given", L + 1)]) [L] rfl rfl rfl rfl rfl (by decide) (fun _ => rfl) (.head _) (fun p hp => by rw [mS hp]; rfl) (ev_local F hc (over_tuple hcb fun I s₂ G2 hI hit hl2 hne => ?_))
 have F2 := F.gr0 G2
 have hlen : cs.size = r.cs.length := by simpa using hcs.len
 have hIL : I ≠ L := fun e => by obtain ⟨o, h⟩ := hLo; rw [<- e, hI] at h; cases h
 have hIc : I ≠ L + 1 := fun e => by
  obtain ⟨o, h, _⟩ := F.cell "given" (L + 1) rfl
  have h' : s.heap.get? (L + 1) = some o := h
  rw [<- e, hI] at h'; cases h'
 have hs2 := G2.stat0 hs
 have hav2 : ∀ a ∈ av, ∃ o, s₂.heap.get? a = some o := fun a ha => by obtain ⟨o, e⟩ := hav a ha; exact ⟨o, G2.k a o e⟩
 refine ⟨fun own' i La s' => Paired (RowR (fun a => Apt av a /\ a ∉ own') s'.heap) La ((r.cs.take i).foldl (fun acc c => setT acc c (giv r c)) []), fun own' i La s s' h G => Paired.imp (fun p q h => ⟨h.1, VT.mono (fun a o hn e => G.keep a o hn.2 e) (fun _ h => h) _ _ h.2⟩) h, _, _, _, _, _, srcTuple hh _ I cb hne cs, ?_, ⟨hit, hl2⟩, fun _ => .nil, fun a ha => ?_, ?_, ?_⟩
 ·rw [hlen]; exact Nat.le_trans hn (by decide)
 ·rw [mS ha]; exact hav2 L hL
 ·intro own' i La v C s₃ m3 cm3 hi hC hown hox hfr hJ keep F3 hv E'
  obtain ⟨x, hx, tk, rfl⟩ := hcs.at (i := i) (v := v) (by simpa using hv)
  have keep04 : ∀ s₄, Gr [C] s₃ s₄ -> ∀ a o, s.heap.get? a = some o -> s₄.heap.get? a = some o := fun s₄ G4 a o e => by
   have e2 := G2.k a o e
   refine G4.keep a o (fun hm => ?_) (keep a o (fun hm => ?_) e2)
   ·rw [mS hm, new_at hC] at e2; cases e2
   ·rw [mS hm, hI] at e; cases e
  refine turn_name rfl rfl F3 fun s₄ G4 F4 => wpAny_tests_nil ?_
  simp only [if_true]
  have k4 := keep04 s₄ G4
  refine c_local rfl rfl F4 (v := .str x tk) (if_pos rfl) ?_
  have hcell : s₄.heap.IsCell (L + 1) (some (.ref D)) := by
   obtain ⟨o, h, d⟩ := F.cell "given" (L + 1) rfl
   exact ⟨o, k4 _ _ h, by rw [<- hg]; exact d⟩
  have hD4 : s₄.heap.DictOf (PySem.strKind theProg (wW b1 b2 w)) D [("p", .ref (q1 + 255)), ("q", .ref (q2 + 255)), ("r", .str r.c2 tg)] := hD.at fun o e => k4 D o e
  have offs : ∀ a : Nat, (∃ o, s.heap.get? a = some o) -> a ∉ av -> a ∉ own' := fun a ⟨o, e⟩ h hm => by
   rcases hox a hm with h' | h' | h'
   ·exact h (by rw [mS h']; exact hL)
   ·rw [mS h', hI] at e; cases e
   ·rw [G2.k a o e] at h'; cases h'
  have fin : ∀ (val : Value) (s₅ : Shared), Gr [] s₄ s₅ -> VT (fun a => Apt av a /\ a ∉ own') s₅.heap (giv r x) val ->
    Gr (frL C []) s₃ s₅ /\ Paired (RowR (fun a => Apt av a /\ a ∉ own') s₅.heap) (setL La x tk val) ((r.cs.take (i + 1)).foldl (fun acc c => setT acc c (giv r c)) []) /\ ∃ m' cm', Fram C [] m' cm' s₅ := fun val s₅ G5 hval => by
   refine ⟨g_new (G4.trans G5.nil) (.head _), ?_, _, _, F4.gr0 G5⟩
   rw [fold_take _ hx]
   refine set_row hval (Paired.imp (fun p q h => ⟨h.1, VT.mono (fun a o hn e => (g_new (own := own') (G4.trans G5.nil) (hfr C (.head _))).keep a o hn.2 e) (fun _ h => h) _ _ h.2⟩) hJ)
  refine ev_subN_any (c_free (c := L + 1) rfl rfl rfl hcell (c_local rfl rfl F4 (v := .str x tk) (if_pos rfl) ⟨"dict", _, slot_dict_getitem.lookup, hD4.typeIs, ?_⟩))
  have hkey : (PySem.strKind theProg (wW b1 b2 w)).is x (.str x tk) = true := by show (x == x) = true; simp
  have Gt : Gr [] s₄ { s₄ with toks := s₄.toks + 1 } := gr_tok
  rcases hpq x (List.mem_of_getElem? hx) with rfl | rfl | rfl
  ·refine wpAny_getItem_of hkey hD4.mapOf (v := .ref (q1 + 255)) rfl ⟨_, tk, rfl, (fin _ _ Gt ?g1).1, (fin _ _ Gt ?g1).2.1, (fin _ _ Gt ?g1).2.2⟩
   show VT _ _ (giv r "p") _
   rw [show giv r "p" = .p r.c1 r.c2 from rfl]
   unfold VT
   exact ⟨q1 + 255, d1, t, u, rfl, ⟨Nat.le_add_left _ _, ⟨Nat.le_add_left _ _, hq1⟩, offs _ ⟨_, h1⟩ hq1⟩, k4 _ _ h1⟩
  ·refine wpAny_getItem_of hkey hD4.mapOf (v := .ref (q2 + 255)) (by kernel_rfl) ⟨_, tk, rfl, (fin _ _ Gt ?g2).1, (fin _ _ Gt ?g2).2.1, (fin _ _ Gt ?g2).2.2⟩
   rw [show giv r "q" = .p r.c3 r.c4 by unfold giv; rw [if_neg (by decide), if_pos rfl]]
   unfold VT
   exact ⟨q2 + 255, d2, t', u', rfl, ⟨Nat.le_add_left _ _, ⟨Nat.le_add_left _ _, hq2⟩, offs _ ⟨_, h2⟩ hq2⟩, k4 _ _ h2⟩
  ·refine wpAny_getItem_of hkey hD4.mapOf (v := .str r.c2 tg) (by kernel_rfl) ⟨_, tk, rfl, (fin _ _ Gt ?g3).1, (fin _ _ Gt ?g3).2.1, (fin _ _ Gt ?g3).2.2⟩
   rw [show giv r "r" = .s r.c2 by unfold giv; rw [if_neg (by decide), if_neg (by decide)]]
   exact .str
 ·intro own' T La s' hex hTo hJ hTs hT0 hpl hlen'
  refine ⟨F2, fun a ha hm => ?_, fun G' F' => ?_⟩
  ·rcases mC ha with e | e
   ·exact hIL ((mS hm).symm.trans e)
   ·exact hIc ((mS hm).symm.trans (mS e))
  ·obtain ⟨ep, hT⟩ := hpl
   have hlenc : cs.size = r.cs.length := hlen
   rw [hlenc, List.take_of_length_le (Nat.le_refl _)] at hJ
   refine hQ T s' ((G2.nil.trans G').shrink fun a ha => ?_) F' (Nat.le_trans hs2.big hTs) (fun hm => by obtain ⟨o, e⟩ := hav2 T hm; rw [hT0] at e; cases e) ⟨La, ep, hT, Paired.imp (fun p q h => ⟨h.1, VT.mono (fun _ _ _ e => e) (fun _ h => h.1) _ _ h.2⟩) hJ⟩
   rcases mC ha with e | ha
   ·exact .inl (by rw [e]; exact .head _)
   ·rw [mS ha]; exact .inr hI
end
structure Par (r : Rc) : Prop where
 one : X2_3 (fun pa pb => splitOk (" \t" ++ r.c1 ++ " =\n" ++ r.c2 ++ " ") "=" 1 pa pb = true) (fun pa pb => stripOk pa r.c1 = true) (fun pa pb => stripOk pb r.c2 = true)
 two : X2_3 (fun pa pb => splitOk ("\n" ++ r.c3 ++ "= " ++ r.c4 ++ "\t ") "=" 1 pa pb = true) (fun pa pb => stripOk pa r.c3 = true) (fun pa pb => stripOk pb r.c4 = true)
 len : r.c1.length <= 100 /\ r.c2.length <= 100 /\ r.c3.length <= 100 /\ r.c4.length <= 100
 pq : ∀ c ∈ r.cs, c = "p" \/ c = "q" \/ c = "r"
 cs : r.cs.length <= 3
section
variable {b1 b2 : Bool} {w : World} {A : Around} {s : Shared} {E : Value -> Shared -> Prop}
theorem len_app (a b : Str) : (a ++ b).length = a.length + b.length := by
 show (a.cps ++ b.cps).size = _
 rw [Array.size_append]; rfl
theorem ev_five {env : Env} {cs : List (Str × Nat)} {m cm : Str -> Option Value} {a b c x y v1 v2 : Str} {t1 t2 : Tok} {k1 k2 k3 : Nat} {p1 p2 p3 p4 p5 p6 p7 p8 p9 : Pos} {Q : Value -> Shared -> Prop} (F : Fram env.locals cs m cm s) (h1 : m x = some (.str v1 t1)) (h2 : m y = some (.str v2 t2))
  (la : a.length <= 10) (lb : b.length <= 10) (lc : c.length <= 10) (l1 : v1.length <= 100) (l2 : v2.length <= 100) (hQ : ∀ t s', Gr [] s s' -> Q (.str (a ++ v1 ++ b ++ v2 ++ c) t) s')
  (hk : autoParam (env.scope.kind = .function) byRfl) (hx : autoParam (env.kindOf x = some .local) byRfl) (hy : autoParam (env.kindOf y = some .local) byRfl) (hdx : (x == ("__debug__" : Str)) = false := by decide) (hdy : (y == ("__debug__" : Str)) = false := by decide) :
  wpAny (model theProg w) A (eval (.BinOp (.BinOp (.BinOp (.BinOp (.Constant (.str a) k1 p1) .Add (.Name x p2) p3) .Add (.Constant (.str b) k2 p4) p5) .Add (.Name y p6) p7) .Add (.Constant (.str c) k3 p8) p9) env) Q E s := by
 have hsz : (1000 : Nat) <= sizeLine := by decide
 refine wpAny_BinOp (wpAny_BinOp (wpAny_BinOp (wpAny_BinOp (evS fun u1 s₂ G2 => ev_local (F.gr0 G2) h1 (plusS (by lia) fun u2 s₃ G3 => ?_) hk hx hdx))))
 refine evS fun u3 s₄ G4 => plusS (by rw [len_app]; lia) fun u4 s₅ G5 => ?_
 have G25 := ((G2.trans G3).trans G4).trans G5
 refine ev_local (F.gr0 G25) h2 (plusS (by rw [len_app, len_app]; lia) fun u5 s₆ G6 => ?_) hk hy hdy
 refine evS fun u6 s₇ G7 => plusS (by rw [len_app, len_app, len_app]; lia) fun u7 s₈ G8 => ?_
 exact hQ u7 s₈ (((G25.trans G6).trans G7).trans G8)
end
noncomputable def smK (k p : Nat) : Str := ⟨(List.replicate k (ch (97 + p)).cps).foldl (· ++ ·) #[]⟩
noncomputable def okRec (k p : Nat) : Bool :=
 splitOk (" \t" ++ smK k p ++ " =\n" ++ ch (65 + p) ++ " ") "=" 1 (" \t" ++ smK k p ++ " ") ("\n" ++ ch (65 + p) ++ " ") && stripOk (" \t" ++ smK k p ++ " ") (smK k p) && stripOk ("\n" ++ ch (65 + p) ++ " ") (ch (65 + p)) &&
 splitOk ("\n" ++ ("." ++ smK k p) ++ "= " ++ (ch (65 + p) ++ "=") ++ "\t ") "=" 1 ("\n" ++ ("." ++ smK k p)) (" " ++ (ch (65 + p) ++ "=") ++ "\t ") && stripOk ("\n" ++ ("." ++ smK k p)) ("." ++ smK k p) && stripOk (" " ++ (ch (65 + p) ++ "=") ++ "\t ") (ch (65 + p) ++ "=")
theorem okRec_all : ((List.range 3).all fun k => (List.range 14).all fun p => okRec k p) = true := by kernel_rfl
theorem okRec_at {k p : Nat} (hk : k < 3) (hp : p < 14) : okRec k p = true := List.all_eq_true.mp (List.all_eq_true.mp okRec_all k (List.mem_range.mpr hk)) p (List.mem_range.mpr hp)
theorem menu_pq (n : Nat) : (∀ c ∈ menuOf n, c = "p" \/ c = "q" \/ c = "r") /\ (menuOf n).length <= 2 := by
 unfold menuOf
 split <;> simp
theorem smK_len {k p : Nat} (hk : k < 3) : (smK k p).length <= 2 := by
 rcases (show k = 0 \/ k = 1 \/ k = 2 by lia) with rfl | rfl | rfl
 ·exact Nat.zero_le 2
 ·show 1 <= 2; decide
 ·exact Nat.le_refl 2
theorem recOf_par (x : Int) {p : Nat} (hp : p < 14) : (recOf x p).c2 ≠ "" -> Par (recOf x p) := by
 intro h2
 unfold recOf at h2 ⊢
 by_cases h3 : x.fmod 4 = 3
 ·rw [if_pos h3] at h2; exact absurd rfl h2
 ·rw [if_neg h3]
  obtain ⟨k, hk, hk'⟩ : ∃ k : Nat, k < 3 /\ (x.fmod 4).toNat = k := by
   rcases fmod4 x with h | h | h | h
   ·exact ⟨0, by decide, by rw [h]; rfl⟩
   ·exact ⟨1, by decide, by rw [h]; rfl⟩
   ·exact ⟨2, by decide, by rw [h]; rfl⟩
   ·exact absurd h h3
  have hsm : smallOf x p = smK k p := by unfold smallOf smK; rw [hk']
  rw [hsm]
  have ok := okRec_at hk hp
  unfold okRec at ok
  simp only [Bool.and_eq_true] at ok
  obtain ⟨⟨⟨⟨⟨o1, o2⟩, o3⟩, o4⟩, o5⟩, o6⟩ := ok
  have hl := smK_len (p := p) hk
  refine ⟨⟨_, _, o1, o2, o3⟩, ⟨_, _, o4, o5, o6⟩, ⟨by show (smK k p).length <= 100; lia, by show 1 <= 100; decide, ?_, by show 2 <= 100; decide⟩, (menu_pq _).1, Nat.le_succ_of_le (menu_pq _).2⟩
  show ("." ++ smK k p : Str).length <= 100
  rw [len_app]
  show 1 + (smK k p).length <= 100
  lia
theorem ne_set {m : Str -> Option Value} {n x : Str} {v : Value} (h : x ≠ n) : (fun y => if y = n then some v else m y) x = m x := if_neg h
section
variable {b1 b2 : Bool} {w : World} {A : Around} {s : Shared} {E : Value -> Shared -> Prop}
set_option maxHeartbeats 8000000 in
theorem lb_if {L bk dd cb ep : Nat} {m cm : Str -> Option Value} {r : Rc} {t0 t1 t2 t3 t4 : Tok} {ve : Value} {e : Ent} {av : List Nat} {cs : Array Value} {Lb : DL} {B : BookT} {Q : Flow -> Shared -> Prop} (hA : Deep 4 A) (hs : Stat b1 b2 w s.heap) (hac : AcT s.heap) (F : Fram L (lbCs L) m cm s)
  (hmb : m "book" = some (.ref (bk + 255))) (hmo : m "owner" = some (.str r.owner t0)) (hm1 : m "cc" = some (.str r.c1 t1)) (hm2 : m "nc" = some (.str r.c2 t2)) (hm3 : m "tt" = some (.str r.c3 t3)) (hm4 : m "ct" = some (.str r.c4 t4)) (hmc : m "callers" = some (.ref cb)) (hme : m "entry" = some ve)
  (hcb : s.heap.IsTuple cb cs) (hcs : StrsAre cs.toList r.cs) (hr : Par r) (hbk : s.heap.get? (bk + 255) = some (bkObj (wW b1 b2 w) (dd + 255) Lb ep)) (hsz : Lb.length <= 1000) (hav : ∀ a ∈ av, ∃ o, s.heap.get? a = some o) (hL : L ∈ av) (hL1 : L + 1 ∈ av) (hb : bk + 255 ∈ av) (hbL : bk + 255 ≠ L) (hbL1 : bk + 255 ≠ L + 1) (hLbig : 255 <= L)
  (hp : Paired (RowB av (wW b1 b2 w) s.heap) Lb B) (hent : EntAv av (wW b1 b2 w) s.heap ve e) (hadd : AddsE e (srcE r))
  (hQ : ∀ s' m' cm' Lb' ep', Gr [48, L, L + 1, bk + 255] s s' -> AcT s'.heap -> Fram L (lbCs L) m' cm' s' -> m' "book" = some (.ref (bk + 255)) -> s'.heap.get? (bk + 255) = some (bkObj (wW b1 b2 w) (dd + 255) Lb' ep') -> Lb'.length <= Lb.length + 1 -> Paired (RowB av (wW b1 b2 w) s'.heap) Lb' (setE B r.owner (addE e (srcE r))) -> Q .next s') :
  wpAny (model theProg (wW b1 b2 w)) A (execs lbIf (lbEnv L)) Q E s := by
 have hA1 : Deep 1 A := hA.le (by decide)
 have hA2 : Deep 2 A := hA.le (by decide)
 obtain ⟨pa, pb, x1, x2, x3⟩ := hr.one
 obtain ⟨pc, pd, y1, y2, y3⟩ := hr.two
 refine wpAny_execs_cons (wpAny_Assign_Name (ev_parse hA2 hs rfl rfl fun s₁ G1 => ev_five (F.gr0 G1) hm1 hm2 (by decide) (by decide) (by decide) hr.len.1 hr.len.2.1 fun tk s₂ G2 => ⟨_, tk, pa, pb, r.c1, r.c2, rfl, x1, x2, x3, G2, fun q1 d1 u1 u2 s₃ G3 hq1 h1 => ?_⟩))
 have G03 := (G1.trans G2).trans G3
 refine (F.gr0 G03).set (env := lbEnv L) rfl rfl fun s₄ G4 F4 => ?_
 have q1av : q1 + 255 ∉ av := fun hm => by
  obtain ⟨o, e⟩ := hav _ hm
  rw [(G1.trans G2).k _ _ e] at hq1; cases hq1
 have keep4 : ∀ a o, a ≠ L -> s.heap.get? a = some o -> s₄.heap.get? a = some o := fun a o h e => G4.keep a o (fun hm => h (mS hm)) (G03.k a o e)
 have ne1 : q1 + 255 ≠ L := fun e => q1av (e ▸ hL)
 have h1' : s₄.heap.get? (q1 + 255) = some (pairObj d1 r.c1 u1 r.c2 u2) := G4.keep _ _ (fun hm => ne1 (mS hm)) h1
 have dynL : ∀ a ∈ [L], Dyn a := fun a ha => by rw [mS ha]; exact .inl hLbig
 have hs4 : Stat b1 b2 w s₄.heap := G4.stat (G03.stat0 hs) dynL
 refine wpAny_execs_cons (wpAny_Assign_Name (ev_parse hA2 hs4 rfl rfl fun s₅ G5 => ev_five (F4.gr0 G5) ((ne_set (by decide)).trans hm3) ((ne_set (by decide)).trans hm4) (by decide) (by decide) (by decide) hr.len.2.2.1 hr.len.2.2.2 fun tk s₆ G6 => ⟨_, tk, pc, pd, r.c3, r.c4, rfl, y1, y2, y3, G6, fun q2 d2 v1 v2 s₇ G7 hq2 h2 => ?_⟩))
 have G47 := (G5.trans G6).trans G7
 refine (F4.gr0 G47).set (env := lbEnv L) rfl rfl fun s₈ G8 F8 => ?_
 have hLs : ∃ o, s₄.heap.get? L = some o := by obtain ⟨o, _, _, e, _⟩ := F4.ns; exact ⟨o, e⟩
 have av4 : ∀ a ∈ av, ∃ o, s₄.heap.get? a = some o := fun a ha => by
  by_cases h : a = L
  ·rw [h]; exact hLs
  ·obtain ⟨o, e⟩ := hav a ha; exact ⟨o, keep4 a o h e⟩
 have q2av : q2 + 255 ∉ av := fun hm => by
  obtain ⟨o, e⟩ := av4 _ hm
  rw [(G5.trans G6).k _ _ e] at hq2; cases hq2
 have keep8 : ∀ a o, a ≠ L -> s₄.heap.get? a = some o -> s₈.heap.get? a = some o := fun a o h e => G8.keep a o (fun hm => h (mS hm)) (G47.k a o e)
 have ne2 : q2 + 255 ≠ L := fun e => q2av (e ▸ hL)
 have h2' : s₈.heap.get? (q2 + 255) = some (pairObj d2 r.c3 v1 r.c4 v2) := G8.keep _ _ (fun hm => ne2 (mS hm)) h2
 have h18 := keep8 _ _ ne1 h1'
 have hs8 : Stat b1 b2 w s₈.heap := G8.stat (G47.stat0 hs4) dynL
 refine wpAny_execs_cons (wpAny_Assign_Name (ev_given hA1 hs8 F8 (a := r.c1) (b := r.c2) ((if_neg (by decide)).trans (if_pos rfl)) (if_pos rfl) h18 fun D s₉ G9 hD0 hD => ?_))
 refine (F8.gr0 G9).setC (env := lbEnv L) (n := "given") (c := L + 1) rfl rfl rfl rfl fun sA GA FA => ?_
 have keepA : ∀ a o, a ≠ L + 1 -> s₈.heap.get? a = some o -> sA.heap.get? a = some o := fun a o h e => GA.keep a o (fun hm => h (mS hm)) (G9.k a o e)
 have keep0A : ∀ a o, a ≠ L -> a ≠ L + 1 -> s.heap.get? a = some o -> sA.heap.get? a = some o := fun a o h h' e => keepA a o h' (keep8 a o h (keep4 a o h e))
 have hDA : sA.heap.DictOf (PySem.strKind theProg (wW b1 b2 w)) D _ := hD.at fun o e => GA.keep D o (fun hm => by
  obtain ⟨o', h, _⟩ := F8.cell "given" (L + 1) rfl
  have h' : s₈.heap.get? (L + 1) = some o' := h
  rw [<- mS hm, hD0] at h'; cases h') e
 have hsA : Stat b1 b2 w sA.heap := GA.stat (G9.stat0 hs8) fun a ha => by rw [mS ha]; exact .inl (Nat.le_succ_of_le hLbig)
 have avA : ∀ a ∈ av, ∃ o, sA.heap.get? a = some o := fun a ha => by
  by_cases h : a = L
  ·obtain ⟨o, _, _, e, _⟩ := FA.ns; exact ⟨o, by rw [h]; exact e⟩
  by_cases h' : a = L + 1
  ·obtain ⟨o, e, _⟩ := FA.cell "given" (L + 1) rfl; exact ⟨o, by rw [h']; exact e⟩
  ·obtain ⟨o, e⟩ := hav a ha; exact ⟨o, keep0A a o h h' e⟩
 have q1L1 : q1 + 255 ≠ L + 1 := fun e => q1av (e ▸ hL1)
 have q2L1 : q2 + 255 ≠ L + 1 := fun e => q2av (e ▸ hL1)
 have hcbL : cb ≠ L /\ cb ≠ L + 1 := by
  obtain ⟨o, e, _, n, d⟩ := hcb
  refine ⟨fun q => ?_, fun q => ?_⟩
  ·obtain ⟨o', es, ep', e', d', _⟩ := F.ns
   have e'' : s.heap.get? L = some o' := e'
   rw [<- q, e] at e''; cases e''; rw [d] at d'; cases d'
  ·obtain ⟨o', e', d'⟩ := F.cell "given" (L + 1) rfl
   have e'' : s.heap.get? (L + 1) = some o' := e'
   rw [<- q, e] at e''; cases e''; rw [d] at d'; cases d'
 refine wpAny_execs_cons (table_in (r := r) (q1 := q1) (q2 := q2) hA1 hsA FA (if_pos rfl) ((if_neg (by decide)).trans ((if_neg (by decide)).trans hmc)) (hcb.at fun o e => keep0A cb o hcbL.1 hcbL.2 e) hcs hr.pq hr.cs hDA (keepA _ _ q1L1 h18) (keepA _ _ q2L1 h2') avA q1av q2av hL fun T sB GB FB hT255 hTav htab => ?_)
 have keepB : ∀ a o, a ≠ L -> sA.heap.get? a = some o -> sB.heap.get? a = some o := fun a o h e => GB.keep a o (fun hm => h (mS hm)) e
 have keep0B : ∀ a o, a ≠ L -> a ≠ L + 1 -> s.heap.get? a = some o -> sB.heap.get? a = some o := fun a o h h' e => keepB a o h (keep0A a o h h' e)
 have hsB : Stat b1 b2 w sB.heap := GB.stat hsA dynL
 have h1B := keepB _ _ ne1 (keepA _ _ q1L1 h18)
 have h2B := keepB _ _ ne2 (keepA _ _ q2L1 h2')
 have G0B : Gr [L, L + 1] s sB := by
  have a1 : Gr [L, L + 1] s s₄ := G03.nil.trans (g_new G4 (.head _))
  have a2 : Gr [L, L + 1] s₄ s₈ := G47.nil.trans (g_new G8 (.head _))
  have a3 : Gr [L, L + 1] s₈ sA := G9.nil.trans (g_new GA (.tail _ (.head _)))
  exact ((a1.trans a2).trans a3).trans (g_new GB (.head _))
 have entB : EntAv av (wW b1 b2 w) sB.heap ve e := hent.keep fun a o _ ha e => G0B.keep a o (fun hm => by
  rcases mC hm with h | hm
  ·exact ha (h ▸ hL)
  ·exact ha (by rw [mS hm]; exact hL1)) e
 have acB' : AcT sB.heap := hac.at fun a o h e => G0B.keep a o (fun hm => by
  have h255 : a < 255 := by rcases h with rfl | rfl <;> decide
  rcases mC hm with h' | hm
  ·have h2 : a = L := h'
   rw [h2] at h255; exact absurd h255 (Nat.not_lt.mpr hLbig)
  ·have h2 : a = L + 1 := mS hm
   rw [h2] at h255; exact absurd h255 (Nat.not_lt.mpr (Nat.le_succ_of_le hLbig))) e
 have avB : ∀ a ∈ av, ∃ o, sB.heap.get? a = some o := fun a ha => by
  by_cases h : a = L
  ·obtain ⟨o, _, _, e, _⟩ := FB.ns; exact ⟨o, by rw [h]; exact e⟩
  ·obtain ⟨o, e⟩ := avA a ha; exact ⟨o, keepB a o h e⟩
 have me : (fun z => if z = ("table" : Str) then some (Value.ref T) else if z = ("two" : Str) then some (.ref (q2 + 255)) else if z = ("one" : Str) then some (.ref (q1 + 255)) else m z) = (fun z => if z = ("table" : Str) then some (Value.ref T) else (fun y => if y = ("two" : Str) then some (.ref (q2 + 255)) else (fun y => if y = ("one" : Str) then some (.ref (q1 + 255)) else m y) y) z) := rfl
 rw [<- me] at FB
 generalize hM : (fun z => if z = ("table" : Str) then some (Value.ref T) else if z = ("two" : Str) then some (.ref (q2 + 255)) else if z = ("one" : Str) then some (.ref (q1 + 255)) else m z) = M at FB
 have Mo : ∀ x : Str, x ≠ "table" -> x ≠ "two" -> x ≠ "one" -> M x = m x := fun x h1 h2 h3 => by rw [<- hM]; dsimp only; rw [if_neg h1, if_neg h2, if_neg h3]
 have Mt : M "table" = some (.ref T) := by rw [<- hM]; exact if_pos rfl
 have M2 : M "two" = some (.ref (q2 + 255)) := by rw [<- hM]; dsimp only; rw [if_neg (by decide)]; exact if_pos rfl
 have M1 : M "one" = some (.ref (q1 + 255)) := by rw [<- hM]; dsimp only; rw [if_neg (by decide), if_neg (by decide)]; exact if_pos rfl
 refine wpAny_execs_cons (wpAny_Assign_Subscript (ev_callF hsB (gl_afs _) (afs_fd _) (ev_local FB ((Mo _ (by decide) (by decide) (by decide)).trans hme) (evT2 ?_))))
 refine ev_pattr hA1 rfl (ev_local FB M1 ⟨q1, d1, _, _, _, _, _, rfl, hsB, h1B, .inl ⟨rfl, rfl⟩, fun z1 H1 => ?_⟩)
 refine ev_pattr hA1 rfl (ev_local (FB.gr0 H1) M1 ⟨q1, d1, _, _, _, _, _, rfl, H1.stat0 hsB, H1.k _ _ h1B, .inr ⟨rfl, rfl⟩, fun z2 H2 => ?_⟩)
 have H12 := H1.trans H2
 refine ev_pattr hA1 rfl (ev_local (FB.gr0 H12) M2 ⟨q2, d2, _, _, _, _, _, rfl, H12.stat0 hsB, H12.k _ _ h2B, .inl ⟨rfl, rfl⟩, fun z3 H3 => ?_⟩)
 have H13 := H12.trans H3
 refine ev_pattr hA1 rfl (ev_local (FB.gr0 H13) M2 ⟨q2, d2, _, _, _, _, _, rfl, H13.stat0 hsB, H13.k _ _ h2B, .inr ⟨rfl, rfl⟩, fun z4 H4 => ?_⟩)
 have H14 := H13.trans H4
 refine ev_local (FB.gr0 H14) Mt ⟨by show 5 <= sizeLine; decide, fun z5 H5 hS => ?_⟩
 have H15 := H14.trans H5
 have hsz5 : Stat b1 b2 w z5.heap := H15.stat0 hsB
 have av5 : ∀ a ∈ av, ∃ o, z5.heap.get? a = some o := fun a ha => by obtain ⟨o, e⟩ := avB a ha; exact ⟨o, H15.k a o e⟩
 have hS255 : 255 <= z4.heap.objs.size := (H14.stat0 hsB).big
 have hSav : z4.heap.objs.size ∉ av := fun hm => by
  obtain ⟨o, e⟩ := avB _ hm
  have := Heap.lt_size (H14.k _ _ e)
  exact Nat.lt_irrefl _ this
 refine ⟨hsz5, ?_⟩
 refine afs_ok (hA.le (by decide)) hsz5 (acB'.at fun a o _ e => H15.k a o e) av5 (entB.keep fun a o _ _ e => H15.k a o e) (eb := srcE r) ⟨_, T, _, _, _, _, rfl, hS255, hSav, hT255, hTav, hS, htab.keep hT255 hTav fun a o _ _ e => H15.k a o e⟩ hadd fun U z6 H6 ac6 hU0 hent6 => ?_
 have F6 : Fram L (lbCs L) M (fun y => if y = "given" then some (.ref D) else cm y) z6 := (FB.gr0 H15).gr H6 fun a ha hm => by
  have h2 : a = 48 := mS hm
  rcases mC ha with e | e
  ·rw [h2] at e; rw [<- e] at hLbig; exact absurd hLbig (by decide)
  ·have e' : a = L + 1 := mS e
   rw [h2] at e'; have h3 := Nat.le_succ_of_le hLbig; rw [<- Nat.succ_eq_add_one] at e'; rw [<- e'] at h3; exact absurd h3 (by decide)
 have dyn48 : ∀ a ∈ [48], Dyn a := fun a ha => by rw [mS ha]; exact .inr (.inl rfl)
 have hs6 : Stat b1 b2 w z6.heap := H6.stat hsz5 dyn48
 have ne48 : bk + 255 ≠ 48 := fun e => absurd (Nat.le_add_left 255 bk) (by rw [e]; decide)
 have hbk6 : z6.heap.get? (bk + 255) = some (bkObj (wW b1 b2 w) (dd + 255) Lb ep) := H6.keep _ _ (fun hm => ne48 (mS hm)) (H15.k _ _ (keep0B _ _ hbL hbL1 hbk))
 refine ev_local F6 ((Mo _ (by decide) (by decide) (by decide)).trans hmb) (ev_local F6 ((Mo _ (by decide) (by decide) (by decide)).trans hmo) (bk_setItem hA1 hs6 hbk6 fun z7 H7 => ?_))
 refine codeAny_mono (bset_ok (jb := 0) (dd := dd) (Nat.le_trans hsz (by decide)) A z7 hA1 (H7.stat0 hs6) (fun p hp => by
  have hp' : p = (0, bk + 255, bkObj (wW b1 b2 w) (dd + 255) Lb ep) := by simpa [xBSet] using hp
  rw [hp']; exact H7.k _ _ hbk6)) fun res z8 hz => ?_
 obtain ⟨u, _, rfl, ef⟩ := hz
 have hset := ef.set _ (.head _)
 have H8 : Gr [bk + 255] z7 z8 := ef.gr' fun p hp => by
  have hp' : p = (0, bk + 255, bkObj (wW b1 b2 w) (dd + 255) (setL Lb r.owner t0 (.ref U)) (epOf Lb r.owner ep)) := by simpa [xBSet] using hp
  rw [hp']; exact .head _
 have H68 : Gr [bk + 255] z6 z8 := H7.nil.trans H8
 show wpAny _ _ _ _ _ z8
 refine wpAny_execs_nil ?_
 have F8' : Fram L (lbCs L) M (fun y => if y = "given" then some (.ref D) else cm y) z8 := F6.gr H68 fun a ha hm => by
  have h2 : a = bk + 255 := mS hm
  rcases mC ha with e | e
  ·exact hbL (h2.symm.trans e)
  ·exact hbL1 (h2.symm.trans (mS e))
 have Gall : Gr [48, L, L + 1, bk + 255] s z8 := ((G0B.widen fun a ha => by
  rcases mC ha with e | e
  ·rw [e]; exact .tail _ (.head _)
  ·rw [mS e]; exact .tail _ (.tail _ (.head _))).trans (H15.nil.trans (g_new H6 (.head _)))).trans (g_new H68 (.tail _ (.tail _ (.tail _ (.head _)))))
 have kAll : ∀ a o, 255 <= a -> a ∉ av -> s.heap.get? a = some o -> z8.heap.get? a = some o := fun a o h255 ha e => Gall.keep a o (fun hm => by
  replace hm := mm4 hm
  rcases hm with h | h | h | h
  ·rw [h] at h255; exact absurd h255 (by decide)
  ·exact ha (h ▸ hL)
  ·exact ha (h ▸ hL1)
  ·exact ha (h ▸ hb)) e
 refine hQ z8 M _ _ _ Gall (ac6.at fun a o h e => H68.keep a o (fun hm => ?_) e) F8' ((Mo _ (by decide) (by decide) (by decide)).trans hmb) hset (setL_len ..) (set_rowB (hent6.keep fun a o _ ha e => H68.keep a o (fun hm => ha (by rw [mS hm]; exact hb)) e) (RowB.keep kAll hp))
 have h2 : a = bk + 255 := mS hm
 have h3 : a < 255 := by rcases h with rfl | rfl <;> decide
 rw [h2] at h3
 exact absurd (Nat.le_add_left 255 bk) (Nat.not_le.mpr h3)
end
section
variable {b1 b2 : Bool} {w : World} {A : Around} {s : Shared} {E : Value -> Shared -> Prop}
set_option maxHeartbeats 8000000 in
theorem lb_body {L bk dd cb ep : Nat} {m cm : Str -> Option Value} {r : Rc} {t0 t1 t2 t3 t4 : Tok} {av : List Nat} {cs : Array Value} {Lb : DL} {B : BookT} {Q : Flow -> Shared -> Prop} (hA : Deep 4 A) (hs : Stat b1 b2 w s.heap) (hac : AcT s.heap) (F : Fram L (lbCs L) m cm s)
  (hmb : m "book" = some (.ref (bk + 255))) (hmo : m "owner" = some (.str r.owner t0)) (hm1 : m "cc" = some (.str r.c1 t1)) (hm2 : m "nc" = some (.str r.c2 t2)) (hm3 : m "tt" = some (.str r.c3 t3)) (hm4 : m "ct" = some (.str r.c4 t4)) (hmc : m "callers" = some (.ref cb))
  (hcb : s.heap.IsTuple cb cs) (hcs : StrsAre cs.toList r.cs) (hr : r.c2 ≠ "" -> Par r) (hbk : s.heap.get? (bk + 255) = some (bkObj (wW b1 b2 w) (dd + 255) Lb ep)) (hdd : s.heap.get? (dd + 255) = some dict0) (hsz : Lb.length <= 900) (hav : ∀ a ∈ av, ∃ o, s.heap.get? a = some o) (hL : L ∈ av) (hL1 : L + 1 ∈ av) (hb : bk + 255 ∈ av) (hbL : bk + 255 ≠ L) (hbL1 : bk + 255 ≠ L + 1) (hLbig : 255 <= L)
  (hp : Paired (RowB av (wW b1 b2 w) s.heap) Lb B) (hadd : r.c2 ≠ "" -> AddsE ((getE B r.owner).getD ent0) (srcE r))
  (hQ : ∀ s' m' cm' Lb' ep', Gr [48, L, L + 1, bk + 255] s s' -> AcT s'.heap -> Fram L (lbCs L) m' cm' s' -> m' "book" = some (.ref (bk + 255)) -> s'.heap.get? (bk + 255) = some (bkObj (wW b1 b2 w) (dd + 255) Lb' ep') -> Lb'.length <= Lb.length + 2 -> Paired (RowB av (wW b1 b2 w) s'.heap) Lb' (stepB B r) -> Q .next s') :
  wpAny (model theProg (wW b1 b2 w)) A (execs lbIn (lbEnv L)) Q E s := by
 refine wpAny_execs_cons (wpAny_Assign_Name (ev_look hA (fun _ _ => rfl) (ev_local F hmb (ev_local F hmo ⟨bk, dd, Lb, ep, r.owner, t0, av, B, rfl, rfl, hs, hbk, hdd, Nat.le_trans hsz (by decide), hav, hb, hp, fun v L' ep' s₁ G1 hb1 hl1 hp1 hv => ?_⟩))))
 have ne48 : bk + 255 ≠ 48 /\ bk + 255 ≠ 52 := ⟨fun e => absurd (Nat.le_add_left 255 bk) (by rw [e]; decide), fun e => absurd (Nat.le_add_left 255 bk) (by rw [e]; decide)⟩
 have F1 : Fram L (lbCs L) m cm s₁ := F.gr G1 fun a ha hm => by
  have h2 : a = bk + 255 := mS hm
  rcases mC ha with e | e
  ·exact hbL (h2.symm.trans e)
  ·exact hbL1 (h2.symm.trans (mS e))
 refine F1.set (env := lbEnv L) rfl rfl fun s₂ G2 F2 => ?_
 have G02 : Gr [L, bk + 255] s s₂ := (g_new G1 (.tail _ (.head _))).trans (g_new G2 (.head _))
 have hdyn : ∀ a ∈ [L, bk + 255], Dyn a := fun a ha => by
  rcases mC ha with e | e
  ·rw [e]; exact .inl hLbig
  ·rw [mS e]; exact dyn255 _
 have hs2 : Stat b1 b2 w s₂.heap := G02.stat hs hdyn
 have hac2 : AcT s₂.heap := hac.at fun b o h e => G02.keep b o (fun hm => by
  have h3 : b < 255 := by rcases h with rfl | rfl <;> decide
  rcases mC hm with q | q
  ·have q' : b = L := q
   rw [q'] at h3; exact absurd hLbig (Nat.not_le.mpr h3)
  ·rw [mS q] at h3; exact absurd (Nat.le_add_left 255 bk) (Nat.not_le.mpr h3)) e
 have av2 : ∀ a ∈ av, ∃ o, s₂.heap.get? a = some o := fun a ha => by
  by_cases h : a = L
  ·obtain ⟨o, _, _, e, _⟩ := F2.ns; exact ⟨o, by rw [h]; exact e⟩
  by_cases h' : a = bk + 255
  ·exact ⟨_, by rw [h']; exact G2.keep _ _ (fun hm => hbL (mS hm)) hb1⟩
  ·obtain ⟨o, e⟩ := hav a ha
   exact ⟨o, G02.keep a o (fun hm => by
    rcases mC hm with q | q
    ·exact h q
    ·exact h' (mS q)) e⟩
 have k12 : ∀ a o, 255 <= a -> a ∉ av -> s₁.heap.get? a = some o -> s₂.heap.get? a = some o := fun a o _ ha e => G2.keep a o (fun hm => ha (by rw [mS hm]; exact hL)) e
 have hcb2 : s₂.heap.IsTuple cb cs := by
  obtain ⟨o, e, c, n, d⟩ := hcb
  refine ⟨o, G02.keep cb o (fun hm => ?_) e, c, n, d⟩
  rcases mC hm with q | q
  ·obtain ⟨o', es, ep', e', d', _⟩ := F.ns
   have e'' : s.heap.get? L = some o' := e'
   have q' : cb = L := q
   rw [<- q', e] at e''; cases e''; rw [d] at d'; cases d'
  ·rw [mS q, hbk] at e; cases e; cases c
 have Mo : ∀ x : Str, x ≠ "entry" -> (fun y => if y = ("entry" : Str) then some v else m y) x = m x := fun x h => if_neg h
 have hbk2 : s₂.heap.get? (bk + 255) = some (bkObj (wW b1 b2 w) (dd + 255) L' ep') := G2.keep _ _ (fun hm => hbL (mS hm)) hb1
 have hp2 := RowB.keep k12 hp1
 refine wpAny_execs_cons (wpAny_If (wpAny_isTrue_Compare1 (ev_local F2 ((if_neg (by decide)).trans hm2) (evS fun tk s₃ G3 => cmpNe (wpAny_truthy_bool ?_)))))
 have F3 := F2.gr0 G3
 have G03 : Gr [48, L, L + 1, bk + 255] s s₃ := (G02.widen fun a ha => by
  rcases mC ha with e | e
  ·rw [e]; exact .tail _ (.head _)
  ·rw [mS e]; exact .tail _ (.tail _ (.tail _ (.head _)))).trans G3.nil
 have hac3 : AcT s₃.heap := hac2.at fun b o _ e => G3.k b o e
 have hp3 : Paired (RowB av (wW b1 b2 w) s₃.heap) L' (lookE B r.owner) := RowB.keep (fun a o _ _ e => G3.k a o e) hp2
 by_cases h0 : r.c2 = ""
 ·rw [show (!decide (r.c2 = "")) = false by rw [h0]; rfl]
  simp only [Bool.false_eq_true, if_false]
  refine wpAny_execs_nil (wpAny_execs_nil (hQ s₃ _ _ L' ep' G03 hac3 F3 ((if_neg (by decide)).trans hmb) (G3.k _ _ hbk2) (by lia) ?_))
  unfold stepB; rw [if_pos h0]; exact hp3
 ·rw [show (!decide (r.c2 = "")) = true by rw [decide_eq_false h0]; rfl]
  simp only [if_true]
  refine lb_if (e := (getE B r.owner).getD ent0) (B := lookE B r.owner) hA (G3.stat0 hs2) hac3 F3 ((if_neg (by decide)).trans hmb) ((if_neg (by decide)).trans hmo) ((if_neg (by decide)).trans hm1) ((if_neg (by decide)).trans hm2) ((if_neg (by decide)).trans hm3) ((if_neg (by decide)).trans hm4) ((if_neg (by decide)).trans hmc) (if_pos rfl)
   (hcb2.at fun o e => G3.k cb o e) hcs (hr h0) (G3.k _ _ hbk2) (by lia) (fun a ha => by obtain ⟨o, e⟩ := av2 a ha; exact ⟨o, G3.k a o e⟩) hL hL1 hb hbL hbL1 hLbig hp3 ((hv.keep k12).keep fun a o _ _ e => G3.k a o e) (hadd h0) fun s' m' cm' Lb' ep2 G' ac' F' hb' hbk' hl' hp' => wpAny_execs_nil ?_
  refine hQ s' m' cm' Lb' ep2 (G03.trans G') ac' F' hb' hbk' (by lia) ?_
  unfold stepB; rw [if_neg h0]; exact hp'
end
noncomputable def FzT (h : Heap) : Prop := h.get? 114 = some tab0 \/ X2_2 (fun co c => h.get? 114 = some (tab1 (co + 255))) (fun co c => h.get? (co + 255) = some (coObj c))
section
variable {b1 b2 : Bool} {w : World} {A : Around} {s : Shared} {E : Value -> Shared -> Prop}
theorem fz_callee {L bk dd ep : Nat} {Lb : DL} {p : Pos} {Q : Value × List Value -> Shared -> Prop} (hA : Deep 1 A) (hs : Stat b1 b2 w s.heap) (hb : s.heap.get? (bk + 255) = some (bkObj (wW b1 b2 w) (dd + 255) Lb ep)) (hd : s.heap.get? (dd + 255) = some dict0) (hQ : ∀ s', Gr [] s s' -> Q (.ref 119, [.ref (bk + 255)]) s') :
  wpAny (model theProg (wW b1 b2 w)) A (calleeOf true (.Name "book" p) (lbEnv L) (.ref (bk + 255)) "freeze") Q E s :=
 tree_ok [(bk + 255, bkObj (wW b1 b2 w) (dd + 255) Lb ep), (dd + 255, dict0)] 16 [1, 0, 0, 0, 1, 0, 0, 0, 1, 0, 0, 0, 0, 1, 2] [0, 1] [] (fun _ => (.ref 119, [.ref (bk + 255)])) (fun _ => []) (fun dep un γ tb c k => by intro nb xs; cases b1 <;> cases b2 <;> kernel_rfl) rfl hA hs (fun q hq => by
  replace hq := mr2 hq
  rcases hq with rfl | rfl
  ·exact hb
  ·exact hd) (fun q hq => by
  replace hq := mr2 hq
  rcases hq with rfl | rfl <;> exact dyn255 _) (by
  have ne : bk + 255 ≠ dd + 255 := fun e => by rw [e, hd] at hb; cases hb
  simpa using ne) rfl fun s' nb _ G _ => hQ s' G
theorem fz_keeper {Q : Keeper -> Shared -> Prop} (hA : Deep 1 A) (hs : Stat b1 b2 w s.heap) (hQ : ∀ s', Gr [] s s' -> Q .frame s') : wpAny (model theProg (wW b1 b2 w)) A (keeperOf (.ref 119)) Q E s :=
 tree_ok [] 1 [0] [] [] (fun _ => .frame) (fun _ => []) (fun dep un γ tb c k => by intro nb xs; cases b1 <;> cases b2 <;> kernel_rfl) rfl hA hs (fun _ h => nomatch h) (fun _ h => nomatch h) .nil rfl fun s' nb _ G _ => hQ s' G
theorem frz_ok {bk dd ep : Nat} {Lb : DL} {R : Result -> Shared -> Prop} (hA : Deep 1 A) (hs : Stat b1 b2 w s.heap) (hb : s.heap.get? (bk + 255) = some (bkObj (wW b1 b2 w) (dd + 255) Lb ep)) (hd : s.heap.get? (dd + 255) = some dict0) (hz : FzT s.heap)
  (hR : ∀ fn ce co ct tk c s', Gr [114, dd + 255] s s' -> FzT s'.heap -> Has s'.heap (fzL (wW b1 b2 w) dd bk fn ce co ct tk c Lb ep) -> R (.ok (.ret .none)) s') : codeAny (model theProg (wW b1 b2 w)) A (frzCode bk) R s := by
 have ne : bk + 255 ≠ dd + 255 := fun e => by rw [e, hd] at hb; cases hb
 have neb : bk + 255 ≠ 114 := fun e => absurd (Nat.le_add_left 255 bk) (by rw [e]; decide)
 have mk : ∀ {s' : Shared} {fn ce co ct tk : Nat} {c : Nat -> Nat}, s'.heap.get? (dd + 255) = some (fzDict (wW b1 b2 w) tk fn) -> s'.heap.get? (bk + 255) = some (bkObj (wW b1 b2 w) (dd + 255) Lb ep) -> s'.heap.get? (fn + 255) = some (lamObj (ce + 255) ct (co + 255)) -> s'.heap.get? (ce + 255) = some (cellObj bk) -> s'.heap.get? (co + 255) = some (coObj c) -> Has s'.heap (fzL (wW b1 b2 w) dd bk fn ce co ct tk c Lb ep) := fun h1 h2 h3 h4 h5 p hp => by
  simp only [fzL, List.mem_cons, List.not_mem_nil, or_false] at hp
  rcases hp with rfl | rfl | rfl | rfl | rfl
  ·exact h1
  ·exact h2
  ·exact h3
  ·exact h4
  ·exact h5
 rcases hz with h114 | ⟨co, c, h114, hco⟩
 ·refine codeAny_mono (frz0_ok (j0 := 0) (j1 := 1) (j2 := 2) (dd := dd) (bk := bk) (ep := ep) (L := Lb) A s hA hs (fun p hp => by
   simp only [xFrz0, List.mem_cons, List.not_mem_nil, or_false] at hp
   rcases hp with rfl | rfl | rfl
   ·exact h114
   ·exact hd
   ·exact hb)) fun r s' h => ?_
  obtain ⟨u, _, rfl, ef⟩ := h
  have G : Gr [114, dd + 255] s s' := ef.gr' fun p hp => by
   simp only [xFrz0, List.mem_cons, List.not_mem_nil, or_false] at hp
   rcases hp with rfl | rfl
   ·exact .head _
   ·exact .tail _ (.head _)
  have hb' := G.keep _ _ (fun hm => by
   rcases mC hm with e | e
   ·exact neb e
   ·exact ne (mS e)) hb
  have n1 := (ef.new _ (.head _)).1
  have n2 := (ef.new _ (.tail _ (.head _))).1
  have n3 := (ef.new _ (.tail _ (.tail _ (.head _)))).1
  exact hR (u.n 3) (u.n 4) (u.n 5) (u.n 7) (u.n 6) (fun i => u.n (8 + i)) s' G (.inr ⟨u.n 5, fun i => u.n (8 + i), ef.set _ (.head _), n3⟩) (mk (ef.set _ (.tail _ (.head _))) hb' n1 n2 n3)
 ·refine codeAny_mono (frz1_ok (j0 := 0) (j1 := 1) (j2 := 2) (dd := dd) (bk := bk) (co := co) (ep := ep) (L := Lb) A s hA hs (fun p hp => by
   simp only [xFrz1, List.mem_cons, List.not_mem_nil, or_false] at hp
   rcases hp with rfl | rfl | rfl
   ·exact h114
   ·exact hd
   ·exact hb)) fun r s' h => ?_
  obtain ⟨u, _, rfl, ef⟩ := h
  have G : Gr [dd + 255] s s' := ef.gr' fun p hp => by
   simp only [xFrz1, List.mem_cons, List.not_mem_nil, or_false] at hp
   rw [hp]; exact .head _
  have hb' := G.keep _ _ (fun hm => ne (mS hm)) hb
  have n1 := (ef.new _ (.head _)).1
  have n2 := (ef.new _ (.tail _ (.head _))).1
  have neco : co + 255 ≠ dd + 255 := ne_get hco hd (ne_cls (by show ¬ (Value.type "code" = Value.type "dict"); simp))
  have hco' := G.keep _ _ (fun hm => neco (mS hm)) hco
  have h114' := G.keep _ _ (fun hm => absurd (Nat.le_add_left 255 dd) (by rw [<- mS hm]; decide)) h114
  exact hR _ _ _ _ _ _ s' (g_new G (.tail _ (.head _))) (.inr ⟨_, _, h114', hco'⟩) (mk (ef.set _ (.head _)) hb' n1 n2 hco')
end
section
variable {b1 b2 : Bool} {w : World} {A : Around} {s : Shared}
theorem EntAv.sub {av av' : List Nat} {w : World} {h : Heap} {v : Value} {e : Ent} (x : EntAv av w h v e) (hs : ∀ a ∈ av', a ∈ av) : EntAv av' w h v e := by
 obtain ⟨a, d, t1, t2, t3, t4, rfl, ha, ha', hd, hd', e1, L, ep, e2, p⟩ := x
 exact ⟨a, d, t1, t2, t3, t4, rfl, ha, fun hm => ha' (hs _ hm), hd, fun hm => hd' (hs _ hm), e1, L, ep, e2, Paired.imp (fun p q h => ⟨h.1, VT.mono (fun _ _ _ e => e) (fun a h => ⟨h.1, fun hm => h.2 (hs _ hm)⟩) _ _ h.2⟩) p⟩
theorem ac_notup {h : Heap} (x : AcT h) {o : Obj} (e : h.get? 48 = some o) : ¬ (o.cls = .type "tuple" /\ ∃ vs n, o.data = .seq vs n) := by
 obtain ⟨ps, _, o', vs, file, tf, flags, tg, inF, text, tt, op, a, r1, r2, r3, r4, r5, r6, b, d, r⟩ := x
 rw [b] at e; cases e
 rintro ⟨_, _, _, q⟩
 rw [d] at q; cases q
set_option maxHeartbeats 8000000 in
theorem book_ok {l : Nat} {vs : Array Value} {rs : List Rc} {av0 : List Nat} {R : Result -> Shared -> Prop} (hA : Deep 5 A) (hs : Stat b1 b2 w s.heap) (hac : AcT s.heap) (hz : FzT s.heap) (hl : s.heap.IsList l vs) (hrs : RecsAt s.heap vs.toList rs) (hlen : rs.length <= 100)
  (hpar : ∀ r ∈ rs, r.c2 ≠ "" -> Par r) (hadd : ∀ (i : Nat) (r : Rc), rs[i]? = some r -> r.c2 ≠ "" -> AddsE ((getE (bookOf (rs.take i)) r.owner).getD ent0) (srcE r)) (hav0 : ∀ a ∈ av0, ∃ o, s.heap.get? a = some o)
  (hR : ∀ bk dd fn ce co ct tk c Lb ep s', Gr [48, 114] s s' -> AcT s'.heap -> FzT s'.heap -> Has s'.heap (fzL (wW b1 b2 w) dd bk fn ce co ct tk c Lb ep) -> Lb.length <= 200 -> Paired (RowB av0 (wW b1 b2 w) s'.heap) Lb (bookOf rs) -> s.heap.get? (bk + 255) = none -> s.heap.get? (dd + 255) = none -> R (.ok (.ret (.ref (bk + 255)))) s') :
  codeAny (model theProg (wW b1 b2 w)) A (.call (.ref 239) ⟨[.ref l], []⟩) R s := by
 refine enter hA.lt hs (book_fd _) (book_cd _) (binds := [("records", .ref l)]) rfl (fun x hx => by rw [mS hx]; exact .inl rfl) rfl rfl rfl fun s₀ I => ?_
 have hLbig : 255 <= s.heap.objs.size := hs.big
 generalize hLe : s.heap.objs.size = L at I hLbig ⊢
 have F0 := InCallC.fram I
 have hcells : (callEnvC (mkFd (atB prgB 13) "_law_book" .none pmL 238) L 239).cells = lbCs L := lbEnv_cells L
 rw [hcells] at F0
 replace F0 : Fram L (lbCs L) _ _ s₀ := F0
 have G0 : Gr [] s s₀ := InCallC.gr I
 have hL0 : s.heap.get? L = none := new_at (by lia)
 have hL10 : s.heap.get? (L + 1) = none := new_at (by lia)
 have hA' : Deep 4 (A.deeper (lbEnv L)) := hA.deeper
 have hm0 : (bindL (callEnvC fdBook L 239).kindOf [("records", .ref l)] fun _ => none) "records" = some (.ref l) := by kernel_rfl
 generalize (bindL (callEnvC fdBook L 239).kindOf [("records", .ref l)] fun _ => none) = m0 at F0 hm0
 generalize (bindC (callEnvC fdBook L 239).kindOf [("records", .ref l)] fun _ => none) = cm0 at F0
 generalize A.deeper (lbEnv L) = A' at hA' ⊢
 have hhA := hA'.handled
 have hA1 : Deep 1 A' := hA'.le (by decide)
 have hs0 := G0.stat0 hs
 refine wpAny_execs_cons (wpAny_Assign_Name (wpAny_Call_ofName (ev_glob hs0 (gl_fdd _) ?_)))
 refine callWith_any rfl (evalArgs_plain (spliced_cons (ev_glob (env := lbEnv L) hs0 (gl_noth _) (spliced_nil ?_))))
 refine key122 hA1 hs0 fun s₁ G1 => wpAny_call (codeAny_mono (fdd_ok A' s₁ hA1 (G1.stat0 hs0)) fun r s₂ h => ?_)
 obtain ⟨u, _, rfl, ef⟩ := h
 have G02 : Gr [] s s₂ := (G0.trans G1).trans (ef.gr rfl)
 have hnb := ef.new _ (.head _)
 have hnd := ef.new _ (.tail _ (.head _))
 have hb0 : s.heap.get? (u.n 3 + 255) = none := (G0.trans G1).dead (fun h => nomatch h) (new_at hnb.2)
 have hd0 : s.heap.get? (u.n 4 + 255) = none := (G0.trans G1).dead (fun h => nomatch h) (new_at hnd.2)
 have hLs1 : ∃ o, s₁.heap.get? L = some o := by obtain ⟨o, _, _, e, _⟩ := (F0.gr0 G1).ns; exact ⟨o, e⟩
 have hL1s1 : ∃ o, s₁.heap.get? (L + 1) = some o := by obtain ⟨o, e, _⟩ := (F0.gr0 G1).cell "given" (L + 1) rfl; exact ⟨o, e⟩
 have hbL : u.n 3 + 255 ≠ L := fun e => by obtain ⟨o, h⟩ := hLs1; rw [<- e, new_at hnb.2] at h; cases h
 have hbL1 : u.n 3 + 255 ≠ L + 1 := fun e => by obtain ⟨o, h⟩ := hL1s1; rw [<- e, new_at hnb.2] at h; cases h
 have hdL : u.n 4 + 255 ≠ L := fun e => by obtain ⟨o, h⟩ := hLs1; rw [<- e, new_at hnd.2] at h; cases h
 have hdL1 : u.n 4 + 255 ≠ L + 1 := fun e => by obtain ⟨o, h⟩ := hL1s1; rw [<- e, new_at hnd.2] at h; cases h
 have hbk2 := hnb.1
 have hdd2 := hnd.1
 have F2 := F0.gr0 ((G1.trans (ef.gr rfl)))
 refine F2.set (env := lbEnv L) rfl rfl fun s₃ G3 F3 => ?_
 have hbk3 := G3.keep _ _ (fun hm => hbL (mS hm)) hbk2
 have hdd3 := G3.keep _ _ (fun hm => hdL (mS hm)) hdd2
 have G03 : Gr [] s s₃ := (G02.nil.trans G3).new fun a ha => by rw [mS ha]; exact hL0
 have hs3 := G03.stat0 hs
 refine wpAny_execs_cons (ev_for (ev_local F3 ((if_neg (by decide)).trans hm0) (over_list (hl.at fun o e => G03.k _ o e) fun I sH GH hI hit hlH hne _ => ?_)))
 have G0H := G03.trans GH
 have FH := F3.gr0 GH
 have hIs : s.heap.get? I = none := G03.dead (fun h => nomatch h) hI
 have hIL : I ≠ L := fun e => by
  obtain ⟨o, _, _, h, _⟩ := F3.ns
  have h' : s₃.heap.get? L = some o := h
  rw [<- e, hI] at h'; cases h'
 have hIL1 : I ≠ L + 1 := fun e => by
  obtain ⟨o, h, _⟩ := F3.cell "given" (L + 1) rfl
  have h' : s₃.heap.get? (L + 1) = some o := h
  rw [<- e, hI] at h'; cases h'
 have hIb : I ≠ u.n 3 + 255 := fun e => by rw [e, hbk3] at hI; cases hI
 have hId : I ≠ u.n 4 + 255 := fun e => by rw [e, hdd3] at hI; cases hI
 have hn : vs.size = rs.length := by simpa using hrs.length
 have hbH := GH.k _ _ hbk3
 have hdH := GH.k _ _ hdd3
 have hdb : u.n 4 + 255 ≠ u.n 3 + 255 := fun e => by rw [e, hbH] at hdH; cases hdH
 have ne48 : u.n 3 + 255 ≠ 48 := fun e => absurd (Nat.le_add_left 255 (u.n 3)) (by rw [e]; decide)
 have nd48 : u.n 4 + 255 ≠ 48 := fun e => absurd (Nat.le_add_left 255 (u.n 4)) (by rw [e]; decide)
 have I48 : I ≠ 48 := fun e => by obtain ⟨⟨o, q⟩, _⟩ := ac_48 hac; rw [e, q] at hIs; cases hIs
 have I52 : I ≠ 52 := fun e => by obtain ⟨_, o, q⟩ := ac_48 hac; rw [e, q] at hIs; cases hIs
 have ownS : ∀ a ∈ [I, 48, L, L + 1, u.n 3 + 255], s.heap.get? a = none \/ a = 48 := fun a ha => by
  replace ha := mm5 ha
  rcases ha with h | h | h | h | h
  ·exact .inl (h ▸ hIs)
  ·exact .inr h
  ·exact .inl (h ▸ hL0)
  ·exact .inl (h ▸ hL10)
  ·exact .inl (h ▸ hb0)
 refine ⟨_, _, _, _, _, srcList hhA _ I l hne vs, ⟨hit, hlH⟩, fun i s' => X4_8 (fun m' cm' Lb ep => Fram L (lbCs L) m' cm' s') (fun m' cm' Lb ep => m' "book" = some (.ref (u.n 3 + 255))) (fun m' cm' Lb ep => s'.heap.get? (u.n 3 + 255) = some (bkObj (wW b1 b2 w) (u.n 4 + 255) Lb ep)) (fun m' cm' Lb ep => Lb.length <= 2 * i) (fun m' cm' Lb ep => Paired (RowB ((u.n 4 + 255) :: I :: (u.n 3 + 255) :: L :: (L + 1) :: av0) (wW b1 b2 w) s'.heap) Lb (bookOf (rs.take i))) (fun m' cm' Lb ep => AcT s'.heap) (fun m' cm' Lb ep => Gr [I, 48, L, L + 1, u.n 3 + 255] s s') (fun m' cm' Lb ep => s'.heap.get? (u.n 4 + 255) = some dict0), ?_, ?_, ?_, ?_⟩
 ·exact ⟨_, _, [], 0, FH, if_pos rfl, hbH, Nat.le_refl _, .nil, hac.at fun a o _ e => G0H.k a o e, G0H.nil, hdH⟩
 ·rintro i s' s'' ⟨m', cm', Lb, ep, f1, f2, f3, f4, f5, f6, f7, f8⟩ G
  refine ⟨m', cm', Lb, ep, f1.gr G (fun a ha hm => ?_), f2, G.keep _ _ (fun hm => hIb (mS hm).symm) f3, f4, RowB.keep (fun a o _ ha e => G.keep a o (fun hm => ha (by rw [mS hm]; exact .tail _ (.head _))) e) f5, f6.at fun a o h e => G.keep a o (fun hm => ?_) e, f7.trans (g_new G (.head _)), G.keep _ _ (fun hm => hId (mS hm).symm) f8⟩
  ·have hm' : a = I := mS hm
   rcases mC ha with e | e
   ·exact hIL (hm'.symm.trans e)
   ·exact hIL1 (hm'.symm.trans (mS e))
  ·have hm' : a = I := mS hm
   rcases h with h | h
   ·exact I52 (hm'.symm.trans h)
   ·exact I48 (hm'.symm.trans h)
 ·rintro i v s₅ hi ⟨m', cm', Lb, ep, f1, f2, f3, f4, f5, f6, f7, f8⟩ hfpa hv E'
  obtain ⟨r, hri, hrec⟩ := Paired.get hrs (i := i) (a := v) (by simpa using hv)
  have hil : i < rs.length := hn ▸ hi
  have krec : ∀ a o, s.heap.get? a = some o -> o.cls = .type "tuple" /\ (∃ vs n, o.data = .seq vs n) -> s₅.heap.get? a = some o := fun a o e ht => f7.keep a o (fun hm => by
   rcases ownS a hm with h | h
   ·rw [h] at e; cases e
   ·rw [h] at e; exact ac_notup hac e ht) e
  obtain ⟨ra, rb, t0, t1, t2, t3, t4, cs, rfl, hra, hrb, hcs⟩ := hrec.keep krec
  refine as_tuple (env := lbEnv L) hhA rfl [("owner", _), ("cc", _), ("nc", _), ("tt", _), ("ct", _), ("callers", _)] rfl (fun n hn => by
   replace hn := mr6 hn
   rcases hn with rfl | rfl | rfl | rfl | rfl | rfl <;> rfl) hra f1 fun s₆ G6 F6 => ?_
  have dyn5 : ∀ a ∈ [I, 48, L, L + 1, u.n 3 + 255], (ktop (wW b1 b2 w).params).get a = none := fun a ha => by
   rcases ownS a ha with h | h
   ·exact hs.free h
   ·rw [h]; exact ktop_48 _
  have G56 : Gr [I, 48, L, L + 1, u.n 3 + 255] s₅ s₆ := g_new G6 (.tail _ (.tail _ (.head _)))
  have hs6 : Stat b1 b2 w s₆.heap := (f7.trans G56).statF hs dyn5
  have kL : ∀ a o, a ≠ L -> s₅.heap.get? a = some o -> s₆.heap.get? a = some o := fun a o h e => G6.keep a o (fun hm => h (mS hm)) e
  have hdd5 : s₅.heap.get? (u.n 4 + 255) = some dict0 := f8
  have hav6 : ∀ a ∈ (u.n 4 + 255) :: I :: (u.n 3 + 255) :: L :: (L + 1) :: av0, ∃ o, s₆.heap.get? a = some o := fun a ha => by
   by_cases q0 : a = u.n 4 + 255
   ·exact ⟨_, by rw [q0]; exact kL _ _ hdL hdd5⟩
   by_cases q1 : a = I
   ·obtain ⟨o, e⟩ := hfpa I (.head _); exact ⟨o, by rw [q1]; exact kL _ _ hIL e⟩
   by_cases q2 : a = u.n 3 + 255
   ·exact ⟨_, by rw [q2]; exact kL _ _ hbL f3⟩
   by_cases q3 : a = L
   ·obtain ⟨o, _, _, e, _⟩ := F6.ns; exact ⟨o, by rw [q3]; exact e⟩
   by_cases q4 : a = L + 1
   ·obtain ⟨o, e, _⟩ := F6.cell "given" (L + 1) rfl; exact ⟨o, by rw [q4]; exact e⟩
   by_cases q5 : a = 48
   ·rw [q5]
    obtain ⟨⟨o, e⟩, _⟩ := ac_48 f6
    exact ⟨o, kL _ _ (fun q => by obtain ⟨⟨o2, q2⟩, _⟩ := ac_48 hac; rw [q, hL0] at q2; cases q2) e⟩
   have ha' : a ∈ av0 := by
    simp only [List.mem_cons] at ha
    rcases ha with h | h | h | h | h | h
    ·exact absurd h q0
    ·exact absurd h q1
    ·exact absurd h q2
    ·exact absurd h q3
    ·exact absurd h q4
    ·exact h
   obtain ⟨o, e⟩ := hav0 a ha'
   exact ⟨o, (f7.trans G56).keep a o (fun hm => by
    replace hm := mm5 hm
    rcases hm with h | h | h | h | h
    ·exact q1 h
    ·exact q5 h
    ·exact q3 h
    ·exact q4 h
    ·exact q2 h) e⟩
  refine lb_body (r := r) (cb := rb) (t0 := t0) (t1 := t1) (t2 := t2) (t3 := t3) (t4 := t4) (av := (u.n 4 + 255) :: I :: (u.n 3 + 255) :: L :: (L + 1) :: av0) (B := bookOf (rs.take i)) (Lb := Lb) (bk := u.n 3) (dd := u.n 4) hA' hs6 ?_ F6 ?_ (by kernel_rfl) (by kernel_rfl) (by kernel_rfl) (by kernel_rfl) (by kernel_rfl) (by kernel_rfl) ?_ hcs (hpar r (List.mem_of_getElem? hri)) (kL _ _ hbL f3) (kL _ _ hdL hdd5) (by lia) hav6 (by simp) (by simp) (by simp) hbL hbL1 hLbig
   (RowB.keep (fun a o _ ha e => kL a o (fun q => ha (by rw [q]; simp)) e) f5) (hadd i r hri) fun s' m2 cm2 Lb' ep' G' ac' F' hb' hbk' hl' hp' => ?_
  ·exact f6.at fun a o h e => kL a o (fun q => by
    have := ac_48 hac
    rcases h with h | h
    ·obtain ⟨_, o2, q2⟩ := this
     rw [<- h, q, hL0] at q2; cases q2
    ·obtain ⟨⟨o2, q2⟩, _⟩ := this
     rw [<- h, q, hL0] at q2; cases q2) e
  ·have : updL m' ["owner", "cc", "nc", "tt", "ct", "callers"] [.str r.owner t0, .str r.c1 t1, .str r.c2 t2, .str r.c3 t3, .str r.c4 t4, .ref rb] "book" = m' "book" := by kernel_rfl
   exact this.trans f2
  ·obtain ⟨o, e, c, n, d⟩ := hrb
   refine ⟨o, kL rb o (fun q => ?_) e, c, n, d⟩
   obtain ⟨o', es, ep', e', d', _⟩ := f1.ns
   have e'' : s₅.heap.get? L = some o' := e'
   rw [<- q, e] at e''; cases e''; rw [d] at d'; cases d'
  ·refine ⟨.inl rfl, ⟨m2, cm2, Lb', ep', F', hb', hbk', by lia, ?_, ac', (f7.trans G56).trans (G'.widen fun a ha => .tail _ ha), G'.keep _ _ (fun hm => by
    replace hm := mm4 hm
    rcases hm with h | h | h | h
    ·exact nd48 h
    ·exact hdL h
    ·exact hdL1 h
    ·exact hdb h) (kL _ _ hdL hdd5)⟩, [48, L, L + 1, u.n 3 + 255], (g_new G6 (.tail _ (.head _))).trans G', fun b hb hm => ?_⟩
   ·unfold bookOf at hp' ⊢
    rw [fold_take _ hri]; exact hp'
   ·rcases mC hb with q | q
    ·rw [q] at hm
     replace hm := mm4 hm
     rcases hm with h | h | h | h
     ·exact I48 h
     ·exact hIL h
     ·exact hIL1 h
     ·exact hIb h
    ·rw [mS q] at hm
     obtain ⟨o, e, c, n, d⟩ := hl
     rcases ownS l (.tail _ hm) with h | h
     ·rw [h] at e; cases e
     ·rw [h] at e
      obtain ⟨ps, _, o', vs', file, tf, flags, tg, inF, text, tt, op, q1, q2, q3, q4, q5, q6, q7, q8, q9, q10⟩ := hac
      rw [q8] at e; cases e
      rw [d] at q9; cases q9
 ·rintro s₅ ⟨m', cm', Lb, ep, f1, f2, f3, f4, f5, f6, f7, f8⟩
  dsimp only
  rw [hn, List.take_of_length_le (Nat.le_refl _)] at f5
  have hs5 : Stat b1 b2 w s₅.heap := f7.statF hs fun a ha => by
   rcases ownS a ha with h | h
   ·exact hs.free h
   ·rw [h]; exact ktop_48 _
  refine wpAny_execs_cons (wpAny_Expr_any (ev_meth rfl rfl rfl (ev_local f1 f2 (fz_callee hA1 hs5 f3 f8 fun s₆ G6 => ?_))))
  have F6 := f1.gr0 G6
  refine callWith_any rfl (PySem.evalArgs_none (fz_keeper hA1 (G6.stat0 hs5) fun s₇ G7 => wpAny_call ?_))
  have G57 := G6.trans G7
  have hz7 : FzT s₇.heap := by
   have k : ∀ a o, a ≠ 48 -> s.heap.get? a = some o -> s₇.heap.get? a = some o := fun a o h e => G57.k a o (f7.keep a o (fun hm => by
    rcases ownS a hm with q | q
    ·rw [q] at e; cases e
    ·exact h q) e)
   rcases hz with h | ⟨co, c, h, h'⟩
   ·exact .inl (k _ _ (by decide) h)
   ·exact .inr ⟨co, c, k _ _ (by decide) h, k _ _ (fun e => absurd (Nat.le_add_left 255 co) (by rw [e]; decide)) h'⟩
  refine frz_ok hA1 (G57.stat0 hs5) (G57.k _ _ f3) (G57.k _ _ f8) hz7 fun fn ce co ct tk c s₈ G8 hz8 hH8 => ?_
  have h114 : ∃ o, s.heap.get? 114 = some o := by
   rcases hz with h | ⟨_, _, h, _⟩
   ·exact ⟨_, h⟩
   ·exact ⟨_, h⟩
  have ne114 : ∀ a : Nat, s.heap.get? a = none -> a ≠ 114 := fun a h e => by obtain ⟨o, q⟩ := h114; rw [e, q] at h; cases h
  have F8 : Fram L (lbCs L) m' cm' s₈ := ((f1.gr0 G57).gr G8) fun a ha hm => by
   simp only [List.mem_cons, List.not_mem_nil, or_false] at hm
   have ha' : a = L \/ a = L + 1 := by
    rcases mC ha with e | e
    ·exact .inl e
    ·exact .inr (mS e)
   rcases ha' with e | e <;> rcases hm with q | q
   ·exact ne114 L hL0 (e.symm.trans q)
   ·exact hdL (q.symm.trans e)
   ·exact ne114 (L + 1) hL10 (e.symm.trans q)
   ·exact hdL1 (q.symm.trans e)
  show wpAny _ _ _ _ _ s₈
  refine wpAny_execs_cons (wpAny_Return_some (ev_local F8 f2 ?_))
  refine hR (u.n 3) (u.n 4) fn ce co ct tk c Lb ep s₈ ((((f7.trans G57.nil).widen (own' := 114 :: (u.n 4 + 255) :: [I, 48, L, L + 1, u.n 3 + 255]) fun a ha => .tail _ (.tail _ ha)).trans (G8.widen fun a ha => by
   replace ha := mm2 ha
   rcases ha with h | h <;> simp [h])).shrink fun a ha => ?_) (f6.at fun a o h e => G8.keep a o (fun hm => ?_) (G57.k a o e)) hz8 hH8 (by lia) ?_ hb0 hd0
  ·rcases mC ha with h | ha
   ·exact .inl (by rw [h]; simp)
   rcases mC ha with h | ha
   ·exact .inr (by rw [h]; exact hd0)
   rcases ownS a ha with h | h
   ·exact .inr h
   ·exact .inl (by rw [h]; simp)
  ·replace hm := mm2 hm
   rcases h with h | h <;> rcases hm with q | q
   ·exact absurd (h.symm.trans q) (by decide)
   ·exact absurd (Nat.le_add_left 255 (u.n 4)) (by rw [<- q, h]; decide)
   ·exact absurd (h.symm.trans q) (by decide)
   ·exact nd48 (q.symm.trans h)
  ·refine Paired.imp (fun p q h => ⟨h.1, (h.2.keep fun a o h255 ha e => G8.keep a o (fun hm => ?_) (G57.k a o e)).sub fun a ha => .tail _ (.tail _ (.tail _ (.tail _ (.tail _ ha))))⟩) f5
   replace hm := mm2 hm
   rcases hm with q | q
   ·rw [q] at h255; exact absurd h255 (by decide)
   ·exact ha (by rw [q]; exact .head _)
end
noncomputable abbrev laB : List Stmt := bodyOf (atB prgB 16)
noncomputable abbrev laEnv (L : Nat) : Env := callEnvC fdLaw L 254
noncomputable def laCs (L : Nat) : List (Str × Nat) := [("rest", L + 2), ("book", L + 1)]
theorem laEnv_cells (L : Nat) : (laEnv L).cells = laCs L := by kernel_rfl
section
variable {b1 b2 : Bool} {w : World} {A : Around} {s : Shared} {E : Value -> Shared -> Prop}
theorem it_callee {x : Str} {L bk dd ep tk fn : Nat} {Lb : DL} {p : Pos} {Q : Value × List Value -> Shared -> Prop} (hA : Deep 1 A) (hs : Stat b1 b2 w s.heap) (hb : s.heap.get? (bk + 255) = some (bkObj (wW b1 b2 w) (dd + 255) Lb ep)) (hd : s.heap.get? (dd + 255) = some (fzDict (wW b1 b2 w) tk fn)) (hQ : ∀ s', Gr [] s s' -> Q (.builtin "dict.items", [.ref (bk + 255)]) s') :
  wpAny (model theProg (wW b1 b2 w)) A (calleeOf true (.Name x p) (laEnv L) (.ref (bk + 255)) "items") Q E s :=
 tree_ok [(bk + 255, bkObj (wW b1 b2 w) (dd + 255) Lb ep), (dd + 255, fzDict (wW b1 b2 w) tk fn)] 15 [1, 0, 0, 0, 1, 0, 0, 0, 1, 0, 0, 0, 1, 2] [0, 1] [] (fun _ => (.builtin "dict.items", [.ref (bk + 255)])) (fun _ => []) (fun dep un γ tb c k => by intro nb xs; cases b1 <;> cases b2 <;> kernel_rfl) rfl hA hs (fun q hq => by
  replace hq := mr2 hq
  rcases hq with rfl | rfl
  ·exact hb
  ·exact hd) (fun q hq => by
  replace hq := mr2 hq
  rcases hq with rfl | rfl <;> exact dyn255 _) (by
  have ne : bk + 255 ≠ dd + 255 := fun e => by rw [e, hd] at hb; cases hb
  simpa using ne) rfl fun s' nb _ G _ => hQ s' G
end
section
variable {prog : Program} {w : World} {A : Around}
theorem srcEnum (hh : A.handled = none) {elts : List Expr} {x1 : Nat} {tp : Pos} (e it l : Nat) (h1 : e ≠ it) (h2 : l ≠ e) (h3 : l ≠ it) (items : Array Value) :
  Src prog w A (.Tuple elts x1 tp) (.ref e) [e, it, l] [e, it] items.size (fun i h => (∃ old, IsEnum h e it (i : Int) old) /\ h.IsListIter it l i /\ h.IsList l items) (fun i v h => X3_3 (fun T x tk => v = .ref T) (fun T x tk => items[i]? = some x) (fun T x tk => h.get? T = some (tup #[.int (i : Int) tk, x]))) where
 sub := fun b hb => by simp at hb; rcases hb with rfl | rfl <;> simp
 frame := fun i h h' st hk => ⟨let ⟨o, q⟩ := st.1; ⟨o, hk e (by simp) _ q⟩, st.2.1.at fun o q => hk it (by simp) o q, st.2.2.at fun o q => hk l (by simp) o q⟩
 alive := fun i h st b hb => by
  replace hb := mr3 hb
  rcases hb with rfl | rfl | rfl
  ·obtain ⟨o, q⟩ := st.1; exact ⟨_, q⟩
  ·obtain ⟨o, q, _⟩ := st.2.1; exact ⟨o, q⟩
  ·obtain ⟨o, q, _⟩ := st.2.2; exact ⟨o, q⟩
 item := fun i s Q E hi st hQ => by
  obtain ⟨⟨old, he⟩, hit, hl⟩ := st
  have hel : e < s.heap.objs.size := Heap.lt_size he
  refine wpAny_pyNext_enum_item he hit hl (Array.getElem?_eq_getElem hi) h1 fun h' q1 q2 q3 q4 q5 => ⟨_, rfl, wpAny_letOwnedTupleGo_enum q1 fun h'' r1 r2 => ?_⟩
  replace r2 : Heap.SameBut e h' h'' := r2
  refine hQ _ _ (gr_out (s := s) (tk := s.toks + 1) fun b o hb q => r2.extBut b o (fun x => hb (by rw [x]; exact .head _)) (q5 b o (fun x => hb (by rw [x]; exact .head _)) (fun x => hb (by rw [x]; exact .tail _ (.head _))) q)) ⟨⟨_, by exact_mod_cast r1⟩, q2.extBut r2.extBut (Ne.symm h1), (hl.at fun o q => q5 l o h2 h3 q).extBut r2.extBut h2⟩ ⟨_, _, s.toks, rfl, Array.getElem?_eq_getElem hi, r2.extBut _ _ (Nat.ne_of_gt hel) q3⟩
 done := fun s Q E st hQ => by
  obtain ⟨⟨old, he⟩, hit, hl⟩ := st
  exact wpAny_pyNext_enum_end hh he hit hl (by simp) fun h' q => ⟨rfl, hQ _ (gr_out (s := s) (tk := s.toks) fun b o hb e' => q b o (fun x => hb (by rw [x]; exact .tail _ (.head _))) e')⟩
 self := fun i s Q E st hQ => by
  obtain ⟨⟨old, he⟩, _⟩ := st
  exact wpAny_pyIter_enum he hQ
end
section
variable {prog : Program} {w : World} {A : Around} {E : Value -> Shared -> Prop} {s : Shared}
theorem keys_next {it d i ep : Nat} {L : DL} {p : Str × Tok × Value} {Q : Option Value -> Shared -> Prop} (hit : s.heap.IsKeyIter it d i L.length ep) (hm : HasD w s.heap d L ep) (hx : L[i]? = some p)
  (hQ : ∀ h', Heap.SameBut it s.heap h' -> h'.IsKeyIter it d (i + 1) L.length ep -> Q (some (.str p.1 p.2.1)) { s with heap := h' }) : wpAny (model prog w) A (pyNext (.ref it)) Q E s := by
 obtain ⟨o, ho, hc, hd⟩ := id hit
 obtain ⟨od, hod, hdd⟩ := id hm
 unfold pyNext
 refine wpAny_bind (wpAny_attempt (wpAny_callSpecial?_slot (name := Str.ofString "__next__") hit.typeIs F.slot_dict_keyiterator_next (wpAny_call_entry F.slot_dict_keyiterator_next hit.typeIs F.entry_dict_keyiterator_next ?_ (F.args_dict_keyiterator_next_1 _))))
 refine wpAny_bind (wpAny_pure (wpAny_bind (wpAny_bind ?_)))
 first | refine wpAny_bind (wpAny_typeNameOfWhole_keyiter hit.typeIs (wpAny_pure ?_)) | refine wpAny_bind (wpAny_typeNameOf_keyiter hit.typeIs (wpAny_pure ?_))
 refine wpAny_bind (wpAny_fieldsOf ho hd ?_)
 have hown : Builtin.Dict_items.ownsTuple "dict_keyiterator" = false := by decide
 simp only [hown, Bool.false_eq_true, if_false]
 show wpAny _ _ (if (Value.ref d == Value.none) = true then _ else _) _ _ s
 rw [if_neg (show ¬ ((Value.ref d == Value.none) = true) from Bool.false_ne_true)]
 refine wpAny_bind (wpAny_pure (wpAny_bind (wpAny_dictEntries hod hdd ?_)))
 rw [if_neg (by rw [ents_size]; simp)]
 refine wpAny_bind (wpAny_pure (wpAny_bind (wpAny_dictEpoch hod hdd ?_)))
 rw [if_neg (by simp)]
 refine wpAny_pure ?_
 have he : (ents w L)[i]? = some (ent w p) := by
  unfold ents
  rw [List.getElem?_toArray, List.getElem?_map, hx]; rfl
 simp only [show ¬ ((i : Int) < 0) from by lia, if_false, Int.toNat_natCast, he]
 refine wpAny_bind ?_
 first | refine wpAny_bind (wpAny_typeNameOfWhole_keyiter hit.typeIs (wpAny_pure ?_)) | refine wpAny_bind (wpAny_typeNameOf_keyiter hit.typeIs (wpAny_pure ?_))
 refine wpAny_bind (wpAny_isOneOf_keyiter hit.typeIs ?_)
 show wpAny _ _ (setField (.ref it) 1 (rawInt ((i : Int) + 1)) >>= _) _ _ s
 refine wpAny_bind (wpAny_setField ho hd (by simp) ?_)
 have hit' : (s.heap.update it (Obj.mapFields (·.setIfInBounds 1 (rawInt ((i : Int) + 1))))).IsKeyIter it d (i + 1) L.length ep :=
  ⟨_, Heap.get?_update_self _ ho (Obj.isFreed_of_fields (Obj.data_mapFields hd _)), (Obj.cls_mapFields ..).trans hc, by rw [Obj.data_mapFields hd]; simp [rawInt]⟩
 refine wpAny_bind (wpAny_holding (wpAny_bind (wpAny_isOneOf_keyiter (s := { s with heap := s.heap.update it (Obj.mapFields (·.setIfInBounds 1 (rawInt ((i : Int) + 1)))) }) hit'.typeIs ?_)))
 show wpAny _ _ (pure (Value.str p.1 p.2.1)) _ _ _
 exact wpAny_pure (wpAny_pure ⟨_, rfl, wpAny_pure (hQ _ (Heap.SameBut.update ..) hit')⟩)
theorem keys_end {it d i ep : Nat} {L : DL} {Q : Shared -> Prop} (hh : A.handled = none) (hit : s.heap.IsKeyIter it d i L.length ep) (hm : HasD w s.heap d L ep) (hx : L[i]? = none) (hQ : ∀ h', (∀ b o, b ≠ it -> s.heap.get? b = some o -> h'.get? b = some o) -> Q { s with heap := h' }) :
  wpAny (model prog w) A (pyNext (.ref it)) (fun r s₁ => r = none /\ Q s₁) E s := by
 obtain ⟨o, ho, hc, hd⟩ := id hit
 obtain ⟨od, hod, hdd⟩ := id hm
 unfold pyNext
 refine wpAny_bind (wpAny_attempt (wpAny_callSpecial?_slot (name := Str.ofString "__next__") hit.typeIs F.slot_dict_keyiterator_next (wpAny_call_entry F.slot_dict_keyiterator_next hit.typeIs F.entry_dict_keyiterator_next ?_ (F.args_dict_keyiterator_next_1 _))))
 refine wpAny_bind (wpAny_pure (wpAny_bind (wpAny_bind ?_)))
 first | refine wpAny_bind (wpAny_typeNameOfWhole_keyiter hit.typeIs (wpAny_pure ?_)) | refine wpAny_bind (wpAny_typeNameOf_keyiter hit.typeIs (wpAny_pure ?_))
 refine wpAny_bind (wpAny_fieldsOf ho hd ?_)
 have hown : Builtin.Dict_items.ownsTuple "dict_keyiterator" = false := by decide
 simp only [hown, Bool.false_eq_true, if_false]
 show wpAny _ _ (if (Value.ref d == Value.none) = true then _ else _) _ _ s
 rw [if_neg (show ¬ ((Value.ref d == Value.none) = true) from Bool.false_ne_true)]
 refine wpAny_bind (wpAny_pure (wpAny_bind (wpAny_dictEntries hod hdd ?_)))
 rw [if_neg (by rw [ents_size]; simp)]
 refine wpAny_bind (wpAny_pure (wpAny_bind (wpAny_dictEpoch hod hdd ?_)))
 rw [if_neg (by simp)]
 refine wpAny_pure ?_
 have hge : (ents w L).size <= i := by rw [ents_size]; simpa using hx
 simp only [show ¬ ((i : Int) < 0) from by lia, if_false, Int.toNat_natCast, Array.getElem?_eq_none hge]
 refine wpAny_bind ?_
 first | refine wpAny_bind (wpAny_typeNameOfWhole_keyiter hit.typeIs (wpAny_pure ?_)) | refine wpAny_bind (wpAny_typeNameOf_keyiter hit.typeIs (wpAny_pure ?_))
 show wpAny _ _ (setField (.ref it) 0 .none >>= _) _ _ s
 refine wpAny_bind (wpAny_setField ho hd (by simp) ?_)
 show wpAny _ _ (newExc (.type "StopIteration") [] >>= _) _ _ _
 refine wpAny_bind ?_
 simp only [newExc, newTuple]
 refine wpAny_bind (wpAny_newObj_type ?_ (by size_fits))
 refine wpAny_bind (m := firstArgMember _ _) (wpAny_of_eq (a := Value.none) (by first | rfl | (simp only [firstArgMember]; rfl)) ?_)
 refine wpAny_newObj_type ?_ (by size_fits)
 simp only [raiseNew]
 refine wpAny_bind (wpAny_handled ?_)
 rw [show A.in1.handled = none from hh]
 refine wpAny_bind (wpAny_pure (wpAny_throw ?_))
 refine wpAny_bind (wpAny_isInstance (T := "StopIteration") (b := true) ⟨_, Heap.get?_push_size _ rfl, rfl⟩ isSubtype_stop ?_)
 exact wpAny_pure ⟨rfl, hQ _ fun b o hb e => (((Heap.SameBut.update ..).extBut.push _).push _) b o hb e⟩
theorem srcKeys (hh : A.handled = none) (tg : Expr) (I d : Nat) (hne : d ≠ I) (L : DL) (ep : Nat) :
  Src prog w A tg (.ref I) [I, d] [I] L.length (fun i h => h.IsKeyIter I d i L.length ep /\ HasD w h d L ep) (fun i v _ => ∃ p, L[i]? = some p /\ v = .str p.1 p.2.1) where
 sub := fun b hb => by simp at hb; simp [hb]
 frame := fun _ _ _ st hk => ⟨let ⟨o, e, r⟩ := st.1; ⟨o, hk I (by simp) o e, r⟩, st.2.at fun o e => hk d (by simp) o e⟩
 alive := fun i h st b hb => by
  replace hb := mr2 hb
  rcases hb with rfl | rfl
  ·obtain ⟨o, e, _⟩ := st.1; exact ⟨o, e⟩
  ·obtain ⟨o, e, _⟩ := st.2; exact ⟨o, e⟩
 item := fun i s Q E hi st hQ => by
  refine keys_next st.1 st.2 (List.getElem?_eq_getElem hi) fun h' hs' hit' => ⟨_, rfl, ?_⟩
  obtain ⟨o, e, hc, _⟩ := id hit'
  exact go_owner (s := { s with heap := h' }) e hc (by decide) (hQ _ _ (gr_same (tk := s.toks) hs') ⟨hit', st.2.at fun o e => hs'.extBut d o hne e⟩ ⟨_, List.getElem?_eq_getElem hi, rfl⟩)
 done := fun s Q E st hQ => keys_end hh st.1 st.2 (by simp) fun h' k => hQ _ (gr_ext (tk := s.toks) k)
 self := fun i s Q E st hQ => wpAny_pyIter_keyiter st.1 hQ
theorem walksKeys (hh : A.handled = none) (I d : Nat) (hne : d ≠ I) (L : DL) (ep : Nat) :
  Walks prog w A I [I, d] [I] L.length (fun i v => ∃ p, L[i]? = some p /\ v = .str p.1 p.2.1) (fun i h => h.IsKeyIter I d i L.length ep /\ HasD w h d L ep) where
 sub := fun b hb => by simp at hb; simp [hb]
 frame := fun _ _ _ st hk => ⟨let ⟨o, e, r⟩ := st.1; ⟨o, hk I (by simp) o e, r⟩, st.2.at fun o e => hk d (by simp) o e⟩
 item := fun i s Q E hi st hQ => keys_next st.1 st.2 (List.getElem?_eq_getElem hi) fun h' hs' hit' => hQ _ h' s.toks ⟨_, List.getElem?_eq_getElem hi, rfl⟩ ⟨hit', st.2.at fun o e => hs'.extBut d o hne e⟩ fun b o hb e => hs'.extBut b o (fun h => hb (by simp [h])) e
 done := fun s Q E st hQ => wpAny_mono (keys_end (Q := fun s₁ => Q none s₁) hh st.1 st.2 (by simp) fun h' k => hQ h' s.toks fun b o hb e => k b o (fun h => hb (by simp [h])) e) (fun r s₁ h => by obtain ⟨rfl, h⟩ := h; exact h) fun _ _ e => e
 self := fun i s Q E st hQ => wpAny_pyIter_keyiter st.1 hQ
end
theorem plain_dcontains : plainId "dict.__contains__" = true := by decide +kernel
theorem has_check (b1 b2 : Bool) (w : World) (dep un : Nat) (fr : Option (List Env)) (gs : Option (List Code)) (γ tb bk dd ep t : Nat) (L : DL) (k : Str) :
  Chk (VV b1 b2 w dep un fr gs γ) (hasCode bk k t) (den (hasCode bk k t)) [(bk + 255, bkObj (wW b1 b2 w) (dd + 255) L ep)] tb (fun _ => .go 2 [1, 0] .done) [0]
   (fun _ _ => ⟨none, .base, .pure (.again (.builtin "dict.__contains__" ⟨[.ref (bk + 255), .str k t], []⟩)), [], objsOf [(bk + 255, bkObj (wW b1 b2 w) (dd + 255) L ep)]⟩) := by
 intro nb xs
 cases b1 <;> cases b2 <;> kernel_rfl
section
variable {b1 b2 : Bool} {w : World} {A : Around} {s : Shared} {E : Value -> Shared -> Prop}
theorem bhas_ok {bk dd ep : Nat} {L : DL} {k : Str} {t : Tok} {R : Result -> Shared -> Prop} (hA : Deep 1 A) (hs : Stat b1 b2 w s.heap) (hb : s.heap.get? (bk + 255) = some (bkObj (wW b1 b2 w) (dd + 255) L ep)) (hR : ∀ s', Gr [] s s' -> R (.ok (.ret (.bool (getL L k).isSome))) s') :
  codeAny (model theProg (wW b1 b2 w)) A (hasCode bk k t) R s := by
 obtain ⟨hh, dep, fr, gs, un⟩ := A
 obtain ⟨rfl, hdp, hu⟩ := hA
 refine codeBy [(bk + 255, bkObj (wW b1 b2 w) (dd + 255) L ep)] (fun _ => .go 2 [1, 0] .done) [0] _ hs (fun p hp => by rw [mS hp]; exact ⟨hb, dyn255 _⟩) (by simp) rfl hdp hu (fun _ => trivial) (has_check b1 b2 w dep un fr gs _ s.toks bk dd ep t L k) ?_
 intro nb xs st hnb _ hsee
 have e := See.mk.inj hsee
 refine endAgain e.1 e.2.1 e.2.2.1 (plainId_quiet plain_dcontains _) fun s₁ R₁ => ?_
 have h1 := (seeHas R₁ _ _ e.2.2.2.2).1
 have G1 : Gr [] s s₁ := ((R₁.eff (n := 0) e.2.2.2.1).forget rfl (one_has hb) h1).gr
 refine codeOwn entry_dict_contains ?_
 show wpOwn _ _ _ (dictGet (bk + 255) (.str k t) >>= _) _ _ s₁
 refine wpOwn_bind (wpOwn_of_wpAny (wpAny_getL (h1 _ (.head _)) rfl ?_))
 have G2 : Gr [] s { s₁ with toks := s₁.toks + 1 } := G1.tok _
 cases hg : getL L k with
 | some v =>
  rw [hg] at hR
  exact y_pure _ _ _ _ _ _ _ _ _ (y_done _ _ _ _ _ _ (hR _ G2))
 | none =>
  rw [hg] at hR
  show wpOwn _ _ _ (Builtin.Dict.pendingKey? (bk + 255) (.str k t) >>= _) _ _ _
  exact wpOwn_bind (wpOwn_of_wpAny (wpAny_pendingKey_other (sys255 bk) (y_pure _ _ _ _ _ _ _ _ _ (y_done _ _ _ _ _ _ (hR _ G2)))))
end
section
variable {b1 b2 : Bool} {w : World} {A : Around} {s : Shared} {E : Value -> Shared -> Prop}
theorem bk_contains {bk dd ep : Nat} {L : DL} {k : Str} {t : Tok} {Q : Bool -> Shared -> Prop} (hA : Deep 1 A) (hs : Stat b1 b2 w s.heap) (hb : s.heap.get? (bk + 255) = some (bkObj (wW b1 b2 w) (dd + 255) L ep)) (hQ : ∀ s', Gr [] s s' -> Q (getL L k).isSome s') :
  wpAny (model theProg (wW b1 b2 w)) A (contains (.ref (bk + 255)) (.str k t)) Q E s := by
 unfold contains
 try with_reducible refine wpAny_holding ?_
 refine wpAny_bind (bk_sph hA hs hb fun s₁ G1 => ?_)
 rw [if_neg (by rw [beq_builtin_none]; exact Bool.false_ne_true)]
 unfold callSpecialUnlessNone?
 refine wpAny_bind (wpAny_bind (bk_sph hA (G1.stat0 hs) (G1.k _ _ hb) fun s₂ G2 => ?_))
 simp only [slot_dict_contains.bind]
 have G12 := G1.trans G2
 refine wpAny_holding (wpAny_bind (wpAny_pure ?_))
 rw [if_neg (show ¬ ((Value.builtin "dict.__contains__" == Value.none) = true) from Bool.false_ne_true)]
 refine wpAny_bind (wpAny_call (bhas_ok hA (G12.stat0 hs) (G12.k _ _ hb) fun s₃ G3 => ?_))
 exact wpAny_pure (wpAny_truthy_bool (hQ s₃ (G12.trans G3)))
theorem bk_notin {bk dd ep : Nat} {L : DL} {k : Str} {t : Tok} {Q : Value -> Shared -> Prop} (hA : Deep 1 A) (hs : Stat b1 b2 w s.heap) (hb : s.heap.get? (bk + 255) = some (bkObj (wW b1 b2 w) (dd + 255) L ep)) (hQ : ∀ s', Gr [] s s' -> Q (.bool (!(getL L k).isSome)) s') :
  wpAny (model theProg (wW b1 b2 w)) A (compareOp .NotIn (.str k t) (.ref (bk + 255))) Q E s := by
 show wpAny _ _ (do return .bool (!(<- contains (.ref (bk + 255)) (.str k t)))) Q E s
 exact wpAny_bind (bk_contains hA hs hb fun s' G => wpAny_pure (hQ s' G))
end
section
variable {prog : Program} {w : World} {A : Around} {E : Value -> Shared -> Prop} {s : Shared} {env : Env}
theorem pick_upto_any (items : Array Value) (k : Nat) : slicePick items none (some (k : Int)) none = (items.toList.take k).toArray := by
 by_cases h : k <= items.size
 ·exact slicePick_upto items k h
 ·have e : slicePick items none (some (k : Int)) none = slicePick items none (some (items.size : Int)) none := by
   have e2 : ∀ j : Nat, items.size <= j -> sliceBounds none (some (j : Int)) none items.size = (0, (items.size : Int), 1) := fun j hj => by
    simp only [sliceBounds, Option.getD_none]
    have h2 : ¬ ((j : Int) < 0) := by lia
    simp only [h2, if_false, show (1 : Int) > 0 by decide, if_true]
    congr 1
    congr 1; lia
   unfold slicePick
   rw [e2 k (by lia), e2 items.size (Nat.le_refl _)]
  rw [e, slicePick_upto items items.size (Nat.le_refl _), List.take_of_length_le (by simp), List.take_of_length_le (by simp; lia)]
theorem pick_from_any (items : Array Value) (k : Nat) (h : k <= items.size) : slicePick items (some (k : Int)) none none = (items.toList.drop k).toArray := slicePick_from items k h
theorem ev_sliceL {value : Expr} {lower upper : Option Expr} {p2 p3 : Pos} {Q : Value -> Shared -> Prop}
  (h : wpAny (model prog w) A (eval value env) (fun o s₁ => wpAny (model prog w) A (evalPart lower env) (fun vl s₂ => wpAny (model prog w) A (evalPart upper env) (fun vu s₃ => X4_6 (fun l items lo hi => o = .ref l) (fun l items lo hi => s₃.heap.IsList l items) (fun l items lo hi => items.size <= sizeLine) (fun l items lo hi => IsPart vl lo) (fun l items lo hi => IsPart vu hi) (fun l items lo hi => ∀ D s', Gr [] s₃ s' -> s₃.heap.get? D = none -> s'.heap.PlainList D (slicePick items lo hi none) -> Q (.ref D) s')) E s₂) E s₁) E s)
  (ht : autoParam (∀ o r, letTemporaryGo value o r = pure ()) byRfl) : wpAny (model prog w) A (eval (.Subscript value (.Slice lower upper none p2) p3) env) Q E s := by
 refine wpAny_Subscript_Slice (T := "list") list_getitem_lookup (wpAny_mono h (fun o s₁ h₁ => wpAny_Slice (wpAny_mono h₁ (fun vl s₂ h₂ => wpAny_mono h₂ (fun vu s₃ h₃ => wpAny_evalPart_none ?_) fun _ _ e => e) fun _ _ e => e)) fun _ _ e => e) ht
 obtain ⟨l, items, lo, hi, rfl, hl, hsz, pl, pu, hQ⟩ := h₃
 have hl' : (s₃.heap.push { cls := .type "slice", data := .fields #[vl, vu, .none] }).IsList l items := hl.push _
 refine ⟨?_, ?_⟩
 ·obtain ⟨o, e, hc, _⟩ := hl'
  exact ⟨o, e, hc⟩
 ·refine wpAny_getItem_list_slice (hsz := hsz) (st := none) hl' (Heap.IsSliceOf.new ..) pl pu .none (by decide) ?_
  refine hQ _ _ (gr_keep (s := s₃) (tk := s₃.toks) fun b o e => Heap.get?_push_of_some _ (Heap.get?_push_of_some _ e)) (new_at ?_) ⟨0, Heap.get?_push_size _ rfl⟩
  rw [Heap.size_push]; exact Nat.le_succ _
theorem addL {l b : Nat} {xs ys : Array Value} {Q : Value -> Shared -> Prop} (hl : s.heap.PlainList l xs) (hb : s.heap.PlainList b ys) (hsz : xs.size + ys.size <= sizeLine) (h : ∀ D s', Gr [] s s' -> s.heap.get? D = none -> s'.heap.PlainList D (xs ++ ys) -> Q (.ref D) s') :
  wpAny (model prog w) A (binaryOp .Add (.ref l) (.ref b)) Q E s := by
 obtain ⟨n, e1⟩ := hl
 obtain ⟨n2, e2⟩ := hb
 exact PySem.P.add_list (n := n) (n2 := n2) e1 e2 (h _ _ (gr_push (tk := s.toks)) (new_at (Nat.le_refl _)) ⟨0, Heap.get?_push_size _ rfl⟩) hsz
end
section
variable {b1 b2 : Bool} {w : World} {A : Around} {E : Value -> Shared -> Prop} {s : Shared} {env : Env}
theorem ev_callT1 {x : Str} {id : String} {np pos : Pos} {arg : Expr} {Q : Value -> Shared -> Prop} (hs : Stat b1 b2 w s.heap) (hb : globOf (wW b1 b2 w).params x = none /\ builOf (wW b1 b2 w).params x = some (.type id)) (hst : starEach [arg] env = [(false, eval arg env)])
  (h : wpAny (model theProg (wW b1 b2 w)) A (eval arg env) (fun v s₁ => wpAny (model theProg (wW b1 b2 w)) A (call (.type id) [v]) Q E s₁) E s)
  (hk : autoParam (env.scope.kind = .function) byRfl) (hx : autoParam (env.kindOf x = some .globalImplicit) byRfl) (h3 : autoParam (env.globals = 3) byRfl) (h0 : autoParam (env.builtins = 0) byRfl) (hd : (x == ("__debug__" : Str)) = false := by decide) :
  wpAny (model theProg (wW b1 b2 w)) A (eval (.Call (.Name x np) [arg] [] pos) env) Q E s := by
 refine wpAny_Call_ofName (ev_buil hs hb ?_ hk hx h3 h0 hd)
 rw [hst]
 exact PyProof.Rows.callWith_type rfl (evalArgs_plain (spliced_cons (wpAny_mono h (fun v s₁ h₁ => spliced_nil h₁) fun _ _ e => e)))
theorem ev_callB1 {x : Str} {id : String} {np pos : Pos} {arg : Expr} {Q : Value -> Shared -> Prop} (hs : Stat b1 b2 w s.heap) (hb : globOf (wW b1 b2 w).params x = none /\ builOf (wW b1 b2 w).params x = some (.builtin id)) (hst : starEach [arg] env = [(false, eval arg env)])
  (h : wpAny (model theProg (wW b1 b2 w)) A (eval arg env) (fun v s₁ => wpAny (model theProg (wW b1 b2 w)) A (call (.builtin id) [v]) Q E s₁) E s)
  (hk : autoParam (env.scope.kind = .function) byRfl) (hx : autoParam (env.kindOf x = some .globalImplicit) byRfl) (h3 : autoParam (env.globals = 3) byRfl) (h0 : autoParam (env.builtins = 0) byRfl) (hd : (x == ("__debug__" : Str)) = false := by decide) :
  wpAny (model theProg (wW b1 b2 w)) A (eval (.Call (.Name x np) [arg] [] pos) env) Q E s := by
 refine wpAny_Call_ofName (ev_buil hs hb ?_ hk hx h3 h0 hd)
 rw [hst]
 exact callWith_builtin rfl (evalArgs_plain (spliced_cons (wpAny_mono h (fun v s₁ h₁ => spliced_nil h₁) fun _ _ e => e)))
end
noncomputable def recsFrom : Nat -> List Int -> List Rc
 | _, [] => []
 | p, x :: r => recOf x p :: recsFrom (p + 1) r
noncomputable def fullOf (ns : List Int) : List Int := ns.take 10 ++ [49, 62, 11, 12]
noncomputable def recsOf (ns : List Int) : List Rc := recsFrom 0 (fullOf ns)
theorem recsFrom_get : ∀ {l : List Int} {p i : Nat} {x : Int}, l[i]? = some x -> (recsFrom p l)[i]? = some (recOf x (p + i))
 | [], p, i, x, h => by simp at h
 | a :: l, p, 0, x, h => by simp at h; subst h; rfl
 | a :: l, p, i + 1, x, h => by
  have := recsFrom_get (l := l) (p := p + 1) (i := i) (x := x) (by simpa using h)
  have e : p + 1 + i = p + (i + 1) := by lia
  rw [e] at this
  simpa [recsFrom] using this
theorem recsFrom_len : ∀ (l : List Int) (p : Nat), (recsFrom p l).length = l.length
 | [], p => rfl
 | a :: l, p => by simp [recsFrom, recsFrom_len l (p + 1)]
theorem fullOf_len (ns : List Int) : (fullOf ns).length <= 14 := by
 unfold fullOf
 simp; lia
theorem recsOf_len (ns : List Int) : (recsOf ns).length <= 14 := by unfold recsOf; rw [recsFrom_len]; exact fullOf_len ns
noncomputable def RecAv (N : Nat -> Prop) (h : Heap) (v : Value) (r : Rc) : Prop := X8_6 (fun a b t0 t1 t2 t3 t4 cs => v = .ref a) (fun a b t0 t1 t2 t3 t4 cs => N a) (fun a b t0 t1 t2 t3 t4 cs => N b) (fun a b t0 t1 t2 t3 t4 cs => h.IsTuple a #[.str r.owner t0, .str r.c1 t1, .str r.c2 t2, .str r.c3 t3, .str r.c4 t4, .ref b]) (fun a b t0 t1 t2 t3 t4 cs => h.IsTuple b cs) (fun a b t0 t1 t2 t3 t4 cs => StrsAre cs.toList r.cs)
theorem RecAv.gr {own : List Nat} {s s' : Shared} {v : Value} {r : Rc} (e : RecAv (· ∉ own) s.heap v r) (G : Gr own s s') : RecAv (· ∉ own) s'.heap v r := by
 obtain ⟨a, b, t0, t1, t2, t3, t4, cs, rfl, n1, n2, e1, e2, e3⟩ := e
 exact ⟨a, b, t0, t1, t2, t3, t4, cs, rfl, n1, n2, e1.at fun o e => G.keep a o n1 e, e2.at fun o e => G.keep b o n2 e, e3⟩
theorem RecAv.at {N : Nat -> Prop} {h : Heap} {v : Value} {r : Rc} (e : RecAv N h v r) : RecAt h v r := by
 obtain ⟨a, b, t0, t1, t2, t3, t4, cs, rfl, n1, n2, e1, e2, e3⟩ := e
 exact ⟨a, b, t0, t1, t2, t3, t4, cs, rfl, e1, e2, e3⟩
theorem laCs_ok (L : Nat) : ∀ p ∈ laCs L, (laCs L).lookup p.1 = some p.2 := by
 intro p hp
 simp only [laCs, List.mem_cons, List.not_mem_nil, or_false] at hp
 rcases hp with rfl | rfl <;> rfl
noncomputable abbrev fdRec : FuncData := mkFd (atB prgB 12) "_law_record" .none pmL 233
theorem rec_fd (P : Params) : (ktop P).get 234 = some (o234 P) /\ (o234 P).data = .func fdRec := by constructor <;> kernel_rfl
noncomputable def intsV (ns : List Int) (vs : List Value) : Prop := Paired (fun v n => ∃ t, v = .int n t) vs ns
section
variable {b1 b2 : Bool} {w : World} {A : Around} {E : Value -> Shared -> Prop} {s : Shared}
set_option maxHeartbeats 4000000 in
theorem la_1 {L l : Nat} {vs : Array Value} {ns : List Int} {m cm : Str -> Option Value} {Q : Flow -> Shared -> Prop} (hA : Deep 2 A) (hs : Stat b1 b2 w s.heap) (F : Fram L (laCs L) m cm s) (hm : m "script" = some (.ref l)) (hl : s.heap.IsList l vs) (hi : intsV ns vs.toList) (hn : ns.length <= 63) (hL : 255 <= L)
  (hQ : ∀ D rvs s', Gr [L] s s' -> Fram L (laCs L) (fun z => if z = "records" then some (.ref D) else m z) cm s' -> s.heap.get? D = none -> s'.heap.PlainList D (List.toArray rvs) -> Paired (RecAt s'.heap) rvs (recsOf ns) -> Q .next s') :
  wpAny (model theProg (wW b1 b2 w)) A (PySem.exec (atB laB 0) (laEnv L)) Q E s := by
 have hh := hA.handled
 have hvn : vs.toList.length = ns.length := hi.length
 have hvs : vs.size <= 63 := by simp at hvn; lia
 refine asg_comp (m := m) (cm := cm) (cs := laCs L) (cl := []) [L] rfl rfl rfl rfl rfl (by decide) (fun _ => rfl) (.head _) (laCs_ok L)
  (ev_callT1 hs (bu_enum _) rfl (wpAny_BinOp (ev_sliceL (ev_local F hm (wpAny_evalPart_none (wpAny_evalPart_some (evI fun t s₁ G1 => ?_)))))))
 refine ⟨l, vs, none, some (10 : Int), rfl, hl.at fun o e => G1.k _ o e, Nat.le_trans hvs (by decide), .none, .int _ _, fun D1 s₂ G2 hD10 hD1 => ?_⟩
 rw [show (10 : Int) = ((10 : Nat) : Int) from rfl, pick_upto_any] at hD1
 refine evL (evI fun t1 s₃ G3 => evI fun t2 s₄ G4 => evI fun t3 s₅ G5 => evI fun t4 s₆ G6 => ⟨by show 4 <= sizeLine; decide, fun D2 s₇ G7 hD20 hD2 => ?_⟩)
 have G27 := (((G3.trans G4).trans G5).trans G6).trans G7
 refine addL (hD1.at fun o e => G27.k _ o e) hD2 (by simp; have e9 : sizeLine = 16777216 := rfl; lia) fun D3 s₈ G8 hD30 hD3 => ?_
 have hfull : ∃ fvs : List Value, s₈.heap.IsList D3 fvs.toArray /\ intsV (fullOf ns) fvs := ⟨_, (by simpa using hD3.isList), by
  unfold fullOf
  exact Paired.app (Paired.take 10 hi) (.cons ⟨t1, rfl⟩ (.cons ⟨t2, rfl⟩ (.cons ⟨t3, rfl⟩ (.cons ⟨t4, rfl⟩ .nil))))⟩
 clear hD3
 obtain ⟨fvs, hF3, hfi⟩ := hfull
 have hfl : fvs.length = (fullOf ns).length := hfi.length
 have hf14 := fullOf_len ns
 have G08 : Gr [] s s₈ := ((G1.trans G2).trans G27).trans G8
 refine call_enumerate_list hF3 fun h' he hit hz hk => ?_
 have G9 : Gr [] s₈ { s₈ with heap := h' } := gr_keep (tk := s₈.toks) hk
 have hI1 : s₈.heap.get? s₈.heap.objs.size = none := new_at (Nat.le_refl _)
 have hI2 : s₈.heap.get? (s₈.heap.objs.size + 1) = none := new_at (Nat.le_succ _)
 have hD3e : D3 < s₈.heap.objs.size := by obtain ⟨o, e, _⟩ := hF3; exact Heap.lt_size e
 generalize hse : ({ s₈ with heap := h' } : Shared) = s₉ at G9 ⊢
 have hF9 : s₉.heap.IsList D3 fvs.toArray := hF3.at fun o e => G9.k _ o e
 have he' : IsEnum s₉.heap (s₈.heap.objs.size + 1) s₈.heap.objs.size 0 .none := by rw [<- hse]; exact he
 have hit' : s₉.heap.IsListIter s₈.heap.objs.size D3 0 := by rw [<- hse]; exact hit
 clear hse hk hz he hit
 generalize s₈.heap.objs.size = I at hI1 hI2 hD3e he' hit' ⊢
 refine wpAny_pyIter_enum he' ?_
 have G09 := G08.trans G9
 have F9 := F.gr0 G09
 have hs9 := G09.stat0 hs
 have hLI : ∀ a ∈ frL L (laCs L), a ≠ I + 1 /\ a ≠ I := fun a ha => by
  obtain ⟨o, e⟩ := ((F.gr0 G08).noTup (laCs_ok L) a ha).alive
  exact ⟨fun q => (by rw [q, hI2] at e; cases e), fun q => (by rw [q, hI1] at e; cases e)⟩
 refine ⟨fun own i ys s' => Paired (RecAv (· ∉ own) s'.heap) ys ((recsOf ns).take i), fun own i ys s s' h G => Paired.imp (fun _ _ x => x.gr G) h, _, _, _, _, _, srcEnum hh (I + 1) I D3 (Nat.succ_ne_self _) (Nat.ne_of_lt (Nat.lt_succ_of_lt hD3e)) (Nat.ne_of_lt hD3e) fvs.toArray, by rw [List.size_toArray, hfl]; exact Nat.le_trans hf14 (by decide), ⟨⟨_, he'⟩, hit', hF9⟩, fun _ => .nil, fun a ha => by
  rw [mS ha]; exact (F9.noTup (laCs_ok L) L (.head _)).alive, ?_, ?_⟩
 ·intro own i ys v C s₃' m' cm' hi' hC hown hox hfr hJ keep F3 hv E'
  obtain ⟨T, x, tk, rfl, hx, hT⟩ := hv
  obtain ⟨n, hn', tn, rfl⟩ := Paired.get hfi (i := i) (a := x) (by simpa using hx)
  refine as_tuple (env := cEnv _ [] C (laEnv L)) hh rfl [("place", _), ("x", _)] rfl (fun n hn => by
   replace hn := mr2 hn
   rcases hn with rfl | rfl <;> rfl) (isTup hT) F3 fun s₄' G4' F4 => wpAny_tests_nil ?_
  simp only [if_true]
  have hC9 : s₉.heap.get? C = none := new_at hC
  have hs4 : Stat b1 b2 w s₄'.heap := by
   refine holds_iff.mpr fun b o e => G4'.keep b o (fun hm => ?_) (keep b o (fun hm => ?_) (holds_iff.mp hs9 b o e))
   ·have e9 := holds_iff.mp hs9 b o e
    rw [mS hm] at e9
    have e9' : s₉.heap.get? C = some o := e9
    rw [hC9] at e9'; cases e9'
   ·have e8 := holds_iff.mp (G08.stat0 hs) b o e
    rcases mC hm with q | hm
    ·rw [q, hI2] at e8; cases e8
    ·rw [mS hm, hI1] at e8; cases e8
  have hif : i < 14 := by rw [List.size_toArray, hfl] at hi'; lia
  refine ev_callF hs4 (gl_rec _) (o := o234 _) (fd := fdRec) (rec_fd _) (c_local (v := .int n tn) rfl rfl F4 (by kernel_rfl) (c_local (v := .int (i : Int) tk) rfl rfl F4 (by kernel_rfl) ⟨hs4, codeAny_mono (rec_ok (hA.le (by decide)).room hs4 n tn i tk (by lia)) fun r s₅' h => ?_⟩))
  obtain ⟨u, hP, rfl, ef⟩ := h
  have n1 := ef.new _ (.head _)
  have n2 := ef.new _ (.tail _ (.head _))
  have G5' : Gr [] s₄' s₅' := ef.gr rfl
  have G35 : Gr [C] s₃' s₅' := Gr.trans G4' G5'.nil
  have alive4 : ∀ a ∈ own, ∃ o, s₄'.heap.get? a = some o := fun a ha => by
   by_cases hbC : a = C
   ·obtain ⟨o, _, _, e, _⟩ := F4.ns
    exact ⟨o, by rw [hbC]; exact e⟩
   ·obtain ⟨o, e⟩ := hown a ha
    exact ⟨o, G4'.keep a o (fun hm => hbC (mS hm)) e⟩
  have hri : (recsOf ns)[i]? = some (recOf n i) := by
   have := recsFrom_get (p := 0) hn'
   rwa [Nat.zero_add] at this
  refine ⟨g_new G35 (.head _), ?_, _, _, F4.gr0 G5'⟩
  show Paired _ _ ((recsOf ns).take (i + 1))
  rw [take_succ hri]
  refine Paired.app (Paired.imp (fun _ _ x => x.gr (g_new G35 (hfr C (.head _)))) hJ) (.cons ⟨_, _, _, _, _, _, _, _, rfl, not_mem_of_new alive4 (new_at n2.2), not_mem_of_new alive4 (new_at n1.2), isTup n2.1, isTup n1.1, hP⟩ .nil)
 ·intro own D ys s' hex hD hJ hD0 hpl hlen'
  refine ⟨F9, fun a ha hm => ?_, fun G' F' => ?_⟩
  ·rcases mC hm with q | hm
   ·exact (hLI a ha).1 q
   ·exact (hLI a ha).2 (mS hm)
  have hl2 : (recsOf ns).length = fvs.toArray.size := by rw [List.size_toArray, hfl]; exact recsFrom_len _ _
  replace hJ : Paired (RecAv (· ∉ own) s'.heap) ys ((recsOf ns).take fvs.toArray.size) := hJ
  rw [List.take_of_length_le (by lia)] at hJ
  refine hQ D ys s' ((G09.nil.trans G').shrink fun a ha => ?_) F' (G09.dead (fun h => nomatch h) hD0) hpl (Paired.imp (fun _ _ x => x.at) hJ)
  rcases mC ha with q | ha
  ·exact .inl (by rw [q]; exact .head _)
  rcases mC ha with q | ha
  ·rw [q]; exact .inr (G08.dead (fun h => nomatch h) hI2)
  ·rw [mS ha]; exact .inr (G08.dead (fun h => nomatch h) hI1)
end
section
variable {b1 b2 : Bool} {w : World} {A : Around} {E : Value -> Shared -> Prop} {s : Shared}
set_option maxHeartbeats 4000000 in
theorem la_2 {L l R : Nat} {vs : Array Value} {rvs : List Value} {ns : List Int} {m cm : Str -> Option Value} {Q : Flow -> Shared -> Prop} (hA : Deep 2 A) (hs : Stat b1 b2 w s.heap) (F : Fram L (laCs L) m cm s) (hm : m "script" = some (.ref l)) (hmr : m "records" = some (.ref R))
  (hl : s.heap.IsList l vs) (hi : intsV ns vs.toList) (hn : ns.length <= 63) (hR : s.heap.IsList R rvs.toArray) (hrl : rvs.length <= 14)
  (hQ : ∀ (k : Nat) t s', k <= rvs.length -> Gr [L] s s' -> Fram L (laCs L) (fun z => if z = "cut" then some (.int (k : Int) t) else m z) cm s' -> Q .next s') :
  wpAny (model theProg (wW b1 b2 w)) A (PySem.exec (atB laB 1) (laEnv L)) Q E s := by
 have hh := hA.handled
 have hvn : vs.toList.length = ns.length := hi.length
 have hvs : vs.size <= 63 := by simp at hvn; lia
 refine wpAny_Assign_Name (wpAny_BinOp (wpAny_BinOp (wpAny_BinOp (ev_callB1 hs (bu_sum _) rfl (ev_sliceL (ev_local F hm (wpAny_evalPart_none (wpAny_evalPart_some (evI fun t s₁ G1 => ?_)))))))))
 refine ⟨l, vs, none, some (10 : Int), rfl, hl.at fun o e => G1.k _ o e, Nat.le_trans hvs (by decide), .none, .int _ _, fun D1 s₂ G2 hD10 hD1 => ?_⟩
 rw [show (10 : Int) = ((10 : Nat) : Int) from rfl, pick_upto_any] at hD1
 have hi10 : intsV (ns.take 10) (vs.toList.take 10) := Paired.take 10 hi
 refine call_sum_walkG (over_list hD1.isList fun I s₃ G3 hI hit hl3 hne _ => ?_)
 refine ⟨I, _, _, _, _, _, fun i => (ns.take 10).getD i 0, rfl, Walks.list (A := A.in1) hh I D1 hne _, ⟨hit, hl3⟩, fun b hb => ?_, fun i v hv => ?_, fun h' tk t' hk => ?_⟩
 ·replace hb := mr2 hb
  rcases hb with rfl | rfl
  ·obtain ⟨o, e, _⟩ := hit; exact Heap.lt_size e
  ·obtain ⟨o, e, _⟩ := hl3; exact Heap.lt_size e
 ·obtain ⟨n, hn', tn, rfl⟩ := Paired.get hi10 (i := i) (a := v) (by simpa using hv)
  exact ⟨tn, by show Value.int n tn = .int ((ns.take 10).getD i 0) tn; rw [List.getD_eq_getElem?_getD, hn']; rfl⟩
 have G4 : Gr [] s₂ { s₃ with heap := h', toks := tk } := (G3.nil.trans (gr_out (own := [I]) (s := s₃) (tk := tk) hk)).new fun a ha => by rw [mS ha]; exact hI
 generalize ({ s₃ with heap := h', toks := tk } : Shared) = s₄ at G4 ⊢
 generalize preSum _ _ = S
 refine evI fun t1 s₅ G5 => floordiv_int (by decide) ?_
 have G6 : Gr [] s₅ { s₅ with toks := s₅.toks + 1 } := gr_tok
 generalize ({ s₅ with toks := s₅.toks + 1 } : Shared) = s₆ at G6 ⊢
 refine evI fun t2 s₇ G7 => addI fun t3 s₈ G8 => ?_
 have G08 : Gr [] s s₈ := ((((((G1.trans G2).trans G4).trans G5).trans G6).trans G7)).trans G8
 refine wpAny_BinOp (ev_len (G08.stat0 hs) rfl (ev_local (F.gr0 G08) hmr ⟨R, rvs.toArray, rfl, hR.at fun o e => G08.k _ o e, by rw [List.size_toArray]; exact Nat.le_trans hrl (by decide), fun t4 s₉ G9 => ?_⟩))
 refine evI fun t5 s₁₀ G10 => addI fun t6 s₁₁ G11 => ?_
 have hb : ((rvs.toArray.size : Int) + 1) ≠ 0 := by omega
 refine mod_int hb ?_
 have G12 : Gr [] s₁₁ { s₁₁ with toks := s₁₁.toks + 1 } := gr_tok
 generalize ({ s₁₁ with toks := s₁₁.toks + 1 } : Shared) = s₁₂ at G12 ⊢
 have G012 : Gr [] s s₁₂ := (((G08.trans G9).trans G10).trans G11).trans G12
 obtain ⟨k, hk, hk'⟩ : ∃ k : Nat, k <= rvs.length /\ (Int.fdiv S 72 + 2).fmod ((rvs.toArray.size : Int) + 1) = (k : Int) := by
  have hpos : (0 : Int) < (rvs.toArray.size : Int) + 1 := by omega
  have h1 := Int.fmod_nonneg_of_pos (Int.fdiv S 72 + 2) hpos
  have h2 := Int.fmod_lt_of_pos (Int.fdiv S 72 + 2) hpos
  refine ⟨((Int.fdiv S 72 + 2).fmod ((rvs.toArray.size : Int) + 1)).toNat, ?_, by lia⟩
  rw [List.size_toArray] at h1 h2 ⊢
  omega
 rw [hk']
 exact (F.gr0 G012).set (env := laEnv L) rfl rfl fun s' G' F' => hQ k _ s' hk (G012.nil.trans G') F'
end
noncomputable def ownL (L : Nat) : List Nat := [L, L + 1, L + 2, 48, 114]
noncomputable def BkAt (w : World) (h : Heap) (av : List Nat) (bk : Nat) (B : BookT) : Prop := X9_4 (fun dd fn ce co ct tk c Lb ep => Has h (fzL w dd bk fn ce co ct tk c Lb ep)) (fun dd fn ce co ct tk c Lb ep => Lb.length <= 200) (fun dd fn ce co ct tk c Lb ep => Paired (RowB av w h) Lb B) (fun dd fn ce co ct tk c Lb ep => ∀ p ∈ fzL w dd bk fn ce co ct tk c Lb ep, p.1 ∉ av)
theorem BkAt.gr {w : World} {s s' : Shared} {own av : List Nat} {bk : Nat} {B : BookT} (x : BkAt w s.heap av bk B) (G : Gr own s s') (h : ∀ a ∈ own, a ∈ av) : BkAt w s'.heap av bk B := by
 obtain ⟨dd, fn, ce, co, ct, tk, c, Lb, ep, h1, h2, h3, h4⟩ := x
 exact ⟨dd, fn, ce, co, ct, tk, c, Lb, ep, fun p hp => G.keep _ _ (fun hm => h4 p hp (h _ hm)) (h1 p hp), h2, RowB.keep (fun a o _ ha e => G.keep a o (fun hm => ha (h _ hm)) e) h3, h4⟩
theorem fz_apart {w : World} {h : Heap} {dd bk fn ce co ct tk ep a : Nat} {c : Nat -> Nat} {Lb : DL} (H : Has h (fzL w dd bk fn ce co ct tk c Lb ep)) {o : Obj} (ho : h.get? a = some o) (hd : ∀ es n, o.data = .dict es n -> a ≠ dd + 255 /\ a ≠ bk + 255) (hc : o.data ≠ .cell (some (.ref (bk + 255)))) (hf : ∀ fd, o.data ≠ .func fd) (hx : ∀ vs, o.data ≠ .fields vs) :
  ∀ p ∈ fzL w dd bk fn ce co ct tk c Lb ep, p.1 ≠ a := by
 intro p hp e
 have hpo := H p hp
 rw [e, ho] at hpo
 have hpo' : o = p.2 := Option.some.inj hpo
 simp only [fzL, List.mem_cons, List.not_mem_nil, or_false] at hp
 rcases hp with rfl | rfl | rfl | rfl | rfl
 ·exact (hd _ _ (by rw [hpo'])).1 e.symm
 ·exact (hd _ _ (by rw [hpo'])).2 e.symm
 ·exact hf _ (by rw [hpo']; rfl)
 ·exact hc (by rw [hpo']; rfl)
 ·exact hx _ (by rw [hpo']; rfl)
section
variable {b1 b2 : Bool} {w : World} {A : Around} {E : Value -> Shared -> Prop} {s : Shared}
set_option maxHeartbeats 4000000 in
theorem la_mk {L c : Nat} {x : Str} {m cm : Str -> Option Value} {arg : Expr} {np pos px spos : Pos} {rs : List Rc} {Q : Flow -> Shared -> Prop} (hA : Deep 5 A) (hs : Stat b1 b2 w s.heap) (hac : AcT s.heap) (hz : FzT s.heap) (F : Fram L (laCs L) m cm s) (hL : 255 <= L)
  (hk : (laEnv L).kindOf x = some .cell) (hc : (laCs L).lookup x = some c) (hcm : cm x = none) (hcc : (laEnv L).cells.lookup x = some c) (hoth : ∀ n b, cm n = some (.ref b) -> ∃ o, s.heap.get? b = some o)
  (hst : starEach [arg] (laEnv L) = [(false, eval arg (laEnv L))])
  (harg : ∀ Q', (∀ D (ws : Array Value) s₁, Gr [] s s₁ -> s₁.heap.IsList D ws -> Paired (RecAt s₁.heap) ws.toList rs -> Q' (.ref D) s₁) -> wpAny (model theProg (wW b1 b2 w)) A (eval arg (laEnv L)) Q' E s) (hlen : rs.length <= 100)
  (hpar : ∀ r ∈ rs, r.c2 ≠ "" -> Par r) (hadd : ∀ (i : Nat) (r : Rc), rs[i]? = some r -> r.c2 ≠ "" -> AddsE ((getE (bookOf (rs.take i)) r.owner).getD ent0) (srcE r))
  (hQ : ∀ bk s', Gr [48, 114, c] s s' -> AcT s'.heap -> FzT s'.heap -> BkAt (wW b1 b2 w) s'.heap (ownL L) bk (bookOf rs) -> Fram L (laCs L) m (fun y => if y = x then some (.ref (bk + 255)) else cm y) s' -> s.heap.get? (bk + 255) = none -> Q .next s') :
  wpAny (model theProg (wW b1 b2 w)) A (PySem.exec (.Assign [.Name x px] (.Call (.Name "_law_book" np) [arg] [] pos) spos) (laEnv L)) Q E s := by
 refine wpAny_Assign_Name (ev_callF hs (gl_book _) (book_fd _) (harg _ fun D ws s₁ G1 hl hrs => ?_) (by rw [hst]; rfl))
 have F1 := F.gr0 G1
 have hs1 := G1.stat0 hs
 have hac1 : AcT s₁.heap := hac.at fun a o _ e => G1.k a o e
 have hz1 : FzT s₁.heap := by
  rcases hz with h | ⟨co, c', h, h'⟩
  ·exact .inl (G1.k _ _ h)
  ·exact .inr ⟨co, c', G1.k _ _ h, G1.k _ _ h'⟩
 have h48 : ∃ o, s₁.heap.get? 48 = some o := (ac_48 hac1).1
 have h114 : ∃ o, s₁.heap.get? 114 = some o := by
  rcases hz1 with h | ⟨_, _, h, _⟩
  ·exact ⟨_, h⟩
  ·exact ⟨_, h⟩
 have cells : ∀ c', (c' = L + 1 \/ c' = L + 2) -> ∃ n, (laCs L).lookup n = some c' := fun c' h => by
  rcases h with h | h
  ·exact ⟨"book", by rw [h]; rfl⟩
  ·exact ⟨"rest", by rw [h]; rfl⟩
 have aliveC : ∀ c', (c' = L + 1 \/ c' = L + 2) -> ∃ o, s₁.heap.get? c' = some o := fun c' h => by
  obtain ⟨n, hn⟩ := cells c' h
  obtain ⟨o, e, _⟩ := F1.cell n c' hn; exact ⟨o, e⟩
 have hav : ∀ a ∈ ownL L, ∃ o, s₁.heap.get? a = some o := fun a ha => by
  simp only [ownL, List.mem_cons, List.not_mem_nil, or_false] at ha
  rcases ha with h | h | h | h | h
  ·obtain ⟨o, _, _, e, _⟩ := F1.ns; exact ⟨o, by rw [h]; exact e⟩
  ·rw [h]; exact aliveC _ (.inl rfl)
  ·rw [h]; exact aliveC _ (.inr rfl)
  ·rw [h]; exact h48
  ·rw [h]; exact h114
 refine ⟨hs1, book_ok (av0 := ownL L) hA hs1 hac1 hz1 hl hrs hlen hpar hadd hav fun bk dd fn ce co ct tk cf Lb ep s₂ G2 hac2 hz2 hH hLb hp hbk0 hdd0 => ?_⟩
 have dyn : ∀ a, 255 <= a -> a ∉ [48, 114] := fun a ha hm => by
  replace hm := mm2 hm
  rcases hm with h | h <;> lia
 have hcL' : 255 <= c := Nat.le_trans hL (Nat.le_of_lt (F.above x c (PySem.mem_of_lookup hc)))
 have k2 : ∀ a o, 255 <= a -> s₁.heap.get? a = some o -> s₂.heap.get? a = some o := fun a o ha e => G2.keep a o (dyn a ha) e
 have F2 : Fram L (laCs L) m cm s₂ := F1.gr G2 fun a ha => dyn a (Nat.le_trans hL (frL_above F1 a ha))
 have hLo : ∀ p ∈ fzL (wW b1 b2 w) dd bk fn ce co ct tk cf Lb ep, p.1 ≠ L := by
  obtain ⟨o, es, n, e, d, _⟩ := F1.ns
  have e' : s₁.heap.get? L = some o := e
  refine fz_apart hH (k2 L o hL e') (fun _ _ _ => ⟨fun q => ?_, fun q => ?_⟩) (fun q => by rw [d] at q; cases q) (fun fd q => by rw [d] at q; cases q) (fun vs q => by rw [d] at q; cases q)
  ·rw [q, hdd0] at e'; cases e'
  ·rw [q, hbk0] at e'; cases e'
 have hCo : ∀ c', (c' = L + 1 \/ c' = L + 2) -> ∀ p ∈ fzL (wW b1 b2 w) dd bk fn ce co ct tk cf Lb ep, p.1 ≠ c' := by
  intro c' hc'
  obtain ⟨n, hn⟩ := cells c' hc'
  obtain ⟨o, e, d⟩ := F2.cell n c' hn
  refine fz_apart hH e (fun _ _ q => by rw [d] at q; cases q) (fun q => ?_) (fun fd q => by rw [d] at q; cases q) (fun vs q => by rw [d] at q; cases q)
  rw [d] at q
  obtain ⟨o', e'⟩ := hoth n (bk + 255) (Data.cell.inj q)
  have e1 := G1.k _ _ e'
  rw [hbk0] at e1; cases e1
 have hApart : ∀ p ∈ fzL (wW b1 b2 w) dd bk fn ce co ct tk cf Lb ep, p.1 ∉ ownL L := fun p hp hm => by
  have h255 : 255 <= p.1 := by
   simp only [fzL, List.mem_cons, List.not_mem_nil, or_false] at hp
   rcases hp with rfl | rfl | rfl | rfl | rfl <;> exact Nat.le_add_left _ _
  simp only [ownL, List.mem_cons, List.not_mem_nil, or_false] at hm
  rcases hm with h | h | h | h | h
  ·exact hLo p hp h
  ·exact hCo _ (.inl rfl) p hp h
  ·exact hCo _ (.inr rfl) p hp h
  ·lia
  ·lia
 have hB : BkAt (wW b1 b2 w) s₂.heap (ownL L) bk (bookOf rs) := ⟨dd, fn, ce, co, ct, tk, cf, Lb, ep, hH, hLb, hp, hApart⟩
 have hcO : c ∈ ownL L := by
  have : (laCs L).lookup x = some c := hc
  have hm := PySem.mem_of_lookup hc
  simp only [laCs, List.mem_cons, List.not_mem_nil, or_false, Prod.mk.injEq] at hm
  rcases hm with ⟨_, h⟩ | ⟨_, h⟩ <;> simp [ownL, h]
 refine F2.setC (env := laEnv L) rfl hk hcc hc fun s₃ G3 F3 => ?_
 have G13 : Gr [48, 114, c] s₁ s₃ := (G2.widen fun a ha => by
  simp only [List.mem_cons, List.not_mem_nil, or_false] at ha ⊢
  rcases ha with h | h <;> simp [h]).trans (g_new G3 (by simp))
 refine hQ bk s₃ (G1.nil.trans G13) ?_ ?_ (hB.gr G3 fun a ha => by rw [mS ha]; exact hcO) F3 (G1.dead (fun h => nomatch h) hbk0)
 ·exact hac2.at fun a o h e => G3.keep a o (fun hm => by
   have := mS hm
   rcases h with h | h <;> (rw [<- this, h] at hcL'; exact absurd hcL' (by decide))) e
 ·rcases hz2 with h | ⟨co', c', h, h'⟩
  ·exact .inl (G3.keep _ _ (fun hm => by have := mS hm; lia) h)
  ·refine .inr ⟨co', c', G3.keep _ _ (fun hm => by have := mS hm; lia) h, G3.keep _ _ (fun hm => ?_) h'⟩
   obtain ⟨o, e, d⟩ := F2.cell x c hc
   rw [mS hm] at h'
   have e' : s₂.heap.get? c = some o := e
   rw [h'] at e'
   rw [<- Option.some.inj e'] at d; cases d
end
section
variable {b1 b2 : Bool} {w : World} {A : Around} {s : Shared} {E : Value -> Shared -> Prop} {bk dd ep : Nat} {L : DL}
theorem bk_type {Q : Value -> Shared -> Prop} (hA : Deep 1 A) (hs : Stat b1 b2 w s.heap) (hb : s.heap.get? (bk + 255) = some (bkObj (wW b1 b2 w) dd L ep)) (hQ : ∀ s', Gr [] s s' -> Q (.ref 122) s') : wpAny (model theProg (wW b1 b2 w)) A (typeOf (.ref (bk + 255))) Q E s :=
 tree_ok [(bk + 255, bkObj (wW b1 b2 w) dd L ep)] 1 [1] [0] [] (fun _ => .ref 122) (fun _ => []) (fun dep un γ tb c k => by intro nb xs; cases b1 <;> cases b2 <;> kernel_rfl) rfl hA hs (one_has hb) one_dyn (by simp) rfl fun s' nb _ G _ => hQ s' G
theorem Deep.in1 {n : Nat} {A : Around} (h : Deep (n + 1) A) : Deep n A.in1 := by
 refine ⟨h.handled, ?_, ?_⟩
 ·have := h.depth
  show A.depth + 60 * n < recursionLimit
  lia
 ·have := h.units
  show A.units + 1 + 1000 * n < cLine
  lia
theorem tree_ok2 {α : Type} {b1 b2 : Bool} {w : World} {A : Around} {s : Shared} {t : Sem α} {Q : α -> Shared -> Prop} {E : Value -> Shared -> Prop} (l : List (Nat × Obj)) (n : Nat) (o : List Nat) (js1 : List Nat) (a₀ : Nat -> α)
  (chk : ∀ dep un γ tb c (k : α -> Sem PySem.Fin), Chk (VV b1 b2 w dep un none none γ) c (t >>= k) l tb (fun _ => .go n o .done) js1 (fun nb _ => ⟨none, .base, k (a₀ tb), [], objsOf l⟩)) (hj : js1.length = l.length)
  (hA : Deep 1 A) (hs : Stat b1 b2 w s.heap) (hl : Has s.heap l) (hd : ∀ p ∈ l, Dyn p.1) (nd : (l.map (·.1)).Nodup) (ok : newsOk l .nil 0 = true) (hQ : ∀ s' tk, Gr [] s s' -> Q (a₀ tk) s') : wpAny (model theProg (wW b1 b2 w)) A t Q E s := by
 refine anyTree (a₀ s.toks) (fun s' => Gr [] s s') (fun c k R hk => ?_) fun s' h => hQ s' _ h
 obtain ⟨hh, dep, fr, gs, un⟩ := A
 obtain ⟨rfl, hdp, hu⟩ := hA
 refine treeBy l (fun _ => .go n o .done) js1 _ hs (fun p hp => ⟨hl p hp, hd p hp⟩) nd ok hdp hu (fun _ => trivial) (chk dep un _ s.toks c k) ?_
 intro nb xs st hnb _ hsee
 have e := See.mk.inj hsee
 refine endTree e.1 e.2.1 e.2.2.1 fun s' R' => ?_
 have h1 := (seeHas R' _ _ e.2.2.2.2).1
 exact hk s' ((R'.eff (n := 0) e.2.2.2.1).forget rfl hl h1).gr _
theorem bk_len1 {Q : Option Value -> Shared -> Prop} (hA : Deep 1 A) (hs : Stat b1 b2 w s.heap) (hb : s.heap.get? (bk + 255) = some (bkObj (wW b1 b2 w) dd L ep)) (hQ : ∀ tk s', Gr [] s s' -> Q (some (.int (L.length : Int) tk)) s') : wpAny (model theProg (wW b1 b2 w)) A (callSpecial? (.ref (bk + 255)) "__len__") Q E s := by
 refine tree_ok2 [(bk + 255, bkObj (wW b1 b2 w) dd L ep)] 11 [1, 0, 0, 0, 1, 0, 1] [0] (fun tb => some (.int ((ents (wW b1 b2 w) L).size : Int) (tb + 0))) (fun dep un γ tb c k => by intro nb xs; cases b1 <;> cases b2 <;> kernel_rfl) rfl hA hs (one_has hb) one_dyn (by simp) rfl fun s' tk G => ?_
 have e : (ents (wW b1 b2 w) L).size = L.length := ents_size _ L
 rw [e]
 exact hQ _ s' G
theorem bk_len {Q : Value -> Shared -> Prop} (hA : Deep 2 A) (hs : Stat b1 b2 w s.heap) (hb : s.heap.get? (bk + 255) = some (bkObj (wW b1 b2 w) dd L ep)) (hL : L.length <= 200) (hQ : ∀ tk s', Gr [] s s' -> Q (.int (L.length : Int) tk) s') : wpAny (model theProg (wW b1 b2 w)) A (call (.builtin "len") [.ref (bk + 255)]) Q E s := by
 refine Calls.call_function_entry kind_len plain_len entry_len (args_len1 _) ?_
 unfold Builtin.«len»
 refine wpAny_bind (m := oneArg "len" _) (wpAny_pure ?_)
 refine wpAny_bind (m := callSpecial? (.ref (bk + 255)) (Str.ofString "__len__")) (bk_len1 hA.in1 hs hb fun tk s₁ G1 => ?_)
 have h0 : ¬ ((L.length : Int) < 0) := by lia
 have h1 : ¬ ((L.length : Int) ≥ 2 ^ 63) := by lia
 refine wpAny_bind (wpAny_holding (wpAny_pure ?_))
 refine wpAny_bind (wpAny_letGo ?_)
 show wpAny _ _ (if (L.length : Int) < 0 then _ else _) _ _ _
 rw [if_neg h0]
 show wpAny _ _ (if (L.length : Int) ≥ 2 ^ 63 then _ else _) _ _ _
 rw [if_neg h1]
 exact wpAny_bind (wpAny_mkInt (wpAny_pure ⟨_, rfl, hQ _ _ (G1.trans gr_tok)⟩))
theorem bk_lsp {Q : Option Value -> Shared -> Prop} (hA : Deep 1 A) (hs : Stat b1 b2 w s.heap) (hb : s.heap.get? (bk + 255) = some (bkObj (wW b1 b2 w) dd L ep)) (hQ : ∀ s', Gr [] s s' -> Q (some (.builtin "dict.__len__")) s') : wpAny (model theProg (wW b1 b2 w)) A (specialOf (.ref (bk + 255)) "__len__") Q E s :=
 tree_ok [(bk + 255, bkObj (wW b1 b2 w) dd L ep)] 4 [1, 0, 0, 0] [0] [] (fun _ => some (.builtin "dict.__len__")) (fun _ => []) (fun dep un γ tb c k => by intro nb xs; cases b1 <;> cases b2 <;> kernel_rfl) rfl hA hs (one_has hb) one_dyn (by simp) rfl fun s' nb _ G _ => hQ s' G
theorem bk_isi {Q : Bool -> Shared -> Prop} (hA : Deep 1 A) (hs : Stat b1 b2 w s.heap) (hb : s.heap.get? (bk + 255) = some (bkObj (wW b1 b2 w) dd L ep)) (hQ : ∀ s', Gr [] s s' -> Q true s') : wpAny (model theProg (wW b1 b2 w)) A (isInstance (.ref (bk + 255)) (.type "dict")) Q E s :=
 tree_ok [(bk + 255, bkObj (wW b1 b2 w) dd L ep)] 2 [1, 0] [0] [] (fun _ => true) (fun _ => []) (fun dep un γ tb c k => by intro nb xs; cases b1 <;> cases b2 <;> kernel_rfl) rfl hA hs (one_has hb) one_dyn (by simp) rfl fun s' nb _ G _ => hQ s' G
theorem bk_hint {Q : Bool -> Shared -> Prop} (hA : Deep 2 A) (hs : Stat b1 b2 w s.heap) (hb : s.heap.get? (bk + 255) = some (bkObj (wW b1 b2 w) dd L ep)) (hL : L.length <= 200) (hQ : ∀ b s', Gr [] s s' -> Q b s') : wpAny (model theProg (wW b1 b2 w)) A (Builtin.List.listLengthHint (.ref (bk + 255))) Q E s := by
 have hA1 : Deep 1 A := hA.le (by decide)
 unfold Builtin.List.listLengthHint
 refine wpAny_bind (bk_lsp hA1 hs hb fun s₁ G1 => ?_)
 generalize hid : ("dict.__len__" : String) = id0
 wp_delta
 rw [show splitId id0 = some ("dict", "__len__") from by subst hid; decide +kernel]
 subst hid
 refine wpAny_bind (bk_isi hA1 (G1.stat0 hs) (G1.k _ _ hb) fun s₂ G2 => ?_)
 have G12 := G1.trans G2
 refine wpAny_ite_split (fun hab => absurd hab (by decide)) (fun _ => ?_)
 refine wpAny_ite_split (fun _ => ?_) (fun hab => absurd (by decide +kernel) hab)
 refine wpAny_bind (bk_type hA1 (G12.stat0 hs) (G12.k _ _ hb) fun s₃ G3 => ?_)
 have G13 := G12.trans G3
 refine wpAny_bind (bk_len hA (G13.stat0 hs) (G13.k _ _ hb) hL fun tk s₄ G4 => ?_)
 exact wpAny_bind (wpAny_pure (wpAny_pure (hQ _ _ (G13.trans G4))))
end
section
variable {b1 b2 : Bool} {w : World} {A : Around} {s : Shared} {E : Value -> Shared -> Prop} {bk dd ep : Nat} {L : DL}
theorem strs_of_items {vs : Array Value} (h : ItemsOf (fun i v => ∃ p : Str × Tok × Value, L[i]? = some p /\ v = .str p.1 p.2.1) vs L.length) : StrsAre vs.toList (L.map (·.1)) := by
 obtain ⟨h1, h2⟩ := h
 have key : ∀ (l : List Value) (M : DL), l.length = M.length -> (∀ (j : Nat) (v : Value), l[j]? = some v -> ∃ p : Str × Tok × Value, M[j]? = some p /\ v = Value.str p.1 p.2.1) -> StrsAre l (M.map (·.1)) := by
  intro l
  induction l with
  | nil => intro M e _; cases M with
   | nil => exact .nil
   | cons => cases e
  | cons v l ih =>
   intro M e k
   cases M with
   | nil => cases e
   | cons p M =>
    obtain ⟨q, hq, rfl⟩ := k 0 v rfl
    cases hq
    exact .cons (ih M (by simpa using e) fun j v hv => k (j + 1) v (by simpa using hv))
 exact key _ _ (by simpa using h1) fun j v hv => h2 j v (by simpa using hv)
set_option maxHeartbeats 4000000 in
theorem bk_extend {S c₀ : Nat} {R : Result -> Shared -> Prop} {res : Value} (hA : Deep 3 A) (hs : Stat b1 b2 w s.heap) (hb : s.heap.get? (bk + 255) = some (bkObj (wW b1 b2 w) dd L ep)) (hL : L.length <= 200) (hS : s.heap.get? S = some { cls := .type "list", data := .seq #[] c₀ }) (hSk : (ktop (wW b1 b2 w).params).get S = none)
  (hR : ∀ s' vs, Gr [S] s s' -> s'.heap.PlainList S vs -> StrsAre vs.toList (L.map (·.1)) -> R (.ok (.ret res)) s') :
  wpAny (model theProg (wW b1 b2 w)) A.in1 (Builtin.List.listExtendWith (.ref S) (.ref (bk + 255)) res)
   (fun fin s' => match fin with | .done f => R (.ok f) s' | .again c' => c'.quiet = true /\ codeAny (model theProg (wW b1 b2 w)) A c' R s') (fun e s' => R (.error e) s') s := by
 have hA1 : Deep 2 A.in1 := hA.in1
 have hSb : S ≠ bk + 255 := fun e => by rw [e, hb] at hS; cases hS
 have key : ∀ I (s₁ : Shared) c₁, Gr [S] s s₁ -> s₁.heap.get? S = some { cls := .type "list", data := .seq #[] c₁ } -> S ≠ I -> bk + 255 ≠ I -> s.heap.get? I = none -> s₁.heap.IsKeyIter I (bk + 255) 0 L.length ep -> HasD (wW b1 b2 w) s₁.heap (bk + 255) L ep ->
   codeAny (model theProg (wW b1 b2 w)) A (.builtin "list.extend.loop" ⟨[.ref S, .ref I, res], []⟩) R s₁ := by
  intro I s₁ c₁ G hS1 hSI hbI hI0 hit hd
  have W := walksKeys (prog := theProg) (w := wW b1 b2 w) (A := A.in1) hA1.handled I (bk + 255) hbI L ep
  refine codeAny_extend_loopS W.toS (Nat.le_trans hL (by decide)) S (by simp [hSI, hSb]) res L.length 0 _ #[] c₁ rfl (Nat.zero_le _) ⟨hit, hd⟩ hS1 (ItemsOf.nil _) fun s' acc' c' hm hS' hacc => ?_
  have Gm : Gr [S, I] s₁ s' := by
   rw [Moved.eq_with hm]
   exact gr_out (s := s₁) (tk := s'.toks) fun b o hb e => hm.heap b o (fun h => hb (by simpa using h)) e
  refine hR s' acc' (((g_new G (.head _)).trans Gm).shrink fun a ha => ?_) ⟨_, hS'⟩ (strs_of_items hacc)
  rcases mC ha with h | h
  ·exact .inl (by rw [h]; exact .head _)
  ·exact .inr (by rw [mS h]; exact hI0)
 unfold Builtin.List.listExtendWith
 refine wpAny_bind (bk_type (hA1.le (by decide)) hs hb fun s₁ G1 => ?_)
 have h1 : Builtin.List.listSameRef (.ref S) (.ref (bk + 255)) = false := by simp [Builtin.List.listSameRef, hSb]
 have h2 : (Value.ref 122 == Value.type "list") = false := by decide
 have h3 : (Value.ref 122 == Value.type "tuple") = false := by decide
 simp only [h1, h2, h3, Bool.or_false, Bool.false_eq_true, if_false]
 refine wpAny_bind (bk_iter (hA1.le (by decide)) (G1.stat0 hs) (G1.k _ _ hb) fun I s₂ G2 hI hit => ?_)
 have G12 := G1.trans G2
 refine wpAny_bind (wpAny_holding (bk_hint hA1 (G12.stat0 hs) (G12.k _ _ hb) hL fun b s₃ G3 => ?_))
 have G13 := G12.trans G3
 have hS3 := G13.k _ _ hS
 have hb3 := G13.k _ _ hb
 have hI0 : s.heap.get? I = none := G1.dead (fun h => nomatch h) hI
 have hSI : S ≠ I := fun e => by rw [e, hI0] at hS; cases hS
 have hbI : bk + 255 ≠ I := fun e => by rw [e, hI0] at hb; cases hb
 have hit3 : s₃.heap.IsKeyIter I (bk + 255) 0 L.length ep := ⟨_, G3.k _ _ hit, rfl, rfl⟩
 have hd3 : HasD (wW b1 b2 w) s₃.heap (bk + 255) L ep := ⟨_, hb3, rfl⟩
 refine wpAny_ite_split (fun _ => ?_) (fun _ => wpAny_pure ⟨plainId_quiet PySem.F.plain_extend_loop _, key I s₃ c₀ G13.nil hS3 hSI hbI hI0 hit3 hd3⟩)
 refine wpAny_bind (wpAny_rule ?_)
 refine wpAny_bind ?_
 show wpAny _ _ (updateSeq S (·.push .none) >>= fun _ => updateSeq S (·.pop)) _ _ _
 refine wpAny_bind (wpAny_updateSeq hS3 rfl ?_)
 have hS₂ := Heap.get?_update_self (Obj.mapSeq (·.push Value.none)) hS3 rfl
 refine wpAny_updateSeq (hz := by seq_fits) hS₂ rfl ?_
 have hS₃ := Heap.get?_update_self (Obj.mapSeq (·.pop)) hS₂ rfl
 have oth : ∀ b o, b ≠ S -> s₃.heap.get? b = some o -> ((s₃.heap.update S (Obj.mapSeq (·.push Value.none))).update S (Obj.mapSeq (·.pop))).get? b = some o :=
  fun b o hb e => (Heap.get?_update_other _ _ (Ne.symm hb)).trans ((Heap.get?_update_other _ _ (Ne.symm hb)).trans e)
 refine wpAny_pure ⟨plainId_quiet PySem.F.plain_extend_loop _, key I _ _ (G13.nil.trans (gr_ext (s := s₃) (tk := s₃.toks) oth)) hS₃ hSI hbI hI0 ?_ ?_⟩
 ·obtain ⟨o, e, r⟩ := hit3
  exact ⟨o, oth _ _ (Ne.symm hSI) e, r⟩
 ·exact hd3.at fun o e => oth _ _ (Ne.symm hSb) e
set_option maxHeartbeats 4000000 in
theorem bk_list {Q : Value -> Shared -> Prop} (hA : Deep 4 A) (hs : Stat b1 b2 w s.heap) (hb : s.heap.get? (bk + 255) = some (bkObj (wW b1 b2 w) dd L ep)) (hL : L.length <= 200)
  (hQ : ∀ D vs s', Gr [] s s' -> s.heap.get? D = none -> s'.heap.PlainList D vs -> StrsAre vs.toList (L.map (·.1)) -> Q (.ref D) s') :
  wpAny (model theProg (wW b1 b2 w)) A (call (.type "list") [.ref (bk + 255)]) Q E s := by
 refine callType_codes (Q₁ := fun obj s₁ => obj = .ref s.heap.objs.size /\ s₁ = { s with heap := s.heap.push { cls := .type "list", data := .seq #[] } }) PySem.F.called_list (PySem.F.typeCall_list_1 _) PySem.F.entry_list_init
  (code_list_new _ ⟨rfl, rfl⟩) fun obj s₁ h₁ => ?_
 obtain ⟨rfl, rfl⟩ := h₁
 have hS : (s.heap.push { cls := .type "list", data := .seq #[] }).get? s.heap.objs.size = some { cls := .type "list", data := .seq #[] } := Heap.get?_push_size _ rfl
 refine ⟨⟨_, hS, rfl⟩, PySem.F.args_list_init_2 _ _, ?_⟩
 have G0 : Gr [] s { s with heap := s.heap.push { cls := .type "list", data := .seq #[] } } := gr_push (tk := s.toks)
 have hS0 : s.heap.get? s.heap.objs.size = none := new_at (Nat.le_refl _)
 have hbig := hs.big
 have hk : (ktop (wW b1 b2 w).params).get s.heap.objs.size = none := hs.free hS0
 generalize s.heap.objs.size = S at hS hS0 hk ⊢
 replace hS : ({ s with heap := s.heap.push { cls := .type "list", data := .seq #[] } } : Shared).heap.get? S = some { cls := .type "list", data := .seq #[] } := hS
 generalize ({ s with heap := s.heap.push { cls := .type "list", data := .seq #[] } } : Shared) = s₁ at hS G0 ⊢
 show wpAny _ _ (do let old <- Builtin.List.listItems (.ref S); Builtin.List.listUpdate (.ref S) (fun _ => #[]); letGo old.toList.reverse; Builtin.List.listExtendWith (.ref S) (.ref (bk + 255)) .none) _ _ s₁
 refine wpAny_bind ?_
 unfold Builtin.List.listItems
 refine wpAny_bind (wpAny_seqItems hS rfl (wpAny_pure ?_))
 show wpAny _ _ (updateSeq S (fun _ => #[]) >>= fun _ => letGo (#[] : Array Value).toList.reverse >>= fun _ => Builtin.List.listExtendWith (.ref S) (.ref (bk + 255)) .none) _ _ s₁
 refine wpAny_bind (wpAny_updateSeq hS rfl ?_)
 have hS₂ := Heap.get?_update_self (Obj.mapSeq (fun _ => (#[] : Array Value))) hS rfl
 have oth : ∀ b o, b ≠ S -> s₁.heap.get? b = some o -> (s₁.heap.update S (Obj.mapSeq (fun _ => (#[] : Array Value)))).get? b = some o :=
  fun b o hb e => (Heap.get?_update_other _ _ (Ne.symm hb)).trans e
 have G1 : Gr [S] s₁ { s₁ with heap := s₁.heap.update S (Obj.mapSeq (fun _ => (#[] : Array Value))) } := gr_ext (tk := s₁.toks) oth
 refine wpAny_bind (wpAny_letGo ?_)
 have hS₃ : ({ s₁ with heap := s₁.heap.update S (Obj.mapSeq (fun _ => (#[] : Array Value))) } : Shared).heap.get? S = _ := hS₂
 generalize ({ s₁ with heap := s₁.heap.update S (Obj.mapSeq (fun _ => (#[] : Array Value))) } : Shared) = s₂ at G1 hS₃ ⊢
 have G02 : Gr [] s s₂ := (G0.nil.trans G1).new fun a ha => by rw [mS ha]; exact hS0
 refine bk_extend (hA.in1.le (m := 3) (by decide)) (G02.stat0 hs) (G02.k _ _ hb) hL hS₃ hk fun s₃ vs G3 hp hv => ?_
 exact ⟨rfl, hQ S vs s₃ ((G02.nil.trans G3).new fun a ha => by rw [mS ha]; exact hS0) hS0 hp hv⟩
end
noncomputable def ownersOf (B1 B2 : BookT) : List Str := B1.map (·.1) ++ (B2.map (·.1)).filter fun k => !(getE B1 k).isSome
theorem rows_keys {av : List Nat} {w : World} {h : Heap} {L : DL} {B : BookT} (p : Paired (RowB av w h) L B) : L.map (·.1) = B.map (·.1) := by
 induction p with
 | nil => rfl
 | cons h1 _ ih => simp [h1.1, ih]
theorem rows_has {av : List Nat} {w : World} {h : Heap} {L : DL} {B : BookT} (p : Paired (RowB av w h) L B) (k : Str) : (getL L k).isSome = (getE B k).isSome := by
 rcases get_rowB (k := k) p with ⟨h1, h2⟩ | ⟨v, e, h1, h2, _⟩ <;> rw [h1, h2] <;> rfl
theorem StrsAre.app {vs ws : List Value} {xs ys : List Str} (h : StrsAre vs xs) (h2 : StrsAre ws ys) : StrsAre (vs ++ ws) (xs ++ ys) := by
 induction h with
 | nil => exact h2
 | cons _ ih => exact .cons ih
noncomputable def keysL (L : DL) : List Str := L.map (·.1)
noncomputable def notIn (L : DL) (k : Str) : Bool := !(getL L k).isSome
section
variable {b1 b2 : Bool} {w : World} {A : Around} {E : Value -> Shared -> Prop} {s : Shared}
set_option maxHeartbeats 4000000 in
theorem la_5 {L k1 k2 : Nat} {B1 B2 : BookT} {m cm : Str -> Option Value} {Q : Flow -> Shared -> Prop} (hA : Deep 4 A) (hs : Stat b1 b2 w s.heap) (F : Fram L (laCs L) m cm s) (hL : 255 <= L)
  (hb1 : cm "book" = some (.ref (k1 + 255))) (hb2 : cm "rest" = some (.ref (k2 + 255))) (hB1 : BkAt (wW b1 b2 w) s.heap (ownL L) k1 B1) (hB2 : BkAt (wW b1 b2 w) s.heap (ownL L) k2 B2)
  (hQ : ∀ D vs s', Gr [L] s s' -> Fram L (laCs L) (fun z => if z = "owners" then some (.ref D) else m z) cm s' -> s.heap.get? D = none -> s'.heap.PlainList D vs -> StrsAre vs.toList (ownersOf B1 B2) -> Q .next s') :
  wpAny (model theProg (wW b1 b2 w)) A (PySem.exec (atB laB 4) (laEnv L)) Q E s := by
 have hh := hA.handled
 have hA1 : Deep 1 A := hA.le (by decide)
 obtain ⟨dd, fn, ce, co, ct, tk, c, Lb, ep, H1, l1, P1, ap1⟩ := hB1
 obtain ⟨dd', fn', ce', co', ct', tk', c', Lb', ep', H2, l2, P2, ap2⟩ := hB2
 have o1 : s.heap.get? (k1 + 255) = some (bkObj (wW b1 b2 w) (dd + 255) Lb ep) := H1 _ (.tail _ (.head _))
 have o2 : s.heap.get? (k2 + 255) = some (bkObj (wW b1 b2 w) (dd' + 255) Lb' ep') := H2 _ (.tail _ (.head _))
 have c1 : s.heap.IsCell (L + 1) (some (.ref (k1 + 255))) := by have := F.cell "book" (L + 1) rfl; rwa [hb1] at this
 have c2 : s.heap.IsCell (L + 2) (some (.ref (k2 + 255))) := by have := F.cell "rest" (L + 2) rfl; rwa [hb2] at this
 refine wpAny_Assign_Name (wpAny_BinOp (ev_callT1 hs (bu_list _) rfl (ev_cell (c := L + 1) (by rw [laEnv_cells]; rfl) c1 (bk_list hA hs o1 l1 fun D vs s₁ G1 hD0 hD hvs => ?_))))
 have F1 := F.gr0 G1
 refine ev_comp [] (cl := [("book", L + 1)]) (by rfl) rfl (by decide) (fun _ => rfl) (ev_cell (c := L + 2) (by rw [laEnv_cells]; rfl) (c2.keeps fun b o e => G1.k b o e) ?_)
 refine bk_iter hA1 (G1.stat0 hs) (G1.k _ _ o2) fun I s₂ G2 hI hit => ?_
 have G12 := G1.trans G2
 have hs2 := G12.stat0 hs
 have hbI : k2 + 255 ≠ I := fun e => by rw [<- e, G1.k _ _ o2] at hI; cases hI
 have hI0 : s.heap.get? I = none := G1.dead (fun h => nomatch h) hI
 refine ⟨fun _ i ys _ => StrsAre ys (((keysL Lb').take i).filter (notIn Lb)), fun _ _ _ _ _ h _ => h, _, _, _, _, _, srcKeys hh _ I (k2 + 255) hbI Lb' ep', Nat.le_trans l2 (by decide), ⟨⟨_, hit, rfl, rfl⟩, _, G12.k _ _ o2, rfl⟩, fun _ => .nil, (fun _ h => nomatch h), ?_, ?_⟩
 ·intro own i ys v C s₃ m' cm' hi hC hown hox hfr hJ keep F3 hv E'
  obtain ⟨p, hp, rfl⟩ := hv
  refine turn_name (by rfl) (by rfl) F3 fun s₄ G4 F4 => wpAny_tests_one ?_
  have hC2 : s₂.heap.get? C = none := new_at hC
  have k4 : ∀ b o, s.heap.get? b = some o -> s₄.heap.get? b = some o := fun b o e => G4.keep b o (fun hm => by
   have e2 := G12.k b o e
   rw [mS hm] at e2
   rw [hC2] at e2; cases e2) (keep b o (fun hm => by rw [mS hm, hI0] at e; cases e) (G12.k b o e))
  have hs4 : Stat b1 b2 w s₄.heap := holds_iff.mpr fun b o e => k4 b o (holds_iff.mp hs b o e)
  refine wpAny_isTrue_Compare1 (c_local (v := .str p.1 p.2.1) (by rfl) (by rfl) F4 (by kernel_rfl) (c_free (c := L + 1) (by rfl) (by rfl) (by rfl) (c1.keeps k4) (bk_notin hA1 hs4 (k4 _ _ o1) fun s₅ G5 => wpAny_truthy_bool ?_)))
  have G35 : Gr [C] s₃ s₅ := Gr.trans G4 G5.nil
  have hm : (keysL Lb')[i]? = some p.1 := by unfold keysL; rw [List.getElem?_map, hp]; rfl
  have ht : ((keysL Lb').take (i + 1)).filter (notIn Lb) = ((keysL Lb').take i).filter (notIn Lb) ++ [p.1].filter (notIn Lb) := by rw [take_succ hm, List.filter_append]
  cases hg : (getL Lb p.1).isSome with
  | true =>
   simp only [Bool.not_true, Bool.false_eq_true, if_false]
   refine ⟨g_new G35 (.head _), ?_, _, _, F4.gr0 G5⟩
   show StrsAre ys (((keysL Lb').take (i + 1)).filter (notIn Lb))
   rw [ht, show [p.1].filter (notIn Lb) = [] from List.filter_cons_of_neg (by unfold notIn; rw [hg]; decide), List.append_nil]
   exact hJ
  | false =>
   simp only [Bool.not_false, if_true]
   refine c_local (v := .str p.1 p.2.1) (by rfl) (by rfl) (F4.gr0 G5) (by kernel_rfl) ⟨g_new G35 (.head _), ?_, _, _, F4.gr0 G5⟩
   show StrsAre (ys ++ [.str p.1 p.2.1]) (((keysL Lb').take (i + 1)).filter (notIn Lb))
   rw [ht, show [p.1].filter (notIn Lb) = [p.1] from List.filter_cons_of_pos (by unfold notIn; rw [hg]; decide)]
   exact hJ.snoc
 ·intro own D2 ys s' _ _ hJ hD20 hpl hlen' G
  replace hJ : StrsAre ys (((keysL Lb').take Lb'.length).filter (notIn Lb)) := hJ
  rw [List.take_of_length_le (by unfold keysL; simp)] at hJ
  have G' : Gr [] s₁ s' := (G2.nil.trans G).new fun a ha => by rw [mS ha]; exact hI
  refine addL (hD.at fun o e => G'.k _ o e) hpl ?_ fun D3 s₆ G6 hD30 hD3 => ?_
  ·have e1 : vs.size = Lb.length := by have := hvs.len; simpa using this
   have e9 : sizeLine = 16777216 := rfl
   have e2 : ys.toArray.size = ys.length := List.size_toArray
   have e4 : vs.toList.length = vs.size := Array.length_toList
   lia
  have G06 : Gr [] s s₆ := (G1.trans G').trans G6
  refine (F.gr0 G06).set (env := laEnv L) rfl rfl fun s₇ G7 F7 => ?_
  have hD3L : D3 ≠ L := fun e => by
   obtain ⟨o, _, _, h, _⟩ := (F.gr0 (G1.trans G')).ns
   rw [<- e, hD30] at h; cases h
  refine hQ D3 _ s₇ (G06.nil.trans G7) F7 ((G1.trans G').dead (fun h => nomatch h) hD30) (hD3.at fun o e => G7.keep _ o (fun hm => hD3L (mS hm)) e) ?_
  rw [Array.toList_append]
  unfold ownersOf
  rw [<- rows_keys P1, <- rows_keys P2]
  have e3 : (fun k => !(getE B1 k).isSome) = notIn Lb := by funext k; unfold notIn; rw [rows_has P1]
  rw [e3]
  exact StrsAre.app hvs hJ
end
theorem EntAv.move {av own : List Nat} {w : World} {h : Heap} {v : Value} {e : Ent} (x : EntAv av w h v e) (hs : ∀ a ∈ own, a ∈ av \/ h.get? a = none) : EntAv own w h v e := by
 have no : ∀ a o, a ∉ av -> h.get? a = some o -> a ∉ own := fun a o ha e hm => by
  rcases hs a hm with q | q
  ·exact ha q
  ·rw [q] at e; cases e
 obtain ⟨a, d, t1, t2, t3, t4, rfl, h1, h2, h3, h4, e1, L, ep, e2, p⟩ := x
 exact ⟨a, d, t1, t2, t3, t4, rfl, h1, no _ _ h2 e1, h3, no _ _ h4 e2, e1, L, ep, e2, Paired.imp (fun p q h => ⟨h.1, VT.mono2 (fun _ _ _ e => e) (fun a o h e => ⟨h.1, no a o h.2 e⟩) _ _ h.2⟩) p⟩
theorem BkAt.move {av own : List Nat} {w : World} {h : Heap} {bk : Nat} {B : BookT} (x : BkAt w h av bk B) (hs : ∀ a ∈ own, a ∈ av \/ h.get? a = none) : BkAt w h own bk B := by
 obtain ⟨dd, fn, ce, co, ct, tk, c, Lb, ep, h1, h2, h3, h4⟩ := x
 refine ⟨dd, fn, ce, co, ct, tk, c, Lb, ep, h1, h2, Paired.imp (fun p q h => ⟨h.1, h.2.move hs⟩) h3, fun p hp hm => ?_⟩
 rcases hs p.1 hm with q | q
 ·exact h4 p hp q
 ·rw [h1 p hp] at q; cases q
theorem BkAt.keep {av : List Nat} {w : World} {h h' : Heap} {bk : Nat} {B : BookT} (x : BkAt w h av bk B) (k : ∀ a o, 255 <= a -> a ∉ av -> h.get? a = some o -> h'.get? a = some o) : BkAt w h' av bk B := by
 obtain ⟨dd, fn, ce, co, ct, tk, c, Lb, ep, h1, h2, h3, h4⟩ := x
 refine ⟨dd, fn, ce, co, ct, tk, c, Lb, ep, fun p hp => k _ _ ?_ (h4 p hp) (h1 p hp), h2, RowB.keep k h3, h4⟩
 simp only [fzL, List.mem_cons, List.not_mem_nil, or_false] at hp
 rcases hp with rfl | rfl | rfl | rfl | rfl <;> exact Nat.le_add_left _ _
noncomputable def WhAt (av : List Nat) (w : World) (h : Heap) (v : Value) (p : Str × Ent) : Prop := X3_5 (fun T tk ev => v = .ref T) (fun T tk ev => 255 <= T) (fun T tk ev => T ∉ av) (fun T tk ev => h.get? T = some (tup #[.str p.1 tk, ev])) (fun T tk ev => EntAv av w h ev p.2)
theorem WhAt.keep {av : List Nat} {w : World} {h h' : Heap} {v : Value} {p : Str × Ent} (k : ∀ a o, 255 <= a -> a ∉ av -> h.get? a = some o -> h'.get? a = some o) (x : WhAt av w h v p) : WhAt av w h' v p := by
 obtain ⟨T, tk, ev, rfl, h1, h2, h3, h4⟩ := x
 exact ⟨T, tk, ev, rfl, h1, h2, k _ _ h1 h2 h3, h4.keep k⟩
section
variable {b1 b2 : Bool} {w : World} {A : Around} {E : Value -> Shared -> Prop} {s : Shared} {env : Env}
theorem ev_lookF {value slice : Expr} {pos : Pos} {Q : Value -> Shared -> Prop} (hA : Deep 4 A) (hsl : ∀ o i, subscripted slice false o i = operate [o, i] (getItem o i))
  (h : wpAny (model theProg (wW b1 b2 w)) A (eval value env) (fun o s₁ => wpAny (model theProg (wW b1 b2 w)) A (eval slice env) (fun i s₂ => X5_6 (fun bk k t av B => o = .ref (bk + 255)) (fun bk k t av B => i = .str k t) (fun bk k t av B => Stat b1 b2 w s₂.heap) (fun bk k t av B => BkAt (wW b1 b2 w) s₂.heap av bk B) (fun bk k t av B => (∀ a ∈ av, ∃ o, s₂.heap.get? a = some o)) (fun bk k t av B => ∀ v s', Gr [] s₂ s' -> EntAv av (wW b1 b2 w) s'.heap v ((getE B k).getD ent0) -> Q v s')) E s₁) E s) :
  wpAny (model theProg (wW b1 b2 w)) A (eval (.Subscript value slice pos) env) Q E s := by
 refine ev_subBook (hA.le (by decide)) hsl (wpAny_mono h (fun o s₁ h₁ => wpAny_mono h₁ (fun i s₂ h₂ => ?_) fun _ _ e => e) fun _ _ e => e)
 obtain ⟨bk, k, t, av, B, rfl, rfl, hs, ⟨dd, fn, ce, co, ct, tk, c, Lb, ep, H, hl, hp, hap⟩, hav, hQ⟩ := h₂
 have hb : s₂.heap.get? (bk + 255) = some (bkObj (wW b1 b2 w) (dd + 255) Lb ep) := H _ (.tail _ (.head _))
 refine ⟨bk, dd + 255, Lb, ep, k, t, rfl, rfl, hs, hb, fun s₃ G3 => ?_⟩
 have hs3 := G3.stat0 hs
 rcases get_rowB (k := k) hp with ⟨h1, h2⟩ | ⟨v, e, h1, h2, h3⟩
 ·refine codeAny_mono (missF_ok [] h1 A s₃ hA hs3 (H.keep fun b o e => G3.k b o e)) fun r s' h => ?_
  obtain ⟨u, _, rfl, ef⟩ := h
  have hn1 := ef.new _ (.head _)
  have hn2 := ef.new _ (.tail _ (.head _))
  have G' : Gr [] s₂ s' := G3.trans (ef.gr rfl)
  have hav3 : ∀ a ∈ av, ∃ o, s₃.heap.get? a = some o := fun a ha => by obtain ⟨o, e⟩ := hav a ha; exact ⟨o, G3.k a o e⟩
  exact hQ _ s' G' (by rw [h2]; exact ⟨_, _, _, _, _, _, rfl, Nat.le_add_left _ _, not_mem_of_new hav3 (new_at hn1.2), Nat.le_add_left _ _, not_mem_of_new hav3 (new_at hn2.2), hn1.1, ⟨[], 0, hn2.1, .nil⟩⟩)
 ·refine codeAny_mono (hit_ok (jb := 0) (dd := dd) h1 A s₃ (hA.le (by decide)) hs3 (fun p hp => by
   have hp' : p = (0, bk + 255, bkObj (wW b1 b2 w) (dd + 255) Lb ep) := by simpa [xHit, xPureN] using hp
   rw [hp']; exact G3.k _ _ hb)) fun r s' h => ?_
  obtain ⟨u, _, rfl, ef⟩ := h
  have G' : Gr [] s₂ s' := G3.trans (ef.gr rfl)
  exact hQ v s' G' (by rw [h2]; exact h3.keep fun a o _ _ e => G'.k a o e)
set_option maxHeartbeats 4000000 in
theorem la_6 {L k1 k2 D : Nat} {B1 B2 : BookT} {vs : Array Value} {os : List Str} {m cm : Str -> Option Value} {Q : Flow -> Shared -> Prop} (hA : Deep 4 A) (hs : Stat b1 b2 w s.heap) (hac : AcT s.heap) (h114 : ∃ o, s.heap.get? 114 = some o) (F : Fram L (laCs L) m cm s) (hL : 255 <= L)
  (hb1 : cm "book" = some (.ref (k1 + 255))) (hb2 : cm "rest" = some (.ref (k2 + 255))) (hB1 : BkAt (wW b1 b2 w) s.heap (ownL L) k1 B1) (hB2 : BkAt (wW b1 b2 w) s.heap (ownL L) k2 B2)
  (hmo : m "owners" = some (.ref D)) (hD : s.heap.IsList D vs) (hD48 : D ≠ 48) (hvs : StrsAre vs.toList os) (hsz : vs.size <= 1000) (hadd : ∀ o ∈ os, AddsE ((getE B1 o).getD ent0) ((getE B2 o).getD ent0))
  (hQ : ∀ W wvs s', Gr [L, 48] s s' -> AcT s'.heap -> Fram L (laCs L) (fun z => if z = "whole" then some (.ref W) else m z) cm s' -> s.heap.get? W = none -> s'.heap.PlainList W (List.toArray wvs) ->
   Paired (WhAt (ownL L) (wW b1 b2 w) s'.heap) wvs (os.map fun o => (o, addE ((getE B1 o).getD ent0) ((getE B2 o).getD ent0))) -> Q .next s') :
  wpAny (model theProg (wW b1 b2 w)) A (PySem.exec (atB laB 5) (laEnv L)) Q E s := by
 have hh := hA.handled
 have h48 := (ac_48 hac).1
 have h52 := (ac_48 hac).2
 have hos : vs.size = os.length := by have := hvs.len; simpa using this
 have hex : ∀ a ∈ ownL L, ∃ o, s.heap.get? a = some o := fun a ha => by
  simp only [ownL, List.mem_cons, List.not_mem_nil, or_false] at ha
  rcases ha with h | h | h | h | h
  ·obtain ⟨o, _, _, e, _⟩ := F.ns; exact ⟨o, by rw [h]; exact e⟩
  ·obtain ⟨o, e, _⟩ := F.cell "book" (L + 1) rfl; exact ⟨o, by rw [h]; exact e⟩
  ·obtain ⟨o, e, _⟩ := F.cell "rest" (L + 2) rfl; exact ⟨o, by rw [h]; exact e⟩
  ·rw [h]; exact h48
  ·rw [h]; exact h114
 have c1 : s.heap.IsCell (L + 1) (some (.ref (k1 + 255))) := by have := F.cell "book" (L + 1) rfl; rwa [hb1] at this
 have c2 : s.heap.IsCell (L + 2) (some (.ref (k2 + 255))) := by have := F.cell "rest" (L + 2) rfl; rwa [hb2] at this
 refine asg_compX [48] (m := m) (cm := cm) (cs := laCs L) (cl := [("rest", L + 2), ("book", L + 1)]) (ownL L) rfl rfl rfl (by rfl) rfl (by decide) (fun _ => rfl) (.head _) (fun h => by have h' : L = 48 := mS h; rw [h'] at hL; exact absurd hL (by decide)) (laCs_ok L)
  (ev_local F hmo (over_list hD fun I s₂ G2 hI hit hl2 hne _ => ?_))
 have hs2 := G2.stat0 hs
 have F2 := F.gr0 G2
 have I48 : I ≠ 48 := fun e => by obtain ⟨o, q⟩ := h48; rw [e, q] at hI; cases hI
 have I52 : I ≠ 52 := fun e => by obtain ⟨o, q⟩ := h52; rw [e, q] at hI; cases hI
 refine ⟨fun own i ys s' => AcT s'.heap /\ 52 ∉ own /\ Paired (WhAt own (wW b1 b2 w) s'.heap) ys ((os.map fun o => (o, addE ((getE B1 o).getD ent0) ((getE B2 o).getD ent0))).take i), ?_, _, _, _, _, _, srcList hh _ I D hne vs, Nat.le_trans hsz (by decide), ⟨hit, hl2⟩, ?_, fun a ha => (by obtain ⟨o, e⟩ := hex a ha; exact ⟨o, G2.k a o e⟩), ?_, ?_, ?_, ?_⟩
 ·rintro own own' i ys s s' ⟨j1, j2, j3⟩ h G
  refine ⟨j1.at fun b o hb e => G.keep b o (fun hm => ?_) e, j2, Paired.imp (fun _ _ x => x.keep fun a o _ ha e => G.keep a o (fun hm => ha (h a hm).1) e) j3⟩
  rcases hb with q | q
  ·exact j2 (q ▸ (h b hm).1)
  ·exact (h b hm).2 (by rw [q]; exact .head _)
 ·refine fun own ho => ⟨hac.at fun b o _ e => G2.k b o e, fun hm => ?_, .nil⟩
  rcases ho 52 hm with q | q | q
  ·simp only [ownL, List.mem_cons, List.not_mem_nil, or_false] at q
   lia
  ·exact I52 (mS q).symm
  ·obtain ⟨o, e⟩ := h52; rw [G2.k _ _ e] at q; cases q
 ·intro a ha
  rw [mS ha]
  refine ⟨by simp [ownL], fun hm => ?_⟩
  replace hm := mm2 hm
  rcases hm with q | q
  ·exact I48 q.symm
  ·exact hD48 q.symm
 ·rintro own i ys s ⟨j1, _⟩ a ha
  rw [mS ha]
  exact (ac_48 j1).1
 ·rintro own i ys v C s₃ m' cm' hi hC hown hox hfr ⟨hac3, h52o, hJ⟩ keep F3 hv E'
  obtain ⟨o, ho, tk, rfl⟩ := hvs.at (i := i) (v := v) (by simpa using hv)
  refine turn_name (by rfl) (by rfl) F3 fun s₄ G4 F4 => wpAny_tests_nil ?_
  simp only [if_true]
  have hC2 : s₂.heap.get? C = none := new_at hC
  have hCo : C ∈ own := hfr C (.head _)
  have C48 : C ≠ 48 := fun e => by obtain ⟨o, q⟩ := h48; rw [e, G2.k _ _ q] at hC2; cases hC2
  have C52 : C ≠ 52 := fun e => h52o (e ▸ hCo)
  have k4 : ∀ b o, b ≠ 48 -> s.heap.get? b = some o -> s₄.heap.get? b = some o := fun b o hb e => G4.keep b o (fun hm => by
   have e2 := G2.k b o e
   rw [mS hm] at e2
   rw [hC2] at e2; cases e2) (keep b o (fun hm => by
    simp only [List.singleton_append, List.mem_cons, List.not_mem_nil, or_false] at hm
    rcases hm with q | q
    ·exact hb q
    ·rw [q, hI] at e; cases e) (G2.k b o e))
  have hs4 : Stat b1 b2 w s₄.heap := holds_iff.mpr fun b o e => k4 b o (fun q => by rw [q, ktop_48] at e; cases e) (holds_iff.mp hs b o e)
  have hac4 : AcT s₄.heap := hac3.at fun b o hb e => G4.keep b o (fun hm => by
   have := mS hm
   rcases hb with q | q
   ·exact C52 (this.symm.trans q)
   ·exact C48 (this.symm.trans q)) e
  have hmv : ∀ a ∈ own, a ∈ ownL L \/ s.heap.get? a = none := fun a ha => by
   rcases hox a ha with q | q | q
   ·exact .inl q
   ·rw [mS q]; exact .inr hI
   ·exact .inr (G2.dead (fun h => nomatch h) q)
  have big : ∀ a : Nat, 255 <= a -> a ≠ 48 := fun a h => by lia
  have hK1 : BkAt (wW b1 b2 w) s₄.heap own k1 B1 := (hB1.move hmv).keep fun a o h _ e => k4 a o (big a h) e
  have hK2 : BkAt (wW b1 b2 w) s₄.heap own k2 B2 := (hB2.move hmv).keep fun a o h _ e => k4 a o (big a h) e
  have alive4 : ∀ a ∈ own, ∃ o, s₄.heap.get? a = some o := fun a ha => by
   by_cases hbC : a = C
   ·obtain ⟨o, _, _, e, _⟩ := F4.ns
    exact ⟨o, by rw [hbC]; exact e⟩
   ·obtain ⟨o, e⟩ := hown a ha
    exact ⟨o, G4.keep a o (fun hm => hbC (mS hm)) e⟩
  have cellK : ∀ {c : Nat} {v : Option Value}, 255 <= c -> s.heap.IsCell c v -> s₄.heap.IsCell c v := fun {c v} hc x => by obtain ⟨o, e, d⟩ := x; exact ⟨o, k4 c o (big c hc) e, d⟩
  refine evT2 (c_local (v := .str o tk) (by rfl) (by rfl) F4 (by kernel_rfl) (ev_callF hs4 (gl_afs _) (afs_fd _) (ev_lookF hA (fun _ _ => rfl) (c_free (c := L + 1) (by rfl) (by rfl) (by rfl) (cellK (by lia) c1) (c_local (v := .str o tk) (by rfl) (by rfl) F4 (by kernel_rfl) ?_)))))
  refine ⟨k1, o, tk, own, B1, rfl, rfl, hs4, hK1, alive4, fun v1 s₅ G5 he1 => ?_⟩
  have F5 := F4.gr0 G5
  have hs5 := G5.stat0 hs4
  refine ev_lookF hA (fun _ _ => rfl) (c_free (c := L + 2) (by rfl) (by rfl) (by rfl) ((cellK (by lia) c2).keeps fun b o e => G5.k b o e) (c_local (v := .str o tk) (by rfl) (by rfl) F5 (by kernel_rfl) ?_))
  refine ⟨k2, o, tk, own, B2, rfl, rfl, hs5, hK2.keep fun a o _ _ e => G5.k a o e, fun a ha => (by obtain ⟨o, e⟩ := alive4 a ha; exact ⟨o, G5.k a o e⟩), fun v2 s₆ G6 he2 => ?_⟩
  have G46 := G5.trans G6
  refine ⟨G46.stat0 hs4, afs_ok (hA.le (by decide)) (G46.stat0 hs4) (hac4.at fun b o _ e => G46.k b o e) (fun a ha => by obtain ⟨o, e⟩ := alive4 a ha; exact ⟨o, G46.k a o e⟩) (he1.keep fun a o _ _ e => G6.k a o e) he2 (hadd o (List.mem_of_getElem? ho)) fun T s₇ G7 hac7 hT0 heT => ?_⟩
  have hT20 : s₇.heap.get? s₇.heap.objs.size = none := new_at (Nat.le_refl _)
  have hT255 : 255 <= s₇.heap.objs.size := (G7.stat (G46.stat0 hs4) fun a ha => by rw [mS ha]; exact .inr (.inl rfl)).big
  refine ⟨by show 2 <= sizeLine; decide, fun s₈ G8 hT2 => ?_⟩
  generalize s₇.heap.objs.size = T2 at hT20 hT255 hT2 ⊢
  have G38 : Gr (48 :: [C]) s₃ s₈ := (((g_new G4 (.tail _ (.head _))).trans G46.nil).trans (g_new G7 (.head _))).trans G8.nil
  have alive7 : ∀ a ∈ own, ∃ o, s₇.heap.get? a = some o := fun a ha => by
   by_cases h : a = 48
   ·rw [h]; exact (ac_48 hac7).1
   ·obtain ⟨o, e⟩ := alive4 a ha
    exact ⟨o, G7.keep a o (fun hm => h (mS hm)) (G46.k a o e)⟩
  refine ⟨G38, ⟨hac7.at fun b o _ e => G8.k b o e, h52o, ?_⟩, _, _, ((F4.gr0 G46).gr G7 fun a ha hm => ?_).gr0 G8⟩
  ·show Paired _ _ (List.take (i + 1) _)
   have hoi : (os.map fun o => (o, addE ((getE B1 o).getD ent0) ((getE B2 o).getD ent0)))[i]? = some (o, addE ((getE B1 o).getD ent0) ((getE B2 o).getD ent0)) := by rw [List.getElem?_map, ho]; rfl
   rw [take_succ hoi]
   refine Paired.app (Paired.imp (fun _ _ x => x.keep fun a ob h255 ha e => G38.keep a ob (fun hm => ?_) e) hJ) (.cons ⟨T2, tk, _, rfl, hT255, not_mem_of_new alive7 hT20, hT2, heT.keep fun a o _ _ e => G8.k a o e⟩ .nil)
   rcases mC hm with q | q
   ·exact big a h255 q
   ·exact ha (by rw [mS q]; exact hCo)
  ·rcases mC ha with q | q
   ·exact C48 (q.symm.trans (mS hm))
   ·cases q
 ·rintro own W wvs s' hxo hDo ⟨hac', _, hJ⟩ hW0 hpl hlen
  refine ⟨F2, fun a ha hm => ?_, fun G' F' => ?_⟩
  ·have hge := frL_above F2 a ha
   simp only [List.singleton_append, List.mem_cons, List.not_mem_nil, or_false] at hm
   rcases hm with q | q
   ·lia
   ·obtain ⟨o, e⟩ := (F.noTup (laCs_ok L) a ha).alive
    rw [q, hI] at e; cases e
  ·replace hJ : Paired (WhAt own (wW b1 b2 w) s'.heap) wvs ((os.map fun o => (o, addE ((getE B1 o).getD ent0) ((getE B2 o).getD ent0))).take vs.size) := hJ
   rw [List.take_of_length_le (by rw [List.length_map, hos]; exact Nat.le_refl _)] at hJ
   refine hQ W wvs s' ((G2.nil.trans G').shrink fun a ha => ?_) hac' F' (G2.dead (fun h => nomatch h) hW0) hpl (Paired.imp (fun _ _ x => ?_) hJ)
   ·simp only [List.singleton_append, List.mem_cons, List.not_mem_nil, or_false] at ha
    rcases ha with q | q | q
    ·exact .inl (by rw [q]; exact .head _)
    ·exact .inl (by rw [q]; exact .tail _ (.head _))
    ·rw [q]; exact .inr hI
   ·obtain ⟨T, tk, ev, rfl, h1, h2, h3, h4⟩ := x
    exact ⟨T, tk, ev, rfl, h1, fun hm => h2 (hxo _ hm), h3, h4.sub hxo⟩
end
section
variable {b1 b2 : Bool} {w : World} {A : Around} {E : Value -> Shared -> Prop} {s : Shared} {env : Env}
theorem ev_lookN {value slice : Expr} {pos : Pos} {Q : Value -> Shared -> Prop} (hA : Deep 4 A) (hsl : ∀ o i, subscripted slice false o i = operate [o, i] (getItem o i))
  (h : wpAny (model theProg (wW b1 b2 w)) A (eval value env) (fun o s₁ => wpAny (model theProg (wW b1 b2 w)) A (eval slice env) (fun i s₂ => X5_6 (fun bk k t av B => o = .ref (bk + 255)) (fun bk k t av B => i = .str k t) (fun bk k t av B => Stat b1 b2 w s₂.heap) (fun bk k t av B => BkAt (wW b1 b2 w) s₂.heap av bk B) (fun bk k t av B => getE B k = none) (fun bk k t av B => ∀ a d t1 t2 t3 t4 s', Gr [] s₂ s' -> s₂.heap.get? (a + 255) = none -> s₂.heap.get? (d + 255) = none -> s'.heap.get? (a + 255) = some (tup #[.str "" t1, .str "" t2, .str "" t3, .str "" t4, .ref (d + 255)]) -> s'.heap.get? (d + 255) = some dict0 -> Q (.ref (a + 255)) s')) E s₁) E s) :
  wpAny (model theProg (wW b1 b2 w)) A (eval (.Subscript value slice pos) env) Q E s := by
 refine ev_subBook (hA.le (by decide)) hsl (wpAny_mono h (fun o s₁ h₁ => wpAny_mono h₁ (fun i s₂ h₂ => ?_) fun _ _ e => e) fun _ _ e => e)
 obtain ⟨bk, k, t, av, B, rfl, rfl, hs, ⟨dd, fn, ce, co, ct, tk, c, Lb, ep, H, hl, hp, hap⟩, hno, hQ⟩ := h₂
 have hb : s₂.heap.get? (bk + 255) = some (bkObj (wW b1 b2 w) (dd + 255) Lb ep) := H _ (.tail _ (.head _))
 refine ⟨bk, dd + 255, Lb, ep, k, t, rfl, rfl, hs, hb, fun s₃ G3 => ?_⟩
 have hs3 := G3.stat0 hs
 rcases get_rowB (k := k) hp with ⟨h1, h2⟩ | ⟨v, e, h1, h2, h3⟩
 ·refine codeAny_mono (missF_ok [] h1 A s₃ hA hs3 (H.keep fun b o e => G3.k b o e)) fun r s' h => ?_
  obtain ⟨u, _, rfl, ef⟩ := h
  have hn1 := ef.new _ (.head _)
  have hn2 := ef.new _ (.tail _ (.head _))
  exact hQ _ _ _ _ _ _ s' (G3.trans (ef.gr rfl)) (G3.dead (fun h => nomatch h) (new_at hn1.2)) (G3.dead (fun h => nomatch h) (new_at hn2.2)) hn1.1 hn2.1
 ·rw [hno] at h2; cases h2
theorem cw_plain {prog : Program} {w : World} {A : Around} {E : Value -> Shared -> Prop} {s : Shared} {env : Env} {id : String} {self : Value} {pos : Pos} {e : Expr} {r : List Expr} {Q : Value -> Shared -> Prop} (hst : starEach (e :: r) env = (e :: r).map fun e => (false, eval e env))
  (h : evalsAll prog w A E env (e :: r) (fun vs s₁ => wpAny (model prog w) A (call (.builtin id) (self :: vs)) Q E s₁) s) : wpAny (model prog w) A (callWith pos (.builtin id) [self] (backTo pos (starEach (e :: r) env)) []) Q E s := by
 rw [hst]
 have hp : ∀ l : List Expr, (backTo pos (l.map fun e => (false, eval e env))).any (·.1) = false := by
  intro l
  induction l with
  | nil => rfl
  | cons a l ih => exact ih
 exact callWith_builtin (hp (e :: r)) (evalArgs_plain (wpAny_mono (evalsAll_spliced (e :: r) _ _ h) (fun vs s₁ h₁ => h₁) fun _ _ e => e))
set_option maxHeartbeats 4000000 in
theorem la_7 {L k1 : Nat} {B1 : BookT} {m cm : Str -> Option Value} {Q : Flow -> Shared -> Prop} (hA : Deep 4 A) (hs : Stat b1 b2 w s.heap) (F : Fram L (laCs L) m cm s)
  (hb1 : cm "book" = some (.ref (k1 + 255))) (hB1 : BkAt (wW b1 b2 w) s.heap (ownL L) k1 B1) (hno : getE B1 "i" = none) (hQ : ∀ s', Gr [] s s' -> Q .next s') :
  wpAny (model theProg (wW b1 b2 w)) A (PySem.exec (atB laB 6) (laEnv L)) Q E s := by
 have c1 : s.heap.IsCell (L + 1) (some (.ref (k1 + 255))) := by have := F.cell "book" (L + 1) rfl; rwa [hb1] at this
 refine wpAny_Expr_any (wpAny_Call_method (T := "dict") (id := "dict.setdefault") rfl rfl rfl PySem.F.plainAttrs_dict PySem.F.slot_dict_setdefault PySem.F.type_dict_setdefault (ev_subC_any (ev_lookN hA (fun _ _ => rfl) (ev_cell (c := L + 1) (by rw [laEnv_cells]; rfl) c1 (evS fun t s₁ G1 => ?_)))))
 refine ⟨k1, "i", t, ownL L, B1, rfl, rfl, G1.stat0 hs, hB1.gr G1 (fun _ h => nomatch h), hno, fun a d t1 t2 t3 t4 s₂ G2 ha0 hd0 ha hd => ?_⟩
 refine evI fun t5 s₃ G3 => intTup (k := 4) (isTup (G3.k _ _ ha)) (by decide) rfl ?_
 have hd3 := G3.k _ _ hd
 refine ⟨⟨_, hd3, rfl⟩, fun b e => by cases e; exact ⟨_, hd3, rfl⟩, ?_⟩
 refine cw_plain (by rfl) (evS fun t6 s₄ G4 => evS fun t7 s₅ G5 => ?_)
 have G15 := ((G1.trans G2).trans G3).trans (G4.trans G5)
 have hd5 := (G4.trans G5).k _ _ hd3
 have hD : s₅.heap.DictOf (PySem.strKind theProg (wW b1 b2 w)) (d + 255) [] := ⟨_, #[], 0, hd5, ⟨rfl, rfl, rfl⟩, rfl, (fun e he => by simp at he), .nil, .nil⟩
 refine call_meetsIn PySem.F.slot_dict_setdefault hD.typeIs PySem.F.entry_dict_setdefault (PySem.F.args_dict_setdefault_3 _ _ _) (kt_meets_setdefault (PySem.strKind theProg (wW b1 b2 w)) (k := "p") (d + 255) (by show (("p" : Str) == "p") = true; simp) (sys255 d) _) ⟨[], hD, Nat.zero_le _, (fun v hv => by cases hv), fun _ h' _ hs' => ?_⟩
 have G6 : Gr [d + 255] s₅ { s₅ with heap := h', toks := s₅.toks + 1 } := gr_same hs'
 exact hQ _ ((G15.nil.trans G6).new fun x hx => by rw [mS hx]; exact G1.dead (fun h => nomatch h) hd0)
set_option maxHeartbeats 4000000 in
theorem la_8 {L k1 : Nat} {B1 : BookT} {m cm : Str -> Option Value} {Q : Flow -> Shared -> Prop} (hA : Deep 4 A) (hs : Stat b1 b2 w s.heap) (F : Fram L (laCs L) m cm s)
  (hb1 : cm "book" = some (.ref (k1 + 255))) (hB1 : BkAt (wW b1 b2 w) s.heap (ownL L) k1 B1) (hno : getE B1 "i" = none)
  (hQ : ∀ S vs s', Gr [L] s s' -> Fram L (laCs L) (fun z => if z = "stranger" then some (.ref S) else m z) cm s' -> s'.heap.IsList S vs -> Paired (fun v (p : Str × Ent) => X3_3 (fun T tk ev => v = .ref T) (fun T tk ev => s'.heap.IsTuple T #[.str p.1 tk, ev]) (fun T tk ev => EntAt (wW b1 b2 w) s'.heap ev p.2)) vs.toList [("i", ent0)] -> Q .next s') :
  wpAny (model theProg (wW b1 b2 w)) A (PySem.exec (atB laB 7) (laEnv L)) Q E s := by
 have c1 : s.heap.IsCell (L + 1) (some (.ref (k1 + 255))) := by have := F.cell "book" (L + 1) rfl; rwa [hb1] at this
 refine wpAny_Assign_Name (evL (evT (evS fun t s₁ G1 => ev_lookN hA (fun _ _ => rfl) (ev_cell (c := L + 1) (by rw [laEnv_cells]; rfl) (c1.keeps fun b o e => G1.k b o e) (evS fun t' s₂ G2 => ?_)))))
 have G02 := G1.trans G2
 refine ⟨k1, "i", t', ownL L, B1, rfl, rfl, G02.stat0 hs, hB1.gr G02 (fun _ h => nomatch h), hno, fun a d t1 t2 t3 t4 s₃ G3 ha0 hd0 ha hd => ?_⟩
 refine ⟨by show 2 <= sizeLine; decide, fun T s₄ G4 hT0 hT => ⟨by show 1 <= sizeLine; decide, fun S s₅ G5 hS0 hS => ?_⟩⟩
 have G05 := ((G02.trans G3).trans G4).trans G5
 refine (F.gr0 G05).set (env := laEnv L) rfl rfl fun s₆ G6 F6 => ?_
 obtain ⟨oL, _, _, hLo, _⟩ := F.ns
 have neL : ∀ {x : Nat} {u : Shared}, Gr [] s u -> u.heap.get? x = none -> x ≠ L := fun G h e => by
  have e' : s.heap.get? L = some oL := hLo
  rw [e, G.k _ _ e'] at h; cases h
 have k6 : ∀ b o, b ≠ L -> s₅.heap.get? b = some o -> s₆.heap.get? b = some o := fun b o h e => G6.keep b o (fun hm => h (mS hm)) e
 have hT6 := k6 T _ (neL (G02.trans G3) hT0) (G5.k _ _ hT)
 have hS6 : s₆.heap.PlainList S #[.ref T] := hS.at fun o e => k6 S o (neL ((G02.trans G3).trans G4) hS0) e
 have ha6 := k6 _ _ (neL G02 ha0) ((G4.trans G5).k _ _ ha)
 have hd6 := k6 _ _ (neL G02 hd0) ((G4.trans G5).k _ _ hd)
 exact hQ S _ s₆ (G05.nil.trans G6) F6 hS6.isList (.cons ⟨T, t, _, rfl, isTup hT6, _, _, _, _, _, _, rfl, Nat.le_add_left _ _, ha6, [], 0, hd6, .nil⟩ .nil)
end
end Mine
end
section
namespace Mine
open PySem PySem.W PySem.W.X PySem.Spec PySem.Calls PyProof.Rows
open PySem.AutoSeq1 (wpAny_loadPart')
open PySem.MeetsSeq PySem.MeetsSeq2 PySem.MeetsSeq3 PySem.SeqAt
structure RoomN (n : Nat) (A : Around) : Prop where
 handled : A.handled = none
 depth : A.depth + 60 < recursionLimit
 units : A.units + 1000 + n < cLine
theorem RoomN.in1 {n : Nat} {A : Around} (h : RoomN (n + 1) A) : RoomN n A.in1 :=
 ⟨h.handled, h.depth, by have := h.units; show A.units + 1 + 1000 + n < cLine; lia⟩
theorem RoomN.lt {n : Nat} {A : Around} (h : RoomN n A) : A.units < cLine := by have := h.units; lia
theorem RoomN.deep {n : Nat} {A : Around} (h : RoomN n A) : Deep 1 A := ⟨h.handled, h.depth, by have := h.units; lia⟩
theorem Deep.roomN {n : Nat} {A : Around} (h : Deep 2 A) (hn : n <= 900) : RoomN n A := ⟨h.handled, by have := h.depth; lia, by have := h.units; lia⟩
noncomputable def EqM (b1 b2 : Bool) (w : World) (n : Nat) (s : Shared) (y x : Value) : Prop :=
 ∀ (A : Around) (s₁ : Shared) (E : Value -> Shared -> Prop) (Q : Bool -> Shared -> Prop), RoomN n A -> Gr [] s s₁ -> (∀ s', Gr [] s₁ s' -> Q true s') -> wpAny (model theProg (wW b1 b2 w)) A (eqBool y x) Q E s₁
theorem EqM.gr {b1 b2 : Bool} {w : World} {n : Nat} {s s' : Shared} {y x : Value} (h : EqM b1 b2 w n s y x) (G : Gr [] s s') : EqM b1 b2 w n s' y x := fun A s₁ E Q hA G1 hQ => h A s₁ E Q hA (G.trans G1) hQ
noncomputable def eqCode : Bool -> Int
 | true => 2
 | false => 3
section
variable {b1 b2 : Bool} {w : World}
set_option maxHeartbeats 4000000 in
theorem eq_loopM (l b : Addr) (items items2 : Array Value) (n n2 : Nat) (dd dd2 : Option Addr) (sl sl2 : Array (Option Value)) (hsz : items.size = items2.size) (c : Bool) (N : Nat) (k : Nat) :
  ∀ i : Nat, items.size - i = k -> MeetsIn theProg (wW b1 b2 w) (Builtin.«list.__eq__.loop» ⟨[.ref l, .ref b, rawInt i, rawInt (eqCode c)], []⟩)
   (fun A R s => RoomN N A.in1 /\ s.heap.get? l = some { cls := .type "list", dict := dd, data := .seq items n, slots := sl } /\ s.heap.get? b = some { cls := .type "list", dict := dd2, data := .seq items2 n2, slots := sl2 } /\
    (∀ j (h1 : j < items.size) (h2 : j < items2.size), EqM b1 b2 w N s items[j] items2[j]) /\ (∀ s', Gr [] s s' -> R (.ok (.ret (.bool c))) s')) := by
 induction k with
 | zero =>
  intro i hk A R s h
  obtain ⟨hA, hl, hb, he, h⟩ := h
  have h' := h s (.refl s)
  clear h
  obtain ⟨hp, g, d, tk, os⟩ := s
  have hi1 : items[((i : Nat) : Int).toNat]? = none := by simp; lia
  have hi2 : items2[((i : Nat) : Int).toNat]? = none := by simp; lia
  cases c <;> dsimp only [eqCode] at h' ⊢
  ·wp_walk using wpAny_loadPart' hl, wpAny_loadPart' hb
   rw [hi1, hi2]
   wp_walk using wpAny_loadPart' hl, wpAny_loadPart' hb
   show R (.ok (.ret (.bool (items.size != items2.size)))) _
   rw [hsz]
   simpa using h'
  ·wp_walk using wpAny_loadPart' hl, wpAny_loadPart' hb
   rw [hi1, hi2]
   wp_walk using wpAny_loadPart' hl, wpAny_loadPart' hb
   show R (.ok (.ret (.bool (items.size == items2.size)))) _
   rw [hsz]
   simpa using h'
 | succ k ih =>
  intro i hk A R s h
  obtain ⟨hA, hl, hb, he, h⟩ := h
  have hlt : i < items.size := by lia
  have hlt2 : i < items2.size := by lia
  have hi1 : items[((i : Nat) : Int).toNat]? = some items[i] := by simp [hlt]
  have hi2 : items2[((i : Nat) : Int).toNat]? = some items2[i] := by simp [hlt2]
  have hc : ((i : Int) + 1) = ((i + 1 : Nat) : Int) := by push_cast; rfl
  have next : ∀ s', Gr [] s s' -> codeAny (model theProg (wW b1 b2 w)) A (.builtin "list.__eq__.loop" ⟨[.ref l, .ref b, rawInt ((i : Int) + 1), rawInt (eqCode c)], []⟩) R s' := fun s' G => by
   rw [hc]
   refine codeAny_builtin entry_eq_loop ?_
   rw [Around.under_plainId plain_eq_loop _]
   exact ih (i + 1) (by lia) A R s' ⟨hA, G.k _ _ hl, G.k _ _ hb, fun j h1 h2 => (he j h1 h2).gr G, fun s'' G' => h s'' (G.trans G')⟩
  have hei := he i hlt hlt2 A.in1 s
  clear ih he h
  have hq := plainId_quiet plain_eq_loop
  obtain ⟨hp, g, d, tk, os⟩ := s
  cases c <;> dsimp only [eqCode] at next ⊢
  ·wp_walk using wpAny_loadPart' hl, wpAny_loadPart' hb
   rw [hi1, hi2]
   refine wpAny_bind (hei _ _ hA (.refl _) fun s' G => ?_)
   have nx := next s' G
   clear next
   wp_walk
   exact ⟨hq _, nx⟩
  ·wp_walk using wpAny_loadPart' hl, wpAny_loadPart' hb
   rw [hi1, hi2]
   refine wpAny_bind (hei _ _ hA (.refl _) fun s' G => ?_)
   have nx := next s' G
   clear next
   wp_walk
   exact ⟨hq _, nx⟩
end
end Mine
end
section
namespace Mine
open PySem PySem.W PySem.W.X PySem.Spec PySem.Calls PyProof.Rows
open PySem.AutoSeq1 (wpAny_loadPart')
open PySem.MeetsSeq PySem.MeetsSeq2 PySem.MeetsSeq3 PySem.SeqAt PySem.SeqRoads2
structure Hold (P : Prop) : Prop where
 out : P
section
variable {b1 b2 : Bool} {w : World}
theorem list_eqM (l b : Addr) (items items2 : Array Value) (n n2 : Nat) (dd dd2 : Option Addr) (sl sl2 : Array (Option Value)) (hsz : items.size = items2.size) (N : Nat) :
  MeetsIn theProg (wW b1 b2 w) (Builtin.«list.__eq__» ⟨[.ref l, .ref b], []⟩)
   (fun A R s => RoomN N A.in1 /\ s.heap.get? l = some { cls := .type "list", dict := dd, data := .seq items n, slots := sl } /\ s.heap.get? b = some { cls := .type "list", dict := dd2, data := .seq items2 n2, slots := sl2 } /\
    (∀ j (h1 : j < items.size) (h2 : j < items2.size), EqM b1 b2 w N s items[j] items2[j]) /\ (∀ s', Gr [] s s' -> R (.ok (.ret (.bool true))) s')) := by
 intro A R s ⟨hA, hl, hb, he, h⟩
 have next : codeAny (model theProg (wW b1 b2 w)) A (.builtin "list.__eq__.loop" ⟨[.ref l, .ref b, rawInt 0, rawInt 2], []⟩) R s := by
  refine codeAny_builtin entry_eq_loop ?_
  rw [Around.under_plainId plain_eq_loop _]
  exact eq_loopM l b items items2 n n2 dd dd2 sl sl2 hsz true N _ 0 rfl A R s ⟨hA, hl, hb, he, h⟩
 clear he h
 have hq := plainId_quiet plain_eq_loop
 obtain ⟨hp, g, d, tk, os⟩ := s
 have f3 := AutoSeq1.sub_list_list
 have hne : ¬ (items.size != items2.size) = true := by simp [hsz]
 wp_walk using wpAny_loadPart' hl, wpAny_loadPart' hb
 exact ⟨hq _, next⟩
theorem list_neM (l b : Addr) (items items2 : Array Value) (n n2 : Nat) (dd dd2 : Option Addr) (sl sl2 : Array (Option Value)) (hsz : items.size = items2.size) (N : Nat) :
  MeetsIn theProg (wW b1 b2 w) (Builtin.«list.__ne__» ⟨[.ref l, .ref b], []⟩)
   (fun A R s => RoomN N A.in1 /\ s.heap.get? l = some { cls := .type "list", dict := dd, data := .seq items n, slots := sl } /\ s.heap.get? b = some { cls := .type "list", dict := dd2, data := .seq items2 n2, slots := sl2 } /\
    (∀ j (h1 : j < items.size) (h2 : j < items2.size), EqM b1 b2 w N s items[j] items2[j]) /\ (∀ s', Gr [] s s' -> R (.ok (.ret (.bool false))) s')) := by
 intro A R s ⟨hA, hl, hb, he, h⟩
 have next : codeAny (model theProg (wW b1 b2 w)) A (.builtin "list.__eq__.loop" ⟨[.ref l, .ref b, rawInt 0, rawInt 3], []⟩) R s := by
  refine codeAny_builtin entry_eq_loop ?_
  rw [Around.under_plainId plain_eq_loop _]
  exact eq_loopM l b items items2 n n2 dd dd2 sl sl2 hsz false N _ 0 rfl A R s ⟨hA, hl, hb, he, h⟩
 clear he h
 have hq := plainId_quiet plain_eq_loop
 obtain ⟨hp, g, d, tk, os⟩ := s
 have f3 := AutoSeq1.sub_list_list
 have hne : ¬ (items.size != items2.size) = true := by simp [hsz]
 wp_walk using wpAny_loadPart' hl, wpAny_loadPart' hb
 exact ⟨hq _, next⟩
set_option maxHeartbeats 4000000 in
theorem tuple_eqM (l b : Addr) (cl : Value) (items items2 : Array Value) (n n2 : Nat) (dd dd2 : Option Addr) (sl sl2 : Array (Option Value)) (hsz : items.size = items2.size) (N : Nat) :
  MeetsIn theProg (wW b1 b2 w) (Builtin.«tuple.__eq__» ⟨[.ref l, .ref b], []⟩)
   (fun A R s => RoomN N A.in1 /\ s.heap.get? l = some { cls := cl, dict := dd, data := .seq items n, slots := sl } /\ s.heap.get? b = some { cls := .type "tuple", dict := dd2, data := .seq items2 n2, slots := sl2 } /\
    (∀ j (h1 : j < items.size) (h2 : j < items2.size), EqM b1 b2 w N s items[j] items2[j]) /\ (∀ s', Gr [] s s' -> R (.ok (.ret (.bool true))) s')) := by
 refine .of_wp fun A R s ⟨hA, hl, hb, he, h⟩ => ?_
 obtain ⟨s₀, hs0⟩ : ∃ s₀ : Shared, s = s₀ := ⟨s, rfl⟩
 rw [hs0] at he h
 have G0 : Hold (Gr [] s₀ s) := ⟨by rw [hs0]; exact .refl _⟩
 replace he := Hold.mk he
 replace h := Hold.mk h
 clear hs0
 obtain ⟨hp, g, d, tk, os⟩ := s
 have f2 := AutoSeq1.sub_tuple_tuple
 have hZ : (items.toList.zip items2.toList).length = items.size := by simp [hsz]
 wp_walk using wpAny_loadPart' hl, wpAny_loadPart' hb, wpAny_forIn_list _ (fun rest b s' => b.1 = none /\ Gr [] s₀ s' /\ ∃ i, rest = (items.toList.zip items2.toList).drop i) _
 case turn =>
  rintro ⟨y, x⟩ rest b s' ⟨hb', G, i, hz⟩
  have hlt : i < (items.toList.zip items2.toList).length := by
   rcases Nat.lt_or_ge i (items.toList.zip items2.toList).length with h' | h'
   ·exact h'
   ·rw [List.drop_of_length_le h'] at hz; cases hz
  have h1 : i < items.size := hZ ▸ hlt
  have h2 : i < items2.size := hsz ▸ h1
  rw [List.drop_eq_getElem_cons hlt] at hz
  injection hz with hyx hrest
  have hy : y = items[i] := by have := congrArg Prod.fst hyx; simpa using this
  have hx : x = items2[i] := by have := congrArg Prod.snd hyx; simpa using this
  subst hy hx
  refine wpAny_bind (he.out i h1 h2 A.in1 s' _ _ hA G fun s'' G' => ?_)
  have Gn := G.trans G'
  clear he h
  wp_walk
  exact ⟨rfl, Gn, i + 1, hrest⟩
 case fin =>
  rintro ⟨b1, b2⟩ s' ⟨hb', G, i, hz⟩
  simp only at hb'
  subst hb'
  have h' := h.out s' G
  clear he h
  wp_walk
  have : (items.size == items2.size) = true := by simp [hsz]
  exact ⟨_, rfl, by simpa [Builtin.Tuple.tupleCompareSizes, this] using h'⟩
 case h =>
  exact ⟨rfl, G0.out, 0, rfl⟩
end
end Mine
end
section
namespace Mine
open PySem PySem.W PySem.W.X PySem.Spec PySem.Calls PyProof.Rows
open PySem.SeqAt
theorem plain_tuple_eq : plainId "tuple.__eq__" = true := by decide +kernel
noncomputable abbrev teqCode (a b : Nat) : Code := .call (.builtin "tuple.__eq__") ⟨[.ref (a + 255), .ref b], []⟩
theorem teq_check (b1 b2 : Bool) (w : World) (dep un : Nat) (fr : Option (List Env)) (gs : Option (List Code)) (γ tb a b d t u : Nat) (x y : Str) :
  Chk (VV b1 b2 w dep un fr gs γ) (teqCode a b) (den (teqCode a b)) [(a + 255, pairObj d x t y u)] tb (fun _ => .go 2 [1, 0] .done) [0]
   (fun _ _ => ⟨none, .base, .pure (.again (.builtin "tuple.__eq__" ⟨[.ref (a + 255), .ref b], []⟩)), [], objsOf [(a + 255, pairObj d x t y u)]⟩) := by
 intro nb xs
 cases b1 <;> cases b2 <;> kernel_rfl
section
variable {b1 b2 : Bool} {w : World} {s : Shared} {A : Around} {E : Value -> Shared -> Prop}
theorem eqm_str {n : Nat} {x : Str} {t u : Tok} : EqM b1 b2 w n s (.str x t) (.str x u) := fun A s₁ E Q hA G hQ => EqAt.str_str x t x u _ _ E Q (by rw [beq_self_eq_true]; exact hQ s₁ (.refl _))
theorem eqm_bool {n : Nat} {x : Bool} : EqM b1 b2 w n s (.bool x) (.bool x) := fun A s₁ E Q hA G hQ => EqAt.same (.bool x) _ _ E Q (hQ s₁ (.refl _))
theorem eqm_same {n : Nat} {v : Value} : EqM b1 b2 w n s v v := fun A s₁ E Q hA G hQ => EqAt.same v _ _ E Q (hQ s₁ (.refl _))
theorem eqm_of_rc {n : Nat} {l b : Addr} (h : ∀ (A : Around) (s₁ : Shared) (E : Value -> Shared -> Prop) (Q : Value -> Shared -> Prop), l ≠ b -> RoomN n A -> Gr [] s s₁ -> (∀ s', Gr [] s₁ s' -> Q (.bool true) s') -> wpAny (model theProg (wW b1 b2 w)) A (richCompare .Eq (.ref l) (.ref b)) Q E s₁) : EqM b1 b2 w n s (.ref l) (.ref b) := by
 intro A s₁ E Q hA G hQ
 by_cases hne : l = b
 ·subst hne
  exact eqm_same A s₁ E Q hA G hQ
 unfold eqBool
 refine wpAny_holding ?_
 refine wpAny_ite_split (fun hab => absurd (by have := eq_of_beq hab; injection this) hne) (fun _ => ?_)
 exact wpAny_bind (h A s₁ E _ hne hA G fun s' G' => wpAny_truthy_bool (hQ s' G'))
theorem rc_lists {N : Nat} {l b : Addr} {items items2 : Array Value} {Q : Value -> Shared -> Prop} (hA : RoomN (N + 1) A) (hl : s.heap.IsList l items) (hb : s.heap.IsList b items2) (hsz : items.size = items2.size) (he : ∀ j (h1 : j < items.size) (h2 : j < items2.size), EqM b1 b2 w N s items[j] items2[j])
  (hQ : ∀ s', Gr [] s s' -> Q (.bool true) s') : wpAny (model theProg (wW b1 b2 w)) A (richCompare .Eq (.ref l) (.ref b)) Q E s := by
 obtain ⟨⟨cls, dd, data, sl⟩, ho, hc, n, hd⟩ := id hl
 obtain ⟨⟨cls2, dd2, data2, sl2⟩, ho2, hc2, n2, hd2⟩ := id hb
 simp only at hc hd hc2 hd2
 subst hc hd hc2 hd2
 exact wpAny_richCompare_same_room (op := .Eq) (T := "list") ⟨_, ho, rfl⟩ ⟨_, ho2, rfl⟩ PySem.F.slot_list_eq (call_meetsIn PySem.F.slot_list_eq ⟨_, ho, rfl⟩ PySem.F.entry_list_eq (PySem.F.args_list_eq_2 _ _) (list_eqM l b items items2 n n2 dd dd2 sl sl2 hsz N)
  ⟨hA.in1, ho, ho2, he, fun s' G => ⟨(fun x => nomatch x), hQ s' G⟩⟩) hA.lt
theorem rc_ne_lists {N : Nat} {l b : Addr} {items items2 : Array Value} {Q : Value -> Shared -> Prop} (hA : RoomN (N + 1) A) (hl : s.heap.IsList l items) (hb : s.heap.IsList b items2) (hsz : items.size = items2.size) (he : ∀ j (h1 : j < items.size) (h2 : j < items2.size), EqM b1 b2 w N s items[j] items2[j])
  (hQ : ∀ s', Gr [] s s' -> Q (.bool false) s') : wpAny (model theProg (wW b1 b2 w)) A (richCompare .NotEq (.ref l) (.ref b)) Q E s := by
 obtain ⟨⟨cls, dd, data, sl⟩, ho, hc, n, hd⟩ := id hl
 obtain ⟨⟨cls2, dd2, data2, sl2⟩, ho2, hc2, n2, hd2⟩ := id hb
 simp only at hc hd hc2 hd2
 subst hc hd hc2 hd2
 exact wpAny_richCompare_same_room (op := .NotEq) (T := "list") ⟨_, ho, rfl⟩ ⟨_, ho2, rfl⟩ PySem.F.slot_list_ne (call_meetsIn PySem.F.slot_list_ne ⟨_, ho, rfl⟩ PySem.F.entry_list_ne (PySem.F.args_list_ne_2 _ _) (list_neM l b items items2 n n2 dd dd2 sl sl2 hsz N)
  ⟨hA.in1, ho, ho2, he, fun s' G => ⟨(fun x => nomatch x), hQ s' G⟩⟩) hA.lt
theorem eqm_lists {N : Nat} {l b : Addr} {items items2 : Array Value} (hl : s.heap.IsList l items) (hb : s.heap.IsList b items2) (hsz : items.size = items2.size) (he : ∀ j (h1 : j < items.size) (h2 : j < items2.size), EqM b1 b2 w N s items[j] items2[j]) : EqM b1 b2 w (N + 1) s (.ref l) (.ref b) :=
 eqm_of_rc fun A s₁ E Q _ hA G hQ => rc_lists hA (hl.at fun o e => G.k _ o e) (hb.at fun o e => G.k _ o e) hsz (fun j h1 h2 => (he j h1 h2).gr G) hQ
theorem eqm_tuples {N : Nat} {l b : Addr} {items items2 : Array Value} (hl : s.heap.IsTuple l items) (hb : s.heap.IsTuple b items2) (hsz : items.size = items2.size) (he : ∀ j (h1 : j < items.size) (h2 : j < items2.size), EqM b1 b2 w N s items[j] items2[j]) : EqM b1 b2 w (N + 1) s (.ref l) (.ref b) := by
 refine eqm_of_rc fun A s₁ E Q _ hA G hQ => ?_
 obtain ⟨⟨cls, dd, data, sl⟩, ho, hc, n, hd⟩ := id hl
 obtain ⟨⟨cls2, dd2, data2, sl2⟩, ho2, hc2, n2, hd2⟩ := id hb
 simp only at hc hd hc2 hd2
 subst hc hd hc2 hd2
 exact wpAny_richCompare_same_room (op := .Eq) (T := "tuple") ⟨_, G.k _ _ ho, rfl⟩ ⟨_, G.k _ _ ho2, rfl⟩ PySem.F.slot_tuple_eq (call_meetsIn PySem.F.slot_tuple_eq ⟨_, G.k _ _ ho, rfl⟩ PySem.F.entry_tuple_eq (PySem.F.args_tuple_eq_2 _ _) (tuple_eqM l b _ items items2 n n2 dd dd2 sl sl2 hsz N)
  ⟨hA.in1, G.k _ _ ho, G.k _ _ ho2, fun j h1 h2 => (he j h1 h2).gr G, fun s' G' => ⟨(fun x => nomatch x), hQ s' G'⟩⟩) hA.lt
theorem teq_ok {a b d t u t' u' : Nat} {x y : Str} {R : Result -> Shared -> Prop} (hA : RoomN 2 A) (hs : Stat b1 b2 w s.heap) (ha : s.heap.get? (a + 255) = some (pairObj d x t y u)) (hb : s.heap.get? b = some (tup #[.str x t', .str y u']))
  (hR : ∀ s', Gr [] s s' -> R (.ok (.ret (.bool true))) s') : codeAny (model theProg (wW b1 b2 w)) A (teqCode a b) R s := by
 have hA1 := hA.deep
 have hin : RoomN 1 A.in1 := hA.in1
 obtain ⟨hh, dep, fr, gs, un⟩ := A
 obtain ⟨rfl, hdp, hu⟩ := hA1
 refine codeBy [(a + 255, pairObj d x t y u)] (fun _ => .go 2 [1, 0] .done) [0] _ hs (fun p hp => ⟨one_has ha p hp, one_dyn p hp⟩) (by simp) rfl hdp hu (fun _ => trivial) (teq_check b1 b2 w dep un fr gs _ s.toks a b d t u x y) ?_
 intro nb xs st hnb _ hsee
 have e := See.mk.inj hsee
 refine endAgain e.1 e.2.1 e.2.2.1 (plainId_quiet plain_tuple_eq _) fun s₁ R₁ => ?_
 have h1 := (seeHas R₁ _ _ e.2.2.2.2).1
 have G1 : Gr [] s s₁ := ((R₁.eff (n := 0) e.2.2.2.1).forget rfl (one_has ha) h1).gr
 refine codeAny_builtin PySem.F.entry_tuple_eq ?_
 rw [Around.under_plainId plain_tuple_eq _]
 refine tuple_eqM (a + 255) b (.ref 217) #[.str x t, .str y u] #[.str x t', .str y u'] _ _ _ _ _ _ rfl 1 _ R s₁ ⟨hin, h1 _ (.head _), G1.k _ _ hb, fun j h1 h2 => ?_, fun s' G => hR s' (G1.trans G)⟩
 have hj : j = 0 \/ j = 1 := by
  have : j < 2 := h1
  lia
 rcases hj with rfl | rfl
 ·exact eqm_str
 ·exact eqm_str
end
section
variable {b1 b2 : Bool} {w : World} {s : Shared} {A : Around} {E : Value -> Shared -> Prop}
set_option maxHeartbeats 4000000 in
theorem eqm_pair {a b d t u t' u' : Nat} {x y : Str} (hs : Stat b1 b2 w s.heap) (ha : s.heap.get? (a + 255) = some (pairObj d x t y u)) (hb : s.heap.get? b = some (tup #[.str x t', .str y u'])) : EqM b1 b2 w 2 s (.ref (a + 255)) (.ref b) := by
 refine eqm_of_rc fun A s₁ E Q hne hA G hQ => ?_
 have hA1 := hA.deep
 unfold richCompare
 refine wpAny_holding (wpAny_bind (wpAny_cRoomFor hA.lt ?_))
 have G02 := G
 show wpAny _ _ (typeOf (.ref (a + 255)) >>= _) _ _ _
 refine wpAny_bind (tree_ok [(a + 255, pairObj d x t y u)] 1 [1] [0] [] (fun _ => .ref 217) (fun _ => []) (fun dep un γ tb c k => by intro nb xs; cases b1 <;> cases b2 <;> kernel_rfl) rfl hA1 (G02.stat0 hs) (one_has (G02.k _ _ ha)) one_dyn (by simp) rfl fun s₃ nb3 _ G3 _ => ?_)
 have G03 := G02.trans G3
 refine wpAny_bind (wpAny_typeOf (T := "tuple") ⟨_, G03.k _ _ hb, rfl⟩ ?_)
 show wpAny _ _ (isSubtype (.type "tuple") (.ref 217) >>= _) _ _ _
 refine wpAny_bind (tree_ok [] 0 [] [] [] (fun _ => false) (fun _ => []) (fun dep un γ tb c k => by intro nb xs; cases b1 <;> cases b2 <;> kernel_rfl) rfl hA1 (G03.stat0 hs) (fun _ h => nomatch h) (fun _ h => nomatch h) .nil rfl fun s₄ nb4 _ G4 _ => ?_)
 have G04 := G03.trans G4
 show wpAny _ _ (tryCompare (.ref (a + 255)) "__eq__" (.ref b) >>= _) _ _ _
 refine wpAny_bind ?_
 unfold tryCompare callSpecialIfBound?
 refine wpAny_bind (wpAny_holding (wpAny_bind ?_))
 refine tree_ok [(a + 255, pairObj d x t y u)] 7 [1, 0, 0, 0, 0, 0] [0] [] (fun _ => some (.builtin "tuple.__eq__", [.ref (a + 255)])) (fun _ => []) (fun dep un γ tb c k => by intro nb xs; cases b1 <;> cases b2 <;> kernel_rfl) rfl hA1 (G04.stat0 hs) (one_has (G04.k _ _ ha)) one_dyn (by simp) rfl fun s₅ nb5 _ G5 _ => ?_
 have G05 := G04.trans G5
 refine wpAny_bind (wpAny_call (teq_ok hA (G05.stat0 hs) (G05.k _ _ ha) (G05.k _ _ hb) fun s₆ G6 => ?_))
 exact wpAny_pure (wpAny_pure (wpAny_pure (hQ s₆ (((G3.trans G4).trans G5).trans G6))))
end
end Mine
end
section
namespace Mine
open PySem PySem.W PySem.W.X PySem.Spec PySem.Calls PyProof.Rows
theorem app_assoc (a b c : Str) : a ++ b ++ c = a ++ (b ++ c) := by
 show (⟨(a.cps ++ b.cps) ++ c.cps⟩ : Str) = ⟨a.cps ++ (b.cps ++ c.cps)⟩
 rw [Array.append_assoc]
theorem empty_app (a : Str) : "" ++ a = a := by
 show (⟨#[] ++ a.cps⟩ : Str) = a
 rw [Array.empty_append]
theorem cat_app : ∀ (l r : List Str), cat (l ++ r) = cat l ++ cat r
 | [], r => (empty_app _).symm
 | x :: l, r => by
  show x ++ cat (l ++ r) = x ++ cat l ++ cat r
  rw [cat_app l r, app_assoc]
theorem cat_one (x : Str) : cat [x] = x := PySem.Str.append_empty x
theorem uniq_mem : ∀ (l seen : List Str) (c : Str), c ∈ uniq seen l ↔ c ∈ seen \/ c ∈ l
 | [], seen, c => by simp [uniq]
 | d :: l, seen, c => by
  unfold uniq
  split
  ·rename_i h
   rw [uniq_mem l seen c, List.mem_cons]
   obtain ⟨x, hx, hd⟩ := List.any_eq_true.mp h
   have e : x = d := of_decide_eq_true hd
   constructor
   ·rintro (h | h)
    ·exact .inl h
    ·exact .inr (.inr h)
   ·rintro (h | h | h)
    ·exact .inl h
    ·exact .inl (by rw [h, <- e]; exact hx)
    ·exact .inr h
  ·rw [uniq_mem l (seen ++ [d]) c]
   simp [or_assoc]
theorem uniq_nodup : ∀ (l seen : List Str), seen.Nodup -> (uniq seen l).Nodup
 | [], seen, h => h
 | d :: l, seen, h => by
  unfold uniq
  split
  ·exact uniq_nodup l seen h
  ·rename_i hn
   refine uniq_nodup l _ (List.nodup_append.mpr ⟨h, by simp, fun a ha b hb e => hn ?_⟩)
   rw [mS hb] at e
   exact List.any_eq_true.mpr ⟨a, ha, decide_eq_true e⟩
theorem any_dec (l : List Str) (c : Str) : (l.any fun x => decide (x = c)) = decide (c ∈ l) := by
 by_cases h : c ∈ l
 ·rw [decide_eq_true h]; exact List.any_eq_true.mpr ⟨c, h, decide_eq_true rfl⟩
 ·rw [decide_eq_false h]
  refine Bool.eq_false_iff.mpr fun h' => h ?_
  obtain ⟨x, hx, e⟩ := List.any_eq_true.mp h'
  rw [<- of_decide_eq_true e]; exact hx
noncomputable def notMem (K : List Str) (c : Str) : Bool := !decide (c ∈ K)
theorem uniq_app (xs : List Str) : ∀ ys : List Str, uniq [] (xs ++ ys) = uniq [] xs ++ (uniq [] ys).filter (notMem (uniq [] xs)) := by
 have key : ∀ n (ys : List Str), ys.length = n -> uniq [] (xs ++ ys) = uniq [] xs ++ (uniq [] ys).filter (notMem (uniq [] xs)) := by
  intro n
  induction n with
  | zero => intro ys h; rw [List.length_eq_zero_iff.mp h]; simp [uniq]
  | succ n ih =>
   intro ys h
   obtain ⟨zs, c, rfl⟩ : ∃ zs c, ys = zs ++ [c] := ⟨ys.dropLast, ys.getLast (by intro e; rw [e] at h; cases h), (List.dropLast_concat_getLast _).symm⟩
   have e1 := ih zs (by simp at h; exact h)
   rw [<- List.append_assoc, uniq_snoc, uniq_snoc, any_dec, any_dec, e1]
   by_cases h1 : c ∈ uniq [] zs
   ·rw [decide_eq_true h1]
    by_cases h2 : c ∈ uniq [] xs
    ·have : c ∈ uniq [] xs ++ (uniq [] zs).filter (notMem (uniq [] xs)) := List.mem_append_left _ h2
     simp [h2]
    ·have : c ∈ (uniq [] zs).filter (notMem (uniq [] xs)) := List.mem_filter.mpr ⟨h1, by unfold notMem; simp [h2]⟩
     simp [this]
   ·by_cases h2 : c ∈ uniq [] xs
    ·simp [h1, h2, List.filter_append, notMem]
    ·have h3 : c ∉ (uniq [] zs).filter (notMem (uniq [] xs)) := fun h => h1 (List.mem_filter.mp h).1
     simp [h1, h2, h3, List.filter_append, notMem]
 exact fun ys => key _ ys rfl
theorem uniq_id : ∀ (l seen : List Str), (seen ++ l).Nodup -> uniq seen l = seen ++ l
 | [], seen, h => by simp [uniq]
 | d :: l, seen, h => by
  have hn : d ∉ seen := fun hm => (List.nodup_append.mp h).2.2 d hm d (.head _) rfl
  unfold uniq
  rw [any_dec, decide_eq_false hn]
  simp only [Bool.false_eq_true, if_false]
  rw [uniq_id l (seen ++ [d]) (by simpa using h)]
  simp
noncomputable def tabK {α : Type} (K : List Str) (f : Str -> α) : List (Str × α) := K.map fun c => (c, f c)
theorem tabK_congr {α : Type} {K : List Str} {f g : Str -> α} (h : ∀ c ∈ K, f c = g c) : tabK K f = tabK K g := List.map_congr_left fun c hc => by rw [h c hc]
section
variable {α : Type}
noncomputable def getA (t : List (Str × α)) (k : Str) : Option α := (t.find? (fun p => decide (p.1 = k))).map (·.2)
theorem getA_tab (K : List Str) (f : Str -> α) (c : Str) : getA (tabK K f) c = if c ∈ K then some (f c) else none := by
 induction K with
 | nil => rfl
 | cons d K ih =>
  unfold getA tabK at ih ⊢
  rw [List.map_cons]
  by_cases h : d = c
  ·rw [List.find?_cons_of_pos (by simpa using h), if_pos (by rw [h]; exact .head _)]
   simp [h]
  ·rw [List.find?_cons_of_neg (by simpa using h), ih]
   have : c ∈ d :: K ↔ c ∈ K := by rw [List.mem_cons]; exact ⟨fun e => e.elim (fun e => absurd e.symm h) id, .inr⟩
   simp only [this]
noncomputable def setA : List (Str × α) -> Str -> α -> List (Str × α)
 | [], k, v => [(k, v)]
 | p :: L, k, v => if p.1 = k then (p.1, v) :: L else p :: setA L k v
noncomputable def updF (f : Str -> α) (c : Str) (v : α) : Str -> α := fun d => if d = c then v else f d
theorem setA_tab (K : List Str) (hK : K.Nodup) (f : Str -> α) (c : Str) (v : α) : setA (tabK K f) c v = tabK (if c ∈ K then K else K ++ [c]) (updF f c v) := by
 induction K with
 | nil => simp [tabK, setA, updF]
 | cons d K ih =>
  have hd : d ∉ K := (List.nodup_cons.mp hK).1
  have ih' := ih (List.nodup_cons.mp hK).2
  show (if d = c then (d, v) :: tabK K f else (d, f d) :: setA (tabK K f) c v) = _
  by_cases h : d = c
  ·subst h
   rw [if_pos rfl, if_pos (.head _)]
   show _ = (d, updF f d v d) :: tabK K (updF f d v)
   rw [show updF f d v d = v from if_pos rfl, tabK_congr (g := updF f d v) fun x hx => (if_neg fun e : x = d => hd (e ▸ hx)).symm]
  ·rw [if_neg h, ih']
   have e1 : updF f c v d = f d := if_neg h
   by_cases hc : c ∈ K
   ·rw [if_pos hc, if_pos (.tail _ hc)]
    show _ = (d, updF f c v d) :: tabK K (updF f c v)
    rw [e1]
   ·rw [if_neg hc, if_neg (fun e => (mC e).elim (fun e => h e.symm) hc)]
    show _ = (d, updF f c v d) :: tabK (K ++ [c]) (updF f c v)
    rw [e1]
end
theorem getT_A (t : Tab) (k : Str) : getT t k = getA t k := rfl
theorem getE_A (t : BookT) (k : Str) : getE t k = getA t k := rfl
theorem setT_A : ∀ (t : Tab) (k : Str) (v : T), setT t k v = setA t k v
 | [], k, v => rfl
 | p :: t, k, v => by unfold setT setA; rw [setT_A t k v]
theorem setE_A : ∀ (t : BookT) (k : Str) (v : Ent), setE t k v = setA t k v
 | [], k, v => rfl
 | p :: t, k, v => by unfold setE setA; rw [setE_A t k v]
theorem cp_from (K : List Str) (f : Str -> T) : ∀ (P : List Str), (P ++ K).Nodup -> (tabK K f).foldl (fun acc q => setT acc q.1 q.2) (tabK P f) = tabK (P ++ K) f := by
 induction K with
 | nil => intro P h; rw [List.append_nil]; rfl
 | cons c K ih =>
  intro P h
  have hc : c ∉ P := fun hm => (List.nodup_append.mp h).2.2 c hm c (.head _) rfl
  show (tabK K f).foldl _ (setT (tabK P f) c (f c)) = _
  rw [setT_A, setA_tab P (List.nodup_append.mp h).1, if_neg hc, tabK_congr (g := f) fun x _ => ?_, ih (P ++ [c]) (by simpa using h)]
  ·simp
  ·unfold updF; split
   ·rename_i e; rw [e]
   ·rfl
theorem cp_tab {K : List Str} (f : Str -> T) (h : K.Nodup) : cpT (tabK K f) = tabK K f := by
 exact cp_from K f [] h
noncomputable def mixF (K Kb : List Str) (h g : Str -> T) (c : Str) : T := if c ∈ K then (if c ∈ Kb then mixT (g c) (h c) else h c) else g c
theorem addOne_tab (K : List Str) (hK : K.Nodup) (h : Str -> T) (c : Str) (v : T) : addOne (tabK K h) (c, v) = if c ∈ K then tabK K (updF h c (mixT v (h c))) else tabK (K ++ [c]) (updF h c v) := by
 unfold addOne
 dsimp only
 rw [getT_A, getA_tab]
 by_cases hc : c ∈ K
 ·rw [if_pos hc, if_pos hc]
  dsimp only
  rw [setT_A, setA_tab K hK, if_pos hc]
 ·rw [if_neg hc, if_neg hc]
  dsimp only
  rw [setT_A, setA_tab K hK, if_neg hc]
theorem add_fold : ∀ (Kb K : List Str) (h g : Str -> T), K.Nodup -> Kb.Nodup -> (tabK Kb g).foldl addOne (tabK K h) = tabK (K ++ Kb.filter (notMem K)) (mixF K Kb h g)
 | [], K, h, g, hK, hb => by
  show tabK K h = _
  rw [List.filter_nil, List.append_nil]
  exact tabK_congr fun c hc => by simp [mixF, hc]
 | c :: Kb, K, h, g, hK, hb => by
  have hcb : c ∉ Kb := (List.nodup_cons.mp hb).1
  have hb' := (List.nodup_cons.mp hb).2
  show (tabK Kb g).foldl addOne (addOne (tabK K h) (c, g c)) = _
  rw [addOne_tab K hK]
  by_cases hc : c ∈ K
  ·rw [if_pos hc, add_fold Kb K _ g hK hb', List.filter_cons_of_neg (by simp [notMem, hc])]
   refine tabK_congr fun d _ => ?_
   unfold mixF updF
   by_cases hd : d ∈ K
   ·rw [if_pos hd, if_pos hd]
    by_cases e : d = c
    ·subst e
     rw [if_neg hcb, if_pos rfl, if_pos (List.mem_cons_self)]
    ·rw [if_neg e]
     simp [e]
   ·rw [if_neg hd, if_neg hd]
  ·have hK' : (K ++ [c]).Nodup := List.nodup_append.mpr ⟨hK, by simp, fun a ha b hb e => hc (by rw [mS hb] at e; rw [<- e]; exact ha)⟩
   rw [if_neg hc, add_fold Kb (K ++ [c]) _ g hK' hb', List.filter_cons_of_pos (by simp [notMem, hc])]
   have ef : Kb.filter (notMem (K ++ [c])) = Kb.filter (notMem K) := List.filter_congr fun x hx => by
    have : x ≠ c := fun e => hcb (e ▸ hx)
    simp [notMem, this]
   rw [ef, List.append_assoc]
   refine tabK_congr fun d hd => ?_
   unfold mixF updF
   by_cases e : d = c
   ·subst e
    simp [hc, hcb]
   ·by_cases hd2 : d ∈ K
    ·simp [hd2, e]
    ·simp [hd2, e]
theorem add_tab {Ka Kb : List Str} (f g : Str -> T) (ha : Ka.Nodup) (hb : Kb.Nodup) : addT (tabK Ka f) (tabK Kb g) = tabK (Ka ++ Kb.filter (notMem Ka)) (mixF Ka Kb f g) := by
 unfold addT
 rw [cp_tab f ha, add_fold Kb Ka f g ha hb]
noncomputable def hasC (c : Str) (r : Rc) : Bool := r.cs.any fun x => decide (x = c)
theorem theirs_eq (c : Str) (l : List Rc) : theirsOf c l = l.filter (hasC c) := rfl
noncomputable def kOf (c : Str) : Nat := if c = "p" then 1 else 3
noncomputable def mkT (n : Nat) (x y : Str) : T := if n = 1 then .p x y else .t [.s x, .s y]
noncomputable def valT (c : Str) (l : List Rc) : T :=
 if c = "r" then .s (cat ((theirsOf c l).map (colN 2)))
 else mkT (theirsOf c l).length (cat ((theirsOf c l).reverse.map (colN (kOf c)))) (cat ((theirsOf c l).reverse.map (colN (kOf c + 1))))
noncomputable def keysC (l : List Rc) : List Str := uniq [] (l.flatMap (·.cs))
noncomputable def entC (l : List Rc) : Ent := ⟨cat (l.reverse.map (colN 1)), cat (l.reverse.map (colN 2)), cat (l.reverse.map (colN 3)), cat (l.reverse.map (colN 4)), tabK (keysC l) (fun c => valT c l)⟩
theorem theirs_app (c : Str) (a b : List Rc) : theirsOf c (a ++ b) = theirsOf c a ++ theirsOf c b := by rw [theirs_eq, theirs_eq, theirs_eq, List.filter_append]
theorem theirs_none {c : Str} {l : List Rc} (h : c ∉ keysC l) : theirsOf c l = [] := by
 rw [theirs_eq, List.filter_eq_nil_iff]
 intro r hr hc
 unfold hasC at hc
 obtain ⟨x, hx, e⟩ := List.any_eq_true.mp hc
 refine h ((uniq_mem _ [] c).mpr (.inr (List.mem_flatMap.mpr ⟨r, hr, ?_⟩)))
 rw [<- of_decide_eq_true e]; exact hx
theorem theirs_some {c : Str} {l : List Rc} (h : c ∈ keysC l) : (theirsOf c l).length ≠ 0 := by
 intro e
 rcases (uniq_mem _ [] c).mp h with h | h
 ·cases h
 ·obtain ⟨r, hr, hc⟩ := List.mem_flatMap.mp h
  have hm : r ∈ theirsOf c l := by
   rw [theirs_eq]
   refine List.mem_filter.mpr ⟨hr, ?_⟩
   unfold hasC
   rw [any_dec]
   exact decide_eq_true hc
  rw [List.length_eq_zero_iff.mp e] at hm
  cases hm
theorem keys_app (a b : List Rc) : keysC (a ++ b) = keysC a ++ (keysC b).filter (notMem (keysC a)) := by
 unfold keysC
 rw [List.flatMap_append, uniq_app]
theorem keys_nodup (l : List Rc) : (keysC l).Nodup := uniq_nodup _ [] List.nodup_nil
theorem w2_mk (n : Nat) (x y : Str) : w2 (mkT n x y) = (x, y) := by unfold mkT; split <;> rfl
theorem mix_mk {n : Nat} {x y : Str} (o : T) : mixT (mkT n x y) o = .t [.s (x ++ (w2 o).1), .s (y ++ (w2 o).2)] := by
 unfold mkT
 split <;> rfl
theorem mix_val {c : Str} {a b : List Rc} (ha : c ∈ keysC a) (hb : c ∈ keysC b) : mixT (valT c b) (valT c a) = valT c (a ++ b) := by
 unfold valT
 by_cases hr : c = "r"
 ·rw [if_pos hr, if_pos hr, if_pos hr, theirs_app, List.map_append, cat_app]
  rfl
 ·rw [if_neg hr, if_neg hr, if_neg hr, mix_mk, w2_mk, theirs_app, List.reverse_append, List.map_append, List.map_append, cat_app, cat_app]
  have h1 := theirs_some ha
  have h2 := theirs_some hb
  unfold mkT
  rw [if_neg (by rw [List.length_append]; lia)]
theorem val_left {c : Str} {a b : List Rc} (hb : c ∉ keysC b) : valT c a = valT c (a ++ b) := by
 unfold valT
 rw [theirs_app, theirs_none hb, List.append_nil]
theorem val_right {c : Str} {a b : List Rc} (ha : c ∉ keysC a) : valT c b = valT c (a ++ b) := by
 unfold valT
 rw [theirs_app, theirs_none ha, List.nil_append]
theorem add_ent (a b : List Rc) : addE (entC a) (entC b) = entC (a ++ b) := by
 have col : ∀ k, cat (b.reverse.map (colN k)) ++ cat (a.reverse.map (colN k)) = cat ((a ++ b).reverse.map (colN k)) := fun k => by
  rw [List.reverse_append, List.map_append, cat_app]
 unfold addE entC
 rw [col, col, col, col]
 congr 1
 rw [add_tab _ _ (keys_nodup a) (keys_nodup b), keys_app]
 refine tabK_congr fun c hc => ?_
 unfold mixF
 by_cases h1 : c ∈ keysC a
 ·rw [if_pos h1]
  by_cases h2 : c ∈ keysC b
  ·rw [if_pos h2]; exact mix_val h1 h2
  ·rw [if_neg h2]; exact val_left h2
 ·rw [if_neg h1]; exact val_right h1
theorem ent_nil : entC [] = ent0 := rfl
structure GoodR (r : Rc) : Prop where
 bare : r.c2 = "" -> r.c1 = "" /\ r.c3 = "" /\ r.c4 = "" /\ r.cs = []
 nodup : r.cs.Nodup
 pq : ∀ c ∈ r.cs, c = "p" \/ c = "q" \/ c = "r"
 few : r.cs.length <= 3
 col : ∀ k, (colN k r).length <= 100
theorem tabOf_K {r : Rc} (h : r.cs.Nodup) : tabOf r = tabK r.cs (giv r) := by
 have : ∀ (l P : List Str), (P ++ l).Nodup -> l.foldl (fun acc c => setT acc c (giv r c)) (tabK P (giv r)) = tabK (P ++ l) (giv r) := by
  intro l
  induction l with
  | nil => intro P _; rw [List.append_nil]; rfl
  | cons c l ih =>
   intro P h
   have hc : c ∉ P := fun hm => (List.nodup_append.mp h).2.2 c hm c (.head _) rfl
   show l.foldl _ (setT (tabK P (giv r)) c (giv r c)) = _
   rw [setT_A, setA_tab P (List.nodup_append.mp h).1, if_neg hc, tabK_congr (g := giv r) fun x _ => ?_, ih (P ++ [c]) (by simpa using h)]
   ·simp
   ·unfold updF; split
    ·rename_i e; rw [e]
    ·rfl
 exact this r.cs [] h
theorem theirs_one {c : Str} {r : Rc} (h : c ∈ r.cs) : theirsOf c [r] = [r] := by
 rw [theirs_eq]
 exact List.filter_cons_of_pos (by unfold hasC; rw [any_dec]; exact decide_eq_true h)
theorem src_ent {r : Rc} (g : GoodR r) : srcE r = entC [r] := by
 unfold srcE entC
 simp only [List.reverse_cons, List.reverse_nil, List.nil_append, List.map_cons, List.map_nil, cat_one]
 show Ent.mk r.c1 r.c2 r.c3 r.c4 (tabOf r) = Ent.mk r.c1 r.c2 r.c3 r.c4 _
 congr 1
 rw [tabOf_K g.nodup]
 have ek : keysC [r] = r.cs := by
  unfold keysC
  rw [List.flatMap_cons, List.flatMap_nil, List.append_nil, uniq_id r.cs [] g.nodup]
  rfl
 rw [ek]
 refine tabK_congr fun c hc => ?_
 unfold valT
 rw [theirs_one hc]
 simp only [List.reverse_cons, List.reverse_nil, List.nil_append, List.map_cons, List.map_nil, cat_one, List.length_cons, List.length_nil]
 rcases g.pq c hc with rfl | rfl | rfl
 ·rfl
 ·rfl
 ·rfl
theorem ent_bare {l : List Rc} {r : Rc} (g : GoodR r) (h : r.c2 = "") : entC (l ++ [r]) = entC l := by
 obtain ⟨h1, h3, h4, h5⟩ := g.bare h
 have e : entC [r] = ent0 := by
  rw [<- src_ent g]
  unfold srcE
  rw [tabOf_K g.nodup, h1, h, h3, h4, h5]
  rfl
 rw [<- add_ent, e]
 unfold addE
 have ec : addT (entC l).tab ent0.tab = (entC l).tab := by
  show cpT (tabK (keysC l) _) = tabK (keysC l) _
  exact cp_tab _ (keys_nodup l)
 rw [ec]
 show Ent.mk ("" ++ (entC l).c1) ("" ++ (entC l).c2) ("" ++ (entC l).c3) ("" ++ (entC l).c4) (entC l).tab = entC l
 rw [empty_app, empty_app, empty_app, empty_app]
noncomputable def ofO (o : Str) (rs : List Rc) : List Rc := rs.filter fun r => decide (r.owner = o)
noncomputable def ownK (rs : List Rc) : List Str := uniq [] (rs.map (colN 0))
theorem own_mem {rs : List Rc} {o : Str} : o ∈ ownK rs ↔ ofO o rs ≠ [] := by
 unfold ownK
 rw [uniq_mem]
 constructor
 ·rintro (h | h) e
  ·cases h
  ·obtain ⟨r, hr, hc⟩ := List.mem_map.mp h
   have : r ∈ ofO o rs := List.mem_filter.mpr ⟨hr, decide_eq_true hc⟩
   rw [e] at this; cases this
 ·intro h
  refine .inr ?_
  obtain ⟨r, hr⟩ := List.exists_mem_of_ne_nil _ h
  obtain ⟨h1, h2⟩ := List.mem_filter.mp hr
  exact List.mem_map.mpr ⟨r, h1, of_decide_eq_true h2⟩
theorem own_none {rs : List Rc} {o : Str} (h : o ∉ ownK rs) : ofO o rs = [] := by
 by_cases e : ofO o rs = []
 ·exact e
 ·exact absurd (own_mem.mpr e) h
theorem own_nodup (rs : List Rc) : (ownK rs).Nodup := uniq_nodup _ [] List.nodup_nil
theorem of_snoc (o : Str) (rs : List Rc) (r : Rc) : ofO o (rs ++ [r]) = if r.owner = o then ofO o rs ++ [r] else ofO o rs := by
 unfold ofO
 rw [List.filter_append]
 by_cases h : r.owner = o
 ·rw [if_pos h, List.filter_cons_of_pos (by simpa using h)]; rfl
 ·rw [if_neg h, List.filter_cons_of_neg (by simpa using h)]; simp
theorem own_snoc (rs : List Rc) (r : Rc) : ownK (rs ++ [r]) = if r.owner ∈ ownK rs then ownK rs else ownK rs ++ [r.owner] := by
 unfold ownK
 rw [List.map_append, List.map_cons, List.map_nil, uniq_snoc, any_dec]
 show (if decide (r.owner ∈ _) = true then _ else _) = _
 by_cases h : r.owner ∈ uniq [] (rs.map (colN 0)) <;> simp [h, colN]
theorem get_own {K : List Str} {f : Str -> Ent} {o : Str} : (getE (tabK K f) o).getD ent0 = if o ∈ K then f o else ent0 := by
 rw [getE_A, getA_tab]
 split <;> rfl
theorem look_tab {K : List Str} (hK : K.Nodup) (f : Str -> Ent) (o : Str) : lookE (tabK K f) o = if o ∈ K then tabK K f else tabK (K ++ [o]) (updF f o ent0) := by
 unfold lookE
 rw [getE_A, getA_tab]
 by_cases h : o ∈ K
 ·rw [if_pos h, if_pos h]
 ·rw [if_neg h, if_neg h]
  dsimp only
  rw [setE_A, setA_tab K hK, if_neg h]
theorem book_eq : ∀ (n : Nat) (rs : List Rc), rs.length = n -> (∀ r ∈ rs, GoodR r) -> bookOf rs = tabK (ownK rs) fun o => entC (ofO o rs) := by
 intro n
 induction n with
 | zero => intro rs h _; rw [List.length_eq_zero_iff.mp h]; rfl
 | succ n ih =>
  intro rs h g
  obtain ⟨zs, r, rfl⟩ : ∃ zs c, rs = zs ++ [c] := ⟨rs.dropLast, rs.getLast (by intro e; rw [e] at h; cases h), (List.dropLast_concat_getLast _).symm⟩
  have e1 := ih zs (by simpa using h) fun x hx => g x (List.mem_append_left _ hx)
  have gr : GoodR r := g r (List.mem_append_right _ (.head _))
  have hK := own_nodup zs
  have fold : bookOf (zs ++ [r]) = stepB (bookOf zs) r := by unfold bookOf; rw [List.foldl_append]; rfl
  rw [fold, e1, own_snoc]
  unfold stepB
  have hK' : (if r.owner ∈ ownK zs then ownK zs else ownK zs ++ [r.owner]).Nodup := by
   split
   ·exact hK
   ·rename_i hn
    exact List.nodup_append.mpr ⟨hK, by simp, fun a ha b hb e => hn (by rw [mS hb] at e; rw [<- e]; exact ha)⟩
  have hl : lookE (tabK (ownK zs) fun o => entC (ofO o zs)) r.owner = tabK (if r.owner ∈ ownK zs then ownK zs else ownK zs ++ [r.owner]) fun o => entC (ofO o zs) := by
   rw [look_tab hK]
   split
   ·rfl
   ·rename_i hn
    refine tabK_congr fun c _ => ?_
    unfold updF
    split
    ·rename_i e; rw [e, own_none hn]; rfl
    ·rfl
  have hin : r.owner ∈ (if r.owner ∈ ownK zs then ownK zs else ownK zs ++ [r.owner]) := by
   split
   ·assumption
   ·exact List.mem_append_right _ (.head _)
  by_cases h2 : r.c2 = ""
  ·rw [if_pos h2, hl]
   refine tabK_congr fun o _ => ?_
   rw [of_snoc]
   split
   ·exact (ent_bare gr h2).symm
   ·rfl
  ·rw [if_neg h2, hl, setE_A, setA_tab _ hK', if_pos hin, get_own]
   refine tabK_congr fun o _ => ?_
   unfold updF
   rw [of_snoc]
   by_cases e : r.owner = o
   ·rw [if_pos e.symm, if_pos e, src_ent gr, e]
    by_cases ho : o ∈ ownK zs
    ·rw [if_pos ho, add_ent]
    ·rw [if_neg ho, <- ent_nil, add_ent, own_none ho]
   ·rw [if_neg (fun q => e q.symm), if_neg e]
theorem book_of {rs : List Rc} (g : ∀ r ∈ rs, GoodR r) : bookOf rs = tabK (ownK rs) fun o => entC (ofO o rs) := book_eq _ rs rfl g
theorem book_get {rs : List Rc} (g : ∀ r ∈ rs, GoodR r) (o : Str) : (getE (bookOf rs) o).getD ent0 = entC (ofO o rs) := by
 rw [book_of g, get_own]
 split
 ·rfl
 ·rename_i h; rw [own_none h]; rfl
theorem book_has {rs : List Rc} (g : ∀ r ∈ rs, GoodR r) (o : Str) : (getE (bookOf rs) o).isSome = decide (o ∈ ownK rs) := by
 rw [book_of g, getE_A, getA_tab]
 by_cases h : o ∈ ownK rs
 ·rw [if_pos h, decide_eq_true h]; rfl
 ·rw [if_neg h, decide_eq_false h]; rfl
theorem tab_keys {α : Type} (K : List Str) (f : Str -> α) : (tabK K f).map (·.1) = K := by
 unfold tabK
 rw [List.map_map]
 exact (List.map_congr_left fun c _ => rfl).trans (List.map_id _)
theorem own_app (a b : List Rc) : ownK (a ++ b) = ownK a ++ (ownK b).filter (notMem (ownK a)) := by
 unfold ownK
 rw [List.map_append, uniq_app]
mutual
noncomputable def flatT : T -> T
 | .s x => .s x
 | .b x => .b x
 | .p x y => .t [.s x, .s y]
 | .t l => .t (flats l)
 | .l l => .l (flats l)
noncomputable def flats : List T -> List T
 | [] => []
 | t :: r => flatT t :: flats r
end
theorem flats_map : ∀ l : List T, flats l = l.map flatT
 | [] => by simp [flats]
 | t :: r => by simp [flats, flats_map r]
theorem sel_eq (o : Str) (rs : List Rc) : selO o rs = (ofO o rs).reverse := by
 unfold selO ofO
 rw [List.filter_reverse]
theorem theirs_rev (c : Str) (l : List Rc) : theirsOf c l.reverse = (theirsOf c l).reverse := by
 rw [theirs_eq, theirs_eq, List.filter_reverse]
theorem flat_mk (n : Nat) (x y : Str) : flatT (mkT n x y) = .t [.s x, .s y] := by
 unfold mkT
 split <;> simp [flatT, flats]
theorem isP_mk (n : Nat) (x y : Str) : isP (mkT n x y) = decide (n = 1) := by
 unfold mkT
 by_cases h : n = 1
 ·rw [if_pos h, decide_eq_true h]; rfl
 ·rw [if_neg h, decide_eq_false h]; rfl
theorem val_flat {c : Str} {l : List Rc} (hc : c = "p" \/ c = "q" \/ c = "r") : flatT (valT c l) = wordsT l.reverse c := by
 unfold valT wordsT
 rw [theirs_rev, List.reverse_reverse]
 by_cases hr : c = "r"
 ·rw [if_pos hr, if_pos hr]; simp [flatT]
 ·rw [if_neg hr, if_neg hr, flat_mk]
  rcases hc with rfl | rfl | rfl
  ·rfl
  ·rw [if_neg (by decide)]; rfl
  ·exact absurd rfl hr
theorem val_isP {c : Str} {l : List Rc} : isP (valT c l) = (!decide (c = "r") && decide ((theirsOf c l.reverse).length = 1)) := by
 unfold valT
 rw [theirs_rev, List.length_reverse]
 by_cases hr : c = "r"
 ·rw [if_pos hr, decide_eq_true hr]; rfl
 ·rw [if_neg hr, decide_eq_false hr, isP_mk]; rfl
theorem keys_pq {l : List Rc} (g : ∀ r ∈ l, GoodR r) {c : Str} (hc : c ∈ keysC l) : c = "p" \/ c = "q" \/ c = "r" := by
 rcases (uniq_mem _ [] c).mp hc with h | h
 ·cases h
 ·obtain ⟨r, hr, hc⟩ := List.mem_flatMap.mp h
  exact (g r hr).pq c hc
theorem row_flat {o : Str} {rs : List Rc} (g : ∀ r ∈ rs, GoodR r) : flatT (rowE (o, entC (ofO o rs))) = rowT rs o := by
 have gl : ∀ r ∈ ofO o rs, GoodR r := fun r hr => g r (List.mem_filter.mp hr).1
 unfold rowE rowT
 rw [sel_eq, List.reverse_reverse]
 generalize ofO o rs = l at gl
 have et : flats ((entC l).tab.map cellT) = (uniq [] (l.flatMap (·.cs))).map (lineT l.reverse) := by
  rw [flats_map]
  show (((keysC l).map fun c => (c, valT c l)).map cellT).map flatT = _
  rw [List.map_map, List.map_map]
  refine List.map_congr_left fun c hc => ?_
  show flatT (.t [.s c, valT c l, .b (isP (valT c l))]) = lineT l.reverse c
  unfold lineT
  rw [<- val_flat (keys_pq gl hc), <- val_isP]
  simp [flatT, flats]
 simp only [flatT, flats]
 rw [et]
 rfl
theorem rows_flat {rs : List Rc} (g : ∀ r ∈ rs, GoodR r) : flatT (rowsT (tabK (ownK rs) fun o => entC (ofO o rs))) = toldT rs := by
 unfold rowsT toldT
 simp only [flatT]
 rw [flats_map]
 show T.l ((((ownK rs).map fun o => (o, entC (ofO o rs))).map rowE).map flatT) = _
 rw [List.map_map, List.map_map]
 congr 1
 exact List.map_congr_left fun o _ => row_flat g
theorem whole_eq {a b : List Rc} (ga : ∀ r ∈ a, GoodR r) (gb : ∀ r ∈ b, GoodR r) :
  (ownersOf (bookOf a) (bookOf b)).map (fun o => (o, addE ((getE (bookOf a) o).getD ent0) ((getE (bookOf b) o).getD ent0))) = tabK (ownK (a ++ b)) fun o => entC (ofO o (a ++ b)) := by
 have e1 : ownersOf (bookOf a) (bookOf b) = ownK (a ++ b) := by
  unfold ownersOf
  rw [own_app]
  congr 1
  ·rw [book_of ga, tab_keys]
  ·have : (bookOf b).map (·.1) = ownK b := by rw [book_of gb, tab_keys]
   rw [this]
   exact List.filter_congr fun k _ => by rw [book_has ga]; rfl
 rw [e1]
 refine List.map_congr_left fun o _ => ?_
 rw [book_get ga, book_get gb, add_ent]
 show (o, entC (ofO o a ++ ofO o b)) = (o, entC (ofO o (a ++ b)))
 unfold ofO
 rw [List.filter_append]
theorem cat_len {l : List Str} (h : ∀ x ∈ l, x.length <= 100) : (cat l).length <= 100 * l.length := by
 induction l with
 | nil => exact Nat.le_refl _
 | cons a l ih =>
  have h1 := h a (.head _)
  have h2 := ih fun x hx => h x (.tail _ hx)
  show (a ++ cat l).length <= _
  rw [len_app, List.length_cons]
  lia
theorem cat_col {l : List Rc} (g : ∀ r ∈ l, GoodR r) (k : Nat) : (cat (l.map (colN k))).length <= 100 * l.length := by
 have := cat_len (l := l.map (colN k)) fun x hx => by
  obtain ⟨r, hr, rfl⟩ := List.mem_map.mp hx
  exact (g r hr).col k
 rwa [List.length_map] at this
theorem wd_val (c : Str) (l : List Rc) : Wd (valT c l) := by
 unfold valT
 split
 ·exact .inl ⟨_, rfl⟩
 ·unfold mkT
  split
  ·exact .inr (.inl ⟨_, _, rfl⟩)
  ·exact .inr (.inr ⟨_, _, rfl⟩)
theorem uniq_len : ∀ (l seen : List Str), (uniq seen l).length <= seen.length + l.length
 | [], seen => by simp [uniq]
 | d :: l, seen => by
  unfold uniq
  split
  ·have := uniq_len l seen; rw [List.length_cons]; lia
  ·have := uniq_len l (seen ++ [d]); rw [List.length_append] at this; simp only [List.length_cons, List.length_nil] at this ⊢; lia
theorem keys_len {l : List Rc} (g : ∀ r ∈ l, GoodR r) : (keysC l).length <= 3 * l.length := by
 have h1 := uniq_len (l.flatMap (·.cs)) []
 have h2 : ∀ l : List Rc, (∀ r ∈ l, GoodR r) -> (l.flatMap (·.cs)).length <= 3 * l.length := by
  intro l
  induction l with
  | nil => intro _; exact Nat.le_refl _
  | cons r l ih =>
   intro g
   have := ih fun x hx => g x (.tail _ hx)
   have := (g r (.head _)).few
   rw [List.flatMap_cons, List.length_append, List.length_cons]
   lia
 have h3 := h2 l g
 unfold keysC
 simp only [List.length_nil, Nat.zero_add] at h1
 lia
theorem mixes_val {c : Str} {a b : List Rc} (ga : ∀ r ∈ a, GoodR r) (gb : ∀ r ∈ b, GoodR r) (la : a.length <= 100) (lb : b.length <= 100) : Mixes (valT c b) (valT c a) := by
 have e9 : sizeLine = 16777216 := rfl
 have hth : ∀ l : List Rc, (∀ r ∈ l, GoodR r) -> l.length <= 100 -> ∀ k, (cat ((theirsOf c l).map (colN k))).length <= 10000 /\ (cat ((theirsOf c l).reverse.map (colN k))).length <= 10000 := by
  intro l g hl k
  have g' : ∀ r ∈ theirsOf c l, GoodR r := fun r hr => by rw [theirs_eq] at hr; exact g r (List.mem_filter.mp hr).1
  have hle : (theirsOf c l).length <= l.length := by rw [theirs_eq]; exact List.length_filter_le _ _
  have h1 := cat_col g' k
  have h2 := cat_col (l := (theirsOf c l).reverse) (fun r hr => g' r (List.mem_reverse.mp hr)) k
  rw [List.length_reverse] at h2
  lia
 unfold valT
 by_cases hr : c = "r"
 ·rw [if_pos hr, if_pos hr]
  refine .inl ⟨_, _, rfl, rfl, ?_⟩
  have := (hth a ga la 2).1
  have := (hth b gb lb 2).1
  lia
 ·rw [if_neg hr, if_neg hr]
  have tp : ∀ n x y, isTp (mkT n x y) = true := fun n x y => by unfold mkT; split <;> rfl
  have wd : ∀ n x y, Wd (mkT n x y) := fun n x y => by
   unfold mkT
   split
   ·exact .inr (.inl ⟨_, _, rfl⟩)
   ·exact .inr (.inr ⟨_, _, rfl⟩)
  refine .inr ⟨tp _ _ _, tp _ _ _, wd _ _ _, ?_, ?_⟩
  ·rw [w2_mk, w2_mk]
   have := (hth a ga la (kOf c)).2
   have := (hth b gb lb (kOf c)).2
   show (cat _).length + (cat _).length <= _
   lia
  ·rw [w2_mk, w2_mk]
   have := (hth a ga la (kOf c + 1)).2
   have := (hth b gb lb (kOf c + 1)).2
   show (cat _).length + (cat _).length <= _
   lia
theorem tab_take {α : Type} (K : List Str) (f : Str -> α) (i : Nat) : (tabK K f).take i = tabK (K.take i) f := by unfold tabK; rw [List.map_take]
theorem adds_ent {a b : List Rc} (ga : ∀ r ∈ a, GoodR r) (gb : ∀ r ∈ b, GoodR r) (la : a.length <= 100) (lb : b.length <= 100) : AddsE (entC a) (entC b) := by
 have e9 : sizeLine = 16777216 := rfl
 have hc : ∀ l : List Rc, (∀ r ∈ l, GoodR r) -> l.length <= 100 -> ∀ k, (cat (l.reverse.map (colN k))).length <= 10000 := by
  intro l g hl k
  have h2 := cat_col (l := l.reverse) (fun r hr => g r (List.mem_reverse.mp hr)) k
  rw [List.length_reverse] at h2
  lia
 refine ⟨?_, ?_, ?_, ?_, ?_, ?_, ?_⟩
 ·have := hc a ga la 1; have := hc b gb lb 1; show (cat _).length + (cat _).length <= _; lia
 ·have := hc a ga la 2; have := hc b gb lb 2; show (cat _).length + (cat _).length <= _; lia
 ·have := hc a ga la 3; have := hc b gb lb 3; show (cat _).length + (cat _).length <= _; lia
 ·have := hc a ga la 4; have := hc b gb lb 4; show (cat _).length + (cat _).length <= _; lia
 ·intro q hq
  obtain ⟨c, _, rfl⟩ := List.mem_map.mp (show q ∈ (keysC b).map fun c => (c, valT c b) from hq)
  exact wd_val c b
 ·intro i q hq old hold
  have hq' : ((keysC b).map fun c => (c, valT c b))[i]? = some q := hq
  rw [List.getElem?_map] at hq'
  obtain ⟨c, hci, rfl⟩ := Option.map_eq_some_iff.mp hq'
  replace hold : getT (((tabK (keysC b) fun c => valT c b).take i).foldl addOne (cpT (tabK (keysC a) fun c => valT c a))) c = some old := hold
  rw [tab_take, cp_tab _ (keys_nodup a), add_fold _ _ _ _ (keys_nodup a) ((List.take_sublist i _).nodup (keys_nodup b)), getT_A, getA_tab] at hold
  have hnt : c ∉ (keysC b).take i := fun hm => by
   have hd := keys_nodup b
   rw [<- List.take_append_drop i (keysC b)] at hd
   have hin : c ∈ (keysC b).drop i := by
    have : ((keysC b).drop i)[0]? = some c := by rw [List.getElem?_drop, Nat.add_zero]; exact hci
    exact List.mem_of_getElem? this
   exact (List.nodup_append.mp hd).2.2 c hm c hin rfl
  split at hold
  ·rename_i hm
   have hca : c ∈ keysC a := by
    rcases List.mem_append.mp hm with h | h
    ·exact h
    ·exact absurd (List.mem_filter.mp h).1 hnt
   have : mixF (keysC a) ((keysC b).take i) (fun c => valT c a) (fun c => valT c b) c = valT c a := by
    unfold mixF; rw [if_pos hca, if_neg hnt]
   rw [this] at hold
   cases hold
   exact mixes_val ga gb la lb
  ·cases hold
 ·have h1 := keys_len ga
  have h2 := keys_len gb
  show ((keysC a).map _).length + ((keysC b).map _).length <= 1000
  rw [List.length_map, List.length_map]
  lia
end Mine
end
section
namespace Mine
open PySem PySem.W PySem.W.X PySem.Spec PySem.Calls PyProof.Rows
open PySem.SeqAt
mutual
noncomputable def depT : T -> Nat
 | .s _ => 0
 | .b _ => 0
 | .p _ _ => 2
 | .t l => depTs l + 1
 | .l l => depTs l + 1
noncomputable def depTs : List T -> Nat
 | [] => 0
 | t :: r => max (depT t) (depTs r)
end
section
variable {b1 b2 : Bool} {w : World} {s : Shared}
theorem EqM.le {n m : Nat} {y x : Value} (h : EqM b1 b2 w n s y x) (hm : n <= m) : EqM b1 b2 w m s y x := fun A s₁ E Q hA G hQ => h A s₁ E Q ⟨hA.handled, hA.depth, by have := hA.units; lia⟩ G hQ
noncomputable def EqMs (b1 b2 : Bool) (w : World) (n : Nat) (s : Shared) (vs ws : List Value) : Prop := vs.length = ws.length /\ ∀ (j : Nat) (v x : Value), vs[j]? = some v -> ws[j]? = some x -> EqM b1 b2 w n s v x
theorem EqMs.arr {n : Nat} {vs ws : Array Value} (h : EqMs b1 b2 w n s vs.toList ws.toList) : vs.size = ws.size /\ ∀ j (h1 : j < vs.size) (h2 : j < ws.size), EqM b1 b2 w n s vs[j] ws[j] :=
 ⟨by simpa using h.1, fun j h1 h2 => h.2 j _ _ (by simp [h1]) (by simp [h2])⟩
mutual
theorem eqm_T {N N' : Nat -> Prop} (hs : Stat b1 b2 w s.heap) : ∀ (t : T) (v v' : Value), VT N s.heap t v -> VT N' s.heap (flatT t) v' -> EqM b1 b2 w (depT t) s v v'
 | .s x, v, v', e, f => by
  simp only [flatT] at f
  unfold VT at e f
  obtain ⟨t, rfl⟩ := e
  obtain ⟨u, rfl⟩ := f
  exact eqm_str
 | .b x, v, v', e, f => by
  simp only [flatT] at f
  unfold VT at e f
  subst e f
  exact eqm_bool
 | .p x y, v, v', e, f => by
  simp only [flatT] at f
  unfold VT at e f
  obtain ⟨a, d, t, u, rfl, h1, h2⟩ := e
  obtain ⟨b, vs, rfl, _, h3, h4⟩ := f
  unfold VTs at h4
  obtain ⟨v1, r, e1, e2, e3⟩ := h4
  unfold VTs at e3
  obtain ⟨v2, r2, rfl, e5, e6⟩ := e3
  unfold VTs at e6
  unfold VT at e2 e5
  obtain ⟨t1, rfl⟩ := e2
  obtain ⟨t2, rfl⟩ := e5
  subst e6
  obtain ⟨c, rfl⟩ := ge255 h1.1
  have hv : vs = #[.str x t1, .str y t2] := by
   obtain ⟨vs⟩ := vs
   dsimp only at e1
   rw [e1]
  rw [hv] at h3
  simp only [depT]
  exact eqm_pair hs h2 h3
 | .t l, v, v', e, f => by
  simp only [flatT] at f
  unfold VT at e f
  obtain ⟨a, vs, rfl, _, h1, h2⟩ := e
  obtain ⟨b, ws, rfl, _, h3, h4⟩ := f
  obtain ⟨q1, q2⟩ := (eqm_Ts hs l vs.toList ws.toList h2 h4).arr
  simp only [depT]
  exact eqm_tuples (isTup h1) (isTup h3) q1 q2
 | .l l, v, v', e, f => by
  simp only [flatT] at f
  unfold VT at e f
  obtain ⟨a, vs, n, rfl, _, h1, h2⟩ := e
  obtain ⟨b, ws, m, rfl, _, h3, h4⟩ := f
  obtain ⟨q1, q2⟩ := (eqm_Ts hs l vs.toList ws.toList h2 h4).arr
  simp only [depT]
  exact eqm_lists (Heap.PlainList.isList ⟨n, h1⟩) (Heap.PlainList.isList ⟨m, h3⟩) q1 q2
theorem eqm_Ts {N N' : Nat -> Prop} (hs : Stat b1 b2 w s.heap) : ∀ (ts : List T) (vs ws : List Value), VTs N s.heap ts vs -> VTs N' s.heap (flats ts) ws -> EqMs b1 b2 w (depTs ts) s vs ws
 | [], vs, ws, e, f => by
  simp only [flats] at f
  unfold VTs at e f
  subst e f
  exact ⟨rfl, fun j v x hv => by simp at hv⟩
 | t :: ts, vs, ws, e, f => by
  simp only [flats] at f
  unfold VTs at e f
  obtain ⟨v, r, rfl, h1, h2⟩ := e
  obtain ⟨x, q, rfl, h3, h4⟩ := f
  have i1 := eqm_T hs t v x h1 h3
  have i2 := eqm_Ts hs ts r q h2 h4
  simp only [depTs]
  refine ⟨by simp [i2.1], fun j a b ha hb => ?_⟩
  cases j with
  | zero =>
   simp at ha hb
   subst ha hb
   exact i1.le (Nat.le_max_left _ _)
  | succ j => exact (i2.2 j a b (by simpa using ha) (by simpa using hb)).le (Nat.le_max_right _ _)
end
theorem ne_T {A : Around} {E : Value -> Shared -> Prop} {N N' : Nat -> Prop} {l : List T} {v v' : Value} {Q : Value -> Shared -> Prop} (hA : RoomN 100 A) (hd : depTs l <= 99) (hs : Stat b1 b2 w s.heap) (e : VT N s.heap (.l l) v) (f : VT N' s.heap (flatT (.l l)) v') (hQ : ∀ s', Gr [] s s' -> Q (.bool false) s') :
  wpAny (model theProg (wW b1 b2 w)) A (compareOp .NotEq v v') Q E s := by
 simp only [flatT] at f
 unfold VT at e f
 obtain ⟨a, vs, n, rfl, _, h1, h2⟩ := e
 obtain ⟨b, ws, m, rfl, _, h3, h4⟩ := f
 obtain ⟨q1, q2⟩ := (eqm_Ts hs l vs.toList ws.toList h2 h4).arr
 exact rc_ne_lists (N := 99) hA (Heap.PlainList.isList ⟨n, h1⟩) (Heap.PlainList.isList ⟨m, h3⟩) q1 (fun j h1 h2 => (q2 j h1 h2).le hd) hQ
theorem eq_T {A : Around} {E : Value -> Shared -> Prop} {N N' : Nat -> Prop} {l : List T} {v v' : Value} {Q : Value -> Shared -> Prop} (hA : RoomN 100 A) (hd : depTs l <= 99) (hs : Stat b1 b2 w s.heap) (e : VT N s.heap (.l l) v) (f : VT N' s.heap (flatT (.l l)) v') (hQ : ∀ s', Gr [] s s' -> Q (.bool true) s') :
  wpAny (model theProg (wW b1 b2 w)) A (compareOp .Eq v v') Q E s := by
 simp only [flatT] at f
 unfold VT at e f
 obtain ⟨a, vs, n, rfl, _, h1, h2⟩ := e
 obtain ⟨b, ws, m, rfl, _, h3, h4⟩ := f
 obtain ⟨q1, q2⟩ := (eqm_Ts hs l vs.toList ws.toList h2 h4).arr
 exact rc_lists (N := 99) hA (Heap.PlainList.isList ⟨n, h1⟩) (Heap.PlainList.isList ⟨m, h3⟩) q1 (fun j h1 h2 => (q2 j h1 h2).le hd) hQ
end
theorem dep_rows {ps : List (Str × Ent)} (h : ∀ q ∈ ps, ∀ p ∈ q.2.tab, Wd p.2) : depTs (ps.map rowE) <= 99 := by
 have mx : ∀ (l : List T) (n : Nat), (∀ t ∈ l, depT t <= n) -> depTs l <= n := by
  intro l n
  induction l with
  | nil => intro _; simp [depTs]
  | cons t l ih =>
   intro h
   simp only [depTs]
   exact Nat.max_le.mpr ⟨h t (.head _), ih fun x hx => h x (.tail _ hx)⟩
 refine mx _ _ fun t ht => ?_
 obtain ⟨q, hq, rfl⟩ := List.mem_map.mp ht
 have hc : depTs (q.2.tab.map cellT) <= 10 := mx _ _ fun t ht => by
  obtain ⟨p, hp, rfl⟩ := List.mem_map.mp ht
  have hw : depT p.2 <= 2 := by
   rcases h q hq p hp with ⟨x, e⟩ | ⟨x, y, e⟩ | ⟨x, y, e⟩ <;> rw [e] <;> simp [depT, depTs]
  unfold cellT
  simp only [depT, depTs]
  lia
 unfold rowE
 simp only [depT, depTs]
 lia
end Mine
end
section
namespace Mine
open PySem PySem.W PySem.W.X PySem.Spec PySem.Calls PyProof.Rows
theorem recsAt_gr0 {s s' : Shared} {vs : List Value} {rs : List Rc} (h : RecsAt s.heap vs rs) (G : Gr [] s s') : RecsAt s'.heap vs rs := h.gr0 G
noncomputable abbrev PairsAt (w : World) (h : Heap) (vs : List Value) (ps : List (Str × Ent)) : Prop := Paired (fun v (p : Str × Ent) => X3_3 (fun T tk ev => v = .ref T) (fun T tk ev => h.IsTuple T #[.str p.1 tk, ev]) (fun T tk ev => EntAt w h ev p.2)) vs ps
theorem PairsAt.gr0 {w : World} {s s' : Shared} {vs : List Value} {ps : List (Str × Ent)} (h : PairsAt w s.heap vs ps) (G : Gr [] s s') : PairsAt w s'.heap vs ps :=
 Paired.imp (fun v p ⟨T, tk, ev, e1, e2, e3⟩ => ⟨T, tk, ev, e1, e2.at fun o e => G.k _ o e, e3.keep fun a o e => G.k a o e⟩) h
structure Neat (ps : List (Str × Ent)) : Prop where
 wd : ∀ q ∈ ps, ∀ p ∈ q.2.tab, Wd p.2
 tl : ∀ q ∈ ps, q.2.tab.length <= 1000
 pl : ps.length <= 1000
section
variable {b1 b2 : Bool} {w : World} {A : Around} {E : Value -> Shared -> Prop} {s : Shared}
theorem ev_rowsL {x : Str} {L W : Nat} {wvs : Array Value} {ps : List (Str × Ent)} {m cm : Str -> Option Value} {np xp pos : Pos} {Q : Value -> Shared -> Prop} (hA : Deep 2 A) (hs : Stat b1 b2 w s.heap) (F : Fram L (laCs L) m cm s) (hm : m x = some (.ref W)) (hW : s.heap.IsList W wvs) (hp : PairsAt (wW b1 b2 w) s.heap wvs.toList ps) (hn : Neat ps)
  (hQ : ∀ v s', Gr [] s s' -> VT (fun _ => True) s'.heap (rowsT ps) v -> Q v s') (hx : autoParam ((laEnv L).kindOf x = some .local) byRfl) (hd : (x == ("__debug__" : Str)) = false := by decide) :
  wpAny (model theProg (wW b1 b2 w)) A (eval (.Call (.Name "_law_rows" np) [.Name x xp] [] pos) (laEnv L)) Q E s :=
 ev_callF hs (gl_rows _) (rows_fd _) (ev_local F hm ⟨hs, rows_ok hA hs (pairs_list hW hp) hn.wd hn.tl hn.pl fun v s' G h => hQ v s' G h⟩ rfl hx hd)
theorem ev_told {L : Nat} {rs : List Rc} {arg : Expr} {np pos : Pos} {Q : Value -> Shared -> Prop} (hA : Deep 2 A) (hs : Stat b1 b2 w s.heap) (ht : Tame rs) (hst : starEach [arg] (laEnv L) = [(false, eval arg (laEnv L))])
  (harg : ∀ Q', (∀ R (rvs : Array Value) s₁, Gr [] s s₁ -> s₁.heap.IsList R rvs -> RecsAt s₁.heap rvs.toList rs -> Q' (.ref R) s₁) -> wpAny (model theProg (wW b1 b2 w)) A (eval arg (laEnv L)) Q' E s)
  (hQ : ∀ v s', Gr [] s s' -> VT (fun _ => True) s'.heap (toldT rs) v -> Q v s') :
  wpAny (model theProg (wW b1 b2 w)) A (eval (.Call (.Name "_law_told" np) [arg] [] pos) (laEnv L)) Q E s :=
 ev_callF hs (gl_told _) (told_fd _) (harg _ fun R rvs s₁ G hl hr => ⟨G.stat0 hs, told_ok hA.lt hA.handled (G.stat0 hs) hl hr ht fun v s' G' h => hQ v s' (G.trans G') h⟩) (by rw [hst]; rfl)
theorem neat0 : Neat [("i", ent0)] := ⟨fun q hq p hp => (by rw [mS hq] at hp; cases hp), fun q hq => (by rw [mS hq]; exact Nat.zero_le _), by show 1 <= 1000; decide⟩
set_option maxHeartbeats 4000000 in
theorem la_9 {L W S R : Nat} {wvs svs rvs : Array Value} {ps : List (Str × Ent)} {rs : List Rc} {m cm : Str -> Option Value} {Q : Flow -> Shared -> Prop} (hA : Deep 3 A) (hs : Stat b1 b2 w s.heap) (F : Fram L (laCs L) m cm s)
  (hmw : m "whole" = some (.ref W)) (hms : m "stranger" = some (.ref S)) (hmr : m "records" = some (.ref R)) (hW : s.heap.IsList W wvs) (hS : s.heap.IsList S svs) (hR : s.heap.IsList R rvs)
  (hwp : PairsAt (wW b1 b2 w) s.heap wvs.toList ps) (hsp : PairsAt (wW b1 b2 w) s.heap svs.toList [("i", ent0)]) (hrp : RecsAt s.heap rvs.toList rs) (hn : Neat ps) (ht : Tame rs) (hflat : flatT (rowsT ps) = toldT rs) (hQ : ∀ s', Gr [] s s' -> Q .next s') :
  wpAny (model theProg (wW b1 b2 w)) A (PySem.exec (atB laB 8) (laEnv L)) Q E s := by
 have hA2 : Deep 2 A := hA.le (by decide)
 have hrm : RoomN 100 A := hA2.roomN (by decide)
 refine wpAny_If (isTrue_or (wpAny_isTrue_Compare1 (ev_rowsL hA2 hs F hmw hW hwp hn fun v s₁ G1 h1 => ?_)))
 refine ev_told hA2 (G1.stat0 hs) ht (by rfl) (fun Q' h => ev_local (F.gr0 G1) hmr (h R rvs s₁ (.refl _) (hR.at fun o e => G1.k _ o e) (hrp.gr0 G1))) fun v' s₂ G2 h2 => ?_
 have G02 := G1.trans G2
 refine ne_T hrm (dep_rows hn.wd) (G02.stat0 hs) (VT.mono (fun a o _ e => G2.k a o e) (fun _ h => h) _ _ h1) (by rw [show T.l (ps.map rowE) = rowsT ps from rfl, hflat]; exact h2) fun s₃ G3 => wpAny_truthy_bool ?_
 have G03 := G02.trans G3
 simp only [Bool.false_eq_true, if_false]
 refine isTrue_or (wpAny_isTrue_Compare1 (ev_rowsL hA2 (G03.stat0 hs) (F.gr0 G03) hms (hS.at fun o e => G03.k _ o e) (hsp.gr0 G03) neat0 fun u s₄ G4 h4 => ?_))
 have G04 := G03.trans G4
 refine evL (evT (evS fun t1 s₅ G5 => evT (evS fun t2 s₆ G6 => evS fun t3 s₇ G7 => evS fun t4 s₈ G8 => evS fun t5 s₉ G9 => ⟨by show 4 <= sizeLine; decide, fun T1 s₁₀ G10 hT10 hT1 => ?_⟩)))
 refine evL ⟨Nat.zero_le _, fun T2 s₁₁ G11 hT20 hT2 => ⟨by show 3 <= sizeLine; decide, fun T3 s₁₂ G12 hT30 hT3 => ⟨by show 1 <= sizeLine; decide, fun T4 s₁₃ G13 hT40 hT4 => ?_⟩⟩⟩
 have G413 : Gr [] s₄ s₁₃ := ((((((((G5.trans G6).trans G7).trans G8).trans G9).trans G10).trans G11).trans G12)).trans G13
 have G013 := G04.trans G413
 refine ne_T (l := [(("i" : Str), ent0)].map rowE) (N' := fun _ => True) hrm (dep_rows neat0.wd) (G013.stat0 hs) (VT.mono (fun a o _ e => G413.k a o e) (fun _ h => h) _ _ h4) ?_ fun s₁₄ G14 => wpAny_truthy_bool ?_
 ·have ef : flatT (.l ([(("i" : Str), ent0)].map rowE)) = .l [.t [.s "i", .t [.s "", .s "", .s "", .s ""], .l []]] := by simp [flatT, flats, rowE, ent0]
  rw [ef]
  refine .lst trivial hT4 (.cons (.tup trivial (G13.k _ _ hT3) (.cons .str (.cons (.tup trivial (((G11.trans G12).trans G13).k _ _ hT1) (.cons .str (.cons .str (.cons .str (.cons .str .nil))))) (.cons (.lst trivial (hT2.at fun o e => (G12.trans G13).k _ o e) .nil) .nil)))) .nil)
 ·simp only [Bool.false_eq_true, if_false]
  exact isTrue_or_nil (wpAny_execs_nil (hQ _ (G013.trans G14)))
end
section
variable {b1 b2 : Bool} {w : World} {A : Around} {E : Value -> Shared -> Prop} {s : Shared}
noncomputable abbrev itemsCode (bk : Nat) : Code := .call (.builtin "dict.items") ⟨[.ref (bk + 255)], []⟩
theorem items_check (b1 b2 : Bool) (w : World) (dep un : Nat) (fr : Option (List Env)) (gs : Option (List Code)) (γ tb bk dd ep : Nat) (L : DL) :
  Chk (VV b1 b2 w dep un fr gs γ) (itemsCode bk) (den (itemsCode bk)) [(bk + 255, bkObj (wW b1 b2 w) dd L ep)] tb (fun _ => .go 7 [1, 0, 1, 1, 0] .done) ([0] ++ [1])
   (fun nb _ => ⟨none, .base, .pure (.done (.ret (.ref (nb + 255 + 0)))), [], objsOf [(bk + 255, bkObj (wW b1 b2 w) dd L ep)] ++ objsOf [(nb + 255 + 0, ({ cls := .type "dict_items", data := .fields #[.ref (bk + 255)] } : Obj))]⟩) := by
 intro nb xs
 cases b1 <;> cases b2 <;> kernel_rfl
theorem bk_items {bk dd ep : Nat} {Lb : DL} {R : Result -> Shared -> Prop} (hA : Deep 1 A) (hs : Stat b1 b2 w s.heap) (hb : s.heap.get? (bk + 255) = some (bkObj (wW b1 b2 w) dd Lb ep)) (hR : ∀ V s', Gr [] s s' -> s'.heap.IsItemsView V (bk + 255) -> R (.ok (.ret (.ref V))) s') :
  codeAny (model theProg (wW b1 b2 w)) A (itemsCode bk) R s :=
 make_ok [(bk + 255, bkObj (wW b1 b2 w) dd Lb ep)] _ _ [0] [1] (fun nb => .ref (nb + 255 + 0)) (fun nb => [(nb + 255 + 0, ({ cls := .type "dict_items", data := .fields #[.ref (bk + 255)] } : Obj))]) (fun dep un fr gs γ tb => items_check b1 b2 w dep un fr gs γ tb bk dd ep Lb) rfl hA hs (one_has hb) one_dyn (by simp) rfl fun s' nb _ G hn => hR _ s' G ⟨_, hn _ (.head _), rfl, rfl⟩
set_option maxHeartbeats 4000000 in
theorem ev_rowsB {x : Str} {L c k : Nat} {B : BookT} {m cm : Str -> Option Value} {np xp apos cpos pos : Pos} {Q : Value -> Shared -> Prop} (hA : Deep 2 A) (hs : Stat b1 b2 w s.heap) (F : Fram L (laCs L) m cm s) (hc : (laEnv L).cells.lookup x = some c) (hc' : (laCs L).lookup x = some c) (hb : cm x = some (.ref (k + 255))) (hB : BkAt (wW b1 b2 w) s.heap (ownL L) k B) (hn : Neat B) (hline : (apos.endLine == cpos.line) = true)
  (hQ : ∀ v s', Gr [] s s' -> VT (fun _ => True) s'.heap (rowsT B) v -> Q v s') (hx : autoParam ((laEnv L).kindOf x = some .cell) byRfl) (hd : (x == ("__debug__" : Str)) = false := by decide) :
  wpAny (model theProg (wW b1 b2 w)) A (eval (.Call (.Name "_law_rows" np) [.Call (.Attribute (.Name x xp) "items" apos) [] [] cpos] [] pos) (laEnv L)) Q E s := by
 have hA1 : Deep 1 A := hA.le (by decide)
 obtain ⟨dd, fn, ce, co, ct, tk, cf, Lb, ep, H, l1, P, ap⟩ := hB
 have hd0 := H _ (.head _)
 have hb0 := H _ (.tail _ (.head _))
 have c0 : s.heap.IsCell c (some (.ref (k + 255))) := by have := F.cell x c hc'; rwa [hb] at this
 refine ev_callF hs (gl_rows _) (rows_fd _) (ev_meth rfl hline rfl (ev_cell hc c0 (it_callee hA1 hs hb0 hd0 fun s₁ G1 => ?_) rfl hx hd))
 refine callWith_builtin rfl (PySem.evalArgs_none (wpAny_call (bk_items hA1 (G1.stat0 hs) (G1.k _ _ hb0) fun V s₂ G2 hV => ?_)))
 have G02 := G1.trans G2
 have hm2 : HasD (wW b1 b2 w) s₂.heap (k + 255) Lb ep := ⟨_, G02.k _ _ hb0, rfl⟩
 refine ⟨G02.stat0 hs, rows_ok hA (G02.stat0 hs) (pairs_items hV hm2 (Paired.imp (fun p q h => ⟨h.1, (h.2.keep fun a o _ _ e => G02.k a o e).ent⟩) P)) hn.wd hn.tl hn.pl fun v s₃ G3 h3 => hQ v s₃ (G02.trans G3) h3⟩
theorem ev_cutL {L R k : Nat} {rvs : Array Value} {rs : List Rc} {t : Tok} {m cm : Str -> Option Value} {p1 p2 p3 p4 : Pos} {Q : Value -> Shared -> Prop} (F : Fram L (laCs L) m cm s) (hmr : m "records" = some (.ref R)) (hmc : m "cut" = some (.int (k : Int) t)) (hR : s.heap.IsList R rvs) (hsz : rvs.size <= 1000) (hrp : RecsAt s.heap rvs.toList rs)
  (h : ∀ D (ws : Array Value) s₁, Gr [] s s₁ -> s₁.heap.IsList D ws -> RecsAt s₁.heap ws.toList (rs.take k) -> Q (.ref D) s₁) :
  wpAny (model theProg (wW b1 b2 w)) A (eval (.Subscript (.Name "records" p1) (.Slice none (some (.Name "cut" p2)) none p3) p4) (laEnv L)) Q E s := by
 refine ev_sliceL (ev_local F hmr (wpAny_evalPart_none (wpAny_evalPart_some (ev_local F hmc ?_))))
 refine ⟨R, rvs, none, some (k : Int), rfl, hR, Nat.le_trans hsz (by decide), .none, .int _ _, fun D s₁ G hD0 hD => ?_⟩
 rw [pick_upto_any] at hD
 exact h D _ s₁ G hD.isList (by simpa using recsAt_gr0 (Paired.take k hrp) G)
theorem ev_cutR {L R k : Nat} {rvs : Array Value} {rs : List Rc} {t : Tok} {m cm : Str -> Option Value} {p1 p2 p3 p4 : Pos} {Q : Value -> Shared -> Prop} (F : Fram L (laCs L) m cm s) (hmr : m "records" = some (.ref R)) (hmc : m "cut" = some (.int (k : Int) t)) (hk : k <= rvs.size) (hR : s.heap.IsList R rvs) (hsz : rvs.size <= 1000) (hrp : RecsAt s.heap rvs.toList rs)
  (h : ∀ D (ws : Array Value) s₁, Gr [] s s₁ -> s₁.heap.IsList D ws -> RecsAt s₁.heap ws.toList (rs.drop k) -> Q (.ref D) s₁) :
  wpAny (model theProg (wW b1 b2 w)) A (eval (.Subscript (.Name "records" p1) (.Slice (some (.Name "cut" p2)) none none p3) p4) (laEnv L)) Q E s := by
 refine ev_sliceL (ev_local F hmr (wpAny_evalPart_some (ev_local F hmc (wpAny_evalPart_none ?_))))
 refine ⟨R, rvs, some (k : Int), none, rfl, hR, Nat.le_trans hsz (by decide), .int _ _, .none, fun D s₁ G hD0 hD => ?_⟩
 rw [pick_from_any _ _ hk] at hD
 exact h D _ s₁ G hD.isList (by simpa using recsAt_gr0 (Paired.drop k hrp) G)
set_option maxHeartbeats 4000000 in
theorem la_10 {L R k k1 k2 : Nat} {rvs : Array Value} {rs : List Rc} {t : Tok} {B1 B2 : BookT} {m cm : Str -> Option Value} {Q : Flow -> Shared -> Prop} (hA : Deep 3 A) (hs : Stat b1 b2 w s.heap) (F : Fram L (laCs L) m cm s)
  (hmr : m "records" = some (.ref R)) (hmc : m "cut" = some (.int (k : Int) t)) (hk : k <= rvs.size) (hR : s.heap.IsList R rvs) (hsz : rvs.size <= 1000) (hrp : RecsAt s.heap rvs.toList rs)
  (hb1 : cm "book" = some (.ref (k1 + 255))) (hb2 : cm "rest" = some (.ref (k2 + 255))) (hB1 : BkAt (wW b1 b2 w) s.heap (ownL L) k1 B1) (hB2 : BkAt (wW b1 b2 w) s.heap (ownL L) k2 B2) (hn1 : Neat B1) (hn2 : Neat B2)
  (ht1 : Tame (rs.take k)) (ht2 : Tame (rs.drop k)) (hf1 : flatT (rowsT B1) = toldT (rs.take k)) (hf2 : flatT (rowsT B2) = toldT (rs.drop k)) (hQ : ∀ s', Gr [] s s' -> Q (.ret (.bool true)) s') :
  wpAny (model theProg (wW b1 b2 w)) A (PySem.exec (atB laB 9) (laEnv L)) Q E s := by
 have hA2 : Deep 2 A := hA.le (by decide)
 have hrm : RoomN 100 A := hA2.roomN (by decide)
 refine wpAny_Return_some (ev_and (wpAny_Compare1 (ev_rowsB (c := L + 1) hA2 hs F (by rw [laEnv_cells]; rfl) rfl hb1 hB1 hn1 rfl fun v s₁ G1 h1 => ?_)))
 refine ev_told hA2 (G1.stat0 hs) ht1 (by rfl) (fun Q' h => ev_cutL (F.gr0 G1) hmr hmc (hR.at fun o e => G1.k _ o e) hsz (hrp.gr0 G1) h) fun v' s₂ G2 h2 => ?_
 have G02 := G1.trans G2
 refine eq_T hrm (dep_rows hn1.wd) (G02.stat0 hs) (VT.mono (fun a o _ e => G2.k a o e) (fun _ h => h) _ _ h1) (by rw [show T.l (B1.map rowE) = rowsT B1 from rfl, hf1]; exact h2) fun s₃ G3 => ⟨true, rfl, ?_⟩
 have G03 := G02.trans G3
 simp only [if_true]
 refine wpAny_Compare1 (ev_rowsB (c := L + 2) hA2 (G03.stat0 hs) (F.gr0 G03) (by rw [laEnv_cells]; rfl) rfl hb2 (hB2.gr G03 fun _ h => nomatch h) hn2 rfl fun u s₄ G4 h4 => ?_)
 have G04 := G03.trans G4
 refine ev_told hA2 (G04.stat0 hs) ht2 (by rfl) (fun Q' h => ev_cutR (F.gr0 G04) hmr hmc hk (hR.at fun o e => G04.k _ o e) hsz (hrp.gr0 G04) h) fun u' s₅ G5 h5 => ?_
 have G05 := G04.trans G5
 refine eq_T hrm (dep_rows hn2.wd) (G05.stat0 hs) (VT.mono (fun a o _ e => G5.k a o e) (fun _ h => h) _ _ h4) (by rw [show T.l (B2.map rowE) = rowsT B2 from rfl, hf2]; exact h5) fun s₆ G6 => ?_
 exact hQ s₆ (G05.trans G6)
end
theorem menu_nodup (n : Nat) : (menuOf n).Nodup := by
 unfold menuOf
 split <;> decide
theorem ch_ne (c : Nat) : ch c ≠ "" := fun e => by
 have : (ch c).cps.size = ("" : Str).cps.size := by rw [e]
 exact absurd this (by show ¬ (1 = 0); decide)
theorem small_len (x : Int) (p : Nat) (h3 : x.fmod 4 ≠ 3) : (smallOf x p).length <= 2 := by
 obtain ⟨k, hk, hk'⟩ : ∃ k : Nat, k < 3 /\ (x.fmod 4).toNat = k := by
  rcases fmod4 x with h | h | h | h
  ·exact ⟨0, by decide, by rw [h]; rfl⟩
  ·exact ⟨1, by decide, by rw [h]; rfl⟩
  ·exact ⟨2, by decide, by rw [h]; rfl⟩
  ·exact absurd h h3
 have hsm : smallOf x p = smK k p := by unfold smallOf smK; rw [hk']
 rw [hsm]
 exact smK_len hk
theorem recOf_good (x : Int) (p : Nat) : GoodR (recOf x p) := by
 unfold recOf
 by_cases h3 : x.fmod 4 = 3
 ·rw [if_pos h3]
  refine ⟨fun _ => ⟨rfl, rfl, rfl, rfl⟩, List.nodup_nil, (fun c hc => nomatch hc), Nat.zero_le _, fun k => ?_⟩
  match k with
  | 0 => show 1 <= 100; decide
  | 1 => exact Nat.zero_le _
  | 2 => exact Nat.zero_le _
  | 3 => exact Nat.zero_le _
  | _ + 4 => exact Nat.zero_le _
 ·rw [if_neg h3]
  have hs := small_len x p h3
  refine ⟨fun e => absurd e (ch_ne _), menu_nodup _, (menu_pq _).1, Nat.le_succ_of_le (menu_pq _).2, fun k => ?_⟩
  match k with
  | 0 => show 1 <= 100; decide
  | 1 => show (smallOf x p).length <= 100; lia
  | 2 => show 1 <= 100; decide
  | 3 =>
   show ("." ++ smallOf x p : Str).length <= 100
   rw [len_app]
   show 1 + (smallOf x p).length <= 100
   lia
  | _ + 4 => show 2 <= 100; decide
theorem recsFrom_mem : ∀ {l : List Int} {p : Nat} {r : Rc}, r ∈ recsFrom p l -> X2_2 (fun i x => i < l.length) (fun i x => r = recOf x (p + i))
 | [], p, r, h => nomatch h
 | a :: l, p, r, h => by
  rcases mC h with h | h
  ·exact ⟨0, a, Nat.succ_pos _, by rw [h]; rfl⟩
  ·obtain ⟨i, x, hi, e⟩ := recsFrom_mem h
   exact ⟨i + 1, x, Nat.succ_lt_succ hi, by rw [e]; congr 1; lia⟩
theorem recs_mem {ns : List Int} {r : Rc} (h : r ∈ recsOf ns) : X2_2 (fun p x => p < 14) (fun p x => r = recOf x p) := by
 obtain ⟨i, x, hi, e⟩ := recsFrom_mem h
 have := fullOf_len ns
 exact ⟨i, x, by lia, by rw [e]; congr 1; lia⟩
theorem recs_good {ns : List Int} : ∀ r ∈ recsOf ns, GoodR r := fun r h => by
 obtain ⟨p, x, _, rfl⟩ := recs_mem h
 exact recOf_good x p
theorem recs_par {ns : List Int} : ∀ r ∈ recsOf ns, r.c2 ≠ "" -> Par r := fun r h => by
 obtain ⟨p, x, hp, rfl⟩ := recs_mem h
 exact recOf_par x hp
theorem recs_owner {ns : List Int} : ∀ r ∈ recsOf ns, r.owner ≠ "i" := fun r h => by
 obtain ⟨p, x, hp, rfl⟩ := recs_mem h
 have ho : (recOf x p).owner = ch (ownerC x) := by unfold recOf; split <;> rfl
 rw [ho]
 unfold ownerC
 rcases fmod3 (x.fdiv 4) with h | h | h <;> rw [h] <;> decide
theorem good_tame {rs : List Rc} (g : ∀ r ∈ rs, GoodR r) (h : rs.length <= 100) : Tame rs := ⟨h, fun r hr => (g r hr).few, fun r hr => (g r hr).pq, fun r hr => (g r hr).col⟩
theorem good_neat {rs : List Rc} (g : ∀ r ∈ rs, GoodR r) (h : rs.length <= 100) : (∀ q ∈ (tabK (ownK rs) fun o => entC (ofO o rs)), ∀ p ∈ q.2.tab, Wd p.2) /\ (∀ q ∈ (tabK (ownK rs) fun o => entC (ofO o rs)), q.2.tab.length <= 1000) /\ (tabK (ownK rs) fun o => entC (ofO o rs)).length <= 1000 := by
 refine ⟨fun q hq p hp => ?_, fun q hq => ?_, ?_⟩
 ·obtain ⟨o, _, rfl⟩ := List.mem_map.mp hq
  obtain ⟨c, _, rfl⟩ := List.mem_map.mp (show p ∈ (keysC (ofO o rs)).map fun c => (c, valT c (ofO o rs)) from hp)
  exact wd_val _ _
 ·obtain ⟨o, _, rfl⟩ := List.mem_map.mp hq
  have h1 := keys_len (l := ofO o rs) fun r hr => g r (List.mem_filter.mp hr).1
  have h2 : (ofO o rs).length <= rs.length := List.length_filter_le _ _
  show ((keysC (ofO o rs)).map _).length <= 1000
  rw [List.length_map]
  lia
 ·have h1 := uniq_len (rs.map (colN 0)) []
  show ((ownK rs).map _).length <= 1000
  rw [List.length_map]
  unfold ownK
  simp only [List.length_map, List.length_nil] at h1
  lia
theorem good_adds {rs : List Rc} (g : ∀ r ∈ rs, GoodR r) (h : rs.length <= 100) (i : Nat) (r : Rc) (hr : rs[i]? = some r) : AddsE ((getE (bookOf (rs.take i)) r.owner).getD ent0) (srcE r) := by
 have gt : ∀ x ∈ rs.take i, GoodR x := fun x hx => g x (List.mem_of_mem_take hx)
 have gr : GoodR r := g r (List.mem_of_getElem? hr)
 rw [book_get gt, src_ent gr]
 refine adds_ent (fun x hx => gt x (List.mem_filter.mp hx).1) (fun x hx => by rw [mS hx]; exact gr) ?_ (by show 1 <= 100; decide)
 have h1 : (ofO r.owner (rs.take i)).length <= (rs.take i).length := List.length_filter_le _ _
 have h2 : (rs.take i).length <= rs.length := by rw [List.length_take]; exact Nat.min_le_right _ _
 lia
theorem good_adds2 {a b : List Rc} (ga : ∀ r ∈ a, GoodR r) (gb : ∀ r ∈ b, GoodR r) (la : a.length <= 100) (lb : b.length <= 100) (o : Str) : AddsE ((getE (bookOf a) o).getD ent0) ((getE (bookOf b) o).getD ent0) := by
 rw [book_get ga, book_get gb]
 have h1 : (ofO o a).length <= a.length := List.length_filter_le _ _
 have h2 : (ofO o b).length <= b.length := List.length_filter_le _ _
 exact adds_ent (fun x hx => ga x (List.mem_filter.mp hx).1) (fun x hx => gb x (List.mem_filter.mp hx).1) (by lia) (by lia)
theorem book_no {rs : List Rc} (g : ∀ r ∈ rs, GoodR r) {o : Str} (h : ∀ r ∈ rs, r.owner ≠ o) : getE (bookOf rs) o = none := by
 rw [book_of g, getE_A, getA_tab, if_neg]
 intro hm
 rcases (uniq_mem _ [] o).mp hm with q | q
 ·cases q
 ·obtain ⟨r, hr, e⟩ := List.mem_map.mp q
  exact h r hr e
noncomputable def NoSeq (s : Shared) (a : Nat) : Prop := ∃ o, s.heap.get? a = some o /\ ∀ vs n, o.data ≠ .seq vs n
theorem NoSeq.ns {s : Shared} {a : Nat} {m : Str -> Option Value} (h : s.heap.Ns a m) : NoSeq s a := by
 obtain ⟨o, es, ep, e, d, _⟩ := h
 exact ⟨o, e, fun vs n d' => by rw [d] at d'; cases d'⟩
theorem NoSeq.cell {s : Shared} {a : Nat} {v : Option Value} (h : s.heap.IsCell a v) : NoSeq s a := by
 obtain ⟨o, e, d⟩ := h
 exact ⟨o, e, fun vs n d' => by rw [d] at d'; cases d'⟩
theorem NoSeq.ac {s : Shared} (x : AcT s.heap) : NoSeq s 48 := by
 obtain ⟨ps, _, o', vs, file, tf, flags, tg, inF, text, tt, op, a, r1, r2, r3, r4, r5, r6, b, d, r⟩ := x
 exact ⟨_, b, fun vs n d' => by rw [d] at d'; cases d'⟩
theorem NoSeq.fz {s : Shared} (x : FzT s.heap) : NoSeq s 114 := by
 rcases x with h | ⟨co, c, h, _⟩
 ·exact ⟨_, h, fun vs n d' => by cases d'⟩
 ·exact ⟨_, h, fun vs n d' => by cases d'⟩
theorem list_gr {s s' : Shared} {own : List Nat} {l : Nat} {vs : Array Value} (h : s.heap.IsList l vs) (G : Gr own s s') (hn : ∀ a ∈ own, NoSeq s a) : s'.heap.IsList l vs := by
 obtain ⟨o, e, c, n, d⟩ := h
 refine ⟨o, G.keep l o (fun hm => ?_) e, c, n, d⟩
 obtain ⟨o', e', k⟩ := hn l hm
 rw [e] at e'; cases e'
 exact k _ _ d
theorem recs_gr {s s' : Shared} {own : List Nat} {vs : List Value} {rs : List Rc} (h : RecsAt s.heap vs rs) (G : Gr own s s') (hn : ∀ a ∈ own, NoSeq s a) : RecsAt s'.heap vs rs :=
 h.gr G fun a ha => by
  obtain ⟨o, e, k⟩ := hn a ha
  exact ⟨o, e, fun ⟨_, vs, n, d⟩ => k vs n d⟩
theorem FzT.gr {u u' : Shared} {L : Nat} {cs : List (Str × Nat)} {m cm : Str -> Option Value} {own : List Nat} (h : FzT u.heap) (F : Fram L cs m cm u) (hL : 255 <= L) (G : Gr own u u') (ho : ∀ a ∈ own, a = L \/ a = 48) : FzT u'.heap := by
 have kp : ∀ {b : Nat} {o : Obj}, b ≠ 48 -> (∀ es n, o.data ≠ .dict es n) -> u.heap.get? b = some o -> u'.heap.get? b = some o := fun {b o} h48 hd e => G.keep b o (fun hm => by
  rcases ho b hm with q | q
  ·obtain ⟨o', es, ep, e', d, _⟩ := F.ns
   have e'' : u.heap.get? L = some o' := e'
   rw [<- q, e] at e''; cases e''
   exact hd _ _ d
  ·exact h48 q) e
 rcases h with h | ⟨co, c, h, h'⟩
 ·exact .inl (kp (by decide) (fun _ _ q => by cases q) h)
 ·exact .inr ⟨co, c, kp (by decide) (fun _ _ q => by cases q) h, kp (fun q => by lia) (fun _ _ q => by cases q) h'⟩
section
variable {b1 b2 : Bool} {w : World} {A : Around} {s : Shared}
set_option maxHeartbeats 8000000 in
theorem law_ok {l : Nat} {vs : Array Value} {ns : List Int} {R : Result -> Shared -> Prop} (hA : Deep 6 A) (hs : Stat b1 b2 w s.heap) (hac : AcT s.heap) (hz : FzT s.heap) (hl : s.heap.IsList l vs) (hi : intsV ns vs.toList) (hn : ns.length <= 63)
  (hR : ∀ s', Gr [48, 114] s s' -> AcT s'.heap -> FzT s'.heap -> R (.ok (.ret (.bool true))) s') : codeAny (model theProg (wW b1 b2 w)) A (.call (.ref 254) ⟨[.ref l], []⟩) R s := by
 refine enter hA.lt hs (law_fd _) (law_cd _) (binds := [("script", .ref l)]) rfl (fun x hx => by rw [mS hx]; exact .inl rfl) rfl rfl rfl fun s₀ I => ?_
 have hL : 255 <= s.heap.objs.size := hs.big
 generalize hLe : s.heap.objs.size = L at I hL ⊢
 have F0 := InCallC.fram I
 have hcells : (callEnvC (mkFd (atB prgB 16) "law" .none pmL 253) L 254).cells = laCs L := laEnv_cells L
 rw [hcells] at F0
 replace F0 : Fram L (laCs L) _ _ s₀ := F0
 have G0 : Gr [] s s₀ := InCallC.gr I
 have hL0 : s.heap.get? L = none := new_at (by lia)
 have hL10 : s.heap.get? (L + 1) = none := new_at (by lia)
 have hL20 : s.heap.get? (L + 2) = none := new_at (by lia)
 have hA' : Deep 5 (A.deeper (laEnv L)) := hA.deeper
 have hm0 : (bindL (callEnvC fdLaw L 254).kindOf [("script", .ref l)] fun _ => none) "script" = some (.ref l) := by kernel_rfl
 have hcm : (bindC (callEnvC fdLaw L 254).kindOf [("script", .ref l)] fun _ => none) = fun _ => none := by rfl
 rw [hcm] at F0
 generalize (bindL (callEnvC fdLaw L 254).kindOf [("script", .ref l)] fun _ => none) = m0 at F0 hm0
 generalize A.deeper (laEnv L) = A' at hA' ⊢
 have hA2 : Deep 2 A' := hA'.le (by decide)
 have hA3 : Deep 3 A' := hA'.le (by decide)
 have hA4 : Deep 4 A' := hA'.le (by decide)
 have hs0 := G0.stat0 hs
 have fr : ∀ a ∈ ownL L, (ktop (wW b1 b2 w).params).get a = none := fun a ha => by
  simp only [ownL, List.mem_cons, List.not_mem_nil, or_false] at ha
  rcases ha with h | h | h | h | h
  ·rw [h]; exact hs.free hL0
  ·rw [h]; exact hs.free hL10
  ·rw [h]; exact hs.free hL20
  ·rw [h]; exact ktop_48 _
  ·rw [h]; exact ktop_114 _
 have inL : L ∈ ownL L := .head _
 have in1 : L + 1 ∈ ownL L := .tail _ (.head _)
 have in2 : L + 2 ∈ ownL L := .tail _ (.tail _ (.head _))
 have in48 : 48 ∈ ownL L := .tail _ (.tail _ (.tail _ (.head _)))
 have in114 : 114 ∈ ownL L := .tail _ (.tail _ (.tail _ (.tail _ (.head _))))
 have subL : ∀ a ∈ [L], a ∈ ownL L := fun a ha => by rw [mS ha]; exact inL
 have acL : ∀ {u u' : Shared}, Gr [L] u u' -> AcT u.heap -> AcT u'.heap := fun G h => h.at fun b o hb e => G.keep b o (fun hm => by
  have hb' : b = L := mS hm
  rcases hb with q | q <;> (rw [<- hb', q] at hL; exact absurd hL (by decide))) e
 have nsL : ∀ {m cm : Str -> Option Value} {u : Shared}, Fram L (laCs L) m cm u -> ∀ a ∈ [L], NoSeq u a := fun F a ha => by rw [mS ha]; exact .ns F.ns
 refine wpAny_execs_cons (la_1 hA2 hs0 F0 hm0 (hl.at fun o e => G0.k _ o e) hi hn hL fun Rr rvs s₁ G1 F1 hR0 hpl hrec => ?_)
 have hs1 : Stat b1 b2 w s₁.heap := G1.statF hs0 fun a ha => fr a (subL a ha)
 have hl1 : s₁.heap.IsList l vs := list_gr (hl.at fun o e => G0.k _ o e) G1 (nsL F0)
 have hrl : rvs.length = (recsOf ns).length := hrec.length
 have h14 := recsOf_len ns
 refine wpAny_execs_cons (la_2 (R := Rr) hA2 hs1 F1 ((if_neg (by decide)).trans hm0) (if_pos rfl) hl1 hi hn hpl.isList (by lia) fun k t s₂ hk G2 F2 => ?_)
 have hs2 : Stat b1 b2 w s₂.heap := G2.statF hs1 fun a ha => fr a (subL a ha)
 have hac2 : AcT s₂.heap := acL G2 (acL G1 (hac.at fun b o _ e => G0.k b o e))
 have hl2 : s₂.heap.IsList Rr rvs.toArray := list_gr hpl.isList G2 (nsL F1)
 have hr2 : RecsAt s₂.heap rvs (recsOf ns) := recs_gr hrec G2 (nsL F1)
 have hz2 : FzT s₂.heap := by
  have kp : ∀ {b : Nat} {o : Obj}, (∀ es n, o.data ≠ .dict es n) -> s.heap.get? b = some o -> s₂.heap.get? b = some o := fun {b o} hd e => by
   have ne : ∀ {m cm : Str -> Option Value} {u : Shared}, Fram L (laCs L) m cm u -> u.heap.get? b = some o -> b ≠ L := fun F e q => by
    obtain ⟨o', es, ep, e', d, _⟩ := F.ns
    have e'' : _ = some o' := e'
    rw [<- q, e] at e''; cases e''
    exact hd _ _ d
   have e0 := G0.k b o e
   have e1 := G1.keep b o (fun hm => ne F0 e0 (mS hm)) e0
   exact G2.keep b o (fun hm => ne F1 e1 (mS hm)) e1
  rcases hz with h | ⟨co, c, h, h'⟩
  ·exact .inl (kp (fun _ _ q => by cases q) h)
  ·exact .inr ⟨co, c, kp (fun _ _ q => by cases q) h, kp (fun _ _ q => by cases q) h'⟩
 have hmr2 : (fun z => if z = ("cut" : Str) then some (Value.int (k : Int) t) else (fun z => if z = ("records" : Str) then some (Value.ref Rr) else m0 z) z) "records" = some (.ref Rr) := (if_neg (by decide)).trans (if_pos rfl)
 have hmc2 : (fun z => if z = ("cut" : Str) then some (Value.int (k : Int) t) else (fun z => if z = ("records" : Str) then some (Value.ref Rr) else m0 z) z) "cut" = some (.int (k : Int) t) := if_pos rfl
 generalize (fun z => if z = ("cut" : Str) then some (Value.int (k : Int) t) else (fun z => if z = ("records" : Str) then some (Value.ref Rr) else m0 z) z) = m2 at F2 hmr2 hmc2
 generalize hrs : recsOf ns = rs at hrec hrl h14 hr2
 have g : ∀ r ∈ rs, GoodR r := by rw [<- hrs]; exact recs_good
 have gp : ∀ r ∈ rs, r.c2 ≠ "" -> Par r := by rw [<- hrs]; exact recs_par
 have gi : ∀ r ∈ rs, r.owner ≠ "i" := by rw [<- hrs]; exact recs_owner
 have h100 : rs.length <= 100 := by lia
 have ga : ∀ r ∈ rs.take k, GoodR r := fun r hr => g r (List.mem_of_mem_take hr)
 have gb : ∀ r ∈ rs.drop k, GoodR r := fun r hr => g r (List.mem_of_mem_drop hr)
 have la : (rs.take k).length <= 100 := by rw [List.length_take]; lia
 have lb : (rs.drop k).length <= 100 := by rw [List.length_drop]; lia
 have sz : rvs.toArray.size <= 1000 := by rw [List.size_toArray]; lia
 have hkz : k <= rvs.toArray.size := by rw [List.size_toArray]; lia
 refine wpAny_execs_cons (la_mk (c := L + 1) (rs := rs.take k) hA' hs2 hac2 hz2 F2 hL rfl rfl rfl (by rw [laEnv_cells]; rfl) (fun n b h => by cases h) (by rfl) (fun Q' h => ev_cutL F2 hmr2 hmc2 hl2 sz (by simpa using hr2) h) la (fun r hr => gp r (List.mem_of_mem_take hr)) (fun i r hr _ => good_adds ga la i r hr) fun bk1 s₃ G3 hac3 hz3 hB3 F3 hbn => ?_)
 have sub3 : ∀ a ∈ [48, 114, L + 1], a ∈ ownL L := fun a ha => by
  replace ha := mm3 ha
  rcases ha with h | h | h <;> rw [h]
  ·exact in48
  ·exact in114
  ·exact in1
 have hs3 : Stat b1 b2 w s₃.heap := G3.statF hs2 fun a ha => fr a (sub3 a ha)
 have nq3 : ∀ a ∈ [48, 114, L + 1], NoSeq s₂ a := fun a ha => by
  replace ha := mm3 ha
  rcases ha with h | h | h <;> rw [h]
  ·exact .ac hac2
  ·exact .fz hz2
  ·exact .cell (F2.cell "book" (L + 1) rfl)
 have hl3 := list_gr hl2 G3 nq3
 have hr3 := recs_gr hr2 G3 nq3
 refine wpAny_execs_cons (la_mk (c := L + 2) (rs := rs.drop k) hA' hs3 hac3 hz3 F3 hL rfl rfl ((if_neg (by decide)).trans rfl) (by rw [laEnv_cells]; rfl) (fun n b h => ?_) (by rfl) (fun Q' h => ev_cutR F3 hmr2 hmc2 hkz hl3 sz (by simpa using hr3) h) lb (fun r hr => gp r (List.mem_of_mem_drop hr)) (fun i r hr _ => good_adds gb lb i r hr) fun bk2 s₄ G4 hac4 hz4 hB4 F4 hbn2 => ?_)
 ·split at h
  ·cases h
   obtain ⟨dd, fn, ce, co, ct, tk, cf, Lb, ep, H, _⟩ := hB3
   exact ⟨_, H _ (.tail _ (.head _))⟩
  ·cases h
 have sub4 : ∀ a ∈ [48, 114, L + 2], a ∈ ownL L := fun a ha => by
  replace ha := mm3 ha
  rcases ha with h | h | h <;> rw [h]
  ·exact in48
  ·exact in114
  ·exact in2
 have hs4 : Stat b1 b2 w s₄.heap := G4.statF hs3 fun a ha => fr a (sub4 a ha)
 have nq4 : ∀ a ∈ [48, 114, L + 2], NoSeq s₃ a := fun a ha => by
  replace ha := mm3 ha
  rcases ha with h | h | h <;> rw [h]
  ·exact .ac hac3
  ·exact .fz hz3
  ·exact .cell (F3.cell "rest" (L + 2) rfl)
 have hl4 := list_gr hl3 G4 nq4
 have hr4 := recs_gr hr3 G4 nq4
 have hB1 := hB3.gr G4 sub4
 have hcb : (fun y => if y = ("rest" : Str) then some (Value.ref (bk2 + 255)) else (fun y => if y = ("book" : Str) then some (Value.ref (bk1 + 255)) else (fun _ => none) y) y) "book" = some (.ref (bk1 + 255)) := (if_neg (by decide)).trans (if_pos rfl)
 have hcr : (fun y => if y = ("rest" : Str) then some (Value.ref (bk2 + 255)) else (fun y => if y = ("book" : Str) then some (Value.ref (bk1 + 255)) else (fun _ => none) y) y) "rest" = some (.ref (bk2 + 255)) := if_pos rfl
 generalize (fun y => if y = ("rest" : Str) then some (Value.ref (bk2 + 255)) else (fun y => if y = ("book" : Str) then some (Value.ref (bk1 + 255)) else (fun _ => none) y) y) = cm at F4 hcb hcr
 refine wpAny_execs_cons (la_5 hA4 hs4 F4 hL hcb hcr hB1 hB4 fun D os s₅ G5 F5 hD0 hD hos => ?_)
 have hs5 : Stat b1 b2 w s₅.heap := G5.statF hs4 fun a ha => fr a (subL a ha)
 have hac5 := acL G5 hac4
 have h1145 : ∃ o, s₅.heap.get? 114 = some o := by
  obtain ⟨o, e, _⟩ := NoSeq.fz hz4
  exact ⟨o, G5.keep _ _ (fun hm => by have q : 114 = L := mS hm; rw [<- q] at hL; exact absurd hL (by decide)) e⟩
 have hB15 := hB1.gr G5 subL
 have hB25 := hB4.gr G5 subL
 have hl5 := list_gr hl4 G5 (nsL F4)
 have hr5 := recs_gr hr4 G5 (nsL F4)
 have hD48 : D ≠ 48 := fun e => by obtain ⟨o, q⟩ := (ac_48 hac4).1; rw [e, q] at hD0; cases hD0
 have hosz : os.size <= 1000 := by
  have e1 : os.size = (ownersOf (bookOf (rs.take k)) (bookOf (rs.drop k))).length := by have := hos.len; simpa using this
  have e2 := congrArg List.length (whole_eq ga gb)
  rw [List.length_map] at e2
  have h3 := (good_neat (rs := rs.take k ++ rs.drop k) (fun r hr => (List.mem_append.mp hr).elim (ga r) (gb r)) (by rw [List.take_append_drop]; exact h100)).2.2
  lia
 refine wpAny_execs_cons (la_6 hA4 hs5 hac5 h1145 F5 hL hcb hcr hB15 hB25 (if_pos rfl) hD.isList hD48 hos hosz (fun o _ => good_adds2 ga gb la lb o) fun W wvs s₆ G6 hac6 F6 hW0 hW hwh => ?_)
 have sub6 : ∀ a ∈ [L, 48], a ∈ ownL L := fun a ha => by
  replace ha := mm2 ha
  rcases ha with h | h <;> rw [h]
  ·exact inL
  ·exact in48
 have hs6 : Stat b1 b2 w s₆.heap := G6.statF hs5 fun a ha => fr a (sub6 a ha)
 have nq6 : ∀ a ∈ [L, 48], NoSeq s₅ a := fun a ha => by
  replace ha := mm2 ha
  rcases ha with h | h <;> rw [h]
  ·exact .ns F5.ns
  ·exact .ac hac5
 have hl6 := list_gr hl5 G6 nq6
 have hr6 := recs_gr hr5 G6 nq6
 have hB16 := hB15.gr G6 sub6
 have hB26 := hB25.gr G6 sub6
 rw [whole_eq ga gb, List.take_append_drop] at hwh
 have hno : getE (bookOf (rs.take k)) "i" = none := book_no ga fun r hr => gi r (List.mem_of_mem_take hr)
 refine wpAny_execs_cons (la_7 hA4 hs6 F6 hcb hB16 hno fun s₇ G7 => ?_)
 have hs7 := G7.stat0 hs6
 have F7 := F6.gr0 G7
 refine wpAny_execs_cons (la_8 hA4 hs7 F7 hcb (hB16.gr G7 fun _ h => nomatch h) hno fun S svs s₈ G8 F8 hS hsp => ?_)
 have hs8 : Stat b1 b2 w s₈.heap := G8.statF hs7 fun a ha => fr a (subL a ha)
 have G68 : Gr [L] s₆ s₈ := G7.nil.trans G8
 have hl8 := list_gr hl6 G68 (nsL F6)
 have hr8 := recs_gr hr6 G68 (nsL F6)
 have hW8 := list_gr hW.isList G68 (nsL F6)
 have hwp : PairsAt (wW b1 b2 w) s₈.heap wvs.toArray.toList (tabK (ownK rs) fun o => entC (ofO o rs)) := by
  have : PairsAt (wW b1 b2 w) s₈.heap wvs (tabK (ownK rs) fun o => entC (ofO o rs)) := Paired.imp (fun v p h => by
   obtain ⟨T, tk, ev, e1, _, _, e4, e5⟩ := h.keep (h' := s₈.heap) fun a o _ ha e => G68.keep a o (fun hm => ha (subL a hm)) e
   exact ⟨T, tk, ev, e1, isTup e4, e5.ent⟩) hwh
  simpa using this
 obtain ⟨q1, q2, q3⟩ := good_neat g h100
 refine wpAny_execs_cons (la_9 (R := Rr) hA3 hs8 F8 ((if_neg (by decide)).trans (if_pos rfl)) (if_pos rfl) ?_ hW8 hS hl8 hwp hsp (by simpa using hr8) ⟨q1, q2, q3⟩ (good_tame g h100) (rows_flat g) fun s₉ G9 => ?_)
 ·exact (if_neg (by decide)).trans ((if_neg (by decide)).trans ((if_neg (by decide)).trans hmr2))
 have F9 := F8.gr0 G9
 have hB18 := (hB16.gr G68 subL).gr G9 fun _ h => nomatch h
 have hB28 := (hB26.gr G68 subL).gr G9 fun _ h => nomatch h
 have nB1 : Neat (bookOf (rs.take k)) := by rw [book_of ga]; obtain ⟨p1, p2, p3⟩ := good_neat ga la; exact ⟨p1, p2, p3⟩
 have nB2 : Neat (bookOf (rs.drop k)) := by rw [book_of gb]; obtain ⟨p1, p2, p3⟩ := good_neat gb lb; exact ⟨p1, p2, p3⟩
 refine wpAny_execs_cons (la_10 (R := Rr) (k := k) (t := t) (rvs := rvs.toArray) (rs := rs) hA3 (G9.stat0 hs8) F9 ?_ ?_ hkz (hl8.at fun o e => G9.k _ o e) sz (by simpa using recsAt_gr0 hr8 G9) hcb hcr hB18 hB28 nB1 nB2 (good_tame ga la) (good_tame gb lb) ?_ ?_ fun s' G => hR s' ?_ ?_ ?_)
 ·exact (if_neg (by decide)).trans ((if_neg (by decide)).trans ((if_neg (by decide)).trans hmr2))
 ·exact (if_neg (by decide)).trans ((if_neg (by decide)).trans ((if_neg (by decide)).trans hmc2))
 ·rw [book_of ga]; exact rows_flat ga
 ·rw [book_of gb]; exact rows_flat gb
 ·refine (((((((((G0.nil (own := ownL L)).trans (G1.widen subL)).trans (G2.widen subL)).trans (G3.widen sub3)).trans (G4.widen sub4)).trans (G5.widen subL)).trans (G6.widen sub6)).trans (G68.widen subL)).trans (G9.trans G).nil).shrink fun a ha => ?_
  simp only [ownL, List.mem_cons, List.not_mem_nil, or_false] at ha
  rcases ha with h | h | h | h | h
  ·rw [h]; exact .inr hL0
  ·rw [h]; exact .inr hL10
  ·rw [h]; exact .inr hL20
  ·rw [h]; exact .inl (.head _)
  ·rw [h]; exact .inl (.tail _ (.head _))
 ·exact (acL G68 hac6).at fun b o _ e => (G9.trans G).k b o e
 ·have hz5 := hz4.gr F4 hL G5 fun a ha => .inl (mS ha)
  have hz6 := hz5.gr F5 hL G6 fun a ha => by
   rcases mC ha with h | h
   ·exact .inl h
   ·exact .inr (mS h)
  have hz8 := hz6.gr F6 hL G68 fun a ha => .inl (mS ha)
  exact hz8.gr F8 hL (G9.trans G) (own := []) fun _ h => nomatch h
end
theorem ktop_my (P : Params) : ∀ a o, (ktop P).get a = some o -> (myK P).lookup a = some o := by
 have key : (List.range 255).map (ktop P).get = (List.range 255).map fun a => (myK P).lookup a := by kernel_rfl
 intro a o e
 rcases Nat.lt_or_ge a 255 with h | h
 ·have h1 : ((List.range 255).map (ktop P).get)[a]? = some ((ktop P).get a) := by rw [List.getElem?_map, List.getElem?_range h]; rfl
  have h2 : ((List.range 255).map fun a => (myK P).lookup a)[a]? = some ((myK P).lookup a) := by rw [List.getElem?_map, List.getElem?_range h]; rfl
  rw [key, h2] at h1
  rw [Option.some.inj h1, e]
 ·rw [ktop_none h] at e; cases e
theorem wW_self (w : World) : ∃ b1 b2, wW b1 b2 w = w := ⟨w.params.followText "special-get-raises", w.params.followText "comprehension-iter-twice", by unfold wW; rw [World.withFollow_self, World.withFollow_self]⟩
theorem o52_code (P : Params) : (ktop P).get 52 = some (o52 P) /\ (o52 P).cls = .type "code" /\ X8_7 (fun vs file tf flags tg inF text tt => (o52 P).data = .fields vs) (fun vs file tf flags tg inF text tt => vs[11]? = some (.ref 48)) (fun vs file tf flags tg inF text tt => vs.getD 11 .none = .ref 48) (fun vs file tf flags tg inF text tt => vs.getD 18 .none = .str file tf) (fun vs file tf flags tg inF text tt => vs.getD 7 .none = .int flags tg) (fun vs file tf flags tg inF text tt => vs.getD 9 .none = .bool inF) (fun vs file tf flags tg inF text tt => vs.getD 10 .none = .int text tt) :=
 ⟨by kernel_rfl, rfl, _, _, _, _, _, _, _, _, rfl, rfl, rfl, rfl, rfl, rfl, rfl⟩
theorem o118_code (P : Params) : (ktop P).get 118 = some (o118 P) /\ (o118 P).cls = .type "code" /\ ∃ vs, (o118 P).data = .fields vs /\ vs[11]? = some (.ref 114) := ⟨by kernel_rfl, by kernel_rfl, _, rfl, by kernel_rfl⟩
theorem gl_law (P : Params) : globOf P "law" = some (.ref 254) := by kernel_rfl
theorem ac_start {b1 b2 : Bool} {w : World} {h : Heap} (hs : Stat b1 b2 w h) (h48 : h.get? 48 = some (tabObj #[])) : AcT h := by
 obtain ⟨e, c, vs, file, tf, flags, tg, inF, text, tt, d, v11, g11, g18, g7, g9, g10⟩ := o52_code (wW b1 b2 w).params
 exact ⟨#[], ⟨⟨_, vs, hs.at e, c, d, v11⟩, h48⟩, _, vs, file, tf, flags, tg, inF, text, tt, _, hs.at e, d, g11, g18, g7, g9, g10, h48, rfl, by first | exact trivial | decide | simp [TriplesOk], by decide⟩
theorem caller_deep : Deep 6 callerA := ⟨rfl, by decide +kernel, by decide +kernel⟩
theorem ints_of {vs : List Value} {ns : List Int} (h : IntsAre vs ns) : intsV ns vs := by
 induction h with
 | nil => exact .nil
 | cons _ _ _ ih => exact .cons ⟨_, rfl⟩ ih
set_option maxHeartbeats 4000000 in
theorem law_good {w : World} {s₁ : Shared} {mg : Str -> Option Value} {fa l : Addr} {vs : List Value} {ns : List Int} {cl : Str -> Option Addr} {mean : ExcName -> Option Value} {E : Value -> Shared -> Prop} (KX : (myK w.params).In s₁.heap) (hT8 : ∀ P, P ∈ [48, 114] -> s₁.heap.get? P = some (tabObj #[])) (hG : s₁.heap.Ns mainGlobals mg)
  (hmg : mg "law" = some (.ref fa)) (hg : s₁.gens = #[]) (hl : s₁.heap.IsList l vs.toArray) (hi : IntsAre vs ns) (hn : ¬ (63 : Int) < ns.length) :
  wpAny (model theProg w) callerA (call (.ref fa) [.ref l]) (fun v s' => GoodWG PySem.Challenge.rw_in0006_01.row.claim cl mean [ofPy (PyData.list (ns.map PyData.int))] s₁ (.ok (.ret v)) s') E s₁ := by
 obtain ⟨b1, b2, hw⟩ := wW_self w
 rw [<- hw] at KX ⊢
 have hs : Stat b1 b2 w s₁.heap := holds_iff.mpr fun a o e => KX a o (ktop_my _ a o e)
 have h48 : s₁.heap.get? 48 = some (tabObj #[]) := hT8 48 (.head _)
 have h114 : s₁.heap.get? 114 = some (tabObj #[]) := hT8 114 (.tail _ (.head _))
 have hfa : fa = 254 := by
  obtain ⟨o, es, ep, e1, e2, _, e3⟩ := hG
  obtain ⟨o', es', ep', f1, f2, _, f3⟩ := hs.glob
  have e1' : s₁.heap.get? 3 = some o := e1
  rw [f1] at e1'; cases e1'
  rw [f2] at e2; cases e2
  have h := (e3 "law").symm.trans (f3 "law")
  rw [hmg, gl_law] at h
  cases h; rfl
 subst hfa
 refine wpAny_call (law_ok caller_deep hs (ac_start hs h48) (.inl h114) hl (ints_of hi) (by lia) fun s' G hac hz => ?_)
 show GoodWG _ _ _ _ _ _ _
 refine ⟨.inl ⟨.bool true, .bool true, [], rfl, fun cls => by rfl, .bool true, by kernel_rfl, fun _ => ⟨.nil, fun a ha => nomatch ha⟩⟩, ⟨fun b o e => ?_, fun b o e => ?_⟩, G.os, ?_⟩
 ·by_cases h1 : b = 48
  ·subst h1
   rw [h48] at e; cases e
   obtain ⟨e5, c, v, _, _, _, _, _, _, _, d, v11, _⟩ := o52_code (wW b1 b2 w).params
   obtain ⟨ps, ⟨_, e6⟩, _⟩ := hac
   exact .inr (.inl ⟨⟨52, _, v, hs.at e5, c, d, v11⟩, rfl, #[], ps, rfl, by rw [e6]; simp [tabObj]⟩)
  ·by_cases h2 : b = 114
   ·subst h2
    rw [h114] at e; cases e
    obtain ⟨e5, c, v, d, v11⟩ := o118_code (wW b1 b2 w).params
    refine .inr (.inl ⟨⟨118, _, v, hs.at e5, c, d, v11⟩, rfl, #[], ?_⟩)
    rcases hz with h | ⟨co, cc, h, _⟩
    ·exact ⟨#[], rfl, by rw [h]; rfl⟩
    ·exact ⟨_, rfl, by rw [h]; simp [tabObj]; rfl⟩
   ·exact .inl (G.keep b o (fun hm => by
     replace hm := mm2 hm
     rcases hm with q | q
     ·exact h1 q
     ·exact h2 q) e)
 ·by_cases h1 : b = 48
  ·rw [h1]; exact (ac_48 hac).1
  ·by_cases h2 : b = 114
   ·rw [h2]
    rcases hz with h | ⟨_, _, h, _⟩ <;> exact ⟨_, h⟩
   ·exact ⟨o, G.keep b o (fun hm => by
     replace hm := mm2 hm
     rcases hm with q | q
     ·exact h1 q
     ·exact h2 q) e⟩
 ·obtain ⟨l, e, hb⟩ := G.gens
  intro y hy
  rw [e, hg] at hy
  exact hb y (by simpa using hy)
end Mine
end
section
namespace Mine
open PySem PySem.W PySem.W.X PyProof.Rows
noncomputable def runT (st : SharedT -> Thread -> Option (SharedT × Thread)) (fin : Thread -> Option (List Value)) : Nat -> SharedT -> Thread -> Option SharedT
 | 0, _, _ => none
 | n + 1, s, t => match fin t with
  | some [] => some s
  | some (_ :: _) => none
  | none => match st s t with
   | some (s', t') => runT st fin n s' t'
   | none => none
theorem runT_of {tb : String -> Option Builtin} {p : Program} {w : World} : ∀ {n : Nat} {s s' : SharedT} {t : Thread}, runT (stepT (denote tb) p w) Thread.atExitBegin n s t = some s' -> importEnds tb p w n s.abs t = some s'.abs
 | 0, _, _, _, h => nomatch h
 | n + 1, s, s', t, h => by
  unfold runT at h
  unfold importEnds
  cases he : t.atExitBegin with
  | some l => rw [he] at h; cases l <;> cases h; rfl
  | none =>
   rw [he] at h
   cases hs : stepT (denote tb) p w s t with
   | none => rw [hs] at h; cases h
   | some r => obtain ⟨s₂, t₂⟩ := r; rw [hs] at h; dsimp only; rw [stepT_spec hs]; exact runT_of h
noncomputable def topT (st : SharedT -> Thread -> Option (SharedT × Thread)) (ok : Thread -> Bool) : Nat -> SharedT -> Thread -> Option SharedT
 | 0, _, _ => none
 | n + 1, s, t => match through t with
  | true => some s
  | false => match ok t with
   | false => none
   | true => match st s t with
    | some (s', t') => topT st ok n s' t'
    | none => none
theorem topT_of {tb : String -> Option Builtin} {p : Program} {w : World} {m : Nat} {ann : Option Value} : ∀ {n : Nat} {s s' : SharedT} {t : Thread}, topT (stepT (denote tb) p w) (stepOk m ann) n s t = some s' -> topRun tb p w m ann n s.abs t = some s'.abs
 | 0, _, _, _, h => nomatch h
 | n + 1, s, s', t, h => by
  unfold topT at h
  unfold topRun
  cases ht : through t with
  | true => rw [ht] at h; cases h; rfl
  | false =>
   rw [ht] at h
   cases hk : stepOk m ann t with
   | false => rw [hk] at h; cases h
   | true =>
    rw [hk] at h
    cases hs : stepT (denote tb) p w s t with
    | none => rw [hs] at h; cases h
    | some r => obtain ⟨s₂, t₂⟩ := r; rw [hs] at h; rw [stepT_spec hs]; exact topT_of h
noncomputable def treeOf : List Obj -> Nat -> BT -> Option (BT × Nat)
 | [], n, t => some (t, n)
 | o :: l, n, t => match ((t.ins n o).get n).isSome with
  | true => treeOf l (n + 1) (t.ins n o)
  | false => none
theorem treeOf_abs {life : Life} : ∀ {l : List Obj} {n m : Nat} {t t' : BT}, treeOf l n t = some (t', m) -> (absHeap t' m life).objs = (absHeap t n life).objs ++ l.toArray
 | [], n, m, t, t', h => by cases h; simp
 | o :: l, n, m, t, t', h => by
  unfold treeOf at h
  cases hi : ((t.ins n o).get n).isSome with
  | false => rw [hi] at h; cases h
  | true =>
   rw [hi] at h
   rw [treeOf_abs h, absHeap_ins hi]
   show (Array.push _ _) ++ _ = _
   simp
   rfl
noncomputable def toT (s : Shared) : Option SharedT := match treeOf s.heap.objs.toList 0 .nil with
 | some (t, n) => some ⟨t, n, s.heap.life, s.gens, s.drawn, s.toks, s.os⟩
 | none => none
theorem toT_of {s : Shared} {T : SharedT} (h : toT s = some T) : T.abs = s := by
 unfold toT at h
 split at h
 ·rename_i t n e
  cases h
  have a := treeOf_abs (life := s.heap.life) e
  obtain ⟨⟨objs, life⟩, g, d, k, os⟩ := s
  have : absHeap t n life = ⟨objs, life⟩ := by
   show Heap.mk _ _ = _
   rw [show ((t.list n).toArray : Array Obj) = objs from a.trans (by
    show (absHeap .nil 0 life).objs ++ objs.toList.toArray = objs
    rw [show (absHeap .nil 0 life).objs = #[] from rfl]; simp)]
  show Shared.mk (absHeap t n life) _ _ _ _ = _
  rw [this]
 ·cases h
section
variable {β γ : Type} (p : Program) (N : Nat) (start₀ : SharedT) (th : Thread) (st0 st1 : SharedT -> Thread -> Option (SharedT × Thread)) (fin : Thread -> Option (List Value)) (fence : Shared -> Option Shared) (ok : Nat -> Option Value -> Thread -> Bool) (f : Shared -> Shared -> β)
noncomputable def shot : Option β :=
 (runT st0 fin N start₀ th).bind fun s₁ => (fence s₁.abs).bind fun s₀ => match s₀.heap.isNs mainGlobals && s₀.gens.size == 0 with
  | true => (toT s₀).bind fun T => (topT st1 (ok s₀.heap.objs.size (s₀.heap.nsMap mainGlobals "__annotations__")) N T (topStub p)).map fun s₂ => f s₀ s₂.abs
  | false => none
end
theorem left_of {p q : Program} {loose : List Str} {Xt : Shared -> Bool} {α : Type} {Yf : Shared -> α} {Ya : World -> α} {N : Nat} {g0 : Bool}
  (h : ∀ w, shot p N ⟨.nil, 0, {}, #[], {}, 1, { stdin := p.given.stdin.toArray }⟩ (PySem.start (opening p)).2 (stepT (denote treeTable) (opening p) w) (stepT (denote treeTable) p w) Thread.atExitBegin (fenceModules? p) stepOk
   (fun s₀ s => (staticsOk (importedModules p.main.body) s₀.heap s.heap && namesBound p s.heap && gensDone s && laidKept s₀.heap s.heap, openSeen q loose (importedModules p.main.body) Xt g0 s, Yf s)) = some (true, openGood q loose, Ya w)) : LeftO p q loose Xt Yf Ya N g0 := fun w => by
 have e := h w
 unfold shot at e
 obtain ⟨s₁, e1, e⟩ := Option.bind_eq_some_iff.mp e
 obtain ⟨s₀, e2, e⟩ := Option.bind_eq_some_iff.mp e
 have i := runT_of e1
 cases hg : (s₀.heap.isNs mainGlobals && s₀.gens.size == 0) with
 | false => rw [hg] at e; cases e
 | true =>
  rw [hg] at e
  obtain ⟨T, e3, e⟩ := Option.bind_eq_some_iff.mp e
  obtain ⟨s₂, e4, e⟩ := Option.map_eq_some_iff.mp e
  have r := topT_of e4
  rw [toT_of e3] at r
  obtain ⟨x1, x2⟩ := Prod.mk.inj e
  obtain ⟨x2, x3⟩ := Prod.mk.inj x2
  have i' : importEnds treeTable (opening p) w N (PySem.start (opening p)).1 (PySem.start (opening p)).2 = some s₁.abs := (show SharedT.abs ⟨.nil, 0, {}, #[], {}, 1, { stdin := p.given.stdin.toArray }⟩ = (PySem.start (opening p)).1 by kernel_rfl) ▸ i
  unfold openEnds fencedOpening
  rw [i']
  show Option.map _ ((fenceModules? p s₁.abs).bind _) = _
  rw [e2]
  show Option.map _ (topFrom treeTable p w N s₀) = _
  unfold topFrom
  rw [hg]
  dsimp only
  rw [r]
  show Option.map _ (match _ with | true => some s₂.abs | false => none) = _
  rw [x1]
  show some (_, _) = _
  rw [x2, x3]
end Mine
end
namespace Mine
open PySem PySem.W PySem.W.X PyProof.Rows
noncomputable def prg : Program := PySem.Challenge.rw_in0006_01.row.prog
noncomputable def vw : Program := view prg [0, 16]
noncomputable def lse : List Str := ["_wall", "add_func_stats", "add_callers", "_tuplegetter", "FreezableDefaultDict", "Pair", "_law_nothing", "_law_record", "_law_book", "_law_rows", "_law_told"]
noncomputable def hk : Hook := kmHook myK myAs kEq [48, 114]
noncomputable def xt (s : Shared) : Bool := xlAt vw [] s && recOk (RowW.records (OpenRow.toRowW PySem.Challenge.rw_in0006_01.row)) s
noncomputable def shotF (w : World) := shot prg 4508 ⟨.nil, 0, {}, #[], {}, 1, {}⟩ (Fast.tw1435165496053646825 (opening prg)).2
   (Fast.tw10156331382660048174 (Fast.tw11892475500146522536 Fast.tw14364793385576792824) (opening prg) w) (Fast.tw10156331382660048174 (Fast.tw11892475500146522536 Fast.tw14364793385576792824) prg w)
   Fast.tw3805553451399329143 (Fast.tw14289696077712309145 prg) Fast.tw6613529449190102663
   (fun s₀ s => (staticsOk (importedModules prg.main.body) s₀.heap s.heap && namesBound prg s.heap && gensDone s && laidKept s₀.heap s.heap, Fast.tw4187177175401517315 vw lse (importedModules prg.main.body) xt true s, hk.obs s))
theorem shot_ok : ∀ w, shotF w = some (true, openGood vw lse, hk.val w) := fun w => by kernel_rfl
theorem shot_left : LeftO prg vw lse xt hk.obs hk.val 4508 := left_of fun w => by
 have h := shot_ok w
 unfold shotF at h
 rw [<- Fast.te1435165496053646825, <- Fast.te10156331382660048174, <- Fast.te11892475500146522536, <- Fast.te14364793385576792824, <- Fast.te3805553451399329143, <- Fast.te14289696077712309145, <- Fast.te6613529449190102663, <- Fast.te4187177175401517315] at h
 exact h
theorem said_ok : OpenLaw.wellSaid PySem.Challenge.rw_in0006_01 = true := by
 rw [Fast.te9446332074065402090]
 kernel_rfl
set_option maxHeartbeats 8000000 in
theorem allTrue : PySem.Challenge.rw_in0006_01.Holds := by
 refine holds_law said_ok fun said => ?_
 refine holds_open (q := vw) (loose := lse) (Xt := xt) (XP := XL vw []) (Yf := hk.obs) (Ya := hk.val) (YP := hk.says) (N := 4508) shot_left hk.of hk.keeps (fun s e => xl_of s (Bool.and_eq_true_iff.mp e).1) XL.keeps (by rfl) (by rfl) (by rfl) (fun s e => recFacts_of (Bool.and_eq_true_iff.mp e).2) (by rfl) said (by decide +kernel) ⟨rfl, rfl, rfl, rfl, rfl, by decide +kernel⟩ ?hw ?hc
 case hw => w_witness2
 intro w s₀ s₁ mg mb G Y fa o pm cd doc dV kV ho hd hcd hD hmg hg args vals as hpre hlay hrd hwl hlo
 have KX := km_in_of Y
 have hT8 := km_tabs_of Y
 have hG := (Ground.T G).g
 clear hD hd ho hcd G Y
 wrow_args hpre hlay hrd hwl hlo
 rename_i hl _ _ _ hi _ hn _
 exact law_good KX hT8 hG hmg hg hl hi hn
end Mine
theorem PySem.Challenge.cw_in0006_01_holds : PySem.Challenge.rw_in0006_01.Holds :=
 Mine.allTrue
