import PyProof.Rows.All
import Wide.All
import OpenK.AllK
import Wide.FinOn
import Lean
import PySem.Challenge.RW_yh0022_01
open PySem PySem.W PySem.Calls PyProof.Rows PySem.Spec
set_option Elab.async false
set_option maxRecDepth 100000
set_option maxHeartbeats 4000000
set_option linter.all false
set_option compiler.extract_closed false
namespace Mine
/- KF -/
noncomputable abbrev pick {α : Type} {x : α} (b : α) (_ : x = b) : α := b
noncomputable def topAt (i : Nat) : Stmt := PySem.Challenge.pw_yh0022_01.main.body.getD i (.Pass ⟨0, 0, 0, 0⟩)
noncomputable def inAt (i j : Nat) : Stmt := match topAt i with | .ClassDef _ _ _ body _ _ _ _ _ _ _ => body.getD j (.Pass ⟨0, 0, 0, 0⟩) | t => t
noncomputable def psOf : Stmt → Arguments | .FunctionDef _ a _ _ _ _ _ _ _ _ => a | _ => default
noncomputable def bdOf : Stmt → List Stmt | .FunctionDef _ _ b _ _ _ _ _ _ _ => b | _ => []
noncomputable def scOf : Stmt → Scope | .FunctionDef _ _ _ _ _ _ c _ _ _ => c | _ => default
noncomputable def o2 : Obj := { cls := Value.none, data := Data.dict #[] }
noncomputable def o3 (P : Params) : Obj := { cls := Value.type "dict", data := Data.dict #[{ hash := PyData.keyHash P (Str.ofString "__name__"), key := Value.str (Str.ofString "__name__") 165, val := Value.str (Str.ofString "law_yh0022_01") 510 }, { hash := PyData.keyHash P (Str.ofString "__doc__"), key := Value.str (Str.ofString "__doc__") 166, val := Value.none }, { hash := PyData.keyHash P (Str.ofString "__package__"), key := Value.str (Str.ofString "__package__") 167, val := Value.none }, { hash := PyData.keyHash P (Str.ofString "__loader__"), key := Value.str (Str.ofString "__loader__") 168, val := Value.builtin "__main__.__loader__#opaque" }, { hash := PyData.keyHash P (Str.ofString "__spec__"), key := Value.str (Str.ofString "__spec__") 169, val := Value.none }, { hash := PyData.keyHash P (Str.ofString "__annotations__"), key := Value.str (Str.ofString "__annotations__") 170, val := Value.ref 6 }, { hash := PyData.keyHash P (Str.ofString "__builtins__"), key := Value.str (Str.ofString "__builtins__") 171, val := Value.ref 4 }, { hash := PyData.keyHash P (Str.ofString "__file__"), key := Value.str (Str.ofString "__file__") 173, val := Value.str (Str.ofString "/claim/cut.py") 172 }, { hash := PyData.keyHash P (Str.ofString "__cached__"), key := Value.str (Str.ofString "__cached__") 174, val := Value.none }, { hash := PyData.keyHash P (Str.ofString "_wall"), key := Value.str (Str.ofString "_wall") 193, val := Value.ref 21 }, { hash := PyData.keyHash P (Str.ofString "_NO_LINENO"), key := Value.str (Str.ofString "_NO_LINENO") 197, val := Value.str (Str.ofString "  --") 196 }, { hash := PyData.keyHash P (Str.ofString "_get_lineno_width"), key := Value.str (Str.ofString "_get_lineno_width") 206, val := Value.ref 28 }, { hash := PyData.keyHash P (Str.ofString "NL"), key := Value.str (Str.ofString "NL") 210, val := Value.str (Str.ofString "\n") 209 }, { hash := PyData.keyHash P (Str.ofString "EMPTYSTRING"), key := Value.str (Str.ofString "EMPTYSTRING") 212, val := Value.str (Str.ofString "") 211 }, { hash := PyData.keyHash P (Str.ofString "_ValueFormatter"), key := Value.str (Str.ofString "_ValueFormatter") 320, val := Value.ref 101 }, { hash := PyData.keyHash P (Str.ofString "_Accumulator"), key := Value.str (Str.ofString "_Accumulator") 416, val := Value.ref 185 }, { hash := PyData.keyHash P (Str.ofString "QName"), key := Value.str (Str.ofString "QName") 509, val := Value.ref 263 }, { hash := PyData.keyHash P (Str.ofString "_law_figures"), key := Value.str (Str.ofString "_law_figures") 519, val := Value.ref 274 }, { hash := PyData.keyHash P (Str.ofString "_law_fall"), key := Value.str (Str.ofString "_law_fall") 541, val := Value.ref 281 }, { hash := PyData.keyHash P (Str.ofString "law"), key := Value.str (Str.ofString "law") 547, val := Value.ref 286 }] 20 }
noncomputable def o15 : Obj := { cls := Value.type "tuple", data := Data.seq #[] }
noncomputable def o17 : Obj := { cls := Value.type "tuple", data := Data.seq #[Value.str (Str.ofString "k") 190] }
noncomputable def o18 : Obj := { cls := Value.type "tuple", data := Data.seq #[] }
noncomputable def o20 : Obj := { cls := Value.type "code", data := Data.fields #[Value.str (Str.ofString "_wall") 187, Value.str (Str.ofString "_wall") 188, Value.str (Str.ofString "/claim/cut.py") 189, Value.int 1 0, Value.int 1 0, Value.int 0 0, Value.int 0 0, Value.int 3 0, Value.ref 15, Value.bool true, Value.int 181 0, Value.ref 16, Value.none, Value.ref 17, Value.ref 18, Value.ref 19, Value.int 191 0, Value.int 1 0, Value.str (Str.ofString "/claim/cut.py") 192] }
noncomputable def p21 : Arguments := pick _ (show psOf (topAt 0) = _ by conv => lhs; whnf)
noncomputable def b21 : List Stmt := pick _ (show bdOf (topAt 0) = _ by conv => lhs; whnf)
noncomputable def s21 : Scope := pick _ (show scOf (topAt 0) = _ by conv => lhs; whnf)
noncomputable def o21 : Obj := pick _ (show ({ cls := Value.type "function", dict := none, data := .func { name := Str.ofString "_wall", qualname := Str.ofString "_wall", params := p21, body := .stmts b21, scope := s21, globals := 3, closure := [], defaults := Value.none, kwdefaults := Value.none, doc := Value.none, pyModule := Value.str (Str.ofString "__main__") 164, annotations := none, code := Value.ref 20, closureTuple := Value.none, builtins := 0 }, slots := #[] } : Obj) = _ by dsimp only [p21, b21, s21, pick])
noncomputable def o22 : Obj := { cls := Value.type "tuple", data := Data.seq #[] }
noncomputable def o24 : Obj := { cls := Value.type "tuple", data := Data.seq #[Value.str (Str.ofString "linestarts") 201, Value.str (Str.ofString "maxlineno") 202, Value.str (Str.ofString "lineno_width") 203] }
noncomputable def o25 : Obj := { cls := Value.type "tuple", data := Data.seq #[] }
noncomputable def o27 : Obj := { cls := Value.type "code", data := Data.fields #[Value.str (Str.ofString "_get_lineno_width") 198, Value.str (Str.ofString "_get_lineno_width") 199, Value.str (Str.ofString "/claim/cut.py") 200, Value.int 6 0, Value.int 1 0, Value.int 0 0, Value.int 0 0, Value.int 3 0, Value.ref 22, Value.bool true, Value.int 181 0, Value.ref 23, Value.none, Value.ref 24, Value.ref 25, Value.ref 26, Value.int 204 0, Value.int 6 0, Value.str (Str.ofString "/claim/cut.py") 205] }
noncomputable def p28 : Arguments := pick _ (show psOf (topAt 3) = _ by conv => lhs; whnf)
noncomputable def b28 : List Stmt := pick _ (show bdOf (topAt 3) = _ by conv => lhs; whnf)
noncomputable def s28 : Scope := pick _ (show scOf (topAt 3) = _ by conv => lhs; whnf)
noncomputable def o28 : Obj := pick _ (show ({ cls := Value.type "function", dict := none, data := .func { name := Str.ofString "_get_lineno_width", qualname := Str.ofString "_get_lineno_width", params := p28, body := .stmts b28, scope := s28, globals := 3, closure := [], defaults := Value.none, kwdefaults := Value.none, doc := Value.none, pyModule := Value.str (Str.ofString "cpy313.dis") 194, annotations := none, code := Value.ref 27, closureTuple := Value.none, builtins := 0 }, slots := #[] } : Obj) = _ by dsimp only [p28, b28, s28, pick])
noncomputable def o36 : Obj := { cls := Value.type "tuple", data := Data.seq #[] }
noncomputable def o38 : Obj := { cls := Value.type "tuple", data := Data.seq #[Value.str (Str.ofString "self") 228, Value.str (Str.ofString "headerlen") 229, Value.str (Str.ofString "maxlen") 230, Value.str (Str.ofString "continuation_ws") 231, Value.str (Str.ofString "splitchars") 232] }
noncomputable def o39 : Obj := { cls := Value.type "tuple", data := Data.seq #[] }
noncomputable def o41 : Obj := { cls := Value.type "code", data := Data.fields #[Value.str (Str.ofString "__init__") 225, Value.str (Str.ofString "_ValueFormatter.__init__") 226, Value.str (Str.ofString "/claim/cut.py") 227, Value.int 21 0, Value.int 5 0, Value.int 0 0, Value.int 0 0, Value.int 3 0, Value.ref 36, Value.bool true, Value.int 181 0, Value.ref 37, Value.none, Value.ref 38, Value.ref 39, Value.ref 40, Value.int 233 0, Value.int 21 0, Value.str (Str.ofString "/claim/cut.py") 234] }
noncomputable def p42 : Arguments := pick _ (show psOf (inAt 7 0) = _ by conv => lhs; whnf)
noncomputable def b42 : List Stmt := pick _ (show bdOf (inAt 7 0) = _ by conv => lhs; whnf)
noncomputable def s42 : Scope := pick _ (show scOf (inAt 7 0) = _ by conv => lhs; whnf)
noncomputable def o42 : Obj := pick _ (show ({ cls := Value.type "function", dict := none, data := .func { name := Str.ofString "__init__", qualname := Str.ofString "_ValueFormatter.__init__", params := p42, body := .stmts b42, scope := s42, globals := 3, closure := [], defaults := Value.none, kwdefaults := Value.none, doc := Value.none, pyModule := Value.str (Str.ofString "cpy313.email.header") 207, annotations := none, code := Value.ref 41, closureTuple := Value.none, builtins := 0 }, slots := #[] } : Obj) = _ by dsimp only [p42, b42, s42, pick])
noncomputable def o43 : Obj := { cls := Value.type "tuple", data := Data.seq #[] }
noncomputable def o45 : Obj := { cls := Value.type "tuple", data := Data.seq #[Value.str (Str.ofString "self") 239, Value.str (Str.ofString "linesep") 240] }
noncomputable def o46 : Obj := { cls := Value.type "tuple", data := Data.seq #[] }
noncomputable def o48 : Obj := { cls := Value.type "code", data := Data.fields #[Value.str (Str.ofString "_str") 236, Value.str (Str.ofString "_ValueFormatter._str") 237, Value.str (Str.ofString "/claim/cut.py") 238, Value.int 29 0, Value.int 2 0, Value.int 0 0, Value.int 0 0, Value.int 3 0, Value.ref 43, Value.bool true, Value.int 181 0, Value.ref 44, Value.none, Value.ref 45, Value.ref 46, Value.ref 47, Value.int 241 0, Value.int 29 0, Value.str (Str.ofString "/claim/cut.py") 242] }
noncomputable def p49 : Arguments := pick _ (show psOf (inAt 7 1) = _ by conv => lhs; whnf)
noncomputable def b49 : List Stmt := pick _ (show bdOf (inAt 7 1) = _ by conv => lhs; whnf)
noncomputable def s49 : Scope := pick _ (show scOf (inAt 7 1) = _ by conv => lhs; whnf)
noncomputable def o49 : Obj := pick _ (show ({ cls := Value.type "function", dict := none, data := .func { name := Str.ofString "_str", qualname := Str.ofString "_ValueFormatter._str", params := p49, body := .stmts b49, scope := s49, globals := 3, closure := [], defaults := Value.none, kwdefaults := Value.none, doc := Value.none, pyModule := Value.str (Str.ofString "cpy313.email.header") 207, annotations := none, code := Value.ref 48, closureTuple := Value.none, builtins := 0 }, slots := #[] } : Obj) = _ by dsimp only [p49, b49, s49, pick])
noncomputable def o50 : Obj := { cls := Value.type "tuple", data := Data.seq #[] }
noncomputable def o52 : Obj := { cls := Value.type "tuple", data := Data.seq #[Value.str (Str.ofString "self") 247] }
noncomputable def o53 : Obj := { cls := Value.type "tuple", data := Data.seq #[] }
noncomputable def o55 : Obj := { cls := Value.type "code", data := Data.fields #[Value.str (Str.ofString "__str__") 244, Value.str (Str.ofString "_ValueFormatter.__str__") 245, Value.str (Str.ofString "/claim/cut.py") 246, Value.int 33 0, Value.int 1 0, Value.int 0 0, Value.int 0 0, Value.int 3 0, Value.ref 50, Value.bool true, Value.int 181 0, Value.ref 51, Value.none, Value.ref 52, Value.ref 53, Value.ref 54, Value.int 248 0, Value.int 33 0, Value.str (Str.ofString "/claim/cut.py") 249] }
noncomputable def p56 : Arguments := pick _ (show psOf (inAt 7 2) = _ by conv => lhs; whnf)
noncomputable def b56 : List Stmt := pick _ (show bdOf (inAt 7 2) = _ by conv => lhs; whnf)
noncomputable def s56 : Scope := pick _ (show scOf (inAt 7 2) = _ by conv => lhs; whnf)
noncomputable def o56 : Obj := pick _ (show ({ cls := Value.type "function", dict := none, data := .func { name := Str.ofString "__str__", qualname := Str.ofString "_ValueFormatter.__str__", params := p56, body := .stmts b56, scope := s56, globals := 3, closure := [], defaults := Value.none, kwdefaults := Value.none, doc := Value.none, pyModule := Value.str (Str.ofString "cpy313.email.header") 207, annotations := none, code := Value.ref 55, closureTuple := Value.none, builtins := 0 }, slots := #[] } : Obj) = _ by dsimp only [p56, b56, s56, pick])
noncomputable def o57 : Obj := { cls := Value.type "tuple", data := Data.seq #[] }
noncomputable def o59 : Obj := { cls := Value.type "tuple", data := Data.seq #[Value.str (Str.ofString "self") 254, Value.str (Str.ofString "end_of_line") 255] }
noncomputable def o60 : Obj := { cls := Value.type "tuple", data := Data.seq #[] }
noncomputable def o62 : Obj := { cls := Value.type "code", data := Data.fields #[Value.str (Str.ofString "newline") 251, Value.str (Str.ofString "_ValueFormatter.newline") 252, Value.str (Str.ofString "/claim/cut.py") 253, Value.int 36 0, Value.int 1 0, Value.int 0 0, Value.int 0 0, Value.int 3 0, Value.ref 57, Value.bool true, Value.int 181 0, Value.ref 58, Value.none, Value.ref 59, Value.ref 60, Value.ref 61, Value.int 256 0, Value.int 36 0, Value.str (Str.ofString "/claim/cut.py") 257] }
noncomputable def p63 : Arguments := pick _ (show psOf (inAt 7 3) = _ by conv => lhs; whnf)
noncomputable def b63 : List Stmt := pick _ (show bdOf (inAt 7 3) = _ by conv => lhs; whnf)
noncomputable def s63 : Scope := pick _ (show scOf (inAt 7 3) = _ by conv => lhs; whnf)
noncomputable def o63 : Obj := pick _ (show ({ cls := Value.type "function", dict := none, data := .func { name := Str.ofString "newline", qualname := Str.ofString "_ValueFormatter.newline", params := p63, body := .stmts b63, scope := s63, globals := 3, closure := [], defaults := Value.none, kwdefaults := Value.none, doc := Value.none, pyModule := Value.str (Str.ofString "cpy313.email.header") 207, annotations := none, code := Value.ref 62, closureTuple := Value.none, builtins := 0 }, slots := #[] } : Obj) = _ by dsimp only [p63, b63, s63, pick])
noncomputable def o64 : Obj := { cls := Value.type "tuple", data := Data.seq #[] }
noncomputable def o66 : Obj := { cls := Value.type "tuple", data := Data.seq #[Value.str (Str.ofString "self") 262] }
noncomputable def o67 : Obj := { cls := Value.type "tuple", data := Data.seq #[] }
noncomputable def o69 : Obj := { cls := Value.type "code", data := Data.fields #[Value.str (Str.ofString "add_transition") 259, Value.str (Str.ofString "_ValueFormatter.add_transition") 260, Value.str (Str.ofString "/claim/cut.py") 261, Value.int 47 0, Value.int 1 0, Value.int 0 0, Value.int 0 0, Value.int 3 0, Value.ref 64, Value.bool true, Value.int 181 0, Value.ref 65, Value.none, Value.ref 66, Value.ref 67, Value.ref 68, Value.int 263 0, Value.int 47 0, Value.str (Str.ofString "/claim/cut.py") 264] }
noncomputable def p70 : Arguments := pick _ (show psOf (inAt 7 4) = _ by conv => lhs; whnf)
noncomputable def b70 : List Stmt := pick _ (show bdOf (inAt 7 4) = _ by conv => lhs; whnf)
noncomputable def s70 : Scope := pick _ (show scOf (inAt 7 4) = _ by conv => lhs; whnf)
noncomputable def o70 : Obj := pick _ (show ({ cls := Value.type "function", dict := none, data := .func { name := Str.ofString "add_transition", qualname := Str.ofString "_ValueFormatter.add_transition", params := p70, body := .stmts b70, scope := s70, globals := 3, closure := [], defaults := Value.none, kwdefaults := Value.none, doc := Value.none, pyModule := Value.str (Str.ofString "cpy313.email.header") 207, annotations := none, code := Value.ref 69, closureTuple := Value.none, builtins := 0 }, slots := #[] } : Obj) = _ by dsimp only [p70, b70, s70, pick])
noncomputable def o71 : Obj := { cls := Value.type "tuple", data := Data.seq #[] }
noncomputable def o73 : Obj := { cls := Value.type "tuple", data := Data.seq #[Value.str (Str.ofString "self") 269, Value.str (Str.ofString "fws") 270, Value.str (Str.ofString "string") 271, Value.str (Str.ofString "charset") 272] }
noncomputable def o74 : Obj := { cls := Value.type "tuple", data := Data.seq #[] }
noncomputable def o76 : Obj := { cls := Value.type "code", data := Data.fields #[Value.str (Str.ofString "feed") 266, Value.str (Str.ofString "_ValueFormatter.feed") 267, Value.str (Str.ofString "/claim/cut.py") 268, Value.int 50 0, Value.int 4 0, Value.int 0 0, Value.int 0 0, Value.int 3 0, Value.ref 71, Value.bool true, Value.int 181 0, Value.ref 72, Value.none, Value.ref 73, Value.ref 74, Value.ref 75, Value.int 273 0, Value.int 50 0, Value.str (Str.ofString "/claim/cut.py") 274] }
noncomputable def p77 : Arguments := pick _ (show psOf (inAt 7 5) = _ by conv => lhs; whnf)
noncomputable def b77 : List Stmt := pick _ (show bdOf (inAt 7 5) = _ by conv => lhs; whnf)
noncomputable def s77 : Scope := pick _ (show scOf (inAt 7 5) = _ by conv => lhs; whnf)
noncomputable def o77 : Obj := pick _ (show ({ cls := Value.type "function", dict := none, data := .func { name := Str.ofString "feed", qualname := Str.ofString "_ValueFormatter.feed", params := p77, body := .stmts b77, scope := s77, globals := 3, closure := [], defaults := Value.none, kwdefaults := Value.none, doc := Value.none, pyModule := Value.str (Str.ofString "cpy313.email.header") 207, annotations := none, code := Value.ref 76, closureTuple := Value.none, builtins := 0 }, slots := #[] } : Obj) = _ by dsimp only [p77, b77, s77, pick])
noncomputable def o78 : Obj := { cls := Value.type "tuple", data := Data.seq #[] }
noncomputable def o80 : Obj := { cls := Value.type "tuple", data := Data.seq #[Value.str (Str.ofString "self") 279] }
noncomputable def o81 : Obj := { cls := Value.type "tuple", data := Data.seq #[] }
noncomputable def o83 : Obj := { cls := Value.type "code", data := Data.fields #[Value.str (Str.ofString "_maxlengths") 276, Value.str (Str.ofString "_ValueFormatter._maxlengths") 277, Value.str (Str.ofString "/claim/cut.py") 278, Value.int 53 0, Value.int 1 0, Value.int 0 0, Value.int 0 0, Value.int 35 0, Value.ref 78, Value.bool true, Value.int 181 0, Value.ref 79, Value.none, Value.ref 80, Value.ref 81, Value.ref 82, Value.int 280 0, Value.int 53 0, Value.str (Str.ofString "/claim/cut.py") 281] }
noncomputable def p84 : Arguments := pick _ (show psOf (inAt 7 6) = _ by conv => lhs; whnf)
noncomputable def b84 : List Stmt := pick _ (show bdOf (inAt 7 6) = _ by conv => lhs; whnf)
noncomputable def s84 : Scope := pick _ (show scOf (inAt 7 6) = _ by conv => lhs; whnf)
noncomputable def o84 : Obj := pick _ (show ({ cls := Value.type "function", dict := none, data := .func { name := Str.ofString "_maxlengths", qualname := Str.ofString "_ValueFormatter._maxlengths", params := p84, body := .stmts b84, scope := s84, globals := 3, closure := [], defaults := Value.none, kwdefaults := Value.none, doc := Value.none, pyModule := Value.str (Str.ofString "cpy313.email.header") 207, annotations := none, code := Value.ref 83, closureTuple := Value.none, builtins := 0 }, slots := #[] } : Obj) = _ by dsimp only [p84, b84, s84, pick])
noncomputable def o85 : Obj := { cls := Value.type "tuple", data := Data.seq #[] }
noncomputable def o87 : Obj := { cls := Value.type "tuple", data := Data.seq #[Value.str (Str.ofString "self") 286, Value.str (Str.ofString "fws") 287, Value.str (Str.ofString "string") 288, Value.str (Str.ofString "splitchars") 289] }
noncomputable def o88 : Obj := { cls := Value.type "tuple", data := Data.seq #[] }
noncomputable def o90 : Obj := { cls := Value.type "code", data := Data.fields #[Value.str (Str.ofString "_ascii_split") 283, Value.str (Str.ofString "_ValueFormatter._ascii_split") 284, Value.str (Str.ofString "/claim/cut.py") 285, Value.int 58 0, Value.int 4 0, Value.int 0 0, Value.int 0 0, Value.int 3 0, Value.ref 85, Value.bool true, Value.int 181 0, Value.ref 86, Value.none, Value.ref 87, Value.ref 88, Value.ref 89, Value.int 290 0, Value.int 58 0, Value.str (Str.ofString "/claim/cut.py") 291] }
noncomputable def p91 : Arguments := pick _ (show psOf (inAt 7 7) = _ by conv => lhs; whnf)
noncomputable def b91 : List Stmt := pick _ (show bdOf (inAt 7 7) = _ by conv => lhs; whnf)
noncomputable def s91 : Scope := pick _ (show scOf (inAt 7 7) = _ by conv => lhs; whnf)
noncomputable def o91 : Obj := pick _ (show ({ cls := Value.type "function", dict := none, data := .func { name := Str.ofString "_ascii_split", qualname := Str.ofString "_ValueFormatter._ascii_split", params := p91, body := .stmts b91, scope := s91, globals := 3, closure := [], defaults := Value.none, kwdefaults := Value.none, doc := Value.none, pyModule := Value.str (Str.ofString "cpy313.email.header") 207, annotations := none, code := Value.ref 90, closureTuple := Value.none, builtins := 0 }, slots := #[] } : Obj) = _ by dsimp only [p91, b91, s91, pick])
noncomputable def o92 : Obj := { cls := Value.type "tuple", data := Data.seq #[] }
noncomputable def o94 : Obj := { cls := Value.type "tuple", data := Data.seq #[Value.str (Str.ofString "self") 296, Value.str (Str.ofString "fws") 297, Value.str (Str.ofString "string") 298, Value.str (Str.ofString "ch") 299, Value.str (Str.ofString "i") 300, Value.str (Str.ofString "prevpart") 301, Value.str (Str.ofString "part") 302, Value.str (Str.ofString "remainder") 303] }
noncomputable def o95 : Obj := { cls := Value.type "tuple", data := Data.seq #[] }
noncomputable def o97 : Obj := { cls := Value.type "code", data := Data.fields #[Value.str (Str.ofString "_append_chunk") 293, Value.str (Str.ofString "_ValueFormatter._append_chunk") 294, Value.str (Str.ofString "/claim/cut.py") 295, Value.int 61 0, Value.int 3 0, Value.int 0 0, Value.int 0 0, Value.int 3 0, Value.ref 92, Value.bool true, Value.int 181 0, Value.ref 93, Value.none, Value.ref 94, Value.ref 95, Value.ref 96, Value.int 304 0, Value.int 61 0, Value.str (Str.ofString "/claim/cut.py") 305] }
noncomputable def p98 : Arguments := pick _ (show psOf (inAt 7 8) = _ by conv => lhs; whnf)
noncomputable def b98 : List Stmt := pick _ (show bdOf (inAt 7 8) = _ by conv => lhs; whnf)
noncomputable def s98 : Scope := pick _ (show scOf (inAt 7 8) = _ by conv => lhs; whnf)
noncomputable def o98 : Obj := pick _ (show ({ cls := Value.type "function", dict := none, data := .func { name := Str.ofString "_append_chunk", qualname := Str.ofString "_ValueFormatter._append_chunk", params := p98, body := .stmts b98, scope := s98, globals := 3, closure := [], defaults := Value.none, kwdefaults := Value.none, doc := Value.none, pyModule := Value.str (Str.ofString "cpy313.email.header") 207, annotations := none, code := Value.ref 97, closureTuple := Value.none, builtins := 0 }, slots := #[] } : Obj) = _ by dsimp only [p98, b98, s98, pick])
noncomputable def o99 : Obj := { cls := Value.type "tuple", data := Data.seq #[Value.str (Str.ofString "_continuation_ws") 307, Value.str (Str.ofString "_continuation_ws_len") 308, Value.str (Str.ofString "_current_line") 309, Value.str (Str.ofString "_lines") 310, Value.str (Str.ofString "_maxlen") 311, Value.str (Str.ofString "_splitchars") 312] }
noncomputable def o100 (P : Params) : Obj := { cls := Value.type "dict", data := Data.dict #[{ hash := PyData.keyHash P (Str.ofString "__module__"), key := Value.str (Str.ofString "__module__") 220, val := Value.str (Str.ofString "cpy313.email.header") 207 }, { hash := PyData.keyHash P (Str.ofString "__firstlineno__"), key := Value.str (Str.ofString "__firstlineno__") 224, val := Value.int 19 223 }, { hash := PyData.keyHash P (Str.ofString "__init__"), key := Value.str (Str.ofString "__init__") 235, val := Value.ref 42 }, { hash := PyData.keyHash P (Str.ofString "_str"), key := Value.str (Str.ofString "_str") 243, val := Value.ref 49 }, { hash := PyData.keyHash P (Str.ofString "__str__"), key := Value.str (Str.ofString "__str__") 250, val := Value.ref 56 }, { hash := PyData.keyHash P (Str.ofString "newline"), key := Value.str (Str.ofString "newline") 258, val := Value.ref 63 }, { hash := PyData.keyHash P (Str.ofString "add_transition"), key := Value.str (Str.ofString "add_transition") 265, val := Value.ref 70 }, { hash := PyData.keyHash P (Str.ofString "feed"), key := Value.str (Str.ofString "feed") 275, val := Value.ref 77 }, { hash := PyData.keyHash P (Str.ofString "_maxlengths"), key := Value.str (Str.ofString "_maxlengths") 282, val := Value.ref 84 }, { hash := PyData.keyHash P (Str.ofString "_ascii_split"), key := Value.str (Str.ofString "_ascii_split") 292, val := Value.ref 91 }, { hash := PyData.keyHash P (Str.ofString "_append_chunk"), key := Value.str (Str.ofString "_append_chunk") 306, val := Value.ref 98 }, { hash := PyData.keyHash P (Str.ofString "__static_attributes__"), key := Value.str (Str.ofString "__static_attributes__") 313, val := Value.ref 99 }, { hash := PyData.keyHash P (Str.ofString "__dict__"), key := Value.str (Str.ofString "__dict__") 315, val := Value.ref 102 }, { hash := PyData.keyHash P (Str.ofString "__weakref__"), key := Value.str (Str.ofString "__weakref__") 317, val := Value.ref 103 }, { hash := PyData.keyHash P (Str.ofString "__doc__"), key := Value.str (Str.ofString "__doc__") 318, val := Value.none }] 4 }
noncomputable def o101 : Obj := { cls := Value.type "type", data := Data.cls { name := Str.ofString "_ValueFormatter", bases := [Value.type "object"], mro := [Value.ref 101, Value.type "object"], ns := 100, qualname := Str.ofString "_ValueFormatter" }, slots := #[none, none, some (Value.str (Str.ofString "_ValueFormatter") 213), some (Value.str (Str.ofString "_ValueFormatter") 221), some (Value.builtin "object.__new__"), some (Value.bool true)] }
noncomputable def o102 : Obj := { cls := Value.type "getset_descriptor", data := Data.fields #[Value.str (Str.ofString "__dict__") 314, Value.ref 101, Value.builtin "function.__dict__", Value.builtin "function.__dict__#set"] }
noncomputable def o103 : Obj := { cls := Value.type "getset_descriptor", data := Data.fields #[Value.str (Str.ofString "__weakref__") 316, Value.ref 101, Value.builtin "ExceptionGroup.__weakref__", Value.none] }
noncomputable def o106 : Obj := { cls := Value.type "tuple", data := Data.seq #[Value.type "list"] }
noncomputable def o109 : Obj := { cls := Value.type "cell", data := Data.cell (some (Value.ref 185)) }
noncomputable def o114 : Obj := { cls := Value.type "tuple", data := Data.seq #[Value.int 0 333] }
noncomputable def o115 : Obj := { cls := Value.type "tuple", data := Data.seq #[Value.ref 109] }
noncomputable def o116 : Obj := { cls := Value.type "tuple", data := Data.seq #[Value.str (Str.ofString "__class__") 337] }
noncomputable def o118 : Obj := { cls := Value.type "tuple", data := Data.seq #[Value.str (Str.ofString "self") 338, Value.str (Str.ofString "initial_size") 339] }
noncomputable def o119 : Obj := { cls := Value.type "tuple", data := Data.seq #[] }
noncomputable def o121 : Obj := { cls := Value.type "code", data := Data.fields #[Value.str (Str.ofString "__init__") 334, Value.str (Str.ofString "_Accumulator.__init__") 335, Value.str (Str.ofString "/claim/cut.py") 336, Value.int 89 0, Value.int 2 0, Value.int 0 0, Value.int 0 0, Value.int 3 0, Value.ref 116, Value.bool true, Value.int 181 0, Value.ref 117, Value.none, Value.ref 118, Value.ref 119, Value.ref 120, Value.int 340 0, Value.int 89 0, Value.str (Str.ofString "/claim/cut.py") 341] }
noncomputable def p122 : Arguments := pick _ (show psOf (inAt 8 0) = _ by conv => lhs; whnf)
noncomputable def b122 : List Stmt := pick _ (show bdOf (inAt 8 0) = _ by conv => lhs; whnf)
noncomputable def s122 : Scope := pick _ (show scOf (inAt 8 0) = _ by conv => lhs; whnf)
noncomputable def o122 : Obj := pick _ (show ({ cls := Value.type "function", dict := none, data := .func { name := Str.ofString "__init__", qualname := Str.ofString "_Accumulator.__init__", params := p122, body := .stmts b122, scope := s122, globals := 3, closure := [(Str.ofString "__class__", 109)], defaults := Value.ref 114, kwdefaults := Value.none, doc := Value.none, pyModule := Value.str (Str.ofString "cpy313.email.header") 207, annotations := none, code := Value.ref 121, closureTuple := Value.ref 115, builtins := 0 }, slots := #[] } : Obj) = _ by dsimp only [p122, b122, s122, pick])
noncomputable def o123 : Obj := { cls := Value.type "tuple", data := Data.seq #[] }
noncomputable def o125 : Obj := { cls := Value.type "tuple", data := Data.seq #[Value.str (Str.ofString "self") 346, Value.str (Str.ofString "fws") 347, Value.str (Str.ofString "string") 348] }
noncomputable def o126 : Obj := { cls := Value.type "tuple", data := Data.seq #[] }
noncomputable def o128 : Obj := { cls := Value.type "code", data := Data.fields #[Value.str (Str.ofString "push") 343, Value.str (Str.ofString "_Accumulator.push") 344, Value.str (Str.ofString "/claim/cut.py") 345, Value.int 93 0, Value.int 3 0, Value.int 0 0, Value.int 0 0, Value.int 3 0, Value.ref 123, Value.bool true, Value.int 181 0, Value.ref 124, Value.none, Value.ref 125, Value.ref 126, Value.ref 127, Value.int 349 0, Value.int 93 0, Value.str (Str.ofString "/claim/cut.py") 350] }
noncomputable def p129 : Arguments := pick _ (show psOf (inAt 8 1) = _ by conv => lhs; whnf)
noncomputable def b129 : List Stmt := pick _ (show bdOf (inAt 8 1) = _ by conv => lhs; whnf)
noncomputable def s129 : Scope := pick _ (show scOf (inAt 8 1) = _ by conv => lhs; whnf)
noncomputable def o129 : Obj := pick _ (show ({ cls := Value.type "function", dict := none, data := .func { name := Str.ofString "push", qualname := Str.ofString "_Accumulator.push", params := p129, body := .stmts b129, scope := s129, globals := 3, closure := [], defaults := Value.none, kwdefaults := Value.none, doc := Value.none, pyModule := Value.str (Str.ofString "cpy313.email.header") 207, annotations := none, code := Value.ref 128, closureTuple := Value.none, builtins := 0 }, slots := #[] } : Obj) = _ by dsimp only [p129, b129, s129, pick])
noncomputable def o130 : Obj := { cls := Value.type "tuple", data := Data.seq #[Value.int 0 352] }
noncomputable def o131 : Obj := { cls := Value.type "tuple", data := Data.seq #[] }
noncomputable def o133 : Obj := { cls := Value.type "tuple", data := Data.seq #[Value.str (Str.ofString "self") 356, Value.str (Str.ofString "i") 357, Value.str (Str.ofString "popped") 358] }
noncomputable def o134 : Obj := { cls := Value.type "tuple", data := Data.seq #[] }
noncomputable def o136 : Obj := { cls := Value.type "code", data := Data.fields #[Value.str (Str.ofString "pop_from") 353, Value.str (Str.ofString "_Accumulator.pop_from") 354, Value.str (Str.ofString "/claim/cut.py") 355, Value.int 96 0, Value.int 2 0, Value.int 0 0, Value.int 0 0, Value.int 3 0, Value.ref 131, Value.bool true, Value.int 181 0, Value.ref 132, Value.none, Value.ref 133, Value.ref 134, Value.ref 135, Value.int 359 0, Value.int 96 0, Value.str (Str.ofString "/claim/cut.py") 360] }
noncomputable def p137 : Arguments := pick _ (show psOf (inAt 8 2) = _ by conv => lhs; whnf)
noncomputable def b137 : List Stmt := pick _ (show bdOf (inAt 8 2) = _ by conv => lhs; whnf)
noncomputable def s137 : Scope := pick _ (show scOf (inAt 8 2) = _ by conv => lhs; whnf)
noncomputable def o137 : Obj := pick _ (show ({ cls := Value.type "function", dict := none, data := .func { name := Str.ofString "pop_from", qualname := Str.ofString "_Accumulator.pop_from", params := p137, body := .stmts b137, scope := s137, globals := 3, closure := [], defaults := Value.ref 130, kwdefaults := Value.none, doc := Value.none, pyModule := Value.str (Str.ofString "cpy313.email.header") 207, annotations := none, code := Value.ref 136, closureTuple := Value.none, builtins := 0 }, slots := #[] } : Obj) = _ by dsimp only [p137, b137, s137, pick])
noncomputable def o138 : Obj := { cls := Value.type "tuple", data := Data.seq #[Value.ref 109] }
noncomputable def o139 : Obj := { cls := Value.type "tuple", data := Data.seq #[Value.str (Str.ofString "__class__") 365] }
noncomputable def o141 : Obj := { cls := Value.type "tuple", data := Data.seq #[Value.str (Str.ofString "self") 366] }
noncomputable def o142 : Obj := { cls := Value.type "tuple", data := Data.seq #[] }
noncomputable def o144 : Obj := { cls := Value.type "code", data := Data.fields #[Value.str (Str.ofString "pop") 362, Value.str (Str.ofString "_Accumulator.pop") 363, Value.str (Str.ofString "/claim/cut.py") 364, Value.int 101 0, Value.int 1 0, Value.int 0 0, Value.int 0 0, Value.int 3 0, Value.ref 139, Value.bool true, Value.int 181 0, Value.ref 140, Value.none, Value.ref 141, Value.ref 142, Value.ref 143, Value.int 367 0, Value.int 101 0, Value.str (Str.ofString "/claim/cut.py") 368] }
noncomputable def p145 : Arguments := pick _ (show psOf (inAt 8 3) = _ by conv => lhs; whnf)
noncomputable def b145 : List Stmt := pick _ (show bdOf (inAt 8 3) = _ by conv => lhs; whnf)
noncomputable def s145 : Scope := pick _ (show scOf (inAt 8 3) = _ by conv => lhs; whnf)
noncomputable def o145 : Obj := pick _ (show ({ cls := Value.type "function", dict := none, data := .func { name := Str.ofString "pop", qualname := Str.ofString "_Accumulator.pop", params := p145, body := .stmts b145, scope := s145, globals := 3, closure := [(Str.ofString "__class__", 109)], defaults := Value.none, kwdefaults := Value.none, doc := Value.none, pyModule := Value.str (Str.ofString "cpy313.email.header") 207, annotations := none, code := Value.ref 144, closureTuple := Value.ref 138, builtins := 0 }, slots := #[] } : Obj) = _ by dsimp only [p145, b145, s145, pick])
noncomputable def o146 : Obj := { cls := Value.type "tuple", data := Data.seq #[] }
noncomputable def o148 : Obj := { cls := Value.type "tuple", data := Data.seq #[Value.str (Str.ofString "self") 373] }
noncomputable def o149 : Obj := { cls := Value.type "tuple", data := Data.seq #[] }
noncomputable def o151 : Obj := { cls := Value.type "code", data := Data.fields #[Value.str (Str.ofString "__len__") 370, Value.str (Str.ofString "_Accumulator.__len__") 371, Value.str (Str.ofString "/claim/cut.py") 372, Value.int 106 0, Value.int 1 0, Value.int 0 0, Value.int 0 0, Value.int 3 0, Value.ref 146, Value.bool true, Value.int 181 0, Value.ref 147, Value.none, Value.ref 148, Value.ref 149, Value.ref 150, Value.int 374 0, Value.int 106 0, Value.str (Str.ofString "/claim/cut.py") 375] }
noncomputable def p152 : Arguments := pick _ (show psOf (inAt 8 4) = _ by conv => lhs; whnf)
noncomputable def b152 : List Stmt := pick _ (show bdOf (inAt 8 4) = _ by conv => lhs; whnf)
noncomputable def s152 : Scope := pick _ (show scOf (inAt 8 4) = _ by conv => lhs; whnf)
noncomputable def o152 : Obj := pick _ (show ({ cls := Value.type "function", dict := none, data := .func { name := Str.ofString "__len__", qualname := Str.ofString "_Accumulator.__len__", params := p152, body := .stmts b152, scope := s152, globals := 3, closure := [], defaults := Value.none, kwdefaults := Value.none, doc := Value.none, pyModule := Value.str (Str.ofString "cpy313.email.header") 207, annotations := none, code := Value.ref 151, closureTuple := Value.none, builtins := 0 }, slots := #[] } : Obj) = _ by dsimp only [p152, b152, s152, pick])
noncomputable def o153 : Obj := { cls := Value.type "tuple", data := Data.seq #[] }
noncomputable def o155 : Obj := { cls := Value.type "tuple", data := Data.seq #[Value.str (Str.ofString "self") 380] }
noncomputable def o156 : Obj := { cls := Value.type "tuple", data := Data.seq #[] }
noncomputable def o158 : Obj := { cls := Value.type "code", data := Data.fields #[Value.str (Str.ofString "__str__") 377, Value.str (Str.ofString "_Accumulator.__str__") 378, Value.str (Str.ofString "/claim/cut.py") 379, Value.int 109 0, Value.int 1 0, Value.int 0 0, Value.int 0 0, Value.int 3 0, Value.ref 153, Value.bool true, Value.int 181 0, Value.ref 154, Value.none, Value.ref 155, Value.ref 156, Value.ref 157, Value.int 381 0, Value.int 109 0, Value.str (Str.ofString "/claim/cut.py") 382] }
noncomputable def p159 : Arguments := pick _ (show psOf (inAt 8 5) = _ by conv => lhs; whnf)
noncomputable def b159 : List Stmt := pick _ (show bdOf (inAt 8 5) = _ by conv => lhs; whnf)
noncomputable def s159 : Scope := pick _ (show scOf (inAt 8 5) = _ by conv => lhs; whnf)
noncomputable def o159 : Obj := pick _ (show ({ cls := Value.type "function", dict := none, data := .func { name := Str.ofString "__str__", qualname := Str.ofString "_Accumulator.__str__", params := p159, body := .stmts b159, scope := s159, globals := 3, closure := [], defaults := Value.none, kwdefaults := Value.none, doc := Value.none, pyModule := Value.str (Str.ofString "cpy313.email.header") 207, annotations := none, code := Value.ref 158, closureTuple := Value.none, builtins := 0 }, slots := #[] } : Obj) = _ by dsimp only [p159, b159, s159, pick])
noncomputable def o160 : Obj := { cls := Value.type "tuple", data := Data.seq #[Value.none] }
noncomputable def o161 : Obj := { cls := Value.type "tuple", data := Data.seq #[] }
noncomputable def o163 : Obj := { cls := Value.type "tuple", data := Data.seq #[Value.str (Str.ofString "self") 387, Value.str (Str.ofString "startval") 388] }
noncomputable def o164 : Obj := { cls := Value.type "tuple", data := Data.seq #[] }
noncomputable def o166 : Obj := { cls := Value.type "code", data := Data.fields #[Value.str (Str.ofString "reset") 384, Value.str (Str.ofString "_Accumulator.reset") 385, Value.str (Str.ofString "/claim/cut.py") 386, Value.int 112 0, Value.int 2 0, Value.int 0 0, Value.int 0 0, Value.int 3 0, Value.ref 161, Value.bool true, Value.int 181 0, Value.ref 162, Value.none, Value.ref 163, Value.ref 164, Value.ref 165, Value.int 389 0, Value.int 112 0, Value.str (Str.ofString "/claim/cut.py") 390] }
noncomputable def p167 : Arguments := pick _ (show psOf (inAt 8 6) = _ by conv => lhs; whnf)
noncomputable def b167 : List Stmt := pick _ (show bdOf (inAt 8 6) = _ by conv => lhs; whnf)
noncomputable def s167 : Scope := pick _ (show scOf (inAt 8 6) = _ by conv => lhs; whnf)
noncomputable def o167 : Obj := pick _ (show ({ cls := Value.type "function", dict := none, data := .func { name := Str.ofString "reset", qualname := Str.ofString "_Accumulator.reset", params := p167, body := .stmts b167, scope := s167, globals := 3, closure := [], defaults := Value.ref 160, kwdefaults := Value.none, doc := Value.none, pyModule := Value.str (Str.ofString "cpy313.email.header") 207, annotations := none, code := Value.ref 166, closureTuple := Value.none, builtins := 0 }, slots := #[] } : Obj) = _ by dsimp only [p167, b167, s167, pick])
noncomputable def o168 : Obj := { cls := Value.type "tuple", data := Data.seq #[] }
noncomputable def o170 : Obj := { cls := Value.type "tuple", data := Data.seq #[Value.str (Str.ofString "self") 395] }
noncomputable def o171 : Obj := { cls := Value.type "tuple", data := Data.seq #[] }
noncomputable def o173 : Obj := { cls := Value.type "code", data := Data.fields #[Value.str (Str.ofString "is_onlyws") 392, Value.str (Str.ofString "_Accumulator.is_onlyws") 393, Value.str (Str.ofString "/claim/cut.py") 394, Value.int 118 0, Value.int 1 0, Value.int 0 0, Value.int 0 0, Value.int 3 0, Value.ref 168, Value.bool true, Value.int 181 0, Value.ref 169, Value.none, Value.ref 170, Value.ref 171, Value.ref 172, Value.int 396 0, Value.int 118 0, Value.str (Str.ofString "/claim/cut.py") 397] }
noncomputable def p174 : Arguments := pick _ (show psOf (inAt 8 7) = _ by conv => lhs; whnf)
noncomputable def b174 : List Stmt := pick _ (show bdOf (inAt 8 7) = _ by conv => lhs; whnf)
noncomputable def s174 : Scope := pick _ (show scOf (inAt 8 7) = _ by conv => lhs; whnf)
noncomputable def o174 : Obj := pick _ (show ({ cls := Value.type "function", dict := none, data := .func { name := Str.ofString "is_onlyws", qualname := Str.ofString "_Accumulator.is_onlyws", params := p174, body := .stmts b174, scope := s174, globals := 3, closure := [], defaults := Value.none, kwdefaults := Value.none, doc := Value.none, pyModule := Value.str (Str.ofString "cpy313.email.header") 207, annotations := none, code := Value.ref 173, closureTuple := Value.none, builtins := 0 }, slots := #[] } : Obj) = _ by dsimp only [p174, b174, s174, pick])
noncomputable def o175 : Obj := { cls := Value.type "tuple", data := Data.seq #[Value.ref 109] }
noncomputable def o176 : Obj := { cls := Value.type "tuple", data := Data.seq #[Value.str (Str.ofString "__class__") 402] }
noncomputable def o178 : Obj := { cls := Value.type "tuple", data := Data.seq #[Value.str (Str.ofString "self") 403] }
noncomputable def o179 : Obj := { cls := Value.type "tuple", data := Data.seq #[] }
noncomputable def o181 : Obj := { cls := Value.type "code", data := Data.fields #[Value.str (Str.ofString "part_count") 399, Value.str (Str.ofString "_Accumulator.part_count") 400, Value.str (Str.ofString "/claim/cut.py") 401, Value.int 121 0, Value.int 1 0, Value.int 0 0, Value.int 0 0, Value.int 3 0, Value.ref 176, Value.bool true, Value.int 181 0, Value.ref 177, Value.none, Value.ref 178, Value.ref 179, Value.ref 180, Value.int 404 0, Value.int 121 0, Value.str (Str.ofString "/claim/cut.py") 405] }
noncomputable def p182 : Arguments := pick _ (show psOf (inAt 8 8) = _ by conv => lhs; whnf)
noncomputable def b182 : List Stmt := pick _ (show bdOf (inAt 8 8) = _ by conv => lhs; whnf)
noncomputable def s182 : Scope := pick _ (show scOf (inAt 8 8) = _ by conv => lhs; whnf)
noncomputable def o182 : Obj := pick _ (show ({ cls := Value.type "function", dict := none, data := .func { name := Str.ofString "part_count", qualname := Str.ofString "_Accumulator.part_count", params := p182, body := .stmts b182, scope := s182, globals := 3, closure := [(Str.ofString "__class__", 109)], defaults := Value.none, kwdefaults := Value.none, doc := Value.none, pyModule := Value.str (Str.ofString "cpy313.email.header") 207, annotations := none, code := Value.ref 181, closureTuple := Value.ref 175, builtins := 0 }, slots := #[] } : Obj) = _ by dsimp only [p182, b182, s182, pick])
noncomputable def o183 : Obj := { cls := Value.type "tuple", data := Data.seq #[Value.str (Str.ofString "_initial_size") 407] }
noncomputable def o184 (P : Params) : Obj := { cls := Value.type "dict", data := Data.dict #[{ hash := PyData.keyHash P (Str.ofString "__module__"), key := Value.str (Str.ofString "__module__") 328, val := Value.str (Str.ofString "cpy313.email.header") 207 }, { hash := PyData.keyHash P (Str.ofString "__firstlineno__"), key := Value.str (Str.ofString "__firstlineno__") 332, val := Value.int 87 331 }, { hash := PyData.keyHash P (Str.ofString "__init__"), key := Value.str (Str.ofString "__init__") 342, val := Value.ref 122 }, { hash := PyData.keyHash P (Str.ofString "push"), key := Value.str (Str.ofString "push") 351, val := Value.ref 129 }, { hash := PyData.keyHash P (Str.ofString "pop_from"), key := Value.str (Str.ofString "pop_from") 361, val := Value.ref 137 }, { hash := PyData.keyHash P (Str.ofString "pop"), key := Value.str (Str.ofString "pop") 369, val := Value.ref 145 }, { hash := PyData.keyHash P (Str.ofString "__len__"), key := Value.str (Str.ofString "__len__") 376, val := Value.ref 152 }, { hash := PyData.keyHash P (Str.ofString "__str__"), key := Value.str (Str.ofString "__str__") 383, val := Value.ref 159 }, { hash := PyData.keyHash P (Str.ofString "reset"), key := Value.str (Str.ofString "reset") 391, val := Value.ref 167 }, { hash := PyData.keyHash P (Str.ofString "is_onlyws"), key := Value.str (Str.ofString "is_onlyws") 398, val := Value.ref 174 }, { hash := PyData.keyHash P (Str.ofString "part_count"), key := Value.str (Str.ofString "part_count") 406, val := Value.ref 182 }, { hash := PyData.keyHash P (Str.ofString "__static_attributes__"), key := Value.str (Str.ofString "__static_attributes__") 408, val := Value.ref 183 }, { hash := PyData.keyHash P (Str.ofString "__dict__"), key := Value.str (Str.ofString "__dict__") 411, val := Value.ref 186 }, { hash := PyData.keyHash P (Str.ofString "__weakref__"), key := Value.str (Str.ofString "__weakref__") 413, val := Value.ref 187 }, { hash := PyData.keyHash P (Str.ofString "__doc__"), key := Value.str (Str.ofString "__doc__") 414, val := Value.none }] 5 }
noncomputable def o185 : Obj := { cls := Value.type "type", data := Data.cls { name := Str.ofString "_Accumulator", bases := [Value.type "list"], mro := [Value.ref 185, Value.type "list", Value.type "object"], ns := 184, qualname := Str.ofString "_Accumulator" }, slots := #[some (Value.ref 106), none, some (Value.str (Str.ofString "_Accumulator") 321), some (Value.str (Str.ofString "_Accumulator") 329), some (Value.builtin "list.__new__"), some (Value.bool true)] }
noncomputable def o186 : Obj := { cls := Value.type "getset_descriptor", data := Data.fields #[Value.str (Str.ofString "__dict__") 410, Value.ref 185, Value.builtin "function.__dict__", Value.builtin "function.__dict__#set"] }
noncomputable def o187 : Obj := { cls := Value.type "getset_descriptor", data := Data.fields #[Value.str (Str.ofString "__weakref__") 412, Value.ref 185, Value.builtin "ExceptionGroup.__weakref__", Value.none] }
noncomputable def o197 : Obj := { cls := Value.type "tuple", data := Data.seq #[Value.none] }
noncomputable def o198 : Obj := { cls := Value.type "tuple", data := Data.seq #[] }
noncomputable def o200 : Obj := { cls := Value.type "tuple", data := Data.seq #[Value.str (Str.ofString "self") 434, Value.str (Str.ofString "text_or_uri") 435, Value.str (Str.ofString "tag") 436] }
noncomputable def o201 : Obj := { cls := Value.type "tuple", data := Data.seq #[] }
noncomputable def o203 : Obj := { cls := Value.type "code", data := Data.fields #[Value.str (Str.ofString "__init__") 431, Value.str (Str.ofString "QName.__init__") 432, Value.str (Str.ofString "/claim/cut.py") 433, Value.int 126 0, Value.int 3 0, Value.int 0 0, Value.int 0 0, Value.int 3 0, Value.ref 198, Value.bool true, Value.int 181 0, Value.ref 199, Value.none, Value.ref 200, Value.ref 201, Value.ref 202, Value.int 437 0, Value.int 126 0, Value.str (Str.ofString "/claim/cut.py") 438] }
noncomputable def p204 : Arguments := pick _ (show psOf (inAt 10 0) = _ by conv => lhs; whnf)
noncomputable def b204 : List Stmt := pick _ (show bdOf (inAt 10 0) = _ by conv => lhs; whnf)
noncomputable def s204 : Scope := pick _ (show scOf (inAt 10 0) = _ by conv => lhs; whnf)
noncomputable def o204 : Obj := pick _ (show ({ cls := Value.type "function", dict := none, data := .func { name := Str.ofString "__init__", qualname := Str.ofString "QName.__init__", params := p204, body := .stmts b204, scope := s204, globals := 3, closure := [], defaults := Value.ref 197, kwdefaults := Value.none, doc := Value.none, pyModule := Value.str (Str.ofString "cpy313.xml.etree.ElementTree") 417, annotations := none, code := Value.ref 203, closureTuple := Value.none, builtins := 0 }, slots := #[] } : Obj) = _ by dsimp only [p204, b204, s204, pick])
noncomputable def o205 : Obj := { cls := Value.type "tuple", data := Data.seq #[] }
noncomputable def o207 : Obj := { cls := Value.type "tuple", data := Data.seq #[Value.str (Str.ofString "self") 443] }
noncomputable def o208 : Obj := { cls := Value.type "tuple", data := Data.seq #[] }
noncomputable def o210 : Obj := { cls := Value.type "code", data := Data.fields #[Value.str (Str.ofString "__str__") 440, Value.str (Str.ofString "QName.__str__") 441, Value.str (Str.ofString "/claim/cut.py") 442, Value.int 131 0, Value.int 1 0, Value.int 0 0, Value.int 0 0, Value.int 3 0, Value.ref 205, Value.bool true, Value.int 181 0, Value.ref 206, Value.none, Value.ref 207, Value.ref 208, Value.ref 209, Value.int 444 0, Value.int 131 0, Value.str (Str.ofString "/claim/cut.py") 445] }
noncomputable def p211 : Arguments := pick _ (show psOf (inAt 10 1) = _ by conv => lhs; whnf)
noncomputable def b211 : List Stmt := pick _ (show bdOf (inAt 10 1) = _ by conv => lhs; whnf)
noncomputable def s211 : Scope := pick _ (show scOf (inAt 10 1) = _ by conv => lhs; whnf)
noncomputable def o211 : Obj := pick _ (show ({ cls := Value.type "function", dict := none, data := .func { name := Str.ofString "__str__", qualname := Str.ofString "QName.__str__", params := p211, body := .stmts b211, scope := s211, globals := 3, closure := [], defaults := Value.none, kwdefaults := Value.none, doc := Value.none, pyModule := Value.str (Str.ofString "cpy313.xml.etree.ElementTree") 417, annotations := none, code := Value.ref 210, closureTuple := Value.none, builtins := 0 }, slots := #[] } : Obj) = _ by dsimp only [p211, b211, s211, pick])
noncomputable def o212 : Obj := { cls := Value.type "tuple", data := Data.seq #[] }
noncomputable def o214 : Obj := { cls := Value.type "tuple", data := Data.seq #[Value.str (Str.ofString "self") 450] }
noncomputable def o215 : Obj := { cls := Value.type "tuple", data := Data.seq #[] }
noncomputable def o217 : Obj := { cls := Value.type "code", data := Data.fields #[Value.str (Str.ofString "__repr__") 447, Value.str (Str.ofString "QName.__repr__") 448, Value.str (Str.ofString "/claim/cut.py") 449, Value.int 134 0, Value.int 1 0, Value.int 0 0, Value.int 0 0, Value.int 3 0, Value.ref 212, Value.bool true, Value.int 181 0, Value.ref 213, Value.none, Value.ref 214, Value.ref 215, Value.ref 216, Value.int 451 0, Value.int 134 0, Value.str (Str.ofString "/claim/cut.py") 452] }
noncomputable def p218 : Arguments := pick _ (show psOf (inAt 10 2) = _ by conv => lhs; whnf)
noncomputable def b218 : List Stmt := pick _ (show bdOf (inAt 10 2) = _ by conv => lhs; whnf)
noncomputable def s218 : Scope := pick _ (show scOf (inAt 10 2) = _ by conv => lhs; whnf)
noncomputable def o218 : Obj := pick _ (show ({ cls := Value.type "function", dict := none, data := .func { name := Str.ofString "__repr__", qualname := Str.ofString "QName.__repr__", params := p218, body := .stmts b218, scope := s218, globals := 3, closure := [], defaults := Value.none, kwdefaults := Value.none, doc := Value.none, pyModule := Value.str (Str.ofString "cpy313.xml.etree.ElementTree") 417, annotations := none, code := Value.ref 217, closureTuple := Value.none, builtins := 0 }, slots := #[] } : Obj) = _ by dsimp only [p218, b218, s218, pick])
noncomputable def o219 : Obj := { cls := Value.type "tuple", data := Data.seq #[] }
noncomputable def o221 : Obj := { cls := Value.type "tuple", data := Data.seq #[Value.str (Str.ofString "self") 457] }
noncomputable def o222 : Obj := { cls := Value.type "tuple", data := Data.seq #[] }
noncomputable def o224 : Obj := { cls := Value.type "code", data := Data.fields #[Value.str (Str.ofString "__hash__") 454, Value.str (Str.ofString "QName.__hash__") 455, Value.str (Str.ofString "/claim/cut.py") 456, Value.int 137 0, Value.int 1 0, Value.int 0 0, Value.int 0 0, Value.int 3 0, Value.ref 219, Value.bool true, Value.int 181 0, Value.ref 220, Value.none, Value.ref 221, Value.ref 222, Value.ref 223, Value.int 458 0, Value.int 137 0, Value.str (Str.ofString "/claim/cut.py") 459] }
noncomputable def p225 : Arguments := pick _ (show psOf (inAt 10 3) = _ by conv => lhs; whnf)
noncomputable def b225 : List Stmt := pick _ (show bdOf (inAt 10 3) = _ by conv => lhs; whnf)
noncomputable def s225 : Scope := pick _ (show scOf (inAt 10 3) = _ by conv => lhs; whnf)
noncomputable def o225 : Obj := pick _ (show ({ cls := Value.type "function", dict := none, data := .func { name := Str.ofString "__hash__", qualname := Str.ofString "QName.__hash__", params := p225, body := .stmts b225, scope := s225, globals := 3, closure := [], defaults := Value.none, kwdefaults := Value.none, doc := Value.none, pyModule := Value.str (Str.ofString "cpy313.xml.etree.ElementTree") 417, annotations := none, code := Value.ref 224, closureTuple := Value.none, builtins := 0 }, slots := #[] } : Obj) = _ by dsimp only [p225, b225, s225, pick])
noncomputable def o226 : Obj := { cls := Value.type "tuple", data := Data.seq #[] }
noncomputable def o228 : Obj := { cls := Value.type "tuple", data := Data.seq #[Value.str (Str.ofString "self") 464, Value.str (Str.ofString "other") 465] }
noncomputable def o229 : Obj := { cls := Value.type "tuple", data := Data.seq #[] }
noncomputable def o231 : Obj := { cls := Value.type "code", data := Data.fields #[Value.str (Str.ofString "__le__") 461, Value.str (Str.ofString "QName.__le__") 462, Value.str (Str.ofString "/claim/cut.py") 463, Value.int 140 0, Value.int 2 0, Value.int 0 0, Value.int 0 0, Value.int 3 0, Value.ref 226, Value.bool true, Value.int 181 0, Value.ref 227, Value.none, Value.ref 228, Value.ref 229, Value.ref 230, Value.int 466 0, Value.int 140 0, Value.str (Str.ofString "/claim/cut.py") 467] }
noncomputable def p232 : Arguments := pick _ (show psOf (inAt 10 4) = _ by conv => lhs; whnf)
noncomputable def b232 : List Stmt := pick _ (show bdOf (inAt 10 4) = _ by conv => lhs; whnf)
noncomputable def s232 : Scope := pick _ (show scOf (inAt 10 4) = _ by conv => lhs; whnf)
noncomputable def o232 : Obj := pick _ (show ({ cls := Value.type "function", dict := none, data := .func { name := Str.ofString "__le__", qualname := Str.ofString "QName.__le__", params := p232, body := .stmts b232, scope := s232, globals := 3, closure := [], defaults := Value.none, kwdefaults := Value.none, doc := Value.none, pyModule := Value.str (Str.ofString "cpy313.xml.etree.ElementTree") 417, annotations := none, code := Value.ref 231, closureTuple := Value.none, builtins := 0 }, slots := #[] } : Obj) = _ by dsimp only [p232, b232, s232, pick])
noncomputable def o233 : Obj := { cls := Value.type "tuple", data := Data.seq #[] }
noncomputable def o235 : Obj := { cls := Value.type "tuple", data := Data.seq #[Value.str (Str.ofString "self") 472, Value.str (Str.ofString "other") 473] }
noncomputable def o236 : Obj := { cls := Value.type "tuple", data := Data.seq #[] }
noncomputable def o238 : Obj := { cls := Value.type "code", data := Data.fields #[Value.str (Str.ofString "__lt__") 469, Value.str (Str.ofString "QName.__lt__") 470, Value.str (Str.ofString "/claim/cut.py") 471, Value.int 145 0, Value.int 2 0, Value.int 0 0, Value.int 0 0, Value.int 3 0, Value.ref 233, Value.bool true, Value.int 181 0, Value.ref 234, Value.none, Value.ref 235, Value.ref 236, Value.ref 237, Value.int 474 0, Value.int 145 0, Value.str (Str.ofString "/claim/cut.py") 475] }
noncomputable def p239 : Arguments := pick _ (show psOf (inAt 10 5) = _ by conv => lhs; whnf)
noncomputable def b239 : List Stmt := pick _ (show bdOf (inAt 10 5) = _ by conv => lhs; whnf)
noncomputable def s239 : Scope := pick _ (show scOf (inAt 10 5) = _ by conv => lhs; whnf)
noncomputable def o239 : Obj := pick _ (show ({ cls := Value.type "function", dict := none, data := .func { name := Str.ofString "__lt__", qualname := Str.ofString "QName.__lt__", params := p239, body := .stmts b239, scope := s239, globals := 3, closure := [], defaults := Value.none, kwdefaults := Value.none, doc := Value.none, pyModule := Value.str (Str.ofString "cpy313.xml.etree.ElementTree") 417, annotations := none, code := Value.ref 238, closureTuple := Value.none, builtins := 0 }, slots := #[] } : Obj) = _ by dsimp only [p239, b239, s239, pick])
noncomputable def o240 : Obj := { cls := Value.type "tuple", data := Data.seq #[] }
noncomputable def o242 : Obj := { cls := Value.type "tuple", data := Data.seq #[Value.str (Str.ofString "self") 480, Value.str (Str.ofString "other") 481] }
noncomputable def o243 : Obj := { cls := Value.type "tuple", data := Data.seq #[] }
noncomputable def o245 : Obj := { cls := Value.type "code", data := Data.fields #[Value.str (Str.ofString "__ge__") 477, Value.str (Str.ofString "QName.__ge__") 478, Value.str (Str.ofString "/claim/cut.py") 479, Value.int 150 0, Value.int 2 0, Value.int 0 0, Value.int 0 0, Value.int 3 0, Value.ref 240, Value.bool true, Value.int 181 0, Value.ref 241, Value.none, Value.ref 242, Value.ref 243, Value.ref 244, Value.int 482 0, Value.int 150 0, Value.str (Str.ofString "/claim/cut.py") 483] }
noncomputable def p246 : Arguments := pick _ (show psOf (inAt 10 6) = _ by conv => lhs; whnf)
noncomputable def b246 : List Stmt := pick _ (show bdOf (inAt 10 6) = _ by conv => lhs; whnf)
noncomputable def s246 : Scope := pick _ (show scOf (inAt 10 6) = _ by conv => lhs; whnf)
noncomputable def o246 : Obj := pick _ (show ({ cls := Value.type "function", dict := none, data := .func { name := Str.ofString "__ge__", qualname := Str.ofString "QName.__ge__", params := p246, body := .stmts b246, scope := s246, globals := 3, closure := [], defaults := Value.none, kwdefaults := Value.none, doc := Value.none, pyModule := Value.str (Str.ofString "cpy313.xml.etree.ElementTree") 417, annotations := none, code := Value.ref 245, closureTuple := Value.none, builtins := 0 }, slots := #[] } : Obj) = _ by dsimp only [p246, b246, s246, pick])
noncomputable def o247 : Obj := { cls := Value.type "tuple", data := Data.seq #[] }
noncomputable def o249 : Obj := { cls := Value.type "tuple", data := Data.seq #[Value.str (Str.ofString "self") 488, Value.str (Str.ofString "other") 489] }
noncomputable def o250 : Obj := { cls := Value.type "tuple", data := Data.seq #[] }
noncomputable def o252 : Obj := { cls := Value.type "code", data := Data.fields #[Value.str (Str.ofString "__gt__") 485, Value.str (Str.ofString "QName.__gt__") 486, Value.str (Str.ofString "/claim/cut.py") 487, Value.int 155 0, Value.int 2 0, Value.int 0 0, Value.int 0 0, Value.int 3 0, Value.ref 247, Value.bool true, Value.int 181 0, Value.ref 248, Value.none, Value.ref 249, Value.ref 250, Value.ref 251, Value.int 490 0, Value.int 155 0, Value.str (Str.ofString "/claim/cut.py") 491] }
noncomputable def p253 : Arguments := pick _ (show psOf (inAt 10 7) = _ by conv => lhs; whnf)
noncomputable def b253 : List Stmt := pick _ (show bdOf (inAt 10 7) = _ by conv => lhs; whnf)
noncomputable def s253 : Scope := pick _ (show scOf (inAt 10 7) = _ by conv => lhs; whnf)
noncomputable def o253 : Obj := pick _ (show ({ cls := Value.type "function", dict := none, data := .func { name := Str.ofString "__gt__", qualname := Str.ofString "QName.__gt__", params := p253, body := .stmts b253, scope := s253, globals := 3, closure := [], defaults := Value.none, kwdefaults := Value.none, doc := Value.none, pyModule := Value.str (Str.ofString "cpy313.xml.etree.ElementTree") 417, annotations := none, code := Value.ref 252, closureTuple := Value.none, builtins := 0 }, slots := #[] } : Obj) = _ by dsimp only [p253, b253, s253, pick])
noncomputable def o254 : Obj := { cls := Value.type "tuple", data := Data.seq #[] }
noncomputable def o256 : Obj := { cls := Value.type "tuple", data := Data.seq #[Value.str (Str.ofString "self") 496, Value.str (Str.ofString "other") 497] }
noncomputable def o257 : Obj := { cls := Value.type "tuple", data := Data.seq #[] }
noncomputable def o259 : Obj := { cls := Value.type "code", data := Data.fields #[Value.str (Str.ofString "__eq__") 493, Value.str (Str.ofString "QName.__eq__") 494, Value.str (Str.ofString "/claim/cut.py") 495, Value.int 160 0, Value.int 2 0, Value.int 0 0, Value.int 0 0, Value.int 3 0, Value.ref 254, Value.bool true, Value.int 181 0, Value.ref 255, Value.none, Value.ref 256, Value.ref 257, Value.ref 258, Value.int 498 0, Value.int 160 0, Value.str (Str.ofString "/claim/cut.py") 499] }
noncomputable def p260 : Arguments := pick _ (show psOf (inAt 10 8) = _ by conv => lhs; whnf)
noncomputable def b260 : List Stmt := pick _ (show bdOf (inAt 10 8) = _ by conv => lhs; whnf)
noncomputable def s260 : Scope := pick _ (show scOf (inAt 10 8) = _ by conv => lhs; whnf)
noncomputable def o260 : Obj := pick _ (show ({ cls := Value.type "function", dict := none, data := .func { name := Str.ofString "__eq__", qualname := Str.ofString "QName.__eq__", params := p260, body := .stmts b260, scope := s260, globals := 3, closure := [], defaults := Value.none, kwdefaults := Value.none, doc := Value.none, pyModule := Value.str (Str.ofString "cpy313.xml.etree.ElementTree") 417, annotations := none, code := Value.ref 259, closureTuple := Value.none, builtins := 0 }, slots := #[] } : Obj) = _ by dsimp only [p260, b260, s260, pick])
noncomputable def o261 : Obj := { cls := Value.type "tuple", data := Data.seq #[Value.str (Str.ofString "text") 501] }
noncomputable def o262 (P : Params) : Obj := { cls := Value.type "dict", data := Data.dict #[{ hash := PyData.keyHash P (Str.ofString "__module__"), key := Value.str (Str.ofString "__module__") 426, val := Value.str (Str.ofString "cpy313.xml.etree.ElementTree") 417 }, { hash := PyData.keyHash P (Str.ofString "__firstlineno__"), key := Value.str (Str.ofString "__firstlineno__") 430, val := Value.int 124 429 }, { hash := PyData.keyHash P (Str.ofString "__init__"), key := Value.str (Str.ofString "__init__") 439, val := Value.ref 204 }, { hash := PyData.keyHash P (Str.ofString "__str__"), key := Value.str (Str.ofString "__str__") 446, val := Value.ref 211 }, { hash := PyData.keyHash P (Str.ofString "__repr__"), key := Value.str (Str.ofString "__repr__") 453, val := Value.ref 218 }, { hash := PyData.keyHash P (Str.ofString "__hash__"), key := Value.str (Str.ofString "__hash__") 460, val := Value.ref 225 }, { hash := PyData.keyHash P (Str.ofString "__le__"), key := Value.str (Str.ofString "__le__") 468, val := Value.ref 232 }, { hash := PyData.keyHash P (Str.ofString "__lt__"), key := Value.str (Str.ofString "__lt__") 476, val := Value.ref 239 }, { hash := PyData.keyHash P (Str.ofString "__ge__"), key := Value.str (Str.ofString "__ge__") 484, val := Value.ref 246 }, { hash := PyData.keyHash P (Str.ofString "__gt__"), key := Value.str (Str.ofString "__gt__") 492, val := Value.ref 253 }, { hash := PyData.keyHash P (Str.ofString "__eq__"), key := Value.str (Str.ofString "__eq__") 500, val := Value.ref 260 }, { hash := PyData.keyHash P (Str.ofString "__static_attributes__"), key := Value.str (Str.ofString "__static_attributes__") 502, val := Value.ref 261 }, { hash := PyData.keyHash P (Str.ofString "__dict__"), key := Value.str (Str.ofString "__dict__") 504, val := Value.ref 264 }, { hash := PyData.keyHash P (Str.ofString "__weakref__"), key := Value.str (Str.ofString "__weakref__") 506, val := Value.ref 265 }, { hash := PyData.keyHash P (Str.ofString "__doc__"), key := Value.str (Str.ofString "__doc__") 507, val := Value.none }] 4 }
noncomputable def o263 : Obj := { cls := Value.type "type", data := Data.cls { name := Str.ofString "QName", bases := [Value.type "object"], mro := [Value.ref 263, Value.type "object"], ns := 262, qualname := Str.ofString "QName" }, slots := #[none, none, some (Value.str (Str.ofString "QName") 419), some (Value.str (Str.ofString "QName") 427), some (Value.builtin "object.__new__"), some (Value.bool true)] }
noncomputable def o264 : Obj := { cls := Value.type "getset_descriptor", data := Data.fields #[Value.str (Str.ofString "__dict__") 503, Value.ref 263, Value.builtin "function.__dict__", Value.builtin "function.__dict__#set"] }
noncomputable def o265 : Obj := { cls := Value.type "getset_descriptor", data := Data.fields #[Value.str (Str.ofString "__weakref__") 505, Value.ref 263, Value.builtin "ExceptionGroup.__weakref__", Value.none] }
noncomputable def o268 : Obj := { cls := Value.type "tuple", data := Data.seq #[] }
noncomputable def o270 : Obj := { cls := Value.type "tuple", data := Data.seq #[Value.str (Str.ofString "number") 515, Value.str (Str.ofString "count") 516] }
noncomputable def o271 : Obj := { cls := Value.type "tuple", data := Data.seq #[] }
noncomputable def o273 : Obj := { cls := Value.type "code", data := Data.fields #[Value.str (Str.ofString "_law_figures") 512, Value.str (Str.ofString "_law_figures") 513, Value.str (Str.ofString "/claim/cut.py") 514, Value.int 165 0, Value.int 1 0, Value.int 0 0, Value.int 0 0, Value.int 3 0, Value.ref 268, Value.bool true, Value.int 181 0, Value.ref 269, Value.none, Value.ref 270, Value.ref 271, Value.ref 272, Value.int 517 0, Value.int 165 0, Value.str (Str.ofString "/claim/cut.py") 518] }
noncomputable def p274 : Arguments := pick _ (show psOf (topAt 12) = _ by conv => lhs; whnf)
noncomputable def b274 : List Stmt := pick _ (show bdOf (topAt 12) = _ by conv => lhs; whnf)
noncomputable def s274 : Scope := pick _ (show scOf (topAt 12) = _ by conv => lhs; whnf)
noncomputable def o274 : Obj := pick _ (show ({ cls := Value.type "function", dict := none, data := .func { name := Str.ofString "_law_figures", qualname := Str.ofString "_law_figures", params := p274, body := .stmts b274, scope := s274, globals := 3, closure := [], defaults := Value.none, kwdefaults := Value.none, doc := Value.none, pyModule := Value.str (Str.ofString "law_yh0022_01") 510, annotations := none, code := Value.ref 273, closureTuple := Value.none, builtins := 0 }, slots := #[] } : Obj) = _ by dsimp only [p274, b274, s274, pick])
noncomputable def o275 : Obj := { cls := Value.type "tuple", data := Data.seq #[] }
noncomputable def o277 : Obj := { cls := Value.type "tuple", data := Data.seq #[Value.str (Str.ofString "left") 523, Value.str (Str.ofString "right") 524, Value.str (Str.ofString "product") 525, Value.str (Str.ofString "width") 526, Value.str (Str.ofString "word") 527, Value.str (Str.ofString "third") 528, Value.str (Str.ofString "told") 529, Value.str (Str.ofString "factor") 530, Value.str (Str.ofString "named") 531, Value.str (Str.ofString "less") 532, Value.str (Str.ofString "more") 533, Value.str (Str.ofString "fell") 534, Value.str (Str.ofString "name") 535, Value.str (Str.ofString "value") 536, Value.str (Str.ofString "room") 537, Value.str (Str.ofString "formatter") 538] }
noncomputable def o278 : Obj := { cls := Value.type "tuple", data := Data.seq #[] }
noncomputable def o280 : Obj := { cls := Value.type "code", data := Data.fields #[Value.str (Str.ofString "_law_fall") 520, Value.str (Str.ofString "_law_fall") 521, Value.str (Str.ofString "/claim/cut.py") 522, Value.int 171 0, Value.int 2 0, Value.int 0 0, Value.int 0 0, Value.int 3 0, Value.ref 275, Value.bool true, Value.int 181 0, Value.ref 276, Value.none, Value.ref 277, Value.ref 278, Value.ref 279, Value.int 539 0, Value.int 171 0, Value.str (Str.ofString "/claim/cut.py") 540] }
noncomputable def p281 : Arguments := pick _ (show psOf (topAt 13) = _ by conv => lhs; whnf)
noncomputable def b281 : List Stmt := pick _ (show bdOf (topAt 13) = _ by conv => lhs; whnf)
noncomputable def s281 : Scope := pick _ (show scOf (topAt 13) = _ by conv => lhs; whnf)
noncomputable def o281 : Obj := pick _ (show ({ cls := Value.type "function", dict := none, data := .func { name := Str.ofString "_law_fall", qualname := Str.ofString "_law_fall", params := p281, body := .stmts b281, scope := s281, globals := 3, closure := [], defaults := Value.none, kwdefaults := Value.none, doc := Value.none, pyModule := Value.str (Str.ofString "law_yh0022_01") 510, annotations := none, code := Value.ref 280, closureTuple := Value.none, builtins := 0 }, slots := #[] } : Obj) = _ by dsimp only [p281, b281, s281, pick])
noncomputable def o282 : Obj := { cls := Value.type "tuple", data := Data.seq #[] }
noncomputable def o285 : Obj := { cls := Value.type "code", data := Data.fields #[Value.str (Str.ofString "law") 542, Value.str (Str.ofString "law") 543, Value.str (Str.ofString "/claim/cut.py") 544, Value.int 197 0, Value.int 1 0, Value.int 0 0, Value.int 0 0, Value.int 3 0, Value.ref 282, Value.bool true, Value.int 181 0, Value.ref 283, Value.none, Value.none, Value.none, Value.ref 284, Value.int 545 0, Value.int 197 0, Value.str (Str.ofString "/claim/cut.py") 546] }
noncomputable def p286 : Arguments := pick _ (show psOf (topAt 14) = _ by conv => lhs; whnf)
noncomputable def b286 : List Stmt := pick _ (show bdOf (topAt 14) = _ by conv => lhs; whnf)
noncomputable def s286 : Scope := pick _ (show scOf (topAt 14) = _ by conv => lhs; whnf)
noncomputable def o286 : Obj := pick _ (show ({ cls := Value.type "function", dict := none, data := .func { name := Str.ofString "law", qualname := Str.ofString "law", params := p286, body := .stmts b286, scope := s286, globals := 3, closure := [], defaults := Value.none, kwdefaults := Value.none, doc := Value.none, pyModule := Value.str (Str.ofString "law_yh0022_01") 510, annotations := none, code := Value.ref 285, closureTuple := Value.none, builtins := 0 }, slots := #[] } : Obj) = _ by dsimp only [p286, b286, s286, pick])
noncomputable def heapK : Params → Frag := fun P => (nat_lit 2, o2) :: (nat_lit 3, o3 P) :: (nat_lit 15, o15) :: (nat_lit 17, o17) :: (nat_lit 18, o18) :: (nat_lit 20, o20) :: (nat_lit 21, o21) :: (nat_lit 22, o22) :: (nat_lit 24, o24) :: (nat_lit 25, o25) :: (nat_lit 27, o27) :: (nat_lit 28, o28) :: (nat_lit 36, o36) :: (nat_lit 38, o38) :: (nat_lit 39, o39) :: (nat_lit 41, o41) :: (nat_lit 42, o42) :: (nat_lit 43, o43) :: (nat_lit 45, o45) :: (nat_lit 46, o46) :: (nat_lit 48, o48) :: (nat_lit 49, o49) :: (nat_lit 50, o50) :: (nat_lit 52, o52) :: (nat_lit 53, o53) :: (nat_lit 55, o55) :: (nat_lit 56, o56) :: (nat_lit 57, o57) :: (nat_lit 59, o59) :: (nat_lit 60, o60) :: (nat_lit 62, o62) :: (nat_lit 63, o63) :: (nat_lit 64, o64) :: (nat_lit 66, o66) :: (nat_lit 67, o67) :: (nat_lit 69, o69) :: (nat_lit 70, o70) :: (nat_lit 71, o71) :: (nat_lit 73, o73) :: (nat_lit 74, o74) :: (nat_lit 76, o76) :: (nat_lit 77, o77) :: (nat_lit 78, o78) :: (nat_lit 80, o80) :: (nat_lit 81, o81) :: (nat_lit 83, o83) :: (nat_lit 84, o84) :: (nat_lit 85, o85) :: (nat_lit 87, o87) :: (nat_lit 88, o88) :: (nat_lit 90, o90) :: (nat_lit 91, o91) :: (nat_lit 92, o92) :: (nat_lit 94, o94) :: (nat_lit 95, o95) :: (nat_lit 97, o97) :: (nat_lit 98, o98) :: (nat_lit 99, o99) :: (nat_lit 100, o100 P) :: (nat_lit 101, o101) :: (nat_lit 102, o102) :: (nat_lit 103, o103) :: (nat_lit 106, o106) :: (nat_lit 109, o109) :: (nat_lit 114, o114) :: (nat_lit 115, o115) :: (nat_lit 116, o116) :: (nat_lit 118, o118) :: (nat_lit 119, o119) :: (nat_lit 121, o121) :: (nat_lit 122, o122) :: (nat_lit 123, o123) :: (nat_lit 125, o125) :: (nat_lit 126, o126) :: (nat_lit 128, o128) :: (nat_lit 129, o129) :: (nat_lit 130, o130) :: (nat_lit 131, o131) :: (nat_lit 133, o133) :: (nat_lit 134, o134) :: (nat_lit 136, o136) :: (nat_lit 137, o137) :: (nat_lit 138, o138) :: (nat_lit 139, o139) :: (nat_lit 141, o141) :: (nat_lit 142, o142) :: (nat_lit 144, o144) :: (nat_lit 145, o145) :: (nat_lit 146, o146) :: (nat_lit 148, o148) :: (nat_lit 149, o149) :: (nat_lit 151, o151) :: (nat_lit 152, o152) :: (nat_lit 153, o153) :: (nat_lit 155, o155) :: (nat_lit 156, o156) :: (nat_lit 158, o158) :: (nat_lit 159, o159) :: (nat_lit 160, o160) :: (nat_lit 161, o161) :: (nat_lit 163, o163) :: (nat_lit 164, o164) :: (nat_lit 166, o166) :: (nat_lit 167, o167) :: (nat_lit 168, o168) :: (nat_lit 170, o170) :: (nat_lit 171, o171) :: (nat_lit 173, o173) :: (nat_lit 174, o174) :: (nat_lit 175, o175) :: (nat_lit 176, o176) :: (nat_lit 178, o178) :: (nat_lit 179, o179) :: (nat_lit 181, o181) :: (nat_lit 182, o182) :: (nat_lit 183, o183) :: (nat_lit 184, o184 P) :: (nat_lit 185, o185) :: (nat_lit 186, o186) :: (nat_lit 187, o187) :: (nat_lit 197, o197) :: (nat_lit 198, o198) :: (nat_lit 200, o200) :: (nat_lit 201, o201) :: (nat_lit 203, o203) :: (nat_lit 204, o204) :: (nat_lit 205, o205) :: (nat_lit 207, o207) :: (nat_lit 208, o208) :: (nat_lit 210, o210) :: (nat_lit 211, o211) :: (nat_lit 212, o212) :: (nat_lit 214, o214) :: (nat_lit 215, o215) :: (nat_lit 217, o217) :: (nat_lit 218, o218) :: (nat_lit 219, o219) :: (nat_lit 221, o221) :: (nat_lit 222, o222) :: (nat_lit 224, o224) :: (nat_lit 225, o225) :: (nat_lit 226, o226) :: (nat_lit 228, o228) :: (nat_lit 229, o229) :: (nat_lit 231, o231) :: (nat_lit 232, o232) :: (nat_lit 233, o233) :: (nat_lit 235, o235) :: (nat_lit 236, o236) :: (nat_lit 238, o238) :: (nat_lit 239, o239) :: (nat_lit 240, o240) :: (nat_lit 242, o242) :: (nat_lit 243, o243) :: (nat_lit 245, o245) :: (nat_lit 246, o246) :: (nat_lit 247, o247) :: (nat_lit 249, o249) :: (nat_lit 250, o250) :: (nat_lit 252, o252) :: (nat_lit 253, o253) :: (nat_lit 254, o254) :: (nat_lit 256, o256) :: (nat_lit 257, o257) :: (nat_lit 259, o259) :: (nat_lit 260, o260) :: (nat_lit 261, o261) :: (nat_lit 262, o262 P) :: (nat_lit 263, o263) :: (nat_lit 264, o264) :: (nat_lit 265, o265) :: (nat_lit 268, o268) :: (nat_lit 270, o270) :: (nat_lit 271, o271) :: (nat_lit 273, o273) :: (nat_lit 274, o274) :: (nat_lit 275, o275) :: (nat_lit 277, o277) :: (nat_lit 278, o278) :: (nat_lit 280, o280) :: (nat_lit 281, o281) :: (nat_lit 282, o282) :: (nat_lit 285, o285) :: (nat_lit 286, o286) :: []
/- TOPA_1k -/
section
open PySem PySem.W PySem.Calls PyProof.Rows
noncomputable abbrev HK : Hook := kmHook heapK [2, 3, 15, 17, 18, 20, 21, 22, 24, 25, 27, 28, 36, 38, 39, 41, 42, 43, 45, 46, 48, 49, 50, 52, 53, 55, 56, 57, 59, 60, 62, 63, 64, 66, 67, 69, 70, 71, 73, 74, 76, 77, 78, 80, 81, 83, 84, 85, 87, 88, 90, 91, 92, 94, 95, 97, 98, 99, 100, 101, 102, 103, 106, 109, 114, 115, 116, 118, 119, 121, 122, 123, 125, 126, 128, 129, 130, 131, 133, 134, 136, 137, 138, 139, 141, 142, 144, 145, 146, 148, 149, 151, 152, 153, 155, 156, 158, 159, 160, 161, 163, 164, 166, 167, 168, 170, 171, 173, 174, 175, 176, 178, 179, 181, 182, 183, 184, 185, 186, 187, 197, 198, 200, 201, 203, 204, 205, 207, 208, 210, 211, 212, 214, 215, 217, 218, 219, 221, 222, 224, 225, 226, 228, 229, 231, 232, 233, 235, 236, 238, 239, 240, 242, 243, 245, 246, 247, 249, 250, 252, 253, 254, 256, 257, 259, 260, 261, 262, 263, 264, 265, 268, 270, 271, 273, 274, 275, 277, 278, 280, 281, 282, 285, 286] (fun _ => by kernel_rfl) [147, 154]
noncomputable def viewK : Program := view PySem.Challenge.pw_yh0022_01 [0, 2, 3, 5, 6, 7, 8, 10, 12, 13, 14]
theorem leftK : LeftO (PySem.Challenge.rw_yh0022_01.row.toRowW.prog) viewK [Str.ofString "_Accumulator"] (fun s => xlAt viewK [] s && recOk (RowW.records PySem.Challenge.rw_yh0022_01.row.toRowW) s) (Hook.obs HK) (Hook.val HK) 3522 := by
  intro w
  kernel_rfl
theorem saidK : OpenLaw.wellSaid PySem.Challenge.rw_yh0022_01 = true := by kernel_rfl
end
/- M1 -/
section
open PySem PySem.W PySem.Calls PyProof.Rows

/-- h keeps all of g -/
noncomputable abbrev Sub (g h : Heap) : Prop := ∀ b o, g.get? b = some o → h.get? b = some o

/-- everything but the addresses ts stands as it stood; nothing is said of the tokens -/
structure Kept (ts : List Addr) (s s' : Shared) : Prop where
  keep : ∀ b o, b ∉ ts → s.heap.get? b = some o → s'.heap.get? b = some o
  size : s.heap.objs.size ≤ s'.heap.objs.size
  os : s'.os = s.os
  drawn : s'.drawn = s.drawn
  gens : AllBare s.gens → AllBare s'.gens

section
variable {prog : Program} {w : World} {A : Around} {E : Value → Shared → Prop} {s : Shared} {K : Frag} {H₀ : Heap} {p : Program} {loose : List Str} {mg mb : Str → Option Value}
  {R : Result → Shared → Prop} {name qual : Str} {params : Arguments} {body : List Stmt} {scope : Scope} {dV kV doc pm cdv ct oc : Value} {an od : Option Addr} {osl : Array (Option Value)} {f : Addr} {args : Args} {binds : List (Str × Value)} {cl : List (Str × Addr)}

theorem enter (T : List (Addr × Obj)) (hT : ∀ q ∈ T, s.heap.get? q.1 = some q.2) (HS : Sub H₀ s.heap) (hT0 : ∀ q ∈ T, H₀.get? q.1 = none) (X : K.In H₀) (TR : TopRead p loose mg mb H₀)
    (ho : K.lookup f = some ⟨oc, od, .func (fnX name qual params body scope cl dV kV doc pm an cdv ct), osl⟩) (hcd : codeIn K cdv qual = true) (hroom : A.depth < recursionLimit)
    (hbind : BindsTo s (fnX name qual params body scope cl dV kV doc pm an cdv ct) args binds) (hloc : ∀ y ∈ binds, scope.names.lookup y.1 = some .local)
    (hcell : ∀ x ∈ scope.names, x.2 ≠ .cell) (hco : scope.isCoroutine = false) (hgen : scope.isGenerator = false) (hk : scope.kind = .function)
    (h : ∀ g L' h₁, Fr g L' h₁ (fun y => binds.reverse.lookup y) → News g L' h₁ T → K.In g → TopRead p loose mg mb g → Sub H₀ g →
      (∀ b o, b ∉ T.map (·.1) → s.heap.get? b = some o → g.get? b = some o) → Sub s.heap h₁ → L' = s.heap.objs.size →
      wpAny (model prog w) (A.deeper (envX qual scope L' f cdv cl)) (execs body (envX qual scope L' f cdv cl))
        (fun fl s' => R (.ok (.ret (match fl with | .ret v => v | _ => .none))) s') (fun _ _ => False)
        { s with heap := h₁, toks := s.toks + binds.length }) : codeAny (model prog w) A (.call (.ref f) args) R s := by
  have nm : ∀ b o, H₀.get? b = some o → b ∉ T.map (·.1) := fun b o e q => by
    obtain ⟨r, hr, rfl⟩ := List.mem_map.mp q
    rw [hT0 r hr] at e; cases e
  have st : Sub H₀ (hideAll s.heap (T.map (·.1))) := fun b o e => hideAll_get _ (HS b o e) (nm b o e)
  refine codeAny_call_def (fd := fnX name qual params body scope cl dV kV doc pm an cdv ct) (body := body) (binds := binds) hroom (HS _ _ (X _ _ ho)) rfl (TR.nolimit.keeps HS) (codeRec_of (X.keeps HS) hcd) rfl hbind hcell hloc (fun h₁ hns hk₁ => ?_) hco hgen hk
  refine wpAny_mono (h _ s.heap.objs.size h₁ ⟨hns, fun b o e => hk₁ b o (of_hideAll _ e), Nat.le_of_eq (hideAll_size _ _)⟩
    (fun q hq => ⟨hk₁ _ _ (hT q hq), Nat.ne_of_lt (Heap.lt_size (hT q hq)), hideAll_none _ (List.mem_map_of_mem hq)⟩) (X.keeps st) (TR.keeps st) st (fun b o hb e => hideAll_get _ e hb) hk₁ rfl) (fun _ _ y => y) fun _ _ y => y.elim
end
end
/- R1 -/
section
open PySem PySem.W PySem.Calls PyProof.Rows

/-- an instance of a class of the text's own that is built on list -/
noncomputable abbrev lobj (C d : Addr) (its : Array Value) (n : Nat) : Obj := { cls := .ref C, dict := some d, data := .seq its n }

/-- what the looks at such a class say -/
structure LCls (K : Frag) (S : Setting) (C : Addr) : Prop where
  dict : hasDictIn K C = true
  list : mroIn K C (.type "list") = some true
  seqk : peek K S (seqItemTypes.anyM fun n => isSubtype (.ref C) (.type n)) = some false
  geta : plainGet K C "append" = true
  gete : plainGet K C "extend" = true
  append : findIn K (.ref C) "append" = some (some (.builtin "list.append"))
  getitem : findIn K (.ref C) "__getitem__" = some (some (.builtin "list.__getitem__"))
  setitem : findIn K (.ref C) "__setitem__" = some (some (.builtin "list.__setitem__"))
  iter : findIn K (.ref C) "__iter__" = some (some (.builtin "list.__iter__"))

section
variable {prog : Program} {w : World} {M : Model} {A : Around} {E : Value → Shared → Prop} {s : Shared} {K : Frag} {x C d L : Addr} {h₀ h : Heap} {m : Str → Option Value} {news news' : List (Addr × Obj)} {its its' : Array Value} {n n' k : Nat} {es : List DictEntry} {ox : Obj} {od : Option Obj} {name : Str}

theorem lobj_inst (hx : h.get? x = some (lobj C d its n)) (hd : h.get? d = some (dictOf es k)) : InstAt h x (lobj C d its n) C (some (dictOf es k)) := ⟨hx, rfl, rfl, hd⟩
theorem inst_news (N : News h₀ L h news) (h1 : (x, lobj C d its n) ∈ news) (h2 : (d, dictOf es k) ∈ news) : InstAt h x (lobj C d its n) C (some (dictOf es k)) := ⟨(N _ h1).1, rfl, rfl, (N _ h2).1⟩

/-- a built-in's look at its first argument, an instance of a class built on its owner -/
theorem check_any {i owner nm : String} {self : Value} {rest : List Value} {kw : List (Str × Value)} {Q : Unit → Shared → Prop}
    (hk : builtinKind i = some .slot ∨ builtinKind i = some .method) (hs : splitId i = some (owner, nm)) (hi : Looks M s.heap (isInstance self (.type owner)) true) (ha : argsOk i ⟨self :: rest, kw⟩) (q : Q () s) :
    wpAny M A (checkBuiltinCall i ⟨self :: rest, kw⟩) Q E s := by
  rcases hk with hk | hk
  all_goals
    simp only [checkBuiltinCall, hk, hs]
    refine wpAny_bind (hi.here ?_)
    simp only [Bool.not_true, Bool.false_eq_true, if_false]
    cases hsig : Manifest.signature? i with
    | none => exact wpAny_pure q
    | some sig =>
      simp only [argsOk, hsig] at ha
      have h2 : Bind.checkArgs i sig ⟨self :: rest, kw⟩ = pure () := ha
      show wpAny M A (Bind.checkArgs i sig ⟨self :: rest, kw⟩) Q E s
      rw [h2]; exact wpAny_pure q

/-- a list's built-in, called upon the instance -/
structure LB (i nm : String) (b : Builtin) : Prop where
  kind : builtinKind i = some .slot ∨ builtinKind i = some .method
  split : splitId i = some ("list", nm)
  plain : plainId i = true
  entry : entryFor table i = some b
  bind : ∀ self, bindSpecial (.builtin i) self = pure (.builtin i, [self])

theorem call_bi {i nm : String} {b : Builtin} {rest : List Value} {Q : Value → Shared → Prop} (B : LB i nm b) (X : K.In s.heap) (I : InstAt s.heap x ox C od) (hl : mroIn K C (.type "list") = some true) (ha : argsOk i ⟨.ref x :: rest, []⟩)
    (hc : wpAny (model prog w) A.in1 (b ⟨.ref x :: rest, []⟩) (fun fin s' => ∃ v, fin = .done (.ret v) ∧ Q v s') E s) :
    wpAny (model prog w) A (call (.builtin i) (.ref x :: rest)) Q E s := by
  have hi : Looks (model prog w) s.heap (isInstance (.ref x) (.type "list")) true := I.type.andThen (looks_mroIn X hl)
  refine wpAny_call (codeAny_call_builtin B.plain B.entry (check_any B.kind B.split hi ha (wpAny_mono hc (fun fin s' h' => ?_) fun _ _ h' => h')))
  obtain ⟨v, rfl, hv⟩ := h'; exact hv

theorem special_bi {i : String} {args : List Value} {Q : Option Value → Shared → Prop} (hb : ∀ self, bindSpecial (.builtin i) self = pure (.builtin i, [self])) (X : K.In s.heap) (I : InstAt s.heap x ox C od)
    (hs : findIn K (.ref C) name = some (some (.builtin i))) (h : wpAny M A (call (.builtin i) (.ref x :: args)) (fun v => Q (some v)) E s) :
    wpAny M A (callSpecial? (.ref x) name args) Q E s := by
  refine wpAny_bind (wpAny_bind (I.type.here ((looks_findIn X hs).here (wpAny_holding (wpAny_bind ?_)))))
  rw [hb]
  exact wpAny_pure (wpAny_bind (wpAny_mono h (fun _ _ z => wpAny_pure z) fun _ _ z => z))

theorem lb_append : LB "list.append" "append" Builtin.«list.append» := ⟨.inr (by decide +kernel), by decide +kernel, by decide +kernel, entry_list_append, slot_list_append.bind⟩
theorem lb_getitem : LB "list.__getitem__" "__getitem__" Builtin.«list.__getitem__» := ⟨by first | exact .inl (by decide +kernel) | exact .inr (by decide +kernel), by decide +kernel, by decide +kernel, entry_list_getitem, slot_list_getitem.bind⟩
theorem lb_setitem : LB "list.__setitem__" "__setitem__" Builtin.«list.__setitem__» := ⟨by first | exact .inl (by decide +kernel) | exact .inr (by decide +kernel), by decide +kernel, by decide +kernel, entry_list_setitem, slot_list_setitem.bind⟩
theorem lb_iter : LB "list.__iter__" "__iter__" Builtin.«list.__iter__» := ⟨by first | exact .inl (by decide +kernel) | exact .inr (by decide +kernel), by decide +kernel, by decide +kernel, entry_list_iter, slot_list_iter.bind⟩
theorem lb_len : LB "list.__len__" "__len__" Builtin.«list.__len__» := ⟨by first | exact .inl (by decide +kernel) | exact .inr (by decide +kernel), by decide +kernel, by decide +kernel, entry_list_len, slot_list_len.bind⟩
theorem slot_list_pop : Slot "list" "pop" "list.pop" :=
  .of (owner := "list") (n := "pop") (by rw [typeLookup_type, builtinLookup_eq_fast]; kernel_rfl) (by decide +kernel) (by decide +kernel) (by decide +kernel)
    (by first | exact .inl (by decide +kernel) | exact .inr (by decide +kernel)) (by rw [isSubtype_type]; kernel_rfl)
theorem entry_list_pop : entryFor table "list.pop" = some Builtin.«list.pop» := entryFor_of_tree (by kernel_rfl)
theorem lb_pop : LB "list.pop" "pop" Builtin.«list.pop» := ⟨by first | exact .inl (by decide +kernel) | exact .inr (by decide +kernel), by decide +kernel, by decide +kernel, entry_list_pop, slot_list_pop.bind⟩
theorem slot_list_init : Slot "list" "__init__" "list.__init__" :=
  .of (owner := "list") (n := "__init__") (by rw [typeLookup_type, builtinLookup_eq_fast]; kernel_rfl) (by decide +kernel) (by decide +kernel) (by decide +kernel)
    (by first | exact .inl (by decide +kernel) | exact .inr (by decide +kernel)) (by rw [isSubtype_type]; kernel_rfl)
theorem entry_list_init : entryFor table "list.__init__" = some Builtin.«list.__init__» := entryFor_of_tree (by kernel_rfl)
theorem lb_init : LB "list.__init__" "__init__" Builtin.«list.__init__» := ⟨by first | exact .inl (by decide +kernel) | exact .inr (by decide +kernel), by decide +kernel, by decide +kernel, entry_list_init, slot_list_init.bind⟩

theorem upd_at {o o' : Obj} (F : Fr h₀ L h m) (N : News h₀ L h news) (U : Upd x o o' news news') : h.get? x = some o ∧ x ≠ L ∧ h₀.get? x = none := by
  obtain ⟨pre, post, rfl, rfl, a, b⟩ := U.split
  exact N (x, o) (List.mem_append.mpr (.inr (.head _)))
theorem upd_go {o o' : Obj} {h' : Heap} (F : Fr h₀ L h m) (N : News h₀ L h news) (U : Upd x o o' news news') (hs : Heap.SameBut x h h') (ho : h'.get? x = some o') : Fr h₀ L h' m ∧ News h₀ L h' news' := by
  have z := upd_at F N U
  obtain ⟨pre, post, rfl, rfl, a, b⟩ := U.split
  exact ⟨F.change hs z.2.1 z.2.2, news_set N a b hs ho⟩

theorem mapSeq_lobj (f : Array Value → Array Value) : Obj.mapSeq f (lobj C d its n) = lobj C d (f its) (if (f its).size == its.size then n else n + 1) := rfl

theorem append_lobj {v : Value} {Q : Value → Shared → Prop} (F : Fr h₀ L s.heap m) (X : K.In h₀) (N : News h₀ L s.heap news) (hl : mroIn K C (.type "list") = some true) (I : InstAt s.heap x (lobj C d its n) C od)
    (U : Upd x (lobj C d its n) (lobj C d (its.push v) (n + 1)) news news') (h : ∀ h', Fr h₀ L h' m → News h₀ L h' news' → Q .none { s with heap := h' }) (hsz : its.size ≤ sizeLine) :
    wpAny (model prog w) A (call (.builtin "list.append") [.ref x, v]) Q E s := by
  have z := upd_at F N U
  refine call_bi lb_append (X.keeps F.keep) I hl (args_list_append _ _) ?_
  show wpAny _ _ (updateSeq x (·.push v) >>= fun _ => ret .none) _ _ s
  refine wpAny_bind (wpAny_updateSeq z.1 rfl (wpAny_pure ⟨.none, rfl, ?_⟩))
  have e : Obj.mapSeq (·.push v) (lobj C d its n) = lobj C d (its.push v) (n + 1) := by simp [Obj.mapSeq]
  have ho : (s.heap.update x (Obj.mapSeq (·.push v))).get? x = some (lobj C d (its.push v) (n + 1)) := by
    rw [Heap.get?_update_self _ z.1 (by rw [e]; rfl), e]
  obtain ⟨a, b⟩ := upd_go F N U (Heap.SameBut.update ..) ho
  exact h _ a b
end
end
/- R2 -/
section
open PySem PySem.W PySem.Calls PyProof.Rows
open Builtin Builtin.ObjectAttr Builtin.Getset_descriptor

theorem slot_list_ga : Slot "list" "__getattribute__" "list.__getattribute__" :=
  .of (owner := "list") (n := "__getattribute__") (by rw [typeLookup_type, builtinLookup_eq_fast]; kernel_rfl) (by decide +kernel) (by decide +kernel) (by decide +kernel)
    (by first | exact .inl (by decide +kernel) | exact .inr (by decide +kernel)) (by rw [isSubtype_type]; kernel_rfl)
theorem lb_ga : LB "list.__getattribute__" "__getattribute__" Builtin.«object.__getattribute__» := ⟨by first | exact .inl (by decide +kernel) | exact .inr (by decide +kernel), by decide +kernel, by decide +kernel, PySem.F.entry_list_ga, slot_list_ga.bind⟩
theorem args_list_ga (a b : Value) : argsOk "list.__getattribute__" ⟨[a, b], []⟩ := by unfold argsOk; kernel_rfl
theorem canon_list_ga : (Manifest.canonical "list.__getattribute__" != "object.__getattribute__") = false := by decide +kernel

/-- the looks at the class for an attribute of the name -/
noncomputable def plainL (K : Frag) (C : Addr) : Bool := findIn K (.ref C) "__getattribute__" == some (some (.builtin "list.__getattribute__")) && findIn K (.ref C) "__getattr__" == some none
theorem plainL_of {K : Frag} {C : Addr} (h : plainL K C = true) : findIn K (.ref C) "__getattribute__" = some (some (.builtin "list.__getattribute__")) ∧ findIn K (.ref C) "__getattr__" = some none := by
  obtain ⟨a, b⟩ := Bool.and_eq_true_iff.mp h
  exact ⟨beq_iff_eq.mp a, beq_iff_eq.mp b⟩

section
variable {prog : Program} {w : World} {M : Model} {A : Around} {E : Value → Shared → Prop} {s : Shared} {K : Frag} {x C d L : Addr} {h₀ h : Heap} {m : Str → Option Value} {news news' : List (Addr × Obj)} {its its' : Array Value} {n n' k : Nat} {es es' : List DictEntry} {ox : Obj} {od : Option Obj} {name : Str} {v : Value}

/-- a list method, met through an attribute of the instance -/
theorem method_bil {pl : Sem Bool} {i : String} {Q : Value × List Value → Shared → Prop} (X : K.In s.heap) (I : InstAt s.heap x ox C (some (dictOf es k))) (hg : plainL K C = true)
    (hf : findIn K (.ref C) name = some (some (.builtin i))) (ht : typeIn K (.builtin i) = some (.type "method_descriptor")) (hl : getL name es = some none) (h : Q (.builtin i, [.ref x]) s) :
    wpAny (model prog w) A (getMethod (.ref x) name pl) Q E s := by
  unfold getMethod specialOf
  refine wpAny_bind (wpAny_bind (I.type.here ((looks_findIn X (plainL_of hg).1).here ?_)))
  dsimp only
  rw [canon_list_ga, if_neg (by decide)]
  refine wpAny_bind (wpAny_bind (I.type.here ((looks_findIn X (plainL_of hg).2).here ?_)))
  refine wpAny_bind (wpAny_bind (I.type.here ((looks_findIn X hf).here (wpAny_bind ((looks_typeIn X ht).here ?_)))))
  rw [if_neg (by decide +kernel)]
  refine wpAny_bind (wpAny_loadPart I.at_ ?_)
  have hd := I.dict
  cases e : ox.dict with
  | none => rw [e] at hd; exact hd.elim
  | some dx =>
    rw [e] at hd
    refine wpAny_bind (wpAny_bind (wpAny_loadPart hd ?_))
    rw [nsLook_of (r := none) (by rw [lookIn_dict, hl])]
    refine wpAny_pure ?_
    exact wpAny_bind (wpAny_rule (wpAny_pure h))

/-- a def of the class, met through an attribute of the instance -/
theorem method_fnl {pl : Sem Bool} {f : Addr} {Q : Value × List Value → Shared → Prop} (X : K.In s.heap) (I : InstAt s.heap x ox C (some (dictOf es k))) (hg : plainL K C = true)
    (hf : findIn K (.ref C) name = some (some (.ref f))) (ht : typeIn K (.ref f) = some (.type "function")) (hl : getL name es = some none) (h : Q (.ref f, [.ref x]) s) :
    wpAny (model prog w) A (getMethod (.ref x) name pl) Q E s := by
  unfold getMethod specialOf
  refine wpAny_bind (wpAny_bind (I.type.here ((looks_findIn X (plainL_of hg).1).here ?_)))
  dsimp only
  rw [canon_list_ga, if_neg (by decide)]
  refine wpAny_bind (wpAny_bind (I.type.here ((looks_findIn X (plainL_of hg).2).here ?_)))
  refine wpAny_bind (wpAny_bind (I.type.here ((looks_findIn X hf).here (wpAny_bind ((looks_typeIn X ht).here ?_)))))
  rw [if_neg (by decide +kernel)]
  refine wpAny_bind (wpAny_loadPart I.at_ ?_)
  have hd := I.dict
  cases e : ox.dict with
  | none => rw [e] at hd; exact hd.elim
  | some dx =>
    rw [e] at hd
    refine wpAny_bind (wpAny_bind (wpAny_loadPart hd ?_))
    rw [nsLook_of (r := none) (by rw [lookIn_dict, hl])]
    refine wpAny_pure ?_
    exact wpAny_bind (wpAny_rule (wpAny_pure h))

/-- a field of the instance's own is read -/
theorem get_ownl {expr : Bool} {Q : Value → Shared → Prop} {attr : Option Value} (X : K.In s.heap) (I : InstAt s.heap x ox C (some (dictOf es k))) (hg : plainL K C = true) (hm : mroIn K C (.type "list") = some true) (hh : hasDictIn K C = true)
    (ha : findIn K (.ref C) name = some attr) (hn : noGet K attr = true) (hl : getL name es = some (some v)) (hv : handedIn v = true) (h : Q v { s with toks := s.toks + 1 }) :
    wpAny (model prog w) A (getAttr (.ref x) name expr) Q E s := by
  obtain ⟨hp, g, dr, t, os⟩ := s
  have L0 := I.type (M := model prog w)
  have L1 := looks_findIn (M := model prog w) X (plainL_of hg).1
  have L2 := looks_findIn (M := model prog w) X (plainL_of hg).2
  unfold getAttr getAttrBy
  refine wpAny_bind (wpAny_mkText (wpAny_holding (wpAny_bind (L0.at (wpAny_bind (L1.at ?_))))))
  dsimp only
  rw [if_neg (show ¬ ((onTheHeap (Value.ref C) && (Value.builtin "list.__getattribute__" == Value.builtin "object.__getattribute__")) = true) by
    rw [show (Value.builtin "list.__getattribute__" == Value.builtin "object.__getattribute__") = false by decide +kernel, Bool.and_false]; exact Bool.false_ne_true)]
  unfold getAttrByItsOwn hookBefore
  refine wpAny_bind (L2.at ?_)
  unfold callGetattribute boundAndCalled
  rw [if_neg (by cases expr <;> decide)]
  refine wpAny_bind (wpAny_attempt (wpAny_holding ?_))
  rw [lb_ga.bind]
  refine wpAny_bind (wpAny_pure ?_)
  refine call_bi (od := some (dictOf es k)) lb_ga X I hm (args_list_ga _ _) ?_
  show wpAny _ _ (typeOf (.ref x) >>= _) _ _ _
  have L3 := looks_find (M := model prog w) X I (findObj_own hh ha hn hl)
  refine wpAny_bind (L0.at (wpAny_bind (L3.at (wpAny_pure ⟨v, rfl, ?_⟩))))
  show wpAny _ _ (handedOut v) _ _ _
  rw [handedOut_of hv]
  exact wpAny_pure h

theorem refuse_list (self : Value) : refuseLoop self "__setattr__" [.type "list", .type "object"] = pure () := by kernel_rfl
noncomputable def overL (K : Frag) (C : Addr) : Bool := (clsIn K C).any fun cd => cd.mro == [.ref C, .type "list", .type "object"]

theorem setattr_l {tk : Tok} {R : Result → Shared → Prop} (F : Fr h₀ L s.heap m) (X₀ : K.In h₀) (N : News h₀ L s.heap news)
    (I : InstAt s.heap x ox C (some (dictOf es k))) (hd : ox.dict = some d) (hp : overL K C = true) (ht : takerIn K C name = some none) (hh : hasDictIn K C = true)
    (hl : (getL name es).isSome = true) (e : (putL name (PyData.keyHash w.params name) (.str name s.toks) v es, putN name es k) = (es', n')) (U : Upd d (dictOf es k) (dictOf es' n') news news') (hz : es'.length ≤ 1000)
    (h : ∀ h', Fr h₀ L h' m → News h₀ L h' news' → R (.ok (.ret .none)) { s with heap := h', toks := s.toks + 1 }) :
    codeAny (model prog w) A (.call (.builtin "object.__setattr__") ⟨[.ref x, .str name tk, v], []⟩) R s := by
  have X := X₀.keeps F.keep
  obtain ⟨e1, e2⟩ := Prod.mk.inj e
  have hput : Obj.putName name (PyData.keyHash w.params name) (.str name s.toks) v (dictOf es k) = dictOf es' n' := by rw [putName_dict, e1, e2]
  have z := upd_at F N U
  have hs : Heap.SameBut d s.heap (s.heap.update d (Obj.putName name (PyData.keyHash w.params name) (.str name s.toks) v)) := Heap.SameBut.update ..
  have ho : (s.heap.update d (Obj.putName name (PyData.keyHash w.params name) (.str name s.toks) v)).get? d = some (dictOf es' n') := by
    rw [Heap.get?_update_self _ z.1 (by rw [hput]; rfl), hput]
  obtain ⟨F', N'⟩ := upd_go F N U hs ho
  have SF := PySem.F.store_object
  obtain ⟨cd, hc, hm⟩ := any_some hp
  have hm := beq_iff_eq.mp hm
  obtain ⟨cd', hc', hd'⟩ := any_some hh
  rw [hc] at hc'; cases hc'
  have sub : Looks (model prog w) s.heap (isInstance (.ref x) (.type "object")) true := I.type.andThen (looks_mroIn X (by unfold mroIn; rw [hc, Option.bind_some, hm]; rw [if_neg (by simp)]; simp))
  refine codeAny_call_builtin SF.slot.plain SF.entry (@check_slot (model prog w) _ _ s "object.__setattr__" "object" "__setattr__" (.ref x) [.str name tk, v] [] _ SF.kind SF.split sub (SF.args (.ref x) (.str name tk) v) ?_)
  obtain ⟨attr, ha, hr⟩ := Option.bind_eq_some_iff.mp ht
  have hmr : Looks (model prog w) s.heap (mroOf (.ref C)) cd.mro := (looks_clsIn X hc).andThen .now
  have L3 : Looks (model prog w) s.heap (storeTaker? attr) none := by
    cases attr with
    | none => cases hr; exact .now
    | some a =>
      obtain ⟨b, hb, hbb⟩ := Option.map_eq_some_iff.mp hr
      refine (looks_takesIn X hb).andThen ?_
      cases b
      · exact .now
      · cases hbb
  rw [osa_eq, refuse_eq]
  refine wpAny_bind (wpAny_bind (I.type.here (wpAny_bind (hmr.here ?_))))
  rw [hm, refuseLoop_ref, refuse_list]
  refine wpAny_pure (wpAny_bind (I.type.here (wpAny_bind ((looks_findIn X ha).here (wpAny_bind (L3.here ?_))))))
  obtain ⟨hx, hcl, hn, -⟩ := I
  obtain ⟨oc, odi, oda, osl⟩ := ox
  dsimp only at hcl hd
  subst hcl hd
  refine wpAny_bind (wpAny_pure (wpAny_bind (wpAny_bind (wpAny_loadPart hx (wpAny_bind ((looks_clsIn X hc).here ?_))))))
  rw [hd']
  refine wpAny_pure (a := some d) (wpAny_bind (wpAny_pure (wpAny_bind ?_)))
  unfold nsSet
  refine wpAny_bind (wpAny_bind (wpAny_askSetting (wpAny_pure (wpAny_bind (wpAny_mkText (wpAny_bind (wpAny_loadPart z.1 ?_)))))))
  have hl' : (lookIn name (dictOf es k)).isSome = true := by rw [lookIn_dict]; exact hl
  unfold lookIn at hl'
  dsimp only at hl' ⊢
  have c : (!es.toArray.any (·.key.isStr name) && es.toArray.any (·.refKey)) = false := by
    rw [← Array.any_toList, ← Array.any_toList]
    split at hl'
    · rename_i en he
      rw [List.any_eq_true.mpr ⟨en, List.mem_of_find?_eq_some he, List.find?_some he⟩]; rfl
    · split at hl'
      · cases hl'
      · rename_i z; rw [Bool.not_eq_true] at z; rw [z, Bool.and_false]
  rw [aRefKeyMayBeTheName_at, c]
  refine wpAny_updatePart z.1 ?_
  refine wpAny_bind (wpAny_lookBehind ho (by exact pastItsLine_dict (by rw [List.size_toArray, sizeLine_eq]; omega)) ?_)
  exact wpAny_pure (h _ F' N')

/-- a field of the instance's own is stored -/
theorem set_l {Q : Unit → Shared → Prop} (F : Fr h₀ L s.heap m) (X₀ : K.In h₀) (N : News h₀ L s.heap news) (I : InstAt s.heap x ox C (some (dictOf es k))) (hd : ox.dict = some d)
    (hs : findIn K (.ref C) "__setattr__" = some (some (.builtin "object.__setattr__"))) (hp : overL K C = true) (ht : takerIn K C name = some none) (hh : hasDictIn K C = true) (hl : (getL name es).isSome = true)
    (e : (putL name (PyData.keyHash w.params name) (.str name (s.toks + 1)) v es, putN name es k) = (es', n')) (U : Upd d (dictOf es k) (dictOf es' n') news news') (hz : es'.length ≤ 1000)
    (h : ∀ h', Fr h₀ L h' m → News h₀ L h' news' → Q () { s with heap := h', toks := s.toks + 2 }) :
    wpAny (model prog w) A (setAttr (.ref x) name v) Q E s :=
  set_plain (X₀.keeps F.keep) I hs (setattr_l (s := { s with toks := s.toks + 1 }) F X₀ N I hd hp ht hh hl e U hz h)
end
end
/- R3 -/
section
open PySem PySem.W PySem.Calls PyProof.Rows

section
variable {prog : Program} {w : World} {M : Model} {A : Around} {E : Value → Shared → Prop} {s : Shared} {K : Frag} {x C d L : Addr} {h₀ h : Heap} {m : Str → Option Value} {news news' : List (Addr × Obj)} {its its' : Array Value} {n n' k : Nat} {es es' : List DictEntry} {ox : Obj} {od : Option Obj} {name : Str} {v : Value}

theorem seqKey_l {i : Value} {Q : Value → Shared → Prop} (X : K.In s.heap) (I : InstAt s.heap x ox C od) (hk : mroIn K C (.type "collections.deque") = some false) (h : Q i s) :
    wpAny (model prog w) A (sequenceKey (.ref x) i name) Q E s := by
  unfold sequenceKey
  refine wpAny_bind (I.type.here ?_)
  dsimp only
  have L : Looks (model prog w) s.heap (seqItemTypes.anyM fun n => isSubtype (.ref C) (.type n)) false := by
    unfold seqItemTypes
    rw [List.anyM_cons]
    refine (looks_mroIn X hk).andThen ?_
    exact .now
  refine wpAny_bind (L.here ?_)
  exact wpAny_pure h

theorem getItem_slice_l {sl : Addr} {vl vu vs : Value} {lo hi st : Option Int} {Q : Value → Shared → Prop} (X : K.In s.heap) (I : InstAt s.heap x (lobj C d its n) C od)
    (hk : mroIn K C (.type "collections.deque") = some false) (hm : mroIn K C (.type "list") = some true) (hf : findIn K (.ref C) "__getitem__" = some (some (.builtin "list.__getitem__")))
    (hs : s.heap.IsSliceOf sl vl vu vs) (pl : IsPart vl lo) (pu : IsPart vu hi) (ps : IsPart vs st) (h0 : st ≠ some 0)
    (h : Q (.ref s.heap.objs.size) { s with heap := s.heap.push { cls := .type "list", data := .seq (slicePick its lo hi st) } })
    (hsz : its.size ≤ sizeLine) : wpAny (model prog w) A (getItem (.ref x) (.ref sl)) Q E s := by
  obtain ⟨os, hos, hcs, hds⟩ := id hs
  have hTs : s.TypeIs (.ref sl) "slice" := ⟨os, hos, hcs⟩
  unfold getItem
  refine wpAny_holding ?_
  refine wpAny_bind (seqKey_l X I hk ?_)
  refine wpAny_bind (special_bi (name := Str.ofString "__getitem__") lb_getitem.bind X I hf (call_bi lb_getitem X I hm (args_list_getitem _ _) ?_))
  show wpAny _ _ (Builtin.List.listSubscript? (.ref sl) >>= _) _ _ s
  refine wpAny_bind ?_
  unfold Builtin.List.listSubscript?
  refine wpAny_bind (wpAny_specialOf hTs slice_no_index ?_)
  simp only [Option.isNone_none, if_true]
  refine wpAny_pure ?_
  show wpAny _ _ (typeOf (.ref sl) >>= _) _ _ s
  refine wpAny_bind (wpAny_typeOf hTs ?_)
  rw [if_neg (by decide)]
  rw [listSliceParts_eq]
  have hstep : ¬ ((rawPart st == rawInt 0) = true) := by
    cases st with
    | none => exact Bool.false_ne_true
    | some c =>
      intro hh
      have : c = 0 := by simpa [rawPart, rawInt] using hh
      exact h0 (by rw [this])
  refine wpAny_bind (wpAny_bind (wpAny_field hos hds (x := vs) rfl (wpAny_bind (wpAny_listPart ps ?_))))
  rw [if_neg hstep]
  refine wpAny_bind (wpAny_field hos hds (x := vl) rfl (wpAny_bind (wpAny_listPart pl ?_)))
  refine wpAny_bind (wpAny_field hos hds (x := vu) rfl (wpAny_bind (wpAny_listPart pu (wpAny_pure ?_))))
  refine wpAny_bind (m := Builtin.List.listItems (.ref x)) ?_
  unfold Builtin.List.listItems
  refine wpAny_bind (wpAny_seqItems I.at_ rfl (wpAny_pure ?_))
  refine wpAny_bind (wpAny_of_eq (sliceIndices_raw lo hi st its.size h0) ?_)
  exact wpAny_bind (wpAny_newObj_type (wpAny_pure ⟨_, rfl, wpAny_pure h⟩) (Nat.le_trans (slicePick_size_le its lo hi st) hsz))

/-- the tail of a subscript whose base is such an instance -/
theorem notInPy {Q : Bool → Shared → Prop} (X : K.In s.heap) (I : InstAt s.heap x ox C od) (hf : findIn K (.ref C) "__getitem__" = some (some (.builtin "list.__getitem__"))) (h : Q false s) :
    wpAny M A (getitemInPython (.ref x)) Q E s := by
  unfold getitemInPython specialOf
  exact wpAny_bind (wpAny_bind (I.type.here ((looks_findIn X hf).here (wpAny_pure h))))

theorem slice_l {value slice : PySem.Expr} {vl vu : Value} {lo hi : Option Int} {Q : Value → Shared → Prop} (F : Fr h₀ L s.heap m) (X : K.In h₀) (N : News h₀ L s.heap news) (I : InstAt s.heap x (lobj C d its n) C (some (dictOf es k)))
    (hk : mroIn K C (.type "collections.deque") = some false) (hm : mroIn K C (.type "list") = some true) (hf : findIn K (.ref C) "__getitem__" = some (some (.builtin "list.__getitem__")))
    (pl : IsPart vl lo) (pu : IsPart vu hi) (h : ∀ D h', Fr h₀ L h' m → News h₀ L h' ((D, listOf (slicePick its lo hi none) 0) :: news) → (∀ p ∈ news, p.1 < D) → Q (.ref D) { s with heap := h' })
    (hs : subscripted slice false (.ref x) (.ref s.heap.objs.size) = operate [.ref s.heap.objs.size, .ref x] (getItem (.ref x) (.ref s.heap.objs.size))) (ht : ∀ r, letTemporaryGo value (.ref x) r = pure ()) (hz : its.size ≤ sizeLine) :
    wpAny (model prog w) A (subscriptTail value slice (.ref x) (.ref s.heap.objs.size)) Q E { s with heap := s.heap.push { cls := .type "slice", data := .fields #[vl, vu, .none] } } := by
  have X' : K.In (s.heap.push { cls := .type "slice", data := .fields #[vl, vu, .none] }) := (X.keeps F.keep).keeps fun b o e => Heap.get?_push_of_some _ e
  have I' : InstAt (s.heap.push { cls := .type "slice", data := .fields #[vl, vu, .none] }) x (lobj C d its n) C (some (dictOf es k)) := lobj_inst (Heap.get?_push_of_some _ I.at_) (Heap.get?_push_of_some _ I.dict)
  unfold subscriptTail
  refine wpAny_bind (notInPy X' I' hf ?_)
  rw [hs]
  refine wpAny_bind (wpAny_operating (getItem_slice_l (st := none) X' I' hk hm hf (Heap.IsSliceOf.new _ _ _ _) pl pu .none (by decide) ?_ hz))
  refine wpAny_bind (wpAny_of_eq (ht _) (wpAny_pure ?_))
  refine h _ _ ((F.push _).push _) ?_ (fun p hp => ?_)
  · intro p hp
    have N1 := (N.push F { cls := .type "slice", data := .fields #[vl, vu, .none] }).push (F.push _) (listOf (slicePick its lo hi none) 0)
    rcases List.mem_cons.mp hp with rfl | hp
    · exact N1 _ (.head _)
    · exact N1 _ (.tail _ (.tail _ hp))
  · rw [Heap.size_push]
    exact Nat.lt_succ_of_lt (Heap.lt_size (N p hp).1)
end
end
/- R4 -/
section
open PySem PySem.W PySem.Calls PyProof.Rows

/-- a run of places replaced -/
noncomputable def spl (its new : Array Value) (a b : Nat) : Array Value := its.extract 0 a ++ new ++ its.extract (max a b) its.size
theorem spl_size_le (its new : Array Value) (a b : Nat) : (spl its new a b).size ≤ its.size + new.size := by
  unfold spl
  simp only [Array.size_append, Array.size_extract]
  have h1 : min a its.size ≤ max a b := Nat.le_trans (Nat.min_le_left _ _) (Nat.le_max_left _ _)
  have h2 := Nat.min_le_right a its.size
  rw [Nat.min_self, Nat.sub_zero]
  generalize min a its.size = p at *
  have h3 : p + (its.size - max a b) ≤ its.size := Nat.le_trans (Nat.add_le_add_left (Nat.sub_le_sub_left h1 _) _) (Nat.le_of_eq (Nat.add_sub_cancel' h2))
  omega

section
variable {prog : Program} {w : World} {M : Model} {A : Around} {E : Value → Shared → Prop} {s : Shared} {K : Frag} {x C d L : Addr} {h₀ h : Heap} {m : Str → Option Value} {news news' : List (Addr × Obj)} {its its' : Array Value} {n n' k : Nat} {es es' : List DictEntry} {ox : Obj} {od : Option Obj} {name : Str} {v : Value}

theorem setItem_slice_l {sl l : Addr} {vl vu : Value} {lo hi : Option Int} {new : Array Value} {Q : Unit → Shared → Prop} (X : K.In s.heap) (I : InstAt s.heap x (lobj C d its n) C od)
    (hk : mroIn K C (.type "collections.deque") = some false) (hm : mroIn K C (.type "list") = some true) (hf : findIn K (.ref C) "__setitem__" = some (some (.builtin "list.__setitem__")))
    (hs : s.heap.IsSliceOf sl vl vu .none) (pl : IsPart vl lo) (pu : IsPart vu hi) (hl : s.heap.IsList l new)
    (h : Q () { s with heap := s.heap.update x (Obj.mapSeq fun xs => xs.extract 0 (lo.elim 0 (clipAt its.size)) ++ new ++ xs.extract (max (lo.elim 0 (clipAt its.size)) (hi.elim its.size (clipAt its.size))) xs.size) })
    (hsz : its.size + new.size ≤ sizeLine) : wpAny (model prog w) A (setItem (.ref x) (.ref sl) (.ref l)) Q E s := by
  obtain ⟨os, hos, hcs, hds⟩ := id hs
  have hTs : s.TypeIs (.ref sl) "slice" := ⟨os, hos, hcs⟩
  obtain ⟨ol, hol, hcl, ne, hdl⟩ := id hl
  have hne : Builtin.List.listSameRef (.ref x) (.ref l) = false := by
    show (x == l) = false
    cases hb : x == l with
    | false => rfl
    | true =>
      have := eq_of_beq hb
      subst this
      have e := I.at_
      rw [hol] at e
      cases e
      cases hcl
  unfold setItem
  refine wpAny_holding ?_
  refine wpAny_bind (seqKey_l X I hk ?_)
  refine wpAny_bind (special_bi (name := Str.ofString "__setitem__") lb_setitem.bind X I hf (call_bi lb_setitem X I hm (args_list_setitem _ _ _) ?_))
  show wpAny _ _ (Builtin.List.listSubscript? (.ref sl) >>= _) _ _ s
  refine wpAny_bind ?_
  unfold Builtin.List.listSubscript?
  refine wpAny_bind (wpAny_specialOf hTs slice_no_index ?_)
  simp only [Option.isNone_none, if_true]
  refine wpAny_pure ?_
  show wpAny _ _ (typeOf (.ref sl) >>= _) _ _ s
  refine wpAny_bind (wpAny_typeOf hTs ?_)
  rw [if_neg (by decide)]
  rw [listSliceParts_eq]
  refine wpAny_bind (wpAny_bind (wpAny_field hos hds (x := Value.none) rfl (wpAny_bind (wpAny_listPart (k := none) .none ?_))))
  rw [if_neg (show ¬ ((rawPart none == rawInt 0) = true) from Bool.false_ne_true)]
  refine wpAny_bind (wpAny_field hos hds (x := vl) rfl (wpAny_bind (wpAny_listPart pl ?_)))
  refine wpAny_bind (wpAny_field hos hds (x := vu) rfl (wpAny_bind (wpAny_listPart pu (wpAny_pure ?_))))
  dsimp only
  rw [hne, if_neg Bool.false_ne_true]
  refine wpAny_bind ?_
  unfold Builtin.List.listAllItems
  refine wpAny_bind (wpAny_typeOf hl.typeIs ?_)
  rw [if_pos (by decide)]
  refine wpAny_listItems hol hdl ?_
  refine wpAny_bind (wpAny_listItems I.at_ rfl ?_)
  refine wpAny_bind (wpAny_of_eq (sliceIndices_raw lo hi none its.size (by decide)) ?_)
  rw [sliceBounds_plain]
  dsimp only
  rw [if_pos (by decide)]
  refine wpAny_bind (wpAny_rule ?_)
  rw [if_neg (show ¬ (Builtin.List.listTooLong (its.size + new.size) = true) by unfold Builtin.List.listTooLong; simp only [decide_eq_true_eq]; omega)]
  have hsz' : its.size ≤ sizeLine := by omega
  refine wpAny_bind ?_
  show wpAny _ _ (updateSeq x _) _ _ _
  have em : max ((lo.elim 0 (clipAt its.size) : Nat) : Int) ((hi.elim its.size (clipAt its.size) : Nat) : Int) = ((max (lo.elim 0 (clipAt its.size)) (hi.elim its.size (clipAt its.size)) : Nat) : Int) := by omega
  rw [em]
  simp only [Int.toNat_natCast]
  refine wpAny_updateSeq I.at_ rfl ?_ hsz' ?_
  · exact wpAny_bind (wpAny_letGo (wpAny_pure ⟨_, rfl, wpAny_pure h⟩))
  · have := spl_size_le its new (lo.elim 0 (clipAt its.size)) (hi.elim its.size (clipAt its.size))
    unfold spl at this
    omega

theorem setslice_l {l : Addr} {vl vu : Value} {lo hi : Option Int} {new : Array Value} {nl a b : Nat} {Q : Unit → Shared → Prop} (F : Fr h₀ L s.heap m) (X : K.In h₀) (N : News h₀ L s.heap news) (I : InstAt s.heap x (lobj C d its n) C (some (dictOf es k)))
    (hk : mroIn K C (.type "collections.deque") = some false) (hm : mroIn K C (.type "list") = some true) (hf : findIn K (.ref C) "__setitem__" = some (some (.builtin "list.__setitem__")))
    (pl : IsPart vl lo) (pu : IsPart vu hi) (hl : s.heap.IsList l new) (ha : lo.elim 0 (clipAt its.size) = a) (hb : hi.elim its.size (clipAt its.size) = b)
    (U : Upd x (lobj C d its n) (lobj C d (spl its new a b) (if (spl its new a b).size == its.size then n else n + 1)) news news')
    (h : ∀ h', Fr h₀ L h' m → News h₀ L h' news' → Q () { s with heap := h' })
    (hz : its.size + new.size ≤ sizeLine) :
    wpAny (model prog w) A (setItem (.ref x) (.ref s.heap.objs.size) (.ref l)) Q E { s with heap := s.heap.push { cls := .type "slice", data := .fields #[vl, vu, .none] } } := by
  subst ha hb
  have X' : K.In (s.heap.push { cls := .type "slice", data := .fields #[vl, vu, .none] }) := (X.keeps F.keep).keeps fun b o e => Heap.get?_push_of_some _ e
  have I' : InstAt (s.heap.push { cls := .type "slice", data := .fields #[vl, vu, .none] }) x (lobj C d its n) C (some (dictOf es k)) := lobj_inst (Heap.get?_push_of_some _ I.at_) (Heap.get?_push_of_some _ I.dict)
  refine setItem_slice_l X' I' hk hm hf (Heap.IsSliceOf.new _ _ _ _) pl pu (hl.push _) ?_ hz
  have N1 : News h₀ L (s.heap.push { cls := .type "slice", data := .fields #[vl, vu, .none] }) news := fun p hp => (N.push F { cls := .type "slice", data := .fields #[vl, vu, .none] }) p (.tail _ hp)
  have z := upd_at (F.push { cls := .type "slice", data := .fields #[vl, vu, .none] }) N1 U
  have ho : ((s.heap.push { cls := .type "slice", data := .fields #[vl, vu, .none] }).update x (Obj.mapSeq fun xs => xs.extract 0 (lo.elim 0 (clipAt its.size)) ++ new ++ xs.extract (max (lo.elim 0 (clipAt its.size)) (hi.elim its.size (clipAt its.size))) xs.size)).get? x =
      some (lobj C d (spl its new (lo.elim 0 (clipAt its.size)) (hi.elim its.size (clipAt its.size))) (if (spl its new (lo.elim 0 (clipAt its.size)) (hi.elim its.size (clipAt its.size))).size == its.size then n else n + 1)) := by
    rw [Heap.get?_update_self _ z.1 (by rfl)]
    rfl
  obtain ⟨a, b⟩ := upd_go (F.push _) N1 U (Heap.SameBut.update ..) ho
  exact h _ a b
end
end
/- R5 -/
section
open PySem PySem.W PySem.Calls PyProof.Rows

/-- a built-in bound to an instance -/
noncomputable abbrev boundObj (T i : String) (x : Addr) : Obj := { cls := .type T, data := .fields #[.builtin i, .ref x] }

theorem look_md : typeLookup (.type "method_descriptor") "__get__" = pure (some (.builtin "method_descriptor.__get__")) := by rw [typeLookup_type, builtinLookup_eq_fast]; kernel_rfl
theorem look_wd : typeLookup (.type "wrapper_descriptor") "__get__" = pure (some (.builtin "wrapper_descriptor.__get__")) := by rw [typeLookup_type, builtinLookup_eq_fast]; kernel_rfl
theorem entry_md : entryFor table "method_descriptor.__get__" = some Builtin.«method_descriptor.__get__» := entryFor_of_tree (by kernel_rfl)
theorem entry_wd : entryFor table "wrapper_descriptor.__get__" = some Builtin.«wrapper_descriptor.__get__» := entryFor_of_tree (by kernel_rfl)
theorem args_md (a b c : Value) : argsOk "method_descriptor.__get__" ⟨[a, b, c], []⟩ := by unfold argsOk; kernel_rfl
theorem args_wd (a b c : Value) : argsOk "wrapper_descriptor.__get__" ⟨[a, b, c], []⟩ := by unfold argsOk; kernel_rfl

section
variable {prog : Program} {w : World} {M : Model} {A : Around} {E : Value → Shared → Prop} {s : Shared} {K : Frag} {x C D d L so : Addr} {h₀ h : Heap} {m : Str → Option Value} {news news' : List (Addr × Obj)} {its its' : Array Value} {n n' k : Nat} {es es' : List DictEntry} {ox : Obj} {od : Option Obj} {name : Str} {v : Value}

/-- the built-in's own __get__ upon the instance -/
theorem get_pop {Q : Value → Shared → Prop} (X : K.In s.heap) (I : InstAt s.heap x ox C od) (hm : mroIn K C (.type "list") = some true)
    (h : Q (.ref s.heap.objs.size) { s with heap := s.heap.push (boundObj "builtin_function_or_method" "list.pop" x) }) :
    wpAny (model prog w) A (call (.builtin "method_descriptor.__get__") [.builtin "list.pop", .ref x, .ref C]) Q E s := by
  have hi : Looks (model prog w) s.heap (isInstance (.builtin "list.pop") (.type "method_descriptor")) true := (Looks.of_pure (show typeOf (.builtin "list.pop") = pure (.type "method_descriptor") by show builtinType _ = _; rw [builtinType_eq_fast]; kernel_rfl)).andThen (Looks.of_pure (by rw [isSubtype_type]; kernel_rfl))
  refine wpAny_call (codeAny_call_builtin (by decide +kernel) entry_md (check_any (i := "method_descriptor.__get__") (owner := "method_descriptor") (nm := "__get__") (by first | exact .inl (by decide +kernel) | exact .inr (by decide +kernel)) (by decide +kernel) hi (args_md _ _ _) ?_))
  have L0 : Looks (model prog w) s.heap (typeOf (.ref x)) (.ref C) := I.type
  have L1 : Looks (model prog w) s.heap (isSubtype (.ref C) (.type (".".intercalate ("list.pop".cutAt '.').dropLast))) true := by
    rw [show ".".intercalate ("list.pop".cutAt '.').dropLast = "list" by decide +kernel]
    exact looks_mroIn X hm
  obtain ⟨hh, g, dr, t, os⟩ := s
  unfold Builtin.«method_descriptor.__get__»
  repeat (first | lk | (rw [if_neg (show ¬ ((!true) = true) by decide)]))
  exact h
theorem get_wd {i : String} {Q : Value → Shared → Prop} (X : K.In s.heap) (I : InstAt s.heap x ox C od) (hm : mroIn K C (.type "list") = some true) (hi : i = "list.__len__" ∨ i = "list.__init__")
    (h : Q (.ref s.heap.objs.size) { s with heap := s.heap.push (boundObj "method-wrapper" i x) }) :
    wpAny (model prog w) A (call (.builtin "wrapper_descriptor.__get__") [.builtin i, .ref x, .ref C]) Q E s := by
  have L0 : Looks (model prog w) s.heap (typeOf (.ref x)) (.ref C) := I.type
  have hl := looks_mroIn (M := model prog w) X hm
  rcases hi with rfl | rfl
  · have L1 : Looks (model prog w) s.heap (isSubtype (.ref C) (.type (".".intercalate ("list.__len__".cutAt '.').dropLast))) true := by
      rw [show ".".intercalate ("list.__len__".cutAt '.').dropLast = "list" by decide +kernel]
      exact hl
    refine wpAny_call (codeAny_call_builtin (by decide +kernel) entry_wd (check_any (i := "wrapper_descriptor.__get__") (owner := "wrapper_descriptor") (nm := "__get__") (by first | exact .inl (by decide +kernel) | exact .inr (by decide +kernel)) (by decide +kernel)
      ((Looks.of_pure (show typeOf _ = pure (.type "wrapper_descriptor") by show builtinType _ = _; rw [builtinType_eq_fast]; kernel_rfl)).andThen (Looks.of_pure (by rw [isSubtype_type]; kernel_rfl))) (args_wd _ _ _) ?_))
    obtain ⟨hh, g, dr, t, os⟩ := s
    unfold Builtin.«wrapper_descriptor.__get__»
    repeat (first | lk | (rw [if_neg (show ¬ ((!true) = true) by decide)]))
    exact h
  · have L1 : Looks (model prog w) s.heap (isSubtype (.ref C) (.type (".".intercalate ("list.__init__".cutAt '.').dropLast))) true := by
      rw [show ".".intercalate ("list.__init__".cutAt '.').dropLast = "list" by decide +kernel]
      exact hl
    refine wpAny_call (codeAny_call_builtin (by decide +kernel) entry_wd (check_any (i := "wrapper_descriptor.__get__") (owner := "wrapper_descriptor") (nm := "__get__") (by first | exact .inl (by decide +kernel) | exact .inr (by decide +kernel)) (by decide +kernel)
      ((Looks.of_pure (show typeOf _ = pure (.type "wrapper_descriptor") by show builtinType _ = _; rw [builtinType_eq_fast]; kernel_rfl)).andThen (Looks.of_pure (by rw [isSubtype_type]; kernel_rfl))) (args_wd _ _ _) ?_))
    obtain ⟨hh, g, dr, t, os⟩ := s
    unfold Builtin.«wrapper_descriptor.__get__»
    repeat (first | lk | (rw [if_neg (show ¬ ((!true) = true) by decide)]))
    exact h

theorem inst_ne {cd : ClassData} (X : K.In h) (I : InstAt h x ox C od) (hc : clsIn K C = some cd) : x ≠ C := ks_ne X I hc

theorem super_ga {i T : String} {tk : Tok} {l : List Value} {gid : String} {cd : ClassData} {Q : Fin → Shared → Prop} (X : K.In s.heap) (I : InstAt s.heap x ox C od)
    (hso : s.heap.get? so = some (ks_superObj D x C)) (hno : nsIn K cStatics "thirdparty.any" = some none) (hc : clsIn K C = some cd) (hl : (cd.mro.dropWhile (· != .ref D)).drop 1 = l)
    (ht : typeIn K (.builtin i) = some (.type T)) (hg : typeLookup (.type T) "__get__" = pure (some (.builtin gid)))
    (hf : alongIn K name l = some (some (.builtin i))) (hn : (name == ("__class__" : Str)) = false)
    (hget : wpAny (model prog w) A (call (.builtin gid) [.builtin i, .ref x, .ref C]) (fun v s' => Q (.done (.ret v)) s') E s) :
    wpAny (model prog w) A (Builtin.«super.__getattribute__» ⟨[.ref so, .str name tk], []⟩) Q E s := by
  have hne : (Value.ref x == Value.ref C) = false := by simp [inst_ne X I hc]
  have hC : Looks (model prog w) s.heap (mroOf (.ref C)) cd.mro := (looks_clsIn X hc).andThen .now
  have hno' := looks_opaque (M := model prog w) X (C := C) hno
  have hT := looks_typeIn (M := model prog w) X ht
  obtain ⟨h, g, dr, t, os⟩ := s
  have hdt : (ks_superObj D x C).data = .fields #[.ref D, .ref x, .ref C] := rfl
  have f0 : (#[.ref D, .ref x, .ref C] : Array Value)[0]? = some (.ref D) := rfl
  have f1 : (#[.ref D, .ref x, .ref C] : Array Value)[1]? = some (.ref x) := rfl
  have f2 : (#[.ref D, .ref x, .ref C] : Array Value)[2]? = some (.ref C) := rfl
  unfold Builtin.«super.__getattribute__»
  repeat (first
    | (with_reducible refine wpAny_field hso hdt f0 ?_) | (with_reducible refine wpAny_field hso hdt f1 ?_) | (with_reducible refine wpAny_field hso hdt f2 ?_)
    | (with_reducible refine ks_wpAny_notOpaque hno' ?_)
    | (with_reducible refine Looks.at hC ?_; rw [hl])
    | (refine ks_forIn_along X (fun _ _ => rfl) rfl ?_ hf)
    | (with_reducible refine Looks.at hT ?_)
    | (with_reducible refine wpAny_of_eq hg ?_)
    | (with_reducible refine wpAny_mono hget (fun v s' hv => ?_) fun _ _ z => z)
    | (simp only [hn, hne, Bool.or_false, Bool.false_eq_true, if_false])
    | wp_step
    | dsimp only)
  all_goals exact hv
end
end
/- R6 -/
section
open PySem PySem.W PySem.Calls PyProof.Rows

section
variable {prog : Program} {w : World} {M : Model} {A : Around} {E : Value → Shared → Prop} {s : Shared} {K : Frag} {x C D d L so q : Addr} {h₀ h : Heap} {m : Str → Option Value} {news news' : List (Addr × Obj)} {its its' : Array Value} {n n' k : Nat} {es es' : List DictEntry} {ox : Obj} {od : Option Obj} {name : Str} {v : Value}

theorem super_method {i T : String} {gid Tb : String} {cd : ClassData} {l : List Value} {pl : Sem Bool} {Q : Value × List Value → Shared → Prop} (F : Fr h₀ L s.heap m) (X₀ : K.In h₀) (N : News h₀ L s.heap news) (I : InstAt s.heap x ox C od)
    (hso : s.heap.get? so = some (ks_superObj D x C)) (hno : nsIn K cStatics "thirdparty.any" = some none) (hc : clsIn K C = some cd) (hl : (cd.mro.dropWhile (· != .ref D)).drop 1 = l)
    (ht : typeIn K (.builtin i) = some (.type T)) (hg : typeLookup (.type T) "__get__" = pure (some (.builtin gid)))
    (hf : alongIn K name l = some (some (.builtin i))) (hn : (name == ("__class__" : Str)) = false)
    (hget : ∀ (A : Around) (Q' E' : Value → Shared → Prop) (s' : Shared), s'.heap = s.heap → Q' (.ref s.heap.objs.size) { s' with heap := s.heap.push (boundObj Tb i x) } → wpAny (model prog w) A (call (.builtin gid) [.builtin i, .ref x, .ref C]) Q' E' s')
    (h : ∀ q h', Fr h₀ L h' m → News h₀ L h' ((q, boundObj Tb i x) :: news) → (∀ p ∈ news, p.1 < q) → Q (.ref q, []) { s with heap := h', toks := s.toks + 1 }) :
    wpAny (model prog w) A (getMethod (.ref so) name pl) Q E s := by
  have hlk := PySem.F.ks_slot_super_ga.lookup
  have hcan := PySem.F.ks_canon_super_ga
  have hq := h s.heap.objs.size _ (F.push _) (N.push F (boundObj Tb i x)) fun p hp => Heap.lt_size (N p hp).1
  have X := X₀.keeps F.keep
  obtain ⟨hh, g, dr, t, os⟩ := s
  have hT : ∀ t', (⟨hh, g, dr, t', os⟩ : Shared).TypeIs (.ref so) "super" := fun _ => ⟨_, hso, rfl⟩
  unfold getMethod
  refine wpAny_bind (wpAny_specialOf (hT _) hlk ?_)
  show wpAny _ _ (if (Manifest.canonical "super.__getattribute__" != "object.__getattribute__") = true then _ else _) _ _ _
  rw [if_pos hcan]
  unfold getAttr getAttrBy
  refine wpAny_bind (wpAny_bind (wpAny_mkText (wpAny_holding (wpAny_bind (wpAny_typeOf (hT _) (wpAny_bind (wpAny_of_eq hlk ?_)))))))
  show wpAny _ _ (getAttrByItsOwn (.ref so) (.str name t) (.type "super") (.builtin "super.__getattribute__") true false) _ _ _
  unfold getAttrByItsOwn hookBefore callGetattribute boundAndCalled
  refine wpAny_bind (wpAny_of_eq (show (if onTheHeap (.type "super") then typeLookup (.type "super") "__getattr__" else pure none) = pure none from rfl) ?_)
  refine wpAny_bind (wpAny_attempt (wpAny_holding ?_))
  show wpAny _ _ (bindSpecial (.builtin "super.__getattribute__") (.ref so) >>= _) _ _ _
  refine wpAny_bind (wpAny_of_eq (PySem.F.ks_slot_super_ga.bind _) ?_)
  refine wpAny_mono (Q := fun v s' => v = .ref hh.objs.size ∧ s' = ⟨hh.push (boundObj Tb i x), g, dr, t + 1, os⟩) (E := fun _ _ => False)
    (wpAny_call_entry PySem.F.ks_slot_super_ga (hT _) PySem.F.ks_entry_super_ga (super_ga (s := ⟨hh, g, dr, t + 1, os⟩) X I hso hno hc hl ht hg hf hn (hget _ _ _ _ rfl ⟨_, rfl, rfl, rfl⟩)) (PySem.F.ks_gaArgs_super _ _)) (fun v s' hv => ?_) fun _ _ z => z.elim
  obtain ⟨rfl, rfl⟩ := hv
  exact wpAny_pure (wpAny_pure hq)

/-- the keeper of a bound built-in is the machine -/
theorem keeps_bound {T i : String} (hT : T = "builtin_function_or_method" ∨ T = "method-wrapper") (hq : h.get? q = some (boundObj T i x)) : Looks M h (keeperOf (.ref q)) Keeper.machine := by
  unfold keeperOf
  refine (Looks.ld (part := none) hq).andThen ?_
  dsimp only
  rcases hT with rfl | rfl
  · rw [if_pos (by decide +kernel), if_pos (by decide +kernel)]; exact .now
  · rw [if_pos (by decide +kernel), if_pos (by decide +kernel)]; exact .now

theorem callWith_bound {env : Env} {pos : Pos} {T i : String} {Q : Value → Shared → Prop} (hT : T = "builtin_function_or_method" ∨ T = "method-wrapper") (hq : s.heap.get? q = some (boundObj T i x))
    (h : wpAny M A (call (.ref q) []) Q E s) : wpAny M A (callWith pos (.ref q) [] (backTo pos (starEach [] env)) []) Q E s :=
  callWith_of (P := fun h => h.get? q = some (boundObj T i x)) rfl (fun _ e => ⟨.machine, .inr (.inl rfl), keeps_bound hT e⟩) (evalArgs_nil3 ⟨hq, h⟩)

theorem call_bound {T i nm : String} {b : Builtin} {Q : Value → Shared → Prop} (hT : T = "builtin_function_or_method" ∨ T = "method-wrapper") (hq : s.heap.get? q = some (boundObj T i x)) (B : LB i nm b) (hi : Code.quiet (.builtin i ⟨[.ref x], []⟩) = true)
    (hck : wpAny (model prog w) A.in1 (checkBoundCall i ⟨[.ref x], []⟩) (fun _ s' => s' = s) (fun _ _ => False) s)
    (hc : wpAny (model prog w) A.in1 (b ⟨[.ref x], []⟩) (fun fin s' => ∃ v, fin = .done (.ret v) ∧ Q v s') E s) : wpAny (model prog w) A (call (.ref q) []) Q E s := by
  refine wpAny_call (codeAny_of_tree ?_)
  rw [Around.under_plain (by rfl) (by rfl)]
  show wpAny _ _ (callAny (.ref q) _) _ _ _
  unfold callAny
  refine wpAny_bind (wpAny_load hq ?_)
  have fin : wpAny (model prog w) A.in1 (checkBoundCall i ⟨[.ref x], []⟩ >>= fun _ => again (.builtin i ⟨[.ref x], []⟩)) (fun fin s' => match fin with
      | .done f => (match (Except.ok f : Result) with | .ok (.ret v) => Q v s' | .ok _ => False | .error e => E e s')
      | .again c' => c'.quiet = true ∧ codeAny (model prog w) A c' (fun r s' => match r with | .ok (.ret v) => Q v s' | .ok _ => False | .error e => E e s') s') (fun e s' => E e s') s := by
    refine wpAny_bind (wpAny_mono hck (fun _ s' e => ?_) fun _ _ z => z.elim)
    subst e
    refine wpAny_pure ⟨hi, codeAny_builtin B.entry ?_⟩
    rw [Around.under_plainId B.plain]
    refine wpAny_mono hc (fun fin s'' h' => ?_) fun _ _ z => z
    obtain ⟨v, rfl, hv⟩ := h'
    exact hv
  rcases hT with rfl | rfl
  · exact fin
  · exact fin
end
end
/- R7 -/
section
open PySem PySem.W PySem.Calls PyProof.Rows

theorem has_pop : (Manifest.signature? "list.pop").isSome = true := by kernel_rfl
noncomputable def sg_pop : Manifest.Signature := (Manifest.signature? "list.pop").get has_pop
theorem sig_pop : Manifest.signature? "list.pop" = some sg_pop := (Option.some_get has_pop).symm
theorem has_len : (Manifest.signature? "list.__len__").isSome = true := by kernel_rfl
noncomputable def sg_len : Manifest.Signature := (Manifest.signature? "list.__len__").get has_len
theorem sig_len : Manifest.signature? "list.__len__" = some sg_len := (Option.some_get has_len).symm
theorem has_init : (Manifest.signature? "list.__init__").isSome = true := by kernel_rfl
noncomputable def sg_init : Manifest.Signature := (Manifest.signature? "list.__init__").get has_init
theorem sig_init : Manifest.signature? "list.__init__" = some sg_init := (Option.some_get has_init).symm
theorem kind_pop : builtinKind "list.pop" = some .method := by kernel_rfl
theorem kind_len : builtinKind "list.__len__" = some .slot := by kernel_rfl
theorem kind_init : builtinKind "list.__init__" = some .slot := by kernel_rfl
theorem chk_pop (x : Value) : Bind.checkArgs "list.pop" { sg_pop with full := s!"{(Str.ofString "_Accumulator").toString}.{Bind.lastOf "list.pop"}" } ⟨[x], []⟩ = pure () := by kernel_rfl
theorem chk_len (x : Value) : Bind.checkArgs "list.__len__" sg_len ⟨[x], []⟩ = pure () := by kernel_rfl
theorem chk_init (x : Value) : Bind.checkArgs "list.__init__" sg_init ⟨[x], []⟩ = pure () := by kernel_rfl
theorem var_pop : Manifest.varargsMethods.contains "list.pop" = false := by kernel_rfl

section
variable {prog : Program} {w : World} {M : Model} {A : Around} {E : Value → Shared → Prop} {s : Shared} {K : Frag} {x C D d L so q : Addr} {h₀ h : Heap} {m : Str → Option Value} {news news' : List (Addr × Obj)} {its its' : Array Value} {n n' k : Nat} {es es' : List DictEntry} {ox : Obj} {od : Option Obj} {name : Str} {v : Value}

theorem check_len {E : Value → Shared → Prop} : wpAny M A (checkBoundCall "list.__len__" ⟨[.ref x], []⟩) (fun _ s' => s' = s) E s := by
  unfold checkBoundCall
  rw [sig_len, kind_len]
  dsimp only
  rw [if_pos (by decide), chk_len]
  exact wpAny_pure rfl
theorem check_init {E : Value → Shared → Prop} : wpAny M A (checkBoundCall "list.__init__" ⟨[.ref x], []⟩) (fun _ s' => s' = s) E s := by
  unfold checkBoundCall
  rw [sig_init, kind_init]
  dsimp only
  rw [if_pos (by decide), chk_init]
  exact wpAny_pure rfl
theorem check_pop {E : Value → Shared → Prop} {cd : ClassData} (X : K.In s.heap) (I : InstAt s.heap x ox C od) (hc : clsIn K C = some cd) (hcn : cd.qualname = Str.ofString "_Accumulator") (ht : typeIn K (.ref C) = some (.type "type")) (hmo : mroIn K C (.type "module") = some false) :
    wpAny M A (checkBoundCall "list.pop" ⟨[.ref x], []⟩) (fun _ s' => s' = s) E s := by
  have hx := I.at_
  have hn := I.no
  unfold checkBoundCall
  rw [sig_pop, kind_pop]
  dsimp only
  rw [if_neg (by decide)]
  have hm : Looks M s.heap (isInstance (.ref x) (.type "module")) false := I.type.andThen (looks_mroIn X hmo)
  refine wpAny_bind (hm.here ?_)
  rw [var_pop, if_neg (by decide)]
  have hty : Looks M s.heap (isType (.ref x)) false := by
    unfold isType loadHead
    refine (Looks.ld hx).andThen ?_
    obtain ⟨oc, odd, odt, osl⟩ := ox
    cases odt <;> first | exact .now | exact Bool.noConfusion hn
  refine wpAny_bind (hty.here ?_)
  rw [if_neg Bool.false_ne_true]
  refine wpAny_bind (I.type.here ?_)
  dsimp only
  refine wpAny_bind ((looks_clsIn X hc).here ?_)
  refine wpAny_bind ((looks_typeIn X ht).here ?_)
  rw [if_pos (by decide), hcn, chk_pop]
  exact wpAny_pure rfl

theorem erase_last (its : Array Value) : its.eraseIdxIfInBounds (its.size - 1) = its.pop := by
  unfold Array.eraseIdxIfInBounds
  split
  · rename_i h
    apply Array.ext'
    rw [Array.toList_eraseIdx, Array.toList_pop]
    rw [List.eraseIdx_eq_take_drop_succ, List.dropLast_eq_take, Array.length_toList, List.drop_eq_nil_of_le (by rw [Array.length_toList]; omega), List.append_nil]
  · rename_i h
    have : its.size = 0 := by omega
    have : its = #[] := Array.eq_empty_of_size_eq_zero this
    subst this; rfl

theorem pop_bound {cd : ClassData} {Q : Value → Shared → Prop} (F : Fr h₀ L s.heap m) (X₀ : K.In h₀) (N : News h₀ L s.heap news) (I : InstAt s.heap x (lobj C d its n) C od)
    (hc : clsIn K C = some cd) (hcn : cd.qualname = Str.ofString "_Accumulator") (ht : typeIn K (.ref C) = some (.type "type")) (hmo : mroIn K C (.type "module") = some false)
    (hq : (q, boundObj "builtin_function_or_method" "list.pop" x) ∈ news) (hv : its.back? = some v) (hz : its.size ≤ sizeLine)
    (U : Upd x (lobj C d its n) (lobj C d its.pop (n + 1)) news news')
    (h : ∀ h', Fr h₀ L h' m → News h₀ L h' news' → Q v { s with heap := h' }) : wpAny (model prog w) A (call (.ref q) []) Q E s := by
  have X := X₀.keeps F.keep
  have z := upd_at F N U
  have hpos : 0 < its.size := by
    cases e : its.size with
    | zero =>
      have : its = #[] := Array.eq_empty_of_size_eq_zero e
      subst this; cases hv
    | succ k => omega
  refine call_bound (.inl rfl) (N _ hq).1 lb_pop (plainId_quiet lb_pop.plain _) (check_pop X I hc hcn ht hmo) ?_
  show wpAny _ _ (Builtin.List.listItems (.ref x) >>= _) _ _ _
  refine wpAny_bind (wpAny_listItems I.at_ rfl ?_)
  have hne : its.isEmpty = false := by rw [Array.isEmpty_eq_false_iff_exists_mem]; exact ⟨its[0], Array.getElem_mem hpos⟩
  rw [hne, if_neg Bool.false_ne_true]
  have hi : seqIndex? (-1) its.size = some (its.size - 1) := by
    unfold seqIndex?
    have h1 : ((-1 : Int) < 0) := by decide
    simp only [h1, if_true]
    have h2 : (0 : Int) ≤ -1 + (its.size : Int) := by omega
    have h3 : -1 + (its.size : Int) < its.size := by omega
    simp only [h2, h3, decide_true, Bool.and_self, if_true]
    congr 1
    omega
  rw [hi]
  have hv' : its[its.size - 1]? = some v := by rw [← hv]; rfl
  dsimp only [Option.bind_some]
  rw [hv']
  dsimp only [Option.map_some]
  show wpAny _ _ (updateSeq x _ >>= _) _ _ _
  refine wpAny_bind (wpAny_updateSeq z.1 rfl (wpAny_pure ⟨v, rfl, ?_⟩) hz (by rw [erase_last, Array.size_pop]; omega))
  have e : Obj.mapSeq (·.eraseIdxIfInBounds (its.size - 1)) (lobj C d its n) = lobj C d its.pop (n + 1) := by
    rw [mapSeq_lobj, erase_last, if_neg (by rw [Array.size_pop, beq_iff_eq]; omega)]
  have ho : (s.heap.update x (Obj.mapSeq (·.eraseIdxIfInBounds (its.size - 1)))).get? x = some (lobj C d its.pop (n + 1)) := by
    rw [Heap.get?_update_self _ z.1 (by rw [e]; rfl), e]
  obtain ⟨a, b⟩ := upd_go F N U (Heap.SameBut.update ..) ho
  exact h _ a b

theorem len_bound {Q : Value → Shared → Prop} (N : News h₀ L s.heap news) (I : InstAt s.heap x (lobj C d its n) C od)
    (hq : (q, boundObj "method-wrapper" "list.__len__" x) ∈ news)
    (h : Q (.int its.size s.toks) { s with toks := s.toks + 1 }) : wpAny (model prog w) A (call (.ref q) []) Q E s := by
  refine call_bound (.inr rfl) (N _ hq).1 lb_len (plainId_quiet lb_len.plain _) check_len ?_
  show wpAny _ _ (seqSize x >>= _) _ _ _
  refine wpAny_bind ?_
  unfold seqSize
  refine wpAny_bind (wpAny_loadPart I.at_ (wpAny_pure ?_))
  unfold retInt
  exact wpAny_bind (wpAny_mkInt (wpAny_pure ⟨_, rfl, h⟩))

theorem init_bound {Q : Value → Shared → Prop} (F : Fr h₀ L s.heap m) (N : News h₀ L s.heap news) (I : InstAt s.heap x (lobj C d #[] n) C od)
    (hq : (q, boundObj "method-wrapper" "list.__init__" x) ∈ news)
    (U : Upd x (lobj C d #[] n) (lobj C d #[] n) news news')
    (h : ∀ h', Fr h₀ L h' m → News h₀ L h' news' → Q .none { s with heap := h' }) : wpAny (model prog w) A (call (.ref q) []) Q E s := by
  have z := upd_at F N U
  refine call_bound (.inr rfl) (N _ hq).1 lb_init (plainId_quiet lb_init.plain _) check_init ?_
  show wpAny _ _ (Builtin.List.listItems (.ref x) >>= _) _ _ _
  refine wpAny_bind (wpAny_listItems I.at_ rfl ?_)
  show wpAny _ _ (updateSeq x _ >>= _) _ _ _
  refine wpAny_bind (wpAny_updateSeq z.1 rfl (wpAny_bind (wpAny_letGo (wpAny_pure ⟨.none, rfl, ?_⟩))) (by decide) (by decide))
  have e : Obj.mapSeq (fun _ => #[]) (lobj C d #[] n) = lobj C d #[] n := rfl
  have ho : (s.heap.update x (Obj.mapSeq fun _ => #[])).get? x = some (lobj C d #[] n) := by
    rw [Heap.get?_update_self _ z.1 (by rw [e]; rfl), e]
  obtain ⟨a, b⟩ := upd_go F N U (Heap.SameBut.update ..) ho
  exact h _ a b
end
end
/- R8 -/
section
open PySem PySem.W PySem.Calls PyProof.Rows

/-- the class is made by list's own maker -/
noncomputable def makesL (K : Frag) (C : Addr) : Bool := match K.lookup C with
  | some ⟨_, _, .cls cd, sl⟩ => !cd.hasDel && (sl.toList[4]?).join == some (.builtin "list.__new__") && cd.hasDict && cd.mro == [.ref C, .type "list", .type "object"] &&
      specialIn K (.ref C) "__call__" == some (some (.builtin "type.__call__")) && instIn K (.ref C) (.type "type") == some true && typeIn K (.ref C) == some (.type "type")
  | _ => false

structure MakesL (M : Model) (h : Heap) (C : Addr) : Prop where
  obj : ∃ oc od cd sl, h.get? C = some ⟨oc, od, .cls cd, sl⟩ ∧ cd.hasDel = false ∧ cd.hasDict = true ∧ cd.mro = [.ref C, .type "list", .type "object"]
  made : Looks M h (Bind.madeBy (.ref C)) (some "list.__new__")
  base : Looks M h (Bind.staticBase (.ref C)) (.ref C)
  self : Looks M h (isSubtype (.ref C) (.ref C)) true
  list : Looks M h (isSubtype (.ref C) (.type "list")) true
  call : Looks M h (specialOf (.ref C) "__call__") (some (.builtin "type.__call__"))
  typ : Looks M h (isInstance (.ref C) (.type "type")) true
theorem makesL_of {K : Frag} {M : Model} {h : Heap} (X : K.In h) {C : Addr} (e : makesL K C = true) : MakesL M h C := by
  unfold makesL at e
  split at e
  · rename_i oc od cd sl ho
    simp only [Bool.and_eq_true, Bool.not_eq_true', beq_iff_eq] at e
    obtain ⟨⟨⟨⟨⟨⟨e2, e3⟩, eh⟩, e4⟩, e7⟩, e8⟩, e9⟩ := e
    have hc : clsIn K C = some cd := by unfold clsIn; rw [ho]
    have hm : Looks M h (mroOf (.ref C)) cd.mro := (looks_clsIn X hc).andThen .now
    have made : Looks M h (Bind.madeBy (.ref C)) (some "list.__new__") := by
      intro A Q E s k q
      unfold Bind.madeBy
      refine wpAny_bind (hm A _ E s k ?_)
      rw [e4, List.forIn_cons]
      refine wpAny_bind (wpAny_bind (wpAny_bind (wpAny_bind (wpAny_loadPart (k _ _ (X _ _ ho)) (wpAny_pure ?_)))))
      dsimp only
      rw [← Array.getElem?_toList, e3]
      exact wpAny_pure (wpAny_pure (wpAny_pure q))
    refine ⟨⟨oc, od, cd, sl, X _ _ ho, e2, eh, e4⟩, made, ?_, looks_mroIn X ?_, looks_mroIn X ?_, looks_specialIn X e7, looks_instIn X e8⟩
    · intro A Q E s k q
      unfold Bind.staticBase
      refine wpAny_bind (hm A _ E s k ?_)
      rw [e4, List.forIn_cons]
      exact wpAny_bind (wpAny_bind (wpAny_bind (made A _ E s k (wpAny_pure (wpAny_pure (wpAny_pure q))))))
    · unfold mroIn; rw [hc, Option.bind_some, e4, if_neg (by simp)]; simp
    · unfold mroIn; rw [hc, Option.bind_some, e4, if_neg (by simp)]; simp
  · cases e

theorem kind_lnew : builtinKind "list.__new__" = some .builtinFn := by kernel_rfl
theorem split_lnew : splitId "list.__new__" = some ("list", "__new__") := by kernel_rfl
theorem sig_lnew : Manifest.signature? "list.__new__" = none ∨ ∃ sg, Manifest.signature? "list.__new__" = some sg := by
  cases h : Manifest.signature? "list.__new__" with
  | none => exact .inl rfl
  | some s => exact .inr ⟨s, rfl⟩

section
variable {prog : Program} {w : World} {A : Around} {K : Frag} {C : Addr} {R : Result → Shared → Prop} {h : Heap} {g : Array GenState} {d : Drawn} {t : Nat} {os : OsState}
theorem lobj_new {rest : List Value} (Y : MakesL (model prog w) h C)
    (hq : R (.ok (.ret (.ref (h.objs.size + 1)))) ⟨(h.push emptyDict).push (lobj C h.objs.size #[] 0), g, d, t, os⟩) :
    codeAny (model prog w) A (.call (.builtin "list.__new__") ⟨.ref C :: rest, []⟩) R ⟨h, g, d, t, os⟩ := by
  obtain ⟨⟨oc, od, cd, sl, hC, e2, eh, e4⟩, made, base, self, list, call, typ⟩ := Y
  refine codeAny_of_tree ?_
  rw [Around.under_plain (by rfl) (by rfl)]
  show wpAny _ A.in1 (do checkBuiltinCall "list.__new__" ⟨.ref C :: rest, []⟩; again (.builtin "list.__new__" ⟨.ref C :: rest, []⟩)) _ _ _
  refine wpAny_bind ?_
  have isT : Looks (model prog w) h (isType (.ref C)) true := by
    unfold isType loadHead
    exact (Looks.ld hC).andThen .now
  have here : Looks (model prog w) h (Bind.madeHere "list.__new__" (.ref C)) () := base.andThen (made.andThen (Looks.of_pure (by simp only [Option.map_some, bne_self_eq_false, Bool.false_eq_true, if_false])))
  have fin : wpAny (model prog w) A.in1 (again (.builtin "list.__new__" ⟨.ref C :: rest, []⟩)) (fun fin s' => match fin with | .done f => R (.ok f) s' | .again c' => c'.quiet = true ∧ codeAny (model prog w) A c' R s') (fun e s' => R (.error e) s') ⟨h, g, d, t, os⟩ := by
    refine wpAny_pure ⟨plainId_quiet PySem.F.plain_list_new _, codeAny_builtin_stack PySem.F.entry_list_new rfl fun p st => ?_⟩
    rw [Around.under_plainId PySem.F.plain_list_new _]
    have hown := owner_list_new
    simp only [hown]
    have hd : typeHasDict (.ref C) = true := rfl
    refine wpAny_bind (isT.here ?_)
    rw [if_neg (by decide)]
    refine wpAny_bind (list.here ?_)
    rw [if_neg (by decide)]
    refine wpAny_bind (wpAny_pure ?_)
    rw [hd, if_neg (by decide)]
    refine wpAny_bind ?_
    show wpAny _ _ (newObj (.type "dict") (.dict #[])) _ _ _
    refine wpAny_newObj_type ?_
    refine wpAny_bind ?_
    show wpAny _ _ (newObjAsIs _ _ _) _ _ _
    unfold newObjAsIs classHasDel
    refine wpAny_bind (wpAny_alloc (wpAny_bind (wpAny_bind (wpAny_load (Heap.get?_push_of_some _ (Heap.get?_push_of_some _ hC)) (wpAny_pure ?_)))))
    rw [e2]
    refine wpAny_pure (wpAny_pure ?_)
    show R _ _
    rw [Heap.size_push]
    exact hq
  simp only [checkBuiltinCall, kind_lnew, split_lnew]
  have hnn : ("__new__" == "__new__") = true := by decide
  repeat (first
    | exact fin
    | (with_reducible refine Looks.at isT ?_) | (with_reducible refine Looks.at list ?_) | (with_reducible refine Looks.at base ?_) | (with_reducible refine Looks.at made ?_)
    | (simp only [beq_self_eq_true, bne_self_eq_false, Bool.not_true, Bool.false_eq_true, if_false, if_true])
    | lk)

theorem lobj_make_core {rest : List Value} {init : Value} (Y : MakesL (model prog w) h C) (hi : Looks (model prog w) h (typeLookup (.ref C) "__init__") (some init))
    (hb : ∀ self, Looks (model prog w) h (bindSpecial init self) (init, [self]))
    (hq : codeAny (model prog w) (A.under (.builtin "type.__call__" ⟨.ref C :: rest, []⟩)) (.call init ⟨.ref (h.objs.size + 1) :: rest, []⟩) (InitBack (h.objs.size + 1) R) ⟨(h.push emptyDict).push (lobj C h.objs.size #[] 0), g, d, t, os⟩) :
    codeAny (model prog w) A (.call (.ref C) ⟨rest, []⟩) R ⟨h, g, d, t, os⟩ := by
  have Y' := Y
  obtain ⟨⟨oc, od, cd, sl, hC, e2, eh, e4⟩, made, base, self, list, call, typ⟩ := Y
  refine codeAny_of_tree ?_
  show wpAny _ _ (callAny (.ref C) _) _ _ _
  refine nd_load hC ?_
  show wpAny _ _ (callAny.viaDunder (.ref C) _) _ _ _
  unfold callAny.viaDunder
  refine wpAny_bind (call.at ?_)
  dsimp only
  rw [tc_bind]
  refine wpAny_bind (wpAny_pure (wpAny_bind (wpAny_pure ?_)))
  refine wpAny_pure (a := Fin.again (.call (.builtin "type.__call__") ⟨.ref C :: rest, []⟩)) (And.intro rfl ?_)
  refine codeAny_call_builtin_at (Code.quiet_builtin _ (by decide +kernel)) entry_typeCall (check_slot tc_kind tc_split typ (tc_args _ _ _) ?_)
  unfold Builtin.«type.__call__»
  have hm : Looks (model prog w) h (mroOf (.ref C)) cd.mro := ((Looks.ld (part := none) hC).andThen .now).andThen .now
  have e4' : cd.mro.isEmpty = false := by rw [e4]; rfl
  repeat (first | simp only [e4', Bool.false_eq_true, if_false] | with_reducible refine wpAny_call ?_ | lk)
  refine lobj_new Y' ?_
  have k : ∀ b o, h.get? b = some o → ((h.push emptyDict).push (lobj C h.objs.size #[] 0)).get? b = some o := fun b o e => Heap.get?_push_of_some _ (Heap.get?_push_of_some _ e)
  have hx : ((h.push emptyDict).push (lobj C h.objs.size #[] 0)).get? (h.objs.size + 1) = some (lobj C h.objs.size #[] 0) := by heap_get
  have t1 : Looks (model prog w) ((h.push emptyDict).push (lobj C h.objs.size #[] 0)) (typeOf (.ref (h.objs.size + 1))) (.ref C) := (Looks.ld hx).andThen .now
  have s1 := self.keeps k
  have i1 := hi.keeps k
  have b1 := (hb (.ref (h.objs.size + 1))).keeps k
  unfold isInstance callSpecial? specialOf
  repeat (first | with_reducible refine wpAny_call ?_ | lk)
  refine codeAny_mono hq fun r s' z => ?_
  rcases r with e | (v | _ | _ | _) <;> first | exact z | exact z.elim | skip
  obtain ⟨rfl, z⟩ := z
  exact wpAny_pure (wpAny_pure z)
end

section
variable {prog : Program} {w : World} {A : Around} {K : Frag} {C : Addr} {s : Shared} {h₀ : Heap} {L : Addr} {m : Str → Option Value} {news : List (Addr × Obj)} {R : Result → Shared → Prop}
end
end
/- M2 -/
section
open PySem PySem.W PySem.Calls PyProof.Rows
section
variable {prog : Program} {w : World} {A : Around} {E : Value → Shared → Prop} {s : Shared} {K : Frag} {H₀ : Heap} {p : Program} {loose : List Str} {mg mb : Str → Option Value}
  {R : Result → Shared → Prop} {name qual : Str} {params : Arguments} {body : List Stmt} {scope : Scope} {dV kV doc pm cdv ct oc : Value} {an od : Option Addr} {osl : Array (Option Value)} {f cc : Addr} {args : Args} {binds : List (Str × Value)}

theorem enterS (T : List (Addr × Obj)) (hT : ∀ q ∈ T, s.heap.get? q.1 = some q.2) (HS : Sub H₀ s.heap) (hT0 : ∀ q ∈ T, H₀.get? q.1 = none) (X : K.In H₀) (TR : TopRead p loose mg mb H₀)
    (ho : K.lookup f = some ⟨oc, od, .func (ksFn name qual params body scope dV kV doc pm an cdv ct cc), osl⟩) (hcd : codeIn K cdv qual = true) (hroom : A.depth < recursionLimit)
    (hbind : BindsTo s (ksFn name qual params body scope dV kV doc pm an cdv ct cc) args binds) (hloc : ∀ y ∈ binds, scope.names.lookup y.1 = some .local)
    (hcell : ∀ x ∈ scope.names, x.2 ≠ .cell) (hco : scope.isCoroutine = false) (hgen : scope.isGenerator = false) (hk : scope.kind = .function)
    (h : ∀ g L' h₁, Fr g L' h₁ (fun y => binds.reverse.lookup y) → News g L' h₁ T → K.In g → TopRead p loose mg mb g → Sub H₀ g →
      (∀ b o, b ∉ T.map (·.1) → s.heap.get? b = some o → g.get? b = some o) → Sub s.heap h₁ → L' = s.heap.objs.size →
      _root_.PySem.wpAt (model prog w) (A.deeper (ksEnv qual scope L' f cdv cc)) (.func body (ksEnv qual scope L' f cdv cc)) (execs body (ksEnv qual scope L' f cdv cc))
        (fun fl s' => R (.ok (.ret (match fl with | .ret v => v | _ => .none))) s') (fun _ _ => False)
        { s with heap := h₁, toks := s.toks + binds.length }) : codeAny (model prog w) A (.call (.ref f) args) R s := by
  have nm : ∀ b o, H₀.get? b = some o → b ∉ T.map (·.1) := fun b o e q => by
    obtain ⟨r, hr, rfl⟩ := List.mem_map.mp q
    rw [hT0 r hr] at e; cases e
  have st : Sub H₀ (hideAll s.heap (T.map (·.1))) := fun b o e => hideAll_get _ (HS b o e) (nm b o e)
  refine ks_codeAny_call_defAt (fd := ksFn name qual params body scope dV kV doc pm an cdv ct cc) (body := body) (binds := binds) hroom (HS _ _ (X _ _ ho)) rfl (TR.nolimit.keeps HS) (codeRec_of (X.keeps HS) hcd) rfl hbind hcell hloc (fun h₁ hns hk₁ => ?_) hco hgen hk
  exact ks_wpAt_mono (h _ s.heap.objs.size h₁ ⟨hns, fun b o e => hk₁ b o (of_hideAll _ e), Nat.le_of_eq (hideAll_size _ _)⟩
    (fun q hq => ⟨hk₁ _ _ (hT q hq), Nat.ne_of_lt (Heap.lt_size (hT q hq)), hideAll_none _ (List.mem_map_of_mem hq)⟩) (X.keeps st) (TR.keeps st) st (fun b o hb e => hideAll_get _ e hb) hk₁ rfl) (fun _ _ y => y) fun _ _ y => y.elim
end

/-- what the heap of a walk's end says of the heap at its start -/
theorem kept_of {T : List (Addr × Obj)} {g : Heap} {s s' : Shared} {ts : List Addr} {L : Addr} {m : Str → Option Value} {news : List (Addr × Obj)}
    (hkeep : ∀ b o, b ∉ T.map (·.1) → s.heap.get? b = some o → g.get? b = some o) (F : Fr g L s'.heap m) (hL : s.heap.objs.size = L) (N : News g L s'.heap news)
    (hT : ∀ q ∈ T, s.heap.get? q.1 = some q.2) (hst : ∀ q ∈ T, q.1 ∉ ts → q ∈ news) (hos : s'.os = s.os) (hdr : s'.drawn = s.drawn) (hg : AllBare s.gens → AllBare s'.gens) : Kept ts s s' := by
  refine ⟨fun b o hb e => ?_, ?_, hos, hdr, hg⟩
  · by_cases hm : b ∈ T.map (·.1)
    · obtain ⟨q, hq, rfl⟩ := List.mem_map.mp hm
      have e' := hT q hq
      rw [e] at e'
      cases e'
      exact (N _ (hst q hq hb)).1
    · exact F.keep _ _ (hkeep b o hm e)
  · exact Nat.le_trans (Nat.le_of_eq hL) (Nat.le_of_lt F.ns.lt)
theorem Kept.refl {ts : List Addr} {s : Shared} : Kept ts s s := ⟨fun _ _ _ e => e, Nat.le_refl _, rfl, rfl, id⟩
theorem Kept.trans {ts us : List Addr} {s s' s'' : Shared} (a : Kept ts s s') (b : Kept us s' s'') : Kept (ts ++ us) s s'' :=
  ⟨fun x o hx e => b.keep x o (fun h => hx (List.mem_append_right _ h)) (a.keep x o (fun h => hx (List.mem_append_left _ h)) e), Nat.le_trans a.size b.size, b.os.trans a.os, b.drawn.trans a.drawn, fun h => b.gens (a.gens h)⟩
theorem Kept.mono {ts us : List Addr} {s s' : Shared} (a : Kept ts s s') (h : ∀ x ∈ ts, x ∈ us) : Kept us s s' := ⟨fun x o hx e => a.keep x o (fun q => hx (h x q)) e, a.size, a.os, a.drawn, a.gens⟩
theorem Kept.same {ts : List Addr} {s s' : Shared} (a : Kept ts s s') : Kept ts s s' := a
theorem upd_ne {h : Heap} {a b : Addr} {o o' : Obj} (ha : h.get? a = some o) (hb : h.get? b = some o') (hne : o.cls ≠ o'.cls) : @Ne Nat a b := fun e => by
  subst e
  rw [ha] at hb
  cases hb
  exact hne rfl
theorem fresh_of {T : List (Addr × Obj)} {g h' : Heap} {s : Shared} {L a : Addr} {o : Obj} {news : List (Addr × Obj)}
    (hkeep : ∀ b o, b ∉ T.map (·.1) → s.heap.get? b = some o → g.get? b = some o) (N : News g L h' news) (hm : (a, o) ∈ news) (hn : ∀ q ∈ T, q.1 ≠ a) : s.heap.get? a = none := by
  cases h : s.heap.get? a with
  | none => rfl
  | some o' =>
    have := hkeep a o' (fun q => by obtain ⟨r, hr, e⟩ := List.mem_map.mp q; exact hn r hr e) h
    rw [(N _ hm).2.2] at this
    cases this
end
/- R9 -/
section
open PySem PySem.W PySem.Calls PyProof.Rows
section
variable {prog : Program} {w : World} {A : Around} {E : Value → Shared → Prop} {s : Shared} {h₀ : Heap} {L : Addr} {m mg mb : Str → Option Value} {news : List (Addr × Obj)} {K : Frag} {p : Program} {loose : List Str} {x C D f cc cda so : Addr} {ox : Obj} {odx : Option Obj}

theorem sup_node {body : List Stmt} {q : Str} {scope : Scope} {p0 p1 : Pos} {attr : Str} {whole : Sem Value} {fd : FuncData} {ar : Arg} {vs : Array Value} {file : Str} {tf : Tok} {oc ccl cl : Value} {od cdd cld : Option Addr} {osl ccs csl : Array (Option Value)} {cdD : ClassData} {Q : Value → Shared → Prop}
    (F : Fr h₀ L s.heap m) (X₀ : K.In h₀) (N : News h₀ L s.heap news) (T : TopRead p loose mg mb h₀)
    (hf : K.lookup f = some ⟨oc, od, .func fd, osl⟩) (hp : (fd.params.posonlyargs ++ fd.params.args).head? = some ar) (hv : m ar.arg = some (.ref x)) (I : InstAt s.heap x ox C odx)
    (hcode : K.lookup cda = some ⟨ccl, cdd, .fields vs, ccs⟩) (hvs : vs[2]? = some (.str file tf)) (hfile : ((prog.main.file : Str) == file) = true)
    (hcell : K.lookup cc = some ⟨cl, cld, .cell (some (.ref D)), csl⟩) (hD : clsIn K D = some cdD) (hsub : mroIn K C (.ref D) = some true) (hsuper : nsIn K mainGlobals "super" = some none)
    (hat : (attr == ("__class__" : Str)) = false) (hks : scope.names.lookup ("super" : Str) = some .globalImplicit) (hkc : scope.names.lookup ("__class__" : Str) = some .free) (hka : scope.names.lookup ar.arg = some .local) (hk : scope.kind = .function)
    (htop : (prog.main.scope.names.lookup ("super" : Str)).isSome = false) (hboot : bootBuiltins "super" = some (.type "super"))
    (h : ∀ so h', Fr h₀ L h' m → News h₀ L h' ((so, ks_superObj D x C) :: news) → (∀ p ∈ news, p.1 < so) → Q (.ref so) { s with heap := h' }) :
    _root_.PySem.wpAt (model prog w) A (.func body (ksEnv q scope L f (.ref cda) cc)) (attributeBase (.Call (.Name "super" p0) [] [] p1) attr (ksEnv q scope L f (.ref cda) cc) whole) Q E s := by
  have X : K.In s.heap := X₀.keeps F.keep
  obtain ⟨hh, g, d, t, os⟩ := s
  obtain ⟨oD, hD1, hD2⟩ : ∃ oD, hh.get? D = some oD ∧ oD.data = .cls cdD := by
    unfold clsIn at hD
    split at hD
    · rename_i c d cd' sl ho
      cases hD
      exact ⟨_, X _ _ ho, rfl⟩
    · cases hD
  refine ks_wpAt_super_base (env := ksEnv q scope L f (.ref cda) cc) hks hkc hat rfl (X _ _ hf) rfl hp rfl (X _ _ hcode) rfl hvs hfile htop ?_
  refine ks_loadName_global hk hks (loadGlobal_builtin (env := ksEnv q scope L f (.ref cda) cc) (T.g.keeps F.keep) (mg_none_of X₀ T.g hsuper) (T.b.keeps F.keep) ((T.builtins _ (by decide +kernel)).trans hboot) ⟨rfl, ?_⟩)
  refine wpAny_loadName_free hk hkc rfl ⟨_, X _ _ hcell, rfl⟩ ?_
  refine wpAny_loadName_local hk hka F.ns hv ?_
  refine ks_wpAny_isType_cls hD1 hD2 ⟨rfl, ?_⟩
  refine ks_wpAny_call_super hD1 hD2 I.at_ I.cls (fun c e => ?_) (looks_mroIn X hsub) (fun h' e k => ?_)
  · have := I.no
    unfold notCls at this
    rw [e] at this
    exact Bool.noConfusion this
  · obtain ⟨F', N', l'⟩ := ks_newsPush (s := ⟨hh, g, d, t, os⟩) F N rfl e k
    exact h _ _ F' N' l'

/-- super's view of a list method, for a class right above list -/
theorem supm {i T Tb gid : String} {name : Str} {cd : ClassData} {pl : Sem Bool} {Q : Value × List Value → Shared → Prop} (F : Fr h₀ L s.heap m) (X₀ : K.In h₀) (N : News h₀ L s.heap news) (hso : (so, ks_superObj C x C) ∈ news) (I : InstAt s.heap x ox C odx)
    (hno : nsIn K cStatics "thirdparty.any" = some none) (hc : clsIn K C = some cd) (hl : cd.mro = [.ref C, .type "list", .type "object"])
    (ht : typeIn K (.builtin i) = some (.type T)) (hg : typeLookup (.type T) "__get__" = pure (some (.builtin gid)))
    (hf : alongIn K name [.type "list", .type "object"] = some (some (.builtin i))) (hn : (name == ("__class__" : Str)) = false)
    (hget : ∀ (A : Around) (Q' E' : Value → Shared → Prop) (s' : Shared), s'.heap = s.heap → Q' (.ref s.heap.objs.size) { s' with heap := s.heap.push (boundObj Tb i x) } → wpAny (model prog w) A (call (.builtin gid) [.builtin i, .ref x, .ref C]) Q' E' s')
    (h : ∀ q h', Fr h₀ L h' m → News h₀ L h' ((q, boundObj Tb i x) :: news) → (∀ p ∈ news, p.1 < q) → Q (.ref q, []) { s with heap := h', toks := s.toks + 1 }) :
    wpAny (model prog w) A (getMethod (.ref so) name pl) Q E s :=
  super_method F X₀ N I (N _ hso).1 hno hc (by rw [hl]; simp [List.dropWhile]) ht hg hf hn hget h

theorem along_pop {K : Frag} : alongIn K "pop" [.type "list", .type "object"] = some (some (.builtin "list.pop")) := by kernel_rfl
theorem along_len {K : Frag} : alongIn K "__len__" [.type "list", .type "object"] = some (some (.builtin "list.__len__")) := by kernel_rfl
theorem along_init {K : Frag} : alongIn K "__init__" [.type "list", .type "object"] = some (some (.builtin "list.__init__")) := by kernel_rfl
theorem type_pop {K : Frag} : typeIn K (.builtin "list.pop") = some (.type "method_descriptor") := by kernel_rfl
theorem type_len {K : Frag} : typeIn K (.builtin "list.__len__") = some (.type "wrapper_descriptor") := by kernel_rfl
theorem type_init {K : Frag} : typeIn K (.builtin "list.__init__") = some (.type "wrapper_descriptor") := by kernel_rfl

theorem sup_pop {cd : ClassData} {pl : Sem Bool} {Q : Value × List Value → Shared → Prop} (F : Fr h₀ L s.heap m) (X₀ : K.In h₀) (N : News h₀ L s.heap news) (hso : (so, ks_superObj C x C) ∈ news) (I : InstAt s.heap x ox C odx)
    (hno : nsIn K cStatics "thirdparty.any" = some none) (hc : clsIn K C = some cd) (hl : cd.mro = [.ref C, .type "list", .type "object"]) (hm : mroIn K C (.type "list") = some true)
    (h : ∀ q h', Fr h₀ L h' m → News h₀ L h' ((q, boundObj "builtin_function_or_method" "list.pop" x) :: news) → (∀ p ∈ news, p.1 < q) → Q (.ref q, []) { s with heap := h', toks := s.toks + 1 }) :
    wpAny (model prog w) A (getMethod (.ref so) "pop" pl) Q E s :=
  supm F X₀ N hso I hno hc hl type_pop look_md along_pop (by decide) (fun A Q' E' s' e q => by
    obtain ⟨hh, g, d, t, os⟩ := s'
    dsimp only at e
    subst e
    exact get_pop (s := ⟨s.heap, g, d, t, os⟩) (X₀.keeps F.keep) I hm q) h
theorem sup_len {cd : ClassData} {pl : Sem Bool} {Q : Value × List Value → Shared → Prop} (F : Fr h₀ L s.heap m) (X₀ : K.In h₀) (N : News h₀ L s.heap news) (hso : (so, ks_superObj C x C) ∈ news) (I : InstAt s.heap x ox C odx)
    (hno : nsIn K cStatics "thirdparty.any" = some none) (hc : clsIn K C = some cd) (hl : cd.mro = [.ref C, .type "list", .type "object"]) (hm : mroIn K C (.type "list") = some true)
    (h : ∀ q h', Fr h₀ L h' m → News h₀ L h' ((q, boundObj "method-wrapper" "list.__len__" x) :: news) → (∀ p ∈ news, p.1 < q) → Q (.ref q, []) { s with heap := h', toks := s.toks + 1 }) :
    wpAny (model prog w) A (getMethod (.ref so) "__len__" pl) Q E s :=
  supm F X₀ N hso I hno hc hl type_len look_wd along_len (by decide) (fun A Q' E' s' e q => by
    obtain ⟨hh, g, d, t, os⟩ := s'
    dsimp only at e
    subst e
    exact get_wd (s := ⟨s.heap, g, d, t, os⟩) (X₀.keeps F.keep) I hm (.inl rfl) q) h
theorem sup_init {cd : ClassData} {pl : Sem Bool} {Q : Value × List Value → Shared → Prop} (F : Fr h₀ L s.heap m) (X₀ : K.In h₀) (N : News h₀ L s.heap news) (hso : (so, ks_superObj C x C) ∈ news) (I : InstAt s.heap x ox C odx)
    (hno : nsIn K cStatics "thirdparty.any" = some none) (hc : clsIn K C = some cd) (hl : cd.mro = [.ref C, .type "list", .type "object"]) (hm : mroIn K C (.type "list") = some true)
    (h : ∀ q h', Fr h₀ L h' m → News h₀ L h' ((q, boundObj "method-wrapper" "list.__init__" x) :: news) → (∀ p ∈ news, p.1 < q) → Q (.ref q, []) { s with heap := h', toks := s.toks + 1 }) :
    wpAny (model prog w) A (getMethod (.ref so) "__init__" pl) Q E s :=
  supm F X₀ N hso I hno hc hl type_init look_wd along_init (by decide) (fun A Q' E' s' e q => by
    obtain ⟨hh, g, d, t, os⟩ := s'
    dsimp only at e
    subst e
    exact get_wd (s := ⟨s.heap, g, d, t, os⟩) (X₀.keeps F.keep) I hm (.inr rfl) q) h
end
end
/- R10 -/
section
open PySem PySem.W PySem.Calls PyProof.Rows

noncomputable def SeqAt (h : Heap) (l : Addr) (its : Array Value) : Prop := ∃ o n, h.get? l = some o ∧ o.data = .seq its n
theorem SeqAt.keeps {h h' : Heap} {l : Addr} {its : Array Value} (a : SeqAt h l its) (k : ∀ o, h.get? l = some o → h'.get? l = some o) : SeqAt h' l its := let ⟨o, n, e, r⟩ := a; ⟨o, n, k _ e, r⟩
theorem SeqAt.ofList {h : Heap} {l : Addr} {its : Array Value} (a : h.IsList l its) : SeqAt h l its := let ⟨o, e, _, n, r⟩ := a; ⟨o, n, e, r⟩
theorem SeqAt.ofTuple {h : Heap} {l : Addr} {its : Array Value} (a : h.IsTuple l its) : SeqAt h l its := let ⟨o, e, _, n, r⟩ := a; ⟨o, n, e, r⟩

section
variable {prog : Program} {w : World} {A : Around} {E : Value → Shared → Prop} {s : Shared} {K : Frag} {x C d : Addr} {its : Array Value} {ox : Obj} {od : Option Obj}

theorem next_item_l {it l : Addr} {i : Nat} {items} {x : Value} {Q : Option Value → Shared → Prop} (hit : s.heap.IsListIter it l i)
    (hl : SeqAt s.heap l items) (hx : items[i]? = some x)
    (hQ : ∀ h', h'.IsListIter it l (i + 1) → Heap.SameBut it s.heap h' → Q (some x) { s with heap := h' }) :
    wpAny (model prog w) A (pyNext (.ref it)) Q E s := by
  obtain ⟨o, ho, hc, hd⟩ := id hit
  obtain ⟨ol, nl, hol, hdl⟩ := hl
  unfold pyNext
  refine wpAny_bind (wpAny_attempt (wpAny_callSpecial?_slot (name := Str.ofString "__next__") hit.typeIs slot_listiter_next
    (wpAny_call_entry slot_listiter_next hit.typeIs entry_listiter_next ?_ (args_listiter_next _))))
  show wpAny _ _ (field (.ref it) 0 >>= _) _ _ s
  refine wpAny_bind (wpAny_field ho hd (x := .ref l) rfl ?_)
  show wpAny _ _ (if (Value.ref l == Value.none) = true then _ else _) _ _ s
  rw [if_neg (show ¬ ((Value.ref l == Value.none) = true) from Bool.false_ne_true)]
  show wpAny _ _ (field (.ref it) 1 >>= _) _ _ s
  refine wpAny_bind (wpAny_field ho hd (x := .int i 0) rfl ?_)
  show wpAny _ _ (seqItems? (.ref l) >>= _) _ _ s
  refine wpAny_bind (wpAny_seqItems hol hdl ?_)
  simp only [Int.toNat_natCast, hx]
  refine wpAny_bind (wpAny_setField ho hd (by simp) (wpAny_pure ⟨x, rfl, wpAny_pure (hQ _ ?_ (Heap.SameBut.update ..))⟩))
  exact ⟨_, Heap.get?_update_self _ ho (Obj.isFreed_of_fields (Obj.data_mapFields hd _)), (Obj.cls_mapFields ..).trans hc, by
    rw [Obj.data_mapFields hd]; simp [rawInt]⟩

theorem next_end_l {it l : Addr} {i : Nat} {items} {Q : Option Value → Shared → Prop} (hh : A.handled = none)
    (hit : s.heap.IsListIter it l i) (hl : SeqAt s.heap l items) (hx : items[i]? = none)
    (hQ : ∀ h', Heap.ExtBut it s.heap h' → Q none { s with heap := h' }) : wpAny (model prog w) A (pyNext (.ref it)) Q E s := by
  obtain ⟨o, ho, hc, hd⟩ := id hit
  obtain ⟨ol, nl, hol, hdl⟩ := hl
  unfold pyNext
  refine wpAny_bind (wpAny_attempt (wpAny_callSpecial?_slot (name := Str.ofString "__next__") hit.typeIs slot_listiter_next
    (wpAny_call_entry slot_listiter_next hit.typeIs entry_listiter_next ?_ (args_listiter_next _))))
  show wpAny _ _ (field (.ref it) 0 >>= _) _ _ s
  refine wpAny_bind (wpAny_field ho hd (x := .ref l) rfl ?_)
  show wpAny _ _ (if (Value.ref l == Value.none) = true then _ else _) _ _ s
  rw [if_neg (show ¬ ((Value.ref l == Value.none) = true) from Bool.false_ne_true)]
  show wpAny _ _ (field (.ref it) 1 >>= _) _ _ s
  refine wpAny_bind (wpAny_field ho hd (x := .int i 0) rfl ?_)
  show wpAny _ _ (seqItems? (.ref l) >>= _) _ _ s
  refine wpAny_bind (wpAny_seqItems hol hdl ?_)
  simp only [Int.toNat_natCast, hx]
  refine wpAny_bind (wpAny_rule (wpAny_bind (wpAny_setField ho hd (by simp) ?_)))
  show wpAny _ _ (newExc (.type "StopIteration") [] >>= _) _ _ _
  refine wpAny_bind ?_
  simp only [newExc, newTuple]
  refine wpAny_bind (wpAny_newObj_type ?_ (by size_fits))
  refine wpAny_bind (m := firstArgMember _ _) (wpAny_of_eq (a := Value.none) (by first | rfl | (simp only [firstArgMember]; rfl)) ?_)
  refine wpAny_newObj_type ?_ (by size_fits)
  simp only [raiseNew]
  refine wpAny_bind (wpAny_handled ?_)
  rw [show A.in1.handled = none from hh]
  refine wpAny_bind (wpAny_pure (wpAny_throw ?_))
  refine wpAny_bind (wpAny_isInstance (T := "StopIteration") (b := true) ⟨_, Heap.get?_push_size _ rfl, rfl⟩ isSubtype_stop ?_)
  exact wpAny_pure (hQ _ (((Heap.SameBut.update ..).extBut.push _).push _))

theorem iter_l {Q : Value → Shared → Prop} (X : K.In s.heap) (I : InstAt s.heap x ox C od) (hl : mroIn K C (.type "list") = some true) (hf : findIn K (.ref C) "__iter__" = some (some (.builtin "list.__iter__")))
    (hQ : Q (.ref s.heap.objs.size) { s with heap := s.heap.push { cls := .type "list_iterator", data := .fields #[.ref x, .int 0 0] } }) :
    wpAny (model prog w) A (pyIter (.ref x)) Q E s := by
  have fin : wpAny (model prog w) A (call (.builtin "list.__iter__") [.ref x]) (fun it s' => ∃ T' r, s'.TypeIs it T' ∧ typeLookup (.type T') "__next__" = pure (some r) ∧ Q it s') E s := by
    refine call_bi lb_iter X I hl (args_list_iter _) ?_
    show wpAny _ _ (do ret (← newFields "list_iterator" [.ref x, rawInt 0])) _ _ s
    exact wpAny_bind (wpAny_newObj_type (wpAny_pure ⟨_, rfl, "list_iterator", _, ⟨_, Heap.get?_push_size _ rfl, rfl⟩, slot_listiter_next.lookup, hQ⟩))
  have fin2 : ∀ refuse : Sem Value, wpAny (model prog w) A (if (Value.builtin "list.__iter__" == Value.none) = true then (refuse >>= fun v => pure (some v)) else (call (.builtin "list.__iter__") [.ref x] >>= fun v => pure (some v)))
      (fun r s' => ∃ it, r = some it ∧ ∃ T' r, s'.TypeIs it T' ∧ typeLookup (.type T') "__next__" = pure (some r) ∧ Q it s') E s := fun refuse => by
    simp only [builtin_beq_none, Bool.false_eq_true, if_false]
    exact wpAny_bind (wpAny_mono fin (fun v s' h' => wpAny_pure ⟨v, rfl, h'⟩) fun _ _ h' => h')
  unfold pyIter specialOf
  refine wpAny_bind (wpAny_bind (I.type.here ((looks_findIn X hf).here ?_)))
  show wpAny _ _ (callSpecialIfBoundUnlessNone? (.ref x) "__iter__" _ >>= _) Q E s
  refine wpAny_bind ?_
  simp only [callSpecialIfBoundUnlessNone?, bindSpecialIfBound?]
  unfold specialOf
  refine wpAny_holding (wpAny_bind (wpAny_bind (wpAny_bind (I.type.here ((looks_findIn X hf).here ?_)))))
  simp only [lb_iter.bind]
  refine wpAny_bind (wpAny_askSetting (wpAny_ite ?_))
  have go : ∀ (r : Option Value) s', (∃ it, r = some it ∧ ∃ T' r, s'.TypeIs it T' ∧ typeLookup (.type T') "__next__" = pure (some r) ∧ Q it s') →
      wpAny (model prog w) A (match r with
        | some it => do
          match ← (do typeLookup (← typeOf it) "__next__") with
          | none => rule "iter.non-iterator"; raiseError "TypeError" s!"iter() returned non-iterator of type '{← typeNameOf it}'"
          | some _ => pure it
        | none => do
          match ← bindSpecialIfBound? (.ref x) "__getitem__" with
          | none => rule "iter.not-iterable"; raiseError "TypeError" s!"'{← typeNameOf (.ref x)}' object is not iterable"
          | some _ => rule "iter.getitem-fallback"; newFields "iterator" [.ref x, ← mkInt 0]) Q E s' := by
    rintro r s' ⟨it, rfl, T', r', hT', hl', hq⟩
    exact wpAny_bind (wpAny_specialOf hT' hl' (wpAny_pure hq))
  split
  · exact wpAny_bind (wpAny_pure (wpAny_pure (wpAny_mono (fin2 _) go fun _ _ e => e)))
  · exact wpAny_tryCatch (wpAny_bind (wpAny_pure (wpAny_pure (wpAny_mono (fin2 _) go fun _ _ e => e))))

theorem walksT_l {prog : Program} {w : World} {A : Around} (hh : A.handled = none) (I ax : Addr) (hne : ax ≠ I) (items : Array Value) (Ts : Nat → Addr) (vals : Nat → Array Value)
    (hit : ∀ j, j < items.size → items[j]? = some (.ref (Ts j))) (hTI : ∀ j, j < items.size → Ts j ≠ I) :
    WalksU prog w A I (I :: ax :: (List.range items.size).map Ts) [I] items.size (fun j v => j < items.size ∧ v = vals j)
      (fun j h => h.IsListIter I ax j ∧ SeqAt h ax items ∧ ∀ k, k < items.size → h.IsTuple (Ts k) (vals k))
      (fun j T h => (j < items.size ∧ T = Ts j) ∧ h.IsListIter I ax (j + 1) ∧ SeqAt h ax items ∧ ∀ k, k < items.size → h.IsTuple (Ts k) (vals k)) where
  sub := fun b hb => by simp at hb; simp [hb]
  frame := fun _ _ _ st hk => ⟨st.1.at fun o e => hk I (by simp) o e, st.2.1.keeps fun o e => hk ax (by simp) o e,
    fun k hk' => (st.2.2 k hk').at fun o e => hk (Ts k) (List.mem_cons_of_mem _ (List.mem_cons_of_mem _ (List.mem_map.mpr ⟨k, List.mem_range.mpr hk', rfl⟩))) o e⟩
  item := fun i s Q E hi st hQ => by
    refine next_item_l st.1 st.2.1 (x := .ref (Ts i)) (hit i hi) fun h' hit' hs' => ?_
    have tup : ∀ k, k < items.size → h'.IsTuple (Ts k) (vals k) := fun k hk' => (st.2.2 k hk').extBut hs'.extBut (hTI k hk')
    exact hQ (Ts i) (vals i) h' s.toks ⟨hi, rfl⟩ (tup i hi) ⟨⟨hi, rfl⟩, hit', st.2.1.keeps fun o e => hs'.extBut _ o hne e, tup⟩ fun b o hb e => hs'.extBut b o (fun h => hb (by simp [h])) e
  go := fun _ _ _ _ _ s Q _ hm hQ => wpAny_letOwnedTupleGo_listiter hm.2.1 (hQ s.heap hm.2 fun _ _ _ e => e)
  apart := fun j T _ hm hmem => by
    rcases List.mem_cons.mp hmem with e | e
    · exact hTI j hm.1.1 (hm.1.2 ▸ e)
    · cases e
  done := fun s Q E st hQ => next_end_l hh st.1 st.2.1 (by simp) fun h' he' => hQ h' s.toks fun b o hb e => he' b o (fun h => hb (by simp [h])) e
  self := fun _ _ _ _ st hQ => wpAny_pyIter_listiter st.1 hQ
end
end
/- R11 -/
section
open PySem PySem.W PySem.Calls PyProof.Rows

noncomputable abbrev tupOf (vs : List Value) : Obj := { cls := .type "tuple", data := .seq vs.toArray }
noncomputable def PartAt (h : Heap) (v : Value) (p : Str × Str) : Prop := ∃ a t u, v = .ref a ∧ h.get? a = some (tupOf [.str p.1 t, .str p.2 u])
noncomputable def Parts (h : Heap) (its : List Value) (ps : List (Str × Str)) : Prop := its.length = ps.length ∧ ∀ (i : Nat) (v : Value) (p : Str × Str), its[i]? = some v → ps[i]? = some p → PartAt h v p
theorem PartAt.keeps {h h' : Heap} {v : Value} {p : Str × Str} (a : PartAt h v p) (k : ∀ b o, h.get? b = some o → o.cls = .type "tuple" → h'.get? b = some o) : PartAt h' v p := let ⟨a, t, u, e, r⟩ := a; ⟨a, t, u, e, k _ _ r rfl⟩
theorem Parts.keeps {h h' : Heap} {its : List Value} {ps : List (Str × Str)} (a : Parts h its ps) (k : ∀ b o, h.get? b = some o → o.cls = .type "tuple" → h'.get? b = some o) : Parts h' its ps := ⟨a.1, fun i v p e f => (a.2 i v p e f).keeps k⟩

section
variable {prog : Program} {w : World} {A : Around} {E : Value → Shared → Prop} {s : Shared} {K : Frag} {x C d L c P bm : Addr} {its : Array Value} {n k : Nat} {od : Option Obj} {h₀ : Heap} {m mg : Str → Option Value} {ob : Obj} {news : List (Addr × Obj)} {g : Obj → List (Addr × Obj)} {ps : Array Value}

theorem inst_keeps {h h' : Heap} {ox : Obj} (I : InstAt h x ox C od) (k : ∀ b o, h.get? b = some o → h'.get? b = some o) : InstAt h' x ox C od := by
  refine ⟨k _ _ I.at_, I.cls, I.no, ?_⟩
  have := I.dict
  revert this
  cases ox.dict <;> cases od <;> intro q
  all_goals first | exact q | exact k _ _ q

theorem genT_l {env : Env} {elt iter : Expr} {xa xb : Str} {pa pb pt : Pos} {kt : Nat} {scope : Scope} {cl : List (Str × Addr)} {pos : Pos} {Q : Value → Shared → Prop} {parts : List (Str × Str)} {dt : Str × Str → PyData}
    (F : Fr h₀ L s.heap m) (N : News h₀ L s.heap news) (U : UpdF P (tabObj ps) news g) (CH : CodeHd h₀ c P) (ht : TriplesOk ps.toList) (hcode : env.code = .ref c) (B : BMod h₀ env.globals mg bm ob)
    (G : AllBare s.gens) (hlim : h₀.NoLimit) (hh : A.handled = none) (hco : scope.isCoroutine = false) (hclos : closureFor scope env = pure cl) (hcell : ∀ y ∈ scope.names, y.2 ≠ .cell) (h0 : scope.names.lookup (".0" : Str) = some NameKind.local)
    (hxa : scope.names.lookup xa = some .local) (hxb : scope.names.lookup xb = some .local) (hab : xa ≠ xb) (hkind : scope.kind = .function) (hroom : A.depth < recursionLimit)
    (hm : wpAny (model prog w) A (eval iter env) (fun xv s₁ => xv = .ref x ∧ s₁ = s) E s)
    (X : K.In h₀) (I : InstAt h₀ x (lobj C d its n) C od) (hl : mroIn K C (.type "list") = some true) (hf : findIn K (.ref C) "__iter__" = some (some (.builtin "list.__iter__"))) (PT : Parts h₀ its.toList parts)
    (hel : ∀ (cv : Value) (D : Addr) (A' : Around) E' p (ta tb : Tok) (t : Shared) m₂, A'.handled = none → A'.depth ≤ A.depth + 1 → A'.units ≤ A.units + 8 → p ∈ parts → Fr h₀ D t.heap m₂ → m₂ xa = some (.str p.1 ta) → m₂ xb = some (.str p.2 tb) →
      wpAny (model prog w) A' (eval elt (genEnv scope cl D cv builtinsNs env)) (fun y s₃ => Carried y (dt p) ∧ Keeps t s₃) E' t)
    (hs : ∀ x, genFold iter env x = pure x)
    (hQ : ∀ ps' a s₅ Kb, TriplesOk ps'.toList → Fr h₀ L s₅.heap m → News h₀ L s₅.heap (g (tabObj ps')) → AllBare s₅.gens → s₅.os = s.os → s₅.drawn = s.drawn → s.heap.objs.size ≤ s₅.heap.objs.size → Kb + 1 = s.heap.objs.size → L ≤ Kb →
      GenOnD prog w A Kb a parts (fun _ => true) dt s₅ → Q (.ref a) s₅) :
    wpAny (model prog w) A (eval (.GeneratorExp elt [⟨.Tuple [.Name xa pa, .Name xb pb] kt pt, iter, [], 0⟩] scope pos) env) Q E s := by
  refine wpAny_GeneratorExp_walksQTD hh hco hclos hcell h0 hxa hxb hab hkind hroom (wpAny_mono hm (fun xv s₁ e => ?_) fun _ _ e => e) hs
  obtain ⟨rfl, rfl⟩ := e
  obtain ⟨hh₀, gens, drawn, toks, os⟩ := s₁
  dsimp only at F N G hQ
  have Xh := X.keeps F.keep
  have Ih : InstAt hh₀ x (lobj C d its n) C od := inst_keeps I F.keep
  have hx0 := I.at_
  have hxL := Heap.lt_size hx0
  have hLs : @LT.lt Nat _ L hh₀.objs.size := F.ns.lt
  refine iter_l Xh Ih hl hf ?_
  obtain ⟨pre, post, hnews, hg, ha, hb⟩ := U.split
  have hPm : (P, tabObj ps) ∈ news := by rw [hnews]; exact List.mem_append.mpr (.inr (.head _))
  obtain ⟨hP, hPL, hP0⟩ := N _ hPm
  dsimp only at hP hPL hP0
  have F₂ := F.push { cls := .type "list_iterator", data := .fields #[.ref x, .int 0 0] }
  have hP₂ : (hh₀.push { cls := .type "list_iterator", data := .fields #[.ref x, .int 0 0] }).get? P = some (tabObj ps) := Heap.get?_push_of_some _ hP
  have key : ∀ (cv : Value) (h₃ : Heap) (tk₃ : Tok) (ps' : Array Value), Heap.ExtBut P (hh₀.push { cls := .type "list_iterator", data := .fields #[.ref x, .int 0 0] }) h₃ → hh₀.objs.size + 1 ≤ h₃.objs.size → h₃.get? P = some (tabObj ps') → TriplesOk ps'.toList →
      wpAny (model prog w) A (builtinsFor env.globals env.builtins) (fun bi s₄ =>
        ∃ I fp wr n₀ Pt St₀ Mid pz F, Value.ref hh₀.objs.size = .ref I ∧ (∀ A' : Around, A'.handled = none → WalksU prog w A' I fp wr n₀ Pt St₀ Mid) ∧ (∀ i vals, Pt i vals → ∃ va vb, vals = #[va, vb]) ∧ St₀ 0 s₄.heap ∧ (∀ b ∈ fp, b < s₄.heap.objs.size) ∧ s₄.heap.NoLimit ∧ cStatics ∉ wr ∧
          (∀ href : Heap, (∀ b o, s₄.heap.get? b = some o → href.get? b = some o) →
            QuietGenTD prog w (genEnv scope cl s₄.heap.objs.size cv bi env) xa xb [] elt (List.range s₄.heap.objs.size) wr Pt pz F href (A.depth + 1) (A.units + 8)) ∧
          (∀ a h₅ tk gs, gs.bare = true → s₄.heap.objs.size < a → h₅.objs.size = a + 1 → (∀ b o, s₄.heap.get? b = some o → h₅.get? b = some o) →
            WalksS prog w A.in4 a (a :: s₄.heap.objs.size :: List.range s₄.heap.objs.size) (s₄.heap.objs.size :: wr) (GenOnlyQ s₄.gens.size) (passing pz n₀ 0).length
              (fun j y => ∃ i, (passing pz n₀ 0)[j]? = some i ∧ F i y) (GenAt prog w A.in4 a s₄.gens.size s₄.heap.objs.size (List.range s₄.heap.objs.size) wr pz n₀ F) →
            GenAt prog w A.in4 a s₄.gens.size s₄.heap.objs.size (List.range s₄.heap.objs.size) wr pz n₀ F 0 { s₄ with gens := s₄.gens.push gs, toks := tk, heap := h₅ } →
            Q (.ref a) { s₄ with gens := s₄.gens.push gs, toks := tk, heap := h₅ })) E ⟨h₃, gens, drawn, tk₃, os⟩ := by
    intro cv h₃ tk₃ ps' hx₃ hsz₃ hP₃ ht'
    have keep₃ : ∀ b o, h₀.get? b = some o → h₃.get? b = some o := fun b o e => hx₃ b o (fun q => by rw [q, hP0] at e; cases e) (F₂.keep b o e)
    have F₃ : Fr h₀ L h₃ m := ⟨F₂.ns.extBut hx₃ (Ne.symm hPL), keep₃, F₂.above⟩
    have N₃ : News h₀ L h₃ (g (tabObj ps')) := by
      rw [hg]
      intro q hq
      rcases List.mem_append.mp hq with hq | hq
      · have hm := N q (by rw [hnews]; exact List.mem_append.mpr (.inl hq))
        exact ⟨hx₃ _ _ (ha q hq) (Heap.get?_push_of_some _ hm.1), hm.2⟩
      · rcases List.mem_cons.mp hq with rfl | hq
        · exact ⟨hP₃, hPL, hP0⟩
        · have hm := N q (by rw [hnews]; exact List.mem_append.mpr (.inr (.tail _ hq)))
          exact ⟨hx₃ _ _ (hb q hq) (Heap.get?_push_of_some _ hm.1), hm.2⟩
    have M₃ := B.keeps keep₃
    have hl₃ : h₃.NoLimit := hlim.keeps keep₃
    have hst : cStatics < hh₀.objs.size := let ⟨_, hn, _⟩ := hlim.keeps F.keep; hn.lt
    refine wpAny_builtinsFor M₃.ns M₃.name M₃.ne M₃.obj M₃.cls M₃.dict M₃.data ?_
    have len : its.size = parts.length := by simpa using PT.1
    have part : ∀ j, j < its.size → ∃ p, parts[j]? = some p ∧ ∃ a ta tb, its[j]? = some (.ref a) ∧ h₀.get? a = some (tupOf [.str p.1 ta, .str p.2 tb]) := fun j hj => by
      have h1 : parts[j]? = some (parts[j]'(len ▸ hj)) := List.getElem?_eq_getElem _
      have h2 : its.toList[j]? = some (its[j]) := by simp [hj]
      obtain ⟨a, ta, tb, e, r⟩ := PT.2 j _ _ h2 h1
      exact ⟨_, h1, a, ta, tb, by rw [← e]; simp [hj], r⟩
    let Ts : Nat → Addr := fun j => match its[j]? with | some (.ref a) => a | _ => 0
    let vals : Nat → Array Value := fun j => match h₀.get? (Ts j) with | some ⟨_, _, .seq vs _, _⟩ => vs | _ => #[]
    have hTs : ∀ j, j < its.size → its[j]? = some (.ref (Ts j)) ∧ h₀.get? (Ts j) ≠ none := fun j hj => by
      obtain ⟨p, _, a, ta, tb, e, r⟩ := part j hj
      have q : Ts j = a := by simp only [Ts, e]
      rw [q]; exact ⟨e, by rw [r]; simp⟩
    have hTL : ∀ j, j < its.size → @LT.lt Nat _ (Ts j) hh₀.objs.size := fun j hj => by
      cases e : h₀.get? (Ts j) with
      | none => exact absurd e (hTs j hj).2
      | some o => exact Nat.lt_trans (Nat.lt_of_lt_of_le (Heap.lt_size e) F.above) hLs
    have hvals : ∀ j, j < its.size → ∃ p ta tb, parts[j]? = some p ∧ vals j = #[.str p.1 ta, .str p.2 tb] ∧ h₀.get? (Ts j) = some (tupOf [.str p.1 ta, .str p.2 tb]) := fun j hj => by
      obtain ⟨p, hp, a, ta, tb, e, r⟩ := part j hj
      have q : Ts j = a := by simp only [Ts, e]
      exact ⟨p, ta, tb, hp, by simp only [vals, q, r], by rw [q]; exact r⟩
    have tup : ∀ h : Heap, (∀ b o, h₀.get? b = some o → h.get? b = some o) → ∀ j, j < its.size → h.IsTuple (Ts j) (vals j) := fun h k j hj => by
      obtain ⟨p, ta, tb, hp, hv, r⟩ := hvals j hj
      rw [hv]
      exact ⟨_, k _ _ r, rfl, _, rfl⟩
    have hxs : @LT.lt Nat _ x hh₀.objs.size := Nat.lt_trans (Nat.lt_of_lt_of_le hxL F.above) hLs
    have hitr : (hh₀.push { cls := .type "list_iterator", data := .fields #[.ref x, .int 0 0] }).get? hh₀.objs.size = some { cls := .type "list_iterator", data := .fields #[.ref x, .int 0 0] } := Heap.get?_push_size _ rfl
    have hIP : hh₀.objs.size ≠ P := fun q => Nat.lt_irrefl _ (q ▸ Heap.lt_size hP)
    refine ⟨hh₀.objs.size, _, _, _, _, _, _, (fun i => (parts[i]?.map fun _ => true).getD false), (fun i y => ∃ b, parts[i]? = some b ∧ Carried y (dt b)), rfl,
      (fun A' hA => walksT_l hA hh₀.objs.size x (Nat.ne_of_lt hxs) its Ts vals (fun j hj => (hTs j hj).1) fun j hj => Nat.ne_of_lt (hTL j hj)), ?_, ⟨?_, ?_, ?_⟩, ?_, hl₃, ?_, ?_, ?_⟩
    · rintro i vs ⟨hi, rfl⟩
      obtain ⟨p, ta, tb, _, hv, _⟩ := hvals i hi
      exact ⟨_, _, hv⟩
    · exact ⟨_, hx₃ _ _ hIP hitr, rfl, rfl⟩
    · exact ⟨_, _, keep₃ _ _ hx0, rfl⟩
    · exact tup _ keep₃
    · intro b hb
      simp only [List.mem_cons, List.mem_map, List.mem_range] at hb
      show @LT.lt Nat _ b h₃.objs.size
      rcases hb with rfl | rfl | ⟨j, hj, rfl⟩
      · omega
      · omega
      · have := hTL j hj; omega
    · intro hm
      simp only [List.mem_cons, List.not_mem_nil, or_false] at hm
      exact Nat.ne_of_lt hst hm
    · intro href hhref
      have inB : ∀ (t : Shared) m₂, t.heap.Ns h₃.objs.size m₂ → (∀ b ∈ List.range h₃.objs.size, b ∉ [hh₀.objs.size] → ∀ o, href.get? b = some o → t.heap.get? b = some o) → Fr h₀ h₃.objs.size t.heap m₂ := fun t m₂ hn hkp =>
        ⟨hn, fun b o e => hkp b (List.mem_range.mpr (Heap.lt_size (keep₃ b o e))) (fun hm => by
            simp only [List.mem_cons, List.not_mem_nil, or_false] at hm
            exact Nat.lt_irrefl _ (Nat.lt_of_lt_of_le (Nat.lt_of_le_of_lt (Nat.le_of_eq hm.symm) (Heap.lt_size e)) (Nat.le_trans F.above (Nat.le_of_lt hLs)))) o (hhref b o (keep₃ b o e)),
          Nat.le_trans F.above (Nat.le_of_lt (by omega))⟩
      refine ⟨fun A' E' i va vb t m₂ hA hD hU hP hn hma hmb hkp => ?_, fun A' E' i va vb t m₂ hA hD hU hP hp hn hma hmb hkp => ?_⟩
      · obtain ⟨p, ta, tb, hp, _, _⟩ := hvals i hP.1
        rw [List.forIn_nil]
        exact wpAny_pure ⟨by simp [hp], _, _, rfl, fun _ _ e => e⟩
      · obtain ⟨p, ta, tb, hp', hv, _⟩ := hvals i hP.1
        have e := hP.2
        rw [hv] at e
        obtain ⟨e1, e2⟩ : va = .str p.1 ta ∧ vb = .str p.2 tb := by simpa using congrArg Array.toList e
        subst e1 e2
        exact wpAny_mono (hel cv _ A' E' p ta tb t m₂ hA hD hU (List.mem_of_getElem? hp') (inB t m₂ hn hkp) hma hmb) (fun y s₃ r => ⟨⟨p, hp', r.1⟩, r.2⟩) fun _ _ e => e
    · intro a h₅ tk gs hgb hag hsz₅ hk₅ W hat
      dsimp only at hag hsz₅ hk₅ W hat
      rw [len] at W hat
      refine hQ ps' a _ (hh₀.objs.size - 1) ht' (F₃.keeps hk₅) (fun q hq => ⟨hk₅ _ _ (N₃ q hq).1, (N₃ q hq).2⟩) (G.push hgb) rfl rfl ?_ (Nat.sub_add_cancel (Nat.lt_of_le_of_lt (Nat.zero_le _) hLs)) (Nat.le_sub_one_of_lt hLs) (Gen.toOnD parts (fun _ => true) dt ⟨_, _, _, _, W, hat, (fun i s' st => st.1.typeIs), List.mem_cons_self, ?_, ?_⟩)
      · show hh₀.objs.size ≤ h₅.objs.size
        omega
      · intro b hb
        show b < h₅.objs.size
        rw [hsz₅]
        rcases List.mem_cons.mp hb with rfl | hb
        · exact Nat.lt_succ_self _
        · rcases List.mem_cons.mp hb with rfl | hb
          · exact Nat.lt_succ_of_lt hag
          · exact Nat.lt_succ_of_lt (Nat.lt_trans (List.mem_range.mp hb) hag)
      · intro b hb
        show @LT.lt Nat _ (hh₀.objs.size - 1) b
        rcases List.mem_cons.mp hb with rfl | hb
        · omega
        · simp only [List.mem_cons, List.not_mem_nil, or_false] at hb
          subst hb
          omega
  have CH₂ := CH.keeps F₂.keep
  refine ⟨hlim.keeps F₂.keep, ?_⟩
  cases hnf : codeAmong pos ps.toList with
  | some cv => exact wpAny_codeAt_hit hcode (CH₂.code hP₂ ht) hnf (key cv _ _ ps (Heap.ExtBut.refl _ _) (by rw [Heap.size_push]; exact Nat.le_refl _) hP₂ ht)
  | none =>
    refine wpAny_genexprCodeX hcode (CH₂.code hP₂ ht) (CH₂.tab hP₂) hnf fun c' h₃ tk₃ hx₃ hge hlt hcode₃ _ htab₃ _ => ?_
    refine key (.ref c') h₃ tk₃ _ hx₃ ?_ htab₃.2 ?_
    · dsimp only at hge
      rw [Heap.size_push] at hge
      omega
    · rw [Array.toList_append]
      exact TriplesOk_snoc _ _ _ _ ht
end
end
/- R12 -/
section
open PySem PySem.W PySem.Calls PyProof.Rows PySem.Spec
noncomputable def preS (c0 : Int) (val : Nat → Int) : Nat → Int
  | 0 => c0
  | j + 1 => preS c0 val j + val j
theorem preS_eq (c0 : Int) (val : Nat → Int) : ∀ n, preS c0 val n = c0 + preSum val n
  | 0 => by simp [preS, preSum]
  | n + 1 => by simp only [preS, preSum, preS_eq c0 val n]; omega
theorem args_sum2 (a b : Value) : argsOk "sum" ⟨[a, b], []⟩ := by unfold argsOk; kernel_rfl

section
variable {prog : Program} {w : World} {A : Around} {R : Result → Shared → Prop} {I : Addr} {fp wr : List Addr} {G : Array GenState → Array GenState → Prop} {n : Nat} {P : Nat → Value → Prop} {St : Nat → Shared → Prop}

theorem sum_loop_start (W : WalksS prog w A.in1 I fp wr G n P St) (c0 : Int) (val : Nat → Int) (hval : ∀ i v, P i v → ∃ t, v = .int (val i) t) (S : Addr) (hSf : S ∉ fp) :
    ∀ (k i : Nat) (s : Shared) (tA : Tok) (c : Nat) (st : Int), (st = 0 ∨ st = 2) → n - i = k → i ≤ n → St i s → s.heap.get? S = some { cls := .type "list", dict := none, data := .seq #[.int (preS c0 val i) tA] c, slots := #[] } →
    (∀ s' t', Moved (S :: wr) G s s' → R (.ok (.ret (.int (preS c0 val n) t'))) s') → codeAny (model prog w) A (.builtin "sum.loop" ⟨[.ref I, .ref S, rawInt st, rawInt 0], []⟩) R s := by
  have hSw : S ∉ wr := fun h => hSf (W.sub _ h)
  have hsub : ∀ b ∈ wr, b ∈ S :: wr := fun b hb => List.mem_cons_of_mem _ hb
  intro k
  induction k with
  | zero =>
    intro i s tA c st hst2 hk hi hst hS hR
    have hin : i = n := by omega
    subst hin
    refine codeAny_builtin F.entry_sum_loop ?_
    rw [Around.under_plainId F.plain_sum_loop _]
    show wpAny _ A.in1 (seqItems? (.ref S) >>= _) _ _ s
    refine wpAny_bind (wpAny_seqItems hS rfl ?_)
    show wpAny _ A.in1 (tryCatch (pyNext (.ref I)) _ >>= _) _ _ s
    refine wpAny_bind (wpAny_tryCatch (W.done s _ _ hst fun s' hm => ?_))
    exact wpAny_pure (hR s' tA (hm.mono hsub))
  | succ k ih =>
    intro i s tA c st hst2 hk hi hst hS hR
    have hlt : i < n := by omega
    refine codeAny_builtin F.entry_sum_loop ?_
    rw [Around.under_plainId F.plain_sum_loop _]
    show wpAny _ A.in1 (seqItems? (.ref S) >>= _) _ _ s
    refine wpAny_bind (wpAny_seqItems hS rfl ?_)
    show wpAny _ A.in1 (tryCatch (pyNext (.ref I)) _ >>= _) _ _ s
    refine wpAny_bind (wpAny_tryCatch (W.item i s _ _ hlt hst fun v s' hP hst' hm => ?_))
    obtain ⟨t, rfl⟩ := hval i v hP
    have hS' := hm.heap S _ hSw hS
    rcases hst2 with rfl | rfl
    · show wpAny _ A.in1 (if (_ : Bool) = true then (mkInt (preS c0 val i + val i) >>= _) else _) _ _ _
      split
      · refine wpAny_bind (wpAny_mkInt ?_)
        show wpAny _ A.in1 (updateSeq S (fun _ => #[.int (preS c0 val i + val i) s'.toks]) >>= _) _ _ _
        refine wpAny_bind ?_
        refine wpAny_updateSeq hS' rfl (wpAny_pure ⟨plainId_quiet F.plain_sum_loop _, ih (i + 1) _ s'.toks _ 0 (.inl rfl) (by omega) hlt (W.frame _ s' _ _ hst' (by first | exact Nat.le_refl _ | exact Nat.le_succ _ | omega) fun b hb o e => ?_) (Heap.get?_update_self _ hS' rfl) fun s'' t'' hm'' => ?_⟩)
        · exact (Heap.get?_update_other _ _ (fun h : S = b => hSf (by rw [h]; exact hb))).trans e
        · refine hR s'' t'' (Moved.trans W.gtrans ((hm.mono hsub).then_heap (by first | exact Nat.le_refl _ | exact Nat.le_succ _ | omega) fun b o hb e => ?_) hm'')
          exact (Heap.get?_update_other _ _ (fun h : S = b => hb (by rw [h]; exact List.mem_cons_self))).trans e
      · refine wpAny_bind (wpAny_rule ?_)
        refine wpAny_bind (wpAny_attempt (wpAny_holding (wpAny_add_int ?_)))
        show wpAny _ A.in1 (updateSeq S (fun _ => #[.int (preS c0 val i + val i) s'.toks]) >>= _) _ _ _
        refine wpAny_bind (wpAny_updateSeq hS' rfl ?_)
        have hS₂ := Heap.get?_update_self (Obj.mapSeq fun _ => #[Value.int (preS c0 val i + val i) s'.toks]) hS' rfl
        refine wpAny_bind (wpAny_letGo ?_)
        refine wpAny_bind (wpAny_updateSeq hS₂ rfl (wpAny_pure ⟨plainId_quiet F.plain_sum_loop _, ih (i + 1) _ s'.toks _ 2 (.inr rfl) (by omega) hlt (W.frame _ s' _ _ hst' (by first | exact Nat.le_refl _ | exact Nat.le_succ _ | omega) fun b hb o e => ?_) (Heap.get?_update_self _ hS₂ rfl) fun s'' t'' hm'' => ?_⟩))
        · exact (Heap.get?_update_other _ _ (fun h : S = b => hSf (by rw [h]; exact hb))).trans ((Heap.get?_update_other _ _ (fun h : S = b => hSf (by rw [h]; exact hb))).trans e)
        · refine hR s'' t'' (Moved.trans W.gtrans ((hm.mono hsub).then_heap (by first | exact Nat.le_refl _ | exact Nat.le_succ _ | omega) fun b o hb e => ?_) hm'')
          exact (Heap.get?_update_other _ _ (fun h : S = b => hb (by rw [h]; exact List.mem_cons_self))).trans ((Heap.get?_update_other _ _ (fun h : S = b => hb (by rw [h]; exact List.mem_cons_self))).trans e)
    · show wpAny _ A.in1 ((holding [Value.int (val i) t] (binaryOp .Add (.int (preS c0 val i) tA) (.int (val i) t))).attempt >>= _) _ _ _
      refine wpAny_bind (wpAny_attempt (wpAny_holding (wpAny_add_int ?_)))
      show wpAny _ A.in1 (updateSeq S (fun _ => #[.int (preS c0 val i + val i) s'.toks]) >>= _) _ _ _
      refine wpAny_bind (wpAny_updateSeq hS' rfl ?_)
      have hS₂ := Heap.get?_update_self (Obj.mapSeq fun _ => #[Value.int (preS c0 val i + val i) s'.toks]) hS' rfl
      refine wpAny_bind (wpAny_letGo ?_)
      refine wpAny_bind (wpAny_updateSeq hS₂ rfl (wpAny_pure ⟨plainId_quiet F.plain_sum_loop _, ih (i + 1) _ s'.toks _ 2 (.inr rfl) (by omega) hlt (W.frame _ s' _ _ hst' (by first | exact Nat.le_refl _ | exact Nat.le_succ _ | omega) fun b hb o e => ?_) (Heap.get?_update_self _ hS₂ rfl) fun s'' t'' hm'' => ?_⟩))
      · exact (Heap.get?_update_other _ _ (fun h : S = b => hSf (by rw [h]; exact hb))).trans ((Heap.get?_update_other _ _ (fun h : S = b => hSf (by rw [h]; exact hb))).trans e)
      · refine hR s'' t'' (Moved.trans W.gtrans ((hm.mono hsub).then_heap (by first | exact Nat.le_refl _ | exact Nat.le_succ _ | omega) fun b o hb e => ?_) hm'')
        exact (Heap.get?_update_other _ _ (fun h : S = b => hb (by rw [h]; exact List.mem_cons_self))).trans ((Heap.get?_update_other _ _ (fun h : S = b => hb (by rw [h]; exact List.mem_cons_self))).trans e)
end

section
variable {prog : Program} {w : World} {A : Around} {E : Value → Shared → Prop} {s : Shared}

theorem sum_start_walk {x : Value} {c0 : Int} {tc : Tok} {Q : Value → Shared → Prop}
    (h : wpAny (model prog w) A.in1 (pyIter x) (fun it s₂ => ∃ I fp wr G n P St val, it = .ref I ∧ WalksS prog w A.in1 I fp wr G n P St ∧ St 0 s₂ ∧ (∀ b ∈ fp, b < s₂.heap.objs.size) ∧
      (∀ i v, P i v → ∃ t, v = .int (val i) t) ∧
      ∀ s' t', Moved wr G s₂ s' → Q (.int (preS c0 val n) t') s') E s) :
    wpAny (model prog w) A (call (.builtin "sum") [x, .int c0 tc]) Q E s := by
  refine call_function_tree F.kind_sum F.plain_sum F.entry_sum (args_sum2 _ _) ?_
  unfold Builtin.«sum»
  simp only [List.length_cons, List.length_nil]
  rw [if_neg (by decide)]
  refine wpAny_bind (wpAny_of_eq (show Builtin.Builtins.bindParams "sum" ["start"] 0 { pos := [.int c0 tc] } = pure [some (.int c0 tc)] from rfl) ?_)
  refine wpAny_bind (wpAny_mono h (fun it s₂ h₂ => ?_) fun _ _ e => e)
  obtain ⟨I, fp, wr, G, n, P, St, val, rfl, W, hst, hfp, hval, hQ⟩ := h₂
  have fin : ∀ (tA : Tok) (st : Int) (tk : Tok), s₂.toks ≤ tk → (st = 0 ∨ st = 2) → wpAny (model prog w) A.in1 (do
      for (ty, what, hint) in [("str", "strings", "''"), ("bytes", "bytes", "b''"), ("bytearray", "bytearray", "b''")] do
        if ← isInstance (.int c0 tA) (.type ty) then
          rule "sum.start-refused"; raiseError "TypeError" s!"sum() can't sum {what} [use {hint}.join(seq) instead]"
      again (.builtin "sum.loop" ⟨[.ref I, ← newList [.int c0 tA], rawInt st, rawInt 0], []⟩))
      (fun fin s' => match fin with
        | .done f => (match (Except.ok f : Result) with | .ok (.ret v) => Q v s' | .ok _ => False | .error e => E e s')
        | .again c' => c'.quiet = true ∧ codeAny (model prog w) A c' (fun r s' => match r with | .ok (.ret v) => Q v s' | .ok _ => False | .error e => E e s') s') E { s₂ with toks := tk } := by
    intro tA st tk htk hst2
    simp only [List.forIn_cons, List.forIn_nil]
    refine wpAny_bind (wpAny_bind (wpAny_bind (wpAny_isInstance (T := "int") (b := false) (typeIs_int _ _ _) PySem.sub_int_str ?_)))
    simp only [Bool.false_eq_true, if_false]
    refine wpAny_pure (wpAny_bind (wpAny_bind (wpAny_isInstance (T := "int") (b := false) (typeIs_int _ _ _) PySem.sub_int_bytes ?_)))
    simp only [Bool.false_eq_true, if_false]
    refine wpAny_pure (wpAny_bind (wpAny_bind (wpAny_isInstance (T := "int") (b := false) (typeIs_int _ _ _) PySem.sub_int_bytearray ?_)))
    simp only [Bool.false_eq_true, if_false]
    refine wpAny_pure (wpAny_pure ?_)
    refine wpAny_bind (wpAny_newObj_type ?_)
    have hSf : s₂.heap.objs.size ∉ fp := fun hm => Nat.lt_irrefl _ (hfp _ hm)
    refine wpAny_pure ⟨plainId_quiet F.plain_sum_loop _, sum_loop_start W c0 val hval s₂.heap.objs.size hSf n 0 _ tA 0 st hst2 rfl (Nat.zero_le _)
      (W.frame 0 s₂ _ _ hst (by first | exact Nat.le_refl _ | exact htk | omega) fun b _ o e => Heap.get?_push_of_some _ e) (Heap.get?_push_size _ rfl) fun s' t' hm => ?_⟩
    exact hQ s' t' (hm.drop_new (by first | exact Nat.le_refl _ | exact htk | omega))
  dsimp only
  split
  · exact wpAny_bind (wpAny_rule (wpAny_bind (wpAny_mkInt (wpAny_bind (wpAny_pure (fin _ 0 _ (Nat.le_succ _) (.inl rfl)))))))
  · exact wpAny_bind (wpAny_pure (fin _ 2 _ (Nat.le_refl _) (.inr rfl)))
end

section
variable {prog : Program} {w : World} {A : Around} {E : Value → Shared → Prop} {s : Shared} {h₀ : Heap} {L K : Addr} {m : Str → Option Value}
theorem join_rows_d {a : Addr} {n : Nat} {F : Nat → Value → Prop} {Q : Value → Shared → Prop} {sep : Str} {t : Tok} (Fh : Fr h₀ L s.heap m) (G : AllBare s.gens) (X : Gen prog w A K a n F s) (hLK : L ≤ K) (tx : Nat → Str) (htx : ∀ j v, F j v → ∃ u, v = .str (tx j) u)
    (hok : JoinOk sep ((List.range n).map tx) = true)
    (hQ : ∀ s' t', Fr h₀ L s'.heap m → AllBare s'.gens → s'.os = s.os → s'.drawn = s.drawn → (∀ b o, b ≤ K → s.heap.get? b = some o → s'.heap.get? b = some o) → Q (.str (Txt.join sep ((List.range n).map tx)) t') s')
    (hsz : n ≤ sizeLine) : wpAny (model prog w) A (call (.builtin "str.join") [.str sep t, .ref a]) Q E s := by
  obtain ⟨fp, wr, g, St, W, hst, hT, ha, hfp, hwr⟩ := X
  have W := W.in4_2
  refine SC.joinGen W hT hst hfp ha (fun j v hv => let ⟨u, e⟩ := htx j v hv; ⟨_, u, e⟩) (fun s' lt hm hacc => ?_) hsz
  have hl : lt.map (·.1) = (List.range n).map tx := by
    apply List.ext_getElem?
    intro j
    have hsz : lt.length = n := by simpa [strValues] using hacc.1
    by_cases hj : j < n
    · have hj' : j < lt.length := hsz ▸ hj
      obtain ⟨u, hv⟩ := htx j _ (hacc.2 j (.str lt[j].1 lt[j].2) (by simp [strValues, List.getElem?_eq_getElem hj']))
      injection hv with h1 _
      simp [List.getElem?_eq_getElem hj', hj, h1]
    · rw [List.getElem?_eq_none (by simpa [hsz] using Nat.le_of_not_lt hj), List.getElem?_eq_none (by simpa using Nat.le_of_not_lt hj)]
  rw [hl]
  have f1 := Fh.moved hm fun b hb => Nat.lt_of_le_of_lt hLK (hwr b hb)
  have k1 : ∀ b o, b ≤ K → s.heap.get? b = some o → s'.heap.get? b = some o := fun b o hb e => hm.heap b o (fun hmem => Nat.lt_irrefl _ (Nat.lt_of_lt_of_le (hwr b hmem) hb)) e
  have g1 := G.movedS hm
  have o1 := hm.os
  have d1 := hm.drawn
  exact ⟨hok, fun t' k => hQ { s' with toks := k } t' f1 g1 o1 d1 k1⟩
end

section
variable {prog : Program} {w : World} {A : Around} {E : Value → Shared → Prop} {s : Shared} {h₀ : Heap} {L Kb : Addr} {m : Str → Option Value}
variable {α : Type} {a : Addr} {as : List α} {pz : α → Bool} {Q : Value → Shared → Prop}
theorem sum_start_gen {f : α → Int} {c0 : Int} {tc : Tok} (Fh : Fr h₀ L s.heap m) (G : AllBare s.gens) (X : GenOnD prog w A Kb a as pz (fun k => .int (f k)) s) (hLK : L ≤ Kb)
    (hQ : ∀ s' t', Fr h₀ L s'.heap m → AllBare s'.gens → s'.os = s.os → s'.drawn = s.drawn → (∀ b o, b ≤ Kb → s.heap.get? b = some o → s'.heap.get? b = some o) → Q (.int (c0 + ((as.filter pz).map f).sum) t') s') :
    wpAny (model prog w) A (call (.builtin "sum") [.ref a, .int c0 tc]) Q E s := by
  obtain ⟨fp, wr, g, St, W, hst, _, _, hfp, hwr⟩ := X
  have W := W.in4_1
  refine sum_start_walk (W.self 0 _ _ _ hst ⟨a, _, _, _, _, _, _, (fun j => ((as.filter pz).map f).getD j 0), rfl, W, hst, hfp, fun i v hv => ?_, fun s' t' hm => ?_⟩)
  · obtain ⟨b, hb, hc⟩ := hv
    cases hc with
    | int _ t => exact ⟨t, by simp [List.getD_eq_getElem?_getD, hb]⟩
  · have e := preSum_getD ((as.filter pz).map f) (as.filter pz).length
    rw [List.take_of_length_le (by simp)] at e
    rw [preS_eq, e]
    exact hQ s' t' (Fh.moved hm fun b hb => Nat.lt_of_le_of_lt hLK (hwr b hb)) (G.movedS hm) hm.os hm.drawn fun b o hb e => hm.heap b o (fun hmem => Nat.lt_irrefl _ (Nat.lt_of_lt_of_le (hwr b hmem) hb)) e
theorem join_gen_d {sep : Str} {t : Tok} {f : α → Str} (Fh : Fr h₀ L s.heap m) (G : AllBare s.gens) (X : GenOnD prog w A Kb a as pz (fun k => .str (f k)) s) (hLK : L ≤ Kb)
    (hok : JoinOk sep ((as.filter pz).map f) = true)
    (hQ : ∀ s' t', Fr h₀ L s'.heap m → AllBare s'.gens → s'.os = s.os → s'.drawn = s.drawn → (∀ b o, b ≤ Kb → s.heap.get? b = some o → s'.heap.get? b = some o) → Q (.str (Txt.join sep ((as.filter pz).map f)) t') s')
    (hsz : as.length ≤ sizeLine) :
    wpAny (model prog w) A (call (.builtin "str.join") [.str sep t, .ref a]) Q E s := by
  have e : (List.range (as.filter pz).length).map (fun j => ((as.filter pz).map f).getD j ("" : Str)) = (as.filter pz).map f := by
    apply List.ext_getElem
    · simp
    · intro i h₁ h₂
      have hi : i < (as.filter pz).length := by simpa using h₂
      simp [List.getD_eq_getElem?_getD, List.getElem?_eq_getElem hi]
  refine join_rows_d Fh G X hLK (fun j => ((as.filter pz).map f).getD j ("" : Str)) (fun j v hv => ?_) (by rw [e]; exact hok) (by rw [e]; exact hQ) (Nat.le_trans (List.length_filter_le _ _) hsz)
  obtain ⟨b, hb, hc⟩ := hv
  cases hc with
  | str _ u => exact ⟨u, by simp [List.getD_eq_getElem?_getD, hb]⟩
end
end
/- R13 -/
section
open PySem PySem.W PySem.Calls PyProof.Rows PySem.Spec
section
variable {M : Model} {A : Around} {E : Value → Shared → Prop} {s : Shared} {K : Frag} {h₀ : Heap} {L C : Addr} {m mg mb : Str → Option Value} {p : Program} {loose : List Str} {scope : Scope} {cl : List (Str × Addr)} {code : Value} {env : Env}
  {x : Str} {pos : Pos} {v : Value} {Q : Value → Shared → Prop}
theorem nameG_K (F : Fr h₀ C s.heap m) (X : K.In h₀) (T : TopRead p loose mg mb h₀) (e : nsIn K mainGlobals x = some (some v)) (h : Q v s) (hg : env.globals = mainGlobals)
    (hk : scope.kind = .function) (hx : (genEnv scope cl C code builtinsNs env).kindOf x = some .globalImplicit) (hd : (x == ("__debug__" : Str)) = false) :
    wpAny M A (eval (.Name x pos) (genEnv scope cl C code builtinsNs env)) Q E s := Name_function_global hk hx (loadGlobal_global (env := genEnv scope cl C code builtinsNs env) (show s.heap.Ns env.globals mg from hg ▸ T.g.keeps F.keep) (mg_of X T.g e) h) hd
theorem nameG_B (F : Fr h₀ C s.heap m) (X : K.In h₀) (T : TopRead p loose mg mb h₀) (e : nsIn K mainGlobals x = some none) (hv : bootBuiltins x = some v) (hn : x ≠ "__name__") (h : Q v s) (hg : env.globals = mainGlobals)
    (hk : scope.kind = .function) (hx : (genEnv scope cl C code builtinsNs env).kindOf x = some .globalImplicit) (hd : (x == ("__debug__" : Str)) = false) :
    wpAny M A (eval (.Name x pos) (genEnv scope cl C code builtinsNs env)) Q E s :=
  Name_function_global hk hx (loadGlobal_builtin (env := genEnv scope cl C code builtinsNs env) (show s.heap.Ns env.globals mg from hg ▸ T.g.keeps F.keep) (mg_none_of X T.g e) (T.b.keeps F.keep) ((T.builtins x hn).trans hv) h) hd
theorem nameG_L (F : Fr h₀ C s.heap m) (hv : m x = some v) (h : Q v s)
    (hk : scope.kind = .function) (hx : (genEnv scope cl C code builtinsNs env).kindOf x = some .local) (hd : (x == ("__debug__" : Str)) = false) :
    wpAny M A (eval (.Name x pos) (genEnv scope cl C code builtinsNs env)) Q E s := wpAny_Name (wpAny_loadName_local hk hx F.ns hv h) hd
theorem inst_base {h h₀ : Heap} {L x C : Addr} {m : Str → Option Value} {ox : Obj} {od : Option Obj} (F : Fr h₀ L h m) (I : InstAt h₀ x ox C od) : InstAt h x ox C od := inst_keeps I F.keep
end

theorem gen_keeps {prog : Program} {w : World} {A : Around} {L a : Addr} {n : Nat} {F : Nat → Value → Prop} {s : Shared} (X : Gen prog w A L a n F s) (h : Heap) (tk : Tok) (ht : s.toks ≤ tk) (hk : ∀ b o, s.heap.get? b = some o → h.get? b = some o) (hsz : s.heap.objs.size ≤ h.objs.size) :
    Gen prog w A L a n F { s with heap := h, toks := tk } := by
  obtain ⟨fp, wr, g, St, W, hst, hT, ha, hfp, hwr⟩ := X
  exact ⟨fp, wr, g, St, W, W.frame 0 s h tk hst ht fun b _ o e => hk b o e, hT, ha, fun b hb => Nat.lt_of_lt_of_le (hfp b hb) hsz, hwr⟩
theorem genD_keeps {α : Type} {prog : Program} {w : World} {A : Around} {L a : Addr} {as : List α} {pz : α → Bool} {d : α → PyData} {s : Shared} (X : GenOnD prog w A L a as pz d s) (h : Heap) (tk : Tok) (ht : s.toks ≤ tk) (hk : ∀ b o, s.heap.get? b = some o → h.get? b = some o) (hsz : s.heap.objs.size ≤ h.objs.size) :
    GenOnD prog w A L a as pz d { s with heap := h, toks := tk } := gen_keeps X h tk ht hk hsz
end
/- R14 -/
section
open PySem PySem.W PySem.Calls PyProof.Rows PySem.Spec
theorem clip_nat {n i : Nat} (h : i ≤ n) : clipAt n (i : Int) = i := by
  have := clipAt_cast n (i : Int)
  rw [if_neg (Int.not_lt.mpr (Int.natCast_nonneg i))] at this
  rw [Int.min_eq_left (Int.ofNat_le.mpr h), Int.max_eq_right (Int.natCast_nonneg i)] at this
  exact Int.ofNat_inj.mp this
theorem spl_take {its : Array Value} {i : Nat} (h : i ≤ its.size) : spl its #[] i its.size = (its.toList.take i).toArray := by
  apply Array.toList_inj.mp
  simp only [spl, Array.toList_append, Array.toList_extract, List.append_nil, List.extract_eq_take_drop, Nat.max_eq_right h, Nat.sub_self, List.take_zero, Nat.sub_zero, List.drop_zero]
theorem spl_all {its new : Array Value} : spl its new 0 its.size = new := by
  apply Array.toList_inj.mp
  simp only [spl, Array.toList_append, Array.toList_extract, List.extract_eq_take_drop, Nat.sub_self, List.take_zero, List.drop_zero, Nat.zero_max, List.append_nil, List.nil_append]
theorem pick_drop {its : Array Value} {i : Nat} (h : i ≤ its.size) : slicePick its (some (i : Int)) none none = (its.toList.drop i).toArray := by
  rw [kmk_pick_nat its (a := i) (b := its.size)]
  · rw [List.take_of_length_le (by simp)]
  · simp [sliceBounds]
    omega

section
variable {prog : Program} {w : World} {A : Around} {s s' : Shared} {g : Heap} {L : Addr} {m : Str → Option Value} {news news' : List (Addr × Obj)} {ts : List Addr}
/-- a frame lives on behind a call that changed made objects alone -/
theorem kept_fr (Kp : Kept ts s s') (F : Fr g L s.heap m) (N : News g L s.heap news) (hts : ∀ t ∈ ts, t ∈ news.map (·.1)) : Fr g L s'.heap m := by
  have nm : ∀ t ∈ ts, t ≠ L ∧ g.get? t = none := fun t ht => by
    obtain ⟨q, hq, rfl⟩ := List.mem_map.mp (hts t ht)
    exact (N q hq).2
  exact ⟨F.ns.at fun o e => Kp.keep L o (fun h => (nm L h).1 rfl) e, fun b o e => Kp.keep b o (fun h => by rw [(nm b h).2] at e; cases e) (F.keep b o e), F.above⟩
theorem kept_news (Kp : Kept ts s s') (F : Fr g L s.heap m) (N : News g L s.heap news)
    (h : ∀ q ∈ news', (q ∈ news ∧ q.1 ∉ ts) ∨ (s'.heap.get? q.1 = some q.2 ∧ (q.1 ∈ news.map (·.1) ∨ s.heap.get? q.1 = none))) : News g L s'.heap news' := by
  intro q hq
  rcases h q hq with ⟨h1, h2⟩ | ⟨h1, h2 | h2⟩
  · exact ⟨Kp.keep _ _ h2 (N q h1).1, (N q h1).2⟩
  · obtain ⟨r, hr, e⟩ := List.mem_map.mp h2
    refine ⟨h1, ?_⟩
    rw [← e]
    exact (N r hr).2
  · refine ⟨h1, fun e => ?_, ?_⟩
    · obtain ⟨o, _, _, ho, _⟩ := F.ns
      rw [e, ho] at h2; cases h2
    · cases e : g.get? q.1 with
      | none => rfl
      | some o => rw [F.keep _ _ e] at h2; cases h2
end
end
/- R15 -/
section
open PySem PySem.W PySem.Calls PyProof.Rows PySem.Spec
section
variable {s s' : Shared} {g h H₀ : Heap} {L : Addr} {m : Str → Option Value} {news news' : List (Addr × Obj)} {ts : List Addr}
theorem sub_fr (F : Fr g L h m) (HG : Sub H₀ g) : Sub H₀ h := fun b o e => F.keep b o (HG b o e)
theorem kept_fr0 (Kp : Kept [] s s') (F : Fr g L s.heap m) : Fr g L s'.heap m := ⟨F.ns.at fun o e => Kp.keep L o (fun h => nomatch h) e, fun b o e => Kp.keep b o (fun h => nomatch h) (F.keep b o e), F.above⟩
theorem kept_news0 (Kp : Kept [] s s') (N : News g L s.heap news) : News g L s'.heap news := fun q hq => ⟨Kp.keep _ _ (fun h => nomatch h) (N q hq).1, (N q hq).2⟩
/-- two calls one behind the other -/
theorem Kept.andThen {s s' s'' : Shared} {us : List Addr} (a : Kept ts s s') (b : Kept us s' s'') (h : ∀ t ∈ us, t ∈ ts ∨ s.heap.get? t = none) : Kept ts s s'' := by
  refine ⟨fun x o hx e => ?_, Nat.le_trans a.size b.size, b.os.trans a.os, b.drawn.trans a.drawn, fun q => b.gens (a.gens q)⟩
  refine b.keep x o (fun q => ?_) (a.keep x o hx e)
  rcases h x q with r | r
  · exact hx r
  · rw [r] at e; cases e
end
end
/- R16 -/
section
open PySem PySem.W PySem.Calls PyProof.Rows PySem.Spec Builtin
section
variable {prog : Program} {w : World} {A : Around} {E : Value → Shared → Prop} {s : Shared} {K : Frag} {x C L f : Addr} {h₀ : Heap} {m : Str → Option Value} {ox : Obj} {od : Option Obj}
noncomputable def TruthBack (Q : Bool → Shared → Prop) (v : Value) (s' : Shared) : Prop := match v with
  | .int n _ => (0 ≤ n ∧ n < 2 ^ 63) ∧ Q (n != 0) { s' with toks := s'.toks + 1 }
  | _ => False
theorem truthy_len {Q : Bool → Shared → Prop} (F : Fr h₀ L s.heap m) (X₀ : K.In h₀) (I : InstAt s.heap x ox C od) (hb : findIn K (.ref C) "__bool__" = some none) (hs : findIn K (.ref C) "__len__" = some (some (.ref f))) (hf : isFn K (.ref f) = true)
    (h : wpAny (model prog w) A.in1 (call (.ref f) [.ref x]) (TruthBack Q) E s) : wpAny (model prog w) A (truthy (.ref x)) Q E s := by
  have X := X₀.keeps F.keep
  have key : wpAny (model prog w) A (runValue (.builtin "len" ⟨[.ref x], []⟩)) (fun r s' => ∃ n t, r = .int n t ∧ Q (n != 0) s') E s := by
    refine wpAny_runValue (codeAny_builtin entry_len ?_)
    rw [Around.under_plainId plain_len _]
    unfold Builtin.«len»
    refine wpAny_bind (m := oneArg "len" _) (wpAny_pure ?_)
    refine wpAny_bind (m := callSpecial? (.ref x) (Str.ofString "__len__")) (special_fn X I hs (beq_iff_eq.mp hf) (wpAny_mono h (fun r s' hr => ?_) fun _ _ y => y))
    cases r <;> first | exact hr.elim | skip
    rename_i n u
    obtain ⟨⟨h0, h1⟩, hq⟩ := hr
    refine wpAny_bind (wpAny_holding (wpAny_pure ?_))
    refine wpAny_bind (wpAny_letGo ?_)
    show wpAny _ _ (if n < 0 then _ else _) _ _ _
    rw [if_neg (by omega)]
    show wpAny _ _ (if n ≥ 2 ^ 63 then _ else _) _ _ _
    rw [if_neg (by omega)]
    exact wpAny_bind (wpAny_mkInt (wpAny_pure ⟨_, _, rfl, hq⟩))
  unfold truthy
  refine wpAny_bind (m := callSpecial? (.ref x) (Str.ofString "__bool__")) (wpAny_bind (wpAny_bind (I.type.here ((looks_findIn X hb).here (wpAny_pure ?_)))))
  refine wpAny_bind (wpAny_bind (I.type.here ((looks_findIn X hs).here ?_)))
  show wpAny _ _ (if (some (Value.ref f)).isNone = true then _ else _) _ _ _
  rw [if_neg (by simp)]
  refine wpAny_bind (wpAny_mono key (fun r s' hr => ?_) fun _ _ y => y)
  obtain ⟨n, t, rfl, hq⟩ := hr
  exact wpAny_pure hq
end
theorem parts_hide {T : List (Addr × Obj)} {g : Heap} {s : Shared} {its : List Value} {parts : List (Str × Str)} (hkeep : ∀ b o, b ∉ T.map (·.1) → s.heap.get? b = some o → g.get? b = some o) (hT : ∀ q ∈ T, s.heap.get? q.1 = some q.2)
    (hc : ∀ q ∈ T, q.2.cls ≠ .type "tuple") (hpt : Parts s.heap its parts) : Parts g its parts := hpt.keeps fun b o e hcl => hkeep b o (fun hm => by
  obtain ⟨q, hq, rfl⟩ := List.mem_map.mp hm
  have := hT q hq
  rw [e] at this
  cases this
  exact hc q hq hcl) e
noncomputable def plen (parts : List (Str × Str)) : Int := (parts.map fun p => ((p.1.length : Int) + p.2.length)).sum
theorem plen_bound : ∀ {parts : List (Str × Str)}, (∀ p ∈ parts, p.1.length ≤ 1000 ∧ p.2.length ≤ 1000) → 0 ≤ plen parts ∧ plen parts ≤ 2000 * parts.length
  | [], _ => by simp [plen]
  | q :: r, h => by
    have ih := plen_bound (parts := r) fun p hp => h p (.tail _ hp)
    have h1 := h q (.head _)
    simp only [plen, List.map_cons, List.sum_cons, List.length_cons] at ih ⊢
    omega
noncomputable def ptext (parts : List (Str × Str)) : Str := Txt.join "" (parts.map fun p => Txt.join "" [p.1, p.2])
end
/- R17 -/
section
open PySem PySem.W PySem.Calls PyProof.Rows PySem.Spec
noncomputable def AllNe (y : Addr) : List (Addr × Obj) → Prop
  | [] => True
  | p :: r => @Ne Nat p.1 y ∧ AllNe y r
section
variable {s s' : Shared} {g h : Heap} {L a t u : Addr} {m : Str → Option Value} {news n1 n2 : List (Addr × Obj)} {ts : List Addr} {o o' q q' : Obj}
theorem allNe_of (N : News g L h news) (e : h.get? a = none) : AllNe a news := by
  induction news with
  | nil => trivial
  | cons r l ih =>
    refine ⟨fun k => ?_, ih fun x hx => N x (.tail _ hx)⟩
    have := (N r (.head _)).1
    rw [show r.1 = a from k, e] at this
    cases this
theorem news_fresh (Kp : Kept ts s s') (F : Fr g L s.heap m) (N : News g L s'.heap news) (e : s.heap.get? a = none) (ho : s'.heap.get? a = some o) : News g L s'.heap ((a, o) :: news) := by
  intro x hx
  rcases List.mem_cons.mp hx with rfl | hx
  · refine ⟨ho, fun k => ?_, ?_⟩
    · obtain ⟨oL, _, _, hL, _⟩ := F.ns
      rw [show a = L from k, hL] at e; cases e
    · cases k : g.get? a with
      | none => rfl
      | some b => rw [F.keep _ _ k] at e; cases e
  · exact N x hx
theorem step0 (Kp : Kept [] s s') (F : Fr g L s.heap m) (N : News g L s.heap news) : Fr g L s'.heap m ∧ News g L s'.heap news := ⟨kept_fr0 Kp F, kept_news0 Kp N⟩
theorem step1 (Kp : Kept [t] s s') (F : Fr g L s.heap m) (N : News g L s.heap news) (U : Upd t o o' news n1) (e : s'.heap.get? t = some o') : Fr g L s'.heap m ∧ News g L s'.heap n1 := by
  obtain ⟨pre, post, rfl, rfl, a, b⟩ := U.split
  have ht : (t, o) ∈ pre ++ (t, o) :: post := List.mem_append.mpr (.inr (.head _))
  refine ⟨kept_fr Kp F N fun x hx => ?_, fun x hx => ?_⟩
  · simp only [List.mem_cons, List.not_mem_nil, or_false] at hx
    subst hx
    exact List.mem_map.mpr ⟨_, ht, rfl⟩
  · rcases List.mem_append.mp hx with hx | hx
    · have := N x (List.mem_append.mpr (.inl hx))
      exact ⟨Kp.keep _ _ (by simpa using a x hx) this.1, this.2⟩
    · rcases List.mem_cons.mp hx with rfl | hx
      · exact ⟨e, (N _ ht).2⟩
      · have := N x (List.mem_append.mpr (.inr (.tail _ hx)))
        exact ⟨Kp.keep _ _ (by simpa using b x hx) this.1, this.2⟩
theorem step2 (Kp : Kept [t, u] s s') (F : Fr g L s.heap m) (N : News g L s.heap news) (U : Upd t o o' news n1) (V : Upd u q q' n1 n2) (e : s'.heap.get? t = some o') (e2 : s'.heap.get? u = some q') (hne : @Ne Nat t u) : Fr g L s'.heap m ∧ News g L s'.heap n2 := by
  obtain ⟨pre, post, rfl, rfl, a, b⟩ := U.split
  have ht : (t, o) ∈ pre ++ (t, o) :: post := List.mem_append.mpr (.inr (.head _))
  obtain ⟨pre', post', hn, rfl, c, d⟩ := V.split
  have hu : (u, q) ∈ pre ++ (t, o') :: post := by rw [hn]; exact List.mem_append.mpr (.inr (.head _))
  have hu' : (u, q) ∈ pre ++ (t, o) :: post := by
    rcases List.mem_append.mp hu with k | k
    · exact List.mem_append.mpr (.inl k)
    · rcases List.mem_cons.mp k with k | k
      · exact absurd (Prod.mk.inj k).1.symm hne
      · exact List.mem_append.mpr (.inr (.tail _ k))
  have old : ∀ x ∈ pre ++ (t, o') :: post, x.1 ≠ u → s'.heap.get? x.1 = some x.2 ∧ x.1 ≠ L ∧ g.get? x.1 = none := fun x hx hxu => by
    rcases List.mem_append.mp hx with hx | hx
    · have := N x (List.mem_append.mpr (.inl hx))
      exact ⟨Kp.keep _ _ (by simpa using ⟨a x hx, hxu⟩) this.1, this.2⟩
    · rcases List.mem_cons.mp hx with rfl | hx
      · exact ⟨e, (N _ ht).2⟩
      · have := N x (List.mem_append.mpr (.inr (.tail _ hx)))
        exact ⟨Kp.keep _ _ (by simpa using ⟨b x hx, hxu⟩) this.1, this.2⟩
  refine ⟨kept_fr Kp F N fun x hx => ?_, fun x hx => ?_⟩
  · simp only [List.mem_cons, List.not_mem_nil, or_false] at hx
    rcases hx with rfl | rfl
    · exact List.mem_map.mpr ⟨_, ht, rfl⟩
    · exact List.mem_map.mpr ⟨_, hu', rfl⟩
  · rcases List.mem_append.mp hx with hx | hx
    · exact old x (by rw [hn]; exact List.mem_append.mpr (.inl hx)) (c x hx)
    · rcases List.mem_cons.mp hx with rfl | hx
      · exact ⟨e2, (N _ hu').2⟩
      · exact old x (by rw [hn]; exact List.mem_append.mpr (.inr (.tail _ hx))) (d x hx)
end
end
/- R18 -/
section
open PySem PySem.W PySem.Calls PyProof.Rows PySem.Spec Builtin Builtin.ObjectAttr
section
variable {prog : Program} {w : World} {M : Model} {A : Around} {E : Value → Shared → Prop} {s : Shared} {K : Frag} {x C d L f : Addr} {h₀ h : Heap} {m : Str → Option Value} {news : List (Addr × Obj)} {its : Array Value} {n k : Nat} {es : List DictEntry} {ox : Obj} {od : Option Obj} {name : Str} {v : Value} {env : Env}

/-- a def of the class, met through the instance of a class built on list: a method object is made -/
theorem get_methl {expr : Bool} {Q : Value → Shared → Prop} (F : Fr h₀ L s.heap m) (X₀ : K.In h₀) (N : News h₀ L s.heap news) (I : InstAt s.heap x ox C (some (dictOf es k))) (hg : plainL K C = true) (hm : mroIn K C (.type "list") = some true) (hh : hasDictIn K C = true)
    (ha : findIn K (.ref C) name = some (some (.ref f))) (hf : isFn K (.ref f) = true) (hgf : specialIn K (.ref f) "__get__" = some (some (.builtin "function.__get__"))) (ht : takesIn K (.ref f) = some false) (hc : copiedNames.contains name = false) (hl : getL name es = some none)
    (h : ∀ q h', Fr h₀ L h' m → News h₀ L h' ((q, methodObj (.ref f) (.ref x)) :: news) → (∀ p ∈ news, p.1 < q) → Q (.ref q) { s with heap := h', toks := s.toks + 1 }) :
    wpAny (model prog w) A (getAttr (.ref x) name expr) Q E s := by
  have X := X₀.keeps F.keep
  have hq := h s.heap.objs.size _ (F.push _) (N.push F (methodObj (.ref f) (.ref x))) fun p hp => Heap.lt_size (N p hp).1
  obtain ⟨hp, g, dr, t, os⟩ := s
  have L0 := I.type (M := model prog w)
  have L1 := looks_findIn (M := model prog w) X (plainL_of hg).1
  have L2 := looks_findIn (M := model prog w) X (plainL_of hg).2
  unfold getAttr getAttrBy
  refine wpAny_bind (wpAny_mkText (wpAny_holding (wpAny_bind (L0.at (wpAny_bind (L1.at ?_))))))
  dsimp only
  rw [if_neg (show ¬ ((onTheHeap (Value.ref C) && (Value.builtin "list.__getattribute__" == Value.builtin "object.__getattribute__")) = true) by
    rw [show (Value.builtin "list.__getattribute__" == Value.builtin "object.__getattribute__") = false by decide +kernel, Bool.and_false]; exact Bool.false_ne_true)]
  unfold getAttrByItsOwn hookBefore
  refine wpAny_bind (L2.at ?_)
  unfold callGetattribute boundAndCalled
  rw [if_neg (by cases expr <;> decide)]
  refine wpAny_bind (wpAny_attempt (wpAny_holding ?_))
  rw [lb_ga.bind]
  refine wpAny_bind (wpAny_pure ?_)
  refine call_bi (od := some (dictOf es k)) lb_ga X I hm (args_list_ga _ _) ?_
  show wpAny _ _ (typeOf (.ref x) >>= _) _ _ _
  have L3 := looks_find (M := model prog w) X I (findObj_fn hh ha hgf ht hc (by show lookIn name (dictOf es k) = _; rw [lookIn_dict, hl]))
  refine wpAny_bind (L0.at (wpAny_bind (L3.at ?_)))
  show wpAny _ _ (bindTo _ _ _ _) _ _ _
  unfold bindTo
  refine wpAny_bind (wpAny_holding (wpAny_call (fn_get (s := ⟨hp, g, dr, t + 1, os⟩) X (beq_iff_eq.mp hf) (wpAny_pure ⟨_, rfl, ?_⟩))))
  show wpAny _ _ (handedOut _) _ _ _
  exact handed_on rfl hq

theorem star_method {o : Expr} {apos pos p : Pos} {e : Expr} {Q : Value → Shared → Prop} (hl : ∀ q : Pos, starEach [.Starred e q] env = [(true, eval e env)])
    (h : wpAny M A (eval o env) (fun ov s₁ => wpAny M A (getAttr ov name true) (fun fv s₂ => wpAny M A (callWith pos fv [] (backTo pos (starEach [.Starred e p] env)) []) Q E s₂) E s₁) E s)
    (hb : attributeBase o name env (eval o env) = eval o env) :
    wpAny M A (eval (.Call (.Attribute o name apos) [.Starred e p] [] pos) env) Q E s := by
  show wpAny M A (do
    let ov ← attributeBase o name env (eval o env)
    standAt apos.atName
    methodCall o name apos pos env ov 1 (backTo pos (starEach [.Starred e p] env)) []) Q E s
  rw [hb]
  refine wpAny_bind (wpAny_mono h (fun ov s₁ h₁ => wpAny_bind (wpAny_standAt ?_)) fun _ _ x => x)
  unfold methodCall
  rw [hl]
  rw [hl] at h₁
  have hfm : methodCallForm 1 (backTo pos [(true, eval e env)]) [] = false := rfl
  rw [hfm]
  refine wpAny_bind (wpAny_holding (wpAny_bind (wpAny_mono h₁ (fun fv s₂ h₂ => wpAny_pure ?_) fun _ _ x => x)))
  dsimp only
  refine wpAny_bind ?_
  unfold methodCallPos
  exact wpAny_pure h₂

theorem callWith_SM {pos p : Pos} {q g : Addr} {self : Value} {e : Expr} {first : List Value} {Q : Value → Shared → Prop} (hf : fnIn K g = true)
    (h : wpAny M A (eval e env) (fun v s₁ => StarOf M A E v (fun vs s₂ => MethP K q g self s₂.heap ∧ wpAny M A (call (.ref q) (first ++ vs)) Q E s₂) s₁) E s)
    (he : starEach [.Starred e p] env = [(true, eval e env)]) :
    wpAny M A (callWith pos (.ref q) first (backTo pos (starEach [.Starred e p] env)) []) Q E s := by
  rw [he]
  exact ks_call rfl (keeps_M hf) (ks_lone h)
end
theorem parts_nil {h : Heap} : Parts h [] [] := ⟨rfl, fun i v p e => by simp at e⟩
theorem parts_push {h : Heap} {its : List Value} {ps : List (Str × Str)} {v : Value} {p : Str × Str} (a : Parts h its ps) (b : PartAt h v p) : Parts h (its ++ [v]) (ps ++ [p]) := by
  refine ⟨by simp [a.1], fun i v' p' e f => ?_⟩
  rw [List.getElem?_append] at e f
  rw [← a.1] at f
  split at e
  · rename_i hi
    rw [if_pos hi] at f
    exact a.2 i v' p' e f
  · rename_i hi
    rw [if_neg hi] at f
    cases hk : i - its.length with
    | zero => rw [hk] at e f; simp at e f; subst e f; exact b
    | succ k => rw [hk] at e; simp at e
theorem parts_one {h : Heap} {a : Addr} {p : Str × Str} {t u : Tok} (e : h.get? a = some (tupOf [.str p.1 t, .str p.2 u])) : Parts h [.ref a] [p] := parts_push (its := []) (ps := []) parts_nil ⟨a, t, u, rfl, e⟩
end
/- R19 -/
section
open PySem PySem.W PySem.Calls PyProof.Rows PySem.Spec
section
variable {prog : Program} {w : World} {A : Around} {E : Value → Shared → Prop} {s : Shared} {l L : Addr} {h₀ : Heap} {m : Str → Option Value} {news news' : List (Addr × Obj)} {its : Array Value} {n : Nat}
theorem append_list_c {v : Value} {Q : Value → Shared → Prop} (hl : s.heap.get? l = some (listOf its n)) (hsz : its.size ≤ sizeLine)
    (h : ∀ s', Kept [l] s s' → s'.heap.get? l = some (listOf (its.push v) (n + 1)) → Q .none s') :
    wpAny (model prog w) A (call (.builtin "list.append") [.ref l, v]) Q E s := by
  have hT : s.TypeIs (.ref l) "list" := ⟨_, hl, rfl⟩
  refine wpAny_call_entry slot_list_append hT entry_list_append ?_ (args_list_append _ _)
  show wpAny _ _ (updateSeq l (·.push v) >>= fun _ => ret .none) _ _ s
  refine wpAny_bind (wpAny_updateSeq hl rfl (wpAny_pure ⟨.none, rfl, ?_⟩))
  have e : Obj.mapSeq (·.push v) (listOf its n) = listOf (its.push v) (n + 1) := by simp [Obj.mapSeq]
  have ho : (s.heap.update l (Obj.mapSeq (·.push v))).get? l = some (listOf (its.push v) (n + 1)) := by
    rw [Heap.get?_update_self _ hl (by rw [e]; rfl), e]
  refine h _ ⟨fun b o hb e => ?_, Nat.le_of_eq (Heap.SameBut.update ..).1.symm, rfl, rfl, id⟩ ho
  exact (Heap.SameBut.update ..).extBut b o (by simpa using hb) e
end
end
/- R20 -/
section
open PySem PySem.W PySem.Calls PyProof.Rows PySem.Spec
section
variable {prog : Program} {w : World} {A : Around} {E : Value → Shared → Prop} {s : Shared} {h₀ : Heap} {L a : Addr} {m : Str → Option Value} {news : List (Addr × Obj)}
/-- a starred tuple that is held, made or not -/
theorem star_tuple {vs : List Value} {Q : List Value → Shared → Prop} (D : s.heap.get? a = some (tupOf vs)) (F : Fr h₀ L s.heap m) (N : News h₀ L s.heap news)
    (hz : vs.length ≤ sizeLine) (h : ∀ h', (∀ b o, s.heap.get? b = some o → h'.get? b = some o) → Fr h₀ L h' m → News h₀ L h' news → Q vs { s with heap := h' }) : StarOf (model prog w) A E (.ref a) Q s := by
  have hT' : s.TypeIs (.ref a) "tuple" := ⟨_, D, rfl⟩
  have z : wpAny (model prog w) A (collect (.ref a)) Q E s := by
    refine wpAny_collect_seq a (.inr rfl) D rfl rfl (fun h' hk => h h' hk ?_ fun p hp => ⟨hk _ _ (N p hp).1, (N p hp).2⟩) (by simpa using hz)
    obtain ⟨oL, es, ep, hL, r⟩ := F.ns
    exact ⟨⟨oL, es, ep, hk _ _ hL, r⟩, fun b x q => hk _ _ (F.keep b x q), F.above⟩
  unfold StarOf notIterableAtAll
  exact wpAny_bind (wpAny_specialOf hT' PySem.F.slot_tuple_iter.lookup (wpAny_pure ⟨rfl, z⟩))
end
end
/- R21 -/
section
open PySem PySem.W PySem.Calls PyProof.Rows PySem.Spec
theorem slot_filter_next : Slot "filter" "__next__" "filter.__next__" :=
  .of (owner := "filter") (n := "__next__") (by rw [typeLookup_type, builtinLookup_eq_fast]; kernel_rfl) (by decide +kernel) (by decide +kernel) (by decide +kernel)
    (by first | exact .inl (by decide +kernel) | exact .inr (by decide +kernel)) (by rw [isSubtype_type]; kernel_rfl)
theorem entry_filter_next : entryFor table "filter.__next__" = some Builtin.«filter.__next__» := entryFor_of_tree (by kernel_rfl)
theorem args_filter_next (a : Value) : argsOk "filter.__next__" ⟨[a], []⟩ := by unfold argsOk; kernel_rfl
theorem mro_filter : mroOf (.type "filter") = pure [.type "filter", .type "object"] := by rw [mroOf_type]; kernel_rfl
theorem lookup_filter_new : typeLookup (.type "filter") "__new__" = pure (some (.builtin "filter.__new__")) := by rw [typeLookup_type, builtinLookup_eq_fast]; kernel_rfl
theorem slot_filter_init : Slot "filter" "__init__" "object.__init__" :=
  .of (owner := "object") (n := "__init__") (by rw [typeLookup_type, builtinLookup_eq_fast]; kernel_rfl) (by decide +kernel) (by decide +kernel) (by decide +kernel)
    (by first | exact .inl (by decide +kernel) | exact .inr (by decide +kernel)) (by rw [isSubtype_type]; kernel_rfl)
theorem called_filter : TypeCalled "filter" "filter.__new__" "object.__init__" :=
  ⟨by decide +kernel, by decide +kernel, ⟨_, _, mro_filter⟩, madeBy_type mro_filter lookup_filter_new (by decide +kernel), by decide +kernel, by rw [isSubtype_type]; kernel_rfl, slot_filter_init⟩
theorem entry_filter_new : entryFor table "filter.__new__" = some Builtin.«filter.__new__» := entryFor_of_tree (by kernel_rfl)
theorem typeCall_filter_2 (a b : Value) : checkTypeCall "filter" ⟨[a, b], []⟩ = pure () := by kernel_rfl
theorem newCall_filter_2 (a b : Value) : checkBuiltinCall "filter.__new__" ⟨[.type "filter", a, b], []⟩ = pure () := by kernel_rfl
theorem plain_filter_next : plainId "filter.__next__" = true := by decide +kernel
section
variable {prog : Program} {w : World} {K : Type} [DecidableEq K] {knd : KeyKind prog w K} {A : Around} {E : Value → Shared → Prop} {s : Shared}

/-- a values iterator's own step -/
theorem vals_item {it d : Addr} {i ep : Nat} {kvs : List (K × Value)} {k : K} {v : Value} {Q : Option Value → Shared → Prop} (hit : s.heap.IsValIter it d i kvs.length ep)
    (hm : s.heap.DictAt knd d kvs ep) (hx : kvs[i]? = some (k, v))
    (hQ : ∀ h', h'.IsValIter it d (i + 1) kvs.length ep → Heap.SameBut it s.heap h' → Q (some v) { s with heap := h' }) :
    wpAny (model prog w) A (callSpecial? (.ref it) (Str.ofString "__next__")) Q E s := by
  obtain ⟨o, ho, hc, hd⟩ := id hit
  obtain ⟨od, es, hod, hcd, hdd, hk, hp, hn⟩ := id hm
  refine wpAny_callSpecial?_slot (name := Str.ofString "__next__") hit.typeIs PySem.F.slot_dict_valueiterator_next
    (wpAny_call_entry PySem.F.slot_dict_valueiterator_next hit.typeIs PySem.F.entry_dict_valueiterator_next ?_ (PySem.F.args_dict_valueiterator_next_1 _))
  refine wpAny_bind (wpAny_pure ?_)
  refine wpAny_bind ?_
  refine wpAny_bind ?_
  first | refine wpAny_bind (wpAny_typeNameOfWhole_valiter hit.typeIs (wpAny_pure ?_)) | refine wpAny_bind (wpAny_typeNameOf_valiter hit.typeIs (wpAny_pure ?_))
  refine wpAny_bind (wpAny_fieldsOf ho hd ?_)
  have hown : Builtin.Dict_items.ownsTuple "dict_valueiterator" = false := by decide
  simp only [hown, Bool.false_eq_true, if_false]
  show wpAny _ _ (if (Value.ref d == Value.none) = true then _ else _) _ _ s
  rw [if_neg (show ¬ ((Value.ref d == Value.none) = true) from Bool.false_ne_true)]
  refine wpAny_bind (wpAny_pure ?_)
  refine wpAny_bind (wpAny_dictEntries hod hdd ?_)
  have hsz : es.size = kvs.length := by rw [← hp.length]; simp
  rw [if_neg (by rw [hsz]; simp)]
  refine wpAny_bind (wpAny_pure ?_)
  refine wpAny_bind (wpAny_dictEpoch hod hdd ?_)
  rw [if_neg (by simp)]
  refine wpAny_pure ?_
  have hlt : i < kvs.length := by
    rcases Nat.lt_or_ge i kvs.length with h | h
    · exact h
    · simp [List.getElem?_eq_none h] at hx
  have hlt' : i < es.size := by rw [hsz]; exact hlt
  have hval : es[i].val = v := (hp.get? (e := es[i]) (by simp [hlt']) hx).2
  simp only [show ¬ ((i : Int) < 0) from by omega, if_false, Int.toNat_natCast, Array.getElem?_eq_getElem hlt']
  refine wpAny_bind ?_
  first | refine wpAny_bind (wpAny_typeNameOfWhole_valiter hit.typeIs (wpAny_pure ?_)) | refine wpAny_bind (wpAny_typeNameOf_valiter hit.typeIs (wpAny_pure ?_))
  refine wpAny_bind (wpAny_isOneOf_valiter hit.typeIs ?_)
  show wpAny _ _ (setField (.ref it) 1 (rawInt ((i : Int) + 1)) >>= _) _ _ s
  refine wpAny_bind (wpAny_setField ho hd (by simp) ?_)
  have hit' : (s.heap.update it (Obj.mapFields (·.setIfInBounds 1 (rawInt ((i : Int) + 1))))).IsValIter it d (i + 1) kvs.length ep :=
    ⟨_, Heap.get?_update_self _ ho (Obj.isFreed_of_fields (Obj.data_mapFields hd _)), (Obj.cls_mapFields ..).trans hc, by rw [Obj.data_mapFields hd]; simp [rawInt]⟩
  refine wpAny_bind (wpAny_holding ?_)
  refine wpAny_bind (wpAny_isOneOf_valiter (s := { s with heap := s.heap.update it (Obj.mapFields (·.setIfInBounds 1 (rawInt ((i : Int) + 1)))) }) hit'.typeIs ?_)
  refine wpAny_bind (wpAny_isOneOf_valiter (s := { s with heap := s.heap.update it (Obj.mapFields (·.setIfInBounds 1 (rawInt ((i : Int) + 1)))) }) hit'.typeIs ?_)
  show wpAny _ _ (pure es[i].val) _ _ _
  exact wpAny_pure (wpAny_pure ⟨_, rfl, hval ▸ hQ _ hit' (Heap.SameBut.update ..)⟩)

theorem vals_end {it d : Addr} {i ep : Nat} {kvs : List (K × Value)} {Q : Option Value → Shared → Prop} (hh : A.handled = none) (hit : s.heap.IsValIter it d i kvs.length ep)
    (hm : s.heap.DictAt knd d kvs ep) (hx : kvs[i]? = none)
    (hQ : ∀ e h', (∃ oe, h'.get? e = some oe ∧ oe.cls = .type "StopIteration") → Heap.ExtBut it s.heap h' → E (.ref e) { s with heap := h' }) :
    wpAny (model prog w) A (callSpecial? (.ref it) (Str.ofString "__next__")) Q E s := by
  obtain ⟨o, ho, hc, hd⟩ := id hit
  obtain ⟨od, es, hod, hcd, hdd, hk, hp, hn⟩ := id hm
  refine wpAny_callSpecial?_slot (name := Str.ofString "__next__") hit.typeIs PySem.F.slot_dict_valueiterator_next
    (wpAny_call_entry PySem.F.slot_dict_valueiterator_next hit.typeIs PySem.F.entry_dict_valueiterator_next ?_ (PySem.F.args_dict_valueiterator_next_1 _))
  refine wpAny_bind (wpAny_pure ?_)
  refine wpAny_bind ?_
  refine wpAny_bind ?_
  first | refine wpAny_bind (wpAny_typeNameOfWhole_valiter hit.typeIs (wpAny_pure ?_)) | refine wpAny_bind (wpAny_typeNameOf_valiter hit.typeIs (wpAny_pure ?_))
  refine wpAny_bind (wpAny_fieldsOf ho hd ?_)
  have hown : Builtin.Dict_items.ownsTuple "dict_valueiterator" = false := by decide
  simp only [hown, Bool.false_eq_true, if_false]
  show wpAny _ _ (if (Value.ref d == Value.none) = true then _ else _) _ _ s
  rw [if_neg (show ¬ ((Value.ref d == Value.none) = true) from Bool.false_ne_true)]
  refine wpAny_bind (wpAny_pure ?_)
  refine wpAny_bind (wpAny_dictEntries hod hdd ?_)
  have hsz : es.size = kvs.length := by rw [← hp.length]; simp
  rw [if_neg (by rw [hsz]; simp)]
  refine wpAny_bind (wpAny_pure ?_)
  refine wpAny_bind (wpAny_dictEpoch hod hdd ?_)
  rw [if_neg (by simp)]
  refine wpAny_pure ?_
  have hge : es.size ≤ i := by rw [hsz]; simpa using hx
  simp only [show ¬ ((i : Int) < 0) from by omega, if_false, Int.toNat_natCast, Array.getElem?_eq_none hge]
  refine wpAny_bind ?_
  first | refine wpAny_bind (wpAny_typeNameOfWhole_valiter hit.typeIs (wpAny_pure ?_)) | refine wpAny_bind (wpAny_typeNameOf_valiter hit.typeIs (wpAny_pure ?_))
  show wpAny _ _ (setField (.ref it) 0 .none >>= _) _ _ s
  refine wpAny_bind (wpAny_setField ho hd (by simp) ?_)
  show wpAny _ _ (newExc (.type "StopIteration") [] >>= _) _ _ _
  refine wpAny_bind ?_
  simp only [newExc, newTuple]
  refine wpAny_bind (wpAny_newObj_type ?_ (by size_fits))
  refine wpAny_bind (m := firstArgMember _ _) (wpAny_of_eq (a := Value.none) (by first | rfl | (simp only [firstArgMember]; rfl)) ?_)
  refine wpAny_newObj_type ?_ (by size_fits)
  simp only [raiseNew]
  refine wpAny_bind (wpAny_handled ?_)
  rw [show A.in1.handled = none from hh]
  refine wpAny_bind (wpAny_pure (wpAny_throw ?_))
  exact hQ _ _ ⟨_, Heap.get?_push_size _ rfl, rfl⟩ (((Heap.SameBut.update ..).extBut.push _).push _)

noncomputable def passes : Value → Bool
  | .int n _ => n != 0
  | _ => false
noncomputable def plainV : Value → Prop
  | .int _ _ => True
  | .none => True
  | _ => False
theorem truthy_plain {v : Value} {Q : Bool → Shared → Prop} (hv : plainV v) (h : Q (passes v) s) : wpAny (model prog w) A (truthy v) Q E s := by
  cases v <;> first | exact hv.elim | skip
  · exact PyProof.Rows.truthy_none h
  · exact PyProof.Rows.truthy_int h
noncomputable abbrev filtO (it : Addr) : Obj := { cls := .type "filter", data := .fields #[.none, .ref it] }

theorem filt_code (hh : A.handled = none) {R : Result → Shared → Prop} {I it d : Addr} {ep : Nat} {kvs : List (K × Value)} (hI : I ≠ it) (hd : d ≠ it) (hv : ∀ p ∈ kvs, plainV p.2) :
    ∀ (k i : Nat) (s : Shared), kvs.length - i = k → i ≤ kvs.length → s.heap.get? I = some (filtO it) → s.heap.IsValIter it d i kvs.length ep → s.heap.DictAt knd d kvs ep →
      (∀ i' kv h', kvs[i']? = some kv → ((kvs.drop i).map (·.2)).filter passes = kv.2 :: ((kvs.drop (i' + 1)).map (·.2)).filter passes → i' + 1 ≤ kvs.length → h'.IsValIter it d (i' + 1) kvs.length ep →
        (∀ b o, b ≠ it → s.heap.get? b = some o → h'.get? b = some o) → R (.ok (.ret kv.2)) { s with heap := h' }) →
      (∀ e h', ((kvs.drop i).map (·.2)).filter passes = [] → (∃ oe, h'.get? e = some oe ∧ oe.cls = .type "StopIteration") → (∀ b o, b ≠ it → s.heap.get? b = some o → h'.get? b = some o) → R (.error (.ref e)) { s with heap := h' }) →
      codeAny (model prog w) A (.builtin "filter.__next__" ⟨[.ref I], []⟩) R s := by
  intro k
  induction k with
  | zero =>
    intro i s hk hi hF hit hm hitem hdone
    have hin : i = kvs.length := by omega
    subst hin
    refine codeAny_builtin entry_filter_next ?_
    rw [Around.under_plainId plain_filter_next _]
    refine wpAny_bind (wpAny_pure ?_)
    refine wpAny_bind (wpAny_field hF rfl (x := .none) rfl ?_)
    refine wpAny_bind (wpAny_field hF rfl (x := .ref it) rfl ?_)
    refine wpAny_bind (vals_end hh hit hm (by simp) fun e h' he hx => ?_)
    exact hdone e h' (by simp) he fun b o hb e => hx b o hb e
  | succ k ih =>
    intro i s hk hi hF hit hm hitem hdone
    have hlt : i < kvs.length := by omega
    have hx : kvs[i]? = some kvs[i] := List.getElem?_eq_getElem hlt
    have hpl : plainV kvs[i].2 := hv _ (List.getElem_mem hlt)
    have hdrop : kvs.drop i = kvs[i] :: kvs.drop (i + 1) := List.drop_eq_getElem_cons hlt
    refine codeAny_builtin entry_filter_next ?_
    rw [Around.under_plainId plain_filter_next _]
    refine wpAny_bind (wpAny_pure ?_)
    refine wpAny_bind (wpAny_field hF rfl (x := .none) rfl ?_)
    refine wpAny_bind (wpAny_field hF rfl (x := .ref it) rfl ?_)
    refine wpAny_bind (vals_item hit hm hx fun h' hit' hs => ?_)
    have hm' : h'.DictAt knd d kvs ep := hm.extBut hs.extBut hd
    have hF' : h'.get? I = some (filtO it) := hs.extBut _ _ hI hF
    refine wpAny_bind (wpAny_holding ?_)
    refine wpAny_ite_split (fun _ => ?_) (fun h => absurd rfl h)
    refine wpAny_bind (wpAny_rule (truthy_plain hpl ?_))
    cases hb : passes kvs[i].2 with
    | true =>
      refine wpAny_pure (hitem i kvs[i] h' hx (by rw [hdrop, List.map_cons, List.filter_cons, if_pos hb]) hlt hit' fun b o hb e => hs.extBut b o hb e)
    | false =>
      refine wpAny_pure ⟨plainId_quiet plain_filter_next _, ih (i + 1) _ (by omega) hlt hF' hit' hm' (fun i' kv h'' e1 e2 e3 e4 e5 => ?_) fun e h'' e1 e2 e3 => ?_⟩
      · exact hitem i' kv h'' e1 (by rw [hdrop, List.map_cons, List.filter_cons, if_neg (by rw [hb]; exact Bool.false_ne_true)]; exact e2) e3 e4 fun b o hb e => e5 b o hb (hs.extBut b o hb e)
      · exact hdone e h'' (by rw [hdrop, List.map_cons, List.filter_cons, if_neg (by rw [hb]; exact Bool.false_ne_true)]; exact e1) e2 fun b o hb e => e3 b o hb (hs.extBut b o hb e)

noncomputable def filtAt (knd : KeyKind prog w K) (I it d : Addr) (kvs : List (K × Value)) (ep : Nat) (j : Nat) (h : Heap) : Prop :=
  h.get? I = some (filtO it) ∧ h.DictAt knd d kvs ep ∧ ∃ i, i ≤ kvs.length ∧ h.IsValIter it d i kvs.length ep ∧ ((kvs.drop i).map (·.2)).filter passes = ((kvs.map (·.2)).filter passes).drop j

theorem slot_filter_iter : Slot "filter" "__iter__" "filter.__iter__" :=
  .of (owner := "filter") (n := "__iter__") (by rw [typeLookup_type, builtinLookup_eq_fast]; kernel_rfl) (by decide +kernel) (by decide +kernel) (by decide +kernel)
    (by first | exact .inl (by decide +kernel) | exact .inr (by decide +kernel)) (by rw [isSubtype_type]; kernel_rfl)
theorem entry_filter_iter : entryFor table "filter.__iter__" = some Builtin.«dict_keyiterator.__iter__» :=
  entryFor_alias (id' := "dict_keyiterator.__iter__") (by kernel_rfl) (by first | rfl | decide +kernel | (unfold String.splitOn; simp +decide [String.splitOnAux])) (by decide +kernel) (by kernel_rfl)
theorem args_filter_iter (a : Value) : argsOk "filter.__iter__" ⟨[a], []⟩ := by unfold argsOk; kernel_rfl

theorem filt_next (hh : A.handled = none) {Q : Option Value → Shared → Prop} {I it d : Addr} {kvs : List (K × Value)} {ep j : Nat} (hI : I ≠ it) (hd : d ≠ it) (hv : ∀ p ∈ kvs, plainV p.2) (st : filtAt knd I it d kvs ep j s.heap)
    (hitem : ∀ v h', ((kvs.map (·.2)).filter passes)[j]? = some v → filtAt knd I it d kvs ep (j + 1) h' → (∀ b o, b ≠ it → s.heap.get? b = some o → h'.get? b = some o) → Q (some v) { s with heap := h' })
    (hdone : ∀ h', ((kvs.map (·.2)).filter passes)[j]? = none → (∀ b o, b ≠ it → s.heap.get? b = some o → h'.get? b = some o) → Q none { s with heap := h' }) :
    wpAny (model prog w) A (pyNext (.ref I)) Q E s := by
  obtain ⟨a, b, i, c, dd, e⟩ := st
  have hT : s.TypeIs (.ref I) "filter" := ⟨_, a, rfl⟩
  unfold pyNext
  refine wpAny_bind (wpAny_attempt (wpAny_callSpecial?_slot (name := Str.ofString "__next__") hT slot_filter_next ?_))
  refine wpAny_call (codeAny_of_tree ?_)
  show wpAny _ A.in1 (do checkBuiltinCall "filter.__next__" ⟨[.ref I], []⟩; again (.builtin "filter.__next__" ⟨[.ref I], []⟩)) _ _ s
  refine wpAny_bind (slot_filter_next.check _ _ _ _ _ _ _ _ hT (args_filter_next _) (wpAny_pure (And.intro (plainId_quiet plain_filter_next _) ?_)))
  refine filt_code (A := A) hh hI hd hv _ i s rfl c a dd b (fun i' kv h' e1 e2 e3 e4 e5 => ?_) (fun x h' e1 e2 e3 => ?_)
  · rw [e] at e2
    have hj : ((kvs.map (·.2)).filter passes)[j]? = some kv.2 := by
      have := congrArg (·[0]?) e2
      simpa using this
    have ht : ((kvs.drop (i' + 1)).map (·.2)).filter passes = ((kvs.map (·.2)).filter passes).drop (j + 1) := by
      have := congrArg (List.drop 1) e2
      rw [List.drop_drop] at this
      exact this.symm
    exact wpAny_pure (hitem kv.2 h' hj ⟨e5 _ _ hI a, b.at' fun o q => e5 _ _ hd q, i' + 1, e3, e4, ht⟩ e5)
  · rw [e] at e1
    have hj : ((kvs.map (·.2)).filter passes)[j]? = none := by
      rw [List.drop_eq_nil_iff] at e1
      exact List.getElem?_eq_none e1
    refine wpAny_bind (wpAny_isInstance (T := "StopIteration") (b := true) ?_ isSubtype_stop ?_)
    · obtain ⟨oe, q1, q2⟩ := e2; exact ⟨oe, q1, q2⟩
    · exact wpAny_pure (hdone h' hj e3)

theorem Walks.filt (hh : A.handled = none) {I it d : Addr} {kvs : List (K × Value)} {ep : Nat} (hI : I ≠ it) (hd : d ≠ it) (hv : ∀ p ∈ kvs, plainV p.2) :
    Walks prog w A I [I, it, d] [it] ((kvs.map (·.2)).filter passes).length (fun j v => ((kvs.map (·.2)).filter passes)[j]? = some v) (filtAt knd I it d kvs ep) where
  sub := fun b hb => by simp at hb; simp [hb]
  frame := fun _ h h' st hk => by
    obtain ⟨a, b, i, c, d', e⟩ := st
    exact ⟨hk I (by simp) _ a, b.at' fun o q => hk d (by simp) o q, i, c, d'.at fun o q => hk it (by simp) o q, e⟩
  item := fun j s Q E hj st hQ => by
    refine filt_next hh hI hd hv st (fun v h' e1 e2 e3 => hQ v h' s.toks e1 e2 fun b o hb e => e3 b o (by simpa using hb) e) (fun h' e1 _ => ?_)
    rw [List.getElem?_eq_none_iff] at e1
    omega
  done := fun s Q E st hQ => by
    refine filt_next hh hI hd hv st (fun v h' e1 e2 e3 => ?_) (fun h' e1 e3 => hQ h' s.toks fun b o hb e => e3 b o (by simpa using hb) e)
    simp at e1
  self := fun j s Q E st hQ => by
    have hT : s.TypeIs (.ref I) "filter" := ⟨_, st.1, rfl⟩
    refine wpAny_pyIter_slot hT slot_filter_iter (wpAny_call_entry slot_filter_iter hT entry_filter_iter ?_ (args_filter_iter _))
    show wpAny _ _ (ret (.ref I)) _ _ s
    exact wpAny_pure ⟨_, rfl, "filter", _, hT, slot_filter_next.lookup, hQ⟩
end
end
/- R22 -/
section
open PySem PySem.W PySem.Calls PyProof.Rows PySem.Spec
theorem stepU {s s' : Shared} {g : Heap} {L : Addr} {m : Str → Option Value} {news news' : List (Addr × Obj)} {ts : List Addr}
    (Kp : Kept ts s s') (F : Fr g L s.heap m) (N : News g L s.heap news) (hts : ∀ t ∈ ts, t ∈ news.map (·.1))
    (hn : ∀ q ∈ news', (q ∈ news ∧ q.1 ∉ ts) ∨ (s'.heap.get? q.1 = some q.2 ∧ q.1 ∈ news.map (·.1))) : Fr g L s'.heap m ∧ News g L s'.heap news' :=
  ⟨kept_fr Kp F N hts, kept_news Kp F N fun q hq => by
    rcases hn q hq with h | h
    · exact .inl h
    · exact .inr ⟨h.1, .inl h.2⟩⟩
end
/- R23 -/
section
open PySem PySem.W PySem.Calls PyProof.Rows PySem.Spec
noncomputable abbrev NoE : Value → Shared → Prop := fun _ _ => False
noncomputable def LoopR (Q : Flow → Shared → Prop) : Result → Shared → Prop := fun r s' => match r with | .ok f => Q f s' | .error _ => False
section
variable {prog : Program} {w : World} {A : Around} {E : Value → Shared → Prop} {s : Shared} {env : Env} {target iter test it' : Expr} {body orelse : List Stmt} {pos : Pos} {Q : Flow → Shared → Prop} {it : Value} {g : Heap} {L I l : Addr} {m : Str → Option Value} {news : List (Addr × Obj)}

/-- what a turn's body ends in -/
noncomputable def LoopB (prog : Program) (w : World) (A : Around) (c : Code) (Q : Flow → Shared → Prop) : Flow → Shared → Prop := fun f s₃ => match f with
  | .next => codeAny (model prog w) A c (LoopR Q) s₃
  | .cont => codeAny (model prog w) A c (LoopR Q) s₃
  | .brk => Q .next s₃
  | .ret v => Q (.ret v) s₃
theorem LoopB.next {c : Code} (h : codeAny (model prog w) A c (LoopR Q) s) : LoopB prog w A c Q .next s := h
theorem LoopB.cont {c : Code} (h : codeAny (model prog w) A c (LoopR Q) s) : LoopB prog w A c Q .cont s := h
theorem LoopB.brk {c : Code} (h : Q .next s) : LoopB prog w A c Q .brk s := h
theorem LoopB.ret {c : Code} {v : Value} (h : Q (.ret v) s) : LoopB prog w A c Q (.ret v) s := h

theorem for_own (h : wpAny (model prog w) A (eval iter env) (fun x s₁ => wpAny (model prog w) A (pyIter x) (fun it s₂ => codeAny (model prog w) A (.forLoop target it body orelse env) (LoopR Q) s₂) NoE s₁) NoE s)
    (hs : ∀ x, foldedSetIterable iter env x = pure x) : wpAny (model prog w) A (exec (.For target iter body orelse pos) env) Q E s :=
  wpAny_For (wpAny_mono h (fun x s₁ h₁ => wpAny_mono h₁ (fun it s₂ h₂ => codeAny_mono h₂ fun r s' hr => by
    cases r with
    | ok f => exact hr
    | error e => exact hr.elim) fun _ _ e => e.elim) fun _ _ e => e.elim) hs
theorem while_own (h : codeAny (model prog w) A (.whileLoop test body orelse env) (LoopR Q) s) : wpAny (model prog w) A (exec (.While test body orelse pos) env) Q E s :=
  wpAny_While (codeAny_mono h fun r s' hr => by
    cases r with
    | ok f => exact hr
    | error e => exact hr.elim)

theorem for_turn (turn : wpAny (model prog w) A (pyNext it) (fun r s₁ => match r with
      | none => wpAny (model prog w) A (execs orelse env) Q NoE s₁
      | some v => wpAny (model prog w) A (letOwnedTupleGo target it v) (fun _ s₁' => wpAny (model prog w) A (assign target env v) (fun _ s₂ => wpAny (model prog w) A (execs body env)
          (LoopB prog w A (.forLoop target it body orelse env) Q) NoE s₂) NoE s₁') NoE s₁) NoE s) : codeAny (model prog w) A (.forLoop target it body orelse env) (LoopR Q) s := by
  have no : ∀ {x : Value} {t : Shared}, NoE x t → notedBy (model prog w) A env (fun e s' => LoopR Q (.error e) s') x t := fun h => h.elim
  refine codeAny_of_tree ?_
  show wpAny _ A ((forTurn target it body orelse env).onRaise (fun x => do noteFrame x env; theTreesLotGoes x)) _ _ s
  refine wpAny_noted ?_
  simp only [forTurn]
  refine wpAny_bind (wpAny_standAt (wpAny_bind (wpAny_onRaise (wpAny_mono turn (fun r s₁ h₁ => ?_) fun _ _ h' => h'.elim))))
  cases r with
  | none => exact wpAny_pure ⟨rfl, codeAny_block (wpAny_mono h₁ (fun _ _ q => q) fun _ _ q => no q)⟩
  | some v =>
    refine wpAny_bind (wpAny_mono h₁ (fun _ s₁' h₁' => ?_) fun _ _ h' => no h')
    refine wpAny_bind (wpAny_mono h₁' (fun _ s₂ h₂ => wpAny_bind (wpAny_mono h₂ (fun f s₃ h₃ => ?_) fun _ _ h' => no h')) fun _ _ h' => no h')
    cases f with
    | next => exact wpAny_pure ⟨rfl, h₃⟩
    | cont => exact wpAny_pure ⟨rfl, h₃⟩
    | brk => exact wpAny_pure h₃
    | ret v => exact wpAny_pure h₃

theorem while_turn (turn : wpAny (model prog w) A (isTrue test env (eval test env)) (fun b s₂ =>
        if b = true then wpAny (model prog w) A (execs body env) (LoopB prog w A (.whileLoop test body orelse env) Q) NoE s₂
        else wpAny (model prog w) A (execs orelse env) Q NoE s₂) NoE s) : codeAny (model prog w) A (.whileLoop test body orelse env) (LoopR Q) s := by
  have no : ∀ {x : Value} {t : Shared}, NoE x t → notedBy (model prog w) A env (fun e s' => LoopR Q (.error e) s') x t := fun h => h.elim
  refine codeAny_of_tree ?_
  show wpAny _ A ((whileTurn test body orelse env).onRaise (fun x => do noteFrame x env; theTreesLotGoes x)) _ _ s
  refine wpAny_noted ?_
  simp only [whileTurn]
  refine wpAny_bind (wpAny_mono turn (fun b s₂ h₂ => ?_) fun _ _ h' => no h')
  cases b with
  | false =>
    simp only [Bool.false_eq_true, if_false] at h₂ ⊢
    exact wpAny_bind (wpAny_mono h₂ (fun f s₃ h₃ => wpAny_pure h₃) fun _ _ h' => no h')
  | true =>
    simp only [if_true] at h₂ ⊢
    refine wpAny_bind (wpAny_mono h₂ (fun f s₃ h₃ => ?_) fun _ _ h' => no h')
    cases f with
    | next => exact wpAny_pure ⟨rfl, h₃⟩
    | cont => exact wpAny_pure ⟨rfl, h₃⟩
    | brk => exact wpAny_pure h₃
    | ret v => exact wpAny_pure h₃

/-- a step of an iterator that is in the ledger -/
theorem iter_fr {oI oI' : Obj} {h' : Heap} (F : Fr g L s.heap m) (N : News g L s.heap ((I, oI) :: news)) (hoff : ∀ p ∈ news, @Ne Nat p.1 I) (hs : Heap.ExtBut I s.heap h') (ho : h'.get? I = some oI') :
    Fr g L h' m ∧ News g L h' ((I, oI') :: news) := by
  have z := N _ (.head _)
  refine ⟨⟨F.ns.extBut hs (Ne.symm z.2.1), fun b o e => hs b o (fun q => by rw [q, z.2.2] at e; cases e) (F.keep b o e), F.above⟩, fun p hp => ?_⟩
  rcases List.mem_cons.mp hp with rfl | hp
  · exact ⟨ho, z.2⟩
  · exact ⟨hs _ _ (hoff p hp) (N p (.tail _ hp)).1, (N p (.tail _ hp)).2⟩

noncomputable def LIter (o : Obj) (l : Addr) (i : Nat) : Prop := o.cls = .type "list_iterator" ∧ o.data = .fields #[.ref l, .int i 0]

theorem letOwned_list {i : Nat} {v : Value} {Q : Unit → Shared → Prop} (hit : s.heap.IsListIter I l i) (hQ : Q () s) : wpAny (model prog w) A (letOwnedTupleGo target (.ref I) v) Q E s := by
  obtain ⟨o, ho, hc, hd⟩ := id hit
  have key : ∀ T, wpAny (model prog w) A (letOwnedTupleGo (.Tuple [] 0 default) (.ref I) (.ref T)) Q E s := fun T => wpAny_letOwnedTupleGo_listiter hit hQ
  unfold letOwnedTupleGo at key ⊢
  split
  · cases v <;> first | exact wpAny_pure hQ | exact key _
  · cases v <;> first | exact wpAny_pure hQ | exact key _
  · exact wpAny_pure hQ

theorem for_list_item {oI : Obj} {i : Nat} {items : Array Value} {v : Value} (F : Fr g L s.heap m) (N : News g L s.heap ((I, oI) :: news)) (hoff : ∀ p ∈ news, @Ne Nat p.1 I) (hI : LIter oI l i) (hl : s.heap.IsList l items) (hx : items[i]? = some v)
    (h : ∀ h' oI', LIter oI' l (i + 1) → Fr g L h' m → News g L h' ((I, oI') :: news) → Heap.ExtBut I s.heap h' →
      wpAny (model prog w) A (assign target env v) (fun _ s₂ => wpAny (model prog w) A (execs body env) (LoopB prog w A (.forLoop target (.ref I) body orelse env) Q) NoE s₂) NoE { s with heap := h' }) :
    codeAny (model prog w) A (.forLoop target (.ref I) body orelse env) (LoopR Q) s := by
  refine for_turn ?_
  have hit : s.heap.IsListIter I l i := ⟨_, (N _ (.head _)).1, hI.1, hI.2⟩
  refine wpAny_pyNext_list_item hit hl hx fun h' hit' hs' => ?_
  obtain ⟨o', e1, e2, e3⟩ := id hit'
  obtain ⟨F', N'⟩ := iter_fr F N hoff hs'.extBut e1
  dsimp only
  exact letOwned_list hit' (h h' o' ⟨e2, e3⟩ F' N' hs'.extBut)

theorem for_list_done {oI : Obj} {i : Nat} {items : Array Value} (hh : A.handled = none) (F : Fr g L s.heap m) (N : News g L s.heap ((I, oI) :: news)) (hoff : ∀ p ∈ news, @Ne Nat p.1 I) (hI : LIter oI l i) (hl : s.heap.IsList l items) (hx : items[i]? = none)
    (h : ∀ h', Fr g L h' m → News g L h' news → Heap.ExtBut I s.heap h' → wpAny (model prog w) A (execs orelse env) Q NoE { s with heap := h' }) :
    codeAny (model prog w) A (.forLoop target (.ref I) body orelse env) (LoopR Q) s := by
  refine for_turn ?_
  have z := N _ (.head _)
  have hit : s.heap.IsListIter I l i := ⟨_, z.1, hI.1, hI.2⟩
  refine wpAny_pyNext_list_end hh hit hl hx fun h' hs => ?_
  dsimp only
  exact h h' ⟨F.ns.extBut hs (Ne.symm z.2.1), fun b o e => hs b o (fun q => by rw [q, z.2.2] at e; cases e) (F.keep b o e), F.above⟩ (fun p hp => ⟨hs _ _ (hoff p hp) (N p (.tail _ hp)).1, (N p (.tail _ hp)).2⟩) hs

theorem iter_list_own {items : Array Value} {Q : Value → Shared → Prop} (F : Fr g L s.heap m) (N : News g L s.heap news) (hl : s.heap.IsList l items)
    (h : ∀ I h' oI, LIter oI l 0 → Fr g L h' m → News g L h' ((I, oI) :: news) → (∀ p ∈ news, @Ne Nat p.1 I) → (∀ b o, s.heap.get? b = some o → h'.get? b = some o) → Q (.ref I) { s with heap := h' }) :
    wpAny (model prog w) A (pyIter (.ref l)) Q E s := by
  refine wpAny_pyIter_list hl ?_
  exact h _ _ _ ⟨rfl, rfl⟩ (F.push _) (N.push F { cls := .type "list_iterator", data := .fields #[.ref l, .int 0 0] } rfl) (fun p hp => Nat.ne_of_lt (Heap.lt_size (N p hp).1)) fun b o e => Heap.get?_push_of_some _ e
end
end
/- R24 -/
section
open PySem PySem.W PySem.Calls PyProof.Rows PySem.Spec
/-- a goal that the walk leaves alone -/
structure Hold (p : Prop) : Prop where
  out : p
section
variable {prog : Program} {w : World} {A : Around} {E : Value → Shared → Prop} {s : Shared} {env : Env} {target : Expr} {body orelse : List Stmt} {Q : Flow → Shared → Prop} {g : Heap} {L I l : Addr} {m : Str → Option Value} {news : List (Addr × Obj)}
noncomputable def SIter (o : Obj) (x : Str) (t : Tok) (i : Nat) : Prop := o.cls = .type "str_ascii_iterator" ∧ o.data = .fields #[.str x t, .int i 0]
noncomputable abbrev rIter (x left step : Int) : Obj := { cls := .type "range_iterator", dict := none, data := .fields #[rawInt x, rawInt left, rawInt step], slots := #[] }

theorem iter_str_own {x : Str} {t : Tok} {Q : Value → Shared → Prop} (ha : x.cps.all (· < 128) = true) (F : Fr g L s.heap m) (N : News g L s.heap news)
    (h : ∀ I h' oI, SIter oI x t 0 → Fr g L h' m → News g L h' ((I, oI) :: news) → (∀ p ∈ news, @Ne Nat p.1 I) → (∀ b o, s.heap.get? b = some o → h'.get? b = some o) → Q (.ref I) { s with heap := h' }) :
    wpAny (model prog w) A (pyIter (.str x t)) Q E s := by
  refine wpAny_pyIter_ascii ha ?_
  exact h _ _ _ ⟨rfl, rfl⟩ (F.push _) (N.push F { cls := .type "str_ascii_iterator", data := .fields #[.str x t, .int 0 0] } rfl) (fun p hp => Nat.ne_of_lt (Heap.lt_size (N p hp).1)) fun b o e => Heap.get?_push_of_some _ e

theorem for_str_item {oI : Obj} {i c : Nat} {x : Str} {t : Tok} (F : Fr g L s.heap m) (N : News g L s.heap ((I, oI) :: news)) (hoff : ∀ p ∈ news, @Ne Nat p.1 I) (hI : SIter oI x t i) (hx : x.cps[i]? = some c)
    (ht : ∀ v, letOwnedTupleGo target (.ref I) v = pure ())
    (h : ∀ h' oI' tk tk', SIter oI' x t (i + 1) → Fr g L h' m → News g L h' ((I, oI') :: news) → Heap.ExtBut I s.heap h' →
      wpAny (model prog w) A (assign target env (.str ⟨#[c]⟩ tk)) (fun _ s₂ => wpAny (model prog w) A (execs body env) (LoopB prog w A (.forLoop target (.ref I) body orelse env) Q) NoE s₂) NoE { s with heap := h', toks := tk' }) :
    codeAny (model prog w) A (.forLoop target (.ref I) body orelse env) (LoopR Q) s := by
  refine for_turn ?_
  have hit : s.heap.IsStrIter I "str_ascii_iterator" x t i := ⟨_, (N _ (.head _)).1, hI.1, hI.2⟩
  refine wpAny_pyNext_ascii_item hit hx fun h' hit' hs' => ?_
  obtain ⟨o', e1, e2, e3⟩ := id hit'
  obtain ⟨F', N'⟩ := iter_fr F N hoff hs'.extBut e1
  dsimp only
  exact wpAny_of_eq (ht _) (h h' o' _ _ ⟨e2, e3⟩ F' N' hs'.extBut)
theorem for_str_done {oI : Obj} {i : Nat} {x : Str} {t : Tok} (hh : A.handled = none) (F : Fr g L s.heap m) (N : News g L s.heap ((I, oI) :: news)) (hoff : ∀ p ∈ news, @Ne Nat p.1 I) (hI : SIter oI x t i) (hx : x.cps[i]? = none)
    (h : ∀ h', Fr g L h' m → News g L h' news → Heap.ExtBut I s.heap h' → wpAny (model prog w) A (execs orelse env) Q NoE { s with heap := h' }) :
    codeAny (model prog w) A (.forLoop target (.ref I) body orelse env) (LoopR Q) s := by
  refine for_turn ?_
  have z := N _ (.head _)
  have hit : s.heap.IsStrIter I "str_ascii_iterator" x t i := ⟨_, z.1, hI.1, hI.2⟩
  refine wpAny_pyNext_ascii_end hh hit hx fun h' hs => ?_
  dsimp only
  exact h h' ⟨F.ns.extBut hs (Ne.symm z.2.1), fun b o e => hs b o (fun q => by rw [q, z.2.2] at e; cases e) (F.keep b o e), F.above⟩ (fun p hp => ⟨hs _ _ (hoff p hp) (N p (.tail _ hp)).1, (N p (.tail _ hp)).2⟩) hs

theorem iter_range_own {r : Addr} {a b c : Int} {t u v : Tok} {Q : Value → Shared → Prop} (hr : IsRange s.heap r a b c t u v) (hsm : Builtin.Range.small a b c = true) (F : Fr g L s.heap m) (N : News g L s.heap news)
    (h : ∀ I h', Fr g L h' m → News g L h' ((I, rIter a (Builtin.Range.rangeSize a b c) c) :: news) → (∀ p ∈ news, @Ne Nat p.1 I) → (∀ b o, s.heap.get? b = some o → h'.get? b = some o) → Q (.ref I) { s with heap := h' }) :
    wpAny (model prog w) A (pyIter (.ref r)) Q E s := by
  refine wpAny_pyIter_range hr hsm ?_
  exact h _ _ (F.push _) (News.push F N (rIter a (Builtin.Range.rangeSize a b c) c) rfl) (fun p hp => Nat.ne_of_lt (Heap.lt_size (N p hp).1)) fun b o e => Heap.get?_push_of_some _ e
theorem for_range_done {x left step : Int} (hh : A.handled = none) (F : Fr g L s.heap m) (N : News g L s.heap ((I, rIter x left step) :: news)) (hoff : ∀ p ∈ news, @Ne Nat p.1 I) (hleft : left ≤ 0)
    (h : ∀ h', Fr g L h' m → News g L h' news → Heap.ExtBut I s.heap h' → wpAny (model prog w) A (execs orelse env) Q NoE { s with heap := h' }) :
    codeAny (model prog w) A (.forLoop target (.ref I) body orelse env) (LoopR Q) s := by
  refine for_turn ?_
  have z := N _ (.head _)
  refine wpAny_pyNext_range_end hh z.1 hleft fun h' hs => ?_
  dsimp only
  exact h h' ⟨F.ns.extBut hs (Ne.symm z.2.1), fun b o e => hs b o (fun q => by rw [q, z.2.2] at e; cases e) (F.keep b o e), F.above⟩ (fun p hp => ⟨hs _ _ (hoff p hp) (N p (.tail _ hp)).1, (N p (.tail _ hp)).2⟩) hs

theorem while_inv {test : Expr} (J : Nat → Shared → Prop)
    (turn : ∀ n s, J n s → wpAny (model prog w) A (isTrue test env (eval test env)) (fun b s₂ =>
        if b = true then wpAny (model prog w) A (execs body env) (fun f s₃ => match f with
            | .next => Hold (∃ m, m < n ∧ J m s₃)
            | .cont => Hold (∃ m, m < n ∧ J m s₃)
            | .brk => Q .next s₃
            | .ret v => Q (.ret v) s₃) NoE s₂
        else wpAny (model prog w) A (execs orelse env) Q NoE s₂) NoE s) (n : Nat) (h : J n s) : codeAny (model prog w) A (.whileLoop test body orelse env) (LoopR Q) s := by
  have key : ∀ k n s, n ≤ k → J n s → codeAny (model prog w) A (.whileLoop test body orelse env) (LoopR Q) s := by
    intro k
    induction k with
    | zero =>
      intro n s hn hJ
      refine while_turn (wpAny_mono (turn n s hJ) (fun b s₂ h₂ => ?_) fun _ _ e => e)
      cases b with
      | false => exact h₂
      | true =>
        rw [if_pos rfl] at h₂ ⊢
        refine wpAny_mono h₂ (fun f s₃ h₃ => ?_) fun _ _ e => e
        cases f with
        | next => obtain ⟨m, h1, _⟩ := h₃.out; omega
        | cont => obtain ⟨m, h1, _⟩ := h₃.out; omega
        | brk => exact h₃
        | ret v => exact h₃
    | succ k ih =>
      intro n s hn hJ
      refine while_turn (wpAny_mono (turn n s hJ) (fun b s₂ h₂ => ?_) fun _ _ e => e)
      cases b with
      | false => exact h₂
      | true =>
        rw [if_pos rfl] at h₂ ⊢
        refine wpAny_mono h₂ (fun f s₃ h₃ => ?_) fun _ _ e => e
        cases f with
        | next => obtain ⟨m, h1, h2⟩ := h₃.out; exact ih m s₃ (by omega) h2
        | cont => obtain ⟨m, h1, h2⟩ := h₃.out; exact ih m s₃ (by omega) h2
        | brk => exact h₃
        | ret v => exact h₃
  exact key n n s (Nat.le_refl _) h

theorem fr_congr {h : Heap} {m m' : Str → Option Value} (F : Fr g L h m) (e : ∀ y, m y = m' y) : Fr g L h m' := (funext e : m = m') ▸ F
end
end
/- R25 -/
section
open PySem PySem.W PySem.Calls PyProof.Rows PySem.Spec
/-- the figures of a number, nought has none -/
noncomputable def figs (n : Nat) : Nat := if h : n = 0 then 0 else figs (n / 10) + 1
termination_by n
decreasing_by omega
theorem figs_zero : figs 0 = 0 := by rw [figs]; rfl
theorem figs_pos {n : Nat} (h : 0 < n) : figs n = figs (n / 10) + 1 := by rw [figs, dif_neg (by omega)]
theorem figs_lt_pow (n : Nat) : n < 10 ^ figs n := by
  induction n using Nat.strongRecOn with
  | _ n ih =>
    by_cases h : n = 0
    · subst h; rw [figs_zero]; exact Nat.zero_lt_one
    · rw [figs_pos (by omega)]
      have := ih (n / 10) (by omega)
      rw [Nat.pow_succ]
      omega
theorem pow_le_figs {n : Nat} (h : 0 < n) : 10 ^ (figs n - 1) ≤ n := by
  induction n using Nat.strongRecOn with
  | _ n ih =>
    rw [figs_pos h, Nat.add_sub_cancel]
    by_cases h0 : n / 10 = 0
    · rw [h0, figs_zero]; exact h
    · have := ih (n / 10) (by omega) (by omega)
      have e : figs (n / 10) = (figs (n / 10) - 1) + 1 := by
        have := figs_pos (n := n / 10) (by omega)
        omega
      rw [e, Nat.pow_succ]
      omega
theorem figs_le_of_lt {n k : Nat} (h : n < 10 ^ k) : figs n ≤ k := by
  by_cases h0 : n = 0
  · subst h0; rw [figs_zero]; exact Nat.zero_le _
  · have := pow_le_figs (n := n) (by omega)
    have q : 10 ^ (figs n - 1) < 10 ^ k := Nat.lt_of_le_of_lt this h
    have := (Nat.pow_lt_pow_iff_right (by decide : 1 < 10)).mp q
    omega
theorem lt_figs_of_le {n k : Nat} (h : 10 ^ k ≤ n) : k < figs n := by
  have := figs_lt_pow n
  have q : 10 ^ k < 10 ^ figs n := Nat.lt_of_le_of_lt h this
  exact (Nat.pow_lt_pow_iff_right (by decide : 1 < 10)).mp q
theorem figs_eq {n k : Nat} (h1 : 10 ^ k ≤ n) (h2 : n < 10 ^ (k + 1)) : figs n = k + 1 :=
  Nat.le_antisymm (figs_le_of_lt h2) (lt_figs_of_le h1)
theorem toDigits_length {n : Nat} (h : 0 < n) : (Nat.toDigits 10 n).length = figs n := by
  induction n using Nat.strongRecOn with
  | _ n ih =>
    by_cases hn : n < 10
    · rw [Nat.toDigits_of_lt_base hn, figs_pos h, show n / 10 = 0 by omega, figs_zero]; rfl
    · rw [Nat.toDigits_of_base_le (by decide) (by omega), List.length_append, ih (n / 10) (by omega) (by omega), figs_pos h]
      rfl
end
/- R26 -/
section
open PySem PySem.W PySem.Calls PyProof.Rows PySem.Spec
theorem sub_filter : isSubtype (.type "filter") (.type "filter") = pure true := by rw [isSubtype_type]; kernel_rfl
section
variable {prog : Program} {w : World} {K : Type} [DecidableEq K] {knd : KeyKind prog w K} {A : Around} {E : Value → Shared → Prop} {s : Shared} {v d : Addr} {kvs : List (K × Value)} {ep : Nat}
theorem meets_filter_new :
    MeetsIn prog w (Builtin.«filter.__new__» ⟨[.type "filter", .none, .ref v], []⟩) (fun _ R s => (s.heap.IsValuesView v d ∧ s.heap.DictAt knd d kvs ep) ∧
      R (.ok (.ret (.ref (s.heap.objs.size + 1)))) { s with heap := (s.heap.push { cls := .type "dict_valueiterator", data := .fields #[.ref d, .int 0 0, .int kvs.length 0, .int ep 0] }).push (filtO s.heap.objs.size) }) :=
  .of_wp fun A R s h => by
    obtain ⟨hp, g, dr, tk, os⟩ := s; obtain ⟨⟨hv, hm⟩, h⟩ := h
    have hsub := sub_filter
    have e : (hp.push { cls := .type "dict_valueiterator", data := .fields #[.ref d, .int 0 0, .int kvs.length 0, .int ep 0] }).objs.size = hp.objs.size + 1 := Heap.size_push ..
    wp_walk using wpAny_pyIter_values hv hm
    dsimp only at e h ⊢
    rw [← e] at h
    exact ⟨_, rfl, h⟩

theorem call_filter {L : Addr} {g : Heap} {m : Str → Option Value} {news : List (Addr × Obj)} {Q : Value → Shared → Prop} (F : Fr g L s.heap m) (N : News g L s.heap news) (hv : s.heap.IsValuesView v d) (hm : s.heap.DictAt knd d kvs ep)
    (h : ∀ I it h', Fr g L h' m → News g L h' news → filtAt knd I it d kvs ep 0 h' → @Ne Nat I it → @Ne Nat d it → (∀ b o, s.heap.get? b = some o → h'.get? b = some o) → s.heap.get? it = none → s.heap.get? I = none → Q (.ref I) { s with heap := h' }) :
    wpAny (model prog w) A (call (.type "filter") [.none, .ref v]) Q E s := by
  refine callType_newIn called_filter (by decide) (typeCall_filter_2 _ _) (newCall_filter_2 _ _) (fun obj => PySem.F.args_object_init_3 obj _ _) entry_filter_new (meets_filter_new (knd := knd) (kvs := kvs) (ep := ep) (v := v) (d := d)) ?_
  refine ⟨⟨hv, hm⟩, ?_⟩
  have e : (s.heap.push { cls := .type "dict_valueiterator", data := .fields #[.ref d, .int 0 0, .int kvs.length 0, .int ep 0] }).objs.size = s.heap.objs.size + 1 := Heap.size_push ..
  have hI : ((s.heap.push { cls := .type "dict_valueiterator", data := .fields #[.ref d, .int 0 0, .int kvs.length 0, .int ep 0] }).push (filtO s.heap.objs.size)).get? (s.heap.objs.size + 1) = some (filtO s.heap.objs.size) := by
    rw [← e]; exact Heap.get?_push_size _ rfl
  have hit : ((s.heap.push { cls := .type "dict_valueiterator", data := .fields #[.ref d, .int 0 0, .int kvs.length 0, .int ep 0] }).push (filtO s.heap.objs.size)).get? s.heap.objs.size = some { cls := .type "dict_valueiterator", data := .fields #[.ref d, .int 0 0, .int kvs.length 0, .int ep 0] } :=
    Heap.get?_push_of_some _ (Heap.get?_push_size _ rfl)
  have hk : ∀ b o, s.heap.get? b = some o → ((s.heap.push { cls := .type "dict_valueiterator", data := .fields #[.ref d, .int 0 0, .int kvs.length 0, .int ep 0] }).push (filtO s.heap.objs.size)).get? b = some o := fun b o e => Heap.get?_push_of_some _ (Heap.get?_push_of_some _ e)
  have no : ∀ b, s.heap.objs.size ≤ b → s.heap.get? b = none := fun b e => by
    cases q : s.heap.get? b with
    | none => rfl
    | some o => exact absurd (Heap.lt_size q) (Nat.not_lt.mpr e)
  refine ⟨⟨_, hI, rfl⟩, h _ s.heap.objs.size _ ((F.push _).push _) (fun p hp => ⟨hk _ _ (N p hp).1, (N p hp).2⟩) ⟨hI, hm.keep hk, 0, Nat.zero_le _, ⟨_, hit, rfl, rfl⟩, rfl⟩ (Nat.succ_ne_self _) (Nat.ne_of_lt hm.lt_size) hk (no _ (Nat.le_refl _)) (no _ (Nat.le_succ _))⟩
end

section
variable {prog : Program} {w : World} {A : Around} {R : Result → Shared → Prop} {I : Addr} {fp wr : List Addr} {n : Nat} {P : Nat → Value → Prop} {St : Nat → Heap → Prop} {kw : List (Str × Value)}

theorem max_loop_kw (W : Walks prog w A.in1 I fp wr n P St) (bt : Nat → Nat → Bool) (hcmp : CmpOf prog w A.in1 .Gt P bt) (S : Addr) (hSf : S ∉ fp) :
    ∀ (k j : Nat) (s : Shared) (vb : Value) (c : Nat), n - (j + 1) = k → j + 1 ≤ n → St (j + 1) s.heap → P (argBest bt j) vb →
    s.heap.get? S = some { cls := .type "list", dict := none, data := .seq #[vb, vb] c, slots := #[] } →
    (∀ v h' tk, P (argBest bt (n - 1)) v → (∀ b o, b ∉ wr → b ≠ S → s.heap.get? b = some o → h'.get? b = some o) → R (.ok (.ret v)) { s with heap := h', toks := tk }) →
    codeAny (model prog w) A (.builtin "max.loop" ⟨[.ref I, .none, .ref S], kw⟩) R s := by
  have hSw : S ∉ wr := fun h => hSf (W.sub _ h)
  have hname : (toString "max" ++ toString ".loop" : String) = "max.loop" := by decide
  intro k
  induction k with
  | zero =>
    intro j s vb c hk hj hst hPb hS hR
    have hin : j + 1 = n := by omega
    refine codeAny_builtin PySem.F.entry_max_loop ?_
    rw [Around.under_plainId PySem.F.plain_max_loop _]
    show wpAny _ A.in1 (seqItems? (.ref S) >>= _) _ _ s
    refine wpAny_bind (wpAny_seqItems hS rfl ?_)
    show wpAny _ A.in1 (tryCatch (pyNext (.ref I)) _ >>= _) _ _ s
    refine wpAny_bind (wpAny_tryCatch (W.done s _ _ (hin ▸ hst) fun h' tk hk' => ?_))
    have hS' := hk' S _ hSw hS
    show wpAny _ A.in1 (updateSeq S (fun _ => #[]) >>= _) _ _ _
    refine wpAny_bind ?_
    refine wpAny_updateSeq hS' rfl (wpAny_bind (wpAny_letGo (wpAny_pure ?_)))
    refine hR vb _ tk (by rw [← hin]; exact hPb) fun b o hbw hbS e => (Heap.get?_update_other _ _ (Ne.symm hbS)).trans (hk' b o hbw e)
  | succ k ih =>
    intro j s vb c hk hj hst hPb hS hR
    have hlt : j + 1 < n := by omega
    refine codeAny_builtin PySem.F.entry_max_loop ?_
    rw [Around.under_plainId PySem.F.plain_max_loop _]
    show wpAny _ A.in1 (seqItems? (.ref S) >>= _) _ _ s
    refine wpAny_bind (wpAny_seqItems hS rfl ?_)
    show wpAny _ A.in1 (tryCatch (pyNext (.ref I)) _ >>= _) _ _ s
    refine wpAny_bind (wpAny_tryCatch (W.item (j + 1) s _ _ hlt hst fun v h' tk hP hst' hk' => ?_))
    have hS' := hk' S _ hSw hS
    show wpAny _ A.in1 (tryCatch (holding [v, v] (richCompare .Gt v vb >>= _)) _ >>= _) _ _ _
    refine wpAny_bind (wpAny_tryCatch (wpAny_holding (wpAny_bind (hcmp (j + 1) (argBest bt j) v vb _ _ _ hP hPb ?_))))
    refine wpAny_bind (wpAny_holding (wpAny_truthy_bool ?_))
    refine wpAny_bind (wpAny_letGo (wpAny_pure ?_))
    cases hb : bt (j + 1) (argBest bt j) with
    | true =>
      simp only [if_true]
      refine wpAny_bind ?_
      refine wpAny_updateSeq hS' rfl (wpAny_bind (wpAny_letGo ?_))
      rw [hname]
      refine wpAny_pure ⟨plainId_quiet PySem.F.plain_max_loop _, ih (j + 1) _ v _ (by omega) hlt (W.frame _ _ _ hst' fun b hbf o e => ?_) (by simp only [argBest, hb, if_true]; exact hP) (Heap.get?_update_self _ hS' rfl)
        fun v' h'' tk'' hP' hk'' => ?_⟩
      · exact (Heap.get?_update_other _ _ (fun h : S = b => hSf (by rw [h]; exact hbf))).trans e
      · exact hR v' h'' tk'' hP' fun b o hbw hbS e => hk'' b o hbw hbS ((Heap.get?_update_other _ _ (Ne.symm hbS)).trans (hk' b o hbw e))
    | false =>
      simp only [Bool.false_eq_true, if_false]
      refine wpAny_bind (wpAny_letGo ?_)
      rw [hname]
      refine wpAny_pure ⟨plainId_quiet PySem.F.plain_max_loop _, ih (j + 1) _ vb c (by omega) hlt hst' (by simp only [argBest, hb, Bool.false_eq_true, if_false]; exact hPb) hS' fun v' h'' tk'' hP' hk'' => ?_⟩
      exact hR v' h'' tk'' hP' fun b o hbw hbS e => hk'' b o hbw hbS (hk' b o hbw e)

theorem max_first_kw (W : Walks prog w A.in1 I fp wr n P St) (bt : Nat → Nat → Bool) (hcmp : CmpOf prog w A.in1 .Gt P bt) (S : Addr) (hSf : S ∉ fp) (hn : 0 < n) {s : Shared} {c : Nat} (hst : St 0 s.heap)
    (hS : s.heap.get? S = some { cls := .type "list", dict := none, data := .seq #[] c, slots := #[] })
    (hR : ∀ v h' tk, P (argBest bt (n - 1)) v → (∀ b o, b ∉ wr → b ≠ S → s.heap.get? b = some o → h'.get? b = some o) → R (.ok (.ret v)) { s with heap := h', toks := tk }) :
    codeAny (model prog w) A (.builtin "max.loop" ⟨[.ref I, .none, .ref S], kw⟩) R s := by
  have hSw : S ∉ wr := fun h => hSf (W.sub _ h)
  have hname : (toString "max" ++ toString ".loop" : String) = "max.loop" := by decide
  refine codeAny_builtin PySem.F.entry_max_loop ?_
  rw [Around.under_plainId PySem.F.plain_max_loop _]
  show wpAny _ A.in1 (seqItems? (.ref S) >>= _) _ _ s
  refine wpAny_bind (wpAny_seqItems hS rfl ?_)
  show wpAny _ A.in1 (tryCatch (pyNext (.ref I)) _ >>= _) _ _ s
  refine wpAny_bind (wpAny_tryCatch (W.item 0 s _ _ hn hst fun v h' tk hP hst' hk' => ?_))
  have hS' := hk' S _ hSw hS
  show wpAny _ A.in1 (updateSeq S (fun _ => #[v, v]) >>= _) _ _ _
  refine wpAny_bind ?_
  refine wpAny_updateSeq hS' rfl ?_
  rw [hname]
  refine wpAny_pure ⟨plainId_quiet PySem.F.plain_max_loop _, max_loop_kw W bt hcmp S hSf _ 0 _ v _ rfl hn (W.frame _ _ _ hst' fun b hbf o e => ?_) hP (Heap.get?_update_self _ hS' rfl) fun v' h'' tk'' hP' hk'' => ?_⟩
  · exact (Heap.get?_update_other _ _ (fun h : S = b => hSf (by rw [h]; exact hbf))).trans e
  · exact hR v' h'' tk'' hP' fun b o hbw hbS e => hk'' b o hbw hbS ((Heap.get?_update_other _ _ (Ne.symm hbS)).trans (hk' b o hbw e))
end

theorem args_max_d (a d : Value) : argsOk "max" ⟨[a], [("default", d)]⟩ := by unfold argsOk; kernel_rfl
section
variable {prog : Program} {w : World} {A : Around} {E : Value → Shared → Prop} {s : Shared}
theorem call_max_kw {x dv : Value} {Q : Value → Shared → Prop}
    (h : wpAny (model prog w) A.in1 (pyIter x) (fun it s₂ => ∃ I fp wr n P St bt, it = .ref I ∧ Walks prog w A.in1 I fp wr n P St ∧ St 0 s₂.heap ∧ (∀ b ∈ fp, b < s₂.heap.objs.size) ∧ 0 < n ∧ CmpOf prog w A.in1 .Gt P bt ∧
      ∀ v h' tk, P (argBest bt (n - 1)) v → (∀ b o, b ∉ wr → s₂.heap.get? b = some o → h'.get? b = some o) → Q v { s₂ with heap := h', toks := tk }) E s) :
    wpAny (model prog w) A (call (.builtin "max") [x] [("default", dv)]) Q E s := by
  have hname : (toString "max" ++ toString ".loop" : String) = "max.loop" := by decide
  refine wpAny_call (codeAny_call_builtin PySem.F.plain_max PySem.F.entry_max ?_)
  have ha := args_max_d x dv
  simp only [checkBuiltinCall, PySem.F.kind_max]
  have body : wpAny (model prog w) A.in1 (Builtin.«max» ⟨[x], [("default", dv)]⟩) (fun fin s' => match fin with
      | .done f => (match (Except.ok f : Result) with | .ok (.ret v) => Q v s' | .ok _ => False | .error e => E e s')
      | .again c' => c'.quiet = true ∧ codeAny (model prog w) A c' (fun r s' => match r with | .ok (.ret v) => Q v s' | .ok _ => False | .error e => E e s') s') E s := by
    show wpAny _ A.in1 (Builtin.Builtins.bindParams "max" ["key", "default"] 0 ⟨[], [("default", dv)]⟩ >>= _) _ _ s
    refine wpAny_bind (wpAny_of_eq (show Builtin.Builtins.bindParams "max" ["key", "default"] 0 ⟨[], [("default", dv)]⟩ = pure [none, some dv] from by kernel_rfl) ?_)
    refine wpAny_bind (wpAny_pure ?_)
    refine wpAny_bind (wpAny_mono h (fun it s₂ h₂ => ?_) fun _ _ e => e)
    obtain ⟨I, fp, wr, n, P, St, bt, rfl, W, hst, hfp, hn, hcmp, hQ⟩ := h₂
    refine wpAny_bind (wpAny_newObj_type ?_)
    have hSf : s₂.heap.objs.size ∉ fp := fun hm => Nat.lt_irrefl _ (hfp _ hm)
    rw [hname]
    refine wpAny_pure ⟨plainId_quiet PySem.F.plain_max_loop _, max_first_kw W bt hcmp s₂.heap.objs.size hSf hn (W.frame _ _ _ hst fun b _ o e => Heap.get?_push_of_some _ e) (Heap.get?_push_size _ rfl) fun v h' tk hP hk => ?_⟩
    exact hQ v h' tk hP fun b o hbw e => hk b o hbw (Nat.ne_of_lt (Heap.lt_size e)) (Heap.get?_push_of_some _ e)
  cases hsig : Manifest.signature? "max" with
  | none => exact wpAny_pure body
  | some sig =>
    simp only [argsOk, hsig] at ha
    have h2 : Bind.checkArgs "max" sig ⟨[x], [("default", dv)]⟩ = pure () := ha
    show wpAny _ A.in1 (Bind.checkArgs "max" sig ⟨[x], [("default", dv)]⟩) _ _ s
    rw [h2]; exact wpAny_pure body

/-- max(filter(None, d.values()), default=..) behind the filter's making -/
theorem max_filt {K : Type} [DecidableEq K] {knd : KeyKind prog w K} {I it d L : Addr} {kvs : List (K × Value)} {ep : Nat} {g : Heap} {m : Str → Option Value} {news : List (Addr × Obj)} {dv : Value} {Q : Value → Shared → Prop} {mx : Int} {t0 : Tok}
    (hh : A.handled = none) (F : Fr g L s.heap m) (N : News g L s.heap news) (hI : @Ne Nat I it) (hd : @Ne Nat d it) (hv : ∀ p ∈ kvs, plainV p.2) (st : filtAt knd I it d kvs ep 0 s.heap)
    (hit : g.get? it = none) (hitL : @Ne Nat it L) (hoff : ∀ p ∈ news, @Ne Nat p.1 it) (hmem : Value.int mx t0 ∈ kvs.map (·.2)) (h0 : mx ≠ 0) (hmx : ∀ n t, Value.int n t ∈ kvs.map (·.2) → n ≤ mx)
    (h : ∀ h' tk t, Fr g L h' m → News g L h' news → Q (.int mx t) { s with heap := h', toks := tk }) :
    wpAny (model prog w) A (call (.builtin "max") [.ref I] [("default", dv)]) Q E s := by
  have W := Walks.filt (prog := prog) (w := w) (A := A.in1) (knd := knd) hh hI hd hv (ep := ep)
  refine call_max_kw (W.self 0 s _ _ st ?_)
  have hints : ∀ v ∈ (kvs.map (·.2)).filter passes, ∃ n t, v = Value.int n t := fun v hv => by
    have := (List.mem_filter.mp hv).2
    cases v <;> first | exact ⟨_, _, rfl⟩ | cases this
  have hin : Value.int mx t0 ∈ (kvs.map (·.2)).filter passes := List.mem_filter.mpr ⟨hmem, by show (mx != 0) = true; simpa using h0⟩
  obtain ⟨num, hnumd⟩ : ∃ num : Nat → Int, num = fun j => match ((kvs.map (·.2)).filter passes)[j]? with | some (.int n _) => n | _ => 0 := ⟨_, rfl⟩
  have hnum : ∀ (i : Nat) (v : Value), ((kvs.map (·.2)).filter passes)[i]? = some v → ∃ t, v = Value.int (num i) t := fun i v e => by
    obtain ⟨n, t, rfl⟩ := hints v (List.mem_of_getElem? e)
    exact ⟨t, by simp only [hnumd, e]⟩
  have hlt : ∀ {b : Addr} {o : Obj}, s.heap.get? b = some o → b < s.heap.objs.size := fun e => Heap.lt_size e
  refine ⟨I, _, _, _, _, _, (fun i j : Nat => decide (num i > num j)), rfl, W, st, ?_, List.length_pos_of_mem hin, CmpOf.ints_gt num hnum, fun v h' tk hP hk => ?_⟩
  · obtain ⟨a, b, i, c, dd, e⟩ := st
    intro q hq
    simp only [List.mem_cons, List.not_mem_nil, or_false] at hq
    rcases hq with rfl | rfl | rfl
    · exact hlt a
    · obtain ⟨o, ho, _⟩ := dd; exact hlt ho
    · exact b.lt_size
  · obtain ⟨t, rfl⟩ := hnum _ v hP
    have hb := argBest_gt num (((kvs.map (·.2)).filter passes).length - 1)
    have hle : num (argBest (fun i j : Nat => decide (num i > num j)) (((kvs.map (·.2)).filter passes).length - 1)) ≤ mx := hmx _ t (List.mem_filter.mp (List.mem_of_getElem? hP)).1
    obtain ⟨j, hj⟩ := List.getElem?_of_mem hin
    have hjl : j < ((kvs.map (·.2)).filter passes).length := by
      have := List.getElem?_eq_some_iff.mp hj
      exact this.1
    have hge : mx ≤ num (argBest (fun i j : Nat => decide (num i > num j)) (((kvs.map (·.2)).filter passes).length - 1)) := by
      have q := hb.2 j (by omega)
      have e : num j = mx := by simp only [hnumd, hj]
      rw [e] at q; exact q
    have heq := Int.le_antisymm hle hge
    rw [heq]
    have hw : ∀ b o, @Ne Nat b it → s.heap.get? b = some o → h'.get? b = some o := fun b o hb e => hk b o (by simpa using hb) e
    exact h h' tk t ⟨F.ns.at' fun o e => hw L o hitL.symm e, fun b o e => hw b o (fun q => by rw [q, hit] at e; cases e) (F.keep b o e), F.above⟩ fun p hp => ⟨hw _ _ (hoff p hp) (N p hp).1, (N p hp).2⟩
end
end
/- R27 -/
section
open PySem PySem.W PySem.Calls PyProof.Rows PySem.Spec
/-- a number's numeral -/
noncomputable def dec (n : Nat) : Str := Str.ofString (toString (n : Int))
noncomputable def digs (n : Nat) : List Nat := (Nat.toDigits 10 n).map Char.toNat
theorem toString_nat (n : Nat) : (toString (n : Int) : String) = String.ofList (Nat.toDigits 10 n) := rfl
theorem dec_cps (n : Nat) : (dec n).cps = (digs n).toArray := by
  unfold dec digs
  rw [toString_nat, Str.ofString_eq_toList, String.toList_ofList]
theorem dec_length {n : Nat} (h : 0 < n) : (dec n).length = figs n := by
  show (dec n).cps.size = _
  rw [dec_cps]
  simp [digs, toDigits_length h]
set_option exponentiation.threshold 600 in
theorem log2_of_figs {n : Nat} (h : figs n ≤ 500) : ((n : Int)).natAbs.log2 < 1920 := by
  by_cases h0 : n = 0
  · subst h0; decide
  · rw [Int.natAbs_natCast]
    refine (Nat.log2_lt h0).mpr ?_
    have h1 := figs_lt_pow n
    have h2 : 10 ^ figs n ≤ 10 ^ 500 := Nat.pow_le_pow_right (by decide) h
    have h3 : 10 ^ 500 < 2 ^ 1920 := by decide +kernel
    exact Nat.lt_of_lt_of_le h1 (Nat.le_trans h2 (Nat.le_of_lt h3))
section
variable {prog : Program} {w : World} {A : Around} {E : Value → Shared → Prop} {s : Shared}
theorem str_of_nat {n : Nat} {t : Tok} {Q : Value → Shared → Prop} (hn : figs n ≤ 500) (h : Q (.str (dec n) s.toks) { s with toks := s.toks + 1 }) : wpAny (model prog w) A (call (.type "str") [.int (n : Int) t]) Q E s :=
  PySem.P.str_of_int (log2_of_figs hn) h
theorem getMethod_values {K : Type} [DecidableEq K] {knd : KeyKind prog w K} {g : Heap} {L d : Addr} {m : Str → Option Value} {kvs : List (K × Value)} {ep : Nat} {pl : Sem Bool} {Q : Value × List Value → Shared → Prop} (F : Fr g L s.heap m)
    (hda : ∀ h : Heap, (∀ b o, g.get? b = some o → h.get? b = some o) → Heap.DictAt knd h d kvs ep) (h : Q (.builtin "dict.values", [.ref d]) s) : wpAny (model prog w) A (getMethod (.ref d) "values" pl) Q E s :=
  getMethod_builtin (T := "dict") (name := Str.ofString "values") (id := "dict.values") (hda _ F.keep).dictOf.typeIs PySem.F.plainAttrs_dict PySem.F.slot_dict_values PySem.F.type_dict_values (hda _ F.keep).dictOf.mapOf.noDict h
theorem call_values {K : Type} [DecidableEq K] {knd : KeyKind prog w K} {g : Heap} {L d : Addr} {m : Str → Option Value} {kvs : List (K × Value)} {ep : Nat} {news : List (Addr × Obj)} {Q : Value → Shared → Prop} (F : Fr g L s.heap m) (N : News g L s.heap news)
    (hda : ∀ h : Heap, (∀ b o, g.get? b = some o → h.get? b = some o) → Heap.DictAt knd h d kvs ep) (hds : (d == sysModules) = false)
    (h : ∀ v h', Fr g L h' m → News g L h' ((v, { cls := .type "dict_values", data := .fields #[.ref d] }) :: news) → Q (.ref v) { s with heap := h' }) : wpAny (model prog w) A (call (.builtin "dict.values") [.ref d]) Q E s :=
  call_meetsIn PySem.F.slot_dict_values (hda _ F.keep).dictOf.typeIs PySem.F.entry_dict_values (PySem.F.args_dict_values_1 _) (meets_dict_values knd d hds) ⟨⟨kvs, (hda _ F.keep).dictOf⟩, h _ _ (F.push _) (News.push F N _)⟩
end
end
/- R28 -/
section
open PySem PySem.W PySem.Calls PyProof.Rows PySem.Spec
section
variable {prog : Program} {w : World} {A : Around} {E : Value → Shared → Prop} {s : Shared} {K : Frag} {H₀ : Heap} {p : Program} {loose : List Str} {mg mb : Str → Option Value}
  {R : Result → Shared → Prop} {name qual : Str} {params : Arguments} {body : List Stmt} {scope : Scope} {dV kV doc pm cdv ct oc : Value} {an od : Option Addr} {osl : Array (Option Value)} {f : Addr} {args : Args} {binds : List (Str × Value)} {cl : List (Str × Addr)}

/-- the call of a generator function: the generator is made, its body waits -/
theorem gen_call (HS : Sub H₀ s.heap) (X : K.In H₀) (TR : TopRead p loose mg mb H₀)
    (ho : K.lookup f = some ⟨oc, od, .func (fnX name qual params body scope cl dV kV doc pm an cdv ct), osl⟩) (hcd : codeIn K cdv qual = true) (hroom : A.depth < recursionLimit)
    (hbind : BindsTo s (fnX name qual params body scope cl dV kV doc pm an cdv ct) args binds) (hloc : ∀ y ∈ binds, scope.names.lookup y.1 = some .local)
    (hcell : ∀ x ∈ scope.names, x.2 ≠ .cell) (hco : scope.isCoroutine = false) (hgen : scope.isGenerator = true) (hk : scope.kind = .function)
    (h : ∀ ge s', Kept [] s s' → s.heap.get? ge = none → s'.heap.IsGen ge s.gens.size → s'.gens[s.gens.size]? = some (.fresh (.func body (envX qual scope s.heap.objs.size f cdv cl))) →
      s'.heap.Ns s.heap.objs.size (fun y => binds.reverse.lookup y) → R (.ok (.ret (.ref ge))) s') : codeAny (model prog w) A (.call (.ref f) args) R s := by
  refine codeAny_call_generator (fd := fnX name qual params body scope cl dV kV doc pm an cdv ct) (body := body) hroom (HS _ _ (X _ _ ho)) rfl hco hgen rfl (codeRec_of (X.keeps HS) hcd) (hbind _ _ _ _ ?_)
  refine wpAny_newFunctionEnv hcell hloc (fun h₀ hns hsb => ⟨(TR.nolimit.keeps HS).fresh _ hsb, ?_⟩) hk
  have hk₁ : ∀ b o, s.heap.get? b = some o → h₀.get? b = some o := fun b o e => hsb.extBut b o (Nat.ne_of_lt (Heap.lt_size e)) (Heap.get?_push_of_some _ e)
  have hsz : h₀.objs.size = s.heap.objs.size + 1 := by rw [hsb.1, Heap.size_push]
  have no : s.heap.get? h₀.objs.size = none := by
    cases q : s.heap.get? h₀.objs.size with
    | none => rfl
    | some o => exact absurd (Heap.lt_size q) (Nat.not_lt.mpr (by omega))
  refine h _ _ ⟨fun b o _ e => Heap.get?_push_of_some _ (hk₁ b o e), ?_, rfl, rfl, fun G => G.push rfl⟩ no ⟨_, _, _, Heap.get?_push_size _ rfl, rfl, rfl, rfl⟩ (Array.getElem?_push_size ..) (hns.push _)
  show s.heap.objs.size ≤ (Heap.push _ _).objs.size
  rw [Heap.size_push]
  omega

/-- a generator whose body opens with a yield: the first next -/
theorem gen_next {ge : Addr} {gi : Nat} {env : Env} {e : Expr} {yp pos : Pos} {rest : List Stmt} {Q : Value → Shared → Prop} (hl : s.heap.NoLimit) (hh : A.handled = none) (hroom : A.depth + 10 < recursionLimit)
    (hg : s.heap.IsGen ge gi) (hgs : s.gens[gi]? = some (.fresh (.func (.Expr (.Yield (some e) yp) pos :: rest) env))) (hco : env.scope.isCoroutine = false) (hi : interactive env = false)
    (h : ∀ A' : Around, A'.handled = none → A'.depth ≤ A.depth + 8 → A'.units ≤ A.units + 40 → wpAny (model prog w) A' (eval e env) (fun v s' => ∀ gs', gs'.bare = true → Q v (s'.setGen gi gs')) NoE (s.setGen gi .running)) :
    wpAny (model prog w) A (call (.builtin "next") [.ref ge]) Q E s := by
  refine call_function_entry (by decide +kernel) (by decide +kernel) kdk_entry_next (kdk_args_next _) ?_
  unfold Builtin.«next»
  refine wpAny_bind (m := someArgs "next" 1 2 _) (wpAny_of_eq (a := [Value.ref ge]) (by first | rfl | kernel_rfl!) ?_)
  dsimp only
  refine wpAny_bind (wpAny_specialOf (name := Str.ofString "__next__") hg.typeIs slot_gen_next.lookup ?_)
  refine wpAny_ite_split (fun hab => absurd hab (by decide)) (fun _ => ?_)
  refine wpAny_bind ?_
  refine wpAny_callSpecial?_slot (name := Str.ofString "__next__") hg.typeIs slot_gen_next (wpAny_call_entry slot_gen_next hg.typeIs entry_gen_next ?_ (args_gen_next _))
  show wpAny _ _ (Builtin.Generator.genWake (.ref ge) (.send .none)) _ _ s
  unfold Builtin.Generator.genWake
  refine wpAny_bind (wpAny_holding (wpAny_genNumber hg (wpAny_bind (wpAny_genState hgs ?_))))
  refine wpAny_bind (wpAny_roomToWake hl (by simp only [depth_in1]; omega) ?_)
  show wpAny _ _ (.resume gi (.send .none) [] _) _ _ s
  refine wpAny_resumeQ (n := 1) (R := fun _ _ _ _ => False) (Y := fun _ _ v s' _ => ∀ gs', gs'.bare = true → Q v (s'.setGen gi gs')) hgs ⟨rfl, ?_⟩ (fun _ _ hx => hx.elim) (fun v s₁ gs' hb hv => ?_)
  · refine seg_func (seg_execs_cons (seg_Expr_Yield rfl rfl rfl ?_ hco hi))
    refine wpAny_mono (h _ ?_ ?_ ?_) (fun v s' hv _ _ => hv) fun _ _ e => e.elim
    · simp only [Around.over, marksOver, List.map_nil]
      exact hh
    · show A.in1.in1.depth + frameCount [] + (Code.func _ env).weight ≤ A.depth + 8
      have : (Code.func (.Expr (.Yield (some e) yp) pos :: rest) env).weight ≤ 1 := Nat.le_of_ble_eq_true rfl
      have e0 : frameCount [] = 0 := rfl
      simp only [depth_in1, e0]
      omega
    · show A.in1.in1.units + unitsOf [] + (Code.func _ env).cUnits ≤ A.units + 40
      have e0 : unitsOf [] = 0 := rfl
      have e1 : (Code.func (.Expr (.Yield (some e) yp) pos :: rest) env).cUnits ≤ 3 := Nat.le_of_ble_eq_true rfl
      simp only [units_in1, e0]
      omega
  · exact wpAny_pure ⟨v, rfl, wpAny_pure ⟨v, rfl, hv gs' hb⟩⟩
end
theorem base_of {s : Shared} {K : Frag} {H₀ h : Heap} {p : Program} {loose : List Str} {mg mb m : Str → Option Value} (T : List (Addr × Obj)) (hT : ∀ q ∈ T, s.heap.get? q.1 = some q.2) (HS : Sub H₀ s.heap) (hT0 : ∀ q ∈ T, H₀.get? q.1 = none) (X : K.In H₀) (TR : TopRead p loose mg mb H₀)
    (hns : h.Ns s.heap.objs.size m) (hk₁ : ∀ b o, s.heap.get? b = some o → h.get? b = some o) :
    ∃ g, Fr g s.heap.objs.size h m ∧ News g s.heap.objs.size h T ∧ K.In g ∧ TopRead p loose mg mb g ∧ Sub H₀ g ∧ (∀ b o, b ∉ T.map (·.1) → s.heap.get? b = some o → g.get? b = some o) := by
  have nm : ∀ b o, H₀.get? b = some o → b ∉ T.map (·.1) := fun b o e q => by
    obtain ⟨r, hr, rfl⟩ := List.mem_map.mp q
    rw [hT0 r hr] at e; cases e
  have st : Sub H₀ (hideAll s.heap (T.map (·.1))) := fun b o e => hideAll_get _ (HS b o e) (nm b o e)
  exact ⟨hideAll s.heap (T.map (·.1)), ⟨hns, fun b o e => hk₁ b o (of_hideAll _ e), Nat.le_of_eq (hideAll_size _ _)⟩,
    (fun q hq => ⟨hk₁ _ _ (hT q hq), Nat.ne_of_lt (Heap.lt_size (hT q hq)), hideAll_none _ (List.mem_map_of_mem hq)⟩), X.keeps st, TR.keeps st, st, (fun b o hb e => hideAll_get _ e hb)⟩

/-- a made generator that stands ahead of its first yield; what the yield hands out is v; the places ts are turned thereby -/
noncomputable def GenReady (prog : Program) (w : World) (h : Heap) (gens : Array GenState) (ge : Addr) (v : Int) (tb : Addr) : Prop :=
  ∃ (gi : Nat) (env : Env) (e : Expr) (yp pos : Pos) (rest : List Stmt), h.IsGen ge gi ∧ gens[gi]? = some (.fresh (.func (.Expr (.Yield (some e) yp) pos :: rest) env)) ∧ env.scope.isCoroutine = false ∧ interactive env = false ∧
    ∀ (A' : Around) (t : Shared) (Q : Value → Shared → Prop), A'.handled = none → A'.depth < 480 → A'.units < 1800 → t.heap = h → AllBare t.gens →
      (∀ t' tk ps', Kept [tb] t t' → t'.heap.get? tb = some (tabObj ps') → TriplesOk ps'.toList → Q (.int v tk) t') → wpAny (model prog w) A' (eval e env) Q NoE t
theorem ready_next {prog : Program} {w : World} {A : Around} {E : Value → Shared → Prop} {s : Shared} {ge tb : Addr} {v : Int} {Q : Value → Shared → Prop} (hl : s.heap.NoLimit) (hh : A.handled = none) (hdp : A.depth < 470) (hun : A.units < 1700) (G : AllBare s.gens)
    (M : GenReady prog w s.heap s.gens ge v tb)
    (hQ : ∀ s' ps' t, Kept [tb] s s' → s'.heap.get? tb = some (tabObj ps') → TriplesOk ps'.toList → Q (.int v t) s') : wpAny (model prog w) A (call (.builtin "next") [.ref ge]) Q E s := by
  obtain ⟨gi, env, e, yp, pos, rest, h1, h2, h3, h4, h5⟩ := M
  have setB : ∀ (t : Shared) (gs : GenState), gs.bare = true → AllBare t.gens → AllBare (t.setGen gi gs).gens := fun t gs hb G y hy => by
    have hy' : y ∈ t.gens.setIfInBounds gi gs := hy
    rcases Array.mem_or_eq_of_mem_setIfInBounds hy' with h | h
    · exact G y h
    · rw [h]; exact hb
  refine gen_next hl hh (by simp only [recursionLimit]; omega) h1 h2 h3 h4 fun A' a b c => ?_
  refine h5 A' (s.setGen gi .running) _ a (by omega) (by omega) rfl (setB s .running rfl G) fun t' tk ps' Kp e1 e2 gs' hb => ?_
  exact hQ _ ps' tk ⟨Kp.keep, Kp.size, Kp.os, Kp.drawn, fun _ => setB t' gs' hb (Kp.gens (setB s .running rfl G))⟩ e1 e2
end
/- R29 -/
section
open PySem PySem.W PySem.Calls PyProof.Rows PySem.Spec
theorem bits_figs {a : Nat} (ha : figs a ≤ 500) : Builtin.Int.intBits (a : Int) ≤ 1920 := by
  unfold Builtin.Int.intBits
  split
  · omega
  · have := log2_of_figs ha
    omega
theorem mulok_figs {a b : Nat} (ha : figs a ≤ 500) (hb : figs b ≤ 500) : IntMulOk a b := by
  have h1 := bits_figs ha
  have h2 := bits_figs hb
  unfold IntMulOk
  have : Builtin.Int.intTooBig ((Builtin.Int.intBits (a : Int) : Int) + (Builtin.Int.intBits (b : Int) : Int)) = false := by
    unfold Builtin.Int.intTooBig
    have : (3840 : Int) ≤ bitsLine := by decide +kernel
    exact decide_eq_false (by omega)
  simp [this]
section
variable {prog : Program} {w : World} {A : Around} {E : Value → Shared → Prop} {s : Shared}
theorem mul_nat {a b : Nat} {t u : Tok} {Q : Value → Shared → Prop} (ha : figs a ≤ 500) (hb : figs b ≤ 500) (h : Q (.int ((a * b : Nat) : Int) s.toks) { s with toks := s.toks + 1 }) : wpAny (model prog w) A (binaryOp .Mult (.int (a : Int) t) (.int (b : Int) u)) Q E s :=
  PyProof.Rows.mul_int (by rw [← Int.natCast_mul]; exact h) (mulok_figs ha hb)
theorem mul_lit {c b : Nat} {k : Int} {t u : Tok} {Q : Value → Shared → Prop} (hk : k = (c : Int)) (ha : figs c ≤ 500) (hb : figs b ≤ 500) (h : Q (.int ((c * b : Nat) : Int) s.toks) { s with toks := s.toks + 1 }) : wpAny (model prog w) A (binaryOp .Mult (.int k t) (.int (b : Int) u)) Q E s := by
  subst hk
  exact mul_nat ha hb h
end
theorem figs_1000 : figs 1000 = 4 := figs_eq (k := 3) (by decide) (by decide)
theorem figs_thousand {a : Nat} (h : 0 < a) : figs (1000 * a) = figs a + 3 := by
  have h1 : 1000 * a / 10 = 100 * a := by omega
  have h2 : 100 * a / 10 = 10 * a := by omega
  have h3 : 10 * a / 10 = a := by omega
  rw [figs_pos (by omega), h1, figs_pos (by omega), h2, figs_pos (by omega), h3]
theorem star_dict (ks : List (Option Expr)) (vs : List Expr) (pp : Pos) (rest : List Expr) (env : Env) : starEach (.Dict ks vs pp :: rest) env = (false, eval (.Dict ks vs pp) env) :: starEach rest env := rfl
section
variable {prog : Program} {w : World} {A : Around} {E : Value → Shared → Prop} {s : Shared} {K : Frag} {h₀ : Heap}
theorem callWith_K_dict {pos pp : Pos} {f : Value} {first : List Value} {ks : List (Option Expr)} {vs : List Expr} {env : Env} {Q : Value → Shared → Prop} (X : K.In h₀) (hk : keepIn K f = true)
    (h : wpAny (model prog w) A (eval (.Dict ks vs pp) env) (fun v s₁ => K.In s₁.heap ∧ wpAny (model prog w) A (call f (first ++ [v])) Q E s₁) E s) :
    wpAny (model prog w) A (callWith pos f first (backTo pos (starEach [.Dict ks vs pp] env)) []) Q E s := by
  refine callWith_K X hk ?_ (star_dict ..) rfl
  rw [star_dict]
  exact Calls.spliced_cons (wpAny_mono h (fun v s₁ h₁ => Calls.spliced_nil h₁) fun _ _ e => e)
end
end
/- R30 -/
section
open PySem PySem.W PySem.Calls PyProof.Rows PySem.Spec
/-- the order of two texts, as the four comparisons tell it -/
noncomputable def ordOf (op : CmpOp) (a b : Str) : Bool := match op with
  | .Lt => decide (a.cps.toList < b.cps.toList)
  | .LtE => !decide (b.cps.toList < a.cps.toList)
  | .Gt => decide (b.cps.toList < a.cps.toList)
  | _ => !decide (a.cps.toList < b.cps.toList)
section
variable {prog : Program} {w : World} {A : Around} {E : Value → Shared → Prop} {s : Shared} {K : Frag} {x C L f : Addr} {h₀ : Heap} {m : Str → Option Value} {ox : Obj} {od : Option Obj} {u : Str} {t : Tok}
theorem strcmp_ref {id nm : String} {ff : List Nat → List Nat → Bool} {Q : Value → Shared → Prop} {name : Str} (hslot : Slot "str" name id) (hb : entryFor table id = some (Builtin.Str.strCompare nm ff)) (ha : argsOk id ⟨[.str u t, .ref x], []⟩)
    (hx : s.heap.get? x = some ox) (hox : ox.data = .plain) (h : Q .notImplemented s) : wpAny (model prog w) A (call (.builtin id) [.str u t, .ref x]) Q E s := by
  refine wpAny_call_entry hslot (typeIs_str s u t) hb ?_ ha
  unfold Builtin.Str.strCompare
  refine wpAny_bind (m := Builtin.Str.strSlot nm 1 _) (wpAny_pure ?_)
  refine wpAny_bind ?_
  show wpAny _ _ (asStr? (.ref x)) _ _ _
  unfold asStr?
  refine wpAny_bind (wpAny_load hx ?_)
  rw [hox]
  refine wpAny_pure ?_
  exact wpAny_bind (wpAny_rule (wpAny_pure ⟨_, rfl, h⟩))

theorem cmp_refl {op : CmpOp} {id nm : String} {ff : List Nat → List Nat → Bool} {Q : Value → Shared → Prop} (hslot : Slot "str" (cmpInfo op).2.1 id) (hb : entryFor table id = some (Builtin.Str.strCompare nm ff)) (ha : argsOk id ⟨[.str u t, .ref x], []⟩)
    (hu : A.units < cLine) (X : K.In s.heap) (I : InstAt s.heap x ox C od) (hox : ox.data = .plain) (hsub : mroIn K C (.type "str") = some false)
    (hs : findIn K (.ref C) (cmpInfo op).2.2 = some (some (.ref f))) (hf : isFn K (.ref f) = true)
    (h : wpAny (model prog w) A (call (.ref f) [.ref x, .str u t]) (W.CmpBack Q) E s) : wpAny (model prog w) A (richCompare op (.str u t) (.ref x)) Q E s := by
  have one : wpAny (model prog w) A (tryCompare (.ref x) (cmpInfo op).2.2 (.str u t)) (fun r s' => ∃ v, r = some v ∧ Q v s') E s := by
    unfold tryCompare
    refine wpAny_bind (ifBound_K X I hs hf (wpAny_mono h (fun v s' hv => ?_) fun _ _ e => e))
    cases v <;> first | exact hv.elim | exact wpAny_pure ⟨_, rfl, hv⟩
  rcases hi : cmpInfo op with ⟨sym, f1, r1⟩
  rw [hi] at hslot one
  have hT := typeIs_str s u t
  simp only [richCompare, hi, hT.oneThing_none]
  refine wpAny_holding (wpAny_bind (wpAny_cRoomFor hu ?_))
  refine wpAny_bind (wpAny_typeOf hT (wpAny_bind (I.type.here ?_)))
  have hne : (Value.type "str" != Value.ref C) = true := rfl
  rw [if_pos hne]
  refine wpAny_bind ((looks_mroIn X hsub).here ?_)
  simp only [Bool.false_eq_true, if_false]
  refine wpAny_bind ?_
  unfold tryCompare
  refine wpAny_bind (wpAny_callSpecialIfBound?_slot hT hslot (strcmp_ref hslot hb ha I.at_ hox ?_))
  refine wpAny_pure ?_
  simp only [Bool.not_false, if_true]
  refine wpAny_bind (wpAny_mono one (fun r s' z => ?_) fun _ _ e => e)
  obtain ⟨v, rfl, hq⟩ := z
  exact wpAny_pure hq
end
end
/- R31 -/
section
open PySem PySem.W PySem.Calls PyProof.Rows PySem.Spec
section
variable {prog : Program} {w : World} {A : Around} {E : Value → Shared → Prop} {s : Shared} {g : Heap} {L a b : Addr} {m : Str → Option Value} {news news' : List (Addr × Obj)} {its new : Array Value} {n k : Nat}
/-- a += b, both lists -/
theorem iadd_list {Q : Value → Shared → Prop} (F : Fr g L s.heap m) (N : News g L s.heap news) (hb : s.heap.IsList b new) (U : Upd a (listOf its n) (listOf (its ++ new) (if (its ++ new).size == its.size then n else n + 1)) news news')
    (hz : its.size + new.size ≤ 100000) (h : ∀ h', Fr g L h' m → News g L h' news' → Q (.ref a) { s with heap := h' }) :
    wpAny (model prog w) A (inplaceOp .Add (.ref a) (.ref b)) Q E s := by
  have z := upd_at F N U
  have ha : s.TypeIs (.ref a) "list" := ⟨_, z.1, rfl⟩
  have hT := hb.typeIs
  obtain ⟨ob, hob, hcb, nb, hdb⟩ := id hb
  have hsl : isSeqSlot (some (.builtin "list.__iadd__")) = true := by decide +kernel
  unfold inplaceOp
  refine wpAny_holding ?_
  have hfi : fillsInplaceSlot (.type "list") "add" (Operator.Add == .Add) = pure false := by
    unfold fillsInplaceSlot
    show (typeLookup (.type "list") (dunderI "add") >>= fun fi => pure (fi.isSome && !isSeqSlot fi)) = pure false
    rw [PySem.F.slot_list_iadd.lookup]
    show (pure (true && !isSeqSlot (some (.builtin "list.__iadd__"))) : Sem Bool) = pure false
    rw [hsl]; rfl
  have hsi : seqSlot? (.type "list") (dunderI "add") = pure (some (.builtin "list.__iadd__"))   := PySem.seqSlot_of PySem.F.slot_list_iadd.lookup hsl
  refine wpAny_bind (wpAny_typeOf ha (wpAny_bind (wpAny_of_eq hfi ?_)))
  show wpAny _ A (if false = true then _ else _) Q E s
  rw [if_neg Bool.false_ne_true]
  refine wpAny_bind (wpAny_binaryOp1_none (nm := "add") ha hT noFill_list_add ?_)
  refine wpAny_bind (wpAny_of_eq hsi ?_)
  refine wpAny_bind (wpAny_rule ?_)
  refine wpAny_call_entry PySem.F.slot_list_iadd ha PySem.F.entry_list_iadd ?_ (PySem.F.args_list_iadd_2 _ _)
  show wpAny _ _ (Builtin.List.listExtendWith (.ref a) (.ref b) (.ref a)) _ _ s
  unfold Builtin.List.listExtendWith
  refine wpAny_bind (wpAny_typeOf hT ?_)
  rw [if_pos (by simp)]
  refine wpAny_bind (wpAny_listItems hob hdb (wpAny_bind (wpAny_listItems z.1 rfl ?_)))
  rw [if_neg (by
    have : Builtin.List.listTooLong (its.size + new.size) = false := by
      unfold Builtin.List.listTooLong
      have := sizeLine_eq
      simp only [decide_eq_false_iff_not]; omega
    simp [this])]
  refine wpAny_bind ?_
  show wpAny _ _ (updateSeq a (· ++ new)) _ _ _
  have hz1 : its.size ≤ sizeLine := Nat.le_trans (Nat.le_trans (Nat.le_add_right _ _) hz) (Nat.le_of_ble_eq_true rfl)
  have hz2 : (its ++ new).size ≤ sizeLine := by rw [Array.size_append]; exact Nat.le_trans hz (Nat.le_of_ble_eq_true rfl)
  refine wpAny_updateSeq z.1 rfl (wpAny_pure ⟨_, rfl, ?_⟩) hz1 (Nat.le_succ_of_le hz2)
  have ho : (s.heap.update a (Obj.mapSeq (· ++ new))).get? a = some (listOf (its ++ new) (if (its ++ new).size == its.size then n else n + 1)) := by
    rw [Heap.get?_update_self _ z.1 (by rfl)]
    rfl
  obtain ⟨p, q⟩ := upd_go F N U (Heap.SameBut.update ..) ho
  exact h _ p q
end
end
/- R32 -/
section
open PySem PySem.W PySem.Calls PyProof.Rows PySem.Spec
section
variable {prog : Program} {w : World} {A : Around} {E : Value → Shared → Prop} {s : Shared} {env : Env} {target : Expr} {body orelse : List Stmt} {Q : Flow → Shared → Prop} {g : Heap} {L I l : Addr} {m : Str → Option Value} {news : List (Addr × Obj)} {gf : Obj → List (Addr × Obj)}

theorem next_end_ll {it l : Addr} {i : Nat} {items} {Q : Option Value → Shared → Prop} (hh : A.handled = none)
    (hit : s.heap.IsListIter it l i) (hl : SeqAt s.heap l items) (hx : items[i]? = none)
    (hQ : ∀ h' o', Heap.ExtBut it s.heap h' → h'.get? it = some o' → Q none { s with heap := h' }) : wpAny (model prog w) A (pyNext (.ref it)) Q E s := by
  obtain ⟨o, ho, hc, hd⟩ := id hit
  obtain ⟨ol, nl, hol, hdl⟩ := hl
  unfold pyNext
  refine wpAny_bind (wpAny_attempt (wpAny_callSpecial?_slot (name := Str.ofString "__next__") hit.typeIs slot_listiter_next
    (wpAny_call_entry slot_listiter_next hit.typeIs entry_listiter_next ?_ (args_listiter_next _))))
  show wpAny _ _ (field (.ref it) 0 >>= _) _ _ s
  refine wpAny_bind (wpAny_field ho hd (x := .ref l) rfl ?_)
  show wpAny _ _ (if (Value.ref l == Value.none) = true then _ else _) _ _ s
  rw [if_neg (show ¬ ((Value.ref l == Value.none) = true) from Bool.false_ne_true)]
  show wpAny _ _ (field (.ref it) 1 >>= _) _ _ s
  refine wpAny_bind (wpAny_field ho hd (x := .int i 0) rfl ?_)
  show wpAny _ _ (seqItems? (.ref l) >>= _) _ _ s
  refine wpAny_bind (wpAny_seqItems hol hdl ?_)
  simp only [Int.toNat_natCast, hx]
  refine wpAny_bind (wpAny_rule (wpAny_bind (wpAny_setField ho hd (by simp) ?_)))
  show wpAny _ _ (newExc (.type "StopIteration") [] >>= _) _ _ _
  refine wpAny_bind ?_
  simp only [newExc, newTuple]
  refine wpAny_bind (wpAny_newObj_type ?_ (by size_fits))
  refine wpAny_bind (m := firstArgMember _ _) (wpAny_of_eq (a := Value.none) (by first | rfl | (simp only [firstArgMember]; rfl)) ?_)
  refine wpAny_newObj_type ?_ (by size_fits)
  simp only [raiseNew]
  refine wpAny_bind (wpAny_handled ?_)
  rw [show A.in1.handled = none from hh]
  refine wpAny_bind (wpAny_pure (wpAny_throw ?_))
  refine wpAny_bind (wpAny_isInstance (T := "StopIteration") (b := true) ⟨_, Heap.get?_push_size _ rfl, rfl⟩ isSubtype_stop ?_)
  exact wpAny_pure (hQ _ _ (((Heap.SameBut.update ..).extBut.push _).push _) (Heap.get?_push_of_some _ (Heap.get?_push_of_some _ (Heap.get?_update_self _ ho (Obj.isFreed_of_fields (Obj.data_mapFields hd _))))))

theorem updF_go {oI oI' : Obj} {h' : Heap} (F : Fr g L s.heap m) (N : News g L s.heap news) (U : UpdF I oI news gf) (hs : Heap.ExtBut I s.heap h') (ho : h'.get? I = some oI') : Fr g L h' m ∧ News g L h' (gf oI') := by
  obtain ⟨pre, post, rfl, hg, a, b⟩ := U.split
  have z := N (I, oI) (List.mem_append_right _ (.head _))
  refine ⟨⟨F.ns.extBut hs (Ne.symm z.2.1), fun b o e => hs b o (fun q => by rw [q, z.2.2] at e; cases e) (F.keep b o e), F.above⟩, ?_⟩
  rw [hg]
  intro p hp
  rcases List.mem_append.mp hp with hp | hp
  · exact ⟨hs _ _ (a p hp) (N p (List.mem_append_left _ hp)).1, (N p (List.mem_append_left _ hp)).2⟩
  · rcases List.mem_cons.mp hp with rfl | hp
    · exact ⟨ho, z.2⟩
    · exact ⟨hs _ _ (b p hp) (N p (List.mem_append_right _ (.tail _ hp))).1, (N p (List.mem_append_right _ (.tail _ hp))).2⟩
theorem updF_at {oI : Obj} (N : News g L s.heap news) (U : UpdF I oI news gf) : s.heap.get? I = some oI := by
  obtain ⟨pre, post, rfl, hg, a, b⟩ := U.split
  exact (N (I, oI) (List.mem_append_right _ (.head _))).1

theorem for_list_itemU {oI : Obj} {i : Nat} {items : Array Value} {v : Value} (F : Fr g L s.heap m) (N : News g L s.heap news) (U : UpdF I oI news gf) (hI : LIter oI l i) (hl : s.heap.IsList l items) (hx : items[i]? = some v)
    (h : ∀ h' oI', LIter oI' l (i + 1) → Fr g L h' m → News g L h' (gf oI') → Heap.ExtBut I s.heap h' →
      wpAny (model prog w) A (assign target env v) (fun _ s₂ => wpAny (model prog w) A (execs body env) (LoopB prog w A (.forLoop target (.ref I) body orelse env) Q) NoE s₂) NoE { s with heap := h' }) :
    codeAny (model prog w) A (.forLoop target (.ref I) body orelse env) (LoopR Q) s := by
  refine for_turn ?_
  have hit : s.heap.IsListIter I l i := ⟨_, updF_at N U, hI.1, hI.2⟩
  refine wpAny_pyNext_list_item hit hl hx fun h' hit' hs' => ?_
  obtain ⟨o', e1, e2, e3⟩ := id hit'
  obtain ⟨F', N'⟩ := updF_go F N U hs'.extBut e1
  dsimp only
  exact letOwned_list hit' (h h' o' ⟨e2, e3⟩ F' N' hs'.extBut)

theorem for_list_doneU {oI : Obj} {i : Nat} {items : Array Value} (hh : A.handled = none) (F : Fr g L s.heap m) (N : News g L s.heap news) (U : UpdF I oI news gf) (hI : LIter oI l i) (hl : s.heap.IsList l items) (hx : items[i]? = none)
    (h : ∀ h' o', Fr g L h' m → News g L h' (gf o') → Heap.ExtBut I s.heap h' → wpAny (model prog w) A (execs orelse env) Q NoE { s with heap := h' }) :
    codeAny (model prog w) A (.forLoop target (.ref I) body orelse env) (LoopR Q) s := by
  refine for_turn ?_
  have hit : s.heap.IsListIter I l i := ⟨_, updF_at N U, hI.1, hI.2⟩
  refine next_end_ll hh hit (SeqAt.ofList hl) hx fun h' o' hs ho => ?_
  obtain ⟨F', N'⟩ := updF_go F N U hs ho
  dsimp only
  exact h h' o' F' N' hs
end
end
/- PL1 -/
section
open PySem PySem.W PySem.Calls PyProof.Rows PySem.Spec
/-- the figures, most significant first, as codes -/
theorem digs_lt {n : Nat} (h : n < 10) : digs n = [n + 48] := by
  unfold digs
  rw [Nat.toDigits_of_lt_base h]
  have : ∀ m, m < 10 → (List.map Char.toNat [Nat.digitChar m]) = [m + 48] := by decide
  exact this n h
theorem digs_ge {n : Nat} (h : 10 ≤ n) : digs n = digs (n / 10) ++ [n % 10 + 48] := by
  unfold digs
  rw [Nat.toDigits_of_base_le (by decide) h, List.map_append]
  have : ∀ m, m < 10 → (List.map Char.toNat [Nat.digitChar m]) = [m + 48] := by decide
  rw [this (n % 10) (Nat.mod_lt _ (by decide))]
/-- of two numerals of the same length the order is the numbers' -/
theorem lex_append_single {a b : List Nat} {x y : Nat} (hl : a.length = b.length) : (a ++ [x] < b ++ [y]) ↔ (a < b ∨ (a = b ∧ x < y)) := by
  induction a generalizing b with
  | nil =>
    cases b with
    | nil => simp [List.cons_lt_cons_iff]
    | cons c b => simp at hl
  | cons c a ih =>
    cases b with
    | nil => simp at hl
    | cons d b =>
      simp only [List.cons_append, List.cons_lt_cons_iff, ih (by simpa using hl), List.cons.injEq]
      constructor
      · rintro (h | ⟨rfl, h | ⟨rfl, h⟩⟩)
        · exact .inl (.inl h)
        · exact .inl (.inr ⟨rfl, h⟩)
        · exact .inr ⟨⟨rfl, rfl⟩, h⟩
      · rintro ((h | ⟨rfl, h⟩) | ⟨⟨rfl, rfl⟩, h⟩)
        · exact .inl h
        · exact .inr ⟨rfl, .inl h⟩
        · exact .inr ⟨rfl, .inr ⟨rfl, h⟩⟩
theorem digs_length {n : Nat} (h : 0 < n) : (digs n).length = figs n := by
  unfold digs
  rw [List.length_map, toDigits_length h]
theorem digs_inj {a b : Nat} (ha : 0 < a) (hb : 0 < b) (h : digs a = digs b) : a = b := by
  induction a using Nat.strongRecOn generalizing b with
  | _ a ih =>
    by_cases h1 : a < 10
    · by_cases h2 : b < 10
      · rw [digs_lt h1, digs_lt h2] at h
        simp at h; exact h
      · rw [digs_lt h1, digs_ge (by omega)] at h
        have := congrArg List.length h
        rw [List.length_append, digs_length (by omega)] at this
        have := figs_pos (n := b / 10) (by omega)
        simp at *; omega
    · by_cases h2 : b < 10
      · rw [digs_lt h2, digs_ge (by omega)] at h
        have := congrArg List.length h
        rw [List.length_append, digs_length (by omega)] at this
        have := figs_pos (n := a / 10) (by omega)
        simp at *; omega
      · rw [digs_ge (by omega), digs_ge (n := b) (by omega)] at h
        have q := List.append_inj' h rfl
        have := ih (a / 10) (by omega) (by omega) (by omega) q.1
        have := q.2
        simp at this
        omega
theorem digs_lt_same {a b : Nat} (ha : 0 < a) (hb : 0 < b) (hl : figs a = figs b) : (digs a < digs b) ↔ a < b := by
  induction a using Nat.strongRecOn generalizing b with
  | _ a ih =>
    by_cases h1 : a < 10
    · have e1 : figs a = 1 := by rw [figs_pos ha, show a / 10 = 0 by omega, figs_zero]
      have h2 : b < 10 := by
        rcases Nat.lt_or_ge b 10 with h | h
        · exact h
        · have := figs_pos hb; have := figs_pos (n := b / 10) (by omega); omega
      rw [digs_lt h1, digs_lt h2]
      simp [List.cons_lt_cons_iff]
    · have h2 : 10 ≤ b := by
        rcases Nat.lt_or_ge b 10 with h | h
        · have e2 : figs b = 1 := by rw [figs_pos hb, show b / 10 = 0 by omega, figs_zero]
          have := figs_pos ha; have := figs_pos (n := a / 10) (by omega); omega
        · exact h
      have f1 := figs_pos ha
      have f2 := figs_pos hb
      have hl' : figs (a / 10) = figs (b / 10) := by omega
      rw [digs_ge (by omega), digs_ge h2, lex_append_single (by rw [digs_length (by omega), digs_length (by omega), hl']), ih (a / 10) (by omega) (by omega) (by omega) hl']
      constructor
      · rintro (h | ⟨h, h'⟩)
        · omega
        · have := digs_inj (by omega) (by omega) h
          omega
      · intro h
        by_cases hq : a / 10 < b / 10
        · exact .inl hq
        · have e : a / 10 = b / 10 := by omega
          refine .inr ⟨by rw [e], by omega⟩
theorem lt_prefix {u v r : List Nat} (hl : u.length = v.length) : (u ++ r < v) ↔ u < v := by
  induction u generalizing v with
  | nil =>
    cases v with
    | nil => simp
    | cons c v => simp at hl
  | cons c u ih =>
    cases v with
    | nil => simp at hl
    | cons d v => simp only [List.cons_append, List.cons_lt_cons_iff, ih (by simpa using hl)]
theorem digs_prefix {k n : Nat} (h : 0 < n / 10 ^ k) : ∃ r, digs n = digs (n / 10 ^ k) ++ r ∧ r.length = k := by
  induction k generalizing n with
  | zero => exact ⟨[], by simp, rfl⟩
  | succ k ih =>
    have e : n / 10 ^ (k + 1) = n / 10 / 10 ^ k := by rw [Nat.pow_succ, Nat.mul_comm, Nat.div_div_eq_div_mul]
    rw [e] at h ⊢
    obtain ⟨r, h1, h2⟩ := ih h
    have hn : 10 ≤ n := by
      rcases Nat.lt_or_ge n 10 with q | q
      · rw [Nat.div_eq_of_lt q, Nat.zero_div] at h; omega
      · exact q
    exact ⟨r ++ [n % 10 + 48], by rw [digs_ge hn, h1, List.append_assoc], by simp [h2]⟩
theorem figs_div {k n : Nat} (h : 0 < n / 10 ^ k) : figs (n / 10 ^ k) + k = figs n := by
  obtain ⟨r, h1, h2⟩ := digs_prefix h
  have hn : 0 < n := by
    rcases Nat.eq_zero_or_pos n with q | q
    · rw [q, Nat.zero_div] at h; omega
    · exact q
  have := congrArg List.length h1
  rw [List.length_append, digs_length h, digs_length hn, h2] at this
  exact this.symm
theorem figs_mul {a b : Nat} (ha : 0 < a) (hb : 0 < b) : figs (a * b) ≤ figs a + figs b ∧ figs a + figs b ≤ figs (a * b) + 1 := by
  have a1 := figs_lt_pow a
  have b1 := figs_lt_pow b
  have a2 := pow_le_figs ha
  have b2 := pow_le_figs hb
  have a3 := figs_pos ha
  have b3 := figs_pos hb
  constructor
  · refine figs_le_of_lt ?_
    rw [Nat.pow_add]
    exact Nat.mul_lt_mul'' a1 b1
  · have : 10 ^ ((figs a - 1) + (figs b - 1)) ≤ a * b := by
      rw [Nat.pow_add]
      exact Nat.mul_le_mul a2 b2
    have := lt_figs_of_le this
    omega
theorem order_fell {a b : Nat} (ha : 0 < a) (hb : 0 < b) (h : figs (a * b) = figs a + figs b) : digs (a * b) < digs a := by
  have hp : 0 < a * b := Nat.mul_pos ha hb
  have h1 : 10 ^ (figs b) ≤ a * b := by
    have := pow_le_figs hp
    have a3 := figs_pos ha
    exact Nat.le_trans (Nat.pow_le_pow_right (by decide) (by omega)) this
  have h2 : 0 < a * b / 10 ^ figs b := Nat.div_pos h1 (Nat.pow_pos (by decide))
  have h3 : a * b / 10 ^ figs b < a := by
    refine (Nat.div_lt_iff_lt_mul (Nat.pow_pos (by decide))).mpr ?_
    exact Nat.mul_lt_mul_of_pos_left (figs_lt_pow b) ha
  have h4 := figs_div h2
  obtain ⟨r, e, _⟩ := digs_prefix h2
  rw [e]
  refine (lt_prefix (by rw [digs_length h2, digs_length ha]; omega)).mpr ?_
  exact (digs_lt_same h2 ha (by omega)).mpr h3
theorem order_rose {a b : Nat} (ha : 0 < a) (hb : 0 < b) (h : figs (a * b) + 1 = figs a + figs b) : ¬ digs (a * b) < digs a := by
  have hp : 0 < a * b := Nat.mul_pos ha hb
  have b2 := pow_le_figs hb
  have h1 : a * 10 ^ (figs b - 1) ≤ a * b := Nat.mul_le_mul_left a b2
  have h2' : a ≤ a * b / 10 ^ (figs b - 1) := (Nat.le_div_iff_mul_le (Nat.pow_pos (by decide))).mpr h1
  have h2 : 0 < a * b / 10 ^ (figs b - 1) := by omega
  have h4 := figs_div h2
  have b3 := figs_pos hb
  obtain ⟨r, e, _⟩ := digs_prefix h2
  rw [e]
  intro hlt
  have := (lt_prefix (by rw [digs_length h2, digs_length ha]; omega)).mp hlt
  have := (digs_lt_same h2 ha (by omega)).mp this
  omega
end
/- R33 -/
section
open PySem PySem.W PySem.Calls PyProof.Rows PySem.Spec
theorem reads_bools {h : Heap} {b : Bool} : ∀ n, ReadsAll h (List.replicate n (.bool b)) (List.replicate n (.bool b)) []
  | 0 => .nil
  | n + 1 => by
    have := ReadsAll.cons (Reads.bool (h := h) (b := b)) (reads_bools (h := h) (b := b) n)
    simpa [List.replicate_succ] using this
section
variable {prog : Program} {w : World} {A : Around} {E : Value → Shared → Prop} {s : Shared} {l1 l2 : Addr} {n1 n2 : Nat} {b : Bool}
theorem ne_bools24 {Q : Value → Shared → Prop} (h1 : s.heap.get? l1 = some (listOf (Array.replicate 24 (.bool b)) n1)) (h2 : s.heap.get? l2 = some (listOf #[.bool b, .bool b, .bool b, .bool b, .bool b, .bool b, .bool b, .bool b, .bool b, .bool b, .bool b, .bool b, .bool b, .bool b, .bool b, .bool b, .bool b, .bool b, .bool b, .bool b, .bool b, .bool b, .bool b, .bool b] n2))
    (hu : A.units + 64 < cLine) (h : Q (.bool false) s) : wpAny (model prog w) A (compareOp .NotEq (.ref l1) (.ref l2)) Q E s := by
  have r1 : Reads s.heap (.ref l1) (.list (List.replicate 24 (.bool b))) [l1] := reads_list_at h1 rfl rfl (by simpa using reads_bools 24)
  have r2 : Reads s.heap (.ref l2) (.list (List.replicate 24 (.bool b))) [l2] := reads_list_at h2 rfl rfl (reads_bools (h := s.heap) (b := b) 24)
  refine ne_dataH r1 r2 (by cases b <;> decide +kernel) (by cases b <;> decide +kernel) hu ?_
  have : (PyData.list (List.replicate 24 (.bool b))).eqv (PyData.list (List.replicate 24 (.bool b))) = true := by cases b <;> decide +kernel
  rw [this]
  exact h
end
end
/- R34 -/
section
open PySem PySem.W PySem.Calls PyProof.Rows PySem.Spec
section
variable {s s' : Shared} {g : Heap} {L t : Addr} {m : Str → Option Value} {news n1 n2 n3 n4 n5 : List (Addr × Obj)} {o o' : Obj}
theorem upd_mem (U : Upd t o o' news n1) : ∀ p ∈ n1, p = (t, o') ∨ (p ∈ news ∧ p.1 ≠ t) := by
  obtain ⟨pre, post, rfl, rfl, a, b⟩ := U.split
  intro p hp
  rcases List.mem_append.mp hp with hp | hp
  · exact .inr ⟨List.mem_append_left _ hp, a p hp⟩
  · rcases List.mem_cons.mp hp with rfl | hp
    · exact .inl rfl
    · exact .inr ⟨List.mem_append_right _ (.tail _ hp), b p hp⟩
theorem upd_fst (U : Upd t o o' news n1) : n1.map (·.1) = news.map (·.1) := by
  obtain ⟨pre, post, rfl, rfl, a, b⟩ := U.split
  simp
theorem upd_has (U : Upd t o o' news n1) : t ∈ news.map (·.1) := by
  obtain ⟨pre, post, rfl, rfl, a, b⟩ := U.split
  simp
theorem step5 {a b c d e : Addr} {oa ob oc od oe oa' ob' oc' od' oe' : Obj} (Kp : Kept [a, b, c, d, e] s s') (F : Fr g L s.heap m) (N : News g L s.heap news)
    (U1 : Upd a oa oa' news n1) (U2 : Upd b ob ob' n1 n2) (U3 : Upd c oc oc' n2 n3) (U4 : Upd d od od' n3 n4) (U5 : Upd e oe oe' n4 n5)
    (e1 : s'.heap.get? a = some oa') (e2 : s'.heap.get? b = some ob') (e3 : s'.heap.get? c = some oc') (e4 : s'.heap.get? d = some od') (e5 : s'.heap.get? e = some oe') : Fr g L s'.heap m ∧ News g L s'.heap n5 := by
  have f1 := upd_fst U1
  have f2 := (upd_fst U2).trans f1
  have f3 := (upd_fst U3).trans f2
  have f4 := (upd_fst U4).trans f3
  have h1 := upd_has U1
  have h2 := f1 ▸ upd_has U2
  have h3 := f2 ▸ upd_has U3
  have h4 := f3 ▸ upd_has U4
  have h5 := f4 ▸ upd_has U5
  refine stepU Kp F N ?_ ?_
  · intro t ht
    simp only [List.mem_cons, List.not_mem_nil, or_false] at ht
    rcases ht with rfl | rfl | rfl | rfl | rfl <;> assumption
  · intro q hq
    rcases upd_mem U5 q hq with rfl | ⟨hq, q5⟩
    · exact .inr ⟨e5, h5⟩
    rcases upd_mem U4 q hq with rfl | ⟨hq, q4⟩
    · exact .inr ⟨e4, h4⟩
    rcases upd_mem U3 q hq with rfl | ⟨hq, q3⟩
    · exact .inr ⟨e3, h3⟩
    rcases upd_mem U2 q hq with rfl | ⟨hq, q2⟩
    · exact .inr ⟨e2, h2⟩
    rcases upd_mem U1 q hq with rfl | ⟨hq, q1⟩
    · exact .inr ⟨e1, h1⟩
    exact .inl ⟨hq, by simp only [List.mem_cons, List.not_mem_nil, or_false, not_or]; exact ⟨q1, q2, q3, q4, q5⟩⟩
end
end
/- R35 -/
section
open PySem PySem.W PySem.Calls PyProof.Rows PySem.Spec
theorem ext_cps {a b : Str} (h : a.cps = b.cps) : a = b := by
  cases a; cases b; cases h; rfl
theorem emp_app (x : Str) : (Str.ofString "" ++ x : Str) = x := by
  apply ext_cps
  show (Str.ofString "").cps ++ x.cps = x.cps
  rw [show (Str.ofString "").cps = #[] by decide +kernel]
  simp
theorem app_emp (x : Str) : (x ++ Str.ofString "" : Str) = x := by
  apply ext_cps
  show x.cps ++ (Str.ofString "").cps = x.cps
  rw [show (Str.ofString "").cps = #[] by decide +kernel]
  simp
theorem app_as (x y z : Str) : (x ++ y ++ z : Str) = x ++ (y ++ z) := by
  apply ext_cps
  show x.cps ++ y.cps ++ z.cps = x.cps ++ (y.cps ++ z.cps)
  rw [Array.append_assoc]
theorem join_nil (sep : Str) : Txt.join sep [] = Str.ofString "" := by
  unfold Txt.join
  first | rfl | decide +kernel
theorem join_one (sep x : Str) : Txt.join sep [x] = x := by
  unfold Txt.join
  rfl
theorem join_two (sep x y : Str) : Txt.join sep [x, y] = x ++ sep ++ y := by
  unfold Txt.join
  rfl
theorem ptext_one (f u : Str) : ptext [(f, u)] = f ++ u := by
  unfold ptext
  show Txt.join (Str.ofString "") [Txt.join (Str.ofString "") [f, u]] = _
  rw [join_one, join_two, app_emp]
theorem digs_codes {n : Nat} : ∀ c ∈ digs n, 48 ≤ c ∧ c ≤ 57 := by
  induction n using Nat.strongRecOn with
  | _ n ih =>
    by_cases h : n < 10
    · rw [digs_lt h]
      intro c hc
      simp at hc
      omega
    · rw [digs_ge (by omega)]
      intro c hc
      rcases List.mem_append.mp hc with hc | hc
      · exact ih (n / 10) (by omega) c hc
      · simp at hc; omega
theorem dec_ok (n : Nat) : PyData.strOk (dec n) = true := by
  unfold PyData.strOk
  rw [dec_cps, List.all_toArray]
  rw [List.all_eq_true]
  intro c hc
  have := digs_codes c hc
  simp; omega
theorem blank_ok : PyData.strOk (Str.ofString " ") = true := by decide +kernel
theorem not_space {n : Nat} (h : 0 < n) (f : Str) : Txt.isspace (f ++ dec n) = false := by
  have hne : digs n ≠ [] := fun e => by
    have := digs_length h
    rw [e] at this
    have := figs_pos h
    simp at *; omega
  unfold Txt.isspace
  have : (f ++ dec n : Str).cps.all Unicode.isSpace = false := by
    show (f.cps ++ (dec n).cps).all Unicode.isSpace = false
    rw [dec_cps]
    obtain ⟨c, r, e⟩ := List.exists_cons_of_ne_nil hne
    have hc := digs_codes (n := n) c (by rw [e]; exact .head _)
    have key : ∀ c, 48 ≤ c → c ≤ 57 → Unicode.isSpace c = false := by
      intro c h1 h2
      have q : ∀ i : Fin 10, Unicode.isSpace (48 + i.val) = false := by decide +kernel
      have r := q ⟨c - 48, Nat.sub_lt_left_of_lt_add h1 (Nat.lt_succ_of_le h2)⟩
      rwa [Nat.add_sub_cancel' h1] at r
    rw [e]
    simp [key c hc.1 hc.2]
  rw [this, Bool.and_false]
theorem plen_one (f u : Str) : plen [(f, u)] = (f.length : Int) + u.length := by simp [plen]
end
/- R36 -/
section
open PySem PySem.W PySem.Calls PyProof.Rows PySem.Spec
/-- a call behind which some made objects are forgotten, two tables told anew -/
theorem dropped {s s' : Shared} {g : Heap} {L t1 t2 : Addr} {m : Str → Option Value} {news : List (Addr × Obj)} {ts : List Addr} {o1 o2 : Obj} (Kp : Kept ts s s') (F : Fr g L s.heap m) (N : News g L s.heap news)
    (hts : ∀ t ∈ ts, t ∈ news.map (·.1)) (h1 : t1 ∈ news.map (·.1)) (h2 : t2 ∈ news.map (·.1)) (e1 : s'.heap.get? t1 = some o1) (e2 : s'.heap.get? t2 = some o2)
    (p q r u : Addr × Obj) (hp : p ∈ news) (hq : q ∈ news) (hr : r ∈ news) (hu : u ∈ news) (ip : p.1 ∉ ts) (iq : q.1 ∉ ts) (ir : r.1 ∉ ts) (iu : u.1 ∉ ts) :
    Fr g L s'.heap m ∧ News g L s'.heap [p, q, r, u, (t1, o1), (t2, o2)] := by
  refine ⟨kept_fr Kp F N hts, kept_news Kp F N fun x hx => ?_⟩
  simp only [List.mem_cons, List.not_mem_nil, or_false] at hx
  rcases hx with rfl | rfl | rfl | rfl | rfl | rfl
  · exact .inl ⟨hp, ip⟩
  · exact .inl ⟨hq, iq⟩
  · exact .inl ⟨hr, ir⟩
  · exact .inl ⟨hu, iu⟩
  · exact .inr ⟨e1, .inl h1⟩
  · exact .inr ⟨e2, .inl h2⟩
end
/- R37 -/
section
open PySem PySem.W PySem.Calls PyProof.Rows PySem.Spec
section
variable {α β : Type} {R : α → β → Prop}
theorem two_append {a c : List α} {b d : List β} (x : Paired R a b) (y : Paired R c d) : Paired R (a ++ c) (b ++ d) := by
  induction x with
  | nil => exact y
  | cons h _ ih => exact .cons h ih
theorem two_take {a : List α} {b : List β} (x : Paired R a b) : ∀ k, Paired R (a.take k) (b.take k) := by
  induction x with
  | nil => intro k; simpa using Paired.nil
  | cons h _ ih =>
    intro k
    cases k with
    | zero => exact .nil
    | succ k => exact .cons h (ih k)
theorem two_drop {a : List α} {b : List β} (x : Paired R a b) : ∀ k, Paired R (a.drop k) (b.drop k) := by
  induction x with
  | nil => intro k; simpa using Paired.nil
  | cons h t ih =>
    intro k
    cases k with
    | zero => exact .cons h t
    | succ k => exact ih k
theorem two_get {a : List α} {b : List β} (x : Paired R a b) : ∀ {i : Nat} {v : α} {n : β}, a[i]? = some v → b[i]? = some n → R v n := by
  induction x with
  | nil => intro i v n e; simp at e
  | cons h _ ih =>
    intro i v n e f
    cases i with
    | zero => simp at e f; subst e; subst f; exact h
    | succ i => exact ih (by simpa using e) (by simpa using f)
theorem two_has {a : List α} {b : List β} (x : Paired R a b) {i : Nat} (h : i < b.length) : ∃ v n, a[i]? = some v ∧ b[i]? = some n ∧ R v n := by
  have hl := x.length
  have h1 : i < a.length := by omega
  exact ⟨a[i], b[i], List.getElem?_eq_getElem h1, List.getElem?_eq_getElem h, two_get x (List.getElem?_eq_getElem h1) (List.getElem?_eq_getElem h)⟩
end

/-- tuples and lists alone -/
noncomputable def Tups (tups : List (Addr × Obj)) : Prop := ∀ p ∈ tups, p.2.cls = .type "tuple" ∨ p.2.cls = .type "list"
theorem tups_off {g h : Heap} {L x : Addr} {l tups : List (Addr × Obj)} {o : Obj} (N : News g L h l) (T : Tups tups) (hs : ∀ p ∈ tups, p ∈ l) (hx : h.get? x = some o) (hne : o.cls ≠ .type "tuple" ∧ o.cls ≠ .type "list") : ∀ p ∈ tups, @Ne Nat p.1 x := fun p hp =>
  upd_ne (N p (hs p hp)).1 hx (by rcases T p hp with e | e <;> rw [e]; exact Ne.symm hne.1; exact Ne.symm hne.2)
noncomputable def TupIn (tups : List (Addr × Obj)) (v : Value) (n : Nat) : Prop := ∃ a t u, v = .ref a ∧ (a, tupOf [.str (Str.ofString "") t, .str (dec n) u]) ∈ tups
noncomputable abbrev PartsIn (tups : List (Addr × Obj)) (its : List Value) (ns : List Nat) : Prop := Paired (TupIn tups) its ns
noncomputable abbrev NatsAre (vs : List Value) (ns : List Nat) : Prop := Paired (fun v n => ∃ t, v = .int ((n : Nat) : Int) t) vs ns
theorem parts_more {tups tups' : List (Addr × Obj)} {its : List Value} {ns : List Nat} (x : PartsIn tups its ns) (h : ∀ p ∈ tups, p ∈ tups') : PartsIn tups' its ns :=
  x.mono fun _ _ ⟨a, t, u, e, m⟩ => ⟨a, t, u, e, h _ m⟩
theorem parts_at {h : Heap} {tups : List (Addr × Obj)} (H : ∀ p ∈ tups, h.get? p.1 = some p.2) {its : List Value} {ns : List Nat} (x : PartsIn tups its ns) : Parts h its (ns.map fun n => (Str.ofString "", dec n)) := by
  refine ⟨by rw [x.length, List.length_map], fun i v p e f => ?_⟩
  rw [List.getElem?_map] at f
  obtain ⟨n, hn, rfl⟩ := Option.map_eq_some_iff.mp f
  obtain ⟨a, t, u, rfl, hm⟩ := two_get x e hn
  exact ⟨a, t, u, rfl, H _ hm⟩

noncomputable abbrev pairD (n : Nat) : PyData := .tuple [.str (Str.ofString ""), .str (dec n)]
noncomputable def PairAt (h : Heap) (v : Value) (n : Nat) : Prop := ∃ a o t u k, v = .ref a ∧ h.get? a = some o ∧ o.cls = .type "tuple" ∧ o.data = .seq [.str (Str.ofString "") t, .str (dec n) u].toArray k
theorem pair_reads {h : Heap} {v : Value} {n : Nat} (x : PairAt h v n) : Reads h v (pairD n) [] := by
  obtain ⟨a, o, t, u, k, rfl, ho, hc, hd⟩ := x
  refine Reads.tuple ho hc hd ?_
  exact ReadsAll.cons (as := []) (Reads.str _ _) (ReadsAll.cons (as := []) (Reads.str _ _) .nil)
theorem pairs_read {h : Heap} {its : List Value} {ns : List Nat} (x : Paired (PairAt h) its ns) : ReadsAll h its (ns.map pairD) [] := by
  induction x with
  | nil => exact .nil
  | cons h _ ih => exact ReadsAll.cons (as := []) (pair_reads h) ih
theorem parts_pairs {h : Heap} {tups : List (Addr × Obj)} (H : ∀ p ∈ tups, h.get? p.1 = some p.2) {its : List Value} {ns : List Nat} (x : PartsIn tups its ns) : Paired (PairAt h) its ns :=
  x.mono fun _ _ ⟨a, t, u, e, m⟩ => ⟨a, _, t, u, _, e, H _ m, rfl, rfl⟩
theorem pairs_lay (ns : List Nat) : PyData.canLayAll0 (ns.map pairD) = true := by
  induction ns with
  | nil => rfl
  | cons n ns ih =>
    show (PyData.canLay0 (pairD n) && PyData.canLayAll0 (ns.map pairD)) = true
    rw [ih, Bool.and_true]
    have h0 : PyData.strOk (Str.ofString "") = true := by decide +kernel
    have h1 := dec_ok n
    show PyData.canLay0 (.tuple [.str (Str.ofString ""), .str (dec n)]) = true
    simp [PyData.canLay0, PyData.canLayAll0, h0, h1]
theorem pairs_depth (ns : List Nat) : PyData.depthAll (ns.map pairD) ≤ 2 := by
  induction ns with
  | nil => simp [PyData.depthAll]
  | cons n ns ih =>
    have : PyData.depthAll ((n :: ns).map pairD) = max (PyData.depth (pairD n)) (PyData.depthAll (ns.map pairD)) := by simp [PyData.depthAll]
    rw [this]
    have h2 : PyData.depth (pairD n) ≤ 2 := by simp [PyData.depth, PyData.depthAll]
    omega
theorem pairs_shaped (ns : List Nat) : PySem.SeqAt.shaped (.list (ns.map pairD)) = true := by
  have := pairs_depth ns
  have h2 : PyData.depth (.list (ns.map pairD)) ≤ 64 := by simp only [PyData.depth]; omega
  have h1 : PyData.canLay0 (.list (ns.map pairD)) = true := pairs_lay ns
  unfold PySem.SeqAt.shaped
  rw [h1, decide_eq_true h2]
  rfl
section
variable {prog : Program} {w : World} {A : Around} {E : Value → Shared → Prop} {s : Shared} {l1 l2 : Addr} {n1 n2 : Nat} {i1 i2 : Array Value} {ns : List Nat}
theorem ne_pairs {o1 o2 : Obj} {Q : Value → Shared → Prop} (h1 : s.heap.get? l1 = some o1) (c1 : o1.cls = .type "list") (d1 : o1.data = .seq i1 n1) (h2 : s.heap.get? l2 = some o2) (c2 : o2.cls = .type "list") (d2 : o2.data = .seq i2 n2)
    (x1 : Paired (PairAt s.heap) i1.toList ns) (x2 : Paired (PairAt s.heap) i2.toList ns) (hu : A.units + 64 < cLine) (h : Q (.bool false) s) : wpAny (model prog w) A (compareOp .NotEq (.ref l1) (.ref l2)) Q E s := by
  have r1 : Reads s.heap (.ref l1) (.list (ns.map pairD)) _ := .list h1 c1 d1 (pairs_read x1)
  have r2 : Reads s.heap (.ref l2) (.list (ns.map pairD)) _ := .list h2 c2 d2 (pairs_read x2)
  refine ne_dataH r1 r2 (pairs_shaped ns) (pairs_shaped ns) hu ?_
  rw [PySem.SeqAt.eqv_refl _ (PySem.SeqAt.canLay_of_shaped (pairs_shaped ns))]
  exact h
end
end
/- R38 -/
section
open PySem PySem.W PySem.Calls PyProof.Rows PySem.Spec
theorem pick_from {its : Array Value} {x : Int} {k : Nat} (h : x = (k : Int)) : (slicePick its (some x) none none).toList = its.toList.drop k := by
  subst h
  have e : sliceBounds (some (k : Int)) none none its.size = (((min k its.size : Nat) : Int), ((its.size : Nat) : Int), 1) := by
    simp only [sliceBounds, Option.getD_none, show (1 : Int) > 0 by decide, if_true, if_neg (show ¬ ((k : Int) < 0) by omega)]
    congr 1
    omega
  rw [kmk_pick_nat _ e]
  show (its.toList.drop (min k its.size)).take (its.size - min k its.size) = _
  rw [← Array.length_toList, kmk_drop_min, List.take_of_length_le (by rw [List.length_drop]; omega)]
theorem pick_upto {its : Array Value} {x : Int} {k : Nat} (h : x = (k : Int)) : (slicePick its none (some x) none).toList = its.toList.take k := by
  subst h
  have e : sliceBounds none (some (k : Int)) none its.size = (((0 : Nat) : Int), ((min k its.size : Nat) : Int), 1) := by
    simp only [sliceBounds, Option.getD_none, show (1 : Int) > 0 by decide, if_true, if_neg (show ¬ ((k : Int) < 0) by omega)]
    congr 1
    congr 1
    omega
  rw [kmk_pick_nat _ e]
  show (its.toList.drop 0).take (min k its.size - 0) = _
  rw [List.drop_zero, Nat.sub_zero, ← Array.length_toList, kmk_take_min]
section
variable {prog : Program} {w : World} {A : Around} {E : Value → Shared → Prop} {s : Shared} {env : Env} {target : Expr} {body orelse : List Stmt} {Q : Flow → Shared → Prop} {g : Heap} {L I l : Addr}
/-- a for over a list that lies in the ledger, by an invariant -/
theorem for_list_invN {items : Array Value} {R : Flow → Shared → Prop} (hh : A.handled = none) (J : Nat → (Str → Option Value) → List (Addr × Obj) → Shared → Prop)
    (hJ : ∀ i m news s h', J i m news s → J i m news { s with heap := h' })
    (hl : ∀ i m news s h, J i m news s → News g L h news → h.IsList l items)
    (turn : ∀ i v m news s tk I oI, items[i]? = some v → J i m news s → LIter oI l (i + 1) → Fr g L s.heap m → News g L s.heap ((I, oI) :: news) → (∀ p ∈ news, @Ne Nat p.1 I) →
      wpAny (model prog w) A (assign target env v) (fun _ s₂ => wpAny (model prog w) A (execs body env) (fun f s₃ => match f with
            | .next => Hold (∃ m' news', J (i + 1) m' news' s₃ ∧ Fr g L s₃.heap m' ∧ News g L s₃.heap ((I, oI) :: news') ∧ (∀ p ∈ news', @Ne Nat p.1 I))
            | .cont => Hold (∃ m' news', J (i + 1) m' news' s₃ ∧ Fr g L s₃.heap m' ∧ News g L s₃.heap ((I, oI) :: news') ∧ (∀ p ∈ news', @Ne Nat p.1 I))
            | .brk => R .next s₃
            | .ret v => R (.ret v) s₃) NoE s₂) NoE { s with toks := tk })
    (done : ∀ m news s, J items.size m news s → Fr g L s.heap m → News g L s.heap news → wpAny (model prog w) A (execs orelse env) R NoE s)
    {oI : Obj} {i : Nat} {m : Str → Option Value} {news : List (Addr × Obj)} (hi : i ≤ items.size) (hI : LIter oI l i) (h : J i m news s) (F : Fr g L s.heap m) (N : News g L s.heap ((I, oI) :: news)) (hoff : ∀ p ∈ news, @Ne Nat p.1 I) :
    codeAny (model prog w) A (.forLoop target (.ref I) body orelse env) (LoopR R) s := by
  have key : ∀ k i (s : Shared) oI m news, items.size - i = k → i ≤ items.size → LIter oI l i → J i m news s → Fr g L s.heap m → News g L s.heap ((I, oI) :: news) → (∀ p ∈ news, @Ne Nat p.1 I) →
      codeAny (model prog w) A (.forLoop target (.ref I) body orelse env) (LoopR R) s := by
    intro k
    induction k with
    | zero =>
      intro i s oI m news hk hi hI h F N hoff
      have hin : i = items.size := by omega
      subst hin
      refine for_list_done hh F N hoff hI (hl _ _ _ _ _ h fun p hp => N p (.tail _ hp)) (by simp) fun h' F' N' x => ?_
      exact done m news _ (hJ _ _ _ _ _ h) F' N'
    | succ k ih =>
      intro i s oI m news hk hi hI h F N hoff
      have hlt : i < items.size := by omega
      have hx : items[i]? = some items[i] := Array.getElem?_eq_getElem hlt
      refine for_list_item F N hoff hI (hl _ _ _ _ _ h fun p hp => N p (.tail _ hp)) hx fun h' oI' hI' F' N' x => ?_
      refine wpAny_mono (turn i _ m news { s with heap := h' } _ I oI' hx (hJ _ _ _ _ _ h) hI' F' N' hoff) (fun _ s₂ h₂ => wpAny_mono h₂ (fun f s₃ h₃ => ?_) fun _ _ e => e) fun _ _ e => e
      cases f with
      | next => obtain ⟨m', news', a, b, c, d⟩ := h₃.out; exact ih (i + 1) s₃ oI' m' news' (by omega) hlt hI' a b c d
      | cont => obtain ⟨m', news', a, b, c, d⟩ := h₃.out; exact ih (i + 1) s₃ oI' m' news' (by omega) hlt hI' a b c d
      | brk => exact h₃
      | ret v => exact h₃
  exact key _ i s oI m news rfl hi hI h F N hoff
theorem item_list {value slice : Expr} {its : Array Value} {x : Int} {k : Nat} {u : Tok} {v : Value} {Q : Value → Shared → Prop} (hl : s.heap.IsList l its) (hk : x = (k : Int)) (hb : k < 1000) (hx : its.toList[k]? = some v) (h : Q v s)
    (hs : subscripted slice false (.ref l) (.int x u) = operate [.ref l, .int x u] (getItem (.ref l) (.int x u)) := by with_unfolding_all rfl) :
    wpAny (model prog w) A (subscriptTail value slice (.ref l) (.int x u)) Q E s := by
  subst hk
  have h63 : (k : Int) < 2 ^ 63 := Int.lt_trans (by omega : (k : Int) < 1000) (by decide)
  exact tail_any hl.typeIs slot_list_getitem.lookup (wpAny_getItem_list hl (by omega) h63 (by simpa using hx) h) hs
end
end
/- PL2 -/
section
open PySem PySem.W PySem.Calls PyProof.Rows PySem.Spec
/-- how long the row is after one deed -/
noncomputable def deedLen (n : Nat) (x : Int) : Nat := if x % 3 = 1 then n + 1 else if x % 3 = 2 then n else if 1 < n then n - 1 else n
noncomputable def lenAt (xs : List Int) (i : Nat) : Nat := (xs.take i).foldl deedLen 0
theorem lenAt_zero {xs : List Int} : lenAt xs 0 = 0 := by simp [lenAt]
theorem lenAt_succ {xs : List Int} {i : Nat} {x : Int} (h : xs[i]? = some x) : lenAt xs (i + 1) = deedLen (lenAt xs i) x := by
  unfold lenAt
  rw [List.take_add_one, h, List.foldl_append]
  rfl
theorem deedLen_pos {n : Nat} {x : Int} (h : 0 < n) : 0 < deedLen n x := by
  unfold deedLen; split
  · omega
  · split
    · omega
    · split <;> omega
theorem fold_pos {xs : List Int} {n : Nat} (h : 0 < n) : 0 < xs.foldl deedLen n := by
  induction xs generalizing n with
  | nil => exact h
  | cons x xs ih => exact ih (deedLen_pos h)
theorem deedLen_le {n : Nat} {x : Int} : deedLen n x ≤ n + 1 := by
  unfold deedLen; split
  · omega
  · split
    · omega
    · split <;> omega
theorem fold_le {xs : List Int} {n : Nat} : xs.foldl deedLen n ≤ n + xs.length := by
  induction xs generalizing n with
  | nil => simp
  | cons x xs ih =>
    have := @ih (deedLen n x)
    have := @deedLen_le n x
    simp only [List.foldl_cons, List.length_cons]; omega
noncomputable def lawList (ys : List Int) : List Int := [73, 22, 10] ++ ys ++ List.replicate 9 0
theorem lawList_length {ys : List Int} : (lawList ys).length = ys.length + 12 := by simp [lawList]
theorem lenAt_pos {ys : List Int} {i : Nat} (h : 0 < i) : 0 < lenAt (lawList ys) i := by
  obtain ⟨j, rfl⟩ : ∃ j, i = j + 1 := ⟨i - 1, by omega⟩
  unfold lenAt lawList
  simp only [List.cons_append, List.nil_append, List.append_assoc, List.take_succ_cons, List.foldl_cons]
  exact fold_pos (by decide)
theorem fold_zeros {n k : Nat} (h : 0 < n) : (List.replicate k (0 : Int)).foldl deedLen n = max 1 (n - k) := by
  induction k generalizing n with
  | zero => exact (Nat.max_eq_right h).symm
  | succ k ih =>
    rw [List.replicate_succ, List.foldl_cons]
    have e : deedLen n 0 = if 1 < n then n - 1 else n := by simp [deedLen]
    rw [e]
    split
    · rw [ih (Nat.sub_pos_of_lt ‹_›), Nat.sub_sub, Nat.add_comm 1 k]
    · have : n = 1 := Nat.le_antisymm (Nat.le_of_not_lt ‹_›) h
      subst this
      rw [ih h, Nat.max_eq_left (Nat.sub_le 1 k), Nat.max_eq_left (Nat.sub_le 1 (k + 1))]
theorem lenAt_end {ys : List Int} (h : ys.length ≤ 7) : lenAt (lawList ys) (lawList ys).length = 1 := by
  unfold lenAt
  rw [List.take_length]
  unfold lawList
  rw [List.foldl_append, List.foldl_append]
  have h3 : List.foldl deedLen 0 [73, 22, 10] = 3 := by decide
  rw [h3]
  have h1 : 0 < List.foldl deedLen 3 ys := fold_pos (by decide)
  have h2 := @fold_le ys 3
  rw [fold_zeros h1]
  omega
/-- the sum of the figures, each less one -/
noncomputable def spareOf (ns : List Nat) : Nat := (ns.map fun n => figs n - 1).sum
noncomputable def figsOf (ns : List Nat) : Nat := (ns.map figs).sum
theorem spareOf_append {a b : List Nat} : spareOf (a ++ b) = spareOf a + spareOf b := by simp [spareOf]
theorem figsOf_append {a b : List Nat} : figsOf (a ++ b) = figsOf a + figsOf b := by simp [figsOf]
theorem spareOf_rot {ns : List Nat} {k : Nat} : spareOf (ns.drop k ++ ns.take k) = spareOf ns := by
  rw [spareOf_append, Nat.add_comm, ← spareOf_append, List.take_append_drop]
theorem figsOf_rot {ns : List Nat} {k : Nat} : figsOf (ns.drop k ++ ns.take k) = figsOf ns := by
  rw [figsOf_append, Nat.add_comm, ← figsOf_append, List.take_append_drop]
theorem figs_le_of {ns : List Nat} {n : Nat} (h : n ∈ ns) : figs n ≤ figsOf ns := by
  induction ns with
  | nil => cases h
  | cons a ns ih =>
    simp only [figsOf, List.map_cons, List.sum_cons] at ih ⊢
    rcases List.mem_cons.mp h with rfl | h
    · omega
    · have := ih h; omega
/-- the row with the pair at k turned into its product -/
noncomputable def mulAt (ns : List Nat) (k a b : Nat) : List Nat := ns.take k ++ [a * b] ++ ns.drop (k + 2)
theorem split_at {ns : List Nat} {k a b : Nat} (ha : ns[k]? = some a) (hb : ns[k + 1]? = some b) : ns = ns.take k ++ a :: b :: ns.drop (k + 2) := by
  obtain ⟨h1, e1⟩ := List.getElem?_eq_some_iff.mp ha
  obtain ⟨h2, e2⟩ := List.getElem?_eq_some_iff.mp hb
  conv => lhs; rw [← List.take_append_drop k ns, List.drop_eq_getElem_cons h1, List.drop_eq_getElem_cons h2, e1, e2]
theorem mulAt_length {ns : List Nat} {k a b : Nat} (ha : ns[k]? = some a) (hb : ns[k + 1]? = some b) : (mulAt ns k a b).length = ns.length - 1 := by
  obtain ⟨h2, e2⟩ := List.getElem?_eq_some_iff.mp hb
  simp only [mulAt, List.length_append, List.length_take, List.length_drop, List.length_cons, List.length_nil]
  rw [Nat.min_eq_left (Nat.le_of_lt (Nat.lt_of_succ_lt h2))]
  omega
theorem spareOf_mul {ns : List Nat} {k a b : Nat} {fl : Bool} (ha : ns[k]? = some a) (hb : ns[k + 1]? = some b) (ha0 : 0 < a) (hb0 : 0 < b)
    (h : if fl then figs (a * b) = figs a + figs b else figs (a * b) + 1 = figs a + figs b) : spareOf (mulAt ns k a b) = spareOf ns + (if fl then 1 else 0) := by
  conv => rhs; rw [split_at ha hb]
  have h1 := figs_pos ha0
  have h2 := figs_pos hb0
  have h3 := figs_pos (Nat.mul_pos ha0 hb0)
  simp only [mulAt, spareOf, List.map_append, List.map_cons, List.map_nil, List.sum_append, List.sum_cons, List.sum_nil]
  generalize (List.map (fun n => figs n - 1) (List.take k ns)).sum = P
  generalize (List.map (fun n => figs n - 1) (List.drop (k + 2) ns)).sum = S
  rw [h1, h2] at h
  rw [h1, h2]
  rw [h3] at h ⊢
  clear h1 h2 h3
  simp only [Nat.add_sub_cancel]
  cases fl
  · have h' : figs (a * b / 10) = figs (a / 10) + figs (b / 10) := by simp only [Bool.false_eq_true, if_false] at h; omega
    simp only [h', Bool.false_eq_true, if_false, Nat.add_zero, Nat.add_assoc]
  · have h' : figs (a * b / 10) = figs (a / 10) + figs (b / 10) + 1 := by simp only [if_true] at h; omega
    simp only [h', if_true, Nat.add_zero, Nat.add_assoc]
    omega
theorem figsOf_mul {ns : List Nat} {k a b : Nat} (ha : ns[k]? = some a) (hb : ns[k + 1]? = some b) (ha0 : 0 < a) (hb0 : 0 < b) : figsOf (mulAt ns k a b) ≤ figsOf ns := by
  conv => rhs; rw [split_at ha hb]
  have := figs_mul ha0 hb0
  simp only [mulAt, figsOf, List.map_append, List.map_cons, List.map_nil, List.sum_append, List.sum_cons, List.sum_nil]
  omega
/-- what fell is decided by the figures -/
noncomputable def fellOf (a b : Nat) : Bool := decide (figs (a * b) = figs a + figs b)
theorem fellOf_rel {a b : Nat} (ha : 0 < a) (hb : 0 < b) : if fellOf a b then figs (a * b) = figs a + figs b else figs (a * b) + 1 = figs a + figs b := by
  unfold fellOf
  have := figs_mul ha hb
  split
  · simp_all
  · simp_all; omega
end
/- L1_1k -/
local macro_rules | `(tactic| k_inst) => `(tactic| (refine' inst_news ?N9 ?h19 ?h29; (case N9 => k_asm); (case h19 => k_mem); (case h29 => k_mem)))
local macro_rules | `(tactic| k_all) => `(tactic| assumption)
local macro_rules | `(tactic| walk_at "getMethod ref") => `(tactic| (k_here; k_dflt (first
  | (refine' method_bil (ox := lobj _ _ _ _) ?X9 ?I9 ?g9 ?f9 ?t9 ?l9 ?_; (case X9 => k_in); (case I9 => k_inst); (case f9 => k_is); (case g9 => kernel_rfl); (case t9 => k_is); (case l9 => k_get); k_whole)
  | (refine' method_fnl (ox := lobj _ _ _ _) ?X9 ?I9 ?g9 ?f9 ?t9 ?l9 ?_; (case X9 => k_in); (case I9 => k_inst); (case f9 => k_is); (case g9 => kernel_rfl); (case t9 => k_is); (case l9 => k_get); k_whole))))
local macro_rules | `(tactic| walk_at "call builtin:list.append") => `(tactic| (k_here; (with_reducible show wpAny _ _ (call (Value.builtin _) [Value.ref _, _]) _ _ _); k_dflt (refine' append_lobj ?F9 ?X9 ?N9 ?m9 ?I9 ?U9 ?_ ?z9; (case F9 => k_asm); (case X9 => k_asm); (case N9 => k_asm); (case I9 => k_inst); (case m9 => k_is); (case U9 => k_upd); (case z9 => first | assumption | size_fits); k_whole); intro h' F' N'; (try k_sweep)))
local macro_rules | `(tactic| walk_at "getAttr ref") => `(tactic| (k_here; k_dflt (refine' get_ownl (ox := lobj _ _ _ _) ?X9 ?I9 ?g9 ?m9 ?d9 ?a9 ?n9 ?l9 ?v9 ?_; (case X9 => k_in); (case I9 => k_inst); (case g9 => kernel_rfl); (case m9 => k_is); (case d9 => k_is); (case a9 => k_is); (case n9 => k_is); (case l9 => k_get); (case v9 => k_handed); k_whole)))
local macro_rules | `(tactic| walk_at "setAttr ref") => `(tactic| (k_here; k_dflt (refine' set_l (ox := lobj _ _ _ _) ?F9 ?X9 ?N9 ?I9 ?d9 ?s9 ?p9 ?t9 ?h9 ?l9 ?e9 ?U9 ?z9 ?_; (case F9 => k_asm); (case X9 => k_asm); (case N9 => k_asm); (case I9 => k_inst); (case d9 => exact rfl); (case s9 => k_is); (case p9 => kernel_rfl); (case t9 => k_is); (case h9 => k_is); (case l9 => k_get); (case e9 => k_put); (case U9 => k_upd); (case z9 => exact Nat.le_of_ble_eq_true rfl); k_whole); intro h' F' N'; (try k_sweep)))
local macro_rules | `(tactic| walk_at "wpAt") => `(tactic| (ks_step "attributeBase Call"; k_here; k_dflt (refine sup_node (by k_asm) (by k_asm) (by k_asm) (by k_asm) (by k_is) (by rfl) (by rfl) (by k_inst) (by k_is) (by rfl) (by first | rfl | decide +kernel) (by k_is) (by k_is) (by k_is) (by k_is) (by decide) (by rfl) (by rfl) (by rfl) (by rfl) (by decide +kernel) (by first | boot_by_name | rfl | kernel_rfl) ?_; intro so' h' F' N' l1; (try k_lt l1))))
local macro_rules | `(tactic| walk_at "getMethod ref") => `(tactic| (k_here; k_dflt (first
  | (refine' sup_pop ?F9 ?X9 ?N9 ?so9 ?I9 ?no9 ?c9 ?l9 ?m9 ?_; (case F9 => k_asm); (case X9 => k_asm); (case N9 => k_asm); (case so9 => k_mem); (case I9 => k_inst); (case no9 => k_is); (case c9 => k_is); (case l9 => rfl); (case m9 => k_is); k_whole)
  | (refine' sup_len ?F9 ?X9 ?N9 ?so9 ?I9 ?no9 ?c9 ?l9 ?m9 ?_; (case F9 => k_asm); (case X9 => k_asm); (case N9 => k_asm); (case so9 => k_mem); (case I9 => k_inst); (case no9 => k_is); (case c9 => k_is); (case l9 => rfl); (case m9 => k_is); k_whole)
  | (refine' sup_init ?F9 ?X9 ?N9 ?so9 ?I9 ?no9 ?c9 ?l9 ?m9 ?_; (case F9 => k_asm); (case X9 => k_asm); (case N9 => k_asm); (case so9 => k_mem); (case I9 => k_inst); (case no9 => k_is); (case c9 => k_is); (case l9 => rfl); (case m9 => k_is); k_whole)); intro q' h' F' N' l1; (try k_lt l1); (try k_sweep)))
local macro_rules | `(tactic| walk_at "callWith ref") => `(tactic| (k_here; k_dflt (first
  | (refine' callWith_bound (.inl rfl) ?q9 ?_; (case q9 => exact (News.get (by k_asm) (by k_mem))); k_whole)
  | (refine' callWith_bound (.inr rfl) ?q9 ?_; (case q9 => exact (News.get (by k_asm) (by k_mem))); k_whole))))
local macro_rules | `(tactic| walk_at "call ref") => `(tactic| (k_here; k_dflt (first
  | (refine' init_bound ?F9 ?N9 ?I9 ?q9 ?U9 ?_; (case F9 => k_asm); (case N9 => k_asm); (case q9 => k_mem); (case I9 => k_inst); (case U9 => k_upd); k_whole; intro h' F' N'; (try k_sweep))
  | (refine' len_bound ?N9 ?I9 ?q9 ?_; (case N9 => k_asm); (case q9 => k_mem); (case I9 => k_inst); k_whole)
  | (refine' pop_bound ?F9 ?X9 ?N9 ?I9 ?c9 ?cn9 ?t9 ?mo9 ?q9 ?v9 ?z9 ?U9 ?_; (case F9 => k_asm); (case X9 => k_asm); (case N9 => k_asm); (case q9 => k_mem); (case I9 => k_inst); (case c9 => k_is); (case cn9 => rfl); (case t9 => k_is); (case mo9 => k_is); (case v9 => assumption); (case z9 => assumption); (case U9 => k_upd); k_whole; intro h' F' N'; (try k_sweep)))))
local macro_rules | `(tactic| walk_at "wpAt") => `(tactic| ((try dsimp only); ks_step "execs cons"; k_dflt (refine ks_wpAt_execs_cons ?_)))
local macro_rules | `(tactic| walk_at "wpAt") => `(tactic| ((try dsimp only); ks_step "exec Expr"; k_dflt (refine ks_wpAt_Expr_any ?_)))
local macro_rules | `(tactic| walk_at "wpAt") => `(tactic| ((try dsimp only); ks_step "exec Return"; k_dflt (refine ks_wpAt_Return_some ?_)))
local macro_rules | `(tactic| walk_at "wpAt") => `(tactic| ((try dsimp only); ks_step "exec If"; k_dflt (refine ks_wpAt_If ?_)))
local macro_rules | `(tactic| walk_at "wpAt") => `(tactic| ((try dsimp only); ks_step "eval Call"; k_dflt (refine ks_wpAt_MethodCall ?_)))
local macro_rules | `(tactic| k_inst) => `(tactic| first | (refine' inst_base ?F9 ?I9; (case F9 => k_asm); (case I9 => assumption)) | fail "inst_base")
local macro_rules | `(tactic| walk_at "eval Name") => `(tactic| (k_here; (with_reducible show wpAny _ _ (eval (Expr.Name _ _) (genEnv _ _ _ _ _ _)) _ _ _); k_dflt (first
  | (refine nameG_L (by k_asm) (by assumption) ?_ (by rfl) (by rfl) (by decide))
  | (refine nameG_B (by k_asm) (by k_asm) (by k_asm) (by k_is) (by first | boot_by_name | rfl | kernel_rfl) (by decide) ?_ (by rfl) (by rfl) (by rfl) (by decide))
  | (refine nameG_K (by k_asm) (by k_asm) (by k_asm) (by k_is) ?_ (by rfl) (by rfl) (by rfl) (by decide)))))
theorem all_nil {α : Type} {P : α → Prop} : ∀ q ∈ ([] : List α), P q := fun _ h => nomatch h
theorem all_cons {α : Type} {P : α → Prop} {a : α} {l : List α} (h : P a) (t : ∀ q ∈ l, P q) : ∀ q ∈ a :: l, P q := fun q m => by
  rcases List.mem_cons.mp m with rfl | m
  · exact h
  · exact t q m
theorem dep_lt {A : Around} {e : Env} {n : Nat} (h : A.depth < n) : (A.deeper e).depth < n + 1 := Nat.succ_lt_succ h
theorem dep_in {A : Around} {n : Nat} (h : A.depth < n) : A.in1.depth < n := h
theorem uni_lt {A : Around} {e : Env} {n : Nat} (h : A.units < n) : (A.deeper e).units < n + 3 := Nat.add_lt_add_right h 3
theorem uni_in {A : Around} {n : Nat} (h : A.units < n) : A.in1.units < n + 1 := Nat.add_lt_add_right h 1
theorem ne_of_nat {a b : Nat} (h : a ≠ b) : @Ne Addr a b := h
theorem ne_all {d a : Nat} {o : Obj} {T : List (Addr × Obj)} (h : AllLt d T) (m : ((a : Addr), o) ∈ T) : a ≠ d := by
  induction T with
  | nil => nomatch m
  | cons p T ih =>
    rcases List.mem_cons.mp m with rfl | m
    · exact Nat.ne_of_lt h.1
    · exact ih h.2 m
local macro_rules | `(tactic| k_lt $h) => `(tactic| (replace $h := allLt_of $h; have lt9 := $h; dsimp only [AllLt] at $h:ident))
local macro_rules | `(tactic| k_ne) => `(tactic| first | (refine ne_of_nat ?_; (try dsimp only); first | assumption | (apply Ne.symm; assumption) | exact ne_all (by assumption) (by k_mem) | exact Ne.symm (ne_all (by assumption) (by k_mem))) | fail "k_ne")
/- P1_1k -/
section
open PySem PySem.W PySem.Calls PyProof.Rows
noncomputable abbrev accD (P : Params) (isz : Int) (t u : Tok) : Obj := dictOf [⟨PyData.keyHash P "_initial_size", .str "_initial_size" t, .int isz u⟩] 1

theorem push_core {prog : Program} {w : World} {A : Around} {R : Result → Shared → Prop} {s : Shared} {H₀ : Heap} {p : Program} {loose : List Str} {mg mb : Str → Option Value} 
    {x d : Addr} {items : Array Value} {n : Nat} {isz : Int} {t1 t2 : Tok} {a b : Str} {t u : Tok}
    (HS : Sub H₀ s.heap) (X : (heapK w.params).In H₀) (TR : TopRead p loose mg mb H₀) (hdp : A.depth < 500)
    (hx : s.heap.get? x = some (lobj 185 d items n)) (hdx : s.heap.get? d = some (accD w.params isz t1 t2)) (hx0 : H₀.get? x = none) (hd0 : H₀.get? d = none) (hsz : items.size ≤ sizeLine)
    (hQ : ∀ s' tp, Kept [x] s s' → s.heap.get? tp = none → s'.heap.get? tp = some (tupOf [.str a t, .str b u]) → s'.heap.get? x = some (lobj 185 d (items.push (.ref tp)) (n + 1)) → R (.ok (.ret .none)) s') :
    codeAny (model prog w) A (.call (.ref 129) ⟨[.ref x, .str a t, .str b u], []⟩) R s := by
  have : PySem.Challenge.rw_yh0022_01.prog = PySem.Challenge.rw_yh0022_01.prog ∧ heapK = heapK := by k_fill; exact ⟨rfl, rfl⟩
  clear this
  have hne : @Ne Nat x d := upd_ne hx hdx (by simp)
  have hT : ∀ q ∈ [(x, lobj 185 d items n), (d, accD w.params isz t1 t2)], s.heap.get? q.1 = some q.2 := (all_cons hx (all_cons hdx all_nil))
  refine enter _ hT HS (all_cons hx0 (all_cons hd0 all_nil)) X TR (by k_is) (by k_is) (Nat.lt_of_lt_of_le hdp (Nat.le_of_ble_eq_true rfl)) (BindsTo.of_eq (binds := [("self", .ref x), ("fws", .str a t), ("string", .str b u)]) rfl) (locs rfl) (by decide) rfl rfl rfl ?_
  intro g L' h₁ F N XG TG HG hkeep hk₁ hL
  (try dsimp only)
  (try k_fold)
  k_steps
  (with_reducible rename News _ _ _ _ => N9); (with_reducible rename Fr _ _ _ _ => F9)
  refine hQ _ _ ?_ ?_ (N9 _ (.head _)).1 (N9 _ (.tail _ (.head _))).1
  · exact kept_of hkeep F9 hL.symm N9 hT (by (repeat (refine all_cons (fun h9 => by first | k_mem | exact absurd (by k_mem) h9) ?_)); exact all_nil) rfl rfl id
  · exact fresh_of hkeep N9 (.head _) (by k_all)
theorem push_c {prog : Program} {w : World} {A : Around} {E : Value → Shared → Prop} {s : Shared} {H₀ : Heap} {p : Program} {loose : List Str} {mg mb : Str → Option Value} {Q : Value → Shared → Prop}
    {x d : Addr} {items : Array Value} {n : Nat} {isz : Int} {t1 t2 : Tok} {a b : Str} {t u : Tok}
    (HS : Sub H₀ s.heap) (X : (heapK w.params).In H₀) (TR : TopRead p loose mg mb H₀) (hdp : A.depth < 500)
    (hx : s.heap.get? x = some (lobj 185 d items n)) (hdx : s.heap.get? d = some (accD w.params isz t1 t2)) (hx0 : H₀.get? x = none) (hd0 : H₀.get? d = none) (hsz : items.size ≤ sizeLine)
    (hQ : ∀ s' tp, Kept [x] s s' → s.heap.get? tp = none → s'.heap.get? tp = some (tupOf [.str a t, .str b u]) → s'.heap.get? x = some (lobj 185 d (items.push (.ref tp)) (n + 1)) → Q .none s') :
    wpAny (model prog w) A (call (.ref 129) [.ref x, .str a t, .str b u]) Q E s :=
  wpAny_call (push_core HS X TR hdp hx hdx hx0 hd0 hsz hQ)
end
/- P2_1k -/
section
open PySem PySem.W PySem.Calls PyProof.Rows
theorem init_c {prog : Program} {w : World} {A : Around} {R : Result → Shared → Prop} {s : Shared} {H₀ : Heap} {p : Program} {loose : List Str} {mg mb : Str → Option Value}
    {x d : Addr} {isz : Int} {u : Tok} {args : List Value}
    (hprog : prog = PySem.Challenge.pw_yh0022_01)
    (HS : Sub H₀ s.heap) (X : (heapK w.params).In H₀) (TR : TopRead p loose mg mb H₀) (hdp : A.depth < 500)
    (hx : s.heap.get? x = some (lobj 185 d #[] 0)) (hdx : s.heap.get? d = some emptyDict) (hx0 : H₀.get? x = none) (hd0 : H₀.get? d = none)
    (hargs : args = [.int isz u] ∨ (args = [] ∧ isz = 0))
    (hQ : ∀ s' t1 t2, Kept [x, d] s s' → s'.heap.get? x = some (lobj 185 d #[] 0) → s'.heap.get? d = some (accD w.params isz t1 t2) → R (.ok (.ret .none)) s') :
    codeAny (model prog w) A (.call (.ref 122) ⟨.ref x :: args, []⟩) R s := by
  have : PySem.Challenge.rw_yh0022_01.prog = PySem.Challenge.rw_yh0022_01.prog ∧ heapK = heapK := by k_fill; exact ⟨rfl, rfl⟩
  clear this
  subst hprog
  have hne : @Ne Nat x d := upd_ne hx hdx (by simp)
  have hT : ∀ q ∈ [(x, lobj 185 d #[] 0), (d, emptyDict)], s.heap.get? q.1 = some q.2 := (all_cons hx (all_cons hdx all_nil))
  rcases hargs with rfl | ⟨rfl, rfl⟩
  · refine enterS _ hT HS (all_cons hx0 (all_cons hd0 all_nil)) X TR (by k_is) (by k_is) (Nat.lt_of_lt_of_le hdp (Nat.le_of_ble_eq_true rfl)) (binds_K (binds := [("self", .ref x), ("initial_size", .int isz u)]) (by exact X.keeps HS) rfl (by k_is) rfl rfl rfl) (locs rfl) (by decide) rfl rfl rfl ?_
    intro g L' h₁ F N XG TG HG hkeep hk₁ hL
    (try dsimp only)
    k_steps
    (with_reducible rename News _ _ _ _ => N9); (with_reducible rename Fr _ _ _ _ => F9)
    refine hQ _ _ _ ?_ (And.left (N9 (x, _) (by k_mem))) (And.left (N9 (d, _) (by k_mem)))
    exact kept_of hkeep F9 hL.symm N9 hT (by (repeat (refine all_cons (fun h9 => by first | k_mem | exact absurd (by k_mem) h9) ?_)); exact all_nil) rfl rfl id
  · refine enterS _ hT HS (all_cons hx0 (all_cons hd0 all_nil)) X TR (by k_is) (by k_is) (Nat.lt_of_lt_of_le hdp (Nat.le_of_ble_eq_true rfl)) (binds_K (binds := [("self", .ref x), ("initial_size", .int 0 333)]) (by exact X.keeps HS) rfl (by k_is) rfl rfl rfl) (locs rfl) (by decide) rfl rfl rfl ?_
    intro g L' h₁ F N XG TG HG hkeep hk₁ hL
    (try dsimp only)
    k_steps
    (with_reducible rename News _ _ _ _ => N9); (with_reducible rename Fr _ _ _ _ => F9)
    refine hQ _ _ _ ?_ (And.left (N9 (x, _) (by k_mem))) (And.left (N9 (d, _) (by k_mem)))
    exact kept_of hkeep F9 hL.symm N9 hT (by (repeat (refine all_cons (fun h9 => by first | k_mem | exact absurd (by k_mem) h9) ?_)); exact all_nil) rfl rfl id
theorem acc_make {prog : Program} {w : World} {A : Around} {E : Value → Shared → Prop} {s : Shared} {H₀ : Heap} {p : Program} {loose : List Str} {mg mb : Str → Option Value} {Q : Value → Shared → Prop}
    {isz : Int} {u : Tok} {args : List Value}
    (hprog : prog = PySem.Challenge.pw_yh0022_01)
    (HS : Sub H₀ s.heap) (X : (heapK w.params).In H₀) (TR : TopRead p loose mg mb H₀) (hdp : A.depth < 498) (hsz : H₀.objs.size ≤ s.heap.objs.size)
    (hargs : args = [.int isz u] ∨ (args = [] ∧ isz = 0))
    (hQ : ∀ s' x d t1 t2, Kept [] s s' → s.heap.get? x = none → s.heap.get? d = none → s'.heap.get? x = some (lobj 185 d #[] 0) → s'.heap.get? d = some (accD w.params isz t1 t2) → Q (.ref x) s') :
    wpAny (model prog w) A (call (.ref 185) args) Q E s := by
  have : PySem.Challenge.rw_yh0022_01.prog = PySem.Challenge.rw_yh0022_01.prog ∧ heapK = heapK := by k_fill; exact ⟨rfl, rfl⟩
  clear this
  have X' := X.keeps HS
  obtain ⟨hh, g, d, t, os⟩ := s
  refine wpAny_call ?_
  have he : (emptyDict).isFreed = false := rfl
  have hl : (lobj 185 hh.objs.size #[] 0).isFreed = false := rfl
  have hd : ((hh.push emptyDict).push (lobj 185 hh.objs.size #[] 0)).get? hh.objs.size = some emptyDict := Heap.get?_push_of_some _ (Heap.get?_push_size _ he)
  have hx : ((hh.push emptyDict).push (lobj 185 hh.objs.size #[] 0)).get? (hh.objs.size + 1) = some (lobj 185 hh.objs.size #[] 0) := Heap.get?_push_at (by rw [Heap.size_push]) hl
  have up : Sub hh ((hh.push emptyDict).push (lobj 185 hh.objs.size #[] 0)) := fun b o e => Heap.get?_push_of_some _ (Heap.get?_push_of_some _ e)
  have no : ∀ h : Heap, ∀ b, h.objs.size ≤ b → h.get? b = none := fun h b e => by
    cases q : h.get? b with
    | none => rfl
    | some o => exact absurd (Heap.lt_size q) (Nat.not_lt.mpr e)
  have sz : H₀.objs.size ≤ hh.objs.size := hsz
  refine lobj_make_core (makesL_of X' (C := 185) (by kernel_rfl)) (looks_findIn X' (by k_is)) (fun self => bind_fn X' self (by k_is)) ?_
  have wt : (Code.builtin "type.__call__" { pos := Value.ref 185 :: args }).weight ≤ 1 := Nat.le_of_ble_eq_true rfl
  refine init_c (isz := isz) (u := u) (x := hh.objs.size + 1) (d := hh.objs.size) (args := args) (H₀ := H₀) hprog (fun b o e => up b o (HS b o e)) X TR (by simp only [Around.under]; omega) hx hd (no _ _ (by omega)) (no _ _ (by omega)) hargs ?_
  intro s' t1 t2 KP h1 h2
  refine ⟨rfl, hQ s' _ _ t1 t2 ⟨fun b o _ e => ?_, ?_, KP.os, KP.drawn, KP.gens⟩ (no _ _ (by dsimp only; omega)) (no _ _ (Nat.le_refl _)) h1 h2⟩
  · refine KP.keep b o ?_ (up b o e)
    have this : @LT.lt Nat _ b hh.objs.size := Heap.lt_size e
    simp only [List.mem_cons, List.not_mem_nil, or_false, not_or]
    exact ⟨by change @Ne Nat _ _; omega, by change @Ne Nat _ _; omega⟩
  · have := KP.size
    simp only [Heap.size_push] at this
    dsimp only
    omega
end
/- P3_1k -/
section
open PySem PySem.W PySem.Calls PyProof.Rows

theorem len_c {prog : Program} {w : World} {A : Around} {E : Value → Shared → Prop} {s : Shared} {H₀ : Heap} {p : Program} {loose : List Str} {mg mb : Str → Option Value} {Q : Value → Shared → Prop} {bm : Addr} {ob : Obj} {ps : Array Value}
    {x d : Addr} {items : Array Value} {parts : List (Str × Str)} {n : Nat} {isz : Int} {t1 t2 : Tok}
    (HS : Sub H₀ s.heap) (X : (heapK w.params).In H₀) (TR : TopRead p loose mg mb H₀) (B : BMod H₀ mainGlobals mg bm ob) (hdp : A.depth < 500) (hun : A.units < 2000) (hh : A.handled = none) (G : AllBare s.gens)
    (hP : s.heap.get? 147 = some (tabObj ps)) (hP0 : H₀.get? 147 = none) (ht : TriplesOk ps.toList)
    (hx : s.heap.get? x = some (lobj 185 d items n)) (hdx : s.heap.get? d = some (accD w.params isz t1 t2)) (hpt : Parts s.heap items.toList parts) (hsm : ∀ p ∈ parts, p.1.length ≤ 100000 ∧ p.2.length ≤ 100000)
    (hQ : ∀ s' t ps', Kept [147] s s' → s'.heap.get? 147 = some (tabObj ps') → TriplesOk ps'.toList → Q (.int (isz + plen parts) t) s') :
    wpAny (model prog w) A (call (.ref 152) [.ref x]) Q E s := by
  have : PySem.Challenge.rw_yh0022_01.prog = PySem.Challenge.rw_yh0022_01.prog ∧ heapK = heapK := by k_fill; exact ⟨rfl, rfl⟩
  clear this
  have hne : @Ne Nat x 147 := upd_ne hx hP (by simp)
  have hnd : @Ne Nat d 147 := upd_ne hdx hP (by simp)
  have hT : ∀ q ∈ [((147 : Addr), tabObj ps)], s.heap.get? q.1 = some q.2 := (all_cons hP all_nil)
  refine wpAny_call ?_
  refine enter _ hT HS (all_cons hP0 all_nil) X TR (by k_is) (by k_is) (Nat.lt_of_lt_of_le hdp (Nat.le_of_ble_eq_true rfl)) (BindsTo.of_eq (binds := [("self", .ref x)]) rfl) (locs rfl) (by decide) rfl rfl rfl ?_
  intro g L' h₁ F N XG TG HG hkeep hk₁ hL
  have gx : InstAt g x (lobj 185 d items n) 185 (some (accD w.params isz t1 t2)) := ⟨hkeep _ _ (by simpa using hne) hx, rfl, rfl, hkeep _ _ (by simpa using hnd) hdx⟩
  have gp : Parts g items.toList parts := hpt.keeps fun b o e hc => hkeep b o (by
    simp only [List.map_cons, List.map_nil, List.mem_cons, List.not_mem_nil, or_false]
    intro q; subst q; rw [hP] at e; cases e; cases hc) e
  dsimp only
  (try k_fold)
  k_steps
  have BG := B.keeps HG
  refine genT_l (x := x) (C := 185) (parts := parts) (dt := fun p => .int ((p.1.length : Int) + p.2.length)) F N (.head (fun _ h => nomatch h)) (codeHd_of_K (c := 151) XG (by kernel_rfl)) ht rfl BG G TG.nolimit hh rfl rfl (by decide) rfl rfl rfl (by decide) rfl (by simp only [depth_deeper, recursionLimit]; omega) ?_ XG gx (by k_is) (by k_is) gp ?_ (fun _ => rfl) ?_
  · k_steps
  · intro cv D A' E' p ta tb t m₂ hA hD hU hp F' ha hb
    clear F N
    (try dsimp only)
    have hb1 := hsm p hp
    k_steps
    · exact .int _ _
    · exact ⟨_, _, rfl, fun _ _ e => e⟩
  · intro ps' a s₅ Kb ht' F₅ N₅ G₅ os₅ dr₅ sz₅ hKb hLK GN
    clear F N
    k_steps
    refine sum_start_gen F₅ G₅ (genD_keeps GN _ _ (Nat.le_succ _) (fun _ _ e => e) (Nat.le_refl _)) hLK ?_
    intro s' t' F' G' os' dr' kp
    rw [List.filter_eq_self.mpr (by simp)]
    have N' : News g L' s'.heap [(147, tabObj ps')] := fun q hq => ⟨kp _ _ (by
      have e := Heap.lt_size (hT _ (.head _))
      simp only [List.mem_cons, List.not_mem_nil, or_false] at hq
      subst hq
      have e2 : @LT.lt Nat _ (147) L' := hL ▸ e
      have e3 : @LE.le Nat _ L' Kb := hLK
      show @LE.le Nat _ (147) Kb
      omega) (N₅ q hq).1, (N₅ q hq).2⟩
    refine hQ s' t' ps' ?_ (N' _ (.head _)).1 ht'
    exact kept_of hkeep F' hL.symm N' hT (by (repeat (refine all_cons (fun h9 => by first | k_mem | exact absurd (by k_mem) h9) ?_)); exact all_nil) (os'.trans os₅) (dr'.trans dr₅) (fun _ => G')

theorem parts_join_le {parts : List (Str × Str)} (hsm : ∀ p ∈ parts, p.1.length ≤ 1000 ∧ p.2.length ≤ 1000) (hln : parts.length ≤ 1000) :
    ((parts.map fun p => Txt.join "" [p.1, p.2]).map (·.length)).sum + (parts.map fun p => Txt.join "" [p.1, p.2]).length * ("" : Str).length ≤ 16777216 := by
  have e0 : ("" : Str).length = 0 := rfl
  rw [e0, Nat.mul_zero, Nat.add_zero]
  have h : ∀ l : List (Str × Str), (∀ p ∈ l, p.1.length ≤ 1000 ∧ p.2.length ≤ 1000) → ((l.map fun p => Txt.join "" [p.1, p.2]).map (·.length)).sum ≤ l.length * 2000 := by
    intro l
    induction l with
    | nil => intro _; exact Nat.le_refl _
    | cons q r ih =>
      intro hl
      have h1 := hl q (.head _)
      have h2 := ih fun p hp => hl p (.tail _ hp)
      have h3 : (Txt.join "" [q.1, q.2]).length ≤ _ := StrLaws.join_length_le "" [q.1, q.2]
      simp only [List.map_cons, List.map_nil, List.sum_cons, List.sum_nil, List.length_cons, List.length_nil, e0] at h3 ⊢
      omega
  have := h parts hsm
  omega

theorem str_c {prog : Program} {w : World} {A : Around} {E : Value → Shared → Prop} {s : Shared} {H₀ : Heap} {p : Program} {loose : List Str} {mg mb : Str → Option Value} {Q : Value → Shared → Prop} {bm : Addr} {ob : Obj} {ps : Array Value}
    {x d : Addr} {items : Array Value} {parts : List (Str × Str)} {n : Nat} {isz : Int} {t1 t2 : Tok}
    (HS : Sub H₀ s.heap) (X : (heapK w.params).In H₀) (TR : TopRead p loose mg mb H₀) (B : BMod H₀ mainGlobals mg bm ob) (hdp : A.depth < 500) (hun : A.units < 2000) (hh : A.handled = none) (G : AllBare s.gens)
    (hP : s.heap.get? 154 = some (tabObj ps)) (hP0 : H₀.get? 154 = none) (ht : TriplesOk ps.toList)
    (hx : s.heap.get? x = some (lobj 185 d items n)) (hdx : s.heap.get? d = some (accD w.params isz t1 t2)) (hpt : Parts s.heap items.toList parts) (hsm : ∀ p ∈ parts, p.1.length ≤ 1000 ∧ p.2.length ≤ 1000) (hln : parts.length ≤ 1000)
    (hQ : ∀ s' t ps', Kept [154] s s' → s'.heap.get? 154 = some (tabObj ps') → TriplesOk ps'.toList → Q (.str (ptext parts) t) s') :
    wpAny (model prog w) A (call (.ref 159) [.ref x]) Q E s := by
  have : PySem.Challenge.rw_yh0022_01.prog = PySem.Challenge.rw_yh0022_01.prog ∧ heapK = heapK := by k_fill; exact ⟨rfl, rfl⟩
  clear this
  have hne : @Ne Nat x 154 := upd_ne hx hP (by simp)
  have hnd : @Ne Nat d 154 := upd_ne hdx hP (by simp)
  have hT : ∀ q ∈ [((154 : Addr), tabObj ps)], s.heap.get? q.1 = some q.2 := (all_cons hP all_nil)
  refine wpAny_call ?_
  refine enter _ hT HS (all_cons hP0 all_nil) X TR (by k_is) (by k_is) (Nat.lt_of_lt_of_le hdp (Nat.le_of_ble_eq_true rfl)) (BindsTo.of_eq (binds := [("self", .ref x)]) rfl) (locs rfl) (by decide) rfl rfl rfl ?_
  intro g L' h₁ F N XG TG HG hkeep hk₁ hL
  have gx : InstAt g x (lobj 185 d items n) 185 (some (accD w.params isz t1 t2)) := ⟨hkeep _ _ (by simpa using hne) hx, rfl, rfl, hkeep _ _ (by simpa using hnd) hdx⟩
  have gp : Parts g items.toList parts := hpt.keeps fun b o e hc => hkeep b o (by
    simp only [List.map_cons, List.map_nil, List.mem_cons, List.not_mem_nil, or_false]
    intro q; subst q; rw [hP] at e; cases e; cases hc) e
  dsimp only
  (try k_fold)
  k_steps
  have BG := B.keeps HG
  refine genT_l (x := x) (C := 185) (parts := parts) (dt := fun p => .str (Txt.join "" [p.1, p.2])) F N (.head (fun _ h => nomatch h)) (codeHd_of_K (c := 158) XG (by kernel_rfl)) ht rfl BG G TG.nolimit hh rfl rfl (by decide) rfl rfl rfl (by decide) rfl (by simp only [depth_deeper, recursionLimit]; omega) ?_ XG gx (by k_is) (by k_is) gp ?_ (fun _ => rfl) ?_
  · k_steps
  · intro cv D A' E' p ta tb t m₂ hA hD hU hp F' ha hb
    clear F N
    (try dsimp only)
    have hb1 := hsm p hp
    k_steps
    refine wpAny_newTuple ?_ (show 2 ≤ sizeLine from Nat.le_of_ble_eq_true rfl)
    k_steps
    refine join_tupleW (ys := [p.1, p.2]) ⟨_, Heap.get?_push_size _ rfl, rfl, _, rfl⟩ (.cons _ _ (.cons _ _ .nil)) (by decide +kernel) (by simp only [List.map_cons, List.map_nil, List.sum_cons, List.sum_nil, List.length_cons, List.length_nil]; omega) ?_
    intro t' k
    exact ⟨.str _ _, _, _, rfl, fun _ _ e => Heap.get?_push_of_some _ e⟩
  · intro ps' a s₅ Kb ht' F₅ N₅ G₅ os₅ dr₅ sz₅ hKb hLK GN
    clear F N
    k_steps
    refine join_gen_d F₅ G₅ GN hLK ?_ ?_ ?_
    · rw [List.filter_eq_self.mpr (by simp)]; exact joinOk_of (parts_join_le hsm hln)
    · intro s' t' F' G' os' dr' kp
      rw [List.filter_eq_self.mpr (by simp)]
      have N' : News g L' s'.heap [(154, tabObj ps')] := fun q hq => ⟨kp _ _ (by
        have e := Heap.lt_size (hT _ (.head _))
        simp only [List.mem_cons, List.not_mem_nil, or_false] at hq
        subst hq
        have e2 : @LT.lt Nat _ (154) L' := hL ▸ e
        have e3 : @LE.le Nat _ L' Kb := hLK
        show @LE.le Nat _ (154) Kb
        omega) (N₅ q hq).1, (N₅ q hq).2⟩
      refine hQ s' t' ps' ?_ (N' _ (.head _)).1 ht'
      exact kept_of hkeep F' hL.symm N' hT (by (repeat (refine all_cons (fun h9 => by first | k_mem | exact absurd (by k_mem) h9) ?_)); exact all_nil) (os'.trans os₅) (dr'.trans dr₅) (fun _ => G')
    · exact Nat.le_trans hln (Nat.le_of_ble_eq_true rfl)
end
/- P4_1k -/
section
open PySem PySem.W PySem.Calls PyProof.Rows
theorem pc_c {prog : Program} {w : World} {A : Around} {E : Value → Shared → Prop} {s : Shared} {H₀ : Heap} {p : Program} {loose : List Str} {mg mb : Str → Option Value} {Q : Value → Shared → Prop} {x d : Addr} {items : Array Value} {n : Nat} {isz : Int} {t1 t2 : Tok} (hprog : prog = PySem.Challenge.pw_yh0022_01)
    (HS : Sub H₀ s.heap) (X : (heapK w.params).In H₀) (TR : TopRead p loose mg mb H₀) (hdp : A.depth < 500)
    (hx : s.heap.get? x = some (lobj 185 d items n)) (hdx : s.heap.get? d = some (accD w.params isz t1 t2)) {c : Int} (hc : (items.size : Int) = c)
    (hQ : ∀ s' t, Kept [] s s' → Q (.int c t) s') :
    wpAny (model prog w) A (call (.ref 182) [.ref x]) Q E s := by
  have : PySem.Challenge.rw_yh0022_01.prog = PySem.Challenge.rw_yh0022_01.prog ∧ heapK = heapK := by k_fill; exact ⟨rfl, rfl⟩
  clear this
  subst hprog
  subst hc
  refine wpAny_call ?_
  refine enterS [] all_nil HS all_nil X TR (by k_is) (by k_is) (Nat.lt_of_lt_of_le hdp (Nat.le_of_ble_eq_true rfl)) (BindsTo.of_eq (binds := [("self", .ref x)]) rfl) (locs rfl) (by decide) rfl rfl rfl ?_
  intro g L' h₁ F N XG TG HG hkeep hk₁ hL
  have gx : InstAt g x (lobj 185 d items n) 185 (some (accD w.params isz t1 t2)) := ⟨hkeep _ _ (by simp) hx, rfl, rfl, hkeep _ _ (by simp) hdx⟩
  (try dsimp only)
  k_steps
  (with_reducible rename News _ _ _ _ => N9); (with_reducible rename Fr _ _ _ _ => F9)
  refine hQ _ _ (kept_of hkeep F9 hL.symm N9 all_nil all_nil rfl rfl id)

theorem popfrom_c {prog : Program} {w : World} {A : Around} {E : Value → Shared → Prop} {s : Shared} {H₀ : Heap} {p : Program} {loose : List Str} {mg mb : Str → Option Value} {Q : Value → Shared → Prop} {x d : Addr} {items : Array Value} {n : Nat} {isz : Int} {t1 t2 : Tok} {i : Nat} {ti : Tok} {args : List Value}
    (HS : Sub H₀ s.heap) (X : (heapK w.params).In H₀) (TR : TopRead p loose mg mb H₀) (hdp : A.depth < 500)
    (hx : s.heap.get? x = some (lobj 185 d items n)) (hdx : s.heap.get? d = some (accD w.params isz t1 t2)) (hx0 : H₀.get? x = none) (hd0 : H₀.get? d = none) (hsz : items.size ≤ 100000) (hi : i ≤ items.size)
    (hargs : args = [.int i ti] ∨ (args = [] ∧ i = 0))
    (hQ : ∀ s' y ny n', Kept [x] s s' → s.heap.get? y = none → s'.heap.get? y = some { cls := .type "list", data := .seq (items.toList.drop i).toArray ny } → s'.heap.get? x = some (lobj 185 d (items.toList.take i).toArray n') → Q (.ref y) s') :
    wpAny (model prog w) A (call (.ref 137) (.ref x :: args)) Q E s := by
  have : PySem.Challenge.rw_yh0022_01.prog = PySem.Challenge.rw_yh0022_01.prog ∧ heapK = heapK := by k_fill; exact ⟨rfl, rfl⟩
  clear this
  have hne : @Ne Nat x d := upd_ne hx hdx (by simp)
  have hT : ∀ q ∈ [(x, lobj 185 d items n), (d, accD w.params isz t1 t2)], s.heap.get? q.1 = some q.2 := (all_cons hx (all_cons hdx all_nil))
  refine wpAny_call ?_
  rcases hargs with rfl | ⟨rfl, rfl⟩
  · refine enter _ hT HS (all_cons hx0 (all_cons hd0 all_nil)) X TR (by k_is) (by k_is) (Nat.lt_of_lt_of_le hdp (Nat.le_of_ble_eq_true rfl)) (binds_K (binds := [("self", .ref x), ("i", .int (i : Nat) ti)]) (by exact X.keeps HS) rfl (by k_is) rfl rfl rfl) (locs rfl) (by decide) rfl rfl rfl ?_
    intro g L' h₁ F N XG TG HG hkeep hk₁ hL
    dsimp only
    (try k_fold)
    k_steps
    refine slice_l F XG N (inst_news N (.head _) (.tail _ (.head _))) (by k_is) (by k_is) (by k_is) (.int _ _) .none ?_ rfl (fun _ => rfl) (Nat.le_trans hsz (Nat.le_of_ble_eq_true rfl))
    intro D h' F' N' hlt; k_lt hlt
    clear F N
    k_steps
    (with_reducible rename News _ _ _ _ => N2); (with_reducible rename Fr _ _ _ _ => F2)
    refine setslice_l (nl := 0) (b := items.size) F2 XG N2 (inst_news N2 (.tail _ (.tail _ (.head _))) (.tail _ (.tail _ (.tail _ (.head _))))) (by k_is) (by k_is) (by k_is) (.int _ _) .none ⟨_, (N2 _ (.head _)).1, rfl, _, rfl⟩ (clip_nat hi) rfl (by k_upd) ?_ (Nat.le_trans (Nat.le_of_eq (Nat.add_zero _)) (Nat.le_trans hsz (Nat.le_of_ble_eq_true rfl)))
    intro h2 F3 N3
    clear F2 N2
    k_steps
    (with_reducible rename News _ _ _ _ => N9); (with_reducible rename Fr _ _ _ _ => F9)
    rw [spl_take hi] at N9
    rw [pick_drop hi] at N9
    refine hQ _ D _ _ ?_ ?_ (N9 (D, _) (by k_mem)).1 (N9 (x, _) (by k_mem)).1
    · exact kept_of hkeep F9 hL.symm N9 hT (by (repeat (refine all_cons (fun h9 => by first | k_mem | exact absurd (by k_mem) h9) ?_)); exact all_nil) rfl rfl id
    · exact fresh_of hkeep N9 (a := D) (by k_mem) (by k_all)
  · refine enter _ hT HS (all_cons hx0 (all_cons hd0 all_nil)) X TR (by k_is) (by k_is) (Nat.lt_of_lt_of_le hdp (Nat.le_of_ble_eq_true rfl)) (binds_K (binds := [("self", .ref x), ("i", .int (0 : Nat) 352)]) (by exact X.keeps HS) rfl (by k_is) rfl rfl rfl) (locs rfl) (by decide) rfl rfl rfl ?_
    intro g L' h₁ F N XG TG HG hkeep hk₁ hL
    dsimp only
    (try k_fold)
    k_steps
    refine slice_l F XG N (inst_news N (.head _) (.tail _ (.head _))) (by k_is) (by k_is) (by k_is) (.int _ _) .none ?_ rfl (fun _ => rfl) (Nat.le_trans hsz (Nat.le_of_ble_eq_true rfl))
    intro D h' F' N' hlt; k_lt hlt
    clear F N
    k_steps
    (with_reducible rename News _ _ _ _ => N2); (with_reducible rename Fr _ _ _ _ => F2)
    refine setslice_l (nl := 0) (b := items.size) F2 XG N2 (inst_news N2 (.tail _ (.tail _ (.head _))) (.tail _ (.tail _ (.tail _ (.head _))))) (by k_is) (by k_is) (by k_is) (.int _ _) .none ⟨_, (N2 _ (.head _)).1, rfl, _, rfl⟩ (clip_nat hi) rfl (by k_upd) ?_ (Nat.le_trans (Nat.le_of_eq (Nat.add_zero _)) (Nat.le_trans hsz (Nat.le_of_ble_eq_true rfl)))
    intro h2 F3 N3
    clear F2 N2
    k_steps
    (with_reducible rename News _ _ _ _ => N9); (with_reducible rename Fr _ _ _ _ => F9)
    rw [spl_take hi] at N9
    rw [pick_drop hi] at N9
    refine hQ _ D _ _ ?_ ?_ (N9 (D, _) (by k_mem)).1 (N9 (x, _) (by k_mem)).1
    · exact kept_of hkeep F9 hL.symm N9 hT (by (repeat (refine all_cons (fun h9 => by first | k_mem | exact absurd (by k_mem) h9) ?_)); exact all_nil) rfl rfl id
    · exact fresh_of hkeep N9 (a := D) (by k_mem) (by k_all)
end
/- P5_1k -/
section
open PySem PySem.W PySem.Calls PyProof.Rows
theorem pop_c {prog : Program} {w : World} {A : Around} {E : Value → Shared → Prop} {s : Shared} {H₀ : Heap} {p : Program} {loose : List Str} {mg mb : Str → Option Value} {Q : Value → Shared → Prop} {x d : Addr} {items : Array Value} {v : Value} {n : Nat} {isz : Int} {t1 t2 : Tok} (hprog : prog = PySem.Challenge.pw_yh0022_01)
    (HS : Sub H₀ s.heap) (X : (heapK w.params).In H₀) (TR : TopRead p loose mg mb H₀) (hdp : A.depth < 490)
    (hx : s.heap.get? x = some (lobj 185 d (items.push v) n)) (hdx : s.heap.get? d = some (accD w.params isz t1 t2)) (hx0 : H₀.get? x = none) (hd0 : H₀.get? d = none) (hsz : items.size ≤ 100000)
    (hQ : ∀ s' n', Kept [x] s s' → s'.heap.get? x = some (lobj 185 d items n') → Q v s') :
    wpAny (model prog w) A (call (.ref 145) [.ref x]) Q E s := by
  have : PySem.Challenge.rw_yh0022_01.prog = PySem.Challenge.rw_yh0022_01.prog ∧ heapK = heapK := by k_fill; exact ⟨rfl, rfl⟩
  clear this
  have hprog' := hprog
  subst hprog
  have hne : @Ne Nat x d := upd_ne hx hdx (by simp)
  have hT : ∀ q ∈ [(x, lobj 185 d (items.push v) n), (d, accD w.params isz t1 t2)], s.heap.get? q.1 = some q.2 := (all_cons hx (all_cons hdx all_nil))
  refine wpAny_call ?_
  refine enterS _ hT HS (all_cons hx0 (all_cons hd0 all_nil)) X TR (by k_is) (by k_is) (Nat.lt_of_lt_of_le hdp (Nat.le_of_ble_eq_true rfl)) (BindsTo.of_eq (binds := [("self", .ref x)]) rfl) (locs rfl) (by decide) rfl rfl rfl ?_
  intro g L' h₁ F N XG TG HG hkeep hk₁ hL
  (try dsimp only)
  k_steps
  refine pc_c (c := items.size + 1) rfl (sub_fr F HG) X TR (by (repeat (with_reducible refine dep_lt ?_)); first | exact Nat.lt_of_lt_of_le hdp (Nat.le_of_ble_eq_true rfl) | omega | (simp only [depth_deeper, depth_in1, units_deeper, units_in1]; omega)) (N _ (.head _)).1 (N _ (.tail _ (.head _))).1 (by simp) ?_
  intro s2 t2' Kp
  have F2 := kept_fr0 Kp F
  have N2 := kept_news0 Kp N
  clear F N
  have hback : (items.push v).back? = some v := by simp
  have hz9 : (items.push v).size ≤ sizeLine := Nat.le_trans (Nat.le_trans (Nat.le_of_eq (Array.size_push ..)) (Nat.succ_le_succ hsz)) (Nat.le_of_ble_eq_true rfl)
  k_steps
  · exfalso; omega
  · (with_reducible rename News _ _ _ _ => N9); (with_reducible rename Fr _ _ _ _ => F9)
    rw [Array.pop_push] at N9
    refine hQ _ _ ?_ (N9 (x, _) (by k_mem)).1
    exact kept_of hkeep F9 hL.symm N9 hT (by (repeat (refine all_cons (fun h9 => by first | k_mem | exact absurd (by k_mem) h9) ?_)); exact all_nil) Kp.os Kp.drawn Kp.gens

theorem pop0_c {prog : Program} {w : World} {A : Around} {E : Value → Shared → Prop} {s : Shared} {H₀ : Heap} {p : Program} {loose : List Str} {mg mb : Str → Option Value} {Q : Value → Shared → Prop} {x d : Addr} {n : Nat} {isz : Int} {t1 t2 : Tok} (hprog : prog = PySem.Challenge.pw_yh0022_01)
    (HS : Sub H₀ s.heap) (X : (heapK w.params).In H₀) (TR : TopRead p loose mg mb H₀) (hdp : A.depth < 490)
    (hx : s.heap.get? x = some (lobj 185 d #[] n)) (hdx : s.heap.get? d = some (accD w.params isz t1 t2)) (hx0 : H₀.get? x = none) (hd0 : H₀.get? d = none)
    (hQ : ∀ s' tp ta tb, Kept [] s s' → s.heap.get? tp = none → s'.heap.get? tp = some (tupOf [.str "" ta, .str "" tb]) → Q (.ref tp) s') :
    wpAny (model prog w) A (call (.ref 145) [.ref x]) Q E s := by
  have : PySem.Challenge.rw_yh0022_01.prog = PySem.Challenge.rw_yh0022_01.prog ∧ heapK = heapK := by k_fill; exact ⟨rfl, rfl⟩
  clear this
  have hprog' := hprog
  subst hprog
  refine wpAny_call ?_
  refine enterS [] all_nil HS all_nil X TR (by k_is) (by k_is) (Nat.lt_of_lt_of_le hdp (Nat.le_of_ble_eq_true rfl)) (BindsTo.of_eq (binds := [("self", .ref x)]) rfl) (locs rfl) (by decide) rfl rfl rfl ?_
  intro g L' h₁ F N XG TG HG hkeep hk₁ hL
  have gx : InstAt g x (lobj 185 d #[] n) 185 (some (accD w.params isz t1 t2)) := ⟨hkeep _ _ (by simp) hx, rfl, rfl, hkeep _ _ (by simp) hdx⟩
  (try dsimp only)
  k_steps
  refine pc_c (c := 0) rfl (sub_fr F HG) X TR (by (repeat (with_reducible refine dep_lt ?_)); first | exact Nat.lt_of_lt_of_le hdp (Nat.le_of_ble_eq_true rfl) | omega | (simp only [depth_deeper, depth_in1, units_deeper, units_in1]; omega)) (inst_base F gx).at_ (inst_base F gx).dict (by simp) ?_
  intro s2 t2' Kp
  have F2 := kept_fr0 Kp F
  have N2 := kept_news0 Kp N
  clear F N
  k_steps
  (with_reducible rename News _ _ _ _ => N9); (with_reducible rename Fr _ _ _ _ => F9)
  refine hQ _ _ _ _ ?_ ?_ (N9 (_, tupOf _) (by k_mem)).1
  · exact kept_of hkeep F9 hL.symm N9 all_nil all_nil Kp.os Kp.drawn Kp.gens
  · exact fresh_of hkeep N9 (.head _) (by simp)
end
/- P6_1k -/
section
open PySem PySem.W PySem.Calls PyProof.Rows
theorem reset_c {prog : Program} {w : World} {A : Around} {E : Value → Shared → Prop} {s : Shared} {H₀ : Heap} {p : Program} {loose : List Str} {mg mb : Str → Option Value} {Q : Value → Shared → Prop} {x d : Addr} {items new : Array Value} {n : Nat} {isz : Int} {t1 t2 : Tok} {args : List Value}
    (HS : Sub H₀ s.heap) (X : (heapK w.params).In H₀) (TR : TopRead p loose mg mb H₀) (hdp : A.depth < 500)
    (hx : s.heap.get? x = some (lobj 185 d items n)) (hdx : s.heap.get? d = some (accD w.params isz t1 t2)) (hx0 : H₀.get? x = none) (hd0 : H₀.get? d = none) (hsz : items.size ≤ 100000) (hsn : new.size ≤ 100000)
    (hargs : (∃ l nl, args = [.ref l] ∧ s.heap.get? l = some { cls := .type "list", data := .seq new nl }) ∨ (args = [] ∧ new = #[]))
    (hQ : ∀ s' n' u2, Kept [x, d] s s' → s'.heap.get? x = some (lobj 185 d new n') → s'.heap.get? d = some (accD w.params 0 t1 u2) → Q .none s') :
    wpAny (model prog w) A (call (.ref 167) (.ref x :: args)) Q E s := by
  have : PySem.Challenge.rw_yh0022_01.prog = PySem.Challenge.rw_yh0022_01.prog ∧ heapK = heapK := by k_fill; exact ⟨rfl, rfl⟩
  clear this
  have hne : @Ne Nat x d := upd_ne hx hdx (by simp)
  have hT : ∀ q ∈ [(x, lobj 185 d items n), (d, accD w.params isz t1 t2)], s.heap.get? q.1 = some q.2 := (all_cons hx (all_cons hdx all_nil))
  refine wpAny_call ?_
  rcases hargs with ⟨l, nl, rfl, hl⟩ | ⟨rfl, rfl⟩
  · have hlx : @Ne Nat l x := upd_ne hl hx (by simp)
    have hld : @Ne Nat l d := upd_ne hl hdx (by simp)
    refine enter _ hT HS (all_cons hx0 (all_cons hd0 all_nil)) X TR (by k_is) (by k_is) (Nat.lt_of_lt_of_le hdp (Nat.le_of_ble_eq_true rfl)) (binds_K (binds := [("self", .ref x), ("startval", .ref l)]) (by exact X.keeps HS) rfl (by k_is) rfl rfl rfl) (locs rfl) (by decide) rfl rfl rfl ?_
    intro g L' h₁ F N XG TG HG hkeep hk₁ hL
    have gl : g.get? l = some { cls := .type "list", data := .seq new nl } := hkeep _ _ (by simp only [List.map_cons, List.map_nil, List.mem_cons, List.not_mem_nil, or_false, not_or]; exact ⟨hlx, hld⟩) hl
    dsimp only
    (try k_fold)
    k_steps
    refine setslice_l (nl := 0) (a := 0) (b := items.size) (new := new) F XG N (inst_news N (.head _) (.tail _ (.head _))) (by k_is) (by k_is) (by k_is) .none .none ⟨_, F.keep _ _ gl, rfl, _, rfl⟩ rfl rfl (by k_upd) ?_ (Nat.le_trans (Nat.add_le_add hsz hsn) (Nat.le_of_ble_eq_true rfl))
    intro h2 F3 N3
    clear F N
    k_steps
    (with_reducible rename News _ _ _ _ => N9); (with_reducible rename Fr _ _ _ _ => F9)
    rw [spl_all] at N9
    refine hQ _ _ _ ?_ (N9 (x, _) (by k_mem)).1 (And.left (N9 (d, _) (by k_mem)))
    exact kept_of hkeep F9 hL.symm N9 hT (by (repeat (refine all_cons (fun h9 => by first | k_mem | exact absurd (by k_mem) h9) ?_)); exact all_nil) rfl rfl id
  · refine enter _ hT HS (all_cons hx0 (all_cons hd0 all_nil)) X TR (by k_is) (by k_is) (Nat.lt_of_lt_of_le hdp (Nat.le_of_ble_eq_true rfl)) (binds_K (binds := [("self", .ref x), ("startval", .none)]) (by exact X.keeps HS) rfl (by k_is) rfl rfl rfl) (locs rfl) (by decide) rfl rfl rfl ?_
    intro g L' h₁ F N XG TG HG hkeep hk₁ hL
    dsimp only
    (try k_fold)
    k_steps
    (with_reducible rename News _ _ _ _ => N2); (with_reducible rename Fr _ _ _ _ => F2)
    refine setslice_l (nl := 0) (a := 0) (b := items.size) (new := #[]) F2 XG N2 (inst_news N2 (.tail _ (.head _)) (.tail _ (.tail _ (.head _)))) (by k_is) (by k_is) (by k_is) .none .none ⟨_, (N2 _ (.head _)).1, rfl, _, rfl⟩ rfl rfl (by k_upd) ?_ (Nat.le_trans (Nat.add_le_add hsz hsn) (Nat.le_of_ble_eq_true rfl))
    intro h2 F3 N3
    clear F2 N2
    k_steps
    (with_reducible rename News _ _ _ _ => N9); (with_reducible rename Fr _ _ _ _ => F9)
    rw [spl_all] at N9
    refine hQ _ _ _ ?_ (N9 (x, _) (by k_mem)).1 (And.left (N9 (d, _) (by k_mem)))
    exact kept_of hkeep F9 hL.symm N9 hT (by (repeat (refine all_cons (fun h9 => by first | k_mem | exact absurd (by k_mem) h9) ?_)); exact all_nil) rfl rfl id
end
/- P7_1k -/
section
open PySem PySem.W PySem.Calls PyProof.Rows
theorem onlyws_c {prog : Program} {w : World} {A : Around} {E : Value → Shared → Prop} {s : Shared} {H₀ : Heap} {p : Program} {loose : List Str} {mg mb : Str → Option Value} {Q : Value → Shared → Prop} {bm : Addr} {ob : Obj} {ps1 ps2 : Array Value} {x d : Addr} {items : Array Value} {parts : List (Str × Str)} {n : Nat} {isz : Int} {t1 t2 : Tok}
    (HS : Sub H₀ s.heap) (X : (heapK w.params).In H₀) (TR : TopRead p loose mg mb H₀) (hdp : A.depth < 490) (B : BMod H₀ mainGlobals mg bm ob) (hun : A.units < 1900) (hh : A.handled = none) (G : AllBare s.gens)
    (hP1 : s.heap.get? 147 = some (tabObj ps1)) (hP10 : H₀.get? 147 = none) (ht1 : TriplesOk ps1.toList) (hP2 : s.heap.get? 154 = some (tabObj ps2)) (hP20 : H₀.get? 154 = none) (ht2 : TriplesOk ps2.toList)
    (hx : s.heap.get? x = some (lobj 185 d items n)) (hdx : s.heap.get? d = some (accD w.params isz t1 t2)) (hpt : Parts s.heap items.toList parts) (hsm : ∀ p ∈ parts, p.1.length ≤ 1000 ∧ p.2.length ≤ 1000) (hln : parts.length ≤ 1000)
    (hno : isz ≠ 0 ∨ (isz = 0 ∧ plen parts ≠ 0 ∧ Txt.isspace (ptext parts) = false))
    (hQ : ∀ s' ps1' ps2', Kept [147, 154] s s' → s'.heap.get? 147 = some (tabObj ps1') → TriplesOk ps1'.toList → s'.heap.get? 154 = some (tabObj ps2') → TriplesOk ps2'.toList → Q (.bool false) s') :
    wpAny (model prog w) A (call (.ref 174) [.ref x]) Q E s := by
  have : PySem.Challenge.rw_yh0022_01.prog = PySem.Challenge.rw_yh0022_01.prog ∧ heapK = heapK := by k_fill; exact ⟨rfl, rfl⟩
  clear this
  have hx1 : @Ne Nat x 147 := upd_ne hx hP1 (by simp)
  have hd1 : @Ne Nat d 147 := upd_ne hdx hP1 (by simp)
  have hx2 : @Ne Nat x 154 := upd_ne hx hP2 (by simp)
  have hd2 : @Ne Nat d 154 := upd_ne hdx hP2 (by simp)
  have hT : ∀ q ∈ [((147 : Addr), tabObj ps1), ((154 : Addr), tabObj ps2)], s.heap.get? q.1 = some q.2 := (all_cons hP1 (all_cons hP2 all_nil))
  refine wpAny_call ?_
  refine enter _ hT HS (all_cons hP10 (all_cons hP20 all_nil)) X TR (by k_is) (by k_is) (Nat.lt_of_lt_of_le hdp (Nat.le_of_ble_eq_true rfl)) (BindsTo.of_eq (binds := [("self", .ref x)]) rfl) (locs rfl) (by decide) rfl rfl rfl ?_
  intro g L' h₁ F N XG TG HG hkeep hk₁ hL
  have gx : InstAt g x (lobj 185 d items n) 185 (some (accD w.params isz t1 t2)) := ⟨hkeep _ _ (by simp only [List.map_cons, List.map_nil, List.mem_cons, List.not_mem_nil, or_false, not_or]; exact ⟨hx1, hx2⟩) hx, rfl, rfl, hkeep _ _ (by simp only [List.map_cons, List.map_nil, List.mem_cons, List.not_mem_nil, or_false, not_or]; exact ⟨hd1, hd2⟩) hdx⟩
  have gp : Parts g items.toList parts := parts_hide hkeep hT (by simp) hpt
  have BG := B.keeps HG
  dsimp only
  (try k_fold)
  have pb := plen_bound hsm
  k_steps
  · rename_i hz
    subst hz
    have hno' := hno.resolve_left (fun h => h rfl)
    refine truthy_len F XG (inst_base F gx) (by k_is) (by k_is) (by k_is) ?_
    refine len_c (sub_fr F HG) X TR B (by (repeat (with_reducible refine dep_lt ?_)); first | exact Nat.lt_of_lt_of_le hdp (Nat.le_of_ble_eq_true rfl) | omega | (simp only [depth_deeper, depth_in1, units_deeper, units_in1]; omega)) (by (repeat (with_reducible refine uni_lt ?_)); first | exact Nat.lt_of_lt_of_le hun (Nat.le_of_ble_eq_true rfl) | omega | (simp only [depth_deeper, depth_in1, units_deeper, units_in1]; omega)) hh G (N _ (.head _)).1 hP10 ht1 (inst_base F gx).at_ (inst_base F gx).dict (gp.keeps fun b o e _ => F.keep b o e) (fun p hp => by have := hsm p hp; omega) ?_
    intro s2 t ps1' Kp e1 ht1'
    have F2 := kept_fr Kp F N (by simp)
    have N2 : News g L' s2.heap [((147 : Addr), tabObj ps1'), ((154 : Addr), tabObj ps2)] := kept_news Kp F N (by
      intro q hq
      simp only [List.mem_cons, List.not_mem_nil, or_false] at hq
      rcases hq with rfl | rfl
      · exact .inr ⟨e1, .inl (by simp)⟩
      · exact .inl ⟨by simp, by simp⟩)
    clear F N
    refine ⟨⟨by omega, by omega⟩, ?_⟩
    have hbne : ((0 : Int) + plen parts != 0) = true := by simpa using hno'.2.1
    k_steps
    refine kso_call (by simp only [units_deeper, units_in1, cLine]; omega) (XG.keeps F2.keep) (inst_base F2 gx) (by k_is) (by k_is) ?_
    refine str_c (sub_fr F2 HG) X TR B (by (repeat (with_reducible refine dep_lt ?_)); first | exact Nat.lt_of_lt_of_le hdp (Nat.le_of_ble_eq_true rfl) | omega | (simp only [depth_deeper, depth_in1, units_deeper, units_in1]; omega)) (by (repeat (with_reducible refine uni_lt ?_)); first | exact Nat.lt_of_lt_of_le hun (Nat.le_of_ble_eq_true rfl) | omega | (simp only [depth_deeper, depth_in1, units_deeper, units_in1]; omega)) hh (Kp.gens G) (N2 _ (.tail _ (.head _))).1 hP20 ht2 (inst_base F2 gx).at_ (inst_base F2 gx).dict (gp.keeps fun b o e _ => F2.keep b o e) hsm hln ?_
    intro s3 t3 ps2' Kp3 e3 ht2'
    have F3 := kept_fr Kp3 F2 N2 (by simp)
    have N3 : News g L' s3.heap [((147 : Addr), tabObj ps1'), ((154 : Addr), tabObj ps2')] := kept_news Kp3 F2 N2 (by
      intro q hq
      simp only [List.mem_cons, List.not_mem_nil, or_false] at hq
      rcases hq with rfl | rfl
      · exact .inl ⟨by simp, by simp⟩
      · exact .inr ⟨e3, .inl (by simp)⟩)
    clear F2 N2
    dsimp only [StrBack]
    have hsp := hno'.2.2
    k_steps
    (try rw [hsp])
    refine hQ _ ps1' ps2' ?_ (N3 _ (.head _)).1 ht1' (N3 _ (.tail _ (.head _))).1 ht2'
    exact kept_of hkeep F3 hL.symm N3 hT (by (repeat (refine all_cons (fun h9 => by first | k_mem | exact absurd (by k_mem) h9) ?_)); exact all_nil) (Kp3.os.trans Kp.os) (Kp3.drawn.trans Kp.drawn) (fun h => Kp3.gens (Kp.gens h))
  · have hne0 : (isz == 0) = false := by simpa using ‹isz ≠ 0›
    (with_reducible rename News _ _ _ _ => N9); (with_reducible rename Fr _ _ _ _ => F9)
    rw [hne0]
    refine hQ _ ps1 ps2 ?_ (N9 _ (.head _)).1 ht1 (N9 _ (.tail _ (.head _))).1 ht2
    exact kept_of hkeep F9 hL.symm N9 hT (by (repeat (refine all_cons (fun h9 => by first | k_mem | exact absurd (by k_mem) h9) ?_)); exact all_nil) rfl rfl id
end
/- P8_1k -/
section
open PySem PySem.W PySem.Calls PyProof.Rows
structure VTok where
  (k1 k2 k3 k4 k5 k6 u1 u2 u3 u4 : Tok)
noncomputable abbrev vfD (P : Params) (ml cl : Int) (cw sc : Str) (ll ax : Addr) (k : VTok) : Obj :=
  dictOf [⟨PyData.keyHash P "_maxlen", .str "_maxlen" k.k1, .int ml k.u1⟩, ⟨PyData.keyHash P "_continuation_ws", .str "_continuation_ws" k.k2, .str cw k.u2⟩, ⟨PyData.keyHash P "_continuation_ws_len", .str "_continuation_ws_len" k.k3, .int cl k.u3⟩,
    ⟨PyData.keyHash P "_splitchars", .str "_splitchars" k.k4, .str sc k.u4⟩, ⟨PyData.keyHash P "_lines", .str "_lines" k.k5, .ref ll⟩, ⟨PyData.keyHash P "_current_line", .str "_current_line" k.k6, .ref ax⟩] 6

theorem vinit_c {prog : Program} {w : World} {A : Around} {R : Result → Shared → Prop} {s : Shared} {H₀ : Heap} {p : Program} {loose : List Str} {mg mb : Str → Option Value}
    {x d : Addr} {hl ml : Int} {cw sc : Str} {a1 a2 a3 a4 : Tok}
    (hprog : prog = PySem.Challenge.pw_yh0022_01)
    (HS : Sub H₀ s.heap) (X : (heapK w.params).In H₀) (TR : TopRead p loose mg mb H₀) (hdp : A.depth < 490)
    (hx : s.heap.get? x = some (instObj 101 d)) (hdx : s.heap.get? d = some emptyDict) (hx0 : H₀.get? x = none) (hd0 : H₀.get? d = none) (hsz : H₀.objs.size ≤ s.heap.objs.size) (hcw : cw.length ≤ 1000)
    (hQ : ∀ s' ll ax ad k t1 t2, Kept [d] s s' → s'.heap.get? d = some (vfD w.params ml cw.length cw sc ll ax k) → s.heap.get? ll = none → s.heap.get? ax = none → s.heap.get? ad = none →
      s'.heap.get? ll = some (listOf #[] 0) → s'.heap.get? ax = some (lobj 185 ad #[] 0) → s'.heap.get? ad = some (accD w.params hl t1 t2) → R (.ok (.ret .none)) s') :
    codeAny (model prog w) A (.call (.ref 42) ⟨[.ref x, .int hl a1, .int ml a2, .str cw a3, .str sc a4], []⟩) R s := by
  have : PySem.Challenge.rw_yh0022_01.prog = PySem.Challenge.rw_yh0022_01.prog ∧ heapK = heapK := by k_fill; exact ⟨rfl, rfl⟩
  clear this
  have hne : @Ne Nat x d := upd_ne hx hdx (by simp)
  have hT : ∀ q ∈ [(x, instObj 101 d), (d, emptyDict)], s.heap.get? q.1 = some q.2 := (all_cons hx (all_cons hdx all_nil))
  refine enter _ hT HS (all_cons hx0 (all_cons hd0 all_nil)) X TR (by k_is) (by k_is) (Nat.lt_of_lt_of_le hdp (Nat.le_of_ble_eq_true rfl)) (BindsTo.of_eq (binds := [("self", .ref x), ("headerlen", .int hl a1), ("maxlen", .int ml a2), ("continuation_ws", .str cw a3), ("splitchars", .str sc a4)]) rfl) (locs rfl) (by decide) rfl rfl rfl ?_
  intro g L' h₁ F N XG TG HG hkeep hk₁ hL
  (try dsimp only)
  (try k_fold)
  k_steps
  (with_reducible rename News _ _ _ _ => N2); (with_reducible rename Fr _ _ _ _ => F2)
  refine acc_make (isz := hl) (u := a1) hprog (sub_fr F2 HG) X TR (by (repeat (with_reducible refine dep_lt ?_)); first | exact Nat.lt_of_lt_of_le hdp (Nat.le_of_ble_eq_true rfl) | omega | (simp only [depth_deeper, depth_in1, units_deeper, units_in1]; omega)) (Nat.le_trans hsz (Nat.le_of_lt (hL ▸ F2.ns.lt))) (.inl rfl) ?_
  intro s3 ax ad t1 t2 Kp e1 e2 hax had
  have F3 := kept_fr0 Kp F2
  have q1 := allNe_of N2 e1
  have q2 := allNe_of N2 e2
  simp only [AllNe, and_true] at q1 q2
  (repeat (obtain ⟨_, q1⟩ := q1)); (repeat (obtain ⟨_, q2⟩ := q2))
  have q3 : @Ne Nat ax ad := upd_ne hax had (by simp)
  have N3 := news_fresh Kp F2 (news_fresh Kp F2 (kept_news0 Kp N2) e2 had) e1 hax
  clear F2 N2
  k_steps
  (with_reducible rename News _ _ _ _ => N9); (with_reducible rename Fr _ _ _ _ => F9)
  refine hQ _ _ ax ad ⟨_, _, _, _, _, _, _, _, _, _⟩ t1 t2 ?_ (N9 (d, _) (by k_mem)).1 ?_ ?_ ?_ ?_ ?_ ?_
  · exact kept_of hkeep F9 hL.symm N9 hT (by (repeat (refine all_cons (fun h9 => by first | k_mem | exact absurd (by k_mem) h9) ?_)); exact all_nil) Kp.os Kp.drawn Kp.gens
  · exact fresh_of hkeep N9 (by k_mem) (by k_all)
  · exact fresh_of hkeep N9 (.head _) (by k_all)
  · exact fresh_of hkeep N9 (.tail _ (.head _)) (by k_all)
  · exact (N9 (_, listOf #[] 0) (by k_mem)).1
  · exact (N9 _ (.head _)).1
  · exact (N9 _ (.tail _ (.head _))).1

theorem vf_make {prog : Program} {w : World} {A : Around} {E : Value → Shared → Prop} {s : Shared} {H₀ : Heap} {p : Program} {loose : List Str} {mg mb : Str → Option Value} {Q : Value → Shared → Prop}
    {hl ml : Int} {cw sc : Str} {a1 a2 a3 a4 : Tok}
    (hprog : prog = PySem.Challenge.pw_yh0022_01)
    (HS : Sub H₀ s.heap) (X : (heapK w.params).In H₀) (TR : TopRead p loose mg mb H₀) (hdp : A.depth < 480) (hsz : H₀.objs.size ≤ s.heap.objs.size) (hcw : cw.length ≤ 1000)
    (hQ : ∀ s' x d ll ax ad k t1 t2, Kept [] s s' → s.heap.get? x = none → s.heap.get? d = none → s.heap.get? ll = none → s.heap.get? ax = none → s.heap.get? ad = none →
      s'.heap.get? x = some (instObj 101 d) → s'.heap.get? d = some (vfD w.params ml cw.length cw sc ll ax k) →
      s'.heap.get? ll = some (listOf #[] 0) → s'.heap.get? ax = some (lobj 185 ad #[] 0) → s'.heap.get? ad = some (accD w.params hl t1 t2) → Q (.ref x) s') :
    wpAny (model prog w) A (call (.ref 101) [.int hl a1, .int ml a2, .str cw a3, .str sc a4]) Q E s := by
  have : PySem.Challenge.rw_yh0022_01.prog = PySem.Challenge.rw_yh0022_01.prog ∧ heapK = heapK := by k_fill; exact ⟨rfl, rfl⟩
  clear this
  have X' := X.keeps HS
  obtain ⟨hh, g, d, t, os⟩ := s
  refine wpAny_call ?_
  have he : (emptyDict).isFreed = false := rfl
  have hl' : (instObj 101 hh.objs.size).isFreed = false := rfl
  have hd : ((hh.push emptyDict).push (instObj 101 hh.objs.size)).get? hh.objs.size = some emptyDict := Heap.get?_push_of_some _ (Heap.get?_push_size _ he)
  have hx : ((hh.push emptyDict).push (instObj 101 hh.objs.size)).get? (hh.objs.size + 1) = some (instObj 101 hh.objs.size) := Heap.get?_push_at (by rw [Heap.size_push]) hl'
  have up : Sub hh ((hh.push emptyDict).push (instObj 101 hh.objs.size)) := fun b o e => Heap.get?_push_of_some _ (Heap.get?_push_of_some _ e)
  have no : ∀ h : Heap, ∀ b, h.objs.size ≤ b → h.get? b = none := fun h b e => by
    cases q : h.get? b with
    | none => rfl
    | some o => exact absurd (Heap.lt_size q) (Nat.not_lt.mpr e)
  have nn : ∀ b, ((hh.push emptyDict).push (instObj 101 hh.objs.size)).get? b = none → hh.get? b = none := fun b e => by
    cases q : hh.get? b with
    | none => rfl
    | some o => rw [up b o q] at e; cases e
  have sz : H₀.objs.size ≤ hh.objs.size := hsz
  refine make_core (makes_of X' (C := 101) (by kernel_rfl)) (looks_findIn X' (by k_is)) (fun self => bind_fn X' self (by k_is)) (.inl rfl) ?_
  have wt : (Code.builtin "type.__call__" { pos := [Value.ref 101, .int hl a1, .int ml a2, .str cw a3, .str sc a4] }).weight ≤ 1 := Nat.le_of_ble_eq_true rfl
  refine vinit_c (x := hh.objs.size + 1) (d := hh.objs.size) (H₀ := H₀) hprog (fun b o e => up b o (HS b o e)) X TR (by simp only [Around.under]; omega) hx hd (no _ _ (by omega)) (no _ _ (by omega)) (by dsimp only; rw [Heap.size_push, Heap.size_push]; omega) hcw ?_
  intro s' ll ax ad k t1 t2 KP h1 h2 h3 h4 h5 h6 h7
  have hne : hh.objs.size + 1 ∉ [hh.objs.size] := by simp
  refine ⟨rfl, hQ s' _ _ ll ax ad k t1 t2 ⟨fun b o _ e => ?_, ?_, KP.os, KP.drawn, KP.gens⟩ (no _ _ (by dsimp only; omega)) (no _ _ (Nat.le_refl _)) (nn _ h2) (nn _ h3) (nn _ h4) (KP.keep _ _ hne hx) h1 h5 h6 h7⟩
  · refine KP.keep b o ?_ (up b o e)
    have this : @LT.lt Nat _ b hh.objs.size := Heap.lt_size e
    simp only [List.mem_cons, List.not_mem_nil, or_false]
    change @Ne Nat _ _; omega
  · have := KP.size
    simp only [Heap.size_push] at this
    dsimp only
    omega
end
/- P9_1k -/
section
open PySem PySem.W PySem.Calls PyProof.Rows
theorem obj_ne {h : Heap} {a b : Addr} {o o' : Obj} (ha : h.get? a = some o) (hb : h.get? b = some o') (hne : o ≠ o') : @Ne Nat a b := fun e => by
  subst e
  rw [ha] at hb
  cases hb
  exact hne rfl
theorem vf_acc_ne {P : Params} {ml cl isz : Int} {cw sc : Str} {ll ax : Addr} {k : VTok} {t1 t2 : Tok} : vfD P ml cl cw sc ll ax k ≠ accD P isz t1 t2 := fun e => by
  injection e with _ _ e
  injection e with e
  have := congrArg Array.size e
  simp at this

theorem vf_nes {s : Shared} {P : Params} {xd x ll ax ad : Addr} {ml cl isz : Int} {cw sc : Str} {k : VTok} {li items : Array Value} {nl n : Nat} {t1 t2 : Tok} {ps1 ps2 : Array Value}
    (hx : s.heap.get? x = some (instObj 101 xd)) (hxd : s.heap.get? xd = some (vfD P ml cl cw sc ll ax k)) (hll : s.heap.get? ll = some (listOf li nl)) (hax : s.heap.get? ax = some (lobj 185 ad items n)) (had : s.heap.get? ad = some (accD P isz t1 t2))
    (hP1 : s.heap.get? 147 = some (tabObj ps1)) (hP2 : s.heap.get? 154 = some (tabObj ps2)) :
    @Ne Nat x xd ∧ @Ne Nat x ll ∧ @Ne Nat x ax ∧ @Ne Nat x ad ∧ @Ne Nat xd ll ∧ @Ne Nat xd ax ∧ @Ne Nat xd ad ∧ @Ne Nat ll ax ∧ @Ne Nat ll ad ∧ @Ne Nat ax ad ∧ @Ne Nat x 147 ∧ @Ne Nat x 154 ∧ @Ne Nat xd 147 ∧ @Ne Nat xd 154 ∧ @Ne Nat ll 147 ∧ @Ne Nat ll 154 ∧ @Ne Nat ax 147 ∧ @Ne Nat ax 154 ∧ @Ne Nat ad 147 ∧ @Ne Nat ad 154 := by
  have n1 : @Ne Nat x xd := upd_ne hx hxd (by simp)
  have n2 : @Ne Nat x ll := upd_ne hx hll (by simp)
  have n3 : @Ne Nat x ax := upd_ne hx hax (by simp)
  have n4 : @Ne Nat x ad := upd_ne hx had (by simp)
  have n5 : @Ne Nat xd ll := upd_ne hxd hll (by simp)
  have n6 : @Ne Nat xd ax := upd_ne hxd hax (by simp)
  have n7 : @Ne Nat xd ad := obj_ne hxd had vf_acc_ne
  have n8 : @Ne Nat ll ax := upd_ne hll hax (by simp)
  have n9 : @Ne Nat ll ad := upd_ne hll had (by simp)
  have n10 : @Ne Nat ax ad := upd_ne hax had (by simp)
  have n11 : @Ne Nat x 147 := upd_ne hx hP1 (by simp)
  have n12 : @Ne Nat x 154 := upd_ne hx hP2 (by simp)
  have n13 : @Ne Nat xd 147 := upd_ne hxd hP1 (by simp)
  have n14 : @Ne Nat xd 154 := upd_ne hxd hP2 (by simp)
  have n15 : @Ne Nat ll 147 := upd_ne hll hP1 (by simp)
  have n16 : @Ne Nat ll 154 := upd_ne hll hP2 (by simp)
  have n17 : @Ne Nat ax 147 := upd_ne hax hP1 (by simp)
  have n18 : @Ne Nat ax 154 := upd_ne hax hP2 (by simp)
  have n19 : @Ne Nat ad 147 := upd_ne had hP1 (by simp)
  have n20 : @Ne Nat ad 154 := upd_ne had hP2 (by simp)
  exact ⟨n1, n2, n3, n4, n5, n6, n7, n8, n9, n10, n11, n12, n13, n14, n15, n16, n17, n18, n19, n20⟩
theorem vf_nt {w : World} {x xd ll ax ad : Addr} {ml cl isz : Int} {cw sc : Str} {k : VTok} {li items : Array Value} {nl n : Nat} {t1 t2 : Tok} {ps1 ps2 : Array Value} : ∀ q ∈ [(x, instObj 101 xd), (xd, vfD w.params ml cl cw sc ll ax k), (ll, listOf li nl), (ax, lobj 185 ad items n), (ad, accD w.params isz t1 t2), ((147 : Addr), tabObj ps1), ((154 : Addr), tabObj ps2)], q.2.cls ≠ .type "tuple" := by simp
theorem newline0_c {prog : Program} {w : World} {A : Around} {E : Value → Shared → Prop} {s : Shared} {H₀ : Heap} {p : Program} {loose : List Str} {mg mb : Str → Option Value} {Q : Value → Shared → Prop} {bm : Addr} {ob : Obj} {ps1 ps2 : Array Value} {x xd ll ax ad : Addr} {ml cl isz : Int} {cw sc : Str} {k : VTok} {li items : Array Value} {nl n : Nat} {t1 t2 : Tok} (hprog : prog = PySem.Challenge.pw_yh0022_01)
    (HS : Sub H₀ s.heap) (X : (heapK w.params).In H₀) (TR : TopRead p loose mg mb H₀) (hdp : A.depth < 480) (B : BMod H₀ mainGlobals mg bm ob) (hun : A.units < 1800) (hh : A.handled = none) (G : AllBare s.gens)
    (hP1 : s.heap.get? 147 = some (tabObj ps1)) (hP10 : H₀.get? 147 = none) (ht1 : TriplesOk ps1.toList) (hP2 : s.heap.get? 154 = some (tabObj ps2)) (hP20 : H₀.get? 154 = none) (ht2 : TriplesOk ps2.toList)
    (hx : s.heap.get? x = some (instObj 101 xd)) (hxd : s.heap.get? xd = some (vfD w.params ml cl cw sc ll ax k)) (hll : s.heap.get? ll = some (listOf li nl)) (hax : s.heap.get? ax = some (lobj 185 ad items n)) (had : s.heap.get? ad = some (accD w.params isz t1 t2)) (hx0 : H₀.get? x = none) (hxd0 : H₀.get? xd = none) (hll0 : H₀.get? ll = none) (hax0 : H₀.get? ax = none) (had0 : H₀.get? ad = none) (hit : items = #[]) (hisz : 0 < isz) (hbig : isz ≤ 100000) (hli : li.size ≤ 100000)
    (hQ : ∀ s' ps1' ps2' n' u1 u2, Kept [ll, ax, ad, 147, 154] s s' → s'.heap.get? 147 = some (tabObj ps1') → TriplesOk ps1'.toList → s'.heap.get? 154 = some (tabObj ps2') → TriplesOk ps2'.toList →
      (∃ tt nl', s'.heap.get? ll = some (listOf (li.push (.str "" tt)) nl')) → s'.heap.get? ax = some (lobj 185 ad #[] n') → s'.heap.get? ad = some (accD w.params 0 u1 u2) → Q .none s') :
    wpAny (model prog w) A (call (.ref 63) [.ref x]) Q E s := by
  have : PySem.Challenge.rw_yh0022_01.prog = PySem.Challenge.rw_yh0022_01.prog ∧ heapK = heapK := by k_fill; exact ⟨rfl, rfl⟩
  clear this
  obtain ⟨n1, n2, n3, n4, n5, n6, n7, n8, n9, n10, n11, n12, n13, n14, n15, n16, n17, n18, n19, n20⟩ := vf_nes hx hxd hll hax had hP1 hP2
  have hT : ∀ q ∈ [(x, instObj 101 xd), (xd, vfD w.params ml cl cw sc ll ax k), (ll, listOf li nl), (ax, lobj 185 ad items n), (ad, accD w.params isz t1 t2), ((147 : Addr), tabObj ps1), ((154 : Addr), tabObj ps2)], s.heap.get? q.1 = some q.2 := (all_cons hx (all_cons hxd (all_cons hll (all_cons hax (all_cons had (all_cons hP1 (all_cons hP2 all_nil)))))))
  refine wpAny_call ?_
  refine enter _ hT HS (all_cons hx0 (all_cons hxd0 (all_cons hll0 (all_cons hax0 (all_cons had0 (all_cons hP10 (all_cons hP20 all_nil))))))) X TR (by k_is) (by k_is) (Nat.lt_of_lt_of_le hdp (Nat.le_of_ble_eq_true rfl)) (BindsTo.of_eq (binds := [("self", .ref x)]) rfl) (locs rfl) (by decide) rfl rfl rfl ?_
  intro g L' h₁ F N XG TG HG hkeep hk₁ hL
  have BG := B.keeps HG
  subst hit
  dsimp only
  (try k_fold)
  k_steps
  refine pop0_c (x := ax) (d := ad) hprog (sub_fr F HG) X TR (by (repeat (with_reducible refine dep_lt ?_)); first | exact Nat.lt_of_lt_of_le hdp (Nat.le_of_ble_eq_true rfl) | omega | (simp only [depth_deeper, depth_in1, units_deeper, units_in1]; omega)) (N (ax, _) (by k_mem)).1 (N (ad, _) (by k_mem)).1 hax0 had0 ?_
  intro s2 tp ta tb Kp e1 e2
  obtain ⟨F2, N2'⟩ := step0 Kp F N
  have q1 := allNe_of N e1
  simp only [AllNe, and_true] at q1
  (repeat (obtain ⟨_, q1⟩ := q1))
  have N2 := news_fresh Kp F N2' e1 e2
  clear F N N2'
  k_steps
  refine star_method (fun _ => rfl) ?_ rfl
  k_steps
  (with_reducible rename News _ _ _ _ => N3); (with_reducible rename Fr _ _ _ _ => F3)
  refine get_methl F3 XG N3 (inst_news N3 (C := 185) (by k_mem) (by k_mem)) (by kernel_rfl) (by k_is) (by k_is) (by k_is) (by k_is) (by k_is) (by k_is) (by decide +kernel) (by k_get) ?_
  intro q h4 F4 N4 hlt4
  k_lt hlt4
  clear F3 N3
  refine callWith_SM (K := heapK w.params) (g := 129) (self := .ref ax) (by k_is) ?_ rfl
  k_steps
  (with_reducible rename News _ _ _ _ => N5); (with_reducible rename Fr _ _ _ _ => F5)
  refine call_meth N5 (f := .ref 129) (self := .ref ax) (by k_mem) ?_
  refine push_core (x := ax) (d := ad) (sub_fr F5 HG) X TR (by (repeat (with_reducible refine dep_lt ?_)); first | exact Nat.lt_of_lt_of_le hdp (Nat.le_of_ble_eq_true rfl) | omega | (simp only [depth_deeper, depth_in1, units_deeper, units_in1]; omega)) (N5 (ax, _) (by k_mem)).1 (N5 (ad, _) (by k_mem)).1 hax0 had0 (Nat.le_of_ble_eq_true rfl) ?_
  intro s6 tp2 Kp6 e61 e62 e63
  obtain ⟨F6, N6'⟩ := step1 Kp6 F5 N5 (by k_upd) e63
  have q6 := allNe_of N5 e61
  simp only [AllNe, and_true] at q6
  (repeat (obtain ⟨_, q6⟩ := q6))
  have N6 := news_fresh Kp6 F5 N6' e61 e62
  clear F5 N5 N6'
  dsimp only
  k_steps
  have G6 := Kp6.gens (Kp.gens G)
  have hpl : plen [("", "")] = 0 := by decide +kernel
  have hpt : ptext [("", "")] = "" := by decide +kernel
  have hsm : ∀ p ∈ [((("" : Str), ("" : Str)))], p.1.length ≤ 1000 ∧ p.2.length ≤ 1000 := by
    intro p hp
    simp only [List.mem_cons, List.not_mem_nil, or_false] at hp
    subst hp
    exact ⟨Nat.zero_le _, Nat.zero_le _⟩
  (with_reducible rename News _ _ _ _ => N7); (with_reducible rename Fr _ _ _ _ => F7)
  refine len_c (parts := [("", "")]) (x := ax) (d := ad) (sub_fr F7 HG) X TR B (by (repeat (with_reducible refine dep_lt ?_)); first | exact Nat.lt_of_lt_of_le hdp (Nat.le_of_ble_eq_true rfl) | omega | (simp only [depth_deeper, depth_in1, units_deeper, units_in1]; omega)) (by (repeat (with_reducible refine uni_lt ?_)); first | exact Nat.lt_of_lt_of_le hun (Nat.le_of_ble_eq_true rfl) | omega | (simp only [depth_deeper, depth_in1, units_deeper, units_in1]; omega)) hh G6 (N7 (147, _) (by k_mem)).1 hP10 ht1 (N7 (ax, _) (by k_mem)).1 (N7 (ad, _) (by k_mem)).1 (parts_one (N7 (tp2, tupOf _) (by k_mem)).1) (fun p hp => by have := hsm p hp; omega) ?_
  intro s8 t8 ps3 Kp8 e81 ht3
  obtain ⟨F8, N8⟩ := step1 Kp8 F7 N7 (by k_upd) e81
  clear F7 N7
  have G8 := Kp8.gens G6
  rw [hpl, Int.add_zero]
  dsimp only [W.LenBack]
  refine ⟨⟨by omega, by omega⟩, ?_⟩
  k_steps
  (with_reducible rename News _ _ _ _ => N9); (with_reducible rename Fr _ _ _ _ => F9)
  refine onlyws_c (parts := [("", "")]) (x := ax) (d := ad) (sub_fr F9 HG) X TR (by (repeat (with_reducible refine dep_lt ?_)); first | exact Nat.lt_of_lt_of_le hdp (Nat.le_of_ble_eq_true rfl) | omega | (simp only [depth_deeper, depth_in1, units_deeper, units_in1]; omega)) B (by (repeat (with_reducible refine uni_lt ?_)); first | exact Nat.lt_of_lt_of_le hun (Nat.le_of_ble_eq_true rfl) | omega | (simp only [depth_deeper, depth_in1, units_deeper, units_in1]; omega)) hh G8 (N9 (147, _) (by k_mem)).1 hP10 ht3 (N9 (154, _) (by k_mem)).1 hP20 ht2 (N9 (ax, _) (by k_mem)).1 (N9 (ad, _) (by k_mem)).1 (parts_one (N9 (tp2, tupOf _) (by k_mem)).1) hsm (by decide) (.inl (by omega)) ?_
  intro s10 ps4 ps5 Kp10 f1 ht4 f2 ht5
  obtain ⟨F10, N10⟩ := step2 Kp10 F9 N9 (by k_upd) (by k_upd) f1 f2 (by decide)
  clear F9 N9
  have G10 := Kp10.gens G8
  k_steps
  (with_reducible rename News _ _ _ _ => N11); (with_reducible rename Fr _ _ _ _ => F11)
  refine kso_call (by simp only [units_deeper, units_in1, cLine]; omega) (XG.keeps F11.keep) (inst_news N11 (x := ax) (d := ad) (C := 185) (by k_mem) (by k_mem)) (by k_is) (by k_is) ?_
  refine str_c (parts := [("", "")]) (x := ax) (d := ad) (sub_fr F11 HG) X TR B (by (repeat (with_reducible refine dep_lt ?_)); first | exact Nat.lt_of_lt_of_le hdp (Nat.le_of_ble_eq_true rfl) | omega | (simp only [depth_deeper, depth_in1, units_deeper, units_in1]; omega)) (by (repeat (with_reducible refine uni_lt ?_)); first | exact Nat.lt_of_lt_of_le hun (Nat.le_of_ble_eq_true rfl) | omega | (simp only [depth_deeper, depth_in1, units_deeper, units_in1]; omega)) hh G10 (N11 (154, _) (by k_mem)).1 hP20 ht5 (N11 (ax, _) (by k_mem)).1 (N11 (ad, _) (by k_mem)).1 (parts_one (N11 (tp2, tupOf _) (by k_mem)).1) hsm (by decide) ?_
  intro s12 t12 ps6 Kp12 e12 ht6
  obtain ⟨F12, N12⟩ := step1 Kp12 F11 N11 (by k_upd) e12
  clear F11 N11
  have G12 := Kp12.gens G10
  rw [hpt]
  dsimp only [StrBack]
  walk1
  refine append_list_c (l := ll) (its := li) (n := nl) (N12 (ll, _) (by k_mem)).1 (Nat.le_trans hli (Nat.le_of_ble_eq_true rfl)) ?_
  intro s13 Kp13 e13
  obtain ⟨F13, N13⟩ := step1 Kp13 F12 N12 (by k_upd) e13
  have G13 := Kp13.gens G12
  clear F12 N12
  k_steps
  refine reset_c (items := #[.ref tp2]) (new := #[]) (args := []) (x := ax) (d := ad) (sub_fr F13 HG) X TR (by (repeat (with_reducible refine dep_lt ?_)); first | exact Nat.lt_of_lt_of_le hdp (Nat.le_of_ble_eq_true rfl) | omega | (simp only [depth_deeper, depth_in1, units_deeper, units_in1]; omega)) (N13 (ax, _) (by k_mem)).1 (N13 (ad, _) (by k_mem)).1 hax0 had0 (show 1 ≤ 100000 by decide) (show 0 ≤ 100000 by decide) (.inr ⟨rfl, rfl⟩) ?_
  intro s14 n14 u14 Kp14 g1 g2
  obtain ⟨F14, N14⟩ := step2 Kp14 F13 N13 (by k_upd) (by k_upd) g1 g2 n10
  clear F13 N13
  dsimp only
  k_steps
  (with_reducible rename News _ _ _ _ => N9); (with_reducible rename Fr _ _ _ _ => F9)
  refine hQ _ ps4 ps6 n14 t1 u14 ?_ (N9 (147, _) (by k_mem)).1 ht4 (N9 (154, _) (by k_mem)).1 ht6 ⟨t12, nl + 1, (N9 (ll, _) (by k_mem)).1⟩ (N9 (ax, _) (by k_mem)).1 (N9 (ad, _) (by k_mem)).1
  refine kept_of hkeep F9 hL.symm N9 hT ?_ (Kp14.os.trans (Kp13.os.trans (Kp12.os.trans (Kp10.os.trans (Kp8.os.trans (Kp6.os.trans Kp.os)))))) (Kp14.drawn.trans (Kp13.drawn.trans (Kp12.drawn.trans (Kp10.drawn.trans (Kp8.drawn.trans (Kp6.drawn.trans Kp.drawn)))))) (fun _ => Kp14.gens G13)
  intro q hq hn
  simp only [List.mem_cons, List.not_mem_nil, or_false, not_or] at hq hn
  rcases hq with rfl | rfl | rfl | rfl | rfl | rfl | rfl
  · k_mem
  · k_mem
  · exact absurd rfl hn.1
  · exact absurd rfl hn.2.1
  · exact absurd rfl hn.2.2.1
  · exact absurd rfl hn.2.2.2.1
  · exact absurd rfl hn.2.2.2.2
end
/- P10_1k -/
section
open PySem PySem.W PySem.Calls PyProof.Rows
theorem newline1_c {prog : Program} {w : World} {A : Around} {E : Value → Shared → Prop} {s : Shared} {H₀ : Heap} {p : Program} {loose : List Str} {mg mb : Str → Option Value} {Q : Value → Shared → Prop} {bm : Addr} {ob : Obj} {ps1 ps2 : Array Value} {x xd ll ax ad : Addr} {ml cl isz : Int} {cw sc : Str} {k : VTok} {li items : Array Value} {nl n : Nat} {t1 t2 : Tok} {a : Addr} {f u : Str} {ta tb : Tok} {its : Array Value} {ps0 : List (Str × Str)} (hprog : prog = PySem.Challenge.pw_yh0022_01)
    (HS : Sub H₀ s.heap) (X : (heapK w.params).In H₀) (TR : TopRead p loose mg mb H₀) (hdp : A.depth < 480) (B : BMod H₀ mainGlobals mg bm ob) (hun : A.units < 1800) (hh : A.handled = none) (G : AllBare s.gens)
    (hP1 : s.heap.get? 147 = some (tabObj ps1)) (hP10 : H₀.get? 147 = none) (ht1 : TriplesOk ps1.toList) (hP2 : s.heap.get? 154 = some (tabObj ps2)) (hP20 : H₀.get? 154 = none) (ht2 : TriplesOk ps2.toList)
    (hx : s.heap.get? x = some (instObj 101 xd)) (hxd : s.heap.get? xd = some (vfD w.params ml cl cw sc ll ax k)) (hll : s.heap.get? ll = some (listOf li nl)) (hax : s.heap.get? ax = some (lobj 185 ad items n)) (had : s.heap.get? ad = some (accD w.params isz t1 t2)) (hx0 : H₀.get? x = none) (hxd0 : H₀.get? xd = none) (hll0 : H₀.get? ll = none) (hax0 : H₀.get? ax = none) (had0 : H₀.get? ad = none) (hit : items = its.push (.ref a)) (ha : s.heap.get? a = some (tupOf [.str f ta, .str u tb])) (hpt : Parts s.heap its.toList ps0)
    (hsm : ∀ p ∈ ps0 ++ [(f, u)], p.1.length ≤ 1000 ∧ p.2.length ≤ 1000) (hln : (ps0 ++ [(f, u)]).length ≤ 900) (hfu : (f == (" " : Str) && u == ("" : Str)) = false) (hok : PyData.strOk f = true ∧ PyData.strOk u = true) (hisz : 0 ≤ isz) (hbig : isz ≤ 100000) (hpos : 0 < isz + plen (ps0 ++ [(f, u)])) (hli : li.size ≤ 100000)
    (hno : isz ≠ 0 ∨ (isz = 0 ∧ plen (ps0 ++ [(f, u)]) ≠ 0 ∧ Txt.isspace (ptext (ps0 ++ [(f, u)])) = false))
    (hQ : ∀ s' ps1' ps2' n' u1 u2, Kept [ll, ax, ad, 147, 154] s s' → s'.heap.get? 147 = some (tabObj ps1') → TriplesOk ps1'.toList → s'.heap.get? 154 = some (tabObj ps2') → TriplesOk ps2'.toList →
      (∃ tt nl', s'.heap.get? ll = some (listOf (li.push (.str (ptext (ps0 ++ [(f, u)])) tt)) nl')) → s'.heap.get? ax = some (lobj 185 ad #[] n') → s'.heap.get? ad = some (accD w.params 0 u1 u2) → Q .none s') :
    wpAny (model prog w) A (call (.ref 63) [.ref x]) Q E s := by
  have : PySem.Challenge.rw_yh0022_01.prog = PySem.Challenge.rw_yh0022_01.prog ∧ heapK = heapK := by k_fill; exact ⟨rfl, rfl⟩
  clear this
  obtain ⟨n1, n2, n3, n4, n5, n6, n7, n8, n9, n10, n11, n12, n13, n14, n15, n16, n17, n18, n19, n20⟩ := vf_nes hx hxd hll hax had hP1 hP2
  have m1 : @Ne Nat a x := upd_ne ha hx (by simp)
  have m2 : @Ne Nat a xd := upd_ne ha hxd (by simp)
  have m3 : @Ne Nat a ll := upd_ne ha hll (by simp)
  have m4 : @Ne Nat a ax := upd_ne ha hax (by simp)
  have m5 : @Ne Nat a ad := upd_ne ha had (by simp)
  have m6 : @Ne Nat a 147 := upd_ne ha hP1 (by simp)
  have m7 : @Ne Nat a 154 := upd_ne ha hP2 (by simp)
  subst hit
  have hT : ∀ q ∈ [(x, instObj 101 xd), (xd, vfD w.params ml cl cw sc ll ax k), (ll, listOf li nl), (ax, lobj 185 ad (its.push (.ref a)) n), (ad, accD w.params isz t1 t2), ((147 : Addr), tabObj ps1), ((154 : Addr), tabObj ps2)], s.heap.get? q.1 = some q.2 := (all_cons hx (all_cons hxd (all_cons hll (all_cons hax (all_cons had (all_cons hP1 (all_cons hP2 all_nil)))))))
  refine wpAny_call ?_
  refine enter _ hT HS (all_cons hx0 (all_cons hxd0 (all_cons hll0 (all_cons hax0 (all_cons had0 (all_cons hP10 (all_cons hP20 all_nil))))))) X TR (by k_is) (by k_is) (Nat.lt_of_lt_of_le hdp (Nat.le_of_ble_eq_true rfl)) (BindsTo.of_eq (binds := [("self", .ref x)]) rfl) (locs rfl) (by decide) rfl rfl rfl ?_
  intro g L' h₁ F N XG TG HG hkeep hk₁ hL
  have BG := B.keeps HG
  have hisz9 : its.size ≤ 900 := by have := hpt.1; simp only [Array.length_toList, List.length_append, List.length_cons, List.length_nil] at this hln; omega
  have ga : g.get? a = some (tupOf [.str f ta, .str u tb]) := hkeep a _ (by simp only [List.map_cons, List.map_nil, List.mem_cons, List.not_mem_nil, or_false, not_or]; exact ⟨m1, m2, m3, m4, m5, m6, m7⟩) ha
  have gp : Parts g its.toList ps0 := parts_hide hkeep hT vf_nt hpt
  have gq : Parts g (its.toList ++ [.ref a]) (ps0 ++ [(f, u)]) := parts_push gp ⟨a, ta, tb, rfl, ga⟩
  dsimp only
  (try k_fold)
  k_steps
  refine pop_c (x := ax) (d := ad) (items := its) (v := .ref a) hprog (sub_fr F HG) X TR (by (repeat (with_reducible refine dep_lt ?_)); first | exact Nat.lt_of_lt_of_le hdp (Nat.le_of_ble_eq_true rfl) | omega | (simp only [depth_deeper, depth_in1, units_deeper, units_in1]; omega)) (N (ax, _) (by k_mem)).1 (N (ad, _) (by k_mem)).1 hax0 had0 (by omega) ?_
  intro s2 n2 Kp e2
  obtain ⟨F2, N2⟩ := step1 Kp F N (by k_upd) e2
  clear F N
  k_steps
  (with_reducible rename News _ _ _ _ => N3); (with_reducible rename Fr _ _ _ _ => F3)
  refine ne_dataH (reads_tuple_at (F3.keep _ _ ga) rfl rfl (by ke_reads)) (by ke_read) (by simp [SeqAt.shaped, PyData.canLay0, PyData.depth, PyData.canLayAll0, PyData.depthAll, hok]) (by kernel_rfl) (by simp only [units_deeper, cLine]; omega) ?_
  ke_norm
  rw [hfu]
  k_steps
  refine star_method (fun _ => rfl) ?_ rfl
  k_steps
  (with_reducible rename News _ _ _ _ => N3); (with_reducible rename Fr _ _ _ _ => F3)
  refine get_methl F3 XG N3 (inst_news N3 (C := 185) (by k_mem) (by k_mem)) (by kernel_rfl) (by k_is) (by k_is) (by k_is) (by k_is) (by k_is) (by k_is) (by decide +kernel) (by k_get) ?_
  intro q h4 F4 N4 hlt4
  k_lt hlt4
  clear F3 N3
  refine callWith_SM (K := heapK w.params) (g := 129) (self := .ref ax) (by k_is) ?_ rfl
  k_steps
  refine star_tuple (vs := [.str f ta, .str u tb]) (F4.keep _ _ ga) F4 N4 (show 2 ≤ sizeLine from Nat.le_of_ble_eq_true rfl) ?_
  intro h45 hk45 F45 N45
  clear F4 N4
  k_steps
  (with_reducible rename News _ _ _ _ => N5); (with_reducible rename Fr _ _ _ _ => F5)
  refine call_meth N5 (f := .ref 129) (self := .ref ax) (by k_mem) ?_
  refine push_core (x := ax) (d := ad) (sub_fr F5 HG) X TR (by (repeat (with_reducible refine dep_lt ?_)); first | exact Nat.lt_of_lt_of_le hdp (Nat.le_of_ble_eq_true rfl) | omega | (simp only [depth_deeper, depth_in1, units_deeper, units_in1]; omega)) (N5 (ax, _) (by k_mem)).1 (N5 (ad, _) (by k_mem)).1 hax0 had0 (Nat.le_trans hisz9 (Nat.le_of_ble_eq_true rfl)) ?_
  intro s6 tp2 Kp6 e61 e62 e63
  obtain ⟨F6, N6'⟩ := step1 Kp6 F5 N5 (by k_upd) e63
  have q6 := allNe_of N5 e61
  simp only [AllNe, and_true] at q6
  (repeat (obtain ⟨_, q6⟩ := q6))
  have N6 := news_fresh Kp6 F5 N6' e61 e62
  clear F5 N5 N6'
  dsimp only
  k_steps
  have G6 := Kp6.gens (Kp.gens G)
  have hb := plen_bound hsm
  have hits : (its.push (Value.ref tp2)).toList = its.toList ++ [.ref tp2] := by simp
  have gq : ∀ h : Heap, (∀ b o, g.get? b = some o → h.get? b = some o) → h.get? tp2 = some (tupOf [.str f ta, .str u tb]) → Parts h (its.push (Value.ref tp2)).toList (ps0 ++ [(f, u)]) := fun h k e => by
    rw [hits]; exact parts_push (gp.keeps fun b o q _ => k b o q) ⟨tp2, ta, tb, rfl, e⟩
  (with_reducible rename News _ _ _ _ => N7); (with_reducible rename Fr _ _ _ _ => F7)
  refine len_c (parts := ps0 ++ [(f, u)]) (x := ax) (d := ad) (sub_fr F7 HG) X TR B (by (repeat (with_reducible refine dep_lt ?_)); first | exact Nat.lt_of_lt_of_le hdp (Nat.le_of_ble_eq_true rfl) | omega | (simp only [depth_deeper, depth_in1, units_deeper, units_in1]; omega)) (by (repeat (with_reducible refine uni_lt ?_)); first | exact Nat.lt_of_lt_of_le hun (Nat.le_of_ble_eq_true rfl) | omega | (simp only [depth_deeper, depth_in1, units_deeper, units_in1]; omega)) hh G6 (N7 (147, _) (by k_mem)).1 hP10 ht1 (N7 (ax, _) (by k_mem)).1 (N7 (ad, _) (by k_mem)).1 (gq _ F7.keep (N7 (tp2, tupOf _) (by k_mem)).1) (fun p hp => by have := hsm p hp; omega) ?_
  intro s8 t8 ps3 Kp8 e81 ht3
  obtain ⟨F8, N8⟩ := step1 Kp8 F7 N7 (by k_upd) e81
  clear F7 N7
  have G8 := Kp8.gens G6
  dsimp only [W.LenBack]
  refine ⟨⟨by omega, by omega⟩, ?_⟩
  k_steps
  (with_reducible rename News _ _ _ _ => N9); (with_reducible rename Fr _ _ _ _ => F9)
  refine onlyws_c (parts := ps0 ++ [(f, u)]) (x := ax) (d := ad) (sub_fr F9 HG) X TR (by (repeat (with_reducible refine dep_lt ?_)); first | exact Nat.lt_of_lt_of_le hdp (Nat.le_of_ble_eq_true rfl) | omega | (simp only [depth_deeper, depth_in1, units_deeper, units_in1]; omega)) B (by (repeat (with_reducible refine uni_lt ?_)); first | exact Nat.lt_of_lt_of_le hun (Nat.le_of_ble_eq_true rfl) | omega | (simp only [depth_deeper, depth_in1, units_deeper, units_in1]; omega)) hh G8 (N9 (147, _) (by k_mem)).1 hP10 ht3 (N9 (154, _) (by k_mem)).1 hP20 ht2 (N9 (ax, _) (by k_mem)).1 (N9 (ad, _) (by k_mem)).1 (gq _ F9.keep (N9 (tp2, tupOf _) (by k_mem)).1) hsm (by omega) hno ?_
  intro s10 ps4 ps5 Kp10 f1 ht4 f2 ht5
  obtain ⟨F10, N10⟩ := step2 Kp10 F9 N9 (by k_upd) (by k_upd) f1 f2 (by decide)
  clear F9 N9
  have G10 := Kp10.gens G8
  k_steps
  (with_reducible rename News _ _ _ _ => N11); (with_reducible rename Fr _ _ _ _ => F11)
  refine kso_call (by simp only [units_deeper, units_in1, cLine]; omega) (XG.keeps F11.keep) (inst_news N11 (x := ax) (d := ad) (C := 185) (by k_mem) (by k_mem)) (by k_is) (by k_is) ?_
  refine str_c (parts := ps0 ++ [(f, u)]) (x := ax) (d := ad) (sub_fr F11 HG) X TR B (by (repeat (with_reducible refine dep_lt ?_)); first | exact Nat.lt_of_lt_of_le hdp (Nat.le_of_ble_eq_true rfl) | omega | (simp only [depth_deeper, depth_in1, units_deeper, units_in1]; omega)) (by (repeat (with_reducible refine uni_lt ?_)); first | exact Nat.lt_of_lt_of_le hun (Nat.le_of_ble_eq_true rfl) | omega | (simp only [depth_deeper, depth_in1, units_deeper, units_in1]; omega)) hh G10 (N11 (154, _) (by k_mem)).1 hP20 ht5 (N11 (ax, _) (by k_mem)).1 (N11 (ad, _) (by k_mem)).1 (gq _ F11.keep (N11 (tp2, tupOf _) (by k_mem)).1) hsm (by omega) ?_
  intro s12 t12 ps6 Kp12 e12 ht6
  obtain ⟨F12, N12⟩ := step1 Kp12 F11 N11 (by k_upd) e12
  clear F11 N11
  have G12 := Kp12.gens G10
  dsimp only [StrBack]
  walk1
  refine append_list_c (l := ll) (its := li) (n := nl) (N12 (ll, _) (by k_mem)).1 (Nat.le_trans hli (Nat.le_of_ble_eq_true rfl)) ?_
  intro s13 Kp13 e13
  obtain ⟨F13, N13⟩ := step1 Kp13 F12 N12 (by k_upd) e13
  have G13 := Kp13.gens G12
  clear F12 N12
  k_steps
  refine reset_c (items := its.push (.ref tp2)) (new := #[]) (args := []) (x := ax) (d := ad) (sub_fr F13 HG) X TR (by (repeat (with_reducible refine dep_lt ?_)); first | exact Nat.lt_of_lt_of_le hdp (Nat.le_of_ble_eq_true rfl) | omega | (simp only [depth_deeper, depth_in1, units_deeper, units_in1]; omega)) (N13 (ax, _) (by k_mem)).1 (N13 (ad, _) (by k_mem)).1 hax0 had0 (by rw [Array.size_push]; omega) (show 0 ≤ 100000 by decide) (.inr ⟨rfl, rfl⟩) ?_
  intro s14 n14 u14 Kp14 g1 g2
  obtain ⟨F14, N14⟩ := step2 Kp14 F13 N13 (by k_upd) (by k_upd) g1 g2 n10
  clear F13 N13
  dsimp only
  k_steps
  (with_reducible rename News _ _ _ _ => N9); (with_reducible rename Fr _ _ _ _ => F9)
  refine hQ _ ps4 ps6 n14 t1 u14 ?_ (N9 (147, _) (by k_mem)).1 ht4 (N9 (154, _) (by k_mem)).1 ht6 ⟨t12, nl + 1, (N9 (ll, _) (by k_mem)).1⟩ (N9 (ax, _) (by k_mem)).1 (N9 (ad, _) (by k_mem)).1
  refine kept_of hkeep F9 hL.symm N9 hT ?_ (Kp14.os.trans (Kp13.os.trans (Kp12.os.trans (Kp10.os.trans (Kp8.os.trans (Kp6.os.trans Kp.os)))))) (Kp14.drawn.trans (Kp13.drawn.trans (Kp12.drawn.trans (Kp10.drawn.trans (Kp8.drawn.trans (Kp6.drawn.trans Kp.drawn)))))) (fun _ => Kp14.gens G13)
  intro q hq hn
  simp only [List.mem_cons, List.not_mem_nil, or_false, not_or] at hq hn
  rcases hq with rfl | rfl | rfl | rfl | rfl | rfl | rfl
  · k_mem
  · k_mem
  · exact absurd rfl hn.1
  · exact absurd rfl hn.2.1
  · exact absurd rfl hn.2.2.1
  · exact absurd rfl hn.2.2.2.1
  · exact absurd rfl hn.2.2.2.2
end
/- P11_1k -/
section
open PySem PySem.W PySem.Calls PyProof.Rows
local macro_rules | `(tactic| k_handed) => `(tactic| fail)
theorem strs_push {vs : List Value} {ys : List Str} {y : Str} {t : Tok} (h : StrsAre vs ys) : StrsAre (vs ++ [.str y t]) (ys ++ [y]) := by
  induction h with
  | nil => exact .cons _ _ .nil
  | cons _ _ _ ih => exact .cons _ _ ih
theorem vstr_c {prog : Program} {w : World} {A : Around} {E : Value → Shared → Prop} {s : Shared} {H₀ : Heap} {p : Program} {loose : List Str} {mg mb : Str → Option Value} {Q : Value → Shared → Prop} {bm : Addr} {ob : Obj} {ps1 ps2 : Array Value} {x xd ll ax ad : Addr} {ml cl isz : Int} {cw sc : Str} {k : VTok} {li items : Array Value} {nl n : Nat} {t1 t2 : Tok} {a : Addr} {f u sep : Str} {ta tb tsep : Tok} {its : Array Value} {ps0 : List (Str × Str)} {lines : List Str} (hprog : prog = PySem.Challenge.pw_yh0022_01)
    (HS : Sub H₀ s.heap) (X : (heapK w.params).In H₀) (TR : TopRead p loose mg mb H₀) (hdp : A.depth < 470) (B : BMod H₀ mainGlobals mg bm ob) (hun : A.units < 1700) (hh : A.handled = none) (G : AllBare s.gens)
    (hP1 : s.heap.get? 147 = some (tabObj ps1)) (hP10 : H₀.get? 147 = none) (ht1 : TriplesOk ps1.toList) (hP2 : s.heap.get? 154 = some (tabObj ps2)) (hP20 : H₀.get? 154 = none) (ht2 : TriplesOk ps2.toList)
    (hx : s.heap.get? x = some (instObj 101 xd)) (hxd : s.heap.get? xd = some (vfD w.params ml cl cw sc ll ax k)) (hll : s.heap.get? ll = some (listOf li nl)) (hax : s.heap.get? ax = some (lobj 185 ad items n)) (had : s.heap.get? ad = some (accD w.params isz t1 t2)) (hx0 : H₀.get? x = none) (hxd0 : H₀.get? xd = none) (hll0 : H₀.get? ll = none) (hax0 : H₀.get? ax = none) (had0 : H₀.get? ad = none) (hit : items = its.push (.ref a)) (ha : s.heap.get? a = some (tupOf [.str f ta, .str u tb])) (hpt : Parts s.heap its.toList ps0)
    (hsm : ∀ p ∈ ps0 ++ [(f, u)], p.1.length ≤ 1000 ∧ p.2.length ≤ 1000) (hln : (ps0 ++ [(f, u)]).length ≤ 900) (hfu : (f == (" " : Str) && u == ("" : Str)) = false) (hok : PyData.strOk f = true ∧ PyData.strOk u = true) (hisz : 0 ≤ isz) (hbig : isz ≤ 100000) (hpos : 0 < isz + plen (ps0 ++ [(f, u)])) (hli : li.size ≤ 100000)
    (hno : isz ≠ 0 ∨ (isz = 0 ∧ plen (ps0 ++ [(f, u)]) ≠ 0 ∧ Txt.isspace (ptext (ps0 ++ [(f, u)])) = false))
    (hlines : StrsAre li.toList lines) (hroom : ((lines ++ [ptext (ps0 ++ [(f, u)])]).map (·.length)).sum + (lines ++ [ptext (ps0 ++ [(f, u)])]).length * sep.length ≤ 16777216)
    (hQ : ∀ s' ps1' ps2' t, Kept [ll, ax, ad, 147, 154] s s' → s'.heap.get? 147 = some (tabObj ps1') → TriplesOk ps1'.toList → s'.heap.get? 154 = some (tabObj ps2') → TriplesOk ps2'.toList → Q (.str (Txt.join sep (lines ++ [ptext (ps0 ++ [(f, u)])])) t) s') :
    wpAny (model prog w) A (call (.ref 49) [.ref x, .str sep tsep]) Q E s := by
  have : PySem.Challenge.rw_yh0022_01.prog = PySem.Challenge.rw_yh0022_01.prog ∧ heapK = heapK := by k_fill; exact ⟨rfl, rfl⟩
  clear this
  obtain ⟨n1, n2, n3, n4, n5, n6, n7, n8, n9, n10, n11, n12, n13, n14, n15, n16, n17, n18, n19, n20⟩ := vf_nes hx hxd hll hax had hP1 hP2
  have m1 : @Ne Nat a x := upd_ne ha hx (by simp)
  have m2 : @Ne Nat a xd := upd_ne ha hxd (by simp)
  have m3 : @Ne Nat a ll := upd_ne ha hll (by simp)
  have m4 : @Ne Nat a ax := upd_ne ha hax (by simp)
  have m5 : @Ne Nat a ad := upd_ne ha had (by simp)
  have m6 : @Ne Nat a 147 := upd_ne ha hP1 (by simp)
  have m7 : @Ne Nat a 154 := upd_ne ha hP2 (by simp)
  have hit9 := hit
  subst hit
  have hT : ∀ q ∈ [(x, instObj 101 xd), (xd, vfD w.params ml cl cw sc ll ax k), (ll, listOf li nl), (ax, lobj 185 ad (its.push (.ref a)) n), (ad, accD w.params isz t1 t2), ((147 : Addr), tabObj ps1), ((154 : Addr), tabObj ps2)], s.heap.get? q.1 = some q.2 := (all_cons hx (all_cons hxd (all_cons hll (all_cons hax (all_cons had (all_cons hP1 (all_cons hP2 all_nil)))))))
  refine wpAny_call ?_
  refine enter _ hT HS (all_cons hx0 (all_cons hxd0 (all_cons hll0 (all_cons hax0 (all_cons had0 (all_cons hP10 (all_cons hP20 all_nil))))))) X TR (by k_is) (by k_is) (Nat.lt_of_lt_of_le hdp (Nat.le_of_ble_eq_true rfl)) (BindsTo.of_eq (binds := [("self", .ref x), ("linesep", .str sep tsep)]) rfl) (locs rfl) (by decide) rfl rfl rfl ?_
  intro g L' h₁ F N XG TG HG hkeep hk₁ hL
  have ga : g.get? a = some (tupOf [.str f ta, .str u tb]) := hkeep a _ (by simp only [List.map_cons, List.map_nil, List.mem_cons, List.not_mem_nil, or_false, not_or]; exact ⟨m1, m2, m3, m4, m5, m6, m7⟩) ha
  have gp : Parts g its.toList ps0 := parts_hide hkeep hT vf_nt hpt
  dsimp only
  (try k_fold)
  k_steps
  refine newline1_c (x := x) (its := its) (a := a) hprog (sub_fr F HG) X TR (by (repeat (with_reducible refine dep_lt ?_)); first | exact Nat.lt_of_lt_of_le hdp (Nat.le_of_ble_eq_true rfl) | omega | (simp only [depth_deeper, depth_in1, units_deeper, units_in1]; omega)) B (by (repeat (with_reducible refine uni_lt ?_)); first | exact Nat.lt_of_lt_of_le hun (Nat.le_of_ble_eq_true rfl) | omega | (simp only [depth_deeper, depth_in1, units_deeper, units_in1]; omega)) hh G (N (147, _) (by k_mem)).1 hP10 ht1 (N (154, _) (by k_mem)).1 hP20 ht2
    (N (x, _) (by k_mem)).1 (N (xd, _) (by k_mem)).1 (N (ll, _) (by k_mem)).1 (N (ax, _) (by k_mem)).1 (N (ad, _) (by k_mem)).1 hx0 hxd0 hll0 hax0 had0 rfl (F.keep _ _ ga) (gp.keeps fun b o e _ => F.keep b o e) hsm hln hfu hok hisz hbig hpos hli hno ?_
  intro s2 ps3 ps4 nn u1 u2 Kp e1 ht3 e2 ht4 e3 e4 e5
  dsimp only at Kp e1 e2 e3 e4 e5
  obtain ⟨tt, nl2, e3⟩ := e3
  obtain ⟨F2, N2⟩ := stepU (news' := [(x, instObj 101 xd), (xd, vfD w.params ml cl cw sc ll ax k), (ll, listOf (li.push (.str (ptext (ps0 ++ [(f, u)])) tt)) nl2), (ax, lobj 185 ad #[] nn), (ad, accD w.params 0 u1 u2), ((147 : Addr), tabObj ps3), ((154 : Addr), tabObj ps4)]) Kp F N (by simp) (by
    intro q hq
    simp only [List.mem_cons, List.not_mem_nil, or_false] at hq
    rcases hq with rfl | rfl | rfl | rfl | rfl | rfl | rfl
    · exact .inl ⟨by k_mem, by simp only [List.mem_cons, List.not_mem_nil, or_false, not_or]; exact ⟨n2, n3, n4, n11, n12⟩⟩
    · exact .inl ⟨by k_mem, by simp only [List.mem_cons, List.not_mem_nil, or_false, not_or]; exact ⟨n5, n6, n7, n13, n14⟩⟩
    · exact .inr ⟨e3, by simp⟩
    · exact .inr ⟨e4, by simp⟩
    · exact .inr ⟨e5, by simp⟩
    · exact .inr ⟨e1, by simp⟩
    · exact .inr ⟨e2, by simp⟩)
  clear F N
  dsimp only
  k_steps
  refine join_list (items := li.push (.str (ptext (ps0 ++ [(f, u)])) tt)) (ys := lines ++ [ptext (ps0 ++ [(f, u)])]) ⟨_, (N2 (ll, _) (by k_mem)).1, rfl, _, rfl⟩ ?_ hroom ?_
  · rw [Array.toList_push]
    exact strs_push hlines
  · intro t' k9
    refine hQ _ ps3 ps4 t' ?_ (N2 (147, _) (by k_mem)).1 ht3 (N2 (154, _) (by k_mem)).1 ht4
    refine kept_of hkeep F2 hL.symm N2 hT ?_ Kp.os Kp.drawn Kp.gens
    intro q hq hn
    simp only [List.mem_cons, List.not_mem_nil, or_false, not_or] at hq hn
    rcases hq with rfl | rfl | rfl | rfl | rfl | rfl | rfl
    · k_mem
    · k_mem
    · exact absurd rfl hn.1
    · exact absurd rfl hn.2.1
    · exact absurd rfl hn.2.2.1
    · exact absurd rfl hn.2.2.2.1
    · exact absurd rfl hn.2.2.2.2
end
/- P12_1k -/
section
open PySem PySem.W PySem.Calls PyProof.Rows
theorem appendA_c {prog : Program} {w : World} {A : Around} {E : Value → Shared → Prop} {s : Shared} {H₀ : Heap} {p : Program} {loose : List Str} {mg mb : Str → Option Value} {Q : Value → Shared → Prop} {bm : Addr} {ob : Obj} {ps1 ps2 : Array Value} {x xd ll ax ad : Addr} {ml cl isz : Int} {cw sc : Str} {k : VTok} {li items : Array Value} {nl n : Nat} {t1 t2 : Tok} {f u : Str} {ta tb : Tok} {ps0 : List (Str × Str)} (hprog : prog = PySem.Challenge.pw_yh0022_01)
    (HS : Sub H₀ s.heap) (X : (heapK w.params).In H₀) (TR : TopRead p loose mg mb H₀) (hdp : A.depth < 470) (B : BMod H₀ mainGlobals mg bm ob) (hun : A.units < 1700) (hh : A.handled = none) (G : AllBare s.gens)
    (hP1 : s.heap.get? 147 = some (tabObj ps1)) (hP10 : H₀.get? 147 = none) (ht1 : TriplesOk ps1.toList) (hP2 : s.heap.get? 154 = some (tabObj ps2)) (hP20 : H₀.get? 154 = none) (ht2 : TriplesOk ps2.toList)
    (hx : s.heap.get? x = some (instObj 101 xd)) (hxd : s.heap.get? xd = some (vfD w.params ml cl cw sc ll ax k)) (hll : s.heap.get? ll = some (listOf li nl)) (hax : s.heap.get? ax = some (lobj 185 ad items n)) (had : s.heap.get? ad = some (accD w.params isz t1 t2)) (hx0 : H₀.get? x = none) (hxd0 : H₀.get? xd = none) (hll0 : H₀.get? ll = none) (hax0 : H₀.get? ax = none) (had0 : H₀.get? ad = none) (hpt : Parts s.heap items.toList ps0)
    (hsm : ∀ p ∈ ps0 ++ [(f, u)], p.1.length ≤ 1000 ∧ p.2.length ≤ 1000) (hln : (ps0 ++ [(f, u)]).length ≤ 900) (hisz : 0 ≤ isz) (hbig : isz ≤ 100000) (hfit : isz + plen (ps0 ++ [(f, u)]) ≤ ml) (hml : ml ≤ 1000000)
    (hQ : ∀ s' ps1' n' tp, Kept [ax, 147] s s' → s'.heap.get? 147 = some (tabObj ps1') → TriplesOk ps1'.toList → s.heap.get? tp = none → s'.heap.get? tp = some (tupOf [.str f ta, .str u tb]) →
      s'.heap.get? ax = some (lobj 185 ad (items.push (.ref tp)) n') → Q .none s') :
    wpAny (model prog w) A (call (.ref 98) [.ref x, .str f ta, .str u tb]) Q E s := by
  have : PySem.Challenge.rw_yh0022_01.prog = PySem.Challenge.rw_yh0022_01.prog ∧ heapK = heapK := by k_fill; exact ⟨rfl, rfl⟩
  clear this
  obtain ⟨n1, n2, n3, n4, n5, n6, n7, n8, n9, n10, n11, n12, n13, n14, n15, n16, n17, n18, n19, n20⟩ := vf_nes hx hxd hll hax had hP1 hP2
  have hT : ∀ q ∈ [(x, instObj 101 xd), (xd, vfD w.params ml cl cw sc ll ax k), (ll, listOf li nl), (ax, lobj 185 ad items n), (ad, accD w.params isz t1 t2), ((147 : Addr), tabObj ps1), ((154 : Addr), tabObj ps2)], s.heap.get? q.1 = some q.2 := (all_cons hx (all_cons hxd (all_cons hll (all_cons hax (all_cons had (all_cons hP1 (all_cons hP2 all_nil)))))))
  refine wpAny_call ?_
  refine enter _ hT HS (all_cons hx0 (all_cons hxd0 (all_cons hll0 (all_cons hax0 (all_cons had0 (all_cons hP10 (all_cons hP20 all_nil))))))) X TR (by k_is) (by k_is) (Nat.lt_of_lt_of_le hdp (Nat.le_of_ble_eq_true rfl)) (BindsTo.of_eq (binds := [("self", .ref x), ("fws", .str f ta), ("string", .str u tb)]) rfl) (locs rfl) (by decide) rfl rfl rfl ?_
  intro g L' h₁ F N XG TG HG hkeep hk₁ hL
  have gp : Parts g items.toList ps0 := parts_hide hkeep hT vf_nt hpt
  have hpb := plen_bound hsm
  have hsz9 : items.size ≤ 900 := by have := hpt.1; simp only [Array.length_toList, List.length_append, List.length_cons, List.length_nil] at this hln; omega
  dsimp only
  (try k_fold)
  k_steps
  refine push_c (x := ax) (d := ad) (items := items) (n := n) (sub_fr F HG) X TR (by (repeat (with_reducible refine dep_lt ?_)); first | exact Nat.lt_of_lt_of_le hdp (Nat.le_of_ble_eq_true rfl) | omega | (simp only [depth_deeper, depth_in1, units_deeper, units_in1]; omega)) (N (ax, _) (by k_mem)).1 (N (ad, _) (by k_mem)).1 hax0 had0 (Nat.le_trans hsz9 (Nat.le_of_ble_eq_true rfl)) ?_
  intro s2 tp Kp e1 e2 e3
  obtain ⟨F2, N2'⟩ := step1 Kp F N (by k_upd) e3
  have q2 := allNe_of N e1
  simp only [AllNe, and_true] at q2
  (repeat (obtain ⟨_, q2⟩ := q2))
  have N2 := news_fresh Kp F N2' e1 e2
  clear F N N2'
  have G2 := Kp.gens G
  (try dsimp only)
  k_steps
  have gq : ∀ h : Heap, (∀ b o, g.get? b = some o → h.get? b = some o) → h.get? tp = some (tupOf [.str f ta, .str u tb]) → Parts h (items.push (Value.ref tp)).toList (ps0 ++ [(f, u)]) := fun h k e => by
    rw [Array.toList_push]; exact parts_push (gp.keeps fun b o q _ => k b o q) ⟨tp, ta, tb, rfl, e⟩
  (with_reducible rename News _ _ _ _ => N3); (with_reducible rename Fr _ _ _ _ => F3)
  refine len_c (parts := ps0 ++ [(f, u)]) (x := ax) (d := ad) (sub_fr F3 HG) X TR B (by (repeat (with_reducible refine dep_lt ?_)); first | exact Nat.lt_of_lt_of_le hdp (Nat.le_of_ble_eq_true rfl) | omega | (simp only [depth_deeper, depth_in1, units_deeper, units_in1]; omega)) (by (repeat (with_reducible refine uni_lt ?_)); first | exact Nat.lt_of_lt_of_le hun (Nat.le_of_ble_eq_true rfl) | omega | (simp only [depth_deeper, depth_in1, units_deeper, units_in1]; omega)) hh G2 (N3 (147, _) (by k_mem)).1 hP10 ht1 (N3 (ax, _) (by k_mem)).1 (N3 (ad, _) (by k_mem)).1 (gq _ F3.keep (N3 (tp, tupOf _) (by k_mem)).1) (fun p hp => by have := hsm p hp; omega) ?_
  intro s4 t4 ps3 Kp4 e41 ht3
  obtain ⟨F4, N4⟩ := step1 Kp4 F3 N3 (by k_upd) e41
  clear F3 N3
  dsimp only [W.LenBack]
  refine ⟨⟨by omega, by omega⟩, ?_⟩
  k_steps
  refine hQ _ ps3 (n + 1) tp ?_ (N4 (147, _) (by k_mem)).1 ht3 ?_ (N4 (tp, tupOf _) (by k_mem)).1 (N4 (ax, _) (by k_mem)).1
  · refine kept_of hkeep F4 hL.symm N4 hT ?_ (Kp4.os.trans Kp.os) (Kp4.drawn.trans Kp.drawn) (fun q => Kp4.gens (Kp.gens q))
    intro q hq hn
    simp only [List.mem_cons, List.not_mem_nil, or_false, not_or] at hq hn
    rcases hq with rfl | rfl | rfl | rfl | rfl | rfl | rfl
    · k_mem
    · k_mem
    · k_mem
    · exact absurd rfl hn.1
    · k_mem
    · exact absurd rfl hn.2
    · k_mem
  · exact fresh_of hkeep N4 (.head _) (by
      intro q hq
      simp only [List.mem_cons, List.not_mem_nil, or_false] at hq
      rcases hq with rfl | rfl | rfl | rfl | rfl | rfl | rfl <;> assumption)
end
/- P13_1k -/
section
open PySem PySem.W PySem.Calls PyProof.Rows
theorem appendB_c {prog : Program} {w : World} {A : Around} {E : Value → Shared → Prop} {s : Shared} {H₀ : Heap} {p : Program} {loose : List Str} {mg mb : Str → Option Value} {Q : Value → Shared → Prop} {bm : Addr} {ob : Obj} {ps1 ps2 : Array Value} {x xd ll ax ad : Addr} {ml cl isz : Int} {cw sc : Str} {k : VTok} {li items : Array Value} {nl n : Nat} {t1 t2 : Tok} {u : Str} {ta tb : Tok} (hprog : prog = PySem.Challenge.pw_yh0022_01)
    (HS : Sub H₀ s.heap) (X : (heapK w.params).In H₀) (TR : TopRead p loose mg mb H₀) (hdp : A.depth < 470) (B : BMod H₀ mainGlobals mg bm ob) (hun : A.units < 1700) (hh : A.handled = none) (G : AllBare s.gens)
    (hP1 : s.heap.get? 147 = some (tabObj ps1)) (hP10 : H₀.get? 147 = none) (ht1 : TriplesOk ps1.toList) (hP2 : s.heap.get? 154 = some (tabObj ps2)) (hP20 : H₀.get? 154 = none) (ht2 : TriplesOk ps2.toList)
    (hx : s.heap.get? x = some (instObj 101 xd)) (hxd : s.heap.get? xd = some (vfD w.params ml cl cw sc ll ax k)) (hll : s.heap.get? ll = some (listOf li nl)) (hax : s.heap.get? ax = some (lobj 185 ad items n)) (had : s.heap.get? ad = some (accD w.params isz t1 t2)) (hx0 : H₀.get? x = none) (hxd0 : H₀.get? xd = none) (hll0 : H₀.get? ll = none) (hax0 : H₀.get? ax = none) (had0 : H₀.get? ad = none) (hit : items = #[]) (hsc : sc = " ") (hu : u.length ≤ 900) (hisz : 0 < isz) (hbig : isz ≤ 100000) (hover : ml < isz + plen [(" ", u)]) (hml : ml ≤ 1000000) (hli : li.size ≤ 100000)
    (hQ : ∀ s' ps1' ps2' n' u1 u2 tp, Kept [ll, ax, ad, 147, 154] s s' → s'.heap.get? 147 = some (tabObj ps1') → TriplesOk ps1'.toList → s'.heap.get? 154 = some (tabObj ps2') → TriplesOk ps2'.toList →
      (∃ tt nl', s'.heap.get? ll = some (listOf (li.push (.str "" tt)) nl')) → s.heap.get? tp = none → (∃ ta tb, s'.heap.get? tp = some (tupOf [.str " " ta, .str u tb])) →
      s'.heap.get? ax = some (lobj 185 ad #[.ref tp] n') → s'.heap.get? ad = some (accD w.params 0 u1 u2) → Q .none s') :
    wpAny (model prog w) A (call (.ref 98) [.ref x, .str " " ta, .str u tb]) Q E s := by
  have : PySem.Challenge.rw_yh0022_01.prog = PySem.Challenge.rw_yh0022_01.prog ∧ heapK = heapK := by k_fill; exact ⟨rfl, rfl⟩
  clear this
  obtain ⟨n1, n2, n3, n4, n5, n6, n7, n8, n9, n10, n11, n12, n13, n14, n15, n16, n17, n18, n19, n20⟩ := vf_nes hx hxd hll hax had hP1 hP2
  have hT : ∀ q ∈ [(x, instObj 101 xd), (xd, vfD w.params ml cl cw sc ll ax k), (ll, listOf li nl), (ax, lobj 185 ad items n), (ad, accD w.params isz t1 t2), ((147 : Addr), tabObj ps1), ((154 : Addr), tabObj ps2)], s.heap.get? q.1 = some q.2 := (all_cons hx (all_cons hxd (all_cons hll (all_cons hax (all_cons had (all_cons hP1 (all_cons hP2 all_nil)))))))
  refine wpAny_call ?_
  refine enter _ hT HS (all_cons hx0 (all_cons hxd0 (all_cons hll0 (all_cons hax0 (all_cons had0 (all_cons hP10 (all_cons hP20 all_nil))))))) X TR (by k_is) (by k_is) (Nat.lt_of_lt_of_le hdp (Nat.le_of_ble_eq_true rfl)) (BindsTo.of_eq (binds := [("self", .ref x), ("fws", .str " " ta), ("string", .str u tb)]) rfl) (locs rfl) (by decide) rfl rfl rfl ?_
  intro g L' h₁ F N XG TG HG hkeep hk₁ hL
  subst hit
  subst hsc
  have hsm : ∀ p ∈ [((" " : Str), u)], p.1.length ≤ 1000 ∧ p.2.length ≤ 1000 := by
    intro p hp
    simp only [List.mem_cons, List.not_mem_nil, or_false] at hp
    subst hp
    exact ⟨show (" " : Str).length ≤ 1000 by decide, by dsimp only; omega⟩
  have hpb := plen_bound hsm
  simp only [List.length_cons, List.length_nil] at hpb
  dsimp only
  (try k_fold)
  k_steps
  refine push_c (x := ax) (d := ad) (items := #[]) (n := n) (sub_fr F HG) X TR (by (repeat (with_reducible refine dep_lt ?_)); first | exact Nat.lt_of_lt_of_le hdp (Nat.le_of_ble_eq_true rfl) | omega | (simp only [depth_deeper, depth_in1, units_deeper, units_in1]; omega)) (N (ax, _) (by k_mem)).1 (N (ad, _) (by k_mem)).1 hax0 had0 (Nat.le_of_ble_eq_true rfl) ?_
  intro s2 tp Kp e1 e2 e3
  obtain ⟨F2, N2'⟩ := step1 Kp F N (by k_upd) e3
  have q2 := allNe_of N e1
  simp only [AllNe, and_true] at q2
  (repeat (obtain ⟨_, q2⟩ := q2))
  have N2 := news_fresh Kp F N2' e1 e2
  clear F N N2'
  have G2 := Kp.gens G
  (try dsimp only)
  k_steps
  (with_reducible rename News _ _ _ _ => N3); (with_reducible rename Fr _ _ _ _ => F3)
  refine len_c (parts := [(" ", u)]) (x := ax) (d := ad) (sub_fr F3 HG) X TR B (by (repeat (with_reducible refine dep_lt ?_)); first | exact Nat.lt_of_lt_of_le hdp (Nat.le_of_ble_eq_true rfl) | omega | (simp only [depth_deeper, depth_in1, units_deeper, units_in1]; omega)) (by (repeat (with_reducible refine uni_lt ?_)); first | exact Nat.lt_of_lt_of_le hun (Nat.le_of_ble_eq_true rfl) | omega | (simp only [depth_deeper, depth_in1, units_deeper, units_in1]; omega)) hh G2 (N3 (147, _) (by k_mem)).1 hP10 ht1 (N3 (ax, _) (by k_mem)).1 (N3 (ad, _) (by k_mem)).1 (parts_one (N3 (tp, tupOf _) (by k_mem)).1) (fun p hp => by have := hsm p hp; omega) ?_
  intro s4 t4 ps3 Kp4 e41 ht3
  obtain ⟨F4, N4⟩ := step1 Kp4 F3 N3 (by k_upd) e41
  clear F3 N3
  dsimp only [W.LenBack]
  refine ⟨⟨by omega, by omega⟩, ?_⟩
  k_steps
  refine for_own ?_ (fun _ => rfl)
  k_steps
  (with_reducible rename News _ _ _ _ => N4); (with_reducible rename Fr _ _ _ _ => F4)
  refine iter_str_own (by decide +kernel) F4 N4 ?_
  intro I h5 oI hI F5 N5 hoff5 k5
  have q5 := hoff5
  simp only [List.forall_mem_cons, List.not_mem_nil, false_implies, implies_true, and_true] at q5
  (repeat (obtain ⟨_, q5⟩ := q5))
  clear F4 N4
  refine for_str_item (c := 32) F5 N5 hoff5 hI rfl (fun _ => rfl) ?_
  intro h6 oI6 tk6 tk6' hI6 F6 N6 x6
  clear F5 N5
  refine wpAny_assign_Name ?_
  k_steps
  refine for_own ?_ (fun _ => rfl)
  k_steps
  (with_reducible rename News _ _ _ _ => N7); (with_reducible rename Fr _ _ _ _ => F7)
  refine pc_c (x := ax) (d := ad) (items := #[.ref tp]) (c := 1) hprog (sub_fr F7 HG) X TR (by (repeat (with_reducible refine dep_lt ?_)); first | exact Nat.lt_of_lt_of_le hdp (Nat.le_of_ble_eq_true rfl) | omega | (simp only [depth_deeper, depth_in1, units_deeper, units_in1]; omega)) (N7 (ax, _) (by k_mem)).1 (N7 (ad, _) (by k_mem)).1 rfl ?_
  intro s8 t8 Kp8
  obtain ⟨F8, N8⟩ := step0 Kp8 F7 N7
  clear F7 N7
  k_steps
  (with_reducible rename News _ _ _ _ => N9); (with_reducible rename Fr _ _ _ _ => F9)
  refine iter_range_own (by assumption) (by decide +kernel) F9 N9 ?_
  intro J h10 F10 N10 hoff10 k10
  clear F9 N9
  refine for_range_done hh F10 N10 hoff10 (by decide +kernel) ?_
  intro h11 F11 N11 x11
  clear F10 N10
  k_steps
  refine LoopB.cont ?_
  have q12 := hoff5
  refine for_str_done hh F11 N11 hoff5 hI6 rfl ?_
  intro h12 F12 N12 x12
  clear F11 N11
  k_steps
  (with_reducible rename News _ _ _ _ => N13); (with_reducible rename Fr _ _ _ _ => F13)
  have G13 := Kp8.gens (Kp4.gens G2)
  refine pop_c (x := ax) (d := ad) (items := #[]) (v := .ref tp) hprog (sub_fr F13 HG) X TR (by (repeat (with_reducible refine dep_lt ?_)); first | exact Nat.lt_of_lt_of_le hdp (Nat.le_of_ble_eq_true rfl) | omega | (simp only [depth_deeper, depth_in1, units_deeper, units_in1]; omega)) (N13 (ax, _) (by k_mem)).1 (N13 (ad, _) (by k_mem)).1 hax0 had0 (Nat.zero_le _) ?_
  intro s14 nn14 Kp14 e14
  obtain ⟨F14, N14⟩ := step1 Kp14 F13 N13 (by k_upd) e14
  have G14 := Kp14.gens G13
  clear F13 N13
  refine unpackN_ F14 N14 (items := #[.str " " ta, .str u tb]) ⟨_, (N14 (tp, tupOf _) (by k_mem)).1, rfl, _, rfl⟩ hh rfl rfl ?_
  intro h15 F15 N15
  clear F14 N14
  k_steps
  (with_reducible rename News _ _ _ _ => N16); (with_reducible rename Fr _ _ _ _ => F16)
  refine newline0_c (x := x) (xd := xd) (ll := ll) (ax := ax) (ad := ad) (items := #[]) hprog (sub_fr F16 HG) X TR (by (repeat (with_reducible refine dep_lt ?_)); first | exact Nat.lt_of_lt_of_le hdp (Nat.le_of_ble_eq_true rfl) | omega | (simp only [depth_deeper, depth_in1, units_deeper, units_in1]; omega)) B (by (repeat (with_reducible refine uni_lt ?_)); first | exact Nat.lt_of_lt_of_le hun (Nat.le_of_ble_eq_true rfl) | omega | (simp only [depth_deeper, depth_in1, units_deeper, units_in1]; omega)) hh G14 (N16 (147, _) (by k_mem)).1 hP10 ht3 (N16 (154, _) (by k_mem)).1 hP20 ht2
    (N16 (x, _) (by k_mem)).1 (N16 (xd, _) (by k_mem)).1 (N16 (ll, _) (by k_mem)).1 (N16 (ax, _) (by k_mem)).1 (N16 (ad, _) (by k_mem)).1 hx0 hxd0 hll0 hax0 had0 rfl hisz hbig hli ?_
  intro s17 ps5 ps6 nn u1 u2 Kp17 e1 ht5 e2 ht6 e3 e4 e5
  obtain ⟨tt, nl2, e3⟩ := e3
  obtain ⟨F17, N17⟩ := stepU (news' := [(x, instObj 101 xd), (xd, vfD w.params ml cl cw " " ll ax k), (ll, listOf (li.push (.str "" tt)) nl2), (ax, lobj 185 ad #[] nn), (ad, accD w.params 0 u1 u2), ((147 : Addr), tabObj ps5), ((154 : Addr), tabObj ps6)]) Kp17 F16 N16 (by simp) (by
    intro q hq
    simp only [List.mem_cons, List.not_mem_nil, or_false] at hq
    rcases hq with rfl | rfl | rfl | rfl | rfl | rfl | rfl
    · exact .inl ⟨by k_mem, by simp only [List.mem_cons, List.not_mem_nil, or_false, not_or]; exact ⟨n2, n3, n4, n11, n12⟩⟩
    · exact .inl ⟨by k_mem, by simp only [List.mem_cons, List.not_mem_nil, or_false, not_or]; exact ⟨n5, n6, n7, n13, n14⟩⟩
    · exact .inr ⟨e3, by simp⟩
    · exact .inr ⟨e4, by simp⟩
    · exact .inr ⟨e5, by simp⟩
    · exact .inr ⟨e1, by simp⟩
    · exact .inr ⟨e2, by simp⟩)
  have G17 := Kp17.gens G14
  clear F16 N16
  k_steps
  (with_reducible rename News _ _ _ _ => N18); (with_reducible rename Fr _ _ _ _ => F18)
  refine push_c (x := ax) (d := ad) (items := #[]) (sub_fr F18 HG) X TR (by (repeat (with_reducible refine dep_lt ?_)); first | exact Nat.lt_of_lt_of_le hdp (Nat.le_of_ble_eq_true rfl) | omega | (simp only [depth_deeper, depth_in1, units_deeper, units_in1]; omega)) (N18 (ax, _) (by k_mem)).1 (N18 (ad, _) (by k_mem)).1 hax0 had0 (Nat.le_of_ble_eq_true rfl) ?_
  intro s19 tp2 Kp19 f1 f2 f3
  obtain ⟨F19, N19'⟩ := step1 Kp19 F18 N18 (by k_upd) f3
  have q19 := allNe_of N18 f1
  simp only [AllNe, and_true] at q19
  (repeat (obtain ⟨_, q19⟩ := q19))
  have N19 := news_fresh Kp19 F18 N19' f1 f2
  clear F18 N18 N19'
  k_steps
  dsimp only
  refine hQ _ ps5 ps6 _ u1 u2 tp2 ?_ (N19 (147, _) (by k_mem)).1 ht5 (N19 (154, _) (by k_mem)).1 ht6 ⟨tt, nl2, (N19 (ll, _) (by k_mem)).1⟩ ?_ ⟨_, _, (N19 (tp2, tupOf _) (by k_mem)).1⟩ (N19 (ax, _) (by k_mem)).1 (N19 (ad, _) (by k_mem)).1
  · refine kept_of hkeep F19 hL.symm N19 hT ?_ (Kp19.os.trans (Kp17.os.trans (Kp14.os.trans (Kp8.os.trans (Kp4.os.trans Kp.os))))) (Kp19.drawn.trans (Kp17.drawn.trans (Kp14.drawn.trans (Kp8.drawn.trans (Kp4.drawn.trans Kp.drawn))))) (fun _ => Kp19.gens G17)
    intro q hq hn
    simp only [List.mem_cons, List.not_mem_nil, or_false, not_or] at hq hn
    rcases hq with rfl | rfl | rfl | rfl | rfl | rfl | rfl
    · k_mem
    · k_mem
    · exact absurd rfl hn.1
    · exact absurd rfl hn.2.1
    · exact absurd rfl hn.2.2.1
    · exact absurd rfl hn.2.2.2.1
    · exact absurd rfl hn.2.2.2.2
  · exact fresh_of hkeep N19 (.head _) (by
      intro q hq
      simp only [List.mem_cons, List.not_mem_nil, or_false] at hq
      rcases hq with rfl | rfl | rfl | rfl | rfl | rfl | rfl <;> assumption)
end
/- Q1_1k -/
section
open PySem PySem.W PySem.Calls PyProof.Rows
theorem figures_c {prog : Program} {w : World} {A : Around} {E : Value → Shared → Prop} {s : Shared} {H₀ : Heap} {p : Program} {loose : List Str} {mg mb : Str → Option Value} {Q : Value → Shared → Prop} {n : Nat} {t : Tok}
    (HS : Sub H₀ s.heap) (X : (heapK w.params).In H₀) (TR : TopRead p loose mg mb H₀) (hdp : A.depth < 470) (hh : A.handled = none)
    (hQ : ∀ s' t', Kept [] s s' → Q (.int (figs n) t') s') :
    wpAny (model prog w) A (call (.ref 274) [.int n t]) Q E s := by
  have : PySem.Challenge.rw_yh0022_01.prog = PySem.Challenge.rw_yh0022_01.prog ∧ heapK = heapK := by k_fill; exact ⟨rfl, rfl⟩
  clear this
  refine wpAny_call ?_
  refine enter [] all_nil HS all_nil X TR (by k_is) (by k_is) (Nat.lt_of_lt_of_le hdp (Nat.le_of_ble_eq_true rfl)) (BindsTo.of_eq (binds := [("number", .int n t)]) rfl) (locs rfl) (by decide) rfl rfl rfl ?_
  intro g L' h₁ F N XG TG HG hkeep hk₁ hL
  dsimp only
  (try k_fold)
  walk1
  walk1
  walk1
  walk1
  walk1
  walk1
  refine while_own ?_
  (with_reducible rename Fr _ _ _ _ => F2)
  refine' while_inv (fun k s' => ∃ (v c : Nat) (tv tc : Tok) (h : Heap) (tk : Nat), k = v ∧ c + figs v = figs n ∧ s' = { s with heap := h, toks := tk } ∧
    Fr g L' h (fun y => if y = Str.ofString "count" then some (.int (c : Int) tc) else if y = Str.ofString "number" then some (.int (v : Int) tv) else none)) ?turn9 n ⟨n, 0, t, ?tc9, _, _, rfl, Nat.zero_add _, rfl, fr_congr F2 ?eqn9⟩
  case eqn9 =>
    intro y
    by_cases hy : y = Str.ofString "count"
    · rw [if_pos hy, if_pos hy]; rfl
    · rw [if_neg hy, if_neg hy]
      simp only [List.reverse_cons, List.reverse_nil, List.nil_append, List.lookup]
      by_cases hz : y = Str.ofString "number"
      · rw [if_pos hz, hz]; simp
      · rw [if_neg hz, beq_false_of_ne hz]
  case turn9 =>
    rintro k s' ⟨v, c, tv, tc, h, tk, rfl, hv, rfl, F3⟩
    clear F2
    k_steps
    · (with_reducible rename Fr _ _ _ _ => F4)
      have hk9 : 0 < k := by omega
      have e9 : Int.fdiv (k : Int) 10 = ((k / 10 : Nat) : Int) := by rw [Int.fdiv_eq_ediv_of_nonneg _ (by decide)]; omega
      refine' ⟨k / 10, by omega, k / 10, c + 1, _, _, _, _, rfl, by rw [← hv, figs_pos hk9]; omega, rfl, fr_congr F4 ?eqn8⟩
      case eqn8 =>
        intro y
        by_cases hy : y = Str.ofString "count"
        · simp only [if_pos hy]; rfl
        · by_cases hz : y = Str.ofString "number"
          · simp only [if_neg hy, if_pos hz, e9]; rfl
          · simp only [if_neg hy, if_neg hz]
    · dsimp only
      have hk9 : k = 0 := by omega
      subst hk9
      rw [figs_zero, Nat.add_zero] at hv
      subst hv
      refine hQ _ _ (kept_of hkeep F3 hL.symm (news := []) (fun _ h => nomatch h) all_nil all_nil rfl rfl id)
end
/- L2_1k -/
local macro_rules | `(tactic| walk_at "call type:str") => `(tactic| (k_here; (with_reducible show wpAny _ _ (call (Value.type "str") [Value.int (Nat.cast _) _]) _ _ _); k_dflt (first | (refine str_of_nat (by first | assumption | omega) ?_) | fail "str_of_nat")))
local macro_rules | `(tactic| walk_at "call builtin:max") => `(tactic| (k_here; (with_reducible show wpAny _ _ (call (Value.builtin "max") [Value.int _ _, Value.int _ _]) _ _ _); k_dflt (first | (refine max_two_N (by first | exact rfl | assumption) (by k_asm) (by k_asm) ?_) | fail "max_two"); intro h' tk' F' N'; (try k_sweep)))
local macro_rules | `(tactic| walk_at "assign Tuple") => `(tactic| (k_here; (with_reducible show wpAny _ _ (assign (Expr.Tuple _ _ _) _ (Value.ref _)) _ _ _); k_dflt (first | (refine unpackN_ (by k_asm) (by k_asm) (by first | with_reducible assumption | (refine News.isTup (by k_asm) (by k_mem))) (by first | exact rfl | assumption) (by exact rfl) (by exact rfl) ?_) | fail "unpack"); intro h' F' N'; (try k_sweep)))
local macro_rules | `(tactic| walk_at "getMethod ref") => `(tactic| (k_here; (with_reducible show wpAny _ _ (getMethod (Value.ref _) "values" _) _ _ _); k_dflt (first | (refine getMethod_values (by k_asm) (by assumption) ?_) | fail "values")))
local macro_rules | `(tactic| walk_at "call builtin:dict.values") => `(tactic| (k_here; k_dflt (first | (refine call_values (by k_asm) (by k_asm) (by assumption) (by assumption) ?_) | fail "values"); intro v' h' F' N'; (try k_sweep)))
/- Q2_1k -/
section
open PySem PySem.W PySem.Calls PyProof.Rows
theorem glw_c {prog : Program} {w : World} {A : Around} {E : Value → Shared → Prop} {s : Shared} {H₀ : Heap} {p : Program} {loose : List Str} {mg mb : Str → Option Value} {Q : Value → Shared → Prop} {d : Addr} {od : Obj} {kvs : List (Int × Value)} {mx : Nat}
    (HS : Sub H₀ s.heap) (X : (heapK w.params).In H₀) (TR : TopRead p loose mg mb H₀) (hdp : A.depth < 470) (hh : A.handled = none) (hun : A.units < 1700)
    (hdo : s.heap.get? d = some od) (hdk : od.IsDictOf (PySem.intKind prog w) kvs) (hds : (d == sysModules) = false) (hv : ∀ p ∈ kvs, plainV p.2) (hmem0 : ∃ t0, Value.int (mx : Int) t0 ∈ kvs.map (·.2)) (hmx : ∀ n t, Value.int n t ∈ kvs.map (·.2) → n ≤ mx) (hlo : 1000 ≤ mx) (hf4 : 4 ≤ figs mx) (hhi : figs mx ≤ 100)
    (hQ : ∀ s' t', Kept [] s s' → Q (.int (figs mx) t') s') :
    wpAny (model prog w) A (call (.ref 28) [.ref d]) Q E s := by
  have : PySem.Challenge.rw_yh0022_01.prog = PySem.Challenge.rw_yh0022_01.prog ∧ heapK = heapK := by k_fill; exact ⟨rfl, rfl⟩
  clear this
  obtain ⟨t0, hmem⟩ := hmem0
  refine wpAny_call ?_
  refine enter [] all_nil HS all_nil X TR (by k_is) (by k_is) (Nat.lt_of_lt_of_le hdp (Nat.le_of_ble_eq_true rfl)) (BindsTo.of_eq (binds := [("linestarts", .ref d)]) rfl) (locs rfl) (by decide) rfl rfl rfl ?_
  intro g L' h₁ F N XG TG HG hkeep hk₁ hL
  have gd : g.get? d = some od := hkeep _ _ (by simp) hdo
  obtain ⟨ep, hka⟩ := KdkAt.of hdk
  have hda : ∀ h : Heap, (∀ b o, g.get? b = some o → h.get? b = some o) → Heap.DictAt (PySem.intKind prog w) h d kvs ep := fun h k => hka.dictAt (k _ _ gd)
  dsimp only
  (try k_fold)
  k_steps
  (with_reducible rename News _ _ _ _ => N2); (with_reducible rename Fr _ _ _ _ => F2)
  refine call_filter (knd := PySem.intKind prog w) (kvs := kvs) (ep := ep) (d := d) F2 N2 ⟨_, (N2 _ (.head _)).1, rfl, rfl⟩ (hda _ F2.keep) ?_
  intro I it h3 F3 N3 st3 hI3 hd3 k3 no1 no2
  have hitL : @Ne Nat it L' := fun e => by
    obtain ⟨o, _, _, ho, _⟩ := F2.ns
    rw [show it = L' from e, ho] at no1; cases no1
  have hoff := allNe_of N2 no1
  have hg : g.get? it = none := by
    cases q : g.get? it with
    | none => rfl
    | some o => rw [F2.keep _ _ q] at no1; cases no1
  clear F2 N2
  k_steps
  refine max_filt (knd := PySem.intKind prog w) (it := it) (d := d) (kvs := kvs) (ep := ep) (mx := mx) (t0 := t0) hh F3 N3 hI3 hd3 hv st3 hg hitL (fun p hp => ?_) hmem (by omega) hmx ?_
  · simp only [List.mem_cons, List.not_mem_nil, or_false] at hp
    subst hp
    exact hoff.1
  intro h4 tk4 t4 F4 N4
  clear F3 N3
  have hlen : (dec mx).length = figs mx := dec_length (by omega)
  have hf5 : figs mx ≤ 500 := by omega
  k_steps
  · exfalso; omega
  dsimp only
  (with_reducible rename News _ _ _ _ => N9); (with_reducible rename Fr _ _ _ _ => F9)
  rw [if_pos (by omega), hlen]
  exact hQ _ _ (kept_of hkeep F9 hL.symm N9 all_nil all_nil rfl rfl id)
end
/- L3_1k -/
theorem figs_1000_le : figs 1000 ≤ 500 := by rw [figs_1000]; decide
local macro_rules | `(tactic| walk_at "binaryOp Mult int int") => `(tactic| (k_here; k_dflt (first
  | (refine mul_nat (by first | assumption | omega) (by first | assumption | omega) ?_)
  | (refine mul_lit (c := 1000) rfl figs_1000_le (by first | assumption | omega) ?_))))
local macro_rules | `(tactic| walk_at "callWith ref") => `(tactic| (k_here; (with_reducible show wpAny _ _ (callWith _ (Value.ref _) _ (backTo _ (starEach [Expr.Dict _ _ _] _)) []) _ _ _); (first | (with_reducible refine callWith_K_dict (by k_asm) ?_ ?_; · k_dflt (k_is)) | fail "dict")))
local macro_rules | `(tactic| walk_at "eval Dict") => `(tactic| (k_here; k_dflt (first
  | (refine kdn_int (by rfl) (by k_asm) (by k_asm) (TopRead.nolimit (by k_asm)) (by rfl) (by rfl) (List.cons_ne_nil _ _) (Nat.le_of_ble_eq_true rfl) ?_) | fail "kdn"); intro d' h' o' F' N' l1 lo' hd'; (try k_lt l1)))
local macro_rules | `(tactic| walk_at "exec For Name List cons nil") => `(tactic| (k_here; (with_reducible show wpAny _ _ (exec (Stmt.For _ _ _ _ _) _) _ _ _); refine for_own ?_ (fun _ => rfl)))
local macro_rules | `(tactic| walk_at "exec For Tuple List cons nil") => `(tactic| (k_here; (with_reducible show wpAny _ _ (exec (Stmt.For _ _ _ _ _) _) _ _ _); refine for_own ?_ (fun _ => rfl)))
local macro_rules | `(tactic| walk_at "exec For Name BinOp cons nil") => `(tactic| (k_here; (with_reducible show wpAny _ _ (exec (Stmt.For _ _ _ _ _) _) _ _ _); refine for_own ?_ (fun _ => rfl)))
local macro_rules | `(tactic| walk_at "exec For Name Subscript cons nil") => `(tactic| (k_here; (with_reducible show wpAny _ _ (exec (Stmt.For _ _ _ _ _) _) _ _ _); refine for_own ?_ (fun _ => rfl)))
/- Q3_1k -/
section
open PySem PySem.W PySem.Calls PyProof.Rows
theorem maxl_c {prog : Program} {w : World} {A : Around} {E : Value → Shared → Prop} {s : Shared} {H₀ : Heap} {p : Program} {loose : List Str} {mg mb : Str → Option Value} {Q : Value → Shared → Prop} {bm : Addr} {ob : Obj} {ps1 ps2 : Array Value} {x xd ll ax ad : Addr} {ml cl isz : Int} {cw sc : Str} {k : VTok} {li items : Array Value} {nl n : Nat} {t1 t2 : Tok} {parts : List (Str × Str)} (hprog : prog = PySem.Challenge.pw_yh0022_01)
    (HS : Sub H₀ s.heap) (X : (heapK w.params).In H₀) (TR : TopRead p loose mg mb H₀) (hdp : A.depth < 470) (B : BMod H₀ mainGlobals mg bm ob) (G : AllBare s.gens)
    (hP1 : s.heap.get? 147 = some (tabObj ps1)) (hP10 : H₀.get? 147 = none) (ht1 : TriplesOk ps1.toList) (hP2 : s.heap.get? 154 = some (tabObj ps2)) (hP20 : H₀.get? 154 = none) (ht2 : TriplesOk ps2.toList)
    (hx : s.heap.get? x = some (instObj 101 xd)) (hxd : s.heap.get? xd = some (vfD w.params ml cl cw sc ll ax k)) (hll : s.heap.get? ll = some (listOf li nl)) (hax : s.heap.get? ax = some (lobj 185 ad items n)) (had : s.heap.get? ad = some (accD w.params isz t1 t2)) (hx0 : H₀.get? x = none) (hxd0 : H₀.get? xd = none) (hll0 : H₀.get? ll = none) (hax0 : H₀.get? ax = none) (had0 : H₀.get? ad = none) (hpt : Parts s.heap items.toList parts) (hsm : ∀ p ∈ parts, p.1.length ≤ 1000 ∧ p.2.length ≤ 1000) (hln : parts.length ≤ 900) (hisz : 0 ≤ isz) (hbig : isz ≤ 100000)
    (hQ : ∀ ge s', Kept [] s s' → s.heap.get? ge = none → GenReady prog w s'.heap s'.gens ge (ml - (isz + plen parts)) 147 → Q (.ref ge) s') :
    wpAny (model prog w) A (call (.ref 84) [.ref x]) Q E s := by
  have : PySem.Challenge.rw_yh0022_01.prog = PySem.Challenge.rw_yh0022_01.prog ∧ heapK = heapK := by k_fill; exact ⟨rfl, rfl⟩
  clear this
  obtain ⟨n1, n2, n3, n4, n5, n6, n7, n8, n9, n10, n11, n12, n13, n14, n15, n16, n17, n18, n19, n20⟩ := vf_nes hx hxd hll hax had hP1 hP2
  have hT : ∀ q ∈ [(x, instObj 101 xd), (xd, vfD w.params ml cl cw sc ll ax k), (ll, listOf li nl), (ax, lobj 185 ad items n), (ad, accD w.params isz t1 t2), ((147 : Addr), tabObj ps1), ((154 : Addr), tabObj ps2)], s.heap.get? q.1 = some q.2 := (all_cons hx (all_cons hxd (all_cons hll (all_cons hax (all_cons had (all_cons hP1 (all_cons hP2 all_nil)))))))
  refine wpAny_call ?_
  refine gen_call HS X TR (by k_is) (by k_is) (Nat.lt_of_lt_of_le hdp (Nat.le_of_ble_eq_true rfl)) (BindsTo.of_eq (binds := [("self", .ref x)]) rfl) (locs rfl) (by decide) rfl rfl rfl ?_
  intro ge s' Kp e1 e2 e3 e4
  refine hQ ge s' Kp e1 ⟨_, _, _, _, _, _, e2, e3, rfl, rfl, ?_⟩
  intro A' t Q' hh hdp' hun' hth Gt hQ'
  have hns : t.heap.Ns s.heap.objs.size (fun y => ([("self", Value.ref x)] : List (Str × Value)).reverse.lookup y) := by rw [hth]; exact e4
  obtain ⟨g, F, N, XG, TG, HG, hkeep⟩ := base_of _ hT HS (all_cons hx0 (all_cons hxd0 (all_cons hll0 (all_cons hax0 (all_cons had0 (all_cons hP10 (all_cons hP20 all_nil))))))) X TR hns (fun b o e => by rw [hth]; exact Kp.keep b o (by simp) e)
  have gp : Parts g items.toList parts := parts_hide hkeep hT vf_nt hpt
  have hb := plen_bound hsm
  (try dsimp only)
  k_steps
  (with_reducible rename News _ _ _ _ => N3); (with_reducible rename Fr _ _ _ _ => F3)
  refine len_c (parts := parts) (x := ax) (d := ad) (sub_fr F3 HG) X TR B (by simp only [depth_in1]; omega) (by simp only [units_in1]; omega) hh Gt (N3 (147, _) (by k_mem)).1 hP10 ht1 (N3 (ax, _) (by k_mem)).1 (N3 (ad, _) (by k_mem)).1 (gp.keeps fun b o e _ => F3.keep b o e) (fun p hp => by have := hsm p hp; omega) ?_
  intro s4 t4 ps3 Kp4 e41 ht3
  obtain ⟨F4, N4⟩ := step1 Kp4 F3 N3 (by k_upd) e41
  clear F3 N3
  dsimp only [W.LenBack]
  refine ⟨⟨by omega, by omega⟩, ?_⟩
  k_steps
  exact hQ' _ _ ps3 ⟨Kp4.keep, Kp4.size, Kp4.os, Kp4.drawn, Kp4.gens⟩ e41 ht3
end
/- Q5_1k -/
section
open PySem PySem.W PySem.Calls PyProof.Rows
noncomputable abbrev qnD (P : Params) (t : Str) (k u : Tok) : Obj := dictOf [⟨PyData.keyHash P "text", .str "text" k, .str t u⟩] 1

theorem qinit_c {prog : Program} {w : World} {A : Around} {R : Result → Shared → Prop} {s : Shared} {H₀ : Heap} {p : Program} {loose : List Str} {mg mb : Str → Option Value}
    {x d : Addr} {t : Str} {a1 : Tok}
    (HS : Sub H₀ s.heap) (X : (heapK w.params).In H₀) (TR : TopRead p loose mg mb H₀) (hdp : A.depth < 490)
    (hx : s.heap.get? x = some (instObj 263 d)) (hdx : s.heap.get? d = some emptyDict) (hx0 : H₀.get? x = none) (hd0 : H₀.get? d = none)
    (hQ : ∀ s' k u, Kept [d] s s' → s'.heap.get? d = some (qnD w.params t k u) → R (.ok (.ret .none)) s') :
    codeAny (model prog w) A (.call (.ref 204) ⟨[.ref x, .str t a1], []⟩) R s := by
  have : PySem.Challenge.rw_yh0022_01.prog = PySem.Challenge.rw_yh0022_01.prog ∧ heapK = heapK := by k_fill; exact ⟨rfl, rfl⟩
  clear this
  have hne : @Ne Nat x d := upd_ne hx hdx (by simp)
  have hT : ∀ q ∈ [(x, instObj 263 d), (d, emptyDict)], s.heap.get? q.1 = some q.2 := (all_cons hx (all_cons hdx all_nil))
  refine enter _ hT HS (all_cons hx0 (all_cons hd0 all_nil)) X TR (by k_is) (by k_is) (Nat.lt_of_lt_of_le hdp (Nat.le_of_ble_eq_true rfl)) (binds_K (binds := [("self", .ref x), ("text_or_uri", .str t a1), ("tag", .none)]) (by exact X.keeps HS) rfl (by k_is) rfl rfl rfl) (locs rfl) (by decide) rfl rfl rfl ?_
  intro g L' h₁ F N XG TG HG hkeep hk₁ hL
  (try dsimp only)
  (try k_fold)
  k_steps
  (with_reducible rename News _ _ _ _ => N9); (with_reducible rename Fr _ _ _ _ => F9)
  refine hQ _ _ _ ?_ (N9 (d, _) (by k_mem)).1
  exact kept_of hkeep F9 hL.symm N9 hT (by (repeat (refine all_cons (fun h9 => by first | k_mem | exact absurd (by k_mem) h9) ?_)); exact all_nil) rfl rfl id

theorem qn_make {prog : Program} {w : World} {A : Around} {E : Value → Shared → Prop} {s : Shared} {H₀ : Heap} {p : Program} {loose : List Str} {mg mb : Str → Option Value} {Q : Value → Shared → Prop}
    {t : Str} {a1 : Tok}
    (HS : Sub H₀ s.heap) (X : (heapK w.params).In H₀) (TR : TopRead p loose mg mb H₀) (hdp : A.depth < 480) (hsz : H₀.objs.size ≤ s.heap.objs.size)
    (hQ : ∀ s' x d k u, Kept [] s s' → s.heap.get? x = none → s.heap.get? d = none → s'.heap.get? x = some (instObj 263 d) → s'.heap.get? d = some (qnD w.params t k u) → Q (.ref x) s') :
    wpAny (model prog w) A (call (.ref 263) [.str t a1]) Q E s := by
  have : PySem.Challenge.rw_yh0022_01.prog = PySem.Challenge.rw_yh0022_01.prog ∧ heapK = heapK := by k_fill; exact ⟨rfl, rfl⟩
  clear this
  have X' := X.keeps HS
  obtain ⟨hh, g, d, tk, os⟩ := s
  refine wpAny_call ?_
  have he : (emptyDict).isFreed = false := rfl
  have hl' : (instObj 263 hh.objs.size).isFreed = false := rfl
  have hd : ((hh.push emptyDict).push (instObj 263 hh.objs.size)).get? hh.objs.size = some emptyDict := Heap.get?_push_of_some _ (Heap.get?_push_size _ he)
  have hx : ((hh.push emptyDict).push (instObj 263 hh.objs.size)).get? (hh.objs.size + 1) = some (instObj 263 hh.objs.size) := Heap.get?_push_at (by rw [Heap.size_push]) hl'
  have up : Sub hh ((hh.push emptyDict).push (instObj 263 hh.objs.size)) := fun b o e => Heap.get?_push_of_some _ (Heap.get?_push_of_some _ e)
  have no : ∀ h : Heap, ∀ b, h.objs.size ≤ b → h.get? b = none := fun h b e => by
    cases q : h.get? b with
    | none => rfl
    | some o => exact absurd (Heap.lt_size q) (Nat.not_lt.mpr e)
  have sz : H₀.objs.size ≤ hh.objs.size := hsz
  refine make_core (makes_of X' (C := 263) (by kernel_rfl)) (looks_findIn X' (by k_is)) (fun self => bind_fn X' self (by k_is)) (.inl rfl) ?_
  have wt : (Code.builtin "type.__call__" { pos := [Value.ref 263, .str t a1] }).weight ≤ 1 := Nat.le_of_ble_eq_true rfl
  refine qinit_c (x := hh.objs.size + 1) (d := hh.objs.size) (H₀ := H₀) (fun b o e => up b o (HS b o e)) X TR (by simp only [Around.under]; omega) hx hd (no _ _ (by omega)) (no _ _ (by omega)) ?_
  intro s' k u KP h1
  have hne : hh.objs.size + 1 ∉ [hh.objs.size] := by simp
  refine ⟨rfl, hQ s' _ _ k u ⟨fun b o _ e => ?_, ?_, KP.os, KP.drawn, KP.gens⟩ (no _ _ (by dsimp only; omega)) (no _ _ (Nat.le_refl _)) (KP.keep _ _ hne hx) h1⟩
  · refine KP.keep b o ?_ (up b o e)
    have this : @LT.lt Nat _ b hh.objs.size := Heap.lt_size e
    simp only [List.mem_cons, List.not_mem_nil, or_false]
    change @Ne Nat _ _; omega
  · have := KP.size
    simp only [Heap.size_push] at this
    dsimp only
    omega
end
/- Q6_1k -/
section
open PySem PySem.W PySem.Calls PyProof.Rows
noncomputable def TxtAt (P : Params) (h : Heap) (v : Value) (t : Str) : Prop := (∃ tok, v = .str t tok) ∨ (∃ x d k u, v = .ref x ∧ h.get? x = some (instObj 263 d) ∧ h.get? d = some (qnD P t k u))
theorem TxtAt.keeps {P : Params} {h h' : Heap} {v : Value} {t : Str} (a : TxtAt P h v t) (k : ∀ b o, h.get? b = some o → h'.get? b = some o) : TxtAt P h' v t := by
  rcases a with ⟨tok, rfl⟩ | ⟨x, d, k1, u, rfl, e1, e2⟩
  · exact .inl ⟨tok, rfl⟩
  · exact .inr ⟨x, d, k1, u, rfl, k _ _ e1, k _ _ e2⟩
theorem qlt_c {prog : Program} {w : World} {A : Around} {E : Value → Shared → Prop} {s : Shared} {H₀ : Heap} {p : Program} {loose : List Str} {mg mb : Str → Option Value} {Q : Value → Shared → Prop} {x d : Addr} {t t2 : Str} {k u : Tok} {v : Value}
    (HS : Sub H₀ s.heap) (X : (heapK w.params).In H₀) (TR : TopRead p loose mg mb H₀) (hdp : A.depth < 480) (hx : s.heap.get? x = some (instObj 263 d)) (hdx : s.heap.get? d = some (qnD w.params t k u)) (hv : TxtAt w.params s.heap v t2)
    (hQ : ∀ s', Kept [] s s' → Q (.bool (ordOf .Lt t t2)) s') :
    wpAny (model prog w) A (call (.ref 239) [.ref x, v]) Q E s := by
  have : PySem.Challenge.rw_yh0022_01.prog = PySem.Challenge.rw_yh0022_01.prog ∧ heapK = heapK := by k_fill; exact ⟨rfl, rfl⟩
  clear this
  refine wpAny_call ?_
  rcases hv with ⟨tok, rfl⟩ | ⟨y, e, k2, u2, rfl, hy, hdy⟩
  · refine enter [] all_nil HS all_nil X TR (by k_is) (by k_is) (Nat.lt_of_lt_of_le hdp (Nat.le_of_ble_eq_true rfl)) (BindsTo.of_eq (binds := [("self", .ref x), ("other", .str t2 tok)]) rfl) (locs rfl) (by decide) rfl rfl rfl ?_
    intro g L' h₁ F N XG TG HG hkeep hk₁ hL
    have gx : InstAt g x (instObj 263 d) 263 (some (qnD w.params t k u)) := ⟨hkeep _ _ (by simp) hx, rfl, rfl, hkeep _ _ (by simp) hdx⟩
    dsimp only
    (try k_fold)
    k_steps
    (with_reducible rename News _ _ _ _ => N9); (with_reducible rename Fr _ _ _ _ => F9)
    exact hQ _ (kept_of hkeep F9 hL.symm N9 all_nil all_nil rfl rfl id)
  · refine enter [] all_nil HS all_nil X TR (by k_is) (by k_is) (Nat.lt_of_lt_of_le hdp (Nat.le_of_ble_eq_true rfl)) (BindsTo.of_eq (binds := [("self", .ref x), ("other", .ref y)]) rfl) (locs rfl) (by decide) rfl rfl rfl ?_
    intro g L' h₁ F N XG TG HG hkeep hk₁ hL
    have gx : InstAt g x (instObj 263 d) 263 (some (qnD w.params t k u)) := ⟨hkeep _ _ (by simp) hx, rfl, rfl, hkeep _ _ (by simp) hdx⟩
    have gy : InstAt g y (instObj 263 e) 263 (some (qnD w.params t2 k2 u2)) := ⟨hkeep _ _ (by simp) hy, rfl, rfl, hkeep _ _ (by simp) hdy⟩
    dsimp only
    (try k_fold)
    k_steps
    (with_reducible rename News _ _ _ _ => N9); (with_reducible rename Fr _ _ _ _ => F9)
    exact hQ _ (kept_of hkeep F9 hL.symm N9 all_nil all_nil rfl rfl id)
theorem qle_c {prog : Program} {w : World} {A : Around} {E : Value → Shared → Prop} {s : Shared} {H₀ : Heap} {p : Program} {loose : List Str} {mg mb : Str → Option Value} {Q : Value → Shared → Prop} {x d : Addr} {t t2 : Str} {k u : Tok} {v : Value}
    (HS : Sub H₀ s.heap) (X : (heapK w.params).In H₀) (TR : TopRead p loose mg mb H₀) (hdp : A.depth < 480) (hx : s.heap.get? x = some (instObj 263 d)) (hdx : s.heap.get? d = some (qnD w.params t k u)) (hv : TxtAt w.params s.heap v t2)
    (hQ : ∀ s', Kept [] s s' → Q (.bool (ordOf .LtE t t2)) s') :
    wpAny (model prog w) A (call (.ref 232) [.ref x, v]) Q E s := by
  have : PySem.Challenge.rw_yh0022_01.prog = PySem.Challenge.rw_yh0022_01.prog ∧ heapK = heapK := by k_fill; exact ⟨rfl, rfl⟩
  clear this
  refine wpAny_call ?_
  rcases hv with ⟨tok, rfl⟩ | ⟨y, e, k2, u2, rfl, hy, hdy⟩
  · refine enter [] all_nil HS all_nil X TR (by k_is) (by k_is) (Nat.lt_of_lt_of_le hdp (Nat.le_of_ble_eq_true rfl)) (BindsTo.of_eq (binds := [("self", .ref x), ("other", .str t2 tok)]) rfl) (locs rfl) (by decide) rfl rfl rfl ?_
    intro g L' h₁ F N XG TG HG hkeep hk₁ hL
    have gx : InstAt g x (instObj 263 d) 263 (some (qnD w.params t k u)) := ⟨hkeep _ _ (by simp) hx, rfl, rfl, hkeep _ _ (by simp) hdx⟩
    dsimp only
    (try k_fold)
    k_steps
    (with_reducible rename News _ _ _ _ => N9); (with_reducible rename Fr _ _ _ _ => F9)
    exact hQ _ (kept_of hkeep F9 hL.symm N9 all_nil all_nil rfl rfl id)
  · refine enter [] all_nil HS all_nil X TR (by k_is) (by k_is) (Nat.lt_of_lt_of_le hdp (Nat.le_of_ble_eq_true rfl)) (BindsTo.of_eq (binds := [("self", .ref x), ("other", .ref y)]) rfl) (locs rfl) (by decide) rfl rfl rfl ?_
    intro g L' h₁ F N XG TG HG hkeep hk₁ hL
    have gx : InstAt g x (instObj 263 d) 263 (some (qnD w.params t k u)) := ⟨hkeep _ _ (by simp) hx, rfl, rfl, hkeep _ _ (by simp) hdx⟩
    have gy : InstAt g y (instObj 263 e) 263 (some (qnD w.params t2 k2 u2)) := ⟨hkeep _ _ (by simp) hy, rfl, rfl, hkeep _ _ (by simp) hdy⟩
    dsimp only
    (try k_fold)
    k_steps
    (with_reducible rename News _ _ _ _ => N9); (with_reducible rename Fr _ _ _ _ => F9)
    exact hQ _ (kept_of hkeep F9 hL.symm N9 all_nil all_nil rfl rfl id)
theorem qgt_c {prog : Program} {w : World} {A : Around} {E : Value → Shared → Prop} {s : Shared} {H₀ : Heap} {p : Program} {loose : List Str} {mg mb : Str → Option Value} {Q : Value → Shared → Prop} {x d : Addr} {t t2 : Str} {k u : Tok} {v : Value}
    (HS : Sub H₀ s.heap) (X : (heapK w.params).In H₀) (TR : TopRead p loose mg mb H₀) (hdp : A.depth < 480) (hx : s.heap.get? x = some (instObj 263 d)) (hdx : s.heap.get? d = some (qnD w.params t k u)) (hv : TxtAt w.params s.heap v t2)
    (hQ : ∀ s', Kept [] s s' → Q (.bool (ordOf .Gt t t2)) s') :
    wpAny (model prog w) A (call (.ref 253) [.ref x, v]) Q E s := by
  have : PySem.Challenge.rw_yh0022_01.prog = PySem.Challenge.rw_yh0022_01.prog ∧ heapK = heapK := by k_fill; exact ⟨rfl, rfl⟩
  clear this
  refine wpAny_call ?_
  rcases hv with ⟨tok, rfl⟩ | ⟨y, e, k2, u2, rfl, hy, hdy⟩
  · refine enter [] all_nil HS all_nil X TR (by k_is) (by k_is) (Nat.lt_of_lt_of_le hdp (Nat.le_of_ble_eq_true rfl)) (BindsTo.of_eq (binds := [("self", .ref x), ("other", .str t2 tok)]) rfl) (locs rfl) (by decide) rfl rfl rfl ?_
    intro g L' h₁ F N XG TG HG hkeep hk₁ hL
    have gx : InstAt g x (instObj 263 d) 263 (some (qnD w.params t k u)) := ⟨hkeep _ _ (by simp) hx, rfl, rfl, hkeep _ _ (by simp) hdx⟩
    dsimp only
    (try k_fold)
    k_steps
    (with_reducible rename News _ _ _ _ => N9); (with_reducible rename Fr _ _ _ _ => F9)
    exact hQ _ (kept_of hkeep F9 hL.symm N9 all_nil all_nil rfl rfl id)
  · refine enter [] all_nil HS all_nil X TR (by k_is) (by k_is) (Nat.lt_of_lt_of_le hdp (Nat.le_of_ble_eq_true rfl)) (BindsTo.of_eq (binds := [("self", .ref x), ("other", .ref y)]) rfl) (locs rfl) (by decide) rfl rfl rfl ?_
    intro g L' h₁ F N XG TG HG hkeep hk₁ hL
    have gx : InstAt g x (instObj 263 d) 263 (some (qnD w.params t k u)) := ⟨hkeep _ _ (by simp) hx, rfl, rfl, hkeep _ _ (by simp) hdx⟩
    have gy : InstAt g y (instObj 263 e) 263 (some (qnD w.params t2 k2 u2)) := ⟨hkeep _ _ (by simp) hy, rfl, rfl, hkeep _ _ (by simp) hdy⟩
    dsimp only
    (try k_fold)
    k_steps
    (with_reducible rename News _ _ _ _ => N9); (with_reducible rename Fr _ _ _ _ => F9)
    exact hQ _ (kept_of hkeep F9 hL.symm N9 all_nil all_nil rfl rfl id)
theorem qge_c {prog : Program} {w : World} {A : Around} {E : Value → Shared → Prop} {s : Shared} {H₀ : Heap} {p : Program} {loose : List Str} {mg mb : Str → Option Value} {Q : Value → Shared → Prop} {x d : Addr} {t t2 : Str} {k u : Tok} {v : Value}
    (HS : Sub H₀ s.heap) (X : (heapK w.params).In H₀) (TR : TopRead p loose mg mb H₀) (hdp : A.depth < 480) (hx : s.heap.get? x = some (instObj 263 d)) (hdx : s.heap.get? d = some (qnD w.params t k u)) (hv : TxtAt w.params s.heap v t2)
    (hQ : ∀ s', Kept [] s s' → Q (.bool (ordOf .GtE t t2)) s') :
    wpAny (model prog w) A (call (.ref 246) [.ref x, v]) Q E s := by
  have : PySem.Challenge.rw_yh0022_01.prog = PySem.Challenge.rw_yh0022_01.prog ∧ heapK = heapK := by k_fill; exact ⟨rfl, rfl⟩
  clear this
  refine wpAny_call ?_
  rcases hv with ⟨tok, rfl⟩ | ⟨y, e, k2, u2, rfl, hy, hdy⟩
  · refine enter [] all_nil HS all_nil X TR (by k_is) (by k_is) (Nat.lt_of_lt_of_le hdp (Nat.le_of_ble_eq_true rfl)) (BindsTo.of_eq (binds := [("self", .ref x), ("other", .str t2 tok)]) rfl) (locs rfl) (by decide) rfl rfl rfl ?_
    intro g L' h₁ F N XG TG HG hkeep hk₁ hL
    have gx : InstAt g x (instObj 263 d) 263 (some (qnD w.params t k u)) := ⟨hkeep _ _ (by simp) hx, rfl, rfl, hkeep _ _ (by simp) hdx⟩
    dsimp only
    (try k_fold)
    k_steps
    (with_reducible rename News _ _ _ _ => N9); (with_reducible rename Fr _ _ _ _ => F9)
    exact hQ _ (kept_of hkeep F9 hL.symm N9 all_nil all_nil rfl rfl id)
  · refine enter [] all_nil HS all_nil X TR (by k_is) (by k_is) (Nat.lt_of_lt_of_le hdp (Nat.le_of_ble_eq_true rfl)) (BindsTo.of_eq (binds := [("self", .ref x), ("other", .ref y)]) rfl) (locs rfl) (by decide) rfl rfl rfl ?_
    intro g L' h₁ F N XG TG HG hkeep hk₁ hL
    have gx : InstAt g x (instObj 263 d) 263 (some (qnD w.params t k u)) := ⟨hkeep _ _ (by simp) hx, rfl, rfl, hkeep _ _ (by simp) hdx⟩
    have gy : InstAt g y (instObj 263 e) 263 (some (qnD w.params t2 k2 u2)) := ⟨hkeep _ _ (by simp) hy, rfl, rfl, hkeep _ _ (by simp) hdy⟩
    dsimp only
    (try k_fold)
    k_steps
    (with_reducible rename News _ _ _ _ => N9); (with_reducible rename Fr _ _ _ _ => F9)
    exact hQ _ (kept_of hkeep F9 hL.symm N9 all_nil all_nil rfl rfl id)
theorem cmpLt_c {prog : Program} {w : World} {A : Around} {E : Value → Shared → Prop} {s : Shared} {H₀ : Heap} {p : Program} {loose : List Str} {mg mb : Str → Option Value} {Q : Value → Shared → Prop} {v1 v2 : Value} {t1 t2 : Str} {g : Heap} {L : Addr} {m : Str → Option Value} (F : Fr g L s.heap m) (XG : (heapK w.params).In g)
    (HS : Sub H₀ s.heap) (X : (heapK w.params).In H₀) (TR : TopRead p loose mg mb H₀) (hdp : A.depth < 470) (hun : A.units < 1700) (h1 : TxtAt w.params s.heap v1 t1) (h2 : TxtAt w.params s.heap v2 t2)
    (hQ : ∀ s', Kept [] s s' → Q (.bool (ordOf .Lt t1 t2)) s') : wpAny (model prog w) A (compareOp .Lt v1 v2) Q E s := by
  have : PySem.Challenge.rw_yh0022_01.prog = PySem.Challenge.rw_yh0022_01.prog ∧ heapK = heapK := by k_fill; exact ⟨rfl, rfl⟩
  clear this
  have hu : A.units < cLine := by simp only [cLine]; omega
  have XS := XG.keeps F.keep
  refine cmp_ofLt ?_
  rcases h1 with ⟨tok, rfl⟩ | ⟨x, d, k, u, rfl, hx, hdx⟩
  · rcases h2 with ⟨tok2, rfl⟩ | ⟨y, e, k2, u2, rfl, hy, hdy⟩
    · exact PyProof.Rows.lt_str (hQ s Kept.refl)
    · have gy : InstAt s.heap y (instObj 263 e) 263 (some (qnD w.params t2 k2 u2)) := ⟨hy, rfl, rfl, hdy⟩
      refine cmp_refl (op := .Lt) PySem.F.slot_str_lt PySem.F.entry_str_lt (by unfold argsOk; kernel_rfl) hu XS gy rfl (by k_is) (by k_is) (by k_is) ?_
      refine qgt_c HS X TR (by (repeat (with_reducible refine dep_lt ?_)); first | exact Nat.lt_of_lt_of_le hdp (Nat.le_of_ble_eq_true rfl) | omega | (simp only [depth_deeper, depth_in1, units_deeper, units_in1]; omega)) hy hdy (.inl ⟨tok, rfl⟩) ?_
      intro s' Kp
      exact hQ s' Kp
  · have gx : InstAt s.heap x (instObj 263 d) 263 (some (qnD w.params t1 k u)) := ⟨hx, rfl, rfl, hdx⟩
    rcases h2 with ⟨tok2, rfl⟩ | ⟨y, e, k2, u2, rfl, hy, hdy⟩
    · refine cmp_K hu F XG gx (by k_typeOf) (by k_is) (by k_is) (by k_is) ?_
      refine qlt_c HS X TR (by (repeat (with_reducible refine dep_lt ?_)); first | exact Nat.lt_of_lt_of_le hdp (Nat.le_of_ble_eq_true rfl) | omega | (simp only [depth_deeper, depth_in1, units_deeper, units_in1]; omega)) hx hdx (.inl ⟨tok2, rfl⟩) ?_
      intro s' Kp
      exact hQ s' Kp
    · have gy : InstAt s.heap y (instObj 263 e) 263 (some (qnD w.params t2 k2 u2)) := ⟨hy, rfl, rfl, hdy⟩
      refine cmp_K hu F XG gx gy.type (by k_is) (by k_is) (by k_is) ?_
      refine qlt_c HS X TR (by (repeat (with_reducible refine dep_lt ?_)); first | exact Nat.lt_of_lt_of_le hdp (Nat.le_of_ble_eq_true rfl) | omega | (simp only [depth_deeper, depth_in1, units_deeper, units_in1]; omega)) hx hdx (.inr ⟨y, e, k2, u2, rfl, hy, hdy⟩) ?_
      intro s' Kp
      exact hQ s' Kp
theorem cmpLtE_c {prog : Program} {w : World} {A : Around} {E : Value → Shared → Prop} {s : Shared} {H₀ : Heap} {p : Program} {loose : List Str} {mg mb : Str → Option Value} {Q : Value → Shared → Prop} {v1 v2 : Value} {t1 t2 : Str} {g : Heap} {L : Addr} {m : Str → Option Value} (F : Fr g L s.heap m) (XG : (heapK w.params).In g)
    (HS : Sub H₀ s.heap) (X : (heapK w.params).In H₀) (TR : TopRead p loose mg mb H₀) (hdp : A.depth < 470) (hun : A.units < 1700) (h1 : TxtAt w.params s.heap v1 t1) (h2 : TxtAt w.params s.heap v2 t2)
    (hQ : ∀ s', Kept [] s s' → Q (.bool (ordOf .LtE t1 t2)) s') : wpAny (model prog w) A (compareOp .LtE v1 v2) Q E s := by
  have : PySem.Challenge.rw_yh0022_01.prog = PySem.Challenge.rw_yh0022_01.prog ∧ heapK = heapK := by k_fill; exact ⟨rfl, rfl⟩
  clear this
  have hu : A.units < cLine := by simp only [cLine]; omega
  have XS := XG.keeps F.keep
  refine cmp_ofLtE ?_
  rcases h1 with ⟨tok, rfl⟩ | ⟨x, d, k, u, rfl, hx, hdx⟩
  · rcases h2 with ⟨tok2, rfl⟩ | ⟨y, e, k2, u2, rfl, hy, hdy⟩
    · exact PySem.P.le_str (hQ s Kept.refl)
    · have gy : InstAt s.heap y (instObj 263 e) 263 (some (qnD w.params t2 k2 u2)) := ⟨hy, rfl, rfl, hdy⟩
      refine cmp_refl (op := .LtE) PySem.F.slot_str_le PySem.F.entry_str_le (by unfold argsOk; kernel_rfl) hu XS gy rfl (by k_is) (by k_is) (by k_is) ?_
      refine qge_c HS X TR (by (repeat (with_reducible refine dep_lt ?_)); first | exact Nat.lt_of_lt_of_le hdp (Nat.le_of_ble_eq_true rfl) | omega | (simp only [depth_deeper, depth_in1, units_deeper, units_in1]; omega)) hy hdy (.inl ⟨tok, rfl⟩) ?_
      intro s' Kp
      exact hQ s' Kp
  · have gx : InstAt s.heap x (instObj 263 d) 263 (some (qnD w.params t1 k u)) := ⟨hx, rfl, rfl, hdx⟩
    rcases h2 with ⟨tok2, rfl⟩ | ⟨y, e, k2, u2, rfl, hy, hdy⟩
    · refine cmp_K hu F XG gx (by k_typeOf) (by k_is) (by k_is) (by k_is) ?_
      refine qle_c HS X TR (by (repeat (with_reducible refine dep_lt ?_)); first | exact Nat.lt_of_lt_of_le hdp (Nat.le_of_ble_eq_true rfl) | omega | (simp only [depth_deeper, depth_in1, units_deeper, units_in1]; omega)) hx hdx (.inl ⟨tok2, rfl⟩) ?_
      intro s' Kp
      exact hQ s' Kp
    · have gy : InstAt s.heap y (instObj 263 e) 263 (some (qnD w.params t2 k2 u2)) := ⟨hy, rfl, rfl, hdy⟩
      refine cmp_K hu F XG gx gy.type (by k_is) (by k_is) (by k_is) ?_
      refine qle_c HS X TR (by (repeat (with_reducible refine dep_lt ?_)); first | exact Nat.lt_of_lt_of_le hdp (Nat.le_of_ble_eq_true rfl) | omega | (simp only [depth_deeper, depth_in1, units_deeper, units_in1]; omega)) hx hdx (.inr ⟨y, e, k2, u2, rfl, hy, hdy⟩) ?_
      intro s' Kp
      exact hQ s' Kp
theorem cmpGt_c {prog : Program} {w : World} {A : Around} {E : Value → Shared → Prop} {s : Shared} {H₀ : Heap} {p : Program} {loose : List Str} {mg mb : Str → Option Value} {Q : Value → Shared → Prop} {v1 v2 : Value} {t1 t2 : Str} {g : Heap} {L : Addr} {m : Str → Option Value} (F : Fr g L s.heap m) (XG : (heapK w.params).In g)
    (HS : Sub H₀ s.heap) (X : (heapK w.params).In H₀) (TR : TopRead p loose mg mb H₀) (hdp : A.depth < 470) (hun : A.units < 1700) (h1 : TxtAt w.params s.heap v1 t1) (h2 : TxtAt w.params s.heap v2 t2)
    (hQ : ∀ s', Kept [] s s' → Q (.bool (ordOf .Gt t1 t2)) s') : wpAny (model prog w) A (compareOp .Gt v1 v2) Q E s := by
  have : PySem.Challenge.rw_yh0022_01.prog = PySem.Challenge.rw_yh0022_01.prog ∧ heapK = heapK := by k_fill; exact ⟨rfl, rfl⟩
  clear this
  have hu : A.units < cLine := by simp only [cLine]; omega
  have XS := XG.keeps F.keep
  refine cmp_ofGt ?_
  rcases h1 with ⟨tok, rfl⟩ | ⟨x, d, k, u, rfl, hx, hdx⟩
  · rcases h2 with ⟨tok2, rfl⟩ | ⟨y, e, k2, u2, rfl, hy, hdy⟩
    · exact PySem.P.gt_str (hQ s Kept.refl)
    · have gy : InstAt s.heap y (instObj 263 e) 263 (some (qnD w.params t2 k2 u2)) := ⟨hy, rfl, rfl, hdy⟩
      refine cmp_refl (op := .Gt) PySem.F.slot_str_gt PySem.F.entry_str_gt (by unfold argsOk; kernel_rfl) hu XS gy rfl (by k_is) (by k_is) (by k_is) ?_
      refine qlt_c HS X TR (by (repeat (with_reducible refine dep_lt ?_)); first | exact Nat.lt_of_lt_of_le hdp (Nat.le_of_ble_eq_true rfl) | omega | (simp only [depth_deeper, depth_in1, units_deeper, units_in1]; omega)) hy hdy (.inl ⟨tok, rfl⟩) ?_
      intro s' Kp
      exact hQ s' Kp
  · have gx : InstAt s.heap x (instObj 263 d) 263 (some (qnD w.params t1 k u)) := ⟨hx, rfl, rfl, hdx⟩
    rcases h2 with ⟨tok2, rfl⟩ | ⟨y, e, k2, u2, rfl, hy, hdy⟩
    · refine cmp_K hu F XG gx (by k_typeOf) (by k_is) (by k_is) (by k_is) ?_
      refine qgt_c HS X TR (by (repeat (with_reducible refine dep_lt ?_)); first | exact Nat.lt_of_lt_of_le hdp (Nat.le_of_ble_eq_true rfl) | omega | (simp only [depth_deeper, depth_in1, units_deeper, units_in1]; omega)) hx hdx (.inl ⟨tok2, rfl⟩) ?_
      intro s' Kp
      exact hQ s' Kp
    · have gy : InstAt s.heap y (instObj 263 e) 263 (some (qnD w.params t2 k2 u2)) := ⟨hy, rfl, rfl, hdy⟩
      refine cmp_K hu F XG gx gy.type (by k_is) (by k_is) (by k_is) ?_
      refine qgt_c HS X TR (by (repeat (with_reducible refine dep_lt ?_)); first | exact Nat.lt_of_lt_of_le hdp (Nat.le_of_ble_eq_true rfl) | omega | (simp only [depth_deeper, depth_in1, units_deeper, units_in1]; omega)) hx hdx (.inr ⟨y, e, k2, u2, rfl, hy, hdy⟩) ?_
      intro s' Kp
      exact hQ s' Kp
theorem cmpGtE_c {prog : Program} {w : World} {A : Around} {E : Value → Shared → Prop} {s : Shared} {H₀ : Heap} {p : Program} {loose : List Str} {mg mb : Str → Option Value} {Q : Value → Shared → Prop} {v1 v2 : Value} {t1 t2 : Str} {g : Heap} {L : Addr} {m : Str → Option Value} (F : Fr g L s.heap m) (XG : (heapK w.params).In g)
    (HS : Sub H₀ s.heap) (X : (heapK w.params).In H₀) (TR : TopRead p loose mg mb H₀) (hdp : A.depth < 470) (hun : A.units < 1700) (h1 : TxtAt w.params s.heap v1 t1) (h2 : TxtAt w.params s.heap v2 t2)
    (hQ : ∀ s', Kept [] s s' → Q (.bool (ordOf .GtE t1 t2)) s') : wpAny (model prog w) A (compareOp .GtE v1 v2) Q E s := by
  have : PySem.Challenge.rw_yh0022_01.prog = PySem.Challenge.rw_yh0022_01.prog ∧ heapK = heapK := by k_fill; exact ⟨rfl, rfl⟩
  clear this
  have hu : A.units < cLine := by simp only [cLine]; omega
  have XS := XG.keeps F.keep
  refine cmp_ofGtE ?_
  rcases h1 with ⟨tok, rfl⟩ | ⟨x, d, k, u, rfl, hx, hdx⟩
  · rcases h2 with ⟨tok2, rfl⟩ | ⟨y, e, k2, u2, rfl, hy, hdy⟩
    · exact PySem.P.ge_str (hQ s Kept.refl)
    · have gy : InstAt s.heap y (instObj 263 e) 263 (some (qnD w.params t2 k2 u2)) := ⟨hy, rfl, rfl, hdy⟩
      refine cmp_refl (op := .GtE) PySem.F.slot_str_ge PySem.F.entry_str_ge (by unfold argsOk; kernel_rfl) hu XS gy rfl (by k_is) (by k_is) (by k_is) ?_
      refine qle_c HS X TR (by (repeat (with_reducible refine dep_lt ?_)); first | exact Nat.lt_of_lt_of_le hdp (Nat.le_of_ble_eq_true rfl) | omega | (simp only [depth_deeper, depth_in1, units_deeper, units_in1]; omega)) hy hdy (.inl ⟨tok, rfl⟩) ?_
      intro s' Kp
      exact hQ s' Kp
  · have gx : InstAt s.heap x (instObj 263 d) 263 (some (qnD w.params t1 k u)) := ⟨hx, rfl, rfl, hdx⟩
    rcases h2 with ⟨tok2, rfl⟩ | ⟨y, e, k2, u2, rfl, hy, hdy⟩
    · refine cmp_K hu F XG gx (by k_typeOf) (by k_is) (by k_is) (by k_is) ?_
      refine qge_c HS X TR (by (repeat (with_reducible refine dep_lt ?_)); first | exact Nat.lt_of_lt_of_le hdp (Nat.le_of_ble_eq_true rfl) | omega | (simp only [depth_deeper, depth_in1, units_deeper, units_in1]; omega)) hx hdx (.inl ⟨tok2, rfl⟩) ?_
      intro s' Kp
      exact hQ s' Kp
    · have gy : InstAt s.heap y (instObj 263 e) 263 (some (qnD w.params t2 k2 u2)) := ⟨hy, rfl, rfl, hdy⟩
      refine cmp_K hu F XG gx gy.type (by k_is) (by k_is) (by k_is) ?_
      refine qge_c HS X TR (by (repeat (with_reducible refine dep_lt ?_)); first | exact Nat.lt_of_lt_of_le hdp (Nat.le_of_ble_eq_true rfl) | omega | (simp only [depth_deeper, depth_in1, units_deeper, units_in1]; omega)) hx hdx (.inr ⟨y, e, k2, u2, rfl, hy, hdy⟩) ?_
      intro s' Kp
      exact hQ s' Kp
end
/- L4_1k -/
/-- what does not lie in the heap stands as it stood -/
structure Acc (s0 : Shared) (os : OsState) (dr : Drawn) (gens : Array GenState) : Prop where
  os : os = s0.os
  drawn : dr = s0.drawn
  gens : AllBare s0.gens → AllBare gens
theorem Acc.next {s0 s s' : Shared} {ts : List Addr} (a : Acc s0 s.os s.drawn s.gens) (b : Kept ts s s') : Acc s0 s'.os s'.drawn s'.gens := ⟨b.os.trans a.os, b.drawn.trans a.drawn, fun q => b.gens (a.gens q)⟩
structure Ords (fl : Bool) (p c : Nat) : Prop where
  lt : ordOf .Lt (dec p) (dec c) = fl
  le : ordOf .LtE (dec c) (dec p) = !fl
  gt : ordOf .Gt (dec c) (dec p) = fl
  ge : ordOf .GtE (dec p) (dec c) = !fl
section
variable {prog : Program} {w : World} {A : Around} {E : Value → Shared → Prop} {s s0 : Shared} {H₀ g : Heap} {L : Addr} {m : Str → Option Value} {news : List (Addr × Obj)} {p : Program} {loose : List Str} {mg mb : Str → Option Value} {Q : Value → Shared → Prop}
theorem qn_makeN {t : Str} {a1 : Tok} (F : Fr g L s.heap m) (N : News g L s.heap news) (HG : Sub H₀ g) (X : (heapK w.params).In H₀) (TR : TopRead p loose mg mb H₀) (hdp : A.depth < 480) (hsz : H₀.objs.size ≤ L) (KA : Acc s0 s.os s.drawn s.gens)
    (hQ : ∀ s' x d k u, Fr g L s'.heap m → News g L s'.heap ((x, instObj 263 d) :: (d, qnD w.params t k u) :: news) → AllNe x news → AllNe d news → @Ne Nat x d → Acc s0 s'.os s'.drawn s'.gens → Q (.ref x) s') :
    wpAny (model prog w) A (call (.ref 263) [.str t a1]) Q E s := by
  refine qn_make (sub_fr F HG) X TR hdp (Nat.le_trans hsz (Nat.le_of_lt F.ns.lt)) ?_
  intro s' x d k u Kp e1 e2 e3 e4
  exact hQ s' x d k u (kept_fr0 Kp F) (news_fresh Kp F (news_fresh Kp F (kept_news0 Kp N) e2 e4) e1 e3) (allNe_of N e1) (allNe_of N e2) (upd_ne e3 e4 (by simp)) (KA.next Kp)
theorem cmpLt_N {v1 v2 : Value} {t1 t2 : Str} {b : Bool} (F : Fr g L s.heap m) (N : News g L s.heap news) (XG : (heapK w.params).In g) (HG : Sub H₀ g) (X : (heapK w.params).In H₀) (TR : TopRead p loose mg mb H₀) (hdp : A.depth < 470) (hun : A.units < 1700) (KA : Acc s0 s.os s.drawn s.gens)
    (h1 : TxtAt w.params s.heap v1 t1) (h2 : TxtAt w.params s.heap v2 t2) (hb : ordOf .Lt t1 t2 = b)
    (hQ : ∀ s', Fr g L s'.heap m → News g L s'.heap news → Acc s0 s'.os s'.drawn s'.gens → Q (.bool b) s') : wpAny (model prog w) A (compareOp .Lt v1 v2) Q E s := by
  refine cmpLt_c F XG (sub_fr F HG) X TR hdp hun h1 h2 ?_
  intro s' Kp
  rw [hb]
  exact hQ s' (kept_fr0 Kp F) (kept_news0 Kp N) (KA.next Kp)
theorem cmpLtE_N {v1 v2 : Value} {t1 t2 : Str} {b : Bool} (F : Fr g L s.heap m) (N : News g L s.heap news) (XG : (heapK w.params).In g) (HG : Sub H₀ g) (X : (heapK w.params).In H₀) (TR : TopRead p loose mg mb H₀) (hdp : A.depth < 470) (hun : A.units < 1700) (KA : Acc s0 s.os s.drawn s.gens)
    (h1 : TxtAt w.params s.heap v1 t1) (h2 : TxtAt w.params s.heap v2 t2) (hb : ordOf .LtE t1 t2 = b)
    (hQ : ∀ s', Fr g L s'.heap m → News g L s'.heap news → Acc s0 s'.os s'.drawn s'.gens → Q (.bool b) s') : wpAny (model prog w) A (compareOp .LtE v1 v2) Q E s := by
  refine cmpLtE_c F XG (sub_fr F HG) X TR hdp hun h1 h2 ?_
  intro s' Kp
  rw [hb]
  exact hQ s' (kept_fr0 Kp F) (kept_news0 Kp N) (KA.next Kp)
theorem cmpGt_N {v1 v2 : Value} {t1 t2 : Str} {b : Bool} (F : Fr g L s.heap m) (N : News g L s.heap news) (XG : (heapK w.params).In g) (HG : Sub H₀ g) (X : (heapK w.params).In H₀) (TR : TopRead p loose mg mb H₀) (hdp : A.depth < 470) (hun : A.units < 1700) (KA : Acc s0 s.os s.drawn s.gens)
    (h1 : TxtAt w.params s.heap v1 t1) (h2 : TxtAt w.params s.heap v2 t2) (hb : ordOf .Gt t1 t2 = b)
    (hQ : ∀ s', Fr g L s'.heap m → News g L s'.heap news → Acc s0 s'.os s'.drawn s'.gens → Q (.bool b) s') : wpAny (model prog w) A (compareOp .Gt v1 v2) Q E s := by
  refine cmpGt_c F XG (sub_fr F HG) X TR hdp hun h1 h2 ?_
  intro s' Kp
  rw [hb]
  exact hQ s' (kept_fr0 Kp F) (kept_news0 Kp N) (KA.next Kp)
theorem cmpGtE_N {v1 v2 : Value} {t1 t2 : Str} {b : Bool} (F : Fr g L s.heap m) (N : News g L s.heap news) (XG : (heapK w.params).In g) (HG : Sub H₀ g) (X : (heapK w.params).In H₀) (TR : TopRead p loose mg mb H₀) (hdp : A.depth < 470) (hun : A.units < 1700) (KA : Acc s0 s.os s.drawn s.gens)
    (h1 : TxtAt w.params s.heap v1 t1) (h2 : TxtAt w.params s.heap v2 t2) (hb : ordOf .GtE t1 t2 = b)
    (hQ : ∀ s', Fr g L s'.heap m → News g L s'.heap news → Acc s0 s'.os s'.drawn s'.gens → Q (.bool b) s') : wpAny (model prog w) A (compareOp .GtE v1 v2) Q E s := by
  refine cmpGtE_c F XG (sub_fr F HG) X TR hdp hun h1 h2 ?_
  intro s' Kp
  rw [hb]
  exact hQ s' (kept_fr0 Kp F) (kept_news0 Kp N) (KA.next Kp)
end
local macro_rules | `(tactic| walk_at "call ref") => `(tactic| (k_here; (with_reducible show wpAny _ _ (call (Value.ref _) [Value.str _ _]) _ _ _); k_dflt (first | (refine qn_makeN (by k_asm) (by k_asm) (by assumption) (by assumption) (by assumption) (by simp only [depth_deeper]; omega) (by assumption) (by assumption) ?_) | fail "qn"); intro s' x' d' k' u' F' N' q1' q2' q3' KA'; simp only [AllNe, and_true] at q1' q2'; (repeat (obtain ⟨_, q1'⟩ := q1')); (repeat (obtain ⟨_, q2'⟩ := q2'))))
/- L5_1k -/
local macro_rules | `(tactic| walk_at "mine_var") => `(tactic| first | exact rfl | assumption | (refine (if_neg (by decide)).trans ?_; walk_at "mine_var") | (refine (if_pos rfl).trans ?_; exact rfl))
local macro_rules | `(tactic| walk_at "eval Name") => `(tactic| (k_here; k_dflt (first | (refine ld (by k_asm) (by first | assumption | (refine (if_neg (by decide)).trans ?_; walk_at "mine_var")) ?_) | fail "var")))
theorem same_some {α : Type} {x : Option α} {a b : α} (h1 : x = some a) (h2 : x = some b) : a = b := Option.some.inj (h1.symm.trans h2)
theorem news3 {g h : Heap} {L : Addr} {l : List (Addr × Obj)} {p q r : Addr × Obj} (N : News g L h l) (a : p ∈ l) (b : q ∈ l) (c : r ∈ l) : News g L h [p, q, r] := fun x hx => by
  simp only [List.mem_cons, List.not_mem_nil, or_false] at hx
  rcases hx with rfl | rfl | rfl
  · exact N _ a
  · exact N _ b
  · exact N _ c
/- L6_1k -/
theorem news_sub {g h : Heap} {L : Addr} {l l' : List (Addr × Obj)} (N : News g L h l) (q : ∀ p ∈ l', p ∈ l) : News g L h l' := fun p hp => N p (q p hp)
theorem news6 {g h : Heap} {L : Addr} {l : List (Addr × Obj)} {p q r t u v : Addr × Obj} (N : News g L h l) (a : p ∈ l) (b : q ∈ l) (c : r ∈ l) (d : t ∈ l) (e : u ∈ l) (f : v ∈ l) : News g L h [p, q, r, t, u, v] := fun x hx => by
  simp only [List.mem_cons, List.not_mem_nil, or_false] at hx
  rcases hx with rfl | rfl | rfl | rfl | rfl | rfl
  · exact N _ a
  · exact N _ b
  · exact N _ c
  · exact N _ d
  · exact N _ e
  · exact N _ f
noncomputable def forBody : List Stmt → List Stmt | .For _ _ b _ _ :: _ => b | _ => []
noncomputable def ifThen : List Stmt → List Stmt | .If _ b _ _ :: _ => b | _ => []
noncomputable def ifElse : List Stmt → List Stmt | .If _ _ b _ :: _ => b | _ => []
noncomputable def lawFor : List Stmt := forBody (b286.drop 4)
noncomputable def lawDeed3 : List Stmt := ifThen (ifElse (ifElse lawFor))
noncomputable def fallTold : List Stmt := forBody (b281.drop 6)
noncomputable def fallRest : List Stmt := b281.drop 7
noncomputable def fallFmt : List Stmt := forBody (b281.drop 9)
section
variable {prog : Program} {w : World} {A : Around} {E : Value → Shared → Prop} {s s0 : Shared} {H₀ g : Heap} {L : Addr} {m : Str → Option Value} {news : List (Addr × Obj)} {p : Program} {loose : List Str} {mg mb : Str → Option Value} {Q : Value → Shared → Prop}
theorem vf_makeN {hl ml : Int} {cw sc : Str} {a1 a2 a3 a4 : Tok} (hprog : prog = PySem.Challenge.pw_yh0022_01) (F : Fr g L s.heap m) (N : News g L s.heap news) (HG : Sub H₀ g) (X : (heapK w.params).In H₀) (TR : TopRead p loose mg mb H₀) (hdp : A.depth < 480) (hsz : H₀.objs.size ≤ L) (KA : Acc s0 s.os s.drawn s.gens) (hcw : cw.length ≤ 1000)
    (hQ : ∀ s' x d ll ax ad k t1 t2, Fr g L s'.heap m → News g L s'.heap ((x, instObj 101 d) :: (d, vfD w.params ml cw.length cw sc ll ax k) :: (ll, listOf #[] 0) :: (ax, lobj 185 ad #[] 0) :: (ad, accD w.params hl t1 t2) :: news) →
      AllNe x news → AllNe d news → AllNe ll news → AllNe ax news → AllNe ad news → @Ne Nat x d → @Ne Nat x ll → @Ne Nat x ax → @Ne Nat x ad → @Ne Nat d ll → @Ne Nat d ax → @Ne Nat d ad → @Ne Nat ll ax → @Ne Nat ll ad → @Ne Nat ax ad →
      H₀.get? x = none → H₀.get? d = none → H₀.get? ll = none → H₀.get? ax = none → H₀.get? ad = none → Acc s0 s'.os s'.drawn s'.gens → Q (.ref x) s') :
    wpAny (model prog w) A (call (.ref 101) [.int hl a1, .int ml a2, .str cw a3, .str sc a4]) Q E s := by
  refine vf_make hprog (sub_fr F HG) X TR hdp (Nat.le_trans hsz (Nat.le_of_lt F.ns.lt)) hcw ?_
  intro s' x d ll ax ad k t1 t2 Kp e1 e2 e3 e4 e5 f1 f2 f3 f4 f5
  have no : ∀ b, s.heap.get? b = none → H₀.get? b = none := fun b e => by
    cases q : H₀.get? b with
    | none => rfl
    | some o => rw [sub_fr F HG b o q] at e; cases e
  exact hQ s' x d ll ax ad k t1 t2 (kept_fr0 Kp F) (news_fresh Kp F (news_fresh Kp F (news_fresh Kp F (news_fresh Kp F (news_fresh Kp F (kept_news0 Kp N) e5 f5) e4 f4) e3 f3) e2 f2) e1 f1)
    (allNe_of N e1) (allNe_of N e2) (allNe_of N e3) (allNe_of N e4) (allNe_of N e5)
    (upd_ne f1 f2 (by simp)) (upd_ne f1 f3 (by simp)) (upd_ne f1 f4 (by simp)) (upd_ne f1 f5 (by simp)) (upd_ne f2 f3 (by simp)) (upd_ne f2 f4 (by simp)) (obj_ne f2 f5 vf_acc_ne) (upd_ne f3 f4 (by simp)) (upd_ne f3 f5 (by simp)) (upd_ne f4 f5 (by simp))
    (no _ e1) (no _ e2) (no _ e3) (no _ e4) (no _ e5) (KA.next Kp)
end
/- L7_1k -/
theorem ords_left {a b : Nat} (ha : 0 < a) (hb : 0 < b) : Ords (fellOf a b) (a * b) a := by
  have key : decide (digs (a * b) < digs a) = fellOf a b := by
    have h := fellOf_rel ha hb
    cases e : fellOf a b with
    | true => rw [e] at h; exact decide_eq_true (order_fell ha hb (by simpa using h))
    | false => rw [e] at h; exact decide_eq_false (order_rose ha hb (by simpa using h))
  have key2 : decide ((dec (a * b)).cps.toList < (dec a).cps.toList) = fellOf a b := by
    rw [dec_cps, dec_cps]; exact key
  exact ⟨key2, by simp only [ordOf]; rw [key2], key2, by simp only [ordOf]; rw [key2]⟩
theorem fellOf_comm {a b : Nat} : fellOf b a = fellOf a b := by
  unfold fellOf; rw [Nat.mul_comm, Nat.add_comm]
theorem ords_right {a b : Nat} (ha : 0 < a) (hb : 0 < b) : Ords (fellOf a b) (a * b) b := by
  have := ords_left hb ha
  rwa [Nat.mul_comm, fellOf_comm] at this
/- Q8Tt_1k -/
section
open PySem PySem.W PySem.Calls PyProof.Rows
theorem fallappt_c {prog : Program} {w : World} {A : Around} {s s0 : Shared} {H₀ g : Heap} {L : Addr} {p : Program} {loose : List Str} {mg mb m : Str → Option Value} {Q : Flow → Shared → Prop} {bm : Addr} {ob : Obj} {ps1 ps2 : Array Value} {a b W : Nat} {tb tw : Tok} {I tl y1 y2 x5 d5 ll5 ax5 ad5 : Addr} {oI : Obj} {v1 v2 : List Value} {items : Array Value} {k5 : VTok} {t15 t25 : Tok} {hl : Int}
    (hprog : prog = PySem.Challenge.pw_yh0022_01)
    (X : (heapK w.params).In H₀) (TR : TopRead p loose mg mb H₀) (XG : (heapK w.params).In g) (TG : TopRead p loose mg mb g) (HG : Sub H₀ g) (B : BMod H₀ mainGlobals mg bm ob) (hdp : A.depth < 465) (hun : A.units < 1650) (hh : A.handled = none) (G0 : AllBare s0.gens)
    (KA7 : Acc s0 s.os s.drawn s.gens) (F : Fr g L s.heap m) (N : News g L s.heap [(x5, instObj 101 d5), (d5, vfD w.params ((W : Int) + 1) (Str.ofString " ").length (Str.ofString " ") (Str.ofString " ") ll5 ax5 k5), (ll5, listOf #[] 0), (ax5, lobj 185 ad5 #[] 0), (ad5, accD w.params hl t15 t25), (I, oI), (tl, listOf items 0), (y1, tupOf v1), (y2, tupOf v2), ((147 : Addr), tabObj ps1), ((154 : Addr), tabObj ps2)])
    (hoI : oI.cls = .type "list_iterator") (htl : @Ne Nat tl ll5) (z15 : H₀.get? x5 = none) (z25 : H₀.get? d5 = none) (z35 : H₀.get? ll5 = none) (z45 : H₀.get? ax5 = none) (z55 : H₀.get? ad5 = none)
    (hP10 : H₀.get? 147 = none) (ht7 : TriplesOk ps1.toList) (hP20 : H₀.get? 154 = none) (ht2 : TriplesOk ps2.toList)
    (ha0 : 0 < a) (hb0 : 0 < b) (hfa : figs a ≤ 90) (hfb : figs b ≤ 90) (hfp : W ≤ 90) (hhl : hl = (figs a : Int)) (hrel : W = figs a + figs b)
    (m1 : m "formatter" = some (.ref x5)) (m2 : m "value" = some (.int (b : Int) tb)) (m3 : m "width" = some (.int (W : Int) tw)) (m4 : m "fell" = some (.bool true))
    (hQ : ∀ s' ps1' ps2' m', Fr g L s'.heap m' → m' "width" = some (.int (W : Int) tw) → m' "fell" = some (.bool true) → News g L s'.heap [(I, oI), (tl, listOf items 0), (y1, tupOf v1), (y2, tupOf v2), ((147 : Addr), tabObj ps1'), ((154 : Addr), tabObj ps2')] → TriplesOk ps1'.toList → TriplesOk ps2'.toList → Acc s0 s'.os s'.drawn s'.gens → Q .next s') :
    wpAny (model prog w) A (execs (fallFmt.drop 4) (envX (Str.ofString "_law_fall") s281 L 281 (.ref 280) [])) Q NoE s := by
  have : PySem.Challenge.rw_yh0022_01.prog = PySem.Challenge.rw_yh0022_01.prog ∧ heapK = heapK := by k_fill; exact ⟨rfl, rfl⟩
  clear this
  have u0 : @Ne Nat x5 d5 := upd_ne (N (x5, _) (by k_mem)).1 (N (d5, _) (by k_mem)).1 (by simp)
  have u1 : @Ne Nat x5 ll5 := upd_ne (N (x5, _) (by k_mem)).1 (N (ll5, _) (by k_mem)).1 (by simp)
  have u2 : @Ne Nat x5 ax5 := upd_ne (N (x5, _) (by k_mem)).1 (N (ax5, _) (by k_mem)).1 (by simp)
  have u3 : @Ne Nat x5 ad5 := upd_ne (N (x5, _) (by k_mem)).1 (N (ad5, _) (by k_mem)).1 (by simp)
  have u4 : @Ne Nat x5 I := upd_ne (N (x5, _) (by k_mem)).1 (N (I, _) (by k_mem)).1 (by rw [hoI]; simp)
  have u5 : @Ne Nat x5 tl := upd_ne (N (x5, _) (by k_mem)).1 (N (tl, _) (by k_mem)).1 (by simp)
  have u6 : @Ne Nat x5 y1 := upd_ne (N (x5, _) (by k_mem)).1 (N (y1, _) (by k_mem)).1 (by simp)
  have u7 : @Ne Nat x5 y2 := upd_ne (N (x5, _) (by k_mem)).1 (N (y2, _) (by k_mem)).1 (by simp)
  have u8 : @Ne Nat x5 147 := upd_ne (N (x5, _) (by k_mem)).1 (N (147, _) (by k_mem)).1 (by simp)
  have u9 : @Ne Nat x5 154 := upd_ne (N (x5, _) (by k_mem)).1 (N (154, _) (by k_mem)).1 (by simp)
  have u10 : @Ne Nat d5 ll5 := upd_ne (N (d5, _) (by k_mem)).1 (N (ll5, _) (by k_mem)).1 (by simp)
  have u11 : @Ne Nat d5 ax5 := upd_ne (N (d5, _) (by k_mem)).1 (N (ax5, _) (by k_mem)).1 (by simp)
  have u12 : @Ne Nat d5 ad5 := obj_ne (N (d5, _) (by k_mem)).1 (N (ad5, _) (by k_mem)).1 vf_acc_ne
  have u13 : @Ne Nat d5 I := upd_ne (N (d5, _) (by k_mem)).1 (N (I, _) (by k_mem)).1 (by rw [hoI]; simp)
  have u14 : @Ne Nat d5 tl := upd_ne (N (d5, _) (by k_mem)).1 (N (tl, _) (by k_mem)).1 (by simp)
  have u15 : @Ne Nat d5 y1 := upd_ne (N (d5, _) (by k_mem)).1 (N (y1, _) (by k_mem)).1 (by simp)
  have u16 : @Ne Nat d5 y2 := upd_ne (N (d5, _) (by k_mem)).1 (N (y2, _) (by k_mem)).1 (by simp)
  have u17 : @Ne Nat d5 147 := upd_ne (N (d5, _) (by k_mem)).1 (N (147, _) (by k_mem)).1 (by simp)
  have u18 : @Ne Nat d5 154 := upd_ne (N (d5, _) (by k_mem)).1 (N (154, _) (by k_mem)).1 (by simp)
  have u19 : @Ne Nat ll5 ax5 := upd_ne (N (ll5, _) (by k_mem)).1 (N (ax5, _) (by k_mem)).1 (by simp)
  have u20 : @Ne Nat ll5 ad5 := upd_ne (N (ll5, _) (by k_mem)).1 (N (ad5, _) (by k_mem)).1 (by simp)
  have u21 : @Ne Nat ll5 I := upd_ne (N (ll5, _) (by k_mem)).1 (N (I, _) (by k_mem)).1 (by rw [hoI]; simp)
  have u22 : @Ne Nat ll5 y1 := upd_ne (N (ll5, _) (by k_mem)).1 (N (y1, _) (by k_mem)).1 (by simp)
  have u23 : @Ne Nat ll5 y2 := upd_ne (N (ll5, _) (by k_mem)).1 (N (y2, _) (by k_mem)).1 (by simp)
  have u24 : @Ne Nat ll5 147 := upd_ne (N (ll5, _) (by k_mem)).1 (N (147, _) (by k_mem)).1 (by simp)
  have u25 : @Ne Nat ll5 154 := upd_ne (N (ll5, _) (by k_mem)).1 (N (154, _) (by k_mem)).1 (by simp)
  have u26 : @Ne Nat ax5 ad5 := upd_ne (N (ax5, _) (by k_mem)).1 (N (ad5, _) (by k_mem)).1 (by simp)
  have u27 : @Ne Nat ax5 I := upd_ne (N (ax5, _) (by k_mem)).1 (N (I, _) (by k_mem)).1 (by rw [hoI]; simp)
  have u28 : @Ne Nat ax5 tl := upd_ne (N (ax5, _) (by k_mem)).1 (N (tl, _) (by k_mem)).1 (by simp)
  have u29 : @Ne Nat ax5 y1 := upd_ne (N (ax5, _) (by k_mem)).1 (N (y1, _) (by k_mem)).1 (by simp)
  have u30 : @Ne Nat ax5 y2 := upd_ne (N (ax5, _) (by k_mem)).1 (N (y2, _) (by k_mem)).1 (by simp)
  have u31 : @Ne Nat ax5 147 := upd_ne (N (ax5, _) (by k_mem)).1 (N (147, _) (by k_mem)).1 (by simp)
  have u32 : @Ne Nat ax5 154 := upd_ne (N (ax5, _) (by k_mem)).1 (N (154, _) (by k_mem)).1 (by simp)
  have u33 : @Ne Nat ad5 I := upd_ne (N (ad5, _) (by k_mem)).1 (N (I, _) (by k_mem)).1 (by rw [hoI]; simp)
  have u34 : @Ne Nat ad5 tl := upd_ne (N (ad5, _) (by k_mem)).1 (N (tl, _) (by k_mem)).1 (by simp)
  have u35 : @Ne Nat ad5 y1 := upd_ne (N (ad5, _) (by k_mem)).1 (N (y1, _) (by k_mem)).1 (by simp)
  have u36 : @Ne Nat ad5 y2 := upd_ne (N (ad5, _) (by k_mem)).1 (N (y2, _) (by k_mem)).1 (by simp)
  have u37 : @Ne Nat ad5 147 := upd_ne (N (ad5, _) (by k_mem)).1 (N (147, _) (by k_mem)).1 (by simp)
  have u38 : @Ne Nat ad5 154 := upd_ne (N (ad5, _) (by k_mem)).1 (N (154, _) (by k_mem)).1 (by simp)
  have u39 : @Ne Nat I 147 := upd_ne (N (I, _) (by k_mem)).1 (N (147, _) (by k_mem)).1 (by rw [hoI]; simp)
  have u40 : @Ne Nat I 154 := upd_ne (N (I, _) (by k_mem)).1 (N (154, _) (by k_mem)).1 (by rw [hoI]; simp)
  have u41 : @Ne Nat tl 147 := upd_ne (N (tl, _) (by k_mem)).1 (N (147, _) (by k_mem)).1 (by simp)
  have u42 : @Ne Nat tl 154 := upd_ne (N (tl, _) (by k_mem)).1 (N (154, _) (by k_mem)).1 (by simp)
  have u43 : @Ne Nat y1 147 := upd_ne (N (y1, _) (by k_mem)).1 (N (147, _) (by k_mem)).1 (by simp)
  have u44 : @Ne Nat y1 154 := upd_ne (N (y1, _) (by k_mem)).1 (N (154, _) (by k_mem)).1 (by simp)
  have u45 : @Ne Nat y2 147 := upd_ne (N (y2, _) (by k_mem)).1 (N (147, _) (by k_mem)).1 (by simp)
  have u46 : @Ne Nat y2 154 := upd_ne (N (y2, _) (by k_mem)).1 (N (154, _) (by k_mem)).1 (by simp)
  have hfa0 := figs_pos ha0
  have hfb0 := figs_pos hb0
  have hub : (dec b).length ≤ 900 := by rw [dec_length hb0]; omega
  have hbl : (Str.ofString " ").length = 1 := by decide +kernel
  have hlb := dec_length hb0
  subst hhl
  dsimp only [forBody, fallTold, fallRest, fallFmt, b281, s281, pick, List.drop]
  k_steps
  (with_reducible rename News _ _ _ _ => N8); (with_reducible rename Fr _ _ _ _ => F8)
  have hsm8 : ∀ p ∈ ([] : List (Str × Str)) ++ [(Str.ofString " ", dec b)], p.1.length ≤ 1000 ∧ p.2.length ≤ 1000 := by
    intro p hp
    rw [List.nil_append, List.mem_singleton] at hp
    subst hp
    exact ⟨by show (Str.ofString " ").length ≤ 1000; rw [hbl]; decide, by show (dec b).length ≤ 1000; exact Nat.le_trans hub (by decide)⟩
  have hpl8 : plen (([] : List (Str × Str)) ++ [(Str.ofString " ", dec b)]) = 1 + (figs b : Int) := by
    rw [List.nil_append, plen_one, hbl, hlb]; rfl
  refine appendA_c (x := x5) (xd := d5) (ll := ll5) (ax := ax5) (ad := ad5) (items := #[]) (ps0 := []) hprog (sub_fr F8 HG) X TR (by (repeat (with_reducible refine dep_lt ?_)); first | exact Nat.lt_of_lt_of_le hdp (Nat.le_of_ble_eq_true rfl) | omega | (simp only [depth_deeper, depth_in1, units_deeper, units_in1]; omega)) B (by (repeat (with_reducible refine uni_lt ?_)); first | exact Nat.lt_of_lt_of_le hun (Nat.le_of_ble_eq_true rfl) | omega | (simp only [depth_deeper, depth_in1, units_deeper, units_in1]; omega)) hh (KA7.gens G0) (N8 (147, _) (by k_mem)).1 hP10 ht7 (N8 (154, _) (by k_mem)).1 hP20 ht2 (N8 (x5, _) (by k_mem)).1 (N8 (d5, _) (by k_mem)).1 (N8 (ll5, _) (by k_mem)).1 (N8 (ax5, _) (by k_mem)).1 (N8 (ad5, _) (by k_mem)).1 z15 z25 z35 z45 z55 parts_nil hsm8 (Nat.le_of_ble_eq_true rfl) (by omega) (by omega) (by rw [hpl8]; omega) (by omega) ?_
  intro s8 ps8 n8 tp8 Kp8 e18 ht8 e28 e38 e48
  obtain ⟨F8'', N8''⟩ := step2 Kp8 F8 N8 (by k_upd) (by k_upd) e48 e18 (by first | assumption | (apply Ne.symm; assumption))
  have r8 := allNe_of N8 e28
  simp only [AllNe, and_true] at r8
  (repeat (obtain ⟨_, r8⟩ := r8))
  have N8' := news_fresh Kp8 F8 N8'' e28 e38
  have KA8 : Acc s0 s8.os s8.drawn s8.gens := ⟨Kp8.os.trans KA7.os, Kp8.drawn.trans KA7.drawn, fun q => Kp8.gens (KA7.gens q)⟩
  clear F8 N8 N8''
  k_steps
  (with_reducible rename News _ _ _ _ => N9); (with_reducible rename Fr _ _ _ _ => F9)
  have hne9 : ((Str.ofString " ") == (" " : Str) && dec b == ("" : Str)) = false := by
    rw [show (dec b == ("" : Str)) = false from beq_false_of_ne fun q => by rw [q, show (Str.ofString "").length = 0 by decide +kernel] at hlb; omega, Bool.and_false]
  have hpt9 : ptext (([] : List (Str × Str)) ++ [(Str.ofString " ", dec b)]) = Str.ofString " " ++ dec b := ptext_one _ _
  have hlt9 : (Str.ofString " " ++ dec b : Str).length ≤ 1000 := by
    have : (Str.ofString " " ++ dec b : Str).length = (Str.ofString " ").length + (dec b).length := Array.size_append ..
    rw [this, hbl]; omega
  have hb19 : (Str.ofString "|").length = 1 := by decide +kernel
  have he09 : (Str.ofString "").length = 0 := by decide +kernel
  refine vstr_c (x := x5) (xd := d5) (ll := ll5) (ax := ax5) (ad := ad5) (its := #[]) (a := tp8) (ps0 := []) (lines := []) hprog (sub_fr F9 HG) X TR (by (repeat (with_reducible refine dep_lt ?_)); first | exact Nat.lt_of_lt_of_le hdp (Nat.le_of_ble_eq_true rfl) | omega | (simp only [depth_deeper, depth_in1, units_deeper, units_in1]; omega)) B (by (repeat (with_reducible refine uni_lt ?_)); first | exact Nat.lt_of_lt_of_le hun (Nat.le_of_ble_eq_true rfl) | omega | (simp only [depth_deeper, depth_in1, units_deeper, units_in1]; omega)) hh (KA8.gens G0) (N9 (147, _) (by k_mem)).1 hP10 ht8 (N9 (154, _) (by k_mem)).1 hP20 ht2 (N9 (x5, _) (by k_mem)).1 (N9 (d5, _) (by k_mem)).1 (N9 (ll5, _) (by k_mem)).1 (N9 (ax5, _) (by k_mem)).1 (N9 (ad5, _) (by k_mem)).1 z15 z25 z35 z45 z55 rfl (N9 (tp8, tupOf _) (by k_mem)).1 parts_nil hsm8 (Nat.le_of_ble_eq_true rfl) hne9 ⟨blank_ok, dec_ok _⟩ (by omega) (by omega) (by rw [hpl8]; omega) (Nat.le_of_ble_eq_true rfl) (.inl (by omega)) .nil (by rw [hpt9]; simp only [List.nil_append, List.map_cons, List.map_nil, List.sum_cons, List.sum_nil, List.length_cons, List.length_nil, hb19]; omega) ?_
  intro s9 ps9 qs9 t9 Kp9 e19 ht9 e29 hq9
  rw [hpt9]
  obtain ⟨F9', N9'⟩ := dropped Kp9 F9 N9 (by simp) (by simp) (by simp) e19 e29 (I, oI) (tl, listOf items 0) (y1, tupOf v1) (y2, tupOf v2) (by k_mem) (by k_mem) (by k_mem) (by k_mem)
    (by simp only [List.mem_cons, List.not_mem_nil, or_false, not_or]; (repeat' apply And.intro) <;> first | assumption | (apply Ne.symm; assumption) | (change @Ne Nat _ _; omega)) (by simp only [List.mem_cons, List.not_mem_nil, or_false, not_or]; (repeat' apply And.intro) <;> first | assumption | (apply Ne.symm; assumption) | (change @Ne Nat _ _; omega)) (by simp only [List.mem_cons, List.not_mem_nil, or_false, not_or]; (repeat' apply And.intro) <;> first | assumption | (apply Ne.symm; assumption) | (change @Ne Nat _ _; omega)) (by simp only [List.mem_cons, List.not_mem_nil, or_false, not_or]; (repeat' apply And.intro) <;> first | assumption | (apply Ne.symm; assumption) | (change @Ne Nat _ _; omega))
  have KA9 : Acc s0 s9.os s9.drawn s9.gens := ⟨Kp9.os.trans KA8.os, Kp9.drawn.trans KA8.drawn, fun q => Kp9.gens (KA8.gens q)⟩
  clear F9 N9
  k_steps
  · exfalso
    (with_reducible rename (_ != _) = true => hz)
    simp only [List.cons_append, List.nil_append, join_one, join_two, emp_app, app_as, bne_self_eq_false, Bool.false_eq_true] at hz
  (with_reducible rename News _ _ _ _ => N9); (with_reducible rename Fr _ _ _ _ => F9)
  refine hQ _ ps9 qs9 _ F9 ?_ ?_ (news_sub N9 fun p hp => ?_) ht9 hq9 KA9
  · (first | exact m3 | walk_at "mine_var")
  · (first | exact m4 | walk_at "mine_var")
  simp only [List.mem_cons, List.not_mem_nil, or_false] at hp
  rcases hp with rfl | rfl | rfl | rfl | rfl | rfl <;> k_mem
end
/- Q8Tf_1k -/
section
open PySem PySem.W PySem.Calls PyProof.Rows
theorem fallappf_c {prog : Program} {w : World} {A : Around} {s s0 : Shared} {H₀ g : Heap} {L : Addr} {p : Program} {loose : List Str} {mg mb m : Str → Option Value} {Q : Flow → Shared → Prop} {bm : Addr} {ob : Obj} {ps1 ps2 : Array Value} {a b W : Nat} {tb tw : Tok} {I tl y1 y2 x5 d5 ll5 ax5 ad5 : Addr} {oI : Obj} {v1 v2 : List Value} {items : Array Value} {k5 : VTok} {t15 t25 : Tok} {hl : Int}
    (hprog : prog = PySem.Challenge.pw_yh0022_01)
    (X : (heapK w.params).In H₀) (TR : TopRead p loose mg mb H₀) (XG : (heapK w.params).In g) (TG : TopRead p loose mg mb g) (HG : Sub H₀ g) (B : BMod H₀ mainGlobals mg bm ob) (hdp : A.depth < 465) (hun : A.units < 1650) (hh : A.handled = none) (G0 : AllBare s0.gens)
    (KA7 : Acc s0 s.os s.drawn s.gens) (F : Fr g L s.heap m) (N : News g L s.heap [(x5, instObj 101 d5), (d5, vfD w.params ((W : Int) + 1) (Str.ofString " ").length (Str.ofString " ") (Str.ofString " ") ll5 ax5 k5), (ll5, listOf #[] 0), (ax5, lobj 185 ad5 #[] 0), (ad5, accD w.params hl t15 t25), (I, oI), (tl, listOf items 0), (y1, tupOf v1), (y2, tupOf v2), ((147 : Addr), tabObj ps1), ((154 : Addr), tabObj ps2)])
    (hoI : oI.cls = .type "list_iterator") (htl : @Ne Nat tl ll5) (z15 : H₀.get? x5 = none) (z25 : H₀.get? d5 = none) (z35 : H₀.get? ll5 = none) (z45 : H₀.get? ax5 = none) (z55 : H₀.get? ad5 = none)
    (hP10 : H₀.get? 147 = none) (ht7 : TriplesOk ps1.toList) (hP20 : H₀.get? 154 = none) (ht2 : TriplesOk ps2.toList)
    (ha0 : 0 < a) (hb0 : 0 < b) (hfa : figs a ≤ 90) (hfb : figs b ≤ 90) (hfp : W ≤ 90) (hhl : hl = (figs a : Int)) (hrel : W + 1 = figs a + figs b)
    (m1 : m "formatter" = some (.ref x5)) (m2 : m "value" = some (.int (b : Int) tb)) (m3 : m "width" = some (.int (W : Int) tw)) (m4 : m "fell" = some (.bool false))
    (hQ : ∀ s' ps1' ps2' m', Fr g L s'.heap m' → m' "width" = some (.int (W : Int) tw) → m' "fell" = some (.bool false) → News g L s'.heap [(I, oI), (tl, listOf items 0), (y1, tupOf v1), (y2, tupOf v2), ((147 : Addr), tabObj ps1'), ((154 : Addr), tabObj ps2')] → TriplesOk ps1'.toList → TriplesOk ps2'.toList → Acc s0 s'.os s'.drawn s'.gens → Q .next s') :
    wpAny (model prog w) A (execs (fallFmt.drop 4) (envX (Str.ofString "_law_fall") s281 L 281 (.ref 280) [])) Q NoE s := by
  have : PySem.Challenge.rw_yh0022_01.prog = PySem.Challenge.rw_yh0022_01.prog ∧ heapK = heapK := by k_fill; exact ⟨rfl, rfl⟩
  clear this
  have u0 : @Ne Nat x5 d5 := upd_ne (N (x5, _) (by k_mem)).1 (N (d5, _) (by k_mem)).1 (by simp)
  have u1 : @Ne Nat x5 ll5 := upd_ne (N (x5, _) (by k_mem)).1 (N (ll5, _) (by k_mem)).1 (by simp)
  have u2 : @Ne Nat x5 ax5 := upd_ne (N (x5, _) (by k_mem)).1 (N (ax5, _) (by k_mem)).1 (by simp)
  have u3 : @Ne Nat x5 ad5 := upd_ne (N (x5, _) (by k_mem)).1 (N (ad5, _) (by k_mem)).1 (by simp)
  have u4 : @Ne Nat x5 I := upd_ne (N (x5, _) (by k_mem)).1 (N (I, _) (by k_mem)).1 (by rw [hoI]; simp)
  have u5 : @Ne Nat x5 tl := upd_ne (N (x5, _) (by k_mem)).1 (N (tl, _) (by k_mem)).1 (by simp)
  have u6 : @Ne Nat x5 y1 := upd_ne (N (x5, _) (by k_mem)).1 (N (y1, _) (by k_mem)).1 (by simp)
  have u7 : @Ne Nat x5 y2 := upd_ne (N (x5, _) (by k_mem)).1 (N (y2, _) (by k_mem)).1 (by simp)
  have u8 : @Ne Nat x5 147 := upd_ne (N (x5, _) (by k_mem)).1 (N (147, _) (by k_mem)).1 (by simp)
  have u9 : @Ne Nat x5 154 := upd_ne (N (x5, _) (by k_mem)).1 (N (154, _) (by k_mem)).1 (by simp)
  have u10 : @Ne Nat d5 ll5 := upd_ne (N (d5, _) (by k_mem)).1 (N (ll5, _) (by k_mem)).1 (by simp)
  have u11 : @Ne Nat d5 ax5 := upd_ne (N (d5, _) (by k_mem)).1 (N (ax5, _) (by k_mem)).1 (by simp)
  have u12 : @Ne Nat d5 ad5 := obj_ne (N (d5, _) (by k_mem)).1 (N (ad5, _) (by k_mem)).1 vf_acc_ne
  have u13 : @Ne Nat d5 I := upd_ne (N (d5, _) (by k_mem)).1 (N (I, _) (by k_mem)).1 (by rw [hoI]; simp)
  have u14 : @Ne Nat d5 tl := upd_ne (N (d5, _) (by k_mem)).1 (N (tl, _) (by k_mem)).1 (by simp)
  have u15 : @Ne Nat d5 y1 := upd_ne (N (d5, _) (by k_mem)).1 (N (y1, _) (by k_mem)).1 (by simp)
  have u16 : @Ne Nat d5 y2 := upd_ne (N (d5, _) (by k_mem)).1 (N (y2, _) (by k_mem)).1 (by simp)
  have u17 : @Ne Nat d5 147 := upd_ne (N (d5, _) (by k_mem)).1 (N (147, _) (by k_mem)).1 (by simp)
  have u18 : @Ne Nat d5 154 := upd_ne (N (d5, _) (by k_mem)).1 (N (154, _) (by k_mem)).1 (by simp)
  have u19 : @Ne Nat ll5 ax5 := upd_ne (N (ll5, _) (by k_mem)).1 (N (ax5, _) (by k_mem)).1 (by simp)
  have u20 : @Ne Nat ll5 ad5 := upd_ne (N (ll5, _) (by k_mem)).1 (N (ad5, _) (by k_mem)).1 (by simp)
  have u21 : @Ne Nat ll5 I := upd_ne (N (ll5, _) (by k_mem)).1 (N (I, _) (by k_mem)).1 (by rw [hoI]; simp)
  have u22 : @Ne Nat ll5 y1 := upd_ne (N (ll5, _) (by k_mem)).1 (N (y1, _) (by k_mem)).1 (by simp)
  have u23 : @Ne Nat ll5 y2 := upd_ne (N (ll5, _) (by k_mem)).1 (N (y2, _) (by k_mem)).1 (by simp)
  have u24 : @Ne Nat ll5 147 := upd_ne (N (ll5, _) (by k_mem)).1 (N (147, _) (by k_mem)).1 (by simp)
  have u25 : @Ne Nat ll5 154 := upd_ne (N (ll5, _) (by k_mem)).1 (N (154, _) (by k_mem)).1 (by simp)
  have u26 : @Ne Nat ax5 ad5 := upd_ne (N (ax5, _) (by k_mem)).1 (N (ad5, _) (by k_mem)).1 (by simp)
  have u27 : @Ne Nat ax5 I := upd_ne (N (ax5, _) (by k_mem)).1 (N (I, _) (by k_mem)).1 (by rw [hoI]; simp)
  have u28 : @Ne Nat ax5 tl := upd_ne (N (ax5, _) (by k_mem)).1 (N (tl, _) (by k_mem)).1 (by simp)
  have u29 : @Ne Nat ax5 y1 := upd_ne (N (ax5, _) (by k_mem)).1 (N (y1, _) (by k_mem)).1 (by simp)
  have u30 : @Ne Nat ax5 y2 := upd_ne (N (ax5, _) (by k_mem)).1 (N (y2, _) (by k_mem)).1 (by simp)
  have u31 : @Ne Nat ax5 147 := upd_ne (N (ax5, _) (by k_mem)).1 (N (147, _) (by k_mem)).1 (by simp)
  have u32 : @Ne Nat ax5 154 := upd_ne (N (ax5, _) (by k_mem)).1 (N (154, _) (by k_mem)).1 (by simp)
  have u33 : @Ne Nat ad5 I := upd_ne (N (ad5, _) (by k_mem)).1 (N (I, _) (by k_mem)).1 (by rw [hoI]; simp)
  have u34 : @Ne Nat ad5 tl := upd_ne (N (ad5, _) (by k_mem)).1 (N (tl, _) (by k_mem)).1 (by simp)
  have u35 : @Ne Nat ad5 y1 := upd_ne (N (ad5, _) (by k_mem)).1 (N (y1, _) (by k_mem)).1 (by simp)
  have u36 : @Ne Nat ad5 y2 := upd_ne (N (ad5, _) (by k_mem)).1 (N (y2, _) (by k_mem)).1 (by simp)
  have u37 : @Ne Nat ad5 147 := upd_ne (N (ad5, _) (by k_mem)).1 (N (147, _) (by k_mem)).1 (by simp)
  have u38 : @Ne Nat ad5 154 := upd_ne (N (ad5, _) (by k_mem)).1 (N (154, _) (by k_mem)).1 (by simp)
  have u39 : @Ne Nat I 147 := upd_ne (N (I, _) (by k_mem)).1 (N (147, _) (by k_mem)).1 (by rw [hoI]; simp)
  have u40 : @Ne Nat I 154 := upd_ne (N (I, _) (by k_mem)).1 (N (154, _) (by k_mem)).1 (by rw [hoI]; simp)
  have u41 : @Ne Nat tl 147 := upd_ne (N (tl, _) (by k_mem)).1 (N (147, _) (by k_mem)).1 (by simp)
  have u42 : @Ne Nat tl 154 := upd_ne (N (tl, _) (by k_mem)).1 (N (154, _) (by k_mem)).1 (by simp)
  have u43 : @Ne Nat y1 147 := upd_ne (N (y1, _) (by k_mem)).1 (N (147, _) (by k_mem)).1 (by simp)
  have u44 : @Ne Nat y1 154 := upd_ne (N (y1, _) (by k_mem)).1 (N (154, _) (by k_mem)).1 (by simp)
  have u45 : @Ne Nat y2 147 := upd_ne (N (y2, _) (by k_mem)).1 (N (147, _) (by k_mem)).1 (by simp)
  have u46 : @Ne Nat y2 154 := upd_ne (N (y2, _) (by k_mem)).1 (N (154, _) (by k_mem)).1 (by simp)
  have hfa0 := figs_pos ha0
  have hfb0 := figs_pos hb0
  have hub : (dec b).length ≤ 900 := by rw [dec_length hb0]; omega
  have hbl : (Str.ofString " ").length = 1 := by decide +kernel
  have hlb := dec_length hb0
  subst hhl
  dsimp only [forBody, fallTold, fallRest, fallFmt, b281, s281, pick, List.drop]
  k_steps
  (with_reducible rename News _ _ _ _ => N8); (with_reducible rename Fr _ _ _ _ => F8)
  have hsm8 : ∀ p ∈ ([] : List (Str × Str)) ++ [(Str.ofString " ", dec b)], p.1.length ≤ 1000 ∧ p.2.length ≤ 1000 := by
    intro p hp
    rw [List.nil_append, List.mem_singleton] at hp
    subst hp
    exact ⟨by show (Str.ofString " ").length ≤ 1000; rw [hbl]; decide, by show (dec b).length ≤ 1000; exact Nat.le_trans hub (by decide)⟩
  have hpl8 : plen (([] : List (Str × Str)) ++ [(Str.ofString " ", dec b)]) = 1 + (figs b : Int) := by
    rw [List.nil_append, plen_one, hbl, hlb]; rfl
  refine appendB_c (x := x5) (xd := d5) (ll := ll5) (ax := ax5) (ad := ad5) (items := #[]) hprog (sub_fr F8 HG) X TR (by (repeat (with_reducible refine dep_lt ?_)); first | exact Nat.lt_of_lt_of_le hdp (Nat.le_of_ble_eq_true rfl) | omega | (simp only [depth_deeper, depth_in1, units_deeper, units_in1]; omega)) B (by (repeat (with_reducible refine uni_lt ?_)); first | exact Nat.lt_of_lt_of_le hun (Nat.le_of_ble_eq_true rfl) | omega | (simp only [depth_deeper, depth_in1, units_deeper, units_in1]; omega)) hh (KA7.gens G0) (N8 (147, _) (by k_mem)).1 hP10 ht7 (N8 (154, _) (by k_mem)).1 hP20 ht2 (N8 (x5, _) (by k_mem)).1 (N8 (d5, _) (by k_mem)).1 (N8 (ll5, _) (by k_mem)).1 (N8 (ax5, _) (by k_mem)).1 (N8 (ad5, _) (by k_mem)).1 z15 z25 z35 z45 z55 rfl rfl hub (by omega) (by omega) (by have := hpl8; rw [List.nil_append] at this; rw [this]; omega) (by omega) (Nat.zero_le _) ?_
  intro s8 ps8 qs8 n8 u18 u28 tp8 Kp8 e18 ht8 e58 hq8 e68 e28 e38 e48 e78
  obtain ⟨tt8, nl8, e68⟩ := e68
  obtain ⟨w18, w28, e38⟩ := e38
  obtain ⟨F8'', N8''⟩ := step5 Kp8 F8 N8 (by k_upd) (by k_upd) (by k_upd) (by k_upd) (by k_upd) e68 e48 e78 e18 e58
  have r8 := allNe_of N8 e28
  simp only [AllNe, and_true] at r8
  (repeat (obtain ⟨_, r8⟩ := r8))
  have N8' := news_fresh Kp8 F8 N8'' e28 e38
  have KA8 : Acc s0 s8.os s8.drawn s8.gens := ⟨Kp8.os.trans KA7.os, Kp8.drawn.trans KA7.drawn, fun q => Kp8.gens (KA7.gens q)⟩
  clear F8 N8 N8''
  k_steps
  (with_reducible rename News _ _ _ _ => N9); (with_reducible rename Fr _ _ _ _ => F9)
  have hne9 : ((Str.ofString " ") == (" " : Str) && dec b == ("" : Str)) = false := by
    rw [show (dec b == ("" : Str)) = false from beq_false_of_ne fun q => by rw [q, show (Str.ofString "").length = 0 by decide +kernel] at hlb; omega, Bool.and_false]
  have hpt9 : ptext (([] : List (Str × Str)) ++ [(Str.ofString " ", dec b)]) = Str.ofString " " ++ dec b := ptext_one _ _
  have hlt9 : (Str.ofString " " ++ dec b : Str).length ≤ 1000 := by
    have : (Str.ofString " " ++ dec b : Str).length = (Str.ofString " ").length + (dec b).length := Array.size_append ..
    rw [this, hbl]; omega
  have hb19 : (Str.ofString "|").length = 1 := by decide +kernel
  have he09 : (Str.ofString "").length = 0 := by decide +kernel
  refine vstr_c (x := x5) (xd := d5) (ll := ll5) (ax := ax5) (ad := ad5) (its := #[]) (a := tp8) (ps0 := []) (lines := [Str.ofString ""]) hprog (sub_fr F9 HG) X TR (by (repeat (with_reducible refine dep_lt ?_)); first | exact Nat.lt_of_lt_of_le hdp (Nat.le_of_ble_eq_true rfl) | omega | (simp only [depth_deeper, depth_in1, units_deeper, units_in1]; omega)) B (by (repeat (with_reducible refine uni_lt ?_)); first | exact Nat.lt_of_lt_of_le hun (Nat.le_of_ble_eq_true rfl) | omega | (simp only [depth_deeper, depth_in1, units_deeper, units_in1]; omega)) hh (KA8.gens G0) (N9 (147, _) (by k_mem)).1 hP10 ht8 (N9 (154, _) (by k_mem)).1 hP20 hq8 (N9 (x5, _) (by k_mem)).1 (N9 (d5, _) (by k_mem)).1 (N9 (ll5, _) (by k_mem)).1 (N9 (ax5, _) (by k_mem)).1 (N9 (ad5, _) (by k_mem)).1 z15 z25 z35 z45 z55 rfl (N9 (tp8, tupOf _) (by k_mem)).1 parts_nil hsm8 (Nat.le_of_ble_eq_true rfl) hne9 ⟨blank_ok, dec_ok _⟩ (by omega) (by omega) (by rw [hpl8]; omega) (Nat.le_of_ble_eq_true rfl) (.inr ⟨rfl, by rw [hpl8]; omega, by rw [hpt9]; exact not_space (by omega) _⟩) (.cons _ _ .nil) (by rw [hpt9]; simp only [List.cons_append, List.nil_append, List.map_cons, List.map_nil, List.sum_cons, List.sum_nil, List.length_cons, List.length_nil, hb19, he09]; omega) ?_
  intro s9 ps9 qs9 t9 Kp9 e19 ht9 e29 hq9
  rw [hpt9]
  obtain ⟨F9', N9'⟩ := dropped Kp9 F9 N9 (by simp) (by simp) (by simp) e19 e29 (I, oI) (tl, listOf items 0) (y1, tupOf v1) (y2, tupOf v2) (by k_mem) (by k_mem) (by k_mem) (by k_mem)
    (by simp only [List.mem_cons, List.not_mem_nil, or_false, not_or]; (repeat' apply And.intro) <;> first | assumption | (apply Ne.symm; assumption) | (change @Ne Nat _ _; omega)) (by simp only [List.mem_cons, List.not_mem_nil, or_false, not_or]; (repeat' apply And.intro) <;> first | assumption | (apply Ne.symm; assumption) | (change @Ne Nat _ _; omega)) (by simp only [List.mem_cons, List.not_mem_nil, or_false, not_or]; (repeat' apply And.intro) <;> first | assumption | (apply Ne.symm; assumption) | (change @Ne Nat _ _; omega)) (by simp only [List.mem_cons, List.not_mem_nil, or_false, not_or]; (repeat' apply And.intro) <;> first | assumption | (apply Ne.symm; assumption) | (change @Ne Nat _ _; omega))
  have KA9 : Acc s0 s9.os s9.drawn s9.gens := ⟨Kp9.os.trans KA8.os, Kp9.drawn.trans KA8.drawn, fun q => Kp9.gens (KA8.gens q)⟩
  clear F9 N9
  k_steps
  · exfalso
    (with_reducible rename (_ != _) = true => hz)
    simp only [List.cons_append, List.nil_append, join_one, join_two, emp_app, app_as, bne_self_eq_false, Bool.false_eq_true] at hz
  (with_reducible rename News _ _ _ _ => N9); (with_reducible rename Fr _ _ _ _ => F9)
  refine hQ _ ps9 qs9 _ F9 ?_ ?_ (news_sub N9 fun p hp => ?_) ht9 hq9 KA9
  · (first | exact m3 | walk_at "mine_var")
  · (first | exact m4 | walk_at "mine_var")
  simp only [List.mem_cons, List.not_mem_nil, or_false] at hp
  rcases hp with rfl | rfl | rfl | rfl | rfl | rfl <;> k_mem
end
/- Q8_1k -/
section
open PySem PySem.W PySem.Calls PyProof.Rows
theorem news_drop6 {g h : Heap} {L : Addr} {l : List (Addr × Obj)} {a b c d e f : Addr × Obj} (N : News g L h (a :: b :: c :: d :: e :: f :: l)) : News g L h (a :: b :: c :: d :: e :: l) := fun p hp => N p (by
  simp only [List.mem_cons] at hp ⊢
  rcases hp with h | h | h | h | h | h <;> simp [h])
theorem fallturn_c {prog : Program} {w : World} {A : Around} {s s0 : Shared} {H₀ g : Heap} {L : Addr} {p : Program} {loose : List Str} {mg mb m : Str → Option Value} {Q : Flow → Shared → Prop} {bm : Addr} {ob : Obj} {ps1 ps2 : Array Value} {a b W : Nat} {ta tb tw : Tok} {I tl y1 y2 : Addr} {oI : Obj} {v1 v2 : List Value} {items : Array Value} {fl : Bool}
    (hprog : prog = PySem.Challenge.pw_yh0022_01)
    (X : (heapK w.params).In H₀) (TR : TopRead p loose mg mb H₀) (XG : (heapK w.params).In g) (TG : TopRead p loose mg mb g) (HG : Sub H₀ g) (B : BMod H₀ mainGlobals mg bm ob) (hdp : A.depth < 465) (hun : A.units < 1650) (hh : A.handled = none) (G0 : AllBare s0.gens)
    (KA : Acc s0 s.os s.drawn s.gens) (F : Fr g L s.heap m) (N : News g L s.heap [(I, oI), (tl, listOf items 0), (y1, tupOf v1), (y2, tupOf v2), ((147 : Addr), tabObj ps1), ((154 : Addr), tabObj ps2)])
    (hoI : oI.cls = .type "list_iterator")
    (hP10 : H₀.get? 147 = none) (ht1 : TriplesOk ps1.toList) (hP20 : H₀.get? 154 = none) (ht2 : TriplesOk ps2.toList) (hszL : H₀.objs.size ≤ L)
    (ha0 : 0 < a) (hb0 : 0 < b) (hfa : figs a ≤ 90) (hfb : figs b ≤ 90) (hfp : W ≤ 90) (hrel : if fl then W = figs a + figs b else W + 1 = figs a + figs b)
    (m1 : m "name" = some (.int (a : Int) ta)) (m2 : m "value" = some (.int (b : Int) tb)) (m3 : m "width" = some (.int (W : Int) tw)) (m4 : m "fell" = some (.bool fl))
    (hQ : ∀ s' ps1' ps2' m', Fr g L s'.heap m' → m' "width" = some (.int (W : Int) tw) → m' "fell" = some (.bool fl) → News g L s'.heap [(I, oI), (tl, listOf items 0), (y1, tupOf v1), (y2, tupOf v2), ((147 : Addr), tabObj ps1'), ((154 : Addr), tabObj ps2')] → TriplesOk ps1'.toList → TriplesOk ps2'.toList → Acc s0 s'.os s'.drawn s'.gens → Q .next s') :
    wpAny (model prog w) A (execs fallFmt (envX (Str.ofString "_law_fall") s281 L 281 (.ref 280) [])) Q NoE s := by
  have : PySem.Challenge.rw_yh0022_01.prog = PySem.Challenge.rw_yh0022_01.prog ∧ heapK = heapK := by k_fill; exact ⟨rfl, rfl⟩
  clear this
  have i1 : @Ne Nat I tl := upd_ne (N (I, _) (by k_mem)).1 (N (tl, _) (by k_mem)).1 (by rw [hoI]; simp)
  have i2 : @Ne Nat I y1 := upd_ne (N (I, _) (by k_mem)).1 (N (y1, _) (by k_mem)).1 (by rw [hoI]; simp)
  have i3 : @Ne Nat I y2 := upd_ne (N (I, _) (by k_mem)).1 (N (y2, _) (by k_mem)).1 (by rw [hoI]; simp)
  have i4 : @Ne Nat I 147 := upd_ne (N (I, _) (by k_mem)).1 (N (147, _) (by k_mem)).1 (by rw [hoI]; simp)
  have i5 : @Ne Nat I 154 := upd_ne (N (I, _) (by k_mem)).1 (N (154, _) (by k_mem)).1 (by rw [hoI]; simp)
  have tn1 : @Ne Nat tl 147 := upd_ne (N (tl, _) (by k_mem)).1 (N (147, _) (by k_mem)).1 (by simp)
  have tn2 : @Ne Nat tl 154 := upd_ne (N (tl, _) (by k_mem)).1 (N (154, _) (by k_mem)).1 (by simp)
  have tn3 : @Ne Nat y1 147 := upd_ne (N (y1, _) (by k_mem)).1 (N (147, _) (by k_mem)).1 (by simp)
  have tn4 : @Ne Nat y1 154 := upd_ne (N (y1, _) (by k_mem)).1 (N (154, _) (by k_mem)).1 (by simp)
  have tn5 : @Ne Nat y2 147 := upd_ne (N (y2, _) (by k_mem)).1 (N (147, _) (by k_mem)).1 (by simp)
  have tn6 : @Ne Nat y2 154 := upd_ne (N (y2, _) (by k_mem)).1 (N (154, _) (by k_mem)).1 (by simp)
  have hda9 := figs_thousand ha0
  have hfa0 := figs_pos ha0
  have hfb0 := figs_pos hb0
  have hub : (dec b).length ≤ 900 := by rw [dec_length hb0]; omega
  have hbl : (Str.ofString " ").length = 1 := by decide +kernel
  have hlb := dec_length hb0
  dsimp only [forBody, fallTold, fallRest, fallFmt, b281, s281, pick, List.drop]
  (try dsimp only)
  k_steps
  (with_reducible rename News _ _ _ _ => N3); (with_reducible rename Fr _ _ _ _ => F3)
  (with_reducible rename Obj.IsDictOf _ _ _ => hd3); (with_reducible rename (_ == sysModules) = false => lo3)
  refine' glw_c (mx := 1000 * a) (sub_fr F3 HG) X TR (by (repeat (with_reducible refine dep_lt ?_)); first | exact Nat.lt_of_lt_of_le hdp (Nat.le_of_ble_eq_true rfl) | omega | (simp only [depth_deeper, depth_in1, units_deeper, units_in1]; omega)) hh (by omega) (N3 _ (.head _)).1 hd3 lo3 ?hv3 ?hm3 ?hx3 (by omega) (by omega) (by omega) ?go3
  case hv3 => simp [intKeyPairs, plainV]
  case hm3 => exact ⟨_, .head _⟩
  case hx3 =>
    intro n t hn
    simp [intKeyPairs] at hn
    omega
  case go3 =>
  intro s3 t3 Kp3
  obtain ⟨F3', N3'⟩ := step0 Kp3 F3 N3
  have KA3 : Acc s0 s3.os s3.drawn s3.gens := ⟨Kp3.os.trans KA.os, Kp3.drawn.trans KA.drawn, fun q => Kp3.gens (KA.gens q)⟩
  clear F3 N3
  rw [hda9]
  k_steps
  (with_reducible rename News _ _ _ _ => N4); (with_reducible rename Fr _ _ _ _ => F4)
  refine figures_c (sub_fr F4 HG) X TR (by (repeat (with_reducible refine dep_lt ?_)); first | exact Nat.lt_of_lt_of_le hdp (Nat.le_of_ble_eq_true rfl) | omega | (simp only [depth_deeper, depth_in1, units_deeper, units_in1]; omega)) hh ?_
  intro s4 t4 Kp4
  obtain ⟨F4', N4'⟩ := step0 Kp4 F4 N4
  have KA4 : Acc s0 s4.os s4.drawn s4.gens := ⟨Kp4.os.trans KA3.os, Kp4.drawn.trans KA3.drawn, fun q => Kp4.gens (KA3.gens q)⟩
  clear F4 N4
  k_steps
  · exfalso; omega
  (with_reducible rename News _ _ _ _ => N5); (with_reducible rename Fr _ _ _ _ => F5)
  refine vf_makeN hprog F5 N5 HG X TR (by (repeat (with_reducible refine dep_lt ?_)); first | exact Nat.lt_of_lt_of_le hdp (Nat.le_of_ble_eq_true rfl) | omega | (simp only [depth_deeper, depth_in1, units_deeper, units_in1]; omega)) hszL KA4 (by decide) ?_
  intro s5 x5 d5 ll5 ax5 ad5 k5 t15 t25 F5' N5' a1 a2 a3 a4 a5 b1 b2 b3 b4 b5 b6 b7 b8 b9 b10 z15 z25 z35 z45 z55 KA5
  simp only [AllNe, and_true] at a1 a2 a3 a4 a5
  (repeat (obtain ⟨_, a1⟩ := a1))
  (repeat (obtain ⟨_, a2⟩ := a2))
  (repeat (obtain ⟨_, a3⟩ := a3))
  (repeat (obtain ⟨_, a4⟩ := a4))
  (repeat (obtain ⟨_, a5⟩ := a5))
  clear F5 N5
  k_steps
  (with_reducible rename News _ _ _ _ => N6); (with_reducible rename Fr _ _ _ _ => F6)
  refine maxl_c (x := x5) (xd := d5) (ll := ll5) (ax := ax5) (ad := ad5) (parts := []) hprog (sub_fr F6 HG) X TR (by (repeat (with_reducible refine dep_lt ?_)); first | exact Nat.lt_of_lt_of_le hdp (Nat.le_of_ble_eq_true rfl) | omega | (simp only [depth_deeper, depth_in1, units_deeper, units_in1]; omega)) B (KA5.gens G0) (N6 (147, _) (by k_mem)).1 hP10 ht1 (N6 (154, _) (by k_mem)).1 hP20 ht2 (N6 (x5, _) (by k_mem)).1 (N6 (d5, _) (by k_mem)).1 (N6 (ll5, _) (by k_mem)).1 (N6 (ax5, _) (by k_mem)).1 (N6 (ad5, _) (by k_mem)).1 z15 z25 z35 z45 z55 parts_nil (fun _ h => nomatch h) (Nat.zero_le _) (by omega) (by omega) ?_
  intro ge6 s6 Kp6 e6 M6
  obtain ⟨F6', N6'⟩ := step0 Kp6 F6 N6
  have KA6 : Acc s0 s6.os s6.drawn s6.gens := ⟨Kp6.os.trans KA5.os, Kp6.drawn.trans KA5.drawn, fun q => Kp6.gens (KA5.gens q)⟩
  clear F6 N6
  k_steps
  (with_reducible rename News _ _ _ _ => N7); (with_reducible rename Fr _ _ _ _ => F7)
  refine ready_next (TR.nolimit.keeps (sub_fr F7 HG)) hh (by omega) (by omega) (KA6.gens G0) M6 ?_
  intro s7 ps7 t7 Kp7 e7 ht7
  obtain ⟨F7', N7'⟩ := step1 Kp7 F7 N7 (by k_upd) e7
  have KA7 : Acc s0 s7.os s7.drawn s7.gens := ⟨Kp7.os.trans KA6.os, Kp7.drawn.trans KA6.drawn, fun q => Kp7.gens (KA6.gens q)⟩
  clear F7 N7
  rw [show plen [] = 0 from rfl]
  iterate 10 (first | walk1 | (dsimp only; walk1))
  · exfalso; omega
  iterate 2 (first | walk1 | (dsimp only; walk1))
  (with_reducible rename News _ _ _ _ => N8); (with_reducible rename Fr _ _ _ _ => F8)
  dsimp only
  cases fl
  · refine fallappf_c (a := a) (b := b) (W := W) (x5 := x5) (d5 := d5) (ll5 := ll5) (ax5 := ax5) (ad5 := ad5) hprog X TR XG TG HG B hdp hun hh G0 KA7 F8 (news_drop6 N8) hoI (by assumption) z15 z25 z35 z45 z55 hP10 ht7 hP20 ht2 ha0 hb0 hfa hfb hfp (by omega) (by simpa using hrel) (by walk_at "mine_var") (by walk_at "mine_var") (by walk_at "mine_var") (by walk_at "mine_var") hQ
  · refine fallappt_c (a := a) (b := b) (W := W) (x5 := x5) (d5 := d5) (ll5 := ll5) (ax5 := ax5) (ad5 := ad5) hprog X TR XG TG HG B hdp hun hh G0 KA7 F8 (news_drop6 N8) hoI (by assumption) z15 z25 z35 z45 z55 hP10 ht7 hP20 ht2 ha0 hb0 hfa hfb hfp (by omega) (by simpa using hrel) (by walk_at "mine_var") (by walk_at "mine_var") (by walk_at "mine_var") (by walk_at "mine_var") hQ
end
/- Q9_1k -/
section
open PySem PySem.W PySem.Calls PyProof.Rows
theorem falltail_c {prog : Program} {w : World} {A : Around} {s s0 : Shared} {H₀ g : Heap} {L : Addr} {p : Program} {loose : List Str} {mg mb m : Str → Option Value} {Q : Flow → Shared → Prop} {bm : Addr} {ob : Obj} {ps1 ps2 : Array Value} {a b : Nat} {ta tb tw : Tok} {tl : Addr} {nn : Nat} {fl : Bool}
    (hprog : prog = PySem.Challenge.pw_yh0022_01)
    (X : (heapK w.params).In H₀) (TR : TopRead p loose mg mb H₀) (XG : (heapK w.params).In g) (TG : TopRead p loose mg mb g) (HG : Sub H₀ g) (B : BMod H₀ mainGlobals mg bm ob) (hdp : A.depth < 465) (hun : A.units < 1650) (hh : A.handled = none) (G0 : AllBare s0.gens)
    (KA : Acc s0 s.os s.drawn s.gens) (F : Fr g L s.heap m) (N : News g L s.heap [(tl, listOf (Array.replicate 24 (.bool fl)) nn), ((147 : Addr), tabObj ps1), ((154 : Addr), tabObj ps2)])
    (hP10 : H₀.get? 147 = none) (ht1 : TriplesOk ps1.toList) (hP20 : H₀.get? 154 = none) (ht2 : TriplesOk ps2.toList) (hszL : H₀.objs.size ≤ L)
    (ha0 : 0 < a) (hb0 : 0 < b) (hfa : figs a ≤ 90) (hfb : figs b ≤ 90) (hfp : figs (a * b) ≤ 90) (hrel : if fl then figs (a * b) = figs a + figs b else figs (a * b) + 1 = figs a + figs b)
    (m1 : m "left" = some (.int (a : Int) ta)) (m2 : m "right" = some (.int (b : Int) tb)) (m3 : m "width" = some (.int (figs (a * b) : Int) tw)) (m4 : m "told" = some (.ref tl))
    (hQ : ∀ s' ps1' ps2' m', Fr g L s'.heap m' → News g L s'.heap [((147 : Addr), tabObj ps1'), ((154 : Addr), tabObj ps2')] → TriplesOk ps1'.toList → TriplesOk ps2'.toList → Acc s0 s'.os s'.drawn s'.gens → Q (.ret (.bool fl)) s') :
    wpAny (model prog w) A (execs fallRest (envX (Str.ofString "_law_fall") s281 L 281 (.ref 280) [])) Q NoE s := by
  have : PySem.Challenge.rw_yh0022_01.prog = PySem.Challenge.rw_yh0022_01.prog ∧ heapK = heapK := by k_fill; exact ⟨rfl, rfl⟩
  clear this
  have tn1 : @Ne Nat tl 147 := upd_ne (N _ (.head _)).1 (N _ (.tail _ (.head _))).1 (by simp)
  have tn2 : @Ne Nat tl 154 := upd_ne (N _ (.head _)).1 (N _ (.tail _ (.tail _ (.head _)))).1 (by simp)
  dsimp only [forBody, fallTold, fallRest, fallFmt, b281, s281, pick, List.drop]
  iterate 19 (first | walk1 | (dsimp only; walk1))
  (with_reducible rename News _ _ _ _ => N2); (with_reducible rename Fr _ _ _ _ => F2)
  refine ne_bools24 (b := fl) (N2 (tl, _) (by k_mem)).1 (N2 _ (.head _)).1 (by simp only [cLine]; omega) ?_
  k_steps
  have hab0 : 0 < a * b := Nat.mul_pos ha0 hb0
  have hfa0 := figs_pos ha0
  have hfb0 := figs_pos hb0
  have hfp0 := figs_pos hab0
  (with_reducible rename News _ _ _ _ => N3); (with_reducible rename Fr _ _ _ _ => F3)
  refine iter_list_own F3 N3 (News.isList N3 (by k_mem)) ?_
  intro I h3 oI0 hI0 F3' N3' hoff3 k3
  simp only [List.forall_mem_cons, List.not_mem_nil, false_implies, implies_true, and_true] at hoff3
  (repeat (obtain ⟨_, hoff3⟩ := hoff3))
  clear F3 N3
  (with_reducible rename News _ _ _ _ => N4); (with_reducible rename Fr _ _ _ _ => F4)
  refine for_list_itemU (v := .ref _) F4 N4 (by k_updF) hI0 (News.isList N4 (by k_mem)) rfl ?_
  intro h4 oI1 hI1 F4' N4' x4
  clear F4 N4
  iterate 8 (first | walk1 | (dsimp only; walk1))
  (with_reducible rename News _ _ _ _ => N5); (with_reducible rename Fr _ _ _ _ => F5)
  refine fallturn_c (a := a) (b := b) (W := figs (a * b)) (I := I) (oI := oI1) hprog X TR XG TG HG B hdp hun hh G0 KA F5 (news6 (p := (I, oI1)) (q := (_, listOf #[.ref _, .ref _] 0)) (r := (_, tupOf [.int (a : Int) _, .int (b : Int) _])) (t := (_, tupOf [.int (b : Int) _, .int (a : Int) _])) (u := ((147 : Addr), tabObj ps1)) (v := ((154 : Addr), tabObj ps2)) N5 (by k_mem) (by k_mem) (by k_mem) (by k_mem) (by k_mem) (by k_mem))
    hI1.1 hP10 ht1 hP20 ht2 hszL ha0 hb0 hfa hfb hfp hrel (by walk_at "mine_var") (by walk_at "mine_var") (by walk_at "mine_var") (by walk_at "mine_var") ?_
  intro s5 qs1 qs2 m5 F5' w5 v5 N5' hs1 hs2 KB
  clear F5 N5
  refine LoopB.next ?_
  (with_reducible rename News _ _ _ _ => N6); (with_reducible rename Fr _ _ _ _ => F6)
  refine for_list_itemU (v := .ref _) F6 N6 (by k_updF) hI1 (News.isList N6 (by k_mem)) rfl ?_
  intro h6 oI2 hI2 F6' N6' x6
  clear F6 N6
  iterate 8 (first | walk1 | (dsimp only; walk1))
  (with_reducible rename News _ _ _ _ => N7); (with_reducible rename Fr _ _ _ _ => F7)
  refine fallturn_c (a := b) (b := a) (W := figs (a * b)) (I := I) (oI := oI2) hprog X TR XG TG HG B hdp hun hh G0 KB F7 (news6 (p := (I, oI2)) (q := (_, listOf #[.ref _, .ref _] 0)) (r := (_, tupOf [.int (a : Int) _, .int (b : Int) _])) (t := (_, tupOf [.int (b : Int) _, .int (a : Int) _])) (u := ((147 : Addr), tabObj qs1)) (v := ((154 : Addr), tabObj qs2)) N7 (by k_mem) (by k_mem) (by k_mem) (by k_mem) (by k_mem) (by k_mem))
    hI2.1 hP10 hs1 hP20 hs2 hszL hb0 ha0 hfb hfa hfp (by rw [Nat.add_comm (figs b)]; exact hrel) (by walk_at "mine_var") (by walk_at "mine_var") (by walk_at "mine_var") (by walk_at "mine_var") ?_
  intro s7 rs1 rs2 m7 F7' w7 v7 N7' hr1 hr2 KC
  clear F7 N7
  refine LoopB.next ?_
  (with_reducible rename News _ _ _ _ => N8); (with_reducible rename Fr _ _ _ _ => F8)
  refine for_list_doneU hh F8 N8 (by k_updF) hI2 (News.isList N8 (by k_mem)) rfl ?_
  intro h8 oI3 F8' N8' x8
  clear F8 N8
  k_steps
  (with_reducible rename News _ _ _ _ => N9); (with_reducible rename Fr _ _ _ _ => F9)
  refine hQ _ rs1 rs2 _ F9 (news_sub N9 fun p hp => ?_) hr1 hr2 KC
  simp only [List.mem_cons, List.not_mem_nil, or_false] at hp
  rcases hp with rfl | rfl <;> k_mem
end
/- L8_1k -/
local macro_rules | `(tactic| walk_at "loadName") => `(tactic| (k_here; k_dflt (first | (refine ldn (by k_asm) (by first | assumption | walk_at "mine_var") ?_) | fail "var")))
/- T1_1k -/
section
open PySem PySem.W PySem.Calls PyProof.Rows
theorem news_tl {g h : Heap} {L : Addr} {q : Addr × Obj} {l : List (Addr × Obj)} (N : News g L h (q :: l)) : News g L h l := fun p hp => N p (.tail _ hp)
theorem pairturn_c {prog : Program} {w : World} {A : Around} {s s0 : Shared} {H₀ g : Heap} {L : Addr} {p : Program} {loose : List Str} {mg mb m : Str → Option Value} {Q : Flow → Shared → Prop} {pr c nn : Nat} {tl : Addr} {v1 v2 : Value} {its : List Value} {news news' : List (Addr × Obj)} {fl : Bool}
   
    (X : (heapK w.params).In H₀) (TR : TopRead p loose mg mb H₀) (XG : (heapK w.params).In g) (TG : TopRead p loose mg mb g) (HG : Sub H₀ g) (hdp : A.depth < 465) (hun : A.units < 1650)
    (KA : Acc s0 s.os s.drawn s.gens) (F : Fr g L s.heap m) (N : News g L s.heap news) (U : Upd tl (listOf its.toArray nn) (listOf (its ++ [Value.bool fl, Value.bool fl, Value.bool fl, Value.bool fl]).toArray (nn + 1)) news news')
    (hv1 : ∀ h, News g L h news → TxtAt w.params h v1 (dec pr)) (hv2 : ∀ h, News g L h news → TxtAt w.params h v2 (dec c)) (O : Ords fl pr c) (hsz : its.length ≤ 100)
    (m1 : m "less" = some v1) (m2 : m "more" = some v2) (m3 : m "told" = some (.ref tl))
    (hQ : ∀ s' m', Fr g L s'.heap m' → (∀ y : Str, y ≠ Str.ofString "told" → m' y = m y) → m' "told" = some (.ref tl) → News g L s'.heap news' → Acc s0 s'.os s'.drawn s'.gens → Q .next s') :
    wpAny (model prog w) A (execs (forBody (fallTold.drop 1)) (envX (Str.ofString "_law_fall") s281 L 281 (.ref 280) [])) Q NoE s := by
  have : PySem.Challenge.rw_yh0022_01.prog = PySem.Challenge.rw_yh0022_01.prog ∧ heapK = heapK := by k_fill; exact ⟨rfl, rfl⟩
  clear this
  dsimp only [forBody, fallTold, fallRest, fallFmt, b281, s281, pick, List.drop]
  obtain ⟨o1, o2, o3, o4⟩ := O
  (try dsimp only)
  k_steps
  (with_reducible rename News _ _ _ _ => N1); (with_reducible rename Fr _ _ _ _ => F1)
  refine cmpLt_N F1 N1 XG HG X TR (by (repeat (with_reducible refine dep_lt ?_)); first | exact Nat.lt_of_lt_of_le hdp (Nat.le_of_ble_eq_true rfl) | omega | (simp only [depth_deeper, depth_in1, units_deeper, units_in1]; omega)) (by (repeat (with_reducible refine uni_lt ?_)); first | exact Nat.lt_of_lt_of_le hun (Nat.le_of_ble_eq_true rfl) | omega | (simp only [depth_deeper, depth_in1, units_deeper, units_in1]; omega)) KA (hv1 _ N1) (hv2 _ N1) o1 ?_
  intro s1 F1' N1' KA1
  clear F1 N1
  k_steps
  (with_reducible rename News _ _ _ _ => N2); (with_reducible rename Fr _ _ _ _ => F2)
  refine cmpLtE_N F2 N2 XG HG X TR (by (repeat (with_reducible refine dep_lt ?_)); first | exact Nat.lt_of_lt_of_le hdp (Nat.le_of_ble_eq_true rfl) | omega | (simp only [depth_deeper, depth_in1, units_deeper, units_in1]; omega)) (by (repeat (with_reducible refine uni_lt ?_)); first | exact Nat.lt_of_lt_of_le hun (Nat.le_of_ble_eq_true rfl) | omega | (simp only [depth_deeper, depth_in1, units_deeper, units_in1]; omega)) KA1 (hv2 _ N2) (hv1 _ N2) o2 ?_
  intro s2 F2' N2' KA2
  clear F2 N2
  k_steps
  (with_reducible rename News _ _ _ _ => N3); (with_reducible rename Fr _ _ _ _ => F3)
  refine cmpGt_N F3 N3 XG HG X TR (by (repeat (with_reducible refine dep_lt ?_)); first | exact Nat.lt_of_lt_of_le hdp (Nat.le_of_ble_eq_true rfl) | omega | (simp only [depth_deeper, depth_in1, units_deeper, units_in1]; omega)) (by (repeat (with_reducible refine uni_lt ?_)); first | exact Nat.lt_of_lt_of_le hun (Nat.le_of_ble_eq_true rfl) | omega | (simp only [depth_deeper, depth_in1, units_deeper, units_in1]; omega)) KA2 (hv2 _ N3) (hv1 _ N3) o3 ?_
  intro s3 F3' N3' KA3
  clear F3 N3
  k_steps
  (with_reducible rename News _ _ _ _ => N4); (with_reducible rename Fr _ _ _ _ => F4)
  refine cmpGtE_N F4 N4 XG HG X TR (by (repeat (with_reducible refine dep_lt ?_)); first | exact Nat.lt_of_lt_of_le hdp (Nat.le_of_ble_eq_true rfl) | omega | (simp only [depth_deeper, depth_in1, units_deeper, units_in1]; omega)) (by (repeat (with_reducible refine uni_lt ?_)); first | exact Nat.lt_of_lt_of_le hun (Nat.le_of_ble_eq_true rfl) | omega | (simp only [depth_deeper, depth_in1, units_deeper, units_in1]; omega)) KA3 (hv1 _ N4) (hv2 _ N4) o4 ?_
  intro s4 F4' N4' KA4
  clear F4 N4
  k_steps
  (with_reducible rename News _ _ _ _ => N5); (with_reducible rename Fr _ _ _ _ => F5)
  refine' iadd_list (its := its.toArray) (n := nn) F5 N5 (News.isList N5 (.head _)) (Upd.tail ?ne9 (by
    have e4 : (its.toArray ++ #[Value.bool fl, Value.bool !!fl, Value.bool fl, Value.bool !!fl]).size = its.toArray.size + 4 := by simp
    have e5 : (its.toArray ++ #[Value.bool fl, Value.bool !!fl, Value.bool fl, Value.bool !!fl]) = (its ++ [Value.bool fl, Value.bool fl, Value.bool fl, Value.bool fl]).toArray := by simp
    rw [show ((its.toArray ++ #[Value.bool fl, Value.bool !!fl, Value.bool fl, Value.bool !!fl]).size == its.toArray.size) = false from beq_false_of_ne (by omega), e5]
    exact U)) (by simp; omega) ?go9
  case ne9 =>
    intro q
    obtain ⟨r, hr, e⟩ := List.mem_map.mp (upd_has U)
    have h1 : @LT.lt Nat _ r.1 _ := (‹∀ p ∈ news, @LT.lt Nat _ p.1 _› : _) r hr
    have e : @Eq Nat r.1 tl := e
    have q : @Eq Nat _ tl := q
    (try dsimp only at q)
    omega
  case go9 =>
  intro h6 F6 N6
  clear F5 N5
  k_steps
  (with_reducible rename News _ _ _ _ => N7); (with_reducible rename Fr _ _ _ _ => F7)
  exact hQ _ _ F7 (fun y hy => if_neg hy) (if_pos rfl) (news_tl N7) KA4
end
/- T2_1k -/
section
open PySem PySem.W PySem.Calls PyProof.Rows
theorem bools24 (b : Bool) : List.toArray ([] ++ List.replicate 12 (Value.bool b) ++ List.replicate 12 (Value.bool b)) = Array.replicate 24 (Value.bool b) := rfl
theorem news7 {g h : Heap} {L : Addr} {l : List (Addr × Obj)} {p q r t u v z : Addr × Obj} (N : News g L h l) (a : p ∈ l) (b : q ∈ l) (c : r ∈ l) (d : t ∈ l) (e : u ∈ l) (f : v ∈ l) (k : z ∈ l) : News g L h [p, q, r, t, u, v, z] := fun x hx => by
  simp only [List.mem_cons, List.not_mem_nil, or_false] at hx
  rcases hx with rfl | rfl | rfl | rfl | rfl | rfl | rfl
  · exact N _ a
  · exact N _ b
  · exact N _ c
  · exact N _ d
  · exact N _ e
  · exact N _ f
  · exact N _ k
theorem facturn_c {prog : Program} {w : World} {A : Around} {s s0 : Shared} {H₀ g : Heap} {L : Addr} {p : Program} {loose : List Str} {mg mb m : Str → Option Value} {Q : Flow → Shared → Prop} {pr c nn : Nat} {tl x3 d3 : Addr} {its : List Value} {R : List (Addr × Obj)} {fl : Bool} {tf tw k3 u3 : Tok}
    (hprog : prog = PySem.Challenge.pw_yh0022_01)
    (X : (heapK w.params).In H₀) (TR : TopRead p loose mg mb H₀) (XG : (heapK w.params).In g) (TG : TopRead p loose mg mb g) (HG : Sub H₀ g) (hdp : A.depth < 465) (hun : A.units < 1650) (hh : A.handled = none) (hszL : H₀.objs.size ≤ L)
    (KA : Acc s0 s.os s.drawn s.gens) (F : Fr g L s.heap m) (N : News g L s.heap ((tl, listOf its.toArray nn) :: (x3, instObj 263 d3) :: (d3, qnD w.params (dec pr) k3 u3) :: R)) (hoff : ∀ p ∈ R, p.1 ≠ tl)
    (O : Ords fl pr c) (hsz : its.length ≤ 80)
    (m1 : m "factor" = some (.str (dec c) tf)) (m2 : m "third" = some (.ref x3)) (m3 : m "told" = some (.ref tl)) (m4 : m "word" = some (.str (dec pr) tw))
    (hQ : ∀ s' m' nn', Fr g L s'.heap m' → (∀ y : Str, y ≠ Str.ofString "told" → y ≠ Str.ofString "named" → y ≠ Str.ofString "less" → y ≠ Str.ofString "more" → m' y = m y) → m' "told" = some (.ref tl) →
      News g L s'.heap ((tl, listOf (its ++ List.replicate 12 (Value.bool fl)).toArray nn') :: (x3, instObj 263 d3) :: (d3, qnD w.params (dec pr) k3 u3) :: R) → Acc s0 s'.os s'.drawn s'.gens → Q .next s') :
    wpAny (model prog w) A (execs fallTold (envX (Str.ofString "_law_fall") s281 L 281 (.ref 280) [])) Q NoE s := by
  have : PySem.Challenge.rw_yh0022_01.prog = PySem.Challenge.rw_yh0022_01.prog ∧ heapK = heapK := by k_fill; exact ⟨rfl, rfl⟩
  clear this
  have i1 : @Ne Nat x3 tl := upd_ne (N (x3, _) (by k_mem)).1 (N (tl, _) (by k_mem)).1 (by simp)
  have i2 : @Ne Nat d3 tl := upd_ne (N (d3, _) (by k_mem)).1 (N (tl, _) (by k_mem)).1 (by simp)
  dsimp only [forBody, fallTold, fallRest, fallFmt, b281, s281, pick, List.drop]
  (try dsimp only)
  k_steps
  (with_reducible rename News _ _ _ _ => N1); (with_reducible rename Fr _ _ _ _ => F1)
  refine qn_makeN F1 N1 HG X TR (by (repeat (with_reducible refine dep_lt ?_)); first | exact Nat.lt_of_lt_of_le hdp (Nat.le_of_ble_eq_true rfl) | omega | (simp only [depth_deeper, depth_in1, units_deeper, units_in1]; omega)) hszL KA ?_
  intro s1 x1 d1 k1 u1 F1' N1' a1 a2 a3 KA1
  simp only [AllNe] at a1 a2
  obtain ⟨_, _, _, a1⟩ := a1
  obtain ⟨_, _, _, a2⟩ := a2
  clear F1 N1
  k_steps
  (with_reducible rename News _ _ _ _ => N2); (with_reducible rename Fr _ _ _ _ => F2)
  refine iter_list_own F2 N2 (News.isList N2 (by k_mem)) ?_
  intro J h2 oJ0 hJ0 F2' N2' hoff2 k2
  simp only [List.forall_mem_cons] at hoff2
  obtain ⟨_, _, _, _, _, _, _, _, _, hoffR⟩ := hoff2
  clear F2 N2
  (with_reducible rename News _ _ _ _ => N30); (with_reducible rename Fr _ _ _ _ => F30)
  refine for_list_itemU (v := .ref _) F30 N30 (by k_updF) hJ0 (News.isList N30 (by k_mem)) rfl ?_
  intro h30 oJ1 hJ1 F3' N3' y3
  clear F30 N30
  iterate 8 (first | walk1 | (dsimp only; walk1))
  (with_reducible rename News _ _ _ _ => N4); (with_reducible rename Fr _ _ _ _ => F4)
  refine pairturn_c (pr := pr) (c := c) (fl := fl) (tl := tl) (nn := nn + 0) (v1 := .ref x3) (v2 := .ref x1) (its := its) X TR XG TG HG hdp hun KA1 F4 N4 (by k_upd) (fun h N => .inr ⟨x3, d3, _, _, rfl, (N (x3, _) (by k_mem)).1, (N (d3, _) (by k_mem)).1⟩) (fun h N => .inr ⟨x1, d1, _, _, rfl, (N (x1, _) (by k_mem)).1, (N (d1, _) (by k_mem)).1⟩) O (by (try simp only [List.length_append, List.length_cons, List.length_nil]); omega) (by walk_at "mine_var") (by walk_at "mine_var") (by walk_at "mine_var") ?_
  intro s40 m40 F4' M40 T40 N4' KA40
  clear F4 N4
  refine LoopB.next ?_
  (with_reducible rename News _ _ _ _ => N31); (with_reducible rename Fr _ _ _ _ => F31)
  refine for_list_itemU (v := .ref _) F31 N31 (by k_updF) hJ1 (News.isList N31 (by k_mem)) rfl ?_
  intro h31 oJ2 hJ2 F3' N3' y3
  clear F31 N31
  iterate 8 (first | walk1 | (dsimp only; walk1))
  (with_reducible rename News _ _ _ _ => N4); (with_reducible rename Fr _ _ _ _ => F4)
  refine pairturn_c (pr := pr) (c := c) (fl := fl) (tl := tl) (nn := nn + 1) (v1 := .ref x3) (v2 := .str (dec c) tf) (its := its ++ [Value.bool fl, Value.bool fl, Value.bool fl, Value.bool fl]) X TR XG TG HG hdp hun KA40 F4 N4 (by k_upd) (fun h N => .inr ⟨x3, d3, _, _, rfl, (N (x3, _) (by k_mem)).1, (N (d3, _) (by k_mem)).1⟩) (fun h N => .inl ⟨_, rfl⟩) O (by (try simp only [List.length_append, List.length_cons, List.length_nil]); omega) (by walk_at "mine_var") (by walk_at "mine_var") (by walk_at "mine_var") ?_
  intro s41 m41 F4' M41 T41 N4' KA41
  clear F4 N4
  refine LoopB.next ?_
  (with_reducible rename News _ _ _ _ => N32); (with_reducible rename Fr _ _ _ _ => F32)
  refine for_list_itemU (v := .ref _) F32 N32 (by k_updF) hJ2 (News.isList N32 (by k_mem)) rfl ?_
  intro h32 oJ3 hJ3 F3' N3' y3
  clear F32 N32
  iterate 8 (first | walk1 | (dsimp only; walk1))
  (with_reducible rename News _ _ _ _ => N4); (with_reducible rename Fr _ _ _ _ => F4)
  refine pairturn_c (pr := pr) (c := c) (fl := fl) (tl := tl) (nn := nn + 2) (v1 := .str (dec pr) tw) (v2 := .ref x1) (its := its ++ [Value.bool fl, Value.bool fl, Value.bool fl, Value.bool fl] ++ [Value.bool fl, Value.bool fl, Value.bool fl, Value.bool fl]) X TR XG TG HG hdp hun KA41 F4 N4 (by k_upd) (fun h N => .inl ⟨_, rfl⟩) (fun h N => .inr ⟨x1, d1, _, _, rfl, (N (x1, _) (by k_mem)).1, (N (d1, _) (by k_mem)).1⟩) O (by (try simp only [List.length_append, List.length_cons, List.length_nil]); omega) (by walk_at "mine_var") (by walk_at "mine_var") (by walk_at "mine_var") ?_
  intro s42 m42 F4' M42 T42 N4' KA42
  clear F4 N4
  refine LoopB.next ?_
  (with_reducible rename News _ _ _ _ => N33); (with_reducible rename Fr _ _ _ _ => F33)
  refine for_list_doneU hh F33 N33 (by k_updF) hJ3 (News.isList N33 (by k_mem)) rfl ?_
  intro h5 oJ4 F5' N5' y5
  clear F33 N33
  refine wpAny_execs_nil ?_
  refine wpAny_execs_nil ?_
  (with_reducible rename News _ _ _ _ => N6); (with_reducible rename Fr _ _ _ _ => F6)
  have e12 : its ++ [Value.bool fl, Value.bool fl, Value.bool fl, Value.bool fl] ++ [Value.bool fl, Value.bool fl, Value.bool fl, Value.bool fl] ++ [Value.bool fl, Value.bool fl, Value.bool fl, Value.bool fl] = its ++ List.replicate 12 (Value.bool fl) := by simp [List.replicate]
  refine hQ _ _ _ F6 (fun y h1 h2 h3 h4 => ?_) T42 (news_sub (e12 ▸ N6) fun p hp => .tail _ (.tail _ (.tail _ (.tail _ (.tail _ (.tail _ (.tail _ hp))))))) KA42
  rw [M42 y h1, if_neg h4, if_neg h3, M41 y h1, if_neg h4, if_neg h3, M40 y h1, if_neg h4, if_neg h3, if_neg h2]
end
/- Q4_1k -/
section
open PySem PySem.W PySem.Calls PyProof.Rows
theorem fall_c {prog : Program} {w : World} {A : Around} {E : Value → Shared → Prop} {s : Shared} {H₀ : Heap} {p : Program} {loose : List Str} {mg mb : Str → Option Value} {Q : Value → Shared → Prop} {bm : Addr} {ob : Obj} {ps1 ps2 : Array Value} {a b : Nat} {ta tb : Tok} {fl : Bool} (hprog : prog = PySem.Challenge.pw_yh0022_01)
    (HS : Sub H₀ s.heap) (X : (heapK w.params).In H₀) (TR : TopRead p loose mg mb H₀) (hdp : A.depth < 460) (B : BMod H₀ mainGlobals mg bm ob) (hun : A.units < 1600) (hh : A.handled = none) (G : AllBare s.gens)
    (hP1 : s.heap.get? 147 = some (tabObj ps1)) (hP10 : H₀.get? 147 = none) (ht1 : TriplesOk ps1.toList) (hP2 : s.heap.get? 154 = some (tabObj ps2)) (hP20 : H₀.get? 154 = none) (ht2 : TriplesOk ps2.toList) (hsz : H₀.objs.size ≤ s.heap.objs.size) (ha0 : 0 < a) (hb0 : 0 < b) (hfa : figs a ≤ 90) (hfb : figs b ≤ 90) (hfp : figs (a * b) ≤ 90) (hrel : if fl then figs (a * b) = figs a + figs b else figs (a * b) + 1 = figs a + figs b) (oa : Ords fl (a * b) a) (ob' : Ords fl (a * b) b)
    (hQ : ∀ s' ps1' ps2', Kept [147, 154] s s' → s'.heap.get? 147 = some (tabObj ps1') → TriplesOk ps1'.toList → s'.heap.get? 154 = some (tabObj ps2') → TriplesOk ps2'.toList → Q (.bool fl) s') :
    wpAny (model prog w) A (call (.ref 281) [.int (a : Int) ta, .int (b : Int) tb]) Q E s := by
  have : PySem.Challenge.rw_yh0022_01.prog = PySem.Challenge.rw_yh0022_01.prog ∧ heapK = heapK := by k_fill; exact ⟨rfl, rfl⟩
  clear this
  have hT : ∀ q ∈ [((147 : Addr), tabObj ps1), ((154 : Addr), tabObj ps2)], s.heap.get? q.1 = some q.2 := (all_cons hP1 (all_cons hP2 all_nil))
  refine wpAny_call ?_
  refine enter _ hT HS (all_cons hP10 (all_cons hP20 all_nil)) X TR (by k_is) (by k_is) (Nat.lt_of_lt_of_le hdp (Nat.le_of_ble_eq_true rfl)) (BindsTo.of_eq (binds := [("left", .int (a : Int) ta), ("right", .int (b : Int) tb)]) rfl) (locs rfl) (by decide) rfl rfl rfl ?_
  intro g L' h₁ F N XG TG HG hkeep hk₁ hL
  have BG := B.keeps HG
  have hszL : H₀.objs.size ≤ L' := hL ▸ hsz
  have KA0 : Acc s s.os s.drawn s.gens := ⟨rfl, rfl, id⟩
  obtain ⟨oa1, oa2, oa3, oa4⟩ := oa
  obtain ⟨ob1, ob2, ob3, ob4⟩ := ob'
  dsimp only
  (try k_fold)
  k_steps
  have hab1 : a ≤ a * b := Nat.le_mul_of_pos_right a hb0
  have hab2 : b ≤ a * b := Nat.le_mul_of_pos_left b ha0
  have hab0 : 0 < a * b := Nat.mul_pos ha0 hb0
  have hw9 := figs_thousand hab0
  have hda9 := figs_thousand ha0
  have hdb9 := figs_thousand hb0
  have hfa0 := figs_pos ha0
  have hfb0 := figs_pos hb0
  have hfp0 := figs_pos hab0
  (with_reducible rename News _ _ _ _ => N2); (with_reducible rename Fr _ _ _ _ => F2); (with_reducible rename Obj.IsDictOf _ _ _ => hd2); (with_reducible rename (_ == sysModules) = false => lo2)
  refine' glw_c (mx := 1000 * (a * b)) (sub_fr F2 HG) X TR (by (repeat (with_reducible refine dep_lt ?_)); first | exact Nat.lt_of_lt_of_le hdp (Nat.le_of_ble_eq_true rfl) | omega | (simp only [depth_deeper, depth_in1, units_deeper, units_in1]; omega)) hh (by (repeat (with_reducible refine uni_lt ?_)); first | exact Nat.lt_of_lt_of_le hun (Nat.le_of_ble_eq_true rfl) | omega | (simp only [depth_deeper, depth_in1, units_deeper, units_in1]; omega)) (N2 _ (.head _)).1 hd2 lo2 ?hv9 ?hm9 ?hx9 (by omega) (by omega) (by omega) ?go9
  case hv9 => simp [intKeyPairs, plainV]
  case hm9 => exact ⟨_, .tail _ (.tail _ (.tail _ (.head _)))⟩
  case hx9 =>
    intro n t hn
    simp [intKeyPairs] at hn
    omega
  case go9 =>
  intro s3 t3 Kp3
  obtain ⟨F3, N3⟩ := step0 Kp3 F2 N2
  have KA3 : Acc s s3.os s3.drawn s3.gens := ⟨Kp3.os.trans KA0.os, Kp3.drawn.trans KA0.drawn, fun q => Kp3.gens (KA0.gens q)⟩
  clear F2 N2
  rw [hw9]
  k_steps
  (with_reducible rename News _ _ _ _ => N4); (with_reducible rename Fr _ _ _ _ => F4)
  refine figures_c (sub_fr F4 HG) X TR (by (repeat (with_reducible refine dep_lt ?_)); first | exact Nat.lt_of_lt_of_le hdp (Nat.le_of_ble_eq_true rfl) | omega | (simp only [depth_deeper, depth_in1, units_deeper, units_in1]; omega)) hh ?_
  intro s5 t5 Kp5
  obtain ⟨F5, N5⟩ := step0 Kp5 F4 N4
  have KA5 : Acc s s5.os s5.drawn s5.gens := ⟨Kp5.os.trans KA3.os, Kp5.drawn.trans KA3.drawn, fun q => Kp5.gens (KA3.gens q)⟩
  clear F4 N4
  have hp5 : figs (a * b) ≤ 500 := by omega
  have ha5 : figs a ≤ 500 := by omega
  have hb5 : figs b ≤ 500 := by omega
  k_steps
  · exfalso; omega
  (with_reducible rename News _ _ _ _ => N21); (with_reducible rename Fr _ _ _ _ => F21); (with_reducible rename Acc _ _ _ _ => KA21)
  have wv : ((figs (a * b) + 3 : Nat) : Int) - 3 = (figs (a * b) : Int) := by omega
  rw [wv] at F21
  refine iter_list_own F21 N21 (News.isList N21 (by k_mem)) ?_
  intro I h21 oI0 hI0 F21' N21' hoff21 k21
  simp only [List.forall_mem_cons, List.not_mem_nil, false_implies, implies_true, and_true] at hoff21
  (repeat (obtain ⟨_, hoff21⟩ := hoff21))
  clear F21 N21
  (with_reducible rename News _ _ _ _ => N2); (with_reducible rename Fr _ _ _ _ => F2)
  refine for_list_itemU (v := .str (dec a) _) F2 N2 (by k_updF) hI0 (News.isList N2 (by k_mem)) rfl ?_
  intro h20 oI1 hI1 F2' N2' x20
  clear F2 N2
  refine wpAny_assign_Name ?_
  walk1
  (with_reducible rename News _ _ _ _ => N3); (with_reducible rename Fr _ _ _ _ => F3)
  refine facturn_c (pr := a * b) (c := a) (fl := fl) (its := ([] : List Value)) (R := [(I, oI1), (_, listOf #[.str (dec a) _, .str (dec b) _] 0), ((147 : Addr), tabObj ps1), ((154 : Addr), tabObj ps2)]) hprog X TR XG TG HG (by (repeat (with_reducible refine dep_lt ?_)); first | exact Nat.lt_of_lt_of_le hdp (Nat.le_of_ble_eq_true rfl) | omega | (simp only [depth_deeper, depth_in1, units_deeper, units_in1]; omega)) (by (repeat (with_reducible refine uni_lt ?_)); first | exact Nat.lt_of_lt_of_le hun (Nat.le_of_ble_eq_true rfl) | omega | (simp only [depth_deeper, depth_in1, units_deeper, units_in1]; omega)) hh hszL KA21 F3
    (news7 N3 (by k_mem) (by k_mem) (by k_mem) (by k_mem) (by k_mem) (by k_mem) (by k_mem)) (by k_all) ⟨oa1, oa2, oa3, oa4⟩ (by simp) (by walk_at "mine_var") (by walk_at "mine_var") (by walk_at "mine_var") (by walk_at "mine_var") ?_
  intro s40 m40 nn40 F4' M40 T40 N4' KA40
  clear F3 N3
  have t0third : m40 (Str.ofString "third") = some (.ref _) := (M40 _ (by decide) (by decide) (by decide) (by decide)).trans (by walk_at "mine_var")
  have t0word : m40 (Str.ofString "word") = some (.str (dec (a * b)) _) := (M40 _ (by decide) (by decide) (by decide) (by decide)).trans (by walk_at "mine_var")
  have t0left : m40 (Str.ofString "left") = some (.int (a : Int) ta) := (M40 _ (by decide) (by decide) (by decide) (by decide)).trans (by walk_at "mine_var")
  have t0right : m40 (Str.ofString "right") = some (.int (b : Int) tb) := (M40 _ (by decide) (by decide) (by decide) (by decide)).trans (by walk_at "mine_var")
  have t0width : m40 (Str.ofString "width") = some (.int (figs (a * b) : Int) _) := (M40 _ (by decide) (by decide) (by decide) (by decide)).trans (by walk_at "mine_var")
  refine LoopB.next ?_
  (with_reducible rename News _ _ _ _ => N2); (with_reducible rename Fr _ _ _ _ => F2)
  refine for_list_itemU (v := .str (dec b) _) F2 N2 (by k_updF) hI1 (News.isList N2 (by k_mem)) rfl ?_
  intro h21 oI2 hI2 F2' N2' x21
  clear F2 N2
  refine wpAny_assign_Name ?_
  walk1
  (with_reducible rename News _ _ _ _ => N3); (with_reducible rename Fr _ _ _ _ => F3)
  refine facturn_c (pr := a * b) (c := b) (fl := fl) (its := [] ++ List.replicate 12 (Value.bool fl)) (R := [(I, oI2), (_, listOf #[.str (dec a) _, .str (dec b) _] 0), ((147 : Addr), tabObj ps1), ((154 : Addr), tabObj ps2)]) hprog X TR XG TG HG (by (repeat (with_reducible refine dep_lt ?_)); first | exact Nat.lt_of_lt_of_le hdp (Nat.le_of_ble_eq_true rfl) | omega | (simp only [depth_deeper, depth_in1, units_deeper, units_in1]; omega)) (by (repeat (with_reducible refine uni_lt ?_)); first | exact Nat.lt_of_lt_of_le hun (Nat.le_of_ble_eq_true rfl) | omega | (simp only [depth_deeper, depth_in1, units_deeper, units_in1]; omega)) hh hszL KA40 F3
    (news7 N3 (by k_mem) (by k_mem) (by k_mem) (by k_mem) (by k_mem) (by k_mem) (by k_mem)) (by k_all) ⟨ob1, ob2, ob3, ob4⟩ (by simp) (by walk_at "mine_var") (by walk_at "mine_var") (by walk_at "mine_var") (by walk_at "mine_var") ?_
  intro s41 m41 nn41 F4' M41 T41 N4' KA41
  clear F3 N3
  have t1left : m41 (Str.ofString "left") = some (.int (a : Int) ta) := (M41 _ (by decide) (by decide) (by decide) (by decide)).trans (by walk_at "mine_var")
  have t1right : m41 (Str.ofString "right") = some (.int (b : Int) tb) := (M41 _ (by decide) (by decide) (by decide) (by decide)).trans (by walk_at "mine_var")
  have t1width : m41 (Str.ofString "width") = some (.int (figs (a * b) : Int) _) := (M41 _ (by decide) (by decide) (by decide) (by decide)).trans (by walk_at "mine_var")
  refine LoopB.next ?_
  (with_reducible rename News _ _ _ _ => N5); (with_reducible rename Fr _ _ _ _ => F5)
  refine for_list_doneU hh F5 N5 (by k_updF) hI2 (News.isList N5 (by k_mem)) rfl ?_
  intro h34 oI3 F34' N34' x34
  clear F5 N5
  refine wpAny_execs_nil ?_
  dsimp only
  (with_reducible rename News _ _ _ _ => N40); (with_reducible rename Fr _ _ _ _ => F40)
  rw [bools24] at N40
  have N41 := news3 (p := (_, listOf (Array.replicate 24 (.bool fl)) _)) (q := ((147 : Addr), tabObj ps1)) (r := ((154 : Addr), tabObj ps2)) N40 (by k_mem) (by k_mem) (by k_mem)
  refine falltail_c (a := a) (b := b) hprog X TR XG TG HG B (by (repeat (with_reducible refine dep_lt ?_)); first | exact Nat.lt_of_lt_of_le hdp (Nat.le_of_ble_eq_true rfl) | omega | (simp only [depth_deeper, depth_in1, units_deeper, units_in1]; omega)) (by (repeat (with_reducible refine uni_lt ?_)); first | exact Nat.lt_of_lt_of_le hun (Nat.le_of_ble_eq_true rfl) | omega | (simp only [depth_deeper, depth_in1, units_deeper, units_in1]; omega)) hh G KA41 F40 N41 hP10 ht1 hP20 ht2 hszL ha0 hb0 hfa hfb hfp hrel t1left t1right t1width T41 ?_
  intro s' qs1 qs2 m' F' N' h1 h2 KA'
  refine hQ s' qs1 qs2 ?_ (N' _ (.head _)).1 h1 (N' _ (.tail _ (.head _))).1 h2
  exact kept_of hkeep F' hL.symm N' hT (by (repeat (refine all_cons (fun h9 => by first | k_mem | exact absurd (by k_mem) h9) ?_)); exact all_nil) KA'.os KA'.drawn KA'.gens
end
/- D0_1k -/
section
open PySem PySem.W PySem.Calls PyProof.Rows
/-- what holds in law's frame between two turns of its loop -/
noncomputable def LawJ (w : World) (s0 : Shared) (kp : List (Addr × Obj)) (tl dl : Addr) (ns : List Nat) (sp fa : Int) (m : Str → Option Value) (news : List (Addr × Obj)) (os : OsState) (dr : Drawn) (gens : Array GenState) : Prop :=
  ∃ rl rv nn items n t1 t2 tsp tfa ps1 ps2 tups, news = (tl, lobj 185 dl items n) :: (dl, accD w.params 0 t1 t2) :: (rl, listOf rv nn) :: ((147 : Addr), tabObj ps1) :: ((154 : Addr), tabObj ps2) :: tups ∧
    m "table" = some (.ref tl) ∧ m "row" = some (.ref rl) ∧ m "spare" = some (.int sp tsp) ∧ m "falls" = some (.int fa tfa) ∧
    Tups tups ∧ PartsIn tups items.toList ns ∧ NatsAre rv.toList ns ∧ TriplesOk ps1.toList ∧ TriplesOk ps2.toList ∧ Acc s0 os dr gens ∧ ∀ p ∈ kp, p ∈ tups
theorem lawJ_mk {w : World} {s0 : Shared} {g h : Heap} {L I tl dl rl : Addr} {oI : Obj} {rv items : Array Value} {nn n : Nat} {t1 t2 tsp tfa : Tok} {ps1 ps2 : Array Value} {kp tups l : List (Addr × Obj)} {ns : List Nat} {sp fa : Int} {m : Str → Option Value} {os : OsState} {dr : Drawn} {gens : Array GenState}
    (N : News g L h l) (_F : Fr g L h m) (jR : NatsAre rv.toList ns) (jP : PartsIn tups items.toList ns) (jT : Tups tups) (jp1 : TriplesOk ps1.toList) (jp2 : TriplesOk ps2.toList) (jA : Acc s0 os dr gens) (jK : ∀ p ∈ kp, p ∈ tups)
    (h1 : (I, oI) ∈ l) (h2 : (tl, lobj 185 dl items n) ∈ l) (h3 : (dl, accD w.params 0 t1 t2) ∈ l) (h4 : (rl, listOf rv nn) ∈ l) (h5 : ((147 : Addr), tabObj ps1) ∈ l) (h6 : ((154 : Addr), tabObj ps2) ∈ l) (h7 : ∀ p ∈ tups, p ∈ l)
    (m1 : m "table" = some (.ref tl)) (m2 : m "row" = some (.ref rl)) (m3 : m "spare" = some (.int sp tsp)) (m4 : m "falls" = some (.int fa tfa)) :
    ∃ news, LawJ w s0 kp tl dl ns sp fa m news os dr gens ∧ News g L h ((I, oI) :: news) := by
  refine ⟨_, ⟨rl, rv, nn, items, n, t1, t2, tsp, tfa, ps1, ps2, tups, rfl, m1, m2, m3, m4, jT, jP, jR, jp1, jp2, jA, jK⟩, fun p hp => N p ?_⟩
  simp only [List.mem_cons] at hp
  rcases hp with rfl | rfl | rfl | rfl | rfl | rfl | hp
  · exact h1
  · exact h2
  · exact h3
  · exact h4
  · exact h5
  · exact h6
  · exact h7 p hp
theorem partsin_push {tups : List (Addr × Obj)} {items : Array Value} {ns : List Nat} {tp : Addr} {n : Nat} {t u : Tok} (x : PartsIn tups items.toList ns) : PartsIn ((tp, tupOf [.str (Str.ofString "") t, .str (dec n) u]) :: tups) (items.push (.ref tp)).toList (ns ++ [n]) := by
  rw [Array.toList_push]
  exact two_append (parts_more x fun p hp => .tail _ hp) (.cons ⟨tp, t, u, rfl, .head _⟩ .nil)
theorem spareOf_le (ns : List Nat) : spareOf ns ≤ figsOf ns := by
  induction ns with
  | nil => exact Nat.le_refl _
  | cons a ns ih => simp only [spareOf, figsOf, List.map_cons, List.sum_cons] at ih ⊢; omega
theorem fmod_three (x : Int) : x % 3 = x.fmod 3 := (Int.fmod_eq_emod_of_nonneg x (by decide)).symm
theorem fmod_nat (y : Int) {m : Int} (h : 0 < m) : ∃ k : Nat, y.fmod m = (k : Int) ∧ (k : Int) < m := by
  have h0 := Int.fmod_nonneg_of_pos y h
  have h1 := Int.fmod_lt_of_pos y h
  exact ⟨(y.fmod m).toNat, by omega, by omega⟩
theorem figs_two {ns : List Nat} {k a b : Nat} (ha : ns[k]? = some a) (hb : ns[k + 1]? = some b) : figs a + figs b ≤ figsOf ns := by
  rw [split_at ha hb]
  simp only [figsOf, List.map_append, List.map_cons, List.sum_append, List.sum_cons]
  omega
theorem figs_step (n : Nat) : figs n ≤ figs (n / 10) + 1 := by
  by_cases h : 0 < n
  · exact Nat.le_of_eq (figs_pos h)
  · rw [show n = 0 by omega, figs_zero]; exact Nat.zero_le _
theorem figs_small {n : Nat} (h : n ≤ 9999) : figs n ≤ 4 := by
  have h1 := figs_step n
  have h2 := figs_step (n / 10)
  have h3 := figs_step (n / 10 / 10)
  have h4 := figs_step (n / 10 / 10 / 10)
  have h5 : figs (n / 10 / 10 / 10 / 10) = 0 := by rw [show n / 10 / 10 / 10 / 10 = 0 by omega, figs_zero]
  omega
end
/- D1_1k -/
section
open PySem PySem.W PySem.Calls PyProof.Rows
theorem deed1_c {prog : Program} {w : World} {A : Around} {s s0 : Shared} {kp : List (Addr × Obj)} {H₀ g : Heap} {L : Addr} {p : Program} {loose : List Str} {mg mb m : Str → Option Value} {Q : Flow → Shared → Prop} {bm : Addr} {ob : Obj} {I tl dl : Addr} {oI : Obj} {ns : List Nat} {sp fa x : Int} {q : Nat} {tx : Tok} {news : List (Addr × Obj)}
    (hprog : prog = PySem.Challenge.pw_yh0022_01)
    (X : (heapK w.params).In H₀) (TR : TopRead p loose mg mb H₀) (XG : (heapK w.params).In g) (TG : TopRead p loose mg mb g) (HG : Sub H₀ g) (B : BMod H₀ mainGlobals mg bm ob) (hdp : A.depth < 455) (hun : A.units < 1550) (hh : A.handled = none) (hszL : H₀.objs.size ≤ L)
    (J : LawJ w s0 kp tl dl ns sp fa m news s.os s.drawn s.gens) (F : Fr g L s.heap m) (N : News g L s.heap ((I, oI) :: news)) (hoff : ∀ p ∈ news, @Ne Nat p.1 I)
    (htl : H₀.get? tl = none) (hdl : H₀.get? dl = none) (hln : ns.length ≤ 30) (hsp : 0 ≤ sp ∧ sp ≤ 10000)
    (mx : m "x" = some (.int x tx)) (hq : 1 + (x.fdiv 3).fmod 9999 = (q : Int)) (hq0 : 0 < q) (hq9 : q ≤ 9999)
    (hQ : ∀ s' m' news', LawJ w s0 kp tl dl (ns ++ [q]) (sp + ((figs q : Int) - 1)) fa m' news' s'.os s'.drawn s'.gens → Fr g L s'.heap m' → News g L s'.heap ((I, oI) :: news') → Q .next s') :
    wpAny (model prog w) A (execs (ifThen lawFor) (envX (Str.ofString "law") s286 L 286 (.ref 285) [])) Q NoE s := by
  have : PySem.Challenge.rw_yh0022_01.prog = PySem.Challenge.rw_yh0022_01.prog ∧ heapK = heapK := by k_fill; exact ⟨rfl, rfl⟩
  clear this
  obtain ⟨rl, rv, nn, items, n, t1, t2, tsp, tfa, ps1, ps2, tups, rfl, j1, j2, j3, j4, jT, jP, jR, jp1, jp2, jA, jK⟩ := J
  have z1 : @Ne Nat tl dl := upd_ne (N (tl, _) (by k_mem)).1 (N (dl, _) (by k_mem)).1 (by simp)
  have z2 : @Ne Nat tl rl := upd_ne (N (tl, _) (by k_mem)).1 (N (rl, _) (by k_mem)).1 (by simp)
  have z3 : @Ne Nat dl rl := upd_ne (N (dl, _) (by k_mem)).1 (N (rl, _) (by k_mem)).1 (by simp)
  have z4 : @Ne Nat tl 147 := upd_ne (N (tl, _) (by k_mem)).1 (N (147, _) (by k_mem)).1 (by simp)
  have z5 : @Ne Nat tl 154 := upd_ne (N (tl, _) (by k_mem)).1 (N (154, _) (by k_mem)).1 (by simp)
  have z6 : ∀ p ∈ tups, @Ne Nat p.1 tl := tups_off N jT (fun p hp => .tail _ (.tail _ (.tail _ (.tail _ (.tail _ (.tail _ hp)))))) (N (tl, _) (by k_mem)).1 (by simp)
  simp only [List.forall_mem_cons] at hoff
  obtain ⟨y1, y2, y3, y4, y5, y6⟩ := hoff
  dsimp only [forBody, ifThen, ifElse, lawFor, lawDeed3, b286, s286, pick, List.drop]
  (try dsimp only)
  k_steps
  rw [hq]
  (with_reducible rename News _ _ _ _ => N1); (with_reducible rename Fr _ _ _ _ => F1)
  rw [hq] at F1
  have hfq := figs_small hq9
  have hfq0 := figs_pos hq0
  refine figures_c (sub_fr F1 HG) X TR (by (repeat (with_reducible refine dep_lt ?_)); first | exact Nat.lt_of_lt_of_le hdp (Nat.le_of_ble_eq_true rfl) | omega | (simp only [depth_deeper, depth_in1, units_deeper, units_in1]; omega)) hh ?_
  intro s1 t1' Kp1
  obtain ⟨F1', N1'⟩ := step0 Kp1 F1 N1
  have jA1 : Acc s0 s1.os s1.drawn s1.gens := ⟨Kp1.os.trans jA.os, Kp1.drawn.trans jA.drawn, fun q => Kp1.gens (jA.gens q)⟩
  clear F1 N1
  have hfq5 : figs q ≤ 500 := by omega
  k_steps
  (with_reducible rename News _ _ _ _ => N2); (with_reducible rename Fr _ _ _ _ => F2)
  have hrl := jR.length
  have hil := jP.length
  refine kmk_add_lit F2 N2 (News.isList (n := nn) N2 (by k_mem)) (News.isList (n := 0) N2 (by k_mem)) rfl ?_ (by simp only [sizeLine_eq, List.length_cons, List.length_nil]; omega)
  intro D h2 F2' N2' l2
  k_lt l2
  clear F2 N2
  k_steps
  (with_reducible rename News _ _ _ _ => N3); (with_reducible rename Fr _ _ _ _ => F3)
  refine push_c (sub_fr F3 HG) X TR (by (repeat (with_reducible refine dep_lt ?_)); first | exact Nat.lt_of_lt_of_le hdp (Nat.le_of_ble_eq_true rfl) | omega | (simp only [depth_deeper, depth_in1, units_deeper, units_in1]; omega)) (N3 (tl, _) (by k_mem)).1 (N3 (dl, _) (by k_mem)).1 htl hdl (by rw [sizeLine_eq, ← Array.length_toList]; omega) ?_
  intro s3 tp Kp3 e13 e23 e33
  obtain ⟨F3', N3'⟩ := step1 Kp3 F3 N3 (by k_upd) e33
  have N4 := news_fresh Kp3 F3 N3' e13 e23
  have jA3 : Acc s0 s3.os s3.drawn s3.gens := ⟨Kp3.os.trans jA1.os, Kp3.drawn.trans jA1.drawn, fun q => Kp3.gens (jA1.gens q)⟩
  clear F3 N3 N3'
  k_steps
  (with_reducible rename News _ _ _ _ => N5); (with_reducible rename Fr _ _ _ _ => F5)
  obtain ⟨news', J', N'⟩ := lawJ_mk (I := I) (oI := oI) (tl := tl) (dl := dl) (rl := D) (rv := (rv.toList ++ [Value.int (q : Int) _]).toArray) (items := items.push (.ref tp)) (tups := (tp, tupOf [.str (Str.ofString "") _, .str (dec q) _]) :: tups) (ns := ns ++ [q]) (sp := sp + ((figs q : Int) - 1)) (fa := fa) (w := w) N5 F5
    (two_append jR (.cons ⟨_, rfl⟩ .nil)) (partsin_push jP) (List.forall_mem_cons.mpr ⟨.inl rfl, jT⟩) jp1 jp2 jA3 (fun p hp => .tail _ (jK p hp))
    (by k_mem) (by k_mem) (by k_mem) (by k_mem) (by k_mem) (by k_mem) (fun p hp => by
      rcases List.mem_cons.mp hp with rfl | hp
      · k_mem
      · (repeat (first | exact hp | apply List.Mem.tail))) (by walk_at "mine_var") (by walk_at "mine_var") (by walk_at "mine_var") (by walk_at "mine_var")
  exact hQ _ _ _ J' F5 N'
end
/- L9_1k -/
theorem news7T {g h : Heap} {L : Addr} {l T : List (Addr × Obj)} {p q r t u v z : Addr × Obj} (N : News g L h l) (a : p ∈ l) (b : q ∈ l) (c : r ∈ l) (d : t ∈ l) (e : u ∈ l) (f : v ∈ l) (k : z ∈ l) (hT : ∀ p ∈ T, p ∈ l) : News g L h (p :: q :: r :: t :: u :: v :: z :: T) := fun x hx => by
  simp only [List.mem_cons] at hx
  rcases hx with rfl | rfl | rfl | rfl | rfl | rfl | rfl | hx
  · exact N _ a
  · exact N _ b
  · exact N _ c
  · exact N _ d
  · exact N _ e
  · exact N _ f
  · exact N _ k
  · exact N _ (hT _ hx)
local macro_rules | `(tactic| walk_at "subscriptTail Name Slice ref ref") => `(tactic| (k_here; (with_reducible show wpAny _ _ (subscriptTail _ (PySem.Expr.Slice _ _ none _) (Value.ref _) (Value.ref _)) _ _ _); k_dflt (refine' kmk_slice_lit ?F9 ?N9 ?l9 ?p9 ?q9 ?e9 ?_ ?s9 ?t9 ?z9; (case F9 => k_asm); (case N9 => k_asm); (case l9 => kmk_list); (case p9 => kmk_part); (case q9 => kmk_part); (case e9 => first | exact pick_from (by first | exact rfl | assumption) | exact pick_upto (by first | exact rfl | assumption)); (case s9 => with_unfolding_all rfl); (case t9 => kmk_pure); (case z9 => first | assumption | (simp only [sizeLine_eq, ← Array.length_toList, List.length_drop, List.length_take, List.length_append]; omega))); intro D' h' F' N' l1; (try k_lt l1); (try k_sweep)))
local macro_rules | `(tactic| walk_at "binaryOp Add ref ref") => `(tactic| (k_here; (with_reducible show wpAny _ _ (binaryOp Operator.Add (Value.ref _) (Value.ref _)) _ _ _); k_dflt (refine' kmk_add_lit ?F9 ?N9 ?a9 ?b9 ?e9 ?_ ?z9; (case F9 => k_asm); (case N9 => k_asm); (case a9 => kmk_list); (case b9 => kmk_list); (case e9 => exact rfl); (case z9 => simp only [sizeLine_eq, List.length_append, List.length_drop, List.length_take, List.length_cons, List.length_nil]; omega)); intro D' h' F' N' l1; (try k_lt l1); (try k_sweep)))
local macro_rules | `(tactic| walk_at "subscriptTail") => `(tactic| (k_here; (with_reducible show wpAny _ _ (subscriptTail _ _ (Value.ref _) (Value.int (Nat.cast _) _)) _ _ _); k_dflt (first | (refine item_list (by kmk_list) (by exact rfl) (by omega) (by assumption) ?_ (by with_unfolding_all rfl)) | fail "item")))
local macro_rules | `(tactic| walk_at "subscriptTail") => `(tactic| (k_here; (with_reducible show wpAny _ _ (subscriptTail _ _ (Value.ref _) (Value.int (HAdd.hAdd (Nat.cast _) _) _)) _ _ _); k_dflt (first | (refine item_list (by kmk_list) (by assumption) (by omega) (by assumption) ?_ (by with_unfolding_all rfl)) | fail "item")))
local macro_rules | `(tactic| k_mem) => `(tactic| assumption)
/- D2_1k -/
section
open PySem PySem.W PySem.Calls PyProof.Rows
theorem deed2_c {prog : Program} {w : World} {A : Around} {s s0 : Shared} {kp : List (Addr × Obj)} {H₀ g : Heap} {L : Addr} {p : Program} {loose : List Str} {mg mb m : Str → Option Value} {Q : Flow → Shared → Prop} {bm : Addr} {ob : Obj} {I tl dl : Addr} {oI : Obj} {ns : List Nat} {sp fa x : Int} {k : Nat} {tx : Tok} {news : List (Addr × Obj)}
    (hprog : prog = PySem.Challenge.pw_yh0022_01)
    (X : (heapK w.params).In H₀) (TR : TopRead p loose mg mb H₀) (XG : (heapK w.params).In g) (TG : TopRead p loose mg mb g) (HG : Sub H₀ g) (B : BMod H₀ mainGlobals mg bm ob) (hdp : A.depth < 455) (hun : A.units < 1550) (hh : A.handled = none) (hszL : H₀.objs.size ≤ L)
    (J : LawJ w s0 kp tl dl ns sp fa m news s.os s.drawn s.gens) (F : Fr g L s.heap m) (N : News g L s.heap ((I, oI) :: news)) (hoff : ∀ p ∈ news, @Ne Nat p.1 I)
    (htl : H₀.get? tl = none) (hdl : H₀.get? dl = none) (hln : ns.length ≤ 30) (hsp : 0 ≤ sp ∧ sp ≤ 10000)
    (mx : m "x" = some (.int x tx)) (hk : (x.fdiv 3).fmod (ns.length : Int) = (k : Int)) (hk1 : k < ns.length)
    (hQ : ∀ s' m' news', LawJ w s0 kp tl dl (ns.drop k ++ ns.take k) sp fa m' news' s'.os s'.drawn s'.gens → Fr g L s'.heap m' → News g L s'.heap ((I, oI) :: news') → Q .next s') :
    wpAny (model prog w) A (execs (ifThen (ifElse lawFor)) (envX (Str.ofString "law") s286 L 286 (.ref 285) [])) Q NoE s := by
  have : PySem.Challenge.rw_yh0022_01.prog = PySem.Challenge.rw_yh0022_01.prog ∧ heapK = heapK := by k_fill; exact ⟨rfl, rfl⟩
  clear this
  obtain ⟨rl, rv, nn, items, n, t1, t2, tsp, tfa, ps1, ps2, tups, rfl, j1, j2, j3, j4, jT, jP, jR, jp1, jp2, jA, jK⟩ := J
  have z1 : @Ne Nat tl dl := upd_ne (N (tl, _) (by k_mem)).1 (N (dl, _) (by k_mem)).1 (by simp)
  have z2 : @Ne Nat tl rl := upd_ne (N (tl, _) (by k_mem)).1 (N (rl, _) (by k_mem)).1 (by simp)
  have z3 : @Ne Nat dl rl := upd_ne (N (dl, _) (by k_mem)).1 (N (rl, _) (by k_mem)).1 (by simp)
  have z4 : @Ne Nat tl 147 := upd_ne (N (tl, _) (by k_mem)).1 (N (147, _) (by k_mem)).1 (by simp)
  have z5 : @Ne Nat tl 154 := upd_ne (N (tl, _) (by k_mem)).1 (N (154, _) (by k_mem)).1 (by simp)
  have z6 : ∀ p ∈ tups, @Ne Nat p.1 tl := tups_off N jT (fun p hp => .tail _ (.tail _ (.tail _ (.tail _ (.tail _ (.tail _ hp)))))) (N (tl, _) (by k_mem)).1 (by simp)
  have z7 : @Ne Nat dl 147 := upd_ne (N (dl, _) (by k_mem)).1 (N (147, _) (by k_mem)).1 (by simp)
  have z8 : @Ne Nat dl 154 := upd_ne (N (dl, _) (by k_mem)).1 (N (154, _) (by k_mem)).1 (by simp)
  have z9 : ∀ p ∈ tups, @Ne Nat p.1 dl := tups_off N jT (fun p hp => .tail _ (.tail _ (.tail _ (.tail _ (.tail _ (.tail _ hp)))))) (N (dl, _) (by k_mem)).1 (by simp)
  simp only [List.forall_mem_cons] at hoff
  obtain ⟨y1, y2, y3, y4, y5, y6⟩ := hoff
  dsimp only [forBody, ifThen, ifElse, lawFor, lawDeed3, b286, s286, pick, List.drop]
  (try dsimp only)
  have hrl := jR.length
  have hil := jP.length
  have hrs : rv.size = ns.length := by rw [← Array.length_toList]; exact hrl
  have hsz9 : rv.size ≤ sizeLine := by rw [sizeLine_eq]; omega
  k_steps
  have his : items.size = ns.length := by rw [← Array.length_toList]; exact hil
  rw [hk]
  (with_reducible rename News _ _ _ _ => N1); (with_reducible rename Fr _ _ _ _ => F1)
  refine popfrom_c (i := k) (sub_fr F1 HG) X TR (by (repeat (with_reducible refine dep_lt ?_)); first | exact Nat.lt_of_lt_of_le hdp (Nat.le_of_ble_eq_true rfl) | omega | (simp only [depth_deeper, depth_in1, units_deeper, units_in1]; omega)) (N1 (tl, _) (by k_mem)).1 (N1 (dl, _) (by k_mem)).1 htl hdl (by omega) (by omega) (.inl rfl) ?_
  intro s1 y1 ny1 n1 Kp1 e11 e21 e31
  obtain ⟨F1', N1'⟩ := step1 Kp1 F1 N1 (by k_upd) e31
  have w1 := allNe_of N1 e11
  have N2 := news_fresh Kp1 F1 N1' e11 e21
  have jA1 : Acc s0 s1.os s1.drawn s1.gens := ⟨Kp1.os.trans jA.os, Kp1.drawn.trans jA.drawn, fun q => Kp1.gens (jA.gens q)⟩
  simp only [AllNe] at w1
  (repeat (obtain ⟨_, w1⟩ := w1))
  clear F1 N1 N1'
  k_steps
  (with_reducible rename News _ _ _ _ => N3); (with_reducible rename Fr _ _ _ _ => F3)
  dsimp only at N3
  dsimp only [List.append_nil]
  refine popfrom_c (i := 0) (ti := 0) (args := []) (sub_fr F3 HG) X TR (by (repeat (with_reducible refine dep_lt ?_)); first | exact Nat.lt_of_lt_of_le hdp (Nat.le_of_ble_eq_true rfl) | omega | (simp only [depth_deeper, depth_in1, units_deeper, units_in1]; omega)) (N3 (tl, _) (by k_mem)).1 (N3 (dl, _) (by k_mem)).1 htl hdl (by simp; omega) (Nat.zero_le _) (.inr ⟨rfl, rfl⟩) ?_
  intro s3 y3' ny3 n3 Kp3 e13 e23 e33
  obtain ⟨F3', N3'⟩ := step1 Kp3 F3 N3 (by k_upd) e33
  have w3 := allNe_of N3 e13
  have N4 := news_fresh Kp3 F3 N3' e13 e23
  have jA3 : Acc s0 s3.os s3.drawn s3.gens := ⟨Kp3.os.trans jA1.os, Kp3.drawn.trans jA1.drawn, fun q => Kp3.gens (jA1.gens q)⟩
  simp only [AllNe] at w3
  (repeat (obtain ⟨_, w3⟩ := w3))
  clear F3 N3 N3'
  k_steps
  (with_reducible rename News _ _ _ _ => N5); (with_reducible rename Fr _ _ _ _ => F5)
  (try dsimp only at N5)
  refine reset_c (new := (List.drop k items.toList ++ List.drop 0 (List.take k items.toList)).toArray) (sub_fr F5 HG) X TR (by (repeat (with_reducible refine dep_lt ?_)); first | exact Nat.lt_of_lt_of_le hdp (Nat.le_of_ble_eq_true rfl) | omega | (simp only [depth_deeper, depth_in1, units_deeper, units_in1]; omega)) (N5 (tl, _) (by k_mem)).1 (N5 (dl, _) (by k_mem)).1 htl hdl (by simp) (by simp; omega) (.inl ⟨_, 0, rfl, (N5 (_, listOf _ 0) (by k_mem)).1⟩) ?_
  intro s5 n5 u5 Kp5 e15 e25
  obtain ⟨F5', N5'⟩ := step2 Kp5 F5 N5 (by k_upd) (by k_upd) e15 e25 z1
  have jA5 : Acc s0 s5.os s5.drawn s5.gens := ⟨Kp5.os.trans jA3.os, Kp5.drawn.trans jA3.drawn, fun q => Kp5.gens (jA3.gens q)⟩
  clear F5 N5
  k_steps
  (with_reducible rename News _ _ _ _ => N6); (with_reducible rename Fr _ _ _ _ => F6)
  obtain ⟨news', J', N'⟩ := lawJ_mk (I := I) (oI := oI) (tl := tl) (dl := dl) (rv := (List.drop k rv.toList ++ List.take k rv.toList).toArray) (items := (List.drop k items.toList ++ List.drop 0 (List.take k items.toList)).toArray) (tups := tups) (ns := ns.drop k ++ ns.take k) (sp := sp) (fa := fa) (w := w) N6 F6
    (two_append (two_drop jR k) (two_take jR k)) (two_append (two_drop jP k) (two_take jP k)) jT jp1 jp2 jA5 jK
    (by k_mem) (by k_mem) (by k_mem) (by k_mem) (by k_mem) (by k_mem) (fun p hp => by (repeat (first | exact hp | apply List.Mem.tail))) (by walk_at "mine_var") (by walk_at "mine_var") (by walk_at "mine_var") (by walk_at "mine_var")
  exact hQ _ _ _ J' F6 N'
end
/- D3c_1k -/
section
open PySem PySem.W PySem.Calls PyProof.Rows
theorem deed3c_c {prog : Program} {w : World} {A : Around} {s s0 : Shared} {kp : List (Addr × Obj)} {H₀ g : Heap} {L : Addr} {p : Program} {loose : List Str} {mg mb m : Str → Option Value} {Q : Flow → Shared → Prop} {I tl dl rl y : Addr} {oI : Obj} {ns : List Nat} {sp fa : Int} {k a b n nn ny : Nat} {tk tsp tfa t1 t2 : Tok} {items rv ps1 ps2 : Array Value} {pv : List Value} {tups : List (Addr × Obj)}
    (hprog : prog = PySem.Challenge.pw_yh0022_01)
    (X : (heapK w.params).In H₀) (TR : TopRead p loose mg mb H₀) (XG : (heapK w.params).In g) (TG : TopRead p loose mg mb g) (HG : Sub H₀ g) (hdp : A.depth < 455) (hh : A.handled = none)
    (jA : Acc s0 s.os s.drawn s.gens) (F : Fr g L s.heap m) (N : News g L s.heap ((I, oI) :: (y, listOf pv.toArray ny) :: (tl, lobj 185 dl items n) :: (dl, accD w.params 0 t1 t2) :: (rl, listOf rv nn) :: ((147 : Addr), tabObj ps1) :: ((154 : Addr), tabObj ps2) :: tups)) (hoI : oI.cls = .type "list_iterator")
    (htl : H₀.get? tl = none) (hdl : H₀.get? dl = none) (hln : ns.length ≤ 30)
    (ha : ns[k]? = some a) (hb : ns[k + 1]? = some b) (hfa : figs a ≤ 90) (hfb : figs b ≤ 90)
    (jT : Tups tups) (jK : ∀ p ∈ kp, p ∈ tups) (jP : PartsIn tups items.toList (ns.take k ++ [a * b])) (jQ : PartsIn tups pv (ns.drop k)) (jR : NatsAre rv.toList ns) (jp1 : TriplesOk ps1.toList) (jp2 : TriplesOk ps2.toList)
    (m1 : m "table" = some (.ref tl)) (m2 : m "row" = some (.ref rl)) (m3 : m "spare" = some (.int sp tsp)) (m4 : m "falls" = some (.int fa tfa)) (m5 : m "parts" = some (.ref y)) (m6 : m "place" = some (.int (k : Int) tk))
    (hQ : ∀ s' m' news', LawJ w s0 kp tl dl (mulAt ns k a b) sp fa m' news' s'.os s'.drawn s'.gens → Fr g L s'.heap m' → News g L s'.heap ((I, oI) :: news') → Q .next s') :
    wpAny (model prog w) A (execs (lawDeed3.drop 8) (envX (Str.ofString "law") s286 L 286 (.ref 285) [])) Q NoE s := by
  have : PySem.Challenge.rw_yh0022_01.prog = PySem.Challenge.rw_yh0022_01.prog ∧ heapK = heapK := by k_fill; exact ⟨rfl, rfl⟩
  clear this
  have z1 : @Ne Nat tl dl := upd_ne (N (tl, _) (by k_mem)).1 (N (dl, _) (by k_mem)).1 (by simp)
  have z2 : @Ne Nat tl rl := upd_ne (N (tl, _) (by k_mem)).1 (N (rl, _) (by k_mem)).1 (by simp)
  have z4 : @Ne Nat tl 147 := upd_ne (N (tl, _) (by k_mem)).1 (N (147, _) (by k_mem)).1 (by simp)
  have z5 : @Ne Nat tl 154 := upd_ne (N (tl, _) (by k_mem)).1 (N (154, _) (by k_mem)).1 (by simp)
  have z3 : @Ne Nat tl y := upd_ne (N (tl, _) (by k_mem)).1 (N (y, _) (by k_mem)).1 (by simp)
  have z0 : @Ne Nat tl I := upd_ne (N (tl, _) (by k_mem)).1 (N (I, _) (by k_mem)).1 (by rw [hoI]; simp)
  have hrl := jR.length
  have hil := jP.length
  have hpl := jQ.length
  have hk1 : k + 1 < ns.length := (List.getElem?_eq_some_iff.mp hb).1
  obtain ⟨va, na, hva, hna, ta, rfl⟩ := two_has jR (i := k) (by omega)
  obtain ⟨vb, nb, hvb, hnb, tb, rfl⟩ := two_has jR (i := k + 1) hk1
  obtain rfl : na = a := Option.some.inj (hna.symm.trans ha)
  obtain rfl : nb = b := Option.some.inj (hnb.symm.trans hb)
  have hsz9 : rv.size ≤ sizeLine := by rw [sizeLine_eq, ← Array.length_toList]; omega
  have hsz8 : pv.toArray.size ≤ sizeLine := by rw [sizeLine_eq, List.size_toArray]; simp at hpl; omega
  have hk2 : (k : Int) + 2 = ((k + 2 : Nat) : Int) := by omega
  have hk3 : (k : Int) + 1 = ((k + 1 : Nat) : Int) := by omega
  have hk4 : (2 : Int) = ((2 : Nat) : Int) := rfl
  dsimp only [forBody, ifThen, ifElse, lawFor, lawDeed3, b286, s286, pick, List.drop]
  k_steps
  rename_i D h1 F1 N1 l1 lt1
  refine iter_list_own F1 N1 (News.isList N1 (by k_mem)) ?_
  intro I2 h2 oI0 hI0 F2 N2 hoff2 k2
  clear F1 N1
  refine for_list_invN (items := (List.drop 2 pv).toArray) hh (fun i m' news' s' => ∃ items' n' tups', news' = (D, listOf (List.drop 2 pv).toArray 0) :: (I, oI) :: (tl, lobj 185 dl items' n') :: (dl, accD w.params 0 t1 t2) :: (rl, listOf rv nn) :: ((147 : Addr), tabObj ps1) :: ((154 : Addr), tabObj ps2) :: tups' ∧
      Tups tups' ∧ (∀ p ∈ tups, p ∈ tups') ∧ PartsIn tups' items'.toList ((ns.take k ++ [na * nb]) ++ (ns.drop (k + 2)).take i) ∧ m' "table" = some (.ref tl) ∧ m' "row" = some (.ref rl) ∧ m' "spare" = some (.int sp tsp) ∧ m' "falls" = some (.int fa tfa) ∧ m' "place" = some (.int (k : Int) tk) ∧ Acc s0 s'.os s'.drawn s'.gens)
    (fun i m' news' s' h' q => q) (fun i m' news' s' h' q N => ?_) (fun i v m' news' s' tk' I3 oI3 hv q hI3 F3 N3 hoff3 => ?_) (fun m' news' s' q F3 N3 => ?_) (Nat.zero_le _) hI0 ⟨items, n, tups, rfl, jT, fun p hp => hp, by simpa using jP, m1, m2, m3, m4, m6, jA⟩ F2 (news_sub N2 fun p hp => ?_) (fun p hp => hoff2 p ?_)
  · obtain ⟨_, _, _, rfl, _⟩ := q
    exact News.isList N (.head _)
  · obtain ⟨items', n', tups', rfl, q1, q2, q3, q4, q5, q6, q7, q8, q9⟩ := q
    have hv' : (List.drop 2 pv)[i]? = some v := by simpa using hv
    have hlt : i < (List.drop 2 pv).length := (List.getElem?_eq_some_iff.mp hv').1
    have jQ2 := two_drop jQ 2
    rw [List.drop_drop] at jQ2
    obtain ⟨_, nv, hv2, hnv, aT, tt, ut, rfl, hm⟩ := two_has jQ2 (i := i) (by rw [← jQ2.length]; exact hlt)
    obtain rfl := Option.some.inj (hv2.symm.trans hv')
    have hm' := q2 _ hm
    have z6 : ∀ p ∈ tups', @Ne Nat p.1 tl := tups_off N3 q1 (fun p hp => .tail _ (.tail _ (.tail _ (.tail _ (.tail _ (.tail _ (.tail _ (.tail _ hp)))))))) (N3 (tl, _) (by k_mem)).1 (by simp)
    simp only [List.forall_mem_cons] at hoff3
    obtain ⟨g1, g2, g3, g4, g5, g6, g7, g8⟩ := hoff3
    refine wpAny_assign_Name ?_
    k_steps
    (with_reducible rename News _ _ _ _ => N4); (with_reducible rename Fr _ _ _ _ => F4)
    have hlen := q3.length
    refine push_c (sub_fr F4 HG) X TR (by (repeat (with_reducible refine dep_lt ?_)); first | exact Nat.lt_of_lt_of_le hdp (Nat.le_of_ble_eq_true rfl) | omega | (simp only [depth_deeper, depth_in1, units_deeper, units_in1]; omega)) (N4 (tl, _) (by k_mem)).1 (N4 (dl, _) (by k_mem)).1 htl hdl (by rw [sizeLine_eq, ← Array.length_toList, hlen]; simp; omega) ?_
    intro s4 tp Kp4 e14 e24 e34
    obtain ⟨F4', N4'⟩ := step1 Kp4 F4 N4 (by k_upd) e34
    have N5 := news_fresh Kp4 F4 N4' e14 e24
    have w4 := upd_ne e24 (N5 (I3, _) (by k_mem)).1 (by rw [hI3.1]; simp)
    have jA4 : Acc s0 s4.os s4.drawn s4.gens := ⟨Kp4.os.trans q9.os, Kp4.drawn.trans q9.drawn, fun q => Kp4.gens (q9.gens q)⟩
    clear F4 N4 N4'
    k_steps
    (with_reducible rename News _ _ _ _ => N6); (with_reducible rename Fr _ _ _ _ => F6)
    refine ⟨_, (D, listOf (List.drop 2 pv).toArray 0) :: (I, oI) :: (tl, lobj 185 dl (items'.push (.ref tp)) (n' + 1)) :: (dl, accD w.params 0 t1 t2) :: (rl, listOf rv nn) :: ((147 : Addr), tabObj ps1) :: ((154 : Addr), tabObj ps2) :: (tp, tupOf [.str (Str.ofString "") tt, .str (dec nv) ut]) :: tups', ⟨_, _, _, rfl, List.forall_mem_cons.mpr ⟨.inl rfl, q1⟩, fun p hp => .tail _ (q2 p hp), ?_, by walk_at "mine_var", by walk_at "mine_var", by walk_at "mine_var", by walk_at "mine_var", by walk_at "mine_var", jA4⟩, F6, news_sub N6 fun p hp => ?_, ?_⟩
    · rw [List.take_add_one, hnv]
      have := partsin_push (tp := tp) (t := tt) (n := nv) (u := ut) q3
      simpa using this
    · simp only [List.mem_cons] at hp
      rcases hp with rfl | rfl | rfl | rfl | rfl | rfl | rfl | rfl | rfl | hp
      iterate 9 k_mem
      (repeat (first | exact hp | apply List.Mem.tail))
    · simp only [List.forall_mem_cons]
      exact ⟨g1, g2, g3, g4, g5, g6, g7, w4, g8⟩
  · obtain ⟨items', n', tups', rfl, q1, q2, q3, q4, q5, q6, q7, q8, q9⟩ := q
    have hsz7 : (List.drop 2 pv).toArray.size = (ns.drop (k + 2)).length := by rw [List.size_toArray, List.length_drop, hpl, List.length_drop, List.length_drop]; omega
    rw [hsz7, List.take_length] at q3
    k_steps
    (with_reducible rename News _ _ _ _ => N6); (with_reducible rename Fr _ _ _ _ => F6)
    obtain ⟨news', J', N'⟩ := lawJ_mk (I := I) (oI := oI) (tl := tl) (dl := dl) (rv := ((List.take k rv.toList ++ [Value.int ((na * nb : Nat) : Int) _]) ++ List.drop (k + 2) rv.toList).toArray) (items := items') (tups := tups') (ns := mulAt ns k na nb) (sp := sp) (fa := fa) (w := w) N6 F6
      (two_append (two_append (two_take jR k) (.cons ⟨_, rfl⟩ .nil)) (two_drop jR (k + 2))) q3 q1 jp1 jp2 q9 (fun p hp => q2 p (jK p hp))
      (by k_mem) (by k_mem) (by k_mem) (by k_mem) (by k_mem) (by k_mem) (fun p hp => by (repeat (first | exact hp | apply List.Mem.tail))) (by walk_at "mine_var") (by walk_at "mine_var") (by walk_at "mine_var") (by walk_at "mine_var")
    exact hQ _ _ _ J' F6 N'
  · simp only [List.mem_cons] at hp
    rcases hp with rfl | rfl | rfl | rfl | rfl | rfl | rfl | rfl | hp
    iterate 8 k_mem
    (repeat (first | exact hp | apply List.Mem.tail))
  · rename_i hp
    simp only [List.mem_cons] at hp
    rcases hp with rfl | rfl | rfl | rfl | rfl | rfl | rfl | hp
    iterate 7 k_mem
    (repeat (first | exact hp | apply List.Mem.tail))
end
/- D3p_1k -/
section
open PySem PySem.W PySem.Calls PyProof.Rows
theorem deed3p_c {prog : Program} {w : World} {A : Around} {s s0 : Shared} {kp : List (Addr × Obj)} {H₀ g : Heap} {L : Addr} {p : Program} {loose : List Str} {mg mb m : Str → Option Value} {Q : Flow → Shared → Prop} {I tl dl rl y : Addr} {oI : Obj} {ns : List Nat} {sp fa : Int} {k a b n nn ny : Nat} {tk tsp tfa t1 t2 : Tok} {items rv ps1 ps2 : Array Value} {pv : List Value} {tups : List (Addr × Obj)}
    (hprog : prog = PySem.Challenge.pw_yh0022_01)
    (X : (heapK w.params).In H₀) (TR : TopRead p loose mg mb H₀) (XG : (heapK w.params).In g) (TG : TopRead p loose mg mb g) (HG : Sub H₀ g) (hdp : A.depth < 455) (hh : A.handled = none)
    (jA : Acc s0 s.os s.drawn s.gens) (F : Fr g L s.heap m) (N : News g L s.heap ((I, oI) :: (y, listOf pv.toArray ny) :: (tl, lobj 185 dl items n) :: (dl, accD w.params 0 t1 t2) :: (rl, listOf rv nn) :: ((147 : Addr), tabObj ps1) :: ((154 : Addr), tabObj ps2) :: tups)) (hoI : oI.cls = .type "list_iterator")
    (htl : H₀.get? tl = none) (hdl : H₀.get? dl = none) (hln : ns.length ≤ 30)
    (ha0 : 0 < a) (hb0 : 0 < b) (ha : ns[k]? = some a) (hb : ns[k + 1]? = some b) (hfa : figs a ≤ 90) (hfb : figs b ≤ 90)
    (jT : Tups tups) (jK : ∀ p ∈ kp, p ∈ tups) (jP : PartsIn tups items.toList (ns.take k)) (jQ : PartsIn tups pv (ns.drop k)) (jR : NatsAre rv.toList ns) (jp1 : TriplesOk ps1.toList) (jp2 : TriplesOk ps2.toList)
    (m1 : m "table" = some (.ref tl)) (m2 : m "row" = some (.ref rl)) (m3 : m "spare" = some (.int sp tsp)) (m4 : m "falls" = some (.int fa tfa)) (m5 : m "parts" = some (.ref y)) (m6 : m "place" = some (.int (k : Int) tk))
    (hQ : ∀ s' m' news', LawJ w s0 kp tl dl (mulAt ns k a b) sp fa m' news' s'.os s'.drawn s'.gens → Fr g L s'.heap m' → News g L s'.heap ((I, oI) :: news') → Q .next s') :
    wpAny (model prog w) A (execs (lawDeed3.drop 7) (envX (Str.ofString "law") s286 L 286 (.ref 285) [])) Q NoE s := by
  have : PySem.Challenge.rw_yh0022_01.prog = PySem.Challenge.rw_yh0022_01.prog ∧ heapK = heapK := by k_fill; exact ⟨rfl, rfl⟩
  clear this
  have z1 : @Ne Nat tl dl := upd_ne (N (tl, _) (by k_mem)).1 (N (dl, _) (by k_mem)).1 (by simp)
  have z2 : @Ne Nat tl rl := upd_ne (N (tl, _) (by k_mem)).1 (N (rl, _) (by k_mem)).1 (by simp)
  have z4 : @Ne Nat tl 147 := upd_ne (N (tl, _) (by k_mem)).1 (N (147, _) (by k_mem)).1 (by simp)
  have z5 : @Ne Nat tl 154 := upd_ne (N (tl, _) (by k_mem)).1 (N (154, _) (by k_mem)).1 (by simp)
  have z3 : @Ne Nat tl y := upd_ne (N (tl, _) (by k_mem)).1 (N (y, _) (by k_mem)).1 (by simp)
  have z0 : @Ne Nat tl I := upd_ne (N (tl, _) (by k_mem)).1 (N (I, _) (by k_mem)).1 (by rw [hoI]; simp)
  have hrl := jR.length
  have hil := jP.length
  have hpl := jQ.length
  have hk1 : k + 1 < ns.length := (List.getElem?_eq_some_iff.mp hb).1
  have hfa5 : figs a ≤ 500 := by omega
  have hfb5 : figs b ≤ 500 := by omega
  have hfp5 : figs (a * b) ≤ 500 := by have := (figs_mul ha0 hb0).1; omega
  have z6 : ∀ p ∈ tups, @Ne Nat p.1 tl := tups_off N jT (fun p hp => .tail _ (.tail _ (.tail _ (.tail _ (.tail _ (.tail _ (.tail _ hp))))))) (N (tl, _) (by k_mem)).1 (by simp)
  obtain ⟨va, na, hva, hna, ta, rfl⟩ := two_has jR (i := k) (by omega)
  obtain ⟨vb, nb, hvb, hnb, tb, rfl⟩ := two_has jR (i := k + 1) hk1
  obtain rfl : na = a := Option.some.inj (hna.symm.trans ha)
  obtain rfl : nb = b := Option.some.inj (hnb.symm.trans hb)
  have hsz9 : rv.size ≤ sizeLine := by rw [sizeLine_eq, ← Array.length_toList]; omega
  have hsz8 : pv.toArray.size ≤ sizeLine := by rw [sizeLine_eq, List.size_toArray]; simp at hpl; omega
  have hk2 : (k : Int) + 2 = ((k + 2 : Nat) : Int) := by omega
  have hk3 : (k : Int) + 1 = ((k + 1 : Nat) : Int) := by omega
  have hk4 : (2 : Int) = ((2 : Nat) : Int) := rfl
  dsimp only [forBody, ifThen, ifElse, lawFor, lawDeed3, b286, s286, pick, List.drop]
  k_steps
  (with_reducible rename News _ _ _ _ => N4); (with_reducible rename Fr _ _ _ _ => F4)
  refine push_c (sub_fr F4 HG) X TR (by (repeat (with_reducible refine dep_lt ?_)); first | exact Nat.lt_of_lt_of_le hdp (Nat.le_of_ble_eq_true rfl) | omega | (simp only [depth_deeper, depth_in1, units_deeper, units_in1]; omega)) (N4 (tl, _) (by k_mem)).1 (N4 (dl, _) (by k_mem)).1 htl hdl (by rw [sizeLine_eq, ← Array.length_toList, hil]; simp; omega) ?_
  intro s4 tp Kp4 e14 e24 e34
  obtain ⟨F4', N4'⟩ := step1 Kp4 F4 N4 (by k_upd) e34
  have N5 := news_fresh Kp4 F4 N4' e14 e24
  have jA4 : Acc s0 s4.os s4.drawn s4.gens := ⟨Kp4.os.trans jA.os, Kp4.drawn.trans jA.drawn, fun q => Kp4.gens (jA.gens q)⟩
  clear F4 N4 N4'
  refine deed3c_c (k := k) (a := na) (b := nb) (tups := (tp, tupOf [.str (Str.ofString "") _, .str (dec (na * nb)) _]) :: tups) (items := items.push (.ref tp)) (pv := pv) (ns := ns) hprog X TR XG TG HG hdp hh jA4 F4' (news7T N5 (by k_mem) (by k_mem) (by k_mem) (by k_mem) (by k_mem) (by k_mem) (by k_mem) (fun p hp => by
      rcases List.mem_cons.mp hp with rfl | hp
      · k_mem
      · (repeat (first | exact hp | apply List.Mem.tail)))) hoI htl hdl hln hna hnb hfa hfb
    (List.forall_mem_cons.mpr ⟨.inl rfl, jT⟩) (fun p hp => .tail _ (jK p hp)) (partsin_push jP) (parts_more jQ fun p hp => .tail _ hp) jR jp1 jp2 m1 m2 m3 m4 m5 m6 hQ
end
/- D3b_1k -/
section
open PySem PySem.W PySem.Calls PyProof.Rows
theorem deed3b_c {prog : Program} {w : World} {A : Around} {s s0 : Shared} {kp : List (Addr × Obj)} {H₀ g : Heap} {L : Addr} {bm : Addr} {ob : Obj} {p : Program} {loose : List Str} {mg mb m : Str → Option Value} {Q : Flow → Shared → Prop} {I tl dl rl y : Addr} {oI : Obj} {ns : List Nat} {sp fa : Int} {k a b n nn ny : Nat} {tk tsp tfa t1 t2 : Tok} {items rv ps1 ps2 : Array Value} {pv : List Value} {tups : List (Addr × Obj)}
    (hprog : prog = PySem.Challenge.pw_yh0022_01)
    (X : (heapK w.params).In H₀) (TR : TopRead p loose mg mb H₀) (XG : (heapK w.params).In g) (TG : TopRead p loose mg mb g) (HG : Sub H₀ g) (hdp : A.depth < 455) (hh : A.handled = none) (B : BMod H₀ mainGlobals mg bm ob) (hun : A.units < 1550) (G0 : AllBare s0.gens) (hszL : H₀.objs.size ≤ L) (hP10 : H₀.get? 147 = none) (hP20 : H₀.get? 154 = none)
    (jA : Acc s0 s.os s.drawn s.gens) (F : Fr g L s.heap m) (N : News g L s.heap ((I, oI) :: (y, listOf pv.toArray ny) :: (tl, lobj 185 dl items n) :: (dl, accD w.params 0 t1 t2) :: (rl, listOf rv nn) :: ((147 : Addr), tabObj ps1) :: ((154 : Addr), tabObj ps2) :: tups)) (hoI : oI.cls = .type "list_iterator")
    (htl : H₀.get? tl = none) (hdl : H₀.get? dl = none) (hln : ns.length ≤ 30)
    (ha0 : 0 < a) (hb0 : 0 < b) (ha : ns[k]? = some a) (hb : ns[k + 1]? = some b) (hfa : figs a ≤ 90) (hfb : figs b ≤ 90) (hfab : figs a + figs b ≤ 90)
    (jT : Tups tups) (jK : ∀ p ∈ kp, p ∈ tups) (jP : PartsIn tups items.toList (ns.take k)) (jQ : PartsIn tups pv (ns.drop k)) (jR : NatsAre rv.toList ns) (jp1 : TriplesOk ps1.toList) (jp2 : TriplesOk ps2.toList)
    (m1 : m "table" = some (.ref tl)) (m2 : m "row" = some (.ref rl)) (m3 : m "spare" = some (.int sp tsp)) (m4 : m "falls" = some (.int fa tfa)) (m5 : m "parts" = some (.ref y)) (m6 : m "place" = some (.int (k : Int) tk))
    (hQ : ∀ s' m' news', LawJ w s0 kp tl dl (mulAt ns k a b) sp (fa + if fellOf a b then 1 else 0) m' news' s'.os s'.drawn s'.gens → Fr g L s'.heap m' → News g L s'.heap ((I, oI) :: news') → Q .next s') :
    wpAny (model prog w) A (execs (lawDeed3.drop 4) (envX (Str.ofString "law") s286 L 286 (.ref 285) [])) Q NoE s := by
  have : PySem.Challenge.rw_yh0022_01.prog = PySem.Challenge.rw_yh0022_01.prog ∧ heapK = heapK := by k_fill; exact ⟨rfl, rfl⟩
  clear this
  have vILEN : @Ne Nat I 147 := upd_ne (N (I, _) (by k_mem)).1 (N (147, _) (by k_mem)).1 (by rw [hoI]; simp)
  have vISTR : @Ne Nat I 154 := upd_ne (N (I, _) (by k_mem)).1 (N (154, _) (by k_mem)).1 (by rw [hoI]; simp)
  have vyLEN : @Ne Nat y 147 := upd_ne (N (y, _) (by k_mem)).1 (N (147, _) (by k_mem)).1 (by simp)
  have vySTR : @Ne Nat y 154 := upd_ne (N (y, _) (by k_mem)).1 (N (154, _) (by k_mem)).1 (by simp)
  have vtlLEN : @Ne Nat tl 147 := upd_ne (N (tl, _) (by k_mem)).1 (N (147, _) (by k_mem)).1 (by simp)
  have vtlSTR : @Ne Nat tl 154 := upd_ne (N (tl, _) (by k_mem)).1 (N (154, _) (by k_mem)).1 (by simp)
  have vdlLEN : @Ne Nat dl 147 := upd_ne (N (dl, _) (by k_mem)).1 (N (147, _) (by k_mem)).1 (by simp)
  have vdlSTR : @Ne Nat dl 154 := upd_ne (N (dl, _) (by k_mem)).1 (N (154, _) (by k_mem)).1 (by simp)
  have vrlLEN : @Ne Nat rl 147 := upd_ne (N (rl, _) (by k_mem)).1 (N (147, _) (by k_mem)).1 (by simp)
  have vrlSTR : @Ne Nat rl 154 := upd_ne (N (rl, _) (by k_mem)).1 (N (154, _) (by k_mem)).1 (by simp)
  have vtLEN : ∀ p ∈ tups, @Ne Nat p.1 147 := tups_off N jT (fun p hp => .tail _ (.tail _ (.tail _ (.tail _ (.tail _ (.tail _ (.tail _ hp))))))) (N (147, _) (by k_mem)).1 (by simp)
  have vtSTR : ∀ p ∈ tups, @Ne Nat p.1 154 := tups_off N jT (fun p hp => .tail _ (.tail _ (.tail _ (.tail _ (.tail _ (.tail _ (.tail _ hp))))))) (N (154, _) (by k_mem)).1 (by simp)
  have z1 : @Ne Nat tl dl := upd_ne (N (tl, _) (by k_mem)).1 (N (dl, _) (by k_mem)).1 (by simp)
  have z2 : @Ne Nat tl rl := upd_ne (N (tl, _) (by k_mem)).1 (N (rl, _) (by k_mem)).1 (by simp)
  have z4 : @Ne Nat tl 147 := upd_ne (N (tl, _) (by k_mem)).1 (N (147, _) (by k_mem)).1 (by simp)
  have z5 : @Ne Nat tl 154 := upd_ne (N (tl, _) (by k_mem)).1 (N (154, _) (by k_mem)).1 (by simp)
  have z3 : @Ne Nat tl y := upd_ne (N (tl, _) (by k_mem)).1 (N (y, _) (by k_mem)).1 (by simp)
  have z0 : @Ne Nat tl I := upd_ne (N (tl, _) (by k_mem)).1 (N (I, _) (by k_mem)).1 (by rw [hoI]; simp)
  have hrl := jR.length
  have hil := jP.length
  have hpl := jQ.length
  have hk1 : k + 1 < ns.length := (List.getElem?_eq_some_iff.mp hb).1
  have hfa5 : figs a ≤ 500 := by omega
  have hfb5 : figs b ≤ 500 := by omega
  have hfp5 : figs (a * b) ≤ 500 := by have := (figs_mul ha0 hb0).1; omega
  have z6 : ∀ p ∈ tups, @Ne Nat p.1 tl := tups_off N jT (fun p hp => .tail _ (.tail _ (.tail _ (.tail _ (.tail _ (.tail _ (.tail _ hp))))))) (N (tl, _) (by k_mem)).1 (by simp)
  obtain ⟨va, na, hva, hna, ta, rfl⟩ := two_has jR (i := k) (by omega)
  obtain ⟨vb, nb, hvb, hnb, tb, rfl⟩ := two_has jR (i := k + 1) hk1
  obtain rfl : na = a := Option.some.inj (hna.symm.trans ha)
  obtain rfl : nb = b := Option.some.inj (hnb.symm.trans hb)
  have hsz9 : rv.size ≤ sizeLine := by rw [sizeLine_eq, ← Array.length_toList]; omega
  have hsz8 : pv.toArray.size ≤ sizeLine := by rw [sizeLine_eq, List.size_toArray]; simp at hpl; omega
  have hk2 : (k : Int) + 2 = ((k + 2 : Nat) : Int) := by omega
  have hk3 : (k : Int) + 1 = ((k + 1 : Nat) : Int) := by omega
  have hk4 : (2 : Int) = ((2 : Nat) : Int) := rfl
  dsimp only [forBody, ifThen, ifElse, lawFor, lawDeed3, b286, s286, pick, List.drop]
  k_steps
  (with_reducible rename News _ _ _ _ => N4); (with_reducible rename Fr _ _ _ _ => F4)
  have hfp9 := (figs_mul ha0 hb0).1
  refine fall_c (fl := fellOf na nb) hprog (sub_fr F4 HG) X TR (by (repeat (with_reducible refine dep_lt ?_)); first | exact Nat.lt_of_lt_of_le hdp (Nat.le_of_ble_eq_true rfl) | omega | (simp only [depth_deeper, depth_in1, units_deeper, units_in1]; omega)) B (by (repeat (with_reducible refine uni_lt ?_)); first | exact Nat.lt_of_lt_of_le hun (Nat.le_of_ble_eq_true rfl) | omega | (simp only [depth_deeper, depth_in1, units_deeper, units_in1]; omega)) hh (jA.gens G0) (N4 (147, _) (by k_mem)).1 hP10 jp1 (N4 (154, _) (by k_mem)).1 hP20 jp2 (Nat.le_trans hszL (Nat.le_of_lt F4.ns.lt)) ha0 hb0 hfa hfb (by omega) (fellOf_rel ha0 hb0) (ords_left ha0 hb0) (ords_right ha0 hb0) ?_
  intro s4 qs1 qs2 Kp4 e14 jp3 e24 jp4
  obtain ⟨F4', N4'⟩ := step2 Kp4 F4 N4 (by k_upd) (by k_upd) e14 e24 (by decide)
  have jA4 : Acc s0 s4.os s4.drawn s4.gens := ⟨Kp4.os.trans jA.os, Kp4.drawn.trans jA.drawn, fun q => Kp4.gens (jA.gens q)⟩
  clear F4 N4
  iterate 19 (first | walk1 | (dsimp only; walk1))
  · rename_i hf9
    iterate 3 (first | walk1 | (dsimp only; walk1))
    (with_reducible rename News _ _ _ _ => N5); (with_reducible rename Fr _ _ _ _ => F5)
    refine deed3p_c (k := k) (a := na) (b := nb) (fa := fa + 1) (ns := ns) hprog X TR XG TG HG hdp hh jA4 F5 N5 hoI htl hdl hln ha0 hb0 hna hnb hfa hfb jT jK jP jQ jR jp3 jp4 (by walk_at "mine_var") (by walk_at "mine_var") (by walk_at "mine_var") (by walk_at "mine_var") (by walk_at "mine_var") (by walk_at "mine_var") ?_
    rw [hf9] at hQ
    exact hQ
  · rename_i hf9
    iterate 3 (first | walk1 | (dsimp only; walk1))
    (with_reducible rename News _ _ _ _ => N5); (with_reducible rename Fr _ _ _ _ => F5)
    refine deed3p_c (k := k) (a := na) (b := nb) (fa := fa + 0) (ns := ns) hprog X TR XG TG HG hdp hh jA4 F5 N5 hoI htl hdl hln ha0 hb0 hna hnb hfa hfb jT jK jP jQ jR jp3 jp4 (by walk_at "mine_var") (by walk_at "mine_var") (by walk_at "mine_var") (by walk_at "mine_var") (by walk_at "mine_var") (by walk_at "mine_var") ?_
    rw [hf9] at hQ
    exact hQ
end
/- D3e_1k -/
section
open PySem PySem.W PySem.Calls PyProof.Rows
theorem two_join {α β γ : Type} {R : α → β → Prop} {S : α → γ → Prop} {T : γ → β → Prop} (h : ∀ a b c, R a b → S a c → T c b) : ∀ {as : List α} {bs : List β} {cs : List γ}, Paired R as bs → Paired S as cs → Paired T cs bs
  | _, _, _, .nil, y => by cases y; exact .nil
  | _, _, _, .cons r x, y => by
    cases y with
    | cons s y => exact .cons (h _ _ _ r s) (two_join h x y)
theorem two_mem {α β : Type} {R : α → β → Prop} {a : α} : ∀ {as : List α} {bs : List β}, Paired R as bs → a ∈ as → ∃ b, b ∈ bs ∧ R a b
  | _, _, .nil, h => nomatch h
  | _, _, .cons r x, h => by
    rcases List.mem_cons.mp h with rfl | h
    · exact ⟨_, .head _, r⟩
    · obtain ⟨b, hb, q⟩ := two_mem x h
      exact ⟨b, .tail _ hb, q⟩
theorem made_pairs {h : Heap} {vs ys : List Value} {ns : List Nat} (x : NatsAre vs ns) (y : Paired (TupIs (fun v ws => ∀ (n : Nat) t, v = .int (n : Int) t → ∃ t' u', ws = #[.str (Str.ofString "") t', .str (dec n) u']) h) (vs.filter fun _ => true) ys) : Paired (PairAt h) ys ns := by
  rw [show vs.filter (fun _ => true) = vs from List.filter_eq_self.mpr fun _ _ => rfl] at y
  refine two_join (fun v n c r q => ?_) x y
  obtain ⟨t, rfl⟩ := r
  obtain ⟨T, ws, rfl, ⟨o, ho, hc, k, hd⟩, hG⟩ := q
  obtain ⟨t', u', rfl⟩ := hG n t rfl
  exact ⟨T, o, t', u', k, rfl, ho, hc, hd⟩
theorem elt_pair {prog : Program} {w : World} {A : Around} {E : Value → Shared → Prop} {s₂ : Shared} {scope : Scope} {C : Addr} {env : Env} {m₂ mg mb : Str → Option Value} {n k1 kt : Nat} {t : Tok} {q1 q2 q3 q4 q5 : Pos}
    (hn : s₂.heap.Ns C m₂) (hv : m₂ (Str.ofString "one") = some (.int ((n : Nat) : Int) t)) (hg : s₂.heap.Ns env.globals mg) (hmiss : mg (Str.ofString "str") = none) (hb : s₂.heap.Ns env.builtins mb) (hstr : mb (Str.ofString "str") = some (.type "str"))
    (hk : scope.kind = .function) (h1 : (compEnv scope C env).kindOf (Str.ofString "one") = some .local) (h2 : (compEnv scope C env).kindOf (Str.ofString "str") = some .globalImplicit) (hf : figs n ≤ 500) :
    wpAny (model prog w) A (eval (.Tuple [.Constant (.str (Str.ofString "")) k1 q1, .Call (.Name (Str.ofString "str") q2) [.Name (Str.ofString "one") q3] [] q4] kt q5) (compEnv scope C env))
      (fun y s₃ => (∃ T vs, y = .ref T ∧ s₂.heap.get? T = none ∧ s₃.heap.IsTuple T vs ∧ ∃ t' u', vs = #[.str (Str.ofString "") t', .str (dec n) u']) ∧ Keeps s₂ s₃) E s₂ := by
  iterate 5 walk1
  refine Name_function_global hk h2 (loadGlobal_builtin (env := compEnv scope C env) hg hmiss hb hstr ?_) (by decide)
  iterate 2 walk1
  refine wpAny_Name (wpAny_loadName_local hk h1 hn hv ?_) (by decide)
  refine PyProof.Rows.args_nil ?_
  refine str_of_nat hf ?_
  refine PyProof.Rows.args_nil ?_
  refine wpAny_newTuple ?_ (Nat.le_of_ble_eq_true rfl)
  refine ⟨⟨_, _, rfl, ?_, ⟨_, Heap.get?_push_size _ rfl, rfl, _, rfl⟩, _, _, rfl⟩, _, _, rfl, fun b o e => Heap.get?_push_of_some _ e⟩
  cases e : s₂.heap.get? s₂.heap.objs.size with
  | none => rfl
  | some o => exact absurd (Heap.lt_size e) (Nat.lt_irrefl _)
end
/- D3a_1k -/
section
open PySem PySem.W PySem.Calls PyProof.Rows
theorem deed3_c {prog : Program} {w : World} {A : Around} {s s0 : Shared} {kp : List (Addr × Obj)} {H₀ g : Heap} {L : Addr} {p : Program} {loose : List Str} {mg mb m : Str → Option Value} {Q : Flow → Shared → Prop} {bm : Addr} {ob : Obj} {I tl dl : Addr} {oI : Obj} {ns : List Nat} {sp fa x : Int} {k a b : Nat} {tx : Tok} {news : List (Addr × Obj)}
    (hprog : prog = PySem.Challenge.pw_yh0022_01)
    (X : (heapK w.params).In H₀) (TR : TopRead p loose mg mb H₀) (XG : (heapK w.params).In g) (TG : TopRead p loose mg mb g) (HG : Sub H₀ g) (B : BMod H₀ mainGlobals mg bm ob) (hdp : A.depth < 455) (hun : A.units < 1550) (hh : A.handled = none) (hszL : H₀.objs.size ≤ L)
    (J : LawJ w s0 kp tl dl ns sp fa m news s.os s.drawn s.gens) (F : Fr g L s.heap m) (N : News g L s.heap ((I, oI) :: news)) (hoff : ∀ p ∈ news, @Ne Nat p.1 I)
    (htl : H₀.get? tl = none) (hdl : H₀.get? dl = none) (hln : ns.length ≤ 30) (hsp : 0 ≤ sp ∧ sp ≤ 10000)
    (mx : m "x" = some (.int x tx)) (hk : (x.fdiv 3).fmod ((ns.length : Int) - 1) = (k : Int)) (hk1 : k + 1 < ns.length) (G0 : AllBare s0.gens) (hP10 : H₀.get? 147 = none) (hP20 : H₀.get? 154 = none) (hoI : oI.cls = .type "list_iterator")
    (ha0 : 0 < a) (hb0 : 0 < b) (ha : ns[k]? = some a) (hb : ns[k + 1]? = some b) (hfa : figs a ≤ 90) (hfb : figs b ≤ 90) (hfab : figs a + figs b ≤ 90) (hfs : ∀ n ∈ ns, figs n ≤ 500)
    (hQ : ∀ s' m' news', LawJ w s0 kp tl dl (mulAt ns k a b) sp (fa + if fellOf a b then 1 else 0) m' news' s'.os s'.drawn s'.gens → Fr g L s'.heap m' → News g L s'.heap ((I, oI) :: news') → Q .next s') :
    wpAny (model prog w) A (execs lawDeed3 (envX (Str.ofString "law") s286 L 286 (.ref 285) [])) Q NoE s := by
  have : PySem.Challenge.rw_yh0022_01.prog = PySem.Challenge.rw_yh0022_01.prog ∧ heapK = heapK := by k_fill; exact ⟨rfl, rfl⟩
  clear this
  obtain ⟨rl, rv, nn, items, n, t1, t2, tsp, tfa, ps1, ps2, tups, rfl, j1, j2, j3, j4, jT, jP, jR, jp1, jp2, jA, jK⟩ := J
  have z1 : @Ne Nat tl dl := upd_ne (N (tl, _) (by k_mem)).1 (N (dl, _) (by k_mem)).1 (by simp)
  have z2 : @Ne Nat tl rl := upd_ne (N (tl, _) (by k_mem)).1 (N (rl, _) (by k_mem)).1 (by simp)
  have z3 : @Ne Nat dl rl := upd_ne (N (dl, _) (by k_mem)).1 (N (rl, _) (by k_mem)).1 (by simp)
  have z4 : @Ne Nat tl 147 := upd_ne (N (tl, _) (by k_mem)).1 (N (147, _) (by k_mem)).1 (by simp)
  have z5 : @Ne Nat tl 154 := upd_ne (N (tl, _) (by k_mem)).1 (N (154, _) (by k_mem)).1 (by simp)
  have z6 : ∀ p ∈ tups, @Ne Nat p.1 tl := tups_off N jT (fun p hp => .tail _ (.tail _ (.tail _ (.tail _ (.tail _ (.tail _ hp)))))) (N (tl, _) (by k_mem)).1 (by simp)
  have z7 : @Ne Nat dl 147 := upd_ne (N (dl, _) (by k_mem)).1 (N (147, _) (by k_mem)).1 (by simp)
  have z8 : @Ne Nat dl 154 := upd_ne (N (dl, _) (by k_mem)).1 (N (154, _) (by k_mem)).1 (by simp)
  have z9 : ∀ p ∈ tups, @Ne Nat p.1 dl := tups_off N jT (fun p hp => .tail _ (.tail _ (.tail _ (.tail _ (.tail _ (.tail _ hp)))))) (N (dl, _) (by k_mem)).1 (by simp)
  simp only [List.forall_mem_cons] at hoff
  obtain ⟨y1, y2, y3, y4, y5, y6⟩ := hoff
  dsimp only [forBody, ifThen, ifElse, lawFor, lawDeed3, b286, s286, pick, List.drop]
  (try dsimp only)
  have hrl := jR.length
  have hil := jP.length
  have hrs : rv.size = ns.length := by rw [← Array.length_toList]; exact hrl
  have his : items.size = ns.length := by rw [← Array.length_toList]; exact hil
  have hsz9 : rv.size ≤ sizeLine := by rw [sizeLine_eq]; omega
  k_steps
  (with_reducible rename News _ _ _ _ => N1); (with_reducible rename Fr _ _ _ _ => F1)
  rw [hk] at F1
  dsimp only [List.append_nil]
  refine pc_c (c := (ns.length : Int)) hprog (sub_fr F1 HG) X TR (by (repeat (with_reducible refine dep_lt ?_)); first | exact Nat.lt_of_lt_of_le hdp (Nat.le_of_ble_eq_true rfl) | omega | (simp only [depth_deeper, depth_in1, units_deeper, units_in1]; omega)) (N1 (tl, _) (by k_mem)).1 (N1 (dl, _) (by k_mem)).1 (by omega) ?_
  intro s1 t1' Kp1
  obtain ⟨F1', N1'⟩ := step0 Kp1 F1 N1
  have jA1 : Acc s0 s1.os s1.drawn s1.gens := ⟨Kp1.os.trans jA.os, Kp1.drawn.trans jA.drawn, fun q => Kp1.gens (jA.gens q)⟩
  clear F1 N1
  k_steps
  · exfalso; omega
  (with_reducible rename News _ _ _ _ => N2); (with_reducible rename Fr _ _ _ _ => F2)
  refine popfrom_c (i := k) (sub_fr F2 HG) X TR (by (repeat (with_reducible refine dep_lt ?_)); first | exact Nat.lt_of_lt_of_le hdp (Nat.le_of_ble_eq_true rfl) | omega | (simp only [depth_deeper, depth_in1, units_deeper, units_in1]; omega)) (N2 (tl, _) (by k_mem)).1 (N2 (dl, _) (by k_mem)).1 htl hdl (by omega) (by omega) (.inl rfl) ?_
  intro s2 y2' ny2 n2 Kp2 e12 e22 e32
  obtain ⟨F2', N2'⟩ := step1 Kp2 F2 N2 (by k_upd) e32
  have w2 := allNe_of N2 e12
  have N3 := news_fresh Kp2 F2 N2' e12 e22
  have jA2 : Acc s0 s2.os s2.drawn s2.gens := ⟨Kp2.os.trans jA1.os, Kp2.drawn.trans jA1.drawn, fun q => Kp2.gens (jA1.gens q)⟩
  simp only [AllNe] at w2
  (repeat (obtain ⟨_, w2⟩ := w2))
  clear F2 N2 N2'
  dsimp only at N3
  iterate 6 (first | walk1 | (dsimp only; walk1))
  refine wpAny_ListComp_tup (fun _ => true) (fun v ws => ∀ (n : Nat) t, v = .int (n : Int) t → ∃ t' u', ws = #[.str (Str.ofString "") t', .str (dec n) u']) hh (by decide) (by decide) rfl (by decide) (by decide) ?_
  iterate 8 (first | walk1 | (dsimp only; walk1))
  (with_reducible rename News _ _ _ _ => N4); (with_reducible rename Fr _ _ _ _ => F4)
  have hmiss := mg_none_of X TR.g (n := Str.ofString "str") (by k_is)
  have hstr : mb (Str.ofString "str") = some (.type "str") := (TR.builtins _ (by decide)).trans (by boot_by_name)
  refine ⟨_, _, rfl, News.isList N4 (.head _), ?_, fun C v s5 m5 E5 hv hn hm hk5 => ?_, fun C v s5 m5 E5 hv _ hn hm hk5 => ?_, fun D5 h5 tk5 ys hD5 hl5 hP5 hk5 => ?_⟩
  · rw [List.size_toArray, List.length_drop, sizeLine_eq]; omega
  · exact wpAny_pure ⟨rfl, _, _, rfl, fun b o e => e⟩
  · obtain ⟨n5, hn5, t5, rfl⟩ := two_mem (two_drop jR k) (by simpa using hv)
    have up5 : ∀ b o, H₀.get? b = some o → s5.heap.get? b = some o := fun b o e => hk5 _ _ (F4.keep _ _ (HG _ _ e))
    refine wpAny_mono (elt_pair hn hm (TR.g.keeps up5) hmiss (TR.b.keeps up5) hstr rfl rfl rfl (hfs _ (List.mem_of_mem_drop hn5))) (fun y s6 h6 => ?_) fun _ _ e => e
    obtain ⟨⟨T, vs, e1, e2, e3, e4⟩, hk6⟩ := h6
    refine ⟨⟨T, vs, e1, e2, e3, fun n6 t6 h6 => ?_⟩, hk6⟩
    have : n5 = n6 := by injection h6 with h6; omega
    subst this
    exact e4
  · have F5 := F4.keeps hk5
    have N5 := N4.grown hk5
    have x5 := made_pairs (two_drop jR k) hP5
    obtain ⟨oD, hoD, hcD, kD, hdD⟩ := hl5
    refine ne_pairs (ns := ns.drop k) (N5 (y2', _) (by k_mem)).1 rfl rfl hoD hcD hdD (parts_pairs (fun p hp => (N5 p (by (repeat (first | exact hp | apply List.Mem.tail)))).1) (two_drop jP k)) x5 (by simp only [cLine]; omega) ?_
    clear F4 N4
    iterate 3 (first | walk1 | (dsimp only; walk1))
    dsimp only
    refine deed3b_c (k := k) (a := a) (b := b) (pv := List.drop k items.toList) (items := (List.take k items.toList).toArray) (tups := tups) (ns := ns) hprog X TR XG TG HG hdp hh B hun G0 hszL hP10 hP20 jA2 F5
      (news7T N5 (p := (I, oI)) (q := (y2', _)) (by k_mem) (by k_mem) (by k_mem) (by k_mem) (by k_mem) (by k_mem) (by k_mem) (fun p hp => by (repeat (first | exact hp | apply List.Mem.tail)))) hoI htl hdl hln ha0 hb0 ha hb hfa hfb hfab jT jK (two_take jP k) (two_drop jP k) jR jp1 jp2
      (by walk_at "mine_var") (by walk_at "mine_var") (by walk_at "mine_var") (by walk_at "mine_var") (by walk_at "mine_var") (by walk_at "mine_var") hQ
end
/- D4_1k -/
section
open PySem PySem.W PySem.Calls PyProof.Rows
theorem turn_c {prog : Program} {w : World} {A : Around} {s s0 : Shared} {kp : List (Addr × Obj)} {H₀ g : Heap} {L : Addr} {p : Program} {loose : List Str} {mg mb m : Str → Option Value} {Q : Flow → Shared → Prop} {bm : Addr} {ob : Obj} {I tl dl : Addr} {oI : Obj} {ns : List Nat} {sp fa x : Int} {i : Nat} {tx : Tok} {news : List (Addr × Obj)}
    (hprog : prog = PySem.Challenge.pw_yh0022_01)
    (X : (heapK w.params).In H₀) (TR : TopRead p loose mg mb H₀) (XG : (heapK w.params).In g) (TG : TopRead p loose mg mb g) (HG : Sub H₀ g) (B : BMod H₀ mainGlobals mg bm ob) (hdp : A.depth < 455) (hun : A.units < 1550) (hh : A.handled = none) (hszL : H₀.objs.size ≤ L)
    (J : LawJ w s0 kp tl dl ns sp fa m news s.os s.drawn s.gens) (F : Fr g L s.heap m) (N : News g L s.heap ((I, oI) :: news)) (hoff : ∀ p ∈ news, @Ne Nat p.1 I)
    (htl : H₀.get? tl = none) (hdl : H₀.get? dl = none) (hln : ns.length ≤ 20) (hsp : 0 ≤ sp) (hfa : 0 ≤ fa) (hpos : ∀ n ∈ ns, 0 < n) (hsum : sp + fa = (spareOf ns : Int)) (hfo : figsOf ns ≤ 4 * i) (hi : i ≤ 20)
    (mx : m "x" = some (.int x tx)) (hn0 : 0 < ns.length ∨ x % 3 = 1) (G0 : AllBare s0.gens) (hP10 : H₀.get? 147 = none) (hP20 : H₀.get? 154 = none) (hoI : oI.cls = .type "list_iterator")
    (hQ : ∀ s' m' news' ns' sp' fa', 0 ≤ sp' → 0 ≤ fa' → (∀ n ∈ ns', 0 < n) → sp' + fa' = (spareOf ns' : Int) → figsOf ns' ≤ 4 * (i + 1) → ns'.length = deedLen ns.length x → LawJ w s0 kp tl dl ns' sp' fa' m' news' s'.os s'.drawn s'.gens → Fr g L s'.heap m' → News g L s'.heap ((I, oI) :: news') → Q .next s') :
    wpAny (model prog w) A (execs lawFor (envX (Str.ofString "law") s286 L 286 (.ref 285) [])) Q NoE s := by
  have : PySem.Challenge.rw_yh0022_01.prog = PySem.Challenge.rw_yh0022_01.prog ∧ heapK = heapK := by k_fill; exact ⟨rfl, rfl⟩
  clear this
  have J0 := J
  obtain ⟨rl, rv, nn, items, n, t1, t2, tsp, tfa, ps1, ps2, tups, rfl, j1, j2, j3, j4, jT, jP, jR, jp1, jp2, jA, jK⟩ := J
  dsimp only [forBody, ifThen, ifElse, lawFor, lawDeed3, b286, s286, pick, List.drop]
  (try dsimp only)
  have hrl := jR.length
  have hrs : rv.size = ns.length := by rw [← Array.length_toList]; exact hrl
  have hsz9 : rv.size ≤ sizeLine := by rw [sizeLine_eq]; omega
  iterate 11 (first | walk1 | (dsimp only; walk1))
  · rename_i hx1
    obtain ⟨q, hq, hq9⟩ := fmod_nat (x.fdiv 3) (m := 9999) (by decide)
    have hf0 := figs_pos (n := q + 1) (by omega)
    have hf1 := figs_small (n := q + 1) (by omega)
    have hsl := spareOf_le ns
    refine deed1_c (q := q + 1) hprog X TR XG TG HG B (by omega) (by omega) hh hszL J0 (by k_asm) (by k_asm) hoff htl hdl (by omega) ⟨hsp, by omega⟩ mx (by omega) (by omega) (by omega) ?_
    intro s' m' news' J' F' N'
    refine wpAny_execs_nil ?_
    refine hQ s' m' news' _ _ _ (by omega) hfa (fun n hn => ?_) ?_ ?_ ?_ J' F' N'
    · rcases List.mem_append.mp hn with hn | hn
      · exact hpos n hn
      · rw [List.mem_singleton.mp hn]; omega
    · rw [spareOf_append]
      simp only [spareOf, List.map_cons, List.map_nil, List.sum_cons, List.sum_nil] at hsum ⊢
      omega
    · rw [figsOf_append]
      simp only [figsOf, List.map_cons, List.map_nil, List.sum_cons, List.sum_nil] at hfo ⊢
      omega
    · unfold deedLen
      rw [if_pos (by rw [fmod_three]; exact hx1)]; simp
  iterate 12 (first | walk1 | (dsimp only; walk1))
  · rename_i hx1 hx2
    have hn1 : 0 < ns.length := by rcases hn0 with h | h; exact h; rw [fmod_three] at h; omega
    obtain ⟨k, hk, hk1⟩ := fmod_nat (x.fdiv 3) (m := (ns.length : Int)) (by omega)
    refine deed2_c (k := k) hprog X TR XG TG HG B (by omega) (by omega) hh hszL J0 (by k_asm) (by k_asm) hoff htl hdl (by omega) ⟨hsp, by have := spareOf_le ns; omega⟩ mx hk (by omega) ?_
    intro s' m' news' J' F' N'
    refine wpAny_execs_nil ?_
    refine wpAny_execs_nil ?_
    refine hQ s' m' news' _ _ _ hsp hfa (fun n hn => ?_) (by rw [spareOf_rot]; exact hsum) (by rw [figsOf_rot]; omega) ?_ J' F' N'
    · rcases List.mem_append.mp hn with hn | hn
      · exact hpos n (List.mem_of_mem_drop hn)
      · exact hpos n (List.mem_of_mem_take hn)
    · unfold deedLen
      rw [if_neg (by rw [fmod_three]; omega), if_pos (by rw [fmod_three]; exact hx2), List.length_append, List.length_drop, List.length_take]; omega
  iterate 15 (first | walk1 | (dsimp only; walk1))
  · rename_i hx1 hx2 hx3
    have hx3' : 1 < ns.length := by omega
    obtain ⟨k, hk, hk1⟩ := fmod_nat (x.fdiv 3) (m := (ns.length : Int) - 1) (by omega)
    have hka : k < ns.length := by omega
    have hkb : k + 1 < ns.length := by omega
    have ha := List.getElem?_eq_getElem hka
    have hb := List.getElem?_eq_getElem hkb
    have ha0 := hpos _ (List.getElem_mem hka)
    have hb0 := hpos _ (List.getElem_mem hkb)
    have hab := figs_two ha hb
    have hfs : ∀ n ∈ ns, figs n ≤ 500 := fun n hn => by have := figs_le_of hn; omega
    refine deed3_c (k := k) (a := ns[k]) (b := ns[k + 1]) hprog X TR XG TG HG B (by omega) (by omega) hh hszL J0 (by k_asm) (by k_asm) hoff htl hdl (by omega) ⟨hsp, by have := spareOf_le ns; omega⟩ mx hk hkb G0 hP10 hP20 hoI ha0 hb0 ha hb (by omega) (by omega) (by omega) hfs ?_
    intro s' m' news' J' F' N'
    refine wpAny_execs_nil ?_
    refine wpAny_execs_nil ?_
    refine wpAny_execs_nil ?_
    refine hQ s' m' news' _ _ _ hsp (by split <;> omega) (fun n hn => ?_) ?_ (by have := figsOf_mul ha hb ha0 hb0; omega) ?_ J' F' N'
    · simp only [mulAt, List.mem_append, List.mem_singleton] at hn
      rcases hn with (hn | hn) | hn
      · exact hpos n (List.mem_of_mem_take hn)
      · rw [hn]; exact Nat.mul_pos ha0 hb0
      · exact hpos n (List.mem_of_mem_drop hn)
    · rw [spareOf_mul ha hb ha0 hb0 (fellOf_rel ha0 hb0)]
      split <;> omega
    · rw [mulAt_length ha hb]
      unfold deedLen
      rw [if_neg (by rw [fmod_three]; omega), if_neg (by rw [fmod_three]; omega), if_pos hx3']
  · rename_i hx1 hx2 hx3
    refine wpAny_execs_nil ?_
    refine wpAny_execs_nil ?_
    refine wpAny_execs_nil ?_
    refine wpAny_execs_nil ?_
    refine hQ _ _ _ ns sp fa hsp hfa hpos hsum (by omega) ?_ J0 (by k_asm) (by k_asm)
    unfold deedLen
    rw [if_neg (by rw [fmod_three]; omega), if_neg (by rw [fmod_three]; omega), if_neg (by omega)]
end
/- D5_1k -/
section
open PySem PySem.W PySem.Calls PyProof.Rows
theorem lawend_c {prog : Program} {w : World} {A : Around} {s s0 : Shared} {kp : List (Addr × Obj)} {H₀ g : Heap} {L : Addr} {p : Program} {loose : List Str} {mg mb m : Str → Option Value} {Q : Flow → Shared → Prop} {bm : Addr} {ob : Obj} {tl dl : Addr} {wh : Nat} {sp fa : Int} {news : List (Addr × Obj)}
    (hprog : prog = PySem.Challenge.pw_yh0022_01)
    (X : (heapK w.params).In H₀) (TR : TopRead p loose mg mb H₀) (XG : (heapK w.params).In g) (TG : TopRead p loose mg mb g) (HG : Sub H₀ g) (B : BMod H₀ mainGlobals mg bm ob) (hdp : A.depth < 455) (hun : A.units < 1550) (hh : A.handled = none) (hszL : H₀.objs.size ≤ L) (G0 : AllBare s0.gens)
    (J : LawJ w s0 kp tl dl [wh] sp fa m news s.os s.drawn s.gens) (F : Fr g L s.heap m) (N : News g L s.heap news)
    (htl : H₀.get? tl = none) (hdl : H₀.get? dl = none) (hP10 : H₀.get? 147 = none) (hP20 : H₀.get? 154 = none)
    (hw0 : 0 < wh) (hfw : figs wh ≤ 90) (hsum : sp + fa = (figs wh : Int) - 1)
    (hQ : ∀ s' m' qs1 qs2, Fr g L s'.heap m' → s'.heap.get? 147 = some (tabObj qs1) → s'.heap.get? 154 = some (tabObj qs2) → Acc s0 s'.os s'.drawn s'.gens → Q (.ret (.bool true)) s') :
    wpAny (model prog w) A (execs (b286.drop 5) (envX (Str.ofString "law") s286 L 286 (.ref 285) [])) Q NoE s := by
  have : PySem.Challenge.rw_yh0022_01.prog = PySem.Challenge.rw_yh0022_01.prog ∧ heapK = heapK := by k_fill; exact ⟨rfl, rfl⟩
  clear this
  obtain ⟨rl, rv, nn, items, n, t1, t2, tsp, tfa, ps1, ps2, tups, rfl, j1, j2, j3, j4, jT, jP, jR, jp1, jp2, jA, jK⟩ := J
  have z4 : @Ne Nat tl 147 := upd_ne (N (tl, _) (by k_mem)).1 (N (147, _) (by k_mem)).1 (by simp)
  have z5 : @Ne Nat tl 154 := upd_ne (N (tl, _) (by k_mem)).1 (N (154, _) (by k_mem)).1 (by simp)
  have z6 : @Ne Nat dl 147 := upd_ne (N (dl, _) (by k_mem)).1 (N (147, _) (by k_mem)).1 (by simp)
  have z7 : @Ne Nat dl 154 := upd_ne (N (dl, _) (by k_mem)).1 (N (154, _) (by k_mem)).1 (by simp)
  have z8 : @Ne Nat rl 147 := upd_ne (N (rl, _) (by k_mem)).1 (N (147, _) (by k_mem)).1 (by simp)
  have z9 : @Ne Nat rl 154 := upd_ne (N (rl, _) (by k_mem)).1 (N (154, _) (by k_mem)).1 (by simp)
  have y1 : ∀ p ∈ tups, @Ne Nat p.1 147 := tups_off N jT (fun p hp => .tail _ (.tail _ (.tail _ (.tail _ (.tail _ hp))))) (N (147, _) (by k_mem)).1 (by simp)
  have y2 : ∀ p ∈ tups, @Ne Nat p.1 154 := tups_off N jT (fun p hp => .tail _ (.tail _ (.tail _ (.tail _ (.tail _ hp))))) (N (154, _) (by k_mem)).1 (by simp)
  have hrl := jR.length
  have hil := jP.length
  have his : items.size = 1 := by rw [← Array.length_toList]; exact hil
  obtain ⟨v0, n0, hv0, hn0, tw, rfl⟩ := two_has jR (i := 0) (by simp)
  obtain rfl : wh = n0 := by simpa using hn0
  have hk0 : (0 : Int) = ((0 : Nat) : Int) := rfl
  have hfw5 : figs wh ≤ 500 := by omega
  dsimp only [forBody, ifThen, ifElse, lawFor, lawDeed3, b286, s286, pick, List.drop]
  k_steps
  refine item_list (k := 0) (its := rv) (News.isList (n := nn) N (by k_mem)) hk0 (by decide) hv0 ?_ (by with_unfolding_all rfl)
  k_steps
  (with_reducible rename News _ _ _ _ => N1); (with_reducible rename Fr _ _ _ _ => F1)
  dsimp only [List.append_nil]
  refine pc_c (c := 1) hprog (sub_fr F1 HG) X TR (by (repeat (with_reducible refine dep_lt ?_)); first | exact Nat.lt_of_lt_of_le hdp (Nat.le_of_ble_eq_true rfl) | omega | (simp only [depth_deeper, depth_in1, units_deeper, units_in1]; omega)) (N1 (tl, _) (by k_mem)).1 (N1 (dl, _) (by k_mem)).1 (by omega) ?_
  intro s1 t1' Kp1
  obtain ⟨F1', N1'⟩ := step0 Kp1 F1 N1
  have jA1 : Acc s0 s1.os s1.drawn s1.gens := ⟨Kp1.os.trans jA.os, Kp1.drawn.trans jA.drawn, fun q => Kp1.gens (jA.gens q)⟩
  clear F1 N1
  k_steps
  have hlw := dec_length hw0
  have he0 : (Str.ofString "").length = 0 := by decide +kernel
  have hsm : ∀ q ∈ [wh].map fun n => (Str.ofString "", dec n), q.1.length ≤ 1000 ∧ q.2.length ≤ 1000 := by
    intro q hq
    simp only [List.map_cons, List.map_nil, List.mem_singleton] at hq
    subst hq
    exact ⟨by show (Str.ofString "").length ≤ 1000; omega, by show (dec wh).length ≤ 1000; omega⟩
  (with_reducible rename News _ _ _ _ => N2); (with_reducible rename Fr _ _ _ _ => F2)
  refine kso_call (by simp only [units_in1, cLine]; omega) (XG.keeps F2.keep) (inst_news N2 (x := tl) (d := dl) (C := 185) (by k_mem) (by k_mem)) (by k_is) (by k_is) ?_
  refine str_c (parts := [wh].map fun n => (Str.ofString "", dec n)) (x := tl) (d := dl) (sub_fr F2 HG) X TR B (by simp only [depth_in1]; omega) (by simp only [units_in1]; omega) hh (jA1.gens G0) (N2 (154, _) (by k_mem)).1 hP20 jp2 (N2 (tl, _) (by k_mem)).1 (N2 (dl, _) (by k_mem)).1
    (parts_at (fun p hp => (N2 p (by (repeat (first | exact hp | apply List.Mem.tail)))).1) jP) hsm (by simp) ?_
  intro s2 t2' qs2 Kp2 e2 jp4
  obtain ⟨F2', N2'⟩ := step1 Kp2 F2 N2 (by k_upd) e2
  have jA2 : Acc s0 s2.os s2.drawn s2.gens := ⟨Kp2.os.trans jA1.os, Kp2.drawn.trans jA1.drawn, fun q => Kp2.gens (jA1.gens q)⟩
  clear F2 N2
  dsimp only [StrBack]
  rw [show ptext ([wh].map fun n => (Str.ofString "", dec n)) = dec wh from (ptext_one _ _).trans (emp_app _)]
  k_steps
  · exfalso
    (with_reducible rename (_ != _) = true => hz)
    simp only [bne_self_eq_false, Bool.false_eq_true] at hz
  have hpl : plen ([wh].map fun n => (Str.ofString "", dec n)) = (figs wh : Int) := by
    simp only [List.map_cons, List.map_nil]
    rw [plen_one, he0, hlw]; omega
  (with_reducible rename News _ _ _ _ => N3); (with_reducible rename Fr _ _ _ _ => F3)
  refine len_c (parts := [wh].map fun n => (Str.ofString "", dec n)) (x := tl) (d := dl) (sub_fr F3 HG) X TR B (by simp only [depth_in1]; omega) (by simp only [units_in1]; omega) hh (jA2.gens G0) (N3 (147, _) (by k_mem)).1 hP10 jp1 (N3 (tl, _) (by k_mem)).1 (N3 (dl, _) (by k_mem)).1
    (parts_at (fun p hp => (N3 p (by (repeat (first | exact hp | apply List.Mem.tail)))).1) jP) (fun q hq => by have := hsm q hq; omega) ?_
  intro s3 t3' qs3 Kp3 e3 jp3
  obtain ⟨F3', N3'⟩ := step1 Kp3 F3 N3 (by k_upd) e3
  have jA3 : Acc s0 s3.os s3.drawn s3.gens := ⟨Kp3.os.trans jA2.os, Kp3.drawn.trans jA2.drawn, fun q => Kp3.gens (jA2.gens q)⟩
  clear F3 N3
  rw [hpl]
  dsimp only [W.LenBack]
  refine ⟨⟨by omega, by omega⟩, ?_⟩
  k_steps
  (with_reducible rename News _ _ _ _ => N4); (with_reducible rename Fr _ _ _ _ => F4)
  refine figures_c (sub_fr F4 HG) X TR (by (repeat (with_reducible refine dep_lt ?_)); first | exact Nat.lt_of_lt_of_le hdp (Nat.le_of_ble_eq_true rfl) | omega | (simp only [depth_deeper, depth_in1, units_deeper, units_in1]; omega)) hh ?_
  intro s4 t4' Kp4
  obtain ⟨F4', N4'⟩ := step0 Kp4 F4 N4
  have jA4 : Acc s0 s4.os s4.drawn s4.gens := ⟨Kp4.os.trans jA3.os, Kp4.drawn.trans jA3.drawn, fun q => Kp4.gens (jA3.gens q)⟩
  clear F4 N4
  k_steps
  · exfalso; omega
  (with_reducible rename News _ _ _ _ => N5); (with_reducible rename Fr _ _ _ _ => F5)
  refine figures_c (sub_fr F5 HG) X TR (by (repeat (with_reducible refine dep_lt ?_)); first | exact Nat.lt_of_lt_of_le hdp (Nat.le_of_ble_eq_true rfl) | omega | (simp only [depth_deeper, depth_in1, units_deeper, units_in1]; omega)) hh ?_
  intro s5 t5' Kp5
  obtain ⟨F5', N5'⟩ := step0 Kp5 F5 N5
  have jA5 : Acc s0 s5.os s5.drawn s5.gens := ⟨Kp5.os.trans jA4.os, Kp5.drawn.trans jA4.drawn, fun q => Kp5.gens (jA4.gens q)⟩
  clear F5 N5
  k_steps
  (with_reducible rename News _ _ _ _ => N6); (with_reducible rename Fr _ _ _ _ => F6)
  rw [show (fa == (figs wh : Int) - 1 - sp) = true from beq_iff_eq.mpr (by omega)]
  exact hQ _ _ _ _ F6 (N6 (147, _) (by k_mem)).1 (N6 (154, _) (by k_mem)).1 jA5
end
/- D6_1k -/
section
open PySem PySem.W PySem.Calls PyProof.Rows
noncomputable abbrev NumsAre (vs : List Value) (xs : List Int) : Prop := Paired (fun v x => ∃ t, v = .int x t) vs xs
theorem nums_of {vs : List Value} {xs : List Int} (h : IntsAre vs xs) : NumsAre vs xs := by
  induction h with
  | nil => exact .nil
  | cons a t _ ih => exact .cons ⟨_, rfl⟩ ih
theorem news_cons {g h : Heap} {L a : Addr} {o o' : Obj} {l : List (Addr × Obj)} (N : News g L h l) (q : (a, o) ∈ l) (e : h.get? a = some o') : News g L h ((a, o') :: l) := fun p hp => by
  rcases List.mem_cons.mp hp with rfl | hp
  · exact ⟨e, (N _ q).2⟩
  · exact N _ hp
section
variable {w : World} {s0 : Shared} {kp : List (Addr × Obj)} {tl dl : Addr} {ns : List Nat} {sp fa : Int} {m : Str → Option Value} {news : List (Addr × Obj)} {os : OsState} {dr : Drawn} {gens : Array GenState}
theorem lawJ_store {m' : Str → Option Value} (J : LawJ w s0 kp tl dl ns sp fa m news os dr gens) (h : ∀ y : Str, y ≠ Str.ofString "x" → m' y = m y) : LawJ w s0 kp tl dl ns sp fa m' news os dr gens := by
  obtain ⟨rl, rv, nn, items, n, t1, t2, tsp, tfa, ps1, ps2, tups, e, m1, m2, m3, m4, r⟩ := J
  exact ⟨rl, rv, nn, items, n, t1, t2, tsp, tfa, ps1, ps2, tups, e, (h _ (by decide)).trans m1, (h _ (by decide)).trans m2, (h _ (by decide)).trans m3, (h _ (by decide)).trans m4, r⟩
theorem lawJ_has (J : LawJ w s0 kp tl dl ns sp fa m news os dr gens) : ∀ p ∈ kp, p ∈ news := by
  obtain ⟨rl, rv, nn, items, n, t1, t2, tsp, tfa, ps1, ps2, tups, rfl, m1, m2, m3, m4, _, _, _, _, _, _, jK⟩ := J
  exact fun p hp => .tail _ (.tail _ (.tail _ (.tail _ (.tail _ (jK p hp)))))
theorem lawJ_off {g h : Heap} {L I : Addr} {oI : Obj} (J : LawJ w s0 kp tl dl ns sp fa m news os dr gens) (N : News g L h ((I, oI) :: news)) (hoI : oI.cls = .type "list_iterator") : ∀ p ∈ news, @Ne Nat p.1 I := by
  intro p hp
  refine upd_ne (N p (.tail _ hp)).1 (N (I, oI) (.head _)).1 ?_
  rw [hoI]
  obtain ⟨rl, rv, nn, items, n, t1, t2, tsp, tfa, ps1, ps2, tups, rfl, m1, m2, m3, m4, jT, _⟩ := J
  simp only [List.mem_cons] at hp
  rcases hp with rfl | rfl | rfl | rfl | rfl | hp
  · simp
  · simp
  · simp
  · simp
  · simp
  · rcases jT p hp with e | e <;> rw [e] <;> simp
end
theorem lenAt_le (xs : List Int) : ∀ i, lenAt xs i ≤ i := by
  intro i
  unfold lenAt
  have := @fold_le (xs.take i) 0
  have h2 : (xs.take i).length ≤ i := by rw [List.length_take]; omega
  omega
theorem law_start {ys : List Int} {i : Nat} {x : Int} (hx : (lawList ys)[i]? = some x) : 0 < lenAt (lawList ys) i ∨ x % 3 = 1 := by
  cases i with
  | zero =>
    refine .inr ?_
    have : (lawList ys)[0]? = some 73 := rfl
    rw [this] at hx
    cases hx
    decide
  | succ i => exact .inl (lenAt_pos (Nat.succ_pos i))
end
/- DL_1k -/
section
open PySem PySem.W PySem.Calls PyProof.Rows
theorem law_c {prog : Program} {w : World} {A : Around} {s s0 : Shared} {H₀ g : Heap} {L : Addr} {p : Program} {loose : List Str} {mg mb m : Str → Option Value} {Q : Flow → Shared → Prop} {bm : Addr} {ob : Obj} {sc : Addr} {vs : List Value} {xs : List Int} {ps1 ps2 : Array Value}
    (hprog : prog = PySem.Challenge.pw_yh0022_01)
    (X : (heapK w.params).In H₀) (TR : TopRead p loose mg mb H₀) (XG : (heapK w.params).In g) (TG : TopRead p loose mg mb g) (HG : Sub H₀ g) (B : BMod H₀ mainGlobals mg bm ob) (hdp : A.depth < 455) (hun : A.units < 1550) (hh : A.handled = none) (hszL : H₀.objs.size ≤ L)
    (jA : Acc s0 s.os s.drawn s.gens) (G0 : AllBare s0.gens) (F : Fr g L s.heap m) (N : News g L s.heap [((147 : Addr), tabObj ps1), ((154 : Addr), tabObj ps2)])
    (hP10 : H₀.get? 147 = none) (ht1 : TriplesOk ps1.toList) (hP20 : H₀.get? 154 = none) (ht2 : TriplesOk ps2.toList)
    (hsc : g.IsList sc vs.toArray) (hI : IntsAre vs xs) (hlx : xs.length ≤ 63) (m1 : m "script" = some (.ref sc))
    (hQ : ∀ s' m' qs1 qs2, Fr g L s'.heap m' → s'.heap.get? 147 = some (tabObj qs1) → s'.heap.get? 154 = some (tabObj qs2) → Acc s0 s'.os s'.drawn s'.gens → Q (.ret (.bool true)) s') :
    wpAny (model prog w) A (execs b286 (envX (Str.ofString "law") s286 L 286 (.ref 285) [])) Q NoE s := by
  have : PySem.Challenge.rw_yh0022_01.prog = PySem.Challenge.rw_yh0022_01.prog ∧ heapK = heapK := by k_fill; exact ⟨rfl, rfl⟩
  clear this
  dsimp only [forBody, ifThen, ifElse, lawFor, lawDeed3, b286, s286, pick, List.drop]
  (try dsimp only)
  have hvl : vs.length = xs.length := hI.length
  have hk7 : (7 : Int) = ((7 : Nat) : Int) := rfl
  have hsz9 : vs.toArray.size ≤ sizeLine := by rw [sizeLine_eq, List.size_toArray]; omega
  k_steps
  (with_reducible rename News _ _ _ _ => N1); (with_reducible rename Fr _ _ _ _ => F1)
  dsimp only [List.append_nil]
  refine acc_make (isz := 0) (u := 0) hprog (sub_fr F1 HG) X TR (by (repeat (with_reducible refine dep_lt ?_)); first | exact Nat.lt_of_lt_of_le hdp (Nat.le_of_ble_eq_true rfl) | omega | (simp only [depth_deeper, depth_in1, units_deeper, units_in1]; omega)) (Nat.le_trans hszL (Nat.le_of_lt F1.ns.lt)) (.inr ⟨rfl, rfl⟩) ?_
  intro s1 tl dl u1 u2 Kp1 e1 e2 e3 e4
  obtain ⟨F1', N1'⟩ := step0 Kp1 F1 N1
  have N2 := news_fresh Kp1 F1 (news_fresh Kp1 F1 N1' e2 e4) e1 e3
  have a1 := allNe_of N1 e1
  have a2 := allNe_of N1 e2
  simp only [AllNe, and_true] at a1 a2
  obtain ⟨_, a1⟩ := a1
  obtain ⟨_, a2⟩ := a2
  have a3 : @Ne Nat tl dl := upd_ne e3 e4 (by simp)
  have jA1 : Acc s0 s1.os s1.drawn s1.gens := ⟨Kp1.os.trans jA.os, Kp1.drawn.trans jA.drawn, fun q => Kp1.gens (jA.gens q)⟩
  have no : ∀ b, s.heap.get? b = none → H₀.get? b = none := fun b e => by
    cases q : H₀.get? b with
    | none => rfl
    | some o => rw [sub_fr F1 HG b o q] at e; cases e
  have htl := no _ e1
  have hdl := no _ e2
  clear F1 N1 N1'
  k_steps
  (with_reducible rename News _ _ _ _ => N3); (with_reducible rename Fr _ _ _ _ => F3)
  refine kmk_add_lit F3 N3 (News.isList N3 (by k_mem)) (News.isList N3 (by k_mem)) rfl ?_ (by simp [sizeLine_eq]; omega)
  intro D h4 F4 N4 l4
  clear F3 N3
  refine iter_list_own F4 N4 (News.isList N4 (by k_mem)) ?_
  intro I h5 oI0 hI0 F5 N5 hoff5 k5
  clear F4 N4
  obtain ⟨its, hits, hnum⟩ : ∃ its : Array Value, h5.get? D = some (listOf its 0) ∧ NumsAre its.toList (lawList (xs.take 7)) :=
    ⟨_, (N5 (D, listOf _ _) (.tail _ (.head _))).1, two_append (two_append (.cons ⟨_, rfl⟩ (.cons ⟨_, rfl⟩ (.cons ⟨_, rfl⟩ .nil))) (nums_of (hI.take 7))) (.cons ⟨_, rfl⟩ (.cons ⟨_, rfl⟩ (.cons ⟨_, rfl⟩ (.cons ⟨_, rfl⟩ (.cons ⟨_, rfl⟩ (.cons ⟨_, rfl⟩ (.cons ⟨_, rfl⟩ (.cons ⟨_, rfl⟩ (.cons ⟨_, rfl⟩ .nil)))))))))⟩
  have N6 := news_cons N5 (.tail _ (.head _)) hits
  have hlen := hnum.length
  rw [lawList_length, List.length_take] at hlen
  have hls : its.size = (lawList (xs.take 7)).length := by rw [← Array.length_toList, hnum.length]
  obtain ⟨news, J, N7⟩ := lawJ_mk (kp := [(D, listOf its 0)]) (tups := [(D, listOf its 0)]) (I := I) (oI := oI0) (tl := tl) (dl := dl) (rv := #[]) (items := #[]) (ns := []) (sp := 0) (fa := 0) (w := w) N6 F5 .nil .nil (List.forall_mem_singleton.mpr (.inr rfl)) ht1 ht2 jA1 (fun p hp => hp)
    (by k_mem) (by k_mem) (by k_mem) (by k_mem) (by k_mem) (by k_mem) (List.forall_mem_singleton.mpr (.head _)) (by walk_at "mine_var") (by walk_at "mine_var") (by walk_at "mine_var") (by walk_at "mine_var")
  clear N5 N6
  refine for_list_invN (items := its) hh (fun i m' news' s' => ∃ ns sp fa, 0 ≤ sp ∧ 0 ≤ fa ∧ (∀ n ∈ ns, 0 < n) ∧ sp + fa = (spareOf ns : Int) ∧ figsOf ns ≤ 4 * i ∧ ns.length = lenAt (lawList (xs.take 7)) i ∧ LawJ w s0 [(D, listOf its 0)] tl dl ns sp fa m' news' s'.os s'.drawn s'.gens)
    (fun i m' news' s' h' q => q) (fun i m' news' s' h' q N => ?_) (fun i v m' news' s' tk' I3 oI3 hv q hI3 F3 N3 hoff3 => ?_) (fun m' news' s' q F3 N3 => ?_) (Nat.zero_le _) hI0
    ⟨[], 0, 0, Int.le_refl _, Int.le_refl _, (fun n hn => nomatch hn), rfl, Nat.zero_le _, lenAt_zero.symm, J⟩ F5 N7 (lawJ_off J N7 hI0.1)
  · obtain ⟨_, _, _, _, _, _, _, _, _, J'⟩ := q
    exact News.isList N (lawJ_has J' _ (.head _))
  · obtain ⟨ns, sp, fa, r1, r2, r3, r4, r5, r6, J'⟩ := q
    have hi3 : i < its.size := (Array.getElem?_eq_some_iff.mp hv).1
    obtain ⟨v0, x, hv0, hx, tx, rfl⟩ := two_has hnum (i := i) (by rw [← hls]; exact hi3)
    obtain rfl := Option.some.inj (hv0.symm.trans (by simpa using hv))
    have hle := lenAt_le (lawList (xs.take 7)) i
    rw [lawList_length, List.length_take] at hls
    refine wpAny_assign_Name ?_
    walk1
    (with_reducible rename News _ _ _ _ => N4); (with_reducible rename Fr _ _ _ _ => F4)
    have J4 := lawJ_store (m' := fun y => if y = Str.ofString "x" then some (.int x tx) else m' y) J' fun y hy => if_neg hy
    refine turn_c (x := x) (i := i) (ns := ns) hprog X TR XG TG HG B hdp hun hh hszL J4 F4 N4 (lawJ_off J4 N4 hI3.1) htl hdl (by omega) r1 r2 r3 r4 r5 (by omega) (by walk_at "mine_var") (by rw [r6]; exact law_start hx) G0 hP10 hP20 hI3.1 ?_
    intro s5 m5 news5 ns5 sp5 fa5 b1 b2 b3 b4 b5 b6 J5 F5' N5'
    refine ⟨m5, news5, ⟨ns5, sp5, fa5, b1, b2, b3, b4, b5, ?_, J5⟩, F5', N5', lawJ_off J5 N5' hI3.1⟩
    rw [b6, r6, lenAt_succ hx]
  · obtain ⟨ns, sp, fa, r1, r2, r3, r4, r5, r6, J'⟩ := q
    rw [hls, lenAt_end (by rw [List.length_take]; omega)] at r6
    rw [hls, lawList_length, List.length_take] at r5
    obtain ⟨wh, rfl⟩ := List.length_eq_one_iff.mp r6
    have hw0 := r3 wh (.head _)
    have hfw := figs_le_of (List.mem_singleton_self wh)
    have hsp : spareOf [wh] = figs wh - 1 := by simp [spareOf]
    have hf0 := figs_pos hw0
    refine wpAny_execs_nil ?_
    refine lawend_c (wh := wh) (sp := sp) (fa := fa) hprog X TR XG TG HG B hdp hun hh hszL G0 J' F3 N3 htl hdl hP10 hP20 hw0 (by omega) (by omega) hQ
end
/- D7_1k -/
section
open PySem PySem.W PySem.Calls PyProof.Rows
section
variable {h : Heap} {ts : List Addr}
theorem not_tab (ht : ∀ t ∈ ts, h.get? t = some (tabObj #[])) {b : Addr} {o : Obj} (e : h.get? b = some o) (hne : o ≠ tabObj #[]) : b ∉ ts := fun q => by
  have := ht b q
  rw [e] at this
  exact hne (Option.some.inj this)
theorem ns_hide (ht : ∀ t ∈ ts, h.get? t = some (tabObj #[])) {a : Addr} {m : Str → Option Value} (n : h.Ns a m) : (hideAll h ts).Ns a m := by
  obtain ⟨o, es, ep, e, hd, r⟩ := n
  exact ⟨o, es, ep, hideAll_get _ e (not_tab ht e fun q => by rw [q] at hd; cases hd), hd, r⟩
theorem top_hide (ht : ∀ t ∈ ts, h.get? t = some (tabObj #[])) {p : Program} {loose : List Str} {mg mb : Str → Option Value} (T : TopRead p loose mg mb h) : TopRead p loose mg mb (hideAll h ts) := by
  obtain ⟨mc, hc, hl⟩ := T.nolimit
  exact ⟨ns_hide ht T.g, ns_hide ht T.b, ⟨mc, ns_hide ht hc, hl⟩, T.builtins, T.free⟩
theorem bmod_hide (ht : ∀ t ∈ ts, h.get? t = some (tabObj #[])) {g bm : Addr} {mg : Str → Option Value} {ob : Obj} (B : BMod h g mg bm ob) : BMod (hideAll h ts) g mg bm ob :=
  ⟨ns_hide ht B.ns, B.name, B.ne, hideAll_get _ B.obj (not_tab ht B.obj fun q => by have := B.cls; rw [q] at this; cases this), B.cls, B.dict, B.data⟩
theorem list_hide (ht : ∀ t ∈ ts, h.get? t = some (tabObj #[])) {l : Addr} {items : Array Value} (L : h.IsList l items) : (hideAll h ts).IsList l items := by
  obtain ⟨o, e, hc, r⟩ := L
  exact ⟨o, hideAll_get _ e (not_tab ht e fun q => by rw [q] at hc; cases hc), hc, r⟩
theorem frag_hide {K : Frag} (X : K.In h) (hk : ∀ t ∈ ts, K.lookup t = none) : K.In (hideAll h ts) := fun a o e => hideAll_get _ (X a o e) fun q => by rw [hk a q] at e; cases e
theorem fr_hide {L : Addr} {h' : Heap} {m : Str → Option Value} (F : Fr h L h' m) : Fr (hideAll h ts) L h' m := ⟨F.ns, fun b o e => F.keep b o (of_hideAll _ e), Nat.le_trans (Nat.le_of_eq (hideAll_size _ _)) F.above⟩
theorem news_hide {L : Addr} {h' : Heap} {m : Str → Option Value} (F : Fr h L h' m) (hts : ts = [(147 : Addr), 154]) (ht : ∀ t ∈ ts, h.get? t = some (tabObj #[])) (hL : L = h.objs.size) : News (hideAll h ts) L h' [((147 : Addr), tabObj #[]), ((154 : Addr), tabObj #[])] := by
  subst hts
  intro p hp
  have key : ∀ t ∈ [(147 : Addr), 154], h'.get? t = some (tabObj #[]) ∧ t ≠ L ∧ (hideAll h [(147 : Addr), 154]).get? t = none := fun t q =>
    ⟨F.keep _ _ (ht t q), fun e => by have := Heap.lt_size (ht t q); rw [e, hL] at this; exact Nat.lt_irrefl _ this, hideAll_none _ q⟩
  simp only [List.mem_cons, List.not_mem_nil, or_false] at hp
  rcases hp with rfl | rfl
  · exact key _ (by simp)
  · exact key _ (by simp)
theorem good_end {s₁ s' : Shared} {c : ClaimW} {cl : Str → Option Addr} {mean : ExcName → Option Value} {args : List WData} {L : Addr} {m' : Str → Option Value} {ps1 ps2 : Array Value} (hT : TabsAt [((151 : Addr), (147 : Addr)), (158, 154)] s₁.heap) (hr : ∀ cls, c.raises args cls = false) (hp : c.post args (.bool true) args = true)
    (F : Fr (hideAll s₁.heap [(147 : Addr), 154]) L s'.heap m') (e1 : s'.heap.get? 147 = some (tabObj ps1)) (e2 : s'.heap.get? 154 = some (tabObj ps2)) (hos : s'.os = s₁.os) (hg : AllBare s'.gens) : GoodWG c cl mean args s₁ (.ok (.ret (.bool true))) s' := by
  have key : ∀ b o, s₁.heap.get? b = some o → s'.heap.get? b = some o ∨ (isCodeTable s₁.heap b ∧ o = tabObj #[] ∧ ∃ ps, s'.heap.get? b = some (tabObj ps)) := by
    intro b o e
    by_cases hb : b ∈ [(147 : Addr), 154]
    · refine .inr ?_
      simp only [List.mem_cons, List.not_mem_nil, or_false] at hb
      rcases hb with rfl | rfl
      · have q := hT (151, 147) (by simp)
        exact ⟨(q.1.tab q.2).isCodeTable, Option.some.inj (e.symm.trans q.2), _, e1⟩
      · have q := hT (158, 154) (by simp)
        exact ⟨(q.1.tab q.2).isCodeTable, Option.some.inj (e.symm.trans q.2), _, e2⟩
    · exact .inl (F.keep _ _ (hideAll_get _ e hb))
  refine ⟨.inl ⟨.bool true, .bool true, [], rfl, hr, .bool _, hp, fun _ => ⟨.nil, fun a ha => nomatch ha⟩⟩, ⟨fun b o e => ?_, fun b o e => ?_⟩, hos, hg⟩
  · rcases key b o e with h | ⟨h1, rfl, ps, h2⟩
    · exact .inl h
    · exact .inr (.inl ⟨h1, rfl, #[], ps, rfl, by simpa using h2⟩)
  · rcases key b o e with h | ⟨_, _, ps, h2⟩
    · exact ⟨_, h⟩
    · exact ⟨_, h2⟩
end
theorem post_ok (args ds : List WData) : PySem.Challenge.rw_yh0022_01.row.claim.post args (.bool true) ds = true := by kernel_rfl
end
end Mine
/- TOP -/
open Mine
theorem PySem.Challenge.cw_yh0022_01_holds : PySem.Challenge.rw_yh0022_01.Holds := by
  w_on
  refine holds_law saidK fun said => ?_
  refine holds_open (q := viewK) (loose := [Str.ofString "_Accumulator"]) (Xt := fun s => xlAt viewK [] s && recOk (RowW.records PySem.Challenge.rw_yh0022_01.row.toRowW) s) (XP := XL viewK []) (Yf := Hook.obs HK) (Ya := Hook.val HK) (YP := Hook.says HK) (N := 3522) leftK (Hook.of HK) (Hook.keeps HK) (fun s e => xl_of s (Bool.and_eq_true_iff.mp e).1) XL.keeps (by rfl) (by rfl) (by rfl) (fun s e => recFacts_of (Bool.and_eq_true_iff.mp e).2) (by rfl) (by first | assumption | decide +kernel) (by decide +kernel) ⟨rfl, rfl, rfl, rfl, rfl, by decide +kernel⟩ ?hw ?hc
  case hw => w_witness2
  case hc =>
    have hreg : PySem.Challenge.rw_yh0022_01.prog = PySem.Challenge.rw_yh0022_01.prog ∧ heapK = heapK := by k_fill; exact ⟨rfl, rfl⟩
    clear hreg
    intro w s₀ s₁ mg mb G Y fa o pm cd doc dV kV ho hd hcd hD hmg hg args vals as hpre hlay hrd hwl hlo
    have KX := km_in_of Y
    have KT := km_tabs_of Y
    have TT : s₁.heap.Ns mainGlobals mg := Ground.open G fun T _ _ _ _ => T.g
    have e1 := mg_of KX TT (n := Str.ofString "law") (v := .ref 286) (by k_is)
    obtain rfl : 286 = fa := Value.ref.inj (Option.some.inj (e1.symm.trans hmg))
    have e2 := KX 286 _ (by k_is)
    have e3 := Option.some.inj (ho.symm.trans e2)
    have e4 : cd = .ref 285 := by
      rw [e3] at hd
      exact (congrArg FuncData.code (Data.func.inj hd)).symm
    subst e4
    have X := (Ground.X G).1
    refine Ground.open G ?_
    intro T B D TE TW
    try (refine guard_noD D (by decide +kernel) ?_; clear D)
    obtain ⟨_, _, M⟩ := bmod_of_top T
    clear hmg
    wrow_args hpre hlay hrd hwl hlo
    first | refine callC_kw (enter_call ?_) | refine enter_call ?_ | refine callC_kw (enter_callW ?_) | refine enter_callW ?_
    w_top on
    have K0 := below_caller (Top.heap T)
    w_call any ho hd hcd hD T F
    clear hd
    k_drop
    (with_reducible rename Fr _ _ _ _ => F1); (with_reducible rename Top _ _ _ _ _ _ => T1); (with_reducible rename BMod _ _ _ _ _ => M1); (with_reducible rename IntsAre _ _ => I1); (with_reducible rename Heap.IsList _ _ _ => L1)
    have hK : ∀ t ∈ [(147 : Addr), 154], (heapK w.params).lookup t = none := by
      intro t ht
      simp only [List.mem_cons, List.not_mem_nil, or_false] at ht
      rcases ht with rfl | rfl <;> kernel_rfl
    refine wpAny_mono (law_c (p := _) (loose := _) (mg := mg) (mb := mb) (Q := fun fl s' => fl = .ret (.bool true) ∧ ∃ m' q1 q2, Fr (hideAll s₁.heap [(147 : Addr), 154]) s₁.heap.objs.size s'.heap m' ∧ s'.heap.get? 147 = some (tabObj q1) ∧ s'.heap.get? 154 = some (tabObj q2) ∧ s'.os = s₁.os ∧ AllBare s'.gens) (H₀ := hideAll s₁.heap [(147 : Addr), 154]) (g := hideAll s₁.heap [(147 : Addr), 154]) (L := s₁.heap.objs.size) rfl (frag_hide KX hK) (top_hide KT (topRead_of T1)) (frag_hide KX hK) (top_hide KT (topRead_of T1)) (fun b o e => e) (bmod_hide KT M1) ?dp ?un ?hh (Nat.le_of_eq (hideAll_size _ _)) ⟨rfl, rfl, id⟩ ?G0 (fr_hide F1) (news_hide F1 rfl KT rfl) (hideAll_none _ (by simp)) ?t1 (hideAll_none _ (by simp)) ?t2 (list_hide KT L1) I1 (by omega) rfl ?q) ?fin ?no
    case dp => rw [depth_deeper]; decide
    case un => rw [units_deeper]; decide
    case hh => rfl
    case G0 => exact AllBare.of_eq hg
    case t1 => simp [TriplesOk]
    case t2 => simp [TriplesOk]
    case q => exact fun s' m' q1 q2 F' e1 e2 A' => ⟨rfl, m', q1, q2, F', e1, e2, A'.os, A'.gens (AllBare.of_eq hg)⟩
    case no => exact fun _ _ h => h.elim
    case fin =>
      rintro fl s' ⟨rfl, m', q1, q2, F', e1, e2, h3, h4⟩
      exact good_end (List.forall_mem_cons.mpr ⟨⟨codeHd_of_K (c := 151) (P := 147) KX (by kernel_rfl), KT _ (by simp)⟩, List.forall_mem_cons.mpr ⟨⟨codeHd_of_K (c := 158) (P := 154) KX (by kernel_rfl), KT _ (by simp)⟩, List.forall_mem_nil _⟩⟩) (fun _ => rfl) (post_ok _ _) F' e1 e2 h3 h4
